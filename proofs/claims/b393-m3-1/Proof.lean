import JvmDerived
import JvmDerived.Pilot.@@N@@Statement
import JvmDerived.Pilot.@@N@@Code
set_option linter.unusedVariables false
set_option linter.unusedSimpArgs false
set_option maxRecDepth 65536
set_option maxHeartbeats 40000000
namespace Jvm.RoadKit
open Sem ClassFile Op Lib Jvm.Stand Jvm.Free Jvm.LawKit
section New
variable {p : Program} {l : Launch} {e : Env} {R : Room} {s : State} {m : MethodId} {args : Array Value} {below : List Frame} {meth : Method} {c : Code} {T : State} {locs : List Loc} {cells slots : Nat}
theorem retI (X : Stand p l e R s m args below meth c T locs cells slots) (hx : p.tables.exec = Jvm.exec) {pc : Nat} {Ls : Array Slot} {z : Int32} {rest : List Value} (hret : meth.sig.returnType = some .int) (hd : decode c.code pc = .ok (.ireturn, 1)) {fs : List Frame}
    (hl : ∀ (f : JFrame) (acts : List Action), f.method = m → f.locked = none → f.entered = [] → (doReturn e (T.setTop f) acts (some (.int z))).1 = T.setFrames fs) : Steps p.tables e below (T.setTop (mkF m pc Ls (.int z :: rest))) (T.setFrames fs) := by
  have hm' : T.vm.method? m = some meth := X.method'
  have hn : narrow .int (.int z) = .int z := rfl
  show Steps p.tables e below (T.setTop { method := m, pc := pc, locals := Ls, stack := _ :: rest, locked := none }) _
  jvm_step X.here [X.here.top, hx, hd, hm', hret, hn]
  first | (intro acts; rw [hl _ acts rfl rfl rfl]) | rw [hl _ _ rfl rfl rfl]
  exact Steps.refl _
end New
end Jvm.RoadKit
namespace Jvm.Pilot.@@N@@
open Jvm Jvm.ClassFile Sem Op Lib Jvm.Free Jvm.Stand Jvm.LawKit Jvm.RoadKit Bundle Jvm.Pilot.@@N@@.Jvm.D
abbrev Sp (p : Program) (e : Env) (below : List Frame) (T : State) (f : JFrame) (t : State) : Prop := Steps p.tables e below (T.setTop f) t
theorem wq {Z : State} {a0 : Array Value} (hw : ∀ d ∈ tables_1, d.before a0 Z = true) (i : Nat) {d : Jvm.Cond} (h : tables_1[i]? = some d) : d.before a0 Z = true := hw _ (List.mem_of_getElem? h)
theorem ma {L : List Addr} (i : Nat) {a : Addr} (h : L[i]? = some a) : a ∈ L := List.mem_of_getElem? h
theorem own_sz {Z : State} {n0 : Nat} {h : Heap} (O : Old Z n0 h) : n0 ≤ h.size := O.1 ▸ O.2.1
theorem own_nei {x c : Int32} {n : Int} (h : ¬ x = c) (e : c.toInt = n) : x.toInt ≠ n := fun q => h (Int32.toInt_inj.mp (q.trans e.symm))
theorem own_eq {x c : Int32} {n : Int} (e : c.toInt = n) (h : x.toInt = n) : x = c := Int32.toInt_inj.mp (h.trans e.symm)
theorem own_lti {x c : Int32} {n : Int} (e : c.toInt = n) (h : x.toInt < n) : x < c := by rw [Int32.lt_iff_toInt_lt, e]; exact h
theorem own_nlti {x c : Int32} {n : Int} (e : c.toInt = n) (h : ¬ x.toInt < n) : ¬ (x < c) := by rw [Int32.lt_iff_toInt_lt, e]; exact h
theorem own_eqi {x c : Int32} {n : Int} (h : x = c) (e : c.toInt = n) : x.toInt = n := by rw [h]; exact e
theorem own_fldi {args : Array Value} {s : State} {t : Term} {a : Addr} {C n d : String} {c : Int32} (ev : t.eval args s none [] s = some (.ref a)) (h : (Cond.eq (.field t C n d) (.int c)).value args s none s [] = some true) : Fld s s.heap a C n d (.int c) := by
  apply Fld.start
  cases hf : s.fieldOf? a C n d with
  | none => simp [Cond.value, Term.eval, ev, hf] at h
  | some x => cases x <;> simp [Cond.value, Term.eval, ev, hf] at h ⊢; exact h
theorem own_fldr {args : Array Value} {s : State} {t u : Term} {a b : Addr} {C n d : String} (ev : t.eval args s none [] s = some (.ref a)) (eu : u.eval args s none [] s = some (.ref b)) (h : (Cond.eq (.field t C n d) u).value args s none s [] = some true) : Fld s s.heap a C n d (.ref b) := by
  apply Fld.start
  cases hf : s.fieldOf? a C n d with
  | none => simp [Cond.value, Term.eval, ev, eu, hf] at h
  | some x => cases x <;> simp [Cond.value, Term.eval, ev, eu, hf] at h ⊢; exact h
theorem own_rem {x m : Int32} {M d : Int} (hm : m.toInt = M) (h0 : 0 ≤ M) {y : Int32} (hy : y.toInt = d) (hd : 0 < d) : 0 ≤ ((x &&& m) % y).toInt ∧ ((x &&& m) % y).toInt < d := by
  have a := c_and x m (by rw [hm]; exact h0)
  have b := (c_irem (x &&& m) y d hy).1 a.1
  rw [b]; exact ⟨Int.emod_nonneg _ (by omega), Int.emod_lt_of_pos _ hd⟩
theorem own_ch0 (x : Int32) : ¬ (255 : Int32) < (x &&& (255 : Int32)) := by
  rw [Int32.lt_iff_toInt_lt]
  have a := c_and x (255 : Int32) (by decide)
  have b : (255 : Int32).toInt = 255 := rfl
  omega
theorem own_ch1 (x : Int32) : ¬ (255 : Int32) < ((x &&& (255 : Int32)).toUInt32.toUInt16.toUInt32.toInt32) := by rw [i2c_mask]; exact own_ch0 x
theorem own_ch2 (x : Int32) : ¬ (255 : Int32) < (nar .char ((x &&& (255 : Int32)).toUInt32.toUInt16.toUInt32.toInt32)) := by
  show ¬ (255 : Int32) < (((x &&& (255 : Int32)).toUInt32.toUInt16.toUInt32.toInt32).toUInt32.toUInt16.toUInt32.toInt32)
  rw [i2c_mask, i2c_mask]; exact own_ch0 x
theorem own_ch3 (x : Int32) : ¬ (255 : Int32) < (nar .char (x &&& (255 : Int32))) := own_ch1 x
theorem own_and {x m : Int32} {M : Int} (hm : m.toInt = M) (h0 : 0 ≤ M) : 0 ≤ (x &&& m).toInt ∧ (x &&& m).toInt < M + 1 := by
  have a := c_and x m (by rw [hm]; exact h0)
  rw [hm] at a; omega
theorem own_notsub {Z : State} {a0 : Array Value} {C K O : String} {n m : Nat} (w : (Jvm.Cond.superclass C O).before a0 Z = true) (wo : (Jvm.Cond.noSuperclass O).before a0 Z = true) (wc : (Jvm.Cond.instantiable C m).before a0 Z = true) (wk : (Jvm.Cond.instantiable K n).before a0 Z = true) (h1 : C ≠ K) (h2 : O ≠ K) : ∃ c t, Z.vm.findClass C = some c ∧ Z.vm.findClass K = some t ∧ Z.vm.assignable c t = false := by
  obtain ⟨t, kt, g1, g2, g3, g4, -⟩ := Cond.instantiable_spec wk
  obtain ⟨c, kc, c1, c2, c3, -⟩ := Cond.instantiable_spec wc
  obtain ⟨o, ko, o1, o2, o3, -, -⟩ := Cond.noSuperclass_spec wo
  obtain ⟨p, k, kp, s1, s2, s3, s4, -⟩ := Cond.superclass_spec c1 w
  cases o1.symm.trans s1
  cases c2.symm.trans s2
  have ne1 := ids_ne c1 g1 h1
  have ne2 := ids_ne o1 g1 h2
  have g4' : kt.isInterface = false := by simpa using (Bool.or_eq_false_iff.mp g4).1
  have sub : ∀ fuel, Z.vm.isSubclassAux fuel c t = false := fun fuel => by
    cases fuel with
    | zero => rfl
    | succ f =>
      cases f with
      | zero => simp [Vm.isSubclassAux, ne1, c2, s4]
      | succ f => simp [Vm.isSubclassAux, ne1, ne2, c2, s4, o2, o3]
  refine ⟨c, t, c1, g1, ?_⟩
  show Z.vm.assignableAux (255 + 1) c t = false
  simp [Vm.assignableAux, ne1, c2, g2, c3, g3, g4', Vm.isSubclass, sub]
abbrev sxL (s : Int32) : Int32 := ((s.toUInt32 >>> ((24 : Int32) &&& 31).toUInt32).toInt32) &&& (3 : Int32)
def sxB (x : Int32) : Int32 := nar .byte ((nar .char ((x &&& (255 : Int32)).toUInt32.toUInt16.toUInt32.toInt32)).toInt8.toInt32)
def sxN (s : Int32) : Int32 := if sxL s = 0 then 0 else if sxL s = 1 then 1 else if sxL s = 2 then 2 else 3
def sxV (s : Int32) : List Value := if sxL s = 0 then [] else if sxL s = 1 then [.int (sxB s)] else if sxL s = 2 then [.int (sxB s), .int (sxB ((s.toUInt32 >>> ((8 : Int32) &&& 31).toUInt32).toInt32))] else [.int (sxB s), .int (sxB ((s.toUInt32 >>> ((8 : Int32) &&& 31).toUInt32).toInt32)), .int (sxB ((s.toUInt32 >>> ((16 : Int32) &&& 31).toUInt32).toInt32))]
def sxE (s t : Int32) : Int32 := if sxN s = sxN t ∧ sxV s = sxV t then 1 else 0
theorem own_sxE (s t : Int32) : sxE s t = if sxL s = sxL t ∧ (sxL s < 1 ∨ sxB s = sxB t) ∧ (sxL s < 2 ∨ sxB ((s.toUInt32 >>> ((8 : Int32) &&& 31).toUInt32).toInt32) = sxB ((t.toUInt32 >>> ((8 : Int32) &&& 31).toUInt32).toInt32)) ∧ (sxL s < 3 ∨ sxB ((s.toUInt32 >>> ((16 : Int32) &&& 31).toUInt32).toInt32) = sxB ((t.toUInt32 >>> ((16 : Int32) &&& 31).toUInt32).toInt32)) then 1 else 0 := by
  have q : ∀ x : Int32, sxL x = 0 ∨ sxL x = 1 ∨ sxL x = 2 ∨ sxL x = 3 := fun x => by
    have hx := own_and (x := ((x.toUInt32 >>> ((24 : Int32) &&& 31).toUInt32).toInt32)) (m := (3 : Int32)) (M := 3) rfl (by decide)
    have h : (sxL x).toInt = 0 ∨ (sxL x).toInt = 1 ∨ (sxL x).toInt = 2 ∨ (sxL x).toInt = 3 := by show ((_ : Int32) &&& _).toInt = 0 ∨ _ ; simp only [sxL]; omega
    rcases h with h | h | h | h
    · exact Or.inl (Int32.toInt_inj.mp h)
    · exact Or.inr (Or.inl (Int32.toInt_inj.mp h))
    · exact Or.inr (Or.inr (Or.inl (Int32.toInt_inj.mp h)))
    · exact Or.inr (Or.inr (Or.inr (Int32.toInt_inj.mp h)))
  rcases q s with h | h | h | h <;> rcases q t with h' | h' | h' | h' <;> simp [sxE, sxN, sxV, h, h']
theorem own_sxB {x y : Int32} : sxB x = sxB y ↔ (x &&& (255 : Int32)) = (y &&& (255 : Int32)) := by
  have e : ∀ z : Int32, sxB z = (z &&& (255 : Int32)).toInt8.toInt32 := fun z => by
    show ((((z &&& (255 : Int32)).toUInt32.toUInt16.toUInt32.toInt32).toUInt32.toUInt16.toUInt32.toInt32).toInt8.toInt32).toInt8.toInt32 = _
    rw [i2c_mask, i2c_mask]; simp
  rw [e, e]
  constructor
  · intro h
    apply Int32.toInt_inj.mp
    have a := c_i2b (x &&& (255 : Int32)); have b := c_i2b (y &&& (255 : Int32)); rw [h] at a
    have c := c_and x (255 : Int32) (by decide); have d := c_and y (255 : Int32) (by decide)
    have f : (255 : Int32).toInt = 255 := rfl
    omega
  · intro h; rw [h]
def sxS (s t : Int32) : Int32 := if sxL s = sxL t ∧ (sxL s < 1 ∨ (s &&& (255 : Int32)) = (t &&& (255 : Int32))) ∧ (sxL s < 2 ∨ (((s.toUInt32 >>> ((8 : Int32) &&& 31).toUInt32).toInt32) &&& (255 : Int32)) = (((t.toUInt32 >>> ((8 : Int32) &&& 31).toUInt32).toInt32) &&& (255 : Int32))) ∧ (sxL s < 3 ∨ (((s.toUInt32 >>> ((16 : Int32) &&& 31).toUInt32).toInt32) &&& (255 : Int32)) = (((t.toUInt32 >>> ((16 : Int32) &&& 31).toUInt32).toInt32) &&& (255 : Int32))) then 1 else 0
theorem own_sxES (s t : Int32) : sxE s t = sxS s t := by rw [own_sxE, sxS]; simp only [own_sxB]
theorem own_ltm {x a b : Int32} (h : x < a) (n : a.toInt ≤ b.toInt) : x < b := by rw [Int32.lt_iff_toInt_lt] at h ⊢; omega
theorem own_nltm {x a b : Int32} (h : ¬ x < a) (n : b.toInt ≤ a.toInt) : ¬ x < b := by rw [Int32.lt_iff_toInt_lt] at h ⊢; omega
theorem own_wS {Z : State} {a0 : Array Value} (hw : ∀ d ∈ tables_1, d.before a0 Z = true) : ∀ a ∈ Bundle.stringAtoms, a.before a0 Z = true := by
  intro d hd
  simp only [Bundle.stringAtoms, List.mem_cons, List.not_mem_nil, or_false] at hd
  rcases hd with rfl | rfl | rfl | rfl | rfl | rfl | rfl
  · exact (wq hw 10 rfl)
  · exact (wq hw 9 rfl)
  · exact (wq hw 23 rfl)
  · exact (wq hw 24 rfl)
  · exact (wq hw 25 rfl)
  · exact (wq hw 26 rfl)
  · exact (wq hw 27 rfl)
def own_EL : List (String × Nat) := [("java/lang/String", 7)]
theorem own_EW {Z : State} {a0 : Array Value} (hw : ∀ d ∈ tables_1, d.before a0 Z = true) : EW Z a0 own_EL := (EW.cons (wq hw 22 rfl) (by decide) EW.nil)
theorem own_sub : ∀ p ∈ own_EL, p ∈ consts_1 := by decide
theorem own_backC {p : Program} {l : Launch} {e : Env} {R : Room} {s : State} {args : Array Value} {below : List Frame} {Z : State} {a0 : Array Value} {h : Heap} {vm0 : Vm} {EL : List (String × Nat)} {y : MethodName} {bytes : ByteArray} {maxL : Nat} {ret : Option FieldType} {rm : Room} {len W : Nat} {as' : Array Value} {Q : Option Value → Heap → List Loc → Prop} {SL : List Addr}
    (hM : MetFree l y (head1 [Jvm.Cond.code y bytes maxL ret] rm) (fun a U => a = as' ∧ Z.Warmed39 U.vm ∧ U.heap = h ∧ CHv Z EL U.vm h ∧ ∀ x ∈ SL, Safe Z EL U.vm h x) (fun _ _ _ _ _ => True) (fun _ U o U' => ∃ v L, o = .returned v ∧ Q v U'.heap L ∧ CHr Z EL U.vm U.heap U'.vm U'.heap ∧ ReturnedEndW U o U' L rm.cells rm.slots))
    (hZ : Z.Warmed39 (s.setVm vm0).vm) (wc : (Jvm.Cond.code y bytes maxL ret).before a0 Z = true) (wz : (Jvm.Cond.initialized y.cls).before a0 Z = true) (hf : rm.frames + 1 ≤ R.frames) (hl : W + (maxL + 11) + rm.locals ≤ R.locals) (hEL : EW Z a0 EL) (H : CHv Z EL vm0 h) (hs : ∀ x ∈ SL, x < h.size ∧ Safe Z EL vm0 h x) :
    BackS l R p e below (s.setVm vm0) args y len W (fun A a => a = as' ∧ A.U.heap = h ∧ A.cells + rm.cells ≤ R.cells ∧ A.slots + rm.slots ≤ R.slots)
      (fun A _ v B => ∃ L, Q v B.U.heap L ∧ B.locs = A.locs ++ L ∧ B.cells = A.cells + rm.cells ∧ B.slots = A.slots + rm.slots ∧ CHr Z EL vm0 h B.U.vm B.U.heap) :=
  BackS.of_freeW (bytes := bytes) (maxL := maxL) (ret := ret) (E := fun _ first o t L k n => k = rm.cells ∧ n = rm.slots ∧ (∃ v, o = .returned v ∧ Q v t.heap L) ∧ CHr Z EL first.vm first.heap t.vm t.heap) hM hf hl
    (fun m meth c A a Y hp => have hU : Z.Warmed39 A.U.vm := wtrans (s := s.setVm vm0) hZ Y.warmed
      ⟨by show (Jvm.Cond.and _ .tt).before a A.U = true; rw [Cond.before_and, mv hU wc]; rfl, mv hU wc, mv hU wz, hp.2.2.1, hp.2.2.2⟩)
    (fun m meth c A a g mk Y hp => ⟨hp.1, wtrans (s := s.setVm vm0) hZ Y.warmed, hp.2.1, (CHv.at Y hZ hEL H).1, fun x hx => (CHv.at Y hZ hEL H).safe (hs x hx).1 (hs x hx).2⟩) (fun _ _ _ _ _ _ _ _ _ => trivial)
    (fun _ _ _ _ ⟨v, L, h1, h2, h3, h4⟩ => ⟨L, _, _, h4, rfl, rfl, ⟨v, h1, h2⟩, h3⟩)
    (fun m meth c A a g mk v t L k n Y hp _ _ ⟨e1, e2, ⟨v', e3, e4⟩, e5⟩ => by
      cases e3; subst e1 e2
      refine ⟨L, e4, rfl, rfl, rfl, (CHv.at Y hZ hEL H).trans ?_⟩
      rw [← hp.2.1]; exact e5)
def Perm (Z : State) (v0 : Addr) (v1 : Addr) (v2 : Addr) (v3 : Addr) (v4 : Addr) (v5 : Addr) (v6 : Addr) (v7 : Addr) (v8 : Addr) (v9 : Addr) (cs_v : Int32) : Prop := Sta Z Z.heap "com/example/ratebook/ratebook/model/Category" "TEMPLATE" "Lcom/example/ratebook/ratebook/model/Category;" (.ref v0) ∧ Exa Z Z.heap v0 "com/example/ratebook/ratebook/model/Category" ∧ Sta Z Z.heap "com/example/ratebook/ratebook/model/Category" "CPU" "Lcom/example/ratebook/ratebook/model/Category;" (.ref v1) ∧ Exa Z Z.heap v1 "com/example/ratebook/ratebook/model/Category" ∧ Sta Z Z.heap "com/example/ratebook/ratebook/model/Category" "PM" "Lcom/example/ratebook/ratebook/model/Category;" (.ref v2) ∧ Exa Z Z.heap v2 "com/example/ratebook/ratebook/model/Category" ∧ Sta Z Z.heap "com/example/ratebook/ratebook/model/Category" "MEMORY" "Lcom/example/ratebook/ratebook/model/Category;" (.ref v3) ∧ Exa Z Z.heap v3 "com/example/ratebook/ratebook/model/Category" ∧ Sta Z Z.heap "com/example/ratebook/ratebook/model/Category" "DISK" "Lcom/example/ratebook/ratebook/model/Category;" (.ref v4) ∧ Exa Z Z.heap v4 "com/example/ratebook/ratebook/model/Category" ∧ Sta Z Z.heap "com/example/ratebook/ratebook/model/Category" "SYS_DISK" "Lcom/example/ratebook/ratebook/model/Category;" (.ref v5) ∧ Exa Z Z.heap v5 "com/example/ratebook/ratebook/model/Category" ∧ Sta Z Z.heap "com/example/ratebook/ratebook/model/Category" "NIC" "Lcom/example/ratebook/ratebook/model/Category;" (.ref v6) ∧ Exa Z Z.heap v6 "com/example/ratebook/ratebook/model/Category" ∧ Sta Z Z.heap "com/example/ratebook/ratebook/model/Category" "SNAPSHOT" "Lcom/example/ratebook/ratebook/model/Category;" (.ref v7) ∧ Exa Z Z.heap v7 "com/example/ratebook/ratebook/model/Category" ∧ Sta Z Z.heap "com/example/ratebook/ratebook/model/Category" "CPU_CLOCK" "Lcom/example/ratebook/ratebook/model/Category;" (.ref v8) ∧ Exa Z Z.heap v8 "com/example/ratebook/ratebook/model/Category" ∧ Sta Z Z.heap "com/example/ratebook/ratebook/model/Category" "VM" "Lcom/example/ratebook/ratebook/model/Category;" (.ref v9) ∧ Exa Z Z.heap v9 "com/example/ratebook/ratebook/model/Category" ∧ Fld Z Z.heap v0 "java/lang/Enum" "ordinal" "I" (.int (0 : Int32)) ∧ Fld Z Z.heap v1 "java/lang/Enum" "ordinal" "I" (.int (3 : Int32)) ∧ Fld Z Z.heap v5 "java/lang/Enum" "ordinal" "I" (.int (6 : Int32)) ∧ Fld Z Z.heap v6 "java/lang/Enum" "ordinal" "I" (.int (9 : Int32)) ∧ Fld Z Z.heap v2 "java/lang/Enum" "ordinal" "I" (.int (2 : Int32)) ∧ Fld Z Z.heap v8 "java/lang/Enum" "ordinal" "I" (.int (4 : Int32)) ∧ Fld Z Z.heap v4 "java/lang/Enum" "ordinal" "I" (.int (7 : Int32)) ∧ Fld Z Z.heap v9 "java/lang/Enum" "ordinal" "I" (.int (1 : Int32)) ∧ Fld Z Z.heap v7 "java/lang/Enum" "ordinal" "I" (.int (8 : Int32)) ∧ Fld Z Z.heap v3 "java/lang/Enum" "ordinal" "I" (.int (5 : Int32)) ∧ Sta Z Z.heap "java/lang/String" "COMPACT_STRINGS" "Z" (.int cs_v) ∧ ¬ (cs_v = (0 : Int32))
theorem ne_v0_v1 {Z : State} {v0 : Addr} {v1 : Addr} {v2 : Addr} {v3 : Addr} {v4 : Addr} {v5 : Addr} {v6 : Addr} {v7 : Addr} {v8 : Addr} {v9 : Addr} {cs_v : Int32} (hp : Perm Z v0 v1 v2 v3 v4 v5 v6 v7 v8 v9 cs_v) : v0 ≠ v1 := by
  obtain ⟨_, _, _, _, _, _, _, _, _, _, _, _, _, _, _, _, _, _, _, _, F_ordinal_v0, F_ordinal_v1, _, _, _, _, _, _, _, _, _, _⟩ := hp
  exact Fld.ne F_ordinal_v0 F_ordinal_v1 (by decide)
theorem ne_v0_v5 {Z : State} {v0 : Addr} {v1 : Addr} {v2 : Addr} {v3 : Addr} {v4 : Addr} {v5 : Addr} {v6 : Addr} {v7 : Addr} {v8 : Addr} {v9 : Addr} {cs_v : Int32} (hp : Perm Z v0 v1 v2 v3 v4 v5 v6 v7 v8 v9 cs_v) : v0 ≠ v5 := by
  obtain ⟨_, _, _, _, _, _, _, _, _, _, _, _, _, _, _, _, _, _, _, _, F_ordinal_v0, _, F_ordinal_v5, _, _, _, _, _, _, _, _, _⟩ := hp
  exact Fld.ne F_ordinal_v0 F_ordinal_v5 (by decide)
theorem ne_v0_v6 {Z : State} {v0 : Addr} {v1 : Addr} {v2 : Addr} {v3 : Addr} {v4 : Addr} {v5 : Addr} {v6 : Addr} {v7 : Addr} {v8 : Addr} {v9 : Addr} {cs_v : Int32} (hp : Perm Z v0 v1 v2 v3 v4 v5 v6 v7 v8 v9 cs_v) : v0 ≠ v6 := by
  obtain ⟨_, _, _, _, _, _, _, _, _, _, _, _, _, _, _, _, _, _, _, _, F_ordinal_v0, _, _, F_ordinal_v6, _, _, _, _, _, _, _, _⟩ := hp
  exact Fld.ne F_ordinal_v0 F_ordinal_v6 (by decide)
theorem ne_v0_v2 {Z : State} {v0 : Addr} {v1 : Addr} {v2 : Addr} {v3 : Addr} {v4 : Addr} {v5 : Addr} {v6 : Addr} {v7 : Addr} {v8 : Addr} {v9 : Addr} {cs_v : Int32} (hp : Perm Z v0 v1 v2 v3 v4 v5 v6 v7 v8 v9 cs_v) : v0 ≠ v2 := by
  obtain ⟨_, _, _, _, _, _, _, _, _, _, _, _, _, _, _, _, _, _, _, _, F_ordinal_v0, _, _, _, F_ordinal_v2, _, _, _, _, _, _, _⟩ := hp
  exact Fld.ne F_ordinal_v0 F_ordinal_v2 (by decide)
theorem ne_v0_v8 {Z : State} {v0 : Addr} {v1 : Addr} {v2 : Addr} {v3 : Addr} {v4 : Addr} {v5 : Addr} {v6 : Addr} {v7 : Addr} {v8 : Addr} {v9 : Addr} {cs_v : Int32} (hp : Perm Z v0 v1 v2 v3 v4 v5 v6 v7 v8 v9 cs_v) : v0 ≠ v8 := by
  obtain ⟨_, _, _, _, _, _, _, _, _, _, _, _, _, _, _, _, _, _, _, _, F_ordinal_v0, _, _, _, _, F_ordinal_v8, _, _, _, _, _, _⟩ := hp
  exact Fld.ne F_ordinal_v0 F_ordinal_v8 (by decide)
theorem ne_v0_v4 {Z : State} {v0 : Addr} {v1 : Addr} {v2 : Addr} {v3 : Addr} {v4 : Addr} {v5 : Addr} {v6 : Addr} {v7 : Addr} {v8 : Addr} {v9 : Addr} {cs_v : Int32} (hp : Perm Z v0 v1 v2 v3 v4 v5 v6 v7 v8 v9 cs_v) : v0 ≠ v4 := by
  obtain ⟨_, _, _, _, _, _, _, _, _, _, _, _, _, _, _, _, _, _, _, _, F_ordinal_v0, _, _, _, _, _, F_ordinal_v4, _, _, _, _, _⟩ := hp
  exact Fld.ne F_ordinal_v0 F_ordinal_v4 (by decide)
theorem ne_v0_v9 {Z : State} {v0 : Addr} {v1 : Addr} {v2 : Addr} {v3 : Addr} {v4 : Addr} {v5 : Addr} {v6 : Addr} {v7 : Addr} {v8 : Addr} {v9 : Addr} {cs_v : Int32} (hp : Perm Z v0 v1 v2 v3 v4 v5 v6 v7 v8 v9 cs_v) : v0 ≠ v9 := by
  obtain ⟨_, _, _, _, _, _, _, _, _, _, _, _, _, _, _, _, _, _, _, _, F_ordinal_v0, _, _, _, _, _, _, F_ordinal_v9, _, _, _, _⟩ := hp
  exact Fld.ne F_ordinal_v0 F_ordinal_v9 (by decide)
theorem ne_v0_v7 {Z : State} {v0 : Addr} {v1 : Addr} {v2 : Addr} {v3 : Addr} {v4 : Addr} {v5 : Addr} {v6 : Addr} {v7 : Addr} {v8 : Addr} {v9 : Addr} {cs_v : Int32} (hp : Perm Z v0 v1 v2 v3 v4 v5 v6 v7 v8 v9 cs_v) : v0 ≠ v7 := by
  obtain ⟨_, _, _, _, _, _, _, _, _, _, _, _, _, _, _, _, _, _, _, _, F_ordinal_v0, _, _, _, _, _, _, _, F_ordinal_v7, _, _, _⟩ := hp
  exact Fld.ne F_ordinal_v0 F_ordinal_v7 (by decide)
theorem ne_v0_v3 {Z : State} {v0 : Addr} {v1 : Addr} {v2 : Addr} {v3 : Addr} {v4 : Addr} {v5 : Addr} {v6 : Addr} {v7 : Addr} {v8 : Addr} {v9 : Addr} {cs_v : Int32} (hp : Perm Z v0 v1 v2 v3 v4 v5 v6 v7 v8 v9 cs_v) : v0 ≠ v3 := by
  obtain ⟨_, _, _, _, _, _, _, _, _, _, _, _, _, _, _, _, _, _, _, _, F_ordinal_v0, _, _, _, _, _, _, _, _, F_ordinal_v3, _, _⟩ := hp
  exact Fld.ne F_ordinal_v0 F_ordinal_v3 (by decide)
theorem ne_v1_v5 {Z : State} {v0 : Addr} {v1 : Addr} {v2 : Addr} {v3 : Addr} {v4 : Addr} {v5 : Addr} {v6 : Addr} {v7 : Addr} {v8 : Addr} {v9 : Addr} {cs_v : Int32} (hp : Perm Z v0 v1 v2 v3 v4 v5 v6 v7 v8 v9 cs_v) : v1 ≠ v5 := by
  obtain ⟨_, _, _, _, _, _, _, _, _, _, _, _, _, _, _, _, _, _, _, _, _, F_ordinal_v1, F_ordinal_v5, _, _, _, _, _, _, _, _, _⟩ := hp
  exact Fld.ne F_ordinal_v1 F_ordinal_v5 (by decide)
theorem ne_v1_v6 {Z : State} {v0 : Addr} {v1 : Addr} {v2 : Addr} {v3 : Addr} {v4 : Addr} {v5 : Addr} {v6 : Addr} {v7 : Addr} {v8 : Addr} {v9 : Addr} {cs_v : Int32} (hp : Perm Z v0 v1 v2 v3 v4 v5 v6 v7 v8 v9 cs_v) : v1 ≠ v6 := by
  obtain ⟨_, _, _, _, _, _, _, _, _, _, _, _, _, _, _, _, _, _, _, _, _, F_ordinal_v1, _, F_ordinal_v6, _, _, _, _, _, _, _, _⟩ := hp
  exact Fld.ne F_ordinal_v1 F_ordinal_v6 (by decide)
theorem ne_v1_v2 {Z : State} {v0 : Addr} {v1 : Addr} {v2 : Addr} {v3 : Addr} {v4 : Addr} {v5 : Addr} {v6 : Addr} {v7 : Addr} {v8 : Addr} {v9 : Addr} {cs_v : Int32} (hp : Perm Z v0 v1 v2 v3 v4 v5 v6 v7 v8 v9 cs_v) : v1 ≠ v2 := by
  obtain ⟨_, _, _, _, _, _, _, _, _, _, _, _, _, _, _, _, _, _, _, _, _, F_ordinal_v1, _, _, F_ordinal_v2, _, _, _, _, _, _, _⟩ := hp
  exact Fld.ne F_ordinal_v1 F_ordinal_v2 (by decide)
theorem ne_v1_v8 {Z : State} {v0 : Addr} {v1 : Addr} {v2 : Addr} {v3 : Addr} {v4 : Addr} {v5 : Addr} {v6 : Addr} {v7 : Addr} {v8 : Addr} {v9 : Addr} {cs_v : Int32} (hp : Perm Z v0 v1 v2 v3 v4 v5 v6 v7 v8 v9 cs_v) : v1 ≠ v8 := by
  obtain ⟨_, _, _, _, _, _, _, _, _, _, _, _, _, _, _, _, _, _, _, _, _, F_ordinal_v1, _, _, _, F_ordinal_v8, _, _, _, _, _, _⟩ := hp
  exact Fld.ne F_ordinal_v1 F_ordinal_v8 (by decide)
theorem ne_v1_v4 {Z : State} {v0 : Addr} {v1 : Addr} {v2 : Addr} {v3 : Addr} {v4 : Addr} {v5 : Addr} {v6 : Addr} {v7 : Addr} {v8 : Addr} {v9 : Addr} {cs_v : Int32} (hp : Perm Z v0 v1 v2 v3 v4 v5 v6 v7 v8 v9 cs_v) : v1 ≠ v4 := by
  obtain ⟨_, _, _, _, _, _, _, _, _, _, _, _, _, _, _, _, _, _, _, _, _, F_ordinal_v1, _, _, _, _, F_ordinal_v4, _, _, _, _, _⟩ := hp
  exact Fld.ne F_ordinal_v1 F_ordinal_v4 (by decide)
theorem ne_v1_v9 {Z : State} {v0 : Addr} {v1 : Addr} {v2 : Addr} {v3 : Addr} {v4 : Addr} {v5 : Addr} {v6 : Addr} {v7 : Addr} {v8 : Addr} {v9 : Addr} {cs_v : Int32} (hp : Perm Z v0 v1 v2 v3 v4 v5 v6 v7 v8 v9 cs_v) : v1 ≠ v9 := by
  obtain ⟨_, _, _, _, _, _, _, _, _, _, _, _, _, _, _, _, _, _, _, _, _, F_ordinal_v1, _, _, _, _, _, F_ordinal_v9, _, _, _, _⟩ := hp
  exact Fld.ne F_ordinal_v1 F_ordinal_v9 (by decide)
theorem ne_v1_v7 {Z : State} {v0 : Addr} {v1 : Addr} {v2 : Addr} {v3 : Addr} {v4 : Addr} {v5 : Addr} {v6 : Addr} {v7 : Addr} {v8 : Addr} {v9 : Addr} {cs_v : Int32} (hp : Perm Z v0 v1 v2 v3 v4 v5 v6 v7 v8 v9 cs_v) : v1 ≠ v7 := by
  obtain ⟨_, _, _, _, _, _, _, _, _, _, _, _, _, _, _, _, _, _, _, _, _, F_ordinal_v1, _, _, _, _, _, _, F_ordinal_v7, _, _, _⟩ := hp
  exact Fld.ne F_ordinal_v1 F_ordinal_v7 (by decide)
theorem ne_v1_v3 {Z : State} {v0 : Addr} {v1 : Addr} {v2 : Addr} {v3 : Addr} {v4 : Addr} {v5 : Addr} {v6 : Addr} {v7 : Addr} {v8 : Addr} {v9 : Addr} {cs_v : Int32} (hp : Perm Z v0 v1 v2 v3 v4 v5 v6 v7 v8 v9 cs_v) : v1 ≠ v3 := by
  obtain ⟨_, _, _, _, _, _, _, _, _, _, _, _, _, _, _, _, _, _, _, _, _, F_ordinal_v1, _, _, _, _, _, _, _, F_ordinal_v3, _, _⟩ := hp
  exact Fld.ne F_ordinal_v1 F_ordinal_v3 (by decide)
theorem ne_v5_v6 {Z : State} {v0 : Addr} {v1 : Addr} {v2 : Addr} {v3 : Addr} {v4 : Addr} {v5 : Addr} {v6 : Addr} {v7 : Addr} {v8 : Addr} {v9 : Addr} {cs_v : Int32} (hp : Perm Z v0 v1 v2 v3 v4 v5 v6 v7 v8 v9 cs_v) : v5 ≠ v6 := by
  obtain ⟨_, _, _, _, _, _, _, _, _, _, _, _, _, _, _, _, _, _, _, _, _, _, F_ordinal_v5, F_ordinal_v6, _, _, _, _, _, _, _, _⟩ := hp
  exact Fld.ne F_ordinal_v5 F_ordinal_v6 (by decide)
theorem ne_v5_v2 {Z : State} {v0 : Addr} {v1 : Addr} {v2 : Addr} {v3 : Addr} {v4 : Addr} {v5 : Addr} {v6 : Addr} {v7 : Addr} {v8 : Addr} {v9 : Addr} {cs_v : Int32} (hp : Perm Z v0 v1 v2 v3 v4 v5 v6 v7 v8 v9 cs_v) : v5 ≠ v2 := by
  obtain ⟨_, _, _, _, _, _, _, _, _, _, _, _, _, _, _, _, _, _, _, _, _, _, F_ordinal_v5, _, F_ordinal_v2, _, _, _, _, _, _, _⟩ := hp
  exact Fld.ne F_ordinal_v5 F_ordinal_v2 (by decide)
theorem ne_v5_v8 {Z : State} {v0 : Addr} {v1 : Addr} {v2 : Addr} {v3 : Addr} {v4 : Addr} {v5 : Addr} {v6 : Addr} {v7 : Addr} {v8 : Addr} {v9 : Addr} {cs_v : Int32} (hp : Perm Z v0 v1 v2 v3 v4 v5 v6 v7 v8 v9 cs_v) : v5 ≠ v8 := by
  obtain ⟨_, _, _, _, _, _, _, _, _, _, _, _, _, _, _, _, _, _, _, _, _, _, F_ordinal_v5, _, _, F_ordinal_v8, _, _, _, _, _, _⟩ := hp
  exact Fld.ne F_ordinal_v5 F_ordinal_v8 (by decide)
theorem ne_v5_v4 {Z : State} {v0 : Addr} {v1 : Addr} {v2 : Addr} {v3 : Addr} {v4 : Addr} {v5 : Addr} {v6 : Addr} {v7 : Addr} {v8 : Addr} {v9 : Addr} {cs_v : Int32} (hp : Perm Z v0 v1 v2 v3 v4 v5 v6 v7 v8 v9 cs_v) : v5 ≠ v4 := by
  obtain ⟨_, _, _, _, _, _, _, _, _, _, _, _, _, _, _, _, _, _, _, _, _, _, F_ordinal_v5, _, _, _, F_ordinal_v4, _, _, _, _, _⟩ := hp
  exact Fld.ne F_ordinal_v5 F_ordinal_v4 (by decide)
theorem ne_v5_v9 {Z : State} {v0 : Addr} {v1 : Addr} {v2 : Addr} {v3 : Addr} {v4 : Addr} {v5 : Addr} {v6 : Addr} {v7 : Addr} {v8 : Addr} {v9 : Addr} {cs_v : Int32} (hp : Perm Z v0 v1 v2 v3 v4 v5 v6 v7 v8 v9 cs_v) : v5 ≠ v9 := by
  obtain ⟨_, _, _, _, _, _, _, _, _, _, _, _, _, _, _, _, _, _, _, _, _, _, F_ordinal_v5, _, _, _, _, F_ordinal_v9, _, _, _, _⟩ := hp
  exact Fld.ne F_ordinal_v5 F_ordinal_v9 (by decide)
theorem ne_v5_v7 {Z : State} {v0 : Addr} {v1 : Addr} {v2 : Addr} {v3 : Addr} {v4 : Addr} {v5 : Addr} {v6 : Addr} {v7 : Addr} {v8 : Addr} {v9 : Addr} {cs_v : Int32} (hp : Perm Z v0 v1 v2 v3 v4 v5 v6 v7 v8 v9 cs_v) : v5 ≠ v7 := by
  obtain ⟨_, _, _, _, _, _, _, _, _, _, _, _, _, _, _, _, _, _, _, _, _, _, F_ordinal_v5, _, _, _, _, _, F_ordinal_v7, _, _, _⟩ := hp
  exact Fld.ne F_ordinal_v5 F_ordinal_v7 (by decide)
theorem ne_v5_v3 {Z : State} {v0 : Addr} {v1 : Addr} {v2 : Addr} {v3 : Addr} {v4 : Addr} {v5 : Addr} {v6 : Addr} {v7 : Addr} {v8 : Addr} {v9 : Addr} {cs_v : Int32} (hp : Perm Z v0 v1 v2 v3 v4 v5 v6 v7 v8 v9 cs_v) : v5 ≠ v3 := by
  obtain ⟨_, _, _, _, _, _, _, _, _, _, _, _, _, _, _, _, _, _, _, _, _, _, F_ordinal_v5, _, _, _, _, _, _, F_ordinal_v3, _, _⟩ := hp
  exact Fld.ne F_ordinal_v5 F_ordinal_v3 (by decide)
theorem ne_v6_v2 {Z : State} {v0 : Addr} {v1 : Addr} {v2 : Addr} {v3 : Addr} {v4 : Addr} {v5 : Addr} {v6 : Addr} {v7 : Addr} {v8 : Addr} {v9 : Addr} {cs_v : Int32} (hp : Perm Z v0 v1 v2 v3 v4 v5 v6 v7 v8 v9 cs_v) : v6 ≠ v2 := by
  obtain ⟨_, _, _, _, _, _, _, _, _, _, _, _, _, _, _, _, _, _, _, _, _, _, _, F_ordinal_v6, F_ordinal_v2, _, _, _, _, _, _, _⟩ := hp
  exact Fld.ne F_ordinal_v6 F_ordinal_v2 (by decide)
theorem ne_v6_v8 {Z : State} {v0 : Addr} {v1 : Addr} {v2 : Addr} {v3 : Addr} {v4 : Addr} {v5 : Addr} {v6 : Addr} {v7 : Addr} {v8 : Addr} {v9 : Addr} {cs_v : Int32} (hp : Perm Z v0 v1 v2 v3 v4 v5 v6 v7 v8 v9 cs_v) : v6 ≠ v8 := by
  obtain ⟨_, _, _, _, _, _, _, _, _, _, _, _, _, _, _, _, _, _, _, _, _, _, _, F_ordinal_v6, _, F_ordinal_v8, _, _, _, _, _, _⟩ := hp
  exact Fld.ne F_ordinal_v6 F_ordinal_v8 (by decide)
theorem ne_v6_v4 {Z : State} {v0 : Addr} {v1 : Addr} {v2 : Addr} {v3 : Addr} {v4 : Addr} {v5 : Addr} {v6 : Addr} {v7 : Addr} {v8 : Addr} {v9 : Addr} {cs_v : Int32} (hp : Perm Z v0 v1 v2 v3 v4 v5 v6 v7 v8 v9 cs_v) : v6 ≠ v4 := by
  obtain ⟨_, _, _, _, _, _, _, _, _, _, _, _, _, _, _, _, _, _, _, _, _, _, _, F_ordinal_v6, _, _, F_ordinal_v4, _, _, _, _, _⟩ := hp
  exact Fld.ne F_ordinal_v6 F_ordinal_v4 (by decide)
theorem ne_v6_v9 {Z : State} {v0 : Addr} {v1 : Addr} {v2 : Addr} {v3 : Addr} {v4 : Addr} {v5 : Addr} {v6 : Addr} {v7 : Addr} {v8 : Addr} {v9 : Addr} {cs_v : Int32} (hp : Perm Z v0 v1 v2 v3 v4 v5 v6 v7 v8 v9 cs_v) : v6 ≠ v9 := by
  obtain ⟨_, _, _, _, _, _, _, _, _, _, _, _, _, _, _, _, _, _, _, _, _, _, _, F_ordinal_v6, _, _, _, F_ordinal_v9, _, _, _, _⟩ := hp
  exact Fld.ne F_ordinal_v6 F_ordinal_v9 (by decide)
theorem ne_v6_v7 {Z : State} {v0 : Addr} {v1 : Addr} {v2 : Addr} {v3 : Addr} {v4 : Addr} {v5 : Addr} {v6 : Addr} {v7 : Addr} {v8 : Addr} {v9 : Addr} {cs_v : Int32} (hp : Perm Z v0 v1 v2 v3 v4 v5 v6 v7 v8 v9 cs_v) : v6 ≠ v7 := by
  obtain ⟨_, _, _, _, _, _, _, _, _, _, _, _, _, _, _, _, _, _, _, _, _, _, _, F_ordinal_v6, _, _, _, _, F_ordinal_v7, _, _, _⟩ := hp
  exact Fld.ne F_ordinal_v6 F_ordinal_v7 (by decide)
theorem ne_v6_v3 {Z : State} {v0 : Addr} {v1 : Addr} {v2 : Addr} {v3 : Addr} {v4 : Addr} {v5 : Addr} {v6 : Addr} {v7 : Addr} {v8 : Addr} {v9 : Addr} {cs_v : Int32} (hp : Perm Z v0 v1 v2 v3 v4 v5 v6 v7 v8 v9 cs_v) : v6 ≠ v3 := by
  obtain ⟨_, _, _, _, _, _, _, _, _, _, _, _, _, _, _, _, _, _, _, _, _, _, _, F_ordinal_v6, _, _, _, _, _, F_ordinal_v3, _, _⟩ := hp
  exact Fld.ne F_ordinal_v6 F_ordinal_v3 (by decide)
theorem ne_v2_v8 {Z : State} {v0 : Addr} {v1 : Addr} {v2 : Addr} {v3 : Addr} {v4 : Addr} {v5 : Addr} {v6 : Addr} {v7 : Addr} {v8 : Addr} {v9 : Addr} {cs_v : Int32} (hp : Perm Z v0 v1 v2 v3 v4 v5 v6 v7 v8 v9 cs_v) : v2 ≠ v8 := by
  obtain ⟨_, _, _, _, _, _, _, _, _, _, _, _, _, _, _, _, _, _, _, _, _, _, _, _, F_ordinal_v2, F_ordinal_v8, _, _, _, _, _, _⟩ := hp
  exact Fld.ne F_ordinal_v2 F_ordinal_v8 (by decide)
theorem ne_v2_v4 {Z : State} {v0 : Addr} {v1 : Addr} {v2 : Addr} {v3 : Addr} {v4 : Addr} {v5 : Addr} {v6 : Addr} {v7 : Addr} {v8 : Addr} {v9 : Addr} {cs_v : Int32} (hp : Perm Z v0 v1 v2 v3 v4 v5 v6 v7 v8 v9 cs_v) : v2 ≠ v4 := by
  obtain ⟨_, _, _, _, _, _, _, _, _, _, _, _, _, _, _, _, _, _, _, _, _, _, _, _, F_ordinal_v2, _, F_ordinal_v4, _, _, _, _, _⟩ := hp
  exact Fld.ne F_ordinal_v2 F_ordinal_v4 (by decide)
theorem ne_v2_v9 {Z : State} {v0 : Addr} {v1 : Addr} {v2 : Addr} {v3 : Addr} {v4 : Addr} {v5 : Addr} {v6 : Addr} {v7 : Addr} {v8 : Addr} {v9 : Addr} {cs_v : Int32} (hp : Perm Z v0 v1 v2 v3 v4 v5 v6 v7 v8 v9 cs_v) : v2 ≠ v9 := by
  obtain ⟨_, _, _, _, _, _, _, _, _, _, _, _, _, _, _, _, _, _, _, _, _, _, _, _, F_ordinal_v2, _, _, F_ordinal_v9, _, _, _, _⟩ := hp
  exact Fld.ne F_ordinal_v2 F_ordinal_v9 (by decide)
theorem ne_v2_v7 {Z : State} {v0 : Addr} {v1 : Addr} {v2 : Addr} {v3 : Addr} {v4 : Addr} {v5 : Addr} {v6 : Addr} {v7 : Addr} {v8 : Addr} {v9 : Addr} {cs_v : Int32} (hp : Perm Z v0 v1 v2 v3 v4 v5 v6 v7 v8 v9 cs_v) : v2 ≠ v7 := by
  obtain ⟨_, _, _, _, _, _, _, _, _, _, _, _, _, _, _, _, _, _, _, _, _, _, _, _, F_ordinal_v2, _, _, _, F_ordinal_v7, _, _, _⟩ := hp
  exact Fld.ne F_ordinal_v2 F_ordinal_v7 (by decide)
theorem ne_v2_v3 {Z : State} {v0 : Addr} {v1 : Addr} {v2 : Addr} {v3 : Addr} {v4 : Addr} {v5 : Addr} {v6 : Addr} {v7 : Addr} {v8 : Addr} {v9 : Addr} {cs_v : Int32} (hp : Perm Z v0 v1 v2 v3 v4 v5 v6 v7 v8 v9 cs_v) : v2 ≠ v3 := by
  obtain ⟨_, _, _, _, _, _, _, _, _, _, _, _, _, _, _, _, _, _, _, _, _, _, _, _, F_ordinal_v2, _, _, _, _, F_ordinal_v3, _, _⟩ := hp
  exact Fld.ne F_ordinal_v2 F_ordinal_v3 (by decide)
theorem ne_v8_v4 {Z : State} {v0 : Addr} {v1 : Addr} {v2 : Addr} {v3 : Addr} {v4 : Addr} {v5 : Addr} {v6 : Addr} {v7 : Addr} {v8 : Addr} {v9 : Addr} {cs_v : Int32} (hp : Perm Z v0 v1 v2 v3 v4 v5 v6 v7 v8 v9 cs_v) : v8 ≠ v4 := by
  obtain ⟨_, _, _, _, _, _, _, _, _, _, _, _, _, _, _, _, _, _, _, _, _, _, _, _, _, F_ordinal_v8, F_ordinal_v4, _, _, _, _, _⟩ := hp
  exact Fld.ne F_ordinal_v8 F_ordinal_v4 (by decide)
theorem ne_v8_v9 {Z : State} {v0 : Addr} {v1 : Addr} {v2 : Addr} {v3 : Addr} {v4 : Addr} {v5 : Addr} {v6 : Addr} {v7 : Addr} {v8 : Addr} {v9 : Addr} {cs_v : Int32} (hp : Perm Z v0 v1 v2 v3 v4 v5 v6 v7 v8 v9 cs_v) : v8 ≠ v9 := by
  obtain ⟨_, _, _, _, _, _, _, _, _, _, _, _, _, _, _, _, _, _, _, _, _, _, _, _, _, F_ordinal_v8, _, F_ordinal_v9, _, _, _, _⟩ := hp
  exact Fld.ne F_ordinal_v8 F_ordinal_v9 (by decide)
theorem ne_v8_v7 {Z : State} {v0 : Addr} {v1 : Addr} {v2 : Addr} {v3 : Addr} {v4 : Addr} {v5 : Addr} {v6 : Addr} {v7 : Addr} {v8 : Addr} {v9 : Addr} {cs_v : Int32} (hp : Perm Z v0 v1 v2 v3 v4 v5 v6 v7 v8 v9 cs_v) : v8 ≠ v7 := by
  obtain ⟨_, _, _, _, _, _, _, _, _, _, _, _, _, _, _, _, _, _, _, _, _, _, _, _, _, F_ordinal_v8, _, _, F_ordinal_v7, _, _, _⟩ := hp
  exact Fld.ne F_ordinal_v8 F_ordinal_v7 (by decide)
theorem ne_v8_v3 {Z : State} {v0 : Addr} {v1 : Addr} {v2 : Addr} {v3 : Addr} {v4 : Addr} {v5 : Addr} {v6 : Addr} {v7 : Addr} {v8 : Addr} {v9 : Addr} {cs_v : Int32} (hp : Perm Z v0 v1 v2 v3 v4 v5 v6 v7 v8 v9 cs_v) : v8 ≠ v3 := by
  obtain ⟨_, _, _, _, _, _, _, _, _, _, _, _, _, _, _, _, _, _, _, _, _, _, _, _, _, F_ordinal_v8, _, _, _, F_ordinal_v3, _, _⟩ := hp
  exact Fld.ne F_ordinal_v8 F_ordinal_v3 (by decide)
theorem ne_v4_v9 {Z : State} {v0 : Addr} {v1 : Addr} {v2 : Addr} {v3 : Addr} {v4 : Addr} {v5 : Addr} {v6 : Addr} {v7 : Addr} {v8 : Addr} {v9 : Addr} {cs_v : Int32} (hp : Perm Z v0 v1 v2 v3 v4 v5 v6 v7 v8 v9 cs_v) : v4 ≠ v9 := by
  obtain ⟨_, _, _, _, _, _, _, _, _, _, _, _, _, _, _, _, _, _, _, _, _, _, _, _, _, _, F_ordinal_v4, F_ordinal_v9, _, _, _, _⟩ := hp
  exact Fld.ne F_ordinal_v4 F_ordinal_v9 (by decide)
theorem ne_v4_v7 {Z : State} {v0 : Addr} {v1 : Addr} {v2 : Addr} {v3 : Addr} {v4 : Addr} {v5 : Addr} {v6 : Addr} {v7 : Addr} {v8 : Addr} {v9 : Addr} {cs_v : Int32} (hp : Perm Z v0 v1 v2 v3 v4 v5 v6 v7 v8 v9 cs_v) : v4 ≠ v7 := by
  obtain ⟨_, _, _, _, _, _, _, _, _, _, _, _, _, _, _, _, _, _, _, _, _, _, _, _, _, _, F_ordinal_v4, _, F_ordinal_v7, _, _, _⟩ := hp
  exact Fld.ne F_ordinal_v4 F_ordinal_v7 (by decide)
theorem ne_v4_v3 {Z : State} {v0 : Addr} {v1 : Addr} {v2 : Addr} {v3 : Addr} {v4 : Addr} {v5 : Addr} {v6 : Addr} {v7 : Addr} {v8 : Addr} {v9 : Addr} {cs_v : Int32} (hp : Perm Z v0 v1 v2 v3 v4 v5 v6 v7 v8 v9 cs_v) : v4 ≠ v3 := by
  obtain ⟨_, _, _, _, _, _, _, _, _, _, _, _, _, _, _, _, _, _, _, _, _, _, _, _, _, _, F_ordinal_v4, _, _, F_ordinal_v3, _, _⟩ := hp
  exact Fld.ne F_ordinal_v4 F_ordinal_v3 (by decide)
theorem ne_v9_v7 {Z : State} {v0 : Addr} {v1 : Addr} {v2 : Addr} {v3 : Addr} {v4 : Addr} {v5 : Addr} {v6 : Addr} {v7 : Addr} {v8 : Addr} {v9 : Addr} {cs_v : Int32} (hp : Perm Z v0 v1 v2 v3 v4 v5 v6 v7 v8 v9 cs_v) : v9 ≠ v7 := by
  obtain ⟨_, _, _, _, _, _, _, _, _, _, _, _, _, _, _, _, _, _, _, _, _, _, _, _, _, _, _, F_ordinal_v9, F_ordinal_v7, _, _, _⟩ := hp
  exact Fld.ne F_ordinal_v9 F_ordinal_v7 (by decide)
theorem ne_v9_v3 {Z : State} {v0 : Addr} {v1 : Addr} {v2 : Addr} {v3 : Addr} {v4 : Addr} {v5 : Addr} {v6 : Addr} {v7 : Addr} {v8 : Addr} {v9 : Addr} {cs_v : Int32} (hp : Perm Z v0 v1 v2 v3 v4 v5 v6 v7 v8 v9 cs_v) : v9 ≠ v3 := by
  obtain ⟨_, _, _, _, _, _, _, _, _, _, _, _, _, _, _, _, _, _, _, _, _, _, _, _, _, _, _, F_ordinal_v9, _, F_ordinal_v3, _, _⟩ := hp
  exact Fld.ne F_ordinal_v9 F_ordinal_v3 (by decide)
theorem ne_v7_v3 {Z : State} {v0 : Addr} {v1 : Addr} {v2 : Addr} {v3 : Addr} {v4 : Addr} {v5 : Addr} {v6 : Addr} {v7 : Addr} {v8 : Addr} {v9 : Addr} {cs_v : Int32} (hp : Perm Z v0 v1 v2 v3 v4 v5 v6 v7 v8 v9 cs_v) : v7 ≠ v3 := by
  obtain ⟨_, _, _, _, _, _, _, _, _, _, _, _, _, _, _, _, _, _, _, _, _, _, _, _, _, _, _, _, F_ordinal_v7, F_ordinal_v3, _, _⟩ := hp
  exact Fld.ne F_ordinal_v7 F_ordinal_v3 (by decide)
abbrev fx0 (x0 : Int32) : Int32 := (x0 &&& (2147483647 : Int32))
abbrev fx1 (x0 : Int32) : Int32 := ((x0 &&& (2147483647 : Int32)) % (10 : Int32))
abbrev fx2 (x0 : Int32) : Int32 := ((x0.toUInt32 >>> ((8 : Int32) &&& 31).toUInt32).toInt32)
abbrev fx3 (x0 : Int32) : Int32 := (((x0.toUInt32 >>> ((8 : Int32) &&& 31).toUInt32).toInt32) &&& (3 : Int32))
abbrev fx4 (x0 : Int32) : Int32 := ((1 : Int32) <<< ((((x0.toUInt32 >>> ((3 : Int32) &&& 31).toUInt32).toInt32) &&& (31 : Int32)) &&& 31))
abbrev fx5 (x0 : Int32) (x1 : Int32) : Int32 := (x0 ^^^ ((1 : Int32) <<< ((((x1.toUInt32 >>> ((3 : Int32) &&& 31).toUInt32).toInt32) &&& (31 : Int32)) &&& 31)))
def Cut_0_0 (p0 : Int32) (p1 : Int32) (p2 : Int32) (p3 : Int32) (p4 : Int32) (z6 z7 : Int32) : Prop := ∀ {p : Program} {l : Launch} {e : Env} {R : Room} {s : State} {m : MethodId} {args : Array Value} {below : List Frame} {meth : Method} {c : Code} {s₁ : State} {locs : List Loc} {cells slots : Nat} {Z : State} {a0 : Array Value} (X0 : Stand p l e R s m args below meth c s₁ locs cells slots) (hx : p.tables.exec = Jvm.exec) (hZ : Z.Warmed39 s.vm) (hw : ∀ d ∈ tables_1, d.before a0 Z = true) (hby : c.code = code) (hown : s.vm.findClass "com/example/ratebook/ratebook/model/PricedItemEqualsPinLaw" = some m.cls), ∀ target, Steps p.tables e below (s₁.setTop (mkF m 75 #[.val (.int p0), .val (.int p1), .val (.int p2), .val (.int p3), .val (.int p4), .val (.int ((p0 &&& (2147483647 : Int32)) % (10 : Int32))), .val (.int z6), .val (.int z7), .val (.int (((p4.toUInt32 >>> ((8 : Int32) &&& 31).toUInt32).toInt32) &&& (3 : Int32))), .unset, .unset, .unset, .unset, .unset, .unset] [])) target → Steps p.tables e below (s₁.setTop (mkF m 0 #[.val (.int p0), .val (.int p1), .val (.int p2), .val (.int p3), .val (.int p4), .unset, .unset, .unset, .unset, .unset, .unset, .unset, .unset, .unset, .unset] [])) target
set_option maxRecDepth 65536 in
set_option maxHeartbeats 40000000 in
theorem cut_0_0 (p0 : Int32) (p1 : Int32) (p2 : Int32) (p3 : Int32) (p4 : Int32) : ∃ (z6 z7 : Int32), (0 ≤ z6.toInt ∧ z6.toInt < 10) ∧ Cut_0_0 p0 p1 p2 p3 p4 z6 z7 := by
  by_cases d0 : (p4 &&& (1 : Int32)) = (0 : Int32)
  · skip
    by_cases d1 : (p4 &&& (2 : Int32)) = (0 : Int32)
    · skip
      by_cases d2 : (p4 &&& (4 : Int32)) = (0 : Int32)
      · skip
        have hc1 := d0
        have hc2 := d1
        have hc3 := d2
        refine ⟨((p1 &&& (2147483647 : Int32)) % (10 : Int32)), p3, (own_rem (x := p1) (m := (2147483647 : Int32)) (M := 2147483647) rfl (by decide) (y := (10 : Int32)) (d := 10) rfl (by decide)), ?_⟩
        intro p l e R s m args below meth c s₁ locs cells slots Z a0 X0 hx hZ hw hby hown target kt
        show Sp p e below s₁ (mkF m 0 #[.val (.int p0), .val (.int p1), .val (.int p2), .val (.int p3), .val (.int p4), .unset, .unset, .unset, .unset, .unset, .unset, .unset, .unset, .unset, .unset] []) _
        refine XS.iloadN X0.here hx rfl (hb hby at_0) rfl ?_
        show Sp p e below s₁ (mkF m 1 #[.val (.int p0), .val (.int p1), .val (.int p2), .val (.int p3), .val (.int p4), .unset, .unset, .unset, .unset, .unset, .unset, .unset, .unset, .unset, .unset] [(.int p0)]) _
        refine X0.ldcI hx hown (mvT hZ (wq hw 0 rfl)) rfl (hb hby at_1) ?_
        show Sp p e below s₁ (mkF m 3 #[.val (.int p0), .val (.int p1), .val (.int p2), .val (.int p3), .val (.int p4), .unset, .unset, .unset, .unset, .unset, .unset, .unset, .unset, .unset, .unset] [(.int (2147483647 : Int32)), (.int p0)]) _
        refine XS.iand X0.here hx rfl (hb hby at_3) rfl ?_
        refine XS.bipush X0.here hx rfl (hb hby at_4) ?_
        show Sp p e below s₁ (mkF m 6 #[.val (.int p0), .val (.int p1), .val (.int p2), .val (.int p3), .val (.int p4), .unset, .unset, .unset, .unset, .unset, .unset, .unset, .unset, .unset, .unset] [(.int (10 : Int32)), (.int (fx0 p0))]) _
        refine iremM X0 hx rfl (hb hby at_6) rfl (by decide) ?_
        show Sp p e below s₁ (mkF m 7 #[.val (.int p0), .val (.int p1), .val (.int p2), .val (.int p3), .val (.int p4), .unset, .unset, .unset, .unset, .unset, .unset, .unset, .unset, .unset, .unset] [(.int (fx1 p0))]) _
        refine XS.istore X0.here hx rfl (hb hby at_7) rfl (l' := #[.val (.int p0), .val (.int p1), .val (.int p2), .val (.int p3), .val (.int p4), .val (.int (fx1 p0)), .unset, .unset, .unset, .unset, .unset, .unset, .unset, .unset, .unset]) rfl ?_
        refine XS.iload X0.here hx rfl (hb hby at_9) rfl ?_
        refine XS.iconst X0.here hx rfl (hb hby at_11) ?_
        refine XS.iand X0.here hx rfl (hb hby at_12) rfl ?_
        refine XS.ifYes X0.here hx rfl (pc0 := 13) (pc' := 21) rfl (hb hby at_13) rfl ((if0 _ _).trans (teq hc1).1) (by decide) (by decide) ?_
        refine XS.iloadN X0.here hx rfl (hb hby at_21) rfl ?_
        show Sp p e below s₁ (mkF m 22 #[.val (.int p0), .val (.int p1), .val (.int p2), .val (.int p3), .val (.int p4), .val (.int (fx1 p0)), .unset, .unset, .unset, .unset, .unset, .unset, .unset, .unset, .unset] [(.int p1)]) _
        refine X0.ldcI hx hown (mvT hZ (wq hw 0 rfl)) rfl (hb hby at_22) ?_
        show Sp p e below s₁ (mkF m 24 #[.val (.int p0), .val (.int p1), .val (.int p2), .val (.int p3), .val (.int p4), .val (.int (fx1 p0)), .unset, .unset, .unset, .unset, .unset, .unset, .unset, .unset, .unset] [(.int (2147483647 : Int32)), (.int p1)]) _
        refine XS.iand X0.here hx rfl (hb hby at_24) rfl ?_
        refine XS.bipush X0.here hx rfl (hb hby at_25) ?_
        show Sp p e below s₁ (mkF m 27 #[.val (.int p0), .val (.int p1), .val (.int p2), .val (.int p3), .val (.int p4), .val (.int (fx1 p0)), .unset, .unset, .unset, .unset, .unset, .unset, .unset, .unset, .unset] [(.int (10 : Int32)), (.int (fx0 p1))]) _
        refine iremM X0 hx rfl (hb hby at_27) rfl (by decide) ?_
        show Sp p e below s₁ (mkF m 28 #[.val (.int p0), .val (.int p1), .val (.int p2), .val (.int p3), .val (.int p4), .val (.int (fx1 p0)), .unset, .unset, .unset, .unset, .unset, .unset, .unset, .unset, .unset] [(.int (fx1 p1))]) _
        refine XS.istore X0.here hx rfl (hb hby at_28) rfl (l' := #[.val (.int p0), .val (.int p1), .val (.int p2), .val (.int p3), .val (.int p4), .val (.int (fx1 p0)), .val (.int (fx1 p1)), .unset, .unset, .unset, .unset, .unset, .unset, .unset, .unset]) rfl ?_
        refine XS.iloadN X0.here hx rfl (hb hby at_30) rfl ?_
        refine XS.istore X0.here hx rfl (hb hby at_31) rfl (l' := #[.val (.int p0), .val (.int p1), .val (.int p2), .val (.int p3), .val (.int p4), .val (.int (fx1 p0)), .val (.int (fx1 p1)), .val (.int p3), .unset, .unset, .unset, .unset, .unset, .unset, .unset]) rfl ?_
        refine XS.iload X0.here hx rfl (hb hby at_33) rfl ?_
        refine XS.iconst X0.here hx rfl (hb hby at_35) ?_
        refine XS.iand X0.here hx rfl (hb hby at_36) rfl ?_
        refine XS.ifYes X0.here hx rfl (pc0 := 37) (pc' := 46) rfl (hb hby at_37) rfl ((if0 _ _).trans (teq hc2).1) (by decide) (by decide) ?_
        show Sp p e below s₁ (mkF m 46 #[.val (.int p0), .val (.int p1), .val (.int p2), .val (.int p3), .val (.int p4), .val (.int (fx1 p0)), .val (.int (fx1 p1)), .val (.int p3), .unset, .unset, .unset, .unset, .unset, .unset, .unset] []) _
        refine XS.iload X0.here hx rfl (hb hby at_46) rfl ?_
        refine XS.iconst X0.here hx rfl (hb hby at_48) ?_
        refine XS.iand X0.here hx rfl (hb hby at_49) rfl ?_
        refine XS.ifYes X0.here hx rfl (pc0 := 50) (pc' := 66) rfl (hb hby at_50) rfl ((if0 _ _).trans (teq hc3).1) (by decide) (by decide) ?_
        refine XS.iload X0.here hx rfl (hb hby at_66) rfl ?_
        refine XS.bipush X0.here hx rfl (hb hby at_68) ?_
        refine XS.iushr X0.here hx rfl (hb hby at_70) rfl ?_
        show Sp p e below s₁ (mkF m 71 #[.val (.int p0), .val (.int p1), .val (.int p2), .val (.int p3), .val (.int p4), .val (.int (fx1 p0)), .val (.int (fx1 p1)), .val (.int p3), .unset, .unset, .unset, .unset, .unset, .unset, .unset] [(.int (fx2 p4))]) _
        refine XS.iconst X0.here hx rfl (hb hby at_71) ?_
        refine XS.iand X0.here hx rfl (hb hby at_72) rfl ?_
        refine XS.istore X0.here hx rfl (hb hby at_73) rfl (l' := #[.val (.int p0), .val (.int p1), .val (.int p2), .val (.int p3), .val (.int p4), .val (.int (fx1 p0)), .val (.int (fx1 p1)), .val (.int p3), .val (.int (fx3 p4)), .unset, .unset, .unset, .unset, .unset, .unset]) rfl ?_
        exact kt
      · skip
        have hc1 := d0
        have hc2 := d1
        have hc3 := d2
        refine ⟨((p1 &&& (2147483647 : Int32)) % (10 : Int32)), (p2 ^^^ ((1 : Int32) <<< ((((p4.toUInt32 >>> ((3 : Int32) &&& 31).toUInt32).toInt32) &&& (31 : Int32)) &&& 31))), (own_rem (x := p1) (m := (2147483647 : Int32)) (M := 2147483647) rfl (by decide) (y := (10 : Int32)) (d := 10) rfl (by decide)), ?_⟩
        intro p l e R s m args below meth c s₁ locs cells slots Z a0 X0 hx hZ hw hby hown target kt
        show Sp p e below s₁ (mkF m 0 #[.val (.int p0), .val (.int p1), .val (.int p2), .val (.int p3), .val (.int p4), .unset, .unset, .unset, .unset, .unset, .unset, .unset, .unset, .unset, .unset] []) _
        refine XS.iloadN X0.here hx rfl (hb hby at_0) rfl ?_
        show Sp p e below s₁ (mkF m 1 #[.val (.int p0), .val (.int p1), .val (.int p2), .val (.int p3), .val (.int p4), .unset, .unset, .unset, .unset, .unset, .unset, .unset, .unset, .unset, .unset] [(.int p0)]) _
        refine X0.ldcI hx hown (mvT hZ (wq hw 0 rfl)) rfl (hb hby at_1) ?_
        show Sp p e below s₁ (mkF m 3 #[.val (.int p0), .val (.int p1), .val (.int p2), .val (.int p3), .val (.int p4), .unset, .unset, .unset, .unset, .unset, .unset, .unset, .unset, .unset, .unset] [(.int (2147483647 : Int32)), (.int p0)]) _
        refine XS.iand X0.here hx rfl (hb hby at_3) rfl ?_
        refine XS.bipush X0.here hx rfl (hb hby at_4) ?_
        show Sp p e below s₁ (mkF m 6 #[.val (.int p0), .val (.int p1), .val (.int p2), .val (.int p3), .val (.int p4), .unset, .unset, .unset, .unset, .unset, .unset, .unset, .unset, .unset, .unset] [(.int (10 : Int32)), (.int (fx0 p0))]) _
        refine iremM X0 hx rfl (hb hby at_6) rfl (by decide) ?_
        show Sp p e below s₁ (mkF m 7 #[.val (.int p0), .val (.int p1), .val (.int p2), .val (.int p3), .val (.int p4), .unset, .unset, .unset, .unset, .unset, .unset, .unset, .unset, .unset, .unset] [(.int (fx1 p0))]) _
        refine XS.istore X0.here hx rfl (hb hby at_7) rfl (l' := #[.val (.int p0), .val (.int p1), .val (.int p2), .val (.int p3), .val (.int p4), .val (.int (fx1 p0)), .unset, .unset, .unset, .unset, .unset, .unset, .unset, .unset, .unset]) rfl ?_
        refine XS.iload X0.here hx rfl (hb hby at_9) rfl ?_
        refine XS.iconst X0.here hx rfl (hb hby at_11) ?_
        refine XS.iand X0.here hx rfl (hb hby at_12) rfl ?_
        refine XS.ifYes X0.here hx rfl (pc0 := 13) (pc' := 21) rfl (hb hby at_13) rfl ((if0 _ _).trans (teq hc1).1) (by decide) (by decide) ?_
        refine XS.iloadN X0.here hx rfl (hb hby at_21) rfl ?_
        show Sp p e below s₁ (mkF m 22 #[.val (.int p0), .val (.int p1), .val (.int p2), .val (.int p3), .val (.int p4), .val (.int (fx1 p0)), .unset, .unset, .unset, .unset, .unset, .unset, .unset, .unset, .unset] [(.int p1)]) _
        refine X0.ldcI hx hown (mvT hZ (wq hw 0 rfl)) rfl (hb hby at_22) ?_
        show Sp p e below s₁ (mkF m 24 #[.val (.int p0), .val (.int p1), .val (.int p2), .val (.int p3), .val (.int p4), .val (.int (fx1 p0)), .unset, .unset, .unset, .unset, .unset, .unset, .unset, .unset, .unset] [(.int (2147483647 : Int32)), (.int p1)]) _
        refine XS.iand X0.here hx rfl (hb hby at_24) rfl ?_
        refine XS.bipush X0.here hx rfl (hb hby at_25) ?_
        show Sp p e below s₁ (mkF m 27 #[.val (.int p0), .val (.int p1), .val (.int p2), .val (.int p3), .val (.int p4), .val (.int (fx1 p0)), .unset, .unset, .unset, .unset, .unset, .unset, .unset, .unset, .unset] [(.int (10 : Int32)), (.int (fx0 p1))]) _
        refine iremM X0 hx rfl (hb hby at_27) rfl (by decide) ?_
        show Sp p e below s₁ (mkF m 28 #[.val (.int p0), .val (.int p1), .val (.int p2), .val (.int p3), .val (.int p4), .val (.int (fx1 p0)), .unset, .unset, .unset, .unset, .unset, .unset, .unset, .unset, .unset] [(.int (fx1 p1))]) _
        refine XS.istore X0.here hx rfl (hb hby at_28) rfl (l' := #[.val (.int p0), .val (.int p1), .val (.int p2), .val (.int p3), .val (.int p4), .val (.int (fx1 p0)), .val (.int (fx1 p1)), .unset, .unset, .unset, .unset, .unset, .unset, .unset, .unset]) rfl ?_
        refine XS.iloadN X0.here hx rfl (hb hby at_30) rfl ?_
        refine XS.istore X0.here hx rfl (hb hby at_31) rfl (l' := #[.val (.int p0), .val (.int p1), .val (.int p2), .val (.int p3), .val (.int p4), .val (.int (fx1 p0)), .val (.int (fx1 p1)), .val (.int p3), .unset, .unset, .unset, .unset, .unset, .unset, .unset]) rfl ?_
        refine XS.iload X0.here hx rfl (hb hby at_33) rfl ?_
        refine XS.iconst X0.here hx rfl (hb hby at_35) ?_
        refine XS.iand X0.here hx rfl (hb hby at_36) rfl ?_
        refine XS.ifYes X0.here hx rfl (pc0 := 37) (pc' := 46) rfl (hb hby at_37) rfl ((if0 _ _).trans (teq hc2).1) (by decide) (by decide) ?_
        show Sp p e below s₁ (mkF m 46 #[.val (.int p0), .val (.int p1), .val (.int p2), .val (.int p3), .val (.int p4), .val (.int (fx1 p0)), .val (.int (fx1 p1)), .val (.int p3), .unset, .unset, .unset, .unset, .unset, .unset, .unset] []) _
        refine XS.iload X0.here hx rfl (hb hby at_46) rfl ?_
        refine XS.iconst X0.here hx rfl (hb hby at_48) ?_
        refine XS.iand X0.here hx rfl (hb hby at_49) rfl ?_
        refine XS.ifNo X0.here hx rfl (hb hby at_50) rfl ((if0 _ _).trans (feq hc3).1) ?_
        refine XS.iloadN X0.here hx rfl (hb hby at_53) rfl ?_
        refine XS.iconst X0.here hx rfl (hb hby at_54) ?_
        refine XS.iload X0.here hx rfl (hb hby at_55) rfl ?_
        show Sp p e below s₁ (mkF m 57 #[.val (.int p0), .val (.int p1), .val (.int p2), .val (.int p3), .val (.int p4), .val (.int (fx1 p0)), .val (.int (fx1 p1)), .val (.int p3), .unset, .unset, .unset, .unset, .unset, .unset, .unset] [(.int p4), (.int (1 : Int32)), (.int p2)]) _
        refine XS.iconst X0.here hx rfl (hb hby at_57) ?_
        refine XS.iushr X0.here hx rfl (hb hby at_58) rfl ?_
        refine XS.bipush X0.here hx rfl (hb hby at_59) ?_
        refine XS.iand X0.here hx rfl (hb hby at_61) rfl ?_
        refine XS.ishl X0.here hx rfl (hb hby at_62) rfl ?_
        show Sp p e below s₁ (mkF m 63 #[.val (.int p0), .val (.int p1), .val (.int p2), .val (.int p3), .val (.int p4), .val (.int (fx1 p0)), .val (.int (fx1 p1)), .val (.int p3), .unset, .unset, .unset, .unset, .unset, .unset, .unset] [(.int (fx4 p4)), (.int p2)]) _
        refine XS.ixor X0.here hx rfl (hb hby at_63) rfl ?_
        refine XS.istore X0.here hx rfl (hb hby at_64) rfl (l' := #[.val (.int p0), .val (.int p1), .val (.int p2), .val (.int p3), .val (.int p4), .val (.int (fx1 p0)), .val (.int (fx1 p1)), .val (.int (fx5 p2 p4)), .unset, .unset, .unset, .unset, .unset, .unset, .unset]) rfl ?_
        refine XS.iload X0.here hx rfl (hb hby at_66) rfl ?_
        refine XS.bipush X0.here hx rfl (hb hby at_68) ?_
        refine XS.iushr X0.here hx rfl (hb hby at_70) rfl ?_
        refine XS.iconst X0.here hx rfl (hb hby at_71) ?_
        refine XS.iand X0.here hx rfl (hb hby at_72) rfl ?_
        show Sp p e below s₁ (mkF m 73 #[.val (.int p0), .val (.int p1), .val (.int p2), .val (.int p3), .val (.int p4), .val (.int (fx1 p0)), .val (.int (fx1 p1)), .val (.int (fx5 p2 p4)), .unset, .unset, .unset, .unset, .unset, .unset, .unset] [(.int (fx3 p4))]) _
        refine XS.istore X0.here hx rfl (hb hby at_73) rfl (l' := #[.val (.int p0), .val (.int p1), .val (.int p2), .val (.int p3), .val (.int p4), .val (.int (fx1 p0)), .val (.int (fx1 p1)), .val (.int (fx5 p2 p4)), .val (.int (fx3 p4)), .unset, .unset, .unset, .unset, .unset, .unset]) rfl ?_
        exact kt
    · skip
      have hc1 := d0
      have hc2 := d1
      refine ⟨((p1 &&& (2147483647 : Int32)) % (10 : Int32)), p2, (own_rem (x := p1) (m := (2147483647 : Int32)) (M := 2147483647) rfl (by decide) (y := (10 : Int32)) (d := 10) rfl (by decide)), ?_⟩
      intro p l e R s m args below meth c s₁ locs cells slots Z a0 X0 hx hZ hw hby hown target kt
      show Sp p e below s₁ (mkF m 0 #[.val (.int p0), .val (.int p1), .val (.int p2), .val (.int p3), .val (.int p4), .unset, .unset, .unset, .unset, .unset, .unset, .unset, .unset, .unset, .unset] []) _
      refine XS.iloadN X0.here hx rfl (hb hby at_0) rfl ?_
      show Sp p e below s₁ (mkF m 1 #[.val (.int p0), .val (.int p1), .val (.int p2), .val (.int p3), .val (.int p4), .unset, .unset, .unset, .unset, .unset, .unset, .unset, .unset, .unset, .unset] [(.int p0)]) _
      refine X0.ldcI hx hown (mvT hZ (wq hw 0 rfl)) rfl (hb hby at_1) ?_
      show Sp p e below s₁ (mkF m 3 #[.val (.int p0), .val (.int p1), .val (.int p2), .val (.int p3), .val (.int p4), .unset, .unset, .unset, .unset, .unset, .unset, .unset, .unset, .unset, .unset] [(.int (2147483647 : Int32)), (.int p0)]) _
      refine XS.iand X0.here hx rfl (hb hby at_3) rfl ?_
      refine XS.bipush X0.here hx rfl (hb hby at_4) ?_
      show Sp p e below s₁ (mkF m 6 #[.val (.int p0), .val (.int p1), .val (.int p2), .val (.int p3), .val (.int p4), .unset, .unset, .unset, .unset, .unset, .unset, .unset, .unset, .unset, .unset] [(.int (10 : Int32)), (.int (fx0 p0))]) _
      refine iremM X0 hx rfl (hb hby at_6) rfl (by decide) ?_
      show Sp p e below s₁ (mkF m 7 #[.val (.int p0), .val (.int p1), .val (.int p2), .val (.int p3), .val (.int p4), .unset, .unset, .unset, .unset, .unset, .unset, .unset, .unset, .unset, .unset] [(.int (fx1 p0))]) _
      refine XS.istore X0.here hx rfl (hb hby at_7) rfl (l' := #[.val (.int p0), .val (.int p1), .val (.int p2), .val (.int p3), .val (.int p4), .val (.int (fx1 p0)), .unset, .unset, .unset, .unset, .unset, .unset, .unset, .unset, .unset]) rfl ?_
      refine XS.iload X0.here hx rfl (hb hby at_9) rfl ?_
      refine XS.iconst X0.here hx rfl (hb hby at_11) ?_
      refine XS.iand X0.here hx rfl (hb hby at_12) rfl ?_
      refine XS.ifYes X0.here hx rfl (pc0 := 13) (pc' := 21) rfl (hb hby at_13) rfl ((if0 _ _).trans (teq hc1).1) (by decide) (by decide) ?_
      refine XS.iloadN X0.here hx rfl (hb hby at_21) rfl ?_
      show Sp p e below s₁ (mkF m 22 #[.val (.int p0), .val (.int p1), .val (.int p2), .val (.int p3), .val (.int p4), .val (.int (fx1 p0)), .unset, .unset, .unset, .unset, .unset, .unset, .unset, .unset, .unset] [(.int p1)]) _
      refine X0.ldcI hx hown (mvT hZ (wq hw 0 rfl)) rfl (hb hby at_22) ?_
      show Sp p e below s₁ (mkF m 24 #[.val (.int p0), .val (.int p1), .val (.int p2), .val (.int p3), .val (.int p4), .val (.int (fx1 p0)), .unset, .unset, .unset, .unset, .unset, .unset, .unset, .unset, .unset] [(.int (2147483647 : Int32)), (.int p1)]) _
      refine XS.iand X0.here hx rfl (hb hby at_24) rfl ?_
      refine XS.bipush X0.here hx rfl (hb hby at_25) ?_
      show Sp p e below s₁ (mkF m 27 #[.val (.int p0), .val (.int p1), .val (.int p2), .val (.int p3), .val (.int p4), .val (.int (fx1 p0)), .unset, .unset, .unset, .unset, .unset, .unset, .unset, .unset, .unset] [(.int (10 : Int32)), (.int (fx0 p1))]) _
      refine iremM X0 hx rfl (hb hby at_27) rfl (by decide) ?_
      show Sp p e below s₁ (mkF m 28 #[.val (.int p0), .val (.int p1), .val (.int p2), .val (.int p3), .val (.int p4), .val (.int (fx1 p0)), .unset, .unset, .unset, .unset, .unset, .unset, .unset, .unset, .unset] [(.int (fx1 p1))]) _
      refine XS.istore X0.here hx rfl (hb hby at_28) rfl (l' := #[.val (.int p0), .val (.int p1), .val (.int p2), .val (.int p3), .val (.int p4), .val (.int (fx1 p0)), .val (.int (fx1 p1)), .unset, .unset, .unset, .unset, .unset, .unset, .unset, .unset]) rfl ?_
      refine XS.iloadN X0.here hx rfl (hb hby at_30) rfl ?_
      refine XS.istore X0.here hx rfl (hb hby at_31) rfl (l' := #[.val (.int p0), .val (.int p1), .val (.int p2), .val (.int p3), .val (.int p4), .val (.int (fx1 p0)), .val (.int (fx1 p1)), .val (.int p3), .unset, .unset, .unset, .unset, .unset, .unset, .unset]) rfl ?_
      refine XS.iload X0.here hx rfl (hb hby at_33) rfl ?_
      refine XS.iconst X0.here hx rfl (hb hby at_35) ?_
      refine XS.iand X0.here hx rfl (hb hby at_36) rfl ?_
      refine XS.ifNo X0.here hx rfl (hb hby at_37) rfl ((if0 _ _).trans (feq hc2).1) ?_
      show Sp p e below s₁ (mkF m 40 #[.val (.int p0), .val (.int p1), .val (.int p2), .val (.int p3), .val (.int p4), .val (.int (fx1 p0)), .val (.int (fx1 p1)), .val (.int p3), .unset, .unset, .unset, .unset, .unset, .unset, .unset] []) _
      refine XS.iloadN X0.here hx rfl (hb hby at_40) rfl ?_
      refine XS.istore X0.here hx rfl (hb hby at_41) rfl (l' := #[.val (.int p0), .val (.int p1), .val (.int p2), .val (.int p3), .val (.int p4), .val (.int (fx1 p0)), .val (.int (fx1 p1)), .val (.int p2), .unset, .unset, .unset, .unset, .unset, .unset, .unset]) rfl ?_
      refine XS.goto X0.here hx rfl (pc0 := 43) (pc' := 66) rfl (hb hby at_43) (by decide) (by decide) ?_
      refine XS.iload X0.here hx rfl (hb hby at_66) rfl ?_
      refine XS.bipush X0.here hx rfl (hb hby at_68) ?_
      refine XS.iushr X0.here hx rfl (hb hby at_70) rfl ?_
      refine XS.iconst X0.here hx rfl (hb hby at_71) ?_
      show Sp p e below s₁ (mkF m 72 #[.val (.int p0), .val (.int p1), .val (.int p2), .val (.int p3), .val (.int p4), .val (.int (fx1 p0)), .val (.int (fx1 p1)), .val (.int p2), .unset, .unset, .unset, .unset, .unset, .unset, .unset] [(.int (3 : Int32)), (.int (fx2 p4))]) _
      refine XS.iand X0.here hx rfl (hb hby at_72) rfl ?_
      refine XS.istore X0.here hx rfl (hb hby at_73) rfl (l' := #[.val (.int p0), .val (.int p1), .val (.int p2), .val (.int p3), .val (.int p4), .val (.int (fx1 p0)), .val (.int (fx1 p1)), .val (.int p2), .val (.int (fx3 p4)), .unset, .unset, .unset, .unset, .unset, .unset]) rfl ?_
      exact kt
  · skip
    by_cases d1 : (p4 &&& (2 : Int32)) = (0 : Int32)
    · skip
      by_cases d2 : (p4 &&& (4 : Int32)) = (0 : Int32)
      · skip
        have hc1 := d0
        have hc2 := d1
        have hc3 := d2
        refine ⟨((p0 &&& (2147483647 : Int32)) % (10 : Int32)), p3, (own_rem (x := p0) (m := (2147483647 : Int32)) (M := 2147483647) rfl (by decide) (y := (10 : Int32)) (d := 10) rfl (by decide)), ?_⟩
        intro p l e R s m args below meth c s₁ locs cells slots Z a0 X0 hx hZ hw hby hown target kt
        show Sp p e below s₁ (mkF m 0 #[.val (.int p0), .val (.int p1), .val (.int p2), .val (.int p3), .val (.int p4), .unset, .unset, .unset, .unset, .unset, .unset, .unset, .unset, .unset, .unset] []) _
        refine XS.iloadN X0.here hx rfl (hb hby at_0) rfl ?_
        show Sp p e below s₁ (mkF m 1 #[.val (.int p0), .val (.int p1), .val (.int p2), .val (.int p3), .val (.int p4), .unset, .unset, .unset, .unset, .unset, .unset, .unset, .unset, .unset, .unset] [(.int p0)]) _
        refine X0.ldcI hx hown (mvT hZ (wq hw 0 rfl)) rfl (hb hby at_1) ?_
        show Sp p e below s₁ (mkF m 3 #[.val (.int p0), .val (.int p1), .val (.int p2), .val (.int p3), .val (.int p4), .unset, .unset, .unset, .unset, .unset, .unset, .unset, .unset, .unset, .unset] [(.int (2147483647 : Int32)), (.int p0)]) _
        refine XS.iand X0.here hx rfl (hb hby at_3) rfl ?_
        refine XS.bipush X0.here hx rfl (hb hby at_4) ?_
        show Sp p e below s₁ (mkF m 6 #[.val (.int p0), .val (.int p1), .val (.int p2), .val (.int p3), .val (.int p4), .unset, .unset, .unset, .unset, .unset, .unset, .unset, .unset, .unset, .unset] [(.int (10 : Int32)), (.int (fx0 p0))]) _
        refine iremM X0 hx rfl (hb hby at_6) rfl (by decide) ?_
        show Sp p e below s₁ (mkF m 7 #[.val (.int p0), .val (.int p1), .val (.int p2), .val (.int p3), .val (.int p4), .unset, .unset, .unset, .unset, .unset, .unset, .unset, .unset, .unset, .unset] [(.int (fx1 p0))]) _
        refine XS.istore X0.here hx rfl (hb hby at_7) rfl (l' := #[.val (.int p0), .val (.int p1), .val (.int p2), .val (.int p3), .val (.int p4), .val (.int (fx1 p0)), .unset, .unset, .unset, .unset, .unset, .unset, .unset, .unset, .unset]) rfl ?_
        refine XS.iload X0.here hx rfl (hb hby at_9) rfl ?_
        refine XS.iconst X0.here hx rfl (hb hby at_11) ?_
        refine XS.iand X0.here hx rfl (hb hby at_12) rfl ?_
        refine XS.ifNo X0.here hx rfl (hb hby at_13) rfl ((if0 _ _).trans (feq hc1).1) ?_
        refine XS.iload X0.here hx rfl (hb hby at_16) rfl ?_
        refine XS.goto X0.here hx rfl (pc0 := 18) (pc' := 28) rfl (hb hby at_18) (by decide) (by decide) ?_
        show Sp p e below s₁ (mkF m 28 #[.val (.int p0), .val (.int p1), .val (.int p2), .val (.int p3), .val (.int p4), .val (.int (fx1 p0)), .unset, .unset, .unset, .unset, .unset, .unset, .unset, .unset, .unset] [(.int (fx1 p0))]) _
        refine XS.istore X0.here hx rfl (hb hby at_28) rfl (l' := #[.val (.int p0), .val (.int p1), .val (.int p2), .val (.int p3), .val (.int p4), .val (.int (fx1 p0)), .val (.int (fx1 p0)), .unset, .unset, .unset, .unset, .unset, .unset, .unset, .unset]) rfl ?_
        refine XS.iloadN X0.here hx rfl (hb hby at_30) rfl ?_
        refine XS.istore X0.here hx rfl (hb hby at_31) rfl (l' := #[.val (.int p0), .val (.int p1), .val (.int p2), .val (.int p3), .val (.int p4), .val (.int (fx1 p0)), .val (.int (fx1 p0)), .val (.int p3), .unset, .unset, .unset, .unset, .unset, .unset, .unset]) rfl ?_
        refine XS.iload X0.here hx rfl (hb hby at_33) rfl ?_
        refine XS.iconst X0.here hx rfl (hb hby at_35) ?_
        refine XS.iand X0.here hx rfl (hb hby at_36) rfl ?_
        refine XS.ifYes X0.here hx rfl (pc0 := 37) (pc' := 46) rfl (hb hby at_37) rfl ((if0 _ _).trans (teq hc2).1) (by decide) (by decide) ?_
        show Sp p e below s₁ (mkF m 46 #[.val (.int p0), .val (.int p1), .val (.int p2), .val (.int p3), .val (.int p4), .val (.int (fx1 p0)), .val (.int (fx1 p0)), .val (.int p3), .unset, .unset, .unset, .unset, .unset, .unset, .unset] []) _
        refine XS.iload X0.here hx rfl (hb hby at_46) rfl ?_
        refine XS.iconst X0.here hx rfl (hb hby at_48) ?_
        refine XS.iand X0.here hx rfl (hb hby at_49) rfl ?_
        refine XS.ifYes X0.here hx rfl (pc0 := 50) (pc' := 66) rfl (hb hby at_50) rfl ((if0 _ _).trans (teq hc3).1) (by decide) (by decide) ?_
        refine XS.iload X0.here hx rfl (hb hby at_66) rfl ?_
        refine XS.bipush X0.here hx rfl (hb hby at_68) ?_
        refine XS.iushr X0.here hx rfl (hb hby at_70) rfl ?_
        show Sp p e below s₁ (mkF m 71 #[.val (.int p0), .val (.int p1), .val (.int p2), .val (.int p3), .val (.int p4), .val (.int (fx1 p0)), .val (.int (fx1 p0)), .val (.int p3), .unset, .unset, .unset, .unset, .unset, .unset, .unset] [(.int (fx2 p4))]) _
        refine XS.iconst X0.here hx rfl (hb hby at_71) ?_
        refine XS.iand X0.here hx rfl (hb hby at_72) rfl ?_
        refine XS.istore X0.here hx rfl (hb hby at_73) rfl (l' := #[.val (.int p0), .val (.int p1), .val (.int p2), .val (.int p3), .val (.int p4), .val (.int (fx1 p0)), .val (.int (fx1 p0)), .val (.int p3), .val (.int (fx3 p4)), .unset, .unset, .unset, .unset, .unset, .unset]) rfl ?_
        exact kt
      · skip
        have hc1 := d0
        have hc2 := d1
        have hc3 := d2
        refine ⟨((p0 &&& (2147483647 : Int32)) % (10 : Int32)), (p2 ^^^ ((1 : Int32) <<< ((((p4.toUInt32 >>> ((3 : Int32) &&& 31).toUInt32).toInt32) &&& (31 : Int32)) &&& 31))), (own_rem (x := p0) (m := (2147483647 : Int32)) (M := 2147483647) rfl (by decide) (y := (10 : Int32)) (d := 10) rfl (by decide)), ?_⟩
        intro p l e R s m args below meth c s₁ locs cells slots Z a0 X0 hx hZ hw hby hown target kt
        show Sp p e below s₁ (mkF m 0 #[.val (.int p0), .val (.int p1), .val (.int p2), .val (.int p3), .val (.int p4), .unset, .unset, .unset, .unset, .unset, .unset, .unset, .unset, .unset, .unset] []) _
        refine XS.iloadN X0.here hx rfl (hb hby at_0) rfl ?_
        show Sp p e below s₁ (mkF m 1 #[.val (.int p0), .val (.int p1), .val (.int p2), .val (.int p3), .val (.int p4), .unset, .unset, .unset, .unset, .unset, .unset, .unset, .unset, .unset, .unset] [(.int p0)]) _
        refine X0.ldcI hx hown (mvT hZ (wq hw 0 rfl)) rfl (hb hby at_1) ?_
        show Sp p e below s₁ (mkF m 3 #[.val (.int p0), .val (.int p1), .val (.int p2), .val (.int p3), .val (.int p4), .unset, .unset, .unset, .unset, .unset, .unset, .unset, .unset, .unset, .unset] [(.int (2147483647 : Int32)), (.int p0)]) _
        refine XS.iand X0.here hx rfl (hb hby at_3) rfl ?_
        refine XS.bipush X0.here hx rfl (hb hby at_4) ?_
        show Sp p e below s₁ (mkF m 6 #[.val (.int p0), .val (.int p1), .val (.int p2), .val (.int p3), .val (.int p4), .unset, .unset, .unset, .unset, .unset, .unset, .unset, .unset, .unset, .unset] [(.int (10 : Int32)), (.int (fx0 p0))]) _
        refine iremM X0 hx rfl (hb hby at_6) rfl (by decide) ?_
        show Sp p e below s₁ (mkF m 7 #[.val (.int p0), .val (.int p1), .val (.int p2), .val (.int p3), .val (.int p4), .unset, .unset, .unset, .unset, .unset, .unset, .unset, .unset, .unset, .unset] [(.int (fx1 p0))]) _
        refine XS.istore X0.here hx rfl (hb hby at_7) rfl (l' := #[.val (.int p0), .val (.int p1), .val (.int p2), .val (.int p3), .val (.int p4), .val (.int (fx1 p0)), .unset, .unset, .unset, .unset, .unset, .unset, .unset, .unset, .unset]) rfl ?_
        refine XS.iload X0.here hx rfl (hb hby at_9) rfl ?_
        refine XS.iconst X0.here hx rfl (hb hby at_11) ?_
        refine XS.iand X0.here hx rfl (hb hby at_12) rfl ?_
        refine XS.ifNo X0.here hx rfl (hb hby at_13) rfl ((if0 _ _).trans (feq hc1).1) ?_
        refine XS.iload X0.here hx rfl (hb hby at_16) rfl ?_
        refine XS.goto X0.here hx rfl (pc0 := 18) (pc' := 28) rfl (hb hby at_18) (by decide) (by decide) ?_
        show Sp p e below s₁ (mkF m 28 #[.val (.int p0), .val (.int p1), .val (.int p2), .val (.int p3), .val (.int p4), .val (.int (fx1 p0)), .unset, .unset, .unset, .unset, .unset, .unset, .unset, .unset, .unset] [(.int (fx1 p0))]) _
        refine XS.istore X0.here hx rfl (hb hby at_28) rfl (l' := #[.val (.int p0), .val (.int p1), .val (.int p2), .val (.int p3), .val (.int p4), .val (.int (fx1 p0)), .val (.int (fx1 p0)), .unset, .unset, .unset, .unset, .unset, .unset, .unset, .unset]) rfl ?_
        refine XS.iloadN X0.here hx rfl (hb hby at_30) rfl ?_
        refine XS.istore X0.here hx rfl (hb hby at_31) rfl (l' := #[.val (.int p0), .val (.int p1), .val (.int p2), .val (.int p3), .val (.int p4), .val (.int (fx1 p0)), .val (.int (fx1 p0)), .val (.int p3), .unset, .unset, .unset, .unset, .unset, .unset, .unset]) rfl ?_
        refine XS.iload X0.here hx rfl (hb hby at_33) rfl ?_
        refine XS.iconst X0.here hx rfl (hb hby at_35) ?_
        refine XS.iand X0.here hx rfl (hb hby at_36) rfl ?_
        refine XS.ifYes X0.here hx rfl (pc0 := 37) (pc' := 46) rfl (hb hby at_37) rfl ((if0 _ _).trans (teq hc2).1) (by decide) (by decide) ?_
        show Sp p e below s₁ (mkF m 46 #[.val (.int p0), .val (.int p1), .val (.int p2), .val (.int p3), .val (.int p4), .val (.int (fx1 p0)), .val (.int (fx1 p0)), .val (.int p3), .unset, .unset, .unset, .unset, .unset, .unset, .unset] []) _
        refine XS.iload X0.here hx rfl (hb hby at_46) rfl ?_
        refine XS.iconst X0.here hx rfl (hb hby at_48) ?_
        refine XS.iand X0.here hx rfl (hb hby at_49) rfl ?_
        refine XS.ifNo X0.here hx rfl (hb hby at_50) rfl ((if0 _ _).trans (feq hc3).1) ?_
        refine XS.iloadN X0.here hx rfl (hb hby at_53) rfl ?_
        refine XS.iconst X0.here hx rfl (hb hby at_54) ?_
        refine XS.iload X0.here hx rfl (hb hby at_55) rfl ?_
        show Sp p e below s₁ (mkF m 57 #[.val (.int p0), .val (.int p1), .val (.int p2), .val (.int p3), .val (.int p4), .val (.int (fx1 p0)), .val (.int (fx1 p0)), .val (.int p3), .unset, .unset, .unset, .unset, .unset, .unset, .unset] [(.int p4), (.int (1 : Int32)), (.int p2)]) _
        refine XS.iconst X0.here hx rfl (hb hby at_57) ?_
        refine XS.iushr X0.here hx rfl (hb hby at_58) rfl ?_
        refine XS.bipush X0.here hx rfl (hb hby at_59) ?_
        refine XS.iand X0.here hx rfl (hb hby at_61) rfl ?_
        refine XS.ishl X0.here hx rfl (hb hby at_62) rfl ?_
        show Sp p e below s₁ (mkF m 63 #[.val (.int p0), .val (.int p1), .val (.int p2), .val (.int p3), .val (.int p4), .val (.int (fx1 p0)), .val (.int (fx1 p0)), .val (.int p3), .unset, .unset, .unset, .unset, .unset, .unset, .unset] [(.int (fx4 p4)), (.int p2)]) _
        refine XS.ixor X0.here hx rfl (hb hby at_63) rfl ?_
        refine XS.istore X0.here hx rfl (hb hby at_64) rfl (l' := #[.val (.int p0), .val (.int p1), .val (.int p2), .val (.int p3), .val (.int p4), .val (.int (fx1 p0)), .val (.int (fx1 p0)), .val (.int (fx5 p2 p4)), .unset, .unset, .unset, .unset, .unset, .unset, .unset]) rfl ?_
        refine XS.iload X0.here hx rfl (hb hby at_66) rfl ?_
        refine XS.bipush X0.here hx rfl (hb hby at_68) ?_
        refine XS.iushr X0.here hx rfl (hb hby at_70) rfl ?_
        refine XS.iconst X0.here hx rfl (hb hby at_71) ?_
        refine XS.iand X0.here hx rfl (hb hby at_72) rfl ?_
        show Sp p e below s₁ (mkF m 73 #[.val (.int p0), .val (.int p1), .val (.int p2), .val (.int p3), .val (.int p4), .val (.int (fx1 p0)), .val (.int (fx1 p0)), .val (.int (fx5 p2 p4)), .unset, .unset, .unset, .unset, .unset, .unset, .unset] [(.int (fx3 p4))]) _
        refine XS.istore X0.here hx rfl (hb hby at_73) rfl (l' := #[.val (.int p0), .val (.int p1), .val (.int p2), .val (.int p3), .val (.int p4), .val (.int (fx1 p0)), .val (.int (fx1 p0)), .val (.int (fx5 p2 p4)), .val (.int (fx3 p4)), .unset, .unset, .unset, .unset, .unset, .unset]) rfl ?_
        exact kt
    · skip
      have hc1 := d0
      have hc2 := d1
      refine ⟨((p0 &&& (2147483647 : Int32)) % (10 : Int32)), p2, (own_rem (x := p0) (m := (2147483647 : Int32)) (M := 2147483647) rfl (by decide) (y := (10 : Int32)) (d := 10) rfl (by decide)), ?_⟩
      intro p l e R s m args below meth c s₁ locs cells slots Z a0 X0 hx hZ hw hby hown target kt
      show Sp p e below s₁ (mkF m 0 #[.val (.int p0), .val (.int p1), .val (.int p2), .val (.int p3), .val (.int p4), .unset, .unset, .unset, .unset, .unset, .unset, .unset, .unset, .unset, .unset] []) _
      refine XS.iloadN X0.here hx rfl (hb hby at_0) rfl ?_
      show Sp p e below s₁ (mkF m 1 #[.val (.int p0), .val (.int p1), .val (.int p2), .val (.int p3), .val (.int p4), .unset, .unset, .unset, .unset, .unset, .unset, .unset, .unset, .unset, .unset] [(.int p0)]) _
      refine X0.ldcI hx hown (mvT hZ (wq hw 0 rfl)) rfl (hb hby at_1) ?_
      show Sp p e below s₁ (mkF m 3 #[.val (.int p0), .val (.int p1), .val (.int p2), .val (.int p3), .val (.int p4), .unset, .unset, .unset, .unset, .unset, .unset, .unset, .unset, .unset, .unset] [(.int (2147483647 : Int32)), (.int p0)]) _
      refine XS.iand X0.here hx rfl (hb hby at_3) rfl ?_
      refine XS.bipush X0.here hx rfl (hb hby at_4) ?_
      show Sp p e below s₁ (mkF m 6 #[.val (.int p0), .val (.int p1), .val (.int p2), .val (.int p3), .val (.int p4), .unset, .unset, .unset, .unset, .unset, .unset, .unset, .unset, .unset, .unset] [(.int (10 : Int32)), (.int (fx0 p0))]) _
      refine iremM X0 hx rfl (hb hby at_6) rfl (by decide) ?_
      show Sp p e below s₁ (mkF m 7 #[.val (.int p0), .val (.int p1), .val (.int p2), .val (.int p3), .val (.int p4), .unset, .unset, .unset, .unset, .unset, .unset, .unset, .unset, .unset, .unset] [(.int (fx1 p0))]) _
      refine XS.istore X0.here hx rfl (hb hby at_7) rfl (l' := #[.val (.int p0), .val (.int p1), .val (.int p2), .val (.int p3), .val (.int p4), .val (.int (fx1 p0)), .unset, .unset, .unset, .unset, .unset, .unset, .unset, .unset, .unset]) rfl ?_
      refine XS.iload X0.here hx rfl (hb hby at_9) rfl ?_
      refine XS.iconst X0.here hx rfl (hb hby at_11) ?_
      refine XS.iand X0.here hx rfl (hb hby at_12) rfl ?_
      refine XS.ifNo X0.here hx rfl (hb hby at_13) rfl ((if0 _ _).trans (feq hc1).1) ?_
      refine XS.iload X0.here hx rfl (hb hby at_16) rfl ?_
      refine XS.goto X0.here hx rfl (pc0 := 18) (pc' := 28) rfl (hb hby at_18) (by decide) (by decide) ?_
      show Sp p e below s₁ (mkF m 28 #[.val (.int p0), .val (.int p1), .val (.int p2), .val (.int p3), .val (.int p4), .val (.int (fx1 p0)), .unset, .unset, .unset, .unset, .unset, .unset, .unset, .unset, .unset] [(.int (fx1 p0))]) _
      refine XS.istore X0.here hx rfl (hb hby at_28) rfl (l' := #[.val (.int p0), .val (.int p1), .val (.int p2), .val (.int p3), .val (.int p4), .val (.int (fx1 p0)), .val (.int (fx1 p0)), .unset, .unset, .unset, .unset, .unset, .unset, .unset, .unset]) rfl ?_
      refine XS.iloadN X0.here hx rfl (hb hby at_30) rfl ?_
      refine XS.istore X0.here hx rfl (hb hby at_31) rfl (l' := #[.val (.int p0), .val (.int p1), .val (.int p2), .val (.int p3), .val (.int p4), .val (.int (fx1 p0)), .val (.int (fx1 p0)), .val (.int p3), .unset, .unset, .unset, .unset, .unset, .unset, .unset]) rfl ?_
      refine XS.iload X0.here hx rfl (hb hby at_33) rfl ?_
      refine XS.iconst X0.here hx rfl (hb hby at_35) ?_
      refine XS.iand X0.here hx rfl (hb hby at_36) rfl ?_
      refine XS.ifNo X0.here hx rfl (hb hby at_37) rfl ((if0 _ _).trans (feq hc2).1) ?_
      show Sp p e below s₁ (mkF m 40 #[.val (.int p0), .val (.int p1), .val (.int p2), .val (.int p3), .val (.int p4), .val (.int (fx1 p0)), .val (.int (fx1 p0)), .val (.int p3), .unset, .unset, .unset, .unset, .unset, .unset, .unset] []) _
      refine XS.iloadN X0.here hx rfl (hb hby at_40) rfl ?_
      refine XS.istore X0.here hx rfl (hb hby at_41) rfl (l' := #[.val (.int p0), .val (.int p1), .val (.int p2), .val (.int p3), .val (.int p4), .val (.int (fx1 p0)), .val (.int (fx1 p0)), .val (.int p2), .unset, .unset, .unset, .unset, .unset, .unset, .unset]) rfl ?_
      refine XS.goto X0.here hx rfl (pc0 := 43) (pc' := 66) rfl (hb hby at_43) (by decide) (by decide) ?_
      refine XS.iload X0.here hx rfl (hb hby at_66) rfl ?_
      refine XS.bipush X0.here hx rfl (hb hby at_68) ?_
      refine XS.iushr X0.here hx rfl (hb hby at_70) rfl ?_
      refine XS.iconst X0.here hx rfl (hb hby at_71) ?_
      show Sp p e below s₁ (mkF m 72 #[.val (.int p0), .val (.int p1), .val (.int p2), .val (.int p3), .val (.int p4), .val (.int (fx1 p0)), .val (.int (fx1 p0)), .val (.int p2), .unset, .unset, .unset, .unset, .unset, .unset, .unset] [(.int (3 : Int32)), (.int (fx2 p4))]) _
      refine XS.iand X0.here hx rfl (hb hby at_72) rfl ?_
      refine XS.istore X0.here hx rfl (hb hby at_73) rfl (l' := #[.val (.int p0), .val (.int p1), .val (.int p2), .val (.int p3), .val (.int p4), .val (.int (fx1 p0)), .val (.int (fx1 p0)), .val (.int p2), .val (.int (fx3 p4)), .unset, .unset, .unset, .unset, .unset, .unset]) rfl ?_
      exact kt
theorem d1_0 : decode method_4_code 0 = .ok (.iload_n 0, 1) := by decide +kernel
theorem d1_1 : decode method_4_code 1 = .ok (.invokestatic 31, 3) := by decide +kernel
theorem d2_0 : decode method_3_code 0 = .ok (.iload_n 0, 1) := by decide +kernel
theorem d2_1 : decode method_3_code 1 = .ok (.bipush 24, 2) := by decide +kernel
theorem d2_3 : decode method_3_code 3 = .ok (.iushr, 1) := by decide +kernel
theorem d2_4 : decode method_3_code 4 = .ok (.iconst 3, 1) := by decide +kernel
theorem d2_5 : decode method_3_code 5 = .ok (.iand, 1) := by decide +kernel
theorem d2_6 : decode method_3_code 6 = .ok (.ireturn, 1) := by decide +kernel
abbrev fx6 (x0 : Int32) : Int32 := (((x0.toUInt32 >>> ((24 : Int32) &&& 31).toUInt32).toInt32) &&& (3 : Int32))
abbrev y0 : MethodName := (⟨"com/example/ratebook/ratebook/model/PricedItemEqualsPinLaw", "len", "(I)I"⟩ : MethodName)
theorem ef_2_0 (m : MethodId) (x0 : Int32) : entryFrame m #[(.int x0)] 1 = mkF m 0 #[.val (.int x0)] [] := by first | (simp [entryFrame, mkF, argsToLocals, Value.category]; done) | rfl
theorem pn_2 : plainName "com/example/ratebook/ratebook/model/PricedItemEqualsPinLaw" = true := by first | (simp [plainName, overriddenIn]; done) | decide +kernel
def Q1 (Z : State) (v0 : Addr) (v1 : Addr) (v2 : Addr) (v3 : Addr) (v4 : Addr) (v5 : Addr) (v6 : Addr) (v7 : Addr) (v8 : Addr) (v9 : Addr) (cs_v : Int32) (p1 : Int32) (h0 : Heap) (n0 : Nat) (v : Option Value) (h : Heap) (L : List Loc) : Prop := v = some (.int (((p1.toUInt32 >>> ((24 : Int32) &&& 31).toUInt32).toInt32) &&& (3 : Int32))) ∧ Fr n0 L ∧ h = h0
theorem rm1 (l : Launch) (Z : State) (a0 : Array Value) (hw : ∀ d ∈ tables_1, d.before a0 Z = true) (ws : List Jvm.Cond) (v0 v1 v2 v3 v4 v5 v6 v7 v8 v9 : Addr) (cs_v : Int32) (hp : Perm Z v0 v1 v2 v3 v4 v5 v6 v7 v8 v9 cs_v) (p1 : Int32) (h0 : Heap) (n0 : Nat) (O0 : Old Z n0 h0) :
    MetFree l y0 (head1 (Jvm.Cond.code y0 method_3_code 1 (some .int) :: ws) ({ frames := 0, cells := 0, slots := 0, locals := 0 } : Room)) (fun a U => a = #[(.int p1)] ∧ Z.Warmed39 U.vm ∧ U.heap = h0) (fun _ _ _ _ _ => True) (fun _ U o U' => ∃ v L, o = .returned v ∧ Q1 Z v0 v1 v2 v3 v4 v5 v6 v7 v8 v9 cs_v p1 h0 n0 v U'.heap L ∧ FrameEnd U o U' L ({ frames := 0, cells := 0, slots := 0, locals := 0 } : Room).cells ({ frames := 0, cells := 0, slots := 0, locals := 0 } : Room).slots) := by
  refine MetFree.of_bodySF (plainFor_of_name pn_2) hisR ?_
  intro p e s m args below meth c s₁ Bd hml0 hP hK
  obtain ⟨rfl, hZ, hh⟩ := hP
  have hx := Bd.exec
  have hby := Bd.bytes
  have hml : c.maxLocals = 1 := hml0
  have hown : s.vm.findClass "com/example/ratebook/ratebook/model/PricedItemEqualsPinLaw" = some m.cls := findClass_of_methodNamed Bd.named
  have hnm := (name_of_methodNamed Bd.named Bd.method).1
  have X0 : Stand p l e ({ frames := 0, cells := 0, slots := 0, locals := 0 } : Room) s m #[(.int p1)] below meth c s₁ [] 0 0 := Stand.of_body Bd
  have e0 : s₁.heap = h0 := by rw [← hh, Bd.state]; rfl
  have N0 := Fr.nil n0
  obtain ⟨fs, hr, hrun, hended, hW, hsame⟩ := X0.leave (v := some (.int (((p1.toUInt32 >>> ((24 : Int32) &&& 31).toUInt32).toInt32) &&& (3 : Int32)))) (fun h => by rw [Bd.returns] at h; cases h)
  refine ⟨_, _, castTop (ef_2_0 m p1) ?_, hrun, hended, _, _, rfl, ?_, ⟨_, rfl⟩, hW, hsame.mono (by decide) (by decide)⟩
  · show Sp p e below s₁ (mkF m 0 #[.val (.int p1)] []) _
    refine XS.iloadN X0.here hx rfl (hb hby d2_0) rfl ?_
    refine XS.bipush X0.here hx rfl (hb hby d2_1) ?_
    refine XS.iushr X0.here hx rfl (hb hby d2_3) rfl ?_
    refine XS.iconst X0.here hx rfl (hb hby d2_4) ?_
    refine XS.iand X0.here hx rfl (hb hby d2_5) rfl ?_
    show Sp p e below s₁ (mkF m 6 #[.val (.int p1)] [(.int (fx6 p1))]) _
    exact retI X0 hx Bd.returns (hb hby d2_6) hr
  · show Q1 Z v0 v1 v2 v3 v4 v5 v6 v7 v8 v9 cs_v p1 h0 n0 _ s₁.heap _
    rw [e0]
    exact ⟨rfl, N0, rfl⟩
theorem pd_0 : parseMethodDescriptor "(I)I" = some ⟨[.int], some .int⟩ := by decide +kernel
theorem d1_4 : decode method_4_code 4 = .ok (.istore_n 1, 1) := by decide +kernel
theorem d1_5 : decode method_4_code 5 = .ok (.iload_n 0, 1) := by decide +kernel
theorem d1_6 : decode method_4_code 6 = .ok (.sipush 255, 3) := by decide +kernel
theorem d1_9 : decode method_4_code 9 = .ok (.iand, 1) := by decide +kernel
theorem d1_10 : decode method_4_code 10 = .ok (.i2c, 1) := by decide +kernel
theorem d1_11 : decode method_4_code 11 = .ok (.istore_n 2, 1) := by decide +kernel
abbrev fx7 (x0 : Int32) : Int32 := ((x0 &&& (255 : Int32)).toUInt32.toUInt16.toUInt32.toInt32)
theorem d1_12 : decode method_4_code 12 = .ok (.iload_n 0, 1) := by decide +kernel
theorem d1_13 : decode method_4_code 13 = .ok (.bipush 8, 2) := by decide +kernel
theorem d1_15 : decode method_4_code 15 = .ok (.iushr, 1) := by decide +kernel
theorem d1_16 : decode method_4_code 16 = .ok (.sipush 255, 3) := by decide +kernel
theorem d1_19 : decode method_4_code 19 = .ok (.iand, 1) := by decide +kernel
theorem d1_20 : decode method_4_code 20 = .ok (.i2c, 1) := by decide +kernel
theorem d1_21 : decode method_4_code 21 = .ok (.istore_n 3, 1) := by decide +kernel
abbrev fx8 (x0 : Int32) : Int32 := ((((x0.toUInt32 >>> ((8 : Int32) &&& 31).toUInt32).toInt32) &&& (255 : Int32)).toUInt32.toUInt16.toUInt32.toInt32)
theorem d1_22 : decode method_4_code 22 = .ok (.iload_n 0, 1) := by decide +kernel
theorem d1_23 : decode method_4_code 23 = .ok (.bipush 16, 2) := by decide +kernel
theorem d1_25 : decode method_4_code 25 = .ok (.iushr, 1) := by decide +kernel
theorem d1_26 : decode method_4_code 26 = .ok (.sipush 255, 3) := by decide +kernel
theorem d1_29 : decode method_4_code 29 = .ok (.iand, 1) := by decide +kernel
theorem d1_30 : decode method_4_code 30 = .ok (.i2c, 1) := by decide +kernel
theorem d1_31 : decode method_4_code 31 = .ok (.istore 4, 2) := by decide +kernel
abbrev fx9 (x0 : Int32) : Int32 := ((((x0.toUInt32 >>> ((16 : Int32) &&& 31).toUInt32).toInt32) &&& (255 : Int32)).toUInt32.toUInt16.toUInt32.toInt32)
theorem d1_33 : decode method_4_code 33 = .ok (.iload_n 1, 1) := by decide +kernel
theorem d1_34 : decode method_4_code 34 = .ok (.ifCond .ne 14, 3) := by decide +kernel
theorem d1_37 : decode method_4_code 37 = .ok (.new 35, 3) := by decide +kernel
theorem d1_40 : decode method_4_code 40 = .ok (.dup, 1) := by decide +kernel
theorem d1_41 : decode method_4_code 41 = .ok (.iconst 0, 1) := by decide +kernel
theorem d1_42 : decode method_4_code 42 = .ok (.newarray .char, 2) := by decide +kernel
theorem d1_44 : decode method_4_code 44 = .ok (.invokespecial 37, 3) := by decide +kernel
theorem d3_0 : decode jdk_42_method_3_code 0 = .ok (.aload_n 0, 1) := by decide +kernel
theorem d3_1 : decode jdk_42_method_3_code 1 = .ok (.aload_n 1, 1) := by decide +kernel
theorem d3_2 : decode jdk_42_method_3_code 2 = .ok (.iconst 0, 1) := by decide +kernel
theorem d3_3 : decode jdk_42_method_3_code 3 = .ok (.aload_n 1, 1) := by decide +kernel
theorem d3_4 : decode jdk_42_method_3_code 4 = .ok (.arraylength, 1) := by decide +kernel
theorem d3_5 : decode jdk_42_method_3_code 5 = .ok (.aconst_null, 1) := by decide +kernel
theorem d3_6 : decode jdk_42_method_3_code 6 = .ok (.invokespecial 27, 3) := by decide +kernel
theorem d4_0 : decode jdk_42_method_149_code 0 = .ok (.aload_n 0, 1) := by decide +kernel
theorem d4_1 : decode jdk_42_method_149_code 1 = .ok (.invokespecial 1, 3) := by decide +kernel
theorem d4_4 : decode jdk_42_method_149_code 4 = .ok (.iload_n 3, 1) := by decide +kernel
theorem d4_5 : decode jdk_42_method_149_code 5 = .ok (.ifCond .ne 22, 3) := by decide +kernel
theorem d4_8 : decode jdk_42_method_149_code 8 = .ok (.aload_n 0, 1) := by decide +kernel
theorem d4_9 : decode jdk_42_method_149_code 9 = .ok (.ldc 7, 2) := by decide +kernel
theorem d4_11 : decode jdk_42_method_149_code 11 = .ok (.getfield 9, 3) := by decide +kernel
theorem d4_14 : decode jdk_42_method_149_code 14 = .ok (.putfield 9, 3) := by decide +kernel
theorem d4_17 : decode jdk_42_method_149_code 17 = .ok (.aload_n 0, 1) := by decide +kernel
theorem d4_18 : decode jdk_42_method_149_code 18 = .ok (.ldc 7, 2) := by decide +kernel
theorem d4_20 : decode jdk_42_method_149_code 20 = .ok (.getfield 15, 3) := by decide +kernel
theorem d4_23 : decode jdk_42_method_149_code 23 = .ok (.putfield 15, 3) := by decide +kernel
theorem sn0 {Z : State} {a0 : Array Value} (hw : ∀ d ∈ tables_1, d.before a0 Z = true) : Jvm.RoadKit.slotOf Z "java/lang/String" "coder" "B" ≠ Jvm.RoadKit.slotOf Z "java/lang/String" "value" "[B" := slot_ne (Or.inr (wq hw 25 rfl)) (Or.inr (wq hw 24 rfl)) (by decide) (t := .byte) (t' := (.array .byte)) (by decide) (by decide)
theorem d4_26 : decode jdk_42_method_149_code 26 = .ok (.return_, 1) := by decide +kernel
theorem sn1 {Z : State} {a0 : Array Value} (hw : ∀ d ∈ tables_1, d.before a0 Z = true) : Jvm.RoadKit.slotOf Z "java/lang/String" "value" "[B" ≠ Jvm.RoadKit.slotOf Z "java/lang/String" "coder" "B" := slot_ne (Or.inr (wq hw 24 rfl)) (Or.inr (wq hw 25 rfl)) (by decide) (t := (.array .byte)) (t' := .byte) (by decide) (by decide)
abbrev y1 : MethodName := (⟨"java/lang/String", "<init>", "([CIILjava/lang/Void;)V"⟩ : MethodName)
theorem ef_4_0 (m : MethodId) (x0 : Addr) (x1 : Addr) (x2 : Int32) (x3 : Int32) : entryFrame m #[(.ref x0), (.ref x1), (.int x2), (.int x3), .null] 6 = mkF m 0 #[.val (.ref x0), .val (.ref x1), .val (.int x2), .val (.int x3), .val .null, .unset] [] := by first | (simp [entryFrame, mkF, argsToLocals, Value.category]; done) | rfl
theorem pn_4 : plainName "java/lang/String" = true := by first | (simp [plainName, overriddenIn]; done) | decide +kernel
def Q2 (Z : State) (v0 : Addr) (v1 : Addr) (v2 : Addr) (v3 : Addr) (v4 : Addr) (v5 : Addr) (v6 : Addr) (v7 : Addr) (v8 : Addr) (v9 : Addr) (cs_v : Int32) (a1 : Addr) (a2 : Addr) (h0 : Heap) (n0 : Nat) (v : Option Value) (h : Heap) (L : List Loc) : Prop := ∃ (lb2 : Addr), ∃ (kb2 : ClassId), v = none ∧ Fr n0 L ∧ Keep h0 h [a1] ∧ Exa Z h a1 "java/lang/String" ∧ Fld Z h a1 "java/lang/String" "coder" "B" (.int (0 : Int32)) ∧ Fld Z h a1 "java/lang/String" "value" "[B" (.ref lb2) ∧ Arv Z h lb2 kb2 .byte (0 : Int32) [] (.int (0 : Int32))
theorem rm2 (l : Launch) (Z : State) (a0 : Array Value) (hw : ∀ d ∈ tables_1, d.before a0 Z = true) (ws : List Jvm.Cond) (v0 v1 v2 v3 v4 v5 v6 v7 v8 v9 : Addr) (cs_v : Int32) (hp : Perm Z v0 v1 v2 v3 v4 v5 v6 v7 v8 v9 cs_v) (a1 : Addr) (a2 : Addr) (h0 : Heap) (n0 : Nat) (O0 : Old Z n0 h0) (E_a1 : Exa Z h0 a1 "java/lang/String") (F_value_a1 : Fld Z h0 a1 "java/lang/String" "value" "[B" .null) (F_coder_a1 : Fld Z h0 a1 "java/lang/String" "coder" "B" (.int (0 : Int32))) (g_a1 : n0 ≤ a1) :
    MetFree l y1 (head1 (Jvm.Cond.code y1 jdk_42_method_149_code 6 none :: ws) ({ frames := 1, cells := 2, slots := 4, locals := 12 } : Room)) (fun a U => a = #[(.ref a1), (.ref a2), (.int (0 : Int32)), (.int (0 : Int32)), .null] ∧ Z.Warmed39 U.vm ∧ U.heap = h0 ∧ CHv Z own_EL U.vm h0 ∧ ∀ x ∈ [a1], Safe Z own_EL U.vm h0 x) (fun _ _ _ _ _ => True) (fun _ U o U' => ∃ v L, o = .returned v ∧ Q2 Z v0 v1 v2 v3 v4 v5 v6 v7 v8 v9 cs_v a1 a2 h0 n0 v U'.heap L ∧ CHr Z own_EL U.vm U.heap U'.vm U'.heap ∧ ReturnedEndW U o U' L ({ frames := 1, cells := 2, slots := 4, locals := 12 } : Room).cells ({ frames := 1, cells := 2, slots := 4, locals := 12 } : Room).slots) := by
  refine MetFree.of_bodySF (plainFor_of_name pn_4) hisR ?_
  intro p e s m args below meth c s₁ Bd hml0 hP hK
  obtain ⟨rfl, hZo, hh, hCH, hSL⟩ := hP
  have hx := Bd.exec
  have hby := Bd.bytes
  have hml : c.maxLocals = 6 := hml0
  have hown : (s.setVm s.vm).vm.findClass "java/lang/String" = some m.cls := findClass_of_methodNamed Bd.named
  have hnm := (name_of_methodNamed Bd.named Bd.method).1
  have X0 : Stand p l e ({ frames := 1, cells := 2, slots := 4, locals := 12 } : Room) (s.setVm s.vm) m #[(.ref a1), (.ref a2), (.int (0 : Int32)), (.int (0 : Int32)), .null] below meth c s₁ [] 0 0 := Stand.of_body Bd
  have e0 : s₁.heap = h0 := by rw [← hh, Bd.state]; rfl
  have N0 := Fr.nil n0
  have hZ : Z.Warmed39 (s.setVm s.vm).vm := hZo
  have CH0 := CHr.refl hCH
  have hS0 : s.Since s.vm 0 := (State.WarmedH.refl s).since 0
  have hk0 : 0 ≤ h0.size := Nat.zero_le _
  obtain ⟨T1, X1, e1, st1⟩ := initO X0 hx hZ hown (wq hw 19 rfl) (wq hw 20 rfl) (wq hw 21 rfl) e0 (g := (mkF m 1 #[.val (.ref a1), .val (.ref a2), .val (.int (0 : Int32)), .val (.int (0 : Int32)), .val .null, .unset] [(.ref a1)])) rfl (by rw [hml]; rfl) rfl (hb hby d4_1) (by decide) (W := 0) (by show 2 * 0 + _ ≤ _; exact Nat.le_of_eq rfl) (by decide)
  obtain ⟨li2, T2, h2, k2, lb2, kb2, X2, e2, E2, hS2, hk2, hZ2, hown2, Ea2, Ca2, Va2, Ba2, -, -, C2, L2, Sf2, st2⟩ := ldcCH X1 hx hZ hown (wq hw 22 rfl) (own_wS hw) e1 hS0 hk0 (own_EW hw) (by decide) CH0.1 (vs := []) (z := (0 : Int32)) ⟨by decide, rfl⟩ (by decide) rfl (g := (mkF m 9 #[.val (.ref a1), .val (.ref a2), .val (.int (0 : Int32)), .val (.int (0 : Int32)), .val .null, .unset] [(.ref a1)])) rfl (hb hby d4_9) (n := 0) (by decide) (by decide) (by decide) (by decide)
  have CH2 := CH0.trans C2
  have K2 : Keep h0 h2 [a1] := (Keep.refl h0 [a1]).ext E2
  obtain ⟨T3, X3, e3, st3⟩ := getF X2 hx hZ2 hown2 (host := "") (Or.inl (wq hw 28 rfl)) Via.refl e2 Va2 (g := (mkF m 11 #[.val (.ref a1), .val (.ref a2), .val (.int (0 : Int32)), .val (.int (0 : Int32)), .val .null, .unset] [(.ref li2), (.ref a1)])) rfl rfl (hb hby d4_11)
  obtain ⟨T4, h4, X4, e4, W4, st4⟩ := putF X3 hx hZ2 hown2 (host := "") (Or.inl (wq hw 28 rfl)) Via.refl e3 (F_value_a1.ext E2) (E_a1.ext E2) (Or.inr ⟨(wq hw 24 rfl), rfl, hnm⟩) (wq hw 9 rfl) (ty := (.array .byte)) (by decide) rfl rfl (g := (mkF m 14 #[.val (.ref a1), .val (.ref a2), .val (.int (0 : Int32)), .val (.int (0 : Int32)), .val .null, .unset] [(.ref lb2), (.ref a1)])) rfl rfl (hb hby d4_14)
  have sf_5 := (C2.safe E_a1.lt (hSL a1 (List.mem_of_getElem? (i := 0) rfl)))
  have N4 := Fr.snoc X4 N0 g_a1
  have K4 : Keep h0 h4 [a1] := K2.wr W4 (Or.inl (ma 0 rfl))
  have CH4 := CH2.trans (CHr.wr W4 sf_5 CH2.1)
  have hk4 := Nat.le_trans hk2 (Keep.of_wr W4).1
  have Fw4 := (F_value_a1.ext E2).same W4
  obtain ⟨T6, X6, e6, st6⟩ := getF X4 hx hZ2 hown2 (host := "") (Or.inl (wq hw 29 rfl)) Via.refl e4 (Ca2.other W4 (Or.inl (Ne.symm (Sf2 a1 sf_5).1))) (g := (mkF m 20 #[.val (.ref a1), .val (.ref a2), .val (.int (0 : Int32)), .val (.int (0 : Int32)), .val .null, .unset] [(.ref li2), (.ref a1)])) rfl rfl (hb hby d4_20)
  obtain ⟨T7, h7, X7, e7, W7, st7⟩ := putFN X6 hx hZ2 hown2 (wq hw 29 rfl) Via.refl e6 ((F_coder_a1.ext E2).other W4 (Or.inr (sn0 hw))) ((E_a1.ext E2).wr W4) (Or.inr ⟨(wq hw 25 rfl), rfl, hnm⟩) (wq hw 9 rfl) (ty := .byte) (v' := (.int (0 : Int32))) (by decide) rfl rfl (g := (mkF m 23 #[.val (.ref a1), .val (.ref a2), .val (.int (0 : Int32)), .val (.int (0 : Int32)), .val .null, .unset] [(.int (0 : Int32)), (.ref a1)])) rfl rfl (hb hby d4_23)
  have sf_8 := (Safe.wr W4 sf_5 CH2.1 sf_5)
  have N7 := Fr.snoc X7 N4 g_a1
  have K7 : Keep h0 h7 [a1] := K4.wr W7 (Or.inl (ma 0 rfl))
  have CH7 := CH4.trans (CHr.wr W7 sf_8 CH4.1)
  have hk7 := Nat.le_trans hk4 (Keep.of_wr W7).1
  have Fw7 := ((F_coder_a1.ext E2).other W4 (Or.inr (sn0 hw))).same W7
  have f_9 := ((Ba2.other W4 (Ne.symm (Sf2 a1 sf_5).2)).other W7 (Ne.symm (Sf2 a1 sf_5).2))
  obtain ⟨fs, hr, hrun, hended, hE⟩ := Stand.leaveW (s := s) X7 hS2 (by rw [e7]; exact hk7) (v := none) (fun _ => rfl)
  have CHz : CHr Z own_EL s.vm s.heap (T7.setFrames fs).vm (T7.setFrames fs).heap := by
    rw [hh]
    show CHr Z own_EL s.vm h0 T7.vm T7.heap
    rw [e7]; exact CH7.trans (CHv.at X7 hZ2 (own_EW hw) CH7.1)
  refine ⟨_, _, castTop (ef_4_0 m a1 a2 (0 : Int32) (0 : Int32)) ?_, hrun, hended, _, _, rfl, ?_, CHz, hE.1, hE.2.1, hE.2.2.1, hE.2.2.2.mono (by decide) (by decide)⟩
  · show Sp p e below s₁ (mkF m 0 #[.val (.ref a1), .val (.ref a2), .val (.int (0 : Int32)), .val (.int (0 : Int32)), .val .null, .unset] []) _
    refine XS.aloadN X0.here hx rfl (hb hby d4_0) rfl rfl ?_
    show Sp p e below s₁ (mkF m 1 #[.val (.ref a1), .val (.ref a2), .val (.int (0 : Int32)), .val (.int (0 : Int32)), .val .null, .unset] [(.ref a1)]) _
    refine st1 _ ?_
    show Sp p e below T1 (mkF m 4 #[.val (.ref a1), .val (.ref a2), .val (.int (0 : Int32)), .val (.int (0 : Int32)), .val .null, .unset] []) _
    refine XS.iloadN X1.here hx rfl (hb hby d4_4) rfl ?_
    refine XS.ifNo X1.here hx rfl (hb hby d4_5) rfl ((if0 _ _).trans (teq (by decide : (0 : Int32) = (0 : Int32))).2) ?_
    refine XS.aloadN X1.here hx rfl (hb hby d4_8) rfl rfl ?_
    show Sp p e below T1 (mkF m 9 #[.val (.ref a1), .val (.ref a2), .val (.int (0 : Int32)), .val (.int (0 : Int32)), .val .null, .unset] [(.ref a1)]) _
    refine st2 _ ?_
    show Sp p e below T2 (mkF m 11 #[.val (.ref a1), .val (.ref a2), .val (.int (0 : Int32)), .val (.int (0 : Int32)), .val .null, .unset] [(.ref li2), (.ref a1)]) _
    refine st3 _ ?_
    show Sp p e below T3 (mkF m 14 #[.val (.ref a1), .val (.ref a2), .val (.int (0 : Int32)), .val (.int (0 : Int32)), .val .null, .unset] [(.ref lb2), (.ref a1)]) _
    refine st4 _ ?_
    show Sp p e below T4 (mkF m 17 #[.val (.ref a1), .val (.ref a2), .val (.int (0 : Int32)), .val (.int (0 : Int32)), .val .null, .unset] []) _
    refine XS.aloadN X4.here hx rfl (hb hby d4_17) rfl rfl ?_
    show Sp p e below T4 (mkF m 18 #[.val (.ref a1), .val (.ref a2), .val (.int (0 : Int32)), .val (.int (0 : Int32)), .val .null, .unset] [(.ref a1)]) _
    refine ldcAgain X4 hx hZ2 hown2 (wq hw 22 rfl) L2 (g := (mkF m 18 #[.val (.ref a1), .val (.ref a2), .val (.int (0 : Int32)), .val (.int (0 : Int32)), .val .null, .unset] [(.ref a1)])) rfl (hb hby d4_18) _ ?_
    show Sp p e below T4 (mkF m 20 #[.val (.ref a1), .val (.ref a2), .val (.int (0 : Int32)), .val (.int (0 : Int32)), .val .null, .unset] [(.ref li2), (.ref a1)]) _
    refine st6 _ ?_
    show Sp p e below T6 (mkF m 23 #[.val (.ref a1), .val (.ref a2), .val (.int (0 : Int32)), .val (.int (0 : Int32)), .val .null, .unset] [(.int (0 : Int32)), (.ref a1)]) _
    refine st7 _ ?_
    show Sp p e below T7 (mkF m 26 #[.val (.ref a1), .val (.ref a2), .val (.int (0 : Int32)), .val (.int (0 : Int32)), .val .null, .unset] []) _
    exact X7.returnOut hx Bd.returns (hb hby d4_26) hr
  · show Q2 Z v0 v1 v2 v3 v4 v5 v6 v7 v8 v9 cs_v a1 a2 h0 n0 _ T7.heap _
    rw [e7]
    exact ⟨lb2, kb2, rfl, N7, K7, (((E_a1.ext E2).wr W4).wr W7), Fw7, (Fw4.other W7 (Or.inr (sn1 hw))), f_9⟩
theorem pd_1 : parseMethodDescriptor "([CIILjava/lang/Void;)V" = some ⟨[(.array .char), .int, .int, (.object "java/lang/Void")], none⟩ := by decide +kernel
theorem d3_9 : decode jdk_42_method_3_code 9 = .ok (.return_, 1) := by decide +kernel
abbrev y2 : MethodName := (⟨"java/lang/String", "<init>", "([C)V"⟩ : MethodName)
theorem ef_3_0 (m : MethodId) (x0 : Addr) (x1 : Addr) : entryFrame m #[(.ref x0), (.ref x1)] 2 = mkF m 0 #[.val (.ref x0), .val (.ref x1)] [] := by first | (simp [entryFrame, mkF, argsToLocals, Value.category]; done) | rfl
def Q3 (Z : State) (v0 : Addr) (v1 : Addr) (v2 : Addr) (v3 : Addr) (v4 : Addr) (v5 : Addr) (v6 : Addr) (v7 : Addr) (v8 : Addr) (v9 : Addr) (cs_v : Int32) (a1 : Addr) (a2 : Addr) (k_a2 : ClassId) (h0 : Heap) (n0 : Nat) (v : Option Value) (h : Heap) (L : List Loc) : Prop := ∃ (y2_0 : Addr), ∃ (kc2_0 : ClassId), v = none ∧ Fr n0 L ∧ Keep h0 h [a1] ∧ Exa Z h a1 "java/lang/String" ∧ Fld Z h a1 "java/lang/String" "coder" "B" (.int (0 : Int32)) ∧ Fld Z h a1 "java/lang/String" "value" "[B" (.ref y2_0) ∧ Arv Z h y2_0 kc2_0 .byte (0 : Int32) [] (.int (0 : Int32))
theorem rm3 (l : Launch) (Z : State) (a0 : Array Value) (hw : ∀ d ∈ tables_1, d.before a0 Z = true) (ws : List Jvm.Cond) (v0 v1 v2 v3 v4 v5 v6 v7 v8 v9 : Addr) (cs_v : Int32) (hp : Perm Z v0 v1 v2 v3 v4 v5 v6 v7 v8 v9 cs_v) (a1 : Addr) (a2 : Addr) (k_a2 : ClassId) (h0 : Heap) (n0 : Nat) (O0 : Old Z n0 h0) (V_a2 : Arv Z h0 a2 k_a2 .char (0 : Int32) [] (.int (0 : Int32))) (E_a1 : Exa Z h0 a1 "java/lang/String") (F_value_a1 : Fld Z h0 a1 "java/lang/String" "value" "[B" .null) (F_coder_a1 : Fld Z h0 a1 "java/lang/String" "coder" "B" (.int (0 : Int32))) (g_a1 : n0 ≤ a1) :
    MetFree l y2 (head1 (Jvm.Cond.code y2 jdk_42_method_3_code 2 none :: ws) ({ frames := 2, cells := 2, slots := 4, locals := 29 } : Room)) (fun a U => a = #[(.ref a1), (.ref a2)] ∧ Z.Warmed39 U.vm ∧ U.heap = h0 ∧ CHv Z own_EL U.vm h0 ∧ ∀ x ∈ [a1], Safe Z own_EL U.vm h0 x) (fun _ _ _ _ _ => True) (fun _ U o U' => ∃ v L, o = .returned v ∧ Q3 Z v0 v1 v2 v3 v4 v5 v6 v7 v8 v9 cs_v a1 a2 k_a2 h0 n0 v U'.heap L ∧ CHr Z own_EL U.vm U.heap U'.vm U'.heap ∧ ReturnedEndW U o U' L ({ frames := 2, cells := 2, slots := 4, locals := 29 } : Room).cells ({ frames := 2, cells := 2, slots := 4, locals := 29 } : Room).slots) := by
  refine MetFree.of_bodySF (plainFor_of_name pn_4) hisR ?_
  intro p e s m args below meth c s₁ Bd hml0 hP hK
  obtain ⟨rfl, hZo, hh, hCH, hSL⟩ := hP
  have hx := Bd.exec
  have hby := Bd.bytes
  have hml : c.maxLocals = 2 := hml0
  have hown : (s.setVm s.vm).vm.findClass "java/lang/String" = some m.cls := findClass_of_methodNamed Bd.named
  have hnm := (name_of_methodNamed Bd.named Bd.method).1
  have X0 : Stand p l e ({ frames := 2, cells := 2, slots := 4, locals := 29 } : Room) (s.setVm s.vm) m #[(.ref a1), (.ref a2)] below meth c s₁ [] 0 0 := Stand.of_body Bd
  have e0 : s₁.heap = h0 := by rw [← hh, Bd.state]; rfl
  have N0 := Fr.nil n0
  have hZ : Z.Warmed39 (s.setVm s.vm).vm := hZo
  have CH0 := CHr.refl hCH
  have hS0 : s.Since s.vm 0 := (State.WarmedH.refl s).since 0
  have hk0 : 0 ≤ h0.size := Nat.zero_le _
  obtain ⟨cl1, Ar1, -, S1, Nn1, -, -⟩ := id V_a2
  have sf_3 := (hSL a1 (List.mem_of_getElem? (i := 0) rfl))
  obtain ⟨_, _, ⟨T2, L2, k2, n2⟩, -, XX2, Sq2, gq2, ⟨Lc2, hQ2, l2, y2, z2, C2⟩, st2⟩ := X0.specialBackS hx (y := y1) rfl hown (mvT hZ (wq hw 15 rfl)) (mvT hZ (wq hw 16 rfl)) (mvT hZ (wq hw 18 rfl)) (by decide) (own_backC (SL := [a1]) (W := 0) (rm2 l Z a0 hw [] v0 v1 v2 v3 v4 v5 v6 v7 v8 v9 cs_v hp a1 a2 h0 n0 O0 E_a1 F_value_a1 F_coder_a1 g_a1) hZ (wq hw 18 rfl) (wq hw 10 rfl) (by decide) (by decide) (own_EW hw) CH0.1 (allS ⟨E_a1.lt, sf_3⟩ all0)) (g := (mkF m 6 #[.val (.ref a1), .val (.ref a2)] [.null, (.int (0 : Int32)), (.int (0 : Int32)), (.ref a2), (.ref a1)])) rfl (by rw [hml]; rfl) (Steps.refl _) (a := a1) (argsL := [(.ref a2), (.int (0 : Int32)), (.int (0 : Int32)), .null]) (rest := []) (lenOf pd_1 rfl) rfl (by show 2 * 0 + _ ≤ _; exact Nat.le_of_eq rfl) (hb hby d3_6) (fun _ _ => ⟨rfl, e0, (by decide : 0 + 2 ≤ _), (by decide : 0 + 4 ≤ _)⟩)
  dsimp only [Pt.U, Pt.locs, Pt.cells, Pt.slots] at XX2 Sq2 gq2 l2 y2 z2 st2 hQ2 C2
  subst l2 y2 z2
  obtain ⟨X2, hS2, hZ2, hown2⟩ := rebS hS0 (by rw [e0]; exact hk0) XX2 Sq2 gq2 hZ hown
  obtain ⟨y2_0, kc2_0, rfl, Nq2, Kq2, fq2_0, fq2_1, fq2_2, fq2_3⟩ := hQ2
  have N2 := Fr.app N0 Nq2
  have CH2 := CH0.trans C2
  have hk2 : T2.heap.size ≤ T2.heap.size := Nat.le_refl _
  have K2 : Keep h0 T2.heap [a1] := (Keep.refl h0 [a1]).trans Kq2 (allS (Or.inl (ma 0 rfl)) all0)
  obtain ⟨fs, hr, hrun, hended, hE⟩ := Stand.leaveW (s := s) X2 hS2 hk2 (v := none) (fun _ => rfl)
  have CHz : CHr Z own_EL s.vm s.heap (T2.setFrames fs).vm (T2.setFrames fs).heap := by
    rw [hh]
    show CHr Z own_EL s.vm h0 T2.vm T2.heap
    exact CH2.trans (CHv.at X2 hZ2 (own_EW hw) CH2.1)
  refine ⟨_, _, castTop (ef_3_0 m a1 a2) ?_, hrun, hended, _, _, rfl, ?_, CHz, hE.1, hE.2.1, hE.2.2.1, hE.2.2.2.mono (by decide) (by decide)⟩
  · show Sp p e below s₁ (mkF m 0 #[.val (.ref a1), .val (.ref a2)] []) _
    refine XS.aloadN X0.here hx rfl (hb hby d3_0) rfl rfl ?_
    refine XS.aloadN X0.here hx rfl (hb hby d3_1) rfl rfl ?_
    refine XS.iconst X0.here hx rfl (hb hby d3_2) ?_
    refine XS.aloadN X0.here hx rfl (hb hby d3_3) rfl rfl ?_
    show Sp p e below s₁ (mkF m 4 #[.val (.ref a1), .val (.ref a2)] [(.ref a2), (.int (0 : Int32)), (.ref a2), (.ref a1)]) _
    refine X0.arraylength hx (by rw [e0]; exact Ar1.1) (State.isArrayOf_alike hZ.alike Ar1.2.1) (g := (mkF m 4 #[.val (.ref a1), .val (.ref a2)] [(.ref a2), (.int (0 : Int32)), (.ref a2), (.ref a1)])) rfl rfl (hb hby d3_4) _ ?_
    rw [len_of S1 Nn1]
    show Sp p e below s₁ (mkF m 5 #[.val (.ref a1), .val (.ref a2)] [(.int (0 : Int32)), (.int (0 : Int32)), (.ref a2), (.ref a1)]) _
    refine XS.aconstNull X0.here hx rfl (hb hby d3_5) ?_
    show Sp p e below s₁ (mkF m 6 #[.val (.ref a1), .val (.ref a2)] [.null, (.int (0 : Int32)), (.int (0 : Int32)), (.ref a2), (.ref a1)]) _
    refine st2.trans ?_
    show Sp p e below T2 (mkF m 9 #[.val (.ref a1), .val (.ref a2)] []) _
    exact X2.returnOut hx Bd.returns (hb hby d3_9) hr
  · show Q3 Z v0 v1 v2 v3 v4 v5 v6 v7 v8 v9 cs_v a1 a2 k_a2 h0 n0 _ T2.heap _
    exact ⟨y2_0, kc2_0, rfl, N2, K2, fq2_0, fq2_1, fq2_2, fq2_3⟩
theorem pd_2 : parseMethodDescriptor "([C)V" = some ⟨[(.array .char)], none⟩ := by decide +kernel
theorem d1_47 : decode method_4_code 47 = .ok (.areturn, 1) := by decide +kernel
abbrev y3 : MethodName := (⟨"com/example/ratebook/ratebook/model/PricedItemEqualsPinLaw", "str", "(I)Ljava/lang/String;"⟩ : MethodName)
theorem ef_1_0 (m : MethodId) (x0 : Int32) : entryFrame m #[(.int x0)] 5 = mkF m 0 #[.val (.int x0), .unset, .unset, .unset, .unset] [] := by first | (simp [entryFrame, mkF, argsToLocals, Value.category]; done) | rfl
def Q4 (Z : State) (v0 : Addr) (v1 : Addr) (v2 : Addr) (v3 : Addr) (v4 : Addr) (v5 : Addr) (v6 : Addr) (v7 : Addr) (v8 : Addr) (v9 : Addr) (cs_v : Int32) (p0 : Int32) (h0 : Heap) (n0 : Nat) (v : Option Value) (h : Heap) (L : List Loc) : Prop := ∃ (b2 y4_0 : Addr), ∃ (kc4_0 : ClassId), v = some (.ref b2) ∧ Fr n0 L ∧ Keep h0 h [] ∧ h0.size ≤ b2 ∧ Exa Z h b2 "java/lang/String" ∧ Fld Z h b2 "java/lang/String" "coder" "B" (.int (0 : Int32)) ∧ Fld Z h b2 "java/lang/String" "value" "[B" (.ref y4_0) ∧ Arv Z h y4_0 kc4_0 .byte (0 : Int32) [] (.int (0 : Int32))
theorem rm4 (l : Launch) (Z : State) (a0 : Array Value) (hw : ∀ d ∈ tables_1, d.before a0 Z = true) (ws : List Jvm.Cond) (v0 v1 v2 v3 v4 v5 v6 v7 v8 v9 : Addr) (cs_v : Int32) (hp : Perm Z v0 v1 v2 v3 v4 v5 v6 v7 v8 v9 cs_v) (p0 : Int32) (h0 : Heap) (n0 : Nat) (O0 : Old Z n0 h0) (hc1 : (((p0.toUInt32 >>> ((24 : Int32) &&& 31).toUInt32).toInt32) &&& (3 : Int32)) = (0 : Int32)) :
    MetFree l y3 (head1 (Jvm.Cond.code y3 method_4_code 5 (some (.object "java/lang/String")) :: ws) ({ frames := 4, cells := 4, slots := 10, locals := 66 } : Room)) (fun a U => a = #[(.int p0)] ∧ Z.Warmed39 U.vm ∧ U.heap = h0 ∧ CHv Z own_EL U.vm h0 ∧ ∀ x ∈ ([] : List Addr), Safe Z own_EL U.vm h0 x) (fun _ _ _ _ _ => True) (fun _ U o U' => ∃ v L, o = .returned v ∧ Q4 Z v0 v1 v2 v3 v4 v5 v6 v7 v8 v9 cs_v p0 h0 n0 v U'.heap L ∧ CHr Z own_EL U.vm U.heap U'.vm U'.heap ∧ ReturnedEndW U o U' L ({ frames := 4, cells := 4, slots := 10, locals := 66 } : Room).cells ({ frames := 4, cells := 4, slots := 10, locals := 66 } : Room).slots) := by
  refine MetFree.of_bodySF (plainFor_of_name pn_2) hisR ?_
  intro p e s m args below meth c s₁ Bd hml0 hP hK
  obtain ⟨rfl, hZo, hh, hCH, hSL⟩ := hP
  have hx := Bd.exec
  have hby := Bd.bytes
  have hml : c.maxLocals = 5 := hml0
  have hown : (s.setVm s.vm).vm.findClass "com/example/ratebook/ratebook/model/PricedItemEqualsPinLaw" = some m.cls := findClass_of_methodNamed Bd.named
  have hnm := (name_of_methodNamed Bd.named Bd.method).1
  have X0 : Stand p l e ({ frames := 4, cells := 4, slots := 10, locals := 66 } : Room) (s.setVm s.vm) m #[(.int p0)] below meth c s₁ [] 0 0 := Stand.of_body Bd
  have e0 : s₁.heap = h0 := by rw [← hh, Bd.state]; rfl
  have N0 := Fr.nil n0
  have hZ : Z.Warmed39 (s.setVm s.vm).vm := hZo
  have CH0 := CHr.refl hCH
  have hS0 : s.Since s.vm 0 := (State.WarmedH.refl s).since 0
  have hk0 : 0 ≤ h0.size := Nat.zero_le _
  obtain ⟨_, _, ⟨T1, L1, k1, n1⟩, -, X1, ⟨Lc1, hQ1, l1, y1, z1⟩, st1⟩ := Jvm.LawKit.callS X0 hx (y := y0) hown (mvT hZ (wq hw 5 rfl)) (mvT hZ (wq hw 6 rfl)) (mvT hZ (wq hw 3 rfl)) (mvT hZ (wq hw 7 rfl)) (by decide) (backOf (W := 0) (rm1 l Z a0 hw [] v0 v1 v2 v3 v4 v5 v6 v7 v8 v9 cs_v hp p0 h0 n0 O0) hZ (wq hw 7 rfl) (wq hw 3 rfl) (by decide) (by decide)) (g := (mkF m 1 #[.val (.int p0), .unset, .unset, .unset, .unset] [(.int p0)])) rfl (by rw [hml]; rfl) (argsL := [(.int p0)]) (rest := []) (lenOf pd_0 rfl) rfl (by show 2 * 0 + _ ≤ _; exact Nat.le_of_eq rfl) (hb hby d1_1) (fun _ _ => ⟨rfl, e0, (by decide : 0 + 0 ≤ _), (by decide : 0 + 0 ≤ _)⟩)
  dsimp only [Pt.U, Pt.locs, Pt.cells, Pt.slots] at X1 l1 y1 z1 st1 hQ1
  subst l1 y1 z1
  obtain ⟨rfl, Nq1, eq1⟩ := hQ1
  have N1 := Fr.app N0 Nq1
  obtain ⟨T2, h2, X2, e2, E2, A2, D2, -, st2⟩ := newO X1 hx hZ hown (wq hw 8 rfl) (wq hw 9 rfl) (wq hw 10 rfl) eq1 (g := (mkF m 37 #[.val (.int p0), .val (.int (fx6 p0)), .val (.int (fx7 p0)), .val (.int (fx8 p0)), .val (.int (fx9 p0))] [])) rfl (hb hby d1_37) (by decide) (by decide)
  obtain ⟨b2, g2⟩ : ∃ z, z = h0.size := ⟨_, rfl⟩
  rw [← g2] at A2 D2 st2
  have g_b2 : n0 ≤ b2 := Nat.le_trans (own_sz O0) (Nat.le_of_eq g2.symm)
  have sz_b2 : h0.size ≤ b2 := Nat.le_trans (Keep.refl h0 []).1 (Nat.le_of_eq g2.symm)
  have O2 := O0.ext E2
  have K2 : Keep h0 h2 [] := (Keep.refl h0 []).ext E2
  have CH2 := CH0.trans (CHr.ext E2 CH0.1)
  have hk2 := Nat.le_trans hk0 E2.1
  have F_value_b2 : Fld Z h2 b2 "java/lang/String" "value" "[B" .null := D2 (Or.inr (wq hw 24 rfl)) (ty := (.array .byte)) (by decide)
  have F_coder_b2 : Fld Z h2 b2 "java/lang/String" "coder" "B" (.int (0 : Int32)) := D2 (Or.inr (wq hw 25 rfl)) (ty := .byte) (by decide)
  obtain ⟨T3, h3, k3, X3, e3, E3, A3, EA3, st3⟩ := newPE X2 hx hZ (wq hw 11 rfl) e2 (g := (mkF m 42 #[.val (.int p0), .val (.int (fx6 p0)), .val (.int (fx7 p0)), .val (.int (fx8 p0)), .val (.int (fx9 p0))] [(.int (0 : Int32)), (.ref b2), (.ref b2)])) rfl (hb hby d1_42) rfl (by decide) (cap := 0) (by decide) (by decide) (by decide) (by decide) (ad := "[C") (by decide)
  obtain ⟨b3, g3⟩ : ∃ z, z = h2.size := ⟨_, rfl⟩
  rw [← g3] at A3 EA3 st3
  have O3 := O2.ext E3
  have K3 : Keep h0 h3 [] := K2.ext E3
  have CH3 := CH2.trans (CHr.ext E3 CH2.1)
  have hk3 := Nat.le_trans hk2 E3.1
  have V_b3 : Arv Z h3 b3 k3 .char (0 : Int32) [] (.int (0 : Int32)) := (Arv.new A3 (by decide)).pad (pad_rep [] (.int (0 : Int32)) 0)
  have sf_5 := (Safe.ext E3 CH2.1 (Safe.ext E2 CH0.1 (Safe.new (Nat.le_of_eq g2.symm))))
  obtain ⟨_, _, ⟨T4, L4, k4, n4⟩, -, XX4, Sq4, gq4, ⟨Lc4, hQ4, l4, y4, z4, C4⟩, st4⟩ := X3.specialBackS hx (y := y2) rfl hown (mvT hZ (wq hw 12 rfl)) (mvT hZ (wq hw 13 rfl)) (mvT hZ (wq hw 14 rfl)) (by decide) (own_backC (SL := [b2]) (W := 1) (rm3 l Z a0 hw [] v0 v1 v2 v3 v4 v5 v6 v7 v8 v9 cs_v hp b2 b3 k3 h3 n0 O3 V_b3 (A2.ext E3) (F_value_b2.ext E3) (F_coder_b2.ext E3) g_b2) hZ (wq hw 14 rfl) (wq hw 10 rfl) (by decide) (by decide) (own_EW hw) CH3.1 (allS ⟨(A2.ext E3).lt, sf_5⟩ all0)) (g := (mkF m 44 #[.val (.int p0), .val (.int (fx6 p0)), .val (.int (fx7 p0)), .val (.int (fx8 p0)), .val (.int (fx9 p0))] [(.ref b3), (.ref b2), (.ref b2)])) rfl (by rw [hml]; rfl) (Steps.refl _) (a := b2) (argsL := [(.ref b3)]) (rest := [(.ref b2)]) (lenOf pd_2 rfl) rfl (by show 2 * 0 + _ ≤ _; exact Nat.le_of_eq rfl) (hb hby d1_44) (fun _ _ => ⟨rfl, e3, (by decide : 2 + 2 ≤ _), (by decide : 4 + 4 ≤ _)⟩)
  dsimp only [Pt.U, Pt.locs, Pt.cells, Pt.slots] at XX4 Sq4 gq4 l4 y4 z4 st4 hQ4 C4
  subst l4 y4 z4
  obtain ⟨X4, hS4, hZ4, hown4⟩ := rebS hS0 (by rw [e3]; exact hk3) XX4 Sq4 gq4 hZ hown
  obtain ⟨y4_0, kc4_0, rfl, Nq4, Kq4, fq4_0, fq4_1, fq4_2, fq4_3⟩ := hQ4
  have N4 := Fr.app N1 Nq4
  have CH4 := CH3.trans C4
  have hk4 : T4.heap.size ≤ T4.heap.size := Nat.le_refl _
  have K4 : Keep h0 T4.heap [] := K3.trans Kq4 (allS (Or.inr sz_b2) all0)
  obtain ⟨fs, hr, hrun, hended, hE⟩ := Stand.leaveW (s := s) X4 hS4 hk4 (v := some (.ref b2)) (fun h => by rw [Bd.returns] at h; cases h)
  have CHz : CHr Z own_EL s.vm s.heap (T4.setFrames fs).vm (T4.setFrames fs).heap := by
    rw [hh]
    show CHr Z own_EL s.vm h0 T4.vm T4.heap
    exact CH4.trans (CHv.at X4 hZ4 (own_EW hw) CH4.1)
  refine ⟨_, _, castTop (ef_1_0 m p0) ?_, hrun, hended, _, _, rfl, ?_, CHz, hE.1, hE.2.1, hE.2.2.1, hE.2.2.2.mono (by decide) (by decide)⟩
  · show Sp p e below s₁ (mkF m 0 #[.val (.int p0), .unset, .unset, .unset, .unset] []) _
    refine XS.iloadN X0.here hx rfl (hb hby d1_0) rfl ?_
    show Sp p e below s₁ (mkF m 1 #[.val (.int p0), .unset, .unset, .unset, .unset] [(.int p0)]) _
    refine st1 _ ?_
    show Sp p e below T1 (mkF m 4 #[.val (.int p0), .unset, .unset, .unset, .unset] [(.int (fx6 p0))]) _
    refine XS.istoreN X1.here hx rfl (hb hby d1_4) rfl (l' := #[.val (.int p0), .val (.int (fx6 p0)), .unset, .unset, .unset]) rfl ?_
    refine XS.iloadN X1.here hx rfl (hb hby d1_5) rfl ?_
    refine XS.sipush X1.here hx rfl (hb hby d1_6) ?_
    refine XS.iand X1.here hx rfl (hb hby d1_9) rfl ?_
    refine XS.i2c X1.here hx rfl (hb hby d1_10) rfl ?_
    refine XS.istoreN X1.here hx rfl (hb hby d1_11) rfl (l' := #[.val (.int p0), .val (.int (fx6 p0)), .val (.int (fx7 p0)), .unset, .unset]) rfl ?_
    refine XS.iloadN X1.here hx rfl (hb hby d1_12) rfl ?_
    show Sp p e below T1 (mkF m 13 #[.val (.int p0), .val (.int (fx6 p0)), .val (.int (fx7 p0)), .unset, .unset] [(.int p0)]) _
    refine XS.bipush X1.here hx rfl (hb hby d1_13) ?_
    refine XS.iushr X1.here hx rfl (hb hby d1_15) rfl ?_
    refine XS.sipush X1.here hx rfl (hb hby d1_16) ?_
    refine XS.iand X1.here hx rfl (hb hby d1_19) rfl ?_
    refine XS.i2c X1.here hx rfl (hb hby d1_20) rfl ?_
    refine XS.istoreN X1.here hx rfl (hb hby d1_21) rfl (l' := #[.val (.int p0), .val (.int (fx6 p0)), .val (.int (fx7 p0)), .val (.int (fx8 p0)), .unset]) rfl ?_
    refine XS.iloadN X1.here hx rfl (hb hby d1_22) rfl ?_
    show Sp p e below T1 (mkF m 23 #[.val (.int p0), .val (.int (fx6 p0)), .val (.int (fx7 p0)), .val (.int (fx8 p0)), .unset] [(.int p0)]) _
    refine XS.bipush X1.here hx rfl (hb hby d1_23) ?_
    refine XS.iushr X1.here hx rfl (hb hby d1_25) rfl ?_
    refine XS.sipush X1.here hx rfl (hb hby d1_26) ?_
    refine XS.iand X1.here hx rfl (hb hby d1_29) rfl ?_
    refine XS.i2c X1.here hx rfl (hb hby d1_30) rfl ?_
    refine XS.istore X1.here hx rfl (hb hby d1_31) rfl (l' := #[.val (.int p0), .val (.int (fx6 p0)), .val (.int (fx7 p0)), .val (.int (fx8 p0)), .val (.int (fx9 p0))]) rfl ?_
    refine XS.iloadN X1.here hx rfl (hb hby d1_33) rfl ?_
    show Sp p e below T1 (mkF m 34 #[.val (.int p0), .val (.int (fx6 p0)), .val (.int (fx7 p0)), .val (.int (fx8 p0)), .val (.int (fx9 p0))] [(.int (fx6 p0))]) _
    refine XS.ifNo X1.here hx rfl (hb hby d1_34) rfl ((if0 _ _).trans (teq hc1).2) ?_
    show Sp p e below T1 (mkF m 37 #[.val (.int p0), .val (.int (fx6 p0)), .val (.int (fx7 p0)), .val (.int (fx8 p0)), .val (.int (fx9 p0))] []) _
    refine st2 _ ?_
    show Sp p e below T2 (mkF m 40 #[.val (.int p0), .val (.int (fx6 p0)), .val (.int (fx7 p0)), .val (.int (fx8 p0)), .val (.int (fx9 p0))] [(.ref b2)]) _
    refine XS.dup X2.here hx rfl (hb hby d1_40) rfl rfl ?_
    refine XS.iconst X2.here hx rfl (hb hby d1_41) ?_
    show Sp p e below T2 (mkF m 42 #[.val (.int p0), .val (.int (fx6 p0)), .val (.int (fx7 p0)), .val (.int (fx8 p0)), .val (.int (fx9 p0))] [(.int (0 : Int32)), (.ref b2), (.ref b2)]) _
    refine st3 _ ?_
    show Sp p e below T3 (mkF m 44 #[.val (.int p0), .val (.int (fx6 p0)), .val (.int (fx7 p0)), .val (.int (fx8 p0)), .val (.int (fx9 p0))] [(.ref b3), (.ref b2), (.ref b2)]) _
    refine st4.trans ?_
    show Sp p e below T4 (mkF m 47 #[.val (.int p0), .val (.int (fx6 p0)), .val (.int (fx7 p0)), .val (.int (fx8 p0)), .val (.int (fx9 p0))] [(.ref b2)]) _
    jvm_step X4.here [X4.here.top, hx, (hb hby d1_47), X4.method', Bd.returns, Value.isRef, FieldType.isReference]
    first | (intro acts; rw [hr _ acts rfl rfl rfl]) | rw [hr _ _ rfl rfl rfl]
    exact Steps.refl _
  · show Q4 Z v0 v1 v2 v3 v4 v5 v6 v7 v8 v9 cs_v p0 h0 n0 _ T4.heap _
    exact ⟨b2, y4_0, kc4_0, rfl, N4, K4, sz_b2, fq4_0, fq4_1, fq4_2, fq4_3⟩
theorem d1_48 : decode method_4_code 48 = .ok (.iload_n 1, 1) := by decide +kernel
theorem d1_49 : decode method_4_code 49 = .ok (.iconst 1, 1) := by decide +kernel
theorem d1_50 : decode method_4_code 50 = .ok (.if_icmp .ne 18, 3) := by decide +kernel
theorem d1_53 : decode method_4_code 53 = .ok (.new 35, 3) := by decide +kernel
theorem d1_56 : decode method_4_code 56 = .ok (.dup, 1) := by decide +kernel
theorem d1_57 : decode method_4_code 57 = .ok (.iconst 1, 1) := by decide +kernel
theorem d1_58 : decode method_4_code 58 = .ok (.newarray .char, 2) := by decide +kernel
theorem d1_60 : decode method_4_code 60 = .ok (.dup, 1) := by decide +kernel
theorem d1_61 : decode method_4_code 61 = .ok (.iconst 0, 1) := by decide +kernel
theorem d1_62 : decode method_4_code 62 = .ok (.iload_n 2, 1) := by decide +kernel
theorem d1_63 : decode method_4_code 63 = .ok (.castore, 1) := by decide +kernel
theorem d1_64 : decode method_4_code 64 = .ok (.invokespecial 37, 3) := by decide +kernel
theorem d4_27 : decode jdk_42_method_149_code 27 = .ok (.getstatic 38, 3) := by decide +kernel
theorem d4_30 : decode jdk_42_method_149_code 30 = .ok (.ifCond .eq 28, 3) := by decide +kernel
theorem d4_33 : decode jdk_42_method_149_code 33 = .ok (.aload_n 1, 1) := by decide +kernel
theorem d4_34 : decode jdk_42_method_149_code 34 = .ok (.iload_n 2, 1) := by decide +kernel
theorem d4_35 : decode jdk_42_method_149_code 35 = .ok (.iload_n 3, 1) := by decide +kernel
theorem d4_36 : decode jdk_42_method_149_code 36 = .ok (.invokestatic 177, 3) := by decide +kernel
theorem d14_0 : decode jdk_52_method_16_code 0 = .ok (.iload_n 2, 1) := by decide +kernel
theorem d14_1 : decode jdk_52_method_16_code 1 = .ok (.newarray .byte, 2) := by decide +kernel
theorem d14_3 : decode jdk_52_method_16_code 3 = .ok (.astore_n 3, 1) := by decide +kernel
theorem d14_4 : decode jdk_52_method_16_code 4 = .ok (.aload_n 0, 1) := by decide +kernel
theorem d14_5 : decode jdk_52_method_16_code 5 = .ok (.iload_n 1, 1) := by decide +kernel
theorem d14_6 : decode jdk_52_method_16_code 6 = .ok (.aload_n 3, 1) := by decide +kernel
theorem d14_7 : decode jdk_52_method_16_code 7 = .ok (.iconst 0, 1) := by decide +kernel
theorem d14_8 : decode jdk_52_method_16_code 8 = .ok (.iload_n 2, 1) := by decide +kernel
theorem d14_9 : decode jdk_52_method_16_code 9 = .ok (.invokestatic 115, 3) := by decide +kernel
theorem d15_0 : decode jdk_52_method_21_code 0 = .ok (.iconst 0, 1) := by decide +kernel
theorem d15_1 : decode jdk_52_method_21_code 1 = .ok (.istore 5, 2) := by decide +kernel
theorem d15_3 : decode jdk_52_method_21_code 3 = .ok (.iload 5, 2) := by decide +kernel
theorem d15_5 : decode jdk_52_method_21_code 5 = .ok (.iload 4, 2) := by decide +kernel
theorem d15_7 : decode jdk_52_method_21_code 7 = .ok (.if_icmp .ge 37, 3) := by decide +kernel
theorem d15_10 : decode jdk_52_method_21_code 10 = .ok (.aload_n 0, 1) := by decide +kernel
theorem d15_11 : decode jdk_52_method_21_code 11 = .ok (.iload_n 1, 1) := by decide +kernel
theorem d15_12 : decode jdk_52_method_21_code 12 = .ok (.caload, 1) := by decide +kernel
theorem d15_13 : decode jdk_52_method_21_code 13 = .ok (.istore 6, 2) := by decide +kernel
theorem d15_15 : decode jdk_52_method_21_code 15 = .ok (.iload 6, 2) := by decide +kernel
theorem d15_17 : decode jdk_52_method_21_code 17 = .ok (.sipush 255, 3) := by decide +kernel
theorem d15_20 : decode jdk_52_method_21_code 20 = .ok (.if_icmp .le 6, 3) := by decide +kernel
theorem d15_26 : decode jdk_52_method_21_code 26 = .ok (.aload_n 2, 1) := by decide +kernel
theorem d15_27 : decode jdk_52_method_21_code 27 = .ok (.iload_n 3, 1) := by decide +kernel
theorem d15_28 : decode jdk_52_method_21_code 28 = .ok (.iload 6, 2) := by decide +kernel
theorem d15_30 : decode jdk_52_method_21_code 30 = .ok (.i2b, 1) := by decide +kernel
theorem d15_31 : decode jdk_52_method_21_code 31 = .ok (.bastore, 1) := by decide +kernel
theorem d15_32 : decode jdk_52_method_21_code 32 = .ok (.iinc 1 1, 3) := by decide +kernel
abbrev fx10 : Int32 := ((0 : Int32) + (1 : Int32))
theorem d15_35 : decode jdk_52_method_21_code 35 = .ok (.iinc 3 1, 3) := by decide +kernel
theorem d15_38 : decode jdk_52_method_21_code 38 = .ok (.iinc 5 1, 3) := by decide +kernel
theorem d15_41 : decode jdk_52_method_21_code 41 = .ok (.goto (-38), 3) := by decide +kernel
theorem d15_44 : decode jdk_52_method_21_code 44 = .ok (.iload 4, 2) := by decide +kernel
theorem d15_46 : decode jdk_52_method_21_code 46 = .ok (.ireturn, 1) := by decide +kernel
abbrev y4 : MethodName := (⟨"java/lang/StringUTF16", "compress", "([CI[BII)I"⟩ : MethodName)
theorem ef_15_0 (m : MethodId) (x0 : Addr) (x1 : Int32) (x2 : Addr) (x3 : Int32) (x4 : Int32) : entryFrame m #[(.ref x0), (.int x1), (.ref x2), (.int x3), (.int x4)] 7 = mkF m 0 #[.val (.ref x0), .val (.int x1), .val (.ref x2), .val (.int x3), .val (.int x4), .unset, .unset] [] := by first | (simp [entryFrame, mkF, argsToLocals, Value.category]; done) | rfl
theorem pn_15 : plainName "java/lang/StringUTF16" = true := by first | (simp [plainName, overriddenIn]; done) | decide +kernel
def Q5 (Z : State) (v0 : Addr) (v1 : Addr) (v2 : Addr) (v3 : Addr) (v4 : Addr) (v5 : Addr) (v6 : Addr) (v7 : Addr) (v8 : Addr) (v9 : Addr) (cs_v : Int32) (a1 : Addr) (a2 : Addr) (k_a1 : ClassId) (p4 : Int32) (k_a2 : ClassId) (h0 : Heap) (n0 : Nat) (v : Option Value) (h : Heap) (L : List Loc) : Prop := v = some (.int (1 : Int32)) ∧ Fr n0 L ∧ Keep h0 h [a2] ∧ Exa Z h a2 "[B" ∧ Arv Z h a2 k_a2 .byte (1 : Int32) [(.int (nar .byte (p4.toInt8.toInt32)))] (.int (0 : Int32))
theorem rm5 (l : Launch) (Z : State) (a0 : Array Value) (hw : ∀ d ∈ tables_1, d.before a0 Z = true) (ws : List Jvm.Cond) (v0 v1 v2 v3 v4 v5 v6 v7 v8 v9 : Addr) (cs_v : Int32) (hp : Perm Z v0 v1 v2 v3 v4 v5 v6 v7 v8 v9 cs_v) (a1 : Addr) (a2 : Addr) (k_a1 : ClassId) (p4 : Int32) (k_a2 : ClassId) (h0 : Heap) (n0 : Nat) (O0 : Old Z n0 h0) (V_a1 : Arv Z h0 a1 k_a1 .char (1 : Int32) [(.int p4)] (.int (0 : Int32))) (hc2 : ¬ ((255 : Int32) < p4)) (E_a2 : Exa Z h0 a2 "[B") (V_a2 : Arv Z h0 a2 k_a2 .byte (1 : Int32) [(.int (0 : Int32))] (.int (0 : Int32))) (g_a2 : n0 ≤ a2) :
    MetFree l y4 (head1 (Jvm.Cond.code y4 jdk_52_method_21_code 7 (some .int) :: ws) ({ frames := 0, cells := 0, slots := 0, locals := 0 } : Room)) (fun a U => a = #[(.ref a1), (.int (0 : Int32)), (.ref a2), (.int (0 : Int32)), (.int (1 : Int32))] ∧ Z.Warmed39 U.vm ∧ U.heap = h0) (fun _ _ _ _ _ => True) (fun _ U o U' => ∃ v L, o = .returned v ∧ Q5 Z v0 v1 v2 v3 v4 v5 v6 v7 v8 v9 cs_v a1 a2 k_a1 p4 k_a2 h0 n0 v U'.heap L ∧ FrameEnd U o U' L ({ frames := 0, cells := 0, slots := 0, locals := 0 } : Room).cells ({ frames := 0, cells := 0, slots := 0, locals := 0 } : Room).slots) := by
  refine MetFree.of_bodySF (plainFor_of_name pn_15) hisR ?_
  intro p e s m args below meth c s₁ Bd hml0 hP hK
  obtain ⟨rfl, hZ, hh⟩ := hP
  have hx := Bd.exec
  have hby := Bd.bytes
  have hml : c.maxLocals = 7 := hml0
  have hown : s.vm.findClass "java/lang/StringUTF16" = some m.cls := findClass_of_methodNamed Bd.named
  have hnm := (name_of_methodNamed Bd.named Bd.method).1
  have X0 : Stand p l e ({ frames := 0, cells := 0, slots := 0, locals := 0 } : Room) s m #[(.ref a1), (.int (0 : Int32)), (.ref a2), (.int (0 : Int32)), (.int (1 : Int32))] below meth c s₁ [] 0 0 := Stand.of_body Bd
  have e0 : s₁.heap = h0 := by rw [← hh, Bd.state]; rfl
  have N0 := Fr.nil n0
  obtain ⟨cl1, Ar1, -, S1, -, H1, -⟩ := id V_a1
  have hin1 : ¬ ((0 : Int32) < 0 ∨ cl1.slots.size ≤ ((0 : Int32)).toNatClampNeg) := inb_of S1 ⟨by decide, by decide⟩
  have hat1 : cl1.slots[((0 : Int32)).toNatClampNeg]? = some (.int p4) := H1.at hin1 rfl
  obtain ⟨cl2, Ar2, q2, S2, Nn2, H2, G2⟩ := id V_a2
  have hin2 : ¬ ((0 : Int32) < 0 ∨ cl2.slots.size ≤ ((0 : Int32)).toNatClampNeg) := inb_of S2 ⟨by decide, by decide⟩
  obtain ⟨T3, h3, X3, e3, W3, st3⟩ := stB X0 hx hZ e0 Ar2 (j := (0 : Int32)) hin2 (g := (mkF m 31 #[.val (.ref a1), .val (.int (0 : Int32)), .val (.ref a2), .val (.int (0 : Int32)), .val (.int (1 : Int32)), .val (.int (0 : Int32)), .val (.int p4)] [(.int (p4.toInt8.toInt32)), (.int (0 : Int32)), (.ref a2)])) rfl rfl (hb hby d15_31)
  have N3 := Fr.snoc X3 N0 g_a2
  have K3 : Keep h0 h3 [a2] := (Keep.refl h0 [a2]).wr W3 (Or.inl (ma 0 rfl))
  have V_a2_3 : Arv Z h3 a2 k_a2 .byte (1 : Int32) [(.int (nar .byte (p4.toInt8.toInt32)))] (.int (0 : Int32)) := Arv.set Ar2 q2 S2 Nn2 H2 G2 (fits_nar_byte _) W3 0 rfl (Nat.le_of_ble_eq_true rfl)
  obtain ⟨fs, hr, hrun, hended, hW, hsame⟩ := X3.leave (v := some (.int (1 : Int32))) (fun h => by rw [Bd.returns] at h; cases h)
  refine ⟨_, _, castTop (ef_15_0 m a1 (0 : Int32) a2 (0 : Int32) (1 : Int32)) ?_, hrun, hended, _, _, rfl, ?_, ⟨_, rfl⟩, hW, hsame.mono (by decide) (by decide)⟩
  · show Sp p e below s₁ (mkF m 0 #[.val (.ref a1), .val (.int (0 : Int32)), .val (.ref a2), .val (.int (0 : Int32)), .val (.int (1 : Int32)), .unset, .unset] []) _
    refine XS.iconst X0.here hx rfl (hb hby d15_0) ?_
    refine XS.istore X0.here hx rfl (hb hby d15_1) rfl (l' := #[.val (.ref a1), .val (.int (0 : Int32)), .val (.ref a2), .val (.int (0 : Int32)), .val (.int (1 : Int32)), .val (.int (0 : Int32)), .unset]) rfl ?_
    refine XS.iload X0.here hx rfl (hb hby d15_3) rfl ?_
    refine XS.iload X0.here hx rfl (hb hby d15_5) rfl ?_
    refine XS.icmpNo X0.here hx rfl (hb hby d15_7) rfl (tlt (by decide : (0 : Int32) < (1 : Int32))).2.1 ?_
    refine XS.aloadN X0.here hx rfl (hb hby d15_10) rfl rfl ?_
    refine XS.iloadN X0.here hx rfl (hb hby d15_11) rfl ?_
    show Sp p e below s₁ (mkF m 12 #[.val (.ref a1), .val (.int (0 : Int32)), .val (.ref a2), .val (.int (0 : Int32)), .val (.int (1 : Int32)), .val (.int (0 : Int32)), .unset] [(.int (0 : Int32)), (.ref a1)]) _
    refine X0.caload hx (j := (0 : Int32)) (v := (.int p4)) (by rw [e0]; exact Ar1.1) (State.isArrayOf_alike hZ.alike Ar1.2.1) Ar1.2.2 hin1 hat1 (g := (mkF m 12 #[.val (.ref a1), .val (.int (0 : Int32)), .val (.ref a2), .val (.int (0 : Int32)), .val (.int (1 : Int32)), .val (.int (0 : Int32)), .unset] [(.int (0 : Int32)), (.ref a1)])) rfl rfl (hb hby d15_12) _ ?_
    show Sp p e below s₁ (mkF m 13 #[.val (.ref a1), .val (.int (0 : Int32)), .val (.ref a2), .val (.int (0 : Int32)), .val (.int (1 : Int32)), .val (.int (0 : Int32)), .unset] [(.int p4)]) _
    refine XS.istore X0.here hx rfl (hb hby d15_13) rfl (l' := #[.val (.ref a1), .val (.int (0 : Int32)), .val (.ref a2), .val (.int (0 : Int32)), .val (.int (1 : Int32)), .val (.int (0 : Int32)), .val (.int p4)]) rfl ?_
    refine XS.iload X0.here hx rfl (hb hby d15_15) rfl ?_
    refine XS.sipush X0.here hx rfl (hb hby d15_17) ?_
    refine XS.icmpYes X0.here hx rfl (pc0 := 20) (pc' := 26) rfl (hb hby d15_20) rfl (flt hc2).2.2.2 (by decide) (by decide) ?_
    refine XS.aloadN X0.here hx rfl (hb hby d15_26) rfl rfl ?_
    refine XS.iloadN X0.here hx rfl (hb hby d15_27) rfl ?_
    refine XS.iload X0.here hx rfl (hb hby d15_28) rfl ?_
    show Sp p e below s₁ (mkF m 30 #[.val (.ref a1), .val (.int (0 : Int32)), .val (.ref a2), .val (.int (0 : Int32)), .val (.int (1 : Int32)), .val (.int (0 : Int32)), .val (.int p4)] [(.int p4), (.int (0 : Int32)), (.ref a2)]) _
    refine XS.i2b X0.here hx rfl (hb hby d15_30) rfl ?_
    show Sp p e below s₁ (mkF m 31 #[.val (.ref a1), .val (.int (0 : Int32)), .val (.ref a2), .val (.int (0 : Int32)), .val (.int (1 : Int32)), .val (.int (0 : Int32)), .val (.int p4)] [(.int (p4.toInt8.toInt32)), (.int (0 : Int32)), (.ref a2)]) _
    refine st3 _ ?_
    show Sp p e below T3 (mkF m 32 #[.val (.ref a1), .val (.int (0 : Int32)), .val (.ref a2), .val (.int (0 : Int32)), .val (.int (1 : Int32)), .val (.int (0 : Int32)), .val (.int p4)] []) _
    refine XS.iinc X3.here hx rfl (hb hby d15_32) rfl (l' := #[.val (.ref a1), .val (.int (fx10 )), .val (.ref a2), .val (.int (0 : Int32)), .val (.int (1 : Int32)), .val (.int (0 : Int32)), .val (.int p4)]) rfl ?_
    show Sp p e below T3 (mkF m 35 #[.val (.ref a1), .val (.int (fx10 )), .val (.ref a2), .val (.int (0 : Int32)), .val (.int (1 : Int32)), .val (.int (0 : Int32)), .val (.int p4)] []) _
    refine XS.iinc X3.here hx rfl (hb hby d15_35) rfl (l' := #[.val (.ref a1), .val (.int (fx10 )), .val (.ref a2), .val (.int (fx10 )), .val (.int (1 : Int32)), .val (.int (0 : Int32)), .val (.int p4)]) rfl ?_
    show Sp p e below T3 (mkF m 38 #[.val (.ref a1), .val (.int (fx10 )), .val (.ref a2), .val (.int (fx10 )), .val (.int (1 : Int32)), .val (.int (0 : Int32)), .val (.int p4)] []) _
    refine XS.iinc X3.here hx rfl (hb hby d15_38) rfl (l' := #[.val (.ref a1), .val (.int (fx10 )), .val (.ref a2), .val (.int (fx10 )), .val (.int (1 : Int32)), .val (.int (fx10 )), .val (.int p4)]) rfl ?_
    refine XS.goto X3.here hx rfl (pc0 := 41) (pc' := 3) rfl (hb hby d15_41) (by decide) (by decide) ?_
    refine XS.iload X3.here hx rfl (hb hby d15_3) rfl ?_
    refine XS.iload X3.here hx rfl (hb hby d15_5) rfl ?_
    refine XS.icmpYes X3.here hx rfl (pc0 := 7) (pc' := 44) rfl (hb hby d15_7) rfl (flt (by decide : ¬ (((0 : Int32) + (1 : Int32)) < (1 : Int32)))).2.1 (by decide) (by decide) ?_
    refine XS.iload X3.here hx rfl (hb hby d15_44) rfl ?_
    show Sp p e below T3 (mkF m 46 #[.val (.ref a1), .val (.int (fx10 )), .val (.ref a2), .val (.int (fx10 )), .val (.int (1 : Int32)), .val (.int (fx10 )), .val (.int p4)] [(.int (1 : Int32))]) _
    exact retI X3 hx Bd.returns (hb hby d15_46) hr
  · show Q5 Z v0 v1 v2 v3 v4 v5 v6 v7 v8 v9 cs_v a1 a2 k_a1 p4 k_a2 h0 n0 _ T3.heap _
    rw [e3]
    exact ⟨rfl, N3, K3, (E_a2.wr W3), V_a2_3⟩
theorem pd_3 : parseMethodDescriptor "([CI[BII)I" = some ⟨[(.array .char), .int, (.array .byte), .int, .int], some .int⟩ := by decide +kernel
theorem d14_12 : decode jdk_52_method_16_code 12 = .ok (.istore 4, 2) := by decide +kernel
theorem d14_14 : decode jdk_52_method_16_code 14 = .ok (.iload 4, 2) := by decide +kernel
theorem d14_16 : decode jdk_52_method_16_code 16 = .ok (.iload_n 2, 1) := by decide +kernel
theorem d14_17 : decode jdk_52_method_16_code 17 = .ok (.if_icmp .eq 40, 3) := by decide +kernel
theorem d14_57 : decode jdk_52_method_16_code 57 = .ok (.aload_n 3, 1) := by decide +kernel
theorem d14_58 : decode jdk_52_method_16_code 58 = .ok (.areturn, 1) := by decide +kernel
abbrev y5 : MethodName := (⟨"java/lang/StringUTF16", "compress", "([CII)[B"⟩ : MethodName)
theorem ef_14_0 (m : MethodId) (x0 : Addr) (x1 : Int32) (x2 : Int32) : entryFrame m #[(.ref x0), (.int x1), (.int x2)] 6 = mkF m 0 #[.val (.ref x0), .val (.int x1), .val (.int x2), .unset, .unset, .unset] [] := by first | (simp [entryFrame, mkF, argsToLocals, Value.category]; done) | rfl
def Q6 (Z : State) (v0 : Addr) (v1 : Addr) (v2 : Addr) (v3 : Addr) (v4 : Addr) (v5 : Addr) (v6 : Addr) (v7 : Addr) (v8 : Addr) (v9 : Addr) (cs_v : Int32) (a1 : Addr) (k_a1 : ClassId) (p3 : Int32) (h0 : Heap) (n0 : Nat) (v : Option Value) (h : Heap) (L : List Loc) : Prop := ∃ (b1 : Addr), ∃ (k1 : ClassId), v = some (.ref b1) ∧ Fr n0 L ∧ Keep h0 h [] ∧ h0.size ≤ b1 ∧ Exa Z h b1 "[B" ∧ Arv Z h b1 k1 .byte (1 : Int32) [(.int (nar .byte (p3.toInt8.toInt32)))] (.int (0 : Int32))
theorem rm6 (l : Launch) (Z : State) (a0 : Array Value) (hw : ∀ d ∈ tables_1, d.before a0 Z = true) (ws : List Jvm.Cond) (v0 v1 v2 v3 v4 v5 v6 v7 v8 v9 : Addr) (cs_v : Int32) (hp : Perm Z v0 v1 v2 v3 v4 v5 v6 v7 v8 v9 cs_v) (a1 : Addr) (k_a1 : ClassId) (p3 : Int32) (h0 : Heap) (n0 : Nat) (O0 : Old Z n0 h0) (V_a1 : Arv Z h0 a1 k_a1 .char (1 : Int32) [(.int p3)] (.int (0 : Int32))) (hc2 : ¬ ((255 : Int32) < p3)) :
    MetFree l y5 (head1 (Jvm.Cond.code y5 jdk_52_method_16_code 6 (some (.array .byte)) :: ws) ({ frames := 1, cells := 1, slots := 1, locals := 18 } : Room)) (fun a U => a = #[(.ref a1), (.int (0 : Int32)), (.int (1 : Int32))] ∧ Z.Warmed39 U.vm ∧ U.heap = h0) (fun _ _ _ _ _ => True) (fun _ U o U' => ∃ v L, o = .returned v ∧ Q6 Z v0 v1 v2 v3 v4 v5 v6 v7 v8 v9 cs_v a1 k_a1 p3 h0 n0 v U'.heap L ∧ FrameEnd U o U' L ({ frames := 1, cells := 1, slots := 1, locals := 18 } : Room).cells ({ frames := 1, cells := 1, slots := 1, locals := 18 } : Room).slots) := by
  refine MetFree.of_bodySF (plainFor_of_name pn_15) hisR ?_
  intro p e s m args below meth c s₁ Bd hml0 hP hK
  obtain ⟨rfl, hZ, hh⟩ := hP
  have hx := Bd.exec
  have hby := Bd.bytes
  have hml : c.maxLocals = 6 := hml0
  have hown : s.vm.findClass "java/lang/StringUTF16" = some m.cls := findClass_of_methodNamed Bd.named
  have hnm := (name_of_methodNamed Bd.named Bd.method).1
  have X0 : Stand p l e ({ frames := 1, cells := 1, slots := 1, locals := 18 } : Room) s m #[(.ref a1), (.int (0 : Int32)), (.int (1 : Int32))] below meth c s₁ [] 0 0 := Stand.of_body Bd
  have e0 : s₁.heap = h0 := by rw [← hh, Bd.state]; rfl
  have N0 := Fr.nil n0
  obtain ⟨T1, h1, k1, X1, e1, E1, A1, EA1, st1⟩ := newPE X0 hx hZ (wq hw 23 rfl) e0 (g := (mkF m 1 #[.val (.ref a1), .val (.int (0 : Int32)), .val (.int (1 : Int32)), .unset, .unset, .unset] [(.int (1 : Int32))])) rfl (hb hby d14_1) rfl (by decide) (cap := 1) (by decide) (by decide) (by decide) (by decide) (ad := "[B") (by decide)
  obtain ⟨b1, g1⟩ : ∃ z, z = h0.size := ⟨_, rfl⟩
  rw [← g1] at A1 EA1 st1
  have g_b1 : n0 ≤ b1 := Nat.le_trans (own_sz O0) (Nat.le_of_eq g1.symm)
  have sz_b1 : h0.size ≤ b1 := Nat.le_trans (Keep.refl h0 []).1 (Nat.le_of_eq g1.symm)
  have O1 := O0.ext E1
  have K1 : Keep h0 h1 [] := (Keep.refl h0 []).ext E1
  have V_b1 : Arv Z h1 b1 k1 .byte (1 : Int32) [(.int (0 : Int32))] (.int (0 : Int32)) := (Arv.new A1 (by decide)).pad (pad_rep [] (.int (0 : Int32)) 1)
  obtain ⟨_, _, ⟨T2, L2, k2, n2⟩, -, X2, ⟨Lc2, hQ2, l2, y2, z2⟩, st2⟩ := Jvm.LawKit.callS X1 hx (y := y4) hown (mvT hZ (wq hw 87 rfl)) (mvT hZ (wq hw 88 rfl)) (mvT hZ (wq hw 85 rfl)) (mvT hZ (wq hw 89 rfl)) (by decide) (backOf (W := 0) (rm5 l Z a0 hw [] v0 v1 v2 v3 v4 v5 v6 v7 v8 v9 cs_v hp a1 b1 k_a1 p3 k1 h1 n0 O1 (V_a1.ext E1) hc2 EA1 V_b1 g_b1) hZ (wq hw 89 rfl) (wq hw 85 rfl) (by decide) (by decide)) (g := (mkF m 9 #[.val (.ref a1), .val (.int (0 : Int32)), .val (.int (1 : Int32)), .val (.ref b1), .unset, .unset] [(.int (1 : Int32)), (.int (0 : Int32)), (.ref b1), (.int (0 : Int32)), (.ref a1)])) rfl (by rw [hml]; rfl) (argsL := [(.ref a1), (.int (0 : Int32)), (.ref b1), (.int (0 : Int32)), (.int (1 : Int32))]) (rest := []) (lenOf pd_3 rfl) rfl (by show 2 * 0 + _ ≤ _; exact Nat.le_of_eq rfl) (hb hby d14_9) (fun _ _ => ⟨rfl, e1, (by decide : 1 + 0 ≤ _), (by decide : 1 + 0 ≤ _)⟩)
  dsimp only [Pt.U, Pt.locs, Pt.cells, Pt.slots] at X2 l2 y2 z2 st2 hQ2
  subst l2 y2 z2
  obtain ⟨rfl, Nq2, Kq2, fq2_0, fq2_1⟩ := hQ2
  have N2 := Fr.app N0 Nq2
  have K2 : Keep h0 T2.heap [] := K1.trans Kq2 (allS (Or.inr sz_b1) all0)
  obtain ⟨fs, hr, hrun, hended, hW, hsame⟩ := X2.leave (v := some (.ref b1)) (fun h => by rw [Bd.returns] at h; cases h)
  refine ⟨_, _, castTop (ef_14_0 m a1 (0 : Int32) (1 : Int32)) ?_, hrun, hended, _, _, rfl, ?_, ⟨_, rfl⟩, hW, hsame.mono (by decide) (by decide)⟩
  · show Sp p e below s₁ (mkF m 0 #[.val (.ref a1), .val (.int (0 : Int32)), .val (.int (1 : Int32)), .unset, .unset, .unset] []) _
    refine XS.iloadN X0.here hx rfl (hb hby d14_0) rfl ?_
    show Sp p e below s₁ (mkF m 1 #[.val (.ref a1), .val (.int (0 : Int32)), .val (.int (1 : Int32)), .unset, .unset, .unset] [(.int (1 : Int32))]) _
    refine st1 _ ?_
    show Sp p e below T1 (mkF m 3 #[.val (.ref a1), .val (.int (0 : Int32)), .val (.int (1 : Int32)), .unset, .unset, .unset] [(.ref b1)]) _
    refine XS.astoreN X1.here hx rfl (hb hby d14_3) rfl rfl (l' := #[.val (.ref a1), .val (.int (0 : Int32)), .val (.int (1 : Int32)), .val (.ref b1), .unset, .unset]) rfl ?_
    refine XS.aloadN X1.here hx rfl (hb hby d14_4) rfl rfl ?_
    refine XS.iloadN X1.here hx rfl (hb hby d14_5) rfl ?_
    refine XS.aloadN X1.here hx rfl (hb hby d14_6) rfl rfl ?_
    refine XS.iconst X1.here hx rfl (hb hby d14_7) ?_
    refine XS.iloadN X1.here hx rfl (hb hby d14_8) rfl ?_
    show Sp p e below T1 (mkF m 9 #[.val (.ref a1), .val (.int (0 : Int32)), .val (.int (1 : Int32)), .val (.ref b1), .unset, .unset] [(.int (1 : Int32)), (.int (0 : Int32)), (.ref b1), (.int (0 : Int32)), (.ref a1)]) _
    refine st2 _ ?_
    show Sp p e below T2 (mkF m 12 #[.val (.ref a1), .val (.int (0 : Int32)), .val (.int (1 : Int32)), .val (.ref b1), .unset, .unset] [(.int (1 : Int32))]) _
    refine XS.istore X2.here hx rfl (hb hby d14_12) rfl (l' := #[.val (.ref a1), .val (.int (0 : Int32)), .val (.int (1 : Int32)), .val (.ref b1), .val (.int (1 : Int32)), .unset]) rfl ?_
    refine XS.iload X2.here hx rfl (hb hby d14_14) rfl ?_
    refine XS.iloadN X2.here hx rfl (hb hby d14_16) rfl ?_
    refine XS.icmpYes X2.here hx rfl (pc0 := 17) (pc' := 57) rfl (hb hby d14_17) rfl (teq (by decide : (1 : Int32) = (1 : Int32))).1 (by decide) (by decide) ?_
    refine XS.aloadN X2.here hx rfl (hb hby d14_57) rfl rfl ?_
    show Sp p e below T2 (mkF m 58 #[.val (.ref a1), .val (.int (0 : Int32)), .val (.int (1 : Int32)), .val (.ref b1), .val (.int (1 : Int32)), .unset] [(.ref b1)]) _
    jvm_step X2.here [X2.here.top, hx, (hb hby d14_58), X2.method', Bd.returns, Value.isRef, FieldType.isReference]
    first | (intro acts; rw [hr _ acts rfl rfl rfl]) | rw [hr _ _ rfl rfl rfl]
    exact Steps.refl _
  · show Q6 Z v0 v1 v2 v3 v4 v5 v6 v7 v8 v9 cs_v a1 k_a1 p3 h0 n0 _ T2.heap _
    exact ⟨b1, k1, rfl, N2, K2, sz_b1, fq2_0, fq2_1⟩
theorem pd_4 : parseMethodDescriptor "([CII)[B" = some ⟨[(.array .char), .int, .int], some (.array .byte)⟩ := by decide +kernel
theorem d4_39 : decode jdk_42_method_149_code 39 = .ok (.astore 5, 2) := by decide +kernel
theorem d4_41 : decode jdk_42_method_149_code 41 = .ok (.aload_n 0, 1) := by decide +kernel
theorem d4_42 : decode jdk_42_method_149_code 42 = .ok (.aload 5, 2) := by decide +kernel
theorem d4_44 : decode jdk_42_method_149_code 44 = .ok (.iload_n 3, 1) := by decide +kernel
theorem d4_45 : decode jdk_42_method_149_code 45 = .ok (.invokestatic 47, 3) := by decide +kernel
theorem d16_0 : decode jdk_52_method_15_code 0 = .ok (.iload_n 1, 1) := by decide +kernel
theorem d16_1 : decode jdk_52_method_15_code 1 = .ok (.aload_n 0, 1) := by decide +kernel
theorem d16_2 : decode jdk_52_method_15_code 2 = .ok (.arraylength, 1) := by decide +kernel
theorem d16_3 : decode jdk_52_method_15_code 3 = .ok (.isub, 1) := by decide +kernel
theorem d16_4 : decode jdk_52_method_15_code 4 = .ok (.bipush 31, 2) := by decide +kernel
theorem d16_6 : decode jdk_52_method_15_code 6 = .ok (.iushr, 1) := by decide +kernel
theorem d16_7 : decode jdk_52_method_15_code 7 = .ok (.i2b, 1) := by decide +kernel
theorem d16_8 : decode jdk_52_method_15_code 8 = .ok (.ireturn, 1) := by decide +kernel
abbrev fx11 : Int32 := (((((1 : Int32) - (1 : Int32)).toUInt32 >>> ((31 : Int32) &&& 31).toUInt32).toInt32).toInt8.toInt32)
abbrev y6 : MethodName := (⟨"java/lang/StringUTF16", "coderFromArrayLen", "([BI)B"⟩ : MethodName)
theorem ef_16_0 (m : MethodId) (x0 : Addr) (x1 : Int32) : entryFrame m #[(.ref x0), (.int x1)] 2 = mkF m 0 #[.val (.ref x0), .val (.int x1)] [] := by first | (simp [entryFrame, mkF, argsToLocals, Value.category]; done) | rfl
def Q7 (Z : State) (v0 : Addr) (v1 : Addr) (v2 : Addr) (v3 : Addr) (v4 : Addr) (v5 : Addr) (v6 : Addr) (v7 : Addr) (v8 : Addr) (v9 : Addr) (cs_v : Int32) (a1 : Addr) (k_a1 : ClassId) (p3 : Int32) (h0 : Heap) (n0 : Nat) (v : Option Value) (h : Heap) (L : List Loc) : Prop := v = some (.int (0 : Int32)) ∧ Fr n0 L ∧ h = h0
theorem rm7 (l : Launch) (Z : State) (a0 : Array Value) (hw : ∀ d ∈ tables_1, d.before a0 Z = true) (ws : List Jvm.Cond) (v0 v1 v2 v3 v4 v5 v6 v7 v8 v9 : Addr) (cs_v : Int32) (hp : Perm Z v0 v1 v2 v3 v4 v5 v6 v7 v8 v9 cs_v) (a1 : Addr) (k_a1 : ClassId) (p3 : Int32) (h0 : Heap) (n0 : Nat) (O0 : Old Z n0 h0) (V_a1 : Arv Z h0 a1 k_a1 .byte (1 : Int32) [(.int p3)] (.int (0 : Int32))) :
    MetFree l y6 (head1 (Jvm.Cond.code y6 jdk_52_method_15_code 2 (some .byte) :: ws) ({ frames := 0, cells := 0, slots := 0, locals := 0 } : Room)) (fun a U => a = #[(.ref a1), (.int (1 : Int32))] ∧ Z.Warmed39 U.vm ∧ U.heap = h0) (fun _ _ _ _ _ => True) (fun _ U o U' => ∃ v L, o = .returned v ∧ Q7 Z v0 v1 v2 v3 v4 v5 v6 v7 v8 v9 cs_v a1 k_a1 p3 h0 n0 v U'.heap L ∧ FrameEnd U o U' L ({ frames := 0, cells := 0, slots := 0, locals := 0 } : Room).cells ({ frames := 0, cells := 0, slots := 0, locals := 0 } : Room).slots) := by
  refine MetFree.of_bodySF (plainFor_of_name pn_15) hisR ?_
  intro p e s m args below meth c s₁ Bd hml0 hP hK
  obtain ⟨rfl, hZ, hh⟩ := hP
  have hx := Bd.exec
  have hby := Bd.bytes
  have hml : c.maxLocals = 2 := hml0
  have hown : s.vm.findClass "java/lang/StringUTF16" = some m.cls := findClass_of_methodNamed Bd.named
  have hnm := (name_of_methodNamed Bd.named Bd.method).1
  have X0 : Stand p l e ({ frames := 0, cells := 0, slots := 0, locals := 0 } : Room) s m #[(.ref a1), (.int (1 : Int32))] below meth c s₁ [] 0 0 := Stand.of_body Bd
  have e0 : s₁.heap = h0 := by rw [← hh, Bd.state]; rfl
  have N0 := Fr.nil n0
  obtain ⟨cl1, Ar1, -, S1, Nn1, -, -⟩ := id V_a1
  obtain ⟨fs, hr, hrun, hended, hW, hsame⟩ := X0.leave (v := some (.int (0 : Int32))) (fun h => by rw [Bd.returns] at h; cases h)
  refine ⟨_, _, castTop (ef_16_0 m a1 (1 : Int32)) ?_, hrun, hended, _, _, rfl, ?_, ⟨_, rfl⟩, hW, hsame.mono (by decide) (by decide)⟩
  · show Sp p e below s₁ (mkF m 0 #[.val (.ref a1), .val (.int (1 : Int32))] []) _
    refine XS.iloadN X0.here hx rfl (hb hby d16_0) rfl ?_
    refine XS.aloadN X0.here hx rfl (hb hby d16_1) rfl rfl ?_
    show Sp p e below s₁ (mkF m 2 #[.val (.ref a1), .val (.int (1 : Int32))] [(.ref a1), (.int (1 : Int32))]) _
    refine X0.arraylength hx (by rw [e0]; exact Ar1.1) (State.isArrayOf_alike hZ.alike Ar1.2.1) (g := (mkF m 2 #[.val (.ref a1), .val (.int (1 : Int32))] [(.ref a1), (.int (1 : Int32))])) rfl rfl (hb hby d16_2) _ ?_
    rw [len_of S1 Nn1]
    show Sp p e below s₁ (mkF m 3 #[.val (.ref a1), .val (.int (1 : Int32))] [(.int (1 : Int32)), (.int (1 : Int32))]) _
    refine XS.isub X0.here hx rfl (hb hby d16_3) rfl ?_
    refine XS.bipush X0.here hx rfl (hb hby d16_4) ?_
    refine XS.iushr X0.here hx rfl (hb hby d16_6) rfl ?_
    refine XS.i2b X0.here hx rfl (hb hby d16_7) rfl ?_
    show Sp p e below s₁ (mkF m 8 #[.val (.ref a1), .val (.int (1 : Int32))] [(.int (fx11 ))]) _
    exact retN X0 hx (t := .byte) Bd.returns (by simp) (hb hby d16_8) hr
  · show Q7 Z v0 v1 v2 v3 v4 v5 v6 v7 v8 v9 cs_v a1 k_a1 p3 h0 n0 _ s₁.heap _
    rw [e0]
    exact ⟨rfl, N0, rfl⟩
theorem pd_5 : parseMethodDescriptor "([BI)B" = some ⟨[(.array .byte), .int], some .byte⟩ := by decide +kernel
theorem d4_48 : decode jdk_42_method_149_code 48 = .ok (.putfield 15, 3) := by decide +kernel
theorem d4_51 : decode jdk_42_method_149_code 51 = .ok (.aload_n 0, 1) := by decide +kernel
theorem d4_52 : decode jdk_42_method_149_code 52 = .ok (.aload 5, 2) := by decide +kernel
theorem d4_54 : decode jdk_42_method_149_code 54 = .ok (.putfield 9, 3) := by decide +kernel
theorem d4_57 : decode jdk_42_method_149_code 57 = .ok (.return_, 1) := by decide +kernel
def Q8 (Z : State) (v0 : Addr) (v1 : Addr) (v2 : Addr) (v3 : Addr) (v4 : Addr) (v5 : Addr) (v6 : Addr) (v7 : Addr) (v8 : Addr) (v9 : Addr) (cs_v : Int32) (a1 : Addr) (a2 : Addr) (k_a2 : ClassId) (p4 : Int32) (h0 : Heap) (n0 : Nat) (v : Option Value) (h : Heap) (L : List Loc) : Prop := ∃ (b3_0 : Addr), ∃ (kc3_0 : ClassId), v = none ∧ Fr n0 L ∧ Keep h0 h [a1] ∧ h0.size ≤ b3_0 ∧ Exa Z h a1 "java/lang/String" ∧ Fld Z h a1 "java/lang/String" "coder" "B" (.int (0 : Int32)) ∧ Fld Z h a1 "java/lang/String" "value" "[B" (.ref b3_0) ∧ Exa Z h b3_0 "[B" ∧ Arv Z h b3_0 kc3_0 .byte (1 : Int32) [(.int (nar .byte (p4.toInt8.toInt32)))] (.int (0 : Int32))
theorem rm8 (l : Launch) (Z : State) (a0 : Array Value) (hw : ∀ d ∈ tables_1, d.before a0 Z = true) (ws : List Jvm.Cond) (v0 v1 v2 v3 v4 v5 v6 v7 v8 v9 : Addr) (cs_v : Int32) (hp : Perm Z v0 v1 v2 v3 v4 v5 v6 v7 v8 v9 cs_v) (a1 : Addr) (a2 : Addr) (k_a2 : ClassId) (p4 : Int32) (h0 : Heap) (n0 : Nat) (O0 : Old Z n0 h0) (V_a2 : Arv Z h0 a2 k_a2 .char (1 : Int32) [(.int p4)] (.int (0 : Int32))) (hc2 : ¬ ((255 : Int32) < p4)) (E_a1 : Exa Z h0 a1 "java/lang/String") (F_value_a1 : Fld Z h0 a1 "java/lang/String" "value" "[B" .null) (F_coder_a1 : Fld Z h0 a1 "java/lang/String" "coder" "B" (.int (0 : Int32))) (g_a1 : n0 ≤ a1) :
    MetFree l y1 (head1 (Jvm.Cond.code y1 jdk_42_method_149_code 6 none :: ws) ({ frames := 2, cells := 1, slots := 1, locals := 35 } : Room)) (fun a U => a = #[(.ref a1), (.ref a2), (.int (0 : Int32)), (.int (1 : Int32)), .null] ∧ Z.Warmed39 U.vm ∧ U.heap = h0) (fun _ _ _ _ _ => True) (fun _ U o U' => ∃ v L, o = .returned v ∧ Q8 Z v0 v1 v2 v3 v4 v5 v6 v7 v8 v9 cs_v a1 a2 k_a2 p4 h0 n0 v U'.heap L ∧ FrameEnd U o U' L ({ frames := 2, cells := 1, slots := 1, locals := 35 } : Room).cells ({ frames := 2, cells := 1, slots := 1, locals := 35 } : Room).slots) := by
  refine MetFree.of_bodySF (plainFor_of_name pn_4) hisR ?_
  intro p e s m args below meth c s₁ Bd hml0 hP hK
  obtain ⟨rfl, hZ, hh⟩ := hP
  have hx := Bd.exec
  have hby := Bd.bytes
  have hml : c.maxLocals = 6 := hml0
  have hown : s.vm.findClass "java/lang/String" = some m.cls := findClass_of_methodNamed Bd.named
  have hnm := (name_of_methodNamed Bd.named Bd.method).1
  have X0 : Stand p l e ({ frames := 2, cells := 1, slots := 1, locals := 35 } : Room) s m #[(.ref a1), (.ref a2), (.int (0 : Int32)), (.int (1 : Int32)), .null] below meth c s₁ [] 0 0 := Stand.of_body Bd
  have e0 : s₁.heap = h0 := by rw [← hh, Bd.state]; rfl
  have N0 := Fr.nil n0
  have hp' := hp
  obtain ⟨_, _, _, _, _, _, _, _, _, _, _, _, _, _, _, _, _, _, _, _, _, _, _, _, _, _, _, _, _, _, S_COMPACT_STRINGS, h_cs⟩ := hp'
  obtain ⟨T1, X1, e1, st1⟩ := initO X0 hx hZ hown (wq hw 19 rfl) (wq hw 20 rfl) (wq hw 21 rfl) e0 (g := (mkF m 1 #[.val (.ref a1), .val (.ref a2), .val (.int (0 : Int32)), .val (.int (1 : Int32)), .val .null, .unset] [(.ref a1)])) rfl (by rw [hml]; rfl) rfl (hb hby d4_1) (by decide) (W := 0) (by show 2 * 0 + _ ≤ _; exact Nat.le_of_eq rfl) (by decide)
  obtain ⟨T2, X2, e2, st2⟩ := getS2 X1 hx hZ hown (host := "") (Or.inl (wq hw 76 rfl)) Via.refl e1 (S_COMPACT_STRINGS.ext O0.2) (g := (mkF m 27 #[.val (.ref a1), .val (.ref a2), .val (.int (0 : Int32)), .val (.int (1 : Int32)), .val .null, .unset] [])) rfl (hb hby d4_27)
  obtain ⟨_, _, ⟨T3, L3, k3, n3⟩, -, X3, ⟨Lc3, hQ3, l3, y3, z3⟩, st3⟩ := Jvm.LawKit.callS X2 hx (y := y5) hown (mvT hZ (wq hw 83 rfl)) (mvT hZ (wq hw 84 rfl)) (mvT hZ (wq hw 85 rfl)) (mvT hZ (wq hw 86 rfl)) (by decide) (backOf (W := 0) (rm6 l Z a0 hw [] v0 v1 v2 v3 v4 v5 v6 v7 v8 v9 cs_v hp a2 k_a2 p4 h0 n0 O0 V_a2 hc2) hZ (wq hw 86 rfl) (wq hw 85 rfl) (by decide) (by decide)) (g := (mkF m 36 #[.val (.ref a1), .val (.ref a2), .val (.int (0 : Int32)), .val (.int (1 : Int32)), .val .null, .unset] [(.int (1 : Int32)), (.int (0 : Int32)), (.ref a2)])) rfl (by rw [hml]; rfl) (argsL := [(.ref a2), (.int (0 : Int32)), (.int (1 : Int32))]) (rest := []) (lenOf pd_4 rfl) rfl (by show 2 * 0 + _ ≤ _; exact Nat.le_of_eq rfl) (hb hby d4_36) (fun _ _ => ⟨rfl, e2, (by decide : 0 + 1 ≤ _), (by decide : 0 + 1 ≤ _)⟩)
  dsimp only [Pt.U, Pt.locs, Pt.cells, Pt.slots] at X3 l3 y3 z3 st3 hQ3
  subst l3 y3 z3
  obtain ⟨b3_0, kc3_0, rfl, Nq3, Kq3, sq_b3_0, fq3_0, fq3_1⟩ := hQ3
  have N3 := Fr.app N0 Nq3
  have sz_b3_0 : h0.size ≤ b3_0 := Nat.le_trans (Keep.refl h0 [a1]).1 sq_b3_0
  have O3 := O0.keep Kq3 all0
  have K3 : Keep h0 T3.heap [a1] := (Keep.refl h0 [a1]).trans Kq3 all0
  obtain ⟨_, _, ⟨T4, L4, k4, n4⟩, -, X4, ⟨Lc4, hQ4, l4, y4, z4⟩, st4⟩ := Jvm.LawKit.callS X3 hx (y := y6) hown (mvT hZ (wq hw 90 rfl)) (mvT hZ (wq hw 91 rfl)) (mvT hZ (wq hw 85 rfl)) (mvT hZ (wq hw 92 rfl)) (by decide) (backOf (W := 1) (rm7 l Z a0 hw [] v0 v1 v2 v3 v4 v5 v6 v7 v8 v9 cs_v hp b3_0 kc3_0 (nar .byte (p4.toInt8.toInt32)) T3.heap n0 O3 fq3_1) hZ (wq hw 92 rfl) (wq hw 85 rfl) (by decide) (by decide)) (g := (mkF m 45 #[.val (.ref a1), .val (.ref a2), .val (.int (0 : Int32)), .val (.int (1 : Int32)), .val .null, .val (.ref b3_0)] [(.int (1 : Int32)), (.ref b3_0), (.ref a1)])) rfl (by rw [hml]; rfl) (argsL := [(.ref b3_0), (.int (1 : Int32))]) (rest := [(.ref a1)]) (lenOf pd_5 rfl) rfl (by show 2 * 0 + _ ≤ _; exact Nat.le_of_eq rfl) (hb hby d4_45) (fun _ _ => ⟨rfl, rfl, (by decide : 1 + 0 ≤ _), (by decide : 1 + 0 ≤ _)⟩)
  dsimp only [Pt.U, Pt.locs, Pt.cells, Pt.slots] at X4 l4 y4 z4 st4 hQ4
  subst l4 y4 z4
  obtain ⟨rfl, Nq4, eq4⟩ := hQ4
  have N4 := Fr.app N3 Nq4
  obtain ⟨T5, h5, X5, e5, W5, st5⟩ := putFN X4 hx hZ hown (wq hw 29 rfl) Via.refl eq4 (F_coder_a1.keep Kq3 nin0) (E_a1.keep Kq3) (Or.inr ⟨(wq hw 25 rfl), rfl, hnm⟩) (wq hw 9 rfl) (ty := .byte) (v' := (.int (0 : Int32))) (by decide) rfl rfl (g := (mkF m 48 #[.val (.ref a1), .val (.ref a2), .val (.int (0 : Int32)), .val (.int (1 : Int32)), .val .null, .val (.ref b3_0)] [(.int (0 : Int32)), (.ref a1)])) rfl rfl (hb hby d4_48)
  have N5 := Fr.snoc X5 N4 g_a1
  have K5 : Keep h0 h5 [a1] := K3.wr W5 (Or.inl (ma 0 rfl))
  have Fw5 := (F_coder_a1.keep Kq3 nin0).same W5
  obtain ⟨T6, h6, X6, e6, W6, st6⟩ := putF X5 hx hZ hown (host := "") (Or.inl (wq hw 28 rfl)) Via.refl e5 ((F_value_a1.keep Kq3 nin0).other W5 (Or.inr (sn1 hw))) ((E_a1.keep Kq3).wr W5) (Or.inr ⟨(wq hw 24 rfl), rfl, hnm⟩) (wq hw 9 rfl) (ty := (.array .byte)) (by decide) rfl rfl (g := (mkF m 54 #[.val (.ref a1), .val (.ref a2), .val (.int (0 : Int32)), .val (.int (1 : Int32)), .val .null, .val (.ref b3_0)] [(.ref b3_0), (.ref a1)])) rfl rfl (hb hby d4_54)
  have N6 := Fr.snoc X6 N5 g_a1
  have K6 : Keep h0 h6 [a1] := K5.wr W6 (Or.inl (ma 0 rfl))
  have Fw6 := ((F_value_a1.keep Kq3 nin0).other W5 (Or.inr (sn1 hw))).same W6
  have f_7 := ((fq3_1.other W5 (Ne.symm (Nat.ne_of_lt (Nat.lt_of_lt_of_le E_a1.lt sz_b3_0)))).other W6 (Ne.symm (Nat.ne_of_lt (Nat.lt_of_lt_of_le E_a1.lt sz_b3_0))))
  obtain ⟨fs, hr, hrun, hended, hW, hsame⟩ := X6.leave (v := none) (fun _ => rfl)
  refine ⟨_, _, castTop (ef_4_0 m a1 a2 (0 : Int32) (1 : Int32)) ?_, hrun, hended, _, _, rfl, ?_, ⟨_, rfl⟩, hW, hsame.mono (by decide) (by decide)⟩
  · show Sp p e below s₁ (mkF m 0 #[.val (.ref a1), .val (.ref a2), .val (.int (0 : Int32)), .val (.int (1 : Int32)), .val .null, .unset] []) _
    refine XS.aloadN X0.here hx rfl (hb hby d4_0) rfl rfl ?_
    show Sp p e below s₁ (mkF m 1 #[.val (.ref a1), .val (.ref a2), .val (.int (0 : Int32)), .val (.int (1 : Int32)), .val .null, .unset] [(.ref a1)]) _
    refine st1 _ ?_
    show Sp p e below T1 (mkF m 4 #[.val (.ref a1), .val (.ref a2), .val (.int (0 : Int32)), .val (.int (1 : Int32)), .val .null, .unset] []) _
    refine XS.iloadN X1.here hx rfl (hb hby d4_4) rfl ?_
    refine XS.ifYes X1.here hx rfl (pc0 := 5) (pc' := 27) rfl (hb hby d4_5) rfl ((if0 _ _).trans (feq (by decide : ¬ ((1 : Int32) = (0 : Int32)))).2) (by decide) (by decide) ?_
    show Sp p e below T1 (mkF m 27 #[.val (.ref a1), .val (.ref a2), .val (.int (0 : Int32)), .val (.int (1 : Int32)), .val .null, .unset] []) _
    refine st2 _ ?_
    show Sp p e below T2 (mkF m 30 #[.val (.ref a1), .val (.ref a2), .val (.int (0 : Int32)), .val (.int (1 : Int32)), .val .null, .unset] [(.int cs_v)]) _
    refine XS.ifNo X2.here hx rfl (hb hby d4_30) rfl ((if0 _ _).trans (feq h_cs).1) ?_
    refine XS.aloadN X2.here hx rfl (hb hby d4_33) rfl rfl ?_
    refine XS.iloadN X2.here hx rfl (hb hby d4_34) rfl ?_
    refine XS.iloadN X2.here hx rfl (hb hby d4_35) rfl ?_
    show Sp p e below T2 (mkF m 36 #[.val (.ref a1), .val (.ref a2), .val (.int (0 : Int32)), .val (.int (1 : Int32)), .val .null, .unset] [(.int (1 : Int32)), (.int (0 : Int32)), (.ref a2)]) _
    refine st3 _ ?_
    show Sp p e below T3 (mkF m 39 #[.val (.ref a1), .val (.ref a2), .val (.int (0 : Int32)), .val (.int (1 : Int32)), .val .null, .unset] [(.ref b3_0)]) _
    refine XS.astore X3.here hx rfl (hb hby d4_39) rfl rfl (l' := #[.val (.ref a1), .val (.ref a2), .val (.int (0 : Int32)), .val (.int (1 : Int32)), .val .null, .val (.ref b3_0)]) rfl ?_
    refine XS.aloadN X3.here hx rfl (hb hby d4_41) rfl rfl ?_
    refine XS.aload X3.here hx rfl (hb hby d4_42) rfl rfl ?_
    refine XS.iloadN X3.here hx rfl (hb hby d4_44) rfl ?_
    show Sp p e below T3 (mkF m 45 #[.val (.ref a1), .val (.ref a2), .val (.int (0 : Int32)), .val (.int (1 : Int32)), .val .null, .val (.ref b3_0)] [(.int (1 : Int32)), (.ref b3_0), (.ref a1)]) _
    refine st4 _ ?_
    show Sp p e below T4 (mkF m 48 #[.val (.ref a1), .val (.ref a2), .val (.int (0 : Int32)), .val (.int (1 : Int32)), .val .null, .val (.ref b3_0)] [(.int (0 : Int32)), (.ref a1)]) _
    refine st5 _ ?_
    show Sp p e below T5 (mkF m 51 #[.val (.ref a1), .val (.ref a2), .val (.int (0 : Int32)), .val (.int (1 : Int32)), .val .null, .val (.ref b3_0)] []) _
    refine XS.aloadN X5.here hx rfl (hb hby d4_51) rfl rfl ?_
    refine XS.aload X5.here hx rfl (hb hby d4_52) rfl rfl ?_
    show Sp p e below T5 (mkF m 54 #[.val (.ref a1), .val (.ref a2), .val (.int (0 : Int32)), .val (.int (1 : Int32)), .val .null, .val (.ref b3_0)] [(.ref b3_0), (.ref a1)]) _
    refine st6 _ ?_
    show Sp p e below T6 (mkF m 57 #[.val (.ref a1), .val (.ref a2), .val (.int (0 : Int32)), .val (.int (1 : Int32)), .val .null, .val (.ref b3_0)] []) _
    exact X6.returnOut hx Bd.returns (hb hby d4_57) hr
  · show Q8 Z v0 v1 v2 v3 v4 v5 v6 v7 v8 v9 cs_v a1 a2 k_a2 p4 h0 n0 _ T6.heap _
    rw [e6]
    exact ⟨b3_0, kc3_0, rfl, N6, K6, sz_b3_0, (((E_a1.keep Kq3).wr W5).wr W6), (Fw5.other W6 (Or.inr (sn0 hw))), Fw6, ((fq3_0.wr W5).wr W6), f_7⟩
def Q9 (Z : State) (v0 : Addr) (v1 : Addr) (v2 : Addr) (v3 : Addr) (v4 : Addr) (v5 : Addr) (v6 : Addr) (v7 : Addr) (v8 : Addr) (v9 : Addr) (cs_v : Int32) (a1 : Addr) (a2 : Addr) (k_a2 : ClassId) (p4 : Int32) (h0 : Heap) (n0 : Nat) (v : Option Value) (h : Heap) (L : List Loc) : Prop := ∃ (b2_0 : Addr), ∃ (kc2_0 : ClassId), v = none ∧ Fr n0 L ∧ Keep h0 h [a1] ∧ h0.size ≤ b2_0 ∧ Exa Z h a1 "java/lang/String" ∧ Fld Z h a1 "java/lang/String" "coder" "B" (.int (0 : Int32)) ∧ Fld Z h a1 "java/lang/String" "value" "[B" (.ref b2_0) ∧ Exa Z h b2_0 "[B" ∧ Arv Z h b2_0 kc2_0 .byte (1 : Int32) [(.int (nar .byte (p4.toInt8.toInt32)))] (.int (0 : Int32))
theorem rm9 (l : Launch) (Z : State) (a0 : Array Value) (hw : ∀ d ∈ tables_1, d.before a0 Z = true) (ws : List Jvm.Cond) (v0 v1 v2 v3 v4 v5 v6 v7 v8 v9 : Addr) (cs_v : Int32) (hp : Perm Z v0 v1 v2 v3 v4 v5 v6 v7 v8 v9 cs_v) (a1 : Addr) (a2 : Addr) (k_a2 : ClassId) (p4 : Int32) (h0 : Heap) (n0 : Nat) (O0 : Old Z n0 h0) (V_a2 : Arv Z h0 a2 k_a2 .char (1 : Int32) [(.int p4)] (.int (0 : Int32))) (hc2 : ¬ ((255 : Int32) < p4)) (E_a1 : Exa Z h0 a1 "java/lang/String") (F_value_a1 : Fld Z h0 a1 "java/lang/String" "value" "[B" .null) (F_coder_a1 : Fld Z h0 a1 "java/lang/String" "coder" "B" (.int (0 : Int32))) (g_a1 : n0 ≤ a1) :
    MetFree l y2 (head1 (Jvm.Cond.code y2 jdk_42_method_3_code 2 none :: ws) ({ frames := 3, cells := 1, slots := 1, locals := 52 } : Room)) (fun a U => a = #[(.ref a1), (.ref a2)] ∧ Z.Warmed39 U.vm ∧ U.heap = h0) (fun _ _ _ _ _ => True) (fun _ U o U' => ∃ v L, o = .returned v ∧ Q9 Z v0 v1 v2 v3 v4 v5 v6 v7 v8 v9 cs_v a1 a2 k_a2 p4 h0 n0 v U'.heap L ∧ FrameEnd U o U' L ({ frames := 3, cells := 1, slots := 1, locals := 52 } : Room).cells ({ frames := 3, cells := 1, slots := 1, locals := 52 } : Room).slots) := by
  refine MetFree.of_bodySF (plainFor_of_name pn_4) hisR ?_
  intro p e s m args below meth c s₁ Bd hml0 hP hK
  obtain ⟨rfl, hZ, hh⟩ := hP
  have hx := Bd.exec
  have hby := Bd.bytes
  have hml : c.maxLocals = 2 := hml0
  have hown : s.vm.findClass "java/lang/String" = some m.cls := findClass_of_methodNamed Bd.named
  have hnm := (name_of_methodNamed Bd.named Bd.method).1
  have X0 : Stand p l e ({ frames := 3, cells := 1, slots := 1, locals := 52 } : Room) s m #[(.ref a1), (.ref a2)] below meth c s₁ [] 0 0 := Stand.of_body Bd
  have e0 : s₁.heap = h0 := by rw [← hh, Bd.state]; rfl
  have N0 := Fr.nil n0
  obtain ⟨cl1, Ar1, -, S1, Nn1, -, -⟩ := id V_a2
  obtain ⟨_, _, ⟨T2, L2, k2, n2⟩, -, X2, ⟨Lc2, hQ2, l2, y2, z2⟩, st2⟩ := X0.specialBack hx (y := y1) rfl hown (mvT hZ (wq hw 15 rfl)) (mvT hZ (wq hw 16 rfl)) (mvT hZ (wq hw 18 rfl)) (by decide) (backOf (W := 0) (rm8 l Z a0 hw [] v0 v1 v2 v3 v4 v5 v6 v7 v8 v9 cs_v hp a1 a2 k_a2 p4 h0 n0 O0 V_a2 hc2 E_a1 F_value_a1 F_coder_a1 g_a1) hZ (wq hw 18 rfl) (wq hw 10 rfl) (by decide) (by decide)) (g := (mkF m 6 #[.val (.ref a1), .val (.ref a2)] [.null, (.int (1 : Int32)), (.int (0 : Int32)), (.ref a2), (.ref a1)])) rfl (by rw [hml]; rfl) (Steps.refl _) (a := a1) (argsL := [(.ref a2), (.int (0 : Int32)), (.int (1 : Int32)), .null]) (rest := []) (lenOf pd_1 rfl) rfl (by show 2 * 0 + _ ≤ _; exact Nat.le_of_eq rfl) (hb hby d3_6) (fun _ _ => ⟨rfl, e0, (by decide : 0 + 1 ≤ _), (by decide : 0 + 1 ≤ _)⟩)
  dsimp only [Pt.U, Pt.locs, Pt.cells, Pt.slots] at X2 l2 y2 z2 st2 hQ2
  subst l2 y2 z2
  obtain ⟨b2_0, kc2_0, rfl, Nq2, Kq2, sq_b2_0, fq2_0, fq2_1, fq2_2, fq2_3, fq2_4⟩ := hQ2
  have N2 := Fr.app N0 Nq2
  have sz_b2_0 : h0.size ≤ b2_0 := Nat.le_trans (Keep.refl h0 [a1]).1 sq_b2_0
  have K2 : Keep h0 T2.heap [a1] := (Keep.refl h0 [a1]).trans Kq2 (allS (Or.inl (ma 0 rfl)) all0)
  obtain ⟨fs, hr, hrun, hended, hW, hsame⟩ := X2.leave (v := none) (fun _ => rfl)
  refine ⟨_, _, castTop (ef_3_0 m a1 a2) ?_, hrun, hended, _, _, rfl, ?_, ⟨_, rfl⟩, hW, hsame.mono (by decide) (by decide)⟩
  · show Sp p e below s₁ (mkF m 0 #[.val (.ref a1), .val (.ref a2)] []) _
    refine XS.aloadN X0.here hx rfl (hb hby d3_0) rfl rfl ?_
    refine XS.aloadN X0.here hx rfl (hb hby d3_1) rfl rfl ?_
    refine XS.iconst X0.here hx rfl (hb hby d3_2) ?_
    refine XS.aloadN X0.here hx rfl (hb hby d3_3) rfl rfl ?_
    show Sp p e below s₁ (mkF m 4 #[.val (.ref a1), .val (.ref a2)] [(.ref a2), (.int (0 : Int32)), (.ref a2), (.ref a1)]) _
    refine X0.arraylength hx (by rw [e0]; exact Ar1.1) (State.isArrayOf_alike hZ.alike Ar1.2.1) (g := (mkF m 4 #[.val (.ref a1), .val (.ref a2)] [(.ref a2), (.int (0 : Int32)), (.ref a2), (.ref a1)])) rfl rfl (hb hby d3_4) _ ?_
    rw [len_of S1 Nn1]
    show Sp p e below s₁ (mkF m 5 #[.val (.ref a1), .val (.ref a2)] [(.int (1 : Int32)), (.int (0 : Int32)), (.ref a2), (.ref a1)]) _
    refine XS.aconstNull X0.here hx rfl (hb hby d3_5) ?_
    show Sp p e below s₁ (mkF m 6 #[.val (.ref a1), .val (.ref a2)] [.null, (.int (1 : Int32)), (.int (0 : Int32)), (.ref a2), (.ref a1)]) _
    refine st2.trans ?_
    show Sp p e below T2 (mkF m 9 #[.val (.ref a1), .val (.ref a2)] []) _
    exact X2.returnOut hx Bd.returns (hb hby d3_9) hr
  · show Q9 Z v0 v1 v2 v3 v4 v5 v6 v7 v8 v9 cs_v a1 a2 k_a2 p4 h0 n0 _ T2.heap _
    exact ⟨b2_0, kc2_0, rfl, N2, K2, sz_b2_0, fq2_0, fq2_1, fq2_2, fq2_3, fq2_4⟩
theorem d1_67 : decode method_4_code 67 = .ok (.areturn, 1) := by decide +kernel
def Q10 (Z : State) (v0 : Addr) (v1 : Addr) (v2 : Addr) (v3 : Addr) (v4 : Addr) (v5 : Addr) (v6 : Addr) (v7 : Addr) (v8 : Addr) (v9 : Addr) (cs_v : Int32) (p0 : Int32) (h0 : Heap) (n0 : Nat) (v : Option Value) (h : Heap) (L : List Loc) : Prop := ∃ (b2 b8_0 : Addr), ∃ (kc8_0 : ClassId), v = some (.ref b2) ∧ Fr n0 L ∧ Keep h0 h [] ∧ h0.size ≤ b2 ∧ h0.size ≤ b8_0 ∧ b2 ≠ b8_0 ∧ Exa Z h b2 "java/lang/String" ∧ Fld Z h b2 "java/lang/String" "coder" "B" (.int (0 : Int32)) ∧ Fld Z h b2 "java/lang/String" "value" "[B" (.ref b8_0) ∧ Exa Z h b8_0 "[B" ∧ Arv Z h b8_0 kc8_0 .byte (1 : Int32) [(.int (nar .byte ((nar .char ((p0 &&& (255 : Int32)).toUInt32.toUInt16.toUInt32.toInt32)).toInt8.toInt32)))] (.int (0 : Int32))
theorem rm10 (l : Launch) (Z : State) (a0 : Array Value) (hw : ∀ d ∈ tables_1, d.before a0 Z = true) (ws : List Jvm.Cond) (v0 v1 v2 v3 v4 v5 v6 v7 v8 v9 : Addr) (cs_v : Int32) (hp : Perm Z v0 v1 v2 v3 v4 v5 v6 v7 v8 v9 cs_v) (p0 : Int32) (h0 : Heap) (n0 : Nat) (O0 : Old Z n0 h0) (hc1 : ¬ ((((p0.toUInt32 >>> ((24 : Int32) &&& 31).toUInt32).toInt32) &&& (3 : Int32)) = (0 : Int32))) (hc2 : (((p0.toUInt32 >>> ((24 : Int32) &&& 31).toUInt32).toInt32) &&& (3 : Int32)) = (1 : Int32)) :
    MetFree l y3 (head1 (Jvm.Cond.code y3 method_4_code 5 (some (.object "java/lang/String")) :: ws) ({ frames := 4, cells := 4, slots := 10, locals := 66 } : Room)) (fun a U => a = #[(.int p0)] ∧ Z.Warmed39 U.vm ∧ U.heap = h0 ∧ CHv Z own_EL U.vm h0 ∧ ∀ x ∈ ([] : List Addr), Safe Z own_EL U.vm h0 x) (fun _ _ _ _ _ => True) (fun _ U o U' => ∃ v L, o = .returned v ∧ Q10 Z v0 v1 v2 v3 v4 v5 v6 v7 v8 v9 cs_v p0 h0 n0 v U'.heap L ∧ CHr Z own_EL U.vm U.heap U'.vm U'.heap ∧ ReturnedEndW U o U' L ({ frames := 4, cells := 4, slots := 10, locals := 66 } : Room).cells ({ frames := 4, cells := 4, slots := 10, locals := 66 } : Room).slots) := by
  refine MetFree.of_bodySF (plainFor_of_name pn_2) hisR ?_
  intro p e s m args below meth c s₁ Bd hml0 hP hK
  obtain ⟨rfl, hZo, hh, hCH, hSL⟩ := hP
  have hx := Bd.exec
  have hby := Bd.bytes
  have hml : c.maxLocals = 5 := hml0
  have hown : (s.setVm s.vm).vm.findClass "com/example/ratebook/ratebook/model/PricedItemEqualsPinLaw" = some m.cls := findClass_of_methodNamed Bd.named
  have hnm := (name_of_methodNamed Bd.named Bd.method).1
  have X0 : Stand p l e ({ frames := 4, cells := 4, slots := 10, locals := 66 } : Room) (s.setVm s.vm) m #[(.int p0)] below meth c s₁ [] 0 0 := Stand.of_body Bd
  have e0 : s₁.heap = h0 := by rw [← hh, Bd.state]; rfl
  have N0 := Fr.nil n0
  have hZ : Z.Warmed39 (s.setVm s.vm).vm := hZo
  have CH0 := CHr.refl hCH
  have hS0 : s.Since s.vm 0 := (State.WarmedH.refl s).since 0
  have hk0 : 0 ≤ h0.size := Nat.zero_le _
  obtain ⟨_, _, ⟨T1, L1, k1, n1⟩, -, X1, ⟨Lc1, hQ1, l1, y1, z1⟩, st1⟩ := Jvm.LawKit.callS X0 hx (y := y0) hown (mvT hZ (wq hw 5 rfl)) (mvT hZ (wq hw 6 rfl)) (mvT hZ (wq hw 3 rfl)) (mvT hZ (wq hw 7 rfl)) (by decide) (backOf (W := 0) (rm1 l Z a0 hw [] v0 v1 v2 v3 v4 v5 v6 v7 v8 v9 cs_v hp p0 h0 n0 O0) hZ (wq hw 7 rfl) (wq hw 3 rfl) (by decide) (by decide)) (g := (mkF m 1 #[.val (.int p0), .unset, .unset, .unset, .unset] [(.int p0)])) rfl (by rw [hml]; rfl) (argsL := [(.int p0)]) (rest := []) (lenOf pd_0 rfl) rfl (by show 2 * 0 + _ ≤ _; exact Nat.le_of_eq rfl) (hb hby d1_1) (fun _ _ => ⟨rfl, e0, (by decide : 0 + 0 ≤ _), (by decide : 0 + 0 ≤ _)⟩)
  dsimp only [Pt.U, Pt.locs, Pt.cells, Pt.slots] at X1 l1 y1 z1 st1 hQ1
  subst l1 y1 z1
  obtain ⟨rfl, Nq1, eq1⟩ := hQ1
  have N1 := Fr.app N0 Nq1
  obtain ⟨T2, h2, X2, e2, E2, A2, D2, -, st2⟩ := newO X1 hx hZ hown (wq hw 8 rfl) (wq hw 9 rfl) (wq hw 10 rfl) eq1 (g := (mkF m 53 #[.val (.int p0), .val (.int (fx6 p0)), .val (.int (fx7 p0)), .val (.int (fx8 p0)), .val (.int (fx9 p0))] [])) rfl (hb hby d1_53) (by decide) (by decide)
  obtain ⟨b2, g2⟩ : ∃ z, z = h0.size := ⟨_, rfl⟩
  rw [← g2] at A2 D2 st2
  have g_b2 : n0 ≤ b2 := Nat.le_trans (own_sz O0) (Nat.le_of_eq g2.symm)
  have sz_b2 : h0.size ≤ b2 := Nat.le_trans (Keep.refl h0 []).1 (Nat.le_of_eq g2.symm)
  have O2 := O0.ext E2
  have K2 : Keep h0 h2 [] := (Keep.refl h0 []).ext E2
  have CH2 := CH0.trans (CHr.ext E2 CH0.1)
  have hk2 := Nat.le_trans hk0 E2.1
  have F_value_b2 : Fld Z h2 b2 "java/lang/String" "value" "[B" .null := D2 (Or.inr (wq hw 24 rfl)) (ty := (.array .byte)) (by decide)
  have F_coder_b2 : Fld Z h2 b2 "java/lang/String" "coder" "B" (.int (0 : Int32)) := D2 (Or.inr (wq hw 25 rfl)) (ty := .byte) (by decide)
  obtain ⟨T3, h3, k3, X3, e3, E3, A3, EA3, st3⟩ := newPE X2 hx hZ (wq hw 11 rfl) e2 (g := (mkF m 58 #[.val (.int p0), .val (.int (fx6 p0)), .val (.int (fx7 p0)), .val (.int (fx8 p0)), .val (.int (fx9 p0))] [(.int (1 : Int32)), (.ref b2), (.ref b2)])) rfl (hb hby d1_58) rfl (by decide) (cap := 1) (by decide) (by decide) (by decide) (by decide) (ad := "[C") (by decide)
  obtain ⟨b3, g3⟩ : ∃ z, z = h2.size := ⟨_, rfl⟩
  rw [← g3] at A3 EA3 st3
  have g_b3 : n0 ≤ b3 := Nat.le_trans (own_sz O2) (Nat.le_of_eq g3.symm)
  have sz_b3 : h0.size ≤ b3 := Nat.le_trans K2.1 (Nat.le_of_eq g3.symm)
  have O3 := O2.ext E3
  have K3 : Keep h0 h3 [] := K2.ext E3
  have CH3 := CH2.trans (CHr.ext E3 CH2.1)
  have hk3 := Nat.le_trans hk2 E3.1
  have V_b3 : Arv Z h3 b3 k3 .char (1 : Int32) [(.int (0 : Int32))] (.int (0 : Int32)) := (Arv.new A3 (by decide)).pad (pad_rep [] (.int (0 : Int32)) 1)
  obtain ⟨cl4, Ar4, q4, S4, Nn4, H4, G4⟩ := id V_b3
  have hin4 : ¬ ((0 : Int32) < 0 ∨ cl4.slots.size ≤ ((0 : Int32)).toNatClampNeg) := inb_of S4 ⟨by decide, by decide⟩
  obtain ⟨T5, h5, X5, e5, W5, st5⟩ := stC X3 hx hZ e3 Ar4 (j := (0 : Int32)) hin4 (g := (mkF m 63 #[.val (.int p0), .val (.int (fx6 p0)), .val (.int (fx7 p0)), .val (.int (fx8 p0)), .val (.int (fx9 p0))] [(.int (fx7 p0)), (.int (0 : Int32)), (.ref b3), (.ref b3), (.ref b2), (.ref b2)])) rfl rfl (hb hby d1_63)
  have N5 := Fr.snoc X5 N1 g_b3
  have O5 := O3.wr W5 g_b3
  have K5 : Keep h0 h5 [] := K3.wr W5 (Or.inr sz_b3)
  have CH5 := CH3.trans (CHr.wr W5 (Safe.exa hZ.alike EA3 (by decide) (by decide)) CH3.1)
  have hk5 := Nat.le_trans hk3 (Keep.of_wr W5).1
  have V_b3_5 : Arv Z h5 b3 k3 .char (1 : Int32) [(.int (nar .char ((p0 &&& (255 : Int32)).toUInt32.toUInt16.toUInt32.toInt32)))] (.int (0 : Int32)) := Arv.set Ar4 q4 S4 Nn4 H4 G4 (fits_nar_char _) W5 0 rfl (Nat.le_of_ble_eq_true rfl)
  have f_6 := ((F_value_b2.ext E3).other W5 (Or.inl (Nat.ne_of_lt (Nat.lt_of_lt_of_le A2.lt (Nat.le_of_eq g3.symm)))))
  have f_7 := ((F_coder_b2.ext E3).other W5 (Or.inl (Nat.ne_of_lt (Nat.lt_of_lt_of_le A2.lt (Nat.le_of_eq g3.symm)))))
  obtain ⟨_, _, ⟨T8, L8, k8, n8⟩, -, X8, ⟨Lc8, hQ8, l8, y8, z8⟩, st8⟩ := X5.specialBack hx (y := y2) rfl hown (mvT hZ (wq hw 12 rfl)) (mvT hZ (wq hw 13 rfl)) (mvT hZ (wq hw 14 rfl)) (by decide) (backOf (W := 1) (rm9 l Z a0 hw [] v0 v1 v2 v3 v4 v5 v6 v7 v8 v9 cs_v hp b2 b3 k3 (nar .char ((p0 &&& (255 : Int32)).toUInt32.toUInt16.toUInt32.toInt32)) h5 n0 O5 V_b3_5 (own_ch2 p0) ((A2.ext E3).wr W5) f_6 f_7 g_b2) hZ (wq hw 14 rfl) (wq hw 10 rfl) (by decide) (by decide)) (g := (mkF m 64 #[.val (.int p0), .val (.int (fx6 p0)), .val (.int (fx7 p0)), .val (.int (fx8 p0)), .val (.int (fx9 p0))] [(.ref b3), (.ref b2), (.ref b2)])) rfl (by rw [hml]; rfl) (Steps.refl _) (a := b2) (argsL := [(.ref b3)]) (rest := [(.ref b2)]) (lenOf pd_2 rfl) rfl (by show 2 * 0 + _ ≤ _; exact Nat.le_of_eq rfl) (hb hby d1_64) (fun _ _ => ⟨rfl, e5, (by decide : 2 + 1 ≤ _), (by decide : 5 + 1 ≤ _)⟩)
  dsimp only [Pt.U, Pt.locs, Pt.cells, Pt.slots] at X8 l8 y8 z8 st8 hQ8
  subst l8 y8 z8
  obtain ⟨b8_0, kc8_0, rfl, Nq8, Kq8, sq_b8_0, fq8_0, fq8_1, fq8_2, fq8_3, fq8_4⟩ := hQ8
  have N8 := Fr.app N5 Nq8
  have sz_b8_0 : h0.size ≤ b8_0 := Nat.le_trans K5.1 sq_b8_0
  have sf_9 := (Safe.wr W5 (Safe.exa hZ.alike EA3 (by decide) (by decide)) CH3.1 (Safe.ext E3 CH2.1 (Safe.ext E2 CH0.1 (Safe.new (Nat.le_of_eq g2.symm)))))
  have CH8 := CH5.trans (CHr.keep Kq8 (allS sf_9 all0) CH5.1)
  have hk8 := Nat.le_trans hk5 Kq8.1
  have K8 : Keep h0 T8.heap [] := K5.trans Kq8 (allS (Or.inr sz_b2) all0)
  obtain ⟨fs, hr, hrun, hended, hE⟩ := Stand.leaveW (s := s) X8 hS0 hk8 (v := some (.ref b2)) (fun h => by rw [Bd.returns] at h; cases h)
  have CHz : CHr Z own_EL s.vm s.heap (T8.setFrames fs).vm (T8.setFrames fs).heap := by
    rw [hh]
    show CHr Z own_EL s.vm h0 T8.vm T8.heap
    exact CH8.trans (CHv.at X8 hZ (own_EW hw) CH8.1)
  refine ⟨_, _, castTop (ef_1_0 m p0) ?_, hrun, hended, _, _, rfl, ?_, CHz, hE.1, hE.2.1, hE.2.2.1, hE.2.2.2.mono (by decide) (by decide)⟩
  · show Sp p e below s₁ (mkF m 0 #[.val (.int p0), .unset, .unset, .unset, .unset] []) _
    refine XS.iloadN X0.here hx rfl (hb hby d1_0) rfl ?_
    show Sp p e below s₁ (mkF m 1 #[.val (.int p0), .unset, .unset, .unset, .unset] [(.int p0)]) _
    refine st1 _ ?_
    show Sp p e below T1 (mkF m 4 #[.val (.int p0), .unset, .unset, .unset, .unset] [(.int (fx6 p0))]) _
    refine XS.istoreN X1.here hx rfl (hb hby d1_4) rfl (l' := #[.val (.int p0), .val (.int (fx6 p0)), .unset, .unset, .unset]) rfl ?_
    refine XS.iloadN X1.here hx rfl (hb hby d1_5) rfl ?_
    refine XS.sipush X1.here hx rfl (hb hby d1_6) ?_
    refine XS.iand X1.here hx rfl (hb hby d1_9) rfl ?_
    refine XS.i2c X1.here hx rfl (hb hby d1_10) rfl ?_
    refine XS.istoreN X1.here hx rfl (hb hby d1_11) rfl (l' := #[.val (.int p0), .val (.int (fx6 p0)), .val (.int (fx7 p0)), .unset, .unset]) rfl ?_
    refine XS.iloadN X1.here hx rfl (hb hby d1_12) rfl ?_
    show Sp p e below T1 (mkF m 13 #[.val (.int p0), .val (.int (fx6 p0)), .val (.int (fx7 p0)), .unset, .unset] [(.int p0)]) _
    refine XS.bipush X1.here hx rfl (hb hby d1_13) ?_
    refine XS.iushr X1.here hx rfl (hb hby d1_15) rfl ?_
    refine XS.sipush X1.here hx rfl (hb hby d1_16) ?_
    refine XS.iand X1.here hx rfl (hb hby d1_19) rfl ?_
    refine XS.i2c X1.here hx rfl (hb hby d1_20) rfl ?_
    refine XS.istoreN X1.here hx rfl (hb hby d1_21) rfl (l' := #[.val (.int p0), .val (.int (fx6 p0)), .val (.int (fx7 p0)), .val (.int (fx8 p0)), .unset]) rfl ?_
    refine XS.iloadN X1.here hx rfl (hb hby d1_22) rfl ?_
    show Sp p e below T1 (mkF m 23 #[.val (.int p0), .val (.int (fx6 p0)), .val (.int (fx7 p0)), .val (.int (fx8 p0)), .unset] [(.int p0)]) _
    refine XS.bipush X1.here hx rfl (hb hby d1_23) ?_
    refine XS.iushr X1.here hx rfl (hb hby d1_25) rfl ?_
    refine XS.sipush X1.here hx rfl (hb hby d1_26) ?_
    refine XS.iand X1.here hx rfl (hb hby d1_29) rfl ?_
    refine XS.i2c X1.here hx rfl (hb hby d1_30) rfl ?_
    refine XS.istore X1.here hx rfl (hb hby d1_31) rfl (l' := #[.val (.int p0), .val (.int (fx6 p0)), .val (.int (fx7 p0)), .val (.int (fx8 p0)), .val (.int (fx9 p0))]) rfl ?_
    refine XS.iloadN X1.here hx rfl (hb hby d1_33) rfl ?_
    show Sp p e below T1 (mkF m 34 #[.val (.int p0), .val (.int (fx6 p0)), .val (.int (fx7 p0)), .val (.int (fx8 p0)), .val (.int (fx9 p0))] [(.int (fx6 p0))]) _
    refine XS.ifYes X1.here hx rfl (pc0 := 34) (pc' := 48) rfl (hb hby d1_34) rfl ((if0 _ _).trans (feq hc1).2) (by decide) (by decide) ?_
    refine XS.iloadN X1.here hx rfl (hb hby d1_48) rfl ?_
    refine XS.iconst X1.here hx rfl (hb hby d1_49) ?_
    refine XS.icmpNo X1.here hx rfl (hb hby d1_50) rfl (teq hc2).2 ?_
    show Sp p e below T1 (mkF m 53 #[.val (.int p0), .val (.int (fx6 p0)), .val (.int (fx7 p0)), .val (.int (fx8 p0)), .val (.int (fx9 p0))] []) _
    refine st2 _ ?_
    show Sp p e below T2 (mkF m 56 #[.val (.int p0), .val (.int (fx6 p0)), .val (.int (fx7 p0)), .val (.int (fx8 p0)), .val (.int (fx9 p0))] [(.ref b2)]) _
    refine XS.dup X2.here hx rfl (hb hby d1_56) rfl rfl ?_
    refine XS.iconst X2.here hx rfl (hb hby d1_57) ?_
    show Sp p e below T2 (mkF m 58 #[.val (.int p0), .val (.int (fx6 p0)), .val (.int (fx7 p0)), .val (.int (fx8 p0)), .val (.int (fx9 p0))] [(.int (1 : Int32)), (.ref b2), (.ref b2)]) _
    refine st3 _ ?_
    show Sp p e below T3 (mkF m 60 #[.val (.int p0), .val (.int (fx6 p0)), .val (.int (fx7 p0)), .val (.int (fx8 p0)), .val (.int (fx9 p0))] [(.ref b3), (.ref b2), (.ref b2)]) _
    refine XS.dup X3.here hx rfl (hb hby d1_60) rfl rfl ?_
    refine XS.iconst X3.here hx rfl (hb hby d1_61) ?_
    refine XS.iloadN X3.here hx rfl (hb hby d1_62) rfl ?_
    show Sp p e below T3 (mkF m 63 #[.val (.int p0), .val (.int (fx6 p0)), .val (.int (fx7 p0)), .val (.int (fx8 p0)), .val (.int (fx9 p0))] [(.int (fx7 p0)), (.int (0 : Int32)), (.ref b3), (.ref b3), (.ref b2), (.ref b2)]) _
    refine st5 _ ?_
    show Sp p e below T5 (mkF m 64 #[.val (.int p0), .val (.int (fx6 p0)), .val (.int (fx7 p0)), .val (.int (fx8 p0)), .val (.int (fx9 p0))] [(.ref b3), (.ref b2), (.ref b2)]) _
    refine st8.trans ?_
    show Sp p e below T8 (mkF m 67 #[.val (.int p0), .val (.int (fx6 p0)), .val (.int (fx7 p0)), .val (.int (fx8 p0)), .val (.int (fx9 p0))] [(.ref b2)]) _
    jvm_step X8.here [X8.here.top, hx, (hb hby d1_67), X8.method', Bd.returns, Value.isRef, FieldType.isReference]
    first | (intro acts; rw [hr _ acts rfl rfl rfl]) | rw [hr _ _ rfl rfl rfl]
    exact Steps.refl _
  · show Q10 Z v0 v1 v2 v3 v4 v5 v6 v7 v8 v9 cs_v p0 h0 n0 _ T8.heap _
    exact ⟨b2, b8_0, kc8_0, rfl, N8, K8, sz_b2, sz_b8_0, (Nat.ne_of_lt (Nat.lt_of_lt_of_le ((A2.ext E3).wr W5).lt sq_b8_0)), fq8_0, fq8_1, fq8_2, fq8_3, fq8_4⟩
theorem d1_68 : decode method_4_code 68 = .ok (.iload_n 1, 1) := by decide +kernel
theorem d1_69 : decode method_4_code 69 = .ok (.iconst 2, 1) := by decide +kernel
theorem d1_70 : decode method_4_code 70 = .ok (.if_icmp .ne 22, 3) := by decide +kernel
theorem d1_73 : decode method_4_code 73 = .ok (.new 35, 3) := by decide +kernel
theorem d1_76 : decode method_4_code 76 = .ok (.dup, 1) := by decide +kernel
theorem d1_77 : decode method_4_code 77 = .ok (.iconst 2, 1) := by decide +kernel
theorem d1_78 : decode method_4_code 78 = .ok (.newarray .char, 2) := by decide +kernel
theorem d1_80 : decode method_4_code 80 = .ok (.dup, 1) := by decide +kernel
theorem d1_81 : decode method_4_code 81 = .ok (.iconst 0, 1) := by decide +kernel
theorem d1_82 : decode method_4_code 82 = .ok (.iload_n 2, 1) := by decide +kernel
theorem d1_83 : decode method_4_code 83 = .ok (.castore, 1) := by decide +kernel
theorem d1_84 : decode method_4_code 84 = .ok (.dup, 1) := by decide +kernel
theorem d1_85 : decode method_4_code 85 = .ok (.iconst 1, 1) := by decide +kernel
theorem d1_86 : decode method_4_code 86 = .ok (.iload_n 3, 1) := by decide +kernel
theorem d1_87 : decode method_4_code 87 = .ok (.castore, 1) := by decide +kernel
theorem d1_88 : decode method_4_code 88 = .ok (.invokespecial 37, 3) := by decide +kernel
abbrev fx12 : Int32 := (((0 : Int32) + (1 : Int32)) + (1 : Int32))
def Q11 (Z : State) (v0 : Addr) (v1 : Addr) (v2 : Addr) (v3 : Addr) (v4 : Addr) (v5 : Addr) (v6 : Addr) (v7 : Addr) (v8 : Addr) (v9 : Addr) (cs_v : Int32) (a1 : Addr) (a2 : Addr) (k_a1 : ClassId) (p4 : Int32) (p5 : Int32) (k_a2 : ClassId) (h0 : Heap) (n0 : Nat) (v : Option Value) (h : Heap) (L : List Loc) : Prop := v = some (.int (2 : Int32)) ∧ Fr n0 L ∧ Keep h0 h [a2] ∧ Exa Z h a2 "[B" ∧ Arv Z h a2 k_a2 .byte (2 : Int32) [(.int (nar .byte (p4.toInt8.toInt32))), (.int (nar .byte (p5.toInt8.toInt32)))] (.int (0 : Int32))
theorem rm11 (l : Launch) (Z : State) (a0 : Array Value) (hw : ∀ d ∈ tables_1, d.before a0 Z = true) (ws : List Jvm.Cond) (v0 v1 v2 v3 v4 v5 v6 v7 v8 v9 : Addr) (cs_v : Int32) (hp : Perm Z v0 v1 v2 v3 v4 v5 v6 v7 v8 v9 cs_v) (a1 : Addr) (a2 : Addr) (k_a1 : ClassId) (p4 : Int32) (p5 : Int32) (k_a2 : ClassId) (h0 : Heap) (n0 : Nat) (O0 : Old Z n0 h0) (V_a1 : Arv Z h0 a1 k_a1 .char (2 : Int32) [(.int p4), (.int p5)] (.int (0 : Int32))) (hc2 : ¬ ((255 : Int32) < p4)) (E_a2 : Exa Z h0 a2 "[B") (V_a2 : Arv Z h0 a2 k_a2 .byte (2 : Int32) [(.int (0 : Int32)), (.int (0 : Int32))] (.int (0 : Int32))) (g_a2 : n0 ≤ a2) (ne_a1_a2 : a1 ≠ a2) (hc7 : ¬ ((255 : Int32) < p5)) :
    MetFree l y4 (head1 (Jvm.Cond.code y4 jdk_52_method_21_code 7 (some .int) :: ws) ({ frames := 0, cells := 0, slots := 0, locals := 0 } : Room)) (fun a U => a = #[(.ref a1), (.int (0 : Int32)), (.ref a2), (.int (0 : Int32)), (.int (2 : Int32))] ∧ Z.Warmed39 U.vm ∧ U.heap = h0) (fun _ _ _ _ _ => True) (fun _ U o U' => ∃ v L, o = .returned v ∧ Q11 Z v0 v1 v2 v3 v4 v5 v6 v7 v8 v9 cs_v a1 a2 k_a1 p4 p5 k_a2 h0 n0 v U'.heap L ∧ FrameEnd U o U' L ({ frames := 0, cells := 0, slots := 0, locals := 0 } : Room).cells ({ frames := 0, cells := 0, slots := 0, locals := 0 } : Room).slots) := by
  refine MetFree.of_bodySF (plainFor_of_name pn_15) hisR ?_
  intro p e s m args below meth c s₁ Bd hml0 hP hK
  obtain ⟨rfl, hZ, hh⟩ := hP
  have hx := Bd.exec
  have hby := Bd.bytes
  have hml : c.maxLocals = 7 := hml0
  have hown : s.vm.findClass "java/lang/StringUTF16" = some m.cls := findClass_of_methodNamed Bd.named
  have hnm := (name_of_methodNamed Bd.named Bd.method).1
  have X0 : Stand p l e ({ frames := 0, cells := 0, slots := 0, locals := 0 } : Room) s m #[(.ref a1), (.int (0 : Int32)), (.ref a2), (.int (0 : Int32)), (.int (2 : Int32))] below meth c s₁ [] 0 0 := Stand.of_body Bd
  have e0 : s₁.heap = h0 := by rw [← hh, Bd.state]; rfl
  have N0 := Fr.nil n0
  obtain ⟨cl1, Ar1, -, S1, -, H1, -⟩ := id V_a1
  have hin1 : ¬ ((0 : Int32) < 0 ∨ cl1.slots.size ≤ ((0 : Int32)).toNatClampNeg) := inb_of S1 ⟨by decide, by decide⟩
  have hat1 : cl1.slots[((0 : Int32)).toNatClampNeg]? = some (.int p4) := H1.at hin1 rfl
  obtain ⟨cl2, Ar2, q2, S2, Nn2, H2, G2⟩ := id V_a2
  have hin2 : ¬ ((0 : Int32) < 0 ∨ cl2.slots.size ≤ ((0 : Int32)).toNatClampNeg) := inb_of S2 ⟨by decide, by decide⟩
  obtain ⟨T3, h3, X3, e3, W3, st3⟩ := stB X0 hx hZ e0 Ar2 (j := (0 : Int32)) hin2 (g := (mkF m 31 #[.val (.ref a1), .val (.int (0 : Int32)), .val (.ref a2), .val (.int (0 : Int32)), .val (.int (2 : Int32)), .val (.int (0 : Int32)), .val (.int p4)] [(.int (p4.toInt8.toInt32)), (.int (0 : Int32)), (.ref a2)])) rfl rfl (hb hby d15_31)
  have N3 := Fr.snoc X3 N0 g_a2
  have K3 : Keep h0 h3 [a2] := (Keep.refl h0 [a2]).wr W3 (Or.inl (ma 0 rfl))
  have V_a2_3 : Arv Z h3 a2 k_a2 .byte (2 : Int32) [(.int (nar .byte (p4.toInt8.toInt32))), (.int (0 : Int32))] (.int (0 : Int32)) := Arv.set Ar2 q2 S2 Nn2 H2 G2 (fits_nar_byte _) W3 0 rfl (Nat.le_of_ble_eq_true rfl)
  obtain ⟨cl4, Ar4, -, S4, -, H4, -⟩ := id (V_a1.other W3 ne_a1_a2)
  have hin4 : ¬ (((0 : Int32) + (1 : Int32)) < 0 ∨ cl4.slots.size ≤ (((0 : Int32) + (1 : Int32))).toNatClampNeg) := inb_of S4 ⟨by decide, by decide⟩
  have hat4 : cl4.slots[(((0 : Int32) + (1 : Int32))).toNatClampNeg]? = some (.int p5) := H4.at hin4 rfl
  obtain ⟨cl5, Ar5, q5, S5, Nn5, H5, G5⟩ := id V_a2_3
  have hin5 : ¬ (((0 : Int32) + (1 : Int32)) < 0 ∨ cl5.slots.size ≤ (((0 : Int32) + (1 : Int32))).toNatClampNeg) := inb_of S5 ⟨by decide, by decide⟩
  obtain ⟨T6, h6, X6, e6, W6, st6⟩ := stB X3 hx hZ e3 Ar5 (j := ((0 : Int32) + (1 : Int32))) hin5 (g := (mkF m 31 #[.val (.ref a1), .val (.int (fx10 )), .val (.ref a2), .val (.int (fx10 )), .val (.int (2 : Int32)), .val (.int (fx10 )), .val (.int p5)] [(.int (p5.toInt8.toInt32)), (.int (fx10 )), (.ref a2)])) rfl rfl (hb hby d15_31)
  have N6 := Fr.snoc X6 N3 g_a2
  have K6 : Keep h0 h6 [a2] := K3.wr W6 (Or.inl (ma 0 rfl))
  have V_a2_6 : Arv Z h6 a2 k_a2 .byte (2 : Int32) [(.int (nar .byte (p4.toInt8.toInt32))), (.int (nar .byte (p5.toInt8.toInt32)))] (.int (0 : Int32)) := Arv.set Ar5 q5 S5 Nn5 H5 G5 (fits_nar_byte _) W6 1 rfl (Nat.le_of_ble_eq_true rfl)
  obtain ⟨fs, hr, hrun, hended, hW, hsame⟩ := X6.leave (v := some (.int (2 : Int32))) (fun h => by rw [Bd.returns] at h; cases h)
  refine ⟨_, _, castTop (ef_15_0 m a1 (0 : Int32) a2 (0 : Int32) (2 : Int32)) ?_, hrun, hended, _, _, rfl, ?_, ⟨_, rfl⟩, hW, hsame.mono (by decide) (by decide)⟩
  · show Sp p e below s₁ (mkF m 0 #[.val (.ref a1), .val (.int (0 : Int32)), .val (.ref a2), .val (.int (0 : Int32)), .val (.int (2 : Int32)), .unset, .unset] []) _
    refine XS.iconst X0.here hx rfl (hb hby d15_0) ?_
    refine XS.istore X0.here hx rfl (hb hby d15_1) rfl (l' := #[.val (.ref a1), .val (.int (0 : Int32)), .val (.ref a2), .val (.int (0 : Int32)), .val (.int (2 : Int32)), .val (.int (0 : Int32)), .unset]) rfl ?_
    refine XS.iload X0.here hx rfl (hb hby d15_3) rfl ?_
    refine XS.iload X0.here hx rfl (hb hby d15_5) rfl ?_
    refine XS.icmpNo X0.here hx rfl (hb hby d15_7) rfl (tlt (by decide : (0 : Int32) < (2 : Int32))).2.1 ?_
    refine XS.aloadN X0.here hx rfl (hb hby d15_10) rfl rfl ?_
    refine XS.iloadN X0.here hx rfl (hb hby d15_11) rfl ?_
    show Sp p e below s₁ (mkF m 12 #[.val (.ref a1), .val (.int (0 : Int32)), .val (.ref a2), .val (.int (0 : Int32)), .val (.int (2 : Int32)), .val (.int (0 : Int32)), .unset] [(.int (0 : Int32)), (.ref a1)]) _
    refine X0.caload hx (j := (0 : Int32)) (v := (.int p4)) (by rw [e0]; exact Ar1.1) (State.isArrayOf_alike hZ.alike Ar1.2.1) Ar1.2.2 hin1 hat1 (g := (mkF m 12 #[.val (.ref a1), .val (.int (0 : Int32)), .val (.ref a2), .val (.int (0 : Int32)), .val (.int (2 : Int32)), .val (.int (0 : Int32)), .unset] [(.int (0 : Int32)), (.ref a1)])) rfl rfl (hb hby d15_12) _ ?_
    show Sp p e below s₁ (mkF m 13 #[.val (.ref a1), .val (.int (0 : Int32)), .val (.ref a2), .val (.int (0 : Int32)), .val (.int (2 : Int32)), .val (.int (0 : Int32)), .unset] [(.int p4)]) _
    refine XS.istore X0.here hx rfl (hb hby d15_13) rfl (l' := #[.val (.ref a1), .val (.int (0 : Int32)), .val (.ref a2), .val (.int (0 : Int32)), .val (.int (2 : Int32)), .val (.int (0 : Int32)), .val (.int p4)]) rfl ?_
    refine XS.iload X0.here hx rfl (hb hby d15_15) rfl ?_
    refine XS.sipush X0.here hx rfl (hb hby d15_17) ?_
    refine XS.icmpYes X0.here hx rfl (pc0 := 20) (pc' := 26) rfl (hb hby d15_20) rfl (flt hc2).2.2.2 (by decide) (by decide) ?_
    refine XS.aloadN X0.here hx rfl (hb hby d15_26) rfl rfl ?_
    refine XS.iloadN X0.here hx rfl (hb hby d15_27) rfl ?_
    refine XS.iload X0.here hx rfl (hb hby d15_28) rfl ?_
    show Sp p e below s₁ (mkF m 30 #[.val (.ref a1), .val (.int (0 : Int32)), .val (.ref a2), .val (.int (0 : Int32)), .val (.int (2 : Int32)), .val (.int (0 : Int32)), .val (.int p4)] [(.int p4), (.int (0 : Int32)), (.ref a2)]) _
    refine XS.i2b X0.here hx rfl (hb hby d15_30) rfl ?_
    show Sp p e below s₁ (mkF m 31 #[.val (.ref a1), .val (.int (0 : Int32)), .val (.ref a2), .val (.int (0 : Int32)), .val (.int (2 : Int32)), .val (.int (0 : Int32)), .val (.int p4)] [(.int (p4.toInt8.toInt32)), (.int (0 : Int32)), (.ref a2)]) _
    refine st3 _ ?_
    show Sp p e below T3 (mkF m 32 #[.val (.ref a1), .val (.int (0 : Int32)), .val (.ref a2), .val (.int (0 : Int32)), .val (.int (2 : Int32)), .val (.int (0 : Int32)), .val (.int p4)] []) _
    refine XS.iinc X3.here hx rfl (hb hby d15_32) rfl (l' := #[.val (.ref a1), .val (.int (fx10 )), .val (.ref a2), .val (.int (0 : Int32)), .val (.int (2 : Int32)), .val (.int (0 : Int32)), .val (.int p4)]) rfl ?_
    show Sp p e below T3 (mkF m 35 #[.val (.ref a1), .val (.int (fx10 )), .val (.ref a2), .val (.int (0 : Int32)), .val (.int (2 : Int32)), .val (.int (0 : Int32)), .val (.int p4)] []) _
    refine XS.iinc X3.here hx rfl (hb hby d15_35) rfl (l' := #[.val (.ref a1), .val (.int (fx10 )), .val (.ref a2), .val (.int (fx10 )), .val (.int (2 : Int32)), .val (.int (0 : Int32)), .val (.int p4)]) rfl ?_
    show Sp p e below T3 (mkF m 38 #[.val (.ref a1), .val (.int (fx10 )), .val (.ref a2), .val (.int (fx10 )), .val (.int (2 : Int32)), .val (.int (0 : Int32)), .val (.int p4)] []) _
    refine XS.iinc X3.here hx rfl (hb hby d15_38) rfl (l' := #[.val (.ref a1), .val (.int (fx10 )), .val (.ref a2), .val (.int (fx10 )), .val (.int (2 : Int32)), .val (.int (fx10 )), .val (.int p4)]) rfl ?_
    refine XS.goto X3.here hx rfl (pc0 := 41) (pc' := 3) rfl (hb hby d15_41) (by decide) (by decide) ?_
    refine XS.iload X3.here hx rfl (hb hby d15_3) rfl ?_
    refine XS.iload X3.here hx rfl (hb hby d15_5) rfl ?_
    refine XS.icmpNo X3.here hx rfl (hb hby d15_7) rfl (tlt (by decide : ((0 : Int32) + (1 : Int32)) < (2 : Int32))).2.1 ?_
    refine XS.aloadN X3.here hx rfl (hb hby d15_10) rfl rfl ?_
    refine XS.iloadN X3.here hx rfl (hb hby d15_11) rfl ?_
    show Sp p e below T3 (mkF m 12 #[.val (.ref a1), .val (.int (fx10 )), .val (.ref a2), .val (.int (fx10 )), .val (.int (2 : Int32)), .val (.int (fx10 )), .val (.int p4)] [(.int (fx10 )), (.ref a1)]) _
    refine X3.caload hx (j := ((0 : Int32) + (1 : Int32))) (v := (.int p5)) (by rw [e3]; exact Ar4.1) (State.isArrayOf_alike hZ.alike Ar4.2.1) Ar4.2.2 hin4 hat4 (g := (mkF m 12 #[.val (.ref a1), .val (.int (fx10 )), .val (.ref a2), .val (.int (fx10 )), .val (.int (2 : Int32)), .val (.int (fx10 )), .val (.int p4)] [(.int (fx10 )), (.ref a1)])) rfl rfl (hb hby d15_12) _ ?_
    show Sp p e below T3 (mkF m 13 #[.val (.ref a1), .val (.int (fx10 )), .val (.ref a2), .val (.int (fx10 )), .val (.int (2 : Int32)), .val (.int (fx10 )), .val (.int p4)] [(.int p5)]) _
    refine XS.istore X3.here hx rfl (hb hby d15_13) rfl (l' := #[.val (.ref a1), .val (.int (fx10 )), .val (.ref a2), .val (.int (fx10 )), .val (.int (2 : Int32)), .val (.int (fx10 )), .val (.int p5)]) rfl ?_
    refine XS.iload X3.here hx rfl (hb hby d15_15) rfl ?_
    refine XS.sipush X3.here hx rfl (hb hby d15_17) ?_
    refine XS.icmpYes X3.here hx rfl (pc0 := 20) (pc' := 26) rfl (hb hby d15_20) rfl (flt hc7).2.2.2 (by decide) (by decide) ?_
    refine XS.aloadN X3.here hx rfl (hb hby d15_26) rfl rfl ?_
    refine XS.iloadN X3.here hx rfl (hb hby d15_27) rfl ?_
    refine XS.iload X3.here hx rfl (hb hby d15_28) rfl ?_
    show Sp p e below T3 (mkF m 30 #[.val (.ref a1), .val (.int (fx10 )), .val (.ref a2), .val (.int (fx10 )), .val (.int (2 : Int32)), .val (.int (fx10 )), .val (.int p5)] [(.int p5), (.int (fx10 )), (.ref a2)]) _
    refine XS.i2b X3.here hx rfl (hb hby d15_30) rfl ?_
    show Sp p e below T3 (mkF m 31 #[.val (.ref a1), .val (.int (fx10 )), .val (.ref a2), .val (.int (fx10 )), .val (.int (2 : Int32)), .val (.int (fx10 )), .val (.int p5)] [(.int (p5.toInt8.toInt32)), (.int (fx10 )), (.ref a2)]) _
    refine st6 _ ?_
    show Sp p e below T6 (mkF m 32 #[.val (.ref a1), .val (.int (fx10 )), .val (.ref a2), .val (.int (fx10 )), .val (.int (2 : Int32)), .val (.int (fx10 )), .val (.int p5)] []) _
    refine XS.iinc X6.here hx rfl (hb hby d15_32) rfl (l' := #[.val (.ref a1), .val (.int (fx12 )), .val (.ref a2), .val (.int (fx10 )), .val (.int (2 : Int32)), .val (.int (fx10 )), .val (.int p5)]) rfl ?_
    show Sp p e below T6 (mkF m 35 #[.val (.ref a1), .val (.int (fx12 )), .val (.ref a2), .val (.int (fx10 )), .val (.int (2 : Int32)), .val (.int (fx10 )), .val (.int p5)] []) _
    refine XS.iinc X6.here hx rfl (hb hby d15_35) rfl (l' := #[.val (.ref a1), .val (.int (fx12 )), .val (.ref a2), .val (.int (fx12 )), .val (.int (2 : Int32)), .val (.int (fx10 )), .val (.int p5)]) rfl ?_
    show Sp p e below T6 (mkF m 38 #[.val (.ref a1), .val (.int (fx12 )), .val (.ref a2), .val (.int (fx12 )), .val (.int (2 : Int32)), .val (.int (fx10 )), .val (.int p5)] []) _
    refine XS.iinc X6.here hx rfl (hb hby d15_38) rfl (l' := #[.val (.ref a1), .val (.int (fx12 )), .val (.ref a2), .val (.int (fx12 )), .val (.int (2 : Int32)), .val (.int (fx12 )), .val (.int p5)]) rfl ?_
    refine XS.goto X6.here hx rfl (pc0 := 41) (pc' := 3) rfl (hb hby d15_41) (by decide) (by decide) ?_
    refine XS.iload X6.here hx rfl (hb hby d15_3) rfl ?_
    refine XS.iload X6.here hx rfl (hb hby d15_5) rfl ?_
    refine XS.icmpYes X6.here hx rfl (pc0 := 7) (pc' := 44) rfl (hb hby d15_7) rfl (flt (by decide : ¬ ((((0 : Int32) + (1 : Int32)) + (1 : Int32)) < (2 : Int32)))).2.1 (by decide) (by decide) ?_
    refine XS.iload X6.here hx rfl (hb hby d15_44) rfl ?_
    show Sp p e below T6 (mkF m 46 #[.val (.ref a1), .val (.int (fx12 )), .val (.ref a2), .val (.int (fx12 )), .val (.int (2 : Int32)), .val (.int (fx12 )), .val (.int p5)] [(.int (2 : Int32))]) _
    exact retI X6 hx Bd.returns (hb hby d15_46) hr
  · show Q11 Z v0 v1 v2 v3 v4 v5 v6 v7 v8 v9 cs_v a1 a2 k_a1 p4 p5 k_a2 h0 n0 _ T6.heap _
    rw [e6]
    exact ⟨rfl, N6, K6, ((E_a2.wr W3).wr W6), V_a2_6⟩
def Q12 (Z : State) (v0 : Addr) (v1 : Addr) (v2 : Addr) (v3 : Addr) (v4 : Addr) (v5 : Addr) (v6 : Addr) (v7 : Addr) (v8 : Addr) (v9 : Addr) (cs_v : Int32) (a1 : Addr) (k_a1 : ClassId) (p3 : Int32) (p4 : Int32) (h0 : Heap) (n0 : Nat) (v : Option Value) (h : Heap) (L : List Loc) : Prop := ∃ (b1 : Addr), ∃ (k1 : ClassId), v = some (.ref b1) ∧ Fr n0 L ∧ Keep h0 h [] ∧ h0.size ≤ b1 ∧ Exa Z h b1 "[B" ∧ Arv Z h b1 k1 .byte (2 : Int32) [(.int (nar .byte (p3.toInt8.toInt32))), (.int (nar .byte (p4.toInt8.toInt32)))] (.int (0 : Int32))
theorem rm12 (l : Launch) (Z : State) (a0 : Array Value) (hw : ∀ d ∈ tables_1, d.before a0 Z = true) (ws : List Jvm.Cond) (v0 v1 v2 v3 v4 v5 v6 v7 v8 v9 : Addr) (cs_v : Int32) (hp : Perm Z v0 v1 v2 v3 v4 v5 v6 v7 v8 v9 cs_v) (a1 : Addr) (k_a1 : ClassId) (p3 : Int32) (p4 : Int32) (h0 : Heap) (n0 : Nat) (O0 : Old Z n0 h0) (V_a1 : Arv Z h0 a1 k_a1 .char (2 : Int32) [(.int p3), (.int p4)] (.int (0 : Int32))) (hc2 : ¬ ((255 : Int32) < p3)) (hc3 : ¬ ((255 : Int32) < p4)) (E_a1 : Exa Z h0 a1 "[C") :
    MetFree l y5 (head1 (Jvm.Cond.code y5 jdk_52_method_16_code 6 (some (.array .byte)) :: ws) ({ frames := 1, cells := 1, slots := 2, locals := 18 } : Room)) (fun a U => a = #[(.ref a1), (.int (0 : Int32)), (.int (2 : Int32))] ∧ Z.Warmed39 U.vm ∧ U.heap = h0) (fun _ _ _ _ _ => True) (fun _ U o U' => ∃ v L, o = .returned v ∧ Q12 Z v0 v1 v2 v3 v4 v5 v6 v7 v8 v9 cs_v a1 k_a1 p3 p4 h0 n0 v U'.heap L ∧ FrameEnd U o U' L ({ frames := 1, cells := 1, slots := 2, locals := 18 } : Room).cells ({ frames := 1, cells := 1, slots := 2, locals := 18 } : Room).slots) := by
  refine MetFree.of_bodySF (plainFor_of_name pn_15) hisR ?_
  intro p e s m args below meth c s₁ Bd hml0 hP hK
  obtain ⟨rfl, hZ, hh⟩ := hP
  have hx := Bd.exec
  have hby := Bd.bytes
  have hml : c.maxLocals = 6 := hml0
  have hown : s.vm.findClass "java/lang/StringUTF16" = some m.cls := findClass_of_methodNamed Bd.named
  have hnm := (name_of_methodNamed Bd.named Bd.method).1
  have X0 : Stand p l e ({ frames := 1, cells := 1, slots := 2, locals := 18 } : Room) s m #[(.ref a1), (.int (0 : Int32)), (.int (2 : Int32))] below meth c s₁ [] 0 0 := Stand.of_body Bd
  have e0 : s₁.heap = h0 := by rw [← hh, Bd.state]; rfl
  have N0 := Fr.nil n0
  obtain ⟨T1, h1, k1, X1, e1, E1, A1, EA1, st1⟩ := newPE X0 hx hZ (wq hw 23 rfl) e0 (g := (mkF m 1 #[.val (.ref a1), .val (.int (0 : Int32)), .val (.int (2 : Int32)), .unset, .unset, .unset] [(.int (2 : Int32))])) rfl (hb hby d14_1) rfl (by decide) (cap := 2) (by decide) (by decide) (by decide) (by decide) (ad := "[B") (by decide)
  obtain ⟨b1, g1⟩ : ∃ z, z = h0.size := ⟨_, rfl⟩
  rw [← g1] at A1 EA1 st1
  have g_b1 : n0 ≤ b1 := Nat.le_trans (own_sz O0) (Nat.le_of_eq g1.symm)
  have sz_b1 : h0.size ≤ b1 := Nat.le_trans (Keep.refl h0 []).1 (Nat.le_of_eq g1.symm)
  have O1 := O0.ext E1
  have K1 : Keep h0 h1 [] := (Keep.refl h0 []).ext E1
  have V_b1 : Arv Z h1 b1 k1 .byte (2 : Int32) [(.int (0 : Int32)), (.int (0 : Int32))] (.int (0 : Int32)) := (Arv.new A1 (by decide)).pad (pad_rep [] (.int (0 : Int32)) 2)
  obtain ⟨_, _, ⟨T2, L2, k2, n2⟩, -, X2, ⟨Lc2, hQ2, l2, y2, z2⟩, st2⟩ := Jvm.LawKit.callS X1 hx (y := y4) hown (mvT hZ (wq hw 87 rfl)) (mvT hZ (wq hw 88 rfl)) (mvT hZ (wq hw 85 rfl)) (mvT hZ (wq hw 89 rfl)) (by decide) (backOf (W := 0) (rm11 l Z a0 hw [] v0 v1 v2 v3 v4 v5 v6 v7 v8 v9 cs_v hp a1 b1 k_a1 p3 p4 k1 h1 n0 O1 (V_a1.ext E1) hc2 EA1 V_b1 g_b1 (Nat.ne_of_lt (Nat.lt_of_lt_of_le E_a1.lt sz_b1)) hc3) hZ (wq hw 89 rfl) (wq hw 85 rfl) (by decide) (by decide)) (g := (mkF m 9 #[.val (.ref a1), .val (.int (0 : Int32)), .val (.int (2 : Int32)), .val (.ref b1), .unset, .unset] [(.int (2 : Int32)), (.int (0 : Int32)), (.ref b1), (.int (0 : Int32)), (.ref a1)])) rfl (by rw [hml]; rfl) (argsL := [(.ref a1), (.int (0 : Int32)), (.ref b1), (.int (0 : Int32)), (.int (2 : Int32))]) (rest := []) (lenOf pd_3 rfl) rfl (by show 2 * 0 + _ ≤ _; exact Nat.le_of_eq rfl) (hb hby d14_9) (fun _ _ => ⟨rfl, e1, (by decide : 1 + 0 ≤ _), (by decide : 2 + 0 ≤ _)⟩)
  dsimp only [Pt.U, Pt.locs, Pt.cells, Pt.slots] at X2 l2 y2 z2 st2 hQ2
  subst l2 y2 z2
  obtain ⟨rfl, Nq2, Kq2, fq2_0, fq2_1⟩ := hQ2
  have N2 := Fr.app N0 Nq2
  have K2 : Keep h0 T2.heap [] := K1.trans Kq2 (allS (Or.inr sz_b1) all0)
  obtain ⟨fs, hr, hrun, hended, hW, hsame⟩ := X2.leave (v := some (.ref b1)) (fun h => by rw [Bd.returns] at h; cases h)
  refine ⟨_, _, castTop (ef_14_0 m a1 (0 : Int32) (2 : Int32)) ?_, hrun, hended, _, _, rfl, ?_, ⟨_, rfl⟩, hW, hsame.mono (by decide) (by decide)⟩
  · show Sp p e below s₁ (mkF m 0 #[.val (.ref a1), .val (.int (0 : Int32)), .val (.int (2 : Int32)), .unset, .unset, .unset] []) _
    refine XS.iloadN X0.here hx rfl (hb hby d14_0) rfl ?_
    show Sp p e below s₁ (mkF m 1 #[.val (.ref a1), .val (.int (0 : Int32)), .val (.int (2 : Int32)), .unset, .unset, .unset] [(.int (2 : Int32))]) _
    refine st1 _ ?_
    show Sp p e below T1 (mkF m 3 #[.val (.ref a1), .val (.int (0 : Int32)), .val (.int (2 : Int32)), .unset, .unset, .unset] [(.ref b1)]) _
    refine XS.astoreN X1.here hx rfl (hb hby d14_3) rfl rfl (l' := #[.val (.ref a1), .val (.int (0 : Int32)), .val (.int (2 : Int32)), .val (.ref b1), .unset, .unset]) rfl ?_
    refine XS.aloadN X1.here hx rfl (hb hby d14_4) rfl rfl ?_
    refine XS.iloadN X1.here hx rfl (hb hby d14_5) rfl ?_
    refine XS.aloadN X1.here hx rfl (hb hby d14_6) rfl rfl ?_
    refine XS.iconst X1.here hx rfl (hb hby d14_7) ?_
    refine XS.iloadN X1.here hx rfl (hb hby d14_8) rfl ?_
    show Sp p e below T1 (mkF m 9 #[.val (.ref a1), .val (.int (0 : Int32)), .val (.int (2 : Int32)), .val (.ref b1), .unset, .unset] [(.int (2 : Int32)), (.int (0 : Int32)), (.ref b1), (.int (0 : Int32)), (.ref a1)]) _
    refine st2 _ ?_
    show Sp p e below T2 (mkF m 12 #[.val (.ref a1), .val (.int (0 : Int32)), .val (.int (2 : Int32)), .val (.ref b1), .unset, .unset] [(.int (2 : Int32))]) _
    refine XS.istore X2.here hx rfl (hb hby d14_12) rfl (l' := #[.val (.ref a1), .val (.int (0 : Int32)), .val (.int (2 : Int32)), .val (.ref b1), .val (.int (2 : Int32)), .unset]) rfl ?_
    refine XS.iload X2.here hx rfl (hb hby d14_14) rfl ?_
    refine XS.iloadN X2.here hx rfl (hb hby d14_16) rfl ?_
    refine XS.icmpYes X2.here hx rfl (pc0 := 17) (pc' := 57) rfl (hb hby d14_17) rfl (teq (by decide : (2 : Int32) = (2 : Int32))).1 (by decide) (by decide) ?_
    refine XS.aloadN X2.here hx rfl (hb hby d14_57) rfl rfl ?_
    show Sp p e below T2 (mkF m 58 #[.val (.ref a1), .val (.int (0 : Int32)), .val (.int (2 : Int32)), .val (.ref b1), .val (.int (2 : Int32)), .unset] [(.ref b1)]) _
    jvm_step X2.here [X2.here.top, hx, (hb hby d14_58), X2.method', Bd.returns, Value.isRef, FieldType.isReference]
    first | (intro acts; rw [hr _ acts rfl rfl rfl]) | rw [hr _ _ rfl rfl rfl]
    exact Steps.refl _
  · show Q12 Z v0 v1 v2 v3 v4 v5 v6 v7 v8 v9 cs_v a1 k_a1 p3 p4 h0 n0 _ T2.heap _
    exact ⟨b1, k1, rfl, N2, K2, sz_b1, fq2_0, fq2_1⟩
abbrev fx13 : Int32 := (((((2 : Int32) - (2 : Int32)).toUInt32 >>> ((31 : Int32) &&& 31).toUInt32).toInt32).toInt8.toInt32)
def Q13 (Z : State) (v0 : Addr) (v1 : Addr) (v2 : Addr) (v3 : Addr) (v4 : Addr) (v5 : Addr) (v6 : Addr) (v7 : Addr) (v8 : Addr) (v9 : Addr) (cs_v : Int32) (a1 : Addr) (k_a1 : ClassId) (p3 : Int32) (p4 : Int32) (h0 : Heap) (n0 : Nat) (v : Option Value) (h : Heap) (L : List Loc) : Prop := v = some (.int (0 : Int32)) ∧ Fr n0 L ∧ h = h0
theorem rm13 (l : Launch) (Z : State) (a0 : Array Value) (hw : ∀ d ∈ tables_1, d.before a0 Z = true) (ws : List Jvm.Cond) (v0 v1 v2 v3 v4 v5 v6 v7 v8 v9 : Addr) (cs_v : Int32) (hp : Perm Z v0 v1 v2 v3 v4 v5 v6 v7 v8 v9 cs_v) (a1 : Addr) (k_a1 : ClassId) (p3 : Int32) (p4 : Int32) (h0 : Heap) (n0 : Nat) (O0 : Old Z n0 h0) (V_a1 : Arv Z h0 a1 k_a1 .byte (2 : Int32) [(.int p3), (.int p4)] (.int (0 : Int32))) :
    MetFree l y6 (head1 (Jvm.Cond.code y6 jdk_52_method_15_code 2 (some .byte) :: ws) ({ frames := 0, cells := 0, slots := 0, locals := 0 } : Room)) (fun a U => a = #[(.ref a1), (.int (2 : Int32))] ∧ Z.Warmed39 U.vm ∧ U.heap = h0) (fun _ _ _ _ _ => True) (fun _ U o U' => ∃ v L, o = .returned v ∧ Q13 Z v0 v1 v2 v3 v4 v5 v6 v7 v8 v9 cs_v a1 k_a1 p3 p4 h0 n0 v U'.heap L ∧ FrameEnd U o U' L ({ frames := 0, cells := 0, slots := 0, locals := 0 } : Room).cells ({ frames := 0, cells := 0, slots := 0, locals := 0 } : Room).slots) := by
  refine MetFree.of_bodySF (plainFor_of_name pn_15) hisR ?_
  intro p e s m args below meth c s₁ Bd hml0 hP hK
  obtain ⟨rfl, hZ, hh⟩ := hP
  have hx := Bd.exec
  have hby := Bd.bytes
  have hml : c.maxLocals = 2 := hml0
  have hown : s.vm.findClass "java/lang/StringUTF16" = some m.cls := findClass_of_methodNamed Bd.named
  have hnm := (name_of_methodNamed Bd.named Bd.method).1
  have X0 : Stand p l e ({ frames := 0, cells := 0, slots := 0, locals := 0 } : Room) s m #[(.ref a1), (.int (2 : Int32))] below meth c s₁ [] 0 0 := Stand.of_body Bd
  have e0 : s₁.heap = h0 := by rw [← hh, Bd.state]; rfl
  have N0 := Fr.nil n0
  obtain ⟨cl1, Ar1, -, S1, Nn1, -, -⟩ := id V_a1
  obtain ⟨fs, hr, hrun, hended, hW, hsame⟩ := X0.leave (v := some (.int (0 : Int32))) (fun h => by rw [Bd.returns] at h; cases h)
  refine ⟨_, _, castTop (ef_16_0 m a1 (2 : Int32)) ?_, hrun, hended, _, _, rfl, ?_, ⟨_, rfl⟩, hW, hsame.mono (by decide) (by decide)⟩
  · show Sp p e below s₁ (mkF m 0 #[.val (.ref a1), .val (.int (2 : Int32))] []) _
    refine XS.iloadN X0.here hx rfl (hb hby d16_0) rfl ?_
    refine XS.aloadN X0.here hx rfl (hb hby d16_1) rfl rfl ?_
    show Sp p e below s₁ (mkF m 2 #[.val (.ref a1), .val (.int (2 : Int32))] [(.ref a1), (.int (2 : Int32))]) _
    refine X0.arraylength hx (by rw [e0]; exact Ar1.1) (State.isArrayOf_alike hZ.alike Ar1.2.1) (g := (mkF m 2 #[.val (.ref a1), .val (.int (2 : Int32))] [(.ref a1), (.int (2 : Int32))])) rfl rfl (hb hby d16_2) _ ?_
    rw [len_of S1 Nn1]
    show Sp p e below s₁ (mkF m 3 #[.val (.ref a1), .val (.int (2 : Int32))] [(.int (2 : Int32)), (.int (2 : Int32))]) _
    refine XS.isub X0.here hx rfl (hb hby d16_3) rfl ?_
    refine XS.bipush X0.here hx rfl (hb hby d16_4) ?_
    refine XS.iushr X0.here hx rfl (hb hby d16_6) rfl ?_
    refine XS.i2b X0.here hx rfl (hb hby d16_7) rfl ?_
    show Sp p e below s₁ (mkF m 8 #[.val (.ref a1), .val (.int (2 : Int32))] [(.int (fx13 ))]) _
    exact retN X0 hx (t := .byte) Bd.returns (by simp) (hb hby d16_8) hr
  · show Q13 Z v0 v1 v2 v3 v4 v5 v6 v7 v8 v9 cs_v a1 k_a1 p3 p4 h0 n0 _ s₁.heap _
    rw [e0]
    exact ⟨rfl, N0, rfl⟩
def Q14 (Z : State) (v0 : Addr) (v1 : Addr) (v2 : Addr) (v3 : Addr) (v4 : Addr) (v5 : Addr) (v6 : Addr) (v7 : Addr) (v8 : Addr) (v9 : Addr) (cs_v : Int32) (a1 : Addr) (a2 : Addr) (k_a2 : ClassId) (p4 : Int32) (p5 : Int32) (h0 : Heap) (n0 : Nat) (v : Option Value) (h : Heap) (L : List Loc) : Prop := ∃ (b3_0 : Addr), ∃ (kc3_0 : ClassId), v = none ∧ Fr n0 L ∧ Keep h0 h [a1] ∧ h0.size ≤ b3_0 ∧ Exa Z h a1 "java/lang/String" ∧ Fld Z h a1 "java/lang/String" "coder" "B" (.int (0 : Int32)) ∧ Fld Z h a1 "java/lang/String" "value" "[B" (.ref b3_0) ∧ Exa Z h b3_0 "[B" ∧ Arv Z h b3_0 kc3_0 .byte (2 : Int32) [(.int (nar .byte (p4.toInt8.toInt32))), (.int (nar .byte (p5.toInt8.toInt32)))] (.int (0 : Int32))
theorem rm14 (l : Launch) (Z : State) (a0 : Array Value) (hw : ∀ d ∈ tables_1, d.before a0 Z = true) (ws : List Jvm.Cond) (v0 v1 v2 v3 v4 v5 v6 v7 v8 v9 : Addr) (cs_v : Int32) (hp : Perm Z v0 v1 v2 v3 v4 v5 v6 v7 v8 v9 cs_v) (a1 : Addr) (a2 : Addr) (k_a2 : ClassId) (p4 : Int32) (p5 : Int32) (h0 : Heap) (n0 : Nat) (O0 : Old Z n0 h0) (V_a2 : Arv Z h0 a2 k_a2 .char (2 : Int32) [(.int p4), (.int p5)] (.int (0 : Int32))) (hc2 : ¬ ((255 : Int32) < p4)) (hc3 : ¬ ((255 : Int32) < p5)) (E_a2 : Exa Z h0 a2 "[C") (E_a1 : Exa Z h0 a1 "java/lang/String") (F_value_a1 : Fld Z h0 a1 "java/lang/String" "value" "[B" .null) (F_coder_a1 : Fld Z h0 a1 "java/lang/String" "coder" "B" (.int (0 : Int32))) (g_a1 : n0 ≤ a1) :
    MetFree l y1 (head1 (Jvm.Cond.code y1 jdk_42_method_149_code 6 none :: ws) ({ frames := 2, cells := 1, slots := 2, locals := 35 } : Room)) (fun a U => a = #[(.ref a1), (.ref a2), (.int (0 : Int32)), (.int (2 : Int32)), .null] ∧ Z.Warmed39 U.vm ∧ U.heap = h0) (fun _ _ _ _ _ => True) (fun _ U o U' => ∃ v L, o = .returned v ∧ Q14 Z v0 v1 v2 v3 v4 v5 v6 v7 v8 v9 cs_v a1 a2 k_a2 p4 p5 h0 n0 v U'.heap L ∧ FrameEnd U o U' L ({ frames := 2, cells := 1, slots := 2, locals := 35 } : Room).cells ({ frames := 2, cells := 1, slots := 2, locals := 35 } : Room).slots) := by
  refine MetFree.of_bodySF (plainFor_of_name pn_4) hisR ?_
  intro p e s m args below meth c s₁ Bd hml0 hP hK
  obtain ⟨rfl, hZ, hh⟩ := hP
  have hx := Bd.exec
  have hby := Bd.bytes
  have hml : c.maxLocals = 6 := hml0
  have hown : s.vm.findClass "java/lang/String" = some m.cls := findClass_of_methodNamed Bd.named
  have hnm := (name_of_methodNamed Bd.named Bd.method).1
  have X0 : Stand p l e ({ frames := 2, cells := 1, slots := 2, locals := 35 } : Room) s m #[(.ref a1), (.ref a2), (.int (0 : Int32)), (.int (2 : Int32)), .null] below meth c s₁ [] 0 0 := Stand.of_body Bd
  have e0 : s₁.heap = h0 := by rw [← hh, Bd.state]; rfl
  have N0 := Fr.nil n0
  have hp' := hp
  obtain ⟨_, _, _, _, _, _, _, _, _, _, _, _, _, _, _, _, _, _, _, _, _, _, _, _, _, _, _, _, _, _, S_COMPACT_STRINGS, h_cs⟩ := hp'
  obtain ⟨T1, X1, e1, st1⟩ := initO X0 hx hZ hown (wq hw 19 rfl) (wq hw 20 rfl) (wq hw 21 rfl) e0 (g := (mkF m 1 #[.val (.ref a1), .val (.ref a2), .val (.int (0 : Int32)), .val (.int (2 : Int32)), .val .null, .unset] [(.ref a1)])) rfl (by rw [hml]; rfl) rfl (hb hby d4_1) (by decide) (W := 0) (by show 2 * 0 + _ ≤ _; exact Nat.le_of_eq rfl) (by decide)
  obtain ⟨T2, X2, e2, st2⟩ := getS2 X1 hx hZ hown (host := "") (Or.inl (wq hw 76 rfl)) Via.refl e1 (S_COMPACT_STRINGS.ext O0.2) (g := (mkF m 27 #[.val (.ref a1), .val (.ref a2), .val (.int (0 : Int32)), .val (.int (2 : Int32)), .val .null, .unset] [])) rfl (hb hby d4_27)
  obtain ⟨_, _, ⟨T3, L3, k3, n3⟩, -, X3, ⟨Lc3, hQ3, l3, y3, z3⟩, st3⟩ := Jvm.LawKit.callS X2 hx (y := y5) hown (mvT hZ (wq hw 83 rfl)) (mvT hZ (wq hw 84 rfl)) (mvT hZ (wq hw 85 rfl)) (mvT hZ (wq hw 86 rfl)) (by decide) (backOf (W := 0) (rm12 l Z a0 hw [] v0 v1 v2 v3 v4 v5 v6 v7 v8 v9 cs_v hp a2 k_a2 p4 p5 h0 n0 O0 V_a2 hc2 hc3 E_a2) hZ (wq hw 86 rfl) (wq hw 85 rfl) (by decide) (by decide)) (g := (mkF m 36 #[.val (.ref a1), .val (.ref a2), .val (.int (0 : Int32)), .val (.int (2 : Int32)), .val .null, .unset] [(.int (2 : Int32)), (.int (0 : Int32)), (.ref a2)])) rfl (by rw [hml]; rfl) (argsL := [(.ref a2), (.int (0 : Int32)), (.int (2 : Int32))]) (rest := []) (lenOf pd_4 rfl) rfl (by show 2 * 0 + _ ≤ _; exact Nat.le_of_eq rfl) (hb hby d4_36) (fun _ _ => ⟨rfl, e2, (by decide : 0 + 1 ≤ _), (by decide : 0 + 2 ≤ _)⟩)
  dsimp only [Pt.U, Pt.locs, Pt.cells, Pt.slots] at X3 l3 y3 z3 st3 hQ3
  subst l3 y3 z3
  obtain ⟨b3_0, kc3_0, rfl, Nq3, Kq3, sq_b3_0, fq3_0, fq3_1⟩ := hQ3
  have N3 := Fr.app N0 Nq3
  have sz_b3_0 : h0.size ≤ b3_0 := Nat.le_trans (Keep.refl h0 [a1]).1 sq_b3_0
  have O3 := O0.keep Kq3 all0
  have K3 : Keep h0 T3.heap [a1] := (Keep.refl h0 [a1]).trans Kq3 all0
  obtain ⟨_, _, ⟨T4, L4, k4, n4⟩, -, X4, ⟨Lc4, hQ4, l4, y4, z4⟩, st4⟩ := Jvm.LawKit.callS X3 hx (y := y6) hown (mvT hZ (wq hw 90 rfl)) (mvT hZ (wq hw 91 rfl)) (mvT hZ (wq hw 85 rfl)) (mvT hZ (wq hw 92 rfl)) (by decide) (backOf (W := 1) (rm13 l Z a0 hw [] v0 v1 v2 v3 v4 v5 v6 v7 v8 v9 cs_v hp b3_0 kc3_0 (nar .byte (p4.toInt8.toInt32)) (nar .byte (p5.toInt8.toInt32)) T3.heap n0 O3 fq3_1) hZ (wq hw 92 rfl) (wq hw 85 rfl) (by decide) (by decide)) (g := (mkF m 45 #[.val (.ref a1), .val (.ref a2), .val (.int (0 : Int32)), .val (.int (2 : Int32)), .val .null, .val (.ref b3_0)] [(.int (2 : Int32)), (.ref b3_0), (.ref a1)])) rfl (by rw [hml]; rfl) (argsL := [(.ref b3_0), (.int (2 : Int32))]) (rest := [(.ref a1)]) (lenOf pd_5 rfl) rfl (by show 2 * 0 + _ ≤ _; exact Nat.le_of_eq rfl) (hb hby d4_45) (fun _ _ => ⟨rfl, rfl, (by decide : 1 + 0 ≤ _), (by decide : 2 + 0 ≤ _)⟩)
  dsimp only [Pt.U, Pt.locs, Pt.cells, Pt.slots] at X4 l4 y4 z4 st4 hQ4
  subst l4 y4 z4
  obtain ⟨rfl, Nq4, eq4⟩ := hQ4
  have N4 := Fr.app N3 Nq4
  obtain ⟨T5, h5, X5, e5, W5, st5⟩ := putFN X4 hx hZ hown (wq hw 29 rfl) Via.refl eq4 (F_coder_a1.keep Kq3 nin0) (E_a1.keep Kq3) (Or.inr ⟨(wq hw 25 rfl), rfl, hnm⟩) (wq hw 9 rfl) (ty := .byte) (v' := (.int (0 : Int32))) (by decide) rfl rfl (g := (mkF m 48 #[.val (.ref a1), .val (.ref a2), .val (.int (0 : Int32)), .val (.int (2 : Int32)), .val .null, .val (.ref b3_0)] [(.int (0 : Int32)), (.ref a1)])) rfl rfl (hb hby d4_48)
  have N5 := Fr.snoc X5 N4 g_a1
  have K5 : Keep h0 h5 [a1] := K3.wr W5 (Or.inl (ma 0 rfl))
  have Fw5 := (F_coder_a1.keep Kq3 nin0).same W5
  obtain ⟨T6, h6, X6, e6, W6, st6⟩ := putF X5 hx hZ hown (host := "") (Or.inl (wq hw 28 rfl)) Via.refl e5 ((F_value_a1.keep Kq3 nin0).other W5 (Or.inr (sn1 hw))) ((E_a1.keep Kq3).wr W5) (Or.inr ⟨(wq hw 24 rfl), rfl, hnm⟩) (wq hw 9 rfl) (ty := (.array .byte)) (by decide) rfl rfl (g := (mkF m 54 #[.val (.ref a1), .val (.ref a2), .val (.int (0 : Int32)), .val (.int (2 : Int32)), .val .null, .val (.ref b3_0)] [(.ref b3_0), (.ref a1)])) rfl rfl (hb hby d4_54)
  have N6 := Fr.snoc X6 N5 g_a1
  have K6 : Keep h0 h6 [a1] := K5.wr W6 (Or.inl (ma 0 rfl))
  have Fw6 := ((F_value_a1.keep Kq3 nin0).other W5 (Or.inr (sn1 hw))).same W6
  have f_7 := ((fq3_1.other W5 (Ne.symm (Nat.ne_of_lt (Nat.lt_of_lt_of_le E_a1.lt sz_b3_0)))).other W6 (Ne.symm (Nat.ne_of_lt (Nat.lt_of_lt_of_le E_a1.lt sz_b3_0))))
  obtain ⟨fs, hr, hrun, hended, hW, hsame⟩ := X6.leave (v := none) (fun _ => rfl)
  refine ⟨_, _, castTop (ef_4_0 m a1 a2 (0 : Int32) (2 : Int32)) ?_, hrun, hended, _, _, rfl, ?_, ⟨_, rfl⟩, hW, hsame.mono (by decide) (by decide)⟩
  · show Sp p e below s₁ (mkF m 0 #[.val (.ref a1), .val (.ref a2), .val (.int (0 : Int32)), .val (.int (2 : Int32)), .val .null, .unset] []) _
    refine XS.aloadN X0.here hx rfl (hb hby d4_0) rfl rfl ?_
    show Sp p e below s₁ (mkF m 1 #[.val (.ref a1), .val (.ref a2), .val (.int (0 : Int32)), .val (.int (2 : Int32)), .val .null, .unset] [(.ref a1)]) _
    refine st1 _ ?_
    show Sp p e below T1 (mkF m 4 #[.val (.ref a1), .val (.ref a2), .val (.int (0 : Int32)), .val (.int (2 : Int32)), .val .null, .unset] []) _
    refine XS.iloadN X1.here hx rfl (hb hby d4_4) rfl ?_
    refine XS.ifYes X1.here hx rfl (pc0 := 5) (pc' := 27) rfl (hb hby d4_5) rfl ((if0 _ _).trans (feq (by decide : ¬ ((2 : Int32) = (0 : Int32)))).2) (by decide) (by decide) ?_
    show Sp p e below T1 (mkF m 27 #[.val (.ref a1), .val (.ref a2), .val (.int (0 : Int32)), .val (.int (2 : Int32)), .val .null, .unset] []) _
    refine st2 _ ?_
    show Sp p e below T2 (mkF m 30 #[.val (.ref a1), .val (.ref a2), .val (.int (0 : Int32)), .val (.int (2 : Int32)), .val .null, .unset] [(.int cs_v)]) _
    refine XS.ifNo X2.here hx rfl (hb hby d4_30) rfl ((if0 _ _).trans (feq h_cs).1) ?_
    refine XS.aloadN X2.here hx rfl (hb hby d4_33) rfl rfl ?_
    refine XS.iloadN X2.here hx rfl (hb hby d4_34) rfl ?_
    refine XS.iloadN X2.here hx rfl (hb hby d4_35) rfl ?_
    show Sp p e below T2 (mkF m 36 #[.val (.ref a1), .val (.ref a2), .val (.int (0 : Int32)), .val (.int (2 : Int32)), .val .null, .unset] [(.int (2 : Int32)), (.int (0 : Int32)), (.ref a2)]) _
    refine st3 _ ?_
    show Sp p e below T3 (mkF m 39 #[.val (.ref a1), .val (.ref a2), .val (.int (0 : Int32)), .val (.int (2 : Int32)), .val .null, .unset] [(.ref b3_0)]) _
    refine XS.astore X3.here hx rfl (hb hby d4_39) rfl rfl (l' := #[.val (.ref a1), .val (.ref a2), .val (.int (0 : Int32)), .val (.int (2 : Int32)), .val .null, .val (.ref b3_0)]) rfl ?_
    refine XS.aloadN X3.here hx rfl (hb hby d4_41) rfl rfl ?_
    refine XS.aload X3.here hx rfl (hb hby d4_42) rfl rfl ?_
    refine XS.iloadN X3.here hx rfl (hb hby d4_44) rfl ?_
    show Sp p e below T3 (mkF m 45 #[.val (.ref a1), .val (.ref a2), .val (.int (0 : Int32)), .val (.int (2 : Int32)), .val .null, .val (.ref b3_0)] [(.int (2 : Int32)), (.ref b3_0), (.ref a1)]) _
    refine st4 _ ?_
    show Sp p e below T4 (mkF m 48 #[.val (.ref a1), .val (.ref a2), .val (.int (0 : Int32)), .val (.int (2 : Int32)), .val .null, .val (.ref b3_0)] [(.int (0 : Int32)), (.ref a1)]) _
    refine st5 _ ?_
    show Sp p e below T5 (mkF m 51 #[.val (.ref a1), .val (.ref a2), .val (.int (0 : Int32)), .val (.int (2 : Int32)), .val .null, .val (.ref b3_0)] []) _
    refine XS.aloadN X5.here hx rfl (hb hby d4_51) rfl rfl ?_
    refine XS.aload X5.here hx rfl (hb hby d4_52) rfl rfl ?_
    show Sp p e below T5 (mkF m 54 #[.val (.ref a1), .val (.ref a2), .val (.int (0 : Int32)), .val (.int (2 : Int32)), .val .null, .val (.ref b3_0)] [(.ref b3_0), (.ref a1)]) _
    refine st6 _ ?_
    show Sp p e below T6 (mkF m 57 #[.val (.ref a1), .val (.ref a2), .val (.int (0 : Int32)), .val (.int (2 : Int32)), .val .null, .val (.ref b3_0)] []) _
    exact X6.returnOut hx Bd.returns (hb hby d4_57) hr
  · show Q14 Z v0 v1 v2 v3 v4 v5 v6 v7 v8 v9 cs_v a1 a2 k_a2 p4 p5 h0 n0 _ T6.heap _
    rw [e6]
    exact ⟨b3_0, kc3_0, rfl, N6, K6, sz_b3_0, (((E_a1.keep Kq3).wr W5).wr W6), (Fw5.other W6 (Or.inr (sn0 hw))), Fw6, ((fq3_0.wr W5).wr W6), f_7⟩
def Q15 (Z : State) (v0 : Addr) (v1 : Addr) (v2 : Addr) (v3 : Addr) (v4 : Addr) (v5 : Addr) (v6 : Addr) (v7 : Addr) (v8 : Addr) (v9 : Addr) (cs_v : Int32) (a1 : Addr) (a2 : Addr) (k_a2 : ClassId) (p4 : Int32) (p5 : Int32) (h0 : Heap) (n0 : Nat) (v : Option Value) (h : Heap) (L : List Loc) : Prop := ∃ (b2_0 : Addr), ∃ (kc2_0 : ClassId), v = none ∧ Fr n0 L ∧ Keep h0 h [a1] ∧ h0.size ≤ b2_0 ∧ Exa Z h a1 "java/lang/String" ∧ Fld Z h a1 "java/lang/String" "coder" "B" (.int (0 : Int32)) ∧ Fld Z h a1 "java/lang/String" "value" "[B" (.ref b2_0) ∧ Exa Z h b2_0 "[B" ∧ Arv Z h b2_0 kc2_0 .byte (2 : Int32) [(.int (nar .byte (p4.toInt8.toInt32))), (.int (nar .byte (p5.toInt8.toInt32)))] (.int (0 : Int32))
theorem rm15 (l : Launch) (Z : State) (a0 : Array Value) (hw : ∀ d ∈ tables_1, d.before a0 Z = true) (ws : List Jvm.Cond) (v0 v1 v2 v3 v4 v5 v6 v7 v8 v9 : Addr) (cs_v : Int32) (hp : Perm Z v0 v1 v2 v3 v4 v5 v6 v7 v8 v9 cs_v) (a1 : Addr) (a2 : Addr) (k_a2 : ClassId) (p4 : Int32) (p5 : Int32) (h0 : Heap) (n0 : Nat) (O0 : Old Z n0 h0) (V_a2 : Arv Z h0 a2 k_a2 .char (2 : Int32) [(.int p4), (.int p5)] (.int (0 : Int32))) (hc2 : ¬ ((255 : Int32) < p4)) (hc3 : ¬ ((255 : Int32) < p5)) (E_a2 : Exa Z h0 a2 "[C") (E_a1 : Exa Z h0 a1 "java/lang/String") (F_value_a1 : Fld Z h0 a1 "java/lang/String" "value" "[B" .null) (F_coder_a1 : Fld Z h0 a1 "java/lang/String" "coder" "B" (.int (0 : Int32))) (g_a1 : n0 ≤ a1) :
    MetFree l y2 (head1 (Jvm.Cond.code y2 jdk_42_method_3_code 2 none :: ws) ({ frames := 3, cells := 1, slots := 2, locals := 52 } : Room)) (fun a U => a = #[(.ref a1), (.ref a2)] ∧ Z.Warmed39 U.vm ∧ U.heap = h0) (fun _ _ _ _ _ => True) (fun _ U o U' => ∃ v L, o = .returned v ∧ Q15 Z v0 v1 v2 v3 v4 v5 v6 v7 v8 v9 cs_v a1 a2 k_a2 p4 p5 h0 n0 v U'.heap L ∧ FrameEnd U o U' L ({ frames := 3, cells := 1, slots := 2, locals := 52 } : Room).cells ({ frames := 3, cells := 1, slots := 2, locals := 52 } : Room).slots) := by
  refine MetFree.of_bodySF (plainFor_of_name pn_4) hisR ?_
  intro p e s m args below meth c s₁ Bd hml0 hP hK
  obtain ⟨rfl, hZ, hh⟩ := hP
  have hx := Bd.exec
  have hby := Bd.bytes
  have hml : c.maxLocals = 2 := hml0
  have hown : s.vm.findClass "java/lang/String" = some m.cls := findClass_of_methodNamed Bd.named
  have hnm := (name_of_methodNamed Bd.named Bd.method).1
  have X0 : Stand p l e ({ frames := 3, cells := 1, slots := 2, locals := 52 } : Room) s m #[(.ref a1), (.ref a2)] below meth c s₁ [] 0 0 := Stand.of_body Bd
  have e0 : s₁.heap = h0 := by rw [← hh, Bd.state]; rfl
  have N0 := Fr.nil n0
  obtain ⟨cl1, Ar1, -, S1, Nn1, -, -⟩ := id V_a2
  obtain ⟨_, _, ⟨T2, L2, k2, n2⟩, -, X2, ⟨Lc2, hQ2, l2, y2, z2⟩, st2⟩ := X0.specialBack hx (y := y1) rfl hown (mvT hZ (wq hw 15 rfl)) (mvT hZ (wq hw 16 rfl)) (mvT hZ (wq hw 18 rfl)) (by decide) (backOf (W := 0) (rm14 l Z a0 hw [] v0 v1 v2 v3 v4 v5 v6 v7 v8 v9 cs_v hp a1 a2 k_a2 p4 p5 h0 n0 O0 V_a2 hc2 hc3 E_a2 E_a1 F_value_a1 F_coder_a1 g_a1) hZ (wq hw 18 rfl) (wq hw 10 rfl) (by decide) (by decide)) (g := (mkF m 6 #[.val (.ref a1), .val (.ref a2)] [.null, (.int (2 : Int32)), (.int (0 : Int32)), (.ref a2), (.ref a1)])) rfl (by rw [hml]; rfl) (Steps.refl _) (a := a1) (argsL := [(.ref a2), (.int (0 : Int32)), (.int (2 : Int32)), .null]) (rest := []) (lenOf pd_1 rfl) rfl (by show 2 * 0 + _ ≤ _; exact Nat.le_of_eq rfl) (hb hby d3_6) (fun _ _ => ⟨rfl, e0, (by decide : 0 + 1 ≤ _), (by decide : 0 + 2 ≤ _)⟩)
  dsimp only [Pt.U, Pt.locs, Pt.cells, Pt.slots] at X2 l2 y2 z2 st2 hQ2
  subst l2 y2 z2
  obtain ⟨b2_0, kc2_0, rfl, Nq2, Kq2, sq_b2_0, fq2_0, fq2_1, fq2_2, fq2_3, fq2_4⟩ := hQ2
  have N2 := Fr.app N0 Nq2
  have sz_b2_0 : h0.size ≤ b2_0 := Nat.le_trans (Keep.refl h0 [a1]).1 sq_b2_0
  have K2 : Keep h0 T2.heap [a1] := (Keep.refl h0 [a1]).trans Kq2 (allS (Or.inl (ma 0 rfl)) all0)
  obtain ⟨fs, hr, hrun, hended, hW, hsame⟩ := X2.leave (v := none) (fun _ => rfl)
  refine ⟨_, _, castTop (ef_3_0 m a1 a2) ?_, hrun, hended, _, _, rfl, ?_, ⟨_, rfl⟩, hW, hsame.mono (by decide) (by decide)⟩
  · show Sp p e below s₁ (mkF m 0 #[.val (.ref a1), .val (.ref a2)] []) _
    refine XS.aloadN X0.here hx rfl (hb hby d3_0) rfl rfl ?_
    refine XS.aloadN X0.here hx rfl (hb hby d3_1) rfl rfl ?_
    refine XS.iconst X0.here hx rfl (hb hby d3_2) ?_
    refine XS.aloadN X0.here hx rfl (hb hby d3_3) rfl rfl ?_
    show Sp p e below s₁ (mkF m 4 #[.val (.ref a1), .val (.ref a2)] [(.ref a2), (.int (0 : Int32)), (.ref a2), (.ref a1)]) _
    refine X0.arraylength hx (by rw [e0]; exact Ar1.1) (State.isArrayOf_alike hZ.alike Ar1.2.1) (g := (mkF m 4 #[.val (.ref a1), .val (.ref a2)] [(.ref a2), (.int (0 : Int32)), (.ref a2), (.ref a1)])) rfl rfl (hb hby d3_4) _ ?_
    rw [len_of S1 Nn1]
    show Sp p e below s₁ (mkF m 5 #[.val (.ref a1), .val (.ref a2)] [(.int (2 : Int32)), (.int (0 : Int32)), (.ref a2), (.ref a1)]) _
    refine XS.aconstNull X0.here hx rfl (hb hby d3_5) ?_
    show Sp p e below s₁ (mkF m 6 #[.val (.ref a1), .val (.ref a2)] [.null, (.int (2 : Int32)), (.int (0 : Int32)), (.ref a2), (.ref a1)]) _
    refine st2.trans ?_
    show Sp p e below T2 (mkF m 9 #[.val (.ref a1), .val (.ref a2)] []) _
    exact X2.returnOut hx Bd.returns (hb hby d3_9) hr
  · show Q15 Z v0 v1 v2 v3 v4 v5 v6 v7 v8 v9 cs_v a1 a2 k_a2 p4 p5 h0 n0 _ T2.heap _
    exact ⟨b2_0, kc2_0, rfl, N2, K2, sz_b2_0, fq2_0, fq2_1, fq2_2, fq2_3, fq2_4⟩
theorem d1_91 : decode method_4_code 91 = .ok (.areturn, 1) := by decide +kernel
def Q16 (Z : State) (v0 : Addr) (v1 : Addr) (v2 : Addr) (v3 : Addr) (v4 : Addr) (v5 : Addr) (v6 : Addr) (v7 : Addr) (v8 : Addr) (v9 : Addr) (cs_v : Int32) (p0 : Int32) (h0 : Heap) (n0 : Nat) (v : Option Value) (h : Heap) (L : List Loc) : Prop := ∃ (b2 b10_0 : Addr), ∃ (kc10_0 : ClassId), v = some (.ref b2) ∧ Fr n0 L ∧ Keep h0 h [] ∧ h0.size ≤ b2 ∧ h0.size ≤ b10_0 ∧ b2 ≠ b10_0 ∧ Exa Z h b2 "java/lang/String" ∧ Fld Z h b2 "java/lang/String" "coder" "B" (.int (0 : Int32)) ∧ Fld Z h b2 "java/lang/String" "value" "[B" (.ref b10_0) ∧ Exa Z h b10_0 "[B" ∧ Arv Z h b10_0 kc10_0 .byte (2 : Int32) [(.int (nar .byte ((nar .char ((p0 &&& (255 : Int32)).toUInt32.toUInt16.toUInt32.toInt32)).toInt8.toInt32))), (.int (nar .byte ((nar .char ((((p0.toUInt32 >>> ((8 : Int32) &&& 31).toUInt32).toInt32) &&& (255 : Int32)).toUInt32.toUInt16.toUInt32.toInt32)).toInt8.toInt32)))] (.int (0 : Int32))
theorem rm16 (l : Launch) (Z : State) (a0 : Array Value) (hw : ∀ d ∈ tables_1, d.before a0 Z = true) (ws : List Jvm.Cond) (v0 v1 v2 v3 v4 v5 v6 v7 v8 v9 : Addr) (cs_v : Int32) (hp : Perm Z v0 v1 v2 v3 v4 v5 v6 v7 v8 v9 cs_v) (p0 : Int32) (h0 : Heap) (n0 : Nat) (O0 : Old Z n0 h0) (hc1 : ¬ ((((p0.toUInt32 >>> ((24 : Int32) &&& 31).toUInt32).toInt32) &&& (3 : Int32)) = (0 : Int32))) (hc2 : ¬ ((((p0.toUInt32 >>> ((24 : Int32) &&& 31).toUInt32).toInt32) &&& (3 : Int32)) = (1 : Int32))) (hc3 : (((p0.toUInt32 >>> ((24 : Int32) &&& 31).toUInt32).toInt32) &&& (3 : Int32)) = (2 : Int32)) :
    MetFree l y3 (head1 (Jvm.Cond.code y3 method_4_code 5 (some (.object "java/lang/String")) :: ws) ({ frames := 4, cells := 4, slots := 10, locals := 66 } : Room)) (fun a U => a = #[(.int p0)] ∧ Z.Warmed39 U.vm ∧ U.heap = h0 ∧ CHv Z own_EL U.vm h0 ∧ ∀ x ∈ ([] : List Addr), Safe Z own_EL U.vm h0 x) (fun _ _ _ _ _ => True) (fun _ U o U' => ∃ v L, o = .returned v ∧ Q16 Z v0 v1 v2 v3 v4 v5 v6 v7 v8 v9 cs_v p0 h0 n0 v U'.heap L ∧ CHr Z own_EL U.vm U.heap U'.vm U'.heap ∧ ReturnedEndW U o U' L ({ frames := 4, cells := 4, slots := 10, locals := 66 } : Room).cells ({ frames := 4, cells := 4, slots := 10, locals := 66 } : Room).slots) := by
  refine MetFree.of_bodySF (plainFor_of_name pn_2) hisR ?_
  intro p e s m args below meth c s₁ Bd hml0 hP hK
  obtain ⟨rfl, hZo, hh, hCH, hSL⟩ := hP
  have hx := Bd.exec
  have hby := Bd.bytes
  have hml : c.maxLocals = 5 := hml0
  have hown : (s.setVm s.vm).vm.findClass "com/example/ratebook/ratebook/model/PricedItemEqualsPinLaw" = some m.cls := findClass_of_methodNamed Bd.named
  have hnm := (name_of_methodNamed Bd.named Bd.method).1
  have X0 : Stand p l e ({ frames := 4, cells := 4, slots := 10, locals := 66 } : Room) (s.setVm s.vm) m #[(.int p0)] below meth c s₁ [] 0 0 := Stand.of_body Bd
  have e0 : s₁.heap = h0 := by rw [← hh, Bd.state]; rfl
  have N0 := Fr.nil n0
  have hZ : Z.Warmed39 (s.setVm s.vm).vm := hZo
  have CH0 := CHr.refl hCH
  have hS0 : s.Since s.vm 0 := (State.WarmedH.refl s).since 0
  have hk0 : 0 ≤ h0.size := Nat.zero_le _
  obtain ⟨_, _, ⟨T1, L1, k1, n1⟩, -, X1, ⟨Lc1, hQ1, l1, y1, z1⟩, st1⟩ := Jvm.LawKit.callS X0 hx (y := y0) hown (mvT hZ (wq hw 5 rfl)) (mvT hZ (wq hw 6 rfl)) (mvT hZ (wq hw 3 rfl)) (mvT hZ (wq hw 7 rfl)) (by decide) (backOf (W := 0) (rm1 l Z a0 hw [] v0 v1 v2 v3 v4 v5 v6 v7 v8 v9 cs_v hp p0 h0 n0 O0) hZ (wq hw 7 rfl) (wq hw 3 rfl) (by decide) (by decide)) (g := (mkF m 1 #[.val (.int p0), .unset, .unset, .unset, .unset] [(.int p0)])) rfl (by rw [hml]; rfl) (argsL := [(.int p0)]) (rest := []) (lenOf pd_0 rfl) rfl (by show 2 * 0 + _ ≤ _; exact Nat.le_of_eq rfl) (hb hby d1_1) (fun _ _ => ⟨rfl, e0, (by decide : 0 + 0 ≤ _), (by decide : 0 + 0 ≤ _)⟩)
  dsimp only [Pt.U, Pt.locs, Pt.cells, Pt.slots] at X1 l1 y1 z1 st1 hQ1
  subst l1 y1 z1
  obtain ⟨rfl, Nq1, eq1⟩ := hQ1
  have N1 := Fr.app N0 Nq1
  obtain ⟨T2, h2, X2, e2, E2, A2, D2, -, st2⟩ := newO X1 hx hZ hown (wq hw 8 rfl) (wq hw 9 rfl) (wq hw 10 rfl) eq1 (g := (mkF m 73 #[.val (.int p0), .val (.int (fx6 p0)), .val (.int (fx7 p0)), .val (.int (fx8 p0)), .val (.int (fx9 p0))] [])) rfl (hb hby d1_73) (by decide) (by decide)
  obtain ⟨b2, g2⟩ : ∃ z, z = h0.size := ⟨_, rfl⟩
  rw [← g2] at A2 D2 st2
  have g_b2 : n0 ≤ b2 := Nat.le_trans (own_sz O0) (Nat.le_of_eq g2.symm)
  have sz_b2 : h0.size ≤ b2 := Nat.le_trans (Keep.refl h0 []).1 (Nat.le_of_eq g2.symm)
  have O2 := O0.ext E2
  have K2 : Keep h0 h2 [] := (Keep.refl h0 []).ext E2
  have CH2 := CH0.trans (CHr.ext E2 CH0.1)
  have hk2 := Nat.le_trans hk0 E2.1
  have F_value_b2 : Fld Z h2 b2 "java/lang/String" "value" "[B" .null := D2 (Or.inr (wq hw 24 rfl)) (ty := (.array .byte)) (by decide)
  have F_coder_b2 : Fld Z h2 b2 "java/lang/String" "coder" "B" (.int (0 : Int32)) := D2 (Or.inr (wq hw 25 rfl)) (ty := .byte) (by decide)
  obtain ⟨T3, h3, k3, X3, e3, E3, A3, EA3, st3⟩ := newPE X2 hx hZ (wq hw 11 rfl) e2 (g := (mkF m 78 #[.val (.int p0), .val (.int (fx6 p0)), .val (.int (fx7 p0)), .val (.int (fx8 p0)), .val (.int (fx9 p0))] [(.int (2 : Int32)), (.ref b2), (.ref b2)])) rfl (hb hby d1_78) rfl (by decide) (cap := 2) (by decide) (by decide) (by decide) (by decide) (ad := "[C") (by decide)
  obtain ⟨b3, g3⟩ : ∃ z, z = h2.size := ⟨_, rfl⟩
  rw [← g3] at A3 EA3 st3
  have g_b3 : n0 ≤ b3 := Nat.le_trans (own_sz O2) (Nat.le_of_eq g3.symm)
  have sz_b3 : h0.size ≤ b3 := Nat.le_trans K2.1 (Nat.le_of_eq g3.symm)
  have O3 := O2.ext E3
  have K3 : Keep h0 h3 [] := K2.ext E3
  have CH3 := CH2.trans (CHr.ext E3 CH2.1)
  have hk3 := Nat.le_trans hk2 E3.1
  have V_b3 : Arv Z h3 b3 k3 .char (2 : Int32) [(.int (0 : Int32)), (.int (0 : Int32))] (.int (0 : Int32)) := (Arv.new A3 (by decide)).pad (pad_rep [] (.int (0 : Int32)) 2)
  obtain ⟨cl4, Ar4, q4, S4, Nn4, H4, G4⟩ := id V_b3
  have hin4 : ¬ ((0 : Int32) < 0 ∨ cl4.slots.size ≤ ((0 : Int32)).toNatClampNeg) := inb_of S4 ⟨by decide, by decide⟩
  obtain ⟨T5, h5, X5, e5, W5, st5⟩ := stC X3 hx hZ e3 Ar4 (j := (0 : Int32)) hin4 (g := (mkF m 83 #[.val (.int p0), .val (.int (fx6 p0)), .val (.int (fx7 p0)), .val (.int (fx8 p0)), .val (.int (fx9 p0))] [(.int (fx7 p0)), (.int (0 : Int32)), (.ref b3), (.ref b3), (.ref b2), (.ref b2)])) rfl rfl (hb hby d1_83)
  have N5 := Fr.snoc X5 N1 g_b3
  have O5 := O3.wr W5 g_b3
  have K5 : Keep h0 h5 [] := K3.wr W5 (Or.inr sz_b3)
  have CH5 := CH3.trans (CHr.wr W5 (Safe.exa hZ.alike EA3 (by decide) (by decide)) CH3.1)
  have hk5 := Nat.le_trans hk3 (Keep.of_wr W5).1
  have V_b3_5 : Arv Z h5 b3 k3 .char (2 : Int32) [(.int (nar .char ((p0 &&& (255 : Int32)).toUInt32.toUInt16.toUInt32.toInt32))), (.int (0 : Int32))] (.int (0 : Int32)) := Arv.set Ar4 q4 S4 Nn4 H4 G4 (fits_nar_char _) W5 0 rfl (Nat.le_of_ble_eq_true rfl)
  obtain ⟨cl6, Ar6, q6, S6, Nn6, H6, G6⟩ := id V_b3_5
  have hin6 : ¬ ((1 : Int32) < 0 ∨ cl6.slots.size ≤ ((1 : Int32)).toNatClampNeg) := inb_of S6 ⟨by decide, by decide⟩
  obtain ⟨T7, h7, X7, e7, W7, st7⟩ := stC X5 hx hZ e5 Ar6 (j := (1 : Int32)) hin6 (g := (mkF m 87 #[.val (.int p0), .val (.int (fx6 p0)), .val (.int (fx7 p0)), .val (.int (fx8 p0)), .val (.int (fx9 p0))] [(.int (fx8 p0)), (.int (1 : Int32)), (.ref b3), (.ref b3), (.ref b2), (.ref b2)])) rfl rfl (hb hby d1_87)
  have N7 := Fr.snoc X7 N5 g_b3
  have O7 := O5.wr W7 g_b3
  have K7 : Keep h0 h7 [] := K5.wr W7 (Or.inr sz_b3)
  have CH7 := CH5.trans (CHr.wr W7 (Safe.exa hZ.alike (EA3.wr W5) (by decide) (by decide)) CH5.1)
  have hk7 := Nat.le_trans hk5 (Keep.of_wr W7).1
  have V_b3_7 : Arv Z h7 b3 k3 .char (2 : Int32) [(.int (nar .char ((p0 &&& (255 : Int32)).toUInt32.toUInt16.toUInt32.toInt32))), (.int (nar .char ((((p0.toUInt32 >>> ((8 : Int32) &&& 31).toUInt32).toInt32) &&& (255 : Int32)).toUInt32.toUInt16.toUInt32.toInt32)))] (.int (0 : Int32)) := Arv.set Ar6 q6 S6 Nn6 H6 G6 (fits_nar_char _) W7 1 rfl (Nat.le_of_ble_eq_true rfl)
  have f_8 := (((F_value_b2.ext E3).other W5 (Or.inl (Nat.ne_of_lt (Nat.lt_of_lt_of_le A2.lt (Nat.le_of_eq g3.symm))))).other W7 (Or.inl (Nat.ne_of_lt (Nat.lt_of_lt_of_le A2.lt (Nat.le_of_eq g3.symm)))))
  have f_9 := (((F_coder_b2.ext E3).other W5 (Or.inl (Nat.ne_of_lt (Nat.lt_of_lt_of_le A2.lt (Nat.le_of_eq g3.symm))))).other W7 (Or.inl (Nat.ne_of_lt (Nat.lt_of_lt_of_le A2.lt (Nat.le_of_eq g3.symm)))))
  obtain ⟨_, _, ⟨T10, L10, k10, n10⟩, -, X10, ⟨Lc10, hQ10, l10, y10, z10⟩, st10⟩ := X7.specialBack hx (y := y2) rfl hown (mvT hZ (wq hw 12 rfl)) (mvT hZ (wq hw 13 rfl)) (mvT hZ (wq hw 14 rfl)) (by decide) (backOf (W := 1) (rm15 l Z a0 hw [] v0 v1 v2 v3 v4 v5 v6 v7 v8 v9 cs_v hp b2 b3 k3 (nar .char ((p0 &&& (255 : Int32)).toUInt32.toUInt16.toUInt32.toInt32)) (nar .char ((((p0.toUInt32 >>> ((8 : Int32) &&& 31).toUInt32).toInt32) &&& (255 : Int32)).toUInt32.toUInt16.toUInt32.toInt32)) h7 n0 O7 V_b3_7 (own_ch2 p0) (own_ch2 ((p0.toUInt32 >>> ((8 : Int32) &&& 31).toUInt32).toInt32)) ((EA3.wr W5).wr W7) (((A2.ext E3).wr W5).wr W7) f_8 f_9 g_b2) hZ (wq hw 14 rfl) (wq hw 10 rfl) (by decide) (by decide)) (g := (mkF m 88 #[.val (.int p0), .val (.int (fx6 p0)), .val (.int (fx7 p0)), .val (.int (fx8 p0)), .val (.int (fx9 p0))] [(.ref b3), (.ref b2), (.ref b2)])) rfl (by rw [hml]; rfl) (Steps.refl _) (a := b2) (argsL := [(.ref b3)]) (rest := [(.ref b2)]) (lenOf pd_2 rfl) rfl (by show 2 * 0 + _ ≤ _; exact Nat.le_of_eq rfl) (hb hby d1_88) (fun _ _ => ⟨rfl, e7, (by decide : 2 + 1 ≤ _), (by decide : 6 + 2 ≤ _)⟩)
  dsimp only [Pt.U, Pt.locs, Pt.cells, Pt.slots] at X10 l10 y10 z10 st10 hQ10
  subst l10 y10 z10
  obtain ⟨b10_0, kc10_0, rfl, Nq10, Kq10, sq_b10_0, fq10_0, fq10_1, fq10_2, fq10_3, fq10_4⟩ := hQ10
  have N10 := Fr.app N7 Nq10
  have sz_b10_0 : h0.size ≤ b10_0 := Nat.le_trans K7.1 sq_b10_0
  have sf_11 := (Safe.wr W7 (Safe.exa hZ.alike (EA3.wr W5) (by decide) (by decide)) CH5.1 (Safe.wr W5 (Safe.exa hZ.alike EA3 (by decide) (by decide)) CH3.1 (Safe.ext E3 CH2.1 (Safe.ext E2 CH0.1 (Safe.new (Nat.le_of_eq g2.symm))))))
  have CH10 := CH7.trans (CHr.keep Kq10 (allS sf_11 all0) CH7.1)
  have hk10 := Nat.le_trans hk7 Kq10.1
  have K10 : Keep h0 T10.heap [] := K7.trans Kq10 (allS (Or.inr sz_b2) all0)
  obtain ⟨fs, hr, hrun, hended, hE⟩ := Stand.leaveW (s := s) X10 hS0 hk10 (v := some (.ref b2)) (fun h => by rw [Bd.returns] at h; cases h)
  have CHz : CHr Z own_EL s.vm s.heap (T10.setFrames fs).vm (T10.setFrames fs).heap := by
    rw [hh]
    show CHr Z own_EL s.vm h0 T10.vm T10.heap
    exact CH10.trans (CHv.at X10 hZ (own_EW hw) CH10.1)
  refine ⟨_, _, castTop (ef_1_0 m p0) ?_, hrun, hended, _, _, rfl, ?_, CHz, hE.1, hE.2.1, hE.2.2.1, hE.2.2.2.mono (by decide) (by decide)⟩
  · show Sp p e below s₁ (mkF m 0 #[.val (.int p0), .unset, .unset, .unset, .unset] []) _
    refine XS.iloadN X0.here hx rfl (hb hby d1_0) rfl ?_
    show Sp p e below s₁ (mkF m 1 #[.val (.int p0), .unset, .unset, .unset, .unset] [(.int p0)]) _
    refine st1 _ ?_
    show Sp p e below T1 (mkF m 4 #[.val (.int p0), .unset, .unset, .unset, .unset] [(.int (fx6 p0))]) _
    refine XS.istoreN X1.here hx rfl (hb hby d1_4) rfl (l' := #[.val (.int p0), .val (.int (fx6 p0)), .unset, .unset, .unset]) rfl ?_
    refine XS.iloadN X1.here hx rfl (hb hby d1_5) rfl ?_
    refine XS.sipush X1.here hx rfl (hb hby d1_6) ?_
    refine XS.iand X1.here hx rfl (hb hby d1_9) rfl ?_
    refine XS.i2c X1.here hx rfl (hb hby d1_10) rfl ?_
    refine XS.istoreN X1.here hx rfl (hb hby d1_11) rfl (l' := #[.val (.int p0), .val (.int (fx6 p0)), .val (.int (fx7 p0)), .unset, .unset]) rfl ?_
    refine XS.iloadN X1.here hx rfl (hb hby d1_12) rfl ?_
    show Sp p e below T1 (mkF m 13 #[.val (.int p0), .val (.int (fx6 p0)), .val (.int (fx7 p0)), .unset, .unset] [(.int p0)]) _
    refine XS.bipush X1.here hx rfl (hb hby d1_13) ?_
    refine XS.iushr X1.here hx rfl (hb hby d1_15) rfl ?_
    refine XS.sipush X1.here hx rfl (hb hby d1_16) ?_
    refine XS.iand X1.here hx rfl (hb hby d1_19) rfl ?_
    refine XS.i2c X1.here hx rfl (hb hby d1_20) rfl ?_
    refine XS.istoreN X1.here hx rfl (hb hby d1_21) rfl (l' := #[.val (.int p0), .val (.int (fx6 p0)), .val (.int (fx7 p0)), .val (.int (fx8 p0)), .unset]) rfl ?_
    refine XS.iloadN X1.here hx rfl (hb hby d1_22) rfl ?_
    show Sp p e below T1 (mkF m 23 #[.val (.int p0), .val (.int (fx6 p0)), .val (.int (fx7 p0)), .val (.int (fx8 p0)), .unset] [(.int p0)]) _
    refine XS.bipush X1.here hx rfl (hb hby d1_23) ?_
    refine XS.iushr X1.here hx rfl (hb hby d1_25) rfl ?_
    refine XS.sipush X1.here hx rfl (hb hby d1_26) ?_
    refine XS.iand X1.here hx rfl (hb hby d1_29) rfl ?_
    refine XS.i2c X1.here hx rfl (hb hby d1_30) rfl ?_
    refine XS.istore X1.here hx rfl (hb hby d1_31) rfl (l' := #[.val (.int p0), .val (.int (fx6 p0)), .val (.int (fx7 p0)), .val (.int (fx8 p0)), .val (.int (fx9 p0))]) rfl ?_
    refine XS.iloadN X1.here hx rfl (hb hby d1_33) rfl ?_
    show Sp p e below T1 (mkF m 34 #[.val (.int p0), .val (.int (fx6 p0)), .val (.int (fx7 p0)), .val (.int (fx8 p0)), .val (.int (fx9 p0))] [(.int (fx6 p0))]) _
    refine XS.ifYes X1.here hx rfl (pc0 := 34) (pc' := 48) rfl (hb hby d1_34) rfl ((if0 _ _).trans (feq hc1).2) (by decide) (by decide) ?_
    refine XS.iloadN X1.here hx rfl (hb hby d1_48) rfl ?_
    refine XS.iconst X1.here hx rfl (hb hby d1_49) ?_
    refine XS.icmpYes X1.here hx rfl (pc0 := 50) (pc' := 68) rfl (hb hby d1_50) rfl (feq hc2).2 (by decide) (by decide) ?_
    refine XS.iloadN X1.here hx rfl (hb hby d1_68) rfl ?_
    refine XS.iconst X1.here hx rfl (hb hby d1_69) ?_
    refine XS.icmpNo X1.here hx rfl (hb hby d1_70) rfl (teq hc3).2 ?_
    show Sp p e below T1 (mkF m 73 #[.val (.int p0), .val (.int (fx6 p0)), .val (.int (fx7 p0)), .val (.int (fx8 p0)), .val (.int (fx9 p0))] []) _
    refine st2 _ ?_
    show Sp p e below T2 (mkF m 76 #[.val (.int p0), .val (.int (fx6 p0)), .val (.int (fx7 p0)), .val (.int (fx8 p0)), .val (.int (fx9 p0))] [(.ref b2)]) _
    refine XS.dup X2.here hx rfl (hb hby d1_76) rfl rfl ?_
    refine XS.iconst X2.here hx rfl (hb hby d1_77) ?_
    show Sp p e below T2 (mkF m 78 #[.val (.int p0), .val (.int (fx6 p0)), .val (.int (fx7 p0)), .val (.int (fx8 p0)), .val (.int (fx9 p0))] [(.int (2 : Int32)), (.ref b2), (.ref b2)]) _
    refine st3 _ ?_
    show Sp p e below T3 (mkF m 80 #[.val (.int p0), .val (.int (fx6 p0)), .val (.int (fx7 p0)), .val (.int (fx8 p0)), .val (.int (fx9 p0))] [(.ref b3), (.ref b2), (.ref b2)]) _
    refine XS.dup X3.here hx rfl (hb hby d1_80) rfl rfl ?_
    refine XS.iconst X3.here hx rfl (hb hby d1_81) ?_
    refine XS.iloadN X3.here hx rfl (hb hby d1_82) rfl ?_
    show Sp p e below T3 (mkF m 83 #[.val (.int p0), .val (.int (fx6 p0)), .val (.int (fx7 p0)), .val (.int (fx8 p0)), .val (.int (fx9 p0))] [(.int (fx7 p0)), (.int (0 : Int32)), (.ref b3), (.ref b3), (.ref b2), (.ref b2)]) _
    refine st5 _ ?_
    show Sp p e below T5 (mkF m 84 #[.val (.int p0), .val (.int (fx6 p0)), .val (.int (fx7 p0)), .val (.int (fx8 p0)), .val (.int (fx9 p0))] [(.ref b3), (.ref b2), (.ref b2)]) _
    refine XS.dup X5.here hx rfl (hb hby d1_84) rfl rfl ?_
    refine XS.iconst X5.here hx rfl (hb hby d1_85) ?_
    refine XS.iloadN X5.here hx rfl (hb hby d1_86) rfl ?_
    show Sp p e below T5 (mkF m 87 #[.val (.int p0), .val (.int (fx6 p0)), .val (.int (fx7 p0)), .val (.int (fx8 p0)), .val (.int (fx9 p0))] [(.int (fx8 p0)), (.int (1 : Int32)), (.ref b3), (.ref b3), (.ref b2), (.ref b2)]) _
    refine st7 _ ?_
    show Sp p e below T7 (mkF m 88 #[.val (.int p0), .val (.int (fx6 p0)), .val (.int (fx7 p0)), .val (.int (fx8 p0)), .val (.int (fx9 p0))] [(.ref b3), (.ref b2), (.ref b2)]) _
    refine st10.trans ?_
    show Sp p e below T10 (mkF m 91 #[.val (.int p0), .val (.int (fx6 p0)), .val (.int (fx7 p0)), .val (.int (fx8 p0)), .val (.int (fx9 p0))] [(.ref b2)]) _
    jvm_step X10.here [X10.here.top, hx, (hb hby d1_91), X10.method', Bd.returns, Value.isRef, FieldType.isReference]
    first | (intro acts; rw [hr _ acts rfl rfl rfl]) | rw [hr _ _ rfl rfl rfl]
    exact Steps.refl _
  · show Q16 Z v0 v1 v2 v3 v4 v5 v6 v7 v8 v9 cs_v p0 h0 n0 _ T10.heap _
    exact ⟨b2, b10_0, kc10_0, rfl, N10, K10, sz_b2, sz_b10_0, (Nat.ne_of_lt (Nat.lt_of_lt_of_le (((A2.ext E3).wr W5).wr W7).lt sq_b10_0)), fq10_0, fq10_1, fq10_2, fq10_3, fq10_4⟩
theorem d1_92 : decode method_4_code 92 = .ok (.new 35, 3) := by decide +kernel
theorem d1_95 : decode method_4_code 95 = .ok (.dup, 1) := by decide +kernel
theorem d1_96 : decode method_4_code 96 = .ok (.iconst 3, 1) := by decide +kernel
theorem d1_97 : decode method_4_code 97 = .ok (.newarray .char, 2) := by decide +kernel
theorem d1_99 : decode method_4_code 99 = .ok (.dup, 1) := by decide +kernel
theorem d1_100 : decode method_4_code 100 = .ok (.iconst 0, 1) := by decide +kernel
theorem d1_101 : decode method_4_code 101 = .ok (.iload_n 2, 1) := by decide +kernel
theorem d1_102 : decode method_4_code 102 = .ok (.castore, 1) := by decide +kernel
theorem d1_103 : decode method_4_code 103 = .ok (.dup, 1) := by decide +kernel
theorem d1_104 : decode method_4_code 104 = .ok (.iconst 1, 1) := by decide +kernel
theorem d1_105 : decode method_4_code 105 = .ok (.iload_n 3, 1) := by decide +kernel
theorem d1_106 : decode method_4_code 106 = .ok (.castore, 1) := by decide +kernel
theorem d1_107 : decode method_4_code 107 = .ok (.dup, 1) := by decide +kernel
theorem d1_108 : decode method_4_code 108 = .ok (.iconst 2, 1) := by decide +kernel
theorem d1_109 : decode method_4_code 109 = .ok (.iload 4, 2) := by decide +kernel
theorem d1_111 : decode method_4_code 111 = .ok (.castore, 1) := by decide +kernel
theorem d1_112 : decode method_4_code 112 = .ok (.invokespecial 37, 3) := by decide +kernel
abbrev fx14 : Int32 := ((((0 : Int32) + (1 : Int32)) + (1 : Int32)) + (1 : Int32))
def Q17 (Z : State) (v0 : Addr) (v1 : Addr) (v2 : Addr) (v3 : Addr) (v4 : Addr) (v5 : Addr) (v6 : Addr) (v7 : Addr) (v8 : Addr) (v9 : Addr) (cs_v : Int32) (a1 : Addr) (a2 : Addr) (k_a1 : ClassId) (p4 : Int32) (p5 : Int32) (p6 : Int32) (k_a2 : ClassId) (h0 : Heap) (n0 : Nat) (v : Option Value) (h : Heap) (L : List Loc) : Prop := v = some (.int (3 : Int32)) ∧ Fr n0 L ∧ Keep h0 h [a2] ∧ Exa Z h a2 "[B" ∧ Arv Z h a2 k_a2 .byte (3 : Int32) [(.int (nar .byte (p4.toInt8.toInt32))), (.int (nar .byte (p5.toInt8.toInt32))), (.int (nar .byte (p6.toInt8.toInt32)))] (.int (0 : Int32))
theorem rm17 (l : Launch) (Z : State) (a0 : Array Value) (hw : ∀ d ∈ tables_1, d.before a0 Z = true) (ws : List Jvm.Cond) (v0 v1 v2 v3 v4 v5 v6 v7 v8 v9 : Addr) (cs_v : Int32) (hp : Perm Z v0 v1 v2 v3 v4 v5 v6 v7 v8 v9 cs_v) (a1 : Addr) (a2 : Addr) (k_a1 : ClassId) (p4 : Int32) (p5 : Int32) (p6 : Int32) (k_a2 : ClassId) (h0 : Heap) (n0 : Nat) (O0 : Old Z n0 h0) (V_a1 : Arv Z h0 a1 k_a1 .char (3 : Int32) [(.int p4), (.int p5), (.int p6)] (.int (0 : Int32))) (hc2 : ¬ ((255 : Int32) < p4)) (E_a2 : Exa Z h0 a2 "[B") (V_a2 : Arv Z h0 a2 k_a2 .byte (3 : Int32) [(.int (0 : Int32)), (.int (0 : Int32)), (.int (0 : Int32))] (.int (0 : Int32))) (g_a2 : n0 ≤ a2) (ne_a1_a2 : a1 ≠ a2) (hc7 : ¬ ((255 : Int32) < p5)) (hc8 : ¬ ((255 : Int32) < p6)) :
    MetFree l y4 (head1 (Jvm.Cond.code y4 jdk_52_method_21_code 7 (some .int) :: ws) ({ frames := 0, cells := 0, slots := 0, locals := 0 } : Room)) (fun a U => a = #[(.ref a1), (.int (0 : Int32)), (.ref a2), (.int (0 : Int32)), (.int (3 : Int32))] ∧ Z.Warmed39 U.vm ∧ U.heap = h0) (fun _ _ _ _ _ => True) (fun _ U o U' => ∃ v L, o = .returned v ∧ Q17 Z v0 v1 v2 v3 v4 v5 v6 v7 v8 v9 cs_v a1 a2 k_a1 p4 p5 p6 k_a2 h0 n0 v U'.heap L ∧ FrameEnd U o U' L ({ frames := 0, cells := 0, slots := 0, locals := 0 } : Room).cells ({ frames := 0, cells := 0, slots := 0, locals := 0 } : Room).slots) := by
  refine MetFree.of_bodySF (plainFor_of_name pn_15) hisR ?_
  intro p e s m args below meth c s₁ Bd hml0 hP hK
  obtain ⟨rfl, hZ, hh⟩ := hP
  have hx := Bd.exec
  have hby := Bd.bytes
  have hml : c.maxLocals = 7 := hml0
  have hown : s.vm.findClass "java/lang/StringUTF16" = some m.cls := findClass_of_methodNamed Bd.named
  have hnm := (name_of_methodNamed Bd.named Bd.method).1
  have X0 : Stand p l e ({ frames := 0, cells := 0, slots := 0, locals := 0 } : Room) s m #[(.ref a1), (.int (0 : Int32)), (.ref a2), (.int (0 : Int32)), (.int (3 : Int32))] below meth c s₁ [] 0 0 := Stand.of_body Bd
  have e0 : s₁.heap = h0 := by rw [← hh, Bd.state]; rfl
  have N0 := Fr.nil n0
  obtain ⟨cl1, Ar1, -, S1, -, H1, -⟩ := id V_a1
  have hin1 : ¬ ((0 : Int32) < 0 ∨ cl1.slots.size ≤ ((0 : Int32)).toNatClampNeg) := inb_of S1 ⟨by decide, by decide⟩
  have hat1 : cl1.slots[((0 : Int32)).toNatClampNeg]? = some (.int p4) := H1.at hin1 rfl
  obtain ⟨cl2, Ar2, q2, S2, Nn2, H2, G2⟩ := id V_a2
  have hin2 : ¬ ((0 : Int32) < 0 ∨ cl2.slots.size ≤ ((0 : Int32)).toNatClampNeg) := inb_of S2 ⟨by decide, by decide⟩
  obtain ⟨T3, h3, X3, e3, W3, st3⟩ := stB X0 hx hZ e0 Ar2 (j := (0 : Int32)) hin2 (g := (mkF m 31 #[.val (.ref a1), .val (.int (0 : Int32)), .val (.ref a2), .val (.int (0 : Int32)), .val (.int (3 : Int32)), .val (.int (0 : Int32)), .val (.int p4)] [(.int (p4.toInt8.toInt32)), (.int (0 : Int32)), (.ref a2)])) rfl rfl (hb hby d15_31)
  have N3 := Fr.snoc X3 N0 g_a2
  have K3 : Keep h0 h3 [a2] := (Keep.refl h0 [a2]).wr W3 (Or.inl (ma 0 rfl))
  have V_a2_3 : Arv Z h3 a2 k_a2 .byte (3 : Int32) [(.int (nar .byte (p4.toInt8.toInt32))), (.int (0 : Int32)), (.int (0 : Int32))] (.int (0 : Int32)) := Arv.set Ar2 q2 S2 Nn2 H2 G2 (fits_nar_byte _) W3 0 rfl (Nat.le_of_ble_eq_true rfl)
  obtain ⟨cl4, Ar4, -, S4, -, H4, -⟩ := id (V_a1.other W3 ne_a1_a2)
  have hin4 : ¬ (((0 : Int32) + (1 : Int32)) < 0 ∨ cl4.slots.size ≤ (((0 : Int32) + (1 : Int32))).toNatClampNeg) := inb_of S4 ⟨by decide, by decide⟩
  have hat4 : cl4.slots[(((0 : Int32) + (1 : Int32))).toNatClampNeg]? = some (.int p5) := H4.at hin4 rfl
  obtain ⟨cl5, Ar5, q5, S5, Nn5, H5, G5⟩ := id V_a2_3
  have hin5 : ¬ (((0 : Int32) + (1 : Int32)) < 0 ∨ cl5.slots.size ≤ (((0 : Int32) + (1 : Int32))).toNatClampNeg) := inb_of S5 ⟨by decide, by decide⟩
  obtain ⟨T6, h6, X6, e6, W6, st6⟩ := stB X3 hx hZ e3 Ar5 (j := ((0 : Int32) + (1 : Int32))) hin5 (g := (mkF m 31 #[.val (.ref a1), .val (.int (fx10 )), .val (.ref a2), .val (.int (fx10 )), .val (.int (3 : Int32)), .val (.int (fx10 )), .val (.int p5)] [(.int (p5.toInt8.toInt32)), (.int (fx10 )), (.ref a2)])) rfl rfl (hb hby d15_31)
  have N6 := Fr.snoc X6 N3 g_a2
  have K6 : Keep h0 h6 [a2] := K3.wr W6 (Or.inl (ma 0 rfl))
  have V_a2_6 : Arv Z h6 a2 k_a2 .byte (3 : Int32) [(.int (nar .byte (p4.toInt8.toInt32))), (.int (nar .byte (p5.toInt8.toInt32))), (.int (0 : Int32))] (.int (0 : Int32)) := Arv.set Ar5 q5 S5 Nn5 H5 G5 (fits_nar_byte _) W6 1 rfl (Nat.le_of_ble_eq_true rfl)
  obtain ⟨cl7, Ar7, -, S7, -, H7, -⟩ := id ((V_a1.other W3 ne_a1_a2).other W6 ne_a1_a2)
  have hin7 : ¬ ((((0 : Int32) + (1 : Int32)) + (1 : Int32)) < 0 ∨ cl7.slots.size ≤ ((((0 : Int32) + (1 : Int32)) + (1 : Int32))).toNatClampNeg) := inb_of S7 ⟨by decide, by decide⟩
  have hat7 : cl7.slots[((((0 : Int32) + (1 : Int32)) + (1 : Int32))).toNatClampNeg]? = some (.int p6) := H7.at hin7 rfl
  obtain ⟨cl8, Ar8, q8, S8, Nn8, H8, G8⟩ := id V_a2_6
  have hin8 : ¬ ((((0 : Int32) + (1 : Int32)) + (1 : Int32)) < 0 ∨ cl8.slots.size ≤ ((((0 : Int32) + (1 : Int32)) + (1 : Int32))).toNatClampNeg) := inb_of S8 ⟨by decide, by decide⟩
  obtain ⟨T9, h9, X9, e9, W9, st9⟩ := stB X6 hx hZ e6 Ar8 (j := (((0 : Int32) + (1 : Int32)) + (1 : Int32))) hin8 (g := (mkF m 31 #[.val (.ref a1), .val (.int (fx12 )), .val (.ref a2), .val (.int (fx12 )), .val (.int (3 : Int32)), .val (.int (fx12 )), .val (.int p6)] [(.int (p6.toInt8.toInt32)), (.int (fx12 )), (.ref a2)])) rfl rfl (hb hby d15_31)
  have N9 := Fr.snoc X9 N6 g_a2
  have K9 : Keep h0 h9 [a2] := K6.wr W9 (Or.inl (ma 0 rfl))
  have V_a2_9 : Arv Z h9 a2 k_a2 .byte (3 : Int32) [(.int (nar .byte (p4.toInt8.toInt32))), (.int (nar .byte (p5.toInt8.toInt32))), (.int (nar .byte (p6.toInt8.toInt32)))] (.int (0 : Int32)) := Arv.set Ar8 q8 S8 Nn8 H8 G8 (fits_nar_byte _) W9 2 rfl (Nat.le_of_ble_eq_true rfl)
  obtain ⟨fs, hr, hrun, hended, hW, hsame⟩ := X9.leave (v := some (.int (3 : Int32))) (fun h => by rw [Bd.returns] at h; cases h)
  refine ⟨_, _, castTop (ef_15_0 m a1 (0 : Int32) a2 (0 : Int32) (3 : Int32)) ?_, hrun, hended, _, _, rfl, ?_, ⟨_, rfl⟩, hW, hsame.mono (by decide) (by decide)⟩
  · show Sp p e below s₁ (mkF m 0 #[.val (.ref a1), .val (.int (0 : Int32)), .val (.ref a2), .val (.int (0 : Int32)), .val (.int (3 : Int32)), .unset, .unset] []) _
    refine XS.iconst X0.here hx rfl (hb hby d15_0) ?_
    refine XS.istore X0.here hx rfl (hb hby d15_1) rfl (l' := #[.val (.ref a1), .val (.int (0 : Int32)), .val (.ref a2), .val (.int (0 : Int32)), .val (.int (3 : Int32)), .val (.int (0 : Int32)), .unset]) rfl ?_
    refine XS.iload X0.here hx rfl (hb hby d15_3) rfl ?_
    refine XS.iload X0.here hx rfl (hb hby d15_5) rfl ?_
    refine XS.icmpNo X0.here hx rfl (hb hby d15_7) rfl (tlt (by decide : (0 : Int32) < (3 : Int32))).2.1 ?_
    refine XS.aloadN X0.here hx rfl (hb hby d15_10) rfl rfl ?_
    refine XS.iloadN X0.here hx rfl (hb hby d15_11) rfl ?_
    show Sp p e below s₁ (mkF m 12 #[.val (.ref a1), .val (.int (0 : Int32)), .val (.ref a2), .val (.int (0 : Int32)), .val (.int (3 : Int32)), .val (.int (0 : Int32)), .unset] [(.int (0 : Int32)), (.ref a1)]) _
    refine X0.caload hx (j := (0 : Int32)) (v := (.int p4)) (by rw [e0]; exact Ar1.1) (State.isArrayOf_alike hZ.alike Ar1.2.1) Ar1.2.2 hin1 hat1 (g := (mkF m 12 #[.val (.ref a1), .val (.int (0 : Int32)), .val (.ref a2), .val (.int (0 : Int32)), .val (.int (3 : Int32)), .val (.int (0 : Int32)), .unset] [(.int (0 : Int32)), (.ref a1)])) rfl rfl (hb hby d15_12) _ ?_
    show Sp p e below s₁ (mkF m 13 #[.val (.ref a1), .val (.int (0 : Int32)), .val (.ref a2), .val (.int (0 : Int32)), .val (.int (3 : Int32)), .val (.int (0 : Int32)), .unset] [(.int p4)]) _
    refine XS.istore X0.here hx rfl (hb hby d15_13) rfl (l' := #[.val (.ref a1), .val (.int (0 : Int32)), .val (.ref a2), .val (.int (0 : Int32)), .val (.int (3 : Int32)), .val (.int (0 : Int32)), .val (.int p4)]) rfl ?_
    refine XS.iload X0.here hx rfl (hb hby d15_15) rfl ?_
    refine XS.sipush X0.here hx rfl (hb hby d15_17) ?_
    refine XS.icmpYes X0.here hx rfl (pc0 := 20) (pc' := 26) rfl (hb hby d15_20) rfl (flt hc2).2.2.2 (by decide) (by decide) ?_
    refine XS.aloadN X0.here hx rfl (hb hby d15_26) rfl rfl ?_
    refine XS.iloadN X0.here hx rfl (hb hby d15_27) rfl ?_
    refine XS.iload X0.here hx rfl (hb hby d15_28) rfl ?_
    show Sp p e below s₁ (mkF m 30 #[.val (.ref a1), .val (.int (0 : Int32)), .val (.ref a2), .val (.int (0 : Int32)), .val (.int (3 : Int32)), .val (.int (0 : Int32)), .val (.int p4)] [(.int p4), (.int (0 : Int32)), (.ref a2)]) _
    refine XS.i2b X0.here hx rfl (hb hby d15_30) rfl ?_
    show Sp p e below s₁ (mkF m 31 #[.val (.ref a1), .val (.int (0 : Int32)), .val (.ref a2), .val (.int (0 : Int32)), .val (.int (3 : Int32)), .val (.int (0 : Int32)), .val (.int p4)] [(.int (p4.toInt8.toInt32)), (.int (0 : Int32)), (.ref a2)]) _
    refine st3 _ ?_
    show Sp p e below T3 (mkF m 32 #[.val (.ref a1), .val (.int (0 : Int32)), .val (.ref a2), .val (.int (0 : Int32)), .val (.int (3 : Int32)), .val (.int (0 : Int32)), .val (.int p4)] []) _
    refine XS.iinc X3.here hx rfl (hb hby d15_32) rfl (l' := #[.val (.ref a1), .val (.int (fx10 )), .val (.ref a2), .val (.int (0 : Int32)), .val (.int (3 : Int32)), .val (.int (0 : Int32)), .val (.int p4)]) rfl ?_
    show Sp p e below T3 (mkF m 35 #[.val (.ref a1), .val (.int (fx10 )), .val (.ref a2), .val (.int (0 : Int32)), .val (.int (3 : Int32)), .val (.int (0 : Int32)), .val (.int p4)] []) _
    refine XS.iinc X3.here hx rfl (hb hby d15_35) rfl (l' := #[.val (.ref a1), .val (.int (fx10 )), .val (.ref a2), .val (.int (fx10 )), .val (.int (3 : Int32)), .val (.int (0 : Int32)), .val (.int p4)]) rfl ?_
    show Sp p e below T3 (mkF m 38 #[.val (.ref a1), .val (.int (fx10 )), .val (.ref a2), .val (.int (fx10 )), .val (.int (3 : Int32)), .val (.int (0 : Int32)), .val (.int p4)] []) _
    refine XS.iinc X3.here hx rfl (hb hby d15_38) rfl (l' := #[.val (.ref a1), .val (.int (fx10 )), .val (.ref a2), .val (.int (fx10 )), .val (.int (3 : Int32)), .val (.int (fx10 )), .val (.int p4)]) rfl ?_
    refine XS.goto X3.here hx rfl (pc0 := 41) (pc' := 3) rfl (hb hby d15_41) (by decide) (by decide) ?_
    refine XS.iload X3.here hx rfl (hb hby d15_3) rfl ?_
    refine XS.iload X3.here hx rfl (hb hby d15_5) rfl ?_
    refine XS.icmpNo X3.here hx rfl (hb hby d15_7) rfl (tlt (by decide : ((0 : Int32) + (1 : Int32)) < (3 : Int32))).2.1 ?_
    refine XS.aloadN X3.here hx rfl (hb hby d15_10) rfl rfl ?_
    refine XS.iloadN X3.here hx rfl (hb hby d15_11) rfl ?_
    show Sp p e below T3 (mkF m 12 #[.val (.ref a1), .val (.int (fx10 )), .val (.ref a2), .val (.int (fx10 )), .val (.int (3 : Int32)), .val (.int (fx10 )), .val (.int p4)] [(.int (fx10 )), (.ref a1)]) _
    refine X3.caload hx (j := ((0 : Int32) + (1 : Int32))) (v := (.int p5)) (by rw [e3]; exact Ar4.1) (State.isArrayOf_alike hZ.alike Ar4.2.1) Ar4.2.2 hin4 hat4 (g := (mkF m 12 #[.val (.ref a1), .val (.int (fx10 )), .val (.ref a2), .val (.int (fx10 )), .val (.int (3 : Int32)), .val (.int (fx10 )), .val (.int p4)] [(.int (fx10 )), (.ref a1)])) rfl rfl (hb hby d15_12) _ ?_
    show Sp p e below T3 (mkF m 13 #[.val (.ref a1), .val (.int (fx10 )), .val (.ref a2), .val (.int (fx10 )), .val (.int (3 : Int32)), .val (.int (fx10 )), .val (.int p4)] [(.int p5)]) _
    refine XS.istore X3.here hx rfl (hb hby d15_13) rfl (l' := #[.val (.ref a1), .val (.int (fx10 )), .val (.ref a2), .val (.int (fx10 )), .val (.int (3 : Int32)), .val (.int (fx10 )), .val (.int p5)]) rfl ?_
    refine XS.iload X3.here hx rfl (hb hby d15_15) rfl ?_
    refine XS.sipush X3.here hx rfl (hb hby d15_17) ?_
    refine XS.icmpYes X3.here hx rfl (pc0 := 20) (pc' := 26) rfl (hb hby d15_20) rfl (flt hc7).2.2.2 (by decide) (by decide) ?_
    refine XS.aloadN X3.here hx rfl (hb hby d15_26) rfl rfl ?_
    refine XS.iloadN X3.here hx rfl (hb hby d15_27) rfl ?_
    refine XS.iload X3.here hx rfl (hb hby d15_28) rfl ?_
    show Sp p e below T3 (mkF m 30 #[.val (.ref a1), .val (.int (fx10 )), .val (.ref a2), .val (.int (fx10 )), .val (.int (3 : Int32)), .val (.int (fx10 )), .val (.int p5)] [(.int p5), (.int (fx10 )), (.ref a2)]) _
    refine XS.i2b X3.here hx rfl (hb hby d15_30) rfl ?_
    show Sp p e below T3 (mkF m 31 #[.val (.ref a1), .val (.int (fx10 )), .val (.ref a2), .val (.int (fx10 )), .val (.int (3 : Int32)), .val (.int (fx10 )), .val (.int p5)] [(.int (p5.toInt8.toInt32)), (.int (fx10 )), (.ref a2)]) _
    refine st6 _ ?_
    show Sp p e below T6 (mkF m 32 #[.val (.ref a1), .val (.int (fx10 )), .val (.ref a2), .val (.int (fx10 )), .val (.int (3 : Int32)), .val (.int (fx10 )), .val (.int p5)] []) _
    refine XS.iinc X6.here hx rfl (hb hby d15_32) rfl (l' := #[.val (.ref a1), .val (.int (fx12 )), .val (.ref a2), .val (.int (fx10 )), .val (.int (3 : Int32)), .val (.int (fx10 )), .val (.int p5)]) rfl ?_
    show Sp p e below T6 (mkF m 35 #[.val (.ref a1), .val (.int (fx12 )), .val (.ref a2), .val (.int (fx10 )), .val (.int (3 : Int32)), .val (.int (fx10 )), .val (.int p5)] []) _
    refine XS.iinc X6.here hx rfl (hb hby d15_35) rfl (l' := #[.val (.ref a1), .val (.int (fx12 )), .val (.ref a2), .val (.int (fx12 )), .val (.int (3 : Int32)), .val (.int (fx10 )), .val (.int p5)]) rfl ?_
    show Sp p e below T6 (mkF m 38 #[.val (.ref a1), .val (.int (fx12 )), .val (.ref a2), .val (.int (fx12 )), .val (.int (3 : Int32)), .val (.int (fx10 )), .val (.int p5)] []) _
    refine XS.iinc X6.here hx rfl (hb hby d15_38) rfl (l' := #[.val (.ref a1), .val (.int (fx12 )), .val (.ref a2), .val (.int (fx12 )), .val (.int (3 : Int32)), .val (.int (fx12 )), .val (.int p5)]) rfl ?_
    refine XS.goto X6.here hx rfl (pc0 := 41) (pc' := 3) rfl (hb hby d15_41) (by decide) (by decide) ?_
    refine XS.iload X6.here hx rfl (hb hby d15_3) rfl ?_
    refine XS.iload X6.here hx rfl (hb hby d15_5) rfl ?_
    refine XS.icmpNo X6.here hx rfl (hb hby d15_7) rfl (tlt (by decide : (((0 : Int32) + (1 : Int32)) + (1 : Int32)) < (3 : Int32))).2.1 ?_
    refine XS.aloadN X6.here hx rfl (hb hby d15_10) rfl rfl ?_
    refine XS.iloadN X6.here hx rfl (hb hby d15_11) rfl ?_
    show Sp p e below T6 (mkF m 12 #[.val (.ref a1), .val (.int (fx12 )), .val (.ref a2), .val (.int (fx12 )), .val (.int (3 : Int32)), .val (.int (fx12 )), .val (.int p5)] [(.int (fx12 )), (.ref a1)]) _
    refine X6.caload hx (j := (((0 : Int32) + (1 : Int32)) + (1 : Int32))) (v := (.int p6)) (by rw [e6]; exact Ar7.1) (State.isArrayOf_alike hZ.alike Ar7.2.1) Ar7.2.2 hin7 hat7 (g := (mkF m 12 #[.val (.ref a1), .val (.int (fx12 )), .val (.ref a2), .val (.int (fx12 )), .val (.int (3 : Int32)), .val (.int (fx12 )), .val (.int p5)] [(.int (fx12 )), (.ref a1)])) rfl rfl (hb hby d15_12) _ ?_
    show Sp p e below T6 (mkF m 13 #[.val (.ref a1), .val (.int (fx12 )), .val (.ref a2), .val (.int (fx12 )), .val (.int (3 : Int32)), .val (.int (fx12 )), .val (.int p5)] [(.int p6)]) _
    refine XS.istore X6.here hx rfl (hb hby d15_13) rfl (l' := #[.val (.ref a1), .val (.int (fx12 )), .val (.ref a2), .val (.int (fx12 )), .val (.int (3 : Int32)), .val (.int (fx12 )), .val (.int p6)]) rfl ?_
    refine XS.iload X6.here hx rfl (hb hby d15_15) rfl ?_
    refine XS.sipush X6.here hx rfl (hb hby d15_17) ?_
    refine XS.icmpYes X6.here hx rfl (pc0 := 20) (pc' := 26) rfl (hb hby d15_20) rfl (flt hc8).2.2.2 (by decide) (by decide) ?_
    refine XS.aloadN X6.here hx rfl (hb hby d15_26) rfl rfl ?_
    refine XS.iloadN X6.here hx rfl (hb hby d15_27) rfl ?_
    refine XS.iload X6.here hx rfl (hb hby d15_28) rfl ?_
    show Sp p e below T6 (mkF m 30 #[.val (.ref a1), .val (.int (fx12 )), .val (.ref a2), .val (.int (fx12 )), .val (.int (3 : Int32)), .val (.int (fx12 )), .val (.int p6)] [(.int p6), (.int (fx12 )), (.ref a2)]) _
    refine XS.i2b X6.here hx rfl (hb hby d15_30) rfl ?_
    show Sp p e below T6 (mkF m 31 #[.val (.ref a1), .val (.int (fx12 )), .val (.ref a2), .val (.int (fx12 )), .val (.int (3 : Int32)), .val (.int (fx12 )), .val (.int p6)] [(.int (p6.toInt8.toInt32)), (.int (fx12 )), (.ref a2)]) _
    refine st9 _ ?_
    show Sp p e below T9 (mkF m 32 #[.val (.ref a1), .val (.int (fx12 )), .val (.ref a2), .val (.int (fx12 )), .val (.int (3 : Int32)), .val (.int (fx12 )), .val (.int p6)] []) _
    refine XS.iinc X9.here hx rfl (hb hby d15_32) rfl (l' := #[.val (.ref a1), .val (.int (fx14 )), .val (.ref a2), .val (.int (fx12 )), .val (.int (3 : Int32)), .val (.int (fx12 )), .val (.int p6)]) rfl ?_
    show Sp p e below T9 (mkF m 35 #[.val (.ref a1), .val (.int (fx14 )), .val (.ref a2), .val (.int (fx12 )), .val (.int (3 : Int32)), .val (.int (fx12 )), .val (.int p6)] []) _
    refine XS.iinc X9.here hx rfl (hb hby d15_35) rfl (l' := #[.val (.ref a1), .val (.int (fx14 )), .val (.ref a2), .val (.int (fx14 )), .val (.int (3 : Int32)), .val (.int (fx12 )), .val (.int p6)]) rfl ?_
    show Sp p e below T9 (mkF m 38 #[.val (.ref a1), .val (.int (fx14 )), .val (.ref a2), .val (.int (fx14 )), .val (.int (3 : Int32)), .val (.int (fx12 )), .val (.int p6)] []) _
    refine XS.iinc X9.here hx rfl (hb hby d15_38) rfl (l' := #[.val (.ref a1), .val (.int (fx14 )), .val (.ref a2), .val (.int (fx14 )), .val (.int (3 : Int32)), .val (.int (fx14 )), .val (.int p6)]) rfl ?_
    refine XS.goto X9.here hx rfl (pc0 := 41) (pc' := 3) rfl (hb hby d15_41) (by decide) (by decide) ?_
    refine XS.iload X9.here hx rfl (hb hby d15_3) rfl ?_
    refine XS.iload X9.here hx rfl (hb hby d15_5) rfl ?_
    refine XS.icmpYes X9.here hx rfl (pc0 := 7) (pc' := 44) rfl (hb hby d15_7) rfl (flt (by decide : ¬ (((((0 : Int32) + (1 : Int32)) + (1 : Int32)) + (1 : Int32)) < (3 : Int32)))).2.1 (by decide) (by decide) ?_
    refine XS.iload X9.here hx rfl (hb hby d15_44) rfl ?_
    show Sp p e below T9 (mkF m 46 #[.val (.ref a1), .val (.int (fx14 )), .val (.ref a2), .val (.int (fx14 )), .val (.int (3 : Int32)), .val (.int (fx14 )), .val (.int p6)] [(.int (3 : Int32))]) _
    exact retI X9 hx Bd.returns (hb hby d15_46) hr
  · show Q17 Z v0 v1 v2 v3 v4 v5 v6 v7 v8 v9 cs_v a1 a2 k_a1 p4 p5 p6 k_a2 h0 n0 _ T9.heap _
    rw [e9]
    exact ⟨rfl, N9, K9, (((E_a2.wr W3).wr W6).wr W9), V_a2_9⟩
def Q18 (Z : State) (v0 : Addr) (v1 : Addr) (v2 : Addr) (v3 : Addr) (v4 : Addr) (v5 : Addr) (v6 : Addr) (v7 : Addr) (v8 : Addr) (v9 : Addr) (cs_v : Int32) (a1 : Addr) (k_a1 : ClassId) (p3 : Int32) (p4 : Int32) (p5 : Int32) (h0 : Heap) (n0 : Nat) (v : Option Value) (h : Heap) (L : List Loc) : Prop := ∃ (b1 : Addr), ∃ (k1 : ClassId), v = some (.ref b1) ∧ Fr n0 L ∧ Keep h0 h [] ∧ h0.size ≤ b1 ∧ Exa Z h b1 "[B" ∧ Arv Z h b1 k1 .byte (3 : Int32) [(.int (nar .byte (p3.toInt8.toInt32))), (.int (nar .byte (p4.toInt8.toInt32))), (.int (nar .byte (p5.toInt8.toInt32)))] (.int (0 : Int32))
theorem rm18 (l : Launch) (Z : State) (a0 : Array Value) (hw : ∀ d ∈ tables_1, d.before a0 Z = true) (ws : List Jvm.Cond) (v0 v1 v2 v3 v4 v5 v6 v7 v8 v9 : Addr) (cs_v : Int32) (hp : Perm Z v0 v1 v2 v3 v4 v5 v6 v7 v8 v9 cs_v) (a1 : Addr) (k_a1 : ClassId) (p3 : Int32) (p4 : Int32) (p5 : Int32) (h0 : Heap) (n0 : Nat) (O0 : Old Z n0 h0) (V_a1 : Arv Z h0 a1 k_a1 .char (3 : Int32) [(.int p3), (.int p4), (.int p5)] (.int (0 : Int32))) (hc2 : ¬ ((255 : Int32) < p3)) (hc3 : ¬ ((255 : Int32) < p4)) (hc4 : ¬ ((255 : Int32) < p5)) (E_a1 : Exa Z h0 a1 "[C") :
    MetFree l y5 (head1 (Jvm.Cond.code y5 jdk_52_method_16_code 6 (some (.array .byte)) :: ws) ({ frames := 1, cells := 1, slots := 3, locals := 18 } : Room)) (fun a U => a = #[(.ref a1), (.int (0 : Int32)), (.int (3 : Int32))] ∧ Z.Warmed39 U.vm ∧ U.heap = h0) (fun _ _ _ _ _ => True) (fun _ U o U' => ∃ v L, o = .returned v ∧ Q18 Z v0 v1 v2 v3 v4 v5 v6 v7 v8 v9 cs_v a1 k_a1 p3 p4 p5 h0 n0 v U'.heap L ∧ FrameEnd U o U' L ({ frames := 1, cells := 1, slots := 3, locals := 18 } : Room).cells ({ frames := 1, cells := 1, slots := 3, locals := 18 } : Room).slots) := by
  refine MetFree.of_bodySF (plainFor_of_name pn_15) hisR ?_
  intro p e s m args below meth c s₁ Bd hml0 hP hK
  obtain ⟨rfl, hZ, hh⟩ := hP
  have hx := Bd.exec
  have hby := Bd.bytes
  have hml : c.maxLocals = 6 := hml0
  have hown : s.vm.findClass "java/lang/StringUTF16" = some m.cls := findClass_of_methodNamed Bd.named
  have hnm := (name_of_methodNamed Bd.named Bd.method).1
  have X0 : Stand p l e ({ frames := 1, cells := 1, slots := 3, locals := 18 } : Room) s m #[(.ref a1), (.int (0 : Int32)), (.int (3 : Int32))] below meth c s₁ [] 0 0 := Stand.of_body Bd
  have e0 : s₁.heap = h0 := by rw [← hh, Bd.state]; rfl
  have N0 := Fr.nil n0
  obtain ⟨T1, h1, k1, X1, e1, E1, A1, EA1, st1⟩ := newPE X0 hx hZ (wq hw 23 rfl) e0 (g := (mkF m 1 #[.val (.ref a1), .val (.int (0 : Int32)), .val (.int (3 : Int32)), .unset, .unset, .unset] [(.int (3 : Int32))])) rfl (hb hby d14_1) rfl (by decide) (cap := 3) (by decide) (by decide) (by decide) (by decide) (ad := "[B") (by decide)
  obtain ⟨b1, g1⟩ : ∃ z, z = h0.size := ⟨_, rfl⟩
  rw [← g1] at A1 EA1 st1
  have g_b1 : n0 ≤ b1 := Nat.le_trans (own_sz O0) (Nat.le_of_eq g1.symm)
  have sz_b1 : h0.size ≤ b1 := Nat.le_trans (Keep.refl h0 []).1 (Nat.le_of_eq g1.symm)
  have O1 := O0.ext E1
  have K1 : Keep h0 h1 [] := (Keep.refl h0 []).ext E1
  have V_b1 : Arv Z h1 b1 k1 .byte (3 : Int32) [(.int (0 : Int32)), (.int (0 : Int32)), (.int (0 : Int32))] (.int (0 : Int32)) := (Arv.new A1 (by decide)).pad (pad_rep [] (.int (0 : Int32)) 3)
  obtain ⟨_, _, ⟨T2, L2, k2, n2⟩, -, X2, ⟨Lc2, hQ2, l2, y2, z2⟩, st2⟩ := Jvm.LawKit.callS X1 hx (y := y4) hown (mvT hZ (wq hw 87 rfl)) (mvT hZ (wq hw 88 rfl)) (mvT hZ (wq hw 85 rfl)) (mvT hZ (wq hw 89 rfl)) (by decide) (backOf (W := 0) (rm17 l Z a0 hw [] v0 v1 v2 v3 v4 v5 v6 v7 v8 v9 cs_v hp a1 b1 k_a1 p3 p4 p5 k1 h1 n0 O1 (V_a1.ext E1) hc2 EA1 V_b1 g_b1 (Nat.ne_of_lt (Nat.lt_of_lt_of_le E_a1.lt sz_b1)) hc3 hc4) hZ (wq hw 89 rfl) (wq hw 85 rfl) (by decide) (by decide)) (g := (mkF m 9 #[.val (.ref a1), .val (.int (0 : Int32)), .val (.int (3 : Int32)), .val (.ref b1), .unset, .unset] [(.int (3 : Int32)), (.int (0 : Int32)), (.ref b1), (.int (0 : Int32)), (.ref a1)])) rfl (by rw [hml]; rfl) (argsL := [(.ref a1), (.int (0 : Int32)), (.ref b1), (.int (0 : Int32)), (.int (3 : Int32))]) (rest := []) (lenOf pd_3 rfl) rfl (by show 2 * 0 + _ ≤ _; exact Nat.le_of_eq rfl) (hb hby d14_9) (fun _ _ => ⟨rfl, e1, (by decide : 1 + 0 ≤ _), (by decide : 3 + 0 ≤ _)⟩)
  dsimp only [Pt.U, Pt.locs, Pt.cells, Pt.slots] at X2 l2 y2 z2 st2 hQ2
  subst l2 y2 z2
  obtain ⟨rfl, Nq2, Kq2, fq2_0, fq2_1⟩ := hQ2
  have N2 := Fr.app N0 Nq2
  have K2 : Keep h0 T2.heap [] := K1.trans Kq2 (allS (Or.inr sz_b1) all0)
  obtain ⟨fs, hr, hrun, hended, hW, hsame⟩ := X2.leave (v := some (.ref b1)) (fun h => by rw [Bd.returns] at h; cases h)
  refine ⟨_, _, castTop (ef_14_0 m a1 (0 : Int32) (3 : Int32)) ?_, hrun, hended, _, _, rfl, ?_, ⟨_, rfl⟩, hW, hsame.mono (by decide) (by decide)⟩
  · show Sp p e below s₁ (mkF m 0 #[.val (.ref a1), .val (.int (0 : Int32)), .val (.int (3 : Int32)), .unset, .unset, .unset] []) _
    refine XS.iloadN X0.here hx rfl (hb hby d14_0) rfl ?_
    show Sp p e below s₁ (mkF m 1 #[.val (.ref a1), .val (.int (0 : Int32)), .val (.int (3 : Int32)), .unset, .unset, .unset] [(.int (3 : Int32))]) _
    refine st1 _ ?_
    show Sp p e below T1 (mkF m 3 #[.val (.ref a1), .val (.int (0 : Int32)), .val (.int (3 : Int32)), .unset, .unset, .unset] [(.ref b1)]) _
    refine XS.astoreN X1.here hx rfl (hb hby d14_3) rfl rfl (l' := #[.val (.ref a1), .val (.int (0 : Int32)), .val (.int (3 : Int32)), .val (.ref b1), .unset, .unset]) rfl ?_
    refine XS.aloadN X1.here hx rfl (hb hby d14_4) rfl rfl ?_
    refine XS.iloadN X1.here hx rfl (hb hby d14_5) rfl ?_
    refine XS.aloadN X1.here hx rfl (hb hby d14_6) rfl rfl ?_
    refine XS.iconst X1.here hx rfl (hb hby d14_7) ?_
    refine XS.iloadN X1.here hx rfl (hb hby d14_8) rfl ?_
    show Sp p e below T1 (mkF m 9 #[.val (.ref a1), .val (.int (0 : Int32)), .val (.int (3 : Int32)), .val (.ref b1), .unset, .unset] [(.int (3 : Int32)), (.int (0 : Int32)), (.ref b1), (.int (0 : Int32)), (.ref a1)]) _
    refine st2 _ ?_
    show Sp p e below T2 (mkF m 12 #[.val (.ref a1), .val (.int (0 : Int32)), .val (.int (3 : Int32)), .val (.ref b1), .unset, .unset] [(.int (3 : Int32))]) _
    refine XS.istore X2.here hx rfl (hb hby d14_12) rfl (l' := #[.val (.ref a1), .val (.int (0 : Int32)), .val (.int (3 : Int32)), .val (.ref b1), .val (.int (3 : Int32)), .unset]) rfl ?_
    refine XS.iload X2.here hx rfl (hb hby d14_14) rfl ?_
    refine XS.iloadN X2.here hx rfl (hb hby d14_16) rfl ?_
    refine XS.icmpYes X2.here hx rfl (pc0 := 17) (pc' := 57) rfl (hb hby d14_17) rfl (teq (by decide : (3 : Int32) = (3 : Int32))).1 (by decide) (by decide) ?_
    refine XS.aloadN X2.here hx rfl (hb hby d14_57) rfl rfl ?_
    show Sp p e below T2 (mkF m 58 #[.val (.ref a1), .val (.int (0 : Int32)), .val (.int (3 : Int32)), .val (.ref b1), .val (.int (3 : Int32)), .unset] [(.ref b1)]) _
    jvm_step X2.here [X2.here.top, hx, (hb hby d14_58), X2.method', Bd.returns, Value.isRef, FieldType.isReference]
    first | (intro acts; rw [hr _ acts rfl rfl rfl]) | rw [hr _ _ rfl rfl rfl]
    exact Steps.refl _
  · show Q18 Z v0 v1 v2 v3 v4 v5 v6 v7 v8 v9 cs_v a1 k_a1 p3 p4 p5 h0 n0 _ T2.heap _
    exact ⟨b1, k1, rfl, N2, K2, sz_b1, fq2_0, fq2_1⟩
abbrev fx15 : Int32 := (((((3 : Int32) - (3 : Int32)).toUInt32 >>> ((31 : Int32) &&& 31).toUInt32).toInt32).toInt8.toInt32)
def Q19 (Z : State) (v0 : Addr) (v1 : Addr) (v2 : Addr) (v3 : Addr) (v4 : Addr) (v5 : Addr) (v6 : Addr) (v7 : Addr) (v8 : Addr) (v9 : Addr) (cs_v : Int32) (a1 : Addr) (k_a1 : ClassId) (p3 : Int32) (p4 : Int32) (p5 : Int32) (h0 : Heap) (n0 : Nat) (v : Option Value) (h : Heap) (L : List Loc) : Prop := v = some (.int (0 : Int32)) ∧ Fr n0 L ∧ h = h0
theorem rm19 (l : Launch) (Z : State) (a0 : Array Value) (hw : ∀ d ∈ tables_1, d.before a0 Z = true) (ws : List Jvm.Cond) (v0 v1 v2 v3 v4 v5 v6 v7 v8 v9 : Addr) (cs_v : Int32) (hp : Perm Z v0 v1 v2 v3 v4 v5 v6 v7 v8 v9 cs_v) (a1 : Addr) (k_a1 : ClassId) (p3 : Int32) (p4 : Int32) (p5 : Int32) (h0 : Heap) (n0 : Nat) (O0 : Old Z n0 h0) (V_a1 : Arv Z h0 a1 k_a1 .byte (3 : Int32) [(.int p3), (.int p4), (.int p5)] (.int (0 : Int32))) :
    MetFree l y6 (head1 (Jvm.Cond.code y6 jdk_52_method_15_code 2 (some .byte) :: ws) ({ frames := 0, cells := 0, slots := 0, locals := 0 } : Room)) (fun a U => a = #[(.ref a1), (.int (3 : Int32))] ∧ Z.Warmed39 U.vm ∧ U.heap = h0) (fun _ _ _ _ _ => True) (fun _ U o U' => ∃ v L, o = .returned v ∧ Q19 Z v0 v1 v2 v3 v4 v5 v6 v7 v8 v9 cs_v a1 k_a1 p3 p4 p5 h0 n0 v U'.heap L ∧ FrameEnd U o U' L ({ frames := 0, cells := 0, slots := 0, locals := 0 } : Room).cells ({ frames := 0, cells := 0, slots := 0, locals := 0 } : Room).slots) := by
  refine MetFree.of_bodySF (plainFor_of_name pn_15) hisR ?_
  intro p e s m args below meth c s₁ Bd hml0 hP hK
  obtain ⟨rfl, hZ, hh⟩ := hP
  have hx := Bd.exec
  have hby := Bd.bytes
  have hml : c.maxLocals = 2 := hml0
  have hown : s.vm.findClass "java/lang/StringUTF16" = some m.cls := findClass_of_methodNamed Bd.named
  have hnm := (name_of_methodNamed Bd.named Bd.method).1
  have X0 : Stand p l e ({ frames := 0, cells := 0, slots := 0, locals := 0 } : Room) s m #[(.ref a1), (.int (3 : Int32))] below meth c s₁ [] 0 0 := Stand.of_body Bd
  have e0 : s₁.heap = h0 := by rw [← hh, Bd.state]; rfl
  have N0 := Fr.nil n0
  obtain ⟨cl1, Ar1, -, S1, Nn1, -, -⟩ := id V_a1
  obtain ⟨fs, hr, hrun, hended, hW, hsame⟩ := X0.leave (v := some (.int (0 : Int32))) (fun h => by rw [Bd.returns] at h; cases h)
  refine ⟨_, _, castTop (ef_16_0 m a1 (3 : Int32)) ?_, hrun, hended, _, _, rfl, ?_, ⟨_, rfl⟩, hW, hsame.mono (by decide) (by decide)⟩
  · show Sp p e below s₁ (mkF m 0 #[.val (.ref a1), .val (.int (3 : Int32))] []) _
    refine XS.iloadN X0.here hx rfl (hb hby d16_0) rfl ?_
    refine XS.aloadN X0.here hx rfl (hb hby d16_1) rfl rfl ?_
    show Sp p e below s₁ (mkF m 2 #[.val (.ref a1), .val (.int (3 : Int32))] [(.ref a1), (.int (3 : Int32))]) _
    refine X0.arraylength hx (by rw [e0]; exact Ar1.1) (State.isArrayOf_alike hZ.alike Ar1.2.1) (g := (mkF m 2 #[.val (.ref a1), .val (.int (3 : Int32))] [(.ref a1), (.int (3 : Int32))])) rfl rfl (hb hby d16_2) _ ?_
    rw [len_of S1 Nn1]
    show Sp p e below s₁ (mkF m 3 #[.val (.ref a1), .val (.int (3 : Int32))] [(.int (3 : Int32)), (.int (3 : Int32))]) _
    refine XS.isub X0.here hx rfl (hb hby d16_3) rfl ?_
    refine XS.bipush X0.here hx rfl (hb hby d16_4) ?_
    refine XS.iushr X0.here hx rfl (hb hby d16_6) rfl ?_
    refine XS.i2b X0.here hx rfl (hb hby d16_7) rfl ?_
    show Sp p e below s₁ (mkF m 8 #[.val (.ref a1), .val (.int (3 : Int32))] [(.int (fx15 ))]) _
    exact retN X0 hx (t := .byte) Bd.returns (by simp) (hb hby d16_8) hr
  · show Q19 Z v0 v1 v2 v3 v4 v5 v6 v7 v8 v9 cs_v a1 k_a1 p3 p4 p5 h0 n0 _ s₁.heap _
    rw [e0]
    exact ⟨rfl, N0, rfl⟩
def Q20 (Z : State) (v0 : Addr) (v1 : Addr) (v2 : Addr) (v3 : Addr) (v4 : Addr) (v5 : Addr) (v6 : Addr) (v7 : Addr) (v8 : Addr) (v9 : Addr) (cs_v : Int32) (a1 : Addr) (a2 : Addr) (k_a2 : ClassId) (p4 : Int32) (p5 : Int32) (p6 : Int32) (h0 : Heap) (n0 : Nat) (v : Option Value) (h : Heap) (L : List Loc) : Prop := ∃ (b3_0 : Addr), ∃ (kc3_0 : ClassId), v = none ∧ Fr n0 L ∧ Keep h0 h [a1] ∧ h0.size ≤ b3_0 ∧ Exa Z h a1 "java/lang/String" ∧ Fld Z h a1 "java/lang/String" "coder" "B" (.int (0 : Int32)) ∧ Fld Z h a1 "java/lang/String" "value" "[B" (.ref b3_0) ∧ Exa Z h b3_0 "[B" ∧ Arv Z h b3_0 kc3_0 .byte (3 : Int32) [(.int (nar .byte (p4.toInt8.toInt32))), (.int (nar .byte (p5.toInt8.toInt32))), (.int (nar .byte (p6.toInt8.toInt32)))] (.int (0 : Int32))
theorem rm20 (l : Launch) (Z : State) (a0 : Array Value) (hw : ∀ d ∈ tables_1, d.before a0 Z = true) (ws : List Jvm.Cond) (v0 v1 v2 v3 v4 v5 v6 v7 v8 v9 : Addr) (cs_v : Int32) (hp : Perm Z v0 v1 v2 v3 v4 v5 v6 v7 v8 v9 cs_v) (a1 : Addr) (a2 : Addr) (k_a2 : ClassId) (p4 : Int32) (p5 : Int32) (p6 : Int32) (h0 : Heap) (n0 : Nat) (O0 : Old Z n0 h0) (V_a2 : Arv Z h0 a2 k_a2 .char (3 : Int32) [(.int p4), (.int p5), (.int p6)] (.int (0 : Int32))) (hc2 : ¬ ((255 : Int32) < p4)) (hc3 : ¬ ((255 : Int32) < p5)) (hc4 : ¬ ((255 : Int32) < p6)) (E_a2 : Exa Z h0 a2 "[C") (E_a1 : Exa Z h0 a1 "java/lang/String") (F_value_a1 : Fld Z h0 a1 "java/lang/String" "value" "[B" .null) (F_coder_a1 : Fld Z h0 a1 "java/lang/String" "coder" "B" (.int (0 : Int32))) (g_a1 : n0 ≤ a1) :
    MetFree l y1 (head1 (Jvm.Cond.code y1 jdk_42_method_149_code 6 none :: ws) ({ frames := 2, cells := 1, slots := 3, locals := 35 } : Room)) (fun a U => a = #[(.ref a1), (.ref a2), (.int (0 : Int32)), (.int (3 : Int32)), .null] ∧ Z.Warmed39 U.vm ∧ U.heap = h0) (fun _ _ _ _ _ => True) (fun _ U o U' => ∃ v L, o = .returned v ∧ Q20 Z v0 v1 v2 v3 v4 v5 v6 v7 v8 v9 cs_v a1 a2 k_a2 p4 p5 p6 h0 n0 v U'.heap L ∧ FrameEnd U o U' L ({ frames := 2, cells := 1, slots := 3, locals := 35 } : Room).cells ({ frames := 2, cells := 1, slots := 3, locals := 35 } : Room).slots) := by
  refine MetFree.of_bodySF (plainFor_of_name pn_4) hisR ?_
  intro p e s m args below meth c s₁ Bd hml0 hP hK
  obtain ⟨rfl, hZ, hh⟩ := hP
  have hx := Bd.exec
  have hby := Bd.bytes
  have hml : c.maxLocals = 6 := hml0
  have hown : s.vm.findClass "java/lang/String" = some m.cls := findClass_of_methodNamed Bd.named
  have hnm := (name_of_methodNamed Bd.named Bd.method).1
  have X0 : Stand p l e ({ frames := 2, cells := 1, slots := 3, locals := 35 } : Room) s m #[(.ref a1), (.ref a2), (.int (0 : Int32)), (.int (3 : Int32)), .null] below meth c s₁ [] 0 0 := Stand.of_body Bd
  have e0 : s₁.heap = h0 := by rw [← hh, Bd.state]; rfl
  have N0 := Fr.nil n0
  have hp' := hp
  obtain ⟨_, _, _, _, _, _, _, _, _, _, _, _, _, _, _, _, _, _, _, _, _, _, _, _, _, _, _, _, _, _, S_COMPACT_STRINGS, h_cs⟩ := hp'
  obtain ⟨T1, X1, e1, st1⟩ := initO X0 hx hZ hown (wq hw 19 rfl) (wq hw 20 rfl) (wq hw 21 rfl) e0 (g := (mkF m 1 #[.val (.ref a1), .val (.ref a2), .val (.int (0 : Int32)), .val (.int (3 : Int32)), .val .null, .unset] [(.ref a1)])) rfl (by rw [hml]; rfl) rfl (hb hby d4_1) (by decide) (W := 0) (by show 2 * 0 + _ ≤ _; exact Nat.le_of_eq rfl) (by decide)
  obtain ⟨T2, X2, e2, st2⟩ := getS2 X1 hx hZ hown (host := "") (Or.inl (wq hw 76 rfl)) Via.refl e1 (S_COMPACT_STRINGS.ext O0.2) (g := (mkF m 27 #[.val (.ref a1), .val (.ref a2), .val (.int (0 : Int32)), .val (.int (3 : Int32)), .val .null, .unset] [])) rfl (hb hby d4_27)
  obtain ⟨_, _, ⟨T3, L3, k3, n3⟩, -, X3, ⟨Lc3, hQ3, l3, y3, z3⟩, st3⟩ := Jvm.LawKit.callS X2 hx (y := y5) hown (mvT hZ (wq hw 83 rfl)) (mvT hZ (wq hw 84 rfl)) (mvT hZ (wq hw 85 rfl)) (mvT hZ (wq hw 86 rfl)) (by decide) (backOf (W := 0) (rm18 l Z a0 hw [] v0 v1 v2 v3 v4 v5 v6 v7 v8 v9 cs_v hp a2 k_a2 p4 p5 p6 h0 n0 O0 V_a2 hc2 hc3 hc4 E_a2) hZ (wq hw 86 rfl) (wq hw 85 rfl) (by decide) (by decide)) (g := (mkF m 36 #[.val (.ref a1), .val (.ref a2), .val (.int (0 : Int32)), .val (.int (3 : Int32)), .val .null, .unset] [(.int (3 : Int32)), (.int (0 : Int32)), (.ref a2)])) rfl (by rw [hml]; rfl) (argsL := [(.ref a2), (.int (0 : Int32)), (.int (3 : Int32))]) (rest := []) (lenOf pd_4 rfl) rfl (by show 2 * 0 + _ ≤ _; exact Nat.le_of_eq rfl) (hb hby d4_36) (fun _ _ => ⟨rfl, e2, (by decide : 0 + 1 ≤ _), (by decide : 0 + 3 ≤ _)⟩)
  dsimp only [Pt.U, Pt.locs, Pt.cells, Pt.slots] at X3 l3 y3 z3 st3 hQ3
  subst l3 y3 z3
  obtain ⟨b3_0, kc3_0, rfl, Nq3, Kq3, sq_b3_0, fq3_0, fq3_1⟩ := hQ3
  have N3 := Fr.app N0 Nq3
  have sz_b3_0 : h0.size ≤ b3_0 := Nat.le_trans (Keep.refl h0 [a1]).1 sq_b3_0
  have O3 := O0.keep Kq3 all0
  have K3 : Keep h0 T3.heap [a1] := (Keep.refl h0 [a1]).trans Kq3 all0
  obtain ⟨_, _, ⟨T4, L4, k4, n4⟩, -, X4, ⟨Lc4, hQ4, l4, y4, z4⟩, st4⟩ := Jvm.LawKit.callS X3 hx (y := y6) hown (mvT hZ (wq hw 90 rfl)) (mvT hZ (wq hw 91 rfl)) (mvT hZ (wq hw 85 rfl)) (mvT hZ (wq hw 92 rfl)) (by decide) (backOf (W := 1) (rm19 l Z a0 hw [] v0 v1 v2 v3 v4 v5 v6 v7 v8 v9 cs_v hp b3_0 kc3_0 (nar .byte (p4.toInt8.toInt32)) (nar .byte (p5.toInt8.toInt32)) (nar .byte (p6.toInt8.toInt32)) T3.heap n0 O3 fq3_1) hZ (wq hw 92 rfl) (wq hw 85 rfl) (by decide) (by decide)) (g := (mkF m 45 #[.val (.ref a1), .val (.ref a2), .val (.int (0 : Int32)), .val (.int (3 : Int32)), .val .null, .val (.ref b3_0)] [(.int (3 : Int32)), (.ref b3_0), (.ref a1)])) rfl (by rw [hml]; rfl) (argsL := [(.ref b3_0), (.int (3 : Int32))]) (rest := [(.ref a1)]) (lenOf pd_5 rfl) rfl (by show 2 * 0 + _ ≤ _; exact Nat.le_of_eq rfl) (hb hby d4_45) (fun _ _ => ⟨rfl, rfl, (by decide : 1 + 0 ≤ _), (by decide : 3 + 0 ≤ _)⟩)
  dsimp only [Pt.U, Pt.locs, Pt.cells, Pt.slots] at X4 l4 y4 z4 st4 hQ4
  subst l4 y4 z4
  obtain ⟨rfl, Nq4, eq4⟩ := hQ4
  have N4 := Fr.app N3 Nq4
  obtain ⟨T5, h5, X5, e5, W5, st5⟩ := putFN X4 hx hZ hown (wq hw 29 rfl) Via.refl eq4 (F_coder_a1.keep Kq3 nin0) (E_a1.keep Kq3) (Or.inr ⟨(wq hw 25 rfl), rfl, hnm⟩) (wq hw 9 rfl) (ty := .byte) (v' := (.int (0 : Int32))) (by decide) rfl rfl (g := (mkF m 48 #[.val (.ref a1), .val (.ref a2), .val (.int (0 : Int32)), .val (.int (3 : Int32)), .val .null, .val (.ref b3_0)] [(.int (0 : Int32)), (.ref a1)])) rfl rfl (hb hby d4_48)
  have N5 := Fr.snoc X5 N4 g_a1
  have K5 : Keep h0 h5 [a1] := K3.wr W5 (Or.inl (ma 0 rfl))
  have Fw5 := (F_coder_a1.keep Kq3 nin0).same W5
  obtain ⟨T6, h6, X6, e6, W6, st6⟩ := putF X5 hx hZ hown (host := "") (Or.inl (wq hw 28 rfl)) Via.refl e5 ((F_value_a1.keep Kq3 nin0).other W5 (Or.inr (sn1 hw))) ((E_a1.keep Kq3).wr W5) (Or.inr ⟨(wq hw 24 rfl), rfl, hnm⟩) (wq hw 9 rfl) (ty := (.array .byte)) (by decide) rfl rfl (g := (mkF m 54 #[.val (.ref a1), .val (.ref a2), .val (.int (0 : Int32)), .val (.int (3 : Int32)), .val .null, .val (.ref b3_0)] [(.ref b3_0), (.ref a1)])) rfl rfl (hb hby d4_54)
  have N6 := Fr.snoc X6 N5 g_a1
  have K6 : Keep h0 h6 [a1] := K5.wr W6 (Or.inl (ma 0 rfl))
  have Fw6 := ((F_value_a1.keep Kq3 nin0).other W5 (Or.inr (sn1 hw))).same W6
  have f_7 := ((fq3_1.other W5 (Ne.symm (Nat.ne_of_lt (Nat.lt_of_lt_of_le E_a1.lt sz_b3_0)))).other W6 (Ne.symm (Nat.ne_of_lt (Nat.lt_of_lt_of_le E_a1.lt sz_b3_0))))
  obtain ⟨fs, hr, hrun, hended, hW, hsame⟩ := X6.leave (v := none) (fun _ => rfl)
  refine ⟨_, _, castTop (ef_4_0 m a1 a2 (0 : Int32) (3 : Int32)) ?_, hrun, hended, _, _, rfl, ?_, ⟨_, rfl⟩, hW, hsame.mono (by decide) (by decide)⟩
  · show Sp p e below s₁ (mkF m 0 #[.val (.ref a1), .val (.ref a2), .val (.int (0 : Int32)), .val (.int (3 : Int32)), .val .null, .unset] []) _
    refine XS.aloadN X0.here hx rfl (hb hby d4_0) rfl rfl ?_
    show Sp p e below s₁ (mkF m 1 #[.val (.ref a1), .val (.ref a2), .val (.int (0 : Int32)), .val (.int (3 : Int32)), .val .null, .unset] [(.ref a1)]) _
    refine st1 _ ?_
    show Sp p e below T1 (mkF m 4 #[.val (.ref a1), .val (.ref a2), .val (.int (0 : Int32)), .val (.int (3 : Int32)), .val .null, .unset] []) _
    refine XS.iloadN X1.here hx rfl (hb hby d4_4) rfl ?_
    refine XS.ifYes X1.here hx rfl (pc0 := 5) (pc' := 27) rfl (hb hby d4_5) rfl ((if0 _ _).trans (feq (by decide : ¬ ((3 : Int32) = (0 : Int32)))).2) (by decide) (by decide) ?_
    show Sp p e below T1 (mkF m 27 #[.val (.ref a1), .val (.ref a2), .val (.int (0 : Int32)), .val (.int (3 : Int32)), .val .null, .unset] []) _
    refine st2 _ ?_
    show Sp p e below T2 (mkF m 30 #[.val (.ref a1), .val (.ref a2), .val (.int (0 : Int32)), .val (.int (3 : Int32)), .val .null, .unset] [(.int cs_v)]) _
    refine XS.ifNo X2.here hx rfl (hb hby d4_30) rfl ((if0 _ _).trans (feq h_cs).1) ?_
    refine XS.aloadN X2.here hx rfl (hb hby d4_33) rfl rfl ?_
    refine XS.iloadN X2.here hx rfl (hb hby d4_34) rfl ?_
    refine XS.iloadN X2.here hx rfl (hb hby d4_35) rfl ?_
    show Sp p e below T2 (mkF m 36 #[.val (.ref a1), .val (.ref a2), .val (.int (0 : Int32)), .val (.int (3 : Int32)), .val .null, .unset] [(.int (3 : Int32)), (.int (0 : Int32)), (.ref a2)]) _
    refine st3 _ ?_
    show Sp p e below T3 (mkF m 39 #[.val (.ref a1), .val (.ref a2), .val (.int (0 : Int32)), .val (.int (3 : Int32)), .val .null, .unset] [(.ref b3_0)]) _
    refine XS.astore X3.here hx rfl (hb hby d4_39) rfl rfl (l' := #[.val (.ref a1), .val (.ref a2), .val (.int (0 : Int32)), .val (.int (3 : Int32)), .val .null, .val (.ref b3_0)]) rfl ?_
    refine XS.aloadN X3.here hx rfl (hb hby d4_41) rfl rfl ?_
    refine XS.aload X3.here hx rfl (hb hby d4_42) rfl rfl ?_
    refine XS.iloadN X3.here hx rfl (hb hby d4_44) rfl ?_
    show Sp p e below T3 (mkF m 45 #[.val (.ref a1), .val (.ref a2), .val (.int (0 : Int32)), .val (.int (3 : Int32)), .val .null, .val (.ref b3_0)] [(.int (3 : Int32)), (.ref b3_0), (.ref a1)]) _
    refine st4 _ ?_
    show Sp p e below T4 (mkF m 48 #[.val (.ref a1), .val (.ref a2), .val (.int (0 : Int32)), .val (.int (3 : Int32)), .val .null, .val (.ref b3_0)] [(.int (0 : Int32)), (.ref a1)]) _
    refine st5 _ ?_
    show Sp p e below T5 (mkF m 51 #[.val (.ref a1), .val (.ref a2), .val (.int (0 : Int32)), .val (.int (3 : Int32)), .val .null, .val (.ref b3_0)] []) _
    refine XS.aloadN X5.here hx rfl (hb hby d4_51) rfl rfl ?_
    refine XS.aload X5.here hx rfl (hb hby d4_52) rfl rfl ?_
    show Sp p e below T5 (mkF m 54 #[.val (.ref a1), .val (.ref a2), .val (.int (0 : Int32)), .val (.int (3 : Int32)), .val .null, .val (.ref b3_0)] [(.ref b3_0), (.ref a1)]) _
    refine st6 _ ?_
    show Sp p e below T6 (mkF m 57 #[.val (.ref a1), .val (.ref a2), .val (.int (0 : Int32)), .val (.int (3 : Int32)), .val .null, .val (.ref b3_0)] []) _
    exact X6.returnOut hx Bd.returns (hb hby d4_57) hr
  · show Q20 Z v0 v1 v2 v3 v4 v5 v6 v7 v8 v9 cs_v a1 a2 k_a2 p4 p5 p6 h0 n0 _ T6.heap _
    rw [e6]
    exact ⟨b3_0, kc3_0, rfl, N6, K6, sz_b3_0, (((E_a1.keep Kq3).wr W5).wr W6), (Fw5.other W6 (Or.inr (sn0 hw))), Fw6, ((fq3_0.wr W5).wr W6), f_7⟩
def Q21 (Z : State) (v0 : Addr) (v1 : Addr) (v2 : Addr) (v3 : Addr) (v4 : Addr) (v5 : Addr) (v6 : Addr) (v7 : Addr) (v8 : Addr) (v9 : Addr) (cs_v : Int32) (a1 : Addr) (a2 : Addr) (k_a2 : ClassId) (p4 : Int32) (p5 : Int32) (p6 : Int32) (h0 : Heap) (n0 : Nat) (v : Option Value) (h : Heap) (L : List Loc) : Prop := ∃ (b2_0 : Addr), ∃ (kc2_0 : ClassId), v = none ∧ Fr n0 L ∧ Keep h0 h [a1] ∧ h0.size ≤ b2_0 ∧ Exa Z h a1 "java/lang/String" ∧ Fld Z h a1 "java/lang/String" "coder" "B" (.int (0 : Int32)) ∧ Fld Z h a1 "java/lang/String" "value" "[B" (.ref b2_0) ∧ Exa Z h b2_0 "[B" ∧ Arv Z h b2_0 kc2_0 .byte (3 : Int32) [(.int (nar .byte (p4.toInt8.toInt32))), (.int (nar .byte (p5.toInt8.toInt32))), (.int (nar .byte (p6.toInt8.toInt32)))] (.int (0 : Int32))
theorem rm21 (l : Launch) (Z : State) (a0 : Array Value) (hw : ∀ d ∈ tables_1, d.before a0 Z = true) (ws : List Jvm.Cond) (v0 v1 v2 v3 v4 v5 v6 v7 v8 v9 : Addr) (cs_v : Int32) (hp : Perm Z v0 v1 v2 v3 v4 v5 v6 v7 v8 v9 cs_v) (a1 : Addr) (a2 : Addr) (k_a2 : ClassId) (p4 : Int32) (p5 : Int32) (p6 : Int32) (h0 : Heap) (n0 : Nat) (O0 : Old Z n0 h0) (V_a2 : Arv Z h0 a2 k_a2 .char (3 : Int32) [(.int p4), (.int p5), (.int p6)] (.int (0 : Int32))) (hc2 : ¬ ((255 : Int32) < p4)) (hc3 : ¬ ((255 : Int32) < p5)) (hc4 : ¬ ((255 : Int32) < p6)) (E_a2 : Exa Z h0 a2 "[C") (E_a1 : Exa Z h0 a1 "java/lang/String") (F_value_a1 : Fld Z h0 a1 "java/lang/String" "value" "[B" .null) (F_coder_a1 : Fld Z h0 a1 "java/lang/String" "coder" "B" (.int (0 : Int32))) (g_a1 : n0 ≤ a1) :
    MetFree l y2 (head1 (Jvm.Cond.code y2 jdk_42_method_3_code 2 none :: ws) ({ frames := 3, cells := 1, slots := 3, locals := 52 } : Room)) (fun a U => a = #[(.ref a1), (.ref a2)] ∧ Z.Warmed39 U.vm ∧ U.heap = h0) (fun _ _ _ _ _ => True) (fun _ U o U' => ∃ v L, o = .returned v ∧ Q21 Z v0 v1 v2 v3 v4 v5 v6 v7 v8 v9 cs_v a1 a2 k_a2 p4 p5 p6 h0 n0 v U'.heap L ∧ FrameEnd U o U' L ({ frames := 3, cells := 1, slots := 3, locals := 52 } : Room).cells ({ frames := 3, cells := 1, slots := 3, locals := 52 } : Room).slots) := by
  refine MetFree.of_bodySF (plainFor_of_name pn_4) hisR ?_
  intro p e s m args below meth c s₁ Bd hml0 hP hK
  obtain ⟨rfl, hZ, hh⟩ := hP
  have hx := Bd.exec
  have hby := Bd.bytes
  have hml : c.maxLocals = 2 := hml0
  have hown : s.vm.findClass "java/lang/String" = some m.cls := findClass_of_methodNamed Bd.named
  have hnm := (name_of_methodNamed Bd.named Bd.method).1
  have X0 : Stand p l e ({ frames := 3, cells := 1, slots := 3, locals := 52 } : Room) s m #[(.ref a1), (.ref a2)] below meth c s₁ [] 0 0 := Stand.of_body Bd
  have e0 : s₁.heap = h0 := by rw [← hh, Bd.state]; rfl
  have N0 := Fr.nil n0
  obtain ⟨cl1, Ar1, -, S1, Nn1, -, -⟩ := id V_a2
  obtain ⟨_, _, ⟨T2, L2, k2, n2⟩, -, X2, ⟨Lc2, hQ2, l2, y2, z2⟩, st2⟩ := X0.specialBack hx (y := y1) rfl hown (mvT hZ (wq hw 15 rfl)) (mvT hZ (wq hw 16 rfl)) (mvT hZ (wq hw 18 rfl)) (by decide) (backOf (W := 0) (rm20 l Z a0 hw [] v0 v1 v2 v3 v4 v5 v6 v7 v8 v9 cs_v hp a1 a2 k_a2 p4 p5 p6 h0 n0 O0 V_a2 hc2 hc3 hc4 E_a2 E_a1 F_value_a1 F_coder_a1 g_a1) hZ (wq hw 18 rfl) (wq hw 10 rfl) (by decide) (by decide)) (g := (mkF m 6 #[.val (.ref a1), .val (.ref a2)] [.null, (.int (3 : Int32)), (.int (0 : Int32)), (.ref a2), (.ref a1)])) rfl (by rw [hml]; rfl) (Steps.refl _) (a := a1) (argsL := [(.ref a2), (.int (0 : Int32)), (.int (3 : Int32)), .null]) (rest := []) (lenOf pd_1 rfl) rfl (by show 2 * 0 + _ ≤ _; exact Nat.le_of_eq rfl) (hb hby d3_6) (fun _ _ => ⟨rfl, e0, (by decide : 0 + 1 ≤ _), (by decide : 0 + 3 ≤ _)⟩)
  dsimp only [Pt.U, Pt.locs, Pt.cells, Pt.slots] at X2 l2 y2 z2 st2 hQ2
  subst l2 y2 z2
  obtain ⟨b2_0, kc2_0, rfl, Nq2, Kq2, sq_b2_0, fq2_0, fq2_1, fq2_2, fq2_3, fq2_4⟩ := hQ2
  have N2 := Fr.app N0 Nq2
  have sz_b2_0 : h0.size ≤ b2_0 := Nat.le_trans (Keep.refl h0 [a1]).1 sq_b2_0
  have K2 : Keep h0 T2.heap [a1] := (Keep.refl h0 [a1]).trans Kq2 (allS (Or.inl (ma 0 rfl)) all0)
  obtain ⟨fs, hr, hrun, hended, hW, hsame⟩ := X2.leave (v := none) (fun _ => rfl)
  refine ⟨_, _, castTop (ef_3_0 m a1 a2) ?_, hrun, hended, _, _, rfl, ?_, ⟨_, rfl⟩, hW, hsame.mono (by decide) (by decide)⟩
  · show Sp p e below s₁ (mkF m 0 #[.val (.ref a1), .val (.ref a2)] []) _
    refine XS.aloadN X0.here hx rfl (hb hby d3_0) rfl rfl ?_
    refine XS.aloadN X0.here hx rfl (hb hby d3_1) rfl rfl ?_
    refine XS.iconst X0.here hx rfl (hb hby d3_2) ?_
    refine XS.aloadN X0.here hx rfl (hb hby d3_3) rfl rfl ?_
    show Sp p e below s₁ (mkF m 4 #[.val (.ref a1), .val (.ref a2)] [(.ref a2), (.int (0 : Int32)), (.ref a2), (.ref a1)]) _
    refine X0.arraylength hx (by rw [e0]; exact Ar1.1) (State.isArrayOf_alike hZ.alike Ar1.2.1) (g := (mkF m 4 #[.val (.ref a1), .val (.ref a2)] [(.ref a2), (.int (0 : Int32)), (.ref a2), (.ref a1)])) rfl rfl (hb hby d3_4) _ ?_
    rw [len_of S1 Nn1]
    show Sp p e below s₁ (mkF m 5 #[.val (.ref a1), .val (.ref a2)] [(.int (3 : Int32)), (.int (0 : Int32)), (.ref a2), (.ref a1)]) _
    refine XS.aconstNull X0.here hx rfl (hb hby d3_5) ?_
    show Sp p e below s₁ (mkF m 6 #[.val (.ref a1), .val (.ref a2)] [.null, (.int (3 : Int32)), (.int (0 : Int32)), (.ref a2), (.ref a1)]) _
    refine st2.trans ?_
    show Sp p e below T2 (mkF m 9 #[.val (.ref a1), .val (.ref a2)] []) _
    exact X2.returnOut hx Bd.returns (hb hby d3_9) hr
  · show Q21 Z v0 v1 v2 v3 v4 v5 v6 v7 v8 v9 cs_v a1 a2 k_a2 p4 p5 p6 h0 n0 _ T2.heap _
    exact ⟨b2_0, kc2_0, rfl, N2, K2, sz_b2_0, fq2_0, fq2_1, fq2_2, fq2_3, fq2_4⟩
theorem d1_115 : decode method_4_code 115 = .ok (.areturn, 1) := by decide +kernel
def Q22 (Z : State) (v0 : Addr) (v1 : Addr) (v2 : Addr) (v3 : Addr) (v4 : Addr) (v5 : Addr) (v6 : Addr) (v7 : Addr) (v8 : Addr) (v9 : Addr) (cs_v : Int32) (p0 : Int32) (h0 : Heap) (n0 : Nat) (v : Option Value) (h : Heap) (L : List Loc) : Prop := ∃ (b2 b12_0 : Addr), ∃ (kc12_0 : ClassId), v = some (.ref b2) ∧ Fr n0 L ∧ Keep h0 h [] ∧ h0.size ≤ b2 ∧ h0.size ≤ b12_0 ∧ b2 ≠ b12_0 ∧ Exa Z h b2 "java/lang/String" ∧ Fld Z h b2 "java/lang/String" "coder" "B" (.int (0 : Int32)) ∧ Fld Z h b2 "java/lang/String" "value" "[B" (.ref b12_0) ∧ Exa Z h b12_0 "[B" ∧ Arv Z h b12_0 kc12_0 .byte (3 : Int32) [(.int (nar .byte ((nar .char ((p0 &&& (255 : Int32)).toUInt32.toUInt16.toUInt32.toInt32)).toInt8.toInt32))), (.int (nar .byte ((nar .char ((((p0.toUInt32 >>> ((8 : Int32) &&& 31).toUInt32).toInt32) &&& (255 : Int32)).toUInt32.toUInt16.toUInt32.toInt32)).toInt8.toInt32))), (.int (nar .byte ((nar .char ((((p0.toUInt32 >>> ((16 : Int32) &&& 31).toUInt32).toInt32) &&& (255 : Int32)).toUInt32.toUInt16.toUInt32.toInt32)).toInt8.toInt32)))] (.int (0 : Int32))
theorem rm22 (l : Launch) (Z : State) (a0 : Array Value) (hw : ∀ d ∈ tables_1, d.before a0 Z = true) (ws : List Jvm.Cond) (v0 v1 v2 v3 v4 v5 v6 v7 v8 v9 : Addr) (cs_v : Int32) (hp : Perm Z v0 v1 v2 v3 v4 v5 v6 v7 v8 v9 cs_v) (p0 : Int32) (h0 : Heap) (n0 : Nat) (O0 : Old Z n0 h0) (hc1 : ¬ ((((p0.toUInt32 >>> ((24 : Int32) &&& 31).toUInt32).toInt32) &&& (3 : Int32)) = (0 : Int32))) (hc2 : ¬ ((((p0.toUInt32 >>> ((24 : Int32) &&& 31).toUInt32).toInt32) &&& (3 : Int32)) = (1 : Int32))) (hc3 : ¬ ((((p0.toUInt32 >>> ((24 : Int32) &&& 31).toUInt32).toInt32) &&& (3 : Int32)) = (2 : Int32))) :
    MetFree l y3 (head1 (Jvm.Cond.code y3 method_4_code 5 (some (.object "java/lang/String")) :: ws) ({ frames := 4, cells := 4, slots := 10, locals := 66 } : Room)) (fun a U => a = #[(.int p0)] ∧ Z.Warmed39 U.vm ∧ U.heap = h0 ∧ CHv Z own_EL U.vm h0 ∧ ∀ x ∈ ([] : List Addr), Safe Z own_EL U.vm h0 x) (fun _ _ _ _ _ => True) (fun _ U o U' => ∃ v L, o = .returned v ∧ Q22 Z v0 v1 v2 v3 v4 v5 v6 v7 v8 v9 cs_v p0 h0 n0 v U'.heap L ∧ CHr Z own_EL U.vm U.heap U'.vm U'.heap ∧ ReturnedEndW U o U' L ({ frames := 4, cells := 4, slots := 10, locals := 66 } : Room).cells ({ frames := 4, cells := 4, slots := 10, locals := 66 } : Room).slots) := by
  refine MetFree.of_bodySF (plainFor_of_name pn_2) hisR ?_
  intro p e s m args below meth c s₁ Bd hml0 hP hK
  obtain ⟨rfl, hZo, hh, hCH, hSL⟩ := hP
  have hx := Bd.exec
  have hby := Bd.bytes
  have hml : c.maxLocals = 5 := hml0
  have hown : (s.setVm s.vm).vm.findClass "com/example/ratebook/ratebook/model/PricedItemEqualsPinLaw" = some m.cls := findClass_of_methodNamed Bd.named
  have hnm := (name_of_methodNamed Bd.named Bd.method).1
  have X0 : Stand p l e ({ frames := 4, cells := 4, slots := 10, locals := 66 } : Room) (s.setVm s.vm) m #[(.int p0)] below meth c s₁ [] 0 0 := Stand.of_body Bd
  have e0 : s₁.heap = h0 := by rw [← hh, Bd.state]; rfl
  have N0 := Fr.nil n0
  have hZ : Z.Warmed39 (s.setVm s.vm).vm := hZo
  have CH0 := CHr.refl hCH
  have hS0 : s.Since s.vm 0 := (State.WarmedH.refl s).since 0
  have hk0 : 0 ≤ h0.size := Nat.zero_le _
  obtain ⟨_, _, ⟨T1, L1, k1, n1⟩, -, X1, ⟨Lc1, hQ1, l1, y1, z1⟩, st1⟩ := Jvm.LawKit.callS X0 hx (y := y0) hown (mvT hZ (wq hw 5 rfl)) (mvT hZ (wq hw 6 rfl)) (mvT hZ (wq hw 3 rfl)) (mvT hZ (wq hw 7 rfl)) (by decide) (backOf (W := 0) (rm1 l Z a0 hw [] v0 v1 v2 v3 v4 v5 v6 v7 v8 v9 cs_v hp p0 h0 n0 O0) hZ (wq hw 7 rfl) (wq hw 3 rfl) (by decide) (by decide)) (g := (mkF m 1 #[.val (.int p0), .unset, .unset, .unset, .unset] [(.int p0)])) rfl (by rw [hml]; rfl) (argsL := [(.int p0)]) (rest := []) (lenOf pd_0 rfl) rfl (by show 2 * 0 + _ ≤ _; exact Nat.le_of_eq rfl) (hb hby d1_1) (fun _ _ => ⟨rfl, e0, (by decide : 0 + 0 ≤ _), (by decide : 0 + 0 ≤ _)⟩)
  dsimp only [Pt.U, Pt.locs, Pt.cells, Pt.slots] at X1 l1 y1 z1 st1 hQ1
  subst l1 y1 z1
  obtain ⟨rfl, Nq1, eq1⟩ := hQ1
  have N1 := Fr.app N0 Nq1
  obtain ⟨T2, h2, X2, e2, E2, A2, D2, -, st2⟩ := newO X1 hx hZ hown (wq hw 8 rfl) (wq hw 9 rfl) (wq hw 10 rfl) eq1 (g := (mkF m 92 #[.val (.int p0), .val (.int (fx6 p0)), .val (.int (fx7 p0)), .val (.int (fx8 p0)), .val (.int (fx9 p0))] [])) rfl (hb hby d1_92) (by decide) (by decide)
  obtain ⟨b2, g2⟩ : ∃ z, z = h0.size := ⟨_, rfl⟩
  rw [← g2] at A2 D2 st2
  have g_b2 : n0 ≤ b2 := Nat.le_trans (own_sz O0) (Nat.le_of_eq g2.symm)
  have sz_b2 : h0.size ≤ b2 := Nat.le_trans (Keep.refl h0 []).1 (Nat.le_of_eq g2.symm)
  have O2 := O0.ext E2
  have K2 : Keep h0 h2 [] := (Keep.refl h0 []).ext E2
  have CH2 := CH0.trans (CHr.ext E2 CH0.1)
  have hk2 := Nat.le_trans hk0 E2.1
  have F_value_b2 : Fld Z h2 b2 "java/lang/String" "value" "[B" .null := D2 (Or.inr (wq hw 24 rfl)) (ty := (.array .byte)) (by decide)
  have F_coder_b2 : Fld Z h2 b2 "java/lang/String" "coder" "B" (.int (0 : Int32)) := D2 (Or.inr (wq hw 25 rfl)) (ty := .byte) (by decide)
  obtain ⟨T3, h3, k3, X3, e3, E3, A3, EA3, st3⟩ := newPE X2 hx hZ (wq hw 11 rfl) e2 (g := (mkF m 97 #[.val (.int p0), .val (.int (fx6 p0)), .val (.int (fx7 p0)), .val (.int (fx8 p0)), .val (.int (fx9 p0))] [(.int (3 : Int32)), (.ref b2), (.ref b2)])) rfl (hb hby d1_97) rfl (by decide) (cap := 3) (by decide) (by decide) (by decide) (by decide) (ad := "[C") (by decide)
  obtain ⟨b3, g3⟩ : ∃ z, z = h2.size := ⟨_, rfl⟩
  rw [← g3] at A3 EA3 st3
  have g_b3 : n0 ≤ b3 := Nat.le_trans (own_sz O2) (Nat.le_of_eq g3.symm)
  have sz_b3 : h0.size ≤ b3 := Nat.le_trans K2.1 (Nat.le_of_eq g3.symm)
  have O3 := O2.ext E3
  have K3 : Keep h0 h3 [] := K2.ext E3
  have CH3 := CH2.trans (CHr.ext E3 CH2.1)
  have hk3 := Nat.le_trans hk2 E3.1
  have V_b3 : Arv Z h3 b3 k3 .char (3 : Int32) [(.int (0 : Int32)), (.int (0 : Int32)), (.int (0 : Int32))] (.int (0 : Int32)) := (Arv.new A3 (by decide)).pad (pad_rep [] (.int (0 : Int32)) 3)
  obtain ⟨cl4, Ar4, q4, S4, Nn4, H4, G4⟩ := id V_b3
  have hin4 : ¬ ((0 : Int32) < 0 ∨ cl4.slots.size ≤ ((0 : Int32)).toNatClampNeg) := inb_of S4 ⟨by decide, by decide⟩
  obtain ⟨T5, h5, X5, e5, W5, st5⟩ := stC X3 hx hZ e3 Ar4 (j := (0 : Int32)) hin4 (g := (mkF m 102 #[.val (.int p0), .val (.int (fx6 p0)), .val (.int (fx7 p0)), .val (.int (fx8 p0)), .val (.int (fx9 p0))] [(.int (fx7 p0)), (.int (0 : Int32)), (.ref b3), (.ref b3), (.ref b2), (.ref b2)])) rfl rfl (hb hby d1_102)
  have N5 := Fr.snoc X5 N1 g_b3
  have O5 := O3.wr W5 g_b3
  have K5 : Keep h0 h5 [] := K3.wr W5 (Or.inr sz_b3)
  have CH5 := CH3.trans (CHr.wr W5 (Safe.exa hZ.alike EA3 (by decide) (by decide)) CH3.1)
  have hk5 := Nat.le_trans hk3 (Keep.of_wr W5).1
  have V_b3_5 : Arv Z h5 b3 k3 .char (3 : Int32) [(.int (nar .char ((p0 &&& (255 : Int32)).toUInt32.toUInt16.toUInt32.toInt32))), (.int (0 : Int32)), (.int (0 : Int32))] (.int (0 : Int32)) := Arv.set Ar4 q4 S4 Nn4 H4 G4 (fits_nar_char _) W5 0 rfl (Nat.le_of_ble_eq_true rfl)
  obtain ⟨cl6, Ar6, q6, S6, Nn6, H6, G6⟩ := id V_b3_5
  have hin6 : ¬ ((1 : Int32) < 0 ∨ cl6.slots.size ≤ ((1 : Int32)).toNatClampNeg) := inb_of S6 ⟨by decide, by decide⟩
  obtain ⟨T7, h7, X7, e7, W7, st7⟩ := stC X5 hx hZ e5 Ar6 (j := (1 : Int32)) hin6 (g := (mkF m 106 #[.val (.int p0), .val (.int (fx6 p0)), .val (.int (fx7 p0)), .val (.int (fx8 p0)), .val (.int (fx9 p0))] [(.int (fx8 p0)), (.int (1 : Int32)), (.ref b3), (.ref b3), (.ref b2), (.ref b2)])) rfl rfl (hb hby d1_106)
  have N7 := Fr.snoc X7 N5 g_b3
  have O7 := O5.wr W7 g_b3
  have K7 : Keep h0 h7 [] := K5.wr W7 (Or.inr sz_b3)
  have CH7 := CH5.trans (CHr.wr W7 (Safe.exa hZ.alike (EA3.wr W5) (by decide) (by decide)) CH5.1)
  have hk7 := Nat.le_trans hk5 (Keep.of_wr W7).1
  have V_b3_7 : Arv Z h7 b3 k3 .char (3 : Int32) [(.int (nar .char ((p0 &&& (255 : Int32)).toUInt32.toUInt16.toUInt32.toInt32))), (.int (nar .char ((((p0.toUInt32 >>> ((8 : Int32) &&& 31).toUInt32).toInt32) &&& (255 : Int32)).toUInt32.toUInt16.toUInt32.toInt32))), (.int (0 : Int32))] (.int (0 : Int32)) := Arv.set Ar6 q6 S6 Nn6 H6 G6 (fits_nar_char _) W7 1 rfl (Nat.le_of_ble_eq_true rfl)
  obtain ⟨cl8, Ar8, q8, S8, Nn8, H8, G8⟩ := id V_b3_7
  have hin8 : ¬ ((2 : Int32) < 0 ∨ cl8.slots.size ≤ ((2 : Int32)).toNatClampNeg) := inb_of S8 ⟨by decide, by decide⟩
  obtain ⟨T9, h9, X9, e9, W9, st9⟩ := stC X7 hx hZ e7 Ar8 (j := (2 : Int32)) hin8 (g := (mkF m 111 #[.val (.int p0), .val (.int (fx6 p0)), .val (.int (fx7 p0)), .val (.int (fx8 p0)), .val (.int (fx9 p0))] [(.int (fx9 p0)), (.int (2 : Int32)), (.ref b3), (.ref b3), (.ref b2), (.ref b2)])) rfl rfl (hb hby d1_111)
  have N9 := Fr.snoc X9 N7 g_b3
  have O9 := O7.wr W9 g_b3
  have K9 : Keep h0 h9 [] := K7.wr W9 (Or.inr sz_b3)
  have CH9 := CH7.trans (CHr.wr W9 (Safe.exa hZ.alike ((EA3.wr W5).wr W7) (by decide) (by decide)) CH7.1)
  have hk9 := Nat.le_trans hk7 (Keep.of_wr W9).1
  have V_b3_9 : Arv Z h9 b3 k3 .char (3 : Int32) [(.int (nar .char ((p0 &&& (255 : Int32)).toUInt32.toUInt16.toUInt32.toInt32))), (.int (nar .char ((((p0.toUInt32 >>> ((8 : Int32) &&& 31).toUInt32).toInt32) &&& (255 : Int32)).toUInt32.toUInt16.toUInt32.toInt32))), (.int (nar .char ((((p0.toUInt32 >>> ((16 : Int32) &&& 31).toUInt32).toInt32) &&& (255 : Int32)).toUInt32.toUInt16.toUInt32.toInt32)))] (.int (0 : Int32)) := Arv.set Ar8 q8 S8 Nn8 H8 G8 (fits_nar_char _) W9 2 rfl (Nat.le_of_ble_eq_true rfl)
  have f_10 := ((((F_value_b2.ext E3).other W5 (Or.inl (Nat.ne_of_lt (Nat.lt_of_lt_of_le A2.lt (Nat.le_of_eq g3.symm))))).other W7 (Or.inl (Nat.ne_of_lt (Nat.lt_of_lt_of_le A2.lt (Nat.le_of_eq g3.symm))))).other W9 (Or.inl (Nat.ne_of_lt (Nat.lt_of_lt_of_le A2.lt (Nat.le_of_eq g3.symm)))))
  have f_11 := ((((F_coder_b2.ext E3).other W5 (Or.inl (Nat.ne_of_lt (Nat.lt_of_lt_of_le A2.lt (Nat.le_of_eq g3.symm))))).other W7 (Or.inl (Nat.ne_of_lt (Nat.lt_of_lt_of_le A2.lt (Nat.le_of_eq g3.symm))))).other W9 (Or.inl (Nat.ne_of_lt (Nat.lt_of_lt_of_le A2.lt (Nat.le_of_eq g3.symm)))))
  obtain ⟨_, _, ⟨T12, L12, k12, n12⟩, -, X12, ⟨Lc12, hQ12, l12, y12, z12⟩, st12⟩ := X9.specialBack hx (y := y2) rfl hown (mvT hZ (wq hw 12 rfl)) (mvT hZ (wq hw 13 rfl)) (mvT hZ (wq hw 14 rfl)) (by decide) (backOf (W := 1) (rm21 l Z a0 hw [] v0 v1 v2 v3 v4 v5 v6 v7 v8 v9 cs_v hp b2 b3 k3 (nar .char ((p0 &&& (255 : Int32)).toUInt32.toUInt16.toUInt32.toInt32)) (nar .char ((((p0.toUInt32 >>> ((8 : Int32) &&& 31).toUInt32).toInt32) &&& (255 : Int32)).toUInt32.toUInt16.toUInt32.toInt32)) (nar .char ((((p0.toUInt32 >>> ((16 : Int32) &&& 31).toUInt32).toInt32) &&& (255 : Int32)).toUInt32.toUInt16.toUInt32.toInt32)) h9 n0 O9 V_b3_9 (own_ch2 p0) (own_ch2 ((p0.toUInt32 >>> ((8 : Int32) &&& 31).toUInt32).toInt32)) (own_ch2 ((p0.toUInt32 >>> ((16 : Int32) &&& 31).toUInt32).toInt32)) (((EA3.wr W5).wr W7).wr W9) ((((A2.ext E3).wr W5).wr W7).wr W9) f_10 f_11 g_b2) hZ (wq hw 14 rfl) (wq hw 10 rfl) (by decide) (by decide)) (g := (mkF m 112 #[.val (.int p0), .val (.int (fx6 p0)), .val (.int (fx7 p0)), .val (.int (fx8 p0)), .val (.int (fx9 p0))] [(.ref b3), (.ref b2), (.ref b2)])) rfl (by rw [hml]; rfl) (Steps.refl _) (a := b2) (argsL := [(.ref b3)]) (rest := [(.ref b2)]) (lenOf pd_2 rfl) rfl (by show 2 * 0 + _ ≤ _; exact Nat.le_of_eq rfl) (hb hby d1_112) (fun _ _ => ⟨rfl, e9, (by decide : 2 + 1 ≤ _), (by decide : 7 + 3 ≤ _)⟩)
  dsimp only [Pt.U, Pt.locs, Pt.cells, Pt.slots] at X12 l12 y12 z12 st12 hQ12
  subst l12 y12 z12
  obtain ⟨b12_0, kc12_0, rfl, Nq12, Kq12, sq_b12_0, fq12_0, fq12_1, fq12_2, fq12_3, fq12_4⟩ := hQ12
  have N12 := Fr.app N9 Nq12
  have sz_b12_0 : h0.size ≤ b12_0 := Nat.le_trans K9.1 sq_b12_0
  have sf_13 := (Safe.wr W9 (Safe.exa hZ.alike ((EA3.wr W5).wr W7) (by decide) (by decide)) CH7.1 (Safe.wr W7 (Safe.exa hZ.alike (EA3.wr W5) (by decide) (by decide)) CH5.1 (Safe.wr W5 (Safe.exa hZ.alike EA3 (by decide) (by decide)) CH3.1 (Safe.ext E3 CH2.1 (Safe.ext E2 CH0.1 (Safe.new (Nat.le_of_eq g2.symm)))))))
  have CH12 := CH9.trans (CHr.keep Kq12 (allS sf_13 all0) CH9.1)
  have hk12 := Nat.le_trans hk9 Kq12.1
  have K12 : Keep h0 T12.heap [] := K9.trans Kq12 (allS (Or.inr sz_b2) all0)
  obtain ⟨fs, hr, hrun, hended, hE⟩ := Stand.leaveW (s := s) X12 hS0 hk12 (v := some (.ref b2)) (fun h => by rw [Bd.returns] at h; cases h)
  have CHz : CHr Z own_EL s.vm s.heap (T12.setFrames fs).vm (T12.setFrames fs).heap := by
    rw [hh]
    show CHr Z own_EL s.vm h0 T12.vm T12.heap
    exact CH12.trans (CHv.at X12 hZ (own_EW hw) CH12.1)
  refine ⟨_, _, castTop (ef_1_0 m p0) ?_, hrun, hended, _, _, rfl, ?_, CHz, hE.1, hE.2.1, hE.2.2.1, hE.2.2.2.mono (by decide) (by decide)⟩
  · show Sp p e below s₁ (mkF m 0 #[.val (.int p0), .unset, .unset, .unset, .unset] []) _
    refine XS.iloadN X0.here hx rfl (hb hby d1_0) rfl ?_
    show Sp p e below s₁ (mkF m 1 #[.val (.int p0), .unset, .unset, .unset, .unset] [(.int p0)]) _
    refine st1 _ ?_
    show Sp p e below T1 (mkF m 4 #[.val (.int p0), .unset, .unset, .unset, .unset] [(.int (fx6 p0))]) _
    refine XS.istoreN X1.here hx rfl (hb hby d1_4) rfl (l' := #[.val (.int p0), .val (.int (fx6 p0)), .unset, .unset, .unset]) rfl ?_
    refine XS.iloadN X1.here hx rfl (hb hby d1_5) rfl ?_
    refine XS.sipush X1.here hx rfl (hb hby d1_6) ?_
    refine XS.iand X1.here hx rfl (hb hby d1_9) rfl ?_
    refine XS.i2c X1.here hx rfl (hb hby d1_10) rfl ?_
    refine XS.istoreN X1.here hx rfl (hb hby d1_11) rfl (l' := #[.val (.int p0), .val (.int (fx6 p0)), .val (.int (fx7 p0)), .unset, .unset]) rfl ?_
    refine XS.iloadN X1.here hx rfl (hb hby d1_12) rfl ?_
    show Sp p e below T1 (mkF m 13 #[.val (.int p0), .val (.int (fx6 p0)), .val (.int (fx7 p0)), .unset, .unset] [(.int p0)]) _
    refine XS.bipush X1.here hx rfl (hb hby d1_13) ?_
    refine XS.iushr X1.here hx rfl (hb hby d1_15) rfl ?_
    refine XS.sipush X1.here hx rfl (hb hby d1_16) ?_
    refine XS.iand X1.here hx rfl (hb hby d1_19) rfl ?_
    refine XS.i2c X1.here hx rfl (hb hby d1_20) rfl ?_
    refine XS.istoreN X1.here hx rfl (hb hby d1_21) rfl (l' := #[.val (.int p0), .val (.int (fx6 p0)), .val (.int (fx7 p0)), .val (.int (fx8 p0)), .unset]) rfl ?_
    refine XS.iloadN X1.here hx rfl (hb hby d1_22) rfl ?_
    show Sp p e below T1 (mkF m 23 #[.val (.int p0), .val (.int (fx6 p0)), .val (.int (fx7 p0)), .val (.int (fx8 p0)), .unset] [(.int p0)]) _
    refine XS.bipush X1.here hx rfl (hb hby d1_23) ?_
    refine XS.iushr X1.here hx rfl (hb hby d1_25) rfl ?_
    refine XS.sipush X1.here hx rfl (hb hby d1_26) ?_
    refine XS.iand X1.here hx rfl (hb hby d1_29) rfl ?_
    refine XS.i2c X1.here hx rfl (hb hby d1_30) rfl ?_
    refine XS.istore X1.here hx rfl (hb hby d1_31) rfl (l' := #[.val (.int p0), .val (.int (fx6 p0)), .val (.int (fx7 p0)), .val (.int (fx8 p0)), .val (.int (fx9 p0))]) rfl ?_
    refine XS.iloadN X1.here hx rfl (hb hby d1_33) rfl ?_
    show Sp p e below T1 (mkF m 34 #[.val (.int p0), .val (.int (fx6 p0)), .val (.int (fx7 p0)), .val (.int (fx8 p0)), .val (.int (fx9 p0))] [(.int (fx6 p0))]) _
    refine XS.ifYes X1.here hx rfl (pc0 := 34) (pc' := 48) rfl (hb hby d1_34) rfl ((if0 _ _).trans (feq hc1).2) (by decide) (by decide) ?_
    refine XS.iloadN X1.here hx rfl (hb hby d1_48) rfl ?_
    refine XS.iconst X1.here hx rfl (hb hby d1_49) ?_
    refine XS.icmpYes X1.here hx rfl (pc0 := 50) (pc' := 68) rfl (hb hby d1_50) rfl (feq hc2).2 (by decide) (by decide) ?_
    refine XS.iloadN X1.here hx rfl (hb hby d1_68) rfl ?_
    refine XS.iconst X1.here hx rfl (hb hby d1_69) ?_
    refine XS.icmpYes X1.here hx rfl (pc0 := 70) (pc' := 92) rfl (hb hby d1_70) rfl (feq hc3).2 (by decide) (by decide) ?_
    show Sp p e below T1 (mkF m 92 #[.val (.int p0), .val (.int (fx6 p0)), .val (.int (fx7 p0)), .val (.int (fx8 p0)), .val (.int (fx9 p0))] []) _
    refine st2 _ ?_
    show Sp p e below T2 (mkF m 95 #[.val (.int p0), .val (.int (fx6 p0)), .val (.int (fx7 p0)), .val (.int (fx8 p0)), .val (.int (fx9 p0))] [(.ref b2)]) _
    refine XS.dup X2.here hx rfl (hb hby d1_95) rfl rfl ?_
    refine XS.iconst X2.here hx rfl (hb hby d1_96) ?_
    show Sp p e below T2 (mkF m 97 #[.val (.int p0), .val (.int (fx6 p0)), .val (.int (fx7 p0)), .val (.int (fx8 p0)), .val (.int (fx9 p0))] [(.int (3 : Int32)), (.ref b2), (.ref b2)]) _
    refine st3 _ ?_
    show Sp p e below T3 (mkF m 99 #[.val (.int p0), .val (.int (fx6 p0)), .val (.int (fx7 p0)), .val (.int (fx8 p0)), .val (.int (fx9 p0))] [(.ref b3), (.ref b2), (.ref b2)]) _
    refine XS.dup X3.here hx rfl (hb hby d1_99) rfl rfl ?_
    refine XS.iconst X3.here hx rfl (hb hby d1_100) ?_
    refine XS.iloadN X3.here hx rfl (hb hby d1_101) rfl ?_
    show Sp p e below T3 (mkF m 102 #[.val (.int p0), .val (.int (fx6 p0)), .val (.int (fx7 p0)), .val (.int (fx8 p0)), .val (.int (fx9 p0))] [(.int (fx7 p0)), (.int (0 : Int32)), (.ref b3), (.ref b3), (.ref b2), (.ref b2)]) _
    refine st5 _ ?_
    show Sp p e below T5 (mkF m 103 #[.val (.int p0), .val (.int (fx6 p0)), .val (.int (fx7 p0)), .val (.int (fx8 p0)), .val (.int (fx9 p0))] [(.ref b3), (.ref b2), (.ref b2)]) _
    refine XS.dup X5.here hx rfl (hb hby d1_103) rfl rfl ?_
    refine XS.iconst X5.here hx rfl (hb hby d1_104) ?_
    refine XS.iloadN X5.here hx rfl (hb hby d1_105) rfl ?_
    show Sp p e below T5 (mkF m 106 #[.val (.int p0), .val (.int (fx6 p0)), .val (.int (fx7 p0)), .val (.int (fx8 p0)), .val (.int (fx9 p0))] [(.int (fx8 p0)), (.int (1 : Int32)), (.ref b3), (.ref b3), (.ref b2), (.ref b2)]) _
    refine st7 _ ?_
    show Sp p e below T7 (mkF m 107 #[.val (.int p0), .val (.int (fx6 p0)), .val (.int (fx7 p0)), .val (.int (fx8 p0)), .val (.int (fx9 p0))] [(.ref b3), (.ref b2), (.ref b2)]) _
    refine XS.dup X7.here hx rfl (hb hby d1_107) rfl rfl ?_
    refine XS.iconst X7.here hx rfl (hb hby d1_108) ?_
    refine XS.iload X7.here hx rfl (hb hby d1_109) rfl ?_
    show Sp p e below T7 (mkF m 111 #[.val (.int p0), .val (.int (fx6 p0)), .val (.int (fx7 p0)), .val (.int (fx8 p0)), .val (.int (fx9 p0))] [(.int (fx9 p0)), (.int (2 : Int32)), (.ref b3), (.ref b3), (.ref b2), (.ref b2)]) _
    refine st9 _ ?_
    show Sp p e below T9 (mkF m 112 #[.val (.int p0), .val (.int (fx6 p0)), .val (.int (fx7 p0)), .val (.int (fx8 p0)), .val (.int (fx9 p0))] [(.ref b3), (.ref b2), (.ref b2)]) _
    refine st12.trans ?_
    show Sp p e below T12 (mkF m 115 #[.val (.int p0), .val (.int (fx6 p0)), .val (.int (fx7 p0)), .val (.int (fx8 p0)), .val (.int (fx9 p0))] [(.ref b2)]) _
    jvm_step X12.here [X12.here.top, hx, (hb hby d1_115), X12.method', Bd.returns, Value.isRef, FieldType.isReference]
    first | (intro acts; rw [hr _ acts rfl rfl rfl]) | rw [hr _ _ rfl rfl rfl]
    exact Steps.refl _
  · show Q22 Z v0 v1 v2 v3 v4 v5 v6 v7 v8 v9 cs_v p0 h0 n0 _ T12.heap _
    exact ⟨b2, b12_0, kc12_0, rfl, N12, K12, sz_b2, sz_b12_0, (Nat.ne_of_lt (Nat.lt_of_lt_of_le ((((A2.ext E3).wr W5).wr W7).wr W9).lt sq_b12_0)), fq12_0, fq12_1, fq12_2, fq12_3, fq12_4⟩
def QS1 (Z : State) (v0 : Addr) (v1 : Addr) (v2 : Addr) (v3 : Addr) (v4 : Addr) (v5 : Addr) (v6 : Addr) (v7 : Addr) (v8 : Addr) (v9 : Addr) (cs_v : Int32) (p0 : Int32) (h0 : Heap) (n0 : Nat) (v : Option Value) (h : Heap) (L : List Loc) : Prop := ∃ (b vb : Addr), ∃ (k : ClassId), v = some (.ref b) ∧ Fr n0 L ∧ Keep h0 h [] ∧ h0.size ≤ b ∧ Exa Z h b "java/lang/String" ∧ Fld Z h b "java/lang/String" "coder" "B" (.int (0 : Int32)) ∧ Fld Z h b "java/lang/String" "value" "[B" (.ref vb) ∧ Arv Z h vb k .byte (sxN p0) (sxV p0) (.int (0 : Int32))
set_option maxRecDepth 65536 in
set_option maxHeartbeats 4000000 in
theorem rmS1 (l : Launch) (Z : State) (a0 : Array Value) (hw : ∀ d ∈ tables_1, d.before a0 Z = true) (ws : List Jvm.Cond) (v0 v1 v2 v3 v4 v5 v6 v7 v8 v9 : Addr) (cs_v : Int32) (hp : Perm Z v0 v1 v2 v3 v4 v5 v6 v7 v8 v9 cs_v) (p0 : Int32) (h0 : Heap) (n0 : Nat) (O0 : Old Z n0 h0) :
    MetFree l y3 (head1 (Jvm.Cond.code y3 method_4_code 5 (some (.object "java/lang/String")) :: ws) ({ frames := 4, cells := 4, slots := 10, locals := 66 } : Room)) (fun a U => a = #[(.int p0)] ∧ Z.Warmed39 U.vm ∧ U.heap = h0 ∧ CHv Z own_EL U.vm h0 ∧ ∀ x ∈ ([] : List Addr), Safe Z own_EL U.vm h0 x) (fun _ _ _ _ _ => True) (fun _ U o U' => ∃ v L, o = .returned v ∧ QS1 Z v0 v1 v2 v3 v4 v5 v6 v7 v8 v9 cs_v p0 h0 n0 v U'.heap L ∧ CHr Z own_EL U.vm U.heap U'.vm U'.heap ∧ ReturnedEndW U o U' L ({ frames := 4, cells := 4, slots := 10, locals := 66 } : Room).cells ({ frames := 4, cells := 4, slots := 10, locals := 66 } : Room).slots) := by
  by_cases d0 : (((p0.toUInt32 >>> ((24 : Int32) &&& 31).toUInt32).toInt32) &&& (3 : Int32)) = (0 : Int32)
  · skip
    have hN : (sxN p0) = (0 : Int32) := by rw [sxN, if_pos d0] <;> rfl
    have hV : (sxV p0) = [] := by rw [sxV, if_pos d0] <;> rfl
    refine (rm4 l Z a0 hw ws v0 v1 v2 v3 v4 v5 v6 v7 v8 v9 cs_v hp p0 h0 n0 O0 d0).mono (fun _ _ h => h) (fun _ _ _ _ _ h => h) (fun a s o s' _ ⟨v, L, e, q, f⟩ => ⟨v, L, e, ?_, f⟩)
    obtain ⟨u0, u1, kk0, e1, N1, K1, s_u0, f0, f1, f2, f3⟩ := q
    exact ⟨u0, u1, kk0, e1, N1, K1, s_u0, f0, f1, f2, by rw [hN, hV]; exact f3⟩
  · skip
    by_cases d1 : (((p0.toUInt32 >>> ((24 : Int32) &&& 31).toUInt32).toInt32) &&& (3 : Int32)) = (1 : Int32)
    · skip
      have hN : (sxN p0) = (1 : Int32) := by rw [sxN, if_neg d0, if_pos d1] <;> rfl
      have hV : (sxV p0) = [(.int (nar .byte ((nar .char ((p0 &&& (255 : Int32)).toUInt32.toUInt16.toUInt32.toInt32)).toInt8.toInt32)))] := by rw [sxV, if_neg d0, if_pos d1] <;> rfl
      refine (rm10 l Z a0 hw ws v0 v1 v2 v3 v4 v5 v6 v7 v8 v9 cs_v hp p0 h0 n0 O0 d0 d1).mono (fun _ _ h => h) (fun _ _ _ _ _ h => h) (fun a s o s' _ ⟨v, L, e, q, f⟩ => ⟨v, L, e, ?_, f⟩)
      obtain ⟨u0, u1, kk0, e1, N1, K1, s_u0, s_u1, ne0, f0, f1, f2, f3, f4⟩ := q
      exact ⟨u0, u1, kk0, e1, N1, K1, s_u0, f0, f1, f2, by rw [hN, hV]; exact f4⟩
    · skip
      by_cases d2 : (((p0.toUInt32 >>> ((24 : Int32) &&& 31).toUInt32).toInt32) &&& (3 : Int32)) = (2 : Int32)
      · skip
        have hN : (sxN p0) = (2 : Int32) := by rw [sxN, if_neg d0, if_neg d1, if_pos d2] <;> rfl
        have hV : (sxV p0) = [(.int (nar .byte ((nar .char ((p0 &&& (255 : Int32)).toUInt32.toUInt16.toUInt32.toInt32)).toInt8.toInt32))), (.int (nar .byte ((nar .char ((((p0.toUInt32 >>> ((8 : Int32) &&& 31).toUInt32).toInt32) &&& (255 : Int32)).toUInt32.toUInt16.toUInt32.toInt32)).toInt8.toInt32)))] := by rw [sxV, if_neg d0, if_neg d1, if_pos d2] <;> rfl
        refine (rm16 l Z a0 hw ws v0 v1 v2 v3 v4 v5 v6 v7 v8 v9 cs_v hp p0 h0 n0 O0 d0 d1 d2).mono (fun _ _ h => h) (fun _ _ _ _ _ h => h) (fun a s o s' _ ⟨v, L, e, q, f⟩ => ⟨v, L, e, ?_, f⟩)
        obtain ⟨u0, u1, kk0, e1, N1, K1, s_u0, s_u1, ne0, f0, f1, f2, f3, f4⟩ := q
        exact ⟨u0, u1, kk0, e1, N1, K1, s_u0, f0, f1, f2, by rw [hN, hV]; exact f4⟩
      · skip
        have hN : (sxN p0) = (3 : Int32) := by rw [sxN, if_neg d0, if_neg d1, if_neg d2] <;> rfl
        have hV : (sxV p0) = [(.int (nar .byte ((nar .char ((p0 &&& (255 : Int32)).toUInt32.toUInt16.toUInt32.toInt32)).toInt8.toInt32))), (.int (nar .byte ((nar .char ((((p0.toUInt32 >>> ((8 : Int32) &&& 31).toUInt32).toInt32) &&& (255 : Int32)).toUInt32.toUInt16.toUInt32.toInt32)).toInt8.toInt32))), (.int (nar .byte ((nar .char ((((p0.toUInt32 >>> ((16 : Int32) &&& 31).toUInt32).toInt32) &&& (255 : Int32)).toUInt32.toUInt16.toUInt32.toInt32)).toInt8.toInt32)))] := by rw [sxV, if_neg d0, if_neg d1, if_neg d2] <;> rfl
        refine (rm22 l Z a0 hw ws v0 v1 v2 v3 v4 v5 v6 v7 v8 v9 cs_v hp p0 h0 n0 O0 d0 d1 d2).mono (fun _ _ h => h) (fun _ _ _ _ _ h => h) (fun a s o s' _ ⟨v, L, e, q, f⟩ => ⟨v, L, e, ?_, f⟩)
        obtain ⟨u0, u1, kk0, e1, N1, K1, s_u0, s_u1, ne0, f0, f1, f2, f3, f4⟩ := q
        exact ⟨u0, u1, kk0, e1, N1, K1, s_u0, f0, f1, f2, by rw [hN, hV]; exact f4⟩
theorem pd_6 : parseMethodDescriptor "(I)Ljava/lang/String;" = some ⟨[.int], some (.object "java/lang/String")⟩ := by decide +kernel
theorem d6_0 : decode method_6_code 0 = .ok (.iload_n 0, 1) := by decide +kernel
theorem d6_1 : decode method_6_code 1 = .ok (.ifCond .ne 7, 3) := by decide +kernel
theorem d6_4 : decode method_6_code 4 = .ok (.getstatic 40, 3) := by decide +kernel
theorem d6_7 : decode method_6_code 7 = .ok (.areturn, 1) := by decide +kernel
abbrev y7 : MethodName := (⟨"com/example/ratebook/ratebook/model/PricedItemEqualsPinLaw", "cat", "(I)Lcom/example/ratebook/ratebook/model/Category;"⟩ : MethodName)
theorem ef_6_0 (m : MethodId) (x0 : Int32) : entryFrame m #[(.int x0)] 1 = mkF m 0 #[.val (.int x0)] [] := by first | (simp [entryFrame, mkF, argsToLocals, Value.category]; done) | rfl
def Q23 (Z : State) (v0 : Addr) (v1 : Addr) (v2 : Addr) (v3 : Addr) (v4 : Addr) (v5 : Addr) (v6 : Addr) (v7 : Addr) (v8 : Addr) (v9 : Addr) (cs_v : Int32) (p0 : Int32) (h0 : Heap) (n0 : Nat) (v : Option Value) (h : Heap) (L : List Loc) : Prop := v = some (.ref v0) ∧ Fr n0 L ∧ h = h0
theorem rm23 (l : Launch) (Z : State) (a0 : Array Value) (hw : ∀ d ∈ tables_1, d.before a0 Z = true) (ws : List Jvm.Cond) (v0 v1 v2 v3 v4 v5 v6 v7 v8 v9 : Addr) (cs_v : Int32) (hp : Perm Z v0 v1 v2 v3 v4 v5 v6 v7 v8 v9 cs_v) (p0 : Int32) (h0 : Heap) (n0 : Nat) (O0 : Old Z n0 h0) (hc1 : p0 = (0 : Int32)) :
    MetFree l y7 (head1 (Jvm.Cond.code y7 method_6_code 1 (some (.object "com/example/ratebook/ratebook/model/Category")) :: ws) ({ frames := 0, cells := 0, slots := 0, locals := 0 } : Room)) (fun a U => a = #[(.int p0)] ∧ Z.Warmed39 U.vm ∧ U.heap = h0) (fun _ _ _ _ _ => True) (fun _ U o U' => ∃ v L, o = .returned v ∧ Q23 Z v0 v1 v2 v3 v4 v5 v6 v7 v8 v9 cs_v p0 h0 n0 v U'.heap L ∧ FrameEnd U o U' L ({ frames := 0, cells := 0, slots := 0, locals := 0 } : Room).cells ({ frames := 0, cells := 0, slots := 0, locals := 0 } : Room).slots) := by
  refine MetFree.of_bodySF (plainFor_of_name pn_2) hisR ?_
  intro p e s m args below meth c s₁ Bd hml0 hP hK
  obtain ⟨rfl, hZ, hh⟩ := hP
  have hx := Bd.exec
  have hby := Bd.bytes
  have hml : c.maxLocals = 1 := hml0
  have hown : s.vm.findClass "com/example/ratebook/ratebook/model/PricedItemEqualsPinLaw" = some m.cls := findClass_of_methodNamed Bd.named
  have hnm := (name_of_methodNamed Bd.named Bd.method).1
  have X0 : Stand p l e ({ frames := 0, cells := 0, slots := 0, locals := 0 } : Room) s m #[(.int p0)] below meth c s₁ [] 0 0 := Stand.of_body Bd
  have e0 : s₁.heap = h0 := by rw [← hh, Bd.state]; rfl
  have N0 := Fr.nil n0
  have hp' := hp
  obtain ⟨S_v0, _⟩ := hp'
  obtain ⟨T1, X1, e1, st1⟩ := getS2 X0 hx hZ hown (host := "") (Or.inl (wq hw 36 rfl)) Via.refl e0 (S_v0.ext O0.2) (g := (mkF m 4 #[.val (.int p0)] [])) rfl (hb hby d6_4)
  obtain ⟨fs, hr, hrun, hended, hW, hsame⟩ := X1.leave (v := some (.ref v0)) (fun h => by rw [Bd.returns] at h; cases h)
  refine ⟨_, _, castTop (ef_6_0 m p0) ?_, hrun, hended, _, _, rfl, ?_, ⟨_, rfl⟩, hW, hsame.mono (by decide) (by decide)⟩
  · show Sp p e below s₁ (mkF m 0 #[.val (.int p0)] []) _
    refine XS.iloadN X0.here hx rfl (hb hby d6_0) rfl ?_
    refine XS.ifNo X0.here hx rfl (hb hby d6_1) rfl ((if0 _ _).trans (teq hc1).2) ?_
    show Sp p e below s₁ (mkF m 4 #[.val (.int p0)] []) _
    refine st1 _ ?_
    show Sp p e below T1 (mkF m 7 #[.val (.int p0)] [(.ref v0)]) _
    jvm_step X1.here [X1.here.top, hx, (hb hby d6_7), X1.method', Bd.returns, Value.isRef, FieldType.isReference]
    first | (intro acts; rw [hr _ acts rfl rfl rfl]) | rw [hr _ _ rfl rfl rfl]
    exact Steps.refl _
  · show Q23 Z v0 v1 v2 v3 v4 v5 v6 v7 v8 v9 cs_v p0 h0 n0 _ T1.heap _
    rw [e1]
    exact ⟨rfl, N0, rfl⟩
theorem d6_8 : decode method_6_code 8 = .ok (.iload_n 0, 1) := by decide +kernel
theorem d6_9 : decode method_6_code 9 = .ok (.iconst 1, 1) := by decide +kernel
theorem d6_10 : decode method_6_code 10 = .ok (.if_icmp .ne 7, 3) := by decide +kernel
theorem d6_13 : decode method_6_code 13 = .ok (.getstatic 46, 3) := by decide +kernel
theorem d6_16 : decode method_6_code 16 = .ok (.areturn, 1) := by decide +kernel
def Q24 (Z : State) (v0 : Addr) (v1 : Addr) (v2 : Addr) (v3 : Addr) (v4 : Addr) (v5 : Addr) (v6 : Addr) (v7 : Addr) (v8 : Addr) (v9 : Addr) (cs_v : Int32) (p0 : Int32) (h0 : Heap) (n0 : Nat) (v : Option Value) (h : Heap) (L : List Loc) : Prop := v = some (.ref v9) ∧ Fr n0 L ∧ h = h0
theorem rm24 (l : Launch) (Z : State) (a0 : Array Value) (hw : ∀ d ∈ tables_1, d.before a0 Z = true) (ws : List Jvm.Cond) (v0 v1 v2 v3 v4 v5 v6 v7 v8 v9 : Addr) (cs_v : Int32) (hp : Perm Z v0 v1 v2 v3 v4 v5 v6 v7 v8 v9 cs_v) (p0 : Int32) (h0 : Heap) (n0 : Nat) (O0 : Old Z n0 h0) (hc1 : ¬ (p0 = (0 : Int32))) (hc2 : p0 = (1 : Int32)) :
    MetFree l y7 (head1 (Jvm.Cond.code y7 method_6_code 1 (some (.object "com/example/ratebook/ratebook/model/Category")) :: ws) ({ frames := 0, cells := 0, slots := 0, locals := 0 } : Room)) (fun a U => a = #[(.int p0)] ∧ Z.Warmed39 U.vm ∧ U.heap = h0) (fun _ _ _ _ _ => True) (fun _ U o U' => ∃ v L, o = .returned v ∧ Q24 Z v0 v1 v2 v3 v4 v5 v6 v7 v8 v9 cs_v p0 h0 n0 v U'.heap L ∧ FrameEnd U o U' L ({ frames := 0, cells := 0, slots := 0, locals := 0 } : Room).cells ({ frames := 0, cells := 0, slots := 0, locals := 0 } : Room).slots) := by
  refine MetFree.of_bodySF (plainFor_of_name pn_2) hisR ?_
  intro p e s m args below meth c s₁ Bd hml0 hP hK
  obtain ⟨rfl, hZ, hh⟩ := hP
  have hx := Bd.exec
  have hby := Bd.bytes
  have hml : c.maxLocals = 1 := hml0
  have hown : s.vm.findClass "com/example/ratebook/ratebook/model/PricedItemEqualsPinLaw" = some m.cls := findClass_of_methodNamed Bd.named
  have hnm := (name_of_methodNamed Bd.named Bd.method).1
  have X0 : Stand p l e ({ frames := 0, cells := 0, slots := 0, locals := 0 } : Room) s m #[(.int p0)] below meth c s₁ [] 0 0 := Stand.of_body Bd
  have e0 : s₁.heap = h0 := by rw [← hh, Bd.state]; rfl
  have N0 := Fr.nil n0
  have hp' := hp
  obtain ⟨_, _, _, _, _, _, _, _, _, _, _, _, _, _, _, _, _, _, S_v9, _⟩ := hp'
  obtain ⟨T1, X1, e1, st1⟩ := getS2 X0 hx hZ hown (host := "") (Or.inl (wq hw 107 rfl)) Via.refl e0 (S_v9.ext O0.2) (g := (mkF m 13 #[.val (.int p0)] [])) rfl (hb hby d6_13)
  obtain ⟨fs, hr, hrun, hended, hW, hsame⟩ := X1.leave (v := some (.ref v9)) (fun h => by rw [Bd.returns] at h; cases h)
  refine ⟨_, _, castTop (ef_6_0 m p0) ?_, hrun, hended, _, _, rfl, ?_, ⟨_, rfl⟩, hW, hsame.mono (by decide) (by decide)⟩
  · show Sp p e below s₁ (mkF m 0 #[.val (.int p0)] []) _
    refine XS.iloadN X0.here hx rfl (hb hby d6_0) rfl ?_
    refine XS.ifYes X0.here hx rfl (pc0 := 1) (pc' := 8) rfl (hb hby d6_1) rfl ((if0 _ _).trans (feq hc1).2) (by decide) (by decide) ?_
    refine XS.iloadN X0.here hx rfl (hb hby d6_8) rfl ?_
    refine XS.iconst X0.here hx rfl (hb hby d6_9) ?_
    refine XS.icmpNo X0.here hx rfl (hb hby d6_10) rfl (teq hc2).2 ?_
    show Sp p e below s₁ (mkF m 13 #[.val (.int p0)] []) _
    refine st1 _ ?_
    show Sp p e below T1 (mkF m 16 #[.val (.int p0)] [(.ref v9)]) _
    jvm_step X1.here [X1.here.top, hx, (hb hby d6_16), X1.method', Bd.returns, Value.isRef, FieldType.isReference]
    first | (intro acts; rw [hr _ acts rfl rfl rfl]) | rw [hr _ _ rfl rfl rfl]
    exact Steps.refl _
  · show Q24 Z v0 v1 v2 v3 v4 v5 v6 v7 v8 v9 cs_v p0 h0 n0 _ T1.heap _
    rw [e1]
    exact ⟨rfl, N0, rfl⟩
theorem d6_17 : decode method_6_code 17 = .ok (.iload_n 0, 1) := by decide +kernel
theorem d6_18 : decode method_6_code 18 = .ok (.iconst 2, 1) := by decide +kernel
theorem d6_19 : decode method_6_code 19 = .ok (.if_icmp .ne 7, 3) := by decide +kernel
theorem d6_22 : decode method_6_code 22 = .ok (.getstatic 49, 3) := by decide +kernel
theorem d6_25 : decode method_6_code 25 = .ok (.areturn, 1) := by decide +kernel
def Q25 (Z : State) (v0 : Addr) (v1 : Addr) (v2 : Addr) (v3 : Addr) (v4 : Addr) (v5 : Addr) (v6 : Addr) (v7 : Addr) (v8 : Addr) (v9 : Addr) (cs_v : Int32) (p0 : Int32) (h0 : Heap) (n0 : Nat) (v : Option Value) (h : Heap) (L : List Loc) : Prop := v = some (.ref v2) ∧ Fr n0 L ∧ h = h0
theorem rm25 (l : Launch) (Z : State) (a0 : Array Value) (hw : ∀ d ∈ tables_1, d.before a0 Z = true) (ws : List Jvm.Cond) (v0 v1 v2 v3 v4 v5 v6 v7 v8 v9 : Addr) (cs_v : Int32) (hp : Perm Z v0 v1 v2 v3 v4 v5 v6 v7 v8 v9 cs_v) (p0 : Int32) (h0 : Heap) (n0 : Nat) (O0 : Old Z n0 h0) (hc1 : ¬ (p0 = (0 : Int32))) (hc2 : ¬ (p0 = (1 : Int32))) (hc3 : p0 = (2 : Int32)) :
    MetFree l y7 (head1 (Jvm.Cond.code y7 method_6_code 1 (some (.object "com/example/ratebook/ratebook/model/Category")) :: ws) ({ frames := 0, cells := 0, slots := 0, locals := 0 } : Room)) (fun a U => a = #[(.int p0)] ∧ Z.Warmed39 U.vm ∧ U.heap = h0) (fun _ _ _ _ _ => True) (fun _ U o U' => ∃ v L, o = .returned v ∧ Q25 Z v0 v1 v2 v3 v4 v5 v6 v7 v8 v9 cs_v p0 h0 n0 v U'.heap L ∧ FrameEnd U o U' L ({ frames := 0, cells := 0, slots := 0, locals := 0 } : Room).cells ({ frames := 0, cells := 0, slots := 0, locals := 0 } : Room).slots) := by
  refine MetFree.of_bodySF (plainFor_of_name pn_2) hisR ?_
  intro p e s m args below meth c s₁ Bd hml0 hP hK
  obtain ⟨rfl, hZ, hh⟩ := hP
  have hx := Bd.exec
  have hby := Bd.bytes
  have hml : c.maxLocals = 1 := hml0
  have hown : s.vm.findClass "com/example/ratebook/ratebook/model/PricedItemEqualsPinLaw" = some m.cls := findClass_of_methodNamed Bd.named
  have hnm := (name_of_methodNamed Bd.named Bd.method).1
  have X0 : Stand p l e ({ frames := 0, cells := 0, slots := 0, locals := 0 } : Room) s m #[(.int p0)] below meth c s₁ [] 0 0 := Stand.of_body Bd
  have e0 : s₁.heap = h0 := by rw [← hh, Bd.state]; rfl
  have N0 := Fr.nil n0
  have hp' := hp
  obtain ⟨_, _, _, _, S_v2, _⟩ := hp'
  obtain ⟨T1, X1, e1, st1⟩ := getS2 X0 hx hZ hown (host := "") (Or.inl (wq hw 81 rfl)) Via.refl e0 (S_v2.ext O0.2) (g := (mkF m 22 #[.val (.int p0)] [])) rfl (hb hby d6_22)
  obtain ⟨fs, hr, hrun, hended, hW, hsame⟩ := X1.leave (v := some (.ref v2)) (fun h => by rw [Bd.returns] at h; cases h)
  refine ⟨_, _, castTop (ef_6_0 m p0) ?_, hrun, hended, _, _, rfl, ?_, ⟨_, rfl⟩, hW, hsame.mono (by decide) (by decide)⟩
  · show Sp p e below s₁ (mkF m 0 #[.val (.int p0)] []) _
    refine XS.iloadN X0.here hx rfl (hb hby d6_0) rfl ?_
    refine XS.ifYes X0.here hx rfl (pc0 := 1) (pc' := 8) rfl (hb hby d6_1) rfl ((if0 _ _).trans (feq hc1).2) (by decide) (by decide) ?_
    refine XS.iloadN X0.here hx rfl (hb hby d6_8) rfl ?_
    refine XS.iconst X0.here hx rfl (hb hby d6_9) ?_
    refine XS.icmpYes X0.here hx rfl (pc0 := 10) (pc' := 17) rfl (hb hby d6_10) rfl (feq hc2).2 (by decide) (by decide) ?_
    refine XS.iloadN X0.here hx rfl (hb hby d6_17) rfl ?_
    refine XS.iconst X0.here hx rfl (hb hby d6_18) ?_
    show Sp p e below s₁ (mkF m 19 #[.val (.int p0)] [(.int (2 : Int32)), (.int p0)]) _
    refine XS.icmpNo X0.here hx rfl (hb hby d6_19) rfl (teq hc3).2 ?_
    show Sp p e below s₁ (mkF m 22 #[.val (.int p0)] []) _
    refine st1 _ ?_
    show Sp p e below T1 (mkF m 25 #[.val (.int p0)] [(.ref v2)]) _
    jvm_step X1.here [X1.here.top, hx, (hb hby d6_25), X1.method', Bd.returns, Value.isRef, FieldType.isReference]
    first | (intro acts; rw [hr _ acts rfl rfl rfl]) | rw [hr _ _ rfl rfl rfl]
    exact Steps.refl _
  · show Q25 Z v0 v1 v2 v3 v4 v5 v6 v7 v8 v9 cs_v p0 h0 n0 _ T1.heap _
    rw [e1]
    exact ⟨rfl, N0, rfl⟩
theorem d6_26 : decode method_6_code 26 = .ok (.iload_n 0, 1) := by decide +kernel
theorem d6_27 : decode method_6_code 27 = .ok (.iconst 3, 1) := by decide +kernel
theorem d6_28 : decode method_6_code 28 = .ok (.if_icmp .ne 7, 3) := by decide +kernel
theorem d6_31 : decode method_6_code 31 = .ok (.getstatic 52, 3) := by decide +kernel
theorem d6_34 : decode method_6_code 34 = .ok (.areturn, 1) := by decide +kernel
def Q26 (Z : State) (v0 : Addr) (v1 : Addr) (v2 : Addr) (v3 : Addr) (v4 : Addr) (v5 : Addr) (v6 : Addr) (v7 : Addr) (v8 : Addr) (v9 : Addr) (cs_v : Int32) (p0 : Int32) (h0 : Heap) (n0 : Nat) (v : Option Value) (h : Heap) (L : List Loc) : Prop := v = some (.ref v1) ∧ Fr n0 L ∧ h = h0
theorem rm26 (l : Launch) (Z : State) (a0 : Array Value) (hw : ∀ d ∈ tables_1, d.before a0 Z = true) (ws : List Jvm.Cond) (v0 v1 v2 v3 v4 v5 v6 v7 v8 v9 : Addr) (cs_v : Int32) (hp : Perm Z v0 v1 v2 v3 v4 v5 v6 v7 v8 v9 cs_v) (p0 : Int32) (h0 : Heap) (n0 : Nat) (O0 : Old Z n0 h0) (hc1 : ¬ (p0 = (0 : Int32))) (hc2 : ¬ (p0 = (1 : Int32))) (hc3 : ¬ (p0 = (2 : Int32))) (hc4 : p0 = (3 : Int32)) :
    MetFree l y7 (head1 (Jvm.Cond.code y7 method_6_code 1 (some (.object "com/example/ratebook/ratebook/model/Category")) :: ws) ({ frames := 0, cells := 0, slots := 0, locals := 0 } : Room)) (fun a U => a = #[(.int p0)] ∧ Z.Warmed39 U.vm ∧ U.heap = h0) (fun _ _ _ _ _ => True) (fun _ U o U' => ∃ v L, o = .returned v ∧ Q26 Z v0 v1 v2 v3 v4 v5 v6 v7 v8 v9 cs_v p0 h0 n0 v U'.heap L ∧ FrameEnd U o U' L ({ frames := 0, cells := 0, slots := 0, locals := 0 } : Room).cells ({ frames := 0, cells := 0, slots := 0, locals := 0 } : Room).slots) := by
  refine MetFree.of_bodySF (plainFor_of_name pn_2) hisR ?_
  intro p e s m args below meth c s₁ Bd hml0 hP hK
  obtain ⟨rfl, hZ, hh⟩ := hP
  have hx := Bd.exec
  have hby := Bd.bytes
  have hml : c.maxLocals = 1 := hml0
  have hown : s.vm.findClass "com/example/ratebook/ratebook/model/PricedItemEqualsPinLaw" = some m.cls := findClass_of_methodNamed Bd.named
  have hnm := (name_of_methodNamed Bd.named Bd.method).1
  have X0 : Stand p l e ({ frames := 0, cells := 0, slots := 0, locals := 0 } : Room) s m #[(.int p0)] below meth c s₁ [] 0 0 := Stand.of_body Bd
  have e0 : s₁.heap = h0 := by rw [← hh, Bd.state]; rfl
  have N0 := Fr.nil n0
  have hp' := hp
  obtain ⟨_, _, S_v1, _⟩ := hp'
  obtain ⟨T1, X1, e1, st1⟩ := getS2 X0 hx hZ hown (host := "") (Or.inl (wq hw 58 rfl)) Via.refl e0 (S_v1.ext O0.2) (g := (mkF m 31 #[.val (.int p0)] [])) rfl (hb hby d6_31)
  obtain ⟨fs, hr, hrun, hended, hW, hsame⟩ := X1.leave (v := some (.ref v1)) (fun h => by rw [Bd.returns] at h; cases h)
  refine ⟨_, _, castTop (ef_6_0 m p0) ?_, hrun, hended, _, _, rfl, ?_, ⟨_, rfl⟩, hW, hsame.mono (by decide) (by decide)⟩
  · show Sp p e below s₁ (mkF m 0 #[.val (.int p0)] []) _
    refine XS.iloadN X0.here hx rfl (hb hby d6_0) rfl ?_
    refine XS.ifYes X0.here hx rfl (pc0 := 1) (pc' := 8) rfl (hb hby d6_1) rfl ((if0 _ _).trans (feq hc1).2) (by decide) (by decide) ?_
    refine XS.iloadN X0.here hx rfl (hb hby d6_8) rfl ?_
    refine XS.iconst X0.here hx rfl (hb hby d6_9) ?_
    refine XS.icmpYes X0.here hx rfl (pc0 := 10) (pc' := 17) rfl (hb hby d6_10) rfl (feq hc2).2 (by decide) (by decide) ?_
    refine XS.iloadN X0.here hx rfl (hb hby d6_17) rfl ?_
    refine XS.iconst X0.here hx rfl (hb hby d6_18) ?_
    show Sp p e below s₁ (mkF m 19 #[.val (.int p0)] [(.int (2 : Int32)), (.int p0)]) _
    refine XS.icmpYes X0.here hx rfl (pc0 := 19) (pc' := 26) rfl (hb hby d6_19) rfl (feq hc3).2 (by decide) (by decide) ?_
    refine XS.iloadN X0.here hx rfl (hb hby d6_26) rfl ?_
    refine XS.iconst X0.here hx rfl (hb hby d6_27) ?_
    refine XS.icmpNo X0.here hx rfl (hb hby d6_28) rfl (teq hc4).2 ?_
    show Sp p e below s₁ (mkF m 31 #[.val (.int p0)] []) _
    refine st1 _ ?_
    show Sp p e below T1 (mkF m 34 #[.val (.int p0)] [(.ref v1)]) _
    jvm_step X1.here [X1.here.top, hx, (hb hby d6_34), X1.method', Bd.returns, Value.isRef, FieldType.isReference]
    first | (intro acts; rw [hr _ acts rfl rfl rfl]) | rw [hr _ _ rfl rfl rfl]
    exact Steps.refl _
  · show Q26 Z v0 v1 v2 v3 v4 v5 v6 v7 v8 v9 cs_v p0 h0 n0 _ T1.heap _
    rw [e1]
    exact ⟨rfl, N0, rfl⟩
theorem d6_35 : decode method_6_code 35 = .ok (.iload_n 0, 1) := by decide +kernel
theorem d6_36 : decode method_6_code 36 = .ok (.iconst 4, 1) := by decide +kernel
theorem d6_37 : decode method_6_code 37 = .ok (.if_icmp .ne 7, 3) := by decide +kernel
theorem d6_40 : decode method_6_code 40 = .ok (.getstatic 55, 3) := by decide +kernel
theorem d6_43 : decode method_6_code 43 = .ok (.areturn, 1) := by decide +kernel
def Q27 (Z : State) (v0 : Addr) (v1 : Addr) (v2 : Addr) (v3 : Addr) (v4 : Addr) (v5 : Addr) (v6 : Addr) (v7 : Addr) (v8 : Addr) (v9 : Addr) (cs_v : Int32) (p0 : Int32) (h0 : Heap) (n0 : Nat) (v : Option Value) (h : Heap) (L : List Loc) : Prop := v = some (.ref v8) ∧ Fr n0 L ∧ h = h0
theorem rm27 (l : Launch) (Z : State) (a0 : Array Value) (hw : ∀ d ∈ tables_1, d.before a0 Z = true) (ws : List Jvm.Cond) (v0 v1 v2 v3 v4 v5 v6 v7 v8 v9 : Addr) (cs_v : Int32) (hp : Perm Z v0 v1 v2 v3 v4 v5 v6 v7 v8 v9 cs_v) (p0 : Int32) (h0 : Heap) (n0 : Nat) (O0 : Old Z n0 h0) (hc1 : ¬ (p0 = (0 : Int32))) (hc2 : ¬ (p0 = (1 : Int32))) (hc3 : ¬ (p0 = (2 : Int32))) (hc4 : ¬ (p0 = (3 : Int32))) (hc5 : p0 = (4 : Int32)) :
    MetFree l y7 (head1 (Jvm.Cond.code y7 method_6_code 1 (some (.object "com/example/ratebook/ratebook/model/Category")) :: ws) ({ frames := 0, cells := 0, slots := 0, locals := 0 } : Room)) (fun a U => a = #[(.int p0)] ∧ Z.Warmed39 U.vm ∧ U.heap = h0) (fun _ _ _ _ _ => True) (fun _ U o U' => ∃ v L, o = .returned v ∧ Q27 Z v0 v1 v2 v3 v4 v5 v6 v7 v8 v9 cs_v p0 h0 n0 v U'.heap L ∧ FrameEnd U o U' L ({ frames := 0, cells := 0, slots := 0, locals := 0 } : Room).cells ({ frames := 0, cells := 0, slots := 0, locals := 0 } : Room).slots) := by
  refine MetFree.of_bodySF (plainFor_of_name pn_2) hisR ?_
  intro p e s m args below meth c s₁ Bd hml0 hP hK
  obtain ⟨rfl, hZ, hh⟩ := hP
  have hx := Bd.exec
  have hby := Bd.bytes
  have hml : c.maxLocals = 1 := hml0
  have hown : s.vm.findClass "com/example/ratebook/ratebook/model/PricedItemEqualsPinLaw" = some m.cls := findClass_of_methodNamed Bd.named
  have hnm := (name_of_methodNamed Bd.named Bd.method).1
  have X0 : Stand p l e ({ frames := 0, cells := 0, slots := 0, locals := 0 } : Room) s m #[(.int p0)] below meth c s₁ [] 0 0 := Stand.of_body Bd
  have e0 : s₁.heap = h0 := by rw [← hh, Bd.state]; rfl
  have N0 := Fr.nil n0
  have hp' := hp
  obtain ⟨_, _, _, _, _, _, _, _, _, _, _, _, _, _, _, _, S_v8, _⟩ := hp'
  obtain ⟨T1, X1, e1, st1⟩ := getS2 X0 hx hZ hown (host := "") (Or.inl (wq hw 105 rfl)) Via.refl e0 (S_v8.ext O0.2) (g := (mkF m 40 #[.val (.int p0)] [])) rfl (hb hby d6_40)
  obtain ⟨fs, hr, hrun, hended, hW, hsame⟩ := X1.leave (v := some (.ref v8)) (fun h => by rw [Bd.returns] at h; cases h)
  refine ⟨_, _, castTop (ef_6_0 m p0) ?_, hrun, hended, _, _, rfl, ?_, ⟨_, rfl⟩, hW, hsame.mono (by decide) (by decide)⟩
  · show Sp p e below s₁ (mkF m 0 #[.val (.int p0)] []) _
    refine XS.iloadN X0.here hx rfl (hb hby d6_0) rfl ?_
    refine XS.ifYes X0.here hx rfl (pc0 := 1) (pc' := 8) rfl (hb hby d6_1) rfl ((if0 _ _).trans (feq hc1).2) (by decide) (by decide) ?_
    refine XS.iloadN X0.here hx rfl (hb hby d6_8) rfl ?_
    refine XS.iconst X0.here hx rfl (hb hby d6_9) ?_
    refine XS.icmpYes X0.here hx rfl (pc0 := 10) (pc' := 17) rfl (hb hby d6_10) rfl (feq hc2).2 (by decide) (by decide) ?_
    refine XS.iloadN X0.here hx rfl (hb hby d6_17) rfl ?_
    refine XS.iconst X0.here hx rfl (hb hby d6_18) ?_
    show Sp p e below s₁ (mkF m 19 #[.val (.int p0)] [(.int (2 : Int32)), (.int p0)]) _
    refine XS.icmpYes X0.here hx rfl (pc0 := 19) (pc' := 26) rfl (hb hby d6_19) rfl (feq hc3).2 (by decide) (by decide) ?_
    refine XS.iloadN X0.here hx rfl (hb hby d6_26) rfl ?_
    refine XS.iconst X0.here hx rfl (hb hby d6_27) ?_
    refine XS.icmpYes X0.here hx rfl (pc0 := 28) (pc' := 35) rfl (hb hby d6_28) rfl (feq hc4).2 (by decide) (by decide) ?_
    refine XS.iloadN X0.here hx rfl (hb hby d6_35) rfl ?_
    refine XS.iconst X0.here hx rfl (hb hby d6_36) ?_
    refine XS.icmpNo X0.here hx rfl (hb hby d6_37) rfl (teq hc5).2 ?_
    show Sp p e below s₁ (mkF m 40 #[.val (.int p0)] []) _
    refine st1 _ ?_
    show Sp p e below T1 (mkF m 43 #[.val (.int p0)] [(.ref v8)]) _
    jvm_step X1.here [X1.here.top, hx, (hb hby d6_43), X1.method', Bd.returns, Value.isRef, FieldType.isReference]
    first | (intro acts; rw [hr _ acts rfl rfl rfl]) | rw [hr _ _ rfl rfl rfl]
    exact Steps.refl _
  · show Q27 Z v0 v1 v2 v3 v4 v5 v6 v7 v8 v9 cs_v p0 h0 n0 _ T1.heap _
    rw [e1]
    exact ⟨rfl, N0, rfl⟩
theorem d6_44 : decode method_6_code 44 = .ok (.iload_n 0, 1) := by decide +kernel
theorem d6_45 : decode method_6_code 45 = .ok (.iconst 5, 1) := by decide +kernel
theorem d6_46 : decode method_6_code 46 = .ok (.if_icmp .ne 7, 3) := by decide +kernel
theorem d6_49 : decode method_6_code 49 = .ok (.getstatic 58, 3) := by decide +kernel
theorem d6_52 : decode method_6_code 52 = .ok (.areturn, 1) := by decide +kernel
def Q28 (Z : State) (v0 : Addr) (v1 : Addr) (v2 : Addr) (v3 : Addr) (v4 : Addr) (v5 : Addr) (v6 : Addr) (v7 : Addr) (v8 : Addr) (v9 : Addr) (cs_v : Int32) (p0 : Int32) (h0 : Heap) (n0 : Nat) (v : Option Value) (h : Heap) (L : List Loc) : Prop := v = some (.ref v3) ∧ Fr n0 L ∧ h = h0
theorem rm28 (l : Launch) (Z : State) (a0 : Array Value) (hw : ∀ d ∈ tables_1, d.before a0 Z = true) (ws : List Jvm.Cond) (v0 v1 v2 v3 v4 v5 v6 v7 v8 v9 : Addr) (cs_v : Int32) (hp : Perm Z v0 v1 v2 v3 v4 v5 v6 v7 v8 v9 cs_v) (p0 : Int32) (h0 : Heap) (n0 : Nat) (O0 : Old Z n0 h0) (hc1 : ¬ (p0 = (0 : Int32))) (hc2 : ¬ (p0 = (1 : Int32))) (hc3 : ¬ (p0 = (2 : Int32))) (hc4 : ¬ (p0 = (3 : Int32))) (hc5 : ¬ (p0 = (4 : Int32))) (hc6 : p0 = (5 : Int32)) :
    MetFree l y7 (head1 (Jvm.Cond.code y7 method_6_code 1 (some (.object "com/example/ratebook/ratebook/model/Category")) :: ws) ({ frames := 0, cells := 0, slots := 0, locals := 0 } : Room)) (fun a U => a = #[(.int p0)] ∧ Z.Warmed39 U.vm ∧ U.heap = h0) (fun _ _ _ _ _ => True) (fun _ U o U' => ∃ v L, o = .returned v ∧ Q28 Z v0 v1 v2 v3 v4 v5 v6 v7 v8 v9 cs_v p0 h0 n0 v U'.heap L ∧ FrameEnd U o U' L ({ frames := 0, cells := 0, slots := 0, locals := 0 } : Room).cells ({ frames := 0, cells := 0, slots := 0, locals := 0 } : Room).slots) := by
  refine MetFree.of_bodySF (plainFor_of_name pn_2) hisR ?_
  intro p e s m args below meth c s₁ Bd hml0 hP hK
  obtain ⟨rfl, hZ, hh⟩ := hP
  have hx := Bd.exec
  have hby := Bd.bytes
  have hml : c.maxLocals = 1 := hml0
  have hown : s.vm.findClass "com/example/ratebook/ratebook/model/PricedItemEqualsPinLaw" = some m.cls := findClass_of_methodNamed Bd.named
  have hnm := (name_of_methodNamed Bd.named Bd.method).1
  have X0 : Stand p l e ({ frames := 0, cells := 0, slots := 0, locals := 0 } : Room) s m #[(.int p0)] below meth c s₁ [] 0 0 := Stand.of_body Bd
  have e0 : s₁.heap = h0 := by rw [← hh, Bd.state]; rfl
  have N0 := Fr.nil n0
  have hp' := hp
  obtain ⟨_, _, _, _, _, _, S_v3, _⟩ := hp'
  obtain ⟨T1, X1, e1, st1⟩ := getS2 X0 hx hZ hown (host := "") (Or.inl (wq hw 93 rfl)) Via.refl e0 (S_v3.ext O0.2) (g := (mkF m 49 #[.val (.int p0)] [])) rfl (hb hby d6_49)
  obtain ⟨fs, hr, hrun, hended, hW, hsame⟩ := X1.leave (v := some (.ref v3)) (fun h => by rw [Bd.returns] at h; cases h)
  refine ⟨_, _, castTop (ef_6_0 m p0) ?_, hrun, hended, _, _, rfl, ?_, ⟨_, rfl⟩, hW, hsame.mono (by decide) (by decide)⟩
  · show Sp p e below s₁ (mkF m 0 #[.val (.int p0)] []) _
    refine XS.iloadN X0.here hx rfl (hb hby d6_0) rfl ?_
    refine XS.ifYes X0.here hx rfl (pc0 := 1) (pc' := 8) rfl (hb hby d6_1) rfl ((if0 _ _).trans (feq hc1).2) (by decide) (by decide) ?_
    refine XS.iloadN X0.here hx rfl (hb hby d6_8) rfl ?_
    refine XS.iconst X0.here hx rfl (hb hby d6_9) ?_
    refine XS.icmpYes X0.here hx rfl (pc0 := 10) (pc' := 17) rfl (hb hby d6_10) rfl (feq hc2).2 (by decide) (by decide) ?_
    refine XS.iloadN X0.here hx rfl (hb hby d6_17) rfl ?_
    refine XS.iconst X0.here hx rfl (hb hby d6_18) ?_
    show Sp p e below s₁ (mkF m 19 #[.val (.int p0)] [(.int (2 : Int32)), (.int p0)]) _
    refine XS.icmpYes X0.here hx rfl (pc0 := 19) (pc' := 26) rfl (hb hby d6_19) rfl (feq hc3).2 (by decide) (by decide) ?_
    refine XS.iloadN X0.here hx rfl (hb hby d6_26) rfl ?_
    refine XS.iconst X0.here hx rfl (hb hby d6_27) ?_
    refine XS.icmpYes X0.here hx rfl (pc0 := 28) (pc' := 35) rfl (hb hby d6_28) rfl (feq hc4).2 (by decide) (by decide) ?_
    refine XS.iloadN X0.here hx rfl (hb hby d6_35) rfl ?_
    refine XS.iconst X0.here hx rfl (hb hby d6_36) ?_
    refine XS.icmpYes X0.here hx rfl (pc0 := 37) (pc' := 44) rfl (hb hby d6_37) rfl (feq hc5).2 (by decide) (by decide) ?_
    show Sp p e below s₁ (mkF m 44 #[.val (.int p0)] []) _
    refine XS.iloadN X0.here hx rfl (hb hby d6_44) rfl ?_
    refine XS.iconst X0.here hx rfl (hb hby d6_45) ?_
    refine XS.icmpNo X0.here hx rfl (hb hby d6_46) rfl (teq hc6).2 ?_
    show Sp p e below s₁ (mkF m 49 #[.val (.int p0)] []) _
    refine st1 _ ?_
    show Sp p e below T1 (mkF m 52 #[.val (.int p0)] [(.ref v3)]) _
    jvm_step X1.here [X1.here.top, hx, (hb hby d6_52), X1.method', Bd.returns, Value.isRef, FieldType.isReference]
    first | (intro acts; rw [hr _ acts rfl rfl rfl]) | rw [hr _ _ rfl rfl rfl]
    exact Steps.refl _
  · show Q28 Z v0 v1 v2 v3 v4 v5 v6 v7 v8 v9 cs_v p0 h0 n0 _ T1.heap _
    rw [e1]
    exact ⟨rfl, N0, rfl⟩
theorem d6_53 : decode method_6_code 53 = .ok (.iload_n 0, 1) := by decide +kernel
theorem d6_54 : decode method_6_code 54 = .ok (.bipush 6, 2) := by decide +kernel
theorem d6_56 : decode method_6_code 56 = .ok (.if_icmp .ne 7, 3) := by decide +kernel
theorem d6_59 : decode method_6_code 59 = .ok (.getstatic 61, 3) := by decide +kernel
theorem d6_62 : decode method_6_code 62 = .ok (.areturn, 1) := by decide +kernel
def Q29 (Z : State) (v0 : Addr) (v1 : Addr) (v2 : Addr) (v3 : Addr) (v4 : Addr) (v5 : Addr) (v6 : Addr) (v7 : Addr) (v8 : Addr) (v9 : Addr) (cs_v : Int32) (p0 : Int32) (h0 : Heap) (n0 : Nat) (v : Option Value) (h : Heap) (L : List Loc) : Prop := v = some (.ref v5) ∧ Fr n0 L ∧ h = h0
theorem rm29 (l : Launch) (Z : State) (a0 : Array Value) (hw : ∀ d ∈ tables_1, d.before a0 Z = true) (ws : List Jvm.Cond) (v0 v1 v2 v3 v4 v5 v6 v7 v8 v9 : Addr) (cs_v : Int32) (hp : Perm Z v0 v1 v2 v3 v4 v5 v6 v7 v8 v9 cs_v) (p0 : Int32) (h0 : Heap) (n0 : Nat) (O0 : Old Z n0 h0) (hc1 : ¬ (p0 = (0 : Int32))) (hc2 : ¬ (p0 = (1 : Int32))) (hc3 : ¬ (p0 = (2 : Int32))) (hc4 : ¬ (p0 = (3 : Int32))) (hc5 : ¬ (p0 = (4 : Int32))) (hc6 : ¬ (p0 = (5 : Int32))) (hc7 : p0 = (6 : Int32)) :
    MetFree l y7 (head1 (Jvm.Cond.code y7 method_6_code 1 (some (.object "com/example/ratebook/ratebook/model/Category")) :: ws) ({ frames := 0, cells := 0, slots := 0, locals := 0 } : Room)) (fun a U => a = #[(.int p0)] ∧ Z.Warmed39 U.vm ∧ U.heap = h0) (fun _ _ _ _ _ => True) (fun _ U o U' => ∃ v L, o = .returned v ∧ Q29 Z v0 v1 v2 v3 v4 v5 v6 v7 v8 v9 cs_v p0 h0 n0 v U'.heap L ∧ FrameEnd U o U' L ({ frames := 0, cells := 0, slots := 0, locals := 0 } : Room).cells ({ frames := 0, cells := 0, slots := 0, locals := 0 } : Room).slots) := by
  refine MetFree.of_bodySF (plainFor_of_name pn_2) hisR ?_
  intro p e s m args below meth c s₁ Bd hml0 hP hK
  obtain ⟨rfl, hZ, hh⟩ := hP
  have hx := Bd.exec
  have hby := Bd.bytes
  have hml : c.maxLocals = 1 := hml0
  have hown : s.vm.findClass "com/example/ratebook/ratebook/model/PricedItemEqualsPinLaw" = some m.cls := findClass_of_methodNamed Bd.named
  have hnm := (name_of_methodNamed Bd.named Bd.method).1
  have X0 : Stand p l e ({ frames := 0, cells := 0, slots := 0, locals := 0 } : Room) s m #[(.int p0)] below meth c s₁ [] 0 0 := Stand.of_body Bd
  have e0 : s₁.heap = h0 := by rw [← hh, Bd.state]; rfl
  have N0 := Fr.nil n0
  have hp' := hp
  obtain ⟨_, _, _, _, _, _, _, _, _, _, S_v5, _⟩ := hp'
  obtain ⟨T1, X1, e1, st1⟩ := getS2 X0 hx hZ hown (host := "") (Or.inl (wq hw 97 rfl)) Via.refl e0 (S_v5.ext O0.2) (g := (mkF m 59 #[.val (.int p0)] [])) rfl (hb hby d6_59)
  obtain ⟨fs, hr, hrun, hended, hW, hsame⟩ := X1.leave (v := some (.ref v5)) (fun h => by rw [Bd.returns] at h; cases h)
  refine ⟨_, _, castTop (ef_6_0 m p0) ?_, hrun, hended, _, _, rfl, ?_, ⟨_, rfl⟩, hW, hsame.mono (by decide) (by decide)⟩
  · show Sp p e below s₁ (mkF m 0 #[.val (.int p0)] []) _
    refine XS.iloadN X0.here hx rfl (hb hby d6_0) rfl ?_
    refine XS.ifYes X0.here hx rfl (pc0 := 1) (pc' := 8) rfl (hb hby d6_1) rfl ((if0 _ _).trans (feq hc1).2) (by decide) (by decide) ?_
    refine XS.iloadN X0.here hx rfl (hb hby d6_8) rfl ?_
    refine XS.iconst X0.here hx rfl (hb hby d6_9) ?_
    refine XS.icmpYes X0.here hx rfl (pc0 := 10) (pc' := 17) rfl (hb hby d6_10) rfl (feq hc2).2 (by decide) (by decide) ?_
    refine XS.iloadN X0.here hx rfl (hb hby d6_17) rfl ?_
    refine XS.iconst X0.here hx rfl (hb hby d6_18) ?_
    show Sp p e below s₁ (mkF m 19 #[.val (.int p0)] [(.int (2 : Int32)), (.int p0)]) _
    refine XS.icmpYes X0.here hx rfl (pc0 := 19) (pc' := 26) rfl (hb hby d6_19) rfl (feq hc3).2 (by decide) (by decide) ?_
    refine XS.iloadN X0.here hx rfl (hb hby d6_26) rfl ?_
    refine XS.iconst X0.here hx rfl (hb hby d6_27) ?_
    refine XS.icmpYes X0.here hx rfl (pc0 := 28) (pc' := 35) rfl (hb hby d6_28) rfl (feq hc4).2 (by decide) (by decide) ?_
    refine XS.iloadN X0.here hx rfl (hb hby d6_35) rfl ?_
    refine XS.iconst X0.here hx rfl (hb hby d6_36) ?_
    refine XS.icmpYes X0.here hx rfl (pc0 := 37) (pc' := 44) rfl (hb hby d6_37) rfl (feq hc5).2 (by decide) (by decide) ?_
    show Sp p e below s₁ (mkF m 44 #[.val (.int p0)] []) _
    refine XS.iloadN X0.here hx rfl (hb hby d6_44) rfl ?_
    refine XS.iconst X0.here hx rfl (hb hby d6_45) ?_
    refine XS.icmpYes X0.here hx rfl (pc0 := 46) (pc' := 53) rfl (hb hby d6_46) rfl (feq hc6).2 (by decide) (by decide) ?_
    refine XS.iloadN X0.here hx rfl (hb hby d6_53) rfl ?_
    refine XS.bipush X0.here hx rfl (hb hby d6_54) ?_
    refine XS.icmpNo X0.here hx rfl (hb hby d6_56) rfl (teq hc7).2 ?_
    show Sp p e below s₁ (mkF m 59 #[.val (.int p0)] []) _
    refine st1 _ ?_
    show Sp p e below T1 (mkF m 62 #[.val (.int p0)] [(.ref v5)]) _
    jvm_step X1.here [X1.here.top, hx, (hb hby d6_62), X1.method', Bd.returns, Value.isRef, FieldType.isReference]
    first | (intro acts; rw [hr _ acts rfl rfl rfl]) | rw [hr _ _ rfl rfl rfl]
    exact Steps.refl _
  · show Q29 Z v0 v1 v2 v3 v4 v5 v6 v7 v8 v9 cs_v p0 h0 n0 _ T1.heap _
    rw [e1]
    exact ⟨rfl, N0, rfl⟩
theorem d6_63 : decode method_6_code 63 = .ok (.iload_n 0, 1) := by decide +kernel
theorem d6_64 : decode method_6_code 64 = .ok (.bipush 7, 2) := by decide +kernel
theorem d6_66 : decode method_6_code 66 = .ok (.if_icmp .ne 7, 3) := by decide +kernel
theorem d6_69 : decode method_6_code 69 = .ok (.getstatic 64, 3) := by decide +kernel
theorem d6_72 : decode method_6_code 72 = .ok (.areturn, 1) := by decide +kernel
def Q30 (Z : State) (v0 : Addr) (v1 : Addr) (v2 : Addr) (v3 : Addr) (v4 : Addr) (v5 : Addr) (v6 : Addr) (v7 : Addr) (v8 : Addr) (v9 : Addr) (cs_v : Int32) (p0 : Int32) (h0 : Heap) (n0 : Nat) (v : Option Value) (h : Heap) (L : List Loc) : Prop := v = some (.ref v4) ∧ Fr n0 L ∧ h = h0
theorem rm30 (l : Launch) (Z : State) (a0 : Array Value) (hw : ∀ d ∈ tables_1, d.before a0 Z = true) (ws : List Jvm.Cond) (v0 v1 v2 v3 v4 v5 v6 v7 v8 v9 : Addr) (cs_v : Int32) (hp : Perm Z v0 v1 v2 v3 v4 v5 v6 v7 v8 v9 cs_v) (p0 : Int32) (h0 : Heap) (n0 : Nat) (O0 : Old Z n0 h0) (hc1 : ¬ (p0 = (0 : Int32))) (hc2 : ¬ (p0 = (1 : Int32))) (hc3 : ¬ (p0 = (2 : Int32))) (hc4 : ¬ (p0 = (3 : Int32))) (hc5 : ¬ (p0 = (4 : Int32))) (hc6 : ¬ (p0 = (5 : Int32))) (hc7 : ¬ (p0 = (6 : Int32))) (hc8 : p0 = (7 : Int32)) :
    MetFree l y7 (head1 (Jvm.Cond.code y7 method_6_code 1 (some (.object "com/example/ratebook/ratebook/model/Category")) :: ws) ({ frames := 0, cells := 0, slots := 0, locals := 0 } : Room)) (fun a U => a = #[(.int p0)] ∧ Z.Warmed39 U.vm ∧ U.heap = h0) (fun _ _ _ _ _ => True) (fun _ U o U' => ∃ v L, o = .returned v ∧ Q30 Z v0 v1 v2 v3 v4 v5 v6 v7 v8 v9 cs_v p0 h0 n0 v U'.heap L ∧ FrameEnd U o U' L ({ frames := 0, cells := 0, slots := 0, locals := 0 } : Room).cells ({ frames := 0, cells := 0, slots := 0, locals := 0 } : Room).slots) := by
  refine MetFree.of_bodySF (plainFor_of_name pn_2) hisR ?_
  intro p e s m args below meth c s₁ Bd hml0 hP hK
  obtain ⟨rfl, hZ, hh⟩ := hP
  have hx := Bd.exec
  have hby := Bd.bytes
  have hml : c.maxLocals = 1 := hml0
  have hown : s.vm.findClass "com/example/ratebook/ratebook/model/PricedItemEqualsPinLaw" = some m.cls := findClass_of_methodNamed Bd.named
  have hnm := (name_of_methodNamed Bd.named Bd.method).1
  have X0 : Stand p l e ({ frames := 0, cells := 0, slots := 0, locals := 0 } : Room) s m #[(.int p0)] below meth c s₁ [] 0 0 := Stand.of_body Bd
  have e0 : s₁.heap = h0 := by rw [← hh, Bd.state]; rfl
  have N0 := Fr.nil n0
  have hp' := hp
  obtain ⟨_, _, _, _, _, _, _, _, S_v4, _⟩ := hp'
  obtain ⟨T1, X1, e1, st1⟩ := getS2 X0 hx hZ hown (host := "") (Or.inl (wq hw 95 rfl)) Via.refl e0 (S_v4.ext O0.2) (g := (mkF m 69 #[.val (.int p0)] [])) rfl (hb hby d6_69)
  obtain ⟨fs, hr, hrun, hended, hW, hsame⟩ := X1.leave (v := some (.ref v4)) (fun h => by rw [Bd.returns] at h; cases h)
  refine ⟨_, _, castTop (ef_6_0 m p0) ?_, hrun, hended, _, _, rfl, ?_, ⟨_, rfl⟩, hW, hsame.mono (by decide) (by decide)⟩
  · show Sp p e below s₁ (mkF m 0 #[.val (.int p0)] []) _
    refine XS.iloadN X0.here hx rfl (hb hby d6_0) rfl ?_
    refine XS.ifYes X0.here hx rfl (pc0 := 1) (pc' := 8) rfl (hb hby d6_1) rfl ((if0 _ _).trans (feq hc1).2) (by decide) (by decide) ?_
    refine XS.iloadN X0.here hx rfl (hb hby d6_8) rfl ?_
    refine XS.iconst X0.here hx rfl (hb hby d6_9) ?_
    refine XS.icmpYes X0.here hx rfl (pc0 := 10) (pc' := 17) rfl (hb hby d6_10) rfl (feq hc2).2 (by decide) (by decide) ?_
    refine XS.iloadN X0.here hx rfl (hb hby d6_17) rfl ?_
    refine XS.iconst X0.here hx rfl (hb hby d6_18) ?_
    show Sp p e below s₁ (mkF m 19 #[.val (.int p0)] [(.int (2 : Int32)), (.int p0)]) _
    refine XS.icmpYes X0.here hx rfl (pc0 := 19) (pc' := 26) rfl (hb hby d6_19) rfl (feq hc3).2 (by decide) (by decide) ?_
    refine XS.iloadN X0.here hx rfl (hb hby d6_26) rfl ?_
    refine XS.iconst X0.here hx rfl (hb hby d6_27) ?_
    refine XS.icmpYes X0.here hx rfl (pc0 := 28) (pc' := 35) rfl (hb hby d6_28) rfl (feq hc4).2 (by decide) (by decide) ?_
    refine XS.iloadN X0.here hx rfl (hb hby d6_35) rfl ?_
    refine XS.iconst X0.here hx rfl (hb hby d6_36) ?_
    refine XS.icmpYes X0.here hx rfl (pc0 := 37) (pc' := 44) rfl (hb hby d6_37) rfl (feq hc5).2 (by decide) (by decide) ?_
    show Sp p e below s₁ (mkF m 44 #[.val (.int p0)] []) _
    refine XS.iloadN X0.here hx rfl (hb hby d6_44) rfl ?_
    refine XS.iconst X0.here hx rfl (hb hby d6_45) ?_
    refine XS.icmpYes X0.here hx rfl (pc0 := 46) (pc' := 53) rfl (hb hby d6_46) rfl (feq hc6).2 (by decide) (by decide) ?_
    refine XS.iloadN X0.here hx rfl (hb hby d6_53) rfl ?_
    refine XS.bipush X0.here hx rfl (hb hby d6_54) ?_
    refine XS.icmpYes X0.here hx rfl (pc0 := 56) (pc' := 63) rfl (hb hby d6_56) rfl (feq hc7).2 (by decide) (by decide) ?_
    refine XS.iloadN X0.here hx rfl (hb hby d6_63) rfl ?_
    show Sp p e below s₁ (mkF m 64 #[.val (.int p0)] [(.int p0)]) _
    refine XS.bipush X0.here hx rfl (hb hby d6_64) ?_
    refine XS.icmpNo X0.here hx rfl (hb hby d6_66) rfl (teq hc8).2 ?_
    show Sp p e below s₁ (mkF m 69 #[.val (.int p0)] []) _
    refine st1 _ ?_
    show Sp p e below T1 (mkF m 72 #[.val (.int p0)] [(.ref v4)]) _
    jvm_step X1.here [X1.here.top, hx, (hb hby d6_72), X1.method', Bd.returns, Value.isRef, FieldType.isReference]
    first | (intro acts; rw [hr _ acts rfl rfl rfl]) | rw [hr _ _ rfl rfl rfl]
    exact Steps.refl _
  · show Q30 Z v0 v1 v2 v3 v4 v5 v6 v7 v8 v9 cs_v p0 h0 n0 _ T1.heap _
    rw [e1]
    exact ⟨rfl, N0, rfl⟩
theorem d6_73 : decode method_6_code 73 = .ok (.iload_n 0, 1) := by decide +kernel
theorem d6_74 : decode method_6_code 74 = .ok (.bipush 8, 2) := by decide +kernel
theorem d6_76 : decode method_6_code 76 = .ok (.if_icmp .ne 7, 3) := by decide +kernel
theorem d6_79 : decode method_6_code 79 = .ok (.getstatic 67, 3) := by decide +kernel
theorem d6_82 : decode method_6_code 82 = .ok (.areturn, 1) := by decide +kernel
def Q31 (Z : State) (v0 : Addr) (v1 : Addr) (v2 : Addr) (v3 : Addr) (v4 : Addr) (v5 : Addr) (v6 : Addr) (v7 : Addr) (v8 : Addr) (v9 : Addr) (cs_v : Int32) (p0 : Int32) (h0 : Heap) (n0 : Nat) (v : Option Value) (h : Heap) (L : List Loc) : Prop := v = some (.ref v7) ∧ Fr n0 L ∧ h = h0
theorem rm31 (l : Launch) (Z : State) (a0 : Array Value) (hw : ∀ d ∈ tables_1, d.before a0 Z = true) (ws : List Jvm.Cond) (v0 v1 v2 v3 v4 v5 v6 v7 v8 v9 : Addr) (cs_v : Int32) (hp : Perm Z v0 v1 v2 v3 v4 v5 v6 v7 v8 v9 cs_v) (p0 : Int32) (h0 : Heap) (n0 : Nat) (O0 : Old Z n0 h0) (hc1 : ¬ (p0 = (0 : Int32))) (hc2 : ¬ (p0 = (1 : Int32))) (hc3 : ¬ (p0 = (2 : Int32))) (hc4 : ¬ (p0 = (3 : Int32))) (hc5 : ¬ (p0 = (4 : Int32))) (hc6 : ¬ (p0 = (5 : Int32))) (hc7 : ¬ (p0 = (6 : Int32))) (hc8 : ¬ (p0 = (7 : Int32))) (hc9 : p0 = (8 : Int32)) :
    MetFree l y7 (head1 (Jvm.Cond.code y7 method_6_code 1 (some (.object "com/example/ratebook/ratebook/model/Category")) :: ws) ({ frames := 0, cells := 0, slots := 0, locals := 0 } : Room)) (fun a U => a = #[(.int p0)] ∧ Z.Warmed39 U.vm ∧ U.heap = h0) (fun _ _ _ _ _ => True) (fun _ U o U' => ∃ v L, o = .returned v ∧ Q31 Z v0 v1 v2 v3 v4 v5 v6 v7 v8 v9 cs_v p0 h0 n0 v U'.heap L ∧ FrameEnd U o U' L ({ frames := 0, cells := 0, slots := 0, locals := 0 } : Room).cells ({ frames := 0, cells := 0, slots := 0, locals := 0 } : Room).slots) := by
  refine MetFree.of_bodySF (plainFor_of_name pn_2) hisR ?_
  intro p e s m args below meth c s₁ Bd hml0 hP hK
  obtain ⟨rfl, hZ, hh⟩ := hP
  have hx := Bd.exec
  have hby := Bd.bytes
  have hml : c.maxLocals = 1 := hml0
  have hown : s.vm.findClass "com/example/ratebook/ratebook/model/PricedItemEqualsPinLaw" = some m.cls := findClass_of_methodNamed Bd.named
  have hnm := (name_of_methodNamed Bd.named Bd.method).1
  have X0 : Stand p l e ({ frames := 0, cells := 0, slots := 0, locals := 0 } : Room) s m #[(.int p0)] below meth c s₁ [] 0 0 := Stand.of_body Bd
  have e0 : s₁.heap = h0 := by rw [← hh, Bd.state]; rfl
  have N0 := Fr.nil n0
  have hp' := hp
  obtain ⟨_, _, _, _, _, _, _, _, _, _, _, _, _, _, S_v7, _⟩ := hp'
  obtain ⟨T1, X1, e1, st1⟩ := getS2 X0 hx hZ hown (host := "") (Or.inl (wq hw 101 rfl)) Via.refl e0 (S_v7.ext O0.2) (g := (mkF m 79 #[.val (.int p0)] [])) rfl (hb hby d6_79)
  obtain ⟨fs, hr, hrun, hended, hW, hsame⟩ := X1.leave (v := some (.ref v7)) (fun h => by rw [Bd.returns] at h; cases h)
  refine ⟨_, _, castTop (ef_6_0 m p0) ?_, hrun, hended, _, _, rfl, ?_, ⟨_, rfl⟩, hW, hsame.mono (by decide) (by decide)⟩
  · show Sp p e below s₁ (mkF m 0 #[.val (.int p0)] []) _
    refine XS.iloadN X0.here hx rfl (hb hby d6_0) rfl ?_
    refine XS.ifYes X0.here hx rfl (pc0 := 1) (pc' := 8) rfl (hb hby d6_1) rfl ((if0 _ _).trans (feq hc1).2) (by decide) (by decide) ?_
    refine XS.iloadN X0.here hx rfl (hb hby d6_8) rfl ?_
    refine XS.iconst X0.here hx rfl (hb hby d6_9) ?_
    refine XS.icmpYes X0.here hx rfl (pc0 := 10) (pc' := 17) rfl (hb hby d6_10) rfl (feq hc2).2 (by decide) (by decide) ?_
    refine XS.iloadN X0.here hx rfl (hb hby d6_17) rfl ?_
    refine XS.iconst X0.here hx rfl (hb hby d6_18) ?_
    show Sp p e below s₁ (mkF m 19 #[.val (.int p0)] [(.int (2 : Int32)), (.int p0)]) _
    refine XS.icmpYes X0.here hx rfl (pc0 := 19) (pc' := 26) rfl (hb hby d6_19) rfl (feq hc3).2 (by decide) (by decide) ?_
    refine XS.iloadN X0.here hx rfl (hb hby d6_26) rfl ?_
    refine XS.iconst X0.here hx rfl (hb hby d6_27) ?_
    refine XS.icmpYes X0.here hx rfl (pc0 := 28) (pc' := 35) rfl (hb hby d6_28) rfl (feq hc4).2 (by decide) (by decide) ?_
    refine XS.iloadN X0.here hx rfl (hb hby d6_35) rfl ?_
    refine XS.iconst X0.here hx rfl (hb hby d6_36) ?_
    refine XS.icmpYes X0.here hx rfl (pc0 := 37) (pc' := 44) rfl (hb hby d6_37) rfl (feq hc5).2 (by decide) (by decide) ?_
    show Sp p e below s₁ (mkF m 44 #[.val (.int p0)] []) _
    refine XS.iloadN X0.here hx rfl (hb hby d6_44) rfl ?_
    refine XS.iconst X0.here hx rfl (hb hby d6_45) ?_
    refine XS.icmpYes X0.here hx rfl (pc0 := 46) (pc' := 53) rfl (hb hby d6_46) rfl (feq hc6).2 (by decide) (by decide) ?_
    refine XS.iloadN X0.here hx rfl (hb hby d6_53) rfl ?_
    refine XS.bipush X0.here hx rfl (hb hby d6_54) ?_
    refine XS.icmpYes X0.here hx rfl (pc0 := 56) (pc' := 63) rfl (hb hby d6_56) rfl (feq hc7).2 (by decide) (by decide) ?_
    refine XS.iloadN X0.here hx rfl (hb hby d6_63) rfl ?_
    show Sp p e below s₁ (mkF m 64 #[.val (.int p0)] [(.int p0)]) _
    refine XS.bipush X0.here hx rfl (hb hby d6_64) ?_
    refine XS.icmpYes X0.here hx rfl (pc0 := 66) (pc' := 73) rfl (hb hby d6_66) rfl (feq hc8).2 (by decide) (by decide) ?_
    refine XS.iloadN X0.here hx rfl (hb hby d6_73) rfl ?_
    refine XS.bipush X0.here hx rfl (hb hby d6_74) ?_
    refine XS.icmpNo X0.here hx rfl (hb hby d6_76) rfl (teq hc9).2 ?_
    show Sp p e below s₁ (mkF m 79 #[.val (.int p0)] []) _
    refine st1 _ ?_
    show Sp p e below T1 (mkF m 82 #[.val (.int p0)] [(.ref v7)]) _
    jvm_step X1.here [X1.here.top, hx, (hb hby d6_82), X1.method', Bd.returns, Value.isRef, FieldType.isReference]
    first | (intro acts; rw [hr _ acts rfl rfl rfl]) | rw [hr _ _ rfl rfl rfl]
    exact Steps.refl _
  · show Q31 Z v0 v1 v2 v3 v4 v5 v6 v7 v8 v9 cs_v p0 h0 n0 _ T1.heap _
    rw [e1]
    exact ⟨rfl, N0, rfl⟩
theorem d6_83 : decode method_6_code 83 = .ok (.getstatic 70, 3) := by decide +kernel
theorem d6_86 : decode method_6_code 86 = .ok (.areturn, 1) := by decide +kernel
def Q32 (Z : State) (v0 : Addr) (v1 : Addr) (v2 : Addr) (v3 : Addr) (v4 : Addr) (v5 : Addr) (v6 : Addr) (v7 : Addr) (v8 : Addr) (v9 : Addr) (cs_v : Int32) (p0 : Int32) (h0 : Heap) (n0 : Nat) (v : Option Value) (h : Heap) (L : List Loc) : Prop := v = some (.ref v6) ∧ Fr n0 L ∧ h = h0
theorem rm32 (l : Launch) (Z : State) (a0 : Array Value) (hw : ∀ d ∈ tables_1, d.before a0 Z = true) (ws : List Jvm.Cond) (v0 v1 v2 v3 v4 v5 v6 v7 v8 v9 : Addr) (cs_v : Int32) (hp : Perm Z v0 v1 v2 v3 v4 v5 v6 v7 v8 v9 cs_v) (p0 : Int32) (h0 : Heap) (n0 : Nat) (O0 : Old Z n0 h0) (hc1 : ¬ (p0 = (0 : Int32))) (hc2 : ¬ (p0 = (1 : Int32))) (hc3 : ¬ (p0 = (2 : Int32))) (hc4 : ¬ (p0 = (3 : Int32))) (hc5 : ¬ (p0 = (4 : Int32))) (hc6 : ¬ (p0 = (5 : Int32))) (hc7 : ¬ (p0 = (6 : Int32))) (hc8 : ¬ (p0 = (7 : Int32))) (hc9 : ¬ (p0 = (8 : Int32))) :
    MetFree l y7 (head1 (Jvm.Cond.code y7 method_6_code 1 (some (.object "com/example/ratebook/ratebook/model/Category")) :: ws) ({ frames := 0, cells := 0, slots := 0, locals := 0 } : Room)) (fun a U => a = #[(.int p0)] ∧ Z.Warmed39 U.vm ∧ U.heap = h0) (fun _ _ _ _ _ => True) (fun _ U o U' => ∃ v L, o = .returned v ∧ Q32 Z v0 v1 v2 v3 v4 v5 v6 v7 v8 v9 cs_v p0 h0 n0 v U'.heap L ∧ FrameEnd U o U' L ({ frames := 0, cells := 0, slots := 0, locals := 0 } : Room).cells ({ frames := 0, cells := 0, slots := 0, locals := 0 } : Room).slots) := by
  refine MetFree.of_bodySF (plainFor_of_name pn_2) hisR ?_
  intro p e s m args below meth c s₁ Bd hml0 hP hK
  obtain ⟨rfl, hZ, hh⟩ := hP
  have hx := Bd.exec
  have hby := Bd.bytes
  have hml : c.maxLocals = 1 := hml0
  have hown : s.vm.findClass "com/example/ratebook/ratebook/model/PricedItemEqualsPinLaw" = some m.cls := findClass_of_methodNamed Bd.named
  have hnm := (name_of_methodNamed Bd.named Bd.method).1
  have X0 : Stand p l e ({ frames := 0, cells := 0, slots := 0, locals := 0 } : Room) s m #[(.int p0)] below meth c s₁ [] 0 0 := Stand.of_body Bd
  have e0 : s₁.heap = h0 := by rw [← hh, Bd.state]; rfl
  have N0 := Fr.nil n0
  have hp' := hp
  obtain ⟨_, _, _, _, _, _, _, _, _, _, _, _, S_v6, _⟩ := hp'
  obtain ⟨T1, X1, e1, st1⟩ := getS2 X0 hx hZ hown (host := "") (Or.inl (wq hw 99 rfl)) Via.refl e0 (S_v6.ext O0.2) (g := (mkF m 83 #[.val (.int p0)] [])) rfl (hb hby d6_83)
  obtain ⟨fs, hr, hrun, hended, hW, hsame⟩ := X1.leave (v := some (.ref v6)) (fun h => by rw [Bd.returns] at h; cases h)
  refine ⟨_, _, castTop (ef_6_0 m p0) ?_, hrun, hended, _, _, rfl, ?_, ⟨_, rfl⟩, hW, hsame.mono (by decide) (by decide)⟩
  · show Sp p e below s₁ (mkF m 0 #[.val (.int p0)] []) _
    refine XS.iloadN X0.here hx rfl (hb hby d6_0) rfl ?_
    refine XS.ifYes X0.here hx rfl (pc0 := 1) (pc' := 8) rfl (hb hby d6_1) rfl ((if0 _ _).trans (feq hc1).2) (by decide) (by decide) ?_
    refine XS.iloadN X0.here hx rfl (hb hby d6_8) rfl ?_
    refine XS.iconst X0.here hx rfl (hb hby d6_9) ?_
    refine XS.icmpYes X0.here hx rfl (pc0 := 10) (pc' := 17) rfl (hb hby d6_10) rfl (feq hc2).2 (by decide) (by decide) ?_
    refine XS.iloadN X0.here hx rfl (hb hby d6_17) rfl ?_
    refine XS.iconst X0.here hx rfl (hb hby d6_18) ?_
    show Sp p e below s₁ (mkF m 19 #[.val (.int p0)] [(.int (2 : Int32)), (.int p0)]) _
    refine XS.icmpYes X0.here hx rfl (pc0 := 19) (pc' := 26) rfl (hb hby d6_19) rfl (feq hc3).2 (by decide) (by decide) ?_
    refine XS.iloadN X0.here hx rfl (hb hby d6_26) rfl ?_
    refine XS.iconst X0.here hx rfl (hb hby d6_27) ?_
    refine XS.icmpYes X0.here hx rfl (pc0 := 28) (pc' := 35) rfl (hb hby d6_28) rfl (feq hc4).2 (by decide) (by decide) ?_
    refine XS.iloadN X0.here hx rfl (hb hby d6_35) rfl ?_
    refine XS.iconst X0.here hx rfl (hb hby d6_36) ?_
    refine XS.icmpYes X0.here hx rfl (pc0 := 37) (pc' := 44) rfl (hb hby d6_37) rfl (feq hc5).2 (by decide) (by decide) ?_
    show Sp p e below s₁ (mkF m 44 #[.val (.int p0)] []) _
    refine XS.iloadN X0.here hx rfl (hb hby d6_44) rfl ?_
    refine XS.iconst X0.here hx rfl (hb hby d6_45) ?_
    refine XS.icmpYes X0.here hx rfl (pc0 := 46) (pc' := 53) rfl (hb hby d6_46) rfl (feq hc6).2 (by decide) (by decide) ?_
    refine XS.iloadN X0.here hx rfl (hb hby d6_53) rfl ?_
    refine XS.bipush X0.here hx rfl (hb hby d6_54) ?_
    refine XS.icmpYes X0.here hx rfl (pc0 := 56) (pc' := 63) rfl (hb hby d6_56) rfl (feq hc7).2 (by decide) (by decide) ?_
    refine XS.iloadN X0.here hx rfl (hb hby d6_63) rfl ?_
    show Sp p e below s₁ (mkF m 64 #[.val (.int p0)] [(.int p0)]) _
    refine XS.bipush X0.here hx rfl (hb hby d6_64) ?_
    refine XS.icmpYes X0.here hx rfl (pc0 := 66) (pc' := 73) rfl (hb hby d6_66) rfl (feq hc8).2 (by decide) (by decide) ?_
    refine XS.iloadN X0.here hx rfl (hb hby d6_73) rfl ?_
    refine XS.bipush X0.here hx rfl (hb hby d6_74) ?_
    refine XS.icmpYes X0.here hx rfl (pc0 := 76) (pc' := 83) rfl (hb hby d6_76) rfl (feq hc9).2 (by decide) (by decide) ?_
    show Sp p e below s₁ (mkF m 83 #[.val (.int p0)] []) _
    refine st1 _ ?_
    show Sp p e below T1 (mkF m 86 #[.val (.int p0)] [(.ref v6)]) _
    jvm_step X1.here [X1.here.top, hx, (hb hby d6_86), X1.method', Bd.returns, Value.isRef, FieldType.isReference]
    first | (intro acts; rw [hr _ acts rfl rfl rfl]) | rw [hr _ _ rfl rfl rfl]
    exact Steps.refl _
  · show Q32 Z v0 v1 v2 v3 v4 v5 v6 v7 v8 v9 cs_v p0 h0 n0 _ T1.heap _
    rw [e1]
    exact ⟨rfl, N0, rfl⟩
def catf (v0 v9 v2 v1 v8 v3 v5 v4 v7 v6 : Addr) (k : Int32) : Addr := if k = 0 then v0 else if k = 1 then v9 else if k = 2 then v2 else if k = 3 then v1 else if k = 4 then v8 else if k = 5 then v3 else if k = 6 then v5 else if k = 7 then v4 else if k = 8 then v7 else v6
theorem own_cato {Z : State} {v0 : Addr} {v1 : Addr} {v2 : Addr} {v3 : Addr} {v4 : Addr} {v5 : Addr} {v6 : Addr} {v7 : Addr} {v8 : Addr} {v9 : Addr} {cs_v : Int32} (hp : Perm Z v0 v1 v2 v3 v4 v5 v6 v7 v8 v9 cs_v) {k : Int32} (h : 0 ≤ k.toInt ∧ k.toInt < 10) : Fld Z Z.heap (catf v0 v9 v2 v1 v8 v3 v5 v4 v7 v6 k) "java/lang/Enum" "ordinal" "I" (.int k) := by
  obtain ⟨S_v0, E_v0, S_v1, E_v1, S_v2, E_v2, S_v3, E_v3, S_v4, E_v4, S_v5, E_v5, S_v6, E_v6, S_v7, E_v7, S_v8, E_v8, S_v9, E_v9, F_ordinal_v0, F_ordinal_v1, F_ordinal_v5, F_ordinal_v6, F_ordinal_v2, F_ordinal_v8, F_ordinal_v4, F_ordinal_v9, F_ordinal_v7, F_ordinal_v3, S_COMPACT_STRINGS, h_cs⟩ := hp
  have q : k = 0 ∨ k = 1 ∨ k = 2 ∨ k = 3 ∨ k = 4 ∨ k = 5 ∨ k = 6 ∨ k = 7 ∨ k = 8 ∨ k = 9 := by
    have e : ∀ n : Int32, k.toInt = n.toInt → k = n := fun n => Int32.toInt_inj.mp
    have h' : k.toInt = (0 : Int32).toInt ∨ k.toInt = (1 : Int32).toInt ∨ k.toInt = (2 : Int32).toInt ∨ k.toInt = (3 : Int32).toInt ∨ k.toInt = (4 : Int32).toInt ∨ k.toInt = (5 : Int32).toInt ∨ k.toInt = (6 : Int32).toInt ∨ k.toInt = (7 : Int32).toInt ∨ k.toInt = (8 : Int32).toInt ∨ k.toInt = (9 : Int32).toInt := by
      show k.toInt = 0 ∨ k.toInt = 1 ∨ k.toInt = 2 ∨ k.toInt = 3 ∨ k.toInt = 4 ∨ k.toInt = 5 ∨ k.toInt = 6 ∨ k.toInt = 7 ∨ k.toInt = 8 ∨ k.toInt = 9
      omega
    simpa only [Int32.toInt_inj] using h'
  rcases q with rfl | rfl | rfl | rfl | rfl | rfl | rfl | rfl | rfl | rfl
  · exact F_ordinal_v0
  · exact F_ordinal_v9
  · exact F_ordinal_v2
  · exact F_ordinal_v1
  · exact F_ordinal_v8
  · exact F_ordinal_v3
  · exact F_ordinal_v5
  · exact F_ordinal_v4
  · exact F_ordinal_v7
  · exact F_ordinal_v6
theorem own_catne {Z : State} {v0 : Addr} {v1 : Addr} {v2 : Addr} {v3 : Addr} {v4 : Addr} {v5 : Addr} {v6 : Addr} {v7 : Addr} {v8 : Addr} {v9 : Addr} {cs_v : Int32} (hp : Perm Z v0 v1 v2 v3 v4 v5 v6 v7 v8 v9 cs_v) {k k' : Int32} (h : 0 ≤ k.toInt ∧ k.toInt < 10) (h' : 0 ≤ k'.toInt ∧ k'.toInt < 10) (ne : ¬ (k = k')) : catf v0 v9 v2 v1 v8 v3 v5 v4 v7 v6 k ≠ catf v0 v9 v2 v1 v8 v3 v5 v4 v7 v6 k' := Fld.ne (own_cato hp h) (own_cato hp h') (fun e => ne (Value.int.inj e))
def QK6 (Z : State) (v0 : Addr) (v1 : Addr) (v2 : Addr) (v3 : Addr) (v4 : Addr) (v5 : Addr) (v6 : Addr) (v7 : Addr) (v8 : Addr) (v9 : Addr) (cs_v : Int32) (p0 : Int32) (h0 : Heap) (n0 : Nat) (v : Option Value) (h : Heap) (L : List Loc) : Prop := ∃ (x : Addr), v = some (.ref x) ∧ Fr n0 L ∧ h = h0 ∧ Exa Z Z.heap x "com/example/ratebook/ratebook/model/Category" ∧ x = catf v0 v9 v2 v1 v8 v3 v5 v4 v7 v6 p0
set_option maxRecDepth 65536 in
set_option maxHeartbeats 4000000 in
theorem rmK6 (l : Launch) (Z : State) (a0 : Array Value) (hw : ∀ d ∈ tables_1, d.before a0 Z = true) (ws : List Jvm.Cond) (v0 v1 v2 v3 v4 v5 v6 v7 v8 v9 : Addr) (cs_v : Int32) (hp : Perm Z v0 v1 v2 v3 v4 v5 v6 v7 v8 v9 cs_v) (p0 : Int32) (h0 : Heap) (n0 : Nat) (O0 : Old Z n0 h0) :
    MetFree l y7 (head1 (Jvm.Cond.code y7 method_6_code 1 (some (.object "com/example/ratebook/ratebook/model/Category")) :: ws) ({ frames := 0, cells := 0, slots := 0, locals := 0 } : Room)) (fun a U => a = #[(.int p0)] ∧ Z.Warmed39 U.vm ∧ U.heap = h0) (fun _ _ _ _ _ => True) (fun _ U o U' => ∃ v L, o = .returned v ∧ QK6 Z v0 v1 v2 v3 v4 v5 v6 v7 v8 v9 cs_v p0 h0 n0 v U'.heap L ∧ FrameEnd U o U' L ({ frames := 0, cells := 0, slots := 0, locals := 0 } : Room).cells ({ frames := 0, cells := 0, slots := 0, locals := 0 } : Room).slots) := by
  have hp' := hp
  obtain ⟨S_v0, E_v0, S_v1, E_v1, S_v2, E_v2, S_v3, E_v3, S_v4, E_v4, S_v5, E_v5, S_v6, E_v6, S_v7, E_v7, S_v8, E_v8, S_v9, E_v9, F_ordinal_v0, F_ordinal_v1, F_ordinal_v5, F_ordinal_v6, F_ordinal_v2, F_ordinal_v8, F_ordinal_v4, F_ordinal_v9, F_ordinal_v7, F_ordinal_v3, S_COMPACT_STRINGS, h_cs⟩ := hp'
  by_cases d0 : p0 = (0 : Int32)
  · skip
    have hK : v0 = catf v0 v9 v2 v1 v8 v3 v5 v4 v7 v6 p0 := by simp [catf, d0]
    exact (rm23 l Z a0 hw ws v0 v1 v2 v3 v4 v5 v6 v7 v8 v9 cs_v hp p0 h0 n0 O0 d0).mono (fun _ _ h => h) (fun _ _ _ _ _ h => h) (fun a s o s' _ ⟨v, L, e, q, f⟩ => ⟨v, L, e, ⟨v0, q.1, q.2.1, q.2.2, E_v0, hK⟩, f⟩)
  · skip
    by_cases d1 : p0 = (1 : Int32)
    · skip
      have hK : v9 = catf v0 v9 v2 v1 v8 v3 v5 v4 v7 v6 p0 := by simp [catf, d0, d1]
      exact (rm24 l Z a0 hw ws v0 v1 v2 v3 v4 v5 v6 v7 v8 v9 cs_v hp p0 h0 n0 O0 d0 d1).mono (fun _ _ h => h) (fun _ _ _ _ _ h => h) (fun a s o s' _ ⟨v, L, e, q, f⟩ => ⟨v, L, e, ⟨v9, q.1, q.2.1, q.2.2, E_v9, hK⟩, f⟩)
    · skip
      by_cases d2 : p0 = (2 : Int32)
      · skip
        have hK : v2 = catf v0 v9 v2 v1 v8 v3 v5 v4 v7 v6 p0 := by simp [catf, d0, d1, d2]
        exact (rm25 l Z a0 hw ws v0 v1 v2 v3 v4 v5 v6 v7 v8 v9 cs_v hp p0 h0 n0 O0 d0 d1 d2).mono (fun _ _ h => h) (fun _ _ _ _ _ h => h) (fun a s o s' _ ⟨v, L, e, q, f⟩ => ⟨v, L, e, ⟨v2, q.1, q.2.1, q.2.2, E_v2, hK⟩, f⟩)
      · skip
        by_cases d3 : p0 = (3 : Int32)
        · skip
          have hK : v1 = catf v0 v9 v2 v1 v8 v3 v5 v4 v7 v6 p0 := by simp [catf, d0, d1, d2, d3]
          exact (rm26 l Z a0 hw ws v0 v1 v2 v3 v4 v5 v6 v7 v8 v9 cs_v hp p0 h0 n0 O0 d0 d1 d2 d3).mono (fun _ _ h => h) (fun _ _ _ _ _ h => h) (fun a s o s' _ ⟨v, L, e, q, f⟩ => ⟨v, L, e, ⟨v1, q.1, q.2.1, q.2.2, E_v1, hK⟩, f⟩)
        · skip
          by_cases d4 : p0 = (4 : Int32)
          · skip
            have hK : v8 = catf v0 v9 v2 v1 v8 v3 v5 v4 v7 v6 p0 := by simp [catf, d0, d1, d2, d3, d4]
            exact (rm27 l Z a0 hw ws v0 v1 v2 v3 v4 v5 v6 v7 v8 v9 cs_v hp p0 h0 n0 O0 d0 d1 d2 d3 d4).mono (fun _ _ h => h) (fun _ _ _ _ _ h => h) (fun a s o s' _ ⟨v, L, e, q, f⟩ => ⟨v, L, e, ⟨v8, q.1, q.2.1, q.2.2, E_v8, hK⟩, f⟩)
          · skip
            by_cases d5 : p0 = (5 : Int32)
            · skip
              have hK : v3 = catf v0 v9 v2 v1 v8 v3 v5 v4 v7 v6 p0 := by simp [catf, d0, d1, d2, d3, d4, d5]
              exact (rm28 l Z a0 hw ws v0 v1 v2 v3 v4 v5 v6 v7 v8 v9 cs_v hp p0 h0 n0 O0 d0 d1 d2 d3 d4 d5).mono (fun _ _ h => h) (fun _ _ _ _ _ h => h) (fun a s o s' _ ⟨v, L, e, q, f⟩ => ⟨v, L, e, ⟨v3, q.1, q.2.1, q.2.2, E_v3, hK⟩, f⟩)
            · skip
              by_cases d6 : p0 = (6 : Int32)
              · skip
                have hK : v5 = catf v0 v9 v2 v1 v8 v3 v5 v4 v7 v6 p0 := by simp [catf, d0, d1, d2, d3, d4, d5, d6]
                exact (rm29 l Z a0 hw ws v0 v1 v2 v3 v4 v5 v6 v7 v8 v9 cs_v hp p0 h0 n0 O0 d0 d1 d2 d3 d4 d5 d6).mono (fun _ _ h => h) (fun _ _ _ _ _ h => h) (fun a s o s' _ ⟨v, L, e, q, f⟩ => ⟨v, L, e, ⟨v5, q.1, q.2.1, q.2.2, E_v5, hK⟩, f⟩)
              · skip
                by_cases d7 : p0 = (7 : Int32)
                · skip
                  have hK : v4 = catf v0 v9 v2 v1 v8 v3 v5 v4 v7 v6 p0 := by simp [catf, d0, d1, d2, d3, d4, d5, d6, d7]
                  exact (rm30 l Z a0 hw ws v0 v1 v2 v3 v4 v5 v6 v7 v8 v9 cs_v hp p0 h0 n0 O0 d0 d1 d2 d3 d4 d5 d6 d7).mono (fun _ _ h => h) (fun _ _ _ _ _ h => h) (fun a s o s' _ ⟨v, L, e, q, f⟩ => ⟨v, L, e, ⟨v4, q.1, q.2.1, q.2.2, E_v4, hK⟩, f⟩)
                · skip
                  by_cases d8 : p0 = (8 : Int32)
                  · skip
                    have hK : v7 = catf v0 v9 v2 v1 v8 v3 v5 v4 v7 v6 p0 := by simp [catf, d0, d1, d2, d3, d4, d5, d6, d7, d8]
                    exact (rm31 l Z a0 hw ws v0 v1 v2 v3 v4 v5 v6 v7 v8 v9 cs_v hp p0 h0 n0 O0 d0 d1 d2 d3 d4 d5 d6 d7 d8).mono (fun _ _ h => h) (fun _ _ _ _ _ h => h) (fun a s o s' _ ⟨v, L, e, q, f⟩ => ⟨v, L, e, ⟨v7, q.1, q.2.1, q.2.2, E_v7, hK⟩, f⟩)
                  · skip
                    have hK : v6 = catf v0 v9 v2 v1 v8 v3 v5 v4 v7 v6 p0 := by simp [catf, d0, d1, d2, d3, d4, d5, d6, d7, d8]
                    exact (rm32 l Z a0 hw ws v0 v1 v2 v3 v4 v5 v6 v7 v8 v9 cs_v hp p0 h0 n0 O0 d0 d1 d2 d3 d4 d5 d6 d7 d8).mono (fun _ _ h => h) (fun _ _ _ _ _ h => h) (fun a s o s' _ ⟨v, L, e, q, f⟩ => ⟨v, L, e, ⟨v6, q.1, q.2.1, q.2.2, E_v6, hK⟩, f⟩)
theorem pd_7 : parseMethodDescriptor "(I)Lcom/example/ratebook/ratebook/model/Category;" = some ⟨[.int], some (.object "com/example/ratebook/ratebook/model/Category")⟩ := by decide +kernel
theorem d7_0 : decode prog_28_method_1_code 0 = .ok (.aload_n 0, 1) := by decide +kernel
theorem d7_1 : decode prog_28_method_1_code 1 = .ok (.invokespecial 1, 3) := by decide +kernel
theorem d8_0 : decode jdk_30_method_1_code 0 = .ok (.aload_n 0, 1) := by decide +kernel
theorem d8_1 : decode jdk_30_method_1_code 1 = .ok (.invokespecial 1, 3) := by decide +kernel
theorem d8_4 : decode jdk_30_method_1_code 4 = .ok (.return_, 1) := by decide +kernel
abbrev y8 : MethodName := (⟨"java/lang/Record", "<init>", "()V"⟩ : MethodName)
theorem ef_8_0 (m : MethodId) (x0 : Addr) : entryFrame m #[(.ref x0)] 1 = mkF m 0 #[.val (.ref x0)] [] := by first | (simp [entryFrame, mkF, argsToLocals, Value.category]; done) | rfl
theorem pn_8 : plainName "java/lang/Record" = true := by first | (simp [plainName, overriddenIn]; done) | decide +kernel
def Q33 (Z : State) (v0 : Addr) (v1 : Addr) (v2 : Addr) (v3 : Addr) (v4 : Addr) (v5 : Addr) (v6 : Addr) (v7 : Addr) (v8 : Addr) (v9 : Addr) (cs_v : Int32) (a1 : Addr) (h0 : Heap) (n0 : Nat) (v : Option Value) (h : Heap) (L : List Loc) : Prop := v = none ∧ Fr n0 L ∧ h = h0
theorem rm33 (l : Launch) (Z : State) (a0 : Array Value) (hw : ∀ d ∈ tables_1, d.before a0 Z = true) (ws : List Jvm.Cond) (v0 v1 v2 v3 v4 v5 v6 v7 v8 v9 : Addr) (cs_v : Int32) (hp : Perm Z v0 v1 v2 v3 v4 v5 v6 v7 v8 v9 cs_v) (a1 : Addr) (h0 : Heap) (n0 : Nat) (O0 : Old Z n0 h0) :
    MetFree l y8 (head1 (Jvm.Cond.code y8 jdk_30_method_1_code 1 none :: ws) ({ frames := 1, cells := 0, slots := 0, locals := 12 } : Room)) (fun a U => a = #[(.ref a1)] ∧ Z.Warmed39 U.vm ∧ U.heap = h0) (fun _ _ _ _ _ => True) (fun _ U o U' => ∃ v L, o = .returned v ∧ Q33 Z v0 v1 v2 v3 v4 v5 v6 v7 v8 v9 cs_v a1 h0 n0 v U'.heap L ∧ FrameEnd U o U' L ({ frames := 1, cells := 0, slots := 0, locals := 12 } : Room).cells ({ frames := 1, cells := 0, slots := 0, locals := 12 } : Room).slots) := by
  refine MetFree.of_bodySF (plainFor_of_name pn_8) hisR ?_
  intro p e s m args below meth c s₁ Bd hml0 hP hK
  obtain ⟨rfl, hZ, hh⟩ := hP
  have hx := Bd.exec
  have hby := Bd.bytes
  have hml : c.maxLocals = 1 := hml0
  have hown : s.vm.findClass "java/lang/Record" = some m.cls := findClass_of_methodNamed Bd.named
  have hnm := (name_of_methodNamed Bd.named Bd.method).1
  have X0 : Stand p l e ({ frames := 1, cells := 0, slots := 0, locals := 12 } : Room) s m #[(.ref a1)] below meth c s₁ [] 0 0 := Stand.of_body Bd
  have e0 : s₁.heap = h0 := by rw [← hh, Bd.state]; rfl
  have N0 := Fr.nil n0
  obtain ⟨T1, X1, e1, st1⟩ := initO X0 hx hZ hown (wq hw 47 rfl) (wq hw 20 rfl) (wq hw 21 rfl) e0 (g := (mkF m 1 #[.val (.ref a1)] [(.ref a1)])) rfl (by rw [hml]; rfl) rfl (hb hby d8_1) (by decide) (W := 0) (by show 2 * 0 + _ ≤ _; exact Nat.le_of_eq rfl) (by decide)
  obtain ⟨fs, hr, hrun, hended, hW, hsame⟩ := X1.leave (v := none) (fun _ => rfl)
  refine ⟨_, _, castTop (ef_8_0 m a1) ?_, hrun, hended, _, _, rfl, ?_, ⟨_, rfl⟩, hW, hsame.mono (by decide) (by decide)⟩
  · show Sp p e below s₁ (mkF m 0 #[.val (.ref a1)] []) _
    refine XS.aloadN X0.here hx rfl (hb hby d8_0) rfl rfl ?_
    show Sp p e below s₁ (mkF m 1 #[.val (.ref a1)] [(.ref a1)]) _
    refine st1 _ ?_
    show Sp p e below T1 (mkF m 4 #[.val (.ref a1)] []) _
    exact X1.returnOut hx Bd.returns (hb hby d8_4) hr
  · show Q33 Z v0 v1 v2 v3 v4 v5 v6 v7 v8 v9 cs_v a1 h0 n0 _ T1.heap _
    rw [e1]
    exact ⟨rfl, N0, rfl⟩
theorem pd_8 : parseMethodDescriptor "()V" = some ⟨[], none⟩ := by decide +kernel
theorem d7_4 : decode prog_28_method_1_code 4 = .ok (.aload_n 1, 1) := by decide +kernel
theorem d7_5 : decode prog_28_method_1_code 5 = .ok (.ldc 7, 2) := by decide +kernel
theorem d7_7 : decode prog_28_method_1_code 7 = .ok (.invokestatic 9, 3) := by decide +kernel
theorem d9_0 : decode jdk_31_method_11_code 0 = .ok (.aload_n 0, 1) := by decide +kernel
theorem d9_1 : decode jdk_31_method_11_code 1 = .ok (.ifnonnull 12, 3) := by decide +kernel
theorem d9_13 : decode jdk_31_method_11_code 13 = .ok (.aload_n 0, 1) := by decide +kernel
theorem d9_14 : decode jdk_31_method_11_code 14 = .ok (.areturn, 1) := by decide +kernel
abbrev y9 : MethodName := (⟨"java/util/Objects", "requireNonNull", "(Ljava/lang/Object;Ljava/lang/String;)Ljava/lang/Object;"⟩ : MethodName)
theorem ef_9_0 (m : MethodId) (x0 : Addr) (x1 : Addr) : entryFrame m #[(.ref x0), (.ref x1)] 2 = mkF m 0 #[.val (.ref x0), .val (.ref x1)] [] := by first | (simp [entryFrame, mkF, argsToLocals, Value.category]; done) | rfl
theorem pn_9 : plainName "java/util/Objects" = true := by first | (simp [plainName, overriddenIn]; done) | decide +kernel
def Q34 (Z : State) (v0 : Addr) (v1 : Addr) (v2 : Addr) (v3 : Addr) (v4 : Addr) (v5 : Addr) (v6 : Addr) (v7 : Addr) (v8 : Addr) (v9 : Addr) (cs_v : Int32) (a1 : Addr) (a2 : Addr) (h0 : Heap) (n0 : Nat) (v : Option Value) (h : Heap) (L : List Loc) : Prop := v = some (.ref a1) ∧ Fr n0 L ∧ h = h0
theorem rm34 (l : Launch) (Z : State) (a0 : Array Value) (hw : ∀ d ∈ tables_1, d.before a0 Z = true) (ws : List Jvm.Cond) (v0 v1 v2 v3 v4 v5 v6 v7 v8 v9 : Addr) (cs_v : Int32) (hp : Perm Z v0 v1 v2 v3 v4 v5 v6 v7 v8 v9 cs_v) (a1 : Addr) (a2 : Addr) (h0 : Heap) (n0 : Nat) (O0 : Old Z n0 h0) :
    MetFree l y9 (head1 (Jvm.Cond.code y9 jdk_31_method_11_code 2 (some (.object "java/lang/Object")) :: ws) ({ frames := 0, cells := 0, slots := 0, locals := 0 } : Room)) (fun a U => a = #[(.ref a1), (.ref a2)] ∧ Z.Warmed39 U.vm ∧ U.heap = h0) (fun _ _ _ _ _ => True) (fun _ U o U' => ∃ v L, o = .returned v ∧ Q34 Z v0 v1 v2 v3 v4 v5 v6 v7 v8 v9 cs_v a1 a2 h0 n0 v U'.heap L ∧ FrameEnd U o U' L ({ frames := 0, cells := 0, slots := 0, locals := 0 } : Room).cells ({ frames := 0, cells := 0, slots := 0, locals := 0 } : Room).slots) := by
  refine MetFree.of_bodySF (plainFor_of_name pn_9) hisR ?_
  intro p e s m args below meth c s₁ Bd hml0 hP hK
  obtain ⟨rfl, hZ, hh⟩ := hP
  have hx := Bd.exec
  have hby := Bd.bytes
  have hml : c.maxLocals = 2 := hml0
  have hown : s.vm.findClass "java/util/Objects" = some m.cls := findClass_of_methodNamed Bd.named
  have hnm := (name_of_methodNamed Bd.named Bd.method).1
  have X0 : Stand p l e ({ frames := 0, cells := 0, slots := 0, locals := 0 } : Room) s m #[(.ref a1), (.ref a2)] below meth c s₁ [] 0 0 := Stand.of_body Bd
  have e0 : s₁.heap = h0 := by rw [← hh, Bd.state]; rfl
  have N0 := Fr.nil n0
  obtain ⟨fs, hr, hrun, hended, hW, hsame⟩ := X0.leave (v := some (.ref a1)) (fun h => by rw [Bd.returns] at h; cases h)
  refine ⟨_, _, castTop (ef_9_0 m a1 a2) ?_, hrun, hended, _, _, rfl, ?_, ⟨_, rfl⟩, hW, hsame.mono (by decide) (by decide)⟩
  · show Sp p e below s₁ (mkF m 0 #[.val (.ref a1), .val (.ref a2)] []) _
    refine XS.aloadN X0.here hx rfl (hb hby d9_0) rfl rfl ?_
    show Sp p e below s₁ (mkF m 1 #[.val (.ref a1), .val (.ref a2)] [(.ref a1)]) _
    refine XS.ifnonnullYes X0.here hx rfl (pc0 := 1) (pc' := 13) rfl (hb hby d9_1) rfl (by decide) (by decide) ?_
    refine XS.aloadN X0.here hx rfl (hb hby d9_13) rfl rfl ?_
    show Sp p e below s₁ (mkF m 14 #[.val (.ref a1), .val (.ref a2)] [(.ref a1)]) _
    jvm_step X0.here [X0.here.top, hx, (hb hby d9_14), X0.method', Bd.returns, Value.isRef, FieldType.isReference]
    first | (intro acts; rw [hr _ acts rfl rfl rfl]) | rw [hr _ _ rfl rfl rfl]
    exact Steps.refl _
  · show Q34 Z v0 v1 v2 v3 v4 v5 v6 v7 v8 v9 cs_v a1 a2 h0 n0 _ s₁.heap _
    rw [e0]
    exact ⟨rfl, N0, rfl⟩
theorem pd_9 : parseMethodDescriptor "(Ljava/lang/Object;Ljava/lang/String;)Ljava/lang/Object;" = some ⟨[(.object "java/lang/Object"), (.object "java/lang/String")], some (.object "java/lang/Object")⟩ := by decide +kernel
theorem d7_10 : decode prog_28_method_1_code 10 = .ok (.pop, 1) := by decide +kernel
theorem d7_11 : decode prog_28_method_1_code 11 = .ok (.aload_n 2, 1) := by decide +kernel
theorem d7_12 : decode prog_28_method_1_code 12 = .ok (.ldc 15, 2) := by decide +kernel
theorem d7_14 : decode prog_28_method_1_code 14 = .ok (.invokestatic 9, 3) := by decide +kernel
theorem d7_17 : decode prog_28_method_1_code 17 = .ok (.pop, 1) := by decide +kernel
theorem d7_18 : decode prog_28_method_1_code 18 = .ok (.aload_n 0, 1) := by decide +kernel
theorem d7_19 : decode prog_28_method_1_code 19 = .ok (.aload_n 1, 1) := by decide +kernel
theorem d7_20 : decode prog_28_method_1_code 20 = .ok (.putfield 17, 3) := by decide +kernel
theorem d7_23 : decode prog_28_method_1_code 23 = .ok (.aload_n 0, 1) := by decide +kernel
theorem d7_24 : decode prog_28_method_1_code 24 = .ok (.aload_n 2, 1) := by decide +kernel
theorem d7_25 : decode prog_28_method_1_code 25 = .ok (.putfield 22, 3) := by decide +kernel
theorem sn2 {Z : State} {a0 : Array Value} (hw : ∀ d ∈ tables_1, d.before a0 Z = true) : Jvm.RoadKit.slotOf Z "com/example/ratebook/ratebook/model/PricedItem" "resourceId" "Ljava/lang/String;" ≠ Jvm.RoadKit.slotOf Z "com/example/ratebook/ratebook/model/PricedItem" "category" "Lcom/example/ratebook/ratebook/model/Category;" := slot_ne (Or.inr (wq hw 57 rfl)) (Or.inr (wq hw 55 rfl)) (by decide) (t := (.object "java/lang/String")) (t' := (.object "com/example/ratebook/ratebook/model/Category")) (by decide) (by decide)
theorem d7_28 : decode prog_28_method_1_code 28 = .ok (.return_, 1) := by decide +kernel
theorem sn3 {Z : State} {a0 : Array Value} (hw : ∀ d ∈ tables_1, d.before a0 Z = true) : Jvm.RoadKit.slotOf Z "com/example/ratebook/ratebook/model/PricedItem" "category" "Lcom/example/ratebook/ratebook/model/Category;" ≠ Jvm.RoadKit.slotOf Z "com/example/ratebook/ratebook/model/PricedItem" "resourceId" "Ljava/lang/String;" := slot_ne (Or.inr (wq hw 55 rfl)) (Or.inr (wq hw 57 rfl)) (by decide) (t := (.object "com/example/ratebook/ratebook/model/Category")) (t' := (.object "java/lang/String")) (by decide) (by decide)
abbrev y10 : MethodName := (⟨"com/example/ratebook/ratebook/model/PricedItem", "<init>", "(Lcom/example/ratebook/ratebook/model/Category;Ljava/lang/String;)V"⟩ : MethodName)
theorem ef_7_0 (m : MethodId) (x0 : Addr) (x1 : Addr) (x2 : Addr) : entryFrame m #[(.ref x0), (.ref x1), (.ref x2)] 3 = mkF m 0 #[.val (.ref x0), .val (.ref x1), .val (.ref x2)] [] := by first | (simp [entryFrame, mkF, argsToLocals, Value.category]; done) | rfl
theorem pn_7 : plainName "com/example/ratebook/ratebook/model/PricedItem" = true := by first | (simp [plainName, overriddenIn]; done) | decide +kernel
def Q35 (Z : State) (v0 : Addr) (v1 : Addr) (v2 : Addr) (v3 : Addr) (v4 : Addr) (v5 : Addr) (v6 : Addr) (v7 : Addr) (v8 : Addr) (v9 : Addr) (cs_v : Int32) (a1 : Addr) (a2 : Addr) (a3 : Addr) (h0 : Heap) (n0 : Nat) (v : Option Value) (h : Heap) (L : List Loc) : Prop := v = none ∧ Fr n0 L ∧ Keep h0 h [a1] ∧ Exa Z h a1 "com/example/ratebook/ratebook/model/PricedItem" ∧ Fld Z h a1 "com/example/ratebook/ratebook/model/PricedItem" "category" "Lcom/example/ratebook/ratebook/model/Category;" (.ref a2) ∧ Fld Z h a1 "com/example/ratebook/ratebook/model/PricedItem" "resourceId" "Ljava/lang/String;" (.ref a3)
theorem rm35 (l : Launch) (Z : State) (a0 : Array Value) (hw : ∀ d ∈ tables_1, d.before a0 Z = true) (ws : List Jvm.Cond) (v0 v1 v2 v3 v4 v5 v6 v7 v8 v9 : Addr) (cs_v : Int32) (hp : Perm Z v0 v1 v2 v3 v4 v5 v6 v7 v8 v9 cs_v) (a1 : Addr) (a2 : Addr) (a3 : Addr) (h0 : Heap) (n0 : Nat) (O0 : Old Z n0 h0) (E_a1 : Exa Z h0 a1 "com/example/ratebook/ratebook/model/PricedItem") (F_category_a1 : Fld Z h0 a1 "com/example/ratebook/ratebook/model/PricedItem" "category" "Lcom/example/ratebook/ratebook/model/Category;" .null) (F_resourceId_a1 : Fld Z h0 a1 "com/example/ratebook/ratebook/model/PricedItem" "resourceId" "Ljava/lang/String;" .null) (g_a1 : n0 ≤ a1) :
    MetFree l y10 (head1 (Jvm.Cond.code y10 prog_28_method_1_code 3 none :: ws) ({ frames := 2, cells := 4, slots := 80, locals := 24 } : Room)) (fun a U => a = #[(.ref a1), (.ref a2), (.ref a3)] ∧ Z.Warmed39 U.vm ∧ U.heap = h0 ∧ CHv Z own_EL U.vm h0 ∧ ∀ x ∈ ([] : List Addr), Safe Z own_EL U.vm h0 x) (fun _ _ _ _ _ => True) (fun _ U o U' => ∃ v L, o = .returned v ∧ Q35 Z v0 v1 v2 v3 v4 v5 v6 v7 v8 v9 cs_v a1 a2 a3 h0 n0 v U'.heap L ∧ CHr Z own_EL U.vm U.heap U'.vm U'.heap ∧ ReturnedEndW U o U' L ({ frames := 2, cells := 4, slots := 80, locals := 24 } : Room).cells ({ frames := 2, cells := 4, slots := 80, locals := 24 } : Room).slots) := by
  refine MetFree.of_bodySF (plainFor_of_name pn_7) hisR ?_
  intro p e s m args below meth c s₁ Bd hml0 hP hK
  obtain ⟨rfl, hZo, hh, hCH, hSL⟩ := hP
  have hx := Bd.exec
  have hby := Bd.bytes
  have hml : c.maxLocals = 3 := hml0
  have hown : (s.setVm s.vm).vm.findClass "com/example/ratebook/ratebook/model/PricedItem" = some m.cls := findClass_of_methodNamed Bd.named
  have hnm := (name_of_methodNamed Bd.named Bd.method).1
  have X0 : Stand p l e ({ frames := 2, cells := 4, slots := 80, locals := 24 } : Room) (s.setVm s.vm) m #[(.ref a1), (.ref a2), (.ref a3)] below meth c s₁ [] 0 0 := Stand.of_body Bd
  have e0 : s₁.heap = h0 := by rw [← hh, Bd.state]; rfl
  have N0 := Fr.nil n0
  have hZ : Z.Warmed39 (s.setVm s.vm).vm := hZo
  have CH0 := CHr.refl hCH
  have hS0 : s.Since s.vm 0 := (State.WarmedH.refl s).since 0
  have hk0 : 0 ≤ h0.size := Nat.zero_le _
  obtain ⟨_, _, ⟨T1, L1, k1, n1⟩, -, X1, ⟨Lc1, hQ1, l1, y1, z1⟩, st1⟩ := X0.specialBack hx (y := y8) rfl hown (mvT hZ (wq hw 42 rfl)) (mvT hZ (wq hw 43 rfl)) (mvT hZ (wq hw 46 rfl)) (by decide) (backOf (W := 0) (rm33 l Z a0 hw [] v0 v1 v2 v3 v4 v5 v6 v7 v8 v9 cs_v hp a1 h0 n0 O0) hZ (wq hw 46 rfl) (wq hw 45 rfl) (by decide) (by decide)) (g := (mkF m 1 #[.val (.ref a1), .val (.ref a2), .val (.ref a3)] [(.ref a1)])) rfl (by rw [hml]; rfl) (Steps.refl _) (a := a1) (argsL := []) (rest := []) (lenOf pd_8 rfl) rfl (by show 2 * 0 + _ ≤ _; exact Nat.le_of_eq rfl) (hb hby d7_1) (fun _ _ => ⟨rfl, e0, (by decide : 0 + 0 ≤ _), (by decide : 0 + 0 ≤ _)⟩)
  dsimp only [Pt.U, Pt.locs, Pt.cells, Pt.slots] at X1 l1 y1 z1 st1 hQ1
  subst l1 y1 z1
  obtain ⟨rfl, Nq1, eq1⟩ := hQ1
  have N1 := Fr.app N0 Nq1
  obtain ⟨li2, T2, h2, k2, X2, e2, E2, hS2, hk2, hZ2, hown2, C2, L2, st2⟩ := ldcOH (EL := own_EL) X1 hx hZ hown (wq hw 48 rfl) (own_wS hw) eq1 hS0 hk0 (own_EW hw) CH0.1 (g := (mkF m 5 #[.val (.ref a1), .val (.ref a2), .val (.ref a3)] [(.ref a2)])) rfl (hb hby d7_5) (n := 32) (by decide) (by decide) (by decide) (by decide)
  have CH2 := CH0.trans C2
  have O2 := O0.ext E2
  have K2 : Keep h0 h2 [a1] := (Keep.refl h0 [a1]).ext E2
  obtain ⟨_, _, ⟨T3, L3, k3, n3⟩, -, X3, ⟨Lc3, hQ3, l3, y3, z3⟩, st3⟩ := Jvm.LawKit.callS X2 hx (y := y9) hown2 (mvT hZ2 (wq hw 49 rfl)) (mvT hZ2 (wq hw 50 rfl)) (mvT hZ2 (wq hw 51 rfl)) (mvT hZ2 (wq hw 52 rfl)) (by decide) (backOf (W := 0) (rm34 l Z a0 hw [] v0 v1 v2 v3 v4 v5 v6 v7 v8 v9 cs_v hp a2 li2 h2 n0 O2) hZ2 (wq hw 52 rfl) (wq hw 51 rfl) (by decide) (by decide)) (g := (mkF m 7 #[.val (.ref a1), .val (.ref a2), .val (.ref a3)] [(.ref li2), (.ref a2)])) rfl (by rw [hml]; rfl) (argsL := [(.ref a2), (.ref li2)]) (rest := []) (lenOf pd_9 rfl) rfl (by show 2 * 0 + _ ≤ _; exact Nat.le_of_eq rfl) (hb hby d7_7) (fun _ _ => ⟨rfl, e2, (by decide : 2 + 0 ≤ _), (by decide : 36 + 0 ≤ _)⟩)
  dsimp only [Pt.U, Pt.locs, Pt.cells, Pt.slots] at X3 l3 y3 z3 st3 hQ3
  subst l3 y3 z3
  obtain ⟨rfl, Nq3, eq3⟩ := hQ3
  have N3 := Fr.app N1 Nq3
  obtain ⟨li4, T4, h4, k4, X4, e4, E4, hS4, hk4, hZ4, hown4, C4, L4, st4⟩ := ldcOH (EL := own_EL) X3 hx hZ2 hown2 (wq hw 53 rfl) (own_wS hw) eq3 hS2 hk2 (own_EW hw) CH2.1 (g := (mkF m 12 #[.val (.ref a1), .val (.ref a2), .val (.ref a3)] [(.ref a3)])) rfl (hb hby d7_12) (n := 40) (by decide) (by decide) (by decide) (by decide)
  have CH4 := CH2.trans C4
  have O4 := O2.ext E4
  have K4 : Keep h0 h4 [a1] := K2.ext E4
  obtain ⟨_, _, ⟨T5, L5, k5, n5⟩, -, X5, ⟨Lc5, hQ5, l5, y5, z5⟩, st5⟩ := Jvm.LawKit.callS X4 hx (y := y9) hown4 (mvT hZ4 (wq hw 49 rfl)) (mvT hZ4 (wq hw 50 rfl)) (mvT hZ4 (wq hw 51 rfl)) (mvT hZ4 (wq hw 52 rfl)) (by decide) (backOf (W := 0) (rm34 l Z a0 hw [] v0 v1 v2 v3 v4 v5 v6 v7 v8 v9 cs_v hp a3 li4 h4 n0 O4) hZ4 (wq hw 52 rfl) (wq hw 51 rfl) (by decide) (by decide)) (g := (mkF m 14 #[.val (.ref a1), .val (.ref a2), .val (.ref a3)] [(.ref li4), (.ref a3)])) rfl (by rw [hml]; rfl) (argsL := [(.ref a3), (.ref li4)]) (rest := []) (lenOf pd_9 rfl) rfl (by show 2 * 0 + _ ≤ _; exact Nat.le_of_eq rfl) (hb hby d7_14) (fun _ _ => ⟨rfl, e4, (by decide : 4 + 0 ≤ _), (by decide : 80 + 0 ≤ _)⟩)
  dsimp only [Pt.U, Pt.locs, Pt.cells, Pt.slots] at X5 l5 y5 z5 st5 hQ5
  subst l5 y5 z5
  obtain ⟨rfl, Nq5, eq5⟩ := hQ5
  have N5 := Fr.app N3 Nq5
  obtain ⟨T6, h6, X6, e6, W6, st6⟩ := putF X5 hx hZ4 hown4 (host := "") (Or.inl (wq hw 54 rfl)) Via.refl eq5 ((F_category_a1.ext E2).ext E4) ((E_a1.ext E2).ext E4) (Or.inr ⟨(wq hw 55 rfl), rfl, hnm⟩) (wq hw 31 rfl) (ty := (.object "com/example/ratebook/ratebook/model/Category")) (by decide) rfl rfl (g := (mkF m 20 #[.val (.ref a1), .val (.ref a2), .val (.ref a3)] [(.ref a2), (.ref a1)])) rfl rfl (hb hby d7_20)
  have N6 := Fr.snoc X6 N5 g_a1
  have K6 : Keep h0 h6 [a1] := K4.wr W6 (Or.inl (ma 0 rfl))
  have CH6 := CH4.trans (CHr.wr W6 (Safe.exa hZ4.alike ((E_a1.ext E2).ext E4) (by decide) (by decide)) CH4.1)
  have hk6 := Nat.le_trans hk4 (Keep.of_wr W6).1
  have Fw6 := ((F_category_a1.ext E2).ext E4).same W6
  have f_7 := (((F_resourceId_a1.ext E2).ext E4).other W6 (Or.inr (sn2 hw)))
  obtain ⟨T8, h8, X8, e8, W8, st8⟩ := putF X6 hx hZ4 hown4 (host := "") (Or.inl (wq hw 56 rfl)) Via.refl e6 f_7 (((E_a1.ext E2).ext E4).wr W6) (Or.inr ⟨(wq hw 57 rfl), rfl, hnm⟩) (wq hw 31 rfl) (ty := (.object "java/lang/String")) (by decide) rfl rfl (g := (mkF m 25 #[.val (.ref a1), .val (.ref a2), .val (.ref a3)] [(.ref a3), (.ref a1)])) rfl rfl (hb hby d7_25)
  have N8 := Fr.snoc X8 N6 g_a1
  have K8 : Keep h0 h8 [a1] := K6.wr W8 (Or.inl (ma 0 rfl))
  have CH8 := CH6.trans (CHr.wr W8 (Safe.exa hZ4.alike (((E_a1.ext E2).ext E4).wr W6) (by decide) (by decide)) CH6.1)
  have hk8 := Nat.le_trans hk6 (Keep.of_wr W8).1
  have Fw8 := f_7.same W8
  obtain ⟨fs, hr, hrun, hended, hE⟩ := Stand.leaveW (s := s) X8 hS4 (by rw [e8]; exact hk8) (v := none) (fun _ => rfl)
  have CHz : CHr Z own_EL s.vm s.heap (T8.setFrames fs).vm (T8.setFrames fs).heap := by
    rw [hh]
    show CHr Z own_EL s.vm h0 T8.vm T8.heap
    rw [e8]; exact CH8.trans (CHv.at X8 hZ4 (own_EW hw) CH8.1)
  refine ⟨_, _, castTop (ef_7_0 m a1 a2 a3) ?_, hrun, hended, _, _, rfl, ?_, CHz, hE.1, hE.2.1, hE.2.2.1, hE.2.2.2.mono (by decide) (by decide)⟩
  · show Sp p e below s₁ (mkF m 0 #[.val (.ref a1), .val (.ref a2), .val (.ref a3)] []) _
    refine XS.aloadN X0.here hx rfl (hb hby d7_0) rfl rfl ?_
    show Sp p e below s₁ (mkF m 1 #[.val (.ref a1), .val (.ref a2), .val (.ref a3)] [(.ref a1)]) _
    refine st1.trans ?_
    show Sp p e below T1 (mkF m 4 #[.val (.ref a1), .val (.ref a2), .val (.ref a3)] []) _
    refine XS.aloadN X1.here hx rfl (hb hby d7_4) rfl rfl ?_
    show Sp p e below T1 (mkF m 5 #[.val (.ref a1), .val (.ref a2), .val (.ref a3)] [(.ref a2)]) _
    refine st2 _ ?_
    show Sp p e below T2 (mkF m 7 #[.val (.ref a1), .val (.ref a2), .val (.ref a3)] [(.ref li2), (.ref a2)]) _
    refine st3 _ ?_
    show Sp p e below T3 (mkF m 10 #[.val (.ref a1), .val (.ref a2), .val (.ref a3)] [(.ref a2)]) _
    refine XS.pop X3.here hx rfl (hb hby d7_10) rfl rfl ?_
    refine XS.aloadN X3.here hx rfl (hb hby d7_11) rfl rfl ?_
    show Sp p e below T3 (mkF m 12 #[.val (.ref a1), .val (.ref a2), .val (.ref a3)] [(.ref a3)]) _
    refine st4 _ ?_
    show Sp p e below T4 (mkF m 14 #[.val (.ref a1), .val (.ref a2), .val (.ref a3)] [(.ref li4), (.ref a3)]) _
    refine st5 _ ?_
    show Sp p e below T5 (mkF m 17 #[.val (.ref a1), .val (.ref a2), .val (.ref a3)] [(.ref a3)]) _
    refine XS.pop X5.here hx rfl (hb hby d7_17) rfl rfl ?_
    refine XS.aloadN X5.here hx rfl (hb hby d7_18) rfl rfl ?_
    refine XS.aloadN X5.here hx rfl (hb hby d7_19) rfl rfl ?_
    show Sp p e below T5 (mkF m 20 #[.val (.ref a1), .val (.ref a2), .val (.ref a3)] [(.ref a2), (.ref a1)]) _
    refine st6 _ ?_
    show Sp p e below T6 (mkF m 23 #[.val (.ref a1), .val (.ref a2), .val (.ref a3)] []) _
    refine XS.aloadN X6.here hx rfl (hb hby d7_23) rfl rfl ?_
    refine XS.aloadN X6.here hx rfl (hb hby d7_24) rfl rfl ?_
    show Sp p e below T6 (mkF m 25 #[.val (.ref a1), .val (.ref a2), .val (.ref a3)] [(.ref a3), (.ref a1)]) _
    refine st8 _ ?_
    show Sp p e below T8 (mkF m 28 #[.val (.ref a1), .val (.ref a2), .val (.ref a3)] []) _
    exact X8.returnOut hx Bd.returns (hb hby d7_28) hr
  · show Q35 Z v0 v1 v2 v3 v4 v5 v6 v7 v8 v9 cs_v a1 a2 a3 h0 n0 _ T8.heap _
    rw [e8]
    exact ⟨rfl, N8, K8, ((((E_a1.ext E2).ext E4).wr W6).wr W8), (Fw6.other W8 (Or.inr (sn3 hw))), Fw8⟩
theorem pd_10 : parseMethodDescriptor "(Lcom/example/ratebook/ratebook/model/Category;Ljava/lang/String;)V" = some ⟨[(.object "com/example/ratebook/ratebook/model/Category"), (.object "java/lang/String")], none⟩ := by decide +kernel
theorem d10_0 : decode prog_28_method_2_code 0 = .ok (.aload_n 1, 1) := by decide +kernel
theorem d10_1 : decode prog_28_method_2_code 1 = .ok (.instanceof 18, 3) := by decide +kernel
theorem d10_4 : decode prog_28_method_2_code 4 = .ok (.ifCond .eq 37, 3) := by decide +kernel
theorem d10_41 : decode prog_28_method_2_code 41 = .ok (.iconst 0, 1) := by decide +kernel
theorem d10_42 : decode prog_28_method_2_code 42 = .ok (.ireturn, 1) := by decide +kernel
abbrev y11 : MethodName := (⟨"com/example/ratebook/ratebook/model/PricedItem", "equals", "(Ljava/lang/Object;)Z"⟩ : MethodName)
theorem ef_10_0 (m : MethodId) (x0 : Addr) : entryFrame m #[(.ref x0), .null] 3 = mkF m 0 #[.val (.ref x0), .val .null, .unset] [] := by first | (simp [entryFrame, mkF, argsToLocals, Value.category]; done) | rfl
def Q36 (Z : State) (v0 : Addr) (v1 : Addr) (v2 : Addr) (v3 : Addr) (v4 : Addr) (v5 : Addr) (v6 : Addr) (v7 : Addr) (v8 : Addr) (v9 : Addr) (cs_v : Int32) (a1 : Addr) (h0 : Heap) (n0 : Nat) (v : Option Value) (h : Heap) (L : List Loc) : Prop := v = some (.int (0 : Int32)) ∧ Fr n0 L ∧ h = h0
theorem rm36 (l : Launch) (Z : State) (a0 : Array Value) (hw : ∀ d ∈ tables_1, d.before a0 Z = true) (ws : List Jvm.Cond) (v0 v1 v2 v3 v4 v5 v6 v7 v8 v9 : Addr) (cs_v : Int32) (hp : Perm Z v0 v1 v2 v3 v4 v5 v6 v7 v8 v9 cs_v) (a1 : Addr) (h0 : Heap) (n0 : Nat) (O0 : Old Z n0 h0) :
    MetFree l y11 (head1 (Jvm.Cond.code y11 prog_28_method_2_code 3 (some .boolean) :: ws) ({ frames := 0, cells := 0, slots := 0, locals := 0 } : Room)) (fun a U => a = #[(.ref a1), .null] ∧ Z.Warmed39 U.vm ∧ U.heap = h0) (fun _ _ _ _ _ => True) (fun _ U o U' => ∃ v L, o = .returned v ∧ Q36 Z v0 v1 v2 v3 v4 v5 v6 v7 v8 v9 cs_v a1 h0 n0 v U'.heap L ∧ FrameEnd U o U' L ({ frames := 0, cells := 0, slots := 0, locals := 0 } : Room).cells ({ frames := 0, cells := 0, slots := 0, locals := 0 } : Room).slots) := by
  refine MetFree.of_bodySF (plainFor_of_name pn_7) hisR ?_
  intro p e s m args below meth c s₁ Bd hml0 hP hK
  obtain ⟨rfl, hZ, hh⟩ := hP
  have hx := Bd.exec
  have hby := Bd.bytes
  have hml : c.maxLocals = 3 := hml0
  have hown : s.vm.findClass "com/example/ratebook/ratebook/model/PricedItem" = some m.cls := findClass_of_methodNamed Bd.named
  have hnm := (name_of_methodNamed Bd.named Bd.method).1
  have X0 : Stand p l e ({ frames := 0, cells := 0, slots := 0, locals := 0 } : Room) s m #[(.ref a1), .null] below meth c s₁ [] 0 0 := Stand.of_body Bd
  have e0 : s₁.heap = h0 := by rw [← hh, Bd.state]; rfl
  have N0 := Fr.nil n0
  obtain ⟨fs, hr, hrun, hended, hW, hsame⟩ := X0.leave (v := some (.int (0 : Int32))) (fun h => by rw [Bd.returns] at h; cases h)
  refine ⟨_, _, castTop (ef_10_0 m a1) ?_, hrun, hended, _, _, rfl, ?_, ⟨_, rfl⟩, hW, hsame.mono (by decide) (by decide)⟩
  · show Sp p e below s₁ (mkF m 0 #[.val (.ref a1), .val .null, .unset] []) _
    refine XS.aloadN X0.here hx rfl (hb hby d10_0) rfl rfl ?_
    show Sp p e below s₁ (mkF m 1 #[.val (.ref a1), .val .null, .unset] [.null]) _
    refine X0.instanceofNull hx (g := (mkF m 1 #[.val (.ref a1), .val .null, .unset] [.null])) rfl rfl (hb hby d10_1) _ ?_
    show Sp p e below s₁ (mkF m 4 #[.val (.ref a1), .val .null, .unset] [(.int (0 : Int32))]) _
    refine XS.ifYes X0.here hx rfl (pc0 := 4) (pc' := 41) rfl (hb hby d10_4) rfl ((if0 _ _).trans (teq (by decide : (0 : Int32) = (0 : Int32))).1) (by decide) (by decide) ?_
    refine XS.iconst X0.here hx rfl (hb hby d10_41) ?_
    show Sp p e below s₁ (mkF m 42 #[.val (.ref a1), .val .null, .unset] [(.int (0 : Int32))]) _
    exact retN X0 hx (t := .boolean) Bd.returns (by simp) (hb hby d10_42) hr
  · show Q36 Z v0 v1 v2 v3 v4 v5 v6 v7 v8 v9 cs_v a1 h0 n0 _ s₁.heap _
    rw [e0]
    exact ⟨rfl, N0, rfl⟩
theorem pd_11 : parseMethodDescriptor "(Ljava/lang/Object;)Z" = some ⟨[(.object "java/lang/Object")], some .boolean⟩ := by decide +kernel
theorem ef_0_0 (m : MethodId) (x0 : Int32) (x1 : Int32) (x2 : Int32) (x3 : Int32) (x4 : Int32) : entryFrame m #[(.int x0), (.int x1), (.int x2), (.int x3), (.int x4)] maxLocals = mkF m 0 #[.val (.int x0), .val (.int x1), .val (.int x2), .val (.int x3), .val (.int x4), .unset, .unset, .unset, .unset, .unset, .unset, .unset, .unset, .unset, .unset] [] := by first | (simp [entryFrame, mkF, argsToLocals, Value.category, maxLocals]; done) | rfl
theorem rm37 (l : Launch) (Z : State) (a0 : Array Value) (hw : ∀ d ∈ tables_1, d.before a0 Z = true) (ws : List Jvm.Cond) (v0 v1 v2 v3 v4 v5 v6 v7 v8 v9 : Addr) (cs_v : Int32) (hp : Perm Z v0 v1 v2 v3 v4 v5 v6 v7 v8 v9 cs_v) (p0 : Int32) (p1 : Int32) (p2 : Int32) (p3 : Int32) (p4 : Int32) (z6 : Int32) (z7 : Int32) (h0 : Heap) (n0 : Nat) (O0 : Old Z n0 h0) (hcut0 : Cut_0_0 p0 p1 p2 p3 p4 z6 z7) (hz0 : 0 ≤ z6.toInt ∧ z6.toInt < 10) (hc3 : (((p4.toUInt32 >>> ((8 : Int32) &&& 31).toUInt32).toInt32) &&& (3 : Int32)) = (1 : Int32)) :
    MetFree l x (head1 (Jvm.Cond.code x code maxLocals ret :: ws) room_1) (fun a U => a = #[(.int p0), (.int p1), (.int p2), (.int p3), (.int p4)] ∧ Z.Warmed39 U.vm ∧ U.heap = h0 ∧ CHv Z own_EL U.vm h0) (fun _ _ _ _ _ => True) (fun _ U o U' => ∃ v L, o = .returned v ∧ (v = some (.int (1 : Int32)) ∧ Fr n0 L) ∧ ReturnedEndW U o U' L 32 3200) := by
  refine MetFree.of_bodySF (plainFor_of_name pn_2) hisR ?_
  intro p e s m args below meth c s₁ Bd hml0 hP hK
  obtain ⟨rfl, hZo, hh, hCH⟩ := hP
  have hx := Bd.exec
  have hby := Bd.bytes
  have hml : c.maxLocals = 15 := hml0
  have hown : (s.setVm s.vm).vm.findClass "com/example/ratebook/ratebook/model/PricedItemEqualsPinLaw" = some m.cls := findClass_of_methodNamed Bd.named
  have hnm := (name_of_methodNamed Bd.named Bd.method).1
  have X0 : Stand p l e room_1 (s.setVm s.vm) m #[(.int p0), (.int p1), (.int p2), (.int p3), (.int p4)] below meth c s₁ [] 0 0 := Stand.of_body Bd
  have e0 : s₁.heap = h0 := by rw [← hh, Bd.state]; rfl
  have N0 := Fr.nil n0
  have hZ : Z.Warmed39 (s.setVm s.vm).vm := hZo
  have CH0 := CHr.refl hCH
  have hS0 : s.Since s.vm 0 := (State.WarmedH.refl s).since 0
  have hk0 : 0 ≤ h0.size := Nat.zero_le _
  have st1 := hcut0 X0 hx hZ hw hby hown
  obtain ⟨_, _, ⟨T2, L2, k2, n2⟩, -, XX2, Sq2, gq2, ⟨Lc2, hQ2, l2, y2, z2, C2⟩, st2⟩ := callSS X0 hx (y := y3) hown (mvT hZ (wq hw 1 rfl)) (mvT hZ (wq hw 2 rfl)) (mvT hZ (wq hw 3 rfl)) (mvT hZ (wq hw 4 rfl)) (by decide) (own_backC (SL := []) (W := 0) (rmS1 l Z a0 hw [] v0 v1 v2 v3 v4 v5 v6 v7 v8 v9 cs_v hp p2 h0 n0 O0) hZ (wq hw 4 rfl) (wq hw 3 rfl) (by decide) (by decide) (own_EW hw) CH0.1 all0) (g := (mkF m 76 #[.val (.int p0), .val (.int p1), .val (.int p2), .val (.int p3), .val (.int p4), .val (.int (fx1 p0)), .val (.int z6), .val (.int z7), .val (.int (fx3 p4)), .unset, .unset, .unset, .unset, .unset, .unset] [(.int p2)])) rfl (by rw [hml]; rfl) (argsL := [(.int p2)]) (rest := []) (lenOf pd_6 rfl) rfl (by show 2 * 0 + _ ≤ _; exact Nat.le_of_eq rfl) (hb hby at_76) (fun _ _ => ⟨rfl, e0, (by decide : 0 + 4 ≤ _), (by decide : 0 + 10 ≤ _)⟩)
  dsimp only [Pt.U, Pt.locs, Pt.cells, Pt.slots] at XX2 Sq2 gq2 l2 y2 z2 st2 hQ2 C2
  subst l2 y2 z2
  obtain ⟨X2, hS2, hZ2, hown2⟩ := rebS hS0 (by rw [e0]; exact hk0) XX2 Sq2 gq2 hZ hown
  obtain ⟨b2_0, y2_0, kc2_0, rfl, Nq2, Kq2, sq_b2_0, fq2_0, fq2_1, fq2_2, fq2_3⟩ := hQ2
  have N2 := Fr.app N0 Nq2
  have CH2 := CH0.trans C2
  have hk2 : T2.heap.size ≤ T2.heap.size := Nat.le_refl _
  have O2 := O0.keep Kq2 all0
  obtain ⟨_, _, ⟨T3, L3, k3, n3⟩, -, XX3, Sq3, gq3, ⟨Lc3, hQ3, l3, y3, z3, C3⟩, st3⟩ := callSS X2 hx (y := y3) hown2 (mvT hZ2 (wq hw 1 rfl)) (mvT hZ2 (wq hw 2 rfl)) (mvT hZ2 (wq hw 3 rfl)) (mvT hZ2 (wq hw 4 rfl)) (by decide) (own_backC (SL := []) (W := 0) (rmS1 l Z a0 hw [] v0 v1 v2 v3 v4 v5 v6 v7 v8 v9 cs_v hp z7 T2.heap n0 O2) hZ2 (wq hw 4 rfl) (wq hw 3 rfl) (by decide) (by decide) (own_EW hw) CH2.1 all0) (g := (mkF m 83 #[.val (.int p0), .val (.int p1), .val (.int p2), .val (.int p3), .val (.int p4), .val (.int (fx1 p0)), .val (.int z6), .val (.int z7), .val (.int (fx3 p4)), .val (.ref b2_0), .unset, .unset, .unset, .unset, .unset] [(.int z7)])) rfl (by rw [hml]; rfl) (argsL := [(.int z7)]) (rest := []) (lenOf pd_6 rfl) rfl (by show 2 * 0 + _ ≤ _; exact Nat.le_of_eq rfl) (hb hby at_83) (fun _ _ => ⟨rfl, rfl, (by decide : 4 + 4 ≤ _), (by decide : 10 + 10 ≤ _)⟩)
  dsimp only [Pt.U, Pt.locs, Pt.cells, Pt.slots] at XX3 Sq3 gq3 l3 y3 z3 st3 hQ3 C3
  subst l3 y3 z3
  obtain ⟨X3, hS3, hZ3, hown3⟩ := rebS hS2 hk2 XX3 Sq3 gq3 hZ2 hown2
  obtain ⟨b3_0, y3_0, kc3_0, rfl, Nq3, Kq3, sq_b3_0, fq3_0, fq3_1, fq3_2, fq3_3⟩ := hQ3
  have N3 := Fr.app N2 Nq3
  have CH3 := CH2.trans C3
  have hk3 : T3.heap.size ≤ T3.heap.size := Nat.le_refl _
  have O3 := O2.keep Kq3 all0
  obtain ⟨T4, h4, X4, e4, E4, A4, D4, -, st4⟩ := newO X3 hx hZ3 hown3 (wq hw 30 rfl) (wq hw 31 rfl) (wq hw 32 rfl) rfl (g := (mkF m 88 #[.val (.int p0), .val (.int p1), .val (.int p2), .val (.int p3), .val (.int p4), .val (.int (fx1 p0)), .val (.int z6), .val (.int z7), .val (.int (fx3 p4)), .val (.ref b2_0), .val (.ref b3_0), .unset, .unset, .unset, .unset] [])) rfl (hb hby at_88) (by decide) (by decide)
  obtain ⟨b4, g4⟩ : ∃ z, z = T3.heap.size := ⟨_, rfl⟩
  rw [← g4] at A4 D4 st4
  have g_b4 : n0 ≤ b4 := Nat.le_trans (own_sz O3) (Nat.le_of_eq g4.symm)
  have O4 := O3.ext E4
  have CH4 := CH3.trans (CHr.ext E4 CH3.1)
  have hk4 := Nat.le_trans hk3 E4.1
  have F_category_b4 : Fld Z h4 b4 "com/example/ratebook/ratebook/model/PricedItem" "category" "Lcom/example/ratebook/ratebook/model/Category;" .null := D4 (Or.inr (wq hw 55 rfl)) (ty := (.object "com/example/ratebook/ratebook/model/Category")) (by decide)
  have F_resourceId_b4 : Fld Z h4 b4 "com/example/ratebook/ratebook/model/PricedItem" "resourceId" "Ljava/lang/String;" .null := D4 (Or.inr (wq hw 57 rfl)) (ty := (.object "java/lang/String")) (by decide)
  obtain ⟨_, _, ⟨T5, L5, k5, n5⟩, -, X5, ⟨Lc5, hQ5, l5, y5, z5⟩, st5⟩ := Jvm.LawKit.callS X4 hx (y := y7) hown3 (mvT hZ3 (wq hw 33 rfl)) (mvT hZ3 (wq hw 34 rfl)) (mvT hZ3 (wq hw 3 rfl)) (mvT hZ3 (wq hw 35 rfl)) (by decide) (backOf (W := 2) (rmK6 l Z a0 hw [] v0 v1 v2 v3 v4 v5 v6 v7 v8 v9 cs_v hp ((p0 &&& (2147483647 : Int32)) % (10 : Int32)) h4 n0 O4) hZ3 (wq hw 35 rfl) (wq hw 3 rfl) (by decide) (by decide)) (g := (mkF m 94 #[.val (.int p0), .val (.int p1), .val (.int p2), .val (.int p3), .val (.int p4), .val (.int (fx1 p0)), .val (.int z6), .val (.int z7), .val (.int (fx3 p4)), .val (.ref b2_0), .val (.ref b3_0), .unset, .unset, .unset, .unset] [(.int (fx1 p0)), (.ref b4), (.ref b4)])) rfl (by rw [hml]; rfl) (argsL := [(.int (fx1 p0))]) (rest := [(.ref b4), (.ref b4)]) (lenOf pd_7 rfl) rfl (by show 2 * 0 + _ ≤ _; exact Nat.le_of_eq rfl) (hb hby at_94) (fun _ _ => ⟨rfl, e4, (by decide : 9 + 0 ≤ _), (by decide : 22 + 0 ≤ _)⟩)
  dsimp only [Pt.U, Pt.locs, Pt.cells, Pt.slots] at X5 l5 y5 z5 st5 hQ5
  subst l5 y5 z5
  obtain ⟨c5_0, rfl, Nq5, eq5, oq5_0, oq5_1⟩ := hQ5
  have N5 := Fr.app N3 Nq5
  obtain ⟨_, _, ⟨T6, L6, k6, n6⟩, -, XX6, Sq6, gq6, ⟨Lc6, hQ6, l6, y6, z6, C6⟩, st6⟩ := X5.specialBackS hx (y := y10) rfl hown3 (mvT hZ3 (wq hw 39 rfl)) (mvT hZ3 (wq hw 40 rfl)) (mvT hZ3 (wq hw 41 rfl)) (by decide) (own_backC (SL := []) (W := 1) (rm35 l Z a0 hw [] v0 v1 v2 v3 v4 v5 v6 v7 v8 v9 cs_v hp b4 c5_0 b2_0 h4 n0 O4 A4 F_category_b4 F_resourceId_b4 g_b4) hZ3 (wq hw 41 rfl) (wq hw 32 rfl) (by decide) (by decide) (own_EW hw) CH4.1 all0) (g := (mkF m 99 #[.val (.int p0), .val (.int p1), .val (.int p2), .val (.int p3), .val (.int p4), .val (.int (fx1 p0)), .val (.int z6), .val (.int z7), .val (.int (fx3 p4)), .val (.ref b2_0), .val (.ref b3_0), .unset, .unset, .unset, .unset] [(.ref b2_0), (.ref c5_0), (.ref b4), (.ref b4)])) rfl (by rw [hml]; rfl) (Steps.refl _) (a := b4) (argsL := [(.ref c5_0), (.ref b2_0)]) (rest := [(.ref b4)]) (lenOf pd_10 rfl) rfl (by show 2 * 0 + _ ≤ _; exact Nat.le_of_eq rfl) (hb hby at_99) (fun _ _ => ⟨rfl, eq5, (by decide : 9 + 4 ≤ _), (by decide : 22 + 80 ≤ _)⟩)
  dsimp only [Pt.U, Pt.locs, Pt.cells, Pt.slots] at XX6 Sq6 gq6 l6 y6 z6 st6 hQ6 C6
  subst l6 y6 z6
  obtain ⟨X6, hS6, hZ6, hown6⟩ := rebS hS3 (by rw [eq5]; exact hk4) XX6 Sq6 gq6 hZ3 hown3
  obtain ⟨rfl, Nq6, Kq6, fq6_0, fq6_1, fq6_2⟩ := hQ6
  have N6 := Fr.app N5 Nq6
  have CH6 := CH4.trans C6
  have hk6 : T6.heap.size ≤ T6.heap.size := Nat.le_refl _
  have O6 := O4.keep Kq6 (allS g_b4 all0)
  obtain ⟨T7, h7, X7, e7, E7, A7, D7, -, st7⟩ := newO X6 hx hZ6 hown6 (wq hw 30 rfl) (wq hw 31 rfl) (wq hw 32 rfl) rfl (g := (mkF m 104 #[.val (.int p0), .val (.int p1), .val (.int p2), .val (.int p3), .val (.int p4), .val (.int (fx1 p0)), .val (.int z6), .val (.int z7), .val (.int (fx3 p4)), .val (.ref b2_0), .val (.ref b3_0), .val (.ref b4), .unset, .unset, .unset] [])) rfl (hb hby at_104) (by decide) (by decide)
  obtain ⟨b7, g7⟩ : ∃ z, z = T6.heap.size := ⟨_, rfl⟩
  rw [← g7] at A7 D7 st7
  have g_b7 : n0 ≤ b7 := Nat.le_trans (own_sz O6) (Nat.le_of_eq g7.symm)
  have O7 := O6.ext E7
  have CH7 := CH6.trans (CHr.ext E7 CH6.1)
  have hk7 := Nat.le_trans hk6 E7.1
  have F_category_b7 : Fld Z h7 b7 "com/example/ratebook/ratebook/model/PricedItem" "category" "Lcom/example/ratebook/ratebook/model/Category;" .null := D7 (Or.inr (wq hw 55 rfl)) (ty := (.object "com/example/ratebook/ratebook/model/Category")) (by decide)
  have F_resourceId_b7 : Fld Z h7 b7 "com/example/ratebook/ratebook/model/PricedItem" "resourceId" "Ljava/lang/String;" .null := D7 (Or.inr (wq hw 57 rfl)) (ty := (.object "java/lang/String")) (by decide)
  obtain ⟨_, _, ⟨T8, L8, k8, n8⟩, -, X8, ⟨Lc8, hQ8, l8, y8, z8⟩, st8⟩ := Jvm.LawKit.callS X7 hx (y := y7) hown6 (mvT hZ6 (wq hw 33 rfl)) (mvT hZ6 (wq hw 34 rfl)) (mvT hZ6 (wq hw 3 rfl)) (mvT hZ6 (wq hw 35 rfl)) (by decide) (backOf (W := 2) (rmK6 l Z a0 hw [] v0 v1 v2 v3 v4 v5 v6 v7 v8 v9 cs_v hp z6 h7 n0 O7) hZ6 (wq hw 35 rfl) (wq hw 3 rfl) (by decide) (by decide)) (g := (mkF m 110 #[.val (.int p0), .val (.int p1), .val (.int p2), .val (.int p3), .val (.int p4), .val (.int (fx1 p0)), .val (.int z6), .val (.int z7), .val (.int (fx3 p4)), .val (.ref b2_0), .val (.ref b3_0), .val (.ref b4), .unset, .unset, .unset] [(.int z6), (.ref b7), (.ref b7)])) rfl (by rw [hml]; rfl) (argsL := [(.int z6)]) (rest := [(.ref b7), (.ref b7)]) (lenOf pd_7 rfl) rfl (by show 2 * 0 + _ ≤ _; exact Nat.le_of_eq rfl) (hb hby at_110) (fun _ _ => ⟨rfl, e7, (by decide : 14 + 0 ≤ _), (by decide : 104 + 0 ≤ _)⟩)
  dsimp only [Pt.U, Pt.locs, Pt.cells, Pt.slots] at X8 l8 y8 z8 st8 hQ8
  subst l8 y8 z8
  obtain ⟨c8_0, rfl, Nq8, eq8, oq8_0, oq8_1⟩ := hQ8
  have N8 := Fr.app N6 Nq8
  obtain ⟨_, _, ⟨T9, L9, k9, n9⟩, -, XX9, Sq9, gq9, ⟨Lc9, hQ9, l9, y9, z9, C9⟩, st9⟩ := X8.specialBackS hx (y := y10) rfl hown6 (mvT hZ6 (wq hw 39 rfl)) (mvT hZ6 (wq hw 40 rfl)) (mvT hZ6 (wq hw 41 rfl)) (by decide) (own_backC (SL := []) (W := 1) (rm35 l Z a0 hw [] v0 v1 v2 v3 v4 v5 v6 v7 v8 v9 cs_v hp b7 c8_0 b3_0 h7 n0 O7 A7 F_category_b7 F_resourceId_b7 g_b7) hZ6 (wq hw 41 rfl) (wq hw 32 rfl) (by decide) (by decide) (own_EW hw) CH7.1 all0) (g := (mkF m 115 #[.val (.int p0), .val (.int p1), .val (.int p2), .val (.int p3), .val (.int p4), .val (.int (fx1 p0)), .val (.int z6), .val (.int z7), .val (.int (fx3 p4)), .val (.ref b2_0), .val (.ref b3_0), .val (.ref b4), .unset, .unset, .unset] [(.ref b3_0), (.ref c8_0), (.ref b7), (.ref b7)])) rfl (by rw [hml]; rfl) (Steps.refl _) (a := b7) (argsL := [(.ref c8_0), (.ref b3_0)]) (rest := [(.ref b7)]) (lenOf pd_10 rfl) rfl (by show 2 * 0 + _ ≤ _; exact Nat.le_of_eq rfl) (hb hby at_115) (fun _ _ => ⟨rfl, eq8, (by decide : 14 + 4 ≤ _), (by decide : 104 + 80 ≤ _)⟩)
  dsimp only [Pt.U, Pt.locs, Pt.cells, Pt.slots] at XX9 Sq9 gq9 l9 y9 z9 st9 hQ9 C9
  subst l9 y9 z9
  obtain ⟨X9, hS9, hZ9, hown9⟩ := rebS hS6 (by rw [eq8]; exact hk7) XX9 Sq9 gq9 hZ6 hown6
  obtain ⟨rfl, Nq9, Kq9, fq9_0, fq9_1, fq9_2⟩ := hQ9
  have N9 := Fr.app N8 Nq9
  have CH9 := CH7.trans C9
  have hk9 : T9.heap.size ≤ T9.heap.size := Nat.le_refl _
  have O9 := O7.keep Kq9 (allS g_b7 all0)
  obtain ⟨cq10, kq10, q10a, q10b, q10c⟩ := isOf hZ9 rfl ((fq6_0.ext E7).keep Kq9)
  obtain ⟨_, _, ⟨T10, L10, k10, n10⟩, -, X10, ⟨Lc10, hQ10, l10, y10, z10⟩, st10⟩ := X9.virtualBack hx (y := y11) (z := y11) hown9 (mvT hZ9 (wq hw 60 rfl)) (mvT hZ9 (wq hw 61 rfl)) (notFace_of_selects (args := #[]) (mvT hZ9 (wq hw 63 rfl))) (mvT hZ9 (wq hw 63 rfl)) (mvT hZ9 (wq hw 62 rfl)) (by decide) (backOf (W := 0) (rm36 l Z a0 hw [] v0 v1 v2 v3 v4 v5 v6 v7 v8 v9 cs_v hp b4 T9.heap n0 O9) hZ9 (wq hw 64 rfl) (wq hw 32 rfl) (by decide) (by decide)) q10a q10c (g := (mkF m 219 #[.val (.int p0), .val (.int p1), .val (.int p2), .val (.int p3), .val (.int p4), .val (.int (fx1 p0)), .val (.int z6), .val (.int z7), .val (.int (fx3 p4)), .val (.ref b2_0), .val (.ref b3_0), .val (.ref b4), .val (.ref b7), .val .null, .val (.int (0 : Int32))] [.null, (.ref b4)])) rfl (by rw [hml]; rfl) (Steps.refl _) (argsL := [.null]) (rest := []) (lenOf pd_11 rfl) rfl (by show 2 * 0 + _ ≤ _; exact Nat.le_of_eq rfl) (hb hby at_219) (fun _ _ => ⟨rfl, rfl, (by decide : 18 + 0 ≤ _), (by decide : 184 + 0 ≤ _)⟩)
  dsimp only [Pt.U, Pt.locs, Pt.cells, Pt.slots] at X10 l10 y10 z10 st10 hQ10
  subst l10 y10 z10
  obtain ⟨rfl, Nq10, eq10⟩ := hQ10
  have N10 := Fr.app N9 Nq10
  obtain ⟨fs, hr, hrun, hended, hE⟩ := Stand.leaveW (s := s) X10 hS9 (by rw [eq10]; exact hk9) (v := some (.int (1 : Int32))) (fun h => by rw [Bd.returns] at h; cases h)
  refine ⟨_, _, castTop (ef_0_0 m p0 p1 p2 p3 p4) ?_, hrun, hended, _, _, rfl, ?_, hE.1, hE.2.1, hE.2.2.1, hE.2.2.2.mono (by decide) (by decide)⟩
  · show Sp p e below s₁ (mkF m 0 #[.val (.int p0), .val (.int p1), .val (.int p2), .val (.int p3), .val (.int p4), .unset, .unset, .unset, .unset, .unset, .unset, .unset, .unset, .unset, .unset] []) _
    refine st1 _ ?_
    show Sp p e below s₁ (mkF m 75 #[.val (.int p0), .val (.int p1), .val (.int p2), .val (.int p3), .val (.int p4), .val (.int (fx1 p0)), .val (.int z6), .val (.int z7), .val (.int (fx3 p4)), .unset, .unset, .unset, .unset, .unset, .unset] []) _
    refine XS.iloadN X0.here hx rfl (hb hby at_75) rfl ?_
    show Sp p e below s₁ (mkF m 76 #[.val (.int p0), .val (.int p1), .val (.int p2), .val (.int p3), .val (.int p4), .val (.int (fx1 p0)), .val (.int z6), .val (.int z7), .val (.int (fx3 p4)), .unset, .unset, .unset, .unset, .unset, .unset] [(.int p2)]) _
    refine st2.trans ?_
    show Sp p e below T2 (mkF m 79 #[.val (.int p0), .val (.int p1), .val (.int p2), .val (.int p3), .val (.int p4), .val (.int (fx1 p0)), .val (.int z6), .val (.int z7), .val (.int (fx3 p4)), .unset, .unset, .unset, .unset, .unset, .unset] [(.ref b2_0)]) _
    refine XS.astore X2.here hx rfl (hb hby at_79) rfl rfl (l' := #[.val (.int p0), .val (.int p1), .val (.int p2), .val (.int p3), .val (.int p4), .val (.int (fx1 p0)), .val (.int z6), .val (.int z7), .val (.int (fx3 p4)), .val (.ref b2_0), .unset, .unset, .unset, .unset, .unset]) rfl ?_
    refine XS.iload X2.here hx rfl (hb hby at_81) rfl ?_
    show Sp p e below T2 (mkF m 83 #[.val (.int p0), .val (.int p1), .val (.int p2), .val (.int p3), .val (.int p4), .val (.int (fx1 p0)), .val (.int z6), .val (.int z7), .val (.int (fx3 p4)), .val (.ref b2_0), .unset, .unset, .unset, .unset, .unset] [(.int z7)]) _
    refine st3.trans ?_
    show Sp p e below T3 (mkF m 86 #[.val (.int p0), .val (.int p1), .val (.int p2), .val (.int p3), .val (.int p4), .val (.int (fx1 p0)), .val (.int z6), .val (.int z7), .val (.int (fx3 p4)), .val (.ref b2_0), .unset, .unset, .unset, .unset, .unset] [(.ref b3_0)]) _
    refine XS.astore X3.here hx rfl (hb hby at_86) rfl rfl (l' := #[.val (.int p0), .val (.int p1), .val (.int p2), .val (.int p3), .val (.int p4), .val (.int (fx1 p0)), .val (.int z6), .val (.int z7), .val (.int (fx3 p4)), .val (.ref b2_0), .val (.ref b3_0), .unset, .unset, .unset, .unset]) rfl ?_
    show Sp p e below T3 (mkF m 88 #[.val (.int p0), .val (.int p1), .val (.int p2), .val (.int p3), .val (.int p4), .val (.int (fx1 p0)), .val (.int z6), .val (.int z7), .val (.int (fx3 p4)), .val (.ref b2_0), .val (.ref b3_0), .unset, .unset, .unset, .unset] []) _
    refine st4 _ ?_
    show Sp p e below T4 (mkF m 91 #[.val (.int p0), .val (.int p1), .val (.int p2), .val (.int p3), .val (.int p4), .val (.int (fx1 p0)), .val (.int z6), .val (.int z7), .val (.int (fx3 p4)), .val (.ref b2_0), .val (.ref b3_0), .unset, .unset, .unset, .unset] [(.ref b4)]) _
    refine XS.dup X4.here hx rfl (hb hby at_91) rfl rfl ?_
    refine XS.iload X4.here hx rfl (hb hby at_92) rfl ?_
    show Sp p e below T4 (mkF m 94 #[.val (.int p0), .val (.int p1), .val (.int p2), .val (.int p3), .val (.int p4), .val (.int (fx1 p0)), .val (.int z6), .val (.int z7), .val (.int (fx3 p4)), .val (.ref b2_0), .val (.ref b3_0), .unset, .unset, .unset, .unset] [(.int (fx1 p0)), (.ref b4), (.ref b4)]) _
    refine st5 _ ?_
    show Sp p e below T5 (mkF m 97 #[.val (.int p0), .val (.int p1), .val (.int p2), .val (.int p3), .val (.int p4), .val (.int (fx1 p0)), .val (.int z6), .val (.int z7), .val (.int (fx3 p4)), .val (.ref b2_0), .val (.ref b3_0), .unset, .unset, .unset, .unset] [(.ref c5_0), (.ref b4), (.ref b4)]) _
    refine XS.aload X5.here hx rfl (hb hby at_97) rfl rfl ?_
    show Sp p e below T5 (mkF m 99 #[.val (.int p0), .val (.int p1), .val (.int p2), .val (.int p3), .val (.int p4), .val (.int (fx1 p0)), .val (.int z6), .val (.int z7), .val (.int (fx3 p4)), .val (.ref b2_0), .val (.ref b3_0), .unset, .unset, .unset, .unset] [(.ref b2_0), (.ref c5_0), (.ref b4), (.ref b4)]) _
    refine st6.trans ?_
    show Sp p e below T6 (mkF m 102 #[.val (.int p0), .val (.int p1), .val (.int p2), .val (.int p3), .val (.int p4), .val (.int (fx1 p0)), .val (.int z6), .val (.int z7), .val (.int (fx3 p4)), .val (.ref b2_0), .val (.ref b3_0), .unset, .unset, .unset, .unset] [(.ref b4)]) _
    refine XS.astore X6.here hx rfl (hb hby at_102) rfl rfl (l' := #[.val (.int p0), .val (.int p1), .val (.int p2), .val (.int p3), .val (.int p4), .val (.int (fx1 p0)), .val (.int z6), .val (.int z7), .val (.int (fx3 p4)), .val (.ref b2_0), .val (.ref b3_0), .val (.ref b4), .unset, .unset, .unset]) rfl ?_
    show Sp p e below T6 (mkF m 104 #[.val (.int p0), .val (.int p1), .val (.int p2), .val (.int p3), .val (.int p4), .val (.int (fx1 p0)), .val (.int z6), .val (.int z7), .val (.int (fx3 p4)), .val (.ref b2_0), .val (.ref b3_0), .val (.ref b4), .unset, .unset, .unset] []) _
    refine st7 _ ?_
    show Sp p e below T7 (mkF m 107 #[.val (.int p0), .val (.int p1), .val (.int p2), .val (.int p3), .val (.int p4), .val (.int (fx1 p0)), .val (.int z6), .val (.int z7), .val (.int (fx3 p4)), .val (.ref b2_0), .val (.ref b3_0), .val (.ref b4), .unset, .unset, .unset] [(.ref b7)]) _
    refine XS.dup X7.here hx rfl (hb hby at_107) rfl rfl ?_
    refine XS.iload X7.here hx rfl (hb hby at_108) rfl ?_
    show Sp p e below T7 (mkF m 110 #[.val (.int p0), .val (.int p1), .val (.int p2), .val (.int p3), .val (.int p4), .val (.int (fx1 p0)), .val (.int z6), .val (.int z7), .val (.int (fx3 p4)), .val (.ref b2_0), .val (.ref b3_0), .val (.ref b4), .unset, .unset, .unset] [(.int z6), (.ref b7), (.ref b7)]) _
    refine st8 _ ?_
    show Sp p e below T8 (mkF m 113 #[.val (.int p0), .val (.int p1), .val (.int p2), .val (.int p3), .val (.int p4), .val (.int (fx1 p0)), .val (.int z6), .val (.int z7), .val (.int (fx3 p4)), .val (.ref b2_0), .val (.ref b3_0), .val (.ref b4), .unset, .unset, .unset] [(.ref c8_0), (.ref b7), (.ref b7)]) _
    refine XS.aload X8.here hx rfl (hb hby at_113) rfl rfl ?_
    show Sp p e below T8 (mkF m 115 #[.val (.int p0), .val (.int p1), .val (.int p2), .val (.int p3), .val (.int p4), .val (.int (fx1 p0)), .val (.int z6), .val (.int z7), .val (.int (fx3 p4)), .val (.ref b2_0), .val (.ref b3_0), .val (.ref b4), .unset, .unset, .unset] [(.ref b3_0), (.ref c8_0), (.ref b7), (.ref b7)]) _
    refine st9.trans ?_
    show Sp p e below T9 (mkF m 118 #[.val (.int p0), .val (.int p1), .val (.int p2), .val (.int p3), .val (.int p4), .val (.int (fx1 p0)), .val (.int z6), .val (.int z7), .val (.int (fx3 p4)), .val (.ref b2_0), .val (.ref b3_0), .val (.ref b4), .unset, .unset, .unset] [(.ref b7)]) _
    refine XS.astore X9.here hx rfl (hb hby at_118) rfl rfl (l' := #[.val (.int p0), .val (.int p1), .val (.int p2), .val (.int p3), .val (.int p4), .val (.int (fx1 p0)), .val (.int z6), .val (.int z7), .val (.int (fx3 p4)), .val (.ref b2_0), .val (.ref b3_0), .val (.ref b4), .val (.ref b7), .unset, .unset]) rfl ?_
    refine XS.iload X9.here hx rfl (hb hby at_120) rfl ?_
    refine XS.iconst X9.here hx rfl (hb hby at_122) ?_
    refine XS.icmpNo X9.here hx rfl (hb hby at_123) rfl (teq hc3).2 ?_
    refine XS.aconstNull X9.here hx rfl (hb hby at_126) ?_
    refine XS.astore X9.here hx rfl (hb hby at_127) rfl rfl (l' := #[.val (.int p0), .val (.int p1), .val (.int p2), .val (.int p3), .val (.int p4), .val (.int (fx1 p0)), .val (.int z6), .val (.int z7), .val (.int (fx3 p4)), .val (.ref b2_0), .val (.ref b3_0), .val (.ref b4), .val (.ref b7), .val .null, .unset]) rfl ?_
    refine XS.goto X9.here hx rfl (pc0 := 129) (pc' := 162) rfl (hb hby at_129) (by decide) (by decide) ?_
    show Sp p e below T9 (mkF m 162 #[.val (.int p0), .val (.int p1), .val (.int p2), .val (.int p3), .val (.int p4), .val (.int (fx1 p0)), .val (.int z6), .val (.int z7), .val (.int (fx3 p4)), .val (.ref b2_0), .val (.ref b3_0), .val (.ref b4), .val (.ref b7), .val .null, .unset] []) _
    refine XS.iload X9.here hx rfl (hb hby at_162) rfl ?_
    refine XS.iconst X9.here hx rfl (hb hby at_164) ?_
    refine XS.icmpYes X9.here hx rfl (pc0 := 165) (pc' := 174) rfl (hb hby at_165) rfl (teq hc3).1 (by decide) (by decide) ?_
    refine XS.iconst X9.here hx rfl (hb hby at_174) ?_
    refine XS.istore X9.here hx rfl (hb hby at_175) rfl (l' := #[.val (.int p0), .val (.int p1), .val (.int p2), .val (.int p3), .val (.int p4), .val (.int (fx1 p0)), .val (.int z6), .val (.int z7), .val (.int (fx3 p4)), .val (.ref b2_0), .val (.ref b3_0), .val (.ref b4), .val (.ref b7), .val .null, .val (.int (0 : Int32))]) rfl ?_
    refine XS.goto X9.here hx rfl (pc0 := 177) (pc' := 215) rfl (hb hby at_177) (by decide) (by decide) ?_
    refine XS.aload X9.here hx rfl (hb hby at_215) rfl rfl ?_
    show Sp p e below T9 (mkF m 217 #[.val (.int p0), .val (.int p1), .val (.int p2), .val (.int p3), .val (.int p4), .val (.int (fx1 p0)), .val (.int z6), .val (.int z7), .val (.int (fx3 p4)), .val (.ref b2_0), .val (.ref b3_0), .val (.ref b4), .val (.ref b7), .val .null, .val (.int (0 : Int32))] [(.ref b4)]) _
    refine XS.aload X9.here hx rfl (hb hby at_217) rfl rfl ?_
    show Sp p e below T9 (mkF m 219 #[.val (.int p0), .val (.int p1), .val (.int p2), .val (.int p3), .val (.int p4), .val (.int (fx1 p0)), .val (.int z6), .val (.int z7), .val (.int (fx3 p4)), .val (.ref b2_0), .val (.ref b3_0), .val (.ref b4), .val (.ref b7), .val .null, .val (.int (0 : Int32))] [.null, (.ref b4)]) _
    refine st10.trans ?_
    show Sp p e below T10 (mkF m 222 #[.val (.int p0), .val (.int p1), .val (.int p2), .val (.int p3), .val (.int p4), .val (.int (fx1 p0)), .val (.int z6), .val (.int z7), .val (.int (fx3 p4)), .val (.ref b2_0), .val (.ref b3_0), .val (.ref b4), .val (.ref b7), .val .null, .val (.int (0 : Int32))] [(.int (0 : Int32))]) _
    refine XS.iload X10.here hx rfl (hb hby at_222) rfl ?_
    refine XS.icmpNo X10.here hx rfl (hb hby at_224) rfl (teq (by decide : (0 : Int32) = (0 : Int32))).2 ?_
    refine XS.iconst X10.here hx rfl (hb hby at_227) ?_
    refine XS.goto X10.here hx rfl (pc0 := 228) (pc' := 232) rfl (hb hby at_228) (by decide) (by decide) ?_
    show Sp p e below T10 (mkF m 232 #[.val (.int p0), .val (.int p1), .val (.int p2), .val (.int p3), .val (.int p4), .val (.int (fx1 p0)), .val (.int z6), .val (.int z7), .val (.int (fx3 p4)), .val (.ref b2_0), .val (.ref b3_0), .val (.ref b4), .val (.ref b7), .val .null, .val (.int (0 : Int32))] [(.int (1 : Int32))]) _
    exact retN X10 hx (t := .boolean) Bd.returns (by simp) (hb hby at_232) hr
  · skip
    exact ⟨rfl, N10⟩
theorem ef_10_1 (m : MethodId) (x0 : Addr) (x1 : Addr) : entryFrame m #[(.ref x0), (.ref x1)] 3 = mkF m 0 #[.val (.ref x0), .val (.ref x1), .unset] [] := by first | (simp [entryFrame, mkF, argsToLocals, Value.category]; done) | rfl
def Q38 (Z : State) (v0 : Addr) (v1 : Addr) (v2 : Addr) (v3 : Addr) (v4 : Addr) (v5 : Addr) (v6 : Addr) (v7 : Addr) (v8 : Addr) (v9 : Addr) (cs_v : Int32) (a1 : Addr) (a2 : Addr) (h0 : Heap) (n0 : Nat) (v : Option Value) (h : Heap) (L : List Loc) : Prop := v = some (.int (0 : Int32)) ∧ Fr n0 L ∧ h = h0
theorem rm38 (l : Launch) (Z : State) (a0 : Array Value) (hw : ∀ d ∈ tables_1, d.before a0 Z = true) (ws : List Jvm.Cond) (v0 v1 v2 v3 v4 v5 v6 v7 v8 v9 : Addr) (cs_v : Int32) (hp : Perm Z v0 v1 v2 v3 v4 v5 v6 v7 v8 v9 cs_v) (a1 : Addr) (a2 : Addr) (h0 : Heap) (n0 : Nat) (O0 : Old Z n0 h0) (E_a2 : Exa Z h0 a2 "java/lang/String") :
    MetFree l y11 (head1 (Jvm.Cond.code y11 prog_28_method_2_code 3 (some .boolean) :: ws) ({ frames := 0, cells := 0, slots := 0, locals := 0 } : Room)) (fun a U => a = #[(.ref a1), (.ref a2)] ∧ Z.Warmed39 U.vm ∧ U.heap = h0) (fun _ _ _ _ _ => True) (fun _ U o U' => ∃ v L, o = .returned v ∧ Q38 Z v0 v1 v2 v3 v4 v5 v6 v7 v8 v9 cs_v a1 a2 h0 n0 v U'.heap L ∧ FrameEnd U o U' L ({ frames := 0, cells := 0, slots := 0, locals := 0 } : Room).cells ({ frames := 0, cells := 0, slots := 0, locals := 0 } : Room).slots) := by
  refine MetFree.of_bodySF (plainFor_of_name pn_7) hisR ?_
  intro p e s m args below meth c s₁ Bd hml0 hP hK
  obtain ⟨rfl, hZ, hh⟩ := hP
  have hx := Bd.exec
  have hby := Bd.bytes
  have hml : c.maxLocals = 3 := hml0
  have hown : s.vm.findClass "com/example/ratebook/ratebook/model/PricedItem" = some m.cls := findClass_of_methodNamed Bd.named
  have hnm := (name_of_methodNamed Bd.named Bd.method).1
  have X0 : Stand p l e ({ frames := 0, cells := 0, slots := 0, locals := 0 } : Room) s m #[(.ref a1), (.ref a2)] below meth c s₁ [] 0 0 := Stand.of_body Bd
  have e0 : s₁.heap = h0 := by rw [← hh, Bd.state]; rfl
  have N0 := Fr.nil n0
  obtain ⟨T1, X1, e1, st1⟩ := instNo X0 hx hZ hown (wq hw 65 rfl) e0 E_a2 (own_notsub (wq hw 103 rfl) (wq hw 104 rfl) (wq hw 9 rfl) (wq hw 31 rfl) (by decide) (by decide)) (g := (mkF m 1 #[.val (.ref a1), .val (.ref a2), .unset] [(.ref a2)])) rfl rfl (hb hby d10_1)
  obtain ⟨fs, hr, hrun, hended, hW, hsame⟩ := X1.leave (v := some (.int (0 : Int32))) (fun h => by rw [Bd.returns] at h; cases h)
  refine ⟨_, _, castTop (ef_10_1 m a1 a2) ?_, hrun, hended, _, _, rfl, ?_, ⟨_, rfl⟩, hW, hsame.mono (by decide) (by decide)⟩
  · show Sp p e below s₁ (mkF m 0 #[.val (.ref a1), .val (.ref a2), .unset] []) _
    refine XS.aloadN X0.here hx rfl (hb hby d10_0) rfl rfl ?_
    show Sp p e below s₁ (mkF m 1 #[.val (.ref a1), .val (.ref a2), .unset] [(.ref a2)]) _
    refine st1 _ ?_
    show Sp p e below T1 (mkF m 4 #[.val (.ref a1), .val (.ref a2), .unset] [(.int (0 : Int32))]) _
    refine XS.ifYes X1.here hx rfl (pc0 := 4) (pc' := 41) rfl (hb hby d10_4) rfl ((if0 _ _).trans (teq (by decide : (0 : Int32) = (0 : Int32))).1) (by decide) (by decide) ?_
    refine XS.iconst X1.here hx rfl (hb hby d10_41) ?_
    show Sp p e below T1 (mkF m 42 #[.val (.ref a1), .val (.ref a2), .unset] [(.int (0 : Int32))]) _
    exact retN X1 hx (t := .boolean) Bd.returns (by simp) (hb hby d10_42) hr
  · show Q38 Z v0 v1 v2 v3 v4 v5 v6 v7 v8 v9 cs_v a1 a2 h0 n0 _ T1.heap _
    rw [e1]
    exact ⟨rfl, N0, rfl⟩
theorem rm39 (l : Launch) (Z : State) (a0 : Array Value) (hw : ∀ d ∈ tables_1, d.before a0 Z = true) (ws : List Jvm.Cond) (v0 v1 v2 v3 v4 v5 v6 v7 v8 v9 : Addr) (cs_v : Int32) (hp : Perm Z v0 v1 v2 v3 v4 v5 v6 v7 v8 v9 cs_v) (p0 : Int32) (p1 : Int32) (p2 : Int32) (p3 : Int32) (p4 : Int32) (z6 : Int32) (z7 : Int32) (h0 : Heap) (n0 : Nat) (O0 : Old Z n0 h0) (hcut0 : Cut_0_0 p0 p1 p2 p3 p4 z6 z7) (hz0 : 0 ≤ z6.toInt ∧ z6.toInt < 10) (hc3 : ¬ ((((p4.toUInt32 >>> ((8 : Int32) &&& 31).toUInt32).toInt32) &&& (3 : Int32)) = (1 : Int32))) (hc4 : (((p4.toUInt32 >>> ((8 : Int32) &&& 31).toUInt32).toInt32) &&& (3 : Int32)) = (2 : Int32)) :
    MetFree l x (head1 (Jvm.Cond.code x code maxLocals ret :: ws) room_1) (fun a U => a = #[(.int p0), (.int p1), (.int p2), (.int p3), (.int p4)] ∧ Z.Warmed39 U.vm ∧ U.heap = h0 ∧ CHv Z own_EL U.vm h0) (fun _ _ _ _ _ => True) (fun _ U o U' => ∃ v L, o = .returned v ∧ (v = some (.int (1 : Int32)) ∧ Fr n0 L) ∧ ReturnedEndW U o U' L 32 3200) := by
  refine MetFree.of_bodySF (plainFor_of_name pn_2) hisR ?_
  intro p e s m args below meth c s₁ Bd hml0 hP hK
  obtain ⟨rfl, hZo, hh, hCH⟩ := hP
  have hx := Bd.exec
  have hby := Bd.bytes
  have hml : c.maxLocals = 15 := hml0
  have hown : (s.setVm s.vm).vm.findClass "com/example/ratebook/ratebook/model/PricedItemEqualsPinLaw" = some m.cls := findClass_of_methodNamed Bd.named
  have hnm := (name_of_methodNamed Bd.named Bd.method).1
  have X0 : Stand p l e room_1 (s.setVm s.vm) m #[(.int p0), (.int p1), (.int p2), (.int p3), (.int p4)] below meth c s₁ [] 0 0 := Stand.of_body Bd
  have e0 : s₁.heap = h0 := by rw [← hh, Bd.state]; rfl
  have N0 := Fr.nil n0
  have hZ : Z.Warmed39 (s.setVm s.vm).vm := hZo
  have CH0 := CHr.refl hCH
  have hS0 : s.Since s.vm 0 := (State.WarmedH.refl s).since 0
  have hk0 : 0 ≤ h0.size := Nat.zero_le _
  have st1 := hcut0 X0 hx hZ hw hby hown
  obtain ⟨_, _, ⟨T2, L2, k2, n2⟩, -, XX2, Sq2, gq2, ⟨Lc2, hQ2, l2, y2, z2, C2⟩, st2⟩ := callSS X0 hx (y := y3) hown (mvT hZ (wq hw 1 rfl)) (mvT hZ (wq hw 2 rfl)) (mvT hZ (wq hw 3 rfl)) (mvT hZ (wq hw 4 rfl)) (by decide) (own_backC (SL := []) (W := 0) (rmS1 l Z a0 hw [] v0 v1 v2 v3 v4 v5 v6 v7 v8 v9 cs_v hp p2 h0 n0 O0) hZ (wq hw 4 rfl) (wq hw 3 rfl) (by decide) (by decide) (own_EW hw) CH0.1 all0) (g := (mkF m 76 #[.val (.int p0), .val (.int p1), .val (.int p2), .val (.int p3), .val (.int p4), .val (.int (fx1 p0)), .val (.int z6), .val (.int z7), .val (.int (fx3 p4)), .unset, .unset, .unset, .unset, .unset, .unset] [(.int p2)])) rfl (by rw [hml]; rfl) (argsL := [(.int p2)]) (rest := []) (lenOf pd_6 rfl) rfl (by show 2 * 0 + _ ≤ _; exact Nat.le_of_eq rfl) (hb hby at_76) (fun _ _ => ⟨rfl, e0, (by decide : 0 + 4 ≤ _), (by decide : 0 + 10 ≤ _)⟩)
  dsimp only [Pt.U, Pt.locs, Pt.cells, Pt.slots] at XX2 Sq2 gq2 l2 y2 z2 st2 hQ2 C2
  subst l2 y2 z2
  obtain ⟨X2, hS2, hZ2, hown2⟩ := rebS hS0 (by rw [e0]; exact hk0) XX2 Sq2 gq2 hZ hown
  obtain ⟨b2_0, y2_0, kc2_0, rfl, Nq2, Kq2, sq_b2_0, fq2_0, fq2_1, fq2_2, fq2_3⟩ := hQ2
  have N2 := Fr.app N0 Nq2
  have CH2 := CH0.trans C2
  have hk2 : T2.heap.size ≤ T2.heap.size := Nat.le_refl _
  have O2 := O0.keep Kq2 all0
  obtain ⟨_, _, ⟨T3, L3, k3, n3⟩, -, XX3, Sq3, gq3, ⟨Lc3, hQ3, l3, y3, z3, C3⟩, st3⟩ := callSS X2 hx (y := y3) hown2 (mvT hZ2 (wq hw 1 rfl)) (mvT hZ2 (wq hw 2 rfl)) (mvT hZ2 (wq hw 3 rfl)) (mvT hZ2 (wq hw 4 rfl)) (by decide) (own_backC (SL := []) (W := 0) (rmS1 l Z a0 hw [] v0 v1 v2 v3 v4 v5 v6 v7 v8 v9 cs_v hp z7 T2.heap n0 O2) hZ2 (wq hw 4 rfl) (wq hw 3 rfl) (by decide) (by decide) (own_EW hw) CH2.1 all0) (g := (mkF m 83 #[.val (.int p0), .val (.int p1), .val (.int p2), .val (.int p3), .val (.int p4), .val (.int (fx1 p0)), .val (.int z6), .val (.int z7), .val (.int (fx3 p4)), .val (.ref b2_0), .unset, .unset, .unset, .unset, .unset] [(.int z7)])) rfl (by rw [hml]; rfl) (argsL := [(.int z7)]) (rest := []) (lenOf pd_6 rfl) rfl (by show 2 * 0 + _ ≤ _; exact Nat.le_of_eq rfl) (hb hby at_83) (fun _ _ => ⟨rfl, rfl, (by decide : 4 + 4 ≤ _), (by decide : 10 + 10 ≤ _)⟩)
  dsimp only [Pt.U, Pt.locs, Pt.cells, Pt.slots] at XX3 Sq3 gq3 l3 y3 z3 st3 hQ3 C3
  subst l3 y3 z3
  obtain ⟨X3, hS3, hZ3, hown3⟩ := rebS hS2 hk2 XX3 Sq3 gq3 hZ2 hown2
  obtain ⟨b3_0, y3_0, kc3_0, rfl, Nq3, Kq3, sq_b3_0, fq3_0, fq3_1, fq3_2, fq3_3⟩ := hQ3
  have N3 := Fr.app N2 Nq3
  have CH3 := CH2.trans C3
  have hk3 : T3.heap.size ≤ T3.heap.size := Nat.le_refl _
  have O3 := O2.keep Kq3 all0
  obtain ⟨T4, h4, X4, e4, E4, A4, D4, -, st4⟩ := newO X3 hx hZ3 hown3 (wq hw 30 rfl) (wq hw 31 rfl) (wq hw 32 rfl) rfl (g := (mkF m 88 #[.val (.int p0), .val (.int p1), .val (.int p2), .val (.int p3), .val (.int p4), .val (.int (fx1 p0)), .val (.int z6), .val (.int z7), .val (.int (fx3 p4)), .val (.ref b2_0), .val (.ref b3_0), .unset, .unset, .unset, .unset] [])) rfl (hb hby at_88) (by decide) (by decide)
  obtain ⟨b4, g4⟩ : ∃ z, z = T3.heap.size := ⟨_, rfl⟩
  rw [← g4] at A4 D4 st4
  have g_b4 : n0 ≤ b4 := Nat.le_trans (own_sz O3) (Nat.le_of_eq g4.symm)
  have O4 := O3.ext E4
  have CH4 := CH3.trans (CHr.ext E4 CH3.1)
  have hk4 := Nat.le_trans hk3 E4.1
  have F_category_b4 : Fld Z h4 b4 "com/example/ratebook/ratebook/model/PricedItem" "category" "Lcom/example/ratebook/ratebook/model/Category;" .null := D4 (Or.inr (wq hw 55 rfl)) (ty := (.object "com/example/ratebook/ratebook/model/Category")) (by decide)
  have F_resourceId_b4 : Fld Z h4 b4 "com/example/ratebook/ratebook/model/PricedItem" "resourceId" "Ljava/lang/String;" .null := D4 (Or.inr (wq hw 57 rfl)) (ty := (.object "java/lang/String")) (by decide)
  obtain ⟨_, _, ⟨T5, L5, k5, n5⟩, -, X5, ⟨Lc5, hQ5, l5, y5, z5⟩, st5⟩ := Jvm.LawKit.callS X4 hx (y := y7) hown3 (mvT hZ3 (wq hw 33 rfl)) (mvT hZ3 (wq hw 34 rfl)) (mvT hZ3 (wq hw 3 rfl)) (mvT hZ3 (wq hw 35 rfl)) (by decide) (backOf (W := 2) (rmK6 l Z a0 hw [] v0 v1 v2 v3 v4 v5 v6 v7 v8 v9 cs_v hp ((p0 &&& (2147483647 : Int32)) % (10 : Int32)) h4 n0 O4) hZ3 (wq hw 35 rfl) (wq hw 3 rfl) (by decide) (by decide)) (g := (mkF m 94 #[.val (.int p0), .val (.int p1), .val (.int p2), .val (.int p3), .val (.int p4), .val (.int (fx1 p0)), .val (.int z6), .val (.int z7), .val (.int (fx3 p4)), .val (.ref b2_0), .val (.ref b3_0), .unset, .unset, .unset, .unset] [(.int (fx1 p0)), (.ref b4), (.ref b4)])) rfl (by rw [hml]; rfl) (argsL := [(.int (fx1 p0))]) (rest := [(.ref b4), (.ref b4)]) (lenOf pd_7 rfl) rfl (by show 2 * 0 + _ ≤ _; exact Nat.le_of_eq rfl) (hb hby at_94) (fun _ _ => ⟨rfl, e4, (by decide : 9 + 0 ≤ _), (by decide : 22 + 0 ≤ _)⟩)
  dsimp only [Pt.U, Pt.locs, Pt.cells, Pt.slots] at X5 l5 y5 z5 st5 hQ5
  subst l5 y5 z5
  obtain ⟨c5_0, rfl, Nq5, eq5, oq5_0, oq5_1⟩ := hQ5
  have N5 := Fr.app N3 Nq5
  obtain ⟨_, _, ⟨T6, L6, k6, n6⟩, -, XX6, Sq6, gq6, ⟨Lc6, hQ6, l6, y6, z6, C6⟩, st6⟩ := X5.specialBackS hx (y := y10) rfl hown3 (mvT hZ3 (wq hw 39 rfl)) (mvT hZ3 (wq hw 40 rfl)) (mvT hZ3 (wq hw 41 rfl)) (by decide) (own_backC (SL := []) (W := 1) (rm35 l Z a0 hw [] v0 v1 v2 v3 v4 v5 v6 v7 v8 v9 cs_v hp b4 c5_0 b2_0 h4 n0 O4 A4 F_category_b4 F_resourceId_b4 g_b4) hZ3 (wq hw 41 rfl) (wq hw 32 rfl) (by decide) (by decide) (own_EW hw) CH4.1 all0) (g := (mkF m 99 #[.val (.int p0), .val (.int p1), .val (.int p2), .val (.int p3), .val (.int p4), .val (.int (fx1 p0)), .val (.int z6), .val (.int z7), .val (.int (fx3 p4)), .val (.ref b2_0), .val (.ref b3_0), .unset, .unset, .unset, .unset] [(.ref b2_0), (.ref c5_0), (.ref b4), (.ref b4)])) rfl (by rw [hml]; rfl) (Steps.refl _) (a := b4) (argsL := [(.ref c5_0), (.ref b2_0)]) (rest := [(.ref b4)]) (lenOf pd_10 rfl) rfl (by show 2 * 0 + _ ≤ _; exact Nat.le_of_eq rfl) (hb hby at_99) (fun _ _ => ⟨rfl, eq5, (by decide : 9 + 4 ≤ _), (by decide : 22 + 80 ≤ _)⟩)
  dsimp only [Pt.U, Pt.locs, Pt.cells, Pt.slots] at XX6 Sq6 gq6 l6 y6 z6 st6 hQ6 C6
  subst l6 y6 z6
  obtain ⟨X6, hS6, hZ6, hown6⟩ := rebS hS3 (by rw [eq5]; exact hk4) XX6 Sq6 gq6 hZ3 hown3
  obtain ⟨rfl, Nq6, Kq6, fq6_0, fq6_1, fq6_2⟩ := hQ6
  have N6 := Fr.app N5 Nq6
  have CH6 := CH4.trans C6
  have hk6 : T6.heap.size ≤ T6.heap.size := Nat.le_refl _
  have O6 := O4.keep Kq6 (allS g_b4 all0)
  obtain ⟨T7, h7, X7, e7, E7, A7, D7, -, st7⟩ := newO X6 hx hZ6 hown6 (wq hw 30 rfl) (wq hw 31 rfl) (wq hw 32 rfl) rfl (g := (mkF m 104 #[.val (.int p0), .val (.int p1), .val (.int p2), .val (.int p3), .val (.int p4), .val (.int (fx1 p0)), .val (.int z6), .val (.int z7), .val (.int (fx3 p4)), .val (.ref b2_0), .val (.ref b3_0), .val (.ref b4), .unset, .unset, .unset] [])) rfl (hb hby at_104) (by decide) (by decide)
  obtain ⟨b7, g7⟩ : ∃ z, z = T6.heap.size := ⟨_, rfl⟩
  rw [← g7] at A7 D7 st7
  have g_b7 : n0 ≤ b7 := Nat.le_trans (own_sz O6) (Nat.le_of_eq g7.symm)
  have O7 := O6.ext E7
  have CH7 := CH6.trans (CHr.ext E7 CH6.1)
  have hk7 := Nat.le_trans hk6 E7.1
  have F_category_b7 : Fld Z h7 b7 "com/example/ratebook/ratebook/model/PricedItem" "category" "Lcom/example/ratebook/ratebook/model/Category;" .null := D7 (Or.inr (wq hw 55 rfl)) (ty := (.object "com/example/ratebook/ratebook/model/Category")) (by decide)
  have F_resourceId_b7 : Fld Z h7 b7 "com/example/ratebook/ratebook/model/PricedItem" "resourceId" "Ljava/lang/String;" .null := D7 (Or.inr (wq hw 57 rfl)) (ty := (.object "java/lang/String")) (by decide)
  obtain ⟨_, _, ⟨T8, L8, k8, n8⟩, -, X8, ⟨Lc8, hQ8, l8, y8, z8⟩, st8⟩ := Jvm.LawKit.callS X7 hx (y := y7) hown6 (mvT hZ6 (wq hw 33 rfl)) (mvT hZ6 (wq hw 34 rfl)) (mvT hZ6 (wq hw 3 rfl)) (mvT hZ6 (wq hw 35 rfl)) (by decide) (backOf (W := 2) (rmK6 l Z a0 hw [] v0 v1 v2 v3 v4 v5 v6 v7 v8 v9 cs_v hp z6 h7 n0 O7) hZ6 (wq hw 35 rfl) (wq hw 3 rfl) (by decide) (by decide)) (g := (mkF m 110 #[.val (.int p0), .val (.int p1), .val (.int p2), .val (.int p3), .val (.int p4), .val (.int (fx1 p0)), .val (.int z6), .val (.int z7), .val (.int (fx3 p4)), .val (.ref b2_0), .val (.ref b3_0), .val (.ref b4), .unset, .unset, .unset] [(.int z6), (.ref b7), (.ref b7)])) rfl (by rw [hml]; rfl) (argsL := [(.int z6)]) (rest := [(.ref b7), (.ref b7)]) (lenOf pd_7 rfl) rfl (by show 2 * 0 + _ ≤ _; exact Nat.le_of_eq rfl) (hb hby at_110) (fun _ _ => ⟨rfl, e7, (by decide : 14 + 0 ≤ _), (by decide : 104 + 0 ≤ _)⟩)
  dsimp only [Pt.U, Pt.locs, Pt.cells, Pt.slots] at X8 l8 y8 z8 st8 hQ8
  subst l8 y8 z8
  obtain ⟨c8_0, rfl, Nq8, eq8, oq8_0, oq8_1⟩ := hQ8
  have N8 := Fr.app N6 Nq8
  obtain ⟨_, _, ⟨T9, L9, k9, n9⟩, -, XX9, Sq9, gq9, ⟨Lc9, hQ9, l9, y9, z9, C9⟩, st9⟩ := X8.specialBackS hx (y := y10) rfl hown6 (mvT hZ6 (wq hw 39 rfl)) (mvT hZ6 (wq hw 40 rfl)) (mvT hZ6 (wq hw 41 rfl)) (by decide) (own_backC (SL := []) (W := 1) (rm35 l Z a0 hw [] v0 v1 v2 v3 v4 v5 v6 v7 v8 v9 cs_v hp b7 c8_0 b3_0 h7 n0 O7 A7 F_category_b7 F_resourceId_b7 g_b7) hZ6 (wq hw 41 rfl) (wq hw 32 rfl) (by decide) (by decide) (own_EW hw) CH7.1 all0) (g := (mkF m 115 #[.val (.int p0), .val (.int p1), .val (.int p2), .val (.int p3), .val (.int p4), .val (.int (fx1 p0)), .val (.int z6), .val (.int z7), .val (.int (fx3 p4)), .val (.ref b2_0), .val (.ref b3_0), .val (.ref b4), .unset, .unset, .unset] [(.ref b3_0), (.ref c8_0), (.ref b7), (.ref b7)])) rfl (by rw [hml]; rfl) (Steps.refl _) (a := b7) (argsL := [(.ref c8_0), (.ref b3_0)]) (rest := [(.ref b7)]) (lenOf pd_10 rfl) rfl (by show 2 * 0 + _ ≤ _; exact Nat.le_of_eq rfl) (hb hby at_115) (fun _ _ => ⟨rfl, eq8, (by decide : 14 + 4 ≤ _), (by decide : 104 + 80 ≤ _)⟩)
  dsimp only [Pt.U, Pt.locs, Pt.cells, Pt.slots] at XX9 Sq9 gq9 l9 y9 z9 st9 hQ9 C9
  subst l9 y9 z9
  obtain ⟨X9, hS9, hZ9, hown9⟩ := rebS hS6 (by rw [eq8]; exact hk7) XX9 Sq9 gq9 hZ6 hown6
  obtain ⟨rfl, Nq9, Kq9, fq9_0, fq9_1, fq9_2⟩ := hQ9
  have N9 := Fr.app N8 Nq9
  have CH9 := CH7.trans C9
  have hk9 : T9.heap.size ≤ T9.heap.size := Nat.le_refl _
  have O9 := O7.keep Kq9 (allS g_b7 all0)
  obtain ⟨cq10, kq10, q10a, q10b, q10c⟩ := isOf hZ9 rfl ((fq6_0.ext E7).keep Kq9)
  obtain ⟨_, _, ⟨T10, L10, k10, n10⟩, -, X10, ⟨Lc10, hQ10, l10, y10, z10⟩, st10⟩ := X9.virtualBack hx (y := y11) (z := y11) hown9 (mvT hZ9 (wq hw 60 rfl)) (mvT hZ9 (wq hw 61 rfl)) (notFace_of_selects (args := #[]) (mvT hZ9 (wq hw 63 rfl))) (mvT hZ9 (wq hw 63 rfl)) (mvT hZ9 (wq hw 62 rfl)) (by decide) (backOf (W := 0) (rm38 l Z a0 hw [] v0 v1 v2 v3 v4 v5 v6 v7 v8 v9 cs_v hp b4 b3_0 T9.heap n0 O9 ((((fq3_0.ext E4).keep Kq6).ext E7).keep Kq9)) hZ9 (wq hw 64 rfl) (wq hw 32 rfl) (by decide) (by decide)) q10a q10c (g := (mkF m 219 #[.val (.int p0), .val (.int p1), .val (.int p2), .val (.int p3), .val (.int p4), .val (.int (fx1 p0)), .val (.int z6), .val (.int z7), .val (.int (fx3 p4)), .val (.ref b2_0), .val (.ref b3_0), .val (.ref b4), .val (.ref b7), .val (.ref b3_0), .val (.int (0 : Int32))] [(.ref b3_0), (.ref b4)])) rfl (by rw [hml]; rfl) (Steps.refl _) (argsL := [(.ref b3_0)]) (rest := []) (lenOf pd_11 rfl) rfl (by show 2 * 0 + _ ≤ _; exact Nat.le_of_eq rfl) (hb hby at_219) (fun _ _ => ⟨rfl, rfl, (by decide : 18 + 0 ≤ _), (by decide : 184 + 0 ≤ _)⟩)
  dsimp only [Pt.U, Pt.locs, Pt.cells, Pt.slots] at X10 l10 y10 z10 st10 hQ10
  subst l10 y10 z10
  obtain ⟨rfl, Nq10, eq10⟩ := hQ10
  have N10 := Fr.app N9 Nq10
  obtain ⟨fs, hr, hrun, hended, hE⟩ := Stand.leaveW (s := s) X10 hS9 (by rw [eq10]; exact hk9) (v := some (.int (1 : Int32))) (fun h => by rw [Bd.returns] at h; cases h)
  refine ⟨_, _, castTop (ef_0_0 m p0 p1 p2 p3 p4) ?_, hrun, hended, _, _, rfl, ?_, hE.1, hE.2.1, hE.2.2.1, hE.2.2.2.mono (by decide) (by decide)⟩
  · show Sp p e below s₁ (mkF m 0 #[.val (.int p0), .val (.int p1), .val (.int p2), .val (.int p3), .val (.int p4), .unset, .unset, .unset, .unset, .unset, .unset, .unset, .unset, .unset, .unset] []) _
    refine st1 _ ?_
    show Sp p e below s₁ (mkF m 75 #[.val (.int p0), .val (.int p1), .val (.int p2), .val (.int p3), .val (.int p4), .val (.int (fx1 p0)), .val (.int z6), .val (.int z7), .val (.int (fx3 p4)), .unset, .unset, .unset, .unset, .unset, .unset] []) _
    refine XS.iloadN X0.here hx rfl (hb hby at_75) rfl ?_
    show Sp p e below s₁ (mkF m 76 #[.val (.int p0), .val (.int p1), .val (.int p2), .val (.int p3), .val (.int p4), .val (.int (fx1 p0)), .val (.int z6), .val (.int z7), .val (.int (fx3 p4)), .unset, .unset, .unset, .unset, .unset, .unset] [(.int p2)]) _
    refine st2.trans ?_
    show Sp p e below T2 (mkF m 79 #[.val (.int p0), .val (.int p1), .val (.int p2), .val (.int p3), .val (.int p4), .val (.int (fx1 p0)), .val (.int z6), .val (.int z7), .val (.int (fx3 p4)), .unset, .unset, .unset, .unset, .unset, .unset] [(.ref b2_0)]) _
    refine XS.astore X2.here hx rfl (hb hby at_79) rfl rfl (l' := #[.val (.int p0), .val (.int p1), .val (.int p2), .val (.int p3), .val (.int p4), .val (.int (fx1 p0)), .val (.int z6), .val (.int z7), .val (.int (fx3 p4)), .val (.ref b2_0), .unset, .unset, .unset, .unset, .unset]) rfl ?_
    refine XS.iload X2.here hx rfl (hb hby at_81) rfl ?_
    show Sp p e below T2 (mkF m 83 #[.val (.int p0), .val (.int p1), .val (.int p2), .val (.int p3), .val (.int p4), .val (.int (fx1 p0)), .val (.int z6), .val (.int z7), .val (.int (fx3 p4)), .val (.ref b2_0), .unset, .unset, .unset, .unset, .unset] [(.int z7)]) _
    refine st3.trans ?_
    show Sp p e below T3 (mkF m 86 #[.val (.int p0), .val (.int p1), .val (.int p2), .val (.int p3), .val (.int p4), .val (.int (fx1 p0)), .val (.int z6), .val (.int z7), .val (.int (fx3 p4)), .val (.ref b2_0), .unset, .unset, .unset, .unset, .unset] [(.ref b3_0)]) _
    refine XS.astore X3.here hx rfl (hb hby at_86) rfl rfl (l' := #[.val (.int p0), .val (.int p1), .val (.int p2), .val (.int p3), .val (.int p4), .val (.int (fx1 p0)), .val (.int z6), .val (.int z7), .val (.int (fx3 p4)), .val (.ref b2_0), .val (.ref b3_0), .unset, .unset, .unset, .unset]) rfl ?_
    show Sp p e below T3 (mkF m 88 #[.val (.int p0), .val (.int p1), .val (.int p2), .val (.int p3), .val (.int p4), .val (.int (fx1 p0)), .val (.int z6), .val (.int z7), .val (.int (fx3 p4)), .val (.ref b2_0), .val (.ref b3_0), .unset, .unset, .unset, .unset] []) _
    refine st4 _ ?_
    show Sp p e below T4 (mkF m 91 #[.val (.int p0), .val (.int p1), .val (.int p2), .val (.int p3), .val (.int p4), .val (.int (fx1 p0)), .val (.int z6), .val (.int z7), .val (.int (fx3 p4)), .val (.ref b2_0), .val (.ref b3_0), .unset, .unset, .unset, .unset] [(.ref b4)]) _
    refine XS.dup X4.here hx rfl (hb hby at_91) rfl rfl ?_
    refine XS.iload X4.here hx rfl (hb hby at_92) rfl ?_
    show Sp p e below T4 (mkF m 94 #[.val (.int p0), .val (.int p1), .val (.int p2), .val (.int p3), .val (.int p4), .val (.int (fx1 p0)), .val (.int z6), .val (.int z7), .val (.int (fx3 p4)), .val (.ref b2_0), .val (.ref b3_0), .unset, .unset, .unset, .unset] [(.int (fx1 p0)), (.ref b4), (.ref b4)]) _
    refine st5 _ ?_
    show Sp p e below T5 (mkF m 97 #[.val (.int p0), .val (.int p1), .val (.int p2), .val (.int p3), .val (.int p4), .val (.int (fx1 p0)), .val (.int z6), .val (.int z7), .val (.int (fx3 p4)), .val (.ref b2_0), .val (.ref b3_0), .unset, .unset, .unset, .unset] [(.ref c5_0), (.ref b4), (.ref b4)]) _
    refine XS.aload X5.here hx rfl (hb hby at_97) rfl rfl ?_
    show Sp p e below T5 (mkF m 99 #[.val (.int p0), .val (.int p1), .val (.int p2), .val (.int p3), .val (.int p4), .val (.int (fx1 p0)), .val (.int z6), .val (.int z7), .val (.int (fx3 p4)), .val (.ref b2_0), .val (.ref b3_0), .unset, .unset, .unset, .unset] [(.ref b2_0), (.ref c5_0), (.ref b4), (.ref b4)]) _
    refine st6.trans ?_
    show Sp p e below T6 (mkF m 102 #[.val (.int p0), .val (.int p1), .val (.int p2), .val (.int p3), .val (.int p4), .val (.int (fx1 p0)), .val (.int z6), .val (.int z7), .val (.int (fx3 p4)), .val (.ref b2_0), .val (.ref b3_0), .unset, .unset, .unset, .unset] [(.ref b4)]) _
    refine XS.astore X6.here hx rfl (hb hby at_102) rfl rfl (l' := #[.val (.int p0), .val (.int p1), .val (.int p2), .val (.int p3), .val (.int p4), .val (.int (fx1 p0)), .val (.int z6), .val (.int z7), .val (.int (fx3 p4)), .val (.ref b2_0), .val (.ref b3_0), .val (.ref b4), .unset, .unset, .unset]) rfl ?_
    show Sp p e below T6 (mkF m 104 #[.val (.int p0), .val (.int p1), .val (.int p2), .val (.int p3), .val (.int p4), .val (.int (fx1 p0)), .val (.int z6), .val (.int z7), .val (.int (fx3 p4)), .val (.ref b2_0), .val (.ref b3_0), .val (.ref b4), .unset, .unset, .unset] []) _
    refine st7 _ ?_
    show Sp p e below T7 (mkF m 107 #[.val (.int p0), .val (.int p1), .val (.int p2), .val (.int p3), .val (.int p4), .val (.int (fx1 p0)), .val (.int z6), .val (.int z7), .val (.int (fx3 p4)), .val (.ref b2_0), .val (.ref b3_0), .val (.ref b4), .unset, .unset, .unset] [(.ref b7)]) _
    refine XS.dup X7.here hx rfl (hb hby at_107) rfl rfl ?_
    refine XS.iload X7.here hx rfl (hb hby at_108) rfl ?_
    show Sp p e below T7 (mkF m 110 #[.val (.int p0), .val (.int p1), .val (.int p2), .val (.int p3), .val (.int p4), .val (.int (fx1 p0)), .val (.int z6), .val (.int z7), .val (.int (fx3 p4)), .val (.ref b2_0), .val (.ref b3_0), .val (.ref b4), .unset, .unset, .unset] [(.int z6), (.ref b7), (.ref b7)]) _
    refine st8 _ ?_
    show Sp p e below T8 (mkF m 113 #[.val (.int p0), .val (.int p1), .val (.int p2), .val (.int p3), .val (.int p4), .val (.int (fx1 p0)), .val (.int z6), .val (.int z7), .val (.int (fx3 p4)), .val (.ref b2_0), .val (.ref b3_0), .val (.ref b4), .unset, .unset, .unset] [(.ref c8_0), (.ref b7), (.ref b7)]) _
    refine XS.aload X8.here hx rfl (hb hby at_113) rfl rfl ?_
    show Sp p e below T8 (mkF m 115 #[.val (.int p0), .val (.int p1), .val (.int p2), .val (.int p3), .val (.int p4), .val (.int (fx1 p0)), .val (.int z6), .val (.int z7), .val (.int (fx3 p4)), .val (.ref b2_0), .val (.ref b3_0), .val (.ref b4), .unset, .unset, .unset] [(.ref b3_0), (.ref c8_0), (.ref b7), (.ref b7)]) _
    refine st9.trans ?_
    show Sp p e below T9 (mkF m 118 #[.val (.int p0), .val (.int p1), .val (.int p2), .val (.int p3), .val (.int p4), .val (.int (fx1 p0)), .val (.int z6), .val (.int z7), .val (.int (fx3 p4)), .val (.ref b2_0), .val (.ref b3_0), .val (.ref b4), .unset, .unset, .unset] [(.ref b7)]) _
    refine XS.astore X9.here hx rfl (hb hby at_118) rfl rfl (l' := #[.val (.int p0), .val (.int p1), .val (.int p2), .val (.int p3), .val (.int p4), .val (.int (fx1 p0)), .val (.int z6), .val (.int z7), .val (.int (fx3 p4)), .val (.ref b2_0), .val (.ref b3_0), .val (.ref b4), .val (.ref b7), .unset, .unset]) rfl ?_
    refine XS.iload X9.here hx rfl (hb hby at_120) rfl ?_
    refine XS.iconst X9.here hx rfl (hb hby at_122) ?_
    refine XS.icmpYes X9.here hx rfl (pc0 := 123) (pc' := 132) rfl (hb hby at_123) rfl (feq hc3).2 (by decide) (by decide) ?_
    refine XS.iload X9.here hx rfl (hb hby at_132) rfl ?_
    refine XS.iconst X9.here hx rfl (hb hby at_134) ?_
    refine XS.icmpNo X9.here hx rfl (hb hby at_135) rfl (teq hc4).2 ?_
    show Sp p e below T9 (mkF m 138 #[.val (.int p0), .val (.int p1), .val (.int p2), .val (.int p3), .val (.int p4), .val (.int (fx1 p0)), .val (.int z6), .val (.int z7), .val (.int (fx3 p4)), .val (.ref b2_0), .val (.ref b3_0), .val (.ref b4), .val (.ref b7), .unset, .unset] []) _
    refine XS.aload X9.here hx rfl (hb hby at_138) rfl rfl ?_
    refine XS.astore X9.here hx rfl (hb hby at_140) rfl rfl (l' := #[.val (.int p0), .val (.int p1), .val (.int p2), .val (.int p3), .val (.int p4), .val (.int (fx1 p0)), .val (.int z6), .val (.int z7), .val (.int (fx3 p4)), .val (.ref b2_0), .val (.ref b3_0), .val (.ref b4), .val (.ref b7), .val (.ref b3_0), .unset]) rfl ?_
    refine XS.goto X9.here hx rfl (pc0 := 142) (pc' := 162) rfl (hb hby at_142) (by decide) (by decide) ?_
    refine XS.iload X9.here hx rfl (hb hby at_162) rfl ?_
    refine XS.iconst X9.here hx rfl (hb hby at_164) ?_
    refine XS.icmpNo X9.here hx rfl (hb hby at_165) rfl (feq hc3).1 ?_
    refine XS.iload X9.here hx rfl (hb hby at_168) rfl ?_
    show Sp p e below T9 (mkF m 170 #[.val (.int p0), .val (.int p1), .val (.int p2), .val (.int p3), .val (.int p4), .val (.int (fx1 p0)), .val (.int z6), .val (.int z7), .val (.int (fx3 p4)), .val (.ref b2_0), .val (.ref b3_0), .val (.ref b4), .val (.ref b7), .val (.ref b3_0), .unset] [(.int (fx3 p4))]) _
    refine XS.iconst X9.here hx rfl (hb hby at_170) ?_
    refine XS.icmpNo X9.here hx rfl (hb hby at_171) rfl (teq hc4).2 ?_
    refine XS.iconst X9.here hx rfl (hb hby at_174) ?_
    refine XS.istore X9.here hx rfl (hb hby at_175) rfl (l' := #[.val (.int p0), .val (.int p1), .val (.int p2), .val (.int p3), .val (.int p4), .val (.int (fx1 p0)), .val (.int z6), .val (.int z7), .val (.int (fx3 p4)), .val (.ref b2_0), .val (.ref b3_0), .val (.ref b4), .val (.ref b7), .val (.ref b3_0), .val (.int (0 : Int32))]) rfl ?_
    refine XS.goto X9.here hx rfl (pc0 := 177) (pc' := 215) rfl (hb hby at_177) (by decide) (by decide) ?_
    refine XS.aload X9.here hx rfl (hb hby at_215) rfl rfl ?_
    refine XS.aload X9.here hx rfl (hb hby at_217) rfl rfl ?_
    show Sp p e below T9 (mkF m 219 #[.val (.int p0), .val (.int p1), .val (.int p2), .val (.int p3), .val (.int p4), .val (.int (fx1 p0)), .val (.int z6), .val (.int z7), .val (.int (fx3 p4)), .val (.ref b2_0), .val (.ref b3_0), .val (.ref b4), .val (.ref b7), .val (.ref b3_0), .val (.int (0 : Int32))] [(.ref b3_0), (.ref b4)]) _
    refine st10.trans ?_
    show Sp p e below T10 (mkF m 222 #[.val (.int p0), .val (.int p1), .val (.int p2), .val (.int p3), .val (.int p4), .val (.int (fx1 p0)), .val (.int z6), .val (.int z7), .val (.int (fx3 p4)), .val (.ref b2_0), .val (.ref b3_0), .val (.ref b4), .val (.ref b7), .val (.ref b3_0), .val (.int (0 : Int32))] [(.int (0 : Int32))]) _
    refine XS.iload X10.here hx rfl (hb hby at_222) rfl ?_
    refine XS.icmpNo X10.here hx rfl (hb hby at_224) rfl (teq (by decide : (0 : Int32) = (0 : Int32))).2 ?_
    refine XS.iconst X10.here hx rfl (hb hby at_227) ?_
    refine XS.goto X10.here hx rfl (pc0 := 228) (pc' := 232) rfl (hb hby at_228) (by decide) (by decide) ?_
    show Sp p e below T10 (mkF m 232 #[.val (.int p0), .val (.int p1), .val (.int p2), .val (.int p3), .val (.int p4), .val (.int (fx1 p0)), .val (.int z6), .val (.int z7), .val (.int (fx3 p4)), .val (.ref b2_0), .val (.ref b3_0), .val (.ref b4), .val (.ref b7), .val (.ref b3_0), .val (.int (0 : Int32))] [(.int (1 : Int32))]) _
    exact retN X10 hx (t := .boolean) Bd.returns (by simp) (hb hby at_232) hr
  · skip
    exact ⟨rfl, N10⟩
theorem d10_7 : decode prog_28_method_2_code 7 = .ok (.aload_n 1, 1) := by decide +kernel
theorem d10_8 : decode prog_28_method_2_code 8 = .ok (.checkcast 18, 3) := by decide +kernel
theorem d10_11 : decode prog_28_method_2_code 11 = .ok (.astore_n 2, 1) := by decide +kernel
theorem d10_12 : decode prog_28_method_2_code 12 = .ok (.aload_n 0, 1) := by decide +kernel
theorem d10_13 : decode prog_28_method_2_code 13 = .ok (.getfield 17, 3) := by decide +kernel
theorem d10_16 : decode prog_28_method_2_code 16 = .ok (.aload_n 2, 1) := by decide +kernel
theorem d10_17 : decode prog_28_method_2_code 17 = .ok (.getfield 17, 3) := by decide +kernel
theorem d10_20 : decode prog_28_method_2_code 20 = .ok (.if_acmp .ne 21, 3) := by decide +kernel
theorem d10_23 : decode prog_28_method_2_code 23 = .ok (.aload_n 0, 1) := by decide +kernel
theorem d10_24 : decode prog_28_method_2_code 24 = .ok (.getfield 22, 3) := by decide +kernel
theorem d10_27 : decode prog_28_method_2_code 27 = .ok (.aload_n 2, 1) := by decide +kernel
theorem d10_28 : decode prog_28_method_2_code 28 = .ok (.getfield 22, 3) := by decide +kernel
theorem d10_31 : decode prog_28_method_2_code 31 = .ok (.invokevirtual 25, 3) := by decide +kernel
theorem d12_0 : decode jdk_42_method_66_code 0 = .ok (.aload_n 0, 1) := by decide +kernel
theorem d12_1 : decode jdk_42_method_66_code 1 = .ok (.aload_n 1, 1) := by decide +kernel
theorem d12_2 : decode jdk_42_method_66_code 2 = .ok (.if_acmp .ne 5, 3) := by decide +kernel
theorem d12_5 : decode jdk_42_method_66_code 5 = .ok (.iconst 1, 1) := by decide +kernel
theorem d12_6 : decode jdk_42_method_66_code 6 = .ok (.ireturn, 1) := by decide +kernel
abbrev y12 : MethodName := (⟨"java/lang/String", "equals", "(Ljava/lang/Object;)Z"⟩ : MethodName)
theorem ef_12_0 (m : MethodId) (x0 : Addr) (x1 : Addr) : entryFrame m #[(.ref x0), (.ref x1)] 3 = mkF m 0 #[.val (.ref x0), .val (.ref x1), .unset] [] := by first | (simp [entryFrame, mkF, argsToLocals, Value.category]; done) | rfl
def Q40 (Z : State) (v0 : Addr) (v1 : Addr) (v2 : Addr) (v3 : Addr) (v4 : Addr) (v5 : Addr) (v6 : Addr) (v7 : Addr) (v8 : Addr) (v9 : Addr) (cs_v : Int32) (a1 : Addr) (h0 : Heap) (n0 : Nat) (v : Option Value) (h : Heap) (L : List Loc) : Prop := v = some (.int (1 : Int32)) ∧ Fr n0 L ∧ h = h0
theorem rm40 (l : Launch) (Z : State) (a0 : Array Value) (hw : ∀ d ∈ tables_1, d.before a0 Z = true) (ws : List Jvm.Cond) (v0 v1 v2 v3 v4 v5 v6 v7 v8 v9 : Addr) (cs_v : Int32) (hp : Perm Z v0 v1 v2 v3 v4 v5 v6 v7 v8 v9 cs_v) (a1 : Addr) (h0 : Heap) (n0 : Nat) (O0 : Old Z n0 h0) :
    MetFree l y12 (head1 (Jvm.Cond.code y12 jdk_42_method_66_code 3 (some .boolean) :: ws) ({ frames := 0, cells := 0, slots := 0, locals := 0 } : Room)) (fun a U => a = #[(.ref a1), (.ref a1)] ∧ Z.Warmed39 U.vm ∧ U.heap = h0) (fun _ _ _ _ _ => True) (fun _ U o U' => ∃ v L, o = .returned v ∧ Q40 Z v0 v1 v2 v3 v4 v5 v6 v7 v8 v9 cs_v a1 h0 n0 v U'.heap L ∧ FrameEnd U o U' L ({ frames := 0, cells := 0, slots := 0, locals := 0 } : Room).cells ({ frames := 0, cells := 0, slots := 0, locals := 0 } : Room).slots) := by
  refine MetFree.of_bodySF (plainFor_of_name pn_4) hisR ?_
  intro p e s m args below meth c s₁ Bd hml0 hP hK
  obtain ⟨rfl, hZ, hh⟩ := hP
  have hx := Bd.exec
  have hby := Bd.bytes
  have hml : c.maxLocals = 3 := hml0
  have hown : s.vm.findClass "java/lang/String" = some m.cls := findClass_of_methodNamed Bd.named
  have hnm := (name_of_methodNamed Bd.named Bd.method).1
  have X0 : Stand p l e ({ frames := 0, cells := 0, slots := 0, locals := 0 } : Room) s m #[(.ref a1), (.ref a1)] below meth c s₁ [] 0 0 := Stand.of_body Bd
  have e0 : s₁.heap = h0 := by rw [← hh, Bd.state]; rfl
  have N0 := Fr.nil n0
  obtain ⟨fs, hr, hrun, hended, hW, hsame⟩ := X0.leave (v := some (.int (1 : Int32))) (fun h => by rw [Bd.returns] at h; cases h)
  refine ⟨_, _, castTop (ef_12_0 m a1 a1) ?_, hrun, hended, _, _, rfl, ?_, ⟨_, rfl⟩, hW, hsame.mono (by decide) (by decide)⟩
  · show Sp p e below s₁ (mkF m 0 #[.val (.ref a1), .val (.ref a1), .unset] []) _
    refine XS.aloadN X0.here hx rfl (hb hby d12_0) rfl rfl ?_
    refine XS.aloadN X0.here hx rfl (hb hby d12_1) rfl rfl ?_
    show Sp p e below s₁ (mkF m 2 #[.val (.ref a1), .val (.ref a1), .unset] [(.ref a1), (.ref a1)]) _
    refine Jvm.RoadKit.acmp (g := (mkF m 2 #[.val (.ref a1), .val (.ref a1), .unset] [(.ref a1), (.ref a1)])) X0 hx rfl rfl rfl (pc0 := 2) (pc' := 5) (same := true) rfl (hb hby d12_2) rfl (decide_eq_true rfl) (by decide) (by decide) ?_
    show Sp p e below s₁ (mkF m 5 #[.val (.ref a1), .val (.ref a1), .unset] []) _
    refine XS.iconst X0.here hx rfl (hb hby d12_5) ?_
    show Sp p e below s₁ (mkF m 6 #[.val (.ref a1), .val (.ref a1), .unset] [(.int (1 : Int32))]) _
    exact retN X0 hx (t := .boolean) Bd.returns (by simp) (hb hby d12_6) hr
  · show Q40 Z v0 v1 v2 v3 v4 v5 v6 v7 v8 v9 cs_v a1 h0 n0 _ s₁.heap _
    rw [e0]
    exact ⟨rfl, N0, rfl⟩
theorem d10_34 : decode prog_28_method_2_code 34 = .ok (.ifCond .eq 7, 3) := by decide +kernel
theorem d10_37 : decode prog_28_method_2_code 37 = .ok (.iconst 1, 1) := by decide +kernel
theorem d10_38 : decode prog_28_method_2_code 38 = .ok (.goto 4, 3) := by decide +kernel
def Q41 (Z : State) (v0 : Addr) (v1 : Addr) (v2 : Addr) (v3 : Addr) (v4 : Addr) (v5 : Addr) (v6 : Addr) (v7 : Addr) (v8 : Addr) (v9 : Addr) (cs_v : Int32) (a1 : Addr) (a2 : Addr) (a3 : Addr) (h0 : Heap) (n0 : Nat) (v : Option Value) (h : Heap) (L : List Loc) : Prop := v = some (.int (1 : Int32)) ∧ Fr n0 L ∧ h = h0
theorem rm41 (l : Launch) (Z : State) (a0 : Array Value) (hw : ∀ d ∈ tables_1, d.before a0 Z = true) (ws : List Jvm.Cond) (v0 v1 v2 v3 v4 v5 v6 v7 v8 v9 : Addr) (cs_v : Int32) (hp : Perm Z v0 v1 v2 v3 v4 v5 v6 v7 v8 v9 cs_v) (a1 : Addr) (a2 : Addr) (a3 : Addr) (h0 : Heap) (n0 : Nat) (O0 : Old Z n0 h0) (E_a1 : Exa Z h0 a1 "com/example/ratebook/ratebook/model/PricedItem") (F_category_a1 : Fld Z h0 a1 "com/example/ratebook/ratebook/model/PricedItem" "category" "Lcom/example/ratebook/ratebook/model/Category;" (.ref a2)) (F_resourceId_a1 : Fld Z h0 a1 "com/example/ratebook/ratebook/model/PricedItem" "resourceId" "Ljava/lang/String;" (.ref a3)) (E_a3 : Exa Z h0 a3 "java/lang/String") :
    MetFree l y11 (head1 (Jvm.Cond.code y11 prog_28_method_2_code 3 (some .boolean) :: ws) ({ frames := 1, cells := 0, slots := 0, locals := 14 } : Room)) (fun a U => a = #[(.ref a1), (.ref a1)] ∧ Z.Warmed39 U.vm ∧ U.heap = h0) (fun _ _ _ _ _ => True) (fun _ U o U' => ∃ v L, o = .returned v ∧ Q41 Z v0 v1 v2 v3 v4 v5 v6 v7 v8 v9 cs_v a1 a2 a3 h0 n0 v U'.heap L ∧ FrameEnd U o U' L ({ frames := 1, cells := 0, slots := 0, locals := 14 } : Room).cells ({ frames := 1, cells := 0, slots := 0, locals := 14 } : Room).slots) := by
  refine MetFree.of_bodySF (plainFor_of_name pn_7) hisR ?_
  intro p e s m args below meth c s₁ Bd hml0 hP hK
  obtain ⟨rfl, hZ, hh⟩ := hP
  have hx := Bd.exec
  have hby := Bd.bytes
  have hml : c.maxLocals = 3 := hml0
  have hown : s.vm.findClass "com/example/ratebook/ratebook/model/PricedItem" = some m.cls := findClass_of_methodNamed Bd.named
  have hnm := (name_of_methodNamed Bd.named Bd.method).1
  have X0 : Stand p l e ({ frames := 1, cells := 0, slots := 0, locals := 14 } : Room) s m #[(.ref a1), (.ref a1)] below meth c s₁ [] 0 0 := Stand.of_body Bd
  have e0 : s₁.heap = h0 := by rw [← hh, Bd.state]; rfl
  have N0 := Fr.nil n0
  obtain ⟨T1, X1, e1, st1⟩ := instY X0 hx hZ hown (wq hw 65 rfl) e0 (Ins.self E_a1) (g := (mkF m 1 #[.val (.ref a1), .val (.ref a1), .unset] [(.ref a1)])) rfl rfl (hb hby d10_1)
  obtain ⟨T2, X2, e2, st2⟩ := castY X1 hx hZ hown (wq hw 65 rfl) e1 (Ins.self E_a1) (g := (mkF m 8 #[.val (.ref a1), .val (.ref a1), .unset] [(.ref a1)])) rfl rfl (hb hby d10_8)
  obtain ⟨T3, X3, e3, st3⟩ := getF X2 hx hZ hown (host := "") (Or.inl (wq hw 54 rfl)) Via.refl e2 F_category_a1 (g := (mkF m 13 #[.val (.ref a1), .val (.ref a1), .val (.ref a1)] [(.ref a1)])) rfl rfl (hb hby d10_13)
  obtain ⟨T4, X4, e4, st4⟩ := getF X3 hx hZ hown (host := "") (Or.inl (wq hw 54 rfl)) Via.refl e3 F_category_a1 (g := (mkF m 17 #[.val (.ref a1), .val (.ref a1), .val (.ref a1)] [(.ref a1), (.ref a2)])) rfl rfl (hb hby d10_17)
  obtain ⟨T5, X5, e5, st5⟩ := getF X4 hx hZ hown (host := "") (Or.inl (wq hw 56 rfl)) Via.refl e4 F_resourceId_a1 (g := (mkF m 24 #[.val (.ref a1), .val (.ref a1), .val (.ref a1)] [(.ref a1)])) rfl rfl (hb hby d10_24)
  obtain ⟨T6, X6, e6, st6⟩ := getF X5 hx hZ hown (host := "") (Or.inl (wq hw 56 rfl)) Via.refl e5 F_resourceId_a1 (g := (mkF m 28 #[.val (.ref a1), .val (.ref a1), .val (.ref a1)] [(.ref a1), (.ref a3)])) rfl rfl (hb hby d10_28)
  obtain ⟨cq7, kq7, q7a, q7b, q7c⟩ := isOf hZ e6 E_a3
  obtain ⟨_, _, ⟨T7, L7, k7, n7⟩, -, X7, ⟨Lc7, hQ7, l7, y7, z7⟩, st7⟩ := X6.virtualBack hx (y := y12) (z := y12) hown (mvT hZ (wq hw 70 rfl)) (mvT hZ (wq hw 71 rfl)) (notFace_of_selects (args := #[]) (mvT hZ (wq hw 73 rfl))) (mvT hZ (wq hw 73 rfl)) (mvT hZ (wq hw 72 rfl)) (by decide) (backOf (W := 0) (rm40 l Z a0 hw [] v0 v1 v2 v3 v4 v5 v6 v7 v8 v9 cs_v hp a3 h0 n0 O0) hZ (wq hw 74 rfl) (wq hw 10 rfl) (by decide) (by decide)) q7a q7c (g := (mkF m 31 #[.val (.ref a1), .val (.ref a1), .val (.ref a1)] [(.ref a3), (.ref a3)])) rfl (by rw [hml]; rfl) (Steps.refl _) (argsL := [(.ref a3)]) (rest := []) (lenOf pd_11 rfl) rfl (by show 2 * 0 + _ ≤ _; exact Nat.le_of_eq rfl) (hb hby d10_31) (fun _ _ => ⟨rfl, e6, (by decide : 0 + 0 ≤ _), (by decide : 0 + 0 ≤ _)⟩)
  dsimp only [Pt.U, Pt.locs, Pt.cells, Pt.slots] at X7 l7 y7 z7 st7 hQ7
  subst l7 y7 z7
  obtain ⟨rfl, Nq7, eq7⟩ := hQ7
  have N7 := Fr.app N0 Nq7
  obtain ⟨fs, hr, hrun, hended, hW, hsame⟩ := X7.leave (v := some (.int (1 : Int32))) (fun h => by rw [Bd.returns] at h; cases h)
  refine ⟨_, _, castTop (ef_10_1 m a1 a1) ?_, hrun, hended, _, _, rfl, ?_, ⟨_, rfl⟩, hW, hsame.mono (by decide) (by decide)⟩
  · show Sp p e below s₁ (mkF m 0 #[.val (.ref a1), .val (.ref a1), .unset] []) _
    refine XS.aloadN X0.here hx rfl (hb hby d10_0) rfl rfl ?_
    show Sp p e below s₁ (mkF m 1 #[.val (.ref a1), .val (.ref a1), .unset] [(.ref a1)]) _
    refine st1 _ ?_
    show Sp p e below T1 (mkF m 4 #[.val (.ref a1), .val (.ref a1), .unset] [(.int (1 : Int32))]) _
    refine XS.ifNo X1.here hx rfl (hb hby d10_4) rfl ((if0 _ _).trans (feq (by decide : ¬ ((1 : Int32) = (0 : Int32)))).1) ?_
    refine XS.aloadN X1.here hx rfl (hb hby d10_7) rfl rfl ?_
    show Sp p e below T1 (mkF m 8 #[.val (.ref a1), .val (.ref a1), .unset] [(.ref a1)]) _
    refine st2 _ ?_
    show Sp p e below T2 (mkF m 11 #[.val (.ref a1), .val (.ref a1), .unset] [(.ref a1)]) _
    refine XS.astoreN X2.here hx rfl (hb hby d10_11) rfl rfl (l' := #[.val (.ref a1), .val (.ref a1), .val (.ref a1)]) rfl ?_
    refine XS.aloadN X2.here hx rfl (hb hby d10_12) rfl rfl ?_
    show Sp p e below T2 (mkF m 13 #[.val (.ref a1), .val (.ref a1), .val (.ref a1)] [(.ref a1)]) _
    refine st3 _ ?_
    show Sp p e below T3 (mkF m 16 #[.val (.ref a1), .val (.ref a1), .val (.ref a1)] [(.ref a2)]) _
    refine XS.aloadN X3.here hx rfl (hb hby d10_16) rfl rfl ?_
    show Sp p e below T3 (mkF m 17 #[.val (.ref a1), .val (.ref a1), .val (.ref a1)] [(.ref a1), (.ref a2)]) _
    refine st4 _ ?_
    show Sp p e below T4 (mkF m 20 #[.val (.ref a1), .val (.ref a1), .val (.ref a1)] [(.ref a2), (.ref a2)]) _
    refine Jvm.RoadKit.acmp (g := (mkF m 20 #[.val (.ref a1), .val (.ref a1), .val (.ref a1)] [(.ref a2), (.ref a2)])) X4 hx rfl rfl rfl (pc0 := 20) (pc' := 23) (same := true) rfl (hb hby d10_20) rfl (decide_eq_true rfl) (by decide) (by decide) ?_
    show Sp p e below T4 (mkF m 23 #[.val (.ref a1), .val (.ref a1), .val (.ref a1)] []) _
    refine XS.aloadN X4.here hx rfl (hb hby d10_23) rfl rfl ?_
    show Sp p e below T4 (mkF m 24 #[.val (.ref a1), .val (.ref a1), .val (.ref a1)] [(.ref a1)]) _
    refine st5 _ ?_
    show Sp p e below T5 (mkF m 27 #[.val (.ref a1), .val (.ref a1), .val (.ref a1)] [(.ref a3)]) _
    refine XS.aloadN X5.here hx rfl (hb hby d10_27) rfl rfl ?_
    show Sp p e below T5 (mkF m 28 #[.val (.ref a1), .val (.ref a1), .val (.ref a1)] [(.ref a1), (.ref a3)]) _
    refine st6 _ ?_
    show Sp p e below T6 (mkF m 31 #[.val (.ref a1), .val (.ref a1), .val (.ref a1)] [(.ref a3), (.ref a3)]) _
    refine st7.trans ?_
    show Sp p e below T7 (mkF m 34 #[.val (.ref a1), .val (.ref a1), .val (.ref a1)] [(.int (1 : Int32))]) _
    refine XS.ifNo X7.here hx rfl (hb hby d10_34) rfl ((if0 _ _).trans (feq (by decide : ¬ ((1 : Int32) = (0 : Int32)))).1) ?_
    refine XS.iconst X7.here hx rfl (hb hby d10_37) ?_
    refine XS.goto X7.here hx rfl (pc0 := 38) (pc' := 42) rfl (hb hby d10_38) (by decide) (by decide) ?_
    show Sp p e below T7 (mkF m 42 #[.val (.ref a1), .val (.ref a1), .val (.ref a1)] [(.int (1 : Int32))]) _
    exact retN X7 hx (t := .boolean) Bd.returns (by simp) (hb hby d10_42) hr
  · show Q41 Z v0 v1 v2 v3 v4 v5 v6 v7 v8 v9 cs_v a1 a2 a3 h0 n0 _ T7.heap _
    rw [eq7]
    exact ⟨rfl, N7, rfl⟩
theorem rm42 (l : Launch) (Z : State) (a0 : Array Value) (hw : ∀ d ∈ tables_1, d.before a0 Z = true) (ws : List Jvm.Cond) (v0 v1 v2 v3 v4 v5 v6 v7 v8 v9 : Addr) (cs_v : Int32) (hp : Perm Z v0 v1 v2 v3 v4 v5 v6 v7 v8 v9 cs_v) (p0 : Int32) (p1 : Int32) (p2 : Int32) (p3 : Int32) (p4 : Int32) (z6 : Int32) (z7 : Int32) (h0 : Heap) (n0 : Nat) (O0 : Old Z n0 h0) (hcut0 : Cut_0_0 p0 p1 p2 p3 p4 z6 z7) (hz0 : 0 ≤ z6.toInt ∧ z6.toInt < 10) (hc3 : ¬ ((((p4.toUInt32 >>> ((8 : Int32) &&& 31).toUInt32).toInt32) &&& (3 : Int32)) = (1 : Int32))) (hc4 : ¬ ((((p4.toUInt32 >>> ((8 : Int32) &&& 31).toUInt32).toInt32) &&& (3 : Int32)) = (2 : Int32))) (hc5 : (((p4.toUInt32 >>> ((8 : Int32) &&& 31).toUInt32).toInt32) &&& (3 : Int32)) = (3 : Int32)) :
    MetFree l x (head1 (Jvm.Cond.code x code maxLocals ret :: ws) room_1) (fun a U => a = #[(.int p0), (.int p1), (.int p2), (.int p3), (.int p4)] ∧ Z.Warmed39 U.vm ∧ U.heap = h0 ∧ CHv Z own_EL U.vm h0) (fun _ _ _ _ _ => True) (fun _ U o U' => ∃ v L, o = .returned v ∧ (v = some (.int (1 : Int32)) ∧ Fr n0 L) ∧ ReturnedEndW U o U' L 32 3200) := by
  refine MetFree.of_bodySF (plainFor_of_name pn_2) hisR ?_
  intro p e s m args below meth c s₁ Bd hml0 hP hK
  obtain ⟨rfl, hZo, hh, hCH⟩ := hP
  have hx := Bd.exec
  have hby := Bd.bytes
  have hml : c.maxLocals = 15 := hml0
  have hown : (s.setVm s.vm).vm.findClass "com/example/ratebook/ratebook/model/PricedItemEqualsPinLaw" = some m.cls := findClass_of_methodNamed Bd.named
  have hnm := (name_of_methodNamed Bd.named Bd.method).1
  have X0 : Stand p l e room_1 (s.setVm s.vm) m #[(.int p0), (.int p1), (.int p2), (.int p3), (.int p4)] below meth c s₁ [] 0 0 := Stand.of_body Bd
  have e0 : s₁.heap = h0 := by rw [← hh, Bd.state]; rfl
  have N0 := Fr.nil n0
  have hZ : Z.Warmed39 (s.setVm s.vm).vm := hZo
  have CH0 := CHr.refl hCH
  have hS0 : s.Since s.vm 0 := (State.WarmedH.refl s).since 0
  have hk0 : 0 ≤ h0.size := Nat.zero_le _
  have st1 := hcut0 X0 hx hZ hw hby hown
  obtain ⟨_, _, ⟨T2, L2, k2, n2⟩, -, XX2, Sq2, gq2, ⟨Lc2, hQ2, l2, y2, z2, C2⟩, st2⟩ := callSS X0 hx (y := y3) hown (mvT hZ (wq hw 1 rfl)) (mvT hZ (wq hw 2 rfl)) (mvT hZ (wq hw 3 rfl)) (mvT hZ (wq hw 4 rfl)) (by decide) (own_backC (SL := []) (W := 0) (rmS1 l Z a0 hw [] v0 v1 v2 v3 v4 v5 v6 v7 v8 v9 cs_v hp p2 h0 n0 O0) hZ (wq hw 4 rfl) (wq hw 3 rfl) (by decide) (by decide) (own_EW hw) CH0.1 all0) (g := (mkF m 76 #[.val (.int p0), .val (.int p1), .val (.int p2), .val (.int p3), .val (.int p4), .val (.int (fx1 p0)), .val (.int z6), .val (.int z7), .val (.int (fx3 p4)), .unset, .unset, .unset, .unset, .unset, .unset] [(.int p2)])) rfl (by rw [hml]; rfl) (argsL := [(.int p2)]) (rest := []) (lenOf pd_6 rfl) rfl (by show 2 * 0 + _ ≤ _; exact Nat.le_of_eq rfl) (hb hby at_76) (fun _ _ => ⟨rfl, e0, (by decide : 0 + 4 ≤ _), (by decide : 0 + 10 ≤ _)⟩)
  dsimp only [Pt.U, Pt.locs, Pt.cells, Pt.slots] at XX2 Sq2 gq2 l2 y2 z2 st2 hQ2 C2
  subst l2 y2 z2
  obtain ⟨X2, hS2, hZ2, hown2⟩ := rebS hS0 (by rw [e0]; exact hk0) XX2 Sq2 gq2 hZ hown
  obtain ⟨b2_0, y2_0, kc2_0, rfl, Nq2, Kq2, sq_b2_0, fq2_0, fq2_1, fq2_2, fq2_3⟩ := hQ2
  have N2 := Fr.app N0 Nq2
  have CH2 := CH0.trans C2
  have hk2 : T2.heap.size ≤ T2.heap.size := Nat.le_refl _
  have O2 := O0.keep Kq2 all0
  obtain ⟨_, _, ⟨T3, L3, k3, n3⟩, -, XX3, Sq3, gq3, ⟨Lc3, hQ3, l3, y3, z3, C3⟩, st3⟩ := callSS X2 hx (y := y3) hown2 (mvT hZ2 (wq hw 1 rfl)) (mvT hZ2 (wq hw 2 rfl)) (mvT hZ2 (wq hw 3 rfl)) (mvT hZ2 (wq hw 4 rfl)) (by decide) (own_backC (SL := []) (W := 0) (rmS1 l Z a0 hw [] v0 v1 v2 v3 v4 v5 v6 v7 v8 v9 cs_v hp z7 T2.heap n0 O2) hZ2 (wq hw 4 rfl) (wq hw 3 rfl) (by decide) (by decide) (own_EW hw) CH2.1 all0) (g := (mkF m 83 #[.val (.int p0), .val (.int p1), .val (.int p2), .val (.int p3), .val (.int p4), .val (.int (fx1 p0)), .val (.int z6), .val (.int z7), .val (.int (fx3 p4)), .val (.ref b2_0), .unset, .unset, .unset, .unset, .unset] [(.int z7)])) rfl (by rw [hml]; rfl) (argsL := [(.int z7)]) (rest := []) (lenOf pd_6 rfl) rfl (by show 2 * 0 + _ ≤ _; exact Nat.le_of_eq rfl) (hb hby at_83) (fun _ _ => ⟨rfl, rfl, (by decide : 4 + 4 ≤ _), (by decide : 10 + 10 ≤ _)⟩)
  dsimp only [Pt.U, Pt.locs, Pt.cells, Pt.slots] at XX3 Sq3 gq3 l3 y3 z3 st3 hQ3 C3
  subst l3 y3 z3
  obtain ⟨X3, hS3, hZ3, hown3⟩ := rebS hS2 hk2 XX3 Sq3 gq3 hZ2 hown2
  obtain ⟨b3_0, y3_0, kc3_0, rfl, Nq3, Kq3, sq_b3_0, fq3_0, fq3_1, fq3_2, fq3_3⟩ := hQ3
  have N3 := Fr.app N2 Nq3
  have CH3 := CH2.trans C3
  have hk3 : T3.heap.size ≤ T3.heap.size := Nat.le_refl _
  have O3 := O2.keep Kq3 all0
  obtain ⟨T4, h4, X4, e4, E4, A4, D4, -, st4⟩ := newO X3 hx hZ3 hown3 (wq hw 30 rfl) (wq hw 31 rfl) (wq hw 32 rfl) rfl (g := (mkF m 88 #[.val (.int p0), .val (.int p1), .val (.int p2), .val (.int p3), .val (.int p4), .val (.int (fx1 p0)), .val (.int z6), .val (.int z7), .val (.int (fx3 p4)), .val (.ref b2_0), .val (.ref b3_0), .unset, .unset, .unset, .unset] [])) rfl (hb hby at_88) (by decide) (by decide)
  obtain ⟨b4, g4⟩ : ∃ z, z = T3.heap.size := ⟨_, rfl⟩
  rw [← g4] at A4 D4 st4
  have g_b4 : n0 ≤ b4 := Nat.le_trans (own_sz O3) (Nat.le_of_eq g4.symm)
  have O4 := O3.ext E4
  have CH4 := CH3.trans (CHr.ext E4 CH3.1)
  have hk4 := Nat.le_trans hk3 E4.1
  have F_category_b4 : Fld Z h4 b4 "com/example/ratebook/ratebook/model/PricedItem" "category" "Lcom/example/ratebook/ratebook/model/Category;" .null := D4 (Or.inr (wq hw 55 rfl)) (ty := (.object "com/example/ratebook/ratebook/model/Category")) (by decide)
  have F_resourceId_b4 : Fld Z h4 b4 "com/example/ratebook/ratebook/model/PricedItem" "resourceId" "Ljava/lang/String;" .null := D4 (Or.inr (wq hw 57 rfl)) (ty := (.object "java/lang/String")) (by decide)
  obtain ⟨_, _, ⟨T5, L5, k5, n5⟩, -, X5, ⟨Lc5, hQ5, l5, y5, z5⟩, st5⟩ := Jvm.LawKit.callS X4 hx (y := y7) hown3 (mvT hZ3 (wq hw 33 rfl)) (mvT hZ3 (wq hw 34 rfl)) (mvT hZ3 (wq hw 3 rfl)) (mvT hZ3 (wq hw 35 rfl)) (by decide) (backOf (W := 2) (rmK6 l Z a0 hw [] v0 v1 v2 v3 v4 v5 v6 v7 v8 v9 cs_v hp ((p0 &&& (2147483647 : Int32)) % (10 : Int32)) h4 n0 O4) hZ3 (wq hw 35 rfl) (wq hw 3 rfl) (by decide) (by decide)) (g := (mkF m 94 #[.val (.int p0), .val (.int p1), .val (.int p2), .val (.int p3), .val (.int p4), .val (.int (fx1 p0)), .val (.int z6), .val (.int z7), .val (.int (fx3 p4)), .val (.ref b2_0), .val (.ref b3_0), .unset, .unset, .unset, .unset] [(.int (fx1 p0)), (.ref b4), (.ref b4)])) rfl (by rw [hml]; rfl) (argsL := [(.int (fx1 p0))]) (rest := [(.ref b4), (.ref b4)]) (lenOf pd_7 rfl) rfl (by show 2 * 0 + _ ≤ _; exact Nat.le_of_eq rfl) (hb hby at_94) (fun _ _ => ⟨rfl, e4, (by decide : 9 + 0 ≤ _), (by decide : 22 + 0 ≤ _)⟩)
  dsimp only [Pt.U, Pt.locs, Pt.cells, Pt.slots] at X5 l5 y5 z5 st5 hQ5
  subst l5 y5 z5
  obtain ⟨c5_0, rfl, Nq5, eq5, oq5_0, oq5_1⟩ := hQ5
  have N5 := Fr.app N3 Nq5
  obtain ⟨_, _, ⟨T6, L6, k6, n6⟩, -, XX6, Sq6, gq6, ⟨Lc6, hQ6, l6, y6, z6, C6⟩, st6⟩ := X5.specialBackS hx (y := y10) rfl hown3 (mvT hZ3 (wq hw 39 rfl)) (mvT hZ3 (wq hw 40 rfl)) (mvT hZ3 (wq hw 41 rfl)) (by decide) (own_backC (SL := []) (W := 1) (rm35 l Z a0 hw [] v0 v1 v2 v3 v4 v5 v6 v7 v8 v9 cs_v hp b4 c5_0 b2_0 h4 n0 O4 A4 F_category_b4 F_resourceId_b4 g_b4) hZ3 (wq hw 41 rfl) (wq hw 32 rfl) (by decide) (by decide) (own_EW hw) CH4.1 all0) (g := (mkF m 99 #[.val (.int p0), .val (.int p1), .val (.int p2), .val (.int p3), .val (.int p4), .val (.int (fx1 p0)), .val (.int z6), .val (.int z7), .val (.int (fx3 p4)), .val (.ref b2_0), .val (.ref b3_0), .unset, .unset, .unset, .unset] [(.ref b2_0), (.ref c5_0), (.ref b4), (.ref b4)])) rfl (by rw [hml]; rfl) (Steps.refl _) (a := b4) (argsL := [(.ref c5_0), (.ref b2_0)]) (rest := [(.ref b4)]) (lenOf pd_10 rfl) rfl (by show 2 * 0 + _ ≤ _; exact Nat.le_of_eq rfl) (hb hby at_99) (fun _ _ => ⟨rfl, eq5, (by decide : 9 + 4 ≤ _), (by decide : 22 + 80 ≤ _)⟩)
  dsimp only [Pt.U, Pt.locs, Pt.cells, Pt.slots] at XX6 Sq6 gq6 l6 y6 z6 st6 hQ6 C6
  subst l6 y6 z6
  obtain ⟨X6, hS6, hZ6, hown6⟩ := rebS hS3 (by rw [eq5]; exact hk4) XX6 Sq6 gq6 hZ3 hown3
  obtain ⟨rfl, Nq6, Kq6, fq6_0, fq6_1, fq6_2⟩ := hQ6
  have N6 := Fr.app N5 Nq6
  have CH6 := CH4.trans C6
  have hk6 : T6.heap.size ≤ T6.heap.size := Nat.le_refl _
  have O6 := O4.keep Kq6 (allS g_b4 all0)
  obtain ⟨T7, h7, X7, e7, E7, A7, D7, -, st7⟩ := newO X6 hx hZ6 hown6 (wq hw 30 rfl) (wq hw 31 rfl) (wq hw 32 rfl) rfl (g := (mkF m 104 #[.val (.int p0), .val (.int p1), .val (.int p2), .val (.int p3), .val (.int p4), .val (.int (fx1 p0)), .val (.int z6), .val (.int z7), .val (.int (fx3 p4)), .val (.ref b2_0), .val (.ref b3_0), .val (.ref b4), .unset, .unset, .unset] [])) rfl (hb hby at_104) (by decide) (by decide)
  obtain ⟨b7, g7⟩ : ∃ z, z = T6.heap.size := ⟨_, rfl⟩
  rw [← g7] at A7 D7 st7
  have g_b7 : n0 ≤ b7 := Nat.le_trans (own_sz O6) (Nat.le_of_eq g7.symm)
  have O7 := O6.ext E7
  have CH7 := CH6.trans (CHr.ext E7 CH6.1)
  have hk7 := Nat.le_trans hk6 E7.1
  have F_category_b7 : Fld Z h7 b7 "com/example/ratebook/ratebook/model/PricedItem" "category" "Lcom/example/ratebook/ratebook/model/Category;" .null := D7 (Or.inr (wq hw 55 rfl)) (ty := (.object "com/example/ratebook/ratebook/model/Category")) (by decide)
  have F_resourceId_b7 : Fld Z h7 b7 "com/example/ratebook/ratebook/model/PricedItem" "resourceId" "Ljava/lang/String;" .null := D7 (Or.inr (wq hw 57 rfl)) (ty := (.object "java/lang/String")) (by decide)
  obtain ⟨_, _, ⟨T8, L8, k8, n8⟩, -, X8, ⟨Lc8, hQ8, l8, y8, z8⟩, st8⟩ := Jvm.LawKit.callS X7 hx (y := y7) hown6 (mvT hZ6 (wq hw 33 rfl)) (mvT hZ6 (wq hw 34 rfl)) (mvT hZ6 (wq hw 3 rfl)) (mvT hZ6 (wq hw 35 rfl)) (by decide) (backOf (W := 2) (rmK6 l Z a0 hw [] v0 v1 v2 v3 v4 v5 v6 v7 v8 v9 cs_v hp z6 h7 n0 O7) hZ6 (wq hw 35 rfl) (wq hw 3 rfl) (by decide) (by decide)) (g := (mkF m 110 #[.val (.int p0), .val (.int p1), .val (.int p2), .val (.int p3), .val (.int p4), .val (.int (fx1 p0)), .val (.int z6), .val (.int z7), .val (.int (fx3 p4)), .val (.ref b2_0), .val (.ref b3_0), .val (.ref b4), .unset, .unset, .unset] [(.int z6), (.ref b7), (.ref b7)])) rfl (by rw [hml]; rfl) (argsL := [(.int z6)]) (rest := [(.ref b7), (.ref b7)]) (lenOf pd_7 rfl) rfl (by show 2 * 0 + _ ≤ _; exact Nat.le_of_eq rfl) (hb hby at_110) (fun _ _ => ⟨rfl, e7, (by decide : 14 + 0 ≤ _), (by decide : 104 + 0 ≤ _)⟩)
  dsimp only [Pt.U, Pt.locs, Pt.cells, Pt.slots] at X8 l8 y8 z8 st8 hQ8
  subst l8 y8 z8
  obtain ⟨c8_0, rfl, Nq8, eq8, oq8_0, oq8_1⟩ := hQ8
  have N8 := Fr.app N6 Nq8
  obtain ⟨_, _, ⟨T9, L9, k9, n9⟩, -, XX9, Sq9, gq9, ⟨Lc9, hQ9, l9, y9, z9, C9⟩, st9⟩ := X8.specialBackS hx (y := y10) rfl hown6 (mvT hZ6 (wq hw 39 rfl)) (mvT hZ6 (wq hw 40 rfl)) (mvT hZ6 (wq hw 41 rfl)) (by decide) (own_backC (SL := []) (W := 1) (rm35 l Z a0 hw [] v0 v1 v2 v3 v4 v5 v6 v7 v8 v9 cs_v hp b7 c8_0 b3_0 h7 n0 O7 A7 F_category_b7 F_resourceId_b7 g_b7) hZ6 (wq hw 41 rfl) (wq hw 32 rfl) (by decide) (by decide) (own_EW hw) CH7.1 all0) (g := (mkF m 115 #[.val (.int p0), .val (.int p1), .val (.int p2), .val (.int p3), .val (.int p4), .val (.int (fx1 p0)), .val (.int z6), .val (.int z7), .val (.int (fx3 p4)), .val (.ref b2_0), .val (.ref b3_0), .val (.ref b4), .unset, .unset, .unset] [(.ref b3_0), (.ref c8_0), (.ref b7), (.ref b7)])) rfl (by rw [hml]; rfl) (Steps.refl _) (a := b7) (argsL := [(.ref c8_0), (.ref b3_0)]) (rest := [(.ref b7)]) (lenOf pd_10 rfl) rfl (by show 2 * 0 + _ ≤ _; exact Nat.le_of_eq rfl) (hb hby at_115) (fun _ _ => ⟨rfl, eq8, (by decide : 14 + 4 ≤ _), (by decide : 104 + 80 ≤ _)⟩)
  dsimp only [Pt.U, Pt.locs, Pt.cells, Pt.slots] at XX9 Sq9 gq9 l9 y9 z9 st9 hQ9 C9
  subst l9 y9 z9
  obtain ⟨X9, hS9, hZ9, hown9⟩ := rebS hS6 (by rw [eq8]; exact hk7) XX9 Sq9 gq9 hZ6 hown6
  obtain ⟨rfl, Nq9, Kq9, fq9_0, fq9_1, fq9_2⟩ := hQ9
  have N9 := Fr.app N8 Nq9
  have CH9 := CH7.trans C9
  have hk9 : T9.heap.size ≤ T9.heap.size := Nat.le_refl _
  have O9 := O7.keep Kq9 (allS g_b7 all0)
  have f_10 := ((fq6_1.ext E7).keep Kq9 (ninS (Nat.ne_of_lt (Nat.lt_of_lt_of_le (A4.keep Kq6).lt (Nat.le_of_eq g7.symm))) nin0))
  have f_11 := ((fq6_2.ext E7).keep Kq9 (ninS (Nat.ne_of_lt (Nat.lt_of_lt_of_le (A4.keep Kq6).lt (Nat.le_of_eq g7.symm))) nin0))
  obtain ⟨cq12, kq12, q12a, q12b, q12c⟩ := isOf hZ9 rfl ((fq6_0.ext E7).keep Kq9)
  obtain ⟨_, _, ⟨T12, L12, k12, n12⟩, -, X12, ⟨Lc12, hQ12, l12, y12, z12⟩, st12⟩ := X9.virtualBack hx (y := y11) (z := y11) hown9 (mvT hZ9 (wq hw 60 rfl)) (mvT hZ9 (wq hw 61 rfl)) (notFace_of_selects (args := #[]) (mvT hZ9 (wq hw 63 rfl))) (mvT hZ9 (wq hw 63 rfl)) (mvT hZ9 (wq hw 62 rfl)) (by decide) (backOf (W := 0) (rm41 l Z a0 hw [] v0 v1 v2 v3 v4 v5 v6 v7 v8 v9 cs_v hp b4 c5_0 b2_0 T9.heap n0 O9 ((fq6_0.ext E7).keep Kq9) f_10 f_11 (((((fq2_0.keep Kq3).ext E4).keep Kq6).ext E7).keep Kq9)) hZ9 (wq hw 64 rfl) (wq hw 32 rfl) (by decide) (by decide)) q12a q12c (g := (mkF m 219 #[.val (.int p0), .val (.int p1), .val (.int p2), .val (.int p3), .val (.int p4), .val (.int (fx1 p0)), .val (.int z6), .val (.int z7), .val (.int (fx3 p4)), .val (.ref b2_0), .val (.ref b3_0), .val (.ref b4), .val (.ref b7), .val (.ref b4), .val (.int (1 : Int32))] [(.ref b4), (.ref b4)])) rfl (by rw [hml]; rfl) (Steps.refl _) (argsL := [(.ref b4)]) (rest := []) (lenOf pd_11 rfl) rfl (by show 2 * 0 + _ ≤ _; exact Nat.le_of_eq rfl) (hb hby at_219) (fun _ _ => ⟨rfl, rfl, (by decide : 18 + 0 ≤ _), (by decide : 184 + 0 ≤ _)⟩)
  dsimp only [Pt.U, Pt.locs, Pt.cells, Pt.slots] at X12 l12 y12 z12 st12 hQ12
  subst l12 y12 z12
  obtain ⟨rfl, Nq12, eq12⟩ := hQ12
  have N12 := Fr.app N9 Nq12
  obtain ⟨fs, hr, hrun, hended, hE⟩ := Stand.leaveW (s := s) X12 hS9 (by rw [eq12]; exact hk9) (v := some (.int (1 : Int32))) (fun h => by rw [Bd.returns] at h; cases h)
  refine ⟨_, _, castTop (ef_0_0 m p0 p1 p2 p3 p4) ?_, hrun, hended, _, _, rfl, ?_, hE.1, hE.2.1, hE.2.2.1, hE.2.2.2.mono (by decide) (by decide)⟩
  · show Sp p e below s₁ (mkF m 0 #[.val (.int p0), .val (.int p1), .val (.int p2), .val (.int p3), .val (.int p4), .unset, .unset, .unset, .unset, .unset, .unset, .unset, .unset, .unset, .unset] []) _
    refine st1 _ ?_
    show Sp p e below s₁ (mkF m 75 #[.val (.int p0), .val (.int p1), .val (.int p2), .val (.int p3), .val (.int p4), .val (.int (fx1 p0)), .val (.int z6), .val (.int z7), .val (.int (fx3 p4)), .unset, .unset, .unset, .unset, .unset, .unset] []) _
    refine XS.iloadN X0.here hx rfl (hb hby at_75) rfl ?_
    show Sp p e below s₁ (mkF m 76 #[.val (.int p0), .val (.int p1), .val (.int p2), .val (.int p3), .val (.int p4), .val (.int (fx1 p0)), .val (.int z6), .val (.int z7), .val (.int (fx3 p4)), .unset, .unset, .unset, .unset, .unset, .unset] [(.int p2)]) _
    refine st2.trans ?_
    show Sp p e below T2 (mkF m 79 #[.val (.int p0), .val (.int p1), .val (.int p2), .val (.int p3), .val (.int p4), .val (.int (fx1 p0)), .val (.int z6), .val (.int z7), .val (.int (fx3 p4)), .unset, .unset, .unset, .unset, .unset, .unset] [(.ref b2_0)]) _
    refine XS.astore X2.here hx rfl (hb hby at_79) rfl rfl (l' := #[.val (.int p0), .val (.int p1), .val (.int p2), .val (.int p3), .val (.int p4), .val (.int (fx1 p0)), .val (.int z6), .val (.int z7), .val (.int (fx3 p4)), .val (.ref b2_0), .unset, .unset, .unset, .unset, .unset]) rfl ?_
    refine XS.iload X2.here hx rfl (hb hby at_81) rfl ?_
    show Sp p e below T2 (mkF m 83 #[.val (.int p0), .val (.int p1), .val (.int p2), .val (.int p3), .val (.int p4), .val (.int (fx1 p0)), .val (.int z6), .val (.int z7), .val (.int (fx3 p4)), .val (.ref b2_0), .unset, .unset, .unset, .unset, .unset] [(.int z7)]) _
    refine st3.trans ?_
    show Sp p e below T3 (mkF m 86 #[.val (.int p0), .val (.int p1), .val (.int p2), .val (.int p3), .val (.int p4), .val (.int (fx1 p0)), .val (.int z6), .val (.int z7), .val (.int (fx3 p4)), .val (.ref b2_0), .unset, .unset, .unset, .unset, .unset] [(.ref b3_0)]) _
    refine XS.astore X3.here hx rfl (hb hby at_86) rfl rfl (l' := #[.val (.int p0), .val (.int p1), .val (.int p2), .val (.int p3), .val (.int p4), .val (.int (fx1 p0)), .val (.int z6), .val (.int z7), .val (.int (fx3 p4)), .val (.ref b2_0), .val (.ref b3_0), .unset, .unset, .unset, .unset]) rfl ?_
    show Sp p e below T3 (mkF m 88 #[.val (.int p0), .val (.int p1), .val (.int p2), .val (.int p3), .val (.int p4), .val (.int (fx1 p0)), .val (.int z6), .val (.int z7), .val (.int (fx3 p4)), .val (.ref b2_0), .val (.ref b3_0), .unset, .unset, .unset, .unset] []) _
    refine st4 _ ?_
    show Sp p e below T4 (mkF m 91 #[.val (.int p0), .val (.int p1), .val (.int p2), .val (.int p3), .val (.int p4), .val (.int (fx1 p0)), .val (.int z6), .val (.int z7), .val (.int (fx3 p4)), .val (.ref b2_0), .val (.ref b3_0), .unset, .unset, .unset, .unset] [(.ref b4)]) _
    refine XS.dup X4.here hx rfl (hb hby at_91) rfl rfl ?_
    refine XS.iload X4.here hx rfl (hb hby at_92) rfl ?_
    show Sp p e below T4 (mkF m 94 #[.val (.int p0), .val (.int p1), .val (.int p2), .val (.int p3), .val (.int p4), .val (.int (fx1 p0)), .val (.int z6), .val (.int z7), .val (.int (fx3 p4)), .val (.ref b2_0), .val (.ref b3_0), .unset, .unset, .unset, .unset] [(.int (fx1 p0)), (.ref b4), (.ref b4)]) _
    refine st5 _ ?_
    show Sp p e below T5 (mkF m 97 #[.val (.int p0), .val (.int p1), .val (.int p2), .val (.int p3), .val (.int p4), .val (.int (fx1 p0)), .val (.int z6), .val (.int z7), .val (.int (fx3 p4)), .val (.ref b2_0), .val (.ref b3_0), .unset, .unset, .unset, .unset] [(.ref c5_0), (.ref b4), (.ref b4)]) _
    refine XS.aload X5.here hx rfl (hb hby at_97) rfl rfl ?_
    show Sp p e below T5 (mkF m 99 #[.val (.int p0), .val (.int p1), .val (.int p2), .val (.int p3), .val (.int p4), .val (.int (fx1 p0)), .val (.int z6), .val (.int z7), .val (.int (fx3 p4)), .val (.ref b2_0), .val (.ref b3_0), .unset, .unset, .unset, .unset] [(.ref b2_0), (.ref c5_0), (.ref b4), (.ref b4)]) _
    refine st6.trans ?_
    show Sp p e below T6 (mkF m 102 #[.val (.int p0), .val (.int p1), .val (.int p2), .val (.int p3), .val (.int p4), .val (.int (fx1 p0)), .val (.int z6), .val (.int z7), .val (.int (fx3 p4)), .val (.ref b2_0), .val (.ref b3_0), .unset, .unset, .unset, .unset] [(.ref b4)]) _
    refine XS.astore X6.here hx rfl (hb hby at_102) rfl rfl (l' := #[.val (.int p0), .val (.int p1), .val (.int p2), .val (.int p3), .val (.int p4), .val (.int (fx1 p0)), .val (.int z6), .val (.int z7), .val (.int (fx3 p4)), .val (.ref b2_0), .val (.ref b3_0), .val (.ref b4), .unset, .unset, .unset]) rfl ?_
    show Sp p e below T6 (mkF m 104 #[.val (.int p0), .val (.int p1), .val (.int p2), .val (.int p3), .val (.int p4), .val (.int (fx1 p0)), .val (.int z6), .val (.int z7), .val (.int (fx3 p4)), .val (.ref b2_0), .val (.ref b3_0), .val (.ref b4), .unset, .unset, .unset] []) _
    refine st7 _ ?_
    show Sp p e below T7 (mkF m 107 #[.val (.int p0), .val (.int p1), .val (.int p2), .val (.int p3), .val (.int p4), .val (.int (fx1 p0)), .val (.int z6), .val (.int z7), .val (.int (fx3 p4)), .val (.ref b2_0), .val (.ref b3_0), .val (.ref b4), .unset, .unset, .unset] [(.ref b7)]) _
    refine XS.dup X7.here hx rfl (hb hby at_107) rfl rfl ?_
    refine XS.iload X7.here hx rfl (hb hby at_108) rfl ?_
    show Sp p e below T7 (mkF m 110 #[.val (.int p0), .val (.int p1), .val (.int p2), .val (.int p3), .val (.int p4), .val (.int (fx1 p0)), .val (.int z6), .val (.int z7), .val (.int (fx3 p4)), .val (.ref b2_0), .val (.ref b3_0), .val (.ref b4), .unset, .unset, .unset] [(.int z6), (.ref b7), (.ref b7)]) _
    refine st8 _ ?_
    show Sp p e below T8 (mkF m 113 #[.val (.int p0), .val (.int p1), .val (.int p2), .val (.int p3), .val (.int p4), .val (.int (fx1 p0)), .val (.int z6), .val (.int z7), .val (.int (fx3 p4)), .val (.ref b2_0), .val (.ref b3_0), .val (.ref b4), .unset, .unset, .unset] [(.ref c8_0), (.ref b7), (.ref b7)]) _
    refine XS.aload X8.here hx rfl (hb hby at_113) rfl rfl ?_
    show Sp p e below T8 (mkF m 115 #[.val (.int p0), .val (.int p1), .val (.int p2), .val (.int p3), .val (.int p4), .val (.int (fx1 p0)), .val (.int z6), .val (.int z7), .val (.int (fx3 p4)), .val (.ref b2_0), .val (.ref b3_0), .val (.ref b4), .unset, .unset, .unset] [(.ref b3_0), (.ref c8_0), (.ref b7), (.ref b7)]) _
    refine st9.trans ?_
    show Sp p e below T9 (mkF m 118 #[.val (.int p0), .val (.int p1), .val (.int p2), .val (.int p3), .val (.int p4), .val (.int (fx1 p0)), .val (.int z6), .val (.int z7), .val (.int (fx3 p4)), .val (.ref b2_0), .val (.ref b3_0), .val (.ref b4), .unset, .unset, .unset] [(.ref b7)]) _
    refine XS.astore X9.here hx rfl (hb hby at_118) rfl rfl (l' := #[.val (.int p0), .val (.int p1), .val (.int p2), .val (.int p3), .val (.int p4), .val (.int (fx1 p0)), .val (.int z6), .val (.int z7), .val (.int (fx3 p4)), .val (.ref b2_0), .val (.ref b3_0), .val (.ref b4), .val (.ref b7), .unset, .unset]) rfl ?_
    refine XS.iload X9.here hx rfl (hb hby at_120) rfl ?_
    refine XS.iconst X9.here hx rfl (hb hby at_122) ?_
    refine XS.icmpYes X9.here hx rfl (pc0 := 123) (pc' := 132) rfl (hb hby at_123) rfl (feq hc3).2 (by decide) (by decide) ?_
    refine XS.iload X9.here hx rfl (hb hby at_132) rfl ?_
    refine XS.iconst X9.here hx rfl (hb hby at_134) ?_
    refine XS.icmpYes X9.here hx rfl (pc0 := 135) (pc' := 145) rfl (hb hby at_135) rfl (feq hc4).2 (by decide) (by decide) ?_
    show Sp p e below T9 (mkF m 145 #[.val (.int p0), .val (.int p1), .val (.int p2), .val (.int p3), .val (.int p4), .val (.int (fx1 p0)), .val (.int z6), .val (.int z7), .val (.int (fx3 p4)), .val (.ref b2_0), .val (.ref b3_0), .val (.ref b4), .val (.ref b7), .unset, .unset] []) _
    refine XS.iload X9.here hx rfl (hb hby at_145) rfl ?_
    refine XS.iconst X9.here hx rfl (hb hby at_147) ?_
    refine XS.icmpNo X9.here hx rfl (hb hby at_148) rfl (teq hc5).2 ?_
    refine XS.aload X9.here hx rfl (hb hby at_151) rfl rfl ?_
    refine XS.astore X9.here hx rfl (hb hby at_153) rfl rfl (l' := #[.val (.int p0), .val (.int p1), .val (.int p2), .val (.int p3), .val (.int p4), .val (.int (fx1 p0)), .val (.int z6), .val (.int z7), .val (.int (fx3 p4)), .val (.ref b2_0), .val (.ref b3_0), .val (.ref b4), .val (.ref b7), .val (.ref b4), .unset]) rfl ?_
    refine XS.goto X9.here hx rfl (pc0 := 155) (pc' := 162) rfl (hb hby at_155) (by decide) (by decide) ?_
    refine XS.iload X9.here hx rfl (hb hby at_162) rfl ?_
    show Sp p e below T9 (mkF m 164 #[.val (.int p0), .val (.int p1), .val (.int p2), .val (.int p3), .val (.int p4), .val (.int (fx1 p0)), .val (.int z6), .val (.int z7), .val (.int (fx3 p4)), .val (.ref b2_0), .val (.ref b3_0), .val (.ref b4), .val (.ref b7), .val (.ref b4), .unset] [(.int (fx3 p4))]) _
    refine XS.iconst X9.here hx rfl (hb hby at_164) ?_
    refine XS.icmpNo X9.here hx rfl (hb hby at_165) rfl (feq hc3).1 ?_
    refine XS.iload X9.here hx rfl (hb hby at_168) rfl ?_
    refine XS.iconst X9.here hx rfl (hb hby at_170) ?_
    refine XS.icmpYes X9.here hx rfl (pc0 := 171) (pc' := 180) rfl (hb hby at_171) rfl (feq hc4).2 (by decide) (by decide) ?_
    refine XS.iload X9.here hx rfl (hb hby at_180) rfl ?_
    refine XS.iconst X9.here hx rfl (hb hby at_182) ?_
    show Sp p e below T9 (mkF m 183 #[.val (.int p0), .val (.int p1), .val (.int p2), .val (.int p3), .val (.int p4), .val (.int (fx1 p0)), .val (.int z6), .val (.int z7), .val (.int (fx3 p4)), .val (.ref b2_0), .val (.ref b3_0), .val (.ref b4), .val (.ref b7), .val (.ref b4), .unset] [(.int (3 : Int32)), (.int (fx3 p4))]) _
    refine XS.icmpNo X9.here hx rfl (hb hby at_183) rfl (teq hc5).2 ?_
    refine XS.iconst X9.here hx rfl (hb hby at_186) ?_
    refine XS.istore X9.here hx rfl (hb hby at_187) rfl (l' := #[.val (.int p0), .val (.int p1), .val (.int p2), .val (.int p3), .val (.int p4), .val (.int (fx1 p0)), .val (.int z6), .val (.int z7), .val (.int (fx3 p4)), .val (.ref b2_0), .val (.ref b3_0), .val (.ref b4), .val (.ref b7), .val (.ref b4), .val (.int (1 : Int32))]) rfl ?_
    refine XS.goto X9.here hx rfl (pc0 := 189) (pc' := 215) rfl (hb hby at_189) (by decide) (by decide) ?_
    refine XS.aload X9.here hx rfl (hb hby at_215) rfl rfl ?_
    refine XS.aload X9.here hx rfl (hb hby at_217) rfl rfl ?_
    show Sp p e below T9 (mkF m 219 #[.val (.int p0), .val (.int p1), .val (.int p2), .val (.int p3), .val (.int p4), .val (.int (fx1 p0)), .val (.int z6), .val (.int z7), .val (.int (fx3 p4)), .val (.ref b2_0), .val (.ref b3_0), .val (.ref b4), .val (.ref b7), .val (.ref b4), .val (.int (1 : Int32))] [(.ref b4), (.ref b4)]) _
    refine st12.trans ?_
    show Sp p e below T12 (mkF m 222 #[.val (.int p0), .val (.int p1), .val (.int p2), .val (.int p3), .val (.int p4), .val (.int (fx1 p0)), .val (.int z6), .val (.int z7), .val (.int (fx3 p4)), .val (.ref b2_0), .val (.ref b3_0), .val (.ref b4), .val (.ref b7), .val (.ref b4), .val (.int (1 : Int32))] [(.int (1 : Int32))]) _
    refine XS.iload X12.here hx rfl (hb hby at_222) rfl ?_
    refine XS.icmpNo X12.here hx rfl (hb hby at_224) rfl (teq (by decide : (1 : Int32) = (1 : Int32))).2 ?_
    refine XS.iconst X12.here hx rfl (hb hby at_227) ?_
    refine XS.goto X12.here hx rfl (pc0 := 228) (pc' := 232) rfl (hb hby at_228) (by decide) (by decide) ?_
    show Sp p e below T12 (mkF m 232 #[.val (.int p0), .val (.int p1), .val (.int p2), .val (.int p3), .val (.int p4), .val (.int (fx1 p0)), .val (.int z6), .val (.int z7), .val (.int (fx3 p4)), .val (.ref b2_0), .val (.ref b3_0), .val (.ref b4), .val (.ref b7), .val (.ref b4), .val (.int (1 : Int32))] [(.int (1 : Int32))]) _
    exact retN X12 hx (t := .boolean) Bd.returns (by simp) (hb hby at_232) hr
  · skip
    exact ⟨rfl, N12⟩
theorem d11_0 : decode method_5_code 0 = .ok (.iload_n 0, 1) := by decide +kernel
theorem d11_1 : decode method_5_code 1 = .ok (.invokestatic 31, 3) := by decide +kernel
theorem d11_4 : decode method_5_code 4 = .ok (.istore_n 2, 1) := by decide +kernel
theorem d11_5 : decode method_5_code 5 = .ok (.iload_n 2, 1) := by decide +kernel
theorem d11_6 : decode method_5_code 6 = .ok (.iload_n 1, 1) := by decide +kernel
theorem d11_7 : decode method_5_code 7 = .ok (.invokestatic 31, 3) := by decide +kernel
theorem d11_10 : decode method_5_code 10 = .ok (.if_icmp .eq 5, 3) := by decide +kernel
theorem d11_15 : decode method_5_code 15 = .ok (.iload_n 2, 1) := by decide +kernel
theorem d11_16 : decode method_5_code 16 = .ok (.iconst 1, 1) := by decide +kernel
theorem d11_17 : decode method_5_code 17 = .ok (.if_icmp .lt 18, 3) := by decide +kernel
theorem d11_35 : decode method_5_code 35 = .ok (.iload_n 2, 1) := by decide +kernel
theorem d11_36 : decode method_5_code 36 = .ok (.iconst 2, 1) := by decide +kernel
theorem d11_37 : decode method_5_code 37 = .ok (.if_icmp .lt 24, 3) := by decide +kernel
theorem d11_61 : decode method_5_code 61 = .ok (.iload_n 2, 1) := by decide +kernel
theorem d11_62 : decode method_5_code 62 = .ok (.iconst 3, 1) := by decide +kernel
theorem d11_63 : decode method_5_code 63 = .ok (.if_icmp .lt 24, 3) := by decide +kernel
theorem d11_87 : decode method_5_code 87 = .ok (.iconst 1, 1) := by decide +kernel
theorem d11_88 : decode method_5_code 88 = .ok (.ireturn, 1) := by decide +kernel
abbrev y13 : MethodName := (⟨"com/example/ratebook/ratebook/model/PricedItemEqualsPinLaw", "sameText", "(II)Z"⟩ : MethodName)
theorem ef_11_0 (m : MethodId) (x0 : Int32) (x1 : Int32) : entryFrame m #[(.int x0), (.int x1)] 3 = mkF m 0 #[.val (.int x0), .val (.int x1), .unset] [] := by first | (simp [entryFrame, mkF, argsToLocals, Value.category]; done) | rfl
def Q43 (Z : State) (v0 : Addr) (v1 : Addr) (v2 : Addr) (v3 : Addr) (v4 : Addr) (v5 : Addr) (v6 : Addr) (v7 : Addr) (v8 : Addr) (v9 : Addr) (cs_v : Int32) (p0 : Int32) (p1 : Int32) (h0 : Heap) (n0 : Nat) (v : Option Value) (h : Heap) (L : List Loc) : Prop := v = some (.int (1 : Int32)) ∧ Fr n0 L ∧ h = h0
theorem rm43 (l : Launch) (Z : State) (a0 : Array Value) (hw : ∀ d ∈ tables_1, d.before a0 Z = true) (ws : List Jvm.Cond) (v0 v1 v2 v3 v4 v5 v6 v7 v8 v9 : Addr) (cs_v : Int32) (hp : Perm Z v0 v1 v2 v3 v4 v5 v6 v7 v8 v9 cs_v) (p0 : Int32) (p1 : Int32) (h0 : Heap) (n0 : Nat) (O0 : Old Z n0 h0) (hc1 : (((p0.toUInt32 >>> ((24 : Int32) &&& 31).toUInt32).toInt32) &&& (3 : Int32)) = (((p1.toUInt32 >>> ((24 : Int32) &&& 31).toUInt32).toInt32) &&& (3 : Int32))) (hc2 : (((p0.toUInt32 >>> ((24 : Int32) &&& 31).toUInt32).toInt32) &&& (3 : Int32)) < (1 : Int32)) :
    MetFree l y13 (head1 (Jvm.Cond.code y13 method_5_code 3 (some .boolean) :: ws) ({ frames := 1, cells := 0, slots := 0, locals := 13 } : Room)) (fun a U => a = #[(.int p0), (.int p1)] ∧ Z.Warmed39 U.vm ∧ U.heap = h0) (fun _ _ _ _ _ => True) (fun _ U o U' => ∃ v L, o = .returned v ∧ Q43 Z v0 v1 v2 v3 v4 v5 v6 v7 v8 v9 cs_v p0 p1 h0 n0 v U'.heap L ∧ FrameEnd U o U' L ({ frames := 1, cells := 0, slots := 0, locals := 13 } : Room).cells ({ frames := 1, cells := 0, slots := 0, locals := 13 } : Room).slots) := by
  refine MetFree.of_bodySF (plainFor_of_name pn_2) hisR ?_
  intro p e s m args below meth c s₁ Bd hml0 hP hK
  obtain ⟨rfl, hZ, hh⟩ := hP
  have hx := Bd.exec
  have hby := Bd.bytes
  have hml : c.maxLocals = 3 := hml0
  have hown : s.vm.findClass "com/example/ratebook/ratebook/model/PricedItemEqualsPinLaw" = some m.cls := findClass_of_methodNamed Bd.named
  have hnm := (name_of_methodNamed Bd.named Bd.method).1
  have X0 : Stand p l e ({ frames := 1, cells := 0, slots := 0, locals := 13 } : Room) s m #[(.int p0), (.int p1)] below meth c s₁ [] 0 0 := Stand.of_body Bd
  have e0 : s₁.heap = h0 := by rw [← hh, Bd.state]; rfl
  have N0 := Fr.nil n0
  obtain ⟨_, _, ⟨T1, L1, k1, n1⟩, -, X1, ⟨Lc1, hQ1, l1, y1, z1⟩, st1⟩ := Jvm.LawKit.callS X0 hx (y := y0) hown (mvT hZ (wq hw 5 rfl)) (mvT hZ (wq hw 6 rfl)) (mvT hZ (wq hw 3 rfl)) (mvT hZ (wq hw 7 rfl)) (by decide) (backOf (W := 0) (rm1 l Z a0 hw [] v0 v1 v2 v3 v4 v5 v6 v7 v8 v9 cs_v hp p0 h0 n0 O0) hZ (wq hw 7 rfl) (wq hw 3 rfl) (by decide) (by decide)) (g := (mkF m 1 #[.val (.int p0), .val (.int p1), .unset] [(.int p0)])) rfl (by rw [hml]; rfl) (argsL := [(.int p0)]) (rest := []) (lenOf pd_0 rfl) rfl (by show 2 * 0 + _ ≤ _; exact Nat.le_of_eq rfl) (hb hby d11_1) (fun _ _ => ⟨rfl, e0, (by decide : 0 + 0 ≤ _), (by decide : 0 + 0 ≤ _)⟩)
  dsimp only [Pt.U, Pt.locs, Pt.cells, Pt.slots] at X1 l1 y1 z1 st1 hQ1
  subst l1 y1 z1
  obtain ⟨rfl, Nq1, eq1⟩ := hQ1
  have N1 := Fr.app N0 Nq1
  obtain ⟨_, _, ⟨T2, L2, k2, n2⟩, -, X2, ⟨Lc2, hQ2, l2, y2, z2⟩, st2⟩ := Jvm.LawKit.callS X1 hx (y := y0) hown (mvT hZ (wq hw 5 rfl)) (mvT hZ (wq hw 6 rfl)) (mvT hZ (wq hw 3 rfl)) (mvT hZ (wq hw 7 rfl)) (by decide) (backOf (W := 1) (rm1 l Z a0 hw [] v0 v1 v2 v3 v4 v5 v6 v7 v8 v9 cs_v hp p1 h0 n0 O0) hZ (wq hw 7 rfl) (wq hw 3 rfl) (by decide) (by decide)) (g := (mkF m 7 #[.val (.int p0), .val (.int p1), .val (.int (fx6 p0))] [(.int p1), (.int (fx6 p0))])) rfl (by rw [hml]; rfl) (argsL := [(.int p1)]) (rest := [(.int (fx6 p0))]) (lenOf pd_0 rfl) rfl (by show 2 * 0 + _ ≤ _; exact Nat.le_of_eq rfl) (hb hby d11_7) (fun _ _ => ⟨rfl, eq1, (by decide : 0 + 0 ≤ _), (by decide : 0 + 0 ≤ _)⟩)
  dsimp only [Pt.U, Pt.locs, Pt.cells, Pt.slots] at X2 l2 y2 z2 st2 hQ2
  subst l2 y2 z2
  obtain ⟨rfl, Nq2, eq2⟩ := hQ2
  have N2 := Fr.app N1 Nq2
  obtain ⟨fs, hr, hrun, hended, hW, hsame⟩ := X2.leave (v := some (.int (1 : Int32))) (fun h => by rw [Bd.returns] at h; cases h)
  refine ⟨_, _, castTop (ef_11_0 m p0 p1) ?_, hrun, hended, _, _, rfl, ?_, ⟨_, rfl⟩, hW, hsame.mono (by decide) (by decide)⟩
  · show Sp p e below s₁ (mkF m 0 #[.val (.int p0), .val (.int p1), .unset] []) _
    refine XS.iloadN X0.here hx rfl (hb hby d11_0) rfl ?_
    show Sp p e below s₁ (mkF m 1 #[.val (.int p0), .val (.int p1), .unset] [(.int p0)]) _
    refine st1 _ ?_
    show Sp p e below T1 (mkF m 4 #[.val (.int p0), .val (.int p1), .unset] [(.int (fx6 p0))]) _
    refine XS.istoreN X1.here hx rfl (hb hby d11_4) rfl (l' := #[.val (.int p0), .val (.int p1), .val (.int (fx6 p0))]) rfl ?_
    refine XS.iloadN X1.here hx rfl (hb hby d11_5) rfl ?_
    refine XS.iloadN X1.here hx rfl (hb hby d11_6) rfl ?_
    show Sp p e below T1 (mkF m 7 #[.val (.int p0), .val (.int p1), .val (.int (fx6 p0))] [(.int p1), (.int (fx6 p0))]) _
    refine st2 _ ?_
    show Sp p e below T2 (mkF m 10 #[.val (.int p0), .val (.int p1), .val (.int (fx6 p0))] [(.int (fx6 p1)), (.int (fx6 p0))]) _
    refine XS.icmpYes X2.here hx rfl (pc0 := 10) (pc' := 15) rfl (hb hby d11_10) rfl (teq hc1).1 (by decide) (by decide) ?_
    refine XS.iloadN X2.here hx rfl (hb hby d11_15) rfl ?_
    refine XS.iconst X2.here hx rfl (hb hby d11_16) ?_
    refine XS.icmpYes X2.here hx rfl (pc0 := 17) (pc' := 35) rfl (hb hby d11_17) rfl (tlt hc2).1 (by decide) (by decide) ?_
    refine XS.iloadN X2.here hx rfl (hb hby d11_35) rfl ?_
    refine XS.iconst X2.here hx rfl (hb hby d11_36) ?_
    refine XS.icmpYes X2.here hx rfl (pc0 := 37) (pc' := 61) rfl (hb hby d11_37) rfl (tlt (own_ltm hc2 (by decide) : (((p0.toUInt32 >>> ((24 : Int32) &&& 31).toUInt32).toInt32) &&& (3 : Int32)) < (2 : Int32))).1 (by decide) (by decide) ?_
    show Sp p e below T2 (mkF m 61 #[.val (.int p0), .val (.int p1), .val (.int (fx6 p0))] []) _
    refine XS.iloadN X2.here hx rfl (hb hby d11_61) rfl ?_
    refine XS.iconst X2.here hx rfl (hb hby d11_62) ?_
    refine XS.icmpYes X2.here hx rfl (pc0 := 63) (pc' := 87) rfl (hb hby d11_63) rfl (tlt (own_ltm hc2 (by decide) : (((p0.toUInt32 >>> ((24 : Int32) &&& 31).toUInt32).toInt32) &&& (3 : Int32)) < (3 : Int32))).1 (by decide) (by decide) ?_
    refine XS.iconst X2.here hx rfl (hb hby d11_87) ?_
    show Sp p e below T2 (mkF m 88 #[.val (.int p0), .val (.int p1), .val (.int (fx6 p0))] [(.int (1 : Int32))]) _
    exact retN X2 hx (t := .boolean) Bd.returns (by simp) (hb hby d11_88) hr
  · show Q43 Z v0 v1 v2 v3 v4 v5 v6 v7 v8 v9 cs_v p0 p1 h0 n0 _ T2.heap _
    rw [eq2]
    exact ⟨rfl, N2, rfl⟩
theorem d11_13 : decode method_5_code 13 = .ok (.iconst 0, 1) := by decide +kernel
theorem d11_14 : decode method_5_code 14 = .ok (.ireturn, 1) := by decide +kernel
def Q44 (Z : State) (v0 : Addr) (v1 : Addr) (v2 : Addr) (v3 : Addr) (v4 : Addr) (v5 : Addr) (v6 : Addr) (v7 : Addr) (v8 : Addr) (v9 : Addr) (cs_v : Int32) (p0 : Int32) (p1 : Int32) (h0 : Heap) (n0 : Nat) (v : Option Value) (h : Heap) (L : List Loc) : Prop := v = some (.int (0 : Int32)) ∧ Fr n0 L ∧ h = h0
theorem rm44 (l : Launch) (Z : State) (a0 : Array Value) (hw : ∀ d ∈ tables_1, d.before a0 Z = true) (ws : List Jvm.Cond) (v0 v1 v2 v3 v4 v5 v6 v7 v8 v9 : Addr) (cs_v : Int32) (hp : Perm Z v0 v1 v2 v3 v4 v5 v6 v7 v8 v9 cs_v) (p0 : Int32) (p1 : Int32) (h0 : Heap) (n0 : Nat) (O0 : Old Z n0 h0) (hc1 : ¬ ((((p0.toUInt32 >>> ((24 : Int32) &&& 31).toUInt32).toInt32) &&& (3 : Int32)) = (((p1.toUInt32 >>> ((24 : Int32) &&& 31).toUInt32).toInt32) &&& (3 : Int32)))) :
    MetFree l y13 (head1 (Jvm.Cond.code y13 method_5_code 3 (some .boolean) :: ws) ({ frames := 1, cells := 0, slots := 0, locals := 13 } : Room)) (fun a U => a = #[(.int p0), (.int p1)] ∧ Z.Warmed39 U.vm ∧ U.heap = h0) (fun _ _ _ _ _ => True) (fun _ U o U' => ∃ v L, o = .returned v ∧ Q44 Z v0 v1 v2 v3 v4 v5 v6 v7 v8 v9 cs_v p0 p1 h0 n0 v U'.heap L ∧ FrameEnd U o U' L ({ frames := 1, cells := 0, slots := 0, locals := 13 } : Room).cells ({ frames := 1, cells := 0, slots := 0, locals := 13 } : Room).slots) := by
  refine MetFree.of_bodySF (plainFor_of_name pn_2) hisR ?_
  intro p e s m args below meth c s₁ Bd hml0 hP hK
  obtain ⟨rfl, hZ, hh⟩ := hP
  have hx := Bd.exec
  have hby := Bd.bytes
  have hml : c.maxLocals = 3 := hml0
  have hown : s.vm.findClass "com/example/ratebook/ratebook/model/PricedItemEqualsPinLaw" = some m.cls := findClass_of_methodNamed Bd.named
  have hnm := (name_of_methodNamed Bd.named Bd.method).1
  have X0 : Stand p l e ({ frames := 1, cells := 0, slots := 0, locals := 13 } : Room) s m #[(.int p0), (.int p1)] below meth c s₁ [] 0 0 := Stand.of_body Bd
  have e0 : s₁.heap = h0 := by rw [← hh, Bd.state]; rfl
  have N0 := Fr.nil n0
  obtain ⟨_, _, ⟨T1, L1, k1, n1⟩, -, X1, ⟨Lc1, hQ1, l1, y1, z1⟩, st1⟩ := Jvm.LawKit.callS X0 hx (y := y0) hown (mvT hZ (wq hw 5 rfl)) (mvT hZ (wq hw 6 rfl)) (mvT hZ (wq hw 3 rfl)) (mvT hZ (wq hw 7 rfl)) (by decide) (backOf (W := 0) (rm1 l Z a0 hw [] v0 v1 v2 v3 v4 v5 v6 v7 v8 v9 cs_v hp p0 h0 n0 O0) hZ (wq hw 7 rfl) (wq hw 3 rfl) (by decide) (by decide)) (g := (mkF m 1 #[.val (.int p0), .val (.int p1), .unset] [(.int p0)])) rfl (by rw [hml]; rfl) (argsL := [(.int p0)]) (rest := []) (lenOf pd_0 rfl) rfl (by show 2 * 0 + _ ≤ _; exact Nat.le_of_eq rfl) (hb hby d11_1) (fun _ _ => ⟨rfl, e0, (by decide : 0 + 0 ≤ _), (by decide : 0 + 0 ≤ _)⟩)
  dsimp only [Pt.U, Pt.locs, Pt.cells, Pt.slots] at X1 l1 y1 z1 st1 hQ1
  subst l1 y1 z1
  obtain ⟨rfl, Nq1, eq1⟩ := hQ1
  have N1 := Fr.app N0 Nq1
  obtain ⟨_, _, ⟨T2, L2, k2, n2⟩, -, X2, ⟨Lc2, hQ2, l2, y2, z2⟩, st2⟩ := Jvm.LawKit.callS X1 hx (y := y0) hown (mvT hZ (wq hw 5 rfl)) (mvT hZ (wq hw 6 rfl)) (mvT hZ (wq hw 3 rfl)) (mvT hZ (wq hw 7 rfl)) (by decide) (backOf (W := 1) (rm1 l Z a0 hw [] v0 v1 v2 v3 v4 v5 v6 v7 v8 v9 cs_v hp p1 h0 n0 O0) hZ (wq hw 7 rfl) (wq hw 3 rfl) (by decide) (by decide)) (g := (mkF m 7 #[.val (.int p0), .val (.int p1), .val (.int (fx6 p0))] [(.int p1), (.int (fx6 p0))])) rfl (by rw [hml]; rfl) (argsL := [(.int p1)]) (rest := [(.int (fx6 p0))]) (lenOf pd_0 rfl) rfl (by show 2 * 0 + _ ≤ _; exact Nat.le_of_eq rfl) (hb hby d11_7) (fun _ _ => ⟨rfl, eq1, (by decide : 0 + 0 ≤ _), (by decide : 0 + 0 ≤ _)⟩)
  dsimp only [Pt.U, Pt.locs, Pt.cells, Pt.slots] at X2 l2 y2 z2 st2 hQ2
  subst l2 y2 z2
  obtain ⟨rfl, Nq2, eq2⟩ := hQ2
  have N2 := Fr.app N1 Nq2
  obtain ⟨fs, hr, hrun, hended, hW, hsame⟩ := X2.leave (v := some (.int (0 : Int32))) (fun h => by rw [Bd.returns] at h; cases h)
  refine ⟨_, _, castTop (ef_11_0 m p0 p1) ?_, hrun, hended, _, _, rfl, ?_, ⟨_, rfl⟩, hW, hsame.mono (by decide) (by decide)⟩
  · show Sp p e below s₁ (mkF m 0 #[.val (.int p0), .val (.int p1), .unset] []) _
    refine XS.iloadN X0.here hx rfl (hb hby d11_0) rfl ?_
    show Sp p e below s₁ (mkF m 1 #[.val (.int p0), .val (.int p1), .unset] [(.int p0)]) _
    refine st1 _ ?_
    show Sp p e below T1 (mkF m 4 #[.val (.int p0), .val (.int p1), .unset] [(.int (fx6 p0))]) _
    refine XS.istoreN X1.here hx rfl (hb hby d11_4) rfl (l' := #[.val (.int p0), .val (.int p1), .val (.int (fx6 p0))]) rfl ?_
    refine XS.iloadN X1.here hx rfl (hb hby d11_5) rfl ?_
    refine XS.iloadN X1.here hx rfl (hb hby d11_6) rfl ?_
    show Sp p e below T1 (mkF m 7 #[.val (.int p0), .val (.int p1), .val (.int (fx6 p0))] [(.int p1), (.int (fx6 p0))]) _
    refine st2 _ ?_
    show Sp p e below T2 (mkF m 10 #[.val (.int p0), .val (.int p1), .val (.int (fx6 p0))] [(.int (fx6 p1)), (.int (fx6 p0))]) _
    refine XS.icmpNo X2.here hx rfl (hb hby d11_10) rfl (feq hc1).1 ?_
    refine XS.iconst X2.here hx rfl (hb hby d11_13) ?_
    show Sp p e below T2 (mkF m 14 #[.val (.int p0), .val (.int p1), .val (.int (fx6 p0))] [(.int (0 : Int32))]) _
    exact retN X2 hx (t := .boolean) Bd.returns (by simp) (hb hby d11_14) hr
  · show Q44 Z v0 v1 v2 v3 v4 v5 v6 v7 v8 v9 cs_v p0 p1 h0 n0 _ T2.heap _
    rw [eq2]
    exact ⟨rfl, N2, rfl⟩
theorem d11_20 : decode method_5_code 20 = .ok (.iload_n 0, 1) := by decide +kernel
theorem d11_21 : decode method_5_code 21 = .ok (.sipush 255, 3) := by decide +kernel
theorem d11_24 : decode method_5_code 24 = .ok (.iand, 1) := by decide +kernel
theorem d11_25 : decode method_5_code 25 = .ok (.iload_n 1, 1) := by decide +kernel
theorem d11_26 : decode method_5_code 26 = .ok (.sipush 255, 3) := by decide +kernel
theorem d11_29 : decode method_5_code 29 = .ok (.iand, 1) := by decide +kernel
theorem d11_30 : decode method_5_code 30 = .ok (.if_icmp .eq 5, 3) := by decide +kernel
def Q45 (Z : State) (v0 : Addr) (v1 : Addr) (v2 : Addr) (v3 : Addr) (v4 : Addr) (v5 : Addr) (v6 : Addr) (v7 : Addr) (v8 : Addr) (v9 : Addr) (cs_v : Int32) (p0 : Int32) (p1 : Int32) (h0 : Heap) (n0 : Nat) (v : Option Value) (h : Heap) (L : List Loc) : Prop := v = some (.int (1 : Int32)) ∧ Fr n0 L ∧ h = h0
theorem rm45 (l : Launch) (Z : State) (a0 : Array Value) (hw : ∀ d ∈ tables_1, d.before a0 Z = true) (ws : List Jvm.Cond) (v0 v1 v2 v3 v4 v5 v6 v7 v8 v9 : Addr) (cs_v : Int32) (hp : Perm Z v0 v1 v2 v3 v4 v5 v6 v7 v8 v9 cs_v) (p0 : Int32) (p1 : Int32) (h0 : Heap) (n0 : Nat) (O0 : Old Z n0 h0) (hc1 : (((p0.toUInt32 >>> ((24 : Int32) &&& 31).toUInt32).toInt32) &&& (3 : Int32)) = (((p1.toUInt32 >>> ((24 : Int32) &&& 31).toUInt32).toInt32) &&& (3 : Int32))) (hc2 : ¬ ((((p0.toUInt32 >>> ((24 : Int32) &&& 31).toUInt32).toInt32) &&& (3 : Int32)) < (1 : Int32))) (hc3 : (p0 &&& (255 : Int32)) = (p1 &&& (255 : Int32))) (hc4 : (((p0.toUInt32 >>> ((24 : Int32) &&& 31).toUInt32).toInt32) &&& (3 : Int32)) < (2 : Int32)) :
    MetFree l y13 (head1 (Jvm.Cond.code y13 method_5_code 3 (some .boolean) :: ws) ({ frames := 1, cells := 0, slots := 0, locals := 13 } : Room)) (fun a U => a = #[(.int p0), (.int p1)] ∧ Z.Warmed39 U.vm ∧ U.heap = h0) (fun _ _ _ _ _ => True) (fun _ U o U' => ∃ v L, o = .returned v ∧ Q45 Z v0 v1 v2 v3 v4 v5 v6 v7 v8 v9 cs_v p0 p1 h0 n0 v U'.heap L ∧ FrameEnd U o U' L ({ frames := 1, cells := 0, slots := 0, locals := 13 } : Room).cells ({ frames := 1, cells := 0, slots := 0, locals := 13 } : Room).slots) := by
  refine MetFree.of_bodySF (plainFor_of_name pn_2) hisR ?_
  intro p e s m args below meth c s₁ Bd hml0 hP hK
  obtain ⟨rfl, hZ, hh⟩ := hP
  have hx := Bd.exec
  have hby := Bd.bytes
  have hml : c.maxLocals = 3 := hml0
  have hown : s.vm.findClass "com/example/ratebook/ratebook/model/PricedItemEqualsPinLaw" = some m.cls := findClass_of_methodNamed Bd.named
  have hnm := (name_of_methodNamed Bd.named Bd.method).1
  have X0 : Stand p l e ({ frames := 1, cells := 0, slots := 0, locals := 13 } : Room) s m #[(.int p0), (.int p1)] below meth c s₁ [] 0 0 := Stand.of_body Bd
  have e0 : s₁.heap = h0 := by rw [← hh, Bd.state]; rfl
  have N0 := Fr.nil n0
  obtain ⟨_, _, ⟨T1, L1, k1, n1⟩, -, X1, ⟨Lc1, hQ1, l1, y1, z1⟩, st1⟩ := Jvm.LawKit.callS X0 hx (y := y0) hown (mvT hZ (wq hw 5 rfl)) (mvT hZ (wq hw 6 rfl)) (mvT hZ (wq hw 3 rfl)) (mvT hZ (wq hw 7 rfl)) (by decide) (backOf (W := 0) (rm1 l Z a0 hw [] v0 v1 v2 v3 v4 v5 v6 v7 v8 v9 cs_v hp p0 h0 n0 O0) hZ (wq hw 7 rfl) (wq hw 3 rfl) (by decide) (by decide)) (g := (mkF m 1 #[.val (.int p0), .val (.int p1), .unset] [(.int p0)])) rfl (by rw [hml]; rfl) (argsL := [(.int p0)]) (rest := []) (lenOf pd_0 rfl) rfl (by show 2 * 0 + _ ≤ _; exact Nat.le_of_eq rfl) (hb hby d11_1) (fun _ _ => ⟨rfl, e0, (by decide : 0 + 0 ≤ _), (by decide : 0 + 0 ≤ _)⟩)
  dsimp only [Pt.U, Pt.locs, Pt.cells, Pt.slots] at X1 l1 y1 z1 st1 hQ1
  subst l1 y1 z1
  obtain ⟨rfl, Nq1, eq1⟩ := hQ1
  have N1 := Fr.app N0 Nq1
  obtain ⟨_, _, ⟨T2, L2, k2, n2⟩, -, X2, ⟨Lc2, hQ2, l2, y2, z2⟩, st2⟩ := Jvm.LawKit.callS X1 hx (y := y0) hown (mvT hZ (wq hw 5 rfl)) (mvT hZ (wq hw 6 rfl)) (mvT hZ (wq hw 3 rfl)) (mvT hZ (wq hw 7 rfl)) (by decide) (backOf (W := 1) (rm1 l Z a0 hw [] v0 v1 v2 v3 v4 v5 v6 v7 v8 v9 cs_v hp p1 h0 n0 O0) hZ (wq hw 7 rfl) (wq hw 3 rfl) (by decide) (by decide)) (g := (mkF m 7 #[.val (.int p0), .val (.int p1), .val (.int (fx6 p0))] [(.int p1), (.int (fx6 p0))])) rfl (by rw [hml]; rfl) (argsL := [(.int p1)]) (rest := [(.int (fx6 p0))]) (lenOf pd_0 rfl) rfl (by show 2 * 0 + _ ≤ _; exact Nat.le_of_eq rfl) (hb hby d11_7) (fun _ _ => ⟨rfl, eq1, (by decide : 0 + 0 ≤ _), (by decide : 0 + 0 ≤ _)⟩)
  dsimp only [Pt.U, Pt.locs, Pt.cells, Pt.slots] at X2 l2 y2 z2 st2 hQ2
  subst l2 y2 z2
  obtain ⟨rfl, Nq2, eq2⟩ := hQ2
  have N2 := Fr.app N1 Nq2
  obtain ⟨fs, hr, hrun, hended, hW, hsame⟩ := X2.leave (v := some (.int (1 : Int32))) (fun h => by rw [Bd.returns] at h; cases h)
  refine ⟨_, _, castTop (ef_11_0 m p0 p1) ?_, hrun, hended, _, _, rfl, ?_, ⟨_, rfl⟩, hW, hsame.mono (by decide) (by decide)⟩
  · show Sp p e below s₁ (mkF m 0 #[.val (.int p0), .val (.int p1), .unset] []) _
    refine XS.iloadN X0.here hx rfl (hb hby d11_0) rfl ?_
    show Sp p e below s₁ (mkF m 1 #[.val (.int p0), .val (.int p1), .unset] [(.int p0)]) _
    refine st1 _ ?_
    show Sp p e below T1 (mkF m 4 #[.val (.int p0), .val (.int p1), .unset] [(.int (fx6 p0))]) _
    refine XS.istoreN X1.here hx rfl (hb hby d11_4) rfl (l' := #[.val (.int p0), .val (.int p1), .val (.int (fx6 p0))]) rfl ?_
    refine XS.iloadN X1.here hx rfl (hb hby d11_5) rfl ?_
    refine XS.iloadN X1.here hx rfl (hb hby d11_6) rfl ?_
    show Sp p e below T1 (mkF m 7 #[.val (.int p0), .val (.int p1), .val (.int (fx6 p0))] [(.int p1), (.int (fx6 p0))]) _
    refine st2 _ ?_
    show Sp p e below T2 (mkF m 10 #[.val (.int p0), .val (.int p1), .val (.int (fx6 p0))] [(.int (fx6 p1)), (.int (fx6 p0))]) _
    refine XS.icmpYes X2.here hx rfl (pc0 := 10) (pc' := 15) rfl (hb hby d11_10) rfl (teq hc1).1 (by decide) (by decide) ?_
    refine XS.iloadN X2.here hx rfl (hb hby d11_15) rfl ?_
    refine XS.iconst X2.here hx rfl (hb hby d11_16) ?_
    refine XS.icmpNo X2.here hx rfl (hb hby d11_17) rfl (flt hc2).1 ?_
    refine XS.iloadN X2.here hx rfl (hb hby d11_20) rfl ?_
    refine XS.sipush X2.here hx rfl (hb hby d11_21) ?_
    refine XS.iand X2.here hx rfl (hb hby d11_24) rfl ?_
    show Sp p e below T2 (mkF m 25 #[.val (.int p0), .val (.int p1), .val (.int (fx6 p0))] [(.int (p0 &&& (255 : Int32)))]) _
    refine XS.iloadN X2.here hx rfl (hb hby d11_25) rfl ?_
    refine XS.sipush X2.here hx rfl (hb hby d11_26) ?_
    refine XS.iand X2.here hx rfl (hb hby d11_29) rfl ?_
    refine XS.icmpYes X2.here hx rfl (pc0 := 30) (pc' := 35) rfl (hb hby d11_30) rfl (teq hc3).1 (by decide) (by decide) ?_
    refine XS.iloadN X2.here hx rfl (hb hby d11_35) rfl ?_
    refine XS.iconst X2.here hx rfl (hb hby d11_36) ?_
    refine XS.icmpYes X2.here hx rfl (pc0 := 37) (pc' := 61) rfl (hb hby d11_37) rfl (tlt hc4).1 (by decide) (by decide) ?_
    show Sp p e below T2 (mkF m 61 #[.val (.int p0), .val (.int p1), .val (.int (fx6 p0))] []) _
    refine XS.iloadN X2.here hx rfl (hb hby d11_61) rfl ?_
    refine XS.iconst X2.here hx rfl (hb hby d11_62) ?_
    refine XS.icmpYes X2.here hx rfl (pc0 := 63) (pc' := 87) rfl (hb hby d11_63) rfl (tlt (own_ltm hc4 (by decide) : (((p0.toUInt32 >>> ((24 : Int32) &&& 31).toUInt32).toInt32) &&& (3 : Int32)) < (3 : Int32))).1 (by decide) (by decide) ?_
    refine XS.iconst X2.here hx rfl (hb hby d11_87) ?_
    show Sp p e below T2 (mkF m 88 #[.val (.int p0), .val (.int p1), .val (.int (fx6 p0))] [(.int (1 : Int32))]) _
    exact retN X2 hx (t := .boolean) Bd.returns (by simp) (hb hby d11_88) hr
  · show Q45 Z v0 v1 v2 v3 v4 v5 v6 v7 v8 v9 cs_v p0 p1 h0 n0 _ T2.heap _
    rw [eq2]
    exact ⟨rfl, N2, rfl⟩
theorem d11_33 : decode method_5_code 33 = .ok (.iconst 0, 1) := by decide +kernel
theorem d11_34 : decode method_5_code 34 = .ok (.ireturn, 1) := by decide +kernel
def Q46 (Z : State) (v0 : Addr) (v1 : Addr) (v2 : Addr) (v3 : Addr) (v4 : Addr) (v5 : Addr) (v6 : Addr) (v7 : Addr) (v8 : Addr) (v9 : Addr) (cs_v : Int32) (p0 : Int32) (p1 : Int32) (h0 : Heap) (n0 : Nat) (v : Option Value) (h : Heap) (L : List Loc) : Prop := v = some (.int (0 : Int32)) ∧ Fr n0 L ∧ h = h0
theorem rm46 (l : Launch) (Z : State) (a0 : Array Value) (hw : ∀ d ∈ tables_1, d.before a0 Z = true) (ws : List Jvm.Cond) (v0 v1 v2 v3 v4 v5 v6 v7 v8 v9 : Addr) (cs_v : Int32) (hp : Perm Z v0 v1 v2 v3 v4 v5 v6 v7 v8 v9 cs_v) (p0 : Int32) (p1 : Int32) (h0 : Heap) (n0 : Nat) (O0 : Old Z n0 h0) (hc1 : (((p0.toUInt32 >>> ((24 : Int32) &&& 31).toUInt32).toInt32) &&& (3 : Int32)) = (((p1.toUInt32 >>> ((24 : Int32) &&& 31).toUInt32).toInt32) &&& (3 : Int32))) (hc2 : ¬ ((((p0.toUInt32 >>> ((24 : Int32) &&& 31).toUInt32).toInt32) &&& (3 : Int32)) < (1 : Int32))) (hc3 : ¬ ((p0 &&& (255 : Int32)) = (p1 &&& (255 : Int32)))) :
    MetFree l y13 (head1 (Jvm.Cond.code y13 method_5_code 3 (some .boolean) :: ws) ({ frames := 1, cells := 0, slots := 0, locals := 13 } : Room)) (fun a U => a = #[(.int p0), (.int p1)] ∧ Z.Warmed39 U.vm ∧ U.heap = h0) (fun _ _ _ _ _ => True) (fun _ U o U' => ∃ v L, o = .returned v ∧ Q46 Z v0 v1 v2 v3 v4 v5 v6 v7 v8 v9 cs_v p0 p1 h0 n0 v U'.heap L ∧ FrameEnd U o U' L ({ frames := 1, cells := 0, slots := 0, locals := 13 } : Room).cells ({ frames := 1, cells := 0, slots := 0, locals := 13 } : Room).slots) := by
  refine MetFree.of_bodySF (plainFor_of_name pn_2) hisR ?_
  intro p e s m args below meth c s₁ Bd hml0 hP hK
  obtain ⟨rfl, hZ, hh⟩ := hP
  have hx := Bd.exec
  have hby := Bd.bytes
  have hml : c.maxLocals = 3 := hml0
  have hown : s.vm.findClass "com/example/ratebook/ratebook/model/PricedItemEqualsPinLaw" = some m.cls := findClass_of_methodNamed Bd.named
  have hnm := (name_of_methodNamed Bd.named Bd.method).1
  have X0 : Stand p l e ({ frames := 1, cells := 0, slots := 0, locals := 13 } : Room) s m #[(.int p0), (.int p1)] below meth c s₁ [] 0 0 := Stand.of_body Bd
  have e0 : s₁.heap = h0 := by rw [← hh, Bd.state]; rfl
  have N0 := Fr.nil n0
  obtain ⟨_, _, ⟨T1, L1, k1, n1⟩, -, X1, ⟨Lc1, hQ1, l1, y1, z1⟩, st1⟩ := Jvm.LawKit.callS X0 hx (y := y0) hown (mvT hZ (wq hw 5 rfl)) (mvT hZ (wq hw 6 rfl)) (mvT hZ (wq hw 3 rfl)) (mvT hZ (wq hw 7 rfl)) (by decide) (backOf (W := 0) (rm1 l Z a0 hw [] v0 v1 v2 v3 v4 v5 v6 v7 v8 v9 cs_v hp p0 h0 n0 O0) hZ (wq hw 7 rfl) (wq hw 3 rfl) (by decide) (by decide)) (g := (mkF m 1 #[.val (.int p0), .val (.int p1), .unset] [(.int p0)])) rfl (by rw [hml]; rfl) (argsL := [(.int p0)]) (rest := []) (lenOf pd_0 rfl) rfl (by show 2 * 0 + _ ≤ _; exact Nat.le_of_eq rfl) (hb hby d11_1) (fun _ _ => ⟨rfl, e0, (by decide : 0 + 0 ≤ _), (by decide : 0 + 0 ≤ _)⟩)
  dsimp only [Pt.U, Pt.locs, Pt.cells, Pt.slots] at X1 l1 y1 z1 st1 hQ1
  subst l1 y1 z1
  obtain ⟨rfl, Nq1, eq1⟩ := hQ1
  have N1 := Fr.app N0 Nq1
  obtain ⟨_, _, ⟨T2, L2, k2, n2⟩, -, X2, ⟨Lc2, hQ2, l2, y2, z2⟩, st2⟩ := Jvm.LawKit.callS X1 hx (y := y0) hown (mvT hZ (wq hw 5 rfl)) (mvT hZ (wq hw 6 rfl)) (mvT hZ (wq hw 3 rfl)) (mvT hZ (wq hw 7 rfl)) (by decide) (backOf (W := 1) (rm1 l Z a0 hw [] v0 v1 v2 v3 v4 v5 v6 v7 v8 v9 cs_v hp p1 h0 n0 O0) hZ (wq hw 7 rfl) (wq hw 3 rfl) (by decide) (by decide)) (g := (mkF m 7 #[.val (.int p0), .val (.int p1), .val (.int (fx6 p0))] [(.int p1), (.int (fx6 p0))])) rfl (by rw [hml]; rfl) (argsL := [(.int p1)]) (rest := [(.int (fx6 p0))]) (lenOf pd_0 rfl) rfl (by show 2 * 0 + _ ≤ _; exact Nat.le_of_eq rfl) (hb hby d11_7) (fun _ _ => ⟨rfl, eq1, (by decide : 0 + 0 ≤ _), (by decide : 0 + 0 ≤ _)⟩)
  dsimp only [Pt.U, Pt.locs, Pt.cells, Pt.slots] at X2 l2 y2 z2 st2 hQ2
  subst l2 y2 z2
  obtain ⟨rfl, Nq2, eq2⟩ := hQ2
  have N2 := Fr.app N1 Nq2
  obtain ⟨fs, hr, hrun, hended, hW, hsame⟩ := X2.leave (v := some (.int (0 : Int32))) (fun h => by rw [Bd.returns] at h; cases h)
  refine ⟨_, _, castTop (ef_11_0 m p0 p1) ?_, hrun, hended, _, _, rfl, ?_, ⟨_, rfl⟩, hW, hsame.mono (by decide) (by decide)⟩
  · show Sp p e below s₁ (mkF m 0 #[.val (.int p0), .val (.int p1), .unset] []) _
    refine XS.iloadN X0.here hx rfl (hb hby d11_0) rfl ?_
    show Sp p e below s₁ (mkF m 1 #[.val (.int p0), .val (.int p1), .unset] [(.int p0)]) _
    refine st1 _ ?_
    show Sp p e below T1 (mkF m 4 #[.val (.int p0), .val (.int p1), .unset] [(.int (fx6 p0))]) _
    refine XS.istoreN X1.here hx rfl (hb hby d11_4) rfl (l' := #[.val (.int p0), .val (.int p1), .val (.int (fx6 p0))]) rfl ?_
    refine XS.iloadN X1.here hx rfl (hb hby d11_5) rfl ?_
    refine XS.iloadN X1.here hx rfl (hb hby d11_6) rfl ?_
    show Sp p e below T1 (mkF m 7 #[.val (.int p0), .val (.int p1), .val (.int (fx6 p0))] [(.int p1), (.int (fx6 p0))]) _
    refine st2 _ ?_
    show Sp p e below T2 (mkF m 10 #[.val (.int p0), .val (.int p1), .val (.int (fx6 p0))] [(.int (fx6 p1)), (.int (fx6 p0))]) _
    refine XS.icmpYes X2.here hx rfl (pc0 := 10) (pc' := 15) rfl (hb hby d11_10) rfl (teq hc1).1 (by decide) (by decide) ?_
    refine XS.iloadN X2.here hx rfl (hb hby d11_15) rfl ?_
    refine XS.iconst X2.here hx rfl (hb hby d11_16) ?_
    refine XS.icmpNo X2.here hx rfl (hb hby d11_17) rfl (flt hc2).1 ?_
    refine XS.iloadN X2.here hx rfl (hb hby d11_20) rfl ?_
    refine XS.sipush X2.here hx rfl (hb hby d11_21) ?_
    refine XS.iand X2.here hx rfl (hb hby d11_24) rfl ?_
    show Sp p e below T2 (mkF m 25 #[.val (.int p0), .val (.int p1), .val (.int (fx6 p0))] [(.int (p0 &&& (255 : Int32)))]) _
    refine XS.iloadN X2.here hx rfl (hb hby d11_25) rfl ?_
    refine XS.sipush X2.here hx rfl (hb hby d11_26) ?_
    refine XS.iand X2.here hx rfl (hb hby d11_29) rfl ?_
    refine XS.icmpNo X2.here hx rfl (hb hby d11_30) rfl (feq hc3).1 ?_
    refine XS.iconst X2.here hx rfl (hb hby d11_33) ?_
    show Sp p e below T2 (mkF m 34 #[.val (.int p0), .val (.int p1), .val (.int (fx6 p0))] [(.int (0 : Int32))]) _
    exact retN X2 hx (t := .boolean) Bd.returns (by simp) (hb hby d11_34) hr
  · show Q46 Z v0 v1 v2 v3 v4 v5 v6 v7 v8 v9 cs_v p0 p1 h0 n0 _ T2.heap _
    rw [eq2]
    exact ⟨rfl, N2, rfl⟩
theorem d11_40 : decode method_5_code 40 = .ok (.iload_n 0, 1) := by decide +kernel
theorem d11_41 : decode method_5_code 41 = .ok (.bipush 8, 2) := by decide +kernel
theorem d11_43 : decode method_5_code 43 = .ok (.iushr, 1) := by decide +kernel
theorem d11_44 : decode method_5_code 44 = .ok (.sipush 255, 3) := by decide +kernel
theorem d11_47 : decode method_5_code 47 = .ok (.iand, 1) := by decide +kernel
theorem d11_48 : decode method_5_code 48 = .ok (.iload_n 1, 1) := by decide +kernel
theorem d11_49 : decode method_5_code 49 = .ok (.bipush 8, 2) := by decide +kernel
theorem d11_51 : decode method_5_code 51 = .ok (.iushr, 1) := by decide +kernel
abbrev fx16 (x0 : Int32) : Int32 := (((x0.toUInt32 >>> ((8 : Int32) &&& 31).toUInt32).toInt32) &&& (255 : Int32))
theorem d11_52 : decode method_5_code 52 = .ok (.sipush 255, 3) := by decide +kernel
theorem d11_55 : decode method_5_code 55 = .ok (.iand, 1) := by decide +kernel
theorem d11_56 : decode method_5_code 56 = .ok (.if_icmp .eq 5, 3) := by decide +kernel
def Q47 (Z : State) (v0 : Addr) (v1 : Addr) (v2 : Addr) (v3 : Addr) (v4 : Addr) (v5 : Addr) (v6 : Addr) (v7 : Addr) (v8 : Addr) (v9 : Addr) (cs_v : Int32) (p0 : Int32) (p1 : Int32) (h0 : Heap) (n0 : Nat) (v : Option Value) (h : Heap) (L : List Loc) : Prop := v = some (.int (1 : Int32)) ∧ Fr n0 L ∧ h = h0
theorem rm47 (l : Launch) (Z : State) (a0 : Array Value) (hw : ∀ d ∈ tables_1, d.before a0 Z = true) (ws : List Jvm.Cond) (v0 v1 v2 v3 v4 v5 v6 v7 v8 v9 : Addr) (cs_v : Int32) (hp : Perm Z v0 v1 v2 v3 v4 v5 v6 v7 v8 v9 cs_v) (p0 : Int32) (p1 : Int32) (h0 : Heap) (n0 : Nat) (O0 : Old Z n0 h0) (hc1 : (((p0.toUInt32 >>> ((24 : Int32) &&& 31).toUInt32).toInt32) &&& (3 : Int32)) = (((p1.toUInt32 >>> ((24 : Int32) &&& 31).toUInt32).toInt32) &&& (3 : Int32))) (hc2 : ¬ ((((p0.toUInt32 >>> ((24 : Int32) &&& 31).toUInt32).toInt32) &&& (3 : Int32)) < (1 : Int32))) (hc3 : (p0 &&& (255 : Int32)) = (p1 &&& (255 : Int32))) (hc4 : ¬ ((((p0.toUInt32 >>> ((24 : Int32) &&& 31).toUInt32).toInt32) &&& (3 : Int32)) < (2 : Int32))) (hc5 : (((p0.toUInt32 >>> ((8 : Int32) &&& 31).toUInt32).toInt32) &&& (255 : Int32)) = (((p1.toUInt32 >>> ((8 : Int32) &&& 31).toUInt32).toInt32) &&& (255 : Int32))) (hc6 : (((p0.toUInt32 >>> ((24 : Int32) &&& 31).toUInt32).toInt32) &&& (3 : Int32)) < (3 : Int32)) :
    MetFree l y13 (head1 (Jvm.Cond.code y13 method_5_code 3 (some .boolean) :: ws) ({ frames := 1, cells := 0, slots := 0, locals := 13 } : Room)) (fun a U => a = #[(.int p0), (.int p1)] ∧ Z.Warmed39 U.vm ∧ U.heap = h0) (fun _ _ _ _ _ => True) (fun _ U o U' => ∃ v L, o = .returned v ∧ Q47 Z v0 v1 v2 v3 v4 v5 v6 v7 v8 v9 cs_v p0 p1 h0 n0 v U'.heap L ∧ FrameEnd U o U' L ({ frames := 1, cells := 0, slots := 0, locals := 13 } : Room).cells ({ frames := 1, cells := 0, slots := 0, locals := 13 } : Room).slots) := by
  refine MetFree.of_bodySF (plainFor_of_name pn_2) hisR ?_
  intro p e s m args below meth c s₁ Bd hml0 hP hK
  obtain ⟨rfl, hZ, hh⟩ := hP
  have hx := Bd.exec
  have hby := Bd.bytes
  have hml : c.maxLocals = 3 := hml0
  have hown : s.vm.findClass "com/example/ratebook/ratebook/model/PricedItemEqualsPinLaw" = some m.cls := findClass_of_methodNamed Bd.named
  have hnm := (name_of_methodNamed Bd.named Bd.method).1
  have X0 : Stand p l e ({ frames := 1, cells := 0, slots := 0, locals := 13 } : Room) s m #[(.int p0), (.int p1)] below meth c s₁ [] 0 0 := Stand.of_body Bd
  have e0 : s₁.heap = h0 := by rw [← hh, Bd.state]; rfl
  have N0 := Fr.nil n0
  obtain ⟨_, _, ⟨T1, L1, k1, n1⟩, -, X1, ⟨Lc1, hQ1, l1, y1, z1⟩, st1⟩ := Jvm.LawKit.callS X0 hx (y := y0) hown (mvT hZ (wq hw 5 rfl)) (mvT hZ (wq hw 6 rfl)) (mvT hZ (wq hw 3 rfl)) (mvT hZ (wq hw 7 rfl)) (by decide) (backOf (W := 0) (rm1 l Z a0 hw [] v0 v1 v2 v3 v4 v5 v6 v7 v8 v9 cs_v hp p0 h0 n0 O0) hZ (wq hw 7 rfl) (wq hw 3 rfl) (by decide) (by decide)) (g := (mkF m 1 #[.val (.int p0), .val (.int p1), .unset] [(.int p0)])) rfl (by rw [hml]; rfl) (argsL := [(.int p0)]) (rest := []) (lenOf pd_0 rfl) rfl (by show 2 * 0 + _ ≤ _; exact Nat.le_of_eq rfl) (hb hby d11_1) (fun _ _ => ⟨rfl, e0, (by decide : 0 + 0 ≤ _), (by decide : 0 + 0 ≤ _)⟩)
  dsimp only [Pt.U, Pt.locs, Pt.cells, Pt.slots] at X1 l1 y1 z1 st1 hQ1
  subst l1 y1 z1
  obtain ⟨rfl, Nq1, eq1⟩ := hQ1
  have N1 := Fr.app N0 Nq1
  obtain ⟨_, _, ⟨T2, L2, k2, n2⟩, -, X2, ⟨Lc2, hQ2, l2, y2, z2⟩, st2⟩ := Jvm.LawKit.callS X1 hx (y := y0) hown (mvT hZ (wq hw 5 rfl)) (mvT hZ (wq hw 6 rfl)) (mvT hZ (wq hw 3 rfl)) (mvT hZ (wq hw 7 rfl)) (by decide) (backOf (W := 1) (rm1 l Z a0 hw [] v0 v1 v2 v3 v4 v5 v6 v7 v8 v9 cs_v hp p1 h0 n0 O0) hZ (wq hw 7 rfl) (wq hw 3 rfl) (by decide) (by decide)) (g := (mkF m 7 #[.val (.int p0), .val (.int p1), .val (.int (fx6 p0))] [(.int p1), (.int (fx6 p0))])) rfl (by rw [hml]; rfl) (argsL := [(.int p1)]) (rest := [(.int (fx6 p0))]) (lenOf pd_0 rfl) rfl (by show 2 * 0 + _ ≤ _; exact Nat.le_of_eq rfl) (hb hby d11_7) (fun _ _ => ⟨rfl, eq1, (by decide : 0 + 0 ≤ _), (by decide : 0 + 0 ≤ _)⟩)
  dsimp only [Pt.U, Pt.locs, Pt.cells, Pt.slots] at X2 l2 y2 z2 st2 hQ2
  subst l2 y2 z2
  obtain ⟨rfl, Nq2, eq2⟩ := hQ2
  have N2 := Fr.app N1 Nq2
  obtain ⟨fs, hr, hrun, hended, hW, hsame⟩ := X2.leave (v := some (.int (1 : Int32))) (fun h => by rw [Bd.returns] at h; cases h)
  refine ⟨_, _, castTop (ef_11_0 m p0 p1) ?_, hrun, hended, _, _, rfl, ?_, ⟨_, rfl⟩, hW, hsame.mono (by decide) (by decide)⟩
  · show Sp p e below s₁ (mkF m 0 #[.val (.int p0), .val (.int p1), .unset] []) _
    refine XS.iloadN X0.here hx rfl (hb hby d11_0) rfl ?_
    show Sp p e below s₁ (mkF m 1 #[.val (.int p0), .val (.int p1), .unset] [(.int p0)]) _
    refine st1 _ ?_
    show Sp p e below T1 (mkF m 4 #[.val (.int p0), .val (.int p1), .unset] [(.int (fx6 p0))]) _
    refine XS.istoreN X1.here hx rfl (hb hby d11_4) rfl (l' := #[.val (.int p0), .val (.int p1), .val (.int (fx6 p0))]) rfl ?_
    refine XS.iloadN X1.here hx rfl (hb hby d11_5) rfl ?_
    refine XS.iloadN X1.here hx rfl (hb hby d11_6) rfl ?_
    show Sp p e below T1 (mkF m 7 #[.val (.int p0), .val (.int p1), .val (.int (fx6 p0))] [(.int p1), (.int (fx6 p0))]) _
    refine st2 _ ?_
    show Sp p e below T2 (mkF m 10 #[.val (.int p0), .val (.int p1), .val (.int (fx6 p0))] [(.int (fx6 p1)), (.int (fx6 p0))]) _
    refine XS.icmpYes X2.here hx rfl (pc0 := 10) (pc' := 15) rfl (hb hby d11_10) rfl (teq hc1).1 (by decide) (by decide) ?_
    refine XS.iloadN X2.here hx rfl (hb hby d11_15) rfl ?_
    refine XS.iconst X2.here hx rfl (hb hby d11_16) ?_
    refine XS.icmpNo X2.here hx rfl (hb hby d11_17) rfl (flt hc2).1 ?_
    refine XS.iloadN X2.here hx rfl (hb hby d11_20) rfl ?_
    refine XS.sipush X2.here hx rfl (hb hby d11_21) ?_
    refine XS.iand X2.here hx rfl (hb hby d11_24) rfl ?_
    show Sp p e below T2 (mkF m 25 #[.val (.int p0), .val (.int p1), .val (.int (fx6 p0))] [(.int (p0 &&& (255 : Int32)))]) _
    refine XS.iloadN X2.here hx rfl (hb hby d11_25) rfl ?_
    refine XS.sipush X2.here hx rfl (hb hby d11_26) ?_
    refine XS.iand X2.here hx rfl (hb hby d11_29) rfl ?_
    refine XS.icmpYes X2.here hx rfl (pc0 := 30) (pc' := 35) rfl (hb hby d11_30) rfl (teq hc3).1 (by decide) (by decide) ?_
    refine XS.iloadN X2.here hx rfl (hb hby d11_35) rfl ?_
    refine XS.iconst X2.here hx rfl (hb hby d11_36) ?_
    refine XS.icmpNo X2.here hx rfl (hb hby d11_37) rfl (flt hc4).1 ?_
    show Sp p e below T2 (mkF m 40 #[.val (.int p0), .val (.int p1), .val (.int (fx6 p0))] []) _
    refine XS.iloadN X2.here hx rfl (hb hby d11_40) rfl ?_
    refine XS.bipush X2.here hx rfl (hb hby d11_41) ?_
    refine XS.iushr X2.here hx rfl (hb hby d11_43) rfl ?_
    refine XS.sipush X2.here hx rfl (hb hby d11_44) ?_
    refine XS.iand X2.here hx rfl (hb hby d11_47) rfl ?_
    refine XS.iloadN X2.here hx rfl (hb hby d11_48) rfl ?_
    refine XS.bipush X2.here hx rfl (hb hby d11_49) ?_
    show Sp p e below T2 (mkF m 51 #[.val (.int p0), .val (.int p1), .val (.int (fx6 p0))] [(.int (8 : Int32)), (.int p1), (.int (fx16 p0))]) _
    refine XS.iushr X2.here hx rfl (hb hby d11_51) rfl ?_
    refine XS.sipush X2.here hx rfl (hb hby d11_52) ?_
    refine XS.iand X2.here hx rfl (hb hby d11_55) rfl ?_
    refine XS.icmpYes X2.here hx rfl (pc0 := 56) (pc' := 61) rfl (hb hby d11_56) rfl (teq hc5).1 (by decide) (by decide) ?_
    refine XS.iloadN X2.here hx rfl (hb hby d11_61) rfl ?_
    refine XS.iconst X2.here hx rfl (hb hby d11_62) ?_
    refine XS.icmpYes X2.here hx rfl (pc0 := 63) (pc' := 87) rfl (hb hby d11_63) rfl (tlt hc6).1 (by decide) (by decide) ?_
    show Sp p e below T2 (mkF m 87 #[.val (.int p0), .val (.int p1), .val (.int (fx6 p0))] []) _
    refine XS.iconst X2.here hx rfl (hb hby d11_87) ?_
    show Sp p e below T2 (mkF m 88 #[.val (.int p0), .val (.int p1), .val (.int (fx6 p0))] [(.int (1 : Int32))]) _
    exact retN X2 hx (t := .boolean) Bd.returns (by simp) (hb hby d11_88) hr
  · show Q47 Z v0 v1 v2 v3 v4 v5 v6 v7 v8 v9 cs_v p0 p1 h0 n0 _ T2.heap _
    rw [eq2]
    exact ⟨rfl, N2, rfl⟩
theorem d11_59 : decode method_5_code 59 = .ok (.iconst 0, 1) := by decide +kernel
theorem d11_60 : decode method_5_code 60 = .ok (.ireturn, 1) := by decide +kernel
def Q48 (Z : State) (v0 : Addr) (v1 : Addr) (v2 : Addr) (v3 : Addr) (v4 : Addr) (v5 : Addr) (v6 : Addr) (v7 : Addr) (v8 : Addr) (v9 : Addr) (cs_v : Int32) (p0 : Int32) (p1 : Int32) (h0 : Heap) (n0 : Nat) (v : Option Value) (h : Heap) (L : List Loc) : Prop := v = some (.int (0 : Int32)) ∧ Fr n0 L ∧ h = h0
theorem rm48 (l : Launch) (Z : State) (a0 : Array Value) (hw : ∀ d ∈ tables_1, d.before a0 Z = true) (ws : List Jvm.Cond) (v0 v1 v2 v3 v4 v5 v6 v7 v8 v9 : Addr) (cs_v : Int32) (hp : Perm Z v0 v1 v2 v3 v4 v5 v6 v7 v8 v9 cs_v) (p0 : Int32) (p1 : Int32) (h0 : Heap) (n0 : Nat) (O0 : Old Z n0 h0) (hc1 : (((p0.toUInt32 >>> ((24 : Int32) &&& 31).toUInt32).toInt32) &&& (3 : Int32)) = (((p1.toUInt32 >>> ((24 : Int32) &&& 31).toUInt32).toInt32) &&& (3 : Int32))) (hc2 : ¬ ((((p0.toUInt32 >>> ((24 : Int32) &&& 31).toUInt32).toInt32) &&& (3 : Int32)) < (1 : Int32))) (hc3 : (p0 &&& (255 : Int32)) = (p1 &&& (255 : Int32))) (hc4 : ¬ ((((p0.toUInt32 >>> ((24 : Int32) &&& 31).toUInt32).toInt32) &&& (3 : Int32)) < (2 : Int32))) (hc5 : ¬ ((((p0.toUInt32 >>> ((8 : Int32) &&& 31).toUInt32).toInt32) &&& (255 : Int32)) = (((p1.toUInt32 >>> ((8 : Int32) &&& 31).toUInt32).toInt32) &&& (255 : Int32)))) :
    MetFree l y13 (head1 (Jvm.Cond.code y13 method_5_code 3 (some .boolean) :: ws) ({ frames := 1, cells := 0, slots := 0, locals := 13 } : Room)) (fun a U => a = #[(.int p0), (.int p1)] ∧ Z.Warmed39 U.vm ∧ U.heap = h0) (fun _ _ _ _ _ => True) (fun _ U o U' => ∃ v L, o = .returned v ∧ Q48 Z v0 v1 v2 v3 v4 v5 v6 v7 v8 v9 cs_v p0 p1 h0 n0 v U'.heap L ∧ FrameEnd U o U' L ({ frames := 1, cells := 0, slots := 0, locals := 13 } : Room).cells ({ frames := 1, cells := 0, slots := 0, locals := 13 } : Room).slots) := by
  refine MetFree.of_bodySF (plainFor_of_name pn_2) hisR ?_
  intro p e s m args below meth c s₁ Bd hml0 hP hK
  obtain ⟨rfl, hZ, hh⟩ := hP
  have hx := Bd.exec
  have hby := Bd.bytes
  have hml : c.maxLocals = 3 := hml0
  have hown : s.vm.findClass "com/example/ratebook/ratebook/model/PricedItemEqualsPinLaw" = some m.cls := findClass_of_methodNamed Bd.named
  have hnm := (name_of_methodNamed Bd.named Bd.method).1
  have X0 : Stand p l e ({ frames := 1, cells := 0, slots := 0, locals := 13 } : Room) s m #[(.int p0), (.int p1)] below meth c s₁ [] 0 0 := Stand.of_body Bd
  have e0 : s₁.heap = h0 := by rw [← hh, Bd.state]; rfl
  have N0 := Fr.nil n0
  obtain ⟨_, _, ⟨T1, L1, k1, n1⟩, -, X1, ⟨Lc1, hQ1, l1, y1, z1⟩, st1⟩ := Jvm.LawKit.callS X0 hx (y := y0) hown (mvT hZ (wq hw 5 rfl)) (mvT hZ (wq hw 6 rfl)) (mvT hZ (wq hw 3 rfl)) (mvT hZ (wq hw 7 rfl)) (by decide) (backOf (W := 0) (rm1 l Z a0 hw [] v0 v1 v2 v3 v4 v5 v6 v7 v8 v9 cs_v hp p0 h0 n0 O0) hZ (wq hw 7 rfl) (wq hw 3 rfl) (by decide) (by decide)) (g := (mkF m 1 #[.val (.int p0), .val (.int p1), .unset] [(.int p0)])) rfl (by rw [hml]; rfl) (argsL := [(.int p0)]) (rest := []) (lenOf pd_0 rfl) rfl (by show 2 * 0 + _ ≤ _; exact Nat.le_of_eq rfl) (hb hby d11_1) (fun _ _ => ⟨rfl, e0, (by decide : 0 + 0 ≤ _), (by decide : 0 + 0 ≤ _)⟩)
  dsimp only [Pt.U, Pt.locs, Pt.cells, Pt.slots] at X1 l1 y1 z1 st1 hQ1
  subst l1 y1 z1
  obtain ⟨rfl, Nq1, eq1⟩ := hQ1
  have N1 := Fr.app N0 Nq1
  obtain ⟨_, _, ⟨T2, L2, k2, n2⟩, -, X2, ⟨Lc2, hQ2, l2, y2, z2⟩, st2⟩ := Jvm.LawKit.callS X1 hx (y := y0) hown (mvT hZ (wq hw 5 rfl)) (mvT hZ (wq hw 6 rfl)) (mvT hZ (wq hw 3 rfl)) (mvT hZ (wq hw 7 rfl)) (by decide) (backOf (W := 1) (rm1 l Z a0 hw [] v0 v1 v2 v3 v4 v5 v6 v7 v8 v9 cs_v hp p1 h0 n0 O0) hZ (wq hw 7 rfl) (wq hw 3 rfl) (by decide) (by decide)) (g := (mkF m 7 #[.val (.int p0), .val (.int p1), .val (.int (fx6 p0))] [(.int p1), (.int (fx6 p0))])) rfl (by rw [hml]; rfl) (argsL := [(.int p1)]) (rest := [(.int (fx6 p0))]) (lenOf pd_0 rfl) rfl (by show 2 * 0 + _ ≤ _; exact Nat.le_of_eq rfl) (hb hby d11_7) (fun _ _ => ⟨rfl, eq1, (by decide : 0 + 0 ≤ _), (by decide : 0 + 0 ≤ _)⟩)
  dsimp only [Pt.U, Pt.locs, Pt.cells, Pt.slots] at X2 l2 y2 z2 st2 hQ2
  subst l2 y2 z2
  obtain ⟨rfl, Nq2, eq2⟩ := hQ2
  have N2 := Fr.app N1 Nq2
  obtain ⟨fs, hr, hrun, hended, hW, hsame⟩ := X2.leave (v := some (.int (0 : Int32))) (fun h => by rw [Bd.returns] at h; cases h)
  refine ⟨_, _, castTop (ef_11_0 m p0 p1) ?_, hrun, hended, _, _, rfl, ?_, ⟨_, rfl⟩, hW, hsame.mono (by decide) (by decide)⟩
  · show Sp p e below s₁ (mkF m 0 #[.val (.int p0), .val (.int p1), .unset] []) _
    refine XS.iloadN X0.here hx rfl (hb hby d11_0) rfl ?_
    show Sp p e below s₁ (mkF m 1 #[.val (.int p0), .val (.int p1), .unset] [(.int p0)]) _
    refine st1 _ ?_
    show Sp p e below T1 (mkF m 4 #[.val (.int p0), .val (.int p1), .unset] [(.int (fx6 p0))]) _
    refine XS.istoreN X1.here hx rfl (hb hby d11_4) rfl (l' := #[.val (.int p0), .val (.int p1), .val (.int (fx6 p0))]) rfl ?_
    refine XS.iloadN X1.here hx rfl (hb hby d11_5) rfl ?_
    refine XS.iloadN X1.here hx rfl (hb hby d11_6) rfl ?_
    show Sp p e below T1 (mkF m 7 #[.val (.int p0), .val (.int p1), .val (.int (fx6 p0))] [(.int p1), (.int (fx6 p0))]) _
    refine st2 _ ?_
    show Sp p e below T2 (mkF m 10 #[.val (.int p0), .val (.int p1), .val (.int (fx6 p0))] [(.int (fx6 p1)), (.int (fx6 p0))]) _
    refine XS.icmpYes X2.here hx rfl (pc0 := 10) (pc' := 15) rfl (hb hby d11_10) rfl (teq hc1).1 (by decide) (by decide) ?_
    refine XS.iloadN X2.here hx rfl (hb hby d11_15) rfl ?_
    refine XS.iconst X2.here hx rfl (hb hby d11_16) ?_
    refine XS.icmpNo X2.here hx rfl (hb hby d11_17) rfl (flt hc2).1 ?_
    refine XS.iloadN X2.here hx rfl (hb hby d11_20) rfl ?_
    refine XS.sipush X2.here hx rfl (hb hby d11_21) ?_
    refine XS.iand X2.here hx rfl (hb hby d11_24) rfl ?_
    show Sp p e below T2 (mkF m 25 #[.val (.int p0), .val (.int p1), .val (.int (fx6 p0))] [(.int (p0 &&& (255 : Int32)))]) _
    refine XS.iloadN X2.here hx rfl (hb hby d11_25) rfl ?_
    refine XS.sipush X2.here hx rfl (hb hby d11_26) ?_
    refine XS.iand X2.here hx rfl (hb hby d11_29) rfl ?_
    refine XS.icmpYes X2.here hx rfl (pc0 := 30) (pc' := 35) rfl (hb hby d11_30) rfl (teq hc3).1 (by decide) (by decide) ?_
    refine XS.iloadN X2.here hx rfl (hb hby d11_35) rfl ?_
    refine XS.iconst X2.here hx rfl (hb hby d11_36) ?_
    refine XS.icmpNo X2.here hx rfl (hb hby d11_37) rfl (flt hc4).1 ?_
    show Sp p e below T2 (mkF m 40 #[.val (.int p0), .val (.int p1), .val (.int (fx6 p0))] []) _
    refine XS.iloadN X2.here hx rfl (hb hby d11_40) rfl ?_
    refine XS.bipush X2.here hx rfl (hb hby d11_41) ?_
    refine XS.iushr X2.here hx rfl (hb hby d11_43) rfl ?_
    refine XS.sipush X2.here hx rfl (hb hby d11_44) ?_
    refine XS.iand X2.here hx rfl (hb hby d11_47) rfl ?_
    refine XS.iloadN X2.here hx rfl (hb hby d11_48) rfl ?_
    refine XS.bipush X2.here hx rfl (hb hby d11_49) ?_
    show Sp p e below T2 (mkF m 51 #[.val (.int p0), .val (.int p1), .val (.int (fx6 p0))] [(.int (8 : Int32)), (.int p1), (.int (fx16 p0))]) _
    refine XS.iushr X2.here hx rfl (hb hby d11_51) rfl ?_
    refine XS.sipush X2.here hx rfl (hb hby d11_52) ?_
    refine XS.iand X2.here hx rfl (hb hby d11_55) rfl ?_
    refine XS.icmpNo X2.here hx rfl (hb hby d11_56) rfl (feq hc5).1 ?_
    refine XS.iconst X2.here hx rfl (hb hby d11_59) ?_
    show Sp p e below T2 (mkF m 60 #[.val (.int p0), .val (.int p1), .val (.int (fx6 p0))] [(.int (0 : Int32))]) _
    exact retN X2 hx (t := .boolean) Bd.returns (by simp) (hb hby d11_60) hr
  · show Q48 Z v0 v1 v2 v3 v4 v5 v6 v7 v8 v9 cs_v p0 p1 h0 n0 _ T2.heap _
    rw [eq2]
    exact ⟨rfl, N2, rfl⟩
theorem d11_66 : decode method_5_code 66 = .ok (.iload_n 0, 1) := by decide +kernel
theorem d11_67 : decode method_5_code 67 = .ok (.bipush 16, 2) := by decide +kernel
theorem d11_69 : decode method_5_code 69 = .ok (.iushr, 1) := by decide +kernel
theorem d11_70 : decode method_5_code 70 = .ok (.sipush 255, 3) := by decide +kernel
theorem d11_73 : decode method_5_code 73 = .ok (.iand, 1) := by decide +kernel
theorem d11_74 : decode method_5_code 74 = .ok (.iload_n 1, 1) := by decide +kernel
theorem d11_75 : decode method_5_code 75 = .ok (.bipush 16, 2) := by decide +kernel
theorem d11_77 : decode method_5_code 77 = .ok (.iushr, 1) := by decide +kernel
abbrev fx17 (x0 : Int32) : Int32 := (((x0.toUInt32 >>> ((16 : Int32) &&& 31).toUInt32).toInt32) &&& (255 : Int32))
theorem d11_78 : decode method_5_code 78 = .ok (.sipush 255, 3) := by decide +kernel
theorem d11_81 : decode method_5_code 81 = .ok (.iand, 1) := by decide +kernel
theorem d11_82 : decode method_5_code 82 = .ok (.if_icmp .eq 5, 3) := by decide +kernel
def Q49 (Z : State) (v0 : Addr) (v1 : Addr) (v2 : Addr) (v3 : Addr) (v4 : Addr) (v5 : Addr) (v6 : Addr) (v7 : Addr) (v8 : Addr) (v9 : Addr) (cs_v : Int32) (p0 : Int32) (p1 : Int32) (h0 : Heap) (n0 : Nat) (v : Option Value) (h : Heap) (L : List Loc) : Prop := v = some (.int (1 : Int32)) ∧ Fr n0 L ∧ h = h0
theorem rm49 (l : Launch) (Z : State) (a0 : Array Value) (hw : ∀ d ∈ tables_1, d.before a0 Z = true) (ws : List Jvm.Cond) (v0 v1 v2 v3 v4 v5 v6 v7 v8 v9 : Addr) (cs_v : Int32) (hp : Perm Z v0 v1 v2 v3 v4 v5 v6 v7 v8 v9 cs_v) (p0 : Int32) (p1 : Int32) (h0 : Heap) (n0 : Nat) (O0 : Old Z n0 h0) (hc1 : (((p0.toUInt32 >>> ((24 : Int32) &&& 31).toUInt32).toInt32) &&& (3 : Int32)) = (((p1.toUInt32 >>> ((24 : Int32) &&& 31).toUInt32).toInt32) &&& (3 : Int32))) (hc2 : ¬ ((((p0.toUInt32 >>> ((24 : Int32) &&& 31).toUInt32).toInt32) &&& (3 : Int32)) < (1 : Int32))) (hc3 : (p0 &&& (255 : Int32)) = (p1 &&& (255 : Int32))) (hc4 : ¬ ((((p0.toUInt32 >>> ((24 : Int32) &&& 31).toUInt32).toInt32) &&& (3 : Int32)) < (2 : Int32))) (hc5 : (((p0.toUInt32 >>> ((8 : Int32) &&& 31).toUInt32).toInt32) &&& (255 : Int32)) = (((p1.toUInt32 >>> ((8 : Int32) &&& 31).toUInt32).toInt32) &&& (255 : Int32))) (hc6 : ¬ ((((p0.toUInt32 >>> ((24 : Int32) &&& 31).toUInt32).toInt32) &&& (3 : Int32)) < (3 : Int32))) (hc7 : (((p0.toUInt32 >>> ((16 : Int32) &&& 31).toUInt32).toInt32) &&& (255 : Int32)) = (((p1.toUInt32 >>> ((16 : Int32) &&& 31).toUInt32).toInt32) &&& (255 : Int32))) :
    MetFree l y13 (head1 (Jvm.Cond.code y13 method_5_code 3 (some .boolean) :: ws) ({ frames := 1, cells := 0, slots := 0, locals := 13 } : Room)) (fun a U => a = #[(.int p0), (.int p1)] ∧ Z.Warmed39 U.vm ∧ U.heap = h0) (fun _ _ _ _ _ => True) (fun _ U o U' => ∃ v L, o = .returned v ∧ Q49 Z v0 v1 v2 v3 v4 v5 v6 v7 v8 v9 cs_v p0 p1 h0 n0 v U'.heap L ∧ FrameEnd U o U' L ({ frames := 1, cells := 0, slots := 0, locals := 13 } : Room).cells ({ frames := 1, cells := 0, slots := 0, locals := 13 } : Room).slots) := by
  refine MetFree.of_bodySF (plainFor_of_name pn_2) hisR ?_
  intro p e s m args below meth c s₁ Bd hml0 hP hK
  obtain ⟨rfl, hZ, hh⟩ := hP
  have hx := Bd.exec
  have hby := Bd.bytes
  have hml : c.maxLocals = 3 := hml0
  have hown : s.vm.findClass "com/example/ratebook/ratebook/model/PricedItemEqualsPinLaw" = some m.cls := findClass_of_methodNamed Bd.named
  have hnm := (name_of_methodNamed Bd.named Bd.method).1
  have X0 : Stand p l e ({ frames := 1, cells := 0, slots := 0, locals := 13 } : Room) s m #[(.int p0), (.int p1)] below meth c s₁ [] 0 0 := Stand.of_body Bd
  have e0 : s₁.heap = h0 := by rw [← hh, Bd.state]; rfl
  have N0 := Fr.nil n0
  obtain ⟨_, _, ⟨T1, L1, k1, n1⟩, -, X1, ⟨Lc1, hQ1, l1, y1, z1⟩, st1⟩ := Jvm.LawKit.callS X0 hx (y := y0) hown (mvT hZ (wq hw 5 rfl)) (mvT hZ (wq hw 6 rfl)) (mvT hZ (wq hw 3 rfl)) (mvT hZ (wq hw 7 rfl)) (by decide) (backOf (W := 0) (rm1 l Z a0 hw [] v0 v1 v2 v3 v4 v5 v6 v7 v8 v9 cs_v hp p0 h0 n0 O0) hZ (wq hw 7 rfl) (wq hw 3 rfl) (by decide) (by decide)) (g := (mkF m 1 #[.val (.int p0), .val (.int p1), .unset] [(.int p0)])) rfl (by rw [hml]; rfl) (argsL := [(.int p0)]) (rest := []) (lenOf pd_0 rfl) rfl (by show 2 * 0 + _ ≤ _; exact Nat.le_of_eq rfl) (hb hby d11_1) (fun _ _ => ⟨rfl, e0, (by decide : 0 + 0 ≤ _), (by decide : 0 + 0 ≤ _)⟩)
  dsimp only [Pt.U, Pt.locs, Pt.cells, Pt.slots] at X1 l1 y1 z1 st1 hQ1
  subst l1 y1 z1
  obtain ⟨rfl, Nq1, eq1⟩ := hQ1
  have N1 := Fr.app N0 Nq1
  obtain ⟨_, _, ⟨T2, L2, k2, n2⟩, -, X2, ⟨Lc2, hQ2, l2, y2, z2⟩, st2⟩ := Jvm.LawKit.callS X1 hx (y := y0) hown (mvT hZ (wq hw 5 rfl)) (mvT hZ (wq hw 6 rfl)) (mvT hZ (wq hw 3 rfl)) (mvT hZ (wq hw 7 rfl)) (by decide) (backOf (W := 1) (rm1 l Z a0 hw [] v0 v1 v2 v3 v4 v5 v6 v7 v8 v9 cs_v hp p1 h0 n0 O0) hZ (wq hw 7 rfl) (wq hw 3 rfl) (by decide) (by decide)) (g := (mkF m 7 #[.val (.int p0), .val (.int p1), .val (.int (fx6 p0))] [(.int p1), (.int (fx6 p0))])) rfl (by rw [hml]; rfl) (argsL := [(.int p1)]) (rest := [(.int (fx6 p0))]) (lenOf pd_0 rfl) rfl (by show 2 * 0 + _ ≤ _; exact Nat.le_of_eq rfl) (hb hby d11_7) (fun _ _ => ⟨rfl, eq1, (by decide : 0 + 0 ≤ _), (by decide : 0 + 0 ≤ _)⟩)
  dsimp only [Pt.U, Pt.locs, Pt.cells, Pt.slots] at X2 l2 y2 z2 st2 hQ2
  subst l2 y2 z2
  obtain ⟨rfl, Nq2, eq2⟩ := hQ2
  have N2 := Fr.app N1 Nq2
  obtain ⟨fs, hr, hrun, hended, hW, hsame⟩ := X2.leave (v := some (.int (1 : Int32))) (fun h => by rw [Bd.returns] at h; cases h)
  refine ⟨_, _, castTop (ef_11_0 m p0 p1) ?_, hrun, hended, _, _, rfl, ?_, ⟨_, rfl⟩, hW, hsame.mono (by decide) (by decide)⟩
  · show Sp p e below s₁ (mkF m 0 #[.val (.int p0), .val (.int p1), .unset] []) _
    refine XS.iloadN X0.here hx rfl (hb hby d11_0) rfl ?_
    show Sp p e below s₁ (mkF m 1 #[.val (.int p0), .val (.int p1), .unset] [(.int p0)]) _
    refine st1 _ ?_
    show Sp p e below T1 (mkF m 4 #[.val (.int p0), .val (.int p1), .unset] [(.int (fx6 p0))]) _
    refine XS.istoreN X1.here hx rfl (hb hby d11_4) rfl (l' := #[.val (.int p0), .val (.int p1), .val (.int (fx6 p0))]) rfl ?_
    refine XS.iloadN X1.here hx rfl (hb hby d11_5) rfl ?_
    refine XS.iloadN X1.here hx rfl (hb hby d11_6) rfl ?_
    show Sp p e below T1 (mkF m 7 #[.val (.int p0), .val (.int p1), .val (.int (fx6 p0))] [(.int p1), (.int (fx6 p0))]) _
    refine st2 _ ?_
    show Sp p e below T2 (mkF m 10 #[.val (.int p0), .val (.int p1), .val (.int (fx6 p0))] [(.int (fx6 p1)), (.int (fx6 p0))]) _
    refine XS.icmpYes X2.here hx rfl (pc0 := 10) (pc' := 15) rfl (hb hby d11_10) rfl (teq hc1).1 (by decide) (by decide) ?_
    refine XS.iloadN X2.here hx rfl (hb hby d11_15) rfl ?_
    refine XS.iconst X2.here hx rfl (hb hby d11_16) ?_
    refine XS.icmpNo X2.here hx rfl (hb hby d11_17) rfl (flt hc2).1 ?_
    refine XS.iloadN X2.here hx rfl (hb hby d11_20) rfl ?_
    refine XS.sipush X2.here hx rfl (hb hby d11_21) ?_
    refine XS.iand X2.here hx rfl (hb hby d11_24) rfl ?_
    show Sp p e below T2 (mkF m 25 #[.val (.int p0), .val (.int p1), .val (.int (fx6 p0))] [(.int (p0 &&& (255 : Int32)))]) _
    refine XS.iloadN X2.here hx rfl (hb hby d11_25) rfl ?_
    refine XS.sipush X2.here hx rfl (hb hby d11_26) ?_
    refine XS.iand X2.here hx rfl (hb hby d11_29) rfl ?_
    refine XS.icmpYes X2.here hx rfl (pc0 := 30) (pc' := 35) rfl (hb hby d11_30) rfl (teq hc3).1 (by decide) (by decide) ?_
    refine XS.iloadN X2.here hx rfl (hb hby d11_35) rfl ?_
    refine XS.iconst X2.here hx rfl (hb hby d11_36) ?_
    refine XS.icmpNo X2.here hx rfl (hb hby d11_37) rfl (flt hc4).1 ?_
    show Sp p e below T2 (mkF m 40 #[.val (.int p0), .val (.int p1), .val (.int (fx6 p0))] []) _
    refine XS.iloadN X2.here hx rfl (hb hby d11_40) rfl ?_
    refine XS.bipush X2.here hx rfl (hb hby d11_41) ?_
    refine XS.iushr X2.here hx rfl (hb hby d11_43) rfl ?_
    refine XS.sipush X2.here hx rfl (hb hby d11_44) ?_
    refine XS.iand X2.here hx rfl (hb hby d11_47) rfl ?_
    refine XS.iloadN X2.here hx rfl (hb hby d11_48) rfl ?_
    refine XS.bipush X2.here hx rfl (hb hby d11_49) ?_
    show Sp p e below T2 (mkF m 51 #[.val (.int p0), .val (.int p1), .val (.int (fx6 p0))] [(.int (8 : Int32)), (.int p1), (.int (fx16 p0))]) _
    refine XS.iushr X2.here hx rfl (hb hby d11_51) rfl ?_
    refine XS.sipush X2.here hx rfl (hb hby d11_52) ?_
    refine XS.iand X2.here hx rfl (hb hby d11_55) rfl ?_
    refine XS.icmpYes X2.here hx rfl (pc0 := 56) (pc' := 61) rfl (hb hby d11_56) rfl (teq hc5).1 (by decide) (by decide) ?_
    refine XS.iloadN X2.here hx rfl (hb hby d11_61) rfl ?_
    refine XS.iconst X2.here hx rfl (hb hby d11_62) ?_
    refine XS.icmpNo X2.here hx rfl (hb hby d11_63) rfl (flt hc6).1 ?_
    show Sp p e below T2 (mkF m 66 #[.val (.int p0), .val (.int p1), .val (.int (fx6 p0))] []) _
    refine XS.iloadN X2.here hx rfl (hb hby d11_66) rfl ?_
    refine XS.bipush X2.here hx rfl (hb hby d11_67) ?_
    refine XS.iushr X2.here hx rfl (hb hby d11_69) rfl ?_
    refine XS.sipush X2.here hx rfl (hb hby d11_70) ?_
    refine XS.iand X2.here hx rfl (hb hby d11_73) rfl ?_
    refine XS.iloadN X2.here hx rfl (hb hby d11_74) rfl ?_
    refine XS.bipush X2.here hx rfl (hb hby d11_75) ?_
    show Sp p e below T2 (mkF m 77 #[.val (.int p0), .val (.int p1), .val (.int (fx6 p0))] [(.int (16 : Int32)), (.int p1), (.int (fx17 p0))]) _
    refine XS.iushr X2.here hx rfl (hb hby d11_77) rfl ?_
    refine XS.sipush X2.here hx rfl (hb hby d11_78) ?_
    refine XS.iand X2.here hx rfl (hb hby d11_81) rfl ?_
    refine XS.icmpYes X2.here hx rfl (pc0 := 82) (pc' := 87) rfl (hb hby d11_82) rfl (teq hc7).1 (by decide) (by decide) ?_
    refine XS.iconst X2.here hx rfl (hb hby d11_87) ?_
    show Sp p e below T2 (mkF m 88 #[.val (.int p0), .val (.int p1), .val (.int (fx6 p0))] [(.int (1 : Int32))]) _
    exact retN X2 hx (t := .boolean) Bd.returns (by simp) (hb hby d11_88) hr
  · show Q49 Z v0 v1 v2 v3 v4 v5 v6 v7 v8 v9 cs_v p0 p1 h0 n0 _ T2.heap _
    rw [eq2]
    exact ⟨rfl, N2, rfl⟩
theorem d11_85 : decode method_5_code 85 = .ok (.iconst 0, 1) := by decide +kernel
theorem d11_86 : decode method_5_code 86 = .ok (.ireturn, 1) := by decide +kernel
def Q50 (Z : State) (v0 : Addr) (v1 : Addr) (v2 : Addr) (v3 : Addr) (v4 : Addr) (v5 : Addr) (v6 : Addr) (v7 : Addr) (v8 : Addr) (v9 : Addr) (cs_v : Int32) (p0 : Int32) (p1 : Int32) (h0 : Heap) (n0 : Nat) (v : Option Value) (h : Heap) (L : List Loc) : Prop := v = some (.int (0 : Int32)) ∧ Fr n0 L ∧ h = h0
theorem rm50 (l : Launch) (Z : State) (a0 : Array Value) (hw : ∀ d ∈ tables_1, d.before a0 Z = true) (ws : List Jvm.Cond) (v0 v1 v2 v3 v4 v5 v6 v7 v8 v9 : Addr) (cs_v : Int32) (hp : Perm Z v0 v1 v2 v3 v4 v5 v6 v7 v8 v9 cs_v) (p0 : Int32) (p1 : Int32) (h0 : Heap) (n0 : Nat) (O0 : Old Z n0 h0) (hc1 : (((p0.toUInt32 >>> ((24 : Int32) &&& 31).toUInt32).toInt32) &&& (3 : Int32)) = (((p1.toUInt32 >>> ((24 : Int32) &&& 31).toUInt32).toInt32) &&& (3 : Int32))) (hc2 : ¬ ((((p0.toUInt32 >>> ((24 : Int32) &&& 31).toUInt32).toInt32) &&& (3 : Int32)) < (1 : Int32))) (hc3 : (p0 &&& (255 : Int32)) = (p1 &&& (255 : Int32))) (hc4 : ¬ ((((p0.toUInt32 >>> ((24 : Int32) &&& 31).toUInt32).toInt32) &&& (3 : Int32)) < (2 : Int32))) (hc5 : (((p0.toUInt32 >>> ((8 : Int32) &&& 31).toUInt32).toInt32) &&& (255 : Int32)) = (((p1.toUInt32 >>> ((8 : Int32) &&& 31).toUInt32).toInt32) &&& (255 : Int32))) (hc6 : ¬ ((((p0.toUInt32 >>> ((24 : Int32) &&& 31).toUInt32).toInt32) &&& (3 : Int32)) < (3 : Int32))) (hc7 : ¬ ((((p0.toUInt32 >>> ((16 : Int32) &&& 31).toUInt32).toInt32) &&& (255 : Int32)) = (((p1.toUInt32 >>> ((16 : Int32) &&& 31).toUInt32).toInt32) &&& (255 : Int32)))) :
    MetFree l y13 (head1 (Jvm.Cond.code y13 method_5_code 3 (some .boolean) :: ws) ({ frames := 1, cells := 0, slots := 0, locals := 13 } : Room)) (fun a U => a = #[(.int p0), (.int p1)] ∧ Z.Warmed39 U.vm ∧ U.heap = h0) (fun _ _ _ _ _ => True) (fun _ U o U' => ∃ v L, o = .returned v ∧ Q50 Z v0 v1 v2 v3 v4 v5 v6 v7 v8 v9 cs_v p0 p1 h0 n0 v U'.heap L ∧ FrameEnd U o U' L ({ frames := 1, cells := 0, slots := 0, locals := 13 } : Room).cells ({ frames := 1, cells := 0, slots := 0, locals := 13 } : Room).slots) := by
  refine MetFree.of_bodySF (plainFor_of_name pn_2) hisR ?_
  intro p e s m args below meth c s₁ Bd hml0 hP hK
  obtain ⟨rfl, hZ, hh⟩ := hP
  have hx := Bd.exec
  have hby := Bd.bytes
  have hml : c.maxLocals = 3 := hml0
  have hown : s.vm.findClass "com/example/ratebook/ratebook/model/PricedItemEqualsPinLaw" = some m.cls := findClass_of_methodNamed Bd.named
  have hnm := (name_of_methodNamed Bd.named Bd.method).1
  have X0 : Stand p l e ({ frames := 1, cells := 0, slots := 0, locals := 13 } : Room) s m #[(.int p0), (.int p1)] below meth c s₁ [] 0 0 := Stand.of_body Bd
  have e0 : s₁.heap = h0 := by rw [← hh, Bd.state]; rfl
  have N0 := Fr.nil n0
  obtain ⟨_, _, ⟨T1, L1, k1, n1⟩, -, X1, ⟨Lc1, hQ1, l1, y1, z1⟩, st1⟩ := Jvm.LawKit.callS X0 hx (y := y0) hown (mvT hZ (wq hw 5 rfl)) (mvT hZ (wq hw 6 rfl)) (mvT hZ (wq hw 3 rfl)) (mvT hZ (wq hw 7 rfl)) (by decide) (backOf (W := 0) (rm1 l Z a0 hw [] v0 v1 v2 v3 v4 v5 v6 v7 v8 v9 cs_v hp p0 h0 n0 O0) hZ (wq hw 7 rfl) (wq hw 3 rfl) (by decide) (by decide)) (g := (mkF m 1 #[.val (.int p0), .val (.int p1), .unset] [(.int p0)])) rfl (by rw [hml]; rfl) (argsL := [(.int p0)]) (rest := []) (lenOf pd_0 rfl) rfl (by show 2 * 0 + _ ≤ _; exact Nat.le_of_eq rfl) (hb hby d11_1) (fun _ _ => ⟨rfl, e0, (by decide : 0 + 0 ≤ _), (by decide : 0 + 0 ≤ _)⟩)
  dsimp only [Pt.U, Pt.locs, Pt.cells, Pt.slots] at X1 l1 y1 z1 st1 hQ1
  subst l1 y1 z1
  obtain ⟨rfl, Nq1, eq1⟩ := hQ1
  have N1 := Fr.app N0 Nq1
  obtain ⟨_, _, ⟨T2, L2, k2, n2⟩, -, X2, ⟨Lc2, hQ2, l2, y2, z2⟩, st2⟩ := Jvm.LawKit.callS X1 hx (y := y0) hown (mvT hZ (wq hw 5 rfl)) (mvT hZ (wq hw 6 rfl)) (mvT hZ (wq hw 3 rfl)) (mvT hZ (wq hw 7 rfl)) (by decide) (backOf (W := 1) (rm1 l Z a0 hw [] v0 v1 v2 v3 v4 v5 v6 v7 v8 v9 cs_v hp p1 h0 n0 O0) hZ (wq hw 7 rfl) (wq hw 3 rfl) (by decide) (by decide)) (g := (mkF m 7 #[.val (.int p0), .val (.int p1), .val (.int (fx6 p0))] [(.int p1), (.int (fx6 p0))])) rfl (by rw [hml]; rfl) (argsL := [(.int p1)]) (rest := [(.int (fx6 p0))]) (lenOf pd_0 rfl) rfl (by show 2 * 0 + _ ≤ _; exact Nat.le_of_eq rfl) (hb hby d11_7) (fun _ _ => ⟨rfl, eq1, (by decide : 0 + 0 ≤ _), (by decide : 0 + 0 ≤ _)⟩)
  dsimp only [Pt.U, Pt.locs, Pt.cells, Pt.slots] at X2 l2 y2 z2 st2 hQ2
  subst l2 y2 z2
  obtain ⟨rfl, Nq2, eq2⟩ := hQ2
  have N2 := Fr.app N1 Nq2
  obtain ⟨fs, hr, hrun, hended, hW, hsame⟩ := X2.leave (v := some (.int (0 : Int32))) (fun h => by rw [Bd.returns] at h; cases h)
  refine ⟨_, _, castTop (ef_11_0 m p0 p1) ?_, hrun, hended, _, _, rfl, ?_, ⟨_, rfl⟩, hW, hsame.mono (by decide) (by decide)⟩
  · show Sp p e below s₁ (mkF m 0 #[.val (.int p0), .val (.int p1), .unset] []) _
    refine XS.iloadN X0.here hx rfl (hb hby d11_0) rfl ?_
    show Sp p e below s₁ (mkF m 1 #[.val (.int p0), .val (.int p1), .unset] [(.int p0)]) _
    refine st1 _ ?_
    show Sp p e below T1 (mkF m 4 #[.val (.int p0), .val (.int p1), .unset] [(.int (fx6 p0))]) _
    refine XS.istoreN X1.here hx rfl (hb hby d11_4) rfl (l' := #[.val (.int p0), .val (.int p1), .val (.int (fx6 p0))]) rfl ?_
    refine XS.iloadN X1.here hx rfl (hb hby d11_5) rfl ?_
    refine XS.iloadN X1.here hx rfl (hb hby d11_6) rfl ?_
    show Sp p e below T1 (mkF m 7 #[.val (.int p0), .val (.int p1), .val (.int (fx6 p0))] [(.int p1), (.int (fx6 p0))]) _
    refine st2 _ ?_
    show Sp p e below T2 (mkF m 10 #[.val (.int p0), .val (.int p1), .val (.int (fx6 p0))] [(.int (fx6 p1)), (.int (fx6 p0))]) _
    refine XS.icmpYes X2.here hx rfl (pc0 := 10) (pc' := 15) rfl (hb hby d11_10) rfl (teq hc1).1 (by decide) (by decide) ?_
    refine XS.iloadN X2.here hx rfl (hb hby d11_15) rfl ?_
    refine XS.iconst X2.here hx rfl (hb hby d11_16) ?_
    refine XS.icmpNo X2.here hx rfl (hb hby d11_17) rfl (flt hc2).1 ?_
    refine XS.iloadN X2.here hx rfl (hb hby d11_20) rfl ?_
    refine XS.sipush X2.here hx rfl (hb hby d11_21) ?_
    refine XS.iand X2.here hx rfl (hb hby d11_24) rfl ?_
    show Sp p e below T2 (mkF m 25 #[.val (.int p0), .val (.int p1), .val (.int (fx6 p0))] [(.int (p0 &&& (255 : Int32)))]) _
    refine XS.iloadN X2.here hx rfl (hb hby d11_25) rfl ?_
    refine XS.sipush X2.here hx rfl (hb hby d11_26) ?_
    refine XS.iand X2.here hx rfl (hb hby d11_29) rfl ?_
    refine XS.icmpYes X2.here hx rfl (pc0 := 30) (pc' := 35) rfl (hb hby d11_30) rfl (teq hc3).1 (by decide) (by decide) ?_
    refine XS.iloadN X2.here hx rfl (hb hby d11_35) rfl ?_
    refine XS.iconst X2.here hx rfl (hb hby d11_36) ?_
    refine XS.icmpNo X2.here hx rfl (hb hby d11_37) rfl (flt hc4).1 ?_
    show Sp p e below T2 (mkF m 40 #[.val (.int p0), .val (.int p1), .val (.int (fx6 p0))] []) _
    refine XS.iloadN X2.here hx rfl (hb hby d11_40) rfl ?_
    refine XS.bipush X2.here hx rfl (hb hby d11_41) ?_
    refine XS.iushr X2.here hx rfl (hb hby d11_43) rfl ?_
    refine XS.sipush X2.here hx rfl (hb hby d11_44) ?_
    refine XS.iand X2.here hx rfl (hb hby d11_47) rfl ?_
    refine XS.iloadN X2.here hx rfl (hb hby d11_48) rfl ?_
    refine XS.bipush X2.here hx rfl (hb hby d11_49) ?_
    show Sp p e below T2 (mkF m 51 #[.val (.int p0), .val (.int p1), .val (.int (fx6 p0))] [(.int (8 : Int32)), (.int p1), (.int (fx16 p0))]) _
    refine XS.iushr X2.here hx rfl (hb hby d11_51) rfl ?_
    refine XS.sipush X2.here hx rfl (hb hby d11_52) ?_
    refine XS.iand X2.here hx rfl (hb hby d11_55) rfl ?_
    refine XS.icmpYes X2.here hx rfl (pc0 := 56) (pc' := 61) rfl (hb hby d11_56) rfl (teq hc5).1 (by decide) (by decide) ?_
    refine XS.iloadN X2.here hx rfl (hb hby d11_61) rfl ?_
    refine XS.iconst X2.here hx rfl (hb hby d11_62) ?_
    refine XS.icmpNo X2.here hx rfl (hb hby d11_63) rfl (flt hc6).1 ?_
    show Sp p e below T2 (mkF m 66 #[.val (.int p0), .val (.int p1), .val (.int (fx6 p0))] []) _
    refine XS.iloadN X2.here hx rfl (hb hby d11_66) rfl ?_
    refine XS.bipush X2.here hx rfl (hb hby d11_67) ?_
    refine XS.iushr X2.here hx rfl (hb hby d11_69) rfl ?_
    refine XS.sipush X2.here hx rfl (hb hby d11_70) ?_
    refine XS.iand X2.here hx rfl (hb hby d11_73) rfl ?_
    refine XS.iloadN X2.here hx rfl (hb hby d11_74) rfl ?_
    refine XS.bipush X2.here hx rfl (hb hby d11_75) ?_
    show Sp p e below T2 (mkF m 77 #[.val (.int p0), .val (.int p1), .val (.int (fx6 p0))] [(.int (16 : Int32)), (.int p1), (.int (fx17 p0))]) _
    refine XS.iushr X2.here hx rfl (hb hby d11_77) rfl ?_
    refine XS.sipush X2.here hx rfl (hb hby d11_78) ?_
    refine XS.iand X2.here hx rfl (hb hby d11_81) rfl ?_
    refine XS.icmpNo X2.here hx rfl (hb hby d11_82) rfl (feq hc7).1 ?_
    refine XS.iconst X2.here hx rfl (hb hby d11_85) ?_
    show Sp p e below T2 (mkF m 86 #[.val (.int p0), .val (.int p1), .val (.int (fx6 p0))] [(.int (0 : Int32))]) _
    exact retN X2 hx (t := .boolean) Bd.returns (by simp) (hb hby d11_86) hr
  · show Q50 Z v0 v1 v2 v3 v4 v5 v6 v7 v8 v9 cs_v p0 p1 h0 n0 _ T2.heap _
    rw [eq2]
    exact ⟨rfl, N2, rfl⟩
def QT11 (p0 p1 : Int32) (h0 : Heap) (n0 : Nat) (v : Option Value) (h : Heap) (L : List Loc) : Prop := v = some (.int (sxS p0 p1)) ∧ Fr n0 L ∧ h = h0
theorem rmT11 (l : Launch) (Z : State) (a0 : Array Value) (hw : ∀ d ∈ tables_1, d.before a0 Z = true) (ws : List Jvm.Cond) (v0 v1 v2 v3 v4 v5 v6 v7 v8 v9 : Addr) (cs_v : Int32) (hp : Perm Z v0 v1 v2 v3 v4 v5 v6 v7 v8 v9 cs_v) (p0 p1 : Int32) (h0 : Heap) (n0 : Nat) (O0 : Old Z n0 h0) :
    MetFree l y13 (head1 (Jvm.Cond.code y13 method_5_code 3 (some .boolean) :: ws) ({ frames := 1, cells := 0, slots := 0, locals := 13 } : Room)) (fun a U => a = #[(.int p0), (.int p1)] ∧ Z.Warmed39 U.vm ∧ U.heap = h0) (fun _ _ _ _ _ => True) (fun _ U o U' => ∃ v L, o = .returned v ∧ QT11 p0 p1 h0 n0 v U'.heap L ∧ FrameEnd U o U' L ({ frames := 1, cells := 0, slots := 0, locals := 13 } : Room).cells ({ frames := 1, cells := 0, slots := 0, locals := 13 } : Room).slots) := by
  by_cases d0 : (((p0.toUInt32 >>> ((24 : Int32) &&& 31).toUInt32).toInt32) &&& (3 : Int32)) = (((p1.toUInt32 >>> ((24 : Int32) &&& 31).toUInt32).toInt32) &&& (3 : Int32))
  · skip
    by_cases d1 : (((p0.toUInt32 >>> ((24 : Int32) &&& 31).toUInt32).toInt32) &&& (3 : Int32)) < (1 : Int32)
    · skip
      have hS : sxS p0 p1 = (1 : Int32) := by rw [sxS, if_pos ⟨d0, Or.inl (own_ltm d1 (by decide) : (((p0.toUInt32 >>> ((24 : Int32) &&& 31).toUInt32).toInt32) &&& (3 : Int32)) < (1 : Int32)), Or.inl (own_ltm d1 (by decide) : (((p0.toUInt32 >>> ((24 : Int32) &&& 31).toUInt32).toInt32) &&& (3 : Int32)) < (2 : Int32)), Or.inl (own_ltm d1 (by decide) : (((p0.toUInt32 >>> ((24 : Int32) &&& 31).toUInt32).toInt32) &&& (3 : Int32)) < (3 : Int32))⟩]
      exact (rm43 l Z a0 hw ws v0 v1 v2 v3 v4 v5 v6 v7 v8 v9 cs_v hp p0 p1 h0 n0 O0 d0 d1).mono (fun _ _ h => h) (fun _ _ _ _ _ h => h) (fun a s o s' _ ⟨v, L, e, q, f⟩ => ⟨v, L, e, ⟨by rw [hS]; exact q.1, q.2.1, q.2.2⟩, f⟩)
    · skip
      by_cases d2 : (p0 &&& (255 : Int32)) = (p1 &&& (255 : Int32))
      · skip
        by_cases d3 : (((p0.toUInt32 >>> ((24 : Int32) &&& 31).toUInt32).toInt32) &&& (3 : Int32)) < (2 : Int32)
        · skip
          have hS : sxS p0 p1 = (1 : Int32) := by rw [sxS, if_pos ⟨d0, Or.inr d2, Or.inl (own_ltm d3 (by decide) : (((p0.toUInt32 >>> ((24 : Int32) &&& 31).toUInt32).toInt32) &&& (3 : Int32)) < (2 : Int32)), Or.inl (own_ltm d3 (by decide) : (((p0.toUInt32 >>> ((24 : Int32) &&& 31).toUInt32).toInt32) &&& (3 : Int32)) < (3 : Int32))⟩]
          exact (rm45 l Z a0 hw ws v0 v1 v2 v3 v4 v5 v6 v7 v8 v9 cs_v hp p0 p1 h0 n0 O0 d0 d1 d2 d3).mono (fun _ _ h => h) (fun _ _ _ _ _ h => h) (fun a s o s' _ ⟨v, L, e, q, f⟩ => ⟨v, L, e, ⟨by rw [hS]; exact q.1, q.2.1, q.2.2⟩, f⟩)
        · skip
          by_cases d4 : (((p0.toUInt32 >>> ((8 : Int32) &&& 31).toUInt32).toInt32) &&& (255 : Int32)) = (((p1.toUInt32 >>> ((8 : Int32) &&& 31).toUInt32).toInt32) &&& (255 : Int32))
          · skip
            by_cases d5 : (((p0.toUInt32 >>> ((24 : Int32) &&& 31).toUInt32).toInt32) &&& (3 : Int32)) < (3 : Int32)
            · skip
              have hS : sxS p0 p1 = (1 : Int32) := by rw [sxS, if_pos ⟨d0, Or.inr d2, Or.inr d4, Or.inl (own_ltm d5 (by decide) : (((p0.toUInt32 >>> ((24 : Int32) &&& 31).toUInt32).toInt32) &&& (3 : Int32)) < (3 : Int32))⟩]
              exact (rm47 l Z a0 hw ws v0 v1 v2 v3 v4 v5 v6 v7 v8 v9 cs_v hp p0 p1 h0 n0 O0 d0 d1 d2 d3 d4 d5).mono (fun _ _ h => h) (fun _ _ _ _ _ h => h) (fun a s o s' _ ⟨v, L, e, q, f⟩ => ⟨v, L, e, ⟨by rw [hS]; exact q.1, q.2.1, q.2.2⟩, f⟩)
            · skip
              by_cases d6 : (((p0.toUInt32 >>> ((16 : Int32) &&& 31).toUInt32).toInt32) &&& (255 : Int32)) = (((p1.toUInt32 >>> ((16 : Int32) &&& 31).toUInt32).toInt32) &&& (255 : Int32))
              · skip
                have hS : sxS p0 p1 = (1 : Int32) := by rw [sxS, if_pos ⟨d0, Or.inr d2, Or.inr d4, Or.inr d6⟩]
                exact (rm49 l Z a0 hw ws v0 v1 v2 v3 v4 v5 v6 v7 v8 v9 cs_v hp p0 p1 h0 n0 O0 d0 d1 d2 d3 d4 d5 d6).mono (fun _ _ h => h) (fun _ _ _ _ _ h => h) (fun a s o s' _ ⟨v, L, e, q, f⟩ => ⟨v, L, e, ⟨by rw [hS]; exact q.1, q.2.1, q.2.2⟩, f⟩)
              · skip
                have hS : sxS p0 p1 = (0 : Int32) := by rw [sxS, if_neg (fun q => q.2.2.2.elim (own_nltm d5 (by decide) : ¬ ((((p0.toUInt32 >>> ((24 : Int32) &&& 31).toUInt32).toInt32) &&& (3 : Int32)) < (3 : Int32))) d6)]
                exact (rm50 l Z a0 hw ws v0 v1 v2 v3 v4 v5 v6 v7 v8 v9 cs_v hp p0 p1 h0 n0 O0 d0 d1 d2 d3 d4 d5 d6).mono (fun _ _ h => h) (fun _ _ _ _ _ h => h) (fun a s o s' _ ⟨v, L, e, q, f⟩ => ⟨v, L, e, ⟨by rw [hS]; exact q.1, q.2.1, q.2.2⟩, f⟩)
          · skip
            have hS : sxS p0 p1 = (0 : Int32) := by rw [sxS, if_neg (fun q => q.2.2.1.elim (own_nltm d3 (by decide) : ¬ ((((p0.toUInt32 >>> ((24 : Int32) &&& 31).toUInt32).toInt32) &&& (3 : Int32)) < (2 : Int32))) d4)]
            exact (rm48 l Z a0 hw ws v0 v1 v2 v3 v4 v5 v6 v7 v8 v9 cs_v hp p0 p1 h0 n0 O0 d0 d1 d2 d3 d4).mono (fun _ _ h => h) (fun _ _ _ _ _ h => h) (fun a s o s' _ ⟨v, L, e, q, f⟩ => ⟨v, L, e, ⟨by rw [hS]; exact q.1, q.2.1, q.2.2⟩, f⟩)
      · skip
        have hS : sxS p0 p1 = (0 : Int32) := by rw [sxS, if_neg (fun q => q.2.1.elim (own_nltm d1 (by decide) : ¬ ((((p0.toUInt32 >>> ((24 : Int32) &&& 31).toUInt32).toInt32) &&& (3 : Int32)) < (1 : Int32))) d2)]
        exact (rm46 l Z a0 hw ws v0 v1 v2 v3 v4 v5 v6 v7 v8 v9 cs_v hp p0 p1 h0 n0 O0 d0 d1 d2).mono (fun _ _ h => h) (fun _ _ _ _ _ h => h) (fun a s o s' _ ⟨v, L, e, q, f⟩ => ⟨v, L, e, ⟨by rw [hS]; exact q.1, q.2.1, q.2.2⟩, f⟩)
  · skip
    have hS : sxS p0 p1 = (0 : Int32) := by rw [sxS, if_neg (fun q => d0 q.1)]
    exact (rm44 l Z a0 hw ws v0 v1 v2 v3 v4 v5 v6 v7 v8 v9 cs_v hp p0 p1 h0 n0 O0 d0).mono (fun _ _ h => h) (fun _ _ _ _ _ h => h) (fun a s o s' _ ⟨v, L, e, q, f⟩ => ⟨v, L, e, ⟨by rw [hS]; exact q.1, q.2.1, q.2.2⟩, f⟩)
theorem pd_12 : parseMethodDescriptor "(II)Z" = some ⟨[.int, .int], some .boolean⟩ := by decide +kernel
theorem d12_7 : decode jdk_42_method_66_code 7 = .ok (.aload_n 1, 1) := by decide +kernel
theorem d12_8 : decode jdk_42_method_66_code 8 = .ok (.instanceof 10, 3) := by decide +kernel
theorem d12_11 : decode jdk_42_method_66_code 11 = .ok (.ifCond .eq 43, 3) := by decide +kernel
theorem d12_14 : decode jdk_42_method_66_code 14 = .ok (.aload_n 1, 1) := by decide +kernel
theorem d12_15 : decode jdk_42_method_66_code 15 = .ok (.checkcast 10, 3) := by decide +kernel
theorem d12_18 : decode jdk_42_method_66_code 18 = .ok (.astore_n 2, 1) := by decide +kernel
theorem d12_19 : decode jdk_42_method_66_code 19 = .ok (.getstatic 38, 3) := by decide +kernel
theorem d12_22 : decode jdk_42_method_66_code 22 = .ok (.ifCond .eq 14, 3) := by decide +kernel
theorem d12_25 : decode jdk_42_method_66_code 25 = .ok (.aload_n 0, 1) := by decide +kernel
theorem d12_26 : decode jdk_42_method_66_code 26 = .ok (.getfield 15, 3) := by decide +kernel
theorem d12_29 : decode jdk_42_method_66_code 29 = .ok (.aload_n 2, 1) := by decide +kernel
theorem d12_30 : decode jdk_42_method_66_code 30 = .ok (.getfield 15, 3) := by decide +kernel
theorem d12_33 : decode jdk_42_method_66_code 33 = .ok (.if_icmp .ne 21, 3) := by decide +kernel
theorem d12_36 : decode jdk_42_method_66_code 36 = .ok (.aload_n 0, 1) := by decide +kernel
theorem d12_37 : decode jdk_42_method_66_code 37 = .ok (.getfield 9, 3) := by decide +kernel
theorem d12_40 : decode jdk_42_method_66_code 40 = .ok (.aload_n 2, 1) := by decide +kernel
theorem d12_41 : decode jdk_42_method_66_code 41 = .ok (.getfield 9, 3) := by decide +kernel
theorem d12_44 : decode jdk_42_method_66_code 44 = .ok (.invokestatic 541, 3) := by decide +kernel
theorem d13_0 : decode jdk_43_method_13_code 0 = .ok (.aload_n 0, 1) := by decide +kernel
theorem d13_1 : decode jdk_43_method_13_code 1 = .ok (.arraylength, 1) := by decide +kernel
theorem d13_2 : decode jdk_43_method_13_code 2 = .ok (.aload_n 1, 1) := by decide +kernel
theorem d13_3 : decode jdk_43_method_13_code 3 = .ok (.arraylength, 1) := by decide +kernel
theorem d13_4 : decode jdk_43_method_13_code 4 = .ok (.if_icmp .ne 30, 3) := by decide +kernel
theorem d13_34 : decode jdk_43_method_13_code 34 = .ok (.iconst 0, 1) := by decide +kernel
theorem d13_35 : decode jdk_43_method_13_code 35 = .ok (.ireturn, 1) := by decide +kernel
abbrev y14 : MethodName := (⟨"java/lang/StringLatin1", "equals", "([B[B)Z"⟩ : MethodName)
theorem ef_13_0 (m : MethodId) (x0 : Addr) (x1 : Addr) : entryFrame m #[(.ref x0), (.ref x1)] 3 = mkF m 0 #[.val (.ref x0), .val (.ref x1), .unset] [] := by first | (simp [entryFrame, mkF, argsToLocals, Value.category]; done) | rfl
theorem pn_13 : plainName "java/lang/StringLatin1" = true := by first | (simp [plainName, overriddenIn]; done) | decide +kernel
def Q51 (Z : State) (v0 : Addr) (v1 : Addr) (v2 : Addr) (v3 : Addr) (v4 : Addr) (v5 : Addr) (v6 : Addr) (v7 : Addr) (v8 : Addr) (v9 : Addr) (cs_v : Int32) (a1 : Addr) (a2 : Addr) (k_a1 : ClassId) (p4 : Int32) (k_a2 : ClassId) (p6 : Int32) (h0 : Heap) (n0 : Nat) (v : Option Value) (h : Heap) (L : List Loc) : Prop := v = some (.int (0 : Int32)) ∧ Fr n0 L ∧ h = h0
theorem rm51 (l : Launch) (Z : State) (a0 : Array Value) (hw : ∀ d ∈ tables_1, d.before a0 Z = true) (ws : List Jvm.Cond) (v0 v1 v2 v3 v4 v5 v6 v7 v8 v9 : Addr) (cs_v : Int32) (hp : Perm Z v0 v1 v2 v3 v4 v5 v6 v7 v8 v9 cs_v) (a1 : Addr) (a2 : Addr) (k_a1 : ClassId) (p4 : Int32) (k_a2 : ClassId) (p6 : Int32) (h0 : Heap) (n0 : Nat) (O0 : Old Z n0 h0) (V_a1 : Arv Z h0 a1 k_a1 .byte (sxN p4) (sxV p4) (.int (0 : Int32))) (V_a2 : Arv Z h0 a2 k_a2 .byte (sxN p6) (sxV p6) (.int (0 : Int32))) (hc3 : ¬ ((sxN p4) = (sxN p6))) :
    MetFree l y14 (head1 (Jvm.Cond.code y14 jdk_43_method_13_code 3 (some .boolean) :: ws) ({ frames := 0, cells := 0, slots := 0, locals := 0 } : Room)) (fun a U => a = #[(.ref a1), (.ref a2)] ∧ Z.Warmed39 U.vm ∧ U.heap = h0) (fun _ _ _ _ _ => True) (fun _ U o U' => ∃ v L, o = .returned v ∧ Q51 Z v0 v1 v2 v3 v4 v5 v6 v7 v8 v9 cs_v a1 a2 k_a1 p4 k_a2 p6 h0 n0 v U'.heap L ∧ FrameEnd U o U' L ({ frames := 0, cells := 0, slots := 0, locals := 0 } : Room).cells ({ frames := 0, cells := 0, slots := 0, locals := 0 } : Room).slots) := by
  refine MetFree.of_bodySF (plainFor_of_name pn_13) hisR ?_
  intro p e s m args below meth c s₁ Bd hml0 hP hK
  obtain ⟨rfl, hZ, hh⟩ := hP
  have hx := Bd.exec
  have hby := Bd.bytes
  have hml : c.maxLocals = 3 := hml0
  have hown : s.vm.findClass "java/lang/StringLatin1" = some m.cls := findClass_of_methodNamed Bd.named
  have hnm := (name_of_methodNamed Bd.named Bd.method).1
  have X0 : Stand p l e ({ frames := 0, cells := 0, slots := 0, locals := 0 } : Room) s m #[(.ref a1), (.ref a2)] below meth c s₁ [] 0 0 := Stand.of_body Bd
  have e0 : s₁.heap = h0 := by rw [← hh, Bd.state]; rfl
  have N0 := Fr.nil n0
  obtain ⟨cl1, Ar1, -, S1, Nn1, -, -⟩ := id V_a1
  obtain ⟨cl2, Ar2, -, S2, Nn2, -, -⟩ := id V_a2
  obtain ⟨fs, hr, hrun, hended, hW, hsame⟩ := X0.leave (v := some (.int (0 : Int32))) (fun h => by rw [Bd.returns] at h; cases h)
  refine ⟨_, _, castTop (ef_13_0 m a1 a2) ?_, hrun, hended, _, _, rfl, ?_, ⟨_, rfl⟩, hW, hsame.mono (by decide) (by decide)⟩
  · show Sp p e below s₁ (mkF m 0 #[.val (.ref a1), .val (.ref a2), .unset] []) _
    refine XS.aloadN X0.here hx rfl (hb hby d13_0) rfl rfl ?_
    show Sp p e below s₁ (mkF m 1 #[.val (.ref a1), .val (.ref a2), .unset] [(.ref a1)]) _
    refine X0.arraylength hx (by rw [e0]; exact Ar1.1) (State.isArrayOf_alike hZ.alike Ar1.2.1) (g := (mkF m 1 #[.val (.ref a1), .val (.ref a2), .unset] [(.ref a1)])) rfl rfl (hb hby d13_1) _ ?_
    rw [len_of S1 Nn1]
    show Sp p e below s₁ (mkF m 2 #[.val (.ref a1), .val (.ref a2), .unset] [(.int (sxN p4))]) _
    refine XS.aloadN X0.here hx rfl (hb hby d13_2) rfl rfl ?_
    show Sp p e below s₁ (mkF m 3 #[.val (.ref a1), .val (.ref a2), .unset] [(.ref a2), (.int (sxN p4))]) _
    refine X0.arraylength hx (by rw [e0]; exact Ar2.1) (State.isArrayOf_alike hZ.alike Ar2.2.1) (g := (mkF m 3 #[.val (.ref a1), .val (.ref a2), .unset] [(.ref a2), (.int (sxN p4))])) rfl rfl (hb hby d13_3) _ ?_
    rw [len_of S2 Nn2]
    show Sp p e below s₁ (mkF m 4 #[.val (.ref a1), .val (.ref a2), .unset] [(.int (sxN p6)), (.int (sxN p4))]) _
    refine XS.icmpYes X0.here hx rfl (pc0 := 4) (pc' := 34) rfl (hb hby d13_4) rfl (feq hc3).2 (by decide) (by decide) ?_
    refine XS.iconst X0.here hx rfl (hb hby d13_34) ?_
    show Sp p e below s₁ (mkF m 35 #[.val (.ref a1), .val (.ref a2), .unset] [(.int (0 : Int32))]) _
    exact retN X0 hx (t := .boolean) Bd.returns (by simp) (hb hby d13_35) hr
  · show Q51 Z v0 v1 v2 v3 v4 v5 v6 v7 v8 v9 cs_v a1 a2 k_a1 p4 k_a2 p6 h0 n0 _ s₁.heap _
    rw [e0]
    exact ⟨rfl, N0, rfl⟩
theorem d13_7 : decode jdk_43_method_13_code 7 = .ok (.iconst 0, 1) := by decide +kernel
theorem d13_8 : decode jdk_43_method_13_code 8 = .ok (.istore_n 2, 1) := by decide +kernel
theorem d13_9 : decode jdk_43_method_13_code 9 = .ok (.iload_n 2, 1) := by decide +kernel
theorem d13_10 : decode jdk_43_method_13_code 10 = .ok (.aload_n 0, 1) := by decide +kernel
theorem d13_11 : decode jdk_43_method_13_code 11 = .ok (.arraylength, 1) := by decide +kernel
theorem d13_12 : decode jdk_43_method_13_code 12 = .ok (.if_icmp .ge 20, 3) := by decide +kernel
theorem d13_32 : decode jdk_43_method_13_code 32 = .ok (.iconst 1, 1) := by decide +kernel
theorem d13_33 : decode jdk_43_method_13_code 33 = .ok (.ireturn, 1) := by decide +kernel
def Q52 (Z : State) (v0 : Addr) (v1 : Addr) (v2 : Addr) (v3 : Addr) (v4 : Addr) (v5 : Addr) (v6 : Addr) (v7 : Addr) (v8 : Addr) (v9 : Addr) (cs_v : Int32) (a1 : Addr) (a2 : Addr) (k_a1 : ClassId) (k_a2 : ClassId) (h0 : Heap) (n0 : Nat) (v : Option Value) (h : Heap) (L : List Loc) : Prop := v = some (.int (1 : Int32)) ∧ Fr n0 L ∧ h = h0
theorem rm52 (l : Launch) (Z : State) (a0 : Array Value) (hw : ∀ d ∈ tables_1, d.before a0 Z = true) (ws : List Jvm.Cond) (v0 v1 v2 v3 v4 v5 v6 v7 v8 v9 : Addr) (cs_v : Int32) (hp : Perm Z v0 v1 v2 v3 v4 v5 v6 v7 v8 v9 cs_v) (a1 : Addr) (a2 : Addr) (k_a1 : ClassId) (k_a2 : ClassId) (h0 : Heap) (n0 : Nat) (O0 : Old Z n0 h0) (V_a1 : Arv Z h0 a1 k_a1 .byte (0 : Int32) [] (.int (0 : Int32))) (V_a2 : Arv Z h0 a2 k_a2 .byte (0 : Int32) [] (.int (0 : Int32))) :
    MetFree l y14 (head1 (Jvm.Cond.code y14 jdk_43_method_13_code 3 (some .boolean) :: ws) ({ frames := 0, cells := 0, slots := 0, locals := 0 } : Room)) (fun a U => a = #[(.ref a1), (.ref a2)] ∧ Z.Warmed39 U.vm ∧ U.heap = h0) (fun _ _ _ _ _ => True) (fun _ U o U' => ∃ v L, o = .returned v ∧ Q52 Z v0 v1 v2 v3 v4 v5 v6 v7 v8 v9 cs_v a1 a2 k_a1 k_a2 h0 n0 v U'.heap L ∧ FrameEnd U o U' L ({ frames := 0, cells := 0, slots := 0, locals := 0 } : Room).cells ({ frames := 0, cells := 0, slots := 0, locals := 0 } : Room).slots) := by
  refine MetFree.of_bodySF (plainFor_of_name pn_13) hisR ?_
  intro p e s m args below meth c s₁ Bd hml0 hP hK
  obtain ⟨rfl, hZ, hh⟩ := hP
  have hx := Bd.exec
  have hby := Bd.bytes
  have hml : c.maxLocals = 3 := hml0
  have hown : s.vm.findClass "java/lang/StringLatin1" = some m.cls := findClass_of_methodNamed Bd.named
  have hnm := (name_of_methodNamed Bd.named Bd.method).1
  have X0 : Stand p l e ({ frames := 0, cells := 0, slots := 0, locals := 0 } : Room) s m #[(.ref a1), (.ref a2)] below meth c s₁ [] 0 0 := Stand.of_body Bd
  have e0 : s₁.heap = h0 := by rw [← hh, Bd.state]; rfl
  have N0 := Fr.nil n0
  obtain ⟨cl1, Ar1, -, S1, Nn1, -, -⟩ := id V_a1
  obtain ⟨cl2, Ar2, -, S2, Nn2, -, -⟩ := id V_a2
  obtain ⟨cl3, Ar3, -, S3, Nn3, -, -⟩ := id V_a1
  obtain ⟨fs, hr, hrun, hended, hW, hsame⟩ := X0.leave (v := some (.int (1 : Int32))) (fun h => by rw [Bd.returns] at h; cases h)
  refine ⟨_, _, castTop (ef_13_0 m a1 a2) ?_, hrun, hended, _, _, rfl, ?_, ⟨_, rfl⟩, hW, hsame.mono (by decide) (by decide)⟩
  · show Sp p e below s₁ (mkF m 0 #[.val (.ref a1), .val (.ref a2), .unset] []) _
    refine XS.aloadN X0.here hx rfl (hb hby d13_0) rfl rfl ?_
    show Sp p e below s₁ (mkF m 1 #[.val (.ref a1), .val (.ref a2), .unset] [(.ref a1)]) _
    refine X0.arraylength hx (by rw [e0]; exact Ar1.1) (State.isArrayOf_alike hZ.alike Ar1.2.1) (g := (mkF m 1 #[.val (.ref a1), .val (.ref a2), .unset] [(.ref a1)])) rfl rfl (hb hby d13_1) _ ?_
    rw [len_of S1 Nn1]
    show Sp p e below s₁ (mkF m 2 #[.val (.ref a1), .val (.ref a2), .unset] [(.int (0 : Int32))]) _
    refine XS.aloadN X0.here hx rfl (hb hby d13_2) rfl rfl ?_
    show Sp p e below s₁ (mkF m 3 #[.val (.ref a1), .val (.ref a2), .unset] [(.ref a2), (.int (0 : Int32))]) _
    refine X0.arraylength hx (by rw [e0]; exact Ar2.1) (State.isArrayOf_alike hZ.alike Ar2.2.1) (g := (mkF m 3 #[.val (.ref a1), .val (.ref a2), .unset] [(.ref a2), (.int (0 : Int32))])) rfl rfl (hb hby d13_3) _ ?_
    rw [len_of S2 Nn2]
    show Sp p e below s₁ (mkF m 4 #[.val (.ref a1), .val (.ref a2), .unset] [(.int (0 : Int32)), (.int (0 : Int32))]) _
    refine XS.icmpNo X0.here hx rfl (hb hby d13_4) rfl (teq (by decide : (0 : Int32) = (0 : Int32))).2 ?_
    refine XS.iconst X0.here hx rfl (hb hby d13_7) ?_
    refine XS.istoreN X0.here hx rfl (hb hby d13_8) rfl (l' := #[.val (.ref a1), .val (.ref a2), .val (.int (0 : Int32))]) rfl ?_
    refine XS.iloadN X0.here hx rfl (hb hby d13_9) rfl ?_
    refine XS.aloadN X0.here hx rfl (hb hby d13_10) rfl rfl ?_
    show Sp p e below s₁ (mkF m 11 #[.val (.ref a1), .val (.ref a2), .val (.int (0 : Int32))] [(.ref a1), (.int (0 : Int32))]) _
    refine X0.arraylength hx (by rw [e0]; exact Ar3.1) (State.isArrayOf_alike hZ.alike Ar3.2.1) (g := (mkF m 11 #[.val (.ref a1), .val (.ref a2), .val (.int (0 : Int32))] [(.ref a1), (.int (0 : Int32))])) rfl rfl (hb hby d13_11) _ ?_
    rw [len_of S3 Nn3]
    show Sp p e below s₁ (mkF m 12 #[.val (.ref a1), .val (.ref a2), .val (.int (0 : Int32))] [(.int (0 : Int32)), (.int (0 : Int32))]) _
    refine XS.icmpYes X0.here hx rfl (pc0 := 12) (pc' := 32) rfl (hb hby d13_12) rfl (flt (by decide : ¬ ((0 : Int32) < (0 : Int32)))).2.1 (by decide) (by decide) ?_
    refine XS.iconst X0.here hx rfl (hb hby d13_32) ?_
    show Sp p e below s₁ (mkF m 33 #[.val (.ref a1), .val (.ref a2), .val (.int (0 : Int32))] [(.int (1 : Int32))]) _
    exact retN X0 hx (t := .boolean) Bd.returns (by simp) (hb hby d13_33) hr
  · show Q52 Z v0 v1 v2 v3 v4 v5 v6 v7 v8 v9 cs_v a1 a2 k_a1 k_a2 h0 n0 _ s₁.heap _
    rw [e0]
    exact ⟨rfl, N0, rfl⟩
theorem d13_15 : decode jdk_43_method_13_code 15 = .ok (.aload_n 0, 1) := by decide +kernel
theorem d13_16 : decode jdk_43_method_13_code 16 = .ok (.iload_n 2, 1) := by decide +kernel
theorem d13_17 : decode jdk_43_method_13_code 17 = .ok (.baload, 1) := by decide +kernel
theorem d13_18 : decode jdk_43_method_13_code 18 = .ok (.aload_n 1, 1) := by decide +kernel
theorem d13_19 : decode jdk_43_method_13_code 19 = .ok (.iload_n 2, 1) := by decide +kernel
theorem d13_20 : decode jdk_43_method_13_code 20 = .ok (.baload, 1) := by decide +kernel
theorem d13_21 : decode jdk_43_method_13_code 21 = .ok (.if_icmp .eq 5, 3) := by decide +kernel
theorem d13_26 : decode jdk_43_method_13_code 26 = .ok (.iinc 2 1, 3) := by decide +kernel
theorem d13_29 : decode jdk_43_method_13_code 29 = .ok (.goto (-20), 3) := by decide +kernel
def Q53 (Z : State) (v0 : Addr) (v1 : Addr) (v2 : Addr) (v3 : Addr) (v4 : Addr) (v5 : Addr) (v6 : Addr) (v7 : Addr) (v8 : Addr) (v9 : Addr) (cs_v : Int32) (a1 : Addr) (a2 : Addr) (k_a1 : ClassId) (p4 : Int32) (k_a2 : ClassId) (p6 : Int32) (h0 : Heap) (n0 : Nat) (v : Option Value) (h : Heap) (L : List Loc) : Prop := v = some (.int (1 : Int32)) ∧ Fr n0 L ∧ h = h0
theorem rm53 (l : Launch) (Z : State) (a0 : Array Value) (hw : ∀ d ∈ tables_1, d.before a0 Z = true) (ws : List Jvm.Cond) (v0 v1 v2 v3 v4 v5 v6 v7 v8 v9 : Addr) (cs_v : Int32) (hp : Perm Z v0 v1 v2 v3 v4 v5 v6 v7 v8 v9 cs_v) (a1 : Addr) (a2 : Addr) (k_a1 : ClassId) (p4 : Int32) (k_a2 : ClassId) (p6 : Int32) (h0 : Heap) (n0 : Nat) (O0 : Old Z n0 h0) (V_a1 : Arv Z h0 a1 k_a1 .byte (1 : Int32) [(.int p4)] (.int (0 : Int32))) (V_a2 : Arv Z h0 a2 k_a2 .byte (1 : Int32) [(.int p6)] (.int (0 : Int32))) (hc3 : p4 = p6) :
    MetFree l y14 (head1 (Jvm.Cond.code y14 jdk_43_method_13_code 3 (some .boolean) :: ws) ({ frames := 0, cells := 0, slots := 0, locals := 0 } : Room)) (fun a U => a = #[(.ref a1), (.ref a2)] ∧ Z.Warmed39 U.vm ∧ U.heap = h0) (fun _ _ _ _ _ => True) (fun _ U o U' => ∃ v L, o = .returned v ∧ Q53 Z v0 v1 v2 v3 v4 v5 v6 v7 v8 v9 cs_v a1 a2 k_a1 p4 k_a2 p6 h0 n0 v U'.heap L ∧ FrameEnd U o U' L ({ frames := 0, cells := 0, slots := 0, locals := 0 } : Room).cells ({ frames := 0, cells := 0, slots := 0, locals := 0 } : Room).slots) := by
  refine MetFree.of_bodySF (plainFor_of_name pn_13) hisR ?_
  intro p e s m args below meth c s₁ Bd hml0 hP hK
  obtain ⟨rfl, hZ, hh⟩ := hP
  have hx := Bd.exec
  have hby := Bd.bytes
  have hml : c.maxLocals = 3 := hml0
  have hown : s.vm.findClass "java/lang/StringLatin1" = some m.cls := findClass_of_methodNamed Bd.named
  have hnm := (name_of_methodNamed Bd.named Bd.method).1
  have X0 : Stand p l e ({ frames := 0, cells := 0, slots := 0, locals := 0 } : Room) s m #[(.ref a1), (.ref a2)] below meth c s₁ [] 0 0 := Stand.of_body Bd
  have e0 : s₁.heap = h0 := by rw [← hh, Bd.state]; rfl
  have N0 := Fr.nil n0
  obtain ⟨cl1, Ar1, -, S1, Nn1, -, -⟩ := id V_a1
  obtain ⟨cl2, Ar2, -, S2, Nn2, -, -⟩ := id V_a2
  obtain ⟨cl3, Ar3, -, S3, Nn3, -, -⟩ := id V_a1
  obtain ⟨cl4, Ar4, -, S4, -, H4, -⟩ := id V_a1
  have hin4 : ¬ ((0 : Int32) < 0 ∨ cl4.slots.size ≤ ((0 : Int32)).toNatClampNeg) := inb_of S4 ⟨by decide, by decide⟩
  have hat4 : cl4.slots[((0 : Int32)).toNatClampNeg]? = some (.int p4) := H4.at hin4 rfl
  obtain ⟨cl5, Ar5, -, S5, -, H5, -⟩ := id V_a2
  have hin5 : ¬ ((0 : Int32) < 0 ∨ cl5.slots.size ≤ ((0 : Int32)).toNatClampNeg) := inb_of S5 ⟨by decide, by decide⟩
  have hat5 : cl5.slots[((0 : Int32)).toNatClampNeg]? = some (.int p6) := H5.at hin5 rfl
  obtain ⟨cl6, Ar6, -, S6, Nn6, -, -⟩ := id V_a1
  obtain ⟨fs, hr, hrun, hended, hW, hsame⟩ := X0.leave (v := some (.int (1 : Int32))) (fun h => by rw [Bd.returns] at h; cases h)
  refine ⟨_, _, castTop (ef_13_0 m a1 a2) ?_, hrun, hended, _, _, rfl, ?_, ⟨_, rfl⟩, hW, hsame.mono (by decide) (by decide)⟩
  · show Sp p e below s₁ (mkF m 0 #[.val (.ref a1), .val (.ref a2), .unset] []) _
    refine XS.aloadN X0.here hx rfl (hb hby d13_0) rfl rfl ?_
    show Sp p e below s₁ (mkF m 1 #[.val (.ref a1), .val (.ref a2), .unset] [(.ref a1)]) _
    refine X0.arraylength hx (by rw [e0]; exact Ar1.1) (State.isArrayOf_alike hZ.alike Ar1.2.1) (g := (mkF m 1 #[.val (.ref a1), .val (.ref a2), .unset] [(.ref a1)])) rfl rfl (hb hby d13_1) _ ?_
    rw [len_of S1 Nn1]
    show Sp p e below s₁ (mkF m 2 #[.val (.ref a1), .val (.ref a2), .unset] [(.int (1 : Int32))]) _
    refine XS.aloadN X0.here hx rfl (hb hby d13_2) rfl rfl ?_
    show Sp p e below s₁ (mkF m 3 #[.val (.ref a1), .val (.ref a2), .unset] [(.ref a2), (.int (1 : Int32))]) _
    refine X0.arraylength hx (by rw [e0]; exact Ar2.1) (State.isArrayOf_alike hZ.alike Ar2.2.1) (g := (mkF m 3 #[.val (.ref a1), .val (.ref a2), .unset] [(.ref a2), (.int (1 : Int32))])) rfl rfl (hb hby d13_3) _ ?_
    rw [len_of S2 Nn2]
    show Sp p e below s₁ (mkF m 4 #[.val (.ref a1), .val (.ref a2), .unset] [(.int (1 : Int32)), (.int (1 : Int32))]) _
    refine XS.icmpNo X0.here hx rfl (hb hby d13_4) rfl (teq (by decide : (1 : Int32) = (1 : Int32))).2 ?_
    refine XS.iconst X0.here hx rfl (hb hby d13_7) ?_
    refine XS.istoreN X0.here hx rfl (hb hby d13_8) rfl (l' := #[.val (.ref a1), .val (.ref a2), .val (.int (0 : Int32))]) rfl ?_
    refine XS.iloadN X0.here hx rfl (hb hby d13_9) rfl ?_
    refine XS.aloadN X0.here hx rfl (hb hby d13_10) rfl rfl ?_
    show Sp p e below s₁ (mkF m 11 #[.val (.ref a1), .val (.ref a2), .val (.int (0 : Int32))] [(.ref a1), (.int (0 : Int32))]) _
    refine X0.arraylength hx (by rw [e0]; exact Ar3.1) (State.isArrayOf_alike hZ.alike Ar3.2.1) (g := (mkF m 11 #[.val (.ref a1), .val (.ref a2), .val (.int (0 : Int32))] [(.ref a1), (.int (0 : Int32))])) rfl rfl (hb hby d13_11) _ ?_
    rw [len_of S3 Nn3]
    show Sp p e below s₁ (mkF m 12 #[.val (.ref a1), .val (.ref a2), .val (.int (0 : Int32))] [(.int (1 : Int32)), (.int (0 : Int32))]) _
    refine XS.icmpNo X0.here hx rfl (hb hby d13_12) rfl (tlt (by decide : (0 : Int32) < (1 : Int32))).2.1 ?_
    refine XS.aloadN X0.here hx rfl (hb hby d13_15) rfl rfl ?_
    refine XS.iloadN X0.here hx rfl (hb hby d13_16) rfl ?_
    show Sp p e below s₁ (mkF m 17 #[.val (.ref a1), .val (.ref a2), .val (.int (0 : Int32))] [(.int (0 : Int32)), (.ref a1)]) _
    refine X0.baloadBytes hx (j := (0 : Int32)) (v := (.int p4)) (by rw [e0]; exact Ar4.1) (State.isArrayOf_alike hZ.alike Ar4.2.1) Ar4.2.2 hin4 hat4 (g := (mkF m 17 #[.val (.ref a1), .val (.ref a2), .val (.int (0 : Int32))] [(.int (0 : Int32)), (.ref a1)])) rfl rfl (hb hby d13_17) _ ?_
    show Sp p e below s₁ (mkF m 18 #[.val (.ref a1), .val (.ref a2), .val (.int (0 : Int32))] [(.int p4)]) _
    refine XS.aloadN X0.here hx rfl (hb hby d13_18) rfl rfl ?_
    refine XS.iloadN X0.here hx rfl (hb hby d13_19) rfl ?_
    show Sp p e below s₁ (mkF m 20 #[.val (.ref a1), .val (.ref a2), .val (.int (0 : Int32))] [(.int (0 : Int32)), (.ref a2), (.int p4)]) _
    refine X0.baloadBytes hx (j := (0 : Int32)) (v := (.int p6)) (by rw [e0]; exact Ar5.1) (State.isArrayOf_alike hZ.alike Ar5.2.1) Ar5.2.2 hin5 hat5 (g := (mkF m 20 #[.val (.ref a1), .val (.ref a2), .val (.int (0 : Int32))] [(.int (0 : Int32)), (.ref a2), (.int p4)])) rfl rfl (hb hby d13_20) _ ?_
    show Sp p e below s₁ (mkF m 21 #[.val (.ref a1), .val (.ref a2), .val (.int (0 : Int32))] [(.int p6), (.int p4)]) _
    refine XS.icmpYes X0.here hx rfl (pc0 := 21) (pc' := 26) rfl (hb hby d13_21) rfl (teq hc3).1 (by decide) (by decide) ?_
    show Sp p e below s₁ (mkF m 26 #[.val (.ref a1), .val (.ref a2), .val (.int (0 : Int32))] []) _
    refine XS.iinc X0.here hx rfl (hb hby d13_26) rfl (l' := #[.val (.ref a1), .val (.ref a2), .val (.int (fx10 ))]) rfl ?_
    refine XS.goto X0.here hx rfl (pc0 := 29) (pc' := 9) rfl (hb hby d13_29) (by decide) (by decide) ?_
    refine XS.iloadN X0.here hx rfl (hb hby d13_9) rfl ?_
    refine XS.aloadN X0.here hx rfl (hb hby d13_10) rfl rfl ?_
    show Sp p e below s₁ (mkF m 11 #[.val (.ref a1), .val (.ref a2), .val (.int (fx10 ))] [(.ref a1), (.int (fx10 ))]) _
    refine X0.arraylength hx (by rw [e0]; exact Ar6.1) (State.isArrayOf_alike hZ.alike Ar6.2.1) (g := (mkF m 11 #[.val (.ref a1), .val (.ref a2), .val (.int (fx10 ))] [(.ref a1), (.int (fx10 ))])) rfl rfl (hb hby d13_11) _ ?_
    rw [len_of S6 Nn6]
    show Sp p e below s₁ (mkF m 12 #[.val (.ref a1), .val (.ref a2), .val (.int (fx10 ))] [(.int (1 : Int32)), (.int (fx10 ))]) _
    refine XS.icmpYes X0.here hx rfl (pc0 := 12) (pc' := 32) rfl (hb hby d13_12) rfl (flt (by decide : ¬ (((0 : Int32) + (1 : Int32)) < (1 : Int32)))).2.1 (by decide) (by decide) ?_
    refine XS.iconst X0.here hx rfl (hb hby d13_32) ?_
    show Sp p e below s₁ (mkF m 33 #[.val (.ref a1), .val (.ref a2), .val (.int (fx10 ))] [(.int (1 : Int32))]) _
    exact retN X0 hx (t := .boolean) Bd.returns (by simp) (hb hby d13_33) hr
  · show Q53 Z v0 v1 v2 v3 v4 v5 v6 v7 v8 v9 cs_v a1 a2 k_a1 p4 k_a2 p6 h0 n0 _ s₁.heap _
    rw [e0]
    exact ⟨rfl, N0, rfl⟩
theorem d13_24 : decode jdk_43_method_13_code 24 = .ok (.iconst 0, 1) := by decide +kernel
theorem d13_25 : decode jdk_43_method_13_code 25 = .ok (.ireturn, 1) := by decide +kernel
def Q54 (Z : State) (v0 : Addr) (v1 : Addr) (v2 : Addr) (v3 : Addr) (v4 : Addr) (v5 : Addr) (v6 : Addr) (v7 : Addr) (v8 : Addr) (v9 : Addr) (cs_v : Int32) (a1 : Addr) (a2 : Addr) (k_a1 : ClassId) (p4 : Int32) (k_a2 : ClassId) (p6 : Int32) (h0 : Heap) (n0 : Nat) (v : Option Value) (h : Heap) (L : List Loc) : Prop := v = some (.int (0 : Int32)) ∧ Fr n0 L ∧ h = h0
theorem rm54 (l : Launch) (Z : State) (a0 : Array Value) (hw : ∀ d ∈ tables_1, d.before a0 Z = true) (ws : List Jvm.Cond) (v0 v1 v2 v3 v4 v5 v6 v7 v8 v9 : Addr) (cs_v : Int32) (hp : Perm Z v0 v1 v2 v3 v4 v5 v6 v7 v8 v9 cs_v) (a1 : Addr) (a2 : Addr) (k_a1 : ClassId) (p4 : Int32) (k_a2 : ClassId) (p6 : Int32) (h0 : Heap) (n0 : Nat) (O0 : Old Z n0 h0) (V_a1 : Arv Z h0 a1 k_a1 .byte (1 : Int32) [(.int p4)] (.int (0 : Int32))) (V_a2 : Arv Z h0 a2 k_a2 .byte (1 : Int32) [(.int p6)] (.int (0 : Int32))) (hc3 : ¬ (p4 = p6)) :
    MetFree l y14 (head1 (Jvm.Cond.code y14 jdk_43_method_13_code 3 (some .boolean) :: ws) ({ frames := 0, cells := 0, slots := 0, locals := 0 } : Room)) (fun a U => a = #[(.ref a1), (.ref a2)] ∧ Z.Warmed39 U.vm ∧ U.heap = h0) (fun _ _ _ _ _ => True) (fun _ U o U' => ∃ v L, o = .returned v ∧ Q54 Z v0 v1 v2 v3 v4 v5 v6 v7 v8 v9 cs_v a1 a2 k_a1 p4 k_a2 p6 h0 n0 v U'.heap L ∧ FrameEnd U o U' L ({ frames := 0, cells := 0, slots := 0, locals := 0 } : Room).cells ({ frames := 0, cells := 0, slots := 0, locals := 0 } : Room).slots) := by
  refine MetFree.of_bodySF (plainFor_of_name pn_13) hisR ?_
  intro p e s m args below meth c s₁ Bd hml0 hP hK
  obtain ⟨rfl, hZ, hh⟩ := hP
  have hx := Bd.exec
  have hby := Bd.bytes
  have hml : c.maxLocals = 3 := hml0
  have hown : s.vm.findClass "java/lang/StringLatin1" = some m.cls := findClass_of_methodNamed Bd.named
  have hnm := (name_of_methodNamed Bd.named Bd.method).1
  have X0 : Stand p l e ({ frames := 0, cells := 0, slots := 0, locals := 0 } : Room) s m #[(.ref a1), (.ref a2)] below meth c s₁ [] 0 0 := Stand.of_body Bd
  have e0 : s₁.heap = h0 := by rw [← hh, Bd.state]; rfl
  have N0 := Fr.nil n0
  obtain ⟨cl1, Ar1, -, S1, Nn1, -, -⟩ := id V_a1
  obtain ⟨cl2, Ar2, -, S2, Nn2, -, -⟩ := id V_a2
  obtain ⟨cl3, Ar3, -, S3, Nn3, -, -⟩ := id V_a1
  obtain ⟨cl4, Ar4, -, S4, -, H4, -⟩ := id V_a1
  have hin4 : ¬ ((0 : Int32) < 0 ∨ cl4.slots.size ≤ ((0 : Int32)).toNatClampNeg) := inb_of S4 ⟨by decide, by decide⟩
  have hat4 : cl4.slots[((0 : Int32)).toNatClampNeg]? = some (.int p4) := H4.at hin4 rfl
  obtain ⟨cl5, Ar5, -, S5, -, H5, -⟩ := id V_a2
  have hin5 : ¬ ((0 : Int32) < 0 ∨ cl5.slots.size ≤ ((0 : Int32)).toNatClampNeg) := inb_of S5 ⟨by decide, by decide⟩
  have hat5 : cl5.slots[((0 : Int32)).toNatClampNeg]? = some (.int p6) := H5.at hin5 rfl
  obtain ⟨fs, hr, hrun, hended, hW, hsame⟩ := X0.leave (v := some (.int (0 : Int32))) (fun h => by rw [Bd.returns] at h; cases h)
  refine ⟨_, _, castTop (ef_13_0 m a1 a2) ?_, hrun, hended, _, _, rfl, ?_, ⟨_, rfl⟩, hW, hsame.mono (by decide) (by decide)⟩
  · show Sp p e below s₁ (mkF m 0 #[.val (.ref a1), .val (.ref a2), .unset] []) _
    refine XS.aloadN X0.here hx rfl (hb hby d13_0) rfl rfl ?_
    show Sp p e below s₁ (mkF m 1 #[.val (.ref a1), .val (.ref a2), .unset] [(.ref a1)]) _
    refine X0.arraylength hx (by rw [e0]; exact Ar1.1) (State.isArrayOf_alike hZ.alike Ar1.2.1) (g := (mkF m 1 #[.val (.ref a1), .val (.ref a2), .unset] [(.ref a1)])) rfl rfl (hb hby d13_1) _ ?_
    rw [len_of S1 Nn1]
    show Sp p e below s₁ (mkF m 2 #[.val (.ref a1), .val (.ref a2), .unset] [(.int (1 : Int32))]) _
    refine XS.aloadN X0.here hx rfl (hb hby d13_2) rfl rfl ?_
    show Sp p e below s₁ (mkF m 3 #[.val (.ref a1), .val (.ref a2), .unset] [(.ref a2), (.int (1 : Int32))]) _
    refine X0.arraylength hx (by rw [e0]; exact Ar2.1) (State.isArrayOf_alike hZ.alike Ar2.2.1) (g := (mkF m 3 #[.val (.ref a1), .val (.ref a2), .unset] [(.ref a2), (.int (1 : Int32))])) rfl rfl (hb hby d13_3) _ ?_
    rw [len_of S2 Nn2]
    show Sp p e below s₁ (mkF m 4 #[.val (.ref a1), .val (.ref a2), .unset] [(.int (1 : Int32)), (.int (1 : Int32))]) _
    refine XS.icmpNo X0.here hx rfl (hb hby d13_4) rfl (teq (by decide : (1 : Int32) = (1 : Int32))).2 ?_
    refine XS.iconst X0.here hx rfl (hb hby d13_7) ?_
    refine XS.istoreN X0.here hx rfl (hb hby d13_8) rfl (l' := #[.val (.ref a1), .val (.ref a2), .val (.int (0 : Int32))]) rfl ?_
    refine XS.iloadN X0.here hx rfl (hb hby d13_9) rfl ?_
    refine XS.aloadN X0.here hx rfl (hb hby d13_10) rfl rfl ?_
    show Sp p e below s₁ (mkF m 11 #[.val (.ref a1), .val (.ref a2), .val (.int (0 : Int32))] [(.ref a1), (.int (0 : Int32))]) _
    refine X0.arraylength hx (by rw [e0]; exact Ar3.1) (State.isArrayOf_alike hZ.alike Ar3.2.1) (g := (mkF m 11 #[.val (.ref a1), .val (.ref a2), .val (.int (0 : Int32))] [(.ref a1), (.int (0 : Int32))])) rfl rfl (hb hby d13_11) _ ?_
    rw [len_of S3 Nn3]
    show Sp p e below s₁ (mkF m 12 #[.val (.ref a1), .val (.ref a2), .val (.int (0 : Int32))] [(.int (1 : Int32)), (.int (0 : Int32))]) _
    refine XS.icmpNo X0.here hx rfl (hb hby d13_12) rfl (tlt (by decide : (0 : Int32) < (1 : Int32))).2.1 ?_
    refine XS.aloadN X0.here hx rfl (hb hby d13_15) rfl rfl ?_
    refine XS.iloadN X0.here hx rfl (hb hby d13_16) rfl ?_
    show Sp p e below s₁ (mkF m 17 #[.val (.ref a1), .val (.ref a2), .val (.int (0 : Int32))] [(.int (0 : Int32)), (.ref a1)]) _
    refine X0.baloadBytes hx (j := (0 : Int32)) (v := (.int p4)) (by rw [e0]; exact Ar4.1) (State.isArrayOf_alike hZ.alike Ar4.2.1) Ar4.2.2 hin4 hat4 (g := (mkF m 17 #[.val (.ref a1), .val (.ref a2), .val (.int (0 : Int32))] [(.int (0 : Int32)), (.ref a1)])) rfl rfl (hb hby d13_17) _ ?_
    show Sp p e below s₁ (mkF m 18 #[.val (.ref a1), .val (.ref a2), .val (.int (0 : Int32))] [(.int p4)]) _
    refine XS.aloadN X0.here hx rfl (hb hby d13_18) rfl rfl ?_
    refine XS.iloadN X0.here hx rfl (hb hby d13_19) rfl ?_
    show Sp p e below s₁ (mkF m 20 #[.val (.ref a1), .val (.ref a2), .val (.int (0 : Int32))] [(.int (0 : Int32)), (.ref a2), (.int p4)]) _
    refine X0.baloadBytes hx (j := (0 : Int32)) (v := (.int p6)) (by rw [e0]; exact Ar5.1) (State.isArrayOf_alike hZ.alike Ar5.2.1) Ar5.2.2 hin5 hat5 (g := (mkF m 20 #[.val (.ref a1), .val (.ref a2), .val (.int (0 : Int32))] [(.int (0 : Int32)), (.ref a2), (.int p4)])) rfl rfl (hb hby d13_20) _ ?_
    show Sp p e below s₁ (mkF m 21 #[.val (.ref a1), .val (.ref a2), .val (.int (0 : Int32))] [(.int p6), (.int p4)]) _
    refine XS.icmpNo X0.here hx rfl (hb hby d13_21) rfl (feq hc3).1 ?_
    refine XS.iconst X0.here hx rfl (hb hby d13_24) ?_
    show Sp p e below s₁ (mkF m 25 #[.val (.ref a1), .val (.ref a2), .val (.int (0 : Int32))] [(.int (0 : Int32))]) _
    exact retN X0 hx (t := .boolean) Bd.returns (by simp) (hb hby d13_25) hr
  · show Q54 Z v0 v1 v2 v3 v4 v5 v6 v7 v8 v9 cs_v a1 a2 k_a1 p4 k_a2 p6 h0 n0 _ s₁.heap _
    rw [e0]
    exact ⟨rfl, N0, rfl⟩
def Q55 (Z : State) (v0 : Addr) (v1 : Addr) (v2 : Addr) (v3 : Addr) (v4 : Addr) (v5 : Addr) (v6 : Addr) (v7 : Addr) (v8 : Addr) (v9 : Addr) (cs_v : Int32) (a1 : Addr) (a2 : Addr) (k_a1 : ClassId) (p4 : Int32) (p5 : Int32) (k_a2 : ClassId) (p7 : Int32) (p8 : Int32) (h0 : Heap) (n0 : Nat) (v : Option Value) (h : Heap) (L : List Loc) : Prop := v = some (.int (1 : Int32)) ∧ Fr n0 L ∧ h = h0
theorem rm55 (l : Launch) (Z : State) (a0 : Array Value) (hw : ∀ d ∈ tables_1, d.before a0 Z = true) (ws : List Jvm.Cond) (v0 v1 v2 v3 v4 v5 v6 v7 v8 v9 : Addr) (cs_v : Int32) (hp : Perm Z v0 v1 v2 v3 v4 v5 v6 v7 v8 v9 cs_v) (a1 : Addr) (a2 : Addr) (k_a1 : ClassId) (p4 : Int32) (p5 : Int32) (k_a2 : ClassId) (p7 : Int32) (p8 : Int32) (h0 : Heap) (n0 : Nat) (O0 : Old Z n0 h0) (V_a1 : Arv Z h0 a1 k_a1 .byte (2 : Int32) [(.int p4), (.int p5)] (.int (0 : Int32))) (V_a2 : Arv Z h0 a2 k_a2 .byte (2 : Int32) [(.int p7), (.int p8)] (.int (0 : Int32))) (hc3 : p4 = p7) (hc4 : p5 = p8) :
    MetFree l y14 (head1 (Jvm.Cond.code y14 jdk_43_method_13_code 3 (some .boolean) :: ws) ({ frames := 0, cells := 0, slots := 0, locals := 0 } : Room)) (fun a U => a = #[(.ref a1), (.ref a2)] ∧ Z.Warmed39 U.vm ∧ U.heap = h0) (fun _ _ _ _ _ => True) (fun _ U o U' => ∃ v L, o = .returned v ∧ Q55 Z v0 v1 v2 v3 v4 v5 v6 v7 v8 v9 cs_v a1 a2 k_a1 p4 p5 k_a2 p7 p8 h0 n0 v U'.heap L ∧ FrameEnd U o U' L ({ frames := 0, cells := 0, slots := 0, locals := 0 } : Room).cells ({ frames := 0, cells := 0, slots := 0, locals := 0 } : Room).slots) := by
  refine MetFree.of_bodySF (plainFor_of_name pn_13) hisR ?_
  intro p e s m args below meth c s₁ Bd hml0 hP hK
  obtain ⟨rfl, hZ, hh⟩ := hP
  have hx := Bd.exec
  have hby := Bd.bytes
  have hml : c.maxLocals = 3 := hml0
  have hown : s.vm.findClass "java/lang/StringLatin1" = some m.cls := findClass_of_methodNamed Bd.named
  have hnm := (name_of_methodNamed Bd.named Bd.method).1
  have X0 : Stand p l e ({ frames := 0, cells := 0, slots := 0, locals := 0 } : Room) s m #[(.ref a1), (.ref a2)] below meth c s₁ [] 0 0 := Stand.of_body Bd
  have e0 : s₁.heap = h0 := by rw [← hh, Bd.state]; rfl
  have N0 := Fr.nil n0
  obtain ⟨cl1, Ar1, -, S1, Nn1, -, -⟩ := id V_a1
  obtain ⟨cl2, Ar2, -, S2, Nn2, -, -⟩ := id V_a2
  obtain ⟨cl3, Ar3, -, S3, Nn3, -, -⟩ := id V_a1
  obtain ⟨cl4, Ar4, -, S4, -, H4, -⟩ := id V_a1
  have hin4 : ¬ ((0 : Int32) < 0 ∨ cl4.slots.size ≤ ((0 : Int32)).toNatClampNeg) := inb_of S4 ⟨by decide, by decide⟩
  have hat4 : cl4.slots[((0 : Int32)).toNatClampNeg]? = some (.int p4) := H4.at hin4 rfl
  obtain ⟨cl5, Ar5, -, S5, -, H5, -⟩ := id V_a2
  have hin5 : ¬ ((0 : Int32) < 0 ∨ cl5.slots.size ≤ ((0 : Int32)).toNatClampNeg) := inb_of S5 ⟨by decide, by decide⟩
  have hat5 : cl5.slots[((0 : Int32)).toNatClampNeg]? = some (.int p7) := H5.at hin5 rfl
  obtain ⟨cl6, Ar6, -, S6, Nn6, -, -⟩ := id V_a1
  obtain ⟨cl7, Ar7, -, S7, -, H7, -⟩ := id V_a1
  have hin7 : ¬ (((0 : Int32) + (1 : Int32)) < 0 ∨ cl7.slots.size ≤ (((0 : Int32) + (1 : Int32))).toNatClampNeg) := inb_of S7 ⟨by decide, by decide⟩
  have hat7 : cl7.slots[(((0 : Int32) + (1 : Int32))).toNatClampNeg]? = some (.int p5) := H7.at hin7 rfl
  obtain ⟨cl8, Ar8, -, S8, -, H8, -⟩ := id V_a2
  have hin8 : ¬ (((0 : Int32) + (1 : Int32)) < 0 ∨ cl8.slots.size ≤ (((0 : Int32) + (1 : Int32))).toNatClampNeg) := inb_of S8 ⟨by decide, by decide⟩
  have hat8 : cl8.slots[(((0 : Int32) + (1 : Int32))).toNatClampNeg]? = some (.int p8) := H8.at hin8 rfl
  obtain ⟨cl9, Ar9, -, S9, Nn9, -, -⟩ := id V_a1
  obtain ⟨fs, hr, hrun, hended, hW, hsame⟩ := X0.leave (v := some (.int (1 : Int32))) (fun h => by rw [Bd.returns] at h; cases h)
  refine ⟨_, _, castTop (ef_13_0 m a1 a2) ?_, hrun, hended, _, _, rfl, ?_, ⟨_, rfl⟩, hW, hsame.mono (by decide) (by decide)⟩
  · show Sp p e below s₁ (mkF m 0 #[.val (.ref a1), .val (.ref a2), .unset] []) _
    refine XS.aloadN X0.here hx rfl (hb hby d13_0) rfl rfl ?_
    show Sp p e below s₁ (mkF m 1 #[.val (.ref a1), .val (.ref a2), .unset] [(.ref a1)]) _
    refine X0.arraylength hx (by rw [e0]; exact Ar1.1) (State.isArrayOf_alike hZ.alike Ar1.2.1) (g := (mkF m 1 #[.val (.ref a1), .val (.ref a2), .unset] [(.ref a1)])) rfl rfl (hb hby d13_1) _ ?_
    rw [len_of S1 Nn1]
    show Sp p e below s₁ (mkF m 2 #[.val (.ref a1), .val (.ref a2), .unset] [(.int (2 : Int32))]) _
    refine XS.aloadN X0.here hx rfl (hb hby d13_2) rfl rfl ?_
    show Sp p e below s₁ (mkF m 3 #[.val (.ref a1), .val (.ref a2), .unset] [(.ref a2), (.int (2 : Int32))]) _
    refine X0.arraylength hx (by rw [e0]; exact Ar2.1) (State.isArrayOf_alike hZ.alike Ar2.2.1) (g := (mkF m 3 #[.val (.ref a1), .val (.ref a2), .unset] [(.ref a2), (.int (2 : Int32))])) rfl rfl (hb hby d13_3) _ ?_
    rw [len_of S2 Nn2]
    show Sp p e below s₁ (mkF m 4 #[.val (.ref a1), .val (.ref a2), .unset] [(.int (2 : Int32)), (.int (2 : Int32))]) _
    refine XS.icmpNo X0.here hx rfl (hb hby d13_4) rfl (teq (by decide : (2 : Int32) = (2 : Int32))).2 ?_
    refine XS.iconst X0.here hx rfl (hb hby d13_7) ?_
    refine XS.istoreN X0.here hx rfl (hb hby d13_8) rfl (l' := #[.val (.ref a1), .val (.ref a2), .val (.int (0 : Int32))]) rfl ?_
    refine XS.iloadN X0.here hx rfl (hb hby d13_9) rfl ?_
    refine XS.aloadN X0.here hx rfl (hb hby d13_10) rfl rfl ?_
    show Sp p e below s₁ (mkF m 11 #[.val (.ref a1), .val (.ref a2), .val (.int (0 : Int32))] [(.ref a1), (.int (0 : Int32))]) _
    refine X0.arraylength hx (by rw [e0]; exact Ar3.1) (State.isArrayOf_alike hZ.alike Ar3.2.1) (g := (mkF m 11 #[.val (.ref a1), .val (.ref a2), .val (.int (0 : Int32))] [(.ref a1), (.int (0 : Int32))])) rfl rfl (hb hby d13_11) _ ?_
    rw [len_of S3 Nn3]
    show Sp p e below s₁ (mkF m 12 #[.val (.ref a1), .val (.ref a2), .val (.int (0 : Int32))] [(.int (2 : Int32)), (.int (0 : Int32))]) _
    refine XS.icmpNo X0.here hx rfl (hb hby d13_12) rfl (tlt (by decide : (0 : Int32) < (2 : Int32))).2.1 ?_
    refine XS.aloadN X0.here hx rfl (hb hby d13_15) rfl rfl ?_
    refine XS.iloadN X0.here hx rfl (hb hby d13_16) rfl ?_
    show Sp p e below s₁ (mkF m 17 #[.val (.ref a1), .val (.ref a2), .val (.int (0 : Int32))] [(.int (0 : Int32)), (.ref a1)]) _
    refine X0.baloadBytes hx (j := (0 : Int32)) (v := (.int p4)) (by rw [e0]; exact Ar4.1) (State.isArrayOf_alike hZ.alike Ar4.2.1) Ar4.2.2 hin4 hat4 (g := (mkF m 17 #[.val (.ref a1), .val (.ref a2), .val (.int (0 : Int32))] [(.int (0 : Int32)), (.ref a1)])) rfl rfl (hb hby d13_17) _ ?_
    show Sp p e below s₁ (mkF m 18 #[.val (.ref a1), .val (.ref a2), .val (.int (0 : Int32))] [(.int p4)]) _
    refine XS.aloadN X0.here hx rfl (hb hby d13_18) rfl rfl ?_
    refine XS.iloadN X0.here hx rfl (hb hby d13_19) rfl ?_
    show Sp p e below s₁ (mkF m 20 #[.val (.ref a1), .val (.ref a2), .val (.int (0 : Int32))] [(.int (0 : Int32)), (.ref a2), (.int p4)]) _
    refine X0.baloadBytes hx (j := (0 : Int32)) (v := (.int p7)) (by rw [e0]; exact Ar5.1) (State.isArrayOf_alike hZ.alike Ar5.2.1) Ar5.2.2 hin5 hat5 (g := (mkF m 20 #[.val (.ref a1), .val (.ref a2), .val (.int (0 : Int32))] [(.int (0 : Int32)), (.ref a2), (.int p4)])) rfl rfl (hb hby d13_20) _ ?_
    show Sp p e below s₁ (mkF m 21 #[.val (.ref a1), .val (.ref a2), .val (.int (0 : Int32))] [(.int p7), (.int p4)]) _
    refine XS.icmpYes X0.here hx rfl (pc0 := 21) (pc' := 26) rfl (hb hby d13_21) rfl (teq hc3).1 (by decide) (by decide) ?_
    show Sp p e below s₁ (mkF m 26 #[.val (.ref a1), .val (.ref a2), .val (.int (0 : Int32))] []) _
    refine XS.iinc X0.here hx rfl (hb hby d13_26) rfl (l' := #[.val (.ref a1), .val (.ref a2), .val (.int (fx10 ))]) rfl ?_
    refine XS.goto X0.here hx rfl (pc0 := 29) (pc' := 9) rfl (hb hby d13_29) (by decide) (by decide) ?_
    refine XS.iloadN X0.here hx rfl (hb hby d13_9) rfl ?_
    refine XS.aloadN X0.here hx rfl (hb hby d13_10) rfl rfl ?_
    show Sp p e below s₁ (mkF m 11 #[.val (.ref a1), .val (.ref a2), .val (.int (fx10 ))] [(.ref a1), (.int (fx10 ))]) _
    refine X0.arraylength hx (by rw [e0]; exact Ar6.1) (State.isArrayOf_alike hZ.alike Ar6.2.1) (g := (mkF m 11 #[.val (.ref a1), .val (.ref a2), .val (.int (fx10 ))] [(.ref a1), (.int (fx10 ))])) rfl rfl (hb hby d13_11) _ ?_
    rw [len_of S6 Nn6]
    show Sp p e below s₁ (mkF m 12 #[.val (.ref a1), .val (.ref a2), .val (.int (fx10 ))] [(.int (2 : Int32)), (.int (fx10 ))]) _
    refine XS.icmpNo X0.here hx rfl (hb hby d13_12) rfl (tlt (by decide : ((0 : Int32) + (1 : Int32)) < (2 : Int32))).2.1 ?_
    refine XS.aloadN X0.here hx rfl (hb hby d13_15) rfl rfl ?_
    refine XS.iloadN X0.here hx rfl (hb hby d13_16) rfl ?_
    show Sp p e below s₁ (mkF m 17 #[.val (.ref a1), .val (.ref a2), .val (.int (fx10 ))] [(.int (fx10 )), (.ref a1)]) _
    refine X0.baloadBytes hx (j := ((0 : Int32) + (1 : Int32))) (v := (.int p5)) (by rw [e0]; exact Ar7.1) (State.isArrayOf_alike hZ.alike Ar7.2.1) Ar7.2.2 hin7 hat7 (g := (mkF m 17 #[.val (.ref a1), .val (.ref a2), .val (.int (fx10 ))] [(.int (fx10 )), (.ref a1)])) rfl rfl (hb hby d13_17) _ ?_
    show Sp p e below s₁ (mkF m 18 #[.val (.ref a1), .val (.ref a2), .val (.int (fx10 ))] [(.int p5)]) _
    refine XS.aloadN X0.here hx rfl (hb hby d13_18) rfl rfl ?_
    refine XS.iloadN X0.here hx rfl (hb hby d13_19) rfl ?_
    show Sp p e below s₁ (mkF m 20 #[.val (.ref a1), .val (.ref a2), .val (.int (fx10 ))] [(.int (fx10 )), (.ref a2), (.int p5)]) _
    refine X0.baloadBytes hx (j := ((0 : Int32) + (1 : Int32))) (v := (.int p8)) (by rw [e0]; exact Ar8.1) (State.isArrayOf_alike hZ.alike Ar8.2.1) Ar8.2.2 hin8 hat8 (g := (mkF m 20 #[.val (.ref a1), .val (.ref a2), .val (.int (fx10 ))] [(.int (fx10 )), (.ref a2), (.int p5)])) rfl rfl (hb hby d13_20) _ ?_
    show Sp p e below s₁ (mkF m 21 #[.val (.ref a1), .val (.ref a2), .val (.int (fx10 ))] [(.int p8), (.int p5)]) _
    refine XS.icmpYes X0.here hx rfl (pc0 := 21) (pc' := 26) rfl (hb hby d13_21) rfl (teq hc4).1 (by decide) (by decide) ?_
    show Sp p e below s₁ (mkF m 26 #[.val (.ref a1), .val (.ref a2), .val (.int (fx10 ))] []) _
    refine XS.iinc X0.here hx rfl (hb hby d13_26) rfl (l' := #[.val (.ref a1), .val (.ref a2), .val (.int (fx12 ))]) rfl ?_
    refine XS.goto X0.here hx rfl (pc0 := 29) (pc' := 9) rfl (hb hby d13_29) (by decide) (by decide) ?_
    refine XS.iloadN X0.here hx rfl (hb hby d13_9) rfl ?_
    refine XS.aloadN X0.here hx rfl (hb hby d13_10) rfl rfl ?_
    show Sp p e below s₁ (mkF m 11 #[.val (.ref a1), .val (.ref a2), .val (.int (fx12 ))] [(.ref a1), (.int (fx12 ))]) _
    refine X0.arraylength hx (by rw [e0]; exact Ar9.1) (State.isArrayOf_alike hZ.alike Ar9.2.1) (g := (mkF m 11 #[.val (.ref a1), .val (.ref a2), .val (.int (fx12 ))] [(.ref a1), (.int (fx12 ))])) rfl rfl (hb hby d13_11) _ ?_
    rw [len_of S9 Nn9]
    show Sp p e below s₁ (mkF m 12 #[.val (.ref a1), .val (.ref a2), .val (.int (fx12 ))] [(.int (2 : Int32)), (.int (fx12 ))]) _
    refine XS.icmpYes X0.here hx rfl (pc0 := 12) (pc' := 32) rfl (hb hby d13_12) rfl (flt (by decide : ¬ ((((0 : Int32) + (1 : Int32)) + (1 : Int32)) < (2 : Int32)))).2.1 (by decide) (by decide) ?_
    refine XS.iconst X0.here hx rfl (hb hby d13_32) ?_
    show Sp p e below s₁ (mkF m 33 #[.val (.ref a1), .val (.ref a2), .val (.int (fx12 ))] [(.int (1 : Int32))]) _
    exact retN X0 hx (t := .boolean) Bd.returns (by simp) (hb hby d13_33) hr
  · show Q55 Z v0 v1 v2 v3 v4 v5 v6 v7 v8 v9 cs_v a1 a2 k_a1 p4 p5 k_a2 p7 p8 h0 n0 _ s₁.heap _
    rw [e0]
    exact ⟨rfl, N0, rfl⟩
def Q56 (Z : State) (v0 : Addr) (v1 : Addr) (v2 : Addr) (v3 : Addr) (v4 : Addr) (v5 : Addr) (v6 : Addr) (v7 : Addr) (v8 : Addr) (v9 : Addr) (cs_v : Int32) (a1 : Addr) (a2 : Addr) (k_a1 : ClassId) (p4 : Int32) (p5 : Int32) (k_a2 : ClassId) (p7 : Int32) (p8 : Int32) (h0 : Heap) (n0 : Nat) (v : Option Value) (h : Heap) (L : List Loc) : Prop := v = some (.int (0 : Int32)) ∧ Fr n0 L ∧ h = h0
theorem rm56 (l : Launch) (Z : State) (a0 : Array Value) (hw : ∀ d ∈ tables_1, d.before a0 Z = true) (ws : List Jvm.Cond) (v0 v1 v2 v3 v4 v5 v6 v7 v8 v9 : Addr) (cs_v : Int32) (hp : Perm Z v0 v1 v2 v3 v4 v5 v6 v7 v8 v9 cs_v) (a1 : Addr) (a2 : Addr) (k_a1 : ClassId) (p4 : Int32) (p5 : Int32) (k_a2 : ClassId) (p7 : Int32) (p8 : Int32) (h0 : Heap) (n0 : Nat) (O0 : Old Z n0 h0) (V_a1 : Arv Z h0 a1 k_a1 .byte (2 : Int32) [(.int p4), (.int p5)] (.int (0 : Int32))) (V_a2 : Arv Z h0 a2 k_a2 .byte (2 : Int32) [(.int p7), (.int p8)] (.int (0 : Int32))) (hc3 : ¬ (p4 = p7)) :
    MetFree l y14 (head1 (Jvm.Cond.code y14 jdk_43_method_13_code 3 (some .boolean) :: ws) ({ frames := 0, cells := 0, slots := 0, locals := 0 } : Room)) (fun a U => a = #[(.ref a1), (.ref a2)] ∧ Z.Warmed39 U.vm ∧ U.heap = h0) (fun _ _ _ _ _ => True) (fun _ U o U' => ∃ v L, o = .returned v ∧ Q56 Z v0 v1 v2 v3 v4 v5 v6 v7 v8 v9 cs_v a1 a2 k_a1 p4 p5 k_a2 p7 p8 h0 n0 v U'.heap L ∧ FrameEnd U o U' L ({ frames := 0, cells := 0, slots := 0, locals := 0 } : Room).cells ({ frames := 0, cells := 0, slots := 0, locals := 0 } : Room).slots) := by
  refine MetFree.of_bodySF (plainFor_of_name pn_13) hisR ?_
  intro p e s m args below meth c s₁ Bd hml0 hP hK
  obtain ⟨rfl, hZ, hh⟩ := hP
  have hx := Bd.exec
  have hby := Bd.bytes
  have hml : c.maxLocals = 3 := hml0
  have hown : s.vm.findClass "java/lang/StringLatin1" = some m.cls := findClass_of_methodNamed Bd.named
  have hnm := (name_of_methodNamed Bd.named Bd.method).1
  have X0 : Stand p l e ({ frames := 0, cells := 0, slots := 0, locals := 0 } : Room) s m #[(.ref a1), (.ref a2)] below meth c s₁ [] 0 0 := Stand.of_body Bd
  have e0 : s₁.heap = h0 := by rw [← hh, Bd.state]; rfl
  have N0 := Fr.nil n0
  obtain ⟨cl1, Ar1, -, S1, Nn1, -, -⟩ := id V_a1
  obtain ⟨cl2, Ar2, -, S2, Nn2, -, -⟩ := id V_a2
  obtain ⟨cl3, Ar3, -, S3, Nn3, -, -⟩ := id V_a1
  obtain ⟨cl4, Ar4, -, S4, -, H4, -⟩ := id V_a1
  have hin4 : ¬ ((0 : Int32) < 0 ∨ cl4.slots.size ≤ ((0 : Int32)).toNatClampNeg) := inb_of S4 ⟨by decide, by decide⟩
  have hat4 : cl4.slots[((0 : Int32)).toNatClampNeg]? = some (.int p4) := H4.at hin4 rfl
  obtain ⟨cl5, Ar5, -, S5, -, H5, -⟩ := id V_a2
  have hin5 : ¬ ((0 : Int32) < 0 ∨ cl5.slots.size ≤ ((0 : Int32)).toNatClampNeg) := inb_of S5 ⟨by decide, by decide⟩
  have hat5 : cl5.slots[((0 : Int32)).toNatClampNeg]? = some (.int p7) := H5.at hin5 rfl
  obtain ⟨fs, hr, hrun, hended, hW, hsame⟩ := X0.leave (v := some (.int (0 : Int32))) (fun h => by rw [Bd.returns] at h; cases h)
  refine ⟨_, _, castTop (ef_13_0 m a1 a2) ?_, hrun, hended, _, _, rfl, ?_, ⟨_, rfl⟩, hW, hsame.mono (by decide) (by decide)⟩
  · show Sp p e below s₁ (mkF m 0 #[.val (.ref a1), .val (.ref a2), .unset] []) _
    refine XS.aloadN X0.here hx rfl (hb hby d13_0) rfl rfl ?_
    show Sp p e below s₁ (mkF m 1 #[.val (.ref a1), .val (.ref a2), .unset] [(.ref a1)]) _
    refine X0.arraylength hx (by rw [e0]; exact Ar1.1) (State.isArrayOf_alike hZ.alike Ar1.2.1) (g := (mkF m 1 #[.val (.ref a1), .val (.ref a2), .unset] [(.ref a1)])) rfl rfl (hb hby d13_1) _ ?_
    rw [len_of S1 Nn1]
    show Sp p e below s₁ (mkF m 2 #[.val (.ref a1), .val (.ref a2), .unset] [(.int (2 : Int32))]) _
    refine XS.aloadN X0.here hx rfl (hb hby d13_2) rfl rfl ?_
    show Sp p e below s₁ (mkF m 3 #[.val (.ref a1), .val (.ref a2), .unset] [(.ref a2), (.int (2 : Int32))]) _
    refine X0.arraylength hx (by rw [e0]; exact Ar2.1) (State.isArrayOf_alike hZ.alike Ar2.2.1) (g := (mkF m 3 #[.val (.ref a1), .val (.ref a2), .unset] [(.ref a2), (.int (2 : Int32))])) rfl rfl (hb hby d13_3) _ ?_
    rw [len_of S2 Nn2]
    show Sp p e below s₁ (mkF m 4 #[.val (.ref a1), .val (.ref a2), .unset] [(.int (2 : Int32)), (.int (2 : Int32))]) _
    refine XS.icmpNo X0.here hx rfl (hb hby d13_4) rfl (teq (by decide : (2 : Int32) = (2 : Int32))).2 ?_
    refine XS.iconst X0.here hx rfl (hb hby d13_7) ?_
    refine XS.istoreN X0.here hx rfl (hb hby d13_8) rfl (l' := #[.val (.ref a1), .val (.ref a2), .val (.int (0 : Int32))]) rfl ?_
    refine XS.iloadN X0.here hx rfl (hb hby d13_9) rfl ?_
    refine XS.aloadN X0.here hx rfl (hb hby d13_10) rfl rfl ?_
    show Sp p e below s₁ (mkF m 11 #[.val (.ref a1), .val (.ref a2), .val (.int (0 : Int32))] [(.ref a1), (.int (0 : Int32))]) _
    refine X0.arraylength hx (by rw [e0]; exact Ar3.1) (State.isArrayOf_alike hZ.alike Ar3.2.1) (g := (mkF m 11 #[.val (.ref a1), .val (.ref a2), .val (.int (0 : Int32))] [(.ref a1), (.int (0 : Int32))])) rfl rfl (hb hby d13_11) _ ?_
    rw [len_of S3 Nn3]
    show Sp p e below s₁ (mkF m 12 #[.val (.ref a1), .val (.ref a2), .val (.int (0 : Int32))] [(.int (2 : Int32)), (.int (0 : Int32))]) _
    refine XS.icmpNo X0.here hx rfl (hb hby d13_12) rfl (tlt (by decide : (0 : Int32) < (2 : Int32))).2.1 ?_
    refine XS.aloadN X0.here hx rfl (hb hby d13_15) rfl rfl ?_
    refine XS.iloadN X0.here hx rfl (hb hby d13_16) rfl ?_
    show Sp p e below s₁ (mkF m 17 #[.val (.ref a1), .val (.ref a2), .val (.int (0 : Int32))] [(.int (0 : Int32)), (.ref a1)]) _
    refine X0.baloadBytes hx (j := (0 : Int32)) (v := (.int p4)) (by rw [e0]; exact Ar4.1) (State.isArrayOf_alike hZ.alike Ar4.2.1) Ar4.2.2 hin4 hat4 (g := (mkF m 17 #[.val (.ref a1), .val (.ref a2), .val (.int (0 : Int32))] [(.int (0 : Int32)), (.ref a1)])) rfl rfl (hb hby d13_17) _ ?_
    show Sp p e below s₁ (mkF m 18 #[.val (.ref a1), .val (.ref a2), .val (.int (0 : Int32))] [(.int p4)]) _
    refine XS.aloadN X0.here hx rfl (hb hby d13_18) rfl rfl ?_
    refine XS.iloadN X0.here hx rfl (hb hby d13_19) rfl ?_
    show Sp p e below s₁ (mkF m 20 #[.val (.ref a1), .val (.ref a2), .val (.int (0 : Int32))] [(.int (0 : Int32)), (.ref a2), (.int p4)]) _
    refine X0.baloadBytes hx (j := (0 : Int32)) (v := (.int p7)) (by rw [e0]; exact Ar5.1) (State.isArrayOf_alike hZ.alike Ar5.2.1) Ar5.2.2 hin5 hat5 (g := (mkF m 20 #[.val (.ref a1), .val (.ref a2), .val (.int (0 : Int32))] [(.int (0 : Int32)), (.ref a2), (.int p4)])) rfl rfl (hb hby d13_20) _ ?_
    show Sp p e below s₁ (mkF m 21 #[.val (.ref a1), .val (.ref a2), .val (.int (0 : Int32))] [(.int p7), (.int p4)]) _
    refine XS.icmpNo X0.here hx rfl (hb hby d13_21) rfl (feq hc3).1 ?_
    refine XS.iconst X0.here hx rfl (hb hby d13_24) ?_
    show Sp p e below s₁ (mkF m 25 #[.val (.ref a1), .val (.ref a2), .val (.int (0 : Int32))] [(.int (0 : Int32))]) _
    exact retN X0 hx (t := .boolean) Bd.returns (by simp) (hb hby d13_25) hr
  · show Q56 Z v0 v1 v2 v3 v4 v5 v6 v7 v8 v9 cs_v a1 a2 k_a1 p4 p5 k_a2 p7 p8 h0 n0 _ s₁.heap _
    rw [e0]
    exact ⟨rfl, N0, rfl⟩
def Q57 (Z : State) (v0 : Addr) (v1 : Addr) (v2 : Addr) (v3 : Addr) (v4 : Addr) (v5 : Addr) (v6 : Addr) (v7 : Addr) (v8 : Addr) (v9 : Addr) (cs_v : Int32) (a1 : Addr) (a2 : Addr) (k_a1 : ClassId) (p4 : Int32) (p5 : Int32) (k_a2 : ClassId) (p7 : Int32) (p8 : Int32) (h0 : Heap) (n0 : Nat) (v : Option Value) (h : Heap) (L : List Loc) : Prop := v = some (.int (0 : Int32)) ∧ Fr n0 L ∧ h = h0
theorem rm57 (l : Launch) (Z : State) (a0 : Array Value) (hw : ∀ d ∈ tables_1, d.before a0 Z = true) (ws : List Jvm.Cond) (v0 v1 v2 v3 v4 v5 v6 v7 v8 v9 : Addr) (cs_v : Int32) (hp : Perm Z v0 v1 v2 v3 v4 v5 v6 v7 v8 v9 cs_v) (a1 : Addr) (a2 : Addr) (k_a1 : ClassId) (p4 : Int32) (p5 : Int32) (k_a2 : ClassId) (p7 : Int32) (p8 : Int32) (h0 : Heap) (n0 : Nat) (O0 : Old Z n0 h0) (V_a1 : Arv Z h0 a1 k_a1 .byte (2 : Int32) [(.int p4), (.int p5)] (.int (0 : Int32))) (V_a2 : Arv Z h0 a2 k_a2 .byte (2 : Int32) [(.int p7), (.int p8)] (.int (0 : Int32))) (hc3 : p4 = p7) (hc4 : ¬ (p5 = p8)) :
    MetFree l y14 (head1 (Jvm.Cond.code y14 jdk_43_method_13_code 3 (some .boolean) :: ws) ({ frames := 0, cells := 0, slots := 0, locals := 0 } : Room)) (fun a U => a = #[(.ref a1), (.ref a2)] ∧ Z.Warmed39 U.vm ∧ U.heap = h0) (fun _ _ _ _ _ => True) (fun _ U o U' => ∃ v L, o = .returned v ∧ Q57 Z v0 v1 v2 v3 v4 v5 v6 v7 v8 v9 cs_v a1 a2 k_a1 p4 p5 k_a2 p7 p8 h0 n0 v U'.heap L ∧ FrameEnd U o U' L ({ frames := 0, cells := 0, slots := 0, locals := 0 } : Room).cells ({ frames := 0, cells := 0, slots := 0, locals := 0 } : Room).slots) := by
  refine MetFree.of_bodySF (plainFor_of_name pn_13) hisR ?_
  intro p e s m args below meth c s₁ Bd hml0 hP hK
  obtain ⟨rfl, hZ, hh⟩ := hP
  have hx := Bd.exec
  have hby := Bd.bytes
  have hml : c.maxLocals = 3 := hml0
  have hown : s.vm.findClass "java/lang/StringLatin1" = some m.cls := findClass_of_methodNamed Bd.named
  have hnm := (name_of_methodNamed Bd.named Bd.method).1
  have X0 : Stand p l e ({ frames := 0, cells := 0, slots := 0, locals := 0 } : Room) s m #[(.ref a1), (.ref a2)] below meth c s₁ [] 0 0 := Stand.of_body Bd
  have e0 : s₁.heap = h0 := by rw [← hh, Bd.state]; rfl
  have N0 := Fr.nil n0
  obtain ⟨cl1, Ar1, -, S1, Nn1, -, -⟩ := id V_a1
  obtain ⟨cl2, Ar2, -, S2, Nn2, -, -⟩ := id V_a2
  obtain ⟨cl3, Ar3, -, S3, Nn3, -, -⟩ := id V_a1
  obtain ⟨cl4, Ar4, -, S4, -, H4, -⟩ := id V_a1
  have hin4 : ¬ ((0 : Int32) < 0 ∨ cl4.slots.size ≤ ((0 : Int32)).toNatClampNeg) := inb_of S4 ⟨by decide, by decide⟩
  have hat4 : cl4.slots[((0 : Int32)).toNatClampNeg]? = some (.int p4) := H4.at hin4 rfl
  obtain ⟨cl5, Ar5, -, S5, -, H5, -⟩ := id V_a2
  have hin5 : ¬ ((0 : Int32) < 0 ∨ cl5.slots.size ≤ ((0 : Int32)).toNatClampNeg) := inb_of S5 ⟨by decide, by decide⟩
  have hat5 : cl5.slots[((0 : Int32)).toNatClampNeg]? = some (.int p7) := H5.at hin5 rfl
  obtain ⟨cl6, Ar6, -, S6, Nn6, -, -⟩ := id V_a1
  obtain ⟨cl7, Ar7, -, S7, -, H7, -⟩ := id V_a1
  have hin7 : ¬ (((0 : Int32) + (1 : Int32)) < 0 ∨ cl7.slots.size ≤ (((0 : Int32) + (1 : Int32))).toNatClampNeg) := inb_of S7 ⟨by decide, by decide⟩
  have hat7 : cl7.slots[(((0 : Int32) + (1 : Int32))).toNatClampNeg]? = some (.int p5) := H7.at hin7 rfl
  obtain ⟨cl8, Ar8, -, S8, -, H8, -⟩ := id V_a2
  have hin8 : ¬ (((0 : Int32) + (1 : Int32)) < 0 ∨ cl8.slots.size ≤ (((0 : Int32) + (1 : Int32))).toNatClampNeg) := inb_of S8 ⟨by decide, by decide⟩
  have hat8 : cl8.slots[(((0 : Int32) + (1 : Int32))).toNatClampNeg]? = some (.int p8) := H8.at hin8 rfl
  obtain ⟨fs, hr, hrun, hended, hW, hsame⟩ := X0.leave (v := some (.int (0 : Int32))) (fun h => by rw [Bd.returns] at h; cases h)
  refine ⟨_, _, castTop (ef_13_0 m a1 a2) ?_, hrun, hended, _, _, rfl, ?_, ⟨_, rfl⟩, hW, hsame.mono (by decide) (by decide)⟩
  · show Sp p e below s₁ (mkF m 0 #[.val (.ref a1), .val (.ref a2), .unset] []) _
    refine XS.aloadN X0.here hx rfl (hb hby d13_0) rfl rfl ?_
    show Sp p e below s₁ (mkF m 1 #[.val (.ref a1), .val (.ref a2), .unset] [(.ref a1)]) _
    refine X0.arraylength hx (by rw [e0]; exact Ar1.1) (State.isArrayOf_alike hZ.alike Ar1.2.1) (g := (mkF m 1 #[.val (.ref a1), .val (.ref a2), .unset] [(.ref a1)])) rfl rfl (hb hby d13_1) _ ?_
    rw [len_of S1 Nn1]
    show Sp p e below s₁ (mkF m 2 #[.val (.ref a1), .val (.ref a2), .unset] [(.int (2 : Int32))]) _
    refine XS.aloadN X0.here hx rfl (hb hby d13_2) rfl rfl ?_
    show Sp p e below s₁ (mkF m 3 #[.val (.ref a1), .val (.ref a2), .unset] [(.ref a2), (.int (2 : Int32))]) _
    refine X0.arraylength hx (by rw [e0]; exact Ar2.1) (State.isArrayOf_alike hZ.alike Ar2.2.1) (g := (mkF m 3 #[.val (.ref a1), .val (.ref a2), .unset] [(.ref a2), (.int (2 : Int32))])) rfl rfl (hb hby d13_3) _ ?_
    rw [len_of S2 Nn2]
    show Sp p e below s₁ (mkF m 4 #[.val (.ref a1), .val (.ref a2), .unset] [(.int (2 : Int32)), (.int (2 : Int32))]) _
    refine XS.icmpNo X0.here hx rfl (hb hby d13_4) rfl (teq (by decide : (2 : Int32) = (2 : Int32))).2 ?_
    refine XS.iconst X0.here hx rfl (hb hby d13_7) ?_
    refine XS.istoreN X0.here hx rfl (hb hby d13_8) rfl (l' := #[.val (.ref a1), .val (.ref a2), .val (.int (0 : Int32))]) rfl ?_
    refine XS.iloadN X0.here hx rfl (hb hby d13_9) rfl ?_
    refine XS.aloadN X0.here hx rfl (hb hby d13_10) rfl rfl ?_
    show Sp p e below s₁ (mkF m 11 #[.val (.ref a1), .val (.ref a2), .val (.int (0 : Int32))] [(.ref a1), (.int (0 : Int32))]) _
    refine X0.arraylength hx (by rw [e0]; exact Ar3.1) (State.isArrayOf_alike hZ.alike Ar3.2.1) (g := (mkF m 11 #[.val (.ref a1), .val (.ref a2), .val (.int (0 : Int32))] [(.ref a1), (.int (0 : Int32))])) rfl rfl (hb hby d13_11) _ ?_
    rw [len_of S3 Nn3]
    show Sp p e below s₁ (mkF m 12 #[.val (.ref a1), .val (.ref a2), .val (.int (0 : Int32))] [(.int (2 : Int32)), (.int (0 : Int32))]) _
    refine XS.icmpNo X0.here hx rfl (hb hby d13_12) rfl (tlt (by decide : (0 : Int32) < (2 : Int32))).2.1 ?_
    refine XS.aloadN X0.here hx rfl (hb hby d13_15) rfl rfl ?_
    refine XS.iloadN X0.here hx rfl (hb hby d13_16) rfl ?_
    show Sp p e below s₁ (mkF m 17 #[.val (.ref a1), .val (.ref a2), .val (.int (0 : Int32))] [(.int (0 : Int32)), (.ref a1)]) _
    refine X0.baloadBytes hx (j := (0 : Int32)) (v := (.int p4)) (by rw [e0]; exact Ar4.1) (State.isArrayOf_alike hZ.alike Ar4.2.1) Ar4.2.2 hin4 hat4 (g := (mkF m 17 #[.val (.ref a1), .val (.ref a2), .val (.int (0 : Int32))] [(.int (0 : Int32)), (.ref a1)])) rfl rfl (hb hby d13_17) _ ?_
    show Sp p e below s₁ (mkF m 18 #[.val (.ref a1), .val (.ref a2), .val (.int (0 : Int32))] [(.int p4)]) _
    refine XS.aloadN X0.here hx rfl (hb hby d13_18) rfl rfl ?_
    refine XS.iloadN X0.here hx rfl (hb hby d13_19) rfl ?_
    show Sp p e below s₁ (mkF m 20 #[.val (.ref a1), .val (.ref a2), .val (.int (0 : Int32))] [(.int (0 : Int32)), (.ref a2), (.int p4)]) _
    refine X0.baloadBytes hx (j := (0 : Int32)) (v := (.int p7)) (by rw [e0]; exact Ar5.1) (State.isArrayOf_alike hZ.alike Ar5.2.1) Ar5.2.2 hin5 hat5 (g := (mkF m 20 #[.val (.ref a1), .val (.ref a2), .val (.int (0 : Int32))] [(.int (0 : Int32)), (.ref a2), (.int p4)])) rfl rfl (hb hby d13_20) _ ?_
    show Sp p e below s₁ (mkF m 21 #[.val (.ref a1), .val (.ref a2), .val (.int (0 : Int32))] [(.int p7), (.int p4)]) _
    refine XS.icmpYes X0.here hx rfl (pc0 := 21) (pc' := 26) rfl (hb hby d13_21) rfl (teq hc3).1 (by decide) (by decide) ?_
    show Sp p e below s₁ (mkF m 26 #[.val (.ref a1), .val (.ref a2), .val (.int (0 : Int32))] []) _
    refine XS.iinc X0.here hx rfl (hb hby d13_26) rfl (l' := #[.val (.ref a1), .val (.ref a2), .val (.int (fx10 ))]) rfl ?_
    refine XS.goto X0.here hx rfl (pc0 := 29) (pc' := 9) rfl (hb hby d13_29) (by decide) (by decide) ?_
    refine XS.iloadN X0.here hx rfl (hb hby d13_9) rfl ?_
    refine XS.aloadN X0.here hx rfl (hb hby d13_10) rfl rfl ?_
    show Sp p e below s₁ (mkF m 11 #[.val (.ref a1), .val (.ref a2), .val (.int (fx10 ))] [(.ref a1), (.int (fx10 ))]) _
    refine X0.arraylength hx (by rw [e0]; exact Ar6.1) (State.isArrayOf_alike hZ.alike Ar6.2.1) (g := (mkF m 11 #[.val (.ref a1), .val (.ref a2), .val (.int (fx10 ))] [(.ref a1), (.int (fx10 ))])) rfl rfl (hb hby d13_11) _ ?_
    rw [len_of S6 Nn6]
    show Sp p e below s₁ (mkF m 12 #[.val (.ref a1), .val (.ref a2), .val (.int (fx10 ))] [(.int (2 : Int32)), (.int (fx10 ))]) _
    refine XS.icmpNo X0.here hx rfl (hb hby d13_12) rfl (tlt (by decide : ((0 : Int32) + (1 : Int32)) < (2 : Int32))).2.1 ?_
    refine XS.aloadN X0.here hx rfl (hb hby d13_15) rfl rfl ?_
    refine XS.iloadN X0.here hx rfl (hb hby d13_16) rfl ?_
    show Sp p e below s₁ (mkF m 17 #[.val (.ref a1), .val (.ref a2), .val (.int (fx10 ))] [(.int (fx10 )), (.ref a1)]) _
    refine X0.baloadBytes hx (j := ((0 : Int32) + (1 : Int32))) (v := (.int p5)) (by rw [e0]; exact Ar7.1) (State.isArrayOf_alike hZ.alike Ar7.2.1) Ar7.2.2 hin7 hat7 (g := (mkF m 17 #[.val (.ref a1), .val (.ref a2), .val (.int (fx10 ))] [(.int (fx10 )), (.ref a1)])) rfl rfl (hb hby d13_17) _ ?_
    show Sp p e below s₁ (mkF m 18 #[.val (.ref a1), .val (.ref a2), .val (.int (fx10 ))] [(.int p5)]) _
    refine XS.aloadN X0.here hx rfl (hb hby d13_18) rfl rfl ?_
    refine XS.iloadN X0.here hx rfl (hb hby d13_19) rfl ?_
    show Sp p e below s₁ (mkF m 20 #[.val (.ref a1), .val (.ref a2), .val (.int (fx10 ))] [(.int (fx10 )), (.ref a2), (.int p5)]) _
    refine X0.baloadBytes hx (j := ((0 : Int32) + (1 : Int32))) (v := (.int p8)) (by rw [e0]; exact Ar8.1) (State.isArrayOf_alike hZ.alike Ar8.2.1) Ar8.2.2 hin8 hat8 (g := (mkF m 20 #[.val (.ref a1), .val (.ref a2), .val (.int (fx10 ))] [(.int (fx10 )), (.ref a2), (.int p5)])) rfl rfl (hb hby d13_20) _ ?_
    show Sp p e below s₁ (mkF m 21 #[.val (.ref a1), .val (.ref a2), .val (.int (fx10 ))] [(.int p8), (.int p5)]) _
    refine XS.icmpNo X0.here hx rfl (hb hby d13_21) rfl (feq hc4).1 ?_
    refine XS.iconst X0.here hx rfl (hb hby d13_24) ?_
    show Sp p e below s₁ (mkF m 25 #[.val (.ref a1), .val (.ref a2), .val (.int (fx10 ))] [(.int (0 : Int32))]) _
    exact retN X0 hx (t := .boolean) Bd.returns (by simp) (hb hby d13_25) hr
  · show Q57 Z v0 v1 v2 v3 v4 v5 v6 v7 v8 v9 cs_v a1 a2 k_a1 p4 p5 k_a2 p7 p8 h0 n0 _ s₁.heap _
    rw [e0]
    exact ⟨rfl, N0, rfl⟩
def Q58 (Z : State) (v0 : Addr) (v1 : Addr) (v2 : Addr) (v3 : Addr) (v4 : Addr) (v5 : Addr) (v6 : Addr) (v7 : Addr) (v8 : Addr) (v9 : Addr) (cs_v : Int32) (a1 : Addr) (a2 : Addr) (k_a1 : ClassId) (p4 : Int32) (p5 : Int32) (p6 : Int32) (k_a2 : ClassId) (p8 : Int32) (p9 : Int32) (p10 : Int32) (h0 : Heap) (n0 : Nat) (v : Option Value) (h : Heap) (L : List Loc) : Prop := v = some (.int (1 : Int32)) ∧ Fr n0 L ∧ h = h0
theorem rm58 (l : Launch) (Z : State) (a0 : Array Value) (hw : ∀ d ∈ tables_1, d.before a0 Z = true) (ws : List Jvm.Cond) (v0 v1 v2 v3 v4 v5 v6 v7 v8 v9 : Addr) (cs_v : Int32) (hp : Perm Z v0 v1 v2 v3 v4 v5 v6 v7 v8 v9 cs_v) (a1 : Addr) (a2 : Addr) (k_a1 : ClassId) (p4 : Int32) (p5 : Int32) (p6 : Int32) (k_a2 : ClassId) (p8 : Int32) (p9 : Int32) (p10 : Int32) (h0 : Heap) (n0 : Nat) (O0 : Old Z n0 h0) (V_a1 : Arv Z h0 a1 k_a1 .byte (3 : Int32) [(.int p4), (.int p5), (.int p6)] (.int (0 : Int32))) (V_a2 : Arv Z h0 a2 k_a2 .byte (3 : Int32) [(.int p8), (.int p9), (.int p10)] (.int (0 : Int32))) (hc3 : p4 = p8) (hc4 : p5 = p9) (hc5 : p6 = p10) :
    MetFree l y14 (head1 (Jvm.Cond.code y14 jdk_43_method_13_code 3 (some .boolean) :: ws) ({ frames := 0, cells := 0, slots := 0, locals := 0 } : Room)) (fun a U => a = #[(.ref a1), (.ref a2)] ∧ Z.Warmed39 U.vm ∧ U.heap = h0) (fun _ _ _ _ _ => True) (fun _ U o U' => ∃ v L, o = .returned v ∧ Q58 Z v0 v1 v2 v3 v4 v5 v6 v7 v8 v9 cs_v a1 a2 k_a1 p4 p5 p6 k_a2 p8 p9 p10 h0 n0 v U'.heap L ∧ FrameEnd U o U' L ({ frames := 0, cells := 0, slots := 0, locals := 0 } : Room).cells ({ frames := 0, cells := 0, slots := 0, locals := 0 } : Room).slots) := by
  refine MetFree.of_bodySF (plainFor_of_name pn_13) hisR ?_
  intro p e s m args below meth c s₁ Bd hml0 hP hK
  obtain ⟨rfl, hZ, hh⟩ := hP
  have hx := Bd.exec
  have hby := Bd.bytes
  have hml : c.maxLocals = 3 := hml0
  have hown : s.vm.findClass "java/lang/StringLatin1" = some m.cls := findClass_of_methodNamed Bd.named
  have hnm := (name_of_methodNamed Bd.named Bd.method).1
  have X0 : Stand p l e ({ frames := 0, cells := 0, slots := 0, locals := 0 } : Room) s m #[(.ref a1), (.ref a2)] below meth c s₁ [] 0 0 := Stand.of_body Bd
  have e0 : s₁.heap = h0 := by rw [← hh, Bd.state]; rfl
  have N0 := Fr.nil n0
  obtain ⟨cl1, Ar1, -, S1, Nn1, -, -⟩ := id V_a1
  obtain ⟨cl2, Ar2, -, S2, Nn2, -, -⟩ := id V_a2
  obtain ⟨cl3, Ar3, -, S3, Nn3, -, -⟩ := id V_a1
  obtain ⟨cl4, Ar4, -, S4, -, H4, -⟩ := id V_a1
  have hin4 : ¬ ((0 : Int32) < 0 ∨ cl4.slots.size ≤ ((0 : Int32)).toNatClampNeg) := inb_of S4 ⟨by decide, by decide⟩
  have hat4 : cl4.slots[((0 : Int32)).toNatClampNeg]? = some (.int p4) := H4.at hin4 rfl
  obtain ⟨cl5, Ar5, -, S5, -, H5, -⟩ := id V_a2
  have hin5 : ¬ ((0 : Int32) < 0 ∨ cl5.slots.size ≤ ((0 : Int32)).toNatClampNeg) := inb_of S5 ⟨by decide, by decide⟩
  have hat5 : cl5.slots[((0 : Int32)).toNatClampNeg]? = some (.int p8) := H5.at hin5 rfl
  obtain ⟨cl6, Ar6, -, S6, Nn6, -, -⟩ := id V_a1
  obtain ⟨cl7, Ar7, -, S7, -, H7, -⟩ := id V_a1
  have hin7 : ¬ (((0 : Int32) + (1 : Int32)) < 0 ∨ cl7.slots.size ≤ (((0 : Int32) + (1 : Int32))).toNatClampNeg) := inb_of S7 ⟨by decide, by decide⟩
  have hat7 : cl7.slots[(((0 : Int32) + (1 : Int32))).toNatClampNeg]? = some (.int p5) := H7.at hin7 rfl
  obtain ⟨cl8, Ar8, -, S8, -, H8, -⟩ := id V_a2
  have hin8 : ¬ (((0 : Int32) + (1 : Int32)) < 0 ∨ cl8.slots.size ≤ (((0 : Int32) + (1 : Int32))).toNatClampNeg) := inb_of S8 ⟨by decide, by decide⟩
  have hat8 : cl8.slots[(((0 : Int32) + (1 : Int32))).toNatClampNeg]? = some (.int p9) := H8.at hin8 rfl
  obtain ⟨cl9, Ar9, -, S9, Nn9, -, -⟩ := id V_a1
  obtain ⟨cl10, Ar10, -, S10, -, H10, -⟩ := id V_a1
  have hin10 : ¬ ((((0 : Int32) + (1 : Int32)) + (1 : Int32)) < 0 ∨ cl10.slots.size ≤ ((((0 : Int32) + (1 : Int32)) + (1 : Int32))).toNatClampNeg) := inb_of S10 ⟨by decide, by decide⟩
  have hat10 : cl10.slots[((((0 : Int32) + (1 : Int32)) + (1 : Int32))).toNatClampNeg]? = some (.int p6) := H10.at hin10 rfl
  obtain ⟨cl11, Ar11, -, S11, -, H11, -⟩ := id V_a2
  have hin11 : ¬ ((((0 : Int32) + (1 : Int32)) + (1 : Int32)) < 0 ∨ cl11.slots.size ≤ ((((0 : Int32) + (1 : Int32)) + (1 : Int32))).toNatClampNeg) := inb_of S11 ⟨by decide, by decide⟩
  have hat11 : cl11.slots[((((0 : Int32) + (1 : Int32)) + (1 : Int32))).toNatClampNeg]? = some (.int p10) := H11.at hin11 rfl
  obtain ⟨cl12, Ar12, -, S12, Nn12, -, -⟩ := id V_a1
  obtain ⟨fs, hr, hrun, hended, hW, hsame⟩ := X0.leave (v := some (.int (1 : Int32))) (fun h => by rw [Bd.returns] at h; cases h)
  refine ⟨_, _, castTop (ef_13_0 m a1 a2) ?_, hrun, hended, _, _, rfl, ?_, ⟨_, rfl⟩, hW, hsame.mono (by decide) (by decide)⟩
  · show Sp p e below s₁ (mkF m 0 #[.val (.ref a1), .val (.ref a2), .unset] []) _
    refine XS.aloadN X0.here hx rfl (hb hby d13_0) rfl rfl ?_
    show Sp p e below s₁ (mkF m 1 #[.val (.ref a1), .val (.ref a2), .unset] [(.ref a1)]) _
    refine X0.arraylength hx (by rw [e0]; exact Ar1.1) (State.isArrayOf_alike hZ.alike Ar1.2.1) (g := (mkF m 1 #[.val (.ref a1), .val (.ref a2), .unset] [(.ref a1)])) rfl rfl (hb hby d13_1) _ ?_
    rw [len_of S1 Nn1]
    show Sp p e below s₁ (mkF m 2 #[.val (.ref a1), .val (.ref a2), .unset] [(.int (3 : Int32))]) _
    refine XS.aloadN X0.here hx rfl (hb hby d13_2) rfl rfl ?_
    show Sp p e below s₁ (mkF m 3 #[.val (.ref a1), .val (.ref a2), .unset] [(.ref a2), (.int (3 : Int32))]) _
    refine X0.arraylength hx (by rw [e0]; exact Ar2.1) (State.isArrayOf_alike hZ.alike Ar2.2.1) (g := (mkF m 3 #[.val (.ref a1), .val (.ref a2), .unset] [(.ref a2), (.int (3 : Int32))])) rfl rfl (hb hby d13_3) _ ?_
    rw [len_of S2 Nn2]
    show Sp p e below s₁ (mkF m 4 #[.val (.ref a1), .val (.ref a2), .unset] [(.int (3 : Int32)), (.int (3 : Int32))]) _
    refine XS.icmpNo X0.here hx rfl (hb hby d13_4) rfl (teq (by decide : (3 : Int32) = (3 : Int32))).2 ?_
    refine XS.iconst X0.here hx rfl (hb hby d13_7) ?_
    refine XS.istoreN X0.here hx rfl (hb hby d13_8) rfl (l' := #[.val (.ref a1), .val (.ref a2), .val (.int (0 : Int32))]) rfl ?_
    refine XS.iloadN X0.here hx rfl (hb hby d13_9) rfl ?_
    refine XS.aloadN X0.here hx rfl (hb hby d13_10) rfl rfl ?_
    show Sp p e below s₁ (mkF m 11 #[.val (.ref a1), .val (.ref a2), .val (.int (0 : Int32))] [(.ref a1), (.int (0 : Int32))]) _
    refine X0.arraylength hx (by rw [e0]; exact Ar3.1) (State.isArrayOf_alike hZ.alike Ar3.2.1) (g := (mkF m 11 #[.val (.ref a1), .val (.ref a2), .val (.int (0 : Int32))] [(.ref a1), (.int (0 : Int32))])) rfl rfl (hb hby d13_11) _ ?_
    rw [len_of S3 Nn3]
    show Sp p e below s₁ (mkF m 12 #[.val (.ref a1), .val (.ref a2), .val (.int (0 : Int32))] [(.int (3 : Int32)), (.int (0 : Int32))]) _
    refine XS.icmpNo X0.here hx rfl (hb hby d13_12) rfl (tlt (by decide : (0 : Int32) < (3 : Int32))).2.1 ?_
    refine XS.aloadN X0.here hx rfl (hb hby d13_15) rfl rfl ?_
    refine XS.iloadN X0.here hx rfl (hb hby d13_16) rfl ?_
    show Sp p e below s₁ (mkF m 17 #[.val (.ref a1), .val (.ref a2), .val (.int (0 : Int32))] [(.int (0 : Int32)), (.ref a1)]) _
    refine X0.baloadBytes hx (j := (0 : Int32)) (v := (.int p4)) (by rw [e0]; exact Ar4.1) (State.isArrayOf_alike hZ.alike Ar4.2.1) Ar4.2.2 hin4 hat4 (g := (mkF m 17 #[.val (.ref a1), .val (.ref a2), .val (.int (0 : Int32))] [(.int (0 : Int32)), (.ref a1)])) rfl rfl (hb hby d13_17) _ ?_
    show Sp p e below s₁ (mkF m 18 #[.val (.ref a1), .val (.ref a2), .val (.int (0 : Int32))] [(.int p4)]) _
    refine XS.aloadN X0.here hx rfl (hb hby d13_18) rfl rfl ?_
    refine XS.iloadN X0.here hx rfl (hb hby d13_19) rfl ?_
    show Sp p e below s₁ (mkF m 20 #[.val (.ref a1), .val (.ref a2), .val (.int (0 : Int32))] [(.int (0 : Int32)), (.ref a2), (.int p4)]) _
    refine X0.baloadBytes hx (j := (0 : Int32)) (v := (.int p8)) (by rw [e0]; exact Ar5.1) (State.isArrayOf_alike hZ.alike Ar5.2.1) Ar5.2.2 hin5 hat5 (g := (mkF m 20 #[.val (.ref a1), .val (.ref a2), .val (.int (0 : Int32))] [(.int (0 : Int32)), (.ref a2), (.int p4)])) rfl rfl (hb hby d13_20) _ ?_
    show Sp p e below s₁ (mkF m 21 #[.val (.ref a1), .val (.ref a2), .val (.int (0 : Int32))] [(.int p8), (.int p4)]) _
    refine XS.icmpYes X0.here hx rfl (pc0 := 21) (pc' := 26) rfl (hb hby d13_21) rfl (teq hc3).1 (by decide) (by decide) ?_
    show Sp p e below s₁ (mkF m 26 #[.val (.ref a1), .val (.ref a2), .val (.int (0 : Int32))] []) _
    refine XS.iinc X0.here hx rfl (hb hby d13_26) rfl (l' := #[.val (.ref a1), .val (.ref a2), .val (.int (fx10 ))]) rfl ?_
    refine XS.goto X0.here hx rfl (pc0 := 29) (pc' := 9) rfl (hb hby d13_29) (by decide) (by decide) ?_
    refine XS.iloadN X0.here hx rfl (hb hby d13_9) rfl ?_
    refine XS.aloadN X0.here hx rfl (hb hby d13_10) rfl rfl ?_
    show Sp p e below s₁ (mkF m 11 #[.val (.ref a1), .val (.ref a2), .val (.int (fx10 ))] [(.ref a1), (.int (fx10 ))]) _
    refine X0.arraylength hx (by rw [e0]; exact Ar6.1) (State.isArrayOf_alike hZ.alike Ar6.2.1) (g := (mkF m 11 #[.val (.ref a1), .val (.ref a2), .val (.int (fx10 ))] [(.ref a1), (.int (fx10 ))])) rfl rfl (hb hby d13_11) _ ?_
    rw [len_of S6 Nn6]
    show Sp p e below s₁ (mkF m 12 #[.val (.ref a1), .val (.ref a2), .val (.int (fx10 ))] [(.int (3 : Int32)), (.int (fx10 ))]) _
    refine XS.icmpNo X0.here hx rfl (hb hby d13_12) rfl (tlt (by decide : ((0 : Int32) + (1 : Int32)) < (3 : Int32))).2.1 ?_
    refine XS.aloadN X0.here hx rfl (hb hby d13_15) rfl rfl ?_
    refine XS.iloadN X0.here hx rfl (hb hby d13_16) rfl ?_
    show Sp p e below s₁ (mkF m 17 #[.val (.ref a1), .val (.ref a2), .val (.int (fx10 ))] [(.int (fx10 )), (.ref a1)]) _
    refine X0.baloadBytes hx (j := ((0 : Int32) + (1 : Int32))) (v := (.int p5)) (by rw [e0]; exact Ar7.1) (State.isArrayOf_alike hZ.alike Ar7.2.1) Ar7.2.2 hin7 hat7 (g := (mkF m 17 #[.val (.ref a1), .val (.ref a2), .val (.int (fx10 ))] [(.int (fx10 )), (.ref a1)])) rfl rfl (hb hby d13_17) _ ?_
    show Sp p e below s₁ (mkF m 18 #[.val (.ref a1), .val (.ref a2), .val (.int (fx10 ))] [(.int p5)]) _
    refine XS.aloadN X0.here hx rfl (hb hby d13_18) rfl rfl ?_
    refine XS.iloadN X0.here hx rfl (hb hby d13_19) rfl ?_
    show Sp p e below s₁ (mkF m 20 #[.val (.ref a1), .val (.ref a2), .val (.int (fx10 ))] [(.int (fx10 )), (.ref a2), (.int p5)]) _
    refine X0.baloadBytes hx (j := ((0 : Int32) + (1 : Int32))) (v := (.int p9)) (by rw [e0]; exact Ar8.1) (State.isArrayOf_alike hZ.alike Ar8.2.1) Ar8.2.2 hin8 hat8 (g := (mkF m 20 #[.val (.ref a1), .val (.ref a2), .val (.int (fx10 ))] [(.int (fx10 )), (.ref a2), (.int p5)])) rfl rfl (hb hby d13_20) _ ?_
    show Sp p e below s₁ (mkF m 21 #[.val (.ref a1), .val (.ref a2), .val (.int (fx10 ))] [(.int p9), (.int p5)]) _
    refine XS.icmpYes X0.here hx rfl (pc0 := 21) (pc' := 26) rfl (hb hby d13_21) rfl (teq hc4).1 (by decide) (by decide) ?_
    show Sp p e below s₁ (mkF m 26 #[.val (.ref a1), .val (.ref a2), .val (.int (fx10 ))] []) _
    refine XS.iinc X0.here hx rfl (hb hby d13_26) rfl (l' := #[.val (.ref a1), .val (.ref a2), .val (.int (fx12 ))]) rfl ?_
    refine XS.goto X0.here hx rfl (pc0 := 29) (pc' := 9) rfl (hb hby d13_29) (by decide) (by decide) ?_
    refine XS.iloadN X0.here hx rfl (hb hby d13_9) rfl ?_
    refine XS.aloadN X0.here hx rfl (hb hby d13_10) rfl rfl ?_
    show Sp p e below s₁ (mkF m 11 #[.val (.ref a1), .val (.ref a2), .val (.int (fx12 ))] [(.ref a1), (.int (fx12 ))]) _
    refine X0.arraylength hx (by rw [e0]; exact Ar9.1) (State.isArrayOf_alike hZ.alike Ar9.2.1) (g := (mkF m 11 #[.val (.ref a1), .val (.ref a2), .val (.int (fx12 ))] [(.ref a1), (.int (fx12 ))])) rfl rfl (hb hby d13_11) _ ?_
    rw [len_of S9 Nn9]
    show Sp p e below s₁ (mkF m 12 #[.val (.ref a1), .val (.ref a2), .val (.int (fx12 ))] [(.int (3 : Int32)), (.int (fx12 ))]) _
    refine XS.icmpNo X0.here hx rfl (hb hby d13_12) rfl (tlt (by decide : (((0 : Int32) + (1 : Int32)) + (1 : Int32)) < (3 : Int32))).2.1 ?_
    refine XS.aloadN X0.here hx rfl (hb hby d13_15) rfl rfl ?_
    refine XS.iloadN X0.here hx rfl (hb hby d13_16) rfl ?_
    show Sp p e below s₁ (mkF m 17 #[.val (.ref a1), .val (.ref a2), .val (.int (fx12 ))] [(.int (fx12 )), (.ref a1)]) _
    refine X0.baloadBytes hx (j := (((0 : Int32) + (1 : Int32)) + (1 : Int32))) (v := (.int p6)) (by rw [e0]; exact Ar10.1) (State.isArrayOf_alike hZ.alike Ar10.2.1) Ar10.2.2 hin10 hat10 (g := (mkF m 17 #[.val (.ref a1), .val (.ref a2), .val (.int (fx12 ))] [(.int (fx12 )), (.ref a1)])) rfl rfl (hb hby d13_17) _ ?_
    show Sp p e below s₁ (mkF m 18 #[.val (.ref a1), .val (.ref a2), .val (.int (fx12 ))] [(.int p6)]) _
    refine XS.aloadN X0.here hx rfl (hb hby d13_18) rfl rfl ?_
    refine XS.iloadN X0.here hx rfl (hb hby d13_19) rfl ?_
    show Sp p e below s₁ (mkF m 20 #[.val (.ref a1), .val (.ref a2), .val (.int (fx12 ))] [(.int (fx12 )), (.ref a2), (.int p6)]) _
    refine X0.baloadBytes hx (j := (((0 : Int32) + (1 : Int32)) + (1 : Int32))) (v := (.int p10)) (by rw [e0]; exact Ar11.1) (State.isArrayOf_alike hZ.alike Ar11.2.1) Ar11.2.2 hin11 hat11 (g := (mkF m 20 #[.val (.ref a1), .val (.ref a2), .val (.int (fx12 ))] [(.int (fx12 )), (.ref a2), (.int p6)])) rfl rfl (hb hby d13_20) _ ?_
    show Sp p e below s₁ (mkF m 21 #[.val (.ref a1), .val (.ref a2), .val (.int (fx12 ))] [(.int p10), (.int p6)]) _
    refine XS.icmpYes X0.here hx rfl (pc0 := 21) (pc' := 26) rfl (hb hby d13_21) rfl (teq hc5).1 (by decide) (by decide) ?_
    show Sp p e below s₁ (mkF m 26 #[.val (.ref a1), .val (.ref a2), .val (.int (fx12 ))] []) _
    refine XS.iinc X0.here hx rfl (hb hby d13_26) rfl (l' := #[.val (.ref a1), .val (.ref a2), .val (.int (fx14 ))]) rfl ?_
    refine XS.goto X0.here hx rfl (pc0 := 29) (pc' := 9) rfl (hb hby d13_29) (by decide) (by decide) ?_
    refine XS.iloadN X0.here hx rfl (hb hby d13_9) rfl ?_
    refine XS.aloadN X0.here hx rfl (hb hby d13_10) rfl rfl ?_
    show Sp p e below s₁ (mkF m 11 #[.val (.ref a1), .val (.ref a2), .val (.int (fx14 ))] [(.ref a1), (.int (fx14 ))]) _
    refine X0.arraylength hx (by rw [e0]; exact Ar12.1) (State.isArrayOf_alike hZ.alike Ar12.2.1) (g := (mkF m 11 #[.val (.ref a1), .val (.ref a2), .val (.int (fx14 ))] [(.ref a1), (.int (fx14 ))])) rfl rfl (hb hby d13_11) _ ?_
    rw [len_of S12 Nn12]
    show Sp p e below s₁ (mkF m 12 #[.val (.ref a1), .val (.ref a2), .val (.int (fx14 ))] [(.int (3 : Int32)), (.int (fx14 ))]) _
    refine XS.icmpYes X0.here hx rfl (pc0 := 12) (pc' := 32) rfl (hb hby d13_12) rfl (flt (by decide : ¬ (((((0 : Int32) + (1 : Int32)) + (1 : Int32)) + (1 : Int32)) < (3 : Int32)))).2.1 (by decide) (by decide) ?_
    refine XS.iconst X0.here hx rfl (hb hby d13_32) ?_
    show Sp p e below s₁ (mkF m 33 #[.val (.ref a1), .val (.ref a2), .val (.int (fx14 ))] [(.int (1 : Int32))]) _
    exact retN X0 hx (t := .boolean) Bd.returns (by simp) (hb hby d13_33) hr
  · show Q58 Z v0 v1 v2 v3 v4 v5 v6 v7 v8 v9 cs_v a1 a2 k_a1 p4 p5 p6 k_a2 p8 p9 p10 h0 n0 _ s₁.heap _
    rw [e0]
    exact ⟨rfl, N0, rfl⟩
def Q59 (Z : State) (v0 : Addr) (v1 : Addr) (v2 : Addr) (v3 : Addr) (v4 : Addr) (v5 : Addr) (v6 : Addr) (v7 : Addr) (v8 : Addr) (v9 : Addr) (cs_v : Int32) (a1 : Addr) (a2 : Addr) (k_a1 : ClassId) (p4 : Int32) (p5 : Int32) (p6 : Int32) (k_a2 : ClassId) (p8 : Int32) (p9 : Int32) (p10 : Int32) (h0 : Heap) (n0 : Nat) (v : Option Value) (h : Heap) (L : List Loc) : Prop := v = some (.int (0 : Int32)) ∧ Fr n0 L ∧ h = h0
theorem rm59 (l : Launch) (Z : State) (a0 : Array Value) (hw : ∀ d ∈ tables_1, d.before a0 Z = true) (ws : List Jvm.Cond) (v0 v1 v2 v3 v4 v5 v6 v7 v8 v9 : Addr) (cs_v : Int32) (hp : Perm Z v0 v1 v2 v3 v4 v5 v6 v7 v8 v9 cs_v) (a1 : Addr) (a2 : Addr) (k_a1 : ClassId) (p4 : Int32) (p5 : Int32) (p6 : Int32) (k_a2 : ClassId) (p8 : Int32) (p9 : Int32) (p10 : Int32) (h0 : Heap) (n0 : Nat) (O0 : Old Z n0 h0) (V_a1 : Arv Z h0 a1 k_a1 .byte (3 : Int32) [(.int p4), (.int p5), (.int p6)] (.int (0 : Int32))) (V_a2 : Arv Z h0 a2 k_a2 .byte (3 : Int32) [(.int p8), (.int p9), (.int p10)] (.int (0 : Int32))) (hc3 : ¬ (p4 = p8)) :
    MetFree l y14 (head1 (Jvm.Cond.code y14 jdk_43_method_13_code 3 (some .boolean) :: ws) ({ frames := 0, cells := 0, slots := 0, locals := 0 } : Room)) (fun a U => a = #[(.ref a1), (.ref a2)] ∧ Z.Warmed39 U.vm ∧ U.heap = h0) (fun _ _ _ _ _ => True) (fun _ U o U' => ∃ v L, o = .returned v ∧ Q59 Z v0 v1 v2 v3 v4 v5 v6 v7 v8 v9 cs_v a1 a2 k_a1 p4 p5 p6 k_a2 p8 p9 p10 h0 n0 v U'.heap L ∧ FrameEnd U o U' L ({ frames := 0, cells := 0, slots := 0, locals := 0 } : Room).cells ({ frames := 0, cells := 0, slots := 0, locals := 0 } : Room).slots) := by
  refine MetFree.of_bodySF (plainFor_of_name pn_13) hisR ?_
  intro p e s m args below meth c s₁ Bd hml0 hP hK
  obtain ⟨rfl, hZ, hh⟩ := hP
  have hx := Bd.exec
  have hby := Bd.bytes
  have hml : c.maxLocals = 3 := hml0
  have hown : s.vm.findClass "java/lang/StringLatin1" = some m.cls := findClass_of_methodNamed Bd.named
  have hnm := (name_of_methodNamed Bd.named Bd.method).1
  have X0 : Stand p l e ({ frames := 0, cells := 0, slots := 0, locals := 0 } : Room) s m #[(.ref a1), (.ref a2)] below meth c s₁ [] 0 0 := Stand.of_body Bd
  have e0 : s₁.heap = h0 := by rw [← hh, Bd.state]; rfl
  have N0 := Fr.nil n0
  obtain ⟨cl1, Ar1, -, S1, Nn1, -, -⟩ := id V_a1
  obtain ⟨cl2, Ar2, -, S2, Nn2, -, -⟩ := id V_a2
  obtain ⟨cl3, Ar3, -, S3, Nn3, -, -⟩ := id V_a1
  obtain ⟨cl4, Ar4, -, S4, -, H4, -⟩ := id V_a1
  have hin4 : ¬ ((0 : Int32) < 0 ∨ cl4.slots.size ≤ ((0 : Int32)).toNatClampNeg) := inb_of S4 ⟨by decide, by decide⟩
  have hat4 : cl4.slots[((0 : Int32)).toNatClampNeg]? = some (.int p4) := H4.at hin4 rfl
  obtain ⟨cl5, Ar5, -, S5, -, H5, -⟩ := id V_a2
  have hin5 : ¬ ((0 : Int32) < 0 ∨ cl5.slots.size ≤ ((0 : Int32)).toNatClampNeg) := inb_of S5 ⟨by decide, by decide⟩
  have hat5 : cl5.slots[((0 : Int32)).toNatClampNeg]? = some (.int p8) := H5.at hin5 rfl
  obtain ⟨fs, hr, hrun, hended, hW, hsame⟩ := X0.leave (v := some (.int (0 : Int32))) (fun h => by rw [Bd.returns] at h; cases h)
  refine ⟨_, _, castTop (ef_13_0 m a1 a2) ?_, hrun, hended, _, _, rfl, ?_, ⟨_, rfl⟩, hW, hsame.mono (by decide) (by decide)⟩
  · show Sp p e below s₁ (mkF m 0 #[.val (.ref a1), .val (.ref a2), .unset] []) _
    refine XS.aloadN X0.here hx rfl (hb hby d13_0) rfl rfl ?_
    show Sp p e below s₁ (mkF m 1 #[.val (.ref a1), .val (.ref a2), .unset] [(.ref a1)]) _
    refine X0.arraylength hx (by rw [e0]; exact Ar1.1) (State.isArrayOf_alike hZ.alike Ar1.2.1) (g := (mkF m 1 #[.val (.ref a1), .val (.ref a2), .unset] [(.ref a1)])) rfl rfl (hb hby d13_1) _ ?_
    rw [len_of S1 Nn1]
    show Sp p e below s₁ (mkF m 2 #[.val (.ref a1), .val (.ref a2), .unset] [(.int (3 : Int32))]) _
    refine XS.aloadN X0.here hx rfl (hb hby d13_2) rfl rfl ?_
    show Sp p e below s₁ (mkF m 3 #[.val (.ref a1), .val (.ref a2), .unset] [(.ref a2), (.int (3 : Int32))]) _
    refine X0.arraylength hx (by rw [e0]; exact Ar2.1) (State.isArrayOf_alike hZ.alike Ar2.2.1) (g := (mkF m 3 #[.val (.ref a1), .val (.ref a2), .unset] [(.ref a2), (.int (3 : Int32))])) rfl rfl (hb hby d13_3) _ ?_
    rw [len_of S2 Nn2]
    show Sp p e below s₁ (mkF m 4 #[.val (.ref a1), .val (.ref a2), .unset] [(.int (3 : Int32)), (.int (3 : Int32))]) _
    refine XS.icmpNo X0.here hx rfl (hb hby d13_4) rfl (teq (by decide : (3 : Int32) = (3 : Int32))).2 ?_
    refine XS.iconst X0.here hx rfl (hb hby d13_7) ?_
    refine XS.istoreN X0.here hx rfl (hb hby d13_8) rfl (l' := #[.val (.ref a1), .val (.ref a2), .val (.int (0 : Int32))]) rfl ?_
    refine XS.iloadN X0.here hx rfl (hb hby d13_9) rfl ?_
    refine XS.aloadN X0.here hx rfl (hb hby d13_10) rfl rfl ?_
    show Sp p e below s₁ (mkF m 11 #[.val (.ref a1), .val (.ref a2), .val (.int (0 : Int32))] [(.ref a1), (.int (0 : Int32))]) _
    refine X0.arraylength hx (by rw [e0]; exact Ar3.1) (State.isArrayOf_alike hZ.alike Ar3.2.1) (g := (mkF m 11 #[.val (.ref a1), .val (.ref a2), .val (.int (0 : Int32))] [(.ref a1), (.int (0 : Int32))])) rfl rfl (hb hby d13_11) _ ?_
    rw [len_of S3 Nn3]
    show Sp p e below s₁ (mkF m 12 #[.val (.ref a1), .val (.ref a2), .val (.int (0 : Int32))] [(.int (3 : Int32)), (.int (0 : Int32))]) _
    refine XS.icmpNo X0.here hx rfl (hb hby d13_12) rfl (tlt (by decide : (0 : Int32) < (3 : Int32))).2.1 ?_
    refine XS.aloadN X0.here hx rfl (hb hby d13_15) rfl rfl ?_
    refine XS.iloadN X0.here hx rfl (hb hby d13_16) rfl ?_
    show Sp p e below s₁ (mkF m 17 #[.val (.ref a1), .val (.ref a2), .val (.int (0 : Int32))] [(.int (0 : Int32)), (.ref a1)]) _
    refine X0.baloadBytes hx (j := (0 : Int32)) (v := (.int p4)) (by rw [e0]; exact Ar4.1) (State.isArrayOf_alike hZ.alike Ar4.2.1) Ar4.2.2 hin4 hat4 (g := (mkF m 17 #[.val (.ref a1), .val (.ref a2), .val (.int (0 : Int32))] [(.int (0 : Int32)), (.ref a1)])) rfl rfl (hb hby d13_17) _ ?_
    show Sp p e below s₁ (mkF m 18 #[.val (.ref a1), .val (.ref a2), .val (.int (0 : Int32))] [(.int p4)]) _
    refine XS.aloadN X0.here hx rfl (hb hby d13_18) rfl rfl ?_
    refine XS.iloadN X0.here hx rfl (hb hby d13_19) rfl ?_
    show Sp p e below s₁ (mkF m 20 #[.val (.ref a1), .val (.ref a2), .val (.int (0 : Int32))] [(.int (0 : Int32)), (.ref a2), (.int p4)]) _
    refine X0.baloadBytes hx (j := (0 : Int32)) (v := (.int p8)) (by rw [e0]; exact Ar5.1) (State.isArrayOf_alike hZ.alike Ar5.2.1) Ar5.2.2 hin5 hat5 (g := (mkF m 20 #[.val (.ref a1), .val (.ref a2), .val (.int (0 : Int32))] [(.int (0 : Int32)), (.ref a2), (.int p4)])) rfl rfl (hb hby d13_20) _ ?_
    show Sp p e below s₁ (mkF m 21 #[.val (.ref a1), .val (.ref a2), .val (.int (0 : Int32))] [(.int p8), (.int p4)]) _
    refine XS.icmpNo X0.here hx rfl (hb hby d13_21) rfl (feq hc3).1 ?_
    refine XS.iconst X0.here hx rfl (hb hby d13_24) ?_
    show Sp p e below s₁ (mkF m 25 #[.val (.ref a1), .val (.ref a2), .val (.int (0 : Int32))] [(.int (0 : Int32))]) _
    exact retN X0 hx (t := .boolean) Bd.returns (by simp) (hb hby d13_25) hr
  · show Q59 Z v0 v1 v2 v3 v4 v5 v6 v7 v8 v9 cs_v a1 a2 k_a1 p4 p5 p6 k_a2 p8 p9 p10 h0 n0 _ s₁.heap _
    rw [e0]
    exact ⟨rfl, N0, rfl⟩
def Q60 (Z : State) (v0 : Addr) (v1 : Addr) (v2 : Addr) (v3 : Addr) (v4 : Addr) (v5 : Addr) (v6 : Addr) (v7 : Addr) (v8 : Addr) (v9 : Addr) (cs_v : Int32) (a1 : Addr) (a2 : Addr) (k_a1 : ClassId) (p4 : Int32) (p5 : Int32) (p6 : Int32) (k_a2 : ClassId) (p8 : Int32) (p9 : Int32) (p10 : Int32) (h0 : Heap) (n0 : Nat) (v : Option Value) (h : Heap) (L : List Loc) : Prop := v = some (.int (0 : Int32)) ∧ Fr n0 L ∧ h = h0
theorem rm60 (l : Launch) (Z : State) (a0 : Array Value) (hw : ∀ d ∈ tables_1, d.before a0 Z = true) (ws : List Jvm.Cond) (v0 v1 v2 v3 v4 v5 v6 v7 v8 v9 : Addr) (cs_v : Int32) (hp : Perm Z v0 v1 v2 v3 v4 v5 v6 v7 v8 v9 cs_v) (a1 : Addr) (a2 : Addr) (k_a1 : ClassId) (p4 : Int32) (p5 : Int32) (p6 : Int32) (k_a2 : ClassId) (p8 : Int32) (p9 : Int32) (p10 : Int32) (h0 : Heap) (n0 : Nat) (O0 : Old Z n0 h0) (V_a1 : Arv Z h0 a1 k_a1 .byte (3 : Int32) [(.int p4), (.int p5), (.int p6)] (.int (0 : Int32))) (V_a2 : Arv Z h0 a2 k_a2 .byte (3 : Int32) [(.int p8), (.int p9), (.int p10)] (.int (0 : Int32))) (hc3 : p4 = p8) (hc4 : ¬ (p5 = p9)) :
    MetFree l y14 (head1 (Jvm.Cond.code y14 jdk_43_method_13_code 3 (some .boolean) :: ws) ({ frames := 0, cells := 0, slots := 0, locals := 0 } : Room)) (fun a U => a = #[(.ref a1), (.ref a2)] ∧ Z.Warmed39 U.vm ∧ U.heap = h0) (fun _ _ _ _ _ => True) (fun _ U o U' => ∃ v L, o = .returned v ∧ Q60 Z v0 v1 v2 v3 v4 v5 v6 v7 v8 v9 cs_v a1 a2 k_a1 p4 p5 p6 k_a2 p8 p9 p10 h0 n0 v U'.heap L ∧ FrameEnd U o U' L ({ frames := 0, cells := 0, slots := 0, locals := 0 } : Room).cells ({ frames := 0, cells := 0, slots := 0, locals := 0 } : Room).slots) := by
  refine MetFree.of_bodySF (plainFor_of_name pn_13) hisR ?_
  intro p e s m args below meth c s₁ Bd hml0 hP hK
  obtain ⟨rfl, hZ, hh⟩ := hP
  have hx := Bd.exec
  have hby := Bd.bytes
  have hml : c.maxLocals = 3 := hml0
  have hown : s.vm.findClass "java/lang/StringLatin1" = some m.cls := findClass_of_methodNamed Bd.named
  have hnm := (name_of_methodNamed Bd.named Bd.method).1
  have X0 : Stand p l e ({ frames := 0, cells := 0, slots := 0, locals := 0 } : Room) s m #[(.ref a1), (.ref a2)] below meth c s₁ [] 0 0 := Stand.of_body Bd
  have e0 : s₁.heap = h0 := by rw [← hh, Bd.state]; rfl
  have N0 := Fr.nil n0
  obtain ⟨cl1, Ar1, -, S1, Nn1, -, -⟩ := id V_a1
  obtain ⟨cl2, Ar2, -, S2, Nn2, -, -⟩ := id V_a2
  obtain ⟨cl3, Ar3, -, S3, Nn3, -, -⟩ := id V_a1
  obtain ⟨cl4, Ar4, -, S4, -, H4, -⟩ := id V_a1
  have hin4 : ¬ ((0 : Int32) < 0 ∨ cl4.slots.size ≤ ((0 : Int32)).toNatClampNeg) := inb_of S4 ⟨by decide, by decide⟩
  have hat4 : cl4.slots[((0 : Int32)).toNatClampNeg]? = some (.int p4) := H4.at hin4 rfl
  obtain ⟨cl5, Ar5, -, S5, -, H5, -⟩ := id V_a2
  have hin5 : ¬ ((0 : Int32) < 0 ∨ cl5.slots.size ≤ ((0 : Int32)).toNatClampNeg) := inb_of S5 ⟨by decide, by decide⟩
  have hat5 : cl5.slots[((0 : Int32)).toNatClampNeg]? = some (.int p8) := H5.at hin5 rfl
  obtain ⟨cl6, Ar6, -, S6, Nn6, -, -⟩ := id V_a1
  obtain ⟨cl7, Ar7, -, S7, -, H7, -⟩ := id V_a1
  have hin7 : ¬ (((0 : Int32) + (1 : Int32)) < 0 ∨ cl7.slots.size ≤ (((0 : Int32) + (1 : Int32))).toNatClampNeg) := inb_of S7 ⟨by decide, by decide⟩
  have hat7 : cl7.slots[(((0 : Int32) + (1 : Int32))).toNatClampNeg]? = some (.int p5) := H7.at hin7 rfl
  obtain ⟨cl8, Ar8, -, S8, -, H8, -⟩ := id V_a2
  have hin8 : ¬ (((0 : Int32) + (1 : Int32)) < 0 ∨ cl8.slots.size ≤ (((0 : Int32) + (1 : Int32))).toNatClampNeg) := inb_of S8 ⟨by decide, by decide⟩
  have hat8 : cl8.slots[(((0 : Int32) + (1 : Int32))).toNatClampNeg]? = some (.int p9) := H8.at hin8 rfl
  obtain ⟨fs, hr, hrun, hended, hW, hsame⟩ := X0.leave (v := some (.int (0 : Int32))) (fun h => by rw [Bd.returns] at h; cases h)
  refine ⟨_, _, castTop (ef_13_0 m a1 a2) ?_, hrun, hended, _, _, rfl, ?_, ⟨_, rfl⟩, hW, hsame.mono (by decide) (by decide)⟩
  · show Sp p e below s₁ (mkF m 0 #[.val (.ref a1), .val (.ref a2), .unset] []) _
    refine XS.aloadN X0.here hx rfl (hb hby d13_0) rfl rfl ?_
    show Sp p e below s₁ (mkF m 1 #[.val (.ref a1), .val (.ref a2), .unset] [(.ref a1)]) _
    refine X0.arraylength hx (by rw [e0]; exact Ar1.1) (State.isArrayOf_alike hZ.alike Ar1.2.1) (g := (mkF m 1 #[.val (.ref a1), .val (.ref a2), .unset] [(.ref a1)])) rfl rfl (hb hby d13_1) _ ?_
    rw [len_of S1 Nn1]
    show Sp p e below s₁ (mkF m 2 #[.val (.ref a1), .val (.ref a2), .unset] [(.int (3 : Int32))]) _
    refine XS.aloadN X0.here hx rfl (hb hby d13_2) rfl rfl ?_
    show Sp p e below s₁ (mkF m 3 #[.val (.ref a1), .val (.ref a2), .unset] [(.ref a2), (.int (3 : Int32))]) _
    refine X0.arraylength hx (by rw [e0]; exact Ar2.1) (State.isArrayOf_alike hZ.alike Ar2.2.1) (g := (mkF m 3 #[.val (.ref a1), .val (.ref a2), .unset] [(.ref a2), (.int (3 : Int32))])) rfl rfl (hb hby d13_3) _ ?_
    rw [len_of S2 Nn2]
    show Sp p e below s₁ (mkF m 4 #[.val (.ref a1), .val (.ref a2), .unset] [(.int (3 : Int32)), (.int (3 : Int32))]) _
    refine XS.icmpNo X0.here hx rfl (hb hby d13_4) rfl (teq (by decide : (3 : Int32) = (3 : Int32))).2 ?_
    refine XS.iconst X0.here hx rfl (hb hby d13_7) ?_
    refine XS.istoreN X0.here hx rfl (hb hby d13_8) rfl (l' := #[.val (.ref a1), .val (.ref a2), .val (.int (0 : Int32))]) rfl ?_
    refine XS.iloadN X0.here hx rfl (hb hby d13_9) rfl ?_
    refine XS.aloadN X0.here hx rfl (hb hby d13_10) rfl rfl ?_
    show Sp p e below s₁ (mkF m 11 #[.val (.ref a1), .val (.ref a2), .val (.int (0 : Int32))] [(.ref a1), (.int (0 : Int32))]) _
    refine X0.arraylength hx (by rw [e0]; exact Ar3.1) (State.isArrayOf_alike hZ.alike Ar3.2.1) (g := (mkF m 11 #[.val (.ref a1), .val (.ref a2), .val (.int (0 : Int32))] [(.ref a1), (.int (0 : Int32))])) rfl rfl (hb hby d13_11) _ ?_
    rw [len_of S3 Nn3]
    show Sp p e below s₁ (mkF m 12 #[.val (.ref a1), .val (.ref a2), .val (.int (0 : Int32))] [(.int (3 : Int32)), (.int (0 : Int32))]) _
    refine XS.icmpNo X0.here hx rfl (hb hby d13_12) rfl (tlt (by decide : (0 : Int32) < (3 : Int32))).2.1 ?_
    refine XS.aloadN X0.here hx rfl (hb hby d13_15) rfl rfl ?_
    refine XS.iloadN X0.here hx rfl (hb hby d13_16) rfl ?_
    show Sp p e below s₁ (mkF m 17 #[.val (.ref a1), .val (.ref a2), .val (.int (0 : Int32))] [(.int (0 : Int32)), (.ref a1)]) _
    refine X0.baloadBytes hx (j := (0 : Int32)) (v := (.int p4)) (by rw [e0]; exact Ar4.1) (State.isArrayOf_alike hZ.alike Ar4.2.1) Ar4.2.2 hin4 hat4 (g := (mkF m 17 #[.val (.ref a1), .val (.ref a2), .val (.int (0 : Int32))] [(.int (0 : Int32)), (.ref a1)])) rfl rfl (hb hby d13_17) _ ?_
    show Sp p e below s₁ (mkF m 18 #[.val (.ref a1), .val (.ref a2), .val (.int (0 : Int32))] [(.int p4)]) _
    refine XS.aloadN X0.here hx rfl (hb hby d13_18) rfl rfl ?_
    refine XS.iloadN X0.here hx rfl (hb hby d13_19) rfl ?_
    show Sp p e below s₁ (mkF m 20 #[.val (.ref a1), .val (.ref a2), .val (.int (0 : Int32))] [(.int (0 : Int32)), (.ref a2), (.int p4)]) _
    refine X0.baloadBytes hx (j := (0 : Int32)) (v := (.int p8)) (by rw [e0]; exact Ar5.1) (State.isArrayOf_alike hZ.alike Ar5.2.1) Ar5.2.2 hin5 hat5 (g := (mkF m 20 #[.val (.ref a1), .val (.ref a2), .val (.int (0 : Int32))] [(.int (0 : Int32)), (.ref a2), (.int p4)])) rfl rfl (hb hby d13_20) _ ?_
    show Sp p e below s₁ (mkF m 21 #[.val (.ref a1), .val (.ref a2), .val (.int (0 : Int32))] [(.int p8), (.int p4)]) _
    refine XS.icmpYes X0.here hx rfl (pc0 := 21) (pc' := 26) rfl (hb hby d13_21) rfl (teq hc3).1 (by decide) (by decide) ?_
    show Sp p e below s₁ (mkF m 26 #[.val (.ref a1), .val (.ref a2), .val (.int (0 : Int32))] []) _
    refine XS.iinc X0.here hx rfl (hb hby d13_26) rfl (l' := #[.val (.ref a1), .val (.ref a2), .val (.int (fx10 ))]) rfl ?_
    refine XS.goto X0.here hx rfl (pc0 := 29) (pc' := 9) rfl (hb hby d13_29) (by decide) (by decide) ?_
    refine XS.iloadN X0.here hx rfl (hb hby d13_9) rfl ?_
    refine XS.aloadN X0.here hx rfl (hb hby d13_10) rfl rfl ?_
    show Sp p e below s₁ (mkF m 11 #[.val (.ref a1), .val (.ref a2), .val (.int (fx10 ))] [(.ref a1), (.int (fx10 ))]) _
    refine X0.arraylength hx (by rw [e0]; exact Ar6.1) (State.isArrayOf_alike hZ.alike Ar6.2.1) (g := (mkF m 11 #[.val (.ref a1), .val (.ref a2), .val (.int (fx10 ))] [(.ref a1), (.int (fx10 ))])) rfl rfl (hb hby d13_11) _ ?_
    rw [len_of S6 Nn6]
    show Sp p e below s₁ (mkF m 12 #[.val (.ref a1), .val (.ref a2), .val (.int (fx10 ))] [(.int (3 : Int32)), (.int (fx10 ))]) _
    refine XS.icmpNo X0.here hx rfl (hb hby d13_12) rfl (tlt (by decide : ((0 : Int32) + (1 : Int32)) < (3 : Int32))).2.1 ?_
    refine XS.aloadN X0.here hx rfl (hb hby d13_15) rfl rfl ?_
    refine XS.iloadN X0.here hx rfl (hb hby d13_16) rfl ?_
    show Sp p e below s₁ (mkF m 17 #[.val (.ref a1), .val (.ref a2), .val (.int (fx10 ))] [(.int (fx10 )), (.ref a1)]) _
    refine X0.baloadBytes hx (j := ((0 : Int32) + (1 : Int32))) (v := (.int p5)) (by rw [e0]; exact Ar7.1) (State.isArrayOf_alike hZ.alike Ar7.2.1) Ar7.2.2 hin7 hat7 (g := (mkF m 17 #[.val (.ref a1), .val (.ref a2), .val (.int (fx10 ))] [(.int (fx10 )), (.ref a1)])) rfl rfl (hb hby d13_17) _ ?_
    show Sp p e below s₁ (mkF m 18 #[.val (.ref a1), .val (.ref a2), .val (.int (fx10 ))] [(.int p5)]) _
    refine XS.aloadN X0.here hx rfl (hb hby d13_18) rfl rfl ?_
    refine XS.iloadN X0.here hx rfl (hb hby d13_19) rfl ?_
    show Sp p e below s₁ (mkF m 20 #[.val (.ref a1), .val (.ref a2), .val (.int (fx10 ))] [(.int (fx10 )), (.ref a2), (.int p5)]) _
    refine X0.baloadBytes hx (j := ((0 : Int32) + (1 : Int32))) (v := (.int p9)) (by rw [e0]; exact Ar8.1) (State.isArrayOf_alike hZ.alike Ar8.2.1) Ar8.2.2 hin8 hat8 (g := (mkF m 20 #[.val (.ref a1), .val (.ref a2), .val (.int (fx10 ))] [(.int (fx10 )), (.ref a2), (.int p5)])) rfl rfl (hb hby d13_20) _ ?_
    show Sp p e below s₁ (mkF m 21 #[.val (.ref a1), .val (.ref a2), .val (.int (fx10 ))] [(.int p9), (.int p5)]) _
    refine XS.icmpNo X0.here hx rfl (hb hby d13_21) rfl (feq hc4).1 ?_
    refine XS.iconst X0.here hx rfl (hb hby d13_24) ?_
    show Sp p e below s₁ (mkF m 25 #[.val (.ref a1), .val (.ref a2), .val (.int (fx10 ))] [(.int (0 : Int32))]) _
    exact retN X0 hx (t := .boolean) Bd.returns (by simp) (hb hby d13_25) hr
  · show Q60 Z v0 v1 v2 v3 v4 v5 v6 v7 v8 v9 cs_v a1 a2 k_a1 p4 p5 p6 k_a2 p8 p9 p10 h0 n0 _ s₁.heap _
    rw [e0]
    exact ⟨rfl, N0, rfl⟩
def Q61 (Z : State) (v0 : Addr) (v1 : Addr) (v2 : Addr) (v3 : Addr) (v4 : Addr) (v5 : Addr) (v6 : Addr) (v7 : Addr) (v8 : Addr) (v9 : Addr) (cs_v : Int32) (a1 : Addr) (a2 : Addr) (k_a1 : ClassId) (p4 : Int32) (p5 : Int32) (p6 : Int32) (k_a2 : ClassId) (p8 : Int32) (p9 : Int32) (p10 : Int32) (h0 : Heap) (n0 : Nat) (v : Option Value) (h : Heap) (L : List Loc) : Prop := v = some (.int (0 : Int32)) ∧ Fr n0 L ∧ h = h0
theorem rm61 (l : Launch) (Z : State) (a0 : Array Value) (hw : ∀ d ∈ tables_1, d.before a0 Z = true) (ws : List Jvm.Cond) (v0 v1 v2 v3 v4 v5 v6 v7 v8 v9 : Addr) (cs_v : Int32) (hp : Perm Z v0 v1 v2 v3 v4 v5 v6 v7 v8 v9 cs_v) (a1 : Addr) (a2 : Addr) (k_a1 : ClassId) (p4 : Int32) (p5 : Int32) (p6 : Int32) (k_a2 : ClassId) (p8 : Int32) (p9 : Int32) (p10 : Int32) (h0 : Heap) (n0 : Nat) (O0 : Old Z n0 h0) (V_a1 : Arv Z h0 a1 k_a1 .byte (3 : Int32) [(.int p4), (.int p5), (.int p6)] (.int (0 : Int32))) (V_a2 : Arv Z h0 a2 k_a2 .byte (3 : Int32) [(.int p8), (.int p9), (.int p10)] (.int (0 : Int32))) (hc3 : p4 = p8) (hc4 : p5 = p9) (hc5 : ¬ (p6 = p10)) :
    MetFree l y14 (head1 (Jvm.Cond.code y14 jdk_43_method_13_code 3 (some .boolean) :: ws) ({ frames := 0, cells := 0, slots := 0, locals := 0 } : Room)) (fun a U => a = #[(.ref a1), (.ref a2)] ∧ Z.Warmed39 U.vm ∧ U.heap = h0) (fun _ _ _ _ _ => True) (fun _ U o U' => ∃ v L, o = .returned v ∧ Q61 Z v0 v1 v2 v3 v4 v5 v6 v7 v8 v9 cs_v a1 a2 k_a1 p4 p5 p6 k_a2 p8 p9 p10 h0 n0 v U'.heap L ∧ FrameEnd U o U' L ({ frames := 0, cells := 0, slots := 0, locals := 0 } : Room).cells ({ frames := 0, cells := 0, slots := 0, locals := 0 } : Room).slots) := by
  refine MetFree.of_bodySF (plainFor_of_name pn_13) hisR ?_
  intro p e s m args below meth c s₁ Bd hml0 hP hK
  obtain ⟨rfl, hZ, hh⟩ := hP
  have hx := Bd.exec
  have hby := Bd.bytes
  have hml : c.maxLocals = 3 := hml0
  have hown : s.vm.findClass "java/lang/StringLatin1" = some m.cls := findClass_of_methodNamed Bd.named
  have hnm := (name_of_methodNamed Bd.named Bd.method).1
  have X0 : Stand p l e ({ frames := 0, cells := 0, slots := 0, locals := 0 } : Room) s m #[(.ref a1), (.ref a2)] below meth c s₁ [] 0 0 := Stand.of_body Bd
  have e0 : s₁.heap = h0 := by rw [← hh, Bd.state]; rfl
  have N0 := Fr.nil n0
  obtain ⟨cl1, Ar1, -, S1, Nn1, -, -⟩ := id V_a1
  obtain ⟨cl2, Ar2, -, S2, Nn2, -, -⟩ := id V_a2
  obtain ⟨cl3, Ar3, -, S3, Nn3, -, -⟩ := id V_a1
  obtain ⟨cl4, Ar4, -, S4, -, H4, -⟩ := id V_a1
  have hin4 : ¬ ((0 : Int32) < 0 ∨ cl4.slots.size ≤ ((0 : Int32)).toNatClampNeg) := inb_of S4 ⟨by decide, by decide⟩
  have hat4 : cl4.slots[((0 : Int32)).toNatClampNeg]? = some (.int p4) := H4.at hin4 rfl
  obtain ⟨cl5, Ar5, -, S5, -, H5, -⟩ := id V_a2
  have hin5 : ¬ ((0 : Int32) < 0 ∨ cl5.slots.size ≤ ((0 : Int32)).toNatClampNeg) := inb_of S5 ⟨by decide, by decide⟩
  have hat5 : cl5.slots[((0 : Int32)).toNatClampNeg]? = some (.int p8) := H5.at hin5 rfl
  obtain ⟨cl6, Ar6, -, S6, Nn6, -, -⟩ := id V_a1
  obtain ⟨cl7, Ar7, -, S7, -, H7, -⟩ := id V_a1
  have hin7 : ¬ (((0 : Int32) + (1 : Int32)) < 0 ∨ cl7.slots.size ≤ (((0 : Int32) + (1 : Int32))).toNatClampNeg) := inb_of S7 ⟨by decide, by decide⟩
  have hat7 : cl7.slots[(((0 : Int32) + (1 : Int32))).toNatClampNeg]? = some (.int p5) := H7.at hin7 rfl
  obtain ⟨cl8, Ar8, -, S8, -, H8, -⟩ := id V_a2
  have hin8 : ¬ (((0 : Int32) + (1 : Int32)) < 0 ∨ cl8.slots.size ≤ (((0 : Int32) + (1 : Int32))).toNatClampNeg) := inb_of S8 ⟨by decide, by decide⟩
  have hat8 : cl8.slots[(((0 : Int32) + (1 : Int32))).toNatClampNeg]? = some (.int p9) := H8.at hin8 rfl
  obtain ⟨cl9, Ar9, -, S9, Nn9, -, -⟩ := id V_a1
  obtain ⟨cl10, Ar10, -, S10, -, H10, -⟩ := id V_a1
  have hin10 : ¬ ((((0 : Int32) + (1 : Int32)) + (1 : Int32)) < 0 ∨ cl10.slots.size ≤ ((((0 : Int32) + (1 : Int32)) + (1 : Int32))).toNatClampNeg) := inb_of S10 ⟨by decide, by decide⟩
  have hat10 : cl10.slots[((((0 : Int32) + (1 : Int32)) + (1 : Int32))).toNatClampNeg]? = some (.int p6) := H10.at hin10 rfl
  obtain ⟨cl11, Ar11, -, S11, -, H11, -⟩ := id V_a2
  have hin11 : ¬ ((((0 : Int32) + (1 : Int32)) + (1 : Int32)) < 0 ∨ cl11.slots.size ≤ ((((0 : Int32) + (1 : Int32)) + (1 : Int32))).toNatClampNeg) := inb_of S11 ⟨by decide, by decide⟩
  have hat11 : cl11.slots[((((0 : Int32) + (1 : Int32)) + (1 : Int32))).toNatClampNeg]? = some (.int p10) := H11.at hin11 rfl
  obtain ⟨fs, hr, hrun, hended, hW, hsame⟩ := X0.leave (v := some (.int (0 : Int32))) (fun h => by rw [Bd.returns] at h; cases h)
  refine ⟨_, _, castTop (ef_13_0 m a1 a2) ?_, hrun, hended, _, _, rfl, ?_, ⟨_, rfl⟩, hW, hsame.mono (by decide) (by decide)⟩
  · show Sp p e below s₁ (mkF m 0 #[.val (.ref a1), .val (.ref a2), .unset] []) _
    refine XS.aloadN X0.here hx rfl (hb hby d13_0) rfl rfl ?_
    show Sp p e below s₁ (mkF m 1 #[.val (.ref a1), .val (.ref a2), .unset] [(.ref a1)]) _
    refine X0.arraylength hx (by rw [e0]; exact Ar1.1) (State.isArrayOf_alike hZ.alike Ar1.2.1) (g := (mkF m 1 #[.val (.ref a1), .val (.ref a2), .unset] [(.ref a1)])) rfl rfl (hb hby d13_1) _ ?_
    rw [len_of S1 Nn1]
    show Sp p e below s₁ (mkF m 2 #[.val (.ref a1), .val (.ref a2), .unset] [(.int (3 : Int32))]) _
    refine XS.aloadN X0.here hx rfl (hb hby d13_2) rfl rfl ?_
    show Sp p e below s₁ (mkF m 3 #[.val (.ref a1), .val (.ref a2), .unset] [(.ref a2), (.int (3 : Int32))]) _
    refine X0.arraylength hx (by rw [e0]; exact Ar2.1) (State.isArrayOf_alike hZ.alike Ar2.2.1) (g := (mkF m 3 #[.val (.ref a1), .val (.ref a2), .unset] [(.ref a2), (.int (3 : Int32))])) rfl rfl (hb hby d13_3) _ ?_
    rw [len_of S2 Nn2]
    show Sp p e below s₁ (mkF m 4 #[.val (.ref a1), .val (.ref a2), .unset] [(.int (3 : Int32)), (.int (3 : Int32))]) _
    refine XS.icmpNo X0.here hx rfl (hb hby d13_4) rfl (teq (by decide : (3 : Int32) = (3 : Int32))).2 ?_
    refine XS.iconst X0.here hx rfl (hb hby d13_7) ?_
    refine XS.istoreN X0.here hx rfl (hb hby d13_8) rfl (l' := #[.val (.ref a1), .val (.ref a2), .val (.int (0 : Int32))]) rfl ?_
    refine XS.iloadN X0.here hx rfl (hb hby d13_9) rfl ?_
    refine XS.aloadN X0.here hx rfl (hb hby d13_10) rfl rfl ?_
    show Sp p e below s₁ (mkF m 11 #[.val (.ref a1), .val (.ref a2), .val (.int (0 : Int32))] [(.ref a1), (.int (0 : Int32))]) _
    refine X0.arraylength hx (by rw [e0]; exact Ar3.1) (State.isArrayOf_alike hZ.alike Ar3.2.1) (g := (mkF m 11 #[.val (.ref a1), .val (.ref a2), .val (.int (0 : Int32))] [(.ref a1), (.int (0 : Int32))])) rfl rfl (hb hby d13_11) _ ?_
    rw [len_of S3 Nn3]
    show Sp p e below s₁ (mkF m 12 #[.val (.ref a1), .val (.ref a2), .val (.int (0 : Int32))] [(.int (3 : Int32)), (.int (0 : Int32))]) _
    refine XS.icmpNo X0.here hx rfl (hb hby d13_12) rfl (tlt (by decide : (0 : Int32) < (3 : Int32))).2.1 ?_
    refine XS.aloadN X0.here hx rfl (hb hby d13_15) rfl rfl ?_
    refine XS.iloadN X0.here hx rfl (hb hby d13_16) rfl ?_
    show Sp p e below s₁ (mkF m 17 #[.val (.ref a1), .val (.ref a2), .val (.int (0 : Int32))] [(.int (0 : Int32)), (.ref a1)]) _
    refine X0.baloadBytes hx (j := (0 : Int32)) (v := (.int p4)) (by rw [e0]; exact Ar4.1) (State.isArrayOf_alike hZ.alike Ar4.2.1) Ar4.2.2 hin4 hat4 (g := (mkF m 17 #[.val (.ref a1), .val (.ref a2), .val (.int (0 : Int32))] [(.int (0 : Int32)), (.ref a1)])) rfl rfl (hb hby d13_17) _ ?_
    show Sp p e below s₁ (mkF m 18 #[.val (.ref a1), .val (.ref a2), .val (.int (0 : Int32))] [(.int p4)]) _
    refine XS.aloadN X0.here hx rfl (hb hby d13_18) rfl rfl ?_
    refine XS.iloadN X0.here hx rfl (hb hby d13_19) rfl ?_
    show Sp p e below s₁ (mkF m 20 #[.val (.ref a1), .val (.ref a2), .val (.int (0 : Int32))] [(.int (0 : Int32)), (.ref a2), (.int p4)]) _
    refine X0.baloadBytes hx (j := (0 : Int32)) (v := (.int p8)) (by rw [e0]; exact Ar5.1) (State.isArrayOf_alike hZ.alike Ar5.2.1) Ar5.2.2 hin5 hat5 (g := (mkF m 20 #[.val (.ref a1), .val (.ref a2), .val (.int (0 : Int32))] [(.int (0 : Int32)), (.ref a2), (.int p4)])) rfl rfl (hb hby d13_20) _ ?_
    show Sp p e below s₁ (mkF m 21 #[.val (.ref a1), .val (.ref a2), .val (.int (0 : Int32))] [(.int p8), (.int p4)]) _
    refine XS.icmpYes X0.here hx rfl (pc0 := 21) (pc' := 26) rfl (hb hby d13_21) rfl (teq hc3).1 (by decide) (by decide) ?_
    show Sp p e below s₁ (mkF m 26 #[.val (.ref a1), .val (.ref a2), .val (.int (0 : Int32))] []) _
    refine XS.iinc X0.here hx rfl (hb hby d13_26) rfl (l' := #[.val (.ref a1), .val (.ref a2), .val (.int (fx10 ))]) rfl ?_
    refine XS.goto X0.here hx rfl (pc0 := 29) (pc' := 9) rfl (hb hby d13_29) (by decide) (by decide) ?_
    refine XS.iloadN X0.here hx rfl (hb hby d13_9) rfl ?_
    refine XS.aloadN X0.here hx rfl (hb hby d13_10) rfl rfl ?_
    show Sp p e below s₁ (mkF m 11 #[.val (.ref a1), .val (.ref a2), .val (.int (fx10 ))] [(.ref a1), (.int (fx10 ))]) _
    refine X0.arraylength hx (by rw [e0]; exact Ar6.1) (State.isArrayOf_alike hZ.alike Ar6.2.1) (g := (mkF m 11 #[.val (.ref a1), .val (.ref a2), .val (.int (fx10 ))] [(.ref a1), (.int (fx10 ))])) rfl rfl (hb hby d13_11) _ ?_
    rw [len_of S6 Nn6]
    show Sp p e below s₁ (mkF m 12 #[.val (.ref a1), .val (.ref a2), .val (.int (fx10 ))] [(.int (3 : Int32)), (.int (fx10 ))]) _
    refine XS.icmpNo X0.here hx rfl (hb hby d13_12) rfl (tlt (by decide : ((0 : Int32) + (1 : Int32)) < (3 : Int32))).2.1 ?_
    refine XS.aloadN X0.here hx rfl (hb hby d13_15) rfl rfl ?_
    refine XS.iloadN X0.here hx rfl (hb hby d13_16) rfl ?_
    show Sp p e below s₁ (mkF m 17 #[.val (.ref a1), .val (.ref a2), .val (.int (fx10 ))] [(.int (fx10 )), (.ref a1)]) _
    refine X0.baloadBytes hx (j := ((0 : Int32) + (1 : Int32))) (v := (.int p5)) (by rw [e0]; exact Ar7.1) (State.isArrayOf_alike hZ.alike Ar7.2.1) Ar7.2.2 hin7 hat7 (g := (mkF m 17 #[.val (.ref a1), .val (.ref a2), .val (.int (fx10 ))] [(.int (fx10 )), (.ref a1)])) rfl rfl (hb hby d13_17) _ ?_
    show Sp p e below s₁ (mkF m 18 #[.val (.ref a1), .val (.ref a2), .val (.int (fx10 ))] [(.int p5)]) _
    refine XS.aloadN X0.here hx rfl (hb hby d13_18) rfl rfl ?_
    refine XS.iloadN X0.here hx rfl (hb hby d13_19) rfl ?_
    show Sp p e below s₁ (mkF m 20 #[.val (.ref a1), .val (.ref a2), .val (.int (fx10 ))] [(.int (fx10 )), (.ref a2), (.int p5)]) _
    refine X0.baloadBytes hx (j := ((0 : Int32) + (1 : Int32))) (v := (.int p9)) (by rw [e0]; exact Ar8.1) (State.isArrayOf_alike hZ.alike Ar8.2.1) Ar8.2.2 hin8 hat8 (g := (mkF m 20 #[.val (.ref a1), .val (.ref a2), .val (.int (fx10 ))] [(.int (fx10 )), (.ref a2), (.int p5)])) rfl rfl (hb hby d13_20) _ ?_
    show Sp p e below s₁ (mkF m 21 #[.val (.ref a1), .val (.ref a2), .val (.int (fx10 ))] [(.int p9), (.int p5)]) _
    refine XS.icmpYes X0.here hx rfl (pc0 := 21) (pc' := 26) rfl (hb hby d13_21) rfl (teq hc4).1 (by decide) (by decide) ?_
    show Sp p e below s₁ (mkF m 26 #[.val (.ref a1), .val (.ref a2), .val (.int (fx10 ))] []) _
    refine XS.iinc X0.here hx rfl (hb hby d13_26) rfl (l' := #[.val (.ref a1), .val (.ref a2), .val (.int (fx12 ))]) rfl ?_
    refine XS.goto X0.here hx rfl (pc0 := 29) (pc' := 9) rfl (hb hby d13_29) (by decide) (by decide) ?_
    refine XS.iloadN X0.here hx rfl (hb hby d13_9) rfl ?_
    refine XS.aloadN X0.here hx rfl (hb hby d13_10) rfl rfl ?_
    show Sp p e below s₁ (mkF m 11 #[.val (.ref a1), .val (.ref a2), .val (.int (fx12 ))] [(.ref a1), (.int (fx12 ))]) _
    refine X0.arraylength hx (by rw [e0]; exact Ar9.1) (State.isArrayOf_alike hZ.alike Ar9.2.1) (g := (mkF m 11 #[.val (.ref a1), .val (.ref a2), .val (.int (fx12 ))] [(.ref a1), (.int (fx12 ))])) rfl rfl (hb hby d13_11) _ ?_
    rw [len_of S9 Nn9]
    show Sp p e below s₁ (mkF m 12 #[.val (.ref a1), .val (.ref a2), .val (.int (fx12 ))] [(.int (3 : Int32)), (.int (fx12 ))]) _
    refine XS.icmpNo X0.here hx rfl (hb hby d13_12) rfl (tlt (by decide : (((0 : Int32) + (1 : Int32)) + (1 : Int32)) < (3 : Int32))).2.1 ?_
    refine XS.aloadN X0.here hx rfl (hb hby d13_15) rfl rfl ?_
    refine XS.iloadN X0.here hx rfl (hb hby d13_16) rfl ?_
    show Sp p e below s₁ (mkF m 17 #[.val (.ref a1), .val (.ref a2), .val (.int (fx12 ))] [(.int (fx12 )), (.ref a1)]) _
    refine X0.baloadBytes hx (j := (((0 : Int32) + (1 : Int32)) + (1 : Int32))) (v := (.int p6)) (by rw [e0]; exact Ar10.1) (State.isArrayOf_alike hZ.alike Ar10.2.1) Ar10.2.2 hin10 hat10 (g := (mkF m 17 #[.val (.ref a1), .val (.ref a2), .val (.int (fx12 ))] [(.int (fx12 )), (.ref a1)])) rfl rfl (hb hby d13_17) _ ?_
    show Sp p e below s₁ (mkF m 18 #[.val (.ref a1), .val (.ref a2), .val (.int (fx12 ))] [(.int p6)]) _
    refine XS.aloadN X0.here hx rfl (hb hby d13_18) rfl rfl ?_
    refine XS.iloadN X0.here hx rfl (hb hby d13_19) rfl ?_
    show Sp p e below s₁ (mkF m 20 #[.val (.ref a1), .val (.ref a2), .val (.int (fx12 ))] [(.int (fx12 )), (.ref a2), (.int p6)]) _
    refine X0.baloadBytes hx (j := (((0 : Int32) + (1 : Int32)) + (1 : Int32))) (v := (.int p10)) (by rw [e0]; exact Ar11.1) (State.isArrayOf_alike hZ.alike Ar11.2.1) Ar11.2.2 hin11 hat11 (g := (mkF m 20 #[.val (.ref a1), .val (.ref a2), .val (.int (fx12 ))] [(.int (fx12 )), (.ref a2), (.int p6)])) rfl rfl (hb hby d13_20) _ ?_
    show Sp p e below s₁ (mkF m 21 #[.val (.ref a1), .val (.ref a2), .val (.int (fx12 ))] [(.int p10), (.int p6)]) _
    refine XS.icmpNo X0.here hx rfl (hb hby d13_21) rfl (feq hc5).1 ?_
    refine XS.iconst X0.here hx rfl (hb hby d13_24) ?_
    show Sp p e below s₁ (mkF m 25 #[.val (.ref a1), .val (.ref a2), .val (.int (fx12 ))] [(.int (0 : Int32))]) _
    exact retN X0 hx (t := .boolean) Bd.returns (by simp) (hb hby d13_25) hr
  · show Q61 Z v0 v1 v2 v3 v4 v5 v6 v7 v8 v9 cs_v a1 a2 k_a1 p4 p5 p6 k_a2 p8 p9 p10 h0 n0 _ s₁.heap _
    rw [e0]
    exact ⟨rfl, N0, rfl⟩
def QE13 (sa sb : Int32) (h0 : Heap) (n0 : Nat) (v : Option Value) (h : Heap) (L : List Loc) : Prop := v = some (.int (sxE sa sb)) ∧ Fr n0 L ∧ h = h0
set_option maxRecDepth 65536 in
set_option maxHeartbeats 4000000 in
theorem rmE13 (l : Launch) (Z : State) (a0 : Array Value) (hw : ∀ d ∈ tables_1, d.before a0 Z = true) (ws : List Jvm.Cond) (v0 v1 v2 v3 v4 v5 v6 v7 v8 v9 : Addr) (cs_v : Int32) (hp : Perm Z v0 v1 v2 v3 v4 v5 v6 v7 v8 v9 cs_v) (a1 a2 : Addr) (k1 k2 : ClassId) (sa sb : Int32) (h0 : Heap) (n0 : Nat) (O0 : Old Z n0 h0) (V_a1 : Arv Z h0 a1 k1 .byte (sxN sa) (sxV sa) (.int (0 : Int32))) (V_a2 : Arv Z h0 a2 k2 .byte (sxN sb) (sxV sb) (.int (0 : Int32))) :
    MetFree l y14 (head1 (Jvm.Cond.code y14 jdk_43_method_13_code 3 (some .boolean) :: ws) ({ frames := 0, cells := 0, slots := 0, locals := 0 } : Room)) (fun a U => a = #[(.ref a1), (.ref a2)] ∧ Z.Warmed39 U.vm ∧ U.heap = h0) (fun _ _ _ _ _ => True) (fun _ U o U' => ∃ v L, o = .returned v ∧ QE13 sa sb h0 n0 v U'.heap L ∧ FrameEnd U o U' L ({ frames := 0, cells := 0, slots := 0, locals := 0 } : Room).cells ({ frames := 0, cells := 0, slots := 0, locals := 0 } : Room).slots) := by
  by_cases hL : (sxN sa) = (sxN sb)
  · skip
    by_cases ca0 : (sxL sa) = (0 : Int32)
    · skip
      by_cases cb0 : (sxL sb) = (0 : Int32)
      · skip
        have hN1 : (sxN sa) = (0 : Int32) := by rw [sxN, if_pos ca0] <;> rfl
        have hV1 : (sxV sa) = [] := by rw [sxV, if_pos ca0] <;> rfl
        have hN2 : (sxN sb) = (0 : Int32) := by rw [sxN, if_pos cb0] <;> rfl
        have hV2 : (sxV sb) = [] := by rw [sxV, if_pos cb0] <;> rfl
        have W1 := V_a1; rw [hN1, hV1] at W1
        have W2 := V_a2; rw [hN2, hV2] at W2
        have hE : (sxE sa sb) = (1 : Int32) := by rw [sxE, hN1, hN2, hV1, hV2, if_pos ⟨rfl, rfl⟩]
        exact (rm52 l Z a0 hw ws v0 v1 v2 v3 v4 v5 v6 v7 v8 v9 cs_v hp a1 a2 k1 k2 h0 n0 O0 W1 W2).mono (fun _ _ h => h) (fun _ _ _ _ _ h => h) (fun a s o s' _ ⟨v, L, e, q, f⟩ => ⟨v, L, e, ⟨by rw [hE]; exact q.1, q.2.1, q.2.2⟩, f⟩)
      · skip
        by_cases cb1 : (sxL sb) = (1 : Int32)
        · skip
          have hN1 : (sxN sa) = (0 : Int32) := by rw [sxN, if_pos ca0] <;> rfl
          have hV1 : (sxV sa) = [] := by rw [sxV, if_pos ca0] <;> rfl
          have hN2 : (sxN sb) = (1 : Int32) := by rw [sxN, if_neg cb0, if_pos cb1] <;> rfl
          have hV2 : (sxV sb) = [(.int (sxB sb))] := by rw [sxV, if_neg cb0, if_pos cb1] <;> rfl
          exact absurd hL (by rw [hN1, hN2]; decide)
        · skip
          by_cases cb2 : (sxL sb) = (2 : Int32)
          · skip
            have hN1 : (sxN sa) = (0 : Int32) := by rw [sxN, if_pos ca0] <;> rfl
            have hV1 : (sxV sa) = [] := by rw [sxV, if_pos ca0] <;> rfl
            have hN2 : (sxN sb) = (2 : Int32) := by rw [sxN, if_neg cb0, if_neg cb1, if_pos cb2] <;> rfl
            have hV2 : (sxV sb) = [(.int (sxB sb)), (.int (sxB ((sb.toUInt32 >>> ((8 : Int32) &&& 31).toUInt32).toInt32)))] := by rw [sxV, if_neg cb0, if_neg cb1, if_pos cb2] <;> rfl
            exact absurd hL (by rw [hN1, hN2]; decide)
          · skip
            have hN1 : (sxN sa) = (0 : Int32) := by rw [sxN, if_pos ca0] <;> rfl
            have hV1 : (sxV sa) = [] := by rw [sxV, if_pos ca0] <;> rfl
            have hN2 : (sxN sb) = (3 : Int32) := by rw [sxN, if_neg cb0, if_neg cb1, if_neg cb2] <;> rfl
            have hV2 : (sxV sb) = [(.int (sxB sb)), (.int (sxB ((sb.toUInt32 >>> ((8 : Int32) &&& 31).toUInt32).toInt32))), (.int (sxB ((sb.toUInt32 >>> ((16 : Int32) &&& 31).toUInt32).toInt32)))] := by rw [sxV, if_neg cb0, if_neg cb1, if_neg cb2] <;> rfl
            exact absurd hL (by rw [hN1, hN2]; decide)
    · skip
      by_cases ca1 : (sxL sa) = (1 : Int32)
      · skip
        by_cases cb0 : (sxL sb) = (0 : Int32)
        · skip
          have hN1 : (sxN sa) = (1 : Int32) := by rw [sxN, if_neg ca0, if_pos ca1] <;> rfl
          have hV1 : (sxV sa) = [(.int (sxB sa))] := by rw [sxV, if_neg ca0, if_pos ca1] <;> rfl
          have hN2 : (sxN sb) = (0 : Int32) := by rw [sxN, if_pos cb0] <;> rfl
          have hV2 : (sxV sb) = [] := by rw [sxV, if_pos cb0] <;> rfl
          exact absurd hL (by rw [hN1, hN2]; decide)
        · skip
          by_cases cb1 : (sxL sb) = (1 : Int32)
          · skip
            have hN1 : (sxN sa) = (1 : Int32) := by rw [sxN, if_neg ca0, if_pos ca1] <;> rfl
            have hV1 : (sxV sa) = [(.int (sxB sa))] := by rw [sxV, if_neg ca0, if_pos ca1] <;> rfl
            have hN2 : (sxN sb) = (1 : Int32) := by rw [sxN, if_neg cb0, if_pos cb1] <;> rfl
            have hV2 : (sxV sb) = [(.int (sxB sb))] := by rw [sxV, if_neg cb0, if_pos cb1] <;> rfl
            have W1 := V_a1; rw [hN1, hV1] at W1
            have W2 := V_a2; rw [hN2, hV2] at W2
            by_cases d0 : (sxB sa) = (sxB sb)
            · skip
              have hE : (sxE sa sb) = (1 : Int32) := by rw [sxE, hN1, hN2, hV1, hV2, if_pos ⟨rfl, by rw [d0]⟩]
              exact (rm53 l Z a0 hw ws v0 v1 v2 v3 v4 v5 v6 v7 v8 v9 cs_v hp a1 a2 k1 (sxB sa) k2 (sxB sb) h0 n0 O0 W1 W2 d0).mono (fun _ _ h => h) (fun _ _ _ _ _ h => h) (fun a s o s' _ ⟨v, L, e, q, f⟩ => ⟨v, L, e, ⟨by rw [hE]; exact q.1, q.2.1, q.2.2⟩, f⟩)
            · skip
              have hE : (sxE sa sb) = (0 : Int32) := by rw [sxE, hN1, hN2, hV1, hV2, if_neg (fun q => absurd q.2 (by simp only [List.cons.injEq, Value.int.injEq, d0, false_and, and_false, not_false_eq_true]))]
              exact (rm54 l Z a0 hw ws v0 v1 v2 v3 v4 v5 v6 v7 v8 v9 cs_v hp a1 a2 k1 (sxB sa) k2 (sxB sb) h0 n0 O0 W1 W2 d0).mono (fun _ _ h => h) (fun _ _ _ _ _ h => h) (fun a s o s' _ ⟨v, L, e, q, f⟩ => ⟨v, L, e, ⟨by rw [hE]; exact q.1, q.2.1, q.2.2⟩, f⟩)
          · skip
            by_cases cb2 : (sxL sb) = (2 : Int32)
            · skip
              have hN1 : (sxN sa) = (1 : Int32) := by rw [sxN, if_neg ca0, if_pos ca1] <;> rfl
              have hV1 : (sxV sa) = [(.int (sxB sa))] := by rw [sxV, if_neg ca0, if_pos ca1] <;> rfl
              have hN2 : (sxN sb) = (2 : Int32) := by rw [sxN, if_neg cb0, if_neg cb1, if_pos cb2] <;> rfl
              have hV2 : (sxV sb) = [(.int (sxB sb)), (.int (sxB ((sb.toUInt32 >>> ((8 : Int32) &&& 31).toUInt32).toInt32)))] := by rw [sxV, if_neg cb0, if_neg cb1, if_pos cb2] <;> rfl
              exact absurd hL (by rw [hN1, hN2]; decide)
            · skip
              have hN1 : (sxN sa) = (1 : Int32) := by rw [sxN, if_neg ca0, if_pos ca1] <;> rfl
              have hV1 : (sxV sa) = [(.int (sxB sa))] := by rw [sxV, if_neg ca0, if_pos ca1] <;> rfl
              have hN2 : (sxN sb) = (3 : Int32) := by rw [sxN, if_neg cb0, if_neg cb1, if_neg cb2] <;> rfl
              have hV2 : (sxV sb) = [(.int (sxB sb)), (.int (sxB ((sb.toUInt32 >>> ((8 : Int32) &&& 31).toUInt32).toInt32))), (.int (sxB ((sb.toUInt32 >>> ((16 : Int32) &&& 31).toUInt32).toInt32)))] := by rw [sxV, if_neg cb0, if_neg cb1, if_neg cb2] <;> rfl
              exact absurd hL (by rw [hN1, hN2]; decide)
      · skip
        by_cases ca2 : (sxL sa) = (2 : Int32)
        · skip
          by_cases cb0 : (sxL sb) = (0 : Int32)
          · skip
            have hN1 : (sxN sa) = (2 : Int32) := by rw [sxN, if_neg ca0, if_neg ca1, if_pos ca2] <;> rfl
            have hV1 : (sxV sa) = [(.int (sxB sa)), (.int (sxB ((sa.toUInt32 >>> ((8 : Int32) &&& 31).toUInt32).toInt32)))] := by rw [sxV, if_neg ca0, if_neg ca1, if_pos ca2] <;> rfl
            have hN2 : (sxN sb) = (0 : Int32) := by rw [sxN, if_pos cb0] <;> rfl
            have hV2 : (sxV sb) = [] := by rw [sxV, if_pos cb0] <;> rfl
            exact absurd hL (by rw [hN1, hN2]; decide)
          · skip
            by_cases cb1 : (sxL sb) = (1 : Int32)
            · skip
              have hN1 : (sxN sa) = (2 : Int32) := by rw [sxN, if_neg ca0, if_neg ca1, if_pos ca2] <;> rfl
              have hV1 : (sxV sa) = [(.int (sxB sa)), (.int (sxB ((sa.toUInt32 >>> ((8 : Int32) &&& 31).toUInt32).toInt32)))] := by rw [sxV, if_neg ca0, if_neg ca1, if_pos ca2] <;> rfl
              have hN2 : (sxN sb) = (1 : Int32) := by rw [sxN, if_neg cb0, if_pos cb1] <;> rfl
              have hV2 : (sxV sb) = [(.int (sxB sb))] := by rw [sxV, if_neg cb0, if_pos cb1] <;> rfl
              exact absurd hL (by rw [hN1, hN2]; decide)
            · skip
              by_cases cb2 : (sxL sb) = (2 : Int32)
              · skip
                have hN1 : (sxN sa) = (2 : Int32) := by rw [sxN, if_neg ca0, if_neg ca1, if_pos ca2] <;> rfl
                have hV1 : (sxV sa) = [(.int (sxB sa)), (.int (sxB ((sa.toUInt32 >>> ((8 : Int32) &&& 31).toUInt32).toInt32)))] := by rw [sxV, if_neg ca0, if_neg ca1, if_pos ca2] <;> rfl
                have hN2 : (sxN sb) = (2 : Int32) := by rw [sxN, if_neg cb0, if_neg cb1, if_pos cb2] <;> rfl
                have hV2 : (sxV sb) = [(.int (sxB sb)), (.int (sxB ((sb.toUInt32 >>> ((8 : Int32) &&& 31).toUInt32).toInt32)))] := by rw [sxV, if_neg cb0, if_neg cb1, if_pos cb2] <;> rfl
                have W1 := V_a1; rw [hN1, hV1] at W1
                have W2 := V_a2; rw [hN2, hV2] at W2
                by_cases d0 : (sxB sa) = (sxB sb)
                · skip
                  by_cases d1 : (sxB ((sa.toUInt32 >>> ((8 : Int32) &&& 31).toUInt32).toInt32)) = (sxB ((sb.toUInt32 >>> ((8 : Int32) &&& 31).toUInt32).toInt32))
                  · skip
                    have hE : (sxE sa sb) = (1 : Int32) := by rw [sxE, hN1, hN2, hV1, hV2, if_pos ⟨rfl, by rw [d0, d1]⟩]
                    exact (rm55 l Z a0 hw ws v0 v1 v2 v3 v4 v5 v6 v7 v8 v9 cs_v hp a1 a2 k1 (sxB sa) (sxB ((sa.toUInt32 >>> ((8 : Int32) &&& 31).toUInt32).toInt32)) k2 (sxB sb) (sxB ((sb.toUInt32 >>> ((8 : Int32) &&& 31).toUInt32).toInt32)) h0 n0 O0 W1 W2 d0 d1).mono (fun _ _ h => h) (fun _ _ _ _ _ h => h) (fun a s o s' _ ⟨v, L, e, q, f⟩ => ⟨v, L, e, ⟨by rw [hE]; exact q.1, q.2.1, q.2.2⟩, f⟩)
                  · skip
                    have hE : (sxE sa sb) = (0 : Int32) := by rw [sxE, hN1, hN2, hV1, hV2, if_neg (fun q => absurd q.2 (by simp only [List.cons.injEq, Value.int.injEq, d1, false_and, and_false, not_false_eq_true]))]
                    exact (rm57 l Z a0 hw ws v0 v1 v2 v3 v4 v5 v6 v7 v8 v9 cs_v hp a1 a2 k1 (sxB sa) (sxB ((sa.toUInt32 >>> ((8 : Int32) &&& 31).toUInt32).toInt32)) k2 (sxB sb) (sxB ((sb.toUInt32 >>> ((8 : Int32) &&& 31).toUInt32).toInt32)) h0 n0 O0 W1 W2 d0 d1).mono (fun _ _ h => h) (fun _ _ _ _ _ h => h) (fun a s o s' _ ⟨v, L, e, q, f⟩ => ⟨v, L, e, ⟨by rw [hE]; exact q.1, q.2.1, q.2.2⟩, f⟩)
                · skip
                  have hE : (sxE sa sb) = (0 : Int32) := by rw [sxE, hN1, hN2, hV1, hV2, if_neg (fun q => absurd q.2 (by simp only [List.cons.injEq, Value.int.injEq, d0, false_and, and_false, not_false_eq_true]))]
                  exact (rm56 l Z a0 hw ws v0 v1 v2 v3 v4 v5 v6 v7 v8 v9 cs_v hp a1 a2 k1 (sxB sa) (sxB ((sa.toUInt32 >>> ((8 : Int32) &&& 31).toUInt32).toInt32)) k2 (sxB sb) (sxB ((sb.toUInt32 >>> ((8 : Int32) &&& 31).toUInt32).toInt32)) h0 n0 O0 W1 W2 d0).mono (fun _ _ h => h) (fun _ _ _ _ _ h => h) (fun a s o s' _ ⟨v, L, e, q, f⟩ => ⟨v, L, e, ⟨by rw [hE]; exact q.1, q.2.1, q.2.2⟩, f⟩)
              · skip
                have hN1 : (sxN sa) = (2 : Int32) := by rw [sxN, if_neg ca0, if_neg ca1, if_pos ca2] <;> rfl
                have hV1 : (sxV sa) = [(.int (sxB sa)), (.int (sxB ((sa.toUInt32 >>> ((8 : Int32) &&& 31).toUInt32).toInt32)))] := by rw [sxV, if_neg ca0, if_neg ca1, if_pos ca2] <;> rfl
                have hN2 : (sxN sb) = (3 : Int32) := by rw [sxN, if_neg cb0, if_neg cb1, if_neg cb2] <;> rfl
                have hV2 : (sxV sb) = [(.int (sxB sb)), (.int (sxB ((sb.toUInt32 >>> ((8 : Int32) &&& 31).toUInt32).toInt32))), (.int (sxB ((sb.toUInt32 >>> ((16 : Int32) &&& 31).toUInt32).toInt32)))] := by rw [sxV, if_neg cb0, if_neg cb1, if_neg cb2] <;> rfl
                exact absurd hL (by rw [hN1, hN2]; decide)
        · skip
          by_cases cb0 : (sxL sb) = (0 : Int32)
          · skip
            have hN1 : (sxN sa) = (3 : Int32) := by rw [sxN, if_neg ca0, if_neg ca1, if_neg ca2] <;> rfl
            have hV1 : (sxV sa) = [(.int (sxB sa)), (.int (sxB ((sa.toUInt32 >>> ((8 : Int32) &&& 31).toUInt32).toInt32))), (.int (sxB ((sa.toUInt32 >>> ((16 : Int32) &&& 31).toUInt32).toInt32)))] := by rw [sxV, if_neg ca0, if_neg ca1, if_neg ca2] <;> rfl
            have hN2 : (sxN sb) = (0 : Int32) := by rw [sxN, if_pos cb0] <;> rfl
            have hV2 : (sxV sb) = [] := by rw [sxV, if_pos cb0] <;> rfl
            exact absurd hL (by rw [hN1, hN2]; decide)
          · skip
            by_cases cb1 : (sxL sb) = (1 : Int32)
            · skip
              have hN1 : (sxN sa) = (3 : Int32) := by rw [sxN, if_neg ca0, if_neg ca1, if_neg ca2] <;> rfl
              have hV1 : (sxV sa) = [(.int (sxB sa)), (.int (sxB ((sa.toUInt32 >>> ((8 : Int32) &&& 31).toUInt32).toInt32))), (.int (sxB ((sa.toUInt32 >>> ((16 : Int32) &&& 31).toUInt32).toInt32)))] := by rw [sxV, if_neg ca0, if_neg ca1, if_neg ca2] <;> rfl
              have hN2 : (sxN sb) = (1 : Int32) := by rw [sxN, if_neg cb0, if_pos cb1] <;> rfl
              have hV2 : (sxV sb) = [(.int (sxB sb))] := by rw [sxV, if_neg cb0, if_pos cb1] <;> rfl
              exact absurd hL (by rw [hN1, hN2]; decide)
            · skip
              by_cases cb2 : (sxL sb) = (2 : Int32)
              · skip
                have hN1 : (sxN sa) = (3 : Int32) := by rw [sxN, if_neg ca0, if_neg ca1, if_neg ca2] <;> rfl
                have hV1 : (sxV sa) = [(.int (sxB sa)), (.int (sxB ((sa.toUInt32 >>> ((8 : Int32) &&& 31).toUInt32).toInt32))), (.int (sxB ((sa.toUInt32 >>> ((16 : Int32) &&& 31).toUInt32).toInt32)))] := by rw [sxV, if_neg ca0, if_neg ca1, if_neg ca2] <;> rfl
                have hN2 : (sxN sb) = (2 : Int32) := by rw [sxN, if_neg cb0, if_neg cb1, if_pos cb2] <;> rfl
                have hV2 : (sxV sb) = [(.int (sxB sb)), (.int (sxB ((sb.toUInt32 >>> ((8 : Int32) &&& 31).toUInt32).toInt32)))] := by rw [sxV, if_neg cb0, if_neg cb1, if_pos cb2] <;> rfl
                exact absurd hL (by rw [hN1, hN2]; decide)
              · skip
                have hN1 : (sxN sa) = (3 : Int32) := by rw [sxN, if_neg ca0, if_neg ca1, if_neg ca2] <;> rfl
                have hV1 : (sxV sa) = [(.int (sxB sa)), (.int (sxB ((sa.toUInt32 >>> ((8 : Int32) &&& 31).toUInt32).toInt32))), (.int (sxB ((sa.toUInt32 >>> ((16 : Int32) &&& 31).toUInt32).toInt32)))] := by rw [sxV, if_neg ca0, if_neg ca1, if_neg ca2] <;> rfl
                have hN2 : (sxN sb) = (3 : Int32) := by rw [sxN, if_neg cb0, if_neg cb1, if_neg cb2] <;> rfl
                have hV2 : (sxV sb) = [(.int (sxB sb)), (.int (sxB ((sb.toUInt32 >>> ((8 : Int32) &&& 31).toUInt32).toInt32))), (.int (sxB ((sb.toUInt32 >>> ((16 : Int32) &&& 31).toUInt32).toInt32)))] := by rw [sxV, if_neg cb0, if_neg cb1, if_neg cb2] <;> rfl
                have W1 := V_a1; rw [hN1, hV1] at W1
                have W2 := V_a2; rw [hN2, hV2] at W2
                by_cases d0 : (sxB sa) = (sxB sb)
                · skip
                  by_cases d1 : (sxB ((sa.toUInt32 >>> ((8 : Int32) &&& 31).toUInt32).toInt32)) = (sxB ((sb.toUInt32 >>> ((8 : Int32) &&& 31).toUInt32).toInt32))
                  · skip
                    by_cases d2 : (sxB ((sa.toUInt32 >>> ((16 : Int32) &&& 31).toUInt32).toInt32)) = (sxB ((sb.toUInt32 >>> ((16 : Int32) &&& 31).toUInt32).toInt32))
                    · skip
                      have hE : (sxE sa sb) = (1 : Int32) := by rw [sxE, hN1, hN2, hV1, hV2, if_pos ⟨rfl, by rw [d0, d1, d2]⟩]
                      exact (rm58 l Z a0 hw ws v0 v1 v2 v3 v4 v5 v6 v7 v8 v9 cs_v hp a1 a2 k1 (sxB sa) (sxB ((sa.toUInt32 >>> ((8 : Int32) &&& 31).toUInt32).toInt32)) (sxB ((sa.toUInt32 >>> ((16 : Int32) &&& 31).toUInt32).toInt32)) k2 (sxB sb) (sxB ((sb.toUInt32 >>> ((8 : Int32) &&& 31).toUInt32).toInt32)) (sxB ((sb.toUInt32 >>> ((16 : Int32) &&& 31).toUInt32).toInt32)) h0 n0 O0 W1 W2 d0 d1 d2).mono (fun _ _ h => h) (fun _ _ _ _ _ h => h) (fun a s o s' _ ⟨v, L, e, q, f⟩ => ⟨v, L, e, ⟨by rw [hE]; exact q.1, q.2.1, q.2.2⟩, f⟩)
                    · skip
                      have hE : (sxE sa sb) = (0 : Int32) := by rw [sxE, hN1, hN2, hV1, hV2, if_neg (fun q => absurd q.2 (by simp only [List.cons.injEq, Value.int.injEq, d2, false_and, and_false, not_false_eq_true]))]
                      exact (rm61 l Z a0 hw ws v0 v1 v2 v3 v4 v5 v6 v7 v8 v9 cs_v hp a1 a2 k1 (sxB sa) (sxB ((sa.toUInt32 >>> ((8 : Int32) &&& 31).toUInt32).toInt32)) (sxB ((sa.toUInt32 >>> ((16 : Int32) &&& 31).toUInt32).toInt32)) k2 (sxB sb) (sxB ((sb.toUInt32 >>> ((8 : Int32) &&& 31).toUInt32).toInt32)) (sxB ((sb.toUInt32 >>> ((16 : Int32) &&& 31).toUInt32).toInt32)) h0 n0 O0 W1 W2 d0 d1 d2).mono (fun _ _ h => h) (fun _ _ _ _ _ h => h) (fun a s o s' _ ⟨v, L, e, q, f⟩ => ⟨v, L, e, ⟨by rw [hE]; exact q.1, q.2.1, q.2.2⟩, f⟩)
                  · skip
                    have hE : (sxE sa sb) = (0 : Int32) := by rw [sxE, hN1, hN2, hV1, hV2, if_neg (fun q => absurd q.2 (by simp only [List.cons.injEq, Value.int.injEq, d1, false_and, and_false, not_false_eq_true]))]
                    exact (rm60 l Z a0 hw ws v0 v1 v2 v3 v4 v5 v6 v7 v8 v9 cs_v hp a1 a2 k1 (sxB sa) (sxB ((sa.toUInt32 >>> ((8 : Int32) &&& 31).toUInt32).toInt32)) (sxB ((sa.toUInt32 >>> ((16 : Int32) &&& 31).toUInt32).toInt32)) k2 (sxB sb) (sxB ((sb.toUInt32 >>> ((8 : Int32) &&& 31).toUInt32).toInt32)) (sxB ((sb.toUInt32 >>> ((16 : Int32) &&& 31).toUInt32).toInt32)) h0 n0 O0 W1 W2 d0 d1).mono (fun _ _ h => h) (fun _ _ _ _ _ h => h) (fun a s o s' _ ⟨v, L, e, q, f⟩ => ⟨v, L, e, ⟨by rw [hE]; exact q.1, q.2.1, q.2.2⟩, f⟩)
                · skip
                  have hE : (sxE sa sb) = (0 : Int32) := by rw [sxE, hN1, hN2, hV1, hV2, if_neg (fun q => absurd q.2 (by simp only [List.cons.injEq, Value.int.injEq, d0, false_and, and_false, not_false_eq_true]))]
                  exact (rm59 l Z a0 hw ws v0 v1 v2 v3 v4 v5 v6 v7 v8 v9 cs_v hp a1 a2 k1 (sxB sa) (sxB ((sa.toUInt32 >>> ((8 : Int32) &&& 31).toUInt32).toInt32)) (sxB ((sa.toUInt32 >>> ((16 : Int32) &&& 31).toUInt32).toInt32)) k2 (sxB sb) (sxB ((sb.toUInt32 >>> ((8 : Int32) &&& 31).toUInt32).toInt32)) (sxB ((sb.toUInt32 >>> ((16 : Int32) &&& 31).toUInt32).toInt32)) h0 n0 O0 W1 W2 d0).mono (fun _ _ h => h) (fun _ _ _ _ _ h => h) (fun a s o s' _ ⟨v, L, e, q, f⟩ => ⟨v, L, e, ⟨by rw [hE]; exact q.1, q.2.1, q.2.2⟩, f⟩)
  · have hE : (sxE sa sb) = (0 : Int32) := by rw [sxE, if_neg (fun q => hL q.1)]
    exact (rm51 l Z a0 hw ws v0 v1 v2 v3 v4 v5 v6 v7 v8 v9 cs_v hp a1 a2 k1 sa k2 sb h0 n0 O0 V_a1 V_a2 hL).mono (fun _ _ h => h) (fun _ _ _ _ _ h => h) (fun a s o s' _ ⟨v, L, e, q, f⟩ => ⟨v, L, e, ⟨by rw [hE]; exact q.1, q.2.1, q.2.2⟩, f⟩)
theorem pd_13 : parseMethodDescriptor "([B[B)Z" = some ⟨[(.array .byte), (.array .byte)], some .boolean⟩ := by decide +kernel
theorem d12_47 : decode jdk_42_method_66_code 47 = .ok (.ifCond .eq 7, 3) := by decide +kernel
theorem d12_54 : decode jdk_42_method_66_code 54 = .ok (.iconst 0, 1) := by decide +kernel
theorem d12_55 : decode jdk_42_method_66_code 55 = .ok (.ireturn, 1) := by decide +kernel
def Q62 (Z : State) (v0 : Addr) (v1 : Addr) (v2 : Addr) (v3 : Addr) (v4 : Addr) (v5 : Addr) (v6 : Addr) (v7 : Addr) (v8 : Addr) (v9 : Addr) (cs_v : Int32) (a1 : Addr) (a2 : Addr) (a3 : Addr) (a4 : Addr) (k_a3 : ClassId) (p6 : Int32) (k_a4 : ClassId) (p8 : Int32) (h0 : Heap) (n0 : Nat) (v : Option Value) (h : Heap) (L : List Loc) : Prop := v = some (.int (0 : Int32)) ∧ Fr n0 L ∧ h = h0
theorem rm62 (l : Launch) (Z : State) (a0 : Array Value) (hw : ∀ d ∈ tables_1, d.before a0 Z = true) (ws : List Jvm.Cond) (v0 v1 v2 v3 v4 v5 v6 v7 v8 v9 : Addr) (cs_v : Int32) (hp : Perm Z v0 v1 v2 v3 v4 v5 v6 v7 v8 v9 cs_v) (a1 : Addr) (a2 : Addr) (a3 : Addr) (a4 : Addr) (k_a3 : ClassId) (p6 : Int32) (k_a4 : ClassId) (p8 : Int32) (h0 : Heap) (n0 : Nat) (O0 : Old Z n0 h0) (ne_a1_a2 : a1 ≠ a2) (E_a2 : Exa Z h0 a2 "java/lang/String") (F_coder_a1 : Fld Z h0 a1 "java/lang/String" "coder" "B" (.int (0 : Int32))) (F_coder_a2 : Fld Z h0 a2 "java/lang/String" "coder" "B" (.int (0 : Int32))) (F_value_a1 : Fld Z h0 a1 "java/lang/String" "value" "[B" (.ref a3)) (F_value_a2 : Fld Z h0 a2 "java/lang/String" "value" "[B" (.ref a4)) (V_a3 : Arv Z h0 a3 k_a3 .byte (sxN p6) (sxV p6) (.int (0 : Int32))) (V_a4 : Arv Z h0 a4 k_a4 .byte (sxN p8) (sxV p8) (.int (0 : Int32))) (hc9 : (sxE p6 p8) = (0 : Int32)) :
    MetFree l y12 (head1 (Jvm.Cond.code y12 jdk_42_method_66_code 3 (some .boolean) :: ws) ({ frames := 1, cells := 0, slots := 0, locals := 14 } : Room)) (fun a U => a = #[(.ref a1), (.ref a2)] ∧ Z.Warmed39 U.vm ∧ U.heap = h0) (fun _ _ _ _ _ => True) (fun _ U o U' => ∃ v L, o = .returned v ∧ Q62 Z v0 v1 v2 v3 v4 v5 v6 v7 v8 v9 cs_v a1 a2 a3 a4 k_a3 p6 k_a4 p8 h0 n0 v U'.heap L ∧ FrameEnd U o U' L ({ frames := 1, cells := 0, slots := 0, locals := 14 } : Room).cells ({ frames := 1, cells := 0, slots := 0, locals := 14 } : Room).slots) := by
  refine MetFree.of_bodySF (plainFor_of_name pn_4) hisR ?_
  intro p e s m args below meth c s₁ Bd hml0 hP hK
  obtain ⟨rfl, hZ, hh⟩ := hP
  have hx := Bd.exec
  have hby := Bd.bytes
  have hml : c.maxLocals = 3 := hml0
  have hown : s.vm.findClass "java/lang/String" = some m.cls := findClass_of_methodNamed Bd.named
  have hnm := (name_of_methodNamed Bd.named Bd.method).1
  have X0 : Stand p l e ({ frames := 1, cells := 0, slots := 0, locals := 14 } : Room) s m #[(.ref a1), (.ref a2)] below meth c s₁ [] 0 0 := Stand.of_body Bd
  have e0 : s₁.heap = h0 := by rw [← hh, Bd.state]; rfl
  have N0 := Fr.nil n0
  have hp' := hp
  obtain ⟨_, _, _, _, _, _, _, _, _, _, _, _, _, _, _, _, _, _, _, _, _, _, _, _, _, _, _, _, _, _, S_COMPACT_STRINGS, h_cs⟩ := hp'
  obtain ⟨T1, X1, e1, st1⟩ := instY X0 hx hZ hown (wq hw 75 rfl) e0 (Ins.self E_a2) (g := (mkF m 8 #[.val (.ref a1), .val (.ref a2), .unset] [(.ref a2)])) rfl rfl (hb hby d12_8)
  obtain ⟨T2, X2, e2, st2⟩ := castY X1 hx hZ hown (wq hw 75 rfl) e1 (Ins.self E_a2) (g := (mkF m 15 #[.val (.ref a1), .val (.ref a2), .unset] [(.ref a2)])) rfl rfl (hb hby d12_15)
  obtain ⟨T3, X3, e3, st3⟩ := getS2 X2 hx hZ hown (host := "") (Or.inl (wq hw 76 rfl)) Via.refl e2 (S_COMPACT_STRINGS.ext O0.2) (g := (mkF m 19 #[.val (.ref a1), .val (.ref a2), .val (.ref a2)] [])) rfl (hb hby d12_19)
  obtain ⟨T4, X4, e4, st4⟩ := getF X3 hx hZ hown (host := "") (Or.inl (wq hw 29 rfl)) Via.refl e3 F_coder_a1 (g := (mkF m 26 #[.val (.ref a1), .val (.ref a2), .val (.ref a2)] [(.ref a1)])) rfl rfl (hb hby d12_26)
  obtain ⟨T5, X5, e5, st5⟩ := getF X4 hx hZ hown (host := "") (Or.inl (wq hw 29 rfl)) Via.refl e4 F_coder_a2 (g := (mkF m 30 #[.val (.ref a1), .val (.ref a2), .val (.ref a2)] [(.ref a2), (.int (0 : Int32))])) rfl rfl (hb hby d12_30)
  obtain ⟨T6, X6, e6, st6⟩ := getF X5 hx hZ hown (host := "") (Or.inl (wq hw 28 rfl)) Via.refl e5 F_value_a1 (g := (mkF m 37 #[.val (.ref a1), .val (.ref a2), .val (.ref a2)] [(.ref a1)])) rfl rfl (hb hby d12_37)
  obtain ⟨T7, X7, e7, st7⟩ := getF X6 hx hZ hown (host := "") (Or.inl (wq hw 28 rfl)) Via.refl e6 F_value_a2 (g := (mkF m 41 #[.val (.ref a1), .val (.ref a2), .val (.ref a2)] [(.ref a2), (.ref a3)])) rfl rfl (hb hby d12_41)
  obtain ⟨_, _, ⟨T8, L8, k8, n8⟩, -, X8, ⟨Lc8, hQ8, l8, y8, z8⟩, st8⟩ := Jvm.LawKit.callS X7 hx (y := y14) hown (mvT hZ (wq hw 77 rfl)) (mvT hZ (wq hw 78 rfl)) (mvT hZ (wq hw 79 rfl)) (mvT hZ (wq hw 80 rfl)) (by decide) (backOf (W := 0) (rmE13 l Z a0 hw [] v0 v1 v2 v3 v4 v5 v6 v7 v8 v9 cs_v hp a3 a4 k_a3 k_a4 p6 p8 h0 n0 O0 V_a3 V_a4) hZ (wq hw 80 rfl) (wq hw 79 rfl) (by decide) (by decide)) (g := (mkF m 44 #[.val (.ref a1), .val (.ref a2), .val (.ref a2)] [(.ref a4), (.ref a3)])) rfl (by rw [hml]; rfl) (argsL := [(.ref a3), (.ref a4)]) (rest := []) (lenOf pd_13 rfl) rfl (by show 2 * 0 + _ ≤ _; exact Nat.le_of_eq rfl) (hb hby d12_44) (fun _ _ => ⟨rfl, e7, (by decide : 0 + 0 ≤ _), (by decide : 0 + 0 ≤ _)⟩)
  dsimp only [Pt.U, Pt.locs, Pt.cells, Pt.slots] at X8 l8 y8 z8 st8 hQ8
  subst l8 y8 z8
  obtain ⟨rfl, Nq8, eq8⟩ := hQ8
  have N8 := Fr.app N0 Nq8
  obtain ⟨fs, hr, hrun, hended, hW, hsame⟩ := X8.leave (v := some (.int (0 : Int32))) (fun h => by rw [Bd.returns] at h; cases h)
  refine ⟨_, _, castTop (ef_12_0 m a1 a2) ?_, hrun, hended, _, _, rfl, ?_, ⟨_, rfl⟩, hW, hsame.mono (by decide) (by decide)⟩
  · show Sp p e below s₁ (mkF m 0 #[.val (.ref a1), .val (.ref a2), .unset] []) _
    refine XS.aloadN X0.here hx rfl (hb hby d12_0) rfl rfl ?_
    refine XS.aloadN X0.here hx rfl (hb hby d12_1) rfl rfl ?_
    show Sp p e below s₁ (mkF m 2 #[.val (.ref a1), .val (.ref a2), .unset] [(.ref a2), (.ref a1)]) _
    refine Jvm.RoadKit.acmp (g := (mkF m 2 #[.val (.ref a1), .val (.ref a2), .unset] [(.ref a2), (.ref a1)])) X0 hx rfl rfl rfl (pc0 := 2) (pc' := 7) (same := false) rfl (hb hby d12_2) rfl (decide_eq_false fun q => ne_a1_a2 (Value.ref.inj q)) (by decide) (by decide) ?_
    show Sp p e below s₁ (mkF m 7 #[.val (.ref a1), .val (.ref a2), .unset] []) _
    refine XS.aloadN X0.here hx rfl (hb hby d12_7) rfl rfl ?_
    show Sp p e below s₁ (mkF m 8 #[.val (.ref a1), .val (.ref a2), .unset] [(.ref a2)]) _
    refine st1 _ ?_
    show Sp p e below T1 (mkF m 11 #[.val (.ref a1), .val (.ref a2), .unset] [(.int (1 : Int32))]) _
    refine XS.ifNo X1.here hx rfl (hb hby d12_11) rfl ((if0 _ _).trans (feq (by decide : ¬ ((1 : Int32) = (0 : Int32)))).1) ?_
    refine XS.aloadN X1.here hx rfl (hb hby d12_14) rfl rfl ?_
    show Sp p e below T1 (mkF m 15 #[.val (.ref a1), .val (.ref a2), .unset] [(.ref a2)]) _
    refine st2 _ ?_
    show Sp p e below T2 (mkF m 18 #[.val (.ref a1), .val (.ref a2), .unset] [(.ref a2)]) _
    refine XS.astoreN X2.here hx rfl (hb hby d12_18) rfl rfl (l' := #[.val (.ref a1), .val (.ref a2), .val (.ref a2)]) rfl ?_
    show Sp p e below T2 (mkF m 19 #[.val (.ref a1), .val (.ref a2), .val (.ref a2)] []) _
    refine st3 _ ?_
    show Sp p e below T3 (mkF m 22 #[.val (.ref a1), .val (.ref a2), .val (.ref a2)] [(.int cs_v)]) _
    refine XS.ifNo X3.here hx rfl (hb hby d12_22) rfl ((if0 _ _).trans (feq h_cs).1) ?_
    refine XS.aloadN X3.here hx rfl (hb hby d12_25) rfl rfl ?_
    show Sp p e below T3 (mkF m 26 #[.val (.ref a1), .val (.ref a2), .val (.ref a2)] [(.ref a1)]) _
    refine st4 _ ?_
    show Sp p e below T4 (mkF m 29 #[.val (.ref a1), .val (.ref a2), .val (.ref a2)] [(.int (0 : Int32))]) _
    refine XS.aloadN X4.here hx rfl (hb hby d12_29) rfl rfl ?_
    show Sp p e below T4 (mkF m 30 #[.val (.ref a1), .val (.ref a2), .val (.ref a2)] [(.ref a2), (.int (0 : Int32))]) _
    refine st5 _ ?_
    show Sp p e below T5 (mkF m 33 #[.val (.ref a1), .val (.ref a2), .val (.ref a2)] [(.int (0 : Int32)), (.int (0 : Int32))]) _
    refine XS.icmpNo X5.here hx rfl (hb hby d12_33) rfl (teq (by decide : (0 : Int32) = (0 : Int32))).2 ?_
    refine XS.aloadN X5.here hx rfl (hb hby d12_36) rfl rfl ?_
    show Sp p e below T5 (mkF m 37 #[.val (.ref a1), .val (.ref a2), .val (.ref a2)] [(.ref a1)]) _
    refine st6 _ ?_
    show Sp p e below T6 (mkF m 40 #[.val (.ref a1), .val (.ref a2), .val (.ref a2)] [(.ref a3)]) _
    refine XS.aloadN X6.here hx rfl (hb hby d12_40) rfl rfl ?_
    show Sp p e below T6 (mkF m 41 #[.val (.ref a1), .val (.ref a2), .val (.ref a2)] [(.ref a2), (.ref a3)]) _
    refine st7 _ ?_
    show Sp p e below T7 (mkF m 44 #[.val (.ref a1), .val (.ref a2), .val (.ref a2)] [(.ref a4), (.ref a3)]) _
    refine st8 _ ?_
    show Sp p e below T8 (mkF m 47 #[.val (.ref a1), .val (.ref a2), .val (.ref a2)] [(.int (sxE p6 p8))]) _
    refine XS.ifYes X8.here hx rfl (pc0 := 47) (pc' := 54) rfl (hb hby d12_47) rfl ((if0 _ _).trans (teq hc9).1) (by decide) (by decide) ?_
    refine XS.iconst X8.here hx rfl (hb hby d12_54) ?_
    show Sp p e below T8 (mkF m 55 #[.val (.ref a1), .val (.ref a2), .val (.ref a2)] [(.int (0 : Int32))]) _
    exact retN X8 hx (t := .boolean) Bd.returns (by simp) (hb hby d12_55) hr
  · show Q62 Z v0 v1 v2 v3 v4 v5 v6 v7 v8 v9 cs_v a1 a2 a3 a4 k_a3 p6 k_a4 p8 h0 n0 _ T8.heap _
    rw [eq8]
    exact ⟨rfl, N8, rfl⟩
def Q63 (Z : State) (v0 : Addr) (v1 : Addr) (v2 : Addr) (v3 : Addr) (v4 : Addr) (v5 : Addr) (v6 : Addr) (v7 : Addr) (v8 : Addr) (v9 : Addr) (cs_v : Int32) (a1 : Addr) (a2 : Addr) (a3 : Addr) (a4 : Addr) (a5 : Addr) (a6 : Addr) (a7 : Addr) (a8 : Addr) (k_a7 : ClassId) (p10 : Int32) (k_a8 : ClassId) (p12 : Int32) (h0 : Heap) (n0 : Nat) (v : Option Value) (h : Heap) (L : List Loc) : Prop := v = some (.int (0 : Int32)) ∧ Fr n0 L ∧ h = h0
theorem rm63 (l : Launch) (Z : State) (a0 : Array Value) (hw : ∀ d ∈ tables_1, d.before a0 Z = true) (ws : List Jvm.Cond) (v0 v1 v2 v3 v4 v5 v6 v7 v8 v9 : Addr) (cs_v : Int32) (hp : Perm Z v0 v1 v2 v3 v4 v5 v6 v7 v8 v9 cs_v) (a1 : Addr) (a2 : Addr) (a3 : Addr) (a4 : Addr) (a5 : Addr) (a6 : Addr) (a7 : Addr) (a8 : Addr) (k_a7 : ClassId) (p10 : Int32) (k_a8 : ClassId) (p12 : Int32) (h0 : Heap) (n0 : Nat) (O0 : Old Z n0 h0) (E_a2 : Exa Z h0 a2 "com/example/ratebook/ratebook/model/PricedItem") (F_category_a1 : Fld Z h0 a1 "com/example/ratebook/ratebook/model/PricedItem" "category" "Lcom/example/ratebook/ratebook/model/Category;" (.ref a3)) (F_category_a2 : Fld Z h0 a2 "com/example/ratebook/ratebook/model/PricedItem" "category" "Lcom/example/ratebook/ratebook/model/Category;" (.ref a4)) (aeq_a3_a4 : a3 = a4) (F_resourceId_a1 : Fld Z h0 a1 "com/example/ratebook/ratebook/model/PricedItem" "resourceId" "Ljava/lang/String;" (.ref a5)) (F_resourceId_a2 : Fld Z h0 a2 "com/example/ratebook/ratebook/model/PricedItem" "resourceId" "Ljava/lang/String;" (.ref a6)) (E_a5 : Exa Z h0 a5 "java/lang/String") (E_a6 : Exa Z h0 a6 "java/lang/String") (F_coder_a5 : Fld Z h0 a5 "java/lang/String" "coder" "B" (.int (0 : Int32))) (F_coder_a6 : Fld Z h0 a6 "java/lang/String" "coder" "B" (.int (0 : Int32))) (F_value_a5 : Fld Z h0 a5 "java/lang/String" "value" "[B" (.ref a7)) (F_value_a6 : Fld Z h0 a6 "java/lang/String" "value" "[B" (.ref a8)) (V_a7 : Arv Z h0 a7 k_a7 .byte (sxN p10) (sxV p10) (.int (0 : Int32))) (V_a8 : Arv Z h0 a8 k_a8 .byte (sxN p12) (sxV p12) (.int (0 : Int32))) (hc15 : (sxE p10 p12) = (0 : Int32)) (ne_a5_a6 : a5 ≠ a6) :
    MetFree l y11 (head1 (Jvm.Cond.code y11 prog_28_method_2_code 3 (some .boolean) :: ws) ({ frames := 2, cells := 0, slots := 0, locals := 28 } : Room)) (fun a U => a = #[(.ref a1), (.ref a2)] ∧ Z.Warmed39 U.vm ∧ U.heap = h0) (fun _ _ _ _ _ => True) (fun _ U o U' => ∃ v L, o = .returned v ∧ Q63 Z v0 v1 v2 v3 v4 v5 v6 v7 v8 v9 cs_v a1 a2 a3 a4 a5 a6 a7 a8 k_a7 p10 k_a8 p12 h0 n0 v U'.heap L ∧ FrameEnd U o U' L ({ frames := 2, cells := 0, slots := 0, locals := 28 } : Room).cells ({ frames := 2, cells := 0, slots := 0, locals := 28 } : Room).slots) := by
  refine MetFree.of_bodySF (plainFor_of_name pn_7) hisR ?_
  intro p e s m args below meth c s₁ Bd hml0 hP hK
  obtain ⟨rfl, hZ, hh⟩ := hP
  have hx := Bd.exec
  have hby := Bd.bytes
  have hml : c.maxLocals = 3 := hml0
  have hown : s.vm.findClass "com/example/ratebook/ratebook/model/PricedItem" = some m.cls := findClass_of_methodNamed Bd.named
  have hnm := (name_of_methodNamed Bd.named Bd.method).1
  have X0 : Stand p l e ({ frames := 2, cells := 0, slots := 0, locals := 28 } : Room) s m #[(.ref a1), (.ref a2)] below meth c s₁ [] 0 0 := Stand.of_body Bd
  have e0 : s₁.heap = h0 := by rw [← hh, Bd.state]; rfl
  have N0 := Fr.nil n0
  obtain ⟨T1, X1, e1, st1⟩ := instY X0 hx hZ hown (wq hw 65 rfl) e0 (Ins.self E_a2) (g := (mkF m 1 #[.val (.ref a1), .val (.ref a2), .unset] [(.ref a2)])) rfl rfl (hb hby d10_1)
  obtain ⟨T2, X2, e2, st2⟩ := castY X1 hx hZ hown (wq hw 65 rfl) e1 (Ins.self E_a2) (g := (mkF m 8 #[.val (.ref a1), .val (.ref a2), .unset] [(.ref a2)])) rfl rfl (hb hby d10_8)
  obtain ⟨T3, X3, e3, st3⟩ := getF X2 hx hZ hown (host := "") (Or.inl (wq hw 54 rfl)) Via.refl e2 F_category_a1 (g := (mkF m 13 #[.val (.ref a1), .val (.ref a2), .val (.ref a2)] [(.ref a1)])) rfl rfl (hb hby d10_13)
  obtain ⟨T4, X4, e4, st4⟩ := getF X3 hx hZ hown (host := "") (Or.inl (wq hw 54 rfl)) Via.refl e3 F_category_a2 (g := (mkF m 17 #[.val (.ref a1), .val (.ref a2), .val (.ref a2)] [(.ref a2), (.ref a3)])) rfl rfl (hb hby d10_17)
  obtain ⟨T5, X5, e5, st5⟩ := getF X4 hx hZ hown (host := "") (Or.inl (wq hw 56 rfl)) Via.refl e4 F_resourceId_a1 (g := (mkF m 24 #[.val (.ref a1), .val (.ref a2), .val (.ref a2)] [(.ref a1)])) rfl rfl (hb hby d10_24)
  obtain ⟨T6, X6, e6, st6⟩ := getF X5 hx hZ hown (host := "") (Or.inl (wq hw 56 rfl)) Via.refl e5 F_resourceId_a2 (g := (mkF m 28 #[.val (.ref a1), .val (.ref a2), .val (.ref a2)] [(.ref a2), (.ref a5)])) rfl rfl (hb hby d10_28)
  obtain ⟨cq7, kq7, q7a, q7b, q7c⟩ := isOf hZ e6 E_a5
  obtain ⟨_, _, ⟨T7, L7, k7, n7⟩, -, X7, ⟨Lc7, hQ7, l7, y7, z7⟩, st7⟩ := X6.virtualBack hx (y := y12) (z := y12) hown (mvT hZ (wq hw 70 rfl)) (mvT hZ (wq hw 71 rfl)) (notFace_of_selects (args := #[]) (mvT hZ (wq hw 73 rfl))) (mvT hZ (wq hw 73 rfl)) (mvT hZ (wq hw 72 rfl)) (by decide) (backOf (W := 0) (rm62 l Z a0 hw [] v0 v1 v2 v3 v4 v5 v6 v7 v8 v9 cs_v hp a5 a6 a7 a8 k_a7 p10 k_a8 p12 h0 n0 O0 ne_a5_a6 E_a6 F_coder_a5 F_coder_a6 F_value_a5 F_value_a6 V_a7 V_a8 hc15) hZ (wq hw 74 rfl) (wq hw 10 rfl) (by decide) (by decide)) q7a q7c (g := (mkF m 31 #[.val (.ref a1), .val (.ref a2), .val (.ref a2)] [(.ref a6), (.ref a5)])) rfl (by rw [hml]; rfl) (Steps.refl _) (argsL := [(.ref a6)]) (rest := []) (lenOf pd_11 rfl) rfl (by show 2 * 0 + _ ≤ _; exact Nat.le_of_eq rfl) (hb hby d10_31) (fun _ _ => ⟨rfl, e6, (by decide : 0 + 0 ≤ _), (by decide : 0 + 0 ≤ _)⟩)
  dsimp only [Pt.U, Pt.locs, Pt.cells, Pt.slots] at X7 l7 y7 z7 st7 hQ7
  subst l7 y7 z7
  obtain ⟨rfl, Nq7, eq7⟩ := hQ7
  have N7 := Fr.app N0 Nq7
  obtain ⟨fs, hr, hrun, hended, hW, hsame⟩ := X7.leave (v := some (.int (0 : Int32))) (fun h => by rw [Bd.returns] at h; cases h)
  refine ⟨_, _, castTop (ef_10_1 m a1 a2) ?_, hrun, hended, _, _, rfl, ?_, ⟨_, rfl⟩, hW, hsame.mono (by decide) (by decide)⟩
  · show Sp p e below s₁ (mkF m 0 #[.val (.ref a1), .val (.ref a2), .unset] []) _
    refine XS.aloadN X0.here hx rfl (hb hby d10_0) rfl rfl ?_
    show Sp p e below s₁ (mkF m 1 #[.val (.ref a1), .val (.ref a2), .unset] [(.ref a2)]) _
    refine st1 _ ?_
    show Sp p e below T1 (mkF m 4 #[.val (.ref a1), .val (.ref a2), .unset] [(.int (1 : Int32))]) _
    refine XS.ifNo X1.here hx rfl (hb hby d10_4) rfl ((if0 _ _).trans (feq (by decide : ¬ ((1 : Int32) = (0 : Int32)))).1) ?_
    refine XS.aloadN X1.here hx rfl (hb hby d10_7) rfl rfl ?_
    show Sp p e below T1 (mkF m 8 #[.val (.ref a1), .val (.ref a2), .unset] [(.ref a2)]) _
    refine st2 _ ?_
    show Sp p e below T2 (mkF m 11 #[.val (.ref a1), .val (.ref a2), .unset] [(.ref a2)]) _
    refine XS.astoreN X2.here hx rfl (hb hby d10_11) rfl rfl (l' := #[.val (.ref a1), .val (.ref a2), .val (.ref a2)]) rfl ?_
    refine XS.aloadN X2.here hx rfl (hb hby d10_12) rfl rfl ?_
    show Sp p e below T2 (mkF m 13 #[.val (.ref a1), .val (.ref a2), .val (.ref a2)] [(.ref a1)]) _
    refine st3 _ ?_
    show Sp p e below T3 (mkF m 16 #[.val (.ref a1), .val (.ref a2), .val (.ref a2)] [(.ref a3)]) _
    refine XS.aloadN X3.here hx rfl (hb hby d10_16) rfl rfl ?_
    show Sp p e below T3 (mkF m 17 #[.val (.ref a1), .val (.ref a2), .val (.ref a2)] [(.ref a2), (.ref a3)]) _
    refine st4 _ ?_
    show Sp p e below T4 (mkF m 20 #[.val (.ref a1), .val (.ref a2), .val (.ref a2)] [(.ref a4), (.ref a3)]) _
    refine Jvm.RoadKit.acmp (g := (mkF m 20 #[.val (.ref a1), .val (.ref a2), .val (.ref a2)] [(.ref a4), (.ref a3)])) X4 hx rfl rfl rfl (pc0 := 20) (pc' := 23) (same := true) rfl (hb hby d10_20) rfl (decide_eq_true (congrArg Value.ref aeq_a3_a4)) (by decide) (by decide) ?_
    show Sp p e below T4 (mkF m 23 #[.val (.ref a1), .val (.ref a2), .val (.ref a2)] []) _
    refine XS.aloadN X4.here hx rfl (hb hby d10_23) rfl rfl ?_
    show Sp p e below T4 (mkF m 24 #[.val (.ref a1), .val (.ref a2), .val (.ref a2)] [(.ref a1)]) _
    refine st5 _ ?_
    show Sp p e below T5 (mkF m 27 #[.val (.ref a1), .val (.ref a2), .val (.ref a2)] [(.ref a5)]) _
    refine XS.aloadN X5.here hx rfl (hb hby d10_27) rfl rfl ?_
    show Sp p e below T5 (mkF m 28 #[.val (.ref a1), .val (.ref a2), .val (.ref a2)] [(.ref a2), (.ref a5)]) _
    refine st6 _ ?_
    show Sp p e below T6 (mkF m 31 #[.val (.ref a1), .val (.ref a2), .val (.ref a2)] [(.ref a6), (.ref a5)]) _
    refine st7.trans ?_
    show Sp p e below T7 (mkF m 34 #[.val (.ref a1), .val (.ref a2), .val (.ref a2)] [(.int (0 : Int32))]) _
    refine XS.ifYes X7.here hx rfl (pc0 := 34) (pc' := 41) rfl (hb hby d10_34) rfl ((if0 _ _).trans (teq (by decide : (0 : Int32) = (0 : Int32))).1) (by decide) (by decide) ?_
    refine XS.iconst X7.here hx rfl (hb hby d10_41) ?_
    show Sp p e below T7 (mkF m 42 #[.val (.ref a1), .val (.ref a2), .val (.ref a2)] [(.int (0 : Int32))]) _
    exact retN X7 hx (t := .boolean) Bd.returns (by simp) (hb hby d10_42) hr
  · show Q63 Z v0 v1 v2 v3 v4 v5 v6 v7 v8 v9 cs_v a1 a2 a3 a4 a5 a6 a7 a8 k_a7 p10 k_a8 p12 h0 n0 _ T7.heap _
    rw [eq7]
    exact ⟨rfl, N7, rfl⟩
theorem rm64 (l : Launch) (Z : State) (a0 : Array Value) (hw : ∀ d ∈ tables_1, d.before a0 Z = true) (ws : List Jvm.Cond) (v0 v1 v2 v3 v4 v5 v6 v7 v8 v9 : Addr) (cs_v : Int32) (hp : Perm Z v0 v1 v2 v3 v4 v5 v6 v7 v8 v9 cs_v) (p0 : Int32) (p1 : Int32) (p2 : Int32) (p3 : Int32) (p4 : Int32) (z6 : Int32) (z7 : Int32) (h0 : Heap) (n0 : Nat) (O0 : Old Z n0 h0) (hcut0 : Cut_0_0 p0 p1 p2 p3 p4 z6 z7) (hz0 : 0 ≤ z6.toInt ∧ z6.toInt < 10) (hc3 : ¬ ((((p4.toUInt32 >>> ((8 : Int32) &&& 31).toUInt32).toInt32) &&& (3 : Int32)) = (1 : Int32))) (hc4 : ¬ ((((p4.toUInt32 >>> ((8 : Int32) &&& 31).toUInt32).toInt32) &&& (3 : Int32)) = (2 : Int32))) (hc5 : ¬ ((((p4.toUInt32 >>> ((8 : Int32) &&& 31).toUInt32).toInt32) &&& (3 : Int32)) = (3 : Int32))) (hc6 : ((p0 &&& (2147483647 : Int32)) % (10 : Int32)) = z6) (hc7 : (sxS p2 z7) = (0 : Int32)) :
    MetFree l x (head1 (Jvm.Cond.code x code maxLocals ret :: ws) room_1) (fun a U => a = #[(.int p0), (.int p1), (.int p2), (.int p3), (.int p4)] ∧ Z.Warmed39 U.vm ∧ U.heap = h0 ∧ CHv Z own_EL U.vm h0) (fun _ _ _ _ _ => True) (fun _ U o U' => ∃ v L, o = .returned v ∧ (v = some (.int (1 : Int32)) ∧ Fr n0 L) ∧ ReturnedEndW U o U' L 32 3200) := by
  refine MetFree.of_bodySF (plainFor_of_name pn_2) hisR ?_
  intro p e s m args below meth c s₁ Bd hml0 hP hK
  obtain ⟨rfl, hZo, hh, hCH⟩ := hP
  have hx := Bd.exec
  have hby := Bd.bytes
  have hml : c.maxLocals = 15 := hml0
  have hown : (s.setVm s.vm).vm.findClass "com/example/ratebook/ratebook/model/PricedItemEqualsPinLaw" = some m.cls := findClass_of_methodNamed Bd.named
  have hnm := (name_of_methodNamed Bd.named Bd.method).1
  have X0 : Stand p l e room_1 (s.setVm s.vm) m #[(.int p0), (.int p1), (.int p2), (.int p3), (.int p4)] below meth c s₁ [] 0 0 := Stand.of_body Bd
  have e0 : s₁.heap = h0 := by rw [← hh, Bd.state]; rfl
  have N0 := Fr.nil n0
  have hZ : Z.Warmed39 (s.setVm s.vm).vm := hZo
  have CH0 := CHr.refl hCH
  have hS0 : s.Since s.vm 0 := (State.WarmedH.refl s).since 0
  have hk0 : 0 ≤ h0.size := Nat.zero_le _
  have st1 := hcut0 X0 hx hZ hw hby hown
  obtain ⟨_, _, ⟨T2, L2, k2, n2⟩, -, XX2, Sq2, gq2, ⟨Lc2, hQ2, l2, y2, z2, C2⟩, st2⟩ := callSS X0 hx (y := y3) hown (mvT hZ (wq hw 1 rfl)) (mvT hZ (wq hw 2 rfl)) (mvT hZ (wq hw 3 rfl)) (mvT hZ (wq hw 4 rfl)) (by decide) (own_backC (SL := []) (W := 0) (rmS1 l Z a0 hw [] v0 v1 v2 v3 v4 v5 v6 v7 v8 v9 cs_v hp p2 h0 n0 O0) hZ (wq hw 4 rfl) (wq hw 3 rfl) (by decide) (by decide) (own_EW hw) CH0.1 all0) (g := (mkF m 76 #[.val (.int p0), .val (.int p1), .val (.int p2), .val (.int p3), .val (.int p4), .val (.int (fx1 p0)), .val (.int z6), .val (.int z7), .val (.int (fx3 p4)), .unset, .unset, .unset, .unset, .unset, .unset] [(.int p2)])) rfl (by rw [hml]; rfl) (argsL := [(.int p2)]) (rest := []) (lenOf pd_6 rfl) rfl (by show 2 * 0 + _ ≤ _; exact Nat.le_of_eq rfl) (hb hby at_76) (fun _ _ => ⟨rfl, e0, (by decide : 0 + 4 ≤ _), (by decide : 0 + 10 ≤ _)⟩)
  dsimp only [Pt.U, Pt.locs, Pt.cells, Pt.slots] at XX2 Sq2 gq2 l2 y2 z2 st2 hQ2 C2
  subst l2 y2 z2
  obtain ⟨X2, hS2, hZ2, hown2⟩ := rebS hS0 (by rw [e0]; exact hk0) XX2 Sq2 gq2 hZ hown
  obtain ⟨b2_0, y2_0, kc2_0, rfl, Nq2, Kq2, sq_b2_0, fq2_0, fq2_1, fq2_2, fq2_3⟩ := hQ2
  have N2 := Fr.app N0 Nq2
  have CH2 := CH0.trans C2
  have hk2 : T2.heap.size ≤ T2.heap.size := Nat.le_refl _
  have O2 := O0.keep Kq2 all0
  obtain ⟨_, _, ⟨T3, L3, k3, n3⟩, -, XX3, Sq3, gq3, ⟨Lc3, hQ3, l3, y3, z3, C3⟩, st3⟩ := callSS X2 hx (y := y3) hown2 (mvT hZ2 (wq hw 1 rfl)) (mvT hZ2 (wq hw 2 rfl)) (mvT hZ2 (wq hw 3 rfl)) (mvT hZ2 (wq hw 4 rfl)) (by decide) (own_backC (SL := []) (W := 0) (rmS1 l Z a0 hw [] v0 v1 v2 v3 v4 v5 v6 v7 v8 v9 cs_v hp z7 T2.heap n0 O2) hZ2 (wq hw 4 rfl) (wq hw 3 rfl) (by decide) (by decide) (own_EW hw) CH2.1 all0) (g := (mkF m 83 #[.val (.int p0), .val (.int p1), .val (.int p2), .val (.int p3), .val (.int p4), .val (.int (fx1 p0)), .val (.int z6), .val (.int z7), .val (.int (fx3 p4)), .val (.ref b2_0), .unset, .unset, .unset, .unset, .unset] [(.int z7)])) rfl (by rw [hml]; rfl) (argsL := [(.int z7)]) (rest := []) (lenOf pd_6 rfl) rfl (by show 2 * 0 + _ ≤ _; exact Nat.le_of_eq rfl) (hb hby at_83) (fun _ _ => ⟨rfl, rfl, (by decide : 4 + 4 ≤ _), (by decide : 10 + 10 ≤ _)⟩)
  dsimp only [Pt.U, Pt.locs, Pt.cells, Pt.slots] at XX3 Sq3 gq3 l3 y3 z3 st3 hQ3 C3
  subst l3 y3 z3
  obtain ⟨X3, hS3, hZ3, hown3⟩ := rebS hS2 hk2 XX3 Sq3 gq3 hZ2 hown2
  obtain ⟨b3_0, y3_0, kc3_0, rfl, Nq3, Kq3, sq_b3_0, fq3_0, fq3_1, fq3_2, fq3_3⟩ := hQ3
  have N3 := Fr.app N2 Nq3
  have CH3 := CH2.trans C3
  have hk3 : T3.heap.size ≤ T3.heap.size := Nat.le_refl _
  have O3 := O2.keep Kq3 all0
  obtain ⟨T4, h4, X4, e4, E4, A4, D4, -, st4⟩ := newO X3 hx hZ3 hown3 (wq hw 30 rfl) (wq hw 31 rfl) (wq hw 32 rfl) rfl (g := (mkF m 88 #[.val (.int p0), .val (.int p1), .val (.int p2), .val (.int p3), .val (.int p4), .val (.int (fx1 p0)), .val (.int z6), .val (.int z7), .val (.int (fx3 p4)), .val (.ref b2_0), .val (.ref b3_0), .unset, .unset, .unset, .unset] [])) rfl (hb hby at_88) (by decide) (by decide)
  obtain ⟨b4, g4⟩ : ∃ z, z = T3.heap.size := ⟨_, rfl⟩
  rw [← g4] at A4 D4 st4
  have g_b4 : n0 ≤ b4 := Nat.le_trans (own_sz O3) (Nat.le_of_eq g4.symm)
  have O4 := O3.ext E4
  have CH4 := CH3.trans (CHr.ext E4 CH3.1)
  have hk4 := Nat.le_trans hk3 E4.1
  have F_category_b4 : Fld Z h4 b4 "com/example/ratebook/ratebook/model/PricedItem" "category" "Lcom/example/ratebook/ratebook/model/Category;" .null := D4 (Or.inr (wq hw 55 rfl)) (ty := (.object "com/example/ratebook/ratebook/model/Category")) (by decide)
  have F_resourceId_b4 : Fld Z h4 b4 "com/example/ratebook/ratebook/model/PricedItem" "resourceId" "Ljava/lang/String;" .null := D4 (Or.inr (wq hw 57 rfl)) (ty := (.object "java/lang/String")) (by decide)
  obtain ⟨_, _, ⟨T5, L5, k5, n5⟩, -, X5, ⟨Lc5, hQ5, l5, y5, z5⟩, st5⟩ := Jvm.LawKit.callS X4 hx (y := y7) hown3 (mvT hZ3 (wq hw 33 rfl)) (mvT hZ3 (wq hw 34 rfl)) (mvT hZ3 (wq hw 3 rfl)) (mvT hZ3 (wq hw 35 rfl)) (by decide) (backOf (W := 2) (rmK6 l Z a0 hw [] v0 v1 v2 v3 v4 v5 v6 v7 v8 v9 cs_v hp ((p0 &&& (2147483647 : Int32)) % (10 : Int32)) h4 n0 O4) hZ3 (wq hw 35 rfl) (wq hw 3 rfl) (by decide) (by decide)) (g := (mkF m 94 #[.val (.int p0), .val (.int p1), .val (.int p2), .val (.int p3), .val (.int p4), .val (.int (fx1 p0)), .val (.int z6), .val (.int z7), .val (.int (fx3 p4)), .val (.ref b2_0), .val (.ref b3_0), .unset, .unset, .unset, .unset] [(.int (fx1 p0)), (.ref b4), (.ref b4)])) rfl (by rw [hml]; rfl) (argsL := [(.int (fx1 p0))]) (rest := [(.ref b4), (.ref b4)]) (lenOf pd_7 rfl) rfl (by show 2 * 0 + _ ≤ _; exact Nat.le_of_eq rfl) (hb hby at_94) (fun _ _ => ⟨rfl, e4, (by decide : 9 + 0 ≤ _), (by decide : 22 + 0 ≤ _)⟩)
  dsimp only [Pt.U, Pt.locs, Pt.cells, Pt.slots] at X5 l5 y5 z5 st5 hQ5
  subst l5 y5 z5
  obtain ⟨c5_0, rfl, Nq5, eq5, oq5_0, oq5_1⟩ := hQ5
  have N5 := Fr.app N3 Nq5
  obtain ⟨_, _, ⟨T6, L6, k6, n6⟩, -, XX6, Sq6, gq6, ⟨Lc6, hQ6, l6, y6, z6, C6⟩, st6⟩ := X5.specialBackS hx (y := y10) rfl hown3 (mvT hZ3 (wq hw 39 rfl)) (mvT hZ3 (wq hw 40 rfl)) (mvT hZ3 (wq hw 41 rfl)) (by decide) (own_backC (SL := []) (W := 1) (rm35 l Z a0 hw [] v0 v1 v2 v3 v4 v5 v6 v7 v8 v9 cs_v hp b4 c5_0 b2_0 h4 n0 O4 A4 F_category_b4 F_resourceId_b4 g_b4) hZ3 (wq hw 41 rfl) (wq hw 32 rfl) (by decide) (by decide) (own_EW hw) CH4.1 all0) (g := (mkF m 99 #[.val (.int p0), .val (.int p1), .val (.int p2), .val (.int p3), .val (.int p4), .val (.int (fx1 p0)), .val (.int z6), .val (.int z7), .val (.int (fx3 p4)), .val (.ref b2_0), .val (.ref b3_0), .unset, .unset, .unset, .unset] [(.ref b2_0), (.ref c5_0), (.ref b4), (.ref b4)])) rfl (by rw [hml]; rfl) (Steps.refl _) (a := b4) (argsL := [(.ref c5_0), (.ref b2_0)]) (rest := [(.ref b4)]) (lenOf pd_10 rfl) rfl (by show 2 * 0 + _ ≤ _; exact Nat.le_of_eq rfl) (hb hby at_99) (fun _ _ => ⟨rfl, eq5, (by decide : 9 + 4 ≤ _), (by decide : 22 + 80 ≤ _)⟩)
  dsimp only [Pt.U, Pt.locs, Pt.cells, Pt.slots] at XX6 Sq6 gq6 l6 y6 z6 st6 hQ6 C6
  subst l6 y6 z6
  obtain ⟨X6, hS6, hZ6, hown6⟩ := rebS hS3 (by rw [eq5]; exact hk4) XX6 Sq6 gq6 hZ3 hown3
  obtain ⟨rfl, Nq6, Kq6, fq6_0, fq6_1, fq6_2⟩ := hQ6
  have N6 := Fr.app N5 Nq6
  have CH6 := CH4.trans C6
  have hk6 : T6.heap.size ≤ T6.heap.size := Nat.le_refl _
  have O6 := O4.keep Kq6 (allS g_b4 all0)
  obtain ⟨T7, h7, X7, e7, E7, A7, D7, -, st7⟩ := newO X6 hx hZ6 hown6 (wq hw 30 rfl) (wq hw 31 rfl) (wq hw 32 rfl) rfl (g := (mkF m 104 #[.val (.int p0), .val (.int p1), .val (.int p2), .val (.int p3), .val (.int p4), .val (.int (fx1 p0)), .val (.int z6), .val (.int z7), .val (.int (fx3 p4)), .val (.ref b2_0), .val (.ref b3_0), .val (.ref b4), .unset, .unset, .unset] [])) rfl (hb hby at_104) (by decide) (by decide)
  obtain ⟨b7, g7⟩ : ∃ z, z = T6.heap.size := ⟨_, rfl⟩
  rw [← g7] at A7 D7 st7
  have g_b7 : n0 ≤ b7 := Nat.le_trans (own_sz O6) (Nat.le_of_eq g7.symm)
  have O7 := O6.ext E7
  have CH7 := CH6.trans (CHr.ext E7 CH6.1)
  have hk7 := Nat.le_trans hk6 E7.1
  have F_category_b7 : Fld Z h7 b7 "com/example/ratebook/ratebook/model/PricedItem" "category" "Lcom/example/ratebook/ratebook/model/Category;" .null := D7 (Or.inr (wq hw 55 rfl)) (ty := (.object "com/example/ratebook/ratebook/model/Category")) (by decide)
  have F_resourceId_b7 : Fld Z h7 b7 "com/example/ratebook/ratebook/model/PricedItem" "resourceId" "Ljava/lang/String;" .null := D7 (Or.inr (wq hw 57 rfl)) (ty := (.object "java/lang/String")) (by decide)
  obtain ⟨_, _, ⟨T8, L8, k8, n8⟩, -, X8, ⟨Lc8, hQ8, l8, y8, z8⟩, st8⟩ := Jvm.LawKit.callS X7 hx (y := y7) hown6 (mvT hZ6 (wq hw 33 rfl)) (mvT hZ6 (wq hw 34 rfl)) (mvT hZ6 (wq hw 3 rfl)) (mvT hZ6 (wq hw 35 rfl)) (by decide) (backOf (W := 2) (rmK6 l Z a0 hw [] v0 v1 v2 v3 v4 v5 v6 v7 v8 v9 cs_v hp z6 h7 n0 O7) hZ6 (wq hw 35 rfl) (wq hw 3 rfl) (by decide) (by decide)) (g := (mkF m 110 #[.val (.int p0), .val (.int p1), .val (.int p2), .val (.int p3), .val (.int p4), .val (.int (fx1 p0)), .val (.int z6), .val (.int z7), .val (.int (fx3 p4)), .val (.ref b2_0), .val (.ref b3_0), .val (.ref b4), .unset, .unset, .unset] [(.int z6), (.ref b7), (.ref b7)])) rfl (by rw [hml]; rfl) (argsL := [(.int z6)]) (rest := [(.ref b7), (.ref b7)]) (lenOf pd_7 rfl) rfl (by show 2 * 0 + _ ≤ _; exact Nat.le_of_eq rfl) (hb hby at_110) (fun _ _ => ⟨rfl, e7, (by decide : 14 + 0 ≤ _), (by decide : 104 + 0 ≤ _)⟩)
  dsimp only [Pt.U, Pt.locs, Pt.cells, Pt.slots] at X8 l8 y8 z8 st8 hQ8
  subst l8 y8 z8
  obtain ⟨c8_0, rfl, Nq8, eq8, oq8_0, oq8_1⟩ := hQ8
  have N8 := Fr.app N6 Nq8
  obtain ⟨_, _, ⟨T9, L9, k9, n9⟩, -, XX9, Sq9, gq9, ⟨Lc9, hQ9, l9, y9, z9, C9⟩, st9⟩ := X8.specialBackS hx (y := y10) rfl hown6 (mvT hZ6 (wq hw 39 rfl)) (mvT hZ6 (wq hw 40 rfl)) (mvT hZ6 (wq hw 41 rfl)) (by decide) (own_backC (SL := []) (W := 1) (rm35 l Z a0 hw [] v0 v1 v2 v3 v4 v5 v6 v7 v8 v9 cs_v hp b7 c8_0 b3_0 h7 n0 O7 A7 F_category_b7 F_resourceId_b7 g_b7) hZ6 (wq hw 41 rfl) (wq hw 32 rfl) (by decide) (by decide) (own_EW hw) CH7.1 all0) (g := (mkF m 115 #[.val (.int p0), .val (.int p1), .val (.int p2), .val (.int p3), .val (.int p4), .val (.int (fx1 p0)), .val (.int z6), .val (.int z7), .val (.int (fx3 p4)), .val (.ref b2_0), .val (.ref b3_0), .val (.ref b4), .unset, .unset, .unset] [(.ref b3_0), (.ref c8_0), (.ref b7), (.ref b7)])) rfl (by rw [hml]; rfl) (Steps.refl _) (a := b7) (argsL := [(.ref c8_0), (.ref b3_0)]) (rest := [(.ref b7)]) (lenOf pd_10 rfl) rfl (by show 2 * 0 + _ ≤ _; exact Nat.le_of_eq rfl) (hb hby at_115) (fun _ _ => ⟨rfl, eq8, (by decide : 14 + 4 ≤ _), (by decide : 104 + 80 ≤ _)⟩)
  dsimp only [Pt.U, Pt.locs, Pt.cells, Pt.slots] at XX9 Sq9 gq9 l9 y9 z9 st9 hQ9 C9
  subst l9 y9 z9
  obtain ⟨X9, hS9, hZ9, hown9⟩ := rebS hS6 (by rw [eq8]; exact hk7) XX9 Sq9 gq9 hZ6 hown6
  obtain ⟨rfl, Nq9, Kq9, fq9_0, fq9_1, fq9_2⟩ := hQ9
  have N9 := Fr.app N8 Nq9
  have CH9 := CH7.trans C9
  have hk9 : T9.heap.size ≤ T9.heap.size := Nat.le_refl _
  have O9 := O7.keep Kq9 (allS g_b7 all0)
  obtain ⟨_, _, ⟨T10, L10, k10, n10⟩, -, X10, ⟨Lc10, hQ10, l10, y10, z10⟩, st10⟩ := Jvm.LawKit.callS X9 hx (y := y13) hown9 (mvT hZ9 (wq hw 67 rfl)) (mvT hZ9 (wq hw 68 rfl)) (mvT hZ9 (wq hw 3 rfl)) (mvT hZ9 (wq hw 69 rfl)) (by decide) (backOf (W := 0) (rmT11 l Z a0 hw [] v0 v1 v2 v3 v4 v5 v6 v7 v8 v9 cs_v hp p2 z7 T9.heap n0 O9) hZ9 (wq hw 69 rfl) (wq hw 3 rfl) (by decide) (by decide)) (g := (mkF m 202 #[.val (.int p0), .val (.int p1), .val (.int p2), .val (.int p3), .val (.int p4), .val (.int (fx1 p0)), .val (.int z6), .val (.int z7), .val (.int (fx3 p4)), .val (.ref b2_0), .val (.ref b3_0), .val (.ref b4), .val (.ref b7), .val (.ref b7), .unset] [(.int z7), (.int p2)])) rfl (by rw [hml]; rfl) (argsL := [(.int p2), (.int z7)]) (rest := []) (lenOf pd_12 rfl) rfl (by show 2 * 0 + _ ≤ _; exact Nat.le_of_eq rfl) (hb hby at_202) (fun _ _ => ⟨rfl, rfl, (by decide : 18 + 0 ≤ _), (by decide : 184 + 0 ≤ _)⟩)
  dsimp only [Pt.U, Pt.locs, Pt.cells, Pt.slots] at X10 l10 y10 z10 st10 hQ10
  subst l10 y10 z10
  obtain ⟨rfl, Nq10, eq10⟩ := hQ10
  have N10 := Fr.app N9 Nq10
  have f_11 := ((fq6_1.ext E7).keep Kq9 (ninS (Nat.ne_of_lt (Nat.lt_of_lt_of_le (A4.keep Kq6).lt (Nat.le_of_eq g7.symm))) nin0))
  have f_12 := ((fq6_2.ext E7).keep Kq9 (ninS (Nat.ne_of_lt (Nat.lt_of_lt_of_le (A4.keep Kq6).lt (Nat.le_of_eq g7.symm))) nin0))
  have f_13 := (((((fq2_1.keep Kq3 nin0).ext E4).keep Kq6 (ninS (Nat.ne_of_lt (Nat.lt_of_lt_of_le (fq2_0.keep Kq3).lt (Nat.le_of_eq g4.symm))) nin0)).ext E7).keep Kq9 (ninS (Nat.ne_of_lt (Nat.lt_of_lt_of_le (((fq2_0.keep Kq3).ext E4).keep Kq6).lt (Nat.le_of_eq g7.symm))) nin0))
  have f_14 := ((((fq3_1.ext E4).keep Kq6 (ninS (Nat.ne_of_lt (Nat.lt_of_lt_of_le fq3_0.lt (Nat.le_of_eq g4.symm))) nin0)).ext E7).keep Kq9 (ninS (Nat.ne_of_lt (Nat.lt_of_lt_of_le ((fq3_0.ext E4).keep Kq6).lt (Nat.le_of_eq g7.symm))) nin0))
  have f_15 := (((((fq2_2.keep Kq3 nin0).ext E4).keep Kq6 (ninS (Nat.ne_of_lt (Nat.lt_of_lt_of_le (fq2_0.keep Kq3).lt (Nat.le_of_eq g4.symm))) nin0)).ext E7).keep Kq9 (ninS (Nat.ne_of_lt (Nat.lt_of_lt_of_le (((fq2_0.keep Kq3).ext E4).keep Kq6).lt (Nat.le_of_eq g7.symm))) nin0))
  have f_16 := ((((fq3_2.ext E4).keep Kq6 (ninS (Nat.ne_of_lt (Nat.lt_of_lt_of_le fq3_0.lt (Nat.le_of_eq g4.symm))) nin0)).ext E7).keep Kq9 (ninS (Nat.ne_of_lt (Nat.lt_of_lt_of_le ((fq3_0.ext E4).keep Kq6).lt (Nat.le_of_eq g7.symm))) nin0))
  have f_17 := (((((fq2_3.keep Kq3 nin0).ext E4).keep Kq6 (ninS (Nat.ne_of_lt (Nat.lt_of_lt_of_le (fq2_3.keep Kq3 nin0).lt (Nat.le_of_eq g4.symm))) nin0)).ext E7).keep Kq9 (ninS (Nat.ne_of_lt (Nat.lt_of_lt_of_le (((fq2_3.keep Kq3 nin0).ext E4).keep Kq6 (ninS (Nat.ne_of_lt (Nat.lt_of_lt_of_le (fq2_3.keep Kq3 nin0).lt (Nat.le_of_eq g4.symm))) nin0)).lt (Nat.le_of_eq g7.symm))) nin0))
  have f_18 := ((((fq3_3.ext E4).keep Kq6 (ninS (Nat.ne_of_lt (Nat.lt_of_lt_of_le fq3_3.lt (Nat.le_of_eq g4.symm))) nin0)).ext E7).keep Kq9 (ninS (Nat.ne_of_lt (Nat.lt_of_lt_of_le ((fq3_3.ext E4).keep Kq6 (ninS (Nat.ne_of_lt (Nat.lt_of_lt_of_le fq3_3.lt (Nat.le_of_eq g4.symm))) nin0)).lt (Nat.le_of_eq g7.symm))) nin0))
  obtain ⟨cq19, kq19, q19a, q19b, q19c⟩ := isOf hZ9 eq10 ((fq6_0.ext E7).keep Kq9)
  obtain ⟨_, _, ⟨T19, L19, k19, n19⟩, -, X19, ⟨Lc19, hQ19, l19, y19, z19⟩, st19⟩ := X10.virtualBack hx (y := y11) (z := y11) hown9 (mvT hZ9 (wq hw 60 rfl)) (mvT hZ9 (wq hw 61 rfl)) (notFace_of_selects (args := #[]) (mvT hZ9 (wq hw 63 rfl))) (mvT hZ9 (wq hw 63 rfl)) (mvT hZ9 (wq hw 62 rfl)) (by decide) (backOf (W := 0) (rm63 l Z a0 hw [] v0 v1 v2 v3 v4 v5 v6 v7 v8 v9 cs_v hp b4 b7 c5_0 c8_0 b2_0 b3_0 y2_0 y3_0 kc2_0 p2 kc3_0 z7 T9.heap n0 O9 fq9_0 f_11 fq9_1 (oq5_1.trans ((congrArg (catf v0 v9 v2 v1 v8 v3 v5 v4 v7 v6) hc6).trans oq8_1.symm)) f_12 fq9_2 (((((fq2_0.keep Kq3).ext E4).keep Kq6).ext E7).keep Kq9) ((((fq3_0.ext E4).keep Kq6).ext E7).keep Kq9) f_13 f_14 f_15 f_16 f_17 f_18 (by rw [own_sxES]; exact hc7 : (sxE p2 z7) = (0 : Int32)) (Nat.ne_of_lt (Nat.lt_of_lt_of_le fq2_0.lt sq_b3_0))) hZ9 (wq hw 64 rfl) (wq hw 32 rfl) (by decide) (by decide)) q19a q19c (g := (mkF m 219 #[.val (.int p0), .val (.int p1), .val (.int p2), .val (.int p3), .val (.int p4), .val (.int (fx1 p0)), .val (.int z6), .val (.int z7), .val (.int (fx3 p4)), .val (.ref b2_0), .val (.ref b3_0), .val (.ref b4), .val (.ref b7), .val (.ref b7), .val (.int (0 : Int32))] [(.ref b7), (.ref b4)])) rfl (by rw [hml]; rfl) (Steps.refl _) (argsL := [(.ref b7)]) (rest := []) (lenOf pd_11 rfl) rfl (by show 2 * 0 + _ ≤ _; exact Nat.le_of_eq rfl) (hb hby at_219) (fun _ _ => ⟨rfl, eq10, (by decide : 18 + 0 ≤ _), (by decide : 184 + 0 ≤ _)⟩)
  dsimp only [Pt.U, Pt.locs, Pt.cells, Pt.slots] at X19 l19 y19 z19 st19 hQ19
  subst l19 y19 z19
  obtain ⟨rfl, Nq19, eq19⟩ := hQ19
  have N19 := Fr.app N10 Nq19
  obtain ⟨fs, hr, hrun, hended, hE⟩ := Stand.leaveW (s := s) X19 hS9 (by rw [eq19]; exact hk9) (v := some (.int (1 : Int32))) (fun h => by rw [Bd.returns] at h; cases h)
  refine ⟨_, _, castTop (ef_0_0 m p0 p1 p2 p3 p4) ?_, hrun, hended, _, _, rfl, ?_, hE.1, hE.2.1, hE.2.2.1, hE.2.2.2.mono (by decide) (by decide)⟩
  · show Sp p e below s₁ (mkF m 0 #[.val (.int p0), .val (.int p1), .val (.int p2), .val (.int p3), .val (.int p4), .unset, .unset, .unset, .unset, .unset, .unset, .unset, .unset, .unset, .unset] []) _
    refine st1 _ ?_
    show Sp p e below s₁ (mkF m 75 #[.val (.int p0), .val (.int p1), .val (.int p2), .val (.int p3), .val (.int p4), .val (.int (fx1 p0)), .val (.int z6), .val (.int z7), .val (.int (fx3 p4)), .unset, .unset, .unset, .unset, .unset, .unset] []) _
    refine XS.iloadN X0.here hx rfl (hb hby at_75) rfl ?_
    show Sp p e below s₁ (mkF m 76 #[.val (.int p0), .val (.int p1), .val (.int p2), .val (.int p3), .val (.int p4), .val (.int (fx1 p0)), .val (.int z6), .val (.int z7), .val (.int (fx3 p4)), .unset, .unset, .unset, .unset, .unset, .unset] [(.int p2)]) _
    refine st2.trans ?_
    show Sp p e below T2 (mkF m 79 #[.val (.int p0), .val (.int p1), .val (.int p2), .val (.int p3), .val (.int p4), .val (.int (fx1 p0)), .val (.int z6), .val (.int z7), .val (.int (fx3 p4)), .unset, .unset, .unset, .unset, .unset, .unset] [(.ref b2_0)]) _
    refine XS.astore X2.here hx rfl (hb hby at_79) rfl rfl (l' := #[.val (.int p0), .val (.int p1), .val (.int p2), .val (.int p3), .val (.int p4), .val (.int (fx1 p0)), .val (.int z6), .val (.int z7), .val (.int (fx3 p4)), .val (.ref b2_0), .unset, .unset, .unset, .unset, .unset]) rfl ?_
    refine XS.iload X2.here hx rfl (hb hby at_81) rfl ?_
    show Sp p e below T2 (mkF m 83 #[.val (.int p0), .val (.int p1), .val (.int p2), .val (.int p3), .val (.int p4), .val (.int (fx1 p0)), .val (.int z6), .val (.int z7), .val (.int (fx3 p4)), .val (.ref b2_0), .unset, .unset, .unset, .unset, .unset] [(.int z7)]) _
    refine st3.trans ?_
    show Sp p e below T3 (mkF m 86 #[.val (.int p0), .val (.int p1), .val (.int p2), .val (.int p3), .val (.int p4), .val (.int (fx1 p0)), .val (.int z6), .val (.int z7), .val (.int (fx3 p4)), .val (.ref b2_0), .unset, .unset, .unset, .unset, .unset] [(.ref b3_0)]) _
    refine XS.astore X3.here hx rfl (hb hby at_86) rfl rfl (l' := #[.val (.int p0), .val (.int p1), .val (.int p2), .val (.int p3), .val (.int p4), .val (.int (fx1 p0)), .val (.int z6), .val (.int z7), .val (.int (fx3 p4)), .val (.ref b2_0), .val (.ref b3_0), .unset, .unset, .unset, .unset]) rfl ?_
    show Sp p e below T3 (mkF m 88 #[.val (.int p0), .val (.int p1), .val (.int p2), .val (.int p3), .val (.int p4), .val (.int (fx1 p0)), .val (.int z6), .val (.int z7), .val (.int (fx3 p4)), .val (.ref b2_0), .val (.ref b3_0), .unset, .unset, .unset, .unset] []) _
    refine st4 _ ?_
    show Sp p e below T4 (mkF m 91 #[.val (.int p0), .val (.int p1), .val (.int p2), .val (.int p3), .val (.int p4), .val (.int (fx1 p0)), .val (.int z6), .val (.int z7), .val (.int (fx3 p4)), .val (.ref b2_0), .val (.ref b3_0), .unset, .unset, .unset, .unset] [(.ref b4)]) _
    refine XS.dup X4.here hx rfl (hb hby at_91) rfl rfl ?_
    refine XS.iload X4.here hx rfl (hb hby at_92) rfl ?_
    show Sp p e below T4 (mkF m 94 #[.val (.int p0), .val (.int p1), .val (.int p2), .val (.int p3), .val (.int p4), .val (.int (fx1 p0)), .val (.int z6), .val (.int z7), .val (.int (fx3 p4)), .val (.ref b2_0), .val (.ref b3_0), .unset, .unset, .unset, .unset] [(.int (fx1 p0)), (.ref b4), (.ref b4)]) _
    refine st5 _ ?_
    show Sp p e below T5 (mkF m 97 #[.val (.int p0), .val (.int p1), .val (.int p2), .val (.int p3), .val (.int p4), .val (.int (fx1 p0)), .val (.int z6), .val (.int z7), .val (.int (fx3 p4)), .val (.ref b2_0), .val (.ref b3_0), .unset, .unset, .unset, .unset] [(.ref c5_0), (.ref b4), (.ref b4)]) _
    refine XS.aload X5.here hx rfl (hb hby at_97) rfl rfl ?_
    show Sp p e below T5 (mkF m 99 #[.val (.int p0), .val (.int p1), .val (.int p2), .val (.int p3), .val (.int p4), .val (.int (fx1 p0)), .val (.int z6), .val (.int z7), .val (.int (fx3 p4)), .val (.ref b2_0), .val (.ref b3_0), .unset, .unset, .unset, .unset] [(.ref b2_0), (.ref c5_0), (.ref b4), (.ref b4)]) _
    refine st6.trans ?_
    show Sp p e below T6 (mkF m 102 #[.val (.int p0), .val (.int p1), .val (.int p2), .val (.int p3), .val (.int p4), .val (.int (fx1 p0)), .val (.int z6), .val (.int z7), .val (.int (fx3 p4)), .val (.ref b2_0), .val (.ref b3_0), .unset, .unset, .unset, .unset] [(.ref b4)]) _
    refine XS.astore X6.here hx rfl (hb hby at_102) rfl rfl (l' := #[.val (.int p0), .val (.int p1), .val (.int p2), .val (.int p3), .val (.int p4), .val (.int (fx1 p0)), .val (.int z6), .val (.int z7), .val (.int (fx3 p4)), .val (.ref b2_0), .val (.ref b3_0), .val (.ref b4), .unset, .unset, .unset]) rfl ?_
    show Sp p e below T6 (mkF m 104 #[.val (.int p0), .val (.int p1), .val (.int p2), .val (.int p3), .val (.int p4), .val (.int (fx1 p0)), .val (.int z6), .val (.int z7), .val (.int (fx3 p4)), .val (.ref b2_0), .val (.ref b3_0), .val (.ref b4), .unset, .unset, .unset] []) _
    refine st7 _ ?_
    show Sp p e below T7 (mkF m 107 #[.val (.int p0), .val (.int p1), .val (.int p2), .val (.int p3), .val (.int p4), .val (.int (fx1 p0)), .val (.int z6), .val (.int z7), .val (.int (fx3 p4)), .val (.ref b2_0), .val (.ref b3_0), .val (.ref b4), .unset, .unset, .unset] [(.ref b7)]) _
    refine XS.dup X7.here hx rfl (hb hby at_107) rfl rfl ?_
    refine XS.iload X7.here hx rfl (hb hby at_108) rfl ?_
    show Sp p e below T7 (mkF m 110 #[.val (.int p0), .val (.int p1), .val (.int p2), .val (.int p3), .val (.int p4), .val (.int (fx1 p0)), .val (.int z6), .val (.int z7), .val (.int (fx3 p4)), .val (.ref b2_0), .val (.ref b3_0), .val (.ref b4), .unset, .unset, .unset] [(.int z6), (.ref b7), (.ref b7)]) _
    refine st8 _ ?_
    show Sp p e below T8 (mkF m 113 #[.val (.int p0), .val (.int p1), .val (.int p2), .val (.int p3), .val (.int p4), .val (.int (fx1 p0)), .val (.int z6), .val (.int z7), .val (.int (fx3 p4)), .val (.ref b2_0), .val (.ref b3_0), .val (.ref b4), .unset, .unset, .unset] [(.ref c8_0), (.ref b7), (.ref b7)]) _
    refine XS.aload X8.here hx rfl (hb hby at_113) rfl rfl ?_
    show Sp p e below T8 (mkF m 115 #[.val (.int p0), .val (.int p1), .val (.int p2), .val (.int p3), .val (.int p4), .val (.int (fx1 p0)), .val (.int z6), .val (.int z7), .val (.int (fx3 p4)), .val (.ref b2_0), .val (.ref b3_0), .val (.ref b4), .unset, .unset, .unset] [(.ref b3_0), (.ref c8_0), (.ref b7), (.ref b7)]) _
    refine st9.trans ?_
    show Sp p e below T9 (mkF m 118 #[.val (.int p0), .val (.int p1), .val (.int p2), .val (.int p3), .val (.int p4), .val (.int (fx1 p0)), .val (.int z6), .val (.int z7), .val (.int (fx3 p4)), .val (.ref b2_0), .val (.ref b3_0), .val (.ref b4), .unset, .unset, .unset] [(.ref b7)]) _
    refine XS.astore X9.here hx rfl (hb hby at_118) rfl rfl (l' := #[.val (.int p0), .val (.int p1), .val (.int p2), .val (.int p3), .val (.int p4), .val (.int (fx1 p0)), .val (.int z6), .val (.int z7), .val (.int (fx3 p4)), .val (.ref b2_0), .val (.ref b3_0), .val (.ref b4), .val (.ref b7), .unset, .unset]) rfl ?_
    refine XS.iload X9.here hx rfl (hb hby at_120) rfl ?_
    refine XS.iconst X9.here hx rfl (hb hby at_122) ?_
    refine XS.icmpYes X9.here hx rfl (pc0 := 123) (pc' := 132) rfl (hb hby at_123) rfl (feq hc3).2 (by decide) (by decide) ?_
    refine XS.iload X9.here hx rfl (hb hby at_132) rfl ?_
    refine XS.iconst X9.here hx rfl (hb hby at_134) ?_
    refine XS.icmpYes X9.here hx rfl (pc0 := 135) (pc' := 145) rfl (hb hby at_135) rfl (feq hc4).2 (by decide) (by decide) ?_
    show Sp p e below T9 (mkF m 145 #[.val (.int p0), .val (.int p1), .val (.int p2), .val (.int p3), .val (.int p4), .val (.int (fx1 p0)), .val (.int z6), .val (.int z7), .val (.int (fx3 p4)), .val (.ref b2_0), .val (.ref b3_0), .val (.ref b4), .val (.ref b7), .unset, .unset] []) _
    refine XS.iload X9.here hx rfl (hb hby at_145) rfl ?_
    refine XS.iconst X9.here hx rfl (hb hby at_147) ?_
    refine XS.icmpYes X9.here hx rfl (pc0 := 148) (pc' := 158) rfl (hb hby at_148) rfl (feq hc5).2 (by decide) (by decide) ?_
    refine XS.aload X9.here hx rfl (hb hby at_158) rfl rfl ?_
    refine XS.astore X9.here hx rfl (hb hby at_160) rfl rfl (l' := #[.val (.int p0), .val (.int p1), .val (.int p2), .val (.int p3), .val (.int p4), .val (.int (fx1 p0)), .val (.int z6), .val (.int z7), .val (.int (fx3 p4)), .val (.ref b2_0), .val (.ref b3_0), .val (.ref b4), .val (.ref b7), .val (.ref b7), .unset]) rfl ?_
    refine XS.iload X9.here hx rfl (hb hby at_162) rfl ?_
    refine XS.iconst X9.here hx rfl (hb hby at_164) ?_
    show Sp p e below T9 (mkF m 165 #[.val (.int p0), .val (.int p1), .val (.int p2), .val (.int p3), .val (.int p4), .val (.int (fx1 p0)), .val (.int z6), .val (.int z7), .val (.int (fx3 p4)), .val (.ref b2_0), .val (.ref b3_0), .val (.ref b4), .val (.ref b7), .val (.ref b7), .unset] [(.int (1 : Int32)), (.int (fx3 p4))]) _
    refine XS.icmpNo X9.here hx rfl (hb hby at_165) rfl (feq hc3).1 ?_
    refine XS.iload X9.here hx rfl (hb hby at_168) rfl ?_
    refine XS.iconst X9.here hx rfl (hb hby at_170) ?_
    refine XS.icmpYes X9.here hx rfl (pc0 := 171) (pc' := 180) rfl (hb hby at_171) rfl (feq hc4).2 (by decide) (by decide) ?_
    refine XS.iload X9.here hx rfl (hb hby at_180) rfl ?_
    refine XS.iconst X9.here hx rfl (hb hby at_182) ?_
    refine XS.icmpYes X9.here hx rfl (pc0 := 183) (pc' := 192) rfl (hb hby at_183) rfl (feq hc5).2 (by decide) (by decide) ?_
    show Sp p e below T9 (mkF m 192 #[.val (.int p0), .val (.int p1), .val (.int p2), .val (.int p3), .val (.int p4), .val (.int (fx1 p0)), .val (.int z6), .val (.int z7), .val (.int (fx3 p4)), .val (.ref b2_0), .val (.ref b3_0), .val (.ref b4), .val (.ref b7), .val (.ref b7), .unset] []) _
    refine XS.iload X9.here hx rfl (hb hby at_192) rfl ?_
    refine XS.iload X9.here hx rfl (hb hby at_194) rfl ?_
    refine XS.icmpNo X9.here hx rfl (hb hby at_196) rfl (teq hc6).2 ?_
    refine XS.iloadN X9.here hx rfl (hb hby at_199) rfl ?_
    refine XS.iload X9.here hx rfl (hb hby at_200) rfl ?_
    show Sp p e below T9 (mkF m 202 #[.val (.int p0), .val (.int p1), .val (.int p2), .val (.int p3), .val (.int p4), .val (.int (fx1 p0)), .val (.int z6), .val (.int z7), .val (.int (fx3 p4)), .val (.ref b2_0), .val (.ref b3_0), .val (.ref b4), .val (.ref b7), .val (.ref b7), .unset] [(.int z7), (.int p2)]) _
    refine st10 _ ?_
    show Sp p e below T10 (mkF m 205 #[.val (.int p0), .val (.int p1), .val (.int p2), .val (.int p3), .val (.int p4), .val (.int (fx1 p0)), .val (.int z6), .val (.int z7), .val (.int (fx3 p4)), .val (.ref b2_0), .val (.ref b3_0), .val (.ref b4), .val (.ref b7), .val (.ref b7), .unset] [(.int (sxS p2 z7))]) _
    refine XS.ifYes X10.here hx rfl (pc0 := 205) (pc' := 212) rfl (hb hby at_205) rfl ((if0 _ _).trans (teq hc7).1) (by decide) (by decide) ?_
    refine XS.iconst X10.here hx rfl (hb hby at_212) ?_
    refine XS.istore X10.here hx rfl (hb hby at_213) rfl (l' := #[.val (.int p0), .val (.int p1), .val (.int p2), .val (.int p3), .val (.int p4), .val (.int (fx1 p0)), .val (.int z6), .val (.int z7), .val (.int (fx3 p4)), .val (.ref b2_0), .val (.ref b3_0), .val (.ref b4), .val (.ref b7), .val (.ref b7), .val (.int (0 : Int32))]) rfl ?_
    refine XS.aload X10.here hx rfl (hb hby at_215) rfl rfl ?_
    refine XS.aload X10.here hx rfl (hb hby at_217) rfl rfl ?_
    show Sp p e below T10 (mkF m 219 #[.val (.int p0), .val (.int p1), .val (.int p2), .val (.int p3), .val (.int p4), .val (.int (fx1 p0)), .val (.int z6), .val (.int z7), .val (.int (fx3 p4)), .val (.ref b2_0), .val (.ref b3_0), .val (.ref b4), .val (.ref b7), .val (.ref b7), .val (.int (0 : Int32))] [(.ref b7), (.ref b4)]) _
    refine st19.trans ?_
    show Sp p e below T19 (mkF m 222 #[.val (.int p0), .val (.int p1), .val (.int p2), .val (.int p3), .val (.int p4), .val (.int (fx1 p0)), .val (.int z6), .val (.int z7), .val (.int (fx3 p4)), .val (.ref b2_0), .val (.ref b3_0), .val (.ref b4), .val (.ref b7), .val (.ref b7), .val (.int (0 : Int32))] [(.int (0 : Int32))]) _
    refine XS.iload X19.here hx rfl (hb hby at_222) rfl ?_
    refine XS.icmpNo X19.here hx rfl (hb hby at_224) rfl (teq (by decide : (0 : Int32) = (0 : Int32))).2 ?_
    refine XS.iconst X19.here hx rfl (hb hby at_227) ?_
    refine XS.goto X19.here hx rfl (pc0 := 228) (pc' := 232) rfl (hb hby at_228) (by decide) (by decide) ?_
    show Sp p e below T19 (mkF m 232 #[.val (.int p0), .val (.int p1), .val (.int p2), .val (.int p3), .val (.int p4), .val (.int (fx1 p0)), .val (.int z6), .val (.int z7), .val (.int (fx3 p4)), .val (.ref b2_0), .val (.ref b3_0), .val (.ref b4), .val (.ref b7), .val (.ref b7), .val (.int (0 : Int32))] [(.int (1 : Int32))]) _
    exact retN X19 hx (t := .boolean) Bd.returns (by simp) (hb hby at_232) hr
  · skip
    exact ⟨rfl, N19⟩
def Q65 (Z : State) (v0 : Addr) (v1 : Addr) (v2 : Addr) (v3 : Addr) (v4 : Addr) (v5 : Addr) (v6 : Addr) (v7 : Addr) (v8 : Addr) (v9 : Addr) (cs_v : Int32) (a1 : Addr) (a2 : Addr) (a3 : Addr) (a4 : Addr) (h0 : Heap) (n0 : Nat) (v : Option Value) (h : Heap) (L : List Loc) : Prop := v = some (.int (0 : Int32)) ∧ Fr n0 L ∧ h = h0
theorem rm65 (l : Launch) (Z : State) (a0 : Array Value) (hw : ∀ d ∈ tables_1, d.before a0 Z = true) (ws : List Jvm.Cond) (v0 v1 v2 v3 v4 v5 v6 v7 v8 v9 : Addr) (cs_v : Int32) (hp : Perm Z v0 v1 v2 v3 v4 v5 v6 v7 v8 v9 cs_v) (a1 : Addr) (a2 : Addr) (a3 : Addr) (a4 : Addr) (h0 : Heap) (n0 : Nat) (O0 : Old Z n0 h0) (E_a2 : Exa Z h0 a2 "com/example/ratebook/ratebook/model/PricedItem") (F_category_a1 : Fld Z h0 a1 "com/example/ratebook/ratebook/model/PricedItem" "category" "Lcom/example/ratebook/ratebook/model/Category;" (.ref a3)) (F_category_a2 : Fld Z h0 a2 "com/example/ratebook/ratebook/model/PricedItem" "category" "Lcom/example/ratebook/ratebook/model/Category;" (.ref a4)) (ne_a3_a4 : a3 ≠ a4) :
    MetFree l y11 (head1 (Jvm.Cond.code y11 prog_28_method_2_code 3 (some .boolean) :: ws) ({ frames := 0, cells := 0, slots := 0, locals := 0 } : Room)) (fun a U => a = #[(.ref a1), (.ref a2)] ∧ Z.Warmed39 U.vm ∧ U.heap = h0) (fun _ _ _ _ _ => True) (fun _ U o U' => ∃ v L, o = .returned v ∧ Q65 Z v0 v1 v2 v3 v4 v5 v6 v7 v8 v9 cs_v a1 a2 a3 a4 h0 n0 v U'.heap L ∧ FrameEnd U o U' L ({ frames := 0, cells := 0, slots := 0, locals := 0 } : Room).cells ({ frames := 0, cells := 0, slots := 0, locals := 0 } : Room).slots) := by
  refine MetFree.of_bodySF (plainFor_of_name pn_7) hisR ?_
  intro p e s m args below meth c s₁ Bd hml0 hP hK
  obtain ⟨rfl, hZ, hh⟩ := hP
  have hx := Bd.exec
  have hby := Bd.bytes
  have hml : c.maxLocals = 3 := hml0
  have hown : s.vm.findClass "com/example/ratebook/ratebook/model/PricedItem" = some m.cls := findClass_of_methodNamed Bd.named
  have hnm := (name_of_methodNamed Bd.named Bd.method).1
  have X0 : Stand p l e ({ frames := 0, cells := 0, slots := 0, locals := 0 } : Room) s m #[(.ref a1), (.ref a2)] below meth c s₁ [] 0 0 := Stand.of_body Bd
  have e0 : s₁.heap = h0 := by rw [← hh, Bd.state]; rfl
  have N0 := Fr.nil n0
  obtain ⟨T1, X1, e1, st1⟩ := instY X0 hx hZ hown (wq hw 65 rfl) e0 (Ins.self E_a2) (g := (mkF m 1 #[.val (.ref a1), .val (.ref a2), .unset] [(.ref a2)])) rfl rfl (hb hby d10_1)
  obtain ⟨T2, X2, e2, st2⟩ := castY X1 hx hZ hown (wq hw 65 rfl) e1 (Ins.self E_a2) (g := (mkF m 8 #[.val (.ref a1), .val (.ref a2), .unset] [(.ref a2)])) rfl rfl (hb hby d10_8)
  obtain ⟨T3, X3, e3, st3⟩ := getF X2 hx hZ hown (host := "") (Or.inl (wq hw 54 rfl)) Via.refl e2 F_category_a1 (g := (mkF m 13 #[.val (.ref a1), .val (.ref a2), .val (.ref a2)] [(.ref a1)])) rfl rfl (hb hby d10_13)
  obtain ⟨T4, X4, e4, st4⟩ := getF X3 hx hZ hown (host := "") (Or.inl (wq hw 54 rfl)) Via.refl e3 F_category_a2 (g := (mkF m 17 #[.val (.ref a1), .val (.ref a2), .val (.ref a2)] [(.ref a2), (.ref a3)])) rfl rfl (hb hby d10_17)
  obtain ⟨fs, hr, hrun, hended, hW, hsame⟩ := X4.leave (v := some (.int (0 : Int32))) (fun h => by rw [Bd.returns] at h; cases h)
  refine ⟨_, _, castTop (ef_10_1 m a1 a2) ?_, hrun, hended, _, _, rfl, ?_, ⟨_, rfl⟩, hW, hsame.mono (by decide) (by decide)⟩
  · show Sp p e below s₁ (mkF m 0 #[.val (.ref a1), .val (.ref a2), .unset] []) _
    refine XS.aloadN X0.here hx rfl (hb hby d10_0) rfl rfl ?_
    show Sp p e below s₁ (mkF m 1 #[.val (.ref a1), .val (.ref a2), .unset] [(.ref a2)]) _
    refine st1 _ ?_
    show Sp p e below T1 (mkF m 4 #[.val (.ref a1), .val (.ref a2), .unset] [(.int (1 : Int32))]) _
    refine XS.ifNo X1.here hx rfl (hb hby d10_4) rfl ((if0 _ _).trans (feq (by decide : ¬ ((1 : Int32) = (0 : Int32)))).1) ?_
    refine XS.aloadN X1.here hx rfl (hb hby d10_7) rfl rfl ?_
    show Sp p e below T1 (mkF m 8 #[.val (.ref a1), .val (.ref a2), .unset] [(.ref a2)]) _
    refine st2 _ ?_
    show Sp p e below T2 (mkF m 11 #[.val (.ref a1), .val (.ref a2), .unset] [(.ref a2)]) _
    refine XS.astoreN X2.here hx rfl (hb hby d10_11) rfl rfl (l' := #[.val (.ref a1), .val (.ref a2), .val (.ref a2)]) rfl ?_
    refine XS.aloadN X2.here hx rfl (hb hby d10_12) rfl rfl ?_
    show Sp p e below T2 (mkF m 13 #[.val (.ref a1), .val (.ref a2), .val (.ref a2)] [(.ref a1)]) _
    refine st3 _ ?_
    show Sp p e below T3 (mkF m 16 #[.val (.ref a1), .val (.ref a2), .val (.ref a2)] [(.ref a3)]) _
    refine XS.aloadN X3.here hx rfl (hb hby d10_16) rfl rfl ?_
    show Sp p e below T3 (mkF m 17 #[.val (.ref a1), .val (.ref a2), .val (.ref a2)] [(.ref a2), (.ref a3)]) _
    refine st4 _ ?_
    show Sp p e below T4 (mkF m 20 #[.val (.ref a1), .val (.ref a2), .val (.ref a2)] [(.ref a4), (.ref a3)]) _
    refine Jvm.RoadKit.acmp (g := (mkF m 20 #[.val (.ref a1), .val (.ref a2), .val (.ref a2)] [(.ref a4), (.ref a3)])) X4 hx rfl rfl rfl (pc0 := 20) (pc' := 41) (same := false) rfl (hb hby d10_20) rfl (decide_eq_false fun q => ne_a3_a4 (Value.ref.inj q)) (by decide) (by decide) ?_
    show Sp p e below T4 (mkF m 41 #[.val (.ref a1), .val (.ref a2), .val (.ref a2)] []) _
    refine XS.iconst X4.here hx rfl (hb hby d10_41) ?_
    show Sp p e below T4 (mkF m 42 #[.val (.ref a1), .val (.ref a2), .val (.ref a2)] [(.int (0 : Int32))]) _
    exact retN X4 hx (t := .boolean) Bd.returns (by simp) (hb hby d10_42) hr
  · show Q65 Z v0 v1 v2 v3 v4 v5 v6 v7 v8 v9 cs_v a1 a2 a3 a4 h0 n0 _ T4.heap _
    rw [e4]
    exact ⟨rfl, N0, rfl⟩
theorem rm66 (l : Launch) (Z : State) (a0 : Array Value) (hw : ∀ d ∈ tables_1, d.before a0 Z = true) (ws : List Jvm.Cond) (v0 v1 v2 v3 v4 v5 v6 v7 v8 v9 : Addr) (cs_v : Int32) (hp : Perm Z v0 v1 v2 v3 v4 v5 v6 v7 v8 v9 cs_v) (p0 : Int32) (p1 : Int32) (p2 : Int32) (p3 : Int32) (p4 : Int32) (z6 : Int32) (z7 : Int32) (h0 : Heap) (n0 : Nat) (O0 : Old Z n0 h0) (hcut0 : Cut_0_0 p0 p1 p2 p3 p4 z6 z7) (hz0 : 0 ≤ z6.toInt ∧ z6.toInt < 10) (hc3 : ¬ ((((p4.toUInt32 >>> ((8 : Int32) &&& 31).toUInt32).toInt32) &&& (3 : Int32)) = (1 : Int32))) (hc4 : ¬ ((((p4.toUInt32 >>> ((8 : Int32) &&& 31).toUInt32).toInt32) &&& (3 : Int32)) = (2 : Int32))) (hc5 : ¬ ((((p4.toUInt32 >>> ((8 : Int32) &&& 31).toUInt32).toInt32) &&& (3 : Int32)) = (3 : Int32))) (hc6 : ¬ (((p0 &&& (2147483647 : Int32)) % (10 : Int32)) = z6)) :
    MetFree l x (head1 (Jvm.Cond.code x code maxLocals ret :: ws) room_1) (fun a U => a = #[(.int p0), (.int p1), (.int p2), (.int p3), (.int p4)] ∧ Z.Warmed39 U.vm ∧ U.heap = h0 ∧ CHv Z own_EL U.vm h0) (fun _ _ _ _ _ => True) (fun _ U o U' => ∃ v L, o = .returned v ∧ (v = some (.int (1 : Int32)) ∧ Fr n0 L) ∧ ReturnedEndW U o U' L 32 3200) := by
  refine MetFree.of_bodySF (plainFor_of_name pn_2) hisR ?_
  intro p e s m args below meth c s₁ Bd hml0 hP hK
  obtain ⟨rfl, hZo, hh, hCH⟩ := hP
  have hx := Bd.exec
  have hby := Bd.bytes
  have hml : c.maxLocals = 15 := hml0
  have hown : (s.setVm s.vm).vm.findClass "com/example/ratebook/ratebook/model/PricedItemEqualsPinLaw" = some m.cls := findClass_of_methodNamed Bd.named
  have hnm := (name_of_methodNamed Bd.named Bd.method).1
  have X0 : Stand p l e room_1 (s.setVm s.vm) m #[(.int p0), (.int p1), (.int p2), (.int p3), (.int p4)] below meth c s₁ [] 0 0 := Stand.of_body Bd
  have e0 : s₁.heap = h0 := by rw [← hh, Bd.state]; rfl
  have N0 := Fr.nil n0
  have hZ : Z.Warmed39 (s.setVm s.vm).vm := hZo
  have CH0 := CHr.refl hCH
  have hS0 : s.Since s.vm 0 := (State.WarmedH.refl s).since 0
  have hk0 : 0 ≤ h0.size := Nat.zero_le _
  have st1 := hcut0 X0 hx hZ hw hby hown
  obtain ⟨_, _, ⟨T2, L2, k2, n2⟩, -, XX2, Sq2, gq2, ⟨Lc2, hQ2, l2, y2, z2, C2⟩, st2⟩ := callSS X0 hx (y := y3) hown (mvT hZ (wq hw 1 rfl)) (mvT hZ (wq hw 2 rfl)) (mvT hZ (wq hw 3 rfl)) (mvT hZ (wq hw 4 rfl)) (by decide) (own_backC (SL := []) (W := 0) (rmS1 l Z a0 hw [] v0 v1 v2 v3 v4 v5 v6 v7 v8 v9 cs_v hp p2 h0 n0 O0) hZ (wq hw 4 rfl) (wq hw 3 rfl) (by decide) (by decide) (own_EW hw) CH0.1 all0) (g := (mkF m 76 #[.val (.int p0), .val (.int p1), .val (.int p2), .val (.int p3), .val (.int p4), .val (.int (fx1 p0)), .val (.int z6), .val (.int z7), .val (.int (fx3 p4)), .unset, .unset, .unset, .unset, .unset, .unset] [(.int p2)])) rfl (by rw [hml]; rfl) (argsL := [(.int p2)]) (rest := []) (lenOf pd_6 rfl) rfl (by show 2 * 0 + _ ≤ _; exact Nat.le_of_eq rfl) (hb hby at_76) (fun _ _ => ⟨rfl, e0, (by decide : 0 + 4 ≤ _), (by decide : 0 + 10 ≤ _)⟩)
  dsimp only [Pt.U, Pt.locs, Pt.cells, Pt.slots] at XX2 Sq2 gq2 l2 y2 z2 st2 hQ2 C2
  subst l2 y2 z2
  obtain ⟨X2, hS2, hZ2, hown2⟩ := rebS hS0 (by rw [e0]; exact hk0) XX2 Sq2 gq2 hZ hown
  obtain ⟨b2_0, y2_0, kc2_0, rfl, Nq2, Kq2, sq_b2_0, fq2_0, fq2_1, fq2_2, fq2_3⟩ := hQ2
  have N2 := Fr.app N0 Nq2
  have CH2 := CH0.trans C2
  have hk2 : T2.heap.size ≤ T2.heap.size := Nat.le_refl _
  have O2 := O0.keep Kq2 all0
  obtain ⟨_, _, ⟨T3, L3, k3, n3⟩, -, XX3, Sq3, gq3, ⟨Lc3, hQ3, l3, y3, z3, C3⟩, st3⟩ := callSS X2 hx (y := y3) hown2 (mvT hZ2 (wq hw 1 rfl)) (mvT hZ2 (wq hw 2 rfl)) (mvT hZ2 (wq hw 3 rfl)) (mvT hZ2 (wq hw 4 rfl)) (by decide) (own_backC (SL := []) (W := 0) (rmS1 l Z a0 hw [] v0 v1 v2 v3 v4 v5 v6 v7 v8 v9 cs_v hp z7 T2.heap n0 O2) hZ2 (wq hw 4 rfl) (wq hw 3 rfl) (by decide) (by decide) (own_EW hw) CH2.1 all0) (g := (mkF m 83 #[.val (.int p0), .val (.int p1), .val (.int p2), .val (.int p3), .val (.int p4), .val (.int (fx1 p0)), .val (.int z6), .val (.int z7), .val (.int (fx3 p4)), .val (.ref b2_0), .unset, .unset, .unset, .unset, .unset] [(.int z7)])) rfl (by rw [hml]; rfl) (argsL := [(.int z7)]) (rest := []) (lenOf pd_6 rfl) rfl (by show 2 * 0 + _ ≤ _; exact Nat.le_of_eq rfl) (hb hby at_83) (fun _ _ => ⟨rfl, rfl, (by decide : 4 + 4 ≤ _), (by decide : 10 + 10 ≤ _)⟩)
  dsimp only [Pt.U, Pt.locs, Pt.cells, Pt.slots] at XX3 Sq3 gq3 l3 y3 z3 st3 hQ3 C3
  subst l3 y3 z3
  obtain ⟨X3, hS3, hZ3, hown3⟩ := rebS hS2 hk2 XX3 Sq3 gq3 hZ2 hown2
  obtain ⟨b3_0, y3_0, kc3_0, rfl, Nq3, Kq3, sq_b3_0, fq3_0, fq3_1, fq3_2, fq3_3⟩ := hQ3
  have N3 := Fr.app N2 Nq3
  have CH3 := CH2.trans C3
  have hk3 : T3.heap.size ≤ T3.heap.size := Nat.le_refl _
  have O3 := O2.keep Kq3 all0
  obtain ⟨T4, h4, X4, e4, E4, A4, D4, -, st4⟩ := newO X3 hx hZ3 hown3 (wq hw 30 rfl) (wq hw 31 rfl) (wq hw 32 rfl) rfl (g := (mkF m 88 #[.val (.int p0), .val (.int p1), .val (.int p2), .val (.int p3), .val (.int p4), .val (.int (fx1 p0)), .val (.int z6), .val (.int z7), .val (.int (fx3 p4)), .val (.ref b2_0), .val (.ref b3_0), .unset, .unset, .unset, .unset] [])) rfl (hb hby at_88) (by decide) (by decide)
  obtain ⟨b4, g4⟩ : ∃ z, z = T3.heap.size := ⟨_, rfl⟩
  rw [← g4] at A4 D4 st4
  have g_b4 : n0 ≤ b4 := Nat.le_trans (own_sz O3) (Nat.le_of_eq g4.symm)
  have O4 := O3.ext E4
  have CH4 := CH3.trans (CHr.ext E4 CH3.1)
  have hk4 := Nat.le_trans hk3 E4.1
  have F_category_b4 : Fld Z h4 b4 "com/example/ratebook/ratebook/model/PricedItem" "category" "Lcom/example/ratebook/ratebook/model/Category;" .null := D4 (Or.inr (wq hw 55 rfl)) (ty := (.object "com/example/ratebook/ratebook/model/Category")) (by decide)
  have F_resourceId_b4 : Fld Z h4 b4 "com/example/ratebook/ratebook/model/PricedItem" "resourceId" "Ljava/lang/String;" .null := D4 (Or.inr (wq hw 57 rfl)) (ty := (.object "java/lang/String")) (by decide)
  obtain ⟨_, _, ⟨T5, L5, k5, n5⟩, -, X5, ⟨Lc5, hQ5, l5, y5, z5⟩, st5⟩ := Jvm.LawKit.callS X4 hx (y := y7) hown3 (mvT hZ3 (wq hw 33 rfl)) (mvT hZ3 (wq hw 34 rfl)) (mvT hZ3 (wq hw 3 rfl)) (mvT hZ3 (wq hw 35 rfl)) (by decide) (backOf (W := 2) (rmK6 l Z a0 hw [] v0 v1 v2 v3 v4 v5 v6 v7 v8 v9 cs_v hp ((p0 &&& (2147483647 : Int32)) % (10 : Int32)) h4 n0 O4) hZ3 (wq hw 35 rfl) (wq hw 3 rfl) (by decide) (by decide)) (g := (mkF m 94 #[.val (.int p0), .val (.int p1), .val (.int p2), .val (.int p3), .val (.int p4), .val (.int (fx1 p0)), .val (.int z6), .val (.int z7), .val (.int (fx3 p4)), .val (.ref b2_0), .val (.ref b3_0), .unset, .unset, .unset, .unset] [(.int (fx1 p0)), (.ref b4), (.ref b4)])) rfl (by rw [hml]; rfl) (argsL := [(.int (fx1 p0))]) (rest := [(.ref b4), (.ref b4)]) (lenOf pd_7 rfl) rfl (by show 2 * 0 + _ ≤ _; exact Nat.le_of_eq rfl) (hb hby at_94) (fun _ _ => ⟨rfl, e4, (by decide : 9 + 0 ≤ _), (by decide : 22 + 0 ≤ _)⟩)
  dsimp only [Pt.U, Pt.locs, Pt.cells, Pt.slots] at X5 l5 y5 z5 st5 hQ5
  subst l5 y5 z5
  obtain ⟨c5_0, rfl, Nq5, eq5, oq5_0, oq5_1⟩ := hQ5
  have N5 := Fr.app N3 Nq5
  obtain ⟨_, _, ⟨T6, L6, k6, n6⟩, -, XX6, Sq6, gq6, ⟨Lc6, hQ6, l6, y6, z6, C6⟩, st6⟩ := X5.specialBackS hx (y := y10) rfl hown3 (mvT hZ3 (wq hw 39 rfl)) (mvT hZ3 (wq hw 40 rfl)) (mvT hZ3 (wq hw 41 rfl)) (by decide) (own_backC (SL := []) (W := 1) (rm35 l Z a0 hw [] v0 v1 v2 v3 v4 v5 v6 v7 v8 v9 cs_v hp b4 c5_0 b2_0 h4 n0 O4 A4 F_category_b4 F_resourceId_b4 g_b4) hZ3 (wq hw 41 rfl) (wq hw 32 rfl) (by decide) (by decide) (own_EW hw) CH4.1 all0) (g := (mkF m 99 #[.val (.int p0), .val (.int p1), .val (.int p2), .val (.int p3), .val (.int p4), .val (.int (fx1 p0)), .val (.int z6), .val (.int z7), .val (.int (fx3 p4)), .val (.ref b2_0), .val (.ref b3_0), .unset, .unset, .unset, .unset] [(.ref b2_0), (.ref c5_0), (.ref b4), (.ref b4)])) rfl (by rw [hml]; rfl) (Steps.refl _) (a := b4) (argsL := [(.ref c5_0), (.ref b2_0)]) (rest := [(.ref b4)]) (lenOf pd_10 rfl) rfl (by show 2 * 0 + _ ≤ _; exact Nat.le_of_eq rfl) (hb hby at_99) (fun _ _ => ⟨rfl, eq5, (by decide : 9 + 4 ≤ _), (by decide : 22 + 80 ≤ _)⟩)
  dsimp only [Pt.U, Pt.locs, Pt.cells, Pt.slots] at XX6 Sq6 gq6 l6 y6 z6 st6 hQ6 C6
  subst l6 y6 z6
  obtain ⟨X6, hS6, hZ6, hown6⟩ := rebS hS3 (by rw [eq5]; exact hk4) XX6 Sq6 gq6 hZ3 hown3
  obtain ⟨rfl, Nq6, Kq6, fq6_0, fq6_1, fq6_2⟩ := hQ6
  have N6 := Fr.app N5 Nq6
  have CH6 := CH4.trans C6
  have hk6 : T6.heap.size ≤ T6.heap.size := Nat.le_refl _
  have O6 := O4.keep Kq6 (allS g_b4 all0)
  obtain ⟨T7, h7, X7, e7, E7, A7, D7, -, st7⟩ := newO X6 hx hZ6 hown6 (wq hw 30 rfl) (wq hw 31 rfl) (wq hw 32 rfl) rfl (g := (mkF m 104 #[.val (.int p0), .val (.int p1), .val (.int p2), .val (.int p3), .val (.int p4), .val (.int (fx1 p0)), .val (.int z6), .val (.int z7), .val (.int (fx3 p4)), .val (.ref b2_0), .val (.ref b3_0), .val (.ref b4), .unset, .unset, .unset] [])) rfl (hb hby at_104) (by decide) (by decide)
  obtain ⟨b7, g7⟩ : ∃ z, z = T6.heap.size := ⟨_, rfl⟩
  rw [← g7] at A7 D7 st7
  have g_b7 : n0 ≤ b7 := Nat.le_trans (own_sz O6) (Nat.le_of_eq g7.symm)
  have O7 := O6.ext E7
  have CH7 := CH6.trans (CHr.ext E7 CH6.1)
  have hk7 := Nat.le_trans hk6 E7.1
  have F_category_b7 : Fld Z h7 b7 "com/example/ratebook/ratebook/model/PricedItem" "category" "Lcom/example/ratebook/ratebook/model/Category;" .null := D7 (Or.inr (wq hw 55 rfl)) (ty := (.object "com/example/ratebook/ratebook/model/Category")) (by decide)
  have F_resourceId_b7 : Fld Z h7 b7 "com/example/ratebook/ratebook/model/PricedItem" "resourceId" "Ljava/lang/String;" .null := D7 (Or.inr (wq hw 57 rfl)) (ty := (.object "java/lang/String")) (by decide)
  obtain ⟨_, _, ⟨T8, L8, k8, n8⟩, -, X8, ⟨Lc8, hQ8, l8, y8, z8⟩, st8⟩ := Jvm.LawKit.callS X7 hx (y := y7) hown6 (mvT hZ6 (wq hw 33 rfl)) (mvT hZ6 (wq hw 34 rfl)) (mvT hZ6 (wq hw 3 rfl)) (mvT hZ6 (wq hw 35 rfl)) (by decide) (backOf (W := 2) (rmK6 l Z a0 hw [] v0 v1 v2 v3 v4 v5 v6 v7 v8 v9 cs_v hp z6 h7 n0 O7) hZ6 (wq hw 35 rfl) (wq hw 3 rfl) (by decide) (by decide)) (g := (mkF m 110 #[.val (.int p0), .val (.int p1), .val (.int p2), .val (.int p3), .val (.int p4), .val (.int (fx1 p0)), .val (.int z6), .val (.int z7), .val (.int (fx3 p4)), .val (.ref b2_0), .val (.ref b3_0), .val (.ref b4), .unset, .unset, .unset] [(.int z6), (.ref b7), (.ref b7)])) rfl (by rw [hml]; rfl) (argsL := [(.int z6)]) (rest := [(.ref b7), (.ref b7)]) (lenOf pd_7 rfl) rfl (by show 2 * 0 + _ ≤ _; exact Nat.le_of_eq rfl) (hb hby at_110) (fun _ _ => ⟨rfl, e7, (by decide : 14 + 0 ≤ _), (by decide : 104 + 0 ≤ _)⟩)
  dsimp only [Pt.U, Pt.locs, Pt.cells, Pt.slots] at X8 l8 y8 z8 st8 hQ8
  subst l8 y8 z8
  obtain ⟨c8_0, rfl, Nq8, eq8, oq8_0, oq8_1⟩ := hQ8
  have N8 := Fr.app N6 Nq8
  obtain ⟨_, _, ⟨T9, L9, k9, n9⟩, -, XX9, Sq9, gq9, ⟨Lc9, hQ9, l9, y9, z9, C9⟩, st9⟩ := X8.specialBackS hx (y := y10) rfl hown6 (mvT hZ6 (wq hw 39 rfl)) (mvT hZ6 (wq hw 40 rfl)) (mvT hZ6 (wq hw 41 rfl)) (by decide) (own_backC (SL := []) (W := 1) (rm35 l Z a0 hw [] v0 v1 v2 v3 v4 v5 v6 v7 v8 v9 cs_v hp b7 c8_0 b3_0 h7 n0 O7 A7 F_category_b7 F_resourceId_b7 g_b7) hZ6 (wq hw 41 rfl) (wq hw 32 rfl) (by decide) (by decide) (own_EW hw) CH7.1 all0) (g := (mkF m 115 #[.val (.int p0), .val (.int p1), .val (.int p2), .val (.int p3), .val (.int p4), .val (.int (fx1 p0)), .val (.int z6), .val (.int z7), .val (.int (fx3 p4)), .val (.ref b2_0), .val (.ref b3_0), .val (.ref b4), .unset, .unset, .unset] [(.ref b3_0), (.ref c8_0), (.ref b7), (.ref b7)])) rfl (by rw [hml]; rfl) (Steps.refl _) (a := b7) (argsL := [(.ref c8_0), (.ref b3_0)]) (rest := [(.ref b7)]) (lenOf pd_10 rfl) rfl (by show 2 * 0 + _ ≤ _; exact Nat.le_of_eq rfl) (hb hby at_115) (fun _ _ => ⟨rfl, eq8, (by decide : 14 + 4 ≤ _), (by decide : 104 + 80 ≤ _)⟩)
  dsimp only [Pt.U, Pt.locs, Pt.cells, Pt.slots] at XX9 Sq9 gq9 l9 y9 z9 st9 hQ9 C9
  subst l9 y9 z9
  obtain ⟨X9, hS9, hZ9, hown9⟩ := rebS hS6 (by rw [eq8]; exact hk7) XX9 Sq9 gq9 hZ6 hown6
  obtain ⟨rfl, Nq9, Kq9, fq9_0, fq9_1, fq9_2⟩ := hQ9
  have N9 := Fr.app N8 Nq9
  have CH9 := CH7.trans C9
  have hk9 : T9.heap.size ≤ T9.heap.size := Nat.le_refl _
  have O9 := O7.keep Kq9 (allS g_b7 all0)
  have f_10 := ((fq6_1.ext E7).keep Kq9 (ninS (Nat.ne_of_lt (Nat.lt_of_lt_of_le (A4.keep Kq6).lt (Nat.le_of_eq g7.symm))) nin0))
  obtain ⟨cq11, kq11, q11a, q11b, q11c⟩ := isOf hZ9 rfl ((fq6_0.ext E7).keep Kq9)
  obtain ⟨_, _, ⟨T11, L11, k11, n11⟩, -, X11, ⟨Lc11, hQ11, l11, y11, z11⟩, st11⟩ := X9.virtualBack hx (y := y11) (z := y11) hown9 (mvT hZ9 (wq hw 60 rfl)) (mvT hZ9 (wq hw 61 rfl)) (notFace_of_selects (args := #[]) (mvT hZ9 (wq hw 63 rfl))) (mvT hZ9 (wq hw 63 rfl)) (mvT hZ9 (wq hw 62 rfl)) (by decide) (backOf (W := 0) (rm65 l Z a0 hw [] v0 v1 v2 v3 v4 v5 v6 v7 v8 v9 cs_v hp b4 b7 c5_0 c8_0 T9.heap n0 O9 fq9_0 f_10 fq9_1 (fun q => own_catne hp (own_rem (x := p0) (m := (2147483647 : Int32)) (M := 2147483647) rfl (by decide) (y := (10 : Int32)) (d := 10) rfl (by decide)) hz0 hc6 (oq5_1.symm.trans (q.trans oq8_1)))) hZ9 (wq hw 64 rfl) (wq hw 32 rfl) (by decide) (by decide)) q11a q11c (g := (mkF m 219 #[.val (.int p0), .val (.int p1), .val (.int p2), .val (.int p3), .val (.int p4), .val (.int (fx1 p0)), .val (.int z6), .val (.int z7), .val (.int (fx3 p4)), .val (.ref b2_0), .val (.ref b3_0), .val (.ref b4), .val (.ref b7), .val (.ref b7), .val (.int (0 : Int32))] [(.ref b7), (.ref b4)])) rfl (by rw [hml]; rfl) (Steps.refl _) (argsL := [(.ref b7)]) (rest := []) (lenOf pd_11 rfl) rfl (by show 2 * 0 + _ ≤ _; exact Nat.le_of_eq rfl) (hb hby at_219) (fun _ _ => ⟨rfl, rfl, (by decide : 18 + 0 ≤ _), (by decide : 184 + 0 ≤ _)⟩)
  dsimp only [Pt.U, Pt.locs, Pt.cells, Pt.slots] at X11 l11 y11 z11 st11 hQ11
  subst l11 y11 z11
  obtain ⟨rfl, Nq11, eq11⟩ := hQ11
  have N11 := Fr.app N9 Nq11
  obtain ⟨fs, hr, hrun, hended, hE⟩ := Stand.leaveW (s := s) X11 hS9 (by rw [eq11]; exact hk9) (v := some (.int (1 : Int32))) (fun h => by rw [Bd.returns] at h; cases h)
  refine ⟨_, _, castTop (ef_0_0 m p0 p1 p2 p3 p4) ?_, hrun, hended, _, _, rfl, ?_, hE.1, hE.2.1, hE.2.2.1, hE.2.2.2.mono (by decide) (by decide)⟩
  · show Sp p e below s₁ (mkF m 0 #[.val (.int p0), .val (.int p1), .val (.int p2), .val (.int p3), .val (.int p4), .unset, .unset, .unset, .unset, .unset, .unset, .unset, .unset, .unset, .unset] []) _
    refine st1 _ ?_
    show Sp p e below s₁ (mkF m 75 #[.val (.int p0), .val (.int p1), .val (.int p2), .val (.int p3), .val (.int p4), .val (.int (fx1 p0)), .val (.int z6), .val (.int z7), .val (.int (fx3 p4)), .unset, .unset, .unset, .unset, .unset, .unset] []) _
    refine XS.iloadN X0.here hx rfl (hb hby at_75) rfl ?_
    show Sp p e below s₁ (mkF m 76 #[.val (.int p0), .val (.int p1), .val (.int p2), .val (.int p3), .val (.int p4), .val (.int (fx1 p0)), .val (.int z6), .val (.int z7), .val (.int (fx3 p4)), .unset, .unset, .unset, .unset, .unset, .unset] [(.int p2)]) _
    refine st2.trans ?_
    show Sp p e below T2 (mkF m 79 #[.val (.int p0), .val (.int p1), .val (.int p2), .val (.int p3), .val (.int p4), .val (.int (fx1 p0)), .val (.int z6), .val (.int z7), .val (.int (fx3 p4)), .unset, .unset, .unset, .unset, .unset, .unset] [(.ref b2_0)]) _
    refine XS.astore X2.here hx rfl (hb hby at_79) rfl rfl (l' := #[.val (.int p0), .val (.int p1), .val (.int p2), .val (.int p3), .val (.int p4), .val (.int (fx1 p0)), .val (.int z6), .val (.int z7), .val (.int (fx3 p4)), .val (.ref b2_0), .unset, .unset, .unset, .unset, .unset]) rfl ?_
    refine XS.iload X2.here hx rfl (hb hby at_81) rfl ?_
    show Sp p e below T2 (mkF m 83 #[.val (.int p0), .val (.int p1), .val (.int p2), .val (.int p3), .val (.int p4), .val (.int (fx1 p0)), .val (.int z6), .val (.int z7), .val (.int (fx3 p4)), .val (.ref b2_0), .unset, .unset, .unset, .unset, .unset] [(.int z7)]) _
    refine st3.trans ?_
    show Sp p e below T3 (mkF m 86 #[.val (.int p0), .val (.int p1), .val (.int p2), .val (.int p3), .val (.int p4), .val (.int (fx1 p0)), .val (.int z6), .val (.int z7), .val (.int (fx3 p4)), .val (.ref b2_0), .unset, .unset, .unset, .unset, .unset] [(.ref b3_0)]) _
    refine XS.astore X3.here hx rfl (hb hby at_86) rfl rfl (l' := #[.val (.int p0), .val (.int p1), .val (.int p2), .val (.int p3), .val (.int p4), .val (.int (fx1 p0)), .val (.int z6), .val (.int z7), .val (.int (fx3 p4)), .val (.ref b2_0), .val (.ref b3_0), .unset, .unset, .unset, .unset]) rfl ?_
    show Sp p e below T3 (mkF m 88 #[.val (.int p0), .val (.int p1), .val (.int p2), .val (.int p3), .val (.int p4), .val (.int (fx1 p0)), .val (.int z6), .val (.int z7), .val (.int (fx3 p4)), .val (.ref b2_0), .val (.ref b3_0), .unset, .unset, .unset, .unset] []) _
    refine st4 _ ?_
    show Sp p e below T4 (mkF m 91 #[.val (.int p0), .val (.int p1), .val (.int p2), .val (.int p3), .val (.int p4), .val (.int (fx1 p0)), .val (.int z6), .val (.int z7), .val (.int (fx3 p4)), .val (.ref b2_0), .val (.ref b3_0), .unset, .unset, .unset, .unset] [(.ref b4)]) _
    refine XS.dup X4.here hx rfl (hb hby at_91) rfl rfl ?_
    refine XS.iload X4.here hx rfl (hb hby at_92) rfl ?_
    show Sp p e below T4 (mkF m 94 #[.val (.int p0), .val (.int p1), .val (.int p2), .val (.int p3), .val (.int p4), .val (.int (fx1 p0)), .val (.int z6), .val (.int z7), .val (.int (fx3 p4)), .val (.ref b2_0), .val (.ref b3_0), .unset, .unset, .unset, .unset] [(.int (fx1 p0)), (.ref b4), (.ref b4)]) _
    refine st5 _ ?_
    show Sp p e below T5 (mkF m 97 #[.val (.int p0), .val (.int p1), .val (.int p2), .val (.int p3), .val (.int p4), .val (.int (fx1 p0)), .val (.int z6), .val (.int z7), .val (.int (fx3 p4)), .val (.ref b2_0), .val (.ref b3_0), .unset, .unset, .unset, .unset] [(.ref c5_0), (.ref b4), (.ref b4)]) _
    refine XS.aload X5.here hx rfl (hb hby at_97) rfl rfl ?_
    show Sp p e below T5 (mkF m 99 #[.val (.int p0), .val (.int p1), .val (.int p2), .val (.int p3), .val (.int p4), .val (.int (fx1 p0)), .val (.int z6), .val (.int z7), .val (.int (fx3 p4)), .val (.ref b2_0), .val (.ref b3_0), .unset, .unset, .unset, .unset] [(.ref b2_0), (.ref c5_0), (.ref b4), (.ref b4)]) _
    refine st6.trans ?_
    show Sp p e below T6 (mkF m 102 #[.val (.int p0), .val (.int p1), .val (.int p2), .val (.int p3), .val (.int p4), .val (.int (fx1 p0)), .val (.int z6), .val (.int z7), .val (.int (fx3 p4)), .val (.ref b2_0), .val (.ref b3_0), .unset, .unset, .unset, .unset] [(.ref b4)]) _
    refine XS.astore X6.here hx rfl (hb hby at_102) rfl rfl (l' := #[.val (.int p0), .val (.int p1), .val (.int p2), .val (.int p3), .val (.int p4), .val (.int (fx1 p0)), .val (.int z6), .val (.int z7), .val (.int (fx3 p4)), .val (.ref b2_0), .val (.ref b3_0), .val (.ref b4), .unset, .unset, .unset]) rfl ?_
    show Sp p e below T6 (mkF m 104 #[.val (.int p0), .val (.int p1), .val (.int p2), .val (.int p3), .val (.int p4), .val (.int (fx1 p0)), .val (.int z6), .val (.int z7), .val (.int (fx3 p4)), .val (.ref b2_0), .val (.ref b3_0), .val (.ref b4), .unset, .unset, .unset] []) _
    refine st7 _ ?_
    show Sp p e below T7 (mkF m 107 #[.val (.int p0), .val (.int p1), .val (.int p2), .val (.int p3), .val (.int p4), .val (.int (fx1 p0)), .val (.int z6), .val (.int z7), .val (.int (fx3 p4)), .val (.ref b2_0), .val (.ref b3_0), .val (.ref b4), .unset, .unset, .unset] [(.ref b7)]) _
    refine XS.dup X7.here hx rfl (hb hby at_107) rfl rfl ?_
    refine XS.iload X7.here hx rfl (hb hby at_108) rfl ?_
    show Sp p e below T7 (mkF m 110 #[.val (.int p0), .val (.int p1), .val (.int p2), .val (.int p3), .val (.int p4), .val (.int (fx1 p0)), .val (.int z6), .val (.int z7), .val (.int (fx3 p4)), .val (.ref b2_0), .val (.ref b3_0), .val (.ref b4), .unset, .unset, .unset] [(.int z6), (.ref b7), (.ref b7)]) _
    refine st8 _ ?_
    show Sp p e below T8 (mkF m 113 #[.val (.int p0), .val (.int p1), .val (.int p2), .val (.int p3), .val (.int p4), .val (.int (fx1 p0)), .val (.int z6), .val (.int z7), .val (.int (fx3 p4)), .val (.ref b2_0), .val (.ref b3_0), .val (.ref b4), .unset, .unset, .unset] [(.ref c8_0), (.ref b7), (.ref b7)]) _
    refine XS.aload X8.here hx rfl (hb hby at_113) rfl rfl ?_
    show Sp p e below T8 (mkF m 115 #[.val (.int p0), .val (.int p1), .val (.int p2), .val (.int p3), .val (.int p4), .val (.int (fx1 p0)), .val (.int z6), .val (.int z7), .val (.int (fx3 p4)), .val (.ref b2_0), .val (.ref b3_0), .val (.ref b4), .unset, .unset, .unset] [(.ref b3_0), (.ref c8_0), (.ref b7), (.ref b7)]) _
    refine st9.trans ?_
    show Sp p e below T9 (mkF m 118 #[.val (.int p0), .val (.int p1), .val (.int p2), .val (.int p3), .val (.int p4), .val (.int (fx1 p0)), .val (.int z6), .val (.int z7), .val (.int (fx3 p4)), .val (.ref b2_0), .val (.ref b3_0), .val (.ref b4), .unset, .unset, .unset] [(.ref b7)]) _
    refine XS.astore X9.here hx rfl (hb hby at_118) rfl rfl (l' := #[.val (.int p0), .val (.int p1), .val (.int p2), .val (.int p3), .val (.int p4), .val (.int (fx1 p0)), .val (.int z6), .val (.int z7), .val (.int (fx3 p4)), .val (.ref b2_0), .val (.ref b3_0), .val (.ref b4), .val (.ref b7), .unset, .unset]) rfl ?_
    refine XS.iload X9.here hx rfl (hb hby at_120) rfl ?_
    refine XS.iconst X9.here hx rfl (hb hby at_122) ?_
    refine XS.icmpYes X9.here hx rfl (pc0 := 123) (pc' := 132) rfl (hb hby at_123) rfl (feq hc3).2 (by decide) (by decide) ?_
    refine XS.iload X9.here hx rfl (hb hby at_132) rfl ?_
    refine XS.iconst X9.here hx rfl (hb hby at_134) ?_
    refine XS.icmpYes X9.here hx rfl (pc0 := 135) (pc' := 145) rfl (hb hby at_135) rfl (feq hc4).2 (by decide) (by decide) ?_
    show Sp p e below T9 (mkF m 145 #[.val (.int p0), .val (.int p1), .val (.int p2), .val (.int p3), .val (.int p4), .val (.int (fx1 p0)), .val (.int z6), .val (.int z7), .val (.int (fx3 p4)), .val (.ref b2_0), .val (.ref b3_0), .val (.ref b4), .val (.ref b7), .unset, .unset] []) _
    refine XS.iload X9.here hx rfl (hb hby at_145) rfl ?_
    refine XS.iconst X9.here hx rfl (hb hby at_147) ?_
    refine XS.icmpYes X9.here hx rfl (pc0 := 148) (pc' := 158) rfl (hb hby at_148) rfl (feq hc5).2 (by decide) (by decide) ?_
    refine XS.aload X9.here hx rfl (hb hby at_158) rfl rfl ?_
    refine XS.astore X9.here hx rfl (hb hby at_160) rfl rfl (l' := #[.val (.int p0), .val (.int p1), .val (.int p2), .val (.int p3), .val (.int p4), .val (.int (fx1 p0)), .val (.int z6), .val (.int z7), .val (.int (fx3 p4)), .val (.ref b2_0), .val (.ref b3_0), .val (.ref b4), .val (.ref b7), .val (.ref b7), .unset]) rfl ?_
    refine XS.iload X9.here hx rfl (hb hby at_162) rfl ?_
    refine XS.iconst X9.here hx rfl (hb hby at_164) ?_
    show Sp p e below T9 (mkF m 165 #[.val (.int p0), .val (.int p1), .val (.int p2), .val (.int p3), .val (.int p4), .val (.int (fx1 p0)), .val (.int z6), .val (.int z7), .val (.int (fx3 p4)), .val (.ref b2_0), .val (.ref b3_0), .val (.ref b4), .val (.ref b7), .val (.ref b7), .unset] [(.int (1 : Int32)), (.int (fx3 p4))]) _
    refine XS.icmpNo X9.here hx rfl (hb hby at_165) rfl (feq hc3).1 ?_
    refine XS.iload X9.here hx rfl (hb hby at_168) rfl ?_
    refine XS.iconst X9.here hx rfl (hb hby at_170) ?_
    refine XS.icmpYes X9.here hx rfl (pc0 := 171) (pc' := 180) rfl (hb hby at_171) rfl (feq hc4).2 (by decide) (by decide) ?_
    refine XS.iload X9.here hx rfl (hb hby at_180) rfl ?_
    refine XS.iconst X9.here hx rfl (hb hby at_182) ?_
    refine XS.icmpYes X9.here hx rfl (pc0 := 183) (pc' := 192) rfl (hb hby at_183) rfl (feq hc5).2 (by decide) (by decide) ?_
    show Sp p e below T9 (mkF m 192 #[.val (.int p0), .val (.int p1), .val (.int p2), .val (.int p3), .val (.int p4), .val (.int (fx1 p0)), .val (.int z6), .val (.int z7), .val (.int (fx3 p4)), .val (.ref b2_0), .val (.ref b3_0), .val (.ref b4), .val (.ref b7), .val (.ref b7), .unset] []) _
    refine XS.iload X9.here hx rfl (hb hby at_192) rfl ?_
    refine XS.iload X9.here hx rfl (hb hby at_194) rfl ?_
    refine XS.icmpYes X9.here hx rfl (pc0 := 196) (pc' := 212) rfl (hb hby at_196) rfl (feq hc6).2 (by decide) (by decide) ?_
    refine XS.iconst X9.here hx rfl (hb hby at_212) ?_
    refine XS.istore X9.here hx rfl (hb hby at_213) rfl (l' := #[.val (.int p0), .val (.int p1), .val (.int p2), .val (.int p3), .val (.int p4), .val (.int (fx1 p0)), .val (.int z6), .val (.int z7), .val (.int (fx3 p4)), .val (.ref b2_0), .val (.ref b3_0), .val (.ref b4), .val (.ref b7), .val (.ref b7), .val (.int (0 : Int32))]) rfl ?_
    refine XS.aload X9.here hx rfl (hb hby at_215) rfl rfl ?_
    refine XS.aload X9.here hx rfl (hb hby at_217) rfl rfl ?_
    show Sp p e below T9 (mkF m 219 #[.val (.int p0), .val (.int p1), .val (.int p2), .val (.int p3), .val (.int p4), .val (.int (fx1 p0)), .val (.int z6), .val (.int z7), .val (.int (fx3 p4)), .val (.ref b2_0), .val (.ref b3_0), .val (.ref b4), .val (.ref b7), .val (.ref b7), .val (.int (0 : Int32))] [(.ref b7), (.ref b4)]) _
    refine st11.trans ?_
    show Sp p e below T11 (mkF m 222 #[.val (.int p0), .val (.int p1), .val (.int p2), .val (.int p3), .val (.int p4), .val (.int (fx1 p0)), .val (.int z6), .val (.int z7), .val (.int (fx3 p4)), .val (.ref b2_0), .val (.ref b3_0), .val (.ref b4), .val (.ref b7), .val (.ref b7), .val (.int (0 : Int32))] [(.int (0 : Int32))]) _
    refine XS.iload X11.here hx rfl (hb hby at_222) rfl ?_
    refine XS.icmpNo X11.here hx rfl (hb hby at_224) rfl (teq (by decide : (0 : Int32) = (0 : Int32))).2 ?_
    refine XS.iconst X11.here hx rfl (hb hby at_227) ?_
    refine XS.goto X11.here hx rfl (pc0 := 228) (pc' := 232) rfl (hb hby at_228) (by decide) (by decide) ?_
    show Sp p e below T11 (mkF m 232 #[.val (.int p0), .val (.int p1), .val (.int p2), .val (.int p3), .val (.int p4), .val (.int (fx1 p0)), .val (.int z6), .val (.int z7), .val (.int (fx3 p4)), .val (.ref b2_0), .val (.ref b3_0), .val (.ref b4), .val (.ref b7), .val (.ref b7), .val (.int (0 : Int32))] [(.int (1 : Int32))]) _
    exact retN X11 hx (t := .boolean) Bd.returns (by simp) (hb hby at_232) hr
  · skip
    exact ⟨rfl, N11⟩
theorem d12_50 : decode jdk_42_method_66_code 50 = .ok (.iconst 1, 1) := by decide +kernel
theorem d12_51 : decode jdk_42_method_66_code 51 = .ok (.goto 4, 3) := by decide +kernel
def Q67 (Z : State) (v0 : Addr) (v1 : Addr) (v2 : Addr) (v3 : Addr) (v4 : Addr) (v5 : Addr) (v6 : Addr) (v7 : Addr) (v8 : Addr) (v9 : Addr) (cs_v : Int32) (a1 : Addr) (a2 : Addr) (a3 : Addr) (a4 : Addr) (k_a3 : ClassId) (p6 : Int32) (k_a4 : ClassId) (p8 : Int32) (h0 : Heap) (n0 : Nat) (v : Option Value) (h : Heap) (L : List Loc) : Prop := v = some (.int (1 : Int32)) ∧ Fr n0 L ∧ h = h0
theorem rm67 (l : Launch) (Z : State) (a0 : Array Value) (hw : ∀ d ∈ tables_1, d.before a0 Z = true) (ws : List Jvm.Cond) (v0 v1 v2 v3 v4 v5 v6 v7 v8 v9 : Addr) (cs_v : Int32) (hp : Perm Z v0 v1 v2 v3 v4 v5 v6 v7 v8 v9 cs_v) (a1 : Addr) (a2 : Addr) (a3 : Addr) (a4 : Addr) (k_a3 : ClassId) (p6 : Int32) (k_a4 : ClassId) (p8 : Int32) (h0 : Heap) (n0 : Nat) (O0 : Old Z n0 h0) (ne_a1_a2 : a1 ≠ a2) (E_a2 : Exa Z h0 a2 "java/lang/String") (F_coder_a1 : Fld Z h0 a1 "java/lang/String" "coder" "B" (.int (0 : Int32))) (F_coder_a2 : Fld Z h0 a2 "java/lang/String" "coder" "B" (.int (0 : Int32))) (F_value_a1 : Fld Z h0 a1 "java/lang/String" "value" "[B" (.ref a3)) (F_value_a2 : Fld Z h0 a2 "java/lang/String" "value" "[B" (.ref a4)) (V_a3 : Arv Z h0 a3 k_a3 .byte (sxN p6) (sxV p6) (.int (0 : Int32))) (V_a4 : Arv Z h0 a4 k_a4 .byte (sxN p8) (sxV p8) (.int (0 : Int32))) (hc9 : ¬ ((sxE p6 p8) = (0 : Int32))) :
    MetFree l y12 (head1 (Jvm.Cond.code y12 jdk_42_method_66_code 3 (some .boolean) :: ws) ({ frames := 1, cells := 0, slots := 0, locals := 14 } : Room)) (fun a U => a = #[(.ref a1), (.ref a2)] ∧ Z.Warmed39 U.vm ∧ U.heap = h0) (fun _ _ _ _ _ => True) (fun _ U o U' => ∃ v L, o = .returned v ∧ Q67 Z v0 v1 v2 v3 v4 v5 v6 v7 v8 v9 cs_v a1 a2 a3 a4 k_a3 p6 k_a4 p8 h0 n0 v U'.heap L ∧ FrameEnd U o U' L ({ frames := 1, cells := 0, slots := 0, locals := 14 } : Room).cells ({ frames := 1, cells := 0, slots := 0, locals := 14 } : Room).slots) := by
  refine MetFree.of_bodySF (plainFor_of_name pn_4) hisR ?_
  intro p e s m args below meth c s₁ Bd hml0 hP hK
  obtain ⟨rfl, hZ, hh⟩ := hP
  have hx := Bd.exec
  have hby := Bd.bytes
  have hml : c.maxLocals = 3 := hml0
  have hown : s.vm.findClass "java/lang/String" = some m.cls := findClass_of_methodNamed Bd.named
  have hnm := (name_of_methodNamed Bd.named Bd.method).1
  have X0 : Stand p l e ({ frames := 1, cells := 0, slots := 0, locals := 14 } : Room) s m #[(.ref a1), (.ref a2)] below meth c s₁ [] 0 0 := Stand.of_body Bd
  have e0 : s₁.heap = h0 := by rw [← hh, Bd.state]; rfl
  have N0 := Fr.nil n0
  have hp' := hp
  obtain ⟨_, _, _, _, _, _, _, _, _, _, _, _, _, _, _, _, _, _, _, _, _, _, _, _, _, _, _, _, _, _, S_COMPACT_STRINGS, h_cs⟩ := hp'
  obtain ⟨T1, X1, e1, st1⟩ := instY X0 hx hZ hown (wq hw 75 rfl) e0 (Ins.self E_a2) (g := (mkF m 8 #[.val (.ref a1), .val (.ref a2), .unset] [(.ref a2)])) rfl rfl (hb hby d12_8)
  obtain ⟨T2, X2, e2, st2⟩ := castY X1 hx hZ hown (wq hw 75 rfl) e1 (Ins.self E_a2) (g := (mkF m 15 #[.val (.ref a1), .val (.ref a2), .unset] [(.ref a2)])) rfl rfl (hb hby d12_15)
  obtain ⟨T3, X3, e3, st3⟩ := getS2 X2 hx hZ hown (host := "") (Or.inl (wq hw 76 rfl)) Via.refl e2 (S_COMPACT_STRINGS.ext O0.2) (g := (mkF m 19 #[.val (.ref a1), .val (.ref a2), .val (.ref a2)] [])) rfl (hb hby d12_19)
  obtain ⟨T4, X4, e4, st4⟩ := getF X3 hx hZ hown (host := "") (Or.inl (wq hw 29 rfl)) Via.refl e3 F_coder_a1 (g := (mkF m 26 #[.val (.ref a1), .val (.ref a2), .val (.ref a2)] [(.ref a1)])) rfl rfl (hb hby d12_26)
  obtain ⟨T5, X5, e5, st5⟩ := getF X4 hx hZ hown (host := "") (Or.inl (wq hw 29 rfl)) Via.refl e4 F_coder_a2 (g := (mkF m 30 #[.val (.ref a1), .val (.ref a2), .val (.ref a2)] [(.ref a2), (.int (0 : Int32))])) rfl rfl (hb hby d12_30)
  obtain ⟨T6, X6, e6, st6⟩ := getF X5 hx hZ hown (host := "") (Or.inl (wq hw 28 rfl)) Via.refl e5 F_value_a1 (g := (mkF m 37 #[.val (.ref a1), .val (.ref a2), .val (.ref a2)] [(.ref a1)])) rfl rfl (hb hby d12_37)
  obtain ⟨T7, X7, e7, st7⟩ := getF X6 hx hZ hown (host := "") (Or.inl (wq hw 28 rfl)) Via.refl e6 F_value_a2 (g := (mkF m 41 #[.val (.ref a1), .val (.ref a2), .val (.ref a2)] [(.ref a2), (.ref a3)])) rfl rfl (hb hby d12_41)
  obtain ⟨_, _, ⟨T8, L8, k8, n8⟩, -, X8, ⟨Lc8, hQ8, l8, y8, z8⟩, st8⟩ := Jvm.LawKit.callS X7 hx (y := y14) hown (mvT hZ (wq hw 77 rfl)) (mvT hZ (wq hw 78 rfl)) (mvT hZ (wq hw 79 rfl)) (mvT hZ (wq hw 80 rfl)) (by decide) (backOf (W := 0) (rmE13 l Z a0 hw [] v0 v1 v2 v3 v4 v5 v6 v7 v8 v9 cs_v hp a3 a4 k_a3 k_a4 p6 p8 h0 n0 O0 V_a3 V_a4) hZ (wq hw 80 rfl) (wq hw 79 rfl) (by decide) (by decide)) (g := (mkF m 44 #[.val (.ref a1), .val (.ref a2), .val (.ref a2)] [(.ref a4), (.ref a3)])) rfl (by rw [hml]; rfl) (argsL := [(.ref a3), (.ref a4)]) (rest := []) (lenOf pd_13 rfl) rfl (by show 2 * 0 + _ ≤ _; exact Nat.le_of_eq rfl) (hb hby d12_44) (fun _ _ => ⟨rfl, e7, (by decide : 0 + 0 ≤ _), (by decide : 0 + 0 ≤ _)⟩)
  dsimp only [Pt.U, Pt.locs, Pt.cells, Pt.slots] at X8 l8 y8 z8 st8 hQ8
  subst l8 y8 z8
  obtain ⟨rfl, Nq8, eq8⟩ := hQ8
  have N8 := Fr.app N0 Nq8
  obtain ⟨fs, hr, hrun, hended, hW, hsame⟩ := X8.leave (v := some (.int (1 : Int32))) (fun h => by rw [Bd.returns] at h; cases h)
  refine ⟨_, _, castTop (ef_12_0 m a1 a2) ?_, hrun, hended, _, _, rfl, ?_, ⟨_, rfl⟩, hW, hsame.mono (by decide) (by decide)⟩
  · show Sp p e below s₁ (mkF m 0 #[.val (.ref a1), .val (.ref a2), .unset] []) _
    refine XS.aloadN X0.here hx rfl (hb hby d12_0) rfl rfl ?_
    refine XS.aloadN X0.here hx rfl (hb hby d12_1) rfl rfl ?_
    show Sp p e below s₁ (mkF m 2 #[.val (.ref a1), .val (.ref a2), .unset] [(.ref a2), (.ref a1)]) _
    refine Jvm.RoadKit.acmp (g := (mkF m 2 #[.val (.ref a1), .val (.ref a2), .unset] [(.ref a2), (.ref a1)])) X0 hx rfl rfl rfl (pc0 := 2) (pc' := 7) (same := false) rfl (hb hby d12_2) rfl (decide_eq_false fun q => ne_a1_a2 (Value.ref.inj q)) (by decide) (by decide) ?_
    show Sp p e below s₁ (mkF m 7 #[.val (.ref a1), .val (.ref a2), .unset] []) _
    refine XS.aloadN X0.here hx rfl (hb hby d12_7) rfl rfl ?_
    show Sp p e below s₁ (mkF m 8 #[.val (.ref a1), .val (.ref a2), .unset] [(.ref a2)]) _
    refine st1 _ ?_
    show Sp p e below T1 (mkF m 11 #[.val (.ref a1), .val (.ref a2), .unset] [(.int (1 : Int32))]) _
    refine XS.ifNo X1.here hx rfl (hb hby d12_11) rfl ((if0 _ _).trans (feq (by decide : ¬ ((1 : Int32) = (0 : Int32)))).1) ?_
    refine XS.aloadN X1.here hx rfl (hb hby d12_14) rfl rfl ?_
    show Sp p e below T1 (mkF m 15 #[.val (.ref a1), .val (.ref a2), .unset] [(.ref a2)]) _
    refine st2 _ ?_
    show Sp p e below T2 (mkF m 18 #[.val (.ref a1), .val (.ref a2), .unset] [(.ref a2)]) _
    refine XS.astoreN X2.here hx rfl (hb hby d12_18) rfl rfl (l' := #[.val (.ref a1), .val (.ref a2), .val (.ref a2)]) rfl ?_
    show Sp p e below T2 (mkF m 19 #[.val (.ref a1), .val (.ref a2), .val (.ref a2)] []) _
    refine st3 _ ?_
    show Sp p e below T3 (mkF m 22 #[.val (.ref a1), .val (.ref a2), .val (.ref a2)] [(.int cs_v)]) _
    refine XS.ifNo X3.here hx rfl (hb hby d12_22) rfl ((if0 _ _).trans (feq h_cs).1) ?_
    refine XS.aloadN X3.here hx rfl (hb hby d12_25) rfl rfl ?_
    show Sp p e below T3 (mkF m 26 #[.val (.ref a1), .val (.ref a2), .val (.ref a2)] [(.ref a1)]) _
    refine st4 _ ?_
    show Sp p e below T4 (mkF m 29 #[.val (.ref a1), .val (.ref a2), .val (.ref a2)] [(.int (0 : Int32))]) _
    refine XS.aloadN X4.here hx rfl (hb hby d12_29) rfl rfl ?_
    show Sp p e below T4 (mkF m 30 #[.val (.ref a1), .val (.ref a2), .val (.ref a2)] [(.ref a2), (.int (0 : Int32))]) _
    refine st5 _ ?_
    show Sp p e below T5 (mkF m 33 #[.val (.ref a1), .val (.ref a2), .val (.ref a2)] [(.int (0 : Int32)), (.int (0 : Int32))]) _
    refine XS.icmpNo X5.here hx rfl (hb hby d12_33) rfl (teq (by decide : (0 : Int32) = (0 : Int32))).2 ?_
    refine XS.aloadN X5.here hx rfl (hb hby d12_36) rfl rfl ?_
    show Sp p e below T5 (mkF m 37 #[.val (.ref a1), .val (.ref a2), .val (.ref a2)] [(.ref a1)]) _
    refine st6 _ ?_
    show Sp p e below T6 (mkF m 40 #[.val (.ref a1), .val (.ref a2), .val (.ref a2)] [(.ref a3)]) _
    refine XS.aloadN X6.here hx rfl (hb hby d12_40) rfl rfl ?_
    show Sp p e below T6 (mkF m 41 #[.val (.ref a1), .val (.ref a2), .val (.ref a2)] [(.ref a2), (.ref a3)]) _
    refine st7 _ ?_
    show Sp p e below T7 (mkF m 44 #[.val (.ref a1), .val (.ref a2), .val (.ref a2)] [(.ref a4), (.ref a3)]) _
    refine st8 _ ?_
    show Sp p e below T8 (mkF m 47 #[.val (.ref a1), .val (.ref a2), .val (.ref a2)] [(.int (sxE p6 p8))]) _
    refine XS.ifNo X8.here hx rfl (hb hby d12_47) rfl ((if0 _ _).trans (feq hc9).1) ?_
    refine XS.iconst X8.here hx rfl (hb hby d12_50) ?_
    refine XS.goto X8.here hx rfl (pc0 := 51) (pc' := 55) rfl (hb hby d12_51) (by decide) (by decide) ?_
    show Sp p e below T8 (mkF m 55 #[.val (.ref a1), .val (.ref a2), .val (.ref a2)] [(.int (1 : Int32))]) _
    exact retN X8 hx (t := .boolean) Bd.returns (by simp) (hb hby d12_55) hr
  · show Q67 Z v0 v1 v2 v3 v4 v5 v6 v7 v8 v9 cs_v a1 a2 a3 a4 k_a3 p6 k_a4 p8 h0 n0 _ T8.heap _
    rw [eq8]
    exact ⟨rfl, N8, rfl⟩
def Q68 (Z : State) (v0 : Addr) (v1 : Addr) (v2 : Addr) (v3 : Addr) (v4 : Addr) (v5 : Addr) (v6 : Addr) (v7 : Addr) (v8 : Addr) (v9 : Addr) (cs_v : Int32) (a1 : Addr) (a2 : Addr) (a3 : Addr) (a4 : Addr) (a5 : Addr) (a6 : Addr) (a7 : Addr) (a8 : Addr) (k_a7 : ClassId) (p10 : Int32) (k_a8 : ClassId) (p12 : Int32) (h0 : Heap) (n0 : Nat) (v : Option Value) (h : Heap) (L : List Loc) : Prop := v = some (.int (1 : Int32)) ∧ Fr n0 L ∧ h = h0
theorem rm68 (l : Launch) (Z : State) (a0 : Array Value) (hw : ∀ d ∈ tables_1, d.before a0 Z = true) (ws : List Jvm.Cond) (v0 v1 v2 v3 v4 v5 v6 v7 v8 v9 : Addr) (cs_v : Int32) (hp : Perm Z v0 v1 v2 v3 v4 v5 v6 v7 v8 v9 cs_v) (a1 : Addr) (a2 : Addr) (a3 : Addr) (a4 : Addr) (a5 : Addr) (a6 : Addr) (a7 : Addr) (a8 : Addr) (k_a7 : ClassId) (p10 : Int32) (k_a8 : ClassId) (p12 : Int32) (h0 : Heap) (n0 : Nat) (O0 : Old Z n0 h0) (E_a2 : Exa Z h0 a2 "com/example/ratebook/ratebook/model/PricedItem") (F_category_a1 : Fld Z h0 a1 "com/example/ratebook/ratebook/model/PricedItem" "category" "Lcom/example/ratebook/ratebook/model/Category;" (.ref a3)) (F_category_a2 : Fld Z h0 a2 "com/example/ratebook/ratebook/model/PricedItem" "category" "Lcom/example/ratebook/ratebook/model/Category;" (.ref a4)) (aeq_a3_a4 : a3 = a4) (F_resourceId_a1 : Fld Z h0 a1 "com/example/ratebook/ratebook/model/PricedItem" "resourceId" "Ljava/lang/String;" (.ref a5)) (F_resourceId_a2 : Fld Z h0 a2 "com/example/ratebook/ratebook/model/PricedItem" "resourceId" "Ljava/lang/String;" (.ref a6)) (E_a5 : Exa Z h0 a5 "java/lang/String") (E_a6 : Exa Z h0 a6 "java/lang/String") (F_coder_a5 : Fld Z h0 a5 "java/lang/String" "coder" "B" (.int (0 : Int32))) (F_coder_a6 : Fld Z h0 a6 "java/lang/String" "coder" "B" (.int (0 : Int32))) (F_value_a5 : Fld Z h0 a5 "java/lang/String" "value" "[B" (.ref a7)) (F_value_a6 : Fld Z h0 a6 "java/lang/String" "value" "[B" (.ref a8)) (V_a7 : Arv Z h0 a7 k_a7 .byte (sxN p10) (sxV p10) (.int (0 : Int32))) (V_a8 : Arv Z h0 a8 k_a8 .byte (sxN p12) (sxV p12) (.int (0 : Int32))) (hc15 : ¬ ((sxE p10 p12) = (0 : Int32))) (ne_a5_a6 : a5 ≠ a6) :
    MetFree l y11 (head1 (Jvm.Cond.code y11 prog_28_method_2_code 3 (some .boolean) :: ws) ({ frames := 2, cells := 0, slots := 0, locals := 28 } : Room)) (fun a U => a = #[(.ref a1), (.ref a2)] ∧ Z.Warmed39 U.vm ∧ U.heap = h0) (fun _ _ _ _ _ => True) (fun _ U o U' => ∃ v L, o = .returned v ∧ Q68 Z v0 v1 v2 v3 v4 v5 v6 v7 v8 v9 cs_v a1 a2 a3 a4 a5 a6 a7 a8 k_a7 p10 k_a8 p12 h0 n0 v U'.heap L ∧ FrameEnd U o U' L ({ frames := 2, cells := 0, slots := 0, locals := 28 } : Room).cells ({ frames := 2, cells := 0, slots := 0, locals := 28 } : Room).slots) := by
  refine MetFree.of_bodySF (plainFor_of_name pn_7) hisR ?_
  intro p e s m args below meth c s₁ Bd hml0 hP hK
  obtain ⟨rfl, hZ, hh⟩ := hP
  have hx := Bd.exec
  have hby := Bd.bytes
  have hml : c.maxLocals = 3 := hml0
  have hown : s.vm.findClass "com/example/ratebook/ratebook/model/PricedItem" = some m.cls := findClass_of_methodNamed Bd.named
  have hnm := (name_of_methodNamed Bd.named Bd.method).1
  have X0 : Stand p l e ({ frames := 2, cells := 0, slots := 0, locals := 28 } : Room) s m #[(.ref a1), (.ref a2)] below meth c s₁ [] 0 0 := Stand.of_body Bd
  have e0 : s₁.heap = h0 := by rw [← hh, Bd.state]; rfl
  have N0 := Fr.nil n0
  obtain ⟨T1, X1, e1, st1⟩ := instY X0 hx hZ hown (wq hw 65 rfl) e0 (Ins.self E_a2) (g := (mkF m 1 #[.val (.ref a1), .val (.ref a2), .unset] [(.ref a2)])) rfl rfl (hb hby d10_1)
  obtain ⟨T2, X2, e2, st2⟩ := castY X1 hx hZ hown (wq hw 65 rfl) e1 (Ins.self E_a2) (g := (mkF m 8 #[.val (.ref a1), .val (.ref a2), .unset] [(.ref a2)])) rfl rfl (hb hby d10_8)
  obtain ⟨T3, X3, e3, st3⟩ := getF X2 hx hZ hown (host := "") (Or.inl (wq hw 54 rfl)) Via.refl e2 F_category_a1 (g := (mkF m 13 #[.val (.ref a1), .val (.ref a2), .val (.ref a2)] [(.ref a1)])) rfl rfl (hb hby d10_13)
  obtain ⟨T4, X4, e4, st4⟩ := getF X3 hx hZ hown (host := "") (Or.inl (wq hw 54 rfl)) Via.refl e3 F_category_a2 (g := (mkF m 17 #[.val (.ref a1), .val (.ref a2), .val (.ref a2)] [(.ref a2), (.ref a3)])) rfl rfl (hb hby d10_17)
  obtain ⟨T5, X5, e5, st5⟩ := getF X4 hx hZ hown (host := "") (Or.inl (wq hw 56 rfl)) Via.refl e4 F_resourceId_a1 (g := (mkF m 24 #[.val (.ref a1), .val (.ref a2), .val (.ref a2)] [(.ref a1)])) rfl rfl (hb hby d10_24)
  obtain ⟨T6, X6, e6, st6⟩ := getF X5 hx hZ hown (host := "") (Or.inl (wq hw 56 rfl)) Via.refl e5 F_resourceId_a2 (g := (mkF m 28 #[.val (.ref a1), .val (.ref a2), .val (.ref a2)] [(.ref a2), (.ref a5)])) rfl rfl (hb hby d10_28)
  obtain ⟨cq7, kq7, q7a, q7b, q7c⟩ := isOf hZ e6 E_a5
  obtain ⟨_, _, ⟨T7, L7, k7, n7⟩, -, X7, ⟨Lc7, hQ7, l7, y7, z7⟩, st7⟩ := X6.virtualBack hx (y := y12) (z := y12) hown (mvT hZ (wq hw 70 rfl)) (mvT hZ (wq hw 71 rfl)) (notFace_of_selects (args := #[]) (mvT hZ (wq hw 73 rfl))) (mvT hZ (wq hw 73 rfl)) (mvT hZ (wq hw 72 rfl)) (by decide) (backOf (W := 0) (rm67 l Z a0 hw [] v0 v1 v2 v3 v4 v5 v6 v7 v8 v9 cs_v hp a5 a6 a7 a8 k_a7 p10 k_a8 p12 h0 n0 O0 ne_a5_a6 E_a6 F_coder_a5 F_coder_a6 F_value_a5 F_value_a6 V_a7 V_a8 hc15) hZ (wq hw 74 rfl) (wq hw 10 rfl) (by decide) (by decide)) q7a q7c (g := (mkF m 31 #[.val (.ref a1), .val (.ref a2), .val (.ref a2)] [(.ref a6), (.ref a5)])) rfl (by rw [hml]; rfl) (Steps.refl _) (argsL := [(.ref a6)]) (rest := []) (lenOf pd_11 rfl) rfl (by show 2 * 0 + _ ≤ _; exact Nat.le_of_eq rfl) (hb hby d10_31) (fun _ _ => ⟨rfl, e6, (by decide : 0 + 0 ≤ _), (by decide : 0 + 0 ≤ _)⟩)
  dsimp only [Pt.U, Pt.locs, Pt.cells, Pt.slots] at X7 l7 y7 z7 st7 hQ7
  subst l7 y7 z7
  obtain ⟨rfl, Nq7, eq7⟩ := hQ7
  have N7 := Fr.app N0 Nq7
  obtain ⟨fs, hr, hrun, hended, hW, hsame⟩ := X7.leave (v := some (.int (1 : Int32))) (fun h => by rw [Bd.returns] at h; cases h)
  refine ⟨_, _, castTop (ef_10_1 m a1 a2) ?_, hrun, hended, _, _, rfl, ?_, ⟨_, rfl⟩, hW, hsame.mono (by decide) (by decide)⟩
  · show Sp p e below s₁ (mkF m 0 #[.val (.ref a1), .val (.ref a2), .unset] []) _
    refine XS.aloadN X0.here hx rfl (hb hby d10_0) rfl rfl ?_
    show Sp p e below s₁ (mkF m 1 #[.val (.ref a1), .val (.ref a2), .unset] [(.ref a2)]) _
    refine st1 _ ?_
    show Sp p e below T1 (mkF m 4 #[.val (.ref a1), .val (.ref a2), .unset] [(.int (1 : Int32))]) _
    refine XS.ifNo X1.here hx rfl (hb hby d10_4) rfl ((if0 _ _).trans (feq (by decide : ¬ ((1 : Int32) = (0 : Int32)))).1) ?_
    refine XS.aloadN X1.here hx rfl (hb hby d10_7) rfl rfl ?_
    show Sp p e below T1 (mkF m 8 #[.val (.ref a1), .val (.ref a2), .unset] [(.ref a2)]) _
    refine st2 _ ?_
    show Sp p e below T2 (mkF m 11 #[.val (.ref a1), .val (.ref a2), .unset] [(.ref a2)]) _
    refine XS.astoreN X2.here hx rfl (hb hby d10_11) rfl rfl (l' := #[.val (.ref a1), .val (.ref a2), .val (.ref a2)]) rfl ?_
    refine XS.aloadN X2.here hx rfl (hb hby d10_12) rfl rfl ?_
    show Sp p e below T2 (mkF m 13 #[.val (.ref a1), .val (.ref a2), .val (.ref a2)] [(.ref a1)]) _
    refine st3 _ ?_
    show Sp p e below T3 (mkF m 16 #[.val (.ref a1), .val (.ref a2), .val (.ref a2)] [(.ref a3)]) _
    refine XS.aloadN X3.here hx rfl (hb hby d10_16) rfl rfl ?_
    show Sp p e below T3 (mkF m 17 #[.val (.ref a1), .val (.ref a2), .val (.ref a2)] [(.ref a2), (.ref a3)]) _
    refine st4 _ ?_
    show Sp p e below T4 (mkF m 20 #[.val (.ref a1), .val (.ref a2), .val (.ref a2)] [(.ref a4), (.ref a3)]) _
    refine Jvm.RoadKit.acmp (g := (mkF m 20 #[.val (.ref a1), .val (.ref a2), .val (.ref a2)] [(.ref a4), (.ref a3)])) X4 hx rfl rfl rfl (pc0 := 20) (pc' := 23) (same := true) rfl (hb hby d10_20) rfl (decide_eq_true (congrArg Value.ref aeq_a3_a4)) (by decide) (by decide) ?_
    show Sp p e below T4 (mkF m 23 #[.val (.ref a1), .val (.ref a2), .val (.ref a2)] []) _
    refine XS.aloadN X4.here hx rfl (hb hby d10_23) rfl rfl ?_
    show Sp p e below T4 (mkF m 24 #[.val (.ref a1), .val (.ref a2), .val (.ref a2)] [(.ref a1)]) _
    refine st5 _ ?_
    show Sp p e below T5 (mkF m 27 #[.val (.ref a1), .val (.ref a2), .val (.ref a2)] [(.ref a5)]) _
    refine XS.aloadN X5.here hx rfl (hb hby d10_27) rfl rfl ?_
    show Sp p e below T5 (mkF m 28 #[.val (.ref a1), .val (.ref a2), .val (.ref a2)] [(.ref a2), (.ref a5)]) _
    refine st6 _ ?_
    show Sp p e below T6 (mkF m 31 #[.val (.ref a1), .val (.ref a2), .val (.ref a2)] [(.ref a6), (.ref a5)]) _
    refine st7.trans ?_
    show Sp p e below T7 (mkF m 34 #[.val (.ref a1), .val (.ref a2), .val (.ref a2)] [(.int (1 : Int32))]) _
    refine XS.ifNo X7.here hx rfl (hb hby d10_34) rfl ((if0 _ _).trans (feq (by decide : ¬ ((1 : Int32) = (0 : Int32)))).1) ?_
    refine XS.iconst X7.here hx rfl (hb hby d10_37) ?_
    refine XS.goto X7.here hx rfl (pc0 := 38) (pc' := 42) rfl (hb hby d10_38) (by decide) (by decide) ?_
    show Sp p e below T7 (mkF m 42 #[.val (.ref a1), .val (.ref a2), .val (.ref a2)] [(.int (1 : Int32))]) _
    exact retN X7 hx (t := .boolean) Bd.returns (by simp) (hb hby d10_42) hr
  · show Q68 Z v0 v1 v2 v3 v4 v5 v6 v7 v8 v9 cs_v a1 a2 a3 a4 a5 a6 a7 a8 k_a7 p10 k_a8 p12 h0 n0 _ T7.heap _
    rw [eq7]
    exact ⟨rfl, N7, rfl⟩
theorem rm69 (l : Launch) (Z : State) (a0 : Array Value) (hw : ∀ d ∈ tables_1, d.before a0 Z = true) (ws : List Jvm.Cond) (v0 v1 v2 v3 v4 v5 v6 v7 v8 v9 : Addr) (cs_v : Int32) (hp : Perm Z v0 v1 v2 v3 v4 v5 v6 v7 v8 v9 cs_v) (p0 : Int32) (p1 : Int32) (p2 : Int32) (p3 : Int32) (p4 : Int32) (z6 : Int32) (z7 : Int32) (h0 : Heap) (n0 : Nat) (O0 : Old Z n0 h0) (hcut0 : Cut_0_0 p0 p1 p2 p3 p4 z6 z7) (hz0 : 0 ≤ z6.toInt ∧ z6.toInt < 10) (hc3 : ¬ ((((p4.toUInt32 >>> ((8 : Int32) &&& 31).toUInt32).toInt32) &&& (3 : Int32)) = (1 : Int32))) (hc4 : ¬ ((((p4.toUInt32 >>> ((8 : Int32) &&& 31).toUInt32).toInt32) &&& (3 : Int32)) = (2 : Int32))) (hc5 : ¬ ((((p4.toUInt32 >>> ((8 : Int32) &&& 31).toUInt32).toInt32) &&& (3 : Int32)) = (3 : Int32))) (hc6 : ((p0 &&& (2147483647 : Int32)) % (10 : Int32)) = z6) (hc7 : ¬ ((sxS p2 z7) = (0 : Int32))) :
    MetFree l x (head1 (Jvm.Cond.code x code maxLocals ret :: ws) room_1) (fun a U => a = #[(.int p0), (.int p1), (.int p2), (.int p3), (.int p4)] ∧ Z.Warmed39 U.vm ∧ U.heap = h0 ∧ CHv Z own_EL U.vm h0) (fun _ _ _ _ _ => True) (fun _ U o U' => ∃ v L, o = .returned v ∧ (v = some (.int (1 : Int32)) ∧ Fr n0 L) ∧ ReturnedEndW U o U' L 32 3200) := by
  refine MetFree.of_bodySF (plainFor_of_name pn_2) hisR ?_
  intro p e s m args below meth c s₁ Bd hml0 hP hK
  obtain ⟨rfl, hZo, hh, hCH⟩ := hP
  have hx := Bd.exec
  have hby := Bd.bytes
  have hml : c.maxLocals = 15 := hml0
  have hown : (s.setVm s.vm).vm.findClass "com/example/ratebook/ratebook/model/PricedItemEqualsPinLaw" = some m.cls := findClass_of_methodNamed Bd.named
  have hnm := (name_of_methodNamed Bd.named Bd.method).1
  have X0 : Stand p l e room_1 (s.setVm s.vm) m #[(.int p0), (.int p1), (.int p2), (.int p3), (.int p4)] below meth c s₁ [] 0 0 := Stand.of_body Bd
  have e0 : s₁.heap = h0 := by rw [← hh, Bd.state]; rfl
  have N0 := Fr.nil n0
  have hZ : Z.Warmed39 (s.setVm s.vm).vm := hZo
  have CH0 := CHr.refl hCH
  have hS0 : s.Since s.vm 0 := (State.WarmedH.refl s).since 0
  have hk0 : 0 ≤ h0.size := Nat.zero_le _
  have st1 := hcut0 X0 hx hZ hw hby hown
  obtain ⟨_, _, ⟨T2, L2, k2, n2⟩, -, XX2, Sq2, gq2, ⟨Lc2, hQ2, l2, y2, z2, C2⟩, st2⟩ := callSS X0 hx (y := y3) hown (mvT hZ (wq hw 1 rfl)) (mvT hZ (wq hw 2 rfl)) (mvT hZ (wq hw 3 rfl)) (mvT hZ (wq hw 4 rfl)) (by decide) (own_backC (SL := []) (W := 0) (rmS1 l Z a0 hw [] v0 v1 v2 v3 v4 v5 v6 v7 v8 v9 cs_v hp p2 h0 n0 O0) hZ (wq hw 4 rfl) (wq hw 3 rfl) (by decide) (by decide) (own_EW hw) CH0.1 all0) (g := (mkF m 76 #[.val (.int p0), .val (.int p1), .val (.int p2), .val (.int p3), .val (.int p4), .val (.int (fx1 p0)), .val (.int z6), .val (.int z7), .val (.int (fx3 p4)), .unset, .unset, .unset, .unset, .unset, .unset] [(.int p2)])) rfl (by rw [hml]; rfl) (argsL := [(.int p2)]) (rest := []) (lenOf pd_6 rfl) rfl (by show 2 * 0 + _ ≤ _; exact Nat.le_of_eq rfl) (hb hby at_76) (fun _ _ => ⟨rfl, e0, (by decide : 0 + 4 ≤ _), (by decide : 0 + 10 ≤ _)⟩)
  dsimp only [Pt.U, Pt.locs, Pt.cells, Pt.slots] at XX2 Sq2 gq2 l2 y2 z2 st2 hQ2 C2
  subst l2 y2 z2
  obtain ⟨X2, hS2, hZ2, hown2⟩ := rebS hS0 (by rw [e0]; exact hk0) XX2 Sq2 gq2 hZ hown
  obtain ⟨b2_0, y2_0, kc2_0, rfl, Nq2, Kq2, sq_b2_0, fq2_0, fq2_1, fq2_2, fq2_3⟩ := hQ2
  have N2 := Fr.app N0 Nq2
  have CH2 := CH0.trans C2
  have hk2 : T2.heap.size ≤ T2.heap.size := Nat.le_refl _
  have O2 := O0.keep Kq2 all0
  obtain ⟨_, _, ⟨T3, L3, k3, n3⟩, -, XX3, Sq3, gq3, ⟨Lc3, hQ3, l3, y3, z3, C3⟩, st3⟩ := callSS X2 hx (y := y3) hown2 (mvT hZ2 (wq hw 1 rfl)) (mvT hZ2 (wq hw 2 rfl)) (mvT hZ2 (wq hw 3 rfl)) (mvT hZ2 (wq hw 4 rfl)) (by decide) (own_backC (SL := []) (W := 0) (rmS1 l Z a0 hw [] v0 v1 v2 v3 v4 v5 v6 v7 v8 v9 cs_v hp z7 T2.heap n0 O2) hZ2 (wq hw 4 rfl) (wq hw 3 rfl) (by decide) (by decide) (own_EW hw) CH2.1 all0) (g := (mkF m 83 #[.val (.int p0), .val (.int p1), .val (.int p2), .val (.int p3), .val (.int p4), .val (.int (fx1 p0)), .val (.int z6), .val (.int z7), .val (.int (fx3 p4)), .val (.ref b2_0), .unset, .unset, .unset, .unset, .unset] [(.int z7)])) rfl (by rw [hml]; rfl) (argsL := [(.int z7)]) (rest := []) (lenOf pd_6 rfl) rfl (by show 2 * 0 + _ ≤ _; exact Nat.le_of_eq rfl) (hb hby at_83) (fun _ _ => ⟨rfl, rfl, (by decide : 4 + 4 ≤ _), (by decide : 10 + 10 ≤ _)⟩)
  dsimp only [Pt.U, Pt.locs, Pt.cells, Pt.slots] at XX3 Sq3 gq3 l3 y3 z3 st3 hQ3 C3
  subst l3 y3 z3
  obtain ⟨X3, hS3, hZ3, hown3⟩ := rebS hS2 hk2 XX3 Sq3 gq3 hZ2 hown2
  obtain ⟨b3_0, y3_0, kc3_0, rfl, Nq3, Kq3, sq_b3_0, fq3_0, fq3_1, fq3_2, fq3_3⟩ := hQ3
  have N3 := Fr.app N2 Nq3
  have CH3 := CH2.trans C3
  have hk3 : T3.heap.size ≤ T3.heap.size := Nat.le_refl _
  have O3 := O2.keep Kq3 all0
  obtain ⟨T4, h4, X4, e4, E4, A4, D4, -, st4⟩ := newO X3 hx hZ3 hown3 (wq hw 30 rfl) (wq hw 31 rfl) (wq hw 32 rfl) rfl (g := (mkF m 88 #[.val (.int p0), .val (.int p1), .val (.int p2), .val (.int p3), .val (.int p4), .val (.int (fx1 p0)), .val (.int z6), .val (.int z7), .val (.int (fx3 p4)), .val (.ref b2_0), .val (.ref b3_0), .unset, .unset, .unset, .unset] [])) rfl (hb hby at_88) (by decide) (by decide)
  obtain ⟨b4, g4⟩ : ∃ z, z = T3.heap.size := ⟨_, rfl⟩
  rw [← g4] at A4 D4 st4
  have g_b4 : n0 ≤ b4 := Nat.le_trans (own_sz O3) (Nat.le_of_eq g4.symm)
  have O4 := O3.ext E4
  have CH4 := CH3.trans (CHr.ext E4 CH3.1)
  have hk4 := Nat.le_trans hk3 E4.1
  have F_category_b4 : Fld Z h4 b4 "com/example/ratebook/ratebook/model/PricedItem" "category" "Lcom/example/ratebook/ratebook/model/Category;" .null := D4 (Or.inr (wq hw 55 rfl)) (ty := (.object "com/example/ratebook/ratebook/model/Category")) (by decide)
  have F_resourceId_b4 : Fld Z h4 b4 "com/example/ratebook/ratebook/model/PricedItem" "resourceId" "Ljava/lang/String;" .null := D4 (Or.inr (wq hw 57 rfl)) (ty := (.object "java/lang/String")) (by decide)
  obtain ⟨_, _, ⟨T5, L5, k5, n5⟩, -, X5, ⟨Lc5, hQ5, l5, y5, z5⟩, st5⟩ := Jvm.LawKit.callS X4 hx (y := y7) hown3 (mvT hZ3 (wq hw 33 rfl)) (mvT hZ3 (wq hw 34 rfl)) (mvT hZ3 (wq hw 3 rfl)) (mvT hZ3 (wq hw 35 rfl)) (by decide) (backOf (W := 2) (rmK6 l Z a0 hw [] v0 v1 v2 v3 v4 v5 v6 v7 v8 v9 cs_v hp ((p0 &&& (2147483647 : Int32)) % (10 : Int32)) h4 n0 O4) hZ3 (wq hw 35 rfl) (wq hw 3 rfl) (by decide) (by decide)) (g := (mkF m 94 #[.val (.int p0), .val (.int p1), .val (.int p2), .val (.int p3), .val (.int p4), .val (.int (fx1 p0)), .val (.int z6), .val (.int z7), .val (.int (fx3 p4)), .val (.ref b2_0), .val (.ref b3_0), .unset, .unset, .unset, .unset] [(.int (fx1 p0)), (.ref b4), (.ref b4)])) rfl (by rw [hml]; rfl) (argsL := [(.int (fx1 p0))]) (rest := [(.ref b4), (.ref b4)]) (lenOf pd_7 rfl) rfl (by show 2 * 0 + _ ≤ _; exact Nat.le_of_eq rfl) (hb hby at_94) (fun _ _ => ⟨rfl, e4, (by decide : 9 + 0 ≤ _), (by decide : 22 + 0 ≤ _)⟩)
  dsimp only [Pt.U, Pt.locs, Pt.cells, Pt.slots] at X5 l5 y5 z5 st5 hQ5
  subst l5 y5 z5
  obtain ⟨c5_0, rfl, Nq5, eq5, oq5_0, oq5_1⟩ := hQ5
  have N5 := Fr.app N3 Nq5
  obtain ⟨_, _, ⟨T6, L6, k6, n6⟩, -, XX6, Sq6, gq6, ⟨Lc6, hQ6, l6, y6, z6, C6⟩, st6⟩ := X5.specialBackS hx (y := y10) rfl hown3 (mvT hZ3 (wq hw 39 rfl)) (mvT hZ3 (wq hw 40 rfl)) (mvT hZ3 (wq hw 41 rfl)) (by decide) (own_backC (SL := []) (W := 1) (rm35 l Z a0 hw [] v0 v1 v2 v3 v4 v5 v6 v7 v8 v9 cs_v hp b4 c5_0 b2_0 h4 n0 O4 A4 F_category_b4 F_resourceId_b4 g_b4) hZ3 (wq hw 41 rfl) (wq hw 32 rfl) (by decide) (by decide) (own_EW hw) CH4.1 all0) (g := (mkF m 99 #[.val (.int p0), .val (.int p1), .val (.int p2), .val (.int p3), .val (.int p4), .val (.int (fx1 p0)), .val (.int z6), .val (.int z7), .val (.int (fx3 p4)), .val (.ref b2_0), .val (.ref b3_0), .unset, .unset, .unset, .unset] [(.ref b2_0), (.ref c5_0), (.ref b4), (.ref b4)])) rfl (by rw [hml]; rfl) (Steps.refl _) (a := b4) (argsL := [(.ref c5_0), (.ref b2_0)]) (rest := [(.ref b4)]) (lenOf pd_10 rfl) rfl (by show 2 * 0 + _ ≤ _; exact Nat.le_of_eq rfl) (hb hby at_99) (fun _ _ => ⟨rfl, eq5, (by decide : 9 + 4 ≤ _), (by decide : 22 + 80 ≤ _)⟩)
  dsimp only [Pt.U, Pt.locs, Pt.cells, Pt.slots] at XX6 Sq6 gq6 l6 y6 z6 st6 hQ6 C6
  subst l6 y6 z6
  obtain ⟨X6, hS6, hZ6, hown6⟩ := rebS hS3 (by rw [eq5]; exact hk4) XX6 Sq6 gq6 hZ3 hown3
  obtain ⟨rfl, Nq6, Kq6, fq6_0, fq6_1, fq6_2⟩ := hQ6
  have N6 := Fr.app N5 Nq6
  have CH6 := CH4.trans C6
  have hk6 : T6.heap.size ≤ T6.heap.size := Nat.le_refl _
  have O6 := O4.keep Kq6 (allS g_b4 all0)
  obtain ⟨T7, h7, X7, e7, E7, A7, D7, -, st7⟩ := newO X6 hx hZ6 hown6 (wq hw 30 rfl) (wq hw 31 rfl) (wq hw 32 rfl) rfl (g := (mkF m 104 #[.val (.int p0), .val (.int p1), .val (.int p2), .val (.int p3), .val (.int p4), .val (.int (fx1 p0)), .val (.int z6), .val (.int z7), .val (.int (fx3 p4)), .val (.ref b2_0), .val (.ref b3_0), .val (.ref b4), .unset, .unset, .unset] [])) rfl (hb hby at_104) (by decide) (by decide)
  obtain ⟨b7, g7⟩ : ∃ z, z = T6.heap.size := ⟨_, rfl⟩
  rw [← g7] at A7 D7 st7
  have g_b7 : n0 ≤ b7 := Nat.le_trans (own_sz O6) (Nat.le_of_eq g7.symm)
  have O7 := O6.ext E7
  have CH7 := CH6.trans (CHr.ext E7 CH6.1)
  have hk7 := Nat.le_trans hk6 E7.1
  have F_category_b7 : Fld Z h7 b7 "com/example/ratebook/ratebook/model/PricedItem" "category" "Lcom/example/ratebook/ratebook/model/Category;" .null := D7 (Or.inr (wq hw 55 rfl)) (ty := (.object "com/example/ratebook/ratebook/model/Category")) (by decide)
  have F_resourceId_b7 : Fld Z h7 b7 "com/example/ratebook/ratebook/model/PricedItem" "resourceId" "Ljava/lang/String;" .null := D7 (Or.inr (wq hw 57 rfl)) (ty := (.object "java/lang/String")) (by decide)
  obtain ⟨_, _, ⟨T8, L8, k8, n8⟩, -, X8, ⟨Lc8, hQ8, l8, y8, z8⟩, st8⟩ := Jvm.LawKit.callS X7 hx (y := y7) hown6 (mvT hZ6 (wq hw 33 rfl)) (mvT hZ6 (wq hw 34 rfl)) (mvT hZ6 (wq hw 3 rfl)) (mvT hZ6 (wq hw 35 rfl)) (by decide) (backOf (W := 2) (rmK6 l Z a0 hw [] v0 v1 v2 v3 v4 v5 v6 v7 v8 v9 cs_v hp z6 h7 n0 O7) hZ6 (wq hw 35 rfl) (wq hw 3 rfl) (by decide) (by decide)) (g := (mkF m 110 #[.val (.int p0), .val (.int p1), .val (.int p2), .val (.int p3), .val (.int p4), .val (.int (fx1 p0)), .val (.int z6), .val (.int z7), .val (.int (fx3 p4)), .val (.ref b2_0), .val (.ref b3_0), .val (.ref b4), .unset, .unset, .unset] [(.int z6), (.ref b7), (.ref b7)])) rfl (by rw [hml]; rfl) (argsL := [(.int z6)]) (rest := [(.ref b7), (.ref b7)]) (lenOf pd_7 rfl) rfl (by show 2 * 0 + _ ≤ _; exact Nat.le_of_eq rfl) (hb hby at_110) (fun _ _ => ⟨rfl, e7, (by decide : 14 + 0 ≤ _), (by decide : 104 + 0 ≤ _)⟩)
  dsimp only [Pt.U, Pt.locs, Pt.cells, Pt.slots] at X8 l8 y8 z8 st8 hQ8
  subst l8 y8 z8
  obtain ⟨c8_0, rfl, Nq8, eq8, oq8_0, oq8_1⟩ := hQ8
  have N8 := Fr.app N6 Nq8
  obtain ⟨_, _, ⟨T9, L9, k9, n9⟩, -, XX9, Sq9, gq9, ⟨Lc9, hQ9, l9, y9, z9, C9⟩, st9⟩ := X8.specialBackS hx (y := y10) rfl hown6 (mvT hZ6 (wq hw 39 rfl)) (mvT hZ6 (wq hw 40 rfl)) (mvT hZ6 (wq hw 41 rfl)) (by decide) (own_backC (SL := []) (W := 1) (rm35 l Z a0 hw [] v0 v1 v2 v3 v4 v5 v6 v7 v8 v9 cs_v hp b7 c8_0 b3_0 h7 n0 O7 A7 F_category_b7 F_resourceId_b7 g_b7) hZ6 (wq hw 41 rfl) (wq hw 32 rfl) (by decide) (by decide) (own_EW hw) CH7.1 all0) (g := (mkF m 115 #[.val (.int p0), .val (.int p1), .val (.int p2), .val (.int p3), .val (.int p4), .val (.int (fx1 p0)), .val (.int z6), .val (.int z7), .val (.int (fx3 p4)), .val (.ref b2_0), .val (.ref b3_0), .val (.ref b4), .unset, .unset, .unset] [(.ref b3_0), (.ref c8_0), (.ref b7), (.ref b7)])) rfl (by rw [hml]; rfl) (Steps.refl _) (a := b7) (argsL := [(.ref c8_0), (.ref b3_0)]) (rest := [(.ref b7)]) (lenOf pd_10 rfl) rfl (by show 2 * 0 + _ ≤ _; exact Nat.le_of_eq rfl) (hb hby at_115) (fun _ _ => ⟨rfl, eq8, (by decide : 14 + 4 ≤ _), (by decide : 104 + 80 ≤ _)⟩)
  dsimp only [Pt.U, Pt.locs, Pt.cells, Pt.slots] at XX9 Sq9 gq9 l9 y9 z9 st9 hQ9 C9
  subst l9 y9 z9
  obtain ⟨X9, hS9, hZ9, hown9⟩ := rebS hS6 (by rw [eq8]; exact hk7) XX9 Sq9 gq9 hZ6 hown6
  obtain ⟨rfl, Nq9, Kq9, fq9_0, fq9_1, fq9_2⟩ := hQ9
  have N9 := Fr.app N8 Nq9
  have CH9 := CH7.trans C9
  have hk9 : T9.heap.size ≤ T9.heap.size := Nat.le_refl _
  have O9 := O7.keep Kq9 (allS g_b7 all0)
  obtain ⟨_, _, ⟨T10, L10, k10, n10⟩, -, X10, ⟨Lc10, hQ10, l10, y10, z10⟩, st10⟩ := Jvm.LawKit.callS X9 hx (y := y13) hown9 (mvT hZ9 (wq hw 67 rfl)) (mvT hZ9 (wq hw 68 rfl)) (mvT hZ9 (wq hw 3 rfl)) (mvT hZ9 (wq hw 69 rfl)) (by decide) (backOf (W := 0) (rmT11 l Z a0 hw [] v0 v1 v2 v3 v4 v5 v6 v7 v8 v9 cs_v hp p2 z7 T9.heap n0 O9) hZ9 (wq hw 69 rfl) (wq hw 3 rfl) (by decide) (by decide)) (g := (mkF m 202 #[.val (.int p0), .val (.int p1), .val (.int p2), .val (.int p3), .val (.int p4), .val (.int (fx1 p0)), .val (.int z6), .val (.int z7), .val (.int (fx3 p4)), .val (.ref b2_0), .val (.ref b3_0), .val (.ref b4), .val (.ref b7), .val (.ref b7), .unset] [(.int z7), (.int p2)])) rfl (by rw [hml]; rfl) (argsL := [(.int p2), (.int z7)]) (rest := []) (lenOf pd_12 rfl) rfl (by show 2 * 0 + _ ≤ _; exact Nat.le_of_eq rfl) (hb hby at_202) (fun _ _ => ⟨rfl, rfl, (by decide : 18 + 0 ≤ _), (by decide : 184 + 0 ≤ _)⟩)
  dsimp only [Pt.U, Pt.locs, Pt.cells, Pt.slots] at X10 l10 y10 z10 st10 hQ10
  subst l10 y10 z10
  obtain ⟨rfl, Nq10, eq10⟩ := hQ10
  have N10 := Fr.app N9 Nq10
  have f_11 := ((fq6_1.ext E7).keep Kq9 (ninS (Nat.ne_of_lt (Nat.lt_of_lt_of_le (A4.keep Kq6).lt (Nat.le_of_eq g7.symm))) nin0))
  have f_12 := ((fq6_2.ext E7).keep Kq9 (ninS (Nat.ne_of_lt (Nat.lt_of_lt_of_le (A4.keep Kq6).lt (Nat.le_of_eq g7.symm))) nin0))
  have f_13 := (((((fq2_1.keep Kq3 nin0).ext E4).keep Kq6 (ninS (Nat.ne_of_lt (Nat.lt_of_lt_of_le (fq2_0.keep Kq3).lt (Nat.le_of_eq g4.symm))) nin0)).ext E7).keep Kq9 (ninS (Nat.ne_of_lt (Nat.lt_of_lt_of_le (((fq2_0.keep Kq3).ext E4).keep Kq6).lt (Nat.le_of_eq g7.symm))) nin0))
  have f_14 := ((((fq3_1.ext E4).keep Kq6 (ninS (Nat.ne_of_lt (Nat.lt_of_lt_of_le fq3_0.lt (Nat.le_of_eq g4.symm))) nin0)).ext E7).keep Kq9 (ninS (Nat.ne_of_lt (Nat.lt_of_lt_of_le ((fq3_0.ext E4).keep Kq6).lt (Nat.le_of_eq g7.symm))) nin0))
  have f_15 := (((((fq2_2.keep Kq3 nin0).ext E4).keep Kq6 (ninS (Nat.ne_of_lt (Nat.lt_of_lt_of_le (fq2_0.keep Kq3).lt (Nat.le_of_eq g4.symm))) nin0)).ext E7).keep Kq9 (ninS (Nat.ne_of_lt (Nat.lt_of_lt_of_le (((fq2_0.keep Kq3).ext E4).keep Kq6).lt (Nat.le_of_eq g7.symm))) nin0))
  have f_16 := ((((fq3_2.ext E4).keep Kq6 (ninS (Nat.ne_of_lt (Nat.lt_of_lt_of_le fq3_0.lt (Nat.le_of_eq g4.symm))) nin0)).ext E7).keep Kq9 (ninS (Nat.ne_of_lt (Nat.lt_of_lt_of_le ((fq3_0.ext E4).keep Kq6).lt (Nat.le_of_eq g7.symm))) nin0))
  have f_17 := (((((fq2_3.keep Kq3 nin0).ext E4).keep Kq6 (ninS (Nat.ne_of_lt (Nat.lt_of_lt_of_le (fq2_3.keep Kq3 nin0).lt (Nat.le_of_eq g4.symm))) nin0)).ext E7).keep Kq9 (ninS (Nat.ne_of_lt (Nat.lt_of_lt_of_le (((fq2_3.keep Kq3 nin0).ext E4).keep Kq6 (ninS (Nat.ne_of_lt (Nat.lt_of_lt_of_le (fq2_3.keep Kq3 nin0).lt (Nat.le_of_eq g4.symm))) nin0)).lt (Nat.le_of_eq g7.symm))) nin0))
  have f_18 := ((((fq3_3.ext E4).keep Kq6 (ninS (Nat.ne_of_lt (Nat.lt_of_lt_of_le fq3_3.lt (Nat.le_of_eq g4.symm))) nin0)).ext E7).keep Kq9 (ninS (Nat.ne_of_lt (Nat.lt_of_lt_of_le ((fq3_3.ext E4).keep Kq6 (ninS (Nat.ne_of_lt (Nat.lt_of_lt_of_le fq3_3.lt (Nat.le_of_eq g4.symm))) nin0)).lt (Nat.le_of_eq g7.symm))) nin0))
  obtain ⟨cq19, kq19, q19a, q19b, q19c⟩ := isOf hZ9 eq10 ((fq6_0.ext E7).keep Kq9)
  obtain ⟨_, _, ⟨T19, L19, k19, n19⟩, -, X19, ⟨Lc19, hQ19, l19, y19, z19⟩, st19⟩ := X10.virtualBack hx (y := y11) (z := y11) hown9 (mvT hZ9 (wq hw 60 rfl)) (mvT hZ9 (wq hw 61 rfl)) (notFace_of_selects (args := #[]) (mvT hZ9 (wq hw 63 rfl))) (mvT hZ9 (wq hw 63 rfl)) (mvT hZ9 (wq hw 62 rfl)) (by decide) (backOf (W := 0) (rm68 l Z a0 hw [] v0 v1 v2 v3 v4 v5 v6 v7 v8 v9 cs_v hp b4 b7 c5_0 c8_0 b2_0 b3_0 y2_0 y3_0 kc2_0 p2 kc3_0 z7 T9.heap n0 O9 fq9_0 f_11 fq9_1 (oq5_1.trans ((congrArg (catf v0 v9 v2 v1 v8 v3 v5 v4 v7 v6) hc6).trans oq8_1.symm)) f_12 fq9_2 (((((fq2_0.keep Kq3).ext E4).keep Kq6).ext E7).keep Kq9) ((((fq3_0.ext E4).keep Kq6).ext E7).keep Kq9) f_13 f_14 f_15 f_16 f_17 f_18 (by rw [own_sxES]; exact hc7 : ¬ ((sxE p2 z7) = (0 : Int32))) (Nat.ne_of_lt (Nat.lt_of_lt_of_le fq2_0.lt sq_b3_0))) hZ9 (wq hw 64 rfl) (wq hw 32 rfl) (by decide) (by decide)) q19a q19c (g := (mkF m 219 #[.val (.int p0), .val (.int p1), .val (.int p2), .val (.int p3), .val (.int p4), .val (.int (fx1 p0)), .val (.int z6), .val (.int z7), .val (.int (fx3 p4)), .val (.ref b2_0), .val (.ref b3_0), .val (.ref b4), .val (.ref b7), .val (.ref b7), .val (.int (1 : Int32))] [(.ref b7), (.ref b4)])) rfl (by rw [hml]; rfl) (Steps.refl _) (argsL := [(.ref b7)]) (rest := []) (lenOf pd_11 rfl) rfl (by show 2 * 0 + _ ≤ _; exact Nat.le_of_eq rfl) (hb hby at_219) (fun _ _ => ⟨rfl, eq10, (by decide : 18 + 0 ≤ _), (by decide : 184 + 0 ≤ _)⟩)
  dsimp only [Pt.U, Pt.locs, Pt.cells, Pt.slots] at X19 l19 y19 z19 st19 hQ19
  subst l19 y19 z19
  obtain ⟨rfl, Nq19, eq19⟩ := hQ19
  have N19 := Fr.app N10 Nq19
  obtain ⟨fs, hr, hrun, hended, hE⟩ := Stand.leaveW (s := s) X19 hS9 (by rw [eq19]; exact hk9) (v := some (.int (1 : Int32))) (fun h => by rw [Bd.returns] at h; cases h)
  refine ⟨_, _, castTop (ef_0_0 m p0 p1 p2 p3 p4) ?_, hrun, hended, _, _, rfl, ?_, hE.1, hE.2.1, hE.2.2.1, hE.2.2.2.mono (by decide) (by decide)⟩
  · show Sp p e below s₁ (mkF m 0 #[.val (.int p0), .val (.int p1), .val (.int p2), .val (.int p3), .val (.int p4), .unset, .unset, .unset, .unset, .unset, .unset, .unset, .unset, .unset, .unset] []) _
    refine st1 _ ?_
    show Sp p e below s₁ (mkF m 75 #[.val (.int p0), .val (.int p1), .val (.int p2), .val (.int p3), .val (.int p4), .val (.int (fx1 p0)), .val (.int z6), .val (.int z7), .val (.int (fx3 p4)), .unset, .unset, .unset, .unset, .unset, .unset] []) _
    refine XS.iloadN X0.here hx rfl (hb hby at_75) rfl ?_
    show Sp p e below s₁ (mkF m 76 #[.val (.int p0), .val (.int p1), .val (.int p2), .val (.int p3), .val (.int p4), .val (.int (fx1 p0)), .val (.int z6), .val (.int z7), .val (.int (fx3 p4)), .unset, .unset, .unset, .unset, .unset, .unset] [(.int p2)]) _
    refine st2.trans ?_
    show Sp p e below T2 (mkF m 79 #[.val (.int p0), .val (.int p1), .val (.int p2), .val (.int p3), .val (.int p4), .val (.int (fx1 p0)), .val (.int z6), .val (.int z7), .val (.int (fx3 p4)), .unset, .unset, .unset, .unset, .unset, .unset] [(.ref b2_0)]) _
    refine XS.astore X2.here hx rfl (hb hby at_79) rfl rfl (l' := #[.val (.int p0), .val (.int p1), .val (.int p2), .val (.int p3), .val (.int p4), .val (.int (fx1 p0)), .val (.int z6), .val (.int z7), .val (.int (fx3 p4)), .val (.ref b2_0), .unset, .unset, .unset, .unset, .unset]) rfl ?_
    refine XS.iload X2.here hx rfl (hb hby at_81) rfl ?_
    show Sp p e below T2 (mkF m 83 #[.val (.int p0), .val (.int p1), .val (.int p2), .val (.int p3), .val (.int p4), .val (.int (fx1 p0)), .val (.int z6), .val (.int z7), .val (.int (fx3 p4)), .val (.ref b2_0), .unset, .unset, .unset, .unset, .unset] [(.int z7)]) _
    refine st3.trans ?_
    show Sp p e below T3 (mkF m 86 #[.val (.int p0), .val (.int p1), .val (.int p2), .val (.int p3), .val (.int p4), .val (.int (fx1 p0)), .val (.int z6), .val (.int z7), .val (.int (fx3 p4)), .val (.ref b2_0), .unset, .unset, .unset, .unset, .unset] [(.ref b3_0)]) _
    refine XS.astore X3.here hx rfl (hb hby at_86) rfl rfl (l' := #[.val (.int p0), .val (.int p1), .val (.int p2), .val (.int p3), .val (.int p4), .val (.int (fx1 p0)), .val (.int z6), .val (.int z7), .val (.int (fx3 p4)), .val (.ref b2_0), .val (.ref b3_0), .unset, .unset, .unset, .unset]) rfl ?_
    show Sp p e below T3 (mkF m 88 #[.val (.int p0), .val (.int p1), .val (.int p2), .val (.int p3), .val (.int p4), .val (.int (fx1 p0)), .val (.int z6), .val (.int z7), .val (.int (fx3 p4)), .val (.ref b2_0), .val (.ref b3_0), .unset, .unset, .unset, .unset] []) _
    refine st4 _ ?_
    show Sp p e below T4 (mkF m 91 #[.val (.int p0), .val (.int p1), .val (.int p2), .val (.int p3), .val (.int p4), .val (.int (fx1 p0)), .val (.int z6), .val (.int z7), .val (.int (fx3 p4)), .val (.ref b2_0), .val (.ref b3_0), .unset, .unset, .unset, .unset] [(.ref b4)]) _
    refine XS.dup X4.here hx rfl (hb hby at_91) rfl rfl ?_
    refine XS.iload X4.here hx rfl (hb hby at_92) rfl ?_
    show Sp p e below T4 (mkF m 94 #[.val (.int p0), .val (.int p1), .val (.int p2), .val (.int p3), .val (.int p4), .val (.int (fx1 p0)), .val (.int z6), .val (.int z7), .val (.int (fx3 p4)), .val (.ref b2_0), .val (.ref b3_0), .unset, .unset, .unset, .unset] [(.int (fx1 p0)), (.ref b4), (.ref b4)]) _
    refine st5 _ ?_
    show Sp p e below T5 (mkF m 97 #[.val (.int p0), .val (.int p1), .val (.int p2), .val (.int p3), .val (.int p4), .val (.int (fx1 p0)), .val (.int z6), .val (.int z7), .val (.int (fx3 p4)), .val (.ref b2_0), .val (.ref b3_0), .unset, .unset, .unset, .unset] [(.ref c5_0), (.ref b4), (.ref b4)]) _
    refine XS.aload X5.here hx rfl (hb hby at_97) rfl rfl ?_
    show Sp p e below T5 (mkF m 99 #[.val (.int p0), .val (.int p1), .val (.int p2), .val (.int p3), .val (.int p4), .val (.int (fx1 p0)), .val (.int z6), .val (.int z7), .val (.int (fx3 p4)), .val (.ref b2_0), .val (.ref b3_0), .unset, .unset, .unset, .unset] [(.ref b2_0), (.ref c5_0), (.ref b4), (.ref b4)]) _
    refine st6.trans ?_
    show Sp p e below T6 (mkF m 102 #[.val (.int p0), .val (.int p1), .val (.int p2), .val (.int p3), .val (.int p4), .val (.int (fx1 p0)), .val (.int z6), .val (.int z7), .val (.int (fx3 p4)), .val (.ref b2_0), .val (.ref b3_0), .unset, .unset, .unset, .unset] [(.ref b4)]) _
    refine XS.astore X6.here hx rfl (hb hby at_102) rfl rfl (l' := #[.val (.int p0), .val (.int p1), .val (.int p2), .val (.int p3), .val (.int p4), .val (.int (fx1 p0)), .val (.int z6), .val (.int z7), .val (.int (fx3 p4)), .val (.ref b2_0), .val (.ref b3_0), .val (.ref b4), .unset, .unset, .unset]) rfl ?_
    show Sp p e below T6 (mkF m 104 #[.val (.int p0), .val (.int p1), .val (.int p2), .val (.int p3), .val (.int p4), .val (.int (fx1 p0)), .val (.int z6), .val (.int z7), .val (.int (fx3 p4)), .val (.ref b2_0), .val (.ref b3_0), .val (.ref b4), .unset, .unset, .unset] []) _
    refine st7 _ ?_
    show Sp p e below T7 (mkF m 107 #[.val (.int p0), .val (.int p1), .val (.int p2), .val (.int p3), .val (.int p4), .val (.int (fx1 p0)), .val (.int z6), .val (.int z7), .val (.int (fx3 p4)), .val (.ref b2_0), .val (.ref b3_0), .val (.ref b4), .unset, .unset, .unset] [(.ref b7)]) _
    refine XS.dup X7.here hx rfl (hb hby at_107) rfl rfl ?_
    refine XS.iload X7.here hx rfl (hb hby at_108) rfl ?_
    show Sp p e below T7 (mkF m 110 #[.val (.int p0), .val (.int p1), .val (.int p2), .val (.int p3), .val (.int p4), .val (.int (fx1 p0)), .val (.int z6), .val (.int z7), .val (.int (fx3 p4)), .val (.ref b2_0), .val (.ref b3_0), .val (.ref b4), .unset, .unset, .unset] [(.int z6), (.ref b7), (.ref b7)]) _
    refine st8 _ ?_
    show Sp p e below T8 (mkF m 113 #[.val (.int p0), .val (.int p1), .val (.int p2), .val (.int p3), .val (.int p4), .val (.int (fx1 p0)), .val (.int z6), .val (.int z7), .val (.int (fx3 p4)), .val (.ref b2_0), .val (.ref b3_0), .val (.ref b4), .unset, .unset, .unset] [(.ref c8_0), (.ref b7), (.ref b7)]) _
    refine XS.aload X8.here hx rfl (hb hby at_113) rfl rfl ?_
    show Sp p e below T8 (mkF m 115 #[.val (.int p0), .val (.int p1), .val (.int p2), .val (.int p3), .val (.int p4), .val (.int (fx1 p0)), .val (.int z6), .val (.int z7), .val (.int (fx3 p4)), .val (.ref b2_0), .val (.ref b3_0), .val (.ref b4), .unset, .unset, .unset] [(.ref b3_0), (.ref c8_0), (.ref b7), (.ref b7)]) _
    refine st9.trans ?_
    show Sp p e below T9 (mkF m 118 #[.val (.int p0), .val (.int p1), .val (.int p2), .val (.int p3), .val (.int p4), .val (.int (fx1 p0)), .val (.int z6), .val (.int z7), .val (.int (fx3 p4)), .val (.ref b2_0), .val (.ref b3_0), .val (.ref b4), .unset, .unset, .unset] [(.ref b7)]) _
    refine XS.astore X9.here hx rfl (hb hby at_118) rfl rfl (l' := #[.val (.int p0), .val (.int p1), .val (.int p2), .val (.int p3), .val (.int p4), .val (.int (fx1 p0)), .val (.int z6), .val (.int z7), .val (.int (fx3 p4)), .val (.ref b2_0), .val (.ref b3_0), .val (.ref b4), .val (.ref b7), .unset, .unset]) rfl ?_
    refine XS.iload X9.here hx rfl (hb hby at_120) rfl ?_
    refine XS.iconst X9.here hx rfl (hb hby at_122) ?_
    refine XS.icmpYes X9.here hx rfl (pc0 := 123) (pc' := 132) rfl (hb hby at_123) rfl (feq hc3).2 (by decide) (by decide) ?_
    refine XS.iload X9.here hx rfl (hb hby at_132) rfl ?_
    refine XS.iconst X9.here hx rfl (hb hby at_134) ?_
    refine XS.icmpYes X9.here hx rfl (pc0 := 135) (pc' := 145) rfl (hb hby at_135) rfl (feq hc4).2 (by decide) (by decide) ?_
    show Sp p e below T9 (mkF m 145 #[.val (.int p0), .val (.int p1), .val (.int p2), .val (.int p3), .val (.int p4), .val (.int (fx1 p0)), .val (.int z6), .val (.int z7), .val (.int (fx3 p4)), .val (.ref b2_0), .val (.ref b3_0), .val (.ref b4), .val (.ref b7), .unset, .unset] []) _
    refine XS.iload X9.here hx rfl (hb hby at_145) rfl ?_
    refine XS.iconst X9.here hx rfl (hb hby at_147) ?_
    refine XS.icmpYes X9.here hx rfl (pc0 := 148) (pc' := 158) rfl (hb hby at_148) rfl (feq hc5).2 (by decide) (by decide) ?_
    refine XS.aload X9.here hx rfl (hb hby at_158) rfl rfl ?_
    refine XS.astore X9.here hx rfl (hb hby at_160) rfl rfl (l' := #[.val (.int p0), .val (.int p1), .val (.int p2), .val (.int p3), .val (.int p4), .val (.int (fx1 p0)), .val (.int z6), .val (.int z7), .val (.int (fx3 p4)), .val (.ref b2_0), .val (.ref b3_0), .val (.ref b4), .val (.ref b7), .val (.ref b7), .unset]) rfl ?_
    refine XS.iload X9.here hx rfl (hb hby at_162) rfl ?_
    refine XS.iconst X9.here hx rfl (hb hby at_164) ?_
    show Sp p e below T9 (mkF m 165 #[.val (.int p0), .val (.int p1), .val (.int p2), .val (.int p3), .val (.int p4), .val (.int (fx1 p0)), .val (.int z6), .val (.int z7), .val (.int (fx3 p4)), .val (.ref b2_0), .val (.ref b3_0), .val (.ref b4), .val (.ref b7), .val (.ref b7), .unset] [(.int (1 : Int32)), (.int (fx3 p4))]) _
    refine XS.icmpNo X9.here hx rfl (hb hby at_165) rfl (feq hc3).1 ?_
    refine XS.iload X9.here hx rfl (hb hby at_168) rfl ?_
    refine XS.iconst X9.here hx rfl (hb hby at_170) ?_
    refine XS.icmpYes X9.here hx rfl (pc0 := 171) (pc' := 180) rfl (hb hby at_171) rfl (feq hc4).2 (by decide) (by decide) ?_
    refine XS.iload X9.here hx rfl (hb hby at_180) rfl ?_
    refine XS.iconst X9.here hx rfl (hb hby at_182) ?_
    refine XS.icmpYes X9.here hx rfl (pc0 := 183) (pc' := 192) rfl (hb hby at_183) rfl (feq hc5).2 (by decide) (by decide) ?_
    show Sp p e below T9 (mkF m 192 #[.val (.int p0), .val (.int p1), .val (.int p2), .val (.int p3), .val (.int p4), .val (.int (fx1 p0)), .val (.int z6), .val (.int z7), .val (.int (fx3 p4)), .val (.ref b2_0), .val (.ref b3_0), .val (.ref b4), .val (.ref b7), .val (.ref b7), .unset] []) _
    refine XS.iload X9.here hx rfl (hb hby at_192) rfl ?_
    refine XS.iload X9.here hx rfl (hb hby at_194) rfl ?_
    refine XS.icmpNo X9.here hx rfl (hb hby at_196) rfl (teq hc6).2 ?_
    refine XS.iloadN X9.here hx rfl (hb hby at_199) rfl ?_
    refine XS.iload X9.here hx rfl (hb hby at_200) rfl ?_
    show Sp p e below T9 (mkF m 202 #[.val (.int p0), .val (.int p1), .val (.int p2), .val (.int p3), .val (.int p4), .val (.int (fx1 p0)), .val (.int z6), .val (.int z7), .val (.int (fx3 p4)), .val (.ref b2_0), .val (.ref b3_0), .val (.ref b4), .val (.ref b7), .val (.ref b7), .unset] [(.int z7), (.int p2)]) _
    refine st10 _ ?_
    show Sp p e below T10 (mkF m 205 #[.val (.int p0), .val (.int p1), .val (.int p2), .val (.int p3), .val (.int p4), .val (.int (fx1 p0)), .val (.int z6), .val (.int z7), .val (.int (fx3 p4)), .val (.ref b2_0), .val (.ref b3_0), .val (.ref b4), .val (.ref b7), .val (.ref b7), .unset] [(.int (sxS p2 z7))]) _
    refine XS.ifNo X10.here hx rfl (hb hby at_205) rfl ((if0 _ _).trans (feq hc7).1) ?_
    refine XS.iconst X10.here hx rfl (hb hby at_208) ?_
    refine XS.goto X10.here hx rfl (pc0 := 209) (pc' := 213) rfl (hb hby at_209) (by decide) (by decide) ?_
    refine XS.istore X10.here hx rfl (hb hby at_213) rfl (l' := #[.val (.int p0), .val (.int p1), .val (.int p2), .val (.int p3), .val (.int p4), .val (.int (fx1 p0)), .val (.int z6), .val (.int z7), .val (.int (fx3 p4)), .val (.ref b2_0), .val (.ref b3_0), .val (.ref b4), .val (.ref b7), .val (.ref b7), .val (.int (1 : Int32))]) rfl ?_
    refine XS.aload X10.here hx rfl (hb hby at_215) rfl rfl ?_
    refine XS.aload X10.here hx rfl (hb hby at_217) rfl rfl ?_
    show Sp p e below T10 (mkF m 219 #[.val (.int p0), .val (.int p1), .val (.int p2), .val (.int p3), .val (.int p4), .val (.int (fx1 p0)), .val (.int z6), .val (.int z7), .val (.int (fx3 p4)), .val (.ref b2_0), .val (.ref b3_0), .val (.ref b4), .val (.ref b7), .val (.ref b7), .val (.int (1 : Int32))] [(.ref b7), (.ref b4)]) _
    refine st19.trans ?_
    show Sp p e below T19 (mkF m 222 #[.val (.int p0), .val (.int p1), .val (.int p2), .val (.int p3), .val (.int p4), .val (.int (fx1 p0)), .val (.int z6), .val (.int z7), .val (.int (fx3 p4)), .val (.ref b2_0), .val (.ref b3_0), .val (.ref b4), .val (.ref b7), .val (.ref b7), .val (.int (1 : Int32))] [(.int (1 : Int32))]) _
    refine XS.iload X19.here hx rfl (hb hby at_222) rfl ?_
    refine XS.icmpNo X19.here hx rfl (hb hby at_224) rfl (teq (by decide : (1 : Int32) = (1 : Int32))).2 ?_
    refine XS.iconst X19.here hx rfl (hb hby at_227) ?_
    refine XS.goto X19.here hx rfl (pc0 := 228) (pc' := 232) rfl (hb hby at_228) (by decide) (by decide) ?_
    show Sp p e below T19 (mkF m 232 #[.val (.int p0), .val (.int p1), .val (.int p2), .val (.int p3), .val (.int p4), .val (.int (fx1 p0)), .val (.int z6), .val (.int z7), .val (.int (fx3 p4)), .val (.ref b2_0), .val (.ref b3_0), .val (.ref b4), .val (.ref b7), .val (.ref b7), .val (.int (1 : Int32))] [(.int (1 : Int32))]) _
    exact retN X19 hx (t := .boolean) Bd.returns (by simp) (hb hby at_232) hr
  · skip
    exact ⟨rfl, N19⟩
set_option maxRecDepth 65536 in
set_option maxHeartbeats 4000000 in
theorem rm_law (l : Launch) (Z : State) (a0 : Array Value) (hw : ∀ d ∈ tables_1, d.before a0 Z = true) (ws : List Jvm.Cond) (v0 v1 v2 v3 v4 v5 v6 v7 v8 v9 : Addr) (cs_v : Int32) (hp : Perm Z v0 v1 v2 v3 v4 v5 v6 v7 v8 v9 cs_v) (p0 : Int32) (p1 : Int32) (p2 : Int32) (p3 : Int32) (p4 : Int32) (h0 : Heap) (n0 : Nat) (O0 : Old Z n0 h0) :
    MetFree l x (head1 (Jvm.Cond.code x code maxLocals ret :: ws) room_1) (fun a U => a = #[(.int p0), (.int p1), (.int p2), (.int p3), (.int p4)] ∧ Z.Warmed39 U.vm ∧ U.heap = h0 ∧ CHv Z own_EL U.vm h0) (fun _ _ _ _ _ => True) (fun _ U o U' => ∃ v L, o = .returned v ∧ (v = some (.int (1 : Int32)) ∧ Fr n0 L) ∧ ReturnedEndW U o U' L 32 3200) := by
  obtain ⟨z6, z7, hz0, hcut0⟩ := cut_0_0 p0 p1 p2 p3 p4
  by_cases d0 : (((p4.toUInt32 >>> ((8 : Int32) &&& 31).toUInt32).toInt32) &&& (3 : Int32)) = (1 : Int32)
  · skip
    exact rm37 l Z a0 hw ws v0 v1 v2 v3 v4 v5 v6 v7 v8 v9 cs_v hp p0 p1 p2 p3 p4 z6 z7 h0 n0 O0 hcut0 hz0 d0
  · skip
    by_cases d1 : (((p4.toUInt32 >>> ((8 : Int32) &&& 31).toUInt32).toInt32) &&& (3 : Int32)) = (2 : Int32)
    · skip
      exact rm39 l Z a0 hw ws v0 v1 v2 v3 v4 v5 v6 v7 v8 v9 cs_v hp p0 p1 p2 p3 p4 z6 z7 h0 n0 O0 hcut0 hz0 d0 d1
    · skip
      by_cases d2 : (((p4.toUInt32 >>> ((8 : Int32) &&& 31).toUInt32).toInt32) &&& (3 : Int32)) = (3 : Int32)
      · skip
        exact rm42 l Z a0 hw ws v0 v1 v2 v3 v4 v5 v6 v7 v8 v9 cs_v hp p0 p1 p2 p3 p4 z6 z7 h0 n0 O0 hcut0 hz0 d0 d1 d2
      · skip
        by_cases d3 : ((p0 &&& (2147483647 : Int32)) % (10 : Int32)) = z6
        · skip
          by_cases d4 : (sxS p2 z7) = (0 : Int32)
          · skip
            exact rm64 l Z a0 hw ws v0 v1 v2 v3 v4 v5 v6 v7 v8 v9 cs_v hp p0 p1 p2 p3 p4 z6 z7 h0 n0 O0 hcut0 hz0 d0 d1 d2 d3 d4
          · skip
            exact rm69 l Z a0 hw ws v0 v1 v2 v3 v4 v5 v6 v7 v8 v9 cs_v hp p0 p1 p2 p3 p4 z6 z7 h0 n0 O0 hcut0 hz0 d0 d1 d2 d3 d4
        · skip
          exact rm66 l Z a0 hw ws v0 v1 v2 v3 v4 v5 v6 v7 v8 v9 cs_v hp p0 p1 p2 p3 p4 z6 z7 h0 n0 O0 hcut0 hz0 d0 d1 d2 d3
set_option maxRecDepth 65536 in
set_option maxHeartbeats 40000000 in
theorem comes_1 {Post : Tables → Env → Array Value → State → Outcome → State → Prop} (hpost : ∀ tb e args s v u, (limb_1_1.after args s (.returned v) u = true ∧ limb_1_2.after args s (.returned v) u = true ∧ True) → ReturnedEndW s (.returned v) u (Jvm.fieldLocs frame_1_writes args s ++ Jvm.arrayLocs frame_1_arrays args s ++ Jvm.staticLocs frame_1_statics s) 32 3200 → Post tb e args s (.returned v) u) :
    ArmFor flags0 classFile x code maxLocals ret World_1 tables_1 room_1 Calls_1 rest_1 Pre_1 Post := by
  intro l hfl _ _ p e ha hc hk s m args below hf hA hF happ hP
  obtain ⟨hcalls, hrest, hpre⟩ := hP
  obtain ⟨-, -, -, hnamed, -, -, -, hat⟩ := (Spec.applies_iff hf).mp happ
  obtain ⟨hg, hn⟩ := and_e (Cond.before_iff.mp (show (Jvm.Cond.and given_1 narrow_1).before args s = true from hpre))
  obtain ⟨h1, hg⟩ := and_e hg
  obtain ⟨ga0, hg⟩ := and_e hg
  obtain ⟨ga1, hg⟩ := and_e hg
  obtain ⟨ga2, hg⟩ := and_e hg
  obtain ⟨ga3, hg⟩ := and_e hg
  have ga4 := hg
  obtain ⟨w0, w1, w2, w3, w4, rfl⟩ : ∃ w0 w1 w2 w3 w4 : Value, args = #[w0, w1, w2, w3, w4] := by
    have hs : args.size = 5 := by simpa [Cond.value, given_1] using h1
    obtain ⟨L⟩ := args
    match L, hs with
    | [w0, w1, w2, w3, w4], _ => exact ⟨w0, w1, w2, w3, w4, rfl⟩
  have hw := fun d (hd : d ∈ tables_1) => atoms_spec (ws := Jvm.Cond.code x code maxLocals ret :: tables_1) hat d (List.mem_cons_of_mem _ hd)
  have hfit : Fit s := fun {y c} hc i hi => by
    obtain ⟨ha, rfl⟩ := Array.getElem?_eq_some_iff.mp hc
    have q := List.all_eq_true.mp ((Array.all_eq_true_iff_forall_mem.mp hF) _ (Array.getElem_mem ha)) i (List.mem_range.mpr hi)
    simpa [Array.getElem?_eq_getElem hi] using q
  obtain ⟨hsets, hown0⟩ := atoms_of _ (rest_1_c_eq ▸ (show rest_1_c.before _ s = true from hrest))
  have hr0 := Cond.before_iff.mp hown0
  obtain ⟨i0, ei0⟩ := is_v ga0
  obtain rfl : w0 = (.int i0) := Option.some.inj ei0
  obtain ⟨i1, ei1⟩ := is_v ga1
  obtain rfl : w1 = (.int i1) := Option.some.inj ei1
  obtain ⟨i2, ei2⟩ := is_v ga2
  obtain rfl : w2 = (.int i2) := Option.some.inj ei2
  obtain ⟨i3, ei3⟩ := is_v ga3
  obtain rfl : w3 = (.int i3) := Option.some.inj ei3
  obtain ⟨i4, ei4⟩ := is_v ga4
  obtain rfl : w4 = (.int i4) := Option.some.inj ei4
  obtain ⟨nn0, hn⟩ := and_e hn
  obtain ⟨nn1, hn⟩ := and_e hn
  obtain ⟨nn2, hn⟩ := and_e hn
  obtain ⟨nn3, hn⟩ := and_e hn
  obtain ⟨nn4, hn⟩ := and_e hn
  obtain ⟨nn5, hn⟩ := and_e hn
  obtain ⟨nn6, hn⟩ := and_e hn
  obtain ⟨nn7, hn⟩ := and_e hn
  obtain ⟨nn8, hn⟩ := and_e hn
  obtain ⟨nn9, hn⟩ := and_e hn
  obtain ⟨nn10, hn⟩ := and_e hn
  obtain ⟨nn11, hn⟩ := and_e hn
  obtain ⟨nn12, hn⟩ := and_e hn
  obtain ⟨nn13, hn⟩ := and_e hn
  obtain ⟨nn14, hn⟩ := and_e hn
  obtain ⟨nn15, hn⟩ := and_e hn
  obtain ⟨nn16, hn⟩ := and_e hn
  obtain ⟨nn17, hn⟩ := and_e hn
  obtain ⟨nn18, hn⟩ := and_e hn
  have nn19 := hn
  obtain ⟨v0, ev_v0⟩ := exa_v nn0
  have E_v0 := Exa.start ev_v0 nn0
  have S_v0 := Sta.start ev_v0 (Or.inr ⟨(wq hw 37 rfl), (wq hw 38 rfl)⟩)
  obtain ⟨v1, ev_v1⟩ := exa_v nn1
  have E_v1 := Exa.start ev_v1 nn1
  have S_v1 := Sta.start ev_v1 (Or.inr ⟨(wq hw 37 rfl), (wq hw 59 rfl)⟩)
  obtain ⟨v2, ev_v2⟩ := exa_v nn4
  have E_v2 := Exa.start ev_v2 nn4
  have S_v2 := Sta.start ev_v2 (Or.inr ⟨(wq hw 37 rfl), (wq hw 82 rfl)⟩)
  obtain ⟨v3, ev_v3⟩ := exa_v nn5
  have E_v3 := Exa.start ev_v3 nn5
  have S_v3 := Sta.start ev_v3 (Or.inr ⟨(wq hw 37 rfl), (wq hw 94 rfl)⟩)
  obtain ⟨v4, ev_v4⟩ := exa_v nn6
  have E_v4 := Exa.start ev_v4 nn6
  have S_v4 := Sta.start ev_v4 (Or.inr ⟨(wq hw 37 rfl), (wq hw 96 rfl)⟩)
  obtain ⟨v5, ev_v5⟩ := exa_v nn7
  have E_v5 := Exa.start ev_v5 nn7
  have S_v5 := Sta.start ev_v5 (Or.inr ⟨(wq hw 37 rfl), (wq hw 98 rfl)⟩)
  obtain ⟨v6, ev_v6⟩ := exa_v nn8
  have E_v6 := Exa.start ev_v6 nn8
  have S_v6 := Sta.start ev_v6 (Or.inr ⟨(wq hw 37 rfl), (wq hw 100 rfl)⟩)
  obtain ⟨v7, ev_v7⟩ := exa_v nn12
  have E_v7 := Exa.start ev_v7 nn12
  have S_v7 := Sta.start ev_v7 (Or.inr ⟨(wq hw 37 rfl), (wq hw 102 rfl)⟩)
  obtain ⟨v8, ev_v8⟩ := exa_v nn13
  have E_v8 := Exa.start ev_v8 nn13
  have S_v8 := Sta.start ev_v8 (Or.inr ⟨(wq hw 37 rfl), (wq hw 106 rfl)⟩)
  obtain ⟨v9, ev_v9⟩ := exa_v nn16
  have E_v9 := Exa.start ev_v9 nn16
  have S_v9 := Sta.start ev_v9 (Or.inr ⟨(wq hw 37 rfl), (wq hw 108 rfl)⟩)
  have F_ordinal_v0 := own_fldi ev_v0 nn2
  have F_ordinal_v1 := own_fldi ev_v1 nn3
  have F_ordinal_v5 := own_fldi ev_v5 nn9
  have F_ordinal_v6 := own_fldi ev_v6 nn10
  have F_ordinal_v2 := own_fldi ev_v2 nn11
  have F_ordinal_v8 := own_fldi ev_v8 nn14
  have F_ordinal_v4 := own_fldi ev_v4 nn15
  have F_ordinal_v9 := own_fldi ev_v9 nn17
  have F_ordinal_v7 := own_fldi ev_v7 nn18
  have F_ordinal_v3 := own_fldi ev_v3 nn19
  obtain ⟨cs_v, ev_cs⟩ := is_v (Cond.before_iff.mp (hsets _ (List.mem_of_getElem? (i := 1) rfl)))
  have S_COMPACT_STRINGS := Sta.start ev_cs (Or.inl (hsets _ (List.mem_of_getElem? (i := 0) rfl)))
  have h_cs : ¬ (cs_v = (0 : Int32)) := gotF (Cond.eq_ints ev_cs (Term.int_eval (0 : Int32))) (not_v (r := true) (Cond.before_iff.mp (hsets _ (List.mem_of_getElem? (i := 2) rfl))))
  have hCHs : CHv s own_EL s.vm s.heap := CHv.start (own_EW hw) (fun p hp => hcalls.1 p (own_sub p hp)) (hsets _ (List.mem_of_getElem? (i := 2) rfl)) (wq hw 23 rfl) (wq hw 9 rfl)
  obtain ⟨n, o, h1, h2, h3, _, L, rfl, ⟨rfl, N⟩, hq⟩ := rm_law l s _ hw tables_1 v0 v1 v2 v3 v4 v5 v6 v7 v8 v9 cs_v ⟨S_v0, E_v0, S_v1, E_v1, S_v2, E_v2, S_v3, E_v3, S_v4, E_v4, S_v5, E_v5, S_v6, E_v6, S_v7, E_v7, S_v8, E_v8, S_v9, E_v9, F_ordinal_v0, F_ordinal_v1, F_ordinal_v5, F_ordinal_v6, F_ordinal_v2, F_ordinal_v8, F_ordinal_v4, F_ordinal_v9, F_ordinal_v7, F_ordinal_v3, S_COMPACT_STRINGS, h_cs⟩ i0 i1 i2 i3 i4 s.heap s.heap.size (Old.start s) p e ha hc hk s m _ below hf ((Spec.applies_iff_loose hf).mp happ).1 ⟨rfl, State.Warmed39.refl s, rfl, hCHs⟩ trivial
  refine ⟨n, _, h1, h2, h3, hpost _ _ _ _ _ _ ⟨Cond.after_iff.mpr rfl, Cond.after_iff.mpr (eq_i res_at (Term.int_eval (1)) rfl), trivial⟩ ⟨hq.1, hq.2.1, hq.2.2.1, (hq.2.2.2.sift fun y hy => Or.inr (N y hy)).mono (by decide) (by decide)⟩⟩
theorem main_1_1 : Claimed_1_1 := comes_1 fun _ _ _ _ _ _ h hF => ⟨h.1, hF⟩
theorem main_1_2 : Claimed_1_2 := comes_1 fun _ _ _ _ _ _ h hF => ⟨h.2.1, hF⟩
end Jvm.Pilot.@@N@@
namespace Jvm.Pilot.@@N@@
open Jvm Jvm.ClassFile Sem Op Lib Jvm.Free Jvm.Stand Jvm.Pilot.@@N@@.Jvm.D
/-! MADE BY PROGRAM (witnessworld.py) out of the Statement's table words and the real class files: 24 classes; the members and pool entries that the words name. The judged class is class 1, her method 1. -/
namespace start1
open Jvm.ClassFile
def u (s : String) : CpInfo := .utf8 (stringToUtf16 s)
/-- a pool by its gaps: so many unusable entries, then the entry; so many at the end -/
def gap : Nat → List CpInfo → List CpInfo
  | 0, r => r
  | n + 1, r => .unusable :: gap n r
def poolList (es : List (Nat × CpInfo)) (last : Nat) : List CpInfo := es.foldr (fun e r => gap e.1 (e.2 :: r)) (gap last [])
def pool (es : List (Nat × CpInfo)) (last : Nat) : Array CpInfo := ⟨poolList es last⟩
def fileOf (pool : Array CpInfo) (this : Nat) (attrs : Array Attribute := #[]) (ms : Array MethodInfo := #[]) (fl : Nat := 33) (sup : Nat := 0) (ifs : Array Nat := #[]) (fds : Array FieldInfo := #[]) : ClassFile where
  minorVersion := 0
  majorVersion := 65
  constantPool := pool
  accessFlags := fl
  thisClass := this
  superClass := sup
  interfaces := ifs
  fields := fds
  methods := ms
  attributes := attrs
def plain (name : String) (sup : Option ClassId) : Class where
  name := name
  kind := .ordinary
  loader := none
  accessFlags := 33
  super := sup
  interfaces := #[]
  cf := none
  fields := #[]
  methods := #[]
  instanceTypes := #[]
  staticTypes := #[]
  resolved := #[]
  callSites := []
  init := .initialized
  statics := none
  mirror := none

def pool0 : Array CpInfo := pool [(5, u "<init>"), (0, u "()V"), (1, .class_ 10), (1, u "java/lang/Object")] 113

def k0c0 : Code := { maxStack := 0, maxLocals := 1, code := object_method_1_code, exceptionTable := #[], attributes := #[] }
def k0m0 : Method := { name := "<init>", desc := "()V", sig := { parameters := [], returnType := none }, accessFlags := 1, code := some k0c0 }
/-- java/lang/Object -/
def k0 : Class := { plain "java/lang/Object" none with
  accessFlags := 33
  interfaces := #[]
  cf := some (fileOf pool0 8 #[] #[{ accessFlags := 1, nameIndex := 5, descriptorIndex := 6, attributes := #[] }] 33 0 #[] #[])
  fields := #[]
  methods := #[k0m0]
  instanceTypes := #[]
  staticTypes := #[]
  resolved := Array.replicate 124 none
  statics := none }

def pool1 : Array CpInfo := pool [(2, .class_ 4), (1, u "java/lang/Object"), (0, u "<init>"), (0, u "()V"), (0, .integer 2147483647), (0, .methodref 9 10), (0, .class_ 11), (0, .nameAndType 12 13), (0, u "com/example/ratebook/ratebook/model/PricedItemEqualsPinLaw"), (0, u "str"), (0, u "(I)Ljava/lang/String;"), (0, .class_ 15), (0, u "com/example/ratebook/ratebook/model/PricedItem"), (0, .methodref 9 17), (0, .nameAndType 18 19), (0, u "cat"), (0, u "(I)Lcom/example/ratebook/ratebook/model/Category;"), (0, .methodref 14 21), (0, .nameAndType 5 22), (0, u "(Lcom/example/ratebook/ratebook/model/Category;Ljava/lang/String;)V"), (0, .methodref 9 24), (0, .nameAndType 25 26), (0, u "sameText"), (0, u "(II)Z"), (0, .methodref 14 28), (0, .nameAndType 29 30), (0, u "equals"), (0, u "(Ljava/lang/Object;)Z"), (0, .methodref 9 32), (0, .nameAndType 33 34), (0, u "len"), (0, u "(I)I"), (0, .class_ 36), (0, u "java/lang/String"), (0, .methodref 35 38), (0, .nameAndType 5 39), (0, u "([C)V"), (0, .fieldref 41 42), (0, .class_ 43), (0, .nameAndType 44 45), (0, u "com/example/ratebook/ratebook/model/Category"), (0, u "TEMPLATE"), (0, u "Lcom/example/ratebook/ratebook/model/Category;"), (0, .fieldref 41 47), (0, .nameAndType 48 45), (0, u "VM"), (0, .fieldref 41 50), (0, .nameAndType 51 45), (0, u "PM"), (0, .fieldref 41 53), (0, .nameAndType 54 45), (0, u "CPU"), (0, .fieldref 41 56), (0, .nameAndType 57 45), (0, u "CPU_CLOCK"), (0, .fieldref 41 59), (0, .nameAndType 60 45), (0, u "MEMORY"), (0, .fieldref 41 62), (0, .nameAndType 63 45), (0, u "SYS_DISK"), (0, .fieldref 41 65), (0, .nameAndType 66 45), (0, u "DISK"), (0, .fieldref 41 68), (0, .nameAndType 69 45), (0, u "SNAPSHOT"), (0, .fieldref 41 71), (0, .nameAndType 72 45), (0, u "NIC"), (2, u "law"), (0, u "(IIIII)Z")] 3

def k1m0 : Method := { name := "<init>", desc := "()V", sig := { parameters := [], returnType := none }, accessFlags := 1, code := none }
def k1c1 : Code := { maxStack := 4, maxLocals := 15, code := code, exceptionTable := #[], attributes := #[] }
def k1m1 : Method := { name := "law", desc := "(IIIII)Z", sig := { parameters := [.int, .int, .int, .int, .int], returnType := some .boolean }, accessFlags := 9, code := some k1c1 }
def k1c2 : Code := { maxStack := 2, maxLocals := 1, code := method_3_code, exceptionTable := #[], attributes := #[] }
def k1m2 : Method := { name := "len", desc := "(I)I", sig := { parameters := [.int], returnType := some .int }, accessFlags := 10, code := some k1c2 }
def k1c3 : Code := { maxStack := 6, maxLocals := 5, code := method_4_code, exceptionTable := #[], attributes := #[] }
def k1m3 : Method := { name := "str", desc := "(I)Ljava/lang/String;", sig := { parameters := [.int], returnType := some (.object "java/lang/String") }, accessFlags := 10, code := some k1c3 }
def k1c4 : Code := { maxStack := 3, maxLocals := 3, code := method_5_code, exceptionTable := #[], attributes := #[] }
def k1m4 : Method := { name := "sameText", desc := "(II)Z", sig := { parameters := [.int, .int], returnType := some .boolean }, accessFlags := 10, code := some k1c4 }
def k1c5 : Code := { maxStack := 2, maxLocals := 1, code := method_6_code, exceptionTable := #[], attributes := #[] }
def k1m5 : Method := { name := "cat", desc := "(I)Lcom/example/ratebook/ratebook/model/Category;", sig := { parameters := [.int], returnType := some (.object "com/example/ratebook/ratebook/model/Category") }, accessFlags := 10, code := some k1c5 }
/-- com/example/ratebook/ratebook/model/PricedItemEqualsPinLaw -/
def k1 : Class := { plain "com/example/ratebook/ratebook/model/PricedItemEqualsPinLaw" (some 0) with
  accessFlags := 49
  interfaces := #[]
  cf := some (fileOf pool1 9 #[] #[{ accessFlags := 1, nameIndex := 5, descriptorIndex := 6, attributes := #[] }, { accessFlags := 9, nameIndex := 75, descriptorIndex := 76, attributes := #[] }, { accessFlags := 10, nameIndex := 33, descriptorIndex := 34, attributes := #[] }, { accessFlags := 10, nameIndex := 12, descriptorIndex := 13, attributes := #[] }, { accessFlags := 10, nameIndex := 25, descriptorIndex := 26, attributes := #[] }, { accessFlags := 10, nameIndex := 18, descriptorIndex := 19, attributes := #[] }] 49 2 #[] #[])
  fields := #[]
  methods := #[k1m0, k1m1, k1m2, k1m3, k1m4, k1m5]
  instanceTypes := #[]
  staticTypes := #[]
  resolved := Array.replicate 80 none
  statics := none }

def pool2 : Array CpInfo := pool [(1, .class_ 2), (0, u "java/io/Serializable"), (0, .class_ 4), (0, u "java/lang/Object")] 2

/-- java/io/Serializable -/
def k2 : Class := { plain "java/io/Serializable" (some 0) with
  accessFlags := 1537
  interfaces := #[]
  cf := some (fileOf pool2 1 #[] #[] 1537 3 #[] #[])
  fields := #[]
  methods := #[]
  instanceTypes := #[]
  staticTypes := #[]
  resolved := Array.replicate 7 none
  statics := none }

def pool3 : Array CpInfo := pool [(1, .class_ 2), (0, u "java/lang/Comparable"), (0, .class_ 4), (0, u "java/lang/Object")] 7

/-- java/lang/Comparable -/
def k3 : Class := { plain "java/lang/Comparable" (some 0) with
  accessFlags := 1537
  interfaces := #[]
  cf := some (fileOf pool3 1 #[] #[] 1537 3 #[] #[])
  fields := #[]
  methods := #[]
  instanceTypes := #[]
  staticTypes := #[]
  resolved := Array.replicate 12 none
  statics := none }

def pool4 : Array CpInfo := pool [(2, .class_ 4), (1, u "java/lang/CharSequence"), (42, .class_ 48), (0, u "java/lang/CharSequence$1CodePointIterator"), (10, .class_ 60), (0, u "java/lang/CharSequence$1CharIterator"), (5, .class_ 67), (0, u "java/lang/Object")] 63

/-- java/lang/CharSequence -/
def k4 : Class := { plain "java/lang/CharSequence" (some 0) with
  accessFlags := 1537
  interfaces := #[]
  cf := some (fileOf pool4 2 #[.nestMembers #[47, 59]] #[] 1537 66 #[] #[])
  fields := #[]
  methods := #[]
  instanceTypes := #[]
  staticTypes := #[]
  resolved := Array.replicate 131 none
  statics := none }

def pool5 : Array CpInfo := pool [(1, .class_ 2), (0, u "java/lang/constant/Constable"), (0, .class_ 4), (0, u "java/lang/Object")] 6

/-- java/lang/constant/Constable -/
def k5 : Class := { plain "java/lang/constant/Constable" (some 0) with
  accessFlags := 1537
  interfaces := #[]
  cf := some (fileOf pool5 1 #[] #[] 1537 3 #[] #[])
  fields := #[]
  methods := #[]
  instanceTypes := #[]
  staticTypes := #[]
  resolved := Array.replicate 11 none
  statics := none }

def pool6 : Array CpInfo := pool [(1, .class_ 2), (0, u "java/lang/constant/ConstantDesc"), (0, .class_ 4), (0, u "java/lang/Object")] 32

/-- java/lang/constant/ConstantDesc -/
def k6 : Class := { plain "java/lang/constant/ConstantDesc" (some 0) with
  accessFlags := 1537
  interfaces := #[]
  cf := some (fileOf pool6 1 #[] #[] 1537 3 #[] #[])
  fields := #[]
  methods := #[]
  instanceTypes := #[]
  staticTypes := #[]
  resolved := Array.replicate 37 none
  statics := none }

def pool7 : Array CpInfo := pool [(1, .methodref 2 3), (0, .class_ 4), (0, .nameAndType 5 6), (0, u "java/lang/Object"), (0, u "<init>"), (0, u "()V"), (0, .string 8), (0, u ""), (0, .fieldref 10 11), (0, .class_ 12), (0, .nameAndType 13 14), (0, u "java/lang/String"), (0, u "value"), (0, u "[B"), (0, .fieldref 10 16), (0, .nameAndType 17 18), (0, u "coder"), (0, u "B"), (2, u "hash"), (0, u "I"), (2, u "hashIsZero"), (0, u "Z"), (0, .methodref 10 28), (0, .nameAndType 5 29), (0, u "([CIILjava/lang/Void;)V"), (8, .fieldref 10 39), (0, .nameAndType 40 26), (0, u "COMPACT_STRINGS"), (1, .class_ 44), (1, u "java/lang/StringUTF16"), (0, u "compress"), (1, .methodref 42 48), (0, .nameAndType 49 50), (0, u "coderFromArrayLen"), (0, u "([BI)B"), (56, .class_ 109), (1, u "java/lang/StringLatin1"), (67, .methodref 42 178), (0, .nameAndType 45 179), (0, u "([CII)[B"), (361, .methodref 107 542), (0, .nameAndType 543 544), (0, u "equals"), (0, u "([B[B)Z"), (28, u "(Ljava/lang/Object;)Z"), (1, .class_ 576), (0, u "java/lang/CharSequence"), (22, u "CASE_INSENSITIVE_ORDER"), (0, u "Ljava/util/Comparator;"), (409, u "([C)V"), (90, u "serialPersistentFields"), (0, u "[Ljava/io/ObjectStreamField;"), (0, .class_ 1104), (0, u "java/lang/String$CaseInsensitiveComparator"), (1, .class_ 1107), (0, u "java/io/Serializable"), (0, .class_ 1109), (0, u "java/lang/Comparable"), (0, .class_ 1111), (0, u "java/lang/constant/Constable"), (0, .class_ 1113), (0, u "java/lang/constant/ConstantDesc"), (2, u "serialVersionUID"), (0, u "J"), (3, u "REPL"), (0, u "C"), (2, u "LATIN1"), (1, u "UTF16")] 323

def k7m0 : Method := { name := "<init>", desc := "()V", sig := { parameters := [], returnType := none }, accessFlags := 1, code := none }
def k7c1 : Code := { maxStack := 5, maxLocals := 2, code := jdk_42_method_3_code, exceptionTable := #[], attributes := #[] }
def k7m1 : Method := { name := "<init>", desc := "([C)V", sig := { parameters := [(.array .char)], returnType := none }, accessFlags := 1, code := some k7c1 }
def k7c2 : Code := { maxStack := 2, maxLocals := 3, code := jdk_42_method_66_code, exceptionTable := #[], attributes := #[] }
def k7m2 : Method := { name := "equals", desc := "(Ljava/lang/Object;)Z", sig := { parameters := [(.object "java/lang/Object")], returnType := some .boolean }, accessFlags := 1, code := some k7c2 }
def k7c3 : Code := { maxStack := 4, maxLocals := 6, code := jdk_42_method_149_code, exceptionTable := #[], attributes := #[] }
def k7m3 : Method := { name := "<init>", desc := "([CIILjava/lang/Void;)V", sig := { parameters := [(.array .char), .int, .int, (.object "java/lang/Void")], returnType := none }, accessFlags := 2, code := some k7c3 }
/-- java/lang/String -/
def k7 : Class := { plain "java/lang/String" (some 0) with
  accessFlags := 49
  interfaces := #[2, 3, 4, 5, 6]
  cf := some (fileOf pool7 10 #[.nestMembers #[1103]] #[{ accessFlags := 1, nameIndex := 5, descriptorIndex := 6, attributes := #[] }, { accessFlags := 1, nameIndex := 5, descriptorIndex := 1010, attributes := #[] }, { accessFlags := 1, nameIndex := 543, descriptorIndex := 573, attributes := #[] }, { accessFlags := 2, nameIndex := 5, descriptorIndex := 29, attributes := #[] }] 49 2 #[1106, 1108, 575, 1110, 1112] #[{ accessFlags := 18, nameIndex := 13, descriptorIndex := 14, attributes := #[] }, { accessFlags := 18, nameIndex := 17, descriptorIndex := 18, attributes := #[] }, { accessFlags := 2, nameIndex := 21, descriptorIndex := 22, attributes := #[] }, { accessFlags := 2, nameIndex := 25, descriptorIndex := 26, attributes := #[] }, { accessFlags := 26, nameIndex := 1116, descriptorIndex := 1117, attributes := #[] }, { accessFlags := 24, nameIndex := 40, descriptorIndex := 26, attributes := #[] }, { accessFlags := 26, nameIndex := 1101, descriptorIndex := 1102, attributes := #[] }, { accessFlags := 26, nameIndex := 1121, descriptorIndex := 1122, attributes := #[] }, { accessFlags := 25, nameIndex := 599, descriptorIndex := 600, attributes := #[] }, { accessFlags := 24, nameIndex := 1125, descriptorIndex := 18, attributes := #[] }, { accessFlags := 24, nameIndex := 1127, descriptorIndex := 18, attributes := #[] }])
  fields := #[{ name := "value", type := (.array .byte), accessFlags := 18, slot := 0, constantValue := 0 }, { name := "coder", type := .byte, accessFlags := 18, slot := 1, constantValue := 0 }, { name := "hash", type := .int, accessFlags := 2, slot := 2, constantValue := 0 }, { name := "hashIsZero", type := .boolean, accessFlags := 2, slot := 3, constantValue := 0 }, { name := "serialVersionUID", type := .long, accessFlags := 26, slot := 0, constantValue := 0 }, { name := "COMPACT_STRINGS", type := .boolean, accessFlags := 24, slot := 1, constantValue := 0 }, { name := "serialPersistentFields", type := (.array (.object "java/io/ObjectStreamField")), accessFlags := 26, slot := 2, constantValue := 0 }, { name := "REPL", type := .char, accessFlags := 26, slot := 3, constantValue := 0 }, { name := "CASE_INSENSITIVE_ORDER", type := (.object "java/util/Comparator"), accessFlags := 25, slot := 4, constantValue := 0 }, { name := "LATIN1", type := .byte, accessFlags := 24, slot := 5, constantValue := 0 }, { name := "UTF16", type := .byte, accessFlags := 24, slot := 6, constantValue := 0 }]
  methods := #[k7m0, k7m1, k7m2, k7m3]
  instanceTypes := #[(.array .byte), .byte, .int, .boolean]
  staticTypes := #[.long, .boolean, (.array (.object "java/io/ObjectStreamField")), .char, (.object "java/util/Comparator"), .byte, .byte]
  resolved := Array.replicate 1451 none
  statics := some 0 }

def pool8 : Array CpInfo := pool [(1, .methodref 2 3), (0, .class_ 4), (0, .nameAndType 5 6), (0, u "java/lang/Object"), (0, u "<init>"), (0, u "()V"), (0, .class_ 8), (0, u "java/lang/Record")] 13

def k8c0 : Code := { maxStack := 1, maxLocals := 1, code := jdk_30_method_1_code, exceptionTable := #[], attributes := #[] }
def k8m0 : Method := { name := "<init>", desc := "()V", sig := { parameters := [], returnType := none }, accessFlags := 4, code := some k8c0 }
/-- java/lang/Record -/
def k8 : Class := { plain "java/lang/Record" (some 0) with
  accessFlags := 1057
  interfaces := #[]
  cf := some (fileOf pool8 7 #[] #[{ accessFlags := 4, nameIndex := 5, descriptorIndex := 6, attributes := #[] }] 1057 2 #[] #[])
  fields := #[]
  methods := #[k8m0]
  instanceTypes := #[]
  staticTypes := #[]
  resolved := Array.replicate 22 none
  statics := none }

def pool9 : Array CpInfo := pool [(1, .methodref 2 3), (0, .class_ 4), (0, .nameAndType 5 6), (0, u "java/lang/Record"), (0, u "<init>"), (0, u "()V"), (0, .string 8), (0, u "category"), (0, .methodref 10 11), (0, .class_ 12), (0, .nameAndType 13 14), (0, u "java/util/Objects"), (0, u "requireNonNull"), (0, u "(Ljava/lang/Object;Ljava/lang/String;)Ljava/lang/Object;"), (0, .string 16), (0, u "resourceId"), (0, .fieldref 18 19), (0, .class_ 20), (0, .nameAndType 8 21), (0, u "com/example/ratebook/ratebook/model/PricedItem"), (0, u "Lcom/example/ratebook/ratebook/model/Category;"), (0, .fieldref 18 23), (0, .nameAndType 16 24), (0, u "Ljava/lang/String;"), (0, .methodref 26 27), (0, .class_ 28), (0, .nameAndType 29 30), (0, u "java/lang/String"), (0, u "equals"), (0, u "(Ljava/lang/Object;)Z"), (10, u "(Lcom/example/ratebook/ratebook/model/Category;Ljava/lang/String;)V")] 29

def k9c0 : Code := { maxStack := 2, maxLocals := 3, code := prog_28_method_1_code, exceptionTable := #[], attributes := #[] }
def k9m0 : Method := { name := "<init>", desc := "(Lcom/example/ratebook/ratebook/model/Category;Ljava/lang/String;)V", sig := { parameters := [(.object "com/example/ratebook/ratebook/model/Category"), (.object "java/lang/String")], returnType := none }, accessFlags := 1, code := some k9c0 }
def k9c1 : Code := { maxStack := 2, maxLocals := 3, code := prog_28_method_2_code, exceptionTable := #[], attributes := #[] }
def k9m1 : Method := { name := "equals", desc := "(Ljava/lang/Object;)Z", sig := { parameters := [(.object "java/lang/Object")], returnType := some .boolean }, accessFlags := 1, code := some k9c1 }
/-- com/example/ratebook/ratebook/model/PricedItem -/
def k9 : Class := { plain "com/example/ratebook/ratebook/model/PricedItem" (some 8) with
  accessFlags := 49
  interfaces := #[]
  cf := some (fileOf pool9 18 #[] #[{ accessFlags := 1, nameIndex := 5, descriptorIndex := 41, attributes := #[] }, { accessFlags := 1, nameIndex := 29, descriptorIndex := 30, attributes := #[] }] 49 2 #[] #[{ accessFlags := 18, nameIndex := 8, descriptorIndex := 21, attributes := #[] }, { accessFlags := 18, nameIndex := 16, descriptorIndex := 24, attributes := #[] }])
  fields := #[{ name := "category", type := (.object "com/example/ratebook/ratebook/model/Category"), accessFlags := 18, slot := 0, constantValue := 0 }, { name := "resourceId", type := (.object "java/lang/String"), accessFlags := 18, slot := 1, constantValue := 0 }]
  methods := #[k9m0, k9m1]
  instanceTypes := #[(.object "com/example/ratebook/ratebook/model/Category"), (.object "java/lang/String")]
  staticTypes := #[]
  resolved := Array.replicate 71 none
  statics := none }

def pool10 : Array CpInfo := pool [(2, .class_ 4), (1, u "java/lang/Enum"), (0, u "name"), (0, u "Ljava/lang/String;"), (2, u "ordinal"), (0, u "I"), (1, .class_ 14), (1, u "java/lang/Object"), (4, u "hash"), (86, .class_ 108), (1, u "java/lang/Enum$EnumDesc"), (2, .class_ 112), (0, u "java/lang/constant/Constable"), (0, .class_ 114), (0, u "java/lang/Comparable"), (0, .class_ 116), (0, u "java/io/Serializable")] 87

/-- java/lang/Enum -/
def k10 : Class := { plain "java/lang/Enum" (some 0) with
  accessFlags := 1057
  interfaces := #[5, 3, 2]
  cf := some (fileOf pool10 2 #[.nestMembers #[106]] #[] 1057 12 #[111, 113, 115] #[{ accessFlags := 18, nameIndex := 5, descriptorIndex := 6, attributes := #[] }, { accessFlags := 18, nameIndex := 9, descriptorIndex := 10, attributes := #[] }, { accessFlags := 2, nameIndex := 19, descriptorIndex := 10, attributes := #[] }])
  fields := #[{ name := "name", type := (.object "java/lang/String"), accessFlags := 18, slot := 0, constantValue := 0 }, { name := "ordinal", type := .int, accessFlags := 18, slot := 1, constantValue := 0 }, { name := "hash", type := .int, accessFlags := 2, slot := 2, constantValue := 0 }]
  methods := #[]
  instanceTypes := #[(.object "java/lang/String"), .int, .int]
  staticTypes := #[]
  resolved := Array.replicate 204 none
  statics := none }

def pool11 : Array CpInfo := pool [(1, .class_ 2), (0, u "com/example/ratebook/ratebook/model/Category"), (2, u "TEMPLATE"), (0, u "Lcom/example/ratebook/ratebook/model/Category;"), (2, u "VM"), (2, u "PM"), (2, u "CPU"), (2, u "CPU_CLOCK"), (2, u "MEMORY"), (2, u "SYS_DISK"), (2, u "DISK"), (2, u "SNAPSHOT"), (2, u "NIC"), (2, u "$VALUES"), (0, u "[Lcom/example/ratebook/ratebook/model/Category;"), (6, .class_ 46), (1, u "java/lang/Enum"), (24, u "code"), (0, u "Ljava/lang/String;"), (8, u "BY_CODE"), (0, u "Ljava/util/Map;")] 92

/-- com/example/ratebook/ratebook/model/Category -/
def k11 : Class := { plain "com/example/ratebook/ratebook/model/Category" (some 10) with
  accessFlags := 16433
  interfaces := #[]
  cf := some (fileOf pool11 1 #[] #[] 16433 44 #[] #[{ accessFlags := 16409, nameIndex := 5, descriptorIndex := 6, attributes := #[] }, { accessFlags := 16409, nameIndex := 9, descriptorIndex := 6, attributes := #[] }, { accessFlags := 16409, nameIndex := 12, descriptorIndex := 6, attributes := #[] }, { accessFlags := 16409, nameIndex := 15, descriptorIndex := 6, attributes := #[] }, { accessFlags := 16409, nameIndex := 18, descriptorIndex := 6, attributes := #[] }, { accessFlags := 16409, nameIndex := 21, descriptorIndex := 6, attributes := #[] }, { accessFlags := 16409, nameIndex := 24, descriptorIndex := 6, attributes := #[] }, { accessFlags := 16409, nameIndex := 27, descriptorIndex := 6, attributes := #[] }, { accessFlags := 16409, nameIndex := 30, descriptorIndex := 6, attributes := #[] }, { accessFlags := 16409, nameIndex := 33, descriptorIndex := 6, attributes := #[] }, { accessFlags := 26, nameIndex := 81, descriptorIndex := 82, attributes := #[] }, { accessFlags := 18, nameIndex := 71, descriptorIndex := 72, attributes := #[] }, { accessFlags := 4122, nameIndex := 36, descriptorIndex := 37, attributes := #[] }])
  fields := #[{ name := "TEMPLATE", type := (.object "com/example/ratebook/ratebook/model/Category"), accessFlags := 16409, slot := 0, constantValue := 0 }, { name := "VM", type := (.object "com/example/ratebook/ratebook/model/Category"), accessFlags := 16409, slot := 1, constantValue := 0 }, { name := "PM", type := (.object "com/example/ratebook/ratebook/model/Category"), accessFlags := 16409, slot := 2, constantValue := 0 }, { name := "CPU", type := (.object "com/example/ratebook/ratebook/model/Category"), accessFlags := 16409, slot := 3, constantValue := 0 }, { name := "CPU_CLOCK", type := (.object "com/example/ratebook/ratebook/model/Category"), accessFlags := 16409, slot := 4, constantValue := 0 }, { name := "MEMORY", type := (.object "com/example/ratebook/ratebook/model/Category"), accessFlags := 16409, slot := 5, constantValue := 0 }, { name := "SYS_DISK", type := (.object "com/example/ratebook/ratebook/model/Category"), accessFlags := 16409, slot := 6, constantValue := 0 }, { name := "DISK", type := (.object "com/example/ratebook/ratebook/model/Category"), accessFlags := 16409, slot := 7, constantValue := 0 }, { name := "SNAPSHOT", type := (.object "com/example/ratebook/ratebook/model/Category"), accessFlags := 16409, slot := 8, constantValue := 0 }, { name := "NIC", type := (.object "com/example/ratebook/ratebook/model/Category"), accessFlags := 16409, slot := 9, constantValue := 0 }, { name := "BY_CODE", type := (.object "java/util/Map"), accessFlags := 26, slot := 10, constantValue := 0 }, { name := "code", type := (.object "java/lang/String"), accessFlags := 18, slot := 3, constantValue := 0 }, { name := "$VALUES", type := (.array (.object "com/example/ratebook/ratebook/model/Category")), accessFlags := 4122, slot := 11, constantValue := 0 }]
  methods := #[]
  instanceTypes := #[(.object "java/lang/String"), .int, .int, (.object "java/lang/String")]
  staticTypes := #[(.object "com/example/ratebook/ratebook/model/Category"), (.object "com/example/ratebook/ratebook/model/Category"), (.object "com/example/ratebook/ratebook/model/Category"), (.object "com/example/ratebook/ratebook/model/Category"), (.object "com/example/ratebook/ratebook/model/Category"), (.object "com/example/ratebook/ratebook/model/Category"), (.object "com/example/ratebook/ratebook/model/Category"), (.object "com/example/ratebook/ratebook/model/Category"), (.object "com/example/ratebook/ratebook/model/Category"), (.object "com/example/ratebook/ratebook/model/Category"), (.object "java/util/Map"), (.array (.object "com/example/ratebook/ratebook/model/Category"))]
  resolved := Array.replicate 175 none
  statics := some 1 }

def pool12 : Array CpInfo := pool [(2, .class_ 4), (1, u "java/lang/Object"), (0, u "<init>"), (0, u "()V"), (35, .class_ 44), (1, u "java/util/Objects"), (0, u "requireNonNull"), (48, u "(Ljava/lang/Object;Ljava/lang/String;)Ljava/lang/Object;")] 89

def k12m0 : Method := { name := "<init>", desc := "()V", sig := { parameters := [], returnType := none }, accessFlags := 2, code := none }
def k12c1 : Code := { maxStack := 3, maxLocals := 2, code := jdk_31_method_11_code, exceptionTable := #[], attributes := #[] }
def k12m1 : Method := { name := "requireNonNull", desc := "(Ljava/lang/Object;Ljava/lang/String;)Ljava/lang/Object;", sig := { parameters := [(.object "java/lang/Object"), (.object "java/lang/String")], returnType := some (.object "java/lang/Object") }, accessFlags := 9, code := some k12c1 }
/-- java/util/Objects -/
def k12 : Class := { plain "java/util/Objects" (some 0) with
  accessFlags := 49
  interfaces := #[]
  cf := some (fileOf pool12 42 #[] #[{ accessFlags := 2, nameIndex := 5, descriptorIndex := 6, attributes := #[] }, { accessFlags := 9, nameIndex := 45, descriptorIndex := 94, attributes := #[] }] 49 2 #[] #[])
  fields := #[]
  methods := #[k12m0, k12m1]
  instanceTypes := #[]
  staticTypes := #[]
  resolved := Array.replicate 184 none
  statics := none }

def pool13 : Array CpInfo := pool [(4, .class_ 6), (1, u "java/lang/Object"), (0, u "<init>"), (0, u "()V"), (5, .class_ 16), (1, u "java/lang/StringLatin1"), (104, u "$assertionsDisabled"), (0, u "Z"), (98, .class_ 223), (1, u "java/lang/StringLatin1$LinesSpliterator"), (57, u "equals"), (0, u "([B[B)Z"), (107, .class_ 391), (0, u "java/lang/StringLatin1$CharsSpliterator")] 3

def k13m0 : Method := { name := "<init>", desc := "()V", sig := { parameters := [], returnType := none }, accessFlags := 0, code := none }
def k13c1 : Code := { maxStack := 3, maxLocals := 3, code := jdk_43_method_13_code, exceptionTable := #[], attributes := #[] }
def k13m1 : Method := { name := "equals", desc := "([B[B)Z", sig := { parameters := [(.array .byte), (.array .byte)], returnType := some .boolean }, accessFlags := 9, code := some k13c1 }
/-- java/lang/StringLatin1 -/
def k13 : Class := { plain "java/lang/StringLatin1" (some 0) with
  accessFlags := 48
  interfaces := #[]
  cf := some (fileOf pool13 14 #[.nestMembers #[390, 221]] #[{ accessFlags := 0, nameIndex := 7, descriptorIndex := 8, attributes := #[] }, { accessFlags := 9, nameIndex := 281, descriptorIndex := 282, attributes := #[] }] 48 4 #[] #[{ accessFlags := 4120, nameIndex := 121, descriptorIndex := 122, attributes := #[] }])
  fields := #[{ name := "$assertionsDisabled", type := .boolean, accessFlags := 4120, slot := 0, constantValue := 0 }]
  methods := #[k13m0, k13m1]
  instanceTypes := #[]
  staticTypes := #[.boolean]
  resolved := Array.replicate 395 none
  statics := none }

def pool14 : Array CpInfo := pool [(6, .class_ 8), (1, u "java/lang/Object"), (0, u "<init>"), (0, u "()V"), (1, .class_ 14), (1, u "java/lang/StringUTF16"), (31, u "$assertionsDisabled"), (0, u "Z"), (13, u "HI_BYTE_SHIFT"), (0, u "I"), (2, u "LO_BYTE_SHIFT"), (49, .methodref 12 116), (0, .nameAndType 117 118), (0, u "compress"), (0, u "([CI[BII)I"), (3, u "([CII)[B"), (138, u "coderFromArrayLen"), (0, u "([BI)B"), (106, .class_ 371), (1, u "java/lang/StringUTF16$LinesSpliterator"), (58, u "MAX_LENGTH"), (196, .class_ 628), (0, u "java/lang/StringUTF16$CodePointsSpliterator"), (0, .class_ 630), (0, u "java/lang/StringUTF16$CharsSpliterator")] 4

def k14m0 : Method := { name := "<init>", desc := "()V", sig := { parameters := [], returnType := none }, accessFlags := 0, code := none }
def k14c1 : Code := { maxStack := 2, maxLocals := 2, code := jdk_52_method_15_code, exceptionTable := #[], attributes := #[] }
def k14m1 : Method := { name := "coderFromArrayLen", desc := "([BI)B", sig := { parameters := [(.array .byte), .int], returnType := some .byte }, accessFlags := 8, code := some k14c1 }
def k14c2 : Code := { maxStack := 5, maxLocals := 6, code := jdk_52_method_16_code, exceptionTable := #[], attributes := #[] }
def k14m2 : Method := { name := "compress", desc := "([CII)[B", sig := { parameters := [(.array .char), .int, .int], returnType := some (.array .byte) }, accessFlags := 9, code := some k14c2 }
def k14c3 : Code := { maxStack := 3, maxLocals := 7, code := jdk_52_method_21_code, exceptionTable := #[], attributes := #[] }
def k14m3 : Method := { name := "compress", desc := "([CI[BII)I", sig := { parameters := [(.array .char), .int, (.array .byte), .int, .int], returnType := some .int }, accessFlags := 9, code := some k14c3 }
/-- java/lang/StringUTF16 -/
def k14 : Class := { plain "java/lang/StringUTF16" (some 0) with
  accessFlags := 48
  interfaces := #[]
  cf := some (fileOf pool14 12 #[.nestMembers #[627, 629, 369]] #[{ accessFlags := 0, nameIndex := 9, descriptorIndex := 10, attributes := #[] }, { accessFlags := 8, nameIndex := 261, descriptorIndex := 262, attributes := #[] }, { accessFlags := 9, nameIndex := 117, descriptorIndex := 122, attributes := #[] }, { accessFlags := 9, nameIndex := 117, descriptorIndex := 118, attributes := #[] }] 48 6 #[] #[{ accessFlags := 26, nameIndex := 61, descriptorIndex := 62, attributes := #[] }, { accessFlags := 26, nameIndex := 65, descriptorIndex := 62, attributes := #[] }, { accessFlags := 24, nameIndex := 430, descriptorIndex := 62, attributes := #[] }, { accessFlags := 4120, nameIndex := 46, descriptorIndex := 47, attributes := #[] }])
  fields := #[{ name := "HI_BYTE_SHIFT", type := .int, accessFlags := 26, slot := 0, constantValue := 0 }, { name := "LO_BYTE_SHIFT", type := .int, accessFlags := 26, slot := 1, constantValue := 0 }, { name := "MAX_LENGTH", type := .int, accessFlags := 24, slot := 2, constantValue := 0 }, { name := "$assertionsDisabled", type := .boolean, accessFlags := 4120, slot := 3, constantValue := 0 }]
  methods := #[k14m0, k14m1, k14m2, k14m3]
  instanceTypes := #[]
  staticTypes := #[.int, .int, .int, .boolean]
  resolved := Array.replicate 635 none
  statics := none }

def pool15 : Array CpInfo := pool [(2, .class_ 4), (1, u "java/lang/Object"), (0, u "<init>"), (0, u "()V"), (17, .class_ 26), (1, u "jdk/internal/util/Preconditions"), (28, .class_ 56), (0, u "jdk/internal/util/Preconditions$4"), (57, .class_ 115), (0, u "jdk/internal/util/Preconditions$1"), (7, u "SIOOBE_FORMATTER"), (0, u "Ljava/util/function/BiFunction;"), (0, .class_ 126), (0, u "jdk/internal/util/Preconditions$2"), (3, u "AIOOBE_FORMATTER"), (0, .class_ 132), (0, u "jdk/internal/util/Preconditions$3"), (3, u "IOOBE_FORMATTER")] 57

def k15m0 : Method := { name := "<init>", desc := "()V", sig := { parameters := [], returnType := none }, accessFlags := 1, code := none }
/-- jdk/internal/util/Preconditions -/
def k15 : Class := { plain "jdk/internal/util/Preconditions" (some 0) with
  accessFlags := 33
  interfaces := #[]
  cf := some (fileOf pool15 24 #[.nestMembers #[55, 131, 125, 114]] #[{ accessFlags := 1, nameIndex := 5, descriptorIndex := 6, attributes := #[] }] 33 2 #[] #[{ accessFlags := 25, nameIndex := 123, descriptorIndex := 124, attributes := #[] }, { accessFlags := 25, nameIndex := 130, descriptorIndex := 124, attributes := #[] }, { accessFlags := 25, nameIndex := 136, descriptorIndex := 124, attributes := #[] }])
  fields := #[{ name := "SIOOBE_FORMATTER", type := (.object "java/util/function/BiFunction"), accessFlags := 25, slot := 0, constantValue := 0 }, { name := "AIOOBE_FORMATTER", type := (.object "java/util/function/BiFunction"), accessFlags := 25, slot := 1, constantValue := 0 }, { name := "IOOBE_FORMATTER", type := (.object "java/util/function/BiFunction"), accessFlags := 25, slot := 2, constantValue := 0 }]
  methods := #[k15m0]
  instanceTypes := #[]
  staticTypes := #[(.object "java/util/function/BiFunction"), (.object "java/util/function/BiFunction"), (.object "java/util/function/BiFunction")]
  resolved := Array.replicate 194 none
  statics := some 2 }

def pool16 : Array CpInfo := pool [(9, u "<init>"), (6, .class_ 18), (1, u "java/lang/Object"), (0, u "()V"), (1, .class_ 23), (1, u "jdk/internal/util/ArraysSupport"), (0, u "LOG2_ARRAY_LONG_INDEX_SCALE"), (0, u "I"), (2, u "U"), (0, u "Ljdk/internal/misc/Unsafe;"), (8, u "BIG_ENDIAN"), (0, u "Z"), (8, u "LOG2_BYTE_BIT_SIZE"), (4, u "LOG2_ARRAY_INT_INDEX_SCALE"), (54, u "JLA"), (0, u "Ljdk/internal/access/JavaLangAccess;"), (11, u "LOG2_ARRAY_BOOLEAN_INDEX_SCALE"), (9, u "LOG2_ARRAY_BYTE_INDEX_SCALE"), (5, u "LOG2_ARRAY_CHAR_INDEX_SCALE"), (5, u "LOG2_ARRAY_SHORT_INDEX_SCALE"), (18, u "LOG2_ARRAY_FLOAT_INDEX_SCALE"), (24, u "LOG2_ARRAY_DOUBLE_INDEX_SCALE"), (89, u "T_BOOLEAN"), (2, u "T_CHAR"), (1, u "T_FLOAT"), (1, u "T_DOUBLE"), (1, u "T_BYTE"), (1, u "T_SHORT"), (1, u "T_INT"), (1, u "T_LONG"), (1, u "SOFT_MAX_ARRAY_LENGTH")] 83

def k16m0 : Method := { name := "<init>", desc := "()V", sig := { parameters := [], returnType := none }, accessFlags := 2, code := none }
/-- jdk/internal/util/ArraysSupport -/
def k16 : Class := { plain "jdk/internal/util/ArraysSupport" (some 0) with
  accessFlags := 33
  interfaces := #[]
  cf := some (fileOf pool16 21 #[] #[{ accessFlags := 2, nameIndex := 9, descriptorIndex := 19, attributes := #[] }] 33 16 #[] #[{ accessFlags := 24, nameIndex := 28, descriptorIndex := 29, attributes := #[] }, { accessFlags := 26, nameIndex := 38, descriptorIndex := 39, attributes := #[] }, { accessFlags := 25, nameIndex := 121, descriptorIndex := 25, attributes := #[] }, { accessFlags := 25, nameIndex := 131, descriptorIndex := 25, attributes := #[] }, { accessFlags := 25, nameIndex := 137, descriptorIndex := 25, attributes := #[] }, { accessFlags := 25, nameIndex := 143, descriptorIndex := 25, attributes := #[] }, { accessFlags := 25, nameIndex := 53, descriptorIndex := 25, attributes := #[] }, { accessFlags := 25, nameIndex := 24, descriptorIndex := 25, attributes := #[] }, { accessFlags := 25, nameIndex := 162, descriptorIndex := 25, attributes := #[] }, { accessFlags := 25, nameIndex := 187, descriptorIndex := 25, attributes := #[] }, { accessFlags := 26, nameIndex := 48, descriptorIndex := 25, attributes := #[] }, { accessFlags := 25, nameIndex := 277, descriptorIndex := 25, attributes := #[] }, { accessFlags := 25, nameIndex := 280, descriptorIndex := 25, attributes := #[] }, { accessFlags := 25, nameIndex := 282, descriptorIndex := 25, attributes := #[] }, { accessFlags := 25, nameIndex := 284, descriptorIndex := 25, attributes := #[] }, { accessFlags := 25, nameIndex := 286, descriptorIndex := 25, attributes := #[] }, { accessFlags := 25, nameIndex := 288, descriptorIndex := 25, attributes := #[] }, { accessFlags := 25, nameIndex := 290, descriptorIndex := 25, attributes := #[] }, { accessFlags := 25, nameIndex := 292, descriptorIndex := 25, attributes := #[] }, { accessFlags := 26, nameIndex := 108, descriptorIndex := 109, attributes := #[] }, { accessFlags := 25, nameIndex := 294, descriptorIndex := 25, attributes := #[] }])
  fields := #[{ name := "U", type := (.object "jdk/internal/misc/Unsafe"), accessFlags := 24, slot := 0, constantValue := 0 }, { name := "BIG_ENDIAN", type := .boolean, accessFlags := 26, slot := 1, constantValue := 0 }, { name := "LOG2_ARRAY_BOOLEAN_INDEX_SCALE", type := .int, accessFlags := 25, slot := 2, constantValue := 0 }, { name := "LOG2_ARRAY_BYTE_INDEX_SCALE", type := .int, accessFlags := 25, slot := 3, constantValue := 0 }, { name := "LOG2_ARRAY_CHAR_INDEX_SCALE", type := .int, accessFlags := 25, slot := 4, constantValue := 0 }, { name := "LOG2_ARRAY_SHORT_INDEX_SCALE", type := .int, accessFlags := 25, slot := 5, constantValue := 0 }, { name := "LOG2_ARRAY_INT_INDEX_SCALE", type := .int, accessFlags := 25, slot := 6, constantValue := 0 }, { name := "LOG2_ARRAY_LONG_INDEX_SCALE", type := .int, accessFlags := 25, slot := 7, constantValue := 0 }, { name := "LOG2_ARRAY_FLOAT_INDEX_SCALE", type := .int, accessFlags := 25, slot := 8, constantValue := 0 }, { name := "LOG2_ARRAY_DOUBLE_INDEX_SCALE", type := .int, accessFlags := 25, slot := 9, constantValue := 0 }, { name := "LOG2_BYTE_BIT_SIZE", type := .int, accessFlags := 26, slot := 10, constantValue := 0 }, { name := "T_BOOLEAN", type := .int, accessFlags := 25, slot := 11, constantValue := 0 }, { name := "T_CHAR", type := .int, accessFlags := 25, slot := 12, constantValue := 0 }, { name := "T_FLOAT", type := .int, accessFlags := 25, slot := 13, constantValue := 0 }, { name := "T_DOUBLE", type := .int, accessFlags := 25, slot := 14, constantValue := 0 }, { name := "T_BYTE", type := .int, accessFlags := 25, slot := 15, constantValue := 0 }, { name := "T_SHORT", type := .int, accessFlags := 25, slot := 16, constantValue := 0 }, { name := "T_INT", type := .int, accessFlags := 25, slot := 17, constantValue := 0 }, { name := "T_LONG", type := .int, accessFlags := 25, slot := 18, constantValue := 0 }, { name := "JLA", type := (.object "jdk/internal/access/JavaLangAccess"), accessFlags := 26, slot := 19, constantValue := 0 }, { name := "SOFT_MAX_ARRAY_LENGTH", type := .int, accessFlags := 25, slot := 20, constantValue := 0 }]
  methods := #[k16m0]
  instanceTypes := #[]
  staticTypes := #[(.object "jdk/internal/misc/Unsafe"), .boolean, .int, .int, .int, .int, .int, .int, .int, .int, .int, .int, .int, .int, .int, .int, .int, .int, .int, (.object "jdk/internal/access/JavaLangAccess"), .int]
  resolved := Array.replicate 378 none
  statics := none }

def pool17 : Array CpInfo := pool [(1, u "java/lang/Cloneable"), (0, .class_ 1), (0, u "java/lang/Object"), (0, .class_ 3)] 3

/-- java/lang/Cloneable -/
def k17 : Class := { plain "java/lang/Cloneable" (some 0) with
  accessFlags := 1537
  interfaces := #[]
  cf := some (fileOf pool17 2 #[] #[] 1537 4 #[] #[])
  fields := #[]
  methods := #[]
  instanceTypes := #[]
  staticTypes := #[]
  resolved := Array.replicate 8 none
  statics := none }

/-- the primitive byte -/
def k18 : Class := { plain "byte" none with kind := .primitive 'B', accessFlags := 0x411 }
/-- [B -/
def k19 : Class := { plain "[B" (some 0) with kind := .array 18 .byte, interfaces := #[17, 2], accessFlags := 1041 }

/-- the primitive char -/
def k20 : Class := { plain "char" none with kind := .primitive 'C', accessFlags := 0x411 }
/-- [C -/
def k21 : Class := { plain "[C" (some 0) with kind := .array 20 .char, interfaces := #[17, 2], accessFlags := 1041 }

/-- the primitive int -/
def k22 : Class := { plain "int" none with kind := .primitive 'I', accessFlags := 0x411 }
/-- [I -/
def k23 : Class := { plain "[I" (some 0) with kind := .array 22 .int, interfaces := #[17, 2], accessFlags := 1041 }

def heap : Heap := #[{ cls := 7, slots := #[.long 0, .int 1, .null, .int 0, .null, .int 0, .int 0], vm := .statics 7 },
  { cls := 11, slots := #[.ref 3, .ref 12, .ref 5, .ref 4, .ref 11, .ref 6, .ref 8, .ref 7, .ref 10, .ref 9, .null, .null], vm := .statics 11 },
  { cls := 15, slots := #[.null, .null, .null], vm := .statics 15 },
  { cls := 11, slots := #[.null, .int 0, .int 0, .null], vm := .none },
  { cls := 11, slots := #[.null, .int 3, .int 0, .null], vm := .none },
  { cls := 11, slots := #[.null, .int 2, .int 0, .null], vm := .none },
  { cls := 11, slots := #[.null, .int 5, .int 0, .null], vm := .none },
  { cls := 11, slots := #[.null, .int 7, .int 0, .null], vm := .none },
  { cls := 11, slots := #[.null, .int 6, .int 0, .null], vm := .none },
  { cls := 11, slots := #[.null, .int 9, .int 0, .null], vm := .none },
  { cls := 11, slots := #[.null, .int 8, .int 0, .null], vm := .none },
  { cls := 11, slots := #[.null, .int 4, .int 0, .null], vm := .none },
  { cls := 11, slots := #[.null, .int 1, .int 0, .null], vm := .none }]
def classes : Array Class := #[k0, k1, k2, k3, k4, k5, k6, k7, k8, k9, k10, k11, k12, k13, k14, k15, k16, k17, k18, k19, k20, k21, k22, k23]
def interned : List (Array UInt16 × Addr) := []
def slotsUsed : Nat := 62
def theMethod : MethodId := ⟨1, 1⟩
def args0 : Array Value := #[.int 2, .int 1, .int 65, .int 7, .int 77]
def aboutOver (below : List Frame) : State where
  vm := { classes := classes, interned := interned.toArray }
  heap := heap
  slotsUsed := slotsUsed
  threads := #[{ frames := .invoking theMethod args0 :: below }]
def below0 : List Frame := [.native { method := ⟨0, 0⟩, args := #[] }]
def about1 : State := aboutOver below0
def p0 : Program := .bare "" "" ""
def e0 : Env := launch0.env 0 0 0
theorem w_frames : about1.frames = Frame.invoking theMethod args0 :: below0 := rfl
set_option maxRecDepth 65536 in
theorem w_args : argsFit about1.vm theMethod args0 = true := by decide +kernel
set_option maxRecDepth 65536 in
theorem w_heap : heapFits about1 = true := by decide +kernel
set_option maxRecDepth 65536 in
theorem w_runnable : about1.curStatus? = some .runnable := by decide +kernel
set_option maxRecDepth 65536 in
theorem w_alone : about1.alone = true := by decide +kernel
set_option maxRecDepth 65536 in
theorem w_named : about1.methodNamed? x = some theMethod := by decide +kernel
set_option maxRecDepth 65536 in
theorem w_hears : about1.hears theMethod below0 = true := by decide +kernel
set_option maxRecDepth 65536 in
theorem w_ripe : about1.ripe theMethod args0 below0 = true := by decide +kernel
theorem w_running : about1.status = .running := rfl
set_option maxRecDepth 65536 in
theorem w_room : about1.hasRoom e0.platform room_1 = true :=
  launch0.hasRoom_least _ room_1 (by decide +kernel) (by decide +kernel) (by decide +kernel) (by decide +kernel) (by decide +kernel) (by decide +kernel)
theorem allAtoms_all (ts : List Jvm.Cond) (a : Array Jvm.Value) (st : Jvm.State) : (allAtoms ts).before a st = ts.all (fun c => c.before a st) := by
  induction ts with
  | nil => rfl
  | cons c t ih =>
    show (Jvm.Cond.and c (allAtoms t)).before a st = _
    rw [Jvm.Cond.before_and, ih, List.all_cons]
def words1 : List Jvm.Cond := Jvm.Cond.code x code maxLocals ret :: tables_1
/-- a 'code' word, met by the world's own term for the bytes: nothing is compared byte by byte -/
theorem code_word {y : MethodName} {bytes : ByteArray} {mx : Nat} {rt : Option FieldType} {a : Array Value} {s : State} {m : MethodId} {meth : Method} {c : Code} (h1 : s.methodNamed? y = some m) (h2 : s.vm.method? m = some meth) (h3 : meth.code = some c) (h4 : c.code = bytes)
    (h5 : (c.maxLocals == mx && c.exceptionTable.isEmpty && decide (c.maxStack ≤ mostOperands) && decide (meth.sig.returnType = rt) && !meth.locks && decide (parseMethodDescriptor y.desc = some meth.sig)) = true) : (Jvm.Cond.code y bytes mx rt).before a s = true := by
  simp only [Bool.and_eq_true, beq_iff_eq, Bool.not_eq_true', decide_eq_true_eq] at h5
  obtain ⟨⟨⟨⟨⟨g1, g2⟩, g3⟩, g4⟩, g5⟩, g6⟩ := h5
  simp [Cond.before, Cond.holds, Cond.value, h1, h2, h3, h4, g1, g2, g3, g4, g5, g6]
def isCode : Jvm.Cond → Bool
  | .code _ _ _ _ => true
  | _ => false
theorem all_split {L : List Jvm.Cond} {P : Jvm.Cond → Bool} (h1 : L.all (fun c => isCode c || P c) = true) (h2 : ∀ c ∈ L.filter isCode, P c = true) : L.all P = true := by
  refine List.all_eq_true.mpr fun c hc => ?_
  have h := List.all_eq_true.mp h1 c hc
  rcases Bool.eq_false_or_eq_true (isCode c) with hi | hi
  · exact h2 c (List.mem_filter.mpr ⟨hc, hi⟩)
  · simpa [hi] using h
set_option maxRecDepth 65536 in
theorem w_c0 : (Jvm.Cond.code x code maxLocals ret).before args0 about1 = true := code_word (m := ⟨1, 1⟩) (meth := k1m1) (c := k1c1) (by decide +kernel) rfl rfl rfl (by decide +kernel)
set_option maxRecDepth 65536 in
theorem w_c1 : (Jvm.Cond.code ({ cls := "com/example/ratebook/ratebook/model/PricedItemEqualsPinLaw", name := "str", desc := "(I)Ljava/lang/String;" } : Jvm.MethodName) method_4_code (5 : Nat) (Option.some (Jvm.ClassFile.FieldType.object "java/lang/String"))).before args0 about1 = true := code_word (m := ⟨1, 3⟩) (meth := k1m3) (c := k1c3) (by decide +kernel) rfl rfl rfl (by decide +kernel)
set_option maxRecDepth 65536 in
theorem w_c2 : (Jvm.Cond.code ({ cls := "com/example/ratebook/ratebook/model/PricedItemEqualsPinLaw", name := "len", desc := "(I)I" } : Jvm.MethodName) method_3_code (1 : Nat) (Option.some Jvm.ClassFile.FieldType.int)).before args0 about1 = true := code_word (m := ⟨1, 2⟩) (meth := k1m2) (c := k1c2) (by decide +kernel) rfl rfl rfl (by decide +kernel)
set_option maxRecDepth 65536 in
theorem w_c3 : (Jvm.Cond.code ({ cls := "java/lang/String", name := "<init>", desc := "([C)V" } : Jvm.MethodName) jdk_42_method_3_code (2 : Nat) (Option.none : Option Jvm.ClassFile.FieldType)).before args0 about1 = true := code_word (m := ⟨7, 1⟩) (meth := k7m1) (c := k7c1) (by decide +kernel) rfl rfl rfl (by decide +kernel)
set_option maxRecDepth 65536 in
theorem w_c4 : (Jvm.Cond.code ({ cls := "java/lang/String", name := "<init>", desc := "([CIILjava/lang/Void;)V" } : Jvm.MethodName) jdk_42_method_149_code (6 : Nat) (Option.none : Option Jvm.ClassFile.FieldType)).before args0 about1 = true := code_word (m := ⟨7, 3⟩) (meth := k7m3) (c := k7c3) (by decide +kernel) rfl rfl rfl (by decide +kernel)
set_option maxRecDepth 65536 in
theorem w_c5 : (Jvm.Cond.code ({ cls := "java/lang/Object", name := "<init>", desc := "()V" } : Jvm.MethodName) object_method_1_code (1 : Nat) (Option.none : Option Jvm.ClassFile.FieldType)).before args0 about1 = true := code_word (m := ⟨0, 0⟩) (meth := k0m0) (c := k0c0) (by decide +kernel) rfl rfl rfl (by decide +kernel)
set_option maxRecDepth 65536 in
theorem w_c6 : (Jvm.Cond.code ({ cls := "com/example/ratebook/ratebook/model/PricedItemEqualsPinLaw", name := "cat", desc := "(I)Lcom/example/ratebook/ratebook/model/Category;" } : Jvm.MethodName) method_6_code (1 : Nat) (Option.some (Jvm.ClassFile.FieldType.object "com/example/ratebook/ratebook/model/Category"))).before args0 about1 = true := code_word (m := ⟨1, 5⟩) (meth := k1m5) (c := k1c5) (by decide +kernel) rfl rfl rfl (by decide +kernel)
set_option maxRecDepth 65536 in
theorem w_c7 : (Jvm.Cond.code ({ cls := "com/example/ratebook/ratebook/model/PricedItem", name := "<init>", desc := "(Lcom/example/ratebook/ratebook/model/Category;Ljava/lang/String;)V" } : Jvm.MethodName) prog_28_method_1_code (3 : Nat) (Option.none : Option Jvm.ClassFile.FieldType)).before args0 about1 = true := code_word (m := ⟨9, 0⟩) (meth := k9m0) (c := k9c0) (by decide +kernel) rfl rfl rfl (by decide +kernel)
set_option maxRecDepth 65536 in
theorem w_c8 : (Jvm.Cond.code ({ cls := "java/lang/Record", name := "<init>", desc := "()V" } : Jvm.MethodName) jdk_30_method_1_code (1 : Nat) (Option.none : Option Jvm.ClassFile.FieldType)).before args0 about1 = true := code_word (m := ⟨8, 0⟩) (meth := k8m0) (c := k8c0) (by decide +kernel) rfl rfl rfl (by decide +kernel)
set_option maxRecDepth 65536 in
theorem w_c9 : (Jvm.Cond.code ({ cls := "java/util/Objects", name := "requireNonNull", desc := "(Ljava/lang/Object;Ljava/lang/String;)Ljava/lang/Object;" } : Jvm.MethodName) jdk_31_method_11_code (2 : Nat) (Option.some (Jvm.ClassFile.FieldType.object "java/lang/Object"))).before args0 about1 = true := code_word (m := ⟨12, 1⟩) (meth := k12m1) (c := k12c1) (by decide +kernel) rfl rfl rfl (by decide +kernel)
set_option maxRecDepth 65536 in
theorem w_c10 : (Jvm.Cond.code ({ cls := "com/example/ratebook/ratebook/model/PricedItem", name := "equals", desc := "(Ljava/lang/Object;)Z" } : Jvm.MethodName) prog_28_method_2_code (3 : Nat) (Option.some Jvm.ClassFile.FieldType.boolean)).before args0 about1 = true := code_word (m := ⟨9, 1⟩) (meth := k9m1) (c := k9c1) (by decide +kernel) rfl rfl rfl (by decide +kernel)
set_option maxRecDepth 65536 in
theorem w_c11 : (Jvm.Cond.code ({ cls := "com/example/ratebook/ratebook/model/PricedItemEqualsPinLaw", name := "sameText", desc := "(II)Z" } : Jvm.MethodName) method_5_code (3 : Nat) (Option.some Jvm.ClassFile.FieldType.boolean)).before args0 about1 = true := code_word (m := ⟨1, 4⟩) (meth := k1m4) (c := k1c4) (by decide +kernel) rfl rfl rfl (by decide +kernel)
set_option maxRecDepth 65536 in
theorem w_c12 : (Jvm.Cond.code ({ cls := "java/lang/String", name := "equals", desc := "(Ljava/lang/Object;)Z" } : Jvm.MethodName) jdk_42_method_66_code (3 : Nat) (Option.some Jvm.ClassFile.FieldType.boolean)).before args0 about1 = true := code_word (m := ⟨7, 2⟩) (meth := k7m2) (c := k7c2) (by decide +kernel) rfl rfl rfl (by decide +kernel)
set_option maxRecDepth 65536 in
theorem w_c13 : (Jvm.Cond.code ({ cls := "java/lang/StringLatin1", name := "equals", desc := "([B[B)Z" } : Jvm.MethodName) jdk_43_method_13_code (3 : Nat) (Option.some Jvm.ClassFile.FieldType.boolean)).before args0 about1 = true := code_word (m := ⟨13, 1⟩) (meth := k13m1) (c := k13c1) (by decide +kernel) rfl rfl rfl (by decide +kernel)
set_option maxRecDepth 65536 in
theorem w_c14 : (Jvm.Cond.code ({ cls := "java/lang/StringUTF16", name := "compress", desc := "([CII)[B" } : Jvm.MethodName) jdk_52_method_16_code (6 : Nat) (Option.some (Jvm.ClassFile.FieldType.array Jvm.ClassFile.FieldType.byte))).before args0 about1 = true := code_word (m := ⟨14, 2⟩) (meth := k14m2) (c := k14c2) (by decide +kernel) rfl rfl rfl (by decide +kernel)
set_option maxRecDepth 65536 in
theorem w_c15 : (Jvm.Cond.code ({ cls := "java/lang/StringUTF16", name := "compress", desc := "([CI[BII)I" } : Jvm.MethodName) jdk_52_method_21_code (7 : Nat) (Option.some Jvm.ClassFile.FieldType.int)).before args0 about1 = true := code_word (m := ⟨14, 3⟩) (meth := k14m3) (c := k14c3) (by decide +kernel) rfl rfl rfl (by decide +kernel)
set_option maxRecDepth 65536 in
theorem w_c16 : (Jvm.Cond.code ({ cls := "java/lang/StringUTF16", name := "coderFromArrayLen", desc := "([BI)B" } : Jvm.MethodName) jdk_52_method_15_code (2 : Nat) (Option.some Jvm.ClassFile.FieldType.byte)).before args0 about1 = true := code_word (m := ⟨14, 1⟩) (meth := k14m1) (c := k14c1) (by decide +kernel) rfl rfl rfl (by decide +kernel)
def codes1 : List Jvm.Cond := [Jvm.Cond.code x code maxLocals ret, Jvm.Cond.code ({ cls := "com/example/ratebook/ratebook/model/PricedItemEqualsPinLaw", name := "str", desc := "(I)Ljava/lang/String;" } : Jvm.MethodName) method_4_code (5 : Nat) (Option.some (Jvm.ClassFile.FieldType.object "java/lang/String")), Jvm.Cond.code ({ cls := "com/example/ratebook/ratebook/model/PricedItemEqualsPinLaw", name := "len", desc := "(I)I" } : Jvm.MethodName) method_3_code (1 : Nat) (Option.some Jvm.ClassFile.FieldType.int), Jvm.Cond.code ({ cls := "java/lang/String", name := "<init>", desc := "([C)V" } : Jvm.MethodName) jdk_42_method_3_code (2 : Nat) (Option.none : Option Jvm.ClassFile.FieldType), Jvm.Cond.code ({ cls := "java/lang/String", name := "<init>", desc := "([CIILjava/lang/Void;)V" } : Jvm.MethodName) jdk_42_method_149_code (6 : Nat) (Option.none : Option Jvm.ClassFile.FieldType), Jvm.Cond.code ({ cls := "java/lang/Object", name := "<init>", desc := "()V" } : Jvm.MethodName) object_method_1_code (1 : Nat) (Option.none : Option Jvm.ClassFile.FieldType), Jvm.Cond.code ({ cls := "com/example/ratebook/ratebook/model/PricedItemEqualsPinLaw", name := "cat", desc := "(I)Lcom/example/ratebook/ratebook/model/Category;" } : Jvm.MethodName) method_6_code (1 : Nat) (Option.some (Jvm.ClassFile.FieldType.object "com/example/ratebook/ratebook/model/Category")), Jvm.Cond.code ({ cls := "com/example/ratebook/ratebook/model/PricedItem", name := "<init>", desc := "(Lcom/example/ratebook/ratebook/model/Category;Ljava/lang/String;)V" } : Jvm.MethodName) prog_28_method_1_code (3 : Nat) (Option.none : Option Jvm.ClassFile.FieldType), Jvm.Cond.code ({ cls := "java/lang/Record", name := "<init>", desc := "()V" } : Jvm.MethodName) jdk_30_method_1_code (1 : Nat) (Option.none : Option Jvm.ClassFile.FieldType), Jvm.Cond.code ({ cls := "java/util/Objects", name := "requireNonNull", desc := "(Ljava/lang/Object;Ljava/lang/String;)Ljava/lang/Object;" } : Jvm.MethodName) jdk_31_method_11_code (2 : Nat) (Option.some (Jvm.ClassFile.FieldType.object "java/lang/Object")), Jvm.Cond.code ({ cls := "com/example/ratebook/ratebook/model/PricedItem", name := "equals", desc := "(Ljava/lang/Object;)Z" } : Jvm.MethodName) prog_28_method_2_code (3 : Nat) (Option.some Jvm.ClassFile.FieldType.boolean), Jvm.Cond.code ({ cls := "com/example/ratebook/ratebook/model/PricedItemEqualsPinLaw", name := "sameText", desc := "(II)Z" } : Jvm.MethodName) method_5_code (3 : Nat) (Option.some Jvm.ClassFile.FieldType.boolean), Jvm.Cond.code ({ cls := "java/lang/String", name := "equals", desc := "(Ljava/lang/Object;)Z" } : Jvm.MethodName) jdk_42_method_66_code (3 : Nat) (Option.some Jvm.ClassFile.FieldType.boolean), Jvm.Cond.code ({ cls := "java/lang/StringLatin1", name := "equals", desc := "([B[B)Z" } : Jvm.MethodName) jdk_43_method_13_code (3 : Nat) (Option.some Jvm.ClassFile.FieldType.boolean), Jvm.Cond.code ({ cls := "java/lang/StringUTF16", name := "compress", desc := "([CII)[B" } : Jvm.MethodName) jdk_52_method_16_code (6 : Nat) (Option.some (Jvm.ClassFile.FieldType.array Jvm.ClassFile.FieldType.byte)), Jvm.Cond.code ({ cls := "java/lang/StringUTF16", name := "compress", desc := "([CI[BII)I" } : Jvm.MethodName) jdk_52_method_21_code (7 : Nat) (Option.some Jvm.ClassFile.FieldType.int), Jvm.Cond.code ({ cls := "java/lang/StringUTF16", name := "coderFromArrayLen", desc := "([BI)B" } : Jvm.MethodName) jdk_52_method_15_code (2 : Nat) (Option.some Jvm.ClassFile.FieldType.byte)]
set_option maxRecDepth 65536 in
theorem codes_eq : words1.filter isCode = codes1 := rfl
theorem w_codes : ∀ c ∈ words1.filter isCode, c.before args0 about1 = true := by
  rw [codes_eq]
  intro c hc
  simp only [codes1, List.mem_cons, List.not_mem_nil, or_false] at hc
  rcases hc with rfl | rfl | rfl | rfl | rfl | rfl | rfl | rfl | rfl | rfl | rfl | rfl | rfl | rfl | rfl | rfl | rfl
  · exact w_c0
  · exact w_c1
  · exact w_c2
  · exact w_c3
  · exact w_c4
  · exact w_c5
  · exact w_c6
  · exact w_c7
  · exact w_c8
  · exact w_c9
  · exact w_c10
  · exact w_c11
  · exact w_c12
  · exact w_c13
  · exact w_c14
  · exact w_c15
  · exact w_c16
set_option maxRecDepth 65536 in
theorem w_t1 : (words1.take 24).all (fun c => isCode c || c.before args0 about1) = true := by decide +kernel
set_option maxRecDepth 65536 in
theorem w_t2 : ((words1.drop 24).take 24).all (fun c => isCode c || c.before args0 about1) = true := by decide +kernel
set_option maxRecDepth 65536 in
theorem w_t3 : (((words1.drop 24).drop 24).take 24).all (fun c => isCode c || c.before args0 about1) = true := by decide +kernel
set_option maxRecDepth 65536 in
theorem w_t4 : ((((words1.drop 24).drop 24).drop 24).take 24).all (fun c => isCode c || c.before args0 about1) = true := by decide +kernel
set_option maxRecDepth 65536 in
theorem w_t5 : ((((words1.drop 24).drop 24).drop 24).drop 24).all (fun c => isCode c || c.before args0 about1) = true := by decide +kernel
theorem w_tables : (allAtoms (Jvm.Cond.code x code maxLocals ret :: tables_1)).before args0 about1 = true := by
  rw [allAtoms_all]
  show words1.all (fun c => c.before args0 about1) = true
  refine all_split ?_ w_codes
  rw [← List.take_append_drop 24 words1, List.all_append, w_t1, ← List.take_append_drop 24 (words1.drop 24), List.all_append, w_t2, ← List.take_append_drop 24 ((words1.drop 24).drop 24), List.all_append, w_t3, ← List.take_append_drop 24 (((words1.drop 24).drop 24).drop 24), List.all_append, w_t4, w_t5]
  rfl
set_option maxRecDepth 65536 in
theorem w_rest : rest_1_c.before args0 about1 = true := by decide +kernel
set_option maxRecDepth 65536 in
theorem w_case : (Jvm.Cond.and given_1 narrow_1).before args0 about1 = true := by decide +kernel
set_option maxRecDepth 65536 in
theorem w_consts : constsHeld consts_1 about1 := Jvm.Lit.constsHeldB_iff.mp (by decide +kernel)
theorem w_applies : (headSpec (Jvm.Cond.code x code maxLocals ret :: tables_1) room_1).applies x e0.platform about1 = true :=
  (Spec.applies_iff w_frames).mpr ⟨w_running, w_runnable, w_alone, w_named, w_hears, w_ripe, w_room, w_tables⟩
theorem atStart : AtStart classFile x code maxLocals ret World_1 tables_1 room_1 Calls_1 rest_1 Pre_1 launch0 p0 e0 about1 theMethod args0 below0 :=
  ⟨lists_1, trivial, launch0.admits_env _ _ _, launch0.least_env, fairChoices_fair.cas, fairChoices_fair.clock, w_frames, w_args, w_heap, w_applies, ⟨w_consts, trivial⟩, w_rest, w_case⟩
end start1
theorem witness_1 : WitnessClaimed_1 := ⟨start1.p0, start1.e0, start1.about1, start1.theMethod, start1.args0, start1.below0, start1.atStart⟩
end Jvm.Pilot.@@N@@
