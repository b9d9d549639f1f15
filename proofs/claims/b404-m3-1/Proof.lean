import JvmDerived
import JvmDerived.Pilot.@@N@@Statement
import JvmDerived.Pilot.@@N@@Code
set_option linter.unusedVariables false
set_option linter.unusedSimpArgs false
namespace Jvm.RoadKit
open Sem ClassFile Op Lib Jvm.Stand Jvm.Free Jvm.LawKit
section New
variable {p : Program} {l : Launch} {e : Env} {R : Room} {s : State} {m : MethodId} {args : Array Value} {below : List Frame} {meth : Method} {c : Code} {T : State} {locs : List Loc} {cells slots : Nat}
theorem retI (X : Stand p l e R s m args below meth c T locs cells slots) (hx : p.tables.exec = Jvm.exec) {pc : Nat} {Ls : Array Slot} {z : Int32} {rest : List Value} (hret : meth.sig.returnType = some .int) (hd : decode c.code pc = .ok (.ireturn, 1)) {fs : List Frame}
    (hl : ∀ (f : JFrame) (acts : List Action), f.method = m → f.locked = none → f.entered = [] → (doReturn e (T.setTop f) acts (some (.int z))).1 = T.setFrames fs) : Steps p.tables e below (T.setTop (mkF m pc Ls (.int z :: rest))) (T.setFrames fs) := by
  have hm' : T.vm.method? m = some meth := X.method'
  have hn : narrow .int (.int z) = .int z := rfl
  show Steps p.tables e below (T.setTop { method := m, pc := pc, locals := Ls, stack := _ :: rest, locked := none }) _
  jvm_step X.here [X.here.top, hx, hd, hm', hret, hn]
  first | (intro acts; rw [hl _ acts rfl rfl rfl]) | rw [hl _ _ rfl rfl rfl]
  exact Steps.refl _
end New
end Jvm.RoadKit
namespace Jvm.Pilot.@@N@@
open Jvm Jvm.ClassFile Sem Op Lib Jvm.Free Jvm.Stand Jvm.LawKit Jvm.RoadKit Bundle Jvm.Pilot.@@N@@.Jvm.D
abbrev Sp (p : Program) (e : Env) (below : List Frame) (T : State) (f : JFrame) (t : State) : Prop := Steps p.tables e below (T.setTop f) t
theorem wq {Z : State} {a0 : Array Value} (hw : ∀ d ∈ tables_1, d.before a0 Z = true) (i : Nat) {d : Jvm.Cond} (h : tables_1[i]? = some d) : d.before a0 Z = true := hw _ (List.mem_of_getElem? h)
theorem own_sz {Z : State} {n0 : Nat} {h : Heap} (O : Old Z n0 h) : n0 ≤ h.size := O.1 ▸ O.2.1
theorem own_nei {x c : Int32} {n : Int} (h : ¬ x = c) (e : c.toInt = n) : x.toInt ≠ n := fun q => h (Int32.toInt_inj.mp (q.trans e.symm))
theorem own_eq {x c : Int32} {n : Int} (e : c.toInt = n) (h : x.toInt = n) : x = c := Int32.toInt_inj.mp (h.trans e.symm)
theorem own_lti {x c : Int32} {n : Int} (e : c.toInt = n) (h : x.toInt < n) : x < c := by rw [Int32.lt_iff_toInt_lt, e]; exact h
theorem own_nlti {x c : Int32} {n : Int} (e : c.toInt = n) (h : ¬ x.toInt < n) : ¬ (x < c) := by rw [Int32.lt_iff_toInt_lt, e]; exact h
theorem own_eqi {x c : Int32} {n : Int} (h : x = c) (e : c.toInt = n) : x.toInt = n := by rw [h]; exact e
theorem own_fldi {args : Array Value} {s : State} {t : Term} {a : Addr} {C n d : String} {c : Int32} (ev : t.eval args s none [] s = some (.ref a)) (h : (Cond.eq (.field t C n d) (.int c)).value args s none s [] = some true) : Fld s s.heap a C n d (.int c) := by
  apply Fld.start
  cases hf : s.fieldOf? a C n d with
  | none => simp [Cond.value, Term.eval, ev, hf] at h
  | some x => cases x <;> simp [Cond.value, Term.eval, ev, hf] at h ⊢; exact h
theorem own_fldr {args : Array Value} {s : State} {t u : Term} {a b : Addr} {C n d : String} (ev : t.eval args s none [] s = some (.ref a)) (eu : u.eval args s none [] s = some (.ref b)) (h : (Cond.eq (.field t C n d) u).value args s none s [] = some true) : Fld s s.heap a C n d (.ref b) := by
  apply Fld.start
  cases hf : s.fieldOf? a C n d with
  | none => simp [Cond.value, Term.eval, ev, eu, hf] at h
  | some x => cases x <;> simp [Cond.value, Term.eval, ev, eu, hf] at h ⊢; exact h
theorem own_rem {x m : Int32} {M d : Int} (hm : m.toInt = M) (h0 : 0 ≤ M) {y : Int32} (hy : y.toInt = d) (hd : 0 < d) : 0 ≤ ((x &&& m) % y).toInt ∧ ((x &&& m) % y).toInt < d := by
  have a := c_and x m (by rw [hm]; exact h0)
  have b := (c_irem (x &&& m) y d hy).1 a.1
  rw [b]; exact ⟨Int.emod_nonneg _ (by omega), Int.emod_lt_of_pos _ hd⟩
theorem own_ch0 (x : Int32) : ¬ (255 : Int32) < (x &&& (255 : Int32)) := by
  rw [Int32.lt_iff_toInt_lt]
  have a := c_and x (255 : Int32) (by decide)
  have b : (255 : Int32).toInt = 255 := rfl
  omega
theorem own_ch1 (x : Int32) : ¬ (255 : Int32) < ((x &&& (255 : Int32)).toUInt32.toUInt16.toUInt32.toInt32) := by rw [i2c_mask]; exact own_ch0 x
theorem own_ch2 (x : Int32) : ¬ (255 : Int32) < (nar .char ((x &&& (255 : Int32)).toUInt32.toUInt16.toUInt32.toInt32)) := by
  show ¬ (255 : Int32) < (((x &&& (255 : Int32)).toUInt32.toUInt16.toUInt32.toInt32).toUInt32.toUInt16.toUInt32.toInt32)
  rw [i2c_mask, i2c_mask]; exact own_ch0 x
theorem own_ch3 (x : Int32) : ¬ (255 : Int32) < (nar .char (x &&& (255 : Int32))) := own_ch1 x
theorem own_and {x m : Int32} {M : Int} (hm : m.toInt = M) (h0 : 0 ≤ M) : 0 ≤ (x &&& m).toInt ∧ (x &&& m).toInt < M + 1 := by
  have a := c_and x m (by rw [hm]; exact h0)
  rw [hm] at a; omega
theorem own_notsub {Z : State} {a0 : Array Value} {C K O : String} {n m : Nat} (w : (Jvm.Cond.superclass C O).before a0 Z = true) (wo : (Jvm.Cond.noSuperclass O).before a0 Z = true) (wc : (Jvm.Cond.instantiable C m).before a0 Z = true) (wk : (Jvm.Cond.instantiable K n).before a0 Z = true) (h1 : C ≠ K) (h2 : O ≠ K) : ∃ c t, Z.vm.findClass C = some c ∧ Z.vm.findClass K = some t ∧ Z.vm.assignable c t = false := by
  obtain ⟨t, kt, g1, g2, g3, g4, -⟩ := Cond.instantiable_spec wk
  obtain ⟨c, kc, c1, c2, c3, -⟩ := Cond.instantiable_spec wc
  obtain ⟨o, ko, o1, o2, o3, -, -⟩ := Cond.noSuperclass_spec wo
  obtain ⟨p, k, kp, s1, s2, s3, s4, -⟩ := Cond.superclass_spec c1 w
  cases o1.symm.trans s1
  cases c2.symm.trans s2
  have ne1 := ids_ne c1 g1 h1
  have ne2 := ids_ne o1 g1 h2
  have g4' : kt.isInterface = false := by simpa using (Bool.or_eq_false_iff.mp g4).1
  have sub : ∀ fuel, Z.vm.isSubclassAux fuel c t = false := fun fuel => by
    cases fuel with
    | zero => rfl
    | succ f =>
      cases f with
      | zero => simp [Vm.isSubclassAux, ne1, c2, s4]
      | succ f => simp [Vm.isSubclassAux, ne1, ne2, c2, s4, o2, o3]
  refine ⟨c, t, c1, g1, ?_⟩
  show Z.vm.assignableAux (255 + 1) c t = false
  simp [Vm.assignableAux, ne1, c2, g2, c3, g3, g4', Vm.isSubclass, sub]
def mkN (l : Int32) : Int32 := if l = 0 then 0 else if l = 1 then 1 else 2
def mkB (c : Int32) : Int32 := nar .byte ((nar .char c).toInt8.toInt32)
def mkV (l c d : Int32) : List Value := if l = 0 then [] else if l = 1 then [.int (mkB c)] else [.int (mkB c), .int (mkB d)]
def mkE (l c d l' c' d' : Int32) : Int32 := if mkN l = mkN l' ∧ mkV l c d = mkV l' c' d' then 1 else 0
theorem own_mkE {l c d l' c' d' : Int32} (hl : 0 ≤ l.toInt ∧ l.toInt < 3) (hl' : 0 ≤ l'.toInt ∧ l'.toInt < 3) : mkE l c d l' c' d' = if l = l' ∧ (l < 1 ∨ mkB c = mkB c') ∧ (l < 2 ∨ mkB d = mkB d') then 1 else 0 := by
  have q : ∀ x : Int32, 0 ≤ x.toInt ∧ x.toInt < 3 → x = 0 ∨ x = 1 ∨ x = 2 := fun x hx => by
    have h : x.toInt = 0 ∨ x.toInt = 1 ∨ x.toInt = 2 := by omega
    rcases h with h | h | h
    · exact Or.inl (Int32.toInt_inj.mp h)
    · exact Or.inr (Or.inl (Int32.toInt_inj.mp h))
    · exact Or.inr (Or.inr (Int32.toInt_inj.mp h))
  rcases q l hl with rfl | rfl | rfl <;> rcases q l' hl' with rfl | rfl | rfl <;> simp [mkE, mkN, mkV]
theorem own_mkB {x y : Int32} : mkB ((x &&& (255 : Int32)).toUInt32.toUInt16.toUInt32.toInt32) = mkB ((y &&& (255 : Int32)).toUInt32.toUInt16.toUInt32.toInt32) ↔ ((x &&& (255 : Int32)).toUInt32.toUInt16.toUInt32.toInt32) = ((y &&& (255 : Int32)).toUInt32.toUInt16.toUInt32.toInt32) := by
  constructor
  · intro h
    have e : ∀ z : Int32, mkB ((z &&& (255 : Int32)).toUInt32.toUInt16.toUInt32.toInt32) = (z &&& (255 : Int32)).toInt8.toInt32 := fun z => by
      show ((((z &&& (255 : Int32)).toUInt32.toUInt16.toUInt32.toInt32).toUInt32.toUInt16.toUInt32.toInt32).toInt8.toInt32).toInt8.toInt32 = _
      rw [i2c_mask, i2c_mask]; simp
    rw [e, e] at h
    rw [i2c_mask, i2c_mask]
    apply Int32.toInt_inj.mp
    have a := c_i2b (x &&& (255 : Int32)); have b := c_i2b (y &&& (255 : Int32)); rw [h] at a
    have c := c_and x (255 : Int32) (by decide); have d := c_and y (255 : Int32) (by decide)
    have f : (255 : Int32).toInt = 255 := rfl
    omega
  · intro h; rw [h]
theorem own_lt12 {x : Int32} (h : x < (1 : Int32)) : x < (2 : Int32) := by
  rw [Int32.lt_iff_toInt_lt] at h ⊢
  have a : (1 : Int32).toInt = 1 := rfl
  have b : (2 : Int32).toInt = 2 := rfl
  omega
theorem own_wS {Z : State} {a0 : Array Value} (hw : ∀ d ∈ tables_1, d.before a0 Z = true) : ∀ a ∈ Bundle.stringAtoms, a.before a0 Z = true := by
  intro d hd
  simp only [Bundle.stringAtoms, List.mem_cons, List.not_mem_nil, or_false] at hd
  rcases hd with rfl | rfl | rfl | rfl | rfl | rfl | rfl
  · exact (wq hw 6 rfl)
  · exact (wq hw 5 rfl)
  · exact (wq hw 23 rfl)
  · exact (wq hw 33 rfl)
  · exact (wq hw 31 rfl)
  · exact (wq hw 56 rfl)
  · exact (wq hw 57 rfl)
def own_EL : List (String × Nat) := [("java/lang/String", 7)]
theorem own_EW {Z : State} {a0 : Array Value} (hw : ∀ d ∈ tables_1, d.before a0 Z = true) : EW Z a0 own_EL := (EW.cons (wq hw 55 rfl) (by decide) EW.nil)
theorem own_backC {p : Program} {l : Launch} {e : Env} {R : Room} {s : State} {args : Array Value} {below : List Frame} {Z : State} {a0 : Array Value} {h : Heap} {vm0 : Vm} {EL : List (String × Nat)} {y : MethodName} {bytes : ByteArray} {maxL : Nat} {ret : Option FieldType} {rm : Room} {len W : Nat} {as' : Array Value} {Q : Option Value → Heap → List Loc → Prop} {SL : List Addr}
    (hM : MetFree l y (head1 [Jvm.Cond.code y bytes maxL ret] rm) (fun a U => a = as' ∧ Z.Warmed39 U.vm ∧ U.heap = h ∧ CHv Z EL U.vm h ∧ ∀ x ∈ SL, Safe Z EL U.vm h x) (fun _ _ _ _ _ => True) (fun _ U o U' => ∃ v L, o = .returned v ∧ Q v U'.heap L ∧ CHr Z EL U.vm U.heap U'.vm U'.heap ∧ ReturnedEndW U o U' L rm.cells rm.slots))
    (hZ : Z.Warmed39 (s.setVm vm0).vm) (wc : (Jvm.Cond.code y bytes maxL ret).before a0 Z = true) (wz : (Jvm.Cond.initialized y.cls).before a0 Z = true) (hf : rm.frames + 1 ≤ R.frames) (hl : W + (maxL + 11) + rm.locals ≤ R.locals) (hEL : EW Z a0 EL) (H : CHv Z EL vm0 h) (hs : ∀ x ∈ SL, x < h.size ∧ Safe Z EL vm0 h x) :
    BackS l R p e below (s.setVm vm0) args y len W (fun A a => a = as' ∧ A.U.heap = h ∧ A.cells + rm.cells ≤ R.cells ∧ A.slots + rm.slots ≤ R.slots)
      (fun A _ v B => ∃ L, Q v B.U.heap L ∧ B.locs = A.locs ++ L ∧ B.cells = A.cells + rm.cells ∧ B.slots = A.slots + rm.slots ∧ CHr Z EL vm0 h B.U.vm B.U.heap) :=
  BackS.of_freeW (bytes := bytes) (maxL := maxL) (ret := ret) (E := fun _ first o t L k n => k = rm.cells ∧ n = rm.slots ∧ (∃ v, o = .returned v ∧ Q v t.heap L) ∧ CHr Z EL first.vm first.heap t.vm t.heap) hM hf hl
    (fun m meth c A a Y hp => have hU : Z.Warmed39 A.U.vm := wtrans (s := s.setVm vm0) hZ Y.warmed
      ⟨by show (Jvm.Cond.and _ .tt).before a A.U = true; rw [Cond.before_and, mv hU wc]; rfl, mv hU wc, mv hU wz, hp.2.2.1, hp.2.2.2⟩)
    (fun m meth c A a g mk Y hp => ⟨hp.1, wtrans (s := s.setVm vm0) hZ Y.warmed, hp.2.1, (CHv.at Y hZ hEL H).1, fun x hx => (CHv.at Y hZ hEL H).safe (hs x hx).1 (hs x hx).2⟩) (fun _ _ _ _ _ _ _ _ _ => trivial)
    (fun _ _ _ _ ⟨v, L, h1, h2, h3, h4⟩ => ⟨L, _, _, h4, rfl, rfl, ⟨v, h1, h2⟩, h3⟩)
    (fun m meth c A a g mk v t L k n Y hp _ _ ⟨e1, e2, ⟨v', e3, e4⟩, e5⟩ => by
      cases e3; subst e1 e2
      refine ⟨L, e4, rfl, rfl, rfl, (CHv.at Y hZ hEL H).trans ?_⟩
      rw [← hp.2.1]; exact e5)
def Perm (Z : State) (cs_v : Int32) : Prop := Sta Z Z.heap "java/lang/String" "COMPACT_STRINGS" "Z" (.int cs_v) ∧ ¬ (cs_v = (0 : Int32))
abbrev fx0 (x0 : Int32) : Int32 := ((x0 &&& (3 : Int32)) % (3 : Int32))
abbrev fx1 (x0 : Int32) : Int32 := ((x0.toUInt32 >>> ((2 : Int32) &&& 31).toUInt32).toInt32)
abbrev fx2 (x0 : Int32) : Int32 := ((((x0.toUInt32 >>> ((2 : Int32) &&& 31).toUInt32).toInt32) &&& (255 : Int32)).toUInt32.toUInt16.toUInt32.toInt32)
abbrev fx3 (x0 : Int32) : Int32 := ((x0.toUInt32 >>> ((10 : Int32) &&& 31).toUInt32).toInt32)
abbrev fx4 (x0 : Int32) : Int32 := ((((x0.toUInt32 >>> ((10 : Int32) &&& 31).toUInt32).toInt32) &&& (255 : Int32)).toUInt32.toUInt16.toUInt32.toInt32)
abbrev fx5 (x0 : Int32) : Int32 := ((x0.toUInt32 >>> ((3 : Int32) &&& 31).toUInt32).toInt32)
def Cut_0_28 (p0 : Int32) (p1 : Int32) (p2 : Int32) (p3 : Int32) (p4 : Int32) (i5 : Int32) (i6 : Int32) (i7 : Int32) (z8 z9 : Int32) : Prop := ∀ {p : Program} {l : Launch} {e : Env} {R : Room} {s : State} {m : MethodId} {args : Array Value} {below : List Frame} {meth : Method} {c : Code} {s₁ : State} {locs : List Loc} {cells slots : Nat} {Z : State} {a0 : Array Value} (X0 : Stand p l e R s m args below meth c s₁ locs cells slots) (hx : p.tables.exec = Jvm.exec) (hZ : Z.Warmed39 s.vm) (hw : ∀ d ∈ tables_1, d.before a0 Z = true) (hby : c.code = code) (hown : s.vm.findClass "com/example/epcrtools/epcrtools/exchange/RuleSetKeyEqualsPinLaw" = some m.cls), ∀ target, Steps p.tables e below (s₁.setTop (mkF m 56 #[.val (.int p0), .val (.int p1), .val (.int p2), .val (.int p3), .val (.int p4), .val (.int i5), .val (.int i6), .val (.int i7), .val (.int z8), .val (.int z9), .unset, .unset, .unset, .unset, .unset, .unset, .unset, .unset, .unset, .unset, .unset] [])) target → Steps p.tables e below (s₁.setTop (mkF m 28 #[.val (.int p0), .val (.int p1), .val (.int p2), .val (.int p3), .val (.int p4), .val (.int i5), .val (.int i6), .val (.int i7), .unset, .unset, .unset, .unset, .unset, .unset, .unset, .unset, .unset, .unset, .unset, .unset, .unset] [])) target
set_option maxRecDepth 65536 in
set_option maxHeartbeats 40000000 in
theorem cut_0_28 (p0 : Int32) (p1 : Int32) (p2 : Int32) (p3 : Int32) (p4 : Int32) (i5 : Int32) (i6 : Int32) (i7 : Int32) : ∃ (z8 z9 : Int32), Cut_0_28 p0 p1 p2 p3 p4 i5 i6 i7 z8 z9 := by
  by_cases d0 : (((p4.toUInt32 >>> ((3 : Int32) &&& 31).toUInt32).toInt32) &&& (1 : Int32)) = (0 : Int32)
  · skip
    have hc1 := d0
    refine ⟨(0 : Int32), p3, ?_⟩
    intro p l e R s m args below meth c s₁ locs cells slots Z a0 X0 hx hZ hw hby hown target kt
    show Sp p e below s₁ (mkF m 28 #[.val (.int p0), .val (.int p1), .val (.int p2), .val (.int p3), .val (.int p4), .val (.int i5), .val (.int i6), .val (.int i7), .unset, .unset, .unset, .unset, .unset, .unset, .unset, .unset, .unset, .unset, .unset, .unset, .unset] []) _
    refine XS.iload X0.here hx rfl (hb hby at_28) rfl ?_
    refine XS.iconst X0.here hx rfl (hb hby at_30) ?_
    refine XS.iushr X0.here hx rfl (hb hby at_31) rfl ?_
    refine XS.iconst X0.here hx rfl (hb hby at_32) ?_
    show Sp p e below s₁ (mkF m 33 #[.val (.int p0), .val (.int p1), .val (.int p2), .val (.int p3), .val (.int p4), .val (.int i5), .val (.int i6), .val (.int i7), .unset, .unset, .unset, .unset, .unset, .unset, .unset, .unset, .unset, .unset, .unset, .unset, .unset] [(.int (1 : Int32)), (.int (fx5 p4))]) _
    refine XS.iand X0.here hx rfl (hb hby at_33) rfl ?_
    refine XS.ifYes X0.here hx rfl (pc0 := 34) (pc' := 41) rfl (hb hby at_34) rfl ((if0 _ _).trans (teq hc1).1) (by decide) (by decide) ?_
    refine XS.iconst X0.here hx rfl (hb hby at_41) ?_
    refine XS.istore X0.here hx rfl (hb hby at_42) rfl (l' := #[.val (.int p0), .val (.int p1), .val (.int p2), .val (.int p3), .val (.int p4), .val (.int i5), .val (.int i6), .val (.int i7), .val (.int (0 : Int32)), .unset, .unset, .unset, .unset, .unset, .unset, .unset, .unset, .unset, .unset, .unset, .unset]) rfl ?_
    show Sp p e below s₁ (mkF m 44 #[.val (.int p0), .val (.int p1), .val (.int p2), .val (.int p3), .val (.int p4), .val (.int i5), .val (.int i6), .val (.int i7), .val (.int (0 : Int32)), .unset, .unset, .unset, .unset, .unset, .unset, .unset, .unset, .unset, .unset, .unset, .unset] []) _
    refine XS.iload X0.here hx rfl (hb hby at_44) rfl ?_
    refine XS.ifYes X0.here hx rfl (pc0 := 46) (pc' := 53) rfl (hb hby at_46) rfl ((if0 _ _).trans (teq (by decide : (0 : Int32) = (0 : Int32))).1) (by decide) (by decide) ?_
    refine XS.iloadN X0.here hx rfl (hb hby at_53) rfl ?_
    refine XS.istore X0.here hx rfl (hb hby at_54) rfl (l' := #[.val (.int p0), .val (.int p1), .val (.int p2), .val (.int p3), .val (.int p4), .val (.int i5), .val (.int i6), .val (.int i7), .val (.int (0 : Int32)), .val (.int p3), .unset, .unset, .unset, .unset, .unset, .unset, .unset, .unset, .unset, .unset, .unset]) rfl ?_
    exact kt
  · skip
    have hc1 := d0
    refine ⟨(1 : Int32), p2, ?_⟩
    intro p l e R s m args below meth c s₁ locs cells slots Z a0 X0 hx hZ hw hby hown target kt
    show Sp p e below s₁ (mkF m 28 #[.val (.int p0), .val (.int p1), .val (.int p2), .val (.int p3), .val (.int p4), .val (.int i5), .val (.int i6), .val (.int i7), .unset, .unset, .unset, .unset, .unset, .unset, .unset, .unset, .unset, .unset, .unset, .unset, .unset] []) _
    refine XS.iload X0.here hx rfl (hb hby at_28) rfl ?_
    refine XS.iconst X0.here hx rfl (hb hby at_30) ?_
    refine XS.iushr X0.here hx rfl (hb hby at_31) rfl ?_
    refine XS.iconst X0.here hx rfl (hb hby at_32) ?_
    show Sp p e below s₁ (mkF m 33 #[.val (.int p0), .val (.int p1), .val (.int p2), .val (.int p3), .val (.int p4), .val (.int i5), .val (.int i6), .val (.int i7), .unset, .unset, .unset, .unset, .unset, .unset, .unset, .unset, .unset, .unset, .unset, .unset, .unset] [(.int (1 : Int32)), (.int (fx5 p4))]) _
    refine XS.iand X0.here hx rfl (hb hby at_33) rfl ?_
    refine XS.ifNo X0.here hx rfl (hb hby at_34) rfl ((if0 _ _).trans (feq hc1).1) ?_
    refine XS.iconst X0.here hx rfl (hb hby at_37) ?_
    refine XS.goto X0.here hx rfl (pc0 := 38) (pc' := 42) rfl (hb hby at_38) (by decide) (by decide) ?_
    show Sp p e below s₁ (mkF m 42 #[.val (.int p0), .val (.int p1), .val (.int p2), .val (.int p3), .val (.int p4), .val (.int i5), .val (.int i6), .val (.int i7), .unset, .unset, .unset, .unset, .unset, .unset, .unset, .unset, .unset, .unset, .unset, .unset, .unset] [(.int (1 : Int32))]) _
    refine XS.istore X0.here hx rfl (hb hby at_42) rfl (l' := #[.val (.int p0), .val (.int p1), .val (.int p2), .val (.int p3), .val (.int p4), .val (.int i5), .val (.int i6), .val (.int i7), .val (.int (1 : Int32)), .unset, .unset, .unset, .unset, .unset, .unset, .unset, .unset, .unset, .unset, .unset, .unset]) rfl ?_
    refine XS.iload X0.here hx rfl (hb hby at_44) rfl ?_
    refine XS.ifNo X0.here hx rfl (hb hby at_46) rfl ((if0 _ _).trans (feq (by decide : ¬ ((1 : Int32) = (0 : Int32)))).1) ?_
    refine XS.iloadN X0.here hx rfl (hb hby at_49) rfl ?_
    show Sp p e below s₁ (mkF m 50 #[.val (.int p0), .val (.int p1), .val (.int p2), .val (.int p3), .val (.int p4), .val (.int i5), .val (.int i6), .val (.int i7), .val (.int (1 : Int32)), .unset, .unset, .unset, .unset, .unset, .unset, .unset, .unset, .unset, .unset, .unset, .unset] [(.int p2)]) _
    refine XS.goto X0.here hx rfl (pc0 := 50) (pc' := 54) rfl (hb hby at_50) (by decide) (by decide) ?_
    refine XS.istore X0.here hx rfl (hb hby at_54) rfl (l' := #[.val (.int p0), .val (.int p1), .val (.int p2), .val (.int p3), .val (.int p4), .val (.int i5), .val (.int i6), .val (.int i7), .val (.int (1 : Int32)), .val (.int p2), .unset, .unset, .unset, .unset, .unset, .unset, .unset, .unset, .unset, .unset, .unset]) rfl ?_
    exact kt
theorem d1_0 : decode method_2_code 0 = .ok (.iload_n 0, 1) := by decide +kernel
theorem d1_1 : decode method_2_code 1 = .ok (.ifCond .ne 14, 3) := by decide +kernel
theorem d1_4 : decode method_2_code 4 = .ok (.new 7, 3) := by decide +kernel
theorem d1_7 : decode method_2_code 7 = .ok (.dup, 1) := by decide +kernel
theorem d1_8 : decode method_2_code 8 = .ok (.iconst 0, 1) := by decide +kernel
theorem d1_9 : decode method_2_code 9 = .ok (.newarray .char, 2) := by decide +kernel
theorem d1_11 : decode method_2_code 11 = .ok (.invokespecial 9, 3) := by decide +kernel
theorem d2_0 : decode jdk_42_method_3_code 0 = .ok (.aload_n 0, 1) := by decide +kernel
theorem d2_1 : decode jdk_42_method_3_code 1 = .ok (.aload_n 1, 1) := by decide +kernel
theorem d2_2 : decode jdk_42_method_3_code 2 = .ok (.iconst 0, 1) := by decide +kernel
theorem d2_3 : decode jdk_42_method_3_code 3 = .ok (.aload_n 1, 1) := by decide +kernel
theorem d2_4 : decode jdk_42_method_3_code 4 = .ok (.arraylength, 1) := by decide +kernel
theorem d2_5 : decode jdk_42_method_3_code 5 = .ok (.aconst_null, 1) := by decide +kernel
theorem d2_6 : decode jdk_42_method_3_code 6 = .ok (.invokespecial 27, 3) := by decide +kernel
theorem d3_0 : decode jdk_42_method_149_code 0 = .ok (.aload_n 0, 1) := by decide +kernel
theorem d3_1 : decode jdk_42_method_149_code 1 = .ok (.invokespecial 1, 3) := by decide +kernel
theorem d3_4 : decode jdk_42_method_149_code 4 = .ok (.iload_n 3, 1) := by decide +kernel
theorem d3_5 : decode jdk_42_method_149_code 5 = .ok (.ifCond .ne 22, 3) := by decide +kernel
theorem d3_8 : decode jdk_42_method_149_code 8 = .ok (.aload_n 0, 1) := by decide +kernel
theorem d3_9 : decode jdk_42_method_149_code 9 = .ok (.ldc 7, 2) := by decide +kernel
theorem d3_11 : decode jdk_42_method_149_code 11 = .ok (.getfield 9, 3) := by decide +kernel
theorem d3_14 : decode jdk_42_method_149_code 14 = .ok (.putfield 9, 3) := by decide +kernel
theorem d3_17 : decode jdk_42_method_149_code 17 = .ok (.aload_n 0, 1) := by decide +kernel
theorem d3_18 : decode jdk_42_method_149_code 18 = .ok (.ldc 7, 2) := by decide +kernel
theorem d3_20 : decode jdk_42_method_149_code 20 = .ok (.getfield 15, 3) := by decide +kernel
theorem d3_23 : decode jdk_42_method_149_code 23 = .ok (.putfield 15, 3) := by decide +kernel
theorem sn0 {Z : State} {a0 : Array Value} (hw : ∀ d ∈ tables_1, d.before a0 Z = true) : Jvm.RoadKit.slotOf Z "java/lang/String" "coder" "B" ≠ Jvm.RoadKit.slotOf Z "java/lang/String" "value" "[B" := slot_ne (Or.inr (wq hw 31 rfl)) (Or.inr (wq hw 33 rfl)) (by decide) (t := .byte) (t' := (.array .byte)) (by decide) (by decide)
theorem d3_26 : decode jdk_42_method_149_code 26 = .ok (.return_, 1) := by decide +kernel
theorem sn1 {Z : State} {a0 : Array Value} (hw : ∀ d ∈ tables_1, d.before a0 Z = true) : Jvm.RoadKit.slotOf Z "java/lang/String" "value" "[B" ≠ Jvm.RoadKit.slotOf Z "java/lang/String" "coder" "B" := slot_ne (Or.inr (wq hw 33 rfl)) (Or.inr (wq hw 31 rfl)) (by decide) (t := (.array .byte)) (t' := .byte) (by decide) (by decide)
abbrev y0 : MethodName := (⟨"java/lang/String", "<init>", "([CIILjava/lang/Void;)V"⟩ : MethodName)
theorem ef_3_0 (m : MethodId) (x0 : Addr) (x1 : Addr) (x2 : Int32) (x3 : Int32) : entryFrame m #[(.ref x0), (.ref x1), (.int x2), (.int x3), .null] 6 = mkF m 0 #[.val (.ref x0), .val (.ref x1), .val (.int x2), .val (.int x3), .val .null, .unset] [] := by first | (simp [entryFrame, mkF, argsToLocals, Value.category]; done) | rfl
theorem pn_3 : plainName "java/lang/String" = true := by first | (simp [plainName, overriddenIn]; done) | decide +kernel
def Q1 (Z : State) (cs_v : Int32) (a1 : Addr) (a2 : Addr) (h0 : Heap) (n0 : Nat) (v : Option Value) (h : Heap) (L : List Loc) : Prop := ∃ (lb2 : Addr), ∃ (kb2 : ClassId), v = none ∧ Fr n0 L ∧ Keep h0 h [a1] ∧ Exa Z h a1 "java/lang/String" ∧ Fld Z h a1 "java/lang/String" "coder" "B" (.int (0 : Int32)) ∧ Fld Z h a1 "java/lang/String" "value" "[B" (.ref lb2) ∧ Arv Z h lb2 kb2 .byte (0 : Int32) [] (.int (0 : Int32))
set_option maxRecDepth 65536 in
set_option maxHeartbeats 40000000 in
theorem rm1 (l : Launch) (Z : State) (a0 : Array Value) (hw : ∀ d ∈ tables_1, d.before a0 Z = true) (ws : List Jvm.Cond) (cs_v : Int32) (hp : Perm Z cs_v) (a1 : Addr) (a2 : Addr) (h0 : Heap) (n0 : Nat) (O0 : Old Z n0 h0) (E_a1 : Exa Z h0 a1 "java/lang/String") (F_coder_a1 : Fld Z h0 a1 "java/lang/String" "coder" "B" (.int (0 : Int32))) (F_value_a1 : Fld Z h0 a1 "java/lang/String" "value" "[B" .null) (g_a1 : n0 ≤ a1) :
    MetFree l y0 (head1 (Jvm.Cond.code y0 jdk_42_method_149_code 6 none :: ws) ({ frames := 1, cells := 2, slots := 4, locals := 12 } : Room)) (fun a U => a = #[(.ref a1), (.ref a2), (.int (0 : Int32)), (.int (0 : Int32)), .null] ∧ Z.Warmed39 U.vm ∧ U.heap = h0 ∧ CHv Z own_EL U.vm h0 ∧ ∀ x ∈ [a1], Safe Z own_EL U.vm h0 x) (fun _ _ _ _ _ => True) (fun _ U o U' => ∃ v L, o = .returned v ∧ Q1 Z cs_v a1 a2 h0 n0 v U'.heap L ∧ CHr Z own_EL U.vm U.heap U'.vm U'.heap ∧ ReturnedEndW U o U' L ({ frames := 1, cells := 2, slots := 4, locals := 12 } : Room).cells ({ frames := 1, cells := 2, slots := 4, locals := 12 } : Room).slots) := by
  refine MetFree.of_bodySF (plainFor_of_name pn_3) hisR ?_
  intro p e s m args below meth c s₁ Bd hml0 hP hK
  obtain ⟨rfl, hZo, hh, hCH, hSL⟩ := hP
  have hx := Bd.exec
  have hby := Bd.bytes
  have hml : c.maxLocals = 6 := hml0
  have hown : (s.setVm s.vm).vm.findClass "java/lang/String" = some m.cls := findClass_of_methodNamed Bd.named
  have hnm := (name_of_methodNamed Bd.named Bd.method).1
  have X0 : Stand p l e ({ frames := 1, cells := 2, slots := 4, locals := 12 } : Room) (s.setVm s.vm) m #[(.ref a1), (.ref a2), (.int (0 : Int32)), (.int (0 : Int32)), .null] below meth c s₁ [] 0 0 := Stand.of_body Bd
  have e0 : s₁.heap = h0 := by rw [← hh, Bd.state]; rfl
  have N0 := Fr.nil n0
  have hZ : Z.Warmed39 (s.setVm s.vm).vm := hZo
  have CH0 := CHr.refl hCH
  have hS0 : s.Since s.vm 0 := (State.WarmedH.refl s).since 0
  have hk0 : 0 ≤ h0.size := Nat.zero_le _
  have hp' := hp
  obtain ⟨S_COMPACT_STRINGS, h_cs⟩ := hp'
  have pre0 : ∀ t, Steps p.tables e below (s₁.setTop (mkF m 0 #[.val (.ref a1), .val (.ref a2), .val (.int (0 : Int32)), .val (.int (0 : Int32)), .val .null, .unset] [])) t → Steps p.tables e below (s₁.setTop (entryFrame m #[(.ref a1), (.ref a2), (.int (0 : Int32)), (.int (0 : Int32)), .null] 6)) t := fun t k => castTop (ef_3_0 m a1 a2 (0 : Int32) (0 : Int32)) k
  obtain ⟨T1, X1, e1, st1⟩ := initO X0 hx hZ hown (wq hw 15 rfl) (wq hw 16 rfl) (wq hw 17 rfl) e0 (g := (mkF m 1 #[.val (.ref a1), .val (.ref a2), .val (.int (0 : Int32)), .val (.int (0 : Int32)), .val .null, .unset] [(.ref a1)])) rfl (by rw [hml]; rfl) rfl (hb hby d3_1) (by decide) (W := 0) (by show 2 * 0 + _ ≤ _; exact Nat.le_of_eq rfl) (by decide)
  obtain ⟨li2, T2, h2, k2, lb2, kb2, X2, e2, E2, hS2, hk2, hZ2, hown2, Ea2, Ca2, Va2, Ba2, -, -, C2, L2, Sf2, st2⟩ := ldcCH X1 hx hZ hown (wq hw 55 rfl) (own_wS hw) e1 hS0 hk0 (own_EW hw) (by decide) CH0.1 (vs := []) (z := (0 : Int32)) ⟨by decide, rfl⟩ (by decide) rfl (g := (mkF m 9 #[.val (.ref a1), .val (.ref a2), .val (.int (0 : Int32)), .val (.int (0 : Int32)), .val .null, .unset] [(.ref a1)])) rfl (hb hby d3_9) (n := 0) (by decide) (by decide) (by decide) (by decide)
  have CH2 := CH0.trans C2
  have O2 := O0.ext E2
  have K2 : Keep h0 h2 [a1] := (Keep.refl h0 [a1]).ext E2
  obtain ⟨T3, X3, e3, st3⟩ := getF X2 hx hZ2 hown2 (host := "") (Or.inl (wq hw 32 rfl)) Via.refl e2 Va2 (g := (mkF m 11 #[.val (.ref a1), .val (.ref a2), .val (.int (0 : Int32)), .val (.int (0 : Int32)), .val .null, .unset] [(.ref li2), (.ref a1)])) rfl rfl (hb hby d3_11)
  obtain ⟨T4, h4, X4, e4, W4, st4⟩ := putF X3 hx hZ2 hown2 (host := "") (Or.inl (wq hw 32 rfl)) Via.refl e3 (F_value_a1.ext E2) (E_a1.ext E2) (Or.inr ⟨(wq hw 33 rfl), rfl, hnm⟩) (wq hw 5 rfl) (ty := (.array .byte)) (by decide) rfl rfl (g := (mkF m 14 #[.val (.ref a1), .val (.ref a2), .val (.int (0 : Int32)), .val (.int (0 : Int32)), .val .null, .unset] [(.ref lb2), (.ref a1)])) rfl rfl (hb hby d3_14)
  have sf_5 := (C2.safe E_a1.lt (hSL a1 (List.mem_of_getElem? (i := 0) rfl)))
  have N4 := Fr.snoc X4 N0 g_a1
  have O4 := O2.wr W4 g_a1
  have K4 : Keep h0 h4 [a1] := K2.wr W4 (Or.inl (List.mem_of_getElem? (i := 0) rfl))
  have CH4 := CH2.trans (CHr.wr W4 sf_5 CH2.1)
  have hk4 := Nat.le_trans hk2 (Keep.of_wr W4).1
  have Fw4 := (F_value_a1.ext E2).same W4
  obtain ⟨T6, X6, e6, st6⟩ := getF X4 hx hZ2 hown2 (host := "") (Or.inl (wq hw 30 rfl)) Via.refl e4 (Ca2.other W4 (Or.inl (Ne.symm (Sf2 a1 sf_5).1))) (g := (mkF m 20 #[.val (.ref a1), .val (.ref a2), .val (.int (0 : Int32)), .val (.int (0 : Int32)), .val .null, .unset] [(.ref li2), (.ref a1)])) rfl rfl (hb hby d3_20)
  obtain ⟨T7, h7, X7, e7, W7, st7⟩ := putFN X6 hx hZ2 hown2 (wq hw 30 rfl) Via.refl e6 ((F_coder_a1.ext E2).other W4 (Or.inr (sn0 hw))) ((E_a1.ext E2).wr W4) (Or.inr ⟨(wq hw 31 rfl), rfl, hnm⟩) (wq hw 5 rfl) (ty := .byte) (v' := (.int (0 : Int32))) (by decide) rfl rfl (g := (mkF m 23 #[.val (.ref a1), .val (.ref a2), .val (.int (0 : Int32)), .val (.int (0 : Int32)), .val .null, .unset] [(.int (0 : Int32)), (.ref a1)])) rfl rfl (hb hby d3_23)
  have sf_8 := (Safe.wr W4 sf_5 CH2.1 sf_5)
  have N7 := Fr.snoc X7 N4 g_a1
  have O7 := O4.wr W7 g_a1
  have K7 : Keep h0 h7 [a1] := K4.wr W7 (Or.inl (List.mem_of_getElem? (i := 0) rfl))
  have CH7 := CH4.trans (CHr.wr W7 sf_8 CH4.1)
  have hk7 := Nat.le_trans hk4 (Keep.of_wr W7).1
  have Fw7 := ((F_coder_a1.ext E2).other W4 (Or.inr (sn0 hw))).same W7
  have f_9 := ((Ba2.other W4 (Ne.symm (Sf2 a1 sf_5).2)).other W7 (Ne.symm (Sf2 a1 sf_5).2))
  obtain ⟨fs, hr, hrun, hended, hE⟩ := Stand.leaveW (s := s) X7 hS2 (by rw [e7]; exact hk7) (v := none) (fun _ => rfl)
  have CHz : CHr Z own_EL s.vm s.heap (T7.setFrames fs).vm (T7.setFrames fs).heap := by
    rw [hh]
    show CHr Z own_EL s.vm h0 T7.vm T7.heap
    rw [e7]; exact CH7.trans (CHv.at X7 hZ2 (own_EW hw) CH7.1)
  refine ⟨_, _, pre0 _ ?_, hrun, hended, _, _, rfl, ?_, CHz, hE.1, hE.2.1, hE.2.2.1, hE.2.2.2.mono (by decide) (by decide)⟩
  · show Sp p e below s₁ (mkF m 0 #[.val (.ref a1), .val (.ref a2), .val (.int (0 : Int32)), .val (.int (0 : Int32)), .val .null, .unset] []) _
    refine XS.aloadN X0.here hx rfl (hb hby d3_0) rfl rfl ?_
    show Sp p e below s₁ (mkF m 1 #[.val (.ref a1), .val (.ref a2), .val (.int (0 : Int32)), .val (.int (0 : Int32)), .val .null, .unset] [(.ref a1)]) _
    refine st1 _ ?_
    show Sp p e below T1 (mkF m 4 #[.val (.ref a1), .val (.ref a2), .val (.int (0 : Int32)), .val (.int (0 : Int32)), .val .null, .unset] []) _
    refine XS.iloadN X1.here hx rfl (hb hby d3_4) rfl ?_
    refine XS.ifNo X1.here hx rfl (hb hby d3_5) rfl ((if0 _ _).trans (teq (by decide : (0 : Int32) = (0 : Int32))).2) ?_
    refine XS.aloadN X1.here hx rfl (hb hby d3_8) rfl rfl ?_
    show Sp p e below T1 (mkF m 9 #[.val (.ref a1), .val (.ref a2), .val (.int (0 : Int32)), .val (.int (0 : Int32)), .val .null, .unset] [(.ref a1)]) _
    refine st2 _ ?_
    show Sp p e below T2 (mkF m 11 #[.val (.ref a1), .val (.ref a2), .val (.int (0 : Int32)), .val (.int (0 : Int32)), .val .null, .unset] [(.ref li2), (.ref a1)]) _
    refine st3 _ ?_
    show Sp p e below T3 (mkF m 14 #[.val (.ref a1), .val (.ref a2), .val (.int (0 : Int32)), .val (.int (0 : Int32)), .val .null, .unset] [(.ref lb2), (.ref a1)]) _
    refine st4 _ ?_
    show Sp p e below T4 (mkF m 17 #[.val (.ref a1), .val (.ref a2), .val (.int (0 : Int32)), .val (.int (0 : Int32)), .val .null, .unset] []) _
    refine XS.aloadN X4.here hx rfl (hb hby d3_17) rfl rfl ?_
    show Sp p e below T4 (mkF m 18 #[.val (.ref a1), .val (.ref a2), .val (.int (0 : Int32)), .val (.int (0 : Int32)), .val .null, .unset] [(.ref a1)]) _
    refine ldcAgain X4 hx hZ2 hown2 (wq hw 55 rfl) L2 (g := (mkF m 18 #[.val (.ref a1), .val (.ref a2), .val (.int (0 : Int32)), .val (.int (0 : Int32)), .val .null, .unset] [(.ref a1)])) rfl (hb hby d3_18) _ ?_
    show Sp p e below T4 (mkF m 20 #[.val (.ref a1), .val (.ref a2), .val (.int (0 : Int32)), .val (.int (0 : Int32)), .val .null, .unset] [(.ref li2), (.ref a1)]) _
    refine st6 _ ?_
    show Sp p e below T6 (mkF m 23 #[.val (.ref a1), .val (.ref a2), .val (.int (0 : Int32)), .val (.int (0 : Int32)), .val .null, .unset] [(.int (0 : Int32)), (.ref a1)]) _
    refine st7 _ ?_
    show Sp p e below T7 (mkF m 26 #[.val (.ref a1), .val (.ref a2), .val (.int (0 : Int32)), .val (.int (0 : Int32)), .val .null, .unset] []) _
    exact X7.returnOut hx Bd.returns (hb hby d3_26) hr
  · show Q1 Z cs_v a1 a2 h0 n0 _ T7.heap _
    rw [e7]
    exact ⟨lb2, kb2, rfl, N7, K7, (((E_a1.ext E2).wr W4).wr W7), Fw7, (Fw4.other W7 (Or.inr (sn1 hw))), f_9⟩
theorem pd_0 : parseMethodDescriptor "([CIILjava/lang/Void;)V" = some ⟨[(.array .char), .int, .int, (.object "java/lang/Void")], none⟩ := by decide +kernel
theorem d2_9 : decode jdk_42_method_3_code 9 = .ok (.return_, 1) := by decide +kernel
abbrev y1 : MethodName := (⟨"java/lang/String", "<init>", "([C)V"⟩ : MethodName)
theorem ef_2_0 (m : MethodId) (x0 : Addr) (x1 : Addr) : entryFrame m #[(.ref x0), (.ref x1)] 2 = mkF m 0 #[.val (.ref x0), .val (.ref x1)] [] := by first | (simp [entryFrame, mkF, argsToLocals, Value.category]; done) | rfl
def Q2 (Z : State) (cs_v : Int32) (a1 : Addr) (a2 : Addr) (k_a2 : ClassId) (h0 : Heap) (n0 : Nat) (v : Option Value) (h : Heap) (L : List Loc) : Prop := ∃ (y2_0 : Addr), ∃ (kc2_0 : ClassId), v = none ∧ Fr n0 L ∧ Keep h0 h [a1] ∧ Exa Z h a1 "java/lang/String" ∧ Fld Z h a1 "java/lang/String" "coder" "B" (.int (0 : Int32)) ∧ Fld Z h a1 "java/lang/String" "value" "[B" (.ref y2_0) ∧ Arv Z h y2_0 kc2_0 .byte (0 : Int32) [] (.int (0 : Int32))
set_option maxRecDepth 65536 in
set_option maxHeartbeats 40000000 in
theorem rm2 (l : Launch) (Z : State) (a0 : Array Value) (hw : ∀ d ∈ tables_1, d.before a0 Z = true) (ws : List Jvm.Cond) (cs_v : Int32) (hp : Perm Z cs_v) (a1 : Addr) (a2 : Addr) (k_a2 : ClassId) (h0 : Heap) (n0 : Nat) (O0 : Old Z n0 h0) (V_a2 : Arv Z h0 a2 k_a2 .char (0 : Int32) [] (.int (0 : Int32))) (E_a1 : Exa Z h0 a1 "java/lang/String") (F_coder_a1 : Fld Z h0 a1 "java/lang/String" "coder" "B" (.int (0 : Int32))) (F_value_a1 : Fld Z h0 a1 "java/lang/String" "value" "[B" .null) (g_a1 : n0 ≤ a1) :
    MetFree l y1 (head1 (Jvm.Cond.code y1 jdk_42_method_3_code 2 none :: ws) ({ frames := 2, cells := 2, slots := 4, locals := 29 } : Room)) (fun a U => a = #[(.ref a1), (.ref a2)] ∧ Z.Warmed39 U.vm ∧ U.heap = h0 ∧ CHv Z own_EL U.vm h0 ∧ ∀ x ∈ [a1], Safe Z own_EL U.vm h0 x) (fun _ _ _ _ _ => True) (fun _ U o U' => ∃ v L, o = .returned v ∧ Q2 Z cs_v a1 a2 k_a2 h0 n0 v U'.heap L ∧ CHr Z own_EL U.vm U.heap U'.vm U'.heap ∧ ReturnedEndW U o U' L ({ frames := 2, cells := 2, slots := 4, locals := 29 } : Room).cells ({ frames := 2, cells := 2, slots := 4, locals := 29 } : Room).slots) := by
  refine MetFree.of_bodySF (plainFor_of_name pn_3) hisR ?_
  intro p e s m args below meth c s₁ Bd hml0 hP hK
  obtain ⟨rfl, hZo, hh, hCH, hSL⟩ := hP
  have hx := Bd.exec
  have hby := Bd.bytes
  have hml : c.maxLocals = 2 := hml0
  have hown : (s.setVm s.vm).vm.findClass "java/lang/String" = some m.cls := findClass_of_methodNamed Bd.named
  have hnm := (name_of_methodNamed Bd.named Bd.method).1
  have X0 : Stand p l e ({ frames := 2, cells := 2, slots := 4, locals := 29 } : Room) (s.setVm s.vm) m #[(.ref a1), (.ref a2)] below meth c s₁ [] 0 0 := Stand.of_body Bd
  have e0 : s₁.heap = h0 := by rw [← hh, Bd.state]; rfl
  have N0 := Fr.nil n0
  have hZ : Z.Warmed39 (s.setVm s.vm).vm := hZo
  have CH0 := CHr.refl hCH
  have hS0 : s.Since s.vm 0 := (State.WarmedH.refl s).since 0
  have hk0 : 0 ≤ h0.size := Nat.zero_le _
  have hp' := hp
  obtain ⟨S_COMPACT_STRINGS, h_cs⟩ := hp'
  have pre0 : ∀ t, Steps p.tables e below (s₁.setTop (mkF m 0 #[.val (.ref a1), .val (.ref a2)] [])) t → Steps p.tables e below (s₁.setTop (entryFrame m #[(.ref a1), (.ref a2)] 2)) t := fun t k => castTop (ef_2_0 m a1 a2) k
  obtain ⟨cl1, Ar1, -, S1, Nn1, -, -⟩ := id V_a2
  have sf_3 := (hSL a1 (List.mem_of_getElem? (i := 0) rfl))
  obtain ⟨_, _, ⟨T2, L2, k2, n2⟩, -, XX2, Sq2, gq2, ⟨Lc2, hQ2, l2, y2, z2, C2⟩, st2⟩ := X0.specialBackS hx (y := y0) rfl hown (mvT hZ (wq hw 11 rfl)) (mvT hZ (wq hw 12 rfl)) (mvT hZ (wq hw 14 rfl)) (by decide) (own_backC (SL := [a1]) (W := 0) (rm1 l Z a0 hw [] cs_v hp a1 a2 h0 n0 O0 E_a1 F_coder_a1 F_value_a1 g_a1) hZ (wq hw 14 rfl) (wq hw 6 rfl) (by decide) (by decide) (own_EW hw) CH0.1 (allS ⟨E_a1.lt, sf_3⟩ all0)) (g := (mkF m 6 #[.val (.ref a1), .val (.ref a2)] [.null, (.int (0 : Int32)), (.int (0 : Int32)), (.ref a2), (.ref a1)])) rfl (by rw [hml]; rfl) (Steps.refl _) (a := a1) (argsL := [(.ref a2), (.int (0 : Int32)), (.int (0 : Int32)), .null]) (rest := []) (lenOf pd_0 rfl) rfl (by show 2 * 0 + _ ≤ _; exact Nat.le_of_eq rfl) (hb hby d2_6) (fun _ _ => ⟨rfl, e0, (by decide : 0 + 2 ≤ _), (by decide : 0 + 4 ≤ _)⟩)
  dsimp only [Pt.U, Pt.locs, Pt.cells, Pt.slots] at XX2 Sq2 gq2 l2 y2 z2 st2 hQ2 C2
  subst l2 y2 z2
  obtain ⟨X2, hS2, hZ2, hown2⟩ := rebS hS0 (by rw [e0]; exact hk0) XX2 Sq2 gq2 hZ hown
  obtain ⟨y2_0, kc2_0, rfl, Nq2, Kq2, fq2_0, fq2_1, fq2_2, fq2_3⟩ := hQ2
  have N2 := Fr.app N0 Nq2
  have CH2 := CH0.trans C2
  have hk2 : T2.heap.size ≤ T2.heap.size := Nat.le_refl _
  have O2 := O0.keep Kq2 (allS g_a1 all0)
  have K2 : Keep h0 T2.heap [a1] := (Keep.refl h0 [a1]).trans Kq2 (allS (Or.inl (List.mem_of_getElem? (i := 0) rfl)) all0)
  obtain ⟨fs, hr, hrun, hended, hE⟩ := Stand.leaveW (s := s) X2 hS2 hk2 (v := none) (fun _ => rfl)
  have CHz : CHr Z own_EL s.vm s.heap (T2.setFrames fs).vm (T2.setFrames fs).heap := by
    rw [hh]
    show CHr Z own_EL s.vm h0 T2.vm T2.heap
    exact CH2.trans (CHv.at X2 hZ2 (own_EW hw) CH2.1)
  refine ⟨_, _, pre0 _ ?_, hrun, hended, _, _, rfl, ?_, CHz, hE.1, hE.2.1, hE.2.2.1, hE.2.2.2.mono (by decide) (by decide)⟩
  · show Sp p e below s₁ (mkF m 0 #[.val (.ref a1), .val (.ref a2)] []) _
    refine XS.aloadN X0.here hx rfl (hb hby d2_0) rfl rfl ?_
    refine XS.aloadN X0.here hx rfl (hb hby d2_1) rfl rfl ?_
    refine XS.iconst X0.here hx rfl (hb hby d2_2) ?_
    refine XS.aloadN X0.here hx rfl (hb hby d2_3) rfl rfl ?_
    show Sp p e below s₁ (mkF m 4 #[.val (.ref a1), .val (.ref a2)] [(.ref a2), (.int (0 : Int32)), (.ref a2), (.ref a1)]) _
    refine X0.arraylength hx (by rw [e0]; exact Ar1.1) (State.isArrayOf_alike hZ.alike Ar1.2.1) (g := (mkF m 4 #[.val (.ref a1), .val (.ref a2)] [(.ref a2), (.int (0 : Int32)), (.ref a2), (.ref a1)])) rfl rfl (hb hby d2_4) _ ?_
    rw [len_of S1 Nn1]
    show Sp p e below s₁ (mkF m 5 #[.val (.ref a1), .val (.ref a2)] [(.int (0 : Int32)), (.int (0 : Int32)), (.ref a2), (.ref a1)]) _
    refine XS.aconstNull X0.here hx rfl (hb hby d2_5) ?_
    show Sp p e below s₁ (mkF m 6 #[.val (.ref a1), .val (.ref a2)] [.null, (.int (0 : Int32)), (.int (0 : Int32)), (.ref a2), (.ref a1)]) _
    refine st2.trans ?_
    show Sp p e below T2 (mkF m 9 #[.val (.ref a1), .val (.ref a2)] []) _
    exact X2.returnOut hx Bd.returns (hb hby d2_9) hr
  · show Q2 Z cs_v a1 a2 k_a2 h0 n0 _ T2.heap _
    exact ⟨y2_0, kc2_0, rfl, N2, K2, fq2_0, fq2_1, fq2_2, fq2_3⟩
theorem pd_1 : parseMethodDescriptor "([C)V" = some ⟨[(.array .char)], none⟩ := by decide +kernel
theorem d1_14 : decode method_2_code 14 = .ok (.areturn, 1) := by decide +kernel
abbrev y2 : MethodName := (⟨"com/example/epcrtools/epcrtools/exchange/RuleSetKeyEqualsPinLaw", "mk", "(ICC)Ljava/lang/String;"⟩ : MethodName)
theorem ef_1_0 (m : MethodId) (x0 : Int32) (x1 : Int32) (x2 : Int32) : entryFrame m #[(.int x0), (.int x1), (.int x2)] 3 = mkF m 0 #[.val (.int x0), .val (.int x1), .val (.int x2)] [] := by first | (simp [entryFrame, mkF, argsToLocals, Value.category]; done) | rfl
theorem pn_1 : plainName "com/example/epcrtools/epcrtools/exchange/RuleSetKeyEqualsPinLaw" = true := by first | (simp [plainName, overriddenIn]; done) | decide +kernel
def Q3 (Z : State) (cs_v : Int32) (p0 : Int32) (p1 : Int32) (p2 : Int32) (h0 : Heap) (n0 : Nat) (v : Option Value) (h : Heap) (L : List Loc) : Prop := ∃ (b1 y3_0 : Addr), ∃ (kc3_0 : ClassId), v = some (.ref b1) ∧ Fr n0 L ∧ Keep h0 h [] ∧ h0.size ≤ b1 ∧ Exa Z h b1 "java/lang/String" ∧ Fld Z h b1 "java/lang/String" "coder" "B" (.int (0 : Int32)) ∧ Fld Z h b1 "java/lang/String" "value" "[B" (.ref y3_0) ∧ Arv Z h y3_0 kc3_0 .byte (0 : Int32) [] (.int (0 : Int32))
set_option maxRecDepth 65536 in
set_option maxHeartbeats 40000000 in
theorem rm3 (l : Launch) (Z : State) (a0 : Array Value) (hw : ∀ d ∈ tables_1, d.before a0 Z = true) (ws : List Jvm.Cond) (cs_v : Int32) (hp : Perm Z cs_v) (p0 : Int32) (p1 : Int32) (p2 : Int32) (h0 : Heap) (n0 : Nat) (O0 : Old Z n0 h0) (hc1 : ¬ ((255 : Int32) < (nar .char p1))) (hc2 : ¬ ((255 : Int32) < (nar .char p2))) (hc3 : p0 = (0 : Int32)) :
    MetFree l y2 (head1 (Jvm.Cond.code y2 method_2_code 3 (some (.object "java/lang/String")) :: ws) ({ frames := 4, cells := 4, slots := 8, locals := 66 } : Room)) (fun a U => a = #[(.int p0), (.int p1), (.int p2)] ∧ Z.Warmed39 U.vm ∧ U.heap = h0 ∧ CHv Z own_EL U.vm h0 ∧ ∀ x ∈ ([] : List Addr), Safe Z own_EL U.vm h0 x) (fun _ _ _ _ _ => True) (fun _ U o U' => ∃ v L, o = .returned v ∧ Q3 Z cs_v p0 p1 p2 h0 n0 v U'.heap L ∧ CHr Z own_EL U.vm U.heap U'.vm U'.heap ∧ ReturnedEndW U o U' L ({ frames := 4, cells := 4, slots := 8, locals := 66 } : Room).cells ({ frames := 4, cells := 4, slots := 8, locals := 66 } : Room).slots) := by
  refine MetFree.of_bodySF (plainFor_of_name pn_1) hisR ?_
  intro p e s m args below meth c s₁ Bd hml0 hP hK
  obtain ⟨rfl, hZo, hh, hCH, hSL⟩ := hP
  have hx := Bd.exec
  have hby := Bd.bytes
  have hml : c.maxLocals = 3 := hml0
  have hown : (s.setVm s.vm).vm.findClass "com/example/epcrtools/epcrtools/exchange/RuleSetKeyEqualsPinLaw" = some m.cls := findClass_of_methodNamed Bd.named
  have hnm := (name_of_methodNamed Bd.named Bd.method).1
  have X0 : Stand p l e ({ frames := 4, cells := 4, slots := 8, locals := 66 } : Room) (s.setVm s.vm) m #[(.int p0), (.int p1), (.int p2)] below meth c s₁ [] 0 0 := Stand.of_body Bd
  have e0 : s₁.heap = h0 := by rw [← hh, Bd.state]; rfl
  have N0 := Fr.nil n0
  have hZ : Z.Warmed39 (s.setVm s.vm).vm := hZo
  have CH0 := CHr.refl hCH
  have hS0 : s.Since s.vm 0 := (State.WarmedH.refl s).since 0
  have hk0 : 0 ≤ h0.size := Nat.zero_le _
  have hp' := hp
  obtain ⟨S_COMPACT_STRINGS, h_cs⟩ := hp'
  have pre0 : ∀ t, Steps p.tables e below (s₁.setTop (mkF m 0 #[.val (.int p0), .val (.int p1), .val (.int p2)] [])) t → Steps p.tables e below (s₁.setTop (entryFrame m #[(.int p0), (.int p1), (.int p2)] 3)) t := fun t k => castTop (ef_1_0 m p0 p1 p2) k
  obtain ⟨T1, h1, X1, e1, E1, A1, D1, -, st1⟩ := newO X0 hx hZ hown (wq hw 4 rfl) (wq hw 5 rfl) (wq hw 6 rfl) e0 (g := (mkF m 4 #[.val (.int p0), .val (.int p1), .val (.int p2)] [])) rfl (hb hby d1_4) (by decide) (by decide)
  obtain ⟨b1, g1⟩ : ∃ z, z = h0.size := ⟨_, rfl⟩
  rw [← g1] at A1 D1 st1
  have g_b1 : n0 ≤ b1 := Nat.le_trans (own_sz O0) (Nat.le_of_eq g1.symm)
  have sz_b1 : h0.size ≤ b1 := Nat.le_trans (Keep.refl h0 []).1 (Nat.le_of_eq g1.symm)
  have O1 := O0.ext E1
  have K1 : Keep h0 h1 [] := (Keep.refl h0 []).ext E1
  have CH1 := CH0.trans (CHr.ext E1 CH0.1)
  have hk1 := Nat.le_trans hk0 E1.1
  have F_coder_b1 : Fld Z h1 b1 "java/lang/String" "coder" "B" (.int (0 : Int32)) := D1 (Or.inr (wq hw 31 rfl)) (ty := .byte) (by decide)
  have F_value_b1 : Fld Z h1 b1 "java/lang/String" "value" "[B" .null := D1 (Or.inr (wq hw 33 rfl)) (ty := (.array .byte)) (by decide)
  obtain ⟨T2, h2, k2, X2, e2, E2, A2, EA2, st2⟩ := newPE X1 hx hZ (wq hw 7 rfl) e1 (g := (mkF m 9 #[.val (.int p0), .val (.int p1), .val (.int p2)] [(.int (0 : Int32)), (.ref b1), (.ref b1)])) rfl (hb hby d1_9) rfl (by decide) (cap := 0) (by decide) (by decide) (by decide) (by decide) (ad := "[C") (by decide)
  obtain ⟨b2, g2⟩ : ∃ z, z = h1.size := ⟨_, rfl⟩
  rw [← g2] at A2 EA2 st2
  have g_b2 : n0 ≤ b2 := Nat.le_trans (own_sz O1) (Nat.le_of_eq g2.symm)
  have sz_b2 : h0.size ≤ b2 := Nat.le_trans K1.1 (Nat.le_of_eq g2.symm)
  have O2 := O1.ext E2
  have K2 : Keep h0 h2 [] := K1.ext E2
  have CH2 := CH1.trans (CHr.ext E2 CH1.1)
  have hk2 := Nat.le_trans hk1 E2.1
  have V_b2 : Arv Z h2 b2 k2 .char (0 : Int32) [] (.int (0 : Int32)) := (Arv.new A2 (by decide)).pad (pad_rep [] (.int (0 : Int32)) 0)
  have sf_4 := (Safe.ext E2 CH1.1 (Safe.ext E1 CH0.1 (Safe.new (Nat.le_of_eq g1.symm))))
  obtain ⟨_, _, ⟨T3, L3, k3, n3⟩, -, XX3, Sq3, gq3, ⟨Lc3, hQ3, l3, y3, z3, C3⟩, st3⟩ := X2.specialBackS hx (y := y1) rfl hown (mvT hZ (wq hw 8 rfl)) (mvT hZ (wq hw 9 rfl)) (mvT hZ (wq hw 10 rfl)) (by decide) (own_backC (SL := [b1]) (W := 1) (rm2 l Z a0 hw [] cs_v hp b1 b2 k2 h2 n0 O2 V_b2 (A1.ext E2) (F_coder_b1.ext E2) (F_value_b1.ext E2) g_b1) hZ (wq hw 10 rfl) (wq hw 6 rfl) (by decide) (by decide) (own_EW hw) CH2.1 (allS ⟨(A1.ext E2).lt, sf_4⟩ all0)) (g := (mkF m 11 #[.val (.int p0), .val (.int p1), .val (.int p2)] [(.ref b2), (.ref b1), (.ref b1)])) rfl (by rw [hml]; rfl) (Steps.refl _) (a := b1) (argsL := [(.ref b2)]) (rest := [(.ref b1)]) (lenOf pd_1 rfl) rfl (by show 2 * 0 + _ ≤ _; exact Nat.le_of_eq rfl) (hb hby d1_11) (fun _ _ => ⟨rfl, e2, (by decide : 2 + 2 ≤ _), (by decide : 4 + 4 ≤ _)⟩)
  dsimp only [Pt.U, Pt.locs, Pt.cells, Pt.slots] at XX3 Sq3 gq3 l3 y3 z3 st3 hQ3 C3
  subst l3 y3 z3
  obtain ⟨X3, hS3, hZ3, hown3⟩ := rebS hS0 (by rw [e2]; exact hk2) XX3 Sq3 gq3 hZ hown
  obtain ⟨y3_0, kc3_0, rfl, Nq3, Kq3, fq3_0, fq3_1, fq3_2, fq3_3⟩ := hQ3
  have N3 := Fr.app N0 Nq3
  have CH3 := CH2.trans C3
  have hk3 : T3.heap.size ≤ T3.heap.size := Nat.le_refl _
  have O3 := O2.keep Kq3 (allS g_b1 all0)
  have K3 : Keep h0 T3.heap [] := K2.trans Kq3 (allS (Or.inr sz_b1) all0)
  obtain ⟨fs, hr, hrun, hended, hE⟩ := Stand.leaveW (s := s) X3 hS3 hk3 (v := some (.ref b1)) (fun h => by rw [Bd.returns] at h; cases h)
  have CHz : CHr Z own_EL s.vm s.heap (T3.setFrames fs).vm (T3.setFrames fs).heap := by
    rw [hh]
    show CHr Z own_EL s.vm h0 T3.vm T3.heap
    exact CH3.trans (CHv.at X3 hZ3 (own_EW hw) CH3.1)
  refine ⟨_, _, pre0 _ ?_, hrun, hended, _, _, rfl, ?_, CHz, hE.1, hE.2.1, hE.2.2.1, hE.2.2.2.mono (by decide) (by decide)⟩
  · show Sp p e below s₁ (mkF m 0 #[.val (.int p0), .val (.int p1), .val (.int p2)] []) _
    refine XS.iloadN X0.here hx rfl (hb hby d1_0) rfl ?_
    refine XS.ifNo X0.here hx rfl (hb hby d1_1) rfl ((if0 _ _).trans (teq hc3).2) ?_
    show Sp p e below s₁ (mkF m 4 #[.val (.int p0), .val (.int p1), .val (.int p2)] []) _
    refine st1 _ ?_
    show Sp p e below T1 (mkF m 7 #[.val (.int p0), .val (.int p1), .val (.int p2)] [(.ref b1)]) _
    refine XS.dup X1.here hx rfl (hb hby d1_7) rfl rfl ?_
    refine XS.iconst X1.here hx rfl (hb hby d1_8) ?_
    show Sp p e below T1 (mkF m 9 #[.val (.int p0), .val (.int p1), .val (.int p2)] [(.int (0 : Int32)), (.ref b1), (.ref b1)]) _
    refine st2 _ ?_
    show Sp p e below T2 (mkF m 11 #[.val (.int p0), .val (.int p1), .val (.int p2)] [(.ref b2), (.ref b1), (.ref b1)]) _
    refine st3.trans ?_
    show Sp p e below T3 (mkF m 14 #[.val (.int p0), .val (.int p1), .val (.int p2)] [(.ref b1)]) _
    jvm_step X3.here [X3.here.top, hx, (hb hby d1_14), X3.method', Bd.returns, Value.isRef, FieldType.isReference]
    first | (intro acts; rw [hr _ acts rfl rfl rfl]) | rw [hr _ _ rfl rfl rfl]
    exact Steps.refl _
  · show Q3 Z cs_v p0 p1 p2 h0 n0 _ T3.heap _
    exact ⟨b1, y3_0, kc3_0, rfl, N3, K3, sz_b1, fq3_0, fq3_1, fq3_2, fq3_3⟩
theorem d1_15 : decode method_2_code 15 = .ok (.iload_n 0, 1) := by decide +kernel
theorem d1_16 : decode method_2_code 16 = .ok (.iconst 1, 1) := by decide +kernel
theorem d1_17 : decode method_2_code 17 = .ok (.if_icmp .ne 18, 3) := by decide +kernel
theorem d1_20 : decode method_2_code 20 = .ok (.new 7, 3) := by decide +kernel
theorem d1_23 : decode method_2_code 23 = .ok (.dup, 1) := by decide +kernel
theorem d1_24 : decode method_2_code 24 = .ok (.iconst 1, 1) := by decide +kernel
theorem d1_25 : decode method_2_code 25 = .ok (.newarray .char, 2) := by decide +kernel
theorem d1_27 : decode method_2_code 27 = .ok (.dup, 1) := by decide +kernel
theorem d1_28 : decode method_2_code 28 = .ok (.iconst 0, 1) := by decide +kernel
theorem d1_29 : decode method_2_code 29 = .ok (.iload_n 1, 1) := by decide +kernel
theorem d1_30 : decode method_2_code 30 = .ok (.castore, 1) := by decide +kernel
theorem d1_31 : decode method_2_code 31 = .ok (.invokespecial 9, 3) := by decide +kernel
theorem d3_27 : decode jdk_42_method_149_code 27 = .ok (.getstatic 38, 3) := by decide +kernel
theorem d3_30 : decode jdk_42_method_149_code 30 = .ok (.ifCond .eq 28, 3) := by decide +kernel
theorem d3_33 : decode jdk_42_method_149_code 33 = .ok (.aload_n 1, 1) := by decide +kernel
theorem d3_34 : decode jdk_42_method_149_code 34 = .ok (.iload_n 2, 1) := by decide +kernel
theorem d3_35 : decode jdk_42_method_149_code 35 = .ok (.iload_n 3, 1) := by decide +kernel
theorem d3_36 : decode jdk_42_method_149_code 36 = .ok (.invokestatic 177, 3) := by decide +kernel
theorem d5_0 : decode jdk_52_method_16_code 0 = .ok (.iload_n 2, 1) := by decide +kernel
theorem d5_1 : decode jdk_52_method_16_code 1 = .ok (.newarray .byte, 2) := by decide +kernel
theorem d5_3 : decode jdk_52_method_16_code 3 = .ok (.astore_n 3, 1) := by decide +kernel
theorem d5_4 : decode jdk_52_method_16_code 4 = .ok (.aload_n 0, 1) := by decide +kernel
theorem d5_5 : decode jdk_52_method_16_code 5 = .ok (.iload_n 1, 1) := by decide +kernel
theorem d5_6 : decode jdk_52_method_16_code 6 = .ok (.aload_n 3, 1) := by decide +kernel
theorem d5_7 : decode jdk_52_method_16_code 7 = .ok (.iconst 0, 1) := by decide +kernel
theorem d5_8 : decode jdk_52_method_16_code 8 = .ok (.iload_n 2, 1) := by decide +kernel
theorem d5_9 : decode jdk_52_method_16_code 9 = .ok (.invokestatic 115, 3) := by decide +kernel
theorem d6_0 : decode jdk_52_method_21_code 0 = .ok (.iconst 0, 1) := by decide +kernel
theorem d6_1 : decode jdk_52_method_21_code 1 = .ok (.istore 5, 2) := by decide +kernel
theorem d6_3 : decode jdk_52_method_21_code 3 = .ok (.iload 5, 2) := by decide +kernel
theorem d6_5 : decode jdk_52_method_21_code 5 = .ok (.iload 4, 2) := by decide +kernel
theorem d6_7 : decode jdk_52_method_21_code 7 = .ok (.if_icmp .ge 37, 3) := by decide +kernel
theorem d6_10 : decode jdk_52_method_21_code 10 = .ok (.aload_n 0, 1) := by decide +kernel
theorem d6_11 : decode jdk_52_method_21_code 11 = .ok (.iload_n 1, 1) := by decide +kernel
theorem d6_12 : decode jdk_52_method_21_code 12 = .ok (.caload, 1) := by decide +kernel
theorem d6_13 : decode jdk_52_method_21_code 13 = .ok (.istore 6, 2) := by decide +kernel
theorem d6_15 : decode jdk_52_method_21_code 15 = .ok (.iload 6, 2) := by decide +kernel
theorem d6_17 : decode jdk_52_method_21_code 17 = .ok (.sipush 255, 3) := by decide +kernel
theorem d6_20 : decode jdk_52_method_21_code 20 = .ok (.if_icmp .le 6, 3) := by decide +kernel
theorem d6_26 : decode jdk_52_method_21_code 26 = .ok (.aload_n 2, 1) := by decide +kernel
theorem d6_27 : decode jdk_52_method_21_code 27 = .ok (.iload_n 3, 1) := by decide +kernel
theorem d6_28 : decode jdk_52_method_21_code 28 = .ok (.iload 6, 2) := by decide +kernel
theorem d6_30 : decode jdk_52_method_21_code 30 = .ok (.i2b, 1) := by decide +kernel
theorem d6_31 : decode jdk_52_method_21_code 31 = .ok (.bastore, 1) := by decide +kernel
theorem d6_32 : decode jdk_52_method_21_code 32 = .ok (.iinc 1 1, 3) := by decide +kernel
abbrev fx6 : Int32 := ((0 : Int32) + (1 : Int32))
theorem d6_35 : decode jdk_52_method_21_code 35 = .ok (.iinc 3 1, 3) := by decide +kernel
theorem d6_38 : decode jdk_52_method_21_code 38 = .ok (.iinc 5 1, 3) := by decide +kernel
theorem d6_41 : decode jdk_52_method_21_code 41 = .ok (.goto (-38), 3) := by decide +kernel
theorem d6_44 : decode jdk_52_method_21_code 44 = .ok (.iload 4, 2) := by decide +kernel
theorem d6_46 : decode jdk_52_method_21_code 46 = .ok (.ireturn, 1) := by decide +kernel
abbrev y3 : MethodName := (⟨"java/lang/StringUTF16", "compress", "([CI[BII)I"⟩ : MethodName)
theorem ef_6_0 (m : MethodId) (x0 : Addr) (x1 : Int32) (x2 : Addr) (x3 : Int32) (x4 : Int32) : entryFrame m #[(.ref x0), (.int x1), (.ref x2), (.int x3), (.int x4)] 7 = mkF m 0 #[.val (.ref x0), .val (.int x1), .val (.ref x2), .val (.int x3), .val (.int x4), .unset, .unset] [] := by first | (simp [entryFrame, mkF, argsToLocals, Value.category]; done) | rfl
theorem pn_6 : plainName "java/lang/StringUTF16" = true := by first | (simp [plainName, overriddenIn]; done) | decide +kernel
def Q4 (Z : State) (cs_v : Int32) (a1 : Addr) (a2 : Addr) (k_a1 : ClassId) (p4 : Int32) (k_a2 : ClassId) (h0 : Heap) (n0 : Nat) (v : Option Value) (h : Heap) (L : List Loc) : Prop := v = some (.int (1 : Int32)) ∧ Fr n0 L ∧ Keep h0 h [a2] ∧ Exa Z h a2 "[B" ∧ Arv Z h a2 k_a2 .byte (1 : Int32) [(.int (nar .byte (p4.toInt8.toInt32)))] (.int (0 : Int32))
set_option maxRecDepth 65536 in
set_option maxHeartbeats 40000000 in
theorem rm4 (l : Launch) (Z : State) (a0 : Array Value) (hw : ∀ d ∈ tables_1, d.before a0 Z = true) (ws : List Jvm.Cond) (cs_v : Int32) (hp : Perm Z cs_v) (a1 : Addr) (a2 : Addr) (k_a1 : ClassId) (p4 : Int32) (k_a2 : ClassId) (h0 : Heap) (n0 : Nat) (O0 : Old Z n0 h0) (V_a1 : Arv Z h0 a1 k_a1 .char (1 : Int32) [(.int p4)] (.int (0 : Int32))) (hc2 : ¬ ((255 : Int32) < p4)) (E_a2 : Exa Z h0 a2 "[B") (V_a2 : Arv Z h0 a2 k_a2 .byte (1 : Int32) [(.int (0 : Int32))] (.int (0 : Int32))) (g_a2 : n0 ≤ a2) :
    MetFree l y3 (head1 (Jvm.Cond.code y3 jdk_52_method_21_code 7 (some .int) :: ws) ({ frames := 0, cells := 0, slots := 0, locals := 0 } : Room)) (fun a U => a = #[(.ref a1), (.int (0 : Int32)), (.ref a2), (.int (0 : Int32)), (.int (1 : Int32))] ∧ Z.Warmed39 U.vm ∧ U.heap = h0) (fun _ _ _ _ _ => True) (fun _ U o U' => ∃ v L, o = .returned v ∧ Q4 Z cs_v a1 a2 k_a1 p4 k_a2 h0 n0 v U'.heap L ∧ FrameEnd U o U' L ({ frames := 0, cells := 0, slots := 0, locals := 0 } : Room).cells ({ frames := 0, cells := 0, slots := 0, locals := 0 } : Room).slots) := by
  refine MetFree.of_bodySF (plainFor_of_name pn_6) hisR ?_
  intro p e s m args below meth c s₁ Bd hml0 hP hK
  obtain ⟨rfl, hZ, hh⟩ := hP
  have hx := Bd.exec
  have hby := Bd.bytes
  have hml : c.maxLocals = 7 := hml0
  have hown : s.vm.findClass "java/lang/StringUTF16" = some m.cls := findClass_of_methodNamed Bd.named
  have hnm := (name_of_methodNamed Bd.named Bd.method).1
  have X0 : Stand p l e ({ frames := 0, cells := 0, slots := 0, locals := 0 } : Room) s m #[(.ref a1), (.int (0 : Int32)), (.ref a2), (.int (0 : Int32)), (.int (1 : Int32))] below meth c s₁ [] 0 0 := Stand.of_body Bd
  have e0 : s₁.heap = h0 := by rw [← hh, Bd.state]; rfl
  have N0 := Fr.nil n0
  have hp' := hp
  obtain ⟨S_COMPACT_STRINGS, h_cs⟩ := hp'
  have pre0 : ∀ t, Steps p.tables e below (s₁.setTop (mkF m 0 #[.val (.ref a1), .val (.int (0 : Int32)), .val (.ref a2), .val (.int (0 : Int32)), .val (.int (1 : Int32)), .unset, .unset] [])) t → Steps p.tables e below (s₁.setTop (entryFrame m #[(.ref a1), (.int (0 : Int32)), (.ref a2), (.int (0 : Int32)), (.int (1 : Int32))] 7)) t := fun t k => castTop (ef_6_0 m a1 (0 : Int32) a2 (0 : Int32) (1 : Int32)) k
  obtain ⟨cl1, Ar1, -, S1, -, H1, -⟩ := id V_a1
  have hin1 : ¬ ((0 : Int32) < 0 ∨ cl1.slots.size ≤ ((0 : Int32)).toNatClampNeg) := inb_of S1 ⟨by decide, by decide⟩
  have hat1 : cl1.slots[((0 : Int32)).toNatClampNeg]? = some (.int p4) := H1.at hin1 rfl
  obtain ⟨cl2, Ar2, q2, S2, Nn2, H2, G2⟩ := id V_a2
  have hin2 : ¬ ((0 : Int32) < 0 ∨ cl2.slots.size ≤ ((0 : Int32)).toNatClampNeg) := inb_of S2 ⟨by decide, by decide⟩
  obtain ⟨T3, h3, X3, e3, W3, st3⟩ := stB X0 hx hZ e0 Ar2 (j := (0 : Int32)) hin2 (g := (mkF m 31 #[.val (.ref a1), .val (.int (0 : Int32)), .val (.ref a2), .val (.int (0 : Int32)), .val (.int (1 : Int32)), .val (.int (0 : Int32)), .val (.int p4)] [(.int (p4.toInt8.toInt32)), (.int (0 : Int32)), (.ref a2)])) rfl rfl (hb hby d6_31)
  have N3 := Fr.snoc X3 N0 g_a2
  have O3 := O0.wr W3 g_a2
  have K3 : Keep h0 h3 [a2] := (Keep.refl h0 [a2]).wr W3 (Or.inl (List.mem_of_getElem? (i := 0) rfl))
  have V_a2_3 : Arv Z h3 a2 k_a2 .byte (1 : Int32) [(.int (nar .byte (p4.toInt8.toInt32)))] (.int (0 : Int32)) := Arv.set Ar2 q2 S2 Nn2 H2 G2 (fits_nar_byte _) W3 0 rfl (Nat.le_of_ble_eq_true rfl)
  obtain ⟨fs, hr, hrun, hended, hW, hsame⟩ := X3.leave (v := some (.int (1 : Int32))) (fun h => by rw [Bd.returns] at h; cases h)
  refine ⟨_, _, pre0 _ ?_, hrun, hended, _, _, rfl, ?_, ⟨_, rfl⟩, hW, hsame.mono (by decide) (by decide)⟩
  · show Sp p e below s₁ (mkF m 0 #[.val (.ref a1), .val (.int (0 : Int32)), .val (.ref a2), .val (.int (0 : Int32)), .val (.int (1 : Int32)), .unset, .unset] []) _
    refine XS.iconst X0.here hx rfl (hb hby d6_0) ?_
    refine XS.istore X0.here hx rfl (hb hby d6_1) rfl (l' := #[.val (.ref a1), .val (.int (0 : Int32)), .val (.ref a2), .val (.int (0 : Int32)), .val (.int (1 : Int32)), .val (.int (0 : Int32)), .unset]) rfl ?_
    refine XS.iload X0.here hx rfl (hb hby d6_3) rfl ?_
    refine XS.iload X0.here hx rfl (hb hby d6_5) rfl ?_
    show Sp p e below s₁ (mkF m 7 #[.val (.ref a1), .val (.int (0 : Int32)), .val (.ref a2), .val (.int (0 : Int32)), .val (.int (1 : Int32)), .val (.int (0 : Int32)), .unset] [(.int (1 : Int32)), (.int (0 : Int32))]) _
    refine XS.icmpNo X0.here hx rfl (hb hby d6_7) rfl (tlt (by decide : (0 : Int32) < (1 : Int32))).2.1 ?_
    refine XS.aloadN X0.here hx rfl (hb hby d6_10) rfl rfl ?_
    refine XS.iloadN X0.here hx rfl (hb hby d6_11) rfl ?_
    show Sp p e below s₁ (mkF m 12 #[.val (.ref a1), .val (.int (0 : Int32)), .val (.ref a2), .val (.int (0 : Int32)), .val (.int (1 : Int32)), .val (.int (0 : Int32)), .unset] [(.int (0 : Int32)), (.ref a1)]) _
    refine X0.caload hx (j := (0 : Int32)) (v := (.int p4)) (by rw [e0]; exact Ar1.1) (State.isArrayOf_alike hZ.alike Ar1.2.1) Ar1.2.2 hin1 hat1 (g := (mkF m 12 #[.val (.ref a1), .val (.int (0 : Int32)), .val (.ref a2), .val (.int (0 : Int32)), .val (.int (1 : Int32)), .val (.int (0 : Int32)), .unset] [(.int (0 : Int32)), (.ref a1)])) rfl rfl (hb hby d6_12) _ ?_
    show Sp p e below s₁ (mkF m 13 #[.val (.ref a1), .val (.int (0 : Int32)), .val (.ref a2), .val (.int (0 : Int32)), .val (.int (1 : Int32)), .val (.int (0 : Int32)), .unset] [(.int p4)]) _
    refine XS.istore X0.here hx rfl (hb hby d6_13) rfl (l' := #[.val (.ref a1), .val (.int (0 : Int32)), .val (.ref a2), .val (.int (0 : Int32)), .val (.int (1 : Int32)), .val (.int (0 : Int32)), .val (.int p4)]) rfl ?_
    refine XS.iload X0.here hx rfl (hb hby d6_15) rfl ?_
    refine XS.sipush X0.here hx rfl (hb hby d6_17) ?_
    refine XS.icmpYes X0.here hx rfl (pc0 := 20) (pc' := 26) rfl (hb hby d6_20) rfl (flt hc2).2.2.2 (by decide) (by decide) ?_
    show Sp p e below s₁ (mkF m 26 #[.val (.ref a1), .val (.int (0 : Int32)), .val (.ref a2), .val (.int (0 : Int32)), .val (.int (1 : Int32)), .val (.int (0 : Int32)), .val (.int p4)] []) _
    refine XS.aloadN X0.here hx rfl (hb hby d6_26) rfl rfl ?_
    refine XS.iloadN X0.here hx rfl (hb hby d6_27) rfl ?_
    refine XS.iload X0.here hx rfl (hb hby d6_28) rfl ?_
    refine XS.i2b X0.here hx rfl (hb hby d6_30) rfl ?_
    show Sp p e below s₁ (mkF m 31 #[.val (.ref a1), .val (.int (0 : Int32)), .val (.ref a2), .val (.int (0 : Int32)), .val (.int (1 : Int32)), .val (.int (0 : Int32)), .val (.int p4)] [(.int (p4.toInt8.toInt32)), (.int (0 : Int32)), (.ref a2)]) _
    refine st3 _ ?_
    show Sp p e below T3 (mkF m 32 #[.val (.ref a1), .val (.int (0 : Int32)), .val (.ref a2), .val (.int (0 : Int32)), .val (.int (1 : Int32)), .val (.int (0 : Int32)), .val (.int p4)] []) _
    refine XS.iinc X3.here hx rfl (hb hby d6_32) rfl (l' := #[.val (.ref a1), .val (.int (fx6 )), .val (.ref a2), .val (.int (0 : Int32)), .val (.int (1 : Int32)), .val (.int (0 : Int32)), .val (.int p4)]) rfl ?_
    show Sp p e below T3 (mkF m 35 #[.val (.ref a1), .val (.int (fx6 )), .val (.ref a2), .val (.int (0 : Int32)), .val (.int (1 : Int32)), .val (.int (0 : Int32)), .val (.int p4)] []) _
    refine XS.iinc X3.here hx rfl (hb hby d6_35) rfl (l' := #[.val (.ref a1), .val (.int (fx6 )), .val (.ref a2), .val (.int (fx6 )), .val (.int (1 : Int32)), .val (.int (0 : Int32)), .val (.int p4)]) rfl ?_
    show Sp p e below T3 (mkF m 38 #[.val (.ref a1), .val (.int (fx6 )), .val (.ref a2), .val (.int (fx6 )), .val (.int (1 : Int32)), .val (.int (0 : Int32)), .val (.int p4)] []) _
    refine XS.iinc X3.here hx rfl (hb hby d6_38) rfl (l' := #[.val (.ref a1), .val (.int (fx6 )), .val (.ref a2), .val (.int (fx6 )), .val (.int (1 : Int32)), .val (.int (fx6 )), .val (.int p4)]) rfl ?_
    refine XS.goto X3.here hx rfl (pc0 := 41) (pc' := 3) rfl (hb hby d6_41) (by decide) (by decide) ?_
    refine XS.iload X3.here hx rfl (hb hby d6_3) rfl ?_
    refine XS.iload X3.here hx rfl (hb hby d6_5) rfl ?_
    show Sp p e below T3 (mkF m 7 #[.val (.ref a1), .val (.int (fx6 )), .val (.ref a2), .val (.int (fx6 )), .val (.int (1 : Int32)), .val (.int (fx6 )), .val (.int p4)] [(.int (1 : Int32)), (.int (fx6 ))]) _
    refine XS.icmpYes X3.here hx rfl (pc0 := 7) (pc' := 44) rfl (hb hby d6_7) rfl (flt (by decide : ¬ (((0 : Int32) + (1 : Int32)) < (1 : Int32)))).2.1 (by decide) (by decide) ?_
    refine XS.iload X3.here hx rfl (hb hby d6_44) rfl ?_
    show Sp p e below T3 (mkF m 46 #[.val (.ref a1), .val (.int (fx6 )), .val (.ref a2), .val (.int (fx6 )), .val (.int (1 : Int32)), .val (.int (fx6 )), .val (.int p4)] [(.int (1 : Int32))]) _
    exact retI X3 hx Bd.returns (hb hby d6_46) hr
  · show Q4 Z cs_v a1 a2 k_a1 p4 k_a2 h0 n0 _ T3.heap _
    rw [e3]
    exact ⟨rfl, N3, K3, (E_a2.wr W3), V_a2_3⟩
theorem pd_2 : parseMethodDescriptor "([CI[BII)I" = some ⟨[(.array .char), .int, (.array .byte), .int, .int], some .int⟩ := by decide +kernel
theorem d5_12 : decode jdk_52_method_16_code 12 = .ok (.istore 4, 2) := by decide +kernel
theorem d5_14 : decode jdk_52_method_16_code 14 = .ok (.iload 4, 2) := by decide +kernel
theorem d5_16 : decode jdk_52_method_16_code 16 = .ok (.iload_n 2, 1) := by decide +kernel
theorem d5_17 : decode jdk_52_method_16_code 17 = .ok (.if_icmp .eq 40, 3) := by decide +kernel
theorem d5_57 : decode jdk_52_method_16_code 57 = .ok (.aload_n 3, 1) := by decide +kernel
theorem d5_58 : decode jdk_52_method_16_code 58 = .ok (.areturn, 1) := by decide +kernel
abbrev y4 : MethodName := (⟨"java/lang/StringUTF16", "compress", "([CII)[B"⟩ : MethodName)
theorem ef_5_0 (m : MethodId) (x0 : Addr) (x1 : Int32) (x2 : Int32) : entryFrame m #[(.ref x0), (.int x1), (.int x2)] 6 = mkF m 0 #[.val (.ref x0), .val (.int x1), .val (.int x2), .unset, .unset, .unset] [] := by first | (simp [entryFrame, mkF, argsToLocals, Value.category]; done) | rfl
def Q5 (Z : State) (cs_v : Int32) (a1 : Addr) (k_a1 : ClassId) (p3 : Int32) (h0 : Heap) (n0 : Nat) (v : Option Value) (h : Heap) (L : List Loc) : Prop := ∃ (b1 : Addr), ∃ (k1 : ClassId), v = some (.ref b1) ∧ Fr n0 L ∧ Keep h0 h [] ∧ h0.size ≤ b1 ∧ Exa Z h b1 "[B" ∧ Arv Z h b1 k1 .byte (1 : Int32) [(.int (nar .byte (p3.toInt8.toInt32)))] (.int (0 : Int32))
set_option maxRecDepth 65536 in
set_option maxHeartbeats 40000000 in
theorem rm5 (l : Launch) (Z : State) (a0 : Array Value) (hw : ∀ d ∈ tables_1, d.before a0 Z = true) (ws : List Jvm.Cond) (cs_v : Int32) (hp : Perm Z cs_v) (a1 : Addr) (k_a1 : ClassId) (p3 : Int32) (h0 : Heap) (n0 : Nat) (O0 : Old Z n0 h0) (V_a1 : Arv Z h0 a1 k_a1 .char (1 : Int32) [(.int p3)] (.int (0 : Int32))) (hc2 : ¬ ((255 : Int32) < p3)) :
    MetFree l y4 (head1 (Jvm.Cond.code y4 jdk_52_method_16_code 6 (some (.array .byte)) :: ws) ({ frames := 1, cells := 1, slots := 1, locals := 18 } : Room)) (fun a U => a = #[(.ref a1), (.int (0 : Int32)), (.int (1 : Int32))] ∧ Z.Warmed39 U.vm ∧ U.heap = h0) (fun _ _ _ _ _ => True) (fun _ U o U' => ∃ v L, o = .returned v ∧ Q5 Z cs_v a1 k_a1 p3 h0 n0 v U'.heap L ∧ FrameEnd U o U' L ({ frames := 1, cells := 1, slots := 1, locals := 18 } : Room).cells ({ frames := 1, cells := 1, slots := 1, locals := 18 } : Room).slots) := by
  refine MetFree.of_bodySF (plainFor_of_name pn_6) hisR ?_
  intro p e s m args below meth c s₁ Bd hml0 hP hK
  obtain ⟨rfl, hZ, hh⟩ := hP
  have hx := Bd.exec
  have hby := Bd.bytes
  have hml : c.maxLocals = 6 := hml0
  have hown : s.vm.findClass "java/lang/StringUTF16" = some m.cls := findClass_of_methodNamed Bd.named
  have hnm := (name_of_methodNamed Bd.named Bd.method).1
  have X0 : Stand p l e ({ frames := 1, cells := 1, slots := 1, locals := 18 } : Room) s m #[(.ref a1), (.int (0 : Int32)), (.int (1 : Int32))] below meth c s₁ [] 0 0 := Stand.of_body Bd
  have e0 : s₁.heap = h0 := by rw [← hh, Bd.state]; rfl
  have N0 := Fr.nil n0
  have hp' := hp
  obtain ⟨S_COMPACT_STRINGS, h_cs⟩ := hp'
  have pre0 : ∀ t, Steps p.tables e below (s₁.setTop (mkF m 0 #[.val (.ref a1), .val (.int (0 : Int32)), .val (.int (1 : Int32)), .unset, .unset, .unset] [])) t → Steps p.tables e below (s₁.setTop (entryFrame m #[(.ref a1), (.int (0 : Int32)), (.int (1 : Int32))] 6)) t := fun t k => castTop (ef_5_0 m a1 (0 : Int32) (1 : Int32)) k
  obtain ⟨T1, h1, k1, X1, e1, E1, A1, EA1, st1⟩ := newPE X0 hx hZ (wq hw 23 rfl) e0 (g := (mkF m 1 #[.val (.ref a1), .val (.int (0 : Int32)), .val (.int (1 : Int32)), .unset, .unset, .unset] [(.int (1 : Int32))])) rfl (hb hby d5_1) rfl (by decide) (cap := 1) (by decide) (by decide) (by decide) (by decide) (ad := "[B") (by decide)
  obtain ⟨b1, g1⟩ : ∃ z, z = h0.size := ⟨_, rfl⟩
  rw [← g1] at A1 EA1 st1
  have g_b1 : n0 ≤ b1 := Nat.le_trans (own_sz O0) (Nat.le_of_eq g1.symm)
  have sz_b1 : h0.size ≤ b1 := Nat.le_trans (Keep.refl h0 []).1 (Nat.le_of_eq g1.symm)
  have O1 := O0.ext E1
  have K1 : Keep h0 h1 [] := (Keep.refl h0 []).ext E1
  have V_b1 : Arv Z h1 b1 k1 .byte (1 : Int32) [(.int (0 : Int32))] (.int (0 : Int32)) := (Arv.new A1 (by decide)).pad (pad_rep [] (.int (0 : Int32)) 1)
  obtain ⟨_, _, ⟨T2, L2, k2, n2⟩, -, X2, ⟨Lc2, hQ2, l2, y2, z2⟩, st2⟩ := Jvm.LawKit.callS X1 hx (y := y3) hown (mvT hZ (wq hw 24 rfl)) (mvT hZ (wq hw 25 rfl)) (mvT hZ (wq hw 21 rfl)) (mvT hZ (wq hw 26 rfl)) (by decide) (backOf (W := 0) (rm4 l Z a0 hw [] cs_v hp a1 b1 k_a1 p3 k1 h1 n0 O1 (V_a1.ext E1) hc2 EA1 V_b1 g_b1) hZ (wq hw 26 rfl) (wq hw 21 rfl) (by decide) (by decide)) (g := (mkF m 9 #[.val (.ref a1), .val (.int (0 : Int32)), .val (.int (1 : Int32)), .val (.ref b1), .unset, .unset] [(.int (1 : Int32)), (.int (0 : Int32)), (.ref b1), (.int (0 : Int32)), (.ref a1)])) rfl (by rw [hml]; rfl) (argsL := [(.ref a1), (.int (0 : Int32)), (.ref b1), (.int (0 : Int32)), (.int (1 : Int32))]) (rest := []) (lenOf pd_2 rfl) rfl (by show 2 * 0 + _ ≤ _; exact Nat.le_of_eq rfl) (hb hby d5_9) (fun _ _ => ⟨rfl, e1, (by decide : 1 + 0 ≤ _), (by decide : 1 + 0 ≤ _)⟩)
  dsimp only [Pt.U, Pt.locs, Pt.cells, Pt.slots] at X2 l2 y2 z2 st2 hQ2
  subst l2 y2 z2
  obtain ⟨rfl, Nq2, Kq2, fq2_0, fq2_1⟩ := hQ2
  have N2 := Fr.app N0 Nq2
  have O2 := O1.keep Kq2 (allS g_b1 all0)
  have K2 : Keep h0 T2.heap [] := K1.trans Kq2 (allS (Or.inr sz_b1) all0)
  obtain ⟨fs, hr, hrun, hended, hW, hsame⟩ := X2.leave (v := some (.ref b1)) (fun h => by rw [Bd.returns] at h; cases h)
  refine ⟨_, _, pre0 _ ?_, hrun, hended, _, _, rfl, ?_, ⟨_, rfl⟩, hW, hsame.mono (by decide) (by decide)⟩
  · show Sp p e below s₁ (mkF m 0 #[.val (.ref a1), .val (.int (0 : Int32)), .val (.int (1 : Int32)), .unset, .unset, .unset] []) _
    refine XS.iloadN X0.here hx rfl (hb hby d5_0) rfl ?_
    show Sp p e below s₁ (mkF m 1 #[.val (.ref a1), .val (.int (0 : Int32)), .val (.int (1 : Int32)), .unset, .unset, .unset] [(.int (1 : Int32))]) _
    refine st1 _ ?_
    show Sp p e below T1 (mkF m 3 #[.val (.ref a1), .val (.int (0 : Int32)), .val (.int (1 : Int32)), .unset, .unset, .unset] [(.ref b1)]) _
    refine XS.astoreN X1.here hx rfl (hb hby d5_3) rfl rfl (l' := #[.val (.ref a1), .val (.int (0 : Int32)), .val (.int (1 : Int32)), .val (.ref b1), .unset, .unset]) rfl ?_
    refine XS.aloadN X1.here hx rfl (hb hby d5_4) rfl rfl ?_
    refine XS.iloadN X1.here hx rfl (hb hby d5_5) rfl ?_
    refine XS.aloadN X1.here hx rfl (hb hby d5_6) rfl rfl ?_
    show Sp p e below T1 (mkF m 7 #[.val (.ref a1), .val (.int (0 : Int32)), .val (.int (1 : Int32)), .val (.ref b1), .unset, .unset] [(.ref b1), (.int (0 : Int32)), (.ref a1)]) _
    refine XS.iconst X1.here hx rfl (hb hby d5_7) ?_
    refine XS.iloadN X1.here hx rfl (hb hby d5_8) rfl ?_
    show Sp p e below T1 (mkF m 9 #[.val (.ref a1), .val (.int (0 : Int32)), .val (.int (1 : Int32)), .val (.ref b1), .unset, .unset] [(.int (1 : Int32)), (.int (0 : Int32)), (.ref b1), (.int (0 : Int32)), (.ref a1)]) _
    refine st2 _ ?_
    show Sp p e below T2 (mkF m 12 #[.val (.ref a1), .val (.int (0 : Int32)), .val (.int (1 : Int32)), .val (.ref b1), .unset, .unset] [(.int (1 : Int32))]) _
    refine XS.istore X2.here hx rfl (hb hby d5_12) rfl (l' := #[.val (.ref a1), .val (.int (0 : Int32)), .val (.int (1 : Int32)), .val (.ref b1), .val (.int (1 : Int32)), .unset]) rfl ?_
    refine XS.iload X2.here hx rfl (hb hby d5_14) rfl ?_
    refine XS.iloadN X2.here hx rfl (hb hby d5_16) rfl ?_
    refine XS.icmpYes X2.here hx rfl (pc0 := 17) (pc' := 57) rfl (hb hby d5_17) rfl (teq (by decide : (1 : Int32) = (1 : Int32))).1 (by decide) (by decide) ?_
    show Sp p e below T2 (mkF m 57 #[.val (.ref a1), .val (.int (0 : Int32)), .val (.int (1 : Int32)), .val (.ref b1), .val (.int (1 : Int32)), .unset] []) _
    refine XS.aloadN X2.here hx rfl (hb hby d5_57) rfl rfl ?_
    show Sp p e below T2 (mkF m 58 #[.val (.ref a1), .val (.int (0 : Int32)), .val (.int (1 : Int32)), .val (.ref b1), .val (.int (1 : Int32)), .unset] [(.ref b1)]) _
    jvm_step X2.here [X2.here.top, hx, (hb hby d5_58), X2.method', Bd.returns, Value.isRef, FieldType.isReference]
    first | (intro acts; rw [hr _ acts rfl rfl rfl]) | rw [hr _ _ rfl rfl rfl]
    exact Steps.refl _
  · show Q5 Z cs_v a1 k_a1 p3 h0 n0 _ T2.heap _
    exact ⟨b1, k1, rfl, N2, K2, sz_b1, fq2_0, fq2_1⟩
theorem pd_3 : parseMethodDescriptor "([CII)[B" = some ⟨[(.array .char), .int, .int], some (.array .byte)⟩ := by decide +kernel
theorem d3_39 : decode jdk_42_method_149_code 39 = .ok (.astore 5, 2) := by decide +kernel
theorem d3_41 : decode jdk_42_method_149_code 41 = .ok (.aload_n 0, 1) := by decide +kernel
theorem d3_42 : decode jdk_42_method_149_code 42 = .ok (.aload 5, 2) := by decide +kernel
theorem d3_44 : decode jdk_42_method_149_code 44 = .ok (.iload_n 3, 1) := by decide +kernel
theorem d3_45 : decode jdk_42_method_149_code 45 = .ok (.invokestatic 47, 3) := by decide +kernel
theorem d7_0 : decode jdk_52_method_15_code 0 = .ok (.iload_n 1, 1) := by decide +kernel
theorem d7_1 : decode jdk_52_method_15_code 1 = .ok (.aload_n 0, 1) := by decide +kernel
theorem d7_2 : decode jdk_52_method_15_code 2 = .ok (.arraylength, 1) := by decide +kernel
theorem d7_3 : decode jdk_52_method_15_code 3 = .ok (.isub, 1) := by decide +kernel
theorem d7_4 : decode jdk_52_method_15_code 4 = .ok (.bipush 31, 2) := by decide +kernel
theorem d7_6 : decode jdk_52_method_15_code 6 = .ok (.iushr, 1) := by decide +kernel
theorem d7_7 : decode jdk_52_method_15_code 7 = .ok (.i2b, 1) := by decide +kernel
theorem d7_8 : decode jdk_52_method_15_code 8 = .ok (.ireturn, 1) := by decide +kernel
abbrev fx7 : Int32 := (((((1 : Int32) - (1 : Int32)).toUInt32 >>> ((31 : Int32) &&& 31).toUInt32).toInt32).toInt8.toInt32)
abbrev y5 : MethodName := (⟨"java/lang/StringUTF16", "coderFromArrayLen", "([BI)B"⟩ : MethodName)
theorem ef_7_0 (m : MethodId) (x0 : Addr) (x1 : Int32) : entryFrame m #[(.ref x0), (.int x1)] 2 = mkF m 0 #[.val (.ref x0), .val (.int x1)] [] := by first | (simp [entryFrame, mkF, argsToLocals, Value.category]; done) | rfl
def Q6 (Z : State) (cs_v : Int32) (a1 : Addr) (k_a1 : ClassId) (p3 : Int32) (h0 : Heap) (n0 : Nat) (v : Option Value) (h : Heap) (L : List Loc) : Prop := v = some (.int (0 : Int32)) ∧ Fr n0 L ∧ h = h0
set_option maxRecDepth 65536 in
set_option maxHeartbeats 40000000 in
theorem rm6 (l : Launch) (Z : State) (a0 : Array Value) (hw : ∀ d ∈ tables_1, d.before a0 Z = true) (ws : List Jvm.Cond) (cs_v : Int32) (hp : Perm Z cs_v) (a1 : Addr) (k_a1 : ClassId) (p3 : Int32) (h0 : Heap) (n0 : Nat) (O0 : Old Z n0 h0) (V_a1 : Arv Z h0 a1 k_a1 .byte (1 : Int32) [(.int p3)] (.int (0 : Int32))) :
    MetFree l y5 (head1 (Jvm.Cond.code y5 jdk_52_method_15_code 2 (some .byte) :: ws) ({ frames := 0, cells := 0, slots := 0, locals := 0 } : Room)) (fun a U => a = #[(.ref a1), (.int (1 : Int32))] ∧ Z.Warmed39 U.vm ∧ U.heap = h0) (fun _ _ _ _ _ => True) (fun _ U o U' => ∃ v L, o = .returned v ∧ Q6 Z cs_v a1 k_a1 p3 h0 n0 v U'.heap L ∧ FrameEnd U o U' L ({ frames := 0, cells := 0, slots := 0, locals := 0 } : Room).cells ({ frames := 0, cells := 0, slots := 0, locals := 0 } : Room).slots) := by
  refine MetFree.of_bodySF (plainFor_of_name pn_6) hisR ?_
  intro p e s m args below meth c s₁ Bd hml0 hP hK
  obtain ⟨rfl, hZ, hh⟩ := hP
  have hx := Bd.exec
  have hby := Bd.bytes
  have hml : c.maxLocals = 2 := hml0
  have hown : s.vm.findClass "java/lang/StringUTF16" = some m.cls := findClass_of_methodNamed Bd.named
  have hnm := (name_of_methodNamed Bd.named Bd.method).1
  have X0 : Stand p l e ({ frames := 0, cells := 0, slots := 0, locals := 0 } : Room) s m #[(.ref a1), (.int (1 : Int32))] below meth c s₁ [] 0 0 := Stand.of_body Bd
  have e0 : s₁.heap = h0 := by rw [← hh, Bd.state]; rfl
  have N0 := Fr.nil n0
  have hp' := hp
  obtain ⟨S_COMPACT_STRINGS, h_cs⟩ := hp'
  have pre0 : ∀ t, Steps p.tables e below (s₁.setTop (mkF m 0 #[.val (.ref a1), .val (.int (1 : Int32))] [])) t → Steps p.tables e below (s₁.setTop (entryFrame m #[(.ref a1), (.int (1 : Int32))] 2)) t := fun t k => castTop (ef_7_0 m a1 (1 : Int32)) k
  obtain ⟨cl1, Ar1, -, S1, Nn1, -, -⟩ := id V_a1
  obtain ⟨fs, hr, hrun, hended, hW, hsame⟩ := X0.leave (v := some (.int (0 : Int32))) (fun h => by rw [Bd.returns] at h; cases h)
  refine ⟨_, _, pre0 _ ?_, hrun, hended, _, _, rfl, ?_, ⟨_, rfl⟩, hW, hsame.mono (by decide) (by decide)⟩
  · show Sp p e below s₁ (mkF m 0 #[.val (.ref a1), .val (.int (1 : Int32))] []) _
    refine XS.iloadN X0.here hx rfl (hb hby d7_0) rfl ?_
    refine XS.aloadN X0.here hx rfl (hb hby d7_1) rfl rfl ?_
    show Sp p e below s₁ (mkF m 2 #[.val (.ref a1), .val (.int (1 : Int32))] [(.ref a1), (.int (1 : Int32))]) _
    refine X0.arraylength hx (by rw [e0]; exact Ar1.1) (State.isArrayOf_alike hZ.alike Ar1.2.1) (g := (mkF m 2 #[.val (.ref a1), .val (.int (1 : Int32))] [(.ref a1), (.int (1 : Int32))])) rfl rfl (hb hby d7_2) _ ?_
    rw [len_of S1 Nn1]
    show Sp p e below s₁ (mkF m 3 #[.val (.ref a1), .val (.int (1 : Int32))] [(.int (1 : Int32)), (.int (1 : Int32))]) _
    refine XS.isub X0.here hx rfl (hb hby d7_3) rfl ?_
    refine XS.bipush X0.here hx rfl (hb hby d7_4) ?_
    refine XS.iushr X0.here hx rfl (hb hby d7_6) rfl ?_
    refine XS.i2b X0.here hx rfl (hb hby d7_7) rfl ?_
    show Sp p e below s₁ (mkF m 8 #[.val (.ref a1), .val (.int (1 : Int32))] [(.int (fx7 ))]) _
    exact retN X0 hx (t := .byte) Bd.returns (by simp) (hb hby d7_8) hr
  · show Q6 Z cs_v a1 k_a1 p3 h0 n0 _ s₁.heap _
    rw [e0]
    exact ⟨rfl, N0, rfl⟩
theorem pd_4 : parseMethodDescriptor "([BI)B" = some ⟨[(.array .byte), .int], some .byte⟩ := by decide +kernel
theorem d3_48 : decode jdk_42_method_149_code 48 = .ok (.putfield 15, 3) := by decide +kernel
theorem d3_51 : decode jdk_42_method_149_code 51 = .ok (.aload_n 0, 1) := by decide +kernel
theorem d3_52 : decode jdk_42_method_149_code 52 = .ok (.aload 5, 2) := by decide +kernel
theorem d3_54 : decode jdk_42_method_149_code 54 = .ok (.putfield 9, 3) := by decide +kernel
theorem d3_57 : decode jdk_42_method_149_code 57 = .ok (.return_, 1) := by decide +kernel
def Q7 (Z : State) (cs_v : Int32) (a1 : Addr) (a2 : Addr) (k_a2 : ClassId) (p4 : Int32) (h0 : Heap) (n0 : Nat) (v : Option Value) (h : Heap) (L : List Loc) : Prop := ∃ (b3_0 : Addr), ∃ (kc3_0 : ClassId), v = none ∧ Fr n0 L ∧ Keep h0 h [a1] ∧ h0.size ≤ b3_0 ∧ Exa Z h a1 "java/lang/String" ∧ Fld Z h a1 "java/lang/String" "coder" "B" (.int (0 : Int32)) ∧ Fld Z h a1 "java/lang/String" "value" "[B" (.ref b3_0) ∧ Exa Z h b3_0 "[B" ∧ Arv Z h b3_0 kc3_0 .byte (1 : Int32) [(.int (nar .byte (p4.toInt8.toInt32)))] (.int (0 : Int32))
set_option maxRecDepth 65536 in
set_option maxHeartbeats 40000000 in
theorem rm7 (l : Launch) (Z : State) (a0 : Array Value) (hw : ∀ d ∈ tables_1, d.before a0 Z = true) (ws : List Jvm.Cond) (cs_v : Int32) (hp : Perm Z cs_v) (a1 : Addr) (a2 : Addr) (k_a2 : ClassId) (p4 : Int32) (h0 : Heap) (n0 : Nat) (O0 : Old Z n0 h0) (V_a2 : Arv Z h0 a2 k_a2 .char (1 : Int32) [(.int p4)] (.int (0 : Int32))) (hc2 : ¬ ((255 : Int32) < p4)) (E_a1 : Exa Z h0 a1 "java/lang/String") (F_coder_a1 : Fld Z h0 a1 "java/lang/String" "coder" "B" (.int (0 : Int32))) (F_value_a1 : Fld Z h0 a1 "java/lang/String" "value" "[B" .null) (g_a1 : n0 ≤ a1) :
    MetFree l y0 (head1 (Jvm.Cond.code y0 jdk_42_method_149_code 6 none :: ws) ({ frames := 2, cells := 1, slots := 1, locals := 35 } : Room)) (fun a U => a = #[(.ref a1), (.ref a2), (.int (0 : Int32)), (.int (1 : Int32)), .null] ∧ Z.Warmed39 U.vm ∧ U.heap = h0) (fun _ _ _ _ _ => True) (fun _ U o U' => ∃ v L, o = .returned v ∧ Q7 Z cs_v a1 a2 k_a2 p4 h0 n0 v U'.heap L ∧ FrameEnd U o U' L ({ frames := 2, cells := 1, slots := 1, locals := 35 } : Room).cells ({ frames := 2, cells := 1, slots := 1, locals := 35 } : Room).slots) := by
  refine MetFree.of_bodySF (plainFor_of_name pn_3) hisR ?_
  intro p e s m args below meth c s₁ Bd hml0 hP hK
  obtain ⟨rfl, hZ, hh⟩ := hP
  have hx := Bd.exec
  have hby := Bd.bytes
  have hml : c.maxLocals = 6 := hml0
  have hown : s.vm.findClass "java/lang/String" = some m.cls := findClass_of_methodNamed Bd.named
  have hnm := (name_of_methodNamed Bd.named Bd.method).1
  have X0 : Stand p l e ({ frames := 2, cells := 1, slots := 1, locals := 35 } : Room) s m #[(.ref a1), (.ref a2), (.int (0 : Int32)), (.int (1 : Int32)), .null] below meth c s₁ [] 0 0 := Stand.of_body Bd
  have e0 : s₁.heap = h0 := by rw [← hh, Bd.state]; rfl
  have N0 := Fr.nil n0
  have hp' := hp
  obtain ⟨S_COMPACT_STRINGS, h_cs⟩ := hp'
  have pre0 : ∀ t, Steps p.tables e below (s₁.setTop (mkF m 0 #[.val (.ref a1), .val (.ref a2), .val (.int (0 : Int32)), .val (.int (1 : Int32)), .val .null, .unset] [])) t → Steps p.tables e below (s₁.setTop (entryFrame m #[(.ref a1), (.ref a2), (.int (0 : Int32)), (.int (1 : Int32)), .null] 6)) t := fun t k => castTop (ef_3_0 m a1 a2 (0 : Int32) (1 : Int32)) k
  obtain ⟨T1, X1, e1, st1⟩ := initO X0 hx hZ hown (wq hw 15 rfl) (wq hw 16 rfl) (wq hw 17 rfl) e0 (g := (mkF m 1 #[.val (.ref a1), .val (.ref a2), .val (.int (0 : Int32)), .val (.int (1 : Int32)), .val .null, .unset] [(.ref a1)])) rfl (by rw [hml]; rfl) rfl (hb hby d3_1) (by decide) (W := 0) (by show 2 * 0 + _ ≤ _; exact Nat.le_of_eq rfl) (by decide)
  obtain ⟨T2, X2, e2, st2⟩ := getS2 X1 hx hZ hown (host := "") (Or.inl (wq hw 18 rfl)) Via.refl e1 (S_COMPACT_STRINGS.ext O0.2) (g := (mkF m 27 #[.val (.ref a1), .val (.ref a2), .val (.int (0 : Int32)), .val (.int (1 : Int32)), .val .null, .unset] [])) rfl (hb hby d3_27)
  obtain ⟨_, _, ⟨T3, L3, k3, n3⟩, -, X3, ⟨Lc3, hQ3, l3, y3, z3⟩, st3⟩ := Jvm.LawKit.callS X2 hx (y := y4) hown (mvT hZ (wq hw 19 rfl)) (mvT hZ (wq hw 20 rfl)) (mvT hZ (wq hw 21 rfl)) (mvT hZ (wq hw 22 rfl)) (by decide) (backOf (W := 0) (rm5 l Z a0 hw [] cs_v hp a2 k_a2 p4 h0 n0 O0 V_a2 hc2) hZ (wq hw 22 rfl) (wq hw 21 rfl) (by decide) (by decide)) (g := (mkF m 36 #[.val (.ref a1), .val (.ref a2), .val (.int (0 : Int32)), .val (.int (1 : Int32)), .val .null, .unset] [(.int (1 : Int32)), (.int (0 : Int32)), (.ref a2)])) rfl (by rw [hml]; rfl) (argsL := [(.ref a2), (.int (0 : Int32)), (.int (1 : Int32))]) (rest := []) (lenOf pd_3 rfl) rfl (by show 2 * 0 + _ ≤ _; exact Nat.le_of_eq rfl) (hb hby d3_36) (fun _ _ => ⟨rfl, e2, (by decide : 0 + 1 ≤ _), (by decide : 0 + 1 ≤ _)⟩)
  dsimp only [Pt.U, Pt.locs, Pt.cells, Pt.slots] at X3 l3 y3 z3 st3 hQ3
  subst l3 y3 z3
  obtain ⟨b3_0, kc3_0, rfl, Nq3, Kq3, sq_b3_0, fq3_0, fq3_1⟩ := hQ3
  have N3 := Fr.app N0 Nq3
  have g_b3_0 : n0 ≤ b3_0 := Nat.le_trans (own_sz O0) sq_b3_0
  have sz_b3_0 : h0.size ≤ b3_0 := Nat.le_trans (Keep.refl h0 [a1]).1 sq_b3_0
  have O3 := O0.keep Kq3 all0
  have K3 : Keep h0 T3.heap [a1] := (Keep.refl h0 [a1]).trans Kq3 all0
  obtain ⟨_, _, ⟨T4, L4, k4, n4⟩, -, X4, ⟨Lc4, hQ4, l4, y4, z4⟩, st4⟩ := Jvm.LawKit.callS X3 hx (y := y5) hown (mvT hZ (wq hw 27 rfl)) (mvT hZ (wq hw 28 rfl)) (mvT hZ (wq hw 21 rfl)) (mvT hZ (wq hw 29 rfl)) (by decide) (backOf (W := 1) (rm6 l Z a0 hw [] cs_v hp b3_0 kc3_0 (nar .byte (p4.toInt8.toInt32)) T3.heap n0 O3 fq3_1) hZ (wq hw 29 rfl) (wq hw 21 rfl) (by decide) (by decide)) (g := (mkF m 45 #[.val (.ref a1), .val (.ref a2), .val (.int (0 : Int32)), .val (.int (1 : Int32)), .val .null, .val (.ref b3_0)] [(.int (1 : Int32)), (.ref b3_0), (.ref a1)])) rfl (by rw [hml]; rfl) (argsL := [(.ref b3_0), (.int (1 : Int32))]) (rest := [(.ref a1)]) (lenOf pd_4 rfl) rfl (by show 2 * 0 + _ ≤ _; exact Nat.le_of_eq rfl) (hb hby d3_45) (fun _ _ => ⟨rfl, rfl, (by decide : 1 + 0 ≤ _), (by decide : 1 + 0 ≤ _)⟩)
  dsimp only [Pt.U, Pt.locs, Pt.cells, Pt.slots] at X4 l4 y4 z4 st4 hQ4
  subst l4 y4 z4
  obtain ⟨rfl, Nq4, eq4⟩ := hQ4
  have N4 := Fr.app N3 Nq4
  obtain ⟨T5, h5, X5, e5, W5, st5⟩ := putFN X4 hx hZ hown (wq hw 30 rfl) Via.refl eq4 (F_coder_a1.keep Kq3 nin0) (E_a1.keep Kq3) (Or.inr ⟨(wq hw 31 rfl), rfl, hnm⟩) (wq hw 5 rfl) (ty := .byte) (v' := (.int (0 : Int32))) (by decide) rfl rfl (g := (mkF m 48 #[.val (.ref a1), .val (.ref a2), .val (.int (0 : Int32)), .val (.int (1 : Int32)), .val .null, .val (.ref b3_0)] [(.int (0 : Int32)), (.ref a1)])) rfl rfl (hb hby d3_48)
  have N5 := Fr.snoc X5 N4 g_a1
  have O5 := O3.wr W5 g_a1
  have K5 : Keep h0 h5 [a1] := K3.wr W5 (Or.inl (List.mem_of_getElem? (i := 0) rfl))
  have Fw5 := (F_coder_a1.keep Kq3 nin0).same W5
  obtain ⟨T6, h6, X6, e6, W6, st6⟩ := putF X5 hx hZ hown (host := "") (Or.inl (wq hw 32 rfl)) Via.refl e5 ((F_value_a1.keep Kq3 nin0).other W5 (Or.inr (sn1 hw))) ((E_a1.keep Kq3).wr W5) (Or.inr ⟨(wq hw 33 rfl), rfl, hnm⟩) (wq hw 5 rfl) (ty := (.array .byte)) (by decide) rfl rfl (g := (mkF m 54 #[.val (.ref a1), .val (.ref a2), .val (.int (0 : Int32)), .val (.int (1 : Int32)), .val .null, .val (.ref b3_0)] [(.ref b3_0), (.ref a1)])) rfl rfl (hb hby d3_54)
  have N6 := Fr.snoc X6 N5 g_a1
  have O6 := O5.wr W6 g_a1
  have K6 : Keep h0 h6 [a1] := K5.wr W6 (Or.inl (List.mem_of_getElem? (i := 0) rfl))
  have Fw6 := ((F_value_a1.keep Kq3 nin0).other W5 (Or.inr (sn1 hw))).same W6
  have f_7 := ((fq3_1.other W5 (Ne.symm (Nat.ne_of_lt (Nat.lt_of_lt_of_le E_a1.lt sz_b3_0)))).other W6 (Ne.symm (Nat.ne_of_lt (Nat.lt_of_lt_of_le E_a1.lt sz_b3_0))))
  obtain ⟨fs, hr, hrun, hended, hW, hsame⟩ := X6.leave (v := none) (fun _ => rfl)
  refine ⟨_, _, pre0 _ ?_, hrun, hended, _, _, rfl, ?_, ⟨_, rfl⟩, hW, hsame.mono (by decide) (by decide)⟩
  · show Sp p e below s₁ (mkF m 0 #[.val (.ref a1), .val (.ref a2), .val (.int (0 : Int32)), .val (.int (1 : Int32)), .val .null, .unset] []) _
    refine XS.aloadN X0.here hx rfl (hb hby d3_0) rfl rfl ?_
    show Sp p e below s₁ (mkF m 1 #[.val (.ref a1), .val (.ref a2), .val (.int (0 : Int32)), .val (.int (1 : Int32)), .val .null, .unset] [(.ref a1)]) _
    refine st1 _ ?_
    show Sp p e below T1 (mkF m 4 #[.val (.ref a1), .val (.ref a2), .val (.int (0 : Int32)), .val (.int (1 : Int32)), .val .null, .unset] []) _
    refine XS.iloadN X1.here hx rfl (hb hby d3_4) rfl ?_
    refine XS.ifYes X1.here hx rfl (pc0 := 5) (pc' := 27) rfl (hb hby d3_5) rfl ((if0 _ _).trans (feq (by decide : ¬ ((1 : Int32) = (0 : Int32)))).2) (by decide) (by decide) ?_
    show Sp p e below T1 (mkF m 27 #[.val (.ref a1), .val (.ref a2), .val (.int (0 : Int32)), .val (.int (1 : Int32)), .val .null, .unset] []) _
    refine st2 _ ?_
    show Sp p e below T2 (mkF m 30 #[.val (.ref a1), .val (.ref a2), .val (.int (0 : Int32)), .val (.int (1 : Int32)), .val .null, .unset] [(.int cs_v)]) _
    refine XS.ifNo X2.here hx rfl (hb hby d3_30) rfl ((if0 _ _).trans (feq h_cs).1) ?_
    refine XS.aloadN X2.here hx rfl (hb hby d3_33) rfl rfl ?_
    refine XS.iloadN X2.here hx rfl (hb hby d3_34) rfl ?_
    refine XS.iloadN X2.here hx rfl (hb hby d3_35) rfl ?_
    show Sp p e below T2 (mkF m 36 #[.val (.ref a1), .val (.ref a2), .val (.int (0 : Int32)), .val (.int (1 : Int32)), .val .null, .unset] [(.int (1 : Int32)), (.int (0 : Int32)), (.ref a2)]) _
    refine st3 _ ?_
    show Sp p e below T3 (mkF m 39 #[.val (.ref a1), .val (.ref a2), .val (.int (0 : Int32)), .val (.int (1 : Int32)), .val .null, .unset] [(.ref b3_0)]) _
    refine XS.astore X3.here hx rfl (hb hby d3_39) rfl rfl (l' := #[.val (.ref a1), .val (.ref a2), .val (.int (0 : Int32)), .val (.int (1 : Int32)), .val .null, .val (.ref b3_0)]) rfl ?_
    refine XS.aloadN X3.here hx rfl (hb hby d3_41) rfl rfl ?_
    refine XS.aload X3.here hx rfl (hb hby d3_42) rfl rfl ?_
    refine XS.iloadN X3.here hx rfl (hb hby d3_44) rfl ?_
    show Sp p e below T3 (mkF m 45 #[.val (.ref a1), .val (.ref a2), .val (.int (0 : Int32)), .val (.int (1 : Int32)), .val .null, .val (.ref b3_0)] [(.int (1 : Int32)), (.ref b3_0), (.ref a1)]) _
    refine st4 _ ?_
    show Sp p e below T4 (mkF m 48 #[.val (.ref a1), .val (.ref a2), .val (.int (0 : Int32)), .val (.int (1 : Int32)), .val .null, .val (.ref b3_0)] [(.int (0 : Int32)), (.ref a1)]) _
    refine st5 _ ?_
    show Sp p e below T5 (mkF m 51 #[.val (.ref a1), .val (.ref a2), .val (.int (0 : Int32)), .val (.int (1 : Int32)), .val .null, .val (.ref b3_0)] []) _
    refine XS.aloadN X5.here hx rfl (hb hby d3_51) rfl rfl ?_
    refine XS.aload X5.here hx rfl (hb hby d3_52) rfl rfl ?_
    show Sp p e below T5 (mkF m 54 #[.val (.ref a1), .val (.ref a2), .val (.int (0 : Int32)), .val (.int (1 : Int32)), .val .null, .val (.ref b3_0)] [(.ref b3_0), (.ref a1)]) _
    refine st6 _ ?_
    show Sp p e below T6 (mkF m 57 #[.val (.ref a1), .val (.ref a2), .val (.int (0 : Int32)), .val (.int (1 : Int32)), .val .null, .val (.ref b3_0)] []) _
    exact X6.returnOut hx Bd.returns (hb hby d3_57) hr
  · show Q7 Z cs_v a1 a2 k_a2 p4 h0 n0 _ T6.heap _
    rw [e6]
    exact ⟨b3_0, kc3_0, rfl, N6, K6, sz_b3_0, (((E_a1.keep Kq3).wr W5).wr W6), (Fw5.other W6 (Or.inr (sn0 hw))), Fw6, ((fq3_0.wr W5).wr W6), f_7⟩
def Q8 (Z : State) (cs_v : Int32) (a1 : Addr) (a2 : Addr) (k_a2 : ClassId) (p4 : Int32) (h0 : Heap) (n0 : Nat) (v : Option Value) (h : Heap) (L : List Loc) : Prop := ∃ (b2_0 : Addr), ∃ (kc2_0 : ClassId), v = none ∧ Fr n0 L ∧ Keep h0 h [a1] ∧ h0.size ≤ b2_0 ∧ Exa Z h a1 "java/lang/String" ∧ Fld Z h a1 "java/lang/String" "coder" "B" (.int (0 : Int32)) ∧ Fld Z h a1 "java/lang/String" "value" "[B" (.ref b2_0) ∧ Exa Z h b2_0 "[B" ∧ Arv Z h b2_0 kc2_0 .byte (1 : Int32) [(.int (nar .byte (p4.toInt8.toInt32)))] (.int (0 : Int32))
set_option maxRecDepth 65536 in
set_option maxHeartbeats 40000000 in
theorem rm8 (l : Launch) (Z : State) (a0 : Array Value) (hw : ∀ d ∈ tables_1, d.before a0 Z = true) (ws : List Jvm.Cond) (cs_v : Int32) (hp : Perm Z cs_v) (a1 : Addr) (a2 : Addr) (k_a2 : ClassId) (p4 : Int32) (h0 : Heap) (n0 : Nat) (O0 : Old Z n0 h0) (V_a2 : Arv Z h0 a2 k_a2 .char (1 : Int32) [(.int p4)] (.int (0 : Int32))) (hc2 : ¬ ((255 : Int32) < p4)) (E_a1 : Exa Z h0 a1 "java/lang/String") (F_coder_a1 : Fld Z h0 a1 "java/lang/String" "coder" "B" (.int (0 : Int32))) (F_value_a1 : Fld Z h0 a1 "java/lang/String" "value" "[B" .null) (g_a1 : n0 ≤ a1) :
    MetFree l y1 (head1 (Jvm.Cond.code y1 jdk_42_method_3_code 2 none :: ws) ({ frames := 3, cells := 1, slots := 1, locals := 52 } : Room)) (fun a U => a = #[(.ref a1), (.ref a2)] ∧ Z.Warmed39 U.vm ∧ U.heap = h0) (fun _ _ _ _ _ => True) (fun _ U o U' => ∃ v L, o = .returned v ∧ Q8 Z cs_v a1 a2 k_a2 p4 h0 n0 v U'.heap L ∧ FrameEnd U o U' L ({ frames := 3, cells := 1, slots := 1, locals := 52 } : Room).cells ({ frames := 3, cells := 1, slots := 1, locals := 52 } : Room).slots) := by
  refine MetFree.of_bodySF (plainFor_of_name pn_3) hisR ?_
  intro p e s m args below meth c s₁ Bd hml0 hP hK
  obtain ⟨rfl, hZ, hh⟩ := hP
  have hx := Bd.exec
  have hby := Bd.bytes
  have hml : c.maxLocals = 2 := hml0
  have hown : s.vm.findClass "java/lang/String" = some m.cls := findClass_of_methodNamed Bd.named
  have hnm := (name_of_methodNamed Bd.named Bd.method).1
  have X0 : Stand p l e ({ frames := 3, cells := 1, slots := 1, locals := 52 } : Room) s m #[(.ref a1), (.ref a2)] below meth c s₁ [] 0 0 := Stand.of_body Bd
  have e0 : s₁.heap = h0 := by rw [← hh, Bd.state]; rfl
  have N0 := Fr.nil n0
  have hp' := hp
  obtain ⟨S_COMPACT_STRINGS, h_cs⟩ := hp'
  have pre0 : ∀ t, Steps p.tables e below (s₁.setTop (mkF m 0 #[.val (.ref a1), .val (.ref a2)] [])) t → Steps p.tables e below (s₁.setTop (entryFrame m #[(.ref a1), (.ref a2)] 2)) t := fun t k => castTop (ef_2_0 m a1 a2) k
  obtain ⟨cl1, Ar1, -, S1, Nn1, -, -⟩ := id V_a2
  obtain ⟨_, _, ⟨T2, L2, k2, n2⟩, -, X2, ⟨Lc2, hQ2, l2, y2, z2⟩, st2⟩ := X0.specialBack hx (y := y0) rfl hown (mvT hZ (wq hw 11 rfl)) (mvT hZ (wq hw 12 rfl)) (mvT hZ (wq hw 14 rfl)) (by decide) (backOf (W := 0) (rm7 l Z a0 hw [] cs_v hp a1 a2 k_a2 p4 h0 n0 O0 V_a2 hc2 E_a1 F_coder_a1 F_value_a1 g_a1) hZ (wq hw 14 rfl) (wq hw 6 rfl) (by decide) (by decide)) (g := (mkF m 6 #[.val (.ref a1), .val (.ref a2)] [.null, (.int (1 : Int32)), (.int (0 : Int32)), (.ref a2), (.ref a1)])) rfl (by rw [hml]; rfl) (Steps.refl _) (a := a1) (argsL := [(.ref a2), (.int (0 : Int32)), (.int (1 : Int32)), .null]) (rest := []) (lenOf pd_0 rfl) rfl (by show 2 * 0 + _ ≤ _; exact Nat.le_of_eq rfl) (hb hby d2_6) (fun _ _ => ⟨rfl, e0, (by decide : 0 + 1 ≤ _), (by decide : 0 + 1 ≤ _)⟩)
  dsimp only [Pt.U, Pt.locs, Pt.cells, Pt.slots] at X2 l2 y2 z2 st2 hQ2
  subst l2 y2 z2
  obtain ⟨b2_0, kc2_0, rfl, Nq2, Kq2, sq_b2_0, fq2_0, fq2_1, fq2_2, fq2_3, fq2_4⟩ := hQ2
  have N2 := Fr.app N0 Nq2
  have g_b2_0 : n0 ≤ b2_0 := Nat.le_trans (own_sz O0) sq_b2_0
  have sz_b2_0 : h0.size ≤ b2_0 := Nat.le_trans (Keep.refl h0 [a1]).1 sq_b2_0
  have O2 := O0.keep Kq2 (allS g_a1 all0)
  have K2 : Keep h0 T2.heap [a1] := (Keep.refl h0 [a1]).trans Kq2 (allS (Or.inl (List.mem_of_getElem? (i := 0) rfl)) all0)
  obtain ⟨fs, hr, hrun, hended, hW, hsame⟩ := X2.leave (v := none) (fun _ => rfl)
  refine ⟨_, _, pre0 _ ?_, hrun, hended, _, _, rfl, ?_, ⟨_, rfl⟩, hW, hsame.mono (by decide) (by decide)⟩
  · show Sp p e below s₁ (mkF m 0 #[.val (.ref a1), .val (.ref a2)] []) _
    refine XS.aloadN X0.here hx rfl (hb hby d2_0) rfl rfl ?_
    refine XS.aloadN X0.here hx rfl (hb hby d2_1) rfl rfl ?_
    refine XS.iconst X0.here hx rfl (hb hby d2_2) ?_
    refine XS.aloadN X0.here hx rfl (hb hby d2_3) rfl rfl ?_
    show Sp p e below s₁ (mkF m 4 #[.val (.ref a1), .val (.ref a2)] [(.ref a2), (.int (0 : Int32)), (.ref a2), (.ref a1)]) _
    refine X0.arraylength hx (by rw [e0]; exact Ar1.1) (State.isArrayOf_alike hZ.alike Ar1.2.1) (g := (mkF m 4 #[.val (.ref a1), .val (.ref a2)] [(.ref a2), (.int (0 : Int32)), (.ref a2), (.ref a1)])) rfl rfl (hb hby d2_4) _ ?_
    rw [len_of S1 Nn1]
    show Sp p e below s₁ (mkF m 5 #[.val (.ref a1), .val (.ref a2)] [(.int (1 : Int32)), (.int (0 : Int32)), (.ref a2), (.ref a1)]) _
    refine XS.aconstNull X0.here hx rfl (hb hby d2_5) ?_
    show Sp p e below s₁ (mkF m 6 #[.val (.ref a1), .val (.ref a2)] [.null, (.int (1 : Int32)), (.int (0 : Int32)), (.ref a2), (.ref a1)]) _
    refine st2.trans ?_
    show Sp p e below T2 (mkF m 9 #[.val (.ref a1), .val (.ref a2)] []) _
    exact X2.returnOut hx Bd.returns (hb hby d2_9) hr
  · show Q8 Z cs_v a1 a2 k_a2 p4 h0 n0 _ T2.heap _
    exact ⟨b2_0, kc2_0, rfl, N2, K2, sz_b2_0, fq2_0, fq2_1, fq2_2, fq2_3, fq2_4⟩
theorem d1_34 : decode method_2_code 34 = .ok (.areturn, 1) := by decide +kernel
def Q9 (Z : State) (cs_v : Int32) (p0 : Int32) (p1 : Int32) (p2 : Int32) (h0 : Heap) (n0 : Nat) (v : Option Value) (h : Heap) (L : List Loc) : Prop := ∃ (b1 b7_0 : Addr), ∃ (kc7_0 : ClassId), v = some (.ref b1) ∧ Fr n0 L ∧ Keep h0 h [] ∧ h0.size ≤ b1 ∧ h0.size ≤ b7_0 ∧ b1 ≠ b7_0 ∧ Exa Z h b1 "java/lang/String" ∧ Fld Z h b1 "java/lang/String" "coder" "B" (.int (0 : Int32)) ∧ Fld Z h b1 "java/lang/String" "value" "[B" (.ref b7_0) ∧ Exa Z h b7_0 "[B" ∧ Arv Z h b7_0 kc7_0 .byte (1 : Int32) [(.int (nar .byte ((nar .char p1).toInt8.toInt32)))] (.int (0 : Int32))
set_option maxRecDepth 65536 in
set_option maxHeartbeats 40000000 in
theorem rm9 (l : Launch) (Z : State) (a0 : Array Value) (hw : ∀ d ∈ tables_1, d.before a0 Z = true) (ws : List Jvm.Cond) (cs_v : Int32) (hp : Perm Z cs_v) (p0 : Int32) (p1 : Int32) (p2 : Int32) (h0 : Heap) (n0 : Nat) (O0 : Old Z n0 h0) (hc1 : ¬ ((255 : Int32) < (nar .char p1))) (hc2 : ¬ ((255 : Int32) < (nar .char p2))) (hc3 : ¬ (p0 = (0 : Int32))) (hc4 : p0 = (1 : Int32)) :
    MetFree l y2 (head1 (Jvm.Cond.code y2 method_2_code 3 (some (.object "java/lang/String")) :: ws) ({ frames := 4, cells := 4, slots := 8, locals := 66 } : Room)) (fun a U => a = #[(.int p0), (.int p1), (.int p2)] ∧ Z.Warmed39 U.vm ∧ U.heap = h0 ∧ CHv Z own_EL U.vm h0 ∧ ∀ x ∈ ([] : List Addr), Safe Z own_EL U.vm h0 x) (fun _ _ _ _ _ => True) (fun _ U o U' => ∃ v L, o = .returned v ∧ Q9 Z cs_v p0 p1 p2 h0 n0 v U'.heap L ∧ CHr Z own_EL U.vm U.heap U'.vm U'.heap ∧ ReturnedEndW U o U' L ({ frames := 4, cells := 4, slots := 8, locals := 66 } : Room).cells ({ frames := 4, cells := 4, slots := 8, locals := 66 } : Room).slots) := by
  refine MetFree.of_bodySF (plainFor_of_name pn_1) hisR ?_
  intro p e s m args below meth c s₁ Bd hml0 hP hK
  obtain ⟨rfl, hZo, hh, hCH, hSL⟩ := hP
  have hx := Bd.exec
  have hby := Bd.bytes
  have hml : c.maxLocals = 3 := hml0
  have hown : (s.setVm s.vm).vm.findClass "com/example/epcrtools/epcrtools/exchange/RuleSetKeyEqualsPinLaw" = some m.cls := findClass_of_methodNamed Bd.named
  have hnm := (name_of_methodNamed Bd.named Bd.method).1
  have X0 : Stand p l e ({ frames := 4, cells := 4, slots := 8, locals := 66 } : Room) (s.setVm s.vm) m #[(.int p0), (.int p1), (.int p2)] below meth c s₁ [] 0 0 := Stand.of_body Bd
  have e0 : s₁.heap = h0 := by rw [← hh, Bd.state]; rfl
  have N0 := Fr.nil n0
  have hZ : Z.Warmed39 (s.setVm s.vm).vm := hZo
  have CH0 := CHr.refl hCH
  have hS0 : s.Since s.vm 0 := (State.WarmedH.refl s).since 0
  have hk0 : 0 ≤ h0.size := Nat.zero_le _
  have hp' := hp
  obtain ⟨S_COMPACT_STRINGS, h_cs⟩ := hp'
  have pre0 : ∀ t, Steps p.tables e below (s₁.setTop (mkF m 0 #[.val (.int p0), .val (.int p1), .val (.int p2)] [])) t → Steps p.tables e below (s₁.setTop (entryFrame m #[(.int p0), (.int p1), (.int p2)] 3)) t := fun t k => castTop (ef_1_0 m p0 p1 p2) k
  obtain ⟨T1, h1, X1, e1, E1, A1, D1, -, st1⟩ := newO X0 hx hZ hown (wq hw 4 rfl) (wq hw 5 rfl) (wq hw 6 rfl) e0 (g := (mkF m 20 #[.val (.int p0), .val (.int p1), .val (.int p2)] [])) rfl (hb hby d1_20) (by decide) (by decide)
  obtain ⟨b1, g1⟩ : ∃ z, z = h0.size := ⟨_, rfl⟩
  rw [← g1] at A1 D1 st1
  have g_b1 : n0 ≤ b1 := Nat.le_trans (own_sz O0) (Nat.le_of_eq g1.symm)
  have sz_b1 : h0.size ≤ b1 := Nat.le_trans (Keep.refl h0 []).1 (Nat.le_of_eq g1.symm)
  have O1 := O0.ext E1
  have K1 : Keep h0 h1 [] := (Keep.refl h0 []).ext E1
  have CH1 := CH0.trans (CHr.ext E1 CH0.1)
  have hk1 := Nat.le_trans hk0 E1.1
  have F_coder_b1 : Fld Z h1 b1 "java/lang/String" "coder" "B" (.int (0 : Int32)) := D1 (Or.inr (wq hw 31 rfl)) (ty := .byte) (by decide)
  have F_value_b1 : Fld Z h1 b1 "java/lang/String" "value" "[B" .null := D1 (Or.inr (wq hw 33 rfl)) (ty := (.array .byte)) (by decide)
  obtain ⟨T2, h2, k2, X2, e2, E2, A2, EA2, st2⟩ := newPE X1 hx hZ (wq hw 7 rfl) e1 (g := (mkF m 25 #[.val (.int p0), .val (.int p1), .val (.int p2)] [(.int (1 : Int32)), (.ref b1), (.ref b1)])) rfl (hb hby d1_25) rfl (by decide) (cap := 1) (by decide) (by decide) (by decide) (by decide) (ad := "[C") (by decide)
  obtain ⟨b2, g2⟩ : ∃ z, z = h1.size := ⟨_, rfl⟩
  rw [← g2] at A2 EA2 st2
  have g_b2 : n0 ≤ b2 := Nat.le_trans (own_sz O1) (Nat.le_of_eq g2.symm)
  have sz_b2 : h0.size ≤ b2 := Nat.le_trans K1.1 (Nat.le_of_eq g2.symm)
  have O2 := O1.ext E2
  have K2 : Keep h0 h2 [] := K1.ext E2
  have CH2 := CH1.trans (CHr.ext E2 CH1.1)
  have hk2 := Nat.le_trans hk1 E2.1
  have V_b2 : Arv Z h2 b2 k2 .char (1 : Int32) [(.int (0 : Int32))] (.int (0 : Int32)) := (Arv.new A2 (by decide)).pad (pad_rep [] (.int (0 : Int32)) 1)
  obtain ⟨cl3, Ar3, q3, S3, Nn3, H3, G3⟩ := id V_b2
  have hin3 : ¬ ((0 : Int32) < 0 ∨ cl3.slots.size ≤ ((0 : Int32)).toNatClampNeg) := inb_of S3 ⟨by decide, by decide⟩
  obtain ⟨T4, h4, X4, e4, W4, st4⟩ := stC X2 hx hZ e2 Ar3 (j := (0 : Int32)) hin3 (g := (mkF m 30 #[.val (.int p0), .val (.int p1), .val (.int p2)] [(.int p1), (.int (0 : Int32)), (.ref b2), (.ref b2), (.ref b1), (.ref b1)])) rfl rfl (hb hby d1_30)
  have N4 := Fr.snoc X4 N0 g_b2
  have O4 := O2.wr W4 g_b2
  have K4 : Keep h0 h4 [] := K2.wr W4 (Or.inr sz_b2)
  have CH4 := CH2.trans (CHr.wr W4 (Safe.exa hZ.alike EA2 (by decide) (by decide)) CH2.1)
  have hk4 := Nat.le_trans hk2 (Keep.of_wr W4).1
  have V_b2_4 : Arv Z h4 b2 k2 .char (1 : Int32) [(.int (nar .char p1))] (.int (0 : Int32)) := Arv.set Ar3 q3 S3 Nn3 H3 G3 (fits_nar_char _) W4 0 rfl (Nat.le_of_ble_eq_true rfl)
  have f_5 := ((F_coder_b1.ext E2).other W4 (Or.inl (Nat.ne_of_lt (Nat.lt_of_lt_of_le A1.lt (Nat.le_of_eq g2.symm)))))
  have f_6 := ((F_value_b1.ext E2).other W4 (Or.inl (Nat.ne_of_lt (Nat.lt_of_lt_of_le A1.lt (Nat.le_of_eq g2.symm)))))
  obtain ⟨_, _, ⟨T7, L7, k7, n7⟩, -, X7, ⟨Lc7, hQ7, l7, y7, z7⟩, st7⟩ := X4.specialBack hx (y := y1) rfl hown (mvT hZ (wq hw 8 rfl)) (mvT hZ (wq hw 9 rfl)) (mvT hZ (wq hw 10 rfl)) (by decide) (backOf (W := 1) (rm8 l Z a0 hw [] cs_v hp b1 b2 k2 (nar .char p1) h4 n0 O4 V_b2_4 hc1 ((A1.ext E2).wr W4) f_5 f_6 g_b1) hZ (wq hw 10 rfl) (wq hw 6 rfl) (by decide) (by decide)) (g := (mkF m 31 #[.val (.int p0), .val (.int p1), .val (.int p2)] [(.ref b2), (.ref b1), (.ref b1)])) rfl (by rw [hml]; rfl) (Steps.refl _) (a := b1) (argsL := [(.ref b2)]) (rest := [(.ref b1)]) (lenOf pd_1 rfl) rfl (by show 2 * 0 + _ ≤ _; exact Nat.le_of_eq rfl) (hb hby d1_31) (fun _ _ => ⟨rfl, e4, (by decide : 2 + 1 ≤ _), (by decide : 5 + 1 ≤ _)⟩)
  dsimp only [Pt.U, Pt.locs, Pt.cells, Pt.slots] at X7 l7 y7 z7 st7 hQ7
  subst l7 y7 z7
  obtain ⟨b7_0, kc7_0, rfl, Nq7, Kq7, sq_b7_0, fq7_0, fq7_1, fq7_2, fq7_3, fq7_4⟩ := hQ7
  have N7 := Fr.app N4 Nq7
  have g_b7_0 : n0 ≤ b7_0 := Nat.le_trans (own_sz O4) sq_b7_0
  have sz_b7_0 : h0.size ≤ b7_0 := Nat.le_trans K4.1 sq_b7_0
  have sf_8 := (Safe.wr W4 (Safe.exa hZ.alike EA2 (by decide) (by decide)) CH2.1 (Safe.ext E2 CH1.1 (Safe.ext E1 CH0.1 (Safe.new (Nat.le_of_eq g1.symm)))))
  have CH7 := CH4.trans (CHr.keep Kq7 (allS sf_8 all0) CH4.1)
  have hk7 := Nat.le_trans hk4 Kq7.1
  have O7 := O4.keep Kq7 (allS g_b1 all0)
  have K7 : Keep h0 T7.heap [] := K4.trans Kq7 (allS (Or.inr sz_b1) all0)
  obtain ⟨fs, hr, hrun, hended, hE⟩ := Stand.leaveW (s := s) X7 hS0 hk7 (v := some (.ref b1)) (fun h => by rw [Bd.returns] at h; cases h)
  have CHz : CHr Z own_EL s.vm s.heap (T7.setFrames fs).vm (T7.setFrames fs).heap := by
    rw [hh]
    show CHr Z own_EL s.vm h0 T7.vm T7.heap
    exact CH7.trans (CHv.at X7 hZ (own_EW hw) CH7.1)
  refine ⟨_, _, pre0 _ ?_, hrun, hended, _, _, rfl, ?_, CHz, hE.1, hE.2.1, hE.2.2.1, hE.2.2.2.mono (by decide) (by decide)⟩
  · show Sp p e below s₁ (mkF m 0 #[.val (.int p0), .val (.int p1), .val (.int p2)] []) _
    refine XS.iloadN X0.here hx rfl (hb hby d1_0) rfl ?_
    refine XS.ifYes X0.here hx rfl (pc0 := 1) (pc' := 15) rfl (hb hby d1_1) rfl ((if0 _ _).trans (feq hc3).2) (by decide) (by decide) ?_
    refine XS.iloadN X0.here hx rfl (hb hby d1_15) rfl ?_
    refine XS.iconst X0.here hx rfl (hb hby d1_16) ?_
    show Sp p e below s₁ (mkF m 17 #[.val (.int p0), .val (.int p1), .val (.int p2)] [(.int (1 : Int32)), (.int p0)]) _
    refine XS.icmpNo X0.here hx rfl (hb hby d1_17) rfl (teq hc4).2 ?_
    show Sp p e below s₁ (mkF m 20 #[.val (.int p0), .val (.int p1), .val (.int p2)] []) _
    refine st1 _ ?_
    show Sp p e below T1 (mkF m 23 #[.val (.int p0), .val (.int p1), .val (.int p2)] [(.ref b1)]) _
    refine XS.dup X1.here hx rfl (hb hby d1_23) rfl rfl ?_
    refine XS.iconst X1.here hx rfl (hb hby d1_24) ?_
    show Sp p e below T1 (mkF m 25 #[.val (.int p0), .val (.int p1), .val (.int p2)] [(.int (1 : Int32)), (.ref b1), (.ref b1)]) _
    refine st2 _ ?_
    show Sp p e below T2 (mkF m 27 #[.val (.int p0), .val (.int p1), .val (.int p2)] [(.ref b2), (.ref b1), (.ref b1)]) _
    refine XS.dup X2.here hx rfl (hb hby d1_27) rfl rfl ?_
    refine XS.iconst X2.here hx rfl (hb hby d1_28) ?_
    refine XS.iloadN X2.here hx rfl (hb hby d1_29) rfl ?_
    show Sp p e below T2 (mkF m 30 #[.val (.int p0), .val (.int p1), .val (.int p2)] [(.int p1), (.int (0 : Int32)), (.ref b2), (.ref b2), (.ref b1), (.ref b1)]) _
    refine st4 _ ?_
    show Sp p e below T4 (mkF m 31 #[.val (.int p0), .val (.int p1), .val (.int p2)] [(.ref b2), (.ref b1), (.ref b1)]) _
    refine st7.trans ?_
    show Sp p e below T7 (mkF m 34 #[.val (.int p0), .val (.int p1), .val (.int p2)] [(.ref b1)]) _
    jvm_step X7.here [X7.here.top, hx, (hb hby d1_34), X7.method', Bd.returns, Value.isRef, FieldType.isReference]
    first | (intro acts; rw [hr _ acts rfl rfl rfl]) | rw [hr _ _ rfl rfl rfl]
    exact Steps.refl _
  · show Q9 Z cs_v p0 p1 p2 h0 n0 _ T7.heap _
    exact ⟨b1, b7_0, kc7_0, rfl, N7, K7, sz_b1, sz_b7_0, (Nat.ne_of_lt (Nat.lt_of_lt_of_le ((A1.ext E2).wr W4).lt sq_b7_0)), fq7_0, fq7_1, fq7_2, fq7_3, fq7_4⟩
theorem d1_35 : decode method_2_code 35 = .ok (.new 7, 3) := by decide +kernel
theorem d1_38 : decode method_2_code 38 = .ok (.dup, 1) := by decide +kernel
theorem d1_39 : decode method_2_code 39 = .ok (.iconst 2, 1) := by decide +kernel
theorem d1_40 : decode method_2_code 40 = .ok (.newarray .char, 2) := by decide +kernel
theorem d1_42 : decode method_2_code 42 = .ok (.dup, 1) := by decide +kernel
theorem d1_43 : decode method_2_code 43 = .ok (.iconst 0, 1) := by decide +kernel
theorem d1_44 : decode method_2_code 44 = .ok (.iload_n 1, 1) := by decide +kernel
theorem d1_45 : decode method_2_code 45 = .ok (.castore, 1) := by decide +kernel
theorem d1_46 : decode method_2_code 46 = .ok (.dup, 1) := by decide +kernel
theorem d1_47 : decode method_2_code 47 = .ok (.iconst 1, 1) := by decide +kernel
theorem d1_48 : decode method_2_code 48 = .ok (.iload_n 2, 1) := by decide +kernel
theorem d1_49 : decode method_2_code 49 = .ok (.castore, 1) := by decide +kernel
theorem d1_50 : decode method_2_code 50 = .ok (.invokespecial 9, 3) := by decide +kernel
abbrev fx8 : Int32 := (((0 : Int32) + (1 : Int32)) + (1 : Int32))
def Q10 (Z : State) (cs_v : Int32) (a1 : Addr) (a2 : Addr) (k_a1 : ClassId) (p4 : Int32) (p5 : Int32) (k_a2 : ClassId) (h0 : Heap) (n0 : Nat) (v : Option Value) (h : Heap) (L : List Loc) : Prop := v = some (.int (2 : Int32)) ∧ Fr n0 L ∧ Keep h0 h [a2] ∧ Exa Z h a2 "[B" ∧ Arv Z h a2 k_a2 .byte (2 : Int32) [(.int (nar .byte (p4.toInt8.toInt32))), (.int (nar .byte (p5.toInt8.toInt32)))] (.int (0 : Int32))
set_option maxRecDepth 65536 in
set_option maxHeartbeats 40000000 in
theorem rm10 (l : Launch) (Z : State) (a0 : Array Value) (hw : ∀ d ∈ tables_1, d.before a0 Z = true) (ws : List Jvm.Cond) (cs_v : Int32) (hp : Perm Z cs_v) (a1 : Addr) (a2 : Addr) (k_a1 : ClassId) (p4 : Int32) (p5 : Int32) (k_a2 : ClassId) (h0 : Heap) (n0 : Nat) (O0 : Old Z n0 h0) (V_a1 : Arv Z h0 a1 k_a1 .char (2 : Int32) [(.int p4), (.int p5)] (.int (0 : Int32))) (hc2 : ¬ ((255 : Int32) < p4)) (E_a2 : Exa Z h0 a2 "[B") (V_a2 : Arv Z h0 a2 k_a2 .byte (2 : Int32) [(.int (0 : Int32)), (.int (0 : Int32))] (.int (0 : Int32))) (g_a2 : n0 ≤ a2) (ne_a1_a2 : a1 ≠ a2) (hc7 : ¬ ((255 : Int32) < p5)) :
    MetFree l y3 (head1 (Jvm.Cond.code y3 jdk_52_method_21_code 7 (some .int) :: ws) ({ frames := 0, cells := 0, slots := 0, locals := 0 } : Room)) (fun a U => a = #[(.ref a1), (.int (0 : Int32)), (.ref a2), (.int (0 : Int32)), (.int (2 : Int32))] ∧ Z.Warmed39 U.vm ∧ U.heap = h0) (fun _ _ _ _ _ => True) (fun _ U o U' => ∃ v L, o = .returned v ∧ Q10 Z cs_v a1 a2 k_a1 p4 p5 k_a2 h0 n0 v U'.heap L ∧ FrameEnd U o U' L ({ frames := 0, cells := 0, slots := 0, locals := 0 } : Room).cells ({ frames := 0, cells := 0, slots := 0, locals := 0 } : Room).slots) := by
  refine MetFree.of_bodySF (plainFor_of_name pn_6) hisR ?_
  intro p e s m args below meth c s₁ Bd hml0 hP hK
  obtain ⟨rfl, hZ, hh⟩ := hP
  have hx := Bd.exec
  have hby := Bd.bytes
  have hml : c.maxLocals = 7 := hml0
  have hown : s.vm.findClass "java/lang/StringUTF16" = some m.cls := findClass_of_methodNamed Bd.named
  have hnm := (name_of_methodNamed Bd.named Bd.method).1
  have X0 : Stand p l e ({ frames := 0, cells := 0, slots := 0, locals := 0 } : Room) s m #[(.ref a1), (.int (0 : Int32)), (.ref a2), (.int (0 : Int32)), (.int (2 : Int32))] below meth c s₁ [] 0 0 := Stand.of_body Bd
  have e0 : s₁.heap = h0 := by rw [← hh, Bd.state]; rfl
  have N0 := Fr.nil n0
  have hp' := hp
  obtain ⟨S_COMPACT_STRINGS, h_cs⟩ := hp'
  have pre0 : ∀ t, Steps p.tables e below (s₁.setTop (mkF m 0 #[.val (.ref a1), .val (.int (0 : Int32)), .val (.ref a2), .val (.int (0 : Int32)), .val (.int (2 : Int32)), .unset, .unset] [])) t → Steps p.tables e below (s₁.setTop (entryFrame m #[(.ref a1), (.int (0 : Int32)), (.ref a2), (.int (0 : Int32)), (.int (2 : Int32))] 7)) t := fun t k => castTop (ef_6_0 m a1 (0 : Int32) a2 (0 : Int32) (2 : Int32)) k
  obtain ⟨cl1, Ar1, -, S1, -, H1, -⟩ := id V_a1
  have hin1 : ¬ ((0 : Int32) < 0 ∨ cl1.slots.size ≤ ((0 : Int32)).toNatClampNeg) := inb_of S1 ⟨by decide, by decide⟩
  have hat1 : cl1.slots[((0 : Int32)).toNatClampNeg]? = some (.int p4) := H1.at hin1 rfl
  obtain ⟨cl2, Ar2, q2, S2, Nn2, H2, G2⟩ := id V_a2
  have hin2 : ¬ ((0 : Int32) < 0 ∨ cl2.slots.size ≤ ((0 : Int32)).toNatClampNeg) := inb_of S2 ⟨by decide, by decide⟩
  obtain ⟨T3, h3, X3, e3, W3, st3⟩ := stB X0 hx hZ e0 Ar2 (j := (0 : Int32)) hin2 (g := (mkF m 31 #[.val (.ref a1), .val (.int (0 : Int32)), .val (.ref a2), .val (.int (0 : Int32)), .val (.int (2 : Int32)), .val (.int (0 : Int32)), .val (.int p4)] [(.int (p4.toInt8.toInt32)), (.int (0 : Int32)), (.ref a2)])) rfl rfl (hb hby d6_31)
  have N3 := Fr.snoc X3 N0 g_a2
  have O3 := O0.wr W3 g_a2
  have K3 : Keep h0 h3 [a2] := (Keep.refl h0 [a2]).wr W3 (Or.inl (List.mem_of_getElem? (i := 0) rfl))
  have V_a2_3 : Arv Z h3 a2 k_a2 .byte (2 : Int32) [(.int (nar .byte (p4.toInt8.toInt32))), (.int (0 : Int32))] (.int (0 : Int32)) := Arv.set Ar2 q2 S2 Nn2 H2 G2 (fits_nar_byte _) W3 0 rfl (Nat.le_of_ble_eq_true rfl)
  obtain ⟨cl4, Ar4, -, S4, -, H4, -⟩ := id (V_a1.other W3 ne_a1_a2)
  have hin4 : ¬ (((0 : Int32) + (1 : Int32)) < 0 ∨ cl4.slots.size ≤ (((0 : Int32) + (1 : Int32))).toNatClampNeg) := inb_of S4 ⟨by decide, by decide⟩
  have hat4 : cl4.slots[(((0 : Int32) + (1 : Int32))).toNatClampNeg]? = some (.int p5) := H4.at hin4 rfl
  obtain ⟨cl5, Ar5, q5, S5, Nn5, H5, G5⟩ := id V_a2_3
  have hin5 : ¬ (((0 : Int32) + (1 : Int32)) < 0 ∨ cl5.slots.size ≤ (((0 : Int32) + (1 : Int32))).toNatClampNeg) := inb_of S5 ⟨by decide, by decide⟩
  obtain ⟨T6, h6, X6, e6, W6, st6⟩ := stB X3 hx hZ e3 Ar5 (j := ((0 : Int32) + (1 : Int32))) hin5 (g := (mkF m 31 #[.val (.ref a1), .val (.int (fx6 )), .val (.ref a2), .val (.int (fx6 )), .val (.int (2 : Int32)), .val (.int (fx6 )), .val (.int p5)] [(.int (p5.toInt8.toInt32)), (.int (fx6 )), (.ref a2)])) rfl rfl (hb hby d6_31)
  have N6 := Fr.snoc X6 N3 g_a2
  have O6 := O3.wr W6 g_a2
  have K6 : Keep h0 h6 [a2] := K3.wr W6 (Or.inl (List.mem_of_getElem? (i := 0) rfl))
  have V_a2_6 : Arv Z h6 a2 k_a2 .byte (2 : Int32) [(.int (nar .byte (p4.toInt8.toInt32))), (.int (nar .byte (p5.toInt8.toInt32)))] (.int (0 : Int32)) := Arv.set Ar5 q5 S5 Nn5 H5 G5 (fits_nar_byte _) W6 1 rfl (Nat.le_of_ble_eq_true rfl)
  obtain ⟨fs, hr, hrun, hended, hW, hsame⟩ := X6.leave (v := some (.int (2 : Int32))) (fun h => by rw [Bd.returns] at h; cases h)
  refine ⟨_, _, pre0 _ ?_, hrun, hended, _, _, rfl, ?_, ⟨_, rfl⟩, hW, hsame.mono (by decide) (by decide)⟩
  · show Sp p e below s₁ (mkF m 0 #[.val (.ref a1), .val (.int (0 : Int32)), .val (.ref a2), .val (.int (0 : Int32)), .val (.int (2 : Int32)), .unset, .unset] []) _
    refine XS.iconst X0.here hx rfl (hb hby d6_0) ?_
    refine XS.istore X0.here hx rfl (hb hby d6_1) rfl (l' := #[.val (.ref a1), .val (.int (0 : Int32)), .val (.ref a2), .val (.int (0 : Int32)), .val (.int (2 : Int32)), .val (.int (0 : Int32)), .unset]) rfl ?_
    refine XS.iload X0.here hx rfl (hb hby d6_3) rfl ?_
    refine XS.iload X0.here hx rfl (hb hby d6_5) rfl ?_
    show Sp p e below s₁ (mkF m 7 #[.val (.ref a1), .val (.int (0 : Int32)), .val (.ref a2), .val (.int (0 : Int32)), .val (.int (2 : Int32)), .val (.int (0 : Int32)), .unset] [(.int (2 : Int32)), (.int (0 : Int32))]) _
    refine XS.icmpNo X0.here hx rfl (hb hby d6_7) rfl (tlt (by decide : (0 : Int32) < (2 : Int32))).2.1 ?_
    refine XS.aloadN X0.here hx rfl (hb hby d6_10) rfl rfl ?_
    refine XS.iloadN X0.here hx rfl (hb hby d6_11) rfl ?_
    show Sp p e below s₁ (mkF m 12 #[.val (.ref a1), .val (.int (0 : Int32)), .val (.ref a2), .val (.int (0 : Int32)), .val (.int (2 : Int32)), .val (.int (0 : Int32)), .unset] [(.int (0 : Int32)), (.ref a1)]) _
    refine X0.caload hx (j := (0 : Int32)) (v := (.int p4)) (by rw [e0]; exact Ar1.1) (State.isArrayOf_alike hZ.alike Ar1.2.1) Ar1.2.2 hin1 hat1 (g := (mkF m 12 #[.val (.ref a1), .val (.int (0 : Int32)), .val (.ref a2), .val (.int (0 : Int32)), .val (.int (2 : Int32)), .val (.int (0 : Int32)), .unset] [(.int (0 : Int32)), (.ref a1)])) rfl rfl (hb hby d6_12) _ ?_
    show Sp p e below s₁ (mkF m 13 #[.val (.ref a1), .val (.int (0 : Int32)), .val (.ref a2), .val (.int (0 : Int32)), .val (.int (2 : Int32)), .val (.int (0 : Int32)), .unset] [(.int p4)]) _
    refine XS.istore X0.here hx rfl (hb hby d6_13) rfl (l' := #[.val (.ref a1), .val (.int (0 : Int32)), .val (.ref a2), .val (.int (0 : Int32)), .val (.int (2 : Int32)), .val (.int (0 : Int32)), .val (.int p4)]) rfl ?_
    refine XS.iload X0.here hx rfl (hb hby d6_15) rfl ?_
    refine XS.sipush X0.here hx rfl (hb hby d6_17) ?_
    refine XS.icmpYes X0.here hx rfl (pc0 := 20) (pc' := 26) rfl (hb hby d6_20) rfl (flt hc2).2.2.2 (by decide) (by decide) ?_
    show Sp p e below s₁ (mkF m 26 #[.val (.ref a1), .val (.int (0 : Int32)), .val (.ref a2), .val (.int (0 : Int32)), .val (.int (2 : Int32)), .val (.int (0 : Int32)), .val (.int p4)] []) _
    refine XS.aloadN X0.here hx rfl (hb hby d6_26) rfl rfl ?_
    refine XS.iloadN X0.here hx rfl (hb hby d6_27) rfl ?_
    refine XS.iload X0.here hx rfl (hb hby d6_28) rfl ?_
    refine XS.i2b X0.here hx rfl (hb hby d6_30) rfl ?_
    show Sp p e below s₁ (mkF m 31 #[.val (.ref a1), .val (.int (0 : Int32)), .val (.ref a2), .val (.int (0 : Int32)), .val (.int (2 : Int32)), .val (.int (0 : Int32)), .val (.int p4)] [(.int (p4.toInt8.toInt32)), (.int (0 : Int32)), (.ref a2)]) _
    refine st3 _ ?_
    show Sp p e below T3 (mkF m 32 #[.val (.ref a1), .val (.int (0 : Int32)), .val (.ref a2), .val (.int (0 : Int32)), .val (.int (2 : Int32)), .val (.int (0 : Int32)), .val (.int p4)] []) _
    refine XS.iinc X3.here hx rfl (hb hby d6_32) rfl (l' := #[.val (.ref a1), .val (.int (fx6 )), .val (.ref a2), .val (.int (0 : Int32)), .val (.int (2 : Int32)), .val (.int (0 : Int32)), .val (.int p4)]) rfl ?_
    show Sp p e below T3 (mkF m 35 #[.val (.ref a1), .val (.int (fx6 )), .val (.ref a2), .val (.int (0 : Int32)), .val (.int (2 : Int32)), .val (.int (0 : Int32)), .val (.int p4)] []) _
    refine XS.iinc X3.here hx rfl (hb hby d6_35) rfl (l' := #[.val (.ref a1), .val (.int (fx6 )), .val (.ref a2), .val (.int (fx6 )), .val (.int (2 : Int32)), .val (.int (0 : Int32)), .val (.int p4)]) rfl ?_
    show Sp p e below T3 (mkF m 38 #[.val (.ref a1), .val (.int (fx6 )), .val (.ref a2), .val (.int (fx6 )), .val (.int (2 : Int32)), .val (.int (0 : Int32)), .val (.int p4)] []) _
    refine XS.iinc X3.here hx rfl (hb hby d6_38) rfl (l' := #[.val (.ref a1), .val (.int (fx6 )), .val (.ref a2), .val (.int (fx6 )), .val (.int (2 : Int32)), .val (.int (fx6 )), .val (.int p4)]) rfl ?_
    refine XS.goto X3.here hx rfl (pc0 := 41) (pc' := 3) rfl (hb hby d6_41) (by decide) (by decide) ?_
    refine XS.iload X3.here hx rfl (hb hby d6_3) rfl ?_
    refine XS.iload X3.here hx rfl (hb hby d6_5) rfl ?_
    show Sp p e below T3 (mkF m 7 #[.val (.ref a1), .val (.int (fx6 )), .val (.ref a2), .val (.int (fx6 )), .val (.int (2 : Int32)), .val (.int (fx6 )), .val (.int p4)] [(.int (2 : Int32)), (.int (fx6 ))]) _
    refine XS.icmpNo X3.here hx rfl (hb hby d6_7) rfl (tlt (by decide : ((0 : Int32) + (1 : Int32)) < (2 : Int32))).2.1 ?_
    refine XS.aloadN X3.here hx rfl (hb hby d6_10) rfl rfl ?_
    refine XS.iloadN X3.here hx rfl (hb hby d6_11) rfl ?_
    show Sp p e below T3 (mkF m 12 #[.val (.ref a1), .val (.int (fx6 )), .val (.ref a2), .val (.int (fx6 )), .val (.int (2 : Int32)), .val (.int (fx6 )), .val (.int p4)] [(.int (fx6 )), (.ref a1)]) _
    refine X3.caload hx (j := ((0 : Int32) + (1 : Int32))) (v := (.int p5)) (by rw [e3]; exact Ar4.1) (State.isArrayOf_alike hZ.alike Ar4.2.1) Ar4.2.2 hin4 hat4 (g := (mkF m 12 #[.val (.ref a1), .val (.int (fx6 )), .val (.ref a2), .val (.int (fx6 )), .val (.int (2 : Int32)), .val (.int (fx6 )), .val (.int p4)] [(.int (fx6 )), (.ref a1)])) rfl rfl (hb hby d6_12) _ ?_
    show Sp p e below T3 (mkF m 13 #[.val (.ref a1), .val (.int (fx6 )), .val (.ref a2), .val (.int (fx6 )), .val (.int (2 : Int32)), .val (.int (fx6 )), .val (.int p4)] [(.int p5)]) _
    refine XS.istore X3.here hx rfl (hb hby d6_13) rfl (l' := #[.val (.ref a1), .val (.int (fx6 )), .val (.ref a2), .val (.int (fx6 )), .val (.int (2 : Int32)), .val (.int (fx6 )), .val (.int p5)]) rfl ?_
    refine XS.iload X3.here hx rfl (hb hby d6_15) rfl ?_
    refine XS.sipush X3.here hx rfl (hb hby d6_17) ?_
    refine XS.icmpYes X3.here hx rfl (pc0 := 20) (pc' := 26) rfl (hb hby d6_20) rfl (flt hc7).2.2.2 (by decide) (by decide) ?_
    show Sp p e below T3 (mkF m 26 #[.val (.ref a1), .val (.int (fx6 )), .val (.ref a2), .val (.int (fx6 )), .val (.int (2 : Int32)), .val (.int (fx6 )), .val (.int p5)] []) _
    refine XS.aloadN X3.here hx rfl (hb hby d6_26) rfl rfl ?_
    refine XS.iloadN X3.here hx rfl (hb hby d6_27) rfl ?_
    refine XS.iload X3.here hx rfl (hb hby d6_28) rfl ?_
    refine XS.i2b X3.here hx rfl (hb hby d6_30) rfl ?_
    show Sp p e below T3 (mkF m 31 #[.val (.ref a1), .val (.int (fx6 )), .val (.ref a2), .val (.int (fx6 )), .val (.int (2 : Int32)), .val (.int (fx6 )), .val (.int p5)] [(.int (p5.toInt8.toInt32)), (.int (fx6 )), (.ref a2)]) _
    refine st6 _ ?_
    show Sp p e below T6 (mkF m 32 #[.val (.ref a1), .val (.int (fx6 )), .val (.ref a2), .val (.int (fx6 )), .val (.int (2 : Int32)), .val (.int (fx6 )), .val (.int p5)] []) _
    refine XS.iinc X6.here hx rfl (hb hby d6_32) rfl (l' := #[.val (.ref a1), .val (.int (fx8 )), .val (.ref a2), .val (.int (fx6 )), .val (.int (2 : Int32)), .val (.int (fx6 )), .val (.int p5)]) rfl ?_
    show Sp p e below T6 (mkF m 35 #[.val (.ref a1), .val (.int (fx8 )), .val (.ref a2), .val (.int (fx6 )), .val (.int (2 : Int32)), .val (.int (fx6 )), .val (.int p5)] []) _
    refine XS.iinc X6.here hx rfl (hb hby d6_35) rfl (l' := #[.val (.ref a1), .val (.int (fx8 )), .val (.ref a2), .val (.int (fx8 )), .val (.int (2 : Int32)), .val (.int (fx6 )), .val (.int p5)]) rfl ?_
    show Sp p e below T6 (mkF m 38 #[.val (.ref a1), .val (.int (fx8 )), .val (.ref a2), .val (.int (fx8 )), .val (.int (2 : Int32)), .val (.int (fx6 )), .val (.int p5)] []) _
    refine XS.iinc X6.here hx rfl (hb hby d6_38) rfl (l' := #[.val (.ref a1), .val (.int (fx8 )), .val (.ref a2), .val (.int (fx8 )), .val (.int (2 : Int32)), .val (.int (fx8 )), .val (.int p5)]) rfl ?_
    refine XS.goto X6.here hx rfl (pc0 := 41) (pc' := 3) rfl (hb hby d6_41) (by decide) (by decide) ?_
    refine XS.iload X6.here hx rfl (hb hby d6_3) rfl ?_
    refine XS.iload X6.here hx rfl (hb hby d6_5) rfl ?_
    show Sp p e below T6 (mkF m 7 #[.val (.ref a1), .val (.int (fx8 )), .val (.ref a2), .val (.int (fx8 )), .val (.int (2 : Int32)), .val (.int (fx8 )), .val (.int p5)] [(.int (2 : Int32)), (.int (fx8 ))]) _
    refine XS.icmpYes X6.here hx rfl (pc0 := 7) (pc' := 44) rfl (hb hby d6_7) rfl (flt (by decide : ¬ ((((0 : Int32) + (1 : Int32)) + (1 : Int32)) < (2 : Int32)))).2.1 (by decide) (by decide) ?_
    refine XS.iload X6.here hx rfl (hb hby d6_44) rfl ?_
    show Sp p e below T6 (mkF m 46 #[.val (.ref a1), .val (.int (fx8 )), .val (.ref a2), .val (.int (fx8 )), .val (.int (2 : Int32)), .val (.int (fx8 )), .val (.int p5)] [(.int (2 : Int32))]) _
    exact retI X6 hx Bd.returns (hb hby d6_46) hr
  · show Q10 Z cs_v a1 a2 k_a1 p4 p5 k_a2 h0 n0 _ T6.heap _
    rw [e6]
    exact ⟨rfl, N6, K6, ((E_a2.wr W3).wr W6), V_a2_6⟩
def Q11 (Z : State) (cs_v : Int32) (a1 : Addr) (k_a1 : ClassId) (p3 : Int32) (p4 : Int32) (h0 : Heap) (n0 : Nat) (v : Option Value) (h : Heap) (L : List Loc) : Prop := ∃ (b1 : Addr), ∃ (k1 : ClassId), v = some (.ref b1) ∧ Fr n0 L ∧ Keep h0 h [] ∧ h0.size ≤ b1 ∧ Exa Z h b1 "[B" ∧ Arv Z h b1 k1 .byte (2 : Int32) [(.int (nar .byte (p3.toInt8.toInt32))), (.int (nar .byte (p4.toInt8.toInt32)))] (.int (0 : Int32))
set_option maxRecDepth 65536 in
set_option maxHeartbeats 40000000 in
theorem rm11 (l : Launch) (Z : State) (a0 : Array Value) (hw : ∀ d ∈ tables_1, d.before a0 Z = true) (ws : List Jvm.Cond) (cs_v : Int32) (hp : Perm Z cs_v) (a1 : Addr) (k_a1 : ClassId) (p3 : Int32) (p4 : Int32) (h0 : Heap) (n0 : Nat) (O0 : Old Z n0 h0) (V_a1 : Arv Z h0 a1 k_a1 .char (2 : Int32) [(.int p3), (.int p4)] (.int (0 : Int32))) (hc2 : ¬ ((255 : Int32) < p3)) (hc3 : ¬ ((255 : Int32) < p4)) (E_a1 : Exa Z h0 a1 "[C") :
    MetFree l y4 (head1 (Jvm.Cond.code y4 jdk_52_method_16_code 6 (some (.array .byte)) :: ws) ({ frames := 1, cells := 1, slots := 2, locals := 18 } : Room)) (fun a U => a = #[(.ref a1), (.int (0 : Int32)), (.int (2 : Int32))] ∧ Z.Warmed39 U.vm ∧ U.heap = h0) (fun _ _ _ _ _ => True) (fun _ U o U' => ∃ v L, o = .returned v ∧ Q11 Z cs_v a1 k_a1 p3 p4 h0 n0 v U'.heap L ∧ FrameEnd U o U' L ({ frames := 1, cells := 1, slots := 2, locals := 18 } : Room).cells ({ frames := 1, cells := 1, slots := 2, locals := 18 } : Room).slots) := by
  refine MetFree.of_bodySF (plainFor_of_name pn_6) hisR ?_
  intro p e s m args below meth c s₁ Bd hml0 hP hK
  obtain ⟨rfl, hZ, hh⟩ := hP
  have hx := Bd.exec
  have hby := Bd.bytes
  have hml : c.maxLocals = 6 := hml0
  have hown : s.vm.findClass "java/lang/StringUTF16" = some m.cls := findClass_of_methodNamed Bd.named
  have hnm := (name_of_methodNamed Bd.named Bd.method).1
  have X0 : Stand p l e ({ frames := 1, cells := 1, slots := 2, locals := 18 } : Room) s m #[(.ref a1), (.int (0 : Int32)), (.int (2 : Int32))] below meth c s₁ [] 0 0 := Stand.of_body Bd
  have e0 : s₁.heap = h0 := by rw [← hh, Bd.state]; rfl
  have N0 := Fr.nil n0
  have hp' := hp
  obtain ⟨S_COMPACT_STRINGS, h_cs⟩ := hp'
  have pre0 : ∀ t, Steps p.tables e below (s₁.setTop (mkF m 0 #[.val (.ref a1), .val (.int (0 : Int32)), .val (.int (2 : Int32)), .unset, .unset, .unset] [])) t → Steps p.tables e below (s₁.setTop (entryFrame m #[(.ref a1), (.int (0 : Int32)), (.int (2 : Int32))] 6)) t := fun t k => castTop (ef_5_0 m a1 (0 : Int32) (2 : Int32)) k
  obtain ⟨T1, h1, k1, X1, e1, E1, A1, EA1, st1⟩ := newPE X0 hx hZ (wq hw 23 rfl) e0 (g := (mkF m 1 #[.val (.ref a1), .val (.int (0 : Int32)), .val (.int (2 : Int32)), .unset, .unset, .unset] [(.int (2 : Int32))])) rfl (hb hby d5_1) rfl (by decide) (cap := 2) (by decide) (by decide) (by decide) (by decide) (ad := "[B") (by decide)
  obtain ⟨b1, g1⟩ : ∃ z, z = h0.size := ⟨_, rfl⟩
  rw [← g1] at A1 EA1 st1
  have g_b1 : n0 ≤ b1 := Nat.le_trans (own_sz O0) (Nat.le_of_eq g1.symm)
  have sz_b1 : h0.size ≤ b1 := Nat.le_trans (Keep.refl h0 []).1 (Nat.le_of_eq g1.symm)
  have O1 := O0.ext E1
  have K1 : Keep h0 h1 [] := (Keep.refl h0 []).ext E1
  have V_b1 : Arv Z h1 b1 k1 .byte (2 : Int32) [(.int (0 : Int32)), (.int (0 : Int32))] (.int (0 : Int32)) := (Arv.new A1 (by decide)).pad (pad_rep [] (.int (0 : Int32)) 2)
  obtain ⟨_, _, ⟨T2, L2, k2, n2⟩, -, X2, ⟨Lc2, hQ2, l2, y2, z2⟩, st2⟩ := Jvm.LawKit.callS X1 hx (y := y3) hown (mvT hZ (wq hw 24 rfl)) (mvT hZ (wq hw 25 rfl)) (mvT hZ (wq hw 21 rfl)) (mvT hZ (wq hw 26 rfl)) (by decide) (backOf (W := 0) (rm10 l Z a0 hw [] cs_v hp a1 b1 k_a1 p3 p4 k1 h1 n0 O1 (V_a1.ext E1) hc2 EA1 V_b1 g_b1 (Nat.ne_of_lt (Nat.lt_of_lt_of_le E_a1.lt sz_b1)) hc3) hZ (wq hw 26 rfl) (wq hw 21 rfl) (by decide) (by decide)) (g := (mkF m 9 #[.val (.ref a1), .val (.int (0 : Int32)), .val (.int (2 : Int32)), .val (.ref b1), .unset, .unset] [(.int (2 : Int32)), (.int (0 : Int32)), (.ref b1), (.int (0 : Int32)), (.ref a1)])) rfl (by rw [hml]; rfl) (argsL := [(.ref a1), (.int (0 : Int32)), (.ref b1), (.int (0 : Int32)), (.int (2 : Int32))]) (rest := []) (lenOf pd_2 rfl) rfl (by show 2 * 0 + _ ≤ _; exact Nat.le_of_eq rfl) (hb hby d5_9) (fun _ _ => ⟨rfl, e1, (by decide : 1 + 0 ≤ _), (by decide : 2 + 0 ≤ _)⟩)
  dsimp only [Pt.U, Pt.locs, Pt.cells, Pt.slots] at X2 l2 y2 z2 st2 hQ2
  subst l2 y2 z2
  obtain ⟨rfl, Nq2, Kq2, fq2_0, fq2_1⟩ := hQ2
  have N2 := Fr.app N0 Nq2
  have O2 := O1.keep Kq2 (allS g_b1 all0)
  have K2 : Keep h0 T2.heap [] := K1.trans Kq2 (allS (Or.inr sz_b1) all0)
  obtain ⟨fs, hr, hrun, hended, hW, hsame⟩ := X2.leave (v := some (.ref b1)) (fun h => by rw [Bd.returns] at h; cases h)
  refine ⟨_, _, pre0 _ ?_, hrun, hended, _, _, rfl, ?_, ⟨_, rfl⟩, hW, hsame.mono (by decide) (by decide)⟩
  · show Sp p e below s₁ (mkF m 0 #[.val (.ref a1), .val (.int (0 : Int32)), .val (.int (2 : Int32)), .unset, .unset, .unset] []) _
    refine XS.iloadN X0.here hx rfl (hb hby d5_0) rfl ?_
    show Sp p e below s₁ (mkF m 1 #[.val (.ref a1), .val (.int (0 : Int32)), .val (.int (2 : Int32)), .unset, .unset, .unset] [(.int (2 : Int32))]) _
    refine st1 _ ?_
    show Sp p e below T1 (mkF m 3 #[.val (.ref a1), .val (.int (0 : Int32)), .val (.int (2 : Int32)), .unset, .unset, .unset] [(.ref b1)]) _
    refine XS.astoreN X1.here hx rfl (hb hby d5_3) rfl rfl (l' := #[.val (.ref a1), .val (.int (0 : Int32)), .val (.int (2 : Int32)), .val (.ref b1), .unset, .unset]) rfl ?_
    refine XS.aloadN X1.here hx rfl (hb hby d5_4) rfl rfl ?_
    refine XS.iloadN X1.here hx rfl (hb hby d5_5) rfl ?_
    refine XS.aloadN X1.here hx rfl (hb hby d5_6) rfl rfl ?_
    show Sp p e below T1 (mkF m 7 #[.val (.ref a1), .val (.int (0 : Int32)), .val (.int (2 : Int32)), .val (.ref b1), .unset, .unset] [(.ref b1), (.int (0 : Int32)), (.ref a1)]) _
    refine XS.iconst X1.here hx rfl (hb hby d5_7) ?_
    refine XS.iloadN X1.here hx rfl (hb hby d5_8) rfl ?_
    show Sp p e below T1 (mkF m 9 #[.val (.ref a1), .val (.int (0 : Int32)), .val (.int (2 : Int32)), .val (.ref b1), .unset, .unset] [(.int (2 : Int32)), (.int (0 : Int32)), (.ref b1), (.int (0 : Int32)), (.ref a1)]) _
    refine st2 _ ?_
    show Sp p e below T2 (mkF m 12 #[.val (.ref a1), .val (.int (0 : Int32)), .val (.int (2 : Int32)), .val (.ref b1), .unset, .unset] [(.int (2 : Int32))]) _
    refine XS.istore X2.here hx rfl (hb hby d5_12) rfl (l' := #[.val (.ref a1), .val (.int (0 : Int32)), .val (.int (2 : Int32)), .val (.ref b1), .val (.int (2 : Int32)), .unset]) rfl ?_
    refine XS.iload X2.here hx rfl (hb hby d5_14) rfl ?_
    refine XS.iloadN X2.here hx rfl (hb hby d5_16) rfl ?_
    refine XS.icmpYes X2.here hx rfl (pc0 := 17) (pc' := 57) rfl (hb hby d5_17) rfl (teq (by decide : (2 : Int32) = (2 : Int32))).1 (by decide) (by decide) ?_
    show Sp p e below T2 (mkF m 57 #[.val (.ref a1), .val (.int (0 : Int32)), .val (.int (2 : Int32)), .val (.ref b1), .val (.int (2 : Int32)), .unset] []) _
    refine XS.aloadN X2.here hx rfl (hb hby d5_57) rfl rfl ?_
    show Sp p e below T2 (mkF m 58 #[.val (.ref a1), .val (.int (0 : Int32)), .val (.int (2 : Int32)), .val (.ref b1), .val (.int (2 : Int32)), .unset] [(.ref b1)]) _
    jvm_step X2.here [X2.here.top, hx, (hb hby d5_58), X2.method', Bd.returns, Value.isRef, FieldType.isReference]
    first | (intro acts; rw [hr _ acts rfl rfl rfl]) | rw [hr _ _ rfl rfl rfl]
    exact Steps.refl _
  · show Q11 Z cs_v a1 k_a1 p3 p4 h0 n0 _ T2.heap _
    exact ⟨b1, k1, rfl, N2, K2, sz_b1, fq2_0, fq2_1⟩
abbrev fx9 : Int32 := (((((2 : Int32) - (2 : Int32)).toUInt32 >>> ((31 : Int32) &&& 31).toUInt32).toInt32).toInt8.toInt32)
def Q12 (Z : State) (cs_v : Int32) (a1 : Addr) (k_a1 : ClassId) (p3 : Int32) (p4 : Int32) (h0 : Heap) (n0 : Nat) (v : Option Value) (h : Heap) (L : List Loc) : Prop := v = some (.int (0 : Int32)) ∧ Fr n0 L ∧ h = h0
set_option maxRecDepth 65536 in
set_option maxHeartbeats 40000000 in
theorem rm12 (l : Launch) (Z : State) (a0 : Array Value) (hw : ∀ d ∈ tables_1, d.before a0 Z = true) (ws : List Jvm.Cond) (cs_v : Int32) (hp : Perm Z cs_v) (a1 : Addr) (k_a1 : ClassId) (p3 : Int32) (p4 : Int32) (h0 : Heap) (n0 : Nat) (O0 : Old Z n0 h0) (V_a1 : Arv Z h0 a1 k_a1 .byte (2 : Int32) [(.int p3), (.int p4)] (.int (0 : Int32))) :
    MetFree l y5 (head1 (Jvm.Cond.code y5 jdk_52_method_15_code 2 (some .byte) :: ws) ({ frames := 0, cells := 0, slots := 0, locals := 0 } : Room)) (fun a U => a = #[(.ref a1), (.int (2 : Int32))] ∧ Z.Warmed39 U.vm ∧ U.heap = h0) (fun _ _ _ _ _ => True) (fun _ U o U' => ∃ v L, o = .returned v ∧ Q12 Z cs_v a1 k_a1 p3 p4 h0 n0 v U'.heap L ∧ FrameEnd U o U' L ({ frames := 0, cells := 0, slots := 0, locals := 0 } : Room).cells ({ frames := 0, cells := 0, slots := 0, locals := 0 } : Room).slots) := by
  refine MetFree.of_bodySF (plainFor_of_name pn_6) hisR ?_
  intro p e s m args below meth c s₁ Bd hml0 hP hK
  obtain ⟨rfl, hZ, hh⟩ := hP
  have hx := Bd.exec
  have hby := Bd.bytes
  have hml : c.maxLocals = 2 := hml0
  have hown : s.vm.findClass "java/lang/StringUTF16" = some m.cls := findClass_of_methodNamed Bd.named
  have hnm := (name_of_methodNamed Bd.named Bd.method).1
  have X0 : Stand p l e ({ frames := 0, cells := 0, slots := 0, locals := 0 } : Room) s m #[(.ref a1), (.int (2 : Int32))] below meth c s₁ [] 0 0 := Stand.of_body Bd
  have e0 : s₁.heap = h0 := by rw [← hh, Bd.state]; rfl
  have N0 := Fr.nil n0
  have hp' := hp
  obtain ⟨S_COMPACT_STRINGS, h_cs⟩ := hp'
  have pre0 : ∀ t, Steps p.tables e below (s₁.setTop (mkF m 0 #[.val (.ref a1), .val (.int (2 : Int32))] [])) t → Steps p.tables e below (s₁.setTop (entryFrame m #[(.ref a1), (.int (2 : Int32))] 2)) t := fun t k => castTop (ef_7_0 m a1 (2 : Int32)) k
  obtain ⟨cl1, Ar1, -, S1, Nn1, -, -⟩ := id V_a1
  obtain ⟨fs, hr, hrun, hended, hW, hsame⟩ := X0.leave (v := some (.int (0 : Int32))) (fun h => by rw [Bd.returns] at h; cases h)
  refine ⟨_, _, pre0 _ ?_, hrun, hended, _, _, rfl, ?_, ⟨_, rfl⟩, hW, hsame.mono (by decide) (by decide)⟩
  · show Sp p e below s₁ (mkF m 0 #[.val (.ref a1), .val (.int (2 : Int32))] []) _
    refine XS.iloadN X0.here hx rfl (hb hby d7_0) rfl ?_
    refine XS.aloadN X0.here hx rfl (hb hby d7_1) rfl rfl ?_
    show Sp p e below s₁ (mkF m 2 #[.val (.ref a1), .val (.int (2 : Int32))] [(.ref a1), (.int (2 : Int32))]) _
    refine X0.arraylength hx (by rw [e0]; exact Ar1.1) (State.isArrayOf_alike hZ.alike Ar1.2.1) (g := (mkF m 2 #[.val (.ref a1), .val (.int (2 : Int32))] [(.ref a1), (.int (2 : Int32))])) rfl rfl (hb hby d7_2) _ ?_
    rw [len_of S1 Nn1]
    show Sp p e below s₁ (mkF m 3 #[.val (.ref a1), .val (.int (2 : Int32))] [(.int (2 : Int32)), (.int (2 : Int32))]) _
    refine XS.isub X0.here hx rfl (hb hby d7_3) rfl ?_
    refine XS.bipush X0.here hx rfl (hb hby d7_4) ?_
    refine XS.iushr X0.here hx rfl (hb hby d7_6) rfl ?_
    refine XS.i2b X0.here hx rfl (hb hby d7_7) rfl ?_
    show Sp p e below s₁ (mkF m 8 #[.val (.ref a1), .val (.int (2 : Int32))] [(.int (fx9 ))]) _
    exact retN X0 hx (t := .byte) Bd.returns (by simp) (hb hby d7_8) hr
  · show Q12 Z cs_v a1 k_a1 p3 p4 h0 n0 _ s₁.heap _
    rw [e0]
    exact ⟨rfl, N0, rfl⟩
def Q13 (Z : State) (cs_v : Int32) (a1 : Addr) (a2 : Addr) (k_a2 : ClassId) (p4 : Int32) (p5 : Int32) (h0 : Heap) (n0 : Nat) (v : Option Value) (h : Heap) (L : List Loc) : Prop := ∃ (b3_0 : Addr), ∃ (kc3_0 : ClassId), v = none ∧ Fr n0 L ∧ Keep h0 h [a1] ∧ h0.size ≤ b3_0 ∧ Exa Z h a1 "java/lang/String" ∧ Fld Z h a1 "java/lang/String" "coder" "B" (.int (0 : Int32)) ∧ Fld Z h a1 "java/lang/String" "value" "[B" (.ref b3_0) ∧ Exa Z h b3_0 "[B" ∧ Arv Z h b3_0 kc3_0 .byte (2 : Int32) [(.int (nar .byte (p4.toInt8.toInt32))), (.int (nar .byte (p5.toInt8.toInt32)))] (.int (0 : Int32))
set_option maxRecDepth 65536 in
set_option maxHeartbeats 40000000 in
theorem rm13 (l : Launch) (Z : State) (a0 : Array Value) (hw : ∀ d ∈ tables_1, d.before a0 Z = true) (ws : List Jvm.Cond) (cs_v : Int32) (hp : Perm Z cs_v) (a1 : Addr) (a2 : Addr) (k_a2 : ClassId) (p4 : Int32) (p5 : Int32) (h0 : Heap) (n0 : Nat) (O0 : Old Z n0 h0) (V_a2 : Arv Z h0 a2 k_a2 .char (2 : Int32) [(.int p4), (.int p5)] (.int (0 : Int32))) (hc2 : ¬ ((255 : Int32) < p4)) (hc3 : ¬ ((255 : Int32) < p5)) (E_a2 : Exa Z h0 a2 "[C") (E_a1 : Exa Z h0 a1 "java/lang/String") (F_coder_a1 : Fld Z h0 a1 "java/lang/String" "coder" "B" (.int (0 : Int32))) (F_value_a1 : Fld Z h0 a1 "java/lang/String" "value" "[B" .null) (g_a1 : n0 ≤ a1) :
    MetFree l y0 (head1 (Jvm.Cond.code y0 jdk_42_method_149_code 6 none :: ws) ({ frames := 2, cells := 1, slots := 2, locals := 35 } : Room)) (fun a U => a = #[(.ref a1), (.ref a2), (.int (0 : Int32)), (.int (2 : Int32)), .null] ∧ Z.Warmed39 U.vm ∧ U.heap = h0) (fun _ _ _ _ _ => True) (fun _ U o U' => ∃ v L, o = .returned v ∧ Q13 Z cs_v a1 a2 k_a2 p4 p5 h0 n0 v U'.heap L ∧ FrameEnd U o U' L ({ frames := 2, cells := 1, slots := 2, locals := 35 } : Room).cells ({ frames := 2, cells := 1, slots := 2, locals := 35 } : Room).slots) := by
  refine MetFree.of_bodySF (plainFor_of_name pn_3) hisR ?_
  intro p e s m args below meth c s₁ Bd hml0 hP hK
  obtain ⟨rfl, hZ, hh⟩ := hP
  have hx := Bd.exec
  have hby := Bd.bytes
  have hml : c.maxLocals = 6 := hml0
  have hown : s.vm.findClass "java/lang/String" = some m.cls := findClass_of_methodNamed Bd.named
  have hnm := (name_of_methodNamed Bd.named Bd.method).1
  have X0 : Stand p l e ({ frames := 2, cells := 1, slots := 2, locals := 35 } : Room) s m #[(.ref a1), (.ref a2), (.int (0 : Int32)), (.int (2 : Int32)), .null] below meth c s₁ [] 0 0 := Stand.of_body Bd
  have e0 : s₁.heap = h0 := by rw [← hh, Bd.state]; rfl
  have N0 := Fr.nil n0
  have hp' := hp
  obtain ⟨S_COMPACT_STRINGS, h_cs⟩ := hp'
  have pre0 : ∀ t, Steps p.tables e below (s₁.setTop (mkF m 0 #[.val (.ref a1), .val (.ref a2), .val (.int (0 : Int32)), .val (.int (2 : Int32)), .val .null, .unset] [])) t → Steps p.tables e below (s₁.setTop (entryFrame m #[(.ref a1), (.ref a2), (.int (0 : Int32)), (.int (2 : Int32)), .null] 6)) t := fun t k => castTop (ef_3_0 m a1 a2 (0 : Int32) (2 : Int32)) k
  obtain ⟨T1, X1, e1, st1⟩ := initO X0 hx hZ hown (wq hw 15 rfl) (wq hw 16 rfl) (wq hw 17 rfl) e0 (g := (mkF m 1 #[.val (.ref a1), .val (.ref a2), .val (.int (0 : Int32)), .val (.int (2 : Int32)), .val .null, .unset] [(.ref a1)])) rfl (by rw [hml]; rfl) rfl (hb hby d3_1) (by decide) (W := 0) (by show 2 * 0 + _ ≤ _; exact Nat.le_of_eq rfl) (by decide)
  obtain ⟨T2, X2, e2, st2⟩ := getS2 X1 hx hZ hown (host := "") (Or.inl (wq hw 18 rfl)) Via.refl e1 (S_COMPACT_STRINGS.ext O0.2) (g := (mkF m 27 #[.val (.ref a1), .val (.ref a2), .val (.int (0 : Int32)), .val (.int (2 : Int32)), .val .null, .unset] [])) rfl (hb hby d3_27)
  obtain ⟨_, _, ⟨T3, L3, k3, n3⟩, -, X3, ⟨Lc3, hQ3, l3, y3, z3⟩, st3⟩ := Jvm.LawKit.callS X2 hx (y := y4) hown (mvT hZ (wq hw 19 rfl)) (mvT hZ (wq hw 20 rfl)) (mvT hZ (wq hw 21 rfl)) (mvT hZ (wq hw 22 rfl)) (by decide) (backOf (W := 0) (rm11 l Z a0 hw [] cs_v hp a2 k_a2 p4 p5 h0 n0 O0 V_a2 hc2 hc3 E_a2) hZ (wq hw 22 rfl) (wq hw 21 rfl) (by decide) (by decide)) (g := (mkF m 36 #[.val (.ref a1), .val (.ref a2), .val (.int (0 : Int32)), .val (.int (2 : Int32)), .val .null, .unset] [(.int (2 : Int32)), (.int (0 : Int32)), (.ref a2)])) rfl (by rw [hml]; rfl) (argsL := [(.ref a2), (.int (0 : Int32)), (.int (2 : Int32))]) (rest := []) (lenOf pd_3 rfl) rfl (by show 2 * 0 + _ ≤ _; exact Nat.le_of_eq rfl) (hb hby d3_36) (fun _ _ => ⟨rfl, e2, (by decide : 0 + 1 ≤ _), (by decide : 0 + 2 ≤ _)⟩)
  dsimp only [Pt.U, Pt.locs, Pt.cells, Pt.slots] at X3 l3 y3 z3 st3 hQ3
  subst l3 y3 z3
  obtain ⟨b3_0, kc3_0, rfl, Nq3, Kq3, sq_b3_0, fq3_0, fq3_1⟩ := hQ3
  have N3 := Fr.app N0 Nq3
  have g_b3_0 : n0 ≤ b3_0 := Nat.le_trans (own_sz O0) sq_b3_0
  have sz_b3_0 : h0.size ≤ b3_0 := Nat.le_trans (Keep.refl h0 [a1]).1 sq_b3_0
  have O3 := O0.keep Kq3 all0
  have K3 : Keep h0 T3.heap [a1] := (Keep.refl h0 [a1]).trans Kq3 all0
  obtain ⟨_, _, ⟨T4, L4, k4, n4⟩, -, X4, ⟨Lc4, hQ4, l4, y4, z4⟩, st4⟩ := Jvm.LawKit.callS X3 hx (y := y5) hown (mvT hZ (wq hw 27 rfl)) (mvT hZ (wq hw 28 rfl)) (mvT hZ (wq hw 21 rfl)) (mvT hZ (wq hw 29 rfl)) (by decide) (backOf (W := 1) (rm12 l Z a0 hw [] cs_v hp b3_0 kc3_0 (nar .byte (p4.toInt8.toInt32)) (nar .byte (p5.toInt8.toInt32)) T3.heap n0 O3 fq3_1) hZ (wq hw 29 rfl) (wq hw 21 rfl) (by decide) (by decide)) (g := (mkF m 45 #[.val (.ref a1), .val (.ref a2), .val (.int (0 : Int32)), .val (.int (2 : Int32)), .val .null, .val (.ref b3_0)] [(.int (2 : Int32)), (.ref b3_0), (.ref a1)])) rfl (by rw [hml]; rfl) (argsL := [(.ref b3_0), (.int (2 : Int32))]) (rest := [(.ref a1)]) (lenOf pd_4 rfl) rfl (by show 2 * 0 + _ ≤ _; exact Nat.le_of_eq rfl) (hb hby d3_45) (fun _ _ => ⟨rfl, rfl, (by decide : 1 + 0 ≤ _), (by decide : 2 + 0 ≤ _)⟩)
  dsimp only [Pt.U, Pt.locs, Pt.cells, Pt.slots] at X4 l4 y4 z4 st4 hQ4
  subst l4 y4 z4
  obtain ⟨rfl, Nq4, eq4⟩ := hQ4
  have N4 := Fr.app N3 Nq4
  obtain ⟨T5, h5, X5, e5, W5, st5⟩ := putFN X4 hx hZ hown (wq hw 30 rfl) Via.refl eq4 (F_coder_a1.keep Kq3 nin0) (E_a1.keep Kq3) (Or.inr ⟨(wq hw 31 rfl), rfl, hnm⟩) (wq hw 5 rfl) (ty := .byte) (v' := (.int (0 : Int32))) (by decide) rfl rfl (g := (mkF m 48 #[.val (.ref a1), .val (.ref a2), .val (.int (0 : Int32)), .val (.int (2 : Int32)), .val .null, .val (.ref b3_0)] [(.int (0 : Int32)), (.ref a1)])) rfl rfl (hb hby d3_48)
  have N5 := Fr.snoc X5 N4 g_a1
  have O5 := O3.wr W5 g_a1
  have K5 : Keep h0 h5 [a1] := K3.wr W5 (Or.inl (List.mem_of_getElem? (i := 0) rfl))
  have Fw5 := (F_coder_a1.keep Kq3 nin0).same W5
  obtain ⟨T6, h6, X6, e6, W6, st6⟩ := putF X5 hx hZ hown (host := "") (Or.inl (wq hw 32 rfl)) Via.refl e5 ((F_value_a1.keep Kq3 nin0).other W5 (Or.inr (sn1 hw))) ((E_a1.keep Kq3).wr W5) (Or.inr ⟨(wq hw 33 rfl), rfl, hnm⟩) (wq hw 5 rfl) (ty := (.array .byte)) (by decide) rfl rfl (g := (mkF m 54 #[.val (.ref a1), .val (.ref a2), .val (.int (0 : Int32)), .val (.int (2 : Int32)), .val .null, .val (.ref b3_0)] [(.ref b3_0), (.ref a1)])) rfl rfl (hb hby d3_54)
  have N6 := Fr.snoc X6 N5 g_a1
  have O6 := O5.wr W6 g_a1
  have K6 : Keep h0 h6 [a1] := K5.wr W6 (Or.inl (List.mem_of_getElem? (i := 0) rfl))
  have Fw6 := ((F_value_a1.keep Kq3 nin0).other W5 (Or.inr (sn1 hw))).same W6
  have f_7 := ((fq3_1.other W5 (Ne.symm (Nat.ne_of_lt (Nat.lt_of_lt_of_le E_a1.lt sz_b3_0)))).other W6 (Ne.symm (Nat.ne_of_lt (Nat.lt_of_lt_of_le E_a1.lt sz_b3_0))))
  obtain ⟨fs, hr, hrun, hended, hW, hsame⟩ := X6.leave (v := none) (fun _ => rfl)
  refine ⟨_, _, pre0 _ ?_, hrun, hended, _, _, rfl, ?_, ⟨_, rfl⟩, hW, hsame.mono (by decide) (by decide)⟩
  · show Sp p e below s₁ (mkF m 0 #[.val (.ref a1), .val (.ref a2), .val (.int (0 : Int32)), .val (.int (2 : Int32)), .val .null, .unset] []) _
    refine XS.aloadN X0.here hx rfl (hb hby d3_0) rfl rfl ?_
    show Sp p e below s₁ (mkF m 1 #[.val (.ref a1), .val (.ref a2), .val (.int (0 : Int32)), .val (.int (2 : Int32)), .val .null, .unset] [(.ref a1)]) _
    refine st1 _ ?_
    show Sp p e below T1 (mkF m 4 #[.val (.ref a1), .val (.ref a2), .val (.int (0 : Int32)), .val (.int (2 : Int32)), .val .null, .unset] []) _
    refine XS.iloadN X1.here hx rfl (hb hby d3_4) rfl ?_
    refine XS.ifYes X1.here hx rfl (pc0 := 5) (pc' := 27) rfl (hb hby d3_5) rfl ((if0 _ _).trans (feq (by decide : ¬ ((2 : Int32) = (0 : Int32)))).2) (by decide) (by decide) ?_
    show Sp p e below T1 (mkF m 27 #[.val (.ref a1), .val (.ref a2), .val (.int (0 : Int32)), .val (.int (2 : Int32)), .val .null, .unset] []) _
    refine st2 _ ?_
    show Sp p e below T2 (mkF m 30 #[.val (.ref a1), .val (.ref a2), .val (.int (0 : Int32)), .val (.int (2 : Int32)), .val .null, .unset] [(.int cs_v)]) _
    refine XS.ifNo X2.here hx rfl (hb hby d3_30) rfl ((if0 _ _).trans (feq h_cs).1) ?_
    refine XS.aloadN X2.here hx rfl (hb hby d3_33) rfl rfl ?_
    refine XS.iloadN X2.here hx rfl (hb hby d3_34) rfl ?_
    refine XS.iloadN X2.here hx rfl (hb hby d3_35) rfl ?_
    show Sp p e below T2 (mkF m 36 #[.val (.ref a1), .val (.ref a2), .val (.int (0 : Int32)), .val (.int (2 : Int32)), .val .null, .unset] [(.int (2 : Int32)), (.int (0 : Int32)), (.ref a2)]) _
    refine st3 _ ?_
    show Sp p e below T3 (mkF m 39 #[.val (.ref a1), .val (.ref a2), .val (.int (0 : Int32)), .val (.int (2 : Int32)), .val .null, .unset] [(.ref b3_0)]) _
    refine XS.astore X3.here hx rfl (hb hby d3_39) rfl rfl (l' := #[.val (.ref a1), .val (.ref a2), .val (.int (0 : Int32)), .val (.int (2 : Int32)), .val .null, .val (.ref b3_0)]) rfl ?_
    refine XS.aloadN X3.here hx rfl (hb hby d3_41) rfl rfl ?_
    refine XS.aload X3.here hx rfl (hb hby d3_42) rfl rfl ?_
    refine XS.iloadN X3.here hx rfl (hb hby d3_44) rfl ?_
    show Sp p e below T3 (mkF m 45 #[.val (.ref a1), .val (.ref a2), .val (.int (0 : Int32)), .val (.int (2 : Int32)), .val .null, .val (.ref b3_0)] [(.int (2 : Int32)), (.ref b3_0), (.ref a1)]) _
    refine st4 _ ?_
    show Sp p e below T4 (mkF m 48 #[.val (.ref a1), .val (.ref a2), .val (.int (0 : Int32)), .val (.int (2 : Int32)), .val .null, .val (.ref b3_0)] [(.int (0 : Int32)), (.ref a1)]) _
    refine st5 _ ?_
    show Sp p e below T5 (mkF m 51 #[.val (.ref a1), .val (.ref a2), .val (.int (0 : Int32)), .val (.int (2 : Int32)), .val .null, .val (.ref b3_0)] []) _
    refine XS.aloadN X5.here hx rfl (hb hby d3_51) rfl rfl ?_
    refine XS.aload X5.here hx rfl (hb hby d3_52) rfl rfl ?_
    show Sp p e below T5 (mkF m 54 #[.val (.ref a1), .val (.ref a2), .val (.int (0 : Int32)), .val (.int (2 : Int32)), .val .null, .val (.ref b3_0)] [(.ref b3_0), (.ref a1)]) _
    refine st6 _ ?_
    show Sp p e below T6 (mkF m 57 #[.val (.ref a1), .val (.ref a2), .val (.int (0 : Int32)), .val (.int (2 : Int32)), .val .null, .val (.ref b3_0)] []) _
    exact X6.returnOut hx Bd.returns (hb hby d3_57) hr
  · show Q13 Z cs_v a1 a2 k_a2 p4 p5 h0 n0 _ T6.heap _
    rw [e6]
    exact ⟨b3_0, kc3_0, rfl, N6, K6, sz_b3_0, (((E_a1.keep Kq3).wr W5).wr W6), (Fw5.other W6 (Or.inr (sn0 hw))), Fw6, ((fq3_0.wr W5).wr W6), f_7⟩
def Q14 (Z : State) (cs_v : Int32) (a1 : Addr) (a2 : Addr) (k_a2 : ClassId) (p4 : Int32) (p5 : Int32) (h0 : Heap) (n0 : Nat) (v : Option Value) (h : Heap) (L : List Loc) : Prop := ∃ (b2_0 : Addr), ∃ (kc2_0 : ClassId), v = none ∧ Fr n0 L ∧ Keep h0 h [a1] ∧ h0.size ≤ b2_0 ∧ Exa Z h a1 "java/lang/String" ∧ Fld Z h a1 "java/lang/String" "coder" "B" (.int (0 : Int32)) ∧ Fld Z h a1 "java/lang/String" "value" "[B" (.ref b2_0) ∧ Exa Z h b2_0 "[B" ∧ Arv Z h b2_0 kc2_0 .byte (2 : Int32) [(.int (nar .byte (p4.toInt8.toInt32))), (.int (nar .byte (p5.toInt8.toInt32)))] (.int (0 : Int32))
set_option maxRecDepth 65536 in
set_option maxHeartbeats 40000000 in
theorem rm14 (l : Launch) (Z : State) (a0 : Array Value) (hw : ∀ d ∈ tables_1, d.before a0 Z = true) (ws : List Jvm.Cond) (cs_v : Int32) (hp : Perm Z cs_v) (a1 : Addr) (a2 : Addr) (k_a2 : ClassId) (p4 : Int32) (p5 : Int32) (h0 : Heap) (n0 : Nat) (O0 : Old Z n0 h0) (V_a2 : Arv Z h0 a2 k_a2 .char (2 : Int32) [(.int p4), (.int p5)] (.int (0 : Int32))) (hc2 : ¬ ((255 : Int32) < p4)) (hc3 : ¬ ((255 : Int32) < p5)) (E_a2 : Exa Z h0 a2 "[C") (E_a1 : Exa Z h0 a1 "java/lang/String") (F_coder_a1 : Fld Z h0 a1 "java/lang/String" "coder" "B" (.int (0 : Int32))) (F_value_a1 : Fld Z h0 a1 "java/lang/String" "value" "[B" .null) (g_a1 : n0 ≤ a1) :
    MetFree l y1 (head1 (Jvm.Cond.code y1 jdk_42_method_3_code 2 none :: ws) ({ frames := 3, cells := 1, slots := 2, locals := 52 } : Room)) (fun a U => a = #[(.ref a1), (.ref a2)] ∧ Z.Warmed39 U.vm ∧ U.heap = h0) (fun _ _ _ _ _ => True) (fun _ U o U' => ∃ v L, o = .returned v ∧ Q14 Z cs_v a1 a2 k_a2 p4 p5 h0 n0 v U'.heap L ∧ FrameEnd U o U' L ({ frames := 3, cells := 1, slots := 2, locals := 52 } : Room).cells ({ frames := 3, cells := 1, slots := 2, locals := 52 } : Room).slots) := by
  refine MetFree.of_bodySF (plainFor_of_name pn_3) hisR ?_
  intro p e s m args below meth c s₁ Bd hml0 hP hK
  obtain ⟨rfl, hZ, hh⟩ := hP
  have hx := Bd.exec
  have hby := Bd.bytes
  have hml : c.maxLocals = 2 := hml0
  have hown : s.vm.findClass "java/lang/String" = some m.cls := findClass_of_methodNamed Bd.named
  have hnm := (name_of_methodNamed Bd.named Bd.method).1
  have X0 : Stand p l e ({ frames := 3, cells := 1, slots := 2, locals := 52 } : Room) s m #[(.ref a1), (.ref a2)] below meth c s₁ [] 0 0 := Stand.of_body Bd
  have e0 : s₁.heap = h0 := by rw [← hh, Bd.state]; rfl
  have N0 := Fr.nil n0
  have hp' := hp
  obtain ⟨S_COMPACT_STRINGS, h_cs⟩ := hp'
  have pre0 : ∀ t, Steps p.tables e below (s₁.setTop (mkF m 0 #[.val (.ref a1), .val (.ref a2)] [])) t → Steps p.tables e below (s₁.setTop (entryFrame m #[(.ref a1), (.ref a2)] 2)) t := fun t k => castTop (ef_2_0 m a1 a2) k
  obtain ⟨cl1, Ar1, -, S1, Nn1, -, -⟩ := id V_a2
  obtain ⟨_, _, ⟨T2, L2, k2, n2⟩, -, X2, ⟨Lc2, hQ2, l2, y2, z2⟩, st2⟩ := X0.specialBack hx (y := y0) rfl hown (mvT hZ (wq hw 11 rfl)) (mvT hZ (wq hw 12 rfl)) (mvT hZ (wq hw 14 rfl)) (by decide) (backOf (W := 0) (rm13 l Z a0 hw [] cs_v hp a1 a2 k_a2 p4 p5 h0 n0 O0 V_a2 hc2 hc3 E_a2 E_a1 F_coder_a1 F_value_a1 g_a1) hZ (wq hw 14 rfl) (wq hw 6 rfl) (by decide) (by decide)) (g := (mkF m 6 #[.val (.ref a1), .val (.ref a2)] [.null, (.int (2 : Int32)), (.int (0 : Int32)), (.ref a2), (.ref a1)])) rfl (by rw [hml]; rfl) (Steps.refl _) (a := a1) (argsL := [(.ref a2), (.int (0 : Int32)), (.int (2 : Int32)), .null]) (rest := []) (lenOf pd_0 rfl) rfl (by show 2 * 0 + _ ≤ _; exact Nat.le_of_eq rfl) (hb hby d2_6) (fun _ _ => ⟨rfl, e0, (by decide : 0 + 1 ≤ _), (by decide : 0 + 2 ≤ _)⟩)
  dsimp only [Pt.U, Pt.locs, Pt.cells, Pt.slots] at X2 l2 y2 z2 st2 hQ2
  subst l2 y2 z2
  obtain ⟨b2_0, kc2_0, rfl, Nq2, Kq2, sq_b2_0, fq2_0, fq2_1, fq2_2, fq2_3, fq2_4⟩ := hQ2
  have N2 := Fr.app N0 Nq2
  have g_b2_0 : n0 ≤ b2_0 := Nat.le_trans (own_sz O0) sq_b2_0
  have sz_b2_0 : h0.size ≤ b2_0 := Nat.le_trans (Keep.refl h0 [a1]).1 sq_b2_0
  have O2 := O0.keep Kq2 (allS g_a1 all0)
  have K2 : Keep h0 T2.heap [a1] := (Keep.refl h0 [a1]).trans Kq2 (allS (Or.inl (List.mem_of_getElem? (i := 0) rfl)) all0)
  obtain ⟨fs, hr, hrun, hended, hW, hsame⟩ := X2.leave (v := none) (fun _ => rfl)
  refine ⟨_, _, pre0 _ ?_, hrun, hended, _, _, rfl, ?_, ⟨_, rfl⟩, hW, hsame.mono (by decide) (by decide)⟩
  · show Sp p e below s₁ (mkF m 0 #[.val (.ref a1), .val (.ref a2)] []) _
    refine XS.aloadN X0.here hx rfl (hb hby d2_0) rfl rfl ?_
    refine XS.aloadN X0.here hx rfl (hb hby d2_1) rfl rfl ?_
    refine XS.iconst X0.here hx rfl (hb hby d2_2) ?_
    refine XS.aloadN X0.here hx rfl (hb hby d2_3) rfl rfl ?_
    show Sp p e below s₁ (mkF m 4 #[.val (.ref a1), .val (.ref a2)] [(.ref a2), (.int (0 : Int32)), (.ref a2), (.ref a1)]) _
    refine X0.arraylength hx (by rw [e0]; exact Ar1.1) (State.isArrayOf_alike hZ.alike Ar1.2.1) (g := (mkF m 4 #[.val (.ref a1), .val (.ref a2)] [(.ref a2), (.int (0 : Int32)), (.ref a2), (.ref a1)])) rfl rfl (hb hby d2_4) _ ?_
    rw [len_of S1 Nn1]
    show Sp p e below s₁ (mkF m 5 #[.val (.ref a1), .val (.ref a2)] [(.int (2 : Int32)), (.int (0 : Int32)), (.ref a2), (.ref a1)]) _
    refine XS.aconstNull X0.here hx rfl (hb hby d2_5) ?_
    show Sp p e below s₁ (mkF m 6 #[.val (.ref a1), .val (.ref a2)] [.null, (.int (2 : Int32)), (.int (0 : Int32)), (.ref a2), (.ref a1)]) _
    refine st2.trans ?_
    show Sp p e below T2 (mkF m 9 #[.val (.ref a1), .val (.ref a2)] []) _
    exact X2.returnOut hx Bd.returns (hb hby d2_9) hr
  · show Q14 Z cs_v a1 a2 k_a2 p4 p5 h0 n0 _ T2.heap _
    exact ⟨b2_0, kc2_0, rfl, N2, K2, sz_b2_0, fq2_0, fq2_1, fq2_2, fq2_3, fq2_4⟩
theorem d1_53 : decode method_2_code 53 = .ok (.areturn, 1) := by decide +kernel
def Q15 (Z : State) (cs_v : Int32) (p0 : Int32) (p1 : Int32) (p2 : Int32) (h0 : Heap) (n0 : Nat) (v : Option Value) (h : Heap) (L : List Loc) : Prop := ∃ (b1 b9_0 : Addr), ∃ (kc9_0 : ClassId), v = some (.ref b1) ∧ Fr n0 L ∧ Keep h0 h [] ∧ h0.size ≤ b1 ∧ h0.size ≤ b9_0 ∧ b1 ≠ b9_0 ∧ Exa Z h b1 "java/lang/String" ∧ Fld Z h b1 "java/lang/String" "coder" "B" (.int (0 : Int32)) ∧ Fld Z h b1 "java/lang/String" "value" "[B" (.ref b9_0) ∧ Exa Z h b9_0 "[B" ∧ Arv Z h b9_0 kc9_0 .byte (2 : Int32) [(.int (nar .byte ((nar .char p1).toInt8.toInt32))), (.int (nar .byte ((nar .char p2).toInt8.toInt32)))] (.int (0 : Int32))
set_option maxRecDepth 65536 in
set_option maxHeartbeats 40000000 in
theorem rm15 (l : Launch) (Z : State) (a0 : Array Value) (hw : ∀ d ∈ tables_1, d.before a0 Z = true) (ws : List Jvm.Cond) (cs_v : Int32) (hp : Perm Z cs_v) (p0 : Int32) (p1 : Int32) (p2 : Int32) (h0 : Heap) (n0 : Nat) (O0 : Old Z n0 h0) (hc1 : ¬ ((255 : Int32) < (nar .char p1))) (hc2 : ¬ ((255 : Int32) < (nar .char p2))) (hc3 : ¬ (p0 = (0 : Int32))) (hc4 : ¬ (p0 = (1 : Int32))) :
    MetFree l y2 (head1 (Jvm.Cond.code y2 method_2_code 3 (some (.object "java/lang/String")) :: ws) ({ frames := 4, cells := 4, slots := 8, locals := 66 } : Room)) (fun a U => a = #[(.int p0), (.int p1), (.int p2)] ∧ Z.Warmed39 U.vm ∧ U.heap = h0 ∧ CHv Z own_EL U.vm h0 ∧ ∀ x ∈ ([] : List Addr), Safe Z own_EL U.vm h0 x) (fun _ _ _ _ _ => True) (fun _ U o U' => ∃ v L, o = .returned v ∧ Q15 Z cs_v p0 p1 p2 h0 n0 v U'.heap L ∧ CHr Z own_EL U.vm U.heap U'.vm U'.heap ∧ ReturnedEndW U o U' L ({ frames := 4, cells := 4, slots := 8, locals := 66 } : Room).cells ({ frames := 4, cells := 4, slots := 8, locals := 66 } : Room).slots) := by
  refine MetFree.of_bodySF (plainFor_of_name pn_1) hisR ?_
  intro p e s m args below meth c s₁ Bd hml0 hP hK
  obtain ⟨rfl, hZo, hh, hCH, hSL⟩ := hP
  have hx := Bd.exec
  have hby := Bd.bytes
  have hml : c.maxLocals = 3 := hml0
  have hown : (s.setVm s.vm).vm.findClass "com/example/epcrtools/epcrtools/exchange/RuleSetKeyEqualsPinLaw" = some m.cls := findClass_of_methodNamed Bd.named
  have hnm := (name_of_methodNamed Bd.named Bd.method).1
  have X0 : Stand p l e ({ frames := 4, cells := 4, slots := 8, locals := 66 } : Room) (s.setVm s.vm) m #[(.int p0), (.int p1), (.int p2)] below meth c s₁ [] 0 0 := Stand.of_body Bd
  have e0 : s₁.heap = h0 := by rw [← hh, Bd.state]; rfl
  have N0 := Fr.nil n0
  have hZ : Z.Warmed39 (s.setVm s.vm).vm := hZo
  have CH0 := CHr.refl hCH
  have hS0 : s.Since s.vm 0 := (State.WarmedH.refl s).since 0
  have hk0 : 0 ≤ h0.size := Nat.zero_le _
  have hp' := hp
  obtain ⟨S_COMPACT_STRINGS, h_cs⟩ := hp'
  have pre0 : ∀ t, Steps p.tables e below (s₁.setTop (mkF m 0 #[.val (.int p0), .val (.int p1), .val (.int p2)] [])) t → Steps p.tables e below (s₁.setTop (entryFrame m #[(.int p0), (.int p1), (.int p2)] 3)) t := fun t k => castTop (ef_1_0 m p0 p1 p2) k
  obtain ⟨T1, h1, X1, e1, E1, A1, D1, -, st1⟩ := newO X0 hx hZ hown (wq hw 4 rfl) (wq hw 5 rfl) (wq hw 6 rfl) e0 (g := (mkF m 35 #[.val (.int p0), .val (.int p1), .val (.int p2)] [])) rfl (hb hby d1_35) (by decide) (by decide)
  obtain ⟨b1, g1⟩ : ∃ z, z = h0.size := ⟨_, rfl⟩
  rw [← g1] at A1 D1 st1
  have g_b1 : n0 ≤ b1 := Nat.le_trans (own_sz O0) (Nat.le_of_eq g1.symm)
  have sz_b1 : h0.size ≤ b1 := Nat.le_trans (Keep.refl h0 []).1 (Nat.le_of_eq g1.symm)
  have O1 := O0.ext E1
  have K1 : Keep h0 h1 [] := (Keep.refl h0 []).ext E1
  have CH1 := CH0.trans (CHr.ext E1 CH0.1)
  have hk1 := Nat.le_trans hk0 E1.1
  have F_coder_b1 : Fld Z h1 b1 "java/lang/String" "coder" "B" (.int (0 : Int32)) := D1 (Or.inr (wq hw 31 rfl)) (ty := .byte) (by decide)
  have F_value_b1 : Fld Z h1 b1 "java/lang/String" "value" "[B" .null := D1 (Or.inr (wq hw 33 rfl)) (ty := (.array .byte)) (by decide)
  obtain ⟨T2, h2, k2, X2, e2, E2, A2, EA2, st2⟩ := newPE X1 hx hZ (wq hw 7 rfl) e1 (g := (mkF m 40 #[.val (.int p0), .val (.int p1), .val (.int p2)] [(.int (2 : Int32)), (.ref b1), (.ref b1)])) rfl (hb hby d1_40) rfl (by decide) (cap := 2) (by decide) (by decide) (by decide) (by decide) (ad := "[C") (by decide)
  obtain ⟨b2, g2⟩ : ∃ z, z = h1.size := ⟨_, rfl⟩
  rw [← g2] at A2 EA2 st2
  have g_b2 : n0 ≤ b2 := Nat.le_trans (own_sz O1) (Nat.le_of_eq g2.symm)
  have sz_b2 : h0.size ≤ b2 := Nat.le_trans K1.1 (Nat.le_of_eq g2.symm)
  have O2 := O1.ext E2
  have K2 : Keep h0 h2 [] := K1.ext E2
  have CH2 := CH1.trans (CHr.ext E2 CH1.1)
  have hk2 := Nat.le_trans hk1 E2.1
  have V_b2 : Arv Z h2 b2 k2 .char (2 : Int32) [(.int (0 : Int32)), (.int (0 : Int32))] (.int (0 : Int32)) := (Arv.new A2 (by decide)).pad (pad_rep [] (.int (0 : Int32)) 2)
  obtain ⟨cl3, Ar3, q3, S3, Nn3, H3, G3⟩ := id V_b2
  have hin3 : ¬ ((0 : Int32) < 0 ∨ cl3.slots.size ≤ ((0 : Int32)).toNatClampNeg) := inb_of S3 ⟨by decide, by decide⟩
  obtain ⟨T4, h4, X4, e4, W4, st4⟩ := stC X2 hx hZ e2 Ar3 (j := (0 : Int32)) hin3 (g := (mkF m 45 #[.val (.int p0), .val (.int p1), .val (.int p2)] [(.int p1), (.int (0 : Int32)), (.ref b2), (.ref b2), (.ref b1), (.ref b1)])) rfl rfl (hb hby d1_45)
  have N4 := Fr.snoc X4 N0 g_b2
  have O4 := O2.wr W4 g_b2
  have K4 : Keep h0 h4 [] := K2.wr W4 (Or.inr sz_b2)
  have CH4 := CH2.trans (CHr.wr W4 (Safe.exa hZ.alike EA2 (by decide) (by decide)) CH2.1)
  have hk4 := Nat.le_trans hk2 (Keep.of_wr W4).1
  have V_b2_4 : Arv Z h4 b2 k2 .char (2 : Int32) [(.int (nar .char p1)), (.int (0 : Int32))] (.int (0 : Int32)) := Arv.set Ar3 q3 S3 Nn3 H3 G3 (fits_nar_char _) W4 0 rfl (Nat.le_of_ble_eq_true rfl)
  obtain ⟨cl5, Ar5, q5, S5, Nn5, H5, G5⟩ := id V_b2_4
  have hin5 : ¬ ((1 : Int32) < 0 ∨ cl5.slots.size ≤ ((1 : Int32)).toNatClampNeg) := inb_of S5 ⟨by decide, by decide⟩
  obtain ⟨T6, h6, X6, e6, W6, st6⟩ := stC X4 hx hZ e4 Ar5 (j := (1 : Int32)) hin5 (g := (mkF m 49 #[.val (.int p0), .val (.int p1), .val (.int p2)] [(.int p2), (.int (1 : Int32)), (.ref b2), (.ref b2), (.ref b1), (.ref b1)])) rfl rfl (hb hby d1_49)
  have N6 := Fr.snoc X6 N4 g_b2
  have O6 := O4.wr W6 g_b2
  have K6 : Keep h0 h6 [] := K4.wr W6 (Or.inr sz_b2)
  have CH6 := CH4.trans (CHr.wr W6 (Safe.exa hZ.alike (EA2.wr W4) (by decide) (by decide)) CH4.1)
  have hk6 := Nat.le_trans hk4 (Keep.of_wr W6).1
  have V_b2_6 : Arv Z h6 b2 k2 .char (2 : Int32) [(.int (nar .char p1)), (.int (nar .char p2))] (.int (0 : Int32)) := Arv.set Ar5 q5 S5 Nn5 H5 G5 (fits_nar_char _) W6 1 rfl (Nat.le_of_ble_eq_true rfl)
  have f_7 := (((F_coder_b1.ext E2).other W4 (Or.inl (Nat.ne_of_lt (Nat.lt_of_lt_of_le A1.lt (Nat.le_of_eq g2.symm))))).other W6 (Or.inl (Nat.ne_of_lt (Nat.lt_of_lt_of_le A1.lt (Nat.le_of_eq g2.symm)))))
  have f_8 := (((F_value_b1.ext E2).other W4 (Or.inl (Nat.ne_of_lt (Nat.lt_of_lt_of_le A1.lt (Nat.le_of_eq g2.symm))))).other W6 (Or.inl (Nat.ne_of_lt (Nat.lt_of_lt_of_le A1.lt (Nat.le_of_eq g2.symm)))))
  obtain ⟨_, _, ⟨T9, L9, k9, n9⟩, -, X9, ⟨Lc9, hQ9, l9, y9, z9⟩, st9⟩ := X6.specialBack hx (y := y1) rfl hown (mvT hZ (wq hw 8 rfl)) (mvT hZ (wq hw 9 rfl)) (mvT hZ (wq hw 10 rfl)) (by decide) (backOf (W := 1) (rm14 l Z a0 hw [] cs_v hp b1 b2 k2 (nar .char p1) (nar .char p2) h6 n0 O6 V_b2_6 hc1 hc2 ((EA2.wr W4).wr W6) (((A1.ext E2).wr W4).wr W6) f_7 f_8 g_b1) hZ (wq hw 10 rfl) (wq hw 6 rfl) (by decide) (by decide)) (g := (mkF m 50 #[.val (.int p0), .val (.int p1), .val (.int p2)] [(.ref b2), (.ref b1), (.ref b1)])) rfl (by rw [hml]; rfl) (Steps.refl _) (a := b1) (argsL := [(.ref b2)]) (rest := [(.ref b1)]) (lenOf pd_1 rfl) rfl (by show 2 * 0 + _ ≤ _; exact Nat.le_of_eq rfl) (hb hby d1_50) (fun _ _ => ⟨rfl, e6, (by decide : 2 + 1 ≤ _), (by decide : 6 + 2 ≤ _)⟩)
  dsimp only [Pt.U, Pt.locs, Pt.cells, Pt.slots] at X9 l9 y9 z9 st9 hQ9
  subst l9 y9 z9
  obtain ⟨b9_0, kc9_0, rfl, Nq9, Kq9, sq_b9_0, fq9_0, fq9_1, fq9_2, fq9_3, fq9_4⟩ := hQ9
  have N9 := Fr.app N6 Nq9
  have g_b9_0 : n0 ≤ b9_0 := Nat.le_trans (own_sz O6) sq_b9_0
  have sz_b9_0 : h0.size ≤ b9_0 := Nat.le_trans K6.1 sq_b9_0
  have sf_10 := (Safe.wr W6 (Safe.exa hZ.alike (EA2.wr W4) (by decide) (by decide)) CH4.1 (Safe.wr W4 (Safe.exa hZ.alike EA2 (by decide) (by decide)) CH2.1 (Safe.ext E2 CH1.1 (Safe.ext E1 CH0.1 (Safe.new (Nat.le_of_eq g1.symm))))))
  have CH9 := CH6.trans (CHr.keep Kq9 (allS sf_10 all0) CH6.1)
  have hk9 := Nat.le_trans hk6 Kq9.1
  have O9 := O6.keep Kq9 (allS g_b1 all0)
  have K9 : Keep h0 T9.heap [] := K6.trans Kq9 (allS (Or.inr sz_b1) all0)
  obtain ⟨fs, hr, hrun, hended, hE⟩ := Stand.leaveW (s := s) X9 hS0 hk9 (v := some (.ref b1)) (fun h => by rw [Bd.returns] at h; cases h)
  have CHz : CHr Z own_EL s.vm s.heap (T9.setFrames fs).vm (T9.setFrames fs).heap := by
    rw [hh]
    show CHr Z own_EL s.vm h0 T9.vm T9.heap
    exact CH9.trans (CHv.at X9 hZ (own_EW hw) CH9.1)
  refine ⟨_, _, pre0 _ ?_, hrun, hended, _, _, rfl, ?_, CHz, hE.1, hE.2.1, hE.2.2.1, hE.2.2.2.mono (by decide) (by decide)⟩
  · show Sp p e below s₁ (mkF m 0 #[.val (.int p0), .val (.int p1), .val (.int p2)] []) _
    refine XS.iloadN X0.here hx rfl (hb hby d1_0) rfl ?_
    refine XS.ifYes X0.here hx rfl (pc0 := 1) (pc' := 15) rfl (hb hby d1_1) rfl ((if0 _ _).trans (feq hc3).2) (by decide) (by decide) ?_
    refine XS.iloadN X0.here hx rfl (hb hby d1_15) rfl ?_
    refine XS.iconst X0.here hx rfl (hb hby d1_16) ?_
    show Sp p e below s₁ (mkF m 17 #[.val (.int p0), .val (.int p1), .val (.int p2)] [(.int (1 : Int32)), (.int p0)]) _
    refine XS.icmpYes X0.here hx rfl (pc0 := 17) (pc' := 35) rfl (hb hby d1_17) rfl (feq hc4).2 (by decide) (by decide) ?_
    show Sp p e below s₁ (mkF m 35 #[.val (.int p0), .val (.int p1), .val (.int p2)] []) _
    refine st1 _ ?_
    show Sp p e below T1 (mkF m 38 #[.val (.int p0), .val (.int p1), .val (.int p2)] [(.ref b1)]) _
    refine XS.dup X1.here hx rfl (hb hby d1_38) rfl rfl ?_
    refine XS.iconst X1.here hx rfl (hb hby d1_39) ?_
    show Sp p e below T1 (mkF m 40 #[.val (.int p0), .val (.int p1), .val (.int p2)] [(.int (2 : Int32)), (.ref b1), (.ref b1)]) _
    refine st2 _ ?_
    show Sp p e below T2 (mkF m 42 #[.val (.int p0), .val (.int p1), .val (.int p2)] [(.ref b2), (.ref b1), (.ref b1)]) _
    refine XS.dup X2.here hx rfl (hb hby d1_42) rfl rfl ?_
    refine XS.iconst X2.here hx rfl (hb hby d1_43) ?_
    refine XS.iloadN X2.here hx rfl (hb hby d1_44) rfl ?_
    show Sp p e below T2 (mkF m 45 #[.val (.int p0), .val (.int p1), .val (.int p2)] [(.int p1), (.int (0 : Int32)), (.ref b2), (.ref b2), (.ref b1), (.ref b1)]) _
    refine st4 _ ?_
    show Sp p e below T4 (mkF m 46 #[.val (.int p0), .val (.int p1), .val (.int p2)] [(.ref b2), (.ref b1), (.ref b1)]) _
    refine XS.dup X4.here hx rfl (hb hby d1_46) rfl rfl ?_
    refine XS.iconst X4.here hx rfl (hb hby d1_47) ?_
    refine XS.iloadN X4.here hx rfl (hb hby d1_48) rfl ?_
    show Sp p e below T4 (mkF m 49 #[.val (.int p0), .val (.int p1), .val (.int p2)] [(.int p2), (.int (1 : Int32)), (.ref b2), (.ref b2), (.ref b1), (.ref b1)]) _
    refine st6 _ ?_
    show Sp p e below T6 (mkF m 50 #[.val (.int p0), .val (.int p1), .val (.int p2)] [(.ref b2), (.ref b1), (.ref b1)]) _
    refine st9.trans ?_
    show Sp p e below T9 (mkF m 53 #[.val (.int p0), .val (.int p1), .val (.int p2)] [(.ref b1)]) _
    jvm_step X9.here [X9.here.top, hx, (hb hby d1_53), X9.method', Bd.returns, Value.isRef, FieldType.isReference]
    first | (intro acts; rw [hr _ acts rfl rfl rfl]) | rw [hr _ _ rfl rfl rfl]
    exact Steps.refl _
  · show Q15 Z cs_v p0 p1 p2 h0 n0 _ T9.heap _
    exact ⟨b1, b9_0, kc9_0, rfl, N9, K9, sz_b1, sz_b9_0, (Nat.ne_of_lt (Nat.lt_of_lt_of_le (((A1.ext E2).wr W4).wr W6).lt sq_b9_0)), fq9_0, fq9_1, fq9_2, fq9_3, fq9_4⟩
def QS1 (Z : State) (cs_v : Int32) (p0 : Int32) (p1 : Int32) (p2 : Int32) (h0 : Heap) (n0 : Nat) (v : Option Value) (h : Heap) (L : List Loc) : Prop := ∃ (b vb : Addr), ∃ (k : ClassId), v = some (.ref b) ∧ Fr n0 L ∧ Keep h0 h [] ∧ h0.size ≤ b ∧ Exa Z h b "java/lang/String" ∧ Fld Z h b "java/lang/String" "coder" "B" (.int (0 : Int32)) ∧ Fld Z h b "java/lang/String" "value" "[B" (.ref vb) ∧ Arv Z h vb k .byte (mkN p0) (mkV p0 p1 p2) (.int (0 : Int32))
set_option maxRecDepth 65536 in
set_option maxHeartbeats 4000000 in
theorem rmS1 (l : Launch) (Z : State) (a0 : Array Value) (hw : ∀ d ∈ tables_1, d.before a0 Z = true) (ws : List Jvm.Cond) (cs_v : Int32) (hp : Perm Z cs_v) (p0 : Int32) (p1 : Int32) (p2 : Int32) (h0 : Heap) (n0 : Nat) (O0 : Old Z n0 h0) (hp0 : ¬ ((255 : Int32) < (nar .char p1))) (hp1 : ¬ ((255 : Int32) < (nar .char p2))) :
    MetFree l y2 (head1 (Jvm.Cond.code y2 method_2_code 3 (some (.object "java/lang/String")) :: ws) ({ frames := 4, cells := 4, slots := 8, locals := 66 } : Room)) (fun a U => a = #[(.int p0), (.int p1), (.int p2)] ∧ Z.Warmed39 U.vm ∧ U.heap = h0 ∧ CHv Z own_EL U.vm h0 ∧ ∀ x ∈ ([] : List Addr), Safe Z own_EL U.vm h0 x) (fun _ _ _ _ _ => True) (fun _ U o U' => ∃ v L, o = .returned v ∧ QS1 Z cs_v p0 p1 p2 h0 n0 v U'.heap L ∧ CHr Z own_EL U.vm U.heap U'.vm U'.heap ∧ ReturnedEndW U o U' L ({ frames := 4, cells := 4, slots := 8, locals := 66 } : Room).cells ({ frames := 4, cells := 4, slots := 8, locals := 66 } : Room).slots) := by
  by_cases d0 : p0 = (0 : Int32)
  · skip
    have hN : (mkN p0) = (0 : Int32) := by simp [d0, mkN, mkV, mkB]
    have hV : (mkV p0 p1 p2) = [] := by simp [d0, mkN, mkV, mkB]
    refine (rm3 l Z a0 hw ws cs_v hp p0 p1 p2 h0 n0 O0 hp0 hp1 d0).mono (fun _ _ h => h) (fun _ _ _ _ _ h => h) (fun a s o s' _ ⟨v, L, e, q, f⟩ => ⟨v, L, e, ?_, f⟩)
    obtain ⟨u0, u1, kk0, e1, N1, K1, s_u0, f0, f1, f2, f3⟩ := q
    exact ⟨u0, u1, kk0, e1, N1, K1, s_u0, f0, f1, f2, by rw [hN, hV]; exact f3⟩
  · skip
    by_cases d1 : p0 = (1 : Int32)
    · skip
      have hN : (mkN p0) = (1 : Int32) := by simp [d0, d1, mkN, mkV, mkB]
      have hV : (mkV p0 p1 p2) = [(.int (nar .byte ((nar .char p1).toInt8.toInt32)))] := by simp [d0, d1, mkN, mkV, mkB]
      refine (rm9 l Z a0 hw ws cs_v hp p0 p1 p2 h0 n0 O0 hp0 hp1 d0 d1).mono (fun _ _ h => h) (fun _ _ _ _ _ h => h) (fun a s o s' _ ⟨v, L, e, q, f⟩ => ⟨v, L, e, ?_, f⟩)
      obtain ⟨u0, u1, kk0, e1, N1, K1, s_u0, s_u1, ne0, f0, f1, f2, f3, f4⟩ := q
      exact ⟨u0, u1, kk0, e1, N1, K1, s_u0, f0, f1, f2, by rw [hN, hV]; exact f4⟩
    · skip
      have hN : (mkN p0) = (2 : Int32) := by simp [d0, d1, mkN, mkV, mkB]
      have hV : (mkV p0 p1 p2) = [(.int (nar .byte ((nar .char p1).toInt8.toInt32))), (.int (nar .byte ((nar .char p2).toInt8.toInt32)))] := by simp [d0, d1, mkN, mkV, mkB]
      refine (rm15 l Z a0 hw ws cs_v hp p0 p1 p2 h0 n0 O0 hp0 hp1 d0 d1).mono (fun _ _ h => h) (fun _ _ _ _ _ h => h) (fun a s o s' _ ⟨v, L, e, q, f⟩ => ⟨v, L, e, ?_, f⟩)
      obtain ⟨u0, u1, kk0, e1, N1, K1, s_u0, s_u1, ne0, f0, f1, f2, f3, f4⟩ := q
      exact ⟨u0, u1, kk0, e1, N1, K1, s_u0, f0, f1, f2, by rw [hN, hV]; exact f4⟩
theorem pd_5 : parseMethodDescriptor "(ICC)Ljava/lang/String;" = some ⟨[.int, .char, .char], some (.object "java/lang/String")⟩ := by decide +kernel
def Cut_0_109 (p0 : Int32) (p1 : Int32) (p2 : Int32) (p3 : Int32) (p4 : Int32) (i5 : Int32) (i6 : Int32) (i7 : Int32) (z8 : Int32) (z9 : Int32) (i10 : Int32) (i11 : Int32) (i12 : Int32) (z15 : Int32) : Prop := ∀ (o13 o14 : Addr) {p : Program} {l : Launch} {e : Env} {R : Room} {s : State} {m : MethodId} {args : Array Value} {below : List Frame} {meth : Method} {c : Code} {s₁ : State} {locs : List Loc} {cells slots : Nat} {Z : State} {a0 : Array Value} (X0 : Stand p l e R s m args below meth c s₁ locs cells slots) (hx : p.tables.exec = Jvm.exec) (hZ : Z.Warmed39 s.vm) (hw : ∀ d ∈ tables_1, d.before a0 Z = true) (hby : c.code = code) (hown : s.vm.findClass "com/example/epcrtools/epcrtools/exchange/RuleSetKeyEqualsPinLaw" = some m.cls), ∀ target, Steps p.tables e below (s₁.setTop (mkF m 125 #[.val (.int p0), .val (.int p1), .val (.int p2), .val (.int p3), .val (.int p4), .val (.int i5), .val (.int i6), .val (.int i7), .val (.int z8), .val (.int z9), .val (.int i10), .val (.int i11), .val (.int i12), .val (.ref o13), .val (.ref o14), .val (.int z15), .unset, .unset, .unset, .unset, .unset] [])) target → Steps p.tables e below (s₁.setTop (mkF m 109 #[.val (.int p0), .val (.int p1), .val (.int p2), .val (.int p3), .val (.int p4), .val (.int i5), .val (.int i6), .val (.int i7), .val (.int z8), .val (.int z9), .val (.int i10), .val (.int i11), .val (.int i12), .val (.ref o13), .val (.ref o14), .unset, .unset, .unset, .unset, .unset, .unset] [])) target
set_option maxRecDepth 65536 in
set_option maxHeartbeats 40000000 in
theorem cut_0_109 (p0 : Int32) (p1 : Int32) (p2 : Int32) (p3 : Int32) (p4 : Int32) (i5 : Int32) (i6 : Int32) (i7 : Int32) (z8 : Int32) (z9 : Int32) (i10 : Int32) (i11 : Int32) (i12 : Int32) : ∃ (z15 : Int32), Cut_0_109 p0 p1 p2 p3 p4 i5 i6 i7 z8 z9 i10 i11 i12 z15 := by
  by_cases d0 : (((p4.toUInt32 >>> ((2 : Int32) &&& 31).toUInt32).toInt32) &&& (1 : Int32)) = (0 : Int32)
  · skip
    have hc1 := d0
    refine ⟨p1, ?_⟩
    intro o13 o14 p l e R s m args below meth c s₁ locs cells slots Z a0 X0 hx hZ hw hby hown target kt
    show Sp p e below s₁ (mkF m 109 #[.val (.int p0), .val (.int p1), .val (.int p2), .val (.int p3), .val (.int p4), .val (.int i5), .val (.int i6), .val (.int i7), .val (.int z8), .val (.int z9), .val (.int i10), .val (.int i11), .val (.int i12), .val (.ref o13), .val (.ref o14), .unset, .unset, .unset, .unset, .unset, .unset] []) _
    refine XS.iload X0.here hx rfl (hb hby at_109) rfl ?_
    refine XS.iconst X0.here hx rfl (hb hby at_111) ?_
    refine XS.iushr X0.here hx rfl (hb hby at_112) rfl ?_
    refine XS.iconst X0.here hx rfl (hb hby at_113) ?_
    show Sp p e below s₁ (mkF m 114 #[.val (.int p0), .val (.int p1), .val (.int p2), .val (.int p3), .val (.int p4), .val (.int i5), .val (.int i6), .val (.int i7), .val (.int z8), .val (.int z9), .val (.int i10), .val (.int i11), .val (.int i12), .val (.ref o13), .val (.ref o14), .unset, .unset, .unset, .unset, .unset, .unset] [(.int (1 : Int32)), (.int (fx1 p4))]) _
    refine XS.iand X0.here hx rfl (hb hby at_114) rfl ?_
    refine XS.ifYes X0.here hx rfl (pc0 := 115) (pc' := 122) rfl (hb hby at_115) rfl ((if0 _ _).trans (teq hc1).1) (by decide) (by decide) ?_
    refine XS.iloadN X0.here hx rfl (hb hby at_122) rfl ?_
    refine XS.istore X0.here hx rfl (hb hby at_123) rfl (l' := #[.val (.int p0), .val (.int p1), .val (.int p2), .val (.int p3), .val (.int p4), .val (.int i5), .val (.int i6), .val (.int i7), .val (.int z8), .val (.int z9), .val (.int i10), .val (.int i11), .val (.int i12), .val (.ref o13), .val (.ref o14), .val (.int p1), .unset, .unset, .unset, .unset, .unset]) rfl ?_
    exact kt
  · skip
    have hc1 := d0
    refine ⟨p0, ?_⟩
    intro o13 o14 p l e R s m args below meth c s₁ locs cells slots Z a0 X0 hx hZ hw hby hown target kt
    show Sp p e below s₁ (mkF m 109 #[.val (.int p0), .val (.int p1), .val (.int p2), .val (.int p3), .val (.int p4), .val (.int i5), .val (.int i6), .val (.int i7), .val (.int z8), .val (.int z9), .val (.int i10), .val (.int i11), .val (.int i12), .val (.ref o13), .val (.ref o14), .unset, .unset, .unset, .unset, .unset, .unset] []) _
    refine XS.iload X0.here hx rfl (hb hby at_109) rfl ?_
    refine XS.iconst X0.here hx rfl (hb hby at_111) ?_
    refine XS.iushr X0.here hx rfl (hb hby at_112) rfl ?_
    refine XS.iconst X0.here hx rfl (hb hby at_113) ?_
    show Sp p e below s₁ (mkF m 114 #[.val (.int p0), .val (.int p1), .val (.int p2), .val (.int p3), .val (.int p4), .val (.int i5), .val (.int i6), .val (.int i7), .val (.int z8), .val (.int z9), .val (.int i10), .val (.int i11), .val (.int i12), .val (.ref o13), .val (.ref o14), .unset, .unset, .unset, .unset, .unset, .unset] [(.int (1 : Int32)), (.int (fx1 p4))]) _
    refine XS.iand X0.here hx rfl (hb hby at_114) rfl ?_
    refine XS.ifNo X0.here hx rfl (hb hby at_115) rfl ((if0 _ _).trans (feq hc1).1) ?_
    refine XS.iloadN X0.here hx rfl (hb hby at_118) rfl ?_
    refine XS.goto X0.here hx rfl (pc0 := 119) (pc' := 123) rfl (hb hby at_119) (by decide) (by decide) ?_
    show Sp p e below s₁ (mkF m 123 #[.val (.int p0), .val (.int p1), .val (.int p2), .val (.int p3), .val (.int p4), .val (.int i5), .val (.int i6), .val (.int i7), .val (.int z8), .val (.int z9), .val (.int i10), .val (.int i11), .val (.int i12), .val (.ref o13), .val (.ref o14), .unset, .unset, .unset, .unset, .unset, .unset] [(.int p0)]) _
    refine XS.istore X0.here hx rfl (hb hby at_123) rfl (l' := #[.val (.int p0), .val (.int p1), .val (.int p2), .val (.int p3), .val (.int p4), .val (.int i5), .val (.int i6), .val (.int i7), .val (.int z8), .val (.int z9), .val (.int i10), .val (.int i11), .val (.int i12), .val (.ref o13), .val (.ref o14), .val (.int p0), .unset, .unset, .unset, .unset, .unset]) rfl ?_
    exact kt
theorem d8_0 : decode prog_8_method_1_code 0 = .ok (.aload_n 0, 1) := by decide +kernel
theorem d8_1 : decode prog_8_method_1_code 1 = .ok (.invokespecial 1, 3) := by decide +kernel
theorem d8_4 : decode prog_8_method_1_code 4 = .ok (.aload_n 0, 1) := by decide +kernel
theorem d8_5 : decode prog_8_method_1_code 5 = .ok (.iload_n 1, 1) := by decide +kernel
theorem d8_6 : decode prog_8_method_1_code 6 = .ok (.putfield 7, 3) := by decide +kernel
theorem d8_9 : decode prog_8_method_1_code 9 = .ok (.aload_n 0, 1) := by decide +kernel
theorem d8_10 : decode prog_8_method_1_code 10 = .ok (.aload_n 2, 1) := by decide +kernel
theorem d8_11 : decode prog_8_method_1_code 11 = .ok (.invokestatic 13, 3) := by decide +kernel
theorem d9_0 : decode jdk_31_method_10_code 0 = .ok (.aload_n 0, 1) := by decide +kernel
theorem d9_1 : decode jdk_31_method_10_code 1 = .ok (.ifnonnull 11, 3) := by decide +kernel
theorem d9_12 : decode jdk_31_method_10_code 12 = .ok (.aload_n 0, 1) := by decide +kernel
theorem d9_13 : decode jdk_31_method_10_code 13 = .ok (.areturn, 1) := by decide +kernel
abbrev y6 : MethodName := (⟨"java/util/Objects", "requireNonNull", "(Ljava/lang/Object;)Ljava/lang/Object;"⟩ : MethodName)
theorem ef_9_0 (m : MethodId) (x0 : Addr) : entryFrame m #[(.ref x0)] 1 = mkF m 0 #[.val (.ref x0)] [] := by first | (simp [entryFrame, mkF, argsToLocals, Value.category]; done) | rfl
theorem pn_9 : plainName "java/util/Objects" = true := by first | (simp [plainName, overriddenIn]; done) | decide +kernel
def Q16 (Z : State) (cs_v : Int32) (a1 : Addr) (h0 : Heap) (n0 : Nat) (v : Option Value) (h : Heap) (L : List Loc) : Prop := v = some (.ref a1) ∧ Fr n0 L ∧ h = h0
set_option maxRecDepth 65536 in
set_option maxHeartbeats 40000000 in
theorem rm16 (l : Launch) (Z : State) (a0 : Array Value) (hw : ∀ d ∈ tables_1, d.before a0 Z = true) (ws : List Jvm.Cond) (cs_v : Int32) (hp : Perm Z cs_v) (a1 : Addr) (h0 : Heap) (n0 : Nat) (O0 : Old Z n0 h0) :
    MetFree l y6 (head1 (Jvm.Cond.code y6 jdk_31_method_10_code 1 (some (.object "java/lang/Object")) :: ws) ({ frames := 0, cells := 0, slots := 0, locals := 0 } : Room)) (fun a U => a = #[(.ref a1)] ∧ Z.Warmed39 U.vm ∧ U.heap = h0) (fun _ _ _ _ _ => True) (fun _ U o U' => ∃ v L, o = .returned v ∧ Q16 Z cs_v a1 h0 n0 v U'.heap L ∧ FrameEnd U o U' L ({ frames := 0, cells := 0, slots := 0, locals := 0 } : Room).cells ({ frames := 0, cells := 0, slots := 0, locals := 0 } : Room).slots) := by
  refine MetFree.of_bodySF (plainFor_of_name pn_9) hisR ?_
  intro p e s m args below meth c s₁ Bd hml0 hP hK
  obtain ⟨rfl, hZ, hh⟩ := hP
  have hx := Bd.exec
  have hby := Bd.bytes
  have hml : c.maxLocals = 1 := hml0
  have hown : s.vm.findClass "java/util/Objects" = some m.cls := findClass_of_methodNamed Bd.named
  have hnm := (name_of_methodNamed Bd.named Bd.method).1
  have X0 : Stand p l e ({ frames := 0, cells := 0, slots := 0, locals := 0 } : Room) s m #[(.ref a1)] below meth c s₁ [] 0 0 := Stand.of_body Bd
  have e0 : s₁.heap = h0 := by rw [← hh, Bd.state]; rfl
  have N0 := Fr.nil n0
  have hp' := hp
  obtain ⟨S_COMPACT_STRINGS, h_cs⟩ := hp'
  have pre0 : ∀ t, Steps p.tables e below (s₁.setTop (mkF m 0 #[.val (.ref a1)] [])) t → Steps p.tables e below (s₁.setTop (entryFrame m #[(.ref a1)] 1)) t := fun t k => castTop (ef_9_0 m a1) k
  obtain ⟨fs, hr, hrun, hended, hW, hsame⟩ := X0.leave (v := some (.ref a1)) (fun h => by rw [Bd.returns] at h; cases h)
  refine ⟨_, _, pre0 _ ?_, hrun, hended, _, _, rfl, ?_, ⟨_, rfl⟩, hW, hsame.mono (by decide) (by decide)⟩
  · show Sp p e below s₁ (mkF m 0 #[.val (.ref a1)] []) _
    refine XS.aloadN X0.here hx rfl (hb hby d9_0) rfl rfl ?_
    show Sp p e below s₁ (mkF m 1 #[.val (.ref a1)] [(.ref a1)]) _
    refine XS.ifnonnullYes X0.here hx rfl (pc0 := 1) (pc' := 12) rfl (hb hby d9_1) rfl (by decide) (by decide) ?_
    refine XS.aloadN X0.here hx rfl (hb hby d9_12) rfl rfl ?_
    show Sp p e below s₁ (mkF m 13 #[.val (.ref a1)] [(.ref a1)]) _
    jvm_step X0.here [X0.here.top, hx, (hb hby d9_13), X0.method', Bd.returns, Value.isRef, FieldType.isReference]
    first | (intro acts; rw [hr _ acts rfl rfl rfl]) | rw [hr _ _ rfl rfl rfl]
    exact Steps.refl _
  · show Q16 Z cs_v a1 h0 n0 _ s₁.heap _
    rw [e0]
    exact ⟨rfl, N0, rfl⟩
theorem pd_6 : parseMethodDescriptor "(Ljava/lang/Object;)Ljava/lang/Object;" = some ⟨[(.object "java/lang/Object")], some (.object "java/lang/Object")⟩ := by decide +kernel
theorem d8_14 : decode prog_8_method_1_code 14 = .ok (.checkcast 19, 3) := by decide +kernel
theorem d8_17 : decode prog_8_method_1_code 17 = .ok (.putfield 21, 3) := by decide +kernel
theorem sn2 {Z : State} {a0 : Array Value} (hw : ∀ d ∈ tables_1, d.before a0 Z = true) : Jvm.RoadKit.slotOf Z "com/example/epcrtools/epcrtools/exchange/RuleSetKey" "schemaVersion" "Ljava/lang/String;" ≠ Jvm.RoadKit.slotOf Z "com/example/epcrtools/epcrtools/exchange/RuleSetKey" "dataSchema" "I" := slot_ne (Or.inr (wq hw 49 rfl)) (Or.inr (wq hw 42 rfl)) (by decide) (t := (.object "java/lang/String")) (t' := .int) (by decide) (by decide)
theorem d8_20 : decode prog_8_method_1_code 20 = .ok (.return_, 1) := by decide +kernel
theorem sn3 {Z : State} {a0 : Array Value} (hw : ∀ d ∈ tables_1, d.before a0 Z = true) : Jvm.RoadKit.slotOf Z "com/example/epcrtools/epcrtools/exchange/RuleSetKey" "dataSchema" "I" ≠ Jvm.RoadKit.slotOf Z "com/example/epcrtools/epcrtools/exchange/RuleSetKey" "schemaVersion" "Ljava/lang/String;" := slot_ne (Or.inr (wq hw 42 rfl)) (Or.inr (wq hw 49 rfl)) (by decide) (t := .int) (t' := (.object "java/lang/String")) (by decide) (by decide)
abbrev y7 : MethodName := (⟨"com/example/epcrtools/epcrtools/exchange/RuleSetKey", "<init>", "(ILjava/lang/String;)V"⟩ : MethodName)
theorem ef_8_0 (m : MethodId) (x0 : Addr) (x1 : Int32) (x2 : Addr) : entryFrame m #[(.ref x0), (.int x1), (.ref x2)] 3 = mkF m 0 #[.val (.ref x0), .val (.int x1), .val (.ref x2)] [] := by first | (simp [entryFrame, mkF, argsToLocals, Value.category]; done) | rfl
theorem pn_8 : plainName "com/example/epcrtools/epcrtools/exchange/RuleSetKey" = true := by first | (simp [plainName, overriddenIn]; done) | decide +kernel
def Q17 (Z : State) (cs_v : Int32) (a1 : Addr) (p2 : Int32) (a3 : Addr) (h0 : Heap) (n0 : Nat) (v : Option Value) (h : Heap) (L : List Loc) : Prop := v = none ∧ Fr n0 L ∧ Keep h0 h [a1] ∧ Exa Z h a1 "com/example/epcrtools/epcrtools/exchange/RuleSetKey" ∧ Fld Z h a1 "com/example/epcrtools/epcrtools/exchange/RuleSetKey" "dataSchema" "I" (.int p2) ∧ Fld Z h a1 "com/example/epcrtools/epcrtools/exchange/RuleSetKey" "schemaVersion" "Ljava/lang/String;" (.ref a3)
set_option maxRecDepth 65536 in
set_option maxHeartbeats 40000000 in
theorem rm17 (l : Launch) (Z : State) (a0 : Array Value) (hw : ∀ d ∈ tables_1, d.before a0 Z = true) (ws : List Jvm.Cond) (cs_v : Int32) (hp : Perm Z cs_v) (a1 : Addr) (p2 : Int32) (a3 : Addr) (h0 : Heap) (n0 : Nat) (O0 : Old Z n0 h0) (E_a1 : Exa Z h0 a1 "com/example/epcrtools/epcrtools/exchange/RuleSetKey") (F_dataSchema_a1 : Fld Z h0 a1 "com/example/epcrtools/epcrtools/exchange/RuleSetKey" "dataSchema" "I" (.int (0 : Int32))) (F_schemaVersion_a1 : Fld Z h0 a1 "com/example/epcrtools/epcrtools/exchange/RuleSetKey" "schemaVersion" "Ljava/lang/String;" .null) (g_a1 : n0 ≤ a1) (E_a3 : Exa Z h0 a3 "java/lang/String") :
    MetFree l y7 (head1 (Jvm.Cond.code y7 prog_8_method_1_code 3 none :: ws) ({ frames := 1, cells := 0, slots := 0, locals := 13 } : Room)) (fun a U => a = #[(.ref a1), (.int p2), (.ref a3)] ∧ Z.Warmed39 U.vm ∧ U.heap = h0) (fun _ _ _ _ _ => True) (fun _ U o U' => ∃ v L, o = .returned v ∧ Q17 Z cs_v a1 p2 a3 h0 n0 v U'.heap L ∧ FrameEnd U o U' L ({ frames := 1, cells := 0, slots := 0, locals := 13 } : Room).cells ({ frames := 1, cells := 0, slots := 0, locals := 13 } : Room).slots) := by
  refine MetFree.of_bodySF (plainFor_of_name pn_8) hisR ?_
  intro p e s m args below meth c s₁ Bd hml0 hP hK
  obtain ⟨rfl, hZ, hh⟩ := hP
  have hx := Bd.exec
  have hby := Bd.bytes
  have hml : c.maxLocals = 3 := hml0
  have hown : s.vm.findClass "com/example/epcrtools/epcrtools/exchange/RuleSetKey" = some m.cls := findClass_of_methodNamed Bd.named
  have hnm := (name_of_methodNamed Bd.named Bd.method).1
  have X0 : Stand p l e ({ frames := 1, cells := 0, slots := 0, locals := 13 } : Room) s m #[(.ref a1), (.int p2), (.ref a3)] below meth c s₁ [] 0 0 := Stand.of_body Bd
  have e0 : s₁.heap = h0 := by rw [← hh, Bd.state]; rfl
  have N0 := Fr.nil n0
  have hp' := hp
  obtain ⟨S_COMPACT_STRINGS, h_cs⟩ := hp'
  have pre0 : ∀ t, Steps p.tables e below (s₁.setTop (mkF m 0 #[.val (.ref a1), .val (.int p2), .val (.ref a3)] [])) t → Steps p.tables e below (s₁.setTop (entryFrame m #[(.ref a1), (.int p2), (.ref a3)] 3)) t := fun t k => castTop (ef_8_0 m a1 p2 a3) k
  obtain ⟨T1, X1, e1, st1⟩ := initO X0 hx hZ hown (wq hw 40 rfl) (wq hw 16 rfl) (wq hw 17 rfl) e0 (g := (mkF m 1 #[.val (.ref a1), .val (.int p2), .val (.ref a3)] [(.ref a1)])) rfl (by rw [hml]; rfl) rfl (hb hby d8_1) (by decide) (W := 0) (by show 2 * 0 + _ ≤ _; exact Nat.le_of_eq rfl) (by decide)
  obtain ⟨T2, h2, X2, e2, W2, st2⟩ := putF X1 hx hZ hown (host := "") (Or.inl (wq hw 41 rfl)) Via.refl e1 F_dataSchema_a1 E_a1 (Or.inr ⟨(wq hw 42 rfl), rfl, hnm⟩) (wq hw 35 rfl) (ty := .int) (by decide) rfl rfl (g := (mkF m 6 #[.val (.ref a1), .val (.int p2), .val (.ref a3)] [(.int p2), (.ref a1)])) rfl rfl (hb hby d8_6)
  have N2 := Fr.snoc X2 N0 g_a1
  have O2 := O0.wr W2 g_a1
  have K2 : Keep h0 h2 [a1] := (Keep.refl h0 [a1]).wr W2 (Or.inl (List.mem_of_getElem? (i := 0) rfl))
  have Fw2 := F_dataSchema_a1.same W2
  obtain ⟨_, _, ⟨T3, L3, k3, n3⟩, -, X3, ⟨Lc3, hQ3, l3, y3, z3⟩, st3⟩ := Jvm.LawKit.callS X2 hx (y := y6) hown (mvT hZ (wq hw 43 rfl)) (mvT hZ (wq hw 44 rfl)) (mvT hZ (wq hw 45 rfl)) (mvT hZ (wq hw 46 rfl)) (by decide) (backOf (W := 1) (rm16 l Z a0 hw [] cs_v hp a3 h2 n0 O2) hZ (wq hw 46 rfl) (wq hw 45 rfl) (by decide) (by decide)) (g := (mkF m 11 #[.val (.ref a1), .val (.int p2), .val (.ref a3)] [(.ref a3), (.ref a1)])) rfl (by rw [hml]; rfl) (argsL := [(.ref a3)]) (rest := [(.ref a1)]) (lenOf pd_6 rfl) rfl (by show 2 * 0 + _ ≤ _; exact Nat.le_of_eq rfl) (hb hby d8_11) (fun _ _ => ⟨rfl, e2, (by decide : 0 + 0 ≤ _), (by decide : 0 + 0 ≤ _)⟩)
  dsimp only [Pt.U, Pt.locs, Pt.cells, Pt.slots] at X3 l3 y3 z3 st3 hQ3
  subst l3 y3 z3
  obtain ⟨rfl, Nq3, eq3⟩ := hQ3
  have N3 := Fr.app N2 Nq3
  obtain ⟨T4, X4, e4, st4⟩ := castY X3 hx hZ hown (wq hw 47 rfl) eq3 (Ins.self (E_a3.wr W2)) (g := (mkF m 14 #[.val (.ref a1), .val (.int p2), .val (.ref a3)] [(.ref a3), (.ref a1)])) rfl rfl (hb hby d8_14)
  obtain ⟨T5, h5, X5, e5, W5, st5⟩ := putF X4 hx hZ hown (host := "") (Or.inl (wq hw 48 rfl)) Via.refl e4 (F_schemaVersion_a1.other W2 (Or.inr (sn2 hw))) (E_a1.wr W2) (Or.inr ⟨(wq hw 49 rfl), rfl, hnm⟩) (wq hw 35 rfl) (ty := (.object "java/lang/String")) (by decide) rfl rfl (g := (mkF m 17 #[.val (.ref a1), .val (.int p2), .val (.ref a3)] [(.ref a3), (.ref a1)])) rfl rfl (hb hby d8_17)
  have N5 := Fr.snoc X5 N3 g_a1
  have O5 := O2.wr W5 g_a1
  have K5 : Keep h0 h5 [a1] := K2.wr W5 (Or.inl (List.mem_of_getElem? (i := 0) rfl))
  have Fw5 := (F_schemaVersion_a1.other W2 (Or.inr (sn2 hw))).same W5
  obtain ⟨fs, hr, hrun, hended, hW, hsame⟩ := X5.leave (v := none) (fun _ => rfl)
  refine ⟨_, _, pre0 _ ?_, hrun, hended, _, _, rfl, ?_, ⟨_, rfl⟩, hW, hsame.mono (by decide) (by decide)⟩
  · show Sp p e below s₁ (mkF m 0 #[.val (.ref a1), .val (.int p2), .val (.ref a3)] []) _
    refine XS.aloadN X0.here hx rfl (hb hby d8_0) rfl rfl ?_
    show Sp p e below s₁ (mkF m 1 #[.val (.ref a1), .val (.int p2), .val (.ref a3)] [(.ref a1)]) _
    refine st1 _ ?_
    show Sp p e below T1 (mkF m 4 #[.val (.ref a1), .val (.int p2), .val (.ref a3)] []) _
    refine XS.aloadN X1.here hx rfl (hb hby d8_4) rfl rfl ?_
    refine XS.iloadN X1.here hx rfl (hb hby d8_5) rfl ?_
    show Sp p e below T1 (mkF m 6 #[.val (.ref a1), .val (.int p2), .val (.ref a3)] [(.int p2), (.ref a1)]) _
    refine st2 _ ?_
    show Sp p e below T2 (mkF m 9 #[.val (.ref a1), .val (.int p2), .val (.ref a3)] []) _
    refine XS.aloadN X2.here hx rfl (hb hby d8_9) rfl rfl ?_
    refine XS.aloadN X2.here hx rfl (hb hby d8_10) rfl rfl ?_
    show Sp p e below T2 (mkF m 11 #[.val (.ref a1), .val (.int p2), .val (.ref a3)] [(.ref a3), (.ref a1)]) _
    refine st3 _ ?_
    show Sp p e below T3 (mkF m 14 #[.val (.ref a1), .val (.int p2), .val (.ref a3)] [(.ref a3), (.ref a1)]) _
    refine st4 _ ?_
    show Sp p e below T4 (mkF m 17 #[.val (.ref a1), .val (.int p2), .val (.ref a3)] [(.ref a3), (.ref a1)]) _
    refine st5 _ ?_
    show Sp p e below T5 (mkF m 20 #[.val (.ref a1), .val (.int p2), .val (.ref a3)] []) _
    exact X5.returnOut hx Bd.returns (hb hby d8_20) hr
  · show Q17 Z cs_v a1 p2 a3 h0 n0 _ T5.heap _
    rw [e5]
    exact ⟨rfl, N5, K5, ((E_a1.wr W2).wr W5), (Fw2.other W5 (Or.inr (sn3 hw))), Fw5⟩
theorem pd_7 : parseMethodDescriptor "(ILjava/lang/String;)V" = some ⟨[.int, (.object "java/lang/String")], none⟩ := by decide +kernel
theorem d10_0 : decode prog_8_method_4_code 0 = .ok (.aload_n 1, 1) := by decide +kernel
theorem d10_1 : decode prog_8_method_4_code 1 = .ok (.instanceof 8, 3) := by decide +kernel
theorem d10_4 : decode prog_8_method_4_code 4 = .ok (.ifCond .ne 5, 3) := by decide +kernel
theorem d10_7 : decode prog_8_method_4_code 7 = .ok (.iconst 0, 1) := by decide +kernel
theorem d10_8 : decode prog_8_method_4_code 8 = .ok (.ireturn, 1) := by decide +kernel
abbrev y8 : MethodName := (⟨"com/example/epcrtools/epcrtools/exchange/RuleSetKey", "equals", "(Ljava/lang/Object;)Z"⟩ : MethodName)
theorem ef_10_0 (m : MethodId) (x0 : Addr) : entryFrame m #[(.ref x0), .null] 3 = mkF m 0 #[.val (.ref x0), .val .null, .unset] [] := by first | (simp [entryFrame, mkF, argsToLocals, Value.category]; done) | rfl
def Q18 (Z : State) (cs_v : Int32) (a1 : Addr) (h0 : Heap) (n0 : Nat) (v : Option Value) (h : Heap) (L : List Loc) : Prop := v = some (.int (0 : Int32)) ∧ Fr n0 L ∧ h = h0
set_option maxRecDepth 65536 in
set_option maxHeartbeats 40000000 in
theorem rm18 (l : Launch) (Z : State) (a0 : Array Value) (hw : ∀ d ∈ tables_1, d.before a0 Z = true) (ws : List Jvm.Cond) (cs_v : Int32) (hp : Perm Z cs_v) (a1 : Addr) (h0 : Heap) (n0 : Nat) (O0 : Old Z n0 h0) :
    MetFree l y8 (head1 (Jvm.Cond.code y8 prog_8_method_4_code 3 (some .boolean) :: ws) ({ frames := 0, cells := 0, slots := 0, locals := 0 } : Room)) (fun a U => a = #[(.ref a1), .null] ∧ Z.Warmed39 U.vm ∧ U.heap = h0) (fun _ _ _ _ _ => True) (fun _ U o U' => ∃ v L, o = .returned v ∧ Q18 Z cs_v a1 h0 n0 v U'.heap L ∧ FrameEnd U o U' L ({ frames := 0, cells := 0, slots := 0, locals := 0 } : Room).cells ({ frames := 0, cells := 0, slots := 0, locals := 0 } : Room).slots) := by
  refine MetFree.of_bodySF (plainFor_of_name pn_8) hisR ?_
  intro p e s m args below meth c s₁ Bd hml0 hP hK
  obtain ⟨rfl, hZ, hh⟩ := hP
  have hx := Bd.exec
  have hby := Bd.bytes
  have hml : c.maxLocals = 3 := hml0
  have hown : s.vm.findClass "com/example/epcrtools/epcrtools/exchange/RuleSetKey" = some m.cls := findClass_of_methodNamed Bd.named
  have hnm := (name_of_methodNamed Bd.named Bd.method).1
  have X0 : Stand p l e ({ frames := 0, cells := 0, slots := 0, locals := 0 } : Room) s m #[(.ref a1), .null] below meth c s₁ [] 0 0 := Stand.of_body Bd
  have e0 : s₁.heap = h0 := by rw [← hh, Bd.state]; rfl
  have N0 := Fr.nil n0
  have hp' := hp
  obtain ⟨S_COMPACT_STRINGS, h_cs⟩ := hp'
  have pre0 : ∀ t, Steps p.tables e below (s₁.setTop (mkF m 0 #[.val (.ref a1), .val .null, .unset] [])) t → Steps p.tables e below (s₁.setTop (entryFrame m #[(.ref a1), .null] 3)) t := fun t k => castTop (ef_10_0 m a1) k
  obtain ⟨fs, hr, hrun, hended, hW, hsame⟩ := X0.leave (v := some (.int (0 : Int32))) (fun h => by rw [Bd.returns] at h; cases h)
  refine ⟨_, _, pre0 _ ?_, hrun, hended, _, _, rfl, ?_, ⟨_, rfl⟩, hW, hsame.mono (by decide) (by decide)⟩
  · show Sp p e below s₁ (mkF m 0 #[.val (.ref a1), .val .null, .unset] []) _
    refine XS.aloadN X0.here hx rfl (hb hby d10_0) rfl rfl ?_
    show Sp p e below s₁ (mkF m 1 #[.val (.ref a1), .val .null, .unset] [.null]) _
    refine X0.instanceofNull hx (g := (mkF m 1 #[.val (.ref a1), .val .null, .unset] [.null])) rfl rfl (hb hby d10_1) _ ?_
    show Sp p e below s₁ (mkF m 4 #[.val (.ref a1), .val .null, .unset] [(.int (0 : Int32))]) _
    refine XS.ifNo X0.here hx rfl (hb hby d10_4) rfl ((if0 _ _).trans (teq (by decide : (0 : Int32) = (0 : Int32))).2) ?_
    refine XS.iconst X0.here hx rfl (hb hby d10_7) ?_
    show Sp p e below s₁ (mkF m 8 #[.val (.ref a1), .val .null, .unset] [(.int (0 : Int32))]) _
    exact retN X0 hx (t := .boolean) Bd.returns (by simp) (hb hby d10_8) hr
  · show Q18 Z cs_v a1 h0 n0 _ s₁.heap _
    rw [e0]
    exact ⟨rfl, N0, rfl⟩
theorem pd_8 : parseMethodDescriptor "(Ljava/lang/Object;)Z" = some ⟨[(.object "java/lang/Object")], some .boolean⟩ := by decide +kernel
theorem ef_0_0 (m : MethodId) (x0 : Int32) (x1 : Int32) (x2 : Int32) (x3 : Int32) (x4 : Int32) : entryFrame m #[(.int x0), (.int x1), (.int x2), (.int x3), (.int x4)] maxLocals = mkF m 0 #[.val (.int x0), .val (.int x1), .val (.int x2), .val (.int x3), .val (.int x4), .unset, .unset, .unset, .unset, .unset, .unset, .unset, .unset, .unset, .unset, .unset, .unset, .unset, .unset, .unset, .unset] [] := by first | (simp [entryFrame, mkF, argsToLocals, Value.category, maxLocals]; done) | rfl
set_option maxRecDepth 65536 in
set_option maxHeartbeats 40000000 in
theorem rm19 (l : Launch) (Z : State) (a0 : Array Value) (hw : ∀ d ∈ tables_1, d.before a0 Z = true) (ws : List Jvm.Cond) (cs_v : Int32) (hp : Perm Z cs_v) (p0 : Int32) (p1 : Int32) (p2 : Int32) (p3 : Int32) (p4 : Int32) (z8 : Int32) (z9 : Int32) (z15 : Int32) (h0 : Heap) (n0 : Nat) (O0 : Old Z n0 h0) (hcut28 : Cut_0_28 p0 p1 p2 p3 p4 ((p2 &&& (3 : Int32)) % (3 : Int32)) ((((p2.toUInt32 >>> ((2 : Int32) &&& 31).toUInt32).toInt32) &&& (255 : Int32)).toUInt32.toUInt16.toUInt32.toInt32) ((((p2.toUInt32 >>> ((10 : Int32) &&& 31).toUInt32).toInt32) &&& (255 : Int32)).toUInt32.toUInt16.toUInt32.toInt32) z8 z9) (hcut109 : Cut_0_109 p0 p1 p2 p3 p4 ((p2 &&& (3 : Int32)) % (3 : Int32)) ((((p2.toUInt32 >>> ((2 : Int32) &&& 31).toUInt32).toInt32) &&& (255 : Int32)).toUInt32.toUInt16.toUInt32.toInt32) ((((p2.toUInt32 >>> ((10 : Int32) &&& 31).toUInt32).toInt32) &&& (255 : Int32)).toUInt32.toUInt16.toUInt32.toInt32) z8 z9 ((z9 &&& (3 : Int32)) % (3 : Int32)) ((((z9.toUInt32 >>> ((2 : Int32) &&& 31).toUInt32).toInt32) &&& (255 : Int32)).toUInt32.toUInt16.toUInt32.toInt32) ((((z9.toUInt32 >>> ((10 : Int32) &&& 31).toUInt32).toInt32) &&& (255 : Int32)).toUInt32.toUInt16.toUInt32.toInt32) z15) (hc3 : (p4 &&& (3 : Int32)) = (0 : Int32)) :
    MetFree l x (head1 (Jvm.Cond.code x code maxLocals ret :: ws) room_1) (fun a U => a = #[(.int p0), (.int p1), (.int p2), (.int p3), (.int p4)] ∧ Z.Warmed39 U.vm ∧ U.heap = h0 ∧ CHv Z own_EL U.vm h0) (fun _ _ _ _ _ => True) (fun _ U o U' => ∃ v L, o = .returned v ∧ (v = some (.int (1 : Int32)) ∧ Fr n0 L) ∧ ReturnedEndW U o U' L 32 1152) := by
  refine MetFree.of_bodySF (plainFor_of_name pn_1) hisR ?_
  intro p e s m args below meth c s₁ Bd hml0 hP hK
  obtain ⟨rfl, hZo, hh, hCH⟩ := hP
  have hx := Bd.exec
  have hby := Bd.bytes
  have hml : c.maxLocals = 21 := hml0
  have hown : (s.setVm s.vm).vm.findClass "com/example/epcrtools/epcrtools/exchange/RuleSetKeyEqualsPinLaw" = some m.cls := findClass_of_methodNamed Bd.named
  have hnm := (name_of_methodNamed Bd.named Bd.method).1
  have X0 : Stand p l e room_1 (s.setVm s.vm) m #[(.int p0), (.int p1), (.int p2), (.int p3), (.int p4)] below meth c s₁ [] 0 0 := Stand.of_body Bd
  have e0 : s₁.heap = h0 := by rw [← hh, Bd.state]; rfl
  have N0 := Fr.nil n0
  have hZ : Z.Warmed39 (s.setVm s.vm).vm := hZo
  have CH0 := CHr.refl hCH
  have hS0 : s.Since s.vm 0 := (State.WarmedH.refl s).since 0
  have hk0 : 0 ≤ h0.size := Nat.zero_le _
  have hp' := hp
  obtain ⟨S_COMPACT_STRINGS, h_cs⟩ := hp'
  have pre0 : ∀ t, Steps p.tables e below (s₁.setTop (mkF m 0 #[.val (.int p0), .val (.int p1), .val (.int p2), .val (.int p3), .val (.int p4), .unset, .unset, .unset, .unset, .unset, .unset, .unset, .unset, .unset, .unset, .unset, .unset, .unset, .unset, .unset, .unset] [])) t → Steps p.tables e below (s₁.setTop (entryFrame m #[(.int p0), (.int p1), (.int p2), (.int p3), (.int p4)] maxLocals)) t := fun t k => castTop (ef_0_0 m p0 p1 p2 p3 p4) k
  have st1 := hcut28 X0 hx hZ hw hby hown
  obtain ⟨_, _, ⟨T2, L2, k2, n2⟩, -, XX2, Sq2, gq2, ⟨Lc2, hQ2, l2, y2, z2, C2⟩, st2⟩ := callSS X0 hx (y := y2) hown (mvT hZ (wq hw 0 rfl)) (mvT hZ (wq hw 1 rfl)) (mvT hZ (wq hw 2 rfl)) (mvT hZ (wq hw 3 rfl)) (by decide) (own_backC (SL := []) (W := 0) (rmS1 l Z a0 hw [] cs_v hp ((p2 &&& (3 : Int32)) % (3 : Int32)) ((((p2.toUInt32 >>> ((2 : Int32) &&& 31).toUInt32).toInt32) &&& (255 : Int32)).toUInt32.toUInt16.toUInt32.toInt32) ((((p2.toUInt32 >>> ((10 : Int32) &&& 31).toUInt32).toInt32) &&& (255 : Int32)).toUInt32.toUInt16.toUInt32.toInt32) h0 n0 O0 (own_ch2 ((p2.toUInt32 >>> ((2 : Int32) &&& 31).toUInt32).toInt32)) (own_ch2 ((p2.toUInt32 >>> ((10 : Int32) &&& 31).toUInt32).toInt32))) hZ (wq hw 3 rfl) (wq hw 2 rfl) (by decide) (by decide) (own_EW hw) CH0.1 all0) (g := (mkF m 93 #[.val (.int p0), .val (.int p1), .val (.int p2), .val (.int p3), .val (.int p4), .val (.int (fx0 p2)), .val (.int (fx2 p2)), .val (.int (fx4 p2)), .val (.int z8), .val (.int z9), .val (.int (fx0 z9)), .val (.int (fx2 z9)), .val (.int (fx4 z9)), .unset, .unset, .unset, .unset, .unset, .unset, .unset, .unset] [(.int (fx4 p2)), (.int (fx2 p2)), (.int (fx0 p2))])) rfl (by rw [hml]; rfl) (argsL := [(.int (fx0 p2)), (.int (fx2 p2)), (.int (fx4 p2))]) (rest := []) (lenOf pd_5 rfl) rfl (by show 2 * 0 + _ ≤ _; exact Nat.le_of_eq rfl) (hb hby at_93) (fun _ _ => ⟨rfl, e0, (by decide : 0 + 4 ≤ _), (by decide : 0 + 8 ≤ _)⟩)
  dsimp only [Pt.U, Pt.locs, Pt.cells, Pt.slots] at XX2 Sq2 gq2 l2 y2 z2 st2 hQ2 C2
  subst l2 y2 z2
  obtain ⟨X2, hS2, hZ2, hown2⟩ := rebS hS0 (by rw [e0]; exact hk0) XX2 Sq2 gq2 hZ hown
  obtain ⟨b2_0, y2_0, kc2_0, rfl, Nq2, Kq2, sq_b2_0, fq2_0, fq2_1, fq2_2, fq2_3⟩ := hQ2
  have N2 := Fr.app N0 Nq2
  have g_b2_0 : n0 ≤ b2_0 := Nat.le_trans (own_sz O0) sq_b2_0
  have sz_b2_0 : h0.size ≤ b2_0 := Nat.le_trans (Keep.refl h0 []).1 sq_b2_0
  have CH2 := CH0.trans C2
  have hk2 : T2.heap.size ≤ T2.heap.size := Nat.le_refl _
  have O2 := O0.keep Kq2 all0
  have K2 : Keep h0 T2.heap [] := (Keep.refl h0 []).trans Kq2 all0
  obtain ⟨_, _, ⟨T3, L3, k3, n3⟩, -, XX3, Sq3, gq3, ⟨Lc3, hQ3, l3, y3, z3, C3⟩, st3⟩ := callSS X2 hx (y := y2) hown2 (mvT hZ2 (wq hw 0 rfl)) (mvT hZ2 (wq hw 1 rfl)) (mvT hZ2 (wq hw 2 rfl)) (mvT hZ2 (wq hw 3 rfl)) (by decide) (own_backC (SL := []) (W := 0) (rmS1 l Z a0 hw [] cs_v hp ((z9 &&& (3 : Int32)) % (3 : Int32)) ((((z9.toUInt32 >>> ((2 : Int32) &&& 31).toUInt32).toInt32) &&& (255 : Int32)).toUInt32.toUInt16.toUInt32.toInt32) ((((z9.toUInt32 >>> ((10 : Int32) &&& 31).toUInt32).toInt32) &&& (255 : Int32)).toUInt32.toUInt16.toUInt32.toInt32) T2.heap n0 O2 (own_ch2 ((z9.toUInt32 >>> ((2 : Int32) &&& 31).toUInt32).toInt32)) (own_ch2 ((z9.toUInt32 >>> ((10 : Int32) &&& 31).toUInt32).toInt32))) hZ2 (wq hw 3 rfl) (wq hw 2 rfl) (by decide) (by decide) (own_EW hw) CH2.1 all0) (g := (mkF m 104 #[.val (.int p0), .val (.int p1), .val (.int p2), .val (.int p3), .val (.int p4), .val (.int (fx0 p2)), .val (.int (fx2 p2)), .val (.int (fx4 p2)), .val (.int z8), .val (.int z9), .val (.int (fx0 z9)), .val (.int (fx2 z9)), .val (.int (fx4 z9)), .val (.ref b2_0), .unset, .unset, .unset, .unset, .unset, .unset, .unset] [(.int (fx4 z9)), (.int (fx2 z9)), (.int (fx0 z9))])) rfl (by rw [hml]; rfl) (argsL := [(.int (fx0 z9)), (.int (fx2 z9)), (.int (fx4 z9))]) (rest := []) (lenOf pd_5 rfl) rfl (by show 2 * 0 + _ ≤ _; exact Nat.le_of_eq rfl) (hb hby at_104) (fun _ _ => ⟨rfl, rfl, (by decide : 4 + 4 ≤ _), (by decide : 8 + 8 ≤ _)⟩)
  dsimp only [Pt.U, Pt.locs, Pt.cells, Pt.slots] at XX3 Sq3 gq3 l3 y3 z3 st3 hQ3 C3
  subst l3 y3 z3
  obtain ⟨X3, hS3, hZ3, hown3⟩ := rebS hS2 hk2 XX3 Sq3 gq3 hZ2 hown2
  obtain ⟨b3_0, y3_0, kc3_0, rfl, Nq3, Kq3, sq_b3_0, fq3_0, fq3_1, fq3_2, fq3_3⟩ := hQ3
  have N3 := Fr.app N2 Nq3
  have g_b3_0 : n0 ≤ b3_0 := Nat.le_trans (own_sz O2) sq_b3_0
  have sz_b3_0 : h0.size ≤ b3_0 := Nat.le_trans K2.1 sq_b3_0
  have CH3 := CH2.trans C3
  have hk3 : T3.heap.size ≤ T3.heap.size := Nat.le_refl _
  have O3 := O2.keep Kq3 all0
  have K3 : Keep h0 T3.heap [] := K2.trans Kq3 all0
  have st4 := hcut109 b2_0 b3_0 X3 hx hZ3 hw hby hown3
  obtain ⟨T5, h5, X5, e5, E5, A5, D5, -, st5⟩ := newO X3 hx hZ3 hown3 (wq hw 34 rfl) (wq hw 35 rfl) (wq hw 36 rfl) rfl (g := (mkF m 125 #[.val (.int p0), .val (.int p1), .val (.int p2), .val (.int p3), .val (.int p4), .val (.int (fx0 p2)), .val (.int (fx2 p2)), .val (.int (fx4 p2)), .val (.int z8), .val (.int z9), .val (.int (fx0 z9)), .val (.int (fx2 z9)), .val (.int (fx4 z9)), .val (.ref b2_0), .val (.ref b3_0), .val (.int z15), .unset, .unset, .unset, .unset, .unset] [])) rfl (hb hby at_125) (by decide) (by decide)
  obtain ⟨b5, g5⟩ : ∃ z, z = T3.heap.size := ⟨_, rfl⟩
  rw [← g5] at A5 D5 st5
  have g_b5 : n0 ≤ b5 := Nat.le_trans (own_sz O3) (Nat.le_of_eq g5.symm)
  have sz_b5 : h0.size ≤ b5 := Nat.le_trans K3.1 (Nat.le_of_eq g5.symm)
  have O5 := O3.ext E5
  have K5 : Keep h0 h5 [] := K3.ext E5
  have CH5 := CH3.trans (CHr.ext E5 CH3.1)
  have hk5 := Nat.le_trans hk3 E5.1
  have F_dataSchema_b5 : Fld Z h5 b5 "com/example/epcrtools/epcrtools/exchange/RuleSetKey" "dataSchema" "I" (.int (0 : Int32)) := D5 (Or.inr (wq hw 42 rfl)) (ty := .int) (by decide)
  have F_schemaVersion_b5 : Fld Z h5 b5 "com/example/epcrtools/epcrtools/exchange/RuleSetKey" "schemaVersion" "Ljava/lang/String;" .null := D5 (Or.inr (wq hw 49 rfl)) (ty := (.object "java/lang/String")) (by decide)
  obtain ⟨_, _, ⟨T6, L6, k6, n6⟩, -, X6, ⟨Lc6, hQ6, l6, y6, z6⟩, st6⟩ := X5.specialBack hx (y := y7) rfl hown3 (mvT hZ3 (wq hw 37 rfl)) (mvT hZ3 (wq hw 38 rfl)) (mvT hZ3 (wq hw 39 rfl)) (by decide) (backOf (W := 1) (rm17 l Z a0 hw [] cs_v hp b5 p0 b2_0 h5 n0 O5 A5 F_dataSchema_b5 F_schemaVersion_b5 g_b5 ((fq2_0.keep Kq3).ext E5)) hZ3 (wq hw 39 rfl) (wq hw 36 rfl) (by decide) (by decide)) (g := (mkF m 132 #[.val (.int p0), .val (.int p1), .val (.int p2), .val (.int p3), .val (.int p4), .val (.int (fx0 p2)), .val (.int (fx2 p2)), .val (.int (fx4 p2)), .val (.int z8), .val (.int z9), .val (.int (fx0 z9)), .val (.int (fx2 z9)), .val (.int (fx4 z9)), .val (.ref b2_0), .val (.ref b3_0), .val (.int z15), .unset, .unset, .unset, .unset, .unset] [(.ref b2_0), (.int p0), (.ref b5), (.ref b5)])) rfl (by rw [hml]; rfl) (Steps.refl _) (a := b5) (argsL := [(.int p0), (.ref b2_0)]) (rest := [(.ref b5)]) (lenOf pd_7 rfl) rfl (by show 2 * 0 + _ ≤ _; exact Nat.le_of_eq rfl) (hb hby at_132) (fun _ _ => ⟨rfl, e5, (by decide : 9 + 0 ≤ _), (by decide : 18 + 0 ≤ _)⟩)
  dsimp only [Pt.U, Pt.locs, Pt.cells, Pt.slots] at X6 l6 y6 z6 st6 hQ6
  subst l6 y6 z6
  obtain ⟨rfl, Nq6, Kq6, fq6_0, fq6_1, fq6_2⟩ := hQ6
  have N6 := Fr.app N3 Nq6
  have CH6 := CH5.trans (CHr.keep Kq6 (allS (Safe.exa hZ3.alike A5 (by decide) (by decide)) all0) CH5.1)
  have hk6 := Nat.le_trans hk5 Kq6.1
  have O6 := O5.keep Kq6 (allS g_b5 all0)
  have K6 : Keep h0 T6.heap [] := K5.trans Kq6 (allS (Or.inr sz_b5) all0)
  obtain ⟨cq7, kq7, q7a, q7b, q7c⟩ := isOf hZ3 rfl fq6_0
  obtain ⟨_, _, ⟨T7, L7, k7, n7⟩, -, X7, ⟨Lc7, hQ7, l7, y7, z7⟩, st7⟩ := X6.virtualBack hx (y := y8) (z := y8) hown3 (mvT hZ3 (wq hw 50 rfl)) (mvT hZ3 (wq hw 51 rfl)) (notFace_of_selects (args := #[]) (mvT hZ3 (wq hw 53 rfl))) (mvT hZ3 (wq hw 53 rfl)) (mvT hZ3 (wq hw 52 rfl)) (by decide) (backOf (W := 0) (rm18 l Z a0 hw [] cs_v hp b5 T6.heap n0 O6) hZ3 (wq hw 54 rfl) (wq hw 36 rfl) (by decide) (by decide)) q7a q7c (g := (mkF m 254 #[.val (.int p0), .val (.int p1), .val (.int p2), .val (.int p3), .val (.int p4), .val (.int (fx0 p2)), .val (.int (fx2 p2)), .val (.int (fx4 p2)), .val (.int z8), .val (.int z9), .val (.int (fx0 z9)), .val (.int (fx2 z9)), .val (.int (fx4 z9)), .val (.ref b2_0), .val (.ref b3_0), .val (.int z15), .val (.ref b5), .val (.int (p4 &&& (3 : Int32))), .val .null, .val (.int (0 : Int32)), .unset] [.null, (.ref b5)])) rfl (by rw [hml]; rfl) (Steps.refl _) (argsL := [.null]) (rest := []) (lenOf pd_8 rfl) rfl (by show 2 * 0 + _ ≤ _; exact Nat.le_of_eq rfl) (hb hby at_254) (fun _ _ => ⟨rfl, rfl, (by decide : 9 + 0 ≤ _), (by decide : 18 + 0 ≤ _)⟩)
  dsimp only [Pt.U, Pt.locs, Pt.cells, Pt.slots] at X7 l7 y7 z7 st7 hQ7
  subst l7 y7 z7
  obtain ⟨rfl, Nq7, eq7⟩ := hQ7
  have N7 := Fr.app N6 Nq7
  obtain ⟨fs, hr, hrun, hended, hE⟩ := Stand.leaveW (s := s) X7 hS3 (by rw [eq7]; exact hk6) (v := some (.int (1 : Int32))) (fun h => by rw [Bd.returns] at h; cases h)
  refine ⟨_, _, pre0 _ ?_, hrun, hended, _, _, rfl, ?_, hE.1, hE.2.1, hE.2.2.1, hE.2.2.2.mono (by decide) (by decide)⟩
  · show Sp p e below s₁ (mkF m 0 #[.val (.int p0), .val (.int p1), .val (.int p2), .val (.int p3), .val (.int p4), .unset, .unset, .unset, .unset, .unset, .unset, .unset, .unset, .unset, .unset, .unset, .unset, .unset, .unset, .unset, .unset] []) _
    refine XS.iloadN X0.here hx rfl (hb hby at_0) rfl ?_
    refine XS.iconst X0.here hx rfl (hb hby at_1) ?_
    refine XS.iand X0.here hx rfl (hb hby at_2) rfl ?_
    refine XS.iconst X0.here hx rfl (hb hby at_3) ?_
    show Sp p e below s₁ (mkF m 4 #[.val (.int p0), .val (.int p1), .val (.int p2), .val (.int p3), .val (.int p4), .unset, .unset, .unset, .unset, .unset, .unset, .unset, .unset, .unset, .unset, .unset, .unset, .unset, .unset, .unset, .unset] [(.int (3 : Int32)), (.int (p2 &&& (3 : Int32)))]) _
    refine iremM X0 hx rfl (hb hby at_4) rfl (by decide) ?_
    show Sp p e below s₁ (mkF m 5 #[.val (.int p0), .val (.int p1), .val (.int p2), .val (.int p3), .val (.int p4), .unset, .unset, .unset, .unset, .unset, .unset, .unset, .unset, .unset, .unset, .unset, .unset, .unset, .unset, .unset, .unset] [(.int (fx0 p2))]) _
    refine XS.istore X0.here hx rfl (hb hby at_5) rfl (l' := #[.val (.int p0), .val (.int p1), .val (.int p2), .val (.int p3), .val (.int p4), .val (.int (fx0 p2)), .unset, .unset, .unset, .unset, .unset, .unset, .unset, .unset, .unset, .unset, .unset, .unset, .unset, .unset, .unset]) rfl ?_
    refine XS.iloadN X0.here hx rfl (hb hby at_7) rfl ?_
    refine XS.iconst X0.here hx rfl (hb hby at_8) ?_
    refine XS.iushr X0.here hx rfl (hb hby at_9) rfl ?_
    show Sp p e below s₁ (mkF m 10 #[.val (.int p0), .val (.int p1), .val (.int p2), .val (.int p3), .val (.int p4), .val (.int (fx0 p2)), .unset, .unset, .unset, .unset, .unset, .unset, .unset, .unset, .unset, .unset, .unset, .unset, .unset, .unset, .unset] [(.int (fx1 p2))]) _
    refine XS.sipush X0.here hx rfl (hb hby at_10) ?_
    refine XS.iand X0.here hx rfl (hb hby at_13) rfl ?_
    refine XS.i2c X0.here hx rfl (hb hby at_14) rfl ?_
    refine XS.istore X0.here hx rfl (hb hby at_15) rfl (l' := #[.val (.int p0), .val (.int p1), .val (.int p2), .val (.int p3), .val (.int p4), .val (.int (fx0 p2)), .val (.int (fx2 p2)), .unset, .unset, .unset, .unset, .unset, .unset, .unset, .unset, .unset, .unset, .unset, .unset, .unset, .unset]) rfl ?_
    show Sp p e below s₁ (mkF m 17 #[.val (.int p0), .val (.int p1), .val (.int p2), .val (.int p3), .val (.int p4), .val (.int (fx0 p2)), .val (.int (fx2 p2)), .unset, .unset, .unset, .unset, .unset, .unset, .unset, .unset, .unset, .unset, .unset, .unset, .unset, .unset] []) _
    refine XS.iloadN X0.here hx rfl (hb hby at_17) rfl ?_
    refine XS.bipush X0.here hx rfl (hb hby at_18) ?_
    refine XS.iushr X0.here hx rfl (hb hby at_20) rfl ?_
    refine XS.sipush X0.here hx rfl (hb hby at_21) ?_
    show Sp p e below s₁ (mkF m 24 #[.val (.int p0), .val (.int p1), .val (.int p2), .val (.int p3), .val (.int p4), .val (.int (fx0 p2)), .val (.int (fx2 p2)), .unset, .unset, .unset, .unset, .unset, .unset, .unset, .unset, .unset, .unset, .unset, .unset, .unset, .unset] [(.int (255 : Int32)), (.int (fx3 p2))]) _
    refine XS.iand X0.here hx rfl (hb hby at_24) rfl ?_
    refine XS.i2c X0.here hx rfl (hb hby at_25) rfl ?_
    refine XS.istore X0.here hx rfl (hb hby at_26) rfl (l' := #[.val (.int p0), .val (.int p1), .val (.int p2), .val (.int p3), .val (.int p4), .val (.int (fx0 p2)), .val (.int (fx2 p2)), .val (.int (fx4 p2)), .unset, .unset, .unset, .unset, .unset, .unset, .unset, .unset, .unset, .unset, .unset, .unset, .unset]) rfl ?_
    show Sp p e below s₁ (mkF m 28 #[.val (.int p0), .val (.int p1), .val (.int p2), .val (.int p3), .val (.int p4), .val (.int (fx0 p2)), .val (.int (fx2 p2)), .val (.int (fx4 p2)), .unset, .unset, .unset, .unset, .unset, .unset, .unset, .unset, .unset, .unset, .unset, .unset, .unset] []) _
    refine st1 _ ?_
    show Sp p e below s₁ (mkF m 56 #[.val (.int p0), .val (.int p1), .val (.int p2), .val (.int p3), .val (.int p4), .val (.int (fx0 p2)), .val (.int (fx2 p2)), .val (.int (fx4 p2)), .val (.int z8), .val (.int z9), .unset, .unset, .unset, .unset, .unset, .unset, .unset, .unset, .unset, .unset, .unset] []) _
    refine XS.iload X0.here hx rfl (hb hby at_56) rfl ?_
    refine XS.iconst X0.here hx rfl (hb hby at_58) ?_
    refine XS.iand X0.here hx rfl (hb hby at_59) rfl ?_
    refine XS.iconst X0.here hx rfl (hb hby at_60) ?_
    show Sp p e below s₁ (mkF m 61 #[.val (.int p0), .val (.int p1), .val (.int p2), .val (.int p3), .val (.int p4), .val (.int (fx0 p2)), .val (.int (fx2 p2)), .val (.int (fx4 p2)), .val (.int z8), .val (.int z9), .unset, .unset, .unset, .unset, .unset, .unset, .unset, .unset, .unset, .unset, .unset] [(.int (3 : Int32)), (.int (z9 &&& (3 : Int32)))]) _
    refine iremM X0 hx rfl (hb hby at_61) rfl (by decide) ?_
    show Sp p e below s₁ (mkF m 62 #[.val (.int p0), .val (.int p1), .val (.int p2), .val (.int p3), .val (.int p4), .val (.int (fx0 p2)), .val (.int (fx2 p2)), .val (.int (fx4 p2)), .val (.int z8), .val (.int z9), .unset, .unset, .unset, .unset, .unset, .unset, .unset, .unset, .unset, .unset, .unset] [(.int (fx0 z9))]) _
    refine XS.istore X0.here hx rfl (hb hby at_62) rfl (l' := #[.val (.int p0), .val (.int p1), .val (.int p2), .val (.int p3), .val (.int p4), .val (.int (fx0 p2)), .val (.int (fx2 p2)), .val (.int (fx4 p2)), .val (.int z8), .val (.int z9), .val (.int (fx0 z9)), .unset, .unset, .unset, .unset, .unset, .unset, .unset, .unset, .unset, .unset]) rfl ?_
    refine XS.iload X0.here hx rfl (hb hby at_64) rfl ?_
    refine XS.iconst X0.here hx rfl (hb hby at_66) ?_
    refine XS.iushr X0.here hx rfl (hb hby at_67) rfl ?_
    show Sp p e below s₁ (mkF m 68 #[.val (.int p0), .val (.int p1), .val (.int p2), .val (.int p3), .val (.int p4), .val (.int (fx0 p2)), .val (.int (fx2 p2)), .val (.int (fx4 p2)), .val (.int z8), .val (.int z9), .val (.int (fx0 z9)), .unset, .unset, .unset, .unset, .unset, .unset, .unset, .unset, .unset, .unset] [(.int (fx1 z9))]) _
    refine XS.sipush X0.here hx rfl (hb hby at_68) ?_
    refine XS.iand X0.here hx rfl (hb hby at_71) rfl ?_
    refine XS.i2c X0.here hx rfl (hb hby at_72) rfl ?_
    refine XS.istore X0.here hx rfl (hb hby at_73) rfl (l' := #[.val (.int p0), .val (.int p1), .val (.int p2), .val (.int p3), .val (.int p4), .val (.int (fx0 p2)), .val (.int (fx2 p2)), .val (.int (fx4 p2)), .val (.int z8), .val (.int z9), .val (.int (fx0 z9)), .val (.int (fx2 z9)), .unset, .unset, .unset, .unset, .unset, .unset, .unset, .unset, .unset]) rfl ?_
    show Sp p e below s₁ (mkF m 75 #[.val (.int p0), .val (.int p1), .val (.int p2), .val (.int p3), .val (.int p4), .val (.int (fx0 p2)), .val (.int (fx2 p2)), .val (.int (fx4 p2)), .val (.int z8), .val (.int z9), .val (.int (fx0 z9)), .val (.int (fx2 z9)), .unset, .unset, .unset, .unset, .unset, .unset, .unset, .unset, .unset] []) _
    refine XS.iload X0.here hx rfl (hb hby at_75) rfl ?_
    refine XS.bipush X0.here hx rfl (hb hby at_77) ?_
    refine XS.iushr X0.here hx rfl (hb hby at_79) rfl ?_
    refine XS.sipush X0.here hx rfl (hb hby at_80) ?_
    show Sp p e below s₁ (mkF m 83 #[.val (.int p0), .val (.int p1), .val (.int p2), .val (.int p3), .val (.int p4), .val (.int (fx0 p2)), .val (.int (fx2 p2)), .val (.int (fx4 p2)), .val (.int z8), .val (.int z9), .val (.int (fx0 z9)), .val (.int (fx2 z9)), .unset, .unset, .unset, .unset, .unset, .unset, .unset, .unset, .unset] [(.int (255 : Int32)), (.int (fx3 z9))]) _
    refine XS.iand X0.here hx rfl (hb hby at_83) rfl ?_
    refine XS.i2c X0.here hx rfl (hb hby at_84) rfl ?_
    refine XS.istore X0.here hx rfl (hb hby at_85) rfl (l' := #[.val (.int p0), .val (.int p1), .val (.int p2), .val (.int p3), .val (.int p4), .val (.int (fx0 p2)), .val (.int (fx2 p2)), .val (.int (fx4 p2)), .val (.int z8), .val (.int z9), .val (.int (fx0 z9)), .val (.int (fx2 z9)), .val (.int (fx4 z9)), .unset, .unset, .unset, .unset, .unset, .unset, .unset, .unset]) rfl ?_
    refine XS.iload X0.here hx rfl (hb hby at_87) rfl ?_
    show Sp p e below s₁ (mkF m 89 #[.val (.int p0), .val (.int p1), .val (.int p2), .val (.int p3), .val (.int p4), .val (.int (fx0 p2)), .val (.int (fx2 p2)), .val (.int (fx4 p2)), .val (.int z8), .val (.int z9), .val (.int (fx0 z9)), .val (.int (fx2 z9)), .val (.int (fx4 z9)), .unset, .unset, .unset, .unset, .unset, .unset, .unset, .unset] [(.int (fx0 p2))]) _
    refine XS.iload X0.here hx rfl (hb hby at_89) rfl ?_
    refine XS.iload X0.here hx rfl (hb hby at_91) rfl ?_
    show Sp p e below s₁ (mkF m 93 #[.val (.int p0), .val (.int p1), .val (.int p2), .val (.int p3), .val (.int p4), .val (.int (fx0 p2)), .val (.int (fx2 p2)), .val (.int (fx4 p2)), .val (.int z8), .val (.int z9), .val (.int (fx0 z9)), .val (.int (fx2 z9)), .val (.int (fx4 z9)), .unset, .unset, .unset, .unset, .unset, .unset, .unset, .unset] [(.int (fx4 p2)), (.int (fx2 p2)), (.int (fx0 p2))]) _
    refine st2.trans ?_
    show Sp p e below T2 (mkF m 96 #[.val (.int p0), .val (.int p1), .val (.int p2), .val (.int p3), .val (.int p4), .val (.int (fx0 p2)), .val (.int (fx2 p2)), .val (.int (fx4 p2)), .val (.int z8), .val (.int z9), .val (.int (fx0 z9)), .val (.int (fx2 z9)), .val (.int (fx4 z9)), .unset, .unset, .unset, .unset, .unset, .unset, .unset, .unset] [(.ref b2_0)]) _
    refine XS.astore X2.here hx rfl (hb hby at_96) rfl rfl (l' := #[.val (.int p0), .val (.int p1), .val (.int p2), .val (.int p3), .val (.int p4), .val (.int (fx0 p2)), .val (.int (fx2 p2)), .val (.int (fx4 p2)), .val (.int z8), .val (.int z9), .val (.int (fx0 z9)), .val (.int (fx2 z9)), .val (.int (fx4 z9)), .val (.ref b2_0), .unset, .unset, .unset, .unset, .unset, .unset, .unset]) rfl ?_
    refine XS.iload X2.here hx rfl (hb hby at_98) rfl ?_
    refine XS.iload X2.here hx rfl (hb hby at_100) rfl ?_
    refine XS.iload X2.here hx rfl (hb hby at_102) rfl ?_
    show Sp p e below T2 (mkF m 104 #[.val (.int p0), .val (.int p1), .val (.int p2), .val (.int p3), .val (.int p4), .val (.int (fx0 p2)), .val (.int (fx2 p2)), .val (.int (fx4 p2)), .val (.int z8), .val (.int z9), .val (.int (fx0 z9)), .val (.int (fx2 z9)), .val (.int (fx4 z9)), .val (.ref b2_0), .unset, .unset, .unset, .unset, .unset, .unset, .unset] [(.int (fx4 z9)), (.int (fx2 z9)), (.int (fx0 z9))]) _
    refine st3.trans ?_
    show Sp p e below T3 (mkF m 107 #[.val (.int p0), .val (.int p1), .val (.int p2), .val (.int p3), .val (.int p4), .val (.int (fx0 p2)), .val (.int (fx2 p2)), .val (.int (fx4 p2)), .val (.int z8), .val (.int z9), .val (.int (fx0 z9)), .val (.int (fx2 z9)), .val (.int (fx4 z9)), .val (.ref b2_0), .unset, .unset, .unset, .unset, .unset, .unset, .unset] [(.ref b3_0)]) _
    refine XS.astore X3.here hx rfl (hb hby at_107) rfl rfl (l' := #[.val (.int p0), .val (.int p1), .val (.int p2), .val (.int p3), .val (.int p4), .val (.int (fx0 p2)), .val (.int (fx2 p2)), .val (.int (fx4 p2)), .val (.int z8), .val (.int z9), .val (.int (fx0 z9)), .val (.int (fx2 z9)), .val (.int (fx4 z9)), .val (.ref b2_0), .val (.ref b3_0), .unset, .unset, .unset, .unset, .unset, .unset]) rfl ?_
    show Sp p e below T3 (mkF m 109 #[.val (.int p0), .val (.int p1), .val (.int p2), .val (.int p3), .val (.int p4), .val (.int (fx0 p2)), .val (.int (fx2 p2)), .val (.int (fx4 p2)), .val (.int z8), .val (.int z9), .val (.int (fx0 z9)), .val (.int (fx2 z9)), .val (.int (fx4 z9)), .val (.ref b2_0), .val (.ref b3_0), .unset, .unset, .unset, .unset, .unset, .unset] []) _
    refine st4 _ ?_
    show Sp p e below T3 (mkF m 125 #[.val (.int p0), .val (.int p1), .val (.int p2), .val (.int p3), .val (.int p4), .val (.int (fx0 p2)), .val (.int (fx2 p2)), .val (.int (fx4 p2)), .val (.int z8), .val (.int z9), .val (.int (fx0 z9)), .val (.int (fx2 z9)), .val (.int (fx4 z9)), .val (.ref b2_0), .val (.ref b3_0), .val (.int z15), .unset, .unset, .unset, .unset, .unset] []) _
    refine st5 _ ?_
    show Sp p e below T5 (mkF m 128 #[.val (.int p0), .val (.int p1), .val (.int p2), .val (.int p3), .val (.int p4), .val (.int (fx0 p2)), .val (.int (fx2 p2)), .val (.int (fx4 p2)), .val (.int z8), .val (.int z9), .val (.int (fx0 z9)), .val (.int (fx2 z9)), .val (.int (fx4 z9)), .val (.ref b2_0), .val (.ref b3_0), .val (.int z15), .unset, .unset, .unset, .unset, .unset] [(.ref b5)]) _
    refine XS.dup X5.here hx rfl (hb hby at_128) rfl rfl ?_
    refine XS.iloadN X5.here hx rfl (hb hby at_129) rfl ?_
    refine XS.aload X5.here hx rfl (hb hby at_130) rfl rfl ?_
    show Sp p e below T5 (mkF m 132 #[.val (.int p0), .val (.int p1), .val (.int p2), .val (.int p3), .val (.int p4), .val (.int (fx0 p2)), .val (.int (fx2 p2)), .val (.int (fx4 p2)), .val (.int z8), .val (.int z9), .val (.int (fx0 z9)), .val (.int (fx2 z9)), .val (.int (fx4 z9)), .val (.ref b2_0), .val (.ref b3_0), .val (.int z15), .unset, .unset, .unset, .unset, .unset] [(.ref b2_0), (.int p0), (.ref b5), (.ref b5)]) _
    refine st6.trans ?_
    show Sp p e below T6 (mkF m 135 #[.val (.int p0), .val (.int p1), .val (.int p2), .val (.int p3), .val (.int p4), .val (.int (fx0 p2)), .val (.int (fx2 p2)), .val (.int (fx4 p2)), .val (.int z8), .val (.int z9), .val (.int (fx0 z9)), .val (.int (fx2 z9)), .val (.int (fx4 z9)), .val (.ref b2_0), .val (.ref b3_0), .val (.int z15), .unset, .unset, .unset, .unset, .unset] [(.ref b5)]) _
    refine XS.astore X6.here hx rfl (hb hby at_135) rfl rfl (l' := #[.val (.int p0), .val (.int p1), .val (.int p2), .val (.int p3), .val (.int p4), .val (.int (fx0 p2)), .val (.int (fx2 p2)), .val (.int (fx4 p2)), .val (.int z8), .val (.int z9), .val (.int (fx0 z9)), .val (.int (fx2 z9)), .val (.int (fx4 z9)), .val (.ref b2_0), .val (.ref b3_0), .val (.int z15), .val (.ref b5), .unset, .unset, .unset, .unset]) rfl ?_
    refine XS.iload X6.here hx rfl (hb hby at_137) rfl ?_
    refine XS.iconst X6.here hx rfl (hb hby at_139) ?_
    refine XS.iand X6.here hx rfl (hb hby at_140) rfl ?_
    show Sp p e below T6 (mkF m 141 #[.val (.int p0), .val (.int p1), .val (.int p2), .val (.int p3), .val (.int p4), .val (.int (fx0 p2)), .val (.int (fx2 p2)), .val (.int (fx4 p2)), .val (.int z8), .val (.int z9), .val (.int (fx0 z9)), .val (.int (fx2 z9)), .val (.int (fx4 z9)), .val (.ref b2_0), .val (.ref b3_0), .val (.int z15), .val (.ref b5), .unset, .unset, .unset, .unset] [(.int (p4 &&& (3 : Int32)))]) _
    refine XS.istore X6.here hx rfl (hb hby at_141) rfl (l' := #[.val (.int p0), .val (.int p1), .val (.int p2), .val (.int p3), .val (.int p4), .val (.int (fx0 p2)), .val (.int (fx2 p2)), .val (.int (fx4 p2)), .val (.int z8), .val (.int z9), .val (.int (fx0 z9)), .val (.int (fx2 z9)), .val (.int (fx4 z9)), .val (.ref b2_0), .val (.ref b3_0), .val (.int z15), .val (.ref b5), .val (.int (p4 &&& (3 : Int32))), .unset, .unset, .unset]) rfl ?_
    refine XS.iload X6.here hx rfl (hb hby at_143) rfl ?_
    refine XS.ifNo X6.here hx rfl (hb hby at_145) rfl ((if0 _ _).trans (teq hc3).2) ?_
    refine XS.aconstNull X6.here hx rfl (hb hby at_148) ?_
    show Sp p e below T6 (mkF m 149 #[.val (.int p0), .val (.int p1), .val (.int p2), .val (.int p3), .val (.int p4), .val (.int (fx0 p2)), .val (.int (fx2 p2)), .val (.int (fx4 p2)), .val (.int z8), .val (.int z9), .val (.int (fx0 z9)), .val (.int (fx2 z9)), .val (.int (fx4 z9)), .val (.ref b2_0), .val (.ref b3_0), .val (.int z15), .val (.ref b5), .val (.int (p4 &&& (3 : Int32))), .unset, .unset, .unset] [.null]) _
    refine XS.astore X6.here hx rfl (hb hby at_149) rfl rfl (l' := #[.val (.int p0), .val (.int p1), .val (.int p2), .val (.int p3), .val (.int p4), .val (.int (fx0 p2)), .val (.int (fx2 p2)), .val (.int (fx4 p2)), .val (.int z8), .val (.int z9), .val (.int (fx0 z9)), .val (.int (fx2 z9)), .val (.int (fx4 z9)), .val (.ref b2_0), .val (.ref b3_0), .val (.int z15), .val (.ref b5), .val (.int (p4 &&& (3 : Int32))), .val .null, .unset, .unset]) rfl ?_
    refine XS.goto X6.here hx rfl (pc0 := 151) (pc' := 180) rfl (hb hby at_151) (by decide) (by decide) ?_
    refine XS.iload X6.here hx rfl (hb hby at_180) rfl ?_
    refine XS.iconst X6.here hx rfl (hb hby at_182) ?_
    show Sp p e below T6 (mkF m 183 #[.val (.int p0), .val (.int p1), .val (.int p2), .val (.int p3), .val (.int p4), .val (.int (fx0 p2)), .val (.int (fx2 p2)), .val (.int (fx4 p2)), .val (.int z8), .val (.int z9), .val (.int (fx0 z9)), .val (.int (fx2 z9)), .val (.int (fx4 z9)), .val (.ref b2_0), .val (.ref b3_0), .val (.int z15), .val (.ref b5), .val (.int (p4 &&& (3 : Int32))), .val .null, .unset, .unset] [(.int (2 : Int32)), (.int (p4 &&& (3 : Int32)))]) _
    refine XS.icmpNo X6.here hx rfl (hb hby at_183) rfl (tlt (by rw [hc3]; decide : (p4 &&& (3 : Int32)) < (2 : Int32))).2.1 ?_
    refine XS.iconst X6.here hx rfl (hb hby at_186) ?_
    refine XS.istore X6.here hx rfl (hb hby at_187) rfl (l' := #[.val (.int p0), .val (.int p1), .val (.int p2), .val (.int p3), .val (.int p4), .val (.int (fx0 p2)), .val (.int (fx2 p2)), .val (.int (fx4 p2)), .val (.int z8), .val (.int z9), .val (.int (fx0 z9)), .val (.int (fx2 z9)), .val (.int (fx4 z9)), .val (.ref b2_0), .val (.ref b3_0), .val (.int z15), .val (.ref b5), .val (.int (p4 &&& (3 : Int32))), .val .null, .val (.int (0 : Int32)), .unset]) rfl ?_
    refine XS.goto X6.here hx rfl (pc0 := 189) (pc' := 250) rfl (hb hby at_189) (by decide) (by decide) ?_
    show Sp p e below T6 (mkF m 250 #[.val (.int p0), .val (.int p1), .val (.int p2), .val (.int p3), .val (.int p4), .val (.int (fx0 p2)), .val (.int (fx2 p2)), .val (.int (fx4 p2)), .val (.int z8), .val (.int z9), .val (.int (fx0 z9)), .val (.int (fx2 z9)), .val (.int (fx4 z9)), .val (.ref b2_0), .val (.ref b3_0), .val (.int z15), .val (.ref b5), .val (.int (p4 &&& (3 : Int32))), .val .null, .val (.int (0 : Int32)), .unset] []) _
    refine XS.aload X6.here hx rfl (hb hby at_250) rfl rfl ?_
    refine XS.aload X6.here hx rfl (hb hby at_252) rfl rfl ?_
    show Sp p e below T6 (mkF m 254 #[.val (.int p0), .val (.int p1), .val (.int p2), .val (.int p3), .val (.int p4), .val (.int (fx0 p2)), .val (.int (fx2 p2)), .val (.int (fx4 p2)), .val (.int z8), .val (.int z9), .val (.int (fx0 z9)), .val (.int (fx2 z9)), .val (.int (fx4 z9)), .val (.ref b2_0), .val (.ref b3_0), .val (.int z15), .val (.ref b5), .val (.int (p4 &&& (3 : Int32))), .val .null, .val (.int (0 : Int32)), .unset] [.null, (.ref b5)]) _
    refine st7.trans ?_
    show Sp p e below T7 (mkF m 257 #[.val (.int p0), .val (.int p1), .val (.int p2), .val (.int p3), .val (.int p4), .val (.int (fx0 p2)), .val (.int (fx2 p2)), .val (.int (fx4 p2)), .val (.int z8), .val (.int z9), .val (.int (fx0 z9)), .val (.int (fx2 z9)), .val (.int (fx4 z9)), .val (.ref b2_0), .val (.ref b3_0), .val (.int z15), .val (.ref b5), .val (.int (p4 &&& (3 : Int32))), .val .null, .val (.int (0 : Int32)), .unset] [(.int (0 : Int32))]) _
    refine XS.iload X7.here hx rfl (hb hby at_257) rfl ?_
    refine XS.icmpNo X7.here hx rfl (hb hby at_259) rfl (teq (by decide : (0 : Int32) = (0 : Int32))).2 ?_
    refine XS.iconst X7.here hx rfl (hb hby at_262) ?_
    refine XS.goto X7.here hx rfl (pc0 := 263) (pc' := 267) rfl (hb hby at_263) (by decide) (by decide) ?_
    show Sp p e below T7 (mkF m 267 #[.val (.int p0), .val (.int p1), .val (.int p2), .val (.int p3), .val (.int p4), .val (.int (fx0 p2)), .val (.int (fx2 p2)), .val (.int (fx4 p2)), .val (.int z8), .val (.int z9), .val (.int (fx0 z9)), .val (.int (fx2 z9)), .val (.int (fx4 z9)), .val (.ref b2_0), .val (.ref b3_0), .val (.int z15), .val (.ref b5), .val (.int (p4 &&& (3 : Int32))), .val .null, .val (.int (0 : Int32)), .unset] [(.int (1 : Int32))]) _
    exact retN X7 hx (t := .boolean) Bd.returns (by simp) (hb hby at_267) hr
  · skip
    exact ⟨rfl, N7⟩
theorem ef_10_1 (m : MethodId) (x0 : Addr) (x1 : Addr) : entryFrame m #[(.ref x0), (.ref x1)] 3 = mkF m 0 #[.val (.ref x0), .val (.ref x1), .unset] [] := by first | (simp [entryFrame, mkF, argsToLocals, Value.category]; done) | rfl
def Q20 (Z : State) (cs_v : Int32) (a1 : Addr) (a2 : Addr) (h0 : Heap) (n0 : Nat) (v : Option Value) (h : Heap) (L : List Loc) : Prop := v = some (.int (0 : Int32)) ∧ Fr n0 L ∧ h = h0
set_option maxRecDepth 65536 in
set_option maxHeartbeats 40000000 in
theorem rm20 (l : Launch) (Z : State) (a0 : Array Value) (hw : ∀ d ∈ tables_1, d.before a0 Z = true) (ws : List Jvm.Cond) (cs_v : Int32) (hp : Perm Z cs_v) (a1 : Addr) (a2 : Addr) (h0 : Heap) (n0 : Nat) (O0 : Old Z n0 h0) (E_a2 : Exa Z h0 a2 "java/lang/String") :
    MetFree l y8 (head1 (Jvm.Cond.code y8 prog_8_method_4_code 3 (some .boolean) :: ws) ({ frames := 0, cells := 0, slots := 0, locals := 0 } : Room)) (fun a U => a = #[(.ref a1), (.ref a2)] ∧ Z.Warmed39 U.vm ∧ U.heap = h0) (fun _ _ _ _ _ => True) (fun _ U o U' => ∃ v L, o = .returned v ∧ Q20 Z cs_v a1 a2 h0 n0 v U'.heap L ∧ FrameEnd U o U' L ({ frames := 0, cells := 0, slots := 0, locals := 0 } : Room).cells ({ frames := 0, cells := 0, slots := 0, locals := 0 } : Room).slots) := by
  refine MetFree.of_bodySF (plainFor_of_name pn_8) hisR ?_
  intro p e s m args below meth c s₁ Bd hml0 hP hK
  obtain ⟨rfl, hZ, hh⟩ := hP
  have hx := Bd.exec
  have hby := Bd.bytes
  have hml : c.maxLocals = 3 := hml0
  have hown : s.vm.findClass "com/example/epcrtools/epcrtools/exchange/RuleSetKey" = some m.cls := findClass_of_methodNamed Bd.named
  have hnm := (name_of_methodNamed Bd.named Bd.method).1
  have X0 : Stand p l e ({ frames := 0, cells := 0, slots := 0, locals := 0 } : Room) s m #[(.ref a1), (.ref a2)] below meth c s₁ [] 0 0 := Stand.of_body Bd
  have e0 : s₁.heap = h0 := by rw [← hh, Bd.state]; rfl
  have N0 := Fr.nil n0
  have hp' := hp
  obtain ⟨S_COMPACT_STRINGS, h_cs⟩ := hp'
  have pre0 : ∀ t, Steps p.tables e below (s₁.setTop (mkF m 0 #[.val (.ref a1), .val (.ref a2), .unset] [])) t → Steps p.tables e below (s₁.setTop (entryFrame m #[(.ref a1), (.ref a2)] 3)) t := fun t k => castTop (ef_10_1 m a1 a2) k
  obtain ⟨T1, X1, e1, st1⟩ := instNo X0 hx hZ hown (wq hw 58 rfl) e0 E_a2 (own_notsub (wq hw 70 rfl) (wq hw 71 rfl) (wq hw 5 rfl) (wq hw 35 rfl) (by decide) (by decide)) (g := (mkF m 1 #[.val (.ref a1), .val (.ref a2), .unset] [(.ref a2)])) rfl rfl (hb hby d10_1)
  obtain ⟨fs, hr, hrun, hended, hW, hsame⟩ := X1.leave (v := some (.int (0 : Int32))) (fun h => by rw [Bd.returns] at h; cases h)
  refine ⟨_, _, pre0 _ ?_, hrun, hended, _, _, rfl, ?_, ⟨_, rfl⟩, hW, hsame.mono (by decide) (by decide)⟩
  · show Sp p e below s₁ (mkF m 0 #[.val (.ref a1), .val (.ref a2), .unset] []) _
    refine XS.aloadN X0.here hx rfl (hb hby d10_0) rfl rfl ?_
    show Sp p e below s₁ (mkF m 1 #[.val (.ref a1), .val (.ref a2), .unset] [(.ref a2)]) _
    refine st1 _ ?_
    show Sp p e below T1 (mkF m 4 #[.val (.ref a1), .val (.ref a2), .unset] [(.int (0 : Int32))]) _
    refine XS.ifNo X1.here hx rfl (hb hby d10_4) rfl ((if0 _ _).trans (teq (by decide : (0 : Int32) = (0 : Int32))).2) ?_
    refine XS.iconst X1.here hx rfl (hb hby d10_7) ?_
    show Sp p e below T1 (mkF m 8 #[.val (.ref a1), .val (.ref a2), .unset] [(.int (0 : Int32))]) _
    exact retN X1 hx (t := .boolean) Bd.returns (by simp) (hb hby d10_8) hr
  · show Q20 Z cs_v a1 a2 h0 n0 _ T1.heap _
    rw [e1]
    exact ⟨rfl, N0, rfl⟩
set_option maxRecDepth 65536 in
set_option maxHeartbeats 40000000 in
theorem rm21 (l : Launch) (Z : State) (a0 : Array Value) (hw : ∀ d ∈ tables_1, d.before a0 Z = true) (ws : List Jvm.Cond) (cs_v : Int32) (hp : Perm Z cs_v) (p0 : Int32) (p1 : Int32) (p2 : Int32) (p3 : Int32) (p4 : Int32) (z8 : Int32) (z9 : Int32) (z15 : Int32) (h0 : Heap) (n0 : Nat) (O0 : Old Z n0 h0) (hcut28 : Cut_0_28 p0 p1 p2 p3 p4 ((p2 &&& (3 : Int32)) % (3 : Int32)) ((((p2.toUInt32 >>> ((2 : Int32) &&& 31).toUInt32).toInt32) &&& (255 : Int32)).toUInt32.toUInt16.toUInt32.toInt32) ((((p2.toUInt32 >>> ((10 : Int32) &&& 31).toUInt32).toInt32) &&& (255 : Int32)).toUInt32.toUInt16.toUInt32.toInt32) z8 z9) (hcut109 : Cut_0_109 p0 p1 p2 p3 p4 ((p2 &&& (3 : Int32)) % (3 : Int32)) ((((p2.toUInt32 >>> ((2 : Int32) &&& 31).toUInt32).toInt32) &&& (255 : Int32)).toUInt32.toUInt16.toUInt32.toInt32) ((((p2.toUInt32 >>> ((10 : Int32) &&& 31).toUInt32).toInt32) &&& (255 : Int32)).toUInt32.toUInt16.toUInt32.toInt32) z8 z9 ((z9 &&& (3 : Int32)) % (3 : Int32)) ((((z9.toUInt32 >>> ((2 : Int32) &&& 31).toUInt32).toInt32) &&& (255 : Int32)).toUInt32.toUInt16.toUInt32.toInt32) ((((z9.toUInt32 >>> ((10 : Int32) &&& 31).toUInt32).toInt32) &&& (255 : Int32)).toUInt32.toUInt16.toUInt32.toInt32) z15) (hc3 : ¬ ((p4 &&& (3 : Int32)) = (0 : Int32))) (hc4 : (p4 &&& (3 : Int32)) = (1 : Int32)) :
    MetFree l x (head1 (Jvm.Cond.code x code maxLocals ret :: ws) room_1) (fun a U => a = #[(.int p0), (.int p1), (.int p2), (.int p3), (.int p4)] ∧ Z.Warmed39 U.vm ∧ U.heap = h0 ∧ CHv Z own_EL U.vm h0) (fun _ _ _ _ _ => True) (fun _ U o U' => ∃ v L, o = .returned v ∧ (v = some (.int (1 : Int32)) ∧ Fr n0 L) ∧ ReturnedEndW U o U' L 32 1152) := by
  refine MetFree.of_bodySF (plainFor_of_name pn_1) hisR ?_
  intro p e s m args below meth c s₁ Bd hml0 hP hK
  obtain ⟨rfl, hZo, hh, hCH⟩ := hP
  have hx := Bd.exec
  have hby := Bd.bytes
  have hml : c.maxLocals = 21 := hml0
  have hown : (s.setVm s.vm).vm.findClass "com/example/epcrtools/epcrtools/exchange/RuleSetKeyEqualsPinLaw" = some m.cls := findClass_of_methodNamed Bd.named
  have hnm := (name_of_methodNamed Bd.named Bd.method).1
  have X0 : Stand p l e room_1 (s.setVm s.vm) m #[(.int p0), (.int p1), (.int p2), (.int p3), (.int p4)] below meth c s₁ [] 0 0 := Stand.of_body Bd
  have e0 : s₁.heap = h0 := by rw [← hh, Bd.state]; rfl
  have N0 := Fr.nil n0
  have hZ : Z.Warmed39 (s.setVm s.vm).vm := hZo
  have CH0 := CHr.refl hCH
  have hS0 : s.Since s.vm 0 := (State.WarmedH.refl s).since 0
  have hk0 : 0 ≤ h0.size := Nat.zero_le _
  have hp' := hp
  obtain ⟨S_COMPACT_STRINGS, h_cs⟩ := hp'
  have pre0 : ∀ t, Steps p.tables e below (s₁.setTop (mkF m 0 #[.val (.int p0), .val (.int p1), .val (.int p2), .val (.int p3), .val (.int p4), .unset, .unset, .unset, .unset, .unset, .unset, .unset, .unset, .unset, .unset, .unset, .unset, .unset, .unset, .unset, .unset] [])) t → Steps p.tables e below (s₁.setTop (entryFrame m #[(.int p0), (.int p1), (.int p2), (.int p3), (.int p4)] maxLocals)) t := fun t k => castTop (ef_0_0 m p0 p1 p2 p3 p4) k
  have st1 := hcut28 X0 hx hZ hw hby hown
  obtain ⟨_, _, ⟨T2, L2, k2, n2⟩, -, XX2, Sq2, gq2, ⟨Lc2, hQ2, l2, y2, z2, C2⟩, st2⟩ := callSS X0 hx (y := y2) hown (mvT hZ (wq hw 0 rfl)) (mvT hZ (wq hw 1 rfl)) (mvT hZ (wq hw 2 rfl)) (mvT hZ (wq hw 3 rfl)) (by decide) (own_backC (SL := []) (W := 0) (rmS1 l Z a0 hw [] cs_v hp ((p2 &&& (3 : Int32)) % (3 : Int32)) ((((p2.toUInt32 >>> ((2 : Int32) &&& 31).toUInt32).toInt32) &&& (255 : Int32)).toUInt32.toUInt16.toUInt32.toInt32) ((((p2.toUInt32 >>> ((10 : Int32) &&& 31).toUInt32).toInt32) &&& (255 : Int32)).toUInt32.toUInt16.toUInt32.toInt32) h0 n0 O0 (own_ch2 ((p2.toUInt32 >>> ((2 : Int32) &&& 31).toUInt32).toInt32)) (own_ch2 ((p2.toUInt32 >>> ((10 : Int32) &&& 31).toUInt32).toInt32))) hZ (wq hw 3 rfl) (wq hw 2 rfl) (by decide) (by decide) (own_EW hw) CH0.1 all0) (g := (mkF m 93 #[.val (.int p0), .val (.int p1), .val (.int p2), .val (.int p3), .val (.int p4), .val (.int (fx0 p2)), .val (.int (fx2 p2)), .val (.int (fx4 p2)), .val (.int z8), .val (.int z9), .val (.int (fx0 z9)), .val (.int (fx2 z9)), .val (.int (fx4 z9)), .unset, .unset, .unset, .unset, .unset, .unset, .unset, .unset] [(.int (fx4 p2)), (.int (fx2 p2)), (.int (fx0 p2))])) rfl (by rw [hml]; rfl) (argsL := [(.int (fx0 p2)), (.int (fx2 p2)), (.int (fx4 p2))]) (rest := []) (lenOf pd_5 rfl) rfl (by show 2 * 0 + _ ≤ _; exact Nat.le_of_eq rfl) (hb hby at_93) (fun _ _ => ⟨rfl, e0, (by decide : 0 + 4 ≤ _), (by decide : 0 + 8 ≤ _)⟩)
  dsimp only [Pt.U, Pt.locs, Pt.cells, Pt.slots] at XX2 Sq2 gq2 l2 y2 z2 st2 hQ2 C2
  subst l2 y2 z2
  obtain ⟨X2, hS2, hZ2, hown2⟩ := rebS hS0 (by rw [e0]; exact hk0) XX2 Sq2 gq2 hZ hown
  obtain ⟨b2_0, y2_0, kc2_0, rfl, Nq2, Kq2, sq_b2_0, fq2_0, fq2_1, fq2_2, fq2_3⟩ := hQ2
  have N2 := Fr.app N0 Nq2
  have g_b2_0 : n0 ≤ b2_0 := Nat.le_trans (own_sz O0) sq_b2_0
  have sz_b2_0 : h0.size ≤ b2_0 := Nat.le_trans (Keep.refl h0 []).1 sq_b2_0
  have CH2 := CH0.trans C2
  have hk2 : T2.heap.size ≤ T2.heap.size := Nat.le_refl _
  have O2 := O0.keep Kq2 all0
  have K2 : Keep h0 T2.heap [] := (Keep.refl h0 []).trans Kq2 all0
  obtain ⟨_, _, ⟨T3, L3, k3, n3⟩, -, XX3, Sq3, gq3, ⟨Lc3, hQ3, l3, y3, z3, C3⟩, st3⟩ := callSS X2 hx (y := y2) hown2 (mvT hZ2 (wq hw 0 rfl)) (mvT hZ2 (wq hw 1 rfl)) (mvT hZ2 (wq hw 2 rfl)) (mvT hZ2 (wq hw 3 rfl)) (by decide) (own_backC (SL := []) (W := 0) (rmS1 l Z a0 hw [] cs_v hp ((z9 &&& (3 : Int32)) % (3 : Int32)) ((((z9.toUInt32 >>> ((2 : Int32) &&& 31).toUInt32).toInt32) &&& (255 : Int32)).toUInt32.toUInt16.toUInt32.toInt32) ((((z9.toUInt32 >>> ((10 : Int32) &&& 31).toUInt32).toInt32) &&& (255 : Int32)).toUInt32.toUInt16.toUInt32.toInt32) T2.heap n0 O2 (own_ch2 ((z9.toUInt32 >>> ((2 : Int32) &&& 31).toUInt32).toInt32)) (own_ch2 ((z9.toUInt32 >>> ((10 : Int32) &&& 31).toUInt32).toInt32))) hZ2 (wq hw 3 rfl) (wq hw 2 rfl) (by decide) (by decide) (own_EW hw) CH2.1 all0) (g := (mkF m 104 #[.val (.int p0), .val (.int p1), .val (.int p2), .val (.int p3), .val (.int p4), .val (.int (fx0 p2)), .val (.int (fx2 p2)), .val (.int (fx4 p2)), .val (.int z8), .val (.int z9), .val (.int (fx0 z9)), .val (.int (fx2 z9)), .val (.int (fx4 z9)), .val (.ref b2_0), .unset, .unset, .unset, .unset, .unset, .unset, .unset] [(.int (fx4 z9)), (.int (fx2 z9)), (.int (fx0 z9))])) rfl (by rw [hml]; rfl) (argsL := [(.int (fx0 z9)), (.int (fx2 z9)), (.int (fx4 z9))]) (rest := []) (lenOf pd_5 rfl) rfl (by show 2 * 0 + _ ≤ _; exact Nat.le_of_eq rfl) (hb hby at_104) (fun _ _ => ⟨rfl, rfl, (by decide : 4 + 4 ≤ _), (by decide : 8 + 8 ≤ _)⟩)
  dsimp only [Pt.U, Pt.locs, Pt.cells, Pt.slots] at XX3 Sq3 gq3 l3 y3 z3 st3 hQ3 C3
  subst l3 y3 z3
  obtain ⟨X3, hS3, hZ3, hown3⟩ := rebS hS2 hk2 XX3 Sq3 gq3 hZ2 hown2
  obtain ⟨b3_0, y3_0, kc3_0, rfl, Nq3, Kq3, sq_b3_0, fq3_0, fq3_1, fq3_2, fq3_3⟩ := hQ3
  have N3 := Fr.app N2 Nq3
  have g_b3_0 : n0 ≤ b3_0 := Nat.le_trans (own_sz O2) sq_b3_0
  have sz_b3_0 : h0.size ≤ b3_0 := Nat.le_trans K2.1 sq_b3_0
  have CH3 := CH2.trans C3
  have hk3 : T3.heap.size ≤ T3.heap.size := Nat.le_refl _
  have O3 := O2.keep Kq3 all0
  have K3 : Keep h0 T3.heap [] := K2.trans Kq3 all0
  have st4 := hcut109 b2_0 b3_0 X3 hx hZ3 hw hby hown3
  obtain ⟨T5, h5, X5, e5, E5, A5, D5, -, st5⟩ := newO X3 hx hZ3 hown3 (wq hw 34 rfl) (wq hw 35 rfl) (wq hw 36 rfl) rfl (g := (mkF m 125 #[.val (.int p0), .val (.int p1), .val (.int p2), .val (.int p3), .val (.int p4), .val (.int (fx0 p2)), .val (.int (fx2 p2)), .val (.int (fx4 p2)), .val (.int z8), .val (.int z9), .val (.int (fx0 z9)), .val (.int (fx2 z9)), .val (.int (fx4 z9)), .val (.ref b2_0), .val (.ref b3_0), .val (.int z15), .unset, .unset, .unset, .unset, .unset] [])) rfl (hb hby at_125) (by decide) (by decide)
  obtain ⟨b5, g5⟩ : ∃ z, z = T3.heap.size := ⟨_, rfl⟩
  rw [← g5] at A5 D5 st5
  have g_b5 : n0 ≤ b5 := Nat.le_trans (own_sz O3) (Nat.le_of_eq g5.symm)
  have sz_b5 : h0.size ≤ b5 := Nat.le_trans K3.1 (Nat.le_of_eq g5.symm)
  have O5 := O3.ext E5
  have K5 : Keep h0 h5 [] := K3.ext E5
  have CH5 := CH3.trans (CHr.ext E5 CH3.1)
  have hk5 := Nat.le_trans hk3 E5.1
  have F_dataSchema_b5 : Fld Z h5 b5 "com/example/epcrtools/epcrtools/exchange/RuleSetKey" "dataSchema" "I" (.int (0 : Int32)) := D5 (Or.inr (wq hw 42 rfl)) (ty := .int) (by decide)
  have F_schemaVersion_b5 : Fld Z h5 b5 "com/example/epcrtools/epcrtools/exchange/RuleSetKey" "schemaVersion" "Ljava/lang/String;" .null := D5 (Or.inr (wq hw 49 rfl)) (ty := (.object "java/lang/String")) (by decide)
  obtain ⟨_, _, ⟨T6, L6, k6, n6⟩, -, X6, ⟨Lc6, hQ6, l6, y6, z6⟩, st6⟩ := X5.specialBack hx (y := y7) rfl hown3 (mvT hZ3 (wq hw 37 rfl)) (mvT hZ3 (wq hw 38 rfl)) (mvT hZ3 (wq hw 39 rfl)) (by decide) (backOf (W := 1) (rm17 l Z a0 hw [] cs_v hp b5 p0 b2_0 h5 n0 O5 A5 F_dataSchema_b5 F_schemaVersion_b5 g_b5 ((fq2_0.keep Kq3).ext E5)) hZ3 (wq hw 39 rfl) (wq hw 36 rfl) (by decide) (by decide)) (g := (mkF m 132 #[.val (.int p0), .val (.int p1), .val (.int p2), .val (.int p3), .val (.int p4), .val (.int (fx0 p2)), .val (.int (fx2 p2)), .val (.int (fx4 p2)), .val (.int z8), .val (.int z9), .val (.int (fx0 z9)), .val (.int (fx2 z9)), .val (.int (fx4 z9)), .val (.ref b2_0), .val (.ref b3_0), .val (.int z15), .unset, .unset, .unset, .unset, .unset] [(.ref b2_0), (.int p0), (.ref b5), (.ref b5)])) rfl (by rw [hml]; rfl) (Steps.refl _) (a := b5) (argsL := [(.int p0), (.ref b2_0)]) (rest := [(.ref b5)]) (lenOf pd_7 rfl) rfl (by show 2 * 0 + _ ≤ _; exact Nat.le_of_eq rfl) (hb hby at_132) (fun _ _ => ⟨rfl, e5, (by decide : 9 + 0 ≤ _), (by decide : 18 + 0 ≤ _)⟩)
  dsimp only [Pt.U, Pt.locs, Pt.cells, Pt.slots] at X6 l6 y6 z6 st6 hQ6
  subst l6 y6 z6
  obtain ⟨rfl, Nq6, Kq6, fq6_0, fq6_1, fq6_2⟩ := hQ6
  have N6 := Fr.app N3 Nq6
  have CH6 := CH5.trans (CHr.keep Kq6 (allS (Safe.exa hZ3.alike A5 (by decide) (by decide)) all0) CH5.1)
  have hk6 := Nat.le_trans hk5 Kq6.1
  have O6 := O5.keep Kq6 (allS g_b5 all0)
  have K6 : Keep h0 T6.heap [] := K5.trans Kq6 (allS (Or.inr sz_b5) all0)
  obtain ⟨cq7, kq7, q7a, q7b, q7c⟩ := isOf hZ3 rfl fq6_0
  obtain ⟨_, _, ⟨T7, L7, k7, n7⟩, -, X7, ⟨Lc7, hQ7, l7, y7, z7⟩, st7⟩ := X6.virtualBack hx (y := y8) (z := y8) hown3 (mvT hZ3 (wq hw 50 rfl)) (mvT hZ3 (wq hw 51 rfl)) (notFace_of_selects (args := #[]) (mvT hZ3 (wq hw 53 rfl))) (mvT hZ3 (wq hw 53 rfl)) (mvT hZ3 (wq hw 52 rfl)) (by decide) (backOf (W := 0) (rm20 l Z a0 hw [] cs_v hp b5 b2_0 T6.heap n0 O6 (((fq2_0.keep Kq3).ext E5).keep Kq6)) hZ3 (wq hw 54 rfl) (wq hw 36 rfl) (by decide) (by decide)) q7a q7c (g := (mkF m 254 #[.val (.int p0), .val (.int p1), .val (.int p2), .val (.int p3), .val (.int p4), .val (.int (fx0 p2)), .val (.int (fx2 p2)), .val (.int (fx4 p2)), .val (.int z8), .val (.int z9), .val (.int (fx0 z9)), .val (.int (fx2 z9)), .val (.int (fx4 z9)), .val (.ref b2_0), .val (.ref b3_0), .val (.int z15), .val (.ref b5), .val (.int (p4 &&& (3 : Int32))), .val (.ref b2_0), .val (.int (0 : Int32)), .unset] [(.ref b2_0), (.ref b5)])) rfl (by rw [hml]; rfl) (Steps.refl _) (argsL := [(.ref b2_0)]) (rest := []) (lenOf pd_8 rfl) rfl (by show 2 * 0 + _ ≤ _; exact Nat.le_of_eq rfl) (hb hby at_254) (fun _ _ => ⟨rfl, rfl, (by decide : 9 + 0 ≤ _), (by decide : 18 + 0 ≤ _)⟩)
  dsimp only [Pt.U, Pt.locs, Pt.cells, Pt.slots] at X7 l7 y7 z7 st7 hQ7
  subst l7 y7 z7
  obtain ⟨rfl, Nq7, eq7⟩ := hQ7
  have N7 := Fr.app N6 Nq7
  obtain ⟨fs, hr, hrun, hended, hE⟩ := Stand.leaveW (s := s) X7 hS3 (by rw [eq7]; exact hk6) (v := some (.int (1 : Int32))) (fun h => by rw [Bd.returns] at h; cases h)
  refine ⟨_, _, pre0 _ ?_, hrun, hended, _, _, rfl, ?_, hE.1, hE.2.1, hE.2.2.1, hE.2.2.2.mono (by decide) (by decide)⟩
  · show Sp p e below s₁ (mkF m 0 #[.val (.int p0), .val (.int p1), .val (.int p2), .val (.int p3), .val (.int p4), .unset, .unset, .unset, .unset, .unset, .unset, .unset, .unset, .unset, .unset, .unset, .unset, .unset, .unset, .unset, .unset] []) _
    refine XS.iloadN X0.here hx rfl (hb hby at_0) rfl ?_
    refine XS.iconst X0.here hx rfl (hb hby at_1) ?_
    refine XS.iand X0.here hx rfl (hb hby at_2) rfl ?_
    refine XS.iconst X0.here hx rfl (hb hby at_3) ?_
    show Sp p e below s₁ (mkF m 4 #[.val (.int p0), .val (.int p1), .val (.int p2), .val (.int p3), .val (.int p4), .unset, .unset, .unset, .unset, .unset, .unset, .unset, .unset, .unset, .unset, .unset, .unset, .unset, .unset, .unset, .unset] [(.int (3 : Int32)), (.int (p2 &&& (3 : Int32)))]) _
    refine iremM X0 hx rfl (hb hby at_4) rfl (by decide) ?_
    show Sp p e below s₁ (mkF m 5 #[.val (.int p0), .val (.int p1), .val (.int p2), .val (.int p3), .val (.int p4), .unset, .unset, .unset, .unset, .unset, .unset, .unset, .unset, .unset, .unset, .unset, .unset, .unset, .unset, .unset, .unset] [(.int (fx0 p2))]) _
    refine XS.istore X0.here hx rfl (hb hby at_5) rfl (l' := #[.val (.int p0), .val (.int p1), .val (.int p2), .val (.int p3), .val (.int p4), .val (.int (fx0 p2)), .unset, .unset, .unset, .unset, .unset, .unset, .unset, .unset, .unset, .unset, .unset, .unset, .unset, .unset, .unset]) rfl ?_
    refine XS.iloadN X0.here hx rfl (hb hby at_7) rfl ?_
    refine XS.iconst X0.here hx rfl (hb hby at_8) ?_
    refine XS.iushr X0.here hx rfl (hb hby at_9) rfl ?_
    show Sp p e below s₁ (mkF m 10 #[.val (.int p0), .val (.int p1), .val (.int p2), .val (.int p3), .val (.int p4), .val (.int (fx0 p2)), .unset, .unset, .unset, .unset, .unset, .unset, .unset, .unset, .unset, .unset, .unset, .unset, .unset, .unset, .unset] [(.int (fx1 p2))]) _
    refine XS.sipush X0.here hx rfl (hb hby at_10) ?_
    refine XS.iand X0.here hx rfl (hb hby at_13) rfl ?_
    refine XS.i2c X0.here hx rfl (hb hby at_14) rfl ?_
    refine XS.istore X0.here hx rfl (hb hby at_15) rfl (l' := #[.val (.int p0), .val (.int p1), .val (.int p2), .val (.int p3), .val (.int p4), .val (.int (fx0 p2)), .val (.int (fx2 p2)), .unset, .unset, .unset, .unset, .unset, .unset, .unset, .unset, .unset, .unset, .unset, .unset, .unset, .unset]) rfl ?_
    show Sp p e below s₁ (mkF m 17 #[.val (.int p0), .val (.int p1), .val (.int p2), .val (.int p3), .val (.int p4), .val (.int (fx0 p2)), .val (.int (fx2 p2)), .unset, .unset, .unset, .unset, .unset, .unset, .unset, .unset, .unset, .unset, .unset, .unset, .unset, .unset] []) _
    refine XS.iloadN X0.here hx rfl (hb hby at_17) rfl ?_
    refine XS.bipush X0.here hx rfl (hb hby at_18) ?_
    refine XS.iushr X0.here hx rfl (hb hby at_20) rfl ?_
    refine XS.sipush X0.here hx rfl (hb hby at_21) ?_
    show Sp p e below s₁ (mkF m 24 #[.val (.int p0), .val (.int p1), .val (.int p2), .val (.int p3), .val (.int p4), .val (.int (fx0 p2)), .val (.int (fx2 p2)), .unset, .unset, .unset, .unset, .unset, .unset, .unset, .unset, .unset, .unset, .unset, .unset, .unset, .unset] [(.int (255 : Int32)), (.int (fx3 p2))]) _
    refine XS.iand X0.here hx rfl (hb hby at_24) rfl ?_
    refine XS.i2c X0.here hx rfl (hb hby at_25) rfl ?_
    refine XS.istore X0.here hx rfl (hb hby at_26) rfl (l' := #[.val (.int p0), .val (.int p1), .val (.int p2), .val (.int p3), .val (.int p4), .val (.int (fx0 p2)), .val (.int (fx2 p2)), .val (.int (fx4 p2)), .unset, .unset, .unset, .unset, .unset, .unset, .unset, .unset, .unset, .unset, .unset, .unset, .unset]) rfl ?_
    show Sp p e below s₁ (mkF m 28 #[.val (.int p0), .val (.int p1), .val (.int p2), .val (.int p3), .val (.int p4), .val (.int (fx0 p2)), .val (.int (fx2 p2)), .val (.int (fx4 p2)), .unset, .unset, .unset, .unset, .unset, .unset, .unset, .unset, .unset, .unset, .unset, .unset, .unset] []) _
    refine st1 _ ?_
    show Sp p e below s₁ (mkF m 56 #[.val (.int p0), .val (.int p1), .val (.int p2), .val (.int p3), .val (.int p4), .val (.int (fx0 p2)), .val (.int (fx2 p2)), .val (.int (fx4 p2)), .val (.int z8), .val (.int z9), .unset, .unset, .unset, .unset, .unset, .unset, .unset, .unset, .unset, .unset, .unset] []) _
    refine XS.iload X0.here hx rfl (hb hby at_56) rfl ?_
    refine XS.iconst X0.here hx rfl (hb hby at_58) ?_
    refine XS.iand X0.here hx rfl (hb hby at_59) rfl ?_
    refine XS.iconst X0.here hx rfl (hb hby at_60) ?_
    show Sp p e below s₁ (mkF m 61 #[.val (.int p0), .val (.int p1), .val (.int p2), .val (.int p3), .val (.int p4), .val (.int (fx0 p2)), .val (.int (fx2 p2)), .val (.int (fx4 p2)), .val (.int z8), .val (.int z9), .unset, .unset, .unset, .unset, .unset, .unset, .unset, .unset, .unset, .unset, .unset] [(.int (3 : Int32)), (.int (z9 &&& (3 : Int32)))]) _
    refine iremM X0 hx rfl (hb hby at_61) rfl (by decide) ?_
    show Sp p e below s₁ (mkF m 62 #[.val (.int p0), .val (.int p1), .val (.int p2), .val (.int p3), .val (.int p4), .val (.int (fx0 p2)), .val (.int (fx2 p2)), .val (.int (fx4 p2)), .val (.int z8), .val (.int z9), .unset, .unset, .unset, .unset, .unset, .unset, .unset, .unset, .unset, .unset, .unset] [(.int (fx0 z9))]) _
    refine XS.istore X0.here hx rfl (hb hby at_62) rfl (l' := #[.val (.int p0), .val (.int p1), .val (.int p2), .val (.int p3), .val (.int p4), .val (.int (fx0 p2)), .val (.int (fx2 p2)), .val (.int (fx4 p2)), .val (.int z8), .val (.int z9), .val (.int (fx0 z9)), .unset, .unset, .unset, .unset, .unset, .unset, .unset, .unset, .unset, .unset]) rfl ?_
    refine XS.iload X0.here hx rfl (hb hby at_64) rfl ?_
    refine XS.iconst X0.here hx rfl (hb hby at_66) ?_
    refine XS.iushr X0.here hx rfl (hb hby at_67) rfl ?_
    show Sp p e below s₁ (mkF m 68 #[.val (.int p0), .val (.int p1), .val (.int p2), .val (.int p3), .val (.int p4), .val (.int (fx0 p2)), .val (.int (fx2 p2)), .val (.int (fx4 p2)), .val (.int z8), .val (.int z9), .val (.int (fx0 z9)), .unset, .unset, .unset, .unset, .unset, .unset, .unset, .unset, .unset, .unset] [(.int (fx1 z9))]) _
    refine XS.sipush X0.here hx rfl (hb hby at_68) ?_
    refine XS.iand X0.here hx rfl (hb hby at_71) rfl ?_
    refine XS.i2c X0.here hx rfl (hb hby at_72) rfl ?_
    refine XS.istore X0.here hx rfl (hb hby at_73) rfl (l' := #[.val (.int p0), .val (.int p1), .val (.int p2), .val (.int p3), .val (.int p4), .val (.int (fx0 p2)), .val (.int (fx2 p2)), .val (.int (fx4 p2)), .val (.int z8), .val (.int z9), .val (.int (fx0 z9)), .val (.int (fx2 z9)), .unset, .unset, .unset, .unset, .unset, .unset, .unset, .unset, .unset]) rfl ?_
    show Sp p e below s₁ (mkF m 75 #[.val (.int p0), .val (.int p1), .val (.int p2), .val (.int p3), .val (.int p4), .val (.int (fx0 p2)), .val (.int (fx2 p2)), .val (.int (fx4 p2)), .val (.int z8), .val (.int z9), .val (.int (fx0 z9)), .val (.int (fx2 z9)), .unset, .unset, .unset, .unset, .unset, .unset, .unset, .unset, .unset] []) _
    refine XS.iload X0.here hx rfl (hb hby at_75) rfl ?_
    refine XS.bipush X0.here hx rfl (hb hby at_77) ?_
    refine XS.iushr X0.here hx rfl (hb hby at_79) rfl ?_
    refine XS.sipush X0.here hx rfl (hb hby at_80) ?_
    show Sp p e below s₁ (mkF m 83 #[.val (.int p0), .val (.int p1), .val (.int p2), .val (.int p3), .val (.int p4), .val (.int (fx0 p2)), .val (.int (fx2 p2)), .val (.int (fx4 p2)), .val (.int z8), .val (.int z9), .val (.int (fx0 z9)), .val (.int (fx2 z9)), .unset, .unset, .unset, .unset, .unset, .unset, .unset, .unset, .unset] [(.int (255 : Int32)), (.int (fx3 z9))]) _
    refine XS.iand X0.here hx rfl (hb hby at_83) rfl ?_
    refine XS.i2c X0.here hx rfl (hb hby at_84) rfl ?_
    refine XS.istore X0.here hx rfl (hb hby at_85) rfl (l' := #[.val (.int p0), .val (.int p1), .val (.int p2), .val (.int p3), .val (.int p4), .val (.int (fx0 p2)), .val (.int (fx2 p2)), .val (.int (fx4 p2)), .val (.int z8), .val (.int z9), .val (.int (fx0 z9)), .val (.int (fx2 z9)), .val (.int (fx4 z9)), .unset, .unset, .unset, .unset, .unset, .unset, .unset, .unset]) rfl ?_
    refine XS.iload X0.here hx rfl (hb hby at_87) rfl ?_
    show Sp p e below s₁ (mkF m 89 #[.val (.int p0), .val (.int p1), .val (.int p2), .val (.int p3), .val (.int p4), .val (.int (fx0 p2)), .val (.int (fx2 p2)), .val (.int (fx4 p2)), .val (.int z8), .val (.int z9), .val (.int (fx0 z9)), .val (.int (fx2 z9)), .val (.int (fx4 z9)), .unset, .unset, .unset, .unset, .unset, .unset, .unset, .unset] [(.int (fx0 p2))]) _
    refine XS.iload X0.here hx rfl (hb hby at_89) rfl ?_
    refine XS.iload X0.here hx rfl (hb hby at_91) rfl ?_
    show Sp p e below s₁ (mkF m 93 #[.val (.int p0), .val (.int p1), .val (.int p2), .val (.int p3), .val (.int p4), .val (.int (fx0 p2)), .val (.int (fx2 p2)), .val (.int (fx4 p2)), .val (.int z8), .val (.int z9), .val (.int (fx0 z9)), .val (.int (fx2 z9)), .val (.int (fx4 z9)), .unset, .unset, .unset, .unset, .unset, .unset, .unset, .unset] [(.int (fx4 p2)), (.int (fx2 p2)), (.int (fx0 p2))]) _
    refine st2.trans ?_
    show Sp p e below T2 (mkF m 96 #[.val (.int p0), .val (.int p1), .val (.int p2), .val (.int p3), .val (.int p4), .val (.int (fx0 p2)), .val (.int (fx2 p2)), .val (.int (fx4 p2)), .val (.int z8), .val (.int z9), .val (.int (fx0 z9)), .val (.int (fx2 z9)), .val (.int (fx4 z9)), .unset, .unset, .unset, .unset, .unset, .unset, .unset, .unset] [(.ref b2_0)]) _
    refine XS.astore X2.here hx rfl (hb hby at_96) rfl rfl (l' := #[.val (.int p0), .val (.int p1), .val (.int p2), .val (.int p3), .val (.int p4), .val (.int (fx0 p2)), .val (.int (fx2 p2)), .val (.int (fx4 p2)), .val (.int z8), .val (.int z9), .val (.int (fx0 z9)), .val (.int (fx2 z9)), .val (.int (fx4 z9)), .val (.ref b2_0), .unset, .unset, .unset, .unset, .unset, .unset, .unset]) rfl ?_
    refine XS.iload X2.here hx rfl (hb hby at_98) rfl ?_
    refine XS.iload X2.here hx rfl (hb hby at_100) rfl ?_
    refine XS.iload X2.here hx rfl (hb hby at_102) rfl ?_
    show Sp p e below T2 (mkF m 104 #[.val (.int p0), .val (.int p1), .val (.int p2), .val (.int p3), .val (.int p4), .val (.int (fx0 p2)), .val (.int (fx2 p2)), .val (.int (fx4 p2)), .val (.int z8), .val (.int z9), .val (.int (fx0 z9)), .val (.int (fx2 z9)), .val (.int (fx4 z9)), .val (.ref b2_0), .unset, .unset, .unset, .unset, .unset, .unset, .unset] [(.int (fx4 z9)), (.int (fx2 z9)), (.int (fx0 z9))]) _
    refine st3.trans ?_
    show Sp p e below T3 (mkF m 107 #[.val (.int p0), .val (.int p1), .val (.int p2), .val (.int p3), .val (.int p4), .val (.int (fx0 p2)), .val (.int (fx2 p2)), .val (.int (fx4 p2)), .val (.int z8), .val (.int z9), .val (.int (fx0 z9)), .val (.int (fx2 z9)), .val (.int (fx4 z9)), .val (.ref b2_0), .unset, .unset, .unset, .unset, .unset, .unset, .unset] [(.ref b3_0)]) _
    refine XS.astore X3.here hx rfl (hb hby at_107) rfl rfl (l' := #[.val (.int p0), .val (.int p1), .val (.int p2), .val (.int p3), .val (.int p4), .val (.int (fx0 p2)), .val (.int (fx2 p2)), .val (.int (fx4 p2)), .val (.int z8), .val (.int z9), .val (.int (fx0 z9)), .val (.int (fx2 z9)), .val (.int (fx4 z9)), .val (.ref b2_0), .val (.ref b3_0), .unset, .unset, .unset, .unset, .unset, .unset]) rfl ?_
    show Sp p e below T3 (mkF m 109 #[.val (.int p0), .val (.int p1), .val (.int p2), .val (.int p3), .val (.int p4), .val (.int (fx0 p2)), .val (.int (fx2 p2)), .val (.int (fx4 p2)), .val (.int z8), .val (.int z9), .val (.int (fx0 z9)), .val (.int (fx2 z9)), .val (.int (fx4 z9)), .val (.ref b2_0), .val (.ref b3_0), .unset, .unset, .unset, .unset, .unset, .unset] []) _
    refine st4 _ ?_
    show Sp p e below T3 (mkF m 125 #[.val (.int p0), .val (.int p1), .val (.int p2), .val (.int p3), .val (.int p4), .val (.int (fx0 p2)), .val (.int (fx2 p2)), .val (.int (fx4 p2)), .val (.int z8), .val (.int z9), .val (.int (fx0 z9)), .val (.int (fx2 z9)), .val (.int (fx4 z9)), .val (.ref b2_0), .val (.ref b3_0), .val (.int z15), .unset, .unset, .unset, .unset, .unset] []) _
    refine st5 _ ?_
    show Sp p e below T5 (mkF m 128 #[.val (.int p0), .val (.int p1), .val (.int p2), .val (.int p3), .val (.int p4), .val (.int (fx0 p2)), .val (.int (fx2 p2)), .val (.int (fx4 p2)), .val (.int z8), .val (.int z9), .val (.int (fx0 z9)), .val (.int (fx2 z9)), .val (.int (fx4 z9)), .val (.ref b2_0), .val (.ref b3_0), .val (.int z15), .unset, .unset, .unset, .unset, .unset] [(.ref b5)]) _
    refine XS.dup X5.here hx rfl (hb hby at_128) rfl rfl ?_
    refine XS.iloadN X5.here hx rfl (hb hby at_129) rfl ?_
    refine XS.aload X5.here hx rfl (hb hby at_130) rfl rfl ?_
    show Sp p e below T5 (mkF m 132 #[.val (.int p0), .val (.int p1), .val (.int p2), .val (.int p3), .val (.int p4), .val (.int (fx0 p2)), .val (.int (fx2 p2)), .val (.int (fx4 p2)), .val (.int z8), .val (.int z9), .val (.int (fx0 z9)), .val (.int (fx2 z9)), .val (.int (fx4 z9)), .val (.ref b2_0), .val (.ref b3_0), .val (.int z15), .unset, .unset, .unset, .unset, .unset] [(.ref b2_0), (.int p0), (.ref b5), (.ref b5)]) _
    refine st6.trans ?_
    show Sp p e below T6 (mkF m 135 #[.val (.int p0), .val (.int p1), .val (.int p2), .val (.int p3), .val (.int p4), .val (.int (fx0 p2)), .val (.int (fx2 p2)), .val (.int (fx4 p2)), .val (.int z8), .val (.int z9), .val (.int (fx0 z9)), .val (.int (fx2 z9)), .val (.int (fx4 z9)), .val (.ref b2_0), .val (.ref b3_0), .val (.int z15), .unset, .unset, .unset, .unset, .unset] [(.ref b5)]) _
    refine XS.astore X6.here hx rfl (hb hby at_135) rfl rfl (l' := #[.val (.int p0), .val (.int p1), .val (.int p2), .val (.int p3), .val (.int p4), .val (.int (fx0 p2)), .val (.int (fx2 p2)), .val (.int (fx4 p2)), .val (.int z8), .val (.int z9), .val (.int (fx0 z9)), .val (.int (fx2 z9)), .val (.int (fx4 z9)), .val (.ref b2_0), .val (.ref b3_0), .val (.int z15), .val (.ref b5), .unset, .unset, .unset, .unset]) rfl ?_
    refine XS.iload X6.here hx rfl (hb hby at_137) rfl ?_
    refine XS.iconst X6.here hx rfl (hb hby at_139) ?_
    refine XS.iand X6.here hx rfl (hb hby at_140) rfl ?_
    show Sp p e below T6 (mkF m 141 #[.val (.int p0), .val (.int p1), .val (.int p2), .val (.int p3), .val (.int p4), .val (.int (fx0 p2)), .val (.int (fx2 p2)), .val (.int (fx4 p2)), .val (.int z8), .val (.int z9), .val (.int (fx0 z9)), .val (.int (fx2 z9)), .val (.int (fx4 z9)), .val (.ref b2_0), .val (.ref b3_0), .val (.int z15), .val (.ref b5), .unset, .unset, .unset, .unset] [(.int (p4 &&& (3 : Int32)))]) _
    refine XS.istore X6.here hx rfl (hb hby at_141) rfl (l' := #[.val (.int p0), .val (.int p1), .val (.int p2), .val (.int p3), .val (.int p4), .val (.int (fx0 p2)), .val (.int (fx2 p2)), .val (.int (fx4 p2)), .val (.int z8), .val (.int z9), .val (.int (fx0 z9)), .val (.int (fx2 z9)), .val (.int (fx4 z9)), .val (.ref b2_0), .val (.ref b3_0), .val (.int z15), .val (.ref b5), .val (.int (p4 &&& (3 : Int32))), .unset, .unset, .unset]) rfl ?_
    refine XS.iload X6.here hx rfl (hb hby at_143) rfl ?_
    refine XS.ifYes X6.here hx rfl (pc0 := 145) (pc' := 154) rfl (hb hby at_145) rfl ((if0 _ _).trans (feq hc3).2) (by decide) (by decide) ?_
    refine XS.iload X6.here hx rfl (hb hby at_154) rfl ?_
    show Sp p e below T6 (mkF m 156 #[.val (.int p0), .val (.int p1), .val (.int p2), .val (.int p3), .val (.int p4), .val (.int (fx0 p2)), .val (.int (fx2 p2)), .val (.int (fx4 p2)), .val (.int z8), .val (.int z9), .val (.int (fx0 z9)), .val (.int (fx2 z9)), .val (.int (fx4 z9)), .val (.ref b2_0), .val (.ref b3_0), .val (.int z15), .val (.ref b5), .val (.int (p4 &&& (3 : Int32))), .unset, .unset, .unset] [(.int (p4 &&& (3 : Int32)))]) _
    refine XS.iconst X6.here hx rfl (hb hby at_156) ?_
    refine XS.icmpNo X6.here hx rfl (hb hby at_157) rfl (teq hc4).2 ?_
    refine XS.aload X6.here hx rfl (hb hby at_160) rfl rfl ?_
    refine XS.astore X6.here hx rfl (hb hby at_162) rfl rfl (l' := #[.val (.int p0), .val (.int p1), .val (.int p2), .val (.int p3), .val (.int p4), .val (.int (fx0 p2)), .val (.int (fx2 p2)), .val (.int (fx4 p2)), .val (.int z8), .val (.int z9), .val (.int (fx0 z9)), .val (.int (fx2 z9)), .val (.int (fx4 z9)), .val (.ref b2_0), .val (.ref b3_0), .val (.int z15), .val (.ref b5), .val (.int (p4 &&& (3 : Int32))), .val (.ref b2_0), .unset, .unset]) rfl ?_
    show Sp p e below T6 (mkF m 164 #[.val (.int p0), .val (.int p1), .val (.int p2), .val (.int p3), .val (.int p4), .val (.int (fx0 p2)), .val (.int (fx2 p2)), .val (.int (fx4 p2)), .val (.int z8), .val (.int z9), .val (.int (fx0 z9)), .val (.int (fx2 z9)), .val (.int (fx4 z9)), .val (.ref b2_0), .val (.ref b3_0), .val (.int z15), .val (.ref b5), .val (.int (p4 &&& (3 : Int32))), .val (.ref b2_0), .unset, .unset] []) _
    refine XS.goto X6.here hx rfl (pc0 := 164) (pc' := 180) rfl (hb hby at_164) (by decide) (by decide) ?_
    refine XS.iload X6.here hx rfl (hb hby at_180) rfl ?_
    refine XS.iconst X6.here hx rfl (hb hby at_182) ?_
    refine XS.icmpNo X6.here hx rfl (hb hby at_183) rfl (tlt (by rw [hc4]; decide : (p4 &&& (3 : Int32)) < (2 : Int32))).2.1 ?_
    show Sp p e below T6 (mkF m 186 #[.val (.int p0), .val (.int p1), .val (.int p2), .val (.int p3), .val (.int p4), .val (.int (fx0 p2)), .val (.int (fx2 p2)), .val (.int (fx4 p2)), .val (.int z8), .val (.int z9), .val (.int (fx0 z9)), .val (.int (fx2 z9)), .val (.int (fx4 z9)), .val (.ref b2_0), .val (.ref b3_0), .val (.int z15), .val (.ref b5), .val (.int (p4 &&& (3 : Int32))), .val (.ref b2_0), .unset, .unset] []) _
    refine XS.iconst X6.here hx rfl (hb hby at_186) ?_
    refine XS.istore X6.here hx rfl (hb hby at_187) rfl (l' := #[.val (.int p0), .val (.int p1), .val (.int p2), .val (.int p3), .val (.int p4), .val (.int (fx0 p2)), .val (.int (fx2 p2)), .val (.int (fx4 p2)), .val (.int z8), .val (.int z9), .val (.int (fx0 z9)), .val (.int (fx2 z9)), .val (.int (fx4 z9)), .val (.ref b2_0), .val (.ref b3_0), .val (.int z15), .val (.ref b5), .val (.int (p4 &&& (3 : Int32))), .val (.ref b2_0), .val (.int (0 : Int32)), .unset]) rfl ?_
    refine XS.goto X6.here hx rfl (pc0 := 189) (pc' := 250) rfl (hb hby at_189) (by decide) (by decide) ?_
    refine XS.aload X6.here hx rfl (hb hby at_250) rfl rfl ?_
    show Sp p e below T6 (mkF m 252 #[.val (.int p0), .val (.int p1), .val (.int p2), .val (.int p3), .val (.int p4), .val (.int (fx0 p2)), .val (.int (fx2 p2)), .val (.int (fx4 p2)), .val (.int z8), .val (.int z9), .val (.int (fx0 z9)), .val (.int (fx2 z9)), .val (.int (fx4 z9)), .val (.ref b2_0), .val (.ref b3_0), .val (.int z15), .val (.ref b5), .val (.int (p4 &&& (3 : Int32))), .val (.ref b2_0), .val (.int (0 : Int32)), .unset] [(.ref b5)]) _
    refine XS.aload X6.here hx rfl (hb hby at_252) rfl rfl ?_
    show Sp p e below T6 (mkF m 254 #[.val (.int p0), .val (.int p1), .val (.int p2), .val (.int p3), .val (.int p4), .val (.int (fx0 p2)), .val (.int (fx2 p2)), .val (.int (fx4 p2)), .val (.int z8), .val (.int z9), .val (.int (fx0 z9)), .val (.int (fx2 z9)), .val (.int (fx4 z9)), .val (.ref b2_0), .val (.ref b3_0), .val (.int z15), .val (.ref b5), .val (.int (p4 &&& (3 : Int32))), .val (.ref b2_0), .val (.int (0 : Int32)), .unset] [(.ref b2_0), (.ref b5)]) _
    refine st7.trans ?_
    show Sp p e below T7 (mkF m 257 #[.val (.int p0), .val (.int p1), .val (.int p2), .val (.int p3), .val (.int p4), .val (.int (fx0 p2)), .val (.int (fx2 p2)), .val (.int (fx4 p2)), .val (.int z8), .val (.int z9), .val (.int (fx0 z9)), .val (.int (fx2 z9)), .val (.int (fx4 z9)), .val (.ref b2_0), .val (.ref b3_0), .val (.int z15), .val (.ref b5), .val (.int (p4 &&& (3 : Int32))), .val (.ref b2_0), .val (.int (0 : Int32)), .unset] [(.int (0 : Int32))]) _
    refine XS.iload X7.here hx rfl (hb hby at_257) rfl ?_
    refine XS.icmpNo X7.here hx rfl (hb hby at_259) rfl (teq (by decide : (0 : Int32) = (0 : Int32))).2 ?_
    refine XS.iconst X7.here hx rfl (hb hby at_262) ?_
    refine XS.goto X7.here hx rfl (pc0 := 263) (pc' := 267) rfl (hb hby at_263) (by decide) (by decide) ?_
    show Sp p e below T7 (mkF m 267 #[.val (.int p0), .val (.int p1), .val (.int p2), .val (.int p3), .val (.int p4), .val (.int (fx0 p2)), .val (.int (fx2 p2)), .val (.int (fx4 p2)), .val (.int z8), .val (.int z9), .val (.int (fx0 z9)), .val (.int (fx2 z9)), .val (.int (fx4 z9)), .val (.ref b2_0), .val (.ref b3_0), .val (.int z15), .val (.ref b5), .val (.int (p4 &&& (3 : Int32))), .val (.ref b2_0), .val (.int (0 : Int32)), .unset] [(.int (1 : Int32))]) _
    exact retN X7 hx (t := .boolean) Bd.returns (by simp) (hb hby at_267) hr
  · skip
    exact ⟨rfl, N7⟩
theorem d10_9 : decode prog_8_method_4_code 9 = .ok (.aload_n 1, 1) := by decide +kernel
theorem d10_10 : decode prog_8_method_4_code 10 = .ok (.checkcast 8, 3) := by decide +kernel
theorem d10_13 : decode prog_8_method_4_code 13 = .ok (.astore_n 2, 1) := by decide +kernel
theorem d10_14 : decode prog_8_method_4_code 14 = .ok (.aload_n 0, 1) := by decide +kernel
theorem d10_15 : decode prog_8_method_4_code 15 = .ok (.getfield 7, 3) := by decide +kernel
theorem d10_18 : decode prog_8_method_4_code 18 = .ok (.aload_n 2, 1) := by decide +kernel
theorem d10_19 : decode prog_8_method_4_code 19 = .ok (.getfield 7, 3) := by decide +kernel
theorem d10_22 : decode prog_8_method_4_code 22 = .ok (.if_icmp .ne 21, 3) := by decide +kernel
theorem d10_25 : decode prog_8_method_4_code 25 = .ok (.aload_n 0, 1) := by decide +kernel
theorem d10_26 : decode prog_8_method_4_code 26 = .ok (.getfield 21, 3) := by decide +kernel
theorem d10_29 : decode prog_8_method_4_code 29 = .ok (.aload_n 2, 1) := by decide +kernel
theorem d10_30 : decode prog_8_method_4_code 30 = .ok (.getfield 21, 3) := by decide +kernel
theorem d10_33 : decode prog_8_method_4_code 33 = .ok (.invokevirtual 25, 3) := by decide +kernel
theorem d11_0 : decode jdk_42_method_66_code 0 = .ok (.aload_n 0, 1) := by decide +kernel
theorem d11_1 : decode jdk_42_method_66_code 1 = .ok (.aload_n 1, 1) := by decide +kernel
theorem d11_2 : decode jdk_42_method_66_code 2 = .ok (.if_acmp .ne 5, 3) := by decide +kernel
theorem d11_7 : decode jdk_42_method_66_code 7 = .ok (.aload_n 1, 1) := by decide +kernel
theorem d11_8 : decode jdk_42_method_66_code 8 = .ok (.instanceof 10, 3) := by decide +kernel
theorem d11_11 : decode jdk_42_method_66_code 11 = .ok (.ifCond .eq 43, 3) := by decide +kernel
theorem d11_14 : decode jdk_42_method_66_code 14 = .ok (.aload_n 1, 1) := by decide +kernel
theorem d11_15 : decode jdk_42_method_66_code 15 = .ok (.checkcast 10, 3) := by decide +kernel
theorem d11_18 : decode jdk_42_method_66_code 18 = .ok (.astore_n 2, 1) := by decide +kernel
theorem d11_19 : decode jdk_42_method_66_code 19 = .ok (.getstatic 38, 3) := by decide +kernel
theorem d11_22 : decode jdk_42_method_66_code 22 = .ok (.ifCond .eq 14, 3) := by decide +kernel
theorem d11_25 : decode jdk_42_method_66_code 25 = .ok (.aload_n 0, 1) := by decide +kernel
theorem d11_26 : decode jdk_42_method_66_code 26 = .ok (.getfield 15, 3) := by decide +kernel
theorem d11_29 : decode jdk_42_method_66_code 29 = .ok (.aload_n 2, 1) := by decide +kernel
theorem d11_30 : decode jdk_42_method_66_code 30 = .ok (.getfield 15, 3) := by decide +kernel
theorem d11_33 : decode jdk_42_method_66_code 33 = .ok (.if_icmp .ne 21, 3) := by decide +kernel
theorem d11_36 : decode jdk_42_method_66_code 36 = .ok (.aload_n 0, 1) := by decide +kernel
theorem d11_37 : decode jdk_42_method_66_code 37 = .ok (.getfield 9, 3) := by decide +kernel
theorem d11_40 : decode jdk_42_method_66_code 40 = .ok (.aload_n 2, 1) := by decide +kernel
theorem d11_41 : decode jdk_42_method_66_code 41 = .ok (.getfield 9, 3) := by decide +kernel
theorem d11_44 : decode jdk_42_method_66_code 44 = .ok (.invokestatic 541, 3) := by decide +kernel
theorem d12_0 : decode jdk_43_method_13_code 0 = .ok (.aload_n 0, 1) := by decide +kernel
theorem d12_1 : decode jdk_43_method_13_code 1 = .ok (.arraylength, 1) := by decide +kernel
theorem d12_2 : decode jdk_43_method_13_code 2 = .ok (.aload_n 1, 1) := by decide +kernel
theorem d12_3 : decode jdk_43_method_13_code 3 = .ok (.arraylength, 1) := by decide +kernel
theorem d12_4 : decode jdk_43_method_13_code 4 = .ok (.if_icmp .ne 30, 3) := by decide +kernel
theorem d12_7 : decode jdk_43_method_13_code 7 = .ok (.iconst 0, 1) := by decide +kernel
theorem d12_8 : decode jdk_43_method_13_code 8 = .ok (.istore_n 2, 1) := by decide +kernel
theorem d12_9 : decode jdk_43_method_13_code 9 = .ok (.iload_n 2, 1) := by decide +kernel
theorem d12_10 : decode jdk_43_method_13_code 10 = .ok (.aload_n 0, 1) := by decide +kernel
theorem d12_11 : decode jdk_43_method_13_code 11 = .ok (.arraylength, 1) := by decide +kernel
theorem d12_12 : decode jdk_43_method_13_code 12 = .ok (.if_icmp .ge 20, 3) := by decide +kernel
theorem d12_32 : decode jdk_43_method_13_code 32 = .ok (.iconst 1, 1) := by decide +kernel
theorem d12_33 : decode jdk_43_method_13_code 33 = .ok (.ireturn, 1) := by decide +kernel
abbrev y9 : MethodName := (⟨"java/lang/StringLatin1", "equals", "([B[B)Z"⟩ : MethodName)
theorem ef_12_0 (m : MethodId) (x0 : Addr) (x1 : Addr) : entryFrame m #[(.ref x0), (.ref x1)] 3 = mkF m 0 #[.val (.ref x0), .val (.ref x1), .unset] [] := by first | (simp [entryFrame, mkF, argsToLocals, Value.category]; done) | rfl
theorem pn_12 : plainName "java/lang/StringLatin1" = true := by first | (simp [plainName, overriddenIn]; done) | decide +kernel
def Q22 (Z : State) (cs_v : Int32) (a1 : Addr) (a2 : Addr) (k_a1 : ClassId) (k_a2 : ClassId) (h0 : Heap) (n0 : Nat) (v : Option Value) (h : Heap) (L : List Loc) : Prop := v = some (.int (1 : Int32)) ∧ Fr n0 L ∧ h = h0
set_option maxRecDepth 65536 in
set_option maxHeartbeats 40000000 in
theorem rm22 (l : Launch) (Z : State) (a0 : Array Value) (hw : ∀ d ∈ tables_1, d.before a0 Z = true) (ws : List Jvm.Cond) (cs_v : Int32) (hp : Perm Z cs_v) (a1 : Addr) (a2 : Addr) (k_a1 : ClassId) (k_a2 : ClassId) (h0 : Heap) (n0 : Nat) (O0 : Old Z n0 h0) (V_a1 : Arv Z h0 a1 k_a1 .byte (0 : Int32) [] (.int (0 : Int32))) (V_a2 : Arv Z h0 a2 k_a2 .byte (0 : Int32) [] (.int (0 : Int32))) :
    MetFree l y9 (head1 (Jvm.Cond.code y9 jdk_43_method_13_code 3 (some .boolean) :: ws) ({ frames := 0, cells := 0, slots := 0, locals := 0 } : Room)) (fun a U => a = #[(.ref a1), (.ref a2)] ∧ Z.Warmed39 U.vm ∧ U.heap = h0) (fun _ _ _ _ _ => True) (fun _ U o U' => ∃ v L, o = .returned v ∧ Q22 Z cs_v a1 a2 k_a1 k_a2 h0 n0 v U'.heap L ∧ FrameEnd U o U' L ({ frames := 0, cells := 0, slots := 0, locals := 0 } : Room).cells ({ frames := 0, cells := 0, slots := 0, locals := 0 } : Room).slots) := by
  refine MetFree.of_bodySF (plainFor_of_name pn_12) hisR ?_
  intro p e s m args below meth c s₁ Bd hml0 hP hK
  obtain ⟨rfl, hZ, hh⟩ := hP
  have hx := Bd.exec
  have hby := Bd.bytes
  have hml : c.maxLocals = 3 := hml0
  have hown : s.vm.findClass "java/lang/StringLatin1" = some m.cls := findClass_of_methodNamed Bd.named
  have hnm := (name_of_methodNamed Bd.named Bd.method).1
  have X0 : Stand p l e ({ frames := 0, cells := 0, slots := 0, locals := 0 } : Room) s m #[(.ref a1), (.ref a2)] below meth c s₁ [] 0 0 := Stand.of_body Bd
  have e0 : s₁.heap = h0 := by rw [← hh, Bd.state]; rfl
  have N0 := Fr.nil n0
  have hp' := hp
  obtain ⟨S_COMPACT_STRINGS, h_cs⟩ := hp'
  have pre0 : ∀ t, Steps p.tables e below (s₁.setTop (mkF m 0 #[.val (.ref a1), .val (.ref a2), .unset] [])) t → Steps p.tables e below (s₁.setTop (entryFrame m #[(.ref a1), (.ref a2)] 3)) t := fun t k => castTop (ef_12_0 m a1 a2) k
  obtain ⟨cl1, Ar1, -, S1, Nn1, -, -⟩ := id V_a1
  obtain ⟨cl2, Ar2, -, S2, Nn2, -, -⟩ := id V_a2
  obtain ⟨cl3, Ar3, -, S3, Nn3, -, -⟩ := id V_a1
  obtain ⟨fs, hr, hrun, hended, hW, hsame⟩ := X0.leave (v := some (.int (1 : Int32))) (fun h => by rw [Bd.returns] at h; cases h)
  refine ⟨_, _, pre0 _ ?_, hrun, hended, _, _, rfl, ?_, ⟨_, rfl⟩, hW, hsame.mono (by decide) (by decide)⟩
  · show Sp p e below s₁ (mkF m 0 #[.val (.ref a1), .val (.ref a2), .unset] []) _
    refine XS.aloadN X0.here hx rfl (hb hby d12_0) rfl rfl ?_
    show Sp p e below s₁ (mkF m 1 #[.val (.ref a1), .val (.ref a2), .unset] [(.ref a1)]) _
    refine X0.arraylength hx (by rw [e0]; exact Ar1.1) (State.isArrayOf_alike hZ.alike Ar1.2.1) (g := (mkF m 1 #[.val (.ref a1), .val (.ref a2), .unset] [(.ref a1)])) rfl rfl (hb hby d12_1) _ ?_
    rw [len_of S1 Nn1]
    show Sp p e below s₁ (mkF m 2 #[.val (.ref a1), .val (.ref a2), .unset] [(.int (0 : Int32))]) _
    refine XS.aloadN X0.here hx rfl (hb hby d12_2) rfl rfl ?_
    show Sp p e below s₁ (mkF m 3 #[.val (.ref a1), .val (.ref a2), .unset] [(.ref a2), (.int (0 : Int32))]) _
    refine X0.arraylength hx (by rw [e0]; exact Ar2.1) (State.isArrayOf_alike hZ.alike Ar2.2.1) (g := (mkF m 3 #[.val (.ref a1), .val (.ref a2), .unset] [(.ref a2), (.int (0 : Int32))])) rfl rfl (hb hby d12_3) _ ?_
    rw [len_of S2 Nn2]
    show Sp p e below s₁ (mkF m 4 #[.val (.ref a1), .val (.ref a2), .unset] [(.int (0 : Int32)), (.int (0 : Int32))]) _
    refine XS.icmpNo X0.here hx rfl (hb hby d12_4) rfl (teq (by decide : (0 : Int32) = (0 : Int32))).2 ?_
    refine XS.iconst X0.here hx rfl (hb hby d12_7) ?_
    refine XS.istoreN X0.here hx rfl (hb hby d12_8) rfl (l' := #[.val (.ref a1), .val (.ref a2), .val (.int (0 : Int32))]) rfl ?_
    refine XS.iloadN X0.here hx rfl (hb hby d12_9) rfl ?_
    show Sp p e below s₁ (mkF m 10 #[.val (.ref a1), .val (.ref a2), .val (.int (0 : Int32))] [(.int (0 : Int32))]) _
    refine XS.aloadN X0.here hx rfl (hb hby d12_10) rfl rfl ?_
    show Sp p e below s₁ (mkF m 11 #[.val (.ref a1), .val (.ref a2), .val (.int (0 : Int32))] [(.ref a1), (.int (0 : Int32))]) _
    refine X0.arraylength hx (by rw [e0]; exact Ar3.1) (State.isArrayOf_alike hZ.alike Ar3.2.1) (g := (mkF m 11 #[.val (.ref a1), .val (.ref a2), .val (.int (0 : Int32))] [(.ref a1), (.int (0 : Int32))])) rfl rfl (hb hby d12_11) _ ?_
    rw [len_of S3 Nn3]
    show Sp p e below s₁ (mkF m 12 #[.val (.ref a1), .val (.ref a2), .val (.int (0 : Int32))] [(.int (0 : Int32)), (.int (0 : Int32))]) _
    refine XS.icmpYes X0.here hx rfl (pc0 := 12) (pc' := 32) rfl (hb hby d12_12) rfl (flt (by decide : ¬ ((0 : Int32) < (0 : Int32)))).2.1 (by decide) (by decide) ?_
    refine XS.iconst X0.here hx rfl (hb hby d12_32) ?_
    show Sp p e below s₁ (mkF m 33 #[.val (.ref a1), .val (.ref a2), .val (.int (0 : Int32))] [(.int (1 : Int32))]) _
    exact retN X0 hx (t := .boolean) Bd.returns (by simp) (hb hby d12_33) hr
  · show Q22 Z cs_v a1 a2 k_a1 k_a2 h0 n0 _ s₁.heap _
    rw [e0]
    exact ⟨rfl, N0, rfl⟩
theorem d12_34 : decode jdk_43_method_13_code 34 = .ok (.iconst 0, 1) := by decide +kernel
theorem d12_35 : decode jdk_43_method_13_code 35 = .ok (.ireturn, 1) := by decide +kernel
def Q23 (Z : State) (cs_v : Int32) (a1 : Addr) (a2 : Addr) (k_a1 : ClassId) (k_a2 : ClassId) (p5 : Int32) (h0 : Heap) (n0 : Nat) (v : Option Value) (h : Heap) (L : List Loc) : Prop := v = some (.int (0 : Int32)) ∧ Fr n0 L ∧ h = h0
set_option maxRecDepth 65536 in
set_option maxHeartbeats 40000000 in
theorem rm23 (l : Launch) (Z : State) (a0 : Array Value) (hw : ∀ d ∈ tables_1, d.before a0 Z = true) (ws : List Jvm.Cond) (cs_v : Int32) (hp : Perm Z cs_v) (a1 : Addr) (a2 : Addr) (k_a1 : ClassId) (k_a2 : ClassId) (p5 : Int32) (h0 : Heap) (n0 : Nat) (O0 : Old Z n0 h0) (V_a1 : Arv Z h0 a1 k_a1 .byte (0 : Int32) [] (.int (0 : Int32))) (V_a2 : Arv Z h0 a2 k_a2 .byte (1 : Int32) [(.int p5)] (.int (0 : Int32))) :
    MetFree l y9 (head1 (Jvm.Cond.code y9 jdk_43_method_13_code 3 (some .boolean) :: ws) ({ frames := 0, cells := 0, slots := 0, locals := 0 } : Room)) (fun a U => a = #[(.ref a1), (.ref a2)] ∧ Z.Warmed39 U.vm ∧ U.heap = h0) (fun _ _ _ _ _ => True) (fun _ U o U' => ∃ v L, o = .returned v ∧ Q23 Z cs_v a1 a2 k_a1 k_a2 p5 h0 n0 v U'.heap L ∧ FrameEnd U o U' L ({ frames := 0, cells := 0, slots := 0, locals := 0 } : Room).cells ({ frames := 0, cells := 0, slots := 0, locals := 0 } : Room).slots) := by
  refine MetFree.of_bodySF (plainFor_of_name pn_12) hisR ?_
  intro p e s m args below meth c s₁ Bd hml0 hP hK
  obtain ⟨rfl, hZ, hh⟩ := hP
  have hx := Bd.exec
  have hby := Bd.bytes
  have hml : c.maxLocals = 3 := hml0
  have hown : s.vm.findClass "java/lang/StringLatin1" = some m.cls := findClass_of_methodNamed Bd.named
  have hnm := (name_of_methodNamed Bd.named Bd.method).1
  have X0 : Stand p l e ({ frames := 0, cells := 0, slots := 0, locals := 0 } : Room) s m #[(.ref a1), (.ref a2)] below meth c s₁ [] 0 0 := Stand.of_body Bd
  have e0 : s₁.heap = h0 := by rw [← hh, Bd.state]; rfl
  have N0 := Fr.nil n0
  have hp' := hp
  obtain ⟨S_COMPACT_STRINGS, h_cs⟩ := hp'
  have pre0 : ∀ t, Steps p.tables e below (s₁.setTop (mkF m 0 #[.val (.ref a1), .val (.ref a2), .unset] [])) t → Steps p.tables e below (s₁.setTop (entryFrame m #[(.ref a1), (.ref a2)] 3)) t := fun t k => castTop (ef_12_0 m a1 a2) k
  obtain ⟨cl1, Ar1, -, S1, Nn1, -, -⟩ := id V_a1
  obtain ⟨cl2, Ar2, -, S2, Nn2, -, -⟩ := id V_a2
  obtain ⟨fs, hr, hrun, hended, hW, hsame⟩ := X0.leave (v := some (.int (0 : Int32))) (fun h => by rw [Bd.returns] at h; cases h)
  refine ⟨_, _, pre0 _ ?_, hrun, hended, _, _, rfl, ?_, ⟨_, rfl⟩, hW, hsame.mono (by decide) (by decide)⟩
  · show Sp p e below s₁ (mkF m 0 #[.val (.ref a1), .val (.ref a2), .unset] []) _
    refine XS.aloadN X0.here hx rfl (hb hby d12_0) rfl rfl ?_
    show Sp p e below s₁ (mkF m 1 #[.val (.ref a1), .val (.ref a2), .unset] [(.ref a1)]) _
    refine X0.arraylength hx (by rw [e0]; exact Ar1.1) (State.isArrayOf_alike hZ.alike Ar1.2.1) (g := (mkF m 1 #[.val (.ref a1), .val (.ref a2), .unset] [(.ref a1)])) rfl rfl (hb hby d12_1) _ ?_
    rw [len_of S1 Nn1]
    show Sp p e below s₁ (mkF m 2 #[.val (.ref a1), .val (.ref a2), .unset] [(.int (0 : Int32))]) _
    refine XS.aloadN X0.here hx rfl (hb hby d12_2) rfl rfl ?_
    show Sp p e below s₁ (mkF m 3 #[.val (.ref a1), .val (.ref a2), .unset] [(.ref a2), (.int (0 : Int32))]) _
    refine X0.arraylength hx (by rw [e0]; exact Ar2.1) (State.isArrayOf_alike hZ.alike Ar2.2.1) (g := (mkF m 3 #[.val (.ref a1), .val (.ref a2), .unset] [(.ref a2), (.int (0 : Int32))])) rfl rfl (hb hby d12_3) _ ?_
    rw [len_of S2 Nn2]
    show Sp p e below s₁ (mkF m 4 #[.val (.ref a1), .val (.ref a2), .unset] [(.int (1 : Int32)), (.int (0 : Int32))]) _
    refine XS.icmpYes X0.here hx rfl (pc0 := 4) (pc' := 34) rfl (hb hby d12_4) rfl (feq (by decide : ¬ ((0 : Int32) = (1 : Int32)))).2 (by decide) (by decide) ?_
    refine XS.iconst X0.here hx rfl (hb hby d12_34) ?_
    show Sp p e below s₁ (mkF m 35 #[.val (.ref a1), .val (.ref a2), .unset] [(.int (0 : Int32))]) _
    exact retN X0 hx (t := .boolean) Bd.returns (by simp) (hb hby d12_35) hr
  · show Q23 Z cs_v a1 a2 k_a1 k_a2 p5 h0 n0 _ s₁.heap _
    rw [e0]
    exact ⟨rfl, N0, rfl⟩
def Q24 (Z : State) (cs_v : Int32) (a1 : Addr) (a2 : Addr) (k_a1 : ClassId) (k_a2 : ClassId) (p5 : Int32) (p6 : Int32) (h0 : Heap) (n0 : Nat) (v : Option Value) (h : Heap) (L : List Loc) : Prop := v = some (.int (0 : Int32)) ∧ Fr n0 L ∧ h = h0
set_option maxRecDepth 65536 in
set_option maxHeartbeats 40000000 in
theorem rm24 (l : Launch) (Z : State) (a0 : Array Value) (hw : ∀ d ∈ tables_1, d.before a0 Z = true) (ws : List Jvm.Cond) (cs_v : Int32) (hp : Perm Z cs_v) (a1 : Addr) (a2 : Addr) (k_a1 : ClassId) (k_a2 : ClassId) (p5 : Int32) (p6 : Int32) (h0 : Heap) (n0 : Nat) (O0 : Old Z n0 h0) (V_a1 : Arv Z h0 a1 k_a1 .byte (0 : Int32) [] (.int (0 : Int32))) (V_a2 : Arv Z h0 a2 k_a2 .byte (2 : Int32) [(.int p5), (.int p6)] (.int (0 : Int32))) :
    MetFree l y9 (head1 (Jvm.Cond.code y9 jdk_43_method_13_code 3 (some .boolean) :: ws) ({ frames := 0, cells := 0, slots := 0, locals := 0 } : Room)) (fun a U => a = #[(.ref a1), (.ref a2)] ∧ Z.Warmed39 U.vm ∧ U.heap = h0) (fun _ _ _ _ _ => True) (fun _ U o U' => ∃ v L, o = .returned v ∧ Q24 Z cs_v a1 a2 k_a1 k_a2 p5 p6 h0 n0 v U'.heap L ∧ FrameEnd U o U' L ({ frames := 0, cells := 0, slots := 0, locals := 0 } : Room).cells ({ frames := 0, cells := 0, slots := 0, locals := 0 } : Room).slots) := by
  refine MetFree.of_bodySF (plainFor_of_name pn_12) hisR ?_
  intro p e s m args below meth c s₁ Bd hml0 hP hK
  obtain ⟨rfl, hZ, hh⟩ := hP
  have hx := Bd.exec
  have hby := Bd.bytes
  have hml : c.maxLocals = 3 := hml0
  have hown : s.vm.findClass "java/lang/StringLatin1" = some m.cls := findClass_of_methodNamed Bd.named
  have hnm := (name_of_methodNamed Bd.named Bd.method).1
  have X0 : Stand p l e ({ frames := 0, cells := 0, slots := 0, locals := 0 } : Room) s m #[(.ref a1), (.ref a2)] below meth c s₁ [] 0 0 := Stand.of_body Bd
  have e0 : s₁.heap = h0 := by rw [← hh, Bd.state]; rfl
  have N0 := Fr.nil n0
  have hp' := hp
  obtain ⟨S_COMPACT_STRINGS, h_cs⟩ := hp'
  have pre0 : ∀ t, Steps p.tables e below (s₁.setTop (mkF m 0 #[.val (.ref a1), .val (.ref a2), .unset] [])) t → Steps p.tables e below (s₁.setTop (entryFrame m #[(.ref a1), (.ref a2)] 3)) t := fun t k => castTop (ef_12_0 m a1 a2) k
  obtain ⟨cl1, Ar1, -, S1, Nn1, -, -⟩ := id V_a1
  obtain ⟨cl2, Ar2, -, S2, Nn2, -, -⟩ := id V_a2
  obtain ⟨fs, hr, hrun, hended, hW, hsame⟩ := X0.leave (v := some (.int (0 : Int32))) (fun h => by rw [Bd.returns] at h; cases h)
  refine ⟨_, _, pre0 _ ?_, hrun, hended, _, _, rfl, ?_, ⟨_, rfl⟩, hW, hsame.mono (by decide) (by decide)⟩
  · show Sp p e below s₁ (mkF m 0 #[.val (.ref a1), .val (.ref a2), .unset] []) _
    refine XS.aloadN X0.here hx rfl (hb hby d12_0) rfl rfl ?_
    show Sp p e below s₁ (mkF m 1 #[.val (.ref a1), .val (.ref a2), .unset] [(.ref a1)]) _
    refine X0.arraylength hx (by rw [e0]; exact Ar1.1) (State.isArrayOf_alike hZ.alike Ar1.2.1) (g := (mkF m 1 #[.val (.ref a1), .val (.ref a2), .unset] [(.ref a1)])) rfl rfl (hb hby d12_1) _ ?_
    rw [len_of S1 Nn1]
    show Sp p e below s₁ (mkF m 2 #[.val (.ref a1), .val (.ref a2), .unset] [(.int (0 : Int32))]) _
    refine XS.aloadN X0.here hx rfl (hb hby d12_2) rfl rfl ?_
    show Sp p e below s₁ (mkF m 3 #[.val (.ref a1), .val (.ref a2), .unset] [(.ref a2), (.int (0 : Int32))]) _
    refine X0.arraylength hx (by rw [e0]; exact Ar2.1) (State.isArrayOf_alike hZ.alike Ar2.2.1) (g := (mkF m 3 #[.val (.ref a1), .val (.ref a2), .unset] [(.ref a2), (.int (0 : Int32))])) rfl rfl (hb hby d12_3) _ ?_
    rw [len_of S2 Nn2]
    show Sp p e below s₁ (mkF m 4 #[.val (.ref a1), .val (.ref a2), .unset] [(.int (2 : Int32)), (.int (0 : Int32))]) _
    refine XS.icmpYes X0.here hx rfl (pc0 := 4) (pc' := 34) rfl (hb hby d12_4) rfl (feq (by decide : ¬ ((0 : Int32) = (2 : Int32)))).2 (by decide) (by decide) ?_
    refine XS.iconst X0.here hx rfl (hb hby d12_34) ?_
    show Sp p e below s₁ (mkF m 35 #[.val (.ref a1), .val (.ref a2), .unset] [(.int (0 : Int32))]) _
    exact retN X0 hx (t := .boolean) Bd.returns (by simp) (hb hby d12_35) hr
  · show Q24 Z cs_v a1 a2 k_a1 k_a2 p5 p6 h0 n0 _ s₁.heap _
    rw [e0]
    exact ⟨rfl, N0, rfl⟩
def Q25 (Z : State) (cs_v : Int32) (a1 : Addr) (a2 : Addr) (k_a1 : ClassId) (p4 : Int32) (k_a2 : ClassId) (h0 : Heap) (n0 : Nat) (v : Option Value) (h : Heap) (L : List Loc) : Prop := v = some (.int (0 : Int32)) ∧ Fr n0 L ∧ h = h0
set_option maxRecDepth 65536 in
set_option maxHeartbeats 40000000 in
theorem rm25 (l : Launch) (Z : State) (a0 : Array Value) (hw : ∀ d ∈ tables_1, d.before a0 Z = true) (ws : List Jvm.Cond) (cs_v : Int32) (hp : Perm Z cs_v) (a1 : Addr) (a2 : Addr) (k_a1 : ClassId) (p4 : Int32) (k_a2 : ClassId) (h0 : Heap) (n0 : Nat) (O0 : Old Z n0 h0) (V_a1 : Arv Z h0 a1 k_a1 .byte (1 : Int32) [(.int p4)] (.int (0 : Int32))) (V_a2 : Arv Z h0 a2 k_a2 .byte (0 : Int32) [] (.int (0 : Int32))) :
    MetFree l y9 (head1 (Jvm.Cond.code y9 jdk_43_method_13_code 3 (some .boolean) :: ws) ({ frames := 0, cells := 0, slots := 0, locals := 0 } : Room)) (fun a U => a = #[(.ref a1), (.ref a2)] ∧ Z.Warmed39 U.vm ∧ U.heap = h0) (fun _ _ _ _ _ => True) (fun _ U o U' => ∃ v L, o = .returned v ∧ Q25 Z cs_v a1 a2 k_a1 p4 k_a2 h0 n0 v U'.heap L ∧ FrameEnd U o U' L ({ frames := 0, cells := 0, slots := 0, locals := 0 } : Room).cells ({ frames := 0, cells := 0, slots := 0, locals := 0 } : Room).slots) := by
  refine MetFree.of_bodySF (plainFor_of_name pn_12) hisR ?_
  intro p e s m args below meth c s₁ Bd hml0 hP hK
  obtain ⟨rfl, hZ, hh⟩ := hP
  have hx := Bd.exec
  have hby := Bd.bytes
  have hml : c.maxLocals = 3 := hml0
  have hown : s.vm.findClass "java/lang/StringLatin1" = some m.cls := findClass_of_methodNamed Bd.named
  have hnm := (name_of_methodNamed Bd.named Bd.method).1
  have X0 : Stand p l e ({ frames := 0, cells := 0, slots := 0, locals := 0 } : Room) s m #[(.ref a1), (.ref a2)] below meth c s₁ [] 0 0 := Stand.of_body Bd
  have e0 : s₁.heap = h0 := by rw [← hh, Bd.state]; rfl
  have N0 := Fr.nil n0
  have hp' := hp
  obtain ⟨S_COMPACT_STRINGS, h_cs⟩ := hp'
  have pre0 : ∀ t, Steps p.tables e below (s₁.setTop (mkF m 0 #[.val (.ref a1), .val (.ref a2), .unset] [])) t → Steps p.tables e below (s₁.setTop (entryFrame m #[(.ref a1), (.ref a2)] 3)) t := fun t k => castTop (ef_12_0 m a1 a2) k
  obtain ⟨cl1, Ar1, -, S1, Nn1, -, -⟩ := id V_a1
  obtain ⟨cl2, Ar2, -, S2, Nn2, -, -⟩ := id V_a2
  obtain ⟨fs, hr, hrun, hended, hW, hsame⟩ := X0.leave (v := some (.int (0 : Int32))) (fun h => by rw [Bd.returns] at h; cases h)
  refine ⟨_, _, pre0 _ ?_, hrun, hended, _, _, rfl, ?_, ⟨_, rfl⟩, hW, hsame.mono (by decide) (by decide)⟩
  · show Sp p e below s₁ (mkF m 0 #[.val (.ref a1), .val (.ref a2), .unset] []) _
    refine XS.aloadN X0.here hx rfl (hb hby d12_0) rfl rfl ?_
    show Sp p e below s₁ (mkF m 1 #[.val (.ref a1), .val (.ref a2), .unset] [(.ref a1)]) _
    refine X0.arraylength hx (by rw [e0]; exact Ar1.1) (State.isArrayOf_alike hZ.alike Ar1.2.1) (g := (mkF m 1 #[.val (.ref a1), .val (.ref a2), .unset] [(.ref a1)])) rfl rfl (hb hby d12_1) _ ?_
    rw [len_of S1 Nn1]
    show Sp p e below s₁ (mkF m 2 #[.val (.ref a1), .val (.ref a2), .unset] [(.int (1 : Int32))]) _
    refine XS.aloadN X0.here hx rfl (hb hby d12_2) rfl rfl ?_
    show Sp p e below s₁ (mkF m 3 #[.val (.ref a1), .val (.ref a2), .unset] [(.ref a2), (.int (1 : Int32))]) _
    refine X0.arraylength hx (by rw [e0]; exact Ar2.1) (State.isArrayOf_alike hZ.alike Ar2.2.1) (g := (mkF m 3 #[.val (.ref a1), .val (.ref a2), .unset] [(.ref a2), (.int (1 : Int32))])) rfl rfl (hb hby d12_3) _ ?_
    rw [len_of S2 Nn2]
    show Sp p e below s₁ (mkF m 4 #[.val (.ref a1), .val (.ref a2), .unset] [(.int (0 : Int32)), (.int (1 : Int32))]) _
    refine XS.icmpYes X0.here hx rfl (pc0 := 4) (pc' := 34) rfl (hb hby d12_4) rfl (feq (by decide : ¬ ((1 : Int32) = (0 : Int32)))).2 (by decide) (by decide) ?_
    refine XS.iconst X0.here hx rfl (hb hby d12_34) ?_
    show Sp p e below s₁ (mkF m 35 #[.val (.ref a1), .val (.ref a2), .unset] [(.int (0 : Int32))]) _
    exact retN X0 hx (t := .boolean) Bd.returns (by simp) (hb hby d12_35) hr
  · show Q25 Z cs_v a1 a2 k_a1 p4 k_a2 h0 n0 _ s₁.heap _
    rw [e0]
    exact ⟨rfl, N0, rfl⟩
theorem d12_15 : decode jdk_43_method_13_code 15 = .ok (.aload_n 0, 1) := by decide +kernel
theorem d12_16 : decode jdk_43_method_13_code 16 = .ok (.iload_n 2, 1) := by decide +kernel
theorem d12_17 : decode jdk_43_method_13_code 17 = .ok (.baload, 1) := by decide +kernel
theorem d12_18 : decode jdk_43_method_13_code 18 = .ok (.aload_n 1, 1) := by decide +kernel
theorem d12_19 : decode jdk_43_method_13_code 19 = .ok (.iload_n 2, 1) := by decide +kernel
theorem d12_20 : decode jdk_43_method_13_code 20 = .ok (.baload, 1) := by decide +kernel
theorem d12_21 : decode jdk_43_method_13_code 21 = .ok (.if_icmp .eq 5, 3) := by decide +kernel
theorem d12_26 : decode jdk_43_method_13_code 26 = .ok (.iinc 2 1, 3) := by decide +kernel
theorem d12_29 : decode jdk_43_method_13_code 29 = .ok (.goto (-20), 3) := by decide +kernel
def Q26 (Z : State) (cs_v : Int32) (a1 : Addr) (a2 : Addr) (k_a1 : ClassId) (p4 : Int32) (k_a2 : ClassId) (p6 : Int32) (h0 : Heap) (n0 : Nat) (v : Option Value) (h : Heap) (L : List Loc) : Prop := v = some (.int (1 : Int32)) ∧ Fr n0 L ∧ h = h0
set_option maxRecDepth 65536 in
set_option maxHeartbeats 40000000 in
theorem rm26 (l : Launch) (Z : State) (a0 : Array Value) (hw : ∀ d ∈ tables_1, d.before a0 Z = true) (ws : List Jvm.Cond) (cs_v : Int32) (hp : Perm Z cs_v) (a1 : Addr) (a2 : Addr) (k_a1 : ClassId) (p4 : Int32) (k_a2 : ClassId) (p6 : Int32) (h0 : Heap) (n0 : Nat) (O0 : Old Z n0 h0) (V_a1 : Arv Z h0 a1 k_a1 .byte (1 : Int32) [(.int p4)] (.int (0 : Int32))) (V_a2 : Arv Z h0 a2 k_a2 .byte (1 : Int32) [(.int p6)] (.int (0 : Int32))) (hc3 : p4 = p6) :
    MetFree l y9 (head1 (Jvm.Cond.code y9 jdk_43_method_13_code 3 (some .boolean) :: ws) ({ frames := 0, cells := 0, slots := 0, locals := 0 } : Room)) (fun a U => a = #[(.ref a1), (.ref a2)] ∧ Z.Warmed39 U.vm ∧ U.heap = h0) (fun _ _ _ _ _ => True) (fun _ U o U' => ∃ v L, o = .returned v ∧ Q26 Z cs_v a1 a2 k_a1 p4 k_a2 p6 h0 n0 v U'.heap L ∧ FrameEnd U o U' L ({ frames := 0, cells := 0, slots := 0, locals := 0 } : Room).cells ({ frames := 0, cells := 0, slots := 0, locals := 0 } : Room).slots) := by
  refine MetFree.of_bodySF (plainFor_of_name pn_12) hisR ?_
  intro p e s m args below meth c s₁ Bd hml0 hP hK
  obtain ⟨rfl, hZ, hh⟩ := hP
  have hx := Bd.exec
  have hby := Bd.bytes
  have hml : c.maxLocals = 3 := hml0
  have hown : s.vm.findClass "java/lang/StringLatin1" = some m.cls := findClass_of_methodNamed Bd.named
  have hnm := (name_of_methodNamed Bd.named Bd.method).1
  have X0 : Stand p l e ({ frames := 0, cells := 0, slots := 0, locals := 0 } : Room) s m #[(.ref a1), (.ref a2)] below meth c s₁ [] 0 0 := Stand.of_body Bd
  have e0 : s₁.heap = h0 := by rw [← hh, Bd.state]; rfl
  have N0 := Fr.nil n0
  have hp' := hp
  obtain ⟨S_COMPACT_STRINGS, h_cs⟩ := hp'
  have pre0 : ∀ t, Steps p.tables e below (s₁.setTop (mkF m 0 #[.val (.ref a1), .val (.ref a2), .unset] [])) t → Steps p.tables e below (s₁.setTop (entryFrame m #[(.ref a1), (.ref a2)] 3)) t := fun t k => castTop (ef_12_0 m a1 a2) k
  obtain ⟨cl1, Ar1, -, S1, Nn1, -, -⟩ := id V_a1
  obtain ⟨cl2, Ar2, -, S2, Nn2, -, -⟩ := id V_a2
  obtain ⟨cl3, Ar3, -, S3, Nn3, -, -⟩ := id V_a1
  obtain ⟨cl4, Ar4, -, S4, -, H4, -⟩ := id V_a1
  have hin4 : ¬ ((0 : Int32) < 0 ∨ cl4.slots.size ≤ ((0 : Int32)).toNatClampNeg) := inb_of S4 ⟨by decide, by decide⟩
  have hat4 : cl4.slots[((0 : Int32)).toNatClampNeg]? = some (.int p4) := H4.at hin4 rfl
  obtain ⟨cl5, Ar5, -, S5, -, H5, -⟩ := id V_a2
  have hin5 : ¬ ((0 : Int32) < 0 ∨ cl5.slots.size ≤ ((0 : Int32)).toNatClampNeg) := inb_of S5 ⟨by decide, by decide⟩
  have hat5 : cl5.slots[((0 : Int32)).toNatClampNeg]? = some (.int p6) := H5.at hin5 rfl
  obtain ⟨cl6, Ar6, -, S6, Nn6, -, -⟩ := id V_a1
  obtain ⟨fs, hr, hrun, hended, hW, hsame⟩ := X0.leave (v := some (.int (1 : Int32))) (fun h => by rw [Bd.returns] at h; cases h)
  refine ⟨_, _, pre0 _ ?_, hrun, hended, _, _, rfl, ?_, ⟨_, rfl⟩, hW, hsame.mono (by decide) (by decide)⟩
  · show Sp p e below s₁ (mkF m 0 #[.val (.ref a1), .val (.ref a2), .unset] []) _
    refine XS.aloadN X0.here hx rfl (hb hby d12_0) rfl rfl ?_
    show Sp p e below s₁ (mkF m 1 #[.val (.ref a1), .val (.ref a2), .unset] [(.ref a1)]) _
    refine X0.arraylength hx (by rw [e0]; exact Ar1.1) (State.isArrayOf_alike hZ.alike Ar1.2.1) (g := (mkF m 1 #[.val (.ref a1), .val (.ref a2), .unset] [(.ref a1)])) rfl rfl (hb hby d12_1) _ ?_
    rw [len_of S1 Nn1]
    show Sp p e below s₁ (mkF m 2 #[.val (.ref a1), .val (.ref a2), .unset] [(.int (1 : Int32))]) _
    refine XS.aloadN X0.here hx rfl (hb hby d12_2) rfl rfl ?_
    show Sp p e below s₁ (mkF m 3 #[.val (.ref a1), .val (.ref a2), .unset] [(.ref a2), (.int (1 : Int32))]) _
    refine X0.arraylength hx (by rw [e0]; exact Ar2.1) (State.isArrayOf_alike hZ.alike Ar2.2.1) (g := (mkF m 3 #[.val (.ref a1), .val (.ref a2), .unset] [(.ref a2), (.int (1 : Int32))])) rfl rfl (hb hby d12_3) _ ?_
    rw [len_of S2 Nn2]
    show Sp p e below s₁ (mkF m 4 #[.val (.ref a1), .val (.ref a2), .unset] [(.int (1 : Int32)), (.int (1 : Int32))]) _
    refine XS.icmpNo X0.here hx rfl (hb hby d12_4) rfl (teq (by decide : (1 : Int32) = (1 : Int32))).2 ?_
    refine XS.iconst X0.here hx rfl (hb hby d12_7) ?_
    refine XS.istoreN X0.here hx rfl (hb hby d12_8) rfl (l' := #[.val (.ref a1), .val (.ref a2), .val (.int (0 : Int32))]) rfl ?_
    refine XS.iloadN X0.here hx rfl (hb hby d12_9) rfl ?_
    show Sp p e below s₁ (mkF m 10 #[.val (.ref a1), .val (.ref a2), .val (.int (0 : Int32))] [(.int (0 : Int32))]) _
    refine XS.aloadN X0.here hx rfl (hb hby d12_10) rfl rfl ?_
    show Sp p e below s₁ (mkF m 11 #[.val (.ref a1), .val (.ref a2), .val (.int (0 : Int32))] [(.ref a1), (.int (0 : Int32))]) _
    refine X0.arraylength hx (by rw [e0]; exact Ar3.1) (State.isArrayOf_alike hZ.alike Ar3.2.1) (g := (mkF m 11 #[.val (.ref a1), .val (.ref a2), .val (.int (0 : Int32))] [(.ref a1), (.int (0 : Int32))])) rfl rfl (hb hby d12_11) _ ?_
    rw [len_of S3 Nn3]
    show Sp p e below s₁ (mkF m 12 #[.val (.ref a1), .val (.ref a2), .val (.int (0 : Int32))] [(.int (1 : Int32)), (.int (0 : Int32))]) _
    refine XS.icmpNo X0.here hx rfl (hb hby d12_12) rfl (tlt (by decide : (0 : Int32) < (1 : Int32))).2.1 ?_
    refine XS.aloadN X0.here hx rfl (hb hby d12_15) rfl rfl ?_
    refine XS.iloadN X0.here hx rfl (hb hby d12_16) rfl ?_
    show Sp p e below s₁ (mkF m 17 #[.val (.ref a1), .val (.ref a2), .val (.int (0 : Int32))] [(.int (0 : Int32)), (.ref a1)]) _
    refine X0.baloadBytes hx (j := (0 : Int32)) (v := (.int p4)) (by rw [e0]; exact Ar4.1) (State.isArrayOf_alike hZ.alike Ar4.2.1) Ar4.2.2 hin4 hat4 (g := (mkF m 17 #[.val (.ref a1), .val (.ref a2), .val (.int (0 : Int32))] [(.int (0 : Int32)), (.ref a1)])) rfl rfl (hb hby d12_17) _ ?_
    show Sp p e below s₁ (mkF m 18 #[.val (.ref a1), .val (.ref a2), .val (.int (0 : Int32))] [(.int p4)]) _
    refine XS.aloadN X0.here hx rfl (hb hby d12_18) rfl rfl ?_
    refine XS.iloadN X0.here hx rfl (hb hby d12_19) rfl ?_
    show Sp p e below s₁ (mkF m 20 #[.val (.ref a1), .val (.ref a2), .val (.int (0 : Int32))] [(.int (0 : Int32)), (.ref a2), (.int p4)]) _
    refine X0.baloadBytes hx (j := (0 : Int32)) (v := (.int p6)) (by rw [e0]; exact Ar5.1) (State.isArrayOf_alike hZ.alike Ar5.2.1) Ar5.2.2 hin5 hat5 (g := (mkF m 20 #[.val (.ref a1), .val (.ref a2), .val (.int (0 : Int32))] [(.int (0 : Int32)), (.ref a2), (.int p4)])) rfl rfl (hb hby d12_20) _ ?_
    show Sp p e below s₁ (mkF m 21 #[.val (.ref a1), .val (.ref a2), .val (.int (0 : Int32))] [(.int p6), (.int p4)]) _
    refine XS.icmpYes X0.here hx rfl (pc0 := 21) (pc' := 26) rfl (hb hby d12_21) rfl (teq hc3).1 (by decide) (by decide) ?_
    show Sp p e below s₁ (mkF m 26 #[.val (.ref a1), .val (.ref a2), .val (.int (0 : Int32))] []) _
    refine XS.iinc X0.here hx rfl (hb hby d12_26) rfl (l' := #[.val (.ref a1), .val (.ref a2), .val (.int (fx6 ))]) rfl ?_
    refine XS.goto X0.here hx rfl (pc0 := 29) (pc' := 9) rfl (hb hby d12_29) (by decide) (by decide) ?_
    refine XS.iloadN X0.here hx rfl (hb hby d12_9) rfl ?_
    refine XS.aloadN X0.here hx rfl (hb hby d12_10) rfl rfl ?_
    show Sp p e below s₁ (mkF m 11 #[.val (.ref a1), .val (.ref a2), .val (.int (fx6 ))] [(.ref a1), (.int (fx6 ))]) _
    refine X0.arraylength hx (by rw [e0]; exact Ar6.1) (State.isArrayOf_alike hZ.alike Ar6.2.1) (g := (mkF m 11 #[.val (.ref a1), .val (.ref a2), .val (.int (fx6 ))] [(.ref a1), (.int (fx6 ))])) rfl rfl (hb hby d12_11) _ ?_
    rw [len_of S6 Nn6]
    show Sp p e below s₁ (mkF m 12 #[.val (.ref a1), .val (.ref a2), .val (.int (fx6 ))] [(.int (1 : Int32)), (.int (fx6 ))]) _
    refine XS.icmpYes X0.here hx rfl (pc0 := 12) (pc' := 32) rfl (hb hby d12_12) rfl (flt (by decide : ¬ (((0 : Int32) + (1 : Int32)) < (1 : Int32)))).2.1 (by decide) (by decide) ?_
    refine XS.iconst X0.here hx rfl (hb hby d12_32) ?_
    show Sp p e below s₁ (mkF m 33 #[.val (.ref a1), .val (.ref a2), .val (.int (fx6 ))] [(.int (1 : Int32))]) _
    exact retN X0 hx (t := .boolean) Bd.returns (by simp) (hb hby d12_33) hr
  · show Q26 Z cs_v a1 a2 k_a1 p4 k_a2 p6 h0 n0 _ s₁.heap _
    rw [e0]
    exact ⟨rfl, N0, rfl⟩
theorem d12_24 : decode jdk_43_method_13_code 24 = .ok (.iconst 0, 1) := by decide +kernel
theorem d12_25 : decode jdk_43_method_13_code 25 = .ok (.ireturn, 1) := by decide +kernel
def Q27 (Z : State) (cs_v : Int32) (a1 : Addr) (a2 : Addr) (k_a1 : ClassId) (p4 : Int32) (k_a2 : ClassId) (p6 : Int32) (h0 : Heap) (n0 : Nat) (v : Option Value) (h : Heap) (L : List Loc) : Prop := v = some (.int (0 : Int32)) ∧ Fr n0 L ∧ h = h0
set_option maxRecDepth 65536 in
set_option maxHeartbeats 40000000 in
theorem rm27 (l : Launch) (Z : State) (a0 : Array Value) (hw : ∀ d ∈ tables_1, d.before a0 Z = true) (ws : List Jvm.Cond) (cs_v : Int32) (hp : Perm Z cs_v) (a1 : Addr) (a2 : Addr) (k_a1 : ClassId) (p4 : Int32) (k_a2 : ClassId) (p6 : Int32) (h0 : Heap) (n0 : Nat) (O0 : Old Z n0 h0) (V_a1 : Arv Z h0 a1 k_a1 .byte (1 : Int32) [(.int p4)] (.int (0 : Int32))) (V_a2 : Arv Z h0 a2 k_a2 .byte (1 : Int32) [(.int p6)] (.int (0 : Int32))) (hc3 : ¬ (p4 = p6)) :
    MetFree l y9 (head1 (Jvm.Cond.code y9 jdk_43_method_13_code 3 (some .boolean) :: ws) ({ frames := 0, cells := 0, slots := 0, locals := 0 } : Room)) (fun a U => a = #[(.ref a1), (.ref a2)] ∧ Z.Warmed39 U.vm ∧ U.heap = h0) (fun _ _ _ _ _ => True) (fun _ U o U' => ∃ v L, o = .returned v ∧ Q27 Z cs_v a1 a2 k_a1 p4 k_a2 p6 h0 n0 v U'.heap L ∧ FrameEnd U o U' L ({ frames := 0, cells := 0, slots := 0, locals := 0 } : Room).cells ({ frames := 0, cells := 0, slots := 0, locals := 0 } : Room).slots) := by
  refine MetFree.of_bodySF (plainFor_of_name pn_12) hisR ?_
  intro p e s m args below meth c s₁ Bd hml0 hP hK
  obtain ⟨rfl, hZ, hh⟩ := hP
  have hx := Bd.exec
  have hby := Bd.bytes
  have hml : c.maxLocals = 3 := hml0
  have hown : s.vm.findClass "java/lang/StringLatin1" = some m.cls := findClass_of_methodNamed Bd.named
  have hnm := (name_of_methodNamed Bd.named Bd.method).1
  have X0 : Stand p l e ({ frames := 0, cells := 0, slots := 0, locals := 0 } : Room) s m #[(.ref a1), (.ref a2)] below meth c s₁ [] 0 0 := Stand.of_body Bd
  have e0 : s₁.heap = h0 := by rw [← hh, Bd.state]; rfl
  have N0 := Fr.nil n0
  have hp' := hp
  obtain ⟨S_COMPACT_STRINGS, h_cs⟩ := hp'
  have pre0 : ∀ t, Steps p.tables e below (s₁.setTop (mkF m 0 #[.val (.ref a1), .val (.ref a2), .unset] [])) t → Steps p.tables e below (s₁.setTop (entryFrame m #[(.ref a1), (.ref a2)] 3)) t := fun t k => castTop (ef_12_0 m a1 a2) k
  obtain ⟨cl1, Ar1, -, S1, Nn1, -, -⟩ := id V_a1
  obtain ⟨cl2, Ar2, -, S2, Nn2, -, -⟩ := id V_a2
  obtain ⟨cl3, Ar3, -, S3, Nn3, -, -⟩ := id V_a1
  obtain ⟨cl4, Ar4, -, S4, -, H4, -⟩ := id V_a1
  have hin4 : ¬ ((0 : Int32) < 0 ∨ cl4.slots.size ≤ ((0 : Int32)).toNatClampNeg) := inb_of S4 ⟨by decide, by decide⟩
  have hat4 : cl4.slots[((0 : Int32)).toNatClampNeg]? = some (.int p4) := H4.at hin4 rfl
  obtain ⟨cl5, Ar5, -, S5, -, H5, -⟩ := id V_a2
  have hin5 : ¬ ((0 : Int32) < 0 ∨ cl5.slots.size ≤ ((0 : Int32)).toNatClampNeg) := inb_of S5 ⟨by decide, by decide⟩
  have hat5 : cl5.slots[((0 : Int32)).toNatClampNeg]? = some (.int p6) := H5.at hin5 rfl
  obtain ⟨fs, hr, hrun, hended, hW, hsame⟩ := X0.leave (v := some (.int (0 : Int32))) (fun h => by rw [Bd.returns] at h; cases h)
  refine ⟨_, _, pre0 _ ?_, hrun, hended, _, _, rfl, ?_, ⟨_, rfl⟩, hW, hsame.mono (by decide) (by decide)⟩
  · show Sp p e below s₁ (mkF m 0 #[.val (.ref a1), .val (.ref a2), .unset] []) _
    refine XS.aloadN X0.here hx rfl (hb hby d12_0) rfl rfl ?_
    show Sp p e below s₁ (mkF m 1 #[.val (.ref a1), .val (.ref a2), .unset] [(.ref a1)]) _
    refine X0.arraylength hx (by rw [e0]; exact Ar1.1) (State.isArrayOf_alike hZ.alike Ar1.2.1) (g := (mkF m 1 #[.val (.ref a1), .val (.ref a2), .unset] [(.ref a1)])) rfl rfl (hb hby d12_1) _ ?_
    rw [len_of S1 Nn1]
    show Sp p e below s₁ (mkF m 2 #[.val (.ref a1), .val (.ref a2), .unset] [(.int (1 : Int32))]) _
    refine XS.aloadN X0.here hx rfl (hb hby d12_2) rfl rfl ?_
    show Sp p e below s₁ (mkF m 3 #[.val (.ref a1), .val (.ref a2), .unset] [(.ref a2), (.int (1 : Int32))]) _
    refine X0.arraylength hx (by rw [e0]; exact Ar2.1) (State.isArrayOf_alike hZ.alike Ar2.2.1) (g := (mkF m 3 #[.val (.ref a1), .val (.ref a2), .unset] [(.ref a2), (.int (1 : Int32))])) rfl rfl (hb hby d12_3) _ ?_
    rw [len_of S2 Nn2]
    show Sp p e below s₁ (mkF m 4 #[.val (.ref a1), .val (.ref a2), .unset] [(.int (1 : Int32)), (.int (1 : Int32))]) _
    refine XS.icmpNo X0.here hx rfl (hb hby d12_4) rfl (teq (by decide : (1 : Int32) = (1 : Int32))).2 ?_
    refine XS.iconst X0.here hx rfl (hb hby d12_7) ?_
    refine XS.istoreN X0.here hx rfl (hb hby d12_8) rfl (l' := #[.val (.ref a1), .val (.ref a2), .val (.int (0 : Int32))]) rfl ?_
    refine XS.iloadN X0.here hx rfl (hb hby d12_9) rfl ?_
    show Sp p e below s₁ (mkF m 10 #[.val (.ref a1), .val (.ref a2), .val (.int (0 : Int32))] [(.int (0 : Int32))]) _
    refine XS.aloadN X0.here hx rfl (hb hby d12_10) rfl rfl ?_
    show Sp p e below s₁ (mkF m 11 #[.val (.ref a1), .val (.ref a2), .val (.int (0 : Int32))] [(.ref a1), (.int (0 : Int32))]) _
    refine X0.arraylength hx (by rw [e0]; exact Ar3.1) (State.isArrayOf_alike hZ.alike Ar3.2.1) (g := (mkF m 11 #[.val (.ref a1), .val (.ref a2), .val (.int (0 : Int32))] [(.ref a1), (.int (0 : Int32))])) rfl rfl (hb hby d12_11) _ ?_
    rw [len_of S3 Nn3]
    show Sp p e below s₁ (mkF m 12 #[.val (.ref a1), .val (.ref a2), .val (.int (0 : Int32))] [(.int (1 : Int32)), (.int (0 : Int32))]) _
    refine XS.icmpNo X0.here hx rfl (hb hby d12_12) rfl (tlt (by decide : (0 : Int32) < (1 : Int32))).2.1 ?_
    refine XS.aloadN X0.here hx rfl (hb hby d12_15) rfl rfl ?_
    refine XS.iloadN X0.here hx rfl (hb hby d12_16) rfl ?_
    show Sp p e below s₁ (mkF m 17 #[.val (.ref a1), .val (.ref a2), .val (.int (0 : Int32))] [(.int (0 : Int32)), (.ref a1)]) _
    refine X0.baloadBytes hx (j := (0 : Int32)) (v := (.int p4)) (by rw [e0]; exact Ar4.1) (State.isArrayOf_alike hZ.alike Ar4.2.1) Ar4.2.2 hin4 hat4 (g := (mkF m 17 #[.val (.ref a1), .val (.ref a2), .val (.int (0 : Int32))] [(.int (0 : Int32)), (.ref a1)])) rfl rfl (hb hby d12_17) _ ?_
    show Sp p e below s₁ (mkF m 18 #[.val (.ref a1), .val (.ref a2), .val (.int (0 : Int32))] [(.int p4)]) _
    refine XS.aloadN X0.here hx rfl (hb hby d12_18) rfl rfl ?_
    refine XS.iloadN X0.here hx rfl (hb hby d12_19) rfl ?_
    show Sp p e below s₁ (mkF m 20 #[.val (.ref a1), .val (.ref a2), .val (.int (0 : Int32))] [(.int (0 : Int32)), (.ref a2), (.int p4)]) _
    refine X0.baloadBytes hx (j := (0 : Int32)) (v := (.int p6)) (by rw [e0]; exact Ar5.1) (State.isArrayOf_alike hZ.alike Ar5.2.1) Ar5.2.2 hin5 hat5 (g := (mkF m 20 #[.val (.ref a1), .val (.ref a2), .val (.int (0 : Int32))] [(.int (0 : Int32)), (.ref a2), (.int p4)])) rfl rfl (hb hby d12_20) _ ?_
    show Sp p e below s₁ (mkF m 21 #[.val (.ref a1), .val (.ref a2), .val (.int (0 : Int32))] [(.int p6), (.int p4)]) _
    refine XS.icmpNo X0.here hx rfl (hb hby d12_21) rfl (feq hc3).1 ?_
    refine XS.iconst X0.here hx rfl (hb hby d12_24) ?_
    show Sp p e below s₁ (mkF m 25 #[.val (.ref a1), .val (.ref a2), .val (.int (0 : Int32))] [(.int (0 : Int32))]) _
    exact retN X0 hx (t := .boolean) Bd.returns (by simp) (hb hby d12_25) hr
  · show Q27 Z cs_v a1 a2 k_a1 p4 k_a2 p6 h0 n0 _ s₁.heap _
    rw [e0]
    exact ⟨rfl, N0, rfl⟩
def Q28 (Z : State) (cs_v : Int32) (a1 : Addr) (a2 : Addr) (k_a1 : ClassId) (p4 : Int32) (k_a2 : ClassId) (p6 : Int32) (p7 : Int32) (h0 : Heap) (n0 : Nat) (v : Option Value) (h : Heap) (L : List Loc) : Prop := v = some (.int (0 : Int32)) ∧ Fr n0 L ∧ h = h0
set_option maxRecDepth 65536 in
set_option maxHeartbeats 40000000 in
theorem rm28 (l : Launch) (Z : State) (a0 : Array Value) (hw : ∀ d ∈ tables_1, d.before a0 Z = true) (ws : List Jvm.Cond) (cs_v : Int32) (hp : Perm Z cs_v) (a1 : Addr) (a2 : Addr) (k_a1 : ClassId) (p4 : Int32) (k_a2 : ClassId) (p6 : Int32) (p7 : Int32) (h0 : Heap) (n0 : Nat) (O0 : Old Z n0 h0) (V_a1 : Arv Z h0 a1 k_a1 .byte (1 : Int32) [(.int p4)] (.int (0 : Int32))) (V_a2 : Arv Z h0 a2 k_a2 .byte (2 : Int32) [(.int p6), (.int p7)] (.int (0 : Int32))) :
    MetFree l y9 (head1 (Jvm.Cond.code y9 jdk_43_method_13_code 3 (some .boolean) :: ws) ({ frames := 0, cells := 0, slots := 0, locals := 0 } : Room)) (fun a U => a = #[(.ref a1), (.ref a2)] ∧ Z.Warmed39 U.vm ∧ U.heap = h0) (fun _ _ _ _ _ => True) (fun _ U o U' => ∃ v L, o = .returned v ∧ Q28 Z cs_v a1 a2 k_a1 p4 k_a2 p6 p7 h0 n0 v U'.heap L ∧ FrameEnd U o U' L ({ frames := 0, cells := 0, slots := 0, locals := 0 } : Room).cells ({ frames := 0, cells := 0, slots := 0, locals := 0 } : Room).slots) := by
  refine MetFree.of_bodySF (plainFor_of_name pn_12) hisR ?_
  intro p e s m args below meth c s₁ Bd hml0 hP hK
  obtain ⟨rfl, hZ, hh⟩ := hP
  have hx := Bd.exec
  have hby := Bd.bytes
  have hml : c.maxLocals = 3 := hml0
  have hown : s.vm.findClass "java/lang/StringLatin1" = some m.cls := findClass_of_methodNamed Bd.named
  have hnm := (name_of_methodNamed Bd.named Bd.method).1
  have X0 : Stand p l e ({ frames := 0, cells := 0, slots := 0, locals := 0 } : Room) s m #[(.ref a1), (.ref a2)] below meth c s₁ [] 0 0 := Stand.of_body Bd
  have e0 : s₁.heap = h0 := by rw [← hh, Bd.state]; rfl
  have N0 := Fr.nil n0
  have hp' := hp
  obtain ⟨S_COMPACT_STRINGS, h_cs⟩ := hp'
  have pre0 : ∀ t, Steps p.tables e below (s₁.setTop (mkF m 0 #[.val (.ref a1), .val (.ref a2), .unset] [])) t → Steps p.tables e below (s₁.setTop (entryFrame m #[(.ref a1), (.ref a2)] 3)) t := fun t k => castTop (ef_12_0 m a1 a2) k
  obtain ⟨cl1, Ar1, -, S1, Nn1, -, -⟩ := id V_a1
  obtain ⟨cl2, Ar2, -, S2, Nn2, -, -⟩ := id V_a2
  obtain ⟨fs, hr, hrun, hended, hW, hsame⟩ := X0.leave (v := some (.int (0 : Int32))) (fun h => by rw [Bd.returns] at h; cases h)
  refine ⟨_, _, pre0 _ ?_, hrun, hended, _, _, rfl, ?_, ⟨_, rfl⟩, hW, hsame.mono (by decide) (by decide)⟩
  · show Sp p e below s₁ (mkF m 0 #[.val (.ref a1), .val (.ref a2), .unset] []) _
    refine XS.aloadN X0.here hx rfl (hb hby d12_0) rfl rfl ?_
    show Sp p e below s₁ (mkF m 1 #[.val (.ref a1), .val (.ref a2), .unset] [(.ref a1)]) _
    refine X0.arraylength hx (by rw [e0]; exact Ar1.1) (State.isArrayOf_alike hZ.alike Ar1.2.1) (g := (mkF m 1 #[.val (.ref a1), .val (.ref a2), .unset] [(.ref a1)])) rfl rfl (hb hby d12_1) _ ?_
    rw [len_of S1 Nn1]
    show Sp p e below s₁ (mkF m 2 #[.val (.ref a1), .val (.ref a2), .unset] [(.int (1 : Int32))]) _
    refine XS.aloadN X0.here hx rfl (hb hby d12_2) rfl rfl ?_
    show Sp p e below s₁ (mkF m 3 #[.val (.ref a1), .val (.ref a2), .unset] [(.ref a2), (.int (1 : Int32))]) _
    refine X0.arraylength hx (by rw [e0]; exact Ar2.1) (State.isArrayOf_alike hZ.alike Ar2.2.1) (g := (mkF m 3 #[.val (.ref a1), .val (.ref a2), .unset] [(.ref a2), (.int (1 : Int32))])) rfl rfl (hb hby d12_3) _ ?_
    rw [len_of S2 Nn2]
    show Sp p e below s₁ (mkF m 4 #[.val (.ref a1), .val (.ref a2), .unset] [(.int (2 : Int32)), (.int (1 : Int32))]) _
    refine XS.icmpYes X0.here hx rfl (pc0 := 4) (pc' := 34) rfl (hb hby d12_4) rfl (feq (by decide : ¬ ((1 : Int32) = (2 : Int32)))).2 (by decide) (by decide) ?_
    refine XS.iconst X0.here hx rfl (hb hby d12_34) ?_
    show Sp p e below s₁ (mkF m 35 #[.val (.ref a1), .val (.ref a2), .unset] [(.int (0 : Int32))]) _
    exact retN X0 hx (t := .boolean) Bd.returns (by simp) (hb hby d12_35) hr
  · show Q28 Z cs_v a1 a2 k_a1 p4 k_a2 p6 p7 h0 n0 _ s₁.heap _
    rw [e0]
    exact ⟨rfl, N0, rfl⟩
def Q29 (Z : State) (cs_v : Int32) (a1 : Addr) (a2 : Addr) (k_a1 : ClassId) (p4 : Int32) (p5 : Int32) (k_a2 : ClassId) (h0 : Heap) (n0 : Nat) (v : Option Value) (h : Heap) (L : List Loc) : Prop := v = some (.int (0 : Int32)) ∧ Fr n0 L ∧ h = h0
set_option maxRecDepth 65536 in
set_option maxHeartbeats 40000000 in
theorem rm29 (l : Launch) (Z : State) (a0 : Array Value) (hw : ∀ d ∈ tables_1, d.before a0 Z = true) (ws : List Jvm.Cond) (cs_v : Int32) (hp : Perm Z cs_v) (a1 : Addr) (a2 : Addr) (k_a1 : ClassId) (p4 : Int32) (p5 : Int32) (k_a2 : ClassId) (h0 : Heap) (n0 : Nat) (O0 : Old Z n0 h0) (V_a1 : Arv Z h0 a1 k_a1 .byte (2 : Int32) [(.int p4), (.int p5)] (.int (0 : Int32))) (V_a2 : Arv Z h0 a2 k_a2 .byte (0 : Int32) [] (.int (0 : Int32))) :
    MetFree l y9 (head1 (Jvm.Cond.code y9 jdk_43_method_13_code 3 (some .boolean) :: ws) ({ frames := 0, cells := 0, slots := 0, locals := 0 } : Room)) (fun a U => a = #[(.ref a1), (.ref a2)] ∧ Z.Warmed39 U.vm ∧ U.heap = h0) (fun _ _ _ _ _ => True) (fun _ U o U' => ∃ v L, o = .returned v ∧ Q29 Z cs_v a1 a2 k_a1 p4 p5 k_a2 h0 n0 v U'.heap L ∧ FrameEnd U o U' L ({ frames := 0, cells := 0, slots := 0, locals := 0 } : Room).cells ({ frames := 0, cells := 0, slots := 0, locals := 0 } : Room).slots) := by
  refine MetFree.of_bodySF (plainFor_of_name pn_12) hisR ?_
  intro p e s m args below meth c s₁ Bd hml0 hP hK
  obtain ⟨rfl, hZ, hh⟩ := hP
  have hx := Bd.exec
  have hby := Bd.bytes
  have hml : c.maxLocals = 3 := hml0
  have hown : s.vm.findClass "java/lang/StringLatin1" = some m.cls := findClass_of_methodNamed Bd.named
  have hnm := (name_of_methodNamed Bd.named Bd.method).1
  have X0 : Stand p l e ({ frames := 0, cells := 0, slots := 0, locals := 0 } : Room) s m #[(.ref a1), (.ref a2)] below meth c s₁ [] 0 0 := Stand.of_body Bd
  have e0 : s₁.heap = h0 := by rw [← hh, Bd.state]; rfl
  have N0 := Fr.nil n0
  have hp' := hp
  obtain ⟨S_COMPACT_STRINGS, h_cs⟩ := hp'
  have pre0 : ∀ t, Steps p.tables e below (s₁.setTop (mkF m 0 #[.val (.ref a1), .val (.ref a2), .unset] [])) t → Steps p.tables e below (s₁.setTop (entryFrame m #[(.ref a1), (.ref a2)] 3)) t := fun t k => castTop (ef_12_0 m a1 a2) k
  obtain ⟨cl1, Ar1, -, S1, Nn1, -, -⟩ := id V_a1
  obtain ⟨cl2, Ar2, -, S2, Nn2, -, -⟩ := id V_a2
  obtain ⟨fs, hr, hrun, hended, hW, hsame⟩ := X0.leave (v := some (.int (0 : Int32))) (fun h => by rw [Bd.returns] at h; cases h)
  refine ⟨_, _, pre0 _ ?_, hrun, hended, _, _, rfl, ?_, ⟨_, rfl⟩, hW, hsame.mono (by decide) (by decide)⟩
  · show Sp p e below s₁ (mkF m 0 #[.val (.ref a1), .val (.ref a2), .unset] []) _
    refine XS.aloadN X0.here hx rfl (hb hby d12_0) rfl rfl ?_
    show Sp p e below s₁ (mkF m 1 #[.val (.ref a1), .val (.ref a2), .unset] [(.ref a1)]) _
    refine X0.arraylength hx (by rw [e0]; exact Ar1.1) (State.isArrayOf_alike hZ.alike Ar1.2.1) (g := (mkF m 1 #[.val (.ref a1), .val (.ref a2), .unset] [(.ref a1)])) rfl rfl (hb hby d12_1) _ ?_
    rw [len_of S1 Nn1]
    show Sp p e below s₁ (mkF m 2 #[.val (.ref a1), .val (.ref a2), .unset] [(.int (2 : Int32))]) _
    refine XS.aloadN X0.here hx rfl (hb hby d12_2) rfl rfl ?_
    show Sp p e below s₁ (mkF m 3 #[.val (.ref a1), .val (.ref a2), .unset] [(.ref a2), (.int (2 : Int32))]) _
    refine X0.arraylength hx (by rw [e0]; exact Ar2.1) (State.isArrayOf_alike hZ.alike Ar2.2.1) (g := (mkF m 3 #[.val (.ref a1), .val (.ref a2), .unset] [(.ref a2), (.int (2 : Int32))])) rfl rfl (hb hby d12_3) _ ?_
    rw [len_of S2 Nn2]
    show Sp p e below s₁ (mkF m 4 #[.val (.ref a1), .val (.ref a2), .unset] [(.int (0 : Int32)), (.int (2 : Int32))]) _
    refine XS.icmpYes X0.here hx rfl (pc0 := 4) (pc' := 34) rfl (hb hby d12_4) rfl (feq (by decide : ¬ ((2 : Int32) = (0 : Int32)))).2 (by decide) (by decide) ?_
    refine XS.iconst X0.here hx rfl (hb hby d12_34) ?_
    show Sp p e below s₁ (mkF m 35 #[.val (.ref a1), .val (.ref a2), .unset] [(.int (0 : Int32))]) _
    exact retN X0 hx (t := .boolean) Bd.returns (by simp) (hb hby d12_35) hr
  · show Q29 Z cs_v a1 a2 k_a1 p4 p5 k_a2 h0 n0 _ s₁.heap _
    rw [e0]
    exact ⟨rfl, N0, rfl⟩
def Q30 (Z : State) (cs_v : Int32) (a1 : Addr) (a2 : Addr) (k_a1 : ClassId) (p4 : Int32) (p5 : Int32) (k_a2 : ClassId) (p7 : Int32) (h0 : Heap) (n0 : Nat) (v : Option Value) (h : Heap) (L : List Loc) : Prop := v = some (.int (0 : Int32)) ∧ Fr n0 L ∧ h = h0
set_option maxRecDepth 65536 in
set_option maxHeartbeats 40000000 in
theorem rm30 (l : Launch) (Z : State) (a0 : Array Value) (hw : ∀ d ∈ tables_1, d.before a0 Z = true) (ws : List Jvm.Cond) (cs_v : Int32) (hp : Perm Z cs_v) (a1 : Addr) (a2 : Addr) (k_a1 : ClassId) (p4 : Int32) (p5 : Int32) (k_a2 : ClassId) (p7 : Int32) (h0 : Heap) (n0 : Nat) (O0 : Old Z n0 h0) (V_a1 : Arv Z h0 a1 k_a1 .byte (2 : Int32) [(.int p4), (.int p5)] (.int (0 : Int32))) (V_a2 : Arv Z h0 a2 k_a2 .byte (1 : Int32) [(.int p7)] (.int (0 : Int32))) :
    MetFree l y9 (head1 (Jvm.Cond.code y9 jdk_43_method_13_code 3 (some .boolean) :: ws) ({ frames := 0, cells := 0, slots := 0, locals := 0 } : Room)) (fun a U => a = #[(.ref a1), (.ref a2)] ∧ Z.Warmed39 U.vm ∧ U.heap = h0) (fun _ _ _ _ _ => True) (fun _ U o U' => ∃ v L, o = .returned v ∧ Q30 Z cs_v a1 a2 k_a1 p4 p5 k_a2 p7 h0 n0 v U'.heap L ∧ FrameEnd U o U' L ({ frames := 0, cells := 0, slots := 0, locals := 0 } : Room).cells ({ frames := 0, cells := 0, slots := 0, locals := 0 } : Room).slots) := by
  refine MetFree.of_bodySF (plainFor_of_name pn_12) hisR ?_
  intro p e s m args below meth c s₁ Bd hml0 hP hK
  obtain ⟨rfl, hZ, hh⟩ := hP
  have hx := Bd.exec
  have hby := Bd.bytes
  have hml : c.maxLocals = 3 := hml0
  have hown : s.vm.findClass "java/lang/StringLatin1" = some m.cls := findClass_of_methodNamed Bd.named
  have hnm := (name_of_methodNamed Bd.named Bd.method).1
  have X0 : Stand p l e ({ frames := 0, cells := 0, slots := 0, locals := 0 } : Room) s m #[(.ref a1), (.ref a2)] below meth c s₁ [] 0 0 := Stand.of_body Bd
  have e0 : s₁.heap = h0 := by rw [← hh, Bd.state]; rfl
  have N0 := Fr.nil n0
  have hp' := hp
  obtain ⟨S_COMPACT_STRINGS, h_cs⟩ := hp'
  have pre0 : ∀ t, Steps p.tables e below (s₁.setTop (mkF m 0 #[.val (.ref a1), .val (.ref a2), .unset] [])) t → Steps p.tables e below (s₁.setTop (entryFrame m #[(.ref a1), (.ref a2)] 3)) t := fun t k => castTop (ef_12_0 m a1 a2) k
  obtain ⟨cl1, Ar1, -, S1, Nn1, -, -⟩ := id V_a1
  obtain ⟨cl2, Ar2, -, S2, Nn2, -, -⟩ := id V_a2
  obtain ⟨fs, hr, hrun, hended, hW, hsame⟩ := X0.leave (v := some (.int (0 : Int32))) (fun h => by rw [Bd.returns] at h; cases h)
  refine ⟨_, _, pre0 _ ?_, hrun, hended, _, _, rfl, ?_, ⟨_, rfl⟩, hW, hsame.mono (by decide) (by decide)⟩
  · show Sp p e below s₁ (mkF m 0 #[.val (.ref a1), .val (.ref a2), .unset] []) _
    refine XS.aloadN X0.here hx rfl (hb hby d12_0) rfl rfl ?_
    show Sp p e below s₁ (mkF m 1 #[.val (.ref a1), .val (.ref a2), .unset] [(.ref a1)]) _
    refine X0.arraylength hx (by rw [e0]; exact Ar1.1) (State.isArrayOf_alike hZ.alike Ar1.2.1) (g := (mkF m 1 #[.val (.ref a1), .val (.ref a2), .unset] [(.ref a1)])) rfl rfl (hb hby d12_1) _ ?_
    rw [len_of S1 Nn1]
    show Sp p e below s₁ (mkF m 2 #[.val (.ref a1), .val (.ref a2), .unset] [(.int (2 : Int32))]) _
    refine XS.aloadN X0.here hx rfl (hb hby d12_2) rfl rfl ?_
    show Sp p e below s₁ (mkF m 3 #[.val (.ref a1), .val (.ref a2), .unset] [(.ref a2), (.int (2 : Int32))]) _
    refine X0.arraylength hx (by rw [e0]; exact Ar2.1) (State.isArrayOf_alike hZ.alike Ar2.2.1) (g := (mkF m 3 #[.val (.ref a1), .val (.ref a2), .unset] [(.ref a2), (.int (2 : Int32))])) rfl rfl (hb hby d12_3) _ ?_
    rw [len_of S2 Nn2]
    show Sp p e below s₁ (mkF m 4 #[.val (.ref a1), .val (.ref a2), .unset] [(.int (1 : Int32)), (.int (2 : Int32))]) _
    refine XS.icmpYes X0.here hx rfl (pc0 := 4) (pc' := 34) rfl (hb hby d12_4) rfl (feq (by decide : ¬ ((2 : Int32) = (1 : Int32)))).2 (by decide) (by decide) ?_
    refine XS.iconst X0.here hx rfl (hb hby d12_34) ?_
    show Sp p e below s₁ (mkF m 35 #[.val (.ref a1), .val (.ref a2), .unset] [(.int (0 : Int32))]) _
    exact retN X0 hx (t := .boolean) Bd.returns (by simp) (hb hby d12_35) hr
  · show Q30 Z cs_v a1 a2 k_a1 p4 p5 k_a2 p7 h0 n0 _ s₁.heap _
    rw [e0]
    exact ⟨rfl, N0, rfl⟩
def Q31 (Z : State) (cs_v : Int32) (a1 : Addr) (a2 : Addr) (k_a1 : ClassId) (p4 : Int32) (p5 : Int32) (k_a2 : ClassId) (p7 : Int32) (p8 : Int32) (h0 : Heap) (n0 : Nat) (v : Option Value) (h : Heap) (L : List Loc) : Prop := v = some (.int (1 : Int32)) ∧ Fr n0 L ∧ h = h0
set_option maxRecDepth 65536 in
set_option maxHeartbeats 40000000 in
theorem rm31 (l : Launch) (Z : State) (a0 : Array Value) (hw : ∀ d ∈ tables_1, d.before a0 Z = true) (ws : List Jvm.Cond) (cs_v : Int32) (hp : Perm Z cs_v) (a1 : Addr) (a2 : Addr) (k_a1 : ClassId) (p4 : Int32) (p5 : Int32) (k_a2 : ClassId) (p7 : Int32) (p8 : Int32) (h0 : Heap) (n0 : Nat) (O0 : Old Z n0 h0) (V_a1 : Arv Z h0 a1 k_a1 .byte (2 : Int32) [(.int p4), (.int p5)] (.int (0 : Int32))) (V_a2 : Arv Z h0 a2 k_a2 .byte (2 : Int32) [(.int p7), (.int p8)] (.int (0 : Int32))) (hc3 : p4 = p7) (hc4 : p5 = p8) :
    MetFree l y9 (head1 (Jvm.Cond.code y9 jdk_43_method_13_code 3 (some .boolean) :: ws) ({ frames := 0, cells := 0, slots := 0, locals := 0 } : Room)) (fun a U => a = #[(.ref a1), (.ref a2)] ∧ Z.Warmed39 U.vm ∧ U.heap = h0) (fun _ _ _ _ _ => True) (fun _ U o U' => ∃ v L, o = .returned v ∧ Q31 Z cs_v a1 a2 k_a1 p4 p5 k_a2 p7 p8 h0 n0 v U'.heap L ∧ FrameEnd U o U' L ({ frames := 0, cells := 0, slots := 0, locals := 0 } : Room).cells ({ frames := 0, cells := 0, slots := 0, locals := 0 } : Room).slots) := by
  refine MetFree.of_bodySF (plainFor_of_name pn_12) hisR ?_
  intro p e s m args below meth c s₁ Bd hml0 hP hK
  obtain ⟨rfl, hZ, hh⟩ := hP
  have hx := Bd.exec
  have hby := Bd.bytes
  have hml : c.maxLocals = 3 := hml0
  have hown : s.vm.findClass "java/lang/StringLatin1" = some m.cls := findClass_of_methodNamed Bd.named
  have hnm := (name_of_methodNamed Bd.named Bd.method).1
  have X0 : Stand p l e ({ frames := 0, cells := 0, slots := 0, locals := 0 } : Room) s m #[(.ref a1), (.ref a2)] below meth c s₁ [] 0 0 := Stand.of_body Bd
  have e0 : s₁.heap = h0 := by rw [← hh, Bd.state]; rfl
  have N0 := Fr.nil n0
  have hp' := hp
  obtain ⟨S_COMPACT_STRINGS, h_cs⟩ := hp'
  have pre0 : ∀ t, Steps p.tables e below (s₁.setTop (mkF m 0 #[.val (.ref a1), .val (.ref a2), .unset] [])) t → Steps p.tables e below (s₁.setTop (entryFrame m #[(.ref a1), (.ref a2)] 3)) t := fun t k => castTop (ef_12_0 m a1 a2) k
  obtain ⟨cl1, Ar1, -, S1, Nn1, -, -⟩ := id V_a1
  obtain ⟨cl2, Ar2, -, S2, Nn2, -, -⟩ := id V_a2
  obtain ⟨cl3, Ar3, -, S3, Nn3, -, -⟩ := id V_a1
  obtain ⟨cl4, Ar4, -, S4, -, H4, -⟩ := id V_a1
  have hin4 : ¬ ((0 : Int32) < 0 ∨ cl4.slots.size ≤ ((0 : Int32)).toNatClampNeg) := inb_of S4 ⟨by decide, by decide⟩
  have hat4 : cl4.slots[((0 : Int32)).toNatClampNeg]? = some (.int p4) := H4.at hin4 rfl
  obtain ⟨cl5, Ar5, -, S5, -, H5, -⟩ := id V_a2
  have hin5 : ¬ ((0 : Int32) < 0 ∨ cl5.slots.size ≤ ((0 : Int32)).toNatClampNeg) := inb_of S5 ⟨by decide, by decide⟩
  have hat5 : cl5.slots[((0 : Int32)).toNatClampNeg]? = some (.int p7) := H5.at hin5 rfl
  obtain ⟨cl6, Ar6, -, S6, Nn6, -, -⟩ := id V_a1
  obtain ⟨cl7, Ar7, -, S7, -, H7, -⟩ := id V_a1
  have hin7 : ¬ (((0 : Int32) + (1 : Int32)) < 0 ∨ cl7.slots.size ≤ (((0 : Int32) + (1 : Int32))).toNatClampNeg) := inb_of S7 ⟨by decide, by decide⟩
  have hat7 : cl7.slots[(((0 : Int32) + (1 : Int32))).toNatClampNeg]? = some (.int p5) := H7.at hin7 rfl
  obtain ⟨cl8, Ar8, -, S8, -, H8, -⟩ := id V_a2
  have hin8 : ¬ (((0 : Int32) + (1 : Int32)) < 0 ∨ cl8.slots.size ≤ (((0 : Int32) + (1 : Int32))).toNatClampNeg) := inb_of S8 ⟨by decide, by decide⟩
  have hat8 : cl8.slots[(((0 : Int32) + (1 : Int32))).toNatClampNeg]? = some (.int p8) := H8.at hin8 rfl
  obtain ⟨cl9, Ar9, -, S9, Nn9, -, -⟩ := id V_a1
  obtain ⟨fs, hr, hrun, hended, hW, hsame⟩ := X0.leave (v := some (.int (1 : Int32))) (fun h => by rw [Bd.returns] at h; cases h)
  refine ⟨_, _, pre0 _ ?_, hrun, hended, _, _, rfl, ?_, ⟨_, rfl⟩, hW, hsame.mono (by decide) (by decide)⟩
  · show Sp p e below s₁ (mkF m 0 #[.val (.ref a1), .val (.ref a2), .unset] []) _
    refine XS.aloadN X0.here hx rfl (hb hby d12_0) rfl rfl ?_
    show Sp p e below s₁ (mkF m 1 #[.val (.ref a1), .val (.ref a2), .unset] [(.ref a1)]) _
    refine X0.arraylength hx (by rw [e0]; exact Ar1.1) (State.isArrayOf_alike hZ.alike Ar1.2.1) (g := (mkF m 1 #[.val (.ref a1), .val (.ref a2), .unset] [(.ref a1)])) rfl rfl (hb hby d12_1) _ ?_
    rw [len_of S1 Nn1]
    show Sp p e below s₁ (mkF m 2 #[.val (.ref a1), .val (.ref a2), .unset] [(.int (2 : Int32))]) _
    refine XS.aloadN X0.here hx rfl (hb hby d12_2) rfl rfl ?_
    show Sp p e below s₁ (mkF m 3 #[.val (.ref a1), .val (.ref a2), .unset] [(.ref a2), (.int (2 : Int32))]) _
    refine X0.arraylength hx (by rw [e0]; exact Ar2.1) (State.isArrayOf_alike hZ.alike Ar2.2.1) (g := (mkF m 3 #[.val (.ref a1), .val (.ref a2), .unset] [(.ref a2), (.int (2 : Int32))])) rfl rfl (hb hby d12_3) _ ?_
    rw [len_of S2 Nn2]
    show Sp p e below s₁ (mkF m 4 #[.val (.ref a1), .val (.ref a2), .unset] [(.int (2 : Int32)), (.int (2 : Int32))]) _
    refine XS.icmpNo X0.here hx rfl (hb hby d12_4) rfl (teq (by decide : (2 : Int32) = (2 : Int32))).2 ?_
    refine XS.iconst X0.here hx rfl (hb hby d12_7) ?_
    refine XS.istoreN X0.here hx rfl (hb hby d12_8) rfl (l' := #[.val (.ref a1), .val (.ref a2), .val (.int (0 : Int32))]) rfl ?_
    refine XS.iloadN X0.here hx rfl (hb hby d12_9) rfl ?_
    show Sp p e below s₁ (mkF m 10 #[.val (.ref a1), .val (.ref a2), .val (.int (0 : Int32))] [(.int (0 : Int32))]) _
    refine XS.aloadN X0.here hx rfl (hb hby d12_10) rfl rfl ?_
    show Sp p e below s₁ (mkF m 11 #[.val (.ref a1), .val (.ref a2), .val (.int (0 : Int32))] [(.ref a1), (.int (0 : Int32))]) _
    refine X0.arraylength hx (by rw [e0]; exact Ar3.1) (State.isArrayOf_alike hZ.alike Ar3.2.1) (g := (mkF m 11 #[.val (.ref a1), .val (.ref a2), .val (.int (0 : Int32))] [(.ref a1), (.int (0 : Int32))])) rfl rfl (hb hby d12_11) _ ?_
    rw [len_of S3 Nn3]
    show Sp p e below s₁ (mkF m 12 #[.val (.ref a1), .val (.ref a2), .val (.int (0 : Int32))] [(.int (2 : Int32)), (.int (0 : Int32))]) _
    refine XS.icmpNo X0.here hx rfl (hb hby d12_12) rfl (tlt (by decide : (0 : Int32) < (2 : Int32))).2.1 ?_
    refine XS.aloadN X0.here hx rfl (hb hby d12_15) rfl rfl ?_
    refine XS.iloadN X0.here hx rfl (hb hby d12_16) rfl ?_
    show Sp p e below s₁ (mkF m 17 #[.val (.ref a1), .val (.ref a2), .val (.int (0 : Int32))] [(.int (0 : Int32)), (.ref a1)]) _
    refine X0.baloadBytes hx (j := (0 : Int32)) (v := (.int p4)) (by rw [e0]; exact Ar4.1) (State.isArrayOf_alike hZ.alike Ar4.2.1) Ar4.2.2 hin4 hat4 (g := (mkF m 17 #[.val (.ref a1), .val (.ref a2), .val (.int (0 : Int32))] [(.int (0 : Int32)), (.ref a1)])) rfl rfl (hb hby d12_17) _ ?_
    show Sp p e below s₁ (mkF m 18 #[.val (.ref a1), .val (.ref a2), .val (.int (0 : Int32))] [(.int p4)]) _
    refine XS.aloadN X0.here hx rfl (hb hby d12_18) rfl rfl ?_
    refine XS.iloadN X0.here hx rfl (hb hby d12_19) rfl ?_
    show Sp p e below s₁ (mkF m 20 #[.val (.ref a1), .val (.ref a2), .val (.int (0 : Int32))] [(.int (0 : Int32)), (.ref a2), (.int p4)]) _
    refine X0.baloadBytes hx (j := (0 : Int32)) (v := (.int p7)) (by rw [e0]; exact Ar5.1) (State.isArrayOf_alike hZ.alike Ar5.2.1) Ar5.2.2 hin5 hat5 (g := (mkF m 20 #[.val (.ref a1), .val (.ref a2), .val (.int (0 : Int32))] [(.int (0 : Int32)), (.ref a2), (.int p4)])) rfl rfl (hb hby d12_20) _ ?_
    show Sp p e below s₁ (mkF m 21 #[.val (.ref a1), .val (.ref a2), .val (.int (0 : Int32))] [(.int p7), (.int p4)]) _
    refine XS.icmpYes X0.here hx rfl (pc0 := 21) (pc' := 26) rfl (hb hby d12_21) rfl (teq hc3).1 (by decide) (by decide) ?_
    show Sp p e below s₁ (mkF m 26 #[.val (.ref a1), .val (.ref a2), .val (.int (0 : Int32))] []) _
    refine XS.iinc X0.here hx rfl (hb hby d12_26) rfl (l' := #[.val (.ref a1), .val (.ref a2), .val (.int (fx6 ))]) rfl ?_
    refine XS.goto X0.here hx rfl (pc0 := 29) (pc' := 9) rfl (hb hby d12_29) (by decide) (by decide) ?_
    refine XS.iloadN X0.here hx rfl (hb hby d12_9) rfl ?_
    refine XS.aloadN X0.here hx rfl (hb hby d12_10) rfl rfl ?_
    show Sp p e below s₁ (mkF m 11 #[.val (.ref a1), .val (.ref a2), .val (.int (fx6 ))] [(.ref a1), (.int (fx6 ))]) _
    refine X0.arraylength hx (by rw [e0]; exact Ar6.1) (State.isArrayOf_alike hZ.alike Ar6.2.1) (g := (mkF m 11 #[.val (.ref a1), .val (.ref a2), .val (.int (fx6 ))] [(.ref a1), (.int (fx6 ))])) rfl rfl (hb hby d12_11) _ ?_
    rw [len_of S6 Nn6]
    show Sp p e below s₁ (mkF m 12 #[.val (.ref a1), .val (.ref a2), .val (.int (fx6 ))] [(.int (2 : Int32)), (.int (fx6 ))]) _
    refine XS.icmpNo X0.here hx rfl (hb hby d12_12) rfl (tlt (by decide : ((0 : Int32) + (1 : Int32)) < (2 : Int32))).2.1 ?_
    refine XS.aloadN X0.here hx rfl (hb hby d12_15) rfl rfl ?_
    refine XS.iloadN X0.here hx rfl (hb hby d12_16) rfl ?_
    show Sp p e below s₁ (mkF m 17 #[.val (.ref a1), .val (.ref a2), .val (.int (fx6 ))] [(.int (fx6 )), (.ref a1)]) _
    refine X0.baloadBytes hx (j := ((0 : Int32) + (1 : Int32))) (v := (.int p5)) (by rw [e0]; exact Ar7.1) (State.isArrayOf_alike hZ.alike Ar7.2.1) Ar7.2.2 hin7 hat7 (g := (mkF m 17 #[.val (.ref a1), .val (.ref a2), .val (.int (fx6 ))] [(.int (fx6 )), (.ref a1)])) rfl rfl (hb hby d12_17) _ ?_
    show Sp p e below s₁ (mkF m 18 #[.val (.ref a1), .val (.ref a2), .val (.int (fx6 ))] [(.int p5)]) _
    refine XS.aloadN X0.here hx rfl (hb hby d12_18) rfl rfl ?_
    refine XS.iloadN X0.here hx rfl (hb hby d12_19) rfl ?_
    show Sp p e below s₁ (mkF m 20 #[.val (.ref a1), .val (.ref a2), .val (.int (fx6 ))] [(.int (fx6 )), (.ref a2), (.int p5)]) _
    refine X0.baloadBytes hx (j := ((0 : Int32) + (1 : Int32))) (v := (.int p8)) (by rw [e0]; exact Ar8.1) (State.isArrayOf_alike hZ.alike Ar8.2.1) Ar8.2.2 hin8 hat8 (g := (mkF m 20 #[.val (.ref a1), .val (.ref a2), .val (.int (fx6 ))] [(.int (fx6 )), (.ref a2), (.int p5)])) rfl rfl (hb hby d12_20) _ ?_
    show Sp p e below s₁ (mkF m 21 #[.val (.ref a1), .val (.ref a2), .val (.int (fx6 ))] [(.int p8), (.int p5)]) _
    refine XS.icmpYes X0.here hx rfl (pc0 := 21) (pc' := 26) rfl (hb hby d12_21) rfl (teq hc4).1 (by decide) (by decide) ?_
    show Sp p e below s₁ (mkF m 26 #[.val (.ref a1), .val (.ref a2), .val (.int (fx6 ))] []) _
    refine XS.iinc X0.here hx rfl (hb hby d12_26) rfl (l' := #[.val (.ref a1), .val (.ref a2), .val (.int (fx8 ))]) rfl ?_
    refine XS.goto X0.here hx rfl (pc0 := 29) (pc' := 9) rfl (hb hby d12_29) (by decide) (by decide) ?_
    refine XS.iloadN X0.here hx rfl (hb hby d12_9) rfl ?_
    refine XS.aloadN X0.here hx rfl (hb hby d12_10) rfl rfl ?_
    show Sp p e below s₁ (mkF m 11 #[.val (.ref a1), .val (.ref a2), .val (.int (fx8 ))] [(.ref a1), (.int (fx8 ))]) _
    refine X0.arraylength hx (by rw [e0]; exact Ar9.1) (State.isArrayOf_alike hZ.alike Ar9.2.1) (g := (mkF m 11 #[.val (.ref a1), .val (.ref a2), .val (.int (fx8 ))] [(.ref a1), (.int (fx8 ))])) rfl rfl (hb hby d12_11) _ ?_
    rw [len_of S9 Nn9]
    show Sp p e below s₁ (mkF m 12 #[.val (.ref a1), .val (.ref a2), .val (.int (fx8 ))] [(.int (2 : Int32)), (.int (fx8 ))]) _
    refine XS.icmpYes X0.here hx rfl (pc0 := 12) (pc' := 32) rfl (hb hby d12_12) rfl (flt (by decide : ¬ ((((0 : Int32) + (1 : Int32)) + (1 : Int32)) < (2 : Int32)))).2.1 (by decide) (by decide) ?_
    refine XS.iconst X0.here hx rfl (hb hby d12_32) ?_
    show Sp p e below s₁ (mkF m 33 #[.val (.ref a1), .val (.ref a2), .val (.int (fx8 ))] [(.int (1 : Int32))]) _
    exact retN X0 hx (t := .boolean) Bd.returns (by simp) (hb hby d12_33) hr
  · show Q31 Z cs_v a1 a2 k_a1 p4 p5 k_a2 p7 p8 h0 n0 _ s₁.heap _
    rw [e0]
    exact ⟨rfl, N0, rfl⟩
def Q32 (Z : State) (cs_v : Int32) (a1 : Addr) (a2 : Addr) (k_a1 : ClassId) (p4 : Int32) (p5 : Int32) (k_a2 : ClassId) (p7 : Int32) (p8 : Int32) (h0 : Heap) (n0 : Nat) (v : Option Value) (h : Heap) (L : List Loc) : Prop := v = some (.int (0 : Int32)) ∧ Fr n0 L ∧ h = h0
set_option maxRecDepth 65536 in
set_option maxHeartbeats 40000000 in
theorem rm32 (l : Launch) (Z : State) (a0 : Array Value) (hw : ∀ d ∈ tables_1, d.before a0 Z = true) (ws : List Jvm.Cond) (cs_v : Int32) (hp : Perm Z cs_v) (a1 : Addr) (a2 : Addr) (k_a1 : ClassId) (p4 : Int32) (p5 : Int32) (k_a2 : ClassId) (p7 : Int32) (p8 : Int32) (h0 : Heap) (n0 : Nat) (O0 : Old Z n0 h0) (V_a1 : Arv Z h0 a1 k_a1 .byte (2 : Int32) [(.int p4), (.int p5)] (.int (0 : Int32))) (V_a2 : Arv Z h0 a2 k_a2 .byte (2 : Int32) [(.int p7), (.int p8)] (.int (0 : Int32))) (hc3 : ¬ (p4 = p7)) :
    MetFree l y9 (head1 (Jvm.Cond.code y9 jdk_43_method_13_code 3 (some .boolean) :: ws) ({ frames := 0, cells := 0, slots := 0, locals := 0 } : Room)) (fun a U => a = #[(.ref a1), (.ref a2)] ∧ Z.Warmed39 U.vm ∧ U.heap = h0) (fun _ _ _ _ _ => True) (fun _ U o U' => ∃ v L, o = .returned v ∧ Q32 Z cs_v a1 a2 k_a1 p4 p5 k_a2 p7 p8 h0 n0 v U'.heap L ∧ FrameEnd U o U' L ({ frames := 0, cells := 0, slots := 0, locals := 0 } : Room).cells ({ frames := 0, cells := 0, slots := 0, locals := 0 } : Room).slots) := by
  refine MetFree.of_bodySF (plainFor_of_name pn_12) hisR ?_
  intro p e s m args below meth c s₁ Bd hml0 hP hK
  obtain ⟨rfl, hZ, hh⟩ := hP
  have hx := Bd.exec
  have hby := Bd.bytes
  have hml : c.maxLocals = 3 := hml0
  have hown : s.vm.findClass "java/lang/StringLatin1" = some m.cls := findClass_of_methodNamed Bd.named
  have hnm := (name_of_methodNamed Bd.named Bd.method).1
  have X0 : Stand p l e ({ frames := 0, cells := 0, slots := 0, locals := 0 } : Room) s m #[(.ref a1), (.ref a2)] below meth c s₁ [] 0 0 := Stand.of_body Bd
  have e0 : s₁.heap = h0 := by rw [← hh, Bd.state]; rfl
  have N0 := Fr.nil n0
  have hp' := hp
  obtain ⟨S_COMPACT_STRINGS, h_cs⟩ := hp'
  have pre0 : ∀ t, Steps p.tables e below (s₁.setTop (mkF m 0 #[.val (.ref a1), .val (.ref a2), .unset] [])) t → Steps p.tables e below (s₁.setTop (entryFrame m #[(.ref a1), (.ref a2)] 3)) t := fun t k => castTop (ef_12_0 m a1 a2) k
  obtain ⟨cl1, Ar1, -, S1, Nn1, -, -⟩ := id V_a1
  obtain ⟨cl2, Ar2, -, S2, Nn2, -, -⟩ := id V_a2
  obtain ⟨cl3, Ar3, -, S3, Nn3, -, -⟩ := id V_a1
  obtain ⟨cl4, Ar4, -, S4, -, H4, -⟩ := id V_a1
  have hin4 : ¬ ((0 : Int32) < 0 ∨ cl4.slots.size ≤ ((0 : Int32)).toNatClampNeg) := inb_of S4 ⟨by decide, by decide⟩
  have hat4 : cl4.slots[((0 : Int32)).toNatClampNeg]? = some (.int p4) := H4.at hin4 rfl
  obtain ⟨cl5, Ar5, -, S5, -, H5, -⟩ := id V_a2
  have hin5 : ¬ ((0 : Int32) < 0 ∨ cl5.slots.size ≤ ((0 : Int32)).toNatClampNeg) := inb_of S5 ⟨by decide, by decide⟩
  have hat5 : cl5.slots[((0 : Int32)).toNatClampNeg]? = some (.int p7) := H5.at hin5 rfl
  obtain ⟨fs, hr, hrun, hended, hW, hsame⟩ := X0.leave (v := some (.int (0 : Int32))) (fun h => by rw [Bd.returns] at h; cases h)
  refine ⟨_, _, pre0 _ ?_, hrun, hended, _, _, rfl, ?_, ⟨_, rfl⟩, hW, hsame.mono (by decide) (by decide)⟩
  · show Sp p e below s₁ (mkF m 0 #[.val (.ref a1), .val (.ref a2), .unset] []) _
    refine XS.aloadN X0.here hx rfl (hb hby d12_0) rfl rfl ?_
    show Sp p e below s₁ (mkF m 1 #[.val (.ref a1), .val (.ref a2), .unset] [(.ref a1)]) _
    refine X0.arraylength hx (by rw [e0]; exact Ar1.1) (State.isArrayOf_alike hZ.alike Ar1.2.1) (g := (mkF m 1 #[.val (.ref a1), .val (.ref a2), .unset] [(.ref a1)])) rfl rfl (hb hby d12_1) _ ?_
    rw [len_of S1 Nn1]
    show Sp p e below s₁ (mkF m 2 #[.val (.ref a1), .val (.ref a2), .unset] [(.int (2 : Int32))]) _
    refine XS.aloadN X0.here hx rfl (hb hby d12_2) rfl rfl ?_
    show Sp p e below s₁ (mkF m 3 #[.val (.ref a1), .val (.ref a2), .unset] [(.ref a2), (.int (2 : Int32))]) _
    refine X0.arraylength hx (by rw [e0]; exact Ar2.1) (State.isArrayOf_alike hZ.alike Ar2.2.1) (g := (mkF m 3 #[.val (.ref a1), .val (.ref a2), .unset] [(.ref a2), (.int (2 : Int32))])) rfl rfl (hb hby d12_3) _ ?_
    rw [len_of S2 Nn2]
    show Sp p e below s₁ (mkF m 4 #[.val (.ref a1), .val (.ref a2), .unset] [(.int (2 : Int32)), (.int (2 : Int32))]) _
    refine XS.icmpNo X0.here hx rfl (hb hby d12_4) rfl (teq (by decide : (2 : Int32) = (2 : Int32))).2 ?_
    refine XS.iconst X0.here hx rfl (hb hby d12_7) ?_
    refine XS.istoreN X0.here hx rfl (hb hby d12_8) rfl (l' := #[.val (.ref a1), .val (.ref a2), .val (.int (0 : Int32))]) rfl ?_
    refine XS.iloadN X0.here hx rfl (hb hby d12_9) rfl ?_
    show Sp p e below s₁ (mkF m 10 #[.val (.ref a1), .val (.ref a2), .val (.int (0 : Int32))] [(.int (0 : Int32))]) _
    refine XS.aloadN X0.here hx rfl (hb hby d12_10) rfl rfl ?_
    show Sp p e below s₁ (mkF m 11 #[.val (.ref a1), .val (.ref a2), .val (.int (0 : Int32))] [(.ref a1), (.int (0 : Int32))]) _
    refine X0.arraylength hx (by rw [e0]; exact Ar3.1) (State.isArrayOf_alike hZ.alike Ar3.2.1) (g := (mkF m 11 #[.val (.ref a1), .val (.ref a2), .val (.int (0 : Int32))] [(.ref a1), (.int (0 : Int32))])) rfl rfl (hb hby d12_11) _ ?_
    rw [len_of S3 Nn3]
    show Sp p e below s₁ (mkF m 12 #[.val (.ref a1), .val (.ref a2), .val (.int (0 : Int32))] [(.int (2 : Int32)), (.int (0 : Int32))]) _
    refine XS.icmpNo X0.here hx rfl (hb hby d12_12) rfl (tlt (by decide : (0 : Int32) < (2 : Int32))).2.1 ?_
    refine XS.aloadN X0.here hx rfl (hb hby d12_15) rfl rfl ?_
    refine XS.iloadN X0.here hx rfl (hb hby d12_16) rfl ?_
    show Sp p e below s₁ (mkF m 17 #[.val (.ref a1), .val (.ref a2), .val (.int (0 : Int32))] [(.int (0 : Int32)), (.ref a1)]) _
    refine X0.baloadBytes hx (j := (0 : Int32)) (v := (.int p4)) (by rw [e0]; exact Ar4.1) (State.isArrayOf_alike hZ.alike Ar4.2.1) Ar4.2.2 hin4 hat4 (g := (mkF m 17 #[.val (.ref a1), .val (.ref a2), .val (.int (0 : Int32))] [(.int (0 : Int32)), (.ref a1)])) rfl rfl (hb hby d12_17) _ ?_
    show Sp p e below s₁ (mkF m 18 #[.val (.ref a1), .val (.ref a2), .val (.int (0 : Int32))] [(.int p4)]) _
    refine XS.aloadN X0.here hx rfl (hb hby d12_18) rfl rfl ?_
    refine XS.iloadN X0.here hx rfl (hb hby d12_19) rfl ?_
    show Sp p e below s₁ (mkF m 20 #[.val (.ref a1), .val (.ref a2), .val (.int (0 : Int32))] [(.int (0 : Int32)), (.ref a2), (.int p4)]) _
    refine X0.baloadBytes hx (j := (0 : Int32)) (v := (.int p7)) (by rw [e0]; exact Ar5.1) (State.isArrayOf_alike hZ.alike Ar5.2.1) Ar5.2.2 hin5 hat5 (g := (mkF m 20 #[.val (.ref a1), .val (.ref a2), .val (.int (0 : Int32))] [(.int (0 : Int32)), (.ref a2), (.int p4)])) rfl rfl (hb hby d12_20) _ ?_
    show Sp p e below s₁ (mkF m 21 #[.val (.ref a1), .val (.ref a2), .val (.int (0 : Int32))] [(.int p7), (.int p4)]) _
    refine XS.icmpNo X0.here hx rfl (hb hby d12_21) rfl (feq hc3).1 ?_
    refine XS.iconst X0.here hx rfl (hb hby d12_24) ?_
    show Sp p e below s₁ (mkF m 25 #[.val (.ref a1), .val (.ref a2), .val (.int (0 : Int32))] [(.int (0 : Int32))]) _
    exact retN X0 hx (t := .boolean) Bd.returns (by simp) (hb hby d12_25) hr
  · show Q32 Z cs_v a1 a2 k_a1 p4 p5 k_a2 p7 p8 h0 n0 _ s₁.heap _
    rw [e0]
    exact ⟨rfl, N0, rfl⟩
def Q33 (Z : State) (cs_v : Int32) (a1 : Addr) (a2 : Addr) (k_a1 : ClassId) (p4 : Int32) (p5 : Int32) (k_a2 : ClassId) (p7 : Int32) (p8 : Int32) (h0 : Heap) (n0 : Nat) (v : Option Value) (h : Heap) (L : List Loc) : Prop := v = some (.int (0 : Int32)) ∧ Fr n0 L ∧ h = h0
set_option maxRecDepth 65536 in
set_option maxHeartbeats 40000000 in
theorem rm33 (l : Launch) (Z : State) (a0 : Array Value) (hw : ∀ d ∈ tables_1, d.before a0 Z = true) (ws : List Jvm.Cond) (cs_v : Int32) (hp : Perm Z cs_v) (a1 : Addr) (a2 : Addr) (k_a1 : ClassId) (p4 : Int32) (p5 : Int32) (k_a2 : ClassId) (p7 : Int32) (p8 : Int32) (h0 : Heap) (n0 : Nat) (O0 : Old Z n0 h0) (V_a1 : Arv Z h0 a1 k_a1 .byte (2 : Int32) [(.int p4), (.int p5)] (.int (0 : Int32))) (V_a2 : Arv Z h0 a2 k_a2 .byte (2 : Int32) [(.int p7), (.int p8)] (.int (0 : Int32))) (hc3 : p4 = p7) (hc4 : ¬ (p5 = p8)) :
    MetFree l y9 (head1 (Jvm.Cond.code y9 jdk_43_method_13_code 3 (some .boolean) :: ws) ({ frames := 0, cells := 0, slots := 0, locals := 0 } : Room)) (fun a U => a = #[(.ref a1), (.ref a2)] ∧ Z.Warmed39 U.vm ∧ U.heap = h0) (fun _ _ _ _ _ => True) (fun _ U o U' => ∃ v L, o = .returned v ∧ Q33 Z cs_v a1 a2 k_a1 p4 p5 k_a2 p7 p8 h0 n0 v U'.heap L ∧ FrameEnd U o U' L ({ frames := 0, cells := 0, slots := 0, locals := 0 } : Room).cells ({ frames := 0, cells := 0, slots := 0, locals := 0 } : Room).slots) := by
  refine MetFree.of_bodySF (plainFor_of_name pn_12) hisR ?_
  intro p e s m args below meth c s₁ Bd hml0 hP hK
  obtain ⟨rfl, hZ, hh⟩ := hP
  have hx := Bd.exec
  have hby := Bd.bytes
  have hml : c.maxLocals = 3 := hml0
  have hown : s.vm.findClass "java/lang/StringLatin1" = some m.cls := findClass_of_methodNamed Bd.named
  have hnm := (name_of_methodNamed Bd.named Bd.method).1
  have X0 : Stand p l e ({ frames := 0, cells := 0, slots := 0, locals := 0 } : Room) s m #[(.ref a1), (.ref a2)] below meth c s₁ [] 0 0 := Stand.of_body Bd
  have e0 : s₁.heap = h0 := by rw [← hh, Bd.state]; rfl
  have N0 := Fr.nil n0
  have hp' := hp
  obtain ⟨S_COMPACT_STRINGS, h_cs⟩ := hp'
  have pre0 : ∀ t, Steps p.tables e below (s₁.setTop (mkF m 0 #[.val (.ref a1), .val (.ref a2), .unset] [])) t → Steps p.tables e below (s₁.setTop (entryFrame m #[(.ref a1), (.ref a2)] 3)) t := fun t k => castTop (ef_12_0 m a1 a2) k
  obtain ⟨cl1, Ar1, -, S1, Nn1, -, -⟩ := id V_a1
  obtain ⟨cl2, Ar2, -, S2, Nn2, -, -⟩ := id V_a2
  obtain ⟨cl3, Ar3, -, S3, Nn3, -, -⟩ := id V_a1
  obtain ⟨cl4, Ar4, -, S4, -, H4, -⟩ := id V_a1
  have hin4 : ¬ ((0 : Int32) < 0 ∨ cl4.slots.size ≤ ((0 : Int32)).toNatClampNeg) := inb_of S4 ⟨by decide, by decide⟩
  have hat4 : cl4.slots[((0 : Int32)).toNatClampNeg]? = some (.int p4) := H4.at hin4 rfl
  obtain ⟨cl5, Ar5, -, S5, -, H5, -⟩ := id V_a2
  have hin5 : ¬ ((0 : Int32) < 0 ∨ cl5.slots.size ≤ ((0 : Int32)).toNatClampNeg) := inb_of S5 ⟨by decide, by decide⟩
  have hat5 : cl5.slots[((0 : Int32)).toNatClampNeg]? = some (.int p7) := H5.at hin5 rfl
  obtain ⟨cl6, Ar6, -, S6, Nn6, -, -⟩ := id V_a1
  obtain ⟨cl7, Ar7, -, S7, -, H7, -⟩ := id V_a1
  have hin7 : ¬ (((0 : Int32) + (1 : Int32)) < 0 ∨ cl7.slots.size ≤ (((0 : Int32) + (1 : Int32))).toNatClampNeg) := inb_of S7 ⟨by decide, by decide⟩
  have hat7 : cl7.slots[(((0 : Int32) + (1 : Int32))).toNatClampNeg]? = some (.int p5) := H7.at hin7 rfl
  obtain ⟨cl8, Ar8, -, S8, -, H8, -⟩ := id V_a2
  have hin8 : ¬ (((0 : Int32) + (1 : Int32)) < 0 ∨ cl8.slots.size ≤ (((0 : Int32) + (1 : Int32))).toNatClampNeg) := inb_of S8 ⟨by decide, by decide⟩
  have hat8 : cl8.slots[(((0 : Int32) + (1 : Int32))).toNatClampNeg]? = some (.int p8) := H8.at hin8 rfl
  obtain ⟨fs, hr, hrun, hended, hW, hsame⟩ := X0.leave (v := some (.int (0 : Int32))) (fun h => by rw [Bd.returns] at h; cases h)
  refine ⟨_, _, pre0 _ ?_, hrun, hended, _, _, rfl, ?_, ⟨_, rfl⟩, hW, hsame.mono (by decide) (by decide)⟩
  · show Sp p e below s₁ (mkF m 0 #[.val (.ref a1), .val (.ref a2), .unset] []) _
    refine XS.aloadN X0.here hx rfl (hb hby d12_0) rfl rfl ?_
    show Sp p e below s₁ (mkF m 1 #[.val (.ref a1), .val (.ref a2), .unset] [(.ref a1)]) _
    refine X0.arraylength hx (by rw [e0]; exact Ar1.1) (State.isArrayOf_alike hZ.alike Ar1.2.1) (g := (mkF m 1 #[.val (.ref a1), .val (.ref a2), .unset] [(.ref a1)])) rfl rfl (hb hby d12_1) _ ?_
    rw [len_of S1 Nn1]
    show Sp p e below s₁ (mkF m 2 #[.val (.ref a1), .val (.ref a2), .unset] [(.int (2 : Int32))]) _
    refine XS.aloadN X0.here hx rfl (hb hby d12_2) rfl rfl ?_
    show Sp p e below s₁ (mkF m 3 #[.val (.ref a1), .val (.ref a2), .unset] [(.ref a2), (.int (2 : Int32))]) _
    refine X0.arraylength hx (by rw [e0]; exact Ar2.1) (State.isArrayOf_alike hZ.alike Ar2.2.1) (g := (mkF m 3 #[.val (.ref a1), .val (.ref a2), .unset] [(.ref a2), (.int (2 : Int32))])) rfl rfl (hb hby d12_3) _ ?_
    rw [len_of S2 Nn2]
    show Sp p e below s₁ (mkF m 4 #[.val (.ref a1), .val (.ref a2), .unset] [(.int (2 : Int32)), (.int (2 : Int32))]) _
    refine XS.icmpNo X0.here hx rfl (hb hby d12_4) rfl (teq (by decide : (2 : Int32) = (2 : Int32))).2 ?_
    refine XS.iconst X0.here hx rfl (hb hby d12_7) ?_
    refine XS.istoreN X0.here hx rfl (hb hby d12_8) rfl (l' := #[.val (.ref a1), .val (.ref a2), .val (.int (0 : Int32))]) rfl ?_
    refine XS.iloadN X0.here hx rfl (hb hby d12_9) rfl ?_
    show Sp p e below s₁ (mkF m 10 #[.val (.ref a1), .val (.ref a2), .val (.int (0 : Int32))] [(.int (0 : Int32))]) _
    refine XS.aloadN X0.here hx rfl (hb hby d12_10) rfl rfl ?_
    show Sp p e below s₁ (mkF m 11 #[.val (.ref a1), .val (.ref a2), .val (.int (0 : Int32))] [(.ref a1), (.int (0 : Int32))]) _
    refine X0.arraylength hx (by rw [e0]; exact Ar3.1) (State.isArrayOf_alike hZ.alike Ar3.2.1) (g := (mkF m 11 #[.val (.ref a1), .val (.ref a2), .val (.int (0 : Int32))] [(.ref a1), (.int (0 : Int32))])) rfl rfl (hb hby d12_11) _ ?_
    rw [len_of S3 Nn3]
    show Sp p e below s₁ (mkF m 12 #[.val (.ref a1), .val (.ref a2), .val (.int (0 : Int32))] [(.int (2 : Int32)), (.int (0 : Int32))]) _
    refine XS.icmpNo X0.here hx rfl (hb hby d12_12) rfl (tlt (by decide : (0 : Int32) < (2 : Int32))).2.1 ?_
    refine XS.aloadN X0.here hx rfl (hb hby d12_15) rfl rfl ?_
    refine XS.iloadN X0.here hx rfl (hb hby d12_16) rfl ?_
    show Sp p e below s₁ (mkF m 17 #[.val (.ref a1), .val (.ref a2), .val (.int (0 : Int32))] [(.int (0 : Int32)), (.ref a1)]) _
    refine X0.baloadBytes hx (j := (0 : Int32)) (v := (.int p4)) (by rw [e0]; exact Ar4.1) (State.isArrayOf_alike hZ.alike Ar4.2.1) Ar4.2.2 hin4 hat4 (g := (mkF m 17 #[.val (.ref a1), .val (.ref a2), .val (.int (0 : Int32))] [(.int (0 : Int32)), (.ref a1)])) rfl rfl (hb hby d12_17) _ ?_
    show Sp p e below s₁ (mkF m 18 #[.val (.ref a1), .val (.ref a2), .val (.int (0 : Int32))] [(.int p4)]) _
    refine XS.aloadN X0.here hx rfl (hb hby d12_18) rfl rfl ?_
    refine XS.iloadN X0.here hx rfl (hb hby d12_19) rfl ?_
    show Sp p e below s₁ (mkF m 20 #[.val (.ref a1), .val (.ref a2), .val (.int (0 : Int32))] [(.int (0 : Int32)), (.ref a2), (.int p4)]) _
    refine X0.baloadBytes hx (j := (0 : Int32)) (v := (.int p7)) (by rw [e0]; exact Ar5.1) (State.isArrayOf_alike hZ.alike Ar5.2.1) Ar5.2.2 hin5 hat5 (g := (mkF m 20 #[.val (.ref a1), .val (.ref a2), .val (.int (0 : Int32))] [(.int (0 : Int32)), (.ref a2), (.int p4)])) rfl rfl (hb hby d12_20) _ ?_
    show Sp p e below s₁ (mkF m 21 #[.val (.ref a1), .val (.ref a2), .val (.int (0 : Int32))] [(.int p7), (.int p4)]) _
    refine XS.icmpYes X0.here hx rfl (pc0 := 21) (pc' := 26) rfl (hb hby d12_21) rfl (teq hc3).1 (by decide) (by decide) ?_
    show Sp p e below s₁ (mkF m 26 #[.val (.ref a1), .val (.ref a2), .val (.int (0 : Int32))] []) _
    refine XS.iinc X0.here hx rfl (hb hby d12_26) rfl (l' := #[.val (.ref a1), .val (.ref a2), .val (.int (fx6 ))]) rfl ?_
    refine XS.goto X0.here hx rfl (pc0 := 29) (pc' := 9) rfl (hb hby d12_29) (by decide) (by decide) ?_
    refine XS.iloadN X0.here hx rfl (hb hby d12_9) rfl ?_
    refine XS.aloadN X0.here hx rfl (hb hby d12_10) rfl rfl ?_
    show Sp p e below s₁ (mkF m 11 #[.val (.ref a1), .val (.ref a2), .val (.int (fx6 ))] [(.ref a1), (.int (fx6 ))]) _
    refine X0.arraylength hx (by rw [e0]; exact Ar6.1) (State.isArrayOf_alike hZ.alike Ar6.2.1) (g := (mkF m 11 #[.val (.ref a1), .val (.ref a2), .val (.int (fx6 ))] [(.ref a1), (.int (fx6 ))])) rfl rfl (hb hby d12_11) _ ?_
    rw [len_of S6 Nn6]
    show Sp p e below s₁ (mkF m 12 #[.val (.ref a1), .val (.ref a2), .val (.int (fx6 ))] [(.int (2 : Int32)), (.int (fx6 ))]) _
    refine XS.icmpNo X0.here hx rfl (hb hby d12_12) rfl (tlt (by decide : ((0 : Int32) + (1 : Int32)) < (2 : Int32))).2.1 ?_
    refine XS.aloadN X0.here hx rfl (hb hby d12_15) rfl rfl ?_
    refine XS.iloadN X0.here hx rfl (hb hby d12_16) rfl ?_
    show Sp p e below s₁ (mkF m 17 #[.val (.ref a1), .val (.ref a2), .val (.int (fx6 ))] [(.int (fx6 )), (.ref a1)]) _
    refine X0.baloadBytes hx (j := ((0 : Int32) + (1 : Int32))) (v := (.int p5)) (by rw [e0]; exact Ar7.1) (State.isArrayOf_alike hZ.alike Ar7.2.1) Ar7.2.2 hin7 hat7 (g := (mkF m 17 #[.val (.ref a1), .val (.ref a2), .val (.int (fx6 ))] [(.int (fx6 )), (.ref a1)])) rfl rfl (hb hby d12_17) _ ?_
    show Sp p e below s₁ (mkF m 18 #[.val (.ref a1), .val (.ref a2), .val (.int (fx6 ))] [(.int p5)]) _
    refine XS.aloadN X0.here hx rfl (hb hby d12_18) rfl rfl ?_
    refine XS.iloadN X0.here hx rfl (hb hby d12_19) rfl ?_
    show Sp p e below s₁ (mkF m 20 #[.val (.ref a1), .val (.ref a2), .val (.int (fx6 ))] [(.int (fx6 )), (.ref a2), (.int p5)]) _
    refine X0.baloadBytes hx (j := ((0 : Int32) + (1 : Int32))) (v := (.int p8)) (by rw [e0]; exact Ar8.1) (State.isArrayOf_alike hZ.alike Ar8.2.1) Ar8.2.2 hin8 hat8 (g := (mkF m 20 #[.val (.ref a1), .val (.ref a2), .val (.int (fx6 ))] [(.int (fx6 )), (.ref a2), (.int p5)])) rfl rfl (hb hby d12_20) _ ?_
    show Sp p e below s₁ (mkF m 21 #[.val (.ref a1), .val (.ref a2), .val (.int (fx6 ))] [(.int p8), (.int p5)]) _
    refine XS.icmpNo X0.here hx rfl (hb hby d12_21) rfl (feq hc4).1 ?_
    refine XS.iconst X0.here hx rfl (hb hby d12_24) ?_
    show Sp p e below s₁ (mkF m 25 #[.val (.ref a1), .val (.ref a2), .val (.int (fx6 ))] [(.int (0 : Int32))]) _
    exact retN X0 hx (t := .boolean) Bd.returns (by simp) (hb hby d12_25) hr
  · show Q33 Z cs_v a1 a2 k_a1 p4 p5 k_a2 p7 p8 h0 n0 _ s₁.heap _
    rw [e0]
    exact ⟨rfl, N0, rfl⟩
def QE12 (la ca da lb cb db : Int32) (h0 : Heap) (n0 : Nat) (v : Option Value) (h : Heap) (L : List Loc) : Prop := v = some (.int (mkE la ca da lb cb db)) ∧ Fr n0 L ∧ h = h0
set_option maxRecDepth 65536 in
set_option maxHeartbeats 4000000 in
theorem rmE12 (l : Launch) (Z : State) (a0 : Array Value) (hw : ∀ d ∈ tables_1, d.before a0 Z = true) (ws : List Jvm.Cond) (cs_v : Int32) (hp : Perm Z cs_v) (a1 a2 : Addr) (k1 k2 : ClassId) (la ca da lb cb db : Int32) (h0 : Heap) (n0 : Nat) (O0 : Old Z n0 h0) (V_a1 : Arv Z h0 a1 k1 .byte (mkN la) (mkV la ca da) (.int (0 : Int32))) (V_a2 : Arv Z h0 a2 k2 .byte (mkN lb) (mkV lb cb db) (.int (0 : Int32))) :
    MetFree l y9 (head1 (Jvm.Cond.code y9 jdk_43_method_13_code 3 (some .boolean) :: ws) ({ frames := 0, cells := 0, slots := 0, locals := 0 } : Room)) (fun a U => a = #[(.ref a1), (.ref a2)] ∧ Z.Warmed39 U.vm ∧ U.heap = h0) (fun _ _ _ _ _ => True) (fun _ U o U' => ∃ v L, o = .returned v ∧ QE12 la ca da lb cb db h0 n0 v U'.heap L ∧ FrameEnd U o U' L ({ frames := 0, cells := 0, slots := 0, locals := 0 } : Room).cells ({ frames := 0, cells := 0, slots := 0, locals := 0 } : Room).slots) := by
  by_cases ca0 : la = (0 : Int32)
  · skip
    by_cases cb0 : lb = (0 : Int32)
    · skip
      have hN1 : (mkN la) = (0 : Int32) := by simp [ca0, cb0, mkN, mkV]
      have hV1 : (mkV la ca da) = [] := by simp [ca0, cb0, mkN, mkV]
      have hN2 : (mkN lb) = (0 : Int32) := by simp [ca0, cb0, mkN, mkV]
      have hV2 : (mkV lb cb db) = [] := by simp [ca0, cb0, mkN, mkV]
      have W1 := V_a1; rw [hN1, hV1] at W1
      have W2 := V_a2; rw [hN2, hV2] at W2
      have hE : (mkE la ca da lb cb db) = (1 : Int32) := by simp [mkE, hN1, hV1, hN2, hV2]
      exact (rm22 l Z a0 hw ws cs_v hp a1 a2 k1 k2 h0 n0 O0 W1 W2).mono (fun _ _ h => h) (fun _ _ _ _ _ h => h) (fun a s o s' _ ⟨v, L, e, q, f⟩ => ⟨v, L, e, ⟨by rw [hE]; exact q.1, q.2.1, q.2.2⟩, f⟩)
    · skip
      by_cases cb1 : lb = (1 : Int32)
      · skip
        have hN1 : (mkN la) = (0 : Int32) := by simp [ca0, cb0, cb1, mkN, mkV]
        have hV1 : (mkV la ca da) = [] := by simp [ca0, cb0, cb1, mkN, mkV]
        have hN2 : (mkN lb) = (1 : Int32) := by simp [ca0, cb0, cb1, mkN, mkV]
        have hV2 : (mkV lb cb db) = [(.int (mkB cb))] := by simp [ca0, cb0, cb1, mkN, mkV]
        have W1 := V_a1; rw [hN1, hV1] at W1
        have W2 := V_a2; rw [hN2, hV2] at W2
        have hE : (mkE la ca da lb cb db) = (0 : Int32) := by simp [mkE, hN1, hV1, hN2, hV2]
        exact (rm23 l Z a0 hw ws cs_v hp a1 a2 k1 k2 (mkB cb) h0 n0 O0 W1 W2).mono (fun _ _ h => h) (fun _ _ _ _ _ h => h) (fun a s o s' _ ⟨v, L, e, q, f⟩ => ⟨v, L, e, ⟨by rw [hE]; exact q.1, q.2.1, q.2.2⟩, f⟩)
      · skip
        have hN1 : (mkN la) = (0 : Int32) := by simp [ca0, cb0, cb1, mkN, mkV]
        have hV1 : (mkV la ca da) = [] := by simp [ca0, cb0, cb1, mkN, mkV]
        have hN2 : (mkN lb) = (2 : Int32) := by simp [ca0, cb0, cb1, mkN, mkV]
        have hV2 : (mkV lb cb db) = [(.int (mkB cb)), (.int (mkB db))] := by simp [ca0, cb0, cb1, mkN, mkV]
        have W1 := V_a1; rw [hN1, hV1] at W1
        have W2 := V_a2; rw [hN2, hV2] at W2
        have hE : (mkE la ca da lb cb db) = (0 : Int32) := by simp [mkE, hN1, hV1, hN2, hV2]
        exact (rm24 l Z a0 hw ws cs_v hp a1 a2 k1 k2 (mkB cb) (mkB db) h0 n0 O0 W1 W2).mono (fun _ _ h => h) (fun _ _ _ _ _ h => h) (fun a s o s' _ ⟨v, L, e, q, f⟩ => ⟨v, L, e, ⟨by rw [hE]; exact q.1, q.2.1, q.2.2⟩, f⟩)
  · skip
    by_cases ca1 : la = (1 : Int32)
    · skip
      by_cases cb0 : lb = (0 : Int32)
      · skip
        have hN1 : (mkN la) = (1 : Int32) := by simp [ca0, ca1, cb0, mkN, mkV]
        have hV1 : (mkV la ca da) = [(.int (mkB ca))] := by simp [ca0, ca1, cb0, mkN, mkV]
        have hN2 : (mkN lb) = (0 : Int32) := by simp [ca0, ca1, cb0, mkN, mkV]
        have hV2 : (mkV lb cb db) = [] := by simp [ca0, ca1, cb0, mkN, mkV]
        have W1 := V_a1; rw [hN1, hV1] at W1
        have W2 := V_a2; rw [hN2, hV2] at W2
        have hE : (mkE la ca da lb cb db) = (0 : Int32) := by simp [mkE, hN1, hV1, hN2, hV2]
        exact (rm25 l Z a0 hw ws cs_v hp a1 a2 k1 (mkB ca) k2 h0 n0 O0 W1 W2).mono (fun _ _ h => h) (fun _ _ _ _ _ h => h) (fun a s o s' _ ⟨v, L, e, q, f⟩ => ⟨v, L, e, ⟨by rw [hE]; exact q.1, q.2.1, q.2.2⟩, f⟩)
      · skip
        by_cases cb1 : lb = (1 : Int32)
        · skip
          have hN1 : (mkN la) = (1 : Int32) := by simp [ca0, ca1, cb0, cb1, mkN, mkV]
          have hV1 : (mkV la ca da) = [(.int (mkB ca))] := by simp [ca0, ca1, cb0, cb1, mkN, mkV]
          have hN2 : (mkN lb) = (1 : Int32) := by simp [ca0, ca1, cb0, cb1, mkN, mkV]
          have hV2 : (mkV lb cb db) = [(.int (mkB cb))] := by simp [ca0, ca1, cb0, cb1, mkN, mkV]
          have W1 := V_a1; rw [hN1, hV1] at W1
          have W2 := V_a2; rw [hN2, hV2] at W2
          by_cases d0 : (mkB ca) = (mkB cb)
          · skip
            have hE : (mkE la ca da lb cb db) = (1 : Int32) := by simp [mkE, hN1, hV1, hN2, hV2, d0]
            exact (rm26 l Z a0 hw ws cs_v hp a1 a2 k1 (mkB ca) k2 (mkB cb) h0 n0 O0 W1 W2 d0).mono (fun _ _ h => h) (fun _ _ _ _ _ h => h) (fun a s o s' _ ⟨v, L, e, q, f⟩ => ⟨v, L, e, ⟨by rw [hE]; exact q.1, q.2.1, q.2.2⟩, f⟩)
          · skip
            have hE : (mkE la ca da lb cb db) = (0 : Int32) := by simp [mkE, hN1, hV1, hN2, hV2, d0]
            exact (rm27 l Z a0 hw ws cs_v hp a1 a2 k1 (mkB ca) k2 (mkB cb) h0 n0 O0 W1 W2 d0).mono (fun _ _ h => h) (fun _ _ _ _ _ h => h) (fun a s o s' _ ⟨v, L, e, q, f⟩ => ⟨v, L, e, ⟨by rw [hE]; exact q.1, q.2.1, q.2.2⟩, f⟩)
        · skip
          have hN1 : (mkN la) = (1 : Int32) := by simp [ca0, ca1, cb0, cb1, mkN, mkV]
          have hV1 : (mkV la ca da) = [(.int (mkB ca))] := by simp [ca0, ca1, cb0, cb1, mkN, mkV]
          have hN2 : (mkN lb) = (2 : Int32) := by simp [ca0, ca1, cb0, cb1, mkN, mkV]
          have hV2 : (mkV lb cb db) = [(.int (mkB cb)), (.int (mkB db))] := by simp [ca0, ca1, cb0, cb1, mkN, mkV]
          have W1 := V_a1; rw [hN1, hV1] at W1
          have W2 := V_a2; rw [hN2, hV2] at W2
          have hE : (mkE la ca da lb cb db) = (0 : Int32) := by simp [mkE, hN1, hV1, hN2, hV2]
          exact (rm28 l Z a0 hw ws cs_v hp a1 a2 k1 (mkB ca) k2 (mkB cb) (mkB db) h0 n0 O0 W1 W2).mono (fun _ _ h => h) (fun _ _ _ _ _ h => h) (fun a s o s' _ ⟨v, L, e, q, f⟩ => ⟨v, L, e, ⟨by rw [hE]; exact q.1, q.2.1, q.2.2⟩, f⟩)
    · skip
      by_cases cb0 : lb = (0 : Int32)
      · skip
        have hN1 : (mkN la) = (2 : Int32) := by simp [ca0, ca1, cb0, mkN, mkV]
        have hV1 : (mkV la ca da) = [(.int (mkB ca)), (.int (mkB da))] := by simp [ca0, ca1, cb0, mkN, mkV]
        have hN2 : (mkN lb) = (0 : Int32) := by simp [ca0, ca1, cb0, mkN, mkV]
        have hV2 : (mkV lb cb db) = [] := by simp [ca0, ca1, cb0, mkN, mkV]
        have W1 := V_a1; rw [hN1, hV1] at W1
        have W2 := V_a2; rw [hN2, hV2] at W2
        have hE : (mkE la ca da lb cb db) = (0 : Int32) := by simp [mkE, hN1, hV1, hN2, hV2]
        exact (rm29 l Z a0 hw ws cs_v hp a1 a2 k1 (mkB ca) (mkB da) k2 h0 n0 O0 W1 W2).mono (fun _ _ h => h) (fun _ _ _ _ _ h => h) (fun a s o s' _ ⟨v, L, e, q, f⟩ => ⟨v, L, e, ⟨by rw [hE]; exact q.1, q.2.1, q.2.2⟩, f⟩)
      · skip
        by_cases cb1 : lb = (1 : Int32)
        · skip
          have hN1 : (mkN la) = (2 : Int32) := by simp [ca0, ca1, cb0, cb1, mkN, mkV]
          have hV1 : (mkV la ca da) = [(.int (mkB ca)), (.int (mkB da))] := by simp [ca0, ca1, cb0, cb1, mkN, mkV]
          have hN2 : (mkN lb) = (1 : Int32) := by simp [ca0, ca1, cb0, cb1, mkN, mkV]
          have hV2 : (mkV lb cb db) = [(.int (mkB cb))] := by simp [ca0, ca1, cb0, cb1, mkN, mkV]
          have W1 := V_a1; rw [hN1, hV1] at W1
          have W2 := V_a2; rw [hN2, hV2] at W2
          have hE : (mkE la ca da lb cb db) = (0 : Int32) := by simp [mkE, hN1, hV1, hN2, hV2]
          exact (rm30 l Z a0 hw ws cs_v hp a1 a2 k1 (mkB ca) (mkB da) k2 (mkB cb) h0 n0 O0 W1 W2).mono (fun _ _ h => h) (fun _ _ _ _ _ h => h) (fun a s o s' _ ⟨v, L, e, q, f⟩ => ⟨v, L, e, ⟨by rw [hE]; exact q.1, q.2.1, q.2.2⟩, f⟩)
        · skip
          have hN1 : (mkN la) = (2 : Int32) := by simp [ca0, ca1, cb0, cb1, mkN, mkV]
          have hV1 : (mkV la ca da) = [(.int (mkB ca)), (.int (mkB da))] := by simp [ca0, ca1, cb0, cb1, mkN, mkV]
          have hN2 : (mkN lb) = (2 : Int32) := by simp [ca0, ca1, cb0, cb1, mkN, mkV]
          have hV2 : (mkV lb cb db) = [(.int (mkB cb)), (.int (mkB db))] := by simp [ca0, ca1, cb0, cb1, mkN, mkV]
          have W1 := V_a1; rw [hN1, hV1] at W1
          have W2 := V_a2; rw [hN2, hV2] at W2
          by_cases d0 : (mkB ca) = (mkB cb)
          · skip
            by_cases d1 : (mkB da) = (mkB db)
            · skip
              have hE : (mkE la ca da lb cb db) = (1 : Int32) := by simp [mkE, hN1, hV1, hN2, hV2, d0, d1]
              exact (rm31 l Z a0 hw ws cs_v hp a1 a2 k1 (mkB ca) (mkB da) k2 (mkB cb) (mkB db) h0 n0 O0 W1 W2 d0 d1).mono (fun _ _ h => h) (fun _ _ _ _ _ h => h) (fun a s o s' _ ⟨v, L, e, q, f⟩ => ⟨v, L, e, ⟨by rw [hE]; exact q.1, q.2.1, q.2.2⟩, f⟩)
            · skip
              have hE : (mkE la ca da lb cb db) = (0 : Int32) := by simp [mkE, hN1, hV1, hN2, hV2, d0, d1]
              exact (rm33 l Z a0 hw ws cs_v hp a1 a2 k1 (mkB ca) (mkB da) k2 (mkB cb) (mkB db) h0 n0 O0 W1 W2 d0 d1).mono (fun _ _ h => h) (fun _ _ _ _ _ h => h) (fun a s o s' _ ⟨v, L, e, q, f⟩ => ⟨v, L, e, ⟨by rw [hE]; exact q.1, q.2.1, q.2.2⟩, f⟩)
          · skip
            have hE : (mkE la ca da lb cb db) = (0 : Int32) := by simp [mkE, hN1, hV1, hN2, hV2, d0]
            exact (rm32 l Z a0 hw ws cs_v hp a1 a2 k1 (mkB ca) (mkB da) k2 (mkB cb) (mkB db) h0 n0 O0 W1 W2 d0).mono (fun _ _ h => h) (fun _ _ _ _ _ h => h) (fun a s o s' _ ⟨v, L, e, q, f⟩ => ⟨v, L, e, ⟨by rw [hE]; exact q.1, q.2.1, q.2.2⟩, f⟩)
theorem pd_9 : parseMethodDescriptor "([B[B)Z" = some ⟨[(.array .byte), (.array .byte)], some .boolean⟩ := by decide +kernel
theorem d11_47 : decode jdk_42_method_66_code 47 = .ok (.ifCond .eq 7, 3) := by decide +kernel
abbrev fx10 (x0 : Int32) (x1 : Int32) (x2 : Int32) (x3 : Int32) (x4 : Int32) (x5 : Int32) : Int32 := (mkE x0 x1 x2 x3 x4 x5)
theorem d11_50 : decode jdk_42_method_66_code 50 = .ok (.iconst 1, 1) := by decide +kernel
theorem d11_51 : decode jdk_42_method_66_code 51 = .ok (.goto 4, 3) := by decide +kernel
theorem d11_55 : decode jdk_42_method_66_code 55 = .ok (.ireturn, 1) := by decide +kernel
abbrev y10 : MethodName := (⟨"java/lang/String", "equals", "(Ljava/lang/Object;)Z"⟩ : MethodName)
theorem ef_11_0 (m : MethodId) (x0 : Addr) (x1 : Addr) : entryFrame m #[(.ref x0), (.ref x1)] 3 = mkF m 0 #[.val (.ref x0), .val (.ref x1), .unset] [] := by first | (simp [entryFrame, mkF, argsToLocals, Value.category]; done) | rfl
def Q34 (Z : State) (cs_v : Int32) (a1 : Addr) (a2 : Addr) (a3 : Addr) (a4 : Addr) (k_a3 : ClassId) (p6 : Int32) (p7 : Int32) (p8 : Int32) (k_a4 : ClassId) (p10 : Int32) (p11 : Int32) (p12 : Int32) (h0 : Heap) (n0 : Nat) (v : Option Value) (h : Heap) (L : List Loc) : Prop := v = some (.int (1 : Int32)) ∧ Fr n0 L ∧ h = h0
set_option maxRecDepth 65536 in
set_option maxHeartbeats 40000000 in
theorem rm34 (l : Launch) (Z : State) (a0 : Array Value) (hw : ∀ d ∈ tables_1, d.before a0 Z = true) (ws : List Jvm.Cond) (cs_v : Int32) (hp : Perm Z cs_v) (a1 : Addr) (a2 : Addr) (a3 : Addr) (a4 : Addr) (k_a3 : ClassId) (p6 : Int32) (p7 : Int32) (p8 : Int32) (k_a4 : ClassId) (p10 : Int32) (p11 : Int32) (p12 : Int32) (h0 : Heap) (n0 : Nat) (O0 : Old Z n0 h0) (ne_a1_a2 : a1 ≠ a2) (E_a2 : Exa Z h0 a2 "java/lang/String") (F_coder_a1 : Fld Z h0 a1 "java/lang/String" "coder" "B" (.int (0 : Int32))) (F_coder_a2 : Fld Z h0 a2 "java/lang/String" "coder" "B" (.int (0 : Int32))) (F_value_a1 : Fld Z h0 a1 "java/lang/String" "value" "[B" (.ref a3)) (F_value_a2 : Fld Z h0 a2 "java/lang/String" "value" "[B" (.ref a4)) (V_a3 : Arv Z h0 a3 k_a3 .byte (mkN p6) (mkV p6 p7 p8) (.int (0 : Int32))) (V_a4 : Arv Z h0 a4 k_a4 .byte (mkN p10) (mkV p10 p11 p12) (.int (0 : Int32))) (hc9 : ¬ ((mkE p6 p7 p8 p10 p11 p12) = (0 : Int32))) :
    MetFree l y10 (head1 (Jvm.Cond.code y10 jdk_42_method_66_code 3 (some .boolean) :: ws) ({ frames := 1, cells := 0, slots := 0, locals := 14 } : Room)) (fun a U => a = #[(.ref a1), (.ref a2)] ∧ Z.Warmed39 U.vm ∧ U.heap = h0) (fun _ _ _ _ _ => True) (fun _ U o U' => ∃ v L, o = .returned v ∧ Q34 Z cs_v a1 a2 a3 a4 k_a3 p6 p7 p8 k_a4 p10 p11 p12 h0 n0 v U'.heap L ∧ FrameEnd U o U' L ({ frames := 1, cells := 0, slots := 0, locals := 14 } : Room).cells ({ frames := 1, cells := 0, slots := 0, locals := 14 } : Room).slots) := by
  refine MetFree.of_bodySF (plainFor_of_name pn_3) hisR ?_
  intro p e s m args below meth c s₁ Bd hml0 hP hK
  obtain ⟨rfl, hZ, hh⟩ := hP
  have hx := Bd.exec
  have hby := Bd.bytes
  have hml : c.maxLocals = 3 := hml0
  have hown : s.vm.findClass "java/lang/String" = some m.cls := findClass_of_methodNamed Bd.named
  have hnm := (name_of_methodNamed Bd.named Bd.method).1
  have X0 : Stand p l e ({ frames := 1, cells := 0, slots := 0, locals := 14 } : Room) s m #[(.ref a1), (.ref a2)] below meth c s₁ [] 0 0 := Stand.of_body Bd
  have e0 : s₁.heap = h0 := by rw [← hh, Bd.state]; rfl
  have N0 := Fr.nil n0
  have hp' := hp
  obtain ⟨S_COMPACT_STRINGS, h_cs⟩ := hp'
  have pre0 : ∀ t, Steps p.tables e below (s₁.setTop (mkF m 0 #[.val (.ref a1), .val (.ref a2), .unset] [])) t → Steps p.tables e below (s₁.setTop (entryFrame m #[(.ref a1), (.ref a2)] 3)) t := fun t k => castTop (ef_11_0 m a1 a2) k
  obtain ⟨T1, X1, e1, st1⟩ := instY X0 hx hZ hown (wq hw 65 rfl) e0 (Ins.self E_a2) (g := (mkF m 8 #[.val (.ref a1), .val (.ref a2), .unset] [(.ref a2)])) rfl rfl (hb hby d11_8)
  obtain ⟨T2, X2, e2, st2⟩ := castY X1 hx hZ hown (wq hw 65 rfl) e1 (Ins.self E_a2) (g := (mkF m 15 #[.val (.ref a1), .val (.ref a2), .unset] [(.ref a2)])) rfl rfl (hb hby d11_15)
  obtain ⟨T3, X3, e3, st3⟩ := getS2 X2 hx hZ hown (host := "") (Or.inl (wq hw 18 rfl)) Via.refl e2 (S_COMPACT_STRINGS.ext O0.2) (g := (mkF m 19 #[.val (.ref a1), .val (.ref a2), .val (.ref a2)] [])) rfl (hb hby d11_19)
  obtain ⟨T4, X4, e4, st4⟩ := getF X3 hx hZ hown (host := "") (Or.inl (wq hw 30 rfl)) Via.refl e3 F_coder_a1 (g := (mkF m 26 #[.val (.ref a1), .val (.ref a2), .val (.ref a2)] [(.ref a1)])) rfl rfl (hb hby d11_26)
  obtain ⟨T5, X5, e5, st5⟩ := getF X4 hx hZ hown (host := "") (Or.inl (wq hw 30 rfl)) Via.refl e4 F_coder_a2 (g := (mkF m 30 #[.val (.ref a1), .val (.ref a2), .val (.ref a2)] [(.ref a2), (.int (0 : Int32))])) rfl rfl (hb hby d11_30)
  obtain ⟨T6, X6, e6, st6⟩ := getF X5 hx hZ hown (host := "") (Or.inl (wq hw 32 rfl)) Via.refl e5 F_value_a1 (g := (mkF m 37 #[.val (.ref a1), .val (.ref a2), .val (.ref a2)] [(.ref a1)])) rfl rfl (hb hby d11_37)
  obtain ⟨T7, X7, e7, st7⟩ := getF X6 hx hZ hown (host := "") (Or.inl (wq hw 32 rfl)) Via.refl e6 F_value_a2 (g := (mkF m 41 #[.val (.ref a1), .val (.ref a2), .val (.ref a2)] [(.ref a2), (.ref a3)])) rfl rfl (hb hby d11_41)
  obtain ⟨_, _, ⟨T8, L8, k8, n8⟩, -, X8, ⟨Lc8, hQ8, l8, y8, z8⟩, st8⟩ := Jvm.LawKit.callS X7 hx (y := y9) hown (mvT hZ (wq hw 66 rfl)) (mvT hZ (wq hw 67 rfl)) (mvT hZ (wq hw 68 rfl)) (mvT hZ (wq hw 69 rfl)) (by decide) (backOf (W := 0) (rmE12 l Z a0 hw [] cs_v hp a3 a4 k_a3 k_a4 p6 p7 p8 p10 p11 p12 h0 n0 O0 V_a3 V_a4) hZ (wq hw 69 rfl) (wq hw 68 rfl) (by decide) (by decide)) (g := (mkF m 44 #[.val (.ref a1), .val (.ref a2), .val (.ref a2)] [(.ref a4), (.ref a3)])) rfl (by rw [hml]; rfl) (argsL := [(.ref a3), (.ref a4)]) (rest := []) (lenOf pd_9 rfl) rfl (by show 2 * 0 + _ ≤ _; exact Nat.le_of_eq rfl) (hb hby d11_44) (fun _ _ => ⟨rfl, e7, (by decide : 0 + 0 ≤ _), (by decide : 0 + 0 ≤ _)⟩)
  dsimp only [Pt.U, Pt.locs, Pt.cells, Pt.slots] at X8 l8 y8 z8 st8 hQ8
  subst l8 y8 z8
  obtain ⟨rfl, Nq8, eq8⟩ := hQ8
  have N8 := Fr.app N0 Nq8
  obtain ⟨fs, hr, hrun, hended, hW, hsame⟩ := X8.leave (v := some (.int (1 : Int32))) (fun h => by rw [Bd.returns] at h; cases h)
  refine ⟨_, _, pre0 _ ?_, hrun, hended, _, _, rfl, ?_, ⟨_, rfl⟩, hW, hsame.mono (by decide) (by decide)⟩
  · show Sp p e below s₁ (mkF m 0 #[.val (.ref a1), .val (.ref a2), .unset] []) _
    refine XS.aloadN X0.here hx rfl (hb hby d11_0) rfl rfl ?_
    refine XS.aloadN X0.here hx rfl (hb hby d11_1) rfl rfl ?_
    show Sp p e below s₁ (mkF m 2 #[.val (.ref a1), .val (.ref a2), .unset] [(.ref a2), (.ref a1)]) _
    refine Jvm.RoadKit.acmp (g := (mkF m 2 #[.val (.ref a1), .val (.ref a2), .unset] [(.ref a2), (.ref a1)])) X0 hx rfl rfl rfl (pc0 := 2) (pc' := 7) (same := false) rfl (hb hby d11_2) rfl (decide_eq_false fun q => ne_a1_a2 (Value.ref.inj q)) (by decide) (by decide) ?_
    show Sp p e below s₁ (mkF m 7 #[.val (.ref a1), .val (.ref a2), .unset] []) _
    refine XS.aloadN X0.here hx rfl (hb hby d11_7) rfl rfl ?_
    show Sp p e below s₁ (mkF m 8 #[.val (.ref a1), .val (.ref a2), .unset] [(.ref a2)]) _
    refine st1 _ ?_
    show Sp p e below T1 (mkF m 11 #[.val (.ref a1), .val (.ref a2), .unset] [(.int (1 : Int32))]) _
    refine XS.ifNo X1.here hx rfl (hb hby d11_11) rfl ((if0 _ _).trans (feq (by decide : ¬ ((1 : Int32) = (0 : Int32)))).1) ?_
    refine XS.aloadN X1.here hx rfl (hb hby d11_14) rfl rfl ?_
    show Sp p e below T1 (mkF m 15 #[.val (.ref a1), .val (.ref a2), .unset] [(.ref a2)]) _
    refine st2 _ ?_
    show Sp p e below T2 (mkF m 18 #[.val (.ref a1), .val (.ref a2), .unset] [(.ref a2)]) _
    refine XS.astoreN X2.here hx rfl (hb hby d11_18) rfl rfl (l' := #[.val (.ref a1), .val (.ref a2), .val (.ref a2)]) rfl ?_
    show Sp p e below T2 (mkF m 19 #[.val (.ref a1), .val (.ref a2), .val (.ref a2)] []) _
    refine st3 _ ?_
    show Sp p e below T3 (mkF m 22 #[.val (.ref a1), .val (.ref a2), .val (.ref a2)] [(.int cs_v)]) _
    refine XS.ifNo X3.here hx rfl (hb hby d11_22) rfl ((if0 _ _).trans (feq h_cs).1) ?_
    refine XS.aloadN X3.here hx rfl (hb hby d11_25) rfl rfl ?_
    show Sp p e below T3 (mkF m 26 #[.val (.ref a1), .val (.ref a2), .val (.ref a2)] [(.ref a1)]) _
    refine st4 _ ?_
    show Sp p e below T4 (mkF m 29 #[.val (.ref a1), .val (.ref a2), .val (.ref a2)] [(.int (0 : Int32))]) _
    refine XS.aloadN X4.here hx rfl (hb hby d11_29) rfl rfl ?_
    show Sp p e below T4 (mkF m 30 #[.val (.ref a1), .val (.ref a2), .val (.ref a2)] [(.ref a2), (.int (0 : Int32))]) _
    refine st5 _ ?_
    show Sp p e below T5 (mkF m 33 #[.val (.ref a1), .val (.ref a2), .val (.ref a2)] [(.int (0 : Int32)), (.int (0 : Int32))]) _
    refine XS.icmpNo X5.here hx rfl (hb hby d11_33) rfl (teq (by decide : (0 : Int32) = (0 : Int32))).2 ?_
    refine XS.aloadN X5.here hx rfl (hb hby d11_36) rfl rfl ?_
    show Sp p e below T5 (mkF m 37 #[.val (.ref a1), .val (.ref a2), .val (.ref a2)] [(.ref a1)]) _
    refine st6 _ ?_
    show Sp p e below T6 (mkF m 40 #[.val (.ref a1), .val (.ref a2), .val (.ref a2)] [(.ref a3)]) _
    refine XS.aloadN X6.here hx rfl (hb hby d11_40) rfl rfl ?_
    show Sp p e below T6 (mkF m 41 #[.val (.ref a1), .val (.ref a2), .val (.ref a2)] [(.ref a2), (.ref a3)]) _
    refine st7 _ ?_
    show Sp p e below T7 (mkF m 44 #[.val (.ref a1), .val (.ref a2), .val (.ref a2)] [(.ref a4), (.ref a3)]) _
    refine st8 _ ?_
    show Sp p e below T8 (mkF m 47 #[.val (.ref a1), .val (.ref a2), .val (.ref a2)] [(.int (fx10 p6 p7 p8 p10 p11 p12))]) _
    refine XS.ifNo X8.here hx rfl (hb hby d11_47) rfl ((if0 _ _).trans (feq hc9).1) ?_
    refine XS.iconst X8.here hx rfl (hb hby d11_50) ?_
    refine XS.goto X8.here hx rfl (pc0 := 51) (pc' := 55) rfl (hb hby d11_51) (by decide) (by decide) ?_
    show Sp p e below T8 (mkF m 55 #[.val (.ref a1), .val (.ref a2), .val (.ref a2)] [(.int (1 : Int32))]) _
    exact retN X8 hx (t := .boolean) Bd.returns (by simp) (hb hby d11_55) hr
  · show Q34 Z cs_v a1 a2 a3 a4 k_a3 p6 p7 p8 k_a4 p10 p11 p12 h0 n0 _ T8.heap _
    rw [eq8]
    exact ⟨rfl, N8, rfl⟩
theorem d10_36 : decode prog_8_method_4_code 36 = .ok (.ifCond .eq 7, 3) := by decide +kernel
theorem d10_39 : decode prog_8_method_4_code 39 = .ok (.iconst 1, 1) := by decide +kernel
theorem d10_40 : decode prog_8_method_4_code 40 = .ok (.goto 4, 3) := by decide +kernel
theorem d10_44 : decode prog_8_method_4_code 44 = .ok (.ireturn, 1) := by decide +kernel
def Q35 (Z : State) (cs_v : Int32) (a1 : Addr) (a2 : Addr) (p3 : Int32) (p4 : Int32) (a5 : Addr) (a6 : Addr) (a7 : Addr) (a8 : Addr) (k_a7 : ClassId) (p10 : Int32) (p11 : Int32) (p12 : Int32) (k_a8 : ClassId) (p14 : Int32) (p15 : Int32) (p16 : Int32) (h0 : Heap) (n0 : Nat) (v : Option Value) (h : Heap) (L : List Loc) : Prop := v = some (.int (1 : Int32)) ∧ Fr n0 L ∧ h = h0
set_option maxRecDepth 65536 in
set_option maxHeartbeats 40000000 in
theorem rm35 (l : Launch) (Z : State) (a0 : Array Value) (hw : ∀ d ∈ tables_1, d.before a0 Z = true) (ws : List Jvm.Cond) (cs_v : Int32) (hp : Perm Z cs_v) (a1 : Addr) (a2 : Addr) (p3 : Int32) (p4 : Int32) (a5 : Addr) (a6 : Addr) (a7 : Addr) (a8 : Addr) (k_a7 : ClassId) (p10 : Int32) (p11 : Int32) (p12 : Int32) (k_a8 : ClassId) (p14 : Int32) (p15 : Int32) (p16 : Int32) (h0 : Heap) (n0 : Nat) (O0 : Old Z n0 h0) (E_a2 : Exa Z h0 a2 "com/example/epcrtools/epcrtools/exchange/RuleSetKey") (F_dataSchema_a1 : Fld Z h0 a1 "com/example/epcrtools/epcrtools/exchange/RuleSetKey" "dataSchema" "I" (.int p3)) (F_dataSchema_a2 : Fld Z h0 a2 "com/example/epcrtools/epcrtools/exchange/RuleSetKey" "dataSchema" "I" (.int p4)) (hc4 : p3 = p4) (F_schemaVersion_a1 : Fld Z h0 a1 "com/example/epcrtools/epcrtools/exchange/RuleSetKey" "schemaVersion" "Ljava/lang/String;" (.ref a5)) (F_schemaVersion_a2 : Fld Z h0 a2 "com/example/epcrtools/epcrtools/exchange/RuleSetKey" "schemaVersion" "Ljava/lang/String;" (.ref a6)) (E_a5 : Exa Z h0 a5 "java/lang/String") (E_a6 : Exa Z h0 a6 "java/lang/String") (F_coder_a5 : Fld Z h0 a5 "java/lang/String" "coder" "B" (.int (0 : Int32))) (F_coder_a6 : Fld Z h0 a6 "java/lang/String" "coder" "B" (.int (0 : Int32))) (F_value_a5 : Fld Z h0 a5 "java/lang/String" "value" "[B" (.ref a7)) (F_value_a6 : Fld Z h0 a6 "java/lang/String" "value" "[B" (.ref a8)) (V_a7 : Arv Z h0 a7 k_a7 .byte (mkN p10) (mkV p10 p11 p12) (.int (0 : Int32))) (V_a8 : Arv Z h0 a8 k_a8 .byte (mkN p14) (mkV p14 p15 p16) (.int (0 : Int32))) (hc15 : ¬ ((mkE p10 p11 p12 p14 p15 p16) = (0 : Int32))) (ne_a5_a6 : a5 ≠ a6) :
    MetFree l y8 (head1 (Jvm.Cond.code y8 prog_8_method_4_code 3 (some .boolean) :: ws) ({ frames := 2, cells := 0, slots := 0, locals := 28 } : Room)) (fun a U => a = #[(.ref a1), (.ref a2)] ∧ Z.Warmed39 U.vm ∧ U.heap = h0) (fun _ _ _ _ _ => True) (fun _ U o U' => ∃ v L, o = .returned v ∧ Q35 Z cs_v a1 a2 p3 p4 a5 a6 a7 a8 k_a7 p10 p11 p12 k_a8 p14 p15 p16 h0 n0 v U'.heap L ∧ FrameEnd U o U' L ({ frames := 2, cells := 0, slots := 0, locals := 28 } : Room).cells ({ frames := 2, cells := 0, slots := 0, locals := 28 } : Room).slots) := by
  refine MetFree.of_bodySF (plainFor_of_name pn_8) hisR ?_
  intro p e s m args below meth c s₁ Bd hml0 hP hK
  obtain ⟨rfl, hZ, hh⟩ := hP
  have hx := Bd.exec
  have hby := Bd.bytes
  have hml : c.maxLocals = 3 := hml0
  have hown : s.vm.findClass "com/example/epcrtools/epcrtools/exchange/RuleSetKey" = some m.cls := findClass_of_methodNamed Bd.named
  have hnm := (name_of_methodNamed Bd.named Bd.method).1
  have X0 : Stand p l e ({ frames := 2, cells := 0, slots := 0, locals := 28 } : Room) s m #[(.ref a1), (.ref a2)] below meth c s₁ [] 0 0 := Stand.of_body Bd
  have e0 : s₁.heap = h0 := by rw [← hh, Bd.state]; rfl
  have N0 := Fr.nil n0
  have hp' := hp
  obtain ⟨S_COMPACT_STRINGS, h_cs⟩ := hp'
  have pre0 : ∀ t, Steps p.tables e below (s₁.setTop (mkF m 0 #[.val (.ref a1), .val (.ref a2), .unset] [])) t → Steps p.tables e below (s₁.setTop (entryFrame m #[(.ref a1), (.ref a2)] 3)) t := fun t k => castTop (ef_10_1 m a1 a2) k
  obtain ⟨T1, X1, e1, st1⟩ := instY X0 hx hZ hown (wq hw 58 rfl) e0 (Ins.self E_a2) (g := (mkF m 1 #[.val (.ref a1), .val (.ref a2), .unset] [(.ref a2)])) rfl rfl (hb hby d10_1)
  obtain ⟨T2, X2, e2, st2⟩ := castY X1 hx hZ hown (wq hw 58 rfl) e1 (Ins.self E_a2) (g := (mkF m 10 #[.val (.ref a1), .val (.ref a2), .unset] [(.ref a2)])) rfl rfl (hb hby d10_10)
  obtain ⟨T3, X3, e3, st3⟩ := getF X2 hx hZ hown (host := "") (Or.inl (wq hw 41 rfl)) Via.refl e2 F_dataSchema_a1 (g := (mkF m 15 #[.val (.ref a1), .val (.ref a2), .val (.ref a2)] [(.ref a1)])) rfl rfl (hb hby d10_15)
  obtain ⟨T4, X4, e4, st4⟩ := getF X3 hx hZ hown (host := "") (Or.inl (wq hw 41 rfl)) Via.refl e3 F_dataSchema_a2 (g := (mkF m 19 #[.val (.ref a1), .val (.ref a2), .val (.ref a2)] [(.ref a2), (.int p3)])) rfl rfl (hb hby d10_19)
  obtain ⟨T5, X5, e5, st5⟩ := getF X4 hx hZ hown (host := "") (Or.inl (wq hw 48 rfl)) Via.refl e4 F_schemaVersion_a1 (g := (mkF m 26 #[.val (.ref a1), .val (.ref a2), .val (.ref a2)] [(.ref a1)])) rfl rfl (hb hby d10_26)
  obtain ⟨T6, X6, e6, st6⟩ := getF X5 hx hZ hown (host := "") (Or.inl (wq hw 48 rfl)) Via.refl e5 F_schemaVersion_a2 (g := (mkF m 30 #[.val (.ref a1), .val (.ref a2), .val (.ref a2)] [(.ref a2), (.ref a5)])) rfl rfl (hb hby d10_30)
  obtain ⟨cq7, kq7, q7a, q7b, q7c⟩ := isOf hZ e6 E_a5
  obtain ⟨_, _, ⟨T7, L7, k7, n7⟩, -, X7, ⟨Lc7, hQ7, l7, y7, z7⟩, st7⟩ := X6.virtualBack hx (y := y10) (z := y10) hown (mvT hZ (wq hw 60 rfl)) (mvT hZ (wq hw 61 rfl)) (notFace_of_selects (args := #[]) (mvT hZ (wq hw 63 rfl))) (mvT hZ (wq hw 63 rfl)) (mvT hZ (wq hw 62 rfl)) (by decide) (backOf (W := 0) (rm34 l Z a0 hw [] cs_v hp a5 a6 a7 a8 k_a7 p10 p11 p12 k_a8 p14 p15 p16 h0 n0 O0 ne_a5_a6 E_a6 F_coder_a5 F_coder_a6 F_value_a5 F_value_a6 V_a7 V_a8 hc15) hZ (wq hw 64 rfl) (wq hw 6 rfl) (by decide) (by decide)) q7a q7c (g := (mkF m 33 #[.val (.ref a1), .val (.ref a2), .val (.ref a2)] [(.ref a6), (.ref a5)])) rfl (by rw [hml]; rfl) (Steps.refl _) (argsL := [(.ref a6)]) (rest := []) (lenOf pd_8 rfl) rfl (by show 2 * 0 + _ ≤ _; exact Nat.le_of_eq rfl) (hb hby d10_33) (fun _ _ => ⟨rfl, e6, (by decide : 0 + 0 ≤ _), (by decide : 0 + 0 ≤ _)⟩)
  dsimp only [Pt.U, Pt.locs, Pt.cells, Pt.slots] at X7 l7 y7 z7 st7 hQ7
  subst l7 y7 z7
  obtain ⟨rfl, Nq7, eq7⟩ := hQ7
  have N7 := Fr.app N0 Nq7
  obtain ⟨fs, hr, hrun, hended, hW, hsame⟩ := X7.leave (v := some (.int (1 : Int32))) (fun h => by rw [Bd.returns] at h; cases h)
  refine ⟨_, _, pre0 _ ?_, hrun, hended, _, _, rfl, ?_, ⟨_, rfl⟩, hW, hsame.mono (by decide) (by decide)⟩
  · show Sp p e below s₁ (mkF m 0 #[.val (.ref a1), .val (.ref a2), .unset] []) _
    refine XS.aloadN X0.here hx rfl (hb hby d10_0) rfl rfl ?_
    show Sp p e below s₁ (mkF m 1 #[.val (.ref a1), .val (.ref a2), .unset] [(.ref a2)]) _
    refine st1 _ ?_
    show Sp p e below T1 (mkF m 4 #[.val (.ref a1), .val (.ref a2), .unset] [(.int (1 : Int32))]) _
    refine XS.ifYes X1.here hx rfl (pc0 := 4) (pc' := 9) rfl (hb hby d10_4) rfl ((if0 _ _).trans (feq (by decide : ¬ ((1 : Int32) = (0 : Int32)))).2) (by decide) (by decide) ?_
    refine XS.aloadN X1.here hx rfl (hb hby d10_9) rfl rfl ?_
    show Sp p e below T1 (mkF m 10 #[.val (.ref a1), .val (.ref a2), .unset] [(.ref a2)]) _
    refine st2 _ ?_
    show Sp p e below T2 (mkF m 13 #[.val (.ref a1), .val (.ref a2), .unset] [(.ref a2)]) _
    refine XS.astoreN X2.here hx rfl (hb hby d10_13) rfl rfl (l' := #[.val (.ref a1), .val (.ref a2), .val (.ref a2)]) rfl ?_
    refine XS.aloadN X2.here hx rfl (hb hby d10_14) rfl rfl ?_
    show Sp p e below T2 (mkF m 15 #[.val (.ref a1), .val (.ref a2), .val (.ref a2)] [(.ref a1)]) _
    refine st3 _ ?_
    show Sp p e below T3 (mkF m 18 #[.val (.ref a1), .val (.ref a2), .val (.ref a2)] [(.int p3)]) _
    refine XS.aloadN X3.here hx rfl (hb hby d10_18) rfl rfl ?_
    show Sp p e below T3 (mkF m 19 #[.val (.ref a1), .val (.ref a2), .val (.ref a2)] [(.ref a2), (.int p3)]) _
    refine st4 _ ?_
    show Sp p e below T4 (mkF m 22 #[.val (.ref a1), .val (.ref a2), .val (.ref a2)] [(.int p4), (.int p3)]) _
    refine XS.icmpNo X4.here hx rfl (hb hby d10_22) rfl (teq hc4).2 ?_
    refine XS.aloadN X4.here hx rfl (hb hby d10_25) rfl rfl ?_
    show Sp p e below T4 (mkF m 26 #[.val (.ref a1), .val (.ref a2), .val (.ref a2)] [(.ref a1)]) _
    refine st5 _ ?_
    show Sp p e below T5 (mkF m 29 #[.val (.ref a1), .val (.ref a2), .val (.ref a2)] [(.ref a5)]) _
    refine XS.aloadN X5.here hx rfl (hb hby d10_29) rfl rfl ?_
    show Sp p e below T5 (mkF m 30 #[.val (.ref a1), .val (.ref a2), .val (.ref a2)] [(.ref a2), (.ref a5)]) _
    refine st6 _ ?_
    show Sp p e below T6 (mkF m 33 #[.val (.ref a1), .val (.ref a2), .val (.ref a2)] [(.ref a6), (.ref a5)]) _
    refine st7.trans ?_
    show Sp p e below T7 (mkF m 36 #[.val (.ref a1), .val (.ref a2), .val (.ref a2)] [(.int (1 : Int32))]) _
    refine XS.ifNo X7.here hx rfl (hb hby d10_36) rfl ((if0 _ _).trans (feq (by decide : ¬ ((1 : Int32) = (0 : Int32)))).1) ?_
    refine XS.iconst X7.here hx rfl (hb hby d10_39) ?_
    refine XS.goto X7.here hx rfl (pc0 := 40) (pc' := 44) rfl (hb hby d10_40) (by decide) (by decide) ?_
    show Sp p e below T7 (mkF m 44 #[.val (.ref a1), .val (.ref a2), .val (.ref a2)] [(.int (1 : Int32))]) _
    exact retN X7 hx (t := .boolean) Bd.returns (by simp) (hb hby d10_44) hr
  · show Q35 Z cs_v a1 a2 p3 p4 a5 a6 a7 a8 k_a7 p10 p11 p12 k_a8 p14 p15 p16 h0 n0 _ T7.heap _
    rw [eq7]
    exact ⟨rfl, N7, rfl⟩
set_option maxRecDepth 65536 in
set_option maxHeartbeats 40000000 in
theorem rm36 (l : Launch) (Z : State) (a0 : Array Value) (hw : ∀ d ∈ tables_1, d.before a0 Z = true) (ws : List Jvm.Cond) (cs_v : Int32) (hp : Perm Z cs_v) (p0 : Int32) (p1 : Int32) (p2 : Int32) (p3 : Int32) (p4 : Int32) (z8 : Int32) (z9 : Int32) (z15 : Int32) (h0 : Heap) (n0 : Nat) (O0 : Old Z n0 h0) (hcut28 : Cut_0_28 p0 p1 p2 p3 p4 ((p2 &&& (3 : Int32)) % (3 : Int32)) ((((p2.toUInt32 >>> ((2 : Int32) &&& 31).toUInt32).toInt32) &&& (255 : Int32)).toUInt32.toUInt16.toUInt32.toInt32) ((((p2.toUInt32 >>> ((10 : Int32) &&& 31).toUInt32).toInt32) &&& (255 : Int32)).toUInt32.toUInt16.toUInt32.toInt32) z8 z9) (hcut109 : Cut_0_109 p0 p1 p2 p3 p4 ((p2 &&& (3 : Int32)) % (3 : Int32)) ((((p2.toUInt32 >>> ((2 : Int32) &&& 31).toUInt32).toInt32) &&& (255 : Int32)).toUInt32.toUInt16.toUInt32.toInt32) ((((p2.toUInt32 >>> ((10 : Int32) &&& 31).toUInt32).toInt32) &&& (255 : Int32)).toUInt32.toUInt16.toUInt32.toInt32) z8 z9 ((z9 &&& (3 : Int32)) % (3 : Int32)) ((((z9.toUInt32 >>> ((2 : Int32) &&& 31).toUInt32).toInt32) &&& (255 : Int32)).toUInt32.toUInt16.toUInt32.toInt32) ((((z9.toUInt32 >>> ((10 : Int32) &&& 31).toUInt32).toInt32) &&& (255 : Int32)).toUInt32.toUInt16.toUInt32.toInt32) z15) (hc3 : ¬ ((p4 &&& (3 : Int32)) = (0 : Int32))) (hc4 : ¬ ((p4 &&& (3 : Int32)) = (1 : Int32))) (hc5 : ((p2 &&& (3 : Int32)) % (3 : Int32)) = ((z9 &&& (3 : Int32)) % (3 : Int32))) (hc6 : ((p2 &&& (3 : Int32)) % (3 : Int32)) < (1 : Int32)) (hc7 : p0 = z15) :
    MetFree l x (head1 (Jvm.Cond.code x code maxLocals ret :: ws) room_1) (fun a U => a = #[(.int p0), (.int p1), (.int p2), (.int p3), (.int p4)] ∧ Z.Warmed39 U.vm ∧ U.heap = h0 ∧ CHv Z own_EL U.vm h0) (fun _ _ _ _ _ => True) (fun _ U o U' => ∃ v L, o = .returned v ∧ (v = some (.int (1 : Int32)) ∧ Fr n0 L) ∧ ReturnedEndW U o U' L 32 1152) := by
  refine MetFree.of_bodySF (plainFor_of_name pn_1) hisR ?_
  intro p e s m args below meth c s₁ Bd hml0 hP hK
  obtain ⟨rfl, hZo, hh, hCH⟩ := hP
  have hx := Bd.exec
  have hby := Bd.bytes
  have hml : c.maxLocals = 21 := hml0
  have hown : (s.setVm s.vm).vm.findClass "com/example/epcrtools/epcrtools/exchange/RuleSetKeyEqualsPinLaw" = some m.cls := findClass_of_methodNamed Bd.named
  have hnm := (name_of_methodNamed Bd.named Bd.method).1
  have X0 : Stand p l e room_1 (s.setVm s.vm) m #[(.int p0), (.int p1), (.int p2), (.int p3), (.int p4)] below meth c s₁ [] 0 0 := Stand.of_body Bd
  have e0 : s₁.heap = h0 := by rw [← hh, Bd.state]; rfl
  have N0 := Fr.nil n0
  have hZ : Z.Warmed39 (s.setVm s.vm).vm := hZo
  have CH0 := CHr.refl hCH
  have hS0 : s.Since s.vm 0 := (State.WarmedH.refl s).since 0
  have hk0 : 0 ≤ h0.size := Nat.zero_le _
  have hp' := hp
  obtain ⟨S_COMPACT_STRINGS, h_cs⟩ := hp'
  have pre0 : ∀ t, Steps p.tables e below (s₁.setTop (mkF m 0 #[.val (.int p0), .val (.int p1), .val (.int p2), .val (.int p3), .val (.int p4), .unset, .unset, .unset, .unset, .unset, .unset, .unset, .unset, .unset, .unset, .unset, .unset, .unset, .unset, .unset, .unset] [])) t → Steps p.tables e below (s₁.setTop (entryFrame m #[(.int p0), (.int p1), (.int p2), (.int p3), (.int p4)] maxLocals)) t := fun t k => castTop (ef_0_0 m p0 p1 p2 p3 p4) k
  have st1 := hcut28 X0 hx hZ hw hby hown
  obtain ⟨_, _, ⟨T2, L2, k2, n2⟩, -, XX2, Sq2, gq2, ⟨Lc2, hQ2, l2, y2, z2, C2⟩, st2⟩ := callSS X0 hx (y := y2) hown (mvT hZ (wq hw 0 rfl)) (mvT hZ (wq hw 1 rfl)) (mvT hZ (wq hw 2 rfl)) (mvT hZ (wq hw 3 rfl)) (by decide) (own_backC (SL := []) (W := 0) (rmS1 l Z a0 hw [] cs_v hp ((p2 &&& (3 : Int32)) % (3 : Int32)) ((((p2.toUInt32 >>> ((2 : Int32) &&& 31).toUInt32).toInt32) &&& (255 : Int32)).toUInt32.toUInt16.toUInt32.toInt32) ((((p2.toUInt32 >>> ((10 : Int32) &&& 31).toUInt32).toInt32) &&& (255 : Int32)).toUInt32.toUInt16.toUInt32.toInt32) h0 n0 O0 (own_ch2 ((p2.toUInt32 >>> ((2 : Int32) &&& 31).toUInt32).toInt32)) (own_ch2 ((p2.toUInt32 >>> ((10 : Int32) &&& 31).toUInt32).toInt32))) hZ (wq hw 3 rfl) (wq hw 2 rfl) (by decide) (by decide) (own_EW hw) CH0.1 all0) (g := (mkF m 93 #[.val (.int p0), .val (.int p1), .val (.int p2), .val (.int p3), .val (.int p4), .val (.int (fx0 p2)), .val (.int (fx2 p2)), .val (.int (fx4 p2)), .val (.int z8), .val (.int z9), .val (.int (fx0 z9)), .val (.int (fx2 z9)), .val (.int (fx4 z9)), .unset, .unset, .unset, .unset, .unset, .unset, .unset, .unset] [(.int (fx4 p2)), (.int (fx2 p2)), (.int (fx0 p2))])) rfl (by rw [hml]; rfl) (argsL := [(.int (fx0 p2)), (.int (fx2 p2)), (.int (fx4 p2))]) (rest := []) (lenOf pd_5 rfl) rfl (by show 2 * 0 + _ ≤ _; exact Nat.le_of_eq rfl) (hb hby at_93) (fun _ _ => ⟨rfl, e0, (by decide : 0 + 4 ≤ _), (by decide : 0 + 8 ≤ _)⟩)
  dsimp only [Pt.U, Pt.locs, Pt.cells, Pt.slots] at XX2 Sq2 gq2 l2 y2 z2 st2 hQ2 C2
  subst l2 y2 z2
  obtain ⟨X2, hS2, hZ2, hown2⟩ := rebS hS0 (by rw [e0]; exact hk0) XX2 Sq2 gq2 hZ hown
  obtain ⟨b2_0, y2_0, kc2_0, rfl, Nq2, Kq2, sq_b2_0, fq2_0, fq2_1, fq2_2, fq2_3⟩ := hQ2
  have N2 := Fr.app N0 Nq2
  have g_b2_0 : n0 ≤ b2_0 := Nat.le_trans (own_sz O0) sq_b2_0
  have sz_b2_0 : h0.size ≤ b2_0 := Nat.le_trans (Keep.refl h0 []).1 sq_b2_0
  have CH2 := CH0.trans C2
  have hk2 : T2.heap.size ≤ T2.heap.size := Nat.le_refl _
  have O2 := O0.keep Kq2 all0
  have K2 : Keep h0 T2.heap [] := (Keep.refl h0 []).trans Kq2 all0
  obtain ⟨_, _, ⟨T3, L3, k3, n3⟩, -, XX3, Sq3, gq3, ⟨Lc3, hQ3, l3, y3, z3, C3⟩, st3⟩ := callSS X2 hx (y := y2) hown2 (mvT hZ2 (wq hw 0 rfl)) (mvT hZ2 (wq hw 1 rfl)) (mvT hZ2 (wq hw 2 rfl)) (mvT hZ2 (wq hw 3 rfl)) (by decide) (own_backC (SL := []) (W := 0) (rmS1 l Z a0 hw [] cs_v hp ((z9 &&& (3 : Int32)) % (3 : Int32)) ((((z9.toUInt32 >>> ((2 : Int32) &&& 31).toUInt32).toInt32) &&& (255 : Int32)).toUInt32.toUInt16.toUInt32.toInt32) ((((z9.toUInt32 >>> ((10 : Int32) &&& 31).toUInt32).toInt32) &&& (255 : Int32)).toUInt32.toUInt16.toUInt32.toInt32) T2.heap n0 O2 (own_ch2 ((z9.toUInt32 >>> ((2 : Int32) &&& 31).toUInt32).toInt32)) (own_ch2 ((z9.toUInt32 >>> ((10 : Int32) &&& 31).toUInt32).toInt32))) hZ2 (wq hw 3 rfl) (wq hw 2 rfl) (by decide) (by decide) (own_EW hw) CH2.1 all0) (g := (mkF m 104 #[.val (.int p0), .val (.int p1), .val (.int p2), .val (.int p3), .val (.int p4), .val (.int (fx0 p2)), .val (.int (fx2 p2)), .val (.int (fx4 p2)), .val (.int z8), .val (.int z9), .val (.int (fx0 z9)), .val (.int (fx2 z9)), .val (.int (fx4 z9)), .val (.ref b2_0), .unset, .unset, .unset, .unset, .unset, .unset, .unset] [(.int (fx4 z9)), (.int (fx2 z9)), (.int (fx0 z9))])) rfl (by rw [hml]; rfl) (argsL := [(.int (fx0 z9)), (.int (fx2 z9)), (.int (fx4 z9))]) (rest := []) (lenOf pd_5 rfl) rfl (by show 2 * 0 + _ ≤ _; exact Nat.le_of_eq rfl) (hb hby at_104) (fun _ _ => ⟨rfl, rfl, (by decide : 4 + 4 ≤ _), (by decide : 8 + 8 ≤ _)⟩)
  dsimp only [Pt.U, Pt.locs, Pt.cells, Pt.slots] at XX3 Sq3 gq3 l3 y3 z3 st3 hQ3 C3
  subst l3 y3 z3
  obtain ⟨X3, hS3, hZ3, hown3⟩ := rebS hS2 hk2 XX3 Sq3 gq3 hZ2 hown2
  obtain ⟨b3_0, y3_0, kc3_0, rfl, Nq3, Kq3, sq_b3_0, fq3_0, fq3_1, fq3_2, fq3_3⟩ := hQ3
  have N3 := Fr.app N2 Nq3
  have g_b3_0 : n0 ≤ b3_0 := Nat.le_trans (own_sz O2) sq_b3_0
  have sz_b3_0 : h0.size ≤ b3_0 := Nat.le_trans K2.1 sq_b3_0
  have CH3 := CH2.trans C3
  have hk3 : T3.heap.size ≤ T3.heap.size := Nat.le_refl _
  have O3 := O2.keep Kq3 all0
  have K3 : Keep h0 T3.heap [] := K2.trans Kq3 all0
  have st4 := hcut109 b2_0 b3_0 X3 hx hZ3 hw hby hown3
  obtain ⟨T5, h5, X5, e5, E5, A5, D5, -, st5⟩ := newO X3 hx hZ3 hown3 (wq hw 34 rfl) (wq hw 35 rfl) (wq hw 36 rfl) rfl (g := (mkF m 125 #[.val (.int p0), .val (.int p1), .val (.int p2), .val (.int p3), .val (.int p4), .val (.int (fx0 p2)), .val (.int (fx2 p2)), .val (.int (fx4 p2)), .val (.int z8), .val (.int z9), .val (.int (fx0 z9)), .val (.int (fx2 z9)), .val (.int (fx4 z9)), .val (.ref b2_0), .val (.ref b3_0), .val (.int z15), .unset, .unset, .unset, .unset, .unset] [])) rfl (hb hby at_125) (by decide) (by decide)
  obtain ⟨b5, g5⟩ : ∃ z, z = T3.heap.size := ⟨_, rfl⟩
  rw [← g5] at A5 D5 st5
  have g_b5 : n0 ≤ b5 := Nat.le_trans (own_sz O3) (Nat.le_of_eq g5.symm)
  have sz_b5 : h0.size ≤ b5 := Nat.le_trans K3.1 (Nat.le_of_eq g5.symm)
  have O5 := O3.ext E5
  have K5 : Keep h0 h5 [] := K3.ext E5
  have CH5 := CH3.trans (CHr.ext E5 CH3.1)
  have hk5 := Nat.le_trans hk3 E5.1
  have F_dataSchema_b5 : Fld Z h5 b5 "com/example/epcrtools/epcrtools/exchange/RuleSetKey" "dataSchema" "I" (.int (0 : Int32)) := D5 (Or.inr (wq hw 42 rfl)) (ty := .int) (by decide)
  have F_schemaVersion_b5 : Fld Z h5 b5 "com/example/epcrtools/epcrtools/exchange/RuleSetKey" "schemaVersion" "Ljava/lang/String;" .null := D5 (Or.inr (wq hw 49 rfl)) (ty := (.object "java/lang/String")) (by decide)
  obtain ⟨_, _, ⟨T6, L6, k6, n6⟩, -, X6, ⟨Lc6, hQ6, l6, y6, z6⟩, st6⟩ := X5.specialBack hx (y := y7) rfl hown3 (mvT hZ3 (wq hw 37 rfl)) (mvT hZ3 (wq hw 38 rfl)) (mvT hZ3 (wq hw 39 rfl)) (by decide) (backOf (W := 1) (rm17 l Z a0 hw [] cs_v hp b5 p0 b2_0 h5 n0 O5 A5 F_dataSchema_b5 F_schemaVersion_b5 g_b5 ((fq2_0.keep Kq3).ext E5)) hZ3 (wq hw 39 rfl) (wq hw 36 rfl) (by decide) (by decide)) (g := (mkF m 132 #[.val (.int p0), .val (.int p1), .val (.int p2), .val (.int p3), .val (.int p4), .val (.int (fx0 p2)), .val (.int (fx2 p2)), .val (.int (fx4 p2)), .val (.int z8), .val (.int z9), .val (.int (fx0 z9)), .val (.int (fx2 z9)), .val (.int (fx4 z9)), .val (.ref b2_0), .val (.ref b3_0), .val (.int z15), .unset, .unset, .unset, .unset, .unset] [(.ref b2_0), (.int p0), (.ref b5), (.ref b5)])) rfl (by rw [hml]; rfl) (Steps.refl _) (a := b5) (argsL := [(.int p0), (.ref b2_0)]) (rest := [(.ref b5)]) (lenOf pd_7 rfl) rfl (by show 2 * 0 + _ ≤ _; exact Nat.le_of_eq rfl) (hb hby at_132) (fun _ _ => ⟨rfl, e5, (by decide : 9 + 0 ≤ _), (by decide : 18 + 0 ≤ _)⟩)
  dsimp only [Pt.U, Pt.locs, Pt.cells, Pt.slots] at X6 l6 y6 z6 st6 hQ6
  subst l6 y6 z6
  obtain ⟨rfl, Nq6, Kq6, fq6_0, fq6_1, fq6_2⟩ := hQ6
  have N6 := Fr.app N3 Nq6
  have CH6 := CH5.trans (CHr.keep Kq6 (allS (Safe.exa hZ3.alike A5 (by decide) (by decide)) all0) CH5.1)
  have hk6 := Nat.le_trans hk5 Kq6.1
  have O6 := O5.keep Kq6 (allS g_b5 all0)
  have K6 : Keep h0 T6.heap [] := K5.trans Kq6 (allS (Or.inr sz_b5) all0)
  obtain ⟨T7, h7, X7, e7, E7, A7, D7, -, st7⟩ := newO X6 hx hZ3 hown3 (wq hw 34 rfl) (wq hw 35 rfl) (wq hw 36 rfl) rfl (g := (mkF m 167 #[.val (.int p0), .val (.int p1), .val (.int p2), .val (.int p3), .val (.int p4), .val (.int (fx0 p2)), .val (.int (fx2 p2)), .val (.int (fx4 p2)), .val (.int z8), .val (.int z9), .val (.int (fx0 z9)), .val (.int (fx2 z9)), .val (.int (fx4 z9)), .val (.ref b2_0), .val (.ref b3_0), .val (.int z15), .val (.ref b5), .val (.int (p4 &&& (3 : Int32))), .unset, .unset, .unset] [])) rfl (hb hby at_167) (by decide) (by decide)
  obtain ⟨b7, g7⟩ : ∃ z, z = T6.heap.size := ⟨_, rfl⟩
  rw [← g7] at A7 D7 st7
  have g_b7 : n0 ≤ b7 := Nat.le_trans (own_sz O6) (Nat.le_of_eq g7.symm)
  have sz_b7 : h0.size ≤ b7 := Nat.le_trans K6.1 (Nat.le_of_eq g7.symm)
  have O7 := O6.ext E7
  have K7 : Keep h0 h7 [] := K6.ext E7
  have CH7 := CH6.trans (CHr.ext E7 CH6.1)
  have hk7 := Nat.le_trans hk6 E7.1
  have F_dataSchema_b7 : Fld Z h7 b7 "com/example/epcrtools/epcrtools/exchange/RuleSetKey" "dataSchema" "I" (.int (0 : Int32)) := D7 (Or.inr (wq hw 42 rfl)) (ty := .int) (by decide)
  have F_schemaVersion_b7 : Fld Z h7 b7 "com/example/epcrtools/epcrtools/exchange/RuleSetKey" "schemaVersion" "Ljava/lang/String;" .null := D7 (Or.inr (wq hw 49 rfl)) (ty := (.object "java/lang/String")) (by decide)
  obtain ⟨_, _, ⟨T8, L8, k8, n8⟩, -, X8, ⟨Lc8, hQ8, l8, y8, z8⟩, st8⟩ := X7.specialBack hx (y := y7) rfl hown3 (mvT hZ3 (wq hw 37 rfl)) (mvT hZ3 (wq hw 38 rfl)) (mvT hZ3 (wq hw 39 rfl)) (by decide) (backOf (W := 1) (rm17 l Z a0 hw [] cs_v hp b7 z15 b3_0 h7 n0 O7 A7 F_dataSchema_b7 F_schemaVersion_b7 g_b7 (((fq3_0.ext E5).keep Kq6).ext E7)) hZ3 (wq hw 39 rfl) (wq hw 36 rfl) (by decide) (by decide)) (g := (mkF m 175 #[.val (.int p0), .val (.int p1), .val (.int p2), .val (.int p3), .val (.int p4), .val (.int (fx0 p2)), .val (.int (fx2 p2)), .val (.int (fx4 p2)), .val (.int z8), .val (.int z9), .val (.int (fx0 z9)), .val (.int (fx2 z9)), .val (.int (fx4 z9)), .val (.ref b2_0), .val (.ref b3_0), .val (.int z15), .val (.ref b5), .val (.int (p4 &&& (3 : Int32))), .unset, .unset, .unset] [(.ref b3_0), (.int z15), (.ref b7), (.ref b7)])) rfl (by rw [hml]; rfl) (Steps.refl _) (a := b7) (argsL := [(.int z15), (.ref b3_0)]) (rest := [(.ref b7)]) (lenOf pd_7 rfl) rfl (by show 2 * 0 + _ ≤ _; exact Nat.le_of_eq rfl) (hb hby at_175) (fun _ _ => ⟨rfl, e7, (by decide : 10 + 0 ≤ _), (by decide : 20 + 0 ≤ _)⟩)
  dsimp only [Pt.U, Pt.locs, Pt.cells, Pt.slots] at X8 l8 y8 z8 st8 hQ8
  subst l8 y8 z8
  obtain ⟨rfl, Nq8, Kq8, fq8_0, fq8_1, fq8_2⟩ := hQ8
  have N8 := Fr.app N6 Nq8
  have CH8 := CH7.trans (CHr.keep Kq8 (allS (Safe.exa hZ3.alike A7 (by decide) (by decide)) all0) CH7.1)
  have hk8 := Nat.le_trans hk7 Kq8.1
  have O8 := O7.keep Kq8 (allS g_b7 all0)
  have K8 : Keep h0 T8.heap [] := K7.trans Kq8 (allS (Or.inr sz_b7) all0)
  have f_9 := ((fq6_1.ext E7).keep Kq8 (ninS (Nat.ne_of_lt (Nat.lt_of_lt_of_le (A5.keep Kq6).lt (Nat.le_of_eq g7.symm))) nin0))
  have f_10 := ((fq6_2.ext E7).keep Kq8 (ninS (Nat.ne_of_lt (Nat.lt_of_lt_of_le (A5.keep Kq6).lt (Nat.le_of_eq g7.symm))) nin0))
  have f_11 := (((((fq2_1.keep Kq3 nin0).ext E5).keep Kq6 (ninS (Nat.ne_of_lt (Nat.lt_of_lt_of_le (fq2_0.keep Kq3).lt (Nat.le_of_eq g5.symm))) nin0)).ext E7).keep Kq8 (ninS (Nat.ne_of_lt (Nat.lt_of_lt_of_le (((fq2_0.keep Kq3).ext E5).keep Kq6).lt (Nat.le_of_eq g7.symm))) nin0))
  have f_12 := ((((fq3_1.ext E5).keep Kq6 (ninS (Nat.ne_of_lt (Nat.lt_of_lt_of_le fq3_0.lt (Nat.le_of_eq g5.symm))) nin0)).ext E7).keep Kq8 (ninS (Nat.ne_of_lt (Nat.lt_of_lt_of_le ((fq3_0.ext E5).keep Kq6).lt (Nat.le_of_eq g7.symm))) nin0))
  have f_13 := (((((fq2_2.keep Kq3 nin0).ext E5).keep Kq6 (ninS (Nat.ne_of_lt (Nat.lt_of_lt_of_le (fq2_0.keep Kq3).lt (Nat.le_of_eq g5.symm))) nin0)).ext E7).keep Kq8 (ninS (Nat.ne_of_lt (Nat.lt_of_lt_of_le (((fq2_0.keep Kq3).ext E5).keep Kq6).lt (Nat.le_of_eq g7.symm))) nin0))
  have f_14 := ((((fq3_2.ext E5).keep Kq6 (ninS (Nat.ne_of_lt (Nat.lt_of_lt_of_le fq3_0.lt (Nat.le_of_eq g5.symm))) nin0)).ext E7).keep Kq8 (ninS (Nat.ne_of_lt (Nat.lt_of_lt_of_le ((fq3_0.ext E5).keep Kq6).lt (Nat.le_of_eq g7.symm))) nin0))
  have f_15 := (((((fq2_3.keep Kq3 nin0).ext E5).keep Kq6 (ninS (Nat.ne_of_lt (Nat.lt_of_lt_of_le (fq2_3.keep Kq3 nin0).lt (Nat.le_of_eq g5.symm))) nin0)).ext E7).keep Kq8 (ninS (Nat.ne_of_lt (Nat.lt_of_lt_of_le (((fq2_3.keep Kq3 nin0).ext E5).keep Kq6 (ninS (Nat.ne_of_lt (Nat.lt_of_lt_of_le (fq2_3.keep Kq3 nin0).lt (Nat.le_of_eq g5.symm))) nin0)).lt (Nat.le_of_eq g7.symm))) nin0))
  have f_16 := ((((fq3_3.ext E5).keep Kq6 (ninS (Nat.ne_of_lt (Nat.lt_of_lt_of_le fq3_3.lt (Nat.le_of_eq g5.symm))) nin0)).ext E7).keep Kq8 (ninS (Nat.ne_of_lt (Nat.lt_of_lt_of_le ((fq3_3.ext E5).keep Kq6 (ninS (Nat.ne_of_lt (Nat.lt_of_lt_of_le fq3_3.lt (Nat.le_of_eq g5.symm))) nin0)).lt (Nat.le_of_eq g7.symm))) nin0))
  obtain ⟨cq17, kq17, q17a, q17b, q17c⟩ := isOf hZ3 rfl ((fq6_0.ext E7).keep Kq8)
  obtain ⟨_, _, ⟨T17, L17, k17, n17⟩, -, X17, ⟨Lc17, hQ17, l17, y17, z17⟩, st17⟩ := X8.virtualBack hx (y := y8) (z := y8) hown3 (mvT hZ3 (wq hw 50 rfl)) (mvT hZ3 (wq hw 51 rfl)) (notFace_of_selects (args := #[]) (mvT hZ3 (wq hw 53 rfl))) (mvT hZ3 (wq hw 53 rfl)) (mvT hZ3 (wq hw 52 rfl)) (by decide) (backOf (W := 0) (rm35 l Z a0 hw [] cs_v hp b5 b7 p0 z15 b2_0 b3_0 y2_0 y3_0 kc2_0 ((p2 &&& (3 : Int32)) % (3 : Int32)) ((((p2.toUInt32 >>> ((2 : Int32) &&& 31).toUInt32).toInt32) &&& (255 : Int32)).toUInt32.toUInt16.toUInt32.toInt32) ((((p2.toUInt32 >>> ((10 : Int32) &&& 31).toUInt32).toInt32) &&& (255 : Int32)).toUInt32.toUInt16.toUInt32.toInt32) kc3_0 ((z9 &&& (3 : Int32)) % (3 : Int32)) ((((z9.toUInt32 >>> ((2 : Int32) &&& 31).toUInt32).toInt32) &&& (255 : Int32)).toUInt32.toUInt16.toUInt32.toInt32) ((((z9.toUInt32 >>> ((10 : Int32) &&& 31).toUInt32).toInt32) &&& (255 : Int32)).toUInt32.toUInt16.toUInt32.toInt32) T8.heap n0 O8 fq8_0 f_9 fq8_1 hc7 f_10 fq8_2 (((((fq2_0.keep Kq3).ext E5).keep Kq6).ext E7).keep Kq8) ((((fq3_0.ext E5).keep Kq6).ext E7).keep Kq8) f_11 f_12 f_13 f_14 f_15 f_16 (by rw [own_mkE (own_rem (x := p2) (m := (3 : Int32)) (M := 3) rfl (by decide) (y := (3 : Int32)) (d := 3) rfl (by decide)) (own_rem (x := z9) (m := (3 : Int32)) (M := 3) rfl (by decide) (y := (3 : Int32)) (d := 3) rfl (by decide)), if_pos ⟨hc5, Or.inl hc6, Or.inl (own_lt12 hc6)⟩]; decide : ¬ ((mkE ((p2 &&& (3 : Int32)) % (3 : Int32)) ((((p2.toUInt32 >>> ((2 : Int32) &&& 31).toUInt32).toInt32) &&& (255 : Int32)).toUInt32.toUInt16.toUInt32.toInt32) ((((p2.toUInt32 >>> ((10 : Int32) &&& 31).toUInt32).toInt32) &&& (255 : Int32)).toUInt32.toUInt16.toUInt32.toInt32) ((z9 &&& (3 : Int32)) % (3 : Int32)) ((((z9.toUInt32 >>> ((2 : Int32) &&& 31).toUInt32).toInt32) &&& (255 : Int32)).toUInt32.toUInt16.toUInt32.toInt32) ((((z9.toUInt32 >>> ((10 : Int32) &&& 31).toUInt32).toInt32) &&& (255 : Int32)).toUInt32.toUInt16.toUInt32.toInt32)) = (0 : Int32))) (Nat.ne_of_lt (Nat.lt_of_lt_of_le fq2_0.lt sq_b3_0))) hZ3 (wq hw 54 rfl) (wq hw 36 rfl) (by decide) (by decide)) q17a q17c (g := (mkF m 254 #[.val (.int p0), .val (.int p1), .val (.int p2), .val (.int p3), .val (.int p4), .val (.int (fx0 p2)), .val (.int (fx2 p2)), .val (.int (fx4 p2)), .val (.int z8), .val (.int z9), .val (.int (fx0 z9)), .val (.int (fx2 z9)), .val (.int (fx4 z9)), .val (.ref b2_0), .val (.ref b3_0), .val (.int z15), .val (.ref b5), .val (.int (p4 &&& (3 : Int32))), .val (.ref b7), .val (.int (1 : Int32)), .val (.int (1 : Int32))] [(.ref b7), (.ref b5)])) rfl (by rw [hml]; rfl) (Steps.refl _) (argsL := [(.ref b7)]) (rest := []) (lenOf pd_8 rfl) rfl (by show 2 * 0 + _ ≤ _; exact Nat.le_of_eq rfl) (hb hby at_254) (fun _ _ => ⟨rfl, rfl, (by decide : 10 + 0 ≤ _), (by decide : 20 + 0 ≤ _)⟩)
  dsimp only [Pt.U, Pt.locs, Pt.cells, Pt.slots] at X17 l17 y17 z17 st17 hQ17
  subst l17 y17 z17
  obtain ⟨rfl, Nq17, eq17⟩ := hQ17
  have N17 := Fr.app N8 Nq17
  obtain ⟨fs, hr, hrun, hended, hE⟩ := Stand.leaveW (s := s) X17 hS3 (by rw [eq17]; exact hk8) (v := some (.int (1 : Int32))) (fun h => by rw [Bd.returns] at h; cases h)
  refine ⟨_, _, pre0 _ ?_, hrun, hended, _, _, rfl, ?_, hE.1, hE.2.1, hE.2.2.1, hE.2.2.2.mono (by decide) (by decide)⟩
  · show Sp p e below s₁ (mkF m 0 #[.val (.int p0), .val (.int p1), .val (.int p2), .val (.int p3), .val (.int p4), .unset, .unset, .unset, .unset, .unset, .unset, .unset, .unset, .unset, .unset, .unset, .unset, .unset, .unset, .unset, .unset] []) _
    refine XS.iloadN X0.here hx rfl (hb hby at_0) rfl ?_
    refine XS.iconst X0.here hx rfl (hb hby at_1) ?_
    refine XS.iand X0.here hx rfl (hb hby at_2) rfl ?_
    refine XS.iconst X0.here hx rfl (hb hby at_3) ?_
    show Sp p e below s₁ (mkF m 4 #[.val (.int p0), .val (.int p1), .val (.int p2), .val (.int p3), .val (.int p4), .unset, .unset, .unset, .unset, .unset, .unset, .unset, .unset, .unset, .unset, .unset, .unset, .unset, .unset, .unset, .unset] [(.int (3 : Int32)), (.int (p2 &&& (3 : Int32)))]) _
    refine iremM X0 hx rfl (hb hby at_4) rfl (by decide) ?_
    show Sp p e below s₁ (mkF m 5 #[.val (.int p0), .val (.int p1), .val (.int p2), .val (.int p3), .val (.int p4), .unset, .unset, .unset, .unset, .unset, .unset, .unset, .unset, .unset, .unset, .unset, .unset, .unset, .unset, .unset, .unset] [(.int (fx0 p2))]) _
    refine XS.istore X0.here hx rfl (hb hby at_5) rfl (l' := #[.val (.int p0), .val (.int p1), .val (.int p2), .val (.int p3), .val (.int p4), .val (.int (fx0 p2)), .unset, .unset, .unset, .unset, .unset, .unset, .unset, .unset, .unset, .unset, .unset, .unset, .unset, .unset, .unset]) rfl ?_
    refine XS.iloadN X0.here hx rfl (hb hby at_7) rfl ?_
    refine XS.iconst X0.here hx rfl (hb hby at_8) ?_
    refine XS.iushr X0.here hx rfl (hb hby at_9) rfl ?_
    show Sp p e below s₁ (mkF m 10 #[.val (.int p0), .val (.int p1), .val (.int p2), .val (.int p3), .val (.int p4), .val (.int (fx0 p2)), .unset, .unset, .unset, .unset, .unset, .unset, .unset, .unset, .unset, .unset, .unset, .unset, .unset, .unset, .unset] [(.int (fx1 p2))]) _
    refine XS.sipush X0.here hx rfl (hb hby at_10) ?_
    refine XS.iand X0.here hx rfl (hb hby at_13) rfl ?_
    refine XS.i2c X0.here hx rfl (hb hby at_14) rfl ?_
    refine XS.istore X0.here hx rfl (hb hby at_15) rfl (l' := #[.val (.int p0), .val (.int p1), .val (.int p2), .val (.int p3), .val (.int p4), .val (.int (fx0 p2)), .val (.int (fx2 p2)), .unset, .unset, .unset, .unset, .unset, .unset, .unset, .unset, .unset, .unset, .unset, .unset, .unset, .unset]) rfl ?_
    show Sp p e below s₁ (mkF m 17 #[.val (.int p0), .val (.int p1), .val (.int p2), .val (.int p3), .val (.int p4), .val (.int (fx0 p2)), .val (.int (fx2 p2)), .unset, .unset, .unset, .unset, .unset, .unset, .unset, .unset, .unset, .unset, .unset, .unset, .unset, .unset] []) _
    refine XS.iloadN X0.here hx rfl (hb hby at_17) rfl ?_
    refine XS.bipush X0.here hx rfl (hb hby at_18) ?_
    refine XS.iushr X0.here hx rfl (hb hby at_20) rfl ?_
    refine XS.sipush X0.here hx rfl (hb hby at_21) ?_
    show Sp p e below s₁ (mkF m 24 #[.val (.int p0), .val (.int p1), .val (.int p2), .val (.int p3), .val (.int p4), .val (.int (fx0 p2)), .val (.int (fx2 p2)), .unset, .unset, .unset, .unset, .unset, .unset, .unset, .unset, .unset, .unset, .unset, .unset, .unset, .unset] [(.int (255 : Int32)), (.int (fx3 p2))]) _
    refine XS.iand X0.here hx rfl (hb hby at_24) rfl ?_
    refine XS.i2c X0.here hx rfl (hb hby at_25) rfl ?_
    refine XS.istore X0.here hx rfl (hb hby at_26) rfl (l' := #[.val (.int p0), .val (.int p1), .val (.int p2), .val (.int p3), .val (.int p4), .val (.int (fx0 p2)), .val (.int (fx2 p2)), .val (.int (fx4 p2)), .unset, .unset, .unset, .unset, .unset, .unset, .unset, .unset, .unset, .unset, .unset, .unset, .unset]) rfl ?_
    show Sp p e below s₁ (mkF m 28 #[.val (.int p0), .val (.int p1), .val (.int p2), .val (.int p3), .val (.int p4), .val (.int (fx0 p2)), .val (.int (fx2 p2)), .val (.int (fx4 p2)), .unset, .unset, .unset, .unset, .unset, .unset, .unset, .unset, .unset, .unset, .unset, .unset, .unset] []) _
    refine st1 _ ?_
    show Sp p e below s₁ (mkF m 56 #[.val (.int p0), .val (.int p1), .val (.int p2), .val (.int p3), .val (.int p4), .val (.int (fx0 p2)), .val (.int (fx2 p2)), .val (.int (fx4 p2)), .val (.int z8), .val (.int z9), .unset, .unset, .unset, .unset, .unset, .unset, .unset, .unset, .unset, .unset, .unset] []) _
    refine XS.iload X0.here hx rfl (hb hby at_56) rfl ?_
    refine XS.iconst X0.here hx rfl (hb hby at_58) ?_
    refine XS.iand X0.here hx rfl (hb hby at_59) rfl ?_
    refine XS.iconst X0.here hx rfl (hb hby at_60) ?_
    show Sp p e below s₁ (mkF m 61 #[.val (.int p0), .val (.int p1), .val (.int p2), .val (.int p3), .val (.int p4), .val (.int (fx0 p2)), .val (.int (fx2 p2)), .val (.int (fx4 p2)), .val (.int z8), .val (.int z9), .unset, .unset, .unset, .unset, .unset, .unset, .unset, .unset, .unset, .unset, .unset] [(.int (3 : Int32)), (.int (z9 &&& (3 : Int32)))]) _
    refine iremM X0 hx rfl (hb hby at_61) rfl (by decide) ?_
    show Sp p e below s₁ (mkF m 62 #[.val (.int p0), .val (.int p1), .val (.int p2), .val (.int p3), .val (.int p4), .val (.int (fx0 p2)), .val (.int (fx2 p2)), .val (.int (fx4 p2)), .val (.int z8), .val (.int z9), .unset, .unset, .unset, .unset, .unset, .unset, .unset, .unset, .unset, .unset, .unset] [(.int (fx0 z9))]) _
    refine XS.istore X0.here hx rfl (hb hby at_62) rfl (l' := #[.val (.int p0), .val (.int p1), .val (.int p2), .val (.int p3), .val (.int p4), .val (.int (fx0 p2)), .val (.int (fx2 p2)), .val (.int (fx4 p2)), .val (.int z8), .val (.int z9), .val (.int (fx0 z9)), .unset, .unset, .unset, .unset, .unset, .unset, .unset, .unset, .unset, .unset]) rfl ?_
    refine XS.iload X0.here hx rfl (hb hby at_64) rfl ?_
    refine XS.iconst X0.here hx rfl (hb hby at_66) ?_
    refine XS.iushr X0.here hx rfl (hb hby at_67) rfl ?_
    show Sp p e below s₁ (mkF m 68 #[.val (.int p0), .val (.int p1), .val (.int p2), .val (.int p3), .val (.int p4), .val (.int (fx0 p2)), .val (.int (fx2 p2)), .val (.int (fx4 p2)), .val (.int z8), .val (.int z9), .val (.int (fx0 z9)), .unset, .unset, .unset, .unset, .unset, .unset, .unset, .unset, .unset, .unset] [(.int (fx1 z9))]) _
    refine XS.sipush X0.here hx rfl (hb hby at_68) ?_
    refine XS.iand X0.here hx rfl (hb hby at_71) rfl ?_
    refine XS.i2c X0.here hx rfl (hb hby at_72) rfl ?_
    refine XS.istore X0.here hx rfl (hb hby at_73) rfl (l' := #[.val (.int p0), .val (.int p1), .val (.int p2), .val (.int p3), .val (.int p4), .val (.int (fx0 p2)), .val (.int (fx2 p2)), .val (.int (fx4 p2)), .val (.int z8), .val (.int z9), .val (.int (fx0 z9)), .val (.int (fx2 z9)), .unset, .unset, .unset, .unset, .unset, .unset, .unset, .unset, .unset]) rfl ?_
    show Sp p e below s₁ (mkF m 75 #[.val (.int p0), .val (.int p1), .val (.int p2), .val (.int p3), .val (.int p4), .val (.int (fx0 p2)), .val (.int (fx2 p2)), .val (.int (fx4 p2)), .val (.int z8), .val (.int z9), .val (.int (fx0 z9)), .val (.int (fx2 z9)), .unset, .unset, .unset, .unset, .unset, .unset, .unset, .unset, .unset] []) _
    refine XS.iload X0.here hx rfl (hb hby at_75) rfl ?_
    refine XS.bipush X0.here hx rfl (hb hby at_77) ?_
    refine XS.iushr X0.here hx rfl (hb hby at_79) rfl ?_
    refine XS.sipush X0.here hx rfl (hb hby at_80) ?_
    show Sp p e below s₁ (mkF m 83 #[.val (.int p0), .val (.int p1), .val (.int p2), .val (.int p3), .val (.int p4), .val (.int (fx0 p2)), .val (.int (fx2 p2)), .val (.int (fx4 p2)), .val (.int z8), .val (.int z9), .val (.int (fx0 z9)), .val (.int (fx2 z9)), .unset, .unset, .unset, .unset, .unset, .unset, .unset, .unset, .unset] [(.int (255 : Int32)), (.int (fx3 z9))]) _
    refine XS.iand X0.here hx rfl (hb hby at_83) rfl ?_
    refine XS.i2c X0.here hx rfl (hb hby at_84) rfl ?_
    refine XS.istore X0.here hx rfl (hb hby at_85) rfl (l' := #[.val (.int p0), .val (.int p1), .val (.int p2), .val (.int p3), .val (.int p4), .val (.int (fx0 p2)), .val (.int (fx2 p2)), .val (.int (fx4 p2)), .val (.int z8), .val (.int z9), .val (.int (fx0 z9)), .val (.int (fx2 z9)), .val (.int (fx4 z9)), .unset, .unset, .unset, .unset, .unset, .unset, .unset, .unset]) rfl ?_
    refine XS.iload X0.here hx rfl (hb hby at_87) rfl ?_
    show Sp p e below s₁ (mkF m 89 #[.val (.int p0), .val (.int p1), .val (.int p2), .val (.int p3), .val (.int p4), .val (.int (fx0 p2)), .val (.int (fx2 p2)), .val (.int (fx4 p2)), .val (.int z8), .val (.int z9), .val (.int (fx0 z9)), .val (.int (fx2 z9)), .val (.int (fx4 z9)), .unset, .unset, .unset, .unset, .unset, .unset, .unset, .unset] [(.int (fx0 p2))]) _
    refine XS.iload X0.here hx rfl (hb hby at_89) rfl ?_
    refine XS.iload X0.here hx rfl (hb hby at_91) rfl ?_
    show Sp p e below s₁ (mkF m 93 #[.val (.int p0), .val (.int p1), .val (.int p2), .val (.int p3), .val (.int p4), .val (.int (fx0 p2)), .val (.int (fx2 p2)), .val (.int (fx4 p2)), .val (.int z8), .val (.int z9), .val (.int (fx0 z9)), .val (.int (fx2 z9)), .val (.int (fx4 z9)), .unset, .unset, .unset, .unset, .unset, .unset, .unset, .unset] [(.int (fx4 p2)), (.int (fx2 p2)), (.int (fx0 p2))]) _
    refine st2.trans ?_
    show Sp p e below T2 (mkF m 96 #[.val (.int p0), .val (.int p1), .val (.int p2), .val (.int p3), .val (.int p4), .val (.int (fx0 p2)), .val (.int (fx2 p2)), .val (.int (fx4 p2)), .val (.int z8), .val (.int z9), .val (.int (fx0 z9)), .val (.int (fx2 z9)), .val (.int (fx4 z9)), .unset, .unset, .unset, .unset, .unset, .unset, .unset, .unset] [(.ref b2_0)]) _
    refine XS.astore X2.here hx rfl (hb hby at_96) rfl rfl (l' := #[.val (.int p0), .val (.int p1), .val (.int p2), .val (.int p3), .val (.int p4), .val (.int (fx0 p2)), .val (.int (fx2 p2)), .val (.int (fx4 p2)), .val (.int z8), .val (.int z9), .val (.int (fx0 z9)), .val (.int (fx2 z9)), .val (.int (fx4 z9)), .val (.ref b2_0), .unset, .unset, .unset, .unset, .unset, .unset, .unset]) rfl ?_
    refine XS.iload X2.here hx rfl (hb hby at_98) rfl ?_
    refine XS.iload X2.here hx rfl (hb hby at_100) rfl ?_
    refine XS.iload X2.here hx rfl (hb hby at_102) rfl ?_
    show Sp p e below T2 (mkF m 104 #[.val (.int p0), .val (.int p1), .val (.int p2), .val (.int p3), .val (.int p4), .val (.int (fx0 p2)), .val (.int (fx2 p2)), .val (.int (fx4 p2)), .val (.int z8), .val (.int z9), .val (.int (fx0 z9)), .val (.int (fx2 z9)), .val (.int (fx4 z9)), .val (.ref b2_0), .unset, .unset, .unset, .unset, .unset, .unset, .unset] [(.int (fx4 z9)), (.int (fx2 z9)), (.int (fx0 z9))]) _
    refine st3.trans ?_
    show Sp p e below T3 (mkF m 107 #[.val (.int p0), .val (.int p1), .val (.int p2), .val (.int p3), .val (.int p4), .val (.int (fx0 p2)), .val (.int (fx2 p2)), .val (.int (fx4 p2)), .val (.int z8), .val (.int z9), .val (.int (fx0 z9)), .val (.int (fx2 z9)), .val (.int (fx4 z9)), .val (.ref b2_0), .unset, .unset, .unset, .unset, .unset, .unset, .unset] [(.ref b3_0)]) _
    refine XS.astore X3.here hx rfl (hb hby at_107) rfl rfl (l' := #[.val (.int p0), .val (.int p1), .val (.int p2), .val (.int p3), .val (.int p4), .val (.int (fx0 p2)), .val (.int (fx2 p2)), .val (.int (fx4 p2)), .val (.int z8), .val (.int z9), .val (.int (fx0 z9)), .val (.int (fx2 z9)), .val (.int (fx4 z9)), .val (.ref b2_0), .val (.ref b3_0), .unset, .unset, .unset, .unset, .unset, .unset]) rfl ?_
    show Sp p e below T3 (mkF m 109 #[.val (.int p0), .val (.int p1), .val (.int p2), .val (.int p3), .val (.int p4), .val (.int (fx0 p2)), .val (.int (fx2 p2)), .val (.int (fx4 p2)), .val (.int z8), .val (.int z9), .val (.int (fx0 z9)), .val (.int (fx2 z9)), .val (.int (fx4 z9)), .val (.ref b2_0), .val (.ref b3_0), .unset, .unset, .unset, .unset, .unset, .unset] []) _
    refine st4 _ ?_
    show Sp p e below T3 (mkF m 125 #[.val (.int p0), .val (.int p1), .val (.int p2), .val (.int p3), .val (.int p4), .val (.int (fx0 p2)), .val (.int (fx2 p2)), .val (.int (fx4 p2)), .val (.int z8), .val (.int z9), .val (.int (fx0 z9)), .val (.int (fx2 z9)), .val (.int (fx4 z9)), .val (.ref b2_0), .val (.ref b3_0), .val (.int z15), .unset, .unset, .unset, .unset, .unset] []) _
    refine st5 _ ?_
    show Sp p e below T5 (mkF m 128 #[.val (.int p0), .val (.int p1), .val (.int p2), .val (.int p3), .val (.int p4), .val (.int (fx0 p2)), .val (.int (fx2 p2)), .val (.int (fx4 p2)), .val (.int z8), .val (.int z9), .val (.int (fx0 z9)), .val (.int (fx2 z9)), .val (.int (fx4 z9)), .val (.ref b2_0), .val (.ref b3_0), .val (.int z15), .unset, .unset, .unset, .unset, .unset] [(.ref b5)]) _
    refine XS.dup X5.here hx rfl (hb hby at_128) rfl rfl ?_
    refine XS.iloadN X5.here hx rfl (hb hby at_129) rfl ?_
    refine XS.aload X5.here hx rfl (hb hby at_130) rfl rfl ?_
    show Sp p e below T5 (mkF m 132 #[.val (.int p0), .val (.int p1), .val (.int p2), .val (.int p3), .val (.int p4), .val (.int (fx0 p2)), .val (.int (fx2 p2)), .val (.int (fx4 p2)), .val (.int z8), .val (.int z9), .val (.int (fx0 z9)), .val (.int (fx2 z9)), .val (.int (fx4 z9)), .val (.ref b2_0), .val (.ref b3_0), .val (.int z15), .unset, .unset, .unset, .unset, .unset] [(.ref b2_0), (.int p0), (.ref b5), (.ref b5)]) _
    refine st6.trans ?_
    show Sp p e below T6 (mkF m 135 #[.val (.int p0), .val (.int p1), .val (.int p2), .val (.int p3), .val (.int p4), .val (.int (fx0 p2)), .val (.int (fx2 p2)), .val (.int (fx4 p2)), .val (.int z8), .val (.int z9), .val (.int (fx0 z9)), .val (.int (fx2 z9)), .val (.int (fx4 z9)), .val (.ref b2_0), .val (.ref b3_0), .val (.int z15), .unset, .unset, .unset, .unset, .unset] [(.ref b5)]) _
    refine XS.astore X6.here hx rfl (hb hby at_135) rfl rfl (l' := #[.val (.int p0), .val (.int p1), .val (.int p2), .val (.int p3), .val (.int p4), .val (.int (fx0 p2)), .val (.int (fx2 p2)), .val (.int (fx4 p2)), .val (.int z8), .val (.int z9), .val (.int (fx0 z9)), .val (.int (fx2 z9)), .val (.int (fx4 z9)), .val (.ref b2_0), .val (.ref b3_0), .val (.int z15), .val (.ref b5), .unset, .unset, .unset, .unset]) rfl ?_
    refine XS.iload X6.here hx rfl (hb hby at_137) rfl ?_
    refine XS.iconst X6.here hx rfl (hb hby at_139) ?_
    refine XS.iand X6.here hx rfl (hb hby at_140) rfl ?_
    show Sp p e below T6 (mkF m 141 #[.val (.int p0), .val (.int p1), .val (.int p2), .val (.int p3), .val (.int p4), .val (.int (fx0 p2)), .val (.int (fx2 p2)), .val (.int (fx4 p2)), .val (.int z8), .val (.int z9), .val (.int (fx0 z9)), .val (.int (fx2 z9)), .val (.int (fx4 z9)), .val (.ref b2_0), .val (.ref b3_0), .val (.int z15), .val (.ref b5), .unset, .unset, .unset, .unset] [(.int (p4 &&& (3 : Int32)))]) _
    refine XS.istore X6.here hx rfl (hb hby at_141) rfl (l' := #[.val (.int p0), .val (.int p1), .val (.int p2), .val (.int p3), .val (.int p4), .val (.int (fx0 p2)), .val (.int (fx2 p2)), .val (.int (fx4 p2)), .val (.int z8), .val (.int z9), .val (.int (fx0 z9)), .val (.int (fx2 z9)), .val (.int (fx4 z9)), .val (.ref b2_0), .val (.ref b3_0), .val (.int z15), .val (.ref b5), .val (.int (p4 &&& (3 : Int32))), .unset, .unset, .unset]) rfl ?_
    refine XS.iload X6.here hx rfl (hb hby at_143) rfl ?_
    refine XS.ifYes X6.here hx rfl (pc0 := 145) (pc' := 154) rfl (hb hby at_145) rfl ((if0 _ _).trans (feq hc3).2) (by decide) (by decide) ?_
    refine XS.iload X6.here hx rfl (hb hby at_154) rfl ?_
    show Sp p e below T6 (mkF m 156 #[.val (.int p0), .val (.int p1), .val (.int p2), .val (.int p3), .val (.int p4), .val (.int (fx0 p2)), .val (.int (fx2 p2)), .val (.int (fx4 p2)), .val (.int z8), .val (.int z9), .val (.int (fx0 z9)), .val (.int (fx2 z9)), .val (.int (fx4 z9)), .val (.ref b2_0), .val (.ref b3_0), .val (.int z15), .val (.ref b5), .val (.int (p4 &&& (3 : Int32))), .unset, .unset, .unset] [(.int (p4 &&& (3 : Int32)))]) _
    refine XS.iconst X6.here hx rfl (hb hby at_156) ?_
    refine XS.icmpYes X6.here hx rfl (pc0 := 157) (pc' := 167) rfl (hb hby at_157) rfl (feq hc4).2 (by decide) (by decide) ?_
    show Sp p e below T6 (mkF m 167 #[.val (.int p0), .val (.int p1), .val (.int p2), .val (.int p3), .val (.int p4), .val (.int (fx0 p2)), .val (.int (fx2 p2)), .val (.int (fx4 p2)), .val (.int z8), .val (.int z9), .val (.int (fx0 z9)), .val (.int (fx2 z9)), .val (.int (fx4 z9)), .val (.ref b2_0), .val (.ref b3_0), .val (.int z15), .val (.ref b5), .val (.int (p4 &&& (3 : Int32))), .unset, .unset, .unset] []) _
    refine st7 _ ?_
    show Sp p e below T7 (mkF m 170 #[.val (.int p0), .val (.int p1), .val (.int p2), .val (.int p3), .val (.int p4), .val (.int (fx0 p2)), .val (.int (fx2 p2)), .val (.int (fx4 p2)), .val (.int z8), .val (.int z9), .val (.int (fx0 z9)), .val (.int (fx2 z9)), .val (.int (fx4 z9)), .val (.ref b2_0), .val (.ref b3_0), .val (.int z15), .val (.ref b5), .val (.int (p4 &&& (3 : Int32))), .unset, .unset, .unset] [(.ref b7)]) _
    refine XS.dup X7.here hx rfl (hb hby at_170) rfl rfl ?_
    refine XS.iload X7.here hx rfl (hb hby at_171) rfl ?_
    refine XS.aload X7.here hx rfl (hb hby at_173) rfl rfl ?_
    show Sp p e below T7 (mkF m 175 #[.val (.int p0), .val (.int p1), .val (.int p2), .val (.int p3), .val (.int p4), .val (.int (fx0 p2)), .val (.int (fx2 p2)), .val (.int (fx4 p2)), .val (.int z8), .val (.int z9), .val (.int (fx0 z9)), .val (.int (fx2 z9)), .val (.int (fx4 z9)), .val (.ref b2_0), .val (.ref b3_0), .val (.int z15), .val (.ref b5), .val (.int (p4 &&& (3 : Int32))), .unset, .unset, .unset] [(.ref b3_0), (.int z15), (.ref b7), (.ref b7)]) _
    refine st8.trans ?_
    show Sp p e below T8 (mkF m 178 #[.val (.int p0), .val (.int p1), .val (.int p2), .val (.int p3), .val (.int p4), .val (.int (fx0 p2)), .val (.int (fx2 p2)), .val (.int (fx4 p2)), .val (.int z8), .val (.int z9), .val (.int (fx0 z9)), .val (.int (fx2 z9)), .val (.int (fx4 z9)), .val (.ref b2_0), .val (.ref b3_0), .val (.int z15), .val (.ref b5), .val (.int (p4 &&& (3 : Int32))), .unset, .unset, .unset] [(.ref b7)]) _
    refine XS.astore X8.here hx rfl (hb hby at_178) rfl rfl (l' := #[.val (.int p0), .val (.int p1), .val (.int p2), .val (.int p3), .val (.int p4), .val (.int (fx0 p2)), .val (.int (fx2 p2)), .val (.int (fx4 p2)), .val (.int z8), .val (.int z9), .val (.int (fx0 z9)), .val (.int (fx2 z9)), .val (.int (fx4 z9)), .val (.ref b2_0), .val (.ref b3_0), .val (.int z15), .val (.ref b5), .val (.int (p4 &&& (3 : Int32))), .val (.ref b7), .unset, .unset]) rfl ?_
    refine XS.iload X8.here hx rfl (hb hby at_180) rfl ?_
    refine XS.iconst X8.here hx rfl (hb hby at_182) ?_
    refine XS.icmpYes X8.here hx rfl (pc0 := 183) (pc' := 192) rfl (hb hby at_183) rfl (flt (own_nlti (n := 2) rfl (by have r := (own_and (x := p4) (m := (3 : Int32)) (M := 3) rfl (by decide)); have q0 := own_nei hc3 (n := 0) rfl; have q1 := own_nei hc4 (n := 1) rfl; omega) : ¬ ((p4 &&& (3 : Int32)) < (2 : Int32)))).2.1 (by decide) (by decide) ?_
    show Sp p e below T8 (mkF m 192 #[.val (.int p0), .val (.int p1), .val (.int p2), .val (.int p3), .val (.int p4), .val (.int (fx0 p2)), .val (.int (fx2 p2)), .val (.int (fx4 p2)), .val (.int z8), .val (.int z9), .val (.int (fx0 z9)), .val (.int (fx2 z9)), .val (.int (fx4 z9)), .val (.ref b2_0), .val (.ref b3_0), .val (.int z15), .val (.ref b5), .val (.int (p4 &&& (3 : Int32))), .val (.ref b7), .unset, .unset] []) _
    refine XS.iload X8.here hx rfl (hb hby at_192) rfl ?_
    refine XS.iload X8.here hx rfl (hb hby at_194) rfl ?_
    refine XS.icmpNo X8.here hx rfl (hb hby at_196) rfl (teq hc5).2 ?_
    refine XS.iload X8.here hx rfl (hb hby at_199) rfl ?_
    show Sp p e below T8 (mkF m 201 #[.val (.int p0), .val (.int p1), .val (.int p2), .val (.int p3), .val (.int p4), .val (.int (fx0 p2)), .val (.int (fx2 p2)), .val (.int (fx4 p2)), .val (.int z8), .val (.int z9), .val (.int (fx0 z9)), .val (.int (fx2 z9)), .val (.int (fx4 z9)), .val (.ref b2_0), .val (.ref b3_0), .val (.int z15), .val (.ref b5), .val (.int (p4 &&& (3 : Int32))), .val (.ref b7), .unset, .unset] [(.int (fx0 p2))]) _
    refine XS.iconst X8.here hx rfl (hb hby at_201) ?_
    refine XS.icmpYes X8.here hx rfl (pc0 := 202) (pc' := 212) rfl (hb hby at_202) rfl (tlt hc6).1 (by decide) (by decide) ?_
    refine XS.iload X8.here hx rfl (hb hby at_212) rfl ?_
    refine XS.iconst X8.here hx rfl (hb hby at_214) ?_
    show Sp p e below T8 (mkF m 215 #[.val (.int p0), .val (.int p1), .val (.int p2), .val (.int p3), .val (.int p4), .val (.int (fx0 p2)), .val (.int (fx2 p2)), .val (.int (fx4 p2)), .val (.int z8), .val (.int z9), .val (.int (fx0 z9)), .val (.int (fx2 z9)), .val (.int (fx4 z9)), .val (.ref b2_0), .val (.ref b3_0), .val (.int z15), .val (.ref b5), .val (.int (p4 &&& (3 : Int32))), .val (.ref b7), .unset, .unset] [(.int (2 : Int32)), (.int (fx0 p2))]) _
    refine XS.icmpYes X8.here hx rfl (pc0 := 215) (pc' := 225) rfl (hb hby at_215) rfl (tlt (own_lt12 hc6)).1 (by decide) (by decide) ?_
    refine XS.iconst X8.here hx rfl (hb hby at_225) ?_
    refine XS.goto X8.here hx rfl (pc0 := 226) (pc' := 230) rfl (hb hby at_226) (by decide) (by decide) ?_
    refine XS.istore X8.here hx rfl (hb hby at_230) rfl (l' := #[.val (.int p0), .val (.int p1), .val (.int p2), .val (.int p3), .val (.int p4), .val (.int (fx0 p2)), .val (.int (fx2 p2)), .val (.int (fx4 p2)), .val (.int z8), .val (.int z9), .val (.int (fx0 z9)), .val (.int (fx2 z9)), .val (.int (fx4 z9)), .val (.ref b2_0), .val (.ref b3_0), .val (.int z15), .val (.ref b5), .val (.int (p4 &&& (3 : Int32))), .val (.ref b7), .unset, .val (.int (1 : Int32))]) rfl ?_
    show Sp p e below T8 (mkF m 232 #[.val (.int p0), .val (.int p1), .val (.int p2), .val (.int p3), .val (.int p4), .val (.int (fx0 p2)), .val (.int (fx2 p2)), .val (.int (fx4 p2)), .val (.int z8), .val (.int z9), .val (.int (fx0 z9)), .val (.int (fx2 z9)), .val (.int (fx4 z9)), .val (.ref b2_0), .val (.ref b3_0), .val (.int z15), .val (.ref b5), .val (.int (p4 &&& (3 : Int32))), .val (.ref b7), .unset, .val (.int (1 : Int32))] []) _
    refine XS.iloadN X8.here hx rfl (hb hby at_232) rfl ?_
    refine XS.iload X8.here hx rfl (hb hby at_233) rfl ?_
    refine XS.icmpNo X8.here hx rfl (hb hby at_235) rfl (teq hc7).2 ?_
    refine XS.iload X8.here hx rfl (hb hby at_238) rfl ?_
    show Sp p e below T8 (mkF m 240 #[.val (.int p0), .val (.int p1), .val (.int p2), .val (.int p3), .val (.int p4), .val (.int (fx0 p2)), .val (.int (fx2 p2)), .val (.int (fx4 p2)), .val (.int z8), .val (.int z9), .val (.int (fx0 z9)), .val (.int (fx2 z9)), .val (.int (fx4 z9)), .val (.ref b2_0), .val (.ref b3_0), .val (.int z15), .val (.ref b5), .val (.int (p4 &&& (3 : Int32))), .val (.ref b7), .unset, .val (.int (1 : Int32))] [(.int (1 : Int32))]) _
    refine XS.ifNo X8.here hx rfl (hb hby at_240) rfl ((if0 _ _).trans (feq (by decide : ¬ ((1 : Int32) = (0 : Int32)))).1) ?_
    refine XS.iconst X8.here hx rfl (hb hby at_243) ?_
    refine XS.goto X8.here hx rfl (pc0 := 244) (pc' := 248) rfl (hb hby at_244) (by decide) (by decide) ?_
    refine XS.istore X8.here hx rfl (hb hby at_248) rfl (l' := #[.val (.int p0), .val (.int p1), .val (.int p2), .val (.int p3), .val (.int p4), .val (.int (fx0 p2)), .val (.int (fx2 p2)), .val (.int (fx4 p2)), .val (.int z8), .val (.int z9), .val (.int (fx0 z9)), .val (.int (fx2 z9)), .val (.int (fx4 z9)), .val (.ref b2_0), .val (.ref b3_0), .val (.int z15), .val (.ref b5), .val (.int (p4 &&& (3 : Int32))), .val (.ref b7), .val (.int (1 : Int32)), .val (.int (1 : Int32))]) rfl ?_
    show Sp p e below T8 (mkF m 250 #[.val (.int p0), .val (.int p1), .val (.int p2), .val (.int p3), .val (.int p4), .val (.int (fx0 p2)), .val (.int (fx2 p2)), .val (.int (fx4 p2)), .val (.int z8), .val (.int z9), .val (.int (fx0 z9)), .val (.int (fx2 z9)), .val (.int (fx4 z9)), .val (.ref b2_0), .val (.ref b3_0), .val (.int z15), .val (.ref b5), .val (.int (p4 &&& (3 : Int32))), .val (.ref b7), .val (.int (1 : Int32)), .val (.int (1 : Int32))] []) _
    refine XS.aload X8.here hx rfl (hb hby at_250) rfl rfl ?_
    refine XS.aload X8.here hx rfl (hb hby at_252) rfl rfl ?_
    show Sp p e below T8 (mkF m 254 #[.val (.int p0), .val (.int p1), .val (.int p2), .val (.int p3), .val (.int p4), .val (.int (fx0 p2)), .val (.int (fx2 p2)), .val (.int (fx4 p2)), .val (.int z8), .val (.int z9), .val (.int (fx0 z9)), .val (.int (fx2 z9)), .val (.int (fx4 z9)), .val (.ref b2_0), .val (.ref b3_0), .val (.int z15), .val (.ref b5), .val (.int (p4 &&& (3 : Int32))), .val (.ref b7), .val (.int (1 : Int32)), .val (.int (1 : Int32))] [(.ref b7), (.ref b5)]) _
    refine st17.trans ?_
    show Sp p e below T17 (mkF m 257 #[.val (.int p0), .val (.int p1), .val (.int p2), .val (.int p3), .val (.int p4), .val (.int (fx0 p2)), .val (.int (fx2 p2)), .val (.int (fx4 p2)), .val (.int z8), .val (.int z9), .val (.int (fx0 z9)), .val (.int (fx2 z9)), .val (.int (fx4 z9)), .val (.ref b2_0), .val (.ref b3_0), .val (.int z15), .val (.ref b5), .val (.int (p4 &&& (3 : Int32))), .val (.ref b7), .val (.int (1 : Int32)), .val (.int (1 : Int32))] [(.int (1 : Int32))]) _
    refine XS.iload X17.here hx rfl (hb hby at_257) rfl ?_
    refine XS.icmpNo X17.here hx rfl (hb hby at_259) rfl (teq (by decide : (1 : Int32) = (1 : Int32))).2 ?_
    refine XS.iconst X17.here hx rfl (hb hby at_262) ?_
    refine XS.goto X17.here hx rfl (pc0 := 263) (pc' := 267) rfl (hb hby at_263) (by decide) (by decide) ?_
    show Sp p e below T17 (mkF m 267 #[.val (.int p0), .val (.int p1), .val (.int p2), .val (.int p3), .val (.int p4), .val (.int (fx0 p2)), .val (.int (fx2 p2)), .val (.int (fx4 p2)), .val (.int z8), .val (.int z9), .val (.int (fx0 z9)), .val (.int (fx2 z9)), .val (.int (fx4 z9)), .val (.ref b2_0), .val (.ref b3_0), .val (.int z15), .val (.ref b5), .val (.int (p4 &&& (3 : Int32))), .val (.ref b7), .val (.int (1 : Int32)), .val (.int (1 : Int32))] [(.int (1 : Int32))]) _
    exact retN X17 hx (t := .boolean) Bd.returns (by simp) (hb hby at_267) hr
  · skip
    exact ⟨rfl, N17⟩
theorem d11_54 : decode jdk_42_method_66_code 54 = .ok (.iconst 0, 1) := by decide +kernel
def Q37 (Z : State) (cs_v : Int32) (a1 : Addr) (a2 : Addr) (a3 : Addr) (a4 : Addr) (k_a3 : ClassId) (p6 : Int32) (p7 : Int32) (p8 : Int32) (k_a4 : ClassId) (p10 : Int32) (p11 : Int32) (p12 : Int32) (h0 : Heap) (n0 : Nat) (v : Option Value) (h : Heap) (L : List Loc) : Prop := v = some (.int (0 : Int32)) ∧ Fr n0 L ∧ h = h0
set_option maxRecDepth 65536 in
set_option maxHeartbeats 40000000 in
theorem rm37 (l : Launch) (Z : State) (a0 : Array Value) (hw : ∀ d ∈ tables_1, d.before a0 Z = true) (ws : List Jvm.Cond) (cs_v : Int32) (hp : Perm Z cs_v) (a1 : Addr) (a2 : Addr) (a3 : Addr) (a4 : Addr) (k_a3 : ClassId) (p6 : Int32) (p7 : Int32) (p8 : Int32) (k_a4 : ClassId) (p10 : Int32) (p11 : Int32) (p12 : Int32) (h0 : Heap) (n0 : Nat) (O0 : Old Z n0 h0) (ne_a1_a2 : a1 ≠ a2) (E_a2 : Exa Z h0 a2 "java/lang/String") (F_coder_a1 : Fld Z h0 a1 "java/lang/String" "coder" "B" (.int (0 : Int32))) (F_coder_a2 : Fld Z h0 a2 "java/lang/String" "coder" "B" (.int (0 : Int32))) (F_value_a1 : Fld Z h0 a1 "java/lang/String" "value" "[B" (.ref a3)) (F_value_a2 : Fld Z h0 a2 "java/lang/String" "value" "[B" (.ref a4)) (V_a3 : Arv Z h0 a3 k_a3 .byte (mkN p6) (mkV p6 p7 p8) (.int (0 : Int32))) (V_a4 : Arv Z h0 a4 k_a4 .byte (mkN p10) (mkV p10 p11 p12) (.int (0 : Int32))) (hc9 : (mkE p6 p7 p8 p10 p11 p12) = (0 : Int32)) :
    MetFree l y10 (head1 (Jvm.Cond.code y10 jdk_42_method_66_code 3 (some .boolean) :: ws) ({ frames := 1, cells := 0, slots := 0, locals := 14 } : Room)) (fun a U => a = #[(.ref a1), (.ref a2)] ∧ Z.Warmed39 U.vm ∧ U.heap = h0) (fun _ _ _ _ _ => True) (fun _ U o U' => ∃ v L, o = .returned v ∧ Q37 Z cs_v a1 a2 a3 a4 k_a3 p6 p7 p8 k_a4 p10 p11 p12 h0 n0 v U'.heap L ∧ FrameEnd U o U' L ({ frames := 1, cells := 0, slots := 0, locals := 14 } : Room).cells ({ frames := 1, cells := 0, slots := 0, locals := 14 } : Room).slots) := by
  refine MetFree.of_bodySF (plainFor_of_name pn_3) hisR ?_
  intro p e s m args below meth c s₁ Bd hml0 hP hK
  obtain ⟨rfl, hZ, hh⟩ := hP
  have hx := Bd.exec
  have hby := Bd.bytes
  have hml : c.maxLocals = 3 := hml0
  have hown : s.vm.findClass "java/lang/String" = some m.cls := findClass_of_methodNamed Bd.named
  have hnm := (name_of_methodNamed Bd.named Bd.method).1
  have X0 : Stand p l e ({ frames := 1, cells := 0, slots := 0, locals := 14 } : Room) s m #[(.ref a1), (.ref a2)] below meth c s₁ [] 0 0 := Stand.of_body Bd
  have e0 : s₁.heap = h0 := by rw [← hh, Bd.state]; rfl
  have N0 := Fr.nil n0
  have hp' := hp
  obtain ⟨S_COMPACT_STRINGS, h_cs⟩ := hp'
  have pre0 : ∀ t, Steps p.tables e below (s₁.setTop (mkF m 0 #[.val (.ref a1), .val (.ref a2), .unset] [])) t → Steps p.tables e below (s₁.setTop (entryFrame m #[(.ref a1), (.ref a2)] 3)) t := fun t k => castTop (ef_11_0 m a1 a2) k
  obtain ⟨T1, X1, e1, st1⟩ := instY X0 hx hZ hown (wq hw 65 rfl) e0 (Ins.self E_a2) (g := (mkF m 8 #[.val (.ref a1), .val (.ref a2), .unset] [(.ref a2)])) rfl rfl (hb hby d11_8)
  obtain ⟨T2, X2, e2, st2⟩ := castY X1 hx hZ hown (wq hw 65 rfl) e1 (Ins.self E_a2) (g := (mkF m 15 #[.val (.ref a1), .val (.ref a2), .unset] [(.ref a2)])) rfl rfl (hb hby d11_15)
  obtain ⟨T3, X3, e3, st3⟩ := getS2 X2 hx hZ hown (host := "") (Or.inl (wq hw 18 rfl)) Via.refl e2 (S_COMPACT_STRINGS.ext O0.2) (g := (mkF m 19 #[.val (.ref a1), .val (.ref a2), .val (.ref a2)] [])) rfl (hb hby d11_19)
  obtain ⟨T4, X4, e4, st4⟩ := getF X3 hx hZ hown (host := "") (Or.inl (wq hw 30 rfl)) Via.refl e3 F_coder_a1 (g := (mkF m 26 #[.val (.ref a1), .val (.ref a2), .val (.ref a2)] [(.ref a1)])) rfl rfl (hb hby d11_26)
  obtain ⟨T5, X5, e5, st5⟩ := getF X4 hx hZ hown (host := "") (Or.inl (wq hw 30 rfl)) Via.refl e4 F_coder_a2 (g := (mkF m 30 #[.val (.ref a1), .val (.ref a2), .val (.ref a2)] [(.ref a2), (.int (0 : Int32))])) rfl rfl (hb hby d11_30)
  obtain ⟨T6, X6, e6, st6⟩ := getF X5 hx hZ hown (host := "") (Or.inl (wq hw 32 rfl)) Via.refl e5 F_value_a1 (g := (mkF m 37 #[.val (.ref a1), .val (.ref a2), .val (.ref a2)] [(.ref a1)])) rfl rfl (hb hby d11_37)
  obtain ⟨T7, X7, e7, st7⟩ := getF X6 hx hZ hown (host := "") (Or.inl (wq hw 32 rfl)) Via.refl e6 F_value_a2 (g := (mkF m 41 #[.val (.ref a1), .val (.ref a2), .val (.ref a2)] [(.ref a2), (.ref a3)])) rfl rfl (hb hby d11_41)
  obtain ⟨_, _, ⟨T8, L8, k8, n8⟩, -, X8, ⟨Lc8, hQ8, l8, y8, z8⟩, st8⟩ := Jvm.LawKit.callS X7 hx (y := y9) hown (mvT hZ (wq hw 66 rfl)) (mvT hZ (wq hw 67 rfl)) (mvT hZ (wq hw 68 rfl)) (mvT hZ (wq hw 69 rfl)) (by decide) (backOf (W := 0) (rmE12 l Z a0 hw [] cs_v hp a3 a4 k_a3 k_a4 p6 p7 p8 p10 p11 p12 h0 n0 O0 V_a3 V_a4) hZ (wq hw 69 rfl) (wq hw 68 rfl) (by decide) (by decide)) (g := (mkF m 44 #[.val (.ref a1), .val (.ref a2), .val (.ref a2)] [(.ref a4), (.ref a3)])) rfl (by rw [hml]; rfl) (argsL := [(.ref a3), (.ref a4)]) (rest := []) (lenOf pd_9 rfl) rfl (by show 2 * 0 + _ ≤ _; exact Nat.le_of_eq rfl) (hb hby d11_44) (fun _ _ => ⟨rfl, e7, (by decide : 0 + 0 ≤ _), (by decide : 0 + 0 ≤ _)⟩)
  dsimp only [Pt.U, Pt.locs, Pt.cells, Pt.slots] at X8 l8 y8 z8 st8 hQ8
  subst l8 y8 z8
  obtain ⟨rfl, Nq8, eq8⟩ := hQ8
  have N8 := Fr.app N0 Nq8
  obtain ⟨fs, hr, hrun, hended, hW, hsame⟩ := X8.leave (v := some (.int (0 : Int32))) (fun h => by rw [Bd.returns] at h; cases h)
  refine ⟨_, _, pre0 _ ?_, hrun, hended, _, _, rfl, ?_, ⟨_, rfl⟩, hW, hsame.mono (by decide) (by decide)⟩
  · show Sp p e below s₁ (mkF m 0 #[.val (.ref a1), .val (.ref a2), .unset] []) _
    refine XS.aloadN X0.here hx rfl (hb hby d11_0) rfl rfl ?_
    refine XS.aloadN X0.here hx rfl (hb hby d11_1) rfl rfl ?_
    show Sp p e below s₁ (mkF m 2 #[.val (.ref a1), .val (.ref a2), .unset] [(.ref a2), (.ref a1)]) _
    refine Jvm.RoadKit.acmp (g := (mkF m 2 #[.val (.ref a1), .val (.ref a2), .unset] [(.ref a2), (.ref a1)])) X0 hx rfl rfl rfl (pc0 := 2) (pc' := 7) (same := false) rfl (hb hby d11_2) rfl (decide_eq_false fun q => ne_a1_a2 (Value.ref.inj q)) (by decide) (by decide) ?_
    show Sp p e below s₁ (mkF m 7 #[.val (.ref a1), .val (.ref a2), .unset] []) _
    refine XS.aloadN X0.here hx rfl (hb hby d11_7) rfl rfl ?_
    show Sp p e below s₁ (mkF m 8 #[.val (.ref a1), .val (.ref a2), .unset] [(.ref a2)]) _
    refine st1 _ ?_
    show Sp p e below T1 (mkF m 11 #[.val (.ref a1), .val (.ref a2), .unset] [(.int (1 : Int32))]) _
    refine XS.ifNo X1.here hx rfl (hb hby d11_11) rfl ((if0 _ _).trans (feq (by decide : ¬ ((1 : Int32) = (0 : Int32)))).1) ?_
    refine XS.aloadN X1.here hx rfl (hb hby d11_14) rfl rfl ?_
    show Sp p e below T1 (mkF m 15 #[.val (.ref a1), .val (.ref a2), .unset] [(.ref a2)]) _
    refine st2 _ ?_
    show Sp p e below T2 (mkF m 18 #[.val (.ref a1), .val (.ref a2), .unset] [(.ref a2)]) _
    refine XS.astoreN X2.here hx rfl (hb hby d11_18) rfl rfl (l' := #[.val (.ref a1), .val (.ref a2), .val (.ref a2)]) rfl ?_
    show Sp p e below T2 (mkF m 19 #[.val (.ref a1), .val (.ref a2), .val (.ref a2)] []) _
    refine st3 _ ?_
    show Sp p e below T3 (mkF m 22 #[.val (.ref a1), .val (.ref a2), .val (.ref a2)] [(.int cs_v)]) _
    refine XS.ifNo X3.here hx rfl (hb hby d11_22) rfl ((if0 _ _).trans (feq h_cs).1) ?_
    refine XS.aloadN X3.here hx rfl (hb hby d11_25) rfl rfl ?_
    show Sp p e below T3 (mkF m 26 #[.val (.ref a1), .val (.ref a2), .val (.ref a2)] [(.ref a1)]) _
    refine st4 _ ?_
    show Sp p e below T4 (mkF m 29 #[.val (.ref a1), .val (.ref a2), .val (.ref a2)] [(.int (0 : Int32))]) _
    refine XS.aloadN X4.here hx rfl (hb hby d11_29) rfl rfl ?_
    show Sp p e below T4 (mkF m 30 #[.val (.ref a1), .val (.ref a2), .val (.ref a2)] [(.ref a2), (.int (0 : Int32))]) _
    refine st5 _ ?_
    show Sp p e below T5 (mkF m 33 #[.val (.ref a1), .val (.ref a2), .val (.ref a2)] [(.int (0 : Int32)), (.int (0 : Int32))]) _
    refine XS.icmpNo X5.here hx rfl (hb hby d11_33) rfl (teq (by decide : (0 : Int32) = (0 : Int32))).2 ?_
    refine XS.aloadN X5.here hx rfl (hb hby d11_36) rfl rfl ?_
    show Sp p e below T5 (mkF m 37 #[.val (.ref a1), .val (.ref a2), .val (.ref a2)] [(.ref a1)]) _
    refine st6 _ ?_
    show Sp p e below T6 (mkF m 40 #[.val (.ref a1), .val (.ref a2), .val (.ref a2)] [(.ref a3)]) _
    refine XS.aloadN X6.here hx rfl (hb hby d11_40) rfl rfl ?_
    show Sp p e below T6 (mkF m 41 #[.val (.ref a1), .val (.ref a2), .val (.ref a2)] [(.ref a2), (.ref a3)]) _
    refine st7 _ ?_
    show Sp p e below T7 (mkF m 44 #[.val (.ref a1), .val (.ref a2), .val (.ref a2)] [(.ref a4), (.ref a3)]) _
    refine st8 _ ?_
    show Sp p e below T8 (mkF m 47 #[.val (.ref a1), .val (.ref a2), .val (.ref a2)] [(.int (fx10 p6 p7 p8 p10 p11 p12))]) _
    refine XS.ifYes X8.here hx rfl (pc0 := 47) (pc' := 54) rfl (hb hby d11_47) rfl ((if0 _ _).trans (teq hc9).1) (by decide) (by decide) ?_
    refine XS.iconst X8.here hx rfl (hb hby d11_54) ?_
    show Sp p e below T8 (mkF m 55 #[.val (.ref a1), .val (.ref a2), .val (.ref a2)] [(.int (0 : Int32))]) _
    exact retN X8 hx (t := .boolean) Bd.returns (by simp) (hb hby d11_55) hr
  · show Q37 Z cs_v a1 a2 a3 a4 k_a3 p6 p7 p8 k_a4 p10 p11 p12 h0 n0 _ T8.heap _
    rw [eq8]
    exact ⟨rfl, N8, rfl⟩
theorem d10_43 : decode prog_8_method_4_code 43 = .ok (.iconst 0, 1) := by decide +kernel
def Q38 (Z : State) (cs_v : Int32) (a1 : Addr) (a2 : Addr) (p3 : Int32) (p4 : Int32) (a5 : Addr) (a6 : Addr) (a7 : Addr) (a8 : Addr) (k_a7 : ClassId) (p10 : Int32) (p11 : Int32) (p12 : Int32) (k_a8 : ClassId) (p14 : Int32) (p15 : Int32) (p16 : Int32) (h0 : Heap) (n0 : Nat) (v : Option Value) (h : Heap) (L : List Loc) : Prop := v = some (.int (0 : Int32)) ∧ Fr n0 L ∧ h = h0
set_option maxRecDepth 65536 in
set_option maxHeartbeats 40000000 in
theorem rm38 (l : Launch) (Z : State) (a0 : Array Value) (hw : ∀ d ∈ tables_1, d.before a0 Z = true) (ws : List Jvm.Cond) (cs_v : Int32) (hp : Perm Z cs_v) (a1 : Addr) (a2 : Addr) (p3 : Int32) (p4 : Int32) (a5 : Addr) (a6 : Addr) (a7 : Addr) (a8 : Addr) (k_a7 : ClassId) (p10 : Int32) (p11 : Int32) (p12 : Int32) (k_a8 : ClassId) (p14 : Int32) (p15 : Int32) (p16 : Int32) (h0 : Heap) (n0 : Nat) (O0 : Old Z n0 h0) (E_a2 : Exa Z h0 a2 "com/example/epcrtools/epcrtools/exchange/RuleSetKey") (F_dataSchema_a1 : Fld Z h0 a1 "com/example/epcrtools/epcrtools/exchange/RuleSetKey" "dataSchema" "I" (.int p3)) (F_dataSchema_a2 : Fld Z h0 a2 "com/example/epcrtools/epcrtools/exchange/RuleSetKey" "dataSchema" "I" (.int p4)) (hc4 : p3 = p4) (F_schemaVersion_a1 : Fld Z h0 a1 "com/example/epcrtools/epcrtools/exchange/RuleSetKey" "schemaVersion" "Ljava/lang/String;" (.ref a5)) (F_schemaVersion_a2 : Fld Z h0 a2 "com/example/epcrtools/epcrtools/exchange/RuleSetKey" "schemaVersion" "Ljava/lang/String;" (.ref a6)) (E_a5 : Exa Z h0 a5 "java/lang/String") (E_a6 : Exa Z h0 a6 "java/lang/String") (F_coder_a5 : Fld Z h0 a5 "java/lang/String" "coder" "B" (.int (0 : Int32))) (F_coder_a6 : Fld Z h0 a6 "java/lang/String" "coder" "B" (.int (0 : Int32))) (F_value_a5 : Fld Z h0 a5 "java/lang/String" "value" "[B" (.ref a7)) (F_value_a6 : Fld Z h0 a6 "java/lang/String" "value" "[B" (.ref a8)) (V_a7 : Arv Z h0 a7 k_a7 .byte (mkN p10) (mkV p10 p11 p12) (.int (0 : Int32))) (V_a8 : Arv Z h0 a8 k_a8 .byte (mkN p14) (mkV p14 p15 p16) (.int (0 : Int32))) (hc15 : (mkE p10 p11 p12 p14 p15 p16) = (0 : Int32)) (ne_a5_a6 : a5 ≠ a6) :
    MetFree l y8 (head1 (Jvm.Cond.code y8 prog_8_method_4_code 3 (some .boolean) :: ws) ({ frames := 2, cells := 0, slots := 0, locals := 28 } : Room)) (fun a U => a = #[(.ref a1), (.ref a2)] ∧ Z.Warmed39 U.vm ∧ U.heap = h0) (fun _ _ _ _ _ => True) (fun _ U o U' => ∃ v L, o = .returned v ∧ Q38 Z cs_v a1 a2 p3 p4 a5 a6 a7 a8 k_a7 p10 p11 p12 k_a8 p14 p15 p16 h0 n0 v U'.heap L ∧ FrameEnd U o U' L ({ frames := 2, cells := 0, slots := 0, locals := 28 } : Room).cells ({ frames := 2, cells := 0, slots := 0, locals := 28 } : Room).slots) := by
  refine MetFree.of_bodySF (plainFor_of_name pn_8) hisR ?_
  intro p e s m args below meth c s₁ Bd hml0 hP hK
  obtain ⟨rfl, hZ, hh⟩ := hP
  have hx := Bd.exec
  have hby := Bd.bytes
  have hml : c.maxLocals = 3 := hml0
  have hown : s.vm.findClass "com/example/epcrtools/epcrtools/exchange/RuleSetKey" = some m.cls := findClass_of_methodNamed Bd.named
  have hnm := (name_of_methodNamed Bd.named Bd.method).1
  have X0 : Stand p l e ({ frames := 2, cells := 0, slots := 0, locals := 28 } : Room) s m #[(.ref a1), (.ref a2)] below meth c s₁ [] 0 0 := Stand.of_body Bd
  have e0 : s₁.heap = h0 := by rw [← hh, Bd.state]; rfl
  have N0 := Fr.nil n0
  have hp' := hp
  obtain ⟨S_COMPACT_STRINGS, h_cs⟩ := hp'
  have pre0 : ∀ t, Steps p.tables e below (s₁.setTop (mkF m 0 #[.val (.ref a1), .val (.ref a2), .unset] [])) t → Steps p.tables e below (s₁.setTop (entryFrame m #[(.ref a1), (.ref a2)] 3)) t := fun t k => castTop (ef_10_1 m a1 a2) k
  obtain ⟨T1, X1, e1, st1⟩ := instY X0 hx hZ hown (wq hw 58 rfl) e0 (Ins.self E_a2) (g := (mkF m 1 #[.val (.ref a1), .val (.ref a2), .unset] [(.ref a2)])) rfl rfl (hb hby d10_1)
  obtain ⟨T2, X2, e2, st2⟩ := castY X1 hx hZ hown (wq hw 58 rfl) e1 (Ins.self E_a2) (g := (mkF m 10 #[.val (.ref a1), .val (.ref a2), .unset] [(.ref a2)])) rfl rfl (hb hby d10_10)
  obtain ⟨T3, X3, e3, st3⟩ := getF X2 hx hZ hown (host := "") (Or.inl (wq hw 41 rfl)) Via.refl e2 F_dataSchema_a1 (g := (mkF m 15 #[.val (.ref a1), .val (.ref a2), .val (.ref a2)] [(.ref a1)])) rfl rfl (hb hby d10_15)
  obtain ⟨T4, X4, e4, st4⟩ := getF X3 hx hZ hown (host := "") (Or.inl (wq hw 41 rfl)) Via.refl e3 F_dataSchema_a2 (g := (mkF m 19 #[.val (.ref a1), .val (.ref a2), .val (.ref a2)] [(.ref a2), (.int p3)])) rfl rfl (hb hby d10_19)
  obtain ⟨T5, X5, e5, st5⟩ := getF X4 hx hZ hown (host := "") (Or.inl (wq hw 48 rfl)) Via.refl e4 F_schemaVersion_a1 (g := (mkF m 26 #[.val (.ref a1), .val (.ref a2), .val (.ref a2)] [(.ref a1)])) rfl rfl (hb hby d10_26)
  obtain ⟨T6, X6, e6, st6⟩ := getF X5 hx hZ hown (host := "") (Or.inl (wq hw 48 rfl)) Via.refl e5 F_schemaVersion_a2 (g := (mkF m 30 #[.val (.ref a1), .val (.ref a2), .val (.ref a2)] [(.ref a2), (.ref a5)])) rfl rfl (hb hby d10_30)
  obtain ⟨cq7, kq7, q7a, q7b, q7c⟩ := isOf hZ e6 E_a5
  obtain ⟨_, _, ⟨T7, L7, k7, n7⟩, -, X7, ⟨Lc7, hQ7, l7, y7, z7⟩, st7⟩ := X6.virtualBack hx (y := y10) (z := y10) hown (mvT hZ (wq hw 60 rfl)) (mvT hZ (wq hw 61 rfl)) (notFace_of_selects (args := #[]) (mvT hZ (wq hw 63 rfl))) (mvT hZ (wq hw 63 rfl)) (mvT hZ (wq hw 62 rfl)) (by decide) (backOf (W := 0) (rm37 l Z a0 hw [] cs_v hp a5 a6 a7 a8 k_a7 p10 p11 p12 k_a8 p14 p15 p16 h0 n0 O0 ne_a5_a6 E_a6 F_coder_a5 F_coder_a6 F_value_a5 F_value_a6 V_a7 V_a8 hc15) hZ (wq hw 64 rfl) (wq hw 6 rfl) (by decide) (by decide)) q7a q7c (g := (mkF m 33 #[.val (.ref a1), .val (.ref a2), .val (.ref a2)] [(.ref a6), (.ref a5)])) rfl (by rw [hml]; rfl) (Steps.refl _) (argsL := [(.ref a6)]) (rest := []) (lenOf pd_8 rfl) rfl (by show 2 * 0 + _ ≤ _; exact Nat.le_of_eq rfl) (hb hby d10_33) (fun _ _ => ⟨rfl, e6, (by decide : 0 + 0 ≤ _), (by decide : 0 + 0 ≤ _)⟩)
  dsimp only [Pt.U, Pt.locs, Pt.cells, Pt.slots] at X7 l7 y7 z7 st7 hQ7
  subst l7 y7 z7
  obtain ⟨rfl, Nq7, eq7⟩ := hQ7
  have N7 := Fr.app N0 Nq7
  obtain ⟨fs, hr, hrun, hended, hW, hsame⟩ := X7.leave (v := some (.int (0 : Int32))) (fun h => by rw [Bd.returns] at h; cases h)
  refine ⟨_, _, pre0 _ ?_, hrun, hended, _, _, rfl, ?_, ⟨_, rfl⟩, hW, hsame.mono (by decide) (by decide)⟩
  · show Sp p e below s₁ (mkF m 0 #[.val (.ref a1), .val (.ref a2), .unset] []) _
    refine XS.aloadN X0.here hx rfl (hb hby d10_0) rfl rfl ?_
    show Sp p e below s₁ (mkF m 1 #[.val (.ref a1), .val (.ref a2), .unset] [(.ref a2)]) _
    refine st1 _ ?_
    show Sp p e below T1 (mkF m 4 #[.val (.ref a1), .val (.ref a2), .unset] [(.int (1 : Int32))]) _
    refine XS.ifYes X1.here hx rfl (pc0 := 4) (pc' := 9) rfl (hb hby d10_4) rfl ((if0 _ _).trans (feq (by decide : ¬ ((1 : Int32) = (0 : Int32)))).2) (by decide) (by decide) ?_
    refine XS.aloadN X1.here hx rfl (hb hby d10_9) rfl rfl ?_
    show Sp p e below T1 (mkF m 10 #[.val (.ref a1), .val (.ref a2), .unset] [(.ref a2)]) _
    refine st2 _ ?_
    show Sp p e below T2 (mkF m 13 #[.val (.ref a1), .val (.ref a2), .unset] [(.ref a2)]) _
    refine XS.astoreN X2.here hx rfl (hb hby d10_13) rfl rfl (l' := #[.val (.ref a1), .val (.ref a2), .val (.ref a2)]) rfl ?_
    refine XS.aloadN X2.here hx rfl (hb hby d10_14) rfl rfl ?_
    show Sp p e below T2 (mkF m 15 #[.val (.ref a1), .val (.ref a2), .val (.ref a2)] [(.ref a1)]) _
    refine st3 _ ?_
    show Sp p e below T3 (mkF m 18 #[.val (.ref a1), .val (.ref a2), .val (.ref a2)] [(.int p3)]) _
    refine XS.aloadN X3.here hx rfl (hb hby d10_18) rfl rfl ?_
    show Sp p e below T3 (mkF m 19 #[.val (.ref a1), .val (.ref a2), .val (.ref a2)] [(.ref a2), (.int p3)]) _
    refine st4 _ ?_
    show Sp p e below T4 (mkF m 22 #[.val (.ref a1), .val (.ref a2), .val (.ref a2)] [(.int p4), (.int p3)]) _
    refine XS.icmpNo X4.here hx rfl (hb hby d10_22) rfl (teq hc4).2 ?_
    refine XS.aloadN X4.here hx rfl (hb hby d10_25) rfl rfl ?_
    show Sp p e below T4 (mkF m 26 #[.val (.ref a1), .val (.ref a2), .val (.ref a2)] [(.ref a1)]) _
    refine st5 _ ?_
    show Sp p e below T5 (mkF m 29 #[.val (.ref a1), .val (.ref a2), .val (.ref a2)] [(.ref a5)]) _
    refine XS.aloadN X5.here hx rfl (hb hby d10_29) rfl rfl ?_
    show Sp p e below T5 (mkF m 30 #[.val (.ref a1), .val (.ref a2), .val (.ref a2)] [(.ref a2), (.ref a5)]) _
    refine st6 _ ?_
    show Sp p e below T6 (mkF m 33 #[.val (.ref a1), .val (.ref a2), .val (.ref a2)] [(.ref a6), (.ref a5)]) _
    refine st7.trans ?_
    show Sp p e below T7 (mkF m 36 #[.val (.ref a1), .val (.ref a2), .val (.ref a2)] [(.int (0 : Int32))]) _
    refine XS.ifYes X7.here hx rfl (pc0 := 36) (pc' := 43) rfl (hb hby d10_36) rfl ((if0 _ _).trans (teq (by decide : (0 : Int32) = (0 : Int32))).1) (by decide) (by decide) ?_
    refine XS.iconst X7.here hx rfl (hb hby d10_43) ?_
    show Sp p e below T7 (mkF m 44 #[.val (.ref a1), .val (.ref a2), .val (.ref a2)] [(.int (0 : Int32))]) _
    exact retN X7 hx (t := .boolean) Bd.returns (by simp) (hb hby d10_44) hr
  · show Q38 Z cs_v a1 a2 p3 p4 a5 a6 a7 a8 k_a7 p10 p11 p12 k_a8 p14 p15 p16 h0 n0 _ T7.heap _
    rw [eq7]
    exact ⟨rfl, N7, rfl⟩
set_option maxRecDepth 65536 in
set_option maxHeartbeats 40000000 in
theorem rm39 (l : Launch) (Z : State) (a0 : Array Value) (hw : ∀ d ∈ tables_1, d.before a0 Z = true) (ws : List Jvm.Cond) (cs_v : Int32) (hp : Perm Z cs_v) (p0 : Int32) (p1 : Int32) (p2 : Int32) (p3 : Int32) (p4 : Int32) (z8 : Int32) (z9 : Int32) (z15 : Int32) (h0 : Heap) (n0 : Nat) (O0 : Old Z n0 h0) (hcut28 : Cut_0_28 p0 p1 p2 p3 p4 ((p2 &&& (3 : Int32)) % (3 : Int32)) ((((p2.toUInt32 >>> ((2 : Int32) &&& 31).toUInt32).toInt32) &&& (255 : Int32)).toUInt32.toUInt16.toUInt32.toInt32) ((((p2.toUInt32 >>> ((10 : Int32) &&& 31).toUInt32).toInt32) &&& (255 : Int32)).toUInt32.toUInt16.toUInt32.toInt32) z8 z9) (hcut109 : Cut_0_109 p0 p1 p2 p3 p4 ((p2 &&& (3 : Int32)) % (3 : Int32)) ((((p2.toUInt32 >>> ((2 : Int32) &&& 31).toUInt32).toInt32) &&& (255 : Int32)).toUInt32.toUInt16.toUInt32.toInt32) ((((p2.toUInt32 >>> ((10 : Int32) &&& 31).toUInt32).toInt32) &&& (255 : Int32)).toUInt32.toUInt16.toUInt32.toInt32) z8 z9 ((z9 &&& (3 : Int32)) % (3 : Int32)) ((((z9.toUInt32 >>> ((2 : Int32) &&& 31).toUInt32).toInt32) &&& (255 : Int32)).toUInt32.toUInt16.toUInt32.toInt32) ((((z9.toUInt32 >>> ((10 : Int32) &&& 31).toUInt32).toInt32) &&& (255 : Int32)).toUInt32.toUInt16.toUInt32.toInt32) z15) (hc3 : ¬ ((p4 &&& (3 : Int32)) = (0 : Int32))) (hc4 : ¬ ((p4 &&& (3 : Int32)) = (1 : Int32))) (hc5 : ¬ (((p2 &&& (3 : Int32)) % (3 : Int32)) = ((z9 &&& (3 : Int32)) % (3 : Int32)))) (hc6 : p0 = z15) :
    MetFree l x (head1 (Jvm.Cond.code x code maxLocals ret :: ws) room_1) (fun a U => a = #[(.int p0), (.int p1), (.int p2), (.int p3), (.int p4)] ∧ Z.Warmed39 U.vm ∧ U.heap = h0 ∧ CHv Z own_EL U.vm h0) (fun _ _ _ _ _ => True) (fun _ U o U' => ∃ v L, o = .returned v ∧ (v = some (.int (1 : Int32)) ∧ Fr n0 L) ∧ ReturnedEndW U o U' L 32 1152) := by
  refine MetFree.of_bodySF (plainFor_of_name pn_1) hisR ?_
  intro p e s m args below meth c s₁ Bd hml0 hP hK
  obtain ⟨rfl, hZo, hh, hCH⟩ := hP
  have hx := Bd.exec
  have hby := Bd.bytes
  have hml : c.maxLocals = 21 := hml0
  have hown : (s.setVm s.vm).vm.findClass "com/example/epcrtools/epcrtools/exchange/RuleSetKeyEqualsPinLaw" = some m.cls := findClass_of_methodNamed Bd.named
  have hnm := (name_of_methodNamed Bd.named Bd.method).1
  have X0 : Stand p l e room_1 (s.setVm s.vm) m #[(.int p0), (.int p1), (.int p2), (.int p3), (.int p4)] below meth c s₁ [] 0 0 := Stand.of_body Bd
  have e0 : s₁.heap = h0 := by rw [← hh, Bd.state]; rfl
  have N0 := Fr.nil n0
  have hZ : Z.Warmed39 (s.setVm s.vm).vm := hZo
  have CH0 := CHr.refl hCH
  have hS0 : s.Since s.vm 0 := (State.WarmedH.refl s).since 0
  have hk0 : 0 ≤ h0.size := Nat.zero_le _
  have hp' := hp
  obtain ⟨S_COMPACT_STRINGS, h_cs⟩ := hp'
  have pre0 : ∀ t, Steps p.tables e below (s₁.setTop (mkF m 0 #[.val (.int p0), .val (.int p1), .val (.int p2), .val (.int p3), .val (.int p4), .unset, .unset, .unset, .unset, .unset, .unset, .unset, .unset, .unset, .unset, .unset, .unset, .unset, .unset, .unset, .unset] [])) t → Steps p.tables e below (s₁.setTop (entryFrame m #[(.int p0), (.int p1), (.int p2), (.int p3), (.int p4)] maxLocals)) t := fun t k => castTop (ef_0_0 m p0 p1 p2 p3 p4) k
  have st1 := hcut28 X0 hx hZ hw hby hown
  obtain ⟨_, _, ⟨T2, L2, k2, n2⟩, -, XX2, Sq2, gq2, ⟨Lc2, hQ2, l2, y2, z2, C2⟩, st2⟩ := callSS X0 hx (y := y2) hown (mvT hZ (wq hw 0 rfl)) (mvT hZ (wq hw 1 rfl)) (mvT hZ (wq hw 2 rfl)) (mvT hZ (wq hw 3 rfl)) (by decide) (own_backC (SL := []) (W := 0) (rmS1 l Z a0 hw [] cs_v hp ((p2 &&& (3 : Int32)) % (3 : Int32)) ((((p2.toUInt32 >>> ((2 : Int32) &&& 31).toUInt32).toInt32) &&& (255 : Int32)).toUInt32.toUInt16.toUInt32.toInt32) ((((p2.toUInt32 >>> ((10 : Int32) &&& 31).toUInt32).toInt32) &&& (255 : Int32)).toUInt32.toUInt16.toUInt32.toInt32) h0 n0 O0 (own_ch2 ((p2.toUInt32 >>> ((2 : Int32) &&& 31).toUInt32).toInt32)) (own_ch2 ((p2.toUInt32 >>> ((10 : Int32) &&& 31).toUInt32).toInt32))) hZ (wq hw 3 rfl) (wq hw 2 rfl) (by decide) (by decide) (own_EW hw) CH0.1 all0) (g := (mkF m 93 #[.val (.int p0), .val (.int p1), .val (.int p2), .val (.int p3), .val (.int p4), .val (.int (fx0 p2)), .val (.int (fx2 p2)), .val (.int (fx4 p2)), .val (.int z8), .val (.int z9), .val (.int (fx0 z9)), .val (.int (fx2 z9)), .val (.int (fx4 z9)), .unset, .unset, .unset, .unset, .unset, .unset, .unset, .unset] [(.int (fx4 p2)), (.int (fx2 p2)), (.int (fx0 p2))])) rfl (by rw [hml]; rfl) (argsL := [(.int (fx0 p2)), (.int (fx2 p2)), (.int (fx4 p2))]) (rest := []) (lenOf pd_5 rfl) rfl (by show 2 * 0 + _ ≤ _; exact Nat.le_of_eq rfl) (hb hby at_93) (fun _ _ => ⟨rfl, e0, (by decide : 0 + 4 ≤ _), (by decide : 0 + 8 ≤ _)⟩)
  dsimp only [Pt.U, Pt.locs, Pt.cells, Pt.slots] at XX2 Sq2 gq2 l2 y2 z2 st2 hQ2 C2
  subst l2 y2 z2
  obtain ⟨X2, hS2, hZ2, hown2⟩ := rebS hS0 (by rw [e0]; exact hk0) XX2 Sq2 gq2 hZ hown
  obtain ⟨b2_0, y2_0, kc2_0, rfl, Nq2, Kq2, sq_b2_0, fq2_0, fq2_1, fq2_2, fq2_3⟩ := hQ2
  have N2 := Fr.app N0 Nq2
  have g_b2_0 : n0 ≤ b2_0 := Nat.le_trans (own_sz O0) sq_b2_0
  have sz_b2_0 : h0.size ≤ b2_0 := Nat.le_trans (Keep.refl h0 []).1 sq_b2_0
  have CH2 := CH0.trans C2
  have hk2 : T2.heap.size ≤ T2.heap.size := Nat.le_refl _
  have O2 := O0.keep Kq2 all0
  have K2 : Keep h0 T2.heap [] := (Keep.refl h0 []).trans Kq2 all0
  obtain ⟨_, _, ⟨T3, L3, k3, n3⟩, -, XX3, Sq3, gq3, ⟨Lc3, hQ3, l3, y3, z3, C3⟩, st3⟩ := callSS X2 hx (y := y2) hown2 (mvT hZ2 (wq hw 0 rfl)) (mvT hZ2 (wq hw 1 rfl)) (mvT hZ2 (wq hw 2 rfl)) (mvT hZ2 (wq hw 3 rfl)) (by decide) (own_backC (SL := []) (W := 0) (rmS1 l Z a0 hw [] cs_v hp ((z9 &&& (3 : Int32)) % (3 : Int32)) ((((z9.toUInt32 >>> ((2 : Int32) &&& 31).toUInt32).toInt32) &&& (255 : Int32)).toUInt32.toUInt16.toUInt32.toInt32) ((((z9.toUInt32 >>> ((10 : Int32) &&& 31).toUInt32).toInt32) &&& (255 : Int32)).toUInt32.toUInt16.toUInt32.toInt32) T2.heap n0 O2 (own_ch2 ((z9.toUInt32 >>> ((2 : Int32) &&& 31).toUInt32).toInt32)) (own_ch2 ((z9.toUInt32 >>> ((10 : Int32) &&& 31).toUInt32).toInt32))) hZ2 (wq hw 3 rfl) (wq hw 2 rfl) (by decide) (by decide) (own_EW hw) CH2.1 all0) (g := (mkF m 104 #[.val (.int p0), .val (.int p1), .val (.int p2), .val (.int p3), .val (.int p4), .val (.int (fx0 p2)), .val (.int (fx2 p2)), .val (.int (fx4 p2)), .val (.int z8), .val (.int z9), .val (.int (fx0 z9)), .val (.int (fx2 z9)), .val (.int (fx4 z9)), .val (.ref b2_0), .unset, .unset, .unset, .unset, .unset, .unset, .unset] [(.int (fx4 z9)), (.int (fx2 z9)), (.int (fx0 z9))])) rfl (by rw [hml]; rfl) (argsL := [(.int (fx0 z9)), (.int (fx2 z9)), (.int (fx4 z9))]) (rest := []) (lenOf pd_5 rfl) rfl (by show 2 * 0 + _ ≤ _; exact Nat.le_of_eq rfl) (hb hby at_104) (fun _ _ => ⟨rfl, rfl, (by decide : 4 + 4 ≤ _), (by decide : 8 + 8 ≤ _)⟩)
  dsimp only [Pt.U, Pt.locs, Pt.cells, Pt.slots] at XX3 Sq3 gq3 l3 y3 z3 st3 hQ3 C3
  subst l3 y3 z3
  obtain ⟨X3, hS3, hZ3, hown3⟩ := rebS hS2 hk2 XX3 Sq3 gq3 hZ2 hown2
  obtain ⟨b3_0, y3_0, kc3_0, rfl, Nq3, Kq3, sq_b3_0, fq3_0, fq3_1, fq3_2, fq3_3⟩ := hQ3
  have N3 := Fr.app N2 Nq3
  have g_b3_0 : n0 ≤ b3_0 := Nat.le_trans (own_sz O2) sq_b3_0
  have sz_b3_0 : h0.size ≤ b3_0 := Nat.le_trans K2.1 sq_b3_0
  have CH3 := CH2.trans C3
  have hk3 : T3.heap.size ≤ T3.heap.size := Nat.le_refl _
  have O3 := O2.keep Kq3 all0
  have K3 : Keep h0 T3.heap [] := K2.trans Kq3 all0
  have st4 := hcut109 b2_0 b3_0 X3 hx hZ3 hw hby hown3
  obtain ⟨T5, h5, X5, e5, E5, A5, D5, -, st5⟩ := newO X3 hx hZ3 hown3 (wq hw 34 rfl) (wq hw 35 rfl) (wq hw 36 rfl) rfl (g := (mkF m 125 #[.val (.int p0), .val (.int p1), .val (.int p2), .val (.int p3), .val (.int p4), .val (.int (fx0 p2)), .val (.int (fx2 p2)), .val (.int (fx4 p2)), .val (.int z8), .val (.int z9), .val (.int (fx0 z9)), .val (.int (fx2 z9)), .val (.int (fx4 z9)), .val (.ref b2_0), .val (.ref b3_0), .val (.int z15), .unset, .unset, .unset, .unset, .unset] [])) rfl (hb hby at_125) (by decide) (by decide)
  obtain ⟨b5, g5⟩ : ∃ z, z = T3.heap.size := ⟨_, rfl⟩
  rw [← g5] at A5 D5 st5
  have g_b5 : n0 ≤ b5 := Nat.le_trans (own_sz O3) (Nat.le_of_eq g5.symm)
  have sz_b5 : h0.size ≤ b5 := Nat.le_trans K3.1 (Nat.le_of_eq g5.symm)
  have O5 := O3.ext E5
  have K5 : Keep h0 h5 [] := K3.ext E5
  have CH5 := CH3.trans (CHr.ext E5 CH3.1)
  have hk5 := Nat.le_trans hk3 E5.1
  have F_dataSchema_b5 : Fld Z h5 b5 "com/example/epcrtools/epcrtools/exchange/RuleSetKey" "dataSchema" "I" (.int (0 : Int32)) := D5 (Or.inr (wq hw 42 rfl)) (ty := .int) (by decide)
  have F_schemaVersion_b5 : Fld Z h5 b5 "com/example/epcrtools/epcrtools/exchange/RuleSetKey" "schemaVersion" "Ljava/lang/String;" .null := D5 (Or.inr (wq hw 49 rfl)) (ty := (.object "java/lang/String")) (by decide)
  obtain ⟨_, _, ⟨T6, L6, k6, n6⟩, -, X6, ⟨Lc6, hQ6, l6, y6, z6⟩, st6⟩ := X5.specialBack hx (y := y7) rfl hown3 (mvT hZ3 (wq hw 37 rfl)) (mvT hZ3 (wq hw 38 rfl)) (mvT hZ3 (wq hw 39 rfl)) (by decide) (backOf (W := 1) (rm17 l Z a0 hw [] cs_v hp b5 p0 b2_0 h5 n0 O5 A5 F_dataSchema_b5 F_schemaVersion_b5 g_b5 ((fq2_0.keep Kq3).ext E5)) hZ3 (wq hw 39 rfl) (wq hw 36 rfl) (by decide) (by decide)) (g := (mkF m 132 #[.val (.int p0), .val (.int p1), .val (.int p2), .val (.int p3), .val (.int p4), .val (.int (fx0 p2)), .val (.int (fx2 p2)), .val (.int (fx4 p2)), .val (.int z8), .val (.int z9), .val (.int (fx0 z9)), .val (.int (fx2 z9)), .val (.int (fx4 z9)), .val (.ref b2_0), .val (.ref b3_0), .val (.int z15), .unset, .unset, .unset, .unset, .unset] [(.ref b2_0), (.int p0), (.ref b5), (.ref b5)])) rfl (by rw [hml]; rfl) (Steps.refl _) (a := b5) (argsL := [(.int p0), (.ref b2_0)]) (rest := [(.ref b5)]) (lenOf pd_7 rfl) rfl (by show 2 * 0 + _ ≤ _; exact Nat.le_of_eq rfl) (hb hby at_132) (fun _ _ => ⟨rfl, e5, (by decide : 9 + 0 ≤ _), (by decide : 18 + 0 ≤ _)⟩)
  dsimp only [Pt.U, Pt.locs, Pt.cells, Pt.slots] at X6 l6 y6 z6 st6 hQ6
  subst l6 y6 z6
  obtain ⟨rfl, Nq6, Kq6, fq6_0, fq6_1, fq6_2⟩ := hQ6
  have N6 := Fr.app N3 Nq6
  have CH6 := CH5.trans (CHr.keep Kq6 (allS (Safe.exa hZ3.alike A5 (by decide) (by decide)) all0) CH5.1)
  have hk6 := Nat.le_trans hk5 Kq6.1
  have O6 := O5.keep Kq6 (allS g_b5 all0)
  have K6 : Keep h0 T6.heap [] := K5.trans Kq6 (allS (Or.inr sz_b5) all0)
  obtain ⟨T7, h7, X7, e7, E7, A7, D7, -, st7⟩ := newO X6 hx hZ3 hown3 (wq hw 34 rfl) (wq hw 35 rfl) (wq hw 36 rfl) rfl (g := (mkF m 167 #[.val (.int p0), .val (.int p1), .val (.int p2), .val (.int p3), .val (.int p4), .val (.int (fx0 p2)), .val (.int (fx2 p2)), .val (.int (fx4 p2)), .val (.int z8), .val (.int z9), .val (.int (fx0 z9)), .val (.int (fx2 z9)), .val (.int (fx4 z9)), .val (.ref b2_0), .val (.ref b3_0), .val (.int z15), .val (.ref b5), .val (.int (p4 &&& (3 : Int32))), .unset, .unset, .unset] [])) rfl (hb hby at_167) (by decide) (by decide)
  obtain ⟨b7, g7⟩ : ∃ z, z = T6.heap.size := ⟨_, rfl⟩
  rw [← g7] at A7 D7 st7
  have g_b7 : n0 ≤ b7 := Nat.le_trans (own_sz O6) (Nat.le_of_eq g7.symm)
  have sz_b7 : h0.size ≤ b7 := Nat.le_trans K6.1 (Nat.le_of_eq g7.symm)
  have O7 := O6.ext E7
  have K7 : Keep h0 h7 [] := K6.ext E7
  have CH7 := CH6.trans (CHr.ext E7 CH6.1)
  have hk7 := Nat.le_trans hk6 E7.1
  have F_dataSchema_b7 : Fld Z h7 b7 "com/example/epcrtools/epcrtools/exchange/RuleSetKey" "dataSchema" "I" (.int (0 : Int32)) := D7 (Or.inr (wq hw 42 rfl)) (ty := .int) (by decide)
  have F_schemaVersion_b7 : Fld Z h7 b7 "com/example/epcrtools/epcrtools/exchange/RuleSetKey" "schemaVersion" "Ljava/lang/String;" .null := D7 (Or.inr (wq hw 49 rfl)) (ty := (.object "java/lang/String")) (by decide)
  obtain ⟨_, _, ⟨T8, L8, k8, n8⟩, -, X8, ⟨Lc8, hQ8, l8, y8, z8⟩, st8⟩ := X7.specialBack hx (y := y7) rfl hown3 (mvT hZ3 (wq hw 37 rfl)) (mvT hZ3 (wq hw 38 rfl)) (mvT hZ3 (wq hw 39 rfl)) (by decide) (backOf (W := 1) (rm17 l Z a0 hw [] cs_v hp b7 z15 b3_0 h7 n0 O7 A7 F_dataSchema_b7 F_schemaVersion_b7 g_b7 (((fq3_0.ext E5).keep Kq6).ext E7)) hZ3 (wq hw 39 rfl) (wq hw 36 rfl) (by decide) (by decide)) (g := (mkF m 175 #[.val (.int p0), .val (.int p1), .val (.int p2), .val (.int p3), .val (.int p4), .val (.int (fx0 p2)), .val (.int (fx2 p2)), .val (.int (fx4 p2)), .val (.int z8), .val (.int z9), .val (.int (fx0 z9)), .val (.int (fx2 z9)), .val (.int (fx4 z9)), .val (.ref b2_0), .val (.ref b3_0), .val (.int z15), .val (.ref b5), .val (.int (p4 &&& (3 : Int32))), .unset, .unset, .unset] [(.ref b3_0), (.int z15), (.ref b7), (.ref b7)])) rfl (by rw [hml]; rfl) (Steps.refl _) (a := b7) (argsL := [(.int z15), (.ref b3_0)]) (rest := [(.ref b7)]) (lenOf pd_7 rfl) rfl (by show 2 * 0 + _ ≤ _; exact Nat.le_of_eq rfl) (hb hby at_175) (fun _ _ => ⟨rfl, e7, (by decide : 10 + 0 ≤ _), (by decide : 20 + 0 ≤ _)⟩)
  dsimp only [Pt.U, Pt.locs, Pt.cells, Pt.slots] at X8 l8 y8 z8 st8 hQ8
  subst l8 y8 z8
  obtain ⟨rfl, Nq8, Kq8, fq8_0, fq8_1, fq8_2⟩ := hQ8
  have N8 := Fr.app N6 Nq8
  have CH8 := CH7.trans (CHr.keep Kq8 (allS (Safe.exa hZ3.alike A7 (by decide) (by decide)) all0) CH7.1)
  have hk8 := Nat.le_trans hk7 Kq8.1
  have O8 := O7.keep Kq8 (allS g_b7 all0)
  have K8 : Keep h0 T8.heap [] := K7.trans Kq8 (allS (Or.inr sz_b7) all0)
  have f_9 := ((fq6_1.ext E7).keep Kq8 (ninS (Nat.ne_of_lt (Nat.lt_of_lt_of_le (A5.keep Kq6).lt (Nat.le_of_eq g7.symm))) nin0))
  have f_10 := ((fq6_2.ext E7).keep Kq8 (ninS (Nat.ne_of_lt (Nat.lt_of_lt_of_le (A5.keep Kq6).lt (Nat.le_of_eq g7.symm))) nin0))
  have f_11 := (((((fq2_1.keep Kq3 nin0).ext E5).keep Kq6 (ninS (Nat.ne_of_lt (Nat.lt_of_lt_of_le (fq2_0.keep Kq3).lt (Nat.le_of_eq g5.symm))) nin0)).ext E7).keep Kq8 (ninS (Nat.ne_of_lt (Nat.lt_of_lt_of_le (((fq2_0.keep Kq3).ext E5).keep Kq6).lt (Nat.le_of_eq g7.symm))) nin0))
  have f_12 := ((((fq3_1.ext E5).keep Kq6 (ninS (Nat.ne_of_lt (Nat.lt_of_lt_of_le fq3_0.lt (Nat.le_of_eq g5.symm))) nin0)).ext E7).keep Kq8 (ninS (Nat.ne_of_lt (Nat.lt_of_lt_of_le ((fq3_0.ext E5).keep Kq6).lt (Nat.le_of_eq g7.symm))) nin0))
  have f_13 := (((((fq2_2.keep Kq3 nin0).ext E5).keep Kq6 (ninS (Nat.ne_of_lt (Nat.lt_of_lt_of_le (fq2_0.keep Kq3).lt (Nat.le_of_eq g5.symm))) nin0)).ext E7).keep Kq8 (ninS (Nat.ne_of_lt (Nat.lt_of_lt_of_le (((fq2_0.keep Kq3).ext E5).keep Kq6).lt (Nat.le_of_eq g7.symm))) nin0))
  have f_14 := ((((fq3_2.ext E5).keep Kq6 (ninS (Nat.ne_of_lt (Nat.lt_of_lt_of_le fq3_0.lt (Nat.le_of_eq g5.symm))) nin0)).ext E7).keep Kq8 (ninS (Nat.ne_of_lt (Nat.lt_of_lt_of_le ((fq3_0.ext E5).keep Kq6).lt (Nat.le_of_eq g7.symm))) nin0))
  have f_15 := (((((fq2_3.keep Kq3 nin0).ext E5).keep Kq6 (ninS (Nat.ne_of_lt (Nat.lt_of_lt_of_le (fq2_3.keep Kq3 nin0).lt (Nat.le_of_eq g5.symm))) nin0)).ext E7).keep Kq8 (ninS (Nat.ne_of_lt (Nat.lt_of_lt_of_le (((fq2_3.keep Kq3 nin0).ext E5).keep Kq6 (ninS (Nat.ne_of_lt (Nat.lt_of_lt_of_le (fq2_3.keep Kq3 nin0).lt (Nat.le_of_eq g5.symm))) nin0)).lt (Nat.le_of_eq g7.symm))) nin0))
  have f_16 := ((((fq3_3.ext E5).keep Kq6 (ninS (Nat.ne_of_lt (Nat.lt_of_lt_of_le fq3_3.lt (Nat.le_of_eq g5.symm))) nin0)).ext E7).keep Kq8 (ninS (Nat.ne_of_lt (Nat.lt_of_lt_of_le ((fq3_3.ext E5).keep Kq6 (ninS (Nat.ne_of_lt (Nat.lt_of_lt_of_le fq3_3.lt (Nat.le_of_eq g5.symm))) nin0)).lt (Nat.le_of_eq g7.symm))) nin0))
  obtain ⟨cq17, kq17, q17a, q17b, q17c⟩ := isOf hZ3 rfl ((fq6_0.ext E7).keep Kq8)
  obtain ⟨_, _, ⟨T17, L17, k17, n17⟩, -, X17, ⟨Lc17, hQ17, l17, y17, z17⟩, st17⟩ := X8.virtualBack hx (y := y8) (z := y8) hown3 (mvT hZ3 (wq hw 50 rfl)) (mvT hZ3 (wq hw 51 rfl)) (notFace_of_selects (args := #[]) (mvT hZ3 (wq hw 53 rfl))) (mvT hZ3 (wq hw 53 rfl)) (mvT hZ3 (wq hw 52 rfl)) (by decide) (backOf (W := 0) (rm38 l Z a0 hw [] cs_v hp b5 b7 p0 z15 b2_0 b3_0 y2_0 y3_0 kc2_0 ((p2 &&& (3 : Int32)) % (3 : Int32)) ((((p2.toUInt32 >>> ((2 : Int32) &&& 31).toUInt32).toInt32) &&& (255 : Int32)).toUInt32.toUInt16.toUInt32.toInt32) ((((p2.toUInt32 >>> ((10 : Int32) &&& 31).toUInt32).toInt32) &&& (255 : Int32)).toUInt32.toUInt16.toUInt32.toInt32) kc3_0 ((z9 &&& (3 : Int32)) % (3 : Int32)) ((((z9.toUInt32 >>> ((2 : Int32) &&& 31).toUInt32).toInt32) &&& (255 : Int32)).toUInt32.toUInt16.toUInt32.toInt32) ((((z9.toUInt32 >>> ((10 : Int32) &&& 31).toUInt32).toInt32) &&& (255 : Int32)).toUInt32.toUInt16.toUInt32.toInt32) T8.heap n0 O8 fq8_0 f_9 fq8_1 hc6 f_10 fq8_2 (((((fq2_0.keep Kq3).ext E5).keep Kq6).ext E7).keep Kq8) ((((fq3_0.ext E5).keep Kq6).ext E7).keep Kq8) f_11 f_12 f_13 f_14 f_15 f_16 (by rw [own_mkE (own_rem (x := p2) (m := (3 : Int32)) (M := 3) rfl (by decide) (y := (3 : Int32)) (d := 3) rfl (by decide)) (own_rem (x := z9) (m := (3 : Int32)) (M := 3) rfl (by decide) (y := (3 : Int32)) (d := 3) rfl (by decide)), if_neg (fun q => hc5 q.1)] : (mkE ((p2 &&& (3 : Int32)) % (3 : Int32)) ((((p2.toUInt32 >>> ((2 : Int32) &&& 31).toUInt32).toInt32) &&& (255 : Int32)).toUInt32.toUInt16.toUInt32.toInt32) ((((p2.toUInt32 >>> ((10 : Int32) &&& 31).toUInt32).toInt32) &&& (255 : Int32)).toUInt32.toUInt16.toUInt32.toInt32) ((z9 &&& (3 : Int32)) % (3 : Int32)) ((((z9.toUInt32 >>> ((2 : Int32) &&& 31).toUInt32).toInt32) &&& (255 : Int32)).toUInt32.toUInt16.toUInt32.toInt32) ((((z9.toUInt32 >>> ((10 : Int32) &&& 31).toUInt32).toInt32) &&& (255 : Int32)).toUInt32.toUInt16.toUInt32.toInt32)) = (0 : Int32)) (Nat.ne_of_lt (Nat.lt_of_lt_of_le fq2_0.lt sq_b3_0))) hZ3 (wq hw 54 rfl) (wq hw 36 rfl) (by decide) (by decide)) q17a q17c (g := (mkF m 254 #[.val (.int p0), .val (.int p1), .val (.int p2), .val (.int p3), .val (.int p4), .val (.int (fx0 p2)), .val (.int (fx2 p2)), .val (.int (fx4 p2)), .val (.int z8), .val (.int z9), .val (.int (fx0 z9)), .val (.int (fx2 z9)), .val (.int (fx4 z9)), .val (.ref b2_0), .val (.ref b3_0), .val (.int z15), .val (.ref b5), .val (.int (p4 &&& (3 : Int32))), .val (.ref b7), .val (.int (0 : Int32)), .val (.int (0 : Int32))] [(.ref b7), (.ref b5)])) rfl (by rw [hml]; rfl) (Steps.refl _) (argsL := [(.ref b7)]) (rest := []) (lenOf pd_8 rfl) rfl (by show 2 * 0 + _ ≤ _; exact Nat.le_of_eq rfl) (hb hby at_254) (fun _ _ => ⟨rfl, rfl, (by decide : 10 + 0 ≤ _), (by decide : 20 + 0 ≤ _)⟩)
  dsimp only [Pt.U, Pt.locs, Pt.cells, Pt.slots] at X17 l17 y17 z17 st17 hQ17
  subst l17 y17 z17
  obtain ⟨rfl, Nq17, eq17⟩ := hQ17
  have N17 := Fr.app N8 Nq17
  obtain ⟨fs, hr, hrun, hended, hE⟩ := Stand.leaveW (s := s) X17 hS3 (by rw [eq17]; exact hk8) (v := some (.int (1 : Int32))) (fun h => by rw [Bd.returns] at h; cases h)
  refine ⟨_, _, pre0 _ ?_, hrun, hended, _, _, rfl, ?_, hE.1, hE.2.1, hE.2.2.1, hE.2.2.2.mono (by decide) (by decide)⟩
  · show Sp p e below s₁ (mkF m 0 #[.val (.int p0), .val (.int p1), .val (.int p2), .val (.int p3), .val (.int p4), .unset, .unset, .unset, .unset, .unset, .unset, .unset, .unset, .unset, .unset, .unset, .unset, .unset, .unset, .unset, .unset] []) _
    refine XS.iloadN X0.here hx rfl (hb hby at_0) rfl ?_
    refine XS.iconst X0.here hx rfl (hb hby at_1) ?_
    refine XS.iand X0.here hx rfl (hb hby at_2) rfl ?_
    refine XS.iconst X0.here hx rfl (hb hby at_3) ?_
    show Sp p e below s₁ (mkF m 4 #[.val (.int p0), .val (.int p1), .val (.int p2), .val (.int p3), .val (.int p4), .unset, .unset, .unset, .unset, .unset, .unset, .unset, .unset, .unset, .unset, .unset, .unset, .unset, .unset, .unset, .unset] [(.int (3 : Int32)), (.int (p2 &&& (3 : Int32)))]) _
    refine iremM X0 hx rfl (hb hby at_4) rfl (by decide) ?_
    show Sp p e below s₁ (mkF m 5 #[.val (.int p0), .val (.int p1), .val (.int p2), .val (.int p3), .val (.int p4), .unset, .unset, .unset, .unset, .unset, .unset, .unset, .unset, .unset, .unset, .unset, .unset, .unset, .unset, .unset, .unset] [(.int (fx0 p2))]) _
    refine XS.istore X0.here hx rfl (hb hby at_5) rfl (l' := #[.val (.int p0), .val (.int p1), .val (.int p2), .val (.int p3), .val (.int p4), .val (.int (fx0 p2)), .unset, .unset, .unset, .unset, .unset, .unset, .unset, .unset, .unset, .unset, .unset, .unset, .unset, .unset, .unset]) rfl ?_
    refine XS.iloadN X0.here hx rfl (hb hby at_7) rfl ?_
    refine XS.iconst X0.here hx rfl (hb hby at_8) ?_
    refine XS.iushr X0.here hx rfl (hb hby at_9) rfl ?_
    show Sp p e below s₁ (mkF m 10 #[.val (.int p0), .val (.int p1), .val (.int p2), .val (.int p3), .val (.int p4), .val (.int (fx0 p2)), .unset, .unset, .unset, .unset, .unset, .unset, .unset, .unset, .unset, .unset, .unset, .unset, .unset, .unset, .unset] [(.int (fx1 p2))]) _
    refine XS.sipush X0.here hx rfl (hb hby at_10) ?_
    refine XS.iand X0.here hx rfl (hb hby at_13) rfl ?_
    refine XS.i2c X0.here hx rfl (hb hby at_14) rfl ?_
    refine XS.istore X0.here hx rfl (hb hby at_15) rfl (l' := #[.val (.int p0), .val (.int p1), .val (.int p2), .val (.int p3), .val (.int p4), .val (.int (fx0 p2)), .val (.int (fx2 p2)), .unset, .unset, .unset, .unset, .unset, .unset, .unset, .unset, .unset, .unset, .unset, .unset, .unset, .unset]) rfl ?_
    show Sp p e below s₁ (mkF m 17 #[.val (.int p0), .val (.int p1), .val (.int p2), .val (.int p3), .val (.int p4), .val (.int (fx0 p2)), .val (.int (fx2 p2)), .unset, .unset, .unset, .unset, .unset, .unset, .unset, .unset, .unset, .unset, .unset, .unset, .unset, .unset] []) _
    refine XS.iloadN X0.here hx rfl (hb hby at_17) rfl ?_
    refine XS.bipush X0.here hx rfl (hb hby at_18) ?_
    refine XS.iushr X0.here hx rfl (hb hby at_20) rfl ?_
    refine XS.sipush X0.here hx rfl (hb hby at_21) ?_
    show Sp p e below s₁ (mkF m 24 #[.val (.int p0), .val (.int p1), .val (.int p2), .val (.int p3), .val (.int p4), .val (.int (fx0 p2)), .val (.int (fx2 p2)), .unset, .unset, .unset, .unset, .unset, .unset, .unset, .unset, .unset, .unset, .unset, .unset, .unset, .unset] [(.int (255 : Int32)), (.int (fx3 p2))]) _
    refine XS.iand X0.here hx rfl (hb hby at_24) rfl ?_
    refine XS.i2c X0.here hx rfl (hb hby at_25) rfl ?_
    refine XS.istore X0.here hx rfl (hb hby at_26) rfl (l' := #[.val (.int p0), .val (.int p1), .val (.int p2), .val (.int p3), .val (.int p4), .val (.int (fx0 p2)), .val (.int (fx2 p2)), .val (.int (fx4 p2)), .unset, .unset, .unset, .unset, .unset, .unset, .unset, .unset, .unset, .unset, .unset, .unset, .unset]) rfl ?_
    show Sp p e below s₁ (mkF m 28 #[.val (.int p0), .val (.int p1), .val (.int p2), .val (.int p3), .val (.int p4), .val (.int (fx0 p2)), .val (.int (fx2 p2)), .val (.int (fx4 p2)), .unset, .unset, .unset, .unset, .unset, .unset, .unset, .unset, .unset, .unset, .unset, .unset, .unset] []) _
    refine st1 _ ?_
    show Sp p e below s₁ (mkF m 56 #[.val (.int p0), .val (.int p1), .val (.int p2), .val (.int p3), .val (.int p4), .val (.int (fx0 p2)), .val (.int (fx2 p2)), .val (.int (fx4 p2)), .val (.int z8), .val (.int z9), .unset, .unset, .unset, .unset, .unset, .unset, .unset, .unset, .unset, .unset, .unset] []) _
    refine XS.iload X0.here hx rfl (hb hby at_56) rfl ?_
    refine XS.iconst X0.here hx rfl (hb hby at_58) ?_
    refine XS.iand X0.here hx rfl (hb hby at_59) rfl ?_
    refine XS.iconst X0.here hx rfl (hb hby at_60) ?_
    show Sp p e below s₁ (mkF m 61 #[.val (.int p0), .val (.int p1), .val (.int p2), .val (.int p3), .val (.int p4), .val (.int (fx0 p2)), .val (.int (fx2 p2)), .val (.int (fx4 p2)), .val (.int z8), .val (.int z9), .unset, .unset, .unset, .unset, .unset, .unset, .unset, .unset, .unset, .unset, .unset] [(.int (3 : Int32)), (.int (z9 &&& (3 : Int32)))]) _
    refine iremM X0 hx rfl (hb hby at_61) rfl (by decide) ?_
    show Sp p e below s₁ (mkF m 62 #[.val (.int p0), .val (.int p1), .val (.int p2), .val (.int p3), .val (.int p4), .val (.int (fx0 p2)), .val (.int (fx2 p2)), .val (.int (fx4 p2)), .val (.int z8), .val (.int z9), .unset, .unset, .unset, .unset, .unset, .unset, .unset, .unset, .unset, .unset, .unset] [(.int (fx0 z9))]) _
    refine XS.istore X0.here hx rfl (hb hby at_62) rfl (l' := #[.val (.int p0), .val (.int p1), .val (.int p2), .val (.int p3), .val (.int p4), .val (.int (fx0 p2)), .val (.int (fx2 p2)), .val (.int (fx4 p2)), .val (.int z8), .val (.int z9), .val (.int (fx0 z9)), .unset, .unset, .unset, .unset, .unset, .unset, .unset, .unset, .unset, .unset]) rfl ?_
    refine XS.iload X0.here hx rfl (hb hby at_64) rfl ?_
    refine XS.iconst X0.here hx rfl (hb hby at_66) ?_
    refine XS.iushr X0.here hx rfl (hb hby at_67) rfl ?_
    show Sp p e below s₁ (mkF m 68 #[.val (.int p0), .val (.int p1), .val (.int p2), .val (.int p3), .val (.int p4), .val (.int (fx0 p2)), .val (.int (fx2 p2)), .val (.int (fx4 p2)), .val (.int z8), .val (.int z9), .val (.int (fx0 z9)), .unset, .unset, .unset, .unset, .unset, .unset, .unset, .unset, .unset, .unset] [(.int (fx1 z9))]) _
    refine XS.sipush X0.here hx rfl (hb hby at_68) ?_
    refine XS.iand X0.here hx rfl (hb hby at_71) rfl ?_
    refine XS.i2c X0.here hx rfl (hb hby at_72) rfl ?_
    refine XS.istore X0.here hx rfl (hb hby at_73) rfl (l' := #[.val (.int p0), .val (.int p1), .val (.int p2), .val (.int p3), .val (.int p4), .val (.int (fx0 p2)), .val (.int (fx2 p2)), .val (.int (fx4 p2)), .val (.int z8), .val (.int z9), .val (.int (fx0 z9)), .val (.int (fx2 z9)), .unset, .unset, .unset, .unset, .unset, .unset, .unset, .unset, .unset]) rfl ?_
    show Sp p e below s₁ (mkF m 75 #[.val (.int p0), .val (.int p1), .val (.int p2), .val (.int p3), .val (.int p4), .val (.int (fx0 p2)), .val (.int (fx2 p2)), .val (.int (fx4 p2)), .val (.int z8), .val (.int z9), .val (.int (fx0 z9)), .val (.int (fx2 z9)), .unset, .unset, .unset, .unset, .unset, .unset, .unset, .unset, .unset] []) _
    refine XS.iload X0.here hx rfl (hb hby at_75) rfl ?_
    refine XS.bipush X0.here hx rfl (hb hby at_77) ?_
    refine XS.iushr X0.here hx rfl (hb hby at_79) rfl ?_
    refine XS.sipush X0.here hx rfl (hb hby at_80) ?_
    show Sp p e below s₁ (mkF m 83 #[.val (.int p0), .val (.int p1), .val (.int p2), .val (.int p3), .val (.int p4), .val (.int (fx0 p2)), .val (.int (fx2 p2)), .val (.int (fx4 p2)), .val (.int z8), .val (.int z9), .val (.int (fx0 z9)), .val (.int (fx2 z9)), .unset, .unset, .unset, .unset, .unset, .unset, .unset, .unset, .unset] [(.int (255 : Int32)), (.int (fx3 z9))]) _
    refine XS.iand X0.here hx rfl (hb hby at_83) rfl ?_
    refine XS.i2c X0.here hx rfl (hb hby at_84) rfl ?_
    refine XS.istore X0.here hx rfl (hb hby at_85) rfl (l' := #[.val (.int p0), .val (.int p1), .val (.int p2), .val (.int p3), .val (.int p4), .val (.int (fx0 p2)), .val (.int (fx2 p2)), .val (.int (fx4 p2)), .val (.int z8), .val (.int z9), .val (.int (fx0 z9)), .val (.int (fx2 z9)), .val (.int (fx4 z9)), .unset, .unset, .unset, .unset, .unset, .unset, .unset, .unset]) rfl ?_
    refine XS.iload X0.here hx rfl (hb hby at_87) rfl ?_
    show Sp p e below s₁ (mkF m 89 #[.val (.int p0), .val (.int p1), .val (.int p2), .val (.int p3), .val (.int p4), .val (.int (fx0 p2)), .val (.int (fx2 p2)), .val (.int (fx4 p2)), .val (.int z8), .val (.int z9), .val (.int (fx0 z9)), .val (.int (fx2 z9)), .val (.int (fx4 z9)), .unset, .unset, .unset, .unset, .unset, .unset, .unset, .unset] [(.int (fx0 p2))]) _
    refine XS.iload X0.here hx rfl (hb hby at_89) rfl ?_
    refine XS.iload X0.here hx rfl (hb hby at_91) rfl ?_
    show Sp p e below s₁ (mkF m 93 #[.val (.int p0), .val (.int p1), .val (.int p2), .val (.int p3), .val (.int p4), .val (.int (fx0 p2)), .val (.int (fx2 p2)), .val (.int (fx4 p2)), .val (.int z8), .val (.int z9), .val (.int (fx0 z9)), .val (.int (fx2 z9)), .val (.int (fx4 z9)), .unset, .unset, .unset, .unset, .unset, .unset, .unset, .unset] [(.int (fx4 p2)), (.int (fx2 p2)), (.int (fx0 p2))]) _
    refine st2.trans ?_
    show Sp p e below T2 (mkF m 96 #[.val (.int p0), .val (.int p1), .val (.int p2), .val (.int p3), .val (.int p4), .val (.int (fx0 p2)), .val (.int (fx2 p2)), .val (.int (fx4 p2)), .val (.int z8), .val (.int z9), .val (.int (fx0 z9)), .val (.int (fx2 z9)), .val (.int (fx4 z9)), .unset, .unset, .unset, .unset, .unset, .unset, .unset, .unset] [(.ref b2_0)]) _
    refine XS.astore X2.here hx rfl (hb hby at_96) rfl rfl (l' := #[.val (.int p0), .val (.int p1), .val (.int p2), .val (.int p3), .val (.int p4), .val (.int (fx0 p2)), .val (.int (fx2 p2)), .val (.int (fx4 p2)), .val (.int z8), .val (.int z9), .val (.int (fx0 z9)), .val (.int (fx2 z9)), .val (.int (fx4 z9)), .val (.ref b2_0), .unset, .unset, .unset, .unset, .unset, .unset, .unset]) rfl ?_
    refine XS.iload X2.here hx rfl (hb hby at_98) rfl ?_
    refine XS.iload X2.here hx rfl (hb hby at_100) rfl ?_
    refine XS.iload X2.here hx rfl (hb hby at_102) rfl ?_
    show Sp p e below T2 (mkF m 104 #[.val (.int p0), .val (.int p1), .val (.int p2), .val (.int p3), .val (.int p4), .val (.int (fx0 p2)), .val (.int (fx2 p2)), .val (.int (fx4 p2)), .val (.int z8), .val (.int z9), .val (.int (fx0 z9)), .val (.int (fx2 z9)), .val (.int (fx4 z9)), .val (.ref b2_0), .unset, .unset, .unset, .unset, .unset, .unset, .unset] [(.int (fx4 z9)), (.int (fx2 z9)), (.int (fx0 z9))]) _
    refine st3.trans ?_
    show Sp p e below T3 (mkF m 107 #[.val (.int p0), .val (.int p1), .val (.int p2), .val (.int p3), .val (.int p4), .val (.int (fx0 p2)), .val (.int (fx2 p2)), .val (.int (fx4 p2)), .val (.int z8), .val (.int z9), .val (.int (fx0 z9)), .val (.int (fx2 z9)), .val (.int (fx4 z9)), .val (.ref b2_0), .unset, .unset, .unset, .unset, .unset, .unset, .unset] [(.ref b3_0)]) _
    refine XS.astore X3.here hx rfl (hb hby at_107) rfl rfl (l' := #[.val (.int p0), .val (.int p1), .val (.int p2), .val (.int p3), .val (.int p4), .val (.int (fx0 p2)), .val (.int (fx2 p2)), .val (.int (fx4 p2)), .val (.int z8), .val (.int z9), .val (.int (fx0 z9)), .val (.int (fx2 z9)), .val (.int (fx4 z9)), .val (.ref b2_0), .val (.ref b3_0), .unset, .unset, .unset, .unset, .unset, .unset]) rfl ?_
    show Sp p e below T3 (mkF m 109 #[.val (.int p0), .val (.int p1), .val (.int p2), .val (.int p3), .val (.int p4), .val (.int (fx0 p2)), .val (.int (fx2 p2)), .val (.int (fx4 p2)), .val (.int z8), .val (.int z9), .val (.int (fx0 z9)), .val (.int (fx2 z9)), .val (.int (fx4 z9)), .val (.ref b2_0), .val (.ref b3_0), .unset, .unset, .unset, .unset, .unset, .unset] []) _
    refine st4 _ ?_
    show Sp p e below T3 (mkF m 125 #[.val (.int p0), .val (.int p1), .val (.int p2), .val (.int p3), .val (.int p4), .val (.int (fx0 p2)), .val (.int (fx2 p2)), .val (.int (fx4 p2)), .val (.int z8), .val (.int z9), .val (.int (fx0 z9)), .val (.int (fx2 z9)), .val (.int (fx4 z9)), .val (.ref b2_0), .val (.ref b3_0), .val (.int z15), .unset, .unset, .unset, .unset, .unset] []) _
    refine st5 _ ?_
    show Sp p e below T5 (mkF m 128 #[.val (.int p0), .val (.int p1), .val (.int p2), .val (.int p3), .val (.int p4), .val (.int (fx0 p2)), .val (.int (fx2 p2)), .val (.int (fx4 p2)), .val (.int z8), .val (.int z9), .val (.int (fx0 z9)), .val (.int (fx2 z9)), .val (.int (fx4 z9)), .val (.ref b2_0), .val (.ref b3_0), .val (.int z15), .unset, .unset, .unset, .unset, .unset] [(.ref b5)]) _
    refine XS.dup X5.here hx rfl (hb hby at_128) rfl rfl ?_
    refine XS.iloadN X5.here hx rfl (hb hby at_129) rfl ?_
    refine XS.aload X5.here hx rfl (hb hby at_130) rfl rfl ?_
    show Sp p e below T5 (mkF m 132 #[.val (.int p0), .val (.int p1), .val (.int p2), .val (.int p3), .val (.int p4), .val (.int (fx0 p2)), .val (.int (fx2 p2)), .val (.int (fx4 p2)), .val (.int z8), .val (.int z9), .val (.int (fx0 z9)), .val (.int (fx2 z9)), .val (.int (fx4 z9)), .val (.ref b2_0), .val (.ref b3_0), .val (.int z15), .unset, .unset, .unset, .unset, .unset] [(.ref b2_0), (.int p0), (.ref b5), (.ref b5)]) _
    refine st6.trans ?_
    show Sp p e below T6 (mkF m 135 #[.val (.int p0), .val (.int p1), .val (.int p2), .val (.int p3), .val (.int p4), .val (.int (fx0 p2)), .val (.int (fx2 p2)), .val (.int (fx4 p2)), .val (.int z8), .val (.int z9), .val (.int (fx0 z9)), .val (.int (fx2 z9)), .val (.int (fx4 z9)), .val (.ref b2_0), .val (.ref b3_0), .val (.int z15), .unset, .unset, .unset, .unset, .unset] [(.ref b5)]) _
    refine XS.astore X6.here hx rfl (hb hby at_135) rfl rfl (l' := #[.val (.int p0), .val (.int p1), .val (.int p2), .val (.int p3), .val (.int p4), .val (.int (fx0 p2)), .val (.int (fx2 p2)), .val (.int (fx4 p2)), .val (.int z8), .val (.int z9), .val (.int (fx0 z9)), .val (.int (fx2 z9)), .val (.int (fx4 z9)), .val (.ref b2_0), .val (.ref b3_0), .val (.int z15), .val (.ref b5), .unset, .unset, .unset, .unset]) rfl ?_
    refine XS.iload X6.here hx rfl (hb hby at_137) rfl ?_
    refine XS.iconst X6.here hx rfl (hb hby at_139) ?_
    refine XS.iand X6.here hx rfl (hb hby at_140) rfl ?_
    show Sp p e below T6 (mkF m 141 #[.val (.int p0), .val (.int p1), .val (.int p2), .val (.int p3), .val (.int p4), .val (.int (fx0 p2)), .val (.int (fx2 p2)), .val (.int (fx4 p2)), .val (.int z8), .val (.int z9), .val (.int (fx0 z9)), .val (.int (fx2 z9)), .val (.int (fx4 z9)), .val (.ref b2_0), .val (.ref b3_0), .val (.int z15), .val (.ref b5), .unset, .unset, .unset, .unset] [(.int (p4 &&& (3 : Int32)))]) _
    refine XS.istore X6.here hx rfl (hb hby at_141) rfl (l' := #[.val (.int p0), .val (.int p1), .val (.int p2), .val (.int p3), .val (.int p4), .val (.int (fx0 p2)), .val (.int (fx2 p2)), .val (.int (fx4 p2)), .val (.int z8), .val (.int z9), .val (.int (fx0 z9)), .val (.int (fx2 z9)), .val (.int (fx4 z9)), .val (.ref b2_0), .val (.ref b3_0), .val (.int z15), .val (.ref b5), .val (.int (p4 &&& (3 : Int32))), .unset, .unset, .unset]) rfl ?_
    refine XS.iload X6.here hx rfl (hb hby at_143) rfl ?_
    refine XS.ifYes X6.here hx rfl (pc0 := 145) (pc' := 154) rfl (hb hby at_145) rfl ((if0 _ _).trans (feq hc3).2) (by decide) (by decide) ?_
    refine XS.iload X6.here hx rfl (hb hby at_154) rfl ?_
    show Sp p e below T6 (mkF m 156 #[.val (.int p0), .val (.int p1), .val (.int p2), .val (.int p3), .val (.int p4), .val (.int (fx0 p2)), .val (.int (fx2 p2)), .val (.int (fx4 p2)), .val (.int z8), .val (.int z9), .val (.int (fx0 z9)), .val (.int (fx2 z9)), .val (.int (fx4 z9)), .val (.ref b2_0), .val (.ref b3_0), .val (.int z15), .val (.ref b5), .val (.int (p4 &&& (3 : Int32))), .unset, .unset, .unset] [(.int (p4 &&& (3 : Int32)))]) _
    refine XS.iconst X6.here hx rfl (hb hby at_156) ?_
    refine XS.icmpYes X6.here hx rfl (pc0 := 157) (pc' := 167) rfl (hb hby at_157) rfl (feq hc4).2 (by decide) (by decide) ?_
    show Sp p e below T6 (mkF m 167 #[.val (.int p0), .val (.int p1), .val (.int p2), .val (.int p3), .val (.int p4), .val (.int (fx0 p2)), .val (.int (fx2 p2)), .val (.int (fx4 p2)), .val (.int z8), .val (.int z9), .val (.int (fx0 z9)), .val (.int (fx2 z9)), .val (.int (fx4 z9)), .val (.ref b2_0), .val (.ref b3_0), .val (.int z15), .val (.ref b5), .val (.int (p4 &&& (3 : Int32))), .unset, .unset, .unset] []) _
    refine st7 _ ?_
    show Sp p e below T7 (mkF m 170 #[.val (.int p0), .val (.int p1), .val (.int p2), .val (.int p3), .val (.int p4), .val (.int (fx0 p2)), .val (.int (fx2 p2)), .val (.int (fx4 p2)), .val (.int z8), .val (.int z9), .val (.int (fx0 z9)), .val (.int (fx2 z9)), .val (.int (fx4 z9)), .val (.ref b2_0), .val (.ref b3_0), .val (.int z15), .val (.ref b5), .val (.int (p4 &&& (3 : Int32))), .unset, .unset, .unset] [(.ref b7)]) _
    refine XS.dup X7.here hx rfl (hb hby at_170) rfl rfl ?_
    refine XS.iload X7.here hx rfl (hb hby at_171) rfl ?_
    refine XS.aload X7.here hx rfl (hb hby at_173) rfl rfl ?_
    show Sp p e below T7 (mkF m 175 #[.val (.int p0), .val (.int p1), .val (.int p2), .val (.int p3), .val (.int p4), .val (.int (fx0 p2)), .val (.int (fx2 p2)), .val (.int (fx4 p2)), .val (.int z8), .val (.int z9), .val (.int (fx0 z9)), .val (.int (fx2 z9)), .val (.int (fx4 z9)), .val (.ref b2_0), .val (.ref b3_0), .val (.int z15), .val (.ref b5), .val (.int (p4 &&& (3 : Int32))), .unset, .unset, .unset] [(.ref b3_0), (.int z15), (.ref b7), (.ref b7)]) _
    refine st8.trans ?_
    show Sp p e below T8 (mkF m 178 #[.val (.int p0), .val (.int p1), .val (.int p2), .val (.int p3), .val (.int p4), .val (.int (fx0 p2)), .val (.int (fx2 p2)), .val (.int (fx4 p2)), .val (.int z8), .val (.int z9), .val (.int (fx0 z9)), .val (.int (fx2 z9)), .val (.int (fx4 z9)), .val (.ref b2_0), .val (.ref b3_0), .val (.int z15), .val (.ref b5), .val (.int (p4 &&& (3 : Int32))), .unset, .unset, .unset] [(.ref b7)]) _
    refine XS.astore X8.here hx rfl (hb hby at_178) rfl rfl (l' := #[.val (.int p0), .val (.int p1), .val (.int p2), .val (.int p3), .val (.int p4), .val (.int (fx0 p2)), .val (.int (fx2 p2)), .val (.int (fx4 p2)), .val (.int z8), .val (.int z9), .val (.int (fx0 z9)), .val (.int (fx2 z9)), .val (.int (fx4 z9)), .val (.ref b2_0), .val (.ref b3_0), .val (.int z15), .val (.ref b5), .val (.int (p4 &&& (3 : Int32))), .val (.ref b7), .unset, .unset]) rfl ?_
    refine XS.iload X8.here hx rfl (hb hby at_180) rfl ?_
    refine XS.iconst X8.here hx rfl (hb hby at_182) ?_
    refine XS.icmpYes X8.here hx rfl (pc0 := 183) (pc' := 192) rfl (hb hby at_183) rfl (flt (own_nlti (n := 2) rfl (by have r := (own_and (x := p4) (m := (3 : Int32)) (M := 3) rfl (by decide)); have q0 := own_nei hc3 (n := 0) rfl; have q1 := own_nei hc4 (n := 1) rfl; omega) : ¬ ((p4 &&& (3 : Int32)) < (2 : Int32)))).2.1 (by decide) (by decide) ?_
    show Sp p e below T8 (mkF m 192 #[.val (.int p0), .val (.int p1), .val (.int p2), .val (.int p3), .val (.int p4), .val (.int (fx0 p2)), .val (.int (fx2 p2)), .val (.int (fx4 p2)), .val (.int z8), .val (.int z9), .val (.int (fx0 z9)), .val (.int (fx2 z9)), .val (.int (fx4 z9)), .val (.ref b2_0), .val (.ref b3_0), .val (.int z15), .val (.ref b5), .val (.int (p4 &&& (3 : Int32))), .val (.ref b7), .unset, .unset] []) _
    refine XS.iload X8.here hx rfl (hb hby at_192) rfl ?_
    refine XS.iload X8.here hx rfl (hb hby at_194) rfl ?_
    refine XS.icmpYes X8.here hx rfl (pc0 := 196) (pc' := 229) rfl (hb hby at_196) rfl (feq hc5).2 (by decide) (by decide) ?_
    refine XS.iconst X8.here hx rfl (hb hby at_229) ?_
    show Sp p e below T8 (mkF m 230 #[.val (.int p0), .val (.int p1), .val (.int p2), .val (.int p3), .val (.int p4), .val (.int (fx0 p2)), .val (.int (fx2 p2)), .val (.int (fx4 p2)), .val (.int z8), .val (.int z9), .val (.int (fx0 z9)), .val (.int (fx2 z9)), .val (.int (fx4 z9)), .val (.ref b2_0), .val (.ref b3_0), .val (.int z15), .val (.ref b5), .val (.int (p4 &&& (3 : Int32))), .val (.ref b7), .unset, .unset] [(.int (0 : Int32))]) _
    refine XS.istore X8.here hx rfl (hb hby at_230) rfl (l' := #[.val (.int p0), .val (.int p1), .val (.int p2), .val (.int p3), .val (.int p4), .val (.int (fx0 p2)), .val (.int (fx2 p2)), .val (.int (fx4 p2)), .val (.int z8), .val (.int z9), .val (.int (fx0 z9)), .val (.int (fx2 z9)), .val (.int (fx4 z9)), .val (.ref b2_0), .val (.ref b3_0), .val (.int z15), .val (.ref b5), .val (.int (p4 &&& (3 : Int32))), .val (.ref b7), .unset, .val (.int (0 : Int32))]) rfl ?_
    refine XS.iloadN X8.here hx rfl (hb hby at_232) rfl ?_
    refine XS.iload X8.here hx rfl (hb hby at_233) rfl ?_
    refine XS.icmpNo X8.here hx rfl (hb hby at_235) rfl (teq hc6).2 ?_
    show Sp p e below T8 (mkF m 238 #[.val (.int p0), .val (.int p1), .val (.int p2), .val (.int p3), .val (.int p4), .val (.int (fx0 p2)), .val (.int (fx2 p2)), .val (.int (fx4 p2)), .val (.int z8), .val (.int z9), .val (.int (fx0 z9)), .val (.int (fx2 z9)), .val (.int (fx4 z9)), .val (.ref b2_0), .val (.ref b3_0), .val (.int z15), .val (.ref b5), .val (.int (p4 &&& (3 : Int32))), .val (.ref b7), .unset, .val (.int (0 : Int32))] []) _
    refine XS.iload X8.here hx rfl (hb hby at_238) rfl ?_
    refine XS.ifYes X8.here hx rfl (pc0 := 240) (pc' := 247) rfl (hb hby at_240) rfl ((if0 _ _).trans (teq (by decide : (0 : Int32) = (0 : Int32))).1) (by decide) (by decide) ?_
    refine XS.iconst X8.here hx rfl (hb hby at_247) ?_
    refine XS.istore X8.here hx rfl (hb hby at_248) rfl (l' := #[.val (.int p0), .val (.int p1), .val (.int p2), .val (.int p3), .val (.int p4), .val (.int (fx0 p2)), .val (.int (fx2 p2)), .val (.int (fx4 p2)), .val (.int z8), .val (.int z9), .val (.int (fx0 z9)), .val (.int (fx2 z9)), .val (.int (fx4 z9)), .val (.ref b2_0), .val (.ref b3_0), .val (.int z15), .val (.ref b5), .val (.int (p4 &&& (3 : Int32))), .val (.ref b7), .val (.int (0 : Int32)), .val (.int (0 : Int32))]) rfl ?_
    show Sp p e below T8 (mkF m 250 #[.val (.int p0), .val (.int p1), .val (.int p2), .val (.int p3), .val (.int p4), .val (.int (fx0 p2)), .val (.int (fx2 p2)), .val (.int (fx4 p2)), .val (.int z8), .val (.int z9), .val (.int (fx0 z9)), .val (.int (fx2 z9)), .val (.int (fx4 z9)), .val (.ref b2_0), .val (.ref b3_0), .val (.int z15), .val (.ref b5), .val (.int (p4 &&& (3 : Int32))), .val (.ref b7), .val (.int (0 : Int32)), .val (.int (0 : Int32))] []) _
    refine XS.aload X8.here hx rfl (hb hby at_250) rfl rfl ?_
    refine XS.aload X8.here hx rfl (hb hby at_252) rfl rfl ?_
    show Sp p e below T8 (mkF m 254 #[.val (.int p0), .val (.int p1), .val (.int p2), .val (.int p3), .val (.int p4), .val (.int (fx0 p2)), .val (.int (fx2 p2)), .val (.int (fx4 p2)), .val (.int z8), .val (.int z9), .val (.int (fx0 z9)), .val (.int (fx2 z9)), .val (.int (fx4 z9)), .val (.ref b2_0), .val (.ref b3_0), .val (.int z15), .val (.ref b5), .val (.int (p4 &&& (3 : Int32))), .val (.ref b7), .val (.int (0 : Int32)), .val (.int (0 : Int32))] [(.ref b7), (.ref b5)]) _
    refine st17.trans ?_
    show Sp p e below T17 (mkF m 257 #[.val (.int p0), .val (.int p1), .val (.int p2), .val (.int p3), .val (.int p4), .val (.int (fx0 p2)), .val (.int (fx2 p2)), .val (.int (fx4 p2)), .val (.int z8), .val (.int z9), .val (.int (fx0 z9)), .val (.int (fx2 z9)), .val (.int (fx4 z9)), .val (.ref b2_0), .val (.ref b3_0), .val (.int z15), .val (.ref b5), .val (.int (p4 &&& (3 : Int32))), .val (.ref b7), .val (.int (0 : Int32)), .val (.int (0 : Int32))] [(.int (0 : Int32))]) _
    refine XS.iload X17.here hx rfl (hb hby at_257) rfl ?_
    refine XS.icmpNo X17.here hx rfl (hb hby at_259) rfl (teq (by decide : (0 : Int32) = (0 : Int32))).2 ?_
    refine XS.iconst X17.here hx rfl (hb hby at_262) ?_
    refine XS.goto X17.here hx rfl (pc0 := 263) (pc' := 267) rfl (hb hby at_263) (by decide) (by decide) ?_
    show Sp p e below T17 (mkF m 267 #[.val (.int p0), .val (.int p1), .val (.int p2), .val (.int p3), .val (.int p4), .val (.int (fx0 p2)), .val (.int (fx2 p2)), .val (.int (fx4 p2)), .val (.int z8), .val (.int z9), .val (.int (fx0 z9)), .val (.int (fx2 z9)), .val (.int (fx4 z9)), .val (.ref b2_0), .val (.ref b3_0), .val (.int z15), .val (.ref b5), .val (.int (p4 &&& (3 : Int32))), .val (.ref b7), .val (.int (0 : Int32)), .val (.int (0 : Int32))] [(.int (1 : Int32))]) _
    exact retN X17 hx (t := .boolean) Bd.returns (by simp) (hb hby at_267) hr
  · skip
    exact ⟨rfl, N17⟩
def Q40 (Z : State) (cs_v : Int32) (a1 : Addr) (a2 : Addr) (p3 : Int32) (p4 : Int32) (h0 : Heap) (n0 : Nat) (v : Option Value) (h : Heap) (L : List Loc) : Prop := v = some (.int (0 : Int32)) ∧ Fr n0 L ∧ h = h0
set_option maxRecDepth 65536 in
set_option maxHeartbeats 40000000 in
theorem rm40 (l : Launch) (Z : State) (a0 : Array Value) (hw : ∀ d ∈ tables_1, d.before a0 Z = true) (ws : List Jvm.Cond) (cs_v : Int32) (hp : Perm Z cs_v) (a1 : Addr) (a2 : Addr) (p3 : Int32) (p4 : Int32) (h0 : Heap) (n0 : Nat) (O0 : Old Z n0 h0) (E_a2 : Exa Z h0 a2 "com/example/epcrtools/epcrtools/exchange/RuleSetKey") (F_dataSchema_a1 : Fld Z h0 a1 "com/example/epcrtools/epcrtools/exchange/RuleSetKey" "dataSchema" "I" (.int p3)) (F_dataSchema_a2 : Fld Z h0 a2 "com/example/epcrtools/epcrtools/exchange/RuleSetKey" "dataSchema" "I" (.int p4)) (hc4 : ¬ (p3 = p4)) :
    MetFree l y8 (head1 (Jvm.Cond.code y8 prog_8_method_4_code 3 (some .boolean) :: ws) ({ frames := 0, cells := 0, slots := 0, locals := 0 } : Room)) (fun a U => a = #[(.ref a1), (.ref a2)] ∧ Z.Warmed39 U.vm ∧ U.heap = h0) (fun _ _ _ _ _ => True) (fun _ U o U' => ∃ v L, o = .returned v ∧ Q40 Z cs_v a1 a2 p3 p4 h0 n0 v U'.heap L ∧ FrameEnd U o U' L ({ frames := 0, cells := 0, slots := 0, locals := 0 } : Room).cells ({ frames := 0, cells := 0, slots := 0, locals := 0 } : Room).slots) := by
  refine MetFree.of_bodySF (plainFor_of_name pn_8) hisR ?_
  intro p e s m args below meth c s₁ Bd hml0 hP hK
  obtain ⟨rfl, hZ, hh⟩ := hP
  have hx := Bd.exec
  have hby := Bd.bytes
  have hml : c.maxLocals = 3 := hml0
  have hown : s.vm.findClass "com/example/epcrtools/epcrtools/exchange/RuleSetKey" = some m.cls := findClass_of_methodNamed Bd.named
  have hnm := (name_of_methodNamed Bd.named Bd.method).1
  have X0 : Stand p l e ({ frames := 0, cells := 0, slots := 0, locals := 0 } : Room) s m #[(.ref a1), (.ref a2)] below meth c s₁ [] 0 0 := Stand.of_body Bd
  have e0 : s₁.heap = h0 := by rw [← hh, Bd.state]; rfl
  have N0 := Fr.nil n0
  have hp' := hp
  obtain ⟨S_COMPACT_STRINGS, h_cs⟩ := hp'
  have pre0 : ∀ t, Steps p.tables e below (s₁.setTop (mkF m 0 #[.val (.ref a1), .val (.ref a2), .unset] [])) t → Steps p.tables e below (s₁.setTop (entryFrame m #[(.ref a1), (.ref a2)] 3)) t := fun t k => castTop (ef_10_1 m a1 a2) k
  obtain ⟨T1, X1, e1, st1⟩ := instY X0 hx hZ hown (wq hw 58 rfl) e0 (Ins.self E_a2) (g := (mkF m 1 #[.val (.ref a1), .val (.ref a2), .unset] [(.ref a2)])) rfl rfl (hb hby d10_1)
  obtain ⟨T2, X2, e2, st2⟩ := castY X1 hx hZ hown (wq hw 58 rfl) e1 (Ins.self E_a2) (g := (mkF m 10 #[.val (.ref a1), .val (.ref a2), .unset] [(.ref a2)])) rfl rfl (hb hby d10_10)
  obtain ⟨T3, X3, e3, st3⟩ := getF X2 hx hZ hown (host := "") (Or.inl (wq hw 41 rfl)) Via.refl e2 F_dataSchema_a1 (g := (mkF m 15 #[.val (.ref a1), .val (.ref a2), .val (.ref a2)] [(.ref a1)])) rfl rfl (hb hby d10_15)
  obtain ⟨T4, X4, e4, st4⟩ := getF X3 hx hZ hown (host := "") (Or.inl (wq hw 41 rfl)) Via.refl e3 F_dataSchema_a2 (g := (mkF m 19 #[.val (.ref a1), .val (.ref a2), .val (.ref a2)] [(.ref a2), (.int p3)])) rfl rfl (hb hby d10_19)
  obtain ⟨fs, hr, hrun, hended, hW, hsame⟩ := X4.leave (v := some (.int (0 : Int32))) (fun h => by rw [Bd.returns] at h; cases h)
  refine ⟨_, _, pre0 _ ?_, hrun, hended, _, _, rfl, ?_, ⟨_, rfl⟩, hW, hsame.mono (by decide) (by decide)⟩
  · show Sp p e below s₁ (mkF m 0 #[.val (.ref a1), .val (.ref a2), .unset] []) _
    refine XS.aloadN X0.here hx rfl (hb hby d10_0) rfl rfl ?_
    show Sp p e below s₁ (mkF m 1 #[.val (.ref a1), .val (.ref a2), .unset] [(.ref a2)]) _
    refine st1 _ ?_
    show Sp p e below T1 (mkF m 4 #[.val (.ref a1), .val (.ref a2), .unset] [(.int (1 : Int32))]) _
    refine XS.ifYes X1.here hx rfl (pc0 := 4) (pc' := 9) rfl (hb hby d10_4) rfl ((if0 _ _).trans (feq (by decide : ¬ ((1 : Int32) = (0 : Int32)))).2) (by decide) (by decide) ?_
    refine XS.aloadN X1.here hx rfl (hb hby d10_9) rfl rfl ?_
    show Sp p e below T1 (mkF m 10 #[.val (.ref a1), .val (.ref a2), .unset] [(.ref a2)]) _
    refine st2 _ ?_
    show Sp p e below T2 (mkF m 13 #[.val (.ref a1), .val (.ref a2), .unset] [(.ref a2)]) _
    refine XS.astoreN X2.here hx rfl (hb hby d10_13) rfl rfl (l' := #[.val (.ref a1), .val (.ref a2), .val (.ref a2)]) rfl ?_
    refine XS.aloadN X2.here hx rfl (hb hby d10_14) rfl rfl ?_
    show Sp p e below T2 (mkF m 15 #[.val (.ref a1), .val (.ref a2), .val (.ref a2)] [(.ref a1)]) _
    refine st3 _ ?_
    show Sp p e below T3 (mkF m 18 #[.val (.ref a1), .val (.ref a2), .val (.ref a2)] [(.int p3)]) _
    refine XS.aloadN X3.here hx rfl (hb hby d10_18) rfl rfl ?_
    show Sp p e below T3 (mkF m 19 #[.val (.ref a1), .val (.ref a2), .val (.ref a2)] [(.ref a2), (.int p3)]) _
    refine st4 _ ?_
    show Sp p e below T4 (mkF m 22 #[.val (.ref a1), .val (.ref a2), .val (.ref a2)] [(.int p4), (.int p3)]) _
    refine XS.icmpYes X4.here hx rfl (pc0 := 22) (pc' := 43) rfl (hb hby d10_22) rfl (feq hc4).2 (by decide) (by decide) ?_
    refine XS.iconst X4.here hx rfl (hb hby d10_43) ?_
    show Sp p e below T4 (mkF m 44 #[.val (.ref a1), .val (.ref a2), .val (.ref a2)] [(.int (0 : Int32))]) _
    exact retN X4 hx (t := .boolean) Bd.returns (by simp) (hb hby d10_44) hr
  · show Q40 Z cs_v a1 a2 p3 p4 h0 n0 _ T4.heap _
    rw [e4]
    exact ⟨rfl, N0, rfl⟩
set_option maxRecDepth 65536 in
set_option maxHeartbeats 40000000 in
theorem rm41 (l : Launch) (Z : State) (a0 : Array Value) (hw : ∀ d ∈ tables_1, d.before a0 Z = true) (ws : List Jvm.Cond) (cs_v : Int32) (hp : Perm Z cs_v) (p0 : Int32) (p1 : Int32) (p2 : Int32) (p3 : Int32) (p4 : Int32) (z8 : Int32) (z9 : Int32) (z15 : Int32) (h0 : Heap) (n0 : Nat) (O0 : Old Z n0 h0) (hcut28 : Cut_0_28 p0 p1 p2 p3 p4 ((p2 &&& (3 : Int32)) % (3 : Int32)) ((((p2.toUInt32 >>> ((2 : Int32) &&& 31).toUInt32).toInt32) &&& (255 : Int32)).toUInt32.toUInt16.toUInt32.toInt32) ((((p2.toUInt32 >>> ((10 : Int32) &&& 31).toUInt32).toInt32) &&& (255 : Int32)).toUInt32.toUInt16.toUInt32.toInt32) z8 z9) (hcut109 : Cut_0_109 p0 p1 p2 p3 p4 ((p2 &&& (3 : Int32)) % (3 : Int32)) ((((p2.toUInt32 >>> ((2 : Int32) &&& 31).toUInt32).toInt32) &&& (255 : Int32)).toUInt32.toUInt16.toUInt32.toInt32) ((((p2.toUInt32 >>> ((10 : Int32) &&& 31).toUInt32).toInt32) &&& (255 : Int32)).toUInt32.toUInt16.toUInt32.toInt32) z8 z9 ((z9 &&& (3 : Int32)) % (3 : Int32)) ((((z9.toUInt32 >>> ((2 : Int32) &&& 31).toUInt32).toInt32) &&& (255 : Int32)).toUInt32.toUInt16.toUInt32.toInt32) ((((z9.toUInt32 >>> ((10 : Int32) &&& 31).toUInt32).toInt32) &&& (255 : Int32)).toUInt32.toUInt16.toUInt32.toInt32) z15) (hc3 : ¬ ((p4 &&& (3 : Int32)) = (0 : Int32))) (hc4 : ¬ ((p4 &&& (3 : Int32)) = (1 : Int32))) (hc5 : ¬ (((p2 &&& (3 : Int32)) % (3 : Int32)) = ((z9 &&& (3 : Int32)) % (3 : Int32)))) (hc6 : ¬ (p0 = z15)) :
    MetFree l x (head1 (Jvm.Cond.code x code maxLocals ret :: ws) room_1) (fun a U => a = #[(.int p0), (.int p1), (.int p2), (.int p3), (.int p4)] ∧ Z.Warmed39 U.vm ∧ U.heap = h0 ∧ CHv Z own_EL U.vm h0) (fun _ _ _ _ _ => True) (fun _ U o U' => ∃ v L, o = .returned v ∧ (v = some (.int (1 : Int32)) ∧ Fr n0 L) ∧ ReturnedEndW U o U' L 32 1152) := by
  refine MetFree.of_bodySF (plainFor_of_name pn_1) hisR ?_
  intro p e s m args below meth c s₁ Bd hml0 hP hK
  obtain ⟨rfl, hZo, hh, hCH⟩ := hP
  have hx := Bd.exec
  have hby := Bd.bytes
  have hml : c.maxLocals = 21 := hml0
  have hown : (s.setVm s.vm).vm.findClass "com/example/epcrtools/epcrtools/exchange/RuleSetKeyEqualsPinLaw" = some m.cls := findClass_of_methodNamed Bd.named
  have hnm := (name_of_methodNamed Bd.named Bd.method).1
  have X0 : Stand p l e room_1 (s.setVm s.vm) m #[(.int p0), (.int p1), (.int p2), (.int p3), (.int p4)] below meth c s₁ [] 0 0 := Stand.of_body Bd
  have e0 : s₁.heap = h0 := by rw [← hh, Bd.state]; rfl
  have N0 := Fr.nil n0
  have hZ : Z.Warmed39 (s.setVm s.vm).vm := hZo
  have CH0 := CHr.refl hCH
  have hS0 : s.Since s.vm 0 := (State.WarmedH.refl s).since 0
  have hk0 : 0 ≤ h0.size := Nat.zero_le _
  have hp' := hp
  obtain ⟨S_COMPACT_STRINGS, h_cs⟩ := hp'
  have pre0 : ∀ t, Steps p.tables e below (s₁.setTop (mkF m 0 #[.val (.int p0), .val (.int p1), .val (.int p2), .val (.int p3), .val (.int p4), .unset, .unset, .unset, .unset, .unset, .unset, .unset, .unset, .unset, .unset, .unset, .unset, .unset, .unset, .unset, .unset] [])) t → Steps p.tables e below (s₁.setTop (entryFrame m #[(.int p0), (.int p1), (.int p2), (.int p3), (.int p4)] maxLocals)) t := fun t k => castTop (ef_0_0 m p0 p1 p2 p3 p4) k
  have st1 := hcut28 X0 hx hZ hw hby hown
  obtain ⟨_, _, ⟨T2, L2, k2, n2⟩, -, XX2, Sq2, gq2, ⟨Lc2, hQ2, l2, y2, z2, C2⟩, st2⟩ := callSS X0 hx (y := y2) hown (mvT hZ (wq hw 0 rfl)) (mvT hZ (wq hw 1 rfl)) (mvT hZ (wq hw 2 rfl)) (mvT hZ (wq hw 3 rfl)) (by decide) (own_backC (SL := []) (W := 0) (rmS1 l Z a0 hw [] cs_v hp ((p2 &&& (3 : Int32)) % (3 : Int32)) ((((p2.toUInt32 >>> ((2 : Int32) &&& 31).toUInt32).toInt32) &&& (255 : Int32)).toUInt32.toUInt16.toUInt32.toInt32) ((((p2.toUInt32 >>> ((10 : Int32) &&& 31).toUInt32).toInt32) &&& (255 : Int32)).toUInt32.toUInt16.toUInt32.toInt32) h0 n0 O0 (own_ch2 ((p2.toUInt32 >>> ((2 : Int32) &&& 31).toUInt32).toInt32)) (own_ch2 ((p2.toUInt32 >>> ((10 : Int32) &&& 31).toUInt32).toInt32))) hZ (wq hw 3 rfl) (wq hw 2 rfl) (by decide) (by decide) (own_EW hw) CH0.1 all0) (g := (mkF m 93 #[.val (.int p0), .val (.int p1), .val (.int p2), .val (.int p3), .val (.int p4), .val (.int (fx0 p2)), .val (.int (fx2 p2)), .val (.int (fx4 p2)), .val (.int z8), .val (.int z9), .val (.int (fx0 z9)), .val (.int (fx2 z9)), .val (.int (fx4 z9)), .unset, .unset, .unset, .unset, .unset, .unset, .unset, .unset] [(.int (fx4 p2)), (.int (fx2 p2)), (.int (fx0 p2))])) rfl (by rw [hml]; rfl) (argsL := [(.int (fx0 p2)), (.int (fx2 p2)), (.int (fx4 p2))]) (rest := []) (lenOf pd_5 rfl) rfl (by show 2 * 0 + _ ≤ _; exact Nat.le_of_eq rfl) (hb hby at_93) (fun _ _ => ⟨rfl, e0, (by decide : 0 + 4 ≤ _), (by decide : 0 + 8 ≤ _)⟩)
  dsimp only [Pt.U, Pt.locs, Pt.cells, Pt.slots] at XX2 Sq2 gq2 l2 y2 z2 st2 hQ2 C2
  subst l2 y2 z2
  obtain ⟨X2, hS2, hZ2, hown2⟩ := rebS hS0 (by rw [e0]; exact hk0) XX2 Sq2 gq2 hZ hown
  obtain ⟨b2_0, y2_0, kc2_0, rfl, Nq2, Kq2, sq_b2_0, fq2_0, fq2_1, fq2_2, fq2_3⟩ := hQ2
  have N2 := Fr.app N0 Nq2
  have g_b2_0 : n0 ≤ b2_0 := Nat.le_trans (own_sz O0) sq_b2_0
  have sz_b2_0 : h0.size ≤ b2_0 := Nat.le_trans (Keep.refl h0 []).1 sq_b2_0
  have CH2 := CH0.trans C2
  have hk2 : T2.heap.size ≤ T2.heap.size := Nat.le_refl _
  have O2 := O0.keep Kq2 all0
  have K2 : Keep h0 T2.heap [] := (Keep.refl h0 []).trans Kq2 all0
  obtain ⟨_, _, ⟨T3, L3, k3, n3⟩, -, XX3, Sq3, gq3, ⟨Lc3, hQ3, l3, y3, z3, C3⟩, st3⟩ := callSS X2 hx (y := y2) hown2 (mvT hZ2 (wq hw 0 rfl)) (mvT hZ2 (wq hw 1 rfl)) (mvT hZ2 (wq hw 2 rfl)) (mvT hZ2 (wq hw 3 rfl)) (by decide) (own_backC (SL := []) (W := 0) (rmS1 l Z a0 hw [] cs_v hp ((z9 &&& (3 : Int32)) % (3 : Int32)) ((((z9.toUInt32 >>> ((2 : Int32) &&& 31).toUInt32).toInt32) &&& (255 : Int32)).toUInt32.toUInt16.toUInt32.toInt32) ((((z9.toUInt32 >>> ((10 : Int32) &&& 31).toUInt32).toInt32) &&& (255 : Int32)).toUInt32.toUInt16.toUInt32.toInt32) T2.heap n0 O2 (own_ch2 ((z9.toUInt32 >>> ((2 : Int32) &&& 31).toUInt32).toInt32)) (own_ch2 ((z9.toUInt32 >>> ((10 : Int32) &&& 31).toUInt32).toInt32))) hZ2 (wq hw 3 rfl) (wq hw 2 rfl) (by decide) (by decide) (own_EW hw) CH2.1 all0) (g := (mkF m 104 #[.val (.int p0), .val (.int p1), .val (.int p2), .val (.int p3), .val (.int p4), .val (.int (fx0 p2)), .val (.int (fx2 p2)), .val (.int (fx4 p2)), .val (.int z8), .val (.int z9), .val (.int (fx0 z9)), .val (.int (fx2 z9)), .val (.int (fx4 z9)), .val (.ref b2_0), .unset, .unset, .unset, .unset, .unset, .unset, .unset] [(.int (fx4 z9)), (.int (fx2 z9)), (.int (fx0 z9))])) rfl (by rw [hml]; rfl) (argsL := [(.int (fx0 z9)), (.int (fx2 z9)), (.int (fx4 z9))]) (rest := []) (lenOf pd_5 rfl) rfl (by show 2 * 0 + _ ≤ _; exact Nat.le_of_eq rfl) (hb hby at_104) (fun _ _ => ⟨rfl, rfl, (by decide : 4 + 4 ≤ _), (by decide : 8 + 8 ≤ _)⟩)
  dsimp only [Pt.U, Pt.locs, Pt.cells, Pt.slots] at XX3 Sq3 gq3 l3 y3 z3 st3 hQ3 C3
  subst l3 y3 z3
  obtain ⟨X3, hS3, hZ3, hown3⟩ := rebS hS2 hk2 XX3 Sq3 gq3 hZ2 hown2
  obtain ⟨b3_0, y3_0, kc3_0, rfl, Nq3, Kq3, sq_b3_0, fq3_0, fq3_1, fq3_2, fq3_3⟩ := hQ3
  have N3 := Fr.app N2 Nq3
  have g_b3_0 : n0 ≤ b3_0 := Nat.le_trans (own_sz O2) sq_b3_0
  have sz_b3_0 : h0.size ≤ b3_0 := Nat.le_trans K2.1 sq_b3_0
  have CH3 := CH2.trans C3
  have hk3 : T3.heap.size ≤ T3.heap.size := Nat.le_refl _
  have O3 := O2.keep Kq3 all0
  have K3 : Keep h0 T3.heap [] := K2.trans Kq3 all0
  have st4 := hcut109 b2_0 b3_0 X3 hx hZ3 hw hby hown3
  obtain ⟨T5, h5, X5, e5, E5, A5, D5, -, st5⟩ := newO X3 hx hZ3 hown3 (wq hw 34 rfl) (wq hw 35 rfl) (wq hw 36 rfl) rfl (g := (mkF m 125 #[.val (.int p0), .val (.int p1), .val (.int p2), .val (.int p3), .val (.int p4), .val (.int (fx0 p2)), .val (.int (fx2 p2)), .val (.int (fx4 p2)), .val (.int z8), .val (.int z9), .val (.int (fx0 z9)), .val (.int (fx2 z9)), .val (.int (fx4 z9)), .val (.ref b2_0), .val (.ref b3_0), .val (.int z15), .unset, .unset, .unset, .unset, .unset] [])) rfl (hb hby at_125) (by decide) (by decide)
  obtain ⟨b5, g5⟩ : ∃ z, z = T3.heap.size := ⟨_, rfl⟩
  rw [← g5] at A5 D5 st5
  have g_b5 : n0 ≤ b5 := Nat.le_trans (own_sz O3) (Nat.le_of_eq g5.symm)
  have sz_b5 : h0.size ≤ b5 := Nat.le_trans K3.1 (Nat.le_of_eq g5.symm)
  have O5 := O3.ext E5
  have K5 : Keep h0 h5 [] := K3.ext E5
  have CH5 := CH3.trans (CHr.ext E5 CH3.1)
  have hk5 := Nat.le_trans hk3 E5.1
  have F_dataSchema_b5 : Fld Z h5 b5 "com/example/epcrtools/epcrtools/exchange/RuleSetKey" "dataSchema" "I" (.int (0 : Int32)) := D5 (Or.inr (wq hw 42 rfl)) (ty := .int) (by decide)
  have F_schemaVersion_b5 : Fld Z h5 b5 "com/example/epcrtools/epcrtools/exchange/RuleSetKey" "schemaVersion" "Ljava/lang/String;" .null := D5 (Or.inr (wq hw 49 rfl)) (ty := (.object "java/lang/String")) (by decide)
  obtain ⟨_, _, ⟨T6, L6, k6, n6⟩, -, X6, ⟨Lc6, hQ6, l6, y6, z6⟩, st6⟩ := X5.specialBack hx (y := y7) rfl hown3 (mvT hZ3 (wq hw 37 rfl)) (mvT hZ3 (wq hw 38 rfl)) (mvT hZ3 (wq hw 39 rfl)) (by decide) (backOf (W := 1) (rm17 l Z a0 hw [] cs_v hp b5 p0 b2_0 h5 n0 O5 A5 F_dataSchema_b5 F_schemaVersion_b5 g_b5 ((fq2_0.keep Kq3).ext E5)) hZ3 (wq hw 39 rfl) (wq hw 36 rfl) (by decide) (by decide)) (g := (mkF m 132 #[.val (.int p0), .val (.int p1), .val (.int p2), .val (.int p3), .val (.int p4), .val (.int (fx0 p2)), .val (.int (fx2 p2)), .val (.int (fx4 p2)), .val (.int z8), .val (.int z9), .val (.int (fx0 z9)), .val (.int (fx2 z9)), .val (.int (fx4 z9)), .val (.ref b2_0), .val (.ref b3_0), .val (.int z15), .unset, .unset, .unset, .unset, .unset] [(.ref b2_0), (.int p0), (.ref b5), (.ref b5)])) rfl (by rw [hml]; rfl) (Steps.refl _) (a := b5) (argsL := [(.int p0), (.ref b2_0)]) (rest := [(.ref b5)]) (lenOf pd_7 rfl) rfl (by show 2 * 0 + _ ≤ _; exact Nat.le_of_eq rfl) (hb hby at_132) (fun _ _ => ⟨rfl, e5, (by decide : 9 + 0 ≤ _), (by decide : 18 + 0 ≤ _)⟩)
  dsimp only [Pt.U, Pt.locs, Pt.cells, Pt.slots] at X6 l6 y6 z6 st6 hQ6
  subst l6 y6 z6
  obtain ⟨rfl, Nq6, Kq6, fq6_0, fq6_1, fq6_2⟩ := hQ6
  have N6 := Fr.app N3 Nq6
  have CH6 := CH5.trans (CHr.keep Kq6 (allS (Safe.exa hZ3.alike A5 (by decide) (by decide)) all0) CH5.1)
  have hk6 := Nat.le_trans hk5 Kq6.1
  have O6 := O5.keep Kq6 (allS g_b5 all0)
  have K6 : Keep h0 T6.heap [] := K5.trans Kq6 (allS (Or.inr sz_b5) all0)
  obtain ⟨T7, h7, X7, e7, E7, A7, D7, -, st7⟩ := newO X6 hx hZ3 hown3 (wq hw 34 rfl) (wq hw 35 rfl) (wq hw 36 rfl) rfl (g := (mkF m 167 #[.val (.int p0), .val (.int p1), .val (.int p2), .val (.int p3), .val (.int p4), .val (.int (fx0 p2)), .val (.int (fx2 p2)), .val (.int (fx4 p2)), .val (.int z8), .val (.int z9), .val (.int (fx0 z9)), .val (.int (fx2 z9)), .val (.int (fx4 z9)), .val (.ref b2_0), .val (.ref b3_0), .val (.int z15), .val (.ref b5), .val (.int (p4 &&& (3 : Int32))), .unset, .unset, .unset] [])) rfl (hb hby at_167) (by decide) (by decide)
  obtain ⟨b7, g7⟩ : ∃ z, z = T6.heap.size := ⟨_, rfl⟩
  rw [← g7] at A7 D7 st7
  have g_b7 : n0 ≤ b7 := Nat.le_trans (own_sz O6) (Nat.le_of_eq g7.symm)
  have sz_b7 : h0.size ≤ b7 := Nat.le_trans K6.1 (Nat.le_of_eq g7.symm)
  have O7 := O6.ext E7
  have K7 : Keep h0 h7 [] := K6.ext E7
  have CH7 := CH6.trans (CHr.ext E7 CH6.1)
  have hk7 := Nat.le_trans hk6 E7.1
  have F_dataSchema_b7 : Fld Z h7 b7 "com/example/epcrtools/epcrtools/exchange/RuleSetKey" "dataSchema" "I" (.int (0 : Int32)) := D7 (Or.inr (wq hw 42 rfl)) (ty := .int) (by decide)
  have F_schemaVersion_b7 : Fld Z h7 b7 "com/example/epcrtools/epcrtools/exchange/RuleSetKey" "schemaVersion" "Ljava/lang/String;" .null := D7 (Or.inr (wq hw 49 rfl)) (ty := (.object "java/lang/String")) (by decide)
  obtain ⟨_, _, ⟨T8, L8, k8, n8⟩, -, X8, ⟨Lc8, hQ8, l8, y8, z8⟩, st8⟩ := X7.specialBack hx (y := y7) rfl hown3 (mvT hZ3 (wq hw 37 rfl)) (mvT hZ3 (wq hw 38 rfl)) (mvT hZ3 (wq hw 39 rfl)) (by decide) (backOf (W := 1) (rm17 l Z a0 hw [] cs_v hp b7 z15 b3_0 h7 n0 O7 A7 F_dataSchema_b7 F_schemaVersion_b7 g_b7 (((fq3_0.ext E5).keep Kq6).ext E7)) hZ3 (wq hw 39 rfl) (wq hw 36 rfl) (by decide) (by decide)) (g := (mkF m 175 #[.val (.int p0), .val (.int p1), .val (.int p2), .val (.int p3), .val (.int p4), .val (.int (fx0 p2)), .val (.int (fx2 p2)), .val (.int (fx4 p2)), .val (.int z8), .val (.int z9), .val (.int (fx0 z9)), .val (.int (fx2 z9)), .val (.int (fx4 z9)), .val (.ref b2_0), .val (.ref b3_0), .val (.int z15), .val (.ref b5), .val (.int (p4 &&& (3 : Int32))), .unset, .unset, .unset] [(.ref b3_0), (.int z15), (.ref b7), (.ref b7)])) rfl (by rw [hml]; rfl) (Steps.refl _) (a := b7) (argsL := [(.int z15), (.ref b3_0)]) (rest := [(.ref b7)]) (lenOf pd_7 rfl) rfl (by show 2 * 0 + _ ≤ _; exact Nat.le_of_eq rfl) (hb hby at_175) (fun _ _ => ⟨rfl, e7, (by decide : 10 + 0 ≤ _), (by decide : 20 + 0 ≤ _)⟩)
  dsimp only [Pt.U, Pt.locs, Pt.cells, Pt.slots] at X8 l8 y8 z8 st8 hQ8
  subst l8 y8 z8
  obtain ⟨rfl, Nq8, Kq8, fq8_0, fq8_1, fq8_2⟩ := hQ8
  have N8 := Fr.app N6 Nq8
  have CH8 := CH7.trans (CHr.keep Kq8 (allS (Safe.exa hZ3.alike A7 (by decide) (by decide)) all0) CH7.1)
  have hk8 := Nat.le_trans hk7 Kq8.1
  have O8 := O7.keep Kq8 (allS g_b7 all0)
  have K8 : Keep h0 T8.heap [] := K7.trans Kq8 (allS (Or.inr sz_b7) all0)
  have f_9 := ((fq6_1.ext E7).keep Kq8 (ninS (Nat.ne_of_lt (Nat.lt_of_lt_of_le (A5.keep Kq6).lt (Nat.le_of_eq g7.symm))) nin0))
  obtain ⟨cq10, kq10, q10a, q10b, q10c⟩ := isOf hZ3 rfl ((fq6_0.ext E7).keep Kq8)
  obtain ⟨_, _, ⟨T10, L10, k10, n10⟩, -, X10, ⟨Lc10, hQ10, l10, y10, z10⟩, st10⟩ := X8.virtualBack hx (y := y8) (z := y8) hown3 (mvT hZ3 (wq hw 50 rfl)) (mvT hZ3 (wq hw 51 rfl)) (notFace_of_selects (args := #[]) (mvT hZ3 (wq hw 53 rfl))) (mvT hZ3 (wq hw 53 rfl)) (mvT hZ3 (wq hw 52 rfl)) (by decide) (backOf (W := 0) (rm40 l Z a0 hw [] cs_v hp b5 b7 p0 z15 T8.heap n0 O8 fq8_0 f_9 fq8_1 hc6) hZ3 (wq hw 54 rfl) (wq hw 36 rfl) (by decide) (by decide)) q10a q10c (g := (mkF m 254 #[.val (.int p0), .val (.int p1), .val (.int p2), .val (.int p3), .val (.int p4), .val (.int (fx0 p2)), .val (.int (fx2 p2)), .val (.int (fx4 p2)), .val (.int z8), .val (.int z9), .val (.int (fx0 z9)), .val (.int (fx2 z9)), .val (.int (fx4 z9)), .val (.ref b2_0), .val (.ref b3_0), .val (.int z15), .val (.ref b5), .val (.int (p4 &&& (3 : Int32))), .val (.ref b7), .val (.int (0 : Int32)), .val (.int (0 : Int32))] [(.ref b7), (.ref b5)])) rfl (by rw [hml]; rfl) (Steps.refl _) (argsL := [(.ref b7)]) (rest := []) (lenOf pd_8 rfl) rfl (by show 2 * 0 + _ ≤ _; exact Nat.le_of_eq rfl) (hb hby at_254) (fun _ _ => ⟨rfl, rfl, (by decide : 10 + 0 ≤ _), (by decide : 20 + 0 ≤ _)⟩)
  dsimp only [Pt.U, Pt.locs, Pt.cells, Pt.slots] at X10 l10 y10 z10 st10 hQ10
  subst l10 y10 z10
  obtain ⟨rfl, Nq10, eq10⟩ := hQ10
  have N10 := Fr.app N8 Nq10
  obtain ⟨fs, hr, hrun, hended, hE⟩ := Stand.leaveW (s := s) X10 hS3 (by rw [eq10]; exact hk8) (v := some (.int (1 : Int32))) (fun h => by rw [Bd.returns] at h; cases h)
  refine ⟨_, _, pre0 _ ?_, hrun, hended, _, _, rfl, ?_, hE.1, hE.2.1, hE.2.2.1, hE.2.2.2.mono (by decide) (by decide)⟩
  · show Sp p e below s₁ (mkF m 0 #[.val (.int p0), .val (.int p1), .val (.int p2), .val (.int p3), .val (.int p4), .unset, .unset, .unset, .unset, .unset, .unset, .unset, .unset, .unset, .unset, .unset, .unset, .unset, .unset, .unset, .unset] []) _
    refine XS.iloadN X0.here hx rfl (hb hby at_0) rfl ?_
    refine XS.iconst X0.here hx rfl (hb hby at_1) ?_
    refine XS.iand X0.here hx rfl (hb hby at_2) rfl ?_
    refine XS.iconst X0.here hx rfl (hb hby at_3) ?_
    show Sp p e below s₁ (mkF m 4 #[.val (.int p0), .val (.int p1), .val (.int p2), .val (.int p3), .val (.int p4), .unset, .unset, .unset, .unset, .unset, .unset, .unset, .unset, .unset, .unset, .unset, .unset, .unset, .unset, .unset, .unset] [(.int (3 : Int32)), (.int (p2 &&& (3 : Int32)))]) _
    refine iremM X0 hx rfl (hb hby at_4) rfl (by decide) ?_
    show Sp p e below s₁ (mkF m 5 #[.val (.int p0), .val (.int p1), .val (.int p2), .val (.int p3), .val (.int p4), .unset, .unset, .unset, .unset, .unset, .unset, .unset, .unset, .unset, .unset, .unset, .unset, .unset, .unset, .unset, .unset] [(.int (fx0 p2))]) _
    refine XS.istore X0.here hx rfl (hb hby at_5) rfl (l' := #[.val (.int p0), .val (.int p1), .val (.int p2), .val (.int p3), .val (.int p4), .val (.int (fx0 p2)), .unset, .unset, .unset, .unset, .unset, .unset, .unset, .unset, .unset, .unset, .unset, .unset, .unset, .unset, .unset]) rfl ?_
    refine XS.iloadN X0.here hx rfl (hb hby at_7) rfl ?_
    refine XS.iconst X0.here hx rfl (hb hby at_8) ?_
    refine XS.iushr X0.here hx rfl (hb hby at_9) rfl ?_
    show Sp p e below s₁ (mkF m 10 #[.val (.int p0), .val (.int p1), .val (.int p2), .val (.int p3), .val (.int p4), .val (.int (fx0 p2)), .unset, .unset, .unset, .unset, .unset, .unset, .unset, .unset, .unset, .unset, .unset, .unset, .unset, .unset, .unset] [(.int (fx1 p2))]) _
    refine XS.sipush X0.here hx rfl (hb hby at_10) ?_
    refine XS.iand X0.here hx rfl (hb hby at_13) rfl ?_
    refine XS.i2c X0.here hx rfl (hb hby at_14) rfl ?_
    refine XS.istore X0.here hx rfl (hb hby at_15) rfl (l' := #[.val (.int p0), .val (.int p1), .val (.int p2), .val (.int p3), .val (.int p4), .val (.int (fx0 p2)), .val (.int (fx2 p2)), .unset, .unset, .unset, .unset, .unset, .unset, .unset, .unset, .unset, .unset, .unset, .unset, .unset, .unset]) rfl ?_
    show Sp p e below s₁ (mkF m 17 #[.val (.int p0), .val (.int p1), .val (.int p2), .val (.int p3), .val (.int p4), .val (.int (fx0 p2)), .val (.int (fx2 p2)), .unset, .unset, .unset, .unset, .unset, .unset, .unset, .unset, .unset, .unset, .unset, .unset, .unset, .unset] []) _
    refine XS.iloadN X0.here hx rfl (hb hby at_17) rfl ?_
    refine XS.bipush X0.here hx rfl (hb hby at_18) ?_
    refine XS.iushr X0.here hx rfl (hb hby at_20) rfl ?_
    refine XS.sipush X0.here hx rfl (hb hby at_21) ?_
    show Sp p e below s₁ (mkF m 24 #[.val (.int p0), .val (.int p1), .val (.int p2), .val (.int p3), .val (.int p4), .val (.int (fx0 p2)), .val (.int (fx2 p2)), .unset, .unset, .unset, .unset, .unset, .unset, .unset, .unset, .unset, .unset, .unset, .unset, .unset, .unset] [(.int (255 : Int32)), (.int (fx3 p2))]) _
    refine XS.iand X0.here hx rfl (hb hby at_24) rfl ?_
    refine XS.i2c X0.here hx rfl (hb hby at_25) rfl ?_
    refine XS.istore X0.here hx rfl (hb hby at_26) rfl (l' := #[.val (.int p0), .val (.int p1), .val (.int p2), .val (.int p3), .val (.int p4), .val (.int (fx0 p2)), .val (.int (fx2 p2)), .val (.int (fx4 p2)), .unset, .unset, .unset, .unset, .unset, .unset, .unset, .unset, .unset, .unset, .unset, .unset, .unset]) rfl ?_
    show Sp p e below s₁ (mkF m 28 #[.val (.int p0), .val (.int p1), .val (.int p2), .val (.int p3), .val (.int p4), .val (.int (fx0 p2)), .val (.int (fx2 p2)), .val (.int (fx4 p2)), .unset, .unset, .unset, .unset, .unset, .unset, .unset, .unset, .unset, .unset, .unset, .unset, .unset] []) _
    refine st1 _ ?_
    show Sp p e below s₁ (mkF m 56 #[.val (.int p0), .val (.int p1), .val (.int p2), .val (.int p3), .val (.int p4), .val (.int (fx0 p2)), .val (.int (fx2 p2)), .val (.int (fx4 p2)), .val (.int z8), .val (.int z9), .unset, .unset, .unset, .unset, .unset, .unset, .unset, .unset, .unset, .unset, .unset] []) _
    refine XS.iload X0.here hx rfl (hb hby at_56) rfl ?_
    refine XS.iconst X0.here hx rfl (hb hby at_58) ?_
    refine XS.iand X0.here hx rfl (hb hby at_59) rfl ?_
    refine XS.iconst X0.here hx rfl (hb hby at_60) ?_
    show Sp p e below s₁ (mkF m 61 #[.val (.int p0), .val (.int p1), .val (.int p2), .val (.int p3), .val (.int p4), .val (.int (fx0 p2)), .val (.int (fx2 p2)), .val (.int (fx4 p2)), .val (.int z8), .val (.int z9), .unset, .unset, .unset, .unset, .unset, .unset, .unset, .unset, .unset, .unset, .unset] [(.int (3 : Int32)), (.int (z9 &&& (3 : Int32)))]) _
    refine iremM X0 hx rfl (hb hby at_61) rfl (by decide) ?_
    show Sp p e below s₁ (mkF m 62 #[.val (.int p0), .val (.int p1), .val (.int p2), .val (.int p3), .val (.int p4), .val (.int (fx0 p2)), .val (.int (fx2 p2)), .val (.int (fx4 p2)), .val (.int z8), .val (.int z9), .unset, .unset, .unset, .unset, .unset, .unset, .unset, .unset, .unset, .unset, .unset] [(.int (fx0 z9))]) _
    refine XS.istore X0.here hx rfl (hb hby at_62) rfl (l' := #[.val (.int p0), .val (.int p1), .val (.int p2), .val (.int p3), .val (.int p4), .val (.int (fx0 p2)), .val (.int (fx2 p2)), .val (.int (fx4 p2)), .val (.int z8), .val (.int z9), .val (.int (fx0 z9)), .unset, .unset, .unset, .unset, .unset, .unset, .unset, .unset, .unset, .unset]) rfl ?_
    refine XS.iload X0.here hx rfl (hb hby at_64) rfl ?_
    refine XS.iconst X0.here hx rfl (hb hby at_66) ?_
    refine XS.iushr X0.here hx rfl (hb hby at_67) rfl ?_
    show Sp p e below s₁ (mkF m 68 #[.val (.int p0), .val (.int p1), .val (.int p2), .val (.int p3), .val (.int p4), .val (.int (fx0 p2)), .val (.int (fx2 p2)), .val (.int (fx4 p2)), .val (.int z8), .val (.int z9), .val (.int (fx0 z9)), .unset, .unset, .unset, .unset, .unset, .unset, .unset, .unset, .unset, .unset] [(.int (fx1 z9))]) _
    refine XS.sipush X0.here hx rfl (hb hby at_68) ?_
    refine XS.iand X0.here hx rfl (hb hby at_71) rfl ?_
    refine XS.i2c X0.here hx rfl (hb hby at_72) rfl ?_
    refine XS.istore X0.here hx rfl (hb hby at_73) rfl (l' := #[.val (.int p0), .val (.int p1), .val (.int p2), .val (.int p3), .val (.int p4), .val (.int (fx0 p2)), .val (.int (fx2 p2)), .val (.int (fx4 p2)), .val (.int z8), .val (.int z9), .val (.int (fx0 z9)), .val (.int (fx2 z9)), .unset, .unset, .unset, .unset, .unset, .unset, .unset, .unset, .unset]) rfl ?_
    show Sp p e below s₁ (mkF m 75 #[.val (.int p0), .val (.int p1), .val (.int p2), .val (.int p3), .val (.int p4), .val (.int (fx0 p2)), .val (.int (fx2 p2)), .val (.int (fx4 p2)), .val (.int z8), .val (.int z9), .val (.int (fx0 z9)), .val (.int (fx2 z9)), .unset, .unset, .unset, .unset, .unset, .unset, .unset, .unset, .unset] []) _
    refine XS.iload X0.here hx rfl (hb hby at_75) rfl ?_
    refine XS.bipush X0.here hx rfl (hb hby at_77) ?_
    refine XS.iushr X0.here hx rfl (hb hby at_79) rfl ?_
    refine XS.sipush X0.here hx rfl (hb hby at_80) ?_
    show Sp p e below s₁ (mkF m 83 #[.val (.int p0), .val (.int p1), .val (.int p2), .val (.int p3), .val (.int p4), .val (.int (fx0 p2)), .val (.int (fx2 p2)), .val (.int (fx4 p2)), .val (.int z8), .val (.int z9), .val (.int (fx0 z9)), .val (.int (fx2 z9)), .unset, .unset, .unset, .unset, .unset, .unset, .unset, .unset, .unset] [(.int (255 : Int32)), (.int (fx3 z9))]) _
    refine XS.iand X0.here hx rfl (hb hby at_83) rfl ?_
    refine XS.i2c X0.here hx rfl (hb hby at_84) rfl ?_
    refine XS.istore X0.here hx rfl (hb hby at_85) rfl (l' := #[.val (.int p0), .val (.int p1), .val (.int p2), .val (.int p3), .val (.int p4), .val (.int (fx0 p2)), .val (.int (fx2 p2)), .val (.int (fx4 p2)), .val (.int z8), .val (.int z9), .val (.int (fx0 z9)), .val (.int (fx2 z9)), .val (.int (fx4 z9)), .unset, .unset, .unset, .unset, .unset, .unset, .unset, .unset]) rfl ?_
    refine XS.iload X0.here hx rfl (hb hby at_87) rfl ?_
    show Sp p e below s₁ (mkF m 89 #[.val (.int p0), .val (.int p1), .val (.int p2), .val (.int p3), .val (.int p4), .val (.int (fx0 p2)), .val (.int (fx2 p2)), .val (.int (fx4 p2)), .val (.int z8), .val (.int z9), .val (.int (fx0 z9)), .val (.int (fx2 z9)), .val (.int (fx4 z9)), .unset, .unset, .unset, .unset, .unset, .unset, .unset, .unset] [(.int (fx0 p2))]) _
    refine XS.iload X0.here hx rfl (hb hby at_89) rfl ?_
    refine XS.iload X0.here hx rfl (hb hby at_91) rfl ?_
    show Sp p e below s₁ (mkF m 93 #[.val (.int p0), .val (.int p1), .val (.int p2), .val (.int p3), .val (.int p4), .val (.int (fx0 p2)), .val (.int (fx2 p2)), .val (.int (fx4 p2)), .val (.int z8), .val (.int z9), .val (.int (fx0 z9)), .val (.int (fx2 z9)), .val (.int (fx4 z9)), .unset, .unset, .unset, .unset, .unset, .unset, .unset, .unset] [(.int (fx4 p2)), (.int (fx2 p2)), (.int (fx0 p2))]) _
    refine st2.trans ?_
    show Sp p e below T2 (mkF m 96 #[.val (.int p0), .val (.int p1), .val (.int p2), .val (.int p3), .val (.int p4), .val (.int (fx0 p2)), .val (.int (fx2 p2)), .val (.int (fx4 p2)), .val (.int z8), .val (.int z9), .val (.int (fx0 z9)), .val (.int (fx2 z9)), .val (.int (fx4 z9)), .unset, .unset, .unset, .unset, .unset, .unset, .unset, .unset] [(.ref b2_0)]) _
    refine XS.astore X2.here hx rfl (hb hby at_96) rfl rfl (l' := #[.val (.int p0), .val (.int p1), .val (.int p2), .val (.int p3), .val (.int p4), .val (.int (fx0 p2)), .val (.int (fx2 p2)), .val (.int (fx4 p2)), .val (.int z8), .val (.int z9), .val (.int (fx0 z9)), .val (.int (fx2 z9)), .val (.int (fx4 z9)), .val (.ref b2_0), .unset, .unset, .unset, .unset, .unset, .unset, .unset]) rfl ?_
    refine XS.iload X2.here hx rfl (hb hby at_98) rfl ?_
    refine XS.iload X2.here hx rfl (hb hby at_100) rfl ?_
    refine XS.iload X2.here hx rfl (hb hby at_102) rfl ?_
    show Sp p e below T2 (mkF m 104 #[.val (.int p0), .val (.int p1), .val (.int p2), .val (.int p3), .val (.int p4), .val (.int (fx0 p2)), .val (.int (fx2 p2)), .val (.int (fx4 p2)), .val (.int z8), .val (.int z9), .val (.int (fx0 z9)), .val (.int (fx2 z9)), .val (.int (fx4 z9)), .val (.ref b2_0), .unset, .unset, .unset, .unset, .unset, .unset, .unset] [(.int (fx4 z9)), (.int (fx2 z9)), (.int (fx0 z9))]) _
    refine st3.trans ?_
    show Sp p e below T3 (mkF m 107 #[.val (.int p0), .val (.int p1), .val (.int p2), .val (.int p3), .val (.int p4), .val (.int (fx0 p2)), .val (.int (fx2 p2)), .val (.int (fx4 p2)), .val (.int z8), .val (.int z9), .val (.int (fx0 z9)), .val (.int (fx2 z9)), .val (.int (fx4 z9)), .val (.ref b2_0), .unset, .unset, .unset, .unset, .unset, .unset, .unset] [(.ref b3_0)]) _
    refine XS.astore X3.here hx rfl (hb hby at_107) rfl rfl (l' := #[.val (.int p0), .val (.int p1), .val (.int p2), .val (.int p3), .val (.int p4), .val (.int (fx0 p2)), .val (.int (fx2 p2)), .val (.int (fx4 p2)), .val (.int z8), .val (.int z9), .val (.int (fx0 z9)), .val (.int (fx2 z9)), .val (.int (fx4 z9)), .val (.ref b2_0), .val (.ref b3_0), .unset, .unset, .unset, .unset, .unset, .unset]) rfl ?_
    show Sp p e below T3 (mkF m 109 #[.val (.int p0), .val (.int p1), .val (.int p2), .val (.int p3), .val (.int p4), .val (.int (fx0 p2)), .val (.int (fx2 p2)), .val (.int (fx4 p2)), .val (.int z8), .val (.int z9), .val (.int (fx0 z9)), .val (.int (fx2 z9)), .val (.int (fx4 z9)), .val (.ref b2_0), .val (.ref b3_0), .unset, .unset, .unset, .unset, .unset, .unset] []) _
    refine st4 _ ?_
    show Sp p e below T3 (mkF m 125 #[.val (.int p0), .val (.int p1), .val (.int p2), .val (.int p3), .val (.int p4), .val (.int (fx0 p2)), .val (.int (fx2 p2)), .val (.int (fx4 p2)), .val (.int z8), .val (.int z9), .val (.int (fx0 z9)), .val (.int (fx2 z9)), .val (.int (fx4 z9)), .val (.ref b2_0), .val (.ref b3_0), .val (.int z15), .unset, .unset, .unset, .unset, .unset] []) _
    refine st5 _ ?_
    show Sp p e below T5 (mkF m 128 #[.val (.int p0), .val (.int p1), .val (.int p2), .val (.int p3), .val (.int p4), .val (.int (fx0 p2)), .val (.int (fx2 p2)), .val (.int (fx4 p2)), .val (.int z8), .val (.int z9), .val (.int (fx0 z9)), .val (.int (fx2 z9)), .val (.int (fx4 z9)), .val (.ref b2_0), .val (.ref b3_0), .val (.int z15), .unset, .unset, .unset, .unset, .unset] [(.ref b5)]) _
    refine XS.dup X5.here hx rfl (hb hby at_128) rfl rfl ?_
    refine XS.iloadN X5.here hx rfl (hb hby at_129) rfl ?_
    refine XS.aload X5.here hx rfl (hb hby at_130) rfl rfl ?_
    show Sp p e below T5 (mkF m 132 #[.val (.int p0), .val (.int p1), .val (.int p2), .val (.int p3), .val (.int p4), .val (.int (fx0 p2)), .val (.int (fx2 p2)), .val (.int (fx4 p2)), .val (.int z8), .val (.int z9), .val (.int (fx0 z9)), .val (.int (fx2 z9)), .val (.int (fx4 z9)), .val (.ref b2_0), .val (.ref b3_0), .val (.int z15), .unset, .unset, .unset, .unset, .unset] [(.ref b2_0), (.int p0), (.ref b5), (.ref b5)]) _
    refine st6.trans ?_
    show Sp p e below T6 (mkF m 135 #[.val (.int p0), .val (.int p1), .val (.int p2), .val (.int p3), .val (.int p4), .val (.int (fx0 p2)), .val (.int (fx2 p2)), .val (.int (fx4 p2)), .val (.int z8), .val (.int z9), .val (.int (fx0 z9)), .val (.int (fx2 z9)), .val (.int (fx4 z9)), .val (.ref b2_0), .val (.ref b3_0), .val (.int z15), .unset, .unset, .unset, .unset, .unset] [(.ref b5)]) _
    refine XS.astore X6.here hx rfl (hb hby at_135) rfl rfl (l' := #[.val (.int p0), .val (.int p1), .val (.int p2), .val (.int p3), .val (.int p4), .val (.int (fx0 p2)), .val (.int (fx2 p2)), .val (.int (fx4 p2)), .val (.int z8), .val (.int z9), .val (.int (fx0 z9)), .val (.int (fx2 z9)), .val (.int (fx4 z9)), .val (.ref b2_0), .val (.ref b3_0), .val (.int z15), .val (.ref b5), .unset, .unset, .unset, .unset]) rfl ?_
    refine XS.iload X6.here hx rfl (hb hby at_137) rfl ?_
    refine XS.iconst X6.here hx rfl (hb hby at_139) ?_
    refine XS.iand X6.here hx rfl (hb hby at_140) rfl ?_
    show Sp p e below T6 (mkF m 141 #[.val (.int p0), .val (.int p1), .val (.int p2), .val (.int p3), .val (.int p4), .val (.int (fx0 p2)), .val (.int (fx2 p2)), .val (.int (fx4 p2)), .val (.int z8), .val (.int z9), .val (.int (fx0 z9)), .val (.int (fx2 z9)), .val (.int (fx4 z9)), .val (.ref b2_0), .val (.ref b3_0), .val (.int z15), .val (.ref b5), .unset, .unset, .unset, .unset] [(.int (p4 &&& (3 : Int32)))]) _
    refine XS.istore X6.here hx rfl (hb hby at_141) rfl (l' := #[.val (.int p0), .val (.int p1), .val (.int p2), .val (.int p3), .val (.int p4), .val (.int (fx0 p2)), .val (.int (fx2 p2)), .val (.int (fx4 p2)), .val (.int z8), .val (.int z9), .val (.int (fx0 z9)), .val (.int (fx2 z9)), .val (.int (fx4 z9)), .val (.ref b2_0), .val (.ref b3_0), .val (.int z15), .val (.ref b5), .val (.int (p4 &&& (3 : Int32))), .unset, .unset, .unset]) rfl ?_
    refine XS.iload X6.here hx rfl (hb hby at_143) rfl ?_
    refine XS.ifYes X6.here hx rfl (pc0 := 145) (pc' := 154) rfl (hb hby at_145) rfl ((if0 _ _).trans (feq hc3).2) (by decide) (by decide) ?_
    refine XS.iload X6.here hx rfl (hb hby at_154) rfl ?_
    show Sp p e below T6 (mkF m 156 #[.val (.int p0), .val (.int p1), .val (.int p2), .val (.int p3), .val (.int p4), .val (.int (fx0 p2)), .val (.int (fx2 p2)), .val (.int (fx4 p2)), .val (.int z8), .val (.int z9), .val (.int (fx0 z9)), .val (.int (fx2 z9)), .val (.int (fx4 z9)), .val (.ref b2_0), .val (.ref b3_0), .val (.int z15), .val (.ref b5), .val (.int (p4 &&& (3 : Int32))), .unset, .unset, .unset] [(.int (p4 &&& (3 : Int32)))]) _
    refine XS.iconst X6.here hx rfl (hb hby at_156) ?_
    refine XS.icmpYes X6.here hx rfl (pc0 := 157) (pc' := 167) rfl (hb hby at_157) rfl (feq hc4).2 (by decide) (by decide) ?_
    show Sp p e below T6 (mkF m 167 #[.val (.int p0), .val (.int p1), .val (.int p2), .val (.int p3), .val (.int p4), .val (.int (fx0 p2)), .val (.int (fx2 p2)), .val (.int (fx4 p2)), .val (.int z8), .val (.int z9), .val (.int (fx0 z9)), .val (.int (fx2 z9)), .val (.int (fx4 z9)), .val (.ref b2_0), .val (.ref b3_0), .val (.int z15), .val (.ref b5), .val (.int (p4 &&& (3 : Int32))), .unset, .unset, .unset] []) _
    refine st7 _ ?_
    show Sp p e below T7 (mkF m 170 #[.val (.int p0), .val (.int p1), .val (.int p2), .val (.int p3), .val (.int p4), .val (.int (fx0 p2)), .val (.int (fx2 p2)), .val (.int (fx4 p2)), .val (.int z8), .val (.int z9), .val (.int (fx0 z9)), .val (.int (fx2 z9)), .val (.int (fx4 z9)), .val (.ref b2_0), .val (.ref b3_0), .val (.int z15), .val (.ref b5), .val (.int (p4 &&& (3 : Int32))), .unset, .unset, .unset] [(.ref b7)]) _
    refine XS.dup X7.here hx rfl (hb hby at_170) rfl rfl ?_
    refine XS.iload X7.here hx rfl (hb hby at_171) rfl ?_
    refine XS.aload X7.here hx rfl (hb hby at_173) rfl rfl ?_
    show Sp p e below T7 (mkF m 175 #[.val (.int p0), .val (.int p1), .val (.int p2), .val (.int p3), .val (.int p4), .val (.int (fx0 p2)), .val (.int (fx2 p2)), .val (.int (fx4 p2)), .val (.int z8), .val (.int z9), .val (.int (fx0 z9)), .val (.int (fx2 z9)), .val (.int (fx4 z9)), .val (.ref b2_0), .val (.ref b3_0), .val (.int z15), .val (.ref b5), .val (.int (p4 &&& (3 : Int32))), .unset, .unset, .unset] [(.ref b3_0), (.int z15), (.ref b7), (.ref b7)]) _
    refine st8.trans ?_
    show Sp p e below T8 (mkF m 178 #[.val (.int p0), .val (.int p1), .val (.int p2), .val (.int p3), .val (.int p4), .val (.int (fx0 p2)), .val (.int (fx2 p2)), .val (.int (fx4 p2)), .val (.int z8), .val (.int z9), .val (.int (fx0 z9)), .val (.int (fx2 z9)), .val (.int (fx4 z9)), .val (.ref b2_0), .val (.ref b3_0), .val (.int z15), .val (.ref b5), .val (.int (p4 &&& (3 : Int32))), .unset, .unset, .unset] [(.ref b7)]) _
    refine XS.astore X8.here hx rfl (hb hby at_178) rfl rfl (l' := #[.val (.int p0), .val (.int p1), .val (.int p2), .val (.int p3), .val (.int p4), .val (.int (fx0 p2)), .val (.int (fx2 p2)), .val (.int (fx4 p2)), .val (.int z8), .val (.int z9), .val (.int (fx0 z9)), .val (.int (fx2 z9)), .val (.int (fx4 z9)), .val (.ref b2_0), .val (.ref b3_0), .val (.int z15), .val (.ref b5), .val (.int (p4 &&& (3 : Int32))), .val (.ref b7), .unset, .unset]) rfl ?_
    refine XS.iload X8.here hx rfl (hb hby at_180) rfl ?_
    refine XS.iconst X8.here hx rfl (hb hby at_182) ?_
    refine XS.icmpYes X8.here hx rfl (pc0 := 183) (pc' := 192) rfl (hb hby at_183) rfl (flt (own_nlti (n := 2) rfl (by have r := (own_and (x := p4) (m := (3 : Int32)) (M := 3) rfl (by decide)); have q0 := own_nei hc3 (n := 0) rfl; have q1 := own_nei hc4 (n := 1) rfl; omega) : ¬ ((p4 &&& (3 : Int32)) < (2 : Int32)))).2.1 (by decide) (by decide) ?_
    show Sp p e below T8 (mkF m 192 #[.val (.int p0), .val (.int p1), .val (.int p2), .val (.int p3), .val (.int p4), .val (.int (fx0 p2)), .val (.int (fx2 p2)), .val (.int (fx4 p2)), .val (.int z8), .val (.int z9), .val (.int (fx0 z9)), .val (.int (fx2 z9)), .val (.int (fx4 z9)), .val (.ref b2_0), .val (.ref b3_0), .val (.int z15), .val (.ref b5), .val (.int (p4 &&& (3 : Int32))), .val (.ref b7), .unset, .unset] []) _
    refine XS.iload X8.here hx rfl (hb hby at_192) rfl ?_
    refine XS.iload X8.here hx rfl (hb hby at_194) rfl ?_
    refine XS.icmpYes X8.here hx rfl (pc0 := 196) (pc' := 229) rfl (hb hby at_196) rfl (feq hc5).2 (by decide) (by decide) ?_
    refine XS.iconst X8.here hx rfl (hb hby at_229) ?_
    show Sp p e below T8 (mkF m 230 #[.val (.int p0), .val (.int p1), .val (.int p2), .val (.int p3), .val (.int p4), .val (.int (fx0 p2)), .val (.int (fx2 p2)), .val (.int (fx4 p2)), .val (.int z8), .val (.int z9), .val (.int (fx0 z9)), .val (.int (fx2 z9)), .val (.int (fx4 z9)), .val (.ref b2_0), .val (.ref b3_0), .val (.int z15), .val (.ref b5), .val (.int (p4 &&& (3 : Int32))), .val (.ref b7), .unset, .unset] [(.int (0 : Int32))]) _
    refine XS.istore X8.here hx rfl (hb hby at_230) rfl (l' := #[.val (.int p0), .val (.int p1), .val (.int p2), .val (.int p3), .val (.int p4), .val (.int (fx0 p2)), .val (.int (fx2 p2)), .val (.int (fx4 p2)), .val (.int z8), .val (.int z9), .val (.int (fx0 z9)), .val (.int (fx2 z9)), .val (.int (fx4 z9)), .val (.ref b2_0), .val (.ref b3_0), .val (.int z15), .val (.ref b5), .val (.int (p4 &&& (3 : Int32))), .val (.ref b7), .unset, .val (.int (0 : Int32))]) rfl ?_
    refine XS.iloadN X8.here hx rfl (hb hby at_232) rfl ?_
    refine XS.iload X8.here hx rfl (hb hby at_233) rfl ?_
    refine XS.icmpYes X8.here hx rfl (pc0 := 235) (pc' := 247) rfl (hb hby at_235) rfl (feq hc6).2 (by decide) (by decide) ?_
    show Sp p e below T8 (mkF m 247 #[.val (.int p0), .val (.int p1), .val (.int p2), .val (.int p3), .val (.int p4), .val (.int (fx0 p2)), .val (.int (fx2 p2)), .val (.int (fx4 p2)), .val (.int z8), .val (.int z9), .val (.int (fx0 z9)), .val (.int (fx2 z9)), .val (.int (fx4 z9)), .val (.ref b2_0), .val (.ref b3_0), .val (.int z15), .val (.ref b5), .val (.int (p4 &&& (3 : Int32))), .val (.ref b7), .unset, .val (.int (0 : Int32))] []) _
    refine XS.iconst X8.here hx rfl (hb hby at_247) ?_
    refine XS.istore X8.here hx rfl (hb hby at_248) rfl (l' := #[.val (.int p0), .val (.int p1), .val (.int p2), .val (.int p3), .val (.int p4), .val (.int (fx0 p2)), .val (.int (fx2 p2)), .val (.int (fx4 p2)), .val (.int z8), .val (.int z9), .val (.int (fx0 z9)), .val (.int (fx2 z9)), .val (.int (fx4 z9)), .val (.ref b2_0), .val (.ref b3_0), .val (.int z15), .val (.ref b5), .val (.int (p4 &&& (3 : Int32))), .val (.ref b7), .val (.int (0 : Int32)), .val (.int (0 : Int32))]) rfl ?_
    refine XS.aload X8.here hx rfl (hb hby at_250) rfl rfl ?_
    refine XS.aload X8.here hx rfl (hb hby at_252) rfl rfl ?_
    show Sp p e below T8 (mkF m 254 #[.val (.int p0), .val (.int p1), .val (.int p2), .val (.int p3), .val (.int p4), .val (.int (fx0 p2)), .val (.int (fx2 p2)), .val (.int (fx4 p2)), .val (.int z8), .val (.int z9), .val (.int (fx0 z9)), .val (.int (fx2 z9)), .val (.int (fx4 z9)), .val (.ref b2_0), .val (.ref b3_0), .val (.int z15), .val (.ref b5), .val (.int (p4 &&& (3 : Int32))), .val (.ref b7), .val (.int (0 : Int32)), .val (.int (0 : Int32))] [(.ref b7), (.ref b5)]) _
    refine st10.trans ?_
    show Sp p e below T10 (mkF m 257 #[.val (.int p0), .val (.int p1), .val (.int p2), .val (.int p3), .val (.int p4), .val (.int (fx0 p2)), .val (.int (fx2 p2)), .val (.int (fx4 p2)), .val (.int z8), .val (.int z9), .val (.int (fx0 z9)), .val (.int (fx2 z9)), .val (.int (fx4 z9)), .val (.ref b2_0), .val (.ref b3_0), .val (.int z15), .val (.ref b5), .val (.int (p4 &&& (3 : Int32))), .val (.ref b7), .val (.int (0 : Int32)), .val (.int (0 : Int32))] [(.int (0 : Int32))]) _
    refine XS.iload X10.here hx rfl (hb hby at_257) rfl ?_
    refine XS.icmpNo X10.here hx rfl (hb hby at_259) rfl (teq (by decide : (0 : Int32) = (0 : Int32))).2 ?_
    refine XS.iconst X10.here hx rfl (hb hby at_262) ?_
    refine XS.goto X10.here hx rfl (pc0 := 263) (pc' := 267) rfl (hb hby at_263) (by decide) (by decide) ?_
    show Sp p e below T10 (mkF m 267 #[.val (.int p0), .val (.int p1), .val (.int p2), .val (.int p3), .val (.int p4), .val (.int (fx0 p2)), .val (.int (fx2 p2)), .val (.int (fx4 p2)), .val (.int z8), .val (.int z9), .val (.int (fx0 z9)), .val (.int (fx2 z9)), .val (.int (fx4 z9)), .val (.ref b2_0), .val (.ref b3_0), .val (.int z15), .val (.ref b5), .val (.int (p4 &&& (3 : Int32))), .val (.ref b7), .val (.int (0 : Int32)), .val (.int (0 : Int32))] [(.int (1 : Int32))]) _
    exact retN X10 hx (t := .boolean) Bd.returns (by simp) (hb hby at_267) hr
  · skip
    exact ⟨rfl, N10⟩
set_option maxRecDepth 65536 in
set_option maxHeartbeats 40000000 in
theorem rm42 (l : Launch) (Z : State) (a0 : Array Value) (hw : ∀ d ∈ tables_1, d.before a0 Z = true) (ws : List Jvm.Cond) (cs_v : Int32) (hp : Perm Z cs_v) (p0 : Int32) (p1 : Int32) (p2 : Int32) (p3 : Int32) (p4 : Int32) (z8 : Int32) (z9 : Int32) (z15 : Int32) (h0 : Heap) (n0 : Nat) (O0 : Old Z n0 h0) (hcut28 : Cut_0_28 p0 p1 p2 p3 p4 ((p2 &&& (3 : Int32)) % (3 : Int32)) ((((p2.toUInt32 >>> ((2 : Int32) &&& 31).toUInt32).toInt32) &&& (255 : Int32)).toUInt32.toUInt16.toUInt32.toInt32) ((((p2.toUInt32 >>> ((10 : Int32) &&& 31).toUInt32).toInt32) &&& (255 : Int32)).toUInt32.toUInt16.toUInt32.toInt32) z8 z9) (hcut109 : Cut_0_109 p0 p1 p2 p3 p4 ((p2 &&& (3 : Int32)) % (3 : Int32)) ((((p2.toUInt32 >>> ((2 : Int32) &&& 31).toUInt32).toInt32) &&& (255 : Int32)).toUInt32.toUInt16.toUInt32.toInt32) ((((p2.toUInt32 >>> ((10 : Int32) &&& 31).toUInt32).toInt32) &&& (255 : Int32)).toUInt32.toUInt16.toUInt32.toInt32) z8 z9 ((z9 &&& (3 : Int32)) % (3 : Int32)) ((((z9.toUInt32 >>> ((2 : Int32) &&& 31).toUInt32).toInt32) &&& (255 : Int32)).toUInt32.toUInt16.toUInt32.toInt32) ((((z9.toUInt32 >>> ((10 : Int32) &&& 31).toUInt32).toInt32) &&& (255 : Int32)).toUInt32.toUInt16.toUInt32.toInt32) z15) (hc3 : ¬ ((p4 &&& (3 : Int32)) = (0 : Int32))) (hc4 : ¬ ((p4 &&& (3 : Int32)) = (1 : Int32))) (hc5 : ((p2 &&& (3 : Int32)) % (3 : Int32)) = ((z9 &&& (3 : Int32)) % (3 : Int32))) (hc6 : ¬ (((p2 &&& (3 : Int32)) % (3 : Int32)) < (1 : Int32))) (hc7 : ((((p2.toUInt32 >>> ((2 : Int32) &&& 31).toUInt32).toInt32) &&& (255 : Int32)).toUInt32.toUInt16.toUInt32.toInt32) = ((((z9.toUInt32 >>> ((2 : Int32) &&& 31).toUInt32).toInt32) &&& (255 : Int32)).toUInt32.toUInt16.toUInt32.toInt32)) (hc8 : ((p2 &&& (3 : Int32)) % (3 : Int32)) < (2 : Int32)) (hc9 : p0 = z15) :
    MetFree l x (head1 (Jvm.Cond.code x code maxLocals ret :: ws) room_1) (fun a U => a = #[(.int p0), (.int p1), (.int p2), (.int p3), (.int p4)] ∧ Z.Warmed39 U.vm ∧ U.heap = h0 ∧ CHv Z own_EL U.vm h0) (fun _ _ _ _ _ => True) (fun _ U o U' => ∃ v L, o = .returned v ∧ (v = some (.int (1 : Int32)) ∧ Fr n0 L) ∧ ReturnedEndW U o U' L 32 1152) := by
  refine MetFree.of_bodySF (plainFor_of_name pn_1) hisR ?_
  intro p e s m args below meth c s₁ Bd hml0 hP hK
  obtain ⟨rfl, hZo, hh, hCH⟩ := hP
  have hx := Bd.exec
  have hby := Bd.bytes
  have hml : c.maxLocals = 21 := hml0
  have hown : (s.setVm s.vm).vm.findClass "com/example/epcrtools/epcrtools/exchange/RuleSetKeyEqualsPinLaw" = some m.cls := findClass_of_methodNamed Bd.named
  have hnm := (name_of_methodNamed Bd.named Bd.method).1
  have X0 : Stand p l e room_1 (s.setVm s.vm) m #[(.int p0), (.int p1), (.int p2), (.int p3), (.int p4)] below meth c s₁ [] 0 0 := Stand.of_body Bd
  have e0 : s₁.heap = h0 := by rw [← hh, Bd.state]; rfl
  have N0 := Fr.nil n0
  have hZ : Z.Warmed39 (s.setVm s.vm).vm := hZo
  have CH0 := CHr.refl hCH
  have hS0 : s.Since s.vm 0 := (State.WarmedH.refl s).since 0
  have hk0 : 0 ≤ h0.size := Nat.zero_le _
  have hp' := hp
  obtain ⟨S_COMPACT_STRINGS, h_cs⟩ := hp'
  have pre0 : ∀ t, Steps p.tables e below (s₁.setTop (mkF m 0 #[.val (.int p0), .val (.int p1), .val (.int p2), .val (.int p3), .val (.int p4), .unset, .unset, .unset, .unset, .unset, .unset, .unset, .unset, .unset, .unset, .unset, .unset, .unset, .unset, .unset, .unset] [])) t → Steps p.tables e below (s₁.setTop (entryFrame m #[(.int p0), (.int p1), (.int p2), (.int p3), (.int p4)] maxLocals)) t := fun t k => castTop (ef_0_0 m p0 p1 p2 p3 p4) k
  have st1 := hcut28 X0 hx hZ hw hby hown
  obtain ⟨_, _, ⟨T2, L2, k2, n2⟩, -, XX2, Sq2, gq2, ⟨Lc2, hQ2, l2, y2, z2, C2⟩, st2⟩ := callSS X0 hx (y := y2) hown (mvT hZ (wq hw 0 rfl)) (mvT hZ (wq hw 1 rfl)) (mvT hZ (wq hw 2 rfl)) (mvT hZ (wq hw 3 rfl)) (by decide) (own_backC (SL := []) (W := 0) (rmS1 l Z a0 hw [] cs_v hp ((p2 &&& (3 : Int32)) % (3 : Int32)) ((((p2.toUInt32 >>> ((2 : Int32) &&& 31).toUInt32).toInt32) &&& (255 : Int32)).toUInt32.toUInt16.toUInt32.toInt32) ((((p2.toUInt32 >>> ((10 : Int32) &&& 31).toUInt32).toInt32) &&& (255 : Int32)).toUInt32.toUInt16.toUInt32.toInt32) h0 n0 O0 (own_ch2 ((p2.toUInt32 >>> ((2 : Int32) &&& 31).toUInt32).toInt32)) (own_ch2 ((p2.toUInt32 >>> ((10 : Int32) &&& 31).toUInt32).toInt32))) hZ (wq hw 3 rfl) (wq hw 2 rfl) (by decide) (by decide) (own_EW hw) CH0.1 all0) (g := (mkF m 93 #[.val (.int p0), .val (.int p1), .val (.int p2), .val (.int p3), .val (.int p4), .val (.int (fx0 p2)), .val (.int (fx2 p2)), .val (.int (fx4 p2)), .val (.int z8), .val (.int z9), .val (.int (fx0 z9)), .val (.int (fx2 z9)), .val (.int (fx4 z9)), .unset, .unset, .unset, .unset, .unset, .unset, .unset, .unset] [(.int (fx4 p2)), (.int (fx2 p2)), (.int (fx0 p2))])) rfl (by rw [hml]; rfl) (argsL := [(.int (fx0 p2)), (.int (fx2 p2)), (.int (fx4 p2))]) (rest := []) (lenOf pd_5 rfl) rfl (by show 2 * 0 + _ ≤ _; exact Nat.le_of_eq rfl) (hb hby at_93) (fun _ _ => ⟨rfl, e0, (by decide : 0 + 4 ≤ _), (by decide : 0 + 8 ≤ _)⟩)
  dsimp only [Pt.U, Pt.locs, Pt.cells, Pt.slots] at XX2 Sq2 gq2 l2 y2 z2 st2 hQ2 C2
  subst l2 y2 z2
  obtain ⟨X2, hS2, hZ2, hown2⟩ := rebS hS0 (by rw [e0]; exact hk0) XX2 Sq2 gq2 hZ hown
  obtain ⟨b2_0, y2_0, kc2_0, rfl, Nq2, Kq2, sq_b2_0, fq2_0, fq2_1, fq2_2, fq2_3⟩ := hQ2
  have N2 := Fr.app N0 Nq2
  have g_b2_0 : n0 ≤ b2_0 := Nat.le_trans (own_sz O0) sq_b2_0
  have sz_b2_0 : h0.size ≤ b2_0 := Nat.le_trans (Keep.refl h0 []).1 sq_b2_0
  have CH2 := CH0.trans C2
  have hk2 : T2.heap.size ≤ T2.heap.size := Nat.le_refl _
  have O2 := O0.keep Kq2 all0
  have K2 : Keep h0 T2.heap [] := (Keep.refl h0 []).trans Kq2 all0
  obtain ⟨_, _, ⟨T3, L3, k3, n3⟩, -, XX3, Sq3, gq3, ⟨Lc3, hQ3, l3, y3, z3, C3⟩, st3⟩ := callSS X2 hx (y := y2) hown2 (mvT hZ2 (wq hw 0 rfl)) (mvT hZ2 (wq hw 1 rfl)) (mvT hZ2 (wq hw 2 rfl)) (mvT hZ2 (wq hw 3 rfl)) (by decide) (own_backC (SL := []) (W := 0) (rmS1 l Z a0 hw [] cs_v hp ((z9 &&& (3 : Int32)) % (3 : Int32)) ((((z9.toUInt32 >>> ((2 : Int32) &&& 31).toUInt32).toInt32) &&& (255 : Int32)).toUInt32.toUInt16.toUInt32.toInt32) ((((z9.toUInt32 >>> ((10 : Int32) &&& 31).toUInt32).toInt32) &&& (255 : Int32)).toUInt32.toUInt16.toUInt32.toInt32) T2.heap n0 O2 (own_ch2 ((z9.toUInt32 >>> ((2 : Int32) &&& 31).toUInt32).toInt32)) (own_ch2 ((z9.toUInt32 >>> ((10 : Int32) &&& 31).toUInt32).toInt32))) hZ2 (wq hw 3 rfl) (wq hw 2 rfl) (by decide) (by decide) (own_EW hw) CH2.1 all0) (g := (mkF m 104 #[.val (.int p0), .val (.int p1), .val (.int p2), .val (.int p3), .val (.int p4), .val (.int (fx0 p2)), .val (.int (fx2 p2)), .val (.int (fx4 p2)), .val (.int z8), .val (.int z9), .val (.int (fx0 z9)), .val (.int (fx2 z9)), .val (.int (fx4 z9)), .val (.ref b2_0), .unset, .unset, .unset, .unset, .unset, .unset, .unset] [(.int (fx4 z9)), (.int (fx2 z9)), (.int (fx0 z9))])) rfl (by rw [hml]; rfl) (argsL := [(.int (fx0 z9)), (.int (fx2 z9)), (.int (fx4 z9))]) (rest := []) (lenOf pd_5 rfl) rfl (by show 2 * 0 + _ ≤ _; exact Nat.le_of_eq rfl) (hb hby at_104) (fun _ _ => ⟨rfl, rfl, (by decide : 4 + 4 ≤ _), (by decide : 8 + 8 ≤ _)⟩)
  dsimp only [Pt.U, Pt.locs, Pt.cells, Pt.slots] at XX3 Sq3 gq3 l3 y3 z3 st3 hQ3 C3
  subst l3 y3 z3
  obtain ⟨X3, hS3, hZ3, hown3⟩ := rebS hS2 hk2 XX3 Sq3 gq3 hZ2 hown2
  obtain ⟨b3_0, y3_0, kc3_0, rfl, Nq3, Kq3, sq_b3_0, fq3_0, fq3_1, fq3_2, fq3_3⟩ := hQ3
  have N3 := Fr.app N2 Nq3
  have g_b3_0 : n0 ≤ b3_0 := Nat.le_trans (own_sz O2) sq_b3_0
  have sz_b3_0 : h0.size ≤ b3_0 := Nat.le_trans K2.1 sq_b3_0
  have CH3 := CH2.trans C3
  have hk3 : T3.heap.size ≤ T3.heap.size := Nat.le_refl _
  have O3 := O2.keep Kq3 all0
  have K3 : Keep h0 T3.heap [] := K2.trans Kq3 all0
  have st4 := hcut109 b2_0 b3_0 X3 hx hZ3 hw hby hown3
  obtain ⟨T5, h5, X5, e5, E5, A5, D5, -, st5⟩ := newO X3 hx hZ3 hown3 (wq hw 34 rfl) (wq hw 35 rfl) (wq hw 36 rfl) rfl (g := (mkF m 125 #[.val (.int p0), .val (.int p1), .val (.int p2), .val (.int p3), .val (.int p4), .val (.int (fx0 p2)), .val (.int (fx2 p2)), .val (.int (fx4 p2)), .val (.int z8), .val (.int z9), .val (.int (fx0 z9)), .val (.int (fx2 z9)), .val (.int (fx4 z9)), .val (.ref b2_0), .val (.ref b3_0), .val (.int z15), .unset, .unset, .unset, .unset, .unset] [])) rfl (hb hby at_125) (by decide) (by decide)
  obtain ⟨b5, g5⟩ : ∃ z, z = T3.heap.size := ⟨_, rfl⟩
  rw [← g5] at A5 D5 st5
  have g_b5 : n0 ≤ b5 := Nat.le_trans (own_sz O3) (Nat.le_of_eq g5.symm)
  have sz_b5 : h0.size ≤ b5 := Nat.le_trans K3.1 (Nat.le_of_eq g5.symm)
  have O5 := O3.ext E5
  have K5 : Keep h0 h5 [] := K3.ext E5
  have CH5 := CH3.trans (CHr.ext E5 CH3.1)
  have hk5 := Nat.le_trans hk3 E5.1
  have F_dataSchema_b5 : Fld Z h5 b5 "com/example/epcrtools/epcrtools/exchange/RuleSetKey" "dataSchema" "I" (.int (0 : Int32)) := D5 (Or.inr (wq hw 42 rfl)) (ty := .int) (by decide)
  have F_schemaVersion_b5 : Fld Z h5 b5 "com/example/epcrtools/epcrtools/exchange/RuleSetKey" "schemaVersion" "Ljava/lang/String;" .null := D5 (Or.inr (wq hw 49 rfl)) (ty := (.object "java/lang/String")) (by decide)
  obtain ⟨_, _, ⟨T6, L6, k6, n6⟩, -, X6, ⟨Lc6, hQ6, l6, y6, z6⟩, st6⟩ := X5.specialBack hx (y := y7) rfl hown3 (mvT hZ3 (wq hw 37 rfl)) (mvT hZ3 (wq hw 38 rfl)) (mvT hZ3 (wq hw 39 rfl)) (by decide) (backOf (W := 1) (rm17 l Z a0 hw [] cs_v hp b5 p0 b2_0 h5 n0 O5 A5 F_dataSchema_b5 F_schemaVersion_b5 g_b5 ((fq2_0.keep Kq3).ext E5)) hZ3 (wq hw 39 rfl) (wq hw 36 rfl) (by decide) (by decide)) (g := (mkF m 132 #[.val (.int p0), .val (.int p1), .val (.int p2), .val (.int p3), .val (.int p4), .val (.int (fx0 p2)), .val (.int (fx2 p2)), .val (.int (fx4 p2)), .val (.int z8), .val (.int z9), .val (.int (fx0 z9)), .val (.int (fx2 z9)), .val (.int (fx4 z9)), .val (.ref b2_0), .val (.ref b3_0), .val (.int z15), .unset, .unset, .unset, .unset, .unset] [(.ref b2_0), (.int p0), (.ref b5), (.ref b5)])) rfl (by rw [hml]; rfl) (Steps.refl _) (a := b5) (argsL := [(.int p0), (.ref b2_0)]) (rest := [(.ref b5)]) (lenOf pd_7 rfl) rfl (by show 2 * 0 + _ ≤ _; exact Nat.le_of_eq rfl) (hb hby at_132) (fun _ _ => ⟨rfl, e5, (by decide : 9 + 0 ≤ _), (by decide : 18 + 0 ≤ _)⟩)
  dsimp only [Pt.U, Pt.locs, Pt.cells, Pt.slots] at X6 l6 y6 z6 st6 hQ6
  subst l6 y6 z6
  obtain ⟨rfl, Nq6, Kq6, fq6_0, fq6_1, fq6_2⟩ := hQ6
  have N6 := Fr.app N3 Nq6
  have CH6 := CH5.trans (CHr.keep Kq6 (allS (Safe.exa hZ3.alike A5 (by decide) (by decide)) all0) CH5.1)
  have hk6 := Nat.le_trans hk5 Kq6.1
  have O6 := O5.keep Kq6 (allS g_b5 all0)
  have K6 : Keep h0 T6.heap [] := K5.trans Kq6 (allS (Or.inr sz_b5) all0)
  obtain ⟨T7, h7, X7, e7, E7, A7, D7, -, st7⟩ := newO X6 hx hZ3 hown3 (wq hw 34 rfl) (wq hw 35 rfl) (wq hw 36 rfl) rfl (g := (mkF m 167 #[.val (.int p0), .val (.int p1), .val (.int p2), .val (.int p3), .val (.int p4), .val (.int (fx0 p2)), .val (.int (fx2 p2)), .val (.int (fx4 p2)), .val (.int z8), .val (.int z9), .val (.int (fx0 z9)), .val (.int (fx2 z9)), .val (.int (fx4 z9)), .val (.ref b2_0), .val (.ref b3_0), .val (.int z15), .val (.ref b5), .val (.int (p4 &&& (3 : Int32))), .unset, .unset, .unset] [])) rfl (hb hby at_167) (by decide) (by decide)
  obtain ⟨b7, g7⟩ : ∃ z, z = T6.heap.size := ⟨_, rfl⟩
  rw [← g7] at A7 D7 st7
  have g_b7 : n0 ≤ b7 := Nat.le_trans (own_sz O6) (Nat.le_of_eq g7.symm)
  have sz_b7 : h0.size ≤ b7 := Nat.le_trans K6.1 (Nat.le_of_eq g7.symm)
  have O7 := O6.ext E7
  have K7 : Keep h0 h7 [] := K6.ext E7
  have CH7 := CH6.trans (CHr.ext E7 CH6.1)
  have hk7 := Nat.le_trans hk6 E7.1
  have F_dataSchema_b7 : Fld Z h7 b7 "com/example/epcrtools/epcrtools/exchange/RuleSetKey" "dataSchema" "I" (.int (0 : Int32)) := D7 (Or.inr (wq hw 42 rfl)) (ty := .int) (by decide)
  have F_schemaVersion_b7 : Fld Z h7 b7 "com/example/epcrtools/epcrtools/exchange/RuleSetKey" "schemaVersion" "Ljava/lang/String;" .null := D7 (Or.inr (wq hw 49 rfl)) (ty := (.object "java/lang/String")) (by decide)
  obtain ⟨_, _, ⟨T8, L8, k8, n8⟩, -, X8, ⟨Lc8, hQ8, l8, y8, z8⟩, st8⟩ := X7.specialBack hx (y := y7) rfl hown3 (mvT hZ3 (wq hw 37 rfl)) (mvT hZ3 (wq hw 38 rfl)) (mvT hZ3 (wq hw 39 rfl)) (by decide) (backOf (W := 1) (rm17 l Z a0 hw [] cs_v hp b7 z15 b3_0 h7 n0 O7 A7 F_dataSchema_b7 F_schemaVersion_b7 g_b7 (((fq3_0.ext E5).keep Kq6).ext E7)) hZ3 (wq hw 39 rfl) (wq hw 36 rfl) (by decide) (by decide)) (g := (mkF m 175 #[.val (.int p0), .val (.int p1), .val (.int p2), .val (.int p3), .val (.int p4), .val (.int (fx0 p2)), .val (.int (fx2 p2)), .val (.int (fx4 p2)), .val (.int z8), .val (.int z9), .val (.int (fx0 z9)), .val (.int (fx2 z9)), .val (.int (fx4 z9)), .val (.ref b2_0), .val (.ref b3_0), .val (.int z15), .val (.ref b5), .val (.int (p4 &&& (3 : Int32))), .unset, .unset, .unset] [(.ref b3_0), (.int z15), (.ref b7), (.ref b7)])) rfl (by rw [hml]; rfl) (Steps.refl _) (a := b7) (argsL := [(.int z15), (.ref b3_0)]) (rest := [(.ref b7)]) (lenOf pd_7 rfl) rfl (by show 2 * 0 + _ ≤ _; exact Nat.le_of_eq rfl) (hb hby at_175) (fun _ _ => ⟨rfl, e7, (by decide : 10 + 0 ≤ _), (by decide : 20 + 0 ≤ _)⟩)
  dsimp only [Pt.U, Pt.locs, Pt.cells, Pt.slots] at X8 l8 y8 z8 st8 hQ8
  subst l8 y8 z8
  obtain ⟨rfl, Nq8, Kq8, fq8_0, fq8_1, fq8_2⟩ := hQ8
  have N8 := Fr.app N6 Nq8
  have CH8 := CH7.trans (CHr.keep Kq8 (allS (Safe.exa hZ3.alike A7 (by decide) (by decide)) all0) CH7.1)
  have hk8 := Nat.le_trans hk7 Kq8.1
  have O8 := O7.keep Kq8 (allS g_b7 all0)
  have K8 : Keep h0 T8.heap [] := K7.trans Kq8 (allS (Or.inr sz_b7) all0)
  have f_9 := ((fq6_1.ext E7).keep Kq8 (ninS (Nat.ne_of_lt (Nat.lt_of_lt_of_le (A5.keep Kq6).lt (Nat.le_of_eq g7.symm))) nin0))
  have f_10 := ((fq6_2.ext E7).keep Kq8 (ninS (Nat.ne_of_lt (Nat.lt_of_lt_of_le (A5.keep Kq6).lt (Nat.le_of_eq g7.symm))) nin0))
  have f_11 := (((((fq2_1.keep Kq3 nin0).ext E5).keep Kq6 (ninS (Nat.ne_of_lt (Nat.lt_of_lt_of_le (fq2_0.keep Kq3).lt (Nat.le_of_eq g5.symm))) nin0)).ext E7).keep Kq8 (ninS (Nat.ne_of_lt (Nat.lt_of_lt_of_le (((fq2_0.keep Kq3).ext E5).keep Kq6).lt (Nat.le_of_eq g7.symm))) nin0))
  have f_12 := ((((fq3_1.ext E5).keep Kq6 (ninS (Nat.ne_of_lt (Nat.lt_of_lt_of_le fq3_0.lt (Nat.le_of_eq g5.symm))) nin0)).ext E7).keep Kq8 (ninS (Nat.ne_of_lt (Nat.lt_of_lt_of_le ((fq3_0.ext E5).keep Kq6).lt (Nat.le_of_eq g7.symm))) nin0))
  have f_13 := (((((fq2_2.keep Kq3 nin0).ext E5).keep Kq6 (ninS (Nat.ne_of_lt (Nat.lt_of_lt_of_le (fq2_0.keep Kq3).lt (Nat.le_of_eq g5.symm))) nin0)).ext E7).keep Kq8 (ninS (Nat.ne_of_lt (Nat.lt_of_lt_of_le (((fq2_0.keep Kq3).ext E5).keep Kq6).lt (Nat.le_of_eq g7.symm))) nin0))
  have f_14 := ((((fq3_2.ext E5).keep Kq6 (ninS (Nat.ne_of_lt (Nat.lt_of_lt_of_le fq3_0.lt (Nat.le_of_eq g5.symm))) nin0)).ext E7).keep Kq8 (ninS (Nat.ne_of_lt (Nat.lt_of_lt_of_le ((fq3_0.ext E5).keep Kq6).lt (Nat.le_of_eq g7.symm))) nin0))
  have f_15 := (((((fq2_3.keep Kq3 nin0).ext E5).keep Kq6 (ninS (Nat.ne_of_lt (Nat.lt_of_lt_of_le (fq2_3.keep Kq3 nin0).lt (Nat.le_of_eq g5.symm))) nin0)).ext E7).keep Kq8 (ninS (Nat.ne_of_lt (Nat.lt_of_lt_of_le (((fq2_3.keep Kq3 nin0).ext E5).keep Kq6 (ninS (Nat.ne_of_lt (Nat.lt_of_lt_of_le (fq2_3.keep Kq3 nin0).lt (Nat.le_of_eq g5.symm))) nin0)).lt (Nat.le_of_eq g7.symm))) nin0))
  have f_16 := ((((fq3_3.ext E5).keep Kq6 (ninS (Nat.ne_of_lt (Nat.lt_of_lt_of_le fq3_3.lt (Nat.le_of_eq g5.symm))) nin0)).ext E7).keep Kq8 (ninS (Nat.ne_of_lt (Nat.lt_of_lt_of_le ((fq3_3.ext E5).keep Kq6 (ninS (Nat.ne_of_lt (Nat.lt_of_lt_of_le fq3_3.lt (Nat.le_of_eq g5.symm))) nin0)).lt (Nat.le_of_eq g7.symm))) nin0))
  obtain ⟨cq17, kq17, q17a, q17b, q17c⟩ := isOf hZ3 rfl ((fq6_0.ext E7).keep Kq8)
  obtain ⟨_, _, ⟨T17, L17, k17, n17⟩, -, X17, ⟨Lc17, hQ17, l17, y17, z17⟩, st17⟩ := X8.virtualBack hx (y := y8) (z := y8) hown3 (mvT hZ3 (wq hw 50 rfl)) (mvT hZ3 (wq hw 51 rfl)) (notFace_of_selects (args := #[]) (mvT hZ3 (wq hw 53 rfl))) (mvT hZ3 (wq hw 53 rfl)) (mvT hZ3 (wq hw 52 rfl)) (by decide) (backOf (W := 0) (rm35 l Z a0 hw [] cs_v hp b5 b7 p0 z15 b2_0 b3_0 y2_0 y3_0 kc2_0 ((p2 &&& (3 : Int32)) % (3 : Int32)) ((((p2.toUInt32 >>> ((2 : Int32) &&& 31).toUInt32).toInt32) &&& (255 : Int32)).toUInt32.toUInt16.toUInt32.toInt32) ((((p2.toUInt32 >>> ((10 : Int32) &&& 31).toUInt32).toInt32) &&& (255 : Int32)).toUInt32.toUInt16.toUInt32.toInt32) kc3_0 ((z9 &&& (3 : Int32)) % (3 : Int32)) ((((z9.toUInt32 >>> ((2 : Int32) &&& 31).toUInt32).toInt32) &&& (255 : Int32)).toUInt32.toUInt16.toUInt32.toInt32) ((((z9.toUInt32 >>> ((10 : Int32) &&& 31).toUInt32).toInt32) &&& (255 : Int32)).toUInt32.toUInt16.toUInt32.toInt32) T8.heap n0 O8 fq8_0 f_9 fq8_1 hc9 f_10 fq8_2 (((((fq2_0.keep Kq3).ext E5).keep Kq6).ext E7).keep Kq8) ((((fq3_0.ext E5).keep Kq6).ext E7).keep Kq8) f_11 f_12 f_13 f_14 f_15 f_16 (by rw [own_mkE (own_rem (x := p2) (m := (3 : Int32)) (M := 3) rfl (by decide) (y := (3 : Int32)) (d := 3) rfl (by decide)) (own_rem (x := z9) (m := (3 : Int32)) (M := 3) rfl (by decide) (y := (3 : Int32)) (d := 3) rfl (by decide)), if_pos ⟨hc5, Or.inr (own_mkB.mpr hc7), Or.inl hc8⟩]; decide : ¬ ((mkE ((p2 &&& (3 : Int32)) % (3 : Int32)) ((((p2.toUInt32 >>> ((2 : Int32) &&& 31).toUInt32).toInt32) &&& (255 : Int32)).toUInt32.toUInt16.toUInt32.toInt32) ((((p2.toUInt32 >>> ((10 : Int32) &&& 31).toUInt32).toInt32) &&& (255 : Int32)).toUInt32.toUInt16.toUInt32.toInt32) ((z9 &&& (3 : Int32)) % (3 : Int32)) ((((z9.toUInt32 >>> ((2 : Int32) &&& 31).toUInt32).toInt32) &&& (255 : Int32)).toUInt32.toUInt16.toUInt32.toInt32) ((((z9.toUInt32 >>> ((10 : Int32) &&& 31).toUInt32).toInt32) &&& (255 : Int32)).toUInt32.toUInt16.toUInt32.toInt32)) = (0 : Int32))) (Nat.ne_of_lt (Nat.lt_of_lt_of_le fq2_0.lt sq_b3_0))) hZ3 (wq hw 54 rfl) (wq hw 36 rfl) (by decide) (by decide)) q17a q17c (g := (mkF m 254 #[.val (.int p0), .val (.int p1), .val (.int p2), .val (.int p3), .val (.int p4), .val (.int (fx0 p2)), .val (.int (fx2 p2)), .val (.int (fx4 p2)), .val (.int z8), .val (.int z9), .val (.int (fx0 z9)), .val (.int (fx2 z9)), .val (.int (fx4 z9)), .val (.ref b2_0), .val (.ref b3_0), .val (.int z15), .val (.ref b5), .val (.int (p4 &&& (3 : Int32))), .val (.ref b7), .val (.int (1 : Int32)), .val (.int (1 : Int32))] [(.ref b7), (.ref b5)])) rfl (by rw [hml]; rfl) (Steps.refl _) (argsL := [(.ref b7)]) (rest := []) (lenOf pd_8 rfl) rfl (by show 2 * 0 + _ ≤ _; exact Nat.le_of_eq rfl) (hb hby at_254) (fun _ _ => ⟨rfl, rfl, (by decide : 10 + 0 ≤ _), (by decide : 20 + 0 ≤ _)⟩)
  dsimp only [Pt.U, Pt.locs, Pt.cells, Pt.slots] at X17 l17 y17 z17 st17 hQ17
  subst l17 y17 z17
  obtain ⟨rfl, Nq17, eq17⟩ := hQ17
  have N17 := Fr.app N8 Nq17
  obtain ⟨fs, hr, hrun, hended, hE⟩ := Stand.leaveW (s := s) X17 hS3 (by rw [eq17]; exact hk8) (v := some (.int (1 : Int32))) (fun h => by rw [Bd.returns] at h; cases h)
  refine ⟨_, _, pre0 _ ?_, hrun, hended, _, _, rfl, ?_, hE.1, hE.2.1, hE.2.2.1, hE.2.2.2.mono (by decide) (by decide)⟩
  · show Sp p e below s₁ (mkF m 0 #[.val (.int p0), .val (.int p1), .val (.int p2), .val (.int p3), .val (.int p4), .unset, .unset, .unset, .unset, .unset, .unset, .unset, .unset, .unset, .unset, .unset, .unset, .unset, .unset, .unset, .unset] []) _
    refine XS.iloadN X0.here hx rfl (hb hby at_0) rfl ?_
    refine XS.iconst X0.here hx rfl (hb hby at_1) ?_
    refine XS.iand X0.here hx rfl (hb hby at_2) rfl ?_
    refine XS.iconst X0.here hx rfl (hb hby at_3) ?_
    show Sp p e below s₁ (mkF m 4 #[.val (.int p0), .val (.int p1), .val (.int p2), .val (.int p3), .val (.int p4), .unset, .unset, .unset, .unset, .unset, .unset, .unset, .unset, .unset, .unset, .unset, .unset, .unset, .unset, .unset, .unset] [(.int (3 : Int32)), (.int (p2 &&& (3 : Int32)))]) _
    refine iremM X0 hx rfl (hb hby at_4) rfl (by decide) ?_
    show Sp p e below s₁ (mkF m 5 #[.val (.int p0), .val (.int p1), .val (.int p2), .val (.int p3), .val (.int p4), .unset, .unset, .unset, .unset, .unset, .unset, .unset, .unset, .unset, .unset, .unset, .unset, .unset, .unset, .unset, .unset] [(.int (fx0 p2))]) _
    refine XS.istore X0.here hx rfl (hb hby at_5) rfl (l' := #[.val (.int p0), .val (.int p1), .val (.int p2), .val (.int p3), .val (.int p4), .val (.int (fx0 p2)), .unset, .unset, .unset, .unset, .unset, .unset, .unset, .unset, .unset, .unset, .unset, .unset, .unset, .unset, .unset]) rfl ?_
    refine XS.iloadN X0.here hx rfl (hb hby at_7) rfl ?_
    refine XS.iconst X0.here hx rfl (hb hby at_8) ?_
    refine XS.iushr X0.here hx rfl (hb hby at_9) rfl ?_
    show Sp p e below s₁ (mkF m 10 #[.val (.int p0), .val (.int p1), .val (.int p2), .val (.int p3), .val (.int p4), .val (.int (fx0 p2)), .unset, .unset, .unset, .unset, .unset, .unset, .unset, .unset, .unset, .unset, .unset, .unset, .unset, .unset, .unset] [(.int (fx1 p2))]) _
    refine XS.sipush X0.here hx rfl (hb hby at_10) ?_
    refine XS.iand X0.here hx rfl (hb hby at_13) rfl ?_
    refine XS.i2c X0.here hx rfl (hb hby at_14) rfl ?_
    refine XS.istore X0.here hx rfl (hb hby at_15) rfl (l' := #[.val (.int p0), .val (.int p1), .val (.int p2), .val (.int p3), .val (.int p4), .val (.int (fx0 p2)), .val (.int (fx2 p2)), .unset, .unset, .unset, .unset, .unset, .unset, .unset, .unset, .unset, .unset, .unset, .unset, .unset, .unset]) rfl ?_
    show Sp p e below s₁ (mkF m 17 #[.val (.int p0), .val (.int p1), .val (.int p2), .val (.int p3), .val (.int p4), .val (.int (fx0 p2)), .val (.int (fx2 p2)), .unset, .unset, .unset, .unset, .unset, .unset, .unset, .unset, .unset, .unset, .unset, .unset, .unset, .unset] []) _
    refine XS.iloadN X0.here hx rfl (hb hby at_17) rfl ?_
    refine XS.bipush X0.here hx rfl (hb hby at_18) ?_
    refine XS.iushr X0.here hx rfl (hb hby at_20) rfl ?_
    refine XS.sipush X0.here hx rfl (hb hby at_21) ?_
    show Sp p e below s₁ (mkF m 24 #[.val (.int p0), .val (.int p1), .val (.int p2), .val (.int p3), .val (.int p4), .val (.int (fx0 p2)), .val (.int (fx2 p2)), .unset, .unset, .unset, .unset, .unset, .unset, .unset, .unset, .unset, .unset, .unset, .unset, .unset, .unset] [(.int (255 : Int32)), (.int (fx3 p2))]) _
    refine XS.iand X0.here hx rfl (hb hby at_24) rfl ?_
    refine XS.i2c X0.here hx rfl (hb hby at_25) rfl ?_
    refine XS.istore X0.here hx rfl (hb hby at_26) rfl (l' := #[.val (.int p0), .val (.int p1), .val (.int p2), .val (.int p3), .val (.int p4), .val (.int (fx0 p2)), .val (.int (fx2 p2)), .val (.int (fx4 p2)), .unset, .unset, .unset, .unset, .unset, .unset, .unset, .unset, .unset, .unset, .unset, .unset, .unset]) rfl ?_
    show Sp p e below s₁ (mkF m 28 #[.val (.int p0), .val (.int p1), .val (.int p2), .val (.int p3), .val (.int p4), .val (.int (fx0 p2)), .val (.int (fx2 p2)), .val (.int (fx4 p2)), .unset, .unset, .unset, .unset, .unset, .unset, .unset, .unset, .unset, .unset, .unset, .unset, .unset] []) _
    refine st1 _ ?_
    show Sp p e below s₁ (mkF m 56 #[.val (.int p0), .val (.int p1), .val (.int p2), .val (.int p3), .val (.int p4), .val (.int (fx0 p2)), .val (.int (fx2 p2)), .val (.int (fx4 p2)), .val (.int z8), .val (.int z9), .unset, .unset, .unset, .unset, .unset, .unset, .unset, .unset, .unset, .unset, .unset] []) _
    refine XS.iload X0.here hx rfl (hb hby at_56) rfl ?_
    refine XS.iconst X0.here hx rfl (hb hby at_58) ?_
    refine XS.iand X0.here hx rfl (hb hby at_59) rfl ?_
    refine XS.iconst X0.here hx rfl (hb hby at_60) ?_
    show Sp p e below s₁ (mkF m 61 #[.val (.int p0), .val (.int p1), .val (.int p2), .val (.int p3), .val (.int p4), .val (.int (fx0 p2)), .val (.int (fx2 p2)), .val (.int (fx4 p2)), .val (.int z8), .val (.int z9), .unset, .unset, .unset, .unset, .unset, .unset, .unset, .unset, .unset, .unset, .unset] [(.int (3 : Int32)), (.int (z9 &&& (3 : Int32)))]) _
    refine iremM X0 hx rfl (hb hby at_61) rfl (by decide) ?_
    show Sp p e below s₁ (mkF m 62 #[.val (.int p0), .val (.int p1), .val (.int p2), .val (.int p3), .val (.int p4), .val (.int (fx0 p2)), .val (.int (fx2 p2)), .val (.int (fx4 p2)), .val (.int z8), .val (.int z9), .unset, .unset, .unset, .unset, .unset, .unset, .unset, .unset, .unset, .unset, .unset] [(.int (fx0 z9))]) _
    refine XS.istore X0.here hx rfl (hb hby at_62) rfl (l' := #[.val (.int p0), .val (.int p1), .val (.int p2), .val (.int p3), .val (.int p4), .val (.int (fx0 p2)), .val (.int (fx2 p2)), .val (.int (fx4 p2)), .val (.int z8), .val (.int z9), .val (.int (fx0 z9)), .unset, .unset, .unset, .unset, .unset, .unset, .unset, .unset, .unset, .unset]) rfl ?_
    refine XS.iload X0.here hx rfl (hb hby at_64) rfl ?_
    refine XS.iconst X0.here hx rfl (hb hby at_66) ?_
    refine XS.iushr X0.here hx rfl (hb hby at_67) rfl ?_
    show Sp p e below s₁ (mkF m 68 #[.val (.int p0), .val (.int p1), .val (.int p2), .val (.int p3), .val (.int p4), .val (.int (fx0 p2)), .val (.int (fx2 p2)), .val (.int (fx4 p2)), .val (.int z8), .val (.int z9), .val (.int (fx0 z9)), .unset, .unset, .unset, .unset, .unset, .unset, .unset, .unset, .unset, .unset] [(.int (fx1 z9))]) _
    refine XS.sipush X0.here hx rfl (hb hby at_68) ?_
    refine XS.iand X0.here hx rfl (hb hby at_71) rfl ?_
    refine XS.i2c X0.here hx rfl (hb hby at_72) rfl ?_
    refine XS.istore X0.here hx rfl (hb hby at_73) rfl (l' := #[.val (.int p0), .val (.int p1), .val (.int p2), .val (.int p3), .val (.int p4), .val (.int (fx0 p2)), .val (.int (fx2 p2)), .val (.int (fx4 p2)), .val (.int z8), .val (.int z9), .val (.int (fx0 z9)), .val (.int (fx2 z9)), .unset, .unset, .unset, .unset, .unset, .unset, .unset, .unset, .unset]) rfl ?_
    show Sp p e below s₁ (mkF m 75 #[.val (.int p0), .val (.int p1), .val (.int p2), .val (.int p3), .val (.int p4), .val (.int (fx0 p2)), .val (.int (fx2 p2)), .val (.int (fx4 p2)), .val (.int z8), .val (.int z9), .val (.int (fx0 z9)), .val (.int (fx2 z9)), .unset, .unset, .unset, .unset, .unset, .unset, .unset, .unset, .unset] []) _
    refine XS.iload X0.here hx rfl (hb hby at_75) rfl ?_
    refine XS.bipush X0.here hx rfl (hb hby at_77) ?_
    refine XS.iushr X0.here hx rfl (hb hby at_79) rfl ?_
    refine XS.sipush X0.here hx rfl (hb hby at_80) ?_
    show Sp p e below s₁ (mkF m 83 #[.val (.int p0), .val (.int p1), .val (.int p2), .val (.int p3), .val (.int p4), .val (.int (fx0 p2)), .val (.int (fx2 p2)), .val (.int (fx4 p2)), .val (.int z8), .val (.int z9), .val (.int (fx0 z9)), .val (.int (fx2 z9)), .unset, .unset, .unset, .unset, .unset, .unset, .unset, .unset, .unset] [(.int (255 : Int32)), (.int (fx3 z9))]) _
    refine XS.iand X0.here hx rfl (hb hby at_83) rfl ?_
    refine XS.i2c X0.here hx rfl (hb hby at_84) rfl ?_
    refine XS.istore X0.here hx rfl (hb hby at_85) rfl (l' := #[.val (.int p0), .val (.int p1), .val (.int p2), .val (.int p3), .val (.int p4), .val (.int (fx0 p2)), .val (.int (fx2 p2)), .val (.int (fx4 p2)), .val (.int z8), .val (.int z9), .val (.int (fx0 z9)), .val (.int (fx2 z9)), .val (.int (fx4 z9)), .unset, .unset, .unset, .unset, .unset, .unset, .unset, .unset]) rfl ?_
    refine XS.iload X0.here hx rfl (hb hby at_87) rfl ?_
    show Sp p e below s₁ (mkF m 89 #[.val (.int p0), .val (.int p1), .val (.int p2), .val (.int p3), .val (.int p4), .val (.int (fx0 p2)), .val (.int (fx2 p2)), .val (.int (fx4 p2)), .val (.int z8), .val (.int z9), .val (.int (fx0 z9)), .val (.int (fx2 z9)), .val (.int (fx4 z9)), .unset, .unset, .unset, .unset, .unset, .unset, .unset, .unset] [(.int (fx0 p2))]) _
    refine XS.iload X0.here hx rfl (hb hby at_89) rfl ?_
    refine XS.iload X0.here hx rfl (hb hby at_91) rfl ?_
    show Sp p e below s₁ (mkF m 93 #[.val (.int p0), .val (.int p1), .val (.int p2), .val (.int p3), .val (.int p4), .val (.int (fx0 p2)), .val (.int (fx2 p2)), .val (.int (fx4 p2)), .val (.int z8), .val (.int z9), .val (.int (fx0 z9)), .val (.int (fx2 z9)), .val (.int (fx4 z9)), .unset, .unset, .unset, .unset, .unset, .unset, .unset, .unset] [(.int (fx4 p2)), (.int (fx2 p2)), (.int (fx0 p2))]) _
    refine st2.trans ?_
    show Sp p e below T2 (mkF m 96 #[.val (.int p0), .val (.int p1), .val (.int p2), .val (.int p3), .val (.int p4), .val (.int (fx0 p2)), .val (.int (fx2 p2)), .val (.int (fx4 p2)), .val (.int z8), .val (.int z9), .val (.int (fx0 z9)), .val (.int (fx2 z9)), .val (.int (fx4 z9)), .unset, .unset, .unset, .unset, .unset, .unset, .unset, .unset] [(.ref b2_0)]) _
    refine XS.astore X2.here hx rfl (hb hby at_96) rfl rfl (l' := #[.val (.int p0), .val (.int p1), .val (.int p2), .val (.int p3), .val (.int p4), .val (.int (fx0 p2)), .val (.int (fx2 p2)), .val (.int (fx4 p2)), .val (.int z8), .val (.int z9), .val (.int (fx0 z9)), .val (.int (fx2 z9)), .val (.int (fx4 z9)), .val (.ref b2_0), .unset, .unset, .unset, .unset, .unset, .unset, .unset]) rfl ?_
    refine XS.iload X2.here hx rfl (hb hby at_98) rfl ?_
    refine XS.iload X2.here hx rfl (hb hby at_100) rfl ?_
    refine XS.iload X2.here hx rfl (hb hby at_102) rfl ?_
    show Sp p e below T2 (mkF m 104 #[.val (.int p0), .val (.int p1), .val (.int p2), .val (.int p3), .val (.int p4), .val (.int (fx0 p2)), .val (.int (fx2 p2)), .val (.int (fx4 p2)), .val (.int z8), .val (.int z9), .val (.int (fx0 z9)), .val (.int (fx2 z9)), .val (.int (fx4 z9)), .val (.ref b2_0), .unset, .unset, .unset, .unset, .unset, .unset, .unset] [(.int (fx4 z9)), (.int (fx2 z9)), (.int (fx0 z9))]) _
    refine st3.trans ?_
    show Sp p e below T3 (mkF m 107 #[.val (.int p0), .val (.int p1), .val (.int p2), .val (.int p3), .val (.int p4), .val (.int (fx0 p2)), .val (.int (fx2 p2)), .val (.int (fx4 p2)), .val (.int z8), .val (.int z9), .val (.int (fx0 z9)), .val (.int (fx2 z9)), .val (.int (fx4 z9)), .val (.ref b2_0), .unset, .unset, .unset, .unset, .unset, .unset, .unset] [(.ref b3_0)]) _
    refine XS.astore X3.here hx rfl (hb hby at_107) rfl rfl (l' := #[.val (.int p0), .val (.int p1), .val (.int p2), .val (.int p3), .val (.int p4), .val (.int (fx0 p2)), .val (.int (fx2 p2)), .val (.int (fx4 p2)), .val (.int z8), .val (.int z9), .val (.int (fx0 z9)), .val (.int (fx2 z9)), .val (.int (fx4 z9)), .val (.ref b2_0), .val (.ref b3_0), .unset, .unset, .unset, .unset, .unset, .unset]) rfl ?_
    show Sp p e below T3 (mkF m 109 #[.val (.int p0), .val (.int p1), .val (.int p2), .val (.int p3), .val (.int p4), .val (.int (fx0 p2)), .val (.int (fx2 p2)), .val (.int (fx4 p2)), .val (.int z8), .val (.int z9), .val (.int (fx0 z9)), .val (.int (fx2 z9)), .val (.int (fx4 z9)), .val (.ref b2_0), .val (.ref b3_0), .unset, .unset, .unset, .unset, .unset, .unset] []) _
    refine st4 _ ?_
    show Sp p e below T3 (mkF m 125 #[.val (.int p0), .val (.int p1), .val (.int p2), .val (.int p3), .val (.int p4), .val (.int (fx0 p2)), .val (.int (fx2 p2)), .val (.int (fx4 p2)), .val (.int z8), .val (.int z9), .val (.int (fx0 z9)), .val (.int (fx2 z9)), .val (.int (fx4 z9)), .val (.ref b2_0), .val (.ref b3_0), .val (.int z15), .unset, .unset, .unset, .unset, .unset] []) _
    refine st5 _ ?_
    show Sp p e below T5 (mkF m 128 #[.val (.int p0), .val (.int p1), .val (.int p2), .val (.int p3), .val (.int p4), .val (.int (fx0 p2)), .val (.int (fx2 p2)), .val (.int (fx4 p2)), .val (.int z8), .val (.int z9), .val (.int (fx0 z9)), .val (.int (fx2 z9)), .val (.int (fx4 z9)), .val (.ref b2_0), .val (.ref b3_0), .val (.int z15), .unset, .unset, .unset, .unset, .unset] [(.ref b5)]) _
    refine XS.dup X5.here hx rfl (hb hby at_128) rfl rfl ?_
    refine XS.iloadN X5.here hx rfl (hb hby at_129) rfl ?_
    refine XS.aload X5.here hx rfl (hb hby at_130) rfl rfl ?_
    show Sp p e below T5 (mkF m 132 #[.val (.int p0), .val (.int p1), .val (.int p2), .val (.int p3), .val (.int p4), .val (.int (fx0 p2)), .val (.int (fx2 p2)), .val (.int (fx4 p2)), .val (.int z8), .val (.int z9), .val (.int (fx0 z9)), .val (.int (fx2 z9)), .val (.int (fx4 z9)), .val (.ref b2_0), .val (.ref b3_0), .val (.int z15), .unset, .unset, .unset, .unset, .unset] [(.ref b2_0), (.int p0), (.ref b5), (.ref b5)]) _
    refine st6.trans ?_
    show Sp p e below T6 (mkF m 135 #[.val (.int p0), .val (.int p1), .val (.int p2), .val (.int p3), .val (.int p4), .val (.int (fx0 p2)), .val (.int (fx2 p2)), .val (.int (fx4 p2)), .val (.int z8), .val (.int z9), .val (.int (fx0 z9)), .val (.int (fx2 z9)), .val (.int (fx4 z9)), .val (.ref b2_0), .val (.ref b3_0), .val (.int z15), .unset, .unset, .unset, .unset, .unset] [(.ref b5)]) _
    refine XS.astore X6.here hx rfl (hb hby at_135) rfl rfl (l' := #[.val (.int p0), .val (.int p1), .val (.int p2), .val (.int p3), .val (.int p4), .val (.int (fx0 p2)), .val (.int (fx2 p2)), .val (.int (fx4 p2)), .val (.int z8), .val (.int z9), .val (.int (fx0 z9)), .val (.int (fx2 z9)), .val (.int (fx4 z9)), .val (.ref b2_0), .val (.ref b3_0), .val (.int z15), .val (.ref b5), .unset, .unset, .unset, .unset]) rfl ?_
    refine XS.iload X6.here hx rfl (hb hby at_137) rfl ?_
    refine XS.iconst X6.here hx rfl (hb hby at_139) ?_
    refine XS.iand X6.here hx rfl (hb hby at_140) rfl ?_
    show Sp p e below T6 (mkF m 141 #[.val (.int p0), .val (.int p1), .val (.int p2), .val (.int p3), .val (.int p4), .val (.int (fx0 p2)), .val (.int (fx2 p2)), .val (.int (fx4 p2)), .val (.int z8), .val (.int z9), .val (.int (fx0 z9)), .val (.int (fx2 z9)), .val (.int (fx4 z9)), .val (.ref b2_0), .val (.ref b3_0), .val (.int z15), .val (.ref b5), .unset, .unset, .unset, .unset] [(.int (p4 &&& (3 : Int32)))]) _
    refine XS.istore X6.here hx rfl (hb hby at_141) rfl (l' := #[.val (.int p0), .val (.int p1), .val (.int p2), .val (.int p3), .val (.int p4), .val (.int (fx0 p2)), .val (.int (fx2 p2)), .val (.int (fx4 p2)), .val (.int z8), .val (.int z9), .val (.int (fx0 z9)), .val (.int (fx2 z9)), .val (.int (fx4 z9)), .val (.ref b2_0), .val (.ref b3_0), .val (.int z15), .val (.ref b5), .val (.int (p4 &&& (3 : Int32))), .unset, .unset, .unset]) rfl ?_
    refine XS.iload X6.here hx rfl (hb hby at_143) rfl ?_
    refine XS.ifYes X6.here hx rfl (pc0 := 145) (pc' := 154) rfl (hb hby at_145) rfl ((if0 _ _).trans (feq hc3).2) (by decide) (by decide) ?_
    refine XS.iload X6.here hx rfl (hb hby at_154) rfl ?_
    show Sp p e below T6 (mkF m 156 #[.val (.int p0), .val (.int p1), .val (.int p2), .val (.int p3), .val (.int p4), .val (.int (fx0 p2)), .val (.int (fx2 p2)), .val (.int (fx4 p2)), .val (.int z8), .val (.int z9), .val (.int (fx0 z9)), .val (.int (fx2 z9)), .val (.int (fx4 z9)), .val (.ref b2_0), .val (.ref b3_0), .val (.int z15), .val (.ref b5), .val (.int (p4 &&& (3 : Int32))), .unset, .unset, .unset] [(.int (p4 &&& (3 : Int32)))]) _
    refine XS.iconst X6.here hx rfl (hb hby at_156) ?_
    refine XS.icmpYes X6.here hx rfl (pc0 := 157) (pc' := 167) rfl (hb hby at_157) rfl (feq hc4).2 (by decide) (by decide) ?_
    show Sp p e below T6 (mkF m 167 #[.val (.int p0), .val (.int p1), .val (.int p2), .val (.int p3), .val (.int p4), .val (.int (fx0 p2)), .val (.int (fx2 p2)), .val (.int (fx4 p2)), .val (.int z8), .val (.int z9), .val (.int (fx0 z9)), .val (.int (fx2 z9)), .val (.int (fx4 z9)), .val (.ref b2_0), .val (.ref b3_0), .val (.int z15), .val (.ref b5), .val (.int (p4 &&& (3 : Int32))), .unset, .unset, .unset] []) _
    refine st7 _ ?_
    show Sp p e below T7 (mkF m 170 #[.val (.int p0), .val (.int p1), .val (.int p2), .val (.int p3), .val (.int p4), .val (.int (fx0 p2)), .val (.int (fx2 p2)), .val (.int (fx4 p2)), .val (.int z8), .val (.int z9), .val (.int (fx0 z9)), .val (.int (fx2 z9)), .val (.int (fx4 z9)), .val (.ref b2_0), .val (.ref b3_0), .val (.int z15), .val (.ref b5), .val (.int (p4 &&& (3 : Int32))), .unset, .unset, .unset] [(.ref b7)]) _
    refine XS.dup X7.here hx rfl (hb hby at_170) rfl rfl ?_
    refine XS.iload X7.here hx rfl (hb hby at_171) rfl ?_
    refine XS.aload X7.here hx rfl (hb hby at_173) rfl rfl ?_
    show Sp p e below T7 (mkF m 175 #[.val (.int p0), .val (.int p1), .val (.int p2), .val (.int p3), .val (.int p4), .val (.int (fx0 p2)), .val (.int (fx2 p2)), .val (.int (fx4 p2)), .val (.int z8), .val (.int z9), .val (.int (fx0 z9)), .val (.int (fx2 z9)), .val (.int (fx4 z9)), .val (.ref b2_0), .val (.ref b3_0), .val (.int z15), .val (.ref b5), .val (.int (p4 &&& (3 : Int32))), .unset, .unset, .unset] [(.ref b3_0), (.int z15), (.ref b7), (.ref b7)]) _
    refine st8.trans ?_
    show Sp p e below T8 (mkF m 178 #[.val (.int p0), .val (.int p1), .val (.int p2), .val (.int p3), .val (.int p4), .val (.int (fx0 p2)), .val (.int (fx2 p2)), .val (.int (fx4 p2)), .val (.int z8), .val (.int z9), .val (.int (fx0 z9)), .val (.int (fx2 z9)), .val (.int (fx4 z9)), .val (.ref b2_0), .val (.ref b3_0), .val (.int z15), .val (.ref b5), .val (.int (p4 &&& (3 : Int32))), .unset, .unset, .unset] [(.ref b7)]) _
    refine XS.astore X8.here hx rfl (hb hby at_178) rfl rfl (l' := #[.val (.int p0), .val (.int p1), .val (.int p2), .val (.int p3), .val (.int p4), .val (.int (fx0 p2)), .val (.int (fx2 p2)), .val (.int (fx4 p2)), .val (.int z8), .val (.int z9), .val (.int (fx0 z9)), .val (.int (fx2 z9)), .val (.int (fx4 z9)), .val (.ref b2_0), .val (.ref b3_0), .val (.int z15), .val (.ref b5), .val (.int (p4 &&& (3 : Int32))), .val (.ref b7), .unset, .unset]) rfl ?_
    refine XS.iload X8.here hx rfl (hb hby at_180) rfl ?_
    refine XS.iconst X8.here hx rfl (hb hby at_182) ?_
    refine XS.icmpYes X8.here hx rfl (pc0 := 183) (pc' := 192) rfl (hb hby at_183) rfl (flt (own_nlti (n := 2) rfl (by have r := (own_and (x := p4) (m := (3 : Int32)) (M := 3) rfl (by decide)); have q0 := own_nei hc3 (n := 0) rfl; have q1 := own_nei hc4 (n := 1) rfl; omega) : ¬ ((p4 &&& (3 : Int32)) < (2 : Int32)))).2.1 (by decide) (by decide) ?_
    show Sp p e below T8 (mkF m 192 #[.val (.int p0), .val (.int p1), .val (.int p2), .val (.int p3), .val (.int p4), .val (.int (fx0 p2)), .val (.int (fx2 p2)), .val (.int (fx4 p2)), .val (.int z8), .val (.int z9), .val (.int (fx0 z9)), .val (.int (fx2 z9)), .val (.int (fx4 z9)), .val (.ref b2_0), .val (.ref b3_0), .val (.int z15), .val (.ref b5), .val (.int (p4 &&& (3 : Int32))), .val (.ref b7), .unset, .unset] []) _
    refine XS.iload X8.here hx rfl (hb hby at_192) rfl ?_
    refine XS.iload X8.here hx rfl (hb hby at_194) rfl ?_
    refine XS.icmpNo X8.here hx rfl (hb hby at_196) rfl (teq hc5).2 ?_
    refine XS.iload X8.here hx rfl (hb hby at_199) rfl ?_
    show Sp p e below T8 (mkF m 201 #[.val (.int p0), .val (.int p1), .val (.int p2), .val (.int p3), .val (.int p4), .val (.int (fx0 p2)), .val (.int (fx2 p2)), .val (.int (fx4 p2)), .val (.int z8), .val (.int z9), .val (.int (fx0 z9)), .val (.int (fx2 z9)), .val (.int (fx4 z9)), .val (.ref b2_0), .val (.ref b3_0), .val (.int z15), .val (.ref b5), .val (.int (p4 &&& (3 : Int32))), .val (.ref b7), .unset, .unset] [(.int (fx0 p2))]) _
    refine XS.iconst X8.here hx rfl (hb hby at_201) ?_
    refine XS.icmpNo X8.here hx rfl (hb hby at_202) rfl (flt hc6).1 ?_
    refine XS.iload X8.here hx rfl (hb hby at_205) rfl ?_
    refine XS.iload X8.here hx rfl (hb hby at_207) rfl ?_
    show Sp p e below T8 (mkF m 209 #[.val (.int p0), .val (.int p1), .val (.int p2), .val (.int p3), .val (.int p4), .val (.int (fx0 p2)), .val (.int (fx2 p2)), .val (.int (fx4 p2)), .val (.int z8), .val (.int z9), .val (.int (fx0 z9)), .val (.int (fx2 z9)), .val (.int (fx4 z9)), .val (.ref b2_0), .val (.ref b3_0), .val (.int z15), .val (.ref b5), .val (.int (p4 &&& (3 : Int32))), .val (.ref b7), .unset, .unset] [(.int (fx2 z9)), (.int (fx2 p2))]) _
    refine XS.icmpNo X8.here hx rfl (hb hby at_209) rfl (teq hc7).2 ?_
    refine XS.iload X8.here hx rfl (hb hby at_212) rfl ?_
    refine XS.iconst X8.here hx rfl (hb hby at_214) ?_
    refine XS.icmpYes X8.here hx rfl (pc0 := 215) (pc' := 225) rfl (hb hby at_215) rfl (tlt hc8).1 (by decide) (by decide) ?_
    show Sp p e below T8 (mkF m 225 #[.val (.int p0), .val (.int p1), .val (.int p2), .val (.int p3), .val (.int p4), .val (.int (fx0 p2)), .val (.int (fx2 p2)), .val (.int (fx4 p2)), .val (.int z8), .val (.int z9), .val (.int (fx0 z9)), .val (.int (fx2 z9)), .val (.int (fx4 z9)), .val (.ref b2_0), .val (.ref b3_0), .val (.int z15), .val (.ref b5), .val (.int (p4 &&& (3 : Int32))), .val (.ref b7), .unset, .unset] []) _
    refine XS.iconst X8.here hx rfl (hb hby at_225) ?_
    refine XS.goto X8.here hx rfl (pc0 := 226) (pc' := 230) rfl (hb hby at_226) (by decide) (by decide) ?_
    refine XS.istore X8.here hx rfl (hb hby at_230) rfl (l' := #[.val (.int p0), .val (.int p1), .val (.int p2), .val (.int p3), .val (.int p4), .val (.int (fx0 p2)), .val (.int (fx2 p2)), .val (.int (fx4 p2)), .val (.int z8), .val (.int z9), .val (.int (fx0 z9)), .val (.int (fx2 z9)), .val (.int (fx4 z9)), .val (.ref b2_0), .val (.ref b3_0), .val (.int z15), .val (.ref b5), .val (.int (p4 &&& (3 : Int32))), .val (.ref b7), .unset, .val (.int (1 : Int32))]) rfl ?_
    refine XS.iloadN X8.here hx rfl (hb hby at_232) rfl ?_
    show Sp p e below T8 (mkF m 233 #[.val (.int p0), .val (.int p1), .val (.int p2), .val (.int p3), .val (.int p4), .val (.int (fx0 p2)), .val (.int (fx2 p2)), .val (.int (fx4 p2)), .val (.int z8), .val (.int z9), .val (.int (fx0 z9)), .val (.int (fx2 z9)), .val (.int (fx4 z9)), .val (.ref b2_0), .val (.ref b3_0), .val (.int z15), .val (.ref b5), .val (.int (p4 &&& (3 : Int32))), .val (.ref b7), .unset, .val (.int (1 : Int32))] [(.int p0)]) _
    refine XS.iload X8.here hx rfl (hb hby at_233) rfl ?_
    refine XS.icmpNo X8.here hx rfl (hb hby at_235) rfl (teq hc9).2 ?_
    refine XS.iload X8.here hx rfl (hb hby at_238) rfl ?_
    refine XS.ifNo X8.here hx rfl (hb hby at_240) rfl ((if0 _ _).trans (feq (by decide : ¬ ((1 : Int32) = (0 : Int32)))).1) ?_
    show Sp p e below T8 (mkF m 243 #[.val (.int p0), .val (.int p1), .val (.int p2), .val (.int p3), .val (.int p4), .val (.int (fx0 p2)), .val (.int (fx2 p2)), .val (.int (fx4 p2)), .val (.int z8), .val (.int z9), .val (.int (fx0 z9)), .val (.int (fx2 z9)), .val (.int (fx4 z9)), .val (.ref b2_0), .val (.ref b3_0), .val (.int z15), .val (.ref b5), .val (.int (p4 &&& (3 : Int32))), .val (.ref b7), .unset, .val (.int (1 : Int32))] []) _
    refine XS.iconst X8.here hx rfl (hb hby at_243) ?_
    refine XS.goto X8.here hx rfl (pc0 := 244) (pc' := 248) rfl (hb hby at_244) (by decide) (by decide) ?_
    refine XS.istore X8.here hx rfl (hb hby at_248) rfl (l' := #[.val (.int p0), .val (.int p1), .val (.int p2), .val (.int p3), .val (.int p4), .val (.int (fx0 p2)), .val (.int (fx2 p2)), .val (.int (fx4 p2)), .val (.int z8), .val (.int z9), .val (.int (fx0 z9)), .val (.int (fx2 z9)), .val (.int (fx4 z9)), .val (.ref b2_0), .val (.ref b3_0), .val (.int z15), .val (.ref b5), .val (.int (p4 &&& (3 : Int32))), .val (.ref b7), .val (.int (1 : Int32)), .val (.int (1 : Int32))]) rfl ?_
    refine XS.aload X8.here hx rfl (hb hby at_250) rfl rfl ?_
    show Sp p e below T8 (mkF m 252 #[.val (.int p0), .val (.int p1), .val (.int p2), .val (.int p3), .val (.int p4), .val (.int (fx0 p2)), .val (.int (fx2 p2)), .val (.int (fx4 p2)), .val (.int z8), .val (.int z9), .val (.int (fx0 z9)), .val (.int (fx2 z9)), .val (.int (fx4 z9)), .val (.ref b2_0), .val (.ref b3_0), .val (.int z15), .val (.ref b5), .val (.int (p4 &&& (3 : Int32))), .val (.ref b7), .val (.int (1 : Int32)), .val (.int (1 : Int32))] [(.ref b5)]) _
    refine XS.aload X8.here hx rfl (hb hby at_252) rfl rfl ?_
    show Sp p e below T8 (mkF m 254 #[.val (.int p0), .val (.int p1), .val (.int p2), .val (.int p3), .val (.int p4), .val (.int (fx0 p2)), .val (.int (fx2 p2)), .val (.int (fx4 p2)), .val (.int z8), .val (.int z9), .val (.int (fx0 z9)), .val (.int (fx2 z9)), .val (.int (fx4 z9)), .val (.ref b2_0), .val (.ref b3_0), .val (.int z15), .val (.ref b5), .val (.int (p4 &&& (3 : Int32))), .val (.ref b7), .val (.int (1 : Int32)), .val (.int (1 : Int32))] [(.ref b7), (.ref b5)]) _
    refine st17.trans ?_
    show Sp p e below T17 (mkF m 257 #[.val (.int p0), .val (.int p1), .val (.int p2), .val (.int p3), .val (.int p4), .val (.int (fx0 p2)), .val (.int (fx2 p2)), .val (.int (fx4 p2)), .val (.int z8), .val (.int z9), .val (.int (fx0 z9)), .val (.int (fx2 z9)), .val (.int (fx4 z9)), .val (.ref b2_0), .val (.ref b3_0), .val (.int z15), .val (.ref b5), .val (.int (p4 &&& (3 : Int32))), .val (.ref b7), .val (.int (1 : Int32)), .val (.int (1 : Int32))] [(.int (1 : Int32))]) _
    refine XS.iload X17.here hx rfl (hb hby at_257) rfl ?_
    refine XS.icmpNo X17.here hx rfl (hb hby at_259) rfl (teq (by decide : (1 : Int32) = (1 : Int32))).2 ?_
    refine XS.iconst X17.here hx rfl (hb hby at_262) ?_
    refine XS.goto X17.here hx rfl (pc0 := 263) (pc' := 267) rfl (hb hby at_263) (by decide) (by decide) ?_
    show Sp p e below T17 (mkF m 267 #[.val (.int p0), .val (.int p1), .val (.int p2), .val (.int p3), .val (.int p4), .val (.int (fx0 p2)), .val (.int (fx2 p2)), .val (.int (fx4 p2)), .val (.int z8), .val (.int z9), .val (.int (fx0 z9)), .val (.int (fx2 z9)), .val (.int (fx4 z9)), .val (.ref b2_0), .val (.ref b3_0), .val (.int z15), .val (.ref b5), .val (.int (p4 &&& (3 : Int32))), .val (.ref b7), .val (.int (1 : Int32)), .val (.int (1 : Int32))] [(.int (1 : Int32))]) _
    exact retN X17 hx (t := .boolean) Bd.returns (by simp) (hb hby at_267) hr
  · skip
    exact ⟨rfl, N17⟩
set_option maxRecDepth 65536 in
set_option maxHeartbeats 40000000 in
theorem rm43 (l : Launch) (Z : State) (a0 : Array Value) (hw : ∀ d ∈ tables_1, d.before a0 Z = true) (ws : List Jvm.Cond) (cs_v : Int32) (hp : Perm Z cs_v) (p0 : Int32) (p1 : Int32) (p2 : Int32) (p3 : Int32) (p4 : Int32) (z8 : Int32) (z9 : Int32) (z15 : Int32) (h0 : Heap) (n0 : Nat) (O0 : Old Z n0 h0) (hcut28 : Cut_0_28 p0 p1 p2 p3 p4 ((p2 &&& (3 : Int32)) % (3 : Int32)) ((((p2.toUInt32 >>> ((2 : Int32) &&& 31).toUInt32).toInt32) &&& (255 : Int32)).toUInt32.toUInt16.toUInt32.toInt32) ((((p2.toUInt32 >>> ((10 : Int32) &&& 31).toUInt32).toInt32) &&& (255 : Int32)).toUInt32.toUInt16.toUInt32.toInt32) z8 z9) (hcut109 : Cut_0_109 p0 p1 p2 p3 p4 ((p2 &&& (3 : Int32)) % (3 : Int32)) ((((p2.toUInt32 >>> ((2 : Int32) &&& 31).toUInt32).toInt32) &&& (255 : Int32)).toUInt32.toUInt16.toUInt32.toInt32) ((((p2.toUInt32 >>> ((10 : Int32) &&& 31).toUInt32).toInt32) &&& (255 : Int32)).toUInt32.toUInt16.toUInt32.toInt32) z8 z9 ((z9 &&& (3 : Int32)) % (3 : Int32)) ((((z9.toUInt32 >>> ((2 : Int32) &&& 31).toUInt32).toInt32) &&& (255 : Int32)).toUInt32.toUInt16.toUInt32.toInt32) ((((z9.toUInt32 >>> ((10 : Int32) &&& 31).toUInt32).toInt32) &&& (255 : Int32)).toUInt32.toUInt16.toUInt32.toInt32) z15) (hc3 : ¬ ((p4 &&& (3 : Int32)) = (0 : Int32))) (hc4 : ¬ ((p4 &&& (3 : Int32)) = (1 : Int32))) (hc5 : ((p2 &&& (3 : Int32)) % (3 : Int32)) = ((z9 &&& (3 : Int32)) % (3 : Int32))) (hc6 : ¬ (((p2 &&& (3 : Int32)) % (3 : Int32)) < (1 : Int32))) (hc7 : ¬ (((((p2.toUInt32 >>> ((2 : Int32) &&& 31).toUInt32).toInt32) &&& (255 : Int32)).toUInt32.toUInt16.toUInt32.toInt32) = ((((z9.toUInt32 >>> ((2 : Int32) &&& 31).toUInt32).toInt32) &&& (255 : Int32)).toUInt32.toUInt16.toUInt32.toInt32))) (hc8 : p0 = z15) :
    MetFree l x (head1 (Jvm.Cond.code x code maxLocals ret :: ws) room_1) (fun a U => a = #[(.int p0), (.int p1), (.int p2), (.int p3), (.int p4)] ∧ Z.Warmed39 U.vm ∧ U.heap = h0 ∧ CHv Z own_EL U.vm h0) (fun _ _ _ _ _ => True) (fun _ U o U' => ∃ v L, o = .returned v ∧ (v = some (.int (1 : Int32)) ∧ Fr n0 L) ∧ ReturnedEndW U o U' L 32 1152) := by
  refine MetFree.of_bodySF (plainFor_of_name pn_1) hisR ?_
  intro p e s m args below meth c s₁ Bd hml0 hP hK
  obtain ⟨rfl, hZo, hh, hCH⟩ := hP
  have hx := Bd.exec
  have hby := Bd.bytes
  have hml : c.maxLocals = 21 := hml0
  have hown : (s.setVm s.vm).vm.findClass "com/example/epcrtools/epcrtools/exchange/RuleSetKeyEqualsPinLaw" = some m.cls := findClass_of_methodNamed Bd.named
  have hnm := (name_of_methodNamed Bd.named Bd.method).1
  have X0 : Stand p l e room_1 (s.setVm s.vm) m #[(.int p0), (.int p1), (.int p2), (.int p3), (.int p4)] below meth c s₁ [] 0 0 := Stand.of_body Bd
  have e0 : s₁.heap = h0 := by rw [← hh, Bd.state]; rfl
  have N0 := Fr.nil n0
  have hZ : Z.Warmed39 (s.setVm s.vm).vm := hZo
  have CH0 := CHr.refl hCH
  have hS0 : s.Since s.vm 0 := (State.WarmedH.refl s).since 0
  have hk0 : 0 ≤ h0.size := Nat.zero_le _
  have hp' := hp
  obtain ⟨S_COMPACT_STRINGS, h_cs⟩ := hp'
  have pre0 : ∀ t, Steps p.tables e below (s₁.setTop (mkF m 0 #[.val (.int p0), .val (.int p1), .val (.int p2), .val (.int p3), .val (.int p4), .unset, .unset, .unset, .unset, .unset, .unset, .unset, .unset, .unset, .unset, .unset, .unset, .unset, .unset, .unset, .unset] [])) t → Steps p.tables e below (s₁.setTop (entryFrame m #[(.int p0), (.int p1), (.int p2), (.int p3), (.int p4)] maxLocals)) t := fun t k => castTop (ef_0_0 m p0 p1 p2 p3 p4) k
  have st1 := hcut28 X0 hx hZ hw hby hown
  obtain ⟨_, _, ⟨T2, L2, k2, n2⟩, -, XX2, Sq2, gq2, ⟨Lc2, hQ2, l2, y2, z2, C2⟩, st2⟩ := callSS X0 hx (y := y2) hown (mvT hZ (wq hw 0 rfl)) (mvT hZ (wq hw 1 rfl)) (mvT hZ (wq hw 2 rfl)) (mvT hZ (wq hw 3 rfl)) (by decide) (own_backC (SL := []) (W := 0) (rmS1 l Z a0 hw [] cs_v hp ((p2 &&& (3 : Int32)) % (3 : Int32)) ((((p2.toUInt32 >>> ((2 : Int32) &&& 31).toUInt32).toInt32) &&& (255 : Int32)).toUInt32.toUInt16.toUInt32.toInt32) ((((p2.toUInt32 >>> ((10 : Int32) &&& 31).toUInt32).toInt32) &&& (255 : Int32)).toUInt32.toUInt16.toUInt32.toInt32) h0 n0 O0 (own_ch2 ((p2.toUInt32 >>> ((2 : Int32) &&& 31).toUInt32).toInt32)) (own_ch2 ((p2.toUInt32 >>> ((10 : Int32) &&& 31).toUInt32).toInt32))) hZ (wq hw 3 rfl) (wq hw 2 rfl) (by decide) (by decide) (own_EW hw) CH0.1 all0) (g := (mkF m 93 #[.val (.int p0), .val (.int p1), .val (.int p2), .val (.int p3), .val (.int p4), .val (.int (fx0 p2)), .val (.int (fx2 p2)), .val (.int (fx4 p2)), .val (.int z8), .val (.int z9), .val (.int (fx0 z9)), .val (.int (fx2 z9)), .val (.int (fx4 z9)), .unset, .unset, .unset, .unset, .unset, .unset, .unset, .unset] [(.int (fx4 p2)), (.int (fx2 p2)), (.int (fx0 p2))])) rfl (by rw [hml]; rfl) (argsL := [(.int (fx0 p2)), (.int (fx2 p2)), (.int (fx4 p2))]) (rest := []) (lenOf pd_5 rfl) rfl (by show 2 * 0 + _ ≤ _; exact Nat.le_of_eq rfl) (hb hby at_93) (fun _ _ => ⟨rfl, e0, (by decide : 0 + 4 ≤ _), (by decide : 0 + 8 ≤ _)⟩)
  dsimp only [Pt.U, Pt.locs, Pt.cells, Pt.slots] at XX2 Sq2 gq2 l2 y2 z2 st2 hQ2 C2
  subst l2 y2 z2
  obtain ⟨X2, hS2, hZ2, hown2⟩ := rebS hS0 (by rw [e0]; exact hk0) XX2 Sq2 gq2 hZ hown
  obtain ⟨b2_0, y2_0, kc2_0, rfl, Nq2, Kq2, sq_b2_0, fq2_0, fq2_1, fq2_2, fq2_3⟩ := hQ2
  have N2 := Fr.app N0 Nq2
  have g_b2_0 : n0 ≤ b2_0 := Nat.le_trans (own_sz O0) sq_b2_0
  have sz_b2_0 : h0.size ≤ b2_0 := Nat.le_trans (Keep.refl h0 []).1 sq_b2_0
  have CH2 := CH0.trans C2
  have hk2 : T2.heap.size ≤ T2.heap.size := Nat.le_refl _
  have O2 := O0.keep Kq2 all0
  have K2 : Keep h0 T2.heap [] := (Keep.refl h0 []).trans Kq2 all0
  obtain ⟨_, _, ⟨T3, L3, k3, n3⟩, -, XX3, Sq3, gq3, ⟨Lc3, hQ3, l3, y3, z3, C3⟩, st3⟩ := callSS X2 hx (y := y2) hown2 (mvT hZ2 (wq hw 0 rfl)) (mvT hZ2 (wq hw 1 rfl)) (mvT hZ2 (wq hw 2 rfl)) (mvT hZ2 (wq hw 3 rfl)) (by decide) (own_backC (SL := []) (W := 0) (rmS1 l Z a0 hw [] cs_v hp ((z9 &&& (3 : Int32)) % (3 : Int32)) ((((z9.toUInt32 >>> ((2 : Int32) &&& 31).toUInt32).toInt32) &&& (255 : Int32)).toUInt32.toUInt16.toUInt32.toInt32) ((((z9.toUInt32 >>> ((10 : Int32) &&& 31).toUInt32).toInt32) &&& (255 : Int32)).toUInt32.toUInt16.toUInt32.toInt32) T2.heap n0 O2 (own_ch2 ((z9.toUInt32 >>> ((2 : Int32) &&& 31).toUInt32).toInt32)) (own_ch2 ((z9.toUInt32 >>> ((10 : Int32) &&& 31).toUInt32).toInt32))) hZ2 (wq hw 3 rfl) (wq hw 2 rfl) (by decide) (by decide) (own_EW hw) CH2.1 all0) (g := (mkF m 104 #[.val (.int p0), .val (.int p1), .val (.int p2), .val (.int p3), .val (.int p4), .val (.int (fx0 p2)), .val (.int (fx2 p2)), .val (.int (fx4 p2)), .val (.int z8), .val (.int z9), .val (.int (fx0 z9)), .val (.int (fx2 z9)), .val (.int (fx4 z9)), .val (.ref b2_0), .unset, .unset, .unset, .unset, .unset, .unset, .unset] [(.int (fx4 z9)), (.int (fx2 z9)), (.int (fx0 z9))])) rfl (by rw [hml]; rfl) (argsL := [(.int (fx0 z9)), (.int (fx2 z9)), (.int (fx4 z9))]) (rest := []) (lenOf pd_5 rfl) rfl (by show 2 * 0 + _ ≤ _; exact Nat.le_of_eq rfl) (hb hby at_104) (fun _ _ => ⟨rfl, rfl, (by decide : 4 + 4 ≤ _), (by decide : 8 + 8 ≤ _)⟩)
  dsimp only [Pt.U, Pt.locs, Pt.cells, Pt.slots] at XX3 Sq3 gq3 l3 y3 z3 st3 hQ3 C3
  subst l3 y3 z3
  obtain ⟨X3, hS3, hZ3, hown3⟩ := rebS hS2 hk2 XX3 Sq3 gq3 hZ2 hown2
  obtain ⟨b3_0, y3_0, kc3_0, rfl, Nq3, Kq3, sq_b3_0, fq3_0, fq3_1, fq3_2, fq3_3⟩ := hQ3
  have N3 := Fr.app N2 Nq3
  have g_b3_0 : n0 ≤ b3_0 := Nat.le_trans (own_sz O2) sq_b3_0
  have sz_b3_0 : h0.size ≤ b3_0 := Nat.le_trans K2.1 sq_b3_0
  have CH3 := CH2.trans C3
  have hk3 : T3.heap.size ≤ T3.heap.size := Nat.le_refl _
  have O3 := O2.keep Kq3 all0
  have K3 : Keep h0 T3.heap [] := K2.trans Kq3 all0
  have st4 := hcut109 b2_0 b3_0 X3 hx hZ3 hw hby hown3
  obtain ⟨T5, h5, X5, e5, E5, A5, D5, -, st5⟩ := newO X3 hx hZ3 hown3 (wq hw 34 rfl) (wq hw 35 rfl) (wq hw 36 rfl) rfl (g := (mkF m 125 #[.val (.int p0), .val (.int p1), .val (.int p2), .val (.int p3), .val (.int p4), .val (.int (fx0 p2)), .val (.int (fx2 p2)), .val (.int (fx4 p2)), .val (.int z8), .val (.int z9), .val (.int (fx0 z9)), .val (.int (fx2 z9)), .val (.int (fx4 z9)), .val (.ref b2_0), .val (.ref b3_0), .val (.int z15), .unset, .unset, .unset, .unset, .unset] [])) rfl (hb hby at_125) (by decide) (by decide)
  obtain ⟨b5, g5⟩ : ∃ z, z = T3.heap.size := ⟨_, rfl⟩
  rw [← g5] at A5 D5 st5
  have g_b5 : n0 ≤ b5 := Nat.le_trans (own_sz O3) (Nat.le_of_eq g5.symm)
  have sz_b5 : h0.size ≤ b5 := Nat.le_trans K3.1 (Nat.le_of_eq g5.symm)
  have O5 := O3.ext E5
  have K5 : Keep h0 h5 [] := K3.ext E5
  have CH5 := CH3.trans (CHr.ext E5 CH3.1)
  have hk5 := Nat.le_trans hk3 E5.1
  have F_dataSchema_b5 : Fld Z h5 b5 "com/example/epcrtools/epcrtools/exchange/RuleSetKey" "dataSchema" "I" (.int (0 : Int32)) := D5 (Or.inr (wq hw 42 rfl)) (ty := .int) (by decide)
  have F_schemaVersion_b5 : Fld Z h5 b5 "com/example/epcrtools/epcrtools/exchange/RuleSetKey" "schemaVersion" "Ljava/lang/String;" .null := D5 (Or.inr (wq hw 49 rfl)) (ty := (.object "java/lang/String")) (by decide)
  obtain ⟨_, _, ⟨T6, L6, k6, n6⟩, -, X6, ⟨Lc6, hQ6, l6, y6, z6⟩, st6⟩ := X5.specialBack hx (y := y7) rfl hown3 (mvT hZ3 (wq hw 37 rfl)) (mvT hZ3 (wq hw 38 rfl)) (mvT hZ3 (wq hw 39 rfl)) (by decide) (backOf (W := 1) (rm17 l Z a0 hw [] cs_v hp b5 p0 b2_0 h5 n0 O5 A5 F_dataSchema_b5 F_schemaVersion_b5 g_b5 ((fq2_0.keep Kq3).ext E5)) hZ3 (wq hw 39 rfl) (wq hw 36 rfl) (by decide) (by decide)) (g := (mkF m 132 #[.val (.int p0), .val (.int p1), .val (.int p2), .val (.int p3), .val (.int p4), .val (.int (fx0 p2)), .val (.int (fx2 p2)), .val (.int (fx4 p2)), .val (.int z8), .val (.int z9), .val (.int (fx0 z9)), .val (.int (fx2 z9)), .val (.int (fx4 z9)), .val (.ref b2_0), .val (.ref b3_0), .val (.int z15), .unset, .unset, .unset, .unset, .unset] [(.ref b2_0), (.int p0), (.ref b5), (.ref b5)])) rfl (by rw [hml]; rfl) (Steps.refl _) (a := b5) (argsL := [(.int p0), (.ref b2_0)]) (rest := [(.ref b5)]) (lenOf pd_7 rfl) rfl (by show 2 * 0 + _ ≤ _; exact Nat.le_of_eq rfl) (hb hby at_132) (fun _ _ => ⟨rfl, e5, (by decide : 9 + 0 ≤ _), (by decide : 18 + 0 ≤ _)⟩)
  dsimp only [Pt.U, Pt.locs, Pt.cells, Pt.slots] at X6 l6 y6 z6 st6 hQ6
  subst l6 y6 z6
  obtain ⟨rfl, Nq6, Kq6, fq6_0, fq6_1, fq6_2⟩ := hQ6
  have N6 := Fr.app N3 Nq6
  have CH6 := CH5.trans (CHr.keep Kq6 (allS (Safe.exa hZ3.alike A5 (by decide) (by decide)) all0) CH5.1)
  have hk6 := Nat.le_trans hk5 Kq6.1
  have O6 := O5.keep Kq6 (allS g_b5 all0)
  have K6 : Keep h0 T6.heap [] := K5.trans Kq6 (allS (Or.inr sz_b5) all0)
  obtain ⟨T7, h7, X7, e7, E7, A7, D7, -, st7⟩ := newO X6 hx hZ3 hown3 (wq hw 34 rfl) (wq hw 35 rfl) (wq hw 36 rfl) rfl (g := (mkF m 167 #[.val (.int p0), .val (.int p1), .val (.int p2), .val (.int p3), .val (.int p4), .val (.int (fx0 p2)), .val (.int (fx2 p2)), .val (.int (fx4 p2)), .val (.int z8), .val (.int z9), .val (.int (fx0 z9)), .val (.int (fx2 z9)), .val (.int (fx4 z9)), .val (.ref b2_0), .val (.ref b3_0), .val (.int z15), .val (.ref b5), .val (.int (p4 &&& (3 : Int32))), .unset, .unset, .unset] [])) rfl (hb hby at_167) (by decide) (by decide)
  obtain ⟨b7, g7⟩ : ∃ z, z = T6.heap.size := ⟨_, rfl⟩
  rw [← g7] at A7 D7 st7
  have g_b7 : n0 ≤ b7 := Nat.le_trans (own_sz O6) (Nat.le_of_eq g7.symm)
  have sz_b7 : h0.size ≤ b7 := Nat.le_trans K6.1 (Nat.le_of_eq g7.symm)
  have O7 := O6.ext E7
  have K7 : Keep h0 h7 [] := K6.ext E7
  have CH7 := CH6.trans (CHr.ext E7 CH6.1)
  have hk7 := Nat.le_trans hk6 E7.1
  have F_dataSchema_b7 : Fld Z h7 b7 "com/example/epcrtools/epcrtools/exchange/RuleSetKey" "dataSchema" "I" (.int (0 : Int32)) := D7 (Or.inr (wq hw 42 rfl)) (ty := .int) (by decide)
  have F_schemaVersion_b7 : Fld Z h7 b7 "com/example/epcrtools/epcrtools/exchange/RuleSetKey" "schemaVersion" "Ljava/lang/String;" .null := D7 (Or.inr (wq hw 49 rfl)) (ty := (.object "java/lang/String")) (by decide)
  obtain ⟨_, _, ⟨T8, L8, k8, n8⟩, -, X8, ⟨Lc8, hQ8, l8, y8, z8⟩, st8⟩ := X7.specialBack hx (y := y7) rfl hown3 (mvT hZ3 (wq hw 37 rfl)) (mvT hZ3 (wq hw 38 rfl)) (mvT hZ3 (wq hw 39 rfl)) (by decide) (backOf (W := 1) (rm17 l Z a0 hw [] cs_v hp b7 z15 b3_0 h7 n0 O7 A7 F_dataSchema_b7 F_schemaVersion_b7 g_b7 (((fq3_0.ext E5).keep Kq6).ext E7)) hZ3 (wq hw 39 rfl) (wq hw 36 rfl) (by decide) (by decide)) (g := (mkF m 175 #[.val (.int p0), .val (.int p1), .val (.int p2), .val (.int p3), .val (.int p4), .val (.int (fx0 p2)), .val (.int (fx2 p2)), .val (.int (fx4 p2)), .val (.int z8), .val (.int z9), .val (.int (fx0 z9)), .val (.int (fx2 z9)), .val (.int (fx4 z9)), .val (.ref b2_0), .val (.ref b3_0), .val (.int z15), .val (.ref b5), .val (.int (p4 &&& (3 : Int32))), .unset, .unset, .unset] [(.ref b3_0), (.int z15), (.ref b7), (.ref b7)])) rfl (by rw [hml]; rfl) (Steps.refl _) (a := b7) (argsL := [(.int z15), (.ref b3_0)]) (rest := [(.ref b7)]) (lenOf pd_7 rfl) rfl (by show 2 * 0 + _ ≤ _; exact Nat.le_of_eq rfl) (hb hby at_175) (fun _ _ => ⟨rfl, e7, (by decide : 10 + 0 ≤ _), (by decide : 20 + 0 ≤ _)⟩)
  dsimp only [Pt.U, Pt.locs, Pt.cells, Pt.slots] at X8 l8 y8 z8 st8 hQ8
  subst l8 y8 z8
  obtain ⟨rfl, Nq8, Kq8, fq8_0, fq8_1, fq8_2⟩ := hQ8
  have N8 := Fr.app N6 Nq8
  have CH8 := CH7.trans (CHr.keep Kq8 (allS (Safe.exa hZ3.alike A7 (by decide) (by decide)) all0) CH7.1)
  have hk8 := Nat.le_trans hk7 Kq8.1
  have O8 := O7.keep Kq8 (allS g_b7 all0)
  have K8 : Keep h0 T8.heap [] := K7.trans Kq8 (allS (Or.inr sz_b7) all0)
  have f_9 := ((fq6_1.ext E7).keep Kq8 (ninS (Nat.ne_of_lt (Nat.lt_of_lt_of_le (A5.keep Kq6).lt (Nat.le_of_eq g7.symm))) nin0))
  have f_10 := ((fq6_2.ext E7).keep Kq8 (ninS (Nat.ne_of_lt (Nat.lt_of_lt_of_le (A5.keep Kq6).lt (Nat.le_of_eq g7.symm))) nin0))
  have f_11 := (((((fq2_1.keep Kq3 nin0).ext E5).keep Kq6 (ninS (Nat.ne_of_lt (Nat.lt_of_lt_of_le (fq2_0.keep Kq3).lt (Nat.le_of_eq g5.symm))) nin0)).ext E7).keep Kq8 (ninS (Nat.ne_of_lt (Nat.lt_of_lt_of_le (((fq2_0.keep Kq3).ext E5).keep Kq6).lt (Nat.le_of_eq g7.symm))) nin0))
  have f_12 := ((((fq3_1.ext E5).keep Kq6 (ninS (Nat.ne_of_lt (Nat.lt_of_lt_of_le fq3_0.lt (Nat.le_of_eq g5.symm))) nin0)).ext E7).keep Kq8 (ninS (Nat.ne_of_lt (Nat.lt_of_lt_of_le ((fq3_0.ext E5).keep Kq6).lt (Nat.le_of_eq g7.symm))) nin0))
  have f_13 := (((((fq2_2.keep Kq3 nin0).ext E5).keep Kq6 (ninS (Nat.ne_of_lt (Nat.lt_of_lt_of_le (fq2_0.keep Kq3).lt (Nat.le_of_eq g5.symm))) nin0)).ext E7).keep Kq8 (ninS (Nat.ne_of_lt (Nat.lt_of_lt_of_le (((fq2_0.keep Kq3).ext E5).keep Kq6).lt (Nat.le_of_eq g7.symm))) nin0))
  have f_14 := ((((fq3_2.ext E5).keep Kq6 (ninS (Nat.ne_of_lt (Nat.lt_of_lt_of_le fq3_0.lt (Nat.le_of_eq g5.symm))) nin0)).ext E7).keep Kq8 (ninS (Nat.ne_of_lt (Nat.lt_of_lt_of_le ((fq3_0.ext E5).keep Kq6).lt (Nat.le_of_eq g7.symm))) nin0))
  have f_15 := (((((fq2_3.keep Kq3 nin0).ext E5).keep Kq6 (ninS (Nat.ne_of_lt (Nat.lt_of_lt_of_le (fq2_3.keep Kq3 nin0).lt (Nat.le_of_eq g5.symm))) nin0)).ext E7).keep Kq8 (ninS (Nat.ne_of_lt (Nat.lt_of_lt_of_le (((fq2_3.keep Kq3 nin0).ext E5).keep Kq6 (ninS (Nat.ne_of_lt (Nat.lt_of_lt_of_le (fq2_3.keep Kq3 nin0).lt (Nat.le_of_eq g5.symm))) nin0)).lt (Nat.le_of_eq g7.symm))) nin0))
  have f_16 := ((((fq3_3.ext E5).keep Kq6 (ninS (Nat.ne_of_lt (Nat.lt_of_lt_of_le fq3_3.lt (Nat.le_of_eq g5.symm))) nin0)).ext E7).keep Kq8 (ninS (Nat.ne_of_lt (Nat.lt_of_lt_of_le ((fq3_3.ext E5).keep Kq6 (ninS (Nat.ne_of_lt (Nat.lt_of_lt_of_le fq3_3.lt (Nat.le_of_eq g5.symm))) nin0)).lt (Nat.le_of_eq g7.symm))) nin0))
  obtain ⟨cq17, kq17, q17a, q17b, q17c⟩ := isOf hZ3 rfl ((fq6_0.ext E7).keep Kq8)
  obtain ⟨_, _, ⟨T17, L17, k17, n17⟩, -, X17, ⟨Lc17, hQ17, l17, y17, z17⟩, st17⟩ := X8.virtualBack hx (y := y8) (z := y8) hown3 (mvT hZ3 (wq hw 50 rfl)) (mvT hZ3 (wq hw 51 rfl)) (notFace_of_selects (args := #[]) (mvT hZ3 (wq hw 53 rfl))) (mvT hZ3 (wq hw 53 rfl)) (mvT hZ3 (wq hw 52 rfl)) (by decide) (backOf (W := 0) (rm38 l Z a0 hw [] cs_v hp b5 b7 p0 z15 b2_0 b3_0 y2_0 y3_0 kc2_0 ((p2 &&& (3 : Int32)) % (3 : Int32)) ((((p2.toUInt32 >>> ((2 : Int32) &&& 31).toUInt32).toInt32) &&& (255 : Int32)).toUInt32.toUInt16.toUInt32.toInt32) ((((p2.toUInt32 >>> ((10 : Int32) &&& 31).toUInt32).toInt32) &&& (255 : Int32)).toUInt32.toUInt16.toUInt32.toInt32) kc3_0 ((z9 &&& (3 : Int32)) % (3 : Int32)) ((((z9.toUInt32 >>> ((2 : Int32) &&& 31).toUInt32).toInt32) &&& (255 : Int32)).toUInt32.toUInt16.toUInt32.toInt32) ((((z9.toUInt32 >>> ((10 : Int32) &&& 31).toUInt32).toInt32) &&& (255 : Int32)).toUInt32.toUInt16.toUInt32.toInt32) T8.heap n0 O8 fq8_0 f_9 fq8_1 hc8 f_10 fq8_2 (((((fq2_0.keep Kq3).ext E5).keep Kq6).ext E7).keep Kq8) ((((fq3_0.ext E5).keep Kq6).ext E7).keep Kq8) f_11 f_12 f_13 f_14 f_15 f_16 (by rw [own_mkE (own_rem (x := p2) (m := (3 : Int32)) (M := 3) rfl (by decide) (y := (3 : Int32)) (d := 3) rfl (by decide)) (own_rem (x := z9) (m := (3 : Int32)) (M := 3) rfl (by decide) (y := (3 : Int32)) (d := 3) rfl (by decide)), if_neg (fun q => q.2.1.elim hc6 (fun z => hc7 (own_mkB.mp z)))] : (mkE ((p2 &&& (3 : Int32)) % (3 : Int32)) ((((p2.toUInt32 >>> ((2 : Int32) &&& 31).toUInt32).toInt32) &&& (255 : Int32)).toUInt32.toUInt16.toUInt32.toInt32) ((((p2.toUInt32 >>> ((10 : Int32) &&& 31).toUInt32).toInt32) &&& (255 : Int32)).toUInt32.toUInt16.toUInt32.toInt32) ((z9 &&& (3 : Int32)) % (3 : Int32)) ((((z9.toUInt32 >>> ((2 : Int32) &&& 31).toUInt32).toInt32) &&& (255 : Int32)).toUInt32.toUInt16.toUInt32.toInt32) ((((z9.toUInt32 >>> ((10 : Int32) &&& 31).toUInt32).toInt32) &&& (255 : Int32)).toUInt32.toUInt16.toUInt32.toInt32)) = (0 : Int32)) (Nat.ne_of_lt (Nat.lt_of_lt_of_le fq2_0.lt sq_b3_0))) hZ3 (wq hw 54 rfl) (wq hw 36 rfl) (by decide) (by decide)) q17a q17c (g := (mkF m 254 #[.val (.int p0), .val (.int p1), .val (.int p2), .val (.int p3), .val (.int p4), .val (.int (fx0 p2)), .val (.int (fx2 p2)), .val (.int (fx4 p2)), .val (.int z8), .val (.int z9), .val (.int (fx0 z9)), .val (.int (fx2 z9)), .val (.int (fx4 z9)), .val (.ref b2_0), .val (.ref b3_0), .val (.int z15), .val (.ref b5), .val (.int (p4 &&& (3 : Int32))), .val (.ref b7), .val (.int (0 : Int32)), .val (.int (0 : Int32))] [(.ref b7), (.ref b5)])) rfl (by rw [hml]; rfl) (Steps.refl _) (argsL := [(.ref b7)]) (rest := []) (lenOf pd_8 rfl) rfl (by show 2 * 0 + _ ≤ _; exact Nat.le_of_eq rfl) (hb hby at_254) (fun _ _ => ⟨rfl, rfl, (by decide : 10 + 0 ≤ _), (by decide : 20 + 0 ≤ _)⟩)
  dsimp only [Pt.U, Pt.locs, Pt.cells, Pt.slots] at X17 l17 y17 z17 st17 hQ17
  subst l17 y17 z17
  obtain ⟨rfl, Nq17, eq17⟩ := hQ17
  have N17 := Fr.app N8 Nq17
  obtain ⟨fs, hr, hrun, hended, hE⟩ := Stand.leaveW (s := s) X17 hS3 (by rw [eq17]; exact hk8) (v := some (.int (1 : Int32))) (fun h => by rw [Bd.returns] at h; cases h)
  refine ⟨_, _, pre0 _ ?_, hrun, hended, _, _, rfl, ?_, hE.1, hE.2.1, hE.2.2.1, hE.2.2.2.mono (by decide) (by decide)⟩
  · show Sp p e below s₁ (mkF m 0 #[.val (.int p0), .val (.int p1), .val (.int p2), .val (.int p3), .val (.int p4), .unset, .unset, .unset, .unset, .unset, .unset, .unset, .unset, .unset, .unset, .unset, .unset, .unset, .unset, .unset, .unset] []) _
    refine XS.iloadN X0.here hx rfl (hb hby at_0) rfl ?_
    refine XS.iconst X0.here hx rfl (hb hby at_1) ?_
    refine XS.iand X0.here hx rfl (hb hby at_2) rfl ?_
    refine XS.iconst X0.here hx rfl (hb hby at_3) ?_
    show Sp p e below s₁ (mkF m 4 #[.val (.int p0), .val (.int p1), .val (.int p2), .val (.int p3), .val (.int p4), .unset, .unset, .unset, .unset, .unset, .unset, .unset, .unset, .unset, .unset, .unset, .unset, .unset, .unset, .unset, .unset] [(.int (3 : Int32)), (.int (p2 &&& (3 : Int32)))]) _
    refine iremM X0 hx rfl (hb hby at_4) rfl (by decide) ?_
    show Sp p e below s₁ (mkF m 5 #[.val (.int p0), .val (.int p1), .val (.int p2), .val (.int p3), .val (.int p4), .unset, .unset, .unset, .unset, .unset, .unset, .unset, .unset, .unset, .unset, .unset, .unset, .unset, .unset, .unset, .unset] [(.int (fx0 p2))]) _
    refine XS.istore X0.here hx rfl (hb hby at_5) rfl (l' := #[.val (.int p0), .val (.int p1), .val (.int p2), .val (.int p3), .val (.int p4), .val (.int (fx0 p2)), .unset, .unset, .unset, .unset, .unset, .unset, .unset, .unset, .unset, .unset, .unset, .unset, .unset, .unset, .unset]) rfl ?_
    refine XS.iloadN X0.here hx rfl (hb hby at_7) rfl ?_
    refine XS.iconst X0.here hx rfl (hb hby at_8) ?_
    refine XS.iushr X0.here hx rfl (hb hby at_9) rfl ?_
    show Sp p e below s₁ (mkF m 10 #[.val (.int p0), .val (.int p1), .val (.int p2), .val (.int p3), .val (.int p4), .val (.int (fx0 p2)), .unset, .unset, .unset, .unset, .unset, .unset, .unset, .unset, .unset, .unset, .unset, .unset, .unset, .unset, .unset] [(.int (fx1 p2))]) _
    refine XS.sipush X0.here hx rfl (hb hby at_10) ?_
    refine XS.iand X0.here hx rfl (hb hby at_13) rfl ?_
    refine XS.i2c X0.here hx rfl (hb hby at_14) rfl ?_
    refine XS.istore X0.here hx rfl (hb hby at_15) rfl (l' := #[.val (.int p0), .val (.int p1), .val (.int p2), .val (.int p3), .val (.int p4), .val (.int (fx0 p2)), .val (.int (fx2 p2)), .unset, .unset, .unset, .unset, .unset, .unset, .unset, .unset, .unset, .unset, .unset, .unset, .unset, .unset]) rfl ?_
    show Sp p e below s₁ (mkF m 17 #[.val (.int p0), .val (.int p1), .val (.int p2), .val (.int p3), .val (.int p4), .val (.int (fx0 p2)), .val (.int (fx2 p2)), .unset, .unset, .unset, .unset, .unset, .unset, .unset, .unset, .unset, .unset, .unset, .unset, .unset, .unset] []) _
    refine XS.iloadN X0.here hx rfl (hb hby at_17) rfl ?_
    refine XS.bipush X0.here hx rfl (hb hby at_18) ?_
    refine XS.iushr X0.here hx rfl (hb hby at_20) rfl ?_
    refine XS.sipush X0.here hx rfl (hb hby at_21) ?_
    show Sp p e below s₁ (mkF m 24 #[.val (.int p0), .val (.int p1), .val (.int p2), .val (.int p3), .val (.int p4), .val (.int (fx0 p2)), .val (.int (fx2 p2)), .unset, .unset, .unset, .unset, .unset, .unset, .unset, .unset, .unset, .unset, .unset, .unset, .unset, .unset] [(.int (255 : Int32)), (.int (fx3 p2))]) _
    refine XS.iand X0.here hx rfl (hb hby at_24) rfl ?_
    refine XS.i2c X0.here hx rfl (hb hby at_25) rfl ?_
    refine XS.istore X0.here hx rfl (hb hby at_26) rfl (l' := #[.val (.int p0), .val (.int p1), .val (.int p2), .val (.int p3), .val (.int p4), .val (.int (fx0 p2)), .val (.int (fx2 p2)), .val (.int (fx4 p2)), .unset, .unset, .unset, .unset, .unset, .unset, .unset, .unset, .unset, .unset, .unset, .unset, .unset]) rfl ?_
    show Sp p e below s₁ (mkF m 28 #[.val (.int p0), .val (.int p1), .val (.int p2), .val (.int p3), .val (.int p4), .val (.int (fx0 p2)), .val (.int (fx2 p2)), .val (.int (fx4 p2)), .unset, .unset, .unset, .unset, .unset, .unset, .unset, .unset, .unset, .unset, .unset, .unset, .unset] []) _
    refine st1 _ ?_
    show Sp p e below s₁ (mkF m 56 #[.val (.int p0), .val (.int p1), .val (.int p2), .val (.int p3), .val (.int p4), .val (.int (fx0 p2)), .val (.int (fx2 p2)), .val (.int (fx4 p2)), .val (.int z8), .val (.int z9), .unset, .unset, .unset, .unset, .unset, .unset, .unset, .unset, .unset, .unset, .unset] []) _
    refine XS.iload X0.here hx rfl (hb hby at_56) rfl ?_
    refine XS.iconst X0.here hx rfl (hb hby at_58) ?_
    refine XS.iand X0.here hx rfl (hb hby at_59) rfl ?_
    refine XS.iconst X0.here hx rfl (hb hby at_60) ?_
    show Sp p e below s₁ (mkF m 61 #[.val (.int p0), .val (.int p1), .val (.int p2), .val (.int p3), .val (.int p4), .val (.int (fx0 p2)), .val (.int (fx2 p2)), .val (.int (fx4 p2)), .val (.int z8), .val (.int z9), .unset, .unset, .unset, .unset, .unset, .unset, .unset, .unset, .unset, .unset, .unset] [(.int (3 : Int32)), (.int (z9 &&& (3 : Int32)))]) _
    refine iremM X0 hx rfl (hb hby at_61) rfl (by decide) ?_
    show Sp p e below s₁ (mkF m 62 #[.val (.int p0), .val (.int p1), .val (.int p2), .val (.int p3), .val (.int p4), .val (.int (fx0 p2)), .val (.int (fx2 p2)), .val (.int (fx4 p2)), .val (.int z8), .val (.int z9), .unset, .unset, .unset, .unset, .unset, .unset, .unset, .unset, .unset, .unset, .unset] [(.int (fx0 z9))]) _
    refine XS.istore X0.here hx rfl (hb hby at_62) rfl (l' := #[.val (.int p0), .val (.int p1), .val (.int p2), .val (.int p3), .val (.int p4), .val (.int (fx0 p2)), .val (.int (fx2 p2)), .val (.int (fx4 p2)), .val (.int z8), .val (.int z9), .val (.int (fx0 z9)), .unset, .unset, .unset, .unset, .unset, .unset, .unset, .unset, .unset, .unset]) rfl ?_
    refine XS.iload X0.here hx rfl (hb hby at_64) rfl ?_
    refine XS.iconst X0.here hx rfl (hb hby at_66) ?_
    refine XS.iushr X0.here hx rfl (hb hby at_67) rfl ?_
    show Sp p e below s₁ (mkF m 68 #[.val (.int p0), .val (.int p1), .val (.int p2), .val (.int p3), .val (.int p4), .val (.int (fx0 p2)), .val (.int (fx2 p2)), .val (.int (fx4 p2)), .val (.int z8), .val (.int z9), .val (.int (fx0 z9)), .unset, .unset, .unset, .unset, .unset, .unset, .unset, .unset, .unset, .unset] [(.int (fx1 z9))]) _
    refine XS.sipush X0.here hx rfl (hb hby at_68) ?_
    refine XS.iand X0.here hx rfl (hb hby at_71) rfl ?_
    refine XS.i2c X0.here hx rfl (hb hby at_72) rfl ?_
    refine XS.istore X0.here hx rfl (hb hby at_73) rfl (l' := #[.val (.int p0), .val (.int p1), .val (.int p2), .val (.int p3), .val (.int p4), .val (.int (fx0 p2)), .val (.int (fx2 p2)), .val (.int (fx4 p2)), .val (.int z8), .val (.int z9), .val (.int (fx0 z9)), .val (.int (fx2 z9)), .unset, .unset, .unset, .unset, .unset, .unset, .unset, .unset, .unset]) rfl ?_
    show Sp p e below s₁ (mkF m 75 #[.val (.int p0), .val (.int p1), .val (.int p2), .val (.int p3), .val (.int p4), .val (.int (fx0 p2)), .val (.int (fx2 p2)), .val (.int (fx4 p2)), .val (.int z8), .val (.int z9), .val (.int (fx0 z9)), .val (.int (fx2 z9)), .unset, .unset, .unset, .unset, .unset, .unset, .unset, .unset, .unset] []) _
    refine XS.iload X0.here hx rfl (hb hby at_75) rfl ?_
    refine XS.bipush X0.here hx rfl (hb hby at_77) ?_
    refine XS.iushr X0.here hx rfl (hb hby at_79) rfl ?_
    refine XS.sipush X0.here hx rfl (hb hby at_80) ?_
    show Sp p e below s₁ (mkF m 83 #[.val (.int p0), .val (.int p1), .val (.int p2), .val (.int p3), .val (.int p4), .val (.int (fx0 p2)), .val (.int (fx2 p2)), .val (.int (fx4 p2)), .val (.int z8), .val (.int z9), .val (.int (fx0 z9)), .val (.int (fx2 z9)), .unset, .unset, .unset, .unset, .unset, .unset, .unset, .unset, .unset] [(.int (255 : Int32)), (.int (fx3 z9))]) _
    refine XS.iand X0.here hx rfl (hb hby at_83) rfl ?_
    refine XS.i2c X0.here hx rfl (hb hby at_84) rfl ?_
    refine XS.istore X0.here hx rfl (hb hby at_85) rfl (l' := #[.val (.int p0), .val (.int p1), .val (.int p2), .val (.int p3), .val (.int p4), .val (.int (fx0 p2)), .val (.int (fx2 p2)), .val (.int (fx4 p2)), .val (.int z8), .val (.int z9), .val (.int (fx0 z9)), .val (.int (fx2 z9)), .val (.int (fx4 z9)), .unset, .unset, .unset, .unset, .unset, .unset, .unset, .unset]) rfl ?_
    refine XS.iload X0.here hx rfl (hb hby at_87) rfl ?_
    show Sp p e below s₁ (mkF m 89 #[.val (.int p0), .val (.int p1), .val (.int p2), .val (.int p3), .val (.int p4), .val (.int (fx0 p2)), .val (.int (fx2 p2)), .val (.int (fx4 p2)), .val (.int z8), .val (.int z9), .val (.int (fx0 z9)), .val (.int (fx2 z9)), .val (.int (fx4 z9)), .unset, .unset, .unset, .unset, .unset, .unset, .unset, .unset] [(.int (fx0 p2))]) _
    refine XS.iload X0.here hx rfl (hb hby at_89) rfl ?_
    refine XS.iload X0.here hx rfl (hb hby at_91) rfl ?_
    show Sp p e below s₁ (mkF m 93 #[.val (.int p0), .val (.int p1), .val (.int p2), .val (.int p3), .val (.int p4), .val (.int (fx0 p2)), .val (.int (fx2 p2)), .val (.int (fx4 p2)), .val (.int z8), .val (.int z9), .val (.int (fx0 z9)), .val (.int (fx2 z9)), .val (.int (fx4 z9)), .unset, .unset, .unset, .unset, .unset, .unset, .unset, .unset] [(.int (fx4 p2)), (.int (fx2 p2)), (.int (fx0 p2))]) _
    refine st2.trans ?_
    show Sp p e below T2 (mkF m 96 #[.val (.int p0), .val (.int p1), .val (.int p2), .val (.int p3), .val (.int p4), .val (.int (fx0 p2)), .val (.int (fx2 p2)), .val (.int (fx4 p2)), .val (.int z8), .val (.int z9), .val (.int (fx0 z9)), .val (.int (fx2 z9)), .val (.int (fx4 z9)), .unset, .unset, .unset, .unset, .unset, .unset, .unset, .unset] [(.ref b2_0)]) _
    refine XS.astore X2.here hx rfl (hb hby at_96) rfl rfl (l' := #[.val (.int p0), .val (.int p1), .val (.int p2), .val (.int p3), .val (.int p4), .val (.int (fx0 p2)), .val (.int (fx2 p2)), .val (.int (fx4 p2)), .val (.int z8), .val (.int z9), .val (.int (fx0 z9)), .val (.int (fx2 z9)), .val (.int (fx4 z9)), .val (.ref b2_0), .unset, .unset, .unset, .unset, .unset, .unset, .unset]) rfl ?_
    refine XS.iload X2.here hx rfl (hb hby at_98) rfl ?_
    refine XS.iload X2.here hx rfl (hb hby at_100) rfl ?_
    refine XS.iload X2.here hx rfl (hb hby at_102) rfl ?_
    show Sp p e below T2 (mkF m 104 #[.val (.int p0), .val (.int p1), .val (.int p2), .val (.int p3), .val (.int p4), .val (.int (fx0 p2)), .val (.int (fx2 p2)), .val (.int (fx4 p2)), .val (.int z8), .val (.int z9), .val (.int (fx0 z9)), .val (.int (fx2 z9)), .val (.int (fx4 z9)), .val (.ref b2_0), .unset, .unset, .unset, .unset, .unset, .unset, .unset] [(.int (fx4 z9)), (.int (fx2 z9)), (.int (fx0 z9))]) _
    refine st3.trans ?_
    show Sp p e below T3 (mkF m 107 #[.val (.int p0), .val (.int p1), .val (.int p2), .val (.int p3), .val (.int p4), .val (.int (fx0 p2)), .val (.int (fx2 p2)), .val (.int (fx4 p2)), .val (.int z8), .val (.int z9), .val (.int (fx0 z9)), .val (.int (fx2 z9)), .val (.int (fx4 z9)), .val (.ref b2_0), .unset, .unset, .unset, .unset, .unset, .unset, .unset] [(.ref b3_0)]) _
    refine XS.astore X3.here hx rfl (hb hby at_107) rfl rfl (l' := #[.val (.int p0), .val (.int p1), .val (.int p2), .val (.int p3), .val (.int p4), .val (.int (fx0 p2)), .val (.int (fx2 p2)), .val (.int (fx4 p2)), .val (.int z8), .val (.int z9), .val (.int (fx0 z9)), .val (.int (fx2 z9)), .val (.int (fx4 z9)), .val (.ref b2_0), .val (.ref b3_0), .unset, .unset, .unset, .unset, .unset, .unset]) rfl ?_
    show Sp p e below T3 (mkF m 109 #[.val (.int p0), .val (.int p1), .val (.int p2), .val (.int p3), .val (.int p4), .val (.int (fx0 p2)), .val (.int (fx2 p2)), .val (.int (fx4 p2)), .val (.int z8), .val (.int z9), .val (.int (fx0 z9)), .val (.int (fx2 z9)), .val (.int (fx4 z9)), .val (.ref b2_0), .val (.ref b3_0), .unset, .unset, .unset, .unset, .unset, .unset] []) _
    refine st4 _ ?_
    show Sp p e below T3 (mkF m 125 #[.val (.int p0), .val (.int p1), .val (.int p2), .val (.int p3), .val (.int p4), .val (.int (fx0 p2)), .val (.int (fx2 p2)), .val (.int (fx4 p2)), .val (.int z8), .val (.int z9), .val (.int (fx0 z9)), .val (.int (fx2 z9)), .val (.int (fx4 z9)), .val (.ref b2_0), .val (.ref b3_0), .val (.int z15), .unset, .unset, .unset, .unset, .unset] []) _
    refine st5 _ ?_
    show Sp p e below T5 (mkF m 128 #[.val (.int p0), .val (.int p1), .val (.int p2), .val (.int p3), .val (.int p4), .val (.int (fx0 p2)), .val (.int (fx2 p2)), .val (.int (fx4 p2)), .val (.int z8), .val (.int z9), .val (.int (fx0 z9)), .val (.int (fx2 z9)), .val (.int (fx4 z9)), .val (.ref b2_0), .val (.ref b3_0), .val (.int z15), .unset, .unset, .unset, .unset, .unset] [(.ref b5)]) _
    refine XS.dup X5.here hx rfl (hb hby at_128) rfl rfl ?_
    refine XS.iloadN X5.here hx rfl (hb hby at_129) rfl ?_
    refine XS.aload X5.here hx rfl (hb hby at_130) rfl rfl ?_
    show Sp p e below T5 (mkF m 132 #[.val (.int p0), .val (.int p1), .val (.int p2), .val (.int p3), .val (.int p4), .val (.int (fx0 p2)), .val (.int (fx2 p2)), .val (.int (fx4 p2)), .val (.int z8), .val (.int z9), .val (.int (fx0 z9)), .val (.int (fx2 z9)), .val (.int (fx4 z9)), .val (.ref b2_0), .val (.ref b3_0), .val (.int z15), .unset, .unset, .unset, .unset, .unset] [(.ref b2_0), (.int p0), (.ref b5), (.ref b5)]) _
    refine st6.trans ?_
    show Sp p e below T6 (mkF m 135 #[.val (.int p0), .val (.int p1), .val (.int p2), .val (.int p3), .val (.int p4), .val (.int (fx0 p2)), .val (.int (fx2 p2)), .val (.int (fx4 p2)), .val (.int z8), .val (.int z9), .val (.int (fx0 z9)), .val (.int (fx2 z9)), .val (.int (fx4 z9)), .val (.ref b2_0), .val (.ref b3_0), .val (.int z15), .unset, .unset, .unset, .unset, .unset] [(.ref b5)]) _
    refine XS.astore X6.here hx rfl (hb hby at_135) rfl rfl (l' := #[.val (.int p0), .val (.int p1), .val (.int p2), .val (.int p3), .val (.int p4), .val (.int (fx0 p2)), .val (.int (fx2 p2)), .val (.int (fx4 p2)), .val (.int z8), .val (.int z9), .val (.int (fx0 z9)), .val (.int (fx2 z9)), .val (.int (fx4 z9)), .val (.ref b2_0), .val (.ref b3_0), .val (.int z15), .val (.ref b5), .unset, .unset, .unset, .unset]) rfl ?_
    refine XS.iload X6.here hx rfl (hb hby at_137) rfl ?_
    refine XS.iconst X6.here hx rfl (hb hby at_139) ?_
    refine XS.iand X6.here hx rfl (hb hby at_140) rfl ?_
    show Sp p e below T6 (mkF m 141 #[.val (.int p0), .val (.int p1), .val (.int p2), .val (.int p3), .val (.int p4), .val (.int (fx0 p2)), .val (.int (fx2 p2)), .val (.int (fx4 p2)), .val (.int z8), .val (.int z9), .val (.int (fx0 z9)), .val (.int (fx2 z9)), .val (.int (fx4 z9)), .val (.ref b2_0), .val (.ref b3_0), .val (.int z15), .val (.ref b5), .unset, .unset, .unset, .unset] [(.int (p4 &&& (3 : Int32)))]) _
    refine XS.istore X6.here hx rfl (hb hby at_141) rfl (l' := #[.val (.int p0), .val (.int p1), .val (.int p2), .val (.int p3), .val (.int p4), .val (.int (fx0 p2)), .val (.int (fx2 p2)), .val (.int (fx4 p2)), .val (.int z8), .val (.int z9), .val (.int (fx0 z9)), .val (.int (fx2 z9)), .val (.int (fx4 z9)), .val (.ref b2_0), .val (.ref b3_0), .val (.int z15), .val (.ref b5), .val (.int (p4 &&& (3 : Int32))), .unset, .unset, .unset]) rfl ?_
    refine XS.iload X6.here hx rfl (hb hby at_143) rfl ?_
    refine XS.ifYes X6.here hx rfl (pc0 := 145) (pc' := 154) rfl (hb hby at_145) rfl ((if0 _ _).trans (feq hc3).2) (by decide) (by decide) ?_
    refine XS.iload X6.here hx rfl (hb hby at_154) rfl ?_
    show Sp p e below T6 (mkF m 156 #[.val (.int p0), .val (.int p1), .val (.int p2), .val (.int p3), .val (.int p4), .val (.int (fx0 p2)), .val (.int (fx2 p2)), .val (.int (fx4 p2)), .val (.int z8), .val (.int z9), .val (.int (fx0 z9)), .val (.int (fx2 z9)), .val (.int (fx4 z9)), .val (.ref b2_0), .val (.ref b3_0), .val (.int z15), .val (.ref b5), .val (.int (p4 &&& (3 : Int32))), .unset, .unset, .unset] [(.int (p4 &&& (3 : Int32)))]) _
    refine XS.iconst X6.here hx rfl (hb hby at_156) ?_
    refine XS.icmpYes X6.here hx rfl (pc0 := 157) (pc' := 167) rfl (hb hby at_157) rfl (feq hc4).2 (by decide) (by decide) ?_
    show Sp p e below T6 (mkF m 167 #[.val (.int p0), .val (.int p1), .val (.int p2), .val (.int p3), .val (.int p4), .val (.int (fx0 p2)), .val (.int (fx2 p2)), .val (.int (fx4 p2)), .val (.int z8), .val (.int z9), .val (.int (fx0 z9)), .val (.int (fx2 z9)), .val (.int (fx4 z9)), .val (.ref b2_0), .val (.ref b3_0), .val (.int z15), .val (.ref b5), .val (.int (p4 &&& (3 : Int32))), .unset, .unset, .unset] []) _
    refine st7 _ ?_
    show Sp p e below T7 (mkF m 170 #[.val (.int p0), .val (.int p1), .val (.int p2), .val (.int p3), .val (.int p4), .val (.int (fx0 p2)), .val (.int (fx2 p2)), .val (.int (fx4 p2)), .val (.int z8), .val (.int z9), .val (.int (fx0 z9)), .val (.int (fx2 z9)), .val (.int (fx4 z9)), .val (.ref b2_0), .val (.ref b3_0), .val (.int z15), .val (.ref b5), .val (.int (p4 &&& (3 : Int32))), .unset, .unset, .unset] [(.ref b7)]) _
    refine XS.dup X7.here hx rfl (hb hby at_170) rfl rfl ?_
    refine XS.iload X7.here hx rfl (hb hby at_171) rfl ?_
    refine XS.aload X7.here hx rfl (hb hby at_173) rfl rfl ?_
    show Sp p e below T7 (mkF m 175 #[.val (.int p0), .val (.int p1), .val (.int p2), .val (.int p3), .val (.int p4), .val (.int (fx0 p2)), .val (.int (fx2 p2)), .val (.int (fx4 p2)), .val (.int z8), .val (.int z9), .val (.int (fx0 z9)), .val (.int (fx2 z9)), .val (.int (fx4 z9)), .val (.ref b2_0), .val (.ref b3_0), .val (.int z15), .val (.ref b5), .val (.int (p4 &&& (3 : Int32))), .unset, .unset, .unset] [(.ref b3_0), (.int z15), (.ref b7), (.ref b7)]) _
    refine st8.trans ?_
    show Sp p e below T8 (mkF m 178 #[.val (.int p0), .val (.int p1), .val (.int p2), .val (.int p3), .val (.int p4), .val (.int (fx0 p2)), .val (.int (fx2 p2)), .val (.int (fx4 p2)), .val (.int z8), .val (.int z9), .val (.int (fx0 z9)), .val (.int (fx2 z9)), .val (.int (fx4 z9)), .val (.ref b2_0), .val (.ref b3_0), .val (.int z15), .val (.ref b5), .val (.int (p4 &&& (3 : Int32))), .unset, .unset, .unset] [(.ref b7)]) _
    refine XS.astore X8.here hx rfl (hb hby at_178) rfl rfl (l' := #[.val (.int p0), .val (.int p1), .val (.int p2), .val (.int p3), .val (.int p4), .val (.int (fx0 p2)), .val (.int (fx2 p2)), .val (.int (fx4 p2)), .val (.int z8), .val (.int z9), .val (.int (fx0 z9)), .val (.int (fx2 z9)), .val (.int (fx4 z9)), .val (.ref b2_0), .val (.ref b3_0), .val (.int z15), .val (.ref b5), .val (.int (p4 &&& (3 : Int32))), .val (.ref b7), .unset, .unset]) rfl ?_
    refine XS.iload X8.here hx rfl (hb hby at_180) rfl ?_
    refine XS.iconst X8.here hx rfl (hb hby at_182) ?_
    refine XS.icmpYes X8.here hx rfl (pc0 := 183) (pc' := 192) rfl (hb hby at_183) rfl (flt (own_nlti (n := 2) rfl (by have r := (own_and (x := p4) (m := (3 : Int32)) (M := 3) rfl (by decide)); have q0 := own_nei hc3 (n := 0) rfl; have q1 := own_nei hc4 (n := 1) rfl; omega) : ¬ ((p4 &&& (3 : Int32)) < (2 : Int32)))).2.1 (by decide) (by decide) ?_
    show Sp p e below T8 (mkF m 192 #[.val (.int p0), .val (.int p1), .val (.int p2), .val (.int p3), .val (.int p4), .val (.int (fx0 p2)), .val (.int (fx2 p2)), .val (.int (fx4 p2)), .val (.int z8), .val (.int z9), .val (.int (fx0 z9)), .val (.int (fx2 z9)), .val (.int (fx4 z9)), .val (.ref b2_0), .val (.ref b3_0), .val (.int z15), .val (.ref b5), .val (.int (p4 &&& (3 : Int32))), .val (.ref b7), .unset, .unset] []) _
    refine XS.iload X8.here hx rfl (hb hby at_192) rfl ?_
    refine XS.iload X8.here hx rfl (hb hby at_194) rfl ?_
    refine XS.icmpNo X8.here hx rfl (hb hby at_196) rfl (teq hc5).2 ?_
    refine XS.iload X8.here hx rfl (hb hby at_199) rfl ?_
    show Sp p e below T8 (mkF m 201 #[.val (.int p0), .val (.int p1), .val (.int p2), .val (.int p3), .val (.int p4), .val (.int (fx0 p2)), .val (.int (fx2 p2)), .val (.int (fx4 p2)), .val (.int z8), .val (.int z9), .val (.int (fx0 z9)), .val (.int (fx2 z9)), .val (.int (fx4 z9)), .val (.ref b2_0), .val (.ref b3_0), .val (.int z15), .val (.ref b5), .val (.int (p4 &&& (3 : Int32))), .val (.ref b7), .unset, .unset] [(.int (fx0 p2))]) _
    refine XS.iconst X8.here hx rfl (hb hby at_201) ?_
    refine XS.icmpNo X8.here hx rfl (hb hby at_202) rfl (flt hc6).1 ?_
    refine XS.iload X8.here hx rfl (hb hby at_205) rfl ?_
    refine XS.iload X8.here hx rfl (hb hby at_207) rfl ?_
    show Sp p e below T8 (mkF m 209 #[.val (.int p0), .val (.int p1), .val (.int p2), .val (.int p3), .val (.int p4), .val (.int (fx0 p2)), .val (.int (fx2 p2)), .val (.int (fx4 p2)), .val (.int z8), .val (.int z9), .val (.int (fx0 z9)), .val (.int (fx2 z9)), .val (.int (fx4 z9)), .val (.ref b2_0), .val (.ref b3_0), .val (.int z15), .val (.ref b5), .val (.int (p4 &&& (3 : Int32))), .val (.ref b7), .unset, .unset] [(.int (fx2 z9)), (.int (fx2 p2))]) _
    refine XS.icmpYes X8.here hx rfl (pc0 := 209) (pc' := 229) rfl (hb hby at_209) rfl (feq hc7).2 (by decide) (by decide) ?_
    refine XS.iconst X8.here hx rfl (hb hby at_229) ?_
    refine XS.istore X8.here hx rfl (hb hby at_230) rfl (l' := #[.val (.int p0), .val (.int p1), .val (.int p2), .val (.int p3), .val (.int p4), .val (.int (fx0 p2)), .val (.int (fx2 p2)), .val (.int (fx4 p2)), .val (.int z8), .val (.int z9), .val (.int (fx0 z9)), .val (.int (fx2 z9)), .val (.int (fx4 z9)), .val (.ref b2_0), .val (.ref b3_0), .val (.int z15), .val (.ref b5), .val (.int (p4 &&& (3 : Int32))), .val (.ref b7), .unset, .val (.int (0 : Int32))]) rfl ?_
    refine XS.iloadN X8.here hx rfl (hb hby at_232) rfl ?_
    show Sp p e below T8 (mkF m 233 #[.val (.int p0), .val (.int p1), .val (.int p2), .val (.int p3), .val (.int p4), .val (.int (fx0 p2)), .val (.int (fx2 p2)), .val (.int (fx4 p2)), .val (.int z8), .val (.int z9), .val (.int (fx0 z9)), .val (.int (fx2 z9)), .val (.int (fx4 z9)), .val (.ref b2_0), .val (.ref b3_0), .val (.int z15), .val (.ref b5), .val (.int (p4 &&& (3 : Int32))), .val (.ref b7), .unset, .val (.int (0 : Int32))] [(.int p0)]) _
    refine XS.iload X8.here hx rfl (hb hby at_233) rfl ?_
    refine XS.icmpNo X8.here hx rfl (hb hby at_235) rfl (teq hc8).2 ?_
    refine XS.iload X8.here hx rfl (hb hby at_238) rfl ?_
    refine XS.ifYes X8.here hx rfl (pc0 := 240) (pc' := 247) rfl (hb hby at_240) rfl ((if0 _ _).trans (teq (by decide : (0 : Int32) = (0 : Int32))).1) (by decide) (by decide) ?_
    show Sp p e below T8 (mkF m 247 #[.val (.int p0), .val (.int p1), .val (.int p2), .val (.int p3), .val (.int p4), .val (.int (fx0 p2)), .val (.int (fx2 p2)), .val (.int (fx4 p2)), .val (.int z8), .val (.int z9), .val (.int (fx0 z9)), .val (.int (fx2 z9)), .val (.int (fx4 z9)), .val (.ref b2_0), .val (.ref b3_0), .val (.int z15), .val (.ref b5), .val (.int (p4 &&& (3 : Int32))), .val (.ref b7), .unset, .val (.int (0 : Int32))] []) _
    refine XS.iconst X8.here hx rfl (hb hby at_247) ?_
    refine XS.istore X8.here hx rfl (hb hby at_248) rfl (l' := #[.val (.int p0), .val (.int p1), .val (.int p2), .val (.int p3), .val (.int p4), .val (.int (fx0 p2)), .val (.int (fx2 p2)), .val (.int (fx4 p2)), .val (.int z8), .val (.int z9), .val (.int (fx0 z9)), .val (.int (fx2 z9)), .val (.int (fx4 z9)), .val (.ref b2_0), .val (.ref b3_0), .val (.int z15), .val (.ref b5), .val (.int (p4 &&& (3 : Int32))), .val (.ref b7), .val (.int (0 : Int32)), .val (.int (0 : Int32))]) rfl ?_
    refine XS.aload X8.here hx rfl (hb hby at_250) rfl rfl ?_
    refine XS.aload X8.here hx rfl (hb hby at_252) rfl rfl ?_
    show Sp p e below T8 (mkF m 254 #[.val (.int p0), .val (.int p1), .val (.int p2), .val (.int p3), .val (.int p4), .val (.int (fx0 p2)), .val (.int (fx2 p2)), .val (.int (fx4 p2)), .val (.int z8), .val (.int z9), .val (.int (fx0 z9)), .val (.int (fx2 z9)), .val (.int (fx4 z9)), .val (.ref b2_0), .val (.ref b3_0), .val (.int z15), .val (.ref b5), .val (.int (p4 &&& (3 : Int32))), .val (.ref b7), .val (.int (0 : Int32)), .val (.int (0 : Int32))] [(.ref b7), (.ref b5)]) _
    refine st17.trans ?_
    show Sp p e below T17 (mkF m 257 #[.val (.int p0), .val (.int p1), .val (.int p2), .val (.int p3), .val (.int p4), .val (.int (fx0 p2)), .val (.int (fx2 p2)), .val (.int (fx4 p2)), .val (.int z8), .val (.int z9), .val (.int (fx0 z9)), .val (.int (fx2 z9)), .val (.int (fx4 z9)), .val (.ref b2_0), .val (.ref b3_0), .val (.int z15), .val (.ref b5), .val (.int (p4 &&& (3 : Int32))), .val (.ref b7), .val (.int (0 : Int32)), .val (.int (0 : Int32))] [(.int (0 : Int32))]) _
    refine XS.iload X17.here hx rfl (hb hby at_257) rfl ?_
    refine XS.icmpNo X17.here hx rfl (hb hby at_259) rfl (teq (by decide : (0 : Int32) = (0 : Int32))).2 ?_
    refine XS.iconst X17.here hx rfl (hb hby at_262) ?_
    refine XS.goto X17.here hx rfl (pc0 := 263) (pc' := 267) rfl (hb hby at_263) (by decide) (by decide) ?_
    show Sp p e below T17 (mkF m 267 #[.val (.int p0), .val (.int p1), .val (.int p2), .val (.int p3), .val (.int p4), .val (.int (fx0 p2)), .val (.int (fx2 p2)), .val (.int (fx4 p2)), .val (.int z8), .val (.int z9), .val (.int (fx0 z9)), .val (.int (fx2 z9)), .val (.int (fx4 z9)), .val (.ref b2_0), .val (.ref b3_0), .val (.int z15), .val (.ref b5), .val (.int (p4 &&& (3 : Int32))), .val (.ref b7), .val (.int (0 : Int32)), .val (.int (0 : Int32))] [(.int (1 : Int32))]) _
    exact retN X17 hx (t := .boolean) Bd.returns (by simp) (hb hby at_267) hr
  · skip
    exact ⟨rfl, N17⟩
set_option maxRecDepth 65536 in
set_option maxHeartbeats 40000000 in
theorem rm44 (l : Launch) (Z : State) (a0 : Array Value) (hw : ∀ d ∈ tables_1, d.before a0 Z = true) (ws : List Jvm.Cond) (cs_v : Int32) (hp : Perm Z cs_v) (p0 : Int32) (p1 : Int32) (p2 : Int32) (p3 : Int32) (p4 : Int32) (z8 : Int32) (z9 : Int32) (z15 : Int32) (h0 : Heap) (n0 : Nat) (O0 : Old Z n0 h0) (hcut28 : Cut_0_28 p0 p1 p2 p3 p4 ((p2 &&& (3 : Int32)) % (3 : Int32)) ((((p2.toUInt32 >>> ((2 : Int32) &&& 31).toUInt32).toInt32) &&& (255 : Int32)).toUInt32.toUInt16.toUInt32.toInt32) ((((p2.toUInt32 >>> ((10 : Int32) &&& 31).toUInt32).toInt32) &&& (255 : Int32)).toUInt32.toUInt16.toUInt32.toInt32) z8 z9) (hcut109 : Cut_0_109 p0 p1 p2 p3 p4 ((p2 &&& (3 : Int32)) % (3 : Int32)) ((((p2.toUInt32 >>> ((2 : Int32) &&& 31).toUInt32).toInt32) &&& (255 : Int32)).toUInt32.toUInt16.toUInt32.toInt32) ((((p2.toUInt32 >>> ((10 : Int32) &&& 31).toUInt32).toInt32) &&& (255 : Int32)).toUInt32.toUInt16.toUInt32.toInt32) z8 z9 ((z9 &&& (3 : Int32)) % (3 : Int32)) ((((z9.toUInt32 >>> ((2 : Int32) &&& 31).toUInt32).toInt32) &&& (255 : Int32)).toUInt32.toUInt16.toUInt32.toInt32) ((((z9.toUInt32 >>> ((10 : Int32) &&& 31).toUInt32).toInt32) &&& (255 : Int32)).toUInt32.toUInt16.toUInt32.toInt32) z15) (hc3 : ¬ ((p4 &&& (3 : Int32)) = (0 : Int32))) (hc4 : ¬ ((p4 &&& (3 : Int32)) = (1 : Int32))) (hc5 : ((p2 &&& (3 : Int32)) % (3 : Int32)) = ((z9 &&& (3 : Int32)) % (3 : Int32))) (hc6 : ¬ (((p2 &&& (3 : Int32)) % (3 : Int32)) < (1 : Int32))) (hc7 : ¬ (((((p2.toUInt32 >>> ((2 : Int32) &&& 31).toUInt32).toInt32) &&& (255 : Int32)).toUInt32.toUInt16.toUInt32.toInt32) = ((((z9.toUInt32 >>> ((2 : Int32) &&& 31).toUInt32).toInt32) &&& (255 : Int32)).toUInt32.toUInt16.toUInt32.toInt32))) (hc8 : ¬ (p0 = z15)) :
    MetFree l x (head1 (Jvm.Cond.code x code maxLocals ret :: ws) room_1) (fun a U => a = #[(.int p0), (.int p1), (.int p2), (.int p3), (.int p4)] ∧ Z.Warmed39 U.vm ∧ U.heap = h0 ∧ CHv Z own_EL U.vm h0) (fun _ _ _ _ _ => True) (fun _ U o U' => ∃ v L, o = .returned v ∧ (v = some (.int (1 : Int32)) ∧ Fr n0 L) ∧ ReturnedEndW U o U' L 32 1152) := by
  refine MetFree.of_bodySF (plainFor_of_name pn_1) hisR ?_
  intro p e s m args below meth c s₁ Bd hml0 hP hK
  obtain ⟨rfl, hZo, hh, hCH⟩ := hP
  have hx := Bd.exec
  have hby := Bd.bytes
  have hml : c.maxLocals = 21 := hml0
  have hown : (s.setVm s.vm).vm.findClass "com/example/epcrtools/epcrtools/exchange/RuleSetKeyEqualsPinLaw" = some m.cls := findClass_of_methodNamed Bd.named
  have hnm := (name_of_methodNamed Bd.named Bd.method).1
  have X0 : Stand p l e room_1 (s.setVm s.vm) m #[(.int p0), (.int p1), (.int p2), (.int p3), (.int p4)] below meth c s₁ [] 0 0 := Stand.of_body Bd
  have e0 : s₁.heap = h0 := by rw [← hh, Bd.state]; rfl
  have N0 := Fr.nil n0
  have hZ : Z.Warmed39 (s.setVm s.vm).vm := hZo
  have CH0 := CHr.refl hCH
  have hS0 : s.Since s.vm 0 := (State.WarmedH.refl s).since 0
  have hk0 : 0 ≤ h0.size := Nat.zero_le _
  have hp' := hp
  obtain ⟨S_COMPACT_STRINGS, h_cs⟩ := hp'
  have pre0 : ∀ t, Steps p.tables e below (s₁.setTop (mkF m 0 #[.val (.int p0), .val (.int p1), .val (.int p2), .val (.int p3), .val (.int p4), .unset, .unset, .unset, .unset, .unset, .unset, .unset, .unset, .unset, .unset, .unset, .unset, .unset, .unset, .unset, .unset] [])) t → Steps p.tables e below (s₁.setTop (entryFrame m #[(.int p0), (.int p1), (.int p2), (.int p3), (.int p4)] maxLocals)) t := fun t k => castTop (ef_0_0 m p0 p1 p2 p3 p4) k
  have st1 := hcut28 X0 hx hZ hw hby hown
  obtain ⟨_, _, ⟨T2, L2, k2, n2⟩, -, XX2, Sq2, gq2, ⟨Lc2, hQ2, l2, y2, z2, C2⟩, st2⟩ := callSS X0 hx (y := y2) hown (mvT hZ (wq hw 0 rfl)) (mvT hZ (wq hw 1 rfl)) (mvT hZ (wq hw 2 rfl)) (mvT hZ (wq hw 3 rfl)) (by decide) (own_backC (SL := []) (W := 0) (rmS1 l Z a0 hw [] cs_v hp ((p2 &&& (3 : Int32)) % (3 : Int32)) ((((p2.toUInt32 >>> ((2 : Int32) &&& 31).toUInt32).toInt32) &&& (255 : Int32)).toUInt32.toUInt16.toUInt32.toInt32) ((((p2.toUInt32 >>> ((10 : Int32) &&& 31).toUInt32).toInt32) &&& (255 : Int32)).toUInt32.toUInt16.toUInt32.toInt32) h0 n0 O0 (own_ch2 ((p2.toUInt32 >>> ((2 : Int32) &&& 31).toUInt32).toInt32)) (own_ch2 ((p2.toUInt32 >>> ((10 : Int32) &&& 31).toUInt32).toInt32))) hZ (wq hw 3 rfl) (wq hw 2 rfl) (by decide) (by decide) (own_EW hw) CH0.1 all0) (g := (mkF m 93 #[.val (.int p0), .val (.int p1), .val (.int p2), .val (.int p3), .val (.int p4), .val (.int (fx0 p2)), .val (.int (fx2 p2)), .val (.int (fx4 p2)), .val (.int z8), .val (.int z9), .val (.int (fx0 z9)), .val (.int (fx2 z9)), .val (.int (fx4 z9)), .unset, .unset, .unset, .unset, .unset, .unset, .unset, .unset] [(.int (fx4 p2)), (.int (fx2 p2)), (.int (fx0 p2))])) rfl (by rw [hml]; rfl) (argsL := [(.int (fx0 p2)), (.int (fx2 p2)), (.int (fx4 p2))]) (rest := []) (lenOf pd_5 rfl) rfl (by show 2 * 0 + _ ≤ _; exact Nat.le_of_eq rfl) (hb hby at_93) (fun _ _ => ⟨rfl, e0, (by decide : 0 + 4 ≤ _), (by decide : 0 + 8 ≤ _)⟩)
  dsimp only [Pt.U, Pt.locs, Pt.cells, Pt.slots] at XX2 Sq2 gq2 l2 y2 z2 st2 hQ2 C2
  subst l2 y2 z2
  obtain ⟨X2, hS2, hZ2, hown2⟩ := rebS hS0 (by rw [e0]; exact hk0) XX2 Sq2 gq2 hZ hown
  obtain ⟨b2_0, y2_0, kc2_0, rfl, Nq2, Kq2, sq_b2_0, fq2_0, fq2_1, fq2_2, fq2_3⟩ := hQ2
  have N2 := Fr.app N0 Nq2
  have g_b2_0 : n0 ≤ b2_0 := Nat.le_trans (own_sz O0) sq_b2_0
  have sz_b2_0 : h0.size ≤ b2_0 := Nat.le_trans (Keep.refl h0 []).1 sq_b2_0
  have CH2 := CH0.trans C2
  have hk2 : T2.heap.size ≤ T2.heap.size := Nat.le_refl _
  have O2 := O0.keep Kq2 all0
  have K2 : Keep h0 T2.heap [] := (Keep.refl h0 []).trans Kq2 all0
  obtain ⟨_, _, ⟨T3, L3, k3, n3⟩, -, XX3, Sq3, gq3, ⟨Lc3, hQ3, l3, y3, z3, C3⟩, st3⟩ := callSS X2 hx (y := y2) hown2 (mvT hZ2 (wq hw 0 rfl)) (mvT hZ2 (wq hw 1 rfl)) (mvT hZ2 (wq hw 2 rfl)) (mvT hZ2 (wq hw 3 rfl)) (by decide) (own_backC (SL := []) (W := 0) (rmS1 l Z a0 hw [] cs_v hp ((z9 &&& (3 : Int32)) % (3 : Int32)) ((((z9.toUInt32 >>> ((2 : Int32) &&& 31).toUInt32).toInt32) &&& (255 : Int32)).toUInt32.toUInt16.toUInt32.toInt32) ((((z9.toUInt32 >>> ((10 : Int32) &&& 31).toUInt32).toInt32) &&& (255 : Int32)).toUInt32.toUInt16.toUInt32.toInt32) T2.heap n0 O2 (own_ch2 ((z9.toUInt32 >>> ((2 : Int32) &&& 31).toUInt32).toInt32)) (own_ch2 ((z9.toUInt32 >>> ((10 : Int32) &&& 31).toUInt32).toInt32))) hZ2 (wq hw 3 rfl) (wq hw 2 rfl) (by decide) (by decide) (own_EW hw) CH2.1 all0) (g := (mkF m 104 #[.val (.int p0), .val (.int p1), .val (.int p2), .val (.int p3), .val (.int p4), .val (.int (fx0 p2)), .val (.int (fx2 p2)), .val (.int (fx4 p2)), .val (.int z8), .val (.int z9), .val (.int (fx0 z9)), .val (.int (fx2 z9)), .val (.int (fx4 z9)), .val (.ref b2_0), .unset, .unset, .unset, .unset, .unset, .unset, .unset] [(.int (fx4 z9)), (.int (fx2 z9)), (.int (fx0 z9))])) rfl (by rw [hml]; rfl) (argsL := [(.int (fx0 z9)), (.int (fx2 z9)), (.int (fx4 z9))]) (rest := []) (lenOf pd_5 rfl) rfl (by show 2 * 0 + _ ≤ _; exact Nat.le_of_eq rfl) (hb hby at_104) (fun _ _ => ⟨rfl, rfl, (by decide : 4 + 4 ≤ _), (by decide : 8 + 8 ≤ _)⟩)
  dsimp only [Pt.U, Pt.locs, Pt.cells, Pt.slots] at XX3 Sq3 gq3 l3 y3 z3 st3 hQ3 C3
  subst l3 y3 z3
  obtain ⟨X3, hS3, hZ3, hown3⟩ := rebS hS2 hk2 XX3 Sq3 gq3 hZ2 hown2
  obtain ⟨b3_0, y3_0, kc3_0, rfl, Nq3, Kq3, sq_b3_0, fq3_0, fq3_1, fq3_2, fq3_3⟩ := hQ3
  have N3 := Fr.app N2 Nq3
  have g_b3_0 : n0 ≤ b3_0 := Nat.le_trans (own_sz O2) sq_b3_0
  have sz_b3_0 : h0.size ≤ b3_0 := Nat.le_trans K2.1 sq_b3_0
  have CH3 := CH2.trans C3
  have hk3 : T3.heap.size ≤ T3.heap.size := Nat.le_refl _
  have O3 := O2.keep Kq3 all0
  have K3 : Keep h0 T3.heap [] := K2.trans Kq3 all0
  have st4 := hcut109 b2_0 b3_0 X3 hx hZ3 hw hby hown3
  obtain ⟨T5, h5, X5, e5, E5, A5, D5, -, st5⟩ := newO X3 hx hZ3 hown3 (wq hw 34 rfl) (wq hw 35 rfl) (wq hw 36 rfl) rfl (g := (mkF m 125 #[.val (.int p0), .val (.int p1), .val (.int p2), .val (.int p3), .val (.int p4), .val (.int (fx0 p2)), .val (.int (fx2 p2)), .val (.int (fx4 p2)), .val (.int z8), .val (.int z9), .val (.int (fx0 z9)), .val (.int (fx2 z9)), .val (.int (fx4 z9)), .val (.ref b2_0), .val (.ref b3_0), .val (.int z15), .unset, .unset, .unset, .unset, .unset] [])) rfl (hb hby at_125) (by decide) (by decide)
  obtain ⟨b5, g5⟩ : ∃ z, z = T3.heap.size := ⟨_, rfl⟩
  rw [← g5] at A5 D5 st5
  have g_b5 : n0 ≤ b5 := Nat.le_trans (own_sz O3) (Nat.le_of_eq g5.symm)
  have sz_b5 : h0.size ≤ b5 := Nat.le_trans K3.1 (Nat.le_of_eq g5.symm)
  have O5 := O3.ext E5
  have K5 : Keep h0 h5 [] := K3.ext E5
  have CH5 := CH3.trans (CHr.ext E5 CH3.1)
  have hk5 := Nat.le_trans hk3 E5.1
  have F_dataSchema_b5 : Fld Z h5 b5 "com/example/epcrtools/epcrtools/exchange/RuleSetKey" "dataSchema" "I" (.int (0 : Int32)) := D5 (Or.inr (wq hw 42 rfl)) (ty := .int) (by decide)
  have F_schemaVersion_b5 : Fld Z h5 b5 "com/example/epcrtools/epcrtools/exchange/RuleSetKey" "schemaVersion" "Ljava/lang/String;" .null := D5 (Or.inr (wq hw 49 rfl)) (ty := (.object "java/lang/String")) (by decide)
  obtain ⟨_, _, ⟨T6, L6, k6, n6⟩, -, X6, ⟨Lc6, hQ6, l6, y6, z6⟩, st6⟩ := X5.specialBack hx (y := y7) rfl hown3 (mvT hZ3 (wq hw 37 rfl)) (mvT hZ3 (wq hw 38 rfl)) (mvT hZ3 (wq hw 39 rfl)) (by decide) (backOf (W := 1) (rm17 l Z a0 hw [] cs_v hp b5 p0 b2_0 h5 n0 O5 A5 F_dataSchema_b5 F_schemaVersion_b5 g_b5 ((fq2_0.keep Kq3).ext E5)) hZ3 (wq hw 39 rfl) (wq hw 36 rfl) (by decide) (by decide)) (g := (mkF m 132 #[.val (.int p0), .val (.int p1), .val (.int p2), .val (.int p3), .val (.int p4), .val (.int (fx0 p2)), .val (.int (fx2 p2)), .val (.int (fx4 p2)), .val (.int z8), .val (.int z9), .val (.int (fx0 z9)), .val (.int (fx2 z9)), .val (.int (fx4 z9)), .val (.ref b2_0), .val (.ref b3_0), .val (.int z15), .unset, .unset, .unset, .unset, .unset] [(.ref b2_0), (.int p0), (.ref b5), (.ref b5)])) rfl (by rw [hml]; rfl) (Steps.refl _) (a := b5) (argsL := [(.int p0), (.ref b2_0)]) (rest := [(.ref b5)]) (lenOf pd_7 rfl) rfl (by show 2 * 0 + _ ≤ _; exact Nat.le_of_eq rfl) (hb hby at_132) (fun _ _ => ⟨rfl, e5, (by decide : 9 + 0 ≤ _), (by decide : 18 + 0 ≤ _)⟩)
  dsimp only [Pt.U, Pt.locs, Pt.cells, Pt.slots] at X6 l6 y6 z6 st6 hQ6
  subst l6 y6 z6
  obtain ⟨rfl, Nq6, Kq6, fq6_0, fq6_1, fq6_2⟩ := hQ6
  have N6 := Fr.app N3 Nq6
  have CH6 := CH5.trans (CHr.keep Kq6 (allS (Safe.exa hZ3.alike A5 (by decide) (by decide)) all0) CH5.1)
  have hk6 := Nat.le_trans hk5 Kq6.1
  have O6 := O5.keep Kq6 (allS g_b5 all0)
  have K6 : Keep h0 T6.heap [] := K5.trans Kq6 (allS (Or.inr sz_b5) all0)
  obtain ⟨T7, h7, X7, e7, E7, A7, D7, -, st7⟩ := newO X6 hx hZ3 hown3 (wq hw 34 rfl) (wq hw 35 rfl) (wq hw 36 rfl) rfl (g := (mkF m 167 #[.val (.int p0), .val (.int p1), .val (.int p2), .val (.int p3), .val (.int p4), .val (.int (fx0 p2)), .val (.int (fx2 p2)), .val (.int (fx4 p2)), .val (.int z8), .val (.int z9), .val (.int (fx0 z9)), .val (.int (fx2 z9)), .val (.int (fx4 z9)), .val (.ref b2_0), .val (.ref b3_0), .val (.int z15), .val (.ref b5), .val (.int (p4 &&& (3 : Int32))), .unset, .unset, .unset] [])) rfl (hb hby at_167) (by decide) (by decide)
  obtain ⟨b7, g7⟩ : ∃ z, z = T6.heap.size := ⟨_, rfl⟩
  rw [← g7] at A7 D7 st7
  have g_b7 : n0 ≤ b7 := Nat.le_trans (own_sz O6) (Nat.le_of_eq g7.symm)
  have sz_b7 : h0.size ≤ b7 := Nat.le_trans K6.1 (Nat.le_of_eq g7.symm)
  have O7 := O6.ext E7
  have K7 : Keep h0 h7 [] := K6.ext E7
  have CH7 := CH6.trans (CHr.ext E7 CH6.1)
  have hk7 := Nat.le_trans hk6 E7.1
  have F_dataSchema_b7 : Fld Z h7 b7 "com/example/epcrtools/epcrtools/exchange/RuleSetKey" "dataSchema" "I" (.int (0 : Int32)) := D7 (Or.inr (wq hw 42 rfl)) (ty := .int) (by decide)
  have F_schemaVersion_b7 : Fld Z h7 b7 "com/example/epcrtools/epcrtools/exchange/RuleSetKey" "schemaVersion" "Ljava/lang/String;" .null := D7 (Or.inr (wq hw 49 rfl)) (ty := (.object "java/lang/String")) (by decide)
  obtain ⟨_, _, ⟨T8, L8, k8, n8⟩, -, X8, ⟨Lc8, hQ8, l8, y8, z8⟩, st8⟩ := X7.specialBack hx (y := y7) rfl hown3 (mvT hZ3 (wq hw 37 rfl)) (mvT hZ3 (wq hw 38 rfl)) (mvT hZ3 (wq hw 39 rfl)) (by decide) (backOf (W := 1) (rm17 l Z a0 hw [] cs_v hp b7 z15 b3_0 h7 n0 O7 A7 F_dataSchema_b7 F_schemaVersion_b7 g_b7 (((fq3_0.ext E5).keep Kq6).ext E7)) hZ3 (wq hw 39 rfl) (wq hw 36 rfl) (by decide) (by decide)) (g := (mkF m 175 #[.val (.int p0), .val (.int p1), .val (.int p2), .val (.int p3), .val (.int p4), .val (.int (fx0 p2)), .val (.int (fx2 p2)), .val (.int (fx4 p2)), .val (.int z8), .val (.int z9), .val (.int (fx0 z9)), .val (.int (fx2 z9)), .val (.int (fx4 z9)), .val (.ref b2_0), .val (.ref b3_0), .val (.int z15), .val (.ref b5), .val (.int (p4 &&& (3 : Int32))), .unset, .unset, .unset] [(.ref b3_0), (.int z15), (.ref b7), (.ref b7)])) rfl (by rw [hml]; rfl) (Steps.refl _) (a := b7) (argsL := [(.int z15), (.ref b3_0)]) (rest := [(.ref b7)]) (lenOf pd_7 rfl) rfl (by show 2 * 0 + _ ≤ _; exact Nat.le_of_eq rfl) (hb hby at_175) (fun _ _ => ⟨rfl, e7, (by decide : 10 + 0 ≤ _), (by decide : 20 + 0 ≤ _)⟩)
  dsimp only [Pt.U, Pt.locs, Pt.cells, Pt.slots] at X8 l8 y8 z8 st8 hQ8
  subst l8 y8 z8
  obtain ⟨rfl, Nq8, Kq8, fq8_0, fq8_1, fq8_2⟩ := hQ8
  have N8 := Fr.app N6 Nq8
  have CH8 := CH7.trans (CHr.keep Kq8 (allS (Safe.exa hZ3.alike A7 (by decide) (by decide)) all0) CH7.1)
  have hk8 := Nat.le_trans hk7 Kq8.1
  have O8 := O7.keep Kq8 (allS g_b7 all0)
  have K8 : Keep h0 T8.heap [] := K7.trans Kq8 (allS (Or.inr sz_b7) all0)
  have f_9 := ((fq6_1.ext E7).keep Kq8 (ninS (Nat.ne_of_lt (Nat.lt_of_lt_of_le (A5.keep Kq6).lt (Nat.le_of_eq g7.symm))) nin0))
  obtain ⟨cq10, kq10, q10a, q10b, q10c⟩ := isOf hZ3 rfl ((fq6_0.ext E7).keep Kq8)
  obtain ⟨_, _, ⟨T10, L10, k10, n10⟩, -, X10, ⟨Lc10, hQ10, l10, y10, z10⟩, st10⟩ := X8.virtualBack hx (y := y8) (z := y8) hown3 (mvT hZ3 (wq hw 50 rfl)) (mvT hZ3 (wq hw 51 rfl)) (notFace_of_selects (args := #[]) (mvT hZ3 (wq hw 53 rfl))) (mvT hZ3 (wq hw 53 rfl)) (mvT hZ3 (wq hw 52 rfl)) (by decide) (backOf (W := 0) (rm40 l Z a0 hw [] cs_v hp b5 b7 p0 z15 T8.heap n0 O8 fq8_0 f_9 fq8_1 hc8) hZ3 (wq hw 54 rfl) (wq hw 36 rfl) (by decide) (by decide)) q10a q10c (g := (mkF m 254 #[.val (.int p0), .val (.int p1), .val (.int p2), .val (.int p3), .val (.int p4), .val (.int (fx0 p2)), .val (.int (fx2 p2)), .val (.int (fx4 p2)), .val (.int z8), .val (.int z9), .val (.int (fx0 z9)), .val (.int (fx2 z9)), .val (.int (fx4 z9)), .val (.ref b2_0), .val (.ref b3_0), .val (.int z15), .val (.ref b5), .val (.int (p4 &&& (3 : Int32))), .val (.ref b7), .val (.int (0 : Int32)), .val (.int (0 : Int32))] [(.ref b7), (.ref b5)])) rfl (by rw [hml]; rfl) (Steps.refl _) (argsL := [(.ref b7)]) (rest := []) (lenOf pd_8 rfl) rfl (by show 2 * 0 + _ ≤ _; exact Nat.le_of_eq rfl) (hb hby at_254) (fun _ _ => ⟨rfl, rfl, (by decide : 10 + 0 ≤ _), (by decide : 20 + 0 ≤ _)⟩)
  dsimp only [Pt.U, Pt.locs, Pt.cells, Pt.slots] at X10 l10 y10 z10 st10 hQ10
  subst l10 y10 z10
  obtain ⟨rfl, Nq10, eq10⟩ := hQ10
  have N10 := Fr.app N8 Nq10
  obtain ⟨fs, hr, hrun, hended, hE⟩ := Stand.leaveW (s := s) X10 hS3 (by rw [eq10]; exact hk8) (v := some (.int (1 : Int32))) (fun h => by rw [Bd.returns] at h; cases h)
  refine ⟨_, _, pre0 _ ?_, hrun, hended, _, _, rfl, ?_, hE.1, hE.2.1, hE.2.2.1, hE.2.2.2.mono (by decide) (by decide)⟩
  · show Sp p e below s₁ (mkF m 0 #[.val (.int p0), .val (.int p1), .val (.int p2), .val (.int p3), .val (.int p4), .unset, .unset, .unset, .unset, .unset, .unset, .unset, .unset, .unset, .unset, .unset, .unset, .unset, .unset, .unset, .unset] []) _
    refine XS.iloadN X0.here hx rfl (hb hby at_0) rfl ?_
    refine XS.iconst X0.here hx rfl (hb hby at_1) ?_
    refine XS.iand X0.here hx rfl (hb hby at_2) rfl ?_
    refine XS.iconst X0.here hx rfl (hb hby at_3) ?_
    show Sp p e below s₁ (mkF m 4 #[.val (.int p0), .val (.int p1), .val (.int p2), .val (.int p3), .val (.int p4), .unset, .unset, .unset, .unset, .unset, .unset, .unset, .unset, .unset, .unset, .unset, .unset, .unset, .unset, .unset, .unset] [(.int (3 : Int32)), (.int (p2 &&& (3 : Int32)))]) _
    refine iremM X0 hx rfl (hb hby at_4) rfl (by decide) ?_
    show Sp p e below s₁ (mkF m 5 #[.val (.int p0), .val (.int p1), .val (.int p2), .val (.int p3), .val (.int p4), .unset, .unset, .unset, .unset, .unset, .unset, .unset, .unset, .unset, .unset, .unset, .unset, .unset, .unset, .unset, .unset] [(.int (fx0 p2))]) _
    refine XS.istore X0.here hx rfl (hb hby at_5) rfl (l' := #[.val (.int p0), .val (.int p1), .val (.int p2), .val (.int p3), .val (.int p4), .val (.int (fx0 p2)), .unset, .unset, .unset, .unset, .unset, .unset, .unset, .unset, .unset, .unset, .unset, .unset, .unset, .unset, .unset]) rfl ?_
    refine XS.iloadN X0.here hx rfl (hb hby at_7) rfl ?_
    refine XS.iconst X0.here hx rfl (hb hby at_8) ?_
    refine XS.iushr X0.here hx rfl (hb hby at_9) rfl ?_
    show Sp p e below s₁ (mkF m 10 #[.val (.int p0), .val (.int p1), .val (.int p2), .val (.int p3), .val (.int p4), .val (.int (fx0 p2)), .unset, .unset, .unset, .unset, .unset, .unset, .unset, .unset, .unset, .unset, .unset, .unset, .unset, .unset, .unset] [(.int (fx1 p2))]) _
    refine XS.sipush X0.here hx rfl (hb hby at_10) ?_
    refine XS.iand X0.here hx rfl (hb hby at_13) rfl ?_
    refine XS.i2c X0.here hx rfl (hb hby at_14) rfl ?_
    refine XS.istore X0.here hx rfl (hb hby at_15) rfl (l' := #[.val (.int p0), .val (.int p1), .val (.int p2), .val (.int p3), .val (.int p4), .val (.int (fx0 p2)), .val (.int (fx2 p2)), .unset, .unset, .unset, .unset, .unset, .unset, .unset, .unset, .unset, .unset, .unset, .unset, .unset, .unset]) rfl ?_
    show Sp p e below s₁ (mkF m 17 #[.val (.int p0), .val (.int p1), .val (.int p2), .val (.int p3), .val (.int p4), .val (.int (fx0 p2)), .val (.int (fx2 p2)), .unset, .unset, .unset, .unset, .unset, .unset, .unset, .unset, .unset, .unset, .unset, .unset, .unset, .unset] []) _
    refine XS.iloadN X0.here hx rfl (hb hby at_17) rfl ?_
    refine XS.bipush X0.here hx rfl (hb hby at_18) ?_
    refine XS.iushr X0.here hx rfl (hb hby at_20) rfl ?_
    refine XS.sipush X0.here hx rfl (hb hby at_21) ?_
    show Sp p e below s₁ (mkF m 24 #[.val (.int p0), .val (.int p1), .val (.int p2), .val (.int p3), .val (.int p4), .val (.int (fx0 p2)), .val (.int (fx2 p2)), .unset, .unset, .unset, .unset, .unset, .unset, .unset, .unset, .unset, .unset, .unset, .unset, .unset, .unset] [(.int (255 : Int32)), (.int (fx3 p2))]) _
    refine XS.iand X0.here hx rfl (hb hby at_24) rfl ?_
    refine XS.i2c X0.here hx rfl (hb hby at_25) rfl ?_
    refine XS.istore X0.here hx rfl (hb hby at_26) rfl (l' := #[.val (.int p0), .val (.int p1), .val (.int p2), .val (.int p3), .val (.int p4), .val (.int (fx0 p2)), .val (.int (fx2 p2)), .val (.int (fx4 p2)), .unset, .unset, .unset, .unset, .unset, .unset, .unset, .unset, .unset, .unset, .unset, .unset, .unset]) rfl ?_
    show Sp p e below s₁ (mkF m 28 #[.val (.int p0), .val (.int p1), .val (.int p2), .val (.int p3), .val (.int p4), .val (.int (fx0 p2)), .val (.int (fx2 p2)), .val (.int (fx4 p2)), .unset, .unset, .unset, .unset, .unset, .unset, .unset, .unset, .unset, .unset, .unset, .unset, .unset] []) _
    refine st1 _ ?_
    show Sp p e below s₁ (mkF m 56 #[.val (.int p0), .val (.int p1), .val (.int p2), .val (.int p3), .val (.int p4), .val (.int (fx0 p2)), .val (.int (fx2 p2)), .val (.int (fx4 p2)), .val (.int z8), .val (.int z9), .unset, .unset, .unset, .unset, .unset, .unset, .unset, .unset, .unset, .unset, .unset] []) _
    refine XS.iload X0.here hx rfl (hb hby at_56) rfl ?_
    refine XS.iconst X0.here hx rfl (hb hby at_58) ?_
    refine XS.iand X0.here hx rfl (hb hby at_59) rfl ?_
    refine XS.iconst X0.here hx rfl (hb hby at_60) ?_
    show Sp p e below s₁ (mkF m 61 #[.val (.int p0), .val (.int p1), .val (.int p2), .val (.int p3), .val (.int p4), .val (.int (fx0 p2)), .val (.int (fx2 p2)), .val (.int (fx4 p2)), .val (.int z8), .val (.int z9), .unset, .unset, .unset, .unset, .unset, .unset, .unset, .unset, .unset, .unset, .unset] [(.int (3 : Int32)), (.int (z9 &&& (3 : Int32)))]) _
    refine iremM X0 hx rfl (hb hby at_61) rfl (by decide) ?_
    show Sp p e below s₁ (mkF m 62 #[.val (.int p0), .val (.int p1), .val (.int p2), .val (.int p3), .val (.int p4), .val (.int (fx0 p2)), .val (.int (fx2 p2)), .val (.int (fx4 p2)), .val (.int z8), .val (.int z9), .unset, .unset, .unset, .unset, .unset, .unset, .unset, .unset, .unset, .unset, .unset] [(.int (fx0 z9))]) _
    refine XS.istore X0.here hx rfl (hb hby at_62) rfl (l' := #[.val (.int p0), .val (.int p1), .val (.int p2), .val (.int p3), .val (.int p4), .val (.int (fx0 p2)), .val (.int (fx2 p2)), .val (.int (fx4 p2)), .val (.int z8), .val (.int z9), .val (.int (fx0 z9)), .unset, .unset, .unset, .unset, .unset, .unset, .unset, .unset, .unset, .unset]) rfl ?_
    refine XS.iload X0.here hx rfl (hb hby at_64) rfl ?_
    refine XS.iconst X0.here hx rfl (hb hby at_66) ?_
    refine XS.iushr X0.here hx rfl (hb hby at_67) rfl ?_
    show Sp p e below s₁ (mkF m 68 #[.val (.int p0), .val (.int p1), .val (.int p2), .val (.int p3), .val (.int p4), .val (.int (fx0 p2)), .val (.int (fx2 p2)), .val (.int (fx4 p2)), .val (.int z8), .val (.int z9), .val (.int (fx0 z9)), .unset, .unset, .unset, .unset, .unset, .unset, .unset, .unset, .unset, .unset] [(.int (fx1 z9))]) _
    refine XS.sipush X0.here hx rfl (hb hby at_68) ?_
    refine XS.iand X0.here hx rfl (hb hby at_71) rfl ?_
    refine XS.i2c X0.here hx rfl (hb hby at_72) rfl ?_
    refine XS.istore X0.here hx rfl (hb hby at_73) rfl (l' := #[.val (.int p0), .val (.int p1), .val (.int p2), .val (.int p3), .val (.int p4), .val (.int (fx0 p2)), .val (.int (fx2 p2)), .val (.int (fx4 p2)), .val (.int z8), .val (.int z9), .val (.int (fx0 z9)), .val (.int (fx2 z9)), .unset, .unset, .unset, .unset, .unset, .unset, .unset, .unset, .unset]) rfl ?_
    show Sp p e below s₁ (mkF m 75 #[.val (.int p0), .val (.int p1), .val (.int p2), .val (.int p3), .val (.int p4), .val (.int (fx0 p2)), .val (.int (fx2 p2)), .val (.int (fx4 p2)), .val (.int z8), .val (.int z9), .val (.int (fx0 z9)), .val (.int (fx2 z9)), .unset, .unset, .unset, .unset, .unset, .unset, .unset, .unset, .unset] []) _
    refine XS.iload X0.here hx rfl (hb hby at_75) rfl ?_
    refine XS.bipush X0.here hx rfl (hb hby at_77) ?_
    refine XS.iushr X0.here hx rfl (hb hby at_79) rfl ?_
    refine XS.sipush X0.here hx rfl (hb hby at_80) ?_
    show Sp p e below s₁ (mkF m 83 #[.val (.int p0), .val (.int p1), .val (.int p2), .val (.int p3), .val (.int p4), .val (.int (fx0 p2)), .val (.int (fx2 p2)), .val (.int (fx4 p2)), .val (.int z8), .val (.int z9), .val (.int (fx0 z9)), .val (.int (fx2 z9)), .unset, .unset, .unset, .unset, .unset, .unset, .unset, .unset, .unset] [(.int (255 : Int32)), (.int (fx3 z9))]) _
    refine XS.iand X0.here hx rfl (hb hby at_83) rfl ?_
    refine XS.i2c X0.here hx rfl (hb hby at_84) rfl ?_
    refine XS.istore X0.here hx rfl (hb hby at_85) rfl (l' := #[.val (.int p0), .val (.int p1), .val (.int p2), .val (.int p3), .val (.int p4), .val (.int (fx0 p2)), .val (.int (fx2 p2)), .val (.int (fx4 p2)), .val (.int z8), .val (.int z9), .val (.int (fx0 z9)), .val (.int (fx2 z9)), .val (.int (fx4 z9)), .unset, .unset, .unset, .unset, .unset, .unset, .unset, .unset]) rfl ?_
    refine XS.iload X0.here hx rfl (hb hby at_87) rfl ?_
    show Sp p e below s₁ (mkF m 89 #[.val (.int p0), .val (.int p1), .val (.int p2), .val (.int p3), .val (.int p4), .val (.int (fx0 p2)), .val (.int (fx2 p2)), .val (.int (fx4 p2)), .val (.int z8), .val (.int z9), .val (.int (fx0 z9)), .val (.int (fx2 z9)), .val (.int (fx4 z9)), .unset, .unset, .unset, .unset, .unset, .unset, .unset, .unset] [(.int (fx0 p2))]) _
    refine XS.iload X0.here hx rfl (hb hby at_89) rfl ?_
    refine XS.iload X0.here hx rfl (hb hby at_91) rfl ?_
    show Sp p e below s₁ (mkF m 93 #[.val (.int p0), .val (.int p1), .val (.int p2), .val (.int p3), .val (.int p4), .val (.int (fx0 p2)), .val (.int (fx2 p2)), .val (.int (fx4 p2)), .val (.int z8), .val (.int z9), .val (.int (fx0 z9)), .val (.int (fx2 z9)), .val (.int (fx4 z9)), .unset, .unset, .unset, .unset, .unset, .unset, .unset, .unset] [(.int (fx4 p2)), (.int (fx2 p2)), (.int (fx0 p2))]) _
    refine st2.trans ?_
    show Sp p e below T2 (mkF m 96 #[.val (.int p0), .val (.int p1), .val (.int p2), .val (.int p3), .val (.int p4), .val (.int (fx0 p2)), .val (.int (fx2 p2)), .val (.int (fx4 p2)), .val (.int z8), .val (.int z9), .val (.int (fx0 z9)), .val (.int (fx2 z9)), .val (.int (fx4 z9)), .unset, .unset, .unset, .unset, .unset, .unset, .unset, .unset] [(.ref b2_0)]) _
    refine XS.astore X2.here hx rfl (hb hby at_96) rfl rfl (l' := #[.val (.int p0), .val (.int p1), .val (.int p2), .val (.int p3), .val (.int p4), .val (.int (fx0 p2)), .val (.int (fx2 p2)), .val (.int (fx4 p2)), .val (.int z8), .val (.int z9), .val (.int (fx0 z9)), .val (.int (fx2 z9)), .val (.int (fx4 z9)), .val (.ref b2_0), .unset, .unset, .unset, .unset, .unset, .unset, .unset]) rfl ?_
    refine XS.iload X2.here hx rfl (hb hby at_98) rfl ?_
    refine XS.iload X2.here hx rfl (hb hby at_100) rfl ?_
    refine XS.iload X2.here hx rfl (hb hby at_102) rfl ?_
    show Sp p e below T2 (mkF m 104 #[.val (.int p0), .val (.int p1), .val (.int p2), .val (.int p3), .val (.int p4), .val (.int (fx0 p2)), .val (.int (fx2 p2)), .val (.int (fx4 p2)), .val (.int z8), .val (.int z9), .val (.int (fx0 z9)), .val (.int (fx2 z9)), .val (.int (fx4 z9)), .val (.ref b2_0), .unset, .unset, .unset, .unset, .unset, .unset, .unset] [(.int (fx4 z9)), (.int (fx2 z9)), (.int (fx0 z9))]) _
    refine st3.trans ?_
    show Sp p e below T3 (mkF m 107 #[.val (.int p0), .val (.int p1), .val (.int p2), .val (.int p3), .val (.int p4), .val (.int (fx0 p2)), .val (.int (fx2 p2)), .val (.int (fx4 p2)), .val (.int z8), .val (.int z9), .val (.int (fx0 z9)), .val (.int (fx2 z9)), .val (.int (fx4 z9)), .val (.ref b2_0), .unset, .unset, .unset, .unset, .unset, .unset, .unset] [(.ref b3_0)]) _
    refine XS.astore X3.here hx rfl (hb hby at_107) rfl rfl (l' := #[.val (.int p0), .val (.int p1), .val (.int p2), .val (.int p3), .val (.int p4), .val (.int (fx0 p2)), .val (.int (fx2 p2)), .val (.int (fx4 p2)), .val (.int z8), .val (.int z9), .val (.int (fx0 z9)), .val (.int (fx2 z9)), .val (.int (fx4 z9)), .val (.ref b2_0), .val (.ref b3_0), .unset, .unset, .unset, .unset, .unset, .unset]) rfl ?_
    show Sp p e below T3 (mkF m 109 #[.val (.int p0), .val (.int p1), .val (.int p2), .val (.int p3), .val (.int p4), .val (.int (fx0 p2)), .val (.int (fx2 p2)), .val (.int (fx4 p2)), .val (.int z8), .val (.int z9), .val (.int (fx0 z9)), .val (.int (fx2 z9)), .val (.int (fx4 z9)), .val (.ref b2_0), .val (.ref b3_0), .unset, .unset, .unset, .unset, .unset, .unset] []) _
    refine st4 _ ?_
    show Sp p e below T3 (mkF m 125 #[.val (.int p0), .val (.int p1), .val (.int p2), .val (.int p3), .val (.int p4), .val (.int (fx0 p2)), .val (.int (fx2 p2)), .val (.int (fx4 p2)), .val (.int z8), .val (.int z9), .val (.int (fx0 z9)), .val (.int (fx2 z9)), .val (.int (fx4 z9)), .val (.ref b2_0), .val (.ref b3_0), .val (.int z15), .unset, .unset, .unset, .unset, .unset] []) _
    refine st5 _ ?_
    show Sp p e below T5 (mkF m 128 #[.val (.int p0), .val (.int p1), .val (.int p2), .val (.int p3), .val (.int p4), .val (.int (fx0 p2)), .val (.int (fx2 p2)), .val (.int (fx4 p2)), .val (.int z8), .val (.int z9), .val (.int (fx0 z9)), .val (.int (fx2 z9)), .val (.int (fx4 z9)), .val (.ref b2_0), .val (.ref b3_0), .val (.int z15), .unset, .unset, .unset, .unset, .unset] [(.ref b5)]) _
    refine XS.dup X5.here hx rfl (hb hby at_128) rfl rfl ?_
    refine XS.iloadN X5.here hx rfl (hb hby at_129) rfl ?_
    refine XS.aload X5.here hx rfl (hb hby at_130) rfl rfl ?_
    show Sp p e below T5 (mkF m 132 #[.val (.int p0), .val (.int p1), .val (.int p2), .val (.int p3), .val (.int p4), .val (.int (fx0 p2)), .val (.int (fx2 p2)), .val (.int (fx4 p2)), .val (.int z8), .val (.int z9), .val (.int (fx0 z9)), .val (.int (fx2 z9)), .val (.int (fx4 z9)), .val (.ref b2_0), .val (.ref b3_0), .val (.int z15), .unset, .unset, .unset, .unset, .unset] [(.ref b2_0), (.int p0), (.ref b5), (.ref b5)]) _
    refine st6.trans ?_
    show Sp p e below T6 (mkF m 135 #[.val (.int p0), .val (.int p1), .val (.int p2), .val (.int p3), .val (.int p4), .val (.int (fx0 p2)), .val (.int (fx2 p2)), .val (.int (fx4 p2)), .val (.int z8), .val (.int z9), .val (.int (fx0 z9)), .val (.int (fx2 z9)), .val (.int (fx4 z9)), .val (.ref b2_0), .val (.ref b3_0), .val (.int z15), .unset, .unset, .unset, .unset, .unset] [(.ref b5)]) _
    refine XS.astore X6.here hx rfl (hb hby at_135) rfl rfl (l' := #[.val (.int p0), .val (.int p1), .val (.int p2), .val (.int p3), .val (.int p4), .val (.int (fx0 p2)), .val (.int (fx2 p2)), .val (.int (fx4 p2)), .val (.int z8), .val (.int z9), .val (.int (fx0 z9)), .val (.int (fx2 z9)), .val (.int (fx4 z9)), .val (.ref b2_0), .val (.ref b3_0), .val (.int z15), .val (.ref b5), .unset, .unset, .unset, .unset]) rfl ?_
    refine XS.iload X6.here hx rfl (hb hby at_137) rfl ?_
    refine XS.iconst X6.here hx rfl (hb hby at_139) ?_
    refine XS.iand X6.here hx rfl (hb hby at_140) rfl ?_
    show Sp p e below T6 (mkF m 141 #[.val (.int p0), .val (.int p1), .val (.int p2), .val (.int p3), .val (.int p4), .val (.int (fx0 p2)), .val (.int (fx2 p2)), .val (.int (fx4 p2)), .val (.int z8), .val (.int z9), .val (.int (fx0 z9)), .val (.int (fx2 z9)), .val (.int (fx4 z9)), .val (.ref b2_0), .val (.ref b3_0), .val (.int z15), .val (.ref b5), .unset, .unset, .unset, .unset] [(.int (p4 &&& (3 : Int32)))]) _
    refine XS.istore X6.here hx rfl (hb hby at_141) rfl (l' := #[.val (.int p0), .val (.int p1), .val (.int p2), .val (.int p3), .val (.int p4), .val (.int (fx0 p2)), .val (.int (fx2 p2)), .val (.int (fx4 p2)), .val (.int z8), .val (.int z9), .val (.int (fx0 z9)), .val (.int (fx2 z9)), .val (.int (fx4 z9)), .val (.ref b2_0), .val (.ref b3_0), .val (.int z15), .val (.ref b5), .val (.int (p4 &&& (3 : Int32))), .unset, .unset, .unset]) rfl ?_
    refine XS.iload X6.here hx rfl (hb hby at_143) rfl ?_
    refine XS.ifYes X6.here hx rfl (pc0 := 145) (pc' := 154) rfl (hb hby at_145) rfl ((if0 _ _).trans (feq hc3).2) (by decide) (by decide) ?_
    refine XS.iload X6.here hx rfl (hb hby at_154) rfl ?_
    show Sp p e below T6 (mkF m 156 #[.val (.int p0), .val (.int p1), .val (.int p2), .val (.int p3), .val (.int p4), .val (.int (fx0 p2)), .val (.int (fx2 p2)), .val (.int (fx4 p2)), .val (.int z8), .val (.int z9), .val (.int (fx0 z9)), .val (.int (fx2 z9)), .val (.int (fx4 z9)), .val (.ref b2_0), .val (.ref b3_0), .val (.int z15), .val (.ref b5), .val (.int (p4 &&& (3 : Int32))), .unset, .unset, .unset] [(.int (p4 &&& (3 : Int32)))]) _
    refine XS.iconst X6.here hx rfl (hb hby at_156) ?_
    refine XS.icmpYes X6.here hx rfl (pc0 := 157) (pc' := 167) rfl (hb hby at_157) rfl (feq hc4).2 (by decide) (by decide) ?_
    show Sp p e below T6 (mkF m 167 #[.val (.int p0), .val (.int p1), .val (.int p2), .val (.int p3), .val (.int p4), .val (.int (fx0 p2)), .val (.int (fx2 p2)), .val (.int (fx4 p2)), .val (.int z8), .val (.int z9), .val (.int (fx0 z9)), .val (.int (fx2 z9)), .val (.int (fx4 z9)), .val (.ref b2_0), .val (.ref b3_0), .val (.int z15), .val (.ref b5), .val (.int (p4 &&& (3 : Int32))), .unset, .unset, .unset] []) _
    refine st7 _ ?_
    show Sp p e below T7 (mkF m 170 #[.val (.int p0), .val (.int p1), .val (.int p2), .val (.int p3), .val (.int p4), .val (.int (fx0 p2)), .val (.int (fx2 p2)), .val (.int (fx4 p2)), .val (.int z8), .val (.int z9), .val (.int (fx0 z9)), .val (.int (fx2 z9)), .val (.int (fx4 z9)), .val (.ref b2_0), .val (.ref b3_0), .val (.int z15), .val (.ref b5), .val (.int (p4 &&& (3 : Int32))), .unset, .unset, .unset] [(.ref b7)]) _
    refine XS.dup X7.here hx rfl (hb hby at_170) rfl rfl ?_
    refine XS.iload X7.here hx rfl (hb hby at_171) rfl ?_
    refine XS.aload X7.here hx rfl (hb hby at_173) rfl rfl ?_
    show Sp p e below T7 (mkF m 175 #[.val (.int p0), .val (.int p1), .val (.int p2), .val (.int p3), .val (.int p4), .val (.int (fx0 p2)), .val (.int (fx2 p2)), .val (.int (fx4 p2)), .val (.int z8), .val (.int z9), .val (.int (fx0 z9)), .val (.int (fx2 z9)), .val (.int (fx4 z9)), .val (.ref b2_0), .val (.ref b3_0), .val (.int z15), .val (.ref b5), .val (.int (p4 &&& (3 : Int32))), .unset, .unset, .unset] [(.ref b3_0), (.int z15), (.ref b7), (.ref b7)]) _
    refine st8.trans ?_
    show Sp p e below T8 (mkF m 178 #[.val (.int p0), .val (.int p1), .val (.int p2), .val (.int p3), .val (.int p4), .val (.int (fx0 p2)), .val (.int (fx2 p2)), .val (.int (fx4 p2)), .val (.int z8), .val (.int z9), .val (.int (fx0 z9)), .val (.int (fx2 z9)), .val (.int (fx4 z9)), .val (.ref b2_0), .val (.ref b3_0), .val (.int z15), .val (.ref b5), .val (.int (p4 &&& (3 : Int32))), .unset, .unset, .unset] [(.ref b7)]) _
    refine XS.astore X8.here hx rfl (hb hby at_178) rfl rfl (l' := #[.val (.int p0), .val (.int p1), .val (.int p2), .val (.int p3), .val (.int p4), .val (.int (fx0 p2)), .val (.int (fx2 p2)), .val (.int (fx4 p2)), .val (.int z8), .val (.int z9), .val (.int (fx0 z9)), .val (.int (fx2 z9)), .val (.int (fx4 z9)), .val (.ref b2_0), .val (.ref b3_0), .val (.int z15), .val (.ref b5), .val (.int (p4 &&& (3 : Int32))), .val (.ref b7), .unset, .unset]) rfl ?_
    refine XS.iload X8.here hx rfl (hb hby at_180) rfl ?_
    refine XS.iconst X8.here hx rfl (hb hby at_182) ?_
    refine XS.icmpYes X8.here hx rfl (pc0 := 183) (pc' := 192) rfl (hb hby at_183) rfl (flt (own_nlti (n := 2) rfl (by have r := (own_and (x := p4) (m := (3 : Int32)) (M := 3) rfl (by decide)); have q0 := own_nei hc3 (n := 0) rfl; have q1 := own_nei hc4 (n := 1) rfl; omega) : ¬ ((p4 &&& (3 : Int32)) < (2 : Int32)))).2.1 (by decide) (by decide) ?_
    show Sp p e below T8 (mkF m 192 #[.val (.int p0), .val (.int p1), .val (.int p2), .val (.int p3), .val (.int p4), .val (.int (fx0 p2)), .val (.int (fx2 p2)), .val (.int (fx4 p2)), .val (.int z8), .val (.int z9), .val (.int (fx0 z9)), .val (.int (fx2 z9)), .val (.int (fx4 z9)), .val (.ref b2_0), .val (.ref b3_0), .val (.int z15), .val (.ref b5), .val (.int (p4 &&& (3 : Int32))), .val (.ref b7), .unset, .unset] []) _
    refine XS.iload X8.here hx rfl (hb hby at_192) rfl ?_
    refine XS.iload X8.here hx rfl (hb hby at_194) rfl ?_
    refine XS.icmpNo X8.here hx rfl (hb hby at_196) rfl (teq hc5).2 ?_
    refine XS.iload X8.here hx rfl (hb hby at_199) rfl ?_
    show Sp p e below T8 (mkF m 201 #[.val (.int p0), .val (.int p1), .val (.int p2), .val (.int p3), .val (.int p4), .val (.int (fx0 p2)), .val (.int (fx2 p2)), .val (.int (fx4 p2)), .val (.int z8), .val (.int z9), .val (.int (fx0 z9)), .val (.int (fx2 z9)), .val (.int (fx4 z9)), .val (.ref b2_0), .val (.ref b3_0), .val (.int z15), .val (.ref b5), .val (.int (p4 &&& (3 : Int32))), .val (.ref b7), .unset, .unset] [(.int (fx0 p2))]) _
    refine XS.iconst X8.here hx rfl (hb hby at_201) ?_
    refine XS.icmpNo X8.here hx rfl (hb hby at_202) rfl (flt hc6).1 ?_
    refine XS.iload X8.here hx rfl (hb hby at_205) rfl ?_
    refine XS.iload X8.here hx rfl (hb hby at_207) rfl ?_
    show Sp p e below T8 (mkF m 209 #[.val (.int p0), .val (.int p1), .val (.int p2), .val (.int p3), .val (.int p4), .val (.int (fx0 p2)), .val (.int (fx2 p2)), .val (.int (fx4 p2)), .val (.int z8), .val (.int z9), .val (.int (fx0 z9)), .val (.int (fx2 z9)), .val (.int (fx4 z9)), .val (.ref b2_0), .val (.ref b3_0), .val (.int z15), .val (.ref b5), .val (.int (p4 &&& (3 : Int32))), .val (.ref b7), .unset, .unset] [(.int (fx2 z9)), (.int (fx2 p2))]) _
    refine XS.icmpYes X8.here hx rfl (pc0 := 209) (pc' := 229) rfl (hb hby at_209) rfl (feq hc7).2 (by decide) (by decide) ?_
    refine XS.iconst X8.here hx rfl (hb hby at_229) ?_
    refine XS.istore X8.here hx rfl (hb hby at_230) rfl (l' := #[.val (.int p0), .val (.int p1), .val (.int p2), .val (.int p3), .val (.int p4), .val (.int (fx0 p2)), .val (.int (fx2 p2)), .val (.int (fx4 p2)), .val (.int z8), .val (.int z9), .val (.int (fx0 z9)), .val (.int (fx2 z9)), .val (.int (fx4 z9)), .val (.ref b2_0), .val (.ref b3_0), .val (.int z15), .val (.ref b5), .val (.int (p4 &&& (3 : Int32))), .val (.ref b7), .unset, .val (.int (0 : Int32))]) rfl ?_
    refine XS.iloadN X8.here hx rfl (hb hby at_232) rfl ?_
    show Sp p e below T8 (mkF m 233 #[.val (.int p0), .val (.int p1), .val (.int p2), .val (.int p3), .val (.int p4), .val (.int (fx0 p2)), .val (.int (fx2 p2)), .val (.int (fx4 p2)), .val (.int z8), .val (.int z9), .val (.int (fx0 z9)), .val (.int (fx2 z9)), .val (.int (fx4 z9)), .val (.ref b2_0), .val (.ref b3_0), .val (.int z15), .val (.ref b5), .val (.int (p4 &&& (3 : Int32))), .val (.ref b7), .unset, .val (.int (0 : Int32))] [(.int p0)]) _
    refine XS.iload X8.here hx rfl (hb hby at_233) rfl ?_
    refine XS.icmpYes X8.here hx rfl (pc0 := 235) (pc' := 247) rfl (hb hby at_235) rfl (feq hc8).2 (by decide) (by decide) ?_
    refine XS.iconst X8.here hx rfl (hb hby at_247) ?_
    refine XS.istore X8.here hx rfl (hb hby at_248) rfl (l' := #[.val (.int p0), .val (.int p1), .val (.int p2), .val (.int p3), .val (.int p4), .val (.int (fx0 p2)), .val (.int (fx2 p2)), .val (.int (fx4 p2)), .val (.int z8), .val (.int z9), .val (.int (fx0 z9)), .val (.int (fx2 z9)), .val (.int (fx4 z9)), .val (.ref b2_0), .val (.ref b3_0), .val (.int z15), .val (.ref b5), .val (.int (p4 &&& (3 : Int32))), .val (.ref b7), .val (.int (0 : Int32)), .val (.int (0 : Int32))]) rfl ?_
    show Sp p e below T8 (mkF m 250 #[.val (.int p0), .val (.int p1), .val (.int p2), .val (.int p3), .val (.int p4), .val (.int (fx0 p2)), .val (.int (fx2 p2)), .val (.int (fx4 p2)), .val (.int z8), .val (.int z9), .val (.int (fx0 z9)), .val (.int (fx2 z9)), .val (.int (fx4 z9)), .val (.ref b2_0), .val (.ref b3_0), .val (.int z15), .val (.ref b5), .val (.int (p4 &&& (3 : Int32))), .val (.ref b7), .val (.int (0 : Int32)), .val (.int (0 : Int32))] []) _
    refine XS.aload X8.here hx rfl (hb hby at_250) rfl rfl ?_
    refine XS.aload X8.here hx rfl (hb hby at_252) rfl rfl ?_
    show Sp p e below T8 (mkF m 254 #[.val (.int p0), .val (.int p1), .val (.int p2), .val (.int p3), .val (.int p4), .val (.int (fx0 p2)), .val (.int (fx2 p2)), .val (.int (fx4 p2)), .val (.int z8), .val (.int z9), .val (.int (fx0 z9)), .val (.int (fx2 z9)), .val (.int (fx4 z9)), .val (.ref b2_0), .val (.ref b3_0), .val (.int z15), .val (.ref b5), .val (.int (p4 &&& (3 : Int32))), .val (.ref b7), .val (.int (0 : Int32)), .val (.int (0 : Int32))] [(.ref b7), (.ref b5)]) _
    refine st10.trans ?_
    show Sp p e below T10 (mkF m 257 #[.val (.int p0), .val (.int p1), .val (.int p2), .val (.int p3), .val (.int p4), .val (.int (fx0 p2)), .val (.int (fx2 p2)), .val (.int (fx4 p2)), .val (.int z8), .val (.int z9), .val (.int (fx0 z9)), .val (.int (fx2 z9)), .val (.int (fx4 z9)), .val (.ref b2_0), .val (.ref b3_0), .val (.int z15), .val (.ref b5), .val (.int (p4 &&& (3 : Int32))), .val (.ref b7), .val (.int (0 : Int32)), .val (.int (0 : Int32))] [(.int (0 : Int32))]) _
    refine XS.iload X10.here hx rfl (hb hby at_257) rfl ?_
    refine XS.icmpNo X10.here hx rfl (hb hby at_259) rfl (teq (by decide : (0 : Int32) = (0 : Int32))).2 ?_
    refine XS.iconst X10.here hx rfl (hb hby at_262) ?_
    refine XS.goto X10.here hx rfl (pc0 := 263) (pc' := 267) rfl (hb hby at_263) (by decide) (by decide) ?_
    show Sp p e below T10 (mkF m 267 #[.val (.int p0), .val (.int p1), .val (.int p2), .val (.int p3), .val (.int p4), .val (.int (fx0 p2)), .val (.int (fx2 p2)), .val (.int (fx4 p2)), .val (.int z8), .val (.int z9), .val (.int (fx0 z9)), .val (.int (fx2 z9)), .val (.int (fx4 z9)), .val (.ref b2_0), .val (.ref b3_0), .val (.int z15), .val (.ref b5), .val (.int (p4 &&& (3 : Int32))), .val (.ref b7), .val (.int (0 : Int32)), .val (.int (0 : Int32))] [(.int (1 : Int32))]) _
    exact retN X10 hx (t := .boolean) Bd.returns (by simp) (hb hby at_267) hr
  · skip
    exact ⟨rfl, N10⟩
set_option maxRecDepth 65536 in
set_option maxHeartbeats 40000000 in
theorem rm45 (l : Launch) (Z : State) (a0 : Array Value) (hw : ∀ d ∈ tables_1, d.before a0 Z = true) (ws : List Jvm.Cond) (cs_v : Int32) (hp : Perm Z cs_v) (p0 : Int32) (p1 : Int32) (p2 : Int32) (p3 : Int32) (p4 : Int32) (z8 : Int32) (z9 : Int32) (z15 : Int32) (h0 : Heap) (n0 : Nat) (O0 : Old Z n0 h0) (hcut28 : Cut_0_28 p0 p1 p2 p3 p4 ((p2 &&& (3 : Int32)) % (3 : Int32)) ((((p2.toUInt32 >>> ((2 : Int32) &&& 31).toUInt32).toInt32) &&& (255 : Int32)).toUInt32.toUInt16.toUInt32.toInt32) ((((p2.toUInt32 >>> ((10 : Int32) &&& 31).toUInt32).toInt32) &&& (255 : Int32)).toUInt32.toUInt16.toUInt32.toInt32) z8 z9) (hcut109 : Cut_0_109 p0 p1 p2 p3 p4 ((p2 &&& (3 : Int32)) % (3 : Int32)) ((((p2.toUInt32 >>> ((2 : Int32) &&& 31).toUInt32).toInt32) &&& (255 : Int32)).toUInt32.toUInt16.toUInt32.toInt32) ((((p2.toUInt32 >>> ((10 : Int32) &&& 31).toUInt32).toInt32) &&& (255 : Int32)).toUInt32.toUInt16.toUInt32.toInt32) z8 z9 ((z9 &&& (3 : Int32)) % (3 : Int32)) ((((z9.toUInt32 >>> ((2 : Int32) &&& 31).toUInt32).toInt32) &&& (255 : Int32)).toUInt32.toUInt16.toUInt32.toInt32) ((((z9.toUInt32 >>> ((10 : Int32) &&& 31).toUInt32).toInt32) &&& (255 : Int32)).toUInt32.toUInt16.toUInt32.toInt32) z15) (hc3 : ¬ ((p4 &&& (3 : Int32)) = (0 : Int32))) (hc4 : ¬ ((p4 &&& (3 : Int32)) = (1 : Int32))) (hc5 : ((p2 &&& (3 : Int32)) % (3 : Int32)) = ((z9 &&& (3 : Int32)) % (3 : Int32))) (hc6 : ¬ (((p2 &&& (3 : Int32)) % (3 : Int32)) < (1 : Int32))) (hc7 : ((((p2.toUInt32 >>> ((2 : Int32) &&& 31).toUInt32).toInt32) &&& (255 : Int32)).toUInt32.toUInt16.toUInt32.toInt32) = ((((z9.toUInt32 >>> ((2 : Int32) &&& 31).toUInt32).toInt32) &&& (255 : Int32)).toUInt32.toUInt16.toUInt32.toInt32)) (hc8 : ¬ (((p2 &&& (3 : Int32)) % (3 : Int32)) < (2 : Int32))) (hc9 : ((((p2.toUInt32 >>> ((10 : Int32) &&& 31).toUInt32).toInt32) &&& (255 : Int32)).toUInt32.toUInt16.toUInt32.toInt32) = ((((z9.toUInt32 >>> ((10 : Int32) &&& 31).toUInt32).toInt32) &&& (255 : Int32)).toUInt32.toUInt16.toUInt32.toInt32)) (hc10 : p0 = z15) :
    MetFree l x (head1 (Jvm.Cond.code x code maxLocals ret :: ws) room_1) (fun a U => a = #[(.int p0), (.int p1), (.int p2), (.int p3), (.int p4)] ∧ Z.Warmed39 U.vm ∧ U.heap = h0 ∧ CHv Z own_EL U.vm h0) (fun _ _ _ _ _ => True) (fun _ U o U' => ∃ v L, o = .returned v ∧ (v = some (.int (1 : Int32)) ∧ Fr n0 L) ∧ ReturnedEndW U o U' L 32 1152) := by
  refine MetFree.of_bodySF (plainFor_of_name pn_1) hisR ?_
  intro p e s m args below meth c s₁ Bd hml0 hP hK
  obtain ⟨rfl, hZo, hh, hCH⟩ := hP
  have hx := Bd.exec
  have hby := Bd.bytes
  have hml : c.maxLocals = 21 := hml0
  have hown : (s.setVm s.vm).vm.findClass "com/example/epcrtools/epcrtools/exchange/RuleSetKeyEqualsPinLaw" = some m.cls := findClass_of_methodNamed Bd.named
  have hnm := (name_of_methodNamed Bd.named Bd.method).1
  have X0 : Stand p l e room_1 (s.setVm s.vm) m #[(.int p0), (.int p1), (.int p2), (.int p3), (.int p4)] below meth c s₁ [] 0 0 := Stand.of_body Bd
  have e0 : s₁.heap = h0 := by rw [← hh, Bd.state]; rfl
  have N0 := Fr.nil n0
  have hZ : Z.Warmed39 (s.setVm s.vm).vm := hZo
  have CH0 := CHr.refl hCH
  have hS0 : s.Since s.vm 0 := (State.WarmedH.refl s).since 0
  have hk0 : 0 ≤ h0.size := Nat.zero_le _
  have hp' := hp
  obtain ⟨S_COMPACT_STRINGS, h_cs⟩ := hp'
  have pre0 : ∀ t, Steps p.tables e below (s₁.setTop (mkF m 0 #[.val (.int p0), .val (.int p1), .val (.int p2), .val (.int p3), .val (.int p4), .unset, .unset, .unset, .unset, .unset, .unset, .unset, .unset, .unset, .unset, .unset, .unset, .unset, .unset, .unset, .unset] [])) t → Steps p.tables e below (s₁.setTop (entryFrame m #[(.int p0), (.int p1), (.int p2), (.int p3), (.int p4)] maxLocals)) t := fun t k => castTop (ef_0_0 m p0 p1 p2 p3 p4) k
  have st1 := hcut28 X0 hx hZ hw hby hown
  obtain ⟨_, _, ⟨T2, L2, k2, n2⟩, -, XX2, Sq2, gq2, ⟨Lc2, hQ2, l2, y2, z2, C2⟩, st2⟩ := callSS X0 hx (y := y2) hown (mvT hZ (wq hw 0 rfl)) (mvT hZ (wq hw 1 rfl)) (mvT hZ (wq hw 2 rfl)) (mvT hZ (wq hw 3 rfl)) (by decide) (own_backC (SL := []) (W := 0) (rmS1 l Z a0 hw [] cs_v hp ((p2 &&& (3 : Int32)) % (3 : Int32)) ((((p2.toUInt32 >>> ((2 : Int32) &&& 31).toUInt32).toInt32) &&& (255 : Int32)).toUInt32.toUInt16.toUInt32.toInt32) ((((p2.toUInt32 >>> ((10 : Int32) &&& 31).toUInt32).toInt32) &&& (255 : Int32)).toUInt32.toUInt16.toUInt32.toInt32) h0 n0 O0 (own_ch2 ((p2.toUInt32 >>> ((2 : Int32) &&& 31).toUInt32).toInt32)) (own_ch2 ((p2.toUInt32 >>> ((10 : Int32) &&& 31).toUInt32).toInt32))) hZ (wq hw 3 rfl) (wq hw 2 rfl) (by decide) (by decide) (own_EW hw) CH0.1 all0) (g := (mkF m 93 #[.val (.int p0), .val (.int p1), .val (.int p2), .val (.int p3), .val (.int p4), .val (.int (fx0 p2)), .val (.int (fx2 p2)), .val (.int (fx4 p2)), .val (.int z8), .val (.int z9), .val (.int (fx0 z9)), .val (.int (fx2 z9)), .val (.int (fx4 z9)), .unset, .unset, .unset, .unset, .unset, .unset, .unset, .unset] [(.int (fx4 p2)), (.int (fx2 p2)), (.int (fx0 p2))])) rfl (by rw [hml]; rfl) (argsL := [(.int (fx0 p2)), (.int (fx2 p2)), (.int (fx4 p2))]) (rest := []) (lenOf pd_5 rfl) rfl (by show 2 * 0 + _ ≤ _; exact Nat.le_of_eq rfl) (hb hby at_93) (fun _ _ => ⟨rfl, e0, (by decide : 0 + 4 ≤ _), (by decide : 0 + 8 ≤ _)⟩)
  dsimp only [Pt.U, Pt.locs, Pt.cells, Pt.slots] at XX2 Sq2 gq2 l2 y2 z2 st2 hQ2 C2
  subst l2 y2 z2
  obtain ⟨X2, hS2, hZ2, hown2⟩ := rebS hS0 (by rw [e0]; exact hk0) XX2 Sq2 gq2 hZ hown
  obtain ⟨b2_0, y2_0, kc2_0, rfl, Nq2, Kq2, sq_b2_0, fq2_0, fq2_1, fq2_2, fq2_3⟩ := hQ2
  have N2 := Fr.app N0 Nq2
  have g_b2_0 : n0 ≤ b2_0 := Nat.le_trans (own_sz O0) sq_b2_0
  have sz_b2_0 : h0.size ≤ b2_0 := Nat.le_trans (Keep.refl h0 []).1 sq_b2_0
  have CH2 := CH0.trans C2
  have hk2 : T2.heap.size ≤ T2.heap.size := Nat.le_refl _
  have O2 := O0.keep Kq2 all0
  have K2 : Keep h0 T2.heap [] := (Keep.refl h0 []).trans Kq2 all0
  obtain ⟨_, _, ⟨T3, L3, k3, n3⟩, -, XX3, Sq3, gq3, ⟨Lc3, hQ3, l3, y3, z3, C3⟩, st3⟩ := callSS X2 hx (y := y2) hown2 (mvT hZ2 (wq hw 0 rfl)) (mvT hZ2 (wq hw 1 rfl)) (mvT hZ2 (wq hw 2 rfl)) (mvT hZ2 (wq hw 3 rfl)) (by decide) (own_backC (SL := []) (W := 0) (rmS1 l Z a0 hw [] cs_v hp ((z9 &&& (3 : Int32)) % (3 : Int32)) ((((z9.toUInt32 >>> ((2 : Int32) &&& 31).toUInt32).toInt32) &&& (255 : Int32)).toUInt32.toUInt16.toUInt32.toInt32) ((((z9.toUInt32 >>> ((10 : Int32) &&& 31).toUInt32).toInt32) &&& (255 : Int32)).toUInt32.toUInt16.toUInt32.toInt32) T2.heap n0 O2 (own_ch2 ((z9.toUInt32 >>> ((2 : Int32) &&& 31).toUInt32).toInt32)) (own_ch2 ((z9.toUInt32 >>> ((10 : Int32) &&& 31).toUInt32).toInt32))) hZ2 (wq hw 3 rfl) (wq hw 2 rfl) (by decide) (by decide) (own_EW hw) CH2.1 all0) (g := (mkF m 104 #[.val (.int p0), .val (.int p1), .val (.int p2), .val (.int p3), .val (.int p4), .val (.int (fx0 p2)), .val (.int (fx2 p2)), .val (.int (fx4 p2)), .val (.int z8), .val (.int z9), .val (.int (fx0 z9)), .val (.int (fx2 z9)), .val (.int (fx4 z9)), .val (.ref b2_0), .unset, .unset, .unset, .unset, .unset, .unset, .unset] [(.int (fx4 z9)), (.int (fx2 z9)), (.int (fx0 z9))])) rfl (by rw [hml]; rfl) (argsL := [(.int (fx0 z9)), (.int (fx2 z9)), (.int (fx4 z9))]) (rest := []) (lenOf pd_5 rfl) rfl (by show 2 * 0 + _ ≤ _; exact Nat.le_of_eq rfl) (hb hby at_104) (fun _ _ => ⟨rfl, rfl, (by decide : 4 + 4 ≤ _), (by decide : 8 + 8 ≤ _)⟩)
  dsimp only [Pt.U, Pt.locs, Pt.cells, Pt.slots] at XX3 Sq3 gq3 l3 y3 z3 st3 hQ3 C3
  subst l3 y3 z3
  obtain ⟨X3, hS3, hZ3, hown3⟩ := rebS hS2 hk2 XX3 Sq3 gq3 hZ2 hown2
  obtain ⟨b3_0, y3_0, kc3_0, rfl, Nq3, Kq3, sq_b3_0, fq3_0, fq3_1, fq3_2, fq3_3⟩ := hQ3
  have N3 := Fr.app N2 Nq3
  have g_b3_0 : n0 ≤ b3_0 := Nat.le_trans (own_sz O2) sq_b3_0
  have sz_b3_0 : h0.size ≤ b3_0 := Nat.le_trans K2.1 sq_b3_0
  have CH3 := CH2.trans C3
  have hk3 : T3.heap.size ≤ T3.heap.size := Nat.le_refl _
  have O3 := O2.keep Kq3 all0
  have K3 : Keep h0 T3.heap [] := K2.trans Kq3 all0
  have st4 := hcut109 b2_0 b3_0 X3 hx hZ3 hw hby hown3
  obtain ⟨T5, h5, X5, e5, E5, A5, D5, -, st5⟩ := newO X3 hx hZ3 hown3 (wq hw 34 rfl) (wq hw 35 rfl) (wq hw 36 rfl) rfl (g := (mkF m 125 #[.val (.int p0), .val (.int p1), .val (.int p2), .val (.int p3), .val (.int p4), .val (.int (fx0 p2)), .val (.int (fx2 p2)), .val (.int (fx4 p2)), .val (.int z8), .val (.int z9), .val (.int (fx0 z9)), .val (.int (fx2 z9)), .val (.int (fx4 z9)), .val (.ref b2_0), .val (.ref b3_0), .val (.int z15), .unset, .unset, .unset, .unset, .unset] [])) rfl (hb hby at_125) (by decide) (by decide)
  obtain ⟨b5, g5⟩ : ∃ z, z = T3.heap.size := ⟨_, rfl⟩
  rw [← g5] at A5 D5 st5
  have g_b5 : n0 ≤ b5 := Nat.le_trans (own_sz O3) (Nat.le_of_eq g5.symm)
  have sz_b5 : h0.size ≤ b5 := Nat.le_trans K3.1 (Nat.le_of_eq g5.symm)
  have O5 := O3.ext E5
  have K5 : Keep h0 h5 [] := K3.ext E5
  have CH5 := CH3.trans (CHr.ext E5 CH3.1)
  have hk5 := Nat.le_trans hk3 E5.1
  have F_dataSchema_b5 : Fld Z h5 b5 "com/example/epcrtools/epcrtools/exchange/RuleSetKey" "dataSchema" "I" (.int (0 : Int32)) := D5 (Or.inr (wq hw 42 rfl)) (ty := .int) (by decide)
  have F_schemaVersion_b5 : Fld Z h5 b5 "com/example/epcrtools/epcrtools/exchange/RuleSetKey" "schemaVersion" "Ljava/lang/String;" .null := D5 (Or.inr (wq hw 49 rfl)) (ty := (.object "java/lang/String")) (by decide)
  obtain ⟨_, _, ⟨T6, L6, k6, n6⟩, -, X6, ⟨Lc6, hQ6, l6, y6, z6⟩, st6⟩ := X5.specialBack hx (y := y7) rfl hown3 (mvT hZ3 (wq hw 37 rfl)) (mvT hZ3 (wq hw 38 rfl)) (mvT hZ3 (wq hw 39 rfl)) (by decide) (backOf (W := 1) (rm17 l Z a0 hw [] cs_v hp b5 p0 b2_0 h5 n0 O5 A5 F_dataSchema_b5 F_schemaVersion_b5 g_b5 ((fq2_0.keep Kq3).ext E5)) hZ3 (wq hw 39 rfl) (wq hw 36 rfl) (by decide) (by decide)) (g := (mkF m 132 #[.val (.int p0), .val (.int p1), .val (.int p2), .val (.int p3), .val (.int p4), .val (.int (fx0 p2)), .val (.int (fx2 p2)), .val (.int (fx4 p2)), .val (.int z8), .val (.int z9), .val (.int (fx0 z9)), .val (.int (fx2 z9)), .val (.int (fx4 z9)), .val (.ref b2_0), .val (.ref b3_0), .val (.int z15), .unset, .unset, .unset, .unset, .unset] [(.ref b2_0), (.int p0), (.ref b5), (.ref b5)])) rfl (by rw [hml]; rfl) (Steps.refl _) (a := b5) (argsL := [(.int p0), (.ref b2_0)]) (rest := [(.ref b5)]) (lenOf pd_7 rfl) rfl (by show 2 * 0 + _ ≤ _; exact Nat.le_of_eq rfl) (hb hby at_132) (fun _ _ => ⟨rfl, e5, (by decide : 9 + 0 ≤ _), (by decide : 18 + 0 ≤ _)⟩)
  dsimp only [Pt.U, Pt.locs, Pt.cells, Pt.slots] at X6 l6 y6 z6 st6 hQ6
  subst l6 y6 z6
  obtain ⟨rfl, Nq6, Kq6, fq6_0, fq6_1, fq6_2⟩ := hQ6
  have N6 := Fr.app N3 Nq6
  have CH6 := CH5.trans (CHr.keep Kq6 (allS (Safe.exa hZ3.alike A5 (by decide) (by decide)) all0) CH5.1)
  have hk6 := Nat.le_trans hk5 Kq6.1
  have O6 := O5.keep Kq6 (allS g_b5 all0)
  have K6 : Keep h0 T6.heap [] := K5.trans Kq6 (allS (Or.inr sz_b5) all0)
  obtain ⟨T7, h7, X7, e7, E7, A7, D7, -, st7⟩ := newO X6 hx hZ3 hown3 (wq hw 34 rfl) (wq hw 35 rfl) (wq hw 36 rfl) rfl (g := (mkF m 167 #[.val (.int p0), .val (.int p1), .val (.int p2), .val (.int p3), .val (.int p4), .val (.int (fx0 p2)), .val (.int (fx2 p2)), .val (.int (fx4 p2)), .val (.int z8), .val (.int z9), .val (.int (fx0 z9)), .val (.int (fx2 z9)), .val (.int (fx4 z9)), .val (.ref b2_0), .val (.ref b3_0), .val (.int z15), .val (.ref b5), .val (.int (p4 &&& (3 : Int32))), .unset, .unset, .unset] [])) rfl (hb hby at_167) (by decide) (by decide)
  obtain ⟨b7, g7⟩ : ∃ z, z = T6.heap.size := ⟨_, rfl⟩
  rw [← g7] at A7 D7 st7
  have g_b7 : n0 ≤ b7 := Nat.le_trans (own_sz O6) (Nat.le_of_eq g7.symm)
  have sz_b7 : h0.size ≤ b7 := Nat.le_trans K6.1 (Nat.le_of_eq g7.symm)
  have O7 := O6.ext E7
  have K7 : Keep h0 h7 [] := K6.ext E7
  have CH7 := CH6.trans (CHr.ext E7 CH6.1)
  have hk7 := Nat.le_trans hk6 E7.1
  have F_dataSchema_b7 : Fld Z h7 b7 "com/example/epcrtools/epcrtools/exchange/RuleSetKey" "dataSchema" "I" (.int (0 : Int32)) := D7 (Or.inr (wq hw 42 rfl)) (ty := .int) (by decide)
  have F_schemaVersion_b7 : Fld Z h7 b7 "com/example/epcrtools/epcrtools/exchange/RuleSetKey" "schemaVersion" "Ljava/lang/String;" .null := D7 (Or.inr (wq hw 49 rfl)) (ty := (.object "java/lang/String")) (by decide)
  obtain ⟨_, _, ⟨T8, L8, k8, n8⟩, -, X8, ⟨Lc8, hQ8, l8, y8, z8⟩, st8⟩ := X7.specialBack hx (y := y7) rfl hown3 (mvT hZ3 (wq hw 37 rfl)) (mvT hZ3 (wq hw 38 rfl)) (mvT hZ3 (wq hw 39 rfl)) (by decide) (backOf (W := 1) (rm17 l Z a0 hw [] cs_v hp b7 z15 b3_0 h7 n0 O7 A7 F_dataSchema_b7 F_schemaVersion_b7 g_b7 (((fq3_0.ext E5).keep Kq6).ext E7)) hZ3 (wq hw 39 rfl) (wq hw 36 rfl) (by decide) (by decide)) (g := (mkF m 175 #[.val (.int p0), .val (.int p1), .val (.int p2), .val (.int p3), .val (.int p4), .val (.int (fx0 p2)), .val (.int (fx2 p2)), .val (.int (fx4 p2)), .val (.int z8), .val (.int z9), .val (.int (fx0 z9)), .val (.int (fx2 z9)), .val (.int (fx4 z9)), .val (.ref b2_0), .val (.ref b3_0), .val (.int z15), .val (.ref b5), .val (.int (p4 &&& (3 : Int32))), .unset, .unset, .unset] [(.ref b3_0), (.int z15), (.ref b7), (.ref b7)])) rfl (by rw [hml]; rfl) (Steps.refl _) (a := b7) (argsL := [(.int z15), (.ref b3_0)]) (rest := [(.ref b7)]) (lenOf pd_7 rfl) rfl (by show 2 * 0 + _ ≤ _; exact Nat.le_of_eq rfl) (hb hby at_175) (fun _ _ => ⟨rfl, e7, (by decide : 10 + 0 ≤ _), (by decide : 20 + 0 ≤ _)⟩)
  dsimp only [Pt.U, Pt.locs, Pt.cells, Pt.slots] at X8 l8 y8 z8 st8 hQ8
  subst l8 y8 z8
  obtain ⟨rfl, Nq8, Kq8, fq8_0, fq8_1, fq8_2⟩ := hQ8
  have N8 := Fr.app N6 Nq8
  have CH8 := CH7.trans (CHr.keep Kq8 (allS (Safe.exa hZ3.alike A7 (by decide) (by decide)) all0) CH7.1)
  have hk8 := Nat.le_trans hk7 Kq8.1
  have O8 := O7.keep Kq8 (allS g_b7 all0)
  have K8 : Keep h0 T8.heap [] := K7.trans Kq8 (allS (Or.inr sz_b7) all0)
  have f_9 := ((fq6_1.ext E7).keep Kq8 (ninS (Nat.ne_of_lt (Nat.lt_of_lt_of_le (A5.keep Kq6).lt (Nat.le_of_eq g7.symm))) nin0))
  have f_10 := ((fq6_2.ext E7).keep Kq8 (ninS (Nat.ne_of_lt (Nat.lt_of_lt_of_le (A5.keep Kq6).lt (Nat.le_of_eq g7.symm))) nin0))
  have f_11 := (((((fq2_1.keep Kq3 nin0).ext E5).keep Kq6 (ninS (Nat.ne_of_lt (Nat.lt_of_lt_of_le (fq2_0.keep Kq3).lt (Nat.le_of_eq g5.symm))) nin0)).ext E7).keep Kq8 (ninS (Nat.ne_of_lt (Nat.lt_of_lt_of_le (((fq2_0.keep Kq3).ext E5).keep Kq6).lt (Nat.le_of_eq g7.symm))) nin0))
  have f_12 := ((((fq3_1.ext E5).keep Kq6 (ninS (Nat.ne_of_lt (Nat.lt_of_lt_of_le fq3_0.lt (Nat.le_of_eq g5.symm))) nin0)).ext E7).keep Kq8 (ninS (Nat.ne_of_lt (Nat.lt_of_lt_of_le ((fq3_0.ext E5).keep Kq6).lt (Nat.le_of_eq g7.symm))) nin0))
  have f_13 := (((((fq2_2.keep Kq3 nin0).ext E5).keep Kq6 (ninS (Nat.ne_of_lt (Nat.lt_of_lt_of_le (fq2_0.keep Kq3).lt (Nat.le_of_eq g5.symm))) nin0)).ext E7).keep Kq8 (ninS (Nat.ne_of_lt (Nat.lt_of_lt_of_le (((fq2_0.keep Kq3).ext E5).keep Kq6).lt (Nat.le_of_eq g7.symm))) nin0))
  have f_14 := ((((fq3_2.ext E5).keep Kq6 (ninS (Nat.ne_of_lt (Nat.lt_of_lt_of_le fq3_0.lt (Nat.le_of_eq g5.symm))) nin0)).ext E7).keep Kq8 (ninS (Nat.ne_of_lt (Nat.lt_of_lt_of_le ((fq3_0.ext E5).keep Kq6).lt (Nat.le_of_eq g7.symm))) nin0))
  have f_15 := (((((fq2_3.keep Kq3 nin0).ext E5).keep Kq6 (ninS (Nat.ne_of_lt (Nat.lt_of_lt_of_le (fq2_3.keep Kq3 nin0).lt (Nat.le_of_eq g5.symm))) nin0)).ext E7).keep Kq8 (ninS (Nat.ne_of_lt (Nat.lt_of_lt_of_le (((fq2_3.keep Kq3 nin0).ext E5).keep Kq6 (ninS (Nat.ne_of_lt (Nat.lt_of_lt_of_le (fq2_3.keep Kq3 nin0).lt (Nat.le_of_eq g5.symm))) nin0)).lt (Nat.le_of_eq g7.symm))) nin0))
  have f_16 := ((((fq3_3.ext E5).keep Kq6 (ninS (Nat.ne_of_lt (Nat.lt_of_lt_of_le fq3_3.lt (Nat.le_of_eq g5.symm))) nin0)).ext E7).keep Kq8 (ninS (Nat.ne_of_lt (Nat.lt_of_lt_of_le ((fq3_3.ext E5).keep Kq6 (ninS (Nat.ne_of_lt (Nat.lt_of_lt_of_le fq3_3.lt (Nat.le_of_eq g5.symm))) nin0)).lt (Nat.le_of_eq g7.symm))) nin0))
  obtain ⟨cq17, kq17, q17a, q17b, q17c⟩ := isOf hZ3 rfl ((fq6_0.ext E7).keep Kq8)
  obtain ⟨_, _, ⟨T17, L17, k17, n17⟩, -, X17, ⟨Lc17, hQ17, l17, y17, z17⟩, st17⟩ := X8.virtualBack hx (y := y8) (z := y8) hown3 (mvT hZ3 (wq hw 50 rfl)) (mvT hZ3 (wq hw 51 rfl)) (notFace_of_selects (args := #[]) (mvT hZ3 (wq hw 53 rfl))) (mvT hZ3 (wq hw 53 rfl)) (mvT hZ3 (wq hw 52 rfl)) (by decide) (backOf (W := 0) (rm35 l Z a0 hw [] cs_v hp b5 b7 p0 z15 b2_0 b3_0 y2_0 y3_0 kc2_0 ((p2 &&& (3 : Int32)) % (3 : Int32)) ((((p2.toUInt32 >>> ((2 : Int32) &&& 31).toUInt32).toInt32) &&& (255 : Int32)).toUInt32.toUInt16.toUInt32.toInt32) ((((p2.toUInt32 >>> ((10 : Int32) &&& 31).toUInt32).toInt32) &&& (255 : Int32)).toUInt32.toUInt16.toUInt32.toInt32) kc3_0 ((z9 &&& (3 : Int32)) % (3 : Int32)) ((((z9.toUInt32 >>> ((2 : Int32) &&& 31).toUInt32).toInt32) &&& (255 : Int32)).toUInt32.toUInt16.toUInt32.toInt32) ((((z9.toUInt32 >>> ((10 : Int32) &&& 31).toUInt32).toInt32) &&& (255 : Int32)).toUInt32.toUInt16.toUInt32.toInt32) T8.heap n0 O8 fq8_0 f_9 fq8_1 hc10 f_10 fq8_2 (((((fq2_0.keep Kq3).ext E5).keep Kq6).ext E7).keep Kq8) ((((fq3_0.ext E5).keep Kq6).ext E7).keep Kq8) f_11 f_12 f_13 f_14 f_15 f_16 (by rw [own_mkE (own_rem (x := p2) (m := (3 : Int32)) (M := 3) rfl (by decide) (y := (3 : Int32)) (d := 3) rfl (by decide)) (own_rem (x := z9) (m := (3 : Int32)) (M := 3) rfl (by decide) (y := (3 : Int32)) (d := 3) rfl (by decide)), if_pos ⟨hc5, Or.inr (own_mkB.mpr hc7), Or.inr (own_mkB.mpr hc9)⟩]; decide : ¬ ((mkE ((p2 &&& (3 : Int32)) % (3 : Int32)) ((((p2.toUInt32 >>> ((2 : Int32) &&& 31).toUInt32).toInt32) &&& (255 : Int32)).toUInt32.toUInt16.toUInt32.toInt32) ((((p2.toUInt32 >>> ((10 : Int32) &&& 31).toUInt32).toInt32) &&& (255 : Int32)).toUInt32.toUInt16.toUInt32.toInt32) ((z9 &&& (3 : Int32)) % (3 : Int32)) ((((z9.toUInt32 >>> ((2 : Int32) &&& 31).toUInt32).toInt32) &&& (255 : Int32)).toUInt32.toUInt16.toUInt32.toInt32) ((((z9.toUInt32 >>> ((10 : Int32) &&& 31).toUInt32).toInt32) &&& (255 : Int32)).toUInt32.toUInt16.toUInt32.toInt32)) = (0 : Int32))) (Nat.ne_of_lt (Nat.lt_of_lt_of_le fq2_0.lt sq_b3_0))) hZ3 (wq hw 54 rfl) (wq hw 36 rfl) (by decide) (by decide)) q17a q17c (g := (mkF m 254 #[.val (.int p0), .val (.int p1), .val (.int p2), .val (.int p3), .val (.int p4), .val (.int (fx0 p2)), .val (.int (fx2 p2)), .val (.int (fx4 p2)), .val (.int z8), .val (.int z9), .val (.int (fx0 z9)), .val (.int (fx2 z9)), .val (.int (fx4 z9)), .val (.ref b2_0), .val (.ref b3_0), .val (.int z15), .val (.ref b5), .val (.int (p4 &&& (3 : Int32))), .val (.ref b7), .val (.int (1 : Int32)), .val (.int (1 : Int32))] [(.ref b7), (.ref b5)])) rfl (by rw [hml]; rfl) (Steps.refl _) (argsL := [(.ref b7)]) (rest := []) (lenOf pd_8 rfl) rfl (by show 2 * 0 + _ ≤ _; exact Nat.le_of_eq rfl) (hb hby at_254) (fun _ _ => ⟨rfl, rfl, (by decide : 10 + 0 ≤ _), (by decide : 20 + 0 ≤ _)⟩)
  dsimp only [Pt.U, Pt.locs, Pt.cells, Pt.slots] at X17 l17 y17 z17 st17 hQ17
  subst l17 y17 z17
  obtain ⟨rfl, Nq17, eq17⟩ := hQ17
  have N17 := Fr.app N8 Nq17
  obtain ⟨fs, hr, hrun, hended, hE⟩ := Stand.leaveW (s := s) X17 hS3 (by rw [eq17]; exact hk8) (v := some (.int (1 : Int32))) (fun h => by rw [Bd.returns] at h; cases h)
  refine ⟨_, _, pre0 _ ?_, hrun, hended, _, _, rfl, ?_, hE.1, hE.2.1, hE.2.2.1, hE.2.2.2.mono (by decide) (by decide)⟩
  · show Sp p e below s₁ (mkF m 0 #[.val (.int p0), .val (.int p1), .val (.int p2), .val (.int p3), .val (.int p4), .unset, .unset, .unset, .unset, .unset, .unset, .unset, .unset, .unset, .unset, .unset, .unset, .unset, .unset, .unset, .unset] []) _
    refine XS.iloadN X0.here hx rfl (hb hby at_0) rfl ?_
    refine XS.iconst X0.here hx rfl (hb hby at_1) ?_
    refine XS.iand X0.here hx rfl (hb hby at_2) rfl ?_
    refine XS.iconst X0.here hx rfl (hb hby at_3) ?_
    show Sp p e below s₁ (mkF m 4 #[.val (.int p0), .val (.int p1), .val (.int p2), .val (.int p3), .val (.int p4), .unset, .unset, .unset, .unset, .unset, .unset, .unset, .unset, .unset, .unset, .unset, .unset, .unset, .unset, .unset, .unset] [(.int (3 : Int32)), (.int (p2 &&& (3 : Int32)))]) _
    refine iremM X0 hx rfl (hb hby at_4) rfl (by decide) ?_
    show Sp p e below s₁ (mkF m 5 #[.val (.int p0), .val (.int p1), .val (.int p2), .val (.int p3), .val (.int p4), .unset, .unset, .unset, .unset, .unset, .unset, .unset, .unset, .unset, .unset, .unset, .unset, .unset, .unset, .unset, .unset] [(.int (fx0 p2))]) _
    refine XS.istore X0.here hx rfl (hb hby at_5) rfl (l' := #[.val (.int p0), .val (.int p1), .val (.int p2), .val (.int p3), .val (.int p4), .val (.int (fx0 p2)), .unset, .unset, .unset, .unset, .unset, .unset, .unset, .unset, .unset, .unset, .unset, .unset, .unset, .unset, .unset]) rfl ?_
    refine XS.iloadN X0.here hx rfl (hb hby at_7) rfl ?_
    refine XS.iconst X0.here hx rfl (hb hby at_8) ?_
    refine XS.iushr X0.here hx rfl (hb hby at_9) rfl ?_
    show Sp p e below s₁ (mkF m 10 #[.val (.int p0), .val (.int p1), .val (.int p2), .val (.int p3), .val (.int p4), .val (.int (fx0 p2)), .unset, .unset, .unset, .unset, .unset, .unset, .unset, .unset, .unset, .unset, .unset, .unset, .unset, .unset, .unset] [(.int (fx1 p2))]) _
    refine XS.sipush X0.here hx rfl (hb hby at_10) ?_
    refine XS.iand X0.here hx rfl (hb hby at_13) rfl ?_
    refine XS.i2c X0.here hx rfl (hb hby at_14) rfl ?_
    refine XS.istore X0.here hx rfl (hb hby at_15) rfl (l' := #[.val (.int p0), .val (.int p1), .val (.int p2), .val (.int p3), .val (.int p4), .val (.int (fx0 p2)), .val (.int (fx2 p2)), .unset, .unset, .unset, .unset, .unset, .unset, .unset, .unset, .unset, .unset, .unset, .unset, .unset, .unset]) rfl ?_
    show Sp p e below s₁ (mkF m 17 #[.val (.int p0), .val (.int p1), .val (.int p2), .val (.int p3), .val (.int p4), .val (.int (fx0 p2)), .val (.int (fx2 p2)), .unset, .unset, .unset, .unset, .unset, .unset, .unset, .unset, .unset, .unset, .unset, .unset, .unset, .unset] []) _
    refine XS.iloadN X0.here hx rfl (hb hby at_17) rfl ?_
    refine XS.bipush X0.here hx rfl (hb hby at_18) ?_
    refine XS.iushr X0.here hx rfl (hb hby at_20) rfl ?_
    refine XS.sipush X0.here hx rfl (hb hby at_21) ?_
    show Sp p e below s₁ (mkF m 24 #[.val (.int p0), .val (.int p1), .val (.int p2), .val (.int p3), .val (.int p4), .val (.int (fx0 p2)), .val (.int (fx2 p2)), .unset, .unset, .unset, .unset, .unset, .unset, .unset, .unset, .unset, .unset, .unset, .unset, .unset, .unset] [(.int (255 : Int32)), (.int (fx3 p2))]) _
    refine XS.iand X0.here hx rfl (hb hby at_24) rfl ?_
    refine XS.i2c X0.here hx rfl (hb hby at_25) rfl ?_
    refine XS.istore X0.here hx rfl (hb hby at_26) rfl (l' := #[.val (.int p0), .val (.int p1), .val (.int p2), .val (.int p3), .val (.int p4), .val (.int (fx0 p2)), .val (.int (fx2 p2)), .val (.int (fx4 p2)), .unset, .unset, .unset, .unset, .unset, .unset, .unset, .unset, .unset, .unset, .unset, .unset, .unset]) rfl ?_
    show Sp p e below s₁ (mkF m 28 #[.val (.int p0), .val (.int p1), .val (.int p2), .val (.int p3), .val (.int p4), .val (.int (fx0 p2)), .val (.int (fx2 p2)), .val (.int (fx4 p2)), .unset, .unset, .unset, .unset, .unset, .unset, .unset, .unset, .unset, .unset, .unset, .unset, .unset] []) _
    refine st1 _ ?_
    show Sp p e below s₁ (mkF m 56 #[.val (.int p0), .val (.int p1), .val (.int p2), .val (.int p3), .val (.int p4), .val (.int (fx0 p2)), .val (.int (fx2 p2)), .val (.int (fx4 p2)), .val (.int z8), .val (.int z9), .unset, .unset, .unset, .unset, .unset, .unset, .unset, .unset, .unset, .unset, .unset] []) _
    refine XS.iload X0.here hx rfl (hb hby at_56) rfl ?_
    refine XS.iconst X0.here hx rfl (hb hby at_58) ?_
    refine XS.iand X0.here hx rfl (hb hby at_59) rfl ?_
    refine XS.iconst X0.here hx rfl (hb hby at_60) ?_
    show Sp p e below s₁ (mkF m 61 #[.val (.int p0), .val (.int p1), .val (.int p2), .val (.int p3), .val (.int p4), .val (.int (fx0 p2)), .val (.int (fx2 p2)), .val (.int (fx4 p2)), .val (.int z8), .val (.int z9), .unset, .unset, .unset, .unset, .unset, .unset, .unset, .unset, .unset, .unset, .unset] [(.int (3 : Int32)), (.int (z9 &&& (3 : Int32)))]) _
    refine iremM X0 hx rfl (hb hby at_61) rfl (by decide) ?_
    show Sp p e below s₁ (mkF m 62 #[.val (.int p0), .val (.int p1), .val (.int p2), .val (.int p3), .val (.int p4), .val (.int (fx0 p2)), .val (.int (fx2 p2)), .val (.int (fx4 p2)), .val (.int z8), .val (.int z9), .unset, .unset, .unset, .unset, .unset, .unset, .unset, .unset, .unset, .unset, .unset] [(.int (fx0 z9))]) _
    refine XS.istore X0.here hx rfl (hb hby at_62) rfl (l' := #[.val (.int p0), .val (.int p1), .val (.int p2), .val (.int p3), .val (.int p4), .val (.int (fx0 p2)), .val (.int (fx2 p2)), .val (.int (fx4 p2)), .val (.int z8), .val (.int z9), .val (.int (fx0 z9)), .unset, .unset, .unset, .unset, .unset, .unset, .unset, .unset, .unset, .unset]) rfl ?_
    refine XS.iload X0.here hx rfl (hb hby at_64) rfl ?_
    refine XS.iconst X0.here hx rfl (hb hby at_66) ?_
    refine XS.iushr X0.here hx rfl (hb hby at_67) rfl ?_
    show Sp p e below s₁ (mkF m 68 #[.val (.int p0), .val (.int p1), .val (.int p2), .val (.int p3), .val (.int p4), .val (.int (fx0 p2)), .val (.int (fx2 p2)), .val (.int (fx4 p2)), .val (.int z8), .val (.int z9), .val (.int (fx0 z9)), .unset, .unset, .unset, .unset, .unset, .unset, .unset, .unset, .unset, .unset] [(.int (fx1 z9))]) _
    refine XS.sipush X0.here hx rfl (hb hby at_68) ?_
    refine XS.iand X0.here hx rfl (hb hby at_71) rfl ?_
    refine XS.i2c X0.here hx rfl (hb hby at_72) rfl ?_
    refine XS.istore X0.here hx rfl (hb hby at_73) rfl (l' := #[.val (.int p0), .val (.int p1), .val (.int p2), .val (.int p3), .val (.int p4), .val (.int (fx0 p2)), .val (.int (fx2 p2)), .val (.int (fx4 p2)), .val (.int z8), .val (.int z9), .val (.int (fx0 z9)), .val (.int (fx2 z9)), .unset, .unset, .unset, .unset, .unset, .unset, .unset, .unset, .unset]) rfl ?_
    show Sp p e below s₁ (mkF m 75 #[.val (.int p0), .val (.int p1), .val (.int p2), .val (.int p3), .val (.int p4), .val (.int (fx0 p2)), .val (.int (fx2 p2)), .val (.int (fx4 p2)), .val (.int z8), .val (.int z9), .val (.int (fx0 z9)), .val (.int (fx2 z9)), .unset, .unset, .unset, .unset, .unset, .unset, .unset, .unset, .unset] []) _
    refine XS.iload X0.here hx rfl (hb hby at_75) rfl ?_
    refine XS.bipush X0.here hx rfl (hb hby at_77) ?_
    refine XS.iushr X0.here hx rfl (hb hby at_79) rfl ?_
    refine XS.sipush X0.here hx rfl (hb hby at_80) ?_
    show Sp p e below s₁ (mkF m 83 #[.val (.int p0), .val (.int p1), .val (.int p2), .val (.int p3), .val (.int p4), .val (.int (fx0 p2)), .val (.int (fx2 p2)), .val (.int (fx4 p2)), .val (.int z8), .val (.int z9), .val (.int (fx0 z9)), .val (.int (fx2 z9)), .unset, .unset, .unset, .unset, .unset, .unset, .unset, .unset, .unset] [(.int (255 : Int32)), (.int (fx3 z9))]) _
    refine XS.iand X0.here hx rfl (hb hby at_83) rfl ?_
    refine XS.i2c X0.here hx rfl (hb hby at_84) rfl ?_
    refine XS.istore X0.here hx rfl (hb hby at_85) rfl (l' := #[.val (.int p0), .val (.int p1), .val (.int p2), .val (.int p3), .val (.int p4), .val (.int (fx0 p2)), .val (.int (fx2 p2)), .val (.int (fx4 p2)), .val (.int z8), .val (.int z9), .val (.int (fx0 z9)), .val (.int (fx2 z9)), .val (.int (fx4 z9)), .unset, .unset, .unset, .unset, .unset, .unset, .unset, .unset]) rfl ?_
    refine XS.iload X0.here hx rfl (hb hby at_87) rfl ?_
    show Sp p e below s₁ (mkF m 89 #[.val (.int p0), .val (.int p1), .val (.int p2), .val (.int p3), .val (.int p4), .val (.int (fx0 p2)), .val (.int (fx2 p2)), .val (.int (fx4 p2)), .val (.int z8), .val (.int z9), .val (.int (fx0 z9)), .val (.int (fx2 z9)), .val (.int (fx4 z9)), .unset, .unset, .unset, .unset, .unset, .unset, .unset, .unset] [(.int (fx0 p2))]) _
    refine XS.iload X0.here hx rfl (hb hby at_89) rfl ?_
    refine XS.iload X0.here hx rfl (hb hby at_91) rfl ?_
    show Sp p e below s₁ (mkF m 93 #[.val (.int p0), .val (.int p1), .val (.int p2), .val (.int p3), .val (.int p4), .val (.int (fx0 p2)), .val (.int (fx2 p2)), .val (.int (fx4 p2)), .val (.int z8), .val (.int z9), .val (.int (fx0 z9)), .val (.int (fx2 z9)), .val (.int (fx4 z9)), .unset, .unset, .unset, .unset, .unset, .unset, .unset, .unset] [(.int (fx4 p2)), (.int (fx2 p2)), (.int (fx0 p2))]) _
    refine st2.trans ?_
    show Sp p e below T2 (mkF m 96 #[.val (.int p0), .val (.int p1), .val (.int p2), .val (.int p3), .val (.int p4), .val (.int (fx0 p2)), .val (.int (fx2 p2)), .val (.int (fx4 p2)), .val (.int z8), .val (.int z9), .val (.int (fx0 z9)), .val (.int (fx2 z9)), .val (.int (fx4 z9)), .unset, .unset, .unset, .unset, .unset, .unset, .unset, .unset] [(.ref b2_0)]) _
    refine XS.astore X2.here hx rfl (hb hby at_96) rfl rfl (l' := #[.val (.int p0), .val (.int p1), .val (.int p2), .val (.int p3), .val (.int p4), .val (.int (fx0 p2)), .val (.int (fx2 p2)), .val (.int (fx4 p2)), .val (.int z8), .val (.int z9), .val (.int (fx0 z9)), .val (.int (fx2 z9)), .val (.int (fx4 z9)), .val (.ref b2_0), .unset, .unset, .unset, .unset, .unset, .unset, .unset]) rfl ?_
    refine XS.iload X2.here hx rfl (hb hby at_98) rfl ?_
    refine XS.iload X2.here hx rfl (hb hby at_100) rfl ?_
    refine XS.iload X2.here hx rfl (hb hby at_102) rfl ?_
    show Sp p e below T2 (mkF m 104 #[.val (.int p0), .val (.int p1), .val (.int p2), .val (.int p3), .val (.int p4), .val (.int (fx0 p2)), .val (.int (fx2 p2)), .val (.int (fx4 p2)), .val (.int z8), .val (.int z9), .val (.int (fx0 z9)), .val (.int (fx2 z9)), .val (.int (fx4 z9)), .val (.ref b2_0), .unset, .unset, .unset, .unset, .unset, .unset, .unset] [(.int (fx4 z9)), (.int (fx2 z9)), (.int (fx0 z9))]) _
    refine st3.trans ?_
    show Sp p e below T3 (mkF m 107 #[.val (.int p0), .val (.int p1), .val (.int p2), .val (.int p3), .val (.int p4), .val (.int (fx0 p2)), .val (.int (fx2 p2)), .val (.int (fx4 p2)), .val (.int z8), .val (.int z9), .val (.int (fx0 z9)), .val (.int (fx2 z9)), .val (.int (fx4 z9)), .val (.ref b2_0), .unset, .unset, .unset, .unset, .unset, .unset, .unset] [(.ref b3_0)]) _
    refine XS.astore X3.here hx rfl (hb hby at_107) rfl rfl (l' := #[.val (.int p0), .val (.int p1), .val (.int p2), .val (.int p3), .val (.int p4), .val (.int (fx0 p2)), .val (.int (fx2 p2)), .val (.int (fx4 p2)), .val (.int z8), .val (.int z9), .val (.int (fx0 z9)), .val (.int (fx2 z9)), .val (.int (fx4 z9)), .val (.ref b2_0), .val (.ref b3_0), .unset, .unset, .unset, .unset, .unset, .unset]) rfl ?_
    show Sp p e below T3 (mkF m 109 #[.val (.int p0), .val (.int p1), .val (.int p2), .val (.int p3), .val (.int p4), .val (.int (fx0 p2)), .val (.int (fx2 p2)), .val (.int (fx4 p2)), .val (.int z8), .val (.int z9), .val (.int (fx0 z9)), .val (.int (fx2 z9)), .val (.int (fx4 z9)), .val (.ref b2_0), .val (.ref b3_0), .unset, .unset, .unset, .unset, .unset, .unset] []) _
    refine st4 _ ?_
    show Sp p e below T3 (mkF m 125 #[.val (.int p0), .val (.int p1), .val (.int p2), .val (.int p3), .val (.int p4), .val (.int (fx0 p2)), .val (.int (fx2 p2)), .val (.int (fx4 p2)), .val (.int z8), .val (.int z9), .val (.int (fx0 z9)), .val (.int (fx2 z9)), .val (.int (fx4 z9)), .val (.ref b2_0), .val (.ref b3_0), .val (.int z15), .unset, .unset, .unset, .unset, .unset] []) _
    refine st5 _ ?_
    show Sp p e below T5 (mkF m 128 #[.val (.int p0), .val (.int p1), .val (.int p2), .val (.int p3), .val (.int p4), .val (.int (fx0 p2)), .val (.int (fx2 p2)), .val (.int (fx4 p2)), .val (.int z8), .val (.int z9), .val (.int (fx0 z9)), .val (.int (fx2 z9)), .val (.int (fx4 z9)), .val (.ref b2_0), .val (.ref b3_0), .val (.int z15), .unset, .unset, .unset, .unset, .unset] [(.ref b5)]) _
    refine XS.dup X5.here hx rfl (hb hby at_128) rfl rfl ?_
    refine XS.iloadN X5.here hx rfl (hb hby at_129) rfl ?_
    refine XS.aload X5.here hx rfl (hb hby at_130) rfl rfl ?_
    show Sp p e below T5 (mkF m 132 #[.val (.int p0), .val (.int p1), .val (.int p2), .val (.int p3), .val (.int p4), .val (.int (fx0 p2)), .val (.int (fx2 p2)), .val (.int (fx4 p2)), .val (.int z8), .val (.int z9), .val (.int (fx0 z9)), .val (.int (fx2 z9)), .val (.int (fx4 z9)), .val (.ref b2_0), .val (.ref b3_0), .val (.int z15), .unset, .unset, .unset, .unset, .unset] [(.ref b2_0), (.int p0), (.ref b5), (.ref b5)]) _
    refine st6.trans ?_
    show Sp p e below T6 (mkF m 135 #[.val (.int p0), .val (.int p1), .val (.int p2), .val (.int p3), .val (.int p4), .val (.int (fx0 p2)), .val (.int (fx2 p2)), .val (.int (fx4 p2)), .val (.int z8), .val (.int z9), .val (.int (fx0 z9)), .val (.int (fx2 z9)), .val (.int (fx4 z9)), .val (.ref b2_0), .val (.ref b3_0), .val (.int z15), .unset, .unset, .unset, .unset, .unset] [(.ref b5)]) _
    refine XS.astore X6.here hx rfl (hb hby at_135) rfl rfl (l' := #[.val (.int p0), .val (.int p1), .val (.int p2), .val (.int p3), .val (.int p4), .val (.int (fx0 p2)), .val (.int (fx2 p2)), .val (.int (fx4 p2)), .val (.int z8), .val (.int z9), .val (.int (fx0 z9)), .val (.int (fx2 z9)), .val (.int (fx4 z9)), .val (.ref b2_0), .val (.ref b3_0), .val (.int z15), .val (.ref b5), .unset, .unset, .unset, .unset]) rfl ?_
    refine XS.iload X6.here hx rfl (hb hby at_137) rfl ?_
    refine XS.iconst X6.here hx rfl (hb hby at_139) ?_
    refine XS.iand X6.here hx rfl (hb hby at_140) rfl ?_
    show Sp p e below T6 (mkF m 141 #[.val (.int p0), .val (.int p1), .val (.int p2), .val (.int p3), .val (.int p4), .val (.int (fx0 p2)), .val (.int (fx2 p2)), .val (.int (fx4 p2)), .val (.int z8), .val (.int z9), .val (.int (fx0 z9)), .val (.int (fx2 z9)), .val (.int (fx4 z9)), .val (.ref b2_0), .val (.ref b3_0), .val (.int z15), .val (.ref b5), .unset, .unset, .unset, .unset] [(.int (p4 &&& (3 : Int32)))]) _
    refine XS.istore X6.here hx rfl (hb hby at_141) rfl (l' := #[.val (.int p0), .val (.int p1), .val (.int p2), .val (.int p3), .val (.int p4), .val (.int (fx0 p2)), .val (.int (fx2 p2)), .val (.int (fx4 p2)), .val (.int z8), .val (.int z9), .val (.int (fx0 z9)), .val (.int (fx2 z9)), .val (.int (fx4 z9)), .val (.ref b2_0), .val (.ref b3_0), .val (.int z15), .val (.ref b5), .val (.int (p4 &&& (3 : Int32))), .unset, .unset, .unset]) rfl ?_
    refine XS.iload X6.here hx rfl (hb hby at_143) rfl ?_
    refine XS.ifYes X6.here hx rfl (pc0 := 145) (pc' := 154) rfl (hb hby at_145) rfl ((if0 _ _).trans (feq hc3).2) (by decide) (by decide) ?_
    refine XS.iload X6.here hx rfl (hb hby at_154) rfl ?_
    show Sp p e below T6 (mkF m 156 #[.val (.int p0), .val (.int p1), .val (.int p2), .val (.int p3), .val (.int p4), .val (.int (fx0 p2)), .val (.int (fx2 p2)), .val (.int (fx4 p2)), .val (.int z8), .val (.int z9), .val (.int (fx0 z9)), .val (.int (fx2 z9)), .val (.int (fx4 z9)), .val (.ref b2_0), .val (.ref b3_0), .val (.int z15), .val (.ref b5), .val (.int (p4 &&& (3 : Int32))), .unset, .unset, .unset] [(.int (p4 &&& (3 : Int32)))]) _
    refine XS.iconst X6.here hx rfl (hb hby at_156) ?_
    refine XS.icmpYes X6.here hx rfl (pc0 := 157) (pc' := 167) rfl (hb hby at_157) rfl (feq hc4).2 (by decide) (by decide) ?_
    show Sp p e below T6 (mkF m 167 #[.val (.int p0), .val (.int p1), .val (.int p2), .val (.int p3), .val (.int p4), .val (.int (fx0 p2)), .val (.int (fx2 p2)), .val (.int (fx4 p2)), .val (.int z8), .val (.int z9), .val (.int (fx0 z9)), .val (.int (fx2 z9)), .val (.int (fx4 z9)), .val (.ref b2_0), .val (.ref b3_0), .val (.int z15), .val (.ref b5), .val (.int (p4 &&& (3 : Int32))), .unset, .unset, .unset] []) _
    refine st7 _ ?_
    show Sp p e below T7 (mkF m 170 #[.val (.int p0), .val (.int p1), .val (.int p2), .val (.int p3), .val (.int p4), .val (.int (fx0 p2)), .val (.int (fx2 p2)), .val (.int (fx4 p2)), .val (.int z8), .val (.int z9), .val (.int (fx0 z9)), .val (.int (fx2 z9)), .val (.int (fx4 z9)), .val (.ref b2_0), .val (.ref b3_0), .val (.int z15), .val (.ref b5), .val (.int (p4 &&& (3 : Int32))), .unset, .unset, .unset] [(.ref b7)]) _
    refine XS.dup X7.here hx rfl (hb hby at_170) rfl rfl ?_
    refine XS.iload X7.here hx rfl (hb hby at_171) rfl ?_
    refine XS.aload X7.here hx rfl (hb hby at_173) rfl rfl ?_
    show Sp p e below T7 (mkF m 175 #[.val (.int p0), .val (.int p1), .val (.int p2), .val (.int p3), .val (.int p4), .val (.int (fx0 p2)), .val (.int (fx2 p2)), .val (.int (fx4 p2)), .val (.int z8), .val (.int z9), .val (.int (fx0 z9)), .val (.int (fx2 z9)), .val (.int (fx4 z9)), .val (.ref b2_0), .val (.ref b3_0), .val (.int z15), .val (.ref b5), .val (.int (p4 &&& (3 : Int32))), .unset, .unset, .unset] [(.ref b3_0), (.int z15), (.ref b7), (.ref b7)]) _
    refine st8.trans ?_
    show Sp p e below T8 (mkF m 178 #[.val (.int p0), .val (.int p1), .val (.int p2), .val (.int p3), .val (.int p4), .val (.int (fx0 p2)), .val (.int (fx2 p2)), .val (.int (fx4 p2)), .val (.int z8), .val (.int z9), .val (.int (fx0 z9)), .val (.int (fx2 z9)), .val (.int (fx4 z9)), .val (.ref b2_0), .val (.ref b3_0), .val (.int z15), .val (.ref b5), .val (.int (p4 &&& (3 : Int32))), .unset, .unset, .unset] [(.ref b7)]) _
    refine XS.astore X8.here hx rfl (hb hby at_178) rfl rfl (l' := #[.val (.int p0), .val (.int p1), .val (.int p2), .val (.int p3), .val (.int p4), .val (.int (fx0 p2)), .val (.int (fx2 p2)), .val (.int (fx4 p2)), .val (.int z8), .val (.int z9), .val (.int (fx0 z9)), .val (.int (fx2 z9)), .val (.int (fx4 z9)), .val (.ref b2_0), .val (.ref b3_0), .val (.int z15), .val (.ref b5), .val (.int (p4 &&& (3 : Int32))), .val (.ref b7), .unset, .unset]) rfl ?_
    refine XS.iload X8.here hx rfl (hb hby at_180) rfl ?_
    refine XS.iconst X8.here hx rfl (hb hby at_182) ?_
    refine XS.icmpYes X8.here hx rfl (pc0 := 183) (pc' := 192) rfl (hb hby at_183) rfl (flt (own_nlti (n := 2) rfl (by have r := (own_and (x := p4) (m := (3 : Int32)) (M := 3) rfl (by decide)); have q0 := own_nei hc3 (n := 0) rfl; have q1 := own_nei hc4 (n := 1) rfl; omega) : ¬ ((p4 &&& (3 : Int32)) < (2 : Int32)))).2.1 (by decide) (by decide) ?_
    show Sp p e below T8 (mkF m 192 #[.val (.int p0), .val (.int p1), .val (.int p2), .val (.int p3), .val (.int p4), .val (.int (fx0 p2)), .val (.int (fx2 p2)), .val (.int (fx4 p2)), .val (.int z8), .val (.int z9), .val (.int (fx0 z9)), .val (.int (fx2 z9)), .val (.int (fx4 z9)), .val (.ref b2_0), .val (.ref b3_0), .val (.int z15), .val (.ref b5), .val (.int (p4 &&& (3 : Int32))), .val (.ref b7), .unset, .unset] []) _
    refine XS.iload X8.here hx rfl (hb hby at_192) rfl ?_
    refine XS.iload X8.here hx rfl (hb hby at_194) rfl ?_
    refine XS.icmpNo X8.here hx rfl (hb hby at_196) rfl (teq hc5).2 ?_
    refine XS.iload X8.here hx rfl (hb hby at_199) rfl ?_
    show Sp p e below T8 (mkF m 201 #[.val (.int p0), .val (.int p1), .val (.int p2), .val (.int p3), .val (.int p4), .val (.int (fx0 p2)), .val (.int (fx2 p2)), .val (.int (fx4 p2)), .val (.int z8), .val (.int z9), .val (.int (fx0 z9)), .val (.int (fx2 z9)), .val (.int (fx4 z9)), .val (.ref b2_0), .val (.ref b3_0), .val (.int z15), .val (.ref b5), .val (.int (p4 &&& (3 : Int32))), .val (.ref b7), .unset, .unset] [(.int (fx0 p2))]) _
    refine XS.iconst X8.here hx rfl (hb hby at_201) ?_
    refine XS.icmpNo X8.here hx rfl (hb hby at_202) rfl (flt hc6).1 ?_
    refine XS.iload X8.here hx rfl (hb hby at_205) rfl ?_
    refine XS.iload X8.here hx rfl (hb hby at_207) rfl ?_
    show Sp p e below T8 (mkF m 209 #[.val (.int p0), .val (.int p1), .val (.int p2), .val (.int p3), .val (.int p4), .val (.int (fx0 p2)), .val (.int (fx2 p2)), .val (.int (fx4 p2)), .val (.int z8), .val (.int z9), .val (.int (fx0 z9)), .val (.int (fx2 z9)), .val (.int (fx4 z9)), .val (.ref b2_0), .val (.ref b3_0), .val (.int z15), .val (.ref b5), .val (.int (p4 &&& (3 : Int32))), .val (.ref b7), .unset, .unset] [(.int (fx2 z9)), (.int (fx2 p2))]) _
    refine XS.icmpNo X8.here hx rfl (hb hby at_209) rfl (teq hc7).2 ?_
    refine XS.iload X8.here hx rfl (hb hby at_212) rfl ?_
    refine XS.iconst X8.here hx rfl (hb hby at_214) ?_
    refine XS.icmpNo X8.here hx rfl (hb hby at_215) rfl (flt hc8).1 ?_
    show Sp p e below T8 (mkF m 218 #[.val (.int p0), .val (.int p1), .val (.int p2), .val (.int p3), .val (.int p4), .val (.int (fx0 p2)), .val (.int (fx2 p2)), .val (.int (fx4 p2)), .val (.int z8), .val (.int z9), .val (.int (fx0 z9)), .val (.int (fx2 z9)), .val (.int (fx4 z9)), .val (.ref b2_0), .val (.ref b3_0), .val (.int z15), .val (.ref b5), .val (.int (p4 &&& (3 : Int32))), .val (.ref b7), .unset, .unset] []) _
    refine XS.iload X8.here hx rfl (hb hby at_218) rfl ?_
    refine XS.iload X8.here hx rfl (hb hby at_220) rfl ?_
    refine XS.icmpNo X8.here hx rfl (hb hby at_222) rfl (teq hc9).2 ?_
    refine XS.iconst X8.here hx rfl (hb hby at_225) ?_
    show Sp p e below T8 (mkF m 226 #[.val (.int p0), .val (.int p1), .val (.int p2), .val (.int p3), .val (.int p4), .val (.int (fx0 p2)), .val (.int (fx2 p2)), .val (.int (fx4 p2)), .val (.int z8), .val (.int z9), .val (.int (fx0 z9)), .val (.int (fx2 z9)), .val (.int (fx4 z9)), .val (.ref b2_0), .val (.ref b3_0), .val (.int z15), .val (.ref b5), .val (.int (p4 &&& (3 : Int32))), .val (.ref b7), .unset, .unset] [(.int (1 : Int32))]) _
    refine XS.goto X8.here hx rfl (pc0 := 226) (pc' := 230) rfl (hb hby at_226) (by decide) (by decide) ?_
    refine XS.istore X8.here hx rfl (hb hby at_230) rfl (l' := #[.val (.int p0), .val (.int p1), .val (.int p2), .val (.int p3), .val (.int p4), .val (.int (fx0 p2)), .val (.int (fx2 p2)), .val (.int (fx4 p2)), .val (.int z8), .val (.int z9), .val (.int (fx0 z9)), .val (.int (fx2 z9)), .val (.int (fx4 z9)), .val (.ref b2_0), .val (.ref b3_0), .val (.int z15), .val (.ref b5), .val (.int (p4 &&& (3 : Int32))), .val (.ref b7), .unset, .val (.int (1 : Int32))]) rfl ?_
    refine XS.iloadN X8.here hx rfl (hb hby at_232) rfl ?_
    refine XS.iload X8.here hx rfl (hb hby at_233) rfl ?_
    show Sp p e below T8 (mkF m 235 #[.val (.int p0), .val (.int p1), .val (.int p2), .val (.int p3), .val (.int p4), .val (.int (fx0 p2)), .val (.int (fx2 p2)), .val (.int (fx4 p2)), .val (.int z8), .val (.int z9), .val (.int (fx0 z9)), .val (.int (fx2 z9)), .val (.int (fx4 z9)), .val (.ref b2_0), .val (.ref b3_0), .val (.int z15), .val (.ref b5), .val (.int (p4 &&& (3 : Int32))), .val (.ref b7), .unset, .val (.int (1 : Int32))] [(.int z15), (.int p0)]) _
    refine XS.icmpNo X8.here hx rfl (hb hby at_235) rfl (teq hc10).2 ?_
    refine XS.iload X8.here hx rfl (hb hby at_238) rfl ?_
    refine XS.ifNo X8.here hx rfl (hb hby at_240) rfl ((if0 _ _).trans (feq (by decide : ¬ ((1 : Int32) = (0 : Int32)))).1) ?_
    refine XS.iconst X8.here hx rfl (hb hby at_243) ?_
    show Sp p e below T8 (mkF m 244 #[.val (.int p0), .val (.int p1), .val (.int p2), .val (.int p3), .val (.int p4), .val (.int (fx0 p2)), .val (.int (fx2 p2)), .val (.int (fx4 p2)), .val (.int z8), .val (.int z9), .val (.int (fx0 z9)), .val (.int (fx2 z9)), .val (.int (fx4 z9)), .val (.ref b2_0), .val (.ref b3_0), .val (.int z15), .val (.ref b5), .val (.int (p4 &&& (3 : Int32))), .val (.ref b7), .unset, .val (.int (1 : Int32))] [(.int (1 : Int32))]) _
    refine XS.goto X8.here hx rfl (pc0 := 244) (pc' := 248) rfl (hb hby at_244) (by decide) (by decide) ?_
    refine XS.istore X8.here hx rfl (hb hby at_248) rfl (l' := #[.val (.int p0), .val (.int p1), .val (.int p2), .val (.int p3), .val (.int p4), .val (.int (fx0 p2)), .val (.int (fx2 p2)), .val (.int (fx4 p2)), .val (.int z8), .val (.int z9), .val (.int (fx0 z9)), .val (.int (fx2 z9)), .val (.int (fx4 z9)), .val (.ref b2_0), .val (.ref b3_0), .val (.int z15), .val (.ref b5), .val (.int (p4 &&& (3 : Int32))), .val (.ref b7), .val (.int (1 : Int32)), .val (.int (1 : Int32))]) rfl ?_
    refine XS.aload X8.here hx rfl (hb hby at_250) rfl rfl ?_
    refine XS.aload X8.here hx rfl (hb hby at_252) rfl rfl ?_
    show Sp p e below T8 (mkF m 254 #[.val (.int p0), .val (.int p1), .val (.int p2), .val (.int p3), .val (.int p4), .val (.int (fx0 p2)), .val (.int (fx2 p2)), .val (.int (fx4 p2)), .val (.int z8), .val (.int z9), .val (.int (fx0 z9)), .val (.int (fx2 z9)), .val (.int (fx4 z9)), .val (.ref b2_0), .val (.ref b3_0), .val (.int z15), .val (.ref b5), .val (.int (p4 &&& (3 : Int32))), .val (.ref b7), .val (.int (1 : Int32)), .val (.int (1 : Int32))] [(.ref b7), (.ref b5)]) _
    refine st17.trans ?_
    show Sp p e below T17 (mkF m 257 #[.val (.int p0), .val (.int p1), .val (.int p2), .val (.int p3), .val (.int p4), .val (.int (fx0 p2)), .val (.int (fx2 p2)), .val (.int (fx4 p2)), .val (.int z8), .val (.int z9), .val (.int (fx0 z9)), .val (.int (fx2 z9)), .val (.int (fx4 z9)), .val (.ref b2_0), .val (.ref b3_0), .val (.int z15), .val (.ref b5), .val (.int (p4 &&& (3 : Int32))), .val (.ref b7), .val (.int (1 : Int32)), .val (.int (1 : Int32))] [(.int (1 : Int32))]) _
    refine XS.iload X17.here hx rfl (hb hby at_257) rfl ?_
    refine XS.icmpNo X17.here hx rfl (hb hby at_259) rfl (teq (by decide : (1 : Int32) = (1 : Int32))).2 ?_
    refine XS.iconst X17.here hx rfl (hb hby at_262) ?_
    refine XS.goto X17.here hx rfl (pc0 := 263) (pc' := 267) rfl (hb hby at_263) (by decide) (by decide) ?_
    show Sp p e below T17 (mkF m 267 #[.val (.int p0), .val (.int p1), .val (.int p2), .val (.int p3), .val (.int p4), .val (.int (fx0 p2)), .val (.int (fx2 p2)), .val (.int (fx4 p2)), .val (.int z8), .val (.int z9), .val (.int (fx0 z9)), .val (.int (fx2 z9)), .val (.int (fx4 z9)), .val (.ref b2_0), .val (.ref b3_0), .val (.int z15), .val (.ref b5), .val (.int (p4 &&& (3 : Int32))), .val (.ref b7), .val (.int (1 : Int32)), .val (.int (1 : Int32))] [(.int (1 : Int32))]) _
    exact retN X17 hx (t := .boolean) Bd.returns (by simp) (hb hby at_267) hr
  · skip
    exact ⟨rfl, N17⟩
set_option maxRecDepth 65536 in
set_option maxHeartbeats 40000000 in
theorem rm46 (l : Launch) (Z : State) (a0 : Array Value) (hw : ∀ d ∈ tables_1, d.before a0 Z = true) (ws : List Jvm.Cond) (cs_v : Int32) (hp : Perm Z cs_v) (p0 : Int32) (p1 : Int32) (p2 : Int32) (p3 : Int32) (p4 : Int32) (z8 : Int32) (z9 : Int32) (z15 : Int32) (h0 : Heap) (n0 : Nat) (O0 : Old Z n0 h0) (hcut28 : Cut_0_28 p0 p1 p2 p3 p4 ((p2 &&& (3 : Int32)) % (3 : Int32)) ((((p2.toUInt32 >>> ((2 : Int32) &&& 31).toUInt32).toInt32) &&& (255 : Int32)).toUInt32.toUInt16.toUInt32.toInt32) ((((p2.toUInt32 >>> ((10 : Int32) &&& 31).toUInt32).toInt32) &&& (255 : Int32)).toUInt32.toUInt16.toUInt32.toInt32) z8 z9) (hcut109 : Cut_0_109 p0 p1 p2 p3 p4 ((p2 &&& (3 : Int32)) % (3 : Int32)) ((((p2.toUInt32 >>> ((2 : Int32) &&& 31).toUInt32).toInt32) &&& (255 : Int32)).toUInt32.toUInt16.toUInt32.toInt32) ((((p2.toUInt32 >>> ((10 : Int32) &&& 31).toUInt32).toInt32) &&& (255 : Int32)).toUInt32.toUInt16.toUInt32.toInt32) z8 z9 ((z9 &&& (3 : Int32)) % (3 : Int32)) ((((z9.toUInt32 >>> ((2 : Int32) &&& 31).toUInt32).toInt32) &&& (255 : Int32)).toUInt32.toUInt16.toUInt32.toInt32) ((((z9.toUInt32 >>> ((10 : Int32) &&& 31).toUInt32).toInt32) &&& (255 : Int32)).toUInt32.toUInt16.toUInt32.toInt32) z15) (hc3 : ¬ ((p4 &&& (3 : Int32)) = (0 : Int32))) (hc4 : ¬ ((p4 &&& (3 : Int32)) = (1 : Int32))) (hc5 : ((p2 &&& (3 : Int32)) % (3 : Int32)) = ((z9 &&& (3 : Int32)) % (3 : Int32))) (hc6 : ¬ (((p2 &&& (3 : Int32)) % (3 : Int32)) < (1 : Int32))) (hc7 : ((((p2.toUInt32 >>> ((2 : Int32) &&& 31).toUInt32).toInt32) &&& (255 : Int32)).toUInt32.toUInt16.toUInt32.toInt32) = ((((z9.toUInt32 >>> ((2 : Int32) &&& 31).toUInt32).toInt32) &&& (255 : Int32)).toUInt32.toUInt16.toUInt32.toInt32)) (hc8 : ¬ (((p2 &&& (3 : Int32)) % (3 : Int32)) < (2 : Int32))) (hc9 : ¬ (((((p2.toUInt32 >>> ((10 : Int32) &&& 31).toUInt32).toInt32) &&& (255 : Int32)).toUInt32.toUInt16.toUInt32.toInt32) = ((((z9.toUInt32 >>> ((10 : Int32) &&& 31).toUInt32).toInt32) &&& (255 : Int32)).toUInt32.toUInt16.toUInt32.toInt32))) (hc10 : p0 = z15) :
    MetFree l x (head1 (Jvm.Cond.code x code maxLocals ret :: ws) room_1) (fun a U => a = #[(.int p0), (.int p1), (.int p2), (.int p3), (.int p4)] ∧ Z.Warmed39 U.vm ∧ U.heap = h0 ∧ CHv Z own_EL U.vm h0) (fun _ _ _ _ _ => True) (fun _ U o U' => ∃ v L, o = .returned v ∧ (v = some (.int (1 : Int32)) ∧ Fr n0 L) ∧ ReturnedEndW U o U' L 32 1152) := by
  refine MetFree.of_bodySF (plainFor_of_name pn_1) hisR ?_
  intro p e s m args below meth c s₁ Bd hml0 hP hK
  obtain ⟨rfl, hZo, hh, hCH⟩ := hP
  have hx := Bd.exec
  have hby := Bd.bytes
  have hml : c.maxLocals = 21 := hml0
  have hown : (s.setVm s.vm).vm.findClass "com/example/epcrtools/epcrtools/exchange/RuleSetKeyEqualsPinLaw" = some m.cls := findClass_of_methodNamed Bd.named
  have hnm := (name_of_methodNamed Bd.named Bd.method).1
  have X0 : Stand p l e room_1 (s.setVm s.vm) m #[(.int p0), (.int p1), (.int p2), (.int p3), (.int p4)] below meth c s₁ [] 0 0 := Stand.of_body Bd
  have e0 : s₁.heap = h0 := by rw [← hh, Bd.state]; rfl
  have N0 := Fr.nil n0
  have hZ : Z.Warmed39 (s.setVm s.vm).vm := hZo
  have CH0 := CHr.refl hCH
  have hS0 : s.Since s.vm 0 := (State.WarmedH.refl s).since 0
  have hk0 : 0 ≤ h0.size := Nat.zero_le _
  have hp' := hp
  obtain ⟨S_COMPACT_STRINGS, h_cs⟩ := hp'
  have pre0 : ∀ t, Steps p.tables e below (s₁.setTop (mkF m 0 #[.val (.int p0), .val (.int p1), .val (.int p2), .val (.int p3), .val (.int p4), .unset, .unset, .unset, .unset, .unset, .unset, .unset, .unset, .unset, .unset, .unset, .unset, .unset, .unset, .unset, .unset] [])) t → Steps p.tables e below (s₁.setTop (entryFrame m #[(.int p0), (.int p1), (.int p2), (.int p3), (.int p4)] maxLocals)) t := fun t k => castTop (ef_0_0 m p0 p1 p2 p3 p4) k
  have st1 := hcut28 X0 hx hZ hw hby hown
  obtain ⟨_, _, ⟨T2, L2, k2, n2⟩, -, XX2, Sq2, gq2, ⟨Lc2, hQ2, l2, y2, z2, C2⟩, st2⟩ := callSS X0 hx (y := y2) hown (mvT hZ (wq hw 0 rfl)) (mvT hZ (wq hw 1 rfl)) (mvT hZ (wq hw 2 rfl)) (mvT hZ (wq hw 3 rfl)) (by decide) (own_backC (SL := []) (W := 0) (rmS1 l Z a0 hw [] cs_v hp ((p2 &&& (3 : Int32)) % (3 : Int32)) ((((p2.toUInt32 >>> ((2 : Int32) &&& 31).toUInt32).toInt32) &&& (255 : Int32)).toUInt32.toUInt16.toUInt32.toInt32) ((((p2.toUInt32 >>> ((10 : Int32) &&& 31).toUInt32).toInt32) &&& (255 : Int32)).toUInt32.toUInt16.toUInt32.toInt32) h0 n0 O0 (own_ch2 ((p2.toUInt32 >>> ((2 : Int32) &&& 31).toUInt32).toInt32)) (own_ch2 ((p2.toUInt32 >>> ((10 : Int32) &&& 31).toUInt32).toInt32))) hZ (wq hw 3 rfl) (wq hw 2 rfl) (by decide) (by decide) (own_EW hw) CH0.1 all0) (g := (mkF m 93 #[.val (.int p0), .val (.int p1), .val (.int p2), .val (.int p3), .val (.int p4), .val (.int (fx0 p2)), .val (.int (fx2 p2)), .val (.int (fx4 p2)), .val (.int z8), .val (.int z9), .val (.int (fx0 z9)), .val (.int (fx2 z9)), .val (.int (fx4 z9)), .unset, .unset, .unset, .unset, .unset, .unset, .unset, .unset] [(.int (fx4 p2)), (.int (fx2 p2)), (.int (fx0 p2))])) rfl (by rw [hml]; rfl) (argsL := [(.int (fx0 p2)), (.int (fx2 p2)), (.int (fx4 p2))]) (rest := []) (lenOf pd_5 rfl) rfl (by show 2 * 0 + _ ≤ _; exact Nat.le_of_eq rfl) (hb hby at_93) (fun _ _ => ⟨rfl, e0, (by decide : 0 + 4 ≤ _), (by decide : 0 + 8 ≤ _)⟩)
  dsimp only [Pt.U, Pt.locs, Pt.cells, Pt.slots] at XX2 Sq2 gq2 l2 y2 z2 st2 hQ2 C2
  subst l2 y2 z2
  obtain ⟨X2, hS2, hZ2, hown2⟩ := rebS hS0 (by rw [e0]; exact hk0) XX2 Sq2 gq2 hZ hown
  obtain ⟨b2_0, y2_0, kc2_0, rfl, Nq2, Kq2, sq_b2_0, fq2_0, fq2_1, fq2_2, fq2_3⟩ := hQ2
  have N2 := Fr.app N0 Nq2
  have g_b2_0 : n0 ≤ b2_0 := Nat.le_trans (own_sz O0) sq_b2_0
  have sz_b2_0 : h0.size ≤ b2_0 := Nat.le_trans (Keep.refl h0 []).1 sq_b2_0
  have CH2 := CH0.trans C2
  have hk2 : T2.heap.size ≤ T2.heap.size := Nat.le_refl _
  have O2 := O0.keep Kq2 all0
  have K2 : Keep h0 T2.heap [] := (Keep.refl h0 []).trans Kq2 all0
  obtain ⟨_, _, ⟨T3, L3, k3, n3⟩, -, XX3, Sq3, gq3, ⟨Lc3, hQ3, l3, y3, z3, C3⟩, st3⟩ := callSS X2 hx (y := y2) hown2 (mvT hZ2 (wq hw 0 rfl)) (mvT hZ2 (wq hw 1 rfl)) (mvT hZ2 (wq hw 2 rfl)) (mvT hZ2 (wq hw 3 rfl)) (by decide) (own_backC (SL := []) (W := 0) (rmS1 l Z a0 hw [] cs_v hp ((z9 &&& (3 : Int32)) % (3 : Int32)) ((((z9.toUInt32 >>> ((2 : Int32) &&& 31).toUInt32).toInt32) &&& (255 : Int32)).toUInt32.toUInt16.toUInt32.toInt32) ((((z9.toUInt32 >>> ((10 : Int32) &&& 31).toUInt32).toInt32) &&& (255 : Int32)).toUInt32.toUInt16.toUInt32.toInt32) T2.heap n0 O2 (own_ch2 ((z9.toUInt32 >>> ((2 : Int32) &&& 31).toUInt32).toInt32)) (own_ch2 ((z9.toUInt32 >>> ((10 : Int32) &&& 31).toUInt32).toInt32))) hZ2 (wq hw 3 rfl) (wq hw 2 rfl) (by decide) (by decide) (own_EW hw) CH2.1 all0) (g := (mkF m 104 #[.val (.int p0), .val (.int p1), .val (.int p2), .val (.int p3), .val (.int p4), .val (.int (fx0 p2)), .val (.int (fx2 p2)), .val (.int (fx4 p2)), .val (.int z8), .val (.int z9), .val (.int (fx0 z9)), .val (.int (fx2 z9)), .val (.int (fx4 z9)), .val (.ref b2_0), .unset, .unset, .unset, .unset, .unset, .unset, .unset] [(.int (fx4 z9)), (.int (fx2 z9)), (.int (fx0 z9))])) rfl (by rw [hml]; rfl) (argsL := [(.int (fx0 z9)), (.int (fx2 z9)), (.int (fx4 z9))]) (rest := []) (lenOf pd_5 rfl) rfl (by show 2 * 0 + _ ≤ _; exact Nat.le_of_eq rfl) (hb hby at_104) (fun _ _ => ⟨rfl, rfl, (by decide : 4 + 4 ≤ _), (by decide : 8 + 8 ≤ _)⟩)
  dsimp only [Pt.U, Pt.locs, Pt.cells, Pt.slots] at XX3 Sq3 gq3 l3 y3 z3 st3 hQ3 C3
  subst l3 y3 z3
  obtain ⟨X3, hS3, hZ3, hown3⟩ := rebS hS2 hk2 XX3 Sq3 gq3 hZ2 hown2
  obtain ⟨b3_0, y3_0, kc3_0, rfl, Nq3, Kq3, sq_b3_0, fq3_0, fq3_1, fq3_2, fq3_3⟩ := hQ3
  have N3 := Fr.app N2 Nq3
  have g_b3_0 : n0 ≤ b3_0 := Nat.le_trans (own_sz O2) sq_b3_0
  have sz_b3_0 : h0.size ≤ b3_0 := Nat.le_trans K2.1 sq_b3_0
  have CH3 := CH2.trans C3
  have hk3 : T3.heap.size ≤ T3.heap.size := Nat.le_refl _
  have O3 := O2.keep Kq3 all0
  have K3 : Keep h0 T3.heap [] := K2.trans Kq3 all0
  have st4 := hcut109 b2_0 b3_0 X3 hx hZ3 hw hby hown3
  obtain ⟨T5, h5, X5, e5, E5, A5, D5, -, st5⟩ := newO X3 hx hZ3 hown3 (wq hw 34 rfl) (wq hw 35 rfl) (wq hw 36 rfl) rfl (g := (mkF m 125 #[.val (.int p0), .val (.int p1), .val (.int p2), .val (.int p3), .val (.int p4), .val (.int (fx0 p2)), .val (.int (fx2 p2)), .val (.int (fx4 p2)), .val (.int z8), .val (.int z9), .val (.int (fx0 z9)), .val (.int (fx2 z9)), .val (.int (fx4 z9)), .val (.ref b2_0), .val (.ref b3_0), .val (.int z15), .unset, .unset, .unset, .unset, .unset] [])) rfl (hb hby at_125) (by decide) (by decide)
  obtain ⟨b5, g5⟩ : ∃ z, z = T3.heap.size := ⟨_, rfl⟩
  rw [← g5] at A5 D5 st5
  have g_b5 : n0 ≤ b5 := Nat.le_trans (own_sz O3) (Nat.le_of_eq g5.symm)
  have sz_b5 : h0.size ≤ b5 := Nat.le_trans K3.1 (Nat.le_of_eq g5.symm)
  have O5 := O3.ext E5
  have K5 : Keep h0 h5 [] := K3.ext E5
  have CH5 := CH3.trans (CHr.ext E5 CH3.1)
  have hk5 := Nat.le_trans hk3 E5.1
  have F_dataSchema_b5 : Fld Z h5 b5 "com/example/epcrtools/epcrtools/exchange/RuleSetKey" "dataSchema" "I" (.int (0 : Int32)) := D5 (Or.inr (wq hw 42 rfl)) (ty := .int) (by decide)
  have F_schemaVersion_b5 : Fld Z h5 b5 "com/example/epcrtools/epcrtools/exchange/RuleSetKey" "schemaVersion" "Ljava/lang/String;" .null := D5 (Or.inr (wq hw 49 rfl)) (ty := (.object "java/lang/String")) (by decide)
  obtain ⟨_, _, ⟨T6, L6, k6, n6⟩, -, X6, ⟨Lc6, hQ6, l6, y6, z6⟩, st6⟩ := X5.specialBack hx (y := y7) rfl hown3 (mvT hZ3 (wq hw 37 rfl)) (mvT hZ3 (wq hw 38 rfl)) (mvT hZ3 (wq hw 39 rfl)) (by decide) (backOf (W := 1) (rm17 l Z a0 hw [] cs_v hp b5 p0 b2_0 h5 n0 O5 A5 F_dataSchema_b5 F_schemaVersion_b5 g_b5 ((fq2_0.keep Kq3).ext E5)) hZ3 (wq hw 39 rfl) (wq hw 36 rfl) (by decide) (by decide)) (g := (mkF m 132 #[.val (.int p0), .val (.int p1), .val (.int p2), .val (.int p3), .val (.int p4), .val (.int (fx0 p2)), .val (.int (fx2 p2)), .val (.int (fx4 p2)), .val (.int z8), .val (.int z9), .val (.int (fx0 z9)), .val (.int (fx2 z9)), .val (.int (fx4 z9)), .val (.ref b2_0), .val (.ref b3_0), .val (.int z15), .unset, .unset, .unset, .unset, .unset] [(.ref b2_0), (.int p0), (.ref b5), (.ref b5)])) rfl (by rw [hml]; rfl) (Steps.refl _) (a := b5) (argsL := [(.int p0), (.ref b2_0)]) (rest := [(.ref b5)]) (lenOf pd_7 rfl) rfl (by show 2 * 0 + _ ≤ _; exact Nat.le_of_eq rfl) (hb hby at_132) (fun _ _ => ⟨rfl, e5, (by decide : 9 + 0 ≤ _), (by decide : 18 + 0 ≤ _)⟩)
  dsimp only [Pt.U, Pt.locs, Pt.cells, Pt.slots] at X6 l6 y6 z6 st6 hQ6
  subst l6 y6 z6
  obtain ⟨rfl, Nq6, Kq6, fq6_0, fq6_1, fq6_2⟩ := hQ6
  have N6 := Fr.app N3 Nq6
  have CH6 := CH5.trans (CHr.keep Kq6 (allS (Safe.exa hZ3.alike A5 (by decide) (by decide)) all0) CH5.1)
  have hk6 := Nat.le_trans hk5 Kq6.1
  have O6 := O5.keep Kq6 (allS g_b5 all0)
  have K6 : Keep h0 T6.heap [] := K5.trans Kq6 (allS (Or.inr sz_b5) all0)
  obtain ⟨T7, h7, X7, e7, E7, A7, D7, -, st7⟩ := newO X6 hx hZ3 hown3 (wq hw 34 rfl) (wq hw 35 rfl) (wq hw 36 rfl) rfl (g := (mkF m 167 #[.val (.int p0), .val (.int p1), .val (.int p2), .val (.int p3), .val (.int p4), .val (.int (fx0 p2)), .val (.int (fx2 p2)), .val (.int (fx4 p2)), .val (.int z8), .val (.int z9), .val (.int (fx0 z9)), .val (.int (fx2 z9)), .val (.int (fx4 z9)), .val (.ref b2_0), .val (.ref b3_0), .val (.int z15), .val (.ref b5), .val (.int (p4 &&& (3 : Int32))), .unset, .unset, .unset] [])) rfl (hb hby at_167) (by decide) (by decide)
  obtain ⟨b7, g7⟩ : ∃ z, z = T6.heap.size := ⟨_, rfl⟩
  rw [← g7] at A7 D7 st7
  have g_b7 : n0 ≤ b7 := Nat.le_trans (own_sz O6) (Nat.le_of_eq g7.symm)
  have sz_b7 : h0.size ≤ b7 := Nat.le_trans K6.1 (Nat.le_of_eq g7.symm)
  have O7 := O6.ext E7
  have K7 : Keep h0 h7 [] := K6.ext E7
  have CH7 := CH6.trans (CHr.ext E7 CH6.1)
  have hk7 := Nat.le_trans hk6 E7.1
  have F_dataSchema_b7 : Fld Z h7 b7 "com/example/epcrtools/epcrtools/exchange/RuleSetKey" "dataSchema" "I" (.int (0 : Int32)) := D7 (Or.inr (wq hw 42 rfl)) (ty := .int) (by decide)
  have F_schemaVersion_b7 : Fld Z h7 b7 "com/example/epcrtools/epcrtools/exchange/RuleSetKey" "schemaVersion" "Ljava/lang/String;" .null := D7 (Or.inr (wq hw 49 rfl)) (ty := (.object "java/lang/String")) (by decide)
  obtain ⟨_, _, ⟨T8, L8, k8, n8⟩, -, X8, ⟨Lc8, hQ8, l8, y8, z8⟩, st8⟩ := X7.specialBack hx (y := y7) rfl hown3 (mvT hZ3 (wq hw 37 rfl)) (mvT hZ3 (wq hw 38 rfl)) (mvT hZ3 (wq hw 39 rfl)) (by decide) (backOf (W := 1) (rm17 l Z a0 hw [] cs_v hp b7 z15 b3_0 h7 n0 O7 A7 F_dataSchema_b7 F_schemaVersion_b7 g_b7 (((fq3_0.ext E5).keep Kq6).ext E7)) hZ3 (wq hw 39 rfl) (wq hw 36 rfl) (by decide) (by decide)) (g := (mkF m 175 #[.val (.int p0), .val (.int p1), .val (.int p2), .val (.int p3), .val (.int p4), .val (.int (fx0 p2)), .val (.int (fx2 p2)), .val (.int (fx4 p2)), .val (.int z8), .val (.int z9), .val (.int (fx0 z9)), .val (.int (fx2 z9)), .val (.int (fx4 z9)), .val (.ref b2_0), .val (.ref b3_0), .val (.int z15), .val (.ref b5), .val (.int (p4 &&& (3 : Int32))), .unset, .unset, .unset] [(.ref b3_0), (.int z15), (.ref b7), (.ref b7)])) rfl (by rw [hml]; rfl) (Steps.refl _) (a := b7) (argsL := [(.int z15), (.ref b3_0)]) (rest := [(.ref b7)]) (lenOf pd_7 rfl) rfl (by show 2 * 0 + _ ≤ _; exact Nat.le_of_eq rfl) (hb hby at_175) (fun _ _ => ⟨rfl, e7, (by decide : 10 + 0 ≤ _), (by decide : 20 + 0 ≤ _)⟩)
  dsimp only [Pt.U, Pt.locs, Pt.cells, Pt.slots] at X8 l8 y8 z8 st8 hQ8
  subst l8 y8 z8
  obtain ⟨rfl, Nq8, Kq8, fq8_0, fq8_1, fq8_2⟩ := hQ8
  have N8 := Fr.app N6 Nq8
  have CH8 := CH7.trans (CHr.keep Kq8 (allS (Safe.exa hZ3.alike A7 (by decide) (by decide)) all0) CH7.1)
  have hk8 := Nat.le_trans hk7 Kq8.1
  have O8 := O7.keep Kq8 (allS g_b7 all0)
  have K8 : Keep h0 T8.heap [] := K7.trans Kq8 (allS (Or.inr sz_b7) all0)
  have f_9 := ((fq6_1.ext E7).keep Kq8 (ninS (Nat.ne_of_lt (Nat.lt_of_lt_of_le (A5.keep Kq6).lt (Nat.le_of_eq g7.symm))) nin0))
  have f_10 := ((fq6_2.ext E7).keep Kq8 (ninS (Nat.ne_of_lt (Nat.lt_of_lt_of_le (A5.keep Kq6).lt (Nat.le_of_eq g7.symm))) nin0))
  have f_11 := (((((fq2_1.keep Kq3 nin0).ext E5).keep Kq6 (ninS (Nat.ne_of_lt (Nat.lt_of_lt_of_le (fq2_0.keep Kq3).lt (Nat.le_of_eq g5.symm))) nin0)).ext E7).keep Kq8 (ninS (Nat.ne_of_lt (Nat.lt_of_lt_of_le (((fq2_0.keep Kq3).ext E5).keep Kq6).lt (Nat.le_of_eq g7.symm))) nin0))
  have f_12 := ((((fq3_1.ext E5).keep Kq6 (ninS (Nat.ne_of_lt (Nat.lt_of_lt_of_le fq3_0.lt (Nat.le_of_eq g5.symm))) nin0)).ext E7).keep Kq8 (ninS (Nat.ne_of_lt (Nat.lt_of_lt_of_le ((fq3_0.ext E5).keep Kq6).lt (Nat.le_of_eq g7.symm))) nin0))
  have f_13 := (((((fq2_2.keep Kq3 nin0).ext E5).keep Kq6 (ninS (Nat.ne_of_lt (Nat.lt_of_lt_of_le (fq2_0.keep Kq3).lt (Nat.le_of_eq g5.symm))) nin0)).ext E7).keep Kq8 (ninS (Nat.ne_of_lt (Nat.lt_of_lt_of_le (((fq2_0.keep Kq3).ext E5).keep Kq6).lt (Nat.le_of_eq g7.symm))) nin0))
  have f_14 := ((((fq3_2.ext E5).keep Kq6 (ninS (Nat.ne_of_lt (Nat.lt_of_lt_of_le fq3_0.lt (Nat.le_of_eq g5.symm))) nin0)).ext E7).keep Kq8 (ninS (Nat.ne_of_lt (Nat.lt_of_lt_of_le ((fq3_0.ext E5).keep Kq6).lt (Nat.le_of_eq g7.symm))) nin0))
  have f_15 := (((((fq2_3.keep Kq3 nin0).ext E5).keep Kq6 (ninS (Nat.ne_of_lt (Nat.lt_of_lt_of_le (fq2_3.keep Kq3 nin0).lt (Nat.le_of_eq g5.symm))) nin0)).ext E7).keep Kq8 (ninS (Nat.ne_of_lt (Nat.lt_of_lt_of_le (((fq2_3.keep Kq3 nin0).ext E5).keep Kq6 (ninS (Nat.ne_of_lt (Nat.lt_of_lt_of_le (fq2_3.keep Kq3 nin0).lt (Nat.le_of_eq g5.symm))) nin0)).lt (Nat.le_of_eq g7.symm))) nin0))
  have f_16 := ((((fq3_3.ext E5).keep Kq6 (ninS (Nat.ne_of_lt (Nat.lt_of_lt_of_le fq3_3.lt (Nat.le_of_eq g5.symm))) nin0)).ext E7).keep Kq8 (ninS (Nat.ne_of_lt (Nat.lt_of_lt_of_le ((fq3_3.ext E5).keep Kq6 (ninS (Nat.ne_of_lt (Nat.lt_of_lt_of_le fq3_3.lt (Nat.le_of_eq g5.symm))) nin0)).lt (Nat.le_of_eq g7.symm))) nin0))
  obtain ⟨cq17, kq17, q17a, q17b, q17c⟩ := isOf hZ3 rfl ((fq6_0.ext E7).keep Kq8)
  obtain ⟨_, _, ⟨T17, L17, k17, n17⟩, -, X17, ⟨Lc17, hQ17, l17, y17, z17⟩, st17⟩ := X8.virtualBack hx (y := y8) (z := y8) hown3 (mvT hZ3 (wq hw 50 rfl)) (mvT hZ3 (wq hw 51 rfl)) (notFace_of_selects (args := #[]) (mvT hZ3 (wq hw 53 rfl))) (mvT hZ3 (wq hw 53 rfl)) (mvT hZ3 (wq hw 52 rfl)) (by decide) (backOf (W := 0) (rm38 l Z a0 hw [] cs_v hp b5 b7 p0 z15 b2_0 b3_0 y2_0 y3_0 kc2_0 ((p2 &&& (3 : Int32)) % (3 : Int32)) ((((p2.toUInt32 >>> ((2 : Int32) &&& 31).toUInt32).toInt32) &&& (255 : Int32)).toUInt32.toUInt16.toUInt32.toInt32) ((((p2.toUInt32 >>> ((10 : Int32) &&& 31).toUInt32).toInt32) &&& (255 : Int32)).toUInt32.toUInt16.toUInt32.toInt32) kc3_0 ((z9 &&& (3 : Int32)) % (3 : Int32)) ((((z9.toUInt32 >>> ((2 : Int32) &&& 31).toUInt32).toInt32) &&& (255 : Int32)).toUInt32.toUInt16.toUInt32.toInt32) ((((z9.toUInt32 >>> ((10 : Int32) &&& 31).toUInt32).toInt32) &&& (255 : Int32)).toUInt32.toUInt16.toUInt32.toInt32) T8.heap n0 O8 fq8_0 f_9 fq8_1 hc10 f_10 fq8_2 (((((fq2_0.keep Kq3).ext E5).keep Kq6).ext E7).keep Kq8) ((((fq3_0.ext E5).keep Kq6).ext E7).keep Kq8) f_11 f_12 f_13 f_14 f_15 f_16 (by rw [own_mkE (own_rem (x := p2) (m := (3 : Int32)) (M := 3) rfl (by decide) (y := (3 : Int32)) (d := 3) rfl (by decide)) (own_rem (x := z9) (m := (3 : Int32)) (M := 3) rfl (by decide) (y := (3 : Int32)) (d := 3) rfl (by decide)), if_neg (fun q => q.2.2.elim hc8 (fun z => hc9 (own_mkB.mp z)))] : (mkE ((p2 &&& (3 : Int32)) % (3 : Int32)) ((((p2.toUInt32 >>> ((2 : Int32) &&& 31).toUInt32).toInt32) &&& (255 : Int32)).toUInt32.toUInt16.toUInt32.toInt32) ((((p2.toUInt32 >>> ((10 : Int32) &&& 31).toUInt32).toInt32) &&& (255 : Int32)).toUInt32.toUInt16.toUInt32.toInt32) ((z9 &&& (3 : Int32)) % (3 : Int32)) ((((z9.toUInt32 >>> ((2 : Int32) &&& 31).toUInt32).toInt32) &&& (255 : Int32)).toUInt32.toUInt16.toUInt32.toInt32) ((((z9.toUInt32 >>> ((10 : Int32) &&& 31).toUInt32).toInt32) &&& (255 : Int32)).toUInt32.toUInt16.toUInt32.toInt32)) = (0 : Int32)) (Nat.ne_of_lt (Nat.lt_of_lt_of_le fq2_0.lt sq_b3_0))) hZ3 (wq hw 54 rfl) (wq hw 36 rfl) (by decide) (by decide)) q17a q17c (g := (mkF m 254 #[.val (.int p0), .val (.int p1), .val (.int p2), .val (.int p3), .val (.int p4), .val (.int (fx0 p2)), .val (.int (fx2 p2)), .val (.int (fx4 p2)), .val (.int z8), .val (.int z9), .val (.int (fx0 z9)), .val (.int (fx2 z9)), .val (.int (fx4 z9)), .val (.ref b2_0), .val (.ref b3_0), .val (.int z15), .val (.ref b5), .val (.int (p4 &&& (3 : Int32))), .val (.ref b7), .val (.int (0 : Int32)), .val (.int (0 : Int32))] [(.ref b7), (.ref b5)])) rfl (by rw [hml]; rfl) (Steps.refl _) (argsL := [(.ref b7)]) (rest := []) (lenOf pd_8 rfl) rfl (by show 2 * 0 + _ ≤ _; exact Nat.le_of_eq rfl) (hb hby at_254) (fun _ _ => ⟨rfl, rfl, (by decide : 10 + 0 ≤ _), (by decide : 20 + 0 ≤ _)⟩)
  dsimp only [Pt.U, Pt.locs, Pt.cells, Pt.slots] at X17 l17 y17 z17 st17 hQ17
  subst l17 y17 z17
  obtain ⟨rfl, Nq17, eq17⟩ := hQ17
  have N17 := Fr.app N8 Nq17
  obtain ⟨fs, hr, hrun, hended, hE⟩ := Stand.leaveW (s := s) X17 hS3 (by rw [eq17]; exact hk8) (v := some (.int (1 : Int32))) (fun h => by rw [Bd.returns] at h; cases h)
  refine ⟨_, _, pre0 _ ?_, hrun, hended, _, _, rfl, ?_, hE.1, hE.2.1, hE.2.2.1, hE.2.2.2.mono (by decide) (by decide)⟩
  · show Sp p e below s₁ (mkF m 0 #[.val (.int p0), .val (.int p1), .val (.int p2), .val (.int p3), .val (.int p4), .unset, .unset, .unset, .unset, .unset, .unset, .unset, .unset, .unset, .unset, .unset, .unset, .unset, .unset, .unset, .unset] []) _
    refine XS.iloadN X0.here hx rfl (hb hby at_0) rfl ?_
    refine XS.iconst X0.here hx rfl (hb hby at_1) ?_
    refine XS.iand X0.here hx rfl (hb hby at_2) rfl ?_
    refine XS.iconst X0.here hx rfl (hb hby at_3) ?_
    show Sp p e below s₁ (mkF m 4 #[.val (.int p0), .val (.int p1), .val (.int p2), .val (.int p3), .val (.int p4), .unset, .unset, .unset, .unset, .unset, .unset, .unset, .unset, .unset, .unset, .unset, .unset, .unset, .unset, .unset, .unset] [(.int (3 : Int32)), (.int (p2 &&& (3 : Int32)))]) _
    refine iremM X0 hx rfl (hb hby at_4) rfl (by decide) ?_
    show Sp p e below s₁ (mkF m 5 #[.val (.int p0), .val (.int p1), .val (.int p2), .val (.int p3), .val (.int p4), .unset, .unset, .unset, .unset, .unset, .unset, .unset, .unset, .unset, .unset, .unset, .unset, .unset, .unset, .unset, .unset] [(.int (fx0 p2))]) _
    refine XS.istore X0.here hx rfl (hb hby at_5) rfl (l' := #[.val (.int p0), .val (.int p1), .val (.int p2), .val (.int p3), .val (.int p4), .val (.int (fx0 p2)), .unset, .unset, .unset, .unset, .unset, .unset, .unset, .unset, .unset, .unset, .unset, .unset, .unset, .unset, .unset]) rfl ?_
    refine XS.iloadN X0.here hx rfl (hb hby at_7) rfl ?_
    refine XS.iconst X0.here hx rfl (hb hby at_8) ?_
    refine XS.iushr X0.here hx rfl (hb hby at_9) rfl ?_
    show Sp p e below s₁ (mkF m 10 #[.val (.int p0), .val (.int p1), .val (.int p2), .val (.int p3), .val (.int p4), .val (.int (fx0 p2)), .unset, .unset, .unset, .unset, .unset, .unset, .unset, .unset, .unset, .unset, .unset, .unset, .unset, .unset, .unset] [(.int (fx1 p2))]) _
    refine XS.sipush X0.here hx rfl (hb hby at_10) ?_
    refine XS.iand X0.here hx rfl (hb hby at_13) rfl ?_
    refine XS.i2c X0.here hx rfl (hb hby at_14) rfl ?_
    refine XS.istore X0.here hx rfl (hb hby at_15) rfl (l' := #[.val (.int p0), .val (.int p1), .val (.int p2), .val (.int p3), .val (.int p4), .val (.int (fx0 p2)), .val (.int (fx2 p2)), .unset, .unset, .unset, .unset, .unset, .unset, .unset, .unset, .unset, .unset, .unset, .unset, .unset, .unset]) rfl ?_
    show Sp p e below s₁ (mkF m 17 #[.val (.int p0), .val (.int p1), .val (.int p2), .val (.int p3), .val (.int p4), .val (.int (fx0 p2)), .val (.int (fx2 p2)), .unset, .unset, .unset, .unset, .unset, .unset, .unset, .unset, .unset, .unset, .unset, .unset, .unset, .unset] []) _
    refine XS.iloadN X0.here hx rfl (hb hby at_17) rfl ?_
    refine XS.bipush X0.here hx rfl (hb hby at_18) ?_
    refine XS.iushr X0.here hx rfl (hb hby at_20) rfl ?_
    refine XS.sipush X0.here hx rfl (hb hby at_21) ?_
    show Sp p e below s₁ (mkF m 24 #[.val (.int p0), .val (.int p1), .val (.int p2), .val (.int p3), .val (.int p4), .val (.int (fx0 p2)), .val (.int (fx2 p2)), .unset, .unset, .unset, .unset, .unset, .unset, .unset, .unset, .unset, .unset, .unset, .unset, .unset, .unset] [(.int (255 : Int32)), (.int (fx3 p2))]) _
    refine XS.iand X0.here hx rfl (hb hby at_24) rfl ?_
    refine XS.i2c X0.here hx rfl (hb hby at_25) rfl ?_
    refine XS.istore X0.here hx rfl (hb hby at_26) rfl (l' := #[.val (.int p0), .val (.int p1), .val (.int p2), .val (.int p3), .val (.int p4), .val (.int (fx0 p2)), .val (.int (fx2 p2)), .val (.int (fx4 p2)), .unset, .unset, .unset, .unset, .unset, .unset, .unset, .unset, .unset, .unset, .unset, .unset, .unset]) rfl ?_
    show Sp p e below s₁ (mkF m 28 #[.val (.int p0), .val (.int p1), .val (.int p2), .val (.int p3), .val (.int p4), .val (.int (fx0 p2)), .val (.int (fx2 p2)), .val (.int (fx4 p2)), .unset, .unset, .unset, .unset, .unset, .unset, .unset, .unset, .unset, .unset, .unset, .unset, .unset] []) _
    refine st1 _ ?_
    show Sp p e below s₁ (mkF m 56 #[.val (.int p0), .val (.int p1), .val (.int p2), .val (.int p3), .val (.int p4), .val (.int (fx0 p2)), .val (.int (fx2 p2)), .val (.int (fx4 p2)), .val (.int z8), .val (.int z9), .unset, .unset, .unset, .unset, .unset, .unset, .unset, .unset, .unset, .unset, .unset] []) _
    refine XS.iload X0.here hx rfl (hb hby at_56) rfl ?_
    refine XS.iconst X0.here hx rfl (hb hby at_58) ?_
    refine XS.iand X0.here hx rfl (hb hby at_59) rfl ?_
    refine XS.iconst X0.here hx rfl (hb hby at_60) ?_
    show Sp p e below s₁ (mkF m 61 #[.val (.int p0), .val (.int p1), .val (.int p2), .val (.int p3), .val (.int p4), .val (.int (fx0 p2)), .val (.int (fx2 p2)), .val (.int (fx4 p2)), .val (.int z8), .val (.int z9), .unset, .unset, .unset, .unset, .unset, .unset, .unset, .unset, .unset, .unset, .unset] [(.int (3 : Int32)), (.int (z9 &&& (3 : Int32)))]) _
    refine iremM X0 hx rfl (hb hby at_61) rfl (by decide) ?_
    show Sp p e below s₁ (mkF m 62 #[.val (.int p0), .val (.int p1), .val (.int p2), .val (.int p3), .val (.int p4), .val (.int (fx0 p2)), .val (.int (fx2 p2)), .val (.int (fx4 p2)), .val (.int z8), .val (.int z9), .unset, .unset, .unset, .unset, .unset, .unset, .unset, .unset, .unset, .unset, .unset] [(.int (fx0 z9))]) _
    refine XS.istore X0.here hx rfl (hb hby at_62) rfl (l' := #[.val (.int p0), .val (.int p1), .val (.int p2), .val (.int p3), .val (.int p4), .val (.int (fx0 p2)), .val (.int (fx2 p2)), .val (.int (fx4 p2)), .val (.int z8), .val (.int z9), .val (.int (fx0 z9)), .unset, .unset, .unset, .unset, .unset, .unset, .unset, .unset, .unset, .unset]) rfl ?_
    refine XS.iload X0.here hx rfl (hb hby at_64) rfl ?_
    refine XS.iconst X0.here hx rfl (hb hby at_66) ?_
    refine XS.iushr X0.here hx rfl (hb hby at_67) rfl ?_
    show Sp p e below s₁ (mkF m 68 #[.val (.int p0), .val (.int p1), .val (.int p2), .val (.int p3), .val (.int p4), .val (.int (fx0 p2)), .val (.int (fx2 p2)), .val (.int (fx4 p2)), .val (.int z8), .val (.int z9), .val (.int (fx0 z9)), .unset, .unset, .unset, .unset, .unset, .unset, .unset, .unset, .unset, .unset] [(.int (fx1 z9))]) _
    refine XS.sipush X0.here hx rfl (hb hby at_68) ?_
    refine XS.iand X0.here hx rfl (hb hby at_71) rfl ?_
    refine XS.i2c X0.here hx rfl (hb hby at_72) rfl ?_
    refine XS.istore X0.here hx rfl (hb hby at_73) rfl (l' := #[.val (.int p0), .val (.int p1), .val (.int p2), .val (.int p3), .val (.int p4), .val (.int (fx0 p2)), .val (.int (fx2 p2)), .val (.int (fx4 p2)), .val (.int z8), .val (.int z9), .val (.int (fx0 z9)), .val (.int (fx2 z9)), .unset, .unset, .unset, .unset, .unset, .unset, .unset, .unset, .unset]) rfl ?_
    show Sp p e below s₁ (mkF m 75 #[.val (.int p0), .val (.int p1), .val (.int p2), .val (.int p3), .val (.int p4), .val (.int (fx0 p2)), .val (.int (fx2 p2)), .val (.int (fx4 p2)), .val (.int z8), .val (.int z9), .val (.int (fx0 z9)), .val (.int (fx2 z9)), .unset, .unset, .unset, .unset, .unset, .unset, .unset, .unset, .unset] []) _
    refine XS.iload X0.here hx rfl (hb hby at_75) rfl ?_
    refine XS.bipush X0.here hx rfl (hb hby at_77) ?_
    refine XS.iushr X0.here hx rfl (hb hby at_79) rfl ?_
    refine XS.sipush X0.here hx rfl (hb hby at_80) ?_
    show Sp p e below s₁ (mkF m 83 #[.val (.int p0), .val (.int p1), .val (.int p2), .val (.int p3), .val (.int p4), .val (.int (fx0 p2)), .val (.int (fx2 p2)), .val (.int (fx4 p2)), .val (.int z8), .val (.int z9), .val (.int (fx0 z9)), .val (.int (fx2 z9)), .unset, .unset, .unset, .unset, .unset, .unset, .unset, .unset, .unset] [(.int (255 : Int32)), (.int (fx3 z9))]) _
    refine XS.iand X0.here hx rfl (hb hby at_83) rfl ?_
    refine XS.i2c X0.here hx rfl (hb hby at_84) rfl ?_
    refine XS.istore X0.here hx rfl (hb hby at_85) rfl (l' := #[.val (.int p0), .val (.int p1), .val (.int p2), .val (.int p3), .val (.int p4), .val (.int (fx0 p2)), .val (.int (fx2 p2)), .val (.int (fx4 p2)), .val (.int z8), .val (.int z9), .val (.int (fx0 z9)), .val (.int (fx2 z9)), .val (.int (fx4 z9)), .unset, .unset, .unset, .unset, .unset, .unset, .unset, .unset]) rfl ?_
    refine XS.iload X0.here hx rfl (hb hby at_87) rfl ?_
    show Sp p e below s₁ (mkF m 89 #[.val (.int p0), .val (.int p1), .val (.int p2), .val (.int p3), .val (.int p4), .val (.int (fx0 p2)), .val (.int (fx2 p2)), .val (.int (fx4 p2)), .val (.int z8), .val (.int z9), .val (.int (fx0 z9)), .val (.int (fx2 z9)), .val (.int (fx4 z9)), .unset, .unset, .unset, .unset, .unset, .unset, .unset, .unset] [(.int (fx0 p2))]) _
    refine XS.iload X0.here hx rfl (hb hby at_89) rfl ?_
    refine XS.iload X0.here hx rfl (hb hby at_91) rfl ?_
    show Sp p e below s₁ (mkF m 93 #[.val (.int p0), .val (.int p1), .val (.int p2), .val (.int p3), .val (.int p4), .val (.int (fx0 p2)), .val (.int (fx2 p2)), .val (.int (fx4 p2)), .val (.int z8), .val (.int z9), .val (.int (fx0 z9)), .val (.int (fx2 z9)), .val (.int (fx4 z9)), .unset, .unset, .unset, .unset, .unset, .unset, .unset, .unset] [(.int (fx4 p2)), (.int (fx2 p2)), (.int (fx0 p2))]) _
    refine st2.trans ?_
    show Sp p e below T2 (mkF m 96 #[.val (.int p0), .val (.int p1), .val (.int p2), .val (.int p3), .val (.int p4), .val (.int (fx0 p2)), .val (.int (fx2 p2)), .val (.int (fx4 p2)), .val (.int z8), .val (.int z9), .val (.int (fx0 z9)), .val (.int (fx2 z9)), .val (.int (fx4 z9)), .unset, .unset, .unset, .unset, .unset, .unset, .unset, .unset] [(.ref b2_0)]) _
    refine XS.astore X2.here hx rfl (hb hby at_96) rfl rfl (l' := #[.val (.int p0), .val (.int p1), .val (.int p2), .val (.int p3), .val (.int p4), .val (.int (fx0 p2)), .val (.int (fx2 p2)), .val (.int (fx4 p2)), .val (.int z8), .val (.int z9), .val (.int (fx0 z9)), .val (.int (fx2 z9)), .val (.int (fx4 z9)), .val (.ref b2_0), .unset, .unset, .unset, .unset, .unset, .unset, .unset]) rfl ?_
    refine XS.iload X2.here hx rfl (hb hby at_98) rfl ?_
    refine XS.iload X2.here hx rfl (hb hby at_100) rfl ?_
    refine XS.iload X2.here hx rfl (hb hby at_102) rfl ?_
    show Sp p e below T2 (mkF m 104 #[.val (.int p0), .val (.int p1), .val (.int p2), .val (.int p3), .val (.int p4), .val (.int (fx0 p2)), .val (.int (fx2 p2)), .val (.int (fx4 p2)), .val (.int z8), .val (.int z9), .val (.int (fx0 z9)), .val (.int (fx2 z9)), .val (.int (fx4 z9)), .val (.ref b2_0), .unset, .unset, .unset, .unset, .unset, .unset, .unset] [(.int (fx4 z9)), (.int (fx2 z9)), (.int (fx0 z9))]) _
    refine st3.trans ?_
    show Sp p e below T3 (mkF m 107 #[.val (.int p0), .val (.int p1), .val (.int p2), .val (.int p3), .val (.int p4), .val (.int (fx0 p2)), .val (.int (fx2 p2)), .val (.int (fx4 p2)), .val (.int z8), .val (.int z9), .val (.int (fx0 z9)), .val (.int (fx2 z9)), .val (.int (fx4 z9)), .val (.ref b2_0), .unset, .unset, .unset, .unset, .unset, .unset, .unset] [(.ref b3_0)]) _
    refine XS.astore X3.here hx rfl (hb hby at_107) rfl rfl (l' := #[.val (.int p0), .val (.int p1), .val (.int p2), .val (.int p3), .val (.int p4), .val (.int (fx0 p2)), .val (.int (fx2 p2)), .val (.int (fx4 p2)), .val (.int z8), .val (.int z9), .val (.int (fx0 z9)), .val (.int (fx2 z9)), .val (.int (fx4 z9)), .val (.ref b2_0), .val (.ref b3_0), .unset, .unset, .unset, .unset, .unset, .unset]) rfl ?_
    show Sp p e below T3 (mkF m 109 #[.val (.int p0), .val (.int p1), .val (.int p2), .val (.int p3), .val (.int p4), .val (.int (fx0 p2)), .val (.int (fx2 p2)), .val (.int (fx4 p2)), .val (.int z8), .val (.int z9), .val (.int (fx0 z9)), .val (.int (fx2 z9)), .val (.int (fx4 z9)), .val (.ref b2_0), .val (.ref b3_0), .unset, .unset, .unset, .unset, .unset, .unset] []) _
    refine st4 _ ?_
    show Sp p e below T3 (mkF m 125 #[.val (.int p0), .val (.int p1), .val (.int p2), .val (.int p3), .val (.int p4), .val (.int (fx0 p2)), .val (.int (fx2 p2)), .val (.int (fx4 p2)), .val (.int z8), .val (.int z9), .val (.int (fx0 z9)), .val (.int (fx2 z9)), .val (.int (fx4 z9)), .val (.ref b2_0), .val (.ref b3_0), .val (.int z15), .unset, .unset, .unset, .unset, .unset] []) _
    refine st5 _ ?_
    show Sp p e below T5 (mkF m 128 #[.val (.int p0), .val (.int p1), .val (.int p2), .val (.int p3), .val (.int p4), .val (.int (fx0 p2)), .val (.int (fx2 p2)), .val (.int (fx4 p2)), .val (.int z8), .val (.int z9), .val (.int (fx0 z9)), .val (.int (fx2 z9)), .val (.int (fx4 z9)), .val (.ref b2_0), .val (.ref b3_0), .val (.int z15), .unset, .unset, .unset, .unset, .unset] [(.ref b5)]) _
    refine XS.dup X5.here hx rfl (hb hby at_128) rfl rfl ?_
    refine XS.iloadN X5.here hx rfl (hb hby at_129) rfl ?_
    refine XS.aload X5.here hx rfl (hb hby at_130) rfl rfl ?_
    show Sp p e below T5 (mkF m 132 #[.val (.int p0), .val (.int p1), .val (.int p2), .val (.int p3), .val (.int p4), .val (.int (fx0 p2)), .val (.int (fx2 p2)), .val (.int (fx4 p2)), .val (.int z8), .val (.int z9), .val (.int (fx0 z9)), .val (.int (fx2 z9)), .val (.int (fx4 z9)), .val (.ref b2_0), .val (.ref b3_0), .val (.int z15), .unset, .unset, .unset, .unset, .unset] [(.ref b2_0), (.int p0), (.ref b5), (.ref b5)]) _
    refine st6.trans ?_
    show Sp p e below T6 (mkF m 135 #[.val (.int p0), .val (.int p1), .val (.int p2), .val (.int p3), .val (.int p4), .val (.int (fx0 p2)), .val (.int (fx2 p2)), .val (.int (fx4 p2)), .val (.int z8), .val (.int z9), .val (.int (fx0 z9)), .val (.int (fx2 z9)), .val (.int (fx4 z9)), .val (.ref b2_0), .val (.ref b3_0), .val (.int z15), .unset, .unset, .unset, .unset, .unset] [(.ref b5)]) _
    refine XS.astore X6.here hx rfl (hb hby at_135) rfl rfl (l' := #[.val (.int p0), .val (.int p1), .val (.int p2), .val (.int p3), .val (.int p4), .val (.int (fx0 p2)), .val (.int (fx2 p2)), .val (.int (fx4 p2)), .val (.int z8), .val (.int z9), .val (.int (fx0 z9)), .val (.int (fx2 z9)), .val (.int (fx4 z9)), .val (.ref b2_0), .val (.ref b3_0), .val (.int z15), .val (.ref b5), .unset, .unset, .unset, .unset]) rfl ?_
    refine XS.iload X6.here hx rfl (hb hby at_137) rfl ?_
    refine XS.iconst X6.here hx rfl (hb hby at_139) ?_
    refine XS.iand X6.here hx rfl (hb hby at_140) rfl ?_
    show Sp p e below T6 (mkF m 141 #[.val (.int p0), .val (.int p1), .val (.int p2), .val (.int p3), .val (.int p4), .val (.int (fx0 p2)), .val (.int (fx2 p2)), .val (.int (fx4 p2)), .val (.int z8), .val (.int z9), .val (.int (fx0 z9)), .val (.int (fx2 z9)), .val (.int (fx4 z9)), .val (.ref b2_0), .val (.ref b3_0), .val (.int z15), .val (.ref b5), .unset, .unset, .unset, .unset] [(.int (p4 &&& (3 : Int32)))]) _
    refine XS.istore X6.here hx rfl (hb hby at_141) rfl (l' := #[.val (.int p0), .val (.int p1), .val (.int p2), .val (.int p3), .val (.int p4), .val (.int (fx0 p2)), .val (.int (fx2 p2)), .val (.int (fx4 p2)), .val (.int z8), .val (.int z9), .val (.int (fx0 z9)), .val (.int (fx2 z9)), .val (.int (fx4 z9)), .val (.ref b2_0), .val (.ref b3_0), .val (.int z15), .val (.ref b5), .val (.int (p4 &&& (3 : Int32))), .unset, .unset, .unset]) rfl ?_
    refine XS.iload X6.here hx rfl (hb hby at_143) rfl ?_
    refine XS.ifYes X6.here hx rfl (pc0 := 145) (pc' := 154) rfl (hb hby at_145) rfl ((if0 _ _).trans (feq hc3).2) (by decide) (by decide) ?_
    refine XS.iload X6.here hx rfl (hb hby at_154) rfl ?_
    show Sp p e below T6 (mkF m 156 #[.val (.int p0), .val (.int p1), .val (.int p2), .val (.int p3), .val (.int p4), .val (.int (fx0 p2)), .val (.int (fx2 p2)), .val (.int (fx4 p2)), .val (.int z8), .val (.int z9), .val (.int (fx0 z9)), .val (.int (fx2 z9)), .val (.int (fx4 z9)), .val (.ref b2_0), .val (.ref b3_0), .val (.int z15), .val (.ref b5), .val (.int (p4 &&& (3 : Int32))), .unset, .unset, .unset] [(.int (p4 &&& (3 : Int32)))]) _
    refine XS.iconst X6.here hx rfl (hb hby at_156) ?_
    refine XS.icmpYes X6.here hx rfl (pc0 := 157) (pc' := 167) rfl (hb hby at_157) rfl (feq hc4).2 (by decide) (by decide) ?_
    show Sp p e below T6 (mkF m 167 #[.val (.int p0), .val (.int p1), .val (.int p2), .val (.int p3), .val (.int p4), .val (.int (fx0 p2)), .val (.int (fx2 p2)), .val (.int (fx4 p2)), .val (.int z8), .val (.int z9), .val (.int (fx0 z9)), .val (.int (fx2 z9)), .val (.int (fx4 z9)), .val (.ref b2_0), .val (.ref b3_0), .val (.int z15), .val (.ref b5), .val (.int (p4 &&& (3 : Int32))), .unset, .unset, .unset] []) _
    refine st7 _ ?_
    show Sp p e below T7 (mkF m 170 #[.val (.int p0), .val (.int p1), .val (.int p2), .val (.int p3), .val (.int p4), .val (.int (fx0 p2)), .val (.int (fx2 p2)), .val (.int (fx4 p2)), .val (.int z8), .val (.int z9), .val (.int (fx0 z9)), .val (.int (fx2 z9)), .val (.int (fx4 z9)), .val (.ref b2_0), .val (.ref b3_0), .val (.int z15), .val (.ref b5), .val (.int (p4 &&& (3 : Int32))), .unset, .unset, .unset] [(.ref b7)]) _
    refine XS.dup X7.here hx rfl (hb hby at_170) rfl rfl ?_
    refine XS.iload X7.here hx rfl (hb hby at_171) rfl ?_
    refine XS.aload X7.here hx rfl (hb hby at_173) rfl rfl ?_
    show Sp p e below T7 (mkF m 175 #[.val (.int p0), .val (.int p1), .val (.int p2), .val (.int p3), .val (.int p4), .val (.int (fx0 p2)), .val (.int (fx2 p2)), .val (.int (fx4 p2)), .val (.int z8), .val (.int z9), .val (.int (fx0 z9)), .val (.int (fx2 z9)), .val (.int (fx4 z9)), .val (.ref b2_0), .val (.ref b3_0), .val (.int z15), .val (.ref b5), .val (.int (p4 &&& (3 : Int32))), .unset, .unset, .unset] [(.ref b3_0), (.int z15), (.ref b7), (.ref b7)]) _
    refine st8.trans ?_
    show Sp p e below T8 (mkF m 178 #[.val (.int p0), .val (.int p1), .val (.int p2), .val (.int p3), .val (.int p4), .val (.int (fx0 p2)), .val (.int (fx2 p2)), .val (.int (fx4 p2)), .val (.int z8), .val (.int z9), .val (.int (fx0 z9)), .val (.int (fx2 z9)), .val (.int (fx4 z9)), .val (.ref b2_0), .val (.ref b3_0), .val (.int z15), .val (.ref b5), .val (.int (p4 &&& (3 : Int32))), .unset, .unset, .unset] [(.ref b7)]) _
    refine XS.astore X8.here hx rfl (hb hby at_178) rfl rfl (l' := #[.val (.int p0), .val (.int p1), .val (.int p2), .val (.int p3), .val (.int p4), .val (.int (fx0 p2)), .val (.int (fx2 p2)), .val (.int (fx4 p2)), .val (.int z8), .val (.int z9), .val (.int (fx0 z9)), .val (.int (fx2 z9)), .val (.int (fx4 z9)), .val (.ref b2_0), .val (.ref b3_0), .val (.int z15), .val (.ref b5), .val (.int (p4 &&& (3 : Int32))), .val (.ref b7), .unset, .unset]) rfl ?_
    refine XS.iload X8.here hx rfl (hb hby at_180) rfl ?_
    refine XS.iconst X8.here hx rfl (hb hby at_182) ?_
    refine XS.icmpYes X8.here hx rfl (pc0 := 183) (pc' := 192) rfl (hb hby at_183) rfl (flt (own_nlti (n := 2) rfl (by have r := (own_and (x := p4) (m := (3 : Int32)) (M := 3) rfl (by decide)); have q0 := own_nei hc3 (n := 0) rfl; have q1 := own_nei hc4 (n := 1) rfl; omega) : ¬ ((p4 &&& (3 : Int32)) < (2 : Int32)))).2.1 (by decide) (by decide) ?_
    show Sp p e below T8 (mkF m 192 #[.val (.int p0), .val (.int p1), .val (.int p2), .val (.int p3), .val (.int p4), .val (.int (fx0 p2)), .val (.int (fx2 p2)), .val (.int (fx4 p2)), .val (.int z8), .val (.int z9), .val (.int (fx0 z9)), .val (.int (fx2 z9)), .val (.int (fx4 z9)), .val (.ref b2_0), .val (.ref b3_0), .val (.int z15), .val (.ref b5), .val (.int (p4 &&& (3 : Int32))), .val (.ref b7), .unset, .unset] []) _
    refine XS.iload X8.here hx rfl (hb hby at_192) rfl ?_
    refine XS.iload X8.here hx rfl (hb hby at_194) rfl ?_
    refine XS.icmpNo X8.here hx rfl (hb hby at_196) rfl (teq hc5).2 ?_
    refine XS.iload X8.here hx rfl (hb hby at_199) rfl ?_
    show Sp p e below T8 (mkF m 201 #[.val (.int p0), .val (.int p1), .val (.int p2), .val (.int p3), .val (.int p4), .val (.int (fx0 p2)), .val (.int (fx2 p2)), .val (.int (fx4 p2)), .val (.int z8), .val (.int z9), .val (.int (fx0 z9)), .val (.int (fx2 z9)), .val (.int (fx4 z9)), .val (.ref b2_0), .val (.ref b3_0), .val (.int z15), .val (.ref b5), .val (.int (p4 &&& (3 : Int32))), .val (.ref b7), .unset, .unset] [(.int (fx0 p2))]) _
    refine XS.iconst X8.here hx rfl (hb hby at_201) ?_
    refine XS.icmpNo X8.here hx rfl (hb hby at_202) rfl (flt hc6).1 ?_
    refine XS.iload X8.here hx rfl (hb hby at_205) rfl ?_
    refine XS.iload X8.here hx rfl (hb hby at_207) rfl ?_
    show Sp p e below T8 (mkF m 209 #[.val (.int p0), .val (.int p1), .val (.int p2), .val (.int p3), .val (.int p4), .val (.int (fx0 p2)), .val (.int (fx2 p2)), .val (.int (fx4 p2)), .val (.int z8), .val (.int z9), .val (.int (fx0 z9)), .val (.int (fx2 z9)), .val (.int (fx4 z9)), .val (.ref b2_0), .val (.ref b3_0), .val (.int z15), .val (.ref b5), .val (.int (p4 &&& (3 : Int32))), .val (.ref b7), .unset, .unset] [(.int (fx2 z9)), (.int (fx2 p2))]) _
    refine XS.icmpNo X8.here hx rfl (hb hby at_209) rfl (teq hc7).2 ?_
    refine XS.iload X8.here hx rfl (hb hby at_212) rfl ?_
    refine XS.iconst X8.here hx rfl (hb hby at_214) ?_
    refine XS.icmpNo X8.here hx rfl (hb hby at_215) rfl (flt hc8).1 ?_
    show Sp p e below T8 (mkF m 218 #[.val (.int p0), .val (.int p1), .val (.int p2), .val (.int p3), .val (.int p4), .val (.int (fx0 p2)), .val (.int (fx2 p2)), .val (.int (fx4 p2)), .val (.int z8), .val (.int z9), .val (.int (fx0 z9)), .val (.int (fx2 z9)), .val (.int (fx4 z9)), .val (.ref b2_0), .val (.ref b3_0), .val (.int z15), .val (.ref b5), .val (.int (p4 &&& (3 : Int32))), .val (.ref b7), .unset, .unset] []) _
    refine XS.iload X8.here hx rfl (hb hby at_218) rfl ?_
    refine XS.iload X8.here hx rfl (hb hby at_220) rfl ?_
    refine XS.icmpYes X8.here hx rfl (pc0 := 222) (pc' := 229) rfl (hb hby at_222) rfl (feq hc9).2 (by decide) (by decide) ?_
    refine XS.iconst X8.here hx rfl (hb hby at_229) ?_
    show Sp p e below T8 (mkF m 230 #[.val (.int p0), .val (.int p1), .val (.int p2), .val (.int p3), .val (.int p4), .val (.int (fx0 p2)), .val (.int (fx2 p2)), .val (.int (fx4 p2)), .val (.int z8), .val (.int z9), .val (.int (fx0 z9)), .val (.int (fx2 z9)), .val (.int (fx4 z9)), .val (.ref b2_0), .val (.ref b3_0), .val (.int z15), .val (.ref b5), .val (.int (p4 &&& (3 : Int32))), .val (.ref b7), .unset, .unset] [(.int (0 : Int32))]) _
    refine XS.istore X8.here hx rfl (hb hby at_230) rfl (l' := #[.val (.int p0), .val (.int p1), .val (.int p2), .val (.int p3), .val (.int p4), .val (.int (fx0 p2)), .val (.int (fx2 p2)), .val (.int (fx4 p2)), .val (.int z8), .val (.int z9), .val (.int (fx0 z9)), .val (.int (fx2 z9)), .val (.int (fx4 z9)), .val (.ref b2_0), .val (.ref b3_0), .val (.int z15), .val (.ref b5), .val (.int (p4 &&& (3 : Int32))), .val (.ref b7), .unset, .val (.int (0 : Int32))]) rfl ?_
    refine XS.iloadN X8.here hx rfl (hb hby at_232) rfl ?_
    refine XS.iload X8.here hx rfl (hb hby at_233) rfl ?_
    refine XS.icmpNo X8.here hx rfl (hb hby at_235) rfl (teq hc10).2 ?_
    show Sp p e below T8 (mkF m 238 #[.val (.int p0), .val (.int p1), .val (.int p2), .val (.int p3), .val (.int p4), .val (.int (fx0 p2)), .val (.int (fx2 p2)), .val (.int (fx4 p2)), .val (.int z8), .val (.int z9), .val (.int (fx0 z9)), .val (.int (fx2 z9)), .val (.int (fx4 z9)), .val (.ref b2_0), .val (.ref b3_0), .val (.int z15), .val (.ref b5), .val (.int (p4 &&& (3 : Int32))), .val (.ref b7), .unset, .val (.int (0 : Int32))] []) _
    refine XS.iload X8.here hx rfl (hb hby at_238) rfl ?_
    refine XS.ifYes X8.here hx rfl (pc0 := 240) (pc' := 247) rfl (hb hby at_240) rfl ((if0 _ _).trans (teq (by decide : (0 : Int32) = (0 : Int32))).1) (by decide) (by decide) ?_
    refine XS.iconst X8.here hx rfl (hb hby at_247) ?_
    refine XS.istore X8.here hx rfl (hb hby at_248) rfl (l' := #[.val (.int p0), .val (.int p1), .val (.int p2), .val (.int p3), .val (.int p4), .val (.int (fx0 p2)), .val (.int (fx2 p2)), .val (.int (fx4 p2)), .val (.int z8), .val (.int z9), .val (.int (fx0 z9)), .val (.int (fx2 z9)), .val (.int (fx4 z9)), .val (.ref b2_0), .val (.ref b3_0), .val (.int z15), .val (.ref b5), .val (.int (p4 &&& (3 : Int32))), .val (.ref b7), .val (.int (0 : Int32)), .val (.int (0 : Int32))]) rfl ?_
    show Sp p e below T8 (mkF m 250 #[.val (.int p0), .val (.int p1), .val (.int p2), .val (.int p3), .val (.int p4), .val (.int (fx0 p2)), .val (.int (fx2 p2)), .val (.int (fx4 p2)), .val (.int z8), .val (.int z9), .val (.int (fx0 z9)), .val (.int (fx2 z9)), .val (.int (fx4 z9)), .val (.ref b2_0), .val (.ref b3_0), .val (.int z15), .val (.ref b5), .val (.int (p4 &&& (3 : Int32))), .val (.ref b7), .val (.int (0 : Int32)), .val (.int (0 : Int32))] []) _
    refine XS.aload X8.here hx rfl (hb hby at_250) rfl rfl ?_
    refine XS.aload X8.here hx rfl (hb hby at_252) rfl rfl ?_
    show Sp p e below T8 (mkF m 254 #[.val (.int p0), .val (.int p1), .val (.int p2), .val (.int p3), .val (.int p4), .val (.int (fx0 p2)), .val (.int (fx2 p2)), .val (.int (fx4 p2)), .val (.int z8), .val (.int z9), .val (.int (fx0 z9)), .val (.int (fx2 z9)), .val (.int (fx4 z9)), .val (.ref b2_0), .val (.ref b3_0), .val (.int z15), .val (.ref b5), .val (.int (p4 &&& (3 : Int32))), .val (.ref b7), .val (.int (0 : Int32)), .val (.int (0 : Int32))] [(.ref b7), (.ref b5)]) _
    refine st17.trans ?_
    show Sp p e below T17 (mkF m 257 #[.val (.int p0), .val (.int p1), .val (.int p2), .val (.int p3), .val (.int p4), .val (.int (fx0 p2)), .val (.int (fx2 p2)), .val (.int (fx4 p2)), .val (.int z8), .val (.int z9), .val (.int (fx0 z9)), .val (.int (fx2 z9)), .val (.int (fx4 z9)), .val (.ref b2_0), .val (.ref b3_0), .val (.int z15), .val (.ref b5), .val (.int (p4 &&& (3 : Int32))), .val (.ref b7), .val (.int (0 : Int32)), .val (.int (0 : Int32))] [(.int (0 : Int32))]) _
    refine XS.iload X17.here hx rfl (hb hby at_257) rfl ?_
    refine XS.icmpNo X17.here hx rfl (hb hby at_259) rfl (teq (by decide : (0 : Int32) = (0 : Int32))).2 ?_
    refine XS.iconst X17.here hx rfl (hb hby at_262) ?_
    refine XS.goto X17.here hx rfl (pc0 := 263) (pc' := 267) rfl (hb hby at_263) (by decide) (by decide) ?_
    show Sp p e below T17 (mkF m 267 #[.val (.int p0), .val (.int p1), .val (.int p2), .val (.int p3), .val (.int p4), .val (.int (fx0 p2)), .val (.int (fx2 p2)), .val (.int (fx4 p2)), .val (.int z8), .val (.int z9), .val (.int (fx0 z9)), .val (.int (fx2 z9)), .val (.int (fx4 z9)), .val (.ref b2_0), .val (.ref b3_0), .val (.int z15), .val (.ref b5), .val (.int (p4 &&& (3 : Int32))), .val (.ref b7), .val (.int (0 : Int32)), .val (.int (0 : Int32))] [(.int (1 : Int32))]) _
    exact retN X17 hx (t := .boolean) Bd.returns (by simp) (hb hby at_267) hr
  · skip
    exact ⟨rfl, N17⟩
set_option maxRecDepth 65536 in
set_option maxHeartbeats 40000000 in
theorem rm47 (l : Launch) (Z : State) (a0 : Array Value) (hw : ∀ d ∈ tables_1, d.before a0 Z = true) (ws : List Jvm.Cond) (cs_v : Int32) (hp : Perm Z cs_v) (p0 : Int32) (p1 : Int32) (p2 : Int32) (p3 : Int32) (p4 : Int32) (z8 : Int32) (z9 : Int32) (z15 : Int32) (h0 : Heap) (n0 : Nat) (O0 : Old Z n0 h0) (hcut28 : Cut_0_28 p0 p1 p2 p3 p4 ((p2 &&& (3 : Int32)) % (3 : Int32)) ((((p2.toUInt32 >>> ((2 : Int32) &&& 31).toUInt32).toInt32) &&& (255 : Int32)).toUInt32.toUInt16.toUInt32.toInt32) ((((p2.toUInt32 >>> ((10 : Int32) &&& 31).toUInt32).toInt32) &&& (255 : Int32)).toUInt32.toUInt16.toUInt32.toInt32) z8 z9) (hcut109 : Cut_0_109 p0 p1 p2 p3 p4 ((p2 &&& (3 : Int32)) % (3 : Int32)) ((((p2.toUInt32 >>> ((2 : Int32) &&& 31).toUInt32).toInt32) &&& (255 : Int32)).toUInt32.toUInt16.toUInt32.toInt32) ((((p2.toUInt32 >>> ((10 : Int32) &&& 31).toUInt32).toInt32) &&& (255 : Int32)).toUInt32.toUInt16.toUInt32.toInt32) z8 z9 ((z9 &&& (3 : Int32)) % (3 : Int32)) ((((z9.toUInt32 >>> ((2 : Int32) &&& 31).toUInt32).toInt32) &&& (255 : Int32)).toUInt32.toUInt16.toUInt32.toInt32) ((((z9.toUInt32 >>> ((10 : Int32) &&& 31).toUInt32).toInt32) &&& (255 : Int32)).toUInt32.toUInt16.toUInt32.toInt32) z15) (hc3 : ¬ ((p4 &&& (3 : Int32)) = (0 : Int32))) (hc4 : ¬ ((p4 &&& (3 : Int32)) = (1 : Int32))) (hc5 : ((p2 &&& (3 : Int32)) % (3 : Int32)) = ((z9 &&& (3 : Int32)) % (3 : Int32))) (hc6 : ¬ (((p2 &&& (3 : Int32)) % (3 : Int32)) < (1 : Int32))) (hc7 : ((((p2.toUInt32 >>> ((2 : Int32) &&& 31).toUInt32).toInt32) &&& (255 : Int32)).toUInt32.toUInt16.toUInt32.toInt32) = ((((z9.toUInt32 >>> ((2 : Int32) &&& 31).toUInt32).toInt32) &&& (255 : Int32)).toUInt32.toUInt16.toUInt32.toInt32)) (hc8 : ¬ (((p2 &&& (3 : Int32)) % (3 : Int32)) < (2 : Int32))) (hc9 : ¬ (((((p2.toUInt32 >>> ((10 : Int32) &&& 31).toUInt32).toInt32) &&& (255 : Int32)).toUInt32.toUInt16.toUInt32.toInt32) = ((((z9.toUInt32 >>> ((10 : Int32) &&& 31).toUInt32).toInt32) &&& (255 : Int32)).toUInt32.toUInt16.toUInt32.toInt32))) (hc10 : ¬ (p0 = z15)) :
    MetFree l x (head1 (Jvm.Cond.code x code maxLocals ret :: ws) room_1) (fun a U => a = #[(.int p0), (.int p1), (.int p2), (.int p3), (.int p4)] ∧ Z.Warmed39 U.vm ∧ U.heap = h0 ∧ CHv Z own_EL U.vm h0) (fun _ _ _ _ _ => True) (fun _ U o U' => ∃ v L, o = .returned v ∧ (v = some (.int (1 : Int32)) ∧ Fr n0 L) ∧ ReturnedEndW U o U' L 32 1152) := by
  refine MetFree.of_bodySF (plainFor_of_name pn_1) hisR ?_
  intro p e s m args below meth c s₁ Bd hml0 hP hK
  obtain ⟨rfl, hZo, hh, hCH⟩ := hP
  have hx := Bd.exec
  have hby := Bd.bytes
  have hml : c.maxLocals = 21 := hml0
  have hown : (s.setVm s.vm).vm.findClass "com/example/epcrtools/epcrtools/exchange/RuleSetKeyEqualsPinLaw" = some m.cls := findClass_of_methodNamed Bd.named
  have hnm := (name_of_methodNamed Bd.named Bd.method).1
  have X0 : Stand p l e room_1 (s.setVm s.vm) m #[(.int p0), (.int p1), (.int p2), (.int p3), (.int p4)] below meth c s₁ [] 0 0 := Stand.of_body Bd
  have e0 : s₁.heap = h0 := by rw [← hh, Bd.state]; rfl
  have N0 := Fr.nil n0
  have hZ : Z.Warmed39 (s.setVm s.vm).vm := hZo
  have CH0 := CHr.refl hCH
  have hS0 : s.Since s.vm 0 := (State.WarmedH.refl s).since 0
  have hk0 : 0 ≤ h0.size := Nat.zero_le _
  have hp' := hp
  obtain ⟨S_COMPACT_STRINGS, h_cs⟩ := hp'
  have pre0 : ∀ t, Steps p.tables e below (s₁.setTop (mkF m 0 #[.val (.int p0), .val (.int p1), .val (.int p2), .val (.int p3), .val (.int p4), .unset, .unset, .unset, .unset, .unset, .unset, .unset, .unset, .unset, .unset, .unset, .unset, .unset, .unset, .unset, .unset] [])) t → Steps p.tables e below (s₁.setTop (entryFrame m #[(.int p0), (.int p1), (.int p2), (.int p3), (.int p4)] maxLocals)) t := fun t k => castTop (ef_0_0 m p0 p1 p2 p3 p4) k
  have st1 := hcut28 X0 hx hZ hw hby hown
  obtain ⟨_, _, ⟨T2, L2, k2, n2⟩, -, XX2, Sq2, gq2, ⟨Lc2, hQ2, l2, y2, z2, C2⟩, st2⟩ := callSS X0 hx (y := y2) hown (mvT hZ (wq hw 0 rfl)) (mvT hZ (wq hw 1 rfl)) (mvT hZ (wq hw 2 rfl)) (mvT hZ (wq hw 3 rfl)) (by decide) (own_backC (SL := []) (W := 0) (rmS1 l Z a0 hw [] cs_v hp ((p2 &&& (3 : Int32)) % (3 : Int32)) ((((p2.toUInt32 >>> ((2 : Int32) &&& 31).toUInt32).toInt32) &&& (255 : Int32)).toUInt32.toUInt16.toUInt32.toInt32) ((((p2.toUInt32 >>> ((10 : Int32) &&& 31).toUInt32).toInt32) &&& (255 : Int32)).toUInt32.toUInt16.toUInt32.toInt32) h0 n0 O0 (own_ch2 ((p2.toUInt32 >>> ((2 : Int32) &&& 31).toUInt32).toInt32)) (own_ch2 ((p2.toUInt32 >>> ((10 : Int32) &&& 31).toUInt32).toInt32))) hZ (wq hw 3 rfl) (wq hw 2 rfl) (by decide) (by decide) (own_EW hw) CH0.1 all0) (g := (mkF m 93 #[.val (.int p0), .val (.int p1), .val (.int p2), .val (.int p3), .val (.int p4), .val (.int (fx0 p2)), .val (.int (fx2 p2)), .val (.int (fx4 p2)), .val (.int z8), .val (.int z9), .val (.int (fx0 z9)), .val (.int (fx2 z9)), .val (.int (fx4 z9)), .unset, .unset, .unset, .unset, .unset, .unset, .unset, .unset] [(.int (fx4 p2)), (.int (fx2 p2)), (.int (fx0 p2))])) rfl (by rw [hml]; rfl) (argsL := [(.int (fx0 p2)), (.int (fx2 p2)), (.int (fx4 p2))]) (rest := []) (lenOf pd_5 rfl) rfl (by show 2 * 0 + _ ≤ _; exact Nat.le_of_eq rfl) (hb hby at_93) (fun _ _ => ⟨rfl, e0, (by decide : 0 + 4 ≤ _), (by decide : 0 + 8 ≤ _)⟩)
  dsimp only [Pt.U, Pt.locs, Pt.cells, Pt.slots] at XX2 Sq2 gq2 l2 y2 z2 st2 hQ2 C2
  subst l2 y2 z2
  obtain ⟨X2, hS2, hZ2, hown2⟩ := rebS hS0 (by rw [e0]; exact hk0) XX2 Sq2 gq2 hZ hown
  obtain ⟨b2_0, y2_0, kc2_0, rfl, Nq2, Kq2, sq_b2_0, fq2_0, fq2_1, fq2_2, fq2_3⟩ := hQ2
  have N2 := Fr.app N0 Nq2
  have g_b2_0 : n0 ≤ b2_0 := Nat.le_trans (own_sz O0) sq_b2_0
  have sz_b2_0 : h0.size ≤ b2_0 := Nat.le_trans (Keep.refl h0 []).1 sq_b2_0
  have CH2 := CH0.trans C2
  have hk2 : T2.heap.size ≤ T2.heap.size := Nat.le_refl _
  have O2 := O0.keep Kq2 all0
  have K2 : Keep h0 T2.heap [] := (Keep.refl h0 []).trans Kq2 all0
  obtain ⟨_, _, ⟨T3, L3, k3, n3⟩, -, XX3, Sq3, gq3, ⟨Lc3, hQ3, l3, y3, z3, C3⟩, st3⟩ := callSS X2 hx (y := y2) hown2 (mvT hZ2 (wq hw 0 rfl)) (mvT hZ2 (wq hw 1 rfl)) (mvT hZ2 (wq hw 2 rfl)) (mvT hZ2 (wq hw 3 rfl)) (by decide) (own_backC (SL := []) (W := 0) (rmS1 l Z a0 hw [] cs_v hp ((z9 &&& (3 : Int32)) % (3 : Int32)) ((((z9.toUInt32 >>> ((2 : Int32) &&& 31).toUInt32).toInt32) &&& (255 : Int32)).toUInt32.toUInt16.toUInt32.toInt32) ((((z9.toUInt32 >>> ((10 : Int32) &&& 31).toUInt32).toInt32) &&& (255 : Int32)).toUInt32.toUInt16.toUInt32.toInt32) T2.heap n0 O2 (own_ch2 ((z9.toUInt32 >>> ((2 : Int32) &&& 31).toUInt32).toInt32)) (own_ch2 ((z9.toUInt32 >>> ((10 : Int32) &&& 31).toUInt32).toInt32))) hZ2 (wq hw 3 rfl) (wq hw 2 rfl) (by decide) (by decide) (own_EW hw) CH2.1 all0) (g := (mkF m 104 #[.val (.int p0), .val (.int p1), .val (.int p2), .val (.int p3), .val (.int p4), .val (.int (fx0 p2)), .val (.int (fx2 p2)), .val (.int (fx4 p2)), .val (.int z8), .val (.int z9), .val (.int (fx0 z9)), .val (.int (fx2 z9)), .val (.int (fx4 z9)), .val (.ref b2_0), .unset, .unset, .unset, .unset, .unset, .unset, .unset] [(.int (fx4 z9)), (.int (fx2 z9)), (.int (fx0 z9))])) rfl (by rw [hml]; rfl) (argsL := [(.int (fx0 z9)), (.int (fx2 z9)), (.int (fx4 z9))]) (rest := []) (lenOf pd_5 rfl) rfl (by show 2 * 0 + _ ≤ _; exact Nat.le_of_eq rfl) (hb hby at_104) (fun _ _ => ⟨rfl, rfl, (by decide : 4 + 4 ≤ _), (by decide : 8 + 8 ≤ _)⟩)
  dsimp only [Pt.U, Pt.locs, Pt.cells, Pt.slots] at XX3 Sq3 gq3 l3 y3 z3 st3 hQ3 C3
  subst l3 y3 z3
  obtain ⟨X3, hS3, hZ3, hown3⟩ := rebS hS2 hk2 XX3 Sq3 gq3 hZ2 hown2
  obtain ⟨b3_0, y3_0, kc3_0, rfl, Nq3, Kq3, sq_b3_0, fq3_0, fq3_1, fq3_2, fq3_3⟩ := hQ3
  have N3 := Fr.app N2 Nq3
  have g_b3_0 : n0 ≤ b3_0 := Nat.le_trans (own_sz O2) sq_b3_0
  have sz_b3_0 : h0.size ≤ b3_0 := Nat.le_trans K2.1 sq_b3_0
  have CH3 := CH2.trans C3
  have hk3 : T3.heap.size ≤ T3.heap.size := Nat.le_refl _
  have O3 := O2.keep Kq3 all0
  have K3 : Keep h0 T3.heap [] := K2.trans Kq3 all0
  have st4 := hcut109 b2_0 b3_0 X3 hx hZ3 hw hby hown3
  obtain ⟨T5, h5, X5, e5, E5, A5, D5, -, st5⟩ := newO X3 hx hZ3 hown3 (wq hw 34 rfl) (wq hw 35 rfl) (wq hw 36 rfl) rfl (g := (mkF m 125 #[.val (.int p0), .val (.int p1), .val (.int p2), .val (.int p3), .val (.int p4), .val (.int (fx0 p2)), .val (.int (fx2 p2)), .val (.int (fx4 p2)), .val (.int z8), .val (.int z9), .val (.int (fx0 z9)), .val (.int (fx2 z9)), .val (.int (fx4 z9)), .val (.ref b2_0), .val (.ref b3_0), .val (.int z15), .unset, .unset, .unset, .unset, .unset] [])) rfl (hb hby at_125) (by decide) (by decide)
  obtain ⟨b5, g5⟩ : ∃ z, z = T3.heap.size := ⟨_, rfl⟩
  rw [← g5] at A5 D5 st5
  have g_b5 : n0 ≤ b5 := Nat.le_trans (own_sz O3) (Nat.le_of_eq g5.symm)
  have sz_b5 : h0.size ≤ b5 := Nat.le_trans K3.1 (Nat.le_of_eq g5.symm)
  have O5 := O3.ext E5
  have K5 : Keep h0 h5 [] := K3.ext E5
  have CH5 := CH3.trans (CHr.ext E5 CH3.1)
  have hk5 := Nat.le_trans hk3 E5.1
  have F_dataSchema_b5 : Fld Z h5 b5 "com/example/epcrtools/epcrtools/exchange/RuleSetKey" "dataSchema" "I" (.int (0 : Int32)) := D5 (Or.inr (wq hw 42 rfl)) (ty := .int) (by decide)
  have F_schemaVersion_b5 : Fld Z h5 b5 "com/example/epcrtools/epcrtools/exchange/RuleSetKey" "schemaVersion" "Ljava/lang/String;" .null := D5 (Or.inr (wq hw 49 rfl)) (ty := (.object "java/lang/String")) (by decide)
  obtain ⟨_, _, ⟨T6, L6, k6, n6⟩, -, X6, ⟨Lc6, hQ6, l6, y6, z6⟩, st6⟩ := X5.specialBack hx (y := y7) rfl hown3 (mvT hZ3 (wq hw 37 rfl)) (mvT hZ3 (wq hw 38 rfl)) (mvT hZ3 (wq hw 39 rfl)) (by decide) (backOf (W := 1) (rm17 l Z a0 hw [] cs_v hp b5 p0 b2_0 h5 n0 O5 A5 F_dataSchema_b5 F_schemaVersion_b5 g_b5 ((fq2_0.keep Kq3).ext E5)) hZ3 (wq hw 39 rfl) (wq hw 36 rfl) (by decide) (by decide)) (g := (mkF m 132 #[.val (.int p0), .val (.int p1), .val (.int p2), .val (.int p3), .val (.int p4), .val (.int (fx0 p2)), .val (.int (fx2 p2)), .val (.int (fx4 p2)), .val (.int z8), .val (.int z9), .val (.int (fx0 z9)), .val (.int (fx2 z9)), .val (.int (fx4 z9)), .val (.ref b2_0), .val (.ref b3_0), .val (.int z15), .unset, .unset, .unset, .unset, .unset] [(.ref b2_0), (.int p0), (.ref b5), (.ref b5)])) rfl (by rw [hml]; rfl) (Steps.refl _) (a := b5) (argsL := [(.int p0), (.ref b2_0)]) (rest := [(.ref b5)]) (lenOf pd_7 rfl) rfl (by show 2 * 0 + _ ≤ _; exact Nat.le_of_eq rfl) (hb hby at_132) (fun _ _ => ⟨rfl, e5, (by decide : 9 + 0 ≤ _), (by decide : 18 + 0 ≤ _)⟩)
  dsimp only [Pt.U, Pt.locs, Pt.cells, Pt.slots] at X6 l6 y6 z6 st6 hQ6
  subst l6 y6 z6
  obtain ⟨rfl, Nq6, Kq6, fq6_0, fq6_1, fq6_2⟩ := hQ6
  have N6 := Fr.app N3 Nq6
  have CH6 := CH5.trans (CHr.keep Kq6 (allS (Safe.exa hZ3.alike A5 (by decide) (by decide)) all0) CH5.1)
  have hk6 := Nat.le_trans hk5 Kq6.1
  have O6 := O5.keep Kq6 (allS g_b5 all0)
  have K6 : Keep h0 T6.heap [] := K5.trans Kq6 (allS (Or.inr sz_b5) all0)
  obtain ⟨T7, h7, X7, e7, E7, A7, D7, -, st7⟩ := newO X6 hx hZ3 hown3 (wq hw 34 rfl) (wq hw 35 rfl) (wq hw 36 rfl) rfl (g := (mkF m 167 #[.val (.int p0), .val (.int p1), .val (.int p2), .val (.int p3), .val (.int p4), .val (.int (fx0 p2)), .val (.int (fx2 p2)), .val (.int (fx4 p2)), .val (.int z8), .val (.int z9), .val (.int (fx0 z9)), .val (.int (fx2 z9)), .val (.int (fx4 z9)), .val (.ref b2_0), .val (.ref b3_0), .val (.int z15), .val (.ref b5), .val (.int (p4 &&& (3 : Int32))), .unset, .unset, .unset] [])) rfl (hb hby at_167) (by decide) (by decide)
  obtain ⟨b7, g7⟩ : ∃ z, z = T6.heap.size := ⟨_, rfl⟩
  rw [← g7] at A7 D7 st7
  have g_b7 : n0 ≤ b7 := Nat.le_trans (own_sz O6) (Nat.le_of_eq g7.symm)
  have sz_b7 : h0.size ≤ b7 := Nat.le_trans K6.1 (Nat.le_of_eq g7.symm)
  have O7 := O6.ext E7
  have K7 : Keep h0 h7 [] := K6.ext E7
  have CH7 := CH6.trans (CHr.ext E7 CH6.1)
  have hk7 := Nat.le_trans hk6 E7.1
  have F_dataSchema_b7 : Fld Z h7 b7 "com/example/epcrtools/epcrtools/exchange/RuleSetKey" "dataSchema" "I" (.int (0 : Int32)) := D7 (Or.inr (wq hw 42 rfl)) (ty := .int) (by decide)
  have F_schemaVersion_b7 : Fld Z h7 b7 "com/example/epcrtools/epcrtools/exchange/RuleSetKey" "schemaVersion" "Ljava/lang/String;" .null := D7 (Or.inr (wq hw 49 rfl)) (ty := (.object "java/lang/String")) (by decide)
  obtain ⟨_, _, ⟨T8, L8, k8, n8⟩, -, X8, ⟨Lc8, hQ8, l8, y8, z8⟩, st8⟩ := X7.specialBack hx (y := y7) rfl hown3 (mvT hZ3 (wq hw 37 rfl)) (mvT hZ3 (wq hw 38 rfl)) (mvT hZ3 (wq hw 39 rfl)) (by decide) (backOf (W := 1) (rm17 l Z a0 hw [] cs_v hp b7 z15 b3_0 h7 n0 O7 A7 F_dataSchema_b7 F_schemaVersion_b7 g_b7 (((fq3_0.ext E5).keep Kq6).ext E7)) hZ3 (wq hw 39 rfl) (wq hw 36 rfl) (by decide) (by decide)) (g := (mkF m 175 #[.val (.int p0), .val (.int p1), .val (.int p2), .val (.int p3), .val (.int p4), .val (.int (fx0 p2)), .val (.int (fx2 p2)), .val (.int (fx4 p2)), .val (.int z8), .val (.int z9), .val (.int (fx0 z9)), .val (.int (fx2 z9)), .val (.int (fx4 z9)), .val (.ref b2_0), .val (.ref b3_0), .val (.int z15), .val (.ref b5), .val (.int (p4 &&& (3 : Int32))), .unset, .unset, .unset] [(.ref b3_0), (.int z15), (.ref b7), (.ref b7)])) rfl (by rw [hml]; rfl) (Steps.refl _) (a := b7) (argsL := [(.int z15), (.ref b3_0)]) (rest := [(.ref b7)]) (lenOf pd_7 rfl) rfl (by show 2 * 0 + _ ≤ _; exact Nat.le_of_eq rfl) (hb hby at_175) (fun _ _ => ⟨rfl, e7, (by decide : 10 + 0 ≤ _), (by decide : 20 + 0 ≤ _)⟩)
  dsimp only [Pt.U, Pt.locs, Pt.cells, Pt.slots] at X8 l8 y8 z8 st8 hQ8
  subst l8 y8 z8
  obtain ⟨rfl, Nq8, Kq8, fq8_0, fq8_1, fq8_2⟩ := hQ8
  have N8 := Fr.app N6 Nq8
  have CH8 := CH7.trans (CHr.keep Kq8 (allS (Safe.exa hZ3.alike A7 (by decide) (by decide)) all0) CH7.1)
  have hk8 := Nat.le_trans hk7 Kq8.1
  have O8 := O7.keep Kq8 (allS g_b7 all0)
  have K8 : Keep h0 T8.heap [] := K7.trans Kq8 (allS (Or.inr sz_b7) all0)
  have f_9 := ((fq6_1.ext E7).keep Kq8 (ninS (Nat.ne_of_lt (Nat.lt_of_lt_of_le (A5.keep Kq6).lt (Nat.le_of_eq g7.symm))) nin0))
  obtain ⟨cq10, kq10, q10a, q10b, q10c⟩ := isOf hZ3 rfl ((fq6_0.ext E7).keep Kq8)
  obtain ⟨_, _, ⟨T10, L10, k10, n10⟩, -, X10, ⟨Lc10, hQ10, l10, y10, z10⟩, st10⟩ := X8.virtualBack hx (y := y8) (z := y8) hown3 (mvT hZ3 (wq hw 50 rfl)) (mvT hZ3 (wq hw 51 rfl)) (notFace_of_selects (args := #[]) (mvT hZ3 (wq hw 53 rfl))) (mvT hZ3 (wq hw 53 rfl)) (mvT hZ3 (wq hw 52 rfl)) (by decide) (backOf (W := 0) (rm40 l Z a0 hw [] cs_v hp b5 b7 p0 z15 T8.heap n0 O8 fq8_0 f_9 fq8_1 hc10) hZ3 (wq hw 54 rfl) (wq hw 36 rfl) (by decide) (by decide)) q10a q10c (g := (mkF m 254 #[.val (.int p0), .val (.int p1), .val (.int p2), .val (.int p3), .val (.int p4), .val (.int (fx0 p2)), .val (.int (fx2 p2)), .val (.int (fx4 p2)), .val (.int z8), .val (.int z9), .val (.int (fx0 z9)), .val (.int (fx2 z9)), .val (.int (fx4 z9)), .val (.ref b2_0), .val (.ref b3_0), .val (.int z15), .val (.ref b5), .val (.int (p4 &&& (3 : Int32))), .val (.ref b7), .val (.int (0 : Int32)), .val (.int (0 : Int32))] [(.ref b7), (.ref b5)])) rfl (by rw [hml]; rfl) (Steps.refl _) (argsL := [(.ref b7)]) (rest := []) (lenOf pd_8 rfl) rfl (by show 2 * 0 + _ ≤ _; exact Nat.le_of_eq rfl) (hb hby at_254) (fun _ _ => ⟨rfl, rfl, (by decide : 10 + 0 ≤ _), (by decide : 20 + 0 ≤ _)⟩)
  dsimp only [Pt.U, Pt.locs, Pt.cells, Pt.slots] at X10 l10 y10 z10 st10 hQ10
  subst l10 y10 z10
  obtain ⟨rfl, Nq10, eq10⟩ := hQ10
  have N10 := Fr.app N8 Nq10
  obtain ⟨fs, hr, hrun, hended, hE⟩ := Stand.leaveW (s := s) X10 hS3 (by rw [eq10]; exact hk8) (v := some (.int (1 : Int32))) (fun h => by rw [Bd.returns] at h; cases h)
  refine ⟨_, _, pre0 _ ?_, hrun, hended, _, _, rfl, ?_, hE.1, hE.2.1, hE.2.2.1, hE.2.2.2.mono (by decide) (by decide)⟩
  · show Sp p e below s₁ (mkF m 0 #[.val (.int p0), .val (.int p1), .val (.int p2), .val (.int p3), .val (.int p4), .unset, .unset, .unset, .unset, .unset, .unset, .unset, .unset, .unset, .unset, .unset, .unset, .unset, .unset, .unset, .unset] []) _
    refine XS.iloadN X0.here hx rfl (hb hby at_0) rfl ?_
    refine XS.iconst X0.here hx rfl (hb hby at_1) ?_
    refine XS.iand X0.here hx rfl (hb hby at_2) rfl ?_
    refine XS.iconst X0.here hx rfl (hb hby at_3) ?_
    show Sp p e below s₁ (mkF m 4 #[.val (.int p0), .val (.int p1), .val (.int p2), .val (.int p3), .val (.int p4), .unset, .unset, .unset, .unset, .unset, .unset, .unset, .unset, .unset, .unset, .unset, .unset, .unset, .unset, .unset, .unset] [(.int (3 : Int32)), (.int (p2 &&& (3 : Int32)))]) _
    refine iremM X0 hx rfl (hb hby at_4) rfl (by decide) ?_
    show Sp p e below s₁ (mkF m 5 #[.val (.int p0), .val (.int p1), .val (.int p2), .val (.int p3), .val (.int p4), .unset, .unset, .unset, .unset, .unset, .unset, .unset, .unset, .unset, .unset, .unset, .unset, .unset, .unset, .unset, .unset] [(.int (fx0 p2))]) _
    refine XS.istore X0.here hx rfl (hb hby at_5) rfl (l' := #[.val (.int p0), .val (.int p1), .val (.int p2), .val (.int p3), .val (.int p4), .val (.int (fx0 p2)), .unset, .unset, .unset, .unset, .unset, .unset, .unset, .unset, .unset, .unset, .unset, .unset, .unset, .unset, .unset]) rfl ?_
    refine XS.iloadN X0.here hx rfl (hb hby at_7) rfl ?_
    refine XS.iconst X0.here hx rfl (hb hby at_8) ?_
    refine XS.iushr X0.here hx rfl (hb hby at_9) rfl ?_
    show Sp p e below s₁ (mkF m 10 #[.val (.int p0), .val (.int p1), .val (.int p2), .val (.int p3), .val (.int p4), .val (.int (fx0 p2)), .unset, .unset, .unset, .unset, .unset, .unset, .unset, .unset, .unset, .unset, .unset, .unset, .unset, .unset, .unset] [(.int (fx1 p2))]) _
    refine XS.sipush X0.here hx rfl (hb hby at_10) ?_
    refine XS.iand X0.here hx rfl (hb hby at_13) rfl ?_
    refine XS.i2c X0.here hx rfl (hb hby at_14) rfl ?_
    refine XS.istore X0.here hx rfl (hb hby at_15) rfl (l' := #[.val (.int p0), .val (.int p1), .val (.int p2), .val (.int p3), .val (.int p4), .val (.int (fx0 p2)), .val (.int (fx2 p2)), .unset, .unset, .unset, .unset, .unset, .unset, .unset, .unset, .unset, .unset, .unset, .unset, .unset, .unset]) rfl ?_
    show Sp p e below s₁ (mkF m 17 #[.val (.int p0), .val (.int p1), .val (.int p2), .val (.int p3), .val (.int p4), .val (.int (fx0 p2)), .val (.int (fx2 p2)), .unset, .unset, .unset, .unset, .unset, .unset, .unset, .unset, .unset, .unset, .unset, .unset, .unset, .unset] []) _
    refine XS.iloadN X0.here hx rfl (hb hby at_17) rfl ?_
    refine XS.bipush X0.here hx rfl (hb hby at_18) ?_
    refine XS.iushr X0.here hx rfl (hb hby at_20) rfl ?_
    refine XS.sipush X0.here hx rfl (hb hby at_21) ?_
    show Sp p e below s₁ (mkF m 24 #[.val (.int p0), .val (.int p1), .val (.int p2), .val (.int p3), .val (.int p4), .val (.int (fx0 p2)), .val (.int (fx2 p2)), .unset, .unset, .unset, .unset, .unset, .unset, .unset, .unset, .unset, .unset, .unset, .unset, .unset, .unset] [(.int (255 : Int32)), (.int (fx3 p2))]) _
    refine XS.iand X0.here hx rfl (hb hby at_24) rfl ?_
    refine XS.i2c X0.here hx rfl (hb hby at_25) rfl ?_
    refine XS.istore X0.here hx rfl (hb hby at_26) rfl (l' := #[.val (.int p0), .val (.int p1), .val (.int p2), .val (.int p3), .val (.int p4), .val (.int (fx0 p2)), .val (.int (fx2 p2)), .val (.int (fx4 p2)), .unset, .unset, .unset, .unset, .unset, .unset, .unset, .unset, .unset, .unset, .unset, .unset, .unset]) rfl ?_
    show Sp p e below s₁ (mkF m 28 #[.val (.int p0), .val (.int p1), .val (.int p2), .val (.int p3), .val (.int p4), .val (.int (fx0 p2)), .val (.int (fx2 p2)), .val (.int (fx4 p2)), .unset, .unset, .unset, .unset, .unset, .unset, .unset, .unset, .unset, .unset, .unset, .unset, .unset] []) _
    refine st1 _ ?_
    show Sp p e below s₁ (mkF m 56 #[.val (.int p0), .val (.int p1), .val (.int p2), .val (.int p3), .val (.int p4), .val (.int (fx0 p2)), .val (.int (fx2 p2)), .val (.int (fx4 p2)), .val (.int z8), .val (.int z9), .unset, .unset, .unset, .unset, .unset, .unset, .unset, .unset, .unset, .unset, .unset] []) _
    refine XS.iload X0.here hx rfl (hb hby at_56) rfl ?_
    refine XS.iconst X0.here hx rfl (hb hby at_58) ?_
    refine XS.iand X0.here hx rfl (hb hby at_59) rfl ?_
    refine XS.iconst X0.here hx rfl (hb hby at_60) ?_
    show Sp p e below s₁ (mkF m 61 #[.val (.int p0), .val (.int p1), .val (.int p2), .val (.int p3), .val (.int p4), .val (.int (fx0 p2)), .val (.int (fx2 p2)), .val (.int (fx4 p2)), .val (.int z8), .val (.int z9), .unset, .unset, .unset, .unset, .unset, .unset, .unset, .unset, .unset, .unset, .unset] [(.int (3 : Int32)), (.int (z9 &&& (3 : Int32)))]) _
    refine iremM X0 hx rfl (hb hby at_61) rfl (by decide) ?_
    show Sp p e below s₁ (mkF m 62 #[.val (.int p0), .val (.int p1), .val (.int p2), .val (.int p3), .val (.int p4), .val (.int (fx0 p2)), .val (.int (fx2 p2)), .val (.int (fx4 p2)), .val (.int z8), .val (.int z9), .unset, .unset, .unset, .unset, .unset, .unset, .unset, .unset, .unset, .unset, .unset] [(.int (fx0 z9))]) _
    refine XS.istore X0.here hx rfl (hb hby at_62) rfl (l' := #[.val (.int p0), .val (.int p1), .val (.int p2), .val (.int p3), .val (.int p4), .val (.int (fx0 p2)), .val (.int (fx2 p2)), .val (.int (fx4 p2)), .val (.int z8), .val (.int z9), .val (.int (fx0 z9)), .unset, .unset, .unset, .unset, .unset, .unset, .unset, .unset, .unset, .unset]) rfl ?_
    refine XS.iload X0.here hx rfl (hb hby at_64) rfl ?_
    refine XS.iconst X0.here hx rfl (hb hby at_66) ?_
    refine XS.iushr X0.here hx rfl (hb hby at_67) rfl ?_
    show Sp p e below s₁ (mkF m 68 #[.val (.int p0), .val (.int p1), .val (.int p2), .val (.int p3), .val (.int p4), .val (.int (fx0 p2)), .val (.int (fx2 p2)), .val (.int (fx4 p2)), .val (.int z8), .val (.int z9), .val (.int (fx0 z9)), .unset, .unset, .unset, .unset, .unset, .unset, .unset, .unset, .unset, .unset] [(.int (fx1 z9))]) _
    refine XS.sipush X0.here hx rfl (hb hby at_68) ?_
    refine XS.iand X0.here hx rfl (hb hby at_71) rfl ?_
    refine XS.i2c X0.here hx rfl (hb hby at_72) rfl ?_
    refine XS.istore X0.here hx rfl (hb hby at_73) rfl (l' := #[.val (.int p0), .val (.int p1), .val (.int p2), .val (.int p3), .val (.int p4), .val (.int (fx0 p2)), .val (.int (fx2 p2)), .val (.int (fx4 p2)), .val (.int z8), .val (.int z9), .val (.int (fx0 z9)), .val (.int (fx2 z9)), .unset, .unset, .unset, .unset, .unset, .unset, .unset, .unset, .unset]) rfl ?_
    show Sp p e below s₁ (mkF m 75 #[.val (.int p0), .val (.int p1), .val (.int p2), .val (.int p3), .val (.int p4), .val (.int (fx0 p2)), .val (.int (fx2 p2)), .val (.int (fx4 p2)), .val (.int z8), .val (.int z9), .val (.int (fx0 z9)), .val (.int (fx2 z9)), .unset, .unset, .unset, .unset, .unset, .unset, .unset, .unset, .unset] []) _
    refine XS.iload X0.here hx rfl (hb hby at_75) rfl ?_
    refine XS.bipush X0.here hx rfl (hb hby at_77) ?_
    refine XS.iushr X0.here hx rfl (hb hby at_79) rfl ?_
    refine XS.sipush X0.here hx rfl (hb hby at_80) ?_
    show Sp p e below s₁ (mkF m 83 #[.val (.int p0), .val (.int p1), .val (.int p2), .val (.int p3), .val (.int p4), .val (.int (fx0 p2)), .val (.int (fx2 p2)), .val (.int (fx4 p2)), .val (.int z8), .val (.int z9), .val (.int (fx0 z9)), .val (.int (fx2 z9)), .unset, .unset, .unset, .unset, .unset, .unset, .unset, .unset, .unset] [(.int (255 : Int32)), (.int (fx3 z9))]) _
    refine XS.iand X0.here hx rfl (hb hby at_83) rfl ?_
    refine XS.i2c X0.here hx rfl (hb hby at_84) rfl ?_
    refine XS.istore X0.here hx rfl (hb hby at_85) rfl (l' := #[.val (.int p0), .val (.int p1), .val (.int p2), .val (.int p3), .val (.int p4), .val (.int (fx0 p2)), .val (.int (fx2 p2)), .val (.int (fx4 p2)), .val (.int z8), .val (.int z9), .val (.int (fx0 z9)), .val (.int (fx2 z9)), .val (.int (fx4 z9)), .unset, .unset, .unset, .unset, .unset, .unset, .unset, .unset]) rfl ?_
    refine XS.iload X0.here hx rfl (hb hby at_87) rfl ?_
    show Sp p e below s₁ (mkF m 89 #[.val (.int p0), .val (.int p1), .val (.int p2), .val (.int p3), .val (.int p4), .val (.int (fx0 p2)), .val (.int (fx2 p2)), .val (.int (fx4 p2)), .val (.int z8), .val (.int z9), .val (.int (fx0 z9)), .val (.int (fx2 z9)), .val (.int (fx4 z9)), .unset, .unset, .unset, .unset, .unset, .unset, .unset, .unset] [(.int (fx0 p2))]) _
    refine XS.iload X0.here hx rfl (hb hby at_89) rfl ?_
    refine XS.iload X0.here hx rfl (hb hby at_91) rfl ?_
    show Sp p e below s₁ (mkF m 93 #[.val (.int p0), .val (.int p1), .val (.int p2), .val (.int p3), .val (.int p4), .val (.int (fx0 p2)), .val (.int (fx2 p2)), .val (.int (fx4 p2)), .val (.int z8), .val (.int z9), .val (.int (fx0 z9)), .val (.int (fx2 z9)), .val (.int (fx4 z9)), .unset, .unset, .unset, .unset, .unset, .unset, .unset, .unset] [(.int (fx4 p2)), (.int (fx2 p2)), (.int (fx0 p2))]) _
    refine st2.trans ?_
    show Sp p e below T2 (mkF m 96 #[.val (.int p0), .val (.int p1), .val (.int p2), .val (.int p3), .val (.int p4), .val (.int (fx0 p2)), .val (.int (fx2 p2)), .val (.int (fx4 p2)), .val (.int z8), .val (.int z9), .val (.int (fx0 z9)), .val (.int (fx2 z9)), .val (.int (fx4 z9)), .unset, .unset, .unset, .unset, .unset, .unset, .unset, .unset] [(.ref b2_0)]) _
    refine XS.astore X2.here hx rfl (hb hby at_96) rfl rfl (l' := #[.val (.int p0), .val (.int p1), .val (.int p2), .val (.int p3), .val (.int p4), .val (.int (fx0 p2)), .val (.int (fx2 p2)), .val (.int (fx4 p2)), .val (.int z8), .val (.int z9), .val (.int (fx0 z9)), .val (.int (fx2 z9)), .val (.int (fx4 z9)), .val (.ref b2_0), .unset, .unset, .unset, .unset, .unset, .unset, .unset]) rfl ?_
    refine XS.iload X2.here hx rfl (hb hby at_98) rfl ?_
    refine XS.iload X2.here hx rfl (hb hby at_100) rfl ?_
    refine XS.iload X2.here hx rfl (hb hby at_102) rfl ?_
    show Sp p e below T2 (mkF m 104 #[.val (.int p0), .val (.int p1), .val (.int p2), .val (.int p3), .val (.int p4), .val (.int (fx0 p2)), .val (.int (fx2 p2)), .val (.int (fx4 p2)), .val (.int z8), .val (.int z9), .val (.int (fx0 z9)), .val (.int (fx2 z9)), .val (.int (fx4 z9)), .val (.ref b2_0), .unset, .unset, .unset, .unset, .unset, .unset, .unset] [(.int (fx4 z9)), (.int (fx2 z9)), (.int (fx0 z9))]) _
    refine st3.trans ?_
    show Sp p e below T3 (mkF m 107 #[.val (.int p0), .val (.int p1), .val (.int p2), .val (.int p3), .val (.int p4), .val (.int (fx0 p2)), .val (.int (fx2 p2)), .val (.int (fx4 p2)), .val (.int z8), .val (.int z9), .val (.int (fx0 z9)), .val (.int (fx2 z9)), .val (.int (fx4 z9)), .val (.ref b2_0), .unset, .unset, .unset, .unset, .unset, .unset, .unset] [(.ref b3_0)]) _
    refine XS.astore X3.here hx rfl (hb hby at_107) rfl rfl (l' := #[.val (.int p0), .val (.int p1), .val (.int p2), .val (.int p3), .val (.int p4), .val (.int (fx0 p2)), .val (.int (fx2 p2)), .val (.int (fx4 p2)), .val (.int z8), .val (.int z9), .val (.int (fx0 z9)), .val (.int (fx2 z9)), .val (.int (fx4 z9)), .val (.ref b2_0), .val (.ref b3_0), .unset, .unset, .unset, .unset, .unset, .unset]) rfl ?_
    show Sp p e below T3 (mkF m 109 #[.val (.int p0), .val (.int p1), .val (.int p2), .val (.int p3), .val (.int p4), .val (.int (fx0 p2)), .val (.int (fx2 p2)), .val (.int (fx4 p2)), .val (.int z8), .val (.int z9), .val (.int (fx0 z9)), .val (.int (fx2 z9)), .val (.int (fx4 z9)), .val (.ref b2_0), .val (.ref b3_0), .unset, .unset, .unset, .unset, .unset, .unset] []) _
    refine st4 _ ?_
    show Sp p e below T3 (mkF m 125 #[.val (.int p0), .val (.int p1), .val (.int p2), .val (.int p3), .val (.int p4), .val (.int (fx0 p2)), .val (.int (fx2 p2)), .val (.int (fx4 p2)), .val (.int z8), .val (.int z9), .val (.int (fx0 z9)), .val (.int (fx2 z9)), .val (.int (fx4 z9)), .val (.ref b2_0), .val (.ref b3_0), .val (.int z15), .unset, .unset, .unset, .unset, .unset] []) _
    refine st5 _ ?_
    show Sp p e below T5 (mkF m 128 #[.val (.int p0), .val (.int p1), .val (.int p2), .val (.int p3), .val (.int p4), .val (.int (fx0 p2)), .val (.int (fx2 p2)), .val (.int (fx4 p2)), .val (.int z8), .val (.int z9), .val (.int (fx0 z9)), .val (.int (fx2 z9)), .val (.int (fx4 z9)), .val (.ref b2_0), .val (.ref b3_0), .val (.int z15), .unset, .unset, .unset, .unset, .unset] [(.ref b5)]) _
    refine XS.dup X5.here hx rfl (hb hby at_128) rfl rfl ?_
    refine XS.iloadN X5.here hx rfl (hb hby at_129) rfl ?_
    refine XS.aload X5.here hx rfl (hb hby at_130) rfl rfl ?_
    show Sp p e below T5 (mkF m 132 #[.val (.int p0), .val (.int p1), .val (.int p2), .val (.int p3), .val (.int p4), .val (.int (fx0 p2)), .val (.int (fx2 p2)), .val (.int (fx4 p2)), .val (.int z8), .val (.int z9), .val (.int (fx0 z9)), .val (.int (fx2 z9)), .val (.int (fx4 z9)), .val (.ref b2_0), .val (.ref b3_0), .val (.int z15), .unset, .unset, .unset, .unset, .unset] [(.ref b2_0), (.int p0), (.ref b5), (.ref b5)]) _
    refine st6.trans ?_
    show Sp p e below T6 (mkF m 135 #[.val (.int p0), .val (.int p1), .val (.int p2), .val (.int p3), .val (.int p4), .val (.int (fx0 p2)), .val (.int (fx2 p2)), .val (.int (fx4 p2)), .val (.int z8), .val (.int z9), .val (.int (fx0 z9)), .val (.int (fx2 z9)), .val (.int (fx4 z9)), .val (.ref b2_0), .val (.ref b3_0), .val (.int z15), .unset, .unset, .unset, .unset, .unset] [(.ref b5)]) _
    refine XS.astore X6.here hx rfl (hb hby at_135) rfl rfl (l' := #[.val (.int p0), .val (.int p1), .val (.int p2), .val (.int p3), .val (.int p4), .val (.int (fx0 p2)), .val (.int (fx2 p2)), .val (.int (fx4 p2)), .val (.int z8), .val (.int z9), .val (.int (fx0 z9)), .val (.int (fx2 z9)), .val (.int (fx4 z9)), .val (.ref b2_0), .val (.ref b3_0), .val (.int z15), .val (.ref b5), .unset, .unset, .unset, .unset]) rfl ?_
    refine XS.iload X6.here hx rfl (hb hby at_137) rfl ?_
    refine XS.iconst X6.here hx rfl (hb hby at_139) ?_
    refine XS.iand X6.here hx rfl (hb hby at_140) rfl ?_
    show Sp p e below T6 (mkF m 141 #[.val (.int p0), .val (.int p1), .val (.int p2), .val (.int p3), .val (.int p4), .val (.int (fx0 p2)), .val (.int (fx2 p2)), .val (.int (fx4 p2)), .val (.int z8), .val (.int z9), .val (.int (fx0 z9)), .val (.int (fx2 z9)), .val (.int (fx4 z9)), .val (.ref b2_0), .val (.ref b3_0), .val (.int z15), .val (.ref b5), .unset, .unset, .unset, .unset] [(.int (p4 &&& (3 : Int32)))]) _
    refine XS.istore X6.here hx rfl (hb hby at_141) rfl (l' := #[.val (.int p0), .val (.int p1), .val (.int p2), .val (.int p3), .val (.int p4), .val (.int (fx0 p2)), .val (.int (fx2 p2)), .val (.int (fx4 p2)), .val (.int z8), .val (.int z9), .val (.int (fx0 z9)), .val (.int (fx2 z9)), .val (.int (fx4 z9)), .val (.ref b2_0), .val (.ref b3_0), .val (.int z15), .val (.ref b5), .val (.int (p4 &&& (3 : Int32))), .unset, .unset, .unset]) rfl ?_
    refine XS.iload X6.here hx rfl (hb hby at_143) rfl ?_
    refine XS.ifYes X6.here hx rfl (pc0 := 145) (pc' := 154) rfl (hb hby at_145) rfl ((if0 _ _).trans (feq hc3).2) (by decide) (by decide) ?_
    refine XS.iload X6.here hx rfl (hb hby at_154) rfl ?_
    show Sp p e below T6 (mkF m 156 #[.val (.int p0), .val (.int p1), .val (.int p2), .val (.int p3), .val (.int p4), .val (.int (fx0 p2)), .val (.int (fx2 p2)), .val (.int (fx4 p2)), .val (.int z8), .val (.int z9), .val (.int (fx0 z9)), .val (.int (fx2 z9)), .val (.int (fx4 z9)), .val (.ref b2_0), .val (.ref b3_0), .val (.int z15), .val (.ref b5), .val (.int (p4 &&& (3 : Int32))), .unset, .unset, .unset] [(.int (p4 &&& (3 : Int32)))]) _
    refine XS.iconst X6.here hx rfl (hb hby at_156) ?_
    refine XS.icmpYes X6.here hx rfl (pc0 := 157) (pc' := 167) rfl (hb hby at_157) rfl (feq hc4).2 (by decide) (by decide) ?_
    show Sp p e below T6 (mkF m 167 #[.val (.int p0), .val (.int p1), .val (.int p2), .val (.int p3), .val (.int p4), .val (.int (fx0 p2)), .val (.int (fx2 p2)), .val (.int (fx4 p2)), .val (.int z8), .val (.int z9), .val (.int (fx0 z9)), .val (.int (fx2 z9)), .val (.int (fx4 z9)), .val (.ref b2_0), .val (.ref b3_0), .val (.int z15), .val (.ref b5), .val (.int (p4 &&& (3 : Int32))), .unset, .unset, .unset] []) _
    refine st7 _ ?_
    show Sp p e below T7 (mkF m 170 #[.val (.int p0), .val (.int p1), .val (.int p2), .val (.int p3), .val (.int p4), .val (.int (fx0 p2)), .val (.int (fx2 p2)), .val (.int (fx4 p2)), .val (.int z8), .val (.int z9), .val (.int (fx0 z9)), .val (.int (fx2 z9)), .val (.int (fx4 z9)), .val (.ref b2_0), .val (.ref b3_0), .val (.int z15), .val (.ref b5), .val (.int (p4 &&& (3 : Int32))), .unset, .unset, .unset] [(.ref b7)]) _
    refine XS.dup X7.here hx rfl (hb hby at_170) rfl rfl ?_
    refine XS.iload X7.here hx rfl (hb hby at_171) rfl ?_
    refine XS.aload X7.here hx rfl (hb hby at_173) rfl rfl ?_
    show Sp p e below T7 (mkF m 175 #[.val (.int p0), .val (.int p1), .val (.int p2), .val (.int p3), .val (.int p4), .val (.int (fx0 p2)), .val (.int (fx2 p2)), .val (.int (fx4 p2)), .val (.int z8), .val (.int z9), .val (.int (fx0 z9)), .val (.int (fx2 z9)), .val (.int (fx4 z9)), .val (.ref b2_0), .val (.ref b3_0), .val (.int z15), .val (.ref b5), .val (.int (p4 &&& (3 : Int32))), .unset, .unset, .unset] [(.ref b3_0), (.int z15), (.ref b7), (.ref b7)]) _
    refine st8.trans ?_
    show Sp p e below T8 (mkF m 178 #[.val (.int p0), .val (.int p1), .val (.int p2), .val (.int p3), .val (.int p4), .val (.int (fx0 p2)), .val (.int (fx2 p2)), .val (.int (fx4 p2)), .val (.int z8), .val (.int z9), .val (.int (fx0 z9)), .val (.int (fx2 z9)), .val (.int (fx4 z9)), .val (.ref b2_0), .val (.ref b3_0), .val (.int z15), .val (.ref b5), .val (.int (p4 &&& (3 : Int32))), .unset, .unset, .unset] [(.ref b7)]) _
    refine XS.astore X8.here hx rfl (hb hby at_178) rfl rfl (l' := #[.val (.int p0), .val (.int p1), .val (.int p2), .val (.int p3), .val (.int p4), .val (.int (fx0 p2)), .val (.int (fx2 p2)), .val (.int (fx4 p2)), .val (.int z8), .val (.int z9), .val (.int (fx0 z9)), .val (.int (fx2 z9)), .val (.int (fx4 z9)), .val (.ref b2_0), .val (.ref b3_0), .val (.int z15), .val (.ref b5), .val (.int (p4 &&& (3 : Int32))), .val (.ref b7), .unset, .unset]) rfl ?_
    refine XS.iload X8.here hx rfl (hb hby at_180) rfl ?_
    refine XS.iconst X8.here hx rfl (hb hby at_182) ?_
    refine XS.icmpYes X8.here hx rfl (pc0 := 183) (pc' := 192) rfl (hb hby at_183) rfl (flt (own_nlti (n := 2) rfl (by have r := (own_and (x := p4) (m := (3 : Int32)) (M := 3) rfl (by decide)); have q0 := own_nei hc3 (n := 0) rfl; have q1 := own_nei hc4 (n := 1) rfl; omega) : ¬ ((p4 &&& (3 : Int32)) < (2 : Int32)))).2.1 (by decide) (by decide) ?_
    show Sp p e below T8 (mkF m 192 #[.val (.int p0), .val (.int p1), .val (.int p2), .val (.int p3), .val (.int p4), .val (.int (fx0 p2)), .val (.int (fx2 p2)), .val (.int (fx4 p2)), .val (.int z8), .val (.int z9), .val (.int (fx0 z9)), .val (.int (fx2 z9)), .val (.int (fx4 z9)), .val (.ref b2_0), .val (.ref b3_0), .val (.int z15), .val (.ref b5), .val (.int (p4 &&& (3 : Int32))), .val (.ref b7), .unset, .unset] []) _
    refine XS.iload X8.here hx rfl (hb hby at_192) rfl ?_
    refine XS.iload X8.here hx rfl (hb hby at_194) rfl ?_
    refine XS.icmpNo X8.here hx rfl (hb hby at_196) rfl (teq hc5).2 ?_
    refine XS.iload X8.here hx rfl (hb hby at_199) rfl ?_
    show Sp p e below T8 (mkF m 201 #[.val (.int p0), .val (.int p1), .val (.int p2), .val (.int p3), .val (.int p4), .val (.int (fx0 p2)), .val (.int (fx2 p2)), .val (.int (fx4 p2)), .val (.int z8), .val (.int z9), .val (.int (fx0 z9)), .val (.int (fx2 z9)), .val (.int (fx4 z9)), .val (.ref b2_0), .val (.ref b3_0), .val (.int z15), .val (.ref b5), .val (.int (p4 &&& (3 : Int32))), .val (.ref b7), .unset, .unset] [(.int (fx0 p2))]) _
    refine XS.iconst X8.here hx rfl (hb hby at_201) ?_
    refine XS.icmpNo X8.here hx rfl (hb hby at_202) rfl (flt hc6).1 ?_
    refine XS.iload X8.here hx rfl (hb hby at_205) rfl ?_
    refine XS.iload X8.here hx rfl (hb hby at_207) rfl ?_
    show Sp p e below T8 (mkF m 209 #[.val (.int p0), .val (.int p1), .val (.int p2), .val (.int p3), .val (.int p4), .val (.int (fx0 p2)), .val (.int (fx2 p2)), .val (.int (fx4 p2)), .val (.int z8), .val (.int z9), .val (.int (fx0 z9)), .val (.int (fx2 z9)), .val (.int (fx4 z9)), .val (.ref b2_0), .val (.ref b3_0), .val (.int z15), .val (.ref b5), .val (.int (p4 &&& (3 : Int32))), .val (.ref b7), .unset, .unset] [(.int (fx2 z9)), (.int (fx2 p2))]) _
    refine XS.icmpNo X8.here hx rfl (hb hby at_209) rfl (teq hc7).2 ?_
    refine XS.iload X8.here hx rfl (hb hby at_212) rfl ?_
    refine XS.iconst X8.here hx rfl (hb hby at_214) ?_
    refine XS.icmpNo X8.here hx rfl (hb hby at_215) rfl (flt hc8).1 ?_
    show Sp p e below T8 (mkF m 218 #[.val (.int p0), .val (.int p1), .val (.int p2), .val (.int p3), .val (.int p4), .val (.int (fx0 p2)), .val (.int (fx2 p2)), .val (.int (fx4 p2)), .val (.int z8), .val (.int z9), .val (.int (fx0 z9)), .val (.int (fx2 z9)), .val (.int (fx4 z9)), .val (.ref b2_0), .val (.ref b3_0), .val (.int z15), .val (.ref b5), .val (.int (p4 &&& (3 : Int32))), .val (.ref b7), .unset, .unset] []) _
    refine XS.iload X8.here hx rfl (hb hby at_218) rfl ?_
    refine XS.iload X8.here hx rfl (hb hby at_220) rfl ?_
    refine XS.icmpYes X8.here hx rfl (pc0 := 222) (pc' := 229) rfl (hb hby at_222) rfl (feq hc9).2 (by decide) (by decide) ?_
    refine XS.iconst X8.here hx rfl (hb hby at_229) ?_
    show Sp p e below T8 (mkF m 230 #[.val (.int p0), .val (.int p1), .val (.int p2), .val (.int p3), .val (.int p4), .val (.int (fx0 p2)), .val (.int (fx2 p2)), .val (.int (fx4 p2)), .val (.int z8), .val (.int z9), .val (.int (fx0 z9)), .val (.int (fx2 z9)), .val (.int (fx4 z9)), .val (.ref b2_0), .val (.ref b3_0), .val (.int z15), .val (.ref b5), .val (.int (p4 &&& (3 : Int32))), .val (.ref b7), .unset, .unset] [(.int (0 : Int32))]) _
    refine XS.istore X8.here hx rfl (hb hby at_230) rfl (l' := #[.val (.int p0), .val (.int p1), .val (.int p2), .val (.int p3), .val (.int p4), .val (.int (fx0 p2)), .val (.int (fx2 p2)), .val (.int (fx4 p2)), .val (.int z8), .val (.int z9), .val (.int (fx0 z9)), .val (.int (fx2 z9)), .val (.int (fx4 z9)), .val (.ref b2_0), .val (.ref b3_0), .val (.int z15), .val (.ref b5), .val (.int (p4 &&& (3 : Int32))), .val (.ref b7), .unset, .val (.int (0 : Int32))]) rfl ?_
    refine XS.iloadN X8.here hx rfl (hb hby at_232) rfl ?_
    refine XS.iload X8.here hx rfl (hb hby at_233) rfl ?_
    refine XS.icmpYes X8.here hx rfl (pc0 := 235) (pc' := 247) rfl (hb hby at_235) rfl (feq hc10).2 (by decide) (by decide) ?_
    show Sp p e below T8 (mkF m 247 #[.val (.int p0), .val (.int p1), .val (.int p2), .val (.int p3), .val (.int p4), .val (.int (fx0 p2)), .val (.int (fx2 p2)), .val (.int (fx4 p2)), .val (.int z8), .val (.int z9), .val (.int (fx0 z9)), .val (.int (fx2 z9)), .val (.int (fx4 z9)), .val (.ref b2_0), .val (.ref b3_0), .val (.int z15), .val (.ref b5), .val (.int (p4 &&& (3 : Int32))), .val (.ref b7), .unset, .val (.int (0 : Int32))] []) _
    refine XS.iconst X8.here hx rfl (hb hby at_247) ?_
    refine XS.istore X8.here hx rfl (hb hby at_248) rfl (l' := #[.val (.int p0), .val (.int p1), .val (.int p2), .val (.int p3), .val (.int p4), .val (.int (fx0 p2)), .val (.int (fx2 p2)), .val (.int (fx4 p2)), .val (.int z8), .val (.int z9), .val (.int (fx0 z9)), .val (.int (fx2 z9)), .val (.int (fx4 z9)), .val (.ref b2_0), .val (.ref b3_0), .val (.int z15), .val (.ref b5), .val (.int (p4 &&& (3 : Int32))), .val (.ref b7), .val (.int (0 : Int32)), .val (.int (0 : Int32))]) rfl ?_
    refine XS.aload X8.here hx rfl (hb hby at_250) rfl rfl ?_
    refine XS.aload X8.here hx rfl (hb hby at_252) rfl rfl ?_
    show Sp p e below T8 (mkF m 254 #[.val (.int p0), .val (.int p1), .val (.int p2), .val (.int p3), .val (.int p4), .val (.int (fx0 p2)), .val (.int (fx2 p2)), .val (.int (fx4 p2)), .val (.int z8), .val (.int z9), .val (.int (fx0 z9)), .val (.int (fx2 z9)), .val (.int (fx4 z9)), .val (.ref b2_0), .val (.ref b3_0), .val (.int z15), .val (.ref b5), .val (.int (p4 &&& (3 : Int32))), .val (.ref b7), .val (.int (0 : Int32)), .val (.int (0 : Int32))] [(.ref b7), (.ref b5)]) _
    refine st10.trans ?_
    show Sp p e below T10 (mkF m 257 #[.val (.int p0), .val (.int p1), .val (.int p2), .val (.int p3), .val (.int p4), .val (.int (fx0 p2)), .val (.int (fx2 p2)), .val (.int (fx4 p2)), .val (.int z8), .val (.int z9), .val (.int (fx0 z9)), .val (.int (fx2 z9)), .val (.int (fx4 z9)), .val (.ref b2_0), .val (.ref b3_0), .val (.int z15), .val (.ref b5), .val (.int (p4 &&& (3 : Int32))), .val (.ref b7), .val (.int (0 : Int32)), .val (.int (0 : Int32))] [(.int (0 : Int32))]) _
    refine XS.iload X10.here hx rfl (hb hby at_257) rfl ?_
    refine XS.icmpNo X10.here hx rfl (hb hby at_259) rfl (teq (by decide : (0 : Int32) = (0 : Int32))).2 ?_
    refine XS.iconst X10.here hx rfl (hb hby at_262) ?_
    refine XS.goto X10.here hx rfl (pc0 := 263) (pc' := 267) rfl (hb hby at_263) (by decide) (by decide) ?_
    show Sp p e below T10 (mkF m 267 #[.val (.int p0), .val (.int p1), .val (.int p2), .val (.int p3), .val (.int p4), .val (.int (fx0 p2)), .val (.int (fx2 p2)), .val (.int (fx4 p2)), .val (.int z8), .val (.int z9), .val (.int (fx0 z9)), .val (.int (fx2 z9)), .val (.int (fx4 z9)), .val (.ref b2_0), .val (.ref b3_0), .val (.int z15), .val (.ref b5), .val (.int (p4 &&& (3 : Int32))), .val (.ref b7), .val (.int (0 : Int32)), .val (.int (0 : Int32))] [(.int (1 : Int32))]) _
    exact retN X10 hx (t := .boolean) Bd.returns (by simp) (hb hby at_267) hr
  · skip
    exact ⟨rfl, N10⟩
set_option maxRecDepth 65536 in
set_option maxHeartbeats 40000000 in
theorem rm48 (l : Launch) (Z : State) (a0 : Array Value) (hw : ∀ d ∈ tables_1, d.before a0 Z = true) (ws : List Jvm.Cond) (cs_v : Int32) (hp : Perm Z cs_v) (p0 : Int32) (p1 : Int32) (p2 : Int32) (p3 : Int32) (p4 : Int32) (z8 : Int32) (z9 : Int32) (z15 : Int32) (h0 : Heap) (n0 : Nat) (O0 : Old Z n0 h0) (hcut28 : Cut_0_28 p0 p1 p2 p3 p4 ((p2 &&& (3 : Int32)) % (3 : Int32)) ((((p2.toUInt32 >>> ((2 : Int32) &&& 31).toUInt32).toInt32) &&& (255 : Int32)).toUInt32.toUInt16.toUInt32.toInt32) ((((p2.toUInt32 >>> ((10 : Int32) &&& 31).toUInt32).toInt32) &&& (255 : Int32)).toUInt32.toUInt16.toUInt32.toInt32) z8 z9) (hcut109 : Cut_0_109 p0 p1 p2 p3 p4 ((p2 &&& (3 : Int32)) % (3 : Int32)) ((((p2.toUInt32 >>> ((2 : Int32) &&& 31).toUInt32).toInt32) &&& (255 : Int32)).toUInt32.toUInt16.toUInt32.toInt32) ((((p2.toUInt32 >>> ((10 : Int32) &&& 31).toUInt32).toInt32) &&& (255 : Int32)).toUInt32.toUInt16.toUInt32.toInt32) z8 z9 ((z9 &&& (3 : Int32)) % (3 : Int32)) ((((z9.toUInt32 >>> ((2 : Int32) &&& 31).toUInt32).toInt32) &&& (255 : Int32)).toUInt32.toUInt16.toUInt32.toInt32) ((((z9.toUInt32 >>> ((10 : Int32) &&& 31).toUInt32).toInt32) &&& (255 : Int32)).toUInt32.toUInt16.toUInt32.toInt32) z15) (hc3 : ¬ ((p4 &&& (3 : Int32)) = (0 : Int32))) (hc4 : ¬ ((p4 &&& (3 : Int32)) = (1 : Int32))) (hc5 : ((p2 &&& (3 : Int32)) % (3 : Int32)) = ((z9 &&& (3 : Int32)) % (3 : Int32))) (hc6 : ¬ (((p2 &&& (3 : Int32)) % (3 : Int32)) < (1 : Int32))) (hc7 : ((((p2.toUInt32 >>> ((2 : Int32) &&& 31).toUInt32).toInt32) &&& (255 : Int32)).toUInt32.toUInt16.toUInt32.toInt32) = ((((z9.toUInt32 >>> ((2 : Int32) &&& 31).toUInt32).toInt32) &&& (255 : Int32)).toUInt32.toUInt16.toUInt32.toInt32)) (hc8 : ¬ (((p2 &&& (3 : Int32)) % (3 : Int32)) < (2 : Int32))) (hc9 : ((((p2.toUInt32 >>> ((10 : Int32) &&& 31).toUInt32).toInt32) &&& (255 : Int32)).toUInt32.toUInt16.toUInt32.toInt32) = ((((z9.toUInt32 >>> ((10 : Int32) &&& 31).toUInt32).toInt32) &&& (255 : Int32)).toUInt32.toUInt16.toUInt32.toInt32)) (hc10 : ¬ (p0 = z15)) :
    MetFree l x (head1 (Jvm.Cond.code x code maxLocals ret :: ws) room_1) (fun a U => a = #[(.int p0), (.int p1), (.int p2), (.int p3), (.int p4)] ∧ Z.Warmed39 U.vm ∧ U.heap = h0 ∧ CHv Z own_EL U.vm h0) (fun _ _ _ _ _ => True) (fun _ U o U' => ∃ v L, o = .returned v ∧ (v = some (.int (1 : Int32)) ∧ Fr n0 L) ∧ ReturnedEndW U o U' L 32 1152) := by
  refine MetFree.of_bodySF (plainFor_of_name pn_1) hisR ?_
  intro p e s m args below meth c s₁ Bd hml0 hP hK
  obtain ⟨rfl, hZo, hh, hCH⟩ := hP
  have hx := Bd.exec
  have hby := Bd.bytes
  have hml : c.maxLocals = 21 := hml0
  have hown : (s.setVm s.vm).vm.findClass "com/example/epcrtools/epcrtools/exchange/RuleSetKeyEqualsPinLaw" = some m.cls := findClass_of_methodNamed Bd.named
  have hnm := (name_of_methodNamed Bd.named Bd.method).1
  have X0 : Stand p l e room_1 (s.setVm s.vm) m #[(.int p0), (.int p1), (.int p2), (.int p3), (.int p4)] below meth c s₁ [] 0 0 := Stand.of_body Bd
  have e0 : s₁.heap = h0 := by rw [← hh, Bd.state]; rfl
  have N0 := Fr.nil n0
  have hZ : Z.Warmed39 (s.setVm s.vm).vm := hZo
  have CH0 := CHr.refl hCH
  have hS0 : s.Since s.vm 0 := (State.WarmedH.refl s).since 0
  have hk0 : 0 ≤ h0.size := Nat.zero_le _
  have hp' := hp
  obtain ⟨S_COMPACT_STRINGS, h_cs⟩ := hp'
  have pre0 : ∀ t, Steps p.tables e below (s₁.setTop (mkF m 0 #[.val (.int p0), .val (.int p1), .val (.int p2), .val (.int p3), .val (.int p4), .unset, .unset, .unset, .unset, .unset, .unset, .unset, .unset, .unset, .unset, .unset, .unset, .unset, .unset, .unset, .unset] [])) t → Steps p.tables e below (s₁.setTop (entryFrame m #[(.int p0), (.int p1), (.int p2), (.int p3), (.int p4)] maxLocals)) t := fun t k => castTop (ef_0_0 m p0 p1 p2 p3 p4) k
  have st1 := hcut28 X0 hx hZ hw hby hown
  obtain ⟨_, _, ⟨T2, L2, k2, n2⟩, -, XX2, Sq2, gq2, ⟨Lc2, hQ2, l2, y2, z2, C2⟩, st2⟩ := callSS X0 hx (y := y2) hown (mvT hZ (wq hw 0 rfl)) (mvT hZ (wq hw 1 rfl)) (mvT hZ (wq hw 2 rfl)) (mvT hZ (wq hw 3 rfl)) (by decide) (own_backC (SL := []) (W := 0) (rmS1 l Z a0 hw [] cs_v hp ((p2 &&& (3 : Int32)) % (3 : Int32)) ((((p2.toUInt32 >>> ((2 : Int32) &&& 31).toUInt32).toInt32) &&& (255 : Int32)).toUInt32.toUInt16.toUInt32.toInt32) ((((p2.toUInt32 >>> ((10 : Int32) &&& 31).toUInt32).toInt32) &&& (255 : Int32)).toUInt32.toUInt16.toUInt32.toInt32) h0 n0 O0 (own_ch2 ((p2.toUInt32 >>> ((2 : Int32) &&& 31).toUInt32).toInt32)) (own_ch2 ((p2.toUInt32 >>> ((10 : Int32) &&& 31).toUInt32).toInt32))) hZ (wq hw 3 rfl) (wq hw 2 rfl) (by decide) (by decide) (own_EW hw) CH0.1 all0) (g := (mkF m 93 #[.val (.int p0), .val (.int p1), .val (.int p2), .val (.int p3), .val (.int p4), .val (.int (fx0 p2)), .val (.int (fx2 p2)), .val (.int (fx4 p2)), .val (.int z8), .val (.int z9), .val (.int (fx0 z9)), .val (.int (fx2 z9)), .val (.int (fx4 z9)), .unset, .unset, .unset, .unset, .unset, .unset, .unset, .unset] [(.int (fx4 p2)), (.int (fx2 p2)), (.int (fx0 p2))])) rfl (by rw [hml]; rfl) (argsL := [(.int (fx0 p2)), (.int (fx2 p2)), (.int (fx4 p2))]) (rest := []) (lenOf pd_5 rfl) rfl (by show 2 * 0 + _ ≤ _; exact Nat.le_of_eq rfl) (hb hby at_93) (fun _ _ => ⟨rfl, e0, (by decide : 0 + 4 ≤ _), (by decide : 0 + 8 ≤ _)⟩)
  dsimp only [Pt.U, Pt.locs, Pt.cells, Pt.slots] at XX2 Sq2 gq2 l2 y2 z2 st2 hQ2 C2
  subst l2 y2 z2
  obtain ⟨X2, hS2, hZ2, hown2⟩ := rebS hS0 (by rw [e0]; exact hk0) XX2 Sq2 gq2 hZ hown
  obtain ⟨b2_0, y2_0, kc2_0, rfl, Nq2, Kq2, sq_b2_0, fq2_0, fq2_1, fq2_2, fq2_3⟩ := hQ2
  have N2 := Fr.app N0 Nq2
  have g_b2_0 : n0 ≤ b2_0 := Nat.le_trans (own_sz O0) sq_b2_0
  have sz_b2_0 : h0.size ≤ b2_0 := Nat.le_trans (Keep.refl h0 []).1 sq_b2_0
  have CH2 := CH0.trans C2
  have hk2 : T2.heap.size ≤ T2.heap.size := Nat.le_refl _
  have O2 := O0.keep Kq2 all0
  have K2 : Keep h0 T2.heap [] := (Keep.refl h0 []).trans Kq2 all0
  obtain ⟨_, _, ⟨T3, L3, k3, n3⟩, -, XX3, Sq3, gq3, ⟨Lc3, hQ3, l3, y3, z3, C3⟩, st3⟩ := callSS X2 hx (y := y2) hown2 (mvT hZ2 (wq hw 0 rfl)) (mvT hZ2 (wq hw 1 rfl)) (mvT hZ2 (wq hw 2 rfl)) (mvT hZ2 (wq hw 3 rfl)) (by decide) (own_backC (SL := []) (W := 0) (rmS1 l Z a0 hw [] cs_v hp ((z9 &&& (3 : Int32)) % (3 : Int32)) ((((z9.toUInt32 >>> ((2 : Int32) &&& 31).toUInt32).toInt32) &&& (255 : Int32)).toUInt32.toUInt16.toUInt32.toInt32) ((((z9.toUInt32 >>> ((10 : Int32) &&& 31).toUInt32).toInt32) &&& (255 : Int32)).toUInt32.toUInt16.toUInt32.toInt32) T2.heap n0 O2 (own_ch2 ((z9.toUInt32 >>> ((2 : Int32) &&& 31).toUInt32).toInt32)) (own_ch2 ((z9.toUInt32 >>> ((10 : Int32) &&& 31).toUInt32).toInt32))) hZ2 (wq hw 3 rfl) (wq hw 2 rfl) (by decide) (by decide) (own_EW hw) CH2.1 all0) (g := (mkF m 104 #[.val (.int p0), .val (.int p1), .val (.int p2), .val (.int p3), .val (.int p4), .val (.int (fx0 p2)), .val (.int (fx2 p2)), .val (.int (fx4 p2)), .val (.int z8), .val (.int z9), .val (.int (fx0 z9)), .val (.int (fx2 z9)), .val (.int (fx4 z9)), .val (.ref b2_0), .unset, .unset, .unset, .unset, .unset, .unset, .unset] [(.int (fx4 z9)), (.int (fx2 z9)), (.int (fx0 z9))])) rfl (by rw [hml]; rfl) (argsL := [(.int (fx0 z9)), (.int (fx2 z9)), (.int (fx4 z9))]) (rest := []) (lenOf pd_5 rfl) rfl (by show 2 * 0 + _ ≤ _; exact Nat.le_of_eq rfl) (hb hby at_104) (fun _ _ => ⟨rfl, rfl, (by decide : 4 + 4 ≤ _), (by decide : 8 + 8 ≤ _)⟩)
  dsimp only [Pt.U, Pt.locs, Pt.cells, Pt.slots] at XX3 Sq3 gq3 l3 y3 z3 st3 hQ3 C3
  subst l3 y3 z3
  obtain ⟨X3, hS3, hZ3, hown3⟩ := rebS hS2 hk2 XX3 Sq3 gq3 hZ2 hown2
  obtain ⟨b3_0, y3_0, kc3_0, rfl, Nq3, Kq3, sq_b3_0, fq3_0, fq3_1, fq3_2, fq3_3⟩ := hQ3
  have N3 := Fr.app N2 Nq3
  have g_b3_0 : n0 ≤ b3_0 := Nat.le_trans (own_sz O2) sq_b3_0
  have sz_b3_0 : h0.size ≤ b3_0 := Nat.le_trans K2.1 sq_b3_0
  have CH3 := CH2.trans C3
  have hk3 : T3.heap.size ≤ T3.heap.size := Nat.le_refl _
  have O3 := O2.keep Kq3 all0
  have K3 : Keep h0 T3.heap [] := K2.trans Kq3 all0
  have st4 := hcut109 b2_0 b3_0 X3 hx hZ3 hw hby hown3
  obtain ⟨T5, h5, X5, e5, E5, A5, D5, -, st5⟩ := newO X3 hx hZ3 hown3 (wq hw 34 rfl) (wq hw 35 rfl) (wq hw 36 rfl) rfl (g := (mkF m 125 #[.val (.int p0), .val (.int p1), .val (.int p2), .val (.int p3), .val (.int p4), .val (.int (fx0 p2)), .val (.int (fx2 p2)), .val (.int (fx4 p2)), .val (.int z8), .val (.int z9), .val (.int (fx0 z9)), .val (.int (fx2 z9)), .val (.int (fx4 z9)), .val (.ref b2_0), .val (.ref b3_0), .val (.int z15), .unset, .unset, .unset, .unset, .unset] [])) rfl (hb hby at_125) (by decide) (by decide)
  obtain ⟨b5, g5⟩ : ∃ z, z = T3.heap.size := ⟨_, rfl⟩
  rw [← g5] at A5 D5 st5
  have g_b5 : n0 ≤ b5 := Nat.le_trans (own_sz O3) (Nat.le_of_eq g5.symm)
  have sz_b5 : h0.size ≤ b5 := Nat.le_trans K3.1 (Nat.le_of_eq g5.symm)
  have O5 := O3.ext E5
  have K5 : Keep h0 h5 [] := K3.ext E5
  have CH5 := CH3.trans (CHr.ext E5 CH3.1)
  have hk5 := Nat.le_trans hk3 E5.1
  have F_dataSchema_b5 : Fld Z h5 b5 "com/example/epcrtools/epcrtools/exchange/RuleSetKey" "dataSchema" "I" (.int (0 : Int32)) := D5 (Or.inr (wq hw 42 rfl)) (ty := .int) (by decide)
  have F_schemaVersion_b5 : Fld Z h5 b5 "com/example/epcrtools/epcrtools/exchange/RuleSetKey" "schemaVersion" "Ljava/lang/String;" .null := D5 (Or.inr (wq hw 49 rfl)) (ty := (.object "java/lang/String")) (by decide)
  obtain ⟨_, _, ⟨T6, L6, k6, n6⟩, -, X6, ⟨Lc6, hQ6, l6, y6, z6⟩, st6⟩ := X5.specialBack hx (y := y7) rfl hown3 (mvT hZ3 (wq hw 37 rfl)) (mvT hZ3 (wq hw 38 rfl)) (mvT hZ3 (wq hw 39 rfl)) (by decide) (backOf (W := 1) (rm17 l Z a0 hw [] cs_v hp b5 p0 b2_0 h5 n0 O5 A5 F_dataSchema_b5 F_schemaVersion_b5 g_b5 ((fq2_0.keep Kq3).ext E5)) hZ3 (wq hw 39 rfl) (wq hw 36 rfl) (by decide) (by decide)) (g := (mkF m 132 #[.val (.int p0), .val (.int p1), .val (.int p2), .val (.int p3), .val (.int p4), .val (.int (fx0 p2)), .val (.int (fx2 p2)), .val (.int (fx4 p2)), .val (.int z8), .val (.int z9), .val (.int (fx0 z9)), .val (.int (fx2 z9)), .val (.int (fx4 z9)), .val (.ref b2_0), .val (.ref b3_0), .val (.int z15), .unset, .unset, .unset, .unset, .unset] [(.ref b2_0), (.int p0), (.ref b5), (.ref b5)])) rfl (by rw [hml]; rfl) (Steps.refl _) (a := b5) (argsL := [(.int p0), (.ref b2_0)]) (rest := [(.ref b5)]) (lenOf pd_7 rfl) rfl (by show 2 * 0 + _ ≤ _; exact Nat.le_of_eq rfl) (hb hby at_132) (fun _ _ => ⟨rfl, e5, (by decide : 9 + 0 ≤ _), (by decide : 18 + 0 ≤ _)⟩)
  dsimp only [Pt.U, Pt.locs, Pt.cells, Pt.slots] at X6 l6 y6 z6 st6 hQ6
  subst l6 y6 z6
  obtain ⟨rfl, Nq6, Kq6, fq6_0, fq6_1, fq6_2⟩ := hQ6
  have N6 := Fr.app N3 Nq6
  have CH6 := CH5.trans (CHr.keep Kq6 (allS (Safe.exa hZ3.alike A5 (by decide) (by decide)) all0) CH5.1)
  have hk6 := Nat.le_trans hk5 Kq6.1
  have O6 := O5.keep Kq6 (allS g_b5 all0)
  have K6 : Keep h0 T6.heap [] := K5.trans Kq6 (allS (Or.inr sz_b5) all0)
  obtain ⟨T7, h7, X7, e7, E7, A7, D7, -, st7⟩ := newO X6 hx hZ3 hown3 (wq hw 34 rfl) (wq hw 35 rfl) (wq hw 36 rfl) rfl (g := (mkF m 167 #[.val (.int p0), .val (.int p1), .val (.int p2), .val (.int p3), .val (.int p4), .val (.int (fx0 p2)), .val (.int (fx2 p2)), .val (.int (fx4 p2)), .val (.int z8), .val (.int z9), .val (.int (fx0 z9)), .val (.int (fx2 z9)), .val (.int (fx4 z9)), .val (.ref b2_0), .val (.ref b3_0), .val (.int z15), .val (.ref b5), .val (.int (p4 &&& (3 : Int32))), .unset, .unset, .unset] [])) rfl (hb hby at_167) (by decide) (by decide)
  obtain ⟨b7, g7⟩ : ∃ z, z = T6.heap.size := ⟨_, rfl⟩
  rw [← g7] at A7 D7 st7
  have g_b7 : n0 ≤ b7 := Nat.le_trans (own_sz O6) (Nat.le_of_eq g7.symm)
  have sz_b7 : h0.size ≤ b7 := Nat.le_trans K6.1 (Nat.le_of_eq g7.symm)
  have O7 := O6.ext E7
  have K7 : Keep h0 h7 [] := K6.ext E7
  have CH7 := CH6.trans (CHr.ext E7 CH6.1)
  have hk7 := Nat.le_trans hk6 E7.1
  have F_dataSchema_b7 : Fld Z h7 b7 "com/example/epcrtools/epcrtools/exchange/RuleSetKey" "dataSchema" "I" (.int (0 : Int32)) := D7 (Or.inr (wq hw 42 rfl)) (ty := .int) (by decide)
  have F_schemaVersion_b7 : Fld Z h7 b7 "com/example/epcrtools/epcrtools/exchange/RuleSetKey" "schemaVersion" "Ljava/lang/String;" .null := D7 (Or.inr (wq hw 49 rfl)) (ty := (.object "java/lang/String")) (by decide)
  obtain ⟨_, _, ⟨T8, L8, k8, n8⟩, -, X8, ⟨Lc8, hQ8, l8, y8, z8⟩, st8⟩ := X7.specialBack hx (y := y7) rfl hown3 (mvT hZ3 (wq hw 37 rfl)) (mvT hZ3 (wq hw 38 rfl)) (mvT hZ3 (wq hw 39 rfl)) (by decide) (backOf (W := 1) (rm17 l Z a0 hw [] cs_v hp b7 z15 b3_0 h7 n0 O7 A7 F_dataSchema_b7 F_schemaVersion_b7 g_b7 (((fq3_0.ext E5).keep Kq6).ext E7)) hZ3 (wq hw 39 rfl) (wq hw 36 rfl) (by decide) (by decide)) (g := (mkF m 175 #[.val (.int p0), .val (.int p1), .val (.int p2), .val (.int p3), .val (.int p4), .val (.int (fx0 p2)), .val (.int (fx2 p2)), .val (.int (fx4 p2)), .val (.int z8), .val (.int z9), .val (.int (fx0 z9)), .val (.int (fx2 z9)), .val (.int (fx4 z9)), .val (.ref b2_0), .val (.ref b3_0), .val (.int z15), .val (.ref b5), .val (.int (p4 &&& (3 : Int32))), .unset, .unset, .unset] [(.ref b3_0), (.int z15), (.ref b7), (.ref b7)])) rfl (by rw [hml]; rfl) (Steps.refl _) (a := b7) (argsL := [(.int z15), (.ref b3_0)]) (rest := [(.ref b7)]) (lenOf pd_7 rfl) rfl (by show 2 * 0 + _ ≤ _; exact Nat.le_of_eq rfl) (hb hby at_175) (fun _ _ => ⟨rfl, e7, (by decide : 10 + 0 ≤ _), (by decide : 20 + 0 ≤ _)⟩)
  dsimp only [Pt.U, Pt.locs, Pt.cells, Pt.slots] at X8 l8 y8 z8 st8 hQ8
  subst l8 y8 z8
  obtain ⟨rfl, Nq8, Kq8, fq8_0, fq8_1, fq8_2⟩ := hQ8
  have N8 := Fr.app N6 Nq8
  have CH8 := CH7.trans (CHr.keep Kq8 (allS (Safe.exa hZ3.alike A7 (by decide) (by decide)) all0) CH7.1)
  have hk8 := Nat.le_trans hk7 Kq8.1
  have O8 := O7.keep Kq8 (allS g_b7 all0)
  have K8 : Keep h0 T8.heap [] := K7.trans Kq8 (allS (Or.inr sz_b7) all0)
  have f_9 := ((fq6_1.ext E7).keep Kq8 (ninS (Nat.ne_of_lt (Nat.lt_of_lt_of_le (A5.keep Kq6).lt (Nat.le_of_eq g7.symm))) nin0))
  obtain ⟨cq10, kq10, q10a, q10b, q10c⟩ := isOf hZ3 rfl ((fq6_0.ext E7).keep Kq8)
  obtain ⟨_, _, ⟨T10, L10, k10, n10⟩, -, X10, ⟨Lc10, hQ10, l10, y10, z10⟩, st10⟩ := X8.virtualBack hx (y := y8) (z := y8) hown3 (mvT hZ3 (wq hw 50 rfl)) (mvT hZ3 (wq hw 51 rfl)) (notFace_of_selects (args := #[]) (mvT hZ3 (wq hw 53 rfl))) (mvT hZ3 (wq hw 53 rfl)) (mvT hZ3 (wq hw 52 rfl)) (by decide) (backOf (W := 0) (rm40 l Z a0 hw [] cs_v hp b5 b7 p0 z15 T8.heap n0 O8 fq8_0 f_9 fq8_1 hc10) hZ3 (wq hw 54 rfl) (wq hw 36 rfl) (by decide) (by decide)) q10a q10c (g := (mkF m 254 #[.val (.int p0), .val (.int p1), .val (.int p2), .val (.int p3), .val (.int p4), .val (.int (fx0 p2)), .val (.int (fx2 p2)), .val (.int (fx4 p2)), .val (.int z8), .val (.int z9), .val (.int (fx0 z9)), .val (.int (fx2 z9)), .val (.int (fx4 z9)), .val (.ref b2_0), .val (.ref b3_0), .val (.int z15), .val (.ref b5), .val (.int (p4 &&& (3 : Int32))), .val (.ref b7), .val (.int (0 : Int32)), .val (.int (1 : Int32))] [(.ref b7), (.ref b5)])) rfl (by rw [hml]; rfl) (Steps.refl _) (argsL := [(.ref b7)]) (rest := []) (lenOf pd_8 rfl) rfl (by show 2 * 0 + _ ≤ _; exact Nat.le_of_eq rfl) (hb hby at_254) (fun _ _ => ⟨rfl, rfl, (by decide : 10 + 0 ≤ _), (by decide : 20 + 0 ≤ _)⟩)
  dsimp only [Pt.U, Pt.locs, Pt.cells, Pt.slots] at X10 l10 y10 z10 st10 hQ10
  subst l10 y10 z10
  obtain ⟨rfl, Nq10, eq10⟩ := hQ10
  have N10 := Fr.app N8 Nq10
  obtain ⟨fs, hr, hrun, hended, hE⟩ := Stand.leaveW (s := s) X10 hS3 (by rw [eq10]; exact hk8) (v := some (.int (1 : Int32))) (fun h => by rw [Bd.returns] at h; cases h)
  refine ⟨_, _, pre0 _ ?_, hrun, hended, _, _, rfl, ?_, hE.1, hE.2.1, hE.2.2.1, hE.2.2.2.mono (by decide) (by decide)⟩
  · show Sp p e below s₁ (mkF m 0 #[.val (.int p0), .val (.int p1), .val (.int p2), .val (.int p3), .val (.int p4), .unset, .unset, .unset, .unset, .unset, .unset, .unset, .unset, .unset, .unset, .unset, .unset, .unset, .unset, .unset, .unset] []) _
    refine XS.iloadN X0.here hx rfl (hb hby at_0) rfl ?_
    refine XS.iconst X0.here hx rfl (hb hby at_1) ?_
    refine XS.iand X0.here hx rfl (hb hby at_2) rfl ?_
    refine XS.iconst X0.here hx rfl (hb hby at_3) ?_
    show Sp p e below s₁ (mkF m 4 #[.val (.int p0), .val (.int p1), .val (.int p2), .val (.int p3), .val (.int p4), .unset, .unset, .unset, .unset, .unset, .unset, .unset, .unset, .unset, .unset, .unset, .unset, .unset, .unset, .unset, .unset] [(.int (3 : Int32)), (.int (p2 &&& (3 : Int32)))]) _
    refine iremM X0 hx rfl (hb hby at_4) rfl (by decide) ?_
    show Sp p e below s₁ (mkF m 5 #[.val (.int p0), .val (.int p1), .val (.int p2), .val (.int p3), .val (.int p4), .unset, .unset, .unset, .unset, .unset, .unset, .unset, .unset, .unset, .unset, .unset, .unset, .unset, .unset, .unset, .unset] [(.int (fx0 p2))]) _
    refine XS.istore X0.here hx rfl (hb hby at_5) rfl (l' := #[.val (.int p0), .val (.int p1), .val (.int p2), .val (.int p3), .val (.int p4), .val (.int (fx0 p2)), .unset, .unset, .unset, .unset, .unset, .unset, .unset, .unset, .unset, .unset, .unset, .unset, .unset, .unset, .unset]) rfl ?_
    refine XS.iloadN X0.here hx rfl (hb hby at_7) rfl ?_
    refine XS.iconst X0.here hx rfl (hb hby at_8) ?_
    refine XS.iushr X0.here hx rfl (hb hby at_9) rfl ?_
    show Sp p e below s₁ (mkF m 10 #[.val (.int p0), .val (.int p1), .val (.int p2), .val (.int p3), .val (.int p4), .val (.int (fx0 p2)), .unset, .unset, .unset, .unset, .unset, .unset, .unset, .unset, .unset, .unset, .unset, .unset, .unset, .unset, .unset] [(.int (fx1 p2))]) _
    refine XS.sipush X0.here hx rfl (hb hby at_10) ?_
    refine XS.iand X0.here hx rfl (hb hby at_13) rfl ?_
    refine XS.i2c X0.here hx rfl (hb hby at_14) rfl ?_
    refine XS.istore X0.here hx rfl (hb hby at_15) rfl (l' := #[.val (.int p0), .val (.int p1), .val (.int p2), .val (.int p3), .val (.int p4), .val (.int (fx0 p2)), .val (.int (fx2 p2)), .unset, .unset, .unset, .unset, .unset, .unset, .unset, .unset, .unset, .unset, .unset, .unset, .unset, .unset]) rfl ?_
    show Sp p e below s₁ (mkF m 17 #[.val (.int p0), .val (.int p1), .val (.int p2), .val (.int p3), .val (.int p4), .val (.int (fx0 p2)), .val (.int (fx2 p2)), .unset, .unset, .unset, .unset, .unset, .unset, .unset, .unset, .unset, .unset, .unset, .unset, .unset, .unset] []) _
    refine XS.iloadN X0.here hx rfl (hb hby at_17) rfl ?_
    refine XS.bipush X0.here hx rfl (hb hby at_18) ?_
    refine XS.iushr X0.here hx rfl (hb hby at_20) rfl ?_
    refine XS.sipush X0.here hx rfl (hb hby at_21) ?_
    show Sp p e below s₁ (mkF m 24 #[.val (.int p0), .val (.int p1), .val (.int p2), .val (.int p3), .val (.int p4), .val (.int (fx0 p2)), .val (.int (fx2 p2)), .unset, .unset, .unset, .unset, .unset, .unset, .unset, .unset, .unset, .unset, .unset, .unset, .unset, .unset] [(.int (255 : Int32)), (.int (fx3 p2))]) _
    refine XS.iand X0.here hx rfl (hb hby at_24) rfl ?_
    refine XS.i2c X0.here hx rfl (hb hby at_25) rfl ?_
    refine XS.istore X0.here hx rfl (hb hby at_26) rfl (l' := #[.val (.int p0), .val (.int p1), .val (.int p2), .val (.int p3), .val (.int p4), .val (.int (fx0 p2)), .val (.int (fx2 p2)), .val (.int (fx4 p2)), .unset, .unset, .unset, .unset, .unset, .unset, .unset, .unset, .unset, .unset, .unset, .unset, .unset]) rfl ?_
    show Sp p e below s₁ (mkF m 28 #[.val (.int p0), .val (.int p1), .val (.int p2), .val (.int p3), .val (.int p4), .val (.int (fx0 p2)), .val (.int (fx2 p2)), .val (.int (fx4 p2)), .unset, .unset, .unset, .unset, .unset, .unset, .unset, .unset, .unset, .unset, .unset, .unset, .unset] []) _
    refine st1 _ ?_
    show Sp p e below s₁ (mkF m 56 #[.val (.int p0), .val (.int p1), .val (.int p2), .val (.int p3), .val (.int p4), .val (.int (fx0 p2)), .val (.int (fx2 p2)), .val (.int (fx4 p2)), .val (.int z8), .val (.int z9), .unset, .unset, .unset, .unset, .unset, .unset, .unset, .unset, .unset, .unset, .unset] []) _
    refine XS.iload X0.here hx rfl (hb hby at_56) rfl ?_
    refine XS.iconst X0.here hx rfl (hb hby at_58) ?_
    refine XS.iand X0.here hx rfl (hb hby at_59) rfl ?_
    refine XS.iconst X0.here hx rfl (hb hby at_60) ?_
    show Sp p e below s₁ (mkF m 61 #[.val (.int p0), .val (.int p1), .val (.int p2), .val (.int p3), .val (.int p4), .val (.int (fx0 p2)), .val (.int (fx2 p2)), .val (.int (fx4 p2)), .val (.int z8), .val (.int z9), .unset, .unset, .unset, .unset, .unset, .unset, .unset, .unset, .unset, .unset, .unset] [(.int (3 : Int32)), (.int (z9 &&& (3 : Int32)))]) _
    refine iremM X0 hx rfl (hb hby at_61) rfl (by decide) ?_
    show Sp p e below s₁ (mkF m 62 #[.val (.int p0), .val (.int p1), .val (.int p2), .val (.int p3), .val (.int p4), .val (.int (fx0 p2)), .val (.int (fx2 p2)), .val (.int (fx4 p2)), .val (.int z8), .val (.int z9), .unset, .unset, .unset, .unset, .unset, .unset, .unset, .unset, .unset, .unset, .unset] [(.int (fx0 z9))]) _
    refine XS.istore X0.here hx rfl (hb hby at_62) rfl (l' := #[.val (.int p0), .val (.int p1), .val (.int p2), .val (.int p3), .val (.int p4), .val (.int (fx0 p2)), .val (.int (fx2 p2)), .val (.int (fx4 p2)), .val (.int z8), .val (.int z9), .val (.int (fx0 z9)), .unset, .unset, .unset, .unset, .unset, .unset, .unset, .unset, .unset, .unset]) rfl ?_
    refine XS.iload X0.here hx rfl (hb hby at_64) rfl ?_
    refine XS.iconst X0.here hx rfl (hb hby at_66) ?_
    refine XS.iushr X0.here hx rfl (hb hby at_67) rfl ?_
    show Sp p e below s₁ (mkF m 68 #[.val (.int p0), .val (.int p1), .val (.int p2), .val (.int p3), .val (.int p4), .val (.int (fx0 p2)), .val (.int (fx2 p2)), .val (.int (fx4 p2)), .val (.int z8), .val (.int z9), .val (.int (fx0 z9)), .unset, .unset, .unset, .unset, .unset, .unset, .unset, .unset, .unset, .unset] [(.int (fx1 z9))]) _
    refine XS.sipush X0.here hx rfl (hb hby at_68) ?_
    refine XS.iand X0.here hx rfl (hb hby at_71) rfl ?_
    refine XS.i2c X0.here hx rfl (hb hby at_72) rfl ?_
    refine XS.istore X0.here hx rfl (hb hby at_73) rfl (l' := #[.val (.int p0), .val (.int p1), .val (.int p2), .val (.int p3), .val (.int p4), .val (.int (fx0 p2)), .val (.int (fx2 p2)), .val (.int (fx4 p2)), .val (.int z8), .val (.int z9), .val (.int (fx0 z9)), .val (.int (fx2 z9)), .unset, .unset, .unset, .unset, .unset, .unset, .unset, .unset, .unset]) rfl ?_
    show Sp p e below s₁ (mkF m 75 #[.val (.int p0), .val (.int p1), .val (.int p2), .val (.int p3), .val (.int p4), .val (.int (fx0 p2)), .val (.int (fx2 p2)), .val (.int (fx4 p2)), .val (.int z8), .val (.int z9), .val (.int (fx0 z9)), .val (.int (fx2 z9)), .unset, .unset, .unset, .unset, .unset, .unset, .unset, .unset, .unset] []) _
    refine XS.iload X0.here hx rfl (hb hby at_75) rfl ?_
    refine XS.bipush X0.here hx rfl (hb hby at_77) ?_
    refine XS.iushr X0.here hx rfl (hb hby at_79) rfl ?_
    refine XS.sipush X0.here hx rfl (hb hby at_80) ?_
    show Sp p e below s₁ (mkF m 83 #[.val (.int p0), .val (.int p1), .val (.int p2), .val (.int p3), .val (.int p4), .val (.int (fx0 p2)), .val (.int (fx2 p2)), .val (.int (fx4 p2)), .val (.int z8), .val (.int z9), .val (.int (fx0 z9)), .val (.int (fx2 z9)), .unset, .unset, .unset, .unset, .unset, .unset, .unset, .unset, .unset] [(.int (255 : Int32)), (.int (fx3 z9))]) _
    refine XS.iand X0.here hx rfl (hb hby at_83) rfl ?_
    refine XS.i2c X0.here hx rfl (hb hby at_84) rfl ?_
    refine XS.istore X0.here hx rfl (hb hby at_85) rfl (l' := #[.val (.int p0), .val (.int p1), .val (.int p2), .val (.int p3), .val (.int p4), .val (.int (fx0 p2)), .val (.int (fx2 p2)), .val (.int (fx4 p2)), .val (.int z8), .val (.int z9), .val (.int (fx0 z9)), .val (.int (fx2 z9)), .val (.int (fx4 z9)), .unset, .unset, .unset, .unset, .unset, .unset, .unset, .unset]) rfl ?_
    refine XS.iload X0.here hx rfl (hb hby at_87) rfl ?_
    show Sp p e below s₁ (mkF m 89 #[.val (.int p0), .val (.int p1), .val (.int p2), .val (.int p3), .val (.int p4), .val (.int (fx0 p2)), .val (.int (fx2 p2)), .val (.int (fx4 p2)), .val (.int z8), .val (.int z9), .val (.int (fx0 z9)), .val (.int (fx2 z9)), .val (.int (fx4 z9)), .unset, .unset, .unset, .unset, .unset, .unset, .unset, .unset] [(.int (fx0 p2))]) _
    refine XS.iload X0.here hx rfl (hb hby at_89) rfl ?_
    refine XS.iload X0.here hx rfl (hb hby at_91) rfl ?_
    show Sp p e below s₁ (mkF m 93 #[.val (.int p0), .val (.int p1), .val (.int p2), .val (.int p3), .val (.int p4), .val (.int (fx0 p2)), .val (.int (fx2 p2)), .val (.int (fx4 p2)), .val (.int z8), .val (.int z9), .val (.int (fx0 z9)), .val (.int (fx2 z9)), .val (.int (fx4 z9)), .unset, .unset, .unset, .unset, .unset, .unset, .unset, .unset] [(.int (fx4 p2)), (.int (fx2 p2)), (.int (fx0 p2))]) _
    refine st2.trans ?_
    show Sp p e below T2 (mkF m 96 #[.val (.int p0), .val (.int p1), .val (.int p2), .val (.int p3), .val (.int p4), .val (.int (fx0 p2)), .val (.int (fx2 p2)), .val (.int (fx4 p2)), .val (.int z8), .val (.int z9), .val (.int (fx0 z9)), .val (.int (fx2 z9)), .val (.int (fx4 z9)), .unset, .unset, .unset, .unset, .unset, .unset, .unset, .unset] [(.ref b2_0)]) _
    refine XS.astore X2.here hx rfl (hb hby at_96) rfl rfl (l' := #[.val (.int p0), .val (.int p1), .val (.int p2), .val (.int p3), .val (.int p4), .val (.int (fx0 p2)), .val (.int (fx2 p2)), .val (.int (fx4 p2)), .val (.int z8), .val (.int z9), .val (.int (fx0 z9)), .val (.int (fx2 z9)), .val (.int (fx4 z9)), .val (.ref b2_0), .unset, .unset, .unset, .unset, .unset, .unset, .unset]) rfl ?_
    refine XS.iload X2.here hx rfl (hb hby at_98) rfl ?_
    refine XS.iload X2.here hx rfl (hb hby at_100) rfl ?_
    refine XS.iload X2.here hx rfl (hb hby at_102) rfl ?_
    show Sp p e below T2 (mkF m 104 #[.val (.int p0), .val (.int p1), .val (.int p2), .val (.int p3), .val (.int p4), .val (.int (fx0 p2)), .val (.int (fx2 p2)), .val (.int (fx4 p2)), .val (.int z8), .val (.int z9), .val (.int (fx0 z9)), .val (.int (fx2 z9)), .val (.int (fx4 z9)), .val (.ref b2_0), .unset, .unset, .unset, .unset, .unset, .unset, .unset] [(.int (fx4 z9)), (.int (fx2 z9)), (.int (fx0 z9))]) _
    refine st3.trans ?_
    show Sp p e below T3 (mkF m 107 #[.val (.int p0), .val (.int p1), .val (.int p2), .val (.int p3), .val (.int p4), .val (.int (fx0 p2)), .val (.int (fx2 p2)), .val (.int (fx4 p2)), .val (.int z8), .val (.int z9), .val (.int (fx0 z9)), .val (.int (fx2 z9)), .val (.int (fx4 z9)), .val (.ref b2_0), .unset, .unset, .unset, .unset, .unset, .unset, .unset] [(.ref b3_0)]) _
    refine XS.astore X3.here hx rfl (hb hby at_107) rfl rfl (l' := #[.val (.int p0), .val (.int p1), .val (.int p2), .val (.int p3), .val (.int p4), .val (.int (fx0 p2)), .val (.int (fx2 p2)), .val (.int (fx4 p2)), .val (.int z8), .val (.int z9), .val (.int (fx0 z9)), .val (.int (fx2 z9)), .val (.int (fx4 z9)), .val (.ref b2_0), .val (.ref b3_0), .unset, .unset, .unset, .unset, .unset, .unset]) rfl ?_
    show Sp p e below T3 (mkF m 109 #[.val (.int p0), .val (.int p1), .val (.int p2), .val (.int p3), .val (.int p4), .val (.int (fx0 p2)), .val (.int (fx2 p2)), .val (.int (fx4 p2)), .val (.int z8), .val (.int z9), .val (.int (fx0 z9)), .val (.int (fx2 z9)), .val (.int (fx4 z9)), .val (.ref b2_0), .val (.ref b3_0), .unset, .unset, .unset, .unset, .unset, .unset] []) _
    refine st4 _ ?_
    show Sp p e below T3 (mkF m 125 #[.val (.int p0), .val (.int p1), .val (.int p2), .val (.int p3), .val (.int p4), .val (.int (fx0 p2)), .val (.int (fx2 p2)), .val (.int (fx4 p2)), .val (.int z8), .val (.int z9), .val (.int (fx0 z9)), .val (.int (fx2 z9)), .val (.int (fx4 z9)), .val (.ref b2_0), .val (.ref b3_0), .val (.int z15), .unset, .unset, .unset, .unset, .unset] []) _
    refine st5 _ ?_
    show Sp p e below T5 (mkF m 128 #[.val (.int p0), .val (.int p1), .val (.int p2), .val (.int p3), .val (.int p4), .val (.int (fx0 p2)), .val (.int (fx2 p2)), .val (.int (fx4 p2)), .val (.int z8), .val (.int z9), .val (.int (fx0 z9)), .val (.int (fx2 z9)), .val (.int (fx4 z9)), .val (.ref b2_0), .val (.ref b3_0), .val (.int z15), .unset, .unset, .unset, .unset, .unset] [(.ref b5)]) _
    refine XS.dup X5.here hx rfl (hb hby at_128) rfl rfl ?_
    refine XS.iloadN X5.here hx rfl (hb hby at_129) rfl ?_
    refine XS.aload X5.here hx rfl (hb hby at_130) rfl rfl ?_
    show Sp p e below T5 (mkF m 132 #[.val (.int p0), .val (.int p1), .val (.int p2), .val (.int p3), .val (.int p4), .val (.int (fx0 p2)), .val (.int (fx2 p2)), .val (.int (fx4 p2)), .val (.int z8), .val (.int z9), .val (.int (fx0 z9)), .val (.int (fx2 z9)), .val (.int (fx4 z9)), .val (.ref b2_0), .val (.ref b3_0), .val (.int z15), .unset, .unset, .unset, .unset, .unset] [(.ref b2_0), (.int p0), (.ref b5), (.ref b5)]) _
    refine st6.trans ?_
    show Sp p e below T6 (mkF m 135 #[.val (.int p0), .val (.int p1), .val (.int p2), .val (.int p3), .val (.int p4), .val (.int (fx0 p2)), .val (.int (fx2 p2)), .val (.int (fx4 p2)), .val (.int z8), .val (.int z9), .val (.int (fx0 z9)), .val (.int (fx2 z9)), .val (.int (fx4 z9)), .val (.ref b2_0), .val (.ref b3_0), .val (.int z15), .unset, .unset, .unset, .unset, .unset] [(.ref b5)]) _
    refine XS.astore X6.here hx rfl (hb hby at_135) rfl rfl (l' := #[.val (.int p0), .val (.int p1), .val (.int p2), .val (.int p3), .val (.int p4), .val (.int (fx0 p2)), .val (.int (fx2 p2)), .val (.int (fx4 p2)), .val (.int z8), .val (.int z9), .val (.int (fx0 z9)), .val (.int (fx2 z9)), .val (.int (fx4 z9)), .val (.ref b2_0), .val (.ref b3_0), .val (.int z15), .val (.ref b5), .unset, .unset, .unset, .unset]) rfl ?_
    refine XS.iload X6.here hx rfl (hb hby at_137) rfl ?_
    refine XS.iconst X6.here hx rfl (hb hby at_139) ?_
    refine XS.iand X6.here hx rfl (hb hby at_140) rfl ?_
    show Sp p e below T6 (mkF m 141 #[.val (.int p0), .val (.int p1), .val (.int p2), .val (.int p3), .val (.int p4), .val (.int (fx0 p2)), .val (.int (fx2 p2)), .val (.int (fx4 p2)), .val (.int z8), .val (.int z9), .val (.int (fx0 z9)), .val (.int (fx2 z9)), .val (.int (fx4 z9)), .val (.ref b2_0), .val (.ref b3_0), .val (.int z15), .val (.ref b5), .unset, .unset, .unset, .unset] [(.int (p4 &&& (3 : Int32)))]) _
    refine XS.istore X6.here hx rfl (hb hby at_141) rfl (l' := #[.val (.int p0), .val (.int p1), .val (.int p2), .val (.int p3), .val (.int p4), .val (.int (fx0 p2)), .val (.int (fx2 p2)), .val (.int (fx4 p2)), .val (.int z8), .val (.int z9), .val (.int (fx0 z9)), .val (.int (fx2 z9)), .val (.int (fx4 z9)), .val (.ref b2_0), .val (.ref b3_0), .val (.int z15), .val (.ref b5), .val (.int (p4 &&& (3 : Int32))), .unset, .unset, .unset]) rfl ?_
    refine XS.iload X6.here hx rfl (hb hby at_143) rfl ?_
    refine XS.ifYes X6.here hx rfl (pc0 := 145) (pc' := 154) rfl (hb hby at_145) rfl ((if0 _ _).trans (feq hc3).2) (by decide) (by decide) ?_
    refine XS.iload X6.here hx rfl (hb hby at_154) rfl ?_
    show Sp p e below T6 (mkF m 156 #[.val (.int p0), .val (.int p1), .val (.int p2), .val (.int p3), .val (.int p4), .val (.int (fx0 p2)), .val (.int (fx2 p2)), .val (.int (fx4 p2)), .val (.int z8), .val (.int z9), .val (.int (fx0 z9)), .val (.int (fx2 z9)), .val (.int (fx4 z9)), .val (.ref b2_0), .val (.ref b3_0), .val (.int z15), .val (.ref b5), .val (.int (p4 &&& (3 : Int32))), .unset, .unset, .unset] [(.int (p4 &&& (3 : Int32)))]) _
    refine XS.iconst X6.here hx rfl (hb hby at_156) ?_
    refine XS.icmpYes X6.here hx rfl (pc0 := 157) (pc' := 167) rfl (hb hby at_157) rfl (feq hc4).2 (by decide) (by decide) ?_
    show Sp p e below T6 (mkF m 167 #[.val (.int p0), .val (.int p1), .val (.int p2), .val (.int p3), .val (.int p4), .val (.int (fx0 p2)), .val (.int (fx2 p2)), .val (.int (fx4 p2)), .val (.int z8), .val (.int z9), .val (.int (fx0 z9)), .val (.int (fx2 z9)), .val (.int (fx4 z9)), .val (.ref b2_0), .val (.ref b3_0), .val (.int z15), .val (.ref b5), .val (.int (p4 &&& (3 : Int32))), .unset, .unset, .unset] []) _
    refine st7 _ ?_
    show Sp p e below T7 (mkF m 170 #[.val (.int p0), .val (.int p1), .val (.int p2), .val (.int p3), .val (.int p4), .val (.int (fx0 p2)), .val (.int (fx2 p2)), .val (.int (fx4 p2)), .val (.int z8), .val (.int z9), .val (.int (fx0 z9)), .val (.int (fx2 z9)), .val (.int (fx4 z9)), .val (.ref b2_0), .val (.ref b3_0), .val (.int z15), .val (.ref b5), .val (.int (p4 &&& (3 : Int32))), .unset, .unset, .unset] [(.ref b7)]) _
    refine XS.dup X7.here hx rfl (hb hby at_170) rfl rfl ?_
    refine XS.iload X7.here hx rfl (hb hby at_171) rfl ?_
    refine XS.aload X7.here hx rfl (hb hby at_173) rfl rfl ?_
    show Sp p e below T7 (mkF m 175 #[.val (.int p0), .val (.int p1), .val (.int p2), .val (.int p3), .val (.int p4), .val (.int (fx0 p2)), .val (.int (fx2 p2)), .val (.int (fx4 p2)), .val (.int z8), .val (.int z9), .val (.int (fx0 z9)), .val (.int (fx2 z9)), .val (.int (fx4 z9)), .val (.ref b2_0), .val (.ref b3_0), .val (.int z15), .val (.ref b5), .val (.int (p4 &&& (3 : Int32))), .unset, .unset, .unset] [(.ref b3_0), (.int z15), (.ref b7), (.ref b7)]) _
    refine st8.trans ?_
    show Sp p e below T8 (mkF m 178 #[.val (.int p0), .val (.int p1), .val (.int p2), .val (.int p3), .val (.int p4), .val (.int (fx0 p2)), .val (.int (fx2 p2)), .val (.int (fx4 p2)), .val (.int z8), .val (.int z9), .val (.int (fx0 z9)), .val (.int (fx2 z9)), .val (.int (fx4 z9)), .val (.ref b2_0), .val (.ref b3_0), .val (.int z15), .val (.ref b5), .val (.int (p4 &&& (3 : Int32))), .unset, .unset, .unset] [(.ref b7)]) _
    refine XS.astore X8.here hx rfl (hb hby at_178) rfl rfl (l' := #[.val (.int p0), .val (.int p1), .val (.int p2), .val (.int p3), .val (.int p4), .val (.int (fx0 p2)), .val (.int (fx2 p2)), .val (.int (fx4 p2)), .val (.int z8), .val (.int z9), .val (.int (fx0 z9)), .val (.int (fx2 z9)), .val (.int (fx4 z9)), .val (.ref b2_0), .val (.ref b3_0), .val (.int z15), .val (.ref b5), .val (.int (p4 &&& (3 : Int32))), .val (.ref b7), .unset, .unset]) rfl ?_
    refine XS.iload X8.here hx rfl (hb hby at_180) rfl ?_
    refine XS.iconst X8.here hx rfl (hb hby at_182) ?_
    refine XS.icmpYes X8.here hx rfl (pc0 := 183) (pc' := 192) rfl (hb hby at_183) rfl (flt (own_nlti (n := 2) rfl (by have r := (own_and (x := p4) (m := (3 : Int32)) (M := 3) rfl (by decide)); have q0 := own_nei hc3 (n := 0) rfl; have q1 := own_nei hc4 (n := 1) rfl; omega) : ¬ ((p4 &&& (3 : Int32)) < (2 : Int32)))).2.1 (by decide) (by decide) ?_
    show Sp p e below T8 (mkF m 192 #[.val (.int p0), .val (.int p1), .val (.int p2), .val (.int p3), .val (.int p4), .val (.int (fx0 p2)), .val (.int (fx2 p2)), .val (.int (fx4 p2)), .val (.int z8), .val (.int z9), .val (.int (fx0 z9)), .val (.int (fx2 z9)), .val (.int (fx4 z9)), .val (.ref b2_0), .val (.ref b3_0), .val (.int z15), .val (.ref b5), .val (.int (p4 &&& (3 : Int32))), .val (.ref b7), .unset, .unset] []) _
    refine XS.iload X8.here hx rfl (hb hby at_192) rfl ?_
    refine XS.iload X8.here hx rfl (hb hby at_194) rfl ?_
    refine XS.icmpNo X8.here hx rfl (hb hby at_196) rfl (teq hc5).2 ?_
    refine XS.iload X8.here hx rfl (hb hby at_199) rfl ?_
    show Sp p e below T8 (mkF m 201 #[.val (.int p0), .val (.int p1), .val (.int p2), .val (.int p3), .val (.int p4), .val (.int (fx0 p2)), .val (.int (fx2 p2)), .val (.int (fx4 p2)), .val (.int z8), .val (.int z9), .val (.int (fx0 z9)), .val (.int (fx2 z9)), .val (.int (fx4 z9)), .val (.ref b2_0), .val (.ref b3_0), .val (.int z15), .val (.ref b5), .val (.int (p4 &&& (3 : Int32))), .val (.ref b7), .unset, .unset] [(.int (fx0 p2))]) _
    refine XS.iconst X8.here hx rfl (hb hby at_201) ?_
    refine XS.icmpNo X8.here hx rfl (hb hby at_202) rfl (flt hc6).1 ?_
    refine XS.iload X8.here hx rfl (hb hby at_205) rfl ?_
    refine XS.iload X8.here hx rfl (hb hby at_207) rfl ?_
    show Sp p e below T8 (mkF m 209 #[.val (.int p0), .val (.int p1), .val (.int p2), .val (.int p3), .val (.int p4), .val (.int (fx0 p2)), .val (.int (fx2 p2)), .val (.int (fx4 p2)), .val (.int z8), .val (.int z9), .val (.int (fx0 z9)), .val (.int (fx2 z9)), .val (.int (fx4 z9)), .val (.ref b2_0), .val (.ref b3_0), .val (.int z15), .val (.ref b5), .val (.int (p4 &&& (3 : Int32))), .val (.ref b7), .unset, .unset] [(.int (fx2 z9)), (.int (fx2 p2))]) _
    refine XS.icmpNo X8.here hx rfl (hb hby at_209) rfl (teq hc7).2 ?_
    refine XS.iload X8.here hx rfl (hb hby at_212) rfl ?_
    refine XS.iconst X8.here hx rfl (hb hby at_214) ?_
    refine XS.icmpNo X8.here hx rfl (hb hby at_215) rfl (flt hc8).1 ?_
    show Sp p e below T8 (mkF m 218 #[.val (.int p0), .val (.int p1), .val (.int p2), .val (.int p3), .val (.int p4), .val (.int (fx0 p2)), .val (.int (fx2 p2)), .val (.int (fx4 p2)), .val (.int z8), .val (.int z9), .val (.int (fx0 z9)), .val (.int (fx2 z9)), .val (.int (fx4 z9)), .val (.ref b2_0), .val (.ref b3_0), .val (.int z15), .val (.ref b5), .val (.int (p4 &&& (3 : Int32))), .val (.ref b7), .unset, .unset] []) _
    refine XS.iload X8.here hx rfl (hb hby at_218) rfl ?_
    refine XS.iload X8.here hx rfl (hb hby at_220) rfl ?_
    refine XS.icmpNo X8.here hx rfl (hb hby at_222) rfl (teq hc9).2 ?_
    refine XS.iconst X8.here hx rfl (hb hby at_225) ?_
    show Sp p e below T8 (mkF m 226 #[.val (.int p0), .val (.int p1), .val (.int p2), .val (.int p3), .val (.int p4), .val (.int (fx0 p2)), .val (.int (fx2 p2)), .val (.int (fx4 p2)), .val (.int z8), .val (.int z9), .val (.int (fx0 z9)), .val (.int (fx2 z9)), .val (.int (fx4 z9)), .val (.ref b2_0), .val (.ref b3_0), .val (.int z15), .val (.ref b5), .val (.int (p4 &&& (3 : Int32))), .val (.ref b7), .unset, .unset] [(.int (1 : Int32))]) _
    refine XS.goto X8.here hx rfl (pc0 := 226) (pc' := 230) rfl (hb hby at_226) (by decide) (by decide) ?_
    refine XS.istore X8.here hx rfl (hb hby at_230) rfl (l' := #[.val (.int p0), .val (.int p1), .val (.int p2), .val (.int p3), .val (.int p4), .val (.int (fx0 p2)), .val (.int (fx2 p2)), .val (.int (fx4 p2)), .val (.int z8), .val (.int z9), .val (.int (fx0 z9)), .val (.int (fx2 z9)), .val (.int (fx4 z9)), .val (.ref b2_0), .val (.ref b3_0), .val (.int z15), .val (.ref b5), .val (.int (p4 &&& (3 : Int32))), .val (.ref b7), .unset, .val (.int (1 : Int32))]) rfl ?_
    refine XS.iloadN X8.here hx rfl (hb hby at_232) rfl ?_
    refine XS.iload X8.here hx rfl (hb hby at_233) rfl ?_
    show Sp p e below T8 (mkF m 235 #[.val (.int p0), .val (.int p1), .val (.int p2), .val (.int p3), .val (.int p4), .val (.int (fx0 p2)), .val (.int (fx2 p2)), .val (.int (fx4 p2)), .val (.int z8), .val (.int z9), .val (.int (fx0 z9)), .val (.int (fx2 z9)), .val (.int (fx4 z9)), .val (.ref b2_0), .val (.ref b3_0), .val (.int z15), .val (.ref b5), .val (.int (p4 &&& (3 : Int32))), .val (.ref b7), .unset, .val (.int (1 : Int32))] [(.int z15), (.int p0)]) _
    refine XS.icmpYes X8.here hx rfl (pc0 := 235) (pc' := 247) rfl (hb hby at_235) rfl (feq hc10).2 (by decide) (by decide) ?_
    refine XS.iconst X8.here hx rfl (hb hby at_247) ?_
    refine XS.istore X8.here hx rfl (hb hby at_248) rfl (l' := #[.val (.int p0), .val (.int p1), .val (.int p2), .val (.int p3), .val (.int p4), .val (.int (fx0 p2)), .val (.int (fx2 p2)), .val (.int (fx4 p2)), .val (.int z8), .val (.int z9), .val (.int (fx0 z9)), .val (.int (fx2 z9)), .val (.int (fx4 z9)), .val (.ref b2_0), .val (.ref b3_0), .val (.int z15), .val (.ref b5), .val (.int (p4 &&& (3 : Int32))), .val (.ref b7), .val (.int (0 : Int32)), .val (.int (1 : Int32))]) rfl ?_
    refine XS.aload X8.here hx rfl (hb hby at_250) rfl rfl ?_
    show Sp p e below T8 (mkF m 252 #[.val (.int p0), .val (.int p1), .val (.int p2), .val (.int p3), .val (.int p4), .val (.int (fx0 p2)), .val (.int (fx2 p2)), .val (.int (fx4 p2)), .val (.int z8), .val (.int z9), .val (.int (fx0 z9)), .val (.int (fx2 z9)), .val (.int (fx4 z9)), .val (.ref b2_0), .val (.ref b3_0), .val (.int z15), .val (.ref b5), .val (.int (p4 &&& (3 : Int32))), .val (.ref b7), .val (.int (0 : Int32)), .val (.int (1 : Int32))] [(.ref b5)]) _
    refine XS.aload X8.here hx rfl (hb hby at_252) rfl rfl ?_
    show Sp p e below T8 (mkF m 254 #[.val (.int p0), .val (.int p1), .val (.int p2), .val (.int p3), .val (.int p4), .val (.int (fx0 p2)), .val (.int (fx2 p2)), .val (.int (fx4 p2)), .val (.int z8), .val (.int z9), .val (.int (fx0 z9)), .val (.int (fx2 z9)), .val (.int (fx4 z9)), .val (.ref b2_0), .val (.ref b3_0), .val (.int z15), .val (.ref b5), .val (.int (p4 &&& (3 : Int32))), .val (.ref b7), .val (.int (0 : Int32)), .val (.int (1 : Int32))] [(.ref b7), (.ref b5)]) _
    refine st10.trans ?_
    show Sp p e below T10 (mkF m 257 #[.val (.int p0), .val (.int p1), .val (.int p2), .val (.int p3), .val (.int p4), .val (.int (fx0 p2)), .val (.int (fx2 p2)), .val (.int (fx4 p2)), .val (.int z8), .val (.int z9), .val (.int (fx0 z9)), .val (.int (fx2 z9)), .val (.int (fx4 z9)), .val (.ref b2_0), .val (.ref b3_0), .val (.int z15), .val (.ref b5), .val (.int (p4 &&& (3 : Int32))), .val (.ref b7), .val (.int (0 : Int32)), .val (.int (1 : Int32))] [(.int (0 : Int32))]) _
    refine XS.iload X10.here hx rfl (hb hby at_257) rfl ?_
    refine XS.icmpNo X10.here hx rfl (hb hby at_259) rfl (teq (by decide : (0 : Int32) = (0 : Int32))).2 ?_
    refine XS.iconst X10.here hx rfl (hb hby at_262) ?_
    refine XS.goto X10.here hx rfl (pc0 := 263) (pc' := 267) rfl (hb hby at_263) (by decide) (by decide) ?_
    show Sp p e below T10 (mkF m 267 #[.val (.int p0), .val (.int p1), .val (.int p2), .val (.int p3), .val (.int p4), .val (.int (fx0 p2)), .val (.int (fx2 p2)), .val (.int (fx4 p2)), .val (.int z8), .val (.int z9), .val (.int (fx0 z9)), .val (.int (fx2 z9)), .val (.int (fx4 z9)), .val (.ref b2_0), .val (.ref b3_0), .val (.int z15), .val (.ref b5), .val (.int (p4 &&& (3 : Int32))), .val (.ref b7), .val (.int (0 : Int32)), .val (.int (1 : Int32))] [(.int (1 : Int32))]) _
    exact retN X10 hx (t := .boolean) Bd.returns (by simp) (hb hby at_267) hr
  · skip
    exact ⟨rfl, N10⟩
set_option maxRecDepth 65536 in
set_option maxHeartbeats 40000000 in
theorem rm49 (l : Launch) (Z : State) (a0 : Array Value) (hw : ∀ d ∈ tables_1, d.before a0 Z = true) (ws : List Jvm.Cond) (cs_v : Int32) (hp : Perm Z cs_v) (p0 : Int32) (p1 : Int32) (p2 : Int32) (p3 : Int32) (p4 : Int32) (z8 : Int32) (z9 : Int32) (z15 : Int32) (h0 : Heap) (n0 : Nat) (O0 : Old Z n0 h0) (hcut28 : Cut_0_28 p0 p1 p2 p3 p4 ((p2 &&& (3 : Int32)) % (3 : Int32)) ((((p2.toUInt32 >>> ((2 : Int32) &&& 31).toUInt32).toInt32) &&& (255 : Int32)).toUInt32.toUInt16.toUInt32.toInt32) ((((p2.toUInt32 >>> ((10 : Int32) &&& 31).toUInt32).toInt32) &&& (255 : Int32)).toUInt32.toUInt16.toUInt32.toInt32) z8 z9) (hcut109 : Cut_0_109 p0 p1 p2 p3 p4 ((p2 &&& (3 : Int32)) % (3 : Int32)) ((((p2.toUInt32 >>> ((2 : Int32) &&& 31).toUInt32).toInt32) &&& (255 : Int32)).toUInt32.toUInt16.toUInt32.toInt32) ((((p2.toUInt32 >>> ((10 : Int32) &&& 31).toUInt32).toInt32) &&& (255 : Int32)).toUInt32.toUInt16.toUInt32.toInt32) z8 z9 ((z9 &&& (3 : Int32)) % (3 : Int32)) ((((z9.toUInt32 >>> ((2 : Int32) &&& 31).toUInt32).toInt32) &&& (255 : Int32)).toUInt32.toUInt16.toUInt32.toInt32) ((((z9.toUInt32 >>> ((10 : Int32) &&& 31).toUInt32).toInt32) &&& (255 : Int32)).toUInt32.toUInt16.toUInt32.toInt32) z15) (hc3 : ¬ ((p4 &&& (3 : Int32)) = (0 : Int32))) (hc4 : ¬ ((p4 &&& (3 : Int32)) = (1 : Int32))) (hc5 : ((p2 &&& (3 : Int32)) % (3 : Int32)) = ((z9 &&& (3 : Int32)) % (3 : Int32))) (hc6 : ¬ (((p2 &&& (3 : Int32)) % (3 : Int32)) < (1 : Int32))) (hc7 : ((((p2.toUInt32 >>> ((2 : Int32) &&& 31).toUInt32).toInt32) &&& (255 : Int32)).toUInt32.toUInt16.toUInt32.toInt32) = ((((z9.toUInt32 >>> ((2 : Int32) &&& 31).toUInt32).toInt32) &&& (255 : Int32)).toUInt32.toUInt16.toUInt32.toInt32)) (hc8 : ((p2 &&& (3 : Int32)) % (3 : Int32)) < (2 : Int32)) (hc9 : ¬ (p0 = z15)) :
    MetFree l x (head1 (Jvm.Cond.code x code maxLocals ret :: ws) room_1) (fun a U => a = #[(.int p0), (.int p1), (.int p2), (.int p3), (.int p4)] ∧ Z.Warmed39 U.vm ∧ U.heap = h0 ∧ CHv Z own_EL U.vm h0) (fun _ _ _ _ _ => True) (fun _ U o U' => ∃ v L, o = .returned v ∧ (v = some (.int (1 : Int32)) ∧ Fr n0 L) ∧ ReturnedEndW U o U' L 32 1152) := by
  refine MetFree.of_bodySF (plainFor_of_name pn_1) hisR ?_
  intro p e s m args below meth c s₁ Bd hml0 hP hK
  obtain ⟨rfl, hZo, hh, hCH⟩ := hP
  have hx := Bd.exec
  have hby := Bd.bytes
  have hml : c.maxLocals = 21 := hml0
  have hown : (s.setVm s.vm).vm.findClass "com/example/epcrtools/epcrtools/exchange/RuleSetKeyEqualsPinLaw" = some m.cls := findClass_of_methodNamed Bd.named
  have hnm := (name_of_methodNamed Bd.named Bd.method).1
  have X0 : Stand p l e room_1 (s.setVm s.vm) m #[(.int p0), (.int p1), (.int p2), (.int p3), (.int p4)] below meth c s₁ [] 0 0 := Stand.of_body Bd
  have e0 : s₁.heap = h0 := by rw [← hh, Bd.state]; rfl
  have N0 := Fr.nil n0
  have hZ : Z.Warmed39 (s.setVm s.vm).vm := hZo
  have CH0 := CHr.refl hCH
  have hS0 : s.Since s.vm 0 := (State.WarmedH.refl s).since 0
  have hk0 : 0 ≤ h0.size := Nat.zero_le _
  have hp' := hp
  obtain ⟨S_COMPACT_STRINGS, h_cs⟩ := hp'
  have pre0 : ∀ t, Steps p.tables e below (s₁.setTop (mkF m 0 #[.val (.int p0), .val (.int p1), .val (.int p2), .val (.int p3), .val (.int p4), .unset, .unset, .unset, .unset, .unset, .unset, .unset, .unset, .unset, .unset, .unset, .unset, .unset, .unset, .unset, .unset] [])) t → Steps p.tables e below (s₁.setTop (entryFrame m #[(.int p0), (.int p1), (.int p2), (.int p3), (.int p4)] maxLocals)) t := fun t k => castTop (ef_0_0 m p0 p1 p2 p3 p4) k
  have st1 := hcut28 X0 hx hZ hw hby hown
  obtain ⟨_, _, ⟨T2, L2, k2, n2⟩, -, XX2, Sq2, gq2, ⟨Lc2, hQ2, l2, y2, z2, C2⟩, st2⟩ := callSS X0 hx (y := y2) hown (mvT hZ (wq hw 0 rfl)) (mvT hZ (wq hw 1 rfl)) (mvT hZ (wq hw 2 rfl)) (mvT hZ (wq hw 3 rfl)) (by decide) (own_backC (SL := []) (W := 0) (rmS1 l Z a0 hw [] cs_v hp ((p2 &&& (3 : Int32)) % (3 : Int32)) ((((p2.toUInt32 >>> ((2 : Int32) &&& 31).toUInt32).toInt32) &&& (255 : Int32)).toUInt32.toUInt16.toUInt32.toInt32) ((((p2.toUInt32 >>> ((10 : Int32) &&& 31).toUInt32).toInt32) &&& (255 : Int32)).toUInt32.toUInt16.toUInt32.toInt32) h0 n0 O0 (own_ch2 ((p2.toUInt32 >>> ((2 : Int32) &&& 31).toUInt32).toInt32)) (own_ch2 ((p2.toUInt32 >>> ((10 : Int32) &&& 31).toUInt32).toInt32))) hZ (wq hw 3 rfl) (wq hw 2 rfl) (by decide) (by decide) (own_EW hw) CH0.1 all0) (g := (mkF m 93 #[.val (.int p0), .val (.int p1), .val (.int p2), .val (.int p3), .val (.int p4), .val (.int (fx0 p2)), .val (.int (fx2 p2)), .val (.int (fx4 p2)), .val (.int z8), .val (.int z9), .val (.int (fx0 z9)), .val (.int (fx2 z9)), .val (.int (fx4 z9)), .unset, .unset, .unset, .unset, .unset, .unset, .unset, .unset] [(.int (fx4 p2)), (.int (fx2 p2)), (.int (fx0 p2))])) rfl (by rw [hml]; rfl) (argsL := [(.int (fx0 p2)), (.int (fx2 p2)), (.int (fx4 p2))]) (rest := []) (lenOf pd_5 rfl) rfl (by show 2 * 0 + _ ≤ _; exact Nat.le_of_eq rfl) (hb hby at_93) (fun _ _ => ⟨rfl, e0, (by decide : 0 + 4 ≤ _), (by decide : 0 + 8 ≤ _)⟩)
  dsimp only [Pt.U, Pt.locs, Pt.cells, Pt.slots] at XX2 Sq2 gq2 l2 y2 z2 st2 hQ2 C2
  subst l2 y2 z2
  obtain ⟨X2, hS2, hZ2, hown2⟩ := rebS hS0 (by rw [e0]; exact hk0) XX2 Sq2 gq2 hZ hown
  obtain ⟨b2_0, y2_0, kc2_0, rfl, Nq2, Kq2, sq_b2_0, fq2_0, fq2_1, fq2_2, fq2_3⟩ := hQ2
  have N2 := Fr.app N0 Nq2
  have g_b2_0 : n0 ≤ b2_0 := Nat.le_trans (own_sz O0) sq_b2_0
  have sz_b2_0 : h0.size ≤ b2_0 := Nat.le_trans (Keep.refl h0 []).1 sq_b2_0
  have CH2 := CH0.trans C2
  have hk2 : T2.heap.size ≤ T2.heap.size := Nat.le_refl _
  have O2 := O0.keep Kq2 all0
  have K2 : Keep h0 T2.heap [] := (Keep.refl h0 []).trans Kq2 all0
  obtain ⟨_, _, ⟨T3, L3, k3, n3⟩, -, XX3, Sq3, gq3, ⟨Lc3, hQ3, l3, y3, z3, C3⟩, st3⟩ := callSS X2 hx (y := y2) hown2 (mvT hZ2 (wq hw 0 rfl)) (mvT hZ2 (wq hw 1 rfl)) (mvT hZ2 (wq hw 2 rfl)) (mvT hZ2 (wq hw 3 rfl)) (by decide) (own_backC (SL := []) (W := 0) (rmS1 l Z a0 hw [] cs_v hp ((z9 &&& (3 : Int32)) % (3 : Int32)) ((((z9.toUInt32 >>> ((2 : Int32) &&& 31).toUInt32).toInt32) &&& (255 : Int32)).toUInt32.toUInt16.toUInt32.toInt32) ((((z9.toUInt32 >>> ((10 : Int32) &&& 31).toUInt32).toInt32) &&& (255 : Int32)).toUInt32.toUInt16.toUInt32.toInt32) T2.heap n0 O2 (own_ch2 ((z9.toUInt32 >>> ((2 : Int32) &&& 31).toUInt32).toInt32)) (own_ch2 ((z9.toUInt32 >>> ((10 : Int32) &&& 31).toUInt32).toInt32))) hZ2 (wq hw 3 rfl) (wq hw 2 rfl) (by decide) (by decide) (own_EW hw) CH2.1 all0) (g := (mkF m 104 #[.val (.int p0), .val (.int p1), .val (.int p2), .val (.int p3), .val (.int p4), .val (.int (fx0 p2)), .val (.int (fx2 p2)), .val (.int (fx4 p2)), .val (.int z8), .val (.int z9), .val (.int (fx0 z9)), .val (.int (fx2 z9)), .val (.int (fx4 z9)), .val (.ref b2_0), .unset, .unset, .unset, .unset, .unset, .unset, .unset] [(.int (fx4 z9)), (.int (fx2 z9)), (.int (fx0 z9))])) rfl (by rw [hml]; rfl) (argsL := [(.int (fx0 z9)), (.int (fx2 z9)), (.int (fx4 z9))]) (rest := []) (lenOf pd_5 rfl) rfl (by show 2 * 0 + _ ≤ _; exact Nat.le_of_eq rfl) (hb hby at_104) (fun _ _ => ⟨rfl, rfl, (by decide : 4 + 4 ≤ _), (by decide : 8 + 8 ≤ _)⟩)
  dsimp only [Pt.U, Pt.locs, Pt.cells, Pt.slots] at XX3 Sq3 gq3 l3 y3 z3 st3 hQ3 C3
  subst l3 y3 z3
  obtain ⟨X3, hS3, hZ3, hown3⟩ := rebS hS2 hk2 XX3 Sq3 gq3 hZ2 hown2
  obtain ⟨b3_0, y3_0, kc3_0, rfl, Nq3, Kq3, sq_b3_0, fq3_0, fq3_1, fq3_2, fq3_3⟩ := hQ3
  have N3 := Fr.app N2 Nq3
  have g_b3_0 : n0 ≤ b3_0 := Nat.le_trans (own_sz O2) sq_b3_0
  have sz_b3_0 : h0.size ≤ b3_0 := Nat.le_trans K2.1 sq_b3_0
  have CH3 := CH2.trans C3
  have hk3 : T3.heap.size ≤ T3.heap.size := Nat.le_refl _
  have O3 := O2.keep Kq3 all0
  have K3 : Keep h0 T3.heap [] := K2.trans Kq3 all0
  have st4 := hcut109 b2_0 b3_0 X3 hx hZ3 hw hby hown3
  obtain ⟨T5, h5, X5, e5, E5, A5, D5, -, st5⟩ := newO X3 hx hZ3 hown3 (wq hw 34 rfl) (wq hw 35 rfl) (wq hw 36 rfl) rfl (g := (mkF m 125 #[.val (.int p0), .val (.int p1), .val (.int p2), .val (.int p3), .val (.int p4), .val (.int (fx0 p2)), .val (.int (fx2 p2)), .val (.int (fx4 p2)), .val (.int z8), .val (.int z9), .val (.int (fx0 z9)), .val (.int (fx2 z9)), .val (.int (fx4 z9)), .val (.ref b2_0), .val (.ref b3_0), .val (.int z15), .unset, .unset, .unset, .unset, .unset] [])) rfl (hb hby at_125) (by decide) (by decide)
  obtain ⟨b5, g5⟩ : ∃ z, z = T3.heap.size := ⟨_, rfl⟩
  rw [← g5] at A5 D5 st5
  have g_b5 : n0 ≤ b5 := Nat.le_trans (own_sz O3) (Nat.le_of_eq g5.symm)
  have sz_b5 : h0.size ≤ b5 := Nat.le_trans K3.1 (Nat.le_of_eq g5.symm)
  have O5 := O3.ext E5
  have K5 : Keep h0 h5 [] := K3.ext E5
  have CH5 := CH3.trans (CHr.ext E5 CH3.1)
  have hk5 := Nat.le_trans hk3 E5.1
  have F_dataSchema_b5 : Fld Z h5 b5 "com/example/epcrtools/epcrtools/exchange/RuleSetKey" "dataSchema" "I" (.int (0 : Int32)) := D5 (Or.inr (wq hw 42 rfl)) (ty := .int) (by decide)
  have F_schemaVersion_b5 : Fld Z h5 b5 "com/example/epcrtools/epcrtools/exchange/RuleSetKey" "schemaVersion" "Ljava/lang/String;" .null := D5 (Or.inr (wq hw 49 rfl)) (ty := (.object "java/lang/String")) (by decide)
  obtain ⟨_, _, ⟨T6, L6, k6, n6⟩, -, X6, ⟨Lc6, hQ6, l6, y6, z6⟩, st6⟩ := X5.specialBack hx (y := y7) rfl hown3 (mvT hZ3 (wq hw 37 rfl)) (mvT hZ3 (wq hw 38 rfl)) (mvT hZ3 (wq hw 39 rfl)) (by decide) (backOf (W := 1) (rm17 l Z a0 hw [] cs_v hp b5 p0 b2_0 h5 n0 O5 A5 F_dataSchema_b5 F_schemaVersion_b5 g_b5 ((fq2_0.keep Kq3).ext E5)) hZ3 (wq hw 39 rfl) (wq hw 36 rfl) (by decide) (by decide)) (g := (mkF m 132 #[.val (.int p0), .val (.int p1), .val (.int p2), .val (.int p3), .val (.int p4), .val (.int (fx0 p2)), .val (.int (fx2 p2)), .val (.int (fx4 p2)), .val (.int z8), .val (.int z9), .val (.int (fx0 z9)), .val (.int (fx2 z9)), .val (.int (fx4 z9)), .val (.ref b2_0), .val (.ref b3_0), .val (.int z15), .unset, .unset, .unset, .unset, .unset] [(.ref b2_0), (.int p0), (.ref b5), (.ref b5)])) rfl (by rw [hml]; rfl) (Steps.refl _) (a := b5) (argsL := [(.int p0), (.ref b2_0)]) (rest := [(.ref b5)]) (lenOf pd_7 rfl) rfl (by show 2 * 0 + _ ≤ _; exact Nat.le_of_eq rfl) (hb hby at_132) (fun _ _ => ⟨rfl, e5, (by decide : 9 + 0 ≤ _), (by decide : 18 + 0 ≤ _)⟩)
  dsimp only [Pt.U, Pt.locs, Pt.cells, Pt.slots] at X6 l6 y6 z6 st6 hQ6
  subst l6 y6 z6
  obtain ⟨rfl, Nq6, Kq6, fq6_0, fq6_1, fq6_2⟩ := hQ6
  have N6 := Fr.app N3 Nq6
  have CH6 := CH5.trans (CHr.keep Kq6 (allS (Safe.exa hZ3.alike A5 (by decide) (by decide)) all0) CH5.1)
  have hk6 := Nat.le_trans hk5 Kq6.1
  have O6 := O5.keep Kq6 (allS g_b5 all0)
  have K6 : Keep h0 T6.heap [] := K5.trans Kq6 (allS (Or.inr sz_b5) all0)
  obtain ⟨T7, h7, X7, e7, E7, A7, D7, -, st7⟩ := newO X6 hx hZ3 hown3 (wq hw 34 rfl) (wq hw 35 rfl) (wq hw 36 rfl) rfl (g := (mkF m 167 #[.val (.int p0), .val (.int p1), .val (.int p2), .val (.int p3), .val (.int p4), .val (.int (fx0 p2)), .val (.int (fx2 p2)), .val (.int (fx4 p2)), .val (.int z8), .val (.int z9), .val (.int (fx0 z9)), .val (.int (fx2 z9)), .val (.int (fx4 z9)), .val (.ref b2_0), .val (.ref b3_0), .val (.int z15), .val (.ref b5), .val (.int (p4 &&& (3 : Int32))), .unset, .unset, .unset] [])) rfl (hb hby at_167) (by decide) (by decide)
  obtain ⟨b7, g7⟩ : ∃ z, z = T6.heap.size := ⟨_, rfl⟩
  rw [← g7] at A7 D7 st7
  have g_b7 : n0 ≤ b7 := Nat.le_trans (own_sz O6) (Nat.le_of_eq g7.symm)
  have sz_b7 : h0.size ≤ b7 := Nat.le_trans K6.1 (Nat.le_of_eq g7.symm)
  have O7 := O6.ext E7
  have K7 : Keep h0 h7 [] := K6.ext E7
  have CH7 := CH6.trans (CHr.ext E7 CH6.1)
  have hk7 := Nat.le_trans hk6 E7.1
  have F_dataSchema_b7 : Fld Z h7 b7 "com/example/epcrtools/epcrtools/exchange/RuleSetKey" "dataSchema" "I" (.int (0 : Int32)) := D7 (Or.inr (wq hw 42 rfl)) (ty := .int) (by decide)
  have F_schemaVersion_b7 : Fld Z h7 b7 "com/example/epcrtools/epcrtools/exchange/RuleSetKey" "schemaVersion" "Ljava/lang/String;" .null := D7 (Or.inr (wq hw 49 rfl)) (ty := (.object "java/lang/String")) (by decide)
  obtain ⟨_, _, ⟨T8, L8, k8, n8⟩, -, X8, ⟨Lc8, hQ8, l8, y8, z8⟩, st8⟩ := X7.specialBack hx (y := y7) rfl hown3 (mvT hZ3 (wq hw 37 rfl)) (mvT hZ3 (wq hw 38 rfl)) (mvT hZ3 (wq hw 39 rfl)) (by decide) (backOf (W := 1) (rm17 l Z a0 hw [] cs_v hp b7 z15 b3_0 h7 n0 O7 A7 F_dataSchema_b7 F_schemaVersion_b7 g_b7 (((fq3_0.ext E5).keep Kq6).ext E7)) hZ3 (wq hw 39 rfl) (wq hw 36 rfl) (by decide) (by decide)) (g := (mkF m 175 #[.val (.int p0), .val (.int p1), .val (.int p2), .val (.int p3), .val (.int p4), .val (.int (fx0 p2)), .val (.int (fx2 p2)), .val (.int (fx4 p2)), .val (.int z8), .val (.int z9), .val (.int (fx0 z9)), .val (.int (fx2 z9)), .val (.int (fx4 z9)), .val (.ref b2_0), .val (.ref b3_0), .val (.int z15), .val (.ref b5), .val (.int (p4 &&& (3 : Int32))), .unset, .unset, .unset] [(.ref b3_0), (.int z15), (.ref b7), (.ref b7)])) rfl (by rw [hml]; rfl) (Steps.refl _) (a := b7) (argsL := [(.int z15), (.ref b3_0)]) (rest := [(.ref b7)]) (lenOf pd_7 rfl) rfl (by show 2 * 0 + _ ≤ _; exact Nat.le_of_eq rfl) (hb hby at_175) (fun _ _ => ⟨rfl, e7, (by decide : 10 + 0 ≤ _), (by decide : 20 + 0 ≤ _)⟩)
  dsimp only [Pt.U, Pt.locs, Pt.cells, Pt.slots] at X8 l8 y8 z8 st8 hQ8
  subst l8 y8 z8
  obtain ⟨rfl, Nq8, Kq8, fq8_0, fq8_1, fq8_2⟩ := hQ8
  have N8 := Fr.app N6 Nq8
  have CH8 := CH7.trans (CHr.keep Kq8 (allS (Safe.exa hZ3.alike A7 (by decide) (by decide)) all0) CH7.1)
  have hk8 := Nat.le_trans hk7 Kq8.1
  have O8 := O7.keep Kq8 (allS g_b7 all0)
  have K8 : Keep h0 T8.heap [] := K7.trans Kq8 (allS (Or.inr sz_b7) all0)
  have f_9 := ((fq6_1.ext E7).keep Kq8 (ninS (Nat.ne_of_lt (Nat.lt_of_lt_of_le (A5.keep Kq6).lt (Nat.le_of_eq g7.symm))) nin0))
  obtain ⟨cq10, kq10, q10a, q10b, q10c⟩ := isOf hZ3 rfl ((fq6_0.ext E7).keep Kq8)
  obtain ⟨_, _, ⟨T10, L10, k10, n10⟩, -, X10, ⟨Lc10, hQ10, l10, y10, z10⟩, st10⟩ := X8.virtualBack hx (y := y8) (z := y8) hown3 (mvT hZ3 (wq hw 50 rfl)) (mvT hZ3 (wq hw 51 rfl)) (notFace_of_selects (args := #[]) (mvT hZ3 (wq hw 53 rfl))) (mvT hZ3 (wq hw 53 rfl)) (mvT hZ3 (wq hw 52 rfl)) (by decide) (backOf (W := 0) (rm40 l Z a0 hw [] cs_v hp b5 b7 p0 z15 T8.heap n0 O8 fq8_0 f_9 fq8_1 hc9) hZ3 (wq hw 54 rfl) (wq hw 36 rfl) (by decide) (by decide)) q10a q10c (g := (mkF m 254 #[.val (.int p0), .val (.int p1), .val (.int p2), .val (.int p3), .val (.int p4), .val (.int (fx0 p2)), .val (.int (fx2 p2)), .val (.int (fx4 p2)), .val (.int z8), .val (.int z9), .val (.int (fx0 z9)), .val (.int (fx2 z9)), .val (.int (fx4 z9)), .val (.ref b2_0), .val (.ref b3_0), .val (.int z15), .val (.ref b5), .val (.int (p4 &&& (3 : Int32))), .val (.ref b7), .val (.int (0 : Int32)), .val (.int (1 : Int32))] [(.ref b7), (.ref b5)])) rfl (by rw [hml]; rfl) (Steps.refl _) (argsL := [(.ref b7)]) (rest := []) (lenOf pd_8 rfl) rfl (by show 2 * 0 + _ ≤ _; exact Nat.le_of_eq rfl) (hb hby at_254) (fun _ _ => ⟨rfl, rfl, (by decide : 10 + 0 ≤ _), (by decide : 20 + 0 ≤ _)⟩)
  dsimp only [Pt.U, Pt.locs, Pt.cells, Pt.slots] at X10 l10 y10 z10 st10 hQ10
  subst l10 y10 z10
  obtain ⟨rfl, Nq10, eq10⟩ := hQ10
  have N10 := Fr.app N8 Nq10
  obtain ⟨fs, hr, hrun, hended, hE⟩ := Stand.leaveW (s := s) X10 hS3 (by rw [eq10]; exact hk8) (v := some (.int (1 : Int32))) (fun h => by rw [Bd.returns] at h; cases h)
  refine ⟨_, _, pre0 _ ?_, hrun, hended, _, _, rfl, ?_, hE.1, hE.2.1, hE.2.2.1, hE.2.2.2.mono (by decide) (by decide)⟩
  · show Sp p e below s₁ (mkF m 0 #[.val (.int p0), .val (.int p1), .val (.int p2), .val (.int p3), .val (.int p4), .unset, .unset, .unset, .unset, .unset, .unset, .unset, .unset, .unset, .unset, .unset, .unset, .unset, .unset, .unset, .unset] []) _
    refine XS.iloadN X0.here hx rfl (hb hby at_0) rfl ?_
    refine XS.iconst X0.here hx rfl (hb hby at_1) ?_
    refine XS.iand X0.here hx rfl (hb hby at_2) rfl ?_
    refine XS.iconst X0.here hx rfl (hb hby at_3) ?_
    show Sp p e below s₁ (mkF m 4 #[.val (.int p0), .val (.int p1), .val (.int p2), .val (.int p3), .val (.int p4), .unset, .unset, .unset, .unset, .unset, .unset, .unset, .unset, .unset, .unset, .unset, .unset, .unset, .unset, .unset, .unset] [(.int (3 : Int32)), (.int (p2 &&& (3 : Int32)))]) _
    refine iremM X0 hx rfl (hb hby at_4) rfl (by decide) ?_
    show Sp p e below s₁ (mkF m 5 #[.val (.int p0), .val (.int p1), .val (.int p2), .val (.int p3), .val (.int p4), .unset, .unset, .unset, .unset, .unset, .unset, .unset, .unset, .unset, .unset, .unset, .unset, .unset, .unset, .unset, .unset] [(.int (fx0 p2))]) _
    refine XS.istore X0.here hx rfl (hb hby at_5) rfl (l' := #[.val (.int p0), .val (.int p1), .val (.int p2), .val (.int p3), .val (.int p4), .val (.int (fx0 p2)), .unset, .unset, .unset, .unset, .unset, .unset, .unset, .unset, .unset, .unset, .unset, .unset, .unset, .unset, .unset]) rfl ?_
    refine XS.iloadN X0.here hx rfl (hb hby at_7) rfl ?_
    refine XS.iconst X0.here hx rfl (hb hby at_8) ?_
    refine XS.iushr X0.here hx rfl (hb hby at_9) rfl ?_
    show Sp p e below s₁ (mkF m 10 #[.val (.int p0), .val (.int p1), .val (.int p2), .val (.int p3), .val (.int p4), .val (.int (fx0 p2)), .unset, .unset, .unset, .unset, .unset, .unset, .unset, .unset, .unset, .unset, .unset, .unset, .unset, .unset, .unset] [(.int (fx1 p2))]) _
    refine XS.sipush X0.here hx rfl (hb hby at_10) ?_
    refine XS.iand X0.here hx rfl (hb hby at_13) rfl ?_
    refine XS.i2c X0.here hx rfl (hb hby at_14) rfl ?_
    refine XS.istore X0.here hx rfl (hb hby at_15) rfl (l' := #[.val (.int p0), .val (.int p1), .val (.int p2), .val (.int p3), .val (.int p4), .val (.int (fx0 p2)), .val (.int (fx2 p2)), .unset, .unset, .unset, .unset, .unset, .unset, .unset, .unset, .unset, .unset, .unset, .unset, .unset, .unset]) rfl ?_
    show Sp p e below s₁ (mkF m 17 #[.val (.int p0), .val (.int p1), .val (.int p2), .val (.int p3), .val (.int p4), .val (.int (fx0 p2)), .val (.int (fx2 p2)), .unset, .unset, .unset, .unset, .unset, .unset, .unset, .unset, .unset, .unset, .unset, .unset, .unset, .unset] []) _
    refine XS.iloadN X0.here hx rfl (hb hby at_17) rfl ?_
    refine XS.bipush X0.here hx rfl (hb hby at_18) ?_
    refine XS.iushr X0.here hx rfl (hb hby at_20) rfl ?_
    refine XS.sipush X0.here hx rfl (hb hby at_21) ?_
    show Sp p e below s₁ (mkF m 24 #[.val (.int p0), .val (.int p1), .val (.int p2), .val (.int p3), .val (.int p4), .val (.int (fx0 p2)), .val (.int (fx2 p2)), .unset, .unset, .unset, .unset, .unset, .unset, .unset, .unset, .unset, .unset, .unset, .unset, .unset, .unset] [(.int (255 : Int32)), (.int (fx3 p2))]) _
    refine XS.iand X0.here hx rfl (hb hby at_24) rfl ?_
    refine XS.i2c X0.here hx rfl (hb hby at_25) rfl ?_
    refine XS.istore X0.here hx rfl (hb hby at_26) rfl (l' := #[.val (.int p0), .val (.int p1), .val (.int p2), .val (.int p3), .val (.int p4), .val (.int (fx0 p2)), .val (.int (fx2 p2)), .val (.int (fx4 p2)), .unset, .unset, .unset, .unset, .unset, .unset, .unset, .unset, .unset, .unset, .unset, .unset, .unset]) rfl ?_
    show Sp p e below s₁ (mkF m 28 #[.val (.int p0), .val (.int p1), .val (.int p2), .val (.int p3), .val (.int p4), .val (.int (fx0 p2)), .val (.int (fx2 p2)), .val (.int (fx4 p2)), .unset, .unset, .unset, .unset, .unset, .unset, .unset, .unset, .unset, .unset, .unset, .unset, .unset] []) _
    refine st1 _ ?_
    show Sp p e below s₁ (mkF m 56 #[.val (.int p0), .val (.int p1), .val (.int p2), .val (.int p3), .val (.int p4), .val (.int (fx0 p2)), .val (.int (fx2 p2)), .val (.int (fx4 p2)), .val (.int z8), .val (.int z9), .unset, .unset, .unset, .unset, .unset, .unset, .unset, .unset, .unset, .unset, .unset] []) _
    refine XS.iload X0.here hx rfl (hb hby at_56) rfl ?_
    refine XS.iconst X0.here hx rfl (hb hby at_58) ?_
    refine XS.iand X0.here hx rfl (hb hby at_59) rfl ?_
    refine XS.iconst X0.here hx rfl (hb hby at_60) ?_
    show Sp p e below s₁ (mkF m 61 #[.val (.int p0), .val (.int p1), .val (.int p2), .val (.int p3), .val (.int p4), .val (.int (fx0 p2)), .val (.int (fx2 p2)), .val (.int (fx4 p2)), .val (.int z8), .val (.int z9), .unset, .unset, .unset, .unset, .unset, .unset, .unset, .unset, .unset, .unset, .unset] [(.int (3 : Int32)), (.int (z9 &&& (3 : Int32)))]) _
    refine iremM X0 hx rfl (hb hby at_61) rfl (by decide) ?_
    show Sp p e below s₁ (mkF m 62 #[.val (.int p0), .val (.int p1), .val (.int p2), .val (.int p3), .val (.int p4), .val (.int (fx0 p2)), .val (.int (fx2 p2)), .val (.int (fx4 p2)), .val (.int z8), .val (.int z9), .unset, .unset, .unset, .unset, .unset, .unset, .unset, .unset, .unset, .unset, .unset] [(.int (fx0 z9))]) _
    refine XS.istore X0.here hx rfl (hb hby at_62) rfl (l' := #[.val (.int p0), .val (.int p1), .val (.int p2), .val (.int p3), .val (.int p4), .val (.int (fx0 p2)), .val (.int (fx2 p2)), .val (.int (fx4 p2)), .val (.int z8), .val (.int z9), .val (.int (fx0 z9)), .unset, .unset, .unset, .unset, .unset, .unset, .unset, .unset, .unset, .unset]) rfl ?_
    refine XS.iload X0.here hx rfl (hb hby at_64) rfl ?_
    refine XS.iconst X0.here hx rfl (hb hby at_66) ?_
    refine XS.iushr X0.here hx rfl (hb hby at_67) rfl ?_
    show Sp p e below s₁ (mkF m 68 #[.val (.int p0), .val (.int p1), .val (.int p2), .val (.int p3), .val (.int p4), .val (.int (fx0 p2)), .val (.int (fx2 p2)), .val (.int (fx4 p2)), .val (.int z8), .val (.int z9), .val (.int (fx0 z9)), .unset, .unset, .unset, .unset, .unset, .unset, .unset, .unset, .unset, .unset] [(.int (fx1 z9))]) _
    refine XS.sipush X0.here hx rfl (hb hby at_68) ?_
    refine XS.iand X0.here hx rfl (hb hby at_71) rfl ?_
    refine XS.i2c X0.here hx rfl (hb hby at_72) rfl ?_
    refine XS.istore X0.here hx rfl (hb hby at_73) rfl (l' := #[.val (.int p0), .val (.int p1), .val (.int p2), .val (.int p3), .val (.int p4), .val (.int (fx0 p2)), .val (.int (fx2 p2)), .val (.int (fx4 p2)), .val (.int z8), .val (.int z9), .val (.int (fx0 z9)), .val (.int (fx2 z9)), .unset, .unset, .unset, .unset, .unset, .unset, .unset, .unset, .unset]) rfl ?_
    show Sp p e below s₁ (mkF m 75 #[.val (.int p0), .val (.int p1), .val (.int p2), .val (.int p3), .val (.int p4), .val (.int (fx0 p2)), .val (.int (fx2 p2)), .val (.int (fx4 p2)), .val (.int z8), .val (.int z9), .val (.int (fx0 z9)), .val (.int (fx2 z9)), .unset, .unset, .unset, .unset, .unset, .unset, .unset, .unset, .unset] []) _
    refine XS.iload X0.here hx rfl (hb hby at_75) rfl ?_
    refine XS.bipush X0.here hx rfl (hb hby at_77) ?_
    refine XS.iushr X0.here hx rfl (hb hby at_79) rfl ?_
    refine XS.sipush X0.here hx rfl (hb hby at_80) ?_
    show Sp p e below s₁ (mkF m 83 #[.val (.int p0), .val (.int p1), .val (.int p2), .val (.int p3), .val (.int p4), .val (.int (fx0 p2)), .val (.int (fx2 p2)), .val (.int (fx4 p2)), .val (.int z8), .val (.int z9), .val (.int (fx0 z9)), .val (.int (fx2 z9)), .unset, .unset, .unset, .unset, .unset, .unset, .unset, .unset, .unset] [(.int (255 : Int32)), (.int (fx3 z9))]) _
    refine XS.iand X0.here hx rfl (hb hby at_83) rfl ?_
    refine XS.i2c X0.here hx rfl (hb hby at_84) rfl ?_
    refine XS.istore X0.here hx rfl (hb hby at_85) rfl (l' := #[.val (.int p0), .val (.int p1), .val (.int p2), .val (.int p3), .val (.int p4), .val (.int (fx0 p2)), .val (.int (fx2 p2)), .val (.int (fx4 p2)), .val (.int z8), .val (.int z9), .val (.int (fx0 z9)), .val (.int (fx2 z9)), .val (.int (fx4 z9)), .unset, .unset, .unset, .unset, .unset, .unset, .unset, .unset]) rfl ?_
    refine XS.iload X0.here hx rfl (hb hby at_87) rfl ?_
    show Sp p e below s₁ (mkF m 89 #[.val (.int p0), .val (.int p1), .val (.int p2), .val (.int p3), .val (.int p4), .val (.int (fx0 p2)), .val (.int (fx2 p2)), .val (.int (fx4 p2)), .val (.int z8), .val (.int z9), .val (.int (fx0 z9)), .val (.int (fx2 z9)), .val (.int (fx4 z9)), .unset, .unset, .unset, .unset, .unset, .unset, .unset, .unset] [(.int (fx0 p2))]) _
    refine XS.iload X0.here hx rfl (hb hby at_89) rfl ?_
    refine XS.iload X0.here hx rfl (hb hby at_91) rfl ?_
    show Sp p e below s₁ (mkF m 93 #[.val (.int p0), .val (.int p1), .val (.int p2), .val (.int p3), .val (.int p4), .val (.int (fx0 p2)), .val (.int (fx2 p2)), .val (.int (fx4 p2)), .val (.int z8), .val (.int z9), .val (.int (fx0 z9)), .val (.int (fx2 z9)), .val (.int (fx4 z9)), .unset, .unset, .unset, .unset, .unset, .unset, .unset, .unset] [(.int (fx4 p2)), (.int (fx2 p2)), (.int (fx0 p2))]) _
    refine st2.trans ?_
    show Sp p e below T2 (mkF m 96 #[.val (.int p0), .val (.int p1), .val (.int p2), .val (.int p3), .val (.int p4), .val (.int (fx0 p2)), .val (.int (fx2 p2)), .val (.int (fx4 p2)), .val (.int z8), .val (.int z9), .val (.int (fx0 z9)), .val (.int (fx2 z9)), .val (.int (fx4 z9)), .unset, .unset, .unset, .unset, .unset, .unset, .unset, .unset] [(.ref b2_0)]) _
    refine XS.astore X2.here hx rfl (hb hby at_96) rfl rfl (l' := #[.val (.int p0), .val (.int p1), .val (.int p2), .val (.int p3), .val (.int p4), .val (.int (fx0 p2)), .val (.int (fx2 p2)), .val (.int (fx4 p2)), .val (.int z8), .val (.int z9), .val (.int (fx0 z9)), .val (.int (fx2 z9)), .val (.int (fx4 z9)), .val (.ref b2_0), .unset, .unset, .unset, .unset, .unset, .unset, .unset]) rfl ?_
    refine XS.iload X2.here hx rfl (hb hby at_98) rfl ?_
    refine XS.iload X2.here hx rfl (hb hby at_100) rfl ?_
    refine XS.iload X2.here hx rfl (hb hby at_102) rfl ?_
    show Sp p e below T2 (mkF m 104 #[.val (.int p0), .val (.int p1), .val (.int p2), .val (.int p3), .val (.int p4), .val (.int (fx0 p2)), .val (.int (fx2 p2)), .val (.int (fx4 p2)), .val (.int z8), .val (.int z9), .val (.int (fx0 z9)), .val (.int (fx2 z9)), .val (.int (fx4 z9)), .val (.ref b2_0), .unset, .unset, .unset, .unset, .unset, .unset, .unset] [(.int (fx4 z9)), (.int (fx2 z9)), (.int (fx0 z9))]) _
    refine st3.trans ?_
    show Sp p e below T3 (mkF m 107 #[.val (.int p0), .val (.int p1), .val (.int p2), .val (.int p3), .val (.int p4), .val (.int (fx0 p2)), .val (.int (fx2 p2)), .val (.int (fx4 p2)), .val (.int z8), .val (.int z9), .val (.int (fx0 z9)), .val (.int (fx2 z9)), .val (.int (fx4 z9)), .val (.ref b2_0), .unset, .unset, .unset, .unset, .unset, .unset, .unset] [(.ref b3_0)]) _
    refine XS.astore X3.here hx rfl (hb hby at_107) rfl rfl (l' := #[.val (.int p0), .val (.int p1), .val (.int p2), .val (.int p3), .val (.int p4), .val (.int (fx0 p2)), .val (.int (fx2 p2)), .val (.int (fx4 p2)), .val (.int z8), .val (.int z9), .val (.int (fx0 z9)), .val (.int (fx2 z9)), .val (.int (fx4 z9)), .val (.ref b2_0), .val (.ref b3_0), .unset, .unset, .unset, .unset, .unset, .unset]) rfl ?_
    show Sp p e below T3 (mkF m 109 #[.val (.int p0), .val (.int p1), .val (.int p2), .val (.int p3), .val (.int p4), .val (.int (fx0 p2)), .val (.int (fx2 p2)), .val (.int (fx4 p2)), .val (.int z8), .val (.int z9), .val (.int (fx0 z9)), .val (.int (fx2 z9)), .val (.int (fx4 z9)), .val (.ref b2_0), .val (.ref b3_0), .unset, .unset, .unset, .unset, .unset, .unset] []) _
    refine st4 _ ?_
    show Sp p e below T3 (mkF m 125 #[.val (.int p0), .val (.int p1), .val (.int p2), .val (.int p3), .val (.int p4), .val (.int (fx0 p2)), .val (.int (fx2 p2)), .val (.int (fx4 p2)), .val (.int z8), .val (.int z9), .val (.int (fx0 z9)), .val (.int (fx2 z9)), .val (.int (fx4 z9)), .val (.ref b2_0), .val (.ref b3_0), .val (.int z15), .unset, .unset, .unset, .unset, .unset] []) _
    refine st5 _ ?_
    show Sp p e below T5 (mkF m 128 #[.val (.int p0), .val (.int p1), .val (.int p2), .val (.int p3), .val (.int p4), .val (.int (fx0 p2)), .val (.int (fx2 p2)), .val (.int (fx4 p2)), .val (.int z8), .val (.int z9), .val (.int (fx0 z9)), .val (.int (fx2 z9)), .val (.int (fx4 z9)), .val (.ref b2_0), .val (.ref b3_0), .val (.int z15), .unset, .unset, .unset, .unset, .unset] [(.ref b5)]) _
    refine XS.dup X5.here hx rfl (hb hby at_128) rfl rfl ?_
    refine XS.iloadN X5.here hx rfl (hb hby at_129) rfl ?_
    refine XS.aload X5.here hx rfl (hb hby at_130) rfl rfl ?_
    show Sp p e below T5 (mkF m 132 #[.val (.int p0), .val (.int p1), .val (.int p2), .val (.int p3), .val (.int p4), .val (.int (fx0 p2)), .val (.int (fx2 p2)), .val (.int (fx4 p2)), .val (.int z8), .val (.int z9), .val (.int (fx0 z9)), .val (.int (fx2 z9)), .val (.int (fx4 z9)), .val (.ref b2_0), .val (.ref b3_0), .val (.int z15), .unset, .unset, .unset, .unset, .unset] [(.ref b2_0), (.int p0), (.ref b5), (.ref b5)]) _
    refine st6.trans ?_
    show Sp p e below T6 (mkF m 135 #[.val (.int p0), .val (.int p1), .val (.int p2), .val (.int p3), .val (.int p4), .val (.int (fx0 p2)), .val (.int (fx2 p2)), .val (.int (fx4 p2)), .val (.int z8), .val (.int z9), .val (.int (fx0 z9)), .val (.int (fx2 z9)), .val (.int (fx4 z9)), .val (.ref b2_0), .val (.ref b3_0), .val (.int z15), .unset, .unset, .unset, .unset, .unset] [(.ref b5)]) _
    refine XS.astore X6.here hx rfl (hb hby at_135) rfl rfl (l' := #[.val (.int p0), .val (.int p1), .val (.int p2), .val (.int p3), .val (.int p4), .val (.int (fx0 p2)), .val (.int (fx2 p2)), .val (.int (fx4 p2)), .val (.int z8), .val (.int z9), .val (.int (fx0 z9)), .val (.int (fx2 z9)), .val (.int (fx4 z9)), .val (.ref b2_0), .val (.ref b3_0), .val (.int z15), .val (.ref b5), .unset, .unset, .unset, .unset]) rfl ?_
    refine XS.iload X6.here hx rfl (hb hby at_137) rfl ?_
    refine XS.iconst X6.here hx rfl (hb hby at_139) ?_
    refine XS.iand X6.here hx rfl (hb hby at_140) rfl ?_
    show Sp p e below T6 (mkF m 141 #[.val (.int p0), .val (.int p1), .val (.int p2), .val (.int p3), .val (.int p4), .val (.int (fx0 p2)), .val (.int (fx2 p2)), .val (.int (fx4 p2)), .val (.int z8), .val (.int z9), .val (.int (fx0 z9)), .val (.int (fx2 z9)), .val (.int (fx4 z9)), .val (.ref b2_0), .val (.ref b3_0), .val (.int z15), .val (.ref b5), .unset, .unset, .unset, .unset] [(.int (p4 &&& (3 : Int32)))]) _
    refine XS.istore X6.here hx rfl (hb hby at_141) rfl (l' := #[.val (.int p0), .val (.int p1), .val (.int p2), .val (.int p3), .val (.int p4), .val (.int (fx0 p2)), .val (.int (fx2 p2)), .val (.int (fx4 p2)), .val (.int z8), .val (.int z9), .val (.int (fx0 z9)), .val (.int (fx2 z9)), .val (.int (fx4 z9)), .val (.ref b2_0), .val (.ref b3_0), .val (.int z15), .val (.ref b5), .val (.int (p4 &&& (3 : Int32))), .unset, .unset, .unset]) rfl ?_
    refine XS.iload X6.here hx rfl (hb hby at_143) rfl ?_
    refine XS.ifYes X6.here hx rfl (pc0 := 145) (pc' := 154) rfl (hb hby at_145) rfl ((if0 _ _).trans (feq hc3).2) (by decide) (by decide) ?_
    refine XS.iload X6.here hx rfl (hb hby at_154) rfl ?_
    show Sp p e below T6 (mkF m 156 #[.val (.int p0), .val (.int p1), .val (.int p2), .val (.int p3), .val (.int p4), .val (.int (fx0 p2)), .val (.int (fx2 p2)), .val (.int (fx4 p2)), .val (.int z8), .val (.int z9), .val (.int (fx0 z9)), .val (.int (fx2 z9)), .val (.int (fx4 z9)), .val (.ref b2_0), .val (.ref b3_0), .val (.int z15), .val (.ref b5), .val (.int (p4 &&& (3 : Int32))), .unset, .unset, .unset] [(.int (p4 &&& (3 : Int32)))]) _
    refine XS.iconst X6.here hx rfl (hb hby at_156) ?_
    refine XS.icmpYes X6.here hx rfl (pc0 := 157) (pc' := 167) rfl (hb hby at_157) rfl (feq hc4).2 (by decide) (by decide) ?_
    show Sp p e below T6 (mkF m 167 #[.val (.int p0), .val (.int p1), .val (.int p2), .val (.int p3), .val (.int p4), .val (.int (fx0 p2)), .val (.int (fx2 p2)), .val (.int (fx4 p2)), .val (.int z8), .val (.int z9), .val (.int (fx0 z9)), .val (.int (fx2 z9)), .val (.int (fx4 z9)), .val (.ref b2_0), .val (.ref b3_0), .val (.int z15), .val (.ref b5), .val (.int (p4 &&& (3 : Int32))), .unset, .unset, .unset] []) _
    refine st7 _ ?_
    show Sp p e below T7 (mkF m 170 #[.val (.int p0), .val (.int p1), .val (.int p2), .val (.int p3), .val (.int p4), .val (.int (fx0 p2)), .val (.int (fx2 p2)), .val (.int (fx4 p2)), .val (.int z8), .val (.int z9), .val (.int (fx0 z9)), .val (.int (fx2 z9)), .val (.int (fx4 z9)), .val (.ref b2_0), .val (.ref b3_0), .val (.int z15), .val (.ref b5), .val (.int (p4 &&& (3 : Int32))), .unset, .unset, .unset] [(.ref b7)]) _
    refine XS.dup X7.here hx rfl (hb hby at_170) rfl rfl ?_
    refine XS.iload X7.here hx rfl (hb hby at_171) rfl ?_
    refine XS.aload X7.here hx rfl (hb hby at_173) rfl rfl ?_
    show Sp p e below T7 (mkF m 175 #[.val (.int p0), .val (.int p1), .val (.int p2), .val (.int p3), .val (.int p4), .val (.int (fx0 p2)), .val (.int (fx2 p2)), .val (.int (fx4 p2)), .val (.int z8), .val (.int z9), .val (.int (fx0 z9)), .val (.int (fx2 z9)), .val (.int (fx4 z9)), .val (.ref b2_0), .val (.ref b3_0), .val (.int z15), .val (.ref b5), .val (.int (p4 &&& (3 : Int32))), .unset, .unset, .unset] [(.ref b3_0), (.int z15), (.ref b7), (.ref b7)]) _
    refine st8.trans ?_
    show Sp p e below T8 (mkF m 178 #[.val (.int p0), .val (.int p1), .val (.int p2), .val (.int p3), .val (.int p4), .val (.int (fx0 p2)), .val (.int (fx2 p2)), .val (.int (fx4 p2)), .val (.int z8), .val (.int z9), .val (.int (fx0 z9)), .val (.int (fx2 z9)), .val (.int (fx4 z9)), .val (.ref b2_0), .val (.ref b3_0), .val (.int z15), .val (.ref b5), .val (.int (p4 &&& (3 : Int32))), .unset, .unset, .unset] [(.ref b7)]) _
    refine XS.astore X8.here hx rfl (hb hby at_178) rfl rfl (l' := #[.val (.int p0), .val (.int p1), .val (.int p2), .val (.int p3), .val (.int p4), .val (.int (fx0 p2)), .val (.int (fx2 p2)), .val (.int (fx4 p2)), .val (.int z8), .val (.int z9), .val (.int (fx0 z9)), .val (.int (fx2 z9)), .val (.int (fx4 z9)), .val (.ref b2_0), .val (.ref b3_0), .val (.int z15), .val (.ref b5), .val (.int (p4 &&& (3 : Int32))), .val (.ref b7), .unset, .unset]) rfl ?_
    refine XS.iload X8.here hx rfl (hb hby at_180) rfl ?_
    refine XS.iconst X8.here hx rfl (hb hby at_182) ?_
    refine XS.icmpYes X8.here hx rfl (pc0 := 183) (pc' := 192) rfl (hb hby at_183) rfl (flt (own_nlti (n := 2) rfl (by have r := (own_and (x := p4) (m := (3 : Int32)) (M := 3) rfl (by decide)); have q0 := own_nei hc3 (n := 0) rfl; have q1 := own_nei hc4 (n := 1) rfl; omega) : ¬ ((p4 &&& (3 : Int32)) < (2 : Int32)))).2.1 (by decide) (by decide) ?_
    show Sp p e below T8 (mkF m 192 #[.val (.int p0), .val (.int p1), .val (.int p2), .val (.int p3), .val (.int p4), .val (.int (fx0 p2)), .val (.int (fx2 p2)), .val (.int (fx4 p2)), .val (.int z8), .val (.int z9), .val (.int (fx0 z9)), .val (.int (fx2 z9)), .val (.int (fx4 z9)), .val (.ref b2_0), .val (.ref b3_0), .val (.int z15), .val (.ref b5), .val (.int (p4 &&& (3 : Int32))), .val (.ref b7), .unset, .unset] []) _
    refine XS.iload X8.here hx rfl (hb hby at_192) rfl ?_
    refine XS.iload X8.here hx rfl (hb hby at_194) rfl ?_
    refine XS.icmpNo X8.here hx rfl (hb hby at_196) rfl (teq hc5).2 ?_
    refine XS.iload X8.here hx rfl (hb hby at_199) rfl ?_
    show Sp p e below T8 (mkF m 201 #[.val (.int p0), .val (.int p1), .val (.int p2), .val (.int p3), .val (.int p4), .val (.int (fx0 p2)), .val (.int (fx2 p2)), .val (.int (fx4 p2)), .val (.int z8), .val (.int z9), .val (.int (fx0 z9)), .val (.int (fx2 z9)), .val (.int (fx4 z9)), .val (.ref b2_0), .val (.ref b3_0), .val (.int z15), .val (.ref b5), .val (.int (p4 &&& (3 : Int32))), .val (.ref b7), .unset, .unset] [(.int (fx0 p2))]) _
    refine XS.iconst X8.here hx rfl (hb hby at_201) ?_
    refine XS.icmpNo X8.here hx rfl (hb hby at_202) rfl (flt hc6).1 ?_
    refine XS.iload X8.here hx rfl (hb hby at_205) rfl ?_
    refine XS.iload X8.here hx rfl (hb hby at_207) rfl ?_
    show Sp p e below T8 (mkF m 209 #[.val (.int p0), .val (.int p1), .val (.int p2), .val (.int p3), .val (.int p4), .val (.int (fx0 p2)), .val (.int (fx2 p2)), .val (.int (fx4 p2)), .val (.int z8), .val (.int z9), .val (.int (fx0 z9)), .val (.int (fx2 z9)), .val (.int (fx4 z9)), .val (.ref b2_0), .val (.ref b3_0), .val (.int z15), .val (.ref b5), .val (.int (p4 &&& (3 : Int32))), .val (.ref b7), .unset, .unset] [(.int (fx2 z9)), (.int (fx2 p2))]) _
    refine XS.icmpNo X8.here hx rfl (hb hby at_209) rfl (teq hc7).2 ?_
    refine XS.iload X8.here hx rfl (hb hby at_212) rfl ?_
    refine XS.iconst X8.here hx rfl (hb hby at_214) ?_
    refine XS.icmpYes X8.here hx rfl (pc0 := 215) (pc' := 225) rfl (hb hby at_215) rfl (tlt hc8).1 (by decide) (by decide) ?_
    show Sp p e below T8 (mkF m 225 #[.val (.int p0), .val (.int p1), .val (.int p2), .val (.int p3), .val (.int p4), .val (.int (fx0 p2)), .val (.int (fx2 p2)), .val (.int (fx4 p2)), .val (.int z8), .val (.int z9), .val (.int (fx0 z9)), .val (.int (fx2 z9)), .val (.int (fx4 z9)), .val (.ref b2_0), .val (.ref b3_0), .val (.int z15), .val (.ref b5), .val (.int (p4 &&& (3 : Int32))), .val (.ref b7), .unset, .unset] []) _
    refine XS.iconst X8.here hx rfl (hb hby at_225) ?_
    refine XS.goto X8.here hx rfl (pc0 := 226) (pc' := 230) rfl (hb hby at_226) (by decide) (by decide) ?_
    refine XS.istore X8.here hx rfl (hb hby at_230) rfl (l' := #[.val (.int p0), .val (.int p1), .val (.int p2), .val (.int p3), .val (.int p4), .val (.int (fx0 p2)), .val (.int (fx2 p2)), .val (.int (fx4 p2)), .val (.int z8), .val (.int z9), .val (.int (fx0 z9)), .val (.int (fx2 z9)), .val (.int (fx4 z9)), .val (.ref b2_0), .val (.ref b3_0), .val (.int z15), .val (.ref b5), .val (.int (p4 &&& (3 : Int32))), .val (.ref b7), .unset, .val (.int (1 : Int32))]) rfl ?_
    refine XS.iloadN X8.here hx rfl (hb hby at_232) rfl ?_
    show Sp p e below T8 (mkF m 233 #[.val (.int p0), .val (.int p1), .val (.int p2), .val (.int p3), .val (.int p4), .val (.int (fx0 p2)), .val (.int (fx2 p2)), .val (.int (fx4 p2)), .val (.int z8), .val (.int z9), .val (.int (fx0 z9)), .val (.int (fx2 z9)), .val (.int (fx4 z9)), .val (.ref b2_0), .val (.ref b3_0), .val (.int z15), .val (.ref b5), .val (.int (p4 &&& (3 : Int32))), .val (.ref b7), .unset, .val (.int (1 : Int32))] [(.int p0)]) _
    refine XS.iload X8.here hx rfl (hb hby at_233) rfl ?_
    refine XS.icmpYes X8.here hx rfl (pc0 := 235) (pc' := 247) rfl (hb hby at_235) rfl (feq hc9).2 (by decide) (by decide) ?_
    refine XS.iconst X8.here hx rfl (hb hby at_247) ?_
    refine XS.istore X8.here hx rfl (hb hby at_248) rfl (l' := #[.val (.int p0), .val (.int p1), .val (.int p2), .val (.int p3), .val (.int p4), .val (.int (fx0 p2)), .val (.int (fx2 p2)), .val (.int (fx4 p2)), .val (.int z8), .val (.int z9), .val (.int (fx0 z9)), .val (.int (fx2 z9)), .val (.int (fx4 z9)), .val (.ref b2_0), .val (.ref b3_0), .val (.int z15), .val (.ref b5), .val (.int (p4 &&& (3 : Int32))), .val (.ref b7), .val (.int (0 : Int32)), .val (.int (1 : Int32))]) rfl ?_
    show Sp p e below T8 (mkF m 250 #[.val (.int p0), .val (.int p1), .val (.int p2), .val (.int p3), .val (.int p4), .val (.int (fx0 p2)), .val (.int (fx2 p2)), .val (.int (fx4 p2)), .val (.int z8), .val (.int z9), .val (.int (fx0 z9)), .val (.int (fx2 z9)), .val (.int (fx4 z9)), .val (.ref b2_0), .val (.ref b3_0), .val (.int z15), .val (.ref b5), .val (.int (p4 &&& (3 : Int32))), .val (.ref b7), .val (.int (0 : Int32)), .val (.int (1 : Int32))] []) _
    refine XS.aload X8.here hx rfl (hb hby at_250) rfl rfl ?_
    refine XS.aload X8.here hx rfl (hb hby at_252) rfl rfl ?_
    show Sp p e below T8 (mkF m 254 #[.val (.int p0), .val (.int p1), .val (.int p2), .val (.int p3), .val (.int p4), .val (.int (fx0 p2)), .val (.int (fx2 p2)), .val (.int (fx4 p2)), .val (.int z8), .val (.int z9), .val (.int (fx0 z9)), .val (.int (fx2 z9)), .val (.int (fx4 z9)), .val (.ref b2_0), .val (.ref b3_0), .val (.int z15), .val (.ref b5), .val (.int (p4 &&& (3 : Int32))), .val (.ref b7), .val (.int (0 : Int32)), .val (.int (1 : Int32))] [(.ref b7), (.ref b5)]) _
    refine st10.trans ?_
    show Sp p e below T10 (mkF m 257 #[.val (.int p0), .val (.int p1), .val (.int p2), .val (.int p3), .val (.int p4), .val (.int (fx0 p2)), .val (.int (fx2 p2)), .val (.int (fx4 p2)), .val (.int z8), .val (.int z9), .val (.int (fx0 z9)), .val (.int (fx2 z9)), .val (.int (fx4 z9)), .val (.ref b2_0), .val (.ref b3_0), .val (.int z15), .val (.ref b5), .val (.int (p4 &&& (3 : Int32))), .val (.ref b7), .val (.int (0 : Int32)), .val (.int (1 : Int32))] [(.int (0 : Int32))]) _
    refine XS.iload X10.here hx rfl (hb hby at_257) rfl ?_
    refine XS.icmpNo X10.here hx rfl (hb hby at_259) rfl (teq (by decide : (0 : Int32) = (0 : Int32))).2 ?_
    refine XS.iconst X10.here hx rfl (hb hby at_262) ?_
    refine XS.goto X10.here hx rfl (pc0 := 263) (pc' := 267) rfl (hb hby at_263) (by decide) (by decide) ?_
    show Sp p e below T10 (mkF m 267 #[.val (.int p0), .val (.int p1), .val (.int p2), .val (.int p3), .val (.int p4), .val (.int (fx0 p2)), .val (.int (fx2 p2)), .val (.int (fx4 p2)), .val (.int z8), .val (.int z9), .val (.int (fx0 z9)), .val (.int (fx2 z9)), .val (.int (fx4 z9)), .val (.ref b2_0), .val (.ref b3_0), .val (.int z15), .val (.ref b5), .val (.int (p4 &&& (3 : Int32))), .val (.ref b7), .val (.int (0 : Int32)), .val (.int (1 : Int32))] [(.int (1 : Int32))]) _
    exact retN X10 hx (t := .boolean) Bd.returns (by simp) (hb hby at_267) hr
  · skip
    exact ⟨rfl, N10⟩
set_option maxRecDepth 65536 in
set_option maxHeartbeats 40000000 in
theorem rm50 (l : Launch) (Z : State) (a0 : Array Value) (hw : ∀ d ∈ tables_1, d.before a0 Z = true) (ws : List Jvm.Cond) (cs_v : Int32) (hp : Perm Z cs_v) (p0 : Int32) (p1 : Int32) (p2 : Int32) (p3 : Int32) (p4 : Int32) (z8 : Int32) (z9 : Int32) (z15 : Int32) (h0 : Heap) (n0 : Nat) (O0 : Old Z n0 h0) (hcut28 : Cut_0_28 p0 p1 p2 p3 p4 ((p2 &&& (3 : Int32)) % (3 : Int32)) ((((p2.toUInt32 >>> ((2 : Int32) &&& 31).toUInt32).toInt32) &&& (255 : Int32)).toUInt32.toUInt16.toUInt32.toInt32) ((((p2.toUInt32 >>> ((10 : Int32) &&& 31).toUInt32).toInt32) &&& (255 : Int32)).toUInt32.toUInt16.toUInt32.toInt32) z8 z9) (hcut109 : Cut_0_109 p0 p1 p2 p3 p4 ((p2 &&& (3 : Int32)) % (3 : Int32)) ((((p2.toUInt32 >>> ((2 : Int32) &&& 31).toUInt32).toInt32) &&& (255 : Int32)).toUInt32.toUInt16.toUInt32.toInt32) ((((p2.toUInt32 >>> ((10 : Int32) &&& 31).toUInt32).toInt32) &&& (255 : Int32)).toUInt32.toUInt16.toUInt32.toInt32) z8 z9 ((z9 &&& (3 : Int32)) % (3 : Int32)) ((((z9.toUInt32 >>> ((2 : Int32) &&& 31).toUInt32).toInt32) &&& (255 : Int32)).toUInt32.toUInt16.toUInt32.toInt32) ((((z9.toUInt32 >>> ((10 : Int32) &&& 31).toUInt32).toInt32) &&& (255 : Int32)).toUInt32.toUInt16.toUInt32.toInt32) z15) (hc3 : ¬ ((p4 &&& (3 : Int32)) = (0 : Int32))) (hc4 : ¬ ((p4 &&& (3 : Int32)) = (1 : Int32))) (hc5 : ((p2 &&& (3 : Int32)) % (3 : Int32)) = ((z9 &&& (3 : Int32)) % (3 : Int32))) (hc6 : ((p2 &&& (3 : Int32)) % (3 : Int32)) < (1 : Int32)) (hc7 : ¬ (p0 = z15)) :
    MetFree l x (head1 (Jvm.Cond.code x code maxLocals ret :: ws) room_1) (fun a U => a = #[(.int p0), (.int p1), (.int p2), (.int p3), (.int p4)] ∧ Z.Warmed39 U.vm ∧ U.heap = h0 ∧ CHv Z own_EL U.vm h0) (fun _ _ _ _ _ => True) (fun _ U o U' => ∃ v L, o = .returned v ∧ (v = some (.int (1 : Int32)) ∧ Fr n0 L) ∧ ReturnedEndW U o U' L 32 1152) := by
  refine MetFree.of_bodySF (plainFor_of_name pn_1) hisR ?_
  intro p e s m args below meth c s₁ Bd hml0 hP hK
  obtain ⟨rfl, hZo, hh, hCH⟩ := hP
  have hx := Bd.exec
  have hby := Bd.bytes
  have hml : c.maxLocals = 21 := hml0
  have hown : (s.setVm s.vm).vm.findClass "com/example/epcrtools/epcrtools/exchange/RuleSetKeyEqualsPinLaw" = some m.cls := findClass_of_methodNamed Bd.named
  have hnm := (name_of_methodNamed Bd.named Bd.method).1
  have X0 : Stand p l e room_1 (s.setVm s.vm) m #[(.int p0), (.int p1), (.int p2), (.int p3), (.int p4)] below meth c s₁ [] 0 0 := Stand.of_body Bd
  have e0 : s₁.heap = h0 := by rw [← hh, Bd.state]; rfl
  have N0 := Fr.nil n0
  have hZ : Z.Warmed39 (s.setVm s.vm).vm := hZo
  have CH0 := CHr.refl hCH
  have hS0 : s.Since s.vm 0 := (State.WarmedH.refl s).since 0
  have hk0 : 0 ≤ h0.size := Nat.zero_le _
  have hp' := hp
  obtain ⟨S_COMPACT_STRINGS, h_cs⟩ := hp'
  have pre0 : ∀ t, Steps p.tables e below (s₁.setTop (mkF m 0 #[.val (.int p0), .val (.int p1), .val (.int p2), .val (.int p3), .val (.int p4), .unset, .unset, .unset, .unset, .unset, .unset, .unset, .unset, .unset, .unset, .unset, .unset, .unset, .unset, .unset, .unset] [])) t → Steps p.tables e below (s₁.setTop (entryFrame m #[(.int p0), (.int p1), (.int p2), (.int p3), (.int p4)] maxLocals)) t := fun t k => castTop (ef_0_0 m p0 p1 p2 p3 p4) k
  have st1 := hcut28 X0 hx hZ hw hby hown
  obtain ⟨_, _, ⟨T2, L2, k2, n2⟩, -, XX2, Sq2, gq2, ⟨Lc2, hQ2, l2, y2, z2, C2⟩, st2⟩ := callSS X0 hx (y := y2) hown (mvT hZ (wq hw 0 rfl)) (mvT hZ (wq hw 1 rfl)) (mvT hZ (wq hw 2 rfl)) (mvT hZ (wq hw 3 rfl)) (by decide) (own_backC (SL := []) (W := 0) (rmS1 l Z a0 hw [] cs_v hp ((p2 &&& (3 : Int32)) % (3 : Int32)) ((((p2.toUInt32 >>> ((2 : Int32) &&& 31).toUInt32).toInt32) &&& (255 : Int32)).toUInt32.toUInt16.toUInt32.toInt32) ((((p2.toUInt32 >>> ((10 : Int32) &&& 31).toUInt32).toInt32) &&& (255 : Int32)).toUInt32.toUInt16.toUInt32.toInt32) h0 n0 O0 (own_ch2 ((p2.toUInt32 >>> ((2 : Int32) &&& 31).toUInt32).toInt32)) (own_ch2 ((p2.toUInt32 >>> ((10 : Int32) &&& 31).toUInt32).toInt32))) hZ (wq hw 3 rfl) (wq hw 2 rfl) (by decide) (by decide) (own_EW hw) CH0.1 all0) (g := (mkF m 93 #[.val (.int p0), .val (.int p1), .val (.int p2), .val (.int p3), .val (.int p4), .val (.int (fx0 p2)), .val (.int (fx2 p2)), .val (.int (fx4 p2)), .val (.int z8), .val (.int z9), .val (.int (fx0 z9)), .val (.int (fx2 z9)), .val (.int (fx4 z9)), .unset, .unset, .unset, .unset, .unset, .unset, .unset, .unset] [(.int (fx4 p2)), (.int (fx2 p2)), (.int (fx0 p2))])) rfl (by rw [hml]; rfl) (argsL := [(.int (fx0 p2)), (.int (fx2 p2)), (.int (fx4 p2))]) (rest := []) (lenOf pd_5 rfl) rfl (by show 2 * 0 + _ ≤ _; exact Nat.le_of_eq rfl) (hb hby at_93) (fun _ _ => ⟨rfl, e0, (by decide : 0 + 4 ≤ _), (by decide : 0 + 8 ≤ _)⟩)
  dsimp only [Pt.U, Pt.locs, Pt.cells, Pt.slots] at XX2 Sq2 gq2 l2 y2 z2 st2 hQ2 C2
  subst l2 y2 z2
  obtain ⟨X2, hS2, hZ2, hown2⟩ := rebS hS0 (by rw [e0]; exact hk0) XX2 Sq2 gq2 hZ hown
  obtain ⟨b2_0, y2_0, kc2_0, rfl, Nq2, Kq2, sq_b2_0, fq2_0, fq2_1, fq2_2, fq2_3⟩ := hQ2
  have N2 := Fr.app N0 Nq2
  have g_b2_0 : n0 ≤ b2_0 := Nat.le_trans (own_sz O0) sq_b2_0
  have sz_b2_0 : h0.size ≤ b2_0 := Nat.le_trans (Keep.refl h0 []).1 sq_b2_0
  have CH2 := CH0.trans C2
  have hk2 : T2.heap.size ≤ T2.heap.size := Nat.le_refl _
  have O2 := O0.keep Kq2 all0
  have K2 : Keep h0 T2.heap [] := (Keep.refl h0 []).trans Kq2 all0
  obtain ⟨_, _, ⟨T3, L3, k3, n3⟩, -, XX3, Sq3, gq3, ⟨Lc3, hQ3, l3, y3, z3, C3⟩, st3⟩ := callSS X2 hx (y := y2) hown2 (mvT hZ2 (wq hw 0 rfl)) (mvT hZ2 (wq hw 1 rfl)) (mvT hZ2 (wq hw 2 rfl)) (mvT hZ2 (wq hw 3 rfl)) (by decide) (own_backC (SL := []) (W := 0) (rmS1 l Z a0 hw [] cs_v hp ((z9 &&& (3 : Int32)) % (3 : Int32)) ((((z9.toUInt32 >>> ((2 : Int32) &&& 31).toUInt32).toInt32) &&& (255 : Int32)).toUInt32.toUInt16.toUInt32.toInt32) ((((z9.toUInt32 >>> ((10 : Int32) &&& 31).toUInt32).toInt32) &&& (255 : Int32)).toUInt32.toUInt16.toUInt32.toInt32) T2.heap n0 O2 (own_ch2 ((z9.toUInt32 >>> ((2 : Int32) &&& 31).toUInt32).toInt32)) (own_ch2 ((z9.toUInt32 >>> ((10 : Int32) &&& 31).toUInt32).toInt32))) hZ2 (wq hw 3 rfl) (wq hw 2 rfl) (by decide) (by decide) (own_EW hw) CH2.1 all0) (g := (mkF m 104 #[.val (.int p0), .val (.int p1), .val (.int p2), .val (.int p3), .val (.int p4), .val (.int (fx0 p2)), .val (.int (fx2 p2)), .val (.int (fx4 p2)), .val (.int z8), .val (.int z9), .val (.int (fx0 z9)), .val (.int (fx2 z9)), .val (.int (fx4 z9)), .val (.ref b2_0), .unset, .unset, .unset, .unset, .unset, .unset, .unset] [(.int (fx4 z9)), (.int (fx2 z9)), (.int (fx0 z9))])) rfl (by rw [hml]; rfl) (argsL := [(.int (fx0 z9)), (.int (fx2 z9)), (.int (fx4 z9))]) (rest := []) (lenOf pd_5 rfl) rfl (by show 2 * 0 + _ ≤ _; exact Nat.le_of_eq rfl) (hb hby at_104) (fun _ _ => ⟨rfl, rfl, (by decide : 4 + 4 ≤ _), (by decide : 8 + 8 ≤ _)⟩)
  dsimp only [Pt.U, Pt.locs, Pt.cells, Pt.slots] at XX3 Sq3 gq3 l3 y3 z3 st3 hQ3 C3
  subst l3 y3 z3
  obtain ⟨X3, hS3, hZ3, hown3⟩ := rebS hS2 hk2 XX3 Sq3 gq3 hZ2 hown2
  obtain ⟨b3_0, y3_0, kc3_0, rfl, Nq3, Kq3, sq_b3_0, fq3_0, fq3_1, fq3_2, fq3_3⟩ := hQ3
  have N3 := Fr.app N2 Nq3
  have g_b3_0 : n0 ≤ b3_0 := Nat.le_trans (own_sz O2) sq_b3_0
  have sz_b3_0 : h0.size ≤ b3_0 := Nat.le_trans K2.1 sq_b3_0
  have CH3 := CH2.trans C3
  have hk3 : T3.heap.size ≤ T3.heap.size := Nat.le_refl _
  have O3 := O2.keep Kq3 all0
  have K3 : Keep h0 T3.heap [] := K2.trans Kq3 all0
  have st4 := hcut109 b2_0 b3_0 X3 hx hZ3 hw hby hown3
  obtain ⟨T5, h5, X5, e5, E5, A5, D5, -, st5⟩ := newO X3 hx hZ3 hown3 (wq hw 34 rfl) (wq hw 35 rfl) (wq hw 36 rfl) rfl (g := (mkF m 125 #[.val (.int p0), .val (.int p1), .val (.int p2), .val (.int p3), .val (.int p4), .val (.int (fx0 p2)), .val (.int (fx2 p2)), .val (.int (fx4 p2)), .val (.int z8), .val (.int z9), .val (.int (fx0 z9)), .val (.int (fx2 z9)), .val (.int (fx4 z9)), .val (.ref b2_0), .val (.ref b3_0), .val (.int z15), .unset, .unset, .unset, .unset, .unset] [])) rfl (hb hby at_125) (by decide) (by decide)
  obtain ⟨b5, g5⟩ : ∃ z, z = T3.heap.size := ⟨_, rfl⟩
  rw [← g5] at A5 D5 st5
  have g_b5 : n0 ≤ b5 := Nat.le_trans (own_sz O3) (Nat.le_of_eq g5.symm)
  have sz_b5 : h0.size ≤ b5 := Nat.le_trans K3.1 (Nat.le_of_eq g5.symm)
  have O5 := O3.ext E5
  have K5 : Keep h0 h5 [] := K3.ext E5
  have CH5 := CH3.trans (CHr.ext E5 CH3.1)
  have hk5 := Nat.le_trans hk3 E5.1
  have F_dataSchema_b5 : Fld Z h5 b5 "com/example/epcrtools/epcrtools/exchange/RuleSetKey" "dataSchema" "I" (.int (0 : Int32)) := D5 (Or.inr (wq hw 42 rfl)) (ty := .int) (by decide)
  have F_schemaVersion_b5 : Fld Z h5 b5 "com/example/epcrtools/epcrtools/exchange/RuleSetKey" "schemaVersion" "Ljava/lang/String;" .null := D5 (Or.inr (wq hw 49 rfl)) (ty := (.object "java/lang/String")) (by decide)
  obtain ⟨_, _, ⟨T6, L6, k6, n6⟩, -, X6, ⟨Lc6, hQ6, l6, y6, z6⟩, st6⟩ := X5.specialBack hx (y := y7) rfl hown3 (mvT hZ3 (wq hw 37 rfl)) (mvT hZ3 (wq hw 38 rfl)) (mvT hZ3 (wq hw 39 rfl)) (by decide) (backOf (W := 1) (rm17 l Z a0 hw [] cs_v hp b5 p0 b2_0 h5 n0 O5 A5 F_dataSchema_b5 F_schemaVersion_b5 g_b5 ((fq2_0.keep Kq3).ext E5)) hZ3 (wq hw 39 rfl) (wq hw 36 rfl) (by decide) (by decide)) (g := (mkF m 132 #[.val (.int p0), .val (.int p1), .val (.int p2), .val (.int p3), .val (.int p4), .val (.int (fx0 p2)), .val (.int (fx2 p2)), .val (.int (fx4 p2)), .val (.int z8), .val (.int z9), .val (.int (fx0 z9)), .val (.int (fx2 z9)), .val (.int (fx4 z9)), .val (.ref b2_0), .val (.ref b3_0), .val (.int z15), .unset, .unset, .unset, .unset, .unset] [(.ref b2_0), (.int p0), (.ref b5), (.ref b5)])) rfl (by rw [hml]; rfl) (Steps.refl _) (a := b5) (argsL := [(.int p0), (.ref b2_0)]) (rest := [(.ref b5)]) (lenOf pd_7 rfl) rfl (by show 2 * 0 + _ ≤ _; exact Nat.le_of_eq rfl) (hb hby at_132) (fun _ _ => ⟨rfl, e5, (by decide : 9 + 0 ≤ _), (by decide : 18 + 0 ≤ _)⟩)
  dsimp only [Pt.U, Pt.locs, Pt.cells, Pt.slots] at X6 l6 y6 z6 st6 hQ6
  subst l6 y6 z6
  obtain ⟨rfl, Nq6, Kq6, fq6_0, fq6_1, fq6_2⟩ := hQ6
  have N6 := Fr.app N3 Nq6
  have CH6 := CH5.trans (CHr.keep Kq6 (allS (Safe.exa hZ3.alike A5 (by decide) (by decide)) all0) CH5.1)
  have hk6 := Nat.le_trans hk5 Kq6.1
  have O6 := O5.keep Kq6 (allS g_b5 all0)
  have K6 : Keep h0 T6.heap [] := K5.trans Kq6 (allS (Or.inr sz_b5) all0)
  obtain ⟨T7, h7, X7, e7, E7, A7, D7, -, st7⟩ := newO X6 hx hZ3 hown3 (wq hw 34 rfl) (wq hw 35 rfl) (wq hw 36 rfl) rfl (g := (mkF m 167 #[.val (.int p0), .val (.int p1), .val (.int p2), .val (.int p3), .val (.int p4), .val (.int (fx0 p2)), .val (.int (fx2 p2)), .val (.int (fx4 p2)), .val (.int z8), .val (.int z9), .val (.int (fx0 z9)), .val (.int (fx2 z9)), .val (.int (fx4 z9)), .val (.ref b2_0), .val (.ref b3_0), .val (.int z15), .val (.ref b5), .val (.int (p4 &&& (3 : Int32))), .unset, .unset, .unset] [])) rfl (hb hby at_167) (by decide) (by decide)
  obtain ⟨b7, g7⟩ : ∃ z, z = T6.heap.size := ⟨_, rfl⟩
  rw [← g7] at A7 D7 st7
  have g_b7 : n0 ≤ b7 := Nat.le_trans (own_sz O6) (Nat.le_of_eq g7.symm)
  have sz_b7 : h0.size ≤ b7 := Nat.le_trans K6.1 (Nat.le_of_eq g7.symm)
  have O7 := O6.ext E7
  have K7 : Keep h0 h7 [] := K6.ext E7
  have CH7 := CH6.trans (CHr.ext E7 CH6.1)
  have hk7 := Nat.le_trans hk6 E7.1
  have F_dataSchema_b7 : Fld Z h7 b7 "com/example/epcrtools/epcrtools/exchange/RuleSetKey" "dataSchema" "I" (.int (0 : Int32)) := D7 (Or.inr (wq hw 42 rfl)) (ty := .int) (by decide)
  have F_schemaVersion_b7 : Fld Z h7 b7 "com/example/epcrtools/epcrtools/exchange/RuleSetKey" "schemaVersion" "Ljava/lang/String;" .null := D7 (Or.inr (wq hw 49 rfl)) (ty := (.object "java/lang/String")) (by decide)
  obtain ⟨_, _, ⟨T8, L8, k8, n8⟩, -, X8, ⟨Lc8, hQ8, l8, y8, z8⟩, st8⟩ := X7.specialBack hx (y := y7) rfl hown3 (mvT hZ3 (wq hw 37 rfl)) (mvT hZ3 (wq hw 38 rfl)) (mvT hZ3 (wq hw 39 rfl)) (by decide) (backOf (W := 1) (rm17 l Z a0 hw [] cs_v hp b7 z15 b3_0 h7 n0 O7 A7 F_dataSchema_b7 F_schemaVersion_b7 g_b7 (((fq3_0.ext E5).keep Kq6).ext E7)) hZ3 (wq hw 39 rfl) (wq hw 36 rfl) (by decide) (by decide)) (g := (mkF m 175 #[.val (.int p0), .val (.int p1), .val (.int p2), .val (.int p3), .val (.int p4), .val (.int (fx0 p2)), .val (.int (fx2 p2)), .val (.int (fx4 p2)), .val (.int z8), .val (.int z9), .val (.int (fx0 z9)), .val (.int (fx2 z9)), .val (.int (fx4 z9)), .val (.ref b2_0), .val (.ref b3_0), .val (.int z15), .val (.ref b5), .val (.int (p4 &&& (3 : Int32))), .unset, .unset, .unset] [(.ref b3_0), (.int z15), (.ref b7), (.ref b7)])) rfl (by rw [hml]; rfl) (Steps.refl _) (a := b7) (argsL := [(.int z15), (.ref b3_0)]) (rest := [(.ref b7)]) (lenOf pd_7 rfl) rfl (by show 2 * 0 + _ ≤ _; exact Nat.le_of_eq rfl) (hb hby at_175) (fun _ _ => ⟨rfl, e7, (by decide : 10 + 0 ≤ _), (by decide : 20 + 0 ≤ _)⟩)
  dsimp only [Pt.U, Pt.locs, Pt.cells, Pt.slots] at X8 l8 y8 z8 st8 hQ8
  subst l8 y8 z8
  obtain ⟨rfl, Nq8, Kq8, fq8_0, fq8_1, fq8_2⟩ := hQ8
  have N8 := Fr.app N6 Nq8
  have CH8 := CH7.trans (CHr.keep Kq8 (allS (Safe.exa hZ3.alike A7 (by decide) (by decide)) all0) CH7.1)
  have hk8 := Nat.le_trans hk7 Kq8.1
  have O8 := O7.keep Kq8 (allS g_b7 all0)
  have K8 : Keep h0 T8.heap [] := K7.trans Kq8 (allS (Or.inr sz_b7) all0)
  have f_9 := ((fq6_1.ext E7).keep Kq8 (ninS (Nat.ne_of_lt (Nat.lt_of_lt_of_le (A5.keep Kq6).lt (Nat.le_of_eq g7.symm))) nin0))
  obtain ⟨cq10, kq10, q10a, q10b, q10c⟩ := isOf hZ3 rfl ((fq6_0.ext E7).keep Kq8)
  obtain ⟨_, _, ⟨T10, L10, k10, n10⟩, -, X10, ⟨Lc10, hQ10, l10, y10, z10⟩, st10⟩ := X8.virtualBack hx (y := y8) (z := y8) hown3 (mvT hZ3 (wq hw 50 rfl)) (mvT hZ3 (wq hw 51 rfl)) (notFace_of_selects (args := #[]) (mvT hZ3 (wq hw 53 rfl))) (mvT hZ3 (wq hw 53 rfl)) (mvT hZ3 (wq hw 52 rfl)) (by decide) (backOf (W := 0) (rm40 l Z a0 hw [] cs_v hp b5 b7 p0 z15 T8.heap n0 O8 fq8_0 f_9 fq8_1 hc7) hZ3 (wq hw 54 rfl) (wq hw 36 rfl) (by decide) (by decide)) q10a q10c (g := (mkF m 254 #[.val (.int p0), .val (.int p1), .val (.int p2), .val (.int p3), .val (.int p4), .val (.int (fx0 p2)), .val (.int (fx2 p2)), .val (.int (fx4 p2)), .val (.int z8), .val (.int z9), .val (.int (fx0 z9)), .val (.int (fx2 z9)), .val (.int (fx4 z9)), .val (.ref b2_0), .val (.ref b3_0), .val (.int z15), .val (.ref b5), .val (.int (p4 &&& (3 : Int32))), .val (.ref b7), .val (.int (0 : Int32)), .val (.int (1 : Int32))] [(.ref b7), (.ref b5)])) rfl (by rw [hml]; rfl) (Steps.refl _) (argsL := [(.ref b7)]) (rest := []) (lenOf pd_8 rfl) rfl (by show 2 * 0 + _ ≤ _; exact Nat.le_of_eq rfl) (hb hby at_254) (fun _ _ => ⟨rfl, rfl, (by decide : 10 + 0 ≤ _), (by decide : 20 + 0 ≤ _)⟩)
  dsimp only [Pt.U, Pt.locs, Pt.cells, Pt.slots] at X10 l10 y10 z10 st10 hQ10
  subst l10 y10 z10
  obtain ⟨rfl, Nq10, eq10⟩ := hQ10
  have N10 := Fr.app N8 Nq10
  obtain ⟨fs, hr, hrun, hended, hE⟩ := Stand.leaveW (s := s) X10 hS3 (by rw [eq10]; exact hk8) (v := some (.int (1 : Int32))) (fun h => by rw [Bd.returns] at h; cases h)
  refine ⟨_, _, pre0 _ ?_, hrun, hended, _, _, rfl, ?_, hE.1, hE.2.1, hE.2.2.1, hE.2.2.2.mono (by decide) (by decide)⟩
  · show Sp p e below s₁ (mkF m 0 #[.val (.int p0), .val (.int p1), .val (.int p2), .val (.int p3), .val (.int p4), .unset, .unset, .unset, .unset, .unset, .unset, .unset, .unset, .unset, .unset, .unset, .unset, .unset, .unset, .unset, .unset] []) _
    refine XS.iloadN X0.here hx rfl (hb hby at_0) rfl ?_
    refine XS.iconst X0.here hx rfl (hb hby at_1) ?_
    refine XS.iand X0.here hx rfl (hb hby at_2) rfl ?_
    refine XS.iconst X0.here hx rfl (hb hby at_3) ?_
    show Sp p e below s₁ (mkF m 4 #[.val (.int p0), .val (.int p1), .val (.int p2), .val (.int p3), .val (.int p4), .unset, .unset, .unset, .unset, .unset, .unset, .unset, .unset, .unset, .unset, .unset, .unset, .unset, .unset, .unset, .unset] [(.int (3 : Int32)), (.int (p2 &&& (3 : Int32)))]) _
    refine iremM X0 hx rfl (hb hby at_4) rfl (by decide) ?_
    show Sp p e below s₁ (mkF m 5 #[.val (.int p0), .val (.int p1), .val (.int p2), .val (.int p3), .val (.int p4), .unset, .unset, .unset, .unset, .unset, .unset, .unset, .unset, .unset, .unset, .unset, .unset, .unset, .unset, .unset, .unset] [(.int (fx0 p2))]) _
    refine XS.istore X0.here hx rfl (hb hby at_5) rfl (l' := #[.val (.int p0), .val (.int p1), .val (.int p2), .val (.int p3), .val (.int p4), .val (.int (fx0 p2)), .unset, .unset, .unset, .unset, .unset, .unset, .unset, .unset, .unset, .unset, .unset, .unset, .unset, .unset, .unset]) rfl ?_
    refine XS.iloadN X0.here hx rfl (hb hby at_7) rfl ?_
    refine XS.iconst X0.here hx rfl (hb hby at_8) ?_
    refine XS.iushr X0.here hx rfl (hb hby at_9) rfl ?_
    show Sp p e below s₁ (mkF m 10 #[.val (.int p0), .val (.int p1), .val (.int p2), .val (.int p3), .val (.int p4), .val (.int (fx0 p2)), .unset, .unset, .unset, .unset, .unset, .unset, .unset, .unset, .unset, .unset, .unset, .unset, .unset, .unset, .unset] [(.int (fx1 p2))]) _
    refine XS.sipush X0.here hx rfl (hb hby at_10) ?_
    refine XS.iand X0.here hx rfl (hb hby at_13) rfl ?_
    refine XS.i2c X0.here hx rfl (hb hby at_14) rfl ?_
    refine XS.istore X0.here hx rfl (hb hby at_15) rfl (l' := #[.val (.int p0), .val (.int p1), .val (.int p2), .val (.int p3), .val (.int p4), .val (.int (fx0 p2)), .val (.int (fx2 p2)), .unset, .unset, .unset, .unset, .unset, .unset, .unset, .unset, .unset, .unset, .unset, .unset, .unset, .unset]) rfl ?_
    show Sp p e below s₁ (mkF m 17 #[.val (.int p0), .val (.int p1), .val (.int p2), .val (.int p3), .val (.int p4), .val (.int (fx0 p2)), .val (.int (fx2 p2)), .unset, .unset, .unset, .unset, .unset, .unset, .unset, .unset, .unset, .unset, .unset, .unset, .unset, .unset] []) _
    refine XS.iloadN X0.here hx rfl (hb hby at_17) rfl ?_
    refine XS.bipush X0.here hx rfl (hb hby at_18) ?_
    refine XS.iushr X0.here hx rfl (hb hby at_20) rfl ?_
    refine XS.sipush X0.here hx rfl (hb hby at_21) ?_
    show Sp p e below s₁ (mkF m 24 #[.val (.int p0), .val (.int p1), .val (.int p2), .val (.int p3), .val (.int p4), .val (.int (fx0 p2)), .val (.int (fx2 p2)), .unset, .unset, .unset, .unset, .unset, .unset, .unset, .unset, .unset, .unset, .unset, .unset, .unset, .unset] [(.int (255 : Int32)), (.int (fx3 p2))]) _
    refine XS.iand X0.here hx rfl (hb hby at_24) rfl ?_
    refine XS.i2c X0.here hx rfl (hb hby at_25) rfl ?_
    refine XS.istore X0.here hx rfl (hb hby at_26) rfl (l' := #[.val (.int p0), .val (.int p1), .val (.int p2), .val (.int p3), .val (.int p4), .val (.int (fx0 p2)), .val (.int (fx2 p2)), .val (.int (fx4 p2)), .unset, .unset, .unset, .unset, .unset, .unset, .unset, .unset, .unset, .unset, .unset, .unset, .unset]) rfl ?_
    show Sp p e below s₁ (mkF m 28 #[.val (.int p0), .val (.int p1), .val (.int p2), .val (.int p3), .val (.int p4), .val (.int (fx0 p2)), .val (.int (fx2 p2)), .val (.int (fx4 p2)), .unset, .unset, .unset, .unset, .unset, .unset, .unset, .unset, .unset, .unset, .unset, .unset, .unset] []) _
    refine st1 _ ?_
    show Sp p e below s₁ (mkF m 56 #[.val (.int p0), .val (.int p1), .val (.int p2), .val (.int p3), .val (.int p4), .val (.int (fx0 p2)), .val (.int (fx2 p2)), .val (.int (fx4 p2)), .val (.int z8), .val (.int z9), .unset, .unset, .unset, .unset, .unset, .unset, .unset, .unset, .unset, .unset, .unset] []) _
    refine XS.iload X0.here hx rfl (hb hby at_56) rfl ?_
    refine XS.iconst X0.here hx rfl (hb hby at_58) ?_
    refine XS.iand X0.here hx rfl (hb hby at_59) rfl ?_
    refine XS.iconst X0.here hx rfl (hb hby at_60) ?_
    show Sp p e below s₁ (mkF m 61 #[.val (.int p0), .val (.int p1), .val (.int p2), .val (.int p3), .val (.int p4), .val (.int (fx0 p2)), .val (.int (fx2 p2)), .val (.int (fx4 p2)), .val (.int z8), .val (.int z9), .unset, .unset, .unset, .unset, .unset, .unset, .unset, .unset, .unset, .unset, .unset] [(.int (3 : Int32)), (.int (z9 &&& (3 : Int32)))]) _
    refine iremM X0 hx rfl (hb hby at_61) rfl (by decide) ?_
    show Sp p e below s₁ (mkF m 62 #[.val (.int p0), .val (.int p1), .val (.int p2), .val (.int p3), .val (.int p4), .val (.int (fx0 p2)), .val (.int (fx2 p2)), .val (.int (fx4 p2)), .val (.int z8), .val (.int z9), .unset, .unset, .unset, .unset, .unset, .unset, .unset, .unset, .unset, .unset, .unset] [(.int (fx0 z9))]) _
    refine XS.istore X0.here hx rfl (hb hby at_62) rfl (l' := #[.val (.int p0), .val (.int p1), .val (.int p2), .val (.int p3), .val (.int p4), .val (.int (fx0 p2)), .val (.int (fx2 p2)), .val (.int (fx4 p2)), .val (.int z8), .val (.int z9), .val (.int (fx0 z9)), .unset, .unset, .unset, .unset, .unset, .unset, .unset, .unset, .unset, .unset]) rfl ?_
    refine XS.iload X0.here hx rfl (hb hby at_64) rfl ?_
    refine XS.iconst X0.here hx rfl (hb hby at_66) ?_
    refine XS.iushr X0.here hx rfl (hb hby at_67) rfl ?_
    show Sp p e below s₁ (mkF m 68 #[.val (.int p0), .val (.int p1), .val (.int p2), .val (.int p3), .val (.int p4), .val (.int (fx0 p2)), .val (.int (fx2 p2)), .val (.int (fx4 p2)), .val (.int z8), .val (.int z9), .val (.int (fx0 z9)), .unset, .unset, .unset, .unset, .unset, .unset, .unset, .unset, .unset, .unset] [(.int (fx1 z9))]) _
    refine XS.sipush X0.here hx rfl (hb hby at_68) ?_
    refine XS.iand X0.here hx rfl (hb hby at_71) rfl ?_
    refine XS.i2c X0.here hx rfl (hb hby at_72) rfl ?_
    refine XS.istore X0.here hx rfl (hb hby at_73) rfl (l' := #[.val (.int p0), .val (.int p1), .val (.int p2), .val (.int p3), .val (.int p4), .val (.int (fx0 p2)), .val (.int (fx2 p2)), .val (.int (fx4 p2)), .val (.int z8), .val (.int z9), .val (.int (fx0 z9)), .val (.int (fx2 z9)), .unset, .unset, .unset, .unset, .unset, .unset, .unset, .unset, .unset]) rfl ?_
    show Sp p e below s₁ (mkF m 75 #[.val (.int p0), .val (.int p1), .val (.int p2), .val (.int p3), .val (.int p4), .val (.int (fx0 p2)), .val (.int (fx2 p2)), .val (.int (fx4 p2)), .val (.int z8), .val (.int z9), .val (.int (fx0 z9)), .val (.int (fx2 z9)), .unset, .unset, .unset, .unset, .unset, .unset, .unset, .unset, .unset] []) _
    refine XS.iload X0.here hx rfl (hb hby at_75) rfl ?_
    refine XS.bipush X0.here hx rfl (hb hby at_77) ?_
    refine XS.iushr X0.here hx rfl (hb hby at_79) rfl ?_
    refine XS.sipush X0.here hx rfl (hb hby at_80) ?_
    show Sp p e below s₁ (mkF m 83 #[.val (.int p0), .val (.int p1), .val (.int p2), .val (.int p3), .val (.int p4), .val (.int (fx0 p2)), .val (.int (fx2 p2)), .val (.int (fx4 p2)), .val (.int z8), .val (.int z9), .val (.int (fx0 z9)), .val (.int (fx2 z9)), .unset, .unset, .unset, .unset, .unset, .unset, .unset, .unset, .unset] [(.int (255 : Int32)), (.int (fx3 z9))]) _
    refine XS.iand X0.here hx rfl (hb hby at_83) rfl ?_
    refine XS.i2c X0.here hx rfl (hb hby at_84) rfl ?_
    refine XS.istore X0.here hx rfl (hb hby at_85) rfl (l' := #[.val (.int p0), .val (.int p1), .val (.int p2), .val (.int p3), .val (.int p4), .val (.int (fx0 p2)), .val (.int (fx2 p2)), .val (.int (fx4 p2)), .val (.int z8), .val (.int z9), .val (.int (fx0 z9)), .val (.int (fx2 z9)), .val (.int (fx4 z9)), .unset, .unset, .unset, .unset, .unset, .unset, .unset, .unset]) rfl ?_
    refine XS.iload X0.here hx rfl (hb hby at_87) rfl ?_
    show Sp p e below s₁ (mkF m 89 #[.val (.int p0), .val (.int p1), .val (.int p2), .val (.int p3), .val (.int p4), .val (.int (fx0 p2)), .val (.int (fx2 p2)), .val (.int (fx4 p2)), .val (.int z8), .val (.int z9), .val (.int (fx0 z9)), .val (.int (fx2 z9)), .val (.int (fx4 z9)), .unset, .unset, .unset, .unset, .unset, .unset, .unset, .unset] [(.int (fx0 p2))]) _
    refine XS.iload X0.here hx rfl (hb hby at_89) rfl ?_
    refine XS.iload X0.here hx rfl (hb hby at_91) rfl ?_
    show Sp p e below s₁ (mkF m 93 #[.val (.int p0), .val (.int p1), .val (.int p2), .val (.int p3), .val (.int p4), .val (.int (fx0 p2)), .val (.int (fx2 p2)), .val (.int (fx4 p2)), .val (.int z8), .val (.int z9), .val (.int (fx0 z9)), .val (.int (fx2 z9)), .val (.int (fx4 z9)), .unset, .unset, .unset, .unset, .unset, .unset, .unset, .unset] [(.int (fx4 p2)), (.int (fx2 p2)), (.int (fx0 p2))]) _
    refine st2.trans ?_
    show Sp p e below T2 (mkF m 96 #[.val (.int p0), .val (.int p1), .val (.int p2), .val (.int p3), .val (.int p4), .val (.int (fx0 p2)), .val (.int (fx2 p2)), .val (.int (fx4 p2)), .val (.int z8), .val (.int z9), .val (.int (fx0 z9)), .val (.int (fx2 z9)), .val (.int (fx4 z9)), .unset, .unset, .unset, .unset, .unset, .unset, .unset, .unset] [(.ref b2_0)]) _
    refine XS.astore X2.here hx rfl (hb hby at_96) rfl rfl (l' := #[.val (.int p0), .val (.int p1), .val (.int p2), .val (.int p3), .val (.int p4), .val (.int (fx0 p2)), .val (.int (fx2 p2)), .val (.int (fx4 p2)), .val (.int z8), .val (.int z9), .val (.int (fx0 z9)), .val (.int (fx2 z9)), .val (.int (fx4 z9)), .val (.ref b2_0), .unset, .unset, .unset, .unset, .unset, .unset, .unset]) rfl ?_
    refine XS.iload X2.here hx rfl (hb hby at_98) rfl ?_
    refine XS.iload X2.here hx rfl (hb hby at_100) rfl ?_
    refine XS.iload X2.here hx rfl (hb hby at_102) rfl ?_
    show Sp p e below T2 (mkF m 104 #[.val (.int p0), .val (.int p1), .val (.int p2), .val (.int p3), .val (.int p4), .val (.int (fx0 p2)), .val (.int (fx2 p2)), .val (.int (fx4 p2)), .val (.int z8), .val (.int z9), .val (.int (fx0 z9)), .val (.int (fx2 z9)), .val (.int (fx4 z9)), .val (.ref b2_0), .unset, .unset, .unset, .unset, .unset, .unset, .unset] [(.int (fx4 z9)), (.int (fx2 z9)), (.int (fx0 z9))]) _
    refine st3.trans ?_
    show Sp p e below T3 (mkF m 107 #[.val (.int p0), .val (.int p1), .val (.int p2), .val (.int p3), .val (.int p4), .val (.int (fx0 p2)), .val (.int (fx2 p2)), .val (.int (fx4 p2)), .val (.int z8), .val (.int z9), .val (.int (fx0 z9)), .val (.int (fx2 z9)), .val (.int (fx4 z9)), .val (.ref b2_0), .unset, .unset, .unset, .unset, .unset, .unset, .unset] [(.ref b3_0)]) _
    refine XS.astore X3.here hx rfl (hb hby at_107) rfl rfl (l' := #[.val (.int p0), .val (.int p1), .val (.int p2), .val (.int p3), .val (.int p4), .val (.int (fx0 p2)), .val (.int (fx2 p2)), .val (.int (fx4 p2)), .val (.int z8), .val (.int z9), .val (.int (fx0 z9)), .val (.int (fx2 z9)), .val (.int (fx4 z9)), .val (.ref b2_0), .val (.ref b3_0), .unset, .unset, .unset, .unset, .unset, .unset]) rfl ?_
    show Sp p e below T3 (mkF m 109 #[.val (.int p0), .val (.int p1), .val (.int p2), .val (.int p3), .val (.int p4), .val (.int (fx0 p2)), .val (.int (fx2 p2)), .val (.int (fx4 p2)), .val (.int z8), .val (.int z9), .val (.int (fx0 z9)), .val (.int (fx2 z9)), .val (.int (fx4 z9)), .val (.ref b2_0), .val (.ref b3_0), .unset, .unset, .unset, .unset, .unset, .unset] []) _
    refine st4 _ ?_
    show Sp p e below T3 (mkF m 125 #[.val (.int p0), .val (.int p1), .val (.int p2), .val (.int p3), .val (.int p4), .val (.int (fx0 p2)), .val (.int (fx2 p2)), .val (.int (fx4 p2)), .val (.int z8), .val (.int z9), .val (.int (fx0 z9)), .val (.int (fx2 z9)), .val (.int (fx4 z9)), .val (.ref b2_0), .val (.ref b3_0), .val (.int z15), .unset, .unset, .unset, .unset, .unset] []) _
    refine st5 _ ?_
    show Sp p e below T5 (mkF m 128 #[.val (.int p0), .val (.int p1), .val (.int p2), .val (.int p3), .val (.int p4), .val (.int (fx0 p2)), .val (.int (fx2 p2)), .val (.int (fx4 p2)), .val (.int z8), .val (.int z9), .val (.int (fx0 z9)), .val (.int (fx2 z9)), .val (.int (fx4 z9)), .val (.ref b2_0), .val (.ref b3_0), .val (.int z15), .unset, .unset, .unset, .unset, .unset] [(.ref b5)]) _
    refine XS.dup X5.here hx rfl (hb hby at_128) rfl rfl ?_
    refine XS.iloadN X5.here hx rfl (hb hby at_129) rfl ?_
    refine XS.aload X5.here hx rfl (hb hby at_130) rfl rfl ?_
    show Sp p e below T5 (mkF m 132 #[.val (.int p0), .val (.int p1), .val (.int p2), .val (.int p3), .val (.int p4), .val (.int (fx0 p2)), .val (.int (fx2 p2)), .val (.int (fx4 p2)), .val (.int z8), .val (.int z9), .val (.int (fx0 z9)), .val (.int (fx2 z9)), .val (.int (fx4 z9)), .val (.ref b2_0), .val (.ref b3_0), .val (.int z15), .unset, .unset, .unset, .unset, .unset] [(.ref b2_0), (.int p0), (.ref b5), (.ref b5)]) _
    refine st6.trans ?_
    show Sp p e below T6 (mkF m 135 #[.val (.int p0), .val (.int p1), .val (.int p2), .val (.int p3), .val (.int p4), .val (.int (fx0 p2)), .val (.int (fx2 p2)), .val (.int (fx4 p2)), .val (.int z8), .val (.int z9), .val (.int (fx0 z9)), .val (.int (fx2 z9)), .val (.int (fx4 z9)), .val (.ref b2_0), .val (.ref b3_0), .val (.int z15), .unset, .unset, .unset, .unset, .unset] [(.ref b5)]) _
    refine XS.astore X6.here hx rfl (hb hby at_135) rfl rfl (l' := #[.val (.int p0), .val (.int p1), .val (.int p2), .val (.int p3), .val (.int p4), .val (.int (fx0 p2)), .val (.int (fx2 p2)), .val (.int (fx4 p2)), .val (.int z8), .val (.int z9), .val (.int (fx0 z9)), .val (.int (fx2 z9)), .val (.int (fx4 z9)), .val (.ref b2_0), .val (.ref b3_0), .val (.int z15), .val (.ref b5), .unset, .unset, .unset, .unset]) rfl ?_
    refine XS.iload X6.here hx rfl (hb hby at_137) rfl ?_
    refine XS.iconst X6.here hx rfl (hb hby at_139) ?_
    refine XS.iand X6.here hx rfl (hb hby at_140) rfl ?_
    show Sp p e below T6 (mkF m 141 #[.val (.int p0), .val (.int p1), .val (.int p2), .val (.int p3), .val (.int p4), .val (.int (fx0 p2)), .val (.int (fx2 p2)), .val (.int (fx4 p2)), .val (.int z8), .val (.int z9), .val (.int (fx0 z9)), .val (.int (fx2 z9)), .val (.int (fx4 z9)), .val (.ref b2_0), .val (.ref b3_0), .val (.int z15), .val (.ref b5), .unset, .unset, .unset, .unset] [(.int (p4 &&& (3 : Int32)))]) _
    refine XS.istore X6.here hx rfl (hb hby at_141) rfl (l' := #[.val (.int p0), .val (.int p1), .val (.int p2), .val (.int p3), .val (.int p4), .val (.int (fx0 p2)), .val (.int (fx2 p2)), .val (.int (fx4 p2)), .val (.int z8), .val (.int z9), .val (.int (fx0 z9)), .val (.int (fx2 z9)), .val (.int (fx4 z9)), .val (.ref b2_0), .val (.ref b3_0), .val (.int z15), .val (.ref b5), .val (.int (p4 &&& (3 : Int32))), .unset, .unset, .unset]) rfl ?_
    refine XS.iload X6.here hx rfl (hb hby at_143) rfl ?_
    refine XS.ifYes X6.here hx rfl (pc0 := 145) (pc' := 154) rfl (hb hby at_145) rfl ((if0 _ _).trans (feq hc3).2) (by decide) (by decide) ?_
    refine XS.iload X6.here hx rfl (hb hby at_154) rfl ?_
    show Sp p e below T6 (mkF m 156 #[.val (.int p0), .val (.int p1), .val (.int p2), .val (.int p3), .val (.int p4), .val (.int (fx0 p2)), .val (.int (fx2 p2)), .val (.int (fx4 p2)), .val (.int z8), .val (.int z9), .val (.int (fx0 z9)), .val (.int (fx2 z9)), .val (.int (fx4 z9)), .val (.ref b2_0), .val (.ref b3_0), .val (.int z15), .val (.ref b5), .val (.int (p4 &&& (3 : Int32))), .unset, .unset, .unset] [(.int (p4 &&& (3 : Int32)))]) _
    refine XS.iconst X6.here hx rfl (hb hby at_156) ?_
    refine XS.icmpYes X6.here hx rfl (pc0 := 157) (pc' := 167) rfl (hb hby at_157) rfl (feq hc4).2 (by decide) (by decide) ?_
    show Sp p e below T6 (mkF m 167 #[.val (.int p0), .val (.int p1), .val (.int p2), .val (.int p3), .val (.int p4), .val (.int (fx0 p2)), .val (.int (fx2 p2)), .val (.int (fx4 p2)), .val (.int z8), .val (.int z9), .val (.int (fx0 z9)), .val (.int (fx2 z9)), .val (.int (fx4 z9)), .val (.ref b2_0), .val (.ref b3_0), .val (.int z15), .val (.ref b5), .val (.int (p4 &&& (3 : Int32))), .unset, .unset, .unset] []) _
    refine st7 _ ?_
    show Sp p e below T7 (mkF m 170 #[.val (.int p0), .val (.int p1), .val (.int p2), .val (.int p3), .val (.int p4), .val (.int (fx0 p2)), .val (.int (fx2 p2)), .val (.int (fx4 p2)), .val (.int z8), .val (.int z9), .val (.int (fx0 z9)), .val (.int (fx2 z9)), .val (.int (fx4 z9)), .val (.ref b2_0), .val (.ref b3_0), .val (.int z15), .val (.ref b5), .val (.int (p4 &&& (3 : Int32))), .unset, .unset, .unset] [(.ref b7)]) _
    refine XS.dup X7.here hx rfl (hb hby at_170) rfl rfl ?_
    refine XS.iload X7.here hx rfl (hb hby at_171) rfl ?_
    refine XS.aload X7.here hx rfl (hb hby at_173) rfl rfl ?_
    show Sp p e below T7 (mkF m 175 #[.val (.int p0), .val (.int p1), .val (.int p2), .val (.int p3), .val (.int p4), .val (.int (fx0 p2)), .val (.int (fx2 p2)), .val (.int (fx4 p2)), .val (.int z8), .val (.int z9), .val (.int (fx0 z9)), .val (.int (fx2 z9)), .val (.int (fx4 z9)), .val (.ref b2_0), .val (.ref b3_0), .val (.int z15), .val (.ref b5), .val (.int (p4 &&& (3 : Int32))), .unset, .unset, .unset] [(.ref b3_0), (.int z15), (.ref b7), (.ref b7)]) _
    refine st8.trans ?_
    show Sp p e below T8 (mkF m 178 #[.val (.int p0), .val (.int p1), .val (.int p2), .val (.int p3), .val (.int p4), .val (.int (fx0 p2)), .val (.int (fx2 p2)), .val (.int (fx4 p2)), .val (.int z8), .val (.int z9), .val (.int (fx0 z9)), .val (.int (fx2 z9)), .val (.int (fx4 z9)), .val (.ref b2_0), .val (.ref b3_0), .val (.int z15), .val (.ref b5), .val (.int (p4 &&& (3 : Int32))), .unset, .unset, .unset] [(.ref b7)]) _
    refine XS.astore X8.here hx rfl (hb hby at_178) rfl rfl (l' := #[.val (.int p0), .val (.int p1), .val (.int p2), .val (.int p3), .val (.int p4), .val (.int (fx0 p2)), .val (.int (fx2 p2)), .val (.int (fx4 p2)), .val (.int z8), .val (.int z9), .val (.int (fx0 z9)), .val (.int (fx2 z9)), .val (.int (fx4 z9)), .val (.ref b2_0), .val (.ref b3_0), .val (.int z15), .val (.ref b5), .val (.int (p4 &&& (3 : Int32))), .val (.ref b7), .unset, .unset]) rfl ?_
    refine XS.iload X8.here hx rfl (hb hby at_180) rfl ?_
    refine XS.iconst X8.here hx rfl (hb hby at_182) ?_
    refine XS.icmpYes X8.here hx rfl (pc0 := 183) (pc' := 192) rfl (hb hby at_183) rfl (flt (own_nlti (n := 2) rfl (by have r := (own_and (x := p4) (m := (3 : Int32)) (M := 3) rfl (by decide)); have q0 := own_nei hc3 (n := 0) rfl; have q1 := own_nei hc4 (n := 1) rfl; omega) : ¬ ((p4 &&& (3 : Int32)) < (2 : Int32)))).2.1 (by decide) (by decide) ?_
    show Sp p e below T8 (mkF m 192 #[.val (.int p0), .val (.int p1), .val (.int p2), .val (.int p3), .val (.int p4), .val (.int (fx0 p2)), .val (.int (fx2 p2)), .val (.int (fx4 p2)), .val (.int z8), .val (.int z9), .val (.int (fx0 z9)), .val (.int (fx2 z9)), .val (.int (fx4 z9)), .val (.ref b2_0), .val (.ref b3_0), .val (.int z15), .val (.ref b5), .val (.int (p4 &&& (3 : Int32))), .val (.ref b7), .unset, .unset] []) _
    refine XS.iload X8.here hx rfl (hb hby at_192) rfl ?_
    refine XS.iload X8.here hx rfl (hb hby at_194) rfl ?_
    refine XS.icmpNo X8.here hx rfl (hb hby at_196) rfl (teq hc5).2 ?_
    refine XS.iload X8.here hx rfl (hb hby at_199) rfl ?_
    show Sp p e below T8 (mkF m 201 #[.val (.int p0), .val (.int p1), .val (.int p2), .val (.int p3), .val (.int p4), .val (.int (fx0 p2)), .val (.int (fx2 p2)), .val (.int (fx4 p2)), .val (.int z8), .val (.int z9), .val (.int (fx0 z9)), .val (.int (fx2 z9)), .val (.int (fx4 z9)), .val (.ref b2_0), .val (.ref b3_0), .val (.int z15), .val (.ref b5), .val (.int (p4 &&& (3 : Int32))), .val (.ref b7), .unset, .unset] [(.int (fx0 p2))]) _
    refine XS.iconst X8.here hx rfl (hb hby at_201) ?_
    refine XS.icmpYes X8.here hx rfl (pc0 := 202) (pc' := 212) rfl (hb hby at_202) rfl (tlt hc6).1 (by decide) (by decide) ?_
    refine XS.iload X8.here hx rfl (hb hby at_212) rfl ?_
    refine XS.iconst X8.here hx rfl (hb hby at_214) ?_
    show Sp p e below T8 (mkF m 215 #[.val (.int p0), .val (.int p1), .val (.int p2), .val (.int p3), .val (.int p4), .val (.int (fx0 p2)), .val (.int (fx2 p2)), .val (.int (fx4 p2)), .val (.int z8), .val (.int z9), .val (.int (fx0 z9)), .val (.int (fx2 z9)), .val (.int (fx4 z9)), .val (.ref b2_0), .val (.ref b3_0), .val (.int z15), .val (.ref b5), .val (.int (p4 &&& (3 : Int32))), .val (.ref b7), .unset, .unset] [(.int (2 : Int32)), (.int (fx0 p2))]) _
    refine XS.icmpYes X8.here hx rfl (pc0 := 215) (pc' := 225) rfl (hb hby at_215) rfl (tlt (own_lt12 hc6)).1 (by decide) (by decide) ?_
    refine XS.iconst X8.here hx rfl (hb hby at_225) ?_
    refine XS.goto X8.here hx rfl (pc0 := 226) (pc' := 230) rfl (hb hby at_226) (by decide) (by decide) ?_
    refine XS.istore X8.here hx rfl (hb hby at_230) rfl (l' := #[.val (.int p0), .val (.int p1), .val (.int p2), .val (.int p3), .val (.int p4), .val (.int (fx0 p2)), .val (.int (fx2 p2)), .val (.int (fx4 p2)), .val (.int z8), .val (.int z9), .val (.int (fx0 z9)), .val (.int (fx2 z9)), .val (.int (fx4 z9)), .val (.ref b2_0), .val (.ref b3_0), .val (.int z15), .val (.ref b5), .val (.int (p4 &&& (3 : Int32))), .val (.ref b7), .unset, .val (.int (1 : Int32))]) rfl ?_
    show Sp p e below T8 (mkF m 232 #[.val (.int p0), .val (.int p1), .val (.int p2), .val (.int p3), .val (.int p4), .val (.int (fx0 p2)), .val (.int (fx2 p2)), .val (.int (fx4 p2)), .val (.int z8), .val (.int z9), .val (.int (fx0 z9)), .val (.int (fx2 z9)), .val (.int (fx4 z9)), .val (.ref b2_0), .val (.ref b3_0), .val (.int z15), .val (.ref b5), .val (.int (p4 &&& (3 : Int32))), .val (.ref b7), .unset, .val (.int (1 : Int32))] []) _
    refine XS.iloadN X8.here hx rfl (hb hby at_232) rfl ?_
    refine XS.iload X8.here hx rfl (hb hby at_233) rfl ?_
    refine XS.icmpYes X8.here hx rfl (pc0 := 235) (pc' := 247) rfl (hb hby at_235) rfl (feq hc7).2 (by decide) (by decide) ?_
    refine XS.iconst X8.here hx rfl (hb hby at_247) ?_
    show Sp p e below T8 (mkF m 248 #[.val (.int p0), .val (.int p1), .val (.int p2), .val (.int p3), .val (.int p4), .val (.int (fx0 p2)), .val (.int (fx2 p2)), .val (.int (fx4 p2)), .val (.int z8), .val (.int z9), .val (.int (fx0 z9)), .val (.int (fx2 z9)), .val (.int (fx4 z9)), .val (.ref b2_0), .val (.ref b3_0), .val (.int z15), .val (.ref b5), .val (.int (p4 &&& (3 : Int32))), .val (.ref b7), .unset, .val (.int (1 : Int32))] [(.int (0 : Int32))]) _
    refine XS.istore X8.here hx rfl (hb hby at_248) rfl (l' := #[.val (.int p0), .val (.int p1), .val (.int p2), .val (.int p3), .val (.int p4), .val (.int (fx0 p2)), .val (.int (fx2 p2)), .val (.int (fx4 p2)), .val (.int z8), .val (.int z9), .val (.int (fx0 z9)), .val (.int (fx2 z9)), .val (.int (fx4 z9)), .val (.ref b2_0), .val (.ref b3_0), .val (.int z15), .val (.ref b5), .val (.int (p4 &&& (3 : Int32))), .val (.ref b7), .val (.int (0 : Int32)), .val (.int (1 : Int32))]) rfl ?_
    refine XS.aload X8.here hx rfl (hb hby at_250) rfl rfl ?_
    refine XS.aload X8.here hx rfl (hb hby at_252) rfl rfl ?_
    show Sp p e below T8 (mkF m 254 #[.val (.int p0), .val (.int p1), .val (.int p2), .val (.int p3), .val (.int p4), .val (.int (fx0 p2)), .val (.int (fx2 p2)), .val (.int (fx4 p2)), .val (.int z8), .val (.int z9), .val (.int (fx0 z9)), .val (.int (fx2 z9)), .val (.int (fx4 z9)), .val (.ref b2_0), .val (.ref b3_0), .val (.int z15), .val (.ref b5), .val (.int (p4 &&& (3 : Int32))), .val (.ref b7), .val (.int (0 : Int32)), .val (.int (1 : Int32))] [(.ref b7), (.ref b5)]) _
    refine st10.trans ?_
    show Sp p e below T10 (mkF m 257 #[.val (.int p0), .val (.int p1), .val (.int p2), .val (.int p3), .val (.int p4), .val (.int (fx0 p2)), .val (.int (fx2 p2)), .val (.int (fx4 p2)), .val (.int z8), .val (.int z9), .val (.int (fx0 z9)), .val (.int (fx2 z9)), .val (.int (fx4 z9)), .val (.ref b2_0), .val (.ref b3_0), .val (.int z15), .val (.ref b5), .val (.int (p4 &&& (3 : Int32))), .val (.ref b7), .val (.int (0 : Int32)), .val (.int (1 : Int32))] [(.int (0 : Int32))]) _
    refine XS.iload X10.here hx rfl (hb hby at_257) rfl ?_
    refine XS.icmpNo X10.here hx rfl (hb hby at_259) rfl (teq (by decide : (0 : Int32) = (0 : Int32))).2 ?_
    refine XS.iconst X10.here hx rfl (hb hby at_262) ?_
    refine XS.goto X10.here hx rfl (pc0 := 263) (pc' := 267) rfl (hb hby at_263) (by decide) (by decide) ?_
    show Sp p e below T10 (mkF m 267 #[.val (.int p0), .val (.int p1), .val (.int p2), .val (.int p3), .val (.int p4), .val (.int (fx0 p2)), .val (.int (fx2 p2)), .val (.int (fx4 p2)), .val (.int z8), .val (.int z9), .val (.int (fx0 z9)), .val (.int (fx2 z9)), .val (.int (fx4 z9)), .val (.ref b2_0), .val (.ref b3_0), .val (.int z15), .val (.ref b5), .val (.int (p4 &&& (3 : Int32))), .val (.ref b7), .val (.int (0 : Int32)), .val (.int (1 : Int32))] [(.int (1 : Int32))]) _
    exact retN X10 hx (t := .boolean) Bd.returns (by simp) (hb hby at_267) hr
  · skip
    exact ⟨rfl, N10⟩
set_option maxRecDepth 65536 in
set_option maxHeartbeats 4000000 in
theorem rm_law (l : Launch) (Z : State) (a0 : Array Value) (hw : ∀ d ∈ tables_1, d.before a0 Z = true) (ws : List Jvm.Cond) (cs_v : Int32) (hp : Perm Z cs_v) (p0 : Int32) (p1 : Int32) (p2 : Int32) (p3 : Int32) (p4 : Int32) (h0 : Heap) (n0 : Nat) (O0 : Old Z n0 h0) :
    MetFree l x (head1 (Jvm.Cond.code x code maxLocals ret :: ws) room_1) (fun a U => a = #[(.int p0), (.int p1), (.int p2), (.int p3), (.int p4)] ∧ Z.Warmed39 U.vm ∧ U.heap = h0 ∧ CHv Z own_EL U.vm h0) (fun _ _ _ _ _ => True) (fun _ U o U' => ∃ v L, o = .returned v ∧ (v = some (.int (1 : Int32)) ∧ Fr n0 L) ∧ ReturnedEndW U o U' L 32 1152) := by
  obtain ⟨z8, z9, hcut28⟩ := cut_0_28 p0 p1 p2 p3 p4 ((p2 &&& (3 : Int32)) % (3 : Int32)) ((((p2.toUInt32 >>> ((2 : Int32) &&& 31).toUInt32).toInt32) &&& (255 : Int32)).toUInt32.toUInt16.toUInt32.toInt32) ((((p2.toUInt32 >>> ((10 : Int32) &&& 31).toUInt32).toInt32) &&& (255 : Int32)).toUInt32.toUInt16.toUInt32.toInt32)
  obtain ⟨z15, hcut109⟩ := cut_0_109 p0 p1 p2 p3 p4 ((p2 &&& (3 : Int32)) % (3 : Int32)) ((((p2.toUInt32 >>> ((2 : Int32) &&& 31).toUInt32).toInt32) &&& (255 : Int32)).toUInt32.toUInt16.toUInt32.toInt32) ((((p2.toUInt32 >>> ((10 : Int32) &&& 31).toUInt32).toInt32) &&& (255 : Int32)).toUInt32.toUInt16.toUInt32.toInt32) z8 z9 ((z9 &&& (3 : Int32)) % (3 : Int32)) ((((z9.toUInt32 >>> ((2 : Int32) &&& 31).toUInt32).toInt32) &&& (255 : Int32)).toUInt32.toUInt16.toUInt32.toInt32) ((((z9.toUInt32 >>> ((10 : Int32) &&& 31).toUInt32).toInt32) &&& (255 : Int32)).toUInt32.toUInt16.toUInt32.toInt32)
  by_cases d0 : (p4 &&& (3 : Int32)) = (0 : Int32)
  · skip
    exact rm19 l Z a0 hw ws cs_v hp p0 p1 p2 p3 p4 z8 z9 z15 h0 n0 O0 hcut28 hcut109 d0
  · skip
    by_cases d1 : (p4 &&& (3 : Int32)) = (1 : Int32)
    · skip
      exact rm21 l Z a0 hw ws cs_v hp p0 p1 p2 p3 p4 z8 z9 z15 h0 n0 O0 hcut28 hcut109 d0 d1
    · skip
      by_cases d2 : ((p2 &&& (3 : Int32)) % (3 : Int32)) = ((z9 &&& (3 : Int32)) % (3 : Int32))
      · skip
        by_cases d3 : ((p2 &&& (3 : Int32)) % (3 : Int32)) < (1 : Int32)
        · skip
          by_cases d4 : p0 = z15
          · skip
            exact rm36 l Z a0 hw ws cs_v hp p0 p1 p2 p3 p4 z8 z9 z15 h0 n0 O0 hcut28 hcut109 d0 d1 d2 d3 d4
          · skip
            exact rm50 l Z a0 hw ws cs_v hp p0 p1 p2 p3 p4 z8 z9 z15 h0 n0 O0 hcut28 hcut109 d0 d1 d2 d3 d4
        · skip
          by_cases d4 : ((((p2.toUInt32 >>> ((2 : Int32) &&& 31).toUInt32).toInt32) &&& (255 : Int32)).toUInt32.toUInt16.toUInt32.toInt32) = ((((z9.toUInt32 >>> ((2 : Int32) &&& 31).toUInt32).toInt32) &&& (255 : Int32)).toUInt32.toUInt16.toUInt32.toInt32)
          · skip
            by_cases d5 : ((p2 &&& (3 : Int32)) % (3 : Int32)) < (2 : Int32)
            · skip
              by_cases d6 : p0 = z15
              · skip
                exact rm42 l Z a0 hw ws cs_v hp p0 p1 p2 p3 p4 z8 z9 z15 h0 n0 O0 hcut28 hcut109 d0 d1 d2 d3 d4 d5 d6
              · skip
                exact rm49 l Z a0 hw ws cs_v hp p0 p1 p2 p3 p4 z8 z9 z15 h0 n0 O0 hcut28 hcut109 d0 d1 d2 d3 d4 d5 d6
            · skip
              by_cases d6 : ((((p2.toUInt32 >>> ((10 : Int32) &&& 31).toUInt32).toInt32) &&& (255 : Int32)).toUInt32.toUInt16.toUInt32.toInt32) = ((((z9.toUInt32 >>> ((10 : Int32) &&& 31).toUInt32).toInt32) &&& (255 : Int32)).toUInt32.toUInt16.toUInt32.toInt32)
              · skip
                by_cases d7 : p0 = z15
                · skip
                  exact rm45 l Z a0 hw ws cs_v hp p0 p1 p2 p3 p4 z8 z9 z15 h0 n0 O0 hcut28 hcut109 d0 d1 d2 d3 d4 d5 d6 d7
                · skip
                  exact rm48 l Z a0 hw ws cs_v hp p0 p1 p2 p3 p4 z8 z9 z15 h0 n0 O0 hcut28 hcut109 d0 d1 d2 d3 d4 d5 d6 d7
              · skip
                by_cases d7 : p0 = z15
                · skip
                  exact rm46 l Z a0 hw ws cs_v hp p0 p1 p2 p3 p4 z8 z9 z15 h0 n0 O0 hcut28 hcut109 d0 d1 d2 d3 d4 d5 d6 d7
                · skip
                  exact rm47 l Z a0 hw ws cs_v hp p0 p1 p2 p3 p4 z8 z9 z15 h0 n0 O0 hcut28 hcut109 d0 d1 d2 d3 d4 d5 d6 d7
          · skip
            by_cases d5 : p0 = z15
            · skip
              exact rm43 l Z a0 hw ws cs_v hp p0 p1 p2 p3 p4 z8 z9 z15 h0 n0 O0 hcut28 hcut109 d0 d1 d2 d3 d4 d5
            · skip
              exact rm44 l Z a0 hw ws cs_v hp p0 p1 p2 p3 p4 z8 z9 z15 h0 n0 O0 hcut28 hcut109 d0 d1 d2 d3 d4 d5
      · skip
        by_cases d3 : p0 = z15
        · skip
          exact rm39 l Z a0 hw ws cs_v hp p0 p1 p2 p3 p4 z8 z9 z15 h0 n0 O0 hcut28 hcut109 d0 d1 d2 d3
        · skip
          exact rm41 l Z a0 hw ws cs_v hp p0 p1 p2 p3 p4 z8 z9 z15 h0 n0 O0 hcut28 hcut109 d0 d1 d2 d3
set_option maxRecDepth 65536 in
set_option maxHeartbeats 40000000 in
theorem comes_1 {Post : Tables → Env → Array Value → State → Outcome → State → Prop} (hpost : ∀ tb e args s v u, (limb_1_1.after args s (.returned v) u = true ∧ limb_1_2.after args s (.returned v) u = true ∧ True) → ReturnedEndW s (.returned v) u (Jvm.fieldLocs frame_1_writes args s ++ Jvm.arrayLocs frame_1_arrays args s ++ Jvm.staticLocs frame_1_statics s) 32 1152 → Post tb e args s (.returned v) u) :
    ArmFor flags0 classFile x code maxLocals ret World_1 tables_1 room_1 Calls_1 rest_1 Pre_1 Post := by
  intro l hfl _ _ p e ha hc hk s m args below hf hA hF happ hP
  obtain ⟨hcalls, hrest, hpre⟩ := hP
  obtain ⟨-, -, -, hnamed, -, -, -, hat⟩ := (Spec.applies_iff hf).mp happ
  obtain ⟨hg, hn⟩ := and_e (Cond.before_iff.mp (show (Jvm.Cond.and given_1 narrow_1).before args s = true from hpre))
  obtain ⟨h1, hg⟩ := and_e hg
  obtain ⟨ga0, hg⟩ := and_e hg
  obtain ⟨ga1, hg⟩ := and_e hg
  obtain ⟨ga2, hg⟩ := and_e hg
  obtain ⟨ga3, hg⟩ := and_e hg
  have ga4 := hg
  obtain ⟨w0, w1, w2, w3, w4, rfl⟩ : ∃ w0 w1 w2 w3 w4 : Value, args = #[w0, w1, w2, w3, w4] := by
    have hs : args.size = 5 := by simpa [Cond.value, given_1] using h1
    obtain ⟨L⟩ := args
    match L, hs with
    | [w0, w1, w2, w3, w4], _ => exact ⟨w0, w1, w2, w3, w4, rfl⟩
  have hw := fun d (hd : d ∈ tables_1) => atoms_spec (ws := Jvm.Cond.code x code maxLocals ret :: tables_1) hat d (List.mem_cons_of_mem _ hd)
  have hfit : Fit s := fun {y c} hc i hi => by
    obtain ⟨ha, rfl⟩ := Array.getElem?_eq_some_iff.mp hc
    have q := List.all_eq_true.mp ((Array.all_eq_true_iff_forall_mem.mp hF) _ (Array.getElem_mem ha)) i (List.mem_range.mpr hi)
    simpa [Array.getElem?_eq_getElem hi] using q
  obtain ⟨hsets, hown0⟩ := atoms_of _ (rest_1_c_eq ▸ (show rest_1_c.before _ s = true from hrest))
  have hr0 := Cond.before_iff.mp hown0
  obtain ⟨i0, ei0⟩ := is_v ga0
  obtain rfl : w0 = (.int i0) := Option.some.inj ei0
  obtain ⟨i1, ei1⟩ := is_v ga1
  obtain rfl : w1 = (.int i1) := Option.some.inj ei1
  obtain ⟨i2, ei2⟩ := is_v ga2
  obtain rfl : w2 = (.int i2) := Option.some.inj ei2
  obtain ⟨i3, ei3⟩ := is_v ga3
  obtain rfl : w3 = (.int i3) := Option.some.inj ei3
  obtain ⟨i4, ei4⟩ := is_v ga4
  obtain rfl : w4 = (.int i4) := Option.some.inj ei4
  obtain ⟨cs_v, ev_cs⟩ := is_v (Cond.before_iff.mp (hsets _ (List.mem_of_getElem? (i := 1) rfl)))
  have S_COMPACT_STRINGS := Sta.start ev_cs (Or.inl (hsets _ (List.mem_of_getElem? (i := 0) rfl)))
  have h_cs : ¬ (cs_v = (0 : Int32)) := gotF (Cond.eq_ints ev_cs (Term.int_eval (0 : Int32))) (not_v (r := true) (Cond.before_iff.mp (hsets _ (List.mem_of_getElem? (i := 2) rfl))))
  have hCHs : CHv s own_EL s.vm s.heap := CHv.start (own_EW hw) hcalls.1 (hsets _ (List.mem_of_getElem? (i := 2) rfl)) (wq hw 23 rfl) (wq hw 5 rfl)
  obtain ⟨n, o, h1, h2, h3, _, L, rfl, ⟨rfl, N⟩, hq⟩ := rm_law l s _ hw tables_1 cs_v ⟨S_COMPACT_STRINGS, h_cs⟩ i0 i1 i2 i3 i4 s.heap s.heap.size (Old.start s) p e ha hc hk s m _ below hf ((Spec.applies_iff_loose hf).mp happ).1 ⟨rfl, State.Warmed39.refl s, rfl, hCHs⟩ trivial
  refine ⟨n, _, h1, h2, h3, hpost _ _ _ _ _ _ ⟨Cond.after_iff.mpr rfl, Cond.after_iff.mpr (eq_i res_at (Term.int_eval (1)) rfl), trivial⟩ ⟨hq.1, hq.2.1, hq.2.2.1, (hq.2.2.2.sift fun y hy => Or.inr (N y hy)).mono (by decide) (by decide)⟩⟩
theorem main_1_1 : Claimed_1_1 := comes_1 fun _ _ _ _ _ _ h hF => ⟨h.1, hF⟩
theorem main_1_2 : Claimed_1_2 := comes_1 fun _ _ _ _ _ _ h hF => ⟨h.2.1, hF⟩
end Jvm.Pilot.@@N@@
namespace Jvm.Pilot.@@N@@
open Jvm Jvm.ClassFile Sem Op Lib Jvm.Free Jvm.Stand Jvm.Pilot.@@N@@.Jvm.D
/-! MADE BY PROGRAM (witnessworld.py) out of the Statement's table words and the real class files: 21 classes; the members and pool entries that the words name. The judged class is class 1, her method 2. -/
namespace start1
open Jvm.ClassFile
def u (s : String) : CpInfo := .utf8 (stringToUtf16 s)
/-- a pool by its gaps: so many unusable entries, then the entry; so many at the end -/
def gap : Nat → List CpInfo → List CpInfo
  | 0, r => r
  | n + 1, r => .unusable :: gap n r
def poolList (es : List (Nat × CpInfo)) (last : Nat) : List CpInfo := es.foldr (fun e r => gap e.1 (e.2 :: r)) (gap last [])
def pool (es : List (Nat × CpInfo)) (last : Nat) : Array CpInfo := ⟨poolList es last⟩
def fileOf (pool : Array CpInfo) (this : Nat) (attrs : Array Attribute := #[]) (ms : Array MethodInfo := #[]) (fl : Nat := 33) (sup : Nat := 0) (ifs : Array Nat := #[]) (fds : Array FieldInfo := #[]) : ClassFile where
  minorVersion := 0
  majorVersion := 65
  constantPool := pool
  accessFlags := fl
  thisClass := this
  superClass := sup
  interfaces := ifs
  fields := fds
  methods := ms
  attributes := attrs
def plain (name : String) (sup : Option ClassId) : Class where
  name := name
  kind := .ordinary
  loader := none
  accessFlags := 33
  super := sup
  interfaces := #[]
  cf := none
  fields := #[]
  methods := #[]
  instanceTypes := #[]
  staticTypes := #[]
  resolved := #[]
  callSites := []
  init := .initialized
  statics := none
  mirror := none

def pool0 : Array CpInfo := pool [(5, u "<init>"), (0, u "()V"), (1, .class_ 10), (1, u "java/lang/Object")] 113

def k0c0 : Code := { maxStack := 0, maxLocals := 1, code := object_method_1_code, exceptionTable := #[], attributes := #[] }
def k0m0 : Method := { name := "<init>", desc := "()V", sig := { parameters := [], returnType := none }, accessFlags := 1, code := some k0c0 }
/-- java/lang/Object -/
def k0 : Class := { plain "java/lang/Object" none with
  accessFlags := 33
  interfaces := #[]
  cf := some (fileOf pool0 8 #[] #[{ accessFlags := 1, nameIndex := 5, descriptorIndex := 6, attributes := #[] }] 33 0 #[] #[])
  fields := #[]
  methods := #[k0m0]
  instanceTypes := #[]
  staticTypes := #[]
  resolved := Array.replicate 124 none
  statics := none }

def pool1 : Array CpInfo := pool [(2, .class_ 4), (1, u "java/lang/Object"), (0, u "<init>"), (0, u "()V"), (0, .class_ 8), (0, u "java/lang/String"), (0, .methodref 7 10), (0, .nameAndType 5 11), (0, u "([C)V"), (0, .methodref 13 14), (0, .class_ 15), (0, .nameAndType 16 17), (0, u "com/example/epcrtools/epcrtools/exchange/RuleSetKeyEqualsPinLaw"), (0, u "mk"), (0, u "(ICC)Ljava/lang/String;"), (0, .class_ 19), (0, u "com/example/epcrtools/epcrtools/exchange/RuleSetKey"), (0, .methodref 18 21), (0, .nameAndType 5 22), (0, u "(ILjava/lang/String;)V"), (0, .methodref 18 24), (0, .nameAndType 25 26), (0, u "equals"), (0, u "(Ljava/lang/Object;)Z"), (3, u "law"), (0, u "(IIIII)Z")] 2

def k1m0 : Method := { name := "<init>", desc := "()V", sig := { parameters := [], returnType := none }, accessFlags := 1, code := none }
def k1c1 : Code := { maxStack := 6, maxLocals := 3, code := method_2_code, exceptionTable := #[], attributes := #[] }
def k1m1 : Method := { name := "mk", desc := "(ICC)Ljava/lang/String;", sig := { parameters := [.int, .char, .char], returnType := some (.object "java/lang/String") }, accessFlags := 10, code := some k1c1 }
def k1c2 : Code := { maxStack := 4, maxLocals := 21, code := code, exceptionTable := #[], attributes := #[] }
def k1m2 : Method := { name := "law", desc := "(IIIII)Z", sig := { parameters := [.int, .int, .int, .int, .int], returnType := some .boolean }, accessFlags := 9, code := some k1c2 }
/-- com/example/epcrtools/epcrtools/exchange/RuleSetKeyEqualsPinLaw -/
def k1 : Class := { plain "com/example/epcrtools/epcrtools/exchange/RuleSetKeyEqualsPinLaw" (some 0) with
  accessFlags := 49
  interfaces := #[]
  cf := some (fileOf pool1 13 #[] #[{ accessFlags := 1, nameIndex := 5, descriptorIndex := 6, attributes := #[] }, { accessFlags := 10, nameIndex := 16, descriptorIndex := 17, attributes := #[] }, { accessFlags := 9, nameIndex := 30, descriptorIndex := 31, attributes := #[] }] 49 2 #[] #[])
  fields := #[]
  methods := #[k1m0, k1m1, k1m2]
  instanceTypes := #[]
  staticTypes := #[]
  resolved := Array.replicate 34 none
  statics := none }

def pool2 : Array CpInfo := pool [(1, .class_ 2), (0, u "java/io/Serializable"), (0, .class_ 4), (0, u "java/lang/Object")] 2

/-- java/io/Serializable -/
def k2 : Class := { plain "java/io/Serializable" (some 0) with
  accessFlags := 1537
  interfaces := #[]
  cf := some (fileOf pool2 1 #[] #[] 1537 3 #[] #[])
  fields := #[]
  methods := #[]
  instanceTypes := #[]
  staticTypes := #[]
  resolved := Array.replicate 7 none
  statics := none }

def pool3 : Array CpInfo := pool [(1, .class_ 2), (0, u "java/lang/Comparable"), (0, .class_ 4), (0, u "java/lang/Object")] 7

/-- java/lang/Comparable -/
def k3 : Class := { plain "java/lang/Comparable" (some 0) with
  accessFlags := 1537
  interfaces := #[]
  cf := some (fileOf pool3 1 #[] #[] 1537 3 #[] #[])
  fields := #[]
  methods := #[]
  instanceTypes := #[]
  staticTypes := #[]
  resolved := Array.replicate 12 none
  statics := none }

def pool4 : Array CpInfo := pool [(2, .class_ 4), (1, u "java/lang/CharSequence"), (42, .class_ 48), (0, u "java/lang/CharSequence$1CodePointIterator"), (10, .class_ 60), (0, u "java/lang/CharSequence$1CharIterator"), (5, .class_ 67), (0, u "java/lang/Object")] 63

/-- java/lang/CharSequence -/
def k4 : Class := { plain "java/lang/CharSequence" (some 0) with
  accessFlags := 1537
  interfaces := #[]
  cf := some (fileOf pool4 2 #[.nestMembers #[47, 59]] #[] 1537 66 #[] #[])
  fields := #[]
  methods := #[]
  instanceTypes := #[]
  staticTypes := #[]
  resolved := Array.replicate 131 none
  statics := none }

def pool5 : Array CpInfo := pool [(1, .class_ 2), (0, u "java/lang/constant/Constable"), (0, .class_ 4), (0, u "java/lang/Object")] 6

/-- java/lang/constant/Constable -/
def k5 : Class := { plain "java/lang/constant/Constable" (some 0) with
  accessFlags := 1537
  interfaces := #[]
  cf := some (fileOf pool5 1 #[] #[] 1537 3 #[] #[])
  fields := #[]
  methods := #[]
  instanceTypes := #[]
  staticTypes := #[]
  resolved := Array.replicate 11 none
  statics := none }

def pool6 : Array CpInfo := pool [(1, .class_ 2), (0, u "java/lang/constant/ConstantDesc"), (0, .class_ 4), (0, u "java/lang/Object")] 32

/-- java/lang/constant/ConstantDesc -/
def k6 : Class := { plain "java/lang/constant/ConstantDesc" (some 0) with
  accessFlags := 1537
  interfaces := #[]
  cf := some (fileOf pool6 1 #[] #[] 1537 3 #[] #[])
  fields := #[]
  methods := #[]
  instanceTypes := #[]
  staticTypes := #[]
  resolved := Array.replicate 37 none
  statics := none }

def pool7 : Array CpInfo := pool [(1, .methodref 2 3), (0, .class_ 4), (0, .nameAndType 5 6), (0, u "java/lang/Object"), (0, u "<init>"), (0, u "()V"), (0, .string 8), (0, u ""), (0, .fieldref 10 11), (0, .class_ 12), (0, .nameAndType 13 14), (0, u "java/lang/String"), (0, u "value"), (0, u "[B"), (0, .fieldref 10 16), (0, .nameAndType 17 18), (0, u "coder"), (0, u "B"), (2, u "hash"), (0, u "I"), (2, u "hashIsZero"), (0, u "Z"), (0, .methodref 10 28), (0, .nameAndType 5 29), (0, u "([CIILjava/lang/Void;)V"), (8, .fieldref 10 39), (0, .nameAndType 40 26), (0, u "COMPACT_STRINGS"), (1, .class_ 44), (1, u "java/lang/StringUTF16"), (0, u "compress"), (1, .methodref 42 48), (0, .nameAndType 49 50), (0, u "coderFromArrayLen"), (0, u "([BI)B"), (56, .class_ 109), (1, u "java/lang/StringLatin1"), (67, .methodref 42 178), (0, .nameAndType 45 179), (0, u "([CII)[B"), (361, .methodref 107 542), (0, .nameAndType 543 544), (0, u "equals"), (0, u "([B[B)Z"), (28, u "(Ljava/lang/Object;)Z"), (1, .class_ 576), (0, u "java/lang/CharSequence"), (22, u "CASE_INSENSITIVE_ORDER"), (0, u "Ljava/util/Comparator;"), (409, u "([C)V"), (90, u "serialPersistentFields"), (0, u "[Ljava/io/ObjectStreamField;"), (0, .class_ 1104), (0, u "java/lang/String$CaseInsensitiveComparator"), (1, .class_ 1107), (0, u "java/io/Serializable"), (0, .class_ 1109), (0, u "java/lang/Comparable"), (0, .class_ 1111), (0, u "java/lang/constant/Constable"), (0, .class_ 1113), (0, u "java/lang/constant/ConstantDesc"), (2, u "serialVersionUID"), (0, u "J"), (3, u "REPL"), (0, u "C"), (2, u "LATIN1"), (1, u "UTF16")] 323

def k7m0 : Method := { name := "<init>", desc := "()V", sig := { parameters := [], returnType := none }, accessFlags := 1, code := none }
def k7c1 : Code := { maxStack := 5, maxLocals := 2, code := jdk_42_method_3_code, exceptionTable := #[], attributes := #[] }
def k7m1 : Method := { name := "<init>", desc := "([C)V", sig := { parameters := [(.array .char)], returnType := none }, accessFlags := 1, code := some k7c1 }
def k7c2 : Code := { maxStack := 2, maxLocals := 3, code := jdk_42_method_66_code, exceptionTable := #[], attributes := #[] }
def k7m2 : Method := { name := "equals", desc := "(Ljava/lang/Object;)Z", sig := { parameters := [(.object "java/lang/Object")], returnType := some .boolean }, accessFlags := 1, code := some k7c2 }
def k7c3 : Code := { maxStack := 4, maxLocals := 6, code := jdk_42_method_149_code, exceptionTable := #[], attributes := #[] }
def k7m3 : Method := { name := "<init>", desc := "([CIILjava/lang/Void;)V", sig := { parameters := [(.array .char), .int, .int, (.object "java/lang/Void")], returnType := none }, accessFlags := 2, code := some k7c3 }
/-- java/lang/String -/
def k7 : Class := { plain "java/lang/String" (some 0) with
  accessFlags := 49
  interfaces := #[2, 3, 4, 5, 6]
  cf := some (fileOf pool7 10 #[.nestMembers #[1103]] #[{ accessFlags := 1, nameIndex := 5, descriptorIndex := 6, attributes := #[] }, { accessFlags := 1, nameIndex := 5, descriptorIndex := 1010, attributes := #[] }, { accessFlags := 1, nameIndex := 543, descriptorIndex := 573, attributes := #[] }, { accessFlags := 2, nameIndex := 5, descriptorIndex := 29, attributes := #[] }] 49 2 #[1106, 1108, 575, 1110, 1112] #[{ accessFlags := 18, nameIndex := 13, descriptorIndex := 14, attributes := #[] }, { accessFlags := 18, nameIndex := 17, descriptorIndex := 18, attributes := #[] }, { accessFlags := 2, nameIndex := 21, descriptorIndex := 22, attributes := #[] }, { accessFlags := 2, nameIndex := 25, descriptorIndex := 26, attributes := #[] }, { accessFlags := 26, nameIndex := 1116, descriptorIndex := 1117, attributes := #[] }, { accessFlags := 24, nameIndex := 40, descriptorIndex := 26, attributes := #[] }, { accessFlags := 26, nameIndex := 1101, descriptorIndex := 1102, attributes := #[] }, { accessFlags := 26, nameIndex := 1121, descriptorIndex := 1122, attributes := #[] }, { accessFlags := 25, nameIndex := 599, descriptorIndex := 600, attributes := #[] }, { accessFlags := 24, nameIndex := 1125, descriptorIndex := 18, attributes := #[] }, { accessFlags := 24, nameIndex := 1127, descriptorIndex := 18, attributes := #[] }])
  fields := #[{ name := "value", type := (.array .byte), accessFlags := 18, slot := 0, constantValue := 0 }, { name := "coder", type := .byte, accessFlags := 18, slot := 1, constantValue := 0 }, { name := "hash", type := .int, accessFlags := 2, slot := 2, constantValue := 0 }, { name := "hashIsZero", type := .boolean, accessFlags := 2, slot := 3, constantValue := 0 }, { name := "serialVersionUID", type := .long, accessFlags := 26, slot := 0, constantValue := 0 }, { name := "COMPACT_STRINGS", type := .boolean, accessFlags := 24, slot := 1, constantValue := 0 }, { name := "serialPersistentFields", type := (.array (.object "java/io/ObjectStreamField")), accessFlags := 26, slot := 2, constantValue := 0 }, { name := "REPL", type := .char, accessFlags := 26, slot := 3, constantValue := 0 }, { name := "CASE_INSENSITIVE_ORDER", type := (.object "java/util/Comparator"), accessFlags := 25, slot := 4, constantValue := 0 }, { name := "LATIN1", type := .byte, accessFlags := 24, slot := 5, constantValue := 0 }, { name := "UTF16", type := .byte, accessFlags := 24, slot := 6, constantValue := 0 }]
  methods := #[k7m0, k7m1, k7m2, k7m3]
  instanceTypes := #[(.array .byte), .byte, .int, .boolean]
  staticTypes := #[.long, .boolean, (.array (.object "java/io/ObjectStreamField")), .char, (.object "java/util/Comparator"), .byte, .byte]
  resolved := Array.replicate 1451 none
  statics := some 0 }

def pool8 : Array CpInfo := pool [(6, .class_ 8), (1, u "java/lang/Object"), (0, u "<init>"), (0, u "()V"), (1, .class_ 14), (1, u "java/lang/StringUTF16"), (31, u "$assertionsDisabled"), (0, u "Z"), (13, u "HI_BYTE_SHIFT"), (0, u "I"), (2, u "LO_BYTE_SHIFT"), (49, .methodref 12 116), (0, .nameAndType 117 118), (0, u "compress"), (0, u "([CI[BII)I"), (3, u "([CII)[B"), (138, u "coderFromArrayLen"), (0, u "([BI)B"), (106, .class_ 371), (1, u "java/lang/StringUTF16$LinesSpliterator"), (58, u "MAX_LENGTH"), (196, .class_ 628), (0, u "java/lang/StringUTF16$CodePointsSpliterator"), (0, .class_ 630), (0, u "java/lang/StringUTF16$CharsSpliterator")] 4

def k8m0 : Method := { name := "<init>", desc := "()V", sig := { parameters := [], returnType := none }, accessFlags := 0, code := none }
def k8c1 : Code := { maxStack := 2, maxLocals := 2, code := jdk_52_method_15_code, exceptionTable := #[], attributes := #[] }
def k8m1 : Method := { name := "coderFromArrayLen", desc := "([BI)B", sig := { parameters := [(.array .byte), .int], returnType := some .byte }, accessFlags := 8, code := some k8c1 }
def k8c2 : Code := { maxStack := 5, maxLocals := 6, code := jdk_52_method_16_code, exceptionTable := #[], attributes := #[] }
def k8m2 : Method := { name := "compress", desc := "([CII)[B", sig := { parameters := [(.array .char), .int, .int], returnType := some (.array .byte) }, accessFlags := 9, code := some k8c2 }
def k8c3 : Code := { maxStack := 3, maxLocals := 7, code := jdk_52_method_21_code, exceptionTable := #[], attributes := #[] }
def k8m3 : Method := { name := "compress", desc := "([CI[BII)I", sig := { parameters := [(.array .char), .int, (.array .byte), .int, .int], returnType := some .int }, accessFlags := 9, code := some k8c3 }
/-- java/lang/StringUTF16 -/
def k8 : Class := { plain "java/lang/StringUTF16" (some 0) with
  accessFlags := 48
  interfaces := #[]
  cf := some (fileOf pool8 12 #[.nestMembers #[627, 629, 369]] #[{ accessFlags := 0, nameIndex := 9, descriptorIndex := 10, attributes := #[] }, { accessFlags := 8, nameIndex := 261, descriptorIndex := 262, attributes := #[] }, { accessFlags := 9, nameIndex := 117, descriptorIndex := 122, attributes := #[] }, { accessFlags := 9, nameIndex := 117, descriptorIndex := 118, attributes := #[] }] 48 6 #[] #[{ accessFlags := 26, nameIndex := 61, descriptorIndex := 62, attributes := #[] }, { accessFlags := 26, nameIndex := 65, descriptorIndex := 62, attributes := #[] }, { accessFlags := 24, nameIndex := 430, descriptorIndex := 62, attributes := #[] }, { accessFlags := 4120, nameIndex := 46, descriptorIndex := 47, attributes := #[] }])
  fields := #[{ name := "HI_BYTE_SHIFT", type := .int, accessFlags := 26, slot := 0, constantValue := 0 }, { name := "LO_BYTE_SHIFT", type := .int, accessFlags := 26, slot := 1, constantValue := 0 }, { name := "MAX_LENGTH", type := .int, accessFlags := 24, slot := 2, constantValue := 0 }, { name := "$assertionsDisabled", type := .boolean, accessFlags := 4120, slot := 3, constantValue := 0 }]
  methods := #[k8m0, k8m1, k8m2, k8m3]
  instanceTypes := #[]
  staticTypes := #[.int, .int, .int, .boolean]
  resolved := Array.replicate 635 none
  statics := none }

def pool9 : Array CpInfo := pool [(1, .methodref 2 3), (0, .class_ 4), (0, .nameAndType 5 6), (0, u "java/lang/Object"), (0, u "<init>"), (0, u "()V"), (0, .fieldref 8 9), (0, .class_ 10), (0, .nameAndType 11 12), (0, u "com/example/epcrtools/epcrtools/exchange/RuleSetKey"), (0, u "dataSchema"), (0, u "I"), (0, .methodref 14 15), (0, .class_ 16), (0, .nameAndType 17 18), (0, u "java/util/Objects"), (0, u "requireNonNull"), (0, u "(Ljava/lang/Object;)Ljava/lang/Object;"), (0, .class_ 20), (0, u "java/lang/String"), (0, .fieldref 8 22), (0, .nameAndType 23 24), (0, u "schemaVersion"), (0, u "Ljava/lang/String;"), (0, .methodref 19 26), (0, .nameAndType 27 28), (0, u "equals"), (0, u "(Ljava/lang/Object;)Z"), (14, u "(ILjava/lang/String;)V")] 24

def k9c0 : Code := { maxStack := 2, maxLocals := 3, code := prog_8_method_1_code, exceptionTable := #[], attributes := #[] }
def k9m0 : Method := { name := "<init>", desc := "(ILjava/lang/String;)V", sig := { parameters := [.int, (.object "java/lang/String")], returnType := none }, accessFlags := 1, code := some k9c0 }
def k9c1 : Code := { maxStack := 2, maxLocals := 3, code := prog_8_method_4_code, exceptionTable := #[], attributes := #[] }
def k9m1 : Method := { name := "equals", desc := "(Ljava/lang/Object;)Z", sig := { parameters := [(.object "java/lang/Object")], returnType := some .boolean }, accessFlags := 1, code := some k9c1 }
/-- com/example/epcrtools/epcrtools/exchange/RuleSetKey -/
def k9 : Class := { plain "com/example/epcrtools/epcrtools/exchange/RuleSetKey" (some 0) with
  accessFlags := 33
  interfaces := #[]
  cf := some (fileOf pool9 8 #[] #[{ accessFlags := 1, nameIndex := 5, descriptorIndex := 43, attributes := #[] }, { accessFlags := 1, nameIndex := 27, descriptorIndex := 28, attributes := #[] }] 33 2 #[] #[{ accessFlags := 18, nameIndex := 11, descriptorIndex := 12, attributes := #[] }, { accessFlags := 18, nameIndex := 23, descriptorIndex := 24, attributes := #[] }])
  fields := #[{ name := "dataSchema", type := .int, accessFlags := 18, slot := 0, constantValue := 0 }, { name := "schemaVersion", type := (.object "java/lang/String"), accessFlags := 18, slot := 1, constantValue := 0 }]
  methods := #[k9m0, k9m1]
  instanceTypes := #[.int, (.object "java/lang/String")]
  staticTypes := #[]
  resolved := Array.replicate 68 none
  statics := none }

def pool10 : Array CpInfo := pool [(2, .class_ 4), (1, u "java/lang/Object"), (0, u "<init>"), (0, u "()V"), (35, .class_ 44), (1, u "java/util/Objects"), (0, u "requireNonNull"), (0, u "(Ljava/lang/Object;)Ljava/lang/Object;")] 137

def k10m0 : Method := { name := "<init>", desc := "()V", sig := { parameters := [], returnType := none }, accessFlags := 2, code := none }
def k10c1 : Code := { maxStack := 2, maxLocals := 1, code := jdk_31_method_10_code, exceptionTable := #[], attributes := #[] }
def k10m1 : Method := { name := "requireNonNull", desc := "(Ljava/lang/Object;)Ljava/lang/Object;", sig := { parameters := [(.object "java/lang/Object")], returnType := some (.object "java/lang/Object") }, accessFlags := 9, code := some k10c1 }
/-- java/util/Objects -/
def k10 : Class := { plain "java/util/Objects" (some 0) with
  accessFlags := 49
  interfaces := #[]
  cf := some (fileOf pool10 42 #[] #[{ accessFlags := 2, nameIndex := 5, descriptorIndex := 6, attributes := #[] }, { accessFlags := 9, nameIndex := 45, descriptorIndex := 46, attributes := #[] }] 49 2 #[] #[])
  fields := #[]
  methods := #[k10m0, k10m1]
  instanceTypes := #[]
  staticTypes := #[]
  resolved := Array.replicate 184 none
  statics := none }

def pool11 : Array CpInfo := pool [(4, .class_ 6), (1, u "java/lang/Object"), (0, u "<init>"), (0, u "()V"), (5, .class_ 16), (1, u "java/lang/StringLatin1"), (104, u "$assertionsDisabled"), (0, u "Z"), (98, .class_ 223), (1, u "java/lang/StringLatin1$LinesSpliterator"), (57, u "equals"), (0, u "([B[B)Z"), (107, .class_ 391), (0, u "java/lang/StringLatin1$CharsSpliterator")] 3

def k11m0 : Method := { name := "<init>", desc := "()V", sig := { parameters := [], returnType := none }, accessFlags := 0, code := none }
def k11c1 : Code := { maxStack := 3, maxLocals := 3, code := jdk_43_method_13_code, exceptionTable := #[], attributes := #[] }
def k11m1 : Method := { name := "equals", desc := "([B[B)Z", sig := { parameters := [(.array .byte), (.array .byte)], returnType := some .boolean }, accessFlags := 9, code := some k11c1 }
/-- java/lang/StringLatin1 -/
def k11 : Class := { plain "java/lang/StringLatin1" (some 0) with
  accessFlags := 48
  interfaces := #[]
  cf := some (fileOf pool11 14 #[.nestMembers #[390, 221]] #[{ accessFlags := 0, nameIndex := 7, descriptorIndex := 8, attributes := #[] }, { accessFlags := 9, nameIndex := 281, descriptorIndex := 282, attributes := #[] }] 48 4 #[] #[{ accessFlags := 4120, nameIndex := 121, descriptorIndex := 122, attributes := #[] }])
  fields := #[{ name := "$assertionsDisabled", type := .boolean, accessFlags := 4120, slot := 0, constantValue := 0 }]
  methods := #[k11m0, k11m1]
  instanceTypes := #[]
  staticTypes := #[.boolean]
  resolved := Array.replicate 395 none
  statics := none }

def pool12 : Array CpInfo := pool [(2, .class_ 4), (1, u "java/lang/Object"), (0, u "<init>"), (0, u "()V"), (17, .class_ 26), (1, u "jdk/internal/util/Preconditions"), (28, .class_ 56), (0, u "jdk/internal/util/Preconditions$4"), (57, .class_ 115), (0, u "jdk/internal/util/Preconditions$1"), (7, u "SIOOBE_FORMATTER"), (0, u "Ljava/util/function/BiFunction;"), (0, .class_ 126), (0, u "jdk/internal/util/Preconditions$2"), (3, u "AIOOBE_FORMATTER"), (0, .class_ 132), (0, u "jdk/internal/util/Preconditions$3"), (3, u "IOOBE_FORMATTER")] 57

def k12m0 : Method := { name := "<init>", desc := "()V", sig := { parameters := [], returnType := none }, accessFlags := 1, code := none }
/-- jdk/internal/util/Preconditions -/
def k12 : Class := { plain "jdk/internal/util/Preconditions" (some 0) with
  accessFlags := 33
  interfaces := #[]
  cf := some (fileOf pool12 24 #[.nestMembers #[55, 131, 125, 114]] #[{ accessFlags := 1, nameIndex := 5, descriptorIndex := 6, attributes := #[] }] 33 2 #[] #[{ accessFlags := 25, nameIndex := 123, descriptorIndex := 124, attributes := #[] }, { accessFlags := 25, nameIndex := 130, descriptorIndex := 124, attributes := #[] }, { accessFlags := 25, nameIndex := 136, descriptorIndex := 124, attributes := #[] }])
  fields := #[{ name := "SIOOBE_FORMATTER", type := (.object "java/util/function/BiFunction"), accessFlags := 25, slot := 0, constantValue := 0 }, { name := "AIOOBE_FORMATTER", type := (.object "java/util/function/BiFunction"), accessFlags := 25, slot := 1, constantValue := 0 }, { name := "IOOBE_FORMATTER", type := (.object "java/util/function/BiFunction"), accessFlags := 25, slot := 2, constantValue := 0 }]
  methods := #[k12m0]
  instanceTypes := #[]
  staticTypes := #[(.object "java/util/function/BiFunction"), (.object "java/util/function/BiFunction"), (.object "java/util/function/BiFunction")]
  resolved := Array.replicate 194 none
  statics := some 1 }

def pool13 : Array CpInfo := pool [(9, u "<init>"), (6, .class_ 18), (1, u "java/lang/Object"), (0, u "()V"), (1, .class_ 23), (1, u "jdk/internal/util/ArraysSupport"), (0, u "LOG2_ARRAY_LONG_INDEX_SCALE"), (0, u "I"), (2, u "U"), (0, u "Ljdk/internal/misc/Unsafe;"), (8, u "BIG_ENDIAN"), (0, u "Z"), (8, u "LOG2_BYTE_BIT_SIZE"), (4, u "LOG2_ARRAY_INT_INDEX_SCALE"), (54, u "JLA"), (0, u "Ljdk/internal/access/JavaLangAccess;"), (11, u "LOG2_ARRAY_BOOLEAN_INDEX_SCALE"), (9, u "LOG2_ARRAY_BYTE_INDEX_SCALE"), (5, u "LOG2_ARRAY_CHAR_INDEX_SCALE"), (5, u "LOG2_ARRAY_SHORT_INDEX_SCALE"), (18, u "LOG2_ARRAY_FLOAT_INDEX_SCALE"), (24, u "LOG2_ARRAY_DOUBLE_INDEX_SCALE"), (89, u "T_BOOLEAN"), (2, u "T_CHAR"), (1, u "T_FLOAT"), (1, u "T_DOUBLE"), (1, u "T_BYTE"), (1, u "T_SHORT"), (1, u "T_INT"), (1, u "T_LONG"), (1, u "SOFT_MAX_ARRAY_LENGTH")] 83

def k13m0 : Method := { name := "<init>", desc := "()V", sig := { parameters := [], returnType := none }, accessFlags := 2, code := none }
/-- jdk/internal/util/ArraysSupport -/
def k13 : Class := { plain "jdk/internal/util/ArraysSupport" (some 0) with
  accessFlags := 33
  interfaces := #[]
  cf := some (fileOf pool13 21 #[] #[{ accessFlags := 2, nameIndex := 9, descriptorIndex := 19, attributes := #[] }] 33 16 #[] #[{ accessFlags := 24, nameIndex := 28, descriptorIndex := 29, attributes := #[] }, { accessFlags := 26, nameIndex := 38, descriptorIndex := 39, attributes := #[] }, { accessFlags := 25, nameIndex := 121, descriptorIndex := 25, attributes := #[] }, { accessFlags := 25, nameIndex := 131, descriptorIndex := 25, attributes := #[] }, { accessFlags := 25, nameIndex := 137, descriptorIndex := 25, attributes := #[] }, { accessFlags := 25, nameIndex := 143, descriptorIndex := 25, attributes := #[] }, { accessFlags := 25, nameIndex := 53, descriptorIndex := 25, attributes := #[] }, { accessFlags := 25, nameIndex := 24, descriptorIndex := 25, attributes := #[] }, { accessFlags := 25, nameIndex := 162, descriptorIndex := 25, attributes := #[] }, { accessFlags := 25, nameIndex := 187, descriptorIndex := 25, attributes := #[] }, { accessFlags := 26, nameIndex := 48, descriptorIndex := 25, attributes := #[] }, { accessFlags := 25, nameIndex := 277, descriptorIndex := 25, attributes := #[] }, { accessFlags := 25, nameIndex := 280, descriptorIndex := 25, attributes := #[] }, { accessFlags := 25, nameIndex := 282, descriptorIndex := 25, attributes := #[] }, { accessFlags := 25, nameIndex := 284, descriptorIndex := 25, attributes := #[] }, { accessFlags := 25, nameIndex := 286, descriptorIndex := 25, attributes := #[] }, { accessFlags := 25, nameIndex := 288, descriptorIndex := 25, attributes := #[] }, { accessFlags := 25, nameIndex := 290, descriptorIndex := 25, attributes := #[] }, { accessFlags := 25, nameIndex := 292, descriptorIndex := 25, attributes := #[] }, { accessFlags := 26, nameIndex := 108, descriptorIndex := 109, attributes := #[] }, { accessFlags := 25, nameIndex := 294, descriptorIndex := 25, attributes := #[] }])
  fields := #[{ name := "U", type := (.object "jdk/internal/misc/Unsafe"), accessFlags := 24, slot := 0, constantValue := 0 }, { name := "BIG_ENDIAN", type := .boolean, accessFlags := 26, slot := 1, constantValue := 0 }, { name := "LOG2_ARRAY_BOOLEAN_INDEX_SCALE", type := .int, accessFlags := 25, slot := 2, constantValue := 0 }, { name := "LOG2_ARRAY_BYTE_INDEX_SCALE", type := .int, accessFlags := 25, slot := 3, constantValue := 0 }, { name := "LOG2_ARRAY_CHAR_INDEX_SCALE", type := .int, accessFlags := 25, slot := 4, constantValue := 0 }, { name := "LOG2_ARRAY_SHORT_INDEX_SCALE", type := .int, accessFlags := 25, slot := 5, constantValue := 0 }, { name := "LOG2_ARRAY_INT_INDEX_SCALE", type := .int, accessFlags := 25, slot := 6, constantValue := 0 }, { name := "LOG2_ARRAY_LONG_INDEX_SCALE", type := .int, accessFlags := 25, slot := 7, constantValue := 0 }, { name := "LOG2_ARRAY_FLOAT_INDEX_SCALE", type := .int, accessFlags := 25, slot := 8, constantValue := 0 }, { name := "LOG2_ARRAY_DOUBLE_INDEX_SCALE", type := .int, accessFlags := 25, slot := 9, constantValue := 0 }, { name := "LOG2_BYTE_BIT_SIZE", type := .int, accessFlags := 26, slot := 10, constantValue := 0 }, { name := "T_BOOLEAN", type := .int, accessFlags := 25, slot := 11, constantValue := 0 }, { name := "T_CHAR", type := .int, accessFlags := 25, slot := 12, constantValue := 0 }, { name := "T_FLOAT", type := .int, accessFlags := 25, slot := 13, constantValue := 0 }, { name := "T_DOUBLE", type := .int, accessFlags := 25, slot := 14, constantValue := 0 }, { name := "T_BYTE", type := .int, accessFlags := 25, slot := 15, constantValue := 0 }, { name := "T_SHORT", type := .int, accessFlags := 25, slot := 16, constantValue := 0 }, { name := "T_INT", type := .int, accessFlags := 25, slot := 17, constantValue := 0 }, { name := "T_LONG", type := .int, accessFlags := 25, slot := 18, constantValue := 0 }, { name := "JLA", type := (.object "jdk/internal/access/JavaLangAccess"), accessFlags := 26, slot := 19, constantValue := 0 }, { name := "SOFT_MAX_ARRAY_LENGTH", type := .int, accessFlags := 25, slot := 20, constantValue := 0 }]
  methods := #[k13m0]
  instanceTypes := #[]
  staticTypes := #[(.object "jdk/internal/misc/Unsafe"), .boolean, .int, .int, .int, .int, .int, .int, .int, .int, .int, .int, .int, .int, .int, .int, .int, .int, .int, (.object "jdk/internal/access/JavaLangAccess"), .int]
  resolved := Array.replicate 378 none
  statics := none }

def pool14 : Array CpInfo := pool [(1, u "java/lang/Cloneable"), (0, .class_ 1), (0, u "java/lang/Object"), (0, .class_ 3)] 3

/-- java/lang/Cloneable -/
def k14 : Class := { plain "java/lang/Cloneable" (some 0) with
  accessFlags := 1537
  interfaces := #[]
  cf := some (fileOf pool14 2 #[] #[] 1537 4 #[] #[])
  fields := #[]
  methods := #[]
  instanceTypes := #[]
  staticTypes := #[]
  resolved := Array.replicate 8 none
  statics := none }

/-- the primitive byte -/
def k15 : Class := { plain "byte" none with kind := .primitive 'B', accessFlags := 0x411 }
/-- [B -/
def k16 : Class := { plain "[B" (some 0) with kind := .array 15 .byte, interfaces := #[14, 2], accessFlags := 1041 }

/-- the primitive char -/
def k17 : Class := { plain "char" none with kind := .primitive 'C', accessFlags := 0x411 }
/-- [C -/
def k18 : Class := { plain "[C" (some 0) with kind := .array 17 .char, interfaces := #[14, 2], accessFlags := 1041 }

/-- the primitive int -/
def k19 : Class := { plain "int" none with kind := .primitive 'I', accessFlags := 0x411 }
/-- [I -/
def k20 : Class := { plain "[I" (some 0) with kind := .array 19 .int, interfaces := #[14, 2], accessFlags := 1041 }

def heap : Heap := #[{ cls := 7, slots := #[.long 0, .int 1, .null, .int 0, .null, .int 0, .int 0], vm := .statics 7 },
  { cls := 12, slots := #[.null, .null, .null], vm := .statics 12 }]
def classes : Array Class := #[k0, k1, k2, k3, k4, k5, k6, k7, k8, k9, k10, k11, k12, k13, k14, k15, k16, k17, k18, k19, k20]
def interned : List (Array UInt16 × Addr) := []
def slotsUsed : Nat := 10
def theMethod : MethodId := ⟨1, 2⟩
def args0 : Array Value := #[.int 2, .int 1, .int 65, .int 7, .int 77]
def aboutOver (below : List Frame) : State where
  vm := { classes := classes, interned := interned.toArray }
  heap := heap
  slotsUsed := slotsUsed
  threads := #[{ frames := .invoking theMethod args0 :: below }]
def below0 : List Frame := [.native { method := ⟨0, 0⟩, args := #[] }]
def about1 : State := aboutOver below0
def p0 : Program := .bare "" "" ""
def e0 : Env := launch0.env 0 0 0
theorem w_frames : about1.frames = Frame.invoking theMethod args0 :: below0 := rfl
set_option maxRecDepth 65536 in
theorem w_args : argsFit about1.vm theMethod args0 = true := by decide +kernel
set_option maxRecDepth 65536 in
theorem w_heap : heapFits about1 = true := by decide +kernel
set_option maxRecDepth 65536 in
theorem w_runnable : about1.curStatus? = some .runnable := by decide +kernel
set_option maxRecDepth 65536 in
theorem w_alone : about1.alone = true := by decide +kernel
set_option maxRecDepth 65536 in
theorem w_named : about1.methodNamed? x = some theMethod := by decide +kernel
set_option maxRecDepth 65536 in
theorem w_hears : about1.hears theMethod below0 = true := by decide +kernel
set_option maxRecDepth 65536 in
theorem w_ripe : about1.ripe theMethod args0 below0 = true := by decide +kernel
theorem w_running : about1.status = .running := rfl
set_option maxRecDepth 65536 in
theorem w_room : about1.hasRoom e0.platform room_1 = true :=
  launch0.hasRoom_least _ room_1 (by decide +kernel) (by decide +kernel) (by decide +kernel) (by decide +kernel) (by decide +kernel) (by decide +kernel)
theorem allAtoms_all (ts : List Jvm.Cond) (a : Array Jvm.Value) (st : Jvm.State) : (allAtoms ts).before a st = ts.all (fun c => c.before a st) := by
  induction ts with
  | nil => rfl
  | cons c t ih =>
    show (Jvm.Cond.and c (allAtoms t)).before a st = _
    rw [Jvm.Cond.before_and, ih, List.all_cons]
def words1 : List Jvm.Cond := Jvm.Cond.code x code maxLocals ret :: tables_1
/-- a 'code' word, met by the world's own term for the bytes: nothing is compared byte by byte -/
theorem code_word {y : MethodName} {bytes : ByteArray} {mx : Nat} {rt : Option FieldType} {a : Array Value} {s : State} {m : MethodId} {meth : Method} {c : Code} (h1 : s.methodNamed? y = some m) (h2 : s.vm.method? m = some meth) (h3 : meth.code = some c) (h4 : c.code = bytes)
    (h5 : (c.maxLocals == mx && c.exceptionTable.isEmpty && decide (c.maxStack ≤ mostOperands) && decide (meth.sig.returnType = rt) && !meth.locks && decide (parseMethodDescriptor y.desc = some meth.sig)) = true) : (Jvm.Cond.code y bytes mx rt).before a s = true := by
  simp only [Bool.and_eq_true, beq_iff_eq, Bool.not_eq_true', decide_eq_true_eq] at h5
  obtain ⟨⟨⟨⟨⟨g1, g2⟩, g3⟩, g4⟩, g5⟩, g6⟩ := h5
  simp [Cond.before, Cond.holds, Cond.value, h1, h2, h3, h4, g1, g2, g3, g4, g5, g6]
def isCode : Jvm.Cond → Bool
  | .code _ _ _ _ => true
  | _ => false
theorem all_split {L : List Jvm.Cond} {P : Jvm.Cond → Bool} (h1 : L.all (fun c => isCode c || P c) = true) (h2 : ∀ c ∈ L.filter isCode, P c = true) : L.all P = true := by
  refine List.all_eq_true.mpr fun c hc => ?_
  have h := List.all_eq_true.mp h1 c hc
  rcases Bool.eq_false_or_eq_true (isCode c) with hi | hi
  · exact h2 c (List.mem_filter.mpr ⟨hc, hi⟩)
  · simpa [hi] using h
set_option maxRecDepth 65536 in
theorem w_c0 : (Jvm.Cond.code x code maxLocals ret).before args0 about1 = true := code_word (m := ⟨1, 2⟩) (meth := k1m2) (c := k1c2) (by decide +kernel) rfl rfl rfl (by decide +kernel)
set_option maxRecDepth 65536 in
theorem w_c1 : (Jvm.Cond.code ({ cls := "com/example/epcrtools/epcrtools/exchange/RuleSetKeyEqualsPinLaw", name := "mk", desc := "(ICC)Ljava/lang/String;" } : Jvm.MethodName) method_2_code (3 : Nat) (Option.some (Jvm.ClassFile.FieldType.object "java/lang/String"))).before args0 about1 = true := code_word (m := ⟨1, 1⟩) (meth := k1m1) (c := k1c1) (by decide +kernel) rfl rfl rfl (by decide +kernel)
set_option maxRecDepth 65536 in
theorem w_c2 : (Jvm.Cond.code ({ cls := "java/lang/String", name := "<init>", desc := "([C)V" } : Jvm.MethodName) jdk_42_method_3_code (2 : Nat) (Option.none : Option Jvm.ClassFile.FieldType)).before args0 about1 = true := code_word (m := ⟨7, 1⟩) (meth := k7m1) (c := k7c1) (by decide +kernel) rfl rfl rfl (by decide +kernel)
set_option maxRecDepth 65536 in
theorem w_c3 : (Jvm.Cond.code ({ cls := "java/lang/String", name := "<init>", desc := "([CIILjava/lang/Void;)V" } : Jvm.MethodName) jdk_42_method_149_code (6 : Nat) (Option.none : Option Jvm.ClassFile.FieldType)).before args0 about1 = true := code_word (m := ⟨7, 3⟩) (meth := k7m3) (c := k7c3) (by decide +kernel) rfl rfl rfl (by decide +kernel)
set_option maxRecDepth 65536 in
theorem w_c4 : (Jvm.Cond.code ({ cls := "java/lang/Object", name := "<init>", desc := "()V" } : Jvm.MethodName) object_method_1_code (1 : Nat) (Option.none : Option Jvm.ClassFile.FieldType)).before args0 about1 = true := code_word (m := ⟨0, 0⟩) (meth := k0m0) (c := k0c0) (by decide +kernel) rfl rfl rfl (by decide +kernel)
set_option maxRecDepth 65536 in
theorem w_c5 : (Jvm.Cond.code ({ cls := "java/lang/StringUTF16", name := "compress", desc := "([CII)[B" } : Jvm.MethodName) jdk_52_method_16_code (6 : Nat) (Option.some (Jvm.ClassFile.FieldType.array Jvm.ClassFile.FieldType.byte))).before args0 about1 = true := code_word (m := ⟨8, 2⟩) (meth := k8m2) (c := k8c2) (by decide +kernel) rfl rfl rfl (by decide +kernel)
set_option maxRecDepth 65536 in
theorem w_c6 : (Jvm.Cond.code ({ cls := "java/lang/StringUTF16", name := "compress", desc := "([CI[BII)I" } : Jvm.MethodName) jdk_52_method_21_code (7 : Nat) (Option.some Jvm.ClassFile.FieldType.int)).before args0 about1 = true := code_word (m := ⟨8, 3⟩) (meth := k8m3) (c := k8c3) (by decide +kernel) rfl rfl rfl (by decide +kernel)
set_option maxRecDepth 65536 in
theorem w_c7 : (Jvm.Cond.code ({ cls := "java/lang/StringUTF16", name := "coderFromArrayLen", desc := "([BI)B" } : Jvm.MethodName) jdk_52_method_15_code (2 : Nat) (Option.some Jvm.ClassFile.FieldType.byte)).before args0 about1 = true := code_word (m := ⟨8, 1⟩) (meth := k8m1) (c := k8c1) (by decide +kernel) rfl rfl rfl (by decide +kernel)
set_option maxRecDepth 65536 in
theorem w_c8 : (Jvm.Cond.code ({ cls := "com/example/epcrtools/epcrtools/exchange/RuleSetKey", name := "<init>", desc := "(ILjava/lang/String;)V" } : Jvm.MethodName) prog_8_method_1_code (3 : Nat) (Option.none : Option Jvm.ClassFile.FieldType)).before args0 about1 = true := code_word (m := ⟨9, 0⟩) (meth := k9m0) (c := k9c0) (by decide +kernel) rfl rfl rfl (by decide +kernel)
set_option maxRecDepth 65536 in
theorem w_c9 : (Jvm.Cond.code ({ cls := "java/util/Objects", name := "requireNonNull", desc := "(Ljava/lang/Object;)Ljava/lang/Object;" } : Jvm.MethodName) jdk_31_method_10_code (1 : Nat) (Option.some (Jvm.ClassFile.FieldType.object "java/lang/Object"))).before args0 about1 = true := code_word (m := ⟨10, 1⟩) (meth := k10m1) (c := k10c1) (by decide +kernel) rfl rfl rfl (by decide +kernel)
set_option maxRecDepth 65536 in
theorem w_c10 : (Jvm.Cond.code ({ cls := "com/example/epcrtools/epcrtools/exchange/RuleSetKey", name := "equals", desc := "(Ljava/lang/Object;)Z" } : Jvm.MethodName) prog_8_method_4_code (3 : Nat) (Option.some Jvm.ClassFile.FieldType.boolean)).before args0 about1 = true := code_word (m := ⟨9, 1⟩) (meth := k9m1) (c := k9c1) (by decide +kernel) rfl rfl rfl (by decide +kernel)
set_option maxRecDepth 65536 in
theorem w_c11 : (Jvm.Cond.code ({ cls := "java/lang/String", name := "equals", desc := "(Ljava/lang/Object;)Z" } : Jvm.MethodName) jdk_42_method_66_code (3 : Nat) (Option.some Jvm.ClassFile.FieldType.boolean)).before args0 about1 = true := code_word (m := ⟨7, 2⟩) (meth := k7m2) (c := k7c2) (by decide +kernel) rfl rfl rfl (by decide +kernel)
set_option maxRecDepth 65536 in
theorem w_c12 : (Jvm.Cond.code ({ cls := "java/lang/StringLatin1", name := "equals", desc := "([B[B)Z" } : Jvm.MethodName) jdk_43_method_13_code (3 : Nat) (Option.some Jvm.ClassFile.FieldType.boolean)).before args0 about1 = true := code_word (m := ⟨11, 1⟩) (meth := k11m1) (c := k11c1) (by decide +kernel) rfl rfl rfl (by decide +kernel)
def codes1 : List Jvm.Cond := [Jvm.Cond.code x code maxLocals ret, Jvm.Cond.code ({ cls := "com/example/epcrtools/epcrtools/exchange/RuleSetKeyEqualsPinLaw", name := "mk", desc := "(ICC)Ljava/lang/String;" } : Jvm.MethodName) method_2_code (3 : Nat) (Option.some (Jvm.ClassFile.FieldType.object "java/lang/String")), Jvm.Cond.code ({ cls := "java/lang/String", name := "<init>", desc := "([C)V" } : Jvm.MethodName) jdk_42_method_3_code (2 : Nat) (Option.none : Option Jvm.ClassFile.FieldType), Jvm.Cond.code ({ cls := "java/lang/String", name := "<init>", desc := "([CIILjava/lang/Void;)V" } : Jvm.MethodName) jdk_42_method_149_code (6 : Nat) (Option.none : Option Jvm.ClassFile.FieldType), Jvm.Cond.code ({ cls := "java/lang/Object", name := "<init>", desc := "()V" } : Jvm.MethodName) object_method_1_code (1 : Nat) (Option.none : Option Jvm.ClassFile.FieldType), Jvm.Cond.code ({ cls := "java/lang/StringUTF16", name := "compress", desc := "([CII)[B" } : Jvm.MethodName) jdk_52_method_16_code (6 : Nat) (Option.some (Jvm.ClassFile.FieldType.array Jvm.ClassFile.FieldType.byte)), Jvm.Cond.code ({ cls := "java/lang/StringUTF16", name := "compress", desc := "([CI[BII)I" } : Jvm.MethodName) jdk_52_method_21_code (7 : Nat) (Option.some Jvm.ClassFile.FieldType.int), Jvm.Cond.code ({ cls := "java/lang/StringUTF16", name := "coderFromArrayLen", desc := "([BI)B" } : Jvm.MethodName) jdk_52_method_15_code (2 : Nat) (Option.some Jvm.ClassFile.FieldType.byte), Jvm.Cond.code ({ cls := "com/example/epcrtools/epcrtools/exchange/RuleSetKey", name := "<init>", desc := "(ILjava/lang/String;)V" } : Jvm.MethodName) prog_8_method_1_code (3 : Nat) (Option.none : Option Jvm.ClassFile.FieldType), Jvm.Cond.code ({ cls := "java/util/Objects", name := "requireNonNull", desc := "(Ljava/lang/Object;)Ljava/lang/Object;" } : Jvm.MethodName) jdk_31_method_10_code (1 : Nat) (Option.some (Jvm.ClassFile.FieldType.object "java/lang/Object")), Jvm.Cond.code ({ cls := "com/example/epcrtools/epcrtools/exchange/RuleSetKey", name := "equals", desc := "(Ljava/lang/Object;)Z" } : Jvm.MethodName) prog_8_method_4_code (3 : Nat) (Option.some Jvm.ClassFile.FieldType.boolean), Jvm.Cond.code ({ cls := "java/lang/String", name := "equals", desc := "(Ljava/lang/Object;)Z" } : Jvm.MethodName) jdk_42_method_66_code (3 : Nat) (Option.some Jvm.ClassFile.FieldType.boolean), Jvm.Cond.code ({ cls := "java/lang/StringLatin1", name := "equals", desc := "([B[B)Z" } : Jvm.MethodName) jdk_43_method_13_code (3 : Nat) (Option.some Jvm.ClassFile.FieldType.boolean)]
set_option maxRecDepth 65536 in
theorem codes_eq : words1.filter isCode = codes1 := rfl
theorem w_codes : ∀ c ∈ words1.filter isCode, c.before args0 about1 = true := by
  rw [codes_eq]
  intro c hc
  simp only [codes1, List.mem_cons, List.not_mem_nil, or_false] at hc
  rcases hc with rfl | rfl | rfl | rfl | rfl | rfl | rfl | rfl | rfl | rfl | rfl | rfl | rfl
  · exact w_c0
  · exact w_c1
  · exact w_c2
  · exact w_c3
  · exact w_c4
  · exact w_c5
  · exact w_c6
  · exact w_c7
  · exact w_c8
  · exact w_c9
  · exact w_c10
  · exact w_c11
  · exact w_c12
set_option maxRecDepth 65536 in
theorem w_t1 : (words1.take 24).all (fun c => isCode c || c.before args0 about1) = true := by decide +kernel
set_option maxRecDepth 65536 in
theorem w_t2 : ((words1.drop 24).take 24).all (fun c => isCode c || c.before args0 about1) = true := by decide +kernel
set_option maxRecDepth 65536 in
theorem w_t3 : (((words1.drop 24).drop 24).take 24).all (fun c => isCode c || c.before args0 about1) = true := by decide +kernel
set_option maxRecDepth 65536 in
theorem w_t4 : (((words1.drop 24).drop 24).drop 24).all (fun c => isCode c || c.before args0 about1) = true := by decide +kernel
theorem w_tables : (allAtoms (Jvm.Cond.code x code maxLocals ret :: tables_1)).before args0 about1 = true := by
  rw [allAtoms_all]
  show words1.all (fun c => c.before args0 about1) = true
  refine all_split ?_ w_codes
  rw [← List.take_append_drop 24 words1, List.all_append, w_t1, ← List.take_append_drop 24 (words1.drop 24), List.all_append, w_t2, ← List.take_append_drop 24 ((words1.drop 24).drop 24), List.all_append, w_t3, w_t4]
  rfl
set_option maxRecDepth 65536 in
theorem w_rest : rest_1_c.before args0 about1 = true := by decide +kernel
set_option maxRecDepth 65536 in
theorem w_case : (Jvm.Cond.and given_1 narrow_1).before args0 about1 = true := by decide +kernel
set_option maxRecDepth 65536 in
theorem w_consts : constsHeld consts_1 about1 := Jvm.Lit.constsHeldB_iff.mp (by decide +kernel)
theorem w_applies : (headSpec (Jvm.Cond.code x code maxLocals ret :: tables_1) room_1).applies x e0.platform about1 = true :=
  (Spec.applies_iff w_frames).mpr ⟨w_running, w_runnable, w_alone, w_named, w_hears, w_ripe, w_room, w_tables⟩
theorem atStart : AtStart classFile x code maxLocals ret World_1 tables_1 room_1 Calls_1 rest_1 Pre_1 launch0 p0 e0 about1 theMethod args0 below0 :=
  ⟨lists_1, trivial, launch0.admits_env _ _ _, launch0.least_env, fairChoices_fair.cas, fairChoices_fair.clock, w_frames, w_args, w_heap, w_applies, ⟨w_consts, trivial⟩, w_rest, w_case⟩
end start1
theorem witness_1 : WitnessClaimed_1 := ⟨start1.p0, start1.e0, start1.about1, start1.theMethod, start1.args0, start1.below0, start1.atStart⟩
end Jvm.Pilot.@@N@@
