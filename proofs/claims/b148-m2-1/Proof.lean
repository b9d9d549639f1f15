import JvmDerived
import JvmDerived.Pilot.@@N@@Statement
import JvmDerived.Pilot.@@N@@Code
set_option linter.unusedVariables false
set_option linter.unusedSimpArgs false
namespace Jvm.RoadKit
open Sem ClassFile Op Lib Jvm.Stand Jvm.Free Jvm.LawKit
section New
variable {p : Program} {l : Launch} {e : Env} {R : Room} {s : State} {m : MethodId} {args : Array Value} {below : List Frame} {meth : Method} {c : Code} {T : State} {locs : List Loc} {cells slots : Nat}
theorem retI (X : Stand p l e R s m args below meth c T locs cells slots) (hx : p.tables.exec = Jvm.exec) {pc : Nat} {Ls : Array Slot} {z : Int32} {rest : List Value} (hret : meth.sig.returnType = some .int) (hd : decode c.code pc = .ok (.ireturn, 1)) {fs : List Frame}
    (hl : ∀ (f : JFrame) (acts : List Action), f.method = m → f.locked = none → f.entered = [] → (doReturn e (T.setTop f) acts (some (.int z))).1 = T.setFrames fs) : Steps p.tables e below (T.setTop (mkF m pc Ls (.int z :: rest))) (T.setFrames fs) := by
  have hm' : T.vm.method? m = some meth := X.method'
  have hn : narrow .int (.int z) = .int z := rfl
  show Steps p.tables e below (T.setTop { method := m, pc := pc, locals := Ls, stack := _ :: rest, locked := none }) _
  jvm_step X.here [X.here.top, hx, hd, hm', hret, hn]
  first | (intro acts; rw [hl _ acts rfl rfl rfl]) | rw [hl _ _ rfl rfl rfl]
  exact Steps.refl _
end New
end Jvm.RoadKit
namespace Jvm.Pilot.@@N@@
open Jvm Jvm.ClassFile Sem Op Lib Jvm.Free Jvm.Stand Jvm.LawKit Jvm.RoadKit Bundle Jvm.Pilot.@@N@@.Jvm.D
abbrev Sp (p : Program) (e : Env) (below : List Frame) (T : State) (f : JFrame) (t : State) : Prop := Steps p.tables e below (T.setTop f) t
theorem own_sz {Z : State} {n0 : Nat} {h : Heap} (O : Old Z n0 h) : n0 ≤ h.size := O.1 ▸ O.2.1
theorem own_nei {x c : Int32} {n : Int} (h : ¬ x = c) (e : c.toInt = n) : x.toInt ≠ n := fun q => h (Int32.toInt_inj.mp (q.trans e.symm))
theorem own_eq {x c : Int32} {n : Int} (e : c.toInt = n) (h : x.toInt = n) : x = c := Int32.toInt_inj.mp (h.trans e.symm)
theorem own_eqi {x c : Int32} {n : Int} (h : x = c) (e : c.toInt = n) : x.toInt = n := by rw [h]; exact e
theorem own_fldi {args : Array Value} {s : State} {t : Term} {a : Addr} {C n d : String} {c : Int32} (ev : t.eval args s none [] s = some (.ref a)) (h : (Cond.eq (.field t C n d) (.int c)).value args s none s [] = some true) : Fld s s.heap a C n d (.int c) := by
  apply Fld.start
  cases hf : s.fieldOf? a C n d with
  | none => simp [Cond.value, Term.eval, ev, hf] at h
  | some x => cases x <;> simp [Cond.value, Term.eval, ev, hf] at h ⊢; exact h
theorem own_fldr {args : Array Value} {s : State} {t u : Term} {a b : Addr} {C n d : String} (ev : t.eval args s none [] s = some (.ref a)) (eu : u.eval args s none [] s = some (.ref b)) (h : (Cond.eq (.field t C n d) u).value args s none s [] = some true) : Fld s s.heap a C n d (.ref b) := by
  apply Fld.start
  cases hf : s.fieldOf? a C n d with
  | none => simp [Cond.value, Term.eval, ev, eu, hf] at h
  | some x => cases x <;> simp [Cond.value, Term.eval, ev, eu, hf] at h ⊢; exact h
theorem own_rem {x m : Int32} {M d : Int} (hm : m.toInt = M) (h0 : 0 ≤ M) {y : Int32} (hy : y.toInt = d) (hd : 0 < d) : 0 ≤ ((x &&& m) % y).toInt ∧ ((x &&& m) % y).toInt < d := by
  have a := c_and x m (by rw [hm]; exact h0)
  have b := (c_irem (x &&& m) y d hy).1 a.1
  rw [b]; exact ⟨Int.emod_nonneg _ (by omega), Int.emod_lt_of_pos _ hd⟩
theorem own_ch0 (x : Int32) : ¬ (255 : Int32) < (x &&& (255 : Int32)) := by
  rw [Int32.lt_iff_toInt_lt]
  have a := c_and x (255 : Int32) (by decide)
  have b : (255 : Int32).toInt = 255 := rfl
  omega
theorem own_ch1 (x : Int32) : ¬ (255 : Int32) < ((x &&& (255 : Int32)).toUInt32.toUInt16.toUInt32.toInt32) := by rw [i2c_mask]; exact own_ch0 x
theorem own_ch2 (x : Int32) : ¬ (255 : Int32) < (nar .char ((x &&& (255 : Int32)).toUInt32.toUInt16.toUInt32.toInt32)) := by
  show ¬ (255 : Int32) < (((x &&& (255 : Int32)).toUInt32.toUInt16.toUInt32.toInt32).toUInt32.toUInt16.toUInt32.toInt32)
  rw [i2c_mask, i2c_mask]; exact own_ch0 x
theorem own_ch3 (x : Int32) : ¬ (255 : Int32) < (nar .char (x &&& (255 : Int32))) := own_ch1 x
theorem own_box {i : Int32} (h1 : ¬ i < (-128 : Int32)) (h2 : ¬ (127 : Int32) < i) : ¬ (i + (128 : Int32)) < 0 ∧ (i + (128 : Int32)) < (256 : Int32) := by
  rw [Int32.lt_iff_toInt_lt] at h1 h2
  rw [Int32.lt_iff_toInt_lt, Int32.lt_iff_toInt_lt]
  have a : (-128 : Int32).toInt = -128 := rfl
  have b : (127 : Int32).toInt = 127 := rfl
  have c : (128 : Int32).toInt = 128 := rfl
  have d : (256 : Int32).toInt = 256 := rfl
  have z : (0 : Int32).toInt = 0 := rfl
  have e := c_iadd i (128 : Int32)
  have r1 := rng32 i
  have r2 := rng32 (i + (128 : Int32))
  omega
theorem own_boxv (i : Int32) : i + (128 : Int32) - (128 : Int32) = i := by
  apply Int32.toInt_inj.mp
  have e := c_iadd i (128 : Int32)
  have f := c_isub (i + (128 : Int32)) (128 : Int32)
  have r1 := rng32 i
  have r2 := rng32 (i + (128 : Int32) - (128 : Int32))
  omega
theorem own_valo {args : Array Value} {s : State} {t : Term} {a : Addr} {c : Cell} {ty : FieldType} {n : Int32} (et : t.eval args s none [] s = some (.ref a)) (A : Arr s s.heap a c ty) (h : (Jvm.Cond.eq (.length t) (.int n)).before args s = true) : c.slots.size < 2 ^ 31 ∧ c.slots.size.toInt32 = n := Jvm.Free.IntBox.length_fwd h et A.1 A.2.1 A.2.2
theorem own_lbox {i : Int64} (h1 : ¬ lcmpW i (-128 : Int64) < (0 : Int32)) (h2 : ¬ (0 : Int32) < lcmpW i (127 : Int64)) : ¬ (i.toInt32 + (128 : Int32)) < 0 ∧ (i.toInt32 + (128 : Int32)) < (256 : Int32) := by
  have a1 : ¬ i < (-128 : Int64) := fun q => h1 ((lw_lt _ _).mpr q)
  have a2 : ¬ (127 : Int64) < i := fun q => h2 ((lw_gt _ _).mpr q)
  rw [Int64.lt_iff_toInt_lt] at a1 a2
  have b1 : (-128 : Int64).toInt = -128 := rfl
  have b2 : (127 : Int64).toInt = 127 := rfl
  have e := c_l2i i
  have r := rng32 i.toInt32
  have q : i.toInt32.toInt = i.toInt := by omega
  have c : (128 : Int32).toInt = 128 := rfl
  have d : (256 : Int32).toInt = 256 := rfl
  have z : (0 : Int32).toInt = 0 := rfl
  have f := c_iadd i.toInt32 (128 : Int32)
  have r2 := rng32 (i.toInt32 + (128 : Int32))
  rw [Int32.lt_iff_toInt_lt, Int32.lt_iff_toInt_lt]
  omega
theorem own_mx1 {p : Int32} (h : p < (2147483647 : Int32)) : ¬ (p = (2147483647 : Int32)) := fun q => by rw [q] at h; exact absurd h (by decide)
theorem own_mx2 {p : Int32} (h : ¬ (p < (2147483647 : Int32))) : p = (2147483647 : Int32) := by
  apply Int32.toInt_inj.mp
  rw [Int32.lt_iff_toInt_lt] at h
  have a : (2147483647 : Int32).toInt = 2147483647 := rfl
  have b := rng32 p
  omega
theorem own_wS {Z : State} {a0 : Array Value} (hw : ∀ d ∈ tables_1, d.before a0 Z = true) : ∀ a ∈ Bundle.stringAtoms, a.before a0 Z = true := by
  intro d hd
  simp only [Bundle.stringAtoms, List.mem_cons, List.not_mem_nil, or_false] at hd
  rcases hd with rfl | rfl | rfl | rfl | rfl | rfl | rfl
  · exact (hw _ (List.mem_of_getElem? (i := 6) rfl))
  · exact (hw _ (List.mem_of_getElem? (i := 5) rfl))
  · exact (hw _ (List.mem_of_getElem? (i := 22) rfl))
  · exact (hw _ (List.mem_of_getElem? (i := 32) rfl))
  · exact (hw _ (List.mem_of_getElem? (i := 30) rfl))
  · exact (hw _ (List.mem_of_getElem? (i := 43) rfl))
  · exact (hw _ (List.mem_of_getElem? (i := 44) rfl))
def own_EL : List (String × Nat) := []
theorem own_EW {Z : State} {a0 : Array Value} (hw : ∀ d ∈ tables_1, d.before a0 Z = true) : EW Z a0 own_EL := EW.nil
theorem own_safe0 {Z : State} {vm : Vm} {h : Heap} {x : Addr} : Safe Z own_EL vm h x := fun ⟨_, hp, _⟩ => nomatch hp
theorem own_backC {p : Program} {l : Launch} {e : Env} {R : Room} {s : State} {args : Array Value} {below : List Frame} {Z : State} {a0 : Array Value} {h : Heap} {vm0 : Vm} {EL : List (String × Nat)} {y : MethodName} {bytes : ByteArray} {maxL : Nat} {ret : Option FieldType} {rm : Room} {len W : Nat} {as' : Array Value} {Q : Option Value → Heap → List Loc → Prop} {SL : List Addr}
    (hM : MetFree l y (head1 [Jvm.Cond.code y bytes maxL ret] rm) (fun a U => a = as' ∧ Z.Warmed39 U.vm ∧ U.heap = h ∧ CHv Z EL U.vm h ∧ ∀ x ∈ SL, Safe Z EL U.vm h x) (fun _ _ _ _ _ => True) (fun _ U o U' => ∃ v L, o = .returned v ∧ Q v U'.heap L ∧ CHr Z EL U.vm U.heap U'.vm U'.heap ∧ ReturnedEndW U o U' L rm.cells rm.slots))
    (hZ : Z.Warmed39 (s.setVm vm0).vm) (wc : (Jvm.Cond.code y bytes maxL ret).before a0 Z = true) (wz : (Jvm.Cond.initialized y.cls).before a0 Z = true) (hf : rm.frames + 1 ≤ R.frames) (hl : W + (maxL + 11) + rm.locals ≤ R.locals) (hEL : EW Z a0 EL) (H : CHv Z EL vm0 h) (hs : ∀ x ∈ SL, x < h.size ∧ Safe Z EL vm0 h x) :
    BackS l R p e below (s.setVm vm0) args y len W (fun A a => a = as' ∧ A.U.heap = h ∧ A.cells + rm.cells ≤ R.cells ∧ A.slots + rm.slots ≤ R.slots)
      (fun A _ v B => ∃ L, Q v B.U.heap L ∧ B.locs = A.locs ++ L ∧ B.cells = A.cells + rm.cells ∧ B.slots = A.slots + rm.slots ∧ CHr Z EL vm0 h B.U.vm B.U.heap) :=
  BackS.of_freeW (bytes := bytes) (maxL := maxL) (ret := ret) (E := fun _ first o t L k n => k = rm.cells ∧ n = rm.slots ∧ (∃ v, o = .returned v ∧ Q v t.heap L) ∧ CHr Z EL first.vm first.heap t.vm t.heap) hM hf hl
    (fun m meth c A a Y hp => have hU : Z.Warmed39 A.U.vm := wtrans (s := s.setVm vm0) hZ Y.warmed
      ⟨by show (Jvm.Cond.and _ .tt).before a A.U = true; rw [Cond.before_and, mv hU wc]; rfl, mv hU wc, mv hU wz, hp.2.2.1, hp.2.2.2⟩)
    (fun m meth c A a g mk Y hp => ⟨hp.1, wtrans (s := s.setVm vm0) hZ Y.warmed, hp.2.1, (CHv.at Y hZ hEL H).1, fun x hx => (CHv.at Y hZ hEL H).safe (hs x hx).1 (hs x hx).2⟩) (fun _ _ _ _ _ _ _ _ _ => trivial)
    (fun _ _ _ _ ⟨v, L, h1, h2, h3, h4⟩ => ⟨L, _, _, h4, rfl, rfl, ⟨v, h1, h2⟩, h3⟩)
    (fun m meth c A a g mk v t L k n Y hp _ _ ⟨e1, e2, ⟨v', e3, e4⟩, e5⟩ => by
      cases e3; subst e1 e2
      refine ⟨L, e4, rfl, rfl, rfl, (CHv.at Y hZ hEL H).trans ?_⟩
      rw [← hp.2.1]; exact e5)
def Perm (Z : State) (w_lcache : Addr) (cs_v : Int32) (cl_lcache : Cell) : Prop := Sta Z Z.heap "java/lang/String" "COMPACT_STRINGS" "Z" (.int cs_v) ∧ ¬ (cs_v = (0 : Int32)) ∧ Sta Z Z.heap "java/lang/Long$LongCache" "cache" "[Ljava/lang/Long;" (.ref w_lcache) ∧ Bxs Z w_lcache cl_lcache "java/lang/Long" "J" (256 : Int32) (fun j => .long (j - (128 : Int32)).toInt64)
theorem d1_0 : decode jdk_42_method_3_code 0 = .ok (.aload_n 0, 1) := by decide +kernel
theorem d1_1 : decode jdk_42_method_3_code 1 = .ok (.aload_n 1, 1) := by decide +kernel
theorem d1_2 : decode jdk_42_method_3_code 2 = .ok (.iconst 0, 1) := by decide +kernel
theorem d1_3 : decode jdk_42_method_3_code 3 = .ok (.aload_n 1, 1) := by decide +kernel
theorem d1_4 : decode jdk_42_method_3_code 4 = .ok (.arraylength, 1) := by decide +kernel
theorem d1_5 : decode jdk_42_method_3_code 5 = .ok (.aconst_null, 1) := by decide +kernel
theorem d1_6 : decode jdk_42_method_3_code 6 = .ok (.invokespecial 27, 3) := by decide +kernel
theorem d2_0 : decode jdk_42_method_149_code 0 = .ok (.aload_n 0, 1) := by decide +kernel
theorem d2_1 : decode jdk_42_method_149_code 1 = .ok (.invokespecial 1, 3) := by decide +kernel
theorem d2_4 : decode jdk_42_method_149_code 4 = .ok (.iload_n 3, 1) := by decide +kernel
theorem d2_5 : decode jdk_42_method_149_code 5 = .ok (.ifCond .ne 22, 3) := by decide +kernel
theorem d2_27 : decode jdk_42_method_149_code 27 = .ok (.getstatic 38, 3) := by decide +kernel
theorem d2_30 : decode jdk_42_method_149_code 30 = .ok (.ifCond .eq 28, 3) := by decide +kernel
theorem d2_33 : decode jdk_42_method_149_code 33 = .ok (.aload_n 1, 1) := by decide +kernel
theorem d2_34 : decode jdk_42_method_149_code 34 = .ok (.iload_n 2, 1) := by decide +kernel
theorem d2_35 : decode jdk_42_method_149_code 35 = .ok (.iload_n 3, 1) := by decide +kernel
theorem d2_36 : decode jdk_42_method_149_code 36 = .ok (.invokestatic 177, 3) := by decide +kernel
theorem d4_0 : decode jdk_52_method_16_code 0 = .ok (.iload_n 2, 1) := by decide +kernel
theorem d4_1 : decode jdk_52_method_16_code 1 = .ok (.newarray .byte, 2) := by decide +kernel
theorem d4_3 : decode jdk_52_method_16_code 3 = .ok (.astore_n 3, 1) := by decide +kernel
theorem d4_4 : decode jdk_52_method_16_code 4 = .ok (.aload_n 0, 1) := by decide +kernel
theorem d4_5 : decode jdk_52_method_16_code 5 = .ok (.iload_n 1, 1) := by decide +kernel
theorem d4_6 : decode jdk_52_method_16_code 6 = .ok (.aload_n 3, 1) := by decide +kernel
theorem d4_7 : decode jdk_52_method_16_code 7 = .ok (.iconst 0, 1) := by decide +kernel
theorem d4_8 : decode jdk_52_method_16_code 8 = .ok (.iload_n 2, 1) := by decide +kernel
theorem d4_9 : decode jdk_52_method_16_code 9 = .ok (.invokestatic 115, 3) := by decide +kernel
theorem d5_0 : decode jdk_52_method_21_code 0 = .ok (.iconst 0, 1) := by decide +kernel
theorem d5_1 : decode jdk_52_method_21_code 1 = .ok (.istore 5, 2) := by decide +kernel
theorem d5_3 : decode jdk_52_method_21_code 3 = .ok (.iload 5, 2) := by decide +kernel
theorem d5_5 : decode jdk_52_method_21_code 5 = .ok (.iload 4, 2) := by decide +kernel
theorem d5_7 : decode jdk_52_method_21_code 7 = .ok (.if_icmp .ge 37, 3) := by decide +kernel
theorem d5_10 : decode jdk_52_method_21_code 10 = .ok (.aload_n 0, 1) := by decide +kernel
theorem d5_11 : decode jdk_52_method_21_code 11 = .ok (.iload_n 1, 1) := by decide +kernel
theorem d5_12 : decode jdk_52_method_21_code 12 = .ok (.caload, 1) := by decide +kernel
theorem d5_13 : decode jdk_52_method_21_code 13 = .ok (.istore 6, 2) := by decide +kernel
theorem d5_15 : decode jdk_52_method_21_code 15 = .ok (.iload 6, 2) := by decide +kernel
theorem d5_17 : decode jdk_52_method_21_code 17 = .ok (.sipush 255, 3) := by decide +kernel
theorem d5_20 : decode jdk_52_method_21_code 20 = .ok (.if_icmp .le 6, 3) := by decide +kernel
theorem d5_26 : decode jdk_52_method_21_code 26 = .ok (.aload_n 2, 1) := by decide +kernel
theorem d5_27 : decode jdk_52_method_21_code 27 = .ok (.iload_n 3, 1) := by decide +kernel
theorem d5_28 : decode jdk_52_method_21_code 28 = .ok (.iload 6, 2) := by decide +kernel
theorem d5_30 : decode jdk_52_method_21_code 30 = .ok (.i2b, 1) := by decide +kernel
theorem d5_31 : decode jdk_52_method_21_code 31 = .ok (.bastore, 1) := by decide +kernel
theorem d5_32 : decode jdk_52_method_21_code 32 = .ok (.iinc 1 1, 3) := by decide +kernel
theorem d5_35 : decode jdk_52_method_21_code 35 = .ok (.iinc 3 1, 3) := by decide +kernel
theorem d5_38 : decode jdk_52_method_21_code 38 = .ok (.iinc 5 1, 3) := by decide +kernel
theorem d5_41 : decode jdk_52_method_21_code 41 = .ok (.goto (-38), 3) := by decide +kernel
theorem d5_44 : decode jdk_52_method_21_code 44 = .ok (.iload 4, 2) := by decide +kernel
theorem d5_46 : decode jdk_52_method_21_code 46 = .ok (.ireturn, 1) := by decide +kernel
abbrev y0 : MethodName := (⟨"java/lang/StringUTF16", "compress", "([CI[BII)I"⟩ : MethodName)
theorem ef_5_0 (m : MethodId) (x0 : Addr) (x1 : Int32) (x2 : Addr) (x3 : Int32) (x4 : Int32) : entryFrame m #[(.ref x0), (.int x1), (.ref x2), (.int x3), (.int x4)] 7 = mkF m 0 #[.val (.ref x0), .val (.int x1), .val (.ref x2), .val (.int x3), .val (.int x4), .unset, .unset] [] := by first | (simp [entryFrame, mkF, argsToLocals, Value.category]; done) | rfl
theorem pn_5 : plainName "java/lang/StringUTF16" = true := by first | (simp [plainName, overriddenIn]; done) | decide +kernel
def Q1 (Z : State) (w_lcache : Addr) (cs_v : Int32) (cl_lcache : Cell) (a1 : Addr) (a2 : Addr) (k_a1 : ClassId) (p4 : Int32) (k_a2 : ClassId) (h0 : Heap) (n0 : Nat) (v : Option Value) (h : Heap) (L : List Loc) : Prop := v = some (.int (1 : Int32)) ∧ Fr n0 L ∧ Keep h0 h [a2] ∧ Exa Z h a2 "[B" ∧ Arv Z h a2 k_a2 .byte (1 : Int32) [(.int (nar .byte (p4.toInt8.toInt32)))] (.int (0 : Int32))
set_option maxRecDepth 65536 in
set_option maxHeartbeats 40000000 in
theorem rm1 (l : Launch) (Z : State) (a0 : Array Value) (hw : ∀ d ∈ tables_1, d.before a0 Z = true) (ws : List Jvm.Cond) (w_lcache : Addr) (cs_v : Int32) (cl_lcache : Cell) (hp : Perm Z w_lcache cs_v cl_lcache) (a1 : Addr) (a2 : Addr) (k_a1 : ClassId) (p4 : Int32) (k_a2 : ClassId) (h0 : Heap) (n0 : Nat) (O0 : Old Z n0 h0) (V_a1 : Arv Z h0 a1 k_a1 .char (1 : Int32) [(.int p4)] (.int (0 : Int32))) (hc2 : ¬ ((255 : Int32) < p4)) (E_a2 : Exa Z h0 a2 "[B") (V_a2 : Arv Z h0 a2 k_a2 .byte (1 : Int32) [(.int (0 : Int32))] (.int (0 : Int32))) (g_a2 : n0 ≤ a2) :
    MetFree l y0 (head1 (Jvm.Cond.code y0 jdk_52_method_21_code 7 (some .int) :: ws) ({ frames := 0, cells := 0, slots := 0, locals := 0 } : Room)) (fun a U => a = #[(.ref a1), (.int (0 : Int32)), (.ref a2), (.int (0 : Int32)), (.int (1 : Int32))] ∧ Z.Warmed39 U.vm ∧ U.heap = h0) (fun _ _ _ _ _ => True) (fun _ U o U' => ∃ v L, o = .returned v ∧ Q1 Z w_lcache cs_v cl_lcache a1 a2 k_a1 p4 k_a2 h0 n0 v U'.heap L ∧ FrameEnd U o U' L ({ frames := 0, cells := 0, slots := 0, locals := 0 } : Room).cells ({ frames := 0, cells := 0, slots := 0, locals := 0 } : Room).slots) := by
  refine MetFree.of_bodySF (plainFor_of_name pn_5) hisR ?_
  intro p e s m args below meth c s₁ Bd hml0 hP hK
  obtain ⟨rfl, hZ, hh⟩ := hP
  have hx := Bd.exec
  have hby := Bd.bytes
  have hml : c.maxLocals = 7 := hml0
  have hown : s.vm.findClass "java/lang/StringUTF16" = some m.cls := findClass_of_methodNamed Bd.named
  have hnm := (name_of_methodNamed Bd.named Bd.method).1
  have X0 : Stand p l e ({ frames := 0, cells := 0, slots := 0, locals := 0 } : Room) s m #[(.ref a1), (.int (0 : Int32)), (.ref a2), (.int (0 : Int32)), (.int (1 : Int32))] below meth c s₁ [] 0 0 := Stand.of_body Bd
  have e0 : s₁.heap = h0 := by rw [← hh, Bd.state]; rfl
  have N0 := Fr.nil n0
  have hp' := hp
  obtain ⟨S_COMPACT_STRINGS, h_cs, S_w_lcache, B_lcache⟩ := hp'
  have pre0 : ∀ t, Steps p.tables e below (s₁.setTop (mkF m 0 #[.val (.ref a1), .val (.int (0 : Int32)), .val (.ref a2), .val (.int (0 : Int32)), .val (.int (1 : Int32)), .unset, .unset] [])) t → Steps p.tables e below (s₁.setTop (entryFrame m #[(.ref a1), (.int (0 : Int32)), (.ref a2), (.int (0 : Int32)), (.int (1 : Int32))] 7)) t := fun t k => castTop (ef_5_0 m a1 (0 : Int32) a2 (0 : Int32) (1 : Int32)) k
  obtain ⟨cl1, Ar1, -, S1, -, H1, -⟩ := id V_a1
  have hin1 : ¬ ((0 : Int32) < 0 ∨ cl1.slots.size ≤ ((0 : Int32)).toNatClampNeg) := inb_of S1 ⟨by decide, by decide⟩
  have hat1 : cl1.slots[((0 : Int32)).toNatClampNeg]? = some (.int p4) := H1.at hin1 rfl
  obtain ⟨cl2, Ar2, q2, S2, Nn2, H2, G2⟩ := id V_a2
  have hin2 : ¬ ((0 : Int32) < 0 ∨ cl2.slots.size ≤ ((0 : Int32)).toNatClampNeg) := inb_of S2 ⟨by decide, by decide⟩
  obtain ⟨T3, h3, X3, e3, W3, st3⟩ := stB X0 hx hZ e0 Ar2 (j := (0 : Int32)) hin2 (g := (mkF m 31 #[.val (.ref a1), .val (.int (0 : Int32)), .val (.ref a2), .val (.int (0 : Int32)), .val (.int (1 : Int32)), .val (.int (0 : Int32)), .val (.int p4)] [(.int (p4.toInt8.toInt32)), (.int (0 : Int32)), (.ref a2)])) rfl rfl (hb hby d5_31)
  have N3 := Fr.snoc X3 N0 g_a2
  have O3 := O0.wr W3 g_a2
  have K3 : Keep h0 h3 [a2] := (Keep.refl h0 [a2]).wr W3 (Or.inl (List.mem_of_getElem? (i := 0) rfl))
  have V_a2_3 : Arv Z h3 a2 k_a2 .byte (1 : Int32) [(.int (nar .byte (p4.toInt8.toInt32)))] (.int (0 : Int32)) := Arv.set Ar2 q2 S2 Nn2 H2 G2 (fits_nar_byte _) W3 0 rfl (Nat.le_of_ble_eq_true rfl)
  obtain ⟨fs, hr, hrun, hended, hW, hsame⟩ := X3.leave (v := some (.int (1 : Int32))) (fun h => by rw [Bd.returns] at h; cases h)
  refine ⟨_, _, pre0 _ ?_, hrun, hended, _, _, rfl, ?_, ⟨_, rfl⟩, hW, hsame.mono (by decide) (by decide)⟩
  · show Sp p e below s₁ (mkF m 0 #[.val (.ref a1), .val (.int (0 : Int32)), .val (.ref a2), .val (.int (0 : Int32)), .val (.int (1 : Int32)), .unset, .unset] []) _
    refine XS.iconst X0.here hx rfl (hb hby d5_0) ?_
    show Sp p e below s₁ (mkF m 1 #[.val (.ref a1), .val (.int (0 : Int32)), .val (.ref a2), .val (.int (0 : Int32)), .val (.int (1 : Int32)), .unset, .unset] [(.int (0 : Int32))]) _
    refine XS.istore X0.here hx rfl (hb hby d5_1) rfl (l' := #[.val (.ref a1), .val (.int (0 : Int32)), .val (.ref a2), .val (.int (0 : Int32)), .val (.int (1 : Int32)), .val (.int (0 : Int32)), .unset]) rfl ?_
    show Sp p e below s₁ (mkF m 3 #[.val (.ref a1), .val (.int (0 : Int32)), .val (.ref a2), .val (.int (0 : Int32)), .val (.int (1 : Int32)), .val (.int (0 : Int32)), .unset] []) _
    refine XS.iload X0.here hx rfl (hb hby d5_3) rfl ?_
    show Sp p e below s₁ (mkF m 5 #[.val (.ref a1), .val (.int (0 : Int32)), .val (.ref a2), .val (.int (0 : Int32)), .val (.int (1 : Int32)), .val (.int (0 : Int32)), .unset] [(.int (0 : Int32))]) _
    refine XS.iload X0.here hx rfl (hb hby d5_5) rfl ?_
    show Sp p e below s₁ (mkF m 7 #[.val (.ref a1), .val (.int (0 : Int32)), .val (.ref a2), .val (.int (0 : Int32)), .val (.int (1 : Int32)), .val (.int (0 : Int32)), .unset] [(.int (1 : Int32)), (.int (0 : Int32))]) _
    refine XS.icmpNo X0.here hx rfl (hb hby d5_7) rfl (tlt (by decide : (0 : Int32) < (1 : Int32))).2.1 ?_
    show Sp p e below s₁ (mkF m 10 #[.val (.ref a1), .val (.int (0 : Int32)), .val (.ref a2), .val (.int (0 : Int32)), .val (.int (1 : Int32)), .val (.int (0 : Int32)), .unset] []) _
    refine XS.aloadN X0.here hx rfl (hb hby d5_10) rfl rfl ?_
    show Sp p e below s₁ (mkF m 11 #[.val (.ref a1), .val (.int (0 : Int32)), .val (.ref a2), .val (.int (0 : Int32)), .val (.int (1 : Int32)), .val (.int (0 : Int32)), .unset] [(.ref a1)]) _
    refine XS.iloadN X0.here hx rfl (hb hby d5_11) rfl ?_
    show Sp p e below s₁ (mkF m 12 #[.val (.ref a1), .val (.int (0 : Int32)), .val (.ref a2), .val (.int (0 : Int32)), .val (.int (1 : Int32)), .val (.int (0 : Int32)), .unset] [(.int (0 : Int32)), (.ref a1)]) _
    refine X0.caload hx (j := (0 : Int32)) (v := (.int p4)) (by rw [e0]; exact Ar1.1) (State.isArrayOf_alike hZ.alike Ar1.2.1) Ar1.2.2 hin1 hat1 (g := (mkF m 12 #[.val (.ref a1), .val (.int (0 : Int32)), .val (.ref a2), .val (.int (0 : Int32)), .val (.int (1 : Int32)), .val (.int (0 : Int32)), .unset] [(.int (0 : Int32)), (.ref a1)])) rfl rfl (hb hby d5_12) _ ?_
    show Sp p e below s₁ (mkF m 13 #[.val (.ref a1), .val (.int (0 : Int32)), .val (.ref a2), .val (.int (0 : Int32)), .val (.int (1 : Int32)), .val (.int (0 : Int32)), .unset] [(.int p4)]) _
    refine XS.istore X0.here hx rfl (hb hby d5_13) rfl (l' := #[.val (.ref a1), .val (.int (0 : Int32)), .val (.ref a2), .val (.int (0 : Int32)), .val (.int (1 : Int32)), .val (.int (0 : Int32)), .val (.int p4)]) rfl ?_
    show Sp p e below s₁ (mkF m 15 #[.val (.ref a1), .val (.int (0 : Int32)), .val (.ref a2), .val (.int (0 : Int32)), .val (.int (1 : Int32)), .val (.int (0 : Int32)), .val (.int p4)] []) _
    refine XS.iload X0.here hx rfl (hb hby d5_15) rfl ?_
    show Sp p e below s₁ (mkF m 17 #[.val (.ref a1), .val (.int (0 : Int32)), .val (.ref a2), .val (.int (0 : Int32)), .val (.int (1 : Int32)), .val (.int (0 : Int32)), .val (.int p4)] [(.int p4)]) _
    refine XS.sipush X0.here hx rfl (hb hby d5_17) ?_
    show Sp p e below s₁ (mkF m 20 #[.val (.ref a1), .val (.int (0 : Int32)), .val (.ref a2), .val (.int (0 : Int32)), .val (.int (1 : Int32)), .val (.int (0 : Int32)), .val (.int p4)] [(.int (255 : Int32)), (.int p4)]) _
    refine XS.icmpYes X0.here hx rfl (pc0 := 20) (pc' := 26) rfl (hb hby d5_20) rfl (flt hc2).2.2.2 (by decide) (by decide) ?_
    show Sp p e below s₁ (mkF m 26 #[.val (.ref a1), .val (.int (0 : Int32)), .val (.ref a2), .val (.int (0 : Int32)), .val (.int (1 : Int32)), .val (.int (0 : Int32)), .val (.int p4)] []) _
    refine XS.aloadN X0.here hx rfl (hb hby d5_26) rfl rfl ?_
    show Sp p e below s₁ (mkF m 27 #[.val (.ref a1), .val (.int (0 : Int32)), .val (.ref a2), .val (.int (0 : Int32)), .val (.int (1 : Int32)), .val (.int (0 : Int32)), .val (.int p4)] [(.ref a2)]) _
    refine XS.iloadN X0.here hx rfl (hb hby d5_27) rfl ?_
    show Sp p e below s₁ (mkF m 28 #[.val (.ref a1), .val (.int (0 : Int32)), .val (.ref a2), .val (.int (0 : Int32)), .val (.int (1 : Int32)), .val (.int (0 : Int32)), .val (.int p4)] [(.int (0 : Int32)), (.ref a2)]) _
    refine XS.iload X0.here hx rfl (hb hby d5_28) rfl ?_
    show Sp p e below s₁ (mkF m 30 #[.val (.ref a1), .val (.int (0 : Int32)), .val (.ref a2), .val (.int (0 : Int32)), .val (.int (1 : Int32)), .val (.int (0 : Int32)), .val (.int p4)] [(.int p4), (.int (0 : Int32)), (.ref a2)]) _
    refine XS.i2b X0.here hx rfl (hb hby d5_30) rfl ?_
    show Sp p e below s₁ (mkF m 31 #[.val (.ref a1), .val (.int (0 : Int32)), .val (.ref a2), .val (.int (0 : Int32)), .val (.int (1 : Int32)), .val (.int (0 : Int32)), .val (.int p4)] [(.int (p4.toInt8.toInt32)), (.int (0 : Int32)), (.ref a2)]) _
    refine st3 _ ?_
    show Sp p e below T3 (mkF m 32 #[.val (.ref a1), .val (.int (0 : Int32)), .val (.ref a2), .val (.int (0 : Int32)), .val (.int (1 : Int32)), .val (.int (0 : Int32)), .val (.int p4)] []) _
    refine XS.iinc X3.here hx rfl (hb hby d5_32) rfl (l' := #[.val (.ref a1), .val (.int ((0 : Int32) + (1 : Int32))), .val (.ref a2), .val (.int (0 : Int32)), .val (.int (1 : Int32)), .val (.int (0 : Int32)), .val (.int p4)]) rfl ?_
    show Sp p e below T3 (mkF m 35 #[.val (.ref a1), .val (.int ((0 : Int32) + (1 : Int32))), .val (.ref a2), .val (.int (0 : Int32)), .val (.int (1 : Int32)), .val (.int (0 : Int32)), .val (.int p4)] []) _
    refine XS.iinc X3.here hx rfl (hb hby d5_35) rfl (l' := #[.val (.ref a1), .val (.int ((0 : Int32) + (1 : Int32))), .val (.ref a2), .val (.int ((0 : Int32) + (1 : Int32))), .val (.int (1 : Int32)), .val (.int (0 : Int32)), .val (.int p4)]) rfl ?_
    show Sp p e below T3 (mkF m 38 #[.val (.ref a1), .val (.int ((0 : Int32) + (1 : Int32))), .val (.ref a2), .val (.int ((0 : Int32) + (1 : Int32))), .val (.int (1 : Int32)), .val (.int (0 : Int32)), .val (.int p4)] []) _
    refine XS.iinc X3.here hx rfl (hb hby d5_38) rfl (l' := #[.val (.ref a1), .val (.int ((0 : Int32) + (1 : Int32))), .val (.ref a2), .val (.int ((0 : Int32) + (1 : Int32))), .val (.int (1 : Int32)), .val (.int ((0 : Int32) + (1 : Int32))), .val (.int p4)]) rfl ?_
    show Sp p e below T3 (mkF m 41 #[.val (.ref a1), .val (.int ((0 : Int32) + (1 : Int32))), .val (.ref a2), .val (.int ((0 : Int32) + (1 : Int32))), .val (.int (1 : Int32)), .val (.int ((0 : Int32) + (1 : Int32))), .val (.int p4)] []) _
    refine XS.goto X3.here hx rfl (pc0 := 41) (pc' := 3) rfl (hb hby d5_41) (by decide) (by decide) ?_
    show Sp p e below T3 (mkF m 3 #[.val (.ref a1), .val (.int ((0 : Int32) + (1 : Int32))), .val (.ref a2), .val (.int ((0 : Int32) + (1 : Int32))), .val (.int (1 : Int32)), .val (.int ((0 : Int32) + (1 : Int32))), .val (.int p4)] []) _
    refine XS.iload X3.here hx rfl (hb hby d5_3) rfl ?_
    show Sp p e below T3 (mkF m 5 #[.val (.ref a1), .val (.int ((0 : Int32) + (1 : Int32))), .val (.ref a2), .val (.int ((0 : Int32) + (1 : Int32))), .val (.int (1 : Int32)), .val (.int ((0 : Int32) + (1 : Int32))), .val (.int p4)] [(.int ((0 : Int32) + (1 : Int32)))]) _
    refine XS.iload X3.here hx rfl (hb hby d5_5) rfl ?_
    show Sp p e below T3 (mkF m 7 #[.val (.ref a1), .val (.int ((0 : Int32) + (1 : Int32))), .val (.ref a2), .val (.int ((0 : Int32) + (1 : Int32))), .val (.int (1 : Int32)), .val (.int ((0 : Int32) + (1 : Int32))), .val (.int p4)] [(.int (1 : Int32)), (.int ((0 : Int32) + (1 : Int32)))]) _
    refine XS.icmpYes X3.here hx rfl (pc0 := 7) (pc' := 44) rfl (hb hby d5_7) rfl (flt (by decide : ¬ (((0 : Int32) + (1 : Int32)) < (1 : Int32)))).2.1 (by decide) (by decide) ?_
    show Sp p e below T3 (mkF m 44 #[.val (.ref a1), .val (.int ((0 : Int32) + (1 : Int32))), .val (.ref a2), .val (.int ((0 : Int32) + (1 : Int32))), .val (.int (1 : Int32)), .val (.int ((0 : Int32) + (1 : Int32))), .val (.int p4)] []) _
    refine XS.iload X3.here hx rfl (hb hby d5_44) rfl ?_
    show Sp p e below T3 (mkF m 46 #[.val (.ref a1), .val (.int ((0 : Int32) + (1 : Int32))), .val (.ref a2), .val (.int ((0 : Int32) + (1 : Int32))), .val (.int (1 : Int32)), .val (.int ((0 : Int32) + (1 : Int32))), .val (.int p4)] [(.int (1 : Int32))]) _
    exact retI X3 hx Bd.returns (hb hby d5_46) hr
  · show Q1 Z w_lcache cs_v cl_lcache a1 a2 k_a1 p4 k_a2 h0 n0 _ T3.heap _
    rw [e3]
    exact ⟨rfl, N3, K3, (E_a2.wr W3), V_a2_3⟩
theorem pd_0 : parseMethodDescriptor "([CI[BII)I" = some ⟨[(.array .char), .int, (.array .byte), .int, .int], some .int⟩ := by decide +kernel
theorem d4_12 : decode jdk_52_method_16_code 12 = .ok (.istore 4, 2) := by decide +kernel
theorem d4_14 : decode jdk_52_method_16_code 14 = .ok (.iload 4, 2) := by decide +kernel
theorem d4_16 : decode jdk_52_method_16_code 16 = .ok (.iload_n 2, 1) := by decide +kernel
theorem d4_17 : decode jdk_52_method_16_code 17 = .ok (.if_icmp .eq 40, 3) := by decide +kernel
theorem d4_57 : decode jdk_52_method_16_code 57 = .ok (.aload_n 3, 1) := by decide +kernel
theorem d4_58 : decode jdk_52_method_16_code 58 = .ok (.areturn, 1) := by decide +kernel
abbrev y1 : MethodName := (⟨"java/lang/StringUTF16", "compress", "([CII)[B"⟩ : MethodName)
theorem ef_4_0 (m : MethodId) (x0 : Addr) (x1 : Int32) (x2 : Int32) : entryFrame m #[(.ref x0), (.int x1), (.int x2)] 6 = mkF m 0 #[.val (.ref x0), .val (.int x1), .val (.int x2), .unset, .unset, .unset] [] := by first | (simp [entryFrame, mkF, argsToLocals, Value.category]; done) | rfl
def Q2 (Z : State) (w_lcache : Addr) (cs_v : Int32) (cl_lcache : Cell) (a1 : Addr) (k_a1 : ClassId) (p3 : Int32) (h0 : Heap) (n0 : Nat) (v : Option Value) (h : Heap) (L : List Loc) : Prop := ∃ (b1 : Addr), ∃ (k1 : ClassId), v = some (.ref b1) ∧ Fr n0 L ∧ Keep h0 h [] ∧ h0.size ≤ b1 ∧ Exa Z h b1 "[B" ∧ Arv Z h b1 k1 .byte (1 : Int32) [(.int (nar .byte (p3.toInt8.toInt32)))] (.int (0 : Int32))
set_option maxRecDepth 65536 in
set_option maxHeartbeats 40000000 in
theorem rm2 (l : Launch) (Z : State) (a0 : Array Value) (hw : ∀ d ∈ tables_1, d.before a0 Z = true) (ws : List Jvm.Cond) (w_lcache : Addr) (cs_v : Int32) (cl_lcache : Cell) (hp : Perm Z w_lcache cs_v cl_lcache) (a1 : Addr) (k_a1 : ClassId) (p3 : Int32) (h0 : Heap) (n0 : Nat) (O0 : Old Z n0 h0) (V_a1 : Arv Z h0 a1 k_a1 .char (1 : Int32) [(.int p3)] (.int (0 : Int32))) (hc2 : ¬ ((255 : Int32) < p3)) :
    MetFree l y1 (head1 (Jvm.Cond.code y1 jdk_52_method_16_code 6 (some (.array .byte)) :: ws) ({ frames := 1, cells := 1, slots := 1, locals := 18 } : Room)) (fun a U => a = #[(.ref a1), (.int (0 : Int32)), (.int (1 : Int32))] ∧ Z.Warmed39 U.vm ∧ U.heap = h0) (fun _ _ _ _ _ => True) (fun _ U o U' => ∃ v L, o = .returned v ∧ Q2 Z w_lcache cs_v cl_lcache a1 k_a1 p3 h0 n0 v U'.heap L ∧ FrameEnd U o U' L ({ frames := 1, cells := 1, slots := 1, locals := 18 } : Room).cells ({ frames := 1, cells := 1, slots := 1, locals := 18 } : Room).slots) := by
  refine MetFree.of_bodySF (plainFor_of_name pn_5) hisR ?_
  intro p e s m args below meth c s₁ Bd hml0 hP hK
  obtain ⟨rfl, hZ, hh⟩ := hP
  have hx := Bd.exec
  have hby := Bd.bytes
  have hml : c.maxLocals = 6 := hml0
  have hown : s.vm.findClass "java/lang/StringUTF16" = some m.cls := findClass_of_methodNamed Bd.named
  have hnm := (name_of_methodNamed Bd.named Bd.method).1
  have X0 : Stand p l e ({ frames := 1, cells := 1, slots := 1, locals := 18 } : Room) s m #[(.ref a1), (.int (0 : Int32)), (.int (1 : Int32))] below meth c s₁ [] 0 0 := Stand.of_body Bd
  have e0 : s₁.heap = h0 := by rw [← hh, Bd.state]; rfl
  have N0 := Fr.nil n0
  have hp' := hp
  obtain ⟨S_COMPACT_STRINGS, h_cs, S_w_lcache, B_lcache⟩ := hp'
  have pre0 : ∀ t, Steps p.tables e below (s₁.setTop (mkF m 0 #[.val (.ref a1), .val (.int (0 : Int32)), .val (.int (1 : Int32)), .unset, .unset, .unset] [])) t → Steps p.tables e below (s₁.setTop (entryFrame m #[(.ref a1), (.int (0 : Int32)), (.int (1 : Int32))] 6)) t := fun t k => castTop (ef_4_0 m a1 (0 : Int32) (1 : Int32)) k
  obtain ⟨T1, h1, k1, X1, e1, E1, A1, EA1, st1⟩ := newPE X0 hx hZ (hw _ (List.mem_of_getElem? (i := 22) rfl)) e0 (g := (mkF m 1 #[.val (.ref a1), .val (.int (0 : Int32)), .val (.int (1 : Int32)), .unset, .unset, .unset] [(.int (1 : Int32))])) rfl (hb hby d4_1) rfl (by decide) (cap := 1) (by decide) (by decide) (by decide) (by decide) (ad := "[B") (by decide)
  obtain ⟨b1, g1⟩ : ∃ z, z = h0.size := ⟨_, rfl⟩
  rw [← g1] at A1 EA1 st1
  have g_b1 : n0 ≤ b1 := Nat.le_trans (own_sz O0) (Nat.le_of_eq g1.symm)
  have sz_b1 : h0.size ≤ b1 := Nat.le_trans (Keep.refl h0 []).1 (Nat.le_of_eq g1.symm)
  have O1 := O0.ext E1
  have K1 : Keep h0 h1 [] := (Keep.refl h0 []).ext E1
  have V_b1 : Arv Z h1 b1 k1 .byte (1 : Int32) [(.int (0 : Int32))] (.int (0 : Int32)) := (Arv.new A1 (by decide)).pad (pad_rep [] (.int (0 : Int32)) 1)
  obtain ⟨_, _, ⟨T2, L2, k2, n2⟩, -, X2, ⟨Lc2, hQ2, l2, y2, z2⟩, st2⟩ := Jvm.LawKit.callS X1 hx (y := y0) hown (mvT hZ (hw _ (List.mem_of_getElem? (i := 23) rfl))) (mvT hZ (hw _ (List.mem_of_getElem? (i := 24) rfl))) (mvT hZ (hw _ (List.mem_of_getElem? (i := 20) rfl))) (mvT hZ (hw _ (List.mem_of_getElem? (i := 25) rfl))) (by decide) (backOf (W := 0) (rm1 l Z a0 hw [] w_lcache cs_v cl_lcache hp a1 b1 k_a1 p3 k1 h1 n0 O1 (V_a1.ext E1) hc2 EA1 V_b1 g_b1) hZ (hw _ (List.mem_of_getElem? (i := 25) rfl)) (hw _ (List.mem_of_getElem? (i := 20) rfl)) (by decide) (by decide)) (g := (mkF m 9 #[.val (.ref a1), .val (.int (0 : Int32)), .val (.int (1 : Int32)), .val (.ref b1), .unset, .unset] [(.int (1 : Int32)), (.int (0 : Int32)), (.ref b1), (.int (0 : Int32)), (.ref a1)])) rfl (by rw [hml]; rfl) (argsL := [(.ref a1), (.int (0 : Int32)), (.ref b1), (.int (0 : Int32)), (.int (1 : Int32))]) (rest := []) (lenOf pd_0 rfl) rfl (by show 2 * 0 + _ ≤ _; exact Nat.le_of_eq rfl) (hb hby d4_9) (fun _ _ => ⟨rfl, e1, (by decide : 1 + 0 ≤ _), (by decide : 1 + 0 ≤ _)⟩)
  dsimp only [Pt.U, Pt.locs, Pt.cells, Pt.slots] at X2 l2 y2 z2 st2 hQ2
  subst l2 y2 z2
  obtain ⟨rfl, Nq2, Kq2, fq2_0, fq2_1⟩ := hQ2
  have N2 := Fr.app N0 Nq2
  have O2 := O1.keep Kq2 (allS g_b1 all0)
  have K2 : Keep h0 T2.heap [] := K1.trans Kq2 (allS (Or.inr sz_b1) all0)
  obtain ⟨fs, hr, hrun, hended, hW, hsame⟩ := X2.leave (v := some (.ref b1)) (fun h => by rw [Bd.returns] at h; cases h)
  refine ⟨_, _, pre0 _ ?_, hrun, hended, _, _, rfl, ?_, ⟨_, rfl⟩, hW, hsame.mono (by decide) (by decide)⟩
  · show Sp p e below s₁ (mkF m 0 #[.val (.ref a1), .val (.int (0 : Int32)), .val (.int (1 : Int32)), .unset, .unset, .unset] []) _
    refine XS.iloadN X0.here hx rfl (hb hby d4_0) rfl ?_
    show Sp p e below s₁ (mkF m 1 #[.val (.ref a1), .val (.int (0 : Int32)), .val (.int (1 : Int32)), .unset, .unset, .unset] [(.int (1 : Int32))]) _
    refine st1 _ ?_
    show Sp p e below T1 (mkF m 3 #[.val (.ref a1), .val (.int (0 : Int32)), .val (.int (1 : Int32)), .unset, .unset, .unset] [(.ref b1)]) _
    refine XS.astoreN X1.here hx rfl (hb hby d4_3) rfl rfl (l' := #[.val (.ref a1), .val (.int (0 : Int32)), .val (.int (1 : Int32)), .val (.ref b1), .unset, .unset]) rfl ?_
    show Sp p e below T1 (mkF m 4 #[.val (.ref a1), .val (.int (0 : Int32)), .val (.int (1 : Int32)), .val (.ref b1), .unset, .unset] []) _
    refine XS.aloadN X1.here hx rfl (hb hby d4_4) rfl rfl ?_
    show Sp p e below T1 (mkF m 5 #[.val (.ref a1), .val (.int (0 : Int32)), .val (.int (1 : Int32)), .val (.ref b1), .unset, .unset] [(.ref a1)]) _
    refine XS.iloadN X1.here hx rfl (hb hby d4_5) rfl ?_
    show Sp p e below T1 (mkF m 6 #[.val (.ref a1), .val (.int (0 : Int32)), .val (.int (1 : Int32)), .val (.ref b1), .unset, .unset] [(.int (0 : Int32)), (.ref a1)]) _
    refine XS.aloadN X1.here hx rfl (hb hby d4_6) rfl rfl ?_
    show Sp p e below T1 (mkF m 7 #[.val (.ref a1), .val (.int (0 : Int32)), .val (.int (1 : Int32)), .val (.ref b1), .unset, .unset] [(.ref b1), (.int (0 : Int32)), (.ref a1)]) _
    refine XS.iconst X1.here hx rfl (hb hby d4_7) ?_
    show Sp p e below T1 (mkF m 8 #[.val (.ref a1), .val (.int (0 : Int32)), .val (.int (1 : Int32)), .val (.ref b1), .unset, .unset] [(.int (0 : Int32)), (.ref b1), (.int (0 : Int32)), (.ref a1)]) _
    refine XS.iloadN X1.here hx rfl (hb hby d4_8) rfl ?_
    show Sp p e below T1 (mkF m 9 #[.val (.ref a1), .val (.int (0 : Int32)), .val (.int (1 : Int32)), .val (.ref b1), .unset, .unset] [(.int (1 : Int32)), (.int (0 : Int32)), (.ref b1), (.int (0 : Int32)), (.ref a1)]) _
    refine st2 _ ?_
    show Sp p e below T2 (mkF m 12 #[.val (.ref a1), .val (.int (0 : Int32)), .val (.int (1 : Int32)), .val (.ref b1), .unset, .unset] [(.int (1 : Int32))]) _
    refine XS.istore X2.here hx rfl (hb hby d4_12) rfl (l' := #[.val (.ref a1), .val (.int (0 : Int32)), .val (.int (1 : Int32)), .val (.ref b1), .val (.int (1 : Int32)), .unset]) rfl ?_
    show Sp p e below T2 (mkF m 14 #[.val (.ref a1), .val (.int (0 : Int32)), .val (.int (1 : Int32)), .val (.ref b1), .val (.int (1 : Int32)), .unset] []) _
    refine XS.iload X2.here hx rfl (hb hby d4_14) rfl ?_
    show Sp p e below T2 (mkF m 16 #[.val (.ref a1), .val (.int (0 : Int32)), .val (.int (1 : Int32)), .val (.ref b1), .val (.int (1 : Int32)), .unset] [(.int (1 : Int32))]) _
    refine XS.iloadN X2.here hx rfl (hb hby d4_16) rfl ?_
    show Sp p e below T2 (mkF m 17 #[.val (.ref a1), .val (.int (0 : Int32)), .val (.int (1 : Int32)), .val (.ref b1), .val (.int (1 : Int32)), .unset] [(.int (1 : Int32)), (.int (1 : Int32))]) _
    refine XS.icmpYes X2.here hx rfl (pc0 := 17) (pc' := 57) rfl (hb hby d4_17) rfl (teq (by decide : (1 : Int32) = (1 : Int32))).1 (by decide) (by decide) ?_
    show Sp p e below T2 (mkF m 57 #[.val (.ref a1), .val (.int (0 : Int32)), .val (.int (1 : Int32)), .val (.ref b1), .val (.int (1 : Int32)), .unset] []) _
    refine XS.aloadN X2.here hx rfl (hb hby d4_57) rfl rfl ?_
    show Sp p e below T2 (mkF m 58 #[.val (.ref a1), .val (.int (0 : Int32)), .val (.int (1 : Int32)), .val (.ref b1), .val (.int (1 : Int32)), .unset] [(.ref b1)]) _
    jvm_step X2.here [X2.here.top, hx, (hb hby d4_58), X2.method', Bd.returns, Value.isRef, FieldType.isReference]
    first | (intro acts; rw [hr _ acts rfl rfl rfl]) | rw [hr _ _ rfl rfl rfl]
    exact Steps.refl _
  · show Q2 Z w_lcache cs_v cl_lcache a1 k_a1 p3 h0 n0 _ T2.heap _
    exact ⟨b1, k1, rfl, N2, K2, sz_b1, fq2_0, fq2_1⟩
theorem pd_1 : parseMethodDescriptor "([CII)[B" = some ⟨[(.array .char), .int, .int], some (.array .byte)⟩ := by decide +kernel
theorem d2_39 : decode jdk_42_method_149_code 39 = .ok (.astore 5, 2) := by decide +kernel
theorem d2_41 : decode jdk_42_method_149_code 41 = .ok (.aload_n 0, 1) := by decide +kernel
theorem d2_42 : decode jdk_42_method_149_code 42 = .ok (.aload 5, 2) := by decide +kernel
theorem d2_44 : decode jdk_42_method_149_code 44 = .ok (.iload_n 3, 1) := by decide +kernel
theorem d2_45 : decode jdk_42_method_149_code 45 = .ok (.invokestatic 47, 3) := by decide +kernel
theorem d6_0 : decode jdk_52_method_15_code 0 = .ok (.iload_n 1, 1) := by decide +kernel
theorem d6_1 : decode jdk_52_method_15_code 1 = .ok (.aload_n 0, 1) := by decide +kernel
theorem d6_2 : decode jdk_52_method_15_code 2 = .ok (.arraylength, 1) := by decide +kernel
theorem d6_3 : decode jdk_52_method_15_code 3 = .ok (.isub, 1) := by decide +kernel
theorem d6_4 : decode jdk_52_method_15_code 4 = .ok (.bipush 31, 2) := by decide +kernel
theorem d6_6 : decode jdk_52_method_15_code 6 = .ok (.iushr, 1) := by decide +kernel
theorem d6_7 : decode jdk_52_method_15_code 7 = .ok (.i2b, 1) := by decide +kernel
theorem d6_8 : decode jdk_52_method_15_code 8 = .ok (.ireturn, 1) := by decide +kernel
abbrev y2 : MethodName := (⟨"java/lang/StringUTF16", "coderFromArrayLen", "([BI)B"⟩ : MethodName)
theorem ef_6_0 (m : MethodId) (x0 : Addr) (x1 : Int32) : entryFrame m #[(.ref x0), (.int x1)] 2 = mkF m 0 #[.val (.ref x0), .val (.int x1)] [] := by first | (simp [entryFrame, mkF, argsToLocals, Value.category]; done) | rfl
def Q3 (Z : State) (w_lcache : Addr) (cs_v : Int32) (cl_lcache : Cell) (a1 : Addr) (k_a1 : ClassId) (p3 : Int32) (h0 : Heap) (n0 : Nat) (v : Option Value) (h : Heap) (L : List Loc) : Prop := v = some (.int (0 : Int32)) ∧ Fr n0 L ∧ h = h0
set_option maxRecDepth 65536 in
set_option maxHeartbeats 40000000 in
theorem rm3 (l : Launch) (Z : State) (a0 : Array Value) (hw : ∀ d ∈ tables_1, d.before a0 Z = true) (ws : List Jvm.Cond) (w_lcache : Addr) (cs_v : Int32) (cl_lcache : Cell) (hp : Perm Z w_lcache cs_v cl_lcache) (a1 : Addr) (k_a1 : ClassId) (p3 : Int32) (h0 : Heap) (n0 : Nat) (O0 : Old Z n0 h0) (V_a1 : Arv Z h0 a1 k_a1 .byte (1 : Int32) [(.int p3)] (.int (0 : Int32))) :
    MetFree l y2 (head1 (Jvm.Cond.code y2 jdk_52_method_15_code 2 (some .byte) :: ws) ({ frames := 0, cells := 0, slots := 0, locals := 0 } : Room)) (fun a U => a = #[(.ref a1), (.int (1 : Int32))] ∧ Z.Warmed39 U.vm ∧ U.heap = h0) (fun _ _ _ _ _ => True) (fun _ U o U' => ∃ v L, o = .returned v ∧ Q3 Z w_lcache cs_v cl_lcache a1 k_a1 p3 h0 n0 v U'.heap L ∧ FrameEnd U o U' L ({ frames := 0, cells := 0, slots := 0, locals := 0 } : Room).cells ({ frames := 0, cells := 0, slots := 0, locals := 0 } : Room).slots) := by
  refine MetFree.of_bodySF (plainFor_of_name pn_5) hisR ?_
  intro p e s m args below meth c s₁ Bd hml0 hP hK
  obtain ⟨rfl, hZ, hh⟩ := hP
  have hx := Bd.exec
  have hby := Bd.bytes
  have hml : c.maxLocals = 2 := hml0
  have hown : s.vm.findClass "java/lang/StringUTF16" = some m.cls := findClass_of_methodNamed Bd.named
  have hnm := (name_of_methodNamed Bd.named Bd.method).1
  have X0 : Stand p l e ({ frames := 0, cells := 0, slots := 0, locals := 0 } : Room) s m #[(.ref a1), (.int (1 : Int32))] below meth c s₁ [] 0 0 := Stand.of_body Bd
  have e0 : s₁.heap = h0 := by rw [← hh, Bd.state]; rfl
  have N0 := Fr.nil n0
  have hp' := hp
  obtain ⟨S_COMPACT_STRINGS, h_cs, S_w_lcache, B_lcache⟩ := hp'
  have pre0 : ∀ t, Steps p.tables e below (s₁.setTop (mkF m 0 #[.val (.ref a1), .val (.int (1 : Int32))] [])) t → Steps p.tables e below (s₁.setTop (entryFrame m #[(.ref a1), (.int (1 : Int32))] 2)) t := fun t k => castTop (ef_6_0 m a1 (1 : Int32)) k
  obtain ⟨cl1, Ar1, -, S1, Nn1, -, -⟩ := id V_a1
  obtain ⟨fs, hr, hrun, hended, hW, hsame⟩ := X0.leave (v := some (.int (0 : Int32))) (fun h => by rw [Bd.returns] at h; cases h)
  refine ⟨_, _, pre0 _ ?_, hrun, hended, _, _, rfl, ?_, ⟨_, rfl⟩, hW, hsame.mono (by decide) (by decide)⟩
  · show Sp p e below s₁ (mkF m 0 #[.val (.ref a1), .val (.int (1 : Int32))] []) _
    refine XS.iloadN X0.here hx rfl (hb hby d6_0) rfl ?_
    show Sp p e below s₁ (mkF m 1 #[.val (.ref a1), .val (.int (1 : Int32))] [(.int (1 : Int32))]) _
    refine XS.aloadN X0.here hx rfl (hb hby d6_1) rfl rfl ?_
    show Sp p e below s₁ (mkF m 2 #[.val (.ref a1), .val (.int (1 : Int32))] [(.ref a1), (.int (1 : Int32))]) _
    refine X0.arraylength hx (by rw [e0]; exact Ar1.1) (State.isArrayOf_alike hZ.alike Ar1.2.1) (g := (mkF m 2 #[.val (.ref a1), .val (.int (1 : Int32))] [(.ref a1), (.int (1 : Int32))])) rfl rfl (hb hby d6_2) _ ?_
    rw [len_of S1 Nn1]
    show Sp p e below s₁ (mkF m 3 #[.val (.ref a1), .val (.int (1 : Int32))] [(.int (1 : Int32)), (.int (1 : Int32))]) _
    refine XS.isub X0.here hx rfl (hb hby d6_3) rfl ?_
    show Sp p e below s₁ (mkF m 4 #[.val (.ref a1), .val (.int (1 : Int32))] [(.int ((1 : Int32) - (1 : Int32)))]) _
    refine XS.bipush X0.here hx rfl (hb hby d6_4) ?_
    show Sp p e below s₁ (mkF m 6 #[.val (.ref a1), .val (.int (1 : Int32))] [(.int (31 : Int32)), (.int ((1 : Int32) - (1 : Int32)))]) _
    refine XS.iushr X0.here hx rfl (hb hby d6_6) rfl ?_
    show Sp p e below s₁ (mkF m 7 #[.val (.ref a1), .val (.int (1 : Int32))] [(.int ((((1 : Int32) - (1 : Int32)).toUInt32 >>> ((31 : Int32) &&& 31).toUInt32).toInt32))]) _
    refine XS.i2b X0.here hx rfl (hb hby d6_7) rfl ?_
    show Sp p e below s₁ (mkF m 8 #[.val (.ref a1), .val (.int (1 : Int32))] [(.int (((((1 : Int32) - (1 : Int32)).toUInt32 >>> ((31 : Int32) &&& 31).toUInt32).toInt32).toInt8.toInt32))]) _
    exact retN X0 hx (t := .byte) Bd.returns (by simp) (hb hby d6_8) hr
  · show Q3 Z w_lcache cs_v cl_lcache a1 k_a1 p3 h0 n0 _ s₁.heap _
    rw [e0]
    exact ⟨rfl, N0, rfl⟩
theorem pd_2 : parseMethodDescriptor "([BI)B" = some ⟨[(.array .byte), .int], some .byte⟩ := by decide +kernel
theorem d2_48 : decode jdk_42_method_149_code 48 = .ok (.putfield 15, 3) := by decide +kernel
theorem d2_51 : decode jdk_42_method_149_code 51 = .ok (.aload_n 0, 1) := by decide +kernel
theorem d2_52 : decode jdk_42_method_149_code 52 = .ok (.aload 5, 2) := by decide +kernel
theorem d2_54 : decode jdk_42_method_149_code 54 = .ok (.putfield 9, 3) := by decide +kernel
theorem sn0 {Z : State} {a0 : Array Value} (hw : ∀ d ∈ tables_1, d.before a0 Z = true) : Jvm.RoadKit.slotOf Z "java/lang/String" "value" "[B" ≠ Jvm.RoadKit.slotOf Z "java/lang/String" "coder" "B" := slot_ne (Or.inr (hw _ (List.mem_of_getElem? (i := 32) rfl))) (Or.inr (hw _ (List.mem_of_getElem? (i := 30) rfl))) (by decide) (t := (.array .byte)) (t' := .byte) (by decide) (by decide)
theorem d2_57 : decode jdk_42_method_149_code 57 = .ok (.return_, 1) := by decide +kernel
theorem sn1 {Z : State} {a0 : Array Value} (hw : ∀ d ∈ tables_1, d.before a0 Z = true) : Jvm.RoadKit.slotOf Z "java/lang/String" "coder" "B" ≠ Jvm.RoadKit.slotOf Z "java/lang/String" "value" "[B" := slot_ne (Or.inr (hw _ (List.mem_of_getElem? (i := 30) rfl))) (Or.inr (hw _ (List.mem_of_getElem? (i := 32) rfl))) (by decide) (t := .byte) (t' := (.array .byte)) (by decide) (by decide)
abbrev y3 : MethodName := (⟨"java/lang/String", "<init>", "([CIILjava/lang/Void;)V"⟩ : MethodName)
theorem ef_2_0 (m : MethodId) (x0 : Addr) (x1 : Addr) (x2 : Int32) (x3 : Int32) : entryFrame m #[(.ref x0), (.ref x1), (.int x2), (.int x3), .null] 6 = mkF m 0 #[.val (.ref x0), .val (.ref x1), .val (.int x2), .val (.int x3), .val .null, .unset] [] := by first | (simp [entryFrame, mkF, argsToLocals, Value.category]; done) | rfl
theorem pn_2 : plainName "java/lang/String" = true := by first | (simp [plainName, overriddenIn]; done) | decide +kernel
def Q4 (Z : State) (w_lcache : Addr) (cs_v : Int32) (cl_lcache : Cell) (a1 : Addr) (a2 : Addr) (k_a2 : ClassId) (p4 : Int32) (h0 : Heap) (n0 : Nat) (v : Option Value) (h : Heap) (L : List Loc) : Prop := ∃ (b3_0 : Addr), ∃ (kc3_0 : ClassId), v = none ∧ Fr n0 L ∧ Keep h0 h [a1] ∧ h0.size ≤ b3_0 ∧ Exa Z h a1 "java/lang/String" ∧ Fld Z h a1 "java/lang/String" "coder" "B" (.int (0 : Int32)) ∧ Fld Z h a1 "java/lang/String" "value" "[B" (.ref b3_0) ∧ Exa Z h b3_0 "[B" ∧ Arv Z h b3_0 kc3_0 .byte (1 : Int32) [(.int (nar .byte (p4.toInt8.toInt32)))] (.int (0 : Int32))
set_option maxRecDepth 65536 in
set_option maxHeartbeats 40000000 in
theorem rm4 (l : Launch) (Z : State) (a0 : Array Value) (hw : ∀ d ∈ tables_1, d.before a0 Z = true) (ws : List Jvm.Cond) (w_lcache : Addr) (cs_v : Int32) (cl_lcache : Cell) (hp : Perm Z w_lcache cs_v cl_lcache) (a1 : Addr) (a2 : Addr) (k_a2 : ClassId) (p4 : Int32) (h0 : Heap) (n0 : Nat) (O0 : Old Z n0 h0) (V_a2 : Arv Z h0 a2 k_a2 .char (1 : Int32) [(.int p4)] (.int (0 : Int32))) (hc2 : ¬ ((255 : Int32) < p4)) (E_a1 : Exa Z h0 a1 "java/lang/String") (F_coder_a1 : Fld Z h0 a1 "java/lang/String" "coder" "B" (.int (0 : Int32))) (F_value_a1 : Fld Z h0 a1 "java/lang/String" "value" "[B" .null) (g_a1 : n0 ≤ a1) :
    MetFree l y3 (head1 (Jvm.Cond.code y3 jdk_42_method_149_code 6 none :: ws) ({ frames := 2, cells := 1, slots := 1, locals := 35 } : Room)) (fun a U => a = #[(.ref a1), (.ref a2), (.int (0 : Int32)), (.int (1 : Int32)), .null] ∧ Z.Warmed39 U.vm ∧ U.heap = h0) (fun _ _ _ _ _ => True) (fun _ U o U' => ∃ v L, o = .returned v ∧ Q4 Z w_lcache cs_v cl_lcache a1 a2 k_a2 p4 h0 n0 v U'.heap L ∧ FrameEnd U o U' L ({ frames := 2, cells := 1, slots := 1, locals := 35 } : Room).cells ({ frames := 2, cells := 1, slots := 1, locals := 35 } : Room).slots) := by
  refine MetFree.of_bodySF (plainFor_of_name pn_2) hisR ?_
  intro p e s m args below meth c s₁ Bd hml0 hP hK
  obtain ⟨rfl, hZ, hh⟩ := hP
  have hx := Bd.exec
  have hby := Bd.bytes
  have hml : c.maxLocals = 6 := hml0
  have hown : s.vm.findClass "java/lang/String" = some m.cls := findClass_of_methodNamed Bd.named
  have hnm := (name_of_methodNamed Bd.named Bd.method).1
  have X0 : Stand p l e ({ frames := 2, cells := 1, slots := 1, locals := 35 } : Room) s m #[(.ref a1), (.ref a2), (.int (0 : Int32)), (.int (1 : Int32)), .null] below meth c s₁ [] 0 0 := Stand.of_body Bd
  have e0 : s₁.heap = h0 := by rw [← hh, Bd.state]; rfl
  have N0 := Fr.nil n0
  have hp' := hp
  obtain ⟨S_COMPACT_STRINGS, h_cs, S_w_lcache, B_lcache⟩ := hp'
  have pre0 : ∀ t, Steps p.tables e below (s₁.setTop (mkF m 0 #[.val (.ref a1), .val (.ref a2), .val (.int (0 : Int32)), .val (.int (1 : Int32)), .val .null, .unset] [])) t → Steps p.tables e below (s₁.setTop (entryFrame m #[(.ref a1), (.ref a2), (.int (0 : Int32)), (.int (1 : Int32)), .null] 6)) t := fun t k => castTop (ef_2_0 m a1 a2 (0 : Int32) (1 : Int32)) k
  obtain ⟨T1, X1, e1, st1⟩ := initO X0 hx hZ hown (hw _ (List.mem_of_getElem? (i := 14) rfl)) (hw _ (List.mem_of_getElem? (i := 15) rfl)) (hw _ (List.mem_of_getElem? (i := 16) rfl)) e0 (g := (mkF m 1 #[.val (.ref a1), .val (.ref a2), .val (.int (0 : Int32)), .val (.int (1 : Int32)), .val .null, .unset] [(.ref a1)])) rfl (by rw [hml]; rfl) rfl (hb hby d2_1) (by decide) (W := 0) (by show 2 * 0 + _ ≤ _; exact Nat.le_of_eq rfl) (by decide)
  obtain ⟨T2, X2, e2, st2⟩ := getS2 X1 hx hZ hown (host := "") (Or.inl (hw _ (List.mem_of_getElem? (i := 17) rfl))) Via.refl e1 (S_COMPACT_STRINGS.ext O0.2) (g := (mkF m 27 #[.val (.ref a1), .val (.ref a2), .val (.int (0 : Int32)), .val (.int (1 : Int32)), .val .null, .unset] [])) rfl (hb hby d2_27)
  obtain ⟨_, _, ⟨T3, L3, k3, n3⟩, -, X3, ⟨Lc3, hQ3, l3, y3, z3⟩, st3⟩ := Jvm.LawKit.callS X2 hx (y := y1) hown (mvT hZ (hw _ (List.mem_of_getElem? (i := 18) rfl))) (mvT hZ (hw _ (List.mem_of_getElem? (i := 19) rfl))) (mvT hZ (hw _ (List.mem_of_getElem? (i := 20) rfl))) (mvT hZ (hw _ (List.mem_of_getElem? (i := 21) rfl))) (by decide) (backOf (W := 0) (rm2 l Z a0 hw [] w_lcache cs_v cl_lcache hp a2 k_a2 p4 h0 n0 O0 V_a2 hc2) hZ (hw _ (List.mem_of_getElem? (i := 21) rfl)) (hw _ (List.mem_of_getElem? (i := 20) rfl)) (by decide) (by decide)) (g := (mkF m 36 #[.val (.ref a1), .val (.ref a2), .val (.int (0 : Int32)), .val (.int (1 : Int32)), .val .null, .unset] [(.int (1 : Int32)), (.int (0 : Int32)), (.ref a2)])) rfl (by rw [hml]; rfl) (argsL := [(.ref a2), (.int (0 : Int32)), (.int (1 : Int32))]) (rest := []) (lenOf pd_1 rfl) rfl (by show 2 * 0 + _ ≤ _; exact Nat.le_of_eq rfl) (hb hby d2_36) (fun _ _ => ⟨rfl, e2, (by decide : 0 + 1 ≤ _), (by decide : 0 + 1 ≤ _)⟩)
  dsimp only [Pt.U, Pt.locs, Pt.cells, Pt.slots] at X3 l3 y3 z3 st3 hQ3
  subst l3 y3 z3
  obtain ⟨b3_0, kc3_0, rfl, Nq3, Kq3, sq_b3_0, fq3_0, fq3_1⟩ := hQ3
  have N3 := Fr.app N0 Nq3
  have g_b3_0 : n0 ≤ b3_0 := Nat.le_trans (own_sz O0) sq_b3_0
  have sz_b3_0 : h0.size ≤ b3_0 := Nat.le_trans (Keep.refl h0 [a1]).1 sq_b3_0
  have O3 := O0.keep Kq3 all0
  have K3 : Keep h0 T3.heap [a1] := (Keep.refl h0 [a1]).trans Kq3 all0
  obtain ⟨_, _, ⟨T4, L4, k4, n4⟩, -, X4, ⟨Lc4, hQ4, l4, y4, z4⟩, st4⟩ := Jvm.LawKit.callS X3 hx (y := y2) hown (mvT hZ (hw _ (List.mem_of_getElem? (i := 26) rfl))) (mvT hZ (hw _ (List.mem_of_getElem? (i := 27) rfl))) (mvT hZ (hw _ (List.mem_of_getElem? (i := 20) rfl))) (mvT hZ (hw _ (List.mem_of_getElem? (i := 28) rfl))) (by decide) (backOf (W := 1) (rm3 l Z a0 hw [] w_lcache cs_v cl_lcache hp b3_0 kc3_0 (nar .byte (p4.toInt8.toInt32)) T3.heap n0 O3 fq3_1) hZ (hw _ (List.mem_of_getElem? (i := 28) rfl)) (hw _ (List.mem_of_getElem? (i := 20) rfl)) (by decide) (by decide)) (g := (mkF m 45 #[.val (.ref a1), .val (.ref a2), .val (.int (0 : Int32)), .val (.int (1 : Int32)), .val .null, .val (.ref b3_0)] [(.int (1 : Int32)), (.ref b3_0), (.ref a1)])) rfl (by rw [hml]; rfl) (argsL := [(.ref b3_0), (.int (1 : Int32))]) (rest := [(.ref a1)]) (lenOf pd_2 rfl) rfl (by show 2 * 0 + _ ≤ _; exact Nat.le_of_eq rfl) (hb hby d2_45) (fun _ _ => ⟨rfl, rfl, (by decide : 1 + 0 ≤ _), (by decide : 1 + 0 ≤ _)⟩)
  dsimp only [Pt.U, Pt.locs, Pt.cells, Pt.slots] at X4 l4 y4 z4 st4 hQ4
  subst l4 y4 z4
  obtain ⟨rfl, Nq4, eq4⟩ := hQ4
  have N4 := Fr.app N3 Nq4
  obtain ⟨T5, h5, X5, e5, W5, st5⟩ := putFN X4 hx hZ hown (hw _ (List.mem_of_getElem? (i := 29) rfl)) Via.refl eq4 (F_coder_a1.keep Kq3 nin0) (E_a1.keep Kq3) (Or.inr ⟨(hw _ (List.mem_of_getElem? (i := 30) rfl)), rfl, hnm⟩) (hw _ (List.mem_of_getElem? (i := 5) rfl)) (ty := .byte) (v' := (.int (0 : Int32))) (by decide) rfl rfl (g := (mkF m 48 #[.val (.ref a1), .val (.ref a2), .val (.int (0 : Int32)), .val (.int (1 : Int32)), .val .null, .val (.ref b3_0)] [(.int (0 : Int32)), (.ref a1)])) rfl rfl (hb hby d2_48)
  have N5 := Fr.snoc X5 N4 g_a1
  have O5 := O3.wr W5 g_a1
  have K5 : Keep h0 h5 [a1] := K3.wr W5 (Or.inl (List.mem_of_getElem? (i := 0) rfl))
  have Fw5 := (F_coder_a1.keep Kq3 nin0).same W5
  obtain ⟨T6, h6, X6, e6, W6, st6⟩ := putF X5 hx hZ hown (host := "") (Or.inl (hw _ (List.mem_of_getElem? (i := 31) rfl))) Via.refl e5 ((F_value_a1.keep Kq3 nin0).other W5 (Or.inr (sn0 hw))) ((E_a1.keep Kq3).wr W5) (Or.inr ⟨(hw _ (List.mem_of_getElem? (i := 32) rfl)), rfl, hnm⟩) (hw _ (List.mem_of_getElem? (i := 5) rfl)) (ty := (.array .byte)) (by decide) rfl rfl (g := (mkF m 54 #[.val (.ref a1), .val (.ref a2), .val (.int (0 : Int32)), .val (.int (1 : Int32)), .val .null, .val (.ref b3_0)] [(.ref b3_0), (.ref a1)])) rfl rfl (hb hby d2_54)
  have N6 := Fr.snoc X6 N5 g_a1
  have O6 := O5.wr W6 g_a1
  have K6 : Keep h0 h6 [a1] := K5.wr W6 (Or.inl (List.mem_of_getElem? (i := 0) rfl))
  have Fw6 := ((F_value_a1.keep Kq3 nin0).other W5 (Or.inr (sn0 hw))).same W6
  have f_7 := ((fq3_1.other W5 (Ne.symm (Nat.ne_of_lt (Nat.lt_of_lt_of_le E_a1.lt sz_b3_0)))).other W6 (Ne.symm (Nat.ne_of_lt (Nat.lt_of_lt_of_le E_a1.lt sz_b3_0))))
  obtain ⟨fs, hr, hrun, hended, hW, hsame⟩ := X6.leave (v := none) (fun _ => rfl)
  refine ⟨_, _, pre0 _ ?_, hrun, hended, _, _, rfl, ?_, ⟨_, rfl⟩, hW, hsame.mono (by decide) (by decide)⟩
  · show Sp p e below s₁ (mkF m 0 #[.val (.ref a1), .val (.ref a2), .val (.int (0 : Int32)), .val (.int (1 : Int32)), .val .null, .unset] []) _
    refine XS.aloadN X0.here hx rfl (hb hby d2_0) rfl rfl ?_
    show Sp p e below s₁ (mkF m 1 #[.val (.ref a1), .val (.ref a2), .val (.int (0 : Int32)), .val (.int (1 : Int32)), .val .null, .unset] [(.ref a1)]) _
    refine st1 _ ?_
    show Sp p e below T1 (mkF m 4 #[.val (.ref a1), .val (.ref a2), .val (.int (0 : Int32)), .val (.int (1 : Int32)), .val .null, .unset] []) _
    refine XS.iloadN X1.here hx rfl (hb hby d2_4) rfl ?_
    show Sp p e below T1 (mkF m 5 #[.val (.ref a1), .val (.ref a2), .val (.int (0 : Int32)), .val (.int (1 : Int32)), .val .null, .unset] [(.int (1 : Int32))]) _
    refine XS.ifYes X1.here hx rfl (pc0 := 5) (pc' := 27) rfl (hb hby d2_5) rfl ((if0 _ _).trans (feq (by decide : ¬ ((1 : Int32) = (0 : Int32)))).2) (by decide) (by decide) ?_
    show Sp p e below T1 (mkF m 27 #[.val (.ref a1), .val (.ref a2), .val (.int (0 : Int32)), .val (.int (1 : Int32)), .val .null, .unset] []) _
    refine st2 _ ?_
    show Sp p e below T2 (mkF m 30 #[.val (.ref a1), .val (.ref a2), .val (.int (0 : Int32)), .val (.int (1 : Int32)), .val .null, .unset] [(.int cs_v)]) _
    refine XS.ifNo X2.here hx rfl (hb hby d2_30) rfl ((if0 _ _).trans (feq h_cs).1) ?_
    show Sp p e below T2 (mkF m 33 #[.val (.ref a1), .val (.ref a2), .val (.int (0 : Int32)), .val (.int (1 : Int32)), .val .null, .unset] []) _
    refine XS.aloadN X2.here hx rfl (hb hby d2_33) rfl rfl ?_
    show Sp p e below T2 (mkF m 34 #[.val (.ref a1), .val (.ref a2), .val (.int (0 : Int32)), .val (.int (1 : Int32)), .val .null, .unset] [(.ref a2)]) _
    refine XS.iloadN X2.here hx rfl (hb hby d2_34) rfl ?_
    show Sp p e below T2 (mkF m 35 #[.val (.ref a1), .val (.ref a2), .val (.int (0 : Int32)), .val (.int (1 : Int32)), .val .null, .unset] [(.int (0 : Int32)), (.ref a2)]) _
    refine XS.iloadN X2.here hx rfl (hb hby d2_35) rfl ?_
    show Sp p e below T2 (mkF m 36 #[.val (.ref a1), .val (.ref a2), .val (.int (0 : Int32)), .val (.int (1 : Int32)), .val .null, .unset] [(.int (1 : Int32)), (.int (0 : Int32)), (.ref a2)]) _
    refine st3 _ ?_
    show Sp p e below T3 (mkF m 39 #[.val (.ref a1), .val (.ref a2), .val (.int (0 : Int32)), .val (.int (1 : Int32)), .val .null, .unset] [(.ref b3_0)]) _
    refine XS.astore X3.here hx rfl (hb hby d2_39) rfl rfl (l' := #[.val (.ref a1), .val (.ref a2), .val (.int (0 : Int32)), .val (.int (1 : Int32)), .val .null, .val (.ref b3_0)]) rfl ?_
    show Sp p e below T3 (mkF m 41 #[.val (.ref a1), .val (.ref a2), .val (.int (0 : Int32)), .val (.int (1 : Int32)), .val .null, .val (.ref b3_0)] []) _
    refine XS.aloadN X3.here hx rfl (hb hby d2_41) rfl rfl ?_
    show Sp p e below T3 (mkF m 42 #[.val (.ref a1), .val (.ref a2), .val (.int (0 : Int32)), .val (.int (1 : Int32)), .val .null, .val (.ref b3_0)] [(.ref a1)]) _
    refine XS.aload X3.here hx rfl (hb hby d2_42) rfl rfl ?_
    show Sp p e below T3 (mkF m 44 #[.val (.ref a1), .val (.ref a2), .val (.int (0 : Int32)), .val (.int (1 : Int32)), .val .null, .val (.ref b3_0)] [(.ref b3_0), (.ref a1)]) _
    refine XS.iloadN X3.here hx rfl (hb hby d2_44) rfl ?_
    show Sp p e below T3 (mkF m 45 #[.val (.ref a1), .val (.ref a2), .val (.int (0 : Int32)), .val (.int (1 : Int32)), .val .null, .val (.ref b3_0)] [(.int (1 : Int32)), (.ref b3_0), (.ref a1)]) _
    refine st4 _ ?_
    show Sp p e below T4 (mkF m 48 #[.val (.ref a1), .val (.ref a2), .val (.int (0 : Int32)), .val (.int (1 : Int32)), .val .null, .val (.ref b3_0)] [(.int (0 : Int32)), (.ref a1)]) _
    refine st5 _ ?_
    show Sp p e below T5 (mkF m 51 #[.val (.ref a1), .val (.ref a2), .val (.int (0 : Int32)), .val (.int (1 : Int32)), .val .null, .val (.ref b3_0)] []) _
    refine XS.aloadN X5.here hx rfl (hb hby d2_51) rfl rfl ?_
    show Sp p e below T5 (mkF m 52 #[.val (.ref a1), .val (.ref a2), .val (.int (0 : Int32)), .val (.int (1 : Int32)), .val .null, .val (.ref b3_0)] [(.ref a1)]) _
    refine XS.aload X5.here hx rfl (hb hby d2_52) rfl rfl ?_
    show Sp p e below T5 (mkF m 54 #[.val (.ref a1), .val (.ref a2), .val (.int (0 : Int32)), .val (.int (1 : Int32)), .val .null, .val (.ref b3_0)] [(.ref b3_0), (.ref a1)]) _
    refine st6 _ ?_
    show Sp p e below T6 (mkF m 57 #[.val (.ref a1), .val (.ref a2), .val (.int (0 : Int32)), .val (.int (1 : Int32)), .val .null, .val (.ref b3_0)] []) _
    exact X6.returnOut hx Bd.returns (hb hby d2_57) hr
  · show Q4 Z w_lcache cs_v cl_lcache a1 a2 k_a2 p4 h0 n0 _ T6.heap _
    rw [e6]
    exact ⟨b3_0, kc3_0, rfl, N6, K6, sz_b3_0, (((E_a1.keep Kq3).wr W5).wr W6), (Fw5.other W6 (Or.inr (sn1 hw))), Fw6, ((fq3_0.wr W5).wr W6), f_7⟩
theorem pd_3 : parseMethodDescriptor "([CIILjava/lang/Void;)V" = some ⟨[(.array .char), .int, .int, (.object "java/lang/Void")], none⟩ := by decide +kernel
theorem d1_9 : decode jdk_42_method_3_code 9 = .ok (.return_, 1) := by decide +kernel
abbrev y4 : MethodName := (⟨"java/lang/String", "<init>", "([C)V"⟩ : MethodName)
theorem ef_1_0 (m : MethodId) (x0 : Addr) (x1 : Addr) : entryFrame m #[(.ref x0), (.ref x1)] 2 = mkF m 0 #[.val (.ref x0), .val (.ref x1)] [] := by first | (simp [entryFrame, mkF, argsToLocals, Value.category]; done) | rfl
def Q5 (Z : State) (w_lcache : Addr) (cs_v : Int32) (cl_lcache : Cell) (a1 : Addr) (a2 : Addr) (k_a2 : ClassId) (p4 : Int32) (h0 : Heap) (n0 : Nat) (v : Option Value) (h : Heap) (L : List Loc) : Prop := ∃ (b2_0 : Addr), ∃ (kc2_0 : ClassId), v = none ∧ Fr n0 L ∧ Keep h0 h [a1] ∧ h0.size ≤ b2_0 ∧ Exa Z h a1 "java/lang/String" ∧ Fld Z h a1 "java/lang/String" "coder" "B" (.int (0 : Int32)) ∧ Fld Z h a1 "java/lang/String" "value" "[B" (.ref b2_0) ∧ Exa Z h b2_0 "[B" ∧ Arv Z h b2_0 kc2_0 .byte (1 : Int32) [(.int (nar .byte (p4.toInt8.toInt32)))] (.int (0 : Int32))
set_option maxRecDepth 65536 in
set_option maxHeartbeats 40000000 in
theorem rm5 (l : Launch) (Z : State) (a0 : Array Value) (hw : ∀ d ∈ tables_1, d.before a0 Z = true) (ws : List Jvm.Cond) (w_lcache : Addr) (cs_v : Int32) (cl_lcache : Cell) (hp : Perm Z w_lcache cs_v cl_lcache) (a1 : Addr) (a2 : Addr) (k_a2 : ClassId) (p4 : Int32) (h0 : Heap) (n0 : Nat) (O0 : Old Z n0 h0) (V_a2 : Arv Z h0 a2 k_a2 .char (1 : Int32) [(.int p4)] (.int (0 : Int32))) (hc2 : ¬ ((255 : Int32) < p4)) (E_a1 : Exa Z h0 a1 "java/lang/String") (F_coder_a1 : Fld Z h0 a1 "java/lang/String" "coder" "B" (.int (0 : Int32))) (F_value_a1 : Fld Z h0 a1 "java/lang/String" "value" "[B" .null) (g_a1 : n0 ≤ a1) :
    MetFree l y4 (head1 (Jvm.Cond.code y4 jdk_42_method_3_code 2 none :: ws) ({ frames := 3, cells := 1, slots := 1, locals := 52 } : Room)) (fun a U => a = #[(.ref a1), (.ref a2)] ∧ Z.Warmed39 U.vm ∧ U.heap = h0) (fun _ _ _ _ _ => True) (fun _ U o U' => ∃ v L, o = .returned v ∧ Q5 Z w_lcache cs_v cl_lcache a1 a2 k_a2 p4 h0 n0 v U'.heap L ∧ FrameEnd U o U' L ({ frames := 3, cells := 1, slots := 1, locals := 52 } : Room).cells ({ frames := 3, cells := 1, slots := 1, locals := 52 } : Room).slots) := by
  refine MetFree.of_bodySF (plainFor_of_name pn_2) hisR ?_
  intro p e s m args below meth c s₁ Bd hml0 hP hK
  obtain ⟨rfl, hZ, hh⟩ := hP
  have hx := Bd.exec
  have hby := Bd.bytes
  have hml : c.maxLocals = 2 := hml0
  have hown : s.vm.findClass "java/lang/String" = some m.cls := findClass_of_methodNamed Bd.named
  have hnm := (name_of_methodNamed Bd.named Bd.method).1
  have X0 : Stand p l e ({ frames := 3, cells := 1, slots := 1, locals := 52 } : Room) s m #[(.ref a1), (.ref a2)] below meth c s₁ [] 0 0 := Stand.of_body Bd
  have e0 : s₁.heap = h0 := by rw [← hh, Bd.state]; rfl
  have N0 := Fr.nil n0
  have hp' := hp
  obtain ⟨S_COMPACT_STRINGS, h_cs, S_w_lcache, B_lcache⟩ := hp'
  have pre0 : ∀ t, Steps p.tables e below (s₁.setTop (mkF m 0 #[.val (.ref a1), .val (.ref a2)] [])) t → Steps p.tables e below (s₁.setTop (entryFrame m #[(.ref a1), (.ref a2)] 2)) t := fun t k => castTop (ef_1_0 m a1 a2) k
  obtain ⟨cl1, Ar1, -, S1, Nn1, -, -⟩ := id V_a2
  obtain ⟨_, _, ⟨T2, L2, k2, n2⟩, -, X2, ⟨Lc2, hQ2, l2, y2, z2⟩, st2⟩ := X0.specialBack hx (y := y3) rfl hown (mvT hZ (hw _ (List.mem_of_getElem? (i := 10) rfl))) (mvT hZ (hw _ (List.mem_of_getElem? (i := 11) rfl))) (mvT hZ (hw _ (List.mem_of_getElem? (i := 13) rfl))) (by decide) (backOf (W := 0) (rm4 l Z a0 hw [] w_lcache cs_v cl_lcache hp a1 a2 k_a2 p4 h0 n0 O0 V_a2 hc2 E_a1 F_coder_a1 F_value_a1 g_a1) hZ (hw _ (List.mem_of_getElem? (i := 13) rfl)) (hw _ (List.mem_of_getElem? (i := 6) rfl)) (by decide) (by decide)) (g := (mkF m 6 #[.val (.ref a1), .val (.ref a2)] [.null, (.int (1 : Int32)), (.int (0 : Int32)), (.ref a2), (.ref a1)])) rfl (by rw [hml]; rfl) (Steps.refl _) (a := a1) (argsL := [(.ref a2), (.int (0 : Int32)), (.int (1 : Int32)), .null]) (rest := []) (lenOf pd_3 rfl) rfl (by show 2 * 0 + _ ≤ _; exact Nat.le_of_eq rfl) (hb hby d1_6) (fun _ _ => ⟨rfl, e0, (by decide : 0 + 1 ≤ _), (by decide : 0 + 1 ≤ _)⟩)
  dsimp only [Pt.U, Pt.locs, Pt.cells, Pt.slots] at X2 l2 y2 z2 st2 hQ2
  subst l2 y2 z2
  obtain ⟨b2_0, kc2_0, rfl, Nq2, Kq2, sq_b2_0, fq2_0, fq2_1, fq2_2, fq2_3, fq2_4⟩ := hQ2
  have N2 := Fr.app N0 Nq2
  have g_b2_0 : n0 ≤ b2_0 := Nat.le_trans (own_sz O0) sq_b2_0
  have sz_b2_0 : h0.size ≤ b2_0 := Nat.le_trans (Keep.refl h0 [a1]).1 sq_b2_0
  have O2 := O0.keep Kq2 (allS g_a1 all0)
  have K2 : Keep h0 T2.heap [a1] := (Keep.refl h0 [a1]).trans Kq2 (allS (Or.inl (List.mem_of_getElem? (i := 0) rfl)) all0)
  obtain ⟨fs, hr, hrun, hended, hW, hsame⟩ := X2.leave (v := none) (fun _ => rfl)
  refine ⟨_, _, pre0 _ ?_, hrun, hended, _, _, rfl, ?_, ⟨_, rfl⟩, hW, hsame.mono (by decide) (by decide)⟩
  · show Sp p e below s₁ (mkF m 0 #[.val (.ref a1), .val (.ref a2)] []) _
    refine XS.aloadN X0.here hx rfl (hb hby d1_0) rfl rfl ?_
    show Sp p e below s₁ (mkF m 1 #[.val (.ref a1), .val (.ref a2)] [(.ref a1)]) _
    refine XS.aloadN X0.here hx rfl (hb hby d1_1) rfl rfl ?_
    show Sp p e below s₁ (mkF m 2 #[.val (.ref a1), .val (.ref a2)] [(.ref a2), (.ref a1)]) _
    refine XS.iconst X0.here hx rfl (hb hby d1_2) ?_
    show Sp p e below s₁ (mkF m 3 #[.val (.ref a1), .val (.ref a2)] [(.int (0 : Int32)), (.ref a2), (.ref a1)]) _
    refine XS.aloadN X0.here hx rfl (hb hby d1_3) rfl rfl ?_
    show Sp p e below s₁ (mkF m 4 #[.val (.ref a1), .val (.ref a2)] [(.ref a2), (.int (0 : Int32)), (.ref a2), (.ref a1)]) _
    refine X0.arraylength hx (by rw [e0]; exact Ar1.1) (State.isArrayOf_alike hZ.alike Ar1.2.1) (g := (mkF m 4 #[.val (.ref a1), .val (.ref a2)] [(.ref a2), (.int (0 : Int32)), (.ref a2), (.ref a1)])) rfl rfl (hb hby d1_4) _ ?_
    rw [len_of S1 Nn1]
    show Sp p e below s₁ (mkF m 5 #[.val (.ref a1), .val (.ref a2)] [(.int (1 : Int32)), (.int (0 : Int32)), (.ref a2), (.ref a1)]) _
    refine XS.aconstNull X0.here hx rfl (hb hby d1_5) ?_
    show Sp p e below s₁ (mkF m 6 #[.val (.ref a1), .val (.ref a2)] [.null, (.int (1 : Int32)), (.int (0 : Int32)), (.ref a2), (.ref a1)]) _
    refine st2.trans ?_
    show Sp p e below T2 (mkF m 9 #[.val (.ref a1), .val (.ref a2)] []) _
    exact X2.returnOut hx Bd.returns (hb hby d1_9) hr
  · show Q5 Z w_lcache cs_v cl_lcache a1 a2 k_a2 p4 h0 n0 _ T2.heap _
    exact ⟨b2_0, kc2_0, rfl, N2, K2, sz_b2_0, fq2_0, fq2_1, fq2_2, fq2_3, fq2_4⟩
theorem pd_4 : parseMethodDescriptor "([C)V" = some ⟨[(.array .char)], none⟩ := by decide +kernel
theorem d7_0 : decode prog_12_method_1_code 0 = .ok (.aload_n 0, 1) := by decide +kernel
theorem d7_1 : decode prog_12_method_1_code 1 = .ok (.invokespecial 1, 3) := by decide +kernel
theorem d8_0 : decode jdk_30_method_1_code 0 = .ok (.aload_n 0, 1) := by decide +kernel
theorem d8_1 : decode jdk_30_method_1_code 1 = .ok (.invokespecial 1, 3) := by decide +kernel
theorem d8_4 : decode jdk_30_method_1_code 4 = .ok (.return_, 1) := by decide +kernel
abbrev y5 : MethodName := (⟨"java/lang/Record", "<init>", "()V"⟩ : MethodName)
theorem ef_8_0 (m : MethodId) (x0 : Addr) : entryFrame m #[(.ref x0)] 1 = mkF m 0 #[.val (.ref x0)] [] := by first | (simp [entryFrame, mkF, argsToLocals, Value.category]; done) | rfl
theorem pn_8 : plainName "java/lang/Record" = true := by first | (simp [plainName, overriddenIn]; done) | decide +kernel
def Q6 (Z : State) (w_lcache : Addr) (cs_v : Int32) (cl_lcache : Cell) (a1 : Addr) (h0 : Heap) (n0 : Nat) (v : Option Value) (h : Heap) (L : List Loc) : Prop := v = none ∧ Fr n0 L ∧ h = h0
set_option maxRecDepth 65536 in
set_option maxHeartbeats 40000000 in
theorem rm6 (l : Launch) (Z : State) (a0 : Array Value) (hw : ∀ d ∈ tables_1, d.before a0 Z = true) (ws : List Jvm.Cond) (w_lcache : Addr) (cs_v : Int32) (cl_lcache : Cell) (hp : Perm Z w_lcache cs_v cl_lcache) (a1 : Addr) (h0 : Heap) (n0 : Nat) (O0 : Old Z n0 h0) :
    MetFree l y5 (head1 (Jvm.Cond.code y5 jdk_30_method_1_code 1 none :: ws) ({ frames := 1, cells := 0, slots := 0, locals := 12 } : Room)) (fun a U => a = #[(.ref a1)] ∧ Z.Warmed39 U.vm ∧ U.heap = h0) (fun _ _ _ _ _ => True) (fun _ U o U' => ∃ v L, o = .returned v ∧ Q6 Z w_lcache cs_v cl_lcache a1 h0 n0 v U'.heap L ∧ FrameEnd U o U' L ({ frames := 1, cells := 0, slots := 0, locals := 12 } : Room).cells ({ frames := 1, cells := 0, slots := 0, locals := 12 } : Room).slots) := by
  refine MetFree.of_bodySF (plainFor_of_name pn_8) hisR ?_
  intro p e s m args below meth c s₁ Bd hml0 hP hK
  obtain ⟨rfl, hZ, hh⟩ := hP
  have hx := Bd.exec
  have hby := Bd.bytes
  have hml : c.maxLocals = 1 := hml0
  have hown : s.vm.findClass "java/lang/Record" = some m.cls := findClass_of_methodNamed Bd.named
  have hnm := (name_of_methodNamed Bd.named Bd.method).1
  have X0 : Stand p l e ({ frames := 1, cells := 0, slots := 0, locals := 12 } : Room) s m #[(.ref a1)] below meth c s₁ [] 0 0 := Stand.of_body Bd
  have e0 : s₁.heap = h0 := by rw [← hh, Bd.state]; rfl
  have N0 := Fr.nil n0
  have hp' := hp
  obtain ⟨S_COMPACT_STRINGS, h_cs, S_w_lcache, B_lcache⟩ := hp'
  have pre0 : ∀ t, Steps p.tables e below (s₁.setTop (mkF m 0 #[.val (.ref a1)] [])) t → Steps p.tables e below (s₁.setTop (entryFrame m #[(.ref a1)] 1)) t := fun t k => castTop (ef_8_0 m a1) k
  obtain ⟨T1, X1, e1, st1⟩ := initO X0 hx hZ hown (hw _ (List.mem_of_getElem? (i := 41) rfl)) (hw _ (List.mem_of_getElem? (i := 15) rfl)) (hw _ (List.mem_of_getElem? (i := 16) rfl)) e0 (g := (mkF m 1 #[.val (.ref a1)] [(.ref a1)])) rfl (by rw [hml]; rfl) rfl (hb hby d8_1) (by decide) (W := 0) (by show 2 * 0 + _ ≤ _; exact Nat.le_of_eq rfl) (by decide)
  obtain ⟨fs, hr, hrun, hended, hW, hsame⟩ := X1.leave (v := none) (fun _ => rfl)
  refine ⟨_, _, pre0 _ ?_, hrun, hended, _, _, rfl, ?_, ⟨_, rfl⟩, hW, hsame.mono (by decide) (by decide)⟩
  · show Sp p e below s₁ (mkF m 0 #[.val (.ref a1)] []) _
    refine XS.aloadN X0.here hx rfl (hb hby d8_0) rfl rfl ?_
    show Sp p e below s₁ (mkF m 1 #[.val (.ref a1)] [(.ref a1)]) _
    refine st1 _ ?_
    show Sp p e below T1 (mkF m 4 #[.val (.ref a1)] []) _
    exact X1.returnOut hx Bd.returns (hb hby d8_4) hr
  · show Q6 Z w_lcache cs_v cl_lcache a1 h0 n0 _ T1.heap _
    rw [e1]
    exact ⟨rfl, N0, rfl⟩
theorem pd_5 : parseMethodDescriptor "()V" = some ⟨[], none⟩ := by decide +kernel
theorem d7_4 : decode prog_12_method_1_code 4 = .ok (.aload_n 1, 1) := by decide +kernel
theorem d7_5 : decode prog_12_method_1_code 5 = .ok (.ldc 7, 2) := by decide +kernel
theorem d7_7 : decode prog_12_method_1_code 7 = .ok (.invokestatic 9, 3) := by decide +kernel
theorem d9_0 : decode jdk_31_method_11_code 0 = .ok (.aload_n 0, 1) := by decide +kernel
theorem d9_1 : decode jdk_31_method_11_code 1 = .ok (.ifnonnull 12, 3) := by decide +kernel
theorem d9_13 : decode jdk_31_method_11_code 13 = .ok (.aload_n 0, 1) := by decide +kernel
theorem d9_14 : decode jdk_31_method_11_code 14 = .ok (.areturn, 1) := by decide +kernel
abbrev y6 : MethodName := (⟨"java/util/Objects", "requireNonNull", "(Ljava/lang/Object;Ljava/lang/String;)Ljava/lang/Object;"⟩ : MethodName)
theorem ef_9_0 (m : MethodId) (x0 : Addr) (x1 : Addr) : entryFrame m #[(.ref x0), (.ref x1)] 2 = mkF m 0 #[.val (.ref x0), .val (.ref x1)] [] := by first | (simp [entryFrame, mkF, argsToLocals, Value.category]; done) | rfl
theorem pn_9 : plainName "java/util/Objects" = true := by first | (simp [plainName, overriddenIn]; done) | decide +kernel
def Q7 (Z : State) (w_lcache : Addr) (cs_v : Int32) (cl_lcache : Cell) (a1 : Addr) (a2 : Addr) (h0 : Heap) (n0 : Nat) (v : Option Value) (h : Heap) (L : List Loc) : Prop := v = some (.ref a1) ∧ Fr n0 L ∧ h = h0
set_option maxRecDepth 65536 in
set_option maxHeartbeats 40000000 in
theorem rm7 (l : Launch) (Z : State) (a0 : Array Value) (hw : ∀ d ∈ tables_1, d.before a0 Z = true) (ws : List Jvm.Cond) (w_lcache : Addr) (cs_v : Int32) (cl_lcache : Cell) (hp : Perm Z w_lcache cs_v cl_lcache) (a1 : Addr) (a2 : Addr) (h0 : Heap) (n0 : Nat) (O0 : Old Z n0 h0) :
    MetFree l y6 (head1 (Jvm.Cond.code y6 jdk_31_method_11_code 2 (some (.object "java/lang/Object")) :: ws) ({ frames := 0, cells := 0, slots := 0, locals := 0 } : Room)) (fun a U => a = #[(.ref a1), (.ref a2)] ∧ Z.Warmed39 U.vm ∧ U.heap = h0) (fun _ _ _ _ _ => True) (fun _ U o U' => ∃ v L, o = .returned v ∧ Q7 Z w_lcache cs_v cl_lcache a1 a2 h0 n0 v U'.heap L ∧ FrameEnd U o U' L ({ frames := 0, cells := 0, slots := 0, locals := 0 } : Room).cells ({ frames := 0, cells := 0, slots := 0, locals := 0 } : Room).slots) := by
  refine MetFree.of_bodySF (plainFor_of_name pn_9) hisR ?_
  intro p e s m args below meth c s₁ Bd hml0 hP hK
  obtain ⟨rfl, hZ, hh⟩ := hP
  have hx := Bd.exec
  have hby := Bd.bytes
  have hml : c.maxLocals = 2 := hml0
  have hown : s.vm.findClass "java/util/Objects" = some m.cls := findClass_of_methodNamed Bd.named
  have hnm := (name_of_methodNamed Bd.named Bd.method).1
  have X0 : Stand p l e ({ frames := 0, cells := 0, slots := 0, locals := 0 } : Room) s m #[(.ref a1), (.ref a2)] below meth c s₁ [] 0 0 := Stand.of_body Bd
  have e0 : s₁.heap = h0 := by rw [← hh, Bd.state]; rfl
  have N0 := Fr.nil n0
  have hp' := hp
  obtain ⟨S_COMPACT_STRINGS, h_cs, S_w_lcache, B_lcache⟩ := hp'
  have pre0 : ∀ t, Steps p.tables e below (s₁.setTop (mkF m 0 #[.val (.ref a1), .val (.ref a2)] [])) t → Steps p.tables e below (s₁.setTop (entryFrame m #[(.ref a1), (.ref a2)] 2)) t := fun t k => castTop (ef_9_0 m a1 a2) k
  obtain ⟨fs, hr, hrun, hended, hW, hsame⟩ := X0.leave (v := some (.ref a1)) (fun h => by rw [Bd.returns] at h; cases h)
  refine ⟨_, _, pre0 _ ?_, hrun, hended, _, _, rfl, ?_, ⟨_, rfl⟩, hW, hsame.mono (by decide) (by decide)⟩
  · show Sp p e below s₁ (mkF m 0 #[.val (.ref a1), .val (.ref a2)] []) _
    refine XS.aloadN X0.here hx rfl (hb hby d9_0) rfl rfl ?_
    show Sp p e below s₁ (mkF m 1 #[.val (.ref a1), .val (.ref a2)] [(.ref a1)]) _
    refine XS.ifnonnullYes X0.here hx rfl (pc0 := 1) (pc' := 13) rfl (hb hby d9_1) rfl (by decide) (by decide) ?_
    show Sp p e below s₁ (mkF m 13 #[.val (.ref a1), .val (.ref a2)] []) _
    refine XS.aloadN X0.here hx rfl (hb hby d9_13) rfl rfl ?_
    show Sp p e below s₁ (mkF m 14 #[.val (.ref a1), .val (.ref a2)] [(.ref a1)]) _
    jvm_step X0.here [X0.here.top, hx, (hb hby d9_14), X0.method', Bd.returns, Value.isRef, FieldType.isReference]
    first | (intro acts; rw [hr _ acts rfl rfl rfl]) | rw [hr _ _ rfl rfl rfl]
    exact Steps.refl _
  · show Q7 Z w_lcache cs_v cl_lcache a1 a2 h0 n0 _ s₁.heap _
    rw [e0]
    exact ⟨rfl, N0, rfl⟩
theorem pd_6 : parseMethodDescriptor "(Ljava/lang/Object;Ljava/lang/String;)Ljava/lang/Object;" = some ⟨[(.object "java/lang/Object"), (.object "java/lang/String")], some (.object "java/lang/Object")⟩ := by decide +kernel
theorem d7_10 : decode prog_12_method_1_code 10 = .ok (.pop, 1) := by decide +kernel
theorem d7_11 : decode prog_12_method_1_code 11 = .ok (.aload_n 0, 1) := by decide +kernel
theorem d7_12 : decode prog_12_method_1_code 12 = .ok (.aload_n 1, 1) := by decide +kernel
theorem d7_13 : decode prog_12_method_1_code 13 = .ok (.putfield 15, 3) := by decide +kernel
theorem d7_16 : decode prog_12_method_1_code 16 = .ok (.aload_n 0, 1) := by decide +kernel
theorem d7_17 : decode prog_12_method_1_code 17 = .ok (.aload_n 2, 1) := by decide +kernel
theorem d7_18 : decode prog_12_method_1_code 18 = .ok (.putfield 20, 3) := by decide +kernel
theorem sn2 {Z : State} {a0 : Array Value} (hw : ∀ d ∈ tables_1, d.before a0 Z = true) : Jvm.RoadKit.slotOf Z "com/example/latchwork/latchwork/Operation" "argument" "Ljava/lang/Object;" ≠ Jvm.RoadKit.slotOf Z "com/example/latchwork/latchwork/Operation" "function" "Ljava/lang/String;" := slot_ne (Or.inr (hw _ (List.mem_of_getElem? (i := 52) rfl))) (Or.inr (hw _ (List.mem_of_getElem? (i := 50) rfl))) (by decide) (t := (.object "java/lang/Object")) (t' := (.object "java/lang/String")) (by decide) (by decide)
theorem d7_21 : decode prog_12_method_1_code 21 = .ok (.return_, 1) := by decide +kernel
theorem sn3 {Z : State} {a0 : Array Value} (hw : ∀ d ∈ tables_1, d.before a0 Z = true) : Jvm.RoadKit.slotOf Z "com/example/latchwork/latchwork/Operation" "function" "Ljava/lang/String;" ≠ Jvm.RoadKit.slotOf Z "com/example/latchwork/latchwork/Operation" "argument" "Ljava/lang/Object;" := slot_ne (Or.inr (hw _ (List.mem_of_getElem? (i := 50) rfl))) (Or.inr (hw _ (List.mem_of_getElem? (i := 52) rfl))) (by decide) (t := (.object "java/lang/String")) (t' := (.object "java/lang/Object")) (by decide) (by decide)
abbrev y7 : MethodName := (⟨"com/example/latchwork/latchwork/Operation", "<init>", "(Ljava/lang/String;Ljava/lang/Object;)V"⟩ : MethodName)
theorem ef_7_0 (m : MethodId) (x0 : Addr) (x1 : Addr) : entryFrame m #[(.ref x0), (.ref x1), .null] 3 = mkF m 0 #[.val (.ref x0), .val (.ref x1), .val .null] [] := by first | (simp [entryFrame, mkF, argsToLocals, Value.category]; done) | rfl
theorem pn_7 : plainName "com/example/latchwork/latchwork/Operation" = true := by first | (simp [plainName, overriddenIn]; done) | decide +kernel
def Q8 (Z : State) (w_lcache : Addr) (cs_v : Int32) (cl_lcache : Cell) (a1 : Addr) (a2 : Addr) (h0 : Heap) (n0 : Nat) (v : Option Value) (h : Heap) (L : List Loc) : Prop := v = none ∧ Fr n0 L ∧ Keep h0 h [a1] ∧ Exa Z h a1 "com/example/latchwork/latchwork/Operation" ∧ Fld Z h a1 "com/example/latchwork/latchwork/Operation" "argument" "Ljava/lang/Object;" .null ∧ Fld Z h a1 "com/example/latchwork/latchwork/Operation" "function" "Ljava/lang/String;" (.ref a2)
set_option maxRecDepth 65536 in
set_option maxHeartbeats 40000000 in
theorem rm8 (l : Launch) (Z : State) (a0 : Array Value) (hw : ∀ d ∈ tables_1, d.before a0 Z = true) (ws : List Jvm.Cond) (w_lcache : Addr) (cs_v : Int32) (cl_lcache : Cell) (hp : Perm Z w_lcache cs_v cl_lcache) (a1 : Addr) (a2 : Addr) (h0 : Heap) (n0 : Nat) (O0 : Old Z n0 h0) (E_a1 : Exa Z h0 a1 "com/example/latchwork/latchwork/Operation") (F_function_a1 : Fld Z h0 a1 "com/example/latchwork/latchwork/Operation" "function" "Ljava/lang/String;" .null) (F_argument_a1 : Fld Z h0 a1 "com/example/latchwork/latchwork/Operation" "argument" "Ljava/lang/Object;" .null) (g_a1 : n0 ≤ a1) :
    MetFree l y7 (head1 (Jvm.Cond.code y7 prog_12_method_1_code 3 none :: ws) ({ frames := 2, cells := 2, slots := 36, locals := 24 } : Room)) (fun a U => a = #[(.ref a1), (.ref a2), .null] ∧ Z.Warmed39 U.vm ∧ U.heap = h0 ∧ CHv Z own_EL U.vm h0 ∧ ∀ x ∈ ([] : List Addr), Safe Z own_EL U.vm h0 x) (fun _ _ _ _ _ => True) (fun _ U o U' => ∃ v L, o = .returned v ∧ Q8 Z w_lcache cs_v cl_lcache a1 a2 h0 n0 v U'.heap L ∧ CHr Z own_EL U.vm U.heap U'.vm U'.heap ∧ ReturnedEndW U o U' L ({ frames := 2, cells := 2, slots := 36, locals := 24 } : Room).cells ({ frames := 2, cells := 2, slots := 36, locals := 24 } : Room).slots) := by
  refine MetFree.of_bodySF (plainFor_of_name pn_7) hisR ?_
  intro p e s m args below meth c s₁ Bd hml0 hP hK
  obtain ⟨rfl, hZo, hh, hCH, hSL⟩ := hP
  have hx := Bd.exec
  have hby := Bd.bytes
  have hml : c.maxLocals = 3 := hml0
  have hown : (s.setVm s.vm).vm.findClass "com/example/latchwork/latchwork/Operation" = some m.cls := findClass_of_methodNamed Bd.named
  have hnm := (name_of_methodNamed Bd.named Bd.method).1
  have X0 : Stand p l e ({ frames := 2, cells := 2, slots := 36, locals := 24 } : Room) (s.setVm s.vm) m #[(.ref a1), (.ref a2), .null] below meth c s₁ [] 0 0 := Stand.of_body Bd
  have e0 : s₁.heap = h0 := by rw [← hh, Bd.state]; rfl
  have N0 := Fr.nil n0
  have hZ : Z.Warmed39 (s.setVm s.vm).vm := hZo
  have CH0 := CHr.refl hCH
  have hS0 : s.Since s.vm 0 := (State.WarmedH.refl s).since 0
  have hk0 : 0 ≤ h0.size := Nat.zero_le _
  have hp' := hp
  obtain ⟨S_COMPACT_STRINGS, h_cs, S_w_lcache, B_lcache⟩ := hp'
  have pre0 : ∀ t, Steps p.tables e below (s₁.setTop (mkF m 0 #[.val (.ref a1), .val (.ref a2), .val .null] [])) t → Steps p.tables e below (s₁.setTop (entryFrame m #[(.ref a1), (.ref a2), .null] 3)) t := fun t k => castTop (ef_7_0 m a1 a2) k
  obtain ⟨_, _, ⟨T1, L1, k1, n1⟩, -, X1, ⟨Lc1, hQ1, l1, y1, z1⟩, st1⟩ := X0.specialBack hx (y := y5) rfl hown (mvT hZ (hw _ (List.mem_of_getElem? (i := 36) rfl))) (mvT hZ (hw _ (List.mem_of_getElem? (i := 37) rfl))) (mvT hZ (hw _ (List.mem_of_getElem? (i := 40) rfl))) (by decide) (backOf (W := 0) (rm6 l Z a0 hw [] w_lcache cs_v cl_lcache hp a1 h0 n0 O0) hZ (hw _ (List.mem_of_getElem? (i := 40) rfl)) (hw _ (List.mem_of_getElem? (i := 39) rfl)) (by decide) (by decide)) (g := (mkF m 1 #[.val (.ref a1), .val (.ref a2), .val .null] [(.ref a1)])) rfl (by rw [hml]; rfl) (Steps.refl _) (a := a1) (argsL := []) (rest := []) (lenOf pd_5 rfl) rfl (by show 2 * 0 + _ ≤ _; exact Nat.le_of_eq rfl) (hb hby d7_1) (fun _ _ => ⟨rfl, e0, (by decide : 0 + 0 ≤ _), (by decide : 0 + 0 ≤ _)⟩)
  dsimp only [Pt.U, Pt.locs, Pt.cells, Pt.slots] at X1 l1 y1 z1 st1 hQ1
  subst l1 y1 z1
  obtain ⟨rfl, Nq1, eq1⟩ := hQ1
  have N1 := Fr.app N0 Nq1
  obtain ⟨li2, T2, h2, k2, X2, e2, E2, hS2, hk2, hZ2, hown2, C2, L2, st2⟩ := ldcOH (EL := own_EL) X1 hx hZ hown (hw _ (List.mem_of_getElem? (i := 42) rfl)) (own_wS hw) eq1 hS0 hk0 (own_EW hw) CH0.1 (g := (mkF m 5 #[.val (.ref a1), .val (.ref a2), .val .null] [(.ref a2)])) rfl (hb hby d7_5) (n := 32) (by decide) (by decide) (by decide) (by decide)
  have CH2 := CH0.trans C2
  have O2 := O0.ext E2
  have K2 : Keep h0 h2 [a1] := (Keep.refl h0 [a1]).ext E2
  obtain ⟨_, _, ⟨T3, L3, k3, n3⟩, -, X3, ⟨Lc3, hQ3, l3, y3, z3⟩, st3⟩ := Jvm.LawKit.callS X2 hx (y := y6) hown2 (mvT hZ2 (hw _ (List.mem_of_getElem? (i := 45) rfl))) (mvT hZ2 (hw _ (List.mem_of_getElem? (i := 46) rfl))) (mvT hZ2 (hw _ (List.mem_of_getElem? (i := 47) rfl))) (mvT hZ2 (hw _ (List.mem_of_getElem? (i := 48) rfl))) (by decide) (backOf (W := 0) (rm7 l Z a0 hw [] w_lcache cs_v cl_lcache hp a2 li2 h2 n0 O2) hZ2 (hw _ (List.mem_of_getElem? (i := 48) rfl)) (hw _ (List.mem_of_getElem? (i := 47) rfl)) (by decide) (by decide)) (g := (mkF m 7 #[.val (.ref a1), .val (.ref a2), .val .null] [(.ref li2), (.ref a2)])) rfl (by rw [hml]; rfl) (argsL := [(.ref a2), (.ref li2)]) (rest := []) (lenOf pd_6 rfl) rfl (by show 2 * 0 + _ ≤ _; exact Nat.le_of_eq rfl) (hb hby d7_7) (fun _ _ => ⟨rfl, e2, (by decide : 2 + 0 ≤ _), (by decide : 36 + 0 ≤ _)⟩)
  dsimp only [Pt.U, Pt.locs, Pt.cells, Pt.slots] at X3 l3 y3 z3 st3 hQ3
  subst l3 y3 z3
  obtain ⟨rfl, Nq3, eq3⟩ := hQ3
  have N3 := Fr.app N1 Nq3
  obtain ⟨T4, h4, X4, e4, W4, st4⟩ := putF X3 hx hZ2 hown2 (host := "") (Or.inl (hw _ (List.mem_of_getElem? (i := 49) rfl))) Via.refl eq3 (F_function_a1.ext E2) (E_a1.ext E2) (Or.inr ⟨(hw _ (List.mem_of_getElem? (i := 50) rfl)), rfl, hnm⟩) (hw _ (List.mem_of_getElem? (i := 2) rfl)) (ty := (.object "java/lang/String")) (by decide) rfl rfl (g := (mkF m 13 #[.val (.ref a1), .val (.ref a2), .val .null] [(.ref a2), (.ref a1)])) rfl rfl (hb hby d7_13)
  have N4 := Fr.snoc X4 N3 g_a1
  have O4 := O2.wr W4 g_a1
  have K4 : Keep h0 h4 [a1] := K2.wr W4 (Or.inl (List.mem_of_getElem? (i := 0) rfl))
  have CH4 := CH2.trans (CHr.wr W4 own_safe0 CH2.1)
  have hk4 := Nat.le_trans hk2 (Keep.of_wr W4).1
  have Fw4 := (F_function_a1.ext E2).same W4
  obtain ⟨T5, h5, X5, e5, W5, st5⟩ := putF X4 hx hZ2 hown2 (host := "") (Or.inl (hw _ (List.mem_of_getElem? (i := 51) rfl))) Via.refl e4 ((F_argument_a1.ext E2).other W4 (Or.inr (sn2 hw))) ((E_a1.ext E2).wr W4) (Or.inr ⟨(hw _ (List.mem_of_getElem? (i := 52) rfl)), rfl, hnm⟩) (hw _ (List.mem_of_getElem? (i := 2) rfl)) (ty := (.object "java/lang/Object")) (by decide) rfl rfl (g := (mkF m 18 #[.val (.ref a1), .val (.ref a2), .val .null] [.null, (.ref a1)])) rfl rfl (hb hby d7_18)
  have N5 := Fr.snoc X5 N4 g_a1
  have O5 := O4.wr W5 g_a1
  have K5 : Keep h0 h5 [a1] := K4.wr W5 (Or.inl (List.mem_of_getElem? (i := 0) rfl))
  have CH5 := CH4.trans (CHr.wr W5 own_safe0 CH4.1)
  have hk5 := Nat.le_trans hk4 (Keep.of_wr W5).1
  have Fw5 := ((F_argument_a1.ext E2).other W4 (Or.inr (sn2 hw))).same W5
  obtain ⟨fs, hr, hrun, hended, hE⟩ := Stand.leaveW (s := s) X5 hS2 (by rw [e5]; exact hk5) (v := none) (fun _ => rfl)
  have CHz : CHr Z own_EL s.vm s.heap (T5.setFrames fs).vm (T5.setFrames fs).heap := by
    rw [hh]
    show CHr Z own_EL s.vm h0 T5.vm T5.heap
    rw [e5]; exact CH5.trans (CHv.at X5 hZ2 (own_EW hw) CH5.1)
  refine ⟨_, _, pre0 _ ?_, hrun, hended, _, _, rfl, ?_, CHz, hE.1, hE.2.1, hE.2.2.1, hE.2.2.2.mono (by decide) (by decide)⟩
  · show Sp p e below s₁ (mkF m 0 #[.val (.ref a1), .val (.ref a2), .val .null] []) _
    refine XS.aloadN X0.here hx rfl (hb hby d7_0) rfl rfl ?_
    show Sp p e below s₁ (mkF m 1 #[.val (.ref a1), .val (.ref a2), .val .null] [(.ref a1)]) _
    refine st1.trans ?_
    show Sp p e below T1 (mkF m 4 #[.val (.ref a1), .val (.ref a2), .val .null] []) _
    refine XS.aloadN X1.here hx rfl (hb hby d7_4) rfl rfl ?_
    show Sp p e below T1 (mkF m 5 #[.val (.ref a1), .val (.ref a2), .val .null] [(.ref a2)]) _
    refine st2 _ ?_
    show Sp p e below T2 (mkF m 7 #[.val (.ref a1), .val (.ref a2), .val .null] [(.ref li2), (.ref a2)]) _
    refine st3 _ ?_
    show Sp p e below T3 (mkF m 10 #[.val (.ref a1), .val (.ref a2), .val .null] [(.ref a2)]) _
    refine XS.pop X3.here hx rfl (hb hby d7_10) rfl rfl ?_
    show Sp p e below T3 (mkF m 11 #[.val (.ref a1), .val (.ref a2), .val .null] []) _
    refine XS.aloadN X3.here hx rfl (hb hby d7_11) rfl rfl ?_
    show Sp p e below T3 (mkF m 12 #[.val (.ref a1), .val (.ref a2), .val .null] [(.ref a1)]) _
    refine XS.aloadN X3.here hx rfl (hb hby d7_12) rfl rfl ?_
    show Sp p e below T3 (mkF m 13 #[.val (.ref a1), .val (.ref a2), .val .null] [(.ref a2), (.ref a1)]) _
    refine st4 _ ?_
    show Sp p e below T4 (mkF m 16 #[.val (.ref a1), .val (.ref a2), .val .null] []) _
    refine XS.aloadN X4.here hx rfl (hb hby d7_16) rfl rfl ?_
    show Sp p e below T4 (mkF m 17 #[.val (.ref a1), .val (.ref a2), .val .null] [(.ref a1)]) _
    refine XS.aloadN X4.here hx rfl (hb hby d7_17) rfl rfl ?_
    show Sp p e below T4 (mkF m 18 #[.val (.ref a1), .val (.ref a2), .val .null] [.null, (.ref a1)]) _
    refine st5 _ ?_
    show Sp p e below T5 (mkF m 21 #[.val (.ref a1), .val (.ref a2), .val .null] []) _
    exact X5.returnOut hx Bd.returns (hb hby d7_21) hr
  · show Q8 Z w_lcache cs_v cl_lcache a1 a2 h0 n0 _ T5.heap _
    rw [e5]
    exact ⟨rfl, N5, K5, (((E_a1.ext E2).wr W4).wr W5), Fw5, (Fw4.other W5 (Or.inr (sn3 hw)))⟩
theorem pd_7 : parseMethodDescriptor "(Ljava/lang/String;Ljava/lang/Object;)V" = some ⟨[(.object "java/lang/String"), (.object "java/lang/Object")], none⟩ := by decide +kernel
theorem d10_0 : decode prog_15_method_2_code 0 = .ok (.aload_n 0, 1) := by decide +kernel
theorem d10_1 : decode prog_15_method_2_code 1 = .ok (.invokespecial 3, 3) := by decide +kernel
theorem d10_4 : decode prog_15_method_2_code 4 = .ok (.aload_n 0, 1) := by decide +kernel
theorem d10_5 : decode prog_15_method_2_code 5 = .ok (.aload_n 1, 1) := by decide +kernel
theorem d10_6 : decode prog_15_method_2_code 6 = .ok (.putfield 9, 3) := by decide +kernel
theorem d10_9 : decode prog_15_method_2_code 9 = .ok (.aload_n 0, 1) := by decide +kernel
theorem d10_10 : decode prog_15_method_2_code 10 = .ok (.iload_n 2, 1) := by decide +kernel
theorem d10_11 : decode prog_15_method_2_code 11 = .ok (.putfield 15, 3) := by decide +kernel
theorem sn4 {Z : State} {a0 : Array Value} (hw : ∀ d ∈ tables_1, d.before a0 Z = true) : Jvm.RoadKit.slotOf Z "com/example/latchwork/latchwork/RecordedForm$Call" "called" "I" ≠ Jvm.RoadKit.slotOf Z "com/example/latchwork/latchwork/RecordedForm$Call" "operation" "Lcom/example/latchwork/latchwork/Operation;" := slot_ne (Or.inr (hw _ (List.mem_of_getElem? (i := 63) rfl))) (Or.inr (hw _ (List.mem_of_getElem? (i := 61) rfl))) (by decide) (t := .int) (t' := (.object "com/example/latchwork/latchwork/Operation")) (by decide) (by decide)
theorem d10_14 : decode prog_15_method_2_code 14 = .ok (.aload_n 0, 1) := by decide +kernel
theorem d10_15 : decode prog_15_method_2_code 15 = .ok (.iload_n 3, 1) := by decide +kernel
theorem d10_16 : decode prog_15_method_2_code 16 = .ok (.putfield 19, 3) := by decide +kernel
theorem sn5 {Z : State} {a0 : Array Value} (hw : ∀ d ∈ tables_1, d.before a0 Z = true) : Jvm.RoadKit.slotOf Z "com/example/latchwork/latchwork/RecordedForm$Call" "answered" "I" ≠ Jvm.RoadKit.slotOf Z "com/example/latchwork/latchwork/RecordedForm$Call" "operation" "Lcom/example/latchwork/latchwork/Operation;" := slot_ne (Or.inr (hw _ (List.mem_of_getElem? (i := 65) rfl))) (Or.inr (hw _ (List.mem_of_getElem? (i := 61) rfl))) (by decide) (t := .int) (t' := (.object "com/example/latchwork/latchwork/Operation")) (by decide) (by decide)
theorem sn6 {Z : State} {a0 : Array Value} (hw : ∀ d ∈ tables_1, d.before a0 Z = true) : Jvm.RoadKit.slotOf Z "com/example/latchwork/latchwork/RecordedForm$Call" "answered" "I" ≠ Jvm.RoadKit.slotOf Z "com/example/latchwork/latchwork/RecordedForm$Call" "called" "I" := slot_ne (Or.inr (hw _ (List.mem_of_getElem? (i := 65) rfl))) (Or.inr (hw _ (List.mem_of_getElem? (i := 63) rfl))) (by decide) (t := .int) (t' := .int) (by decide) (by decide)
theorem d10_19 : decode prog_15_method_2_code 19 = .ok (.aload_n 0, 1) := by decide +kernel
theorem d10_20 : decode prog_15_method_2_code 20 = .ok (.aload 4, 2) := by decide +kernel
theorem d10_22 : decode prog_15_method_2_code 22 = .ok (.putfield 22, 3) := by decide +kernel
theorem sn7 {Z : State} {a0 : Array Value} (hw : ∀ d ∈ tables_1, d.before a0 Z = true) : Jvm.RoadKit.slotOf Z "com/example/latchwork/latchwork/RecordedForm$Call" "result" "Ljava/lang/Object;" ≠ Jvm.RoadKit.slotOf Z "com/example/latchwork/latchwork/RecordedForm$Call" "operation" "Lcom/example/latchwork/latchwork/Operation;" := slot_ne (Or.inr (hw _ (List.mem_of_getElem? (i := 67) rfl))) (Or.inr (hw _ (List.mem_of_getElem? (i := 61) rfl))) (by decide) (t := (.object "java/lang/Object")) (t' := (.object "com/example/latchwork/latchwork/Operation")) (by decide) (by decide)
theorem sn8 {Z : State} {a0 : Array Value} (hw : ∀ d ∈ tables_1, d.before a0 Z = true) : Jvm.RoadKit.slotOf Z "com/example/latchwork/latchwork/RecordedForm$Call" "result" "Ljava/lang/Object;" ≠ Jvm.RoadKit.slotOf Z "com/example/latchwork/latchwork/RecordedForm$Call" "called" "I" := slot_ne (Or.inr (hw _ (List.mem_of_getElem? (i := 67) rfl))) (Or.inr (hw _ (List.mem_of_getElem? (i := 63) rfl))) (by decide) (t := (.object "java/lang/Object")) (t' := .int) (by decide) (by decide)
theorem sn9 {Z : State} {a0 : Array Value} (hw : ∀ d ∈ tables_1, d.before a0 Z = true) : Jvm.RoadKit.slotOf Z "com/example/latchwork/latchwork/RecordedForm$Call" "result" "Ljava/lang/Object;" ≠ Jvm.RoadKit.slotOf Z "com/example/latchwork/latchwork/RecordedForm$Call" "answered" "I" := slot_ne (Or.inr (hw _ (List.mem_of_getElem? (i := 67) rfl))) (Or.inr (hw _ (List.mem_of_getElem? (i := 65) rfl))) (by decide) (t := (.object "java/lang/Object")) (t' := .int) (by decide) (by decide)
theorem d10_25 : decode prog_15_method_2_code 25 = .ok (.return_, 1) := by decide +kernel
theorem sn10 {Z : State} {a0 : Array Value} (hw : ∀ d ∈ tables_1, d.before a0 Z = true) : Jvm.RoadKit.slotOf Z "com/example/latchwork/latchwork/RecordedForm$Call" "answered" "I" ≠ Jvm.RoadKit.slotOf Z "com/example/latchwork/latchwork/RecordedForm$Call" "result" "Ljava/lang/Object;" := slot_ne (Or.inr (hw _ (List.mem_of_getElem? (i := 65) rfl))) (Or.inr (hw _ (List.mem_of_getElem? (i := 67) rfl))) (by decide) (t := .int) (t' := (.object "java/lang/Object")) (by decide) (by decide)
theorem sn11 {Z : State} {a0 : Array Value} (hw : ∀ d ∈ tables_1, d.before a0 Z = true) : Jvm.RoadKit.slotOf Z "com/example/latchwork/latchwork/RecordedForm$Call" "called" "I" ≠ Jvm.RoadKit.slotOf Z "com/example/latchwork/latchwork/RecordedForm$Call" "answered" "I" := slot_ne (Or.inr (hw _ (List.mem_of_getElem? (i := 63) rfl))) (Or.inr (hw _ (List.mem_of_getElem? (i := 65) rfl))) (by decide) (t := .int) (t' := .int) (by decide) (by decide)
theorem sn12 {Z : State} {a0 : Array Value} (hw : ∀ d ∈ tables_1, d.before a0 Z = true) : Jvm.RoadKit.slotOf Z "com/example/latchwork/latchwork/RecordedForm$Call" "called" "I" ≠ Jvm.RoadKit.slotOf Z "com/example/latchwork/latchwork/RecordedForm$Call" "result" "Ljava/lang/Object;" := slot_ne (Or.inr (hw _ (List.mem_of_getElem? (i := 63) rfl))) (Or.inr (hw _ (List.mem_of_getElem? (i := 67) rfl))) (by decide) (t := .int) (t' := (.object "java/lang/Object")) (by decide) (by decide)
theorem sn13 {Z : State} {a0 : Array Value} (hw : ∀ d ∈ tables_1, d.before a0 Z = true) : Jvm.RoadKit.slotOf Z "com/example/latchwork/latchwork/RecordedForm$Call" "operation" "Lcom/example/latchwork/latchwork/Operation;" ≠ Jvm.RoadKit.slotOf Z "com/example/latchwork/latchwork/RecordedForm$Call" "called" "I" := slot_ne (Or.inr (hw _ (List.mem_of_getElem? (i := 61) rfl))) (Or.inr (hw _ (List.mem_of_getElem? (i := 63) rfl))) (by decide) (t := (.object "com/example/latchwork/latchwork/Operation")) (t' := .int) (by decide) (by decide)
theorem sn14 {Z : State} {a0 : Array Value} (hw : ∀ d ∈ tables_1, d.before a0 Z = true) : Jvm.RoadKit.slotOf Z "com/example/latchwork/latchwork/RecordedForm$Call" "operation" "Lcom/example/latchwork/latchwork/Operation;" ≠ Jvm.RoadKit.slotOf Z "com/example/latchwork/latchwork/RecordedForm$Call" "answered" "I" := slot_ne (Or.inr (hw _ (List.mem_of_getElem? (i := 61) rfl))) (Or.inr (hw _ (List.mem_of_getElem? (i := 65) rfl))) (by decide) (t := (.object "com/example/latchwork/latchwork/Operation")) (t' := .int) (by decide) (by decide)
theorem sn15 {Z : State} {a0 : Array Value} (hw : ∀ d ∈ tables_1, d.before a0 Z = true) : Jvm.RoadKit.slotOf Z "com/example/latchwork/latchwork/RecordedForm$Call" "operation" "Lcom/example/latchwork/latchwork/Operation;" ≠ Jvm.RoadKit.slotOf Z "com/example/latchwork/latchwork/RecordedForm$Call" "result" "Ljava/lang/Object;" := slot_ne (Or.inr (hw _ (List.mem_of_getElem? (i := 61) rfl))) (Or.inr (hw _ (List.mem_of_getElem? (i := 67) rfl))) (by decide) (t := (.object "com/example/latchwork/latchwork/Operation")) (t' := (.object "java/lang/Object")) (by decide) (by decide)
abbrev y8 : MethodName := (⟨"com/example/latchwork/latchwork/RecordedForm$Call", "<init>", "(Lcom/example/latchwork/latchwork/Operation;IILjava/lang/Object;)V"⟩ : MethodName)
theorem ef_10_0 (m : MethodId) (x0 : Addr) (x1 : Addr) (x2 : Int32) (x3 : Int32) : entryFrame m #[(.ref x0), (.ref x1), (.int x2), (.int x3), .null] 5 = mkF m 0 #[.val (.ref x0), .val (.ref x1), .val (.int x2), .val (.int x3), .val .null] [] := by first | (simp [entryFrame, mkF, argsToLocals, Value.category]; done) | rfl
theorem pn_10 : plainName "com/example/latchwork/latchwork/RecordedForm$Call" = true := by first | (simp [plainName, overriddenIn]; done) | decide +kernel
def Q9 (Z : State) (w_lcache : Addr) (cs_v : Int32) (cl_lcache : Cell) (a1 : Addr) (a2 : Addr) (p3 : Int32) (p4 : Int32) (h0 : Heap) (n0 : Nat) (v : Option Value) (h : Heap) (L : List Loc) : Prop := v = none ∧ Fr n0 L ∧ Keep h0 h [a1] ∧ Exa Z h a1 "com/example/latchwork/latchwork/RecordedForm$Call" ∧ Fld Z h a1 "com/example/latchwork/latchwork/RecordedForm$Call" "answered" "I" (.int p4) ∧ Fld Z h a1 "com/example/latchwork/latchwork/RecordedForm$Call" "called" "I" (.int p3) ∧ Fld Z h a1 "com/example/latchwork/latchwork/RecordedForm$Call" "operation" "Lcom/example/latchwork/latchwork/Operation;" (.ref a2) ∧ Fld Z h a1 "com/example/latchwork/latchwork/RecordedForm$Call" "result" "Ljava/lang/Object;" .null
set_option maxRecDepth 65536 in
set_option maxHeartbeats 40000000 in
theorem rm9 (l : Launch) (Z : State) (a0 : Array Value) (hw : ∀ d ∈ tables_1, d.before a0 Z = true) (ws : List Jvm.Cond) (w_lcache : Addr) (cs_v : Int32) (cl_lcache : Cell) (hp : Perm Z w_lcache cs_v cl_lcache) (a1 : Addr) (a2 : Addr) (p3 : Int32) (p4 : Int32) (h0 : Heap) (n0 : Nat) (O0 : Old Z n0 h0) (E_a1 : Exa Z h0 a1 "com/example/latchwork/latchwork/RecordedForm$Call") (F_operation_a1 : Fld Z h0 a1 "com/example/latchwork/latchwork/RecordedForm$Call" "operation" "Lcom/example/latchwork/latchwork/Operation;" .null) (F_called_a1 : Fld Z h0 a1 "com/example/latchwork/latchwork/RecordedForm$Call" "called" "I" (.int (0 : Int32))) (F_answered_a1 : Fld Z h0 a1 "com/example/latchwork/latchwork/RecordedForm$Call" "answered" "I" (.int (0 : Int32))) (F_result_a1 : Fld Z h0 a1 "com/example/latchwork/latchwork/RecordedForm$Call" "result" "Ljava/lang/Object;" .null) (g_a1 : n0 ≤ a1) :
    MetFree l y8 (head1 (Jvm.Cond.code y8 prog_15_method_2_code 5 none :: ws) ({ frames := 2, cells := 0, slots := 0, locals := 24 } : Room)) (fun a U => a = #[(.ref a1), (.ref a2), (.int p3), (.int p4), .null] ∧ Z.Warmed39 U.vm ∧ U.heap = h0) (fun _ _ _ _ _ => True) (fun _ U o U' => ∃ v L, o = .returned v ∧ Q9 Z w_lcache cs_v cl_lcache a1 a2 p3 p4 h0 n0 v U'.heap L ∧ FrameEnd U o U' L ({ frames := 2, cells := 0, slots := 0, locals := 24 } : Room).cells ({ frames := 2, cells := 0, slots := 0, locals := 24 } : Room).slots) := by
  refine MetFree.of_bodySF (plainFor_of_name pn_10) hisR ?_
  intro p e s m args below meth c s₁ Bd hml0 hP hK
  obtain ⟨rfl, hZ, hh⟩ := hP
  have hx := Bd.exec
  have hby := Bd.bytes
  have hml : c.maxLocals = 5 := hml0
  have hown : s.vm.findClass "com/example/latchwork/latchwork/RecordedForm$Call" = some m.cls := findClass_of_methodNamed Bd.named
  have hnm := (name_of_methodNamed Bd.named Bd.method).1
  have X0 : Stand p l e ({ frames := 2, cells := 0, slots := 0, locals := 24 } : Room) s m #[(.ref a1), (.ref a2), (.int p3), (.int p4), .null] below meth c s₁ [] 0 0 := Stand.of_body Bd
  have e0 : s₁.heap = h0 := by rw [← hh, Bd.state]; rfl
  have N0 := Fr.nil n0
  have hp' := hp
  obtain ⟨S_COMPACT_STRINGS, h_cs, S_w_lcache, B_lcache⟩ := hp'
  have pre0 : ∀ t, Steps p.tables e below (s₁.setTop (mkF m 0 #[.val (.ref a1), .val (.ref a2), .val (.int p3), .val (.int p4), .val .null] [])) t → Steps p.tables e below (s₁.setTop (entryFrame m #[(.ref a1), (.ref a2), (.int p3), (.int p4), .null] 5)) t := fun t k => castTop (ef_10_0 m a1 a2 p3 p4) k
  obtain ⟨_, _, ⟨T1, L1, k1, n1⟩, -, X1, ⟨Lc1, hQ1, l1, y1, z1⟩, st1⟩ := X0.specialBack hx (y := y5) rfl hown (mvT hZ (hw _ (List.mem_of_getElem? (i := 59) rfl))) (mvT hZ (hw _ (List.mem_of_getElem? (i := 37) rfl))) (mvT hZ (hw _ (List.mem_of_getElem? (i := 40) rfl))) (by decide) (backOf (W := 0) (rm6 l Z a0 hw [] w_lcache cs_v cl_lcache hp a1 h0 n0 O0) hZ (hw _ (List.mem_of_getElem? (i := 40) rfl)) (hw _ (List.mem_of_getElem? (i := 39) rfl)) (by decide) (by decide)) (g := (mkF m 1 #[.val (.ref a1), .val (.ref a2), .val (.int p3), .val (.int p4), .val .null] [(.ref a1)])) rfl (by rw [hml]; rfl) (Steps.refl _) (a := a1) (argsL := []) (rest := []) (lenOf pd_5 rfl) rfl (by show 2 * 0 + _ ≤ _; exact Nat.le_of_eq rfl) (hb hby d10_1) (fun _ _ => ⟨rfl, e0, (by decide : 0 + 0 ≤ _), (by decide : 0 + 0 ≤ _)⟩)
  dsimp only [Pt.U, Pt.locs, Pt.cells, Pt.slots] at X1 l1 y1 z1 st1 hQ1
  subst l1 y1 z1
  obtain ⟨rfl, Nq1, eq1⟩ := hQ1
  have N1 := Fr.app N0 Nq1
  obtain ⟨T2, h2, X2, e2, W2, st2⟩ := putF X1 hx hZ hown (host := "") (Or.inl (hw _ (List.mem_of_getElem? (i := 60) rfl))) Via.refl eq1 F_operation_a1 E_a1 (Or.inr ⟨(hw _ (List.mem_of_getElem? (i := 61) rfl)), rfl, hnm⟩) (hw _ (List.mem_of_getElem? (i := 54) rfl)) (ty := (.object "com/example/latchwork/latchwork/Operation")) (by decide) rfl rfl (g := (mkF m 6 #[.val (.ref a1), .val (.ref a2), .val (.int p3), .val (.int p4), .val .null] [(.ref a2), (.ref a1)])) rfl rfl (hb hby d10_6)
  have N2 := Fr.snoc X2 N1 g_a1
  have O2 := O0.wr W2 g_a1
  have K2 : Keep h0 h2 [a1] := (Keep.refl h0 [a1]).wr W2 (Or.inl (List.mem_of_getElem? (i := 0) rfl))
  have Fw2 := F_operation_a1.same W2
  obtain ⟨T3, h3, X3, e3, W3, st3⟩ := putF X2 hx hZ hown (host := "") (Or.inl (hw _ (List.mem_of_getElem? (i := 62) rfl))) Via.refl e2 (F_called_a1.other W2 (Or.inr (sn4 hw))) (E_a1.wr W2) (Or.inr ⟨(hw _ (List.mem_of_getElem? (i := 63) rfl)), rfl, hnm⟩) (hw _ (List.mem_of_getElem? (i := 54) rfl)) (ty := .int) (by decide) rfl rfl (g := (mkF m 11 #[.val (.ref a1), .val (.ref a2), .val (.int p3), .val (.int p4), .val .null] [(.int p3), (.ref a1)])) rfl rfl (hb hby d10_11)
  have N3 := Fr.snoc X3 N2 g_a1
  have O3 := O2.wr W3 g_a1
  have K3 : Keep h0 h3 [a1] := K2.wr W3 (Or.inl (List.mem_of_getElem? (i := 0) rfl))
  have Fw3 := (F_called_a1.other W2 (Or.inr (sn4 hw))).same W3
  have f_4 := ((F_answered_a1.other W2 (Or.inr (sn5 hw))).other W3 (Or.inr (sn6 hw)))
  obtain ⟨T5, h5, X5, e5, W5, st5⟩ := putF X3 hx hZ hown (host := "") (Or.inl (hw _ (List.mem_of_getElem? (i := 64) rfl))) Via.refl e3 f_4 ((E_a1.wr W2).wr W3) (Or.inr ⟨(hw _ (List.mem_of_getElem? (i := 65) rfl)), rfl, hnm⟩) (hw _ (List.mem_of_getElem? (i := 54) rfl)) (ty := .int) (by decide) rfl rfl (g := (mkF m 16 #[.val (.ref a1), .val (.ref a2), .val (.int p3), .val (.int p4), .val .null] [(.int p4), (.ref a1)])) rfl rfl (hb hby d10_16)
  have N5 := Fr.snoc X5 N3 g_a1
  have O5 := O3.wr W5 g_a1
  have K5 : Keep h0 h5 [a1] := K3.wr W5 (Or.inl (List.mem_of_getElem? (i := 0) rfl))
  have Fw5 := f_4.same W5
  have f_6 := (((F_result_a1.other W2 (Or.inr (sn7 hw))).other W3 (Or.inr (sn8 hw))).other W5 (Or.inr (sn9 hw)))
  obtain ⟨T7, h7, X7, e7, W7, st7⟩ := putF X5 hx hZ hown (host := "") (Or.inl (hw _ (List.mem_of_getElem? (i := 66) rfl))) Via.refl e5 f_6 (((E_a1.wr W2).wr W3).wr W5) (Or.inr ⟨(hw _ (List.mem_of_getElem? (i := 67) rfl)), rfl, hnm⟩) (hw _ (List.mem_of_getElem? (i := 54) rfl)) (ty := (.object "java/lang/Object")) (by decide) rfl rfl (g := (mkF m 22 #[.val (.ref a1), .val (.ref a2), .val (.int p3), .val (.int p4), .val .null] [.null, (.ref a1)])) rfl rfl (hb hby d10_22)
  have N7 := Fr.snoc X7 N5 g_a1
  have O7 := O5.wr W7 g_a1
  have K7 : Keep h0 h7 [a1] := K5.wr W7 (Or.inl (List.mem_of_getElem? (i := 0) rfl))
  have Fw7 := f_6.same W7
  have f_8 := ((Fw3.other W5 (Or.inr (sn11 hw))).other W7 (Or.inr (sn12 hw)))
  have f_9 := (((Fw2.other W3 (Or.inr (sn13 hw))).other W5 (Or.inr (sn14 hw))).other W7 (Or.inr (sn15 hw)))
  obtain ⟨fs, hr, hrun, hended, hW, hsame⟩ := X7.leave (v := none) (fun _ => rfl)
  refine ⟨_, _, pre0 _ ?_, hrun, hended, _, _, rfl, ?_, ⟨_, rfl⟩, hW, hsame.mono (by decide) (by decide)⟩
  · show Sp p e below s₁ (mkF m 0 #[.val (.ref a1), .val (.ref a2), .val (.int p3), .val (.int p4), .val .null] []) _
    refine XS.aloadN X0.here hx rfl (hb hby d10_0) rfl rfl ?_
    show Sp p e below s₁ (mkF m 1 #[.val (.ref a1), .val (.ref a2), .val (.int p3), .val (.int p4), .val .null] [(.ref a1)]) _
    refine st1.trans ?_
    show Sp p e below T1 (mkF m 4 #[.val (.ref a1), .val (.ref a2), .val (.int p3), .val (.int p4), .val .null] []) _
    refine XS.aloadN X1.here hx rfl (hb hby d10_4) rfl rfl ?_
    show Sp p e below T1 (mkF m 5 #[.val (.ref a1), .val (.ref a2), .val (.int p3), .val (.int p4), .val .null] [(.ref a1)]) _
    refine XS.aloadN X1.here hx rfl (hb hby d10_5) rfl rfl ?_
    show Sp p e below T1 (mkF m 6 #[.val (.ref a1), .val (.ref a2), .val (.int p3), .val (.int p4), .val .null] [(.ref a2), (.ref a1)]) _
    refine st2 _ ?_
    show Sp p e below T2 (mkF m 9 #[.val (.ref a1), .val (.ref a2), .val (.int p3), .val (.int p4), .val .null] []) _
    refine XS.aloadN X2.here hx rfl (hb hby d10_9) rfl rfl ?_
    show Sp p e below T2 (mkF m 10 #[.val (.ref a1), .val (.ref a2), .val (.int p3), .val (.int p4), .val .null] [(.ref a1)]) _
    refine XS.iloadN X2.here hx rfl (hb hby d10_10) rfl ?_
    show Sp p e below T2 (mkF m 11 #[.val (.ref a1), .val (.ref a2), .val (.int p3), .val (.int p4), .val .null] [(.int p3), (.ref a1)]) _
    refine st3 _ ?_
    show Sp p e below T3 (mkF m 14 #[.val (.ref a1), .val (.ref a2), .val (.int p3), .val (.int p4), .val .null] []) _
    refine XS.aloadN X3.here hx rfl (hb hby d10_14) rfl rfl ?_
    show Sp p e below T3 (mkF m 15 #[.val (.ref a1), .val (.ref a2), .val (.int p3), .val (.int p4), .val .null] [(.ref a1)]) _
    refine XS.iloadN X3.here hx rfl (hb hby d10_15) rfl ?_
    show Sp p e below T3 (mkF m 16 #[.val (.ref a1), .val (.ref a2), .val (.int p3), .val (.int p4), .val .null] [(.int p4), (.ref a1)]) _
    refine st5 _ ?_
    show Sp p e below T5 (mkF m 19 #[.val (.ref a1), .val (.ref a2), .val (.int p3), .val (.int p4), .val .null] []) _
    refine XS.aloadN X5.here hx rfl (hb hby d10_19) rfl rfl ?_
    show Sp p e below T5 (mkF m 20 #[.val (.ref a1), .val (.ref a2), .val (.int p3), .val (.int p4), .val .null] [(.ref a1)]) _
    refine XS.aload X5.here hx rfl (hb hby d10_20) rfl rfl ?_
    show Sp p e below T5 (mkF m 22 #[.val (.ref a1), .val (.ref a2), .val (.int p3), .val (.int p4), .val .null] [.null, (.ref a1)]) _
    refine st7 _ ?_
    show Sp p e below T7 (mkF m 25 #[.val (.ref a1), .val (.ref a2), .val (.int p3), .val (.int p4), .val .null] []) _
    exact X7.returnOut hx Bd.returns (hb hby d10_25) hr
  · show Q9 Z w_lcache cs_v cl_lcache a1 a2 p3 p4 h0 n0 _ T7.heap _
    rw [e7]
    exact ⟨rfl, N7, K7, ((((E_a1.wr W2).wr W3).wr W5).wr W7), (Fw5.other W7 (Or.inr (sn10 hw))), f_8, f_9, Fw7⟩
theorem pd_8 : parseMethodDescriptor "(Lcom/example/latchwork/latchwork/Operation;IILjava/lang/Object;)V" = some ⟨[(.object "com/example/latchwork/latchwork/Operation"), .int, .int, (.object "java/lang/Object")], none⟩ := by decide +kernel
theorem d11_0 : decode prog_15_method_1_code 0 = .ok (.aload_n 0, 1) := by decide +kernel
theorem d11_1 : decode prog_15_method_1_code 1 = .ok (.aload_n 1, 1) := by decide +kernel
theorem d11_2 : decode prog_15_method_1_code 2 = .ok (.iload_n 2, 1) := by decide +kernel
theorem d11_3 : decode prog_15_method_1_code 3 = .ok (.ldc 26, 2) := by decide +kernel
theorem d11_5 : decode prog_15_method_1_code 5 = .ok (.aconst_null, 1) := by decide +kernel
theorem d11_6 : decode prog_15_method_1_code 6 = .ok (.invokespecial 27, 3) := by decide +kernel
def Q10 (Z : State) (w_lcache : Addr) (cs_v : Int32) (cl_lcache : Cell) (a1 : Addr) (a2 : Addr) (p3 : Int32) (h0 : Heap) (n0 : Nat) (v : Option Value) (h : Heap) (L : List Loc) : Prop := v = none ∧ Fr n0 L ∧ Keep h0 h [a1] ∧ Exa Z h a1 "com/example/latchwork/latchwork/RecordedForm$Call" ∧ Fld Z h a1 "com/example/latchwork/latchwork/RecordedForm$Call" "answered" "I" (.int (2147483647 : Int32)) ∧ Fld Z h a1 "com/example/latchwork/latchwork/RecordedForm$Call" "called" "I" (.int p3) ∧ Fld Z h a1 "com/example/latchwork/latchwork/RecordedForm$Call" "operation" "Lcom/example/latchwork/latchwork/Operation;" (.ref a2) ∧ Fld Z h a1 "com/example/latchwork/latchwork/RecordedForm$Call" "result" "Ljava/lang/Object;" .null
set_option maxRecDepth 65536 in
set_option maxHeartbeats 40000000 in
theorem rm10 (l : Launch) (Z : State) (a0 : Array Value) (hw : ∀ d ∈ tables_1, d.before a0 Z = true) (ws : List Jvm.Cond) (w_lcache : Addr) (cs_v : Int32) (cl_lcache : Cell) (hp : Perm Z w_lcache cs_v cl_lcache) (a1 : Addr) (a2 : Addr) (p3 : Int32) (h0 : Heap) (n0 : Nat) (O0 : Old Z n0 h0) (E_a1 : Exa Z h0 a1 "com/example/latchwork/latchwork/RecordedForm$Call") (F_operation_a1 : Fld Z h0 a1 "com/example/latchwork/latchwork/RecordedForm$Call" "operation" "Lcom/example/latchwork/latchwork/Operation;" .null) (F_called_a1 : Fld Z h0 a1 "com/example/latchwork/latchwork/RecordedForm$Call" "called" "I" (.int (0 : Int32))) (F_answered_a1 : Fld Z h0 a1 "com/example/latchwork/latchwork/RecordedForm$Call" "answered" "I" (.int (0 : Int32))) (F_result_a1 : Fld Z h0 a1 "com/example/latchwork/latchwork/RecordedForm$Call" "result" "Ljava/lang/Object;" .null) (g_a1 : n0 ≤ a1) :
    MetFree l y8 (head1 (Jvm.Cond.code y8 prog_15_method_2_code 5 none :: ws) ({ frames := 2, cells := 0, slots := 0, locals := 24 } : Room)) (fun a U => a = #[(.ref a1), (.ref a2), (.int p3), (.int (2147483647 : Int32)), .null] ∧ Z.Warmed39 U.vm ∧ U.heap = h0) (fun _ _ _ _ _ => True) (fun _ U o U' => ∃ v L, o = .returned v ∧ Q10 Z w_lcache cs_v cl_lcache a1 a2 p3 h0 n0 v U'.heap L ∧ FrameEnd U o U' L ({ frames := 2, cells := 0, slots := 0, locals := 24 } : Room).cells ({ frames := 2, cells := 0, slots := 0, locals := 24 } : Room).slots) := by
  refine MetFree.of_bodySF (plainFor_of_name pn_10) hisR ?_
  intro p e s m args below meth c s₁ Bd hml0 hP hK
  obtain ⟨rfl, hZ, hh⟩ := hP
  have hx := Bd.exec
  have hby := Bd.bytes
  have hml : c.maxLocals = 5 := hml0
  have hown : s.vm.findClass "com/example/latchwork/latchwork/RecordedForm$Call" = some m.cls := findClass_of_methodNamed Bd.named
  have hnm := (name_of_methodNamed Bd.named Bd.method).1
  have X0 : Stand p l e ({ frames := 2, cells := 0, slots := 0, locals := 24 } : Room) s m #[(.ref a1), (.ref a2), (.int p3), (.int (2147483647 : Int32)), .null] below meth c s₁ [] 0 0 := Stand.of_body Bd
  have e0 : s₁.heap = h0 := by rw [← hh, Bd.state]; rfl
  have N0 := Fr.nil n0
  have hp' := hp
  obtain ⟨S_COMPACT_STRINGS, h_cs, S_w_lcache, B_lcache⟩ := hp'
  have pre0 : ∀ t, Steps p.tables e below (s₁.setTop (mkF m 0 #[.val (.ref a1), .val (.ref a2), .val (.int p3), .val (.int (2147483647 : Int32)), .val .null] [])) t → Steps p.tables e below (s₁.setTop (entryFrame m #[(.ref a1), (.ref a2), (.int p3), (.int (2147483647 : Int32)), .null] 5)) t := fun t k => castTop (ef_10_0 m a1 a2 p3 (2147483647 : Int32)) k
  obtain ⟨_, _, ⟨T1, L1, k1, n1⟩, -, X1, ⟨Lc1, hQ1, l1, y1, z1⟩, st1⟩ := X0.specialBack hx (y := y5) rfl hown (mvT hZ (hw _ (List.mem_of_getElem? (i := 59) rfl))) (mvT hZ (hw _ (List.mem_of_getElem? (i := 37) rfl))) (mvT hZ (hw _ (List.mem_of_getElem? (i := 40) rfl))) (by decide) (backOf (W := 0) (rm6 l Z a0 hw [] w_lcache cs_v cl_lcache hp a1 h0 n0 O0) hZ (hw _ (List.mem_of_getElem? (i := 40) rfl)) (hw _ (List.mem_of_getElem? (i := 39) rfl)) (by decide) (by decide)) (g := (mkF m 1 #[.val (.ref a1), .val (.ref a2), .val (.int p3), .val (.int (2147483647 : Int32)), .val .null] [(.ref a1)])) rfl (by rw [hml]; rfl) (Steps.refl _) (a := a1) (argsL := []) (rest := []) (lenOf pd_5 rfl) rfl (by show 2 * 0 + _ ≤ _; exact Nat.le_of_eq rfl) (hb hby d10_1) (fun _ _ => ⟨rfl, e0, (by decide : 0 + 0 ≤ _), (by decide : 0 + 0 ≤ _)⟩)
  dsimp only [Pt.U, Pt.locs, Pt.cells, Pt.slots] at X1 l1 y1 z1 st1 hQ1
  subst l1 y1 z1
  obtain ⟨rfl, Nq1, eq1⟩ := hQ1
  have N1 := Fr.app N0 Nq1
  obtain ⟨T2, h2, X2, e2, W2, st2⟩ := putF X1 hx hZ hown (host := "") (Or.inl (hw _ (List.mem_of_getElem? (i := 60) rfl))) Via.refl eq1 F_operation_a1 E_a1 (Or.inr ⟨(hw _ (List.mem_of_getElem? (i := 61) rfl)), rfl, hnm⟩) (hw _ (List.mem_of_getElem? (i := 54) rfl)) (ty := (.object "com/example/latchwork/latchwork/Operation")) (by decide) rfl rfl (g := (mkF m 6 #[.val (.ref a1), .val (.ref a2), .val (.int p3), .val (.int (2147483647 : Int32)), .val .null] [(.ref a2), (.ref a1)])) rfl rfl (hb hby d10_6)
  have N2 := Fr.snoc X2 N1 g_a1
  have O2 := O0.wr W2 g_a1
  have K2 : Keep h0 h2 [a1] := (Keep.refl h0 [a1]).wr W2 (Or.inl (List.mem_of_getElem? (i := 0) rfl))
  have Fw2 := F_operation_a1.same W2
  obtain ⟨T3, h3, X3, e3, W3, st3⟩ := putF X2 hx hZ hown (host := "") (Or.inl (hw _ (List.mem_of_getElem? (i := 62) rfl))) Via.refl e2 (F_called_a1.other W2 (Or.inr (sn4 hw))) (E_a1.wr W2) (Or.inr ⟨(hw _ (List.mem_of_getElem? (i := 63) rfl)), rfl, hnm⟩) (hw _ (List.mem_of_getElem? (i := 54) rfl)) (ty := .int) (by decide) rfl rfl (g := (mkF m 11 #[.val (.ref a1), .val (.ref a2), .val (.int p3), .val (.int (2147483647 : Int32)), .val .null] [(.int p3), (.ref a1)])) rfl rfl (hb hby d10_11)
  have N3 := Fr.snoc X3 N2 g_a1
  have O3 := O2.wr W3 g_a1
  have K3 : Keep h0 h3 [a1] := K2.wr W3 (Or.inl (List.mem_of_getElem? (i := 0) rfl))
  have Fw3 := (F_called_a1.other W2 (Or.inr (sn4 hw))).same W3
  have f_4 := ((F_answered_a1.other W2 (Or.inr (sn5 hw))).other W3 (Or.inr (sn6 hw)))
  obtain ⟨T5, h5, X5, e5, W5, st5⟩ := putF X3 hx hZ hown (host := "") (Or.inl (hw _ (List.mem_of_getElem? (i := 64) rfl))) Via.refl e3 f_4 ((E_a1.wr W2).wr W3) (Or.inr ⟨(hw _ (List.mem_of_getElem? (i := 65) rfl)), rfl, hnm⟩) (hw _ (List.mem_of_getElem? (i := 54) rfl)) (ty := .int) (by decide) rfl rfl (g := (mkF m 16 #[.val (.ref a1), .val (.ref a2), .val (.int p3), .val (.int (2147483647 : Int32)), .val .null] [(.int (2147483647 : Int32)), (.ref a1)])) rfl rfl (hb hby d10_16)
  have N5 := Fr.snoc X5 N3 g_a1
  have O5 := O3.wr W5 g_a1
  have K5 : Keep h0 h5 [a1] := K3.wr W5 (Or.inl (List.mem_of_getElem? (i := 0) rfl))
  have Fw5 := f_4.same W5
  have f_6 := (((F_result_a1.other W2 (Or.inr (sn7 hw))).other W3 (Or.inr (sn8 hw))).other W5 (Or.inr (sn9 hw)))
  obtain ⟨T7, h7, X7, e7, W7, st7⟩ := putF X5 hx hZ hown (host := "") (Or.inl (hw _ (List.mem_of_getElem? (i := 66) rfl))) Via.refl e5 f_6 (((E_a1.wr W2).wr W3).wr W5) (Or.inr ⟨(hw _ (List.mem_of_getElem? (i := 67) rfl)), rfl, hnm⟩) (hw _ (List.mem_of_getElem? (i := 54) rfl)) (ty := (.object "java/lang/Object")) (by decide) rfl rfl (g := (mkF m 22 #[.val (.ref a1), .val (.ref a2), .val (.int p3), .val (.int (2147483647 : Int32)), .val .null] [.null, (.ref a1)])) rfl rfl (hb hby d10_22)
  have N7 := Fr.snoc X7 N5 g_a1
  have O7 := O5.wr W7 g_a1
  have K7 : Keep h0 h7 [a1] := K5.wr W7 (Or.inl (List.mem_of_getElem? (i := 0) rfl))
  have Fw7 := f_6.same W7
  have f_8 := ((Fw3.other W5 (Or.inr (sn11 hw))).other W7 (Or.inr (sn12 hw)))
  have f_9 := (((Fw2.other W3 (Or.inr (sn13 hw))).other W5 (Or.inr (sn14 hw))).other W7 (Or.inr (sn15 hw)))
  obtain ⟨fs, hr, hrun, hended, hW, hsame⟩ := X7.leave (v := none) (fun _ => rfl)
  refine ⟨_, _, pre0 _ ?_, hrun, hended, _, _, rfl, ?_, ⟨_, rfl⟩, hW, hsame.mono (by decide) (by decide)⟩
  · show Sp p e below s₁ (mkF m 0 #[.val (.ref a1), .val (.ref a2), .val (.int p3), .val (.int (2147483647 : Int32)), .val .null] []) _
    refine XS.aloadN X0.here hx rfl (hb hby d10_0) rfl rfl ?_
    show Sp p e below s₁ (mkF m 1 #[.val (.ref a1), .val (.ref a2), .val (.int p3), .val (.int (2147483647 : Int32)), .val .null] [(.ref a1)]) _
    refine st1.trans ?_
    show Sp p e below T1 (mkF m 4 #[.val (.ref a1), .val (.ref a2), .val (.int p3), .val (.int (2147483647 : Int32)), .val .null] []) _
    refine XS.aloadN X1.here hx rfl (hb hby d10_4) rfl rfl ?_
    show Sp p e below T1 (mkF m 5 #[.val (.ref a1), .val (.ref a2), .val (.int p3), .val (.int (2147483647 : Int32)), .val .null] [(.ref a1)]) _
    refine XS.aloadN X1.here hx rfl (hb hby d10_5) rfl rfl ?_
    show Sp p e below T1 (mkF m 6 #[.val (.ref a1), .val (.ref a2), .val (.int p3), .val (.int (2147483647 : Int32)), .val .null] [(.ref a2), (.ref a1)]) _
    refine st2 _ ?_
    show Sp p e below T2 (mkF m 9 #[.val (.ref a1), .val (.ref a2), .val (.int p3), .val (.int (2147483647 : Int32)), .val .null] []) _
    refine XS.aloadN X2.here hx rfl (hb hby d10_9) rfl rfl ?_
    show Sp p e below T2 (mkF m 10 #[.val (.ref a1), .val (.ref a2), .val (.int p3), .val (.int (2147483647 : Int32)), .val .null] [(.ref a1)]) _
    refine XS.iloadN X2.here hx rfl (hb hby d10_10) rfl ?_
    show Sp p e below T2 (mkF m 11 #[.val (.ref a1), .val (.ref a2), .val (.int p3), .val (.int (2147483647 : Int32)), .val .null] [(.int p3), (.ref a1)]) _
    refine st3 _ ?_
    show Sp p e below T3 (mkF m 14 #[.val (.ref a1), .val (.ref a2), .val (.int p3), .val (.int (2147483647 : Int32)), .val .null] []) _
    refine XS.aloadN X3.here hx rfl (hb hby d10_14) rfl rfl ?_
    show Sp p e below T3 (mkF m 15 #[.val (.ref a1), .val (.ref a2), .val (.int p3), .val (.int (2147483647 : Int32)), .val .null] [(.ref a1)]) _
    refine XS.iloadN X3.here hx rfl (hb hby d10_15) rfl ?_
    show Sp p e below T3 (mkF m 16 #[.val (.ref a1), .val (.ref a2), .val (.int p3), .val (.int (2147483647 : Int32)), .val .null] [(.int (2147483647 : Int32)), (.ref a1)]) _
    refine st5 _ ?_
    show Sp p e below T5 (mkF m 19 #[.val (.ref a1), .val (.ref a2), .val (.int p3), .val (.int (2147483647 : Int32)), .val .null] []) _
    refine XS.aloadN X5.here hx rfl (hb hby d10_19) rfl rfl ?_
    show Sp p e below T5 (mkF m 20 #[.val (.ref a1), .val (.ref a2), .val (.int p3), .val (.int (2147483647 : Int32)), .val .null] [(.ref a1)]) _
    refine XS.aload X5.here hx rfl (hb hby d10_20) rfl rfl ?_
    show Sp p e below T5 (mkF m 22 #[.val (.ref a1), .val (.ref a2), .val (.int p3), .val (.int (2147483647 : Int32)), .val .null] [.null, (.ref a1)]) _
    refine st7 _ ?_
    show Sp p e below T7 (mkF m 25 #[.val (.ref a1), .val (.ref a2), .val (.int p3), .val (.int (2147483647 : Int32)), .val .null] []) _
    exact X7.returnOut hx Bd.returns (hb hby d10_25) hr
  · show Q10 Z w_lcache cs_v cl_lcache a1 a2 p3 h0 n0 _ T7.heap _
    rw [e7]
    exact ⟨rfl, N7, K7, ((((E_a1.wr W2).wr W3).wr W5).wr W7), (Fw5.other W7 (Or.inr (sn10 hw))), f_8, f_9, Fw7⟩
theorem d11_9 : decode prog_15_method_1_code 9 = .ok (.return_, 1) := by decide +kernel
abbrev y9 : MethodName := (⟨"com/example/latchwork/latchwork/RecordedForm$Call", "<init>", "(Lcom/example/latchwork/latchwork/Operation;I)V"⟩ : MethodName)
theorem ef_11_0 (m : MethodId) (x0 : Addr) (x1 : Addr) (x2 : Int32) : entryFrame m #[(.ref x0), (.ref x1), (.int x2)] 3 = mkF m 0 #[.val (.ref x0), .val (.ref x1), .val (.int x2)] [] := by first | (simp [entryFrame, mkF, argsToLocals, Value.category]; done) | rfl
def Q11 (Z : State) (w_lcache : Addr) (cs_v : Int32) (cl_lcache : Cell) (a1 : Addr) (a2 : Addr) (p3 : Int32) (h0 : Heap) (n0 : Nat) (v : Option Value) (h : Heap) (L : List Loc) : Prop := v = none ∧ Fr n0 L ∧ Keep h0 h [a1] ∧ Exa Z h a1 "com/example/latchwork/latchwork/RecordedForm$Call" ∧ Fld Z h a1 "com/example/latchwork/latchwork/RecordedForm$Call" "answered" "I" (.int (2147483647 : Int32)) ∧ Fld Z h a1 "com/example/latchwork/latchwork/RecordedForm$Call" "called" "I" (.int p3) ∧ Fld Z h a1 "com/example/latchwork/latchwork/RecordedForm$Call" "operation" "Lcom/example/latchwork/latchwork/Operation;" (.ref a2) ∧ Fld Z h a1 "com/example/latchwork/latchwork/RecordedForm$Call" "result" "Ljava/lang/Object;" .null
set_option maxRecDepth 65536 in
set_option maxHeartbeats 40000000 in
theorem rm11 (l : Launch) (Z : State) (a0 : Array Value) (hw : ∀ d ∈ tables_1, d.before a0 Z = true) (ws : List Jvm.Cond) (w_lcache : Addr) (cs_v : Int32) (cl_lcache : Cell) (hp : Perm Z w_lcache cs_v cl_lcache) (a1 : Addr) (a2 : Addr) (p3 : Int32) (h0 : Heap) (n0 : Nat) (O0 : Old Z n0 h0) (E_a1 : Exa Z h0 a1 "com/example/latchwork/latchwork/RecordedForm$Call") (F_operation_a1 : Fld Z h0 a1 "com/example/latchwork/latchwork/RecordedForm$Call" "operation" "Lcom/example/latchwork/latchwork/Operation;" .null) (F_called_a1 : Fld Z h0 a1 "com/example/latchwork/latchwork/RecordedForm$Call" "called" "I" (.int (0 : Int32))) (F_answered_a1 : Fld Z h0 a1 "com/example/latchwork/latchwork/RecordedForm$Call" "answered" "I" (.int (0 : Int32))) (F_result_a1 : Fld Z h0 a1 "com/example/latchwork/latchwork/RecordedForm$Call" "result" "Ljava/lang/Object;" .null) (g_a1 : n0 ≤ a1) :
    MetFree l y9 (head1 (Jvm.Cond.code y9 prog_15_method_1_code 3 none :: ws) ({ frames := 3, cells := 0, slots := 0, locals := 40 } : Room)) (fun a U => a = #[(.ref a1), (.ref a2), (.int p3)] ∧ Z.Warmed39 U.vm ∧ U.heap = h0) (fun _ _ _ _ _ => True) (fun _ U o U' => ∃ v L, o = .returned v ∧ Q11 Z w_lcache cs_v cl_lcache a1 a2 p3 h0 n0 v U'.heap L ∧ FrameEnd U o U' L ({ frames := 3, cells := 0, slots := 0, locals := 40 } : Room).cells ({ frames := 3, cells := 0, slots := 0, locals := 40 } : Room).slots) := by
  refine MetFree.of_bodySF (plainFor_of_name pn_10) hisR ?_
  intro p e s m args below meth c s₁ Bd hml0 hP hK
  obtain ⟨rfl, hZ, hh⟩ := hP
  have hx := Bd.exec
  have hby := Bd.bytes
  have hml : c.maxLocals = 3 := hml0
  have hown : s.vm.findClass "com/example/latchwork/latchwork/RecordedForm$Call" = some m.cls := findClass_of_methodNamed Bd.named
  have hnm := (name_of_methodNamed Bd.named Bd.method).1
  have X0 : Stand p l e ({ frames := 3, cells := 0, slots := 0, locals := 40 } : Room) s m #[(.ref a1), (.ref a2), (.int p3)] below meth c s₁ [] 0 0 := Stand.of_body Bd
  have e0 : s₁.heap = h0 := by rw [← hh, Bd.state]; rfl
  have N0 := Fr.nil n0
  have hp' := hp
  obtain ⟨S_COMPACT_STRINGS, h_cs, S_w_lcache, B_lcache⟩ := hp'
  have pre0 : ∀ t, Steps p.tables e below (s₁.setTop (mkF m 0 #[.val (.ref a1), .val (.ref a2), .val (.int p3)] [])) t → Steps p.tables e below (s₁.setTop (entryFrame m #[(.ref a1), (.ref a2), (.int p3)] 3)) t := fun t k => castTop (ef_11_0 m a1 a2 p3) k
  obtain ⟨_, _, ⟨T1, L1, k1, n1⟩, -, X1, ⟨Lc1, hQ1, l1, y1, z1⟩, st1⟩ := X0.specialBack hx (y := y8) rfl hown (mvT hZ (hw _ (List.mem_of_getElem? (i := 73) rfl))) (mvT hZ (hw _ (List.mem_of_getElem? (i := 57) rfl))) (mvT hZ (hw _ (List.mem_of_getElem? (i := 58) rfl))) (by decide) (backOf (W := 0) (rm10 l Z a0 hw [] w_lcache cs_v cl_lcache hp a1 a2 p3 h0 n0 O0 E_a1 F_operation_a1 F_called_a1 F_answered_a1 F_result_a1 g_a1) hZ (hw _ (List.mem_of_getElem? (i := 58) rfl)) (hw _ (List.mem_of_getElem? (i := 55) rfl)) (by decide) (by decide)) (g := (mkF m 6 #[.val (.ref a1), .val (.ref a2), .val (.int p3)] [.null, (.int (2147483647 : Int32)), (.int p3), (.ref a2), (.ref a1)])) rfl (by rw [hml]; rfl) (Steps.refl _) (a := a1) (argsL := [(.ref a2), (.int p3), (.int (2147483647 : Int32)), .null]) (rest := []) (lenOf pd_8 rfl) rfl (by show 2 * 0 + _ ≤ _; exact Nat.le_of_eq rfl) (hb hby d11_6) (fun _ _ => ⟨rfl, e0, (by decide : 0 + 0 ≤ _), (by decide : 0 + 0 ≤ _)⟩)
  dsimp only [Pt.U, Pt.locs, Pt.cells, Pt.slots] at X1 l1 y1 z1 st1 hQ1
  subst l1 y1 z1
  obtain ⟨rfl, Nq1, Kq1, fq1_0, fq1_1, fq1_2, fq1_3, fq1_4⟩ := hQ1
  have N1 := Fr.app N0 Nq1
  have O1 := O0.keep Kq1 (allS g_a1 all0)
  have K1 : Keep h0 T1.heap [a1] := (Keep.refl h0 [a1]).trans Kq1 (allS (Or.inl (List.mem_of_getElem? (i := 0) rfl)) all0)
  obtain ⟨fs, hr, hrun, hended, hW, hsame⟩ := X1.leave (v := none) (fun _ => rfl)
  refine ⟨_, _, pre0 _ ?_, hrun, hended, _, _, rfl, ?_, ⟨_, rfl⟩, hW, hsame.mono (by decide) (by decide)⟩
  · show Sp p e below s₁ (mkF m 0 #[.val (.ref a1), .val (.ref a2), .val (.int p3)] []) _
    refine XS.aloadN X0.here hx rfl (hb hby d11_0) rfl rfl ?_
    show Sp p e below s₁ (mkF m 1 #[.val (.ref a1), .val (.ref a2), .val (.int p3)] [(.ref a1)]) _
    refine XS.aloadN X0.here hx rfl (hb hby d11_1) rfl rfl ?_
    show Sp p e below s₁ (mkF m 2 #[.val (.ref a1), .val (.ref a2), .val (.int p3)] [(.ref a2), (.ref a1)]) _
    refine XS.iloadN X0.here hx rfl (hb hby d11_2) rfl ?_
    show Sp p e below s₁ (mkF m 3 #[.val (.ref a1), .val (.ref a2), .val (.int p3)] [(.int p3), (.ref a2), (.ref a1)]) _
    refine X0.ldcI hx hown (mvT hZ (hw _ (List.mem_of_getElem? (i := 72) rfl))) rfl (hb hby d11_3) ?_
    show Sp p e below s₁ (mkF m 5 #[.val (.ref a1), .val (.ref a2), .val (.int p3)] [(.int (2147483647 : Int32)), (.int p3), (.ref a2), (.ref a1)]) _
    refine XS.aconstNull X0.here hx rfl (hb hby d11_5) ?_
    show Sp p e below s₁ (mkF m 6 #[.val (.ref a1), .val (.ref a2), .val (.int p3)] [.null, (.int (2147483647 : Int32)), (.int p3), (.ref a2), (.ref a1)]) _
    refine st1.trans ?_
    show Sp p e below T1 (mkF m 9 #[.val (.ref a1), .val (.ref a2), .val (.int p3)] []) _
    exact X1.returnOut hx Bd.returns (hb hby d11_9) hr
  · show Q11 Z w_lcache cs_v cl_lcache a1 a2 p3 h0 n0 _ T1.heap _
    exact ⟨rfl, N1, K1, fq1_0, fq1_1, fq1_2, fq1_3, fq1_4⟩
theorem pd_9 : parseMethodDescriptor "(Lcom/example/latchwork/latchwork/Operation;I)V" = some ⟨[(.object "com/example/latchwork/latchwork/Operation"), .int], none⟩ := by decide +kernel
theorem d12_0 : decode prog_15_method_3_code 0 = .ok (.aload_n 0, 1) := by decide +kernel
theorem d12_1 : decode prog_15_method_3_code 1 = .ok (.getfield 19, 3) := by decide +kernel
theorem d12_4 : decode prog_15_method_3_code 4 = .ok (.ldc 26, 2) := by decide +kernel
theorem d12_6 : decode prog_15_method_3_code 6 = .ok (.if_icmp .eq 7, 3) := by decide +kernel
theorem d12_9 : decode prog_15_method_3_code 9 = .ok (.iconst 1, 1) := by decide +kernel
theorem d12_10 : decode prog_15_method_3_code 10 = .ok (.goto 4, 3) := by decide +kernel
theorem d12_14 : decode prog_15_method_3_code 14 = .ok (.ireturn, 1) := by decide +kernel
abbrev y10 : MethodName := (⟨"com/example/latchwork/latchwork/RecordedForm$Call", "isAnswered", "()Z"⟩ : MethodName)
theorem ef_12_0 (m : MethodId) (x0 : Addr) : entryFrame m #[(.ref x0)] 1 = mkF m 0 #[.val (.ref x0)] [] := by first | (simp [entryFrame, mkF, argsToLocals, Value.category]; done) | rfl
def Q12 (Z : State) (w_lcache : Addr) (cs_v : Int32) (cl_lcache : Cell) (a1 : Addr) (p2 : Int32) (h0 : Heap) (n0 : Nat) (v : Option Value) (h : Heap) (L : List Loc) : Prop := v = some (.int (1 : Int32)) ∧ Fr n0 L ∧ h = h0
set_option maxRecDepth 65536 in
set_option maxHeartbeats 40000000 in
theorem rm12 (l : Launch) (Z : State) (a0 : Array Value) (hw : ∀ d ∈ tables_1, d.before a0 Z = true) (ws : List Jvm.Cond) (w_lcache : Addr) (cs_v : Int32) (cl_lcache : Cell) (hp : Perm Z w_lcache cs_v cl_lcache) (a1 : Addr) (p2 : Int32) (h0 : Heap) (n0 : Nat) (O0 : Old Z n0 h0) (F_answered_a1 : Fld Z h0 a1 "com/example/latchwork/latchwork/RecordedForm$Call" "answered" "I" (.int p2)) (hc2 : ¬ (p2 = (2147483647 : Int32))) :
    MetFree l y10 (head1 (Jvm.Cond.code y10 prog_15_method_3_code 1 (some .boolean) :: ws) ({ frames := 0, cells := 0, slots := 0, locals := 0 } : Room)) (fun a U => a = #[(.ref a1)] ∧ Z.Warmed39 U.vm ∧ U.heap = h0) (fun _ _ _ _ _ => True) (fun _ U o U' => ∃ v L, o = .returned v ∧ Q12 Z w_lcache cs_v cl_lcache a1 p2 h0 n0 v U'.heap L ∧ FrameEnd U o U' L ({ frames := 0, cells := 0, slots := 0, locals := 0 } : Room).cells ({ frames := 0, cells := 0, slots := 0, locals := 0 } : Room).slots) := by
  refine MetFree.of_bodySF (plainFor_of_name pn_10) hisR ?_
  intro p e s m args below meth c s₁ Bd hml0 hP hK
  obtain ⟨rfl, hZ, hh⟩ := hP
  have hx := Bd.exec
  have hby := Bd.bytes
  have hml : c.maxLocals = 1 := hml0
  have hown : s.vm.findClass "com/example/latchwork/latchwork/RecordedForm$Call" = some m.cls := findClass_of_methodNamed Bd.named
  have hnm := (name_of_methodNamed Bd.named Bd.method).1
  have X0 : Stand p l e ({ frames := 0, cells := 0, slots := 0, locals := 0 } : Room) s m #[(.ref a1)] below meth c s₁ [] 0 0 := Stand.of_body Bd
  have e0 : s₁.heap = h0 := by rw [← hh, Bd.state]; rfl
  have N0 := Fr.nil n0
  have hp' := hp
  obtain ⟨S_COMPACT_STRINGS, h_cs, S_w_lcache, B_lcache⟩ := hp'
  have pre0 : ∀ t, Steps p.tables e below (s₁.setTop (mkF m 0 #[.val (.ref a1)] [])) t → Steps p.tables e below (s₁.setTop (entryFrame m #[(.ref a1)] 1)) t := fun t k => castTop (ef_12_0 m a1) k
  obtain ⟨T1, X1, e1, st1⟩ := getF X0 hx hZ hown (host := "") (Or.inl (hw _ (List.mem_of_getElem? (i := 64) rfl))) Via.refl e0 F_answered_a1 (g := (mkF m 1 #[.val (.ref a1)] [(.ref a1)])) rfl rfl (hb hby d12_1)
  obtain ⟨fs, hr, hrun, hended, hW, hsame⟩ := X1.leave (v := some (.int (1 : Int32))) (fun h => by rw [Bd.returns] at h; cases h)
  refine ⟨_, _, pre0 _ ?_, hrun, hended, _, _, rfl, ?_, ⟨_, rfl⟩, hW, hsame.mono (by decide) (by decide)⟩
  · show Sp p e below s₁ (mkF m 0 #[.val (.ref a1)] []) _
    refine XS.aloadN X0.here hx rfl (hb hby d12_0) rfl rfl ?_
    show Sp p e below s₁ (mkF m 1 #[.val (.ref a1)] [(.ref a1)]) _
    refine st1 _ ?_
    show Sp p e below T1 (mkF m 4 #[.val (.ref a1)] [(.int p2)]) _
    refine X1.ldcI hx hown (mvT hZ (hw _ (List.mem_of_getElem? (i := 72) rfl))) rfl (hb hby d12_4) ?_
    show Sp p e below T1 (mkF m 6 #[.val (.ref a1)] [(.int (2147483647 : Int32)), (.int p2)]) _
    refine XS.icmpNo X1.here hx rfl (hb hby d12_6) rfl (feq hc2).1 ?_
    show Sp p e below T1 (mkF m 9 #[.val (.ref a1)] []) _
    refine XS.iconst X1.here hx rfl (hb hby d12_9) ?_
    show Sp p e below T1 (mkF m 10 #[.val (.ref a1)] [(.int (1 : Int32))]) _
    refine XS.goto X1.here hx rfl (pc0 := 10) (pc' := 14) rfl (hb hby d12_10) (by decide) (by decide) ?_
    show Sp p e below T1 (mkF m 14 #[.val (.ref a1)] [(.int (1 : Int32))]) _
    exact retN X1 hx (t := .boolean) Bd.returns (by simp) (hb hby d12_14) hr
  · show Q12 Z w_lcache cs_v cl_lcache a1 p2 h0 n0 _ T1.heap _
    rw [e1]
    exact ⟨rfl, N0, rfl⟩
theorem pd_10 : parseMethodDescriptor "()Z" = some ⟨[], some .boolean⟩ := by decide +kernel
theorem d12_13 : decode prog_15_method_3_code 13 = .ok (.iconst 0, 1) := by decide +kernel
def Q13 (Z : State) (w_lcache : Addr) (cs_v : Int32) (cl_lcache : Cell) (a1 : Addr) (h0 : Heap) (n0 : Nat) (v : Option Value) (h : Heap) (L : List Loc) : Prop := v = some (.int (0 : Int32)) ∧ Fr n0 L ∧ h = h0
set_option maxRecDepth 65536 in
set_option maxHeartbeats 40000000 in
theorem rm13 (l : Launch) (Z : State) (a0 : Array Value) (hw : ∀ d ∈ tables_1, d.before a0 Z = true) (ws : List Jvm.Cond) (w_lcache : Addr) (cs_v : Int32) (cl_lcache : Cell) (hp : Perm Z w_lcache cs_v cl_lcache) (a1 : Addr) (h0 : Heap) (n0 : Nat) (O0 : Old Z n0 h0) (F_answered_a1 : Fld Z h0 a1 "com/example/latchwork/latchwork/RecordedForm$Call" "answered" "I" (.int (2147483647 : Int32))) :
    MetFree l y10 (head1 (Jvm.Cond.code y10 prog_15_method_3_code 1 (some .boolean) :: ws) ({ frames := 0, cells := 0, slots := 0, locals := 0 } : Room)) (fun a U => a = #[(.ref a1)] ∧ Z.Warmed39 U.vm ∧ U.heap = h0) (fun _ _ _ _ _ => True) (fun _ U o U' => ∃ v L, o = .returned v ∧ Q13 Z w_lcache cs_v cl_lcache a1 h0 n0 v U'.heap L ∧ FrameEnd U o U' L ({ frames := 0, cells := 0, slots := 0, locals := 0 } : Room).cells ({ frames := 0, cells := 0, slots := 0, locals := 0 } : Room).slots) := by
  refine MetFree.of_bodySF (plainFor_of_name pn_10) hisR ?_
  intro p e s m args below meth c s₁ Bd hml0 hP hK
  obtain ⟨rfl, hZ, hh⟩ := hP
  have hx := Bd.exec
  have hby := Bd.bytes
  have hml : c.maxLocals = 1 := hml0
  have hown : s.vm.findClass "com/example/latchwork/latchwork/RecordedForm$Call" = some m.cls := findClass_of_methodNamed Bd.named
  have hnm := (name_of_methodNamed Bd.named Bd.method).1
  have X0 : Stand p l e ({ frames := 0, cells := 0, slots := 0, locals := 0 } : Room) s m #[(.ref a1)] below meth c s₁ [] 0 0 := Stand.of_body Bd
  have e0 : s₁.heap = h0 := by rw [← hh, Bd.state]; rfl
  have N0 := Fr.nil n0
  have hp' := hp
  obtain ⟨S_COMPACT_STRINGS, h_cs, S_w_lcache, B_lcache⟩ := hp'
  have pre0 : ∀ t, Steps p.tables e below (s₁.setTop (mkF m 0 #[.val (.ref a1)] [])) t → Steps p.tables e below (s₁.setTop (entryFrame m #[(.ref a1)] 1)) t := fun t k => castTop (ef_12_0 m a1) k
  obtain ⟨T1, X1, e1, st1⟩ := getF X0 hx hZ hown (host := "") (Or.inl (hw _ (List.mem_of_getElem? (i := 64) rfl))) Via.refl e0 F_answered_a1 (g := (mkF m 1 #[.val (.ref a1)] [(.ref a1)])) rfl rfl (hb hby d12_1)
  obtain ⟨fs, hr, hrun, hended, hW, hsame⟩ := X1.leave (v := some (.int (0 : Int32))) (fun h => by rw [Bd.returns] at h; cases h)
  refine ⟨_, _, pre0 _ ?_, hrun, hended, _, _, rfl, ?_, ⟨_, rfl⟩, hW, hsame.mono (by decide) (by decide)⟩
  · show Sp p e below s₁ (mkF m 0 #[.val (.ref a1)] []) _
    refine XS.aloadN X0.here hx rfl (hb hby d12_0) rfl rfl ?_
    show Sp p e below s₁ (mkF m 1 #[.val (.ref a1)] [(.ref a1)]) _
    refine st1 _ ?_
    show Sp p e below T1 (mkF m 4 #[.val (.ref a1)] [(.int (2147483647 : Int32))]) _
    refine X1.ldcI hx hown (mvT hZ (hw _ (List.mem_of_getElem? (i := 72) rfl))) rfl (hb hby d12_4) ?_
    show Sp p e below T1 (mkF m 6 #[.val (.ref a1)] [(.int (2147483647 : Int32)), (.int (2147483647 : Int32))]) _
    refine XS.icmpYes X1.here hx rfl (pc0 := 6) (pc' := 13) rfl (hb hby d12_6) rfl (teq (by decide : (2147483647 : Int32) = (2147483647 : Int32))).1 (by decide) (by decide) ?_
    show Sp p e below T1 (mkF m 13 #[.val (.ref a1)] []) _
    refine XS.iconst X1.here hx rfl (hb hby d12_13) ?_
    show Sp p e below T1 (mkF m 14 #[.val (.ref a1)] [(.int (0 : Int32))]) _
    exact retN X1 hx (t := .boolean) Bd.returns (by simp) (hb hby d12_14) hr
  · show Q13 Z w_lcache cs_v cl_lcache a1 h0 n0 _ T1.heap _
    rw [e1]
    exact ⟨rfl, N0, rfl⟩
theorem ef_0_0 (m : MethodId) (x0 : Int32) (x1 : Int32) (x2 : Int32) (x3 : Int64) : entryFrame m #[(.int x0), (.int x1), (.int x2), (.long x3)] maxLocals = mkF m 0 #[.val (.int x0), .val (.int x1), .val (.int x2), .val (.long x3), .second, .unset, .unset, .unset, .unset, .unset, .unset] [] := by first | (simp [entryFrame, mkF, argsToLocals, Value.category, maxLocals]; done) | rfl
theorem pn_0 : plainName "com/example/latchwork/latchwork/CallIsAnsweredPinLaw" = true := by first | (simp [plainName, overriddenIn]; done) | decide +kernel
set_option maxRecDepth 65536 in
set_option maxHeartbeats 40000000 in
theorem rm14 (l : Launch) (Z : State) (a0 : Array Value) (hw : ∀ d ∈ tables_1, d.before a0 Z = true) (ws : List Jvm.Cond) (w_lcache : Addr) (cs_v : Int32) (cl_lcache : Cell) (hp : Perm Z w_lcache cs_v cl_lcache) (p0 : Int32) (p1 : Int32) (p2 : Int32) (p3 : Int64) (h0 : Heap) (n0 : Nat) (O0 : Old Z n0 h0) (hc1 : (p2 &&& (256 : Int32)) = (0 : Int32)) (hc2 : p1 < (2147483647 : Int32)) :
    MetFree l x (head1 (Jvm.Cond.code x code maxLocals ret :: ws) room_1) (fun a U => a = #[(.int p0), (.int p1), (.int p2), (.long p3)] ∧ Z.Warmed39 U.vm ∧ U.heap = h0 ∧ CHv Z own_EL U.vm h0) (fun _ _ _ _ _ => True) (fun _ U o U' => ∃ v L, o = .returned v ∧ (v = some (.int (1 : Int32)) ∧ Fr n0 L) ∧ ReturnedEndW U o U' L 24 1152) := by
  refine MetFree.of_bodySF (plainFor_of_name pn_0) hisR ?_
  intro p e s m args below meth c s₁ Bd hml0 hP hK
  obtain ⟨rfl, hZo, hh, hCH⟩ := hP
  have hx := Bd.exec
  have hby := Bd.bytes
  have hml : c.maxLocals = 11 := hml0
  have hown : (s.setVm s.vm).vm.findClass "com/example/latchwork/latchwork/CallIsAnsweredPinLaw" = some m.cls := findClass_of_methodNamed Bd.named
  have hnm := (name_of_methodNamed Bd.named Bd.method).1
  have X0 : Stand p l e room_1 (s.setVm s.vm) m #[(.int p0), (.int p1), (.int p2), (.long p3)] below meth c s₁ [] 0 0 := Stand.of_body Bd
  have e0 : s₁.heap = h0 := by rw [← hh, Bd.state]; rfl
  have N0 := Fr.nil n0
  have hZ : Z.Warmed39 (s.setVm s.vm).vm := hZo
  have CH0 := CHr.refl hCH
  have hS0 : s.Since s.vm 0 := (State.WarmedH.refl s).since 0
  have hk0 : 0 ≤ h0.size := Nat.zero_le _
  have hp' := hp
  obtain ⟨S_COMPACT_STRINGS, h_cs, S_w_lcache, B_lcache⟩ := hp'
  have pre0 : ∀ t, Steps p.tables e below (s₁.setTop (mkF m 0 #[.val (.int p0), .val (.int p1), .val (.int p2), .val (.long p3), .second, .unset, .unset, .unset, .unset, .unset, .unset] [])) t → Steps p.tables e below (s₁.setTop (entryFrame m #[(.int p0), (.int p1), (.int p2), (.long p3)] maxLocals)) t := fun t k => castTop (ef_0_0 m p0 p1 p2 p3) k
  obtain ⟨T1, h1, k1, X1, e1, E1, A1, EA1, st1⟩ := newPE X0 hx hZ (hw _ (List.mem_of_getElem? (i := 0) rfl)) e0 (g := (mkF m 1 #[.val (.int p0), .val (.int p1), .val (.int p2), .val (.long p3), .second, .unset, .unset, .unset, .unset, .unset, .unset] [(.int (1 : Int32))])) rfl (hb hby at_1) rfl (by decide) (cap := 1) (by decide) (by decide) (by decide) (by decide) (ad := "[C") (by decide)
  obtain ⟨b1, g1⟩ : ∃ z, z = h0.size := ⟨_, rfl⟩
  rw [← g1] at A1 EA1 st1
  have g_b1 : n0 ≤ b1 := Nat.le_trans (own_sz O0) (Nat.le_of_eq g1.symm)
  have sz_b1 : h0.size ≤ b1 := Nat.le_trans (Keep.refl h0 []).1 (Nat.le_of_eq g1.symm)
  have O1 := O0.ext E1
  have K1 : Keep h0 h1 [] := (Keep.refl h0 []).ext E1
  have CH1 := CH0.trans (CHr.ext E1 CH0.1)
  have hk1 := Nat.le_trans hk0 E1.1
  have V_b1 : Arv Z h1 b1 k1 .char (1 : Int32) [(.int (0 : Int32))] (.int (0 : Int32)) := (Arv.new A1 (by decide)).pad (pad_rep [] (.int (0 : Int32)) 1)
  obtain ⟨cl2, Ar2, q2, S2, Nn2, H2, G2⟩ := id V_b1
  have hin2 : ¬ ((0 : Int32) < 0 ∨ cl2.slots.size ≤ ((0 : Int32)).toNatClampNeg) := inb_of S2 ⟨by decide, by decide⟩
  obtain ⟨T3, h3, X3, e3, W3, st3⟩ := stC X1 hx hZ e1 Ar2 (j := (0 : Int32)) hin2 (g := (mkF m 14 #[.val (.int p0), .val (.int p1), .val (.int p2), .val (.long p3), .second, .val (.ref b1), .unset, .unset, .unset, .unset, .unset] [(.int ((p2 &&& (255 : Int32)).toUInt32.toUInt16.toUInt32.toInt32)), (.int (0 : Int32)), (.ref b1)])) rfl rfl (hb hby at_14)
  have N3 := Fr.snoc X3 N0 g_b1
  have O3 := O1.wr W3 g_b1
  have K3 : Keep h0 h3 [] := K1.wr W3 (Or.inr sz_b1)
  have CH3 := CH1.trans (CHr.wr W3 own_safe0 CH1.1)
  have hk3 := Nat.le_trans hk1 (Keep.of_wr W3).1
  have V_b1_3 : Arv Z h3 b1 k1 .char (1 : Int32) [(.int (nar .char ((p2 &&& (255 : Int32)).toUInt32.toUInt16.toUInt32.toInt32)))] (.int (0 : Int32)) := Arv.set Ar2 q2 S2 Nn2 H2 G2 (fits_nar_char _) W3 0 rfl (Nat.le_of_ble_eq_true rfl)
  obtain ⟨T4, h4, X4, e4, E4, A4, D4, -, st4⟩ := newO X3 hx hZ hown (hw _ (List.mem_of_getElem? (i := 1) rfl)) (hw _ (List.mem_of_getElem? (i := 2) rfl)) (hw _ (List.mem_of_getElem? (i := 3) rfl)) e3 (g := (mkF m 15 #[.val (.int p0), .val (.int p1), .val (.int p2), .val (.long p3), .second, .val (.ref b1), .unset, .unset, .unset, .unset, .unset] [])) rfl (hb hby at_15) (by decide) (by decide)
  obtain ⟨b4, g4⟩ : ∃ z, z = h3.size := ⟨_, rfl⟩
  rw [← g4] at A4 D4 st4
  have g_b4 : n0 ≤ b4 := Nat.le_trans (own_sz O3) (Nat.le_of_eq g4.symm)
  have sz_b4 : h0.size ≤ b4 := Nat.le_trans K3.1 (Nat.le_of_eq g4.symm)
  have O4 := O3.ext E4
  have K4 : Keep h0 h4 [] := K3.ext E4
  have CH4 := CH3.trans (CHr.ext E4 CH3.1)
  have hk4 := Nat.le_trans hk3 E4.1
  have F_function_b4 : Fld Z h4 b4 "com/example/latchwork/latchwork/Operation" "function" "Ljava/lang/String;" .null := D4 (Or.inr (hw _ (List.mem_of_getElem? (i := 50) rfl))) (ty := (.object "java/lang/String")) (by decide)
  have F_argument_b4 : Fld Z h4 b4 "com/example/latchwork/latchwork/Operation" "argument" "Ljava/lang/Object;" .null := D4 (Or.inr (hw _ (List.mem_of_getElem? (i := 52) rfl))) (ty := (.object "java/lang/Object")) (by decide)
  obtain ⟨T5, h5, X5, e5, E5, A5, D5, -, st5⟩ := newO X4 hx hZ hown (hw _ (List.mem_of_getElem? (i := 4) rfl)) (hw _ (List.mem_of_getElem? (i := 5) rfl)) (hw _ (List.mem_of_getElem? (i := 6) rfl)) e4 (g := (mkF m 19 #[.val (.int p0), .val (.int p1), .val (.int p2), .val (.long p3), .second, .val (.ref b1), .unset, .unset, .unset, .unset, .unset] [(.ref b4), (.ref b4)])) rfl (hb hby at_19) (by decide) (by decide)
  obtain ⟨b5, g5⟩ : ∃ z, z = h4.size := ⟨_, rfl⟩
  rw [← g5] at A5 D5 st5
  have g_b5 : n0 ≤ b5 := Nat.le_trans (own_sz O4) (Nat.le_of_eq g5.symm)
  have sz_b5 : h0.size ≤ b5 := Nat.le_trans K4.1 (Nat.le_of_eq g5.symm)
  have O5 := O4.ext E5
  have K5 : Keep h0 h5 [] := K4.ext E5
  have CH5 := CH4.trans (CHr.ext E5 CH4.1)
  have hk5 := Nat.le_trans hk4 E5.1
  have F_coder_b5 : Fld Z h5 b5 "java/lang/String" "coder" "B" (.int (0 : Int32)) := D5 (Or.inr (hw _ (List.mem_of_getElem? (i := 30) rfl))) (ty := .byte) (by decide)
  have F_value_b5 : Fld Z h5 b5 "java/lang/String" "value" "[B" .null := D5 (Or.inr (hw _ (List.mem_of_getElem? (i := 32) rfl))) (ty := (.array .byte)) (by decide)
  obtain ⟨_, _, ⟨T6, L6, k6, n6⟩, -, X6, ⟨Lc6, hQ6, l6, y6, z6⟩, st6⟩ := X5.specialBack hx (y := y4) rfl hown (mvT hZ (hw _ (List.mem_of_getElem? (i := 7) rfl))) (mvT hZ (hw _ (List.mem_of_getElem? (i := 8) rfl))) (mvT hZ (hw _ (List.mem_of_getElem? (i := 9) rfl))) (by decide) (backOf (W := 3) (rm5 l Z a0 hw [] w_lcache cs_v cl_lcache hp b5 b1 k1 (nar .char ((p2 &&& (255 : Int32)).toUInt32.toUInt16.toUInt32.toInt32)) h5 n0 O5 ((V_b1_3.ext E4).ext E5) (own_ch2 p2) A5 F_coder_b5 F_value_b5 g_b5) hZ (hw _ (List.mem_of_getElem? (i := 9) rfl)) (hw _ (List.mem_of_getElem? (i := 6) rfl)) (by decide) (by decide)) (g := (mkF m 25 #[.val (.int p0), .val (.int p1), .val (.int p2), .val (.long p3), .second, .val (.ref b1), .unset, .unset, .unset, .unset, .unset] [(.ref b1), (.ref b5), (.ref b5), (.ref b4), (.ref b4)])) rfl (by rw [hml]; rfl) (Steps.refl _) (a := b5) (argsL := [(.ref b1)]) (rest := [(.ref b5), (.ref b4), (.ref b4)]) (lenOf pd_4 rfl) rfl (by show 2 * 0 + _ ≤ _; exact Nat.le_of_eq rfl) (hb hby at_25) (fun _ _ => ⟨rfl, e5, (by decide : 3 + 1 ≤ _), (by decide : 7 + 1 ≤ _)⟩)
  dsimp only [Pt.U, Pt.locs, Pt.cells, Pt.slots] at X6 l6 y6 z6 st6 hQ6
  subst l6 y6 z6
  obtain ⟨b6_0, kc6_0, rfl, Nq6, Kq6, sq_b6_0, fq6_0, fq6_1, fq6_2, fq6_3, fq6_4⟩ := hQ6
  have N6 := Fr.app N3 Nq6
  have g_b6_0 : n0 ≤ b6_0 := Nat.le_trans (own_sz O5) sq_b6_0
  have sz_b6_0 : h0.size ≤ b6_0 := Nat.le_trans K5.1 sq_b6_0
  have CH6 := CH5.trans (CHr.keep Kq6 (allS own_safe0 all0) CH5.1)
  have hk6 := Nat.le_trans hk5 Kq6.1
  have O6 := O5.keep Kq6 (allS g_b5 all0)
  have K6 : Keep h0 T6.heap [] := K5.trans Kq6 (allS (Or.inr sz_b5) all0)
  have f_7 := ((F_function_b4.ext E5).keep Kq6 (ninS (Nat.ne_of_lt (Nat.lt_of_lt_of_le A4.lt (Nat.le_of_eq g5.symm))) nin0))
  have f_8 := ((F_argument_b4.ext E5).keep Kq6 (ninS (Nat.ne_of_lt (Nat.lt_of_lt_of_le A4.lt (Nat.le_of_eq g5.symm))) nin0))
  obtain ⟨_, _, ⟨T9, L9, k9, n9⟩, -, XX9, Sq9, gq9, ⟨Lc9, hQ9, l9, y9, z9, C9⟩, st9⟩ := X6.specialBackS hx (y := y7) rfl hown (mvT hZ (hw _ (List.mem_of_getElem? (i := 33) rfl))) (mvT hZ (hw _ (List.mem_of_getElem? (i := 34) rfl))) (mvT hZ (hw _ (List.mem_of_getElem? (i := 35) rfl))) (by decide) (own_backC (SL := []) (W := 1) (rm8 l Z a0 hw [] w_lcache cs_v cl_lcache hp b4 b5 T6.heap n0 O6 ((A4.ext E5).keep Kq6) f_7 f_8 g_b4) hZ (hw _ (List.mem_of_getElem? (i := 35) rfl)) (hw _ (List.mem_of_getElem? (i := 3) rfl)) (by decide) (by decide) (own_EW hw) CH6.1 all0) (g := (mkF m 29 #[.val (.int p0), .val (.int p1), .val (.int p2), .val (.long p3), .second, .val (.ref b1), .unset, .unset, .unset, .unset, .unset] [.null, (.ref b5), (.ref b4), (.ref b4)])) rfl (by rw [hml]; rfl) (Steps.refl _) (a := b4) (argsL := [(.ref b5), .null]) (rest := [(.ref b4)]) (lenOf pd_7 rfl) rfl (by show 2 * 0 + _ ≤ _; exact Nat.le_of_eq rfl) (hb hby at_29) (fun _ _ => ⟨rfl, rfl, (by decide : 4 + 2 ≤ _), (by decide : 8 + 36 ≤ _)⟩)
  dsimp only [Pt.U, Pt.locs, Pt.cells, Pt.slots] at XX9 Sq9 gq9 l9 y9 z9 st9 hQ9 C9
  subst l9 y9 z9
  obtain ⟨X9, hS9, hZ9, hown9⟩ := rebS hS0 hk6 XX9 Sq9 gq9 hZ hown
  obtain ⟨rfl, Nq9, Kq9, fq9_0, fq9_1, fq9_2⟩ := hQ9
  have N9 := Fr.app N6 Nq9
  have CH9 := CH6.trans C9
  have hk9 : T9.heap.size ≤ T9.heap.size := Nat.le_refl _
  have O9 := O6.keep Kq9 (allS g_b4 all0)
  have K9 : Keep h0 T9.heap [] := K6.trans Kq9 (allS (Or.inr sz_b4) all0)
  obtain ⟨T10, h10, X10, e10, E10, A10, D10, -, st10⟩ := newO X9 hx hZ9 hown9 (hw _ (List.mem_of_getElem? (i := 53) rfl)) (hw _ (List.mem_of_getElem? (i := 54) rfl)) (hw _ (List.mem_of_getElem? (i := 55) rfl)) rfl (g := (mkF m 51 #[.val (.int p0), .val (.int p1), .val (.int p2), .val (.long p3), .second, .val (.ref b1), .val (.ref b4), .val .null, .unset, .unset, .unset] [])) rfl (hb hby at_51) (by decide) (by decide)
  obtain ⟨b10, g10⟩ : ∃ z, z = T9.heap.size := ⟨_, rfl⟩
  rw [← g10] at A10 D10 st10
  have g_b10 : n0 ≤ b10 := Nat.le_trans (own_sz O9) (Nat.le_of_eq g10.symm)
  have sz_b10 : h0.size ≤ b10 := Nat.le_trans K9.1 (Nat.le_of_eq g10.symm)
  have O10 := O9.ext E10
  have K10 : Keep h0 h10 [] := K9.ext E10
  have CH10 := CH9.trans (CHr.ext E10 CH9.1)
  have hk10 := Nat.le_trans hk9 E10.1
  have F_operation_b10 : Fld Z h10 b10 "com/example/latchwork/latchwork/RecordedForm$Call" "operation" "Lcom/example/latchwork/latchwork/Operation;" .null := D10 (Or.inr (hw _ (List.mem_of_getElem? (i := 61) rfl))) (ty := (.object "com/example/latchwork/latchwork/Operation")) (by decide)
  have F_called_b10 : Fld Z h10 b10 "com/example/latchwork/latchwork/RecordedForm$Call" "called" "I" (.int (0 : Int32)) := D10 (Or.inr (hw _ (List.mem_of_getElem? (i := 63) rfl))) (ty := .int) (by decide)
  have F_answered_b10 : Fld Z h10 b10 "com/example/latchwork/latchwork/RecordedForm$Call" "answered" "I" (.int (0 : Int32)) := D10 (Or.inr (hw _ (List.mem_of_getElem? (i := 65) rfl))) (ty := .int) (by decide)
  have F_result_b10 : Fld Z h10 b10 "com/example/latchwork/latchwork/RecordedForm$Call" "result" "Ljava/lang/Object;" .null := D10 (Or.inr (hw _ (List.mem_of_getElem? (i := 67) rfl))) (ty := (.object "java/lang/Object")) (by decide)
  obtain ⟨_, _, ⟨T11, L11, k11, n11⟩, -, X11, ⟨Lc11, hQ11, l11, y11, z11⟩, st11⟩ := X10.specialBack hx (y := y8) rfl hown9 (mvT hZ9 (hw _ (List.mem_of_getElem? (i := 56) rfl))) (mvT hZ9 (hw _ (List.mem_of_getElem? (i := 57) rfl))) (mvT hZ9 (hw _ (List.mem_of_getElem? (i := 58) rfl))) (by decide) (backOf (W := 1) (rm9 l Z a0 hw [] w_lcache cs_v cl_lcache hp b10 b4 p0 p1 h10 n0 O10 A10 F_operation_b10 F_called_b10 F_answered_b10 F_result_b10 g_b10) hZ9 (hw _ (List.mem_of_getElem? (i := 58) rfl)) (hw _ (List.mem_of_getElem? (i := 55) rfl)) (by decide) (by decide)) (g := (mkF m 61 #[.val (.int p0), .val (.int p1), .val (.int p2), .val (.long p3), .second, .val (.ref b1), .val (.ref b4), .val .null, .unset, .unset, .unset] [.null, (.int p1), (.int p0), (.ref b4), (.ref b10), (.ref b10)])) rfl (by rw [hml]; rfl) (Steps.refl _) (a := b10) (argsL := [(.ref b4), (.int p0), (.int p1), .null]) (rest := [(.ref b10)]) (lenOf pd_8 rfl) rfl (by show 2 * 0 + _ ≤ _; exact Nat.le_of_eq rfl) (hb hby at_61) (fun _ _ => ⟨rfl, e10, (by decide : 7 + 0 ≤ _), (by decide : 48 + 0 ≤ _)⟩)
  dsimp only [Pt.U, Pt.locs, Pt.cells, Pt.slots] at X11 l11 y11 z11 st11 hQ11
  subst l11 y11 z11
  obtain ⟨rfl, Nq11, Kq11, fq11_0, fq11_1, fq11_2, fq11_3, fq11_4⟩ := hQ11
  have N11 := Fr.app N9 Nq11
  have CH11 := CH10.trans (CHr.keep Kq11 (allS own_safe0 all0) CH10.1)
  have hk11 := Nat.le_trans hk10 Kq11.1
  have O11 := O10.keep Kq11 (allS g_b10 all0)
  have K11 : Keep h0 T11.heap [] := K10.trans Kq11 (allS (Or.inr sz_b10) all0)
  obtain ⟨T12, h12, X12, e12, E12, A12, D12, -, st12⟩ := newO X11 hx hZ9 hown9 (hw _ (List.mem_of_getElem? (i := 53) rfl)) (hw _ (List.mem_of_getElem? (i := 54) rfl)) (hw _ (List.mem_of_getElem? (i := 55) rfl)) rfl (g := (mkF m 79 #[.val (.int p0), .val (.int p1), .val (.int p2), .val (.long p3), .second, .val (.ref b1), .val (.ref b4), .val .null, .val (.ref b10), .val (.int (1 : Int32)), .unset] [])) rfl (hb hby at_79) (by decide) (by decide)
  obtain ⟨b12, g12⟩ : ∃ z, z = T11.heap.size := ⟨_, rfl⟩
  rw [← g12] at A12 D12 st12
  have g_b12 : n0 ≤ b12 := Nat.le_trans (own_sz O11) (Nat.le_of_eq g12.symm)
  have sz_b12 : h0.size ≤ b12 := Nat.le_trans K11.1 (Nat.le_of_eq g12.symm)
  have O12 := O11.ext E12
  have K12 : Keep h0 h12 [] := K11.ext E12
  have CH12 := CH11.trans (CHr.ext E12 CH11.1)
  have hk12 := Nat.le_trans hk11 E12.1
  have F_operation_b12 : Fld Z h12 b12 "com/example/latchwork/latchwork/RecordedForm$Call" "operation" "Lcom/example/latchwork/latchwork/Operation;" .null := D12 (Or.inr (hw _ (List.mem_of_getElem? (i := 61) rfl))) (ty := (.object "com/example/latchwork/latchwork/Operation")) (by decide)
  have F_called_b12 : Fld Z h12 b12 "com/example/latchwork/latchwork/RecordedForm$Call" "called" "I" (.int (0 : Int32)) := D12 (Or.inr (hw _ (List.mem_of_getElem? (i := 63) rfl))) (ty := .int) (by decide)
  have F_answered_b12 : Fld Z h12 b12 "com/example/latchwork/latchwork/RecordedForm$Call" "answered" "I" (.int (0 : Int32)) := D12 (Or.inr (hw _ (List.mem_of_getElem? (i := 65) rfl))) (ty := .int) (by decide)
  have F_result_b12 : Fld Z h12 b12 "com/example/latchwork/latchwork/RecordedForm$Call" "result" "Ljava/lang/Object;" .null := D12 (Or.inr (hw _ (List.mem_of_getElem? (i := 67) rfl))) (ty := (.object "java/lang/Object")) (by decide)
  obtain ⟨_, _, ⟨T13, L13, k13, n13⟩, -, X13, ⟨Lc13, hQ13, l13, y13, z13⟩, st13⟩ := X12.specialBack hx (y := y9) rfl hown9 (mvT hZ9 (hw _ (List.mem_of_getElem? (i := 69) rfl))) (mvT hZ9 (hw _ (List.mem_of_getElem? (i := 70) rfl))) (mvT hZ9 (hw _ (List.mem_of_getElem? (i := 71) rfl))) (by decide) (backOf (W := 1) (rm11 l Z a0 hw [] w_lcache cs_v cl_lcache hp b12 b4 p0 h12 n0 O12 A12 F_operation_b12 F_called_b12 F_answered_b12 F_result_b12 g_b12) hZ9 (hw _ (List.mem_of_getElem? (i := 71) rfl)) (hw _ (List.mem_of_getElem? (i := 55) rfl)) (by decide) (by decide)) (g := (mkF m 86 #[.val (.int p0), .val (.int p1), .val (.int p2), .val (.long p3), .second, .val (.ref b1), .val (.ref b4), .val .null, .val (.ref b10), .val (.int (1 : Int32)), .unset] [(.int p0), (.ref b4), (.ref b12), (.ref b12)])) rfl (by rw [hml]; rfl) (Steps.refl _) (a := b12) (argsL := [(.ref b4), (.int p0)]) (rest := [(.ref b12)]) (lenOf pd_9 rfl) rfl (by show 2 * 0 + _ ≤ _; exact Nat.le_of_eq rfl) (hb hby at_86) (fun _ _ => ⟨rfl, e12, (by decide : 8 + 0 ≤ _), (by decide : 52 + 0 ≤ _)⟩)
  dsimp only [Pt.U, Pt.locs, Pt.cells, Pt.slots] at X13 l13 y13 z13 st13 hQ13
  subst l13 y13 z13
  obtain ⟨rfl, Nq13, Kq13, fq13_0, fq13_1, fq13_2, fq13_3, fq13_4⟩ := hQ13
  have N13 := Fr.app N11 Nq13
  have CH13 := CH12.trans (CHr.keep Kq13 (allS own_safe0 all0) CH12.1)
  have hk13 := Nat.le_trans hk12 Kq13.1
  have O13 := O12.keep Kq13 (allS g_b12 all0)
  have K13 : Keep h0 T13.heap [] := K12.trans Kq13 (allS (Or.inr sz_b12) all0)
  have f_14 := ((fq11_1.ext E12).keep Kq13 (ninS (Nat.ne_of_lt (Nat.lt_of_lt_of_le (A10.keep Kq11).lt (Nat.le_of_eq g12.symm))) nin0))
  obtain ⟨cq15, kq15, q15a, q15b, q15c⟩ := isOf hZ9 rfl ((fq11_0.ext E12).keep Kq13)
  obtain ⟨_, _, ⟨T15, L15, k15, n15⟩, -, X15, ⟨Lc15, hQ15, l15, y15, z15⟩, st15⟩ := X13.virtualBack hx (y := y10) (z := y10) hown9 (mvT hZ9 (hw _ (List.mem_of_getElem? (i := 74) rfl))) (mvT hZ9 (hw _ (List.mem_of_getElem? (i := 75) rfl))) (notFace_of_selects (args := #[]) (mvT hZ9 (hw _ (List.mem_of_getElem? (i := 77) rfl)))) (mvT hZ9 (hw _ (List.mem_of_getElem? (i := 77) rfl))) (mvT hZ9 (hw _ (List.mem_of_getElem? (i := 76) rfl))) (by decide) (backOf (W := 0) (rm12 l Z a0 hw [] w_lcache cs_v cl_lcache hp b10 p1 T13.heap n0 O13 f_14 (own_mx1 hc2)) hZ9 (hw _ (List.mem_of_getElem? (i := 78) rfl)) (hw _ (List.mem_of_getElem? (i := 55) rfl)) (by decide) (by decide)) q15a q15c (g := (mkF m 93 #[.val (.int p0), .val (.int p1), .val (.int p2), .val (.long p3), .second, .val (.ref b1), .val (.ref b4), .val .null, .val (.ref b10), .val (.int (1 : Int32)), .val (.ref b12)] [(.ref b10)])) rfl (by rw [hml]; rfl) (Steps.refl _) (argsL := []) (rest := []) (lenOf pd_10 rfl) rfl (by show 2 * 0 + _ ≤ _; exact Nat.le_of_eq rfl) (hb hby at_93) (fun _ _ => ⟨rfl, rfl, (by decide : 8 + 0 ≤ _), (by decide : 52 + 0 ≤ _)⟩)
  dsimp only [Pt.U, Pt.locs, Pt.cells, Pt.slots] at X15 l15 y15 z15 st15 hQ15
  subst l15 y15 z15
  obtain ⟨rfl, Nq15, eq15⟩ := hQ15
  have N15 := Fr.app N13 Nq15
  obtain ⟨cq16, kq16, q16a, q16b, q16c⟩ := isOf hZ9 eq15 fq13_0
  obtain ⟨_, _, ⟨T16, L16, k16, n16⟩, -, X16, ⟨Lc16, hQ16, l16, y16, z16⟩, st16⟩ := X15.virtualBack hx (y := y10) (z := y10) hown9 (mvT hZ9 (hw _ (List.mem_of_getElem? (i := 74) rfl))) (mvT hZ9 (hw _ (List.mem_of_getElem? (i := 75) rfl))) (notFace_of_selects (args := #[]) (mvT hZ9 (hw _ (List.mem_of_getElem? (i := 77) rfl)))) (mvT hZ9 (hw _ (List.mem_of_getElem? (i := 77) rfl))) (mvT hZ9 (hw _ (List.mem_of_getElem? (i := 76) rfl))) (by decide) (backOf (W := 0) (rm13 l Z a0 hw [] w_lcache cs_v cl_lcache hp b12 T13.heap n0 O13 fq13_1) hZ9 (hw _ (List.mem_of_getElem? (i := 78) rfl)) (hw _ (List.mem_of_getElem? (i := 55) rfl)) (by decide) (by decide)) q16a q16c (g := (mkF m 103 #[.val (.int p0), .val (.int p1), .val (.int p2), .val (.long p3), .second, .val (.ref b1), .val (.ref b4), .val .null, .val (.ref b10), .val (.int (1 : Int32)), .val (.ref b12)] [(.ref b12)])) rfl (by rw [hml]; rfl) (Steps.refl _) (argsL := []) (rest := []) (lenOf pd_10 rfl) rfl (by show 2 * 0 + _ ≤ _; exact Nat.le_of_eq rfl) (hb hby at_103) (fun _ _ => ⟨rfl, eq15, (by decide : 8 + 0 ≤ _), (by decide : 52 + 0 ≤ _)⟩)
  dsimp only [Pt.U, Pt.locs, Pt.cells, Pt.slots] at X16 l16 y16 z16 st16 hQ16
  subst l16 y16 z16
  obtain ⟨rfl, Nq16, eq16⟩ := hQ16
  have N16 := Fr.app N15 Nq16
  obtain ⟨fs, hr, hrun, hended, hE⟩ := Stand.leaveW (s := s) X16 hS9 (by rw [eq16]; exact hk13) (v := some (.int (1 : Int32))) (fun h => by rw [Bd.returns] at h; cases h)
  refine ⟨_, _, pre0 _ ?_, hrun, hended, _, _, rfl, ?_, hE.1, hE.2.1, hE.2.2.1, hE.2.2.2.mono (by decide) (by decide)⟩
  · show Sp p e below s₁ (mkF m 0 #[.val (.int p0), .val (.int p1), .val (.int p2), .val (.long p3), .second, .unset, .unset, .unset, .unset, .unset, .unset] []) _
    refine XS.iconst X0.here hx rfl (hb hby at_0) ?_
    show Sp p e below s₁ (mkF m 1 #[.val (.int p0), .val (.int p1), .val (.int p2), .val (.long p3), .second, .unset, .unset, .unset, .unset, .unset, .unset] [(.int (1 : Int32))]) _
    refine st1 _ ?_
    show Sp p e below T1 (mkF m 3 #[.val (.int p0), .val (.int p1), .val (.int p2), .val (.long p3), .second, .unset, .unset, .unset, .unset, .unset, .unset] [(.ref b1)]) _
    refine XS.astore X1.here hx rfl (hb hby at_3) rfl rfl (l' := #[.val (.int p0), .val (.int p1), .val (.int p2), .val (.long p3), .second, .val (.ref b1), .unset, .unset, .unset, .unset, .unset]) rfl ?_
    show Sp p e below T1 (mkF m 5 #[.val (.int p0), .val (.int p1), .val (.int p2), .val (.long p3), .second, .val (.ref b1), .unset, .unset, .unset, .unset, .unset] []) _
    refine XS.aload X1.here hx rfl (hb hby at_5) rfl rfl ?_
    show Sp p e below T1 (mkF m 7 #[.val (.int p0), .val (.int p1), .val (.int p2), .val (.long p3), .second, .val (.ref b1), .unset, .unset, .unset, .unset, .unset] [(.ref b1)]) _
    refine XS.iconst X1.here hx rfl (hb hby at_7) ?_
    show Sp p e below T1 (mkF m 8 #[.val (.int p0), .val (.int p1), .val (.int p2), .val (.long p3), .second, .val (.ref b1), .unset, .unset, .unset, .unset, .unset] [(.int (0 : Int32)), (.ref b1)]) _
    refine XS.iloadN X1.here hx rfl (hb hby at_8) rfl ?_
    show Sp p e below T1 (mkF m 9 #[.val (.int p0), .val (.int p1), .val (.int p2), .val (.long p3), .second, .val (.ref b1), .unset, .unset, .unset, .unset, .unset] [(.int p2), (.int (0 : Int32)), (.ref b1)]) _
    refine XS.sipush X1.here hx rfl (hb hby at_9) ?_
    show Sp p e below T1 (mkF m 12 #[.val (.int p0), .val (.int p1), .val (.int p2), .val (.long p3), .second, .val (.ref b1), .unset, .unset, .unset, .unset, .unset] [(.int (255 : Int32)), (.int p2), (.int (0 : Int32)), (.ref b1)]) _
    refine XS.iand X1.here hx rfl (hb hby at_12) rfl ?_
    show Sp p e below T1 (mkF m 13 #[.val (.int p0), .val (.int p1), .val (.int p2), .val (.long p3), .second, .val (.ref b1), .unset, .unset, .unset, .unset, .unset] [(.int (p2 &&& (255 : Int32))), (.int (0 : Int32)), (.ref b1)]) _
    refine XS.i2c X1.here hx rfl (hb hby at_13) rfl ?_
    show Sp p e below T1 (mkF m 14 #[.val (.int p0), .val (.int p1), .val (.int p2), .val (.long p3), .second, .val (.ref b1), .unset, .unset, .unset, .unset, .unset] [(.int ((p2 &&& (255 : Int32)).toUInt32.toUInt16.toUInt32.toInt32)), (.int (0 : Int32)), (.ref b1)]) _
    refine st3 _ ?_
    show Sp p e below T3 (mkF m 15 #[.val (.int p0), .val (.int p1), .val (.int p2), .val (.long p3), .second, .val (.ref b1), .unset, .unset, .unset, .unset, .unset] []) _
    refine st4 _ ?_
    show Sp p e below T4 (mkF m 18 #[.val (.int p0), .val (.int p1), .val (.int p2), .val (.long p3), .second, .val (.ref b1), .unset, .unset, .unset, .unset, .unset] [(.ref b4)]) _
    refine XS.dup X4.here hx rfl (hb hby at_18) rfl rfl ?_
    show Sp p e below T4 (mkF m 19 #[.val (.int p0), .val (.int p1), .val (.int p2), .val (.long p3), .second, .val (.ref b1), .unset, .unset, .unset, .unset, .unset] [(.ref b4), (.ref b4)]) _
    refine st5 _ ?_
    show Sp p e below T5 (mkF m 22 #[.val (.int p0), .val (.int p1), .val (.int p2), .val (.long p3), .second, .val (.ref b1), .unset, .unset, .unset, .unset, .unset] [(.ref b5), (.ref b4), (.ref b4)]) _
    refine XS.dup X5.here hx rfl (hb hby at_22) rfl rfl ?_
    show Sp p e below T5 (mkF m 23 #[.val (.int p0), .val (.int p1), .val (.int p2), .val (.long p3), .second, .val (.ref b1), .unset, .unset, .unset, .unset, .unset] [(.ref b5), (.ref b5), (.ref b4), (.ref b4)]) _
    refine XS.aload X5.here hx rfl (hb hby at_23) rfl rfl ?_
    show Sp p e below T5 (mkF m 25 #[.val (.int p0), .val (.int p1), .val (.int p2), .val (.long p3), .second, .val (.ref b1), .unset, .unset, .unset, .unset, .unset] [(.ref b1), (.ref b5), (.ref b5), (.ref b4), (.ref b4)]) _
    refine st6.trans ?_
    show Sp p e below T6 (mkF m 28 #[.val (.int p0), .val (.int p1), .val (.int p2), .val (.long p3), .second, .val (.ref b1), .unset, .unset, .unset, .unset, .unset] [(.ref b5), (.ref b4), (.ref b4)]) _
    refine XS.aconstNull X6.here hx rfl (hb hby at_28) ?_
    show Sp p e below T6 (mkF m 29 #[.val (.int p0), .val (.int p1), .val (.int p2), .val (.long p3), .second, .val (.ref b1), .unset, .unset, .unset, .unset, .unset] [.null, (.ref b5), (.ref b4), (.ref b4)]) _
    refine st9.trans ?_
    show Sp p e below T9 (mkF m 32 #[.val (.int p0), .val (.int p1), .val (.int p2), .val (.long p3), .second, .val (.ref b1), .unset, .unset, .unset, .unset, .unset] [(.ref b4)]) _
    refine XS.astore X9.here hx rfl (hb hby at_32) rfl rfl (l' := #[.val (.int p0), .val (.int p1), .val (.int p2), .val (.long p3), .second, .val (.ref b1), .val (.ref b4), .unset, .unset, .unset, .unset]) rfl ?_
    show Sp p e below T9 (mkF m 34 #[.val (.int p0), .val (.int p1), .val (.int p2), .val (.long p3), .second, .val (.ref b1), .val (.ref b4), .unset, .unset, .unset, .unset] []) _
    refine XS.aconstNull X9.here hx rfl (hb hby at_34) ?_
    show Sp p e below T9 (mkF m 35 #[.val (.int p0), .val (.int p1), .val (.int p2), .val (.long p3), .second, .val (.ref b1), .val (.ref b4), .unset, .unset, .unset, .unset] [.null]) _
    refine XS.astore X9.here hx rfl (hb hby at_35) rfl rfl (l' := #[.val (.int p0), .val (.int p1), .val (.int p2), .val (.long p3), .second, .val (.ref b1), .val (.ref b4), .val .null, .unset, .unset, .unset]) rfl ?_
    show Sp p e below T9 (mkF m 37 #[.val (.int p0), .val (.int p1), .val (.int p2), .val (.long p3), .second, .val (.ref b1), .val (.ref b4), .val .null, .unset, .unset, .unset] []) _
    refine XS.iloadN X9.here hx rfl (hb hby at_37) rfl ?_
    show Sp p e below T9 (mkF m 38 #[.val (.int p0), .val (.int p1), .val (.int p2), .val (.long p3), .second, .val (.ref b1), .val (.ref b4), .val .null, .unset, .unset, .unset] [(.int p2)]) _
    refine XS.sipush X9.here hx rfl (hb hby at_38) ?_
    show Sp p e below T9 (mkF m 41 #[.val (.int p0), .val (.int p1), .val (.int p2), .val (.long p3), .second, .val (.ref b1), .val (.ref b4), .val .null, .unset, .unset, .unset] [(.int (256 : Int32)), (.int p2)]) _
    refine XS.iand X9.here hx rfl (hb hby at_41) rfl ?_
    show Sp p e below T9 (mkF m 42 #[.val (.int p0), .val (.int p1), .val (.int p2), .val (.long p3), .second, .val (.ref b1), .val (.ref b4), .val .null, .unset, .unset, .unset] [(.int (p2 &&& (256 : Int32)))]) _
    refine XS.ifYes X9.here hx rfl (pc0 := 42) (pc' := 51) rfl (hb hby at_42) rfl ((if0 _ _).trans (teq hc1).1) (by decide) (by decide) ?_
    show Sp p e below T9 (mkF m 51 #[.val (.int p0), .val (.int p1), .val (.int p2), .val (.long p3), .second, .val (.ref b1), .val (.ref b4), .val .null, .unset, .unset, .unset] []) _
    refine st10 _ ?_
    show Sp p e below T10 (mkF m 54 #[.val (.int p0), .val (.int p1), .val (.int p2), .val (.long p3), .second, .val (.ref b1), .val (.ref b4), .val .null, .unset, .unset, .unset] [(.ref b10)]) _
    refine XS.dup X10.here hx rfl (hb hby at_54) rfl rfl ?_
    show Sp p e below T10 (mkF m 55 #[.val (.int p0), .val (.int p1), .val (.int p2), .val (.long p3), .second, .val (.ref b1), .val (.ref b4), .val .null, .unset, .unset, .unset] [(.ref b10), (.ref b10)]) _
    refine XS.aload X10.here hx rfl (hb hby at_55) rfl rfl ?_
    show Sp p e below T10 (mkF m 57 #[.val (.int p0), .val (.int p1), .val (.int p2), .val (.long p3), .second, .val (.ref b1), .val (.ref b4), .val .null, .unset, .unset, .unset] [(.ref b4), (.ref b10), (.ref b10)]) _
    refine XS.iloadN X10.here hx rfl (hb hby at_57) rfl ?_
    show Sp p e below T10 (mkF m 58 #[.val (.int p0), .val (.int p1), .val (.int p2), .val (.long p3), .second, .val (.ref b1), .val (.ref b4), .val .null, .unset, .unset, .unset] [(.int p0), (.ref b4), (.ref b10), (.ref b10)]) _
    refine XS.iloadN X10.here hx rfl (hb hby at_58) rfl ?_
    show Sp p e below T10 (mkF m 59 #[.val (.int p0), .val (.int p1), .val (.int p2), .val (.long p3), .second, .val (.ref b1), .val (.ref b4), .val .null, .unset, .unset, .unset] [(.int p1), (.int p0), (.ref b4), (.ref b10), (.ref b10)]) _
    refine XS.aload X10.here hx rfl (hb hby at_59) rfl rfl ?_
    show Sp p e below T10 (mkF m 61 #[.val (.int p0), .val (.int p1), .val (.int p2), .val (.long p3), .second, .val (.ref b1), .val (.ref b4), .val .null, .unset, .unset, .unset] [.null, (.int p1), (.int p0), (.ref b4), (.ref b10), (.ref b10)]) _
    refine st11.trans ?_
    show Sp p e below T11 (mkF m 64 #[.val (.int p0), .val (.int p1), .val (.int p2), .val (.long p3), .second, .val (.ref b1), .val (.ref b4), .val .null, .unset, .unset, .unset] [(.ref b10)]) _
    refine XS.astore X11.here hx rfl (hb hby at_64) rfl rfl (l' := #[.val (.int p0), .val (.int p1), .val (.int p2), .val (.long p3), .second, .val (.ref b1), .val (.ref b4), .val .null, .val (.ref b10), .unset, .unset]) rfl ?_
    show Sp p e below T11 (mkF m 66 #[.val (.int p0), .val (.int p1), .val (.int p2), .val (.long p3), .second, .val (.ref b1), .val (.ref b4), .val .null, .val (.ref b10), .unset, .unset] []) _
    refine XS.iloadN X11.here hx rfl (hb hby at_66) rfl ?_
    show Sp p e below T11 (mkF m 67 #[.val (.int p0), .val (.int p1), .val (.int p2), .val (.long p3), .second, .val (.ref b1), .val (.ref b4), .val .null, .val (.ref b10), .unset, .unset] [(.int p1)]) _
    refine X11.ldcI hx hown9 (mvT hZ9 (hw _ (List.mem_of_getElem? (i := 68) rfl))) rfl (hb hby at_67) ?_
    show Sp p e below T11 (mkF m 69 #[.val (.int p0), .val (.int p1), .val (.int p2), .val (.long p3), .second, .val (.ref b1), .val (.ref b4), .val .null, .val (.ref b10), .unset, .unset] [(.int (2147483647 : Int32)), (.int p1)]) _
    refine XS.icmpNo X11.here hx rfl (hb hby at_69) rfl (tlt hc2).2.1 ?_
    show Sp p e below T11 (mkF m 72 #[.val (.int p0), .val (.int p1), .val (.int p2), .val (.long p3), .second, .val (.ref b1), .val (.ref b4), .val .null, .val (.ref b10), .unset, .unset] []) _
    refine XS.iconst X11.here hx rfl (hb hby at_72) ?_
    show Sp p e below T11 (mkF m 73 #[.val (.int p0), .val (.int p1), .val (.int p2), .val (.long p3), .second, .val (.ref b1), .val (.ref b4), .val .null, .val (.ref b10), .unset, .unset] [(.int (1 : Int32))]) _
    refine XS.goto X11.here hx rfl (pc0 := 73) (pc' := 77) rfl (hb hby at_73) (by decide) (by decide) ?_
    show Sp p e below T11 (mkF m 77 #[.val (.int p0), .val (.int p1), .val (.int p2), .val (.long p3), .second, .val (.ref b1), .val (.ref b4), .val .null, .val (.ref b10), .unset, .unset] [(.int (1 : Int32))]) _
    refine XS.istore X11.here hx rfl (hb hby at_77) rfl (l' := #[.val (.int p0), .val (.int p1), .val (.int p2), .val (.long p3), .second, .val (.ref b1), .val (.ref b4), .val .null, .val (.ref b10), .val (.int (1 : Int32)), .unset]) rfl ?_
    show Sp p e below T11 (mkF m 79 #[.val (.int p0), .val (.int p1), .val (.int p2), .val (.long p3), .second, .val (.ref b1), .val (.ref b4), .val .null, .val (.ref b10), .val (.int (1 : Int32)), .unset] []) _
    refine st12 _ ?_
    show Sp p e below T12 (mkF m 82 #[.val (.int p0), .val (.int p1), .val (.int p2), .val (.long p3), .second, .val (.ref b1), .val (.ref b4), .val .null, .val (.ref b10), .val (.int (1 : Int32)), .unset] [(.ref b12)]) _
    refine XS.dup X12.here hx rfl (hb hby at_82) rfl rfl ?_
    show Sp p e below T12 (mkF m 83 #[.val (.int p0), .val (.int p1), .val (.int p2), .val (.long p3), .second, .val (.ref b1), .val (.ref b4), .val .null, .val (.ref b10), .val (.int (1 : Int32)), .unset] [(.ref b12), (.ref b12)]) _
    refine XS.aload X12.here hx rfl (hb hby at_83) rfl rfl ?_
    show Sp p e below T12 (mkF m 85 #[.val (.int p0), .val (.int p1), .val (.int p2), .val (.long p3), .second, .val (.ref b1), .val (.ref b4), .val .null, .val (.ref b10), .val (.int (1 : Int32)), .unset] [(.ref b4), (.ref b12), (.ref b12)]) _
    refine XS.iloadN X12.here hx rfl (hb hby at_85) rfl ?_
    show Sp p e below T12 (mkF m 86 #[.val (.int p0), .val (.int p1), .val (.int p2), .val (.long p3), .second, .val (.ref b1), .val (.ref b4), .val .null, .val (.ref b10), .val (.int (1 : Int32)), .unset] [(.int p0), (.ref b4), (.ref b12), (.ref b12)]) _
    refine st13.trans ?_
    show Sp p e below T13 (mkF m 89 #[.val (.int p0), .val (.int p1), .val (.int p2), .val (.long p3), .second, .val (.ref b1), .val (.ref b4), .val .null, .val (.ref b10), .val (.int (1 : Int32)), .unset] [(.ref b12)]) _
    refine XS.astore X13.here hx rfl (hb hby at_89) rfl rfl (l' := #[.val (.int p0), .val (.int p1), .val (.int p2), .val (.long p3), .second, .val (.ref b1), .val (.ref b4), .val .null, .val (.ref b10), .val (.int (1 : Int32)), .val (.ref b12)]) rfl ?_
    show Sp p e below T13 (mkF m 91 #[.val (.int p0), .val (.int p1), .val (.int p2), .val (.long p3), .second, .val (.ref b1), .val (.ref b4), .val .null, .val (.ref b10), .val (.int (1 : Int32)), .val (.ref b12)] []) _
    refine XS.aload X13.here hx rfl (hb hby at_91) rfl rfl ?_
    show Sp p e below T13 (mkF m 93 #[.val (.int p0), .val (.int p1), .val (.int p2), .val (.long p3), .second, .val (.ref b1), .val (.ref b4), .val .null, .val (.ref b10), .val (.int (1 : Int32)), .val (.ref b12)] [(.ref b10)]) _
    refine st15.trans ?_
    show Sp p e below T15 (mkF m 96 #[.val (.int p0), .val (.int p1), .val (.int p2), .val (.long p3), .second, .val (.ref b1), .val (.ref b4), .val .null, .val (.ref b10), .val (.int (1 : Int32)), .val (.ref b12)] [(.int (1 : Int32))]) _
    refine XS.iload X15.here hx rfl (hb hby at_96) rfl ?_
    show Sp p e below T15 (mkF m 98 #[.val (.int p0), .val (.int p1), .val (.int p2), .val (.long p3), .second, .val (.ref b1), .val (.ref b4), .val .null, .val (.ref b10), .val (.int (1 : Int32)), .val (.ref b12)] [(.int (1 : Int32)), (.int (1 : Int32))]) _
    refine XS.icmpNo X15.here hx rfl (hb hby at_98) rfl (teq (by decide : (1 : Int32) = (1 : Int32))).2 ?_
    show Sp p e below T15 (mkF m 101 #[.val (.int p0), .val (.int p1), .val (.int p2), .val (.long p3), .second, .val (.ref b1), .val (.ref b4), .val .null, .val (.ref b10), .val (.int (1 : Int32)), .val (.ref b12)] []) _
    refine XS.aload X15.here hx rfl (hb hby at_101) rfl rfl ?_
    show Sp p e below T15 (mkF m 103 #[.val (.int p0), .val (.int p1), .val (.int p2), .val (.long p3), .second, .val (.ref b1), .val (.ref b4), .val .null, .val (.ref b10), .val (.int (1 : Int32)), .val (.ref b12)] [(.ref b12)]) _
    refine st16.trans ?_
    show Sp p e below T16 (mkF m 106 #[.val (.int p0), .val (.int p1), .val (.int p2), .val (.long p3), .second, .val (.ref b1), .val (.ref b4), .val .null, .val (.ref b10), .val (.int (1 : Int32)), .val (.ref b12)] [(.int (0 : Int32))]) _
    refine XS.ifNo X16.here hx rfl (hb hby at_106) rfl ((if0 _ _).trans (teq (by decide : (0 : Int32) = (0 : Int32))).2) ?_
    show Sp p e below T16 (mkF m 109 #[.val (.int p0), .val (.int p1), .val (.int p2), .val (.long p3), .second, .val (.ref b1), .val (.ref b4), .val .null, .val (.ref b10), .val (.int (1 : Int32)), .val (.ref b12)] []) _
    refine XS.iconst X16.here hx rfl (hb hby at_109) ?_
    show Sp p e below T16 (mkF m 110 #[.val (.int p0), .val (.int p1), .val (.int p2), .val (.long p3), .second, .val (.ref b1), .val (.ref b4), .val .null, .val (.ref b10), .val (.int (1 : Int32)), .val (.ref b12)] [(.int (1 : Int32))]) _
    refine XS.goto X16.here hx rfl (pc0 := 110) (pc' := 114) rfl (hb hby at_110) (by decide) (by decide) ?_
    show Sp p e below T16 (mkF m 114 #[.val (.int p0), .val (.int p1), .val (.int p2), .val (.long p3), .second, .val (.ref b1), .val (.ref b4), .val .null, .val (.ref b10), .val (.int (1 : Int32)), .val (.ref b12)] [(.int (1 : Int32))]) _
    exact retN X16 hx (t := .boolean) Bd.returns (by simp) (hb hby at_114) hr
  · skip
    exact ⟨rfl, N16⟩
theorem d13_0 : decode jdk_35_method_24_code 0 = .ok (.sipush 128, 3) := by decide +kernel
theorem d13_3 : decode jdk_35_method_24_code 3 = .ok (.istore_n 2, 1) := by decide +kernel
theorem d13_4 : decode jdk_35_method_24_code 4 = .ok (.lload_n 0, 1) := by decide +kernel
theorem d13_5 : decode jdk_35_method_24_code 5 = .ok (.ldc2_w 230, 3) := by decide +kernel
theorem d13_8 : decode jdk_35_method_24_code 8 = .ok (.lcmp, 1) := by decide +kernel
theorem d13_9 : decode jdk_35_method_24_code 9 = .ok (.ifCond .lt 22, 3) := by decide +kernel
theorem d13_31 : decode jdk_35_method_24_code 31 = .ok (.new 1, 3) := by decide +kernel
theorem d13_34 : decode jdk_35_method_24_code 34 = .ok (.dup, 1) := by decide +kernel
theorem d13_35 : decode jdk_35_method_24_code 35 = .ok (.lload_n 0, 1) := by decide +kernel
theorem d13_36 : decode jdk_35_method_24_code 36 = .ok (.invokespecial 240, 3) := by decide +kernel
theorem d14_0 : decode jdk_35_method_26_code 0 = .ok (.aload_n 0, 1) := by decide +kernel
theorem d14_1 : decode jdk_35_method_26_code 1 = .ok (.invokespecial 270, 3) := by decide +kernel
theorem d15_0 : decode jdk_18_method_1_code 0 = .ok (.aload_n 0, 1) := by decide +kernel
theorem d15_1 : decode jdk_18_method_1_code 1 = .ok (.invokespecial 1, 3) := by decide +kernel
theorem d15_4 : decode jdk_18_method_1_code 4 = .ok (.return_, 1) := by decide +kernel
abbrev y11 : MethodName := (⟨"java/lang/Number", "<init>", "()V"⟩ : MethodName)
theorem ef_15_0 (m : MethodId) (x0 : Addr) : entryFrame m #[(.ref x0)] 1 = mkF m 0 #[.val (.ref x0)] [] := by first | (simp [entryFrame, mkF, argsToLocals, Value.category]; done) | rfl
theorem pn_15 : plainName "java/lang/Number" = true := by first | (simp [plainName, overriddenIn]; done) | decide +kernel
def Q15 (Z : State) (w_lcache : Addr) (cs_v : Int32) (cl_lcache : Cell) (a1 : Addr) (h0 : Heap) (n0 : Nat) (v : Option Value) (h : Heap) (L : List Loc) : Prop := v = none ∧ Fr n0 L ∧ h = h0
set_option maxRecDepth 65536 in
set_option maxHeartbeats 40000000 in
theorem rm15 (l : Launch) (Z : State) (a0 : Array Value) (hw : ∀ d ∈ tables_1, d.before a0 Z = true) (ws : List Jvm.Cond) (w_lcache : Addr) (cs_v : Int32) (cl_lcache : Cell) (hp : Perm Z w_lcache cs_v cl_lcache) (a1 : Addr) (h0 : Heap) (n0 : Nat) (O0 : Old Z n0 h0) :
    MetFree l y11 (head1 (Jvm.Cond.code y11 jdk_18_method_1_code 1 none :: ws) ({ frames := 1, cells := 0, slots := 0, locals := 12 } : Room)) (fun a U => a = #[(.ref a1)] ∧ Z.Warmed39 U.vm ∧ U.heap = h0) (fun _ _ _ _ _ => True) (fun _ U o U' => ∃ v L, o = .returned v ∧ Q15 Z w_lcache cs_v cl_lcache a1 h0 n0 v U'.heap L ∧ FrameEnd U o U' L ({ frames := 1, cells := 0, slots := 0, locals := 12 } : Room).cells ({ frames := 1, cells := 0, slots := 0, locals := 12 } : Room).slots) := by
  refine MetFree.of_bodySF (plainFor_of_name pn_15) hisR ?_
  intro p e s m args below meth c s₁ Bd hml0 hP hK
  obtain ⟨rfl, hZ, hh⟩ := hP
  have hx := Bd.exec
  have hby := Bd.bytes
  have hml : c.maxLocals = 1 := hml0
  have hown : s.vm.findClass "java/lang/Number" = some m.cls := findClass_of_methodNamed Bd.named
  have hnm := (name_of_methodNamed Bd.named Bd.method).1
  have X0 : Stand p l e ({ frames := 1, cells := 0, slots := 0, locals := 12 } : Room) s m #[(.ref a1)] below meth c s₁ [] 0 0 := Stand.of_body Bd
  have e0 : s₁.heap = h0 := by rw [← hh, Bd.state]; rfl
  have N0 := Fr.nil n0
  have hp' := hp
  obtain ⟨S_COMPACT_STRINGS, h_cs, S_w_lcache, B_lcache⟩ := hp'
  have pre0 : ∀ t, Steps p.tables e below (s₁.setTop (mkF m 0 #[.val (.ref a1)] [])) t → Steps p.tables e below (s₁.setTop (entryFrame m #[(.ref a1)] 1)) t := fun t k => castTop (ef_15_0 m a1) k
  obtain ⟨T1, X1, e1, st1⟩ := initO X0 hx hZ hown (hw _ (List.mem_of_getElem? (i := 96) rfl)) (hw _ (List.mem_of_getElem? (i := 15) rfl)) (hw _ (List.mem_of_getElem? (i := 16) rfl)) e0 (g := (mkF m 1 #[.val (.ref a1)] [(.ref a1)])) rfl (by rw [hml]; rfl) rfl (hb hby d15_1) (by decide) (W := 0) (by show 2 * 0 + _ ≤ _; exact Nat.le_of_eq rfl) (by decide)
  obtain ⟨fs, hr, hrun, hended, hW, hsame⟩ := X1.leave (v := none) (fun _ => rfl)
  refine ⟨_, _, pre0 _ ?_, hrun, hended, _, _, rfl, ?_, ⟨_, rfl⟩, hW, hsame.mono (by decide) (by decide)⟩
  · show Sp p e below s₁ (mkF m 0 #[.val (.ref a1)] []) _
    refine XS.aloadN X0.here hx rfl (hb hby d15_0) rfl rfl ?_
    show Sp p e below s₁ (mkF m 1 #[.val (.ref a1)] [(.ref a1)]) _
    refine st1 _ ?_
    show Sp p e below T1 (mkF m 4 #[.val (.ref a1)] []) _
    exact X1.returnOut hx Bd.returns (hb hby d15_4) hr
  · show Q15 Z w_lcache cs_v cl_lcache a1 h0 n0 _ T1.heap _
    rw [e1]
    exact ⟨rfl, N0, rfl⟩
theorem d14_4 : decode jdk_35_method_26_code 4 = .ok (.aload_n 0, 1) := by decide +kernel
theorem d14_5 : decode jdk_35_method_26_code 5 = .ok (.lload_n 1, 1) := by decide +kernel
theorem d14_6 : decode jdk_35_method_26_code 6 = .ok (.putfield 273, 3) := by decide +kernel
theorem d14_9 : decode jdk_35_method_26_code 9 = .ok (.return_, 1) := by decide +kernel
abbrev y12 : MethodName := (⟨"java/lang/Long", "<init>", "(J)V"⟩ : MethodName)
theorem ef_14_0 (m : MethodId) (x0 : Addr) (x1 : Int64) : entryFrame m #[(.ref x0), (.long x1)] 3 = mkF m 0 #[.val (.ref x0), .val (.long x1), .second] [] := by first | (simp [entryFrame, mkF, argsToLocals, Value.category]; done) | rfl
theorem pn_14 : plainName "java/lang/Long" = true := by first | (simp [plainName, overriddenIn]; done) | decide +kernel
def Q16 (Z : State) (w_lcache : Addr) (cs_v : Int32) (cl_lcache : Cell) (a1 : Addr) (q2 : Int64) (h0 : Heap) (n0 : Nat) (v : Option Value) (h : Heap) (L : List Loc) : Prop := v = none ∧ Fr n0 L ∧ Keep h0 h [a1] ∧ Exa Z h a1 "java/lang/Long" ∧ Fld Z h a1 "java/lang/Long" "value" "J" (.long q2)
set_option maxRecDepth 65536 in
set_option maxHeartbeats 40000000 in
theorem rm16 (l : Launch) (Z : State) (a0 : Array Value) (hw : ∀ d ∈ tables_1, d.before a0 Z = true) (ws : List Jvm.Cond) (w_lcache : Addr) (cs_v : Int32) (cl_lcache : Cell) (hp : Perm Z w_lcache cs_v cl_lcache) (a1 : Addr) (q2 : Int64) (h0 : Heap) (n0 : Nat) (O0 : Old Z n0 h0) (E_a1 : Exa Z h0 a1 "java/lang/Long") (F_value_a1 : Fld Z h0 a1 "java/lang/Long" "value" "J" (.long (0 : Int64))) (g_a1 : n0 ≤ a1) :
    MetFree l y12 (head1 (Jvm.Cond.code y12 jdk_35_method_26_code 3 none :: ws) ({ frames := 2, cells := 0, slots := 0, locals := 24 } : Room)) (fun a U => a = #[(.ref a1), (.long q2)] ∧ Z.Warmed39 U.vm ∧ U.heap = h0) (fun _ _ _ _ _ => True) (fun _ U o U' => ∃ v L, o = .returned v ∧ Q16 Z w_lcache cs_v cl_lcache a1 q2 h0 n0 v U'.heap L ∧ FrameEnd U o U' L ({ frames := 2, cells := 0, slots := 0, locals := 24 } : Room).cells ({ frames := 2, cells := 0, slots := 0, locals := 24 } : Room).slots) := by
  refine MetFree.of_bodySF (plainFor_of_name pn_14) hisR ?_
  intro p e s m args below meth c s₁ Bd hml0 hP hK
  obtain ⟨rfl, hZ, hh⟩ := hP
  have hx := Bd.exec
  have hby := Bd.bytes
  have hml : c.maxLocals = 3 := hml0
  have hown : s.vm.findClass "java/lang/Long" = some m.cls := findClass_of_methodNamed Bd.named
  have hnm := (name_of_methodNamed Bd.named Bd.method).1
  have X0 : Stand p l e ({ frames := 2, cells := 0, slots := 0, locals := 24 } : Room) s m #[(.ref a1), (.long q2)] below meth c s₁ [] 0 0 := Stand.of_body Bd
  have e0 : s₁.heap = h0 := by rw [← hh, Bd.state]; rfl
  have N0 := Fr.nil n0
  have hp' := hp
  obtain ⟨S_COMPACT_STRINGS, h_cs, S_w_lcache, B_lcache⟩ := hp'
  have pre0 : ∀ t, Steps p.tables e below (s₁.setTop (mkF m 0 #[.val (.ref a1), .val (.long q2), .second] [])) t → Steps p.tables e below (s₁.setTop (entryFrame m #[(.ref a1), (.long q2)] 3)) t := fun t k => castTop (ef_14_0 m a1 q2) k
  obtain ⟨_, _, ⟨T1, L1, k1, n1⟩, -, X1, ⟨Lc1, hQ1, l1, y1, z1⟩, st1⟩ := X0.specialBack hx (y := y11) rfl hown (mvT hZ (hw _ (List.mem_of_getElem? (i := 90) rfl))) (mvT hZ (hw _ (List.mem_of_getElem? (i := 91) rfl))) (mvT hZ (hw _ (List.mem_of_getElem? (i := 95) rfl))) (by decide) (backOf (W := 0) (rm15 l Z a0 hw [] w_lcache cs_v cl_lcache hp a1 h0 n0 O0) hZ (hw _ (List.mem_of_getElem? (i := 95) rfl)) (hw _ (List.mem_of_getElem? (i := 94) rfl)) (by decide) (by decide)) (g := (mkF m 1 #[.val (.ref a1), .val (.long q2), .second] [(.ref a1)])) rfl (by rw [hml]; rfl) (Steps.refl _) (a := a1) (argsL := []) (rest := []) (lenOf pd_5 rfl) rfl (by show 2 * 0 + _ ≤ _; exact Nat.le_of_eq rfl) (hb hby d14_1) (fun _ _ => ⟨rfl, e0, (by decide : 0 + 0 ≤ _), (by decide : 0 + 0 ≤ _)⟩)
  dsimp only [Pt.U, Pt.locs, Pt.cells, Pt.slots] at X1 l1 y1 z1 st1 hQ1
  subst l1 y1 z1
  obtain ⟨rfl, Nq1, eq1⟩ := hQ1
  have N1 := Fr.app N0 Nq1
  obtain ⟨T2, h2, X2, e2, W2, st2⟩ := putF X1 hx hZ hown (host := "") (Or.inl (hw _ (List.mem_of_getElem? (i := 97) rfl))) Via.refl eq1 F_value_a1 E_a1 (Or.inr ⟨(hw _ (List.mem_of_getElem? (i := 98) rfl)), rfl, hnm⟩) (hw _ (List.mem_of_getElem? (i := 85) rfl)) (ty := .long) (by decide) rfl rfl (g := (mkF m 6 #[.val (.ref a1), .val (.long q2), .second] [(.long q2), (.ref a1)])) rfl rfl (hb hby d14_6)
  have N2 := Fr.snoc X2 N1 g_a1
  have O2 := O0.wr W2 g_a1
  have K2 : Keep h0 h2 [a1] := (Keep.refl h0 [a1]).wr W2 (Or.inl (List.mem_of_getElem? (i := 0) rfl))
  have Fw2 := F_value_a1.same W2
  obtain ⟨fs, hr, hrun, hended, hW, hsame⟩ := X2.leave (v := none) (fun _ => rfl)
  refine ⟨_, _, pre0 _ ?_, hrun, hended, _, _, rfl, ?_, ⟨_, rfl⟩, hW, hsame.mono (by decide) (by decide)⟩
  · show Sp p e below s₁ (mkF m 0 #[.val (.ref a1), .val (.long q2), .second] []) _
    refine XS.aloadN X0.here hx rfl (hb hby d14_0) rfl rfl ?_
    show Sp p e below s₁ (mkF m 1 #[.val (.ref a1), .val (.long q2), .second] [(.ref a1)]) _
    refine st1.trans ?_
    show Sp p e below T1 (mkF m 4 #[.val (.ref a1), .val (.long q2), .second] []) _
    refine XS.aloadN X1.here hx rfl (hb hby d14_4) rfl rfl ?_
    show Sp p e below T1 (mkF m 5 #[.val (.ref a1), .val (.long q2), .second] [(.ref a1)]) _
    refine XS.lloadN X1.here hx rfl (hb hby d14_5) rfl ?_
    show Sp p e below T1 (mkF m 6 #[.val (.ref a1), .val (.long q2), .second] [(.long q2), (.ref a1)]) _
    refine st2 _ ?_
    show Sp p e below T2 (mkF m 9 #[.val (.ref a1), .val (.long q2), .second] []) _
    exact X2.returnOut hx Bd.returns (hb hby d14_9) hr
  · show Q16 Z w_lcache cs_v cl_lcache a1 q2 h0 n0 _ T2.heap _
    rw [e2]
    exact ⟨rfl, N2, K2, (E_a1.wr W2), Fw2⟩
theorem pd_11 : parseMethodDescriptor "(J)V" = some ⟨[.long], none⟩ := by decide +kernel
theorem d13_39 : decode jdk_35_method_24_code 39 = .ok (.areturn, 1) := by decide +kernel
abbrev y13 : MethodName := (⟨"java/lang/Long", "valueOf", "(J)Ljava/lang/Long;"⟩ : MethodName)
theorem ef_13_0 (m : MethodId) (x0 : Int64) : entryFrame m #[(.long x0)] 3 = mkF m 0 #[.val (.long x0), .second, .unset] [] := by first | (simp [entryFrame, mkF, argsToLocals, Value.category]; done) | rfl
def Q17 (Z : State) (w_lcache : Addr) (cs_v : Int32) (cl_lcache : Cell) (q1 : Int64) (h0 : Heap) (n0 : Nat) (v : Option Value) (h : Heap) (L : List Loc) : Prop := ∃ (b1 : Addr), v = some (.ref b1) ∧ Fr n0 L ∧ Keep h0 h [] ∧ h0.size ≤ b1 ∧ Exa Z h b1 "java/lang/Long" ∧ Fld Z h b1 "java/lang/Long" "value" "J" (.long q1)
set_option maxRecDepth 65536 in
set_option maxHeartbeats 40000000 in
theorem rm17 (l : Launch) (Z : State) (a0 : Array Value) (hw : ∀ d ∈ tables_1, d.before a0 Z = true) (ws : List Jvm.Cond) (w_lcache : Addr) (cs_v : Int32) (cl_lcache : Cell) (hp : Perm Z w_lcache cs_v cl_lcache) (q1 : Int64) (h0 : Heap) (n0 : Nat) (O0 : Old Z n0 h0) (hc1 : (lcmpW q1 (-128 : Int64)) < (0 : Int32)) :
    MetFree l y13 (head1 (Jvm.Cond.code y13 jdk_35_method_24_code 3 (some (.object "java/lang/Long")) :: ws) ({ frames := 3, cells := 1, slots := 1, locals := 39 } : Room)) (fun a U => a = #[(.long q1)] ∧ Z.Warmed39 U.vm ∧ U.heap = h0) (fun _ _ _ _ _ => True) (fun _ U o U' => ∃ v L, o = .returned v ∧ Q17 Z w_lcache cs_v cl_lcache q1 h0 n0 v U'.heap L ∧ FrameEnd U o U' L ({ frames := 3, cells := 1, slots := 1, locals := 39 } : Room).cells ({ frames := 3, cells := 1, slots := 1, locals := 39 } : Room).slots) := by
  refine MetFree.of_bodySF (plainFor_of_name pn_14) hisR ?_
  intro p e s m args below meth c s₁ Bd hml0 hP hK
  obtain ⟨rfl, hZ, hh⟩ := hP
  have hx := Bd.exec
  have hby := Bd.bytes
  have hml : c.maxLocals = 3 := hml0
  have hown : s.vm.findClass "java/lang/Long" = some m.cls := findClass_of_methodNamed Bd.named
  have hnm := (name_of_methodNamed Bd.named Bd.method).1
  have X0 : Stand p l e ({ frames := 3, cells := 1, slots := 1, locals := 39 } : Room) s m #[(.long q1)] below meth c s₁ [] 0 0 := Stand.of_body Bd
  have e0 : s₁.heap = h0 := by rw [← hh, Bd.state]; rfl
  have N0 := Fr.nil n0
  have hp' := hp
  obtain ⟨S_COMPACT_STRINGS, h_cs, S_w_lcache, B_lcache⟩ := hp'
  have pre0 : ∀ t, Steps p.tables e below (s₁.setTop (mkF m 0 #[.val (.long q1), .second, .unset] [])) t → Steps p.tables e below (s₁.setTop (entryFrame m #[(.long q1)] 3)) t := fun t k => castTop (ef_13_0 m q1) k
  obtain ⟨T1, h1, X1, e1, E1, A1, D1, -, st1⟩ := newO X0 hx hZ hown (hw _ (List.mem_of_getElem? (i := 84) rfl)) (hw _ (List.mem_of_getElem? (i := 85) rfl)) (hw _ (List.mem_of_getElem? (i := 81) rfl)) e0 (g := (mkF m 31 #[.val (.long q1), .second, .val (.int (128 : Int32))] [])) rfl (hb hby d13_31) (by decide) (by decide)
  obtain ⟨b1, g1⟩ : ∃ z, z = h0.size := ⟨_, rfl⟩
  rw [← g1] at A1 D1 st1
  have g_b1 : n0 ≤ b1 := Nat.le_trans (own_sz O0) (Nat.le_of_eq g1.symm)
  have sz_b1 : h0.size ≤ b1 := Nat.le_trans (Keep.refl h0 []).1 (Nat.le_of_eq g1.symm)
  have O1 := O0.ext E1
  have K1 : Keep h0 h1 [] := (Keep.refl h0 []).ext E1
  have F_value_b1 : Fld Z h1 b1 "java/lang/Long" "value" "J" (.long (0 : Int64)) := D1 (Or.inr (hw _ (List.mem_of_getElem? (i := 98) rfl))) (ty := .long) (by decide)
  obtain ⟨_, _, ⟨T2, L2, k2, n2⟩, -, X2, ⟨Lc2, hQ2, l2, y2, z2⟩, st2⟩ := X1.specialBack hx (y := y12) rfl hown (mvT hZ (hw _ (List.mem_of_getElem? (i := 86) rfl))) (mvT hZ (hw _ (List.mem_of_getElem? (i := 87) rfl))) (mvT hZ (hw _ (List.mem_of_getElem? (i := 89) rfl))) (by decide) (backOf (W := 1) (rm16 l Z a0 hw [] w_lcache cs_v cl_lcache hp b1 q1 h1 n0 O1 A1 F_value_b1 g_b1) hZ (hw _ (List.mem_of_getElem? (i := 89) rfl)) (hw _ (List.mem_of_getElem? (i := 81) rfl)) (by decide) (by decide)) (g := (mkF m 36 #[.val (.long q1), .second, .val (.int (128 : Int32))] [(.long q1), (.ref b1), (.ref b1)])) rfl (by rw [hml]; rfl) (Steps.refl _) (a := b1) (argsL := [(.long q1)]) (rest := [(.ref b1)]) (lenOf pd_11 rfl) rfl (by show 2 * 0 + _ ≤ _; exact Nat.le_of_eq rfl) (hb hby d13_36) (fun _ _ => ⟨rfl, e1, (by decide : 1 + 0 ≤ _), (by decide : 1 + 0 ≤ _)⟩)
  dsimp only [Pt.U, Pt.locs, Pt.cells, Pt.slots] at X2 l2 y2 z2 st2 hQ2
  subst l2 y2 z2
  obtain ⟨rfl, Nq2, Kq2, fq2_0, fq2_1⟩ := hQ2
  have N2 := Fr.app N0 Nq2
  have O2 := O1.keep Kq2 (allS g_b1 all0)
  have K2 : Keep h0 T2.heap [] := K1.trans Kq2 (allS (Or.inr sz_b1) all0)
  obtain ⟨fs, hr, hrun, hended, hW, hsame⟩ := X2.leave (v := some (.ref b1)) (fun h => by rw [Bd.returns] at h; cases h)
  refine ⟨_, _, pre0 _ ?_, hrun, hended, _, _, rfl, ?_, ⟨_, rfl⟩, hW, hsame.mono (by decide) (by decide)⟩
  · show Sp p e below s₁ (mkF m 0 #[.val (.long q1), .second, .unset] []) _
    refine XS.sipush X0.here hx rfl (hb hby d13_0) ?_
    show Sp p e below s₁ (mkF m 3 #[.val (.long q1), .second, .unset] [(.int (128 : Int32))]) _
    refine XS.istoreN X0.here hx rfl (hb hby d13_3) rfl (l' := #[.val (.long q1), .second, .val (.int (128 : Int32))]) rfl ?_
    show Sp p e below s₁ (mkF m 4 #[.val (.long q1), .second, .val (.int (128 : Int32))] []) _
    refine XS.lloadN X0.here hx rfl (hb hby d13_4) rfl ?_
    show Sp p e below s₁ (mkF m 5 #[.val (.long q1), .second, .val (.int (128 : Int32))] [(.long q1)]) _
    refine X0.ldc2J hx hown (mvT hZ (hw _ (List.mem_of_getElem? (i := 83) rfl))) rfl (hb hby d13_5) ?_
    show Sp p e below s₁ (mkF m 8 #[.val (.long q1), .second, .val (.int (128 : Int32))] [(.long (-128 : Int64)), (.long q1)]) _
    refine XS.lcmp X0.here hx rfl (hb hby d13_8) rfl ?_
    show Sp p e below s₁ (mkF m 9 #[.val (.long q1), .second, .val (.int (128 : Int32))] [(.int (lcmpW q1 (-128 : Int64)))]) _
    refine XS.ifYes X0.here hx rfl (pc0 := 9) (pc' := 31) rfl (hb hby d13_9) rfl ((if0 _ _).trans (tlt hc1).1) (by decide) (by decide) ?_
    show Sp p e below s₁ (mkF m 31 #[.val (.long q1), .second, .val (.int (128 : Int32))] []) _
    refine st1 _ ?_
    show Sp p e below T1 (mkF m 34 #[.val (.long q1), .second, .val (.int (128 : Int32))] [(.ref b1)]) _
    refine XS.dup X1.here hx rfl (hb hby d13_34) rfl rfl ?_
    show Sp p e below T1 (mkF m 35 #[.val (.long q1), .second, .val (.int (128 : Int32))] [(.ref b1), (.ref b1)]) _
    refine XS.lloadN X1.here hx rfl (hb hby d13_35) rfl ?_
    show Sp p e below T1 (mkF m 36 #[.val (.long q1), .second, .val (.int (128 : Int32))] [(.long q1), (.ref b1), (.ref b1)]) _
    refine st2.trans ?_
    show Sp p e below T2 (mkF m 39 #[.val (.long q1), .second, .val (.int (128 : Int32))] [(.ref b1)]) _
    jvm_step X2.here [X2.here.top, hx, (hb hby d13_39), X2.method', Bd.returns, Value.isRef, FieldType.isReference]
    first | (intro acts; rw [hr _ acts rfl rfl rfl]) | rw [hr _ _ rfl rfl rfl]
    exact Steps.refl _
  · show Q17 Z w_lcache cs_v cl_lcache q1 h0 n0 _ T2.heap _
    exact ⟨b1, rfl, N2, K2, sz_b1, fq2_0, fq2_1⟩
theorem pd_12 : parseMethodDescriptor "(J)Ljava/lang/Long;" = some ⟨[.long], some (.object "java/lang/Long")⟩ := by decide +kernel
theorem ef_10_1 (m : MethodId) (x0 : Addr) (x1 : Addr) (x2 : Int32) (x3 : Int32) (x4 : Addr) : entryFrame m #[(.ref x0), (.ref x1), (.int x2), (.int x3), (.ref x4)] 5 = mkF m 0 #[.val (.ref x0), .val (.ref x1), .val (.int x2), .val (.int x3), .val (.ref x4)] [] := by first | (simp [entryFrame, mkF, argsToLocals, Value.category]; done) | rfl
def Q18 (Z : State) (w_lcache : Addr) (cs_v : Int32) (cl_lcache : Cell) (a1 : Addr) (a2 : Addr) (p3 : Int32) (p4 : Int32) (a5 : Addr) (h0 : Heap) (n0 : Nat) (v : Option Value) (h : Heap) (L : List Loc) : Prop := v = none ∧ Fr n0 L ∧ Keep h0 h [a1] ∧ Exa Z h a1 "com/example/latchwork/latchwork/RecordedForm$Call" ∧ Fld Z h a1 "com/example/latchwork/latchwork/RecordedForm$Call" "answered" "I" (.int p4) ∧ Fld Z h a1 "com/example/latchwork/latchwork/RecordedForm$Call" "called" "I" (.int p3) ∧ Fld Z h a1 "com/example/latchwork/latchwork/RecordedForm$Call" "operation" "Lcom/example/latchwork/latchwork/Operation;" (.ref a2) ∧ Fld Z h a1 "com/example/latchwork/latchwork/RecordedForm$Call" "result" "Ljava/lang/Object;" (.ref a5)
set_option maxRecDepth 65536 in
set_option maxHeartbeats 40000000 in
theorem rm18 (l : Launch) (Z : State) (a0 : Array Value) (hw : ∀ d ∈ tables_1, d.before a0 Z = true) (ws : List Jvm.Cond) (w_lcache : Addr) (cs_v : Int32) (cl_lcache : Cell) (hp : Perm Z w_lcache cs_v cl_lcache) (a1 : Addr) (a2 : Addr) (p3 : Int32) (p4 : Int32) (a5 : Addr) (h0 : Heap) (n0 : Nat) (O0 : Old Z n0 h0) (E_a1 : Exa Z h0 a1 "com/example/latchwork/latchwork/RecordedForm$Call") (F_operation_a1 : Fld Z h0 a1 "com/example/latchwork/latchwork/RecordedForm$Call" "operation" "Lcom/example/latchwork/latchwork/Operation;" .null) (F_called_a1 : Fld Z h0 a1 "com/example/latchwork/latchwork/RecordedForm$Call" "called" "I" (.int (0 : Int32))) (F_answered_a1 : Fld Z h0 a1 "com/example/latchwork/latchwork/RecordedForm$Call" "answered" "I" (.int (0 : Int32))) (F_result_a1 : Fld Z h0 a1 "com/example/latchwork/latchwork/RecordedForm$Call" "result" "Ljava/lang/Object;" .null) (g_a1 : n0 ≤ a1) :
    MetFree l y8 (head1 (Jvm.Cond.code y8 prog_15_method_2_code 5 none :: ws) ({ frames := 2, cells := 0, slots := 0, locals := 24 } : Room)) (fun a U => a = #[(.ref a1), (.ref a2), (.int p3), (.int p4), (.ref a5)] ∧ Z.Warmed39 U.vm ∧ U.heap = h0) (fun _ _ _ _ _ => True) (fun _ U o U' => ∃ v L, o = .returned v ∧ Q18 Z w_lcache cs_v cl_lcache a1 a2 p3 p4 a5 h0 n0 v U'.heap L ∧ FrameEnd U o U' L ({ frames := 2, cells := 0, slots := 0, locals := 24 } : Room).cells ({ frames := 2, cells := 0, slots := 0, locals := 24 } : Room).slots) := by
  refine MetFree.of_bodySF (plainFor_of_name pn_10) hisR ?_
  intro p e s m args below meth c s₁ Bd hml0 hP hK
  obtain ⟨rfl, hZ, hh⟩ := hP
  have hx := Bd.exec
  have hby := Bd.bytes
  have hml : c.maxLocals = 5 := hml0
  have hown : s.vm.findClass "com/example/latchwork/latchwork/RecordedForm$Call" = some m.cls := findClass_of_methodNamed Bd.named
  have hnm := (name_of_methodNamed Bd.named Bd.method).1
  have X0 : Stand p l e ({ frames := 2, cells := 0, slots := 0, locals := 24 } : Room) s m #[(.ref a1), (.ref a2), (.int p3), (.int p4), (.ref a5)] below meth c s₁ [] 0 0 := Stand.of_body Bd
  have e0 : s₁.heap = h0 := by rw [← hh, Bd.state]; rfl
  have N0 := Fr.nil n0
  have hp' := hp
  obtain ⟨S_COMPACT_STRINGS, h_cs, S_w_lcache, B_lcache⟩ := hp'
  have pre0 : ∀ t, Steps p.tables e below (s₁.setTop (mkF m 0 #[.val (.ref a1), .val (.ref a2), .val (.int p3), .val (.int p4), .val (.ref a5)] [])) t → Steps p.tables e below (s₁.setTop (entryFrame m #[(.ref a1), (.ref a2), (.int p3), (.int p4), (.ref a5)] 5)) t := fun t k => castTop (ef_10_1 m a1 a2 p3 p4 a5) k
  obtain ⟨_, _, ⟨T1, L1, k1, n1⟩, -, X1, ⟨Lc1, hQ1, l1, y1, z1⟩, st1⟩ := X0.specialBack hx (y := y5) rfl hown (mvT hZ (hw _ (List.mem_of_getElem? (i := 59) rfl))) (mvT hZ (hw _ (List.mem_of_getElem? (i := 37) rfl))) (mvT hZ (hw _ (List.mem_of_getElem? (i := 40) rfl))) (by decide) (backOf (W := 0) (rm6 l Z a0 hw [] w_lcache cs_v cl_lcache hp a1 h0 n0 O0) hZ (hw _ (List.mem_of_getElem? (i := 40) rfl)) (hw _ (List.mem_of_getElem? (i := 39) rfl)) (by decide) (by decide)) (g := (mkF m 1 #[.val (.ref a1), .val (.ref a2), .val (.int p3), .val (.int p4), .val (.ref a5)] [(.ref a1)])) rfl (by rw [hml]; rfl) (Steps.refl _) (a := a1) (argsL := []) (rest := []) (lenOf pd_5 rfl) rfl (by show 2 * 0 + _ ≤ _; exact Nat.le_of_eq rfl) (hb hby d10_1) (fun _ _ => ⟨rfl, e0, (by decide : 0 + 0 ≤ _), (by decide : 0 + 0 ≤ _)⟩)
  dsimp only [Pt.U, Pt.locs, Pt.cells, Pt.slots] at X1 l1 y1 z1 st1 hQ1
  subst l1 y1 z1
  obtain ⟨rfl, Nq1, eq1⟩ := hQ1
  have N1 := Fr.app N0 Nq1
  obtain ⟨T2, h2, X2, e2, W2, st2⟩ := putF X1 hx hZ hown (host := "") (Or.inl (hw _ (List.mem_of_getElem? (i := 60) rfl))) Via.refl eq1 F_operation_a1 E_a1 (Or.inr ⟨(hw _ (List.mem_of_getElem? (i := 61) rfl)), rfl, hnm⟩) (hw _ (List.mem_of_getElem? (i := 54) rfl)) (ty := (.object "com/example/latchwork/latchwork/Operation")) (by decide) rfl rfl (g := (mkF m 6 #[.val (.ref a1), .val (.ref a2), .val (.int p3), .val (.int p4), .val (.ref a5)] [(.ref a2), (.ref a1)])) rfl rfl (hb hby d10_6)
  have N2 := Fr.snoc X2 N1 g_a1
  have O2 := O0.wr W2 g_a1
  have K2 : Keep h0 h2 [a1] := (Keep.refl h0 [a1]).wr W2 (Or.inl (List.mem_of_getElem? (i := 0) rfl))
  have Fw2 := F_operation_a1.same W2
  obtain ⟨T3, h3, X3, e3, W3, st3⟩ := putF X2 hx hZ hown (host := "") (Or.inl (hw _ (List.mem_of_getElem? (i := 62) rfl))) Via.refl e2 (F_called_a1.other W2 (Or.inr (sn4 hw))) (E_a1.wr W2) (Or.inr ⟨(hw _ (List.mem_of_getElem? (i := 63) rfl)), rfl, hnm⟩) (hw _ (List.mem_of_getElem? (i := 54) rfl)) (ty := .int) (by decide) rfl rfl (g := (mkF m 11 #[.val (.ref a1), .val (.ref a2), .val (.int p3), .val (.int p4), .val (.ref a5)] [(.int p3), (.ref a1)])) rfl rfl (hb hby d10_11)
  have N3 := Fr.snoc X3 N2 g_a1
  have O3 := O2.wr W3 g_a1
  have K3 : Keep h0 h3 [a1] := K2.wr W3 (Or.inl (List.mem_of_getElem? (i := 0) rfl))
  have Fw3 := (F_called_a1.other W2 (Or.inr (sn4 hw))).same W3
  have f_4 := ((F_answered_a1.other W2 (Or.inr (sn5 hw))).other W3 (Or.inr (sn6 hw)))
  obtain ⟨T5, h5, X5, e5, W5, st5⟩ := putF X3 hx hZ hown (host := "") (Or.inl (hw _ (List.mem_of_getElem? (i := 64) rfl))) Via.refl e3 f_4 ((E_a1.wr W2).wr W3) (Or.inr ⟨(hw _ (List.mem_of_getElem? (i := 65) rfl)), rfl, hnm⟩) (hw _ (List.mem_of_getElem? (i := 54) rfl)) (ty := .int) (by decide) rfl rfl (g := (mkF m 16 #[.val (.ref a1), .val (.ref a2), .val (.int p3), .val (.int p4), .val (.ref a5)] [(.int p4), (.ref a1)])) rfl rfl (hb hby d10_16)
  have N5 := Fr.snoc X5 N3 g_a1
  have O5 := O3.wr W5 g_a1
  have K5 : Keep h0 h5 [a1] := K3.wr W5 (Or.inl (List.mem_of_getElem? (i := 0) rfl))
  have Fw5 := f_4.same W5
  have f_6 := (((F_result_a1.other W2 (Or.inr (sn7 hw))).other W3 (Or.inr (sn8 hw))).other W5 (Or.inr (sn9 hw)))
  obtain ⟨T7, h7, X7, e7, W7, st7⟩ := putF X5 hx hZ hown (host := "") (Or.inl (hw _ (List.mem_of_getElem? (i := 66) rfl))) Via.refl e5 f_6 (((E_a1.wr W2).wr W3).wr W5) (Or.inr ⟨(hw _ (List.mem_of_getElem? (i := 67) rfl)), rfl, hnm⟩) (hw _ (List.mem_of_getElem? (i := 54) rfl)) (ty := (.object "java/lang/Object")) (by decide) rfl rfl (g := (mkF m 22 #[.val (.ref a1), .val (.ref a2), .val (.int p3), .val (.int p4), .val (.ref a5)] [(.ref a5), (.ref a1)])) rfl rfl (hb hby d10_22)
  have N7 := Fr.snoc X7 N5 g_a1
  have O7 := O5.wr W7 g_a1
  have K7 : Keep h0 h7 [a1] := K5.wr W7 (Or.inl (List.mem_of_getElem? (i := 0) rfl))
  have Fw7 := f_6.same W7
  have f_8 := ((Fw3.other W5 (Or.inr (sn11 hw))).other W7 (Or.inr (sn12 hw)))
  have f_9 := (((Fw2.other W3 (Or.inr (sn13 hw))).other W5 (Or.inr (sn14 hw))).other W7 (Or.inr (sn15 hw)))
  obtain ⟨fs, hr, hrun, hended, hW, hsame⟩ := X7.leave (v := none) (fun _ => rfl)
  refine ⟨_, _, pre0 _ ?_, hrun, hended, _, _, rfl, ?_, ⟨_, rfl⟩, hW, hsame.mono (by decide) (by decide)⟩
  · show Sp p e below s₁ (mkF m 0 #[.val (.ref a1), .val (.ref a2), .val (.int p3), .val (.int p4), .val (.ref a5)] []) _
    refine XS.aloadN X0.here hx rfl (hb hby d10_0) rfl rfl ?_
    show Sp p e below s₁ (mkF m 1 #[.val (.ref a1), .val (.ref a2), .val (.int p3), .val (.int p4), .val (.ref a5)] [(.ref a1)]) _
    refine st1.trans ?_
    show Sp p e below T1 (mkF m 4 #[.val (.ref a1), .val (.ref a2), .val (.int p3), .val (.int p4), .val (.ref a5)] []) _
    refine XS.aloadN X1.here hx rfl (hb hby d10_4) rfl rfl ?_
    show Sp p e below T1 (mkF m 5 #[.val (.ref a1), .val (.ref a2), .val (.int p3), .val (.int p4), .val (.ref a5)] [(.ref a1)]) _
    refine XS.aloadN X1.here hx rfl (hb hby d10_5) rfl rfl ?_
    show Sp p e below T1 (mkF m 6 #[.val (.ref a1), .val (.ref a2), .val (.int p3), .val (.int p4), .val (.ref a5)] [(.ref a2), (.ref a1)]) _
    refine st2 _ ?_
    show Sp p e below T2 (mkF m 9 #[.val (.ref a1), .val (.ref a2), .val (.int p3), .val (.int p4), .val (.ref a5)] []) _
    refine XS.aloadN X2.here hx rfl (hb hby d10_9) rfl rfl ?_
    show Sp p e below T2 (mkF m 10 #[.val (.ref a1), .val (.ref a2), .val (.int p3), .val (.int p4), .val (.ref a5)] [(.ref a1)]) _
    refine XS.iloadN X2.here hx rfl (hb hby d10_10) rfl ?_
    show Sp p e below T2 (mkF m 11 #[.val (.ref a1), .val (.ref a2), .val (.int p3), .val (.int p4), .val (.ref a5)] [(.int p3), (.ref a1)]) _
    refine st3 _ ?_
    show Sp p e below T3 (mkF m 14 #[.val (.ref a1), .val (.ref a2), .val (.int p3), .val (.int p4), .val (.ref a5)] []) _
    refine XS.aloadN X3.here hx rfl (hb hby d10_14) rfl rfl ?_
    show Sp p e below T3 (mkF m 15 #[.val (.ref a1), .val (.ref a2), .val (.int p3), .val (.int p4), .val (.ref a5)] [(.ref a1)]) _
    refine XS.iloadN X3.here hx rfl (hb hby d10_15) rfl ?_
    show Sp p e below T3 (mkF m 16 #[.val (.ref a1), .val (.ref a2), .val (.int p3), .val (.int p4), .val (.ref a5)] [(.int p4), (.ref a1)]) _
    refine st5 _ ?_
    show Sp p e below T5 (mkF m 19 #[.val (.ref a1), .val (.ref a2), .val (.int p3), .val (.int p4), .val (.ref a5)] []) _
    refine XS.aloadN X5.here hx rfl (hb hby d10_19) rfl rfl ?_
    show Sp p e below T5 (mkF m 20 #[.val (.ref a1), .val (.ref a2), .val (.int p3), .val (.int p4), .val (.ref a5)] [(.ref a1)]) _
    refine XS.aload X5.here hx rfl (hb hby d10_20) rfl rfl ?_
    show Sp p e below T5 (mkF m 22 #[.val (.ref a1), .val (.ref a2), .val (.int p3), .val (.int p4), .val (.ref a5)] [(.ref a5), (.ref a1)]) _
    refine st7 _ ?_
    show Sp p e below T7 (mkF m 25 #[.val (.ref a1), .val (.ref a2), .val (.int p3), .val (.int p4), .val (.ref a5)] []) _
    exact X7.returnOut hx Bd.returns (hb hby d10_25) hr
  · show Q18 Z w_lcache cs_v cl_lcache a1 a2 p3 p4 a5 h0 n0 _ T7.heap _
    rw [e7]
    exact ⟨rfl, N7, K7, ((((E_a1.wr W2).wr W3).wr W5).wr W7), (Fw5.other W7 (Or.inr (sn10 hw))), f_8, f_9, Fw7⟩
set_option maxRecDepth 65536 in
set_option maxHeartbeats 40000000 in
theorem rm19 (l : Launch) (Z : State) (a0 : Array Value) (hw : ∀ d ∈ tables_1, d.before a0 Z = true) (ws : List Jvm.Cond) (w_lcache : Addr) (cs_v : Int32) (cl_lcache : Cell) (hp : Perm Z w_lcache cs_v cl_lcache) (p0 : Int32) (p1 : Int32) (p2 : Int32) (p3 : Int64) (h0 : Heap) (n0 : Nat) (O0 : Old Z n0 h0) (hc1 : ¬ ((p2 &&& (256 : Int32)) = (0 : Int32))) (hc2 : (lcmpW p3 (-128 : Int64)) < (0 : Int32)) (hc3 : p1 < (2147483647 : Int32)) :
    MetFree l x (head1 (Jvm.Cond.code x code maxLocals ret :: ws) room_1) (fun a U => a = #[(.int p0), (.int p1), (.int p2), (.long p3)] ∧ Z.Warmed39 U.vm ∧ U.heap = h0 ∧ CHv Z own_EL U.vm h0) (fun _ _ _ _ _ => True) (fun _ U o U' => ∃ v L, o = .returned v ∧ (v = some (.int (1 : Int32)) ∧ Fr n0 L) ∧ ReturnedEndW U o U' L 24 1152) := by
  refine MetFree.of_bodySF (plainFor_of_name pn_0) hisR ?_
  intro p e s m args below meth c s₁ Bd hml0 hP hK
  obtain ⟨rfl, hZo, hh, hCH⟩ := hP
  have hx := Bd.exec
  have hby := Bd.bytes
  have hml : c.maxLocals = 11 := hml0
  have hown : (s.setVm s.vm).vm.findClass "com/example/latchwork/latchwork/CallIsAnsweredPinLaw" = some m.cls := findClass_of_methodNamed Bd.named
  have hnm := (name_of_methodNamed Bd.named Bd.method).1
  have X0 : Stand p l e room_1 (s.setVm s.vm) m #[(.int p0), (.int p1), (.int p2), (.long p3)] below meth c s₁ [] 0 0 := Stand.of_body Bd
  have e0 : s₁.heap = h0 := by rw [← hh, Bd.state]; rfl
  have N0 := Fr.nil n0
  have hZ : Z.Warmed39 (s.setVm s.vm).vm := hZo
  have CH0 := CHr.refl hCH
  have hS0 : s.Since s.vm 0 := (State.WarmedH.refl s).since 0
  have hk0 : 0 ≤ h0.size := Nat.zero_le _
  have hp' := hp
  obtain ⟨S_COMPACT_STRINGS, h_cs, S_w_lcache, B_lcache⟩ := hp'
  have pre0 : ∀ t, Steps p.tables e below (s₁.setTop (mkF m 0 #[.val (.int p0), .val (.int p1), .val (.int p2), .val (.long p3), .second, .unset, .unset, .unset, .unset, .unset, .unset] [])) t → Steps p.tables e below (s₁.setTop (entryFrame m #[(.int p0), (.int p1), (.int p2), (.long p3)] maxLocals)) t := fun t k => castTop (ef_0_0 m p0 p1 p2 p3) k
  obtain ⟨T1, h1, k1, X1, e1, E1, A1, EA1, st1⟩ := newPE X0 hx hZ (hw _ (List.mem_of_getElem? (i := 0) rfl)) e0 (g := (mkF m 1 #[.val (.int p0), .val (.int p1), .val (.int p2), .val (.long p3), .second, .unset, .unset, .unset, .unset, .unset, .unset] [(.int (1 : Int32))])) rfl (hb hby at_1) rfl (by decide) (cap := 1) (by decide) (by decide) (by decide) (by decide) (ad := "[C") (by decide)
  obtain ⟨b1, g1⟩ : ∃ z, z = h0.size := ⟨_, rfl⟩
  rw [← g1] at A1 EA1 st1
  have g_b1 : n0 ≤ b1 := Nat.le_trans (own_sz O0) (Nat.le_of_eq g1.symm)
  have sz_b1 : h0.size ≤ b1 := Nat.le_trans (Keep.refl h0 []).1 (Nat.le_of_eq g1.symm)
  have O1 := O0.ext E1
  have K1 : Keep h0 h1 [] := (Keep.refl h0 []).ext E1
  have CH1 := CH0.trans (CHr.ext E1 CH0.1)
  have hk1 := Nat.le_trans hk0 E1.1
  have V_b1 : Arv Z h1 b1 k1 .char (1 : Int32) [(.int (0 : Int32))] (.int (0 : Int32)) := (Arv.new A1 (by decide)).pad (pad_rep [] (.int (0 : Int32)) 1)
  obtain ⟨cl2, Ar2, q2, S2, Nn2, H2, G2⟩ := id V_b1
  have hin2 : ¬ ((0 : Int32) < 0 ∨ cl2.slots.size ≤ ((0 : Int32)).toNatClampNeg) := inb_of S2 ⟨by decide, by decide⟩
  obtain ⟨T3, h3, X3, e3, W3, st3⟩ := stC X1 hx hZ e1 Ar2 (j := (0 : Int32)) hin2 (g := (mkF m 14 #[.val (.int p0), .val (.int p1), .val (.int p2), .val (.long p3), .second, .val (.ref b1), .unset, .unset, .unset, .unset, .unset] [(.int ((p2 &&& (255 : Int32)).toUInt32.toUInt16.toUInt32.toInt32)), (.int (0 : Int32)), (.ref b1)])) rfl rfl (hb hby at_14)
  have N3 := Fr.snoc X3 N0 g_b1
  have O3 := O1.wr W3 g_b1
  have K3 : Keep h0 h3 [] := K1.wr W3 (Or.inr sz_b1)
  have CH3 := CH1.trans (CHr.wr W3 own_safe0 CH1.1)
  have hk3 := Nat.le_trans hk1 (Keep.of_wr W3).1
  have V_b1_3 : Arv Z h3 b1 k1 .char (1 : Int32) [(.int (nar .char ((p2 &&& (255 : Int32)).toUInt32.toUInt16.toUInt32.toInt32)))] (.int (0 : Int32)) := Arv.set Ar2 q2 S2 Nn2 H2 G2 (fits_nar_char _) W3 0 rfl (Nat.le_of_ble_eq_true rfl)
  obtain ⟨T4, h4, X4, e4, E4, A4, D4, -, st4⟩ := newO X3 hx hZ hown (hw _ (List.mem_of_getElem? (i := 1) rfl)) (hw _ (List.mem_of_getElem? (i := 2) rfl)) (hw _ (List.mem_of_getElem? (i := 3) rfl)) e3 (g := (mkF m 15 #[.val (.int p0), .val (.int p1), .val (.int p2), .val (.long p3), .second, .val (.ref b1), .unset, .unset, .unset, .unset, .unset] [])) rfl (hb hby at_15) (by decide) (by decide)
  obtain ⟨b4, g4⟩ : ∃ z, z = h3.size := ⟨_, rfl⟩
  rw [← g4] at A4 D4 st4
  have g_b4 : n0 ≤ b4 := Nat.le_trans (own_sz O3) (Nat.le_of_eq g4.symm)
  have sz_b4 : h0.size ≤ b4 := Nat.le_trans K3.1 (Nat.le_of_eq g4.symm)
  have O4 := O3.ext E4
  have K4 : Keep h0 h4 [] := K3.ext E4
  have CH4 := CH3.trans (CHr.ext E4 CH3.1)
  have hk4 := Nat.le_trans hk3 E4.1
  have F_function_b4 : Fld Z h4 b4 "com/example/latchwork/latchwork/Operation" "function" "Ljava/lang/String;" .null := D4 (Or.inr (hw _ (List.mem_of_getElem? (i := 50) rfl))) (ty := (.object "java/lang/String")) (by decide)
  have F_argument_b4 : Fld Z h4 b4 "com/example/latchwork/latchwork/Operation" "argument" "Ljava/lang/Object;" .null := D4 (Or.inr (hw _ (List.mem_of_getElem? (i := 52) rfl))) (ty := (.object "java/lang/Object")) (by decide)
  obtain ⟨T5, h5, X5, e5, E5, A5, D5, -, st5⟩ := newO X4 hx hZ hown (hw _ (List.mem_of_getElem? (i := 4) rfl)) (hw _ (List.mem_of_getElem? (i := 5) rfl)) (hw _ (List.mem_of_getElem? (i := 6) rfl)) e4 (g := (mkF m 19 #[.val (.int p0), .val (.int p1), .val (.int p2), .val (.long p3), .second, .val (.ref b1), .unset, .unset, .unset, .unset, .unset] [(.ref b4), (.ref b4)])) rfl (hb hby at_19) (by decide) (by decide)
  obtain ⟨b5, g5⟩ : ∃ z, z = h4.size := ⟨_, rfl⟩
  rw [← g5] at A5 D5 st5
  have g_b5 : n0 ≤ b5 := Nat.le_trans (own_sz O4) (Nat.le_of_eq g5.symm)
  have sz_b5 : h0.size ≤ b5 := Nat.le_trans K4.1 (Nat.le_of_eq g5.symm)
  have O5 := O4.ext E5
  have K5 : Keep h0 h5 [] := K4.ext E5
  have CH5 := CH4.trans (CHr.ext E5 CH4.1)
  have hk5 := Nat.le_trans hk4 E5.1
  have F_coder_b5 : Fld Z h5 b5 "java/lang/String" "coder" "B" (.int (0 : Int32)) := D5 (Or.inr (hw _ (List.mem_of_getElem? (i := 30) rfl))) (ty := .byte) (by decide)
  have F_value_b5 : Fld Z h5 b5 "java/lang/String" "value" "[B" .null := D5 (Or.inr (hw _ (List.mem_of_getElem? (i := 32) rfl))) (ty := (.array .byte)) (by decide)
  obtain ⟨_, _, ⟨T6, L6, k6, n6⟩, -, X6, ⟨Lc6, hQ6, l6, y6, z6⟩, st6⟩ := X5.specialBack hx (y := y4) rfl hown (mvT hZ (hw _ (List.mem_of_getElem? (i := 7) rfl))) (mvT hZ (hw _ (List.mem_of_getElem? (i := 8) rfl))) (mvT hZ (hw _ (List.mem_of_getElem? (i := 9) rfl))) (by decide) (backOf (W := 3) (rm5 l Z a0 hw [] w_lcache cs_v cl_lcache hp b5 b1 k1 (nar .char ((p2 &&& (255 : Int32)).toUInt32.toUInt16.toUInt32.toInt32)) h5 n0 O5 ((V_b1_3.ext E4).ext E5) (own_ch2 p2) A5 F_coder_b5 F_value_b5 g_b5) hZ (hw _ (List.mem_of_getElem? (i := 9) rfl)) (hw _ (List.mem_of_getElem? (i := 6) rfl)) (by decide) (by decide)) (g := (mkF m 25 #[.val (.int p0), .val (.int p1), .val (.int p2), .val (.long p3), .second, .val (.ref b1), .unset, .unset, .unset, .unset, .unset] [(.ref b1), (.ref b5), (.ref b5), (.ref b4), (.ref b4)])) rfl (by rw [hml]; rfl) (Steps.refl _) (a := b5) (argsL := [(.ref b1)]) (rest := [(.ref b5), (.ref b4), (.ref b4)]) (lenOf pd_4 rfl) rfl (by show 2 * 0 + _ ≤ _; exact Nat.le_of_eq rfl) (hb hby at_25) (fun _ _ => ⟨rfl, e5, (by decide : 3 + 1 ≤ _), (by decide : 7 + 1 ≤ _)⟩)
  dsimp only [Pt.U, Pt.locs, Pt.cells, Pt.slots] at X6 l6 y6 z6 st6 hQ6
  subst l6 y6 z6
  obtain ⟨b6_0, kc6_0, rfl, Nq6, Kq6, sq_b6_0, fq6_0, fq6_1, fq6_2, fq6_3, fq6_4⟩ := hQ6
  have N6 := Fr.app N3 Nq6
  have g_b6_0 : n0 ≤ b6_0 := Nat.le_trans (own_sz O5) sq_b6_0
  have sz_b6_0 : h0.size ≤ b6_0 := Nat.le_trans K5.1 sq_b6_0
  have CH6 := CH5.trans (CHr.keep Kq6 (allS own_safe0 all0) CH5.1)
  have hk6 := Nat.le_trans hk5 Kq6.1
  have O6 := O5.keep Kq6 (allS g_b5 all0)
  have K6 : Keep h0 T6.heap [] := K5.trans Kq6 (allS (Or.inr sz_b5) all0)
  have f_7 := ((F_function_b4.ext E5).keep Kq6 (ninS (Nat.ne_of_lt (Nat.lt_of_lt_of_le A4.lt (Nat.le_of_eq g5.symm))) nin0))
  have f_8 := ((F_argument_b4.ext E5).keep Kq6 (ninS (Nat.ne_of_lt (Nat.lt_of_lt_of_le A4.lt (Nat.le_of_eq g5.symm))) nin0))
  obtain ⟨_, _, ⟨T9, L9, k9, n9⟩, -, XX9, Sq9, gq9, ⟨Lc9, hQ9, l9, y9, z9, C9⟩, st9⟩ := X6.specialBackS hx (y := y7) rfl hown (mvT hZ (hw _ (List.mem_of_getElem? (i := 33) rfl))) (mvT hZ (hw _ (List.mem_of_getElem? (i := 34) rfl))) (mvT hZ (hw _ (List.mem_of_getElem? (i := 35) rfl))) (by decide) (own_backC (SL := []) (W := 1) (rm8 l Z a0 hw [] w_lcache cs_v cl_lcache hp b4 b5 T6.heap n0 O6 ((A4.ext E5).keep Kq6) f_7 f_8 g_b4) hZ (hw _ (List.mem_of_getElem? (i := 35) rfl)) (hw _ (List.mem_of_getElem? (i := 3) rfl)) (by decide) (by decide) (own_EW hw) CH6.1 all0) (g := (mkF m 29 #[.val (.int p0), .val (.int p1), .val (.int p2), .val (.long p3), .second, .val (.ref b1), .unset, .unset, .unset, .unset, .unset] [.null, (.ref b5), (.ref b4), (.ref b4)])) rfl (by rw [hml]; rfl) (Steps.refl _) (a := b4) (argsL := [(.ref b5), .null]) (rest := [(.ref b4)]) (lenOf pd_7 rfl) rfl (by show 2 * 0 + _ ≤ _; exact Nat.le_of_eq rfl) (hb hby at_29) (fun _ _ => ⟨rfl, rfl, (by decide : 4 + 2 ≤ _), (by decide : 8 + 36 ≤ _)⟩)
  dsimp only [Pt.U, Pt.locs, Pt.cells, Pt.slots] at XX9 Sq9 gq9 l9 y9 z9 st9 hQ9 C9
  subst l9 y9 z9
  obtain ⟨X9, hS9, hZ9, hown9⟩ := rebS hS0 hk6 XX9 Sq9 gq9 hZ hown
  obtain ⟨rfl, Nq9, Kq9, fq9_0, fq9_1, fq9_2⟩ := hQ9
  have N9 := Fr.app N6 Nq9
  have CH9 := CH6.trans C9
  have hk9 : T9.heap.size ≤ T9.heap.size := Nat.le_refl _
  have O9 := O6.keep Kq9 (allS g_b4 all0)
  have K9 : Keep h0 T9.heap [] := K6.trans Kq9 (allS (Or.inr sz_b4) all0)
  obtain ⟨_, _, ⟨T10, L10, k10, n10⟩, -, X10, ⟨Lc10, hQ10, l10, y10, z10⟩, st10⟩ := Jvm.LawKit.callS X9 hx (y := y13) hown9 (mvT hZ9 (hw _ (List.mem_of_getElem? (i := 79) rfl))) (mvT hZ9 (hw _ (List.mem_of_getElem? (i := 80) rfl))) (mvT hZ9 (hw _ (List.mem_of_getElem? (i := 81) rfl))) (mvT hZ9 (hw _ (List.mem_of_getElem? (i := 82) rfl))) (by decide) (backOf (W := 0) (rm17 l Z a0 hw [] w_lcache cs_v cl_lcache hp p3 T9.heap n0 O9 hc2) hZ9 (hw _ (List.mem_of_getElem? (i := 82) rfl)) (hw _ (List.mem_of_getElem? (i := 81) rfl)) (by decide) (by decide)) (g := (mkF m 46 #[.val (.int p0), .val (.int p1), .val (.int p2), .val (.long p3), .second, .val (.ref b1), .val (.ref b4), .val .null, .unset, .unset, .unset] [(.long p3)])) rfl (by rw [hml]; rfl) (argsL := [(.long p3)]) (rest := []) (lenOf pd_12 rfl) rfl (by show 2 * 0 + _ ≤ _; exact Nat.le_of_eq rfl) (hb hby at_46) (fun _ _ => ⟨rfl, rfl, (by decide : 6 + 1 ≤ _), (by decide : 44 + 1 ≤ _)⟩)
  dsimp only [Pt.U, Pt.locs, Pt.cells, Pt.slots] at X10 l10 y10 z10 st10 hQ10
  subst l10 y10 z10
  obtain ⟨b10_0, rfl, Nq10, Kq10, sq_b10_0, fq10_0, fq10_1⟩ := hQ10
  have N10 := Fr.app N9 Nq10
  have g_b10_0 : n0 ≤ b10_0 := Nat.le_trans (own_sz O9) sq_b10_0
  have sz_b10_0 : h0.size ≤ b10_0 := Nat.le_trans K9.1 sq_b10_0
  have CH10 := CH9.trans (CHr.keep Kq10 all0 CH9.1)
  have hk10 := Nat.le_trans hk9 Kq10.1
  have O10 := O9.keep Kq10 all0
  have K10 : Keep h0 T10.heap [] := K9.trans Kq10 all0
  obtain ⟨T11, h11, X11, e11, E11, A11, D11, -, st11⟩ := newO X10 hx hZ9 hown9 (hw _ (List.mem_of_getElem? (i := 53) rfl)) (hw _ (List.mem_of_getElem? (i := 54) rfl)) (hw _ (List.mem_of_getElem? (i := 55) rfl)) rfl (g := (mkF m 51 #[.val (.int p0), .val (.int p1), .val (.int p2), .val (.long p3), .second, .val (.ref b1), .val (.ref b4), .val (.ref b10_0), .unset, .unset, .unset] [])) rfl (hb hby at_51) (by decide) (by decide)
  obtain ⟨b11, g11⟩ : ∃ z, z = T10.heap.size := ⟨_, rfl⟩
  rw [← g11] at A11 D11 st11
  have g_b11 : n0 ≤ b11 := Nat.le_trans (own_sz O10) (Nat.le_of_eq g11.symm)
  have sz_b11 : h0.size ≤ b11 := Nat.le_trans K10.1 (Nat.le_of_eq g11.symm)
  have O11 := O10.ext E11
  have K11 : Keep h0 h11 [] := K10.ext E11
  have CH11 := CH10.trans (CHr.ext E11 CH10.1)
  have hk11 := Nat.le_trans hk10 E11.1
  have F_operation_b11 : Fld Z h11 b11 "com/example/latchwork/latchwork/RecordedForm$Call" "operation" "Lcom/example/latchwork/latchwork/Operation;" .null := D11 (Or.inr (hw _ (List.mem_of_getElem? (i := 61) rfl))) (ty := (.object "com/example/latchwork/latchwork/Operation")) (by decide)
  have F_called_b11 : Fld Z h11 b11 "com/example/latchwork/latchwork/RecordedForm$Call" "called" "I" (.int (0 : Int32)) := D11 (Or.inr (hw _ (List.mem_of_getElem? (i := 63) rfl))) (ty := .int) (by decide)
  have F_answered_b11 : Fld Z h11 b11 "com/example/latchwork/latchwork/RecordedForm$Call" "answered" "I" (.int (0 : Int32)) := D11 (Or.inr (hw _ (List.mem_of_getElem? (i := 65) rfl))) (ty := .int) (by decide)
  have F_result_b11 : Fld Z h11 b11 "com/example/latchwork/latchwork/RecordedForm$Call" "result" "Ljava/lang/Object;" .null := D11 (Or.inr (hw _ (List.mem_of_getElem? (i := 67) rfl))) (ty := (.object "java/lang/Object")) (by decide)
  obtain ⟨_, _, ⟨T12, L12, k12, n12⟩, -, X12, ⟨Lc12, hQ12, l12, y12, z12⟩, st12⟩ := X11.specialBack hx (y := y8) rfl hown9 (mvT hZ9 (hw _ (List.mem_of_getElem? (i := 56) rfl))) (mvT hZ9 (hw _ (List.mem_of_getElem? (i := 57) rfl))) (mvT hZ9 (hw _ (List.mem_of_getElem? (i := 58) rfl))) (by decide) (backOf (W := 1) (rm18 l Z a0 hw [] w_lcache cs_v cl_lcache hp b11 b4 p0 p1 b10_0 h11 n0 O11 A11 F_operation_b11 F_called_b11 F_answered_b11 F_result_b11 g_b11) hZ9 (hw _ (List.mem_of_getElem? (i := 58) rfl)) (hw _ (List.mem_of_getElem? (i := 55) rfl)) (by decide) (by decide)) (g := (mkF m 61 #[.val (.int p0), .val (.int p1), .val (.int p2), .val (.long p3), .second, .val (.ref b1), .val (.ref b4), .val (.ref b10_0), .unset, .unset, .unset] [(.ref b10_0), (.int p1), (.int p0), (.ref b4), (.ref b11), (.ref b11)])) rfl (by rw [hml]; rfl) (Steps.refl _) (a := b11) (argsL := [(.ref b4), (.int p0), (.int p1), (.ref b10_0)]) (rest := [(.ref b11)]) (lenOf pd_8 rfl) rfl (by show 2 * 0 + _ ≤ _; exact Nat.le_of_eq rfl) (hb hby at_61) (fun _ _ => ⟨rfl, e11, (by decide : 8 + 0 ≤ _), (by decide : 49 + 0 ≤ _)⟩)
  dsimp only [Pt.U, Pt.locs, Pt.cells, Pt.slots] at X12 l12 y12 z12 st12 hQ12
  subst l12 y12 z12
  obtain ⟨rfl, Nq12, Kq12, fq12_0, fq12_1, fq12_2, fq12_3, fq12_4⟩ := hQ12
  have N12 := Fr.app N10 Nq12
  have CH12 := CH11.trans (CHr.keep Kq12 (allS own_safe0 all0) CH11.1)
  have hk12 := Nat.le_trans hk11 Kq12.1
  have O12 := O11.keep Kq12 (allS g_b11 all0)
  have K12 : Keep h0 T12.heap [] := K11.trans Kq12 (allS (Or.inr sz_b11) all0)
  obtain ⟨T13, h13, X13, e13, E13, A13, D13, -, st13⟩ := newO X12 hx hZ9 hown9 (hw _ (List.mem_of_getElem? (i := 53) rfl)) (hw _ (List.mem_of_getElem? (i := 54) rfl)) (hw _ (List.mem_of_getElem? (i := 55) rfl)) rfl (g := (mkF m 79 #[.val (.int p0), .val (.int p1), .val (.int p2), .val (.long p3), .second, .val (.ref b1), .val (.ref b4), .val (.ref b10_0), .val (.ref b11), .val (.int (1 : Int32)), .unset] [])) rfl (hb hby at_79) (by decide) (by decide)
  obtain ⟨b13, g13⟩ : ∃ z, z = T12.heap.size := ⟨_, rfl⟩
  rw [← g13] at A13 D13 st13
  have g_b13 : n0 ≤ b13 := Nat.le_trans (own_sz O12) (Nat.le_of_eq g13.symm)
  have sz_b13 : h0.size ≤ b13 := Nat.le_trans K12.1 (Nat.le_of_eq g13.symm)
  have O13 := O12.ext E13
  have K13 : Keep h0 h13 [] := K12.ext E13
  have CH13 := CH12.trans (CHr.ext E13 CH12.1)
  have hk13 := Nat.le_trans hk12 E13.1
  have F_operation_b13 : Fld Z h13 b13 "com/example/latchwork/latchwork/RecordedForm$Call" "operation" "Lcom/example/latchwork/latchwork/Operation;" .null := D13 (Or.inr (hw _ (List.mem_of_getElem? (i := 61) rfl))) (ty := (.object "com/example/latchwork/latchwork/Operation")) (by decide)
  have F_called_b13 : Fld Z h13 b13 "com/example/latchwork/latchwork/RecordedForm$Call" "called" "I" (.int (0 : Int32)) := D13 (Or.inr (hw _ (List.mem_of_getElem? (i := 63) rfl))) (ty := .int) (by decide)
  have F_answered_b13 : Fld Z h13 b13 "com/example/latchwork/latchwork/RecordedForm$Call" "answered" "I" (.int (0 : Int32)) := D13 (Or.inr (hw _ (List.mem_of_getElem? (i := 65) rfl))) (ty := .int) (by decide)
  have F_result_b13 : Fld Z h13 b13 "com/example/latchwork/latchwork/RecordedForm$Call" "result" "Ljava/lang/Object;" .null := D13 (Or.inr (hw _ (List.mem_of_getElem? (i := 67) rfl))) (ty := (.object "java/lang/Object")) (by decide)
  obtain ⟨_, _, ⟨T14, L14, k14, n14⟩, -, X14, ⟨Lc14, hQ14, l14, y14, z14⟩, st14⟩ := X13.specialBack hx (y := y9) rfl hown9 (mvT hZ9 (hw _ (List.mem_of_getElem? (i := 69) rfl))) (mvT hZ9 (hw _ (List.mem_of_getElem? (i := 70) rfl))) (mvT hZ9 (hw _ (List.mem_of_getElem? (i := 71) rfl))) (by decide) (backOf (W := 1) (rm11 l Z a0 hw [] w_lcache cs_v cl_lcache hp b13 b4 p0 h13 n0 O13 A13 F_operation_b13 F_called_b13 F_answered_b13 F_result_b13 g_b13) hZ9 (hw _ (List.mem_of_getElem? (i := 71) rfl)) (hw _ (List.mem_of_getElem? (i := 55) rfl)) (by decide) (by decide)) (g := (mkF m 86 #[.val (.int p0), .val (.int p1), .val (.int p2), .val (.long p3), .second, .val (.ref b1), .val (.ref b4), .val (.ref b10_0), .val (.ref b11), .val (.int (1 : Int32)), .unset] [(.int p0), (.ref b4), (.ref b13), (.ref b13)])) rfl (by rw [hml]; rfl) (Steps.refl _) (a := b13) (argsL := [(.ref b4), (.int p0)]) (rest := [(.ref b13)]) (lenOf pd_9 rfl) rfl (by show 2 * 0 + _ ≤ _; exact Nat.le_of_eq rfl) (hb hby at_86) (fun _ _ => ⟨rfl, e13, (by decide : 9 + 0 ≤ _), (by decide : 53 + 0 ≤ _)⟩)
  dsimp only [Pt.U, Pt.locs, Pt.cells, Pt.slots] at X14 l14 y14 z14 st14 hQ14
  subst l14 y14 z14
  obtain ⟨rfl, Nq14, Kq14, fq14_0, fq14_1, fq14_2, fq14_3, fq14_4⟩ := hQ14
  have N14 := Fr.app N12 Nq14
  have CH14 := CH13.trans (CHr.keep Kq14 (allS own_safe0 all0) CH13.1)
  have hk14 := Nat.le_trans hk13 Kq14.1
  have O14 := O13.keep Kq14 (allS g_b13 all0)
  have K14 : Keep h0 T14.heap [] := K13.trans Kq14 (allS (Or.inr sz_b13) all0)
  have f_15 := ((fq12_1.ext E13).keep Kq14 (ninS (Nat.ne_of_lt (Nat.lt_of_lt_of_le (A11.keep Kq12).lt (Nat.le_of_eq g13.symm))) nin0))
  obtain ⟨cq16, kq16, q16a, q16b, q16c⟩ := isOf hZ9 rfl ((fq12_0.ext E13).keep Kq14)
  obtain ⟨_, _, ⟨T16, L16, k16, n16⟩, -, X16, ⟨Lc16, hQ16, l16, y16, z16⟩, st16⟩ := X14.virtualBack hx (y := y10) (z := y10) hown9 (mvT hZ9 (hw _ (List.mem_of_getElem? (i := 74) rfl))) (mvT hZ9 (hw _ (List.mem_of_getElem? (i := 75) rfl))) (notFace_of_selects (args := #[]) (mvT hZ9 (hw _ (List.mem_of_getElem? (i := 77) rfl)))) (mvT hZ9 (hw _ (List.mem_of_getElem? (i := 77) rfl))) (mvT hZ9 (hw _ (List.mem_of_getElem? (i := 76) rfl))) (by decide) (backOf (W := 0) (rm12 l Z a0 hw [] w_lcache cs_v cl_lcache hp b11 p1 T14.heap n0 O14 f_15 (own_mx1 hc3)) hZ9 (hw _ (List.mem_of_getElem? (i := 78) rfl)) (hw _ (List.mem_of_getElem? (i := 55) rfl)) (by decide) (by decide)) q16a q16c (g := (mkF m 93 #[.val (.int p0), .val (.int p1), .val (.int p2), .val (.long p3), .second, .val (.ref b1), .val (.ref b4), .val (.ref b10_0), .val (.ref b11), .val (.int (1 : Int32)), .val (.ref b13)] [(.ref b11)])) rfl (by rw [hml]; rfl) (Steps.refl _) (argsL := []) (rest := []) (lenOf pd_10 rfl) rfl (by show 2 * 0 + _ ≤ _; exact Nat.le_of_eq rfl) (hb hby at_93) (fun _ _ => ⟨rfl, rfl, (by decide : 9 + 0 ≤ _), (by decide : 53 + 0 ≤ _)⟩)
  dsimp only [Pt.U, Pt.locs, Pt.cells, Pt.slots] at X16 l16 y16 z16 st16 hQ16
  subst l16 y16 z16
  obtain ⟨rfl, Nq16, eq16⟩ := hQ16
  have N16 := Fr.app N14 Nq16
  obtain ⟨cq17, kq17, q17a, q17b, q17c⟩ := isOf hZ9 eq16 fq14_0
  obtain ⟨_, _, ⟨T17, L17, k17, n17⟩, -, X17, ⟨Lc17, hQ17, l17, y17, z17⟩, st17⟩ := X16.virtualBack hx (y := y10) (z := y10) hown9 (mvT hZ9 (hw _ (List.mem_of_getElem? (i := 74) rfl))) (mvT hZ9 (hw _ (List.mem_of_getElem? (i := 75) rfl))) (notFace_of_selects (args := #[]) (mvT hZ9 (hw _ (List.mem_of_getElem? (i := 77) rfl)))) (mvT hZ9 (hw _ (List.mem_of_getElem? (i := 77) rfl))) (mvT hZ9 (hw _ (List.mem_of_getElem? (i := 76) rfl))) (by decide) (backOf (W := 0) (rm13 l Z a0 hw [] w_lcache cs_v cl_lcache hp b13 T14.heap n0 O14 fq14_1) hZ9 (hw _ (List.mem_of_getElem? (i := 78) rfl)) (hw _ (List.mem_of_getElem? (i := 55) rfl)) (by decide) (by decide)) q17a q17c (g := (mkF m 103 #[.val (.int p0), .val (.int p1), .val (.int p2), .val (.long p3), .second, .val (.ref b1), .val (.ref b4), .val (.ref b10_0), .val (.ref b11), .val (.int (1 : Int32)), .val (.ref b13)] [(.ref b13)])) rfl (by rw [hml]; rfl) (Steps.refl _) (argsL := []) (rest := []) (lenOf pd_10 rfl) rfl (by show 2 * 0 + _ ≤ _; exact Nat.le_of_eq rfl) (hb hby at_103) (fun _ _ => ⟨rfl, eq16, (by decide : 9 + 0 ≤ _), (by decide : 53 + 0 ≤ _)⟩)
  dsimp only [Pt.U, Pt.locs, Pt.cells, Pt.slots] at X17 l17 y17 z17 st17 hQ17
  subst l17 y17 z17
  obtain ⟨rfl, Nq17, eq17⟩ := hQ17
  have N17 := Fr.app N16 Nq17
  obtain ⟨fs, hr, hrun, hended, hE⟩ := Stand.leaveW (s := s) X17 hS9 (by rw [eq17]; exact hk14) (v := some (.int (1 : Int32))) (fun h => by rw [Bd.returns] at h; cases h)
  refine ⟨_, _, pre0 _ ?_, hrun, hended, _, _, rfl, ?_, hE.1, hE.2.1, hE.2.2.1, hE.2.2.2.mono (by decide) (by decide)⟩
  · show Sp p e below s₁ (mkF m 0 #[.val (.int p0), .val (.int p1), .val (.int p2), .val (.long p3), .second, .unset, .unset, .unset, .unset, .unset, .unset] []) _
    refine XS.iconst X0.here hx rfl (hb hby at_0) ?_
    show Sp p e below s₁ (mkF m 1 #[.val (.int p0), .val (.int p1), .val (.int p2), .val (.long p3), .second, .unset, .unset, .unset, .unset, .unset, .unset] [(.int (1 : Int32))]) _
    refine st1 _ ?_
    show Sp p e below T1 (mkF m 3 #[.val (.int p0), .val (.int p1), .val (.int p2), .val (.long p3), .second, .unset, .unset, .unset, .unset, .unset, .unset] [(.ref b1)]) _
    refine XS.astore X1.here hx rfl (hb hby at_3) rfl rfl (l' := #[.val (.int p0), .val (.int p1), .val (.int p2), .val (.long p3), .second, .val (.ref b1), .unset, .unset, .unset, .unset, .unset]) rfl ?_
    show Sp p e below T1 (mkF m 5 #[.val (.int p0), .val (.int p1), .val (.int p2), .val (.long p3), .second, .val (.ref b1), .unset, .unset, .unset, .unset, .unset] []) _
    refine XS.aload X1.here hx rfl (hb hby at_5) rfl rfl ?_
    show Sp p e below T1 (mkF m 7 #[.val (.int p0), .val (.int p1), .val (.int p2), .val (.long p3), .second, .val (.ref b1), .unset, .unset, .unset, .unset, .unset] [(.ref b1)]) _
    refine XS.iconst X1.here hx rfl (hb hby at_7) ?_
    show Sp p e below T1 (mkF m 8 #[.val (.int p0), .val (.int p1), .val (.int p2), .val (.long p3), .second, .val (.ref b1), .unset, .unset, .unset, .unset, .unset] [(.int (0 : Int32)), (.ref b1)]) _
    refine XS.iloadN X1.here hx rfl (hb hby at_8) rfl ?_
    show Sp p e below T1 (mkF m 9 #[.val (.int p0), .val (.int p1), .val (.int p2), .val (.long p3), .second, .val (.ref b1), .unset, .unset, .unset, .unset, .unset] [(.int p2), (.int (0 : Int32)), (.ref b1)]) _
    refine XS.sipush X1.here hx rfl (hb hby at_9) ?_
    show Sp p e below T1 (mkF m 12 #[.val (.int p0), .val (.int p1), .val (.int p2), .val (.long p3), .second, .val (.ref b1), .unset, .unset, .unset, .unset, .unset] [(.int (255 : Int32)), (.int p2), (.int (0 : Int32)), (.ref b1)]) _
    refine XS.iand X1.here hx rfl (hb hby at_12) rfl ?_
    show Sp p e below T1 (mkF m 13 #[.val (.int p0), .val (.int p1), .val (.int p2), .val (.long p3), .second, .val (.ref b1), .unset, .unset, .unset, .unset, .unset] [(.int (p2 &&& (255 : Int32))), (.int (0 : Int32)), (.ref b1)]) _
    refine XS.i2c X1.here hx rfl (hb hby at_13) rfl ?_
    show Sp p e below T1 (mkF m 14 #[.val (.int p0), .val (.int p1), .val (.int p2), .val (.long p3), .second, .val (.ref b1), .unset, .unset, .unset, .unset, .unset] [(.int ((p2 &&& (255 : Int32)).toUInt32.toUInt16.toUInt32.toInt32)), (.int (0 : Int32)), (.ref b1)]) _
    refine st3 _ ?_
    show Sp p e below T3 (mkF m 15 #[.val (.int p0), .val (.int p1), .val (.int p2), .val (.long p3), .second, .val (.ref b1), .unset, .unset, .unset, .unset, .unset] []) _
    refine st4 _ ?_
    show Sp p e below T4 (mkF m 18 #[.val (.int p0), .val (.int p1), .val (.int p2), .val (.long p3), .second, .val (.ref b1), .unset, .unset, .unset, .unset, .unset] [(.ref b4)]) _
    refine XS.dup X4.here hx rfl (hb hby at_18) rfl rfl ?_
    show Sp p e below T4 (mkF m 19 #[.val (.int p0), .val (.int p1), .val (.int p2), .val (.long p3), .second, .val (.ref b1), .unset, .unset, .unset, .unset, .unset] [(.ref b4), (.ref b4)]) _
    refine st5 _ ?_
    show Sp p e below T5 (mkF m 22 #[.val (.int p0), .val (.int p1), .val (.int p2), .val (.long p3), .second, .val (.ref b1), .unset, .unset, .unset, .unset, .unset] [(.ref b5), (.ref b4), (.ref b4)]) _
    refine XS.dup X5.here hx rfl (hb hby at_22) rfl rfl ?_
    show Sp p e below T5 (mkF m 23 #[.val (.int p0), .val (.int p1), .val (.int p2), .val (.long p3), .second, .val (.ref b1), .unset, .unset, .unset, .unset, .unset] [(.ref b5), (.ref b5), (.ref b4), (.ref b4)]) _
    refine XS.aload X5.here hx rfl (hb hby at_23) rfl rfl ?_
    show Sp p e below T5 (mkF m 25 #[.val (.int p0), .val (.int p1), .val (.int p2), .val (.long p3), .second, .val (.ref b1), .unset, .unset, .unset, .unset, .unset] [(.ref b1), (.ref b5), (.ref b5), (.ref b4), (.ref b4)]) _
    refine st6.trans ?_
    show Sp p e below T6 (mkF m 28 #[.val (.int p0), .val (.int p1), .val (.int p2), .val (.long p3), .second, .val (.ref b1), .unset, .unset, .unset, .unset, .unset] [(.ref b5), (.ref b4), (.ref b4)]) _
    refine XS.aconstNull X6.here hx rfl (hb hby at_28) ?_
    show Sp p e below T6 (mkF m 29 #[.val (.int p0), .val (.int p1), .val (.int p2), .val (.long p3), .second, .val (.ref b1), .unset, .unset, .unset, .unset, .unset] [.null, (.ref b5), (.ref b4), (.ref b4)]) _
    refine st9.trans ?_
    show Sp p e below T9 (mkF m 32 #[.val (.int p0), .val (.int p1), .val (.int p2), .val (.long p3), .second, .val (.ref b1), .unset, .unset, .unset, .unset, .unset] [(.ref b4)]) _
    refine XS.astore X9.here hx rfl (hb hby at_32) rfl rfl (l' := #[.val (.int p0), .val (.int p1), .val (.int p2), .val (.long p3), .second, .val (.ref b1), .val (.ref b4), .unset, .unset, .unset, .unset]) rfl ?_
    show Sp p e below T9 (mkF m 34 #[.val (.int p0), .val (.int p1), .val (.int p2), .val (.long p3), .second, .val (.ref b1), .val (.ref b4), .unset, .unset, .unset, .unset] []) _
    refine XS.aconstNull X9.here hx rfl (hb hby at_34) ?_
    show Sp p e below T9 (mkF m 35 #[.val (.int p0), .val (.int p1), .val (.int p2), .val (.long p3), .second, .val (.ref b1), .val (.ref b4), .unset, .unset, .unset, .unset] [.null]) _
    refine XS.astore X9.here hx rfl (hb hby at_35) rfl rfl (l' := #[.val (.int p0), .val (.int p1), .val (.int p2), .val (.long p3), .second, .val (.ref b1), .val (.ref b4), .val .null, .unset, .unset, .unset]) rfl ?_
    show Sp p e below T9 (mkF m 37 #[.val (.int p0), .val (.int p1), .val (.int p2), .val (.long p3), .second, .val (.ref b1), .val (.ref b4), .val .null, .unset, .unset, .unset] []) _
    refine XS.iloadN X9.here hx rfl (hb hby at_37) rfl ?_
    show Sp p e below T9 (mkF m 38 #[.val (.int p0), .val (.int p1), .val (.int p2), .val (.long p3), .second, .val (.ref b1), .val (.ref b4), .val .null, .unset, .unset, .unset] [(.int p2)]) _
    refine XS.sipush X9.here hx rfl (hb hby at_38) ?_
    show Sp p e below T9 (mkF m 41 #[.val (.int p0), .val (.int p1), .val (.int p2), .val (.long p3), .second, .val (.ref b1), .val (.ref b4), .val .null, .unset, .unset, .unset] [(.int (256 : Int32)), (.int p2)]) _
    refine XS.iand X9.here hx rfl (hb hby at_41) rfl ?_
    show Sp p e below T9 (mkF m 42 #[.val (.int p0), .val (.int p1), .val (.int p2), .val (.long p3), .second, .val (.ref b1), .val (.ref b4), .val .null, .unset, .unset, .unset] [(.int (p2 &&& (256 : Int32)))]) _
    refine XS.ifNo X9.here hx rfl (hb hby at_42) rfl ((if0 _ _).trans (feq hc1).1) ?_
    show Sp p e below T9 (mkF m 45 #[.val (.int p0), .val (.int p1), .val (.int p2), .val (.long p3), .second, .val (.ref b1), .val (.ref b4), .val .null, .unset, .unset, .unset] []) _
    refine XS.lloadN X9.here hx rfl (hb hby at_45) rfl ?_
    show Sp p e below T9 (mkF m 46 #[.val (.int p0), .val (.int p1), .val (.int p2), .val (.long p3), .second, .val (.ref b1), .val (.ref b4), .val .null, .unset, .unset, .unset] [(.long p3)]) _
    refine st10 _ ?_
    show Sp p e below T10 (mkF m 49 #[.val (.int p0), .val (.int p1), .val (.int p2), .val (.long p3), .second, .val (.ref b1), .val (.ref b4), .val .null, .unset, .unset, .unset] [(.ref b10_0)]) _
    refine XS.astore X10.here hx rfl (hb hby at_49) rfl rfl (l' := #[.val (.int p0), .val (.int p1), .val (.int p2), .val (.long p3), .second, .val (.ref b1), .val (.ref b4), .val (.ref b10_0), .unset, .unset, .unset]) rfl ?_
    show Sp p e below T10 (mkF m 51 #[.val (.int p0), .val (.int p1), .val (.int p2), .val (.long p3), .second, .val (.ref b1), .val (.ref b4), .val (.ref b10_0), .unset, .unset, .unset] []) _
    refine st11 _ ?_
    show Sp p e below T11 (mkF m 54 #[.val (.int p0), .val (.int p1), .val (.int p2), .val (.long p3), .second, .val (.ref b1), .val (.ref b4), .val (.ref b10_0), .unset, .unset, .unset] [(.ref b11)]) _
    refine XS.dup X11.here hx rfl (hb hby at_54) rfl rfl ?_
    show Sp p e below T11 (mkF m 55 #[.val (.int p0), .val (.int p1), .val (.int p2), .val (.long p3), .second, .val (.ref b1), .val (.ref b4), .val (.ref b10_0), .unset, .unset, .unset] [(.ref b11), (.ref b11)]) _
    refine XS.aload X11.here hx rfl (hb hby at_55) rfl rfl ?_
    show Sp p e below T11 (mkF m 57 #[.val (.int p0), .val (.int p1), .val (.int p2), .val (.long p3), .second, .val (.ref b1), .val (.ref b4), .val (.ref b10_0), .unset, .unset, .unset] [(.ref b4), (.ref b11), (.ref b11)]) _
    refine XS.iloadN X11.here hx rfl (hb hby at_57) rfl ?_
    show Sp p e below T11 (mkF m 58 #[.val (.int p0), .val (.int p1), .val (.int p2), .val (.long p3), .second, .val (.ref b1), .val (.ref b4), .val (.ref b10_0), .unset, .unset, .unset] [(.int p0), (.ref b4), (.ref b11), (.ref b11)]) _
    refine XS.iloadN X11.here hx rfl (hb hby at_58) rfl ?_
    show Sp p e below T11 (mkF m 59 #[.val (.int p0), .val (.int p1), .val (.int p2), .val (.long p3), .second, .val (.ref b1), .val (.ref b4), .val (.ref b10_0), .unset, .unset, .unset] [(.int p1), (.int p0), (.ref b4), (.ref b11), (.ref b11)]) _
    refine XS.aload X11.here hx rfl (hb hby at_59) rfl rfl ?_
    show Sp p e below T11 (mkF m 61 #[.val (.int p0), .val (.int p1), .val (.int p2), .val (.long p3), .second, .val (.ref b1), .val (.ref b4), .val (.ref b10_0), .unset, .unset, .unset] [(.ref b10_0), (.int p1), (.int p0), (.ref b4), (.ref b11), (.ref b11)]) _
    refine st12.trans ?_
    show Sp p e below T12 (mkF m 64 #[.val (.int p0), .val (.int p1), .val (.int p2), .val (.long p3), .second, .val (.ref b1), .val (.ref b4), .val (.ref b10_0), .unset, .unset, .unset] [(.ref b11)]) _
    refine XS.astore X12.here hx rfl (hb hby at_64) rfl rfl (l' := #[.val (.int p0), .val (.int p1), .val (.int p2), .val (.long p3), .second, .val (.ref b1), .val (.ref b4), .val (.ref b10_0), .val (.ref b11), .unset, .unset]) rfl ?_
    show Sp p e below T12 (mkF m 66 #[.val (.int p0), .val (.int p1), .val (.int p2), .val (.long p3), .second, .val (.ref b1), .val (.ref b4), .val (.ref b10_0), .val (.ref b11), .unset, .unset] []) _
    refine XS.iloadN X12.here hx rfl (hb hby at_66) rfl ?_
    show Sp p e below T12 (mkF m 67 #[.val (.int p0), .val (.int p1), .val (.int p2), .val (.long p3), .second, .val (.ref b1), .val (.ref b4), .val (.ref b10_0), .val (.ref b11), .unset, .unset] [(.int p1)]) _
    refine X12.ldcI hx hown9 (mvT hZ9 (hw _ (List.mem_of_getElem? (i := 68) rfl))) rfl (hb hby at_67) ?_
    show Sp p e below T12 (mkF m 69 #[.val (.int p0), .val (.int p1), .val (.int p2), .val (.long p3), .second, .val (.ref b1), .val (.ref b4), .val (.ref b10_0), .val (.ref b11), .unset, .unset] [(.int (2147483647 : Int32)), (.int p1)]) _
    refine XS.icmpNo X12.here hx rfl (hb hby at_69) rfl (tlt hc3).2.1 ?_
    show Sp p e below T12 (mkF m 72 #[.val (.int p0), .val (.int p1), .val (.int p2), .val (.long p3), .second, .val (.ref b1), .val (.ref b4), .val (.ref b10_0), .val (.ref b11), .unset, .unset] []) _
    refine XS.iconst X12.here hx rfl (hb hby at_72) ?_
    show Sp p e below T12 (mkF m 73 #[.val (.int p0), .val (.int p1), .val (.int p2), .val (.long p3), .second, .val (.ref b1), .val (.ref b4), .val (.ref b10_0), .val (.ref b11), .unset, .unset] [(.int (1 : Int32))]) _
    refine XS.goto X12.here hx rfl (pc0 := 73) (pc' := 77) rfl (hb hby at_73) (by decide) (by decide) ?_
    show Sp p e below T12 (mkF m 77 #[.val (.int p0), .val (.int p1), .val (.int p2), .val (.long p3), .second, .val (.ref b1), .val (.ref b4), .val (.ref b10_0), .val (.ref b11), .unset, .unset] [(.int (1 : Int32))]) _
    refine XS.istore X12.here hx rfl (hb hby at_77) rfl (l' := #[.val (.int p0), .val (.int p1), .val (.int p2), .val (.long p3), .second, .val (.ref b1), .val (.ref b4), .val (.ref b10_0), .val (.ref b11), .val (.int (1 : Int32)), .unset]) rfl ?_
    show Sp p e below T12 (mkF m 79 #[.val (.int p0), .val (.int p1), .val (.int p2), .val (.long p3), .second, .val (.ref b1), .val (.ref b4), .val (.ref b10_0), .val (.ref b11), .val (.int (1 : Int32)), .unset] []) _
    refine st13 _ ?_
    show Sp p e below T13 (mkF m 82 #[.val (.int p0), .val (.int p1), .val (.int p2), .val (.long p3), .second, .val (.ref b1), .val (.ref b4), .val (.ref b10_0), .val (.ref b11), .val (.int (1 : Int32)), .unset] [(.ref b13)]) _
    refine XS.dup X13.here hx rfl (hb hby at_82) rfl rfl ?_
    show Sp p e below T13 (mkF m 83 #[.val (.int p0), .val (.int p1), .val (.int p2), .val (.long p3), .second, .val (.ref b1), .val (.ref b4), .val (.ref b10_0), .val (.ref b11), .val (.int (1 : Int32)), .unset] [(.ref b13), (.ref b13)]) _
    refine XS.aload X13.here hx rfl (hb hby at_83) rfl rfl ?_
    show Sp p e below T13 (mkF m 85 #[.val (.int p0), .val (.int p1), .val (.int p2), .val (.long p3), .second, .val (.ref b1), .val (.ref b4), .val (.ref b10_0), .val (.ref b11), .val (.int (1 : Int32)), .unset] [(.ref b4), (.ref b13), (.ref b13)]) _
    refine XS.iloadN X13.here hx rfl (hb hby at_85) rfl ?_
    show Sp p e below T13 (mkF m 86 #[.val (.int p0), .val (.int p1), .val (.int p2), .val (.long p3), .second, .val (.ref b1), .val (.ref b4), .val (.ref b10_0), .val (.ref b11), .val (.int (1 : Int32)), .unset] [(.int p0), (.ref b4), (.ref b13), (.ref b13)]) _
    refine st14.trans ?_
    show Sp p e below T14 (mkF m 89 #[.val (.int p0), .val (.int p1), .val (.int p2), .val (.long p3), .second, .val (.ref b1), .val (.ref b4), .val (.ref b10_0), .val (.ref b11), .val (.int (1 : Int32)), .unset] [(.ref b13)]) _
    refine XS.astore X14.here hx rfl (hb hby at_89) rfl rfl (l' := #[.val (.int p0), .val (.int p1), .val (.int p2), .val (.long p3), .second, .val (.ref b1), .val (.ref b4), .val (.ref b10_0), .val (.ref b11), .val (.int (1 : Int32)), .val (.ref b13)]) rfl ?_
    show Sp p e below T14 (mkF m 91 #[.val (.int p0), .val (.int p1), .val (.int p2), .val (.long p3), .second, .val (.ref b1), .val (.ref b4), .val (.ref b10_0), .val (.ref b11), .val (.int (1 : Int32)), .val (.ref b13)] []) _
    refine XS.aload X14.here hx rfl (hb hby at_91) rfl rfl ?_
    show Sp p e below T14 (mkF m 93 #[.val (.int p0), .val (.int p1), .val (.int p2), .val (.long p3), .second, .val (.ref b1), .val (.ref b4), .val (.ref b10_0), .val (.ref b11), .val (.int (1 : Int32)), .val (.ref b13)] [(.ref b11)]) _
    refine st16.trans ?_
    show Sp p e below T16 (mkF m 96 #[.val (.int p0), .val (.int p1), .val (.int p2), .val (.long p3), .second, .val (.ref b1), .val (.ref b4), .val (.ref b10_0), .val (.ref b11), .val (.int (1 : Int32)), .val (.ref b13)] [(.int (1 : Int32))]) _
    refine XS.iload X16.here hx rfl (hb hby at_96) rfl ?_
    show Sp p e below T16 (mkF m 98 #[.val (.int p0), .val (.int p1), .val (.int p2), .val (.long p3), .second, .val (.ref b1), .val (.ref b4), .val (.ref b10_0), .val (.ref b11), .val (.int (1 : Int32)), .val (.ref b13)] [(.int (1 : Int32)), (.int (1 : Int32))]) _
    refine XS.icmpNo X16.here hx rfl (hb hby at_98) rfl (teq (by decide : (1 : Int32) = (1 : Int32))).2 ?_
    show Sp p e below T16 (mkF m 101 #[.val (.int p0), .val (.int p1), .val (.int p2), .val (.long p3), .second, .val (.ref b1), .val (.ref b4), .val (.ref b10_0), .val (.ref b11), .val (.int (1 : Int32)), .val (.ref b13)] []) _
    refine XS.aload X16.here hx rfl (hb hby at_101) rfl rfl ?_
    show Sp p e below T16 (mkF m 103 #[.val (.int p0), .val (.int p1), .val (.int p2), .val (.long p3), .second, .val (.ref b1), .val (.ref b4), .val (.ref b10_0), .val (.ref b11), .val (.int (1 : Int32)), .val (.ref b13)] [(.ref b13)]) _
    refine st17.trans ?_
    show Sp p e below T17 (mkF m 106 #[.val (.int p0), .val (.int p1), .val (.int p2), .val (.long p3), .second, .val (.ref b1), .val (.ref b4), .val (.ref b10_0), .val (.ref b11), .val (.int (1 : Int32)), .val (.ref b13)] [(.int (0 : Int32))]) _
    refine XS.ifNo X17.here hx rfl (hb hby at_106) rfl ((if0 _ _).trans (teq (by decide : (0 : Int32) = (0 : Int32))).2) ?_
    show Sp p e below T17 (mkF m 109 #[.val (.int p0), .val (.int p1), .val (.int p2), .val (.long p3), .second, .val (.ref b1), .val (.ref b4), .val (.ref b10_0), .val (.ref b11), .val (.int (1 : Int32)), .val (.ref b13)] []) _
    refine XS.iconst X17.here hx rfl (hb hby at_109) ?_
    show Sp p e below T17 (mkF m 110 #[.val (.int p0), .val (.int p1), .val (.int p2), .val (.long p3), .second, .val (.ref b1), .val (.ref b4), .val (.ref b10_0), .val (.ref b11), .val (.int (1 : Int32)), .val (.ref b13)] [(.int (1 : Int32))]) _
    refine XS.goto X17.here hx rfl (pc0 := 110) (pc' := 114) rfl (hb hby at_110) (by decide) (by decide) ?_
    show Sp p e below T17 (mkF m 114 #[.val (.int p0), .val (.int p1), .val (.int p2), .val (.long p3), .second, .val (.ref b1), .val (.ref b4), .val (.ref b10_0), .val (.ref b11), .val (.int (1 : Int32)), .val (.ref b13)] [(.int (1 : Int32))]) _
    exact retN X17 hx (t := .boolean) Bd.returns (by simp) (hb hby at_114) hr
  · skip
    exact ⟨rfl, N17⟩
theorem d13_12 : decode jdk_35_method_24_code 12 = .ok (.lload_n 0, 1) := by decide +kernel
theorem d13_13 : decode jdk_35_method_24_code 13 = .ok (.ldc2_w 232, 3) := by decide +kernel
theorem d13_16 : decode jdk_35_method_24_code 16 = .ok (.lcmp, 1) := by decide +kernel
theorem d13_17 : decode jdk_35_method_24_code 17 = .ok (.ifCond .gt 14, 3) := by decide +kernel
def Q20 (Z : State) (w_lcache : Addr) (cs_v : Int32) (cl_lcache : Cell) (q1 : Int64) (h0 : Heap) (n0 : Nat) (v : Option Value) (h : Heap) (L : List Loc) : Prop := ∃ (b1 : Addr), v = some (.ref b1) ∧ Fr n0 L ∧ Keep h0 h [] ∧ h0.size ≤ b1 ∧ Exa Z h b1 "java/lang/Long" ∧ Fld Z h b1 "java/lang/Long" "value" "J" (.long q1)
set_option maxRecDepth 65536 in
set_option maxHeartbeats 40000000 in
theorem rm20 (l : Launch) (Z : State) (a0 : Array Value) (hw : ∀ d ∈ tables_1, d.before a0 Z = true) (ws : List Jvm.Cond) (w_lcache : Addr) (cs_v : Int32) (cl_lcache : Cell) (hp : Perm Z w_lcache cs_v cl_lcache) (q1 : Int64) (h0 : Heap) (n0 : Nat) (O0 : Old Z n0 h0) (hc1 : ¬ ((lcmpW q1 (-128 : Int64)) < (0 : Int32))) (hc2 : (0 : Int32) < (lcmpW q1 (127 : Int64))) :
    MetFree l y13 (head1 (Jvm.Cond.code y13 jdk_35_method_24_code 3 (some (.object "java/lang/Long")) :: ws) ({ frames := 3, cells := 1, slots := 1, locals := 39 } : Room)) (fun a U => a = #[(.long q1)] ∧ Z.Warmed39 U.vm ∧ U.heap = h0) (fun _ _ _ _ _ => True) (fun _ U o U' => ∃ v L, o = .returned v ∧ Q20 Z w_lcache cs_v cl_lcache q1 h0 n0 v U'.heap L ∧ FrameEnd U o U' L ({ frames := 3, cells := 1, slots := 1, locals := 39 } : Room).cells ({ frames := 3, cells := 1, slots := 1, locals := 39 } : Room).slots) := by
  refine MetFree.of_bodySF (plainFor_of_name pn_14) hisR ?_
  intro p e s m args below meth c s₁ Bd hml0 hP hK
  obtain ⟨rfl, hZ, hh⟩ := hP
  have hx := Bd.exec
  have hby := Bd.bytes
  have hml : c.maxLocals = 3 := hml0
  have hown : s.vm.findClass "java/lang/Long" = some m.cls := findClass_of_methodNamed Bd.named
  have hnm := (name_of_methodNamed Bd.named Bd.method).1
  have X0 : Stand p l e ({ frames := 3, cells := 1, slots := 1, locals := 39 } : Room) s m #[(.long q1)] below meth c s₁ [] 0 0 := Stand.of_body Bd
  have e0 : s₁.heap = h0 := by rw [← hh, Bd.state]; rfl
  have N0 := Fr.nil n0
  have hp' := hp
  obtain ⟨S_COMPACT_STRINGS, h_cs, S_w_lcache, B_lcache⟩ := hp'
  have pre0 : ∀ t, Steps p.tables e below (s₁.setTop (mkF m 0 #[.val (.long q1), .second, .unset] [])) t → Steps p.tables e below (s₁.setTop (entryFrame m #[(.long q1)] 3)) t := fun t k => castTop (ef_13_0 m q1) k
  obtain ⟨T1, h1, X1, e1, E1, A1, D1, -, st1⟩ := newO X0 hx hZ hown (hw _ (List.mem_of_getElem? (i := 84) rfl)) (hw _ (List.mem_of_getElem? (i := 85) rfl)) (hw _ (List.mem_of_getElem? (i := 81) rfl)) e0 (g := (mkF m 31 #[.val (.long q1), .second, .val (.int (128 : Int32))] [])) rfl (hb hby d13_31) (by decide) (by decide)
  obtain ⟨b1, g1⟩ : ∃ z, z = h0.size := ⟨_, rfl⟩
  rw [← g1] at A1 D1 st1
  have g_b1 : n0 ≤ b1 := Nat.le_trans (own_sz O0) (Nat.le_of_eq g1.symm)
  have sz_b1 : h0.size ≤ b1 := Nat.le_trans (Keep.refl h0 []).1 (Nat.le_of_eq g1.symm)
  have O1 := O0.ext E1
  have K1 : Keep h0 h1 [] := (Keep.refl h0 []).ext E1
  have F_value_b1 : Fld Z h1 b1 "java/lang/Long" "value" "J" (.long (0 : Int64)) := D1 (Or.inr (hw _ (List.mem_of_getElem? (i := 98) rfl))) (ty := .long) (by decide)
  obtain ⟨_, _, ⟨T2, L2, k2, n2⟩, -, X2, ⟨Lc2, hQ2, l2, y2, z2⟩, st2⟩ := X1.specialBack hx (y := y12) rfl hown (mvT hZ (hw _ (List.mem_of_getElem? (i := 86) rfl))) (mvT hZ (hw _ (List.mem_of_getElem? (i := 87) rfl))) (mvT hZ (hw _ (List.mem_of_getElem? (i := 89) rfl))) (by decide) (backOf (W := 1) (rm16 l Z a0 hw [] w_lcache cs_v cl_lcache hp b1 q1 h1 n0 O1 A1 F_value_b1 g_b1) hZ (hw _ (List.mem_of_getElem? (i := 89) rfl)) (hw _ (List.mem_of_getElem? (i := 81) rfl)) (by decide) (by decide)) (g := (mkF m 36 #[.val (.long q1), .second, .val (.int (128 : Int32))] [(.long q1), (.ref b1), (.ref b1)])) rfl (by rw [hml]; rfl) (Steps.refl _) (a := b1) (argsL := [(.long q1)]) (rest := [(.ref b1)]) (lenOf pd_11 rfl) rfl (by show 2 * 0 + _ ≤ _; exact Nat.le_of_eq rfl) (hb hby d13_36) (fun _ _ => ⟨rfl, e1, (by decide : 1 + 0 ≤ _), (by decide : 1 + 0 ≤ _)⟩)
  dsimp only [Pt.U, Pt.locs, Pt.cells, Pt.slots] at X2 l2 y2 z2 st2 hQ2
  subst l2 y2 z2
  obtain ⟨rfl, Nq2, Kq2, fq2_0, fq2_1⟩ := hQ2
  have N2 := Fr.app N0 Nq2
  have O2 := O1.keep Kq2 (allS g_b1 all0)
  have K2 : Keep h0 T2.heap [] := K1.trans Kq2 (allS (Or.inr sz_b1) all0)
  obtain ⟨fs, hr, hrun, hended, hW, hsame⟩ := X2.leave (v := some (.ref b1)) (fun h => by rw [Bd.returns] at h; cases h)
  refine ⟨_, _, pre0 _ ?_, hrun, hended, _, _, rfl, ?_, ⟨_, rfl⟩, hW, hsame.mono (by decide) (by decide)⟩
  · show Sp p e below s₁ (mkF m 0 #[.val (.long q1), .second, .unset] []) _
    refine XS.sipush X0.here hx rfl (hb hby d13_0) ?_
    show Sp p e below s₁ (mkF m 3 #[.val (.long q1), .second, .unset] [(.int (128 : Int32))]) _
    refine XS.istoreN X0.here hx rfl (hb hby d13_3) rfl (l' := #[.val (.long q1), .second, .val (.int (128 : Int32))]) rfl ?_
    show Sp p e below s₁ (mkF m 4 #[.val (.long q1), .second, .val (.int (128 : Int32))] []) _
    refine XS.lloadN X0.here hx rfl (hb hby d13_4) rfl ?_
    show Sp p e below s₁ (mkF m 5 #[.val (.long q1), .second, .val (.int (128 : Int32))] [(.long q1)]) _
    refine X0.ldc2J hx hown (mvT hZ (hw _ (List.mem_of_getElem? (i := 83) rfl))) rfl (hb hby d13_5) ?_
    show Sp p e below s₁ (mkF m 8 #[.val (.long q1), .second, .val (.int (128 : Int32))] [(.long (-128 : Int64)), (.long q1)]) _
    refine XS.lcmp X0.here hx rfl (hb hby d13_8) rfl ?_
    show Sp p e below s₁ (mkF m 9 #[.val (.long q1), .second, .val (.int (128 : Int32))] [(.int (lcmpW q1 (-128 : Int64)))]) _
    refine XS.ifNo X0.here hx rfl (hb hby d13_9) rfl ((if0 _ _).trans (flt hc1).1) ?_
    show Sp p e below s₁ (mkF m 12 #[.val (.long q1), .second, .val (.int (128 : Int32))] []) _
    refine XS.lloadN X0.here hx rfl (hb hby d13_12) rfl ?_
    show Sp p e below s₁ (mkF m 13 #[.val (.long q1), .second, .val (.int (128 : Int32))] [(.long q1)]) _
    refine X0.ldc2J hx hown (mvT hZ (hw _ (List.mem_of_getElem? (i := 99) rfl))) rfl (hb hby d13_13) ?_
    show Sp p e below s₁ (mkF m 16 #[.val (.long q1), .second, .val (.int (128 : Int32))] [(.long (127 : Int64)), (.long q1)]) _
    refine XS.lcmp X0.here hx rfl (hb hby d13_16) rfl ?_
    show Sp p e below s₁ (mkF m 17 #[.val (.long q1), .second, .val (.int (128 : Int32))] [(.int (lcmpW q1 (127 : Int64)))]) _
    refine XS.ifYes X0.here hx rfl (pc0 := 17) (pc' := 31) rfl (hb hby d13_17) rfl ((if0 _ _).trans (tlt hc2).2.2.1) (by decide) (by decide) ?_
    show Sp p e below s₁ (mkF m 31 #[.val (.long q1), .second, .val (.int (128 : Int32))] []) _
    refine st1 _ ?_
    show Sp p e below T1 (mkF m 34 #[.val (.long q1), .second, .val (.int (128 : Int32))] [(.ref b1)]) _
    refine XS.dup X1.here hx rfl (hb hby d13_34) rfl rfl ?_
    show Sp p e below T1 (mkF m 35 #[.val (.long q1), .second, .val (.int (128 : Int32))] [(.ref b1), (.ref b1)]) _
    refine XS.lloadN X1.here hx rfl (hb hby d13_35) rfl ?_
    show Sp p e below T1 (mkF m 36 #[.val (.long q1), .second, .val (.int (128 : Int32))] [(.long q1), (.ref b1), (.ref b1)]) _
    refine st2.trans ?_
    show Sp p e below T2 (mkF m 39 #[.val (.long q1), .second, .val (.int (128 : Int32))] [(.ref b1)]) _
    jvm_step X2.here [X2.here.top, hx, (hb hby d13_39), X2.method', Bd.returns, Value.isRef, FieldType.isReference]
    first | (intro acts; rw [hr _ acts rfl rfl rfl]) | rw [hr _ _ rfl rfl rfl]
    exact Steps.refl _
  · show Q20 Z w_lcache cs_v cl_lcache q1 h0 n0 _ T2.heap _
    exact ⟨b1, rfl, N2, K2, sz_b1, fq2_0, fq2_1⟩
set_option maxRecDepth 65536 in
set_option maxHeartbeats 40000000 in
theorem rm21 (l : Launch) (Z : State) (a0 : Array Value) (hw : ∀ d ∈ tables_1, d.before a0 Z = true) (ws : List Jvm.Cond) (w_lcache : Addr) (cs_v : Int32) (cl_lcache : Cell) (hp : Perm Z w_lcache cs_v cl_lcache) (p0 : Int32) (p1 : Int32) (p2 : Int32) (p3 : Int64) (h0 : Heap) (n0 : Nat) (O0 : Old Z n0 h0) (hc1 : ¬ ((p2 &&& (256 : Int32)) = (0 : Int32))) (hc2 : ¬ ((lcmpW p3 (-128 : Int64)) < (0 : Int32))) (hc3 : (0 : Int32) < (lcmpW p3 (127 : Int64))) (hc4 : p1 < (2147483647 : Int32)) :
    MetFree l x (head1 (Jvm.Cond.code x code maxLocals ret :: ws) room_1) (fun a U => a = #[(.int p0), (.int p1), (.int p2), (.long p3)] ∧ Z.Warmed39 U.vm ∧ U.heap = h0 ∧ CHv Z own_EL U.vm h0) (fun _ _ _ _ _ => True) (fun _ U o U' => ∃ v L, o = .returned v ∧ (v = some (.int (1 : Int32)) ∧ Fr n0 L) ∧ ReturnedEndW U o U' L 24 1152) := by
  refine MetFree.of_bodySF (plainFor_of_name pn_0) hisR ?_
  intro p e s m args below meth c s₁ Bd hml0 hP hK
  obtain ⟨rfl, hZo, hh, hCH⟩ := hP
  have hx := Bd.exec
  have hby := Bd.bytes
  have hml : c.maxLocals = 11 := hml0
  have hown : (s.setVm s.vm).vm.findClass "com/example/latchwork/latchwork/CallIsAnsweredPinLaw" = some m.cls := findClass_of_methodNamed Bd.named
  have hnm := (name_of_methodNamed Bd.named Bd.method).1
  have X0 : Stand p l e room_1 (s.setVm s.vm) m #[(.int p0), (.int p1), (.int p2), (.long p3)] below meth c s₁ [] 0 0 := Stand.of_body Bd
  have e0 : s₁.heap = h0 := by rw [← hh, Bd.state]; rfl
  have N0 := Fr.nil n0
  have hZ : Z.Warmed39 (s.setVm s.vm).vm := hZo
  have CH0 := CHr.refl hCH
  have hS0 : s.Since s.vm 0 := (State.WarmedH.refl s).since 0
  have hk0 : 0 ≤ h0.size := Nat.zero_le _
  have hp' := hp
  obtain ⟨S_COMPACT_STRINGS, h_cs, S_w_lcache, B_lcache⟩ := hp'
  have pre0 : ∀ t, Steps p.tables e below (s₁.setTop (mkF m 0 #[.val (.int p0), .val (.int p1), .val (.int p2), .val (.long p3), .second, .unset, .unset, .unset, .unset, .unset, .unset] [])) t → Steps p.tables e below (s₁.setTop (entryFrame m #[(.int p0), (.int p1), (.int p2), (.long p3)] maxLocals)) t := fun t k => castTop (ef_0_0 m p0 p1 p2 p3) k
  obtain ⟨T1, h1, k1, X1, e1, E1, A1, EA1, st1⟩ := newPE X0 hx hZ (hw _ (List.mem_of_getElem? (i := 0) rfl)) e0 (g := (mkF m 1 #[.val (.int p0), .val (.int p1), .val (.int p2), .val (.long p3), .second, .unset, .unset, .unset, .unset, .unset, .unset] [(.int (1 : Int32))])) rfl (hb hby at_1) rfl (by decide) (cap := 1) (by decide) (by decide) (by decide) (by decide) (ad := "[C") (by decide)
  obtain ⟨b1, g1⟩ : ∃ z, z = h0.size := ⟨_, rfl⟩
  rw [← g1] at A1 EA1 st1
  have g_b1 : n0 ≤ b1 := Nat.le_trans (own_sz O0) (Nat.le_of_eq g1.symm)
  have sz_b1 : h0.size ≤ b1 := Nat.le_trans (Keep.refl h0 []).1 (Nat.le_of_eq g1.symm)
  have O1 := O0.ext E1
  have K1 : Keep h0 h1 [] := (Keep.refl h0 []).ext E1
  have CH1 := CH0.trans (CHr.ext E1 CH0.1)
  have hk1 := Nat.le_trans hk0 E1.1
  have V_b1 : Arv Z h1 b1 k1 .char (1 : Int32) [(.int (0 : Int32))] (.int (0 : Int32)) := (Arv.new A1 (by decide)).pad (pad_rep [] (.int (0 : Int32)) 1)
  obtain ⟨cl2, Ar2, q2, S2, Nn2, H2, G2⟩ := id V_b1
  have hin2 : ¬ ((0 : Int32) < 0 ∨ cl2.slots.size ≤ ((0 : Int32)).toNatClampNeg) := inb_of S2 ⟨by decide, by decide⟩
  obtain ⟨T3, h3, X3, e3, W3, st3⟩ := stC X1 hx hZ e1 Ar2 (j := (0 : Int32)) hin2 (g := (mkF m 14 #[.val (.int p0), .val (.int p1), .val (.int p2), .val (.long p3), .second, .val (.ref b1), .unset, .unset, .unset, .unset, .unset] [(.int ((p2 &&& (255 : Int32)).toUInt32.toUInt16.toUInt32.toInt32)), (.int (0 : Int32)), (.ref b1)])) rfl rfl (hb hby at_14)
  have N3 := Fr.snoc X3 N0 g_b1
  have O3 := O1.wr W3 g_b1
  have K3 : Keep h0 h3 [] := K1.wr W3 (Or.inr sz_b1)
  have CH3 := CH1.trans (CHr.wr W3 own_safe0 CH1.1)
  have hk3 := Nat.le_trans hk1 (Keep.of_wr W3).1
  have V_b1_3 : Arv Z h3 b1 k1 .char (1 : Int32) [(.int (nar .char ((p2 &&& (255 : Int32)).toUInt32.toUInt16.toUInt32.toInt32)))] (.int (0 : Int32)) := Arv.set Ar2 q2 S2 Nn2 H2 G2 (fits_nar_char _) W3 0 rfl (Nat.le_of_ble_eq_true rfl)
  obtain ⟨T4, h4, X4, e4, E4, A4, D4, -, st4⟩ := newO X3 hx hZ hown (hw _ (List.mem_of_getElem? (i := 1) rfl)) (hw _ (List.mem_of_getElem? (i := 2) rfl)) (hw _ (List.mem_of_getElem? (i := 3) rfl)) e3 (g := (mkF m 15 #[.val (.int p0), .val (.int p1), .val (.int p2), .val (.long p3), .second, .val (.ref b1), .unset, .unset, .unset, .unset, .unset] [])) rfl (hb hby at_15) (by decide) (by decide)
  obtain ⟨b4, g4⟩ : ∃ z, z = h3.size := ⟨_, rfl⟩
  rw [← g4] at A4 D4 st4
  have g_b4 : n0 ≤ b4 := Nat.le_trans (own_sz O3) (Nat.le_of_eq g4.symm)
  have sz_b4 : h0.size ≤ b4 := Nat.le_trans K3.1 (Nat.le_of_eq g4.symm)
  have O4 := O3.ext E4
  have K4 : Keep h0 h4 [] := K3.ext E4
  have CH4 := CH3.trans (CHr.ext E4 CH3.1)
  have hk4 := Nat.le_trans hk3 E4.1
  have F_function_b4 : Fld Z h4 b4 "com/example/latchwork/latchwork/Operation" "function" "Ljava/lang/String;" .null := D4 (Or.inr (hw _ (List.mem_of_getElem? (i := 50) rfl))) (ty := (.object "java/lang/String")) (by decide)
  have F_argument_b4 : Fld Z h4 b4 "com/example/latchwork/latchwork/Operation" "argument" "Ljava/lang/Object;" .null := D4 (Or.inr (hw _ (List.mem_of_getElem? (i := 52) rfl))) (ty := (.object "java/lang/Object")) (by decide)
  obtain ⟨T5, h5, X5, e5, E5, A5, D5, -, st5⟩ := newO X4 hx hZ hown (hw _ (List.mem_of_getElem? (i := 4) rfl)) (hw _ (List.mem_of_getElem? (i := 5) rfl)) (hw _ (List.mem_of_getElem? (i := 6) rfl)) e4 (g := (mkF m 19 #[.val (.int p0), .val (.int p1), .val (.int p2), .val (.long p3), .second, .val (.ref b1), .unset, .unset, .unset, .unset, .unset] [(.ref b4), (.ref b4)])) rfl (hb hby at_19) (by decide) (by decide)
  obtain ⟨b5, g5⟩ : ∃ z, z = h4.size := ⟨_, rfl⟩
  rw [← g5] at A5 D5 st5
  have g_b5 : n0 ≤ b5 := Nat.le_trans (own_sz O4) (Nat.le_of_eq g5.symm)
  have sz_b5 : h0.size ≤ b5 := Nat.le_trans K4.1 (Nat.le_of_eq g5.symm)
  have O5 := O4.ext E5
  have K5 : Keep h0 h5 [] := K4.ext E5
  have CH5 := CH4.trans (CHr.ext E5 CH4.1)
  have hk5 := Nat.le_trans hk4 E5.1
  have F_coder_b5 : Fld Z h5 b5 "java/lang/String" "coder" "B" (.int (0 : Int32)) := D5 (Or.inr (hw _ (List.mem_of_getElem? (i := 30) rfl))) (ty := .byte) (by decide)
  have F_value_b5 : Fld Z h5 b5 "java/lang/String" "value" "[B" .null := D5 (Or.inr (hw _ (List.mem_of_getElem? (i := 32) rfl))) (ty := (.array .byte)) (by decide)
  obtain ⟨_, _, ⟨T6, L6, k6, n6⟩, -, X6, ⟨Lc6, hQ6, l6, y6, z6⟩, st6⟩ := X5.specialBack hx (y := y4) rfl hown (mvT hZ (hw _ (List.mem_of_getElem? (i := 7) rfl))) (mvT hZ (hw _ (List.mem_of_getElem? (i := 8) rfl))) (mvT hZ (hw _ (List.mem_of_getElem? (i := 9) rfl))) (by decide) (backOf (W := 3) (rm5 l Z a0 hw [] w_lcache cs_v cl_lcache hp b5 b1 k1 (nar .char ((p2 &&& (255 : Int32)).toUInt32.toUInt16.toUInt32.toInt32)) h5 n0 O5 ((V_b1_3.ext E4).ext E5) (own_ch2 p2) A5 F_coder_b5 F_value_b5 g_b5) hZ (hw _ (List.mem_of_getElem? (i := 9) rfl)) (hw _ (List.mem_of_getElem? (i := 6) rfl)) (by decide) (by decide)) (g := (mkF m 25 #[.val (.int p0), .val (.int p1), .val (.int p2), .val (.long p3), .second, .val (.ref b1), .unset, .unset, .unset, .unset, .unset] [(.ref b1), (.ref b5), (.ref b5), (.ref b4), (.ref b4)])) rfl (by rw [hml]; rfl) (Steps.refl _) (a := b5) (argsL := [(.ref b1)]) (rest := [(.ref b5), (.ref b4), (.ref b4)]) (lenOf pd_4 rfl) rfl (by show 2 * 0 + _ ≤ _; exact Nat.le_of_eq rfl) (hb hby at_25) (fun _ _ => ⟨rfl, e5, (by decide : 3 + 1 ≤ _), (by decide : 7 + 1 ≤ _)⟩)
  dsimp only [Pt.U, Pt.locs, Pt.cells, Pt.slots] at X6 l6 y6 z6 st6 hQ6
  subst l6 y6 z6
  obtain ⟨b6_0, kc6_0, rfl, Nq6, Kq6, sq_b6_0, fq6_0, fq6_1, fq6_2, fq6_3, fq6_4⟩ := hQ6
  have N6 := Fr.app N3 Nq6
  have g_b6_0 : n0 ≤ b6_0 := Nat.le_trans (own_sz O5) sq_b6_0
  have sz_b6_0 : h0.size ≤ b6_0 := Nat.le_trans K5.1 sq_b6_0
  have CH6 := CH5.trans (CHr.keep Kq6 (allS own_safe0 all0) CH5.1)
  have hk6 := Nat.le_trans hk5 Kq6.1
  have O6 := O5.keep Kq6 (allS g_b5 all0)
  have K6 : Keep h0 T6.heap [] := K5.trans Kq6 (allS (Or.inr sz_b5) all0)
  have f_7 := ((F_function_b4.ext E5).keep Kq6 (ninS (Nat.ne_of_lt (Nat.lt_of_lt_of_le A4.lt (Nat.le_of_eq g5.symm))) nin0))
  have f_8 := ((F_argument_b4.ext E5).keep Kq6 (ninS (Nat.ne_of_lt (Nat.lt_of_lt_of_le A4.lt (Nat.le_of_eq g5.symm))) nin0))
  obtain ⟨_, _, ⟨T9, L9, k9, n9⟩, -, XX9, Sq9, gq9, ⟨Lc9, hQ9, l9, y9, z9, C9⟩, st9⟩ := X6.specialBackS hx (y := y7) rfl hown (mvT hZ (hw _ (List.mem_of_getElem? (i := 33) rfl))) (mvT hZ (hw _ (List.mem_of_getElem? (i := 34) rfl))) (mvT hZ (hw _ (List.mem_of_getElem? (i := 35) rfl))) (by decide) (own_backC (SL := []) (W := 1) (rm8 l Z a0 hw [] w_lcache cs_v cl_lcache hp b4 b5 T6.heap n0 O6 ((A4.ext E5).keep Kq6) f_7 f_8 g_b4) hZ (hw _ (List.mem_of_getElem? (i := 35) rfl)) (hw _ (List.mem_of_getElem? (i := 3) rfl)) (by decide) (by decide) (own_EW hw) CH6.1 all0) (g := (mkF m 29 #[.val (.int p0), .val (.int p1), .val (.int p2), .val (.long p3), .second, .val (.ref b1), .unset, .unset, .unset, .unset, .unset] [.null, (.ref b5), (.ref b4), (.ref b4)])) rfl (by rw [hml]; rfl) (Steps.refl _) (a := b4) (argsL := [(.ref b5), .null]) (rest := [(.ref b4)]) (lenOf pd_7 rfl) rfl (by show 2 * 0 + _ ≤ _; exact Nat.le_of_eq rfl) (hb hby at_29) (fun _ _ => ⟨rfl, rfl, (by decide : 4 + 2 ≤ _), (by decide : 8 + 36 ≤ _)⟩)
  dsimp only [Pt.U, Pt.locs, Pt.cells, Pt.slots] at XX9 Sq9 gq9 l9 y9 z9 st9 hQ9 C9
  subst l9 y9 z9
  obtain ⟨X9, hS9, hZ9, hown9⟩ := rebS hS0 hk6 XX9 Sq9 gq9 hZ hown
  obtain ⟨rfl, Nq9, Kq9, fq9_0, fq9_1, fq9_2⟩ := hQ9
  have N9 := Fr.app N6 Nq9
  have CH9 := CH6.trans C9
  have hk9 : T9.heap.size ≤ T9.heap.size := Nat.le_refl _
  have O9 := O6.keep Kq9 (allS g_b4 all0)
  have K9 : Keep h0 T9.heap [] := K6.trans Kq9 (allS (Or.inr sz_b4) all0)
  obtain ⟨_, _, ⟨T10, L10, k10, n10⟩, -, X10, ⟨Lc10, hQ10, l10, y10, z10⟩, st10⟩ := Jvm.LawKit.callS X9 hx (y := y13) hown9 (mvT hZ9 (hw _ (List.mem_of_getElem? (i := 79) rfl))) (mvT hZ9 (hw _ (List.mem_of_getElem? (i := 80) rfl))) (mvT hZ9 (hw _ (List.mem_of_getElem? (i := 81) rfl))) (mvT hZ9 (hw _ (List.mem_of_getElem? (i := 82) rfl))) (by decide) (backOf (W := 0) (rm20 l Z a0 hw [] w_lcache cs_v cl_lcache hp p3 T9.heap n0 O9 hc2 hc3) hZ9 (hw _ (List.mem_of_getElem? (i := 82) rfl)) (hw _ (List.mem_of_getElem? (i := 81) rfl)) (by decide) (by decide)) (g := (mkF m 46 #[.val (.int p0), .val (.int p1), .val (.int p2), .val (.long p3), .second, .val (.ref b1), .val (.ref b4), .val .null, .unset, .unset, .unset] [(.long p3)])) rfl (by rw [hml]; rfl) (argsL := [(.long p3)]) (rest := []) (lenOf pd_12 rfl) rfl (by show 2 * 0 + _ ≤ _; exact Nat.le_of_eq rfl) (hb hby at_46) (fun _ _ => ⟨rfl, rfl, (by decide : 6 + 1 ≤ _), (by decide : 44 + 1 ≤ _)⟩)
  dsimp only [Pt.U, Pt.locs, Pt.cells, Pt.slots] at X10 l10 y10 z10 st10 hQ10
  subst l10 y10 z10
  obtain ⟨b10_0, rfl, Nq10, Kq10, sq_b10_0, fq10_0, fq10_1⟩ := hQ10
  have N10 := Fr.app N9 Nq10
  have g_b10_0 : n0 ≤ b10_0 := Nat.le_trans (own_sz O9) sq_b10_0
  have sz_b10_0 : h0.size ≤ b10_0 := Nat.le_trans K9.1 sq_b10_0
  have CH10 := CH9.trans (CHr.keep Kq10 all0 CH9.1)
  have hk10 := Nat.le_trans hk9 Kq10.1
  have O10 := O9.keep Kq10 all0
  have K10 : Keep h0 T10.heap [] := K9.trans Kq10 all0
  obtain ⟨T11, h11, X11, e11, E11, A11, D11, -, st11⟩ := newO X10 hx hZ9 hown9 (hw _ (List.mem_of_getElem? (i := 53) rfl)) (hw _ (List.mem_of_getElem? (i := 54) rfl)) (hw _ (List.mem_of_getElem? (i := 55) rfl)) rfl (g := (mkF m 51 #[.val (.int p0), .val (.int p1), .val (.int p2), .val (.long p3), .second, .val (.ref b1), .val (.ref b4), .val (.ref b10_0), .unset, .unset, .unset] [])) rfl (hb hby at_51) (by decide) (by decide)
  obtain ⟨b11, g11⟩ : ∃ z, z = T10.heap.size := ⟨_, rfl⟩
  rw [← g11] at A11 D11 st11
  have g_b11 : n0 ≤ b11 := Nat.le_trans (own_sz O10) (Nat.le_of_eq g11.symm)
  have sz_b11 : h0.size ≤ b11 := Nat.le_trans K10.1 (Nat.le_of_eq g11.symm)
  have O11 := O10.ext E11
  have K11 : Keep h0 h11 [] := K10.ext E11
  have CH11 := CH10.trans (CHr.ext E11 CH10.1)
  have hk11 := Nat.le_trans hk10 E11.1
  have F_operation_b11 : Fld Z h11 b11 "com/example/latchwork/latchwork/RecordedForm$Call" "operation" "Lcom/example/latchwork/latchwork/Operation;" .null := D11 (Or.inr (hw _ (List.mem_of_getElem? (i := 61) rfl))) (ty := (.object "com/example/latchwork/latchwork/Operation")) (by decide)
  have F_called_b11 : Fld Z h11 b11 "com/example/latchwork/latchwork/RecordedForm$Call" "called" "I" (.int (0 : Int32)) := D11 (Or.inr (hw _ (List.mem_of_getElem? (i := 63) rfl))) (ty := .int) (by decide)
  have F_answered_b11 : Fld Z h11 b11 "com/example/latchwork/latchwork/RecordedForm$Call" "answered" "I" (.int (0 : Int32)) := D11 (Or.inr (hw _ (List.mem_of_getElem? (i := 65) rfl))) (ty := .int) (by decide)
  have F_result_b11 : Fld Z h11 b11 "com/example/latchwork/latchwork/RecordedForm$Call" "result" "Ljava/lang/Object;" .null := D11 (Or.inr (hw _ (List.mem_of_getElem? (i := 67) rfl))) (ty := (.object "java/lang/Object")) (by decide)
  obtain ⟨_, _, ⟨T12, L12, k12, n12⟩, -, X12, ⟨Lc12, hQ12, l12, y12, z12⟩, st12⟩ := X11.specialBack hx (y := y8) rfl hown9 (mvT hZ9 (hw _ (List.mem_of_getElem? (i := 56) rfl))) (mvT hZ9 (hw _ (List.mem_of_getElem? (i := 57) rfl))) (mvT hZ9 (hw _ (List.mem_of_getElem? (i := 58) rfl))) (by decide) (backOf (W := 1) (rm18 l Z a0 hw [] w_lcache cs_v cl_lcache hp b11 b4 p0 p1 b10_0 h11 n0 O11 A11 F_operation_b11 F_called_b11 F_answered_b11 F_result_b11 g_b11) hZ9 (hw _ (List.mem_of_getElem? (i := 58) rfl)) (hw _ (List.mem_of_getElem? (i := 55) rfl)) (by decide) (by decide)) (g := (mkF m 61 #[.val (.int p0), .val (.int p1), .val (.int p2), .val (.long p3), .second, .val (.ref b1), .val (.ref b4), .val (.ref b10_0), .unset, .unset, .unset] [(.ref b10_0), (.int p1), (.int p0), (.ref b4), (.ref b11), (.ref b11)])) rfl (by rw [hml]; rfl) (Steps.refl _) (a := b11) (argsL := [(.ref b4), (.int p0), (.int p1), (.ref b10_0)]) (rest := [(.ref b11)]) (lenOf pd_8 rfl) rfl (by show 2 * 0 + _ ≤ _; exact Nat.le_of_eq rfl) (hb hby at_61) (fun _ _ => ⟨rfl, e11, (by decide : 8 + 0 ≤ _), (by decide : 49 + 0 ≤ _)⟩)
  dsimp only [Pt.U, Pt.locs, Pt.cells, Pt.slots] at X12 l12 y12 z12 st12 hQ12
  subst l12 y12 z12
  obtain ⟨rfl, Nq12, Kq12, fq12_0, fq12_1, fq12_2, fq12_3, fq12_4⟩ := hQ12
  have N12 := Fr.app N10 Nq12
  have CH12 := CH11.trans (CHr.keep Kq12 (allS own_safe0 all0) CH11.1)
  have hk12 := Nat.le_trans hk11 Kq12.1
  have O12 := O11.keep Kq12 (allS g_b11 all0)
  have K12 : Keep h0 T12.heap [] := K11.trans Kq12 (allS (Or.inr sz_b11) all0)
  obtain ⟨T13, h13, X13, e13, E13, A13, D13, -, st13⟩ := newO X12 hx hZ9 hown9 (hw _ (List.mem_of_getElem? (i := 53) rfl)) (hw _ (List.mem_of_getElem? (i := 54) rfl)) (hw _ (List.mem_of_getElem? (i := 55) rfl)) rfl (g := (mkF m 79 #[.val (.int p0), .val (.int p1), .val (.int p2), .val (.long p3), .second, .val (.ref b1), .val (.ref b4), .val (.ref b10_0), .val (.ref b11), .val (.int (1 : Int32)), .unset] [])) rfl (hb hby at_79) (by decide) (by decide)
  obtain ⟨b13, g13⟩ : ∃ z, z = T12.heap.size := ⟨_, rfl⟩
  rw [← g13] at A13 D13 st13
  have g_b13 : n0 ≤ b13 := Nat.le_trans (own_sz O12) (Nat.le_of_eq g13.symm)
  have sz_b13 : h0.size ≤ b13 := Nat.le_trans K12.1 (Nat.le_of_eq g13.symm)
  have O13 := O12.ext E13
  have K13 : Keep h0 h13 [] := K12.ext E13
  have CH13 := CH12.trans (CHr.ext E13 CH12.1)
  have hk13 := Nat.le_trans hk12 E13.1
  have F_operation_b13 : Fld Z h13 b13 "com/example/latchwork/latchwork/RecordedForm$Call" "operation" "Lcom/example/latchwork/latchwork/Operation;" .null := D13 (Or.inr (hw _ (List.mem_of_getElem? (i := 61) rfl))) (ty := (.object "com/example/latchwork/latchwork/Operation")) (by decide)
  have F_called_b13 : Fld Z h13 b13 "com/example/latchwork/latchwork/RecordedForm$Call" "called" "I" (.int (0 : Int32)) := D13 (Or.inr (hw _ (List.mem_of_getElem? (i := 63) rfl))) (ty := .int) (by decide)
  have F_answered_b13 : Fld Z h13 b13 "com/example/latchwork/latchwork/RecordedForm$Call" "answered" "I" (.int (0 : Int32)) := D13 (Or.inr (hw _ (List.mem_of_getElem? (i := 65) rfl))) (ty := .int) (by decide)
  have F_result_b13 : Fld Z h13 b13 "com/example/latchwork/latchwork/RecordedForm$Call" "result" "Ljava/lang/Object;" .null := D13 (Or.inr (hw _ (List.mem_of_getElem? (i := 67) rfl))) (ty := (.object "java/lang/Object")) (by decide)
  obtain ⟨_, _, ⟨T14, L14, k14, n14⟩, -, X14, ⟨Lc14, hQ14, l14, y14, z14⟩, st14⟩ := X13.specialBack hx (y := y9) rfl hown9 (mvT hZ9 (hw _ (List.mem_of_getElem? (i := 69) rfl))) (mvT hZ9 (hw _ (List.mem_of_getElem? (i := 70) rfl))) (mvT hZ9 (hw _ (List.mem_of_getElem? (i := 71) rfl))) (by decide) (backOf (W := 1) (rm11 l Z a0 hw [] w_lcache cs_v cl_lcache hp b13 b4 p0 h13 n0 O13 A13 F_operation_b13 F_called_b13 F_answered_b13 F_result_b13 g_b13) hZ9 (hw _ (List.mem_of_getElem? (i := 71) rfl)) (hw _ (List.mem_of_getElem? (i := 55) rfl)) (by decide) (by decide)) (g := (mkF m 86 #[.val (.int p0), .val (.int p1), .val (.int p2), .val (.long p3), .second, .val (.ref b1), .val (.ref b4), .val (.ref b10_0), .val (.ref b11), .val (.int (1 : Int32)), .unset] [(.int p0), (.ref b4), (.ref b13), (.ref b13)])) rfl (by rw [hml]; rfl) (Steps.refl _) (a := b13) (argsL := [(.ref b4), (.int p0)]) (rest := [(.ref b13)]) (lenOf pd_9 rfl) rfl (by show 2 * 0 + _ ≤ _; exact Nat.le_of_eq rfl) (hb hby at_86) (fun _ _ => ⟨rfl, e13, (by decide : 9 + 0 ≤ _), (by decide : 53 + 0 ≤ _)⟩)
  dsimp only [Pt.U, Pt.locs, Pt.cells, Pt.slots] at X14 l14 y14 z14 st14 hQ14
  subst l14 y14 z14
  obtain ⟨rfl, Nq14, Kq14, fq14_0, fq14_1, fq14_2, fq14_3, fq14_4⟩ := hQ14
  have N14 := Fr.app N12 Nq14
  have CH14 := CH13.trans (CHr.keep Kq14 (allS own_safe0 all0) CH13.1)
  have hk14 := Nat.le_trans hk13 Kq14.1
  have O14 := O13.keep Kq14 (allS g_b13 all0)
  have K14 : Keep h0 T14.heap [] := K13.trans Kq14 (allS (Or.inr sz_b13) all0)
  have f_15 := ((fq12_1.ext E13).keep Kq14 (ninS (Nat.ne_of_lt (Nat.lt_of_lt_of_le (A11.keep Kq12).lt (Nat.le_of_eq g13.symm))) nin0))
  obtain ⟨cq16, kq16, q16a, q16b, q16c⟩ := isOf hZ9 rfl ((fq12_0.ext E13).keep Kq14)
  obtain ⟨_, _, ⟨T16, L16, k16, n16⟩, -, X16, ⟨Lc16, hQ16, l16, y16, z16⟩, st16⟩ := X14.virtualBack hx (y := y10) (z := y10) hown9 (mvT hZ9 (hw _ (List.mem_of_getElem? (i := 74) rfl))) (mvT hZ9 (hw _ (List.mem_of_getElem? (i := 75) rfl))) (notFace_of_selects (args := #[]) (mvT hZ9 (hw _ (List.mem_of_getElem? (i := 77) rfl)))) (mvT hZ9 (hw _ (List.mem_of_getElem? (i := 77) rfl))) (mvT hZ9 (hw _ (List.mem_of_getElem? (i := 76) rfl))) (by decide) (backOf (W := 0) (rm12 l Z a0 hw [] w_lcache cs_v cl_lcache hp b11 p1 T14.heap n0 O14 f_15 (own_mx1 hc4)) hZ9 (hw _ (List.mem_of_getElem? (i := 78) rfl)) (hw _ (List.mem_of_getElem? (i := 55) rfl)) (by decide) (by decide)) q16a q16c (g := (mkF m 93 #[.val (.int p0), .val (.int p1), .val (.int p2), .val (.long p3), .second, .val (.ref b1), .val (.ref b4), .val (.ref b10_0), .val (.ref b11), .val (.int (1 : Int32)), .val (.ref b13)] [(.ref b11)])) rfl (by rw [hml]; rfl) (Steps.refl _) (argsL := []) (rest := []) (lenOf pd_10 rfl) rfl (by show 2 * 0 + _ ≤ _; exact Nat.le_of_eq rfl) (hb hby at_93) (fun _ _ => ⟨rfl, rfl, (by decide : 9 + 0 ≤ _), (by decide : 53 + 0 ≤ _)⟩)
  dsimp only [Pt.U, Pt.locs, Pt.cells, Pt.slots] at X16 l16 y16 z16 st16 hQ16
  subst l16 y16 z16
  obtain ⟨rfl, Nq16, eq16⟩ := hQ16
  have N16 := Fr.app N14 Nq16
  obtain ⟨cq17, kq17, q17a, q17b, q17c⟩ := isOf hZ9 eq16 fq14_0
  obtain ⟨_, _, ⟨T17, L17, k17, n17⟩, -, X17, ⟨Lc17, hQ17, l17, y17, z17⟩, st17⟩ := X16.virtualBack hx (y := y10) (z := y10) hown9 (mvT hZ9 (hw _ (List.mem_of_getElem? (i := 74) rfl))) (mvT hZ9 (hw _ (List.mem_of_getElem? (i := 75) rfl))) (notFace_of_selects (args := #[]) (mvT hZ9 (hw _ (List.mem_of_getElem? (i := 77) rfl)))) (mvT hZ9 (hw _ (List.mem_of_getElem? (i := 77) rfl))) (mvT hZ9 (hw _ (List.mem_of_getElem? (i := 76) rfl))) (by decide) (backOf (W := 0) (rm13 l Z a0 hw [] w_lcache cs_v cl_lcache hp b13 T14.heap n0 O14 fq14_1) hZ9 (hw _ (List.mem_of_getElem? (i := 78) rfl)) (hw _ (List.mem_of_getElem? (i := 55) rfl)) (by decide) (by decide)) q17a q17c (g := (mkF m 103 #[.val (.int p0), .val (.int p1), .val (.int p2), .val (.long p3), .second, .val (.ref b1), .val (.ref b4), .val (.ref b10_0), .val (.ref b11), .val (.int (1 : Int32)), .val (.ref b13)] [(.ref b13)])) rfl (by rw [hml]; rfl) (Steps.refl _) (argsL := []) (rest := []) (lenOf pd_10 rfl) rfl (by show 2 * 0 + _ ≤ _; exact Nat.le_of_eq rfl) (hb hby at_103) (fun _ _ => ⟨rfl, eq16, (by decide : 9 + 0 ≤ _), (by decide : 53 + 0 ≤ _)⟩)
  dsimp only [Pt.U, Pt.locs, Pt.cells, Pt.slots] at X17 l17 y17 z17 st17 hQ17
  subst l17 y17 z17
  obtain ⟨rfl, Nq17, eq17⟩ := hQ17
  have N17 := Fr.app N16 Nq17
  obtain ⟨fs, hr, hrun, hended, hE⟩ := Stand.leaveW (s := s) X17 hS9 (by rw [eq17]; exact hk14) (v := some (.int (1 : Int32))) (fun h => by rw [Bd.returns] at h; cases h)
  refine ⟨_, _, pre0 _ ?_, hrun, hended, _, _, rfl, ?_, hE.1, hE.2.1, hE.2.2.1, hE.2.2.2.mono (by decide) (by decide)⟩
  · show Sp p e below s₁ (mkF m 0 #[.val (.int p0), .val (.int p1), .val (.int p2), .val (.long p3), .second, .unset, .unset, .unset, .unset, .unset, .unset] []) _
    refine XS.iconst X0.here hx rfl (hb hby at_0) ?_
    show Sp p e below s₁ (mkF m 1 #[.val (.int p0), .val (.int p1), .val (.int p2), .val (.long p3), .second, .unset, .unset, .unset, .unset, .unset, .unset] [(.int (1 : Int32))]) _
    refine st1 _ ?_
    show Sp p e below T1 (mkF m 3 #[.val (.int p0), .val (.int p1), .val (.int p2), .val (.long p3), .second, .unset, .unset, .unset, .unset, .unset, .unset] [(.ref b1)]) _
    refine XS.astore X1.here hx rfl (hb hby at_3) rfl rfl (l' := #[.val (.int p0), .val (.int p1), .val (.int p2), .val (.long p3), .second, .val (.ref b1), .unset, .unset, .unset, .unset, .unset]) rfl ?_
    show Sp p e below T1 (mkF m 5 #[.val (.int p0), .val (.int p1), .val (.int p2), .val (.long p3), .second, .val (.ref b1), .unset, .unset, .unset, .unset, .unset] []) _
    refine XS.aload X1.here hx rfl (hb hby at_5) rfl rfl ?_
    show Sp p e below T1 (mkF m 7 #[.val (.int p0), .val (.int p1), .val (.int p2), .val (.long p3), .second, .val (.ref b1), .unset, .unset, .unset, .unset, .unset] [(.ref b1)]) _
    refine XS.iconst X1.here hx rfl (hb hby at_7) ?_
    show Sp p e below T1 (mkF m 8 #[.val (.int p0), .val (.int p1), .val (.int p2), .val (.long p3), .second, .val (.ref b1), .unset, .unset, .unset, .unset, .unset] [(.int (0 : Int32)), (.ref b1)]) _
    refine XS.iloadN X1.here hx rfl (hb hby at_8) rfl ?_
    show Sp p e below T1 (mkF m 9 #[.val (.int p0), .val (.int p1), .val (.int p2), .val (.long p3), .second, .val (.ref b1), .unset, .unset, .unset, .unset, .unset] [(.int p2), (.int (0 : Int32)), (.ref b1)]) _
    refine XS.sipush X1.here hx rfl (hb hby at_9) ?_
    show Sp p e below T1 (mkF m 12 #[.val (.int p0), .val (.int p1), .val (.int p2), .val (.long p3), .second, .val (.ref b1), .unset, .unset, .unset, .unset, .unset] [(.int (255 : Int32)), (.int p2), (.int (0 : Int32)), (.ref b1)]) _
    refine XS.iand X1.here hx rfl (hb hby at_12) rfl ?_
    show Sp p e below T1 (mkF m 13 #[.val (.int p0), .val (.int p1), .val (.int p2), .val (.long p3), .second, .val (.ref b1), .unset, .unset, .unset, .unset, .unset] [(.int (p2 &&& (255 : Int32))), (.int (0 : Int32)), (.ref b1)]) _
    refine XS.i2c X1.here hx rfl (hb hby at_13) rfl ?_
    show Sp p e below T1 (mkF m 14 #[.val (.int p0), .val (.int p1), .val (.int p2), .val (.long p3), .second, .val (.ref b1), .unset, .unset, .unset, .unset, .unset] [(.int ((p2 &&& (255 : Int32)).toUInt32.toUInt16.toUInt32.toInt32)), (.int (0 : Int32)), (.ref b1)]) _
    refine st3 _ ?_
    show Sp p e below T3 (mkF m 15 #[.val (.int p0), .val (.int p1), .val (.int p2), .val (.long p3), .second, .val (.ref b1), .unset, .unset, .unset, .unset, .unset] []) _
    refine st4 _ ?_
    show Sp p e below T4 (mkF m 18 #[.val (.int p0), .val (.int p1), .val (.int p2), .val (.long p3), .second, .val (.ref b1), .unset, .unset, .unset, .unset, .unset] [(.ref b4)]) _
    refine XS.dup X4.here hx rfl (hb hby at_18) rfl rfl ?_
    show Sp p e below T4 (mkF m 19 #[.val (.int p0), .val (.int p1), .val (.int p2), .val (.long p3), .second, .val (.ref b1), .unset, .unset, .unset, .unset, .unset] [(.ref b4), (.ref b4)]) _
    refine st5 _ ?_
    show Sp p e below T5 (mkF m 22 #[.val (.int p0), .val (.int p1), .val (.int p2), .val (.long p3), .second, .val (.ref b1), .unset, .unset, .unset, .unset, .unset] [(.ref b5), (.ref b4), (.ref b4)]) _
    refine XS.dup X5.here hx rfl (hb hby at_22) rfl rfl ?_
    show Sp p e below T5 (mkF m 23 #[.val (.int p0), .val (.int p1), .val (.int p2), .val (.long p3), .second, .val (.ref b1), .unset, .unset, .unset, .unset, .unset] [(.ref b5), (.ref b5), (.ref b4), (.ref b4)]) _
    refine XS.aload X5.here hx rfl (hb hby at_23) rfl rfl ?_
    show Sp p e below T5 (mkF m 25 #[.val (.int p0), .val (.int p1), .val (.int p2), .val (.long p3), .second, .val (.ref b1), .unset, .unset, .unset, .unset, .unset] [(.ref b1), (.ref b5), (.ref b5), (.ref b4), (.ref b4)]) _
    refine st6.trans ?_
    show Sp p e below T6 (mkF m 28 #[.val (.int p0), .val (.int p1), .val (.int p2), .val (.long p3), .second, .val (.ref b1), .unset, .unset, .unset, .unset, .unset] [(.ref b5), (.ref b4), (.ref b4)]) _
    refine XS.aconstNull X6.here hx rfl (hb hby at_28) ?_
    show Sp p e below T6 (mkF m 29 #[.val (.int p0), .val (.int p1), .val (.int p2), .val (.long p3), .second, .val (.ref b1), .unset, .unset, .unset, .unset, .unset] [.null, (.ref b5), (.ref b4), (.ref b4)]) _
    refine st9.trans ?_
    show Sp p e below T9 (mkF m 32 #[.val (.int p0), .val (.int p1), .val (.int p2), .val (.long p3), .second, .val (.ref b1), .unset, .unset, .unset, .unset, .unset] [(.ref b4)]) _
    refine XS.astore X9.here hx rfl (hb hby at_32) rfl rfl (l' := #[.val (.int p0), .val (.int p1), .val (.int p2), .val (.long p3), .second, .val (.ref b1), .val (.ref b4), .unset, .unset, .unset, .unset]) rfl ?_
    show Sp p e below T9 (mkF m 34 #[.val (.int p0), .val (.int p1), .val (.int p2), .val (.long p3), .second, .val (.ref b1), .val (.ref b4), .unset, .unset, .unset, .unset] []) _
    refine XS.aconstNull X9.here hx rfl (hb hby at_34) ?_
    show Sp p e below T9 (mkF m 35 #[.val (.int p0), .val (.int p1), .val (.int p2), .val (.long p3), .second, .val (.ref b1), .val (.ref b4), .unset, .unset, .unset, .unset] [.null]) _
    refine XS.astore X9.here hx rfl (hb hby at_35) rfl rfl (l' := #[.val (.int p0), .val (.int p1), .val (.int p2), .val (.long p3), .second, .val (.ref b1), .val (.ref b4), .val .null, .unset, .unset, .unset]) rfl ?_
    show Sp p e below T9 (mkF m 37 #[.val (.int p0), .val (.int p1), .val (.int p2), .val (.long p3), .second, .val (.ref b1), .val (.ref b4), .val .null, .unset, .unset, .unset] []) _
    refine XS.iloadN X9.here hx rfl (hb hby at_37) rfl ?_
    show Sp p e below T9 (mkF m 38 #[.val (.int p0), .val (.int p1), .val (.int p2), .val (.long p3), .second, .val (.ref b1), .val (.ref b4), .val .null, .unset, .unset, .unset] [(.int p2)]) _
    refine XS.sipush X9.here hx rfl (hb hby at_38) ?_
    show Sp p e below T9 (mkF m 41 #[.val (.int p0), .val (.int p1), .val (.int p2), .val (.long p3), .second, .val (.ref b1), .val (.ref b4), .val .null, .unset, .unset, .unset] [(.int (256 : Int32)), (.int p2)]) _
    refine XS.iand X9.here hx rfl (hb hby at_41) rfl ?_
    show Sp p e below T9 (mkF m 42 #[.val (.int p0), .val (.int p1), .val (.int p2), .val (.long p3), .second, .val (.ref b1), .val (.ref b4), .val .null, .unset, .unset, .unset] [(.int (p2 &&& (256 : Int32)))]) _
    refine XS.ifNo X9.here hx rfl (hb hby at_42) rfl ((if0 _ _).trans (feq hc1).1) ?_
    show Sp p e below T9 (mkF m 45 #[.val (.int p0), .val (.int p1), .val (.int p2), .val (.long p3), .second, .val (.ref b1), .val (.ref b4), .val .null, .unset, .unset, .unset] []) _
    refine XS.lloadN X9.here hx rfl (hb hby at_45) rfl ?_
    show Sp p e below T9 (mkF m 46 #[.val (.int p0), .val (.int p1), .val (.int p2), .val (.long p3), .second, .val (.ref b1), .val (.ref b4), .val .null, .unset, .unset, .unset] [(.long p3)]) _
    refine st10 _ ?_
    show Sp p e below T10 (mkF m 49 #[.val (.int p0), .val (.int p1), .val (.int p2), .val (.long p3), .second, .val (.ref b1), .val (.ref b4), .val .null, .unset, .unset, .unset] [(.ref b10_0)]) _
    refine XS.astore X10.here hx rfl (hb hby at_49) rfl rfl (l' := #[.val (.int p0), .val (.int p1), .val (.int p2), .val (.long p3), .second, .val (.ref b1), .val (.ref b4), .val (.ref b10_0), .unset, .unset, .unset]) rfl ?_
    show Sp p e below T10 (mkF m 51 #[.val (.int p0), .val (.int p1), .val (.int p2), .val (.long p3), .second, .val (.ref b1), .val (.ref b4), .val (.ref b10_0), .unset, .unset, .unset] []) _
    refine st11 _ ?_
    show Sp p e below T11 (mkF m 54 #[.val (.int p0), .val (.int p1), .val (.int p2), .val (.long p3), .second, .val (.ref b1), .val (.ref b4), .val (.ref b10_0), .unset, .unset, .unset] [(.ref b11)]) _
    refine XS.dup X11.here hx rfl (hb hby at_54) rfl rfl ?_
    show Sp p e below T11 (mkF m 55 #[.val (.int p0), .val (.int p1), .val (.int p2), .val (.long p3), .second, .val (.ref b1), .val (.ref b4), .val (.ref b10_0), .unset, .unset, .unset] [(.ref b11), (.ref b11)]) _
    refine XS.aload X11.here hx rfl (hb hby at_55) rfl rfl ?_
    show Sp p e below T11 (mkF m 57 #[.val (.int p0), .val (.int p1), .val (.int p2), .val (.long p3), .second, .val (.ref b1), .val (.ref b4), .val (.ref b10_0), .unset, .unset, .unset] [(.ref b4), (.ref b11), (.ref b11)]) _
    refine XS.iloadN X11.here hx rfl (hb hby at_57) rfl ?_
    show Sp p e below T11 (mkF m 58 #[.val (.int p0), .val (.int p1), .val (.int p2), .val (.long p3), .second, .val (.ref b1), .val (.ref b4), .val (.ref b10_0), .unset, .unset, .unset] [(.int p0), (.ref b4), (.ref b11), (.ref b11)]) _
    refine XS.iloadN X11.here hx rfl (hb hby at_58) rfl ?_
    show Sp p e below T11 (mkF m 59 #[.val (.int p0), .val (.int p1), .val (.int p2), .val (.long p3), .second, .val (.ref b1), .val (.ref b4), .val (.ref b10_0), .unset, .unset, .unset] [(.int p1), (.int p0), (.ref b4), (.ref b11), (.ref b11)]) _
    refine XS.aload X11.here hx rfl (hb hby at_59) rfl rfl ?_
    show Sp p e below T11 (mkF m 61 #[.val (.int p0), .val (.int p1), .val (.int p2), .val (.long p3), .second, .val (.ref b1), .val (.ref b4), .val (.ref b10_0), .unset, .unset, .unset] [(.ref b10_0), (.int p1), (.int p0), (.ref b4), (.ref b11), (.ref b11)]) _
    refine st12.trans ?_
    show Sp p e below T12 (mkF m 64 #[.val (.int p0), .val (.int p1), .val (.int p2), .val (.long p3), .second, .val (.ref b1), .val (.ref b4), .val (.ref b10_0), .unset, .unset, .unset] [(.ref b11)]) _
    refine XS.astore X12.here hx rfl (hb hby at_64) rfl rfl (l' := #[.val (.int p0), .val (.int p1), .val (.int p2), .val (.long p3), .second, .val (.ref b1), .val (.ref b4), .val (.ref b10_0), .val (.ref b11), .unset, .unset]) rfl ?_
    show Sp p e below T12 (mkF m 66 #[.val (.int p0), .val (.int p1), .val (.int p2), .val (.long p3), .second, .val (.ref b1), .val (.ref b4), .val (.ref b10_0), .val (.ref b11), .unset, .unset] []) _
    refine XS.iloadN X12.here hx rfl (hb hby at_66) rfl ?_
    show Sp p e below T12 (mkF m 67 #[.val (.int p0), .val (.int p1), .val (.int p2), .val (.long p3), .second, .val (.ref b1), .val (.ref b4), .val (.ref b10_0), .val (.ref b11), .unset, .unset] [(.int p1)]) _
    refine X12.ldcI hx hown9 (mvT hZ9 (hw _ (List.mem_of_getElem? (i := 68) rfl))) rfl (hb hby at_67) ?_
    show Sp p e below T12 (mkF m 69 #[.val (.int p0), .val (.int p1), .val (.int p2), .val (.long p3), .second, .val (.ref b1), .val (.ref b4), .val (.ref b10_0), .val (.ref b11), .unset, .unset] [(.int (2147483647 : Int32)), (.int p1)]) _
    refine XS.icmpNo X12.here hx rfl (hb hby at_69) rfl (tlt hc4).2.1 ?_
    show Sp p e below T12 (mkF m 72 #[.val (.int p0), .val (.int p1), .val (.int p2), .val (.long p3), .second, .val (.ref b1), .val (.ref b4), .val (.ref b10_0), .val (.ref b11), .unset, .unset] []) _
    refine XS.iconst X12.here hx rfl (hb hby at_72) ?_
    show Sp p e below T12 (mkF m 73 #[.val (.int p0), .val (.int p1), .val (.int p2), .val (.long p3), .second, .val (.ref b1), .val (.ref b4), .val (.ref b10_0), .val (.ref b11), .unset, .unset] [(.int (1 : Int32))]) _
    refine XS.goto X12.here hx rfl (pc0 := 73) (pc' := 77) rfl (hb hby at_73) (by decide) (by decide) ?_
    show Sp p e below T12 (mkF m 77 #[.val (.int p0), .val (.int p1), .val (.int p2), .val (.long p3), .second, .val (.ref b1), .val (.ref b4), .val (.ref b10_0), .val (.ref b11), .unset, .unset] [(.int (1 : Int32))]) _
    refine XS.istore X12.here hx rfl (hb hby at_77) rfl (l' := #[.val (.int p0), .val (.int p1), .val (.int p2), .val (.long p3), .second, .val (.ref b1), .val (.ref b4), .val (.ref b10_0), .val (.ref b11), .val (.int (1 : Int32)), .unset]) rfl ?_
    show Sp p e below T12 (mkF m 79 #[.val (.int p0), .val (.int p1), .val (.int p2), .val (.long p3), .second, .val (.ref b1), .val (.ref b4), .val (.ref b10_0), .val (.ref b11), .val (.int (1 : Int32)), .unset] []) _
    refine st13 _ ?_
    show Sp p e below T13 (mkF m 82 #[.val (.int p0), .val (.int p1), .val (.int p2), .val (.long p3), .second, .val (.ref b1), .val (.ref b4), .val (.ref b10_0), .val (.ref b11), .val (.int (1 : Int32)), .unset] [(.ref b13)]) _
    refine XS.dup X13.here hx rfl (hb hby at_82) rfl rfl ?_
    show Sp p e below T13 (mkF m 83 #[.val (.int p0), .val (.int p1), .val (.int p2), .val (.long p3), .second, .val (.ref b1), .val (.ref b4), .val (.ref b10_0), .val (.ref b11), .val (.int (1 : Int32)), .unset] [(.ref b13), (.ref b13)]) _
    refine XS.aload X13.here hx rfl (hb hby at_83) rfl rfl ?_
    show Sp p e below T13 (mkF m 85 #[.val (.int p0), .val (.int p1), .val (.int p2), .val (.long p3), .second, .val (.ref b1), .val (.ref b4), .val (.ref b10_0), .val (.ref b11), .val (.int (1 : Int32)), .unset] [(.ref b4), (.ref b13), (.ref b13)]) _
    refine XS.iloadN X13.here hx rfl (hb hby at_85) rfl ?_
    show Sp p e below T13 (mkF m 86 #[.val (.int p0), .val (.int p1), .val (.int p2), .val (.long p3), .second, .val (.ref b1), .val (.ref b4), .val (.ref b10_0), .val (.ref b11), .val (.int (1 : Int32)), .unset] [(.int p0), (.ref b4), (.ref b13), (.ref b13)]) _
    refine st14.trans ?_
    show Sp p e below T14 (mkF m 89 #[.val (.int p0), .val (.int p1), .val (.int p2), .val (.long p3), .second, .val (.ref b1), .val (.ref b4), .val (.ref b10_0), .val (.ref b11), .val (.int (1 : Int32)), .unset] [(.ref b13)]) _
    refine XS.astore X14.here hx rfl (hb hby at_89) rfl rfl (l' := #[.val (.int p0), .val (.int p1), .val (.int p2), .val (.long p3), .second, .val (.ref b1), .val (.ref b4), .val (.ref b10_0), .val (.ref b11), .val (.int (1 : Int32)), .val (.ref b13)]) rfl ?_
    show Sp p e below T14 (mkF m 91 #[.val (.int p0), .val (.int p1), .val (.int p2), .val (.long p3), .second, .val (.ref b1), .val (.ref b4), .val (.ref b10_0), .val (.ref b11), .val (.int (1 : Int32)), .val (.ref b13)] []) _
    refine XS.aload X14.here hx rfl (hb hby at_91) rfl rfl ?_
    show Sp p e below T14 (mkF m 93 #[.val (.int p0), .val (.int p1), .val (.int p2), .val (.long p3), .second, .val (.ref b1), .val (.ref b4), .val (.ref b10_0), .val (.ref b11), .val (.int (1 : Int32)), .val (.ref b13)] [(.ref b11)]) _
    refine st16.trans ?_
    show Sp p e below T16 (mkF m 96 #[.val (.int p0), .val (.int p1), .val (.int p2), .val (.long p3), .second, .val (.ref b1), .val (.ref b4), .val (.ref b10_0), .val (.ref b11), .val (.int (1 : Int32)), .val (.ref b13)] [(.int (1 : Int32))]) _
    refine XS.iload X16.here hx rfl (hb hby at_96) rfl ?_
    show Sp p e below T16 (mkF m 98 #[.val (.int p0), .val (.int p1), .val (.int p2), .val (.long p3), .second, .val (.ref b1), .val (.ref b4), .val (.ref b10_0), .val (.ref b11), .val (.int (1 : Int32)), .val (.ref b13)] [(.int (1 : Int32)), (.int (1 : Int32))]) _
    refine XS.icmpNo X16.here hx rfl (hb hby at_98) rfl (teq (by decide : (1 : Int32) = (1 : Int32))).2 ?_
    show Sp p e below T16 (mkF m 101 #[.val (.int p0), .val (.int p1), .val (.int p2), .val (.long p3), .second, .val (.ref b1), .val (.ref b4), .val (.ref b10_0), .val (.ref b11), .val (.int (1 : Int32)), .val (.ref b13)] []) _
    refine XS.aload X16.here hx rfl (hb hby at_101) rfl rfl ?_
    show Sp p e below T16 (mkF m 103 #[.val (.int p0), .val (.int p1), .val (.int p2), .val (.long p3), .second, .val (.ref b1), .val (.ref b4), .val (.ref b10_0), .val (.ref b11), .val (.int (1 : Int32)), .val (.ref b13)] [(.ref b13)]) _
    refine st17.trans ?_
    show Sp p e below T17 (mkF m 106 #[.val (.int p0), .val (.int p1), .val (.int p2), .val (.long p3), .second, .val (.ref b1), .val (.ref b4), .val (.ref b10_0), .val (.ref b11), .val (.int (1 : Int32)), .val (.ref b13)] [(.int (0 : Int32))]) _
    refine XS.ifNo X17.here hx rfl (hb hby at_106) rfl ((if0 _ _).trans (teq (by decide : (0 : Int32) = (0 : Int32))).2) ?_
    show Sp p e below T17 (mkF m 109 #[.val (.int p0), .val (.int p1), .val (.int p2), .val (.long p3), .second, .val (.ref b1), .val (.ref b4), .val (.ref b10_0), .val (.ref b11), .val (.int (1 : Int32)), .val (.ref b13)] []) _
    refine XS.iconst X17.here hx rfl (hb hby at_109) ?_
    show Sp p e below T17 (mkF m 110 #[.val (.int p0), .val (.int p1), .val (.int p2), .val (.long p3), .second, .val (.ref b1), .val (.ref b4), .val (.ref b10_0), .val (.ref b11), .val (.int (1 : Int32)), .val (.ref b13)] [(.int (1 : Int32))]) _
    refine XS.goto X17.here hx rfl (pc0 := 110) (pc' := 114) rfl (hb hby at_110) (by decide) (by decide) ?_
    show Sp p e below T17 (mkF m 114 #[.val (.int p0), .val (.int p1), .val (.int p2), .val (.long p3), .second, .val (.ref b1), .val (.ref b4), .val (.ref b10_0), .val (.ref b11), .val (.int (1 : Int32)), .val (.ref b13)] [(.int (1 : Int32))]) _
    exact retN X17 hx (t := .boolean) Bd.returns (by simp) (hb hby at_114) hr
  · skip
    exact ⟨rfl, N17⟩
theorem d13_20 : decode jdk_35_method_24_code 20 = .ok (.getstatic 234, 3) := by decide +kernel
theorem d13_23 : decode jdk_35_method_24_code 23 = .ok (.lload_n 0, 1) := by decide +kernel
theorem d13_24 : decode jdk_35_method_24_code 24 = .ok (.l2i, 1) := by decide +kernel
theorem d13_25 : decode jdk_35_method_24_code 25 = .ok (.sipush 128, 3) := by decide +kernel
theorem d13_28 : decode jdk_35_method_24_code 28 = .ok (.iadd, 1) := by decide +kernel
theorem d13_29 : decode jdk_35_method_24_code 29 = .ok (.aaload, 1) := by decide +kernel
theorem d13_30 : decode jdk_35_method_24_code 30 = .ok (.areturn, 1) := by decide +kernel
def Q22 (Z : State) (w_lcache : Addr) (cs_v : Int32) (cl_lcache : Cell) (q1 : Int64) (h0 : Heap) (n0 : Nat) (v : Option Value) (h : Heap) (L : List Loc) : Prop := ∃ (c2 : Addr), v = some (.ref c2) ∧ Fr n0 L ∧ h = h0 ∧ Exa Z Z.heap c2 "java/lang/Long"
set_option maxRecDepth 65536 in
set_option maxHeartbeats 40000000 in
theorem rm22 (l : Launch) (Z : State) (a0 : Array Value) (hw : ∀ d ∈ tables_1, d.before a0 Z = true) (ws : List Jvm.Cond) (w_lcache : Addr) (cs_v : Int32) (cl_lcache : Cell) (hp : Perm Z w_lcache cs_v cl_lcache) (q1 : Int64) (h0 : Heap) (n0 : Nat) (O0 : Old Z n0 h0) (hc1 : ¬ ((lcmpW q1 (-128 : Int64)) < (0 : Int32))) (hc2 : ¬ ((0 : Int32) < (lcmpW q1 (127 : Int64)))) :
    MetFree l y13 (head1 (Jvm.Cond.code y13 jdk_35_method_24_code 3 (some (.object "java/lang/Long")) :: ws) ({ frames := 0, cells := 0, slots := 0, locals := 0 } : Room)) (fun a U => a = #[(.long q1)] ∧ Z.Warmed39 U.vm ∧ U.heap = h0) (fun _ _ _ _ _ => True) (fun _ U o U' => ∃ v L, o = .returned v ∧ Q22 Z w_lcache cs_v cl_lcache q1 h0 n0 v U'.heap L ∧ FrameEnd U o U' L ({ frames := 0, cells := 0, slots := 0, locals := 0 } : Room).cells ({ frames := 0, cells := 0, slots := 0, locals := 0 } : Room).slots) := by
  refine MetFree.of_bodySF (plainFor_of_name pn_14) hisR ?_
  intro p e s m args below meth c s₁ Bd hml0 hP hK
  obtain ⟨rfl, hZ, hh⟩ := hP
  have hx := Bd.exec
  have hby := Bd.bytes
  have hml : c.maxLocals = 3 := hml0
  have hown : s.vm.findClass "java/lang/Long" = some m.cls := findClass_of_methodNamed Bd.named
  have hnm := (name_of_methodNamed Bd.named Bd.method).1
  have X0 : Stand p l e ({ frames := 0, cells := 0, slots := 0, locals := 0 } : Room) s m #[(.long q1)] below meth c s₁ [] 0 0 := Stand.of_body Bd
  have e0 : s₁.heap = h0 := by rw [← hh, Bd.state]; rfl
  have N0 := Fr.nil n0
  have hp' := hp
  obtain ⟨S_COMPACT_STRINGS, h_cs, S_w_lcache, B_lcache⟩ := hp'
  have pre0 : ∀ t, Steps p.tables e below (s₁.setTop (mkF m 0 #[.val (.long q1), .second, .unset] [])) t → Steps p.tables e below (s₁.setTop (entryFrame m #[(.long q1)] 3)) t := fun t k => castTop (ef_13_0 m q1) k
  obtain ⟨T1, X1, e1, st1⟩ := getS2 X0 hx hZ hown (host := "") (Or.inl (hw _ (List.mem_of_getElem? (i := 100) rfl))) Via.refl e0 (S_w_lcache.ext O0.2) (g := (mkF m 20 #[.val (.long q1), .second, .val (.int (128 : Int32))] [])) rfl (hb hby d13_20)
  have hin2 := inb_of B_lcache.2.1 (own_lbox hc1 hc2)
  obtain ⟨c2, hat2, Ec2, -⟩ := B_lcache.2.2.2 ((q1.toInt32) + (128 : Int32)) hin2
  obtain ⟨fs, hr, hrun, hended, hW, hsame⟩ := X1.leave (v := some (.ref c2)) (fun h => by rw [Bd.returns] at h; cases h)
  refine ⟨_, _, pre0 _ ?_, hrun, hended, _, _, rfl, ?_, ⟨_, rfl⟩, hW, hsame.mono (by decide) (by decide)⟩
  · show Sp p e below s₁ (mkF m 0 #[.val (.long q1), .second, .unset] []) _
    refine XS.sipush X0.here hx rfl (hb hby d13_0) ?_
    show Sp p e below s₁ (mkF m 3 #[.val (.long q1), .second, .unset] [(.int (128 : Int32))]) _
    refine XS.istoreN X0.here hx rfl (hb hby d13_3) rfl (l' := #[.val (.long q1), .second, .val (.int (128 : Int32))]) rfl ?_
    show Sp p e below s₁ (mkF m 4 #[.val (.long q1), .second, .val (.int (128 : Int32))] []) _
    refine XS.lloadN X0.here hx rfl (hb hby d13_4) rfl ?_
    show Sp p e below s₁ (mkF m 5 #[.val (.long q1), .second, .val (.int (128 : Int32))] [(.long q1)]) _
    refine X0.ldc2J hx hown (mvT hZ (hw _ (List.mem_of_getElem? (i := 83) rfl))) rfl (hb hby d13_5) ?_
    show Sp p e below s₁ (mkF m 8 #[.val (.long q1), .second, .val (.int (128 : Int32))] [(.long (-128 : Int64)), (.long q1)]) _
    refine XS.lcmp X0.here hx rfl (hb hby d13_8) rfl ?_
    show Sp p e below s₁ (mkF m 9 #[.val (.long q1), .second, .val (.int (128 : Int32))] [(.int (lcmpW q1 (-128 : Int64)))]) _
    refine XS.ifNo X0.here hx rfl (hb hby d13_9) rfl ((if0 _ _).trans (flt hc1).1) ?_
    show Sp p e below s₁ (mkF m 12 #[.val (.long q1), .second, .val (.int (128 : Int32))] []) _
    refine XS.lloadN X0.here hx rfl (hb hby d13_12) rfl ?_
    show Sp p e below s₁ (mkF m 13 #[.val (.long q1), .second, .val (.int (128 : Int32))] [(.long q1)]) _
    refine X0.ldc2J hx hown (mvT hZ (hw _ (List.mem_of_getElem? (i := 99) rfl))) rfl (hb hby d13_13) ?_
    show Sp p e below s₁ (mkF m 16 #[.val (.long q1), .second, .val (.int (128 : Int32))] [(.long (127 : Int64)), (.long q1)]) _
    refine XS.lcmp X0.here hx rfl (hb hby d13_16) rfl ?_
    show Sp p e below s₁ (mkF m 17 #[.val (.long q1), .second, .val (.int (128 : Int32))] [(.int (lcmpW q1 (127 : Int64)))]) _
    refine XS.ifNo X0.here hx rfl (hb hby d13_17) rfl ((if0 _ _).trans (flt hc2).2.2.1) ?_
    show Sp p e below s₁ (mkF m 20 #[.val (.long q1), .second, .val (.int (128 : Int32))] []) _
    refine st1 _ ?_
    show Sp p e below T1 (mkF m 23 #[.val (.long q1), .second, .val (.int (128 : Int32))] [(.ref w_lcache)]) _
    refine XS.lloadN X1.here hx rfl (hb hby d13_23) rfl ?_
    show Sp p e below T1 (mkF m 24 #[.val (.long q1), .second, .val (.int (128 : Int32))] [(.long q1), (.ref w_lcache)]) _
    refine XS.l2i X1.here hx rfl (hb hby d13_24) rfl ?_
    show Sp p e below T1 (mkF m 25 #[.val (.long q1), .second, .val (.int (128 : Int32))] [(.int (q1.toInt32)), (.ref w_lcache)]) _
    refine XS.sipush X1.here hx rfl (hb hby d13_25) ?_
    show Sp p e below T1 (mkF m 28 #[.val (.long q1), .second, .val (.int (128 : Int32))] [(.int (128 : Int32)), (.int (q1.toInt32)), (.ref w_lcache)]) _
    refine XS.iadd X1.here hx rfl (hb hby d13_28) rfl ?_
    show Sp p e below T1 (mkF m 29 #[.val (.long q1), .second, .val (.int (128 : Int32))] [(.int ((q1.toInt32) + (128 : Int32))), (.ref w_lcache)]) _
    refine X1.aaload hx (j := ((q1.toInt32) + (128 : Int32))) (v := (.ref c2)) (by rw [e1]; exact (B_lcache.1.ext O0.2).1) (State.isArrayOf_alike hZ.alike B_lcache.1.2.1) rfl B_lcache.1.2.2 hin2 hat2 (g := (mkF m 29 #[.val (.long q1), .second, .val (.int (128 : Int32))] [(.int ((q1.toInt32) + (128 : Int32))), (.ref w_lcache)])) rfl rfl (hb hby d13_29) _ ?_
    show Sp p e below T1 (mkF m 30 #[.val (.long q1), .second, .val (.int (128 : Int32))] [(.ref c2)]) _
    jvm_step X1.here [X1.here.top, hx, (hb hby d13_30), X1.method', Bd.returns, Value.isRef, FieldType.isReference]
    first | (intro acts; rw [hr _ acts rfl rfl rfl]) | rw [hr _ _ rfl rfl rfl]
    exact Steps.refl _
  · show Q22 Z w_lcache cs_v cl_lcache q1 h0 n0 _ T1.heap _
    rw [e1]
    exact ⟨c2, rfl, N0, rfl, Ec2⟩
set_option maxRecDepth 65536 in
set_option maxHeartbeats 40000000 in
theorem rm23 (l : Launch) (Z : State) (a0 : Array Value) (hw : ∀ d ∈ tables_1, d.before a0 Z = true) (ws : List Jvm.Cond) (w_lcache : Addr) (cs_v : Int32) (cl_lcache : Cell) (hp : Perm Z w_lcache cs_v cl_lcache) (p0 : Int32) (p1 : Int32) (p2 : Int32) (p3 : Int64) (h0 : Heap) (n0 : Nat) (O0 : Old Z n0 h0) (hc1 : ¬ ((p2 &&& (256 : Int32)) = (0 : Int32))) (hc2 : ¬ ((lcmpW p3 (-128 : Int64)) < (0 : Int32))) (hc3 : ¬ ((0 : Int32) < (lcmpW p3 (127 : Int64)))) (hc4 : p1 < (2147483647 : Int32)) :
    MetFree l x (head1 (Jvm.Cond.code x code maxLocals ret :: ws) room_1) (fun a U => a = #[(.int p0), (.int p1), (.int p2), (.long p3)] ∧ Z.Warmed39 U.vm ∧ U.heap = h0 ∧ CHv Z own_EL U.vm h0) (fun _ _ _ _ _ => True) (fun _ U o U' => ∃ v L, o = .returned v ∧ (v = some (.int (1 : Int32)) ∧ Fr n0 L) ∧ ReturnedEndW U o U' L 24 1152) := by
  refine MetFree.of_bodySF (plainFor_of_name pn_0) hisR ?_
  intro p e s m args below meth c s₁ Bd hml0 hP hK
  obtain ⟨rfl, hZo, hh, hCH⟩ := hP
  have hx := Bd.exec
  have hby := Bd.bytes
  have hml : c.maxLocals = 11 := hml0
  have hown : (s.setVm s.vm).vm.findClass "com/example/latchwork/latchwork/CallIsAnsweredPinLaw" = some m.cls := findClass_of_methodNamed Bd.named
  have hnm := (name_of_methodNamed Bd.named Bd.method).1
  have X0 : Stand p l e room_1 (s.setVm s.vm) m #[(.int p0), (.int p1), (.int p2), (.long p3)] below meth c s₁ [] 0 0 := Stand.of_body Bd
  have e0 : s₁.heap = h0 := by rw [← hh, Bd.state]; rfl
  have N0 := Fr.nil n0
  have hZ : Z.Warmed39 (s.setVm s.vm).vm := hZo
  have CH0 := CHr.refl hCH
  have hS0 : s.Since s.vm 0 := (State.WarmedH.refl s).since 0
  have hk0 : 0 ≤ h0.size := Nat.zero_le _
  have hp' := hp
  obtain ⟨S_COMPACT_STRINGS, h_cs, S_w_lcache, B_lcache⟩ := hp'
  have pre0 : ∀ t, Steps p.tables e below (s₁.setTop (mkF m 0 #[.val (.int p0), .val (.int p1), .val (.int p2), .val (.long p3), .second, .unset, .unset, .unset, .unset, .unset, .unset] [])) t → Steps p.tables e below (s₁.setTop (entryFrame m #[(.int p0), (.int p1), (.int p2), (.long p3)] maxLocals)) t := fun t k => castTop (ef_0_0 m p0 p1 p2 p3) k
  obtain ⟨T1, h1, k1, X1, e1, E1, A1, EA1, st1⟩ := newPE X0 hx hZ (hw _ (List.mem_of_getElem? (i := 0) rfl)) e0 (g := (mkF m 1 #[.val (.int p0), .val (.int p1), .val (.int p2), .val (.long p3), .second, .unset, .unset, .unset, .unset, .unset, .unset] [(.int (1 : Int32))])) rfl (hb hby at_1) rfl (by decide) (cap := 1) (by decide) (by decide) (by decide) (by decide) (ad := "[C") (by decide)
  obtain ⟨b1, g1⟩ : ∃ z, z = h0.size := ⟨_, rfl⟩
  rw [← g1] at A1 EA1 st1
  have g_b1 : n0 ≤ b1 := Nat.le_trans (own_sz O0) (Nat.le_of_eq g1.symm)
  have sz_b1 : h0.size ≤ b1 := Nat.le_trans (Keep.refl h0 []).1 (Nat.le_of_eq g1.symm)
  have O1 := O0.ext E1
  have K1 : Keep h0 h1 [] := (Keep.refl h0 []).ext E1
  have CH1 := CH0.trans (CHr.ext E1 CH0.1)
  have hk1 := Nat.le_trans hk0 E1.1
  have V_b1 : Arv Z h1 b1 k1 .char (1 : Int32) [(.int (0 : Int32))] (.int (0 : Int32)) := (Arv.new A1 (by decide)).pad (pad_rep [] (.int (0 : Int32)) 1)
  obtain ⟨cl2, Ar2, q2, S2, Nn2, H2, G2⟩ := id V_b1
  have hin2 : ¬ ((0 : Int32) < 0 ∨ cl2.slots.size ≤ ((0 : Int32)).toNatClampNeg) := inb_of S2 ⟨by decide, by decide⟩
  obtain ⟨T3, h3, X3, e3, W3, st3⟩ := stC X1 hx hZ e1 Ar2 (j := (0 : Int32)) hin2 (g := (mkF m 14 #[.val (.int p0), .val (.int p1), .val (.int p2), .val (.long p3), .second, .val (.ref b1), .unset, .unset, .unset, .unset, .unset] [(.int ((p2 &&& (255 : Int32)).toUInt32.toUInt16.toUInt32.toInt32)), (.int (0 : Int32)), (.ref b1)])) rfl rfl (hb hby at_14)
  have N3 := Fr.snoc X3 N0 g_b1
  have O3 := O1.wr W3 g_b1
  have K3 : Keep h0 h3 [] := K1.wr W3 (Or.inr sz_b1)
  have CH3 := CH1.trans (CHr.wr W3 own_safe0 CH1.1)
  have hk3 := Nat.le_trans hk1 (Keep.of_wr W3).1
  have V_b1_3 : Arv Z h3 b1 k1 .char (1 : Int32) [(.int (nar .char ((p2 &&& (255 : Int32)).toUInt32.toUInt16.toUInt32.toInt32)))] (.int (0 : Int32)) := Arv.set Ar2 q2 S2 Nn2 H2 G2 (fits_nar_char _) W3 0 rfl (Nat.le_of_ble_eq_true rfl)
  obtain ⟨T4, h4, X4, e4, E4, A4, D4, -, st4⟩ := newO X3 hx hZ hown (hw _ (List.mem_of_getElem? (i := 1) rfl)) (hw _ (List.mem_of_getElem? (i := 2) rfl)) (hw _ (List.mem_of_getElem? (i := 3) rfl)) e3 (g := (mkF m 15 #[.val (.int p0), .val (.int p1), .val (.int p2), .val (.long p3), .second, .val (.ref b1), .unset, .unset, .unset, .unset, .unset] [])) rfl (hb hby at_15) (by decide) (by decide)
  obtain ⟨b4, g4⟩ : ∃ z, z = h3.size := ⟨_, rfl⟩
  rw [← g4] at A4 D4 st4
  have g_b4 : n0 ≤ b4 := Nat.le_trans (own_sz O3) (Nat.le_of_eq g4.symm)
  have sz_b4 : h0.size ≤ b4 := Nat.le_trans K3.1 (Nat.le_of_eq g4.symm)
  have O4 := O3.ext E4
  have K4 : Keep h0 h4 [] := K3.ext E4
  have CH4 := CH3.trans (CHr.ext E4 CH3.1)
  have hk4 := Nat.le_trans hk3 E4.1
  have F_function_b4 : Fld Z h4 b4 "com/example/latchwork/latchwork/Operation" "function" "Ljava/lang/String;" .null := D4 (Or.inr (hw _ (List.mem_of_getElem? (i := 50) rfl))) (ty := (.object "java/lang/String")) (by decide)
  have F_argument_b4 : Fld Z h4 b4 "com/example/latchwork/latchwork/Operation" "argument" "Ljava/lang/Object;" .null := D4 (Or.inr (hw _ (List.mem_of_getElem? (i := 52) rfl))) (ty := (.object "java/lang/Object")) (by decide)
  obtain ⟨T5, h5, X5, e5, E5, A5, D5, -, st5⟩ := newO X4 hx hZ hown (hw _ (List.mem_of_getElem? (i := 4) rfl)) (hw _ (List.mem_of_getElem? (i := 5) rfl)) (hw _ (List.mem_of_getElem? (i := 6) rfl)) e4 (g := (mkF m 19 #[.val (.int p0), .val (.int p1), .val (.int p2), .val (.long p3), .second, .val (.ref b1), .unset, .unset, .unset, .unset, .unset] [(.ref b4), (.ref b4)])) rfl (hb hby at_19) (by decide) (by decide)
  obtain ⟨b5, g5⟩ : ∃ z, z = h4.size := ⟨_, rfl⟩
  rw [← g5] at A5 D5 st5
  have g_b5 : n0 ≤ b5 := Nat.le_trans (own_sz O4) (Nat.le_of_eq g5.symm)
  have sz_b5 : h0.size ≤ b5 := Nat.le_trans K4.1 (Nat.le_of_eq g5.symm)
  have O5 := O4.ext E5
  have K5 : Keep h0 h5 [] := K4.ext E5
  have CH5 := CH4.trans (CHr.ext E5 CH4.1)
  have hk5 := Nat.le_trans hk4 E5.1
  have F_coder_b5 : Fld Z h5 b5 "java/lang/String" "coder" "B" (.int (0 : Int32)) := D5 (Or.inr (hw _ (List.mem_of_getElem? (i := 30) rfl))) (ty := .byte) (by decide)
  have F_value_b5 : Fld Z h5 b5 "java/lang/String" "value" "[B" .null := D5 (Or.inr (hw _ (List.mem_of_getElem? (i := 32) rfl))) (ty := (.array .byte)) (by decide)
  obtain ⟨_, _, ⟨T6, L6, k6, n6⟩, -, X6, ⟨Lc6, hQ6, l6, y6, z6⟩, st6⟩ := X5.specialBack hx (y := y4) rfl hown (mvT hZ (hw _ (List.mem_of_getElem? (i := 7) rfl))) (mvT hZ (hw _ (List.mem_of_getElem? (i := 8) rfl))) (mvT hZ (hw _ (List.mem_of_getElem? (i := 9) rfl))) (by decide) (backOf (W := 3) (rm5 l Z a0 hw [] w_lcache cs_v cl_lcache hp b5 b1 k1 (nar .char ((p2 &&& (255 : Int32)).toUInt32.toUInt16.toUInt32.toInt32)) h5 n0 O5 ((V_b1_3.ext E4).ext E5) (own_ch2 p2) A5 F_coder_b5 F_value_b5 g_b5) hZ (hw _ (List.mem_of_getElem? (i := 9) rfl)) (hw _ (List.mem_of_getElem? (i := 6) rfl)) (by decide) (by decide)) (g := (mkF m 25 #[.val (.int p0), .val (.int p1), .val (.int p2), .val (.long p3), .second, .val (.ref b1), .unset, .unset, .unset, .unset, .unset] [(.ref b1), (.ref b5), (.ref b5), (.ref b4), (.ref b4)])) rfl (by rw [hml]; rfl) (Steps.refl _) (a := b5) (argsL := [(.ref b1)]) (rest := [(.ref b5), (.ref b4), (.ref b4)]) (lenOf pd_4 rfl) rfl (by show 2 * 0 + _ ≤ _; exact Nat.le_of_eq rfl) (hb hby at_25) (fun _ _ => ⟨rfl, e5, (by decide : 3 + 1 ≤ _), (by decide : 7 + 1 ≤ _)⟩)
  dsimp only [Pt.U, Pt.locs, Pt.cells, Pt.slots] at X6 l6 y6 z6 st6 hQ6
  subst l6 y6 z6
  obtain ⟨b6_0, kc6_0, rfl, Nq6, Kq6, sq_b6_0, fq6_0, fq6_1, fq6_2, fq6_3, fq6_4⟩ := hQ6
  have N6 := Fr.app N3 Nq6
  have g_b6_0 : n0 ≤ b6_0 := Nat.le_trans (own_sz O5) sq_b6_0
  have sz_b6_0 : h0.size ≤ b6_0 := Nat.le_trans K5.1 sq_b6_0
  have CH6 := CH5.trans (CHr.keep Kq6 (allS own_safe0 all0) CH5.1)
  have hk6 := Nat.le_trans hk5 Kq6.1
  have O6 := O5.keep Kq6 (allS g_b5 all0)
  have K6 : Keep h0 T6.heap [] := K5.trans Kq6 (allS (Or.inr sz_b5) all0)
  have f_7 := ((F_function_b4.ext E5).keep Kq6 (ninS (Nat.ne_of_lt (Nat.lt_of_lt_of_le A4.lt (Nat.le_of_eq g5.symm))) nin0))
  have f_8 := ((F_argument_b4.ext E5).keep Kq6 (ninS (Nat.ne_of_lt (Nat.lt_of_lt_of_le A4.lt (Nat.le_of_eq g5.symm))) nin0))
  obtain ⟨_, _, ⟨T9, L9, k9, n9⟩, -, XX9, Sq9, gq9, ⟨Lc9, hQ9, l9, y9, z9, C9⟩, st9⟩ := X6.specialBackS hx (y := y7) rfl hown (mvT hZ (hw _ (List.mem_of_getElem? (i := 33) rfl))) (mvT hZ (hw _ (List.mem_of_getElem? (i := 34) rfl))) (mvT hZ (hw _ (List.mem_of_getElem? (i := 35) rfl))) (by decide) (own_backC (SL := []) (W := 1) (rm8 l Z a0 hw [] w_lcache cs_v cl_lcache hp b4 b5 T6.heap n0 O6 ((A4.ext E5).keep Kq6) f_7 f_8 g_b4) hZ (hw _ (List.mem_of_getElem? (i := 35) rfl)) (hw _ (List.mem_of_getElem? (i := 3) rfl)) (by decide) (by decide) (own_EW hw) CH6.1 all0) (g := (mkF m 29 #[.val (.int p0), .val (.int p1), .val (.int p2), .val (.long p3), .second, .val (.ref b1), .unset, .unset, .unset, .unset, .unset] [.null, (.ref b5), (.ref b4), (.ref b4)])) rfl (by rw [hml]; rfl) (Steps.refl _) (a := b4) (argsL := [(.ref b5), .null]) (rest := [(.ref b4)]) (lenOf pd_7 rfl) rfl (by show 2 * 0 + _ ≤ _; exact Nat.le_of_eq rfl) (hb hby at_29) (fun _ _ => ⟨rfl, rfl, (by decide : 4 + 2 ≤ _), (by decide : 8 + 36 ≤ _)⟩)
  dsimp only [Pt.U, Pt.locs, Pt.cells, Pt.slots] at XX9 Sq9 gq9 l9 y9 z9 st9 hQ9 C9
  subst l9 y9 z9
  obtain ⟨X9, hS9, hZ9, hown9⟩ := rebS hS0 hk6 XX9 Sq9 gq9 hZ hown
  obtain ⟨rfl, Nq9, Kq9, fq9_0, fq9_1, fq9_2⟩ := hQ9
  have N9 := Fr.app N6 Nq9
  have CH9 := CH6.trans C9
  have hk9 : T9.heap.size ≤ T9.heap.size := Nat.le_refl _
  have O9 := O6.keep Kq9 (allS g_b4 all0)
  have K9 : Keep h0 T9.heap [] := K6.trans Kq9 (allS (Or.inr sz_b4) all0)
  obtain ⟨_, _, ⟨T10, L10, k10, n10⟩, -, X10, ⟨Lc10, hQ10, l10, y10, z10⟩, st10⟩ := Jvm.LawKit.callS X9 hx (y := y13) hown9 (mvT hZ9 (hw _ (List.mem_of_getElem? (i := 79) rfl))) (mvT hZ9 (hw _ (List.mem_of_getElem? (i := 80) rfl))) (mvT hZ9 (hw _ (List.mem_of_getElem? (i := 81) rfl))) (mvT hZ9 (hw _ (List.mem_of_getElem? (i := 82) rfl))) (by decide) (backOf (W := 0) (rm22 l Z a0 hw [] w_lcache cs_v cl_lcache hp p3 T9.heap n0 O9 hc2 hc3) hZ9 (hw _ (List.mem_of_getElem? (i := 82) rfl)) (hw _ (List.mem_of_getElem? (i := 81) rfl)) (by decide) (by decide)) (g := (mkF m 46 #[.val (.int p0), .val (.int p1), .val (.int p2), .val (.long p3), .second, .val (.ref b1), .val (.ref b4), .val .null, .unset, .unset, .unset] [(.long p3)])) rfl (by rw [hml]; rfl) (argsL := [(.long p3)]) (rest := []) (lenOf pd_12 rfl) rfl (by show 2 * 0 + _ ≤ _; exact Nat.le_of_eq rfl) (hb hby at_46) (fun _ _ => ⟨rfl, rfl, (by decide : 6 + 0 ≤ _), (by decide : 44 + 0 ≤ _)⟩)
  dsimp only [Pt.U, Pt.locs, Pt.cells, Pt.slots] at X10 l10 y10 z10 st10 hQ10
  subst l10 y10 z10
  obtain ⟨c10_0, rfl, Nq10, eq10, oq10_0⟩ := hQ10
  have N10 := Fr.app N9 Nq10
  obtain ⟨T11, h11, X11, e11, E11, A11, D11, -, st11⟩ := newO X10 hx hZ9 hown9 (hw _ (List.mem_of_getElem? (i := 53) rfl)) (hw _ (List.mem_of_getElem? (i := 54) rfl)) (hw _ (List.mem_of_getElem? (i := 55) rfl)) eq10 (g := (mkF m 51 #[.val (.int p0), .val (.int p1), .val (.int p2), .val (.long p3), .second, .val (.ref b1), .val (.ref b4), .val (.ref c10_0), .unset, .unset, .unset] [])) rfl (hb hby at_51) (by decide) (by decide)
  obtain ⟨b11, g11⟩ : ∃ z, z = T9.heap.size := ⟨_, rfl⟩
  rw [← g11] at A11 D11 st11
  have g_b11 : n0 ≤ b11 := Nat.le_trans (own_sz O9) (Nat.le_of_eq g11.symm)
  have sz_b11 : h0.size ≤ b11 := Nat.le_trans K9.1 (Nat.le_of_eq g11.symm)
  have O11 := O9.ext E11
  have K11 : Keep h0 h11 [] := K9.ext E11
  have CH11 := CH9.trans (CHr.ext E11 CH9.1)
  have hk11 := Nat.le_trans hk9 E11.1
  have F_operation_b11 : Fld Z h11 b11 "com/example/latchwork/latchwork/RecordedForm$Call" "operation" "Lcom/example/latchwork/latchwork/Operation;" .null := D11 (Or.inr (hw _ (List.mem_of_getElem? (i := 61) rfl))) (ty := (.object "com/example/latchwork/latchwork/Operation")) (by decide)
  have F_called_b11 : Fld Z h11 b11 "com/example/latchwork/latchwork/RecordedForm$Call" "called" "I" (.int (0 : Int32)) := D11 (Or.inr (hw _ (List.mem_of_getElem? (i := 63) rfl))) (ty := .int) (by decide)
  have F_answered_b11 : Fld Z h11 b11 "com/example/latchwork/latchwork/RecordedForm$Call" "answered" "I" (.int (0 : Int32)) := D11 (Or.inr (hw _ (List.mem_of_getElem? (i := 65) rfl))) (ty := .int) (by decide)
  have F_result_b11 : Fld Z h11 b11 "com/example/latchwork/latchwork/RecordedForm$Call" "result" "Ljava/lang/Object;" .null := D11 (Or.inr (hw _ (List.mem_of_getElem? (i := 67) rfl))) (ty := (.object "java/lang/Object")) (by decide)
  obtain ⟨_, _, ⟨T12, L12, k12, n12⟩, -, X12, ⟨Lc12, hQ12, l12, y12, z12⟩, st12⟩ := X11.specialBack hx (y := y8) rfl hown9 (mvT hZ9 (hw _ (List.mem_of_getElem? (i := 56) rfl))) (mvT hZ9 (hw _ (List.mem_of_getElem? (i := 57) rfl))) (mvT hZ9 (hw _ (List.mem_of_getElem? (i := 58) rfl))) (by decide) (backOf (W := 1) (rm18 l Z a0 hw [] w_lcache cs_v cl_lcache hp b11 b4 p0 p1 c10_0 h11 n0 O11 A11 F_operation_b11 F_called_b11 F_answered_b11 F_result_b11 g_b11) hZ9 (hw _ (List.mem_of_getElem? (i := 58) rfl)) (hw _ (List.mem_of_getElem? (i := 55) rfl)) (by decide) (by decide)) (g := (mkF m 61 #[.val (.int p0), .val (.int p1), .val (.int p2), .val (.long p3), .second, .val (.ref b1), .val (.ref b4), .val (.ref c10_0), .unset, .unset, .unset] [(.ref c10_0), (.int p1), (.int p0), (.ref b4), (.ref b11), (.ref b11)])) rfl (by rw [hml]; rfl) (Steps.refl _) (a := b11) (argsL := [(.ref b4), (.int p0), (.int p1), (.ref c10_0)]) (rest := [(.ref b11)]) (lenOf pd_8 rfl) rfl (by show 2 * 0 + _ ≤ _; exact Nat.le_of_eq rfl) (hb hby at_61) (fun _ _ => ⟨rfl, e11, (by decide : 7 + 0 ≤ _), (by decide : 48 + 0 ≤ _)⟩)
  dsimp only [Pt.U, Pt.locs, Pt.cells, Pt.slots] at X12 l12 y12 z12 st12 hQ12
  subst l12 y12 z12
  obtain ⟨rfl, Nq12, Kq12, fq12_0, fq12_1, fq12_2, fq12_3, fq12_4⟩ := hQ12
  have N12 := Fr.app N10 Nq12
  have CH12 := CH11.trans (CHr.keep Kq12 (allS own_safe0 all0) CH11.1)
  have hk12 := Nat.le_trans hk11 Kq12.1
  have O12 := O11.keep Kq12 (allS g_b11 all0)
  have K12 : Keep h0 T12.heap [] := K11.trans Kq12 (allS (Or.inr sz_b11) all0)
  obtain ⟨T13, h13, X13, e13, E13, A13, D13, -, st13⟩ := newO X12 hx hZ9 hown9 (hw _ (List.mem_of_getElem? (i := 53) rfl)) (hw _ (List.mem_of_getElem? (i := 54) rfl)) (hw _ (List.mem_of_getElem? (i := 55) rfl)) rfl (g := (mkF m 79 #[.val (.int p0), .val (.int p1), .val (.int p2), .val (.long p3), .second, .val (.ref b1), .val (.ref b4), .val (.ref c10_0), .val (.ref b11), .val (.int (1 : Int32)), .unset] [])) rfl (hb hby at_79) (by decide) (by decide)
  obtain ⟨b13, g13⟩ : ∃ z, z = T12.heap.size := ⟨_, rfl⟩
  rw [← g13] at A13 D13 st13
  have g_b13 : n0 ≤ b13 := Nat.le_trans (own_sz O12) (Nat.le_of_eq g13.symm)
  have sz_b13 : h0.size ≤ b13 := Nat.le_trans K12.1 (Nat.le_of_eq g13.symm)
  have O13 := O12.ext E13
  have K13 : Keep h0 h13 [] := K12.ext E13
  have CH13 := CH12.trans (CHr.ext E13 CH12.1)
  have hk13 := Nat.le_trans hk12 E13.1
  have F_operation_b13 : Fld Z h13 b13 "com/example/latchwork/latchwork/RecordedForm$Call" "operation" "Lcom/example/latchwork/latchwork/Operation;" .null := D13 (Or.inr (hw _ (List.mem_of_getElem? (i := 61) rfl))) (ty := (.object "com/example/latchwork/latchwork/Operation")) (by decide)
  have F_called_b13 : Fld Z h13 b13 "com/example/latchwork/latchwork/RecordedForm$Call" "called" "I" (.int (0 : Int32)) := D13 (Or.inr (hw _ (List.mem_of_getElem? (i := 63) rfl))) (ty := .int) (by decide)
  have F_answered_b13 : Fld Z h13 b13 "com/example/latchwork/latchwork/RecordedForm$Call" "answered" "I" (.int (0 : Int32)) := D13 (Or.inr (hw _ (List.mem_of_getElem? (i := 65) rfl))) (ty := .int) (by decide)
  have F_result_b13 : Fld Z h13 b13 "com/example/latchwork/latchwork/RecordedForm$Call" "result" "Ljava/lang/Object;" .null := D13 (Or.inr (hw _ (List.mem_of_getElem? (i := 67) rfl))) (ty := (.object "java/lang/Object")) (by decide)
  obtain ⟨_, _, ⟨T14, L14, k14, n14⟩, -, X14, ⟨Lc14, hQ14, l14, y14, z14⟩, st14⟩ := X13.specialBack hx (y := y9) rfl hown9 (mvT hZ9 (hw _ (List.mem_of_getElem? (i := 69) rfl))) (mvT hZ9 (hw _ (List.mem_of_getElem? (i := 70) rfl))) (mvT hZ9 (hw _ (List.mem_of_getElem? (i := 71) rfl))) (by decide) (backOf (W := 1) (rm11 l Z a0 hw [] w_lcache cs_v cl_lcache hp b13 b4 p0 h13 n0 O13 A13 F_operation_b13 F_called_b13 F_answered_b13 F_result_b13 g_b13) hZ9 (hw _ (List.mem_of_getElem? (i := 71) rfl)) (hw _ (List.mem_of_getElem? (i := 55) rfl)) (by decide) (by decide)) (g := (mkF m 86 #[.val (.int p0), .val (.int p1), .val (.int p2), .val (.long p3), .second, .val (.ref b1), .val (.ref b4), .val (.ref c10_0), .val (.ref b11), .val (.int (1 : Int32)), .unset] [(.int p0), (.ref b4), (.ref b13), (.ref b13)])) rfl (by rw [hml]; rfl) (Steps.refl _) (a := b13) (argsL := [(.ref b4), (.int p0)]) (rest := [(.ref b13)]) (lenOf pd_9 rfl) rfl (by show 2 * 0 + _ ≤ _; exact Nat.le_of_eq rfl) (hb hby at_86) (fun _ _ => ⟨rfl, e13, (by decide : 8 + 0 ≤ _), (by decide : 52 + 0 ≤ _)⟩)
  dsimp only [Pt.U, Pt.locs, Pt.cells, Pt.slots] at X14 l14 y14 z14 st14 hQ14
  subst l14 y14 z14
  obtain ⟨rfl, Nq14, Kq14, fq14_0, fq14_1, fq14_2, fq14_3, fq14_4⟩ := hQ14
  have N14 := Fr.app N12 Nq14
  have CH14 := CH13.trans (CHr.keep Kq14 (allS own_safe0 all0) CH13.1)
  have hk14 := Nat.le_trans hk13 Kq14.1
  have O14 := O13.keep Kq14 (allS g_b13 all0)
  have K14 : Keep h0 T14.heap [] := K13.trans Kq14 (allS (Or.inr sz_b13) all0)
  have f_15 := ((fq12_1.ext E13).keep Kq14 (ninS (Nat.ne_of_lt (Nat.lt_of_lt_of_le (A11.keep Kq12).lt (Nat.le_of_eq g13.symm))) nin0))
  obtain ⟨cq16, kq16, q16a, q16b, q16c⟩ := isOf hZ9 rfl ((fq12_0.ext E13).keep Kq14)
  obtain ⟨_, _, ⟨T16, L16, k16, n16⟩, -, X16, ⟨Lc16, hQ16, l16, y16, z16⟩, st16⟩ := X14.virtualBack hx (y := y10) (z := y10) hown9 (mvT hZ9 (hw _ (List.mem_of_getElem? (i := 74) rfl))) (mvT hZ9 (hw _ (List.mem_of_getElem? (i := 75) rfl))) (notFace_of_selects (args := #[]) (mvT hZ9 (hw _ (List.mem_of_getElem? (i := 77) rfl)))) (mvT hZ9 (hw _ (List.mem_of_getElem? (i := 77) rfl))) (mvT hZ9 (hw _ (List.mem_of_getElem? (i := 76) rfl))) (by decide) (backOf (W := 0) (rm12 l Z a0 hw [] w_lcache cs_v cl_lcache hp b11 p1 T14.heap n0 O14 f_15 (own_mx1 hc4)) hZ9 (hw _ (List.mem_of_getElem? (i := 78) rfl)) (hw _ (List.mem_of_getElem? (i := 55) rfl)) (by decide) (by decide)) q16a q16c (g := (mkF m 93 #[.val (.int p0), .val (.int p1), .val (.int p2), .val (.long p3), .second, .val (.ref b1), .val (.ref b4), .val (.ref c10_0), .val (.ref b11), .val (.int (1 : Int32)), .val (.ref b13)] [(.ref b11)])) rfl (by rw [hml]; rfl) (Steps.refl _) (argsL := []) (rest := []) (lenOf pd_10 rfl) rfl (by show 2 * 0 + _ ≤ _; exact Nat.le_of_eq rfl) (hb hby at_93) (fun _ _ => ⟨rfl, rfl, (by decide : 8 + 0 ≤ _), (by decide : 52 + 0 ≤ _)⟩)
  dsimp only [Pt.U, Pt.locs, Pt.cells, Pt.slots] at X16 l16 y16 z16 st16 hQ16
  subst l16 y16 z16
  obtain ⟨rfl, Nq16, eq16⟩ := hQ16
  have N16 := Fr.app N14 Nq16
  obtain ⟨cq17, kq17, q17a, q17b, q17c⟩ := isOf hZ9 eq16 fq14_0
  obtain ⟨_, _, ⟨T17, L17, k17, n17⟩, -, X17, ⟨Lc17, hQ17, l17, y17, z17⟩, st17⟩ := X16.virtualBack hx (y := y10) (z := y10) hown9 (mvT hZ9 (hw _ (List.mem_of_getElem? (i := 74) rfl))) (mvT hZ9 (hw _ (List.mem_of_getElem? (i := 75) rfl))) (notFace_of_selects (args := #[]) (mvT hZ9 (hw _ (List.mem_of_getElem? (i := 77) rfl)))) (mvT hZ9 (hw _ (List.mem_of_getElem? (i := 77) rfl))) (mvT hZ9 (hw _ (List.mem_of_getElem? (i := 76) rfl))) (by decide) (backOf (W := 0) (rm13 l Z a0 hw [] w_lcache cs_v cl_lcache hp b13 T14.heap n0 O14 fq14_1) hZ9 (hw _ (List.mem_of_getElem? (i := 78) rfl)) (hw _ (List.mem_of_getElem? (i := 55) rfl)) (by decide) (by decide)) q17a q17c (g := (mkF m 103 #[.val (.int p0), .val (.int p1), .val (.int p2), .val (.long p3), .second, .val (.ref b1), .val (.ref b4), .val (.ref c10_0), .val (.ref b11), .val (.int (1 : Int32)), .val (.ref b13)] [(.ref b13)])) rfl (by rw [hml]; rfl) (Steps.refl _) (argsL := []) (rest := []) (lenOf pd_10 rfl) rfl (by show 2 * 0 + _ ≤ _; exact Nat.le_of_eq rfl) (hb hby at_103) (fun _ _ => ⟨rfl, eq16, (by decide : 8 + 0 ≤ _), (by decide : 52 + 0 ≤ _)⟩)
  dsimp only [Pt.U, Pt.locs, Pt.cells, Pt.slots] at X17 l17 y17 z17 st17 hQ17
  subst l17 y17 z17
  obtain ⟨rfl, Nq17, eq17⟩ := hQ17
  have N17 := Fr.app N16 Nq17
  obtain ⟨fs, hr, hrun, hended, hE⟩ := Stand.leaveW (s := s) X17 hS9 (by rw [eq17]; exact hk14) (v := some (.int (1 : Int32))) (fun h => by rw [Bd.returns] at h; cases h)
  refine ⟨_, _, pre0 _ ?_, hrun, hended, _, _, rfl, ?_, hE.1, hE.2.1, hE.2.2.1, hE.2.2.2.mono (by decide) (by decide)⟩
  · show Sp p e below s₁ (mkF m 0 #[.val (.int p0), .val (.int p1), .val (.int p2), .val (.long p3), .second, .unset, .unset, .unset, .unset, .unset, .unset] []) _
    refine XS.iconst X0.here hx rfl (hb hby at_0) ?_
    show Sp p e below s₁ (mkF m 1 #[.val (.int p0), .val (.int p1), .val (.int p2), .val (.long p3), .second, .unset, .unset, .unset, .unset, .unset, .unset] [(.int (1 : Int32))]) _
    refine st1 _ ?_
    show Sp p e below T1 (mkF m 3 #[.val (.int p0), .val (.int p1), .val (.int p2), .val (.long p3), .second, .unset, .unset, .unset, .unset, .unset, .unset] [(.ref b1)]) _
    refine XS.astore X1.here hx rfl (hb hby at_3) rfl rfl (l' := #[.val (.int p0), .val (.int p1), .val (.int p2), .val (.long p3), .second, .val (.ref b1), .unset, .unset, .unset, .unset, .unset]) rfl ?_
    show Sp p e below T1 (mkF m 5 #[.val (.int p0), .val (.int p1), .val (.int p2), .val (.long p3), .second, .val (.ref b1), .unset, .unset, .unset, .unset, .unset] []) _
    refine XS.aload X1.here hx rfl (hb hby at_5) rfl rfl ?_
    show Sp p e below T1 (mkF m 7 #[.val (.int p0), .val (.int p1), .val (.int p2), .val (.long p3), .second, .val (.ref b1), .unset, .unset, .unset, .unset, .unset] [(.ref b1)]) _
    refine XS.iconst X1.here hx rfl (hb hby at_7) ?_
    show Sp p e below T1 (mkF m 8 #[.val (.int p0), .val (.int p1), .val (.int p2), .val (.long p3), .second, .val (.ref b1), .unset, .unset, .unset, .unset, .unset] [(.int (0 : Int32)), (.ref b1)]) _
    refine XS.iloadN X1.here hx rfl (hb hby at_8) rfl ?_
    show Sp p e below T1 (mkF m 9 #[.val (.int p0), .val (.int p1), .val (.int p2), .val (.long p3), .second, .val (.ref b1), .unset, .unset, .unset, .unset, .unset] [(.int p2), (.int (0 : Int32)), (.ref b1)]) _
    refine XS.sipush X1.here hx rfl (hb hby at_9) ?_
    show Sp p e below T1 (mkF m 12 #[.val (.int p0), .val (.int p1), .val (.int p2), .val (.long p3), .second, .val (.ref b1), .unset, .unset, .unset, .unset, .unset] [(.int (255 : Int32)), (.int p2), (.int (0 : Int32)), (.ref b1)]) _
    refine XS.iand X1.here hx rfl (hb hby at_12) rfl ?_
    show Sp p e below T1 (mkF m 13 #[.val (.int p0), .val (.int p1), .val (.int p2), .val (.long p3), .second, .val (.ref b1), .unset, .unset, .unset, .unset, .unset] [(.int (p2 &&& (255 : Int32))), (.int (0 : Int32)), (.ref b1)]) _
    refine XS.i2c X1.here hx rfl (hb hby at_13) rfl ?_
    show Sp p e below T1 (mkF m 14 #[.val (.int p0), .val (.int p1), .val (.int p2), .val (.long p3), .second, .val (.ref b1), .unset, .unset, .unset, .unset, .unset] [(.int ((p2 &&& (255 : Int32)).toUInt32.toUInt16.toUInt32.toInt32)), (.int (0 : Int32)), (.ref b1)]) _
    refine st3 _ ?_
    show Sp p e below T3 (mkF m 15 #[.val (.int p0), .val (.int p1), .val (.int p2), .val (.long p3), .second, .val (.ref b1), .unset, .unset, .unset, .unset, .unset] []) _
    refine st4 _ ?_
    show Sp p e below T4 (mkF m 18 #[.val (.int p0), .val (.int p1), .val (.int p2), .val (.long p3), .second, .val (.ref b1), .unset, .unset, .unset, .unset, .unset] [(.ref b4)]) _
    refine XS.dup X4.here hx rfl (hb hby at_18) rfl rfl ?_
    show Sp p e below T4 (mkF m 19 #[.val (.int p0), .val (.int p1), .val (.int p2), .val (.long p3), .second, .val (.ref b1), .unset, .unset, .unset, .unset, .unset] [(.ref b4), (.ref b4)]) _
    refine st5 _ ?_
    show Sp p e below T5 (mkF m 22 #[.val (.int p0), .val (.int p1), .val (.int p2), .val (.long p3), .second, .val (.ref b1), .unset, .unset, .unset, .unset, .unset] [(.ref b5), (.ref b4), (.ref b4)]) _
    refine XS.dup X5.here hx rfl (hb hby at_22) rfl rfl ?_
    show Sp p e below T5 (mkF m 23 #[.val (.int p0), .val (.int p1), .val (.int p2), .val (.long p3), .second, .val (.ref b1), .unset, .unset, .unset, .unset, .unset] [(.ref b5), (.ref b5), (.ref b4), (.ref b4)]) _
    refine XS.aload X5.here hx rfl (hb hby at_23) rfl rfl ?_
    show Sp p e below T5 (mkF m 25 #[.val (.int p0), .val (.int p1), .val (.int p2), .val (.long p3), .second, .val (.ref b1), .unset, .unset, .unset, .unset, .unset] [(.ref b1), (.ref b5), (.ref b5), (.ref b4), (.ref b4)]) _
    refine st6.trans ?_
    show Sp p e below T6 (mkF m 28 #[.val (.int p0), .val (.int p1), .val (.int p2), .val (.long p3), .second, .val (.ref b1), .unset, .unset, .unset, .unset, .unset] [(.ref b5), (.ref b4), (.ref b4)]) _
    refine XS.aconstNull X6.here hx rfl (hb hby at_28) ?_
    show Sp p e below T6 (mkF m 29 #[.val (.int p0), .val (.int p1), .val (.int p2), .val (.long p3), .second, .val (.ref b1), .unset, .unset, .unset, .unset, .unset] [.null, (.ref b5), (.ref b4), (.ref b4)]) _
    refine st9.trans ?_
    show Sp p e below T9 (mkF m 32 #[.val (.int p0), .val (.int p1), .val (.int p2), .val (.long p3), .second, .val (.ref b1), .unset, .unset, .unset, .unset, .unset] [(.ref b4)]) _
    refine XS.astore X9.here hx rfl (hb hby at_32) rfl rfl (l' := #[.val (.int p0), .val (.int p1), .val (.int p2), .val (.long p3), .second, .val (.ref b1), .val (.ref b4), .unset, .unset, .unset, .unset]) rfl ?_
    show Sp p e below T9 (mkF m 34 #[.val (.int p0), .val (.int p1), .val (.int p2), .val (.long p3), .second, .val (.ref b1), .val (.ref b4), .unset, .unset, .unset, .unset] []) _
    refine XS.aconstNull X9.here hx rfl (hb hby at_34) ?_
    show Sp p e below T9 (mkF m 35 #[.val (.int p0), .val (.int p1), .val (.int p2), .val (.long p3), .second, .val (.ref b1), .val (.ref b4), .unset, .unset, .unset, .unset] [.null]) _
    refine XS.astore X9.here hx rfl (hb hby at_35) rfl rfl (l' := #[.val (.int p0), .val (.int p1), .val (.int p2), .val (.long p3), .second, .val (.ref b1), .val (.ref b4), .val .null, .unset, .unset, .unset]) rfl ?_
    show Sp p e below T9 (mkF m 37 #[.val (.int p0), .val (.int p1), .val (.int p2), .val (.long p3), .second, .val (.ref b1), .val (.ref b4), .val .null, .unset, .unset, .unset] []) _
    refine XS.iloadN X9.here hx rfl (hb hby at_37) rfl ?_
    show Sp p e below T9 (mkF m 38 #[.val (.int p0), .val (.int p1), .val (.int p2), .val (.long p3), .second, .val (.ref b1), .val (.ref b4), .val .null, .unset, .unset, .unset] [(.int p2)]) _
    refine XS.sipush X9.here hx rfl (hb hby at_38) ?_
    show Sp p e below T9 (mkF m 41 #[.val (.int p0), .val (.int p1), .val (.int p2), .val (.long p3), .second, .val (.ref b1), .val (.ref b4), .val .null, .unset, .unset, .unset] [(.int (256 : Int32)), (.int p2)]) _
    refine XS.iand X9.here hx rfl (hb hby at_41) rfl ?_
    show Sp p e below T9 (mkF m 42 #[.val (.int p0), .val (.int p1), .val (.int p2), .val (.long p3), .second, .val (.ref b1), .val (.ref b4), .val .null, .unset, .unset, .unset] [(.int (p2 &&& (256 : Int32)))]) _
    refine XS.ifNo X9.here hx rfl (hb hby at_42) rfl ((if0 _ _).trans (feq hc1).1) ?_
    show Sp p e below T9 (mkF m 45 #[.val (.int p0), .val (.int p1), .val (.int p2), .val (.long p3), .second, .val (.ref b1), .val (.ref b4), .val .null, .unset, .unset, .unset] []) _
    refine XS.lloadN X9.here hx rfl (hb hby at_45) rfl ?_
    show Sp p e below T9 (mkF m 46 #[.val (.int p0), .val (.int p1), .val (.int p2), .val (.long p3), .second, .val (.ref b1), .val (.ref b4), .val .null, .unset, .unset, .unset] [(.long p3)]) _
    refine st10 _ ?_
    show Sp p e below T10 (mkF m 49 #[.val (.int p0), .val (.int p1), .val (.int p2), .val (.long p3), .second, .val (.ref b1), .val (.ref b4), .val .null, .unset, .unset, .unset] [(.ref c10_0)]) _
    refine XS.astore X10.here hx rfl (hb hby at_49) rfl rfl (l' := #[.val (.int p0), .val (.int p1), .val (.int p2), .val (.long p3), .second, .val (.ref b1), .val (.ref b4), .val (.ref c10_0), .unset, .unset, .unset]) rfl ?_
    show Sp p e below T10 (mkF m 51 #[.val (.int p0), .val (.int p1), .val (.int p2), .val (.long p3), .second, .val (.ref b1), .val (.ref b4), .val (.ref c10_0), .unset, .unset, .unset] []) _
    refine st11 _ ?_
    show Sp p e below T11 (mkF m 54 #[.val (.int p0), .val (.int p1), .val (.int p2), .val (.long p3), .second, .val (.ref b1), .val (.ref b4), .val (.ref c10_0), .unset, .unset, .unset] [(.ref b11)]) _
    refine XS.dup X11.here hx rfl (hb hby at_54) rfl rfl ?_
    show Sp p e below T11 (mkF m 55 #[.val (.int p0), .val (.int p1), .val (.int p2), .val (.long p3), .second, .val (.ref b1), .val (.ref b4), .val (.ref c10_0), .unset, .unset, .unset] [(.ref b11), (.ref b11)]) _
    refine XS.aload X11.here hx rfl (hb hby at_55) rfl rfl ?_
    show Sp p e below T11 (mkF m 57 #[.val (.int p0), .val (.int p1), .val (.int p2), .val (.long p3), .second, .val (.ref b1), .val (.ref b4), .val (.ref c10_0), .unset, .unset, .unset] [(.ref b4), (.ref b11), (.ref b11)]) _
    refine XS.iloadN X11.here hx rfl (hb hby at_57) rfl ?_
    show Sp p e below T11 (mkF m 58 #[.val (.int p0), .val (.int p1), .val (.int p2), .val (.long p3), .second, .val (.ref b1), .val (.ref b4), .val (.ref c10_0), .unset, .unset, .unset] [(.int p0), (.ref b4), (.ref b11), (.ref b11)]) _
    refine XS.iloadN X11.here hx rfl (hb hby at_58) rfl ?_
    show Sp p e below T11 (mkF m 59 #[.val (.int p0), .val (.int p1), .val (.int p2), .val (.long p3), .second, .val (.ref b1), .val (.ref b4), .val (.ref c10_0), .unset, .unset, .unset] [(.int p1), (.int p0), (.ref b4), (.ref b11), (.ref b11)]) _
    refine XS.aload X11.here hx rfl (hb hby at_59) rfl rfl ?_
    show Sp p e below T11 (mkF m 61 #[.val (.int p0), .val (.int p1), .val (.int p2), .val (.long p3), .second, .val (.ref b1), .val (.ref b4), .val (.ref c10_0), .unset, .unset, .unset] [(.ref c10_0), (.int p1), (.int p0), (.ref b4), (.ref b11), (.ref b11)]) _
    refine st12.trans ?_
    show Sp p e below T12 (mkF m 64 #[.val (.int p0), .val (.int p1), .val (.int p2), .val (.long p3), .second, .val (.ref b1), .val (.ref b4), .val (.ref c10_0), .unset, .unset, .unset] [(.ref b11)]) _
    refine XS.astore X12.here hx rfl (hb hby at_64) rfl rfl (l' := #[.val (.int p0), .val (.int p1), .val (.int p2), .val (.long p3), .second, .val (.ref b1), .val (.ref b4), .val (.ref c10_0), .val (.ref b11), .unset, .unset]) rfl ?_
    show Sp p e below T12 (mkF m 66 #[.val (.int p0), .val (.int p1), .val (.int p2), .val (.long p3), .second, .val (.ref b1), .val (.ref b4), .val (.ref c10_0), .val (.ref b11), .unset, .unset] []) _
    refine XS.iloadN X12.here hx rfl (hb hby at_66) rfl ?_
    show Sp p e below T12 (mkF m 67 #[.val (.int p0), .val (.int p1), .val (.int p2), .val (.long p3), .second, .val (.ref b1), .val (.ref b4), .val (.ref c10_0), .val (.ref b11), .unset, .unset] [(.int p1)]) _
    refine X12.ldcI hx hown9 (mvT hZ9 (hw _ (List.mem_of_getElem? (i := 68) rfl))) rfl (hb hby at_67) ?_
    show Sp p e below T12 (mkF m 69 #[.val (.int p0), .val (.int p1), .val (.int p2), .val (.long p3), .second, .val (.ref b1), .val (.ref b4), .val (.ref c10_0), .val (.ref b11), .unset, .unset] [(.int (2147483647 : Int32)), (.int p1)]) _
    refine XS.icmpNo X12.here hx rfl (hb hby at_69) rfl (tlt hc4).2.1 ?_
    show Sp p e below T12 (mkF m 72 #[.val (.int p0), .val (.int p1), .val (.int p2), .val (.long p3), .second, .val (.ref b1), .val (.ref b4), .val (.ref c10_0), .val (.ref b11), .unset, .unset] []) _
    refine XS.iconst X12.here hx rfl (hb hby at_72) ?_
    show Sp p e below T12 (mkF m 73 #[.val (.int p0), .val (.int p1), .val (.int p2), .val (.long p3), .second, .val (.ref b1), .val (.ref b4), .val (.ref c10_0), .val (.ref b11), .unset, .unset] [(.int (1 : Int32))]) _
    refine XS.goto X12.here hx rfl (pc0 := 73) (pc' := 77) rfl (hb hby at_73) (by decide) (by decide) ?_
    show Sp p e below T12 (mkF m 77 #[.val (.int p0), .val (.int p1), .val (.int p2), .val (.long p3), .second, .val (.ref b1), .val (.ref b4), .val (.ref c10_0), .val (.ref b11), .unset, .unset] [(.int (1 : Int32))]) _
    refine XS.istore X12.here hx rfl (hb hby at_77) rfl (l' := #[.val (.int p0), .val (.int p1), .val (.int p2), .val (.long p3), .second, .val (.ref b1), .val (.ref b4), .val (.ref c10_0), .val (.ref b11), .val (.int (1 : Int32)), .unset]) rfl ?_
    show Sp p e below T12 (mkF m 79 #[.val (.int p0), .val (.int p1), .val (.int p2), .val (.long p3), .second, .val (.ref b1), .val (.ref b4), .val (.ref c10_0), .val (.ref b11), .val (.int (1 : Int32)), .unset] []) _
    refine st13 _ ?_
    show Sp p e below T13 (mkF m 82 #[.val (.int p0), .val (.int p1), .val (.int p2), .val (.long p3), .second, .val (.ref b1), .val (.ref b4), .val (.ref c10_0), .val (.ref b11), .val (.int (1 : Int32)), .unset] [(.ref b13)]) _
    refine XS.dup X13.here hx rfl (hb hby at_82) rfl rfl ?_
    show Sp p e below T13 (mkF m 83 #[.val (.int p0), .val (.int p1), .val (.int p2), .val (.long p3), .second, .val (.ref b1), .val (.ref b4), .val (.ref c10_0), .val (.ref b11), .val (.int (1 : Int32)), .unset] [(.ref b13), (.ref b13)]) _
    refine XS.aload X13.here hx rfl (hb hby at_83) rfl rfl ?_
    show Sp p e below T13 (mkF m 85 #[.val (.int p0), .val (.int p1), .val (.int p2), .val (.long p3), .second, .val (.ref b1), .val (.ref b4), .val (.ref c10_0), .val (.ref b11), .val (.int (1 : Int32)), .unset] [(.ref b4), (.ref b13), (.ref b13)]) _
    refine XS.iloadN X13.here hx rfl (hb hby at_85) rfl ?_
    show Sp p e below T13 (mkF m 86 #[.val (.int p0), .val (.int p1), .val (.int p2), .val (.long p3), .second, .val (.ref b1), .val (.ref b4), .val (.ref c10_0), .val (.ref b11), .val (.int (1 : Int32)), .unset] [(.int p0), (.ref b4), (.ref b13), (.ref b13)]) _
    refine st14.trans ?_
    show Sp p e below T14 (mkF m 89 #[.val (.int p0), .val (.int p1), .val (.int p2), .val (.long p3), .second, .val (.ref b1), .val (.ref b4), .val (.ref c10_0), .val (.ref b11), .val (.int (1 : Int32)), .unset] [(.ref b13)]) _
    refine XS.astore X14.here hx rfl (hb hby at_89) rfl rfl (l' := #[.val (.int p0), .val (.int p1), .val (.int p2), .val (.long p3), .second, .val (.ref b1), .val (.ref b4), .val (.ref c10_0), .val (.ref b11), .val (.int (1 : Int32)), .val (.ref b13)]) rfl ?_
    show Sp p e below T14 (mkF m 91 #[.val (.int p0), .val (.int p1), .val (.int p2), .val (.long p3), .second, .val (.ref b1), .val (.ref b4), .val (.ref c10_0), .val (.ref b11), .val (.int (1 : Int32)), .val (.ref b13)] []) _
    refine XS.aload X14.here hx rfl (hb hby at_91) rfl rfl ?_
    show Sp p e below T14 (mkF m 93 #[.val (.int p0), .val (.int p1), .val (.int p2), .val (.long p3), .second, .val (.ref b1), .val (.ref b4), .val (.ref c10_0), .val (.ref b11), .val (.int (1 : Int32)), .val (.ref b13)] [(.ref b11)]) _
    refine st16.trans ?_
    show Sp p e below T16 (mkF m 96 #[.val (.int p0), .val (.int p1), .val (.int p2), .val (.long p3), .second, .val (.ref b1), .val (.ref b4), .val (.ref c10_0), .val (.ref b11), .val (.int (1 : Int32)), .val (.ref b13)] [(.int (1 : Int32))]) _
    refine XS.iload X16.here hx rfl (hb hby at_96) rfl ?_
    show Sp p e below T16 (mkF m 98 #[.val (.int p0), .val (.int p1), .val (.int p2), .val (.long p3), .second, .val (.ref b1), .val (.ref b4), .val (.ref c10_0), .val (.ref b11), .val (.int (1 : Int32)), .val (.ref b13)] [(.int (1 : Int32)), (.int (1 : Int32))]) _
    refine XS.icmpNo X16.here hx rfl (hb hby at_98) rfl (teq (by decide : (1 : Int32) = (1 : Int32))).2 ?_
    show Sp p e below T16 (mkF m 101 #[.val (.int p0), .val (.int p1), .val (.int p2), .val (.long p3), .second, .val (.ref b1), .val (.ref b4), .val (.ref c10_0), .val (.ref b11), .val (.int (1 : Int32)), .val (.ref b13)] []) _
    refine XS.aload X16.here hx rfl (hb hby at_101) rfl rfl ?_
    show Sp p e below T16 (mkF m 103 #[.val (.int p0), .val (.int p1), .val (.int p2), .val (.long p3), .second, .val (.ref b1), .val (.ref b4), .val (.ref c10_0), .val (.ref b11), .val (.int (1 : Int32)), .val (.ref b13)] [(.ref b13)]) _
    refine st17.trans ?_
    show Sp p e below T17 (mkF m 106 #[.val (.int p0), .val (.int p1), .val (.int p2), .val (.long p3), .second, .val (.ref b1), .val (.ref b4), .val (.ref c10_0), .val (.ref b11), .val (.int (1 : Int32)), .val (.ref b13)] [(.int (0 : Int32))]) _
    refine XS.ifNo X17.here hx rfl (hb hby at_106) rfl ((if0 _ _).trans (teq (by decide : (0 : Int32) = (0 : Int32))).2) ?_
    show Sp p e below T17 (mkF m 109 #[.val (.int p0), .val (.int p1), .val (.int p2), .val (.long p3), .second, .val (.ref b1), .val (.ref b4), .val (.ref c10_0), .val (.ref b11), .val (.int (1 : Int32)), .val (.ref b13)] []) _
    refine XS.iconst X17.here hx rfl (hb hby at_109) ?_
    show Sp p e below T17 (mkF m 110 #[.val (.int p0), .val (.int p1), .val (.int p2), .val (.long p3), .second, .val (.ref b1), .val (.ref b4), .val (.ref c10_0), .val (.ref b11), .val (.int (1 : Int32)), .val (.ref b13)] [(.int (1 : Int32))]) _
    refine XS.goto X17.here hx rfl (pc0 := 110) (pc' := 114) rfl (hb hby at_110) (by decide) (by decide) ?_
    show Sp p e below T17 (mkF m 114 #[.val (.int p0), .val (.int p1), .val (.int p2), .val (.long p3), .second, .val (.ref b1), .val (.ref b4), .val (.ref c10_0), .val (.ref b11), .val (.int (1 : Int32)), .val (.ref b13)] [(.int (1 : Int32))]) _
    exact retN X17 hx (t := .boolean) Bd.returns (by simp) (hb hby at_114) hr
  · skip
    exact ⟨rfl, N17⟩
def Q24 (Z : State) (w_lcache : Addr) (cs_v : Int32) (cl_lcache : Cell) (a1 : Addr) (p2 : Int32) (h0 : Heap) (n0 : Nat) (v : Option Value) (h : Heap) (L : List Loc) : Prop := v = some (.int (0 : Int32)) ∧ Fr n0 L ∧ h = h0
set_option maxRecDepth 65536 in
set_option maxHeartbeats 40000000 in
theorem rm24 (l : Launch) (Z : State) (a0 : Array Value) (hw : ∀ d ∈ tables_1, d.before a0 Z = true) (ws : List Jvm.Cond) (w_lcache : Addr) (cs_v : Int32) (cl_lcache : Cell) (hp : Perm Z w_lcache cs_v cl_lcache) (a1 : Addr) (p2 : Int32) (h0 : Heap) (n0 : Nat) (O0 : Old Z n0 h0) (F_answered_a1 : Fld Z h0 a1 "com/example/latchwork/latchwork/RecordedForm$Call" "answered" "I" (.int p2)) (hc2 : p2 = (2147483647 : Int32)) :
    MetFree l y10 (head1 (Jvm.Cond.code y10 prog_15_method_3_code 1 (some .boolean) :: ws) ({ frames := 0, cells := 0, slots := 0, locals := 0 } : Room)) (fun a U => a = #[(.ref a1)] ∧ Z.Warmed39 U.vm ∧ U.heap = h0) (fun _ _ _ _ _ => True) (fun _ U o U' => ∃ v L, o = .returned v ∧ Q24 Z w_lcache cs_v cl_lcache a1 p2 h0 n0 v U'.heap L ∧ FrameEnd U o U' L ({ frames := 0, cells := 0, slots := 0, locals := 0 } : Room).cells ({ frames := 0, cells := 0, slots := 0, locals := 0 } : Room).slots) := by
  refine MetFree.of_bodySF (plainFor_of_name pn_10) hisR ?_
  intro p e s m args below meth c s₁ Bd hml0 hP hK
  obtain ⟨rfl, hZ, hh⟩ := hP
  have hx := Bd.exec
  have hby := Bd.bytes
  have hml : c.maxLocals = 1 := hml0
  have hown : s.vm.findClass "com/example/latchwork/latchwork/RecordedForm$Call" = some m.cls := findClass_of_methodNamed Bd.named
  have hnm := (name_of_methodNamed Bd.named Bd.method).1
  have X0 : Stand p l e ({ frames := 0, cells := 0, slots := 0, locals := 0 } : Room) s m #[(.ref a1)] below meth c s₁ [] 0 0 := Stand.of_body Bd
  have e0 : s₁.heap = h0 := by rw [← hh, Bd.state]; rfl
  have N0 := Fr.nil n0
  have hp' := hp
  obtain ⟨S_COMPACT_STRINGS, h_cs, S_w_lcache, B_lcache⟩ := hp'
  have pre0 : ∀ t, Steps p.tables e below (s₁.setTop (mkF m 0 #[.val (.ref a1)] [])) t → Steps p.tables e below (s₁.setTop (entryFrame m #[(.ref a1)] 1)) t := fun t k => castTop (ef_12_0 m a1) k
  obtain ⟨T1, X1, e1, st1⟩ := getF X0 hx hZ hown (host := "") (Or.inl (hw _ (List.mem_of_getElem? (i := 64) rfl))) Via.refl e0 F_answered_a1 (g := (mkF m 1 #[.val (.ref a1)] [(.ref a1)])) rfl rfl (hb hby d12_1)
  obtain ⟨fs, hr, hrun, hended, hW, hsame⟩ := X1.leave (v := some (.int (0 : Int32))) (fun h => by rw [Bd.returns] at h; cases h)
  refine ⟨_, _, pre0 _ ?_, hrun, hended, _, _, rfl, ?_, ⟨_, rfl⟩, hW, hsame.mono (by decide) (by decide)⟩
  · show Sp p e below s₁ (mkF m 0 #[.val (.ref a1)] []) _
    refine XS.aloadN X0.here hx rfl (hb hby d12_0) rfl rfl ?_
    show Sp p e below s₁ (mkF m 1 #[.val (.ref a1)] [(.ref a1)]) _
    refine st1 _ ?_
    show Sp p e below T1 (mkF m 4 #[.val (.ref a1)] [(.int p2)]) _
    refine X1.ldcI hx hown (mvT hZ (hw _ (List.mem_of_getElem? (i := 72) rfl))) rfl (hb hby d12_4) ?_
    show Sp p e below T1 (mkF m 6 #[.val (.ref a1)] [(.int (2147483647 : Int32)), (.int p2)]) _
    refine XS.icmpYes X1.here hx rfl (pc0 := 6) (pc' := 13) rfl (hb hby d12_6) rfl (teq hc2).1 (by decide) (by decide) ?_
    show Sp p e below T1 (mkF m 13 #[.val (.ref a1)] []) _
    refine XS.iconst X1.here hx rfl (hb hby d12_13) ?_
    show Sp p e below T1 (mkF m 14 #[.val (.ref a1)] [(.int (0 : Int32))]) _
    exact retN X1 hx (t := .boolean) Bd.returns (by simp) (hb hby d12_14) hr
  · show Q24 Z w_lcache cs_v cl_lcache a1 p2 h0 n0 _ T1.heap _
    rw [e1]
    exact ⟨rfl, N0, rfl⟩
set_option maxRecDepth 65536 in
set_option maxHeartbeats 40000000 in
theorem rm25 (l : Launch) (Z : State) (a0 : Array Value) (hw : ∀ d ∈ tables_1, d.before a0 Z = true) (ws : List Jvm.Cond) (w_lcache : Addr) (cs_v : Int32) (cl_lcache : Cell) (hp : Perm Z w_lcache cs_v cl_lcache) (p0 : Int32) (p1 : Int32) (p2 : Int32) (p3 : Int64) (h0 : Heap) (n0 : Nat) (O0 : Old Z n0 h0) (hc1 : ¬ ((p2 &&& (256 : Int32)) = (0 : Int32))) (hc2 : ¬ ((lcmpW p3 (-128 : Int64)) < (0 : Int32))) (hc3 : ¬ ((0 : Int32) < (lcmpW p3 (127 : Int64)))) (hc4 : ¬ (p1 < (2147483647 : Int32))) :
    MetFree l x (head1 (Jvm.Cond.code x code maxLocals ret :: ws) room_1) (fun a U => a = #[(.int p0), (.int p1), (.int p2), (.long p3)] ∧ Z.Warmed39 U.vm ∧ U.heap = h0 ∧ CHv Z own_EL U.vm h0) (fun _ _ _ _ _ => True) (fun _ U o U' => ∃ v L, o = .returned v ∧ (v = some (.int (1 : Int32)) ∧ Fr n0 L) ∧ ReturnedEndW U o U' L 24 1152) := by
  refine MetFree.of_bodySF (plainFor_of_name pn_0) hisR ?_
  intro p e s m args below meth c s₁ Bd hml0 hP hK
  obtain ⟨rfl, hZo, hh, hCH⟩ := hP
  have hx := Bd.exec
  have hby := Bd.bytes
  have hml : c.maxLocals = 11 := hml0
  have hown : (s.setVm s.vm).vm.findClass "com/example/latchwork/latchwork/CallIsAnsweredPinLaw" = some m.cls := findClass_of_methodNamed Bd.named
  have hnm := (name_of_methodNamed Bd.named Bd.method).1
  have X0 : Stand p l e room_1 (s.setVm s.vm) m #[(.int p0), (.int p1), (.int p2), (.long p3)] below meth c s₁ [] 0 0 := Stand.of_body Bd
  have e0 : s₁.heap = h0 := by rw [← hh, Bd.state]; rfl
  have N0 := Fr.nil n0
  have hZ : Z.Warmed39 (s.setVm s.vm).vm := hZo
  have CH0 := CHr.refl hCH
  have hS0 : s.Since s.vm 0 := (State.WarmedH.refl s).since 0
  have hk0 : 0 ≤ h0.size := Nat.zero_le _
  have hp' := hp
  obtain ⟨S_COMPACT_STRINGS, h_cs, S_w_lcache, B_lcache⟩ := hp'
  have pre0 : ∀ t, Steps p.tables e below (s₁.setTop (mkF m 0 #[.val (.int p0), .val (.int p1), .val (.int p2), .val (.long p3), .second, .unset, .unset, .unset, .unset, .unset, .unset] [])) t → Steps p.tables e below (s₁.setTop (entryFrame m #[(.int p0), (.int p1), (.int p2), (.long p3)] maxLocals)) t := fun t k => castTop (ef_0_0 m p0 p1 p2 p3) k
  obtain ⟨T1, h1, k1, X1, e1, E1, A1, EA1, st1⟩ := newPE X0 hx hZ (hw _ (List.mem_of_getElem? (i := 0) rfl)) e0 (g := (mkF m 1 #[.val (.int p0), .val (.int p1), .val (.int p2), .val (.long p3), .second, .unset, .unset, .unset, .unset, .unset, .unset] [(.int (1 : Int32))])) rfl (hb hby at_1) rfl (by decide) (cap := 1) (by decide) (by decide) (by decide) (by decide) (ad := "[C") (by decide)
  obtain ⟨b1, g1⟩ : ∃ z, z = h0.size := ⟨_, rfl⟩
  rw [← g1] at A1 EA1 st1
  have g_b1 : n0 ≤ b1 := Nat.le_trans (own_sz O0) (Nat.le_of_eq g1.symm)
  have sz_b1 : h0.size ≤ b1 := Nat.le_trans (Keep.refl h0 []).1 (Nat.le_of_eq g1.symm)
  have O1 := O0.ext E1
  have K1 : Keep h0 h1 [] := (Keep.refl h0 []).ext E1
  have CH1 := CH0.trans (CHr.ext E1 CH0.1)
  have hk1 := Nat.le_trans hk0 E1.1
  have V_b1 : Arv Z h1 b1 k1 .char (1 : Int32) [(.int (0 : Int32))] (.int (0 : Int32)) := (Arv.new A1 (by decide)).pad (pad_rep [] (.int (0 : Int32)) 1)
  obtain ⟨cl2, Ar2, q2, S2, Nn2, H2, G2⟩ := id V_b1
  have hin2 : ¬ ((0 : Int32) < 0 ∨ cl2.slots.size ≤ ((0 : Int32)).toNatClampNeg) := inb_of S2 ⟨by decide, by decide⟩
  obtain ⟨T3, h3, X3, e3, W3, st3⟩ := stC X1 hx hZ e1 Ar2 (j := (0 : Int32)) hin2 (g := (mkF m 14 #[.val (.int p0), .val (.int p1), .val (.int p2), .val (.long p3), .second, .val (.ref b1), .unset, .unset, .unset, .unset, .unset] [(.int ((p2 &&& (255 : Int32)).toUInt32.toUInt16.toUInt32.toInt32)), (.int (0 : Int32)), (.ref b1)])) rfl rfl (hb hby at_14)
  have N3 := Fr.snoc X3 N0 g_b1
  have O3 := O1.wr W3 g_b1
  have K3 : Keep h0 h3 [] := K1.wr W3 (Or.inr sz_b1)
  have CH3 := CH1.trans (CHr.wr W3 own_safe0 CH1.1)
  have hk3 := Nat.le_trans hk1 (Keep.of_wr W3).1
  have V_b1_3 : Arv Z h3 b1 k1 .char (1 : Int32) [(.int (nar .char ((p2 &&& (255 : Int32)).toUInt32.toUInt16.toUInt32.toInt32)))] (.int (0 : Int32)) := Arv.set Ar2 q2 S2 Nn2 H2 G2 (fits_nar_char _) W3 0 rfl (Nat.le_of_ble_eq_true rfl)
  obtain ⟨T4, h4, X4, e4, E4, A4, D4, -, st4⟩ := newO X3 hx hZ hown (hw _ (List.mem_of_getElem? (i := 1) rfl)) (hw _ (List.mem_of_getElem? (i := 2) rfl)) (hw _ (List.mem_of_getElem? (i := 3) rfl)) e3 (g := (mkF m 15 #[.val (.int p0), .val (.int p1), .val (.int p2), .val (.long p3), .second, .val (.ref b1), .unset, .unset, .unset, .unset, .unset] [])) rfl (hb hby at_15) (by decide) (by decide)
  obtain ⟨b4, g4⟩ : ∃ z, z = h3.size := ⟨_, rfl⟩
  rw [← g4] at A4 D4 st4
  have g_b4 : n0 ≤ b4 := Nat.le_trans (own_sz O3) (Nat.le_of_eq g4.symm)
  have sz_b4 : h0.size ≤ b4 := Nat.le_trans K3.1 (Nat.le_of_eq g4.symm)
  have O4 := O3.ext E4
  have K4 : Keep h0 h4 [] := K3.ext E4
  have CH4 := CH3.trans (CHr.ext E4 CH3.1)
  have hk4 := Nat.le_trans hk3 E4.1
  have F_function_b4 : Fld Z h4 b4 "com/example/latchwork/latchwork/Operation" "function" "Ljava/lang/String;" .null := D4 (Or.inr (hw _ (List.mem_of_getElem? (i := 50) rfl))) (ty := (.object "java/lang/String")) (by decide)
  have F_argument_b4 : Fld Z h4 b4 "com/example/latchwork/latchwork/Operation" "argument" "Ljava/lang/Object;" .null := D4 (Or.inr (hw _ (List.mem_of_getElem? (i := 52) rfl))) (ty := (.object "java/lang/Object")) (by decide)
  obtain ⟨T5, h5, X5, e5, E5, A5, D5, -, st5⟩ := newO X4 hx hZ hown (hw _ (List.mem_of_getElem? (i := 4) rfl)) (hw _ (List.mem_of_getElem? (i := 5) rfl)) (hw _ (List.mem_of_getElem? (i := 6) rfl)) e4 (g := (mkF m 19 #[.val (.int p0), .val (.int p1), .val (.int p2), .val (.long p3), .second, .val (.ref b1), .unset, .unset, .unset, .unset, .unset] [(.ref b4), (.ref b4)])) rfl (hb hby at_19) (by decide) (by decide)
  obtain ⟨b5, g5⟩ : ∃ z, z = h4.size := ⟨_, rfl⟩
  rw [← g5] at A5 D5 st5
  have g_b5 : n0 ≤ b5 := Nat.le_trans (own_sz O4) (Nat.le_of_eq g5.symm)
  have sz_b5 : h0.size ≤ b5 := Nat.le_trans K4.1 (Nat.le_of_eq g5.symm)
  have O5 := O4.ext E5
  have K5 : Keep h0 h5 [] := K4.ext E5
  have CH5 := CH4.trans (CHr.ext E5 CH4.1)
  have hk5 := Nat.le_trans hk4 E5.1
  have F_coder_b5 : Fld Z h5 b5 "java/lang/String" "coder" "B" (.int (0 : Int32)) := D5 (Or.inr (hw _ (List.mem_of_getElem? (i := 30) rfl))) (ty := .byte) (by decide)
  have F_value_b5 : Fld Z h5 b5 "java/lang/String" "value" "[B" .null := D5 (Or.inr (hw _ (List.mem_of_getElem? (i := 32) rfl))) (ty := (.array .byte)) (by decide)
  obtain ⟨_, _, ⟨T6, L6, k6, n6⟩, -, X6, ⟨Lc6, hQ6, l6, y6, z6⟩, st6⟩ := X5.specialBack hx (y := y4) rfl hown (mvT hZ (hw _ (List.mem_of_getElem? (i := 7) rfl))) (mvT hZ (hw _ (List.mem_of_getElem? (i := 8) rfl))) (mvT hZ (hw _ (List.mem_of_getElem? (i := 9) rfl))) (by decide) (backOf (W := 3) (rm5 l Z a0 hw [] w_lcache cs_v cl_lcache hp b5 b1 k1 (nar .char ((p2 &&& (255 : Int32)).toUInt32.toUInt16.toUInt32.toInt32)) h5 n0 O5 ((V_b1_3.ext E4).ext E5) (own_ch2 p2) A5 F_coder_b5 F_value_b5 g_b5) hZ (hw _ (List.mem_of_getElem? (i := 9) rfl)) (hw _ (List.mem_of_getElem? (i := 6) rfl)) (by decide) (by decide)) (g := (mkF m 25 #[.val (.int p0), .val (.int p1), .val (.int p2), .val (.long p3), .second, .val (.ref b1), .unset, .unset, .unset, .unset, .unset] [(.ref b1), (.ref b5), (.ref b5), (.ref b4), (.ref b4)])) rfl (by rw [hml]; rfl) (Steps.refl _) (a := b5) (argsL := [(.ref b1)]) (rest := [(.ref b5), (.ref b4), (.ref b4)]) (lenOf pd_4 rfl) rfl (by show 2 * 0 + _ ≤ _; exact Nat.le_of_eq rfl) (hb hby at_25) (fun _ _ => ⟨rfl, e5, (by decide : 3 + 1 ≤ _), (by decide : 7 + 1 ≤ _)⟩)
  dsimp only [Pt.U, Pt.locs, Pt.cells, Pt.slots] at X6 l6 y6 z6 st6 hQ6
  subst l6 y6 z6
  obtain ⟨b6_0, kc6_0, rfl, Nq6, Kq6, sq_b6_0, fq6_0, fq6_1, fq6_2, fq6_3, fq6_4⟩ := hQ6
  have N6 := Fr.app N3 Nq6
  have g_b6_0 : n0 ≤ b6_0 := Nat.le_trans (own_sz O5) sq_b6_0
  have sz_b6_0 : h0.size ≤ b6_0 := Nat.le_trans K5.1 sq_b6_0
  have CH6 := CH5.trans (CHr.keep Kq6 (allS own_safe0 all0) CH5.1)
  have hk6 := Nat.le_trans hk5 Kq6.1
  have O6 := O5.keep Kq6 (allS g_b5 all0)
  have K6 : Keep h0 T6.heap [] := K5.trans Kq6 (allS (Or.inr sz_b5) all0)
  have f_7 := ((F_function_b4.ext E5).keep Kq6 (ninS (Nat.ne_of_lt (Nat.lt_of_lt_of_le A4.lt (Nat.le_of_eq g5.symm))) nin0))
  have f_8 := ((F_argument_b4.ext E5).keep Kq6 (ninS (Nat.ne_of_lt (Nat.lt_of_lt_of_le A4.lt (Nat.le_of_eq g5.symm))) nin0))
  obtain ⟨_, _, ⟨T9, L9, k9, n9⟩, -, XX9, Sq9, gq9, ⟨Lc9, hQ9, l9, y9, z9, C9⟩, st9⟩ := X6.specialBackS hx (y := y7) rfl hown (mvT hZ (hw _ (List.mem_of_getElem? (i := 33) rfl))) (mvT hZ (hw _ (List.mem_of_getElem? (i := 34) rfl))) (mvT hZ (hw _ (List.mem_of_getElem? (i := 35) rfl))) (by decide) (own_backC (SL := []) (W := 1) (rm8 l Z a0 hw [] w_lcache cs_v cl_lcache hp b4 b5 T6.heap n0 O6 ((A4.ext E5).keep Kq6) f_7 f_8 g_b4) hZ (hw _ (List.mem_of_getElem? (i := 35) rfl)) (hw _ (List.mem_of_getElem? (i := 3) rfl)) (by decide) (by decide) (own_EW hw) CH6.1 all0) (g := (mkF m 29 #[.val (.int p0), .val (.int p1), .val (.int p2), .val (.long p3), .second, .val (.ref b1), .unset, .unset, .unset, .unset, .unset] [.null, (.ref b5), (.ref b4), (.ref b4)])) rfl (by rw [hml]; rfl) (Steps.refl _) (a := b4) (argsL := [(.ref b5), .null]) (rest := [(.ref b4)]) (lenOf pd_7 rfl) rfl (by show 2 * 0 + _ ≤ _; exact Nat.le_of_eq rfl) (hb hby at_29) (fun _ _ => ⟨rfl, rfl, (by decide : 4 + 2 ≤ _), (by decide : 8 + 36 ≤ _)⟩)
  dsimp only [Pt.U, Pt.locs, Pt.cells, Pt.slots] at XX9 Sq9 gq9 l9 y9 z9 st9 hQ9 C9
  subst l9 y9 z9
  obtain ⟨X9, hS9, hZ9, hown9⟩ := rebS hS0 hk6 XX9 Sq9 gq9 hZ hown
  obtain ⟨rfl, Nq9, Kq9, fq9_0, fq9_1, fq9_2⟩ := hQ9
  have N9 := Fr.app N6 Nq9
  have CH9 := CH6.trans C9
  have hk9 : T9.heap.size ≤ T9.heap.size := Nat.le_refl _
  have O9 := O6.keep Kq9 (allS g_b4 all0)
  have K9 : Keep h0 T9.heap [] := K6.trans Kq9 (allS (Or.inr sz_b4) all0)
  obtain ⟨_, _, ⟨T10, L10, k10, n10⟩, -, X10, ⟨Lc10, hQ10, l10, y10, z10⟩, st10⟩ := Jvm.LawKit.callS X9 hx (y := y13) hown9 (mvT hZ9 (hw _ (List.mem_of_getElem? (i := 79) rfl))) (mvT hZ9 (hw _ (List.mem_of_getElem? (i := 80) rfl))) (mvT hZ9 (hw _ (List.mem_of_getElem? (i := 81) rfl))) (mvT hZ9 (hw _ (List.mem_of_getElem? (i := 82) rfl))) (by decide) (backOf (W := 0) (rm22 l Z a0 hw [] w_lcache cs_v cl_lcache hp p3 T9.heap n0 O9 hc2 hc3) hZ9 (hw _ (List.mem_of_getElem? (i := 82) rfl)) (hw _ (List.mem_of_getElem? (i := 81) rfl)) (by decide) (by decide)) (g := (mkF m 46 #[.val (.int p0), .val (.int p1), .val (.int p2), .val (.long p3), .second, .val (.ref b1), .val (.ref b4), .val .null, .unset, .unset, .unset] [(.long p3)])) rfl (by rw [hml]; rfl) (argsL := [(.long p3)]) (rest := []) (lenOf pd_12 rfl) rfl (by show 2 * 0 + _ ≤ _; exact Nat.le_of_eq rfl) (hb hby at_46) (fun _ _ => ⟨rfl, rfl, (by decide : 6 + 0 ≤ _), (by decide : 44 + 0 ≤ _)⟩)
  dsimp only [Pt.U, Pt.locs, Pt.cells, Pt.slots] at X10 l10 y10 z10 st10 hQ10
  subst l10 y10 z10
  obtain ⟨c10_0, rfl, Nq10, eq10, oq10_0⟩ := hQ10
  have N10 := Fr.app N9 Nq10
  obtain ⟨T11, h11, X11, e11, E11, A11, D11, -, st11⟩ := newO X10 hx hZ9 hown9 (hw _ (List.mem_of_getElem? (i := 53) rfl)) (hw _ (List.mem_of_getElem? (i := 54) rfl)) (hw _ (List.mem_of_getElem? (i := 55) rfl)) eq10 (g := (mkF m 51 #[.val (.int p0), .val (.int p1), .val (.int p2), .val (.long p3), .second, .val (.ref b1), .val (.ref b4), .val (.ref c10_0), .unset, .unset, .unset] [])) rfl (hb hby at_51) (by decide) (by decide)
  obtain ⟨b11, g11⟩ : ∃ z, z = T9.heap.size := ⟨_, rfl⟩
  rw [← g11] at A11 D11 st11
  have g_b11 : n0 ≤ b11 := Nat.le_trans (own_sz O9) (Nat.le_of_eq g11.symm)
  have sz_b11 : h0.size ≤ b11 := Nat.le_trans K9.1 (Nat.le_of_eq g11.symm)
  have O11 := O9.ext E11
  have K11 : Keep h0 h11 [] := K9.ext E11
  have CH11 := CH9.trans (CHr.ext E11 CH9.1)
  have hk11 := Nat.le_trans hk9 E11.1
  have F_operation_b11 : Fld Z h11 b11 "com/example/latchwork/latchwork/RecordedForm$Call" "operation" "Lcom/example/latchwork/latchwork/Operation;" .null := D11 (Or.inr (hw _ (List.mem_of_getElem? (i := 61) rfl))) (ty := (.object "com/example/latchwork/latchwork/Operation")) (by decide)
  have F_called_b11 : Fld Z h11 b11 "com/example/latchwork/latchwork/RecordedForm$Call" "called" "I" (.int (0 : Int32)) := D11 (Or.inr (hw _ (List.mem_of_getElem? (i := 63) rfl))) (ty := .int) (by decide)
  have F_answered_b11 : Fld Z h11 b11 "com/example/latchwork/latchwork/RecordedForm$Call" "answered" "I" (.int (0 : Int32)) := D11 (Or.inr (hw _ (List.mem_of_getElem? (i := 65) rfl))) (ty := .int) (by decide)
  have F_result_b11 : Fld Z h11 b11 "com/example/latchwork/latchwork/RecordedForm$Call" "result" "Ljava/lang/Object;" .null := D11 (Or.inr (hw _ (List.mem_of_getElem? (i := 67) rfl))) (ty := (.object "java/lang/Object")) (by decide)
  obtain ⟨_, _, ⟨T12, L12, k12, n12⟩, -, X12, ⟨Lc12, hQ12, l12, y12, z12⟩, st12⟩ := X11.specialBack hx (y := y8) rfl hown9 (mvT hZ9 (hw _ (List.mem_of_getElem? (i := 56) rfl))) (mvT hZ9 (hw _ (List.mem_of_getElem? (i := 57) rfl))) (mvT hZ9 (hw _ (List.mem_of_getElem? (i := 58) rfl))) (by decide) (backOf (W := 1) (rm18 l Z a0 hw [] w_lcache cs_v cl_lcache hp b11 b4 p0 p1 c10_0 h11 n0 O11 A11 F_operation_b11 F_called_b11 F_answered_b11 F_result_b11 g_b11) hZ9 (hw _ (List.mem_of_getElem? (i := 58) rfl)) (hw _ (List.mem_of_getElem? (i := 55) rfl)) (by decide) (by decide)) (g := (mkF m 61 #[.val (.int p0), .val (.int p1), .val (.int p2), .val (.long p3), .second, .val (.ref b1), .val (.ref b4), .val (.ref c10_0), .unset, .unset, .unset] [(.ref c10_0), (.int p1), (.int p0), (.ref b4), (.ref b11), (.ref b11)])) rfl (by rw [hml]; rfl) (Steps.refl _) (a := b11) (argsL := [(.ref b4), (.int p0), (.int p1), (.ref c10_0)]) (rest := [(.ref b11)]) (lenOf pd_8 rfl) rfl (by show 2 * 0 + _ ≤ _; exact Nat.le_of_eq rfl) (hb hby at_61) (fun _ _ => ⟨rfl, e11, (by decide : 7 + 0 ≤ _), (by decide : 48 + 0 ≤ _)⟩)
  dsimp only [Pt.U, Pt.locs, Pt.cells, Pt.slots] at X12 l12 y12 z12 st12 hQ12
  subst l12 y12 z12
  obtain ⟨rfl, Nq12, Kq12, fq12_0, fq12_1, fq12_2, fq12_3, fq12_4⟩ := hQ12
  have N12 := Fr.app N10 Nq12
  have CH12 := CH11.trans (CHr.keep Kq12 (allS own_safe0 all0) CH11.1)
  have hk12 := Nat.le_trans hk11 Kq12.1
  have O12 := O11.keep Kq12 (allS g_b11 all0)
  have K12 : Keep h0 T12.heap [] := K11.trans Kq12 (allS (Or.inr sz_b11) all0)
  obtain ⟨T13, h13, X13, e13, E13, A13, D13, -, st13⟩ := newO X12 hx hZ9 hown9 (hw _ (List.mem_of_getElem? (i := 53) rfl)) (hw _ (List.mem_of_getElem? (i := 54) rfl)) (hw _ (List.mem_of_getElem? (i := 55) rfl)) rfl (g := (mkF m 79 #[.val (.int p0), .val (.int p1), .val (.int p2), .val (.long p3), .second, .val (.ref b1), .val (.ref b4), .val (.ref c10_0), .val (.ref b11), .val (.int (0 : Int32)), .unset] [])) rfl (hb hby at_79) (by decide) (by decide)
  obtain ⟨b13, g13⟩ : ∃ z, z = T12.heap.size := ⟨_, rfl⟩
  rw [← g13] at A13 D13 st13
  have g_b13 : n0 ≤ b13 := Nat.le_trans (own_sz O12) (Nat.le_of_eq g13.symm)
  have sz_b13 : h0.size ≤ b13 := Nat.le_trans K12.1 (Nat.le_of_eq g13.symm)
  have O13 := O12.ext E13
  have K13 : Keep h0 h13 [] := K12.ext E13
  have CH13 := CH12.trans (CHr.ext E13 CH12.1)
  have hk13 := Nat.le_trans hk12 E13.1
  have F_operation_b13 : Fld Z h13 b13 "com/example/latchwork/latchwork/RecordedForm$Call" "operation" "Lcom/example/latchwork/latchwork/Operation;" .null := D13 (Or.inr (hw _ (List.mem_of_getElem? (i := 61) rfl))) (ty := (.object "com/example/latchwork/latchwork/Operation")) (by decide)
  have F_called_b13 : Fld Z h13 b13 "com/example/latchwork/latchwork/RecordedForm$Call" "called" "I" (.int (0 : Int32)) := D13 (Or.inr (hw _ (List.mem_of_getElem? (i := 63) rfl))) (ty := .int) (by decide)
  have F_answered_b13 : Fld Z h13 b13 "com/example/latchwork/latchwork/RecordedForm$Call" "answered" "I" (.int (0 : Int32)) := D13 (Or.inr (hw _ (List.mem_of_getElem? (i := 65) rfl))) (ty := .int) (by decide)
  have F_result_b13 : Fld Z h13 b13 "com/example/latchwork/latchwork/RecordedForm$Call" "result" "Ljava/lang/Object;" .null := D13 (Or.inr (hw _ (List.mem_of_getElem? (i := 67) rfl))) (ty := (.object "java/lang/Object")) (by decide)
  obtain ⟨_, _, ⟨T14, L14, k14, n14⟩, -, X14, ⟨Lc14, hQ14, l14, y14, z14⟩, st14⟩ := X13.specialBack hx (y := y9) rfl hown9 (mvT hZ9 (hw _ (List.mem_of_getElem? (i := 69) rfl))) (mvT hZ9 (hw _ (List.mem_of_getElem? (i := 70) rfl))) (mvT hZ9 (hw _ (List.mem_of_getElem? (i := 71) rfl))) (by decide) (backOf (W := 1) (rm11 l Z a0 hw [] w_lcache cs_v cl_lcache hp b13 b4 p0 h13 n0 O13 A13 F_operation_b13 F_called_b13 F_answered_b13 F_result_b13 g_b13) hZ9 (hw _ (List.mem_of_getElem? (i := 71) rfl)) (hw _ (List.mem_of_getElem? (i := 55) rfl)) (by decide) (by decide)) (g := (mkF m 86 #[.val (.int p0), .val (.int p1), .val (.int p2), .val (.long p3), .second, .val (.ref b1), .val (.ref b4), .val (.ref c10_0), .val (.ref b11), .val (.int (0 : Int32)), .unset] [(.int p0), (.ref b4), (.ref b13), (.ref b13)])) rfl (by rw [hml]; rfl) (Steps.refl _) (a := b13) (argsL := [(.ref b4), (.int p0)]) (rest := [(.ref b13)]) (lenOf pd_9 rfl) rfl (by show 2 * 0 + _ ≤ _; exact Nat.le_of_eq rfl) (hb hby at_86) (fun _ _ => ⟨rfl, e13, (by decide : 8 + 0 ≤ _), (by decide : 52 + 0 ≤ _)⟩)
  dsimp only [Pt.U, Pt.locs, Pt.cells, Pt.slots] at X14 l14 y14 z14 st14 hQ14
  subst l14 y14 z14
  obtain ⟨rfl, Nq14, Kq14, fq14_0, fq14_1, fq14_2, fq14_3, fq14_4⟩ := hQ14
  have N14 := Fr.app N12 Nq14
  have CH14 := CH13.trans (CHr.keep Kq14 (allS own_safe0 all0) CH13.1)
  have hk14 := Nat.le_trans hk13 Kq14.1
  have O14 := O13.keep Kq14 (allS g_b13 all0)
  have K14 : Keep h0 T14.heap [] := K13.trans Kq14 (allS (Or.inr sz_b13) all0)
  have f_15 := ((fq12_1.ext E13).keep Kq14 (ninS (Nat.ne_of_lt (Nat.lt_of_lt_of_le (A11.keep Kq12).lt (Nat.le_of_eq g13.symm))) nin0))
  obtain ⟨cq16, kq16, q16a, q16b, q16c⟩ := isOf hZ9 rfl ((fq12_0.ext E13).keep Kq14)
  obtain ⟨_, _, ⟨T16, L16, k16, n16⟩, -, X16, ⟨Lc16, hQ16, l16, y16, z16⟩, st16⟩ := X14.virtualBack hx (y := y10) (z := y10) hown9 (mvT hZ9 (hw _ (List.mem_of_getElem? (i := 74) rfl))) (mvT hZ9 (hw _ (List.mem_of_getElem? (i := 75) rfl))) (notFace_of_selects (args := #[]) (mvT hZ9 (hw _ (List.mem_of_getElem? (i := 77) rfl)))) (mvT hZ9 (hw _ (List.mem_of_getElem? (i := 77) rfl))) (mvT hZ9 (hw _ (List.mem_of_getElem? (i := 76) rfl))) (by decide) (backOf (W := 0) (rm24 l Z a0 hw [] w_lcache cs_v cl_lcache hp b11 p1 T14.heap n0 O14 f_15 (own_mx2 hc4)) hZ9 (hw _ (List.mem_of_getElem? (i := 78) rfl)) (hw _ (List.mem_of_getElem? (i := 55) rfl)) (by decide) (by decide)) q16a q16c (g := (mkF m 93 #[.val (.int p0), .val (.int p1), .val (.int p2), .val (.long p3), .second, .val (.ref b1), .val (.ref b4), .val (.ref c10_0), .val (.ref b11), .val (.int (0 : Int32)), .val (.ref b13)] [(.ref b11)])) rfl (by rw [hml]; rfl) (Steps.refl _) (argsL := []) (rest := []) (lenOf pd_10 rfl) rfl (by show 2 * 0 + _ ≤ _; exact Nat.le_of_eq rfl) (hb hby at_93) (fun _ _ => ⟨rfl, rfl, (by decide : 8 + 0 ≤ _), (by decide : 52 + 0 ≤ _)⟩)
  dsimp only [Pt.U, Pt.locs, Pt.cells, Pt.slots] at X16 l16 y16 z16 st16 hQ16
  subst l16 y16 z16
  obtain ⟨rfl, Nq16, eq16⟩ := hQ16
  have N16 := Fr.app N14 Nq16
  obtain ⟨cq17, kq17, q17a, q17b, q17c⟩ := isOf hZ9 eq16 fq14_0
  obtain ⟨_, _, ⟨T17, L17, k17, n17⟩, -, X17, ⟨Lc17, hQ17, l17, y17, z17⟩, st17⟩ := X16.virtualBack hx (y := y10) (z := y10) hown9 (mvT hZ9 (hw _ (List.mem_of_getElem? (i := 74) rfl))) (mvT hZ9 (hw _ (List.mem_of_getElem? (i := 75) rfl))) (notFace_of_selects (args := #[]) (mvT hZ9 (hw _ (List.mem_of_getElem? (i := 77) rfl)))) (mvT hZ9 (hw _ (List.mem_of_getElem? (i := 77) rfl))) (mvT hZ9 (hw _ (List.mem_of_getElem? (i := 76) rfl))) (by decide) (backOf (W := 0) (rm13 l Z a0 hw [] w_lcache cs_v cl_lcache hp b13 T14.heap n0 O14 fq14_1) hZ9 (hw _ (List.mem_of_getElem? (i := 78) rfl)) (hw _ (List.mem_of_getElem? (i := 55) rfl)) (by decide) (by decide)) q17a q17c (g := (mkF m 103 #[.val (.int p0), .val (.int p1), .val (.int p2), .val (.long p3), .second, .val (.ref b1), .val (.ref b4), .val (.ref c10_0), .val (.ref b11), .val (.int (0 : Int32)), .val (.ref b13)] [(.ref b13)])) rfl (by rw [hml]; rfl) (Steps.refl _) (argsL := []) (rest := []) (lenOf pd_10 rfl) rfl (by show 2 * 0 + _ ≤ _; exact Nat.le_of_eq rfl) (hb hby at_103) (fun _ _ => ⟨rfl, eq16, (by decide : 8 + 0 ≤ _), (by decide : 52 + 0 ≤ _)⟩)
  dsimp only [Pt.U, Pt.locs, Pt.cells, Pt.slots] at X17 l17 y17 z17 st17 hQ17
  subst l17 y17 z17
  obtain ⟨rfl, Nq17, eq17⟩ := hQ17
  have N17 := Fr.app N16 Nq17
  obtain ⟨fs, hr, hrun, hended, hE⟩ := Stand.leaveW (s := s) X17 hS9 (by rw [eq17]; exact hk14) (v := some (.int (1 : Int32))) (fun h => by rw [Bd.returns] at h; cases h)
  refine ⟨_, _, pre0 _ ?_, hrun, hended, _, _, rfl, ?_, hE.1, hE.2.1, hE.2.2.1, hE.2.2.2.mono (by decide) (by decide)⟩
  · show Sp p e below s₁ (mkF m 0 #[.val (.int p0), .val (.int p1), .val (.int p2), .val (.long p3), .second, .unset, .unset, .unset, .unset, .unset, .unset] []) _
    refine XS.iconst X0.here hx rfl (hb hby at_0) ?_
    show Sp p e below s₁ (mkF m 1 #[.val (.int p0), .val (.int p1), .val (.int p2), .val (.long p3), .second, .unset, .unset, .unset, .unset, .unset, .unset] [(.int (1 : Int32))]) _
    refine st1 _ ?_
    show Sp p e below T1 (mkF m 3 #[.val (.int p0), .val (.int p1), .val (.int p2), .val (.long p3), .second, .unset, .unset, .unset, .unset, .unset, .unset] [(.ref b1)]) _
    refine XS.astore X1.here hx rfl (hb hby at_3) rfl rfl (l' := #[.val (.int p0), .val (.int p1), .val (.int p2), .val (.long p3), .second, .val (.ref b1), .unset, .unset, .unset, .unset, .unset]) rfl ?_
    show Sp p e below T1 (mkF m 5 #[.val (.int p0), .val (.int p1), .val (.int p2), .val (.long p3), .second, .val (.ref b1), .unset, .unset, .unset, .unset, .unset] []) _
    refine XS.aload X1.here hx rfl (hb hby at_5) rfl rfl ?_
    show Sp p e below T1 (mkF m 7 #[.val (.int p0), .val (.int p1), .val (.int p2), .val (.long p3), .second, .val (.ref b1), .unset, .unset, .unset, .unset, .unset] [(.ref b1)]) _
    refine XS.iconst X1.here hx rfl (hb hby at_7) ?_
    show Sp p e below T1 (mkF m 8 #[.val (.int p0), .val (.int p1), .val (.int p2), .val (.long p3), .second, .val (.ref b1), .unset, .unset, .unset, .unset, .unset] [(.int (0 : Int32)), (.ref b1)]) _
    refine XS.iloadN X1.here hx rfl (hb hby at_8) rfl ?_
    show Sp p e below T1 (mkF m 9 #[.val (.int p0), .val (.int p1), .val (.int p2), .val (.long p3), .second, .val (.ref b1), .unset, .unset, .unset, .unset, .unset] [(.int p2), (.int (0 : Int32)), (.ref b1)]) _
    refine XS.sipush X1.here hx rfl (hb hby at_9) ?_
    show Sp p e below T1 (mkF m 12 #[.val (.int p0), .val (.int p1), .val (.int p2), .val (.long p3), .second, .val (.ref b1), .unset, .unset, .unset, .unset, .unset] [(.int (255 : Int32)), (.int p2), (.int (0 : Int32)), (.ref b1)]) _
    refine XS.iand X1.here hx rfl (hb hby at_12) rfl ?_
    show Sp p e below T1 (mkF m 13 #[.val (.int p0), .val (.int p1), .val (.int p2), .val (.long p3), .second, .val (.ref b1), .unset, .unset, .unset, .unset, .unset] [(.int (p2 &&& (255 : Int32))), (.int (0 : Int32)), (.ref b1)]) _
    refine XS.i2c X1.here hx rfl (hb hby at_13) rfl ?_
    show Sp p e below T1 (mkF m 14 #[.val (.int p0), .val (.int p1), .val (.int p2), .val (.long p3), .second, .val (.ref b1), .unset, .unset, .unset, .unset, .unset] [(.int ((p2 &&& (255 : Int32)).toUInt32.toUInt16.toUInt32.toInt32)), (.int (0 : Int32)), (.ref b1)]) _
    refine st3 _ ?_
    show Sp p e below T3 (mkF m 15 #[.val (.int p0), .val (.int p1), .val (.int p2), .val (.long p3), .second, .val (.ref b1), .unset, .unset, .unset, .unset, .unset] []) _
    refine st4 _ ?_
    show Sp p e below T4 (mkF m 18 #[.val (.int p0), .val (.int p1), .val (.int p2), .val (.long p3), .second, .val (.ref b1), .unset, .unset, .unset, .unset, .unset] [(.ref b4)]) _
    refine XS.dup X4.here hx rfl (hb hby at_18) rfl rfl ?_
    show Sp p e below T4 (mkF m 19 #[.val (.int p0), .val (.int p1), .val (.int p2), .val (.long p3), .second, .val (.ref b1), .unset, .unset, .unset, .unset, .unset] [(.ref b4), (.ref b4)]) _
    refine st5 _ ?_
    show Sp p e below T5 (mkF m 22 #[.val (.int p0), .val (.int p1), .val (.int p2), .val (.long p3), .second, .val (.ref b1), .unset, .unset, .unset, .unset, .unset] [(.ref b5), (.ref b4), (.ref b4)]) _
    refine XS.dup X5.here hx rfl (hb hby at_22) rfl rfl ?_
    show Sp p e below T5 (mkF m 23 #[.val (.int p0), .val (.int p1), .val (.int p2), .val (.long p3), .second, .val (.ref b1), .unset, .unset, .unset, .unset, .unset] [(.ref b5), (.ref b5), (.ref b4), (.ref b4)]) _
    refine XS.aload X5.here hx rfl (hb hby at_23) rfl rfl ?_
    show Sp p e below T5 (mkF m 25 #[.val (.int p0), .val (.int p1), .val (.int p2), .val (.long p3), .second, .val (.ref b1), .unset, .unset, .unset, .unset, .unset] [(.ref b1), (.ref b5), (.ref b5), (.ref b4), (.ref b4)]) _
    refine st6.trans ?_
    show Sp p e below T6 (mkF m 28 #[.val (.int p0), .val (.int p1), .val (.int p2), .val (.long p3), .second, .val (.ref b1), .unset, .unset, .unset, .unset, .unset] [(.ref b5), (.ref b4), (.ref b4)]) _
    refine XS.aconstNull X6.here hx rfl (hb hby at_28) ?_
    show Sp p e below T6 (mkF m 29 #[.val (.int p0), .val (.int p1), .val (.int p2), .val (.long p3), .second, .val (.ref b1), .unset, .unset, .unset, .unset, .unset] [.null, (.ref b5), (.ref b4), (.ref b4)]) _
    refine st9.trans ?_
    show Sp p e below T9 (mkF m 32 #[.val (.int p0), .val (.int p1), .val (.int p2), .val (.long p3), .second, .val (.ref b1), .unset, .unset, .unset, .unset, .unset] [(.ref b4)]) _
    refine XS.astore X9.here hx rfl (hb hby at_32) rfl rfl (l' := #[.val (.int p0), .val (.int p1), .val (.int p2), .val (.long p3), .second, .val (.ref b1), .val (.ref b4), .unset, .unset, .unset, .unset]) rfl ?_
    show Sp p e below T9 (mkF m 34 #[.val (.int p0), .val (.int p1), .val (.int p2), .val (.long p3), .second, .val (.ref b1), .val (.ref b4), .unset, .unset, .unset, .unset] []) _
    refine XS.aconstNull X9.here hx rfl (hb hby at_34) ?_
    show Sp p e below T9 (mkF m 35 #[.val (.int p0), .val (.int p1), .val (.int p2), .val (.long p3), .second, .val (.ref b1), .val (.ref b4), .unset, .unset, .unset, .unset] [.null]) _
    refine XS.astore X9.here hx rfl (hb hby at_35) rfl rfl (l' := #[.val (.int p0), .val (.int p1), .val (.int p2), .val (.long p3), .second, .val (.ref b1), .val (.ref b4), .val .null, .unset, .unset, .unset]) rfl ?_
    show Sp p e below T9 (mkF m 37 #[.val (.int p0), .val (.int p1), .val (.int p2), .val (.long p3), .second, .val (.ref b1), .val (.ref b4), .val .null, .unset, .unset, .unset] []) _
    refine XS.iloadN X9.here hx rfl (hb hby at_37) rfl ?_
    show Sp p e below T9 (mkF m 38 #[.val (.int p0), .val (.int p1), .val (.int p2), .val (.long p3), .second, .val (.ref b1), .val (.ref b4), .val .null, .unset, .unset, .unset] [(.int p2)]) _
    refine XS.sipush X9.here hx rfl (hb hby at_38) ?_
    show Sp p e below T9 (mkF m 41 #[.val (.int p0), .val (.int p1), .val (.int p2), .val (.long p3), .second, .val (.ref b1), .val (.ref b4), .val .null, .unset, .unset, .unset] [(.int (256 : Int32)), (.int p2)]) _
    refine XS.iand X9.here hx rfl (hb hby at_41) rfl ?_
    show Sp p e below T9 (mkF m 42 #[.val (.int p0), .val (.int p1), .val (.int p2), .val (.long p3), .second, .val (.ref b1), .val (.ref b4), .val .null, .unset, .unset, .unset] [(.int (p2 &&& (256 : Int32)))]) _
    refine XS.ifNo X9.here hx rfl (hb hby at_42) rfl ((if0 _ _).trans (feq hc1).1) ?_
    show Sp p e below T9 (mkF m 45 #[.val (.int p0), .val (.int p1), .val (.int p2), .val (.long p3), .second, .val (.ref b1), .val (.ref b4), .val .null, .unset, .unset, .unset] []) _
    refine XS.lloadN X9.here hx rfl (hb hby at_45) rfl ?_
    show Sp p e below T9 (mkF m 46 #[.val (.int p0), .val (.int p1), .val (.int p2), .val (.long p3), .second, .val (.ref b1), .val (.ref b4), .val .null, .unset, .unset, .unset] [(.long p3)]) _
    refine st10 _ ?_
    show Sp p e below T10 (mkF m 49 #[.val (.int p0), .val (.int p1), .val (.int p2), .val (.long p3), .second, .val (.ref b1), .val (.ref b4), .val .null, .unset, .unset, .unset] [(.ref c10_0)]) _
    refine XS.astore X10.here hx rfl (hb hby at_49) rfl rfl (l' := #[.val (.int p0), .val (.int p1), .val (.int p2), .val (.long p3), .second, .val (.ref b1), .val (.ref b4), .val (.ref c10_0), .unset, .unset, .unset]) rfl ?_
    show Sp p e below T10 (mkF m 51 #[.val (.int p0), .val (.int p1), .val (.int p2), .val (.long p3), .second, .val (.ref b1), .val (.ref b4), .val (.ref c10_0), .unset, .unset, .unset] []) _
    refine st11 _ ?_
    show Sp p e below T11 (mkF m 54 #[.val (.int p0), .val (.int p1), .val (.int p2), .val (.long p3), .second, .val (.ref b1), .val (.ref b4), .val (.ref c10_0), .unset, .unset, .unset] [(.ref b11)]) _
    refine XS.dup X11.here hx rfl (hb hby at_54) rfl rfl ?_
    show Sp p e below T11 (mkF m 55 #[.val (.int p0), .val (.int p1), .val (.int p2), .val (.long p3), .second, .val (.ref b1), .val (.ref b4), .val (.ref c10_0), .unset, .unset, .unset] [(.ref b11), (.ref b11)]) _
    refine XS.aload X11.here hx rfl (hb hby at_55) rfl rfl ?_
    show Sp p e below T11 (mkF m 57 #[.val (.int p0), .val (.int p1), .val (.int p2), .val (.long p3), .second, .val (.ref b1), .val (.ref b4), .val (.ref c10_0), .unset, .unset, .unset] [(.ref b4), (.ref b11), (.ref b11)]) _
    refine XS.iloadN X11.here hx rfl (hb hby at_57) rfl ?_
    show Sp p e below T11 (mkF m 58 #[.val (.int p0), .val (.int p1), .val (.int p2), .val (.long p3), .second, .val (.ref b1), .val (.ref b4), .val (.ref c10_0), .unset, .unset, .unset] [(.int p0), (.ref b4), (.ref b11), (.ref b11)]) _
    refine XS.iloadN X11.here hx rfl (hb hby at_58) rfl ?_
    show Sp p e below T11 (mkF m 59 #[.val (.int p0), .val (.int p1), .val (.int p2), .val (.long p3), .second, .val (.ref b1), .val (.ref b4), .val (.ref c10_0), .unset, .unset, .unset] [(.int p1), (.int p0), (.ref b4), (.ref b11), (.ref b11)]) _
    refine XS.aload X11.here hx rfl (hb hby at_59) rfl rfl ?_
    show Sp p e below T11 (mkF m 61 #[.val (.int p0), .val (.int p1), .val (.int p2), .val (.long p3), .second, .val (.ref b1), .val (.ref b4), .val (.ref c10_0), .unset, .unset, .unset] [(.ref c10_0), (.int p1), (.int p0), (.ref b4), (.ref b11), (.ref b11)]) _
    refine st12.trans ?_
    show Sp p e below T12 (mkF m 64 #[.val (.int p0), .val (.int p1), .val (.int p2), .val (.long p3), .second, .val (.ref b1), .val (.ref b4), .val (.ref c10_0), .unset, .unset, .unset] [(.ref b11)]) _
    refine XS.astore X12.here hx rfl (hb hby at_64) rfl rfl (l' := #[.val (.int p0), .val (.int p1), .val (.int p2), .val (.long p3), .second, .val (.ref b1), .val (.ref b4), .val (.ref c10_0), .val (.ref b11), .unset, .unset]) rfl ?_
    show Sp p e below T12 (mkF m 66 #[.val (.int p0), .val (.int p1), .val (.int p2), .val (.long p3), .second, .val (.ref b1), .val (.ref b4), .val (.ref c10_0), .val (.ref b11), .unset, .unset] []) _
    refine XS.iloadN X12.here hx rfl (hb hby at_66) rfl ?_
    show Sp p e below T12 (mkF m 67 #[.val (.int p0), .val (.int p1), .val (.int p2), .val (.long p3), .second, .val (.ref b1), .val (.ref b4), .val (.ref c10_0), .val (.ref b11), .unset, .unset] [(.int p1)]) _
    refine X12.ldcI hx hown9 (mvT hZ9 (hw _ (List.mem_of_getElem? (i := 68) rfl))) rfl (hb hby at_67) ?_
    show Sp p e below T12 (mkF m 69 #[.val (.int p0), .val (.int p1), .val (.int p2), .val (.long p3), .second, .val (.ref b1), .val (.ref b4), .val (.ref c10_0), .val (.ref b11), .unset, .unset] [(.int (2147483647 : Int32)), (.int p1)]) _
    refine XS.icmpYes X12.here hx rfl (pc0 := 69) (pc' := 76) rfl (hb hby at_69) rfl (flt hc4).2.1 (by decide) (by decide) ?_
    show Sp p e below T12 (mkF m 76 #[.val (.int p0), .val (.int p1), .val (.int p2), .val (.long p3), .second, .val (.ref b1), .val (.ref b4), .val (.ref c10_0), .val (.ref b11), .unset, .unset] []) _
    refine XS.iconst X12.here hx rfl (hb hby at_76) ?_
    show Sp p e below T12 (mkF m 77 #[.val (.int p0), .val (.int p1), .val (.int p2), .val (.long p3), .second, .val (.ref b1), .val (.ref b4), .val (.ref c10_0), .val (.ref b11), .unset, .unset] [(.int (0 : Int32))]) _
    refine XS.istore X12.here hx rfl (hb hby at_77) rfl (l' := #[.val (.int p0), .val (.int p1), .val (.int p2), .val (.long p3), .second, .val (.ref b1), .val (.ref b4), .val (.ref c10_0), .val (.ref b11), .val (.int (0 : Int32)), .unset]) rfl ?_
    show Sp p e below T12 (mkF m 79 #[.val (.int p0), .val (.int p1), .val (.int p2), .val (.long p3), .second, .val (.ref b1), .val (.ref b4), .val (.ref c10_0), .val (.ref b11), .val (.int (0 : Int32)), .unset] []) _
    refine st13 _ ?_
    show Sp p e below T13 (mkF m 82 #[.val (.int p0), .val (.int p1), .val (.int p2), .val (.long p3), .second, .val (.ref b1), .val (.ref b4), .val (.ref c10_0), .val (.ref b11), .val (.int (0 : Int32)), .unset] [(.ref b13)]) _
    refine XS.dup X13.here hx rfl (hb hby at_82) rfl rfl ?_
    show Sp p e below T13 (mkF m 83 #[.val (.int p0), .val (.int p1), .val (.int p2), .val (.long p3), .second, .val (.ref b1), .val (.ref b4), .val (.ref c10_0), .val (.ref b11), .val (.int (0 : Int32)), .unset] [(.ref b13), (.ref b13)]) _
    refine XS.aload X13.here hx rfl (hb hby at_83) rfl rfl ?_
    show Sp p e below T13 (mkF m 85 #[.val (.int p0), .val (.int p1), .val (.int p2), .val (.long p3), .second, .val (.ref b1), .val (.ref b4), .val (.ref c10_0), .val (.ref b11), .val (.int (0 : Int32)), .unset] [(.ref b4), (.ref b13), (.ref b13)]) _
    refine XS.iloadN X13.here hx rfl (hb hby at_85) rfl ?_
    show Sp p e below T13 (mkF m 86 #[.val (.int p0), .val (.int p1), .val (.int p2), .val (.long p3), .second, .val (.ref b1), .val (.ref b4), .val (.ref c10_0), .val (.ref b11), .val (.int (0 : Int32)), .unset] [(.int p0), (.ref b4), (.ref b13), (.ref b13)]) _
    refine st14.trans ?_
    show Sp p e below T14 (mkF m 89 #[.val (.int p0), .val (.int p1), .val (.int p2), .val (.long p3), .second, .val (.ref b1), .val (.ref b4), .val (.ref c10_0), .val (.ref b11), .val (.int (0 : Int32)), .unset] [(.ref b13)]) _
    refine XS.astore X14.here hx rfl (hb hby at_89) rfl rfl (l' := #[.val (.int p0), .val (.int p1), .val (.int p2), .val (.long p3), .second, .val (.ref b1), .val (.ref b4), .val (.ref c10_0), .val (.ref b11), .val (.int (0 : Int32)), .val (.ref b13)]) rfl ?_
    show Sp p e below T14 (mkF m 91 #[.val (.int p0), .val (.int p1), .val (.int p2), .val (.long p3), .second, .val (.ref b1), .val (.ref b4), .val (.ref c10_0), .val (.ref b11), .val (.int (0 : Int32)), .val (.ref b13)] []) _
    refine XS.aload X14.here hx rfl (hb hby at_91) rfl rfl ?_
    show Sp p e below T14 (mkF m 93 #[.val (.int p0), .val (.int p1), .val (.int p2), .val (.long p3), .second, .val (.ref b1), .val (.ref b4), .val (.ref c10_0), .val (.ref b11), .val (.int (0 : Int32)), .val (.ref b13)] [(.ref b11)]) _
    refine st16.trans ?_
    show Sp p e below T16 (mkF m 96 #[.val (.int p0), .val (.int p1), .val (.int p2), .val (.long p3), .second, .val (.ref b1), .val (.ref b4), .val (.ref c10_0), .val (.ref b11), .val (.int (0 : Int32)), .val (.ref b13)] [(.int (0 : Int32))]) _
    refine XS.iload X16.here hx rfl (hb hby at_96) rfl ?_
    show Sp p e below T16 (mkF m 98 #[.val (.int p0), .val (.int p1), .val (.int p2), .val (.long p3), .second, .val (.ref b1), .val (.ref b4), .val (.ref c10_0), .val (.ref b11), .val (.int (0 : Int32)), .val (.ref b13)] [(.int (0 : Int32)), (.int (0 : Int32))]) _
    refine XS.icmpNo X16.here hx rfl (hb hby at_98) rfl (teq (by decide : (0 : Int32) = (0 : Int32))).2 ?_
    show Sp p e below T16 (mkF m 101 #[.val (.int p0), .val (.int p1), .val (.int p2), .val (.long p3), .second, .val (.ref b1), .val (.ref b4), .val (.ref c10_0), .val (.ref b11), .val (.int (0 : Int32)), .val (.ref b13)] []) _
    refine XS.aload X16.here hx rfl (hb hby at_101) rfl rfl ?_
    show Sp p e below T16 (mkF m 103 #[.val (.int p0), .val (.int p1), .val (.int p2), .val (.long p3), .second, .val (.ref b1), .val (.ref b4), .val (.ref c10_0), .val (.ref b11), .val (.int (0 : Int32)), .val (.ref b13)] [(.ref b13)]) _
    refine st17.trans ?_
    show Sp p e below T17 (mkF m 106 #[.val (.int p0), .val (.int p1), .val (.int p2), .val (.long p3), .second, .val (.ref b1), .val (.ref b4), .val (.ref c10_0), .val (.ref b11), .val (.int (0 : Int32)), .val (.ref b13)] [(.int (0 : Int32))]) _
    refine XS.ifNo X17.here hx rfl (hb hby at_106) rfl ((if0 _ _).trans (teq (by decide : (0 : Int32) = (0 : Int32))).2) ?_
    show Sp p e below T17 (mkF m 109 #[.val (.int p0), .val (.int p1), .val (.int p2), .val (.long p3), .second, .val (.ref b1), .val (.ref b4), .val (.ref c10_0), .val (.ref b11), .val (.int (0 : Int32)), .val (.ref b13)] []) _
    refine XS.iconst X17.here hx rfl (hb hby at_109) ?_
    show Sp p e below T17 (mkF m 110 #[.val (.int p0), .val (.int p1), .val (.int p2), .val (.long p3), .second, .val (.ref b1), .val (.ref b4), .val (.ref c10_0), .val (.ref b11), .val (.int (0 : Int32)), .val (.ref b13)] [(.int (1 : Int32))]) _
    refine XS.goto X17.here hx rfl (pc0 := 110) (pc' := 114) rfl (hb hby at_110) (by decide) (by decide) ?_
    show Sp p e below T17 (mkF m 114 #[.val (.int p0), .val (.int p1), .val (.int p2), .val (.long p3), .second, .val (.ref b1), .val (.ref b4), .val (.ref c10_0), .val (.ref b11), .val (.int (0 : Int32)), .val (.ref b13)] [(.int (1 : Int32))]) _
    exact retN X17 hx (t := .boolean) Bd.returns (by simp) (hb hby at_114) hr
  · skip
    exact ⟨rfl, N17⟩
set_option maxRecDepth 65536 in
set_option maxHeartbeats 40000000 in
theorem rm26 (l : Launch) (Z : State) (a0 : Array Value) (hw : ∀ d ∈ tables_1, d.before a0 Z = true) (ws : List Jvm.Cond) (w_lcache : Addr) (cs_v : Int32) (cl_lcache : Cell) (hp : Perm Z w_lcache cs_v cl_lcache) (p0 : Int32) (p1 : Int32) (p2 : Int32) (p3 : Int64) (h0 : Heap) (n0 : Nat) (O0 : Old Z n0 h0) (hc1 : ¬ ((p2 &&& (256 : Int32)) = (0 : Int32))) (hc2 : ¬ ((lcmpW p3 (-128 : Int64)) < (0 : Int32))) (hc3 : (0 : Int32) < (lcmpW p3 (127 : Int64))) (hc4 : ¬ (p1 < (2147483647 : Int32))) :
    MetFree l x (head1 (Jvm.Cond.code x code maxLocals ret :: ws) room_1) (fun a U => a = #[(.int p0), (.int p1), (.int p2), (.long p3)] ∧ Z.Warmed39 U.vm ∧ U.heap = h0 ∧ CHv Z own_EL U.vm h0) (fun _ _ _ _ _ => True) (fun _ U o U' => ∃ v L, o = .returned v ∧ (v = some (.int (1 : Int32)) ∧ Fr n0 L) ∧ ReturnedEndW U o U' L 24 1152) := by
  refine MetFree.of_bodySF (plainFor_of_name pn_0) hisR ?_
  intro p e s m args below meth c s₁ Bd hml0 hP hK
  obtain ⟨rfl, hZo, hh, hCH⟩ := hP
  have hx := Bd.exec
  have hby := Bd.bytes
  have hml : c.maxLocals = 11 := hml0
  have hown : (s.setVm s.vm).vm.findClass "com/example/latchwork/latchwork/CallIsAnsweredPinLaw" = some m.cls := findClass_of_methodNamed Bd.named
  have hnm := (name_of_methodNamed Bd.named Bd.method).1
  have X0 : Stand p l e room_1 (s.setVm s.vm) m #[(.int p0), (.int p1), (.int p2), (.long p3)] below meth c s₁ [] 0 0 := Stand.of_body Bd
  have e0 : s₁.heap = h0 := by rw [← hh, Bd.state]; rfl
  have N0 := Fr.nil n0
  have hZ : Z.Warmed39 (s.setVm s.vm).vm := hZo
  have CH0 := CHr.refl hCH
  have hS0 : s.Since s.vm 0 := (State.WarmedH.refl s).since 0
  have hk0 : 0 ≤ h0.size := Nat.zero_le _
  have hp' := hp
  obtain ⟨S_COMPACT_STRINGS, h_cs, S_w_lcache, B_lcache⟩ := hp'
  have pre0 : ∀ t, Steps p.tables e below (s₁.setTop (mkF m 0 #[.val (.int p0), .val (.int p1), .val (.int p2), .val (.long p3), .second, .unset, .unset, .unset, .unset, .unset, .unset] [])) t → Steps p.tables e below (s₁.setTop (entryFrame m #[(.int p0), (.int p1), (.int p2), (.long p3)] maxLocals)) t := fun t k => castTop (ef_0_0 m p0 p1 p2 p3) k
  obtain ⟨T1, h1, k1, X1, e1, E1, A1, EA1, st1⟩ := newPE X0 hx hZ (hw _ (List.mem_of_getElem? (i := 0) rfl)) e0 (g := (mkF m 1 #[.val (.int p0), .val (.int p1), .val (.int p2), .val (.long p3), .second, .unset, .unset, .unset, .unset, .unset, .unset] [(.int (1 : Int32))])) rfl (hb hby at_1) rfl (by decide) (cap := 1) (by decide) (by decide) (by decide) (by decide) (ad := "[C") (by decide)
  obtain ⟨b1, g1⟩ : ∃ z, z = h0.size := ⟨_, rfl⟩
  rw [← g1] at A1 EA1 st1
  have g_b1 : n0 ≤ b1 := Nat.le_trans (own_sz O0) (Nat.le_of_eq g1.symm)
  have sz_b1 : h0.size ≤ b1 := Nat.le_trans (Keep.refl h0 []).1 (Nat.le_of_eq g1.symm)
  have O1 := O0.ext E1
  have K1 : Keep h0 h1 [] := (Keep.refl h0 []).ext E1
  have CH1 := CH0.trans (CHr.ext E1 CH0.1)
  have hk1 := Nat.le_trans hk0 E1.1
  have V_b1 : Arv Z h1 b1 k1 .char (1 : Int32) [(.int (0 : Int32))] (.int (0 : Int32)) := (Arv.new A1 (by decide)).pad (pad_rep [] (.int (0 : Int32)) 1)
  obtain ⟨cl2, Ar2, q2, S2, Nn2, H2, G2⟩ := id V_b1
  have hin2 : ¬ ((0 : Int32) < 0 ∨ cl2.slots.size ≤ ((0 : Int32)).toNatClampNeg) := inb_of S2 ⟨by decide, by decide⟩
  obtain ⟨T3, h3, X3, e3, W3, st3⟩ := stC X1 hx hZ e1 Ar2 (j := (0 : Int32)) hin2 (g := (mkF m 14 #[.val (.int p0), .val (.int p1), .val (.int p2), .val (.long p3), .second, .val (.ref b1), .unset, .unset, .unset, .unset, .unset] [(.int ((p2 &&& (255 : Int32)).toUInt32.toUInt16.toUInt32.toInt32)), (.int (0 : Int32)), (.ref b1)])) rfl rfl (hb hby at_14)
  have N3 := Fr.snoc X3 N0 g_b1
  have O3 := O1.wr W3 g_b1
  have K3 : Keep h0 h3 [] := K1.wr W3 (Or.inr sz_b1)
  have CH3 := CH1.trans (CHr.wr W3 own_safe0 CH1.1)
  have hk3 := Nat.le_trans hk1 (Keep.of_wr W3).1
  have V_b1_3 : Arv Z h3 b1 k1 .char (1 : Int32) [(.int (nar .char ((p2 &&& (255 : Int32)).toUInt32.toUInt16.toUInt32.toInt32)))] (.int (0 : Int32)) := Arv.set Ar2 q2 S2 Nn2 H2 G2 (fits_nar_char _) W3 0 rfl (Nat.le_of_ble_eq_true rfl)
  obtain ⟨T4, h4, X4, e4, E4, A4, D4, -, st4⟩ := newO X3 hx hZ hown (hw _ (List.mem_of_getElem? (i := 1) rfl)) (hw _ (List.mem_of_getElem? (i := 2) rfl)) (hw _ (List.mem_of_getElem? (i := 3) rfl)) e3 (g := (mkF m 15 #[.val (.int p0), .val (.int p1), .val (.int p2), .val (.long p3), .second, .val (.ref b1), .unset, .unset, .unset, .unset, .unset] [])) rfl (hb hby at_15) (by decide) (by decide)
  obtain ⟨b4, g4⟩ : ∃ z, z = h3.size := ⟨_, rfl⟩
  rw [← g4] at A4 D4 st4
  have g_b4 : n0 ≤ b4 := Nat.le_trans (own_sz O3) (Nat.le_of_eq g4.symm)
  have sz_b4 : h0.size ≤ b4 := Nat.le_trans K3.1 (Nat.le_of_eq g4.symm)
  have O4 := O3.ext E4
  have K4 : Keep h0 h4 [] := K3.ext E4
  have CH4 := CH3.trans (CHr.ext E4 CH3.1)
  have hk4 := Nat.le_trans hk3 E4.1
  have F_function_b4 : Fld Z h4 b4 "com/example/latchwork/latchwork/Operation" "function" "Ljava/lang/String;" .null := D4 (Or.inr (hw _ (List.mem_of_getElem? (i := 50) rfl))) (ty := (.object "java/lang/String")) (by decide)
  have F_argument_b4 : Fld Z h4 b4 "com/example/latchwork/latchwork/Operation" "argument" "Ljava/lang/Object;" .null := D4 (Or.inr (hw _ (List.mem_of_getElem? (i := 52) rfl))) (ty := (.object "java/lang/Object")) (by decide)
  obtain ⟨T5, h5, X5, e5, E5, A5, D5, -, st5⟩ := newO X4 hx hZ hown (hw _ (List.mem_of_getElem? (i := 4) rfl)) (hw _ (List.mem_of_getElem? (i := 5) rfl)) (hw _ (List.mem_of_getElem? (i := 6) rfl)) e4 (g := (mkF m 19 #[.val (.int p0), .val (.int p1), .val (.int p2), .val (.long p3), .second, .val (.ref b1), .unset, .unset, .unset, .unset, .unset] [(.ref b4), (.ref b4)])) rfl (hb hby at_19) (by decide) (by decide)
  obtain ⟨b5, g5⟩ : ∃ z, z = h4.size := ⟨_, rfl⟩
  rw [← g5] at A5 D5 st5
  have g_b5 : n0 ≤ b5 := Nat.le_trans (own_sz O4) (Nat.le_of_eq g5.symm)
  have sz_b5 : h0.size ≤ b5 := Nat.le_trans K4.1 (Nat.le_of_eq g5.symm)
  have O5 := O4.ext E5
  have K5 : Keep h0 h5 [] := K4.ext E5
  have CH5 := CH4.trans (CHr.ext E5 CH4.1)
  have hk5 := Nat.le_trans hk4 E5.1
  have F_coder_b5 : Fld Z h5 b5 "java/lang/String" "coder" "B" (.int (0 : Int32)) := D5 (Or.inr (hw _ (List.mem_of_getElem? (i := 30) rfl))) (ty := .byte) (by decide)
  have F_value_b5 : Fld Z h5 b5 "java/lang/String" "value" "[B" .null := D5 (Or.inr (hw _ (List.mem_of_getElem? (i := 32) rfl))) (ty := (.array .byte)) (by decide)
  obtain ⟨_, _, ⟨T6, L6, k6, n6⟩, -, X6, ⟨Lc6, hQ6, l6, y6, z6⟩, st6⟩ := X5.specialBack hx (y := y4) rfl hown (mvT hZ (hw _ (List.mem_of_getElem? (i := 7) rfl))) (mvT hZ (hw _ (List.mem_of_getElem? (i := 8) rfl))) (mvT hZ (hw _ (List.mem_of_getElem? (i := 9) rfl))) (by decide) (backOf (W := 3) (rm5 l Z a0 hw [] w_lcache cs_v cl_lcache hp b5 b1 k1 (nar .char ((p2 &&& (255 : Int32)).toUInt32.toUInt16.toUInt32.toInt32)) h5 n0 O5 ((V_b1_3.ext E4).ext E5) (own_ch2 p2) A5 F_coder_b5 F_value_b5 g_b5) hZ (hw _ (List.mem_of_getElem? (i := 9) rfl)) (hw _ (List.mem_of_getElem? (i := 6) rfl)) (by decide) (by decide)) (g := (mkF m 25 #[.val (.int p0), .val (.int p1), .val (.int p2), .val (.long p3), .second, .val (.ref b1), .unset, .unset, .unset, .unset, .unset] [(.ref b1), (.ref b5), (.ref b5), (.ref b4), (.ref b4)])) rfl (by rw [hml]; rfl) (Steps.refl _) (a := b5) (argsL := [(.ref b1)]) (rest := [(.ref b5), (.ref b4), (.ref b4)]) (lenOf pd_4 rfl) rfl (by show 2 * 0 + _ ≤ _; exact Nat.le_of_eq rfl) (hb hby at_25) (fun _ _ => ⟨rfl, e5, (by decide : 3 + 1 ≤ _), (by decide : 7 + 1 ≤ _)⟩)
  dsimp only [Pt.U, Pt.locs, Pt.cells, Pt.slots] at X6 l6 y6 z6 st6 hQ6
  subst l6 y6 z6
  obtain ⟨b6_0, kc6_0, rfl, Nq6, Kq6, sq_b6_0, fq6_0, fq6_1, fq6_2, fq6_3, fq6_4⟩ := hQ6
  have N6 := Fr.app N3 Nq6
  have g_b6_0 : n0 ≤ b6_0 := Nat.le_trans (own_sz O5) sq_b6_0
  have sz_b6_0 : h0.size ≤ b6_0 := Nat.le_trans K5.1 sq_b6_0
  have CH6 := CH5.trans (CHr.keep Kq6 (allS own_safe0 all0) CH5.1)
  have hk6 := Nat.le_trans hk5 Kq6.1
  have O6 := O5.keep Kq6 (allS g_b5 all0)
  have K6 : Keep h0 T6.heap [] := K5.trans Kq6 (allS (Or.inr sz_b5) all0)
  have f_7 := ((F_function_b4.ext E5).keep Kq6 (ninS (Nat.ne_of_lt (Nat.lt_of_lt_of_le A4.lt (Nat.le_of_eq g5.symm))) nin0))
  have f_8 := ((F_argument_b4.ext E5).keep Kq6 (ninS (Nat.ne_of_lt (Nat.lt_of_lt_of_le A4.lt (Nat.le_of_eq g5.symm))) nin0))
  obtain ⟨_, _, ⟨T9, L9, k9, n9⟩, -, XX9, Sq9, gq9, ⟨Lc9, hQ9, l9, y9, z9, C9⟩, st9⟩ := X6.specialBackS hx (y := y7) rfl hown (mvT hZ (hw _ (List.mem_of_getElem? (i := 33) rfl))) (mvT hZ (hw _ (List.mem_of_getElem? (i := 34) rfl))) (mvT hZ (hw _ (List.mem_of_getElem? (i := 35) rfl))) (by decide) (own_backC (SL := []) (W := 1) (rm8 l Z a0 hw [] w_lcache cs_v cl_lcache hp b4 b5 T6.heap n0 O6 ((A4.ext E5).keep Kq6) f_7 f_8 g_b4) hZ (hw _ (List.mem_of_getElem? (i := 35) rfl)) (hw _ (List.mem_of_getElem? (i := 3) rfl)) (by decide) (by decide) (own_EW hw) CH6.1 all0) (g := (mkF m 29 #[.val (.int p0), .val (.int p1), .val (.int p2), .val (.long p3), .second, .val (.ref b1), .unset, .unset, .unset, .unset, .unset] [.null, (.ref b5), (.ref b4), (.ref b4)])) rfl (by rw [hml]; rfl) (Steps.refl _) (a := b4) (argsL := [(.ref b5), .null]) (rest := [(.ref b4)]) (lenOf pd_7 rfl) rfl (by show 2 * 0 + _ ≤ _; exact Nat.le_of_eq rfl) (hb hby at_29) (fun _ _ => ⟨rfl, rfl, (by decide : 4 + 2 ≤ _), (by decide : 8 + 36 ≤ _)⟩)
  dsimp only [Pt.U, Pt.locs, Pt.cells, Pt.slots] at XX9 Sq9 gq9 l9 y9 z9 st9 hQ9 C9
  subst l9 y9 z9
  obtain ⟨X9, hS9, hZ9, hown9⟩ := rebS hS0 hk6 XX9 Sq9 gq9 hZ hown
  obtain ⟨rfl, Nq9, Kq9, fq9_0, fq9_1, fq9_2⟩ := hQ9
  have N9 := Fr.app N6 Nq9
  have CH9 := CH6.trans C9
  have hk9 : T9.heap.size ≤ T9.heap.size := Nat.le_refl _
  have O9 := O6.keep Kq9 (allS g_b4 all0)
  have K9 : Keep h0 T9.heap [] := K6.trans Kq9 (allS (Or.inr sz_b4) all0)
  obtain ⟨_, _, ⟨T10, L10, k10, n10⟩, -, X10, ⟨Lc10, hQ10, l10, y10, z10⟩, st10⟩ := Jvm.LawKit.callS X9 hx (y := y13) hown9 (mvT hZ9 (hw _ (List.mem_of_getElem? (i := 79) rfl))) (mvT hZ9 (hw _ (List.mem_of_getElem? (i := 80) rfl))) (mvT hZ9 (hw _ (List.mem_of_getElem? (i := 81) rfl))) (mvT hZ9 (hw _ (List.mem_of_getElem? (i := 82) rfl))) (by decide) (backOf (W := 0) (rm20 l Z a0 hw [] w_lcache cs_v cl_lcache hp p3 T9.heap n0 O9 hc2 hc3) hZ9 (hw _ (List.mem_of_getElem? (i := 82) rfl)) (hw _ (List.mem_of_getElem? (i := 81) rfl)) (by decide) (by decide)) (g := (mkF m 46 #[.val (.int p0), .val (.int p1), .val (.int p2), .val (.long p3), .second, .val (.ref b1), .val (.ref b4), .val .null, .unset, .unset, .unset] [(.long p3)])) rfl (by rw [hml]; rfl) (argsL := [(.long p3)]) (rest := []) (lenOf pd_12 rfl) rfl (by show 2 * 0 + _ ≤ _; exact Nat.le_of_eq rfl) (hb hby at_46) (fun _ _ => ⟨rfl, rfl, (by decide : 6 + 1 ≤ _), (by decide : 44 + 1 ≤ _)⟩)
  dsimp only [Pt.U, Pt.locs, Pt.cells, Pt.slots] at X10 l10 y10 z10 st10 hQ10
  subst l10 y10 z10
  obtain ⟨b10_0, rfl, Nq10, Kq10, sq_b10_0, fq10_0, fq10_1⟩ := hQ10
  have N10 := Fr.app N9 Nq10
  have g_b10_0 : n0 ≤ b10_0 := Nat.le_trans (own_sz O9) sq_b10_0
  have sz_b10_0 : h0.size ≤ b10_0 := Nat.le_trans K9.1 sq_b10_0
  have CH10 := CH9.trans (CHr.keep Kq10 all0 CH9.1)
  have hk10 := Nat.le_trans hk9 Kq10.1
  have O10 := O9.keep Kq10 all0
  have K10 : Keep h0 T10.heap [] := K9.trans Kq10 all0
  obtain ⟨T11, h11, X11, e11, E11, A11, D11, -, st11⟩ := newO X10 hx hZ9 hown9 (hw _ (List.mem_of_getElem? (i := 53) rfl)) (hw _ (List.mem_of_getElem? (i := 54) rfl)) (hw _ (List.mem_of_getElem? (i := 55) rfl)) rfl (g := (mkF m 51 #[.val (.int p0), .val (.int p1), .val (.int p2), .val (.long p3), .second, .val (.ref b1), .val (.ref b4), .val (.ref b10_0), .unset, .unset, .unset] [])) rfl (hb hby at_51) (by decide) (by decide)
  obtain ⟨b11, g11⟩ : ∃ z, z = T10.heap.size := ⟨_, rfl⟩
  rw [← g11] at A11 D11 st11
  have g_b11 : n0 ≤ b11 := Nat.le_trans (own_sz O10) (Nat.le_of_eq g11.symm)
  have sz_b11 : h0.size ≤ b11 := Nat.le_trans K10.1 (Nat.le_of_eq g11.symm)
  have O11 := O10.ext E11
  have K11 : Keep h0 h11 [] := K10.ext E11
  have CH11 := CH10.trans (CHr.ext E11 CH10.1)
  have hk11 := Nat.le_trans hk10 E11.1
  have F_operation_b11 : Fld Z h11 b11 "com/example/latchwork/latchwork/RecordedForm$Call" "operation" "Lcom/example/latchwork/latchwork/Operation;" .null := D11 (Or.inr (hw _ (List.mem_of_getElem? (i := 61) rfl))) (ty := (.object "com/example/latchwork/latchwork/Operation")) (by decide)
  have F_called_b11 : Fld Z h11 b11 "com/example/latchwork/latchwork/RecordedForm$Call" "called" "I" (.int (0 : Int32)) := D11 (Or.inr (hw _ (List.mem_of_getElem? (i := 63) rfl))) (ty := .int) (by decide)
  have F_answered_b11 : Fld Z h11 b11 "com/example/latchwork/latchwork/RecordedForm$Call" "answered" "I" (.int (0 : Int32)) := D11 (Or.inr (hw _ (List.mem_of_getElem? (i := 65) rfl))) (ty := .int) (by decide)
  have F_result_b11 : Fld Z h11 b11 "com/example/latchwork/latchwork/RecordedForm$Call" "result" "Ljava/lang/Object;" .null := D11 (Or.inr (hw _ (List.mem_of_getElem? (i := 67) rfl))) (ty := (.object "java/lang/Object")) (by decide)
  obtain ⟨_, _, ⟨T12, L12, k12, n12⟩, -, X12, ⟨Lc12, hQ12, l12, y12, z12⟩, st12⟩ := X11.specialBack hx (y := y8) rfl hown9 (mvT hZ9 (hw _ (List.mem_of_getElem? (i := 56) rfl))) (mvT hZ9 (hw _ (List.mem_of_getElem? (i := 57) rfl))) (mvT hZ9 (hw _ (List.mem_of_getElem? (i := 58) rfl))) (by decide) (backOf (W := 1) (rm18 l Z a0 hw [] w_lcache cs_v cl_lcache hp b11 b4 p0 p1 b10_0 h11 n0 O11 A11 F_operation_b11 F_called_b11 F_answered_b11 F_result_b11 g_b11) hZ9 (hw _ (List.mem_of_getElem? (i := 58) rfl)) (hw _ (List.mem_of_getElem? (i := 55) rfl)) (by decide) (by decide)) (g := (mkF m 61 #[.val (.int p0), .val (.int p1), .val (.int p2), .val (.long p3), .second, .val (.ref b1), .val (.ref b4), .val (.ref b10_0), .unset, .unset, .unset] [(.ref b10_0), (.int p1), (.int p0), (.ref b4), (.ref b11), (.ref b11)])) rfl (by rw [hml]; rfl) (Steps.refl _) (a := b11) (argsL := [(.ref b4), (.int p0), (.int p1), (.ref b10_0)]) (rest := [(.ref b11)]) (lenOf pd_8 rfl) rfl (by show 2 * 0 + _ ≤ _; exact Nat.le_of_eq rfl) (hb hby at_61) (fun _ _ => ⟨rfl, e11, (by decide : 8 + 0 ≤ _), (by decide : 49 + 0 ≤ _)⟩)
  dsimp only [Pt.U, Pt.locs, Pt.cells, Pt.slots] at X12 l12 y12 z12 st12 hQ12
  subst l12 y12 z12
  obtain ⟨rfl, Nq12, Kq12, fq12_0, fq12_1, fq12_2, fq12_3, fq12_4⟩ := hQ12
  have N12 := Fr.app N10 Nq12
  have CH12 := CH11.trans (CHr.keep Kq12 (allS own_safe0 all0) CH11.1)
  have hk12 := Nat.le_trans hk11 Kq12.1
  have O12 := O11.keep Kq12 (allS g_b11 all0)
  have K12 : Keep h0 T12.heap [] := K11.trans Kq12 (allS (Or.inr sz_b11) all0)
  obtain ⟨T13, h13, X13, e13, E13, A13, D13, -, st13⟩ := newO X12 hx hZ9 hown9 (hw _ (List.mem_of_getElem? (i := 53) rfl)) (hw _ (List.mem_of_getElem? (i := 54) rfl)) (hw _ (List.mem_of_getElem? (i := 55) rfl)) rfl (g := (mkF m 79 #[.val (.int p0), .val (.int p1), .val (.int p2), .val (.long p3), .second, .val (.ref b1), .val (.ref b4), .val (.ref b10_0), .val (.ref b11), .val (.int (0 : Int32)), .unset] [])) rfl (hb hby at_79) (by decide) (by decide)
  obtain ⟨b13, g13⟩ : ∃ z, z = T12.heap.size := ⟨_, rfl⟩
  rw [← g13] at A13 D13 st13
  have g_b13 : n0 ≤ b13 := Nat.le_trans (own_sz O12) (Nat.le_of_eq g13.symm)
  have sz_b13 : h0.size ≤ b13 := Nat.le_trans K12.1 (Nat.le_of_eq g13.symm)
  have O13 := O12.ext E13
  have K13 : Keep h0 h13 [] := K12.ext E13
  have CH13 := CH12.trans (CHr.ext E13 CH12.1)
  have hk13 := Nat.le_trans hk12 E13.1
  have F_operation_b13 : Fld Z h13 b13 "com/example/latchwork/latchwork/RecordedForm$Call" "operation" "Lcom/example/latchwork/latchwork/Operation;" .null := D13 (Or.inr (hw _ (List.mem_of_getElem? (i := 61) rfl))) (ty := (.object "com/example/latchwork/latchwork/Operation")) (by decide)
  have F_called_b13 : Fld Z h13 b13 "com/example/latchwork/latchwork/RecordedForm$Call" "called" "I" (.int (0 : Int32)) := D13 (Or.inr (hw _ (List.mem_of_getElem? (i := 63) rfl))) (ty := .int) (by decide)
  have F_answered_b13 : Fld Z h13 b13 "com/example/latchwork/latchwork/RecordedForm$Call" "answered" "I" (.int (0 : Int32)) := D13 (Or.inr (hw _ (List.mem_of_getElem? (i := 65) rfl))) (ty := .int) (by decide)
  have F_result_b13 : Fld Z h13 b13 "com/example/latchwork/latchwork/RecordedForm$Call" "result" "Ljava/lang/Object;" .null := D13 (Or.inr (hw _ (List.mem_of_getElem? (i := 67) rfl))) (ty := (.object "java/lang/Object")) (by decide)
  obtain ⟨_, _, ⟨T14, L14, k14, n14⟩, -, X14, ⟨Lc14, hQ14, l14, y14, z14⟩, st14⟩ := X13.specialBack hx (y := y9) rfl hown9 (mvT hZ9 (hw _ (List.mem_of_getElem? (i := 69) rfl))) (mvT hZ9 (hw _ (List.mem_of_getElem? (i := 70) rfl))) (mvT hZ9 (hw _ (List.mem_of_getElem? (i := 71) rfl))) (by decide) (backOf (W := 1) (rm11 l Z a0 hw [] w_lcache cs_v cl_lcache hp b13 b4 p0 h13 n0 O13 A13 F_operation_b13 F_called_b13 F_answered_b13 F_result_b13 g_b13) hZ9 (hw _ (List.mem_of_getElem? (i := 71) rfl)) (hw _ (List.mem_of_getElem? (i := 55) rfl)) (by decide) (by decide)) (g := (mkF m 86 #[.val (.int p0), .val (.int p1), .val (.int p2), .val (.long p3), .second, .val (.ref b1), .val (.ref b4), .val (.ref b10_0), .val (.ref b11), .val (.int (0 : Int32)), .unset] [(.int p0), (.ref b4), (.ref b13), (.ref b13)])) rfl (by rw [hml]; rfl) (Steps.refl _) (a := b13) (argsL := [(.ref b4), (.int p0)]) (rest := [(.ref b13)]) (lenOf pd_9 rfl) rfl (by show 2 * 0 + _ ≤ _; exact Nat.le_of_eq rfl) (hb hby at_86) (fun _ _ => ⟨rfl, e13, (by decide : 9 + 0 ≤ _), (by decide : 53 + 0 ≤ _)⟩)
  dsimp only [Pt.U, Pt.locs, Pt.cells, Pt.slots] at X14 l14 y14 z14 st14 hQ14
  subst l14 y14 z14
  obtain ⟨rfl, Nq14, Kq14, fq14_0, fq14_1, fq14_2, fq14_3, fq14_4⟩ := hQ14
  have N14 := Fr.app N12 Nq14
  have CH14 := CH13.trans (CHr.keep Kq14 (allS own_safe0 all0) CH13.1)
  have hk14 := Nat.le_trans hk13 Kq14.1
  have O14 := O13.keep Kq14 (allS g_b13 all0)
  have K14 : Keep h0 T14.heap [] := K13.trans Kq14 (allS (Or.inr sz_b13) all0)
  have f_15 := ((fq12_1.ext E13).keep Kq14 (ninS (Nat.ne_of_lt (Nat.lt_of_lt_of_le (A11.keep Kq12).lt (Nat.le_of_eq g13.symm))) nin0))
  obtain ⟨cq16, kq16, q16a, q16b, q16c⟩ := isOf hZ9 rfl ((fq12_0.ext E13).keep Kq14)
  obtain ⟨_, _, ⟨T16, L16, k16, n16⟩, -, X16, ⟨Lc16, hQ16, l16, y16, z16⟩, st16⟩ := X14.virtualBack hx (y := y10) (z := y10) hown9 (mvT hZ9 (hw _ (List.mem_of_getElem? (i := 74) rfl))) (mvT hZ9 (hw _ (List.mem_of_getElem? (i := 75) rfl))) (notFace_of_selects (args := #[]) (mvT hZ9 (hw _ (List.mem_of_getElem? (i := 77) rfl)))) (mvT hZ9 (hw _ (List.mem_of_getElem? (i := 77) rfl))) (mvT hZ9 (hw _ (List.mem_of_getElem? (i := 76) rfl))) (by decide) (backOf (W := 0) (rm24 l Z a0 hw [] w_lcache cs_v cl_lcache hp b11 p1 T14.heap n0 O14 f_15 (own_mx2 hc4)) hZ9 (hw _ (List.mem_of_getElem? (i := 78) rfl)) (hw _ (List.mem_of_getElem? (i := 55) rfl)) (by decide) (by decide)) q16a q16c (g := (mkF m 93 #[.val (.int p0), .val (.int p1), .val (.int p2), .val (.long p3), .second, .val (.ref b1), .val (.ref b4), .val (.ref b10_0), .val (.ref b11), .val (.int (0 : Int32)), .val (.ref b13)] [(.ref b11)])) rfl (by rw [hml]; rfl) (Steps.refl _) (argsL := []) (rest := []) (lenOf pd_10 rfl) rfl (by show 2 * 0 + _ ≤ _; exact Nat.le_of_eq rfl) (hb hby at_93) (fun _ _ => ⟨rfl, rfl, (by decide : 9 + 0 ≤ _), (by decide : 53 + 0 ≤ _)⟩)
  dsimp only [Pt.U, Pt.locs, Pt.cells, Pt.slots] at X16 l16 y16 z16 st16 hQ16
  subst l16 y16 z16
  obtain ⟨rfl, Nq16, eq16⟩ := hQ16
  have N16 := Fr.app N14 Nq16
  obtain ⟨cq17, kq17, q17a, q17b, q17c⟩ := isOf hZ9 eq16 fq14_0
  obtain ⟨_, _, ⟨T17, L17, k17, n17⟩, -, X17, ⟨Lc17, hQ17, l17, y17, z17⟩, st17⟩ := X16.virtualBack hx (y := y10) (z := y10) hown9 (mvT hZ9 (hw _ (List.mem_of_getElem? (i := 74) rfl))) (mvT hZ9 (hw _ (List.mem_of_getElem? (i := 75) rfl))) (notFace_of_selects (args := #[]) (mvT hZ9 (hw _ (List.mem_of_getElem? (i := 77) rfl)))) (mvT hZ9 (hw _ (List.mem_of_getElem? (i := 77) rfl))) (mvT hZ9 (hw _ (List.mem_of_getElem? (i := 76) rfl))) (by decide) (backOf (W := 0) (rm13 l Z a0 hw [] w_lcache cs_v cl_lcache hp b13 T14.heap n0 O14 fq14_1) hZ9 (hw _ (List.mem_of_getElem? (i := 78) rfl)) (hw _ (List.mem_of_getElem? (i := 55) rfl)) (by decide) (by decide)) q17a q17c (g := (mkF m 103 #[.val (.int p0), .val (.int p1), .val (.int p2), .val (.long p3), .second, .val (.ref b1), .val (.ref b4), .val (.ref b10_0), .val (.ref b11), .val (.int (0 : Int32)), .val (.ref b13)] [(.ref b13)])) rfl (by rw [hml]; rfl) (Steps.refl _) (argsL := []) (rest := []) (lenOf pd_10 rfl) rfl (by show 2 * 0 + _ ≤ _; exact Nat.le_of_eq rfl) (hb hby at_103) (fun _ _ => ⟨rfl, eq16, (by decide : 9 + 0 ≤ _), (by decide : 53 + 0 ≤ _)⟩)
  dsimp only [Pt.U, Pt.locs, Pt.cells, Pt.slots] at X17 l17 y17 z17 st17 hQ17
  subst l17 y17 z17
  obtain ⟨rfl, Nq17, eq17⟩ := hQ17
  have N17 := Fr.app N16 Nq17
  obtain ⟨fs, hr, hrun, hended, hE⟩ := Stand.leaveW (s := s) X17 hS9 (by rw [eq17]; exact hk14) (v := some (.int (1 : Int32))) (fun h => by rw [Bd.returns] at h; cases h)
  refine ⟨_, _, pre0 _ ?_, hrun, hended, _, _, rfl, ?_, hE.1, hE.2.1, hE.2.2.1, hE.2.2.2.mono (by decide) (by decide)⟩
  · show Sp p e below s₁ (mkF m 0 #[.val (.int p0), .val (.int p1), .val (.int p2), .val (.long p3), .second, .unset, .unset, .unset, .unset, .unset, .unset] []) _
    refine XS.iconst X0.here hx rfl (hb hby at_0) ?_
    show Sp p e below s₁ (mkF m 1 #[.val (.int p0), .val (.int p1), .val (.int p2), .val (.long p3), .second, .unset, .unset, .unset, .unset, .unset, .unset] [(.int (1 : Int32))]) _
    refine st1 _ ?_
    show Sp p e below T1 (mkF m 3 #[.val (.int p0), .val (.int p1), .val (.int p2), .val (.long p3), .second, .unset, .unset, .unset, .unset, .unset, .unset] [(.ref b1)]) _
    refine XS.astore X1.here hx rfl (hb hby at_3) rfl rfl (l' := #[.val (.int p0), .val (.int p1), .val (.int p2), .val (.long p3), .second, .val (.ref b1), .unset, .unset, .unset, .unset, .unset]) rfl ?_
    show Sp p e below T1 (mkF m 5 #[.val (.int p0), .val (.int p1), .val (.int p2), .val (.long p3), .second, .val (.ref b1), .unset, .unset, .unset, .unset, .unset] []) _
    refine XS.aload X1.here hx rfl (hb hby at_5) rfl rfl ?_
    show Sp p e below T1 (mkF m 7 #[.val (.int p0), .val (.int p1), .val (.int p2), .val (.long p3), .second, .val (.ref b1), .unset, .unset, .unset, .unset, .unset] [(.ref b1)]) _
    refine XS.iconst X1.here hx rfl (hb hby at_7) ?_
    show Sp p e below T1 (mkF m 8 #[.val (.int p0), .val (.int p1), .val (.int p2), .val (.long p3), .second, .val (.ref b1), .unset, .unset, .unset, .unset, .unset] [(.int (0 : Int32)), (.ref b1)]) _
    refine XS.iloadN X1.here hx rfl (hb hby at_8) rfl ?_
    show Sp p e below T1 (mkF m 9 #[.val (.int p0), .val (.int p1), .val (.int p2), .val (.long p3), .second, .val (.ref b1), .unset, .unset, .unset, .unset, .unset] [(.int p2), (.int (0 : Int32)), (.ref b1)]) _
    refine XS.sipush X1.here hx rfl (hb hby at_9) ?_
    show Sp p e below T1 (mkF m 12 #[.val (.int p0), .val (.int p1), .val (.int p2), .val (.long p3), .second, .val (.ref b1), .unset, .unset, .unset, .unset, .unset] [(.int (255 : Int32)), (.int p2), (.int (0 : Int32)), (.ref b1)]) _
    refine XS.iand X1.here hx rfl (hb hby at_12) rfl ?_
    show Sp p e below T1 (mkF m 13 #[.val (.int p0), .val (.int p1), .val (.int p2), .val (.long p3), .second, .val (.ref b1), .unset, .unset, .unset, .unset, .unset] [(.int (p2 &&& (255 : Int32))), (.int (0 : Int32)), (.ref b1)]) _
    refine XS.i2c X1.here hx rfl (hb hby at_13) rfl ?_
    show Sp p e below T1 (mkF m 14 #[.val (.int p0), .val (.int p1), .val (.int p2), .val (.long p3), .second, .val (.ref b1), .unset, .unset, .unset, .unset, .unset] [(.int ((p2 &&& (255 : Int32)).toUInt32.toUInt16.toUInt32.toInt32)), (.int (0 : Int32)), (.ref b1)]) _
    refine st3 _ ?_
    show Sp p e below T3 (mkF m 15 #[.val (.int p0), .val (.int p1), .val (.int p2), .val (.long p3), .second, .val (.ref b1), .unset, .unset, .unset, .unset, .unset] []) _
    refine st4 _ ?_
    show Sp p e below T4 (mkF m 18 #[.val (.int p0), .val (.int p1), .val (.int p2), .val (.long p3), .second, .val (.ref b1), .unset, .unset, .unset, .unset, .unset] [(.ref b4)]) _
    refine XS.dup X4.here hx rfl (hb hby at_18) rfl rfl ?_
    show Sp p e below T4 (mkF m 19 #[.val (.int p0), .val (.int p1), .val (.int p2), .val (.long p3), .second, .val (.ref b1), .unset, .unset, .unset, .unset, .unset] [(.ref b4), (.ref b4)]) _
    refine st5 _ ?_
    show Sp p e below T5 (mkF m 22 #[.val (.int p0), .val (.int p1), .val (.int p2), .val (.long p3), .second, .val (.ref b1), .unset, .unset, .unset, .unset, .unset] [(.ref b5), (.ref b4), (.ref b4)]) _
    refine XS.dup X5.here hx rfl (hb hby at_22) rfl rfl ?_
    show Sp p e below T5 (mkF m 23 #[.val (.int p0), .val (.int p1), .val (.int p2), .val (.long p3), .second, .val (.ref b1), .unset, .unset, .unset, .unset, .unset] [(.ref b5), (.ref b5), (.ref b4), (.ref b4)]) _
    refine XS.aload X5.here hx rfl (hb hby at_23) rfl rfl ?_
    show Sp p e below T5 (mkF m 25 #[.val (.int p0), .val (.int p1), .val (.int p2), .val (.long p3), .second, .val (.ref b1), .unset, .unset, .unset, .unset, .unset] [(.ref b1), (.ref b5), (.ref b5), (.ref b4), (.ref b4)]) _
    refine st6.trans ?_
    show Sp p e below T6 (mkF m 28 #[.val (.int p0), .val (.int p1), .val (.int p2), .val (.long p3), .second, .val (.ref b1), .unset, .unset, .unset, .unset, .unset] [(.ref b5), (.ref b4), (.ref b4)]) _
    refine XS.aconstNull X6.here hx rfl (hb hby at_28) ?_
    show Sp p e below T6 (mkF m 29 #[.val (.int p0), .val (.int p1), .val (.int p2), .val (.long p3), .second, .val (.ref b1), .unset, .unset, .unset, .unset, .unset] [.null, (.ref b5), (.ref b4), (.ref b4)]) _
    refine st9.trans ?_
    show Sp p e below T9 (mkF m 32 #[.val (.int p0), .val (.int p1), .val (.int p2), .val (.long p3), .second, .val (.ref b1), .unset, .unset, .unset, .unset, .unset] [(.ref b4)]) _
    refine XS.astore X9.here hx rfl (hb hby at_32) rfl rfl (l' := #[.val (.int p0), .val (.int p1), .val (.int p2), .val (.long p3), .second, .val (.ref b1), .val (.ref b4), .unset, .unset, .unset, .unset]) rfl ?_
    show Sp p e below T9 (mkF m 34 #[.val (.int p0), .val (.int p1), .val (.int p2), .val (.long p3), .second, .val (.ref b1), .val (.ref b4), .unset, .unset, .unset, .unset] []) _
    refine XS.aconstNull X9.here hx rfl (hb hby at_34) ?_
    show Sp p e below T9 (mkF m 35 #[.val (.int p0), .val (.int p1), .val (.int p2), .val (.long p3), .second, .val (.ref b1), .val (.ref b4), .unset, .unset, .unset, .unset] [.null]) _
    refine XS.astore X9.here hx rfl (hb hby at_35) rfl rfl (l' := #[.val (.int p0), .val (.int p1), .val (.int p2), .val (.long p3), .second, .val (.ref b1), .val (.ref b4), .val .null, .unset, .unset, .unset]) rfl ?_
    show Sp p e below T9 (mkF m 37 #[.val (.int p0), .val (.int p1), .val (.int p2), .val (.long p3), .second, .val (.ref b1), .val (.ref b4), .val .null, .unset, .unset, .unset] []) _
    refine XS.iloadN X9.here hx rfl (hb hby at_37) rfl ?_
    show Sp p e below T9 (mkF m 38 #[.val (.int p0), .val (.int p1), .val (.int p2), .val (.long p3), .second, .val (.ref b1), .val (.ref b4), .val .null, .unset, .unset, .unset] [(.int p2)]) _
    refine XS.sipush X9.here hx rfl (hb hby at_38) ?_
    show Sp p e below T9 (mkF m 41 #[.val (.int p0), .val (.int p1), .val (.int p2), .val (.long p3), .second, .val (.ref b1), .val (.ref b4), .val .null, .unset, .unset, .unset] [(.int (256 : Int32)), (.int p2)]) _
    refine XS.iand X9.here hx rfl (hb hby at_41) rfl ?_
    show Sp p e below T9 (mkF m 42 #[.val (.int p0), .val (.int p1), .val (.int p2), .val (.long p3), .second, .val (.ref b1), .val (.ref b4), .val .null, .unset, .unset, .unset] [(.int (p2 &&& (256 : Int32)))]) _
    refine XS.ifNo X9.here hx rfl (hb hby at_42) rfl ((if0 _ _).trans (feq hc1).1) ?_
    show Sp p e below T9 (mkF m 45 #[.val (.int p0), .val (.int p1), .val (.int p2), .val (.long p3), .second, .val (.ref b1), .val (.ref b4), .val .null, .unset, .unset, .unset] []) _
    refine XS.lloadN X9.here hx rfl (hb hby at_45) rfl ?_
    show Sp p e below T9 (mkF m 46 #[.val (.int p0), .val (.int p1), .val (.int p2), .val (.long p3), .second, .val (.ref b1), .val (.ref b4), .val .null, .unset, .unset, .unset] [(.long p3)]) _
    refine st10 _ ?_
    show Sp p e below T10 (mkF m 49 #[.val (.int p0), .val (.int p1), .val (.int p2), .val (.long p3), .second, .val (.ref b1), .val (.ref b4), .val .null, .unset, .unset, .unset] [(.ref b10_0)]) _
    refine XS.astore X10.here hx rfl (hb hby at_49) rfl rfl (l' := #[.val (.int p0), .val (.int p1), .val (.int p2), .val (.long p3), .second, .val (.ref b1), .val (.ref b4), .val (.ref b10_0), .unset, .unset, .unset]) rfl ?_
    show Sp p e below T10 (mkF m 51 #[.val (.int p0), .val (.int p1), .val (.int p2), .val (.long p3), .second, .val (.ref b1), .val (.ref b4), .val (.ref b10_0), .unset, .unset, .unset] []) _
    refine st11 _ ?_
    show Sp p e below T11 (mkF m 54 #[.val (.int p0), .val (.int p1), .val (.int p2), .val (.long p3), .second, .val (.ref b1), .val (.ref b4), .val (.ref b10_0), .unset, .unset, .unset] [(.ref b11)]) _
    refine XS.dup X11.here hx rfl (hb hby at_54) rfl rfl ?_
    show Sp p e below T11 (mkF m 55 #[.val (.int p0), .val (.int p1), .val (.int p2), .val (.long p3), .second, .val (.ref b1), .val (.ref b4), .val (.ref b10_0), .unset, .unset, .unset] [(.ref b11), (.ref b11)]) _
    refine XS.aload X11.here hx rfl (hb hby at_55) rfl rfl ?_
    show Sp p e below T11 (mkF m 57 #[.val (.int p0), .val (.int p1), .val (.int p2), .val (.long p3), .second, .val (.ref b1), .val (.ref b4), .val (.ref b10_0), .unset, .unset, .unset] [(.ref b4), (.ref b11), (.ref b11)]) _
    refine XS.iloadN X11.here hx rfl (hb hby at_57) rfl ?_
    show Sp p e below T11 (mkF m 58 #[.val (.int p0), .val (.int p1), .val (.int p2), .val (.long p3), .second, .val (.ref b1), .val (.ref b4), .val (.ref b10_0), .unset, .unset, .unset] [(.int p0), (.ref b4), (.ref b11), (.ref b11)]) _
    refine XS.iloadN X11.here hx rfl (hb hby at_58) rfl ?_
    show Sp p e below T11 (mkF m 59 #[.val (.int p0), .val (.int p1), .val (.int p2), .val (.long p3), .second, .val (.ref b1), .val (.ref b4), .val (.ref b10_0), .unset, .unset, .unset] [(.int p1), (.int p0), (.ref b4), (.ref b11), (.ref b11)]) _
    refine XS.aload X11.here hx rfl (hb hby at_59) rfl rfl ?_
    show Sp p e below T11 (mkF m 61 #[.val (.int p0), .val (.int p1), .val (.int p2), .val (.long p3), .second, .val (.ref b1), .val (.ref b4), .val (.ref b10_0), .unset, .unset, .unset] [(.ref b10_0), (.int p1), (.int p0), (.ref b4), (.ref b11), (.ref b11)]) _
    refine st12.trans ?_
    show Sp p e below T12 (mkF m 64 #[.val (.int p0), .val (.int p1), .val (.int p2), .val (.long p3), .second, .val (.ref b1), .val (.ref b4), .val (.ref b10_0), .unset, .unset, .unset] [(.ref b11)]) _
    refine XS.astore X12.here hx rfl (hb hby at_64) rfl rfl (l' := #[.val (.int p0), .val (.int p1), .val (.int p2), .val (.long p3), .second, .val (.ref b1), .val (.ref b4), .val (.ref b10_0), .val (.ref b11), .unset, .unset]) rfl ?_
    show Sp p e below T12 (mkF m 66 #[.val (.int p0), .val (.int p1), .val (.int p2), .val (.long p3), .second, .val (.ref b1), .val (.ref b4), .val (.ref b10_0), .val (.ref b11), .unset, .unset] []) _
    refine XS.iloadN X12.here hx rfl (hb hby at_66) rfl ?_
    show Sp p e below T12 (mkF m 67 #[.val (.int p0), .val (.int p1), .val (.int p2), .val (.long p3), .second, .val (.ref b1), .val (.ref b4), .val (.ref b10_0), .val (.ref b11), .unset, .unset] [(.int p1)]) _
    refine X12.ldcI hx hown9 (mvT hZ9 (hw _ (List.mem_of_getElem? (i := 68) rfl))) rfl (hb hby at_67) ?_
    show Sp p e below T12 (mkF m 69 #[.val (.int p0), .val (.int p1), .val (.int p2), .val (.long p3), .second, .val (.ref b1), .val (.ref b4), .val (.ref b10_0), .val (.ref b11), .unset, .unset] [(.int (2147483647 : Int32)), (.int p1)]) _
    refine XS.icmpYes X12.here hx rfl (pc0 := 69) (pc' := 76) rfl (hb hby at_69) rfl (flt hc4).2.1 (by decide) (by decide) ?_
    show Sp p e below T12 (mkF m 76 #[.val (.int p0), .val (.int p1), .val (.int p2), .val (.long p3), .second, .val (.ref b1), .val (.ref b4), .val (.ref b10_0), .val (.ref b11), .unset, .unset] []) _
    refine XS.iconst X12.here hx rfl (hb hby at_76) ?_
    show Sp p e below T12 (mkF m 77 #[.val (.int p0), .val (.int p1), .val (.int p2), .val (.long p3), .second, .val (.ref b1), .val (.ref b4), .val (.ref b10_0), .val (.ref b11), .unset, .unset] [(.int (0 : Int32))]) _
    refine XS.istore X12.here hx rfl (hb hby at_77) rfl (l' := #[.val (.int p0), .val (.int p1), .val (.int p2), .val (.long p3), .second, .val (.ref b1), .val (.ref b4), .val (.ref b10_0), .val (.ref b11), .val (.int (0 : Int32)), .unset]) rfl ?_
    show Sp p e below T12 (mkF m 79 #[.val (.int p0), .val (.int p1), .val (.int p2), .val (.long p3), .second, .val (.ref b1), .val (.ref b4), .val (.ref b10_0), .val (.ref b11), .val (.int (0 : Int32)), .unset] []) _
    refine st13 _ ?_
    show Sp p e below T13 (mkF m 82 #[.val (.int p0), .val (.int p1), .val (.int p2), .val (.long p3), .second, .val (.ref b1), .val (.ref b4), .val (.ref b10_0), .val (.ref b11), .val (.int (0 : Int32)), .unset] [(.ref b13)]) _
    refine XS.dup X13.here hx rfl (hb hby at_82) rfl rfl ?_
    show Sp p e below T13 (mkF m 83 #[.val (.int p0), .val (.int p1), .val (.int p2), .val (.long p3), .second, .val (.ref b1), .val (.ref b4), .val (.ref b10_0), .val (.ref b11), .val (.int (0 : Int32)), .unset] [(.ref b13), (.ref b13)]) _
    refine XS.aload X13.here hx rfl (hb hby at_83) rfl rfl ?_
    show Sp p e below T13 (mkF m 85 #[.val (.int p0), .val (.int p1), .val (.int p2), .val (.long p3), .second, .val (.ref b1), .val (.ref b4), .val (.ref b10_0), .val (.ref b11), .val (.int (0 : Int32)), .unset] [(.ref b4), (.ref b13), (.ref b13)]) _
    refine XS.iloadN X13.here hx rfl (hb hby at_85) rfl ?_
    show Sp p e below T13 (mkF m 86 #[.val (.int p0), .val (.int p1), .val (.int p2), .val (.long p3), .second, .val (.ref b1), .val (.ref b4), .val (.ref b10_0), .val (.ref b11), .val (.int (0 : Int32)), .unset] [(.int p0), (.ref b4), (.ref b13), (.ref b13)]) _
    refine st14.trans ?_
    show Sp p e below T14 (mkF m 89 #[.val (.int p0), .val (.int p1), .val (.int p2), .val (.long p3), .second, .val (.ref b1), .val (.ref b4), .val (.ref b10_0), .val (.ref b11), .val (.int (0 : Int32)), .unset] [(.ref b13)]) _
    refine XS.astore X14.here hx rfl (hb hby at_89) rfl rfl (l' := #[.val (.int p0), .val (.int p1), .val (.int p2), .val (.long p3), .second, .val (.ref b1), .val (.ref b4), .val (.ref b10_0), .val (.ref b11), .val (.int (0 : Int32)), .val (.ref b13)]) rfl ?_
    show Sp p e below T14 (mkF m 91 #[.val (.int p0), .val (.int p1), .val (.int p2), .val (.long p3), .second, .val (.ref b1), .val (.ref b4), .val (.ref b10_0), .val (.ref b11), .val (.int (0 : Int32)), .val (.ref b13)] []) _
    refine XS.aload X14.here hx rfl (hb hby at_91) rfl rfl ?_
    show Sp p e below T14 (mkF m 93 #[.val (.int p0), .val (.int p1), .val (.int p2), .val (.long p3), .second, .val (.ref b1), .val (.ref b4), .val (.ref b10_0), .val (.ref b11), .val (.int (0 : Int32)), .val (.ref b13)] [(.ref b11)]) _
    refine st16.trans ?_
    show Sp p e below T16 (mkF m 96 #[.val (.int p0), .val (.int p1), .val (.int p2), .val (.long p3), .second, .val (.ref b1), .val (.ref b4), .val (.ref b10_0), .val (.ref b11), .val (.int (0 : Int32)), .val (.ref b13)] [(.int (0 : Int32))]) _
    refine XS.iload X16.here hx rfl (hb hby at_96) rfl ?_
    show Sp p e below T16 (mkF m 98 #[.val (.int p0), .val (.int p1), .val (.int p2), .val (.long p3), .second, .val (.ref b1), .val (.ref b4), .val (.ref b10_0), .val (.ref b11), .val (.int (0 : Int32)), .val (.ref b13)] [(.int (0 : Int32)), (.int (0 : Int32))]) _
    refine XS.icmpNo X16.here hx rfl (hb hby at_98) rfl (teq (by decide : (0 : Int32) = (0 : Int32))).2 ?_
    show Sp p e below T16 (mkF m 101 #[.val (.int p0), .val (.int p1), .val (.int p2), .val (.long p3), .second, .val (.ref b1), .val (.ref b4), .val (.ref b10_0), .val (.ref b11), .val (.int (0 : Int32)), .val (.ref b13)] []) _
    refine XS.aload X16.here hx rfl (hb hby at_101) rfl rfl ?_
    show Sp p e below T16 (mkF m 103 #[.val (.int p0), .val (.int p1), .val (.int p2), .val (.long p3), .second, .val (.ref b1), .val (.ref b4), .val (.ref b10_0), .val (.ref b11), .val (.int (0 : Int32)), .val (.ref b13)] [(.ref b13)]) _
    refine st17.trans ?_
    show Sp p e below T17 (mkF m 106 #[.val (.int p0), .val (.int p1), .val (.int p2), .val (.long p3), .second, .val (.ref b1), .val (.ref b4), .val (.ref b10_0), .val (.ref b11), .val (.int (0 : Int32)), .val (.ref b13)] [(.int (0 : Int32))]) _
    refine XS.ifNo X17.here hx rfl (hb hby at_106) rfl ((if0 _ _).trans (teq (by decide : (0 : Int32) = (0 : Int32))).2) ?_
    show Sp p e below T17 (mkF m 109 #[.val (.int p0), .val (.int p1), .val (.int p2), .val (.long p3), .second, .val (.ref b1), .val (.ref b4), .val (.ref b10_0), .val (.ref b11), .val (.int (0 : Int32)), .val (.ref b13)] []) _
    refine XS.iconst X17.here hx rfl (hb hby at_109) ?_
    show Sp p e below T17 (mkF m 110 #[.val (.int p0), .val (.int p1), .val (.int p2), .val (.long p3), .second, .val (.ref b1), .val (.ref b4), .val (.ref b10_0), .val (.ref b11), .val (.int (0 : Int32)), .val (.ref b13)] [(.int (1 : Int32))]) _
    refine XS.goto X17.here hx rfl (pc0 := 110) (pc' := 114) rfl (hb hby at_110) (by decide) (by decide) ?_
    show Sp p e below T17 (mkF m 114 #[.val (.int p0), .val (.int p1), .val (.int p2), .val (.long p3), .second, .val (.ref b1), .val (.ref b4), .val (.ref b10_0), .val (.ref b11), .val (.int (0 : Int32)), .val (.ref b13)] [(.int (1 : Int32))]) _
    exact retN X17 hx (t := .boolean) Bd.returns (by simp) (hb hby at_114) hr
  · skip
    exact ⟨rfl, N17⟩
set_option maxRecDepth 65536 in
set_option maxHeartbeats 40000000 in
theorem rm27 (l : Launch) (Z : State) (a0 : Array Value) (hw : ∀ d ∈ tables_1, d.before a0 Z = true) (ws : List Jvm.Cond) (w_lcache : Addr) (cs_v : Int32) (cl_lcache : Cell) (hp : Perm Z w_lcache cs_v cl_lcache) (p0 : Int32) (p1 : Int32) (p2 : Int32) (p3 : Int64) (h0 : Heap) (n0 : Nat) (O0 : Old Z n0 h0) (hc1 : ¬ ((p2 &&& (256 : Int32)) = (0 : Int32))) (hc2 : (lcmpW p3 (-128 : Int64)) < (0 : Int32)) (hc3 : ¬ (p1 < (2147483647 : Int32))) :
    MetFree l x (head1 (Jvm.Cond.code x code maxLocals ret :: ws) room_1) (fun a U => a = #[(.int p0), (.int p1), (.int p2), (.long p3)] ∧ Z.Warmed39 U.vm ∧ U.heap = h0 ∧ CHv Z own_EL U.vm h0) (fun _ _ _ _ _ => True) (fun _ U o U' => ∃ v L, o = .returned v ∧ (v = some (.int (1 : Int32)) ∧ Fr n0 L) ∧ ReturnedEndW U o U' L 24 1152) := by
  refine MetFree.of_bodySF (plainFor_of_name pn_0) hisR ?_
  intro p e s m args below meth c s₁ Bd hml0 hP hK
  obtain ⟨rfl, hZo, hh, hCH⟩ := hP
  have hx := Bd.exec
  have hby := Bd.bytes
  have hml : c.maxLocals = 11 := hml0
  have hown : (s.setVm s.vm).vm.findClass "com/example/latchwork/latchwork/CallIsAnsweredPinLaw" = some m.cls := findClass_of_methodNamed Bd.named
  have hnm := (name_of_methodNamed Bd.named Bd.method).1
  have X0 : Stand p l e room_1 (s.setVm s.vm) m #[(.int p0), (.int p1), (.int p2), (.long p3)] below meth c s₁ [] 0 0 := Stand.of_body Bd
  have e0 : s₁.heap = h0 := by rw [← hh, Bd.state]; rfl
  have N0 := Fr.nil n0
  have hZ : Z.Warmed39 (s.setVm s.vm).vm := hZo
  have CH0 := CHr.refl hCH
  have hS0 : s.Since s.vm 0 := (State.WarmedH.refl s).since 0
  have hk0 : 0 ≤ h0.size := Nat.zero_le _
  have hp' := hp
  obtain ⟨S_COMPACT_STRINGS, h_cs, S_w_lcache, B_lcache⟩ := hp'
  have pre0 : ∀ t, Steps p.tables e below (s₁.setTop (mkF m 0 #[.val (.int p0), .val (.int p1), .val (.int p2), .val (.long p3), .second, .unset, .unset, .unset, .unset, .unset, .unset] [])) t → Steps p.tables e below (s₁.setTop (entryFrame m #[(.int p0), (.int p1), (.int p2), (.long p3)] maxLocals)) t := fun t k => castTop (ef_0_0 m p0 p1 p2 p3) k
  obtain ⟨T1, h1, k1, X1, e1, E1, A1, EA1, st1⟩ := newPE X0 hx hZ (hw _ (List.mem_of_getElem? (i := 0) rfl)) e0 (g := (mkF m 1 #[.val (.int p0), .val (.int p1), .val (.int p2), .val (.long p3), .second, .unset, .unset, .unset, .unset, .unset, .unset] [(.int (1 : Int32))])) rfl (hb hby at_1) rfl (by decide) (cap := 1) (by decide) (by decide) (by decide) (by decide) (ad := "[C") (by decide)
  obtain ⟨b1, g1⟩ : ∃ z, z = h0.size := ⟨_, rfl⟩
  rw [← g1] at A1 EA1 st1
  have g_b1 : n0 ≤ b1 := Nat.le_trans (own_sz O0) (Nat.le_of_eq g1.symm)
  have sz_b1 : h0.size ≤ b1 := Nat.le_trans (Keep.refl h0 []).1 (Nat.le_of_eq g1.symm)
  have O1 := O0.ext E1
  have K1 : Keep h0 h1 [] := (Keep.refl h0 []).ext E1
  have CH1 := CH0.trans (CHr.ext E1 CH0.1)
  have hk1 := Nat.le_trans hk0 E1.1
  have V_b1 : Arv Z h1 b1 k1 .char (1 : Int32) [(.int (0 : Int32))] (.int (0 : Int32)) := (Arv.new A1 (by decide)).pad (pad_rep [] (.int (0 : Int32)) 1)
  obtain ⟨cl2, Ar2, q2, S2, Nn2, H2, G2⟩ := id V_b1
  have hin2 : ¬ ((0 : Int32) < 0 ∨ cl2.slots.size ≤ ((0 : Int32)).toNatClampNeg) := inb_of S2 ⟨by decide, by decide⟩
  obtain ⟨T3, h3, X3, e3, W3, st3⟩ := stC X1 hx hZ e1 Ar2 (j := (0 : Int32)) hin2 (g := (mkF m 14 #[.val (.int p0), .val (.int p1), .val (.int p2), .val (.long p3), .second, .val (.ref b1), .unset, .unset, .unset, .unset, .unset] [(.int ((p2 &&& (255 : Int32)).toUInt32.toUInt16.toUInt32.toInt32)), (.int (0 : Int32)), (.ref b1)])) rfl rfl (hb hby at_14)
  have N3 := Fr.snoc X3 N0 g_b1
  have O3 := O1.wr W3 g_b1
  have K3 : Keep h0 h3 [] := K1.wr W3 (Or.inr sz_b1)
  have CH3 := CH1.trans (CHr.wr W3 own_safe0 CH1.1)
  have hk3 := Nat.le_trans hk1 (Keep.of_wr W3).1
  have V_b1_3 : Arv Z h3 b1 k1 .char (1 : Int32) [(.int (nar .char ((p2 &&& (255 : Int32)).toUInt32.toUInt16.toUInt32.toInt32)))] (.int (0 : Int32)) := Arv.set Ar2 q2 S2 Nn2 H2 G2 (fits_nar_char _) W3 0 rfl (Nat.le_of_ble_eq_true rfl)
  obtain ⟨T4, h4, X4, e4, E4, A4, D4, -, st4⟩ := newO X3 hx hZ hown (hw _ (List.mem_of_getElem? (i := 1) rfl)) (hw _ (List.mem_of_getElem? (i := 2) rfl)) (hw _ (List.mem_of_getElem? (i := 3) rfl)) e3 (g := (mkF m 15 #[.val (.int p0), .val (.int p1), .val (.int p2), .val (.long p3), .second, .val (.ref b1), .unset, .unset, .unset, .unset, .unset] [])) rfl (hb hby at_15) (by decide) (by decide)
  obtain ⟨b4, g4⟩ : ∃ z, z = h3.size := ⟨_, rfl⟩
  rw [← g4] at A4 D4 st4
  have g_b4 : n0 ≤ b4 := Nat.le_trans (own_sz O3) (Nat.le_of_eq g4.symm)
  have sz_b4 : h0.size ≤ b4 := Nat.le_trans K3.1 (Nat.le_of_eq g4.symm)
  have O4 := O3.ext E4
  have K4 : Keep h0 h4 [] := K3.ext E4
  have CH4 := CH3.trans (CHr.ext E4 CH3.1)
  have hk4 := Nat.le_trans hk3 E4.1
  have F_function_b4 : Fld Z h4 b4 "com/example/latchwork/latchwork/Operation" "function" "Ljava/lang/String;" .null := D4 (Or.inr (hw _ (List.mem_of_getElem? (i := 50) rfl))) (ty := (.object "java/lang/String")) (by decide)
  have F_argument_b4 : Fld Z h4 b4 "com/example/latchwork/latchwork/Operation" "argument" "Ljava/lang/Object;" .null := D4 (Or.inr (hw _ (List.mem_of_getElem? (i := 52) rfl))) (ty := (.object "java/lang/Object")) (by decide)
  obtain ⟨T5, h5, X5, e5, E5, A5, D5, -, st5⟩ := newO X4 hx hZ hown (hw _ (List.mem_of_getElem? (i := 4) rfl)) (hw _ (List.mem_of_getElem? (i := 5) rfl)) (hw _ (List.mem_of_getElem? (i := 6) rfl)) e4 (g := (mkF m 19 #[.val (.int p0), .val (.int p1), .val (.int p2), .val (.long p3), .second, .val (.ref b1), .unset, .unset, .unset, .unset, .unset] [(.ref b4), (.ref b4)])) rfl (hb hby at_19) (by decide) (by decide)
  obtain ⟨b5, g5⟩ : ∃ z, z = h4.size := ⟨_, rfl⟩
  rw [← g5] at A5 D5 st5
  have g_b5 : n0 ≤ b5 := Nat.le_trans (own_sz O4) (Nat.le_of_eq g5.symm)
  have sz_b5 : h0.size ≤ b5 := Nat.le_trans K4.1 (Nat.le_of_eq g5.symm)
  have O5 := O4.ext E5
  have K5 : Keep h0 h5 [] := K4.ext E5
  have CH5 := CH4.trans (CHr.ext E5 CH4.1)
  have hk5 := Nat.le_trans hk4 E5.1
  have F_coder_b5 : Fld Z h5 b5 "java/lang/String" "coder" "B" (.int (0 : Int32)) := D5 (Or.inr (hw _ (List.mem_of_getElem? (i := 30) rfl))) (ty := .byte) (by decide)
  have F_value_b5 : Fld Z h5 b5 "java/lang/String" "value" "[B" .null := D5 (Or.inr (hw _ (List.mem_of_getElem? (i := 32) rfl))) (ty := (.array .byte)) (by decide)
  obtain ⟨_, _, ⟨T6, L6, k6, n6⟩, -, X6, ⟨Lc6, hQ6, l6, y6, z6⟩, st6⟩ := X5.specialBack hx (y := y4) rfl hown (mvT hZ (hw _ (List.mem_of_getElem? (i := 7) rfl))) (mvT hZ (hw _ (List.mem_of_getElem? (i := 8) rfl))) (mvT hZ (hw _ (List.mem_of_getElem? (i := 9) rfl))) (by decide) (backOf (W := 3) (rm5 l Z a0 hw [] w_lcache cs_v cl_lcache hp b5 b1 k1 (nar .char ((p2 &&& (255 : Int32)).toUInt32.toUInt16.toUInt32.toInt32)) h5 n0 O5 ((V_b1_3.ext E4).ext E5) (own_ch2 p2) A5 F_coder_b5 F_value_b5 g_b5) hZ (hw _ (List.mem_of_getElem? (i := 9) rfl)) (hw _ (List.mem_of_getElem? (i := 6) rfl)) (by decide) (by decide)) (g := (mkF m 25 #[.val (.int p0), .val (.int p1), .val (.int p2), .val (.long p3), .second, .val (.ref b1), .unset, .unset, .unset, .unset, .unset] [(.ref b1), (.ref b5), (.ref b5), (.ref b4), (.ref b4)])) rfl (by rw [hml]; rfl) (Steps.refl _) (a := b5) (argsL := [(.ref b1)]) (rest := [(.ref b5), (.ref b4), (.ref b4)]) (lenOf pd_4 rfl) rfl (by show 2 * 0 + _ ≤ _; exact Nat.le_of_eq rfl) (hb hby at_25) (fun _ _ => ⟨rfl, e5, (by decide : 3 + 1 ≤ _), (by decide : 7 + 1 ≤ _)⟩)
  dsimp only [Pt.U, Pt.locs, Pt.cells, Pt.slots] at X6 l6 y6 z6 st6 hQ6
  subst l6 y6 z6
  obtain ⟨b6_0, kc6_0, rfl, Nq6, Kq6, sq_b6_0, fq6_0, fq6_1, fq6_2, fq6_3, fq6_4⟩ := hQ6
  have N6 := Fr.app N3 Nq6
  have g_b6_0 : n0 ≤ b6_0 := Nat.le_trans (own_sz O5) sq_b6_0
  have sz_b6_0 : h0.size ≤ b6_0 := Nat.le_trans K5.1 sq_b6_0
  have CH6 := CH5.trans (CHr.keep Kq6 (allS own_safe0 all0) CH5.1)
  have hk6 := Nat.le_trans hk5 Kq6.1
  have O6 := O5.keep Kq6 (allS g_b5 all0)
  have K6 : Keep h0 T6.heap [] := K5.trans Kq6 (allS (Or.inr sz_b5) all0)
  have f_7 := ((F_function_b4.ext E5).keep Kq6 (ninS (Nat.ne_of_lt (Nat.lt_of_lt_of_le A4.lt (Nat.le_of_eq g5.symm))) nin0))
  have f_8 := ((F_argument_b4.ext E5).keep Kq6 (ninS (Nat.ne_of_lt (Nat.lt_of_lt_of_le A4.lt (Nat.le_of_eq g5.symm))) nin0))
  obtain ⟨_, _, ⟨T9, L9, k9, n9⟩, -, XX9, Sq9, gq9, ⟨Lc9, hQ9, l9, y9, z9, C9⟩, st9⟩ := X6.specialBackS hx (y := y7) rfl hown (mvT hZ (hw _ (List.mem_of_getElem? (i := 33) rfl))) (mvT hZ (hw _ (List.mem_of_getElem? (i := 34) rfl))) (mvT hZ (hw _ (List.mem_of_getElem? (i := 35) rfl))) (by decide) (own_backC (SL := []) (W := 1) (rm8 l Z a0 hw [] w_lcache cs_v cl_lcache hp b4 b5 T6.heap n0 O6 ((A4.ext E5).keep Kq6) f_7 f_8 g_b4) hZ (hw _ (List.mem_of_getElem? (i := 35) rfl)) (hw _ (List.mem_of_getElem? (i := 3) rfl)) (by decide) (by decide) (own_EW hw) CH6.1 all0) (g := (mkF m 29 #[.val (.int p0), .val (.int p1), .val (.int p2), .val (.long p3), .second, .val (.ref b1), .unset, .unset, .unset, .unset, .unset] [.null, (.ref b5), (.ref b4), (.ref b4)])) rfl (by rw [hml]; rfl) (Steps.refl _) (a := b4) (argsL := [(.ref b5), .null]) (rest := [(.ref b4)]) (lenOf pd_7 rfl) rfl (by show 2 * 0 + _ ≤ _; exact Nat.le_of_eq rfl) (hb hby at_29) (fun _ _ => ⟨rfl, rfl, (by decide : 4 + 2 ≤ _), (by decide : 8 + 36 ≤ _)⟩)
  dsimp only [Pt.U, Pt.locs, Pt.cells, Pt.slots] at XX9 Sq9 gq9 l9 y9 z9 st9 hQ9 C9
  subst l9 y9 z9
  obtain ⟨X9, hS9, hZ9, hown9⟩ := rebS hS0 hk6 XX9 Sq9 gq9 hZ hown
  obtain ⟨rfl, Nq9, Kq9, fq9_0, fq9_1, fq9_2⟩ := hQ9
  have N9 := Fr.app N6 Nq9
  have CH9 := CH6.trans C9
  have hk9 : T9.heap.size ≤ T9.heap.size := Nat.le_refl _
  have O9 := O6.keep Kq9 (allS g_b4 all0)
  have K9 : Keep h0 T9.heap [] := K6.trans Kq9 (allS (Or.inr sz_b4) all0)
  obtain ⟨_, _, ⟨T10, L10, k10, n10⟩, -, X10, ⟨Lc10, hQ10, l10, y10, z10⟩, st10⟩ := Jvm.LawKit.callS X9 hx (y := y13) hown9 (mvT hZ9 (hw _ (List.mem_of_getElem? (i := 79) rfl))) (mvT hZ9 (hw _ (List.mem_of_getElem? (i := 80) rfl))) (mvT hZ9 (hw _ (List.mem_of_getElem? (i := 81) rfl))) (mvT hZ9 (hw _ (List.mem_of_getElem? (i := 82) rfl))) (by decide) (backOf (W := 0) (rm17 l Z a0 hw [] w_lcache cs_v cl_lcache hp p3 T9.heap n0 O9 hc2) hZ9 (hw _ (List.mem_of_getElem? (i := 82) rfl)) (hw _ (List.mem_of_getElem? (i := 81) rfl)) (by decide) (by decide)) (g := (mkF m 46 #[.val (.int p0), .val (.int p1), .val (.int p2), .val (.long p3), .second, .val (.ref b1), .val (.ref b4), .val .null, .unset, .unset, .unset] [(.long p3)])) rfl (by rw [hml]; rfl) (argsL := [(.long p3)]) (rest := []) (lenOf pd_12 rfl) rfl (by show 2 * 0 + _ ≤ _; exact Nat.le_of_eq rfl) (hb hby at_46) (fun _ _ => ⟨rfl, rfl, (by decide : 6 + 1 ≤ _), (by decide : 44 + 1 ≤ _)⟩)
  dsimp only [Pt.U, Pt.locs, Pt.cells, Pt.slots] at X10 l10 y10 z10 st10 hQ10
  subst l10 y10 z10
  obtain ⟨b10_0, rfl, Nq10, Kq10, sq_b10_0, fq10_0, fq10_1⟩ := hQ10
  have N10 := Fr.app N9 Nq10
  have g_b10_0 : n0 ≤ b10_0 := Nat.le_trans (own_sz O9) sq_b10_0
  have sz_b10_0 : h0.size ≤ b10_0 := Nat.le_trans K9.1 sq_b10_0
  have CH10 := CH9.trans (CHr.keep Kq10 all0 CH9.1)
  have hk10 := Nat.le_trans hk9 Kq10.1
  have O10 := O9.keep Kq10 all0
  have K10 : Keep h0 T10.heap [] := K9.trans Kq10 all0
  obtain ⟨T11, h11, X11, e11, E11, A11, D11, -, st11⟩ := newO X10 hx hZ9 hown9 (hw _ (List.mem_of_getElem? (i := 53) rfl)) (hw _ (List.mem_of_getElem? (i := 54) rfl)) (hw _ (List.mem_of_getElem? (i := 55) rfl)) rfl (g := (mkF m 51 #[.val (.int p0), .val (.int p1), .val (.int p2), .val (.long p3), .second, .val (.ref b1), .val (.ref b4), .val (.ref b10_0), .unset, .unset, .unset] [])) rfl (hb hby at_51) (by decide) (by decide)
  obtain ⟨b11, g11⟩ : ∃ z, z = T10.heap.size := ⟨_, rfl⟩
  rw [← g11] at A11 D11 st11
  have g_b11 : n0 ≤ b11 := Nat.le_trans (own_sz O10) (Nat.le_of_eq g11.symm)
  have sz_b11 : h0.size ≤ b11 := Nat.le_trans K10.1 (Nat.le_of_eq g11.symm)
  have O11 := O10.ext E11
  have K11 : Keep h0 h11 [] := K10.ext E11
  have CH11 := CH10.trans (CHr.ext E11 CH10.1)
  have hk11 := Nat.le_trans hk10 E11.1
  have F_operation_b11 : Fld Z h11 b11 "com/example/latchwork/latchwork/RecordedForm$Call" "operation" "Lcom/example/latchwork/latchwork/Operation;" .null := D11 (Or.inr (hw _ (List.mem_of_getElem? (i := 61) rfl))) (ty := (.object "com/example/latchwork/latchwork/Operation")) (by decide)
  have F_called_b11 : Fld Z h11 b11 "com/example/latchwork/latchwork/RecordedForm$Call" "called" "I" (.int (0 : Int32)) := D11 (Or.inr (hw _ (List.mem_of_getElem? (i := 63) rfl))) (ty := .int) (by decide)
  have F_answered_b11 : Fld Z h11 b11 "com/example/latchwork/latchwork/RecordedForm$Call" "answered" "I" (.int (0 : Int32)) := D11 (Or.inr (hw _ (List.mem_of_getElem? (i := 65) rfl))) (ty := .int) (by decide)
  have F_result_b11 : Fld Z h11 b11 "com/example/latchwork/latchwork/RecordedForm$Call" "result" "Ljava/lang/Object;" .null := D11 (Or.inr (hw _ (List.mem_of_getElem? (i := 67) rfl))) (ty := (.object "java/lang/Object")) (by decide)
  obtain ⟨_, _, ⟨T12, L12, k12, n12⟩, -, X12, ⟨Lc12, hQ12, l12, y12, z12⟩, st12⟩ := X11.specialBack hx (y := y8) rfl hown9 (mvT hZ9 (hw _ (List.mem_of_getElem? (i := 56) rfl))) (mvT hZ9 (hw _ (List.mem_of_getElem? (i := 57) rfl))) (mvT hZ9 (hw _ (List.mem_of_getElem? (i := 58) rfl))) (by decide) (backOf (W := 1) (rm18 l Z a0 hw [] w_lcache cs_v cl_lcache hp b11 b4 p0 p1 b10_0 h11 n0 O11 A11 F_operation_b11 F_called_b11 F_answered_b11 F_result_b11 g_b11) hZ9 (hw _ (List.mem_of_getElem? (i := 58) rfl)) (hw _ (List.mem_of_getElem? (i := 55) rfl)) (by decide) (by decide)) (g := (mkF m 61 #[.val (.int p0), .val (.int p1), .val (.int p2), .val (.long p3), .second, .val (.ref b1), .val (.ref b4), .val (.ref b10_0), .unset, .unset, .unset] [(.ref b10_0), (.int p1), (.int p0), (.ref b4), (.ref b11), (.ref b11)])) rfl (by rw [hml]; rfl) (Steps.refl _) (a := b11) (argsL := [(.ref b4), (.int p0), (.int p1), (.ref b10_0)]) (rest := [(.ref b11)]) (lenOf pd_8 rfl) rfl (by show 2 * 0 + _ ≤ _; exact Nat.le_of_eq rfl) (hb hby at_61) (fun _ _ => ⟨rfl, e11, (by decide : 8 + 0 ≤ _), (by decide : 49 + 0 ≤ _)⟩)
  dsimp only [Pt.U, Pt.locs, Pt.cells, Pt.slots] at X12 l12 y12 z12 st12 hQ12
  subst l12 y12 z12
  obtain ⟨rfl, Nq12, Kq12, fq12_0, fq12_1, fq12_2, fq12_3, fq12_4⟩ := hQ12
  have N12 := Fr.app N10 Nq12
  have CH12 := CH11.trans (CHr.keep Kq12 (allS own_safe0 all0) CH11.1)
  have hk12 := Nat.le_trans hk11 Kq12.1
  have O12 := O11.keep Kq12 (allS g_b11 all0)
  have K12 : Keep h0 T12.heap [] := K11.trans Kq12 (allS (Or.inr sz_b11) all0)
  obtain ⟨T13, h13, X13, e13, E13, A13, D13, -, st13⟩ := newO X12 hx hZ9 hown9 (hw _ (List.mem_of_getElem? (i := 53) rfl)) (hw _ (List.mem_of_getElem? (i := 54) rfl)) (hw _ (List.mem_of_getElem? (i := 55) rfl)) rfl (g := (mkF m 79 #[.val (.int p0), .val (.int p1), .val (.int p2), .val (.long p3), .second, .val (.ref b1), .val (.ref b4), .val (.ref b10_0), .val (.ref b11), .val (.int (0 : Int32)), .unset] [])) rfl (hb hby at_79) (by decide) (by decide)
  obtain ⟨b13, g13⟩ : ∃ z, z = T12.heap.size := ⟨_, rfl⟩
  rw [← g13] at A13 D13 st13
  have g_b13 : n0 ≤ b13 := Nat.le_trans (own_sz O12) (Nat.le_of_eq g13.symm)
  have sz_b13 : h0.size ≤ b13 := Nat.le_trans K12.1 (Nat.le_of_eq g13.symm)
  have O13 := O12.ext E13
  have K13 : Keep h0 h13 [] := K12.ext E13
  have CH13 := CH12.trans (CHr.ext E13 CH12.1)
  have hk13 := Nat.le_trans hk12 E13.1
  have F_operation_b13 : Fld Z h13 b13 "com/example/latchwork/latchwork/RecordedForm$Call" "operation" "Lcom/example/latchwork/latchwork/Operation;" .null := D13 (Or.inr (hw _ (List.mem_of_getElem? (i := 61) rfl))) (ty := (.object "com/example/latchwork/latchwork/Operation")) (by decide)
  have F_called_b13 : Fld Z h13 b13 "com/example/latchwork/latchwork/RecordedForm$Call" "called" "I" (.int (0 : Int32)) := D13 (Or.inr (hw _ (List.mem_of_getElem? (i := 63) rfl))) (ty := .int) (by decide)
  have F_answered_b13 : Fld Z h13 b13 "com/example/latchwork/latchwork/RecordedForm$Call" "answered" "I" (.int (0 : Int32)) := D13 (Or.inr (hw _ (List.mem_of_getElem? (i := 65) rfl))) (ty := .int) (by decide)
  have F_result_b13 : Fld Z h13 b13 "com/example/latchwork/latchwork/RecordedForm$Call" "result" "Ljava/lang/Object;" .null := D13 (Or.inr (hw _ (List.mem_of_getElem? (i := 67) rfl))) (ty := (.object "java/lang/Object")) (by decide)
  obtain ⟨_, _, ⟨T14, L14, k14, n14⟩, -, X14, ⟨Lc14, hQ14, l14, y14, z14⟩, st14⟩ := X13.specialBack hx (y := y9) rfl hown9 (mvT hZ9 (hw _ (List.mem_of_getElem? (i := 69) rfl))) (mvT hZ9 (hw _ (List.mem_of_getElem? (i := 70) rfl))) (mvT hZ9 (hw _ (List.mem_of_getElem? (i := 71) rfl))) (by decide) (backOf (W := 1) (rm11 l Z a0 hw [] w_lcache cs_v cl_lcache hp b13 b4 p0 h13 n0 O13 A13 F_operation_b13 F_called_b13 F_answered_b13 F_result_b13 g_b13) hZ9 (hw _ (List.mem_of_getElem? (i := 71) rfl)) (hw _ (List.mem_of_getElem? (i := 55) rfl)) (by decide) (by decide)) (g := (mkF m 86 #[.val (.int p0), .val (.int p1), .val (.int p2), .val (.long p3), .second, .val (.ref b1), .val (.ref b4), .val (.ref b10_0), .val (.ref b11), .val (.int (0 : Int32)), .unset] [(.int p0), (.ref b4), (.ref b13), (.ref b13)])) rfl (by rw [hml]; rfl) (Steps.refl _) (a := b13) (argsL := [(.ref b4), (.int p0)]) (rest := [(.ref b13)]) (lenOf pd_9 rfl) rfl (by show 2 * 0 + _ ≤ _; exact Nat.le_of_eq rfl) (hb hby at_86) (fun _ _ => ⟨rfl, e13, (by decide : 9 + 0 ≤ _), (by decide : 53 + 0 ≤ _)⟩)
  dsimp only [Pt.U, Pt.locs, Pt.cells, Pt.slots] at X14 l14 y14 z14 st14 hQ14
  subst l14 y14 z14
  obtain ⟨rfl, Nq14, Kq14, fq14_0, fq14_1, fq14_2, fq14_3, fq14_4⟩ := hQ14
  have N14 := Fr.app N12 Nq14
  have CH14 := CH13.trans (CHr.keep Kq14 (allS own_safe0 all0) CH13.1)
  have hk14 := Nat.le_trans hk13 Kq14.1
  have O14 := O13.keep Kq14 (allS g_b13 all0)
  have K14 : Keep h0 T14.heap [] := K13.trans Kq14 (allS (Or.inr sz_b13) all0)
  have f_15 := ((fq12_1.ext E13).keep Kq14 (ninS (Nat.ne_of_lt (Nat.lt_of_lt_of_le (A11.keep Kq12).lt (Nat.le_of_eq g13.symm))) nin0))
  obtain ⟨cq16, kq16, q16a, q16b, q16c⟩ := isOf hZ9 rfl ((fq12_0.ext E13).keep Kq14)
  obtain ⟨_, _, ⟨T16, L16, k16, n16⟩, -, X16, ⟨Lc16, hQ16, l16, y16, z16⟩, st16⟩ := X14.virtualBack hx (y := y10) (z := y10) hown9 (mvT hZ9 (hw _ (List.mem_of_getElem? (i := 74) rfl))) (mvT hZ9 (hw _ (List.mem_of_getElem? (i := 75) rfl))) (notFace_of_selects (args := #[]) (mvT hZ9 (hw _ (List.mem_of_getElem? (i := 77) rfl)))) (mvT hZ9 (hw _ (List.mem_of_getElem? (i := 77) rfl))) (mvT hZ9 (hw _ (List.mem_of_getElem? (i := 76) rfl))) (by decide) (backOf (W := 0) (rm24 l Z a0 hw [] w_lcache cs_v cl_lcache hp b11 p1 T14.heap n0 O14 f_15 (own_mx2 hc3)) hZ9 (hw _ (List.mem_of_getElem? (i := 78) rfl)) (hw _ (List.mem_of_getElem? (i := 55) rfl)) (by decide) (by decide)) q16a q16c (g := (mkF m 93 #[.val (.int p0), .val (.int p1), .val (.int p2), .val (.long p3), .second, .val (.ref b1), .val (.ref b4), .val (.ref b10_0), .val (.ref b11), .val (.int (0 : Int32)), .val (.ref b13)] [(.ref b11)])) rfl (by rw [hml]; rfl) (Steps.refl _) (argsL := []) (rest := []) (lenOf pd_10 rfl) rfl (by show 2 * 0 + _ ≤ _; exact Nat.le_of_eq rfl) (hb hby at_93) (fun _ _ => ⟨rfl, rfl, (by decide : 9 + 0 ≤ _), (by decide : 53 + 0 ≤ _)⟩)
  dsimp only [Pt.U, Pt.locs, Pt.cells, Pt.slots] at X16 l16 y16 z16 st16 hQ16
  subst l16 y16 z16
  obtain ⟨rfl, Nq16, eq16⟩ := hQ16
  have N16 := Fr.app N14 Nq16
  obtain ⟨cq17, kq17, q17a, q17b, q17c⟩ := isOf hZ9 eq16 fq14_0
  obtain ⟨_, _, ⟨T17, L17, k17, n17⟩, -, X17, ⟨Lc17, hQ17, l17, y17, z17⟩, st17⟩ := X16.virtualBack hx (y := y10) (z := y10) hown9 (mvT hZ9 (hw _ (List.mem_of_getElem? (i := 74) rfl))) (mvT hZ9 (hw _ (List.mem_of_getElem? (i := 75) rfl))) (notFace_of_selects (args := #[]) (mvT hZ9 (hw _ (List.mem_of_getElem? (i := 77) rfl)))) (mvT hZ9 (hw _ (List.mem_of_getElem? (i := 77) rfl))) (mvT hZ9 (hw _ (List.mem_of_getElem? (i := 76) rfl))) (by decide) (backOf (W := 0) (rm13 l Z a0 hw [] w_lcache cs_v cl_lcache hp b13 T14.heap n0 O14 fq14_1) hZ9 (hw _ (List.mem_of_getElem? (i := 78) rfl)) (hw _ (List.mem_of_getElem? (i := 55) rfl)) (by decide) (by decide)) q17a q17c (g := (mkF m 103 #[.val (.int p0), .val (.int p1), .val (.int p2), .val (.long p3), .second, .val (.ref b1), .val (.ref b4), .val (.ref b10_0), .val (.ref b11), .val (.int (0 : Int32)), .val (.ref b13)] [(.ref b13)])) rfl (by rw [hml]; rfl) (Steps.refl _) (argsL := []) (rest := []) (lenOf pd_10 rfl) rfl (by show 2 * 0 + _ ≤ _; exact Nat.le_of_eq rfl) (hb hby at_103) (fun _ _ => ⟨rfl, eq16, (by decide : 9 + 0 ≤ _), (by decide : 53 + 0 ≤ _)⟩)
  dsimp only [Pt.U, Pt.locs, Pt.cells, Pt.slots] at X17 l17 y17 z17 st17 hQ17
  subst l17 y17 z17
  obtain ⟨rfl, Nq17, eq17⟩ := hQ17
  have N17 := Fr.app N16 Nq17
  obtain ⟨fs, hr, hrun, hended, hE⟩ := Stand.leaveW (s := s) X17 hS9 (by rw [eq17]; exact hk14) (v := some (.int (1 : Int32))) (fun h => by rw [Bd.returns] at h; cases h)
  refine ⟨_, _, pre0 _ ?_, hrun, hended, _, _, rfl, ?_, hE.1, hE.2.1, hE.2.2.1, hE.2.2.2.mono (by decide) (by decide)⟩
  · show Sp p e below s₁ (mkF m 0 #[.val (.int p0), .val (.int p1), .val (.int p2), .val (.long p3), .second, .unset, .unset, .unset, .unset, .unset, .unset] []) _
    refine XS.iconst X0.here hx rfl (hb hby at_0) ?_
    show Sp p e below s₁ (mkF m 1 #[.val (.int p0), .val (.int p1), .val (.int p2), .val (.long p3), .second, .unset, .unset, .unset, .unset, .unset, .unset] [(.int (1 : Int32))]) _
    refine st1 _ ?_
    show Sp p e below T1 (mkF m 3 #[.val (.int p0), .val (.int p1), .val (.int p2), .val (.long p3), .second, .unset, .unset, .unset, .unset, .unset, .unset] [(.ref b1)]) _
    refine XS.astore X1.here hx rfl (hb hby at_3) rfl rfl (l' := #[.val (.int p0), .val (.int p1), .val (.int p2), .val (.long p3), .second, .val (.ref b1), .unset, .unset, .unset, .unset, .unset]) rfl ?_
    show Sp p e below T1 (mkF m 5 #[.val (.int p0), .val (.int p1), .val (.int p2), .val (.long p3), .second, .val (.ref b1), .unset, .unset, .unset, .unset, .unset] []) _
    refine XS.aload X1.here hx rfl (hb hby at_5) rfl rfl ?_
    show Sp p e below T1 (mkF m 7 #[.val (.int p0), .val (.int p1), .val (.int p2), .val (.long p3), .second, .val (.ref b1), .unset, .unset, .unset, .unset, .unset] [(.ref b1)]) _
    refine XS.iconst X1.here hx rfl (hb hby at_7) ?_
    show Sp p e below T1 (mkF m 8 #[.val (.int p0), .val (.int p1), .val (.int p2), .val (.long p3), .second, .val (.ref b1), .unset, .unset, .unset, .unset, .unset] [(.int (0 : Int32)), (.ref b1)]) _
    refine XS.iloadN X1.here hx rfl (hb hby at_8) rfl ?_
    show Sp p e below T1 (mkF m 9 #[.val (.int p0), .val (.int p1), .val (.int p2), .val (.long p3), .second, .val (.ref b1), .unset, .unset, .unset, .unset, .unset] [(.int p2), (.int (0 : Int32)), (.ref b1)]) _
    refine XS.sipush X1.here hx rfl (hb hby at_9) ?_
    show Sp p e below T1 (mkF m 12 #[.val (.int p0), .val (.int p1), .val (.int p2), .val (.long p3), .second, .val (.ref b1), .unset, .unset, .unset, .unset, .unset] [(.int (255 : Int32)), (.int p2), (.int (0 : Int32)), (.ref b1)]) _
    refine XS.iand X1.here hx rfl (hb hby at_12) rfl ?_
    show Sp p e below T1 (mkF m 13 #[.val (.int p0), .val (.int p1), .val (.int p2), .val (.long p3), .second, .val (.ref b1), .unset, .unset, .unset, .unset, .unset] [(.int (p2 &&& (255 : Int32))), (.int (0 : Int32)), (.ref b1)]) _
    refine XS.i2c X1.here hx rfl (hb hby at_13) rfl ?_
    show Sp p e below T1 (mkF m 14 #[.val (.int p0), .val (.int p1), .val (.int p2), .val (.long p3), .second, .val (.ref b1), .unset, .unset, .unset, .unset, .unset] [(.int ((p2 &&& (255 : Int32)).toUInt32.toUInt16.toUInt32.toInt32)), (.int (0 : Int32)), (.ref b1)]) _
    refine st3 _ ?_
    show Sp p e below T3 (mkF m 15 #[.val (.int p0), .val (.int p1), .val (.int p2), .val (.long p3), .second, .val (.ref b1), .unset, .unset, .unset, .unset, .unset] []) _
    refine st4 _ ?_
    show Sp p e below T4 (mkF m 18 #[.val (.int p0), .val (.int p1), .val (.int p2), .val (.long p3), .second, .val (.ref b1), .unset, .unset, .unset, .unset, .unset] [(.ref b4)]) _
    refine XS.dup X4.here hx rfl (hb hby at_18) rfl rfl ?_
    show Sp p e below T4 (mkF m 19 #[.val (.int p0), .val (.int p1), .val (.int p2), .val (.long p3), .second, .val (.ref b1), .unset, .unset, .unset, .unset, .unset] [(.ref b4), (.ref b4)]) _
    refine st5 _ ?_
    show Sp p e below T5 (mkF m 22 #[.val (.int p0), .val (.int p1), .val (.int p2), .val (.long p3), .second, .val (.ref b1), .unset, .unset, .unset, .unset, .unset] [(.ref b5), (.ref b4), (.ref b4)]) _
    refine XS.dup X5.here hx rfl (hb hby at_22) rfl rfl ?_
    show Sp p e below T5 (mkF m 23 #[.val (.int p0), .val (.int p1), .val (.int p2), .val (.long p3), .second, .val (.ref b1), .unset, .unset, .unset, .unset, .unset] [(.ref b5), (.ref b5), (.ref b4), (.ref b4)]) _
    refine XS.aload X5.here hx rfl (hb hby at_23) rfl rfl ?_
    show Sp p e below T5 (mkF m 25 #[.val (.int p0), .val (.int p1), .val (.int p2), .val (.long p3), .second, .val (.ref b1), .unset, .unset, .unset, .unset, .unset] [(.ref b1), (.ref b5), (.ref b5), (.ref b4), (.ref b4)]) _
    refine st6.trans ?_
    show Sp p e below T6 (mkF m 28 #[.val (.int p0), .val (.int p1), .val (.int p2), .val (.long p3), .second, .val (.ref b1), .unset, .unset, .unset, .unset, .unset] [(.ref b5), (.ref b4), (.ref b4)]) _
    refine XS.aconstNull X6.here hx rfl (hb hby at_28) ?_
    show Sp p e below T6 (mkF m 29 #[.val (.int p0), .val (.int p1), .val (.int p2), .val (.long p3), .second, .val (.ref b1), .unset, .unset, .unset, .unset, .unset] [.null, (.ref b5), (.ref b4), (.ref b4)]) _
    refine st9.trans ?_
    show Sp p e below T9 (mkF m 32 #[.val (.int p0), .val (.int p1), .val (.int p2), .val (.long p3), .second, .val (.ref b1), .unset, .unset, .unset, .unset, .unset] [(.ref b4)]) _
    refine XS.astore X9.here hx rfl (hb hby at_32) rfl rfl (l' := #[.val (.int p0), .val (.int p1), .val (.int p2), .val (.long p3), .second, .val (.ref b1), .val (.ref b4), .unset, .unset, .unset, .unset]) rfl ?_
    show Sp p e below T9 (mkF m 34 #[.val (.int p0), .val (.int p1), .val (.int p2), .val (.long p3), .second, .val (.ref b1), .val (.ref b4), .unset, .unset, .unset, .unset] []) _
    refine XS.aconstNull X9.here hx rfl (hb hby at_34) ?_
    show Sp p e below T9 (mkF m 35 #[.val (.int p0), .val (.int p1), .val (.int p2), .val (.long p3), .second, .val (.ref b1), .val (.ref b4), .unset, .unset, .unset, .unset] [.null]) _
    refine XS.astore X9.here hx rfl (hb hby at_35) rfl rfl (l' := #[.val (.int p0), .val (.int p1), .val (.int p2), .val (.long p3), .second, .val (.ref b1), .val (.ref b4), .val .null, .unset, .unset, .unset]) rfl ?_
    show Sp p e below T9 (mkF m 37 #[.val (.int p0), .val (.int p1), .val (.int p2), .val (.long p3), .second, .val (.ref b1), .val (.ref b4), .val .null, .unset, .unset, .unset] []) _
    refine XS.iloadN X9.here hx rfl (hb hby at_37) rfl ?_
    show Sp p e below T9 (mkF m 38 #[.val (.int p0), .val (.int p1), .val (.int p2), .val (.long p3), .second, .val (.ref b1), .val (.ref b4), .val .null, .unset, .unset, .unset] [(.int p2)]) _
    refine XS.sipush X9.here hx rfl (hb hby at_38) ?_
    show Sp p e below T9 (mkF m 41 #[.val (.int p0), .val (.int p1), .val (.int p2), .val (.long p3), .second, .val (.ref b1), .val (.ref b4), .val .null, .unset, .unset, .unset] [(.int (256 : Int32)), (.int p2)]) _
    refine XS.iand X9.here hx rfl (hb hby at_41) rfl ?_
    show Sp p e below T9 (mkF m 42 #[.val (.int p0), .val (.int p1), .val (.int p2), .val (.long p3), .second, .val (.ref b1), .val (.ref b4), .val .null, .unset, .unset, .unset] [(.int (p2 &&& (256 : Int32)))]) _
    refine XS.ifNo X9.here hx rfl (hb hby at_42) rfl ((if0 _ _).trans (feq hc1).1) ?_
    show Sp p e below T9 (mkF m 45 #[.val (.int p0), .val (.int p1), .val (.int p2), .val (.long p3), .second, .val (.ref b1), .val (.ref b4), .val .null, .unset, .unset, .unset] []) _
    refine XS.lloadN X9.here hx rfl (hb hby at_45) rfl ?_
    show Sp p e below T9 (mkF m 46 #[.val (.int p0), .val (.int p1), .val (.int p2), .val (.long p3), .second, .val (.ref b1), .val (.ref b4), .val .null, .unset, .unset, .unset] [(.long p3)]) _
    refine st10 _ ?_
    show Sp p e below T10 (mkF m 49 #[.val (.int p0), .val (.int p1), .val (.int p2), .val (.long p3), .second, .val (.ref b1), .val (.ref b4), .val .null, .unset, .unset, .unset] [(.ref b10_0)]) _
    refine XS.astore X10.here hx rfl (hb hby at_49) rfl rfl (l' := #[.val (.int p0), .val (.int p1), .val (.int p2), .val (.long p3), .second, .val (.ref b1), .val (.ref b4), .val (.ref b10_0), .unset, .unset, .unset]) rfl ?_
    show Sp p e below T10 (mkF m 51 #[.val (.int p0), .val (.int p1), .val (.int p2), .val (.long p3), .second, .val (.ref b1), .val (.ref b4), .val (.ref b10_0), .unset, .unset, .unset] []) _
    refine st11 _ ?_
    show Sp p e below T11 (mkF m 54 #[.val (.int p0), .val (.int p1), .val (.int p2), .val (.long p3), .second, .val (.ref b1), .val (.ref b4), .val (.ref b10_0), .unset, .unset, .unset] [(.ref b11)]) _
    refine XS.dup X11.here hx rfl (hb hby at_54) rfl rfl ?_
    show Sp p e below T11 (mkF m 55 #[.val (.int p0), .val (.int p1), .val (.int p2), .val (.long p3), .second, .val (.ref b1), .val (.ref b4), .val (.ref b10_0), .unset, .unset, .unset] [(.ref b11), (.ref b11)]) _
    refine XS.aload X11.here hx rfl (hb hby at_55) rfl rfl ?_
    show Sp p e below T11 (mkF m 57 #[.val (.int p0), .val (.int p1), .val (.int p2), .val (.long p3), .second, .val (.ref b1), .val (.ref b4), .val (.ref b10_0), .unset, .unset, .unset] [(.ref b4), (.ref b11), (.ref b11)]) _
    refine XS.iloadN X11.here hx rfl (hb hby at_57) rfl ?_
    show Sp p e below T11 (mkF m 58 #[.val (.int p0), .val (.int p1), .val (.int p2), .val (.long p3), .second, .val (.ref b1), .val (.ref b4), .val (.ref b10_0), .unset, .unset, .unset] [(.int p0), (.ref b4), (.ref b11), (.ref b11)]) _
    refine XS.iloadN X11.here hx rfl (hb hby at_58) rfl ?_
    show Sp p e below T11 (mkF m 59 #[.val (.int p0), .val (.int p1), .val (.int p2), .val (.long p3), .second, .val (.ref b1), .val (.ref b4), .val (.ref b10_0), .unset, .unset, .unset] [(.int p1), (.int p0), (.ref b4), (.ref b11), (.ref b11)]) _
    refine XS.aload X11.here hx rfl (hb hby at_59) rfl rfl ?_
    show Sp p e below T11 (mkF m 61 #[.val (.int p0), .val (.int p1), .val (.int p2), .val (.long p3), .second, .val (.ref b1), .val (.ref b4), .val (.ref b10_0), .unset, .unset, .unset] [(.ref b10_0), (.int p1), (.int p0), (.ref b4), (.ref b11), (.ref b11)]) _
    refine st12.trans ?_
    show Sp p e below T12 (mkF m 64 #[.val (.int p0), .val (.int p1), .val (.int p2), .val (.long p3), .second, .val (.ref b1), .val (.ref b4), .val (.ref b10_0), .unset, .unset, .unset] [(.ref b11)]) _
    refine XS.astore X12.here hx rfl (hb hby at_64) rfl rfl (l' := #[.val (.int p0), .val (.int p1), .val (.int p2), .val (.long p3), .second, .val (.ref b1), .val (.ref b4), .val (.ref b10_0), .val (.ref b11), .unset, .unset]) rfl ?_
    show Sp p e below T12 (mkF m 66 #[.val (.int p0), .val (.int p1), .val (.int p2), .val (.long p3), .second, .val (.ref b1), .val (.ref b4), .val (.ref b10_0), .val (.ref b11), .unset, .unset] []) _
    refine XS.iloadN X12.here hx rfl (hb hby at_66) rfl ?_
    show Sp p e below T12 (mkF m 67 #[.val (.int p0), .val (.int p1), .val (.int p2), .val (.long p3), .second, .val (.ref b1), .val (.ref b4), .val (.ref b10_0), .val (.ref b11), .unset, .unset] [(.int p1)]) _
    refine X12.ldcI hx hown9 (mvT hZ9 (hw _ (List.mem_of_getElem? (i := 68) rfl))) rfl (hb hby at_67) ?_
    show Sp p e below T12 (mkF m 69 #[.val (.int p0), .val (.int p1), .val (.int p2), .val (.long p3), .second, .val (.ref b1), .val (.ref b4), .val (.ref b10_0), .val (.ref b11), .unset, .unset] [(.int (2147483647 : Int32)), (.int p1)]) _
    refine XS.icmpYes X12.here hx rfl (pc0 := 69) (pc' := 76) rfl (hb hby at_69) rfl (flt hc3).2.1 (by decide) (by decide) ?_
    show Sp p e below T12 (mkF m 76 #[.val (.int p0), .val (.int p1), .val (.int p2), .val (.long p3), .second, .val (.ref b1), .val (.ref b4), .val (.ref b10_0), .val (.ref b11), .unset, .unset] []) _
    refine XS.iconst X12.here hx rfl (hb hby at_76) ?_
    show Sp p e below T12 (mkF m 77 #[.val (.int p0), .val (.int p1), .val (.int p2), .val (.long p3), .second, .val (.ref b1), .val (.ref b4), .val (.ref b10_0), .val (.ref b11), .unset, .unset] [(.int (0 : Int32))]) _
    refine XS.istore X12.here hx rfl (hb hby at_77) rfl (l' := #[.val (.int p0), .val (.int p1), .val (.int p2), .val (.long p3), .second, .val (.ref b1), .val (.ref b4), .val (.ref b10_0), .val (.ref b11), .val (.int (0 : Int32)), .unset]) rfl ?_
    show Sp p e below T12 (mkF m 79 #[.val (.int p0), .val (.int p1), .val (.int p2), .val (.long p3), .second, .val (.ref b1), .val (.ref b4), .val (.ref b10_0), .val (.ref b11), .val (.int (0 : Int32)), .unset] []) _
    refine st13 _ ?_
    show Sp p e below T13 (mkF m 82 #[.val (.int p0), .val (.int p1), .val (.int p2), .val (.long p3), .second, .val (.ref b1), .val (.ref b4), .val (.ref b10_0), .val (.ref b11), .val (.int (0 : Int32)), .unset] [(.ref b13)]) _
    refine XS.dup X13.here hx rfl (hb hby at_82) rfl rfl ?_
    show Sp p e below T13 (mkF m 83 #[.val (.int p0), .val (.int p1), .val (.int p2), .val (.long p3), .second, .val (.ref b1), .val (.ref b4), .val (.ref b10_0), .val (.ref b11), .val (.int (0 : Int32)), .unset] [(.ref b13), (.ref b13)]) _
    refine XS.aload X13.here hx rfl (hb hby at_83) rfl rfl ?_
    show Sp p e below T13 (mkF m 85 #[.val (.int p0), .val (.int p1), .val (.int p2), .val (.long p3), .second, .val (.ref b1), .val (.ref b4), .val (.ref b10_0), .val (.ref b11), .val (.int (0 : Int32)), .unset] [(.ref b4), (.ref b13), (.ref b13)]) _
    refine XS.iloadN X13.here hx rfl (hb hby at_85) rfl ?_
    show Sp p e below T13 (mkF m 86 #[.val (.int p0), .val (.int p1), .val (.int p2), .val (.long p3), .second, .val (.ref b1), .val (.ref b4), .val (.ref b10_0), .val (.ref b11), .val (.int (0 : Int32)), .unset] [(.int p0), (.ref b4), (.ref b13), (.ref b13)]) _
    refine st14.trans ?_
    show Sp p e below T14 (mkF m 89 #[.val (.int p0), .val (.int p1), .val (.int p2), .val (.long p3), .second, .val (.ref b1), .val (.ref b4), .val (.ref b10_0), .val (.ref b11), .val (.int (0 : Int32)), .unset] [(.ref b13)]) _
    refine XS.astore X14.here hx rfl (hb hby at_89) rfl rfl (l' := #[.val (.int p0), .val (.int p1), .val (.int p2), .val (.long p3), .second, .val (.ref b1), .val (.ref b4), .val (.ref b10_0), .val (.ref b11), .val (.int (0 : Int32)), .val (.ref b13)]) rfl ?_
    show Sp p e below T14 (mkF m 91 #[.val (.int p0), .val (.int p1), .val (.int p2), .val (.long p3), .second, .val (.ref b1), .val (.ref b4), .val (.ref b10_0), .val (.ref b11), .val (.int (0 : Int32)), .val (.ref b13)] []) _
    refine XS.aload X14.here hx rfl (hb hby at_91) rfl rfl ?_
    show Sp p e below T14 (mkF m 93 #[.val (.int p0), .val (.int p1), .val (.int p2), .val (.long p3), .second, .val (.ref b1), .val (.ref b4), .val (.ref b10_0), .val (.ref b11), .val (.int (0 : Int32)), .val (.ref b13)] [(.ref b11)]) _
    refine st16.trans ?_
    show Sp p e below T16 (mkF m 96 #[.val (.int p0), .val (.int p1), .val (.int p2), .val (.long p3), .second, .val (.ref b1), .val (.ref b4), .val (.ref b10_0), .val (.ref b11), .val (.int (0 : Int32)), .val (.ref b13)] [(.int (0 : Int32))]) _
    refine XS.iload X16.here hx rfl (hb hby at_96) rfl ?_
    show Sp p e below T16 (mkF m 98 #[.val (.int p0), .val (.int p1), .val (.int p2), .val (.long p3), .second, .val (.ref b1), .val (.ref b4), .val (.ref b10_0), .val (.ref b11), .val (.int (0 : Int32)), .val (.ref b13)] [(.int (0 : Int32)), (.int (0 : Int32))]) _
    refine XS.icmpNo X16.here hx rfl (hb hby at_98) rfl (teq (by decide : (0 : Int32) = (0 : Int32))).2 ?_
    show Sp p e below T16 (mkF m 101 #[.val (.int p0), .val (.int p1), .val (.int p2), .val (.long p3), .second, .val (.ref b1), .val (.ref b4), .val (.ref b10_0), .val (.ref b11), .val (.int (0 : Int32)), .val (.ref b13)] []) _
    refine XS.aload X16.here hx rfl (hb hby at_101) rfl rfl ?_
    show Sp p e below T16 (mkF m 103 #[.val (.int p0), .val (.int p1), .val (.int p2), .val (.long p3), .second, .val (.ref b1), .val (.ref b4), .val (.ref b10_0), .val (.ref b11), .val (.int (0 : Int32)), .val (.ref b13)] [(.ref b13)]) _
    refine st17.trans ?_
    show Sp p e below T17 (mkF m 106 #[.val (.int p0), .val (.int p1), .val (.int p2), .val (.long p3), .second, .val (.ref b1), .val (.ref b4), .val (.ref b10_0), .val (.ref b11), .val (.int (0 : Int32)), .val (.ref b13)] [(.int (0 : Int32))]) _
    refine XS.ifNo X17.here hx rfl (hb hby at_106) rfl ((if0 _ _).trans (teq (by decide : (0 : Int32) = (0 : Int32))).2) ?_
    show Sp p e below T17 (mkF m 109 #[.val (.int p0), .val (.int p1), .val (.int p2), .val (.long p3), .second, .val (.ref b1), .val (.ref b4), .val (.ref b10_0), .val (.ref b11), .val (.int (0 : Int32)), .val (.ref b13)] []) _
    refine XS.iconst X17.here hx rfl (hb hby at_109) ?_
    show Sp p e below T17 (mkF m 110 #[.val (.int p0), .val (.int p1), .val (.int p2), .val (.long p3), .second, .val (.ref b1), .val (.ref b4), .val (.ref b10_0), .val (.ref b11), .val (.int (0 : Int32)), .val (.ref b13)] [(.int (1 : Int32))]) _
    refine XS.goto X17.here hx rfl (pc0 := 110) (pc' := 114) rfl (hb hby at_110) (by decide) (by decide) ?_
    show Sp p e below T17 (mkF m 114 #[.val (.int p0), .val (.int p1), .val (.int p2), .val (.long p3), .second, .val (.ref b1), .val (.ref b4), .val (.ref b10_0), .val (.ref b11), .val (.int (0 : Int32)), .val (.ref b13)] [(.int (1 : Int32))]) _
    exact retN X17 hx (t := .boolean) Bd.returns (by simp) (hb hby at_114) hr
  · skip
    exact ⟨rfl, N17⟩
set_option maxRecDepth 65536 in
set_option maxHeartbeats 40000000 in
theorem rm28 (l : Launch) (Z : State) (a0 : Array Value) (hw : ∀ d ∈ tables_1, d.before a0 Z = true) (ws : List Jvm.Cond) (w_lcache : Addr) (cs_v : Int32) (cl_lcache : Cell) (hp : Perm Z w_lcache cs_v cl_lcache) (p0 : Int32) (p1 : Int32) (p2 : Int32) (p3 : Int64) (h0 : Heap) (n0 : Nat) (O0 : Old Z n0 h0) (hc1 : (p2 &&& (256 : Int32)) = (0 : Int32)) (hc2 : ¬ (p1 < (2147483647 : Int32))) :
    MetFree l x (head1 (Jvm.Cond.code x code maxLocals ret :: ws) room_1) (fun a U => a = #[(.int p0), (.int p1), (.int p2), (.long p3)] ∧ Z.Warmed39 U.vm ∧ U.heap = h0 ∧ CHv Z own_EL U.vm h0) (fun _ _ _ _ _ => True) (fun _ U o U' => ∃ v L, o = .returned v ∧ (v = some (.int (1 : Int32)) ∧ Fr n0 L) ∧ ReturnedEndW U o U' L 24 1152) := by
  refine MetFree.of_bodySF (plainFor_of_name pn_0) hisR ?_
  intro p e s m args below meth c s₁ Bd hml0 hP hK
  obtain ⟨rfl, hZo, hh, hCH⟩ := hP
  have hx := Bd.exec
  have hby := Bd.bytes
  have hml : c.maxLocals = 11 := hml0
  have hown : (s.setVm s.vm).vm.findClass "com/example/latchwork/latchwork/CallIsAnsweredPinLaw" = some m.cls := findClass_of_methodNamed Bd.named
  have hnm := (name_of_methodNamed Bd.named Bd.method).1
  have X0 : Stand p l e room_1 (s.setVm s.vm) m #[(.int p0), (.int p1), (.int p2), (.long p3)] below meth c s₁ [] 0 0 := Stand.of_body Bd
  have e0 : s₁.heap = h0 := by rw [← hh, Bd.state]; rfl
  have N0 := Fr.nil n0
  have hZ : Z.Warmed39 (s.setVm s.vm).vm := hZo
  have CH0 := CHr.refl hCH
  have hS0 : s.Since s.vm 0 := (State.WarmedH.refl s).since 0
  have hk0 : 0 ≤ h0.size := Nat.zero_le _
  have hp' := hp
  obtain ⟨S_COMPACT_STRINGS, h_cs, S_w_lcache, B_lcache⟩ := hp'
  have pre0 : ∀ t, Steps p.tables e below (s₁.setTop (mkF m 0 #[.val (.int p0), .val (.int p1), .val (.int p2), .val (.long p3), .second, .unset, .unset, .unset, .unset, .unset, .unset] [])) t → Steps p.tables e below (s₁.setTop (entryFrame m #[(.int p0), (.int p1), (.int p2), (.long p3)] maxLocals)) t := fun t k => castTop (ef_0_0 m p0 p1 p2 p3) k
  obtain ⟨T1, h1, k1, X1, e1, E1, A1, EA1, st1⟩ := newPE X0 hx hZ (hw _ (List.mem_of_getElem? (i := 0) rfl)) e0 (g := (mkF m 1 #[.val (.int p0), .val (.int p1), .val (.int p2), .val (.long p3), .second, .unset, .unset, .unset, .unset, .unset, .unset] [(.int (1 : Int32))])) rfl (hb hby at_1) rfl (by decide) (cap := 1) (by decide) (by decide) (by decide) (by decide) (ad := "[C") (by decide)
  obtain ⟨b1, g1⟩ : ∃ z, z = h0.size := ⟨_, rfl⟩
  rw [← g1] at A1 EA1 st1
  have g_b1 : n0 ≤ b1 := Nat.le_trans (own_sz O0) (Nat.le_of_eq g1.symm)
  have sz_b1 : h0.size ≤ b1 := Nat.le_trans (Keep.refl h0 []).1 (Nat.le_of_eq g1.symm)
  have O1 := O0.ext E1
  have K1 : Keep h0 h1 [] := (Keep.refl h0 []).ext E1
  have CH1 := CH0.trans (CHr.ext E1 CH0.1)
  have hk1 := Nat.le_trans hk0 E1.1
  have V_b1 : Arv Z h1 b1 k1 .char (1 : Int32) [(.int (0 : Int32))] (.int (0 : Int32)) := (Arv.new A1 (by decide)).pad (pad_rep [] (.int (0 : Int32)) 1)
  obtain ⟨cl2, Ar2, q2, S2, Nn2, H2, G2⟩ := id V_b1
  have hin2 : ¬ ((0 : Int32) < 0 ∨ cl2.slots.size ≤ ((0 : Int32)).toNatClampNeg) := inb_of S2 ⟨by decide, by decide⟩
  obtain ⟨T3, h3, X3, e3, W3, st3⟩ := stC X1 hx hZ e1 Ar2 (j := (0 : Int32)) hin2 (g := (mkF m 14 #[.val (.int p0), .val (.int p1), .val (.int p2), .val (.long p3), .second, .val (.ref b1), .unset, .unset, .unset, .unset, .unset] [(.int ((p2 &&& (255 : Int32)).toUInt32.toUInt16.toUInt32.toInt32)), (.int (0 : Int32)), (.ref b1)])) rfl rfl (hb hby at_14)
  have N3 := Fr.snoc X3 N0 g_b1
  have O3 := O1.wr W3 g_b1
  have K3 : Keep h0 h3 [] := K1.wr W3 (Or.inr sz_b1)
  have CH3 := CH1.trans (CHr.wr W3 own_safe0 CH1.1)
  have hk3 := Nat.le_trans hk1 (Keep.of_wr W3).1
  have V_b1_3 : Arv Z h3 b1 k1 .char (1 : Int32) [(.int (nar .char ((p2 &&& (255 : Int32)).toUInt32.toUInt16.toUInt32.toInt32)))] (.int (0 : Int32)) := Arv.set Ar2 q2 S2 Nn2 H2 G2 (fits_nar_char _) W3 0 rfl (Nat.le_of_ble_eq_true rfl)
  obtain ⟨T4, h4, X4, e4, E4, A4, D4, -, st4⟩ := newO X3 hx hZ hown (hw _ (List.mem_of_getElem? (i := 1) rfl)) (hw _ (List.mem_of_getElem? (i := 2) rfl)) (hw _ (List.mem_of_getElem? (i := 3) rfl)) e3 (g := (mkF m 15 #[.val (.int p0), .val (.int p1), .val (.int p2), .val (.long p3), .second, .val (.ref b1), .unset, .unset, .unset, .unset, .unset] [])) rfl (hb hby at_15) (by decide) (by decide)
  obtain ⟨b4, g4⟩ : ∃ z, z = h3.size := ⟨_, rfl⟩
  rw [← g4] at A4 D4 st4
  have g_b4 : n0 ≤ b4 := Nat.le_trans (own_sz O3) (Nat.le_of_eq g4.symm)
  have sz_b4 : h0.size ≤ b4 := Nat.le_trans K3.1 (Nat.le_of_eq g4.symm)
  have O4 := O3.ext E4
  have K4 : Keep h0 h4 [] := K3.ext E4
  have CH4 := CH3.trans (CHr.ext E4 CH3.1)
  have hk4 := Nat.le_trans hk3 E4.1
  have F_function_b4 : Fld Z h4 b4 "com/example/latchwork/latchwork/Operation" "function" "Ljava/lang/String;" .null := D4 (Or.inr (hw _ (List.mem_of_getElem? (i := 50) rfl))) (ty := (.object "java/lang/String")) (by decide)
  have F_argument_b4 : Fld Z h4 b4 "com/example/latchwork/latchwork/Operation" "argument" "Ljava/lang/Object;" .null := D4 (Or.inr (hw _ (List.mem_of_getElem? (i := 52) rfl))) (ty := (.object "java/lang/Object")) (by decide)
  obtain ⟨T5, h5, X5, e5, E5, A5, D5, -, st5⟩ := newO X4 hx hZ hown (hw _ (List.mem_of_getElem? (i := 4) rfl)) (hw _ (List.mem_of_getElem? (i := 5) rfl)) (hw _ (List.mem_of_getElem? (i := 6) rfl)) e4 (g := (mkF m 19 #[.val (.int p0), .val (.int p1), .val (.int p2), .val (.long p3), .second, .val (.ref b1), .unset, .unset, .unset, .unset, .unset] [(.ref b4), (.ref b4)])) rfl (hb hby at_19) (by decide) (by decide)
  obtain ⟨b5, g5⟩ : ∃ z, z = h4.size := ⟨_, rfl⟩
  rw [← g5] at A5 D5 st5
  have g_b5 : n0 ≤ b5 := Nat.le_trans (own_sz O4) (Nat.le_of_eq g5.symm)
  have sz_b5 : h0.size ≤ b5 := Nat.le_trans K4.1 (Nat.le_of_eq g5.symm)
  have O5 := O4.ext E5
  have K5 : Keep h0 h5 [] := K4.ext E5
  have CH5 := CH4.trans (CHr.ext E5 CH4.1)
  have hk5 := Nat.le_trans hk4 E5.1
  have F_coder_b5 : Fld Z h5 b5 "java/lang/String" "coder" "B" (.int (0 : Int32)) := D5 (Or.inr (hw _ (List.mem_of_getElem? (i := 30) rfl))) (ty := .byte) (by decide)
  have F_value_b5 : Fld Z h5 b5 "java/lang/String" "value" "[B" .null := D5 (Or.inr (hw _ (List.mem_of_getElem? (i := 32) rfl))) (ty := (.array .byte)) (by decide)
  obtain ⟨_, _, ⟨T6, L6, k6, n6⟩, -, X6, ⟨Lc6, hQ6, l6, y6, z6⟩, st6⟩ := X5.specialBack hx (y := y4) rfl hown (mvT hZ (hw _ (List.mem_of_getElem? (i := 7) rfl))) (mvT hZ (hw _ (List.mem_of_getElem? (i := 8) rfl))) (mvT hZ (hw _ (List.mem_of_getElem? (i := 9) rfl))) (by decide) (backOf (W := 3) (rm5 l Z a0 hw [] w_lcache cs_v cl_lcache hp b5 b1 k1 (nar .char ((p2 &&& (255 : Int32)).toUInt32.toUInt16.toUInt32.toInt32)) h5 n0 O5 ((V_b1_3.ext E4).ext E5) (own_ch2 p2) A5 F_coder_b5 F_value_b5 g_b5) hZ (hw _ (List.mem_of_getElem? (i := 9) rfl)) (hw _ (List.mem_of_getElem? (i := 6) rfl)) (by decide) (by decide)) (g := (mkF m 25 #[.val (.int p0), .val (.int p1), .val (.int p2), .val (.long p3), .second, .val (.ref b1), .unset, .unset, .unset, .unset, .unset] [(.ref b1), (.ref b5), (.ref b5), (.ref b4), (.ref b4)])) rfl (by rw [hml]; rfl) (Steps.refl _) (a := b5) (argsL := [(.ref b1)]) (rest := [(.ref b5), (.ref b4), (.ref b4)]) (lenOf pd_4 rfl) rfl (by show 2 * 0 + _ ≤ _; exact Nat.le_of_eq rfl) (hb hby at_25) (fun _ _ => ⟨rfl, e5, (by decide : 3 + 1 ≤ _), (by decide : 7 + 1 ≤ _)⟩)
  dsimp only [Pt.U, Pt.locs, Pt.cells, Pt.slots] at X6 l6 y6 z6 st6 hQ6
  subst l6 y6 z6
  obtain ⟨b6_0, kc6_0, rfl, Nq6, Kq6, sq_b6_0, fq6_0, fq6_1, fq6_2, fq6_3, fq6_4⟩ := hQ6
  have N6 := Fr.app N3 Nq6
  have g_b6_0 : n0 ≤ b6_0 := Nat.le_trans (own_sz O5) sq_b6_0
  have sz_b6_0 : h0.size ≤ b6_0 := Nat.le_trans K5.1 sq_b6_0
  have CH6 := CH5.trans (CHr.keep Kq6 (allS own_safe0 all0) CH5.1)
  have hk6 := Nat.le_trans hk5 Kq6.1
  have O6 := O5.keep Kq6 (allS g_b5 all0)
  have K6 : Keep h0 T6.heap [] := K5.trans Kq6 (allS (Or.inr sz_b5) all0)
  have f_7 := ((F_function_b4.ext E5).keep Kq6 (ninS (Nat.ne_of_lt (Nat.lt_of_lt_of_le A4.lt (Nat.le_of_eq g5.symm))) nin0))
  have f_8 := ((F_argument_b4.ext E5).keep Kq6 (ninS (Nat.ne_of_lt (Nat.lt_of_lt_of_le A4.lt (Nat.le_of_eq g5.symm))) nin0))
  obtain ⟨_, _, ⟨T9, L9, k9, n9⟩, -, XX9, Sq9, gq9, ⟨Lc9, hQ9, l9, y9, z9, C9⟩, st9⟩ := X6.specialBackS hx (y := y7) rfl hown (mvT hZ (hw _ (List.mem_of_getElem? (i := 33) rfl))) (mvT hZ (hw _ (List.mem_of_getElem? (i := 34) rfl))) (mvT hZ (hw _ (List.mem_of_getElem? (i := 35) rfl))) (by decide) (own_backC (SL := []) (W := 1) (rm8 l Z a0 hw [] w_lcache cs_v cl_lcache hp b4 b5 T6.heap n0 O6 ((A4.ext E5).keep Kq6) f_7 f_8 g_b4) hZ (hw _ (List.mem_of_getElem? (i := 35) rfl)) (hw _ (List.mem_of_getElem? (i := 3) rfl)) (by decide) (by decide) (own_EW hw) CH6.1 all0) (g := (mkF m 29 #[.val (.int p0), .val (.int p1), .val (.int p2), .val (.long p3), .second, .val (.ref b1), .unset, .unset, .unset, .unset, .unset] [.null, (.ref b5), (.ref b4), (.ref b4)])) rfl (by rw [hml]; rfl) (Steps.refl _) (a := b4) (argsL := [(.ref b5), .null]) (rest := [(.ref b4)]) (lenOf pd_7 rfl) rfl (by show 2 * 0 + _ ≤ _; exact Nat.le_of_eq rfl) (hb hby at_29) (fun _ _ => ⟨rfl, rfl, (by decide : 4 + 2 ≤ _), (by decide : 8 + 36 ≤ _)⟩)
  dsimp only [Pt.U, Pt.locs, Pt.cells, Pt.slots] at XX9 Sq9 gq9 l9 y9 z9 st9 hQ9 C9
  subst l9 y9 z9
  obtain ⟨X9, hS9, hZ9, hown9⟩ := rebS hS0 hk6 XX9 Sq9 gq9 hZ hown
  obtain ⟨rfl, Nq9, Kq9, fq9_0, fq9_1, fq9_2⟩ := hQ9
  have N9 := Fr.app N6 Nq9
  have CH9 := CH6.trans C9
  have hk9 : T9.heap.size ≤ T9.heap.size := Nat.le_refl _
  have O9 := O6.keep Kq9 (allS g_b4 all0)
  have K9 : Keep h0 T9.heap [] := K6.trans Kq9 (allS (Or.inr sz_b4) all0)
  obtain ⟨T10, h10, X10, e10, E10, A10, D10, -, st10⟩ := newO X9 hx hZ9 hown9 (hw _ (List.mem_of_getElem? (i := 53) rfl)) (hw _ (List.mem_of_getElem? (i := 54) rfl)) (hw _ (List.mem_of_getElem? (i := 55) rfl)) rfl (g := (mkF m 51 #[.val (.int p0), .val (.int p1), .val (.int p2), .val (.long p3), .second, .val (.ref b1), .val (.ref b4), .val .null, .unset, .unset, .unset] [])) rfl (hb hby at_51) (by decide) (by decide)
  obtain ⟨b10, g10⟩ : ∃ z, z = T9.heap.size := ⟨_, rfl⟩
  rw [← g10] at A10 D10 st10
  have g_b10 : n0 ≤ b10 := Nat.le_trans (own_sz O9) (Nat.le_of_eq g10.symm)
  have sz_b10 : h0.size ≤ b10 := Nat.le_trans K9.1 (Nat.le_of_eq g10.symm)
  have O10 := O9.ext E10
  have K10 : Keep h0 h10 [] := K9.ext E10
  have CH10 := CH9.trans (CHr.ext E10 CH9.1)
  have hk10 := Nat.le_trans hk9 E10.1
  have F_operation_b10 : Fld Z h10 b10 "com/example/latchwork/latchwork/RecordedForm$Call" "operation" "Lcom/example/latchwork/latchwork/Operation;" .null := D10 (Or.inr (hw _ (List.mem_of_getElem? (i := 61) rfl))) (ty := (.object "com/example/latchwork/latchwork/Operation")) (by decide)
  have F_called_b10 : Fld Z h10 b10 "com/example/latchwork/latchwork/RecordedForm$Call" "called" "I" (.int (0 : Int32)) := D10 (Or.inr (hw _ (List.mem_of_getElem? (i := 63) rfl))) (ty := .int) (by decide)
  have F_answered_b10 : Fld Z h10 b10 "com/example/latchwork/latchwork/RecordedForm$Call" "answered" "I" (.int (0 : Int32)) := D10 (Or.inr (hw _ (List.mem_of_getElem? (i := 65) rfl))) (ty := .int) (by decide)
  have F_result_b10 : Fld Z h10 b10 "com/example/latchwork/latchwork/RecordedForm$Call" "result" "Ljava/lang/Object;" .null := D10 (Or.inr (hw _ (List.mem_of_getElem? (i := 67) rfl))) (ty := (.object "java/lang/Object")) (by decide)
  obtain ⟨_, _, ⟨T11, L11, k11, n11⟩, -, X11, ⟨Lc11, hQ11, l11, y11, z11⟩, st11⟩ := X10.specialBack hx (y := y8) rfl hown9 (mvT hZ9 (hw _ (List.mem_of_getElem? (i := 56) rfl))) (mvT hZ9 (hw _ (List.mem_of_getElem? (i := 57) rfl))) (mvT hZ9 (hw _ (List.mem_of_getElem? (i := 58) rfl))) (by decide) (backOf (W := 1) (rm9 l Z a0 hw [] w_lcache cs_v cl_lcache hp b10 b4 p0 p1 h10 n0 O10 A10 F_operation_b10 F_called_b10 F_answered_b10 F_result_b10 g_b10) hZ9 (hw _ (List.mem_of_getElem? (i := 58) rfl)) (hw _ (List.mem_of_getElem? (i := 55) rfl)) (by decide) (by decide)) (g := (mkF m 61 #[.val (.int p0), .val (.int p1), .val (.int p2), .val (.long p3), .second, .val (.ref b1), .val (.ref b4), .val .null, .unset, .unset, .unset] [.null, (.int p1), (.int p0), (.ref b4), (.ref b10), (.ref b10)])) rfl (by rw [hml]; rfl) (Steps.refl _) (a := b10) (argsL := [(.ref b4), (.int p0), (.int p1), .null]) (rest := [(.ref b10)]) (lenOf pd_8 rfl) rfl (by show 2 * 0 + _ ≤ _; exact Nat.le_of_eq rfl) (hb hby at_61) (fun _ _ => ⟨rfl, e10, (by decide : 7 + 0 ≤ _), (by decide : 48 + 0 ≤ _)⟩)
  dsimp only [Pt.U, Pt.locs, Pt.cells, Pt.slots] at X11 l11 y11 z11 st11 hQ11
  subst l11 y11 z11
  obtain ⟨rfl, Nq11, Kq11, fq11_0, fq11_1, fq11_2, fq11_3, fq11_4⟩ := hQ11
  have N11 := Fr.app N9 Nq11
  have CH11 := CH10.trans (CHr.keep Kq11 (allS own_safe0 all0) CH10.1)
  have hk11 := Nat.le_trans hk10 Kq11.1
  have O11 := O10.keep Kq11 (allS g_b10 all0)
  have K11 : Keep h0 T11.heap [] := K10.trans Kq11 (allS (Or.inr sz_b10) all0)
  obtain ⟨T12, h12, X12, e12, E12, A12, D12, -, st12⟩ := newO X11 hx hZ9 hown9 (hw _ (List.mem_of_getElem? (i := 53) rfl)) (hw _ (List.mem_of_getElem? (i := 54) rfl)) (hw _ (List.mem_of_getElem? (i := 55) rfl)) rfl (g := (mkF m 79 #[.val (.int p0), .val (.int p1), .val (.int p2), .val (.long p3), .second, .val (.ref b1), .val (.ref b4), .val .null, .val (.ref b10), .val (.int (0 : Int32)), .unset] [])) rfl (hb hby at_79) (by decide) (by decide)
  obtain ⟨b12, g12⟩ : ∃ z, z = T11.heap.size := ⟨_, rfl⟩
  rw [← g12] at A12 D12 st12
  have g_b12 : n0 ≤ b12 := Nat.le_trans (own_sz O11) (Nat.le_of_eq g12.symm)
  have sz_b12 : h0.size ≤ b12 := Nat.le_trans K11.1 (Nat.le_of_eq g12.symm)
  have O12 := O11.ext E12
  have K12 : Keep h0 h12 [] := K11.ext E12
  have CH12 := CH11.trans (CHr.ext E12 CH11.1)
  have hk12 := Nat.le_trans hk11 E12.1
  have F_operation_b12 : Fld Z h12 b12 "com/example/latchwork/latchwork/RecordedForm$Call" "operation" "Lcom/example/latchwork/latchwork/Operation;" .null := D12 (Or.inr (hw _ (List.mem_of_getElem? (i := 61) rfl))) (ty := (.object "com/example/latchwork/latchwork/Operation")) (by decide)
  have F_called_b12 : Fld Z h12 b12 "com/example/latchwork/latchwork/RecordedForm$Call" "called" "I" (.int (0 : Int32)) := D12 (Or.inr (hw _ (List.mem_of_getElem? (i := 63) rfl))) (ty := .int) (by decide)
  have F_answered_b12 : Fld Z h12 b12 "com/example/latchwork/latchwork/RecordedForm$Call" "answered" "I" (.int (0 : Int32)) := D12 (Or.inr (hw _ (List.mem_of_getElem? (i := 65) rfl))) (ty := .int) (by decide)
  have F_result_b12 : Fld Z h12 b12 "com/example/latchwork/latchwork/RecordedForm$Call" "result" "Ljava/lang/Object;" .null := D12 (Or.inr (hw _ (List.mem_of_getElem? (i := 67) rfl))) (ty := (.object "java/lang/Object")) (by decide)
  obtain ⟨_, _, ⟨T13, L13, k13, n13⟩, -, X13, ⟨Lc13, hQ13, l13, y13, z13⟩, st13⟩ := X12.specialBack hx (y := y9) rfl hown9 (mvT hZ9 (hw _ (List.mem_of_getElem? (i := 69) rfl))) (mvT hZ9 (hw _ (List.mem_of_getElem? (i := 70) rfl))) (mvT hZ9 (hw _ (List.mem_of_getElem? (i := 71) rfl))) (by decide) (backOf (W := 1) (rm11 l Z a0 hw [] w_lcache cs_v cl_lcache hp b12 b4 p0 h12 n0 O12 A12 F_operation_b12 F_called_b12 F_answered_b12 F_result_b12 g_b12) hZ9 (hw _ (List.mem_of_getElem? (i := 71) rfl)) (hw _ (List.mem_of_getElem? (i := 55) rfl)) (by decide) (by decide)) (g := (mkF m 86 #[.val (.int p0), .val (.int p1), .val (.int p2), .val (.long p3), .second, .val (.ref b1), .val (.ref b4), .val .null, .val (.ref b10), .val (.int (0 : Int32)), .unset] [(.int p0), (.ref b4), (.ref b12), (.ref b12)])) rfl (by rw [hml]; rfl) (Steps.refl _) (a := b12) (argsL := [(.ref b4), (.int p0)]) (rest := [(.ref b12)]) (lenOf pd_9 rfl) rfl (by show 2 * 0 + _ ≤ _; exact Nat.le_of_eq rfl) (hb hby at_86) (fun _ _ => ⟨rfl, e12, (by decide : 8 + 0 ≤ _), (by decide : 52 + 0 ≤ _)⟩)
  dsimp only [Pt.U, Pt.locs, Pt.cells, Pt.slots] at X13 l13 y13 z13 st13 hQ13
  subst l13 y13 z13
  obtain ⟨rfl, Nq13, Kq13, fq13_0, fq13_1, fq13_2, fq13_3, fq13_4⟩ := hQ13
  have N13 := Fr.app N11 Nq13
  have CH13 := CH12.trans (CHr.keep Kq13 (allS own_safe0 all0) CH12.1)
  have hk13 := Nat.le_trans hk12 Kq13.1
  have O13 := O12.keep Kq13 (allS g_b12 all0)
  have K13 : Keep h0 T13.heap [] := K12.trans Kq13 (allS (Or.inr sz_b12) all0)
  have f_14 := ((fq11_1.ext E12).keep Kq13 (ninS (Nat.ne_of_lt (Nat.lt_of_lt_of_le (A10.keep Kq11).lt (Nat.le_of_eq g12.symm))) nin0))
  obtain ⟨cq15, kq15, q15a, q15b, q15c⟩ := isOf hZ9 rfl ((fq11_0.ext E12).keep Kq13)
  obtain ⟨_, _, ⟨T15, L15, k15, n15⟩, -, X15, ⟨Lc15, hQ15, l15, y15, z15⟩, st15⟩ := X13.virtualBack hx (y := y10) (z := y10) hown9 (mvT hZ9 (hw _ (List.mem_of_getElem? (i := 74) rfl))) (mvT hZ9 (hw _ (List.mem_of_getElem? (i := 75) rfl))) (notFace_of_selects (args := #[]) (mvT hZ9 (hw _ (List.mem_of_getElem? (i := 77) rfl)))) (mvT hZ9 (hw _ (List.mem_of_getElem? (i := 77) rfl))) (mvT hZ9 (hw _ (List.mem_of_getElem? (i := 76) rfl))) (by decide) (backOf (W := 0) (rm24 l Z a0 hw [] w_lcache cs_v cl_lcache hp b10 p1 T13.heap n0 O13 f_14 (own_mx2 hc2)) hZ9 (hw _ (List.mem_of_getElem? (i := 78) rfl)) (hw _ (List.mem_of_getElem? (i := 55) rfl)) (by decide) (by decide)) q15a q15c (g := (mkF m 93 #[.val (.int p0), .val (.int p1), .val (.int p2), .val (.long p3), .second, .val (.ref b1), .val (.ref b4), .val .null, .val (.ref b10), .val (.int (0 : Int32)), .val (.ref b12)] [(.ref b10)])) rfl (by rw [hml]; rfl) (Steps.refl _) (argsL := []) (rest := []) (lenOf pd_10 rfl) rfl (by show 2 * 0 + _ ≤ _; exact Nat.le_of_eq rfl) (hb hby at_93) (fun _ _ => ⟨rfl, rfl, (by decide : 8 + 0 ≤ _), (by decide : 52 + 0 ≤ _)⟩)
  dsimp only [Pt.U, Pt.locs, Pt.cells, Pt.slots] at X15 l15 y15 z15 st15 hQ15
  subst l15 y15 z15
  obtain ⟨rfl, Nq15, eq15⟩ := hQ15
  have N15 := Fr.app N13 Nq15
  obtain ⟨cq16, kq16, q16a, q16b, q16c⟩ := isOf hZ9 eq15 fq13_0
  obtain ⟨_, _, ⟨T16, L16, k16, n16⟩, -, X16, ⟨Lc16, hQ16, l16, y16, z16⟩, st16⟩ := X15.virtualBack hx (y := y10) (z := y10) hown9 (mvT hZ9 (hw _ (List.mem_of_getElem? (i := 74) rfl))) (mvT hZ9 (hw _ (List.mem_of_getElem? (i := 75) rfl))) (notFace_of_selects (args := #[]) (mvT hZ9 (hw _ (List.mem_of_getElem? (i := 77) rfl)))) (mvT hZ9 (hw _ (List.mem_of_getElem? (i := 77) rfl))) (mvT hZ9 (hw _ (List.mem_of_getElem? (i := 76) rfl))) (by decide) (backOf (W := 0) (rm13 l Z a0 hw [] w_lcache cs_v cl_lcache hp b12 T13.heap n0 O13 fq13_1) hZ9 (hw _ (List.mem_of_getElem? (i := 78) rfl)) (hw _ (List.mem_of_getElem? (i := 55) rfl)) (by decide) (by decide)) q16a q16c (g := (mkF m 103 #[.val (.int p0), .val (.int p1), .val (.int p2), .val (.long p3), .second, .val (.ref b1), .val (.ref b4), .val .null, .val (.ref b10), .val (.int (0 : Int32)), .val (.ref b12)] [(.ref b12)])) rfl (by rw [hml]; rfl) (Steps.refl _) (argsL := []) (rest := []) (lenOf pd_10 rfl) rfl (by show 2 * 0 + _ ≤ _; exact Nat.le_of_eq rfl) (hb hby at_103) (fun _ _ => ⟨rfl, eq15, (by decide : 8 + 0 ≤ _), (by decide : 52 + 0 ≤ _)⟩)
  dsimp only [Pt.U, Pt.locs, Pt.cells, Pt.slots] at X16 l16 y16 z16 st16 hQ16
  subst l16 y16 z16
  obtain ⟨rfl, Nq16, eq16⟩ := hQ16
  have N16 := Fr.app N15 Nq16
  obtain ⟨fs, hr, hrun, hended, hE⟩ := Stand.leaveW (s := s) X16 hS9 (by rw [eq16]; exact hk13) (v := some (.int (1 : Int32))) (fun h => by rw [Bd.returns] at h; cases h)
  refine ⟨_, _, pre0 _ ?_, hrun, hended, _, _, rfl, ?_, hE.1, hE.2.1, hE.2.2.1, hE.2.2.2.mono (by decide) (by decide)⟩
  · show Sp p e below s₁ (mkF m 0 #[.val (.int p0), .val (.int p1), .val (.int p2), .val (.long p3), .second, .unset, .unset, .unset, .unset, .unset, .unset] []) _
    refine XS.iconst X0.here hx rfl (hb hby at_0) ?_
    show Sp p e below s₁ (mkF m 1 #[.val (.int p0), .val (.int p1), .val (.int p2), .val (.long p3), .second, .unset, .unset, .unset, .unset, .unset, .unset] [(.int (1 : Int32))]) _
    refine st1 _ ?_
    show Sp p e below T1 (mkF m 3 #[.val (.int p0), .val (.int p1), .val (.int p2), .val (.long p3), .second, .unset, .unset, .unset, .unset, .unset, .unset] [(.ref b1)]) _
    refine XS.astore X1.here hx rfl (hb hby at_3) rfl rfl (l' := #[.val (.int p0), .val (.int p1), .val (.int p2), .val (.long p3), .second, .val (.ref b1), .unset, .unset, .unset, .unset, .unset]) rfl ?_
    show Sp p e below T1 (mkF m 5 #[.val (.int p0), .val (.int p1), .val (.int p2), .val (.long p3), .second, .val (.ref b1), .unset, .unset, .unset, .unset, .unset] []) _
    refine XS.aload X1.here hx rfl (hb hby at_5) rfl rfl ?_
    show Sp p e below T1 (mkF m 7 #[.val (.int p0), .val (.int p1), .val (.int p2), .val (.long p3), .second, .val (.ref b1), .unset, .unset, .unset, .unset, .unset] [(.ref b1)]) _
    refine XS.iconst X1.here hx rfl (hb hby at_7) ?_
    show Sp p e below T1 (mkF m 8 #[.val (.int p0), .val (.int p1), .val (.int p2), .val (.long p3), .second, .val (.ref b1), .unset, .unset, .unset, .unset, .unset] [(.int (0 : Int32)), (.ref b1)]) _
    refine XS.iloadN X1.here hx rfl (hb hby at_8) rfl ?_
    show Sp p e below T1 (mkF m 9 #[.val (.int p0), .val (.int p1), .val (.int p2), .val (.long p3), .second, .val (.ref b1), .unset, .unset, .unset, .unset, .unset] [(.int p2), (.int (0 : Int32)), (.ref b1)]) _
    refine XS.sipush X1.here hx rfl (hb hby at_9) ?_
    show Sp p e below T1 (mkF m 12 #[.val (.int p0), .val (.int p1), .val (.int p2), .val (.long p3), .second, .val (.ref b1), .unset, .unset, .unset, .unset, .unset] [(.int (255 : Int32)), (.int p2), (.int (0 : Int32)), (.ref b1)]) _
    refine XS.iand X1.here hx rfl (hb hby at_12) rfl ?_
    show Sp p e below T1 (mkF m 13 #[.val (.int p0), .val (.int p1), .val (.int p2), .val (.long p3), .second, .val (.ref b1), .unset, .unset, .unset, .unset, .unset] [(.int (p2 &&& (255 : Int32))), (.int (0 : Int32)), (.ref b1)]) _
    refine XS.i2c X1.here hx rfl (hb hby at_13) rfl ?_
    show Sp p e below T1 (mkF m 14 #[.val (.int p0), .val (.int p1), .val (.int p2), .val (.long p3), .second, .val (.ref b1), .unset, .unset, .unset, .unset, .unset] [(.int ((p2 &&& (255 : Int32)).toUInt32.toUInt16.toUInt32.toInt32)), (.int (0 : Int32)), (.ref b1)]) _
    refine st3 _ ?_
    show Sp p e below T3 (mkF m 15 #[.val (.int p0), .val (.int p1), .val (.int p2), .val (.long p3), .second, .val (.ref b1), .unset, .unset, .unset, .unset, .unset] []) _
    refine st4 _ ?_
    show Sp p e below T4 (mkF m 18 #[.val (.int p0), .val (.int p1), .val (.int p2), .val (.long p3), .second, .val (.ref b1), .unset, .unset, .unset, .unset, .unset] [(.ref b4)]) _
    refine XS.dup X4.here hx rfl (hb hby at_18) rfl rfl ?_
    show Sp p e below T4 (mkF m 19 #[.val (.int p0), .val (.int p1), .val (.int p2), .val (.long p3), .second, .val (.ref b1), .unset, .unset, .unset, .unset, .unset] [(.ref b4), (.ref b4)]) _
    refine st5 _ ?_
    show Sp p e below T5 (mkF m 22 #[.val (.int p0), .val (.int p1), .val (.int p2), .val (.long p3), .second, .val (.ref b1), .unset, .unset, .unset, .unset, .unset] [(.ref b5), (.ref b4), (.ref b4)]) _
    refine XS.dup X5.here hx rfl (hb hby at_22) rfl rfl ?_
    show Sp p e below T5 (mkF m 23 #[.val (.int p0), .val (.int p1), .val (.int p2), .val (.long p3), .second, .val (.ref b1), .unset, .unset, .unset, .unset, .unset] [(.ref b5), (.ref b5), (.ref b4), (.ref b4)]) _
    refine XS.aload X5.here hx rfl (hb hby at_23) rfl rfl ?_
    show Sp p e below T5 (mkF m 25 #[.val (.int p0), .val (.int p1), .val (.int p2), .val (.long p3), .second, .val (.ref b1), .unset, .unset, .unset, .unset, .unset] [(.ref b1), (.ref b5), (.ref b5), (.ref b4), (.ref b4)]) _
    refine st6.trans ?_
    show Sp p e below T6 (mkF m 28 #[.val (.int p0), .val (.int p1), .val (.int p2), .val (.long p3), .second, .val (.ref b1), .unset, .unset, .unset, .unset, .unset] [(.ref b5), (.ref b4), (.ref b4)]) _
    refine XS.aconstNull X6.here hx rfl (hb hby at_28) ?_
    show Sp p e below T6 (mkF m 29 #[.val (.int p0), .val (.int p1), .val (.int p2), .val (.long p3), .second, .val (.ref b1), .unset, .unset, .unset, .unset, .unset] [.null, (.ref b5), (.ref b4), (.ref b4)]) _
    refine st9.trans ?_
    show Sp p e below T9 (mkF m 32 #[.val (.int p0), .val (.int p1), .val (.int p2), .val (.long p3), .second, .val (.ref b1), .unset, .unset, .unset, .unset, .unset] [(.ref b4)]) _
    refine XS.astore X9.here hx rfl (hb hby at_32) rfl rfl (l' := #[.val (.int p0), .val (.int p1), .val (.int p2), .val (.long p3), .second, .val (.ref b1), .val (.ref b4), .unset, .unset, .unset, .unset]) rfl ?_
    show Sp p e below T9 (mkF m 34 #[.val (.int p0), .val (.int p1), .val (.int p2), .val (.long p3), .second, .val (.ref b1), .val (.ref b4), .unset, .unset, .unset, .unset] []) _
    refine XS.aconstNull X9.here hx rfl (hb hby at_34) ?_
    show Sp p e below T9 (mkF m 35 #[.val (.int p0), .val (.int p1), .val (.int p2), .val (.long p3), .second, .val (.ref b1), .val (.ref b4), .unset, .unset, .unset, .unset] [.null]) _
    refine XS.astore X9.here hx rfl (hb hby at_35) rfl rfl (l' := #[.val (.int p0), .val (.int p1), .val (.int p2), .val (.long p3), .second, .val (.ref b1), .val (.ref b4), .val .null, .unset, .unset, .unset]) rfl ?_
    show Sp p e below T9 (mkF m 37 #[.val (.int p0), .val (.int p1), .val (.int p2), .val (.long p3), .second, .val (.ref b1), .val (.ref b4), .val .null, .unset, .unset, .unset] []) _
    refine XS.iloadN X9.here hx rfl (hb hby at_37) rfl ?_
    show Sp p e below T9 (mkF m 38 #[.val (.int p0), .val (.int p1), .val (.int p2), .val (.long p3), .second, .val (.ref b1), .val (.ref b4), .val .null, .unset, .unset, .unset] [(.int p2)]) _
    refine XS.sipush X9.here hx rfl (hb hby at_38) ?_
    show Sp p e below T9 (mkF m 41 #[.val (.int p0), .val (.int p1), .val (.int p2), .val (.long p3), .second, .val (.ref b1), .val (.ref b4), .val .null, .unset, .unset, .unset] [(.int (256 : Int32)), (.int p2)]) _
    refine XS.iand X9.here hx rfl (hb hby at_41) rfl ?_
    show Sp p e below T9 (mkF m 42 #[.val (.int p0), .val (.int p1), .val (.int p2), .val (.long p3), .second, .val (.ref b1), .val (.ref b4), .val .null, .unset, .unset, .unset] [(.int (p2 &&& (256 : Int32)))]) _
    refine XS.ifYes X9.here hx rfl (pc0 := 42) (pc' := 51) rfl (hb hby at_42) rfl ((if0 _ _).trans (teq hc1).1) (by decide) (by decide) ?_
    show Sp p e below T9 (mkF m 51 #[.val (.int p0), .val (.int p1), .val (.int p2), .val (.long p3), .second, .val (.ref b1), .val (.ref b4), .val .null, .unset, .unset, .unset] []) _
    refine st10 _ ?_
    show Sp p e below T10 (mkF m 54 #[.val (.int p0), .val (.int p1), .val (.int p2), .val (.long p3), .second, .val (.ref b1), .val (.ref b4), .val .null, .unset, .unset, .unset] [(.ref b10)]) _
    refine XS.dup X10.here hx rfl (hb hby at_54) rfl rfl ?_
    show Sp p e below T10 (mkF m 55 #[.val (.int p0), .val (.int p1), .val (.int p2), .val (.long p3), .second, .val (.ref b1), .val (.ref b4), .val .null, .unset, .unset, .unset] [(.ref b10), (.ref b10)]) _
    refine XS.aload X10.here hx rfl (hb hby at_55) rfl rfl ?_
    show Sp p e below T10 (mkF m 57 #[.val (.int p0), .val (.int p1), .val (.int p2), .val (.long p3), .second, .val (.ref b1), .val (.ref b4), .val .null, .unset, .unset, .unset] [(.ref b4), (.ref b10), (.ref b10)]) _
    refine XS.iloadN X10.here hx rfl (hb hby at_57) rfl ?_
    show Sp p e below T10 (mkF m 58 #[.val (.int p0), .val (.int p1), .val (.int p2), .val (.long p3), .second, .val (.ref b1), .val (.ref b4), .val .null, .unset, .unset, .unset] [(.int p0), (.ref b4), (.ref b10), (.ref b10)]) _
    refine XS.iloadN X10.here hx rfl (hb hby at_58) rfl ?_
    show Sp p e below T10 (mkF m 59 #[.val (.int p0), .val (.int p1), .val (.int p2), .val (.long p3), .second, .val (.ref b1), .val (.ref b4), .val .null, .unset, .unset, .unset] [(.int p1), (.int p0), (.ref b4), (.ref b10), (.ref b10)]) _
    refine XS.aload X10.here hx rfl (hb hby at_59) rfl rfl ?_
    show Sp p e below T10 (mkF m 61 #[.val (.int p0), .val (.int p1), .val (.int p2), .val (.long p3), .second, .val (.ref b1), .val (.ref b4), .val .null, .unset, .unset, .unset] [.null, (.int p1), (.int p0), (.ref b4), (.ref b10), (.ref b10)]) _
    refine st11.trans ?_
    show Sp p e below T11 (mkF m 64 #[.val (.int p0), .val (.int p1), .val (.int p2), .val (.long p3), .second, .val (.ref b1), .val (.ref b4), .val .null, .unset, .unset, .unset] [(.ref b10)]) _
    refine XS.astore X11.here hx rfl (hb hby at_64) rfl rfl (l' := #[.val (.int p0), .val (.int p1), .val (.int p2), .val (.long p3), .second, .val (.ref b1), .val (.ref b4), .val .null, .val (.ref b10), .unset, .unset]) rfl ?_
    show Sp p e below T11 (mkF m 66 #[.val (.int p0), .val (.int p1), .val (.int p2), .val (.long p3), .second, .val (.ref b1), .val (.ref b4), .val .null, .val (.ref b10), .unset, .unset] []) _
    refine XS.iloadN X11.here hx rfl (hb hby at_66) rfl ?_
    show Sp p e below T11 (mkF m 67 #[.val (.int p0), .val (.int p1), .val (.int p2), .val (.long p3), .second, .val (.ref b1), .val (.ref b4), .val .null, .val (.ref b10), .unset, .unset] [(.int p1)]) _
    refine X11.ldcI hx hown9 (mvT hZ9 (hw _ (List.mem_of_getElem? (i := 68) rfl))) rfl (hb hby at_67) ?_
    show Sp p e below T11 (mkF m 69 #[.val (.int p0), .val (.int p1), .val (.int p2), .val (.long p3), .second, .val (.ref b1), .val (.ref b4), .val .null, .val (.ref b10), .unset, .unset] [(.int (2147483647 : Int32)), (.int p1)]) _
    refine XS.icmpYes X11.here hx rfl (pc0 := 69) (pc' := 76) rfl (hb hby at_69) rfl (flt hc2).2.1 (by decide) (by decide) ?_
    show Sp p e below T11 (mkF m 76 #[.val (.int p0), .val (.int p1), .val (.int p2), .val (.long p3), .second, .val (.ref b1), .val (.ref b4), .val .null, .val (.ref b10), .unset, .unset] []) _
    refine XS.iconst X11.here hx rfl (hb hby at_76) ?_
    show Sp p e below T11 (mkF m 77 #[.val (.int p0), .val (.int p1), .val (.int p2), .val (.long p3), .second, .val (.ref b1), .val (.ref b4), .val .null, .val (.ref b10), .unset, .unset] [(.int (0 : Int32))]) _
    refine XS.istore X11.here hx rfl (hb hby at_77) rfl (l' := #[.val (.int p0), .val (.int p1), .val (.int p2), .val (.long p3), .second, .val (.ref b1), .val (.ref b4), .val .null, .val (.ref b10), .val (.int (0 : Int32)), .unset]) rfl ?_
    show Sp p e below T11 (mkF m 79 #[.val (.int p0), .val (.int p1), .val (.int p2), .val (.long p3), .second, .val (.ref b1), .val (.ref b4), .val .null, .val (.ref b10), .val (.int (0 : Int32)), .unset] []) _
    refine st12 _ ?_
    show Sp p e below T12 (mkF m 82 #[.val (.int p0), .val (.int p1), .val (.int p2), .val (.long p3), .second, .val (.ref b1), .val (.ref b4), .val .null, .val (.ref b10), .val (.int (0 : Int32)), .unset] [(.ref b12)]) _
    refine XS.dup X12.here hx rfl (hb hby at_82) rfl rfl ?_
    show Sp p e below T12 (mkF m 83 #[.val (.int p0), .val (.int p1), .val (.int p2), .val (.long p3), .second, .val (.ref b1), .val (.ref b4), .val .null, .val (.ref b10), .val (.int (0 : Int32)), .unset] [(.ref b12), (.ref b12)]) _
    refine XS.aload X12.here hx rfl (hb hby at_83) rfl rfl ?_
    show Sp p e below T12 (mkF m 85 #[.val (.int p0), .val (.int p1), .val (.int p2), .val (.long p3), .second, .val (.ref b1), .val (.ref b4), .val .null, .val (.ref b10), .val (.int (0 : Int32)), .unset] [(.ref b4), (.ref b12), (.ref b12)]) _
    refine XS.iloadN X12.here hx rfl (hb hby at_85) rfl ?_
    show Sp p e below T12 (mkF m 86 #[.val (.int p0), .val (.int p1), .val (.int p2), .val (.long p3), .second, .val (.ref b1), .val (.ref b4), .val .null, .val (.ref b10), .val (.int (0 : Int32)), .unset] [(.int p0), (.ref b4), (.ref b12), (.ref b12)]) _
    refine st13.trans ?_
    show Sp p e below T13 (mkF m 89 #[.val (.int p0), .val (.int p1), .val (.int p2), .val (.long p3), .second, .val (.ref b1), .val (.ref b4), .val .null, .val (.ref b10), .val (.int (0 : Int32)), .unset] [(.ref b12)]) _
    refine XS.astore X13.here hx rfl (hb hby at_89) rfl rfl (l' := #[.val (.int p0), .val (.int p1), .val (.int p2), .val (.long p3), .second, .val (.ref b1), .val (.ref b4), .val .null, .val (.ref b10), .val (.int (0 : Int32)), .val (.ref b12)]) rfl ?_
    show Sp p e below T13 (mkF m 91 #[.val (.int p0), .val (.int p1), .val (.int p2), .val (.long p3), .second, .val (.ref b1), .val (.ref b4), .val .null, .val (.ref b10), .val (.int (0 : Int32)), .val (.ref b12)] []) _
    refine XS.aload X13.here hx rfl (hb hby at_91) rfl rfl ?_
    show Sp p e below T13 (mkF m 93 #[.val (.int p0), .val (.int p1), .val (.int p2), .val (.long p3), .second, .val (.ref b1), .val (.ref b4), .val .null, .val (.ref b10), .val (.int (0 : Int32)), .val (.ref b12)] [(.ref b10)]) _
    refine st15.trans ?_
    show Sp p e below T15 (mkF m 96 #[.val (.int p0), .val (.int p1), .val (.int p2), .val (.long p3), .second, .val (.ref b1), .val (.ref b4), .val .null, .val (.ref b10), .val (.int (0 : Int32)), .val (.ref b12)] [(.int (0 : Int32))]) _
    refine XS.iload X15.here hx rfl (hb hby at_96) rfl ?_
    show Sp p e below T15 (mkF m 98 #[.val (.int p0), .val (.int p1), .val (.int p2), .val (.long p3), .second, .val (.ref b1), .val (.ref b4), .val .null, .val (.ref b10), .val (.int (0 : Int32)), .val (.ref b12)] [(.int (0 : Int32)), (.int (0 : Int32))]) _
    refine XS.icmpNo X15.here hx rfl (hb hby at_98) rfl (teq (by decide : (0 : Int32) = (0 : Int32))).2 ?_
    show Sp p e below T15 (mkF m 101 #[.val (.int p0), .val (.int p1), .val (.int p2), .val (.long p3), .second, .val (.ref b1), .val (.ref b4), .val .null, .val (.ref b10), .val (.int (0 : Int32)), .val (.ref b12)] []) _
    refine XS.aload X15.here hx rfl (hb hby at_101) rfl rfl ?_
    show Sp p e below T15 (mkF m 103 #[.val (.int p0), .val (.int p1), .val (.int p2), .val (.long p3), .second, .val (.ref b1), .val (.ref b4), .val .null, .val (.ref b10), .val (.int (0 : Int32)), .val (.ref b12)] [(.ref b12)]) _
    refine st16.trans ?_
    show Sp p e below T16 (mkF m 106 #[.val (.int p0), .val (.int p1), .val (.int p2), .val (.long p3), .second, .val (.ref b1), .val (.ref b4), .val .null, .val (.ref b10), .val (.int (0 : Int32)), .val (.ref b12)] [(.int (0 : Int32))]) _
    refine XS.ifNo X16.here hx rfl (hb hby at_106) rfl ((if0 _ _).trans (teq (by decide : (0 : Int32) = (0 : Int32))).2) ?_
    show Sp p e below T16 (mkF m 109 #[.val (.int p0), .val (.int p1), .val (.int p2), .val (.long p3), .second, .val (.ref b1), .val (.ref b4), .val .null, .val (.ref b10), .val (.int (0 : Int32)), .val (.ref b12)] []) _
    refine XS.iconst X16.here hx rfl (hb hby at_109) ?_
    show Sp p e below T16 (mkF m 110 #[.val (.int p0), .val (.int p1), .val (.int p2), .val (.long p3), .second, .val (.ref b1), .val (.ref b4), .val .null, .val (.ref b10), .val (.int (0 : Int32)), .val (.ref b12)] [(.int (1 : Int32))]) _
    refine XS.goto X16.here hx rfl (pc0 := 110) (pc' := 114) rfl (hb hby at_110) (by decide) (by decide) ?_
    show Sp p e below T16 (mkF m 114 #[.val (.int p0), .val (.int p1), .val (.int p2), .val (.long p3), .second, .val (.ref b1), .val (.ref b4), .val .null, .val (.ref b10), .val (.int (0 : Int32)), .val (.ref b12)] [(.int (1 : Int32))]) _
    exact retN X16 hx (t := .boolean) Bd.returns (by simp) (hb hby at_114) hr
  · skip
    exact ⟨rfl, N16⟩
set_option maxRecDepth 65536 in
set_option maxHeartbeats 4000000 in
theorem rm_law (l : Launch) (Z : State) (a0 : Array Value) (hw : ∀ d ∈ tables_1, d.before a0 Z = true) (ws : List Jvm.Cond) (w_lcache : Addr) (cs_v : Int32) (cl_lcache : Cell) (hp : Perm Z w_lcache cs_v cl_lcache) (p0 : Int32) (p1 : Int32) (p2 : Int32) (p3 : Int64) (h0 : Heap) (n0 : Nat) (O0 : Old Z n0 h0) :
    MetFree l x (head1 (Jvm.Cond.code x code maxLocals ret :: ws) room_1) (fun a U => a = #[(.int p0), (.int p1), (.int p2), (.long p3)] ∧ Z.Warmed39 U.vm ∧ U.heap = h0 ∧ CHv Z own_EL U.vm h0) (fun _ _ _ _ _ => True) (fun _ U o U' => ∃ v L, o = .returned v ∧ (v = some (.int (1 : Int32)) ∧ Fr n0 L) ∧ ReturnedEndW U o U' L 24 1152) := by
  by_cases d0 : (p2 &&& (256 : Int32)) = (0 : Int32)
  · skip
    by_cases d1 : p1 < (2147483647 : Int32)
    · skip
      exact rm14 l Z a0 hw ws w_lcache cs_v cl_lcache hp p0 p1 p2 p3 h0 n0 O0 d0 d1
    · skip
      exact rm28 l Z a0 hw ws w_lcache cs_v cl_lcache hp p0 p1 p2 p3 h0 n0 O0 d0 d1
  · skip
    by_cases d1 : (lcmpW p3 (-128 : Int64)) < (0 : Int32)
    · skip
      by_cases d2 : p1 < (2147483647 : Int32)
      · skip
        exact rm19 l Z a0 hw ws w_lcache cs_v cl_lcache hp p0 p1 p2 p3 h0 n0 O0 d0 d1 d2
      · skip
        exact rm27 l Z a0 hw ws w_lcache cs_v cl_lcache hp p0 p1 p2 p3 h0 n0 O0 d0 d1 d2
    · skip
      by_cases d2 : (0 : Int32) < (lcmpW p3 (127 : Int64))
      · skip
        by_cases d3 : p1 < (2147483647 : Int32)
        · skip
          exact rm21 l Z a0 hw ws w_lcache cs_v cl_lcache hp p0 p1 p2 p3 h0 n0 O0 d0 d1 d2 d3
        · skip
          exact rm26 l Z a0 hw ws w_lcache cs_v cl_lcache hp p0 p1 p2 p3 h0 n0 O0 d0 d1 d2 d3
      · skip
        by_cases d3 : p1 < (2147483647 : Int32)
        · skip
          exact rm23 l Z a0 hw ws w_lcache cs_v cl_lcache hp p0 p1 p2 p3 h0 n0 O0 d0 d1 d2 d3
        · skip
          exact rm25 l Z a0 hw ws w_lcache cs_v cl_lcache hp p0 p1 p2 p3 h0 n0 O0 d0 d1 d2 d3
set_option maxRecDepth 65536 in
set_option maxHeartbeats 40000000 in
theorem comes_1 {Post : Tables → Env → Array Value → State → Outcome → State → Prop} (hpost : ∀ tb e args s v u, (limb_1_1.after args s (.returned v) u = true ∧ limb_1_2.after args s (.returned v) u = true ∧ True) → ReturnedEndW s (.returned v) u (Jvm.fieldLocs frame_1_writes args s ++ Jvm.arrayLocs frame_1_arrays args s ++ Jvm.staticLocs frame_1_statics s) 24 1152 → Post tb e args s (.returned v) u) :
    ArmFor flags0 classFile x code maxLocals ret World_1 tables_1 room_1 Calls_1 rest_1 Pre_1 Post := by
  intro l hfl _ _ p e ha hc hk s m args below hf hA hF happ hP
  obtain ⟨hcalls, hrest, hpre⟩ := hP
  obtain ⟨-, -, -, hnamed, -, -, -, hat⟩ := (Spec.applies_iff hf).mp happ
  obtain ⟨hg, hn⟩ := and_e (Cond.before_iff.mp (show (Jvm.Cond.and given_1 narrow_1).before args s = true from hpre))
  obtain ⟨h1, hg⟩ := and_e hg
  obtain ⟨ga0, hg⟩ := and_e hg
  obtain ⟨ga1, hg⟩ := and_e hg
  obtain ⟨ga2, hg⟩ := and_e hg
  have ga3 := hg
  obtain ⟨w0, w1, w2, w3, rfl⟩ : ∃ w0 w1 w2 w3 : Value, args = #[w0, w1, w2, w3] := by
    have hs : args.size = 4 := by simpa [Cond.value, given_1] using h1
    obtain ⟨L⟩ := args
    match L, hs with
    | [w0, w1, w2, w3], _ => exact ⟨w0, w1, w2, w3, rfl⟩
  have hw := fun d (hd : d ∈ tables_1) => atoms_spec (ws := Jvm.Cond.code x code maxLocals ret :: tables_1) hat d (List.mem_cons_of_mem _ hd)
  have hfit : Fit s := fun {y c} hc i hi => by
    obtain ⟨ha, rfl⟩ := Array.getElem?_eq_some_iff.mp hc
    have q := List.all_eq_true.mp ((Array.all_eq_true_iff_forall_mem.mp hF) _ (Array.getElem_mem ha)) i (List.mem_range.mpr hi)
    simpa [Array.getElem?_eq_getElem hi] using q
  obtain ⟨hsets, hown0⟩ := atoms_of _ (rest_1_c_eq ▸ (show rest_1_c.before _ s = true from hrest))
  have hr0 := Cond.before_iff.mp hown0
  obtain ⟨i0, ei0⟩ := is_v ga0
  obtain rfl : w0 = (.int i0) := Option.some.inj ei0
  obtain ⟨i1, ei1⟩ := is_v ga1
  obtain rfl : w1 = (.int i1) := Option.some.inj ei1
  obtain ⟨i2, ei2⟩ := is_v ga2
  obtain rfl : w2 = (.int i2) := Option.some.inj ei2
  obtain ⟨i3, ei3⟩ := isL_v ga3
  obtain rfl : w3 = (.long i3) := Option.some.inj ei3
  obtain ⟨cs_v, ev_cs⟩ := is_v (Cond.before_iff.mp (hsets _ (List.mem_of_getElem? (i := 1) rfl)))
  have S_COMPACT_STRINGS := Sta.start ev_cs (Or.inl (hsets _ (List.mem_of_getElem? (i := 0) rfl)))
  have h_cs : ¬ (cs_v = (0 : Int32)) := gotF (Cond.eq_ints ev_cs (Term.int_eval (0 : Int32))) (not_v (r := true) (Cond.before_iff.mp (hsets _ (List.mem_of_getElem? (i := 2) rfl))))
  obtain ⟨w_lcache, ev_lcache⟩ := arr_v (Cond.before_iff.mp (hsets _ (List.mem_of_getElem? (i := 11) rfl)))
  have S_w_lcache := Sta.start ev_lcache (Or.inl (hsets _ (List.mem_of_getElem? (i := 10) rfl)))
  obtain ⟨cl_lcache, A_lcache⟩ := Arr.start ev_lcache (Cond.before_iff.mp (hsets _ (List.mem_of_getElem? (i := 11) rfl)))
  obtain ⟨l_lcache, n_lcache⟩ := own_valo ev_lcache A_lcache (hsets _ (List.mem_of_getElem? (i := 13) rfl))
  have B_lcache : Bxs s w_lcache cl_lcache "java/lang/Long" "J" (256 : Int32) (fun j => .long (j - (128 : Int32)).toInt64) := Bxs.start (fun _ => ev_lcache) A_lcache l_lcache n_lcache (by decide) (Cond.before_iff.mp (hsets _ (List.mem_of_getElem? (i := 14) rfl))) (fun X j nn h => eqv_l (i2l_at (Term.sub_int (idx_at nn) rfl)) h)
  have hCHs : CHv s own_EL s.vm s.heap := fun _ hp => nomatch hp
  obtain ⟨n, o, h1, h2, h3, _, L, rfl, ⟨rfl, N⟩, hq⟩ := rm_law l s _ hw tables_1 w_lcache cs_v cl_lcache ⟨S_COMPACT_STRINGS, h_cs, S_w_lcache, B_lcache⟩ i0 i1 i2 i3 s.heap s.heap.size (Old.start s) p e ha hc hk s m _ below hf ((Spec.applies_iff_loose hf).mp happ).1 ⟨rfl, State.Warmed39.refl s, rfl, hCHs⟩ trivial
  refine ⟨n, _, h1, h2, h3, hpost _ _ _ _ _ _ ⟨Cond.after_iff.mpr rfl, Cond.after_iff.mpr (eq_i res_at (Term.int_eval (1)) rfl), trivial⟩ ⟨hq.1, hq.2.1, hq.2.2.1, (hq.2.2.2.sift fun y hy => Or.inr (N y hy)).mono (by decide) (by decide)⟩⟩
theorem main_1_1 : Claimed_1_1 := comes_1 fun _ _ _ _ _ _ h hF => ⟨h.1, hF⟩
theorem main_1_2 : Claimed_1_2 := comes_1 fun _ _ _ _ _ _ h hF => ⟨h.2.1, hF⟩
end Jvm.Pilot.@@N@@
namespace Jvm.Pilot.@@N@@
open Jvm Jvm.ClassFile Sem Op Lib Jvm.Free Jvm.Stand Jvm.Pilot.@@N@@.Jvm.D
/-! MADE BY PROGRAM (witnessworld.py) out of the Statement's table words and the real class files: 27 classes; the members and pool entries that the words name. The judged class is class 1, her method 1. -/
namespace start1
open Jvm.ClassFile
def u (s : String) : CpInfo := .utf8 (stringToUtf16 s)
/-- a pool by its gaps: so many unusable entries, then the entry; so many at the end -/
def gap : Nat → List CpInfo → List CpInfo
  | 0, r => r
  | n + 1, r => .unusable :: gap n r
def poolList (es : List (Nat × CpInfo)) (last : Nat) : List CpInfo := es.foldr (fun e r => gap e.1 (e.2 :: r)) (gap last [])
def pool (es : List (Nat × CpInfo)) (last : Nat) : Array CpInfo := ⟨poolList es last⟩
def fileOf (pool : Array CpInfo) (this : Nat) (attrs : Array Attribute := #[]) (ms : Array MethodInfo := #[]) (fl : Nat := 33) (sup : Nat := 0) (ifs : Array Nat := #[]) (fds : Array FieldInfo := #[]) : ClassFile where
  minorVersion := 0
  majorVersion := 65
  constantPool := pool
  accessFlags := fl
  thisClass := this
  superClass := sup
  interfaces := ifs
  fields := fds
  methods := ms
  attributes := attrs
def plain (name : String) (sup : Option ClassId) : Class where
  name := name
  kind := .ordinary
  loader := none
  accessFlags := 33
  super := sup
  interfaces := #[]
  cf := none
  fields := #[]
  methods := #[]
  instanceTypes := #[]
  staticTypes := #[]
  resolved := #[]
  callSites := []
  init := .initialized
  statics := none
  mirror := none

def pool0 : Array CpInfo := pool [(5, u "<init>"), (0, u "()V"), (1, .class_ 10), (1, u "java/lang/Object")] 113

def k0c0 : Code := { maxStack := 0, maxLocals := 1, code := object_method_1_code, exceptionTable := #[], attributes := #[] }
def k0m0 : Method := { name := "<init>", desc := "()V", sig := { parameters := [], returnType := none }, accessFlags := 1, code := some k0c0 }
/-- java/lang/Object -/
def k0 : Class := { plain "java/lang/Object" none with
  accessFlags := 33
  interfaces := #[]
  cf := some (fileOf pool0 8 #[] #[{ accessFlags := 1, nameIndex := 5, descriptorIndex := 6, attributes := #[] }] 33 0 #[] #[])
  fields := #[]
  methods := #[k0m0]
  instanceTypes := #[]
  staticTypes := #[]
  resolved := Array.replicate 124 none
  statics := none }

def pool1 : Array CpInfo := pool [(2, .class_ 4), (1, u "java/lang/Object"), (0, u "<init>"), (0, u "()V"), (0, .class_ 8), (0, u "com/example/latchwork/latchwork/Operation"), (0, .class_ 10), (0, u "java/lang/String"), (0, .methodref 9 12), (0, .nameAndType 5 13), (0, u "([C)V"), (0, .methodref 7 15), (0, .nameAndType 5 16), (0, u "(Ljava/lang/String;Ljava/lang/Object;)V"), (0, .methodref 18 19), (0, .class_ 20), (0, .nameAndType 21 22), (0, u "java/lang/Long"), (0, u "valueOf"), (0, u "(J)Ljava/lang/Long;"), (0, .class_ 24), (0, u "com/example/latchwork/latchwork/RecordedForm$Call"), (0, .methodref 23 26), (0, .nameAndType 5 27), (0, u "(Lcom/example/latchwork/latchwork/Operation;IILjava/lang/Object;)V"), (2, .integer 2147483647), (0, .methodref 23 32), (0, .nameAndType 5 33), (0, u "(Lcom/example/latchwork/latchwork/Operation;I)V"), (0, .methodref 23 35), (0, .nameAndType 36 37), (0, u "isAnswered"), (0, u "()Z"), (0, .class_ 39), (0, u "com/example/latchwork/latchwork/CallIsAnsweredPinLaw"), (2, u "law"), (0, u "(IIIJ)Z")] 9

def k1m0 : Method := { name := "<init>", desc := "()V", sig := { parameters := [], returnType := none }, accessFlags := 1, code := none }
def k1c1 : Code := { maxStack := 6, maxLocals := 11, code := code, exceptionTable := #[], attributes := #[] }
def k1m1 : Method := { name := "law", desc := "(IIIJ)Z", sig := { parameters := [.int, .int, .int, .long], returnType := some .boolean }, accessFlags := 9, code := some k1c1 }
/-- com/example/latchwork/latchwork/CallIsAnsweredPinLaw -/
def k1 : Class := { plain "com/example/latchwork/latchwork/CallIsAnsweredPinLaw" (some 0) with
  accessFlags := 49
  interfaces := #[]
  cf := some (fileOf pool1 38 #[] #[{ accessFlags := 1, nameIndex := 5, descriptorIndex := 6, attributes := #[] }, { accessFlags := 9, nameIndex := 42, descriptorIndex := 43, attributes := #[] }] 49 2 #[] #[])
  fields := #[]
  methods := #[k1m0, k1m1]
  instanceTypes := #[]
  staticTypes := #[]
  resolved := Array.replicate 53 none
  statics := none }

def pool2 : Array CpInfo := pool [(1, .methodref 2 3), (0, .class_ 4), (0, .nameAndType 5 6), (0, u "java/lang/Object"), (0, u "<init>"), (0, u "()V"), (0, .class_ 8), (0, u "java/lang/Record")] 13

def k2c0 : Code := { maxStack := 1, maxLocals := 1, code := jdk_30_method_1_code, exceptionTable := #[], attributes := #[] }
def k2m0 : Method := { name := "<init>", desc := "()V", sig := { parameters := [], returnType := none }, accessFlags := 4, code := some k2c0 }
/-- java/lang/Record -/
def k2 : Class := { plain "java/lang/Record" (some 0) with
  accessFlags := 1057
  interfaces := #[]
  cf := some (fileOf pool2 7 #[] #[{ accessFlags := 4, nameIndex := 5, descriptorIndex := 6, attributes := #[] }] 1057 2 #[] #[])
  fields := #[]
  methods := #[k2m0]
  instanceTypes := #[]
  staticTypes := #[]
  resolved := Array.replicate 22 none
  statics := none }

def pool3 : Array CpInfo := pool [(1, .methodref 2 3), (0, .class_ 4), (0, .nameAndType 5 6), (0, u "java/lang/Record"), (0, u "<init>"), (0, u "()V"), (0, .string 8), (0, u "function"), (0, .methodref 10 11), (0, .class_ 12), (0, .nameAndType 13 14), (0, u "java/util/Objects"), (0, u "requireNonNull"), (0, u "(Ljava/lang/Object;Ljava/lang/String;)Ljava/lang/Object;"), (0, .fieldref 16 17), (0, .class_ 18), (0, .nameAndType 8 19), (0, u "com/example/latchwork/latchwork/Operation"), (0, u "Ljava/lang/String;"), (0, .fieldref 16 21), (0, .nameAndType 22 23), (0, u "argument"), (0, u "Ljava/lang/Object;"), (20, u "(Ljava/lang/String;Ljava/lang/Object;)V")] 40

def k3c0 : Code := { maxStack := 2, maxLocals := 3, code := prog_12_method_1_code, exceptionTable := #[], attributes := #[] }
def k3m0 : Method := { name := "<init>", desc := "(Ljava/lang/String;Ljava/lang/Object;)V", sig := { parameters := [(.object "java/lang/String"), (.object "java/lang/Object")], returnType := none }, accessFlags := 1, code := some k3c0 }
/-- com/example/latchwork/latchwork/Operation -/
def k3 : Class := { plain "com/example/latchwork/latchwork/Operation" (some 2) with
  accessFlags := 49
  interfaces := #[]
  cf := some (fileOf pool3 16 #[] #[{ accessFlags := 1, nameIndex := 5, descriptorIndex := 44, attributes := #[] }] 49 2 #[] #[{ accessFlags := 18, nameIndex := 8, descriptorIndex := 19, attributes := #[] }, { accessFlags := 18, nameIndex := 22, descriptorIndex := 23, attributes := #[] }])
  fields := #[{ name := "function", type := (.object "java/lang/String"), accessFlags := 18, slot := 0, constantValue := 0 }, { name := "argument", type := (.object "java/lang/Object"), accessFlags := 18, slot := 1, constantValue := 0 }]
  methods := #[k3m0]
  instanceTypes := #[(.object "java/lang/String"), (.object "java/lang/Object")]
  staticTypes := #[]
  resolved := Array.replicate 85 none
  statics := none }

def pool4 : Array CpInfo := pool [(1, .class_ 2), (0, u "java/io/Serializable"), (0, .class_ 4), (0, u "java/lang/Object")] 2

/-- java/io/Serializable -/
def k4 : Class := { plain "java/io/Serializable" (some 0) with
  accessFlags := 1537
  interfaces := #[]
  cf := some (fileOf pool4 1 #[] #[] 1537 3 #[] #[])
  fields := #[]
  methods := #[]
  instanceTypes := #[]
  staticTypes := #[]
  resolved := Array.replicate 7 none
  statics := none }

def pool5 : Array CpInfo := pool [(1, .class_ 2), (0, u "java/lang/Comparable"), (0, .class_ 4), (0, u "java/lang/Object")] 7

/-- java/lang/Comparable -/
def k5 : Class := { plain "java/lang/Comparable" (some 0) with
  accessFlags := 1537
  interfaces := #[]
  cf := some (fileOf pool5 1 #[] #[] 1537 3 #[] #[])
  fields := #[]
  methods := #[]
  instanceTypes := #[]
  staticTypes := #[]
  resolved := Array.replicate 12 none
  statics := none }

def pool6 : Array CpInfo := pool [(2, .class_ 4), (1, u "java/lang/CharSequence"), (42, .class_ 48), (0, u "java/lang/CharSequence$1CodePointIterator"), (10, .class_ 60), (0, u "java/lang/CharSequence$1CharIterator"), (5, .class_ 67), (0, u "java/lang/Object")] 63

/-- java/lang/CharSequence -/
def k6 : Class := { plain "java/lang/CharSequence" (some 0) with
  accessFlags := 1537
  interfaces := #[]
  cf := some (fileOf pool6 2 #[.nestMembers #[47, 59]] #[] 1537 66 #[] #[])
  fields := #[]
  methods := #[]
  instanceTypes := #[]
  staticTypes := #[]
  resolved := Array.replicate 131 none
  statics := none }

def pool7 : Array CpInfo := pool [(1, .class_ 2), (0, u "java/lang/constant/Constable"), (0, .class_ 4), (0, u "java/lang/Object")] 6

/-- java/lang/constant/Constable -/
def k7 : Class := { plain "java/lang/constant/Constable" (some 0) with
  accessFlags := 1537
  interfaces := #[]
  cf := some (fileOf pool7 1 #[] #[] 1537 3 #[] #[])
  fields := #[]
  methods := #[]
  instanceTypes := #[]
  staticTypes := #[]
  resolved := Array.replicate 11 none
  statics := none }

def pool8 : Array CpInfo := pool [(1, .class_ 2), (0, u "java/lang/constant/ConstantDesc"), (0, .class_ 4), (0, u "java/lang/Object")] 32

/-- java/lang/constant/ConstantDesc -/
def k8 : Class := { plain "java/lang/constant/ConstantDesc" (some 0) with
  accessFlags := 1537
  interfaces := #[]
  cf := some (fileOf pool8 1 #[] #[] 1537 3 #[] #[])
  fields := #[]
  methods := #[]
  instanceTypes := #[]
  staticTypes := #[]
  resolved := Array.replicate 37 none
  statics := none }

def pool9 : Array CpInfo := pool [(1, .methodref 2 3), (0, .class_ 4), (0, .nameAndType 5 6), (0, u "java/lang/Object"), (0, u "<init>"), (0, u "()V"), (2, .fieldref 10 11), (0, .class_ 12), (0, .nameAndType 13 14), (0, u "java/lang/String"), (0, u "value"), (0, u "[B"), (0, .fieldref 10 16), (0, .nameAndType 17 18), (0, u "coder"), (0, u "B"), (2, u "hash"), (0, u "I"), (2, u "hashIsZero"), (0, u "Z"), (0, .methodref 10 28), (0, .nameAndType 5 29), (0, u "([CIILjava/lang/Void;)V"), (8, .fieldref 10 39), (0, .nameAndType 40 26), (0, u "COMPACT_STRINGS"), (1, .class_ 44), (1, u "java/lang/StringUTF16"), (0, u "compress"), (1, .methodref 42 48), (0, .nameAndType 49 50), (0, u "coderFromArrayLen"), (0, u "([BI)B"), (126, .methodref 42 178), (0, .nameAndType 45 179), (0, u "([CII)[B"), (395, .class_ 576), (0, u "java/lang/CharSequence"), (22, u "CASE_INSENSITIVE_ORDER"), (0, u "Ljava/util/Comparator;"), (409, u "([C)V"), (90, u "serialPersistentFields"), (0, u "[Ljava/io/ObjectStreamField;"), (0, .class_ 1104), (0, u "java/lang/String$CaseInsensitiveComparator"), (1, .class_ 1107), (0, u "java/io/Serializable"), (0, .class_ 1109), (0, u "java/lang/Comparable"), (0, .class_ 1111), (0, u "java/lang/constant/Constable"), (0, .class_ 1113), (0, u "java/lang/constant/ConstantDesc"), (2, u "serialVersionUID"), (0, u "J"), (3, u "REPL"), (0, u "C"), (2, u "LATIN1"), (1, u "UTF16")] 323

def k9m0 : Method := { name := "<init>", desc := "()V", sig := { parameters := [], returnType := none }, accessFlags := 1, code := none }
def k9c1 : Code := { maxStack := 5, maxLocals := 2, code := jdk_42_method_3_code, exceptionTable := #[], attributes := #[] }
def k9m1 : Method := { name := "<init>", desc := "([C)V", sig := { parameters := [(.array .char)], returnType := none }, accessFlags := 1, code := some k9c1 }
def k9c2 : Code := { maxStack := 4, maxLocals := 6, code := jdk_42_method_149_code, exceptionTable := #[], attributes := #[] }
def k9m2 : Method := { name := "<init>", desc := "([CIILjava/lang/Void;)V", sig := { parameters := [(.array .char), .int, .int, (.object "java/lang/Void")], returnType := none }, accessFlags := 2, code := some k9c2 }
/-- java/lang/String -/
def k9 : Class := { plain "java/lang/String" (some 0) with
  accessFlags := 49
  interfaces := #[4, 5, 6, 7, 8]
  cf := some (fileOf pool9 10 #[.nestMembers #[1103]] #[{ accessFlags := 1, nameIndex := 5, descriptorIndex := 6, attributes := #[] }, { accessFlags := 1, nameIndex := 5, descriptorIndex := 1010, attributes := #[] }, { accessFlags := 2, nameIndex := 5, descriptorIndex := 29, attributes := #[] }] 49 2 #[1106, 1108, 575, 1110, 1112] #[{ accessFlags := 18, nameIndex := 13, descriptorIndex := 14, attributes := #[] }, { accessFlags := 18, nameIndex := 17, descriptorIndex := 18, attributes := #[] }, { accessFlags := 2, nameIndex := 21, descriptorIndex := 22, attributes := #[] }, { accessFlags := 2, nameIndex := 25, descriptorIndex := 26, attributes := #[] }, { accessFlags := 26, nameIndex := 1116, descriptorIndex := 1117, attributes := #[] }, { accessFlags := 24, nameIndex := 40, descriptorIndex := 26, attributes := #[] }, { accessFlags := 26, nameIndex := 1101, descriptorIndex := 1102, attributes := #[] }, { accessFlags := 26, nameIndex := 1121, descriptorIndex := 1122, attributes := #[] }, { accessFlags := 25, nameIndex := 599, descriptorIndex := 600, attributes := #[] }, { accessFlags := 24, nameIndex := 1125, descriptorIndex := 18, attributes := #[] }, { accessFlags := 24, nameIndex := 1127, descriptorIndex := 18, attributes := #[] }])
  fields := #[{ name := "value", type := (.array .byte), accessFlags := 18, slot := 0, constantValue := 0 }, { name := "coder", type := .byte, accessFlags := 18, slot := 1, constantValue := 0 }, { name := "hash", type := .int, accessFlags := 2, slot := 2, constantValue := 0 }, { name := "hashIsZero", type := .boolean, accessFlags := 2, slot := 3, constantValue := 0 }, { name := "serialVersionUID", type := .long, accessFlags := 26, slot := 0, constantValue := 0 }, { name := "COMPACT_STRINGS", type := .boolean, accessFlags := 24, slot := 1, constantValue := 0 }, { name := "serialPersistentFields", type := (.array (.object "java/io/ObjectStreamField")), accessFlags := 26, slot := 2, constantValue := 0 }, { name := "REPL", type := .char, accessFlags := 26, slot := 3, constantValue := 0 }, { name := "CASE_INSENSITIVE_ORDER", type := (.object "java/util/Comparator"), accessFlags := 25, slot := 4, constantValue := 0 }, { name := "LATIN1", type := .byte, accessFlags := 24, slot := 5, constantValue := 0 }, { name := "UTF16", type := .byte, accessFlags := 24, slot := 6, constantValue := 0 }]
  methods := #[k9m0, k9m1, k9m2]
  instanceTypes := #[(.array .byte), .byte, .int, .boolean]
  staticTypes := #[.long, .boolean, (.array (.object "java/io/ObjectStreamField")), .char, (.object "java/util/Comparator"), .byte, .byte]
  resolved := Array.replicate 1451 none
  statics := some 0 }

def pool10 : Array CpInfo := pool [(6, .class_ 8), (1, u "java/lang/Object"), (0, u "<init>"), (0, u "()V"), (1, .class_ 14), (1, u "java/lang/StringUTF16"), (31, u "$assertionsDisabled"), (0, u "Z"), (13, u "HI_BYTE_SHIFT"), (0, u "I"), (2, u "LO_BYTE_SHIFT"), (49, .methodref 12 116), (0, .nameAndType 117 118), (0, u "compress"), (0, u "([CI[BII)I"), (3, u "([CII)[B"), (138, u "coderFromArrayLen"), (0, u "([BI)B"), (106, .class_ 371), (1, u "java/lang/StringUTF16$LinesSpliterator"), (58, u "MAX_LENGTH"), (196, .class_ 628), (0, u "java/lang/StringUTF16$CodePointsSpliterator"), (0, .class_ 630), (0, u "java/lang/StringUTF16$CharsSpliterator")] 4

def k10m0 : Method := { name := "<init>", desc := "()V", sig := { parameters := [], returnType := none }, accessFlags := 0, code := none }
def k10c1 : Code := { maxStack := 2, maxLocals := 2, code := jdk_52_method_15_code, exceptionTable := #[], attributes := #[] }
def k10m1 : Method := { name := "coderFromArrayLen", desc := "([BI)B", sig := { parameters := [(.array .byte), .int], returnType := some .byte }, accessFlags := 8, code := some k10c1 }
def k10c2 : Code := { maxStack := 5, maxLocals := 6, code := jdk_52_method_16_code, exceptionTable := #[], attributes := #[] }
def k10m2 : Method := { name := "compress", desc := "([CII)[B", sig := { parameters := [(.array .char), .int, .int], returnType := some (.array .byte) }, accessFlags := 9, code := some k10c2 }
def k10c3 : Code := { maxStack := 3, maxLocals := 7, code := jdk_52_method_21_code, exceptionTable := #[], attributes := #[] }
def k10m3 : Method := { name := "compress", desc := "([CI[BII)I", sig := { parameters := [(.array .char), .int, (.array .byte), .int, .int], returnType := some .int }, accessFlags := 9, code := some k10c3 }
/-- java/lang/StringUTF16 -/
def k10 : Class := { plain "java/lang/StringUTF16" (some 0) with
  accessFlags := 48
  interfaces := #[]
  cf := some (fileOf pool10 12 #[.nestMembers #[627, 629, 369]] #[{ accessFlags := 0, nameIndex := 9, descriptorIndex := 10, attributes := #[] }, { accessFlags := 8, nameIndex := 261, descriptorIndex := 262, attributes := #[] }, { accessFlags := 9, nameIndex := 117, descriptorIndex := 122, attributes := #[] }, { accessFlags := 9, nameIndex := 117, descriptorIndex := 118, attributes := #[] }] 48 6 #[] #[{ accessFlags := 26, nameIndex := 61, descriptorIndex := 62, attributes := #[] }, { accessFlags := 26, nameIndex := 65, descriptorIndex := 62, attributes := #[] }, { accessFlags := 24, nameIndex := 430, descriptorIndex := 62, attributes := #[] }, { accessFlags := 4120, nameIndex := 46, descriptorIndex := 47, attributes := #[] }])
  fields := #[{ name := "HI_BYTE_SHIFT", type := .int, accessFlags := 26, slot := 0, constantValue := 0 }, { name := "LO_BYTE_SHIFT", type := .int, accessFlags := 26, slot := 1, constantValue := 0 }, { name := "MAX_LENGTH", type := .int, accessFlags := 24, slot := 2, constantValue := 0 }, { name := "$assertionsDisabled", type := .boolean, accessFlags := 4120, slot := 3, constantValue := 0 }]
  methods := #[k10m0, k10m1, k10m2, k10m3]
  instanceTypes := #[]
  staticTypes := #[.int, .int, .int, .boolean]
  resolved := Array.replicate 635 none
  statics := none }

def pool11 : Array CpInfo := pool [(2, .class_ 4), (1, u "java/lang/Object"), (0, u "<init>"), (0, u "()V"), (35, .class_ 44), (1, u "java/util/Objects"), (0, u "requireNonNull"), (48, u "(Ljava/lang/Object;Ljava/lang/String;)Ljava/lang/Object;")] 89

def k11m0 : Method := { name := "<init>", desc := "()V", sig := { parameters := [], returnType := none }, accessFlags := 2, code := none }
def k11c1 : Code := { maxStack := 3, maxLocals := 2, code := jdk_31_method_11_code, exceptionTable := #[], attributes := #[] }
def k11m1 : Method := { name := "requireNonNull", desc := "(Ljava/lang/Object;Ljava/lang/String;)Ljava/lang/Object;", sig := { parameters := [(.object "java/lang/Object"), (.object "java/lang/String")], returnType := some (.object "java/lang/Object") }, accessFlags := 9, code := some k11c1 }
/-- java/util/Objects -/
def k11 : Class := { plain "java/util/Objects" (some 0) with
  accessFlags := 49
  interfaces := #[]
  cf := some (fileOf pool11 42 #[] #[{ accessFlags := 2, nameIndex := 5, descriptorIndex := 6, attributes := #[] }, { accessFlags := 9, nameIndex := 45, descriptorIndex := 94, attributes := #[] }] 49 2 #[] #[])
  fields := #[]
  methods := #[k11m0, k11m1]
  instanceTypes := #[]
  staticTypes := #[]
  resolved := Array.replicate 184 none
  statics := none }

def pool12 : Array CpInfo := pool [(3, .methodref 4 5), (0, .class_ 6), (0, .nameAndType 7 8), (0, u "java/lang/Record"), (0, u "<init>"), (0, u "()V"), (0, .fieldref 10 11), (0, .class_ 12), (0, .nameAndType 13 14), (0, u "com/example/latchwork/latchwork/RecordedForm$Call"), (0, u "operation"), (0, u "Lcom/example/latchwork/latchwork/Operation;"), (0, .fieldref 10 16), (0, .nameAndType 17 18), (0, u "called"), (0, u "I"), (0, .fieldref 10 20), (0, .nameAndType 21 18), (0, u "answered"), (0, .fieldref 10 23), (0, .nameAndType 24 25), (0, u "result"), (0, u "Ljava/lang/Object;"), (0, .integer 2147483647), (0, .methodref 10 28), (0, .nameAndType 7 29), (0, u "(Lcom/example/latchwork/latchwork/Operation;IILjava/lang/Object;)V"), (12, u "NEVER"), (1, u "(Lcom/example/latchwork/latchwork/Operation;I)V"), (3, u "isAnswered"), (0, u "()Z"), (9, .class_ 60), (0, u "com/example/latchwork/latchwork/RecordedForm")] 22

def k12c0 : Code := { maxStack := 5, maxLocals := 3, code := prog_15_method_1_code, exceptionTable := #[], attributes := #[] }
def k12m0 : Method := { name := "<init>", desc := "(Lcom/example/latchwork/latchwork/Operation;I)V", sig := { parameters := [(.object "com/example/latchwork/latchwork/Operation"), .int], returnType := none }, accessFlags := 1, code := some k12c0 }
def k12c1 : Code := { maxStack := 2, maxLocals := 5, code := prog_15_method_2_code, exceptionTable := #[], attributes := #[] }
def k12m1 : Method := { name := "<init>", desc := "(Lcom/example/latchwork/latchwork/Operation;IILjava/lang/Object;)V", sig := { parameters := [(.object "com/example/latchwork/latchwork/Operation"), .int, .int, (.object "java/lang/Object")], returnType := none }, accessFlags := 1, code := some k12c1 }
def k12c2 : Code := { maxStack := 2, maxLocals := 1, code := prog_15_method_3_code, exceptionTable := #[], attributes := #[] }
def k12m2 : Method := { name := "isAnswered", desc := "()Z", sig := { parameters := [], returnType := some .boolean }, accessFlags := 1, code := some k12c2 }
/-- com/example/latchwork/latchwork/RecordedForm$Call -/
def k12 : Class := { plain "com/example/latchwork/latchwork/RecordedForm$Call" (some 2) with
  accessFlags := 49
  interfaces := #[]
  cf := some (fileOf pool12 10 #[.nestHost 59] #[{ accessFlags := 1, nameIndex := 7, descriptorIndex := 44, attributes := #[] }, { accessFlags := 1, nameIndex := 7, descriptorIndex := 29, attributes := #[] }, { accessFlags := 1, nameIndex := 48, descriptorIndex := 49, attributes := #[] }] 49 4 #[] #[{ accessFlags := 18, nameIndex := 13, descriptorIndex := 14, attributes := #[] }, { accessFlags := 18, nameIndex := 17, descriptorIndex := 18, attributes := #[] }, { accessFlags := 18, nameIndex := 21, descriptorIndex := 18, attributes := #[] }, { accessFlags := 18, nameIndex := 24, descriptorIndex := 25, attributes := #[] }, { accessFlags := 25, nameIndex := 42, descriptorIndex := 18, attributes := #[] }])
  fields := #[{ name := "operation", type := (.object "com/example/latchwork/latchwork/Operation"), accessFlags := 18, slot := 0, constantValue := 0 }, { name := "called", type := .int, accessFlags := 18, slot := 1, constantValue := 0 }, { name := "answered", type := .int, accessFlags := 18, slot := 2, constantValue := 0 }, { name := "result", type := (.object "java/lang/Object"), accessFlags := 18, slot := 3, constantValue := 0 }, { name := "NEVER", type := .int, accessFlags := 25, slot := 0, constantValue := 0 }]
  methods := #[k12m0, k12m1, k12m2]
  instanceTypes := #[(.object "com/example/latchwork/latchwork/Operation"), .int, .int, (.object "java/lang/Object")]
  staticTypes := #[.int]
  resolved := Array.replicate 83 none
  statics := none }

def pool13 : Array CpInfo := pool [(1, .methodref 2 3), (0, .class_ 4), (0, .nameAndType 5 6), (0, u "java/lang/Object"), (0, u "<init>"), (0, u "()V"), (1, .class_ 10), (1, u "java/lang/Number"), (2, .class_ 14), (0, u "java/io/Serializable"), (0, u "serialVersionUID"), (0, u "J")] 20

def k13c0 : Code := { maxStack := 1, maxLocals := 1, code := jdk_18_method_1_code, exceptionTable := #[], attributes := #[] }
def k13m0 : Method := { name := "<init>", desc := "()V", sig := { parameters := [], returnType := none }, accessFlags := 1, code := some k13c0 }
/-- java/lang/Number -/
def k13 : Class := { plain "java/lang/Number" (some 0) with
  accessFlags := 1057
  interfaces := #[4]
  cf := some (fileOf pool13 8 #[] #[{ accessFlags := 1, nameIndex := 5, descriptorIndex := 6, attributes := #[] }] 1057 2 #[13] #[{ accessFlags := 26, nameIndex := 15, descriptorIndex := 16, attributes := #[] }])
  fields := #[{ name := "serialVersionUID", type := .long, accessFlags := 26, slot := 0, constantValue := 0 }]
  methods := #[k13m0]
  instanceTypes := #[]
  staticTypes := #[.long]
  resolved := Array.replicate 37 none
  statics := none }

def pool14 : Array CpInfo := pool [(1, .class_ 2), (0, u "java/lang/Long"), (55, .nameAndType 59 60), (0, u "<init>"), (0, u "()V"), (24, u "valueOf"), (143, u "(J)Ljava/lang/Long;"), (0, .long 18446744073709551488), (1, .long 127), (1, .fieldref 235 236), (0, .class_ 237), (0, .nameAndType 238 239), (0, u "java/lang/Long$LongCache"), (0, u "cache"), (0, u "[Ljava/lang/Long;"), (0, .methodref 1 241), (0, .nameAndType 59 242), (0, u "(J)V"), (27, .methodref 271 58), (0, .class_ 272), (0, u "java/lang/Number"), (0, .fieldref 1 274), (0, .nameAndType 275 276), (0, u "value"), (0, u "J"), (84, u "TYPE"), (0, u "Ljava/lang/Class;"), (0, .class_ 364), (0, u "java/lang/Comparable"), (0, .class_ 366), (0, u "java/lang/constant/Constable"), (0, .class_ 368), (0, u "java/lang/constant/ConstantDesc"), (0, u "MIN_VALUE"), (1, u "MAX_VALUE"), (4, u "SIZE"), (0, u "I"), (1, u "BYTES"), (1, u "serialVersionUID")] 142

def k14c0 : Code := { maxStack := 4, maxLocals := 3, code := jdk_35_method_24_code, exceptionTable := #[], attributes := #[] }
def k14m0 : Method := { name := "valueOf", desc := "(J)Ljava/lang/Long;", sig := { parameters := [.long], returnType := some (.object "java/lang/Long") }, accessFlags := 9, code := some k14c0 }
def k14c1 : Code := { maxStack := 3, maxLocals := 3, code := jdk_35_method_26_code, exceptionTable := #[], attributes := #[] }
def k14m1 : Method := { name := "<init>", desc := "(J)V", sig := { parameters := [.long], returnType := none }, accessFlags := 1, code := some k14c1 }
/-- java/lang/Long -/
def k14 : Class := { plain "java/lang/Long" (some 13) with
  accessFlags := 49
  interfaces := #[5, 7, 8]
  cf := some (fileOf pool14 1 #[.nestMembers #[235]] #[{ accessFlags := 9, nameIndex := 85, descriptorIndex := 229, attributes := #[] }, { accessFlags := 1, nameIndex := 59, descriptorIndex := 242, attributes := #[] }] 49 271 #[363, 365, 367] #[{ accessFlags := 25, nameIndex := 369, descriptorIndex := 276, attributes := #[] }, { accessFlags := 25, nameIndex := 371, descriptorIndex := 276, attributes := #[] }, { accessFlags := 25, nameIndex := 361, descriptorIndex := 362, attributes := #[] }, { accessFlags := 18, nameIndex := 275, descriptorIndex := 276, attributes := #[] }, { accessFlags := 25, nameIndex := 376, descriptorIndex := 377, attributes := #[] }, { accessFlags := 25, nameIndex := 379, descriptorIndex := 377, attributes := #[] }, { accessFlags := 26, nameIndex := 381, descriptorIndex := 276, attributes := #[] }])
  fields := #[{ name := "MIN_VALUE", type := .long, accessFlags := 25, slot := 0, constantValue := 0 }, { name := "MAX_VALUE", type := .long, accessFlags := 25, slot := 1, constantValue := 0 }, { name := "TYPE", type := (.object "java/lang/Class"), accessFlags := 25, slot := 2, constantValue := 0 }, { name := "value", type := .long, accessFlags := 18, slot := 0, constantValue := 0 }, { name := "SIZE", type := .int, accessFlags := 25, slot := 3, constantValue := 0 }, { name := "BYTES", type := .int, accessFlags := 25, slot := 4, constantValue := 0 }, { name := "serialVersionUID", type := .long, accessFlags := 26, slot := 5, constantValue := 0 }]
  methods := #[k14m0, k14m1]
  instanceTypes := #[.long]
  staticTypes := #[.long, .long, (.object "java/lang/Class"), .int, .int, .long]
  resolved := Array.replicate 524 none
  statics := none }

def pool15 : Array CpInfo := pool [(2, .class_ 4), (1, u "java/lang/Object"), (0, u "<init>"), (0, u "()V"), (0, .class_ 8), (0, u "java/lang/Long"), (7, .class_ 18), (1, u "java/lang/Long$LongCache"), (0, u "$assertionsDisabled"), (0, u "Z"), (8, u "archivedCache"), (0, u "[Ljava/lang/Long;"), (7, u "cache")] 24

def k15m0 : Method := { name := "<init>", desc := "()V", sig := { parameters := [], returnType := none }, accessFlags := 2, code := none }
/-- java/lang/Long$LongCache -/
def k15 : Class := { plain "java/lang/Long$LongCache" (some 0) with
  accessFlags := 48
  interfaces := #[]
  cf := some (fileOf pool15 16 #[.nestHost 7] #[{ accessFlags := 2, nameIndex := 5, descriptorIndex := 6, attributes := #[] }] 48 2 #[] #[{ accessFlags := 24, nameIndex := 38, descriptorIndex := 30, attributes := #[] }, { accessFlags := 8, nameIndex := 29, descriptorIndex := 30, attributes := #[] }, { accessFlags := 4120, nameIndex := 19, descriptorIndex := 20, attributes := #[] }])
  fields := #[{ name := "cache", type := (.array (.object "java/lang/Long")), accessFlags := 24, slot := 0, constantValue := 0 }, { name := "archivedCache", type := (.array (.object "java/lang/Long")), accessFlags := 8, slot := 1, constantValue := 0 }, { name := "$assertionsDisabled", type := .boolean, accessFlags := 4120, slot := 2, constantValue := 0 }]
  methods := #[k15m0]
  instanceTypes := #[]
  staticTypes := #[(.array (.object "java/lang/Long")), (.array (.object "java/lang/Long")), .boolean]
  resolved := Array.replicate 63 none
  statics := some 1 }

def pool16 : Array CpInfo := pool [(4, .class_ 6), (1, u "java/lang/Object"), (0, u "<init>"), (0, u "()V"), (5, .class_ 16), (1, u "java/lang/StringLatin1"), (104, u "$assertionsDisabled"), (0, u "Z"), (98, .class_ 223), (1, u "java/lang/StringLatin1$LinesSpliterator"), (166, .class_ 391), (0, u "java/lang/StringLatin1$CharsSpliterator")] 3

def k16m0 : Method := { name := "<init>", desc := "()V", sig := { parameters := [], returnType := none }, accessFlags := 0, code := none }
/-- java/lang/StringLatin1 -/
def k16 : Class := { plain "java/lang/StringLatin1" (some 0) with
  accessFlags := 48
  interfaces := #[]
  cf := some (fileOf pool16 14 #[.nestMembers #[390, 221]] #[{ accessFlags := 0, nameIndex := 7, descriptorIndex := 8, attributes := #[] }] 48 4 #[] #[{ accessFlags := 4120, nameIndex := 121, descriptorIndex := 122, attributes := #[] }])
  fields := #[{ name := "$assertionsDisabled", type := .boolean, accessFlags := 4120, slot := 0, constantValue := 0 }]
  methods := #[k16m0]
  instanceTypes := #[]
  staticTypes := #[.boolean]
  resolved := Array.replicate 395 none
  statics := none }

def pool17 : Array CpInfo := pool [(2, .class_ 4), (1, u "java/lang/Object"), (0, u "<init>"), (0, u "()V"), (17, .class_ 26), (1, u "jdk/internal/util/Preconditions"), (28, .class_ 56), (0, u "jdk/internal/util/Preconditions$4"), (57, .class_ 115), (0, u "jdk/internal/util/Preconditions$1"), (7, u "SIOOBE_FORMATTER"), (0, u "Ljava/util/function/BiFunction;"), (0, .class_ 126), (0, u "jdk/internal/util/Preconditions$2"), (3, u "AIOOBE_FORMATTER"), (0, .class_ 132), (0, u "jdk/internal/util/Preconditions$3"), (3, u "IOOBE_FORMATTER")] 57

def k17m0 : Method := { name := "<init>", desc := "()V", sig := { parameters := [], returnType := none }, accessFlags := 1, code := none }
/-- jdk/internal/util/Preconditions -/
def k17 : Class := { plain "jdk/internal/util/Preconditions" (some 0) with
  accessFlags := 33
  interfaces := #[]
  cf := some (fileOf pool17 24 #[.nestMembers #[55, 131, 125, 114]] #[{ accessFlags := 1, nameIndex := 5, descriptorIndex := 6, attributes := #[] }] 33 2 #[] #[{ accessFlags := 25, nameIndex := 123, descriptorIndex := 124, attributes := #[] }, { accessFlags := 25, nameIndex := 130, descriptorIndex := 124, attributes := #[] }, { accessFlags := 25, nameIndex := 136, descriptorIndex := 124, attributes := #[] }])
  fields := #[{ name := "SIOOBE_FORMATTER", type := (.object "java/util/function/BiFunction"), accessFlags := 25, slot := 0, constantValue := 0 }, { name := "AIOOBE_FORMATTER", type := (.object "java/util/function/BiFunction"), accessFlags := 25, slot := 1, constantValue := 0 }, { name := "IOOBE_FORMATTER", type := (.object "java/util/function/BiFunction"), accessFlags := 25, slot := 2, constantValue := 0 }]
  methods := #[k17m0]
  instanceTypes := #[]
  staticTypes := #[(.object "java/util/function/BiFunction"), (.object "java/util/function/BiFunction"), (.object "java/util/function/BiFunction")]
  resolved := Array.replicate 194 none
  statics := some 2 }

def pool18 : Array CpInfo := pool [(9, u "<init>"), (6, .class_ 18), (1, u "java/lang/Object"), (0, u "()V"), (1, .class_ 23), (1, u "jdk/internal/util/ArraysSupport"), (0, u "LOG2_ARRAY_LONG_INDEX_SCALE"), (0, u "I"), (2, u "U"), (0, u "Ljdk/internal/misc/Unsafe;"), (8, u "BIG_ENDIAN"), (0, u "Z"), (8, u "LOG2_BYTE_BIT_SIZE"), (4, u "LOG2_ARRAY_INT_INDEX_SCALE"), (54, u "JLA"), (0, u "Ljdk/internal/access/JavaLangAccess;"), (11, u "LOG2_ARRAY_BOOLEAN_INDEX_SCALE"), (9, u "LOG2_ARRAY_BYTE_INDEX_SCALE"), (5, u "LOG2_ARRAY_CHAR_INDEX_SCALE"), (5, u "LOG2_ARRAY_SHORT_INDEX_SCALE"), (18, u "LOG2_ARRAY_FLOAT_INDEX_SCALE"), (24, u "LOG2_ARRAY_DOUBLE_INDEX_SCALE"), (89, u "T_BOOLEAN"), (2, u "T_CHAR"), (1, u "T_FLOAT"), (1, u "T_DOUBLE"), (1, u "T_BYTE"), (1, u "T_SHORT"), (1, u "T_INT"), (1, u "T_LONG"), (1, u "SOFT_MAX_ARRAY_LENGTH")] 83

def k18m0 : Method := { name := "<init>", desc := "()V", sig := { parameters := [], returnType := none }, accessFlags := 2, code := none }
/-- jdk/internal/util/ArraysSupport -/
def k18 : Class := { plain "jdk/internal/util/ArraysSupport" (some 0) with
  accessFlags := 33
  interfaces := #[]
  cf := some (fileOf pool18 21 #[] #[{ accessFlags := 2, nameIndex := 9, descriptorIndex := 19, attributes := #[] }] 33 16 #[] #[{ accessFlags := 24, nameIndex := 28, descriptorIndex := 29, attributes := #[] }, { accessFlags := 26, nameIndex := 38, descriptorIndex := 39, attributes := #[] }, { accessFlags := 25, nameIndex := 121, descriptorIndex := 25, attributes := #[] }, { accessFlags := 25, nameIndex := 131, descriptorIndex := 25, attributes := #[] }, { accessFlags := 25, nameIndex := 137, descriptorIndex := 25, attributes := #[] }, { accessFlags := 25, nameIndex := 143, descriptorIndex := 25, attributes := #[] }, { accessFlags := 25, nameIndex := 53, descriptorIndex := 25, attributes := #[] }, { accessFlags := 25, nameIndex := 24, descriptorIndex := 25, attributes := #[] }, { accessFlags := 25, nameIndex := 162, descriptorIndex := 25, attributes := #[] }, { accessFlags := 25, nameIndex := 187, descriptorIndex := 25, attributes := #[] }, { accessFlags := 26, nameIndex := 48, descriptorIndex := 25, attributes := #[] }, { accessFlags := 25, nameIndex := 277, descriptorIndex := 25, attributes := #[] }, { accessFlags := 25, nameIndex := 280, descriptorIndex := 25, attributes := #[] }, { accessFlags := 25, nameIndex := 282, descriptorIndex := 25, attributes := #[] }, { accessFlags := 25, nameIndex := 284, descriptorIndex := 25, attributes := #[] }, { accessFlags := 25, nameIndex := 286, descriptorIndex := 25, attributes := #[] }, { accessFlags := 25, nameIndex := 288, descriptorIndex := 25, attributes := #[] }, { accessFlags := 25, nameIndex := 290, descriptorIndex := 25, attributes := #[] }, { accessFlags := 25, nameIndex := 292, descriptorIndex := 25, attributes := #[] }, { accessFlags := 26, nameIndex := 108, descriptorIndex := 109, attributes := #[] }, { accessFlags := 25, nameIndex := 294, descriptorIndex := 25, attributes := #[] }])
  fields := #[{ name := "U", type := (.object "jdk/internal/misc/Unsafe"), accessFlags := 24, slot := 0, constantValue := 0 }, { name := "BIG_ENDIAN", type := .boolean, accessFlags := 26, slot := 1, constantValue := 0 }, { name := "LOG2_ARRAY_BOOLEAN_INDEX_SCALE", type := .int, accessFlags := 25, slot := 2, constantValue := 0 }, { name := "LOG2_ARRAY_BYTE_INDEX_SCALE", type := .int, accessFlags := 25, slot := 3, constantValue := 0 }, { name := "LOG2_ARRAY_CHAR_INDEX_SCALE", type := .int, accessFlags := 25, slot := 4, constantValue := 0 }, { name := "LOG2_ARRAY_SHORT_INDEX_SCALE", type := .int, accessFlags := 25, slot := 5, constantValue := 0 }, { name := "LOG2_ARRAY_INT_INDEX_SCALE", type := .int, accessFlags := 25, slot := 6, constantValue := 0 }, { name := "LOG2_ARRAY_LONG_INDEX_SCALE", type := .int, accessFlags := 25, slot := 7, constantValue := 0 }, { name := "LOG2_ARRAY_FLOAT_INDEX_SCALE", type := .int, accessFlags := 25, slot := 8, constantValue := 0 }, { name := "LOG2_ARRAY_DOUBLE_INDEX_SCALE", type := .int, accessFlags := 25, slot := 9, constantValue := 0 }, { name := "LOG2_BYTE_BIT_SIZE", type := .int, accessFlags := 26, slot := 10, constantValue := 0 }, { name := "T_BOOLEAN", type := .int, accessFlags := 25, slot := 11, constantValue := 0 }, { name := "T_CHAR", type := .int, accessFlags := 25, slot := 12, constantValue := 0 }, { name := "T_FLOAT", type := .int, accessFlags := 25, slot := 13, constantValue := 0 }, { name := "T_DOUBLE", type := .int, accessFlags := 25, slot := 14, constantValue := 0 }, { name := "T_BYTE", type := .int, accessFlags := 25, slot := 15, constantValue := 0 }, { name := "T_SHORT", type := .int, accessFlags := 25, slot := 16, constantValue := 0 }, { name := "T_INT", type := .int, accessFlags := 25, slot := 17, constantValue := 0 }, { name := "T_LONG", type := .int, accessFlags := 25, slot := 18, constantValue := 0 }, { name := "JLA", type := (.object "jdk/internal/access/JavaLangAccess"), accessFlags := 26, slot := 19, constantValue := 0 }, { name := "SOFT_MAX_ARRAY_LENGTH", type := .int, accessFlags := 25, slot := 20, constantValue := 0 }]
  methods := #[k18m0]
  instanceTypes := #[]
  staticTypes := #[(.object "jdk/internal/misc/Unsafe"), .boolean, .int, .int, .int, .int, .int, .int, .int, .int, .int, .int, .int, .int, .int, .int, .int, .int, .int, (.object "jdk/internal/access/JavaLangAccess"), .int]
  resolved := Array.replicate 378 none
  statics := none }

def pool19 : Array CpInfo := pool [(1, u "java/lang/Cloneable"), (0, .class_ 1), (0, u "java/lang/Object"), (0, .class_ 3)] 3

/-- java/lang/Cloneable -/
def k19 : Class := { plain "java/lang/Cloneable" (some 0) with
  accessFlags := 1537
  interfaces := #[]
  cf := some (fileOf pool19 2 #[] #[] 1537 4 #[] #[])
  fields := #[]
  methods := #[]
  instanceTypes := #[]
  staticTypes := #[]
  resolved := Array.replicate 8 none
  statics := none }

/-- the primitive byte -/
def k20 : Class := { plain "byte" none with kind := .primitive 'B', accessFlags := 0x411 }
/-- [B -/
def k21 : Class := { plain "[B" (some 0) with kind := .array 20 .byte, interfaces := #[19, 4], accessFlags := 1041 }

/-- the primitive char -/
def k22 : Class := { plain "char" none with kind := .primitive 'C', accessFlags := 0x411 }
/-- [C -/
def k23 : Class := { plain "[C" (some 0) with kind := .array 22 .char, interfaces := #[19, 4], accessFlags := 1041 }

/-- the primitive int -/
def k24 : Class := { plain "int" none with kind := .primitive 'I', accessFlags := 0x411 }
/-- [I -/
def k25 : Class := { plain "[I" (some 0) with kind := .array 24 .int, interfaces := #[19, 4], accessFlags := 1041 }

/-- [Ljava/lang/Long; -/
def k26 : Class := { plain "[Ljava/lang/Long;" (some 0) with kind := .array 14 (.object "java/lang/Long"), interfaces := #[19, 4], accessFlags := 1041 }

def heap : Heap := #[{ cls := 9, slots := #[.long 0, .int 1, .null, .int 0, .null, .int 0, .int 0], vm := .statics 9 },
  { cls := 15, slots := #[.ref 3, .null, .int 0], vm := .statics 15 },
  { cls := 17, slots := #[.null, .null, .null], vm := .statics 17 },
  { cls := 26, slots := #[.ref 4, .ref 5, .ref 6, .ref 7, .ref 8, .ref 9, .ref 10, .ref 11, .ref 12, .ref 13, .ref 14, .ref 15, .ref 16, .ref 17, .ref 18, .ref 19, .ref 20, .ref 21, .ref 22, .ref 23, .ref 24, .ref 25, .ref 26, .ref 27, .ref 28, .ref 29, .ref 30, .ref 31, .ref 32, .ref 33, .ref 34, .ref 35, .ref 36, .ref 37, .ref 38, .ref 39, .ref 40, .ref 41, .ref 42, .ref 43, .ref 44, .ref 45, .ref 46, .ref 47, .ref 48, .ref 49, .ref 50, .ref 51, .ref 52, .ref 53, .ref 54, .ref 55, .ref 56, .ref 57, .ref 58, .ref 59, .ref 60, .ref 61, .ref 62, .ref 63, .ref 64, .ref 65, .ref 66, .ref 67, .ref 68, .ref 69, .ref 70, .ref 71, .ref 72, .ref 73, .ref 74, .ref 75, .ref 76, .ref 77, .ref 78, .ref 79, .ref 80, .ref 81, .ref 82, .ref 83, .ref 84, .ref 85, .ref 86, .ref 87, .ref 88, .ref 89, .ref 90, .ref 91, .ref 92, .ref 93, .ref 94, .ref 95, .ref 96, .ref 97, .ref 98, .ref 99, .ref 100, .ref 101, .ref 102, .ref 103, .ref 104, .ref 105, .ref 106, .ref 107, .ref 108, .ref 109, .ref 110, .ref 111, .ref 112, .ref 113, .ref 114, .ref 115, .ref 116, .ref 117, .ref 118, .ref 119, .ref 120, .ref 121, .ref 122, .ref 123, .ref 124, .ref 125, .ref 126, .ref 127, .ref 128, .ref 129, .ref 130, .ref 131, .ref 132, .ref 133, .ref 134, .ref 135, .ref 136, .ref 137, .ref 138, .ref 139, .ref 140, .ref 141, .ref 142, .ref 143, .ref 144, .ref 145, .ref 146, .ref 147, .ref 148, .ref 149, .ref 150, .ref 151, .ref 152, .ref 153, .ref 154, .ref 155, .ref 156, .ref 157, .ref 158, .ref 159, .ref 160, .ref 161, .ref 162, .ref 163, .ref 164, .ref 165, .ref 166, .ref 167, .ref 168, .ref 169, .ref 170, .ref 171, .ref 172, .ref 173, .ref 174, .ref 175, .ref 176, .ref 177, .ref 178, .ref 179, .ref 180, .ref 181, .ref 182, .ref 183, .ref 184, .ref 185, .ref 186, .ref 187, .ref 188, .ref 189, .ref 190, .ref 191, .ref 192, .ref 193, .ref 194, .ref 195, .ref 196, .ref 197, .ref 198, .ref 199, .ref 200, .ref 201, .ref 202, .ref 203, .ref 204, .ref 205, .ref 206, .ref 207, .ref 208, .ref 209, .ref 210, .ref 211, .ref 212, .ref 213, .ref 214, .ref 215, .ref 216, .ref 217, .ref 218, .ref 219, .ref 220, .ref 221, .ref 222, .ref 223, .ref 224, .ref 225, .ref 226, .ref 227, .ref 228, .ref 229, .ref 230, .ref 231, .ref 232, .ref 233, .ref 234, .ref 235, .ref 236, .ref 237, .ref 238, .ref 239, .ref 240, .ref 241, .ref 242, .ref 243, .ref 244, .ref 245, .ref 246, .ref 247, .ref 248, .ref 249, .ref 250, .ref 251, .ref 252, .ref 253, .ref 254, .ref 255, .ref 256, .ref 257, .ref 258, .ref 259], vm := .none },
  { cls := 14, slots := #[.long (-128)], vm := .none },
  { cls := 14, slots := #[.long (-127)], vm := .none },
  { cls := 14, slots := #[.long (-126)], vm := .none },
  { cls := 14, slots := #[.long (-125)], vm := .none },
  { cls := 14, slots := #[.long (-124)], vm := .none },
  { cls := 14, slots := #[.long (-123)], vm := .none },
  { cls := 14, slots := #[.long (-122)], vm := .none },
  { cls := 14, slots := #[.long (-121)], vm := .none },
  { cls := 14, slots := #[.long (-120)], vm := .none },
  { cls := 14, slots := #[.long (-119)], vm := .none },
  { cls := 14, slots := #[.long (-118)], vm := .none },
  { cls := 14, slots := #[.long (-117)], vm := .none },
  { cls := 14, slots := #[.long (-116)], vm := .none },
  { cls := 14, slots := #[.long (-115)], vm := .none },
  { cls := 14, slots := #[.long (-114)], vm := .none },
  { cls := 14, slots := #[.long (-113)], vm := .none },
  { cls := 14, slots := #[.long (-112)], vm := .none },
  { cls := 14, slots := #[.long (-111)], vm := .none },
  { cls := 14, slots := #[.long (-110)], vm := .none },
  { cls := 14, slots := #[.long (-109)], vm := .none },
  { cls := 14, slots := #[.long (-108)], vm := .none },
  { cls := 14, slots := #[.long (-107)], vm := .none },
  { cls := 14, slots := #[.long (-106)], vm := .none },
  { cls := 14, slots := #[.long (-105)], vm := .none },
  { cls := 14, slots := #[.long (-104)], vm := .none },
  { cls := 14, slots := #[.long (-103)], vm := .none },
  { cls := 14, slots := #[.long (-102)], vm := .none },
  { cls := 14, slots := #[.long (-101)], vm := .none },
  { cls := 14, slots := #[.long (-100)], vm := .none },
  { cls := 14, slots := #[.long (-99)], vm := .none },
  { cls := 14, slots := #[.long (-98)], vm := .none },
  { cls := 14, slots := #[.long (-97)], vm := .none },
  { cls := 14, slots := #[.long (-96)], vm := .none },
  { cls := 14, slots := #[.long (-95)], vm := .none },
  { cls := 14, slots := #[.long (-94)], vm := .none },
  { cls := 14, slots := #[.long (-93)], vm := .none },
  { cls := 14, slots := #[.long (-92)], vm := .none },
  { cls := 14, slots := #[.long (-91)], vm := .none },
  { cls := 14, slots := #[.long (-90)], vm := .none },
  { cls := 14, slots := #[.long (-89)], vm := .none },
  { cls := 14, slots := #[.long (-88)], vm := .none },
  { cls := 14, slots := #[.long (-87)], vm := .none },
  { cls := 14, slots := #[.long (-86)], vm := .none },
  { cls := 14, slots := #[.long (-85)], vm := .none },
  { cls := 14, slots := #[.long (-84)], vm := .none },
  { cls := 14, slots := #[.long (-83)], vm := .none },
  { cls := 14, slots := #[.long (-82)], vm := .none },
  { cls := 14, slots := #[.long (-81)], vm := .none },
  { cls := 14, slots := #[.long (-80)], vm := .none },
  { cls := 14, slots := #[.long (-79)], vm := .none },
  { cls := 14, slots := #[.long (-78)], vm := .none },
  { cls := 14, slots := #[.long (-77)], vm := .none },
  { cls := 14, slots := #[.long (-76)], vm := .none },
  { cls := 14, slots := #[.long (-75)], vm := .none },
  { cls := 14, slots := #[.long (-74)], vm := .none },
  { cls := 14, slots := #[.long (-73)], vm := .none },
  { cls := 14, slots := #[.long (-72)], vm := .none },
  { cls := 14, slots := #[.long (-71)], vm := .none },
  { cls := 14, slots := #[.long (-70)], vm := .none },
  { cls := 14, slots := #[.long (-69)], vm := .none },
  { cls := 14, slots := #[.long (-68)], vm := .none },
  { cls := 14, slots := #[.long (-67)], vm := .none },
  { cls := 14, slots := #[.long (-66)], vm := .none },
  { cls := 14, slots := #[.long (-65)], vm := .none },
  { cls := 14, slots := #[.long (-64)], vm := .none },
  { cls := 14, slots := #[.long (-63)], vm := .none },
  { cls := 14, slots := #[.long (-62)], vm := .none },
  { cls := 14, slots := #[.long (-61)], vm := .none },
  { cls := 14, slots := #[.long (-60)], vm := .none },
  { cls := 14, slots := #[.long (-59)], vm := .none },
  { cls := 14, slots := #[.long (-58)], vm := .none },
  { cls := 14, slots := #[.long (-57)], vm := .none },
  { cls := 14, slots := #[.long (-56)], vm := .none },
  { cls := 14, slots := #[.long (-55)], vm := .none },
  { cls := 14, slots := #[.long (-54)], vm := .none },
  { cls := 14, slots := #[.long (-53)], vm := .none },
  { cls := 14, slots := #[.long (-52)], vm := .none },
  { cls := 14, slots := #[.long (-51)], vm := .none },
  { cls := 14, slots := #[.long (-50)], vm := .none },
  { cls := 14, slots := #[.long (-49)], vm := .none },
  { cls := 14, slots := #[.long (-48)], vm := .none },
  { cls := 14, slots := #[.long (-47)], vm := .none },
  { cls := 14, slots := #[.long (-46)], vm := .none },
  { cls := 14, slots := #[.long (-45)], vm := .none },
  { cls := 14, slots := #[.long (-44)], vm := .none },
  { cls := 14, slots := #[.long (-43)], vm := .none },
  { cls := 14, slots := #[.long (-42)], vm := .none },
  { cls := 14, slots := #[.long (-41)], vm := .none },
  { cls := 14, slots := #[.long (-40)], vm := .none },
  { cls := 14, slots := #[.long (-39)], vm := .none },
  { cls := 14, slots := #[.long (-38)], vm := .none },
  { cls := 14, slots := #[.long (-37)], vm := .none },
  { cls := 14, slots := #[.long (-36)], vm := .none },
  { cls := 14, slots := #[.long (-35)], vm := .none },
  { cls := 14, slots := #[.long (-34)], vm := .none },
  { cls := 14, slots := #[.long (-33)], vm := .none },
  { cls := 14, slots := #[.long (-32)], vm := .none },
  { cls := 14, slots := #[.long (-31)], vm := .none },
  { cls := 14, slots := #[.long (-30)], vm := .none },
  { cls := 14, slots := #[.long (-29)], vm := .none },
  { cls := 14, slots := #[.long (-28)], vm := .none },
  { cls := 14, slots := #[.long (-27)], vm := .none },
  { cls := 14, slots := #[.long (-26)], vm := .none },
  { cls := 14, slots := #[.long (-25)], vm := .none },
  { cls := 14, slots := #[.long (-24)], vm := .none },
  { cls := 14, slots := #[.long (-23)], vm := .none },
  { cls := 14, slots := #[.long (-22)], vm := .none },
  { cls := 14, slots := #[.long (-21)], vm := .none },
  { cls := 14, slots := #[.long (-20)], vm := .none },
  { cls := 14, slots := #[.long (-19)], vm := .none },
  { cls := 14, slots := #[.long (-18)], vm := .none },
  { cls := 14, slots := #[.long (-17)], vm := .none },
  { cls := 14, slots := #[.long (-16)], vm := .none },
  { cls := 14, slots := #[.long (-15)], vm := .none },
  { cls := 14, slots := #[.long (-14)], vm := .none },
  { cls := 14, slots := #[.long (-13)], vm := .none },
  { cls := 14, slots := #[.long (-12)], vm := .none },
  { cls := 14, slots := #[.long (-11)], vm := .none },
  { cls := 14, slots := #[.long (-10)], vm := .none },
  { cls := 14, slots := #[.long (-9)], vm := .none },
  { cls := 14, slots := #[.long (-8)], vm := .none },
  { cls := 14, slots := #[.long (-7)], vm := .none },
  { cls := 14, slots := #[.long (-6)], vm := .none },
  { cls := 14, slots := #[.long (-5)], vm := .none },
  { cls := 14, slots := #[.long (-4)], vm := .none },
  { cls := 14, slots := #[.long (-3)], vm := .none },
  { cls := 14, slots := #[.long (-2)], vm := .none },
  { cls := 14, slots := #[.long (-1)], vm := .none },
  { cls := 14, slots := #[.long (0)], vm := .none },
  { cls := 14, slots := #[.long (1)], vm := .none },
  { cls := 14, slots := #[.long (2)], vm := .none },
  { cls := 14, slots := #[.long (3)], vm := .none },
  { cls := 14, slots := #[.long (4)], vm := .none },
  { cls := 14, slots := #[.long (5)], vm := .none },
  { cls := 14, slots := #[.long (6)], vm := .none },
  { cls := 14, slots := #[.long (7)], vm := .none },
  { cls := 14, slots := #[.long (8)], vm := .none },
  { cls := 14, slots := #[.long (9)], vm := .none },
  { cls := 14, slots := #[.long (10)], vm := .none },
  { cls := 14, slots := #[.long (11)], vm := .none },
  { cls := 14, slots := #[.long (12)], vm := .none },
  { cls := 14, slots := #[.long (13)], vm := .none },
  { cls := 14, slots := #[.long (14)], vm := .none },
  { cls := 14, slots := #[.long (15)], vm := .none },
  { cls := 14, slots := #[.long (16)], vm := .none },
  { cls := 14, slots := #[.long (17)], vm := .none },
  { cls := 14, slots := #[.long (18)], vm := .none },
  { cls := 14, slots := #[.long (19)], vm := .none },
  { cls := 14, slots := #[.long (20)], vm := .none },
  { cls := 14, slots := #[.long (21)], vm := .none },
  { cls := 14, slots := #[.long (22)], vm := .none },
  { cls := 14, slots := #[.long (23)], vm := .none },
  { cls := 14, slots := #[.long (24)], vm := .none },
  { cls := 14, slots := #[.long (25)], vm := .none },
  { cls := 14, slots := #[.long (26)], vm := .none },
  { cls := 14, slots := #[.long (27)], vm := .none },
  { cls := 14, slots := #[.long (28)], vm := .none },
  { cls := 14, slots := #[.long (29)], vm := .none },
  { cls := 14, slots := #[.long (30)], vm := .none },
  { cls := 14, slots := #[.long (31)], vm := .none },
  { cls := 14, slots := #[.long (32)], vm := .none },
  { cls := 14, slots := #[.long (33)], vm := .none },
  { cls := 14, slots := #[.long (34)], vm := .none },
  { cls := 14, slots := #[.long (35)], vm := .none },
  { cls := 14, slots := #[.long (36)], vm := .none },
  { cls := 14, slots := #[.long (37)], vm := .none },
  { cls := 14, slots := #[.long (38)], vm := .none },
  { cls := 14, slots := #[.long (39)], vm := .none },
  { cls := 14, slots := #[.long (40)], vm := .none },
  { cls := 14, slots := #[.long (41)], vm := .none },
  { cls := 14, slots := #[.long (42)], vm := .none },
  { cls := 14, slots := #[.long (43)], vm := .none },
  { cls := 14, slots := #[.long (44)], vm := .none },
  { cls := 14, slots := #[.long (45)], vm := .none },
  { cls := 14, slots := #[.long (46)], vm := .none },
  { cls := 14, slots := #[.long (47)], vm := .none },
  { cls := 14, slots := #[.long (48)], vm := .none },
  { cls := 14, slots := #[.long (49)], vm := .none },
  { cls := 14, slots := #[.long (50)], vm := .none },
  { cls := 14, slots := #[.long (51)], vm := .none },
  { cls := 14, slots := #[.long (52)], vm := .none },
  { cls := 14, slots := #[.long (53)], vm := .none },
  { cls := 14, slots := #[.long (54)], vm := .none },
  { cls := 14, slots := #[.long (55)], vm := .none },
  { cls := 14, slots := #[.long (56)], vm := .none },
  { cls := 14, slots := #[.long (57)], vm := .none },
  { cls := 14, slots := #[.long (58)], vm := .none },
  { cls := 14, slots := #[.long (59)], vm := .none },
  { cls := 14, slots := #[.long (60)], vm := .none },
  { cls := 14, slots := #[.long (61)], vm := .none },
  { cls := 14, slots := #[.long (62)], vm := .none },
  { cls := 14, slots := #[.long (63)], vm := .none },
  { cls := 14, slots := #[.long (64)], vm := .none },
  { cls := 14, slots := #[.long (65)], vm := .none },
  { cls := 14, slots := #[.long (66)], vm := .none },
  { cls := 14, slots := #[.long (67)], vm := .none },
  { cls := 14, slots := #[.long (68)], vm := .none },
  { cls := 14, slots := #[.long (69)], vm := .none },
  { cls := 14, slots := #[.long (70)], vm := .none },
  { cls := 14, slots := #[.long (71)], vm := .none },
  { cls := 14, slots := #[.long (72)], vm := .none },
  { cls := 14, slots := #[.long (73)], vm := .none },
  { cls := 14, slots := #[.long (74)], vm := .none },
  { cls := 14, slots := #[.long (75)], vm := .none },
  { cls := 14, slots := #[.long (76)], vm := .none },
  { cls := 14, slots := #[.long (77)], vm := .none },
  { cls := 14, slots := #[.long (78)], vm := .none },
  { cls := 14, slots := #[.long (79)], vm := .none },
  { cls := 14, slots := #[.long (80)], vm := .none },
  { cls := 14, slots := #[.long (81)], vm := .none },
  { cls := 14, slots := #[.long (82)], vm := .none },
  { cls := 14, slots := #[.long (83)], vm := .none },
  { cls := 14, slots := #[.long (84)], vm := .none },
  { cls := 14, slots := #[.long (85)], vm := .none },
  { cls := 14, slots := #[.long (86)], vm := .none },
  { cls := 14, slots := #[.long (87)], vm := .none },
  { cls := 14, slots := #[.long (88)], vm := .none },
  { cls := 14, slots := #[.long (89)], vm := .none },
  { cls := 14, slots := #[.long (90)], vm := .none },
  { cls := 14, slots := #[.long (91)], vm := .none },
  { cls := 14, slots := #[.long (92)], vm := .none },
  { cls := 14, slots := #[.long (93)], vm := .none },
  { cls := 14, slots := #[.long (94)], vm := .none },
  { cls := 14, slots := #[.long (95)], vm := .none },
  { cls := 14, slots := #[.long (96)], vm := .none },
  { cls := 14, slots := #[.long (97)], vm := .none },
  { cls := 14, slots := #[.long (98)], vm := .none },
  { cls := 14, slots := #[.long (99)], vm := .none },
  { cls := 14, slots := #[.long (100)], vm := .none },
  { cls := 14, slots := #[.long (101)], vm := .none },
  { cls := 14, slots := #[.long (102)], vm := .none },
  { cls := 14, slots := #[.long (103)], vm := .none },
  { cls := 14, slots := #[.long (104)], vm := .none },
  { cls := 14, slots := #[.long (105)], vm := .none },
  { cls := 14, slots := #[.long (106)], vm := .none },
  { cls := 14, slots := #[.long (107)], vm := .none },
  { cls := 14, slots := #[.long (108)], vm := .none },
  { cls := 14, slots := #[.long (109)], vm := .none },
  { cls := 14, slots := #[.long (110)], vm := .none },
  { cls := 14, slots := #[.long (111)], vm := .none },
  { cls := 14, slots := #[.long (112)], vm := .none },
  { cls := 14, slots := #[.long (113)], vm := .none },
  { cls := 14, slots := #[.long (114)], vm := .none },
  { cls := 14, slots := #[.long (115)], vm := .none },
  { cls := 14, slots := #[.long (116)], vm := .none },
  { cls := 14, slots := #[.long (117)], vm := .none },
  { cls := 14, slots := #[.long (118)], vm := .none },
  { cls := 14, slots := #[.long (119)], vm := .none },
  { cls := 14, slots := #[.long (120)], vm := .none },
  { cls := 14, slots := #[.long (121)], vm := .none },
  { cls := 14, slots := #[.long (122)], vm := .none },
  { cls := 14, slots := #[.long (123)], vm := .none },
  { cls := 14, slots := #[.long (124)], vm := .none },
  { cls := 14, slots := #[.long (125)], vm := .none },
  { cls := 14, slots := #[.long (126)], vm := .none },
  { cls := 14, slots := #[.long (127)], vm := .none }]
def classes : Array Class := #[k0, k1, k2, k3, k4, k5, k6, k7, k8, k9, k10, k11, k12, k13, k14, k15, k16, k17, k18, k19, k20, k21, k22, k23, k24, k25, k26]
def interned : List (Array UInt16 × Addr) := []
def slotsUsed : Nat := 525
def theMethod : MethodId := ⟨1, 1⟩
def args0 : Array Value := #[.int 2, .int 1, .int 65, .long 7]
def aboutOver (below : List Frame) : State where
  vm := { classes := classes, interned := interned.toArray }
  heap := heap
  slotsUsed := slotsUsed
  threads := #[{ frames := .invoking theMethod args0 :: below }]
def below0 : List Frame := [.native { method := ⟨0, 0⟩, args := #[] }]
def about1 : State := aboutOver below0
def p0 : Program := .bare "" "" ""
def e0 : Env := launch0.env 0 0 0
theorem w_frames : about1.frames = Frame.invoking theMethod args0 :: below0 := rfl
set_option maxRecDepth 65536 in
theorem w_args : argsFit about1.vm theMethod args0 = true := by decide +kernel
set_option maxRecDepth 65536 in
theorem w_heap : heapFits about1 = true := by decide +kernel
set_option maxRecDepth 65536 in
theorem w_runnable : about1.curStatus? = some .runnable := by decide +kernel
set_option maxRecDepth 65536 in
theorem w_alone : about1.alone = true := by decide +kernel
set_option maxRecDepth 65536 in
theorem w_named : about1.methodNamed? x = some theMethod := by decide +kernel
set_option maxRecDepth 65536 in
theorem w_hears : about1.hears theMethod below0 = true := by decide +kernel
set_option maxRecDepth 65536 in
theorem w_ripe : about1.ripe theMethod args0 below0 = true := by decide +kernel
theorem w_running : about1.status = .running := rfl
set_option maxRecDepth 65536 in
theorem w_room : about1.hasRoom e0.platform room_1 = true :=
  launch0.hasRoom_least _ room_1 (by decide +kernel) (by decide +kernel) (by decide +kernel) (by decide +kernel) (by decide +kernel) (by decide +kernel)
theorem allAtoms_all (ts : List Jvm.Cond) (a : Array Jvm.Value) (st : Jvm.State) : (allAtoms ts).before a st = ts.all (fun c => c.before a st) := by
  induction ts with
  | nil => rfl
  | cons c t ih =>
    show (Jvm.Cond.and c (allAtoms t)).before a st = _
    rw [Jvm.Cond.before_and, ih, List.all_cons]
def words1 : List Jvm.Cond := Jvm.Cond.code x code maxLocals ret :: tables_1
/-- a 'code' word, met by the world's own term for the bytes: nothing is compared byte by byte -/
theorem code_word {y : MethodName} {bytes : ByteArray} {mx : Nat} {rt : Option FieldType} {a : Array Value} {s : State} {m : MethodId} {meth : Method} {c : Code} (h1 : s.methodNamed? y = some m) (h2 : s.vm.method? m = some meth) (h3 : meth.code = some c) (h4 : c.code = bytes)
    (h5 : (c.maxLocals == mx && c.exceptionTable.isEmpty && decide (c.maxStack ≤ mostOperands) && decide (meth.sig.returnType = rt) && !meth.locks && decide (parseMethodDescriptor y.desc = some meth.sig)) = true) : (Jvm.Cond.code y bytes mx rt).before a s = true := by
  simp only [Bool.and_eq_true, beq_iff_eq, Bool.not_eq_true', decide_eq_true_eq] at h5
  obtain ⟨⟨⟨⟨⟨g1, g2⟩, g3⟩, g4⟩, g5⟩, g6⟩ := h5
  simp [Cond.before, Cond.holds, Cond.value, h1, h2, h3, h4, g1, g2, g3, g4, g5, g6]
def isCode : Jvm.Cond → Bool
  | .code _ _ _ _ => true
  | _ => false
theorem all_split {L : List Jvm.Cond} {P : Jvm.Cond → Bool} (h1 : L.all (fun c => isCode c || P c) = true) (h2 : ∀ c ∈ L.filter isCode, P c = true) : L.all P = true := by
  refine List.all_eq_true.mpr fun c hc => ?_
  have h := List.all_eq_true.mp h1 c hc
  rcases Bool.eq_false_or_eq_true (isCode c) with hi | hi
  · exact h2 c (List.mem_filter.mpr ⟨hc, hi⟩)
  · simpa [hi] using h
set_option maxRecDepth 65536 in
theorem w_c0 : (Jvm.Cond.code x code maxLocals ret).before args0 about1 = true := code_word (m := ⟨1, 1⟩) (meth := k1m1) (c := k1c1) (by decide +kernel) rfl rfl rfl (by decide +kernel)
set_option maxRecDepth 65536 in
theorem w_c1 : (Jvm.Cond.code ({ cls := "java/lang/String", name := "<init>", desc := "([C)V" } : Jvm.MethodName) jdk_42_method_3_code (2 : Nat) (Option.none : Option Jvm.ClassFile.FieldType)).before args0 about1 = true := code_word (m := ⟨9, 1⟩) (meth := k9m1) (c := k9c1) (by decide +kernel) rfl rfl rfl (by decide +kernel)
set_option maxRecDepth 65536 in
theorem w_c2 : (Jvm.Cond.code ({ cls := "java/lang/String", name := "<init>", desc := "([CIILjava/lang/Void;)V" } : Jvm.MethodName) jdk_42_method_149_code (6 : Nat) (Option.none : Option Jvm.ClassFile.FieldType)).before args0 about1 = true := code_word (m := ⟨9, 2⟩) (meth := k9m2) (c := k9c2) (by decide +kernel) rfl rfl rfl (by decide +kernel)
set_option maxRecDepth 65536 in
theorem w_c3 : (Jvm.Cond.code ({ cls := "java/lang/Object", name := "<init>", desc := "()V" } : Jvm.MethodName) object_method_1_code (1 : Nat) (Option.none : Option Jvm.ClassFile.FieldType)).before args0 about1 = true := code_word (m := ⟨0, 0⟩) (meth := k0m0) (c := k0c0) (by decide +kernel) rfl rfl rfl (by decide +kernel)
set_option maxRecDepth 65536 in
theorem w_c4 : (Jvm.Cond.code ({ cls := "java/lang/StringUTF16", name := "compress", desc := "([CII)[B" } : Jvm.MethodName) jdk_52_method_16_code (6 : Nat) (Option.some (Jvm.ClassFile.FieldType.array Jvm.ClassFile.FieldType.byte))).before args0 about1 = true := code_word (m := ⟨10, 2⟩) (meth := k10m2) (c := k10c2) (by decide +kernel) rfl rfl rfl (by decide +kernel)
set_option maxRecDepth 65536 in
theorem w_c5 : (Jvm.Cond.code ({ cls := "java/lang/StringUTF16", name := "compress", desc := "([CI[BII)I" } : Jvm.MethodName) jdk_52_method_21_code (7 : Nat) (Option.some Jvm.ClassFile.FieldType.int)).before args0 about1 = true := code_word (m := ⟨10, 3⟩) (meth := k10m3) (c := k10c3) (by decide +kernel) rfl rfl rfl (by decide +kernel)
set_option maxRecDepth 65536 in
theorem w_c6 : (Jvm.Cond.code ({ cls := "java/lang/StringUTF16", name := "coderFromArrayLen", desc := "([BI)B" } : Jvm.MethodName) jdk_52_method_15_code (2 : Nat) (Option.some Jvm.ClassFile.FieldType.byte)).before args0 about1 = true := code_word (m := ⟨10, 1⟩) (meth := k10m1) (c := k10c1) (by decide +kernel) rfl rfl rfl (by decide +kernel)
set_option maxRecDepth 65536 in
theorem w_c7 : (Jvm.Cond.code ({ cls := "com/example/latchwork/latchwork/Operation", name := "<init>", desc := "(Ljava/lang/String;Ljava/lang/Object;)V" } : Jvm.MethodName) prog_12_method_1_code (3 : Nat) (Option.none : Option Jvm.ClassFile.FieldType)).before args0 about1 = true := code_word (m := ⟨3, 0⟩) (meth := k3m0) (c := k3c0) (by decide +kernel) rfl rfl rfl (by decide +kernel)
set_option maxRecDepth 65536 in
theorem w_c8 : (Jvm.Cond.code ({ cls := "java/lang/Record", name := "<init>", desc := "()V" } : Jvm.MethodName) jdk_30_method_1_code (1 : Nat) (Option.none : Option Jvm.ClassFile.FieldType)).before args0 about1 = true := code_word (m := ⟨2, 0⟩) (meth := k2m0) (c := k2c0) (by decide +kernel) rfl rfl rfl (by decide +kernel)
set_option maxRecDepth 65536 in
theorem w_c9 : (Jvm.Cond.code ({ cls := "java/util/Objects", name := "requireNonNull", desc := "(Ljava/lang/Object;Ljava/lang/String;)Ljava/lang/Object;" } : Jvm.MethodName) jdk_31_method_11_code (2 : Nat) (Option.some (Jvm.ClassFile.FieldType.object "java/lang/Object"))).before args0 about1 = true := code_word (m := ⟨11, 1⟩) (meth := k11m1) (c := k11c1) (by decide +kernel) rfl rfl rfl (by decide +kernel)
set_option maxRecDepth 65536 in
theorem w_c10 : (Jvm.Cond.code ({ cls := "com/example/latchwork/latchwork/RecordedForm$Call", name := "<init>", desc := "(Lcom/example/latchwork/latchwork/Operation;IILjava/lang/Object;)V" } : Jvm.MethodName) prog_15_method_2_code (5 : Nat) (Option.none : Option Jvm.ClassFile.FieldType)).before args0 about1 = true := code_word (m := ⟨12, 1⟩) (meth := k12m1) (c := k12c1) (by decide +kernel) rfl rfl rfl (by decide +kernel)
set_option maxRecDepth 65536 in
theorem w_c11 : (Jvm.Cond.code ({ cls := "com/example/latchwork/latchwork/RecordedForm$Call", name := "<init>", desc := "(Lcom/example/latchwork/latchwork/Operation;I)V" } : Jvm.MethodName) prog_15_method_1_code (3 : Nat) (Option.none : Option Jvm.ClassFile.FieldType)).before args0 about1 = true := code_word (m := ⟨12, 0⟩) (meth := k12m0) (c := k12c0) (by decide +kernel) rfl rfl rfl (by decide +kernel)
set_option maxRecDepth 65536 in
theorem w_c12 : (Jvm.Cond.code ({ cls := "com/example/latchwork/latchwork/RecordedForm$Call", name := "isAnswered", desc := "()Z" } : Jvm.MethodName) prog_15_method_3_code (1 : Nat) (Option.some Jvm.ClassFile.FieldType.boolean)).before args0 about1 = true := code_word (m := ⟨12, 2⟩) (meth := k12m2) (c := k12c2) (by decide +kernel) rfl rfl rfl (by decide +kernel)
set_option maxRecDepth 65536 in
theorem w_c13 : (Jvm.Cond.code ({ cls := "java/lang/Long", name := "valueOf", desc := "(J)Ljava/lang/Long;" } : Jvm.MethodName) jdk_35_method_24_code (3 : Nat) (Option.some (Jvm.ClassFile.FieldType.object "java/lang/Long"))).before args0 about1 = true := code_word (m := ⟨14, 0⟩) (meth := k14m0) (c := k14c0) (by decide +kernel) rfl rfl rfl (by decide +kernel)
set_option maxRecDepth 65536 in
theorem w_c14 : (Jvm.Cond.code ({ cls := "java/lang/Long", name := "<init>", desc := "(J)V" } : Jvm.MethodName) jdk_35_method_26_code (3 : Nat) (Option.none : Option Jvm.ClassFile.FieldType)).before args0 about1 = true := code_word (m := ⟨14, 1⟩) (meth := k14m1) (c := k14c1) (by decide +kernel) rfl rfl rfl (by decide +kernel)
set_option maxRecDepth 65536 in
theorem w_c15 : (Jvm.Cond.code ({ cls := "java/lang/Number", name := "<init>", desc := "()V" } : Jvm.MethodName) jdk_18_method_1_code (1 : Nat) (Option.none : Option Jvm.ClassFile.FieldType)).before args0 about1 = true := code_word (m := ⟨13, 0⟩) (meth := k13m0) (c := k13c0) (by decide +kernel) rfl rfl rfl (by decide +kernel)
def codes1 : List Jvm.Cond := [Jvm.Cond.code x code maxLocals ret, Jvm.Cond.code ({ cls := "java/lang/String", name := "<init>", desc := "([C)V" } : Jvm.MethodName) jdk_42_method_3_code (2 : Nat) (Option.none : Option Jvm.ClassFile.FieldType), Jvm.Cond.code ({ cls := "java/lang/String", name := "<init>", desc := "([CIILjava/lang/Void;)V" } : Jvm.MethodName) jdk_42_method_149_code (6 : Nat) (Option.none : Option Jvm.ClassFile.FieldType), Jvm.Cond.code ({ cls := "java/lang/Object", name := "<init>", desc := "()V" } : Jvm.MethodName) object_method_1_code (1 : Nat) (Option.none : Option Jvm.ClassFile.FieldType), Jvm.Cond.code ({ cls := "java/lang/StringUTF16", name := "compress", desc := "([CII)[B" } : Jvm.MethodName) jdk_52_method_16_code (6 : Nat) (Option.some (Jvm.ClassFile.FieldType.array Jvm.ClassFile.FieldType.byte)), Jvm.Cond.code ({ cls := "java/lang/StringUTF16", name := "compress", desc := "([CI[BII)I" } : Jvm.MethodName) jdk_52_method_21_code (7 : Nat) (Option.some Jvm.ClassFile.FieldType.int), Jvm.Cond.code ({ cls := "java/lang/StringUTF16", name := "coderFromArrayLen", desc := "([BI)B" } : Jvm.MethodName) jdk_52_method_15_code (2 : Nat) (Option.some Jvm.ClassFile.FieldType.byte), Jvm.Cond.code ({ cls := "com/example/latchwork/latchwork/Operation", name := "<init>", desc := "(Ljava/lang/String;Ljava/lang/Object;)V" } : Jvm.MethodName) prog_12_method_1_code (3 : Nat) (Option.none : Option Jvm.ClassFile.FieldType), Jvm.Cond.code ({ cls := "java/lang/Record", name := "<init>", desc := "()V" } : Jvm.MethodName) jdk_30_method_1_code (1 : Nat) (Option.none : Option Jvm.ClassFile.FieldType), Jvm.Cond.code ({ cls := "java/util/Objects", name := "requireNonNull", desc := "(Ljava/lang/Object;Ljava/lang/String;)Ljava/lang/Object;" } : Jvm.MethodName) jdk_31_method_11_code (2 : Nat) (Option.some (Jvm.ClassFile.FieldType.object "java/lang/Object")), Jvm.Cond.code ({ cls := "com/example/latchwork/latchwork/RecordedForm$Call", name := "<init>", desc := "(Lcom/example/latchwork/latchwork/Operation;IILjava/lang/Object;)V" } : Jvm.MethodName) prog_15_method_2_code (5 : Nat) (Option.none : Option Jvm.ClassFile.FieldType), Jvm.Cond.code ({ cls := "com/example/latchwork/latchwork/RecordedForm$Call", name := "<init>", desc := "(Lcom/example/latchwork/latchwork/Operation;I)V" } : Jvm.MethodName) prog_15_method_1_code (3 : Nat) (Option.none : Option Jvm.ClassFile.FieldType), Jvm.Cond.code ({ cls := "com/example/latchwork/latchwork/RecordedForm$Call", name := "isAnswered", desc := "()Z" } : Jvm.MethodName) prog_15_method_3_code (1 : Nat) (Option.some Jvm.ClassFile.FieldType.boolean), Jvm.Cond.code ({ cls := "java/lang/Long", name := "valueOf", desc := "(J)Ljava/lang/Long;" } : Jvm.MethodName) jdk_35_method_24_code (3 : Nat) (Option.some (Jvm.ClassFile.FieldType.object "java/lang/Long")), Jvm.Cond.code ({ cls := "java/lang/Long", name := "<init>", desc := "(J)V" } : Jvm.MethodName) jdk_35_method_26_code (3 : Nat) (Option.none : Option Jvm.ClassFile.FieldType), Jvm.Cond.code ({ cls := "java/lang/Number", name := "<init>", desc := "()V" } : Jvm.MethodName) jdk_18_method_1_code (1 : Nat) (Option.none : Option Jvm.ClassFile.FieldType)]
set_option maxRecDepth 65536 in
theorem codes_eq : words1.filter isCode = codes1 := rfl
theorem w_codes : ∀ c ∈ words1.filter isCode, c.before args0 about1 = true := by
  rw [codes_eq]
  intro c hc
  simp only [codes1, List.mem_cons, List.not_mem_nil, or_false] at hc
  rcases hc with rfl | rfl | rfl | rfl | rfl | rfl | rfl | rfl | rfl | rfl | rfl | rfl | rfl | rfl | rfl | rfl
  · exact w_c0
  · exact w_c1
  · exact w_c2
  · exact w_c3
  · exact w_c4
  · exact w_c5
  · exact w_c6
  · exact w_c7
  · exact w_c8
  · exact w_c9
  · exact w_c10
  · exact w_c11
  · exact w_c12
  · exact w_c13
  · exact w_c14
  · exact w_c15
set_option maxRecDepth 65536 in
theorem w_t1 : (words1.take 24).all (fun c => isCode c || c.before args0 about1) = true := by decide +kernel
set_option maxRecDepth 65536 in
theorem w_t2 : ((words1.drop 24).take 24).all (fun c => isCode c || c.before args0 about1) = true := by decide +kernel
set_option maxRecDepth 65536 in
theorem w_t3 : (((words1.drop 24).drop 24).take 24).all (fun c => isCode c || c.before args0 about1) = true := by decide +kernel
set_option maxRecDepth 65536 in
theorem w_t4 : ((((words1.drop 24).drop 24).drop 24).take 24).all (fun c => isCode c || c.before args0 about1) = true := by decide +kernel
set_option maxRecDepth 65536 in
theorem w_t5 : ((((words1.drop 24).drop 24).drop 24).drop 24).all (fun c => isCode c || c.before args0 about1) = true := by decide +kernel
theorem w_tables : (allAtoms (Jvm.Cond.code x code maxLocals ret :: tables_1)).before args0 about1 = true := by
  rw [allAtoms_all]
  show words1.all (fun c => c.before args0 about1) = true
  refine all_split ?_ w_codes
  rw [← List.take_append_drop 24 words1, List.all_append, w_t1, ← List.take_append_drop 24 (words1.drop 24), List.all_append, w_t2, ← List.take_append_drop 24 ((words1.drop 24).drop 24), List.all_append, w_t3, ← List.take_append_drop 24 (((words1.drop 24).drop 24).drop 24), List.all_append, w_t4, w_t5]
  rfl
set_option maxRecDepth 65536 in
theorem w_rest : rest_1_c.before args0 about1 = true := by decide +kernel
set_option maxRecDepth 65536 in
theorem w_case : (Jvm.Cond.and given_1 narrow_1).before args0 about1 = true := by decide +kernel
theorem w_applies : (headSpec (Jvm.Cond.code x code maxLocals ret :: tables_1) room_1).applies x e0.platform about1 = true :=
  (Spec.applies_iff w_frames).mpr ⟨w_running, w_runnable, w_alone, w_named, w_hears, w_ripe, w_room, w_tables⟩
theorem atStart : AtStart classFile x code maxLocals ret World_1 tables_1 room_1 Calls_1 rest_1 Pre_1 launch0 p0 e0 about1 theMethod args0 below0 :=
  ⟨lists_1, trivial, launch0.admits_env _ _ _, launch0.least_env, fairChoices_fair.cas, fairChoices_fair.clock, w_frames, w_args, w_heap, w_applies, trivial, w_rest, w_case⟩
end start1
theorem witness_1 : WitnessClaimed_1 := ⟨start1.p0, start1.e0, start1.about1, start1.theMethod, start1.args0, start1.below0, start1.atStart⟩
end Jvm.Pilot.@@N@@
