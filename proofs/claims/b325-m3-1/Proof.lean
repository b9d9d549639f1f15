import JvmDerived
import JvmDerived.Pilot.@@N@@Statement
import JvmDerived.Pilot.@@N@@Code
set_option linter.unusedVariables false
set_option linter.unusedSimpArgs false
namespace Jvm.RoadKit
open Sem ClassFile Op Lib Jvm.Stand Jvm.Free Jvm.LawKit
section New
variable {p : Program} {l : Launch} {e : Env} {R : Room} {s : State} {m : MethodId} {args : Array Value} {below : List Frame} {meth : Method} {c : Code} {T : State} {locs : List Loc} {cells slots : Nat}
theorem retI (X : Stand p l e R s m args below meth c T locs cells slots) (hx : p.tables.exec = Jvm.exec) {pc : Nat} {Ls : Array Slot} {z : Int32} {rest : List Value} (hret : meth.sig.returnType = some .int) (hd : decode c.code pc = .ok (.ireturn, 1)) {fs : List Frame}
    (hl : ∀ (f : JFrame) (acts : List Action), f.method = m → f.locked = none → f.entered = [] → (doReturn e (T.setTop f) acts (some (.int z))).1 = T.setFrames fs) : Steps p.tables e below (T.setTop (mkF m pc Ls (.int z :: rest))) (T.setFrames fs) := by
  have hm' : T.vm.method? m = some meth := X.method'
  have hn : narrow .int (.int z) = .int z := rfl
  show Steps p.tables e below (T.setTop { method := m, pc := pc, locals := Ls, stack := _ :: rest, locked := none }) _
  jvm_step X.here [X.here.top, hx, hd, hm', hret, hn]
  first | (intro acts; rw [hl _ acts rfl rfl rfl]) | rw [hl _ _ rfl rfl rfl]
  exact Steps.refl _
end New
end Jvm.RoadKit
namespace Jvm.Pilot.@@N@@
open Jvm Jvm.ClassFile Sem Op Lib Jvm.Free Jvm.Stand Jvm.LawKit Jvm.RoadKit Bundle Jvm.Pilot.@@N@@.Jvm.D
abbrev Sp (p : Program) (e : Env) (below : List Frame) (T : State) (f : JFrame) (t : State) : Prop := Steps p.tables e below (T.setTop f) t
theorem own_sz {Z : State} {n0 : Nat} {h : Heap} (O : Old Z n0 h) : n0 ≤ h.size := O.1 ▸ O.2.1
theorem own_nei {x c : Int32} {n : Int} (h : ¬ x = c) (e : c.toInt = n) : x.toInt ≠ n := fun q => h (Int32.toInt_inj.mp (q.trans e.symm))
theorem own_eq {x c : Int32} {n : Int} (e : c.toInt = n) (h : x.toInt = n) : x = c := Int32.toInt_inj.mp (h.trans e.symm)
theorem own_eqi {x c : Int32} {n : Int} (h : x = c) (e : c.toInt = n) : x.toInt = n := by rw [h]; exact e
theorem own_fldi {args : Array Value} {s : State} {t : Term} {a : Addr} {C n d : String} {c : Int32} (ev : t.eval args s none [] s = some (.ref a)) (h : (Cond.eq (.field t C n d) (.int c)).value args s none s [] = some true) : Fld s s.heap a C n d (.int c) := by
  apply Fld.start
  cases hf : s.fieldOf? a C n d with
  | none => simp [Cond.value, Term.eval, ev, hf] at h
  | some x => cases x <;> simp [Cond.value, Term.eval, ev, hf] at h ⊢; exact h
theorem own_fldr {args : Array Value} {s : State} {t u : Term} {a b : Addr} {C n d : String} (ev : t.eval args s none [] s = some (.ref a)) (eu : u.eval args s none [] s = some (.ref b)) (h : (Cond.eq (.field t C n d) u).value args s none s [] = some true) : Fld s s.heap a C n d (.ref b) := by
  apply Fld.start
  cases hf : s.fieldOf? a C n d with
  | none => simp [Cond.value, Term.eval, ev, eu, hf] at h
  | some x => cases x <;> simp [Cond.value, Term.eval, ev, eu, hf] at h ⊢; exact h
theorem own_rem {x m : Int32} {M d : Int} (hm : m.toInt = M) (h0 : 0 ≤ M) {y : Int32} (hy : y.toInt = d) (hd : 0 < d) : 0 ≤ ((x &&& m) % y).toInt ∧ ((x &&& m) % y).toInt < d := by
  have a := c_and x m (by rw [hm]; exact h0)
  have b := (c_irem (x &&& m) y d hy).1 a.1
  rw [b]; exact ⟨Int.emod_nonneg _ (by omega), Int.emod_lt_of_pos _ hd⟩
theorem own_ch0 (x : Int32) : ¬ (255 : Int32) < (x &&& (255 : Int32)) := by
  rw [Int32.lt_iff_toInt_lt]
  have a := c_and x (255 : Int32) (by decide)
  have b : (255 : Int32).toInt = 255 := rfl
  omega
theorem own_ch1 (x : Int32) : ¬ (255 : Int32) < ((x &&& (255 : Int32)).toUInt32.toUInt16.toUInt32.toInt32) := by rw [i2c_mask]; exact own_ch0 x
theorem own_ch2 (x : Int32) : ¬ (255 : Int32) < (nar .char ((x &&& (255 : Int32)).toUInt32.toUInt16.toUInt32.toInt32)) := by
  show ¬ (255 : Int32) < (((x &&& (255 : Int32)).toUInt32.toUInt16.toUInt32.toInt32).toUInt32.toUInt16.toUInt32.toInt32)
  rw [i2c_mask, i2c_mask]; exact own_ch0 x
theorem own_ch3 (x : Int32) : ¬ (255 : Int32) < (nar .char (x &&& (255 : Int32))) := own_ch1 x
def Perm (Z : State) (w_PENDING : Addr) (w_IGNORE : Addr) (cs_v : Int32) : Prop := Sta Z Z.heap "com/example/graph_job_runner/graphjobrunner/FailStrategy" "PENDING" "Lcom/example/graph_job_runner/graphjobrunner/FailStrategy;" (.ref w_PENDING) ∧ Exa Z Z.heap w_PENDING "com/example/graph_job_runner/graphjobrunner/FailStrategy" ∧ Sta Z Z.heap "com/example/graph_job_runner/graphjobrunner/FailStrategy" "IGNORE" "Lcom/example/graph_job_runner/graphjobrunner/FailStrategy;" (.ref w_IGNORE) ∧ Exa Z Z.heap w_IGNORE "com/example/graph_job_runner/graphjobrunner/FailStrategy" ∧ Sta Z Z.heap "java/lang/String" "COMPACT_STRINGS" "Z" (.int cs_v) ∧ ¬ (cs_v = (0 : Int32))
theorem d1_0 : decode jdk_42_method_3_code 0 = .ok (.aload_n 0, 1) := by decide +kernel
theorem d1_1 : decode jdk_42_method_3_code 1 = .ok (.aload_n 1, 1) := by decide +kernel
theorem d1_2 : decode jdk_42_method_3_code 2 = .ok (.iconst 0, 1) := by decide +kernel
theorem d1_3 : decode jdk_42_method_3_code 3 = .ok (.aload_n 1, 1) := by decide +kernel
theorem d1_4 : decode jdk_42_method_3_code 4 = .ok (.arraylength, 1) := by decide +kernel
theorem d1_5 : decode jdk_42_method_3_code 5 = .ok (.aconst_null, 1) := by decide +kernel
theorem d1_6 : decode jdk_42_method_3_code 6 = .ok (.invokespecial 27, 3) := by decide +kernel
theorem d2_0 : decode jdk_42_method_149_code 0 = .ok (.aload_n 0, 1) := by decide +kernel
theorem d2_1 : decode jdk_42_method_149_code 1 = .ok (.invokespecial 1, 3) := by decide +kernel
theorem d2_4 : decode jdk_42_method_149_code 4 = .ok (.iload_n 3, 1) := by decide +kernel
theorem d2_5 : decode jdk_42_method_149_code 5 = .ok (.ifCond .ne 22, 3) := by decide +kernel
theorem d2_27 : decode jdk_42_method_149_code 27 = .ok (.getstatic 38, 3) := by decide +kernel
theorem d2_30 : decode jdk_42_method_149_code 30 = .ok (.ifCond .eq 28, 3) := by decide +kernel
theorem d2_33 : decode jdk_42_method_149_code 33 = .ok (.aload_n 1, 1) := by decide +kernel
theorem d2_34 : decode jdk_42_method_149_code 34 = .ok (.iload_n 2, 1) := by decide +kernel
theorem d2_35 : decode jdk_42_method_149_code 35 = .ok (.iload_n 3, 1) := by decide +kernel
theorem d2_36 : decode jdk_42_method_149_code 36 = .ok (.invokestatic 177, 3) := by decide +kernel
theorem d4_0 : decode jdk_52_method_16_code 0 = .ok (.iload_n 2, 1) := by decide +kernel
theorem d4_1 : decode jdk_52_method_16_code 1 = .ok (.newarray .byte, 2) := by decide +kernel
theorem d4_3 : decode jdk_52_method_16_code 3 = .ok (.astore_n 3, 1) := by decide +kernel
theorem d4_4 : decode jdk_52_method_16_code 4 = .ok (.aload_n 0, 1) := by decide +kernel
theorem d4_5 : decode jdk_52_method_16_code 5 = .ok (.iload_n 1, 1) := by decide +kernel
theorem d4_6 : decode jdk_52_method_16_code 6 = .ok (.aload_n 3, 1) := by decide +kernel
theorem d4_7 : decode jdk_52_method_16_code 7 = .ok (.iconst 0, 1) := by decide +kernel
theorem d4_8 : decode jdk_52_method_16_code 8 = .ok (.iload_n 2, 1) := by decide +kernel
theorem d4_9 : decode jdk_52_method_16_code 9 = .ok (.invokestatic 115, 3) := by decide +kernel
theorem d5_0 : decode jdk_52_method_21_code 0 = .ok (.iconst 0, 1) := by decide +kernel
theorem d5_1 : decode jdk_52_method_21_code 1 = .ok (.istore 5, 2) := by decide +kernel
theorem d5_3 : decode jdk_52_method_21_code 3 = .ok (.iload 5, 2) := by decide +kernel
theorem d5_5 : decode jdk_52_method_21_code 5 = .ok (.iload 4, 2) := by decide +kernel
theorem d5_7 : decode jdk_52_method_21_code 7 = .ok (.if_icmp .ge 37, 3) := by decide +kernel
theorem d5_10 : decode jdk_52_method_21_code 10 = .ok (.aload_n 0, 1) := by decide +kernel
theorem d5_11 : decode jdk_52_method_21_code 11 = .ok (.iload_n 1, 1) := by decide +kernel
theorem d5_12 : decode jdk_52_method_21_code 12 = .ok (.caload, 1) := by decide +kernel
theorem d5_13 : decode jdk_52_method_21_code 13 = .ok (.istore 6, 2) := by decide +kernel
theorem d5_15 : decode jdk_52_method_21_code 15 = .ok (.iload 6, 2) := by decide +kernel
theorem d5_17 : decode jdk_52_method_21_code 17 = .ok (.sipush 255, 3) := by decide +kernel
theorem d5_20 : decode jdk_52_method_21_code 20 = .ok (.if_icmp .le 6, 3) := by decide +kernel
theorem d5_26 : decode jdk_52_method_21_code 26 = .ok (.aload_n 2, 1) := by decide +kernel
theorem d5_27 : decode jdk_52_method_21_code 27 = .ok (.iload_n 3, 1) := by decide +kernel
theorem d5_28 : decode jdk_52_method_21_code 28 = .ok (.iload 6, 2) := by decide +kernel
theorem d5_30 : decode jdk_52_method_21_code 30 = .ok (.i2b, 1) := by decide +kernel
theorem d5_31 : decode jdk_52_method_21_code 31 = .ok (.bastore, 1) := by decide +kernel
theorem d5_32 : decode jdk_52_method_21_code 32 = .ok (.iinc 1 1, 3) := by decide +kernel
theorem d5_35 : decode jdk_52_method_21_code 35 = .ok (.iinc 3 1, 3) := by decide +kernel
theorem d5_38 : decode jdk_52_method_21_code 38 = .ok (.iinc 5 1, 3) := by decide +kernel
theorem d5_41 : decode jdk_52_method_21_code 41 = .ok (.goto (-38), 3) := by decide +kernel
theorem d5_44 : decode jdk_52_method_21_code 44 = .ok (.iload 4, 2) := by decide +kernel
theorem d5_46 : decode jdk_52_method_21_code 46 = .ok (.ireturn, 1) := by decide +kernel
abbrev y0 : MethodName := (⟨"java/lang/StringUTF16", "compress", "([CI[BII)I"⟩ : MethodName)
theorem ef_5_0 (m : MethodId) (x0 : Addr) (x1 : Int32) (x2 : Addr) (x3 : Int32) (x4 : Int32) : entryFrame m #[(.ref x0), (.int x1), (.ref x2), (.int x3), (.int x4)] 7 = mkF m 0 #[.val (.ref x0), .val (.int x1), .val (.ref x2), .val (.int x3), .val (.int x4), .unset, .unset] [] := by first | (simp [entryFrame, mkF, argsToLocals, Value.category]; done) | rfl
theorem pn_5 : plainName "java/lang/StringUTF16" = true := by first | (simp [plainName, overriddenIn]; done) | decide +kernel
def Q1 (Z : State) (w_PENDING : Addr) (w_IGNORE : Addr) (cs_v : Int32) (a1 : Addr) (a2 : Addr) (k_a1 : ClassId) (p4 : Int32) (p5 : Int32) (k_a2 : ClassId) (h0 : Heap) (n0 : Nat) (v : Option Value) (h : Heap) (L : List Loc) : Prop := v = some (.int (2 : Int32)) ∧ Fr n0 L ∧ Keep h0 h [a2] ∧ Exa Z h a2 "[B" ∧ Arv Z h a2 k_a2 .byte (2 : Int32) [(.int (nar .byte (p4.toInt8.toInt32))), (.int (nar .byte (p5.toInt8.toInt32)))] (.int (0 : Int32))
set_option maxRecDepth 65536 in
set_option maxHeartbeats 40000000 in
theorem rm1 (l : Launch) (Z : State) (a0 : Array Value) (hw : ∀ d ∈ tables_1, d.before a0 Z = true) (ws : List Jvm.Cond) (w_PENDING w_IGNORE : Addr) (cs_v : Int32) (hp : Perm Z w_PENDING w_IGNORE cs_v) (a1 : Addr) (a2 : Addr) (k_a1 : ClassId) (p4 : Int32) (p5 : Int32) (k_a2 : ClassId) (h0 : Heap) (n0 : Nat) (O0 : Old Z n0 h0) (V_a1 : Arv Z h0 a1 k_a1 .char (2 : Int32) [(.int p4), (.int p5)] (.int (0 : Int32))) (hc2 : ¬ ((255 : Int32) < p4)) (E_a2 : Exa Z h0 a2 "[B") (V_a2 : Arv Z h0 a2 k_a2 .byte (2 : Int32) [(.int (0 : Int32)), (.int (0 : Int32))] (.int (0 : Int32))) (g_a2 : n0 ≤ a2) (ne_a1_a2 : a1 ≠ a2) (hc7 : ¬ ((255 : Int32) < p5)) :
    MetFree l y0 (head1 (Jvm.Cond.code y0 jdk_52_method_21_code 7 (some .int) :: ws) ({ frames := 0, cells := 0, slots := 0, locals := 0 } : Room)) (fun a U => a = #[(.ref a1), (.int (0 : Int32)), (.ref a2), (.int (0 : Int32)), (.int (2 : Int32))] ∧ Z.Warmed39 U.vm ∧ U.heap = h0) (fun _ _ _ _ _ => True) (fun _ U o U' => ∃ v L, o = .returned v ∧ Q1 Z w_PENDING w_IGNORE cs_v a1 a2 k_a1 p4 p5 k_a2 h0 n0 v U'.heap L ∧ FrameEnd U o U' L ({ frames := 0, cells := 0, slots := 0, locals := 0 } : Room).cells ({ frames := 0, cells := 0, slots := 0, locals := 0 } : Room).slots) := by
  refine MetFree.of_bodySF (plainFor_of_name pn_5) hisR ?_
  intro p e s m args below meth c s₁ Bd hml0 hP hK
  obtain ⟨rfl, hZ, hh⟩ := hP
  have hx := Bd.exec
  have hby := Bd.bytes
  have hml : c.maxLocals = 7 := hml0
  have hown : s.vm.findClass "java/lang/StringUTF16" = some m.cls := findClass_of_methodNamed Bd.named
  have hnm := (name_of_methodNamed Bd.named Bd.method).1
  have X0 : Stand p l e ({ frames := 0, cells := 0, slots := 0, locals := 0 } : Room) s m #[(.ref a1), (.int (0 : Int32)), (.ref a2), (.int (0 : Int32)), (.int (2 : Int32))] below meth c s₁ [] 0 0 := Stand.of_body Bd
  have e0 : s₁.heap = h0 := by rw [← hh, Bd.state]; rfl
  have N0 := Fr.nil n0
  have hp' := hp
  obtain ⟨S_w_PENDING, E_w_PENDING, S_w_IGNORE, E_w_IGNORE, S_COMPACT_STRINGS, h_cs⟩ := hp'
  have pre0 : ∀ t, Steps p.tables e below (s₁.setTop (mkF m 0 #[.val (.ref a1), .val (.int (0 : Int32)), .val (.ref a2), .val (.int (0 : Int32)), .val (.int (2 : Int32)), .unset, .unset] [])) t → Steps p.tables e below (s₁.setTop (entryFrame m #[(.ref a1), (.int (0 : Int32)), (.ref a2), (.int (0 : Int32)), (.int (2 : Int32))] 7)) t := fun t k => castTop (ef_5_0 m a1 (0 : Int32) a2 (0 : Int32) (2 : Int32)) k
  obtain ⟨cl1, Ar1, -, S1, -, H1, -⟩ := id V_a1
  have hin1 : ¬ ((0 : Int32) < 0 ∨ cl1.slots.size ≤ ((0 : Int32)).toNatClampNeg) := inb_of S1 ⟨by decide, by decide⟩
  have hat1 : cl1.slots[((0 : Int32)).toNatClampNeg]? = some (.int p4) := H1.at hin1 rfl
  obtain ⟨cl2, Ar2, q2, S2, Nn2, H2, G2⟩ := id V_a2
  have hin2 : ¬ ((0 : Int32) < 0 ∨ cl2.slots.size ≤ ((0 : Int32)).toNatClampNeg) := inb_of S2 ⟨by decide, by decide⟩
  obtain ⟨T3, h3, X3, e3, W3, st3⟩ := stB X0 hx hZ e0 Ar2 (j := (0 : Int32)) hin2 (g := (mkF m 31 #[.val (.ref a1), .val (.int (0 : Int32)), .val (.ref a2), .val (.int (0 : Int32)), .val (.int (2 : Int32)), .val (.int (0 : Int32)), .val (.int p4)] [(.int (p4.toInt8.toInt32)), (.int (0 : Int32)), (.ref a2)])) rfl rfl (hb hby d5_31)
  have N3 := Fr.snoc X3 N0 g_a2
  have O3 := O0.wr W3 g_a2
  have K3 : Keep h0 h3 [a2] := (Keep.refl h0 [a2]).wr W3 (Or.inl (List.mem_of_getElem? (i := 0) rfl))
  have V_a2_3 : Arv Z h3 a2 k_a2 .byte (2 : Int32) [(.int (nar .byte (p4.toInt8.toInt32))), (.int (0 : Int32))] (.int (0 : Int32)) := Arv.set Ar2 q2 S2 Nn2 H2 G2 (fits_nar_byte _) W3 0 rfl (Nat.le_of_ble_eq_true rfl)
  obtain ⟨cl4, Ar4, -, S4, -, H4, -⟩ := id (V_a1.other W3 ne_a1_a2)
  have hin4 : ¬ (((0 : Int32) + (1 : Int32)) < 0 ∨ cl4.slots.size ≤ (((0 : Int32) + (1 : Int32))).toNatClampNeg) := inb_of S4 ⟨by decide, by decide⟩
  have hat4 : cl4.slots[(((0 : Int32) + (1 : Int32))).toNatClampNeg]? = some (.int p5) := H4.at hin4 rfl
  obtain ⟨cl5, Ar5, q5, S5, Nn5, H5, G5⟩ := id V_a2_3
  have hin5 : ¬ (((0 : Int32) + (1 : Int32)) < 0 ∨ cl5.slots.size ≤ (((0 : Int32) + (1 : Int32))).toNatClampNeg) := inb_of S5 ⟨by decide, by decide⟩
  obtain ⟨T6, h6, X6, e6, W6, st6⟩ := stB X3 hx hZ e3 Ar5 (j := ((0 : Int32) + (1 : Int32))) hin5 (g := (mkF m 31 #[.val (.ref a1), .val (.int ((0 : Int32) + (1 : Int32))), .val (.ref a2), .val (.int ((0 : Int32) + (1 : Int32))), .val (.int (2 : Int32)), .val (.int ((0 : Int32) + (1 : Int32))), .val (.int p5)] [(.int (p5.toInt8.toInt32)), (.int ((0 : Int32) + (1 : Int32))), (.ref a2)])) rfl rfl (hb hby d5_31)
  have N6 := Fr.snoc X6 N3 g_a2
  have O6 := O3.wr W6 g_a2
  have K6 : Keep h0 h6 [a2] := K3.wr W6 (Or.inl (List.mem_of_getElem? (i := 0) rfl))
  have V_a2_6 : Arv Z h6 a2 k_a2 .byte (2 : Int32) [(.int (nar .byte (p4.toInt8.toInt32))), (.int (nar .byte (p5.toInt8.toInt32)))] (.int (0 : Int32)) := Arv.set Ar5 q5 S5 Nn5 H5 G5 (fits_nar_byte _) W6 1 rfl (Nat.le_of_ble_eq_true rfl)
  obtain ⟨fs, hr, hrun, hended, hW, hsame⟩ := X6.leave (v := some (.int (2 : Int32))) (fun h => by rw [Bd.returns] at h; cases h)
  refine ⟨_, _, pre0 _ ?_, hrun, hended, _, _, rfl, ?_, ⟨_, rfl⟩, hW, hsame.mono (by decide) (by decide)⟩
  · show Sp p e below s₁ (mkF m 0 #[.val (.ref a1), .val (.int (0 : Int32)), .val (.ref a2), .val (.int (0 : Int32)), .val (.int (2 : Int32)), .unset, .unset] []) _
    refine XS.iconst X0.here hx rfl (hb hby d5_0) ?_
    show Sp p e below s₁ (mkF m 1 #[.val (.ref a1), .val (.int (0 : Int32)), .val (.ref a2), .val (.int (0 : Int32)), .val (.int (2 : Int32)), .unset, .unset] [(.int (0 : Int32))]) _
    refine XS.istore X0.here hx rfl (hb hby d5_1) rfl (l' := #[.val (.ref a1), .val (.int (0 : Int32)), .val (.ref a2), .val (.int (0 : Int32)), .val (.int (2 : Int32)), .val (.int (0 : Int32)), .unset]) rfl ?_
    refine XS.iload X0.here hx rfl (hb hby d5_3) rfl ?_
    refine XS.iload X0.here hx rfl (hb hby d5_5) rfl ?_
    show Sp p e below s₁ (mkF m 7 #[.val (.ref a1), .val (.int (0 : Int32)), .val (.ref a2), .val (.int (0 : Int32)), .val (.int (2 : Int32)), .val (.int (0 : Int32)), .unset] [(.int (2 : Int32)), (.int (0 : Int32))]) _
    refine XS.icmpNo X0.here hx rfl (hb hby d5_7) rfl (tlt (by decide : (0 : Int32) < (2 : Int32))).2.1 ?_
    refine XS.aloadN X0.here hx rfl (hb hby d5_10) rfl rfl ?_
    refine XS.iloadN X0.here hx rfl (hb hby d5_11) rfl ?_
    show Sp p e below s₁ (mkF m 12 #[.val (.ref a1), .val (.int (0 : Int32)), .val (.ref a2), .val (.int (0 : Int32)), .val (.int (2 : Int32)), .val (.int (0 : Int32)), .unset] [(.int (0 : Int32)), (.ref a1)]) _
    refine X0.caload hx (j := (0 : Int32)) (v := (.int p4)) (by rw [e0]; exact Ar1.1) (State.isArrayOf_alike hZ.alike Ar1.2.1) Ar1.2.2 hin1 hat1 (g := (mkF m 12 #[.val (.ref a1), .val (.int (0 : Int32)), .val (.ref a2), .val (.int (0 : Int32)), .val (.int (2 : Int32)), .val (.int (0 : Int32)), .unset] [(.int (0 : Int32)), (.ref a1)])) rfl rfl (hb hby d5_12) _ ?_
    show Sp p e below s₁ (mkF m 13 #[.val (.ref a1), .val (.int (0 : Int32)), .val (.ref a2), .val (.int (0 : Int32)), .val (.int (2 : Int32)), .val (.int (0 : Int32)), .unset] [(.int p4)]) _
    refine XS.istore X0.here hx rfl (hb hby d5_13) rfl (l' := #[.val (.ref a1), .val (.int (0 : Int32)), .val (.ref a2), .val (.int (0 : Int32)), .val (.int (2 : Int32)), .val (.int (0 : Int32)), .val (.int p4)]) rfl ?_
    refine XS.iload X0.here hx rfl (hb hby d5_15) rfl ?_
    refine XS.sipush X0.here hx rfl (hb hby d5_17) ?_
    show Sp p e below s₁ (mkF m 20 #[.val (.ref a1), .val (.int (0 : Int32)), .val (.ref a2), .val (.int (0 : Int32)), .val (.int (2 : Int32)), .val (.int (0 : Int32)), .val (.int p4)] [(.int (255 : Int32)), (.int p4)]) _
    refine XS.icmpYes X0.here hx rfl (pc0 := 20) (pc' := 26) rfl (hb hby d5_20) rfl (flt hc2).2.2.2 (by decide) (by decide) ?_
    refine XS.aloadN X0.here hx rfl (hb hby d5_26) rfl rfl ?_
    refine XS.iloadN X0.here hx rfl (hb hby d5_27) rfl ?_
    refine XS.iload X0.here hx rfl (hb hby d5_28) rfl ?_
    show Sp p e below s₁ (mkF m 30 #[.val (.ref a1), .val (.int (0 : Int32)), .val (.ref a2), .val (.int (0 : Int32)), .val (.int (2 : Int32)), .val (.int (0 : Int32)), .val (.int p4)] [(.int p4), (.int (0 : Int32)), (.ref a2)]) _
    refine XS.i2b X0.here hx rfl (hb hby d5_30) rfl ?_
    show Sp p e below s₁ (mkF m 31 #[.val (.ref a1), .val (.int (0 : Int32)), .val (.ref a2), .val (.int (0 : Int32)), .val (.int (2 : Int32)), .val (.int (0 : Int32)), .val (.int p4)] [(.int (p4.toInt8.toInt32)), (.int (0 : Int32)), (.ref a2)]) _
    refine st3 _ ?_
    show Sp p e below T3 (mkF m 32 #[.val (.ref a1), .val (.int (0 : Int32)), .val (.ref a2), .val (.int (0 : Int32)), .val (.int (2 : Int32)), .val (.int (0 : Int32)), .val (.int p4)] []) _
    refine XS.iinc X3.here hx rfl (hb hby d5_32) rfl (l' := #[.val (.ref a1), .val (.int ((0 : Int32) + (1 : Int32))), .val (.ref a2), .val (.int (0 : Int32)), .val (.int (2 : Int32)), .val (.int (0 : Int32)), .val (.int p4)]) rfl ?_
    show Sp p e below T3 (mkF m 35 #[.val (.ref a1), .val (.int ((0 : Int32) + (1 : Int32))), .val (.ref a2), .val (.int (0 : Int32)), .val (.int (2 : Int32)), .val (.int (0 : Int32)), .val (.int p4)] []) _
    refine XS.iinc X3.here hx rfl (hb hby d5_35) rfl (l' := #[.val (.ref a1), .val (.int ((0 : Int32) + (1 : Int32))), .val (.ref a2), .val (.int ((0 : Int32) + (1 : Int32))), .val (.int (2 : Int32)), .val (.int (0 : Int32)), .val (.int p4)]) rfl ?_
    show Sp p e below T3 (mkF m 38 #[.val (.ref a1), .val (.int ((0 : Int32) + (1 : Int32))), .val (.ref a2), .val (.int ((0 : Int32) + (1 : Int32))), .val (.int (2 : Int32)), .val (.int (0 : Int32)), .val (.int p4)] []) _
    refine XS.iinc X3.here hx rfl (hb hby d5_38) rfl (l' := #[.val (.ref a1), .val (.int ((0 : Int32) + (1 : Int32))), .val (.ref a2), .val (.int ((0 : Int32) + (1 : Int32))), .val (.int (2 : Int32)), .val (.int ((0 : Int32) + (1 : Int32))), .val (.int p4)]) rfl ?_
    show Sp p e below T3 (mkF m 41 #[.val (.ref a1), .val (.int ((0 : Int32) + (1 : Int32))), .val (.ref a2), .val (.int ((0 : Int32) + (1 : Int32))), .val (.int (2 : Int32)), .val (.int ((0 : Int32) + (1 : Int32))), .val (.int p4)] []) _
    refine XS.goto X3.here hx rfl (pc0 := 41) (pc' := 3) rfl (hb hby d5_41) (by decide) (by decide) ?_
    refine XS.iload X3.here hx rfl (hb hby d5_3) rfl ?_
    refine XS.iload X3.here hx rfl (hb hby d5_5) rfl ?_
    show Sp p e below T3 (mkF m 7 #[.val (.ref a1), .val (.int ((0 : Int32) + (1 : Int32))), .val (.ref a2), .val (.int ((0 : Int32) + (1 : Int32))), .val (.int (2 : Int32)), .val (.int ((0 : Int32) + (1 : Int32))), .val (.int p4)] [(.int (2 : Int32)), (.int ((0 : Int32) + (1 : Int32)))]) _
    refine XS.icmpNo X3.here hx rfl (hb hby d5_7) rfl (tlt (by decide : ((0 : Int32) + (1 : Int32)) < (2 : Int32))).2.1 ?_
    refine XS.aloadN X3.here hx rfl (hb hby d5_10) rfl rfl ?_
    refine XS.iloadN X3.here hx rfl (hb hby d5_11) rfl ?_
    show Sp p e below T3 (mkF m 12 #[.val (.ref a1), .val (.int ((0 : Int32) + (1 : Int32))), .val (.ref a2), .val (.int ((0 : Int32) + (1 : Int32))), .val (.int (2 : Int32)), .val (.int ((0 : Int32) + (1 : Int32))), .val (.int p4)] [(.int ((0 : Int32) + (1 : Int32))), (.ref a1)]) _
    refine X3.caload hx (j := ((0 : Int32) + (1 : Int32))) (v := (.int p5)) (by rw [e3]; exact Ar4.1) (State.isArrayOf_alike hZ.alike Ar4.2.1) Ar4.2.2 hin4 hat4 (g := (mkF m 12 #[.val (.ref a1), .val (.int ((0 : Int32) + (1 : Int32))), .val (.ref a2), .val (.int ((0 : Int32) + (1 : Int32))), .val (.int (2 : Int32)), .val (.int ((0 : Int32) + (1 : Int32))), .val (.int p4)] [(.int ((0 : Int32) + (1 : Int32))), (.ref a1)])) rfl rfl (hb hby d5_12) _ ?_
    show Sp p e below T3 (mkF m 13 #[.val (.ref a1), .val (.int ((0 : Int32) + (1 : Int32))), .val (.ref a2), .val (.int ((0 : Int32) + (1 : Int32))), .val (.int (2 : Int32)), .val (.int ((0 : Int32) + (1 : Int32))), .val (.int p4)] [(.int p5)]) _
    refine XS.istore X3.here hx rfl (hb hby d5_13) rfl (l' := #[.val (.ref a1), .val (.int ((0 : Int32) + (1 : Int32))), .val (.ref a2), .val (.int ((0 : Int32) + (1 : Int32))), .val (.int (2 : Int32)), .val (.int ((0 : Int32) + (1 : Int32))), .val (.int p5)]) rfl ?_
    refine XS.iload X3.here hx rfl (hb hby d5_15) rfl ?_
    refine XS.sipush X3.here hx rfl (hb hby d5_17) ?_
    show Sp p e below T3 (mkF m 20 #[.val (.ref a1), .val (.int ((0 : Int32) + (1 : Int32))), .val (.ref a2), .val (.int ((0 : Int32) + (1 : Int32))), .val (.int (2 : Int32)), .val (.int ((0 : Int32) + (1 : Int32))), .val (.int p5)] [(.int (255 : Int32)), (.int p5)]) _
    refine XS.icmpYes X3.here hx rfl (pc0 := 20) (pc' := 26) rfl (hb hby d5_20) rfl (flt hc7).2.2.2 (by decide) (by decide) ?_
    refine XS.aloadN X3.here hx rfl (hb hby d5_26) rfl rfl ?_
    refine XS.iloadN X3.here hx rfl (hb hby d5_27) rfl ?_
    refine XS.iload X3.here hx rfl (hb hby d5_28) rfl ?_
    show Sp p e below T3 (mkF m 30 #[.val (.ref a1), .val (.int ((0 : Int32) + (1 : Int32))), .val (.ref a2), .val (.int ((0 : Int32) + (1 : Int32))), .val (.int (2 : Int32)), .val (.int ((0 : Int32) + (1 : Int32))), .val (.int p5)] [(.int p5), (.int ((0 : Int32) + (1 : Int32))), (.ref a2)]) _
    refine XS.i2b X3.here hx rfl (hb hby d5_30) rfl ?_
    show Sp p e below T3 (mkF m 31 #[.val (.ref a1), .val (.int ((0 : Int32) + (1 : Int32))), .val (.ref a2), .val (.int ((0 : Int32) + (1 : Int32))), .val (.int (2 : Int32)), .val (.int ((0 : Int32) + (1 : Int32))), .val (.int p5)] [(.int (p5.toInt8.toInt32)), (.int ((0 : Int32) + (1 : Int32))), (.ref a2)]) _
    refine st6 _ ?_
    show Sp p e below T6 (mkF m 32 #[.val (.ref a1), .val (.int ((0 : Int32) + (1 : Int32))), .val (.ref a2), .val (.int ((0 : Int32) + (1 : Int32))), .val (.int (2 : Int32)), .val (.int ((0 : Int32) + (1 : Int32))), .val (.int p5)] []) _
    refine XS.iinc X6.here hx rfl (hb hby d5_32) rfl (l' := #[.val (.ref a1), .val (.int (((0 : Int32) + (1 : Int32)) + (1 : Int32))), .val (.ref a2), .val (.int ((0 : Int32) + (1 : Int32))), .val (.int (2 : Int32)), .val (.int ((0 : Int32) + (1 : Int32))), .val (.int p5)]) rfl ?_
    show Sp p e below T6 (mkF m 35 #[.val (.ref a1), .val (.int (((0 : Int32) + (1 : Int32)) + (1 : Int32))), .val (.ref a2), .val (.int ((0 : Int32) + (1 : Int32))), .val (.int (2 : Int32)), .val (.int ((0 : Int32) + (1 : Int32))), .val (.int p5)] []) _
    refine XS.iinc X6.here hx rfl (hb hby d5_35) rfl (l' := #[.val (.ref a1), .val (.int (((0 : Int32) + (1 : Int32)) + (1 : Int32))), .val (.ref a2), .val (.int (((0 : Int32) + (1 : Int32)) + (1 : Int32))), .val (.int (2 : Int32)), .val (.int ((0 : Int32) + (1 : Int32))), .val (.int p5)]) rfl ?_
    show Sp p e below T6 (mkF m 38 #[.val (.ref a1), .val (.int (((0 : Int32) + (1 : Int32)) + (1 : Int32))), .val (.ref a2), .val (.int (((0 : Int32) + (1 : Int32)) + (1 : Int32))), .val (.int (2 : Int32)), .val (.int ((0 : Int32) + (1 : Int32))), .val (.int p5)] []) _
    refine XS.iinc X6.here hx rfl (hb hby d5_38) rfl (l' := #[.val (.ref a1), .val (.int (((0 : Int32) + (1 : Int32)) + (1 : Int32))), .val (.ref a2), .val (.int (((0 : Int32) + (1 : Int32)) + (1 : Int32))), .val (.int (2 : Int32)), .val (.int (((0 : Int32) + (1 : Int32)) + (1 : Int32))), .val (.int p5)]) rfl ?_
    show Sp p e below T6 (mkF m 41 #[.val (.ref a1), .val (.int (((0 : Int32) + (1 : Int32)) + (1 : Int32))), .val (.ref a2), .val (.int (((0 : Int32) + (1 : Int32)) + (1 : Int32))), .val (.int (2 : Int32)), .val (.int (((0 : Int32) + (1 : Int32)) + (1 : Int32))), .val (.int p5)] []) _
    refine XS.goto X6.here hx rfl (pc0 := 41) (pc' := 3) rfl (hb hby d5_41) (by decide) (by decide) ?_
    refine XS.iload X6.here hx rfl (hb hby d5_3) rfl ?_
    refine XS.iload X6.here hx rfl (hb hby d5_5) rfl ?_
    show Sp p e below T6 (mkF m 7 #[.val (.ref a1), .val (.int (((0 : Int32) + (1 : Int32)) + (1 : Int32))), .val (.ref a2), .val (.int (((0 : Int32) + (1 : Int32)) + (1 : Int32))), .val (.int (2 : Int32)), .val (.int (((0 : Int32) + (1 : Int32)) + (1 : Int32))), .val (.int p5)] [(.int (2 : Int32)), (.int (((0 : Int32) + (1 : Int32)) + (1 : Int32)))]) _
    refine XS.icmpYes X6.here hx rfl (pc0 := 7) (pc' := 44) rfl (hb hby d5_7) rfl (flt (by decide : ¬ ((((0 : Int32) + (1 : Int32)) + (1 : Int32)) < (2 : Int32)))).2.1 (by decide) (by decide) ?_
    refine XS.iload X6.here hx rfl (hb hby d5_44) rfl ?_
    show Sp p e below T6 (mkF m 46 #[.val (.ref a1), .val (.int (((0 : Int32) + (1 : Int32)) + (1 : Int32))), .val (.ref a2), .val (.int (((0 : Int32) + (1 : Int32)) + (1 : Int32))), .val (.int (2 : Int32)), .val (.int (((0 : Int32) + (1 : Int32)) + (1 : Int32))), .val (.int p5)] [(.int (2 : Int32))]) _
    exact retI X6 hx Bd.returns (hb hby d5_46) hr
  · show Q1 Z w_PENDING w_IGNORE cs_v a1 a2 k_a1 p4 p5 k_a2 h0 n0 _ T6.heap _
    rw [e6]
    exact ⟨rfl, N6, K6, ((E_a2.wr W3).wr W6), V_a2_6⟩
theorem pd_0 : parseMethodDescriptor "([CI[BII)I" = some ⟨[(.array .char), .int, (.array .byte), .int, .int], some .int⟩ := by decide +kernel
theorem d4_12 : decode jdk_52_method_16_code 12 = .ok (.istore 4, 2) := by decide +kernel
theorem d4_14 : decode jdk_52_method_16_code 14 = .ok (.iload 4, 2) := by decide +kernel
theorem d4_16 : decode jdk_52_method_16_code 16 = .ok (.iload_n 2, 1) := by decide +kernel
theorem d4_17 : decode jdk_52_method_16_code 17 = .ok (.if_icmp .eq 40, 3) := by decide +kernel
theorem d4_57 : decode jdk_52_method_16_code 57 = .ok (.aload_n 3, 1) := by decide +kernel
theorem d4_58 : decode jdk_52_method_16_code 58 = .ok (.areturn, 1) := by decide +kernel
abbrev y1 : MethodName := (⟨"java/lang/StringUTF16", "compress", "([CII)[B"⟩ : MethodName)
theorem ef_4_0 (m : MethodId) (x0 : Addr) (x1 : Int32) (x2 : Int32) : entryFrame m #[(.ref x0), (.int x1), (.int x2)] 6 = mkF m 0 #[.val (.ref x0), .val (.int x1), .val (.int x2), .unset, .unset, .unset] [] := by first | (simp [entryFrame, mkF, argsToLocals, Value.category]; done) | rfl
def Q2 (Z : State) (w_PENDING : Addr) (w_IGNORE : Addr) (cs_v : Int32) (a1 : Addr) (k_a1 : ClassId) (p3 : Int32) (p4 : Int32) (h0 : Heap) (n0 : Nat) (v : Option Value) (h : Heap) (L : List Loc) : Prop := ∃ (b1 : Addr), ∃ (k1 : ClassId), v = some (.ref b1) ∧ Fr n0 L ∧ Keep h0 h [] ∧ h0.size ≤ b1 ∧ Exa Z h b1 "[B" ∧ Arv Z h b1 k1 .byte (2 : Int32) [(.int (nar .byte (p3.toInt8.toInt32))), (.int (nar .byte (p4.toInt8.toInt32)))] (.int (0 : Int32))
set_option maxRecDepth 65536 in
set_option maxHeartbeats 40000000 in
theorem rm2 (l : Launch) (Z : State) (a0 : Array Value) (hw : ∀ d ∈ tables_1, d.before a0 Z = true) (ws : List Jvm.Cond) (w_PENDING w_IGNORE : Addr) (cs_v : Int32) (hp : Perm Z w_PENDING w_IGNORE cs_v) (a1 : Addr) (k_a1 : ClassId) (p3 : Int32) (p4 : Int32) (h0 : Heap) (n0 : Nat) (O0 : Old Z n0 h0) (V_a1 : Arv Z h0 a1 k_a1 .char (2 : Int32) [(.int p3), (.int p4)] (.int (0 : Int32))) (hc2 : ¬ ((255 : Int32) < p3)) (hc3 : ¬ ((255 : Int32) < p4)) (E_a1 : Exa Z h0 a1 "[C") :
    MetFree l y1 (head1 (Jvm.Cond.code y1 jdk_52_method_16_code 6 (some (.array .byte)) :: ws) ({ frames := 1, cells := 1, slots := 2, locals := 18 } : Room)) (fun a U => a = #[(.ref a1), (.int (0 : Int32)), (.int (2 : Int32))] ∧ Z.Warmed39 U.vm ∧ U.heap = h0) (fun _ _ _ _ _ => True) (fun _ U o U' => ∃ v L, o = .returned v ∧ Q2 Z w_PENDING w_IGNORE cs_v a1 k_a1 p3 p4 h0 n0 v U'.heap L ∧ FrameEnd U o U' L ({ frames := 1, cells := 1, slots := 2, locals := 18 } : Room).cells ({ frames := 1, cells := 1, slots := 2, locals := 18 } : Room).slots) := by
  refine MetFree.of_bodySF (plainFor_of_name pn_5) hisR ?_
  intro p e s m args below meth c s₁ Bd hml0 hP hK
  obtain ⟨rfl, hZ, hh⟩ := hP
  have hx := Bd.exec
  have hby := Bd.bytes
  have hml : c.maxLocals = 6 := hml0
  have hown : s.vm.findClass "java/lang/StringUTF16" = some m.cls := findClass_of_methodNamed Bd.named
  have hnm := (name_of_methodNamed Bd.named Bd.method).1
  have X0 : Stand p l e ({ frames := 1, cells := 1, slots := 2, locals := 18 } : Room) s m #[(.ref a1), (.int (0 : Int32)), (.int (2 : Int32))] below meth c s₁ [] 0 0 := Stand.of_body Bd
  have e0 : s₁.heap = h0 := by rw [← hh, Bd.state]; rfl
  have N0 := Fr.nil n0
  have hp' := hp
  obtain ⟨S_w_PENDING, E_w_PENDING, S_w_IGNORE, E_w_IGNORE, S_COMPACT_STRINGS, h_cs⟩ := hp'
  have pre0 : ∀ t, Steps p.tables e below (s₁.setTop (mkF m 0 #[.val (.ref a1), .val (.int (0 : Int32)), .val (.int (2 : Int32)), .unset, .unset, .unset] [])) t → Steps p.tables e below (s₁.setTop (entryFrame m #[(.ref a1), (.int (0 : Int32)), (.int (2 : Int32))] 6)) t := fun t k => castTop (ef_4_0 m a1 (0 : Int32) (2 : Int32)) k
  obtain ⟨T1, h1, k1, X1, e1, E1, A1, EA1, st1⟩ := newPE X0 hx hZ (hw _ (List.mem_of_getElem? (i := 19) rfl)) e0 (g := (mkF m 1 #[.val (.ref a1), .val (.int (0 : Int32)), .val (.int (2 : Int32)), .unset, .unset, .unset] [(.int (2 : Int32))])) rfl (hb hby d4_1) rfl (by decide) (cap := 2) (by decide) (by decide) (by decide) (by decide) (ad := "[B") (by decide)
  obtain ⟨b1, g1⟩ : ∃ z, z = h0.size := ⟨_, rfl⟩
  rw [← g1] at A1 EA1 st1
  have g_b1 : n0 ≤ b1 := Nat.le_trans (own_sz O0) (Nat.le_of_eq g1.symm)
  have sz_b1 : h0.size ≤ b1 := Nat.le_trans (Keep.refl h0 []).1 (Nat.le_of_eq g1.symm)
  have O1 := O0.ext E1
  have K1 : Keep h0 h1 [] := (Keep.refl h0 []).ext E1
  have V_b1 : Arv Z h1 b1 k1 .byte (2 : Int32) [(.int (0 : Int32)), (.int (0 : Int32))] (.int (0 : Int32)) := (Arv.new A1 (by decide)).pad (pad_rep [] (.int (0 : Int32)) 2)
  obtain ⟨_, _, ⟨T2, L2, k2, n2⟩, -, X2, ⟨Lc2, hQ2, l2, y2, z2⟩, st2⟩ := Jvm.LawKit.callS X1 hx (y := y0) hown (mvT hZ (hw _ (List.mem_of_getElem? (i := 20) rfl))) (mvT hZ (hw _ (List.mem_of_getElem? (i := 21) rfl))) (mvT hZ (hw _ (List.mem_of_getElem? (i := 17) rfl))) (mvT hZ (hw _ (List.mem_of_getElem? (i := 22) rfl))) (by decide) (backOf (W := 0) (rm1 l Z a0 hw [] w_PENDING w_IGNORE cs_v hp a1 b1 k_a1 p3 p4 k1 h1 n0 O1 (V_a1.ext E1) hc2 EA1 V_b1 g_b1 (Nat.ne_of_lt (Nat.lt_of_lt_of_le E_a1.lt sz_b1)) hc3) hZ (hw _ (List.mem_of_getElem? (i := 22) rfl)) (hw _ (List.mem_of_getElem? (i := 17) rfl)) (by decide) (by decide)) (g := (mkF m 9 #[.val (.ref a1), .val (.int (0 : Int32)), .val (.int (2 : Int32)), .val (.ref b1), .unset, .unset] [(.int (2 : Int32)), (.int (0 : Int32)), (.ref b1), (.int (0 : Int32)), (.ref a1)])) rfl (by rw [hml]; rfl) (argsL := [(.ref a1), (.int (0 : Int32)), (.ref b1), (.int (0 : Int32)), (.int (2 : Int32))]) (rest := []) (lenOf pd_0 rfl) rfl (by show 2 * 0 + _ ≤ _; exact Nat.le_of_eq rfl) (hb hby d4_9) (fun _ _ => ⟨rfl, e1, (by decide : 1 + 0 ≤ _), (by decide : 2 + 0 ≤ _)⟩)
  dsimp only [Pt.U, Pt.locs, Pt.cells, Pt.slots] at X2 l2 y2 z2 st2 hQ2
  subst l2 y2 z2
  obtain ⟨rfl, Nq2, Kq2, fq2_0, fq2_1⟩ := hQ2
  have N2 := Fr.app N0 Nq2
  have O2 := O1.keep Kq2 (allS g_b1 all0)
  have K2 : Keep h0 T2.heap [] := K1.trans Kq2 (allS (Or.inr sz_b1) all0)
  obtain ⟨fs, hr, hrun, hended, hW, hsame⟩ := X2.leave (v := some (.ref b1)) (fun h => by rw [Bd.returns] at h; cases h)
  refine ⟨_, _, pre0 _ ?_, hrun, hended, _, _, rfl, ?_, ⟨_, rfl⟩, hW, hsame.mono (by decide) (by decide)⟩
  · show Sp p e below s₁ (mkF m 0 #[.val (.ref a1), .val (.int (0 : Int32)), .val (.int (2 : Int32)), .unset, .unset, .unset] []) _
    refine XS.iloadN X0.here hx rfl (hb hby d4_0) rfl ?_
    show Sp p e below s₁ (mkF m 1 #[.val (.ref a1), .val (.int (0 : Int32)), .val (.int (2 : Int32)), .unset, .unset, .unset] [(.int (2 : Int32))]) _
    refine st1 _ ?_
    show Sp p e below T1 (mkF m 3 #[.val (.ref a1), .val (.int (0 : Int32)), .val (.int (2 : Int32)), .unset, .unset, .unset] [(.ref b1)]) _
    refine XS.astoreN X1.here hx rfl (hb hby d4_3) rfl rfl (l' := #[.val (.ref a1), .val (.int (0 : Int32)), .val (.int (2 : Int32)), .val (.ref b1), .unset, .unset]) rfl ?_
    refine XS.aloadN X1.here hx rfl (hb hby d4_4) rfl rfl ?_
    refine XS.iloadN X1.here hx rfl (hb hby d4_5) rfl ?_
    refine XS.aloadN X1.here hx rfl (hb hby d4_6) rfl rfl ?_
    refine XS.iconst X1.here hx rfl (hb hby d4_7) ?_
    refine XS.iloadN X1.here hx rfl (hb hby d4_8) rfl ?_
    show Sp p e below T1 (mkF m 9 #[.val (.ref a1), .val (.int (0 : Int32)), .val (.int (2 : Int32)), .val (.ref b1), .unset, .unset] [(.int (2 : Int32)), (.int (0 : Int32)), (.ref b1), (.int (0 : Int32)), (.ref a1)]) _
    refine st2 _ ?_
    show Sp p e below T2 (mkF m 12 #[.val (.ref a1), .val (.int (0 : Int32)), .val (.int (2 : Int32)), .val (.ref b1), .unset, .unset] [(.int (2 : Int32))]) _
    refine XS.istore X2.here hx rfl (hb hby d4_12) rfl (l' := #[.val (.ref a1), .val (.int (0 : Int32)), .val (.int (2 : Int32)), .val (.ref b1), .val (.int (2 : Int32)), .unset]) rfl ?_
    refine XS.iload X2.here hx rfl (hb hby d4_14) rfl ?_
    refine XS.iloadN X2.here hx rfl (hb hby d4_16) rfl ?_
    show Sp p e below T2 (mkF m 17 #[.val (.ref a1), .val (.int (0 : Int32)), .val (.int (2 : Int32)), .val (.ref b1), .val (.int (2 : Int32)), .unset] [(.int (2 : Int32)), (.int (2 : Int32))]) _
    refine XS.icmpYes X2.here hx rfl (pc0 := 17) (pc' := 57) rfl (hb hby d4_17) rfl (teq (by decide : (2 : Int32) = (2 : Int32))).1 (by decide) (by decide) ?_
    refine XS.aloadN X2.here hx rfl (hb hby d4_57) rfl rfl ?_
    show Sp p e below T2 (mkF m 58 #[.val (.ref a1), .val (.int (0 : Int32)), .val (.int (2 : Int32)), .val (.ref b1), .val (.int (2 : Int32)), .unset] [(.ref b1)]) _
    jvm_step X2.here [X2.here.top, hx, (hb hby d4_58), X2.method', Bd.returns, Value.isRef, FieldType.isReference]
    first | (intro acts; rw [hr _ acts rfl rfl rfl]) | rw [hr _ _ rfl rfl rfl]
    exact Steps.refl _
  · show Q2 Z w_PENDING w_IGNORE cs_v a1 k_a1 p3 p4 h0 n0 _ T2.heap _
    exact ⟨b1, k1, rfl, N2, K2, sz_b1, fq2_0, fq2_1⟩
theorem pd_1 : parseMethodDescriptor "([CII)[B" = some ⟨[(.array .char), .int, .int], some (.array .byte)⟩ := by decide +kernel
theorem d2_39 : decode jdk_42_method_149_code 39 = .ok (.astore 5, 2) := by decide +kernel
theorem d2_41 : decode jdk_42_method_149_code 41 = .ok (.aload_n 0, 1) := by decide +kernel
theorem d2_42 : decode jdk_42_method_149_code 42 = .ok (.aload 5, 2) := by decide +kernel
theorem d2_44 : decode jdk_42_method_149_code 44 = .ok (.iload_n 3, 1) := by decide +kernel
theorem d2_45 : decode jdk_42_method_149_code 45 = .ok (.invokestatic 47, 3) := by decide +kernel
theorem d6_0 : decode jdk_52_method_15_code 0 = .ok (.iload_n 1, 1) := by decide +kernel
theorem d6_1 : decode jdk_52_method_15_code 1 = .ok (.aload_n 0, 1) := by decide +kernel
theorem d6_2 : decode jdk_52_method_15_code 2 = .ok (.arraylength, 1) := by decide +kernel
theorem d6_3 : decode jdk_52_method_15_code 3 = .ok (.isub, 1) := by decide +kernel
theorem d6_4 : decode jdk_52_method_15_code 4 = .ok (.bipush 31, 2) := by decide +kernel
theorem d6_6 : decode jdk_52_method_15_code 6 = .ok (.iushr, 1) := by decide +kernel
theorem d6_7 : decode jdk_52_method_15_code 7 = .ok (.i2b, 1) := by decide +kernel
theorem d6_8 : decode jdk_52_method_15_code 8 = .ok (.ireturn, 1) := by decide +kernel
abbrev y2 : MethodName := (⟨"java/lang/StringUTF16", "coderFromArrayLen", "([BI)B"⟩ : MethodName)
theorem ef_6_0 (m : MethodId) (x0 : Addr) (x1 : Int32) : entryFrame m #[(.ref x0), (.int x1)] 2 = mkF m 0 #[.val (.ref x0), .val (.int x1)] [] := by first | (simp [entryFrame, mkF, argsToLocals, Value.category]; done) | rfl
def Q3 (Z : State) (w_PENDING : Addr) (w_IGNORE : Addr) (cs_v : Int32) (a1 : Addr) (k_a1 : ClassId) (p3 : Int32) (p4 : Int32) (h0 : Heap) (n0 : Nat) (v : Option Value) (h : Heap) (L : List Loc) : Prop := v = some (.int (0 : Int32)) ∧ Fr n0 L ∧ h = h0
set_option maxRecDepth 65536 in
set_option maxHeartbeats 40000000 in
theorem rm3 (l : Launch) (Z : State) (a0 : Array Value) (hw : ∀ d ∈ tables_1, d.before a0 Z = true) (ws : List Jvm.Cond) (w_PENDING w_IGNORE : Addr) (cs_v : Int32) (hp : Perm Z w_PENDING w_IGNORE cs_v) (a1 : Addr) (k_a1 : ClassId) (p3 : Int32) (p4 : Int32) (h0 : Heap) (n0 : Nat) (O0 : Old Z n0 h0) (V_a1 : Arv Z h0 a1 k_a1 .byte (2 : Int32) [(.int p3), (.int p4)] (.int (0 : Int32))) :
    MetFree l y2 (head1 (Jvm.Cond.code y2 jdk_52_method_15_code 2 (some .byte) :: ws) ({ frames := 0, cells := 0, slots := 0, locals := 0 } : Room)) (fun a U => a = #[(.ref a1), (.int (2 : Int32))] ∧ Z.Warmed39 U.vm ∧ U.heap = h0) (fun _ _ _ _ _ => True) (fun _ U o U' => ∃ v L, o = .returned v ∧ Q3 Z w_PENDING w_IGNORE cs_v a1 k_a1 p3 p4 h0 n0 v U'.heap L ∧ FrameEnd U o U' L ({ frames := 0, cells := 0, slots := 0, locals := 0 } : Room).cells ({ frames := 0, cells := 0, slots := 0, locals := 0 } : Room).slots) := by
  refine MetFree.of_bodySF (plainFor_of_name pn_5) hisR ?_
  intro p e s m args below meth c s₁ Bd hml0 hP hK
  obtain ⟨rfl, hZ, hh⟩ := hP
  have hx := Bd.exec
  have hby := Bd.bytes
  have hml : c.maxLocals = 2 := hml0
  have hown : s.vm.findClass "java/lang/StringUTF16" = some m.cls := findClass_of_methodNamed Bd.named
  have hnm := (name_of_methodNamed Bd.named Bd.method).1
  have X0 : Stand p l e ({ frames := 0, cells := 0, slots := 0, locals := 0 } : Room) s m #[(.ref a1), (.int (2 : Int32))] below meth c s₁ [] 0 0 := Stand.of_body Bd
  have e0 : s₁.heap = h0 := by rw [← hh, Bd.state]; rfl
  have N0 := Fr.nil n0
  have hp' := hp
  obtain ⟨S_w_PENDING, E_w_PENDING, S_w_IGNORE, E_w_IGNORE, S_COMPACT_STRINGS, h_cs⟩ := hp'
  have pre0 : ∀ t, Steps p.tables e below (s₁.setTop (mkF m 0 #[.val (.ref a1), .val (.int (2 : Int32))] [])) t → Steps p.tables e below (s₁.setTop (entryFrame m #[(.ref a1), (.int (2 : Int32))] 2)) t := fun t k => castTop (ef_6_0 m a1 (2 : Int32)) k
  obtain ⟨cl1, Ar1, -, S1, Nn1, -, -⟩ := id V_a1
  obtain ⟨fs, hr, hrun, hended, hW, hsame⟩ := X0.leave (v := some (.int (0 : Int32))) (fun h => by rw [Bd.returns] at h; cases h)
  refine ⟨_, _, pre0 _ ?_, hrun, hended, _, _, rfl, ?_, ⟨_, rfl⟩, hW, hsame.mono (by decide) (by decide)⟩
  · show Sp p e below s₁ (mkF m 0 #[.val (.ref a1), .val (.int (2 : Int32))] []) _
    refine XS.iloadN X0.here hx rfl (hb hby d6_0) rfl ?_
    refine XS.aloadN X0.here hx rfl (hb hby d6_1) rfl rfl ?_
    show Sp p e below s₁ (mkF m 2 #[.val (.ref a1), .val (.int (2 : Int32))] [(.ref a1), (.int (2 : Int32))]) _
    refine X0.arraylength hx (by rw [e0]; exact Ar1.1) (State.isArrayOf_alike hZ.alike Ar1.2.1) (g := (mkF m 2 #[.val (.ref a1), .val (.int (2 : Int32))] [(.ref a1), (.int (2 : Int32))])) rfl rfl (hb hby d6_2) _ ?_
    rw [len_of S1 Nn1]
    show Sp p e below s₁ (mkF m 3 #[.val (.ref a1), .val (.int (2 : Int32))] [(.int (2 : Int32)), (.int (2 : Int32))]) _
    refine XS.isub X0.here hx rfl (hb hby d6_3) rfl ?_
    refine XS.bipush X0.here hx rfl (hb hby d6_4) ?_
    show Sp p e below s₁ (mkF m 6 #[.val (.ref a1), .val (.int (2 : Int32))] [(.int (31 : Int32)), (.int ((2 : Int32) - (2 : Int32)))]) _
    refine XS.iushr X0.here hx rfl (hb hby d6_6) rfl ?_
    show Sp p e below s₁ (mkF m 7 #[.val (.ref a1), .val (.int (2 : Int32))] [(.int ((((2 : Int32) - (2 : Int32)).toUInt32 >>> ((31 : Int32) &&& 31).toUInt32).toInt32))]) _
    refine XS.i2b X0.here hx rfl (hb hby d6_7) rfl ?_
    show Sp p e below s₁ (mkF m 8 #[.val (.ref a1), .val (.int (2 : Int32))] [(.int (((((2 : Int32) - (2 : Int32)).toUInt32 >>> ((31 : Int32) &&& 31).toUInt32).toInt32).toInt8.toInt32))]) _
    exact retN X0 hx (t := .byte) Bd.returns (by simp) (hb hby d6_8) hr
  · show Q3 Z w_PENDING w_IGNORE cs_v a1 k_a1 p3 p4 h0 n0 _ s₁.heap _
    rw [e0]
    exact ⟨rfl, N0, rfl⟩
theorem pd_2 : parseMethodDescriptor "([BI)B" = some ⟨[(.array .byte), .int], some .byte⟩ := by decide +kernel
theorem d2_48 : decode jdk_42_method_149_code 48 = .ok (.putfield 15, 3) := by decide +kernel
theorem d2_51 : decode jdk_42_method_149_code 51 = .ok (.aload_n 0, 1) := by decide +kernel
theorem d2_52 : decode jdk_42_method_149_code 52 = .ok (.aload 5, 2) := by decide +kernel
theorem d2_54 : decode jdk_42_method_149_code 54 = .ok (.putfield 9, 3) := by decide +kernel
theorem sn0 {Z : State} {a0 : Array Value} (hw : ∀ d ∈ tables_1, d.before a0 Z = true) : Jvm.RoadKit.slotOf Z "java/lang/String" "value" "[B" ≠ Jvm.RoadKit.slotOf Z "java/lang/String" "coder" "B" := slot_ne (Or.inr (hw _ (List.mem_of_getElem? (i := 29) rfl))) (Or.inr (hw _ (List.mem_of_getElem? (i := 27) rfl))) (by decide) (t := (.array .byte)) (t' := .byte) (by decide) (by decide)
theorem d2_57 : decode jdk_42_method_149_code 57 = .ok (.return_, 1) := by decide +kernel
theorem sn1 {Z : State} {a0 : Array Value} (hw : ∀ d ∈ tables_1, d.before a0 Z = true) : Jvm.RoadKit.slotOf Z "java/lang/String" "coder" "B" ≠ Jvm.RoadKit.slotOf Z "java/lang/String" "value" "[B" := slot_ne (Or.inr (hw _ (List.mem_of_getElem? (i := 27) rfl))) (Or.inr (hw _ (List.mem_of_getElem? (i := 29) rfl))) (by decide) (t := .byte) (t' := (.array .byte)) (by decide) (by decide)
abbrev y3 : MethodName := (⟨"java/lang/String", "<init>", "([CIILjava/lang/Void;)V"⟩ : MethodName)
theorem ef_2_0 (m : MethodId) (x0 : Addr) (x1 : Addr) (x2 : Int32) (x3 : Int32) : entryFrame m #[(.ref x0), (.ref x1), (.int x2), (.int x3), .null] 6 = mkF m 0 #[.val (.ref x0), .val (.ref x1), .val (.int x2), .val (.int x3), .val .null, .unset] [] := by first | (simp [entryFrame, mkF, argsToLocals, Value.category]; done) | rfl
theorem pn_2 : plainName "java/lang/String" = true := by first | (simp [plainName, overriddenIn]; done) | decide +kernel
def Q4 (Z : State) (w_PENDING : Addr) (w_IGNORE : Addr) (cs_v : Int32) (a1 : Addr) (a2 : Addr) (k_a2 : ClassId) (p4 : Int32) (p5 : Int32) (h0 : Heap) (n0 : Nat) (v : Option Value) (h : Heap) (L : List Loc) : Prop := ∃ (b3_0 : Addr), ∃ (kc3_0 : ClassId), v = none ∧ Fr n0 L ∧ Keep h0 h [a1] ∧ h0.size ≤ b3_0 ∧ Exa Z h a1 "java/lang/String" ∧ Fld Z h a1 "java/lang/String" "coder" "B" (.int (0 : Int32)) ∧ Fld Z h a1 "java/lang/String" "value" "[B" (.ref b3_0) ∧ Exa Z h b3_0 "[B" ∧ Arv Z h b3_0 kc3_0 .byte (2 : Int32) [(.int (nar .byte (p4.toInt8.toInt32))), (.int (nar .byte (p5.toInt8.toInt32)))] (.int (0 : Int32))
set_option maxRecDepth 65536 in
set_option maxHeartbeats 40000000 in
theorem rm4 (l : Launch) (Z : State) (a0 : Array Value) (hw : ∀ d ∈ tables_1, d.before a0 Z = true) (ws : List Jvm.Cond) (w_PENDING w_IGNORE : Addr) (cs_v : Int32) (hp : Perm Z w_PENDING w_IGNORE cs_v) (a1 : Addr) (a2 : Addr) (k_a2 : ClassId) (p4 : Int32) (p5 : Int32) (h0 : Heap) (n0 : Nat) (O0 : Old Z n0 h0) (V_a2 : Arv Z h0 a2 k_a2 .char (2 : Int32) [(.int p4), (.int p5)] (.int (0 : Int32))) (hc2 : ¬ ((255 : Int32) < p4)) (hc3 : ¬ ((255 : Int32) < p5)) (E_a2 : Exa Z h0 a2 "[C") (E_a1 : Exa Z h0 a1 "java/lang/String") (F_coder_a1 : Fld Z h0 a1 "java/lang/String" "coder" "B" (.int (0 : Int32))) (F_value_a1 : Fld Z h0 a1 "java/lang/String" "value" "[B" .null) (g_a1 : n0 ≤ a1) :
    MetFree l y3 (head1 (Jvm.Cond.code y3 jdk_42_method_149_code 6 none :: ws) ({ frames := 2, cells := 1, slots := 2, locals := 35 } : Room)) (fun a U => a = #[(.ref a1), (.ref a2), (.int (0 : Int32)), (.int (2 : Int32)), .null] ∧ Z.Warmed39 U.vm ∧ U.heap = h0) (fun _ _ _ _ _ => True) (fun _ U o U' => ∃ v L, o = .returned v ∧ Q4 Z w_PENDING w_IGNORE cs_v a1 a2 k_a2 p4 p5 h0 n0 v U'.heap L ∧ FrameEnd U o U' L ({ frames := 2, cells := 1, slots := 2, locals := 35 } : Room).cells ({ frames := 2, cells := 1, slots := 2, locals := 35 } : Room).slots) := by
  refine MetFree.of_bodySF (plainFor_of_name pn_2) hisR ?_
  intro p e s m args below meth c s₁ Bd hml0 hP hK
  obtain ⟨rfl, hZ, hh⟩ := hP
  have hx := Bd.exec
  have hby := Bd.bytes
  have hml : c.maxLocals = 6 := hml0
  have hown : s.vm.findClass "java/lang/String" = some m.cls := findClass_of_methodNamed Bd.named
  have hnm := (name_of_methodNamed Bd.named Bd.method).1
  have X0 : Stand p l e ({ frames := 2, cells := 1, slots := 2, locals := 35 } : Room) s m #[(.ref a1), (.ref a2), (.int (0 : Int32)), (.int (2 : Int32)), .null] below meth c s₁ [] 0 0 := Stand.of_body Bd
  have e0 : s₁.heap = h0 := by rw [← hh, Bd.state]; rfl
  have N0 := Fr.nil n0
  have hp' := hp
  obtain ⟨S_w_PENDING, E_w_PENDING, S_w_IGNORE, E_w_IGNORE, S_COMPACT_STRINGS, h_cs⟩ := hp'
  have pre0 : ∀ t, Steps p.tables e below (s₁.setTop (mkF m 0 #[.val (.ref a1), .val (.ref a2), .val (.int (0 : Int32)), .val (.int (2 : Int32)), .val .null, .unset] [])) t → Steps p.tables e below (s₁.setTop (entryFrame m #[(.ref a1), (.ref a2), (.int (0 : Int32)), (.int (2 : Int32)), .null] 6)) t := fun t k => castTop (ef_2_0 m a1 a2 (0 : Int32) (2 : Int32)) k
  obtain ⟨T1, X1, e1, st1⟩ := initO X0 hx hZ hown (hw _ (List.mem_of_getElem? (i := 11) rfl)) (hw _ (List.mem_of_getElem? (i := 12) rfl)) (hw _ (List.mem_of_getElem? (i := 13) rfl)) e0 (g := (mkF m 1 #[.val (.ref a1), .val (.ref a2), .val (.int (0 : Int32)), .val (.int (2 : Int32)), .val .null, .unset] [(.ref a1)])) rfl (by rw [hml]; rfl) rfl (hb hby d2_1) (by decide) (W := 0) (by show 2 * 0 + _ ≤ _; exact Nat.le_of_eq rfl) (by decide)
  obtain ⟨T2, X2, e2, st2⟩ := getS2 X1 hx hZ hown (host := "") (Or.inl (hw _ (List.mem_of_getElem? (i := 14) rfl))) Via.refl e1 (S_COMPACT_STRINGS.ext O0.2) (g := (mkF m 27 #[.val (.ref a1), .val (.ref a2), .val (.int (0 : Int32)), .val (.int (2 : Int32)), .val .null, .unset] [])) rfl (hb hby d2_27)
  obtain ⟨_, _, ⟨T3, L3, k3, n3⟩, -, X3, ⟨Lc3, hQ3, l3, y3, z3⟩, st3⟩ := Jvm.LawKit.callS X2 hx (y := y1) hown (mvT hZ (hw _ (List.mem_of_getElem? (i := 15) rfl))) (mvT hZ (hw _ (List.mem_of_getElem? (i := 16) rfl))) (mvT hZ (hw _ (List.mem_of_getElem? (i := 17) rfl))) (mvT hZ (hw _ (List.mem_of_getElem? (i := 18) rfl))) (by decide) (backOf (W := 0) (rm2 l Z a0 hw [] w_PENDING w_IGNORE cs_v hp a2 k_a2 p4 p5 h0 n0 O0 V_a2 hc2 hc3 E_a2) hZ (hw _ (List.mem_of_getElem? (i := 18) rfl)) (hw _ (List.mem_of_getElem? (i := 17) rfl)) (by decide) (by decide)) (g := (mkF m 36 #[.val (.ref a1), .val (.ref a2), .val (.int (0 : Int32)), .val (.int (2 : Int32)), .val .null, .unset] [(.int (2 : Int32)), (.int (0 : Int32)), (.ref a2)])) rfl (by rw [hml]; rfl) (argsL := [(.ref a2), (.int (0 : Int32)), (.int (2 : Int32))]) (rest := []) (lenOf pd_1 rfl) rfl (by show 2 * 0 + _ ≤ _; exact Nat.le_of_eq rfl) (hb hby d2_36) (fun _ _ => ⟨rfl, e2, (by decide : 0 + 1 ≤ _), (by decide : 0 + 2 ≤ _)⟩)
  dsimp only [Pt.U, Pt.locs, Pt.cells, Pt.slots] at X3 l3 y3 z3 st3 hQ3
  subst l3 y3 z3
  obtain ⟨b3_0, kc3_0, rfl, Nq3, Kq3, sq_b3_0, fq3_0, fq3_1⟩ := hQ3
  have N3 := Fr.app N0 Nq3
  have g_b3_0 : n0 ≤ b3_0 := Nat.le_trans (own_sz O0) sq_b3_0
  have sz_b3_0 : h0.size ≤ b3_0 := Nat.le_trans (Keep.refl h0 [a1]).1 sq_b3_0
  have O3 := O0.keep Kq3 all0
  have K3 : Keep h0 T3.heap [a1] := (Keep.refl h0 [a1]).trans Kq3 all0
  obtain ⟨_, _, ⟨T4, L4, k4, n4⟩, -, X4, ⟨Lc4, hQ4, l4, y4, z4⟩, st4⟩ := Jvm.LawKit.callS X3 hx (y := y2) hown (mvT hZ (hw _ (List.mem_of_getElem? (i := 23) rfl))) (mvT hZ (hw _ (List.mem_of_getElem? (i := 24) rfl))) (mvT hZ (hw _ (List.mem_of_getElem? (i := 17) rfl))) (mvT hZ (hw _ (List.mem_of_getElem? (i := 25) rfl))) (by decide) (backOf (W := 1) (rm3 l Z a0 hw [] w_PENDING w_IGNORE cs_v hp b3_0 kc3_0 (nar .byte (p4.toInt8.toInt32)) (nar .byte (p5.toInt8.toInt32)) T3.heap n0 O3 fq3_1) hZ (hw _ (List.mem_of_getElem? (i := 25) rfl)) (hw _ (List.mem_of_getElem? (i := 17) rfl)) (by decide) (by decide)) (g := (mkF m 45 #[.val (.ref a1), .val (.ref a2), .val (.int (0 : Int32)), .val (.int (2 : Int32)), .val .null, .val (.ref b3_0)] [(.int (2 : Int32)), (.ref b3_0), (.ref a1)])) rfl (by rw [hml]; rfl) (argsL := [(.ref b3_0), (.int (2 : Int32))]) (rest := [(.ref a1)]) (lenOf pd_2 rfl) rfl (by show 2 * 0 + _ ≤ _; exact Nat.le_of_eq rfl) (hb hby d2_45) (fun _ _ => ⟨rfl, rfl, (by decide : 1 + 0 ≤ _), (by decide : 2 + 0 ≤ _)⟩)
  dsimp only [Pt.U, Pt.locs, Pt.cells, Pt.slots] at X4 l4 y4 z4 st4 hQ4
  subst l4 y4 z4
  obtain ⟨rfl, Nq4, eq4⟩ := hQ4
  have N4 := Fr.app N3 Nq4
  obtain ⟨T5, h5, X5, e5, W5, st5⟩ := putFN X4 hx hZ hown (hw _ (List.mem_of_getElem? (i := 26) rfl)) Via.refl eq4 (F_coder_a1.keep Kq3 nin0) (E_a1.keep Kq3) (Or.inr ⟨(hw _ (List.mem_of_getElem? (i := 27) rfl)), rfl, hnm⟩) (hw _ (List.mem_of_getElem? (i := 2) rfl)) (ty := .byte) (v' := (.int (0 : Int32))) (by decide) rfl rfl (g := (mkF m 48 #[.val (.ref a1), .val (.ref a2), .val (.int (0 : Int32)), .val (.int (2 : Int32)), .val .null, .val (.ref b3_0)] [(.int (0 : Int32)), (.ref a1)])) rfl rfl (hb hby d2_48)
  have N5 := Fr.snoc X5 N4 g_a1
  have O5 := O3.wr W5 g_a1
  have K5 : Keep h0 h5 [a1] := K3.wr W5 (Or.inl (List.mem_of_getElem? (i := 0) rfl))
  have Fw5 := (F_coder_a1.keep Kq3 nin0).same W5
  obtain ⟨T6, h6, X6, e6, W6, st6⟩ := putF X5 hx hZ hown (host := "") (Or.inl (hw _ (List.mem_of_getElem? (i := 28) rfl))) Via.refl e5 ((F_value_a1.keep Kq3 nin0).other W5 (Or.inr (sn0 hw))) ((E_a1.keep Kq3).wr W5) (Or.inr ⟨(hw _ (List.mem_of_getElem? (i := 29) rfl)), rfl, hnm⟩) (hw _ (List.mem_of_getElem? (i := 2) rfl)) (ty := (.array .byte)) (by decide) rfl rfl (g := (mkF m 54 #[.val (.ref a1), .val (.ref a2), .val (.int (0 : Int32)), .val (.int (2 : Int32)), .val .null, .val (.ref b3_0)] [(.ref b3_0), (.ref a1)])) rfl rfl (hb hby d2_54)
  have N6 := Fr.snoc X6 N5 g_a1
  have O6 := O5.wr W6 g_a1
  have K6 : Keep h0 h6 [a1] := K5.wr W6 (Or.inl (List.mem_of_getElem? (i := 0) rfl))
  have Fw6 := ((F_value_a1.keep Kq3 nin0).other W5 (Or.inr (sn0 hw))).same W6
  have f_7 := ((fq3_1.other W5 (Ne.symm (Nat.ne_of_lt (Nat.lt_of_lt_of_le E_a1.lt sz_b3_0)))).other W6 (Ne.symm (Nat.ne_of_lt (Nat.lt_of_lt_of_le E_a1.lt sz_b3_0))))
  obtain ⟨fs, hr, hrun, hended, hW, hsame⟩ := X6.leave (v := none) (fun _ => rfl)
  refine ⟨_, _, pre0 _ ?_, hrun, hended, _, _, rfl, ?_, ⟨_, rfl⟩, hW, hsame.mono (by decide) (by decide)⟩
  · show Sp p e below s₁ (mkF m 0 #[.val (.ref a1), .val (.ref a2), .val (.int (0 : Int32)), .val (.int (2 : Int32)), .val .null, .unset] []) _
    refine XS.aloadN X0.here hx rfl (hb hby d2_0) rfl rfl ?_
    show Sp p e below s₁ (mkF m 1 #[.val (.ref a1), .val (.ref a2), .val (.int (0 : Int32)), .val (.int (2 : Int32)), .val .null, .unset] [(.ref a1)]) _
    refine st1 _ ?_
    show Sp p e below T1 (mkF m 4 #[.val (.ref a1), .val (.ref a2), .val (.int (0 : Int32)), .val (.int (2 : Int32)), .val .null, .unset] []) _
    refine XS.iloadN X1.here hx rfl (hb hby d2_4) rfl ?_
    show Sp p e below T1 (mkF m 5 #[.val (.ref a1), .val (.ref a2), .val (.int (0 : Int32)), .val (.int (2 : Int32)), .val .null, .unset] [(.int (2 : Int32))]) _
    refine XS.ifYes X1.here hx rfl (pc0 := 5) (pc' := 27) rfl (hb hby d2_5) rfl ((if0 _ _).trans (feq (by decide : ¬ ((2 : Int32) = (0 : Int32)))).2) (by decide) (by decide) ?_
    show Sp p e below T1 (mkF m 27 #[.val (.ref a1), .val (.ref a2), .val (.int (0 : Int32)), .val (.int (2 : Int32)), .val .null, .unset] []) _
    refine st2 _ ?_
    show Sp p e below T2 (mkF m 30 #[.val (.ref a1), .val (.ref a2), .val (.int (0 : Int32)), .val (.int (2 : Int32)), .val .null, .unset] [(.int cs_v)]) _
    refine XS.ifNo X2.here hx rfl (hb hby d2_30) rfl ((if0 _ _).trans (feq h_cs).1) ?_
    refine XS.aloadN X2.here hx rfl (hb hby d2_33) rfl rfl ?_
    refine XS.iloadN X2.here hx rfl (hb hby d2_34) rfl ?_
    refine XS.iloadN X2.here hx rfl (hb hby d2_35) rfl ?_
    show Sp p e below T2 (mkF m 36 #[.val (.ref a1), .val (.ref a2), .val (.int (0 : Int32)), .val (.int (2 : Int32)), .val .null, .unset] [(.int (2 : Int32)), (.int (0 : Int32)), (.ref a2)]) _
    refine st3 _ ?_
    show Sp p e below T3 (mkF m 39 #[.val (.ref a1), .val (.ref a2), .val (.int (0 : Int32)), .val (.int (2 : Int32)), .val .null, .unset] [(.ref b3_0)]) _
    refine XS.astore X3.here hx rfl (hb hby d2_39) rfl rfl (l' := #[.val (.ref a1), .val (.ref a2), .val (.int (0 : Int32)), .val (.int (2 : Int32)), .val .null, .val (.ref b3_0)]) rfl ?_
    refine XS.aloadN X3.here hx rfl (hb hby d2_41) rfl rfl ?_
    refine XS.aload X3.here hx rfl (hb hby d2_42) rfl rfl ?_
    refine XS.iloadN X3.here hx rfl (hb hby d2_44) rfl ?_
    show Sp p e below T3 (mkF m 45 #[.val (.ref a1), .val (.ref a2), .val (.int (0 : Int32)), .val (.int (2 : Int32)), .val .null, .val (.ref b3_0)] [(.int (2 : Int32)), (.ref b3_0), (.ref a1)]) _
    refine st4 _ ?_
    show Sp p e below T4 (mkF m 48 #[.val (.ref a1), .val (.ref a2), .val (.int (0 : Int32)), .val (.int (2 : Int32)), .val .null, .val (.ref b3_0)] [(.int (0 : Int32)), (.ref a1)]) _
    refine st5 _ ?_
    show Sp p e below T5 (mkF m 51 #[.val (.ref a1), .val (.ref a2), .val (.int (0 : Int32)), .val (.int (2 : Int32)), .val .null, .val (.ref b3_0)] []) _
    refine XS.aloadN X5.here hx rfl (hb hby d2_51) rfl rfl ?_
    refine XS.aload X5.here hx rfl (hb hby d2_52) rfl rfl ?_
    show Sp p e below T5 (mkF m 54 #[.val (.ref a1), .val (.ref a2), .val (.int (0 : Int32)), .val (.int (2 : Int32)), .val .null, .val (.ref b3_0)] [(.ref b3_0), (.ref a1)]) _
    refine st6 _ ?_
    show Sp p e below T6 (mkF m 57 #[.val (.ref a1), .val (.ref a2), .val (.int (0 : Int32)), .val (.int (2 : Int32)), .val .null, .val (.ref b3_0)] []) _
    exact X6.returnOut hx Bd.returns (hb hby d2_57) hr
  · show Q4 Z w_PENDING w_IGNORE cs_v a1 a2 k_a2 p4 p5 h0 n0 _ T6.heap _
    rw [e6]
    exact ⟨b3_0, kc3_0, rfl, N6, K6, sz_b3_0, (((E_a1.keep Kq3).wr W5).wr W6), (Fw5.other W6 (Or.inr (sn1 hw))), Fw6, ((fq3_0.wr W5).wr W6), f_7⟩
theorem pd_3 : parseMethodDescriptor "([CIILjava/lang/Void;)V" = some ⟨[(.array .char), .int, .int, (.object "java/lang/Void")], none⟩ := by decide +kernel
theorem d1_9 : decode jdk_42_method_3_code 9 = .ok (.return_, 1) := by decide +kernel
abbrev y4 : MethodName := (⟨"java/lang/String", "<init>", "([C)V"⟩ : MethodName)
theorem ef_1_0 (m : MethodId) (x0 : Addr) (x1 : Addr) : entryFrame m #[(.ref x0), (.ref x1)] 2 = mkF m 0 #[.val (.ref x0), .val (.ref x1)] [] := by first | (simp [entryFrame, mkF, argsToLocals, Value.category]; done) | rfl
def Q5 (Z : State) (w_PENDING : Addr) (w_IGNORE : Addr) (cs_v : Int32) (a1 : Addr) (a2 : Addr) (k_a2 : ClassId) (p4 : Int32) (p5 : Int32) (h0 : Heap) (n0 : Nat) (v : Option Value) (h : Heap) (L : List Loc) : Prop := ∃ (b2_0 : Addr), ∃ (kc2_0 : ClassId), v = none ∧ Fr n0 L ∧ Keep h0 h [a1] ∧ h0.size ≤ b2_0 ∧ Exa Z h a1 "java/lang/String" ∧ Fld Z h a1 "java/lang/String" "coder" "B" (.int (0 : Int32)) ∧ Fld Z h a1 "java/lang/String" "value" "[B" (.ref b2_0) ∧ Exa Z h b2_0 "[B" ∧ Arv Z h b2_0 kc2_0 .byte (2 : Int32) [(.int (nar .byte (p4.toInt8.toInt32))), (.int (nar .byte (p5.toInt8.toInt32)))] (.int (0 : Int32))
set_option maxRecDepth 65536 in
set_option maxHeartbeats 40000000 in
theorem rm5 (l : Launch) (Z : State) (a0 : Array Value) (hw : ∀ d ∈ tables_1, d.before a0 Z = true) (ws : List Jvm.Cond) (w_PENDING w_IGNORE : Addr) (cs_v : Int32) (hp : Perm Z w_PENDING w_IGNORE cs_v) (a1 : Addr) (a2 : Addr) (k_a2 : ClassId) (p4 : Int32) (p5 : Int32) (h0 : Heap) (n0 : Nat) (O0 : Old Z n0 h0) (V_a2 : Arv Z h0 a2 k_a2 .char (2 : Int32) [(.int p4), (.int p5)] (.int (0 : Int32))) (hc2 : ¬ ((255 : Int32) < p4)) (hc3 : ¬ ((255 : Int32) < p5)) (E_a2 : Exa Z h0 a2 "[C") (E_a1 : Exa Z h0 a1 "java/lang/String") (F_coder_a1 : Fld Z h0 a1 "java/lang/String" "coder" "B" (.int (0 : Int32))) (F_value_a1 : Fld Z h0 a1 "java/lang/String" "value" "[B" .null) (g_a1 : n0 ≤ a1) :
    MetFree l y4 (head1 (Jvm.Cond.code y4 jdk_42_method_3_code 2 none :: ws) ({ frames := 3, cells := 1, slots := 2, locals := 52 } : Room)) (fun a U => a = #[(.ref a1), (.ref a2)] ∧ Z.Warmed39 U.vm ∧ U.heap = h0) (fun _ _ _ _ _ => True) (fun _ U o U' => ∃ v L, o = .returned v ∧ Q5 Z w_PENDING w_IGNORE cs_v a1 a2 k_a2 p4 p5 h0 n0 v U'.heap L ∧ FrameEnd U o U' L ({ frames := 3, cells := 1, slots := 2, locals := 52 } : Room).cells ({ frames := 3, cells := 1, slots := 2, locals := 52 } : Room).slots) := by
  refine MetFree.of_bodySF (plainFor_of_name pn_2) hisR ?_
  intro p e s m args below meth c s₁ Bd hml0 hP hK
  obtain ⟨rfl, hZ, hh⟩ := hP
  have hx := Bd.exec
  have hby := Bd.bytes
  have hml : c.maxLocals = 2 := hml0
  have hown : s.vm.findClass "java/lang/String" = some m.cls := findClass_of_methodNamed Bd.named
  have hnm := (name_of_methodNamed Bd.named Bd.method).1
  have X0 : Stand p l e ({ frames := 3, cells := 1, slots := 2, locals := 52 } : Room) s m #[(.ref a1), (.ref a2)] below meth c s₁ [] 0 0 := Stand.of_body Bd
  have e0 : s₁.heap = h0 := by rw [← hh, Bd.state]; rfl
  have N0 := Fr.nil n0
  have hp' := hp
  obtain ⟨S_w_PENDING, E_w_PENDING, S_w_IGNORE, E_w_IGNORE, S_COMPACT_STRINGS, h_cs⟩ := hp'
  have pre0 : ∀ t, Steps p.tables e below (s₁.setTop (mkF m 0 #[.val (.ref a1), .val (.ref a2)] [])) t → Steps p.tables e below (s₁.setTop (entryFrame m #[(.ref a1), (.ref a2)] 2)) t := fun t k => castTop (ef_1_0 m a1 a2) k
  obtain ⟨cl1, Ar1, -, S1, Nn1, -, -⟩ := id V_a2
  obtain ⟨_, _, ⟨T2, L2, k2, n2⟩, -, X2, ⟨Lc2, hQ2, l2, y2, z2⟩, st2⟩ := X0.specialBack hx (y := y3) rfl hown (mvT hZ (hw _ (List.mem_of_getElem? (i := 7) rfl))) (mvT hZ (hw _ (List.mem_of_getElem? (i := 8) rfl))) (mvT hZ (hw _ (List.mem_of_getElem? (i := 10) rfl))) (by decide) (backOf (W := 0) (rm4 l Z a0 hw [] w_PENDING w_IGNORE cs_v hp a1 a2 k_a2 p4 p5 h0 n0 O0 V_a2 hc2 hc3 E_a2 E_a1 F_coder_a1 F_value_a1 g_a1) hZ (hw _ (List.mem_of_getElem? (i := 10) rfl)) (hw _ (List.mem_of_getElem? (i := 3) rfl)) (by decide) (by decide)) (g := (mkF m 6 #[.val (.ref a1), .val (.ref a2)] [.null, (.int (2 : Int32)), (.int (0 : Int32)), (.ref a2), (.ref a1)])) rfl (by rw [hml]; rfl) (Steps.refl _) (a := a1) (argsL := [(.ref a2), (.int (0 : Int32)), (.int (2 : Int32)), .null]) (rest := []) (lenOf pd_3 rfl) rfl (by show 2 * 0 + _ ≤ _; exact Nat.le_of_eq rfl) (hb hby d1_6) (fun _ _ => ⟨rfl, e0, (by decide : 0 + 1 ≤ _), (by decide : 0 + 2 ≤ _)⟩)
  dsimp only [Pt.U, Pt.locs, Pt.cells, Pt.slots] at X2 l2 y2 z2 st2 hQ2
  subst l2 y2 z2
  obtain ⟨b2_0, kc2_0, rfl, Nq2, Kq2, sq_b2_0, fq2_0, fq2_1, fq2_2, fq2_3, fq2_4⟩ := hQ2
  have N2 := Fr.app N0 Nq2
  have g_b2_0 : n0 ≤ b2_0 := Nat.le_trans (own_sz O0) sq_b2_0
  have sz_b2_0 : h0.size ≤ b2_0 := Nat.le_trans (Keep.refl h0 [a1]).1 sq_b2_0
  have O2 := O0.keep Kq2 (allS g_a1 all0)
  have K2 : Keep h0 T2.heap [a1] := (Keep.refl h0 [a1]).trans Kq2 (allS (Or.inl (List.mem_of_getElem? (i := 0) rfl)) all0)
  obtain ⟨fs, hr, hrun, hended, hW, hsame⟩ := X2.leave (v := none) (fun _ => rfl)
  refine ⟨_, _, pre0 _ ?_, hrun, hended, _, _, rfl, ?_, ⟨_, rfl⟩, hW, hsame.mono (by decide) (by decide)⟩
  · show Sp p e below s₁ (mkF m 0 #[.val (.ref a1), .val (.ref a2)] []) _
    refine XS.aloadN X0.here hx rfl (hb hby d1_0) rfl rfl ?_
    refine XS.aloadN X0.here hx rfl (hb hby d1_1) rfl rfl ?_
    refine XS.iconst X0.here hx rfl (hb hby d1_2) ?_
    refine XS.aloadN X0.here hx rfl (hb hby d1_3) rfl rfl ?_
    show Sp p e below s₁ (mkF m 4 #[.val (.ref a1), .val (.ref a2)] [(.ref a2), (.int (0 : Int32)), (.ref a2), (.ref a1)]) _
    refine X0.arraylength hx (by rw [e0]; exact Ar1.1) (State.isArrayOf_alike hZ.alike Ar1.2.1) (g := (mkF m 4 #[.val (.ref a1), .val (.ref a2)] [(.ref a2), (.int (0 : Int32)), (.ref a2), (.ref a1)])) rfl rfl (hb hby d1_4) _ ?_
    rw [len_of S1 Nn1]
    show Sp p e below s₁ (mkF m 5 #[.val (.ref a1), .val (.ref a2)] [(.int (2 : Int32)), (.int (0 : Int32)), (.ref a2), (.ref a1)]) _
    refine XS.aconstNull X0.here hx rfl (hb hby d1_5) ?_
    show Sp p e below s₁ (mkF m 6 #[.val (.ref a1), .val (.ref a2)] [.null, (.int (2 : Int32)), (.int (0 : Int32)), (.ref a2), (.ref a1)]) _
    refine st2.trans ?_
    show Sp p e below T2 (mkF m 9 #[.val (.ref a1), .val (.ref a2)] []) _
    exact X2.returnOut hx Bd.returns (hb hby d1_9) hr
  · show Q5 Z w_PENDING w_IGNORE cs_v a1 a2 k_a2 p4 p5 h0 n0 _ T2.heap _
    exact ⟨b2_0, kc2_0, rfl, N2, K2, sz_b2_0, fq2_0, fq2_1, fq2_2, fq2_3, fq2_4⟩
theorem pd_4 : parseMethodDescriptor "([C)V" = some ⟨[(.array .char)], none⟩ := by decide +kernel
theorem d7_0 : decode jdk_42_method_139_code 0 = .ok (.getstatic 38, 3) := by decide +kernel
theorem d7_3 : decode jdk_42_method_139_code 3 = .ok (.ifCond .eq 23, 3) := by decide +kernel
theorem d7_6 : decode jdk_42_method_139_code 6 = .ok (.iload_n 0, 1) := by decide +kernel
theorem d7_7 : decode jdk_42_method_139_code 7 = .ok (.invokestatic 1015, 3) := by decide +kernel
theorem d8_0 : decode jdk_43_method_3_code 0 = .ok (.iload_n 0, 1) := by decide +kernel
theorem d8_1 : decode jdk_43_method_3_code 1 = .ok (.sipush 255, 3) := by decide +kernel
theorem d8_4 : decode jdk_43_method_3_code 4 = .ok (.if_icmp .gt 7, 3) := by decide +kernel
theorem d8_7 : decode jdk_43_method_3_code 7 = .ok (.iconst 1, 1) := by decide +kernel
theorem d8_8 : decode jdk_43_method_3_code 8 = .ok (.goto 4, 3) := by decide +kernel
theorem d8_12 : decode jdk_43_method_3_code 12 = .ok (.ireturn, 1) := by decide +kernel
abbrev y5 : MethodName := (⟨"java/lang/StringLatin1", "canEncode", "(C)Z"⟩ : MethodName)
theorem ef_8_0 (m : MethodId) (x0 : Int32) : entryFrame m #[(.int x0)] 1 = mkF m 0 #[.val (.int x0)] [] := by first | (simp [entryFrame, mkF, argsToLocals, Value.category]; done) | rfl
theorem pn_8 : plainName "java/lang/StringLatin1" = true := by first | (simp [plainName, overriddenIn]; done) | decide +kernel
def Q6 (Z : State) (w_PENDING : Addr) (w_IGNORE : Addr) (cs_v : Int32) (p1 : Int32) (h0 : Heap) (n0 : Nat) (v : Option Value) (h : Heap) (L : List Loc) : Prop := v = some (.int (1 : Int32)) ∧ Fr n0 L ∧ h = h0
set_option maxRecDepth 65536 in
set_option maxHeartbeats 40000000 in
theorem rm6 (l : Launch) (Z : State) (a0 : Array Value) (hw : ∀ d ∈ tables_1, d.before a0 Z = true) (ws : List Jvm.Cond) (w_PENDING w_IGNORE : Addr) (cs_v : Int32) (hp : Perm Z w_PENDING w_IGNORE cs_v) (p1 : Int32) (h0 : Heap) (n0 : Nat) (O0 : Old Z n0 h0) (hc1 : ¬ ((255 : Int32) < p1)) :
    MetFree l y5 (head1 (Jvm.Cond.code y5 jdk_43_method_3_code 1 (some .boolean) :: ws) ({ frames := 0, cells := 0, slots := 0, locals := 0 } : Room)) (fun a U => a = #[(.int p1)] ∧ Z.Warmed39 U.vm ∧ U.heap = h0) (fun _ _ _ _ _ => True) (fun _ U o U' => ∃ v L, o = .returned v ∧ Q6 Z w_PENDING w_IGNORE cs_v p1 h0 n0 v U'.heap L ∧ FrameEnd U o U' L ({ frames := 0, cells := 0, slots := 0, locals := 0 } : Room).cells ({ frames := 0, cells := 0, slots := 0, locals := 0 } : Room).slots) := by
  refine MetFree.of_bodySF (plainFor_of_name pn_8) hisR ?_
  intro p e s m args below meth c s₁ Bd hml0 hP hK
  obtain ⟨rfl, hZ, hh⟩ := hP
  have hx := Bd.exec
  have hby := Bd.bytes
  have hml : c.maxLocals = 1 := hml0
  have hown : s.vm.findClass "java/lang/StringLatin1" = some m.cls := findClass_of_methodNamed Bd.named
  have hnm := (name_of_methodNamed Bd.named Bd.method).1
  have X0 : Stand p l e ({ frames := 0, cells := 0, slots := 0, locals := 0 } : Room) s m #[(.int p1)] below meth c s₁ [] 0 0 := Stand.of_body Bd
  have e0 : s₁.heap = h0 := by rw [← hh, Bd.state]; rfl
  have N0 := Fr.nil n0
  have hp' := hp
  obtain ⟨S_w_PENDING, E_w_PENDING, S_w_IGNORE, E_w_IGNORE, S_COMPACT_STRINGS, h_cs⟩ := hp'
  have pre0 : ∀ t, Steps p.tables e below (s₁.setTop (mkF m 0 #[.val (.int p1)] [])) t → Steps p.tables e below (s₁.setTop (entryFrame m #[(.int p1)] 1)) t := fun t k => castTop (ef_8_0 m p1) k
  obtain ⟨fs, hr, hrun, hended, hW, hsame⟩ := X0.leave (v := some (.int (1 : Int32))) (fun h => by rw [Bd.returns] at h; cases h)
  refine ⟨_, _, pre0 _ ?_, hrun, hended, _, _, rfl, ?_, ⟨_, rfl⟩, hW, hsame.mono (by decide) (by decide)⟩
  · show Sp p e below s₁ (mkF m 0 #[.val (.int p1)] []) _
    refine XS.iloadN X0.here hx rfl (hb hby d8_0) rfl ?_
    refine XS.sipush X0.here hx rfl (hb hby d8_1) ?_
    show Sp p e below s₁ (mkF m 4 #[.val (.int p1)] [(.int (255 : Int32)), (.int p1)]) _
    refine XS.icmpNo X0.here hx rfl (hb hby d8_4) rfl (flt hc1).2.2.1 ?_
    refine XS.iconst X0.here hx rfl (hb hby d8_7) ?_
    show Sp p e below s₁ (mkF m 8 #[.val (.int p1)] [(.int (1 : Int32))]) _
    refine XS.goto X0.here hx rfl (pc0 := 8) (pc' := 12) rfl (hb hby d8_8) (by decide) (by decide) ?_
    show Sp p e below s₁ (mkF m 12 #[.val (.int p1)] [(.int (1 : Int32))]) _
    exact retN X0 hx (t := .boolean) Bd.returns (by simp) (hb hby d8_12) hr
  · show Q6 Z w_PENDING w_IGNORE cs_v p1 h0 n0 _ s₁.heap _
    rw [e0]
    exact ⟨rfl, N0, rfl⟩
theorem pd_5 : parseMethodDescriptor "(C)Z" = some ⟨[.char], some .boolean⟩ := by decide +kernel
theorem d7_10 : decode jdk_42_method_139_code 10 = .ok (.ifCond .eq 16, 3) := by decide +kernel
theorem d7_13 : decode jdk_42_method_139_code 13 = .ok (.new 10, 3) := by decide +kernel
theorem d7_16 : decode jdk_42_method_139_code 16 = .ok (.dup, 1) := by decide +kernel
theorem d7_17 : decode jdk_42_method_139_code 17 = .ok (.iload_n 0, 1) := by decide +kernel
theorem d7_18 : decode jdk_42_method_139_code 18 = .ok (.invokestatic 1018, 3) := by decide +kernel
theorem d9_0 : decode jdk_43_method_46_code 0 = .ok (.iconst 1, 1) := by decide +kernel
theorem d9_1 : decode jdk_43_method_46_code 1 = .ok (.newarray .byte, 2) := by decide +kernel
theorem d9_3 : decode jdk_43_method_46_code 3 = .ok (.dup, 1) := by decide +kernel
theorem d9_4 : decode jdk_43_method_46_code 4 = .ok (.iconst 0, 1) := by decide +kernel
theorem d9_5 : decode jdk_43_method_46_code 5 = .ok (.iload_n 0, 1) := by decide +kernel
theorem d9_6 : decode jdk_43_method_46_code 6 = .ok (.i2b, 1) := by decide +kernel
theorem d9_7 : decode jdk_43_method_46_code 7 = .ok (.bastore, 1) := by decide +kernel
theorem d9_8 : decode jdk_43_method_46_code 8 = .ok (.areturn, 1) := by decide +kernel
abbrev y6 : MethodName := (⟨"java/lang/StringLatin1", "toBytes", "(C)[B"⟩ : MethodName)
theorem ef_9_0 (m : MethodId) (x0 : Int32) : entryFrame m #[(.int x0)] 1 = mkF m 0 #[.val (.int x0)] [] := by first | (simp [entryFrame, mkF, argsToLocals, Value.category]; done) | rfl
def Q7 (Z : State) (w_PENDING : Addr) (w_IGNORE : Addr) (cs_v : Int32) (p1 : Int32) (h0 : Heap) (n0 : Nat) (v : Option Value) (h : Heap) (L : List Loc) : Prop := ∃ (b1 : Addr), ∃ (k1 : ClassId), v = some (.ref b1) ∧ Fr n0 L ∧ Keep h0 h [] ∧ h0.size ≤ b1 ∧ Exa Z h b1 "[B" ∧ Arv Z h b1 k1 .byte (1 : Int32) [(.int (nar .byte (p1.toInt8.toInt32)))] (.int (0 : Int32))
set_option maxRecDepth 65536 in
set_option maxHeartbeats 40000000 in
theorem rm7 (l : Launch) (Z : State) (a0 : Array Value) (hw : ∀ d ∈ tables_1, d.before a0 Z = true) (ws : List Jvm.Cond) (w_PENDING w_IGNORE : Addr) (cs_v : Int32) (hp : Perm Z w_PENDING w_IGNORE cs_v) (p1 : Int32) (h0 : Heap) (n0 : Nat) (O0 : Old Z n0 h0) :
    MetFree l y6 (head1 (Jvm.Cond.code y6 jdk_43_method_46_code 1 (some (.array .byte)) :: ws) ({ frames := 0, cells := 1, slots := 1, locals := 0 } : Room)) (fun a U => a = #[(.int p1)] ∧ Z.Warmed39 U.vm ∧ U.heap = h0) (fun _ _ _ _ _ => True) (fun _ U o U' => ∃ v L, o = .returned v ∧ Q7 Z w_PENDING w_IGNORE cs_v p1 h0 n0 v U'.heap L ∧ FrameEnd U o U' L ({ frames := 0, cells := 1, slots := 1, locals := 0 } : Room).cells ({ frames := 0, cells := 1, slots := 1, locals := 0 } : Room).slots) := by
  refine MetFree.of_bodySF (plainFor_of_name pn_8) hisR ?_
  intro p e s m args below meth c s₁ Bd hml0 hP hK
  obtain ⟨rfl, hZ, hh⟩ := hP
  have hx := Bd.exec
  have hby := Bd.bytes
  have hml : c.maxLocals = 1 := hml0
  have hown : s.vm.findClass "java/lang/StringLatin1" = some m.cls := findClass_of_methodNamed Bd.named
  have hnm := (name_of_methodNamed Bd.named Bd.method).1
  have X0 : Stand p l e ({ frames := 0, cells := 1, slots := 1, locals := 0 } : Room) s m #[(.int p1)] below meth c s₁ [] 0 0 := Stand.of_body Bd
  have e0 : s₁.heap = h0 := by rw [← hh, Bd.state]; rfl
  have N0 := Fr.nil n0
  have hp' := hp
  obtain ⟨S_w_PENDING, E_w_PENDING, S_w_IGNORE, E_w_IGNORE, S_COMPACT_STRINGS, h_cs⟩ := hp'
  have pre0 : ∀ t, Steps p.tables e below (s₁.setTop (mkF m 0 #[.val (.int p1)] [])) t → Steps p.tables e below (s₁.setTop (entryFrame m #[(.int p1)] 1)) t := fun t k => castTop (ef_9_0 m p1) k
  obtain ⟨T1, h1, k1, X1, e1, E1, A1, EA1, st1⟩ := newPE X0 hx hZ (hw _ (List.mem_of_getElem? (i := 19) rfl)) e0 (g := (mkF m 1 #[.val (.int p1)] [(.int (1 : Int32))])) rfl (hb hby d9_1) rfl (by decide) (cap := 1) (by decide) (by decide) (by decide) (by decide) (ad := "[B") (by decide)
  obtain ⟨b1, g1⟩ : ∃ z, z = h0.size := ⟨_, rfl⟩
  rw [← g1] at A1 EA1 st1
  have g_b1 : n0 ≤ b1 := Nat.le_trans (own_sz O0) (Nat.le_of_eq g1.symm)
  have sz_b1 : h0.size ≤ b1 := Nat.le_trans (Keep.refl h0 []).1 (Nat.le_of_eq g1.symm)
  have O1 := O0.ext E1
  have K1 : Keep h0 h1 [] := (Keep.refl h0 []).ext E1
  have V_b1 : Arv Z h1 b1 k1 .byte (1 : Int32) [(.int (0 : Int32))] (.int (0 : Int32)) := (Arv.new A1 (by decide)).pad (pad_rep [] (.int (0 : Int32)) 1)
  obtain ⟨cl2, Ar2, q2, S2, Nn2, H2, G2⟩ := id V_b1
  have hin2 : ¬ ((0 : Int32) < 0 ∨ cl2.slots.size ≤ ((0 : Int32)).toNatClampNeg) := inb_of S2 ⟨by decide, by decide⟩
  obtain ⟨T3, h3, X3, e3, W3, st3⟩ := stB X1 hx hZ e1 Ar2 (j := (0 : Int32)) hin2 (g := (mkF m 7 #[.val (.int p1)] [(.int (p1.toInt8.toInt32)), (.int (0 : Int32)), (.ref b1), (.ref b1)])) rfl rfl (hb hby d9_7)
  have N3 := Fr.snoc X3 N0 g_b1
  have O3 := O1.wr W3 g_b1
  have K3 : Keep h0 h3 [] := K1.wr W3 (Or.inr sz_b1)
  have V_b1_3 : Arv Z h3 b1 k1 .byte (1 : Int32) [(.int (nar .byte (p1.toInt8.toInt32)))] (.int (0 : Int32)) := Arv.set Ar2 q2 S2 Nn2 H2 G2 (fits_nar_byte _) W3 0 rfl (Nat.le_of_ble_eq_true rfl)
  obtain ⟨fs, hr, hrun, hended, hW, hsame⟩ := X3.leave (v := some (.ref b1)) (fun h => by rw [Bd.returns] at h; cases h)
  refine ⟨_, _, pre0 _ ?_, hrun, hended, _, _, rfl, ?_, ⟨_, rfl⟩, hW, hsame.mono (by decide) (by decide)⟩
  · show Sp p e below s₁ (mkF m 0 #[.val (.int p1)] []) _
    refine XS.iconst X0.here hx rfl (hb hby d9_0) ?_
    show Sp p e below s₁ (mkF m 1 #[.val (.int p1)] [(.int (1 : Int32))]) _
    refine st1 _ ?_
    show Sp p e below T1 (mkF m 3 #[.val (.int p1)] [(.ref b1)]) _
    refine XS.dup X1.here hx rfl (hb hby d9_3) rfl rfl ?_
    refine XS.iconst X1.here hx rfl (hb hby d9_4) ?_
    refine XS.iloadN X1.here hx rfl (hb hby d9_5) rfl ?_
    show Sp p e below T1 (mkF m 6 #[.val (.int p1)] [(.int p1), (.int (0 : Int32)), (.ref b1), (.ref b1)]) _
    refine XS.i2b X1.here hx rfl (hb hby d9_6) rfl ?_
    show Sp p e below T1 (mkF m 7 #[.val (.int p1)] [(.int (p1.toInt8.toInt32)), (.int (0 : Int32)), (.ref b1), (.ref b1)]) _
    refine st3 _ ?_
    show Sp p e below T3 (mkF m 8 #[.val (.int p1)] [(.ref b1)]) _
    jvm_step X3.here [X3.here.top, hx, (hb hby d9_8), X3.method', Bd.returns, Value.isRef, FieldType.isReference]
    first | (intro acts; rw [hr _ acts rfl rfl rfl]) | rw [hr _ _ rfl rfl rfl]
    exact Steps.refl _
  · show Q7 Z w_PENDING w_IGNORE cs_v p1 h0 n0 _ T3.heap _
    rw [e3]
    exact ⟨b1, k1, rfl, N3, K3, sz_b1, (EA1.wr W3), V_b1_3⟩
theorem pd_6 : parseMethodDescriptor "(C)[B" = some ⟨[.char], some (.array .byte)⟩ := by decide +kernel
theorem d7_21 : decode jdk_42_method_139_code 21 = .ok (.iconst 0, 1) := by decide +kernel
theorem d7_22 : decode jdk_42_method_139_code 22 = .ok (.invokespecial 209, 3) := by decide +kernel
theorem d10_0 : decode jdk_42_method_151_code 0 = .ok (.aload_n 0, 1) := by decide +kernel
theorem d10_1 : decode jdk_42_method_151_code 1 = .ok (.invokespecial 1, 3) := by decide +kernel
theorem d10_4 : decode jdk_42_method_151_code 4 = .ok (.aload_n 0, 1) := by decide +kernel
theorem d10_5 : decode jdk_42_method_151_code 5 = .ok (.aload_n 1, 1) := by decide +kernel
theorem d10_6 : decode jdk_42_method_151_code 6 = .ok (.putfield 9, 3) := by decide +kernel
theorem d10_9 : decode jdk_42_method_151_code 9 = .ok (.aload_n 0, 1) := by decide +kernel
theorem d10_10 : decode jdk_42_method_151_code 10 = .ok (.iload_n 2, 1) := by decide +kernel
theorem d10_11 : decode jdk_42_method_151_code 11 = .ok (.putfield 15, 3) := by decide +kernel
theorem d10_14 : decode jdk_42_method_151_code 14 = .ok (.return_, 1) := by decide +kernel
abbrev y7 : MethodName := (⟨"java/lang/String", "<init>", "([BB)V"⟩ : MethodName)
theorem ef_10_0 (m : MethodId) (x0 : Addr) (x1 : Addr) (x2 : Int32) : entryFrame m #[(.ref x0), (.ref x1), (.int x2)] 3 = mkF m 0 #[.val (.ref x0), .val (.ref x1), .val (.int x2)] [] := by first | (simp [entryFrame, mkF, argsToLocals, Value.category]; done) | rfl
def Q8 (Z : State) (w_PENDING : Addr) (w_IGNORE : Addr) (cs_v : Int32) (a1 : Addr) (a2 : Addr) (h0 : Heap) (n0 : Nat) (v : Option Value) (h : Heap) (L : List Loc) : Prop := v = none ∧ Fr n0 L ∧ Keep h0 h [a1] ∧ Exa Z h a1 "java/lang/String" ∧ Fld Z h a1 "java/lang/String" "coder" "B" (.int (0 : Int32)) ∧ Fld Z h a1 "java/lang/String" "value" "[B" (.ref a2)
set_option maxRecDepth 65536 in
set_option maxHeartbeats 40000000 in
theorem rm8 (l : Launch) (Z : State) (a0 : Array Value) (hw : ∀ d ∈ tables_1, d.before a0 Z = true) (ws : List Jvm.Cond) (w_PENDING w_IGNORE : Addr) (cs_v : Int32) (hp : Perm Z w_PENDING w_IGNORE cs_v) (a1 : Addr) (a2 : Addr) (h0 : Heap) (n0 : Nat) (O0 : Old Z n0 h0) (E_a1 : Exa Z h0 a1 "java/lang/String") (F_coder_a1 : Fld Z h0 a1 "java/lang/String" "coder" "B" (.int (0 : Int32))) (F_value_a1 : Fld Z h0 a1 "java/lang/String" "value" "[B" .null) (g_a1 : n0 ≤ a1) :
    MetFree l y7 (head1 (Jvm.Cond.code y7 jdk_42_method_151_code 3 none :: ws) ({ frames := 1, cells := 0, slots := 0, locals := 12 } : Room)) (fun a U => a = #[(.ref a1), (.ref a2), (.int (0 : Int32))] ∧ Z.Warmed39 U.vm ∧ U.heap = h0) (fun _ _ _ _ _ => True) (fun _ U o U' => ∃ v L, o = .returned v ∧ Q8 Z w_PENDING w_IGNORE cs_v a1 a2 h0 n0 v U'.heap L ∧ FrameEnd U o U' L ({ frames := 1, cells := 0, slots := 0, locals := 12 } : Room).cells ({ frames := 1, cells := 0, slots := 0, locals := 12 } : Room).slots) := by
  refine MetFree.of_bodySF (plainFor_of_name pn_2) hisR ?_
  intro p e s m args below meth c s₁ Bd hml0 hP hK
  obtain ⟨rfl, hZ, hh⟩ := hP
  have hx := Bd.exec
  have hby := Bd.bytes
  have hml : c.maxLocals = 3 := hml0
  have hown : s.vm.findClass "java/lang/String" = some m.cls := findClass_of_methodNamed Bd.named
  have hnm := (name_of_methodNamed Bd.named Bd.method).1
  have X0 : Stand p l e ({ frames := 1, cells := 0, slots := 0, locals := 12 } : Room) s m #[(.ref a1), (.ref a2), (.int (0 : Int32))] below meth c s₁ [] 0 0 := Stand.of_body Bd
  have e0 : s₁.heap = h0 := by rw [← hh, Bd.state]; rfl
  have N0 := Fr.nil n0
  have hp' := hp
  obtain ⟨S_w_PENDING, E_w_PENDING, S_w_IGNORE, E_w_IGNORE, S_COMPACT_STRINGS, h_cs⟩ := hp'
  have pre0 : ∀ t, Steps p.tables e below (s₁.setTop (mkF m 0 #[.val (.ref a1), .val (.ref a2), .val (.int (0 : Int32))] [])) t → Steps p.tables e below (s₁.setTop (entryFrame m #[(.ref a1), (.ref a2), (.int (0 : Int32))] 3)) t := fun t k => castTop (ef_10_0 m a1 a2 (0 : Int32)) k
  obtain ⟨T1, X1, e1, st1⟩ := initO X0 hx hZ hown (hw _ (List.mem_of_getElem? (i := 11) rfl)) (hw _ (List.mem_of_getElem? (i := 12) rfl)) (hw _ (List.mem_of_getElem? (i := 13) rfl)) e0 (g := (mkF m 1 #[.val (.ref a1), .val (.ref a2), .val (.int (0 : Int32))] [(.ref a1)])) rfl (by rw [hml]; rfl) rfl (hb hby d10_1) (by decide) (W := 0) (by show 2 * 0 + _ ≤ _; exact Nat.le_of_eq rfl) (by decide)
  obtain ⟨T2, h2, X2, e2, W2, st2⟩ := putF X1 hx hZ hown (host := "") (Or.inl (hw _ (List.mem_of_getElem? (i := 28) rfl))) Via.refl e1 F_value_a1 E_a1 (Or.inr ⟨(hw _ (List.mem_of_getElem? (i := 29) rfl)), rfl, hnm⟩) (hw _ (List.mem_of_getElem? (i := 2) rfl)) (ty := (.array .byte)) (by decide) rfl rfl (g := (mkF m 6 #[.val (.ref a1), .val (.ref a2), .val (.int (0 : Int32))] [(.ref a2), (.ref a1)])) rfl rfl (hb hby d10_6)
  have N2 := Fr.snoc X2 N0 g_a1
  have O2 := O0.wr W2 g_a1
  have K2 : Keep h0 h2 [a1] := (Keep.refl h0 [a1]).wr W2 (Or.inl (List.mem_of_getElem? (i := 0) rfl))
  have Fw2 := F_value_a1.same W2
  obtain ⟨T3, h3, X3, e3, W3, st3⟩ := putFN X2 hx hZ hown (hw _ (List.mem_of_getElem? (i := 26) rfl)) Via.refl e2 (F_coder_a1.other W2 (Or.inr (sn1 hw))) (E_a1.wr W2) (Or.inr ⟨(hw _ (List.mem_of_getElem? (i := 27) rfl)), rfl, hnm⟩) (hw _ (List.mem_of_getElem? (i := 2) rfl)) (ty := .byte) (v' := (.int (0 : Int32))) (by decide) rfl rfl (g := (mkF m 11 #[.val (.ref a1), .val (.ref a2), .val (.int (0 : Int32))] [(.int (0 : Int32)), (.ref a1)])) rfl rfl (hb hby d10_11)
  have N3 := Fr.snoc X3 N2 g_a1
  have O3 := O2.wr W3 g_a1
  have K3 : Keep h0 h3 [a1] := K2.wr W3 (Or.inl (List.mem_of_getElem? (i := 0) rfl))
  have Fw3 := (F_coder_a1.other W2 (Or.inr (sn1 hw))).same W3
  obtain ⟨fs, hr, hrun, hended, hW, hsame⟩ := X3.leave (v := none) (fun _ => rfl)
  refine ⟨_, _, pre0 _ ?_, hrun, hended, _, _, rfl, ?_, ⟨_, rfl⟩, hW, hsame.mono (by decide) (by decide)⟩
  · show Sp p e below s₁ (mkF m 0 #[.val (.ref a1), .val (.ref a2), .val (.int (0 : Int32))] []) _
    refine XS.aloadN X0.here hx rfl (hb hby d10_0) rfl rfl ?_
    show Sp p e below s₁ (mkF m 1 #[.val (.ref a1), .val (.ref a2), .val (.int (0 : Int32))] [(.ref a1)]) _
    refine st1 _ ?_
    show Sp p e below T1 (mkF m 4 #[.val (.ref a1), .val (.ref a2), .val (.int (0 : Int32))] []) _
    refine XS.aloadN X1.here hx rfl (hb hby d10_4) rfl rfl ?_
    refine XS.aloadN X1.here hx rfl (hb hby d10_5) rfl rfl ?_
    show Sp p e below T1 (mkF m 6 #[.val (.ref a1), .val (.ref a2), .val (.int (0 : Int32))] [(.ref a2), (.ref a1)]) _
    refine st2 _ ?_
    show Sp p e below T2 (mkF m 9 #[.val (.ref a1), .val (.ref a2), .val (.int (0 : Int32))] []) _
    refine XS.aloadN X2.here hx rfl (hb hby d10_9) rfl rfl ?_
    refine XS.iloadN X2.here hx rfl (hb hby d10_10) rfl ?_
    show Sp p e below T2 (mkF m 11 #[.val (.ref a1), .val (.ref a2), .val (.int (0 : Int32))] [(.int (0 : Int32)), (.ref a1)]) _
    refine st3 _ ?_
    show Sp p e below T3 (mkF m 14 #[.val (.ref a1), .val (.ref a2), .val (.int (0 : Int32))] []) _
    exact X3.returnOut hx Bd.returns (hb hby d10_14) hr
  · show Q8 Z w_PENDING w_IGNORE cs_v a1 a2 h0 n0 _ T3.heap _
    rw [e3]
    exact ⟨rfl, N3, K3, ((E_a1.wr W2).wr W3), Fw3, (Fw2.other W3 (Or.inr (sn0 hw)))⟩
theorem pd_7 : parseMethodDescriptor "([BB)V" = some ⟨[(.array .byte), .byte], none⟩ := by decide +kernel
theorem d7_25 : decode jdk_42_method_139_code 25 = .ok (.areturn, 1) := by decide +kernel
abbrev y8 : MethodName := (⟨"java/lang/String", "valueOf", "(C)Ljava/lang/String;"⟩ : MethodName)
theorem ef_7_0 (m : MethodId) (x0 : Int32) : entryFrame m #[(.int x0)] 1 = mkF m 0 #[.val (.int x0)] [] := by first | (simp [entryFrame, mkF, argsToLocals, Value.category]; done) | rfl
def Q9 (Z : State) (w_PENDING : Addr) (w_IGNORE : Addr) (cs_v : Int32) (p1 : Int32) (h0 : Heap) (n0 : Nat) (v : Option Value) (h : Heap) (L : List Loc) : Prop := ∃ (b3 b4_0 : Addr), ∃ (kc4_0 : ClassId), v = some (.ref b3) ∧ Fr n0 L ∧ Keep h0 h [] ∧ h0.size ≤ b3 ∧ h0.size ≤ b4_0 ∧ b3 ≠ b4_0 ∧ Exa Z h b3 "java/lang/String" ∧ Fld Z h b3 "java/lang/String" "coder" "B" (.int (0 : Int32)) ∧ Fld Z h b3 "java/lang/String" "value" "[B" (.ref b4_0) ∧ Exa Z h b4_0 "[B" ∧ Arv Z h b4_0 kc4_0 .byte (1 : Int32) [(.int (nar .byte (p1.toInt8.toInt32)))] (.int (0 : Int32))
set_option maxRecDepth 65536 in
set_option maxHeartbeats 40000000 in
theorem rm9 (l : Launch) (Z : State) (a0 : Array Value) (hw : ∀ d ∈ tables_1, d.before a0 Z = true) (ws : List Jvm.Cond) (w_PENDING w_IGNORE : Addr) (cs_v : Int32) (hp : Perm Z w_PENDING w_IGNORE cs_v) (p1 : Int32) (h0 : Heap) (n0 : Nat) (O0 : Old Z n0 h0) (hc1 : ¬ ((255 : Int32) < p1)) :
    MetFree l y8 (head1 (Jvm.Cond.code y8 jdk_42_method_139_code 1 (some (.object "java/lang/String")) :: ws) ({ frames := 2, cells := 2, slots := 5, locals := 27 } : Room)) (fun a U => a = #[(.int p1)] ∧ Z.Warmed39 U.vm ∧ U.heap = h0) (fun _ _ _ _ _ => True) (fun _ U o U' => ∃ v L, o = .returned v ∧ Q9 Z w_PENDING w_IGNORE cs_v p1 h0 n0 v U'.heap L ∧ FrameEnd U o U' L ({ frames := 2, cells := 2, slots := 5, locals := 27 } : Room).cells ({ frames := 2, cells := 2, slots := 5, locals := 27 } : Room).slots) := by
  refine MetFree.of_bodySF (plainFor_of_name pn_2) hisR ?_
  intro p e s m args below meth c s₁ Bd hml0 hP hK
  obtain ⟨rfl, hZ, hh⟩ := hP
  have hx := Bd.exec
  have hby := Bd.bytes
  have hml : c.maxLocals = 1 := hml0
  have hown : s.vm.findClass "java/lang/String" = some m.cls := findClass_of_methodNamed Bd.named
  have hnm := (name_of_methodNamed Bd.named Bd.method).1
  have X0 : Stand p l e ({ frames := 2, cells := 2, slots := 5, locals := 27 } : Room) s m #[(.int p1)] below meth c s₁ [] 0 0 := Stand.of_body Bd
  have e0 : s₁.heap = h0 := by rw [← hh, Bd.state]; rfl
  have N0 := Fr.nil n0
  have hp' := hp
  obtain ⟨S_w_PENDING, E_w_PENDING, S_w_IGNORE, E_w_IGNORE, S_COMPACT_STRINGS, h_cs⟩ := hp'
  have pre0 : ∀ t, Steps p.tables e below (s₁.setTop (mkF m 0 #[.val (.int p1)] [])) t → Steps p.tables e below (s₁.setTop (entryFrame m #[(.int p1)] 1)) t := fun t k => castTop (ef_7_0 m p1) k
  obtain ⟨T1, X1, e1, st1⟩ := getS2 X0 hx hZ hown (host := "") (Or.inl (hw _ (List.mem_of_getElem? (i := 14) rfl))) Via.refl e0 (S_COMPACT_STRINGS.ext O0.2) (g := (mkF m 0 #[.val (.int p1)] [])) rfl (hb hby d7_0)
  obtain ⟨_, _, ⟨T2, L2, k2, n2⟩, -, X2, ⟨Lc2, hQ2, l2, y2, z2⟩, st2⟩ := Jvm.LawKit.callS X1 hx (y := y5) hown (mvT hZ (hw _ (List.mem_of_getElem? (i := 33) rfl))) (mvT hZ (hw _ (List.mem_of_getElem? (i := 34) rfl))) (mvT hZ (hw _ (List.mem_of_getElem? (i := 35) rfl))) (mvT hZ (hw _ (List.mem_of_getElem? (i := 36) rfl))) (by decide) (backOf (W := 0) (rm6 l Z a0 hw [] w_PENDING w_IGNORE cs_v hp p1 h0 n0 O0 hc1) hZ (hw _ (List.mem_of_getElem? (i := 36) rfl)) (hw _ (List.mem_of_getElem? (i := 35) rfl)) (by decide) (by decide)) (g := (mkF m 7 #[.val (.int p1)] [(.int p1)])) rfl (by rw [hml]; rfl) (argsL := [(.int p1)]) (rest := []) (lenOf pd_5 rfl) rfl (by show 2 * 0 + _ ≤ _; exact Nat.le_of_eq rfl) (hb hby d7_7) (fun _ _ => ⟨rfl, e1, (by decide : 0 + 0 ≤ _), (by decide : 0 + 0 ≤ _)⟩)
  dsimp only [Pt.U, Pt.locs, Pt.cells, Pt.slots] at X2 l2 y2 z2 st2 hQ2
  subst l2 y2 z2
  obtain ⟨rfl, Nq2, eq2⟩ := hQ2
  have N2 := Fr.app N0 Nq2
  obtain ⟨T3, h3, X3, e3, E3, A3, D3, -, st3⟩ := newO X2 hx hZ hown (hw _ (List.mem_of_getElem? (i := 37) rfl)) (hw _ (List.mem_of_getElem? (i := 2) rfl)) (hw _ (List.mem_of_getElem? (i := 3) rfl)) eq2 (g := (mkF m 13 #[.val (.int p1)] [])) rfl (hb hby d7_13) (by decide) (by decide)
  obtain ⟨b3, g3⟩ : ∃ z, z = h0.size := ⟨_, rfl⟩
  rw [← g3] at A3 D3 st3
  have g_b3 : n0 ≤ b3 := Nat.le_trans (own_sz O0) (Nat.le_of_eq g3.symm)
  have sz_b3 : h0.size ≤ b3 := Nat.le_trans (Keep.refl h0 []).1 (Nat.le_of_eq g3.symm)
  have O3 := O0.ext E3
  have K3 : Keep h0 h3 [] := (Keep.refl h0 []).ext E3
  have F_coder_b3 : Fld Z h3 b3 "java/lang/String" "coder" "B" (.int (0 : Int32)) := D3 (Or.inr (hw _ (List.mem_of_getElem? (i := 27) rfl))) (ty := .byte) (by decide)
  have F_value_b3 : Fld Z h3 b3 "java/lang/String" "value" "[B" .null := D3 (Or.inr (hw _ (List.mem_of_getElem? (i := 29) rfl))) (ty := (.array .byte)) (by decide)
  obtain ⟨_, _, ⟨T4, L4, k4, n4⟩, -, X4, ⟨Lc4, hQ4, l4, y4, z4⟩, st4⟩ := Jvm.LawKit.callS X3 hx (y := y6) hown (mvT hZ (hw _ (List.mem_of_getElem? (i := 38) rfl))) (mvT hZ (hw _ (List.mem_of_getElem? (i := 39) rfl))) (mvT hZ (hw _ (List.mem_of_getElem? (i := 35) rfl))) (mvT hZ (hw _ (List.mem_of_getElem? (i := 40) rfl))) (by decide) (backOf (W := 2) (rm7 l Z a0 hw [] w_PENDING w_IGNORE cs_v hp p1 h3 n0 O3) hZ (hw _ (List.mem_of_getElem? (i := 40) rfl)) (hw _ (List.mem_of_getElem? (i := 35) rfl)) (by decide) (by decide)) (g := (mkF m 18 #[.val (.int p1)] [(.int p1), (.ref b3), (.ref b3)])) rfl (by rw [hml]; rfl) (argsL := [(.int p1)]) (rest := [(.ref b3), (.ref b3)]) (lenOf pd_6 rfl) rfl (by show 2 * 0 + _ ≤ _; exact Nat.le_of_eq rfl) (hb hby d7_18) (fun _ _ => ⟨rfl, e3, (by decide : 1 + 1 ≤ _), (by decide : 4 + 1 ≤ _)⟩)
  dsimp only [Pt.U, Pt.locs, Pt.cells, Pt.slots] at X4 l4 y4 z4 st4 hQ4
  subst l4 y4 z4
  obtain ⟨b4_0, kc4_0, rfl, Nq4, Kq4, sq_b4_0, fq4_0, fq4_1⟩ := hQ4
  have N4 := Fr.app N2 Nq4
  have g_b4_0 : n0 ≤ b4_0 := Nat.le_trans (own_sz O3) sq_b4_0
  have sz_b4_0 : h0.size ≤ b4_0 := Nat.le_trans K3.1 sq_b4_0
  have O4 := O3.keep Kq4 all0
  have K4 : Keep h0 T4.heap [] := K3.trans Kq4 all0
  obtain ⟨_, _, ⟨T5, L5, k5, n5⟩, -, X5, ⟨Lc5, hQ5, l5, y5, z5⟩, st5⟩ := X4.specialBack hx (y := y7) rfl hown (mvT hZ (hw _ (List.mem_of_getElem? (i := 41) rfl))) (mvT hZ (hw _ (List.mem_of_getElem? (i := 42) rfl))) (mvT hZ (hw _ (List.mem_of_getElem? (i := 43) rfl))) (by decide) (backOf (W := 1) (rm8 l Z a0 hw [] w_PENDING w_IGNORE cs_v hp b3 b4_0 T4.heap n0 O4 (A3.keep Kq4) (F_coder_b3.keep Kq4 nin0) (F_value_b3.keep Kq4 nin0) g_b3) hZ (hw _ (List.mem_of_getElem? (i := 43) rfl)) (hw _ (List.mem_of_getElem? (i := 3) rfl)) (by decide) (by decide)) (g := (mkF m 22 #[.val (.int p1)] [(.int (0 : Int32)), (.ref b4_0), (.ref b3), (.ref b3)])) rfl (by rw [hml]; rfl) (Steps.refl _) (a := b3) (argsL := [(.ref b4_0), (.int (0 : Int32))]) (rest := [(.ref b3)]) (lenOf pd_7 rfl) rfl (by show 2 * 0 + _ ≤ _; exact Nat.le_of_eq rfl) (hb hby d7_22) (fun _ _ => ⟨rfl, rfl, (by decide : 2 + 0 ≤ _), (by decide : 5 + 0 ≤ _)⟩)
  dsimp only [Pt.U, Pt.locs, Pt.cells, Pt.slots] at X5 l5 y5 z5 st5 hQ5
  subst l5 y5 z5
  obtain ⟨rfl, Nq5, Kq5, fq5_0, fq5_1, fq5_2⟩ := hQ5
  have N5 := Fr.app N4 Nq5
  have O5 := O4.keep Kq5 (allS g_b3 all0)
  have K5 : Keep h0 T5.heap [] := K4.trans Kq5 (allS (Or.inr sz_b3) all0)
  have f_6 := (fq4_1.keep Kq5 (ninS (Ne.symm (Nat.ne_of_lt (Nat.lt_of_lt_of_le A3.lt sq_b4_0))) nin0))
  obtain ⟨fs, hr, hrun, hended, hW, hsame⟩ := X5.leave (v := some (.ref b3)) (fun h => by rw [Bd.returns] at h; cases h)
  refine ⟨_, _, pre0 _ ?_, hrun, hended, _, _, rfl, ?_, ⟨_, rfl⟩, hW, hsame.mono (by decide) (by decide)⟩
  · show Sp p e below s₁ (mkF m 0 #[.val (.int p1)] []) _
    refine st1 _ ?_
    show Sp p e below T1 (mkF m 3 #[.val (.int p1)] [(.int cs_v)]) _
    refine XS.ifNo X1.here hx rfl (hb hby d7_3) rfl ((if0 _ _).trans (feq h_cs).1) ?_
    refine XS.iloadN X1.here hx rfl (hb hby d7_6) rfl ?_
    show Sp p e below T1 (mkF m 7 #[.val (.int p1)] [(.int p1)]) _
    refine st2 _ ?_
    show Sp p e below T2 (mkF m 10 #[.val (.int p1)] [(.int (1 : Int32))]) _
    refine XS.ifNo X2.here hx rfl (hb hby d7_10) rfl ((if0 _ _).trans (feq (by decide : ¬ ((1 : Int32) = (0 : Int32)))).1) ?_
    show Sp p e below T2 (mkF m 13 #[.val (.int p1)] []) _
    refine st3 _ ?_
    show Sp p e below T3 (mkF m 16 #[.val (.int p1)] [(.ref b3)]) _
    refine XS.dup X3.here hx rfl (hb hby d7_16) rfl rfl ?_
    refine XS.iloadN X3.here hx rfl (hb hby d7_17) rfl ?_
    show Sp p e below T3 (mkF m 18 #[.val (.int p1)] [(.int p1), (.ref b3), (.ref b3)]) _
    refine st4 _ ?_
    show Sp p e below T4 (mkF m 21 #[.val (.int p1)] [(.ref b4_0), (.ref b3), (.ref b3)]) _
    refine XS.iconst X4.here hx rfl (hb hby d7_21) ?_
    show Sp p e below T4 (mkF m 22 #[.val (.int p1)] [(.int (0 : Int32)), (.ref b4_0), (.ref b3), (.ref b3)]) _
    refine st5.trans ?_
    show Sp p e below T5 (mkF m 25 #[.val (.int p1)] [(.ref b3)]) _
    jvm_step X5.here [X5.here.top, hx, (hb hby d7_25), X5.method', Bd.returns, Value.isRef, FieldType.isReference]
    first | (intro acts; rw [hr _ acts rfl rfl rfl]) | rw [hr _ _ rfl rfl rfl]
    exact Steps.refl _
  · show Q9 Z w_PENDING w_IGNORE cs_v p1 h0 n0 _ T5.heap _
    exact ⟨b3, b4_0, kc4_0, rfl, N5, K5, sz_b3, sz_b4_0, (Nat.ne_of_lt (Nat.lt_of_lt_of_le A3.lt sq_b4_0)), fq5_0, fq5_1, fq5_2, (fq4_0.keep Kq5), f_6⟩
theorem pd_8 : parseMethodDescriptor "(C)Ljava/lang/String;" = some ⟨[.char], some (.object "java/lang/String")⟩ := by decide +kernel
theorem d11_0 : decode prog_3_method_1_code 0 = .ok (.aload_n 0, 1) := by decide +kernel
theorem d11_1 : decode prog_3_method_1_code 1 = .ok (.lload_n 1, 1) := by decide +kernel
theorem d11_2 : decode prog_3_method_1_code 2 = .ok (.aload_n 3, 1) := by decide +kernel
theorem d11_3 : decode prog_3_method_1_code 3 = .ok (.aconst_null, 1) := by decide +kernel
theorem d11_4 : decode prog_3_method_1_code 4 = .ok (.lconst 0, 1) := by decide +kernel
theorem d11_5 : decode prog_3_method_1_code 5 = .ok (.aload 4, 2) := by decide +kernel
theorem d11_7 : decode prog_3_method_1_code 7 = .ok (.aload 5, 2) := by decide +kernel
theorem d11_9 : decode prog_3_method_1_code 9 = .ok (.aload 6, 2) := by decide +kernel
theorem d11_11 : decode prog_3_method_1_code 11 = .ok (.iload 7, 2) := by decide +kernel
theorem d11_13 : decode prog_3_method_1_code 13 = .ok (.iload 8, 2) := by decide +kernel
theorem d11_15 : decode prog_3_method_1_code 15 = .ok (.aload 9, 2) := by decide +kernel
theorem d11_17 : decode prog_3_method_1_code 17 = .ok (.iload 10, 2) := by decide +kernel
theorem d11_19 : decode prog_3_method_1_code 19 = .ok (.invokespecial 1, 3) := by decide +kernel
theorem d12_0 : decode prog_3_method_3_code 0 = .ok (.aload_n 0, 1) := by decide +kernel
theorem d12_1 : decode prog_3_method_3_code 1 = .ok (.invokespecial 7, 3) := by decide +kernel
theorem d12_4 : decode prog_3_method_3_code 4 = .ok (.aload_n 0, 1) := by decide +kernel
theorem d12_5 : decode prog_3_method_3_code 5 = .ok (.lload_n 1, 1) := by decide +kernel
theorem d12_6 : decode prog_3_method_3_code 6 = .ok (.putfield 12, 3) := by decide +kernel
theorem d12_9 : decode prog_3_method_3_code 9 = .ok (.aload_n 0, 1) := by decide +kernel
theorem d12_10 : decode prog_3_method_3_code 10 = .ok (.aload_n 3, 1) := by decide +kernel
theorem d12_11 : decode prog_3_method_3_code 11 = .ok (.putfield 16, 3) := by decide +kernel
theorem sn2 {Z : State} {a0 : Array Value} (hw : ∀ d ∈ tables_1, d.before a0 Z = true) : Jvm.RoadKit.slotOf Z "com/example/graph_job_runner/graphjobrunner/ClaimedNode" "runKey" "Ljava/lang/String;" ≠ Jvm.RoadKit.slotOf Z "com/example/graph_job_runner/graphjobrunner/ClaimedNode" "id" "J" := slot_ne (Or.inr (hw _ (List.mem_of_getElem? (i := 60) rfl))) (Or.inr (hw _ (List.mem_of_getElem? (i := 58) rfl))) (by decide) (t := (.object "java/lang/String")) (t' := .long) (by decide) (by decide)
theorem d12_14 : decode prog_3_method_3_code 14 = .ok (.aload_n 0, 1) := by decide +kernel
theorem d12_15 : decode prog_3_method_3_code 15 = .ok (.aload 4, 2) := by decide +kernel
theorem d12_17 : decode prog_3_method_3_code 17 = .ok (.putfield 20, 3) := by decide +kernel
theorem sn3 {Z : State} {a0 : Array Value} (hw : ∀ d ∈ tables_1, d.before a0 Z = true) : Jvm.RoadKit.slotOf Z "com/example/graph_job_runner/graphjobrunner/ClaimedNode" "streamKey" "Ljava/lang/String;" ≠ Jvm.RoadKit.slotOf Z "com/example/graph_job_runner/graphjobrunner/ClaimedNode" "id" "J" := slot_ne (Or.inr (hw _ (List.mem_of_getElem? (i := 62) rfl))) (Or.inr (hw _ (List.mem_of_getElem? (i := 58) rfl))) (by decide) (t := (.object "java/lang/String")) (t' := .long) (by decide) (by decide)
theorem sn4 {Z : State} {a0 : Array Value} (hw : ∀ d ∈ tables_1, d.before a0 Z = true) : Jvm.RoadKit.slotOf Z "com/example/graph_job_runner/graphjobrunner/ClaimedNode" "streamKey" "Ljava/lang/String;" ≠ Jvm.RoadKit.slotOf Z "com/example/graph_job_runner/graphjobrunner/ClaimedNode" "runKey" "Ljava/lang/String;" := slot_ne (Or.inr (hw _ (List.mem_of_getElem? (i := 62) rfl))) (Or.inr (hw _ (List.mem_of_getElem? (i := 60) rfl))) (by decide) (t := (.object "java/lang/String")) (t' := (.object "java/lang/String")) (by decide) (by decide)
theorem d12_20 : decode prog_3_method_3_code 20 = .ok (.aload_n 0, 1) := by decide +kernel
theorem d12_21 : decode prog_3_method_3_code 21 = .ok (.lload 5, 2) := by decide +kernel
theorem d12_23 : decode prog_3_method_3_code 23 = .ok (.putfield 23, 3) := by decide +kernel
theorem sn5 {Z : State} {a0 : Array Value} (hw : ∀ d ∈ tables_1, d.before a0 Z = true) : Jvm.RoadKit.slotOf Z "com/example/graph_job_runner/graphjobrunner/ClaimedNode" "position" "J" ≠ Jvm.RoadKit.slotOf Z "com/example/graph_job_runner/graphjobrunner/ClaimedNode" "id" "J" := slot_ne (Or.inr (hw _ (List.mem_of_getElem? (i := 64) rfl))) (Or.inr (hw _ (List.mem_of_getElem? (i := 58) rfl))) (by decide) (t := .long) (t' := .long) (by decide) (by decide)
theorem sn6 {Z : State} {a0 : Array Value} (hw : ∀ d ∈ tables_1, d.before a0 Z = true) : Jvm.RoadKit.slotOf Z "com/example/graph_job_runner/graphjobrunner/ClaimedNode" "position" "J" ≠ Jvm.RoadKit.slotOf Z "com/example/graph_job_runner/graphjobrunner/ClaimedNode" "runKey" "Ljava/lang/String;" := slot_ne (Or.inr (hw _ (List.mem_of_getElem? (i := 64) rfl))) (Or.inr (hw _ (List.mem_of_getElem? (i := 60) rfl))) (by decide) (t := .long) (t' := (.object "java/lang/String")) (by decide) (by decide)
theorem sn7 {Z : State} {a0 : Array Value} (hw : ∀ d ∈ tables_1, d.before a0 Z = true) : Jvm.RoadKit.slotOf Z "com/example/graph_job_runner/graphjobrunner/ClaimedNode" "position" "J" ≠ Jvm.RoadKit.slotOf Z "com/example/graph_job_runner/graphjobrunner/ClaimedNode" "streamKey" "Ljava/lang/String;" := slot_ne (Or.inr (hw _ (List.mem_of_getElem? (i := 64) rfl))) (Or.inr (hw _ (List.mem_of_getElem? (i := 62) rfl))) (by decide) (t := .long) (t' := (.object "java/lang/String")) (by decide) (by decide)
theorem d12_26 : decode prog_3_method_3_code 26 = .ok (.aload_n 0, 1) := by decide +kernel
theorem d12_27 : decode prog_3_method_3_code 27 = .ok (.aload 7, 2) := by decide +kernel
theorem d12_29 : decode prog_3_method_3_code 29 = .ok (.putfield 26, 3) := by decide +kernel
theorem sn8 {Z : State} {a0 : Array Value} (hw : ∀ d ∈ tables_1, d.before a0 Z = true) : Jvm.RoadKit.slotOf Z "com/example/graph_job_runner/graphjobrunner/ClaimedNode" "nodeKey" "Ljava/lang/String;" ≠ Jvm.RoadKit.slotOf Z "com/example/graph_job_runner/graphjobrunner/ClaimedNode" "id" "J" := slot_ne (Or.inr (hw _ (List.mem_of_getElem? (i := 66) rfl))) (Or.inr (hw _ (List.mem_of_getElem? (i := 58) rfl))) (by decide) (t := (.object "java/lang/String")) (t' := .long) (by decide) (by decide)
theorem sn9 {Z : State} {a0 : Array Value} (hw : ∀ d ∈ tables_1, d.before a0 Z = true) : Jvm.RoadKit.slotOf Z "com/example/graph_job_runner/graphjobrunner/ClaimedNode" "nodeKey" "Ljava/lang/String;" ≠ Jvm.RoadKit.slotOf Z "com/example/graph_job_runner/graphjobrunner/ClaimedNode" "runKey" "Ljava/lang/String;" := slot_ne (Or.inr (hw _ (List.mem_of_getElem? (i := 66) rfl))) (Or.inr (hw _ (List.mem_of_getElem? (i := 60) rfl))) (by decide) (t := (.object "java/lang/String")) (t' := (.object "java/lang/String")) (by decide) (by decide)
theorem sn10 {Z : State} {a0 : Array Value} (hw : ∀ d ∈ tables_1, d.before a0 Z = true) : Jvm.RoadKit.slotOf Z "com/example/graph_job_runner/graphjobrunner/ClaimedNode" "nodeKey" "Ljava/lang/String;" ≠ Jvm.RoadKit.slotOf Z "com/example/graph_job_runner/graphjobrunner/ClaimedNode" "streamKey" "Ljava/lang/String;" := slot_ne (Or.inr (hw _ (List.mem_of_getElem? (i := 66) rfl))) (Or.inr (hw _ (List.mem_of_getElem? (i := 62) rfl))) (by decide) (t := (.object "java/lang/String")) (t' := (.object "java/lang/String")) (by decide) (by decide)
theorem sn11 {Z : State} {a0 : Array Value} (hw : ∀ d ∈ tables_1, d.before a0 Z = true) : Jvm.RoadKit.slotOf Z "com/example/graph_job_runner/graphjobrunner/ClaimedNode" "nodeKey" "Ljava/lang/String;" ≠ Jvm.RoadKit.slotOf Z "com/example/graph_job_runner/graphjobrunner/ClaimedNode" "position" "J" := slot_ne (Or.inr (hw _ (List.mem_of_getElem? (i := 66) rfl))) (Or.inr (hw _ (List.mem_of_getElem? (i := 64) rfl))) (by decide) (t := (.object "java/lang/String")) (t' := .long) (by decide) (by decide)
theorem d12_32 : decode prog_3_method_3_code 32 = .ok (.aload_n 0, 1) := by decide +kernel
theorem d12_33 : decode prog_3_method_3_code 33 = .ok (.aload 8, 2) := by decide +kernel
theorem d12_35 : decode prog_3_method_3_code 35 = .ok (.putfield 29, 3) := by decide +kernel
theorem sn12 {Z : State} {a0 : Array Value} (hw : ∀ d ∈ tables_1, d.before a0 Z = true) : Jvm.RoadKit.slotOf Z "com/example/graph_job_runner/graphjobrunner/ClaimedNode" "processor" "Ljava/lang/String;" ≠ Jvm.RoadKit.slotOf Z "com/example/graph_job_runner/graphjobrunner/ClaimedNode" "id" "J" := slot_ne (Or.inr (hw _ (List.mem_of_getElem? (i := 68) rfl))) (Or.inr (hw _ (List.mem_of_getElem? (i := 58) rfl))) (by decide) (t := (.object "java/lang/String")) (t' := .long) (by decide) (by decide)
theorem sn13 {Z : State} {a0 : Array Value} (hw : ∀ d ∈ tables_1, d.before a0 Z = true) : Jvm.RoadKit.slotOf Z "com/example/graph_job_runner/graphjobrunner/ClaimedNode" "processor" "Ljava/lang/String;" ≠ Jvm.RoadKit.slotOf Z "com/example/graph_job_runner/graphjobrunner/ClaimedNode" "runKey" "Ljava/lang/String;" := slot_ne (Or.inr (hw _ (List.mem_of_getElem? (i := 68) rfl))) (Or.inr (hw _ (List.mem_of_getElem? (i := 60) rfl))) (by decide) (t := (.object "java/lang/String")) (t' := (.object "java/lang/String")) (by decide) (by decide)
theorem sn14 {Z : State} {a0 : Array Value} (hw : ∀ d ∈ tables_1, d.before a0 Z = true) : Jvm.RoadKit.slotOf Z "com/example/graph_job_runner/graphjobrunner/ClaimedNode" "processor" "Ljava/lang/String;" ≠ Jvm.RoadKit.slotOf Z "com/example/graph_job_runner/graphjobrunner/ClaimedNode" "streamKey" "Ljava/lang/String;" := slot_ne (Or.inr (hw _ (List.mem_of_getElem? (i := 68) rfl))) (Or.inr (hw _ (List.mem_of_getElem? (i := 62) rfl))) (by decide) (t := (.object "java/lang/String")) (t' := (.object "java/lang/String")) (by decide) (by decide)
theorem sn15 {Z : State} {a0 : Array Value} (hw : ∀ d ∈ tables_1, d.before a0 Z = true) : Jvm.RoadKit.slotOf Z "com/example/graph_job_runner/graphjobrunner/ClaimedNode" "processor" "Ljava/lang/String;" ≠ Jvm.RoadKit.slotOf Z "com/example/graph_job_runner/graphjobrunner/ClaimedNode" "position" "J" := slot_ne (Or.inr (hw _ (List.mem_of_getElem? (i := 68) rfl))) (Or.inr (hw _ (List.mem_of_getElem? (i := 64) rfl))) (by decide) (t := (.object "java/lang/String")) (t' := .long) (by decide) (by decide)
theorem sn16 {Z : State} {a0 : Array Value} (hw : ∀ d ∈ tables_1, d.before a0 Z = true) : Jvm.RoadKit.slotOf Z "com/example/graph_job_runner/graphjobrunner/ClaimedNode" "processor" "Ljava/lang/String;" ≠ Jvm.RoadKit.slotOf Z "com/example/graph_job_runner/graphjobrunner/ClaimedNode" "nodeKey" "Ljava/lang/String;" := slot_ne (Or.inr (hw _ (List.mem_of_getElem? (i := 68) rfl))) (Or.inr (hw _ (List.mem_of_getElem? (i := 66) rfl))) (by decide) (t := (.object "java/lang/String")) (t' := (.object "java/lang/String")) (by decide) (by decide)
theorem d12_38 : decode prog_3_method_3_code 38 = .ok (.aload_n 0, 1) := by decide +kernel
theorem d12_39 : decode prog_3_method_3_code 39 = .ok (.aload 9, 2) := by decide +kernel
theorem d12_41 : decode prog_3_method_3_code 41 = .ok (.putfield 32, 3) := by decide +kernel
theorem sn17 {Z : State} {a0 : Array Value} (hw : ∀ d ∈ tables_1, d.before a0 Z = true) : Jvm.RoadKit.slotOf Z "com/example/graph_job_runner/graphjobrunner/ClaimedNode" "payload" "[B" ≠ Jvm.RoadKit.slotOf Z "com/example/graph_job_runner/graphjobrunner/ClaimedNode" "id" "J" := slot_ne (Or.inr (hw _ (List.mem_of_getElem? (i := 70) rfl))) (Or.inr (hw _ (List.mem_of_getElem? (i := 58) rfl))) (by decide) (t := (.array .byte)) (t' := .long) (by decide) (by decide)
theorem sn18 {Z : State} {a0 : Array Value} (hw : ∀ d ∈ tables_1, d.before a0 Z = true) : Jvm.RoadKit.slotOf Z "com/example/graph_job_runner/graphjobrunner/ClaimedNode" "payload" "[B" ≠ Jvm.RoadKit.slotOf Z "com/example/graph_job_runner/graphjobrunner/ClaimedNode" "runKey" "Ljava/lang/String;" := slot_ne (Or.inr (hw _ (List.mem_of_getElem? (i := 70) rfl))) (Or.inr (hw _ (List.mem_of_getElem? (i := 60) rfl))) (by decide) (t := (.array .byte)) (t' := (.object "java/lang/String")) (by decide) (by decide)
theorem sn19 {Z : State} {a0 : Array Value} (hw : ∀ d ∈ tables_1, d.before a0 Z = true) : Jvm.RoadKit.slotOf Z "com/example/graph_job_runner/graphjobrunner/ClaimedNode" "payload" "[B" ≠ Jvm.RoadKit.slotOf Z "com/example/graph_job_runner/graphjobrunner/ClaimedNode" "streamKey" "Ljava/lang/String;" := slot_ne (Or.inr (hw _ (List.mem_of_getElem? (i := 70) rfl))) (Or.inr (hw _ (List.mem_of_getElem? (i := 62) rfl))) (by decide) (t := (.array .byte)) (t' := (.object "java/lang/String")) (by decide) (by decide)
theorem sn20 {Z : State} {a0 : Array Value} (hw : ∀ d ∈ tables_1, d.before a0 Z = true) : Jvm.RoadKit.slotOf Z "com/example/graph_job_runner/graphjobrunner/ClaimedNode" "payload" "[B" ≠ Jvm.RoadKit.slotOf Z "com/example/graph_job_runner/graphjobrunner/ClaimedNode" "position" "J" := slot_ne (Or.inr (hw _ (List.mem_of_getElem? (i := 70) rfl))) (Or.inr (hw _ (List.mem_of_getElem? (i := 64) rfl))) (by decide) (t := (.array .byte)) (t' := .long) (by decide) (by decide)
theorem sn21 {Z : State} {a0 : Array Value} (hw : ∀ d ∈ tables_1, d.before a0 Z = true) : Jvm.RoadKit.slotOf Z "com/example/graph_job_runner/graphjobrunner/ClaimedNode" "payload" "[B" ≠ Jvm.RoadKit.slotOf Z "com/example/graph_job_runner/graphjobrunner/ClaimedNode" "nodeKey" "Ljava/lang/String;" := slot_ne (Or.inr (hw _ (List.mem_of_getElem? (i := 70) rfl))) (Or.inr (hw _ (List.mem_of_getElem? (i := 66) rfl))) (by decide) (t := (.array .byte)) (t' := (.object "java/lang/String")) (by decide) (by decide)
theorem sn22 {Z : State} {a0 : Array Value} (hw : ∀ d ∈ tables_1, d.before a0 Z = true) : Jvm.RoadKit.slotOf Z "com/example/graph_job_runner/graphjobrunner/ClaimedNode" "payload" "[B" ≠ Jvm.RoadKit.slotOf Z "com/example/graph_job_runner/graphjobrunner/ClaimedNode" "processor" "Ljava/lang/String;" := slot_ne (Or.inr (hw _ (List.mem_of_getElem? (i := 70) rfl))) (Or.inr (hw _ (List.mem_of_getElem? (i := 68) rfl))) (by decide) (t := (.array .byte)) (t' := (.object "java/lang/String")) (by decide) (by decide)
theorem d12_44 : decode prog_3_method_3_code 44 = .ok (.aload_n 0, 1) := by decide +kernel
theorem d12_45 : decode prog_3_method_3_code 45 = .ok (.iload 10, 2) := by decide +kernel
theorem d12_47 : decode prog_3_method_3_code 47 = .ok (.putfield 36, 3) := by decide +kernel
theorem sn23 {Z : State} {a0 : Array Value} (hw : ∀ d ∈ tables_1, d.before a0 Z = true) : Jvm.RoadKit.slotOf Z "com/example/graph_job_runner/graphjobrunner/ClaimedNode" "attempt" "I" ≠ Jvm.RoadKit.slotOf Z "com/example/graph_job_runner/graphjobrunner/ClaimedNode" "id" "J" := slot_ne (Or.inr (hw _ (List.mem_of_getElem? (i := 72) rfl))) (Or.inr (hw _ (List.mem_of_getElem? (i := 58) rfl))) (by decide) (t := .int) (t' := .long) (by decide) (by decide)
theorem sn24 {Z : State} {a0 : Array Value} (hw : ∀ d ∈ tables_1, d.before a0 Z = true) : Jvm.RoadKit.slotOf Z "com/example/graph_job_runner/graphjobrunner/ClaimedNode" "attempt" "I" ≠ Jvm.RoadKit.slotOf Z "com/example/graph_job_runner/graphjobrunner/ClaimedNode" "runKey" "Ljava/lang/String;" := slot_ne (Or.inr (hw _ (List.mem_of_getElem? (i := 72) rfl))) (Or.inr (hw _ (List.mem_of_getElem? (i := 60) rfl))) (by decide) (t := .int) (t' := (.object "java/lang/String")) (by decide) (by decide)
theorem sn25 {Z : State} {a0 : Array Value} (hw : ∀ d ∈ tables_1, d.before a0 Z = true) : Jvm.RoadKit.slotOf Z "com/example/graph_job_runner/graphjobrunner/ClaimedNode" "attempt" "I" ≠ Jvm.RoadKit.slotOf Z "com/example/graph_job_runner/graphjobrunner/ClaimedNode" "streamKey" "Ljava/lang/String;" := slot_ne (Or.inr (hw _ (List.mem_of_getElem? (i := 72) rfl))) (Or.inr (hw _ (List.mem_of_getElem? (i := 62) rfl))) (by decide) (t := .int) (t' := (.object "java/lang/String")) (by decide) (by decide)
theorem sn26 {Z : State} {a0 : Array Value} (hw : ∀ d ∈ tables_1, d.before a0 Z = true) : Jvm.RoadKit.slotOf Z "com/example/graph_job_runner/graphjobrunner/ClaimedNode" "attempt" "I" ≠ Jvm.RoadKit.slotOf Z "com/example/graph_job_runner/graphjobrunner/ClaimedNode" "position" "J" := slot_ne (Or.inr (hw _ (List.mem_of_getElem? (i := 72) rfl))) (Or.inr (hw _ (List.mem_of_getElem? (i := 64) rfl))) (by decide) (t := .int) (t' := .long) (by decide) (by decide)
theorem sn27 {Z : State} {a0 : Array Value} (hw : ∀ d ∈ tables_1, d.before a0 Z = true) : Jvm.RoadKit.slotOf Z "com/example/graph_job_runner/graphjobrunner/ClaimedNode" "attempt" "I" ≠ Jvm.RoadKit.slotOf Z "com/example/graph_job_runner/graphjobrunner/ClaimedNode" "nodeKey" "Ljava/lang/String;" := slot_ne (Or.inr (hw _ (List.mem_of_getElem? (i := 72) rfl))) (Or.inr (hw _ (List.mem_of_getElem? (i := 66) rfl))) (by decide) (t := .int) (t' := (.object "java/lang/String")) (by decide) (by decide)
theorem sn28 {Z : State} {a0 : Array Value} (hw : ∀ d ∈ tables_1, d.before a0 Z = true) : Jvm.RoadKit.slotOf Z "com/example/graph_job_runner/graphjobrunner/ClaimedNode" "attempt" "I" ≠ Jvm.RoadKit.slotOf Z "com/example/graph_job_runner/graphjobrunner/ClaimedNode" "processor" "Ljava/lang/String;" := slot_ne (Or.inr (hw _ (List.mem_of_getElem? (i := 72) rfl))) (Or.inr (hw _ (List.mem_of_getElem? (i := 68) rfl))) (by decide) (t := .int) (t' := (.object "java/lang/String")) (by decide) (by decide)
theorem sn29 {Z : State} {a0 : Array Value} (hw : ∀ d ∈ tables_1, d.before a0 Z = true) : Jvm.RoadKit.slotOf Z "com/example/graph_job_runner/graphjobrunner/ClaimedNode" "attempt" "I" ≠ Jvm.RoadKit.slotOf Z "com/example/graph_job_runner/graphjobrunner/ClaimedNode" "payload" "[B" := slot_ne (Or.inr (hw _ (List.mem_of_getElem? (i := 72) rfl))) (Or.inr (hw _ (List.mem_of_getElem? (i := 70) rfl))) (by decide) (t := .int) (t' := (.array .byte)) (by decide) (by decide)
theorem d12_50 : decode prog_3_method_3_code 50 = .ok (.aload_n 0, 1) := by decide +kernel
theorem d12_51 : decode prog_3_method_3_code 51 = .ok (.iload 11, 2) := by decide +kernel
theorem d12_53 : decode prog_3_method_3_code 53 = .ok (.putfield 40, 3) := by decide +kernel
theorem sn30 {Z : State} {a0 : Array Value} (hw : ∀ d ∈ tables_1, d.before a0 Z = true) : Jvm.RoadKit.slotOf Z "com/example/graph_job_runner/graphjobrunner/ClaimedNode" "retryLimit" "I" ≠ Jvm.RoadKit.slotOf Z "com/example/graph_job_runner/graphjobrunner/ClaimedNode" "id" "J" := slot_ne (Or.inr (hw _ (List.mem_of_getElem? (i := 74) rfl))) (Or.inr (hw _ (List.mem_of_getElem? (i := 58) rfl))) (by decide) (t := .int) (t' := .long) (by decide) (by decide)
theorem sn31 {Z : State} {a0 : Array Value} (hw : ∀ d ∈ tables_1, d.before a0 Z = true) : Jvm.RoadKit.slotOf Z "com/example/graph_job_runner/graphjobrunner/ClaimedNode" "retryLimit" "I" ≠ Jvm.RoadKit.slotOf Z "com/example/graph_job_runner/graphjobrunner/ClaimedNode" "runKey" "Ljava/lang/String;" := slot_ne (Or.inr (hw _ (List.mem_of_getElem? (i := 74) rfl))) (Or.inr (hw _ (List.mem_of_getElem? (i := 60) rfl))) (by decide) (t := .int) (t' := (.object "java/lang/String")) (by decide) (by decide)
theorem sn32 {Z : State} {a0 : Array Value} (hw : ∀ d ∈ tables_1, d.before a0 Z = true) : Jvm.RoadKit.slotOf Z "com/example/graph_job_runner/graphjobrunner/ClaimedNode" "retryLimit" "I" ≠ Jvm.RoadKit.slotOf Z "com/example/graph_job_runner/graphjobrunner/ClaimedNode" "streamKey" "Ljava/lang/String;" := slot_ne (Or.inr (hw _ (List.mem_of_getElem? (i := 74) rfl))) (Or.inr (hw _ (List.mem_of_getElem? (i := 62) rfl))) (by decide) (t := .int) (t' := (.object "java/lang/String")) (by decide) (by decide)
theorem sn33 {Z : State} {a0 : Array Value} (hw : ∀ d ∈ tables_1, d.before a0 Z = true) : Jvm.RoadKit.slotOf Z "com/example/graph_job_runner/graphjobrunner/ClaimedNode" "retryLimit" "I" ≠ Jvm.RoadKit.slotOf Z "com/example/graph_job_runner/graphjobrunner/ClaimedNode" "position" "J" := slot_ne (Or.inr (hw _ (List.mem_of_getElem? (i := 74) rfl))) (Or.inr (hw _ (List.mem_of_getElem? (i := 64) rfl))) (by decide) (t := .int) (t' := .long) (by decide) (by decide)
theorem sn34 {Z : State} {a0 : Array Value} (hw : ∀ d ∈ tables_1, d.before a0 Z = true) : Jvm.RoadKit.slotOf Z "com/example/graph_job_runner/graphjobrunner/ClaimedNode" "retryLimit" "I" ≠ Jvm.RoadKit.slotOf Z "com/example/graph_job_runner/graphjobrunner/ClaimedNode" "nodeKey" "Ljava/lang/String;" := slot_ne (Or.inr (hw _ (List.mem_of_getElem? (i := 74) rfl))) (Or.inr (hw _ (List.mem_of_getElem? (i := 66) rfl))) (by decide) (t := .int) (t' := (.object "java/lang/String")) (by decide) (by decide)
theorem sn35 {Z : State} {a0 : Array Value} (hw : ∀ d ∈ tables_1, d.before a0 Z = true) : Jvm.RoadKit.slotOf Z "com/example/graph_job_runner/graphjobrunner/ClaimedNode" "retryLimit" "I" ≠ Jvm.RoadKit.slotOf Z "com/example/graph_job_runner/graphjobrunner/ClaimedNode" "processor" "Ljava/lang/String;" := slot_ne (Or.inr (hw _ (List.mem_of_getElem? (i := 74) rfl))) (Or.inr (hw _ (List.mem_of_getElem? (i := 68) rfl))) (by decide) (t := .int) (t' := (.object "java/lang/String")) (by decide) (by decide)
theorem sn36 {Z : State} {a0 : Array Value} (hw : ∀ d ∈ tables_1, d.before a0 Z = true) : Jvm.RoadKit.slotOf Z "com/example/graph_job_runner/graphjobrunner/ClaimedNode" "retryLimit" "I" ≠ Jvm.RoadKit.slotOf Z "com/example/graph_job_runner/graphjobrunner/ClaimedNode" "payload" "[B" := slot_ne (Or.inr (hw _ (List.mem_of_getElem? (i := 74) rfl))) (Or.inr (hw _ (List.mem_of_getElem? (i := 70) rfl))) (by decide) (t := .int) (t' := (.array .byte)) (by decide) (by decide)
theorem sn37 {Z : State} {a0 : Array Value} (hw : ∀ d ∈ tables_1, d.before a0 Z = true) : Jvm.RoadKit.slotOf Z "com/example/graph_job_runner/graphjobrunner/ClaimedNode" "retryLimit" "I" ≠ Jvm.RoadKit.slotOf Z "com/example/graph_job_runner/graphjobrunner/ClaimedNode" "attempt" "I" := slot_ne (Or.inr (hw _ (List.mem_of_getElem? (i := 74) rfl))) (Or.inr (hw _ (List.mem_of_getElem? (i := 72) rfl))) (by decide) (t := .int) (t' := .int) (by decide) (by decide)
theorem d12_56 : decode prog_3_method_3_code 56 = .ok (.aload_n 0, 1) := by decide +kernel
theorem d12_57 : decode prog_3_method_3_code 57 = .ok (.aload 12, 2) := by decide +kernel
theorem d12_59 : decode prog_3_method_3_code 59 = .ok (.putfield 43, 3) := by decide +kernel
theorem sn38 {Z : State} {a0 : Array Value} (hw : ∀ d ∈ tables_1, d.before a0 Z = true) : Jvm.RoadKit.slotOf Z "com/example/graph_job_runner/graphjobrunner/ClaimedNode" "failStrategy" "Lcom/example/graph_job_runner/graphjobrunner/FailStrategy;" ≠ Jvm.RoadKit.slotOf Z "com/example/graph_job_runner/graphjobrunner/ClaimedNode" "id" "J" := slot_ne (Or.inr (hw _ (List.mem_of_getElem? (i := 76) rfl))) (Or.inr (hw _ (List.mem_of_getElem? (i := 58) rfl))) (by decide) (t := (.object "com/example/graph_job_runner/graphjobrunner/FailStrategy")) (t' := .long) (by decide) (by decide)
theorem sn39 {Z : State} {a0 : Array Value} (hw : ∀ d ∈ tables_1, d.before a0 Z = true) : Jvm.RoadKit.slotOf Z "com/example/graph_job_runner/graphjobrunner/ClaimedNode" "failStrategy" "Lcom/example/graph_job_runner/graphjobrunner/FailStrategy;" ≠ Jvm.RoadKit.slotOf Z "com/example/graph_job_runner/graphjobrunner/ClaimedNode" "runKey" "Ljava/lang/String;" := slot_ne (Or.inr (hw _ (List.mem_of_getElem? (i := 76) rfl))) (Or.inr (hw _ (List.mem_of_getElem? (i := 60) rfl))) (by decide) (t := (.object "com/example/graph_job_runner/graphjobrunner/FailStrategy")) (t' := (.object "java/lang/String")) (by decide) (by decide)
theorem sn40 {Z : State} {a0 : Array Value} (hw : ∀ d ∈ tables_1, d.before a0 Z = true) : Jvm.RoadKit.slotOf Z "com/example/graph_job_runner/graphjobrunner/ClaimedNode" "failStrategy" "Lcom/example/graph_job_runner/graphjobrunner/FailStrategy;" ≠ Jvm.RoadKit.slotOf Z "com/example/graph_job_runner/graphjobrunner/ClaimedNode" "streamKey" "Ljava/lang/String;" := slot_ne (Or.inr (hw _ (List.mem_of_getElem? (i := 76) rfl))) (Or.inr (hw _ (List.mem_of_getElem? (i := 62) rfl))) (by decide) (t := (.object "com/example/graph_job_runner/graphjobrunner/FailStrategy")) (t' := (.object "java/lang/String")) (by decide) (by decide)
theorem sn41 {Z : State} {a0 : Array Value} (hw : ∀ d ∈ tables_1, d.before a0 Z = true) : Jvm.RoadKit.slotOf Z "com/example/graph_job_runner/graphjobrunner/ClaimedNode" "failStrategy" "Lcom/example/graph_job_runner/graphjobrunner/FailStrategy;" ≠ Jvm.RoadKit.slotOf Z "com/example/graph_job_runner/graphjobrunner/ClaimedNode" "position" "J" := slot_ne (Or.inr (hw _ (List.mem_of_getElem? (i := 76) rfl))) (Or.inr (hw _ (List.mem_of_getElem? (i := 64) rfl))) (by decide) (t := (.object "com/example/graph_job_runner/graphjobrunner/FailStrategy")) (t' := .long) (by decide) (by decide)
theorem sn42 {Z : State} {a0 : Array Value} (hw : ∀ d ∈ tables_1, d.before a0 Z = true) : Jvm.RoadKit.slotOf Z "com/example/graph_job_runner/graphjobrunner/ClaimedNode" "failStrategy" "Lcom/example/graph_job_runner/graphjobrunner/FailStrategy;" ≠ Jvm.RoadKit.slotOf Z "com/example/graph_job_runner/graphjobrunner/ClaimedNode" "nodeKey" "Ljava/lang/String;" := slot_ne (Or.inr (hw _ (List.mem_of_getElem? (i := 76) rfl))) (Or.inr (hw _ (List.mem_of_getElem? (i := 66) rfl))) (by decide) (t := (.object "com/example/graph_job_runner/graphjobrunner/FailStrategy")) (t' := (.object "java/lang/String")) (by decide) (by decide)
theorem sn43 {Z : State} {a0 : Array Value} (hw : ∀ d ∈ tables_1, d.before a0 Z = true) : Jvm.RoadKit.slotOf Z "com/example/graph_job_runner/graphjobrunner/ClaimedNode" "failStrategy" "Lcom/example/graph_job_runner/graphjobrunner/FailStrategy;" ≠ Jvm.RoadKit.slotOf Z "com/example/graph_job_runner/graphjobrunner/ClaimedNode" "processor" "Ljava/lang/String;" := slot_ne (Or.inr (hw _ (List.mem_of_getElem? (i := 76) rfl))) (Or.inr (hw _ (List.mem_of_getElem? (i := 68) rfl))) (by decide) (t := (.object "com/example/graph_job_runner/graphjobrunner/FailStrategy")) (t' := (.object "java/lang/String")) (by decide) (by decide)
theorem sn44 {Z : State} {a0 : Array Value} (hw : ∀ d ∈ tables_1, d.before a0 Z = true) : Jvm.RoadKit.slotOf Z "com/example/graph_job_runner/graphjobrunner/ClaimedNode" "failStrategy" "Lcom/example/graph_job_runner/graphjobrunner/FailStrategy;" ≠ Jvm.RoadKit.slotOf Z "com/example/graph_job_runner/graphjobrunner/ClaimedNode" "payload" "[B" := slot_ne (Or.inr (hw _ (List.mem_of_getElem? (i := 76) rfl))) (Or.inr (hw _ (List.mem_of_getElem? (i := 70) rfl))) (by decide) (t := (.object "com/example/graph_job_runner/graphjobrunner/FailStrategy")) (t' := (.array .byte)) (by decide) (by decide)
theorem sn45 {Z : State} {a0 : Array Value} (hw : ∀ d ∈ tables_1, d.before a0 Z = true) : Jvm.RoadKit.slotOf Z "com/example/graph_job_runner/graphjobrunner/ClaimedNode" "failStrategy" "Lcom/example/graph_job_runner/graphjobrunner/FailStrategy;" ≠ Jvm.RoadKit.slotOf Z "com/example/graph_job_runner/graphjobrunner/ClaimedNode" "attempt" "I" := slot_ne (Or.inr (hw _ (List.mem_of_getElem? (i := 76) rfl))) (Or.inr (hw _ (List.mem_of_getElem? (i := 72) rfl))) (by decide) (t := (.object "com/example/graph_job_runner/graphjobrunner/FailStrategy")) (t' := .int) (by decide) (by decide)
theorem sn46 {Z : State} {a0 : Array Value} (hw : ∀ d ∈ tables_1, d.before a0 Z = true) : Jvm.RoadKit.slotOf Z "com/example/graph_job_runner/graphjobrunner/ClaimedNode" "failStrategy" "Lcom/example/graph_job_runner/graphjobrunner/FailStrategy;" ≠ Jvm.RoadKit.slotOf Z "com/example/graph_job_runner/graphjobrunner/ClaimedNode" "retryLimit" "I" := slot_ne (Or.inr (hw _ (List.mem_of_getElem? (i := 76) rfl))) (Or.inr (hw _ (List.mem_of_getElem? (i := 74) rfl))) (by decide) (t := (.object "com/example/graph_job_runner/graphjobrunner/FailStrategy")) (t' := .int) (by decide) (by decide)
theorem d12_62 : decode prog_3_method_3_code 62 = .ok (.aload_n 0, 1) := by decide +kernel
theorem d12_63 : decode prog_3_method_3_code 63 = .ok (.iload 13, 2) := by decide +kernel
theorem d12_65 : decode prog_3_method_3_code 65 = .ok (.putfield 47, 3) := by decide +kernel
theorem sn47 {Z : State} {a0 : Array Value} (hw : ∀ d ∈ tables_1, d.before a0 Z = true) : Jvm.RoadKit.slotOf Z "com/example/graph_job_runner/graphjobrunner/ClaimedNode" "hasChildren" "Z" ≠ Jvm.RoadKit.slotOf Z "com/example/graph_job_runner/graphjobrunner/ClaimedNode" "id" "J" := slot_ne (Or.inr (hw _ (List.mem_of_getElem? (i := 78) rfl))) (Or.inr (hw _ (List.mem_of_getElem? (i := 58) rfl))) (by decide) (t := .boolean) (t' := .long) (by decide) (by decide)
theorem sn48 {Z : State} {a0 : Array Value} (hw : ∀ d ∈ tables_1, d.before a0 Z = true) : Jvm.RoadKit.slotOf Z "com/example/graph_job_runner/graphjobrunner/ClaimedNode" "hasChildren" "Z" ≠ Jvm.RoadKit.slotOf Z "com/example/graph_job_runner/graphjobrunner/ClaimedNode" "runKey" "Ljava/lang/String;" := slot_ne (Or.inr (hw _ (List.mem_of_getElem? (i := 78) rfl))) (Or.inr (hw _ (List.mem_of_getElem? (i := 60) rfl))) (by decide) (t := .boolean) (t' := (.object "java/lang/String")) (by decide) (by decide)
theorem sn49 {Z : State} {a0 : Array Value} (hw : ∀ d ∈ tables_1, d.before a0 Z = true) : Jvm.RoadKit.slotOf Z "com/example/graph_job_runner/graphjobrunner/ClaimedNode" "hasChildren" "Z" ≠ Jvm.RoadKit.slotOf Z "com/example/graph_job_runner/graphjobrunner/ClaimedNode" "streamKey" "Ljava/lang/String;" := slot_ne (Or.inr (hw _ (List.mem_of_getElem? (i := 78) rfl))) (Or.inr (hw _ (List.mem_of_getElem? (i := 62) rfl))) (by decide) (t := .boolean) (t' := (.object "java/lang/String")) (by decide) (by decide)
theorem sn50 {Z : State} {a0 : Array Value} (hw : ∀ d ∈ tables_1, d.before a0 Z = true) : Jvm.RoadKit.slotOf Z "com/example/graph_job_runner/graphjobrunner/ClaimedNode" "hasChildren" "Z" ≠ Jvm.RoadKit.slotOf Z "com/example/graph_job_runner/graphjobrunner/ClaimedNode" "position" "J" := slot_ne (Or.inr (hw _ (List.mem_of_getElem? (i := 78) rfl))) (Or.inr (hw _ (List.mem_of_getElem? (i := 64) rfl))) (by decide) (t := .boolean) (t' := .long) (by decide) (by decide)
theorem sn51 {Z : State} {a0 : Array Value} (hw : ∀ d ∈ tables_1, d.before a0 Z = true) : Jvm.RoadKit.slotOf Z "com/example/graph_job_runner/graphjobrunner/ClaimedNode" "hasChildren" "Z" ≠ Jvm.RoadKit.slotOf Z "com/example/graph_job_runner/graphjobrunner/ClaimedNode" "nodeKey" "Ljava/lang/String;" := slot_ne (Or.inr (hw _ (List.mem_of_getElem? (i := 78) rfl))) (Or.inr (hw _ (List.mem_of_getElem? (i := 66) rfl))) (by decide) (t := .boolean) (t' := (.object "java/lang/String")) (by decide) (by decide)
theorem sn52 {Z : State} {a0 : Array Value} (hw : ∀ d ∈ tables_1, d.before a0 Z = true) : Jvm.RoadKit.slotOf Z "com/example/graph_job_runner/graphjobrunner/ClaimedNode" "hasChildren" "Z" ≠ Jvm.RoadKit.slotOf Z "com/example/graph_job_runner/graphjobrunner/ClaimedNode" "processor" "Ljava/lang/String;" := slot_ne (Or.inr (hw _ (List.mem_of_getElem? (i := 78) rfl))) (Or.inr (hw _ (List.mem_of_getElem? (i := 68) rfl))) (by decide) (t := .boolean) (t' := (.object "java/lang/String")) (by decide) (by decide)
theorem sn53 {Z : State} {a0 : Array Value} (hw : ∀ d ∈ tables_1, d.before a0 Z = true) : Jvm.RoadKit.slotOf Z "com/example/graph_job_runner/graphjobrunner/ClaimedNode" "hasChildren" "Z" ≠ Jvm.RoadKit.slotOf Z "com/example/graph_job_runner/graphjobrunner/ClaimedNode" "payload" "[B" := slot_ne (Or.inr (hw _ (List.mem_of_getElem? (i := 78) rfl))) (Or.inr (hw _ (List.mem_of_getElem? (i := 70) rfl))) (by decide) (t := .boolean) (t' := (.array .byte)) (by decide) (by decide)
theorem sn54 {Z : State} {a0 : Array Value} (hw : ∀ d ∈ tables_1, d.before a0 Z = true) : Jvm.RoadKit.slotOf Z "com/example/graph_job_runner/graphjobrunner/ClaimedNode" "hasChildren" "Z" ≠ Jvm.RoadKit.slotOf Z "com/example/graph_job_runner/graphjobrunner/ClaimedNode" "attempt" "I" := slot_ne (Or.inr (hw _ (List.mem_of_getElem? (i := 78) rfl))) (Or.inr (hw _ (List.mem_of_getElem? (i := 72) rfl))) (by decide) (t := .boolean) (t' := .int) (by decide) (by decide)
theorem sn55 {Z : State} {a0 : Array Value} (hw : ∀ d ∈ tables_1, d.before a0 Z = true) : Jvm.RoadKit.slotOf Z "com/example/graph_job_runner/graphjobrunner/ClaimedNode" "hasChildren" "Z" ≠ Jvm.RoadKit.slotOf Z "com/example/graph_job_runner/graphjobrunner/ClaimedNode" "retryLimit" "I" := slot_ne (Or.inr (hw _ (List.mem_of_getElem? (i := 78) rfl))) (Or.inr (hw _ (List.mem_of_getElem? (i := 74) rfl))) (by decide) (t := .boolean) (t' := .int) (by decide) (by decide)
theorem sn56 {Z : State} {a0 : Array Value} (hw : ∀ d ∈ tables_1, d.before a0 Z = true) : Jvm.RoadKit.slotOf Z "com/example/graph_job_runner/graphjobrunner/ClaimedNode" "hasChildren" "Z" ≠ Jvm.RoadKit.slotOf Z "com/example/graph_job_runner/graphjobrunner/ClaimedNode" "failStrategy" "Lcom/example/graph_job_runner/graphjobrunner/FailStrategy;" := slot_ne (Or.inr (hw _ (List.mem_of_getElem? (i := 78) rfl))) (Or.inr (hw _ (List.mem_of_getElem? (i := 76) rfl))) (by decide) (t := .boolean) (t' := (.object "com/example/graph_job_runner/graphjobrunner/FailStrategy")) (by decide) (by decide)
theorem d12_68 : decode prog_3_method_3_code 68 = .ok (.return_, 1) := by decide +kernel
theorem sn57 {Z : State} {a0 : Array Value} (hw : ∀ d ∈ tables_1, d.before a0 Z = true) : Jvm.RoadKit.slotOf Z "com/example/graph_job_runner/graphjobrunner/ClaimedNode" "attempt" "I" ≠ Jvm.RoadKit.slotOf Z "com/example/graph_job_runner/graphjobrunner/ClaimedNode" "retryLimit" "I" := slot_ne (Or.inr (hw _ (List.mem_of_getElem? (i := 72) rfl))) (Or.inr (hw _ (List.mem_of_getElem? (i := 74) rfl))) (by decide) (t := .int) (t' := .int) (by decide) (by decide)
theorem sn58 {Z : State} {a0 : Array Value} (hw : ∀ d ∈ tables_1, d.before a0 Z = true) : Jvm.RoadKit.slotOf Z "com/example/graph_job_runner/graphjobrunner/ClaimedNode" "attempt" "I" ≠ Jvm.RoadKit.slotOf Z "com/example/graph_job_runner/graphjobrunner/ClaimedNode" "failStrategy" "Lcom/example/graph_job_runner/graphjobrunner/FailStrategy;" := slot_ne (Or.inr (hw _ (List.mem_of_getElem? (i := 72) rfl))) (Or.inr (hw _ (List.mem_of_getElem? (i := 76) rfl))) (by decide) (t := .int) (t' := (.object "com/example/graph_job_runner/graphjobrunner/FailStrategy")) (by decide) (by decide)
theorem sn59 {Z : State} {a0 : Array Value} (hw : ∀ d ∈ tables_1, d.before a0 Z = true) : Jvm.RoadKit.slotOf Z "com/example/graph_job_runner/graphjobrunner/ClaimedNode" "attempt" "I" ≠ Jvm.RoadKit.slotOf Z "com/example/graph_job_runner/graphjobrunner/ClaimedNode" "hasChildren" "Z" := slot_ne (Or.inr (hw _ (List.mem_of_getElem? (i := 72) rfl))) (Or.inr (hw _ (List.mem_of_getElem? (i := 78) rfl))) (by decide) (t := .int) (t' := .boolean) (by decide) (by decide)
theorem sn60 {Z : State} {a0 : Array Value} (hw : ∀ d ∈ tables_1, d.before a0 Z = true) : Jvm.RoadKit.slotOf Z "com/example/graph_job_runner/graphjobrunner/ClaimedNode" "failStrategy" "Lcom/example/graph_job_runner/graphjobrunner/FailStrategy;" ≠ Jvm.RoadKit.slotOf Z "com/example/graph_job_runner/graphjobrunner/ClaimedNode" "hasChildren" "Z" := slot_ne (Or.inr (hw _ (List.mem_of_getElem? (i := 76) rfl))) (Or.inr (hw _ (List.mem_of_getElem? (i := 78) rfl))) (by decide) (t := (.object "com/example/graph_job_runner/graphjobrunner/FailStrategy")) (t' := .boolean) (by decide) (by decide)
theorem sn61 {Z : State} {a0 : Array Value} (hw : ∀ d ∈ tables_1, d.before a0 Z = true) : Jvm.RoadKit.slotOf Z "com/example/graph_job_runner/graphjobrunner/ClaimedNode" "id" "J" ≠ Jvm.RoadKit.slotOf Z "com/example/graph_job_runner/graphjobrunner/ClaimedNode" "runKey" "Ljava/lang/String;" := slot_ne (Or.inr (hw _ (List.mem_of_getElem? (i := 58) rfl))) (Or.inr (hw _ (List.mem_of_getElem? (i := 60) rfl))) (by decide) (t := .long) (t' := (.object "java/lang/String")) (by decide) (by decide)
theorem sn62 {Z : State} {a0 : Array Value} (hw : ∀ d ∈ tables_1, d.before a0 Z = true) : Jvm.RoadKit.slotOf Z "com/example/graph_job_runner/graphjobrunner/ClaimedNode" "id" "J" ≠ Jvm.RoadKit.slotOf Z "com/example/graph_job_runner/graphjobrunner/ClaimedNode" "streamKey" "Ljava/lang/String;" := slot_ne (Or.inr (hw _ (List.mem_of_getElem? (i := 58) rfl))) (Or.inr (hw _ (List.mem_of_getElem? (i := 62) rfl))) (by decide) (t := .long) (t' := (.object "java/lang/String")) (by decide) (by decide)
theorem sn63 {Z : State} {a0 : Array Value} (hw : ∀ d ∈ tables_1, d.before a0 Z = true) : Jvm.RoadKit.slotOf Z "com/example/graph_job_runner/graphjobrunner/ClaimedNode" "id" "J" ≠ Jvm.RoadKit.slotOf Z "com/example/graph_job_runner/graphjobrunner/ClaimedNode" "position" "J" := slot_ne (Or.inr (hw _ (List.mem_of_getElem? (i := 58) rfl))) (Or.inr (hw _ (List.mem_of_getElem? (i := 64) rfl))) (by decide) (t := .long) (t' := .long) (by decide) (by decide)
theorem sn64 {Z : State} {a0 : Array Value} (hw : ∀ d ∈ tables_1, d.before a0 Z = true) : Jvm.RoadKit.slotOf Z "com/example/graph_job_runner/graphjobrunner/ClaimedNode" "id" "J" ≠ Jvm.RoadKit.slotOf Z "com/example/graph_job_runner/graphjobrunner/ClaimedNode" "nodeKey" "Ljava/lang/String;" := slot_ne (Or.inr (hw _ (List.mem_of_getElem? (i := 58) rfl))) (Or.inr (hw _ (List.mem_of_getElem? (i := 66) rfl))) (by decide) (t := .long) (t' := (.object "java/lang/String")) (by decide) (by decide)
theorem sn65 {Z : State} {a0 : Array Value} (hw : ∀ d ∈ tables_1, d.before a0 Z = true) : Jvm.RoadKit.slotOf Z "com/example/graph_job_runner/graphjobrunner/ClaimedNode" "id" "J" ≠ Jvm.RoadKit.slotOf Z "com/example/graph_job_runner/graphjobrunner/ClaimedNode" "processor" "Ljava/lang/String;" := slot_ne (Or.inr (hw _ (List.mem_of_getElem? (i := 58) rfl))) (Or.inr (hw _ (List.mem_of_getElem? (i := 68) rfl))) (by decide) (t := .long) (t' := (.object "java/lang/String")) (by decide) (by decide)
theorem sn66 {Z : State} {a0 : Array Value} (hw : ∀ d ∈ tables_1, d.before a0 Z = true) : Jvm.RoadKit.slotOf Z "com/example/graph_job_runner/graphjobrunner/ClaimedNode" "id" "J" ≠ Jvm.RoadKit.slotOf Z "com/example/graph_job_runner/graphjobrunner/ClaimedNode" "payload" "[B" := slot_ne (Or.inr (hw _ (List.mem_of_getElem? (i := 58) rfl))) (Or.inr (hw _ (List.mem_of_getElem? (i := 70) rfl))) (by decide) (t := .long) (t' := (.array .byte)) (by decide) (by decide)
theorem sn67 {Z : State} {a0 : Array Value} (hw : ∀ d ∈ tables_1, d.before a0 Z = true) : Jvm.RoadKit.slotOf Z "com/example/graph_job_runner/graphjobrunner/ClaimedNode" "id" "J" ≠ Jvm.RoadKit.slotOf Z "com/example/graph_job_runner/graphjobrunner/ClaimedNode" "attempt" "I" := slot_ne (Or.inr (hw _ (List.mem_of_getElem? (i := 58) rfl))) (Or.inr (hw _ (List.mem_of_getElem? (i := 72) rfl))) (by decide) (t := .long) (t' := .int) (by decide) (by decide)
theorem sn68 {Z : State} {a0 : Array Value} (hw : ∀ d ∈ tables_1, d.before a0 Z = true) : Jvm.RoadKit.slotOf Z "com/example/graph_job_runner/graphjobrunner/ClaimedNode" "id" "J" ≠ Jvm.RoadKit.slotOf Z "com/example/graph_job_runner/graphjobrunner/ClaimedNode" "retryLimit" "I" := slot_ne (Or.inr (hw _ (List.mem_of_getElem? (i := 58) rfl))) (Or.inr (hw _ (List.mem_of_getElem? (i := 74) rfl))) (by decide) (t := .long) (t' := .int) (by decide) (by decide)
theorem sn69 {Z : State} {a0 : Array Value} (hw : ∀ d ∈ tables_1, d.before a0 Z = true) : Jvm.RoadKit.slotOf Z "com/example/graph_job_runner/graphjobrunner/ClaimedNode" "id" "J" ≠ Jvm.RoadKit.slotOf Z "com/example/graph_job_runner/graphjobrunner/ClaimedNode" "failStrategy" "Lcom/example/graph_job_runner/graphjobrunner/FailStrategy;" := slot_ne (Or.inr (hw _ (List.mem_of_getElem? (i := 58) rfl))) (Or.inr (hw _ (List.mem_of_getElem? (i := 76) rfl))) (by decide) (t := .long) (t' := (.object "com/example/graph_job_runner/graphjobrunner/FailStrategy")) (by decide) (by decide)
theorem sn70 {Z : State} {a0 : Array Value} (hw : ∀ d ∈ tables_1, d.before a0 Z = true) : Jvm.RoadKit.slotOf Z "com/example/graph_job_runner/graphjobrunner/ClaimedNode" "id" "J" ≠ Jvm.RoadKit.slotOf Z "com/example/graph_job_runner/graphjobrunner/ClaimedNode" "hasChildren" "Z" := slot_ne (Or.inr (hw _ (List.mem_of_getElem? (i := 58) rfl))) (Or.inr (hw _ (List.mem_of_getElem? (i := 78) rfl))) (by decide) (t := .long) (t' := .boolean) (by decide) (by decide)
theorem sn71 {Z : State} {a0 : Array Value} (hw : ∀ d ∈ tables_1, d.before a0 Z = true) : Jvm.RoadKit.slotOf Z "com/example/graph_job_runner/graphjobrunner/ClaimedNode" "nodeKey" "Ljava/lang/String;" ≠ Jvm.RoadKit.slotOf Z "com/example/graph_job_runner/graphjobrunner/ClaimedNode" "processor" "Ljava/lang/String;" := slot_ne (Or.inr (hw _ (List.mem_of_getElem? (i := 66) rfl))) (Or.inr (hw _ (List.mem_of_getElem? (i := 68) rfl))) (by decide) (t := (.object "java/lang/String")) (t' := (.object "java/lang/String")) (by decide) (by decide)
theorem sn72 {Z : State} {a0 : Array Value} (hw : ∀ d ∈ tables_1, d.before a0 Z = true) : Jvm.RoadKit.slotOf Z "com/example/graph_job_runner/graphjobrunner/ClaimedNode" "nodeKey" "Ljava/lang/String;" ≠ Jvm.RoadKit.slotOf Z "com/example/graph_job_runner/graphjobrunner/ClaimedNode" "payload" "[B" := slot_ne (Or.inr (hw _ (List.mem_of_getElem? (i := 66) rfl))) (Or.inr (hw _ (List.mem_of_getElem? (i := 70) rfl))) (by decide) (t := (.object "java/lang/String")) (t' := (.array .byte)) (by decide) (by decide)
theorem sn73 {Z : State} {a0 : Array Value} (hw : ∀ d ∈ tables_1, d.before a0 Z = true) : Jvm.RoadKit.slotOf Z "com/example/graph_job_runner/graphjobrunner/ClaimedNode" "nodeKey" "Ljava/lang/String;" ≠ Jvm.RoadKit.slotOf Z "com/example/graph_job_runner/graphjobrunner/ClaimedNode" "attempt" "I" := slot_ne (Or.inr (hw _ (List.mem_of_getElem? (i := 66) rfl))) (Or.inr (hw _ (List.mem_of_getElem? (i := 72) rfl))) (by decide) (t := (.object "java/lang/String")) (t' := .int) (by decide) (by decide)
theorem sn74 {Z : State} {a0 : Array Value} (hw : ∀ d ∈ tables_1, d.before a0 Z = true) : Jvm.RoadKit.slotOf Z "com/example/graph_job_runner/graphjobrunner/ClaimedNode" "nodeKey" "Ljava/lang/String;" ≠ Jvm.RoadKit.slotOf Z "com/example/graph_job_runner/graphjobrunner/ClaimedNode" "retryLimit" "I" := slot_ne (Or.inr (hw _ (List.mem_of_getElem? (i := 66) rfl))) (Or.inr (hw _ (List.mem_of_getElem? (i := 74) rfl))) (by decide) (t := (.object "java/lang/String")) (t' := .int) (by decide) (by decide)
theorem sn75 {Z : State} {a0 : Array Value} (hw : ∀ d ∈ tables_1, d.before a0 Z = true) : Jvm.RoadKit.slotOf Z "com/example/graph_job_runner/graphjobrunner/ClaimedNode" "nodeKey" "Ljava/lang/String;" ≠ Jvm.RoadKit.slotOf Z "com/example/graph_job_runner/graphjobrunner/ClaimedNode" "failStrategy" "Lcom/example/graph_job_runner/graphjobrunner/FailStrategy;" := slot_ne (Or.inr (hw _ (List.mem_of_getElem? (i := 66) rfl))) (Or.inr (hw _ (List.mem_of_getElem? (i := 76) rfl))) (by decide) (t := (.object "java/lang/String")) (t' := (.object "com/example/graph_job_runner/graphjobrunner/FailStrategy")) (by decide) (by decide)
theorem sn76 {Z : State} {a0 : Array Value} (hw : ∀ d ∈ tables_1, d.before a0 Z = true) : Jvm.RoadKit.slotOf Z "com/example/graph_job_runner/graphjobrunner/ClaimedNode" "nodeKey" "Ljava/lang/String;" ≠ Jvm.RoadKit.slotOf Z "com/example/graph_job_runner/graphjobrunner/ClaimedNode" "hasChildren" "Z" := slot_ne (Or.inr (hw _ (List.mem_of_getElem? (i := 66) rfl))) (Or.inr (hw _ (List.mem_of_getElem? (i := 78) rfl))) (by decide) (t := (.object "java/lang/String")) (t' := .boolean) (by decide) (by decide)
theorem sn77 {Z : State} {a0 : Array Value} (hw : ∀ d ∈ tables_1, d.before a0 Z = true) : Jvm.RoadKit.slotOf Z "com/example/graph_job_runner/graphjobrunner/ClaimedNode" "payload" "[B" ≠ Jvm.RoadKit.slotOf Z "com/example/graph_job_runner/graphjobrunner/ClaimedNode" "attempt" "I" := slot_ne (Or.inr (hw _ (List.mem_of_getElem? (i := 70) rfl))) (Or.inr (hw _ (List.mem_of_getElem? (i := 72) rfl))) (by decide) (t := (.array .byte)) (t' := .int) (by decide) (by decide)
theorem sn78 {Z : State} {a0 : Array Value} (hw : ∀ d ∈ tables_1, d.before a0 Z = true) : Jvm.RoadKit.slotOf Z "com/example/graph_job_runner/graphjobrunner/ClaimedNode" "payload" "[B" ≠ Jvm.RoadKit.slotOf Z "com/example/graph_job_runner/graphjobrunner/ClaimedNode" "retryLimit" "I" := slot_ne (Or.inr (hw _ (List.mem_of_getElem? (i := 70) rfl))) (Or.inr (hw _ (List.mem_of_getElem? (i := 74) rfl))) (by decide) (t := (.array .byte)) (t' := .int) (by decide) (by decide)
theorem sn79 {Z : State} {a0 : Array Value} (hw : ∀ d ∈ tables_1, d.before a0 Z = true) : Jvm.RoadKit.slotOf Z "com/example/graph_job_runner/graphjobrunner/ClaimedNode" "payload" "[B" ≠ Jvm.RoadKit.slotOf Z "com/example/graph_job_runner/graphjobrunner/ClaimedNode" "failStrategy" "Lcom/example/graph_job_runner/graphjobrunner/FailStrategy;" := slot_ne (Or.inr (hw _ (List.mem_of_getElem? (i := 70) rfl))) (Or.inr (hw _ (List.mem_of_getElem? (i := 76) rfl))) (by decide) (t := (.array .byte)) (t' := (.object "com/example/graph_job_runner/graphjobrunner/FailStrategy")) (by decide) (by decide)
theorem sn80 {Z : State} {a0 : Array Value} (hw : ∀ d ∈ tables_1, d.before a0 Z = true) : Jvm.RoadKit.slotOf Z "com/example/graph_job_runner/graphjobrunner/ClaimedNode" "payload" "[B" ≠ Jvm.RoadKit.slotOf Z "com/example/graph_job_runner/graphjobrunner/ClaimedNode" "hasChildren" "Z" := slot_ne (Or.inr (hw _ (List.mem_of_getElem? (i := 70) rfl))) (Or.inr (hw _ (List.mem_of_getElem? (i := 78) rfl))) (by decide) (t := (.array .byte)) (t' := .boolean) (by decide) (by decide)
theorem sn81 {Z : State} {a0 : Array Value} (hw : ∀ d ∈ tables_1, d.before a0 Z = true) : Jvm.RoadKit.slotOf Z "com/example/graph_job_runner/graphjobrunner/ClaimedNode" "position" "J" ≠ Jvm.RoadKit.slotOf Z "com/example/graph_job_runner/graphjobrunner/ClaimedNode" "nodeKey" "Ljava/lang/String;" := slot_ne (Or.inr (hw _ (List.mem_of_getElem? (i := 64) rfl))) (Or.inr (hw _ (List.mem_of_getElem? (i := 66) rfl))) (by decide) (t := .long) (t' := (.object "java/lang/String")) (by decide) (by decide)
theorem sn82 {Z : State} {a0 : Array Value} (hw : ∀ d ∈ tables_1, d.before a0 Z = true) : Jvm.RoadKit.slotOf Z "com/example/graph_job_runner/graphjobrunner/ClaimedNode" "position" "J" ≠ Jvm.RoadKit.slotOf Z "com/example/graph_job_runner/graphjobrunner/ClaimedNode" "processor" "Ljava/lang/String;" := slot_ne (Or.inr (hw _ (List.mem_of_getElem? (i := 64) rfl))) (Or.inr (hw _ (List.mem_of_getElem? (i := 68) rfl))) (by decide) (t := .long) (t' := (.object "java/lang/String")) (by decide) (by decide)
theorem sn83 {Z : State} {a0 : Array Value} (hw : ∀ d ∈ tables_1, d.before a0 Z = true) : Jvm.RoadKit.slotOf Z "com/example/graph_job_runner/graphjobrunner/ClaimedNode" "position" "J" ≠ Jvm.RoadKit.slotOf Z "com/example/graph_job_runner/graphjobrunner/ClaimedNode" "payload" "[B" := slot_ne (Or.inr (hw _ (List.mem_of_getElem? (i := 64) rfl))) (Or.inr (hw _ (List.mem_of_getElem? (i := 70) rfl))) (by decide) (t := .long) (t' := (.array .byte)) (by decide) (by decide)
theorem sn84 {Z : State} {a0 : Array Value} (hw : ∀ d ∈ tables_1, d.before a0 Z = true) : Jvm.RoadKit.slotOf Z "com/example/graph_job_runner/graphjobrunner/ClaimedNode" "position" "J" ≠ Jvm.RoadKit.slotOf Z "com/example/graph_job_runner/graphjobrunner/ClaimedNode" "attempt" "I" := slot_ne (Or.inr (hw _ (List.mem_of_getElem? (i := 64) rfl))) (Or.inr (hw _ (List.mem_of_getElem? (i := 72) rfl))) (by decide) (t := .long) (t' := .int) (by decide) (by decide)
theorem sn85 {Z : State} {a0 : Array Value} (hw : ∀ d ∈ tables_1, d.before a0 Z = true) : Jvm.RoadKit.slotOf Z "com/example/graph_job_runner/graphjobrunner/ClaimedNode" "position" "J" ≠ Jvm.RoadKit.slotOf Z "com/example/graph_job_runner/graphjobrunner/ClaimedNode" "retryLimit" "I" := slot_ne (Or.inr (hw _ (List.mem_of_getElem? (i := 64) rfl))) (Or.inr (hw _ (List.mem_of_getElem? (i := 74) rfl))) (by decide) (t := .long) (t' := .int) (by decide) (by decide)
theorem sn86 {Z : State} {a0 : Array Value} (hw : ∀ d ∈ tables_1, d.before a0 Z = true) : Jvm.RoadKit.slotOf Z "com/example/graph_job_runner/graphjobrunner/ClaimedNode" "position" "J" ≠ Jvm.RoadKit.slotOf Z "com/example/graph_job_runner/graphjobrunner/ClaimedNode" "failStrategy" "Lcom/example/graph_job_runner/graphjobrunner/FailStrategy;" := slot_ne (Or.inr (hw _ (List.mem_of_getElem? (i := 64) rfl))) (Or.inr (hw _ (List.mem_of_getElem? (i := 76) rfl))) (by decide) (t := .long) (t' := (.object "com/example/graph_job_runner/graphjobrunner/FailStrategy")) (by decide) (by decide)
theorem sn87 {Z : State} {a0 : Array Value} (hw : ∀ d ∈ tables_1, d.before a0 Z = true) : Jvm.RoadKit.slotOf Z "com/example/graph_job_runner/graphjobrunner/ClaimedNode" "position" "J" ≠ Jvm.RoadKit.slotOf Z "com/example/graph_job_runner/graphjobrunner/ClaimedNode" "hasChildren" "Z" := slot_ne (Or.inr (hw _ (List.mem_of_getElem? (i := 64) rfl))) (Or.inr (hw _ (List.mem_of_getElem? (i := 78) rfl))) (by decide) (t := .long) (t' := .boolean) (by decide) (by decide)
theorem sn88 {Z : State} {a0 : Array Value} (hw : ∀ d ∈ tables_1, d.before a0 Z = true) : Jvm.RoadKit.slotOf Z "com/example/graph_job_runner/graphjobrunner/ClaimedNode" "processor" "Ljava/lang/String;" ≠ Jvm.RoadKit.slotOf Z "com/example/graph_job_runner/graphjobrunner/ClaimedNode" "payload" "[B" := slot_ne (Or.inr (hw _ (List.mem_of_getElem? (i := 68) rfl))) (Or.inr (hw _ (List.mem_of_getElem? (i := 70) rfl))) (by decide) (t := (.object "java/lang/String")) (t' := (.array .byte)) (by decide) (by decide)
theorem sn89 {Z : State} {a0 : Array Value} (hw : ∀ d ∈ tables_1, d.before a0 Z = true) : Jvm.RoadKit.slotOf Z "com/example/graph_job_runner/graphjobrunner/ClaimedNode" "processor" "Ljava/lang/String;" ≠ Jvm.RoadKit.slotOf Z "com/example/graph_job_runner/graphjobrunner/ClaimedNode" "attempt" "I" := slot_ne (Or.inr (hw _ (List.mem_of_getElem? (i := 68) rfl))) (Or.inr (hw _ (List.mem_of_getElem? (i := 72) rfl))) (by decide) (t := (.object "java/lang/String")) (t' := .int) (by decide) (by decide)
theorem sn90 {Z : State} {a0 : Array Value} (hw : ∀ d ∈ tables_1, d.before a0 Z = true) : Jvm.RoadKit.slotOf Z "com/example/graph_job_runner/graphjobrunner/ClaimedNode" "processor" "Ljava/lang/String;" ≠ Jvm.RoadKit.slotOf Z "com/example/graph_job_runner/graphjobrunner/ClaimedNode" "retryLimit" "I" := slot_ne (Or.inr (hw _ (List.mem_of_getElem? (i := 68) rfl))) (Or.inr (hw _ (List.mem_of_getElem? (i := 74) rfl))) (by decide) (t := (.object "java/lang/String")) (t' := .int) (by decide) (by decide)
theorem sn91 {Z : State} {a0 : Array Value} (hw : ∀ d ∈ tables_1, d.before a0 Z = true) : Jvm.RoadKit.slotOf Z "com/example/graph_job_runner/graphjobrunner/ClaimedNode" "processor" "Ljava/lang/String;" ≠ Jvm.RoadKit.slotOf Z "com/example/graph_job_runner/graphjobrunner/ClaimedNode" "failStrategy" "Lcom/example/graph_job_runner/graphjobrunner/FailStrategy;" := slot_ne (Or.inr (hw _ (List.mem_of_getElem? (i := 68) rfl))) (Or.inr (hw _ (List.mem_of_getElem? (i := 76) rfl))) (by decide) (t := (.object "java/lang/String")) (t' := (.object "com/example/graph_job_runner/graphjobrunner/FailStrategy")) (by decide) (by decide)
theorem sn92 {Z : State} {a0 : Array Value} (hw : ∀ d ∈ tables_1, d.before a0 Z = true) : Jvm.RoadKit.slotOf Z "com/example/graph_job_runner/graphjobrunner/ClaimedNode" "processor" "Ljava/lang/String;" ≠ Jvm.RoadKit.slotOf Z "com/example/graph_job_runner/graphjobrunner/ClaimedNode" "hasChildren" "Z" := slot_ne (Or.inr (hw _ (List.mem_of_getElem? (i := 68) rfl))) (Or.inr (hw _ (List.mem_of_getElem? (i := 78) rfl))) (by decide) (t := (.object "java/lang/String")) (t' := .boolean) (by decide) (by decide)
theorem sn93 {Z : State} {a0 : Array Value} (hw : ∀ d ∈ tables_1, d.before a0 Z = true) : Jvm.RoadKit.slotOf Z "com/example/graph_job_runner/graphjobrunner/ClaimedNode" "retryLimit" "I" ≠ Jvm.RoadKit.slotOf Z "com/example/graph_job_runner/graphjobrunner/ClaimedNode" "failStrategy" "Lcom/example/graph_job_runner/graphjobrunner/FailStrategy;" := slot_ne (Or.inr (hw _ (List.mem_of_getElem? (i := 74) rfl))) (Or.inr (hw _ (List.mem_of_getElem? (i := 76) rfl))) (by decide) (t := .int) (t' := (.object "com/example/graph_job_runner/graphjobrunner/FailStrategy")) (by decide) (by decide)
theorem sn94 {Z : State} {a0 : Array Value} (hw : ∀ d ∈ tables_1, d.before a0 Z = true) : Jvm.RoadKit.slotOf Z "com/example/graph_job_runner/graphjobrunner/ClaimedNode" "retryLimit" "I" ≠ Jvm.RoadKit.slotOf Z "com/example/graph_job_runner/graphjobrunner/ClaimedNode" "hasChildren" "Z" := slot_ne (Or.inr (hw _ (List.mem_of_getElem? (i := 74) rfl))) (Or.inr (hw _ (List.mem_of_getElem? (i := 78) rfl))) (by decide) (t := .int) (t' := .boolean) (by decide) (by decide)
theorem sn95 {Z : State} {a0 : Array Value} (hw : ∀ d ∈ tables_1, d.before a0 Z = true) : Jvm.RoadKit.slotOf Z "com/example/graph_job_runner/graphjobrunner/ClaimedNode" "runKey" "Ljava/lang/String;" ≠ Jvm.RoadKit.slotOf Z "com/example/graph_job_runner/graphjobrunner/ClaimedNode" "streamKey" "Ljava/lang/String;" := slot_ne (Or.inr (hw _ (List.mem_of_getElem? (i := 60) rfl))) (Or.inr (hw _ (List.mem_of_getElem? (i := 62) rfl))) (by decide) (t := (.object "java/lang/String")) (t' := (.object "java/lang/String")) (by decide) (by decide)
theorem sn96 {Z : State} {a0 : Array Value} (hw : ∀ d ∈ tables_1, d.before a0 Z = true) : Jvm.RoadKit.slotOf Z "com/example/graph_job_runner/graphjobrunner/ClaimedNode" "runKey" "Ljava/lang/String;" ≠ Jvm.RoadKit.slotOf Z "com/example/graph_job_runner/graphjobrunner/ClaimedNode" "position" "J" := slot_ne (Or.inr (hw _ (List.mem_of_getElem? (i := 60) rfl))) (Or.inr (hw _ (List.mem_of_getElem? (i := 64) rfl))) (by decide) (t := (.object "java/lang/String")) (t' := .long) (by decide) (by decide)
theorem sn97 {Z : State} {a0 : Array Value} (hw : ∀ d ∈ tables_1, d.before a0 Z = true) : Jvm.RoadKit.slotOf Z "com/example/graph_job_runner/graphjobrunner/ClaimedNode" "runKey" "Ljava/lang/String;" ≠ Jvm.RoadKit.slotOf Z "com/example/graph_job_runner/graphjobrunner/ClaimedNode" "nodeKey" "Ljava/lang/String;" := slot_ne (Or.inr (hw _ (List.mem_of_getElem? (i := 60) rfl))) (Or.inr (hw _ (List.mem_of_getElem? (i := 66) rfl))) (by decide) (t := (.object "java/lang/String")) (t' := (.object "java/lang/String")) (by decide) (by decide)
theorem sn98 {Z : State} {a0 : Array Value} (hw : ∀ d ∈ tables_1, d.before a0 Z = true) : Jvm.RoadKit.slotOf Z "com/example/graph_job_runner/graphjobrunner/ClaimedNode" "runKey" "Ljava/lang/String;" ≠ Jvm.RoadKit.slotOf Z "com/example/graph_job_runner/graphjobrunner/ClaimedNode" "processor" "Ljava/lang/String;" := slot_ne (Or.inr (hw _ (List.mem_of_getElem? (i := 60) rfl))) (Or.inr (hw _ (List.mem_of_getElem? (i := 68) rfl))) (by decide) (t := (.object "java/lang/String")) (t' := (.object "java/lang/String")) (by decide) (by decide)
theorem sn99 {Z : State} {a0 : Array Value} (hw : ∀ d ∈ tables_1, d.before a0 Z = true) : Jvm.RoadKit.slotOf Z "com/example/graph_job_runner/graphjobrunner/ClaimedNode" "runKey" "Ljava/lang/String;" ≠ Jvm.RoadKit.slotOf Z "com/example/graph_job_runner/graphjobrunner/ClaimedNode" "payload" "[B" := slot_ne (Or.inr (hw _ (List.mem_of_getElem? (i := 60) rfl))) (Or.inr (hw _ (List.mem_of_getElem? (i := 70) rfl))) (by decide) (t := (.object "java/lang/String")) (t' := (.array .byte)) (by decide) (by decide)
theorem sn100 {Z : State} {a0 : Array Value} (hw : ∀ d ∈ tables_1, d.before a0 Z = true) : Jvm.RoadKit.slotOf Z "com/example/graph_job_runner/graphjobrunner/ClaimedNode" "runKey" "Ljava/lang/String;" ≠ Jvm.RoadKit.slotOf Z "com/example/graph_job_runner/graphjobrunner/ClaimedNode" "attempt" "I" := slot_ne (Or.inr (hw _ (List.mem_of_getElem? (i := 60) rfl))) (Or.inr (hw _ (List.mem_of_getElem? (i := 72) rfl))) (by decide) (t := (.object "java/lang/String")) (t' := .int) (by decide) (by decide)
theorem sn101 {Z : State} {a0 : Array Value} (hw : ∀ d ∈ tables_1, d.before a0 Z = true) : Jvm.RoadKit.slotOf Z "com/example/graph_job_runner/graphjobrunner/ClaimedNode" "runKey" "Ljava/lang/String;" ≠ Jvm.RoadKit.slotOf Z "com/example/graph_job_runner/graphjobrunner/ClaimedNode" "retryLimit" "I" := slot_ne (Or.inr (hw _ (List.mem_of_getElem? (i := 60) rfl))) (Or.inr (hw _ (List.mem_of_getElem? (i := 74) rfl))) (by decide) (t := (.object "java/lang/String")) (t' := .int) (by decide) (by decide)
theorem sn102 {Z : State} {a0 : Array Value} (hw : ∀ d ∈ tables_1, d.before a0 Z = true) : Jvm.RoadKit.slotOf Z "com/example/graph_job_runner/graphjobrunner/ClaimedNode" "runKey" "Ljava/lang/String;" ≠ Jvm.RoadKit.slotOf Z "com/example/graph_job_runner/graphjobrunner/ClaimedNode" "failStrategy" "Lcom/example/graph_job_runner/graphjobrunner/FailStrategy;" := slot_ne (Or.inr (hw _ (List.mem_of_getElem? (i := 60) rfl))) (Or.inr (hw _ (List.mem_of_getElem? (i := 76) rfl))) (by decide) (t := (.object "java/lang/String")) (t' := (.object "com/example/graph_job_runner/graphjobrunner/FailStrategy")) (by decide) (by decide)
theorem sn103 {Z : State} {a0 : Array Value} (hw : ∀ d ∈ tables_1, d.before a0 Z = true) : Jvm.RoadKit.slotOf Z "com/example/graph_job_runner/graphjobrunner/ClaimedNode" "runKey" "Ljava/lang/String;" ≠ Jvm.RoadKit.slotOf Z "com/example/graph_job_runner/graphjobrunner/ClaimedNode" "hasChildren" "Z" := slot_ne (Or.inr (hw _ (List.mem_of_getElem? (i := 60) rfl))) (Or.inr (hw _ (List.mem_of_getElem? (i := 78) rfl))) (by decide) (t := (.object "java/lang/String")) (t' := .boolean) (by decide) (by decide)
theorem sn104 {Z : State} {a0 : Array Value} (hw : ∀ d ∈ tables_1, d.before a0 Z = true) : Jvm.RoadKit.slotOf Z "com/example/graph_job_runner/graphjobrunner/ClaimedNode" "streamKey" "Ljava/lang/String;" ≠ Jvm.RoadKit.slotOf Z "com/example/graph_job_runner/graphjobrunner/ClaimedNode" "position" "J" := slot_ne (Or.inr (hw _ (List.mem_of_getElem? (i := 62) rfl))) (Or.inr (hw _ (List.mem_of_getElem? (i := 64) rfl))) (by decide) (t := (.object "java/lang/String")) (t' := .long) (by decide) (by decide)
theorem sn105 {Z : State} {a0 : Array Value} (hw : ∀ d ∈ tables_1, d.before a0 Z = true) : Jvm.RoadKit.slotOf Z "com/example/graph_job_runner/graphjobrunner/ClaimedNode" "streamKey" "Ljava/lang/String;" ≠ Jvm.RoadKit.slotOf Z "com/example/graph_job_runner/graphjobrunner/ClaimedNode" "nodeKey" "Ljava/lang/String;" := slot_ne (Or.inr (hw _ (List.mem_of_getElem? (i := 62) rfl))) (Or.inr (hw _ (List.mem_of_getElem? (i := 66) rfl))) (by decide) (t := (.object "java/lang/String")) (t' := (.object "java/lang/String")) (by decide) (by decide)
theorem sn106 {Z : State} {a0 : Array Value} (hw : ∀ d ∈ tables_1, d.before a0 Z = true) : Jvm.RoadKit.slotOf Z "com/example/graph_job_runner/graphjobrunner/ClaimedNode" "streamKey" "Ljava/lang/String;" ≠ Jvm.RoadKit.slotOf Z "com/example/graph_job_runner/graphjobrunner/ClaimedNode" "processor" "Ljava/lang/String;" := slot_ne (Or.inr (hw _ (List.mem_of_getElem? (i := 62) rfl))) (Or.inr (hw _ (List.mem_of_getElem? (i := 68) rfl))) (by decide) (t := (.object "java/lang/String")) (t' := (.object "java/lang/String")) (by decide) (by decide)
theorem sn107 {Z : State} {a0 : Array Value} (hw : ∀ d ∈ tables_1, d.before a0 Z = true) : Jvm.RoadKit.slotOf Z "com/example/graph_job_runner/graphjobrunner/ClaimedNode" "streamKey" "Ljava/lang/String;" ≠ Jvm.RoadKit.slotOf Z "com/example/graph_job_runner/graphjobrunner/ClaimedNode" "payload" "[B" := slot_ne (Or.inr (hw _ (List.mem_of_getElem? (i := 62) rfl))) (Or.inr (hw _ (List.mem_of_getElem? (i := 70) rfl))) (by decide) (t := (.object "java/lang/String")) (t' := (.array .byte)) (by decide) (by decide)
theorem sn108 {Z : State} {a0 : Array Value} (hw : ∀ d ∈ tables_1, d.before a0 Z = true) : Jvm.RoadKit.slotOf Z "com/example/graph_job_runner/graphjobrunner/ClaimedNode" "streamKey" "Ljava/lang/String;" ≠ Jvm.RoadKit.slotOf Z "com/example/graph_job_runner/graphjobrunner/ClaimedNode" "attempt" "I" := slot_ne (Or.inr (hw _ (List.mem_of_getElem? (i := 62) rfl))) (Or.inr (hw _ (List.mem_of_getElem? (i := 72) rfl))) (by decide) (t := (.object "java/lang/String")) (t' := .int) (by decide) (by decide)
theorem sn109 {Z : State} {a0 : Array Value} (hw : ∀ d ∈ tables_1, d.before a0 Z = true) : Jvm.RoadKit.slotOf Z "com/example/graph_job_runner/graphjobrunner/ClaimedNode" "streamKey" "Ljava/lang/String;" ≠ Jvm.RoadKit.slotOf Z "com/example/graph_job_runner/graphjobrunner/ClaimedNode" "retryLimit" "I" := slot_ne (Or.inr (hw _ (List.mem_of_getElem? (i := 62) rfl))) (Or.inr (hw _ (List.mem_of_getElem? (i := 74) rfl))) (by decide) (t := (.object "java/lang/String")) (t' := .int) (by decide) (by decide)
theorem sn110 {Z : State} {a0 : Array Value} (hw : ∀ d ∈ tables_1, d.before a0 Z = true) : Jvm.RoadKit.slotOf Z "com/example/graph_job_runner/graphjobrunner/ClaimedNode" "streamKey" "Ljava/lang/String;" ≠ Jvm.RoadKit.slotOf Z "com/example/graph_job_runner/graphjobrunner/ClaimedNode" "failStrategy" "Lcom/example/graph_job_runner/graphjobrunner/FailStrategy;" := slot_ne (Or.inr (hw _ (List.mem_of_getElem? (i := 62) rfl))) (Or.inr (hw _ (List.mem_of_getElem? (i := 76) rfl))) (by decide) (t := (.object "java/lang/String")) (t' := (.object "com/example/graph_job_runner/graphjobrunner/FailStrategy")) (by decide) (by decide)
theorem sn111 {Z : State} {a0 : Array Value} (hw : ∀ d ∈ tables_1, d.before a0 Z = true) : Jvm.RoadKit.slotOf Z "com/example/graph_job_runner/graphjobrunner/ClaimedNode" "streamKey" "Ljava/lang/String;" ≠ Jvm.RoadKit.slotOf Z "com/example/graph_job_runner/graphjobrunner/ClaimedNode" "hasChildren" "Z" := slot_ne (Or.inr (hw _ (List.mem_of_getElem? (i := 62) rfl))) (Or.inr (hw _ (List.mem_of_getElem? (i := 78) rfl))) (by decide) (t := (.object "java/lang/String")) (t' := .boolean) (by decide) (by decide)
abbrev y9 : MethodName := (⟨"com/example/graph_job_runner/graphjobrunner/ClaimedNode", "<init>", "(JLjava/lang/String;Ljava/lang/String;JLjava/lang/String;Ljava/lang/String;[BIILcom/example/graph_job_runner/graphjobrunner/FailStrategy;Z)V"⟩ : MethodName)
theorem ef_12_0 (m : MethodId) (x0 : Addr) (x1 : Int64) (x2 : Addr) (x4 : Int64) (x5 : Addr) (x6 : Addr) (x7 : Addr) (x8 : Int32) (x9 : Int32) (x10 : Addr) (x11 : Int32) : entryFrame m #[(.ref x0), (.long x1), (.ref x2), .null, (.long x4), (.ref x5), (.ref x6), (.ref x7), (.int x8), (.int x9), (.ref x10), (.int x11)] 14 = mkF m 0 #[.val (.ref x0), .val (.long x1), .second, .val (.ref x2), .val .null, .val (.long x4), .second, .val (.ref x5), .val (.ref x6), .val (.ref x7), .val (.int x8), .val (.int x9), .val (.ref x10), .val (.int x11)] [] := by first | (simp [entryFrame, mkF, argsToLocals, Value.category]; done) | rfl
theorem pn_12 : plainName "com/example/graph_job_runner/graphjobrunner/ClaimedNode" = true := by first | (simp [plainName, overriddenIn]; done) | decide +kernel
def Q10 (Z : State) (w_PENDING : Addr) (w_IGNORE : Addr) (cs_v : Int32) (a1 : Addr) (q2 : Int64) (a3 : Addr) (a4 : Addr) (a5 : Addr) (a6 : Addr) (p7 : Int32) (p8 : Int32) (h0 : Heap) (n0 : Nat) (v : Option Value) (h : Heap) (L : List Loc) : Prop := v = none ∧ Fr n0 L ∧ Keep h0 h [a1] ∧ Exa Z h a1 "com/example/graph_job_runner/graphjobrunner/ClaimedNode" ∧ Fld Z h a1 "com/example/graph_job_runner/graphjobrunner/ClaimedNode" "attempt" "I" (.int p7) ∧ Fld Z h a1 "com/example/graph_job_runner/graphjobrunner/ClaimedNode" "failStrategy" "Lcom/example/graph_job_runner/graphjobrunner/FailStrategy;" (.ref w_IGNORE) ∧ Fld Z h a1 "com/example/graph_job_runner/graphjobrunner/ClaimedNode" "hasChildren" "Z" (.int (0 : Int32)) ∧ Fld Z h a1 "com/example/graph_job_runner/graphjobrunner/ClaimedNode" "id" "J" (.long q2) ∧ Fld Z h a1 "com/example/graph_job_runner/graphjobrunner/ClaimedNode" "nodeKey" "Ljava/lang/String;" (.ref a4) ∧ Fld Z h a1 "com/example/graph_job_runner/graphjobrunner/ClaimedNode" "payload" "[B" (.ref a6) ∧ Fld Z h a1 "com/example/graph_job_runner/graphjobrunner/ClaimedNode" "position" "J" (.long (0 : Int64)) ∧ Fld Z h a1 "com/example/graph_job_runner/graphjobrunner/ClaimedNode" "processor" "Ljava/lang/String;" (.ref a5) ∧ Fld Z h a1 "com/example/graph_job_runner/graphjobrunner/ClaimedNode" "retryLimit" "I" (.int p8) ∧ Fld Z h a1 "com/example/graph_job_runner/graphjobrunner/ClaimedNode" "runKey" "Ljava/lang/String;" (.ref a3) ∧ Fld Z h a1 "com/example/graph_job_runner/graphjobrunner/ClaimedNode" "streamKey" "Ljava/lang/String;" .null
set_option maxRecDepth 65536 in
set_option maxHeartbeats 40000000 in
theorem rm10 (l : Launch) (Z : State) (a0 : Array Value) (hw : ∀ d ∈ tables_1, d.before a0 Z = true) (ws : List Jvm.Cond) (w_PENDING w_IGNORE : Addr) (cs_v : Int32) (hp : Perm Z w_PENDING w_IGNORE cs_v) (a1 : Addr) (q2 : Int64) (a3 : Addr) (a4 : Addr) (a5 : Addr) (a6 : Addr) (p7 : Int32) (p8 : Int32) (h0 : Heap) (n0 : Nat) (O0 : Old Z n0 h0) (E_a1 : Exa Z h0 a1 "com/example/graph_job_runner/graphjobrunner/ClaimedNode") (F_id_a1 : Fld Z h0 a1 "com/example/graph_job_runner/graphjobrunner/ClaimedNode" "id" "J" (.long (0 : Int64))) (F_runKey_a1 : Fld Z h0 a1 "com/example/graph_job_runner/graphjobrunner/ClaimedNode" "runKey" "Ljava/lang/String;" .null) (F_streamKey_a1 : Fld Z h0 a1 "com/example/graph_job_runner/graphjobrunner/ClaimedNode" "streamKey" "Ljava/lang/String;" .null) (F_position_a1 : Fld Z h0 a1 "com/example/graph_job_runner/graphjobrunner/ClaimedNode" "position" "J" (.long (0 : Int64))) (F_nodeKey_a1 : Fld Z h0 a1 "com/example/graph_job_runner/graphjobrunner/ClaimedNode" "nodeKey" "Ljava/lang/String;" .null) (F_processor_a1 : Fld Z h0 a1 "com/example/graph_job_runner/graphjobrunner/ClaimedNode" "processor" "Ljava/lang/String;" .null) (F_payload_a1 : Fld Z h0 a1 "com/example/graph_job_runner/graphjobrunner/ClaimedNode" "payload" "[B" .null) (F_attempt_a1 : Fld Z h0 a1 "com/example/graph_job_runner/graphjobrunner/ClaimedNode" "attempt" "I" (.int (0 : Int32))) (F_retryLimit_a1 : Fld Z h0 a1 "com/example/graph_job_runner/graphjobrunner/ClaimedNode" "retryLimit" "I" (.int (0 : Int32))) (F_failStrategy_a1 : Fld Z h0 a1 "com/example/graph_job_runner/graphjobrunner/ClaimedNode" "failStrategy" "Lcom/example/graph_job_runner/graphjobrunner/FailStrategy;" .null) (F_hasChildren_a1 : Fld Z h0 a1 "com/example/graph_job_runner/graphjobrunner/ClaimedNode" "hasChildren" "Z" (.int (0 : Int32))) (g_a1 : n0 ≤ a1) :
    MetFree l y9 (head1 (Jvm.Cond.code y9 prog_3_method_3_code 14 none :: ws) ({ frames := 1, cells := 0, slots := 0, locals := 12 } : Room)) (fun a U => a = #[(.ref a1), (.long q2), (.ref a3), .null, (.long (0 : Int64)), (.ref a4), (.ref a5), (.ref a6), (.int p7), (.int p8), (.ref w_IGNORE), (.int (0 : Int32))] ∧ Z.Warmed39 U.vm ∧ U.heap = h0) (fun _ _ _ _ _ => True) (fun _ U o U' => ∃ v L, o = .returned v ∧ Q10 Z w_PENDING w_IGNORE cs_v a1 q2 a3 a4 a5 a6 p7 p8 h0 n0 v U'.heap L ∧ FrameEnd U o U' L ({ frames := 1, cells := 0, slots := 0, locals := 12 } : Room).cells ({ frames := 1, cells := 0, slots := 0, locals := 12 } : Room).slots) := by
  refine MetFree.of_bodySF (plainFor_of_name pn_12) hisR ?_
  intro p e s m args below meth c s₁ Bd hml0 hP hK
  obtain ⟨rfl, hZ, hh⟩ := hP
  have hx := Bd.exec
  have hby := Bd.bytes
  have hml : c.maxLocals = 14 := hml0
  have hown : s.vm.findClass "com/example/graph_job_runner/graphjobrunner/ClaimedNode" = some m.cls := findClass_of_methodNamed Bd.named
  have hnm := (name_of_methodNamed Bd.named Bd.method).1
  have X0 : Stand p l e ({ frames := 1, cells := 0, slots := 0, locals := 12 } : Room) s m #[(.ref a1), (.long q2), (.ref a3), .null, (.long (0 : Int64)), (.ref a4), (.ref a5), (.ref a6), (.int p7), (.int p8), (.ref w_IGNORE), (.int (0 : Int32))] below meth c s₁ [] 0 0 := Stand.of_body Bd
  have e0 : s₁.heap = h0 := by rw [← hh, Bd.state]; rfl
  have N0 := Fr.nil n0
  have hp' := hp
  obtain ⟨S_w_PENDING, E_w_PENDING, S_w_IGNORE, E_w_IGNORE, S_COMPACT_STRINGS, h_cs⟩ := hp'
  have pre0 : ∀ t, Steps p.tables e below (s₁.setTop (mkF m 0 #[.val (.ref a1), .val (.long q2), .second, .val (.ref a3), .val .null, .val (.long (0 : Int64)), .second, .val (.ref a4), .val (.ref a5), .val (.ref a6), .val (.int p7), .val (.int p8), .val (.ref w_IGNORE), .val (.int (0 : Int32))] [])) t → Steps p.tables e below (s₁.setTop (entryFrame m #[(.ref a1), (.long q2), (.ref a3), .null, (.long (0 : Int64)), (.ref a4), (.ref a5), (.ref a6), (.int p7), (.int p8), (.ref w_IGNORE), (.int (0 : Int32))] 14)) t := fun t k => castTop (ef_12_0 m a1 q2 a3 (0 : Int64) a4 a5 a6 p7 p8 w_IGNORE (0 : Int32)) k
  obtain ⟨T1, X1, e1, st1⟩ := initO X0 hx hZ hown (hw _ (List.mem_of_getElem? (i := 56) rfl)) (hw _ (List.mem_of_getElem? (i := 12) rfl)) (hw _ (List.mem_of_getElem? (i := 13) rfl)) e0 (g := (mkF m 1 #[.val (.ref a1), .val (.long q2), .second, .val (.ref a3), .val .null, .val (.long (0 : Int64)), .second, .val (.ref a4), .val (.ref a5), .val (.ref a6), .val (.int p7), .val (.int p8), .val (.ref w_IGNORE), .val (.int (0 : Int32))] [(.ref a1)])) rfl (by rw [hml]; rfl) rfl (hb hby d12_1) (by decide) (W := 0) (by show 2 * 0 + _ ≤ _; exact Nat.le_of_eq rfl) (by decide)
  obtain ⟨T2, h2, X2, e2, W2, st2⟩ := putF X1 hx hZ hown (host := "") (Or.inl (hw _ (List.mem_of_getElem? (i := 57) rfl))) Via.refl e1 F_id_a1 E_a1 (Or.inr ⟨(hw _ (List.mem_of_getElem? (i := 58) rfl)), rfl, hnm⟩) (hw _ (List.mem_of_getElem? (i := 48) rfl)) (ty := .long) (by decide) rfl rfl (g := (mkF m 6 #[.val (.ref a1), .val (.long q2), .second, .val (.ref a3), .val .null, .val (.long (0 : Int64)), .second, .val (.ref a4), .val (.ref a5), .val (.ref a6), .val (.int p7), .val (.int p8), .val (.ref w_IGNORE), .val (.int (0 : Int32))] [(.long q2), (.ref a1)])) rfl rfl (hb hby d12_6)
  have N2 := Fr.snoc X2 N0 g_a1
  have O2 := O0.wr W2 g_a1
  have K2 : Keep h0 h2 [a1] := (Keep.refl h0 [a1]).wr W2 (Or.inl (List.mem_of_getElem? (i := 0) rfl))
  have Fw2 := F_id_a1.same W2
  obtain ⟨T3, h3, X3, e3, W3, st3⟩ := putF X2 hx hZ hown (host := "") (Or.inl (hw _ (List.mem_of_getElem? (i := 59) rfl))) Via.refl e2 (F_runKey_a1.other W2 (Or.inr (sn2 hw))) (E_a1.wr W2) (Or.inr ⟨(hw _ (List.mem_of_getElem? (i := 60) rfl)), rfl, hnm⟩) (hw _ (List.mem_of_getElem? (i := 48) rfl)) (ty := (.object "java/lang/String")) (by decide) rfl rfl (g := (mkF m 11 #[.val (.ref a1), .val (.long q2), .second, .val (.ref a3), .val .null, .val (.long (0 : Int64)), .second, .val (.ref a4), .val (.ref a5), .val (.ref a6), .val (.int p7), .val (.int p8), .val (.ref w_IGNORE), .val (.int (0 : Int32))] [(.ref a3), (.ref a1)])) rfl rfl (hb hby d12_11)
  have N3 := Fr.snoc X3 N2 g_a1
  have O3 := O2.wr W3 g_a1
  have K3 : Keep h0 h3 [a1] := K2.wr W3 (Or.inl (List.mem_of_getElem? (i := 0) rfl))
  have Fw3 := (F_runKey_a1.other W2 (Or.inr (sn2 hw))).same W3
  have f_4 := ((F_streamKey_a1.other W2 (Or.inr (sn3 hw))).other W3 (Or.inr (sn4 hw)))
  obtain ⟨T5, h5, X5, e5, W5, st5⟩ := putF X3 hx hZ hown (host := "") (Or.inl (hw _ (List.mem_of_getElem? (i := 61) rfl))) Via.refl e3 f_4 ((E_a1.wr W2).wr W3) (Or.inr ⟨(hw _ (List.mem_of_getElem? (i := 62) rfl)), rfl, hnm⟩) (hw _ (List.mem_of_getElem? (i := 48) rfl)) (ty := (.object "java/lang/String")) (by decide) rfl rfl (g := (mkF m 17 #[.val (.ref a1), .val (.long q2), .second, .val (.ref a3), .val .null, .val (.long (0 : Int64)), .second, .val (.ref a4), .val (.ref a5), .val (.ref a6), .val (.int p7), .val (.int p8), .val (.ref w_IGNORE), .val (.int (0 : Int32))] [.null, (.ref a1)])) rfl rfl (hb hby d12_17)
  have N5 := Fr.snoc X5 N3 g_a1
  have O5 := O3.wr W5 g_a1
  have K5 : Keep h0 h5 [a1] := K3.wr W5 (Or.inl (List.mem_of_getElem? (i := 0) rfl))
  have Fw5 := f_4.same W5
  have f_6 := (((F_position_a1.other W2 (Or.inr (sn5 hw))).other W3 (Or.inr (sn6 hw))).other W5 (Or.inr (sn7 hw)))
  obtain ⟨T7, h7, X7, e7, W7, st7⟩ := putF X5 hx hZ hown (host := "") (Or.inl (hw _ (List.mem_of_getElem? (i := 63) rfl))) Via.refl e5 f_6 (((E_a1.wr W2).wr W3).wr W5) (Or.inr ⟨(hw _ (List.mem_of_getElem? (i := 64) rfl)), rfl, hnm⟩) (hw _ (List.mem_of_getElem? (i := 48) rfl)) (ty := .long) (by decide) rfl rfl (g := (mkF m 23 #[.val (.ref a1), .val (.long q2), .second, .val (.ref a3), .val .null, .val (.long (0 : Int64)), .second, .val (.ref a4), .val (.ref a5), .val (.ref a6), .val (.int p7), .val (.int p8), .val (.ref w_IGNORE), .val (.int (0 : Int32))] [(.long (0 : Int64)), (.ref a1)])) rfl rfl (hb hby d12_23)
  have N7 := Fr.snoc X7 N5 g_a1
  have O7 := O5.wr W7 g_a1
  have K7 : Keep h0 h7 [a1] := K5.wr W7 (Or.inl (List.mem_of_getElem? (i := 0) rfl))
  have Fw7 := f_6.same W7
  have f_8 := ((((F_nodeKey_a1.other W2 (Or.inr (sn8 hw))).other W3 (Or.inr (sn9 hw))).other W5 (Or.inr (sn10 hw))).other W7 (Or.inr (sn11 hw)))
  obtain ⟨T9, h9, X9, e9, W9, st9⟩ := putF X7 hx hZ hown (host := "") (Or.inl (hw _ (List.mem_of_getElem? (i := 65) rfl))) Via.refl e7 f_8 ((((E_a1.wr W2).wr W3).wr W5).wr W7) (Or.inr ⟨(hw _ (List.mem_of_getElem? (i := 66) rfl)), rfl, hnm⟩) (hw _ (List.mem_of_getElem? (i := 48) rfl)) (ty := (.object "java/lang/String")) (by decide) rfl rfl (g := (mkF m 29 #[.val (.ref a1), .val (.long q2), .second, .val (.ref a3), .val .null, .val (.long (0 : Int64)), .second, .val (.ref a4), .val (.ref a5), .val (.ref a6), .val (.int p7), .val (.int p8), .val (.ref w_IGNORE), .val (.int (0 : Int32))] [(.ref a4), (.ref a1)])) rfl rfl (hb hby d12_29)
  have N9 := Fr.snoc X9 N7 g_a1
  have O9 := O7.wr W9 g_a1
  have K9 : Keep h0 h9 [a1] := K7.wr W9 (Or.inl (List.mem_of_getElem? (i := 0) rfl))
  have Fw9 := f_8.same W9
  have f_10 := (((((F_processor_a1.other W2 (Or.inr (sn12 hw))).other W3 (Or.inr (sn13 hw))).other W5 (Or.inr (sn14 hw))).other W7 (Or.inr (sn15 hw))).other W9 (Or.inr (sn16 hw)))
  obtain ⟨T11, h11, X11, e11, W11, st11⟩ := putF X9 hx hZ hown (host := "") (Or.inl (hw _ (List.mem_of_getElem? (i := 67) rfl))) Via.refl e9 f_10 (((((E_a1.wr W2).wr W3).wr W5).wr W7).wr W9) (Or.inr ⟨(hw _ (List.mem_of_getElem? (i := 68) rfl)), rfl, hnm⟩) (hw _ (List.mem_of_getElem? (i := 48) rfl)) (ty := (.object "java/lang/String")) (by decide) rfl rfl (g := (mkF m 35 #[.val (.ref a1), .val (.long q2), .second, .val (.ref a3), .val .null, .val (.long (0 : Int64)), .second, .val (.ref a4), .val (.ref a5), .val (.ref a6), .val (.int p7), .val (.int p8), .val (.ref w_IGNORE), .val (.int (0 : Int32))] [(.ref a5), (.ref a1)])) rfl rfl (hb hby d12_35)
  have N11 := Fr.snoc X11 N9 g_a1
  have O11 := O9.wr W11 g_a1
  have K11 : Keep h0 h11 [a1] := K9.wr W11 (Or.inl (List.mem_of_getElem? (i := 0) rfl))
  have Fw11 := f_10.same W11
  have f_12 := ((((((F_payload_a1.other W2 (Or.inr (sn17 hw))).other W3 (Or.inr (sn18 hw))).other W5 (Or.inr (sn19 hw))).other W7 (Or.inr (sn20 hw))).other W9 (Or.inr (sn21 hw))).other W11 (Or.inr (sn22 hw)))
  obtain ⟨T13, h13, X13, e13, W13, st13⟩ := putF X11 hx hZ hown (host := "") (Or.inl (hw _ (List.mem_of_getElem? (i := 69) rfl))) Via.refl e11 f_12 ((((((E_a1.wr W2).wr W3).wr W5).wr W7).wr W9).wr W11) (Or.inr ⟨(hw _ (List.mem_of_getElem? (i := 70) rfl)), rfl, hnm⟩) (hw _ (List.mem_of_getElem? (i := 48) rfl)) (ty := (.array .byte)) (by decide) rfl rfl (g := (mkF m 41 #[.val (.ref a1), .val (.long q2), .second, .val (.ref a3), .val .null, .val (.long (0 : Int64)), .second, .val (.ref a4), .val (.ref a5), .val (.ref a6), .val (.int p7), .val (.int p8), .val (.ref w_IGNORE), .val (.int (0 : Int32))] [(.ref a6), (.ref a1)])) rfl rfl (hb hby d12_41)
  have N13 := Fr.snoc X13 N11 g_a1
  have O13 := O11.wr W13 g_a1
  have K13 : Keep h0 h13 [a1] := K11.wr W13 (Or.inl (List.mem_of_getElem? (i := 0) rfl))
  have Fw13 := f_12.same W13
  have f_14 := (((((((E_a1.wr W2).wr W3).wr W5).wr W7).wr W9).wr W11).wr W13)
  have f_15 := (((((((F_attempt_a1.other W2 (Or.inr (sn23 hw))).other W3 (Or.inr (sn24 hw))).other W5 (Or.inr (sn25 hw))).other W7 (Or.inr (sn26 hw))).other W9 (Or.inr (sn27 hw))).other W11 (Or.inr (sn28 hw))).other W13 (Or.inr (sn29 hw)))
  obtain ⟨T16, h16, X16, e16, W16, st16⟩ := putF X13 hx hZ hown (host := "") (Or.inl (hw _ (List.mem_of_getElem? (i := 71) rfl))) Via.refl e13 f_15 f_14 (Or.inr ⟨(hw _ (List.mem_of_getElem? (i := 72) rfl)), rfl, hnm⟩) (hw _ (List.mem_of_getElem? (i := 48) rfl)) (ty := .int) (by decide) rfl rfl (g := (mkF m 47 #[.val (.ref a1), .val (.long q2), .second, .val (.ref a3), .val .null, .val (.long (0 : Int64)), .second, .val (.ref a4), .val (.ref a5), .val (.ref a6), .val (.int p7), .val (.int p8), .val (.ref w_IGNORE), .val (.int (0 : Int32))] [(.int p7), (.ref a1)])) rfl rfl (hb hby d12_47)
  have N16 := Fr.snoc X16 N13 g_a1
  have O16 := O13.wr W16 g_a1
  have K16 : Keep h0 h16 [a1] := K13.wr W16 (Or.inl (List.mem_of_getElem? (i := 0) rfl))
  have Fw16 := f_15.same W16
  have f_17 := ((((((((F_retryLimit_a1.other W2 (Or.inr (sn30 hw))).other W3 (Or.inr (sn31 hw))).other W5 (Or.inr (sn32 hw))).other W7 (Or.inr (sn33 hw))).other W9 (Or.inr (sn34 hw))).other W11 (Or.inr (sn35 hw))).other W13 (Or.inr (sn36 hw))).other W16 (Or.inr (sn37 hw)))
  obtain ⟨T18, h18, X18, e18, W18, st18⟩ := putF X16 hx hZ hown (host := "") (Or.inl (hw _ (List.mem_of_getElem? (i := 73) rfl))) Via.refl e16 f_17 (f_14.wr W16) (Or.inr ⟨(hw _ (List.mem_of_getElem? (i := 74) rfl)), rfl, hnm⟩) (hw _ (List.mem_of_getElem? (i := 48) rfl)) (ty := .int) (by decide) rfl rfl (g := (mkF m 53 #[.val (.ref a1), .val (.long q2), .second, .val (.ref a3), .val .null, .val (.long (0 : Int64)), .second, .val (.ref a4), .val (.ref a5), .val (.ref a6), .val (.int p7), .val (.int p8), .val (.ref w_IGNORE), .val (.int (0 : Int32))] [(.int p8), (.ref a1)])) rfl rfl (hb hby d12_53)
  have N18 := Fr.snoc X18 N16 g_a1
  have O18 := O16.wr W18 g_a1
  have K18 : Keep h0 h18 [a1] := K16.wr W18 (Or.inl (List.mem_of_getElem? (i := 0) rfl))
  have Fw18 := f_17.same W18
  have f_19 := (((((((((F_failStrategy_a1.other W2 (Or.inr (sn38 hw))).other W3 (Or.inr (sn39 hw))).other W5 (Or.inr (sn40 hw))).other W7 (Or.inr (sn41 hw))).other W9 (Or.inr (sn42 hw))).other W11 (Or.inr (sn43 hw))).other W13 (Or.inr (sn44 hw))).other W16 (Or.inr (sn45 hw))).other W18 (Or.inr (sn46 hw)))
  obtain ⟨T20, h20, X20, e20, W20, st20⟩ := putF X18 hx hZ hown (host := "") (Or.inl (hw _ (List.mem_of_getElem? (i := 75) rfl))) Via.refl e18 f_19 ((f_14.wr W16).wr W18) (Or.inr ⟨(hw _ (List.mem_of_getElem? (i := 76) rfl)), rfl, hnm⟩) (hw _ (List.mem_of_getElem? (i := 48) rfl)) (ty := (.object "com/example/graph_job_runner/graphjobrunner/FailStrategy")) (by decide) rfl rfl (g := (mkF m 59 #[.val (.ref a1), .val (.long q2), .second, .val (.ref a3), .val .null, .val (.long (0 : Int64)), .second, .val (.ref a4), .val (.ref a5), .val (.ref a6), .val (.int p7), .val (.int p8), .val (.ref w_IGNORE), .val (.int (0 : Int32))] [(.ref w_IGNORE), (.ref a1)])) rfl rfl (hb hby d12_59)
  have N20 := Fr.snoc X20 N18 g_a1
  have O20 := O18.wr W20 g_a1
  have K20 : Keep h0 h20 [a1] := K18.wr W20 (Or.inl (List.mem_of_getElem? (i := 0) rfl))
  have Fw20 := f_19.same W20
  have f_21 := ((((((((((F_hasChildren_a1.other W2 (Or.inr (sn47 hw))).other W3 (Or.inr (sn48 hw))).other W5 (Or.inr (sn49 hw))).other W7 (Or.inr (sn50 hw))).other W9 (Or.inr (sn51 hw))).other W11 (Or.inr (sn52 hw))).other W13 (Or.inr (sn53 hw))).other W16 (Or.inr (sn54 hw))).other W18 (Or.inr (sn55 hw))).other W20 (Or.inr (sn56 hw)))
  obtain ⟨T22, h22, X22, e22, W22, st22⟩ := putFN X20 hx hZ hown (hw _ (List.mem_of_getElem? (i := 77) rfl)) Via.refl e20 f_21 (((f_14.wr W16).wr W18).wr W20) (Or.inr ⟨(hw _ (List.mem_of_getElem? (i := 78) rfl)), rfl, hnm⟩) (hw _ (List.mem_of_getElem? (i := 48) rfl)) (ty := .boolean) (v' := (.int (0 : Int32))) (by decide) rfl rfl (g := (mkF m 65 #[.val (.ref a1), .val (.long q2), .second, .val (.ref a3), .val .null, .val (.long (0 : Int64)), .second, .val (.ref a4), .val (.ref a5), .val (.ref a6), .val (.int p7), .val (.int p8), .val (.ref w_IGNORE), .val (.int (0 : Int32))] [(.int (0 : Int32)), (.ref a1)])) rfl rfl (hb hby d12_65)
  have N22 := Fr.snoc X22 N20 g_a1
  have O22 := O20.wr W22 g_a1
  have K22 : Keep h0 h22 [a1] := K20.wr W22 (Or.inl (List.mem_of_getElem? (i := 0) rfl))
  have Fw22 := f_21.same W22
  have f_23 := (((Fw16.other W18 (Or.inr (sn57 hw))).other W20 (Or.inr (sn58 hw))).other W22 (Or.inr (sn59 hw)))
  have f_24 := ((((((((((Fw2.other W3 (Or.inr (sn61 hw))).other W5 (Or.inr (sn62 hw))).other W7 (Or.inr (sn63 hw))).other W9 (Or.inr (sn64 hw))).other W11 (Or.inr (sn65 hw))).other W13 (Or.inr (sn66 hw))).other W16 (Or.inr (sn67 hw))).other W18 (Or.inr (sn68 hw))).other W20 (Or.inr (sn69 hw))).other W22 (Or.inr (sn70 hw)))
  have f_25 := ((((((Fw9.other W11 (Or.inr (sn71 hw))).other W13 (Or.inr (sn72 hw))).other W16 (Or.inr (sn73 hw))).other W18 (Or.inr (sn74 hw))).other W20 (Or.inr (sn75 hw))).other W22 (Or.inr (sn76 hw)))
  have f_26 := ((((Fw13.other W16 (Or.inr (sn77 hw))).other W18 (Or.inr (sn78 hw))).other W20 (Or.inr (sn79 hw))).other W22 (Or.inr (sn80 hw)))
  have f_27 := (((((((Fw7.other W9 (Or.inr (sn81 hw))).other W11 (Or.inr (sn82 hw))).other W13 (Or.inr (sn83 hw))).other W16 (Or.inr (sn84 hw))).other W18 (Or.inr (sn85 hw))).other W20 (Or.inr (sn86 hw))).other W22 (Or.inr (sn87 hw)))
  have f_28 := (((((Fw11.other W13 (Or.inr (sn88 hw))).other W16 (Or.inr (sn89 hw))).other W18 (Or.inr (sn90 hw))).other W20 (Or.inr (sn91 hw))).other W22 (Or.inr (sn92 hw)))
  have f_29 := ((Fw18.other W20 (Or.inr (sn93 hw))).other W22 (Or.inr (sn94 hw)))
  have f_30 := (((((((((Fw3.other W5 (Or.inr (sn95 hw))).other W7 (Or.inr (sn96 hw))).other W9 (Or.inr (sn97 hw))).other W11 (Or.inr (sn98 hw))).other W13 (Or.inr (sn99 hw))).other W16 (Or.inr (sn100 hw))).other W18 (Or.inr (sn101 hw))).other W20 (Or.inr (sn102 hw))).other W22 (Or.inr (sn103 hw)))
  have f_31 := ((((((((Fw5.other W7 (Or.inr (sn104 hw))).other W9 (Or.inr (sn105 hw))).other W11 (Or.inr (sn106 hw))).other W13 (Or.inr (sn107 hw))).other W16 (Or.inr (sn108 hw))).other W18 (Or.inr (sn109 hw))).other W20 (Or.inr (sn110 hw))).other W22 (Or.inr (sn111 hw)))
  obtain ⟨fs, hr, hrun, hended, hW, hsame⟩ := X22.leave (v := none) (fun _ => rfl)
  refine ⟨_, _, pre0 _ ?_, hrun, hended, _, _, rfl, ?_, ⟨_, rfl⟩, hW, hsame.mono (by decide) (by decide)⟩
  · show Sp p e below s₁ (mkF m 0 #[.val (.ref a1), .val (.long q2), .second, .val (.ref a3), .val .null, .val (.long (0 : Int64)), .second, .val (.ref a4), .val (.ref a5), .val (.ref a6), .val (.int p7), .val (.int p8), .val (.ref w_IGNORE), .val (.int (0 : Int32))] []) _
    refine XS.aloadN X0.here hx rfl (hb hby d12_0) rfl rfl ?_
    show Sp p e below s₁ (mkF m 1 #[.val (.ref a1), .val (.long q2), .second, .val (.ref a3), .val .null, .val (.long (0 : Int64)), .second, .val (.ref a4), .val (.ref a5), .val (.ref a6), .val (.int p7), .val (.int p8), .val (.ref w_IGNORE), .val (.int (0 : Int32))] [(.ref a1)]) _
    refine st1 _ ?_
    show Sp p e below T1 (mkF m 4 #[.val (.ref a1), .val (.long q2), .second, .val (.ref a3), .val .null, .val (.long (0 : Int64)), .second, .val (.ref a4), .val (.ref a5), .val (.ref a6), .val (.int p7), .val (.int p8), .val (.ref w_IGNORE), .val (.int (0 : Int32))] []) _
    refine XS.aloadN X1.here hx rfl (hb hby d12_4) rfl rfl ?_
    refine XS.lloadN X1.here hx rfl (hb hby d12_5) rfl ?_
    show Sp p e below T1 (mkF m 6 #[.val (.ref a1), .val (.long q2), .second, .val (.ref a3), .val .null, .val (.long (0 : Int64)), .second, .val (.ref a4), .val (.ref a5), .val (.ref a6), .val (.int p7), .val (.int p8), .val (.ref w_IGNORE), .val (.int (0 : Int32))] [(.long q2), (.ref a1)]) _
    refine st2 _ ?_
    show Sp p e below T2 (mkF m 9 #[.val (.ref a1), .val (.long q2), .second, .val (.ref a3), .val .null, .val (.long (0 : Int64)), .second, .val (.ref a4), .val (.ref a5), .val (.ref a6), .val (.int p7), .val (.int p8), .val (.ref w_IGNORE), .val (.int (0 : Int32))] []) _
    refine XS.aloadN X2.here hx rfl (hb hby d12_9) rfl rfl ?_
    refine XS.aloadN X2.here hx rfl (hb hby d12_10) rfl rfl ?_
    show Sp p e below T2 (mkF m 11 #[.val (.ref a1), .val (.long q2), .second, .val (.ref a3), .val .null, .val (.long (0 : Int64)), .second, .val (.ref a4), .val (.ref a5), .val (.ref a6), .val (.int p7), .val (.int p8), .val (.ref w_IGNORE), .val (.int (0 : Int32))] [(.ref a3), (.ref a1)]) _
    refine st3 _ ?_
    show Sp p e below T3 (mkF m 14 #[.val (.ref a1), .val (.long q2), .second, .val (.ref a3), .val .null, .val (.long (0 : Int64)), .second, .val (.ref a4), .val (.ref a5), .val (.ref a6), .val (.int p7), .val (.int p8), .val (.ref w_IGNORE), .val (.int (0 : Int32))] []) _
    refine XS.aloadN X3.here hx rfl (hb hby d12_14) rfl rfl ?_
    refine XS.aload X3.here hx rfl (hb hby d12_15) rfl rfl ?_
    show Sp p e below T3 (mkF m 17 #[.val (.ref a1), .val (.long q2), .second, .val (.ref a3), .val .null, .val (.long (0 : Int64)), .second, .val (.ref a4), .val (.ref a5), .val (.ref a6), .val (.int p7), .val (.int p8), .val (.ref w_IGNORE), .val (.int (0 : Int32))] [.null, (.ref a1)]) _
    refine st5 _ ?_
    show Sp p e below T5 (mkF m 20 #[.val (.ref a1), .val (.long q2), .second, .val (.ref a3), .val .null, .val (.long (0 : Int64)), .second, .val (.ref a4), .val (.ref a5), .val (.ref a6), .val (.int p7), .val (.int p8), .val (.ref w_IGNORE), .val (.int (0 : Int32))] []) _
    refine XS.aloadN X5.here hx rfl (hb hby d12_20) rfl rfl ?_
    refine XS.lload X5.here hx rfl (hb hby d12_21) rfl ?_
    show Sp p e below T5 (mkF m 23 #[.val (.ref a1), .val (.long q2), .second, .val (.ref a3), .val .null, .val (.long (0 : Int64)), .second, .val (.ref a4), .val (.ref a5), .val (.ref a6), .val (.int p7), .val (.int p8), .val (.ref w_IGNORE), .val (.int (0 : Int32))] [(.long (0 : Int64)), (.ref a1)]) _
    refine st7 _ ?_
    show Sp p e below T7 (mkF m 26 #[.val (.ref a1), .val (.long q2), .second, .val (.ref a3), .val .null, .val (.long (0 : Int64)), .second, .val (.ref a4), .val (.ref a5), .val (.ref a6), .val (.int p7), .val (.int p8), .val (.ref w_IGNORE), .val (.int (0 : Int32))] []) _
    refine XS.aloadN X7.here hx rfl (hb hby d12_26) rfl rfl ?_
    refine XS.aload X7.here hx rfl (hb hby d12_27) rfl rfl ?_
    show Sp p e below T7 (mkF m 29 #[.val (.ref a1), .val (.long q2), .second, .val (.ref a3), .val .null, .val (.long (0 : Int64)), .second, .val (.ref a4), .val (.ref a5), .val (.ref a6), .val (.int p7), .val (.int p8), .val (.ref w_IGNORE), .val (.int (0 : Int32))] [(.ref a4), (.ref a1)]) _
    refine st9 _ ?_
    show Sp p e below T9 (mkF m 32 #[.val (.ref a1), .val (.long q2), .second, .val (.ref a3), .val .null, .val (.long (0 : Int64)), .second, .val (.ref a4), .val (.ref a5), .val (.ref a6), .val (.int p7), .val (.int p8), .val (.ref w_IGNORE), .val (.int (0 : Int32))] []) _
    refine XS.aloadN X9.here hx rfl (hb hby d12_32) rfl rfl ?_
    refine XS.aload X9.here hx rfl (hb hby d12_33) rfl rfl ?_
    show Sp p e below T9 (mkF m 35 #[.val (.ref a1), .val (.long q2), .second, .val (.ref a3), .val .null, .val (.long (0 : Int64)), .second, .val (.ref a4), .val (.ref a5), .val (.ref a6), .val (.int p7), .val (.int p8), .val (.ref w_IGNORE), .val (.int (0 : Int32))] [(.ref a5), (.ref a1)]) _
    refine st11 _ ?_
    show Sp p e below T11 (mkF m 38 #[.val (.ref a1), .val (.long q2), .second, .val (.ref a3), .val .null, .val (.long (0 : Int64)), .second, .val (.ref a4), .val (.ref a5), .val (.ref a6), .val (.int p7), .val (.int p8), .val (.ref w_IGNORE), .val (.int (0 : Int32))] []) _
    refine XS.aloadN X11.here hx rfl (hb hby d12_38) rfl rfl ?_
    refine XS.aload X11.here hx rfl (hb hby d12_39) rfl rfl ?_
    show Sp p e below T11 (mkF m 41 #[.val (.ref a1), .val (.long q2), .second, .val (.ref a3), .val .null, .val (.long (0 : Int64)), .second, .val (.ref a4), .val (.ref a5), .val (.ref a6), .val (.int p7), .val (.int p8), .val (.ref w_IGNORE), .val (.int (0 : Int32))] [(.ref a6), (.ref a1)]) _
    refine st13 _ ?_
    show Sp p e below T13 (mkF m 44 #[.val (.ref a1), .val (.long q2), .second, .val (.ref a3), .val .null, .val (.long (0 : Int64)), .second, .val (.ref a4), .val (.ref a5), .val (.ref a6), .val (.int p7), .val (.int p8), .val (.ref w_IGNORE), .val (.int (0 : Int32))] []) _
    refine XS.aloadN X13.here hx rfl (hb hby d12_44) rfl rfl ?_
    refine XS.iload X13.here hx rfl (hb hby d12_45) rfl ?_
    show Sp p e below T13 (mkF m 47 #[.val (.ref a1), .val (.long q2), .second, .val (.ref a3), .val .null, .val (.long (0 : Int64)), .second, .val (.ref a4), .val (.ref a5), .val (.ref a6), .val (.int p7), .val (.int p8), .val (.ref w_IGNORE), .val (.int (0 : Int32))] [(.int p7), (.ref a1)]) _
    refine st16 _ ?_
    show Sp p e below T16 (mkF m 50 #[.val (.ref a1), .val (.long q2), .second, .val (.ref a3), .val .null, .val (.long (0 : Int64)), .second, .val (.ref a4), .val (.ref a5), .val (.ref a6), .val (.int p7), .val (.int p8), .val (.ref w_IGNORE), .val (.int (0 : Int32))] []) _
    refine XS.aloadN X16.here hx rfl (hb hby d12_50) rfl rfl ?_
    refine XS.iload X16.here hx rfl (hb hby d12_51) rfl ?_
    show Sp p e below T16 (mkF m 53 #[.val (.ref a1), .val (.long q2), .second, .val (.ref a3), .val .null, .val (.long (0 : Int64)), .second, .val (.ref a4), .val (.ref a5), .val (.ref a6), .val (.int p7), .val (.int p8), .val (.ref w_IGNORE), .val (.int (0 : Int32))] [(.int p8), (.ref a1)]) _
    refine st18 _ ?_
    show Sp p e below T18 (mkF m 56 #[.val (.ref a1), .val (.long q2), .second, .val (.ref a3), .val .null, .val (.long (0 : Int64)), .second, .val (.ref a4), .val (.ref a5), .val (.ref a6), .val (.int p7), .val (.int p8), .val (.ref w_IGNORE), .val (.int (0 : Int32))] []) _
    refine XS.aloadN X18.here hx rfl (hb hby d12_56) rfl rfl ?_
    refine XS.aload X18.here hx rfl (hb hby d12_57) rfl rfl ?_
    show Sp p e below T18 (mkF m 59 #[.val (.ref a1), .val (.long q2), .second, .val (.ref a3), .val .null, .val (.long (0 : Int64)), .second, .val (.ref a4), .val (.ref a5), .val (.ref a6), .val (.int p7), .val (.int p8), .val (.ref w_IGNORE), .val (.int (0 : Int32))] [(.ref w_IGNORE), (.ref a1)]) _
    refine st20 _ ?_
    show Sp p e below T20 (mkF m 62 #[.val (.ref a1), .val (.long q2), .second, .val (.ref a3), .val .null, .val (.long (0 : Int64)), .second, .val (.ref a4), .val (.ref a5), .val (.ref a6), .val (.int p7), .val (.int p8), .val (.ref w_IGNORE), .val (.int (0 : Int32))] []) _
    refine XS.aloadN X20.here hx rfl (hb hby d12_62) rfl rfl ?_
    refine XS.iload X20.here hx rfl (hb hby d12_63) rfl ?_
    show Sp p e below T20 (mkF m 65 #[.val (.ref a1), .val (.long q2), .second, .val (.ref a3), .val .null, .val (.long (0 : Int64)), .second, .val (.ref a4), .val (.ref a5), .val (.ref a6), .val (.int p7), .val (.int p8), .val (.ref w_IGNORE), .val (.int (0 : Int32))] [(.int (0 : Int32)), (.ref a1)]) _
    refine st22 _ ?_
    show Sp p e below T22 (mkF m 68 #[.val (.ref a1), .val (.long q2), .second, .val (.ref a3), .val .null, .val (.long (0 : Int64)), .second, .val (.ref a4), .val (.ref a5), .val (.ref a6), .val (.int p7), .val (.int p8), .val (.ref w_IGNORE), .val (.int (0 : Int32))] []) _
    exact X22.returnOut hx Bd.returns (hb hby d12_68) hr
  · show Q10 Z w_PENDING w_IGNORE cs_v a1 q2 a3 a4 a5 a6 p7 p8 h0 n0 _ T22.heap _
    rw [e22]
    exact ⟨rfl, N22, K22, ((((f_14.wr W16).wr W18).wr W20).wr W22), f_23, (Fw20.other W22 (Or.inr (sn60 hw))), Fw22, f_24, f_25, f_26, f_27, f_28, f_29, f_30, f_31⟩
theorem pd_9 : parseMethodDescriptor "(JLjava/lang/String;Ljava/lang/String;JLjava/lang/String;Ljava/lang/String;[BIILcom/example/graph_job_runner/graphjobrunner/FailStrategy;Z)V" = some ⟨[.long, (.object "java/lang/String"), (.object "java/lang/String"), .long, (.object "java/lang/String"), (.object "java/lang/String"), (.array .byte), .int, .int, (.object "com/example/graph_job_runner/graphjobrunner/FailStrategy"), .boolean], none⟩ := by decide +kernel
theorem d11_22 : decode prog_3_method_1_code 22 = .ok (.return_, 1) := by decide +kernel
abbrev y10 : MethodName := (⟨"com/example/graph_job_runner/graphjobrunner/ClaimedNode", "<init>", "(JLjava/lang/String;Ljava/lang/String;Ljava/lang/String;[BIILcom/example/graph_job_runner/graphjobrunner/FailStrategy;Z)V"⟩ : MethodName)
theorem ef_11_0 (m : MethodId) (x0 : Addr) (x1 : Int64) (x2 : Addr) (x3 : Addr) (x4 : Addr) (x5 : Addr) (x6 : Int32) (x7 : Int32) (x8 : Addr) (x9 : Int32) : entryFrame m #[(.ref x0), (.long x1), (.ref x2), (.ref x3), (.ref x4), (.ref x5), (.int x6), (.int x7), (.ref x8), (.int x9)] 11 = mkF m 0 #[.val (.ref x0), .val (.long x1), .second, .val (.ref x2), .val (.ref x3), .val (.ref x4), .val (.ref x5), .val (.int x6), .val (.int x7), .val (.ref x8), .val (.int x9)] [] := by first | (simp [entryFrame, mkF, argsToLocals, Value.category]; done) | rfl
def Q11 (Z : State) (w_PENDING : Addr) (w_IGNORE : Addr) (cs_v : Int32) (a1 : Addr) (q2 : Int64) (a3 : Addr) (a4 : Addr) (a5 : Addr) (a6 : Addr) (p7 : Int32) (p8 : Int32) (h0 : Heap) (n0 : Nat) (v : Option Value) (h : Heap) (L : List Loc) : Prop := v = none ∧ Fr n0 L ∧ Keep h0 h [a1] ∧ Exa Z h a1 "com/example/graph_job_runner/graphjobrunner/ClaimedNode" ∧ Fld Z h a1 "com/example/graph_job_runner/graphjobrunner/ClaimedNode" "attempt" "I" (.int p7) ∧ Fld Z h a1 "com/example/graph_job_runner/graphjobrunner/ClaimedNode" "failStrategy" "Lcom/example/graph_job_runner/graphjobrunner/FailStrategy;" (.ref w_IGNORE) ∧ Fld Z h a1 "com/example/graph_job_runner/graphjobrunner/ClaimedNode" "hasChildren" "Z" (.int (0 : Int32)) ∧ Fld Z h a1 "com/example/graph_job_runner/graphjobrunner/ClaimedNode" "id" "J" (.long q2) ∧ Fld Z h a1 "com/example/graph_job_runner/graphjobrunner/ClaimedNode" "nodeKey" "Ljava/lang/String;" (.ref a4) ∧ Fld Z h a1 "com/example/graph_job_runner/graphjobrunner/ClaimedNode" "payload" "[B" (.ref a6) ∧ Fld Z h a1 "com/example/graph_job_runner/graphjobrunner/ClaimedNode" "position" "J" (.long (0 : Int64)) ∧ Fld Z h a1 "com/example/graph_job_runner/graphjobrunner/ClaimedNode" "processor" "Ljava/lang/String;" (.ref a5) ∧ Fld Z h a1 "com/example/graph_job_runner/graphjobrunner/ClaimedNode" "retryLimit" "I" (.int p8) ∧ Fld Z h a1 "com/example/graph_job_runner/graphjobrunner/ClaimedNode" "runKey" "Ljava/lang/String;" (.ref a3) ∧ Fld Z h a1 "com/example/graph_job_runner/graphjobrunner/ClaimedNode" "streamKey" "Ljava/lang/String;" .null
set_option maxRecDepth 65536 in
set_option maxHeartbeats 40000000 in
theorem rm11 (l : Launch) (Z : State) (a0 : Array Value) (hw : ∀ d ∈ tables_1, d.before a0 Z = true) (ws : List Jvm.Cond) (w_PENDING w_IGNORE : Addr) (cs_v : Int32) (hp : Perm Z w_PENDING w_IGNORE cs_v) (a1 : Addr) (q2 : Int64) (a3 : Addr) (a4 : Addr) (a5 : Addr) (a6 : Addr) (p7 : Int32) (p8 : Int32) (h0 : Heap) (n0 : Nat) (O0 : Old Z n0 h0) (E_a1 : Exa Z h0 a1 "com/example/graph_job_runner/graphjobrunner/ClaimedNode") (F_id_a1 : Fld Z h0 a1 "com/example/graph_job_runner/graphjobrunner/ClaimedNode" "id" "J" (.long (0 : Int64))) (F_runKey_a1 : Fld Z h0 a1 "com/example/graph_job_runner/graphjobrunner/ClaimedNode" "runKey" "Ljava/lang/String;" .null) (F_streamKey_a1 : Fld Z h0 a1 "com/example/graph_job_runner/graphjobrunner/ClaimedNode" "streamKey" "Ljava/lang/String;" .null) (F_position_a1 : Fld Z h0 a1 "com/example/graph_job_runner/graphjobrunner/ClaimedNode" "position" "J" (.long (0 : Int64))) (F_nodeKey_a1 : Fld Z h0 a1 "com/example/graph_job_runner/graphjobrunner/ClaimedNode" "nodeKey" "Ljava/lang/String;" .null) (F_processor_a1 : Fld Z h0 a1 "com/example/graph_job_runner/graphjobrunner/ClaimedNode" "processor" "Ljava/lang/String;" .null) (F_payload_a1 : Fld Z h0 a1 "com/example/graph_job_runner/graphjobrunner/ClaimedNode" "payload" "[B" .null) (F_attempt_a1 : Fld Z h0 a1 "com/example/graph_job_runner/graphjobrunner/ClaimedNode" "attempt" "I" (.int (0 : Int32))) (F_retryLimit_a1 : Fld Z h0 a1 "com/example/graph_job_runner/graphjobrunner/ClaimedNode" "retryLimit" "I" (.int (0 : Int32))) (F_failStrategy_a1 : Fld Z h0 a1 "com/example/graph_job_runner/graphjobrunner/ClaimedNode" "failStrategy" "Lcom/example/graph_job_runner/graphjobrunner/FailStrategy;" .null) (F_hasChildren_a1 : Fld Z h0 a1 "com/example/graph_job_runner/graphjobrunner/ClaimedNode" "hasChildren" "Z" (.int (0 : Int32))) (g_a1 : n0 ≤ a1) :
    MetFree l y10 (head1 (Jvm.Cond.code y10 prog_3_method_1_code 11 none :: ws) ({ frames := 2, cells := 0, slots := 0, locals := 37 } : Room)) (fun a U => a = #[(.ref a1), (.long q2), (.ref a3), (.ref a4), (.ref a5), (.ref a6), (.int p7), (.int p8), (.ref w_IGNORE), (.int (0 : Int32))] ∧ Z.Warmed39 U.vm ∧ U.heap = h0) (fun _ _ _ _ _ => True) (fun _ U o U' => ∃ v L, o = .returned v ∧ Q11 Z w_PENDING w_IGNORE cs_v a1 q2 a3 a4 a5 a6 p7 p8 h0 n0 v U'.heap L ∧ FrameEnd U o U' L ({ frames := 2, cells := 0, slots := 0, locals := 37 } : Room).cells ({ frames := 2, cells := 0, slots := 0, locals := 37 } : Room).slots) := by
  refine MetFree.of_bodySF (plainFor_of_name pn_12) hisR ?_
  intro p e s m args below meth c s₁ Bd hml0 hP hK
  obtain ⟨rfl, hZ, hh⟩ := hP
  have hx := Bd.exec
  have hby := Bd.bytes
  have hml : c.maxLocals = 11 := hml0
  have hown : s.vm.findClass "com/example/graph_job_runner/graphjobrunner/ClaimedNode" = some m.cls := findClass_of_methodNamed Bd.named
  have hnm := (name_of_methodNamed Bd.named Bd.method).1
  have X0 : Stand p l e ({ frames := 2, cells := 0, slots := 0, locals := 37 } : Room) s m #[(.ref a1), (.long q2), (.ref a3), (.ref a4), (.ref a5), (.ref a6), (.int p7), (.int p8), (.ref w_IGNORE), (.int (0 : Int32))] below meth c s₁ [] 0 0 := Stand.of_body Bd
  have e0 : s₁.heap = h0 := by rw [← hh, Bd.state]; rfl
  have N0 := Fr.nil n0
  have hp' := hp
  obtain ⟨S_w_PENDING, E_w_PENDING, S_w_IGNORE, E_w_IGNORE, S_COMPACT_STRINGS, h_cs⟩ := hp'
  have pre0 : ∀ t, Steps p.tables e below (s₁.setTop (mkF m 0 #[.val (.ref a1), .val (.long q2), .second, .val (.ref a3), .val (.ref a4), .val (.ref a5), .val (.ref a6), .val (.int p7), .val (.int p8), .val (.ref w_IGNORE), .val (.int (0 : Int32))] [])) t → Steps p.tables e below (s₁.setTop (entryFrame m #[(.ref a1), (.long q2), (.ref a3), (.ref a4), (.ref a5), (.ref a6), (.int p7), (.int p8), (.ref w_IGNORE), (.int (0 : Int32))] 11)) t := fun t k => castTop (ef_11_0 m a1 q2 a3 a4 a5 a6 p7 p8 w_IGNORE (0 : Int32)) k
  obtain ⟨_, _, ⟨T1, L1, k1, n1⟩, -, X1, ⟨Lc1, hQ1, l1, y1, z1⟩, st1⟩ := X0.specialBack hx (y := y9) rfl hown (mvT hZ (hw _ (List.mem_of_getElem? (i := 53) rfl))) (mvT hZ (hw _ (List.mem_of_getElem? (i := 54) rfl))) (mvT hZ (hw _ (List.mem_of_getElem? (i := 55) rfl))) (by decide) (backOf (W := 0) (rm10 l Z a0 hw [] w_PENDING w_IGNORE cs_v hp a1 q2 a3 a4 a5 a6 p7 p8 h0 n0 O0 E_a1 F_id_a1 F_runKey_a1 F_streamKey_a1 F_position_a1 F_nodeKey_a1 F_processor_a1 F_payload_a1 F_attempt_a1 F_retryLimit_a1 F_failStrategy_a1 F_hasChildren_a1 g_a1) hZ (hw _ (List.mem_of_getElem? (i := 55) rfl)) (hw _ (List.mem_of_getElem? (i := 49) rfl)) (by decide) (by decide)) (g := (mkF m 19 #[.val (.ref a1), .val (.long q2), .second, .val (.ref a3), .val (.ref a4), .val (.ref a5), .val (.ref a6), .val (.int p7), .val (.int p8), .val (.ref w_IGNORE), .val (.int (0 : Int32))] [(.int (0 : Int32)), (.ref w_IGNORE), (.int p8), (.int p7), (.ref a6), (.ref a5), (.ref a4), (.long (0 : Int64)), .null, (.ref a3), (.long q2), (.ref a1)])) rfl (by rw [hml]; rfl) (Steps.refl _) (a := a1) (argsL := [(.long q2), (.ref a3), .null, (.long (0 : Int64)), (.ref a4), (.ref a5), (.ref a6), (.int p7), (.int p8), (.ref w_IGNORE), (.int (0 : Int32))]) (rest := []) (lenOf pd_9 rfl) rfl (by show 2 * 0 + _ ≤ _; exact Nat.le_of_eq rfl) (hb hby d11_19) (fun _ _ => ⟨rfl, e0, (by decide : 0 + 0 ≤ _), (by decide : 0 + 0 ≤ _)⟩)
  dsimp only [Pt.U, Pt.locs, Pt.cells, Pt.slots] at X1 l1 y1 z1 st1 hQ1
  subst l1 y1 z1
  obtain ⟨rfl, Nq1, Kq1, fq1_0, fq1_1, fq1_2, fq1_3, fq1_4, fq1_5, fq1_6, fq1_7, fq1_8, fq1_9, fq1_10, fq1_11⟩ := hQ1
  have N1 := Fr.app N0 Nq1
  have O1 := O0.keep Kq1 (allS g_a1 all0)
  have K1 : Keep h0 T1.heap [a1] := (Keep.refl h0 [a1]).trans Kq1 (allS (Or.inl (List.mem_of_getElem? (i := 0) rfl)) all0)
  obtain ⟨fs, hr, hrun, hended, hW, hsame⟩ := X1.leave (v := none) (fun _ => rfl)
  refine ⟨_, _, pre0 _ ?_, hrun, hended, _, _, rfl, ?_, ⟨_, rfl⟩, hW, hsame.mono (by decide) (by decide)⟩
  · show Sp p e below s₁ (mkF m 0 #[.val (.ref a1), .val (.long q2), .second, .val (.ref a3), .val (.ref a4), .val (.ref a5), .val (.ref a6), .val (.int p7), .val (.int p8), .val (.ref w_IGNORE), .val (.int (0 : Int32))] []) _
    refine XS.aloadN X0.here hx rfl (hb hby d11_0) rfl rfl ?_
    refine XS.lloadN X0.here hx rfl (hb hby d11_1) rfl ?_
    refine XS.aloadN X0.here hx rfl (hb hby d11_2) rfl rfl ?_
    refine XS.aconstNull X0.here hx rfl (hb hby d11_3) ?_
    refine XS.lconst X0.here hx rfl (hb hby d11_4) ?_
    refine XS.aload X0.here hx rfl (hb hby d11_5) rfl rfl ?_
    refine XS.aload X0.here hx rfl (hb hby d11_7) rfl rfl ?_
    refine XS.aload X0.here hx rfl (hb hby d11_9) rfl rfl ?_
    refine XS.iload X0.here hx rfl (hb hby d11_11) rfl ?_
    refine XS.iload X0.here hx rfl (hb hby d11_13) rfl ?_
    refine XS.aload X0.here hx rfl (hb hby d11_15) rfl rfl ?_
    refine XS.iload X0.here hx rfl (hb hby d11_17) rfl ?_
    show Sp p e below s₁ (mkF m 19 #[.val (.ref a1), .val (.long q2), .second, .val (.ref a3), .val (.ref a4), .val (.ref a5), .val (.ref a6), .val (.int p7), .val (.int p8), .val (.ref w_IGNORE), .val (.int (0 : Int32))] [(.int (0 : Int32)), (.ref w_IGNORE), (.int p8), (.int p7), (.ref a6), (.ref a5), (.ref a4), (.long (0 : Int64)), .null, (.ref a3), (.long q2), (.ref a1)]) _
    refine st1.trans ?_
    show Sp p e below T1 (mkF m 22 #[.val (.ref a1), .val (.long q2), .second, .val (.ref a3), .val (.ref a4), .val (.ref a5), .val (.ref a6), .val (.int p7), .val (.int p8), .val (.ref w_IGNORE), .val (.int (0 : Int32))] []) _
    exact X1.returnOut hx Bd.returns (hb hby d11_22) hr
  · show Q11 Z w_PENDING w_IGNORE cs_v a1 q2 a3 a4 a5 a6 p7 p8 h0 n0 _ T1.heap _
    exact ⟨rfl, N1, K1, fq1_0, fq1_1, fq1_2, fq1_3, fq1_4, fq1_5, fq1_6, fq1_7, fq1_8, fq1_9, fq1_10, fq1_11⟩
theorem pd_10 : parseMethodDescriptor "(JLjava/lang/String;Ljava/lang/String;Ljava/lang/String;[BIILcom/example/graph_job_runner/graphjobrunner/FailStrategy;Z)V" = some ⟨[.long, (.object "java/lang/String"), (.object "java/lang/String"), (.object "java/lang/String"), (.array .byte), .int, .int, (.object "com/example/graph_job_runner/graphjobrunner/FailStrategy"), .boolean], none⟩ := by decide +kernel
theorem d13_0 : decode prog_3_method_5_code 0 = .ok (.aload_n 0, 1) := by decide +kernel
theorem d13_1 : decode prog_3_method_5_code 1 = .ok (.getfield 20, 3) := by decide +kernel
theorem d13_4 : decode prog_3_method_5_code 4 = .ok (.ifnull 7, 3) := by decide +kernel
theorem d13_11 : decode prog_3_method_5_code 11 = .ok (.iconst 0, 1) := by decide +kernel
theorem d13_12 : decode prog_3_method_5_code 12 = .ok (.ireturn, 1) := by decide +kernel
abbrev y11 : MethodName := (⟨"com/example/graph_job_runner/graphjobrunner/ClaimedNode", "inStream", "()Z"⟩ : MethodName)
theorem ef_13_0 (m : MethodId) (x0 : Addr) : entryFrame m #[(.ref x0)] 1 = mkF m 0 #[.val (.ref x0)] [] := by first | (simp [entryFrame, mkF, argsToLocals, Value.category]; done) | rfl
def Q12 (Z : State) (w_PENDING : Addr) (w_IGNORE : Addr) (cs_v : Int32) (a1 : Addr) (h0 : Heap) (n0 : Nat) (v : Option Value) (h : Heap) (L : List Loc) : Prop := v = some (.int (0 : Int32)) ∧ Fr n0 L ∧ h = h0
set_option maxRecDepth 65536 in
set_option maxHeartbeats 40000000 in
theorem rm12 (l : Launch) (Z : State) (a0 : Array Value) (hw : ∀ d ∈ tables_1, d.before a0 Z = true) (ws : List Jvm.Cond) (w_PENDING w_IGNORE : Addr) (cs_v : Int32) (hp : Perm Z w_PENDING w_IGNORE cs_v) (a1 : Addr) (h0 : Heap) (n0 : Nat) (O0 : Old Z n0 h0) (F_streamKey_a1 : Fld Z h0 a1 "com/example/graph_job_runner/graphjobrunner/ClaimedNode" "streamKey" "Ljava/lang/String;" .null) :
    MetFree l y11 (head1 (Jvm.Cond.code y11 prog_3_method_5_code 1 (some .boolean) :: ws) ({ frames := 0, cells := 0, slots := 0, locals := 0 } : Room)) (fun a U => a = #[(.ref a1)] ∧ Z.Warmed39 U.vm ∧ U.heap = h0) (fun _ _ _ _ _ => True) (fun _ U o U' => ∃ v L, o = .returned v ∧ Q12 Z w_PENDING w_IGNORE cs_v a1 h0 n0 v U'.heap L ∧ FrameEnd U o U' L ({ frames := 0, cells := 0, slots := 0, locals := 0 } : Room).cells ({ frames := 0, cells := 0, slots := 0, locals := 0 } : Room).slots) := by
  refine MetFree.of_bodySF (plainFor_of_name pn_12) hisR ?_
  intro p e s m args below meth c s₁ Bd hml0 hP hK
  obtain ⟨rfl, hZ, hh⟩ := hP
  have hx := Bd.exec
  have hby := Bd.bytes
  have hml : c.maxLocals = 1 := hml0
  have hown : s.vm.findClass "com/example/graph_job_runner/graphjobrunner/ClaimedNode" = some m.cls := findClass_of_methodNamed Bd.named
  have hnm := (name_of_methodNamed Bd.named Bd.method).1
  have X0 : Stand p l e ({ frames := 0, cells := 0, slots := 0, locals := 0 } : Room) s m #[(.ref a1)] below meth c s₁ [] 0 0 := Stand.of_body Bd
  have e0 : s₁.heap = h0 := by rw [← hh, Bd.state]; rfl
  have N0 := Fr.nil n0
  have hp' := hp
  obtain ⟨S_w_PENDING, E_w_PENDING, S_w_IGNORE, E_w_IGNORE, S_COMPACT_STRINGS, h_cs⟩ := hp'
  have pre0 : ∀ t, Steps p.tables e below (s₁.setTop (mkF m 0 #[.val (.ref a1)] [])) t → Steps p.tables e below (s₁.setTop (entryFrame m #[(.ref a1)] 1)) t := fun t k => castTop (ef_13_0 m a1) k
  obtain ⟨T1, X1, e1, st1⟩ := getF X0 hx hZ hown (host := "") (Or.inl (hw _ (List.mem_of_getElem? (i := 61) rfl))) Via.refl e0 F_streamKey_a1 (g := (mkF m 1 #[.val (.ref a1)] [(.ref a1)])) rfl rfl (hb hby d13_1)
  obtain ⟨fs, hr, hrun, hended, hW, hsame⟩ := X1.leave (v := some (.int (0 : Int32))) (fun h => by rw [Bd.returns] at h; cases h)
  refine ⟨_, _, pre0 _ ?_, hrun, hended, _, _, rfl, ?_, ⟨_, rfl⟩, hW, hsame.mono (by decide) (by decide)⟩
  · show Sp p e below s₁ (mkF m 0 #[.val (.ref a1)] []) _
    refine XS.aloadN X0.here hx rfl (hb hby d13_0) rfl rfl ?_
    show Sp p e below s₁ (mkF m 1 #[.val (.ref a1)] [(.ref a1)]) _
    refine st1 _ ?_
    show Sp p e below T1 (mkF m 4 #[.val (.ref a1)] [.null]) _
    refine XS.ifnullYes X1.here hx rfl (pc0 := 4) (pc' := 11) rfl (hb hby d13_4) rfl (by decide) (by decide) ?_
    refine XS.iconst X1.here hx rfl (hb hby d13_11) ?_
    show Sp p e below T1 (mkF m 12 #[.val (.ref a1)] [(.int (0 : Int32))]) _
    exact retN X1 hx (t := .boolean) Bd.returns (by simp) (hb hby d13_12) hr
  · show Q12 Z w_PENDING w_IGNORE cs_v a1 h0 n0 _ T1.heap _
    rw [e1]
    exact ⟨rfl, N0, rfl⟩
theorem pd_11 : parseMethodDescriptor "()Z" = some ⟨[], some .boolean⟩ := by decide +kernel
theorem d14_0 : decode prog_3_method_6_code 0 = .ok (.aload_n 0, 1) := by decide +kernel
theorem d14_1 : decode prog_3_method_6_code 1 = .ok (.getfield 16, 3) := by decide +kernel
theorem d14_4 : decode prog_3_method_6_code 4 = .ok (.areturn, 1) := by decide +kernel
abbrev y12 : MethodName := (⟨"com/example/graph_job_runner/graphjobrunner/ClaimedNode", "runKey", "()Ljava/lang/String;"⟩ : MethodName)
theorem ef_14_0 (m : MethodId) (x0 : Addr) : entryFrame m #[(.ref x0)] 1 = mkF m 0 #[.val (.ref x0)] [] := by first | (simp [entryFrame, mkF, argsToLocals, Value.category]; done) | rfl
def Q13 (Z : State) (w_PENDING : Addr) (w_IGNORE : Addr) (cs_v : Int32) (a1 : Addr) (a2 : Addr) (h0 : Heap) (n0 : Nat) (v : Option Value) (h : Heap) (L : List Loc) : Prop := v = some (.ref a2) ∧ Fr n0 L ∧ h = h0
set_option maxRecDepth 65536 in
set_option maxHeartbeats 40000000 in
theorem rm13 (l : Launch) (Z : State) (a0 : Array Value) (hw : ∀ d ∈ tables_1, d.before a0 Z = true) (ws : List Jvm.Cond) (w_PENDING w_IGNORE : Addr) (cs_v : Int32) (hp : Perm Z w_PENDING w_IGNORE cs_v) (a1 : Addr) (a2 : Addr) (h0 : Heap) (n0 : Nat) (O0 : Old Z n0 h0) (F_runKey_a1 : Fld Z h0 a1 "com/example/graph_job_runner/graphjobrunner/ClaimedNode" "runKey" "Ljava/lang/String;" (.ref a2)) :
    MetFree l y12 (head1 (Jvm.Cond.code y12 prog_3_method_6_code 1 (some (.object "java/lang/String")) :: ws) ({ frames := 0, cells := 0, slots := 0, locals := 0 } : Room)) (fun a U => a = #[(.ref a1)] ∧ Z.Warmed39 U.vm ∧ U.heap = h0) (fun _ _ _ _ _ => True) (fun _ U o U' => ∃ v L, o = .returned v ∧ Q13 Z w_PENDING w_IGNORE cs_v a1 a2 h0 n0 v U'.heap L ∧ FrameEnd U o U' L ({ frames := 0, cells := 0, slots := 0, locals := 0 } : Room).cells ({ frames := 0, cells := 0, slots := 0, locals := 0 } : Room).slots) := by
  refine MetFree.of_bodySF (plainFor_of_name pn_12) hisR ?_
  intro p e s m args below meth c s₁ Bd hml0 hP hK
  obtain ⟨rfl, hZ, hh⟩ := hP
  have hx := Bd.exec
  have hby := Bd.bytes
  have hml : c.maxLocals = 1 := hml0
  have hown : s.vm.findClass "com/example/graph_job_runner/graphjobrunner/ClaimedNode" = some m.cls := findClass_of_methodNamed Bd.named
  have hnm := (name_of_methodNamed Bd.named Bd.method).1
  have X0 : Stand p l e ({ frames := 0, cells := 0, slots := 0, locals := 0 } : Room) s m #[(.ref a1)] below meth c s₁ [] 0 0 := Stand.of_body Bd
  have e0 : s₁.heap = h0 := by rw [← hh, Bd.state]; rfl
  have N0 := Fr.nil n0
  have hp' := hp
  obtain ⟨S_w_PENDING, E_w_PENDING, S_w_IGNORE, E_w_IGNORE, S_COMPACT_STRINGS, h_cs⟩ := hp'
  have pre0 : ∀ t, Steps p.tables e below (s₁.setTop (mkF m 0 #[.val (.ref a1)] [])) t → Steps p.tables e below (s₁.setTop (entryFrame m #[(.ref a1)] 1)) t := fun t k => castTop (ef_14_0 m a1) k
  obtain ⟨T1, X1, e1, st1⟩ := getF X0 hx hZ hown (host := "") (Or.inl (hw _ (List.mem_of_getElem? (i := 59) rfl))) Via.refl e0 F_runKey_a1 (g := (mkF m 1 #[.val (.ref a1)] [(.ref a1)])) rfl rfl (hb hby d14_1)
  obtain ⟨fs, hr, hrun, hended, hW, hsame⟩ := X1.leave (v := some (.ref a2)) (fun h => by rw [Bd.returns] at h; cases h)
  refine ⟨_, _, pre0 _ ?_, hrun, hended, _, _, rfl, ?_, ⟨_, rfl⟩, hW, hsame.mono (by decide) (by decide)⟩
  · show Sp p e below s₁ (mkF m 0 #[.val (.ref a1)] []) _
    refine XS.aloadN X0.here hx rfl (hb hby d14_0) rfl rfl ?_
    show Sp p e below s₁ (mkF m 1 #[.val (.ref a1)] [(.ref a1)]) _
    refine st1 _ ?_
    show Sp p e below T1 (mkF m 4 #[.val (.ref a1)] [(.ref a2)]) _
    jvm_step X1.here [X1.here.top, hx, (hb hby d14_4), X1.method', Bd.returns, Value.isRef, FieldType.isReference]
    first | (intro acts; rw [hr _ acts rfl rfl rfl]) | rw [hr _ _ rfl rfl rfl]
    exact Steps.refl _
  · show Q13 Z w_PENDING w_IGNORE cs_v a1 a2 h0 n0 _ T1.heap _
    rw [e1]
    exact ⟨rfl, N0, rfl⟩
theorem pd_12 : parseMethodDescriptor "()Ljava/lang/String;" = some ⟨[], some (.object "java/lang/String")⟩ := by decide +kernel
theorem d15_0 : decode prog_3_method_7_code 0 = .ok (.aload_n 0, 1) := by decide +kernel
theorem d15_1 : decode prog_3_method_7_code 1 = .ok (.getfield 20, 3) := by decide +kernel
theorem d15_4 : decode prog_3_method_7_code 4 = .ok (.areturn, 1) := by decide +kernel
abbrev y13 : MethodName := (⟨"com/example/graph_job_runner/graphjobrunner/ClaimedNode", "streamKey", "()Ljava/lang/String;"⟩ : MethodName)
theorem ef_15_0 (m : MethodId) (x0 : Addr) : entryFrame m #[(.ref x0)] 1 = mkF m 0 #[.val (.ref x0)] [] := by first | (simp [entryFrame, mkF, argsToLocals, Value.category]; done) | rfl
def Q14 (Z : State) (w_PENDING : Addr) (w_IGNORE : Addr) (cs_v : Int32) (a1 : Addr) (h0 : Heap) (n0 : Nat) (v : Option Value) (h : Heap) (L : List Loc) : Prop := v = some .null ∧ Fr n0 L ∧ h = h0
set_option maxRecDepth 65536 in
set_option maxHeartbeats 40000000 in
theorem rm14 (l : Launch) (Z : State) (a0 : Array Value) (hw : ∀ d ∈ tables_1, d.before a0 Z = true) (ws : List Jvm.Cond) (w_PENDING w_IGNORE : Addr) (cs_v : Int32) (hp : Perm Z w_PENDING w_IGNORE cs_v) (a1 : Addr) (h0 : Heap) (n0 : Nat) (O0 : Old Z n0 h0) (F_streamKey_a1 : Fld Z h0 a1 "com/example/graph_job_runner/graphjobrunner/ClaimedNode" "streamKey" "Ljava/lang/String;" .null) :
    MetFree l y13 (head1 (Jvm.Cond.code y13 prog_3_method_7_code 1 (some (.object "java/lang/String")) :: ws) ({ frames := 0, cells := 0, slots := 0, locals := 0 } : Room)) (fun a U => a = #[(.ref a1)] ∧ Z.Warmed39 U.vm ∧ U.heap = h0) (fun _ _ _ _ _ => True) (fun _ U o U' => ∃ v L, o = .returned v ∧ Q14 Z w_PENDING w_IGNORE cs_v a1 h0 n0 v U'.heap L ∧ FrameEnd U o U' L ({ frames := 0, cells := 0, slots := 0, locals := 0 } : Room).cells ({ frames := 0, cells := 0, slots := 0, locals := 0 } : Room).slots) := by
  refine MetFree.of_bodySF (plainFor_of_name pn_12) hisR ?_
  intro p e s m args below meth c s₁ Bd hml0 hP hK
  obtain ⟨rfl, hZ, hh⟩ := hP
  have hx := Bd.exec
  have hby := Bd.bytes
  have hml : c.maxLocals = 1 := hml0
  have hown : s.vm.findClass "com/example/graph_job_runner/graphjobrunner/ClaimedNode" = some m.cls := findClass_of_methodNamed Bd.named
  have hnm := (name_of_methodNamed Bd.named Bd.method).1
  have X0 : Stand p l e ({ frames := 0, cells := 0, slots := 0, locals := 0 } : Room) s m #[(.ref a1)] below meth c s₁ [] 0 0 := Stand.of_body Bd
  have e0 : s₁.heap = h0 := by rw [← hh, Bd.state]; rfl
  have N0 := Fr.nil n0
  have hp' := hp
  obtain ⟨S_w_PENDING, E_w_PENDING, S_w_IGNORE, E_w_IGNORE, S_COMPACT_STRINGS, h_cs⟩ := hp'
  have pre0 : ∀ t, Steps p.tables e below (s₁.setTop (mkF m 0 #[.val (.ref a1)] [])) t → Steps p.tables e below (s₁.setTop (entryFrame m #[(.ref a1)] 1)) t := fun t k => castTop (ef_15_0 m a1) k
  obtain ⟨T1, X1, e1, st1⟩ := getF X0 hx hZ hown (host := "") (Or.inl (hw _ (List.mem_of_getElem? (i := 61) rfl))) Via.refl e0 F_streamKey_a1 (g := (mkF m 1 #[.val (.ref a1)] [(.ref a1)])) rfl rfl (hb hby d15_1)
  obtain ⟨fs, hr, hrun, hended, hW, hsame⟩ := X1.leave (v := some .null) (fun h => by rw [Bd.returns] at h; cases h)
  refine ⟨_, _, pre0 _ ?_, hrun, hended, _, _, rfl, ?_, ⟨_, rfl⟩, hW, hsame.mono (by decide) (by decide)⟩
  · show Sp p e below s₁ (mkF m 0 #[.val (.ref a1)] []) _
    refine XS.aloadN X0.here hx rfl (hb hby d15_0) rfl rfl ?_
    show Sp p e below s₁ (mkF m 1 #[.val (.ref a1)] [(.ref a1)]) _
    refine st1 _ ?_
    show Sp p e below T1 (mkF m 4 #[.val (.ref a1)] [.null]) _
    jvm_step X1.here [X1.here.top, hx, (hb hby d15_4), X1.method', Bd.returns, Value.isRef, FieldType.isReference]
    first | (intro acts; rw [hr _ acts rfl rfl rfl]) | rw [hr _ _ rfl rfl rfl]
    exact Steps.refl _
  · show Q14 Z w_PENDING w_IGNORE cs_v a1 h0 n0 _ T1.heap _
    rw [e1]
    exact ⟨rfl, N0, rfl⟩
theorem ef_0_0 (m : MethodId) (x0 : Int64) (x1 : Int64) (x2 : Int32) (x3 : Int32) (x4 : Int32) (x5 : Int32) : entryFrame m #[(.long x0), (.long x1), (.int x2), (.int x3), (.int x4), (.int x5)] maxLocals = mkF m 0 #[.val (.long x0), .second, .val (.long x1), .second, .val (.int x2), .val (.int x3), .val (.int x4), .val (.int x5), .unset, .unset, .unset, .unset, .unset, .unset, .unset, .unset, .unset] [] := by first | (simp [entryFrame, mkF, argsToLocals, Value.category, maxLocals]; done) | rfl
theorem pn_0 : plainName "com/example/graph_job_runner/graphjobrunner/ClaimedNodeInStreamPinLaw" = true := by first | (simp [plainName, overriddenIn]; done) | decide +kernel
set_option maxRecDepth 65536 in
set_option maxHeartbeats 40000000 in
theorem rm15 (l : Launch) (Z : State) (a0 : Array Value) (hw : ∀ d ∈ tables_1, d.before a0 Z = true) (ws : List Jvm.Cond) (w_PENDING w_IGNORE : Addr) (cs_v : Int32) (hp : Perm Z w_PENDING w_IGNORE cs_v) (p0 : Int64) (p1 : Int64) (p2 : Int32) (p3 : Int32) (p4 : Int32) (p5 : Int32) (h0 : Heap) (n0 : Nat) (O0 : Old Z n0 h0) (hc1 : (p5 &&& (2 : Int32)) = (0 : Int32)) (hc2 : (p5 &&& (1 : Int32)) = (0 : Int32)) (hc3 : (p5 &&& (4 : Int32)) = (0 : Int32)) :
    MetFree l x (head1 (Jvm.Cond.code x code maxLocals ret :: ws) room_1) (fun a U => a = #[(.long p0), (.long p1), (.int p2), (.int p3), (.int p4), (.int p5)] ∧ Z.Warmed39 U.vm ∧ U.heap = h0) (fun _ _ _ _ _ => True) (fun _ U o U' => ∃ v L, o = .returned v ∧ (v = some (.int (1 : Int32)) ∧ Fr n0 L) ∧ FrameEnd U o U' L 32 128) := by
  refine MetFree.of_bodySF (plainFor_of_name pn_0) hisR ?_
  intro p e s m args below meth c s₁ Bd hml0 hP hK
  obtain ⟨rfl, hZ, hh⟩ := hP
  have hx := Bd.exec
  have hby := Bd.bytes
  have hml : c.maxLocals = 17 := hml0
  have hown : s.vm.findClass "com/example/graph_job_runner/graphjobrunner/ClaimedNodeInStreamPinLaw" = some m.cls := findClass_of_methodNamed Bd.named
  have hnm := (name_of_methodNamed Bd.named Bd.method).1
  have X0 : Stand p l e room_1 s m #[(.long p0), (.long p1), (.int p2), (.int p3), (.int p4), (.int p5)] below meth c s₁ [] 0 0 := Stand.of_body Bd
  have e0 : s₁.heap = h0 := by rw [← hh, Bd.state]; rfl
  have N0 := Fr.nil n0
  have hp' := hp
  obtain ⟨S_w_PENDING, E_w_PENDING, S_w_IGNORE, E_w_IGNORE, S_COMPACT_STRINGS, h_cs⟩ := hp'
  have pre0 : ∀ t, Steps p.tables e below (s₁.setTop (mkF m 0 #[.val (.long p0), .second, .val (.long p1), .second, .val (.int p2), .val (.int p3), .val (.int p4), .val (.int p5), .unset, .unset, .unset, .unset, .unset, .unset, .unset, .unset, .unset] [])) t → Steps p.tables e below (s₁.setTop (entryFrame m #[(.long p0), (.long p1), (.int p2), (.int p3), (.int p4), (.int p5)] maxLocals)) t := fun t k => castTop (ef_0_0 m p0 p1 p2 p3 p4 p5) k
  obtain ⟨T1, h1, k1, X1, e1, E1, A1, EA1, st1⟩ := newPE X0 hx hZ (hw _ (List.mem_of_getElem? (i := 0) rfl)) e0 (g := (mkF m 1 #[.val (.long p0), .second, .val (.long p1), .second, .val (.int p2), .val (.int p3), .val (.int p4), .val (.int p5), .unset, .unset, .unset, .unset, .unset, .unset, .unset, .unset, .unset] [(.int (2 : Int32))])) rfl (hb hby at_1) rfl (by decide) (cap := 2) (by decide) (by decide) (by decide) (by decide) (ad := "[C") (by decide)
  obtain ⟨b1, g1⟩ : ∃ z, z = h0.size := ⟨_, rfl⟩
  rw [← g1] at A1 EA1 st1
  have g_b1 : n0 ≤ b1 := Nat.le_trans (own_sz O0) (Nat.le_of_eq g1.symm)
  have sz_b1 : h0.size ≤ b1 := Nat.le_trans (Keep.refl h0 []).1 (Nat.le_of_eq g1.symm)
  have O1 := O0.ext E1
  have K1 : Keep h0 h1 [] := (Keep.refl h0 []).ext E1
  have V_b1 : Arv Z h1 b1 k1 .char (2 : Int32) [(.int (0 : Int32)), (.int (0 : Int32))] (.int (0 : Int32)) := (Arv.new A1 (by decide)).pad (pad_rep [] (.int (0 : Int32)) 2)
  obtain ⟨cl2, Ar2, q2, S2, Nn2, H2, G2⟩ := id V_b1
  have hin2 : ¬ ((0 : Int32) < 0 ∨ cl2.slots.size ≤ ((0 : Int32)).toNatClampNeg) := inb_of S2 ⟨by decide, by decide⟩
  obtain ⟨T3, h3, X3, e3, W3, st3⟩ := stC X1 hx hZ e1 Ar2 (j := (0 : Int32)) hin2 (g := (mkF m 15 #[.val (.long p0), .second, .val (.long p1), .second, .val (.int p2), .val (.int p3), .val (.int p4), .val (.int p5), .val (.ref b1), .unset, .unset, .unset, .unset, .unset, .unset, .unset, .unset] [(.int ((p4 &&& (255 : Int32)).toUInt32.toUInt16.toUInt32.toInt32)), (.int (0 : Int32)), (.ref b1)])) rfl rfl (hb hby at_15)
  have N3 := Fr.snoc X3 N0 g_b1
  have O3 := O1.wr W3 g_b1
  have K3 : Keep h0 h3 [] := K1.wr W3 (Or.inr sz_b1)
  have V_b1_3 : Arv Z h3 b1 k1 .char (2 : Int32) [(.int (nar .char ((p4 &&& (255 : Int32)).toUInt32.toUInt16.toUInt32.toInt32))), (.int (0 : Int32))] (.int (0 : Int32)) := Arv.set Ar2 q2 S2 Nn2 H2 G2 (fits_nar_char _) W3 0 rfl (Nat.le_of_ble_eq_true rfl)
  obtain ⟨cl4, Ar4, q4, S4, Nn4, H4, G4⟩ := id V_b1_3
  have hin4 : ¬ ((1 : Int32) < 0 ∨ cl4.slots.size ≤ ((1 : Int32)).toNatClampNeg) := inb_of S4 ⟨by decide, by decide⟩
  obtain ⟨T5, h5, X5, e5, W5, st5⟩ := stC X3 hx hZ e3 Ar4 (j := (1 : Int32)) hin4 (g := (mkF m 29 #[.val (.long p0), .second, .val (.long p1), .second, .val (.int p2), .val (.int p3), .val (.int p4), .val (.int p5), .val (.ref b1), .unset, .unset, .unset, .unset, .unset, .unset, .unset, .unset] [(.int ((((p4.toUInt32 >>> ((8 : Int32) &&& 31).toUInt32).toInt32) &&& (255 : Int32)).toUInt32.toUInt16.toUInt32.toInt32)), (.int (1 : Int32)), (.ref b1)])) rfl rfl (hb hby at_29)
  have N5 := Fr.snoc X5 N3 g_b1
  have O5 := O3.wr W5 g_b1
  have K5 : Keep h0 h5 [] := K3.wr W5 (Or.inr sz_b1)
  have V_b1_5 : Arv Z h5 b1 k1 .char (2 : Int32) [(.int (nar .char ((p4 &&& (255 : Int32)).toUInt32.toUInt16.toUInt32.toInt32))), (.int (nar .char ((((p4.toUInt32 >>> ((8 : Int32) &&& 31).toUInt32).toInt32) &&& (255 : Int32)).toUInt32.toUInt16.toUInt32.toInt32)))] (.int (0 : Int32)) := Arv.set Ar4 q4 S4 Nn4 H4 G4 (fits_nar_char _) W5 1 rfl (Nat.le_of_ble_eq_true rfl)
  obtain ⟨T6, h6, X6, e6, E6, A6, D6, -, st6⟩ := newO X5 hx hZ hown (hw _ (List.mem_of_getElem? (i := 1) rfl)) (hw _ (List.mem_of_getElem? (i := 2) rfl)) (hw _ (List.mem_of_getElem? (i := 3) rfl)) e5 (g := (mkF m 30 #[.val (.long p0), .second, .val (.long p1), .second, .val (.int p2), .val (.int p3), .val (.int p4), .val (.int p5), .val (.ref b1), .unset, .unset, .unset, .unset, .unset, .unset, .unset, .unset] [])) rfl (hb hby at_30) (by decide) (by decide)
  obtain ⟨b6, g6⟩ : ∃ z, z = h5.size := ⟨_, rfl⟩
  rw [← g6] at A6 D6 st6
  have g_b6 : n0 ≤ b6 := Nat.le_trans (own_sz O5) (Nat.le_of_eq g6.symm)
  have sz_b6 : h0.size ≤ b6 := Nat.le_trans K5.1 (Nat.le_of_eq g6.symm)
  have O6 := O5.ext E6
  have K6 : Keep h0 h6 [] := K5.ext E6
  have F_coder_b6 : Fld Z h6 b6 "java/lang/String" "coder" "B" (.int (0 : Int32)) := D6 (Or.inr (hw _ (List.mem_of_getElem? (i := 27) rfl))) (ty := .byte) (by decide)
  have F_value_b6 : Fld Z h6 b6 "java/lang/String" "value" "[B" .null := D6 (Or.inr (hw _ (List.mem_of_getElem? (i := 29) rfl))) (ty := (.array .byte)) (by decide)
  obtain ⟨_, _, ⟨T7, L7, k7, n7⟩, -, X7, ⟨Lc7, hQ7, l7, y7, z7⟩, st7⟩ := X6.specialBack hx (y := y4) rfl hown (mvT hZ (hw _ (List.mem_of_getElem? (i := 4) rfl))) (mvT hZ (hw _ (List.mem_of_getElem? (i := 5) rfl))) (mvT hZ (hw _ (List.mem_of_getElem? (i := 6) rfl))) (by decide) (backOf (W := 1) (rm5 l Z a0 hw [] w_PENDING w_IGNORE cs_v hp b6 b1 k1 (nar .char ((p4 &&& (255 : Int32)).toUInt32.toUInt16.toUInt32.toInt32)) (nar .char ((((p4.toUInt32 >>> ((8 : Int32) &&& 31).toUInt32).toInt32) &&& (255 : Int32)).toUInt32.toUInt16.toUInt32.toInt32)) h6 n0 O6 (V_b1_5.ext E6) (own_ch2 p4) (own_ch2 ((p4.toUInt32 >>> ((8 : Int32) &&& 31).toUInt32).toInt32)) (((EA1.wr W3).wr W5).ext E6) A6 F_coder_b6 F_value_b6 g_b6) hZ (hw _ (List.mem_of_getElem? (i := 6) rfl)) (hw _ (List.mem_of_getElem? (i := 3) rfl)) (by decide) (by decide)) (g := (mkF m 36 #[.val (.long p0), .second, .val (.long p1), .second, .val (.int p2), .val (.int p3), .val (.int p4), .val (.int p5), .val (.ref b1), .unset, .unset, .unset, .unset, .unset, .unset, .unset, .unset] [(.ref b1), (.ref b6), (.ref b6)])) rfl (by rw [hml]; rfl) (Steps.refl _) (a := b6) (argsL := [(.ref b1)]) (rest := [(.ref b6)]) (lenOf pd_4 rfl) rfl (by show 2 * 0 + _ ≤ _; exact Nat.le_of_eq rfl) (hb hby at_36) (fun _ _ => ⟨rfl, e6, (by decide : 2 + 1 ≤ _), (by decide : 6 + 2 ≤ _)⟩)
  dsimp only [Pt.U, Pt.locs, Pt.cells, Pt.slots] at X7 l7 y7 z7 st7 hQ7
  subst l7 y7 z7
  obtain ⟨b7_0, kc7_0, rfl, Nq7, Kq7, sq_b7_0, fq7_0, fq7_1, fq7_2, fq7_3, fq7_4⟩ := hQ7
  have N7 := Fr.app N5 Nq7
  have g_b7_0 : n0 ≤ b7_0 := Nat.le_trans (own_sz O6) sq_b7_0
  have sz_b7_0 : h0.size ≤ b7_0 := Nat.le_trans K6.1 sq_b7_0
  have O7 := O6.keep Kq7 (allS g_b6 all0)
  have K7 : Keep h0 T7.heap [] := K6.trans Kq7 (allS (Or.inr sz_b6) all0)
  obtain ⟨_, _, ⟨T8, L8, k8, n8⟩, -, X8, ⟨Lc8, hQ8, l8, y8, z8⟩, st8⟩ := Jvm.LawKit.callS X7 hx (y := y8) hown (mvT hZ (hw _ (List.mem_of_getElem? (i := 30) rfl))) (mvT hZ (hw _ (List.mem_of_getElem? (i := 31) rfl))) (mvT hZ (hw _ (List.mem_of_getElem? (i := 3) rfl))) (mvT hZ (hw _ (List.mem_of_getElem? (i := 32) rfl))) (by decide) (backOf (W := 0) (rm9 l Z a0 hw [] w_PENDING w_IGNORE cs_v hp ((((p4.toUInt32 >>> ((16 : Int32) &&& 31).toUInt32).toInt32) &&& (255 : Int32)).toUInt32.toUInt16.toUInt32.toInt32) T7.heap n0 O7 (own_ch1 ((p4.toUInt32 >>> ((16 : Int32) &&& 31).toUInt32).toInt32))) hZ (hw _ (List.mem_of_getElem? (i := 32) rfl)) (hw _ (List.mem_of_getElem? (i := 3) rfl)) (by decide) (by decide)) (g := (mkF m 51 #[.val (.long p0), .second, .val (.long p1), .second, .val (.int p2), .val (.int p3), .val (.int p4), .val (.int p5), .val (.ref b1), .val (.ref b6), .unset, .unset, .unset, .unset, .unset, .unset, .unset] [(.int ((((p4.toUInt32 >>> ((16 : Int32) &&& 31).toUInt32).toInt32) &&& (255 : Int32)).toUInt32.toUInt16.toUInt32.toInt32))])) rfl (by rw [hml]; rfl) (argsL := [(.int ((((p4.toUInt32 >>> ((16 : Int32) &&& 31).toUInt32).toInt32) &&& (255 : Int32)).toUInt32.toUInt16.toUInt32.toInt32))]) (rest := []) (lenOf pd_8 rfl) rfl (by show 2 * 0 + _ ≤ _; exact Nat.le_of_eq rfl) (hb hby at_51) (fun _ _ => ⟨rfl, rfl, (by decide : 3 + 2 ≤ _), (by decide : 8 + 5 ≤ _)⟩)
  dsimp only [Pt.U, Pt.locs, Pt.cells, Pt.slots] at X8 l8 y8 z8 st8 hQ8
  subst l8 y8 z8
  obtain ⟨b8_0, b8_1, kc8_0, rfl, Nq8, Kq8, sq_b8_0, sq_b8_1, nq8_0, fq8_0, fq8_1, fq8_2, fq8_3, fq8_4⟩ := hQ8
  have N8 := Fr.app N7 Nq8
  have g_b8_0 : n0 ≤ b8_0 := Nat.le_trans (own_sz O7) sq_b8_0
  have sz_b8_0 : h0.size ≤ b8_0 := Nat.le_trans K7.1 sq_b8_0
  have g_b8_1 : n0 ≤ b8_1 := Nat.le_trans (own_sz O7) sq_b8_1
  have sz_b8_1 : h0.size ≤ b8_1 := Nat.le_trans K7.1 sq_b8_1
  have O8 := O7.keep Kq8 all0
  have K8 : Keep h0 T8.heap [] := K7.trans Kq8 all0
  obtain ⟨_, _, ⟨T9, L9, k9, n9⟩, -, X9, ⟨Lc9, hQ9, l9, y9, z9⟩, st9⟩ := Jvm.LawKit.callS X8 hx (y := y8) hown (mvT hZ (hw _ (List.mem_of_getElem? (i := 30) rfl))) (mvT hZ (hw _ (List.mem_of_getElem? (i := 31) rfl))) (mvT hZ (hw _ (List.mem_of_getElem? (i := 3) rfl))) (mvT hZ (hw _ (List.mem_of_getElem? (i := 32) rfl))) (by decide) (backOf (W := 0) (rm9 l Z a0 hw [] w_PENDING w_IGNORE cs_v hp ((((p4.toUInt32 >>> ((24 : Int32) &&& 31).toUInt32).toInt32) &&& (255 : Int32)).toUInt32.toUInt16.toUInt32.toInt32) T8.heap n0 O8 (own_ch1 ((p4.toUInt32 >>> ((24 : Int32) &&& 31).toUInt32).toInt32))) hZ (hw _ (List.mem_of_getElem? (i := 32) rfl)) (hw _ (List.mem_of_getElem? (i := 3) rfl)) (by decide) (by decide)) (g := (mkF m 66 #[.val (.long p0), .second, .val (.long p1), .second, .val (.int p2), .val (.int p3), .val (.int p4), .val (.int p5), .val (.ref b1), .val (.ref b6), .val (.ref b8_0), .unset, .unset, .unset, .unset, .unset, .unset] [(.int ((((p4.toUInt32 >>> ((24 : Int32) &&& 31).toUInt32).toInt32) &&& (255 : Int32)).toUInt32.toUInt16.toUInt32.toInt32))])) rfl (by rw [hml]; rfl) (argsL := [(.int ((((p4.toUInt32 >>> ((24 : Int32) &&& 31).toUInt32).toInt32) &&& (255 : Int32)).toUInt32.toUInt16.toUInt32.toInt32))]) (rest := []) (lenOf pd_8 rfl) rfl (by show 2 * 0 + _ ≤ _; exact Nat.le_of_eq rfl) (hb hby at_66) (fun _ _ => ⟨rfl, rfl, (by decide : 5 + 2 ≤ _), (by decide : 13 + 5 ≤ _)⟩)
  dsimp only [Pt.U, Pt.locs, Pt.cells, Pt.slots] at X9 l9 y9 z9 st9 hQ9
  subst l9 y9 z9
  obtain ⟨b9_0, b9_1, kc9_0, rfl, Nq9, Kq9, sq_b9_0, sq_b9_1, nq9_0, fq9_0, fq9_1, fq9_2, fq9_3, fq9_4⟩ := hQ9
  have N9 := Fr.app N8 Nq9
  have g_b9_0 : n0 ≤ b9_0 := Nat.le_trans (own_sz O8) sq_b9_0
  have sz_b9_0 : h0.size ≤ b9_0 := Nat.le_trans K8.1 sq_b9_0
  have g_b9_1 : n0 ≤ b9_1 := Nat.le_trans (own_sz O8) sq_b9_1
  have sz_b9_1 : h0.size ≤ b9_1 := Nat.le_trans K8.1 sq_b9_1
  have O9 := O8.keep Kq9 all0
  have K9 : Keep h0 T9.heap [] := K8.trans Kq9 all0
  obtain ⟨T10, X10, e10, st10⟩ := getS2 X9 hx hZ hown (host := "") (Or.inl (hw _ (List.mem_of_getElem? (i := 94) rfl))) Via.refl rfl (S_w_IGNORE.ext O9.2) (g := (mkF m 84 #[.val (.long p0), .second, .val (.long p1), .second, .val (.int p2), .val (.int p3), .val (.int p4), .val (.int p5), .val (.ref b1), .val (.ref b6), .val (.ref b8_0), .val (.ref b9_0), .unset, .unset, .unset, .unset, .unset] [])) rfl (hb hby at_84)
  obtain ⟨T11, h11, k11, X11, e11, E11, A11, EA11, st11⟩ := newPE X10 hx hZ (hw _ (List.mem_of_getElem? (i := 19) rfl)) e10 (g := (mkF m 90 #[.val (.long p0), .second, .val (.long p1), .second, .val (.int p2), .val (.int p3), .val (.int p4), .val (.int p5), .val (.ref b1), .val (.ref b6), .val (.ref b8_0), .val (.ref b9_0), .val (.ref w_IGNORE), .unset, .unset, .unset, .unset] [(.int (1 : Int32))])) rfl (hb hby at_90) rfl (by decide) (cap := 1) (by decide) (by decide) (by decide) (by decide) (ad := "[B") (by decide)
  obtain ⟨b11, g11⟩ : ∃ z, z = T9.heap.size := ⟨_, rfl⟩
  rw [← g11] at A11 EA11 st11
  have g_b11 : n0 ≤ b11 := Nat.le_trans (own_sz O9) (Nat.le_of_eq g11.symm)
  have sz_b11 : h0.size ≤ b11 := Nat.le_trans K9.1 (Nat.le_of_eq g11.symm)
  have O11 := O9.ext E11
  have K11 : Keep h0 h11 [] := K9.ext E11
  have V_b11 : Arv Z h11 b11 k11 .byte (1 : Int32) [(.int (0 : Int32))] (.int (0 : Int32)) := (Arv.new A11 (by decide)).pad (pad_rep [] (.int (0 : Int32)) 1)
  obtain ⟨cl12, Ar12, q12, S12, Nn12, H12, G12⟩ := id V_b11
  have hin12 : ¬ ((0 : Int32) < 0 ∨ cl12.slots.size ≤ ((0 : Int32)).toNatClampNeg) := inb_of S12 ⟨by decide, by decide⟩
  obtain ⟨T13, h13, X13, e13, W13, st13⟩ := stB X11 hx hZ e11 Ar12 (j := (0 : Int32)) hin12 (g := (mkF m 103 #[.val (.long p0), .second, .val (.long p1), .second, .val (.int p2), .val (.int p3), .val (.int p4), .val (.int p5), .val (.ref b1), .val (.ref b6), .val (.ref b8_0), .val (.ref b9_0), .val (.ref w_IGNORE), .val (.ref b11), .unset, .unset, .unset] [(.int (((p5.toUInt32 >>> ((8 : Int32) &&& 31).toUInt32).toInt32).toInt8.toInt32)), (.int (0 : Int32)), (.ref b11)])) rfl rfl (hb hby at_103)
  have N13 := Fr.snoc X13 N9 g_b11
  have O13 := O11.wr W13 g_b11
  have K13 : Keep h0 h13 [] := K11.wr W13 (Or.inr sz_b11)
  have V_b11_13 : Arv Z h13 b11 k11 .byte (1 : Int32) [(.int (nar .byte (((p5.toUInt32 >>> ((8 : Int32) &&& 31).toUInt32).toInt32).toInt8.toInt32)))] (.int (0 : Int32)) := Arv.set Ar12 q12 S12 Nn12 H12 G12 (fits_nar_byte _) W13 0 rfl (Nat.le_of_ble_eq_true rfl)
  obtain ⟨T14, h14, X14, e14, E14, A14, D14, -, st14⟩ := newO X13 hx hZ hown (hw _ (List.mem_of_getElem? (i := 47) rfl)) (hw _ (List.mem_of_getElem? (i := 48) rfl)) (hw _ (List.mem_of_getElem? (i := 49) rfl)) e13 (g := (mkF m 194 #[.val (.long p0), .second, .val (.long p1), .second, .val (.int p2), .val (.int p3), .val (.int p4), .val (.int p5), .val (.ref b1), .val (.ref b6), .val (.ref b8_0), .val (.ref b9_0), .val (.ref w_IGNORE), .val (.ref b11), .val (.int (0 : Int32)), .val (.int (0 : Int32)), .unset] [])) rfl (hb hby at_194) (by decide) (by decide)
  obtain ⟨b14, g14⟩ : ∃ z, z = h13.size := ⟨_, rfl⟩
  rw [← g14] at A14 D14 st14
  have g_b14 : n0 ≤ b14 := Nat.le_trans (own_sz O13) (Nat.le_of_eq g14.symm)
  have sz_b14 : h0.size ≤ b14 := Nat.le_trans K13.1 (Nat.le_of_eq g14.symm)
  have O14 := O13.ext E14
  have K14 : Keep h0 h14 [] := K13.ext E14
  have F_id_b14 : Fld Z h14 b14 "com/example/graph_job_runner/graphjobrunner/ClaimedNode" "id" "J" (.long (0 : Int64)) := D14 (Or.inr (hw _ (List.mem_of_getElem? (i := 58) rfl))) (ty := .long) (by decide)
  have F_runKey_b14 : Fld Z h14 b14 "com/example/graph_job_runner/graphjobrunner/ClaimedNode" "runKey" "Ljava/lang/String;" .null := D14 (Or.inr (hw _ (List.mem_of_getElem? (i := 60) rfl))) (ty := (.object "java/lang/String")) (by decide)
  have F_streamKey_b14 : Fld Z h14 b14 "com/example/graph_job_runner/graphjobrunner/ClaimedNode" "streamKey" "Ljava/lang/String;" .null := D14 (Or.inr (hw _ (List.mem_of_getElem? (i := 62) rfl))) (ty := (.object "java/lang/String")) (by decide)
  have F_position_b14 : Fld Z h14 b14 "com/example/graph_job_runner/graphjobrunner/ClaimedNode" "position" "J" (.long (0 : Int64)) := D14 (Or.inr (hw _ (List.mem_of_getElem? (i := 64) rfl))) (ty := .long) (by decide)
  have F_nodeKey_b14 : Fld Z h14 b14 "com/example/graph_job_runner/graphjobrunner/ClaimedNode" "nodeKey" "Ljava/lang/String;" .null := D14 (Or.inr (hw _ (List.mem_of_getElem? (i := 66) rfl))) (ty := (.object "java/lang/String")) (by decide)
  have F_processor_b14 : Fld Z h14 b14 "com/example/graph_job_runner/graphjobrunner/ClaimedNode" "processor" "Ljava/lang/String;" .null := D14 (Or.inr (hw _ (List.mem_of_getElem? (i := 68) rfl))) (ty := (.object "java/lang/String")) (by decide)
  have F_payload_b14 : Fld Z h14 b14 "com/example/graph_job_runner/graphjobrunner/ClaimedNode" "payload" "[B" .null := D14 (Or.inr (hw _ (List.mem_of_getElem? (i := 70) rfl))) (ty := (.array .byte)) (by decide)
  have F_attempt_b14 : Fld Z h14 b14 "com/example/graph_job_runner/graphjobrunner/ClaimedNode" "attempt" "I" (.int (0 : Int32)) := D14 (Or.inr (hw _ (List.mem_of_getElem? (i := 72) rfl))) (ty := .int) (by decide)
  have F_retryLimit_b14 : Fld Z h14 b14 "com/example/graph_job_runner/graphjobrunner/ClaimedNode" "retryLimit" "I" (.int (0 : Int32)) := D14 (Or.inr (hw _ (List.mem_of_getElem? (i := 74) rfl))) (ty := .int) (by decide)
  have F_failStrategy_b14 : Fld Z h14 b14 "com/example/graph_job_runner/graphjobrunner/ClaimedNode" "failStrategy" "Lcom/example/graph_job_runner/graphjobrunner/FailStrategy;" .null := D14 (Or.inr (hw _ (List.mem_of_getElem? (i := 76) rfl))) (ty := (.object "com/example/graph_job_runner/graphjobrunner/FailStrategy")) (by decide)
  have F_hasChildren_b14 : Fld Z h14 b14 "com/example/graph_job_runner/graphjobrunner/ClaimedNode" "hasChildren" "Z" (.int (0 : Int32)) := D14 (Or.inr (hw _ (List.mem_of_getElem? (i := 78) rfl))) (ty := .boolean) (by decide)
  obtain ⟨_, _, ⟨T15, L15, k15, n15⟩, -, X15, ⟨Lc15, hQ15, l15, y15, z15⟩, st15⟩ := X14.specialBack hx (y := y10) rfl hown (mvT hZ (hw _ (List.mem_of_getElem? (i := 50) rfl))) (mvT hZ (hw _ (List.mem_of_getElem? (i := 51) rfl))) (mvT hZ (hw _ (List.mem_of_getElem? (i := 52) rfl))) (by decide) (backOf (W := 1) (rm11 l Z a0 hw [] w_PENDING w_IGNORE cs_v hp b14 p0 b6 b8_0 b9_0 b11 p2 p3 h14 n0 O14 A14 F_id_b14 F_runKey_b14 F_streamKey_b14 F_position_b14 F_nodeKey_b14 F_processor_b14 F_payload_b14 F_attempt_b14 F_retryLimit_b14 F_failStrategy_b14 F_hasChildren_b14 g_b14) hZ (hw _ (List.mem_of_getElem? (i := 52) rfl)) (hw _ (List.mem_of_getElem? (i := 49) rfl)) (by decide) (by decide)) (g := (mkF m 215 #[.val (.long p0), .second, .val (.long p1), .second, .val (.int p2), .val (.int p3), .val (.int p4), .val (.int p5), .val (.ref b1), .val (.ref b6), .val (.ref b8_0), .val (.ref b9_0), .val (.ref w_IGNORE), .val (.ref b11), .val (.int (0 : Int32)), .val (.int (0 : Int32)), .unset] [(.int (0 : Int32)), (.ref w_IGNORE), (.int p3), (.int p2), (.ref b11), (.ref b9_0), (.ref b8_0), (.ref b6), (.long p0), (.ref b14), (.ref b14)])) rfl (by rw [hml]; rfl) (Steps.refl _) (a := b14) (argsL := [(.long p0), (.ref b6), (.ref b8_0), (.ref b9_0), (.ref b11), (.int p2), (.int p3), (.ref w_IGNORE), (.int (0 : Int32))]) (rest := [(.ref b14)]) (lenOf pd_10 rfl) rfl (by show 2 * 0 + _ ≤ _; exact Nat.le_of_eq rfl) (hb hby at_215) (fun _ _ => ⟨rfl, e14, (by decide : 9 + 0 ≤ _), (by decide : 30 + 0 ≤ _)⟩)
  dsimp only [Pt.U, Pt.locs, Pt.cells, Pt.slots] at X15 l15 y15 z15 st15 hQ15
  subst l15 y15 z15
  obtain ⟨rfl, Nq15, Kq15, fq15_0, fq15_1, fq15_2, fq15_3, fq15_4, fq15_5, fq15_6, fq15_7, fq15_8, fq15_9, fq15_10, fq15_11⟩ := hQ15
  have N15 := Fr.app N13 Nq15
  have O15 := O14.keep Kq15 (allS g_b14 all0)
  have K15 : Keep h0 T15.heap [] := K14.trans Kq15 (allS (Or.inr sz_b14) all0)
  obtain ⟨cq16, kq16, q16a, q16b, q16c⟩ := isOf hZ rfl fq15_0
  obtain ⟨_, _, ⟨T16, L16, k16, n16⟩, -, X16, ⟨Lc16, hQ16, l16, y16, z16⟩, st16⟩ := X15.virtualBack hx (y := y11) (z := y11) hown (mvT hZ (hw _ (List.mem_of_getElem? (i := 79) rfl))) (mvT hZ (hw _ (List.mem_of_getElem? (i := 80) rfl))) (notFace_of_selects (args := #[]) (mvT hZ (hw _ (List.mem_of_getElem? (i := 82) rfl)))) (mvT hZ (hw _ (List.mem_of_getElem? (i := 82) rfl))) (mvT hZ (hw _ (List.mem_of_getElem? (i := 81) rfl))) (by decide) (backOf (W := 0) (rm12 l Z a0 hw [] w_PENDING w_IGNORE cs_v hp b14 T15.heap n0 O15 fq15_11) hZ (hw _ (List.mem_of_getElem? (i := 83) rfl)) (hw _ (List.mem_of_getElem? (i := 49) rfl)) (by decide) (by decide)) q16a q16c (g := (mkF m 222 #[.val (.long p0), .second, .val (.long p1), .second, .val (.int p2), .val (.int p3), .val (.int p4), .val (.int p5), .val (.ref b1), .val (.ref b6), .val (.ref b8_0), .val (.ref b9_0), .val (.ref w_IGNORE), .val (.ref b11), .val (.int (0 : Int32)), .val (.int (0 : Int32)), .val (.ref b14)] [(.ref b14)])) rfl (by rw [hml]; rfl) (Steps.refl _) (argsL := []) (rest := []) (lenOf pd_11 rfl) rfl (by show 2 * 0 + _ ≤ _; exact Nat.le_of_eq rfl) (hb hby at_222) (fun _ _ => ⟨rfl, rfl, (by decide : 9 + 0 ≤ _), (by decide : 30 + 0 ≤ _)⟩)
  dsimp only [Pt.U, Pt.locs, Pt.cells, Pt.slots] at X16 l16 y16 z16 st16 hQ16
  subst l16 y16 z16
  obtain ⟨rfl, Nq16, eq16⟩ := hQ16
  have N16 := Fr.app N15 Nq16
  obtain ⟨cq17, kq17, q17a, q17b, q17c⟩ := isOf hZ eq16 fq15_0
  obtain ⟨_, _, ⟨T17, L17, k17, n17⟩, -, X17, ⟨Lc17, hQ17, l17, y17, z17⟩, st17⟩ := X16.virtualBack hx (y := y12) (z := y12) hown (mvT hZ (hw _ (List.mem_of_getElem? (i := 84) rfl))) (mvT hZ (hw _ (List.mem_of_getElem? (i := 85) rfl))) (notFace_of_selects (args := #[]) (mvT hZ (hw _ (List.mem_of_getElem? (i := 87) rfl)))) (mvT hZ (hw _ (List.mem_of_getElem? (i := 87) rfl))) (mvT hZ (hw _ (List.mem_of_getElem? (i := 86) rfl))) (by decide) (backOf (W := 0) (rm13 l Z a0 hw [] w_PENDING w_IGNORE cs_v hp b14 b6 T15.heap n0 O15 fq15_10) hZ (hw _ (List.mem_of_getElem? (i := 88) rfl)) (hw _ (List.mem_of_getElem? (i := 49) rfl)) (by decide) (by decide)) q17a q17c (g := (mkF m 230 #[.val (.long p0), .second, .val (.long p1), .second, .val (.int p2), .val (.int p3), .val (.int p4), .val (.int p5), .val (.ref b1), .val (.ref b6), .val (.ref b8_0), .val (.ref b9_0), .val (.ref w_IGNORE), .val (.ref b11), .val (.int (0 : Int32)), .val (.int (0 : Int32)), .val (.ref b14)] [(.ref b14)])) rfl (by rw [hml]; rfl) (Steps.refl _) (argsL := []) (rest := []) (lenOf pd_12 rfl) rfl (by show 2 * 0 + _ ≤ _; exact Nat.le_of_eq rfl) (hb hby at_230) (fun _ _ => ⟨rfl, eq16, (by decide : 9 + 0 ≤ _), (by decide : 30 + 0 ≤ _)⟩)
  dsimp only [Pt.U, Pt.locs, Pt.cells, Pt.slots] at X17 l17 y17 z17 st17 hQ17
  subst l17 y17 z17
  obtain ⟨rfl, Nq17, eq17⟩ := hQ17
  have N17 := Fr.app N16 Nq17
  obtain ⟨cq18, kq18, q18a, q18b, q18c⟩ := isOf hZ eq17 fq15_0
  obtain ⟨_, _, ⟨T18, L18, k18, n18⟩, -, X18, ⟨Lc18, hQ18, l18, y18, z18⟩, st18⟩ := X17.virtualBack hx (y := y13) (z := y13) hown (mvT hZ (hw _ (List.mem_of_getElem? (i := 89) rfl))) (mvT hZ (hw _ (List.mem_of_getElem? (i := 90) rfl))) (notFace_of_selects (args := #[]) (mvT hZ (hw _ (List.mem_of_getElem? (i := 92) rfl)))) (mvT hZ (hw _ (List.mem_of_getElem? (i := 92) rfl))) (mvT hZ (hw _ (List.mem_of_getElem? (i := 91) rfl))) (by decide) (backOf (W := 0) (rm14 l Z a0 hw [] w_PENDING w_IGNORE cs_v hp b14 T15.heap n0 O15 fq15_11) hZ (hw _ (List.mem_of_getElem? (i := 93) rfl)) (hw _ (List.mem_of_getElem? (i := 49) rfl)) (by decide) (by decide)) q18a q18c (g := (mkF m 240 #[.val (.long p0), .second, .val (.long p1), .second, .val (.int p2), .val (.int p3), .val (.int p4), .val (.int p5), .val (.ref b1), .val (.ref b6), .val (.ref b8_0), .val (.ref b9_0), .val (.ref w_IGNORE), .val (.ref b11), .val (.int (0 : Int32)), .val (.int (0 : Int32)), .val (.ref b14)] [(.ref b14)])) rfl (by rw [hml]; rfl) (Steps.refl _) (argsL := []) (rest := []) (lenOf pd_12 rfl) rfl (by show 2 * 0 + _ ≤ _; exact Nat.le_of_eq rfl) (hb hby at_240) (fun _ _ => ⟨rfl, eq17, (by decide : 9 + 0 ≤ _), (by decide : 30 + 0 ≤ _)⟩)
  dsimp only [Pt.U, Pt.locs, Pt.cells, Pt.slots] at X18 l18 y18 z18 st18 hQ18
  subst l18 y18 z18
  obtain ⟨rfl, Nq18, eq18⟩ := hQ18
  have N18 := Fr.app N17 Nq18
  obtain ⟨fs, hr, hrun, hended, hW, hsame⟩ := X18.leave (v := some (.int (1 : Int32))) (fun h => by rw [Bd.returns] at h; cases h)
  refine ⟨_, _, pre0 _ ?_, hrun, hended, _, _, rfl, ?_, ⟨_, rfl⟩, hW, hsame.mono (by decide) (by decide)⟩
  · show Sp p e below s₁ (mkF m 0 #[.val (.long p0), .second, .val (.long p1), .second, .val (.int p2), .val (.int p3), .val (.int p4), .val (.int p5), .unset, .unset, .unset, .unset, .unset, .unset, .unset, .unset, .unset] []) _
    refine XS.iconst X0.here hx rfl (hb hby at_0) ?_
    show Sp p e below s₁ (mkF m 1 #[.val (.long p0), .second, .val (.long p1), .second, .val (.int p2), .val (.int p3), .val (.int p4), .val (.int p5), .unset, .unset, .unset, .unset, .unset, .unset, .unset, .unset, .unset] [(.int (2 : Int32))]) _
    refine st1 _ ?_
    show Sp p e below T1 (mkF m 3 #[.val (.long p0), .second, .val (.long p1), .second, .val (.int p2), .val (.int p3), .val (.int p4), .val (.int p5), .unset, .unset, .unset, .unset, .unset, .unset, .unset, .unset, .unset] [(.ref b1)]) _
    refine XS.astore X1.here hx rfl (hb hby at_3) rfl rfl (l' := #[.val (.long p0), .second, .val (.long p1), .second, .val (.int p2), .val (.int p3), .val (.int p4), .val (.int p5), .val (.ref b1), .unset, .unset, .unset, .unset, .unset, .unset, .unset, .unset]) rfl ?_
    refine XS.aload X1.here hx rfl (hb hby at_5) rfl rfl ?_
    refine XS.iconst X1.here hx rfl (hb hby at_7) ?_
    refine XS.iload X1.here hx rfl (hb hby at_8) rfl ?_
    refine XS.sipush X1.here hx rfl (hb hby at_10) ?_
    show Sp p e below T1 (mkF m 13 #[.val (.long p0), .second, .val (.long p1), .second, .val (.int p2), .val (.int p3), .val (.int p4), .val (.int p5), .val (.ref b1), .unset, .unset, .unset, .unset, .unset, .unset, .unset, .unset] [(.int (255 : Int32)), (.int p4), (.int (0 : Int32)), (.ref b1)]) _
    refine XS.iand X1.here hx rfl (hb hby at_13) rfl ?_
    show Sp p e below T1 (mkF m 14 #[.val (.long p0), .second, .val (.long p1), .second, .val (.int p2), .val (.int p3), .val (.int p4), .val (.int p5), .val (.ref b1), .unset, .unset, .unset, .unset, .unset, .unset, .unset, .unset] [(.int (p4 &&& (255 : Int32))), (.int (0 : Int32)), (.ref b1)]) _
    refine XS.i2c X1.here hx rfl (hb hby at_14) rfl ?_
    show Sp p e below T1 (mkF m 15 #[.val (.long p0), .second, .val (.long p1), .second, .val (.int p2), .val (.int p3), .val (.int p4), .val (.int p5), .val (.ref b1), .unset, .unset, .unset, .unset, .unset, .unset, .unset, .unset] [(.int ((p4 &&& (255 : Int32)).toUInt32.toUInt16.toUInt32.toInt32)), (.int (0 : Int32)), (.ref b1)]) _
    refine st3 _ ?_
    show Sp p e below T3 (mkF m 16 #[.val (.long p0), .second, .val (.long p1), .second, .val (.int p2), .val (.int p3), .val (.int p4), .val (.int p5), .val (.ref b1), .unset, .unset, .unset, .unset, .unset, .unset, .unset, .unset] []) _
    refine XS.aload X3.here hx rfl (hb hby at_16) rfl rfl ?_
    refine XS.iconst X3.here hx rfl (hb hby at_18) ?_
    refine XS.iload X3.here hx rfl (hb hby at_19) rfl ?_
    refine XS.bipush X3.here hx rfl (hb hby at_21) ?_
    show Sp p e below T3 (mkF m 23 #[.val (.long p0), .second, .val (.long p1), .second, .val (.int p2), .val (.int p3), .val (.int p4), .val (.int p5), .val (.ref b1), .unset, .unset, .unset, .unset, .unset, .unset, .unset, .unset] [(.int (8 : Int32)), (.int p4), (.int (1 : Int32)), (.ref b1)]) _
    refine XS.iushr X3.here hx rfl (hb hby at_23) rfl ?_
    refine XS.sipush X3.here hx rfl (hb hby at_24) ?_
    show Sp p e below T3 (mkF m 27 #[.val (.long p0), .second, .val (.long p1), .second, .val (.int p2), .val (.int p3), .val (.int p4), .val (.int p5), .val (.ref b1), .unset, .unset, .unset, .unset, .unset, .unset, .unset, .unset] [(.int (255 : Int32)), (.int ((p4.toUInt32 >>> ((8 : Int32) &&& 31).toUInt32).toInt32)), (.int (1 : Int32)), (.ref b1)]) _
    refine XS.iand X3.here hx rfl (hb hby at_27) rfl ?_
    show Sp p e below T3 (mkF m 28 #[.val (.long p0), .second, .val (.long p1), .second, .val (.int p2), .val (.int p3), .val (.int p4), .val (.int p5), .val (.ref b1), .unset, .unset, .unset, .unset, .unset, .unset, .unset, .unset] [(.int (((p4.toUInt32 >>> ((8 : Int32) &&& 31).toUInt32).toInt32) &&& (255 : Int32))), (.int (1 : Int32)), (.ref b1)]) _
    refine XS.i2c X3.here hx rfl (hb hby at_28) rfl ?_
    show Sp p e below T3 (mkF m 29 #[.val (.long p0), .second, .val (.long p1), .second, .val (.int p2), .val (.int p3), .val (.int p4), .val (.int p5), .val (.ref b1), .unset, .unset, .unset, .unset, .unset, .unset, .unset, .unset] [(.int ((((p4.toUInt32 >>> ((8 : Int32) &&& 31).toUInt32).toInt32) &&& (255 : Int32)).toUInt32.toUInt16.toUInt32.toInt32)), (.int (1 : Int32)), (.ref b1)]) _
    refine st5 _ ?_
    show Sp p e below T5 (mkF m 30 #[.val (.long p0), .second, .val (.long p1), .second, .val (.int p2), .val (.int p3), .val (.int p4), .val (.int p5), .val (.ref b1), .unset, .unset, .unset, .unset, .unset, .unset, .unset, .unset] []) _
    refine st6 _ ?_
    show Sp p e below T6 (mkF m 33 #[.val (.long p0), .second, .val (.long p1), .second, .val (.int p2), .val (.int p3), .val (.int p4), .val (.int p5), .val (.ref b1), .unset, .unset, .unset, .unset, .unset, .unset, .unset, .unset] [(.ref b6)]) _
    refine XS.dup X6.here hx rfl (hb hby at_33) rfl rfl ?_
    refine XS.aload X6.here hx rfl (hb hby at_34) rfl rfl ?_
    show Sp p e below T6 (mkF m 36 #[.val (.long p0), .second, .val (.long p1), .second, .val (.int p2), .val (.int p3), .val (.int p4), .val (.int p5), .val (.ref b1), .unset, .unset, .unset, .unset, .unset, .unset, .unset, .unset] [(.ref b1), (.ref b6), (.ref b6)]) _
    refine st7.trans ?_
    show Sp p e below T7 (mkF m 39 #[.val (.long p0), .second, .val (.long p1), .second, .val (.int p2), .val (.int p3), .val (.int p4), .val (.int p5), .val (.ref b1), .unset, .unset, .unset, .unset, .unset, .unset, .unset, .unset] [(.ref b6)]) _
    refine XS.astore X7.here hx rfl (hb hby at_39) rfl rfl (l' := #[.val (.long p0), .second, .val (.long p1), .second, .val (.int p2), .val (.int p3), .val (.int p4), .val (.int p5), .val (.ref b1), .val (.ref b6), .unset, .unset, .unset, .unset, .unset, .unset, .unset]) rfl ?_
    refine XS.iload X7.here hx rfl (hb hby at_41) rfl ?_
    refine XS.bipush X7.here hx rfl (hb hby at_43) ?_
    show Sp p e below T7 (mkF m 45 #[.val (.long p0), .second, .val (.long p1), .second, .val (.int p2), .val (.int p3), .val (.int p4), .val (.int p5), .val (.ref b1), .val (.ref b6), .unset, .unset, .unset, .unset, .unset, .unset, .unset] [(.int (16 : Int32)), (.int p4)]) _
    refine XS.iushr X7.here hx rfl (hb hby at_45) rfl ?_
    refine XS.sipush X7.here hx rfl (hb hby at_46) ?_
    show Sp p e below T7 (mkF m 49 #[.val (.long p0), .second, .val (.long p1), .second, .val (.int p2), .val (.int p3), .val (.int p4), .val (.int p5), .val (.ref b1), .val (.ref b6), .unset, .unset, .unset, .unset, .unset, .unset, .unset] [(.int (255 : Int32)), (.int ((p4.toUInt32 >>> ((16 : Int32) &&& 31).toUInt32).toInt32))]) _
    refine XS.iand X7.here hx rfl (hb hby at_49) rfl ?_
    show Sp p e below T7 (mkF m 50 #[.val (.long p0), .second, .val (.long p1), .second, .val (.int p2), .val (.int p3), .val (.int p4), .val (.int p5), .val (.ref b1), .val (.ref b6), .unset, .unset, .unset, .unset, .unset, .unset, .unset] [(.int (((p4.toUInt32 >>> ((16 : Int32) &&& 31).toUInt32).toInt32) &&& (255 : Int32)))]) _
    refine XS.i2c X7.here hx rfl (hb hby at_50) rfl ?_
    show Sp p e below T7 (mkF m 51 #[.val (.long p0), .second, .val (.long p1), .second, .val (.int p2), .val (.int p3), .val (.int p4), .val (.int p5), .val (.ref b1), .val (.ref b6), .unset, .unset, .unset, .unset, .unset, .unset, .unset] [(.int ((((p4.toUInt32 >>> ((16 : Int32) &&& 31).toUInt32).toInt32) &&& (255 : Int32)).toUInt32.toUInt16.toUInt32.toInt32))]) _
    refine st8 _ ?_
    show Sp p e below T8 (mkF m 54 #[.val (.long p0), .second, .val (.long p1), .second, .val (.int p2), .val (.int p3), .val (.int p4), .val (.int p5), .val (.ref b1), .val (.ref b6), .unset, .unset, .unset, .unset, .unset, .unset, .unset] [(.ref b8_0)]) _
    refine XS.astore X8.here hx rfl (hb hby at_54) rfl rfl (l' := #[.val (.long p0), .second, .val (.long p1), .second, .val (.int p2), .val (.int p3), .val (.int p4), .val (.int p5), .val (.ref b1), .val (.ref b6), .val (.ref b8_0), .unset, .unset, .unset, .unset, .unset, .unset]) rfl ?_
    refine XS.iload X8.here hx rfl (hb hby at_56) rfl ?_
    refine XS.bipush X8.here hx rfl (hb hby at_58) ?_
    show Sp p e below T8 (mkF m 60 #[.val (.long p0), .second, .val (.long p1), .second, .val (.int p2), .val (.int p3), .val (.int p4), .val (.int p5), .val (.ref b1), .val (.ref b6), .val (.ref b8_0), .unset, .unset, .unset, .unset, .unset, .unset] [(.int (24 : Int32)), (.int p4)]) _
    refine XS.iushr X8.here hx rfl (hb hby at_60) rfl ?_
    refine XS.sipush X8.here hx rfl (hb hby at_61) ?_
    show Sp p e below T8 (mkF m 64 #[.val (.long p0), .second, .val (.long p1), .second, .val (.int p2), .val (.int p3), .val (.int p4), .val (.int p5), .val (.ref b1), .val (.ref b6), .val (.ref b8_0), .unset, .unset, .unset, .unset, .unset, .unset] [(.int (255 : Int32)), (.int ((p4.toUInt32 >>> ((24 : Int32) &&& 31).toUInt32).toInt32))]) _
    refine XS.iand X8.here hx rfl (hb hby at_64) rfl ?_
    show Sp p e below T8 (mkF m 65 #[.val (.long p0), .second, .val (.long p1), .second, .val (.int p2), .val (.int p3), .val (.int p4), .val (.int p5), .val (.ref b1), .val (.ref b6), .val (.ref b8_0), .unset, .unset, .unset, .unset, .unset, .unset] [(.int (((p4.toUInt32 >>> ((24 : Int32) &&& 31).toUInt32).toInt32) &&& (255 : Int32)))]) _
    refine XS.i2c X8.here hx rfl (hb hby at_65) rfl ?_
    show Sp p e below T8 (mkF m 66 #[.val (.long p0), .second, .val (.long p1), .second, .val (.int p2), .val (.int p3), .val (.int p4), .val (.int p5), .val (.ref b1), .val (.ref b6), .val (.ref b8_0), .unset, .unset, .unset, .unset, .unset, .unset] [(.int ((((p4.toUInt32 >>> ((24 : Int32) &&& 31).toUInt32).toInt32) &&& (255 : Int32)).toUInt32.toUInt16.toUInt32.toInt32))]) _
    refine st9 _ ?_
    show Sp p e below T9 (mkF m 69 #[.val (.long p0), .second, .val (.long p1), .second, .val (.int p2), .val (.int p3), .val (.int p4), .val (.int p5), .val (.ref b1), .val (.ref b6), .val (.ref b8_0), .unset, .unset, .unset, .unset, .unset, .unset] [(.ref b9_0)]) _
    refine XS.astore X9.here hx rfl (hb hby at_69) rfl rfl (l' := #[.val (.long p0), .second, .val (.long p1), .second, .val (.int p2), .val (.int p3), .val (.int p4), .val (.int p5), .val (.ref b1), .val (.ref b6), .val (.ref b8_0), .val (.ref b9_0), .unset, .unset, .unset, .unset, .unset]) rfl ?_
    refine XS.iload X9.here hx rfl (hb hby at_71) rfl ?_
    refine XS.iconst X9.here hx rfl (hb hby at_73) ?_
    show Sp p e below T9 (mkF m 74 #[.val (.long p0), .second, .val (.long p1), .second, .val (.int p2), .val (.int p3), .val (.int p4), .val (.int p5), .val (.ref b1), .val (.ref b6), .val (.ref b8_0), .val (.ref b9_0), .unset, .unset, .unset, .unset, .unset] [(.int (2 : Int32)), (.int p5)]) _
    refine XS.iand X9.here hx rfl (hb hby at_74) rfl ?_
    show Sp p e below T9 (mkF m 75 #[.val (.long p0), .second, .val (.long p1), .second, .val (.int p2), .val (.int p3), .val (.int p4), .val (.int p5), .val (.ref b1), .val (.ref b6), .val (.ref b8_0), .val (.ref b9_0), .unset, .unset, .unset, .unset, .unset] [(.int (p5 &&& (2 : Int32)))]) _
    refine XS.ifYes X9.here hx rfl (pc0 := 75) (pc' := 84) rfl (hb hby at_75) rfl ((if0 _ _).trans (teq hc1).1) (by decide) (by decide) ?_
    show Sp p e below T9 (mkF m 84 #[.val (.long p0), .second, .val (.long p1), .second, .val (.int p2), .val (.int p3), .val (.int p4), .val (.int p5), .val (.ref b1), .val (.ref b6), .val (.ref b8_0), .val (.ref b9_0), .unset, .unset, .unset, .unset, .unset] []) _
    refine st10 _ ?_
    show Sp p e below T10 (mkF m 87 #[.val (.long p0), .second, .val (.long p1), .second, .val (.int p2), .val (.int p3), .val (.int p4), .val (.int p5), .val (.ref b1), .val (.ref b6), .val (.ref b8_0), .val (.ref b9_0), .unset, .unset, .unset, .unset, .unset] [(.ref w_IGNORE)]) _
    refine XS.astore X10.here hx rfl (hb hby at_87) rfl rfl (l' := #[.val (.long p0), .second, .val (.long p1), .second, .val (.int p2), .val (.int p3), .val (.int p4), .val (.int p5), .val (.ref b1), .val (.ref b6), .val (.ref b8_0), .val (.ref b9_0), .val (.ref w_IGNORE), .unset, .unset, .unset, .unset]) rfl ?_
    refine XS.iconst X10.here hx rfl (hb hby at_89) ?_
    show Sp p e below T10 (mkF m 90 #[.val (.long p0), .second, .val (.long p1), .second, .val (.int p2), .val (.int p3), .val (.int p4), .val (.int p5), .val (.ref b1), .val (.ref b6), .val (.ref b8_0), .val (.ref b9_0), .val (.ref w_IGNORE), .unset, .unset, .unset, .unset] [(.int (1 : Int32))]) _
    refine st11 _ ?_
    show Sp p e below T11 (mkF m 92 #[.val (.long p0), .second, .val (.long p1), .second, .val (.int p2), .val (.int p3), .val (.int p4), .val (.int p5), .val (.ref b1), .val (.ref b6), .val (.ref b8_0), .val (.ref b9_0), .val (.ref w_IGNORE), .unset, .unset, .unset, .unset] [(.ref b11)]) _
    refine XS.astore X11.here hx rfl (hb hby at_92) rfl rfl (l' := #[.val (.long p0), .second, .val (.long p1), .second, .val (.int p2), .val (.int p3), .val (.int p4), .val (.int p5), .val (.ref b1), .val (.ref b6), .val (.ref b8_0), .val (.ref b9_0), .val (.ref w_IGNORE), .val (.ref b11), .unset, .unset, .unset]) rfl ?_
    refine XS.aload X11.here hx rfl (hb hby at_94) rfl rfl ?_
    refine XS.iconst X11.here hx rfl (hb hby at_96) ?_
    refine XS.iload X11.here hx rfl (hb hby at_97) rfl ?_
    refine XS.bipush X11.here hx rfl (hb hby at_99) ?_
    show Sp p e below T11 (mkF m 101 #[.val (.long p0), .second, .val (.long p1), .second, .val (.int p2), .val (.int p3), .val (.int p4), .val (.int p5), .val (.ref b1), .val (.ref b6), .val (.ref b8_0), .val (.ref b9_0), .val (.ref w_IGNORE), .val (.ref b11), .unset, .unset, .unset] [(.int (8 : Int32)), (.int p5), (.int (0 : Int32)), (.ref b11)]) _
    refine XS.iushr X11.here hx rfl (hb hby at_101) rfl ?_
    show Sp p e below T11 (mkF m 102 #[.val (.long p0), .second, .val (.long p1), .second, .val (.int p2), .val (.int p3), .val (.int p4), .val (.int p5), .val (.ref b1), .val (.ref b6), .val (.ref b8_0), .val (.ref b9_0), .val (.ref w_IGNORE), .val (.ref b11), .unset, .unset, .unset] [(.int ((p5.toUInt32 >>> ((8 : Int32) &&& 31).toUInt32).toInt32)), (.int (0 : Int32)), (.ref b11)]) _
    refine XS.i2b X11.here hx rfl (hb hby at_102) rfl ?_
    show Sp p e below T11 (mkF m 103 #[.val (.long p0), .second, .val (.long p1), .second, .val (.int p2), .val (.int p3), .val (.int p4), .val (.int p5), .val (.ref b1), .val (.ref b6), .val (.ref b8_0), .val (.ref b9_0), .val (.ref w_IGNORE), .val (.ref b11), .unset, .unset, .unset] [(.int (((p5.toUInt32 >>> ((8 : Int32) &&& 31).toUInt32).toInt32).toInt8.toInt32)), (.int (0 : Int32)), (.ref b11)]) _
    refine st13 _ ?_
    show Sp p e below T13 (mkF m 104 #[.val (.long p0), .second, .val (.long p1), .second, .val (.int p2), .val (.int p3), .val (.int p4), .val (.int p5), .val (.ref b1), .val (.ref b6), .val (.ref b8_0), .val (.ref b9_0), .val (.ref w_IGNORE), .val (.ref b11), .unset, .unset, .unset] []) _
    refine XS.iload X13.here hx rfl (hb hby at_104) rfl ?_
    refine XS.iconst X13.here hx rfl (hb hby at_106) ?_
    show Sp p e below T13 (mkF m 107 #[.val (.long p0), .second, .val (.long p1), .second, .val (.int p2), .val (.int p3), .val (.int p4), .val (.int p5), .val (.ref b1), .val (.ref b6), .val (.ref b8_0), .val (.ref b9_0), .val (.ref w_IGNORE), .val (.ref b11), .unset, .unset, .unset] [(.int (1 : Int32)), (.int p5)]) _
    refine XS.iand X13.here hx rfl (hb hby at_107) rfl ?_
    show Sp p e below T13 (mkF m 108 #[.val (.long p0), .second, .val (.long p1), .second, .val (.int p2), .val (.int p3), .val (.int p4), .val (.int p5), .val (.ref b1), .val (.ref b6), .val (.ref b8_0), .val (.ref b9_0), .val (.ref w_IGNORE), .val (.ref b11), .unset, .unset, .unset] [(.int (p5 &&& (1 : Int32)))]) _
    refine XS.ifYes X13.here hx rfl (pc0 := 108) (pc' := 115) rfl (hb hby at_108) rfl ((if0 _ _).trans (teq hc2).1) (by decide) (by decide) ?_
    refine XS.iconst X13.here hx rfl (hb hby at_115) ?_
    show Sp p e below T13 (mkF m 116 #[.val (.long p0), .second, .val (.long p1), .second, .val (.int p2), .val (.int p3), .val (.int p4), .val (.int p5), .val (.ref b1), .val (.ref b6), .val (.ref b8_0), .val (.ref b9_0), .val (.ref w_IGNORE), .val (.ref b11), .unset, .unset, .unset] [(.int (0 : Int32))]) _
    refine XS.istore X13.here hx rfl (hb hby at_116) rfl (l' := #[.val (.long p0), .second, .val (.long p1), .second, .val (.int p2), .val (.int p3), .val (.int p4), .val (.int p5), .val (.ref b1), .val (.ref b6), .val (.ref b8_0), .val (.ref b9_0), .val (.ref w_IGNORE), .val (.ref b11), .val (.int (0 : Int32)), .unset, .unset]) rfl ?_
    refine XS.iload X13.here hx rfl (hb hby at_118) rfl ?_
    refine XS.iconst X13.here hx rfl (hb hby at_120) ?_
    show Sp p e below T13 (mkF m 121 #[.val (.long p0), .second, .val (.long p1), .second, .val (.int p2), .val (.int p3), .val (.int p4), .val (.int p5), .val (.ref b1), .val (.ref b6), .val (.ref b8_0), .val (.ref b9_0), .val (.ref w_IGNORE), .val (.ref b11), .val (.int (0 : Int32)), .unset, .unset] [(.int (4 : Int32)), (.int p5)]) _
    refine XS.iand X13.here hx rfl (hb hby at_121) rfl ?_
    show Sp p e below T13 (mkF m 122 #[.val (.long p0), .second, .val (.long p1), .second, .val (.int p2), .val (.int p3), .val (.int p4), .val (.int p5), .val (.ref b1), .val (.ref b6), .val (.ref b8_0), .val (.ref b9_0), .val (.ref w_IGNORE), .val (.ref b11), .val (.int (0 : Int32)), .unset, .unset] [(.int (p5 &&& (4 : Int32)))]) _
    refine XS.ifYes X13.here hx rfl (pc0 := 122) (pc' := 129) rfl (hb hby at_122) rfl ((if0 _ _).trans (teq hc3).1) (by decide) (by decide) ?_
    refine XS.iconst X13.here hx rfl (hb hby at_129) ?_
    show Sp p e below T13 (mkF m 130 #[.val (.long p0), .second, .val (.long p1), .second, .val (.int p2), .val (.int p3), .val (.int p4), .val (.int p5), .val (.ref b1), .val (.ref b6), .val (.ref b8_0), .val (.ref b9_0), .val (.ref w_IGNORE), .val (.ref b11), .val (.int (0 : Int32)), .unset, .unset] [(.int (0 : Int32))]) _
    refine XS.istore X13.here hx rfl (hb hby at_130) rfl (l' := #[.val (.long p0), .second, .val (.long p1), .second, .val (.int p2), .val (.int p3), .val (.int p4), .val (.int p5), .val (.ref b1), .val (.ref b6), .val (.ref b8_0), .val (.ref b9_0), .val (.ref w_IGNORE), .val (.ref b11), .val (.int (0 : Int32)), .val (.int (0 : Int32)), .unset]) rfl ?_
    refine XS.iload X13.here hx rfl (hb hby at_132) rfl ?_
    show Sp p e below T13 (mkF m 134 #[.val (.long p0), .second, .val (.long p1), .second, .val (.int p2), .val (.int p3), .val (.int p4), .val (.int p5), .val (.ref b1), .val (.ref b6), .val (.ref b8_0), .val (.ref b9_0), .val (.ref w_IGNORE), .val (.ref b11), .val (.int (0 : Int32)), .val (.int (0 : Int32)), .unset] [(.int (0 : Int32))]) _
    refine XS.ifYes X13.here hx rfl (pc0 := 134) (pc' := 194) rfl (hb hby at_134) rfl ((if0 _ _).trans (teq (by decide : (0 : Int32) = (0 : Int32))).1) (by decide) (by decide) ?_
    show Sp p e below T13 (mkF m 194 #[.val (.long p0), .second, .val (.long p1), .second, .val (.int p2), .val (.int p3), .val (.int p4), .val (.int p5), .val (.ref b1), .val (.ref b6), .val (.ref b8_0), .val (.ref b9_0), .val (.ref w_IGNORE), .val (.ref b11), .val (.int (0 : Int32)), .val (.int (0 : Int32)), .unset] []) _
    refine st14 _ ?_
    show Sp p e below T14 (mkF m 197 #[.val (.long p0), .second, .val (.long p1), .second, .val (.int p2), .val (.int p3), .val (.int p4), .val (.int p5), .val (.ref b1), .val (.ref b6), .val (.ref b8_0), .val (.ref b9_0), .val (.ref w_IGNORE), .val (.ref b11), .val (.int (0 : Int32)), .val (.int (0 : Int32)), .unset] [(.ref b14)]) _
    refine XS.dup X14.here hx rfl (hb hby at_197) rfl rfl ?_
    refine XS.lloadN X14.here hx rfl (hb hby at_198) rfl ?_
    refine XS.aload X14.here hx rfl (hb hby at_199) rfl rfl ?_
    refine XS.aload X14.here hx rfl (hb hby at_201) rfl rfl ?_
    refine XS.aload X14.here hx rfl (hb hby at_203) rfl rfl ?_
    refine XS.aload X14.here hx rfl (hb hby at_205) rfl rfl ?_
    refine XS.iload X14.here hx rfl (hb hby at_207) rfl ?_
    refine XS.iload X14.here hx rfl (hb hby at_209) rfl ?_
    refine XS.aload X14.here hx rfl (hb hby at_211) rfl rfl ?_
    refine XS.iload X14.here hx rfl (hb hby at_213) rfl ?_
    show Sp p e below T14 (mkF m 215 #[.val (.long p0), .second, .val (.long p1), .second, .val (.int p2), .val (.int p3), .val (.int p4), .val (.int p5), .val (.ref b1), .val (.ref b6), .val (.ref b8_0), .val (.ref b9_0), .val (.ref w_IGNORE), .val (.ref b11), .val (.int (0 : Int32)), .val (.int (0 : Int32)), .unset] [(.int (0 : Int32)), (.ref w_IGNORE), (.int p3), (.int p2), (.ref b11), (.ref b9_0), (.ref b8_0), (.ref b6), (.long p0), (.ref b14), (.ref b14)]) _
    refine st15.trans ?_
    show Sp p e below T15 (mkF m 218 #[.val (.long p0), .second, .val (.long p1), .second, .val (.int p2), .val (.int p3), .val (.int p4), .val (.int p5), .val (.ref b1), .val (.ref b6), .val (.ref b8_0), .val (.ref b9_0), .val (.ref w_IGNORE), .val (.ref b11), .val (.int (0 : Int32)), .val (.int (0 : Int32)), .unset] [(.ref b14)]) _
    refine XS.astore X15.here hx rfl (hb hby at_218) rfl rfl (l' := #[.val (.long p0), .second, .val (.long p1), .second, .val (.int p2), .val (.int p3), .val (.int p4), .val (.int p5), .val (.ref b1), .val (.ref b6), .val (.ref b8_0), .val (.ref b9_0), .val (.ref w_IGNORE), .val (.ref b11), .val (.int (0 : Int32)), .val (.int (0 : Int32)), .val (.ref b14)]) rfl ?_
    refine XS.aload X15.here hx rfl (hb hby at_220) rfl rfl ?_
    show Sp p e below T15 (mkF m 222 #[.val (.long p0), .second, .val (.long p1), .second, .val (.int p2), .val (.int p3), .val (.int p4), .val (.int p5), .val (.ref b1), .val (.ref b6), .val (.ref b8_0), .val (.ref b9_0), .val (.ref w_IGNORE), .val (.ref b11), .val (.int (0 : Int32)), .val (.int (0 : Int32)), .val (.ref b14)] [(.ref b14)]) _
    refine st16.trans ?_
    show Sp p e below T16 (mkF m 225 #[.val (.long p0), .second, .val (.long p1), .second, .val (.int p2), .val (.int p3), .val (.int p4), .val (.int p5), .val (.ref b1), .val (.ref b6), .val (.ref b8_0), .val (.ref b9_0), .val (.ref w_IGNORE), .val (.ref b11), .val (.int (0 : Int32)), .val (.int (0 : Int32)), .val (.ref b14)] [(.int (0 : Int32))]) _
    refine XS.ifNo X16.here hx rfl (hb hby at_225) rfl ((if0 _ _).trans (teq (by decide : (0 : Int32) = (0 : Int32))).2) ?_
    refine XS.aload X16.here hx rfl (hb hby at_228) rfl rfl ?_
    show Sp p e below T16 (mkF m 230 #[.val (.long p0), .second, .val (.long p1), .second, .val (.int p2), .val (.int p3), .val (.int p4), .val (.int p5), .val (.ref b1), .val (.ref b6), .val (.ref b8_0), .val (.ref b9_0), .val (.ref w_IGNORE), .val (.ref b11), .val (.int (0 : Int32)), .val (.int (0 : Int32)), .val (.ref b14)] [(.ref b14)]) _
    refine st17.trans ?_
    show Sp p e below T17 (mkF m 233 #[.val (.long p0), .second, .val (.long p1), .second, .val (.int p2), .val (.int p3), .val (.int p4), .val (.int p5), .val (.ref b1), .val (.ref b6), .val (.ref b8_0), .val (.ref b9_0), .val (.ref w_IGNORE), .val (.ref b11), .val (.int (0 : Int32)), .val (.int (0 : Int32)), .val (.ref b14)] [(.ref b6)]) _
    refine XS.aload X17.here hx rfl (hb hby at_233) rfl rfl ?_
    show Sp p e below T17 (mkF m 235 #[.val (.long p0), .second, .val (.long p1), .second, .val (.int p2), .val (.int p3), .val (.int p4), .val (.int p5), .val (.ref b1), .val (.ref b6), .val (.ref b8_0), .val (.ref b9_0), .val (.ref w_IGNORE), .val (.ref b11), .val (.int (0 : Int32)), .val (.int (0 : Int32)), .val (.ref b14)] [(.ref b6), (.ref b6)]) _
    refine Jvm.RoadKit.acmp (g := (mkF m 235 #[.val (.long p0), .second, .val (.long p1), .second, .val (.int p2), .val (.int p3), .val (.int p4), .val (.int p5), .val (.ref b1), .val (.ref b6), .val (.ref b8_0), .val (.ref b9_0), .val (.ref w_IGNORE), .val (.ref b11), .val (.int (0 : Int32)), .val (.int (0 : Int32)), .val (.ref b14)] [(.ref b6), (.ref b6)])) X17 hx rfl rfl rfl (pc0 := 235) (pc' := 238) (same := true) rfl (hb hby at_235) rfl (decide_eq_true rfl) (by decide) (by decide) ?_
    show Sp p e below T17 (mkF m 238 #[.val (.long p0), .second, .val (.long p1), .second, .val (.int p2), .val (.int p3), .val (.int p4), .val (.int p5), .val (.ref b1), .val (.ref b6), .val (.ref b8_0), .val (.ref b9_0), .val (.ref w_IGNORE), .val (.ref b11), .val (.int (0 : Int32)), .val (.int (0 : Int32)), .val (.ref b14)] []) _
    refine XS.aload X17.here hx rfl (hb hby at_238) rfl rfl ?_
    show Sp p e below T17 (mkF m 240 #[.val (.long p0), .second, .val (.long p1), .second, .val (.int p2), .val (.int p3), .val (.int p4), .val (.int p5), .val (.ref b1), .val (.ref b6), .val (.ref b8_0), .val (.ref b9_0), .val (.ref w_IGNORE), .val (.ref b11), .val (.int (0 : Int32)), .val (.int (0 : Int32)), .val (.ref b14)] [(.ref b14)]) _
    refine st18.trans ?_
    show Sp p e below T18 (mkF m 243 #[.val (.long p0), .second, .val (.long p1), .second, .val (.int p2), .val (.int p3), .val (.int p4), .val (.int p5), .val (.ref b1), .val (.ref b6), .val (.ref b8_0), .val (.ref b9_0), .val (.ref w_IGNORE), .val (.ref b11), .val (.int (0 : Int32)), .val (.int (0 : Int32)), .val (.ref b14)] [.null]) _
    refine XS.ifnonnullNo X18.here hx rfl (hb hby at_243) rfl ?_
    refine XS.iconst X18.here hx rfl (hb hby at_246) ?_
    show Sp p e below T18 (mkF m 247 #[.val (.long p0), .second, .val (.long p1), .second, .val (.int p2), .val (.int p3), .val (.int p4), .val (.int p5), .val (.ref b1), .val (.ref b6), .val (.ref b8_0), .val (.ref b9_0), .val (.ref w_IGNORE), .val (.ref b11), .val (.int (0 : Int32)), .val (.int (0 : Int32)), .val (.ref b14)] [(.int (1 : Int32))]) _
    refine XS.goto X18.here hx rfl (pc0 := 247) (pc' := 251) rfl (hb hby at_247) (by decide) (by decide) ?_
    show Sp p e below T18 (mkF m 251 #[.val (.long p0), .second, .val (.long p1), .second, .val (.int p2), .val (.int p3), .val (.int p4), .val (.int p5), .val (.ref b1), .val (.ref b6), .val (.ref b8_0), .val (.ref b9_0), .val (.ref w_IGNORE), .val (.ref b11), .val (.int (0 : Int32)), .val (.int (0 : Int32)), .val (.ref b14)] [(.int (1 : Int32))]) _
    exact retN X18 hx (t := .boolean) Bd.returns (by simp) (hb hby at_251) hr
  · skip
    exact ⟨rfl, N18⟩
def Q16 (Z : State) (w_PENDING : Addr) (w_IGNORE : Addr) (cs_v : Int32) (a1 : Addr) (q2 : Int64) (a3 : Addr) (a4 : Addr) (a5 : Addr) (a6 : Addr) (p7 : Int32) (p8 : Int32) (h0 : Heap) (n0 : Nat) (v : Option Value) (h : Heap) (L : List Loc) : Prop := v = none ∧ Fr n0 L ∧ Keep h0 h [a1] ∧ Exa Z h a1 "com/example/graph_job_runner/graphjobrunner/ClaimedNode" ∧ Fld Z h a1 "com/example/graph_job_runner/graphjobrunner/ClaimedNode" "attempt" "I" (.int p7) ∧ Fld Z h a1 "com/example/graph_job_runner/graphjobrunner/ClaimedNode" "failStrategy" "Lcom/example/graph_job_runner/graphjobrunner/FailStrategy;" (.ref w_PENDING) ∧ Fld Z h a1 "com/example/graph_job_runner/graphjobrunner/ClaimedNode" "hasChildren" "Z" (.int (0 : Int32)) ∧ Fld Z h a1 "com/example/graph_job_runner/graphjobrunner/ClaimedNode" "id" "J" (.long q2) ∧ Fld Z h a1 "com/example/graph_job_runner/graphjobrunner/ClaimedNode" "nodeKey" "Ljava/lang/String;" (.ref a4) ∧ Fld Z h a1 "com/example/graph_job_runner/graphjobrunner/ClaimedNode" "payload" "[B" (.ref a6) ∧ Fld Z h a1 "com/example/graph_job_runner/graphjobrunner/ClaimedNode" "position" "J" (.long (0 : Int64)) ∧ Fld Z h a1 "com/example/graph_job_runner/graphjobrunner/ClaimedNode" "processor" "Ljava/lang/String;" (.ref a5) ∧ Fld Z h a1 "com/example/graph_job_runner/graphjobrunner/ClaimedNode" "retryLimit" "I" (.int p8) ∧ Fld Z h a1 "com/example/graph_job_runner/graphjobrunner/ClaimedNode" "runKey" "Ljava/lang/String;" (.ref a3) ∧ Fld Z h a1 "com/example/graph_job_runner/graphjobrunner/ClaimedNode" "streamKey" "Ljava/lang/String;" .null
set_option maxRecDepth 65536 in
set_option maxHeartbeats 40000000 in
theorem rm16 (l : Launch) (Z : State) (a0 : Array Value) (hw : ∀ d ∈ tables_1, d.before a0 Z = true) (ws : List Jvm.Cond) (w_PENDING w_IGNORE : Addr) (cs_v : Int32) (hp : Perm Z w_PENDING w_IGNORE cs_v) (a1 : Addr) (q2 : Int64) (a3 : Addr) (a4 : Addr) (a5 : Addr) (a6 : Addr) (p7 : Int32) (p8 : Int32) (h0 : Heap) (n0 : Nat) (O0 : Old Z n0 h0) (E_a1 : Exa Z h0 a1 "com/example/graph_job_runner/graphjobrunner/ClaimedNode") (F_id_a1 : Fld Z h0 a1 "com/example/graph_job_runner/graphjobrunner/ClaimedNode" "id" "J" (.long (0 : Int64))) (F_runKey_a1 : Fld Z h0 a1 "com/example/graph_job_runner/graphjobrunner/ClaimedNode" "runKey" "Ljava/lang/String;" .null) (F_streamKey_a1 : Fld Z h0 a1 "com/example/graph_job_runner/graphjobrunner/ClaimedNode" "streamKey" "Ljava/lang/String;" .null) (F_position_a1 : Fld Z h0 a1 "com/example/graph_job_runner/graphjobrunner/ClaimedNode" "position" "J" (.long (0 : Int64))) (F_nodeKey_a1 : Fld Z h0 a1 "com/example/graph_job_runner/graphjobrunner/ClaimedNode" "nodeKey" "Ljava/lang/String;" .null) (F_processor_a1 : Fld Z h0 a1 "com/example/graph_job_runner/graphjobrunner/ClaimedNode" "processor" "Ljava/lang/String;" .null) (F_payload_a1 : Fld Z h0 a1 "com/example/graph_job_runner/graphjobrunner/ClaimedNode" "payload" "[B" .null) (F_attempt_a1 : Fld Z h0 a1 "com/example/graph_job_runner/graphjobrunner/ClaimedNode" "attempt" "I" (.int (0 : Int32))) (F_retryLimit_a1 : Fld Z h0 a1 "com/example/graph_job_runner/graphjobrunner/ClaimedNode" "retryLimit" "I" (.int (0 : Int32))) (F_failStrategy_a1 : Fld Z h0 a1 "com/example/graph_job_runner/graphjobrunner/ClaimedNode" "failStrategy" "Lcom/example/graph_job_runner/graphjobrunner/FailStrategy;" .null) (F_hasChildren_a1 : Fld Z h0 a1 "com/example/graph_job_runner/graphjobrunner/ClaimedNode" "hasChildren" "Z" (.int (0 : Int32))) (g_a1 : n0 ≤ a1) :
    MetFree l y9 (head1 (Jvm.Cond.code y9 prog_3_method_3_code 14 none :: ws) ({ frames := 1, cells := 0, slots := 0, locals := 12 } : Room)) (fun a U => a = #[(.ref a1), (.long q2), (.ref a3), .null, (.long (0 : Int64)), (.ref a4), (.ref a5), (.ref a6), (.int p7), (.int p8), (.ref w_PENDING), (.int (0 : Int32))] ∧ Z.Warmed39 U.vm ∧ U.heap = h0) (fun _ _ _ _ _ => True) (fun _ U o U' => ∃ v L, o = .returned v ∧ Q16 Z w_PENDING w_IGNORE cs_v a1 q2 a3 a4 a5 a6 p7 p8 h0 n0 v U'.heap L ∧ FrameEnd U o U' L ({ frames := 1, cells := 0, slots := 0, locals := 12 } : Room).cells ({ frames := 1, cells := 0, slots := 0, locals := 12 } : Room).slots) := by
  refine MetFree.of_bodySF (plainFor_of_name pn_12) hisR ?_
  intro p e s m args below meth c s₁ Bd hml0 hP hK
  obtain ⟨rfl, hZ, hh⟩ := hP
  have hx := Bd.exec
  have hby := Bd.bytes
  have hml : c.maxLocals = 14 := hml0
  have hown : s.vm.findClass "com/example/graph_job_runner/graphjobrunner/ClaimedNode" = some m.cls := findClass_of_methodNamed Bd.named
  have hnm := (name_of_methodNamed Bd.named Bd.method).1
  have X0 : Stand p l e ({ frames := 1, cells := 0, slots := 0, locals := 12 } : Room) s m #[(.ref a1), (.long q2), (.ref a3), .null, (.long (0 : Int64)), (.ref a4), (.ref a5), (.ref a6), (.int p7), (.int p8), (.ref w_PENDING), (.int (0 : Int32))] below meth c s₁ [] 0 0 := Stand.of_body Bd
  have e0 : s₁.heap = h0 := by rw [← hh, Bd.state]; rfl
  have N0 := Fr.nil n0
  have hp' := hp
  obtain ⟨S_w_PENDING, E_w_PENDING, S_w_IGNORE, E_w_IGNORE, S_COMPACT_STRINGS, h_cs⟩ := hp'
  have pre0 : ∀ t, Steps p.tables e below (s₁.setTop (mkF m 0 #[.val (.ref a1), .val (.long q2), .second, .val (.ref a3), .val .null, .val (.long (0 : Int64)), .second, .val (.ref a4), .val (.ref a5), .val (.ref a6), .val (.int p7), .val (.int p8), .val (.ref w_PENDING), .val (.int (0 : Int32))] [])) t → Steps p.tables e below (s₁.setTop (entryFrame m #[(.ref a1), (.long q2), (.ref a3), .null, (.long (0 : Int64)), (.ref a4), (.ref a5), (.ref a6), (.int p7), (.int p8), (.ref w_PENDING), (.int (0 : Int32))] 14)) t := fun t k => castTop (ef_12_0 m a1 q2 a3 (0 : Int64) a4 a5 a6 p7 p8 w_PENDING (0 : Int32)) k
  obtain ⟨T1, X1, e1, st1⟩ := initO X0 hx hZ hown (hw _ (List.mem_of_getElem? (i := 56) rfl)) (hw _ (List.mem_of_getElem? (i := 12) rfl)) (hw _ (List.mem_of_getElem? (i := 13) rfl)) e0 (g := (mkF m 1 #[.val (.ref a1), .val (.long q2), .second, .val (.ref a3), .val .null, .val (.long (0 : Int64)), .second, .val (.ref a4), .val (.ref a5), .val (.ref a6), .val (.int p7), .val (.int p8), .val (.ref w_PENDING), .val (.int (0 : Int32))] [(.ref a1)])) rfl (by rw [hml]; rfl) rfl (hb hby d12_1) (by decide) (W := 0) (by show 2 * 0 + _ ≤ _; exact Nat.le_of_eq rfl) (by decide)
  obtain ⟨T2, h2, X2, e2, W2, st2⟩ := putF X1 hx hZ hown (host := "") (Or.inl (hw _ (List.mem_of_getElem? (i := 57) rfl))) Via.refl e1 F_id_a1 E_a1 (Or.inr ⟨(hw _ (List.mem_of_getElem? (i := 58) rfl)), rfl, hnm⟩) (hw _ (List.mem_of_getElem? (i := 48) rfl)) (ty := .long) (by decide) rfl rfl (g := (mkF m 6 #[.val (.ref a1), .val (.long q2), .second, .val (.ref a3), .val .null, .val (.long (0 : Int64)), .second, .val (.ref a4), .val (.ref a5), .val (.ref a6), .val (.int p7), .val (.int p8), .val (.ref w_PENDING), .val (.int (0 : Int32))] [(.long q2), (.ref a1)])) rfl rfl (hb hby d12_6)
  have N2 := Fr.snoc X2 N0 g_a1
  have O2 := O0.wr W2 g_a1
  have K2 : Keep h0 h2 [a1] := (Keep.refl h0 [a1]).wr W2 (Or.inl (List.mem_of_getElem? (i := 0) rfl))
  have Fw2 := F_id_a1.same W2
  obtain ⟨T3, h3, X3, e3, W3, st3⟩ := putF X2 hx hZ hown (host := "") (Or.inl (hw _ (List.mem_of_getElem? (i := 59) rfl))) Via.refl e2 (F_runKey_a1.other W2 (Or.inr (sn2 hw))) (E_a1.wr W2) (Or.inr ⟨(hw _ (List.mem_of_getElem? (i := 60) rfl)), rfl, hnm⟩) (hw _ (List.mem_of_getElem? (i := 48) rfl)) (ty := (.object "java/lang/String")) (by decide) rfl rfl (g := (mkF m 11 #[.val (.ref a1), .val (.long q2), .second, .val (.ref a3), .val .null, .val (.long (0 : Int64)), .second, .val (.ref a4), .val (.ref a5), .val (.ref a6), .val (.int p7), .val (.int p8), .val (.ref w_PENDING), .val (.int (0 : Int32))] [(.ref a3), (.ref a1)])) rfl rfl (hb hby d12_11)
  have N3 := Fr.snoc X3 N2 g_a1
  have O3 := O2.wr W3 g_a1
  have K3 : Keep h0 h3 [a1] := K2.wr W3 (Or.inl (List.mem_of_getElem? (i := 0) rfl))
  have Fw3 := (F_runKey_a1.other W2 (Or.inr (sn2 hw))).same W3
  have f_4 := ((F_streamKey_a1.other W2 (Or.inr (sn3 hw))).other W3 (Or.inr (sn4 hw)))
  obtain ⟨T5, h5, X5, e5, W5, st5⟩ := putF X3 hx hZ hown (host := "") (Or.inl (hw _ (List.mem_of_getElem? (i := 61) rfl))) Via.refl e3 f_4 ((E_a1.wr W2).wr W3) (Or.inr ⟨(hw _ (List.mem_of_getElem? (i := 62) rfl)), rfl, hnm⟩) (hw _ (List.mem_of_getElem? (i := 48) rfl)) (ty := (.object "java/lang/String")) (by decide) rfl rfl (g := (mkF m 17 #[.val (.ref a1), .val (.long q2), .second, .val (.ref a3), .val .null, .val (.long (0 : Int64)), .second, .val (.ref a4), .val (.ref a5), .val (.ref a6), .val (.int p7), .val (.int p8), .val (.ref w_PENDING), .val (.int (0 : Int32))] [.null, (.ref a1)])) rfl rfl (hb hby d12_17)
  have N5 := Fr.snoc X5 N3 g_a1
  have O5 := O3.wr W5 g_a1
  have K5 : Keep h0 h5 [a1] := K3.wr W5 (Or.inl (List.mem_of_getElem? (i := 0) rfl))
  have Fw5 := f_4.same W5
  have f_6 := (((F_position_a1.other W2 (Or.inr (sn5 hw))).other W3 (Or.inr (sn6 hw))).other W5 (Or.inr (sn7 hw)))
  obtain ⟨T7, h7, X7, e7, W7, st7⟩ := putF X5 hx hZ hown (host := "") (Or.inl (hw _ (List.mem_of_getElem? (i := 63) rfl))) Via.refl e5 f_6 (((E_a1.wr W2).wr W3).wr W5) (Or.inr ⟨(hw _ (List.mem_of_getElem? (i := 64) rfl)), rfl, hnm⟩) (hw _ (List.mem_of_getElem? (i := 48) rfl)) (ty := .long) (by decide) rfl rfl (g := (mkF m 23 #[.val (.ref a1), .val (.long q2), .second, .val (.ref a3), .val .null, .val (.long (0 : Int64)), .second, .val (.ref a4), .val (.ref a5), .val (.ref a6), .val (.int p7), .val (.int p8), .val (.ref w_PENDING), .val (.int (0 : Int32))] [(.long (0 : Int64)), (.ref a1)])) rfl rfl (hb hby d12_23)
  have N7 := Fr.snoc X7 N5 g_a1
  have O7 := O5.wr W7 g_a1
  have K7 : Keep h0 h7 [a1] := K5.wr W7 (Or.inl (List.mem_of_getElem? (i := 0) rfl))
  have Fw7 := f_6.same W7
  have f_8 := ((((F_nodeKey_a1.other W2 (Or.inr (sn8 hw))).other W3 (Or.inr (sn9 hw))).other W5 (Or.inr (sn10 hw))).other W7 (Or.inr (sn11 hw)))
  obtain ⟨T9, h9, X9, e9, W9, st9⟩ := putF X7 hx hZ hown (host := "") (Or.inl (hw _ (List.mem_of_getElem? (i := 65) rfl))) Via.refl e7 f_8 ((((E_a1.wr W2).wr W3).wr W5).wr W7) (Or.inr ⟨(hw _ (List.mem_of_getElem? (i := 66) rfl)), rfl, hnm⟩) (hw _ (List.mem_of_getElem? (i := 48) rfl)) (ty := (.object "java/lang/String")) (by decide) rfl rfl (g := (mkF m 29 #[.val (.ref a1), .val (.long q2), .second, .val (.ref a3), .val .null, .val (.long (0 : Int64)), .second, .val (.ref a4), .val (.ref a5), .val (.ref a6), .val (.int p7), .val (.int p8), .val (.ref w_PENDING), .val (.int (0 : Int32))] [(.ref a4), (.ref a1)])) rfl rfl (hb hby d12_29)
  have N9 := Fr.snoc X9 N7 g_a1
  have O9 := O7.wr W9 g_a1
  have K9 : Keep h0 h9 [a1] := K7.wr W9 (Or.inl (List.mem_of_getElem? (i := 0) rfl))
  have Fw9 := f_8.same W9
  have f_10 := (((((F_processor_a1.other W2 (Or.inr (sn12 hw))).other W3 (Or.inr (sn13 hw))).other W5 (Or.inr (sn14 hw))).other W7 (Or.inr (sn15 hw))).other W9 (Or.inr (sn16 hw)))
  obtain ⟨T11, h11, X11, e11, W11, st11⟩ := putF X9 hx hZ hown (host := "") (Or.inl (hw _ (List.mem_of_getElem? (i := 67) rfl))) Via.refl e9 f_10 (((((E_a1.wr W2).wr W3).wr W5).wr W7).wr W9) (Or.inr ⟨(hw _ (List.mem_of_getElem? (i := 68) rfl)), rfl, hnm⟩) (hw _ (List.mem_of_getElem? (i := 48) rfl)) (ty := (.object "java/lang/String")) (by decide) rfl rfl (g := (mkF m 35 #[.val (.ref a1), .val (.long q2), .second, .val (.ref a3), .val .null, .val (.long (0 : Int64)), .second, .val (.ref a4), .val (.ref a5), .val (.ref a6), .val (.int p7), .val (.int p8), .val (.ref w_PENDING), .val (.int (0 : Int32))] [(.ref a5), (.ref a1)])) rfl rfl (hb hby d12_35)
  have N11 := Fr.snoc X11 N9 g_a1
  have O11 := O9.wr W11 g_a1
  have K11 : Keep h0 h11 [a1] := K9.wr W11 (Or.inl (List.mem_of_getElem? (i := 0) rfl))
  have Fw11 := f_10.same W11
  have f_12 := ((((((F_payload_a1.other W2 (Or.inr (sn17 hw))).other W3 (Or.inr (sn18 hw))).other W5 (Or.inr (sn19 hw))).other W7 (Or.inr (sn20 hw))).other W9 (Or.inr (sn21 hw))).other W11 (Or.inr (sn22 hw)))
  obtain ⟨T13, h13, X13, e13, W13, st13⟩ := putF X11 hx hZ hown (host := "") (Or.inl (hw _ (List.mem_of_getElem? (i := 69) rfl))) Via.refl e11 f_12 ((((((E_a1.wr W2).wr W3).wr W5).wr W7).wr W9).wr W11) (Or.inr ⟨(hw _ (List.mem_of_getElem? (i := 70) rfl)), rfl, hnm⟩) (hw _ (List.mem_of_getElem? (i := 48) rfl)) (ty := (.array .byte)) (by decide) rfl rfl (g := (mkF m 41 #[.val (.ref a1), .val (.long q2), .second, .val (.ref a3), .val .null, .val (.long (0 : Int64)), .second, .val (.ref a4), .val (.ref a5), .val (.ref a6), .val (.int p7), .val (.int p8), .val (.ref w_PENDING), .val (.int (0 : Int32))] [(.ref a6), (.ref a1)])) rfl rfl (hb hby d12_41)
  have N13 := Fr.snoc X13 N11 g_a1
  have O13 := O11.wr W13 g_a1
  have K13 : Keep h0 h13 [a1] := K11.wr W13 (Or.inl (List.mem_of_getElem? (i := 0) rfl))
  have Fw13 := f_12.same W13
  have f_14 := (((((((E_a1.wr W2).wr W3).wr W5).wr W7).wr W9).wr W11).wr W13)
  have f_15 := (((((((F_attempt_a1.other W2 (Or.inr (sn23 hw))).other W3 (Or.inr (sn24 hw))).other W5 (Or.inr (sn25 hw))).other W7 (Or.inr (sn26 hw))).other W9 (Or.inr (sn27 hw))).other W11 (Or.inr (sn28 hw))).other W13 (Or.inr (sn29 hw)))
  obtain ⟨T16, h16, X16, e16, W16, st16⟩ := putF X13 hx hZ hown (host := "") (Or.inl (hw _ (List.mem_of_getElem? (i := 71) rfl))) Via.refl e13 f_15 f_14 (Or.inr ⟨(hw _ (List.mem_of_getElem? (i := 72) rfl)), rfl, hnm⟩) (hw _ (List.mem_of_getElem? (i := 48) rfl)) (ty := .int) (by decide) rfl rfl (g := (mkF m 47 #[.val (.ref a1), .val (.long q2), .second, .val (.ref a3), .val .null, .val (.long (0 : Int64)), .second, .val (.ref a4), .val (.ref a5), .val (.ref a6), .val (.int p7), .val (.int p8), .val (.ref w_PENDING), .val (.int (0 : Int32))] [(.int p7), (.ref a1)])) rfl rfl (hb hby d12_47)
  have N16 := Fr.snoc X16 N13 g_a1
  have O16 := O13.wr W16 g_a1
  have K16 : Keep h0 h16 [a1] := K13.wr W16 (Or.inl (List.mem_of_getElem? (i := 0) rfl))
  have Fw16 := f_15.same W16
  have f_17 := ((((((((F_retryLimit_a1.other W2 (Or.inr (sn30 hw))).other W3 (Or.inr (sn31 hw))).other W5 (Or.inr (sn32 hw))).other W7 (Or.inr (sn33 hw))).other W9 (Or.inr (sn34 hw))).other W11 (Or.inr (sn35 hw))).other W13 (Or.inr (sn36 hw))).other W16 (Or.inr (sn37 hw)))
  obtain ⟨T18, h18, X18, e18, W18, st18⟩ := putF X16 hx hZ hown (host := "") (Or.inl (hw _ (List.mem_of_getElem? (i := 73) rfl))) Via.refl e16 f_17 (f_14.wr W16) (Or.inr ⟨(hw _ (List.mem_of_getElem? (i := 74) rfl)), rfl, hnm⟩) (hw _ (List.mem_of_getElem? (i := 48) rfl)) (ty := .int) (by decide) rfl rfl (g := (mkF m 53 #[.val (.ref a1), .val (.long q2), .second, .val (.ref a3), .val .null, .val (.long (0 : Int64)), .second, .val (.ref a4), .val (.ref a5), .val (.ref a6), .val (.int p7), .val (.int p8), .val (.ref w_PENDING), .val (.int (0 : Int32))] [(.int p8), (.ref a1)])) rfl rfl (hb hby d12_53)
  have N18 := Fr.snoc X18 N16 g_a1
  have O18 := O16.wr W18 g_a1
  have K18 : Keep h0 h18 [a1] := K16.wr W18 (Or.inl (List.mem_of_getElem? (i := 0) rfl))
  have Fw18 := f_17.same W18
  have f_19 := (((((((((F_failStrategy_a1.other W2 (Or.inr (sn38 hw))).other W3 (Or.inr (sn39 hw))).other W5 (Or.inr (sn40 hw))).other W7 (Or.inr (sn41 hw))).other W9 (Or.inr (sn42 hw))).other W11 (Or.inr (sn43 hw))).other W13 (Or.inr (sn44 hw))).other W16 (Or.inr (sn45 hw))).other W18 (Or.inr (sn46 hw)))
  obtain ⟨T20, h20, X20, e20, W20, st20⟩ := putF X18 hx hZ hown (host := "") (Or.inl (hw _ (List.mem_of_getElem? (i := 75) rfl))) Via.refl e18 f_19 ((f_14.wr W16).wr W18) (Or.inr ⟨(hw _ (List.mem_of_getElem? (i := 76) rfl)), rfl, hnm⟩) (hw _ (List.mem_of_getElem? (i := 48) rfl)) (ty := (.object "com/example/graph_job_runner/graphjobrunner/FailStrategy")) (by decide) rfl rfl (g := (mkF m 59 #[.val (.ref a1), .val (.long q2), .second, .val (.ref a3), .val .null, .val (.long (0 : Int64)), .second, .val (.ref a4), .val (.ref a5), .val (.ref a6), .val (.int p7), .val (.int p8), .val (.ref w_PENDING), .val (.int (0 : Int32))] [(.ref w_PENDING), (.ref a1)])) rfl rfl (hb hby d12_59)
  have N20 := Fr.snoc X20 N18 g_a1
  have O20 := O18.wr W20 g_a1
  have K20 : Keep h0 h20 [a1] := K18.wr W20 (Or.inl (List.mem_of_getElem? (i := 0) rfl))
  have Fw20 := f_19.same W20
  have f_21 := ((((((((((F_hasChildren_a1.other W2 (Or.inr (sn47 hw))).other W3 (Or.inr (sn48 hw))).other W5 (Or.inr (sn49 hw))).other W7 (Or.inr (sn50 hw))).other W9 (Or.inr (sn51 hw))).other W11 (Or.inr (sn52 hw))).other W13 (Or.inr (sn53 hw))).other W16 (Or.inr (sn54 hw))).other W18 (Or.inr (sn55 hw))).other W20 (Or.inr (sn56 hw)))
  obtain ⟨T22, h22, X22, e22, W22, st22⟩ := putFN X20 hx hZ hown (hw _ (List.mem_of_getElem? (i := 77) rfl)) Via.refl e20 f_21 (((f_14.wr W16).wr W18).wr W20) (Or.inr ⟨(hw _ (List.mem_of_getElem? (i := 78) rfl)), rfl, hnm⟩) (hw _ (List.mem_of_getElem? (i := 48) rfl)) (ty := .boolean) (v' := (.int (0 : Int32))) (by decide) rfl rfl (g := (mkF m 65 #[.val (.ref a1), .val (.long q2), .second, .val (.ref a3), .val .null, .val (.long (0 : Int64)), .second, .val (.ref a4), .val (.ref a5), .val (.ref a6), .val (.int p7), .val (.int p8), .val (.ref w_PENDING), .val (.int (0 : Int32))] [(.int (0 : Int32)), (.ref a1)])) rfl rfl (hb hby d12_65)
  have N22 := Fr.snoc X22 N20 g_a1
  have O22 := O20.wr W22 g_a1
  have K22 : Keep h0 h22 [a1] := K20.wr W22 (Or.inl (List.mem_of_getElem? (i := 0) rfl))
  have Fw22 := f_21.same W22
  have f_23 := (((Fw16.other W18 (Or.inr (sn57 hw))).other W20 (Or.inr (sn58 hw))).other W22 (Or.inr (sn59 hw)))
  have f_24 := ((((((((((Fw2.other W3 (Or.inr (sn61 hw))).other W5 (Or.inr (sn62 hw))).other W7 (Or.inr (sn63 hw))).other W9 (Or.inr (sn64 hw))).other W11 (Or.inr (sn65 hw))).other W13 (Or.inr (sn66 hw))).other W16 (Or.inr (sn67 hw))).other W18 (Or.inr (sn68 hw))).other W20 (Or.inr (sn69 hw))).other W22 (Or.inr (sn70 hw)))
  have f_25 := ((((((Fw9.other W11 (Or.inr (sn71 hw))).other W13 (Or.inr (sn72 hw))).other W16 (Or.inr (sn73 hw))).other W18 (Or.inr (sn74 hw))).other W20 (Or.inr (sn75 hw))).other W22 (Or.inr (sn76 hw)))
  have f_26 := ((((Fw13.other W16 (Or.inr (sn77 hw))).other W18 (Or.inr (sn78 hw))).other W20 (Or.inr (sn79 hw))).other W22 (Or.inr (sn80 hw)))
  have f_27 := (((((((Fw7.other W9 (Or.inr (sn81 hw))).other W11 (Or.inr (sn82 hw))).other W13 (Or.inr (sn83 hw))).other W16 (Or.inr (sn84 hw))).other W18 (Or.inr (sn85 hw))).other W20 (Or.inr (sn86 hw))).other W22 (Or.inr (sn87 hw)))
  have f_28 := (((((Fw11.other W13 (Or.inr (sn88 hw))).other W16 (Or.inr (sn89 hw))).other W18 (Or.inr (sn90 hw))).other W20 (Or.inr (sn91 hw))).other W22 (Or.inr (sn92 hw)))
  have f_29 := ((Fw18.other W20 (Or.inr (sn93 hw))).other W22 (Or.inr (sn94 hw)))
  have f_30 := (((((((((Fw3.other W5 (Or.inr (sn95 hw))).other W7 (Or.inr (sn96 hw))).other W9 (Or.inr (sn97 hw))).other W11 (Or.inr (sn98 hw))).other W13 (Or.inr (sn99 hw))).other W16 (Or.inr (sn100 hw))).other W18 (Or.inr (sn101 hw))).other W20 (Or.inr (sn102 hw))).other W22 (Or.inr (sn103 hw)))
  have f_31 := ((((((((Fw5.other W7 (Or.inr (sn104 hw))).other W9 (Or.inr (sn105 hw))).other W11 (Or.inr (sn106 hw))).other W13 (Or.inr (sn107 hw))).other W16 (Or.inr (sn108 hw))).other W18 (Or.inr (sn109 hw))).other W20 (Or.inr (sn110 hw))).other W22 (Or.inr (sn111 hw)))
  obtain ⟨fs, hr, hrun, hended, hW, hsame⟩ := X22.leave (v := none) (fun _ => rfl)
  refine ⟨_, _, pre0 _ ?_, hrun, hended, _, _, rfl, ?_, ⟨_, rfl⟩, hW, hsame.mono (by decide) (by decide)⟩
  · show Sp p e below s₁ (mkF m 0 #[.val (.ref a1), .val (.long q2), .second, .val (.ref a3), .val .null, .val (.long (0 : Int64)), .second, .val (.ref a4), .val (.ref a5), .val (.ref a6), .val (.int p7), .val (.int p8), .val (.ref w_PENDING), .val (.int (0 : Int32))] []) _
    refine XS.aloadN X0.here hx rfl (hb hby d12_0) rfl rfl ?_
    show Sp p e below s₁ (mkF m 1 #[.val (.ref a1), .val (.long q2), .second, .val (.ref a3), .val .null, .val (.long (0 : Int64)), .second, .val (.ref a4), .val (.ref a5), .val (.ref a6), .val (.int p7), .val (.int p8), .val (.ref w_PENDING), .val (.int (0 : Int32))] [(.ref a1)]) _
    refine st1 _ ?_
    show Sp p e below T1 (mkF m 4 #[.val (.ref a1), .val (.long q2), .second, .val (.ref a3), .val .null, .val (.long (0 : Int64)), .second, .val (.ref a4), .val (.ref a5), .val (.ref a6), .val (.int p7), .val (.int p8), .val (.ref w_PENDING), .val (.int (0 : Int32))] []) _
    refine XS.aloadN X1.here hx rfl (hb hby d12_4) rfl rfl ?_
    refine XS.lloadN X1.here hx rfl (hb hby d12_5) rfl ?_
    show Sp p e below T1 (mkF m 6 #[.val (.ref a1), .val (.long q2), .second, .val (.ref a3), .val .null, .val (.long (0 : Int64)), .second, .val (.ref a4), .val (.ref a5), .val (.ref a6), .val (.int p7), .val (.int p8), .val (.ref w_PENDING), .val (.int (0 : Int32))] [(.long q2), (.ref a1)]) _
    refine st2 _ ?_
    show Sp p e below T2 (mkF m 9 #[.val (.ref a1), .val (.long q2), .second, .val (.ref a3), .val .null, .val (.long (0 : Int64)), .second, .val (.ref a4), .val (.ref a5), .val (.ref a6), .val (.int p7), .val (.int p8), .val (.ref w_PENDING), .val (.int (0 : Int32))] []) _
    refine XS.aloadN X2.here hx rfl (hb hby d12_9) rfl rfl ?_
    refine XS.aloadN X2.here hx rfl (hb hby d12_10) rfl rfl ?_
    show Sp p e below T2 (mkF m 11 #[.val (.ref a1), .val (.long q2), .second, .val (.ref a3), .val .null, .val (.long (0 : Int64)), .second, .val (.ref a4), .val (.ref a5), .val (.ref a6), .val (.int p7), .val (.int p8), .val (.ref w_PENDING), .val (.int (0 : Int32))] [(.ref a3), (.ref a1)]) _
    refine st3 _ ?_
    show Sp p e below T3 (mkF m 14 #[.val (.ref a1), .val (.long q2), .second, .val (.ref a3), .val .null, .val (.long (0 : Int64)), .second, .val (.ref a4), .val (.ref a5), .val (.ref a6), .val (.int p7), .val (.int p8), .val (.ref w_PENDING), .val (.int (0 : Int32))] []) _
    refine XS.aloadN X3.here hx rfl (hb hby d12_14) rfl rfl ?_
    refine XS.aload X3.here hx rfl (hb hby d12_15) rfl rfl ?_
    show Sp p e below T3 (mkF m 17 #[.val (.ref a1), .val (.long q2), .second, .val (.ref a3), .val .null, .val (.long (0 : Int64)), .second, .val (.ref a4), .val (.ref a5), .val (.ref a6), .val (.int p7), .val (.int p8), .val (.ref w_PENDING), .val (.int (0 : Int32))] [.null, (.ref a1)]) _
    refine st5 _ ?_
    show Sp p e below T5 (mkF m 20 #[.val (.ref a1), .val (.long q2), .second, .val (.ref a3), .val .null, .val (.long (0 : Int64)), .second, .val (.ref a4), .val (.ref a5), .val (.ref a6), .val (.int p7), .val (.int p8), .val (.ref w_PENDING), .val (.int (0 : Int32))] []) _
    refine XS.aloadN X5.here hx rfl (hb hby d12_20) rfl rfl ?_
    refine XS.lload X5.here hx rfl (hb hby d12_21) rfl ?_
    show Sp p e below T5 (mkF m 23 #[.val (.ref a1), .val (.long q2), .second, .val (.ref a3), .val .null, .val (.long (0 : Int64)), .second, .val (.ref a4), .val (.ref a5), .val (.ref a6), .val (.int p7), .val (.int p8), .val (.ref w_PENDING), .val (.int (0 : Int32))] [(.long (0 : Int64)), (.ref a1)]) _
    refine st7 _ ?_
    show Sp p e below T7 (mkF m 26 #[.val (.ref a1), .val (.long q2), .second, .val (.ref a3), .val .null, .val (.long (0 : Int64)), .second, .val (.ref a4), .val (.ref a5), .val (.ref a6), .val (.int p7), .val (.int p8), .val (.ref w_PENDING), .val (.int (0 : Int32))] []) _
    refine XS.aloadN X7.here hx rfl (hb hby d12_26) rfl rfl ?_
    refine XS.aload X7.here hx rfl (hb hby d12_27) rfl rfl ?_
    show Sp p e below T7 (mkF m 29 #[.val (.ref a1), .val (.long q2), .second, .val (.ref a3), .val .null, .val (.long (0 : Int64)), .second, .val (.ref a4), .val (.ref a5), .val (.ref a6), .val (.int p7), .val (.int p8), .val (.ref w_PENDING), .val (.int (0 : Int32))] [(.ref a4), (.ref a1)]) _
    refine st9 _ ?_
    show Sp p e below T9 (mkF m 32 #[.val (.ref a1), .val (.long q2), .second, .val (.ref a3), .val .null, .val (.long (0 : Int64)), .second, .val (.ref a4), .val (.ref a5), .val (.ref a6), .val (.int p7), .val (.int p8), .val (.ref w_PENDING), .val (.int (0 : Int32))] []) _
    refine XS.aloadN X9.here hx rfl (hb hby d12_32) rfl rfl ?_
    refine XS.aload X9.here hx rfl (hb hby d12_33) rfl rfl ?_
    show Sp p e below T9 (mkF m 35 #[.val (.ref a1), .val (.long q2), .second, .val (.ref a3), .val .null, .val (.long (0 : Int64)), .second, .val (.ref a4), .val (.ref a5), .val (.ref a6), .val (.int p7), .val (.int p8), .val (.ref w_PENDING), .val (.int (0 : Int32))] [(.ref a5), (.ref a1)]) _
    refine st11 _ ?_
    show Sp p e below T11 (mkF m 38 #[.val (.ref a1), .val (.long q2), .second, .val (.ref a3), .val .null, .val (.long (0 : Int64)), .second, .val (.ref a4), .val (.ref a5), .val (.ref a6), .val (.int p7), .val (.int p8), .val (.ref w_PENDING), .val (.int (0 : Int32))] []) _
    refine XS.aloadN X11.here hx rfl (hb hby d12_38) rfl rfl ?_
    refine XS.aload X11.here hx rfl (hb hby d12_39) rfl rfl ?_
    show Sp p e below T11 (mkF m 41 #[.val (.ref a1), .val (.long q2), .second, .val (.ref a3), .val .null, .val (.long (0 : Int64)), .second, .val (.ref a4), .val (.ref a5), .val (.ref a6), .val (.int p7), .val (.int p8), .val (.ref w_PENDING), .val (.int (0 : Int32))] [(.ref a6), (.ref a1)]) _
    refine st13 _ ?_
    show Sp p e below T13 (mkF m 44 #[.val (.ref a1), .val (.long q2), .second, .val (.ref a3), .val .null, .val (.long (0 : Int64)), .second, .val (.ref a4), .val (.ref a5), .val (.ref a6), .val (.int p7), .val (.int p8), .val (.ref w_PENDING), .val (.int (0 : Int32))] []) _
    refine XS.aloadN X13.here hx rfl (hb hby d12_44) rfl rfl ?_
    refine XS.iload X13.here hx rfl (hb hby d12_45) rfl ?_
    show Sp p e below T13 (mkF m 47 #[.val (.ref a1), .val (.long q2), .second, .val (.ref a3), .val .null, .val (.long (0 : Int64)), .second, .val (.ref a4), .val (.ref a5), .val (.ref a6), .val (.int p7), .val (.int p8), .val (.ref w_PENDING), .val (.int (0 : Int32))] [(.int p7), (.ref a1)]) _
    refine st16 _ ?_
    show Sp p e below T16 (mkF m 50 #[.val (.ref a1), .val (.long q2), .second, .val (.ref a3), .val .null, .val (.long (0 : Int64)), .second, .val (.ref a4), .val (.ref a5), .val (.ref a6), .val (.int p7), .val (.int p8), .val (.ref w_PENDING), .val (.int (0 : Int32))] []) _
    refine XS.aloadN X16.here hx rfl (hb hby d12_50) rfl rfl ?_
    refine XS.iload X16.here hx rfl (hb hby d12_51) rfl ?_
    show Sp p e below T16 (mkF m 53 #[.val (.ref a1), .val (.long q2), .second, .val (.ref a3), .val .null, .val (.long (0 : Int64)), .second, .val (.ref a4), .val (.ref a5), .val (.ref a6), .val (.int p7), .val (.int p8), .val (.ref w_PENDING), .val (.int (0 : Int32))] [(.int p8), (.ref a1)]) _
    refine st18 _ ?_
    show Sp p e below T18 (mkF m 56 #[.val (.ref a1), .val (.long q2), .second, .val (.ref a3), .val .null, .val (.long (0 : Int64)), .second, .val (.ref a4), .val (.ref a5), .val (.ref a6), .val (.int p7), .val (.int p8), .val (.ref w_PENDING), .val (.int (0 : Int32))] []) _
    refine XS.aloadN X18.here hx rfl (hb hby d12_56) rfl rfl ?_
    refine XS.aload X18.here hx rfl (hb hby d12_57) rfl rfl ?_
    show Sp p e below T18 (mkF m 59 #[.val (.ref a1), .val (.long q2), .second, .val (.ref a3), .val .null, .val (.long (0 : Int64)), .second, .val (.ref a4), .val (.ref a5), .val (.ref a6), .val (.int p7), .val (.int p8), .val (.ref w_PENDING), .val (.int (0 : Int32))] [(.ref w_PENDING), (.ref a1)]) _
    refine st20 _ ?_
    show Sp p e below T20 (mkF m 62 #[.val (.ref a1), .val (.long q2), .second, .val (.ref a3), .val .null, .val (.long (0 : Int64)), .second, .val (.ref a4), .val (.ref a5), .val (.ref a6), .val (.int p7), .val (.int p8), .val (.ref w_PENDING), .val (.int (0 : Int32))] []) _
    refine XS.aloadN X20.here hx rfl (hb hby d12_62) rfl rfl ?_
    refine XS.iload X20.here hx rfl (hb hby d12_63) rfl ?_
    show Sp p e below T20 (mkF m 65 #[.val (.ref a1), .val (.long q2), .second, .val (.ref a3), .val .null, .val (.long (0 : Int64)), .second, .val (.ref a4), .val (.ref a5), .val (.ref a6), .val (.int p7), .val (.int p8), .val (.ref w_PENDING), .val (.int (0 : Int32))] [(.int (0 : Int32)), (.ref a1)]) _
    refine st22 _ ?_
    show Sp p e below T22 (mkF m 68 #[.val (.ref a1), .val (.long q2), .second, .val (.ref a3), .val .null, .val (.long (0 : Int64)), .second, .val (.ref a4), .val (.ref a5), .val (.ref a6), .val (.int p7), .val (.int p8), .val (.ref w_PENDING), .val (.int (0 : Int32))] []) _
    exact X22.returnOut hx Bd.returns (hb hby d12_68) hr
  · show Q16 Z w_PENDING w_IGNORE cs_v a1 q2 a3 a4 a5 a6 p7 p8 h0 n0 _ T22.heap _
    rw [e22]
    exact ⟨rfl, N22, K22, ((((f_14.wr W16).wr W18).wr W20).wr W22), f_23, (Fw20.other W22 (Or.inr (sn60 hw))), Fw22, f_24, f_25, f_26, f_27, f_28, f_29, f_30, f_31⟩
def Q17 (Z : State) (w_PENDING : Addr) (w_IGNORE : Addr) (cs_v : Int32) (a1 : Addr) (q2 : Int64) (a3 : Addr) (a4 : Addr) (a5 : Addr) (a6 : Addr) (p7 : Int32) (p8 : Int32) (h0 : Heap) (n0 : Nat) (v : Option Value) (h : Heap) (L : List Loc) : Prop := v = none ∧ Fr n0 L ∧ Keep h0 h [a1] ∧ Exa Z h a1 "com/example/graph_job_runner/graphjobrunner/ClaimedNode" ∧ Fld Z h a1 "com/example/graph_job_runner/graphjobrunner/ClaimedNode" "attempt" "I" (.int p7) ∧ Fld Z h a1 "com/example/graph_job_runner/graphjobrunner/ClaimedNode" "failStrategy" "Lcom/example/graph_job_runner/graphjobrunner/FailStrategy;" (.ref w_PENDING) ∧ Fld Z h a1 "com/example/graph_job_runner/graphjobrunner/ClaimedNode" "hasChildren" "Z" (.int (0 : Int32)) ∧ Fld Z h a1 "com/example/graph_job_runner/graphjobrunner/ClaimedNode" "id" "J" (.long q2) ∧ Fld Z h a1 "com/example/graph_job_runner/graphjobrunner/ClaimedNode" "nodeKey" "Ljava/lang/String;" (.ref a4) ∧ Fld Z h a1 "com/example/graph_job_runner/graphjobrunner/ClaimedNode" "payload" "[B" (.ref a6) ∧ Fld Z h a1 "com/example/graph_job_runner/graphjobrunner/ClaimedNode" "position" "J" (.long (0 : Int64)) ∧ Fld Z h a1 "com/example/graph_job_runner/graphjobrunner/ClaimedNode" "processor" "Ljava/lang/String;" (.ref a5) ∧ Fld Z h a1 "com/example/graph_job_runner/graphjobrunner/ClaimedNode" "retryLimit" "I" (.int p8) ∧ Fld Z h a1 "com/example/graph_job_runner/graphjobrunner/ClaimedNode" "runKey" "Ljava/lang/String;" (.ref a3) ∧ Fld Z h a1 "com/example/graph_job_runner/graphjobrunner/ClaimedNode" "streamKey" "Ljava/lang/String;" .null
set_option maxRecDepth 65536 in
set_option maxHeartbeats 40000000 in
theorem rm17 (l : Launch) (Z : State) (a0 : Array Value) (hw : ∀ d ∈ tables_1, d.before a0 Z = true) (ws : List Jvm.Cond) (w_PENDING w_IGNORE : Addr) (cs_v : Int32) (hp : Perm Z w_PENDING w_IGNORE cs_v) (a1 : Addr) (q2 : Int64) (a3 : Addr) (a4 : Addr) (a5 : Addr) (a6 : Addr) (p7 : Int32) (p8 : Int32) (h0 : Heap) (n0 : Nat) (O0 : Old Z n0 h0) (E_a1 : Exa Z h0 a1 "com/example/graph_job_runner/graphjobrunner/ClaimedNode") (F_id_a1 : Fld Z h0 a1 "com/example/graph_job_runner/graphjobrunner/ClaimedNode" "id" "J" (.long (0 : Int64))) (F_runKey_a1 : Fld Z h0 a1 "com/example/graph_job_runner/graphjobrunner/ClaimedNode" "runKey" "Ljava/lang/String;" .null) (F_streamKey_a1 : Fld Z h0 a1 "com/example/graph_job_runner/graphjobrunner/ClaimedNode" "streamKey" "Ljava/lang/String;" .null) (F_position_a1 : Fld Z h0 a1 "com/example/graph_job_runner/graphjobrunner/ClaimedNode" "position" "J" (.long (0 : Int64))) (F_nodeKey_a1 : Fld Z h0 a1 "com/example/graph_job_runner/graphjobrunner/ClaimedNode" "nodeKey" "Ljava/lang/String;" .null) (F_processor_a1 : Fld Z h0 a1 "com/example/graph_job_runner/graphjobrunner/ClaimedNode" "processor" "Ljava/lang/String;" .null) (F_payload_a1 : Fld Z h0 a1 "com/example/graph_job_runner/graphjobrunner/ClaimedNode" "payload" "[B" .null) (F_attempt_a1 : Fld Z h0 a1 "com/example/graph_job_runner/graphjobrunner/ClaimedNode" "attempt" "I" (.int (0 : Int32))) (F_retryLimit_a1 : Fld Z h0 a1 "com/example/graph_job_runner/graphjobrunner/ClaimedNode" "retryLimit" "I" (.int (0 : Int32))) (F_failStrategy_a1 : Fld Z h0 a1 "com/example/graph_job_runner/graphjobrunner/ClaimedNode" "failStrategy" "Lcom/example/graph_job_runner/graphjobrunner/FailStrategy;" .null) (F_hasChildren_a1 : Fld Z h0 a1 "com/example/graph_job_runner/graphjobrunner/ClaimedNode" "hasChildren" "Z" (.int (0 : Int32))) (g_a1 : n0 ≤ a1) :
    MetFree l y10 (head1 (Jvm.Cond.code y10 prog_3_method_1_code 11 none :: ws) ({ frames := 2, cells := 0, slots := 0, locals := 37 } : Room)) (fun a U => a = #[(.ref a1), (.long q2), (.ref a3), (.ref a4), (.ref a5), (.ref a6), (.int p7), (.int p8), (.ref w_PENDING), (.int (0 : Int32))] ∧ Z.Warmed39 U.vm ∧ U.heap = h0) (fun _ _ _ _ _ => True) (fun _ U o U' => ∃ v L, o = .returned v ∧ Q17 Z w_PENDING w_IGNORE cs_v a1 q2 a3 a4 a5 a6 p7 p8 h0 n0 v U'.heap L ∧ FrameEnd U o U' L ({ frames := 2, cells := 0, slots := 0, locals := 37 } : Room).cells ({ frames := 2, cells := 0, slots := 0, locals := 37 } : Room).slots) := by
  refine MetFree.of_bodySF (plainFor_of_name pn_12) hisR ?_
  intro p e s m args below meth c s₁ Bd hml0 hP hK
  obtain ⟨rfl, hZ, hh⟩ := hP
  have hx := Bd.exec
  have hby := Bd.bytes
  have hml : c.maxLocals = 11 := hml0
  have hown : s.vm.findClass "com/example/graph_job_runner/graphjobrunner/ClaimedNode" = some m.cls := findClass_of_methodNamed Bd.named
  have hnm := (name_of_methodNamed Bd.named Bd.method).1
  have X0 : Stand p l e ({ frames := 2, cells := 0, slots := 0, locals := 37 } : Room) s m #[(.ref a1), (.long q2), (.ref a3), (.ref a4), (.ref a5), (.ref a6), (.int p7), (.int p8), (.ref w_PENDING), (.int (0 : Int32))] below meth c s₁ [] 0 0 := Stand.of_body Bd
  have e0 : s₁.heap = h0 := by rw [← hh, Bd.state]; rfl
  have N0 := Fr.nil n0
  have hp' := hp
  obtain ⟨S_w_PENDING, E_w_PENDING, S_w_IGNORE, E_w_IGNORE, S_COMPACT_STRINGS, h_cs⟩ := hp'
  have pre0 : ∀ t, Steps p.tables e below (s₁.setTop (mkF m 0 #[.val (.ref a1), .val (.long q2), .second, .val (.ref a3), .val (.ref a4), .val (.ref a5), .val (.ref a6), .val (.int p7), .val (.int p8), .val (.ref w_PENDING), .val (.int (0 : Int32))] [])) t → Steps p.tables e below (s₁.setTop (entryFrame m #[(.ref a1), (.long q2), (.ref a3), (.ref a4), (.ref a5), (.ref a6), (.int p7), (.int p8), (.ref w_PENDING), (.int (0 : Int32))] 11)) t := fun t k => castTop (ef_11_0 m a1 q2 a3 a4 a5 a6 p7 p8 w_PENDING (0 : Int32)) k
  obtain ⟨_, _, ⟨T1, L1, k1, n1⟩, -, X1, ⟨Lc1, hQ1, l1, y1, z1⟩, st1⟩ := X0.specialBack hx (y := y9) rfl hown (mvT hZ (hw _ (List.mem_of_getElem? (i := 53) rfl))) (mvT hZ (hw _ (List.mem_of_getElem? (i := 54) rfl))) (mvT hZ (hw _ (List.mem_of_getElem? (i := 55) rfl))) (by decide) (backOf (W := 0) (rm16 l Z a0 hw [] w_PENDING w_IGNORE cs_v hp a1 q2 a3 a4 a5 a6 p7 p8 h0 n0 O0 E_a1 F_id_a1 F_runKey_a1 F_streamKey_a1 F_position_a1 F_nodeKey_a1 F_processor_a1 F_payload_a1 F_attempt_a1 F_retryLimit_a1 F_failStrategy_a1 F_hasChildren_a1 g_a1) hZ (hw _ (List.mem_of_getElem? (i := 55) rfl)) (hw _ (List.mem_of_getElem? (i := 49) rfl)) (by decide) (by decide)) (g := (mkF m 19 #[.val (.ref a1), .val (.long q2), .second, .val (.ref a3), .val (.ref a4), .val (.ref a5), .val (.ref a6), .val (.int p7), .val (.int p8), .val (.ref w_PENDING), .val (.int (0 : Int32))] [(.int (0 : Int32)), (.ref w_PENDING), (.int p8), (.int p7), (.ref a6), (.ref a5), (.ref a4), (.long (0 : Int64)), .null, (.ref a3), (.long q2), (.ref a1)])) rfl (by rw [hml]; rfl) (Steps.refl _) (a := a1) (argsL := [(.long q2), (.ref a3), .null, (.long (0 : Int64)), (.ref a4), (.ref a5), (.ref a6), (.int p7), (.int p8), (.ref w_PENDING), (.int (0 : Int32))]) (rest := []) (lenOf pd_9 rfl) rfl (by show 2 * 0 + _ ≤ _; exact Nat.le_of_eq rfl) (hb hby d11_19) (fun _ _ => ⟨rfl, e0, (by decide : 0 + 0 ≤ _), (by decide : 0 + 0 ≤ _)⟩)
  dsimp only [Pt.U, Pt.locs, Pt.cells, Pt.slots] at X1 l1 y1 z1 st1 hQ1
  subst l1 y1 z1
  obtain ⟨rfl, Nq1, Kq1, fq1_0, fq1_1, fq1_2, fq1_3, fq1_4, fq1_5, fq1_6, fq1_7, fq1_8, fq1_9, fq1_10, fq1_11⟩ := hQ1
  have N1 := Fr.app N0 Nq1
  have O1 := O0.keep Kq1 (allS g_a1 all0)
  have K1 : Keep h0 T1.heap [a1] := (Keep.refl h0 [a1]).trans Kq1 (allS (Or.inl (List.mem_of_getElem? (i := 0) rfl)) all0)
  obtain ⟨fs, hr, hrun, hended, hW, hsame⟩ := X1.leave (v := none) (fun _ => rfl)
  refine ⟨_, _, pre0 _ ?_, hrun, hended, _, _, rfl, ?_, ⟨_, rfl⟩, hW, hsame.mono (by decide) (by decide)⟩
  · show Sp p e below s₁ (mkF m 0 #[.val (.ref a1), .val (.long q2), .second, .val (.ref a3), .val (.ref a4), .val (.ref a5), .val (.ref a6), .val (.int p7), .val (.int p8), .val (.ref w_PENDING), .val (.int (0 : Int32))] []) _
    refine XS.aloadN X0.here hx rfl (hb hby d11_0) rfl rfl ?_
    refine XS.lloadN X0.here hx rfl (hb hby d11_1) rfl ?_
    refine XS.aloadN X0.here hx rfl (hb hby d11_2) rfl rfl ?_
    refine XS.aconstNull X0.here hx rfl (hb hby d11_3) ?_
    refine XS.lconst X0.here hx rfl (hb hby d11_4) ?_
    refine XS.aload X0.here hx rfl (hb hby d11_5) rfl rfl ?_
    refine XS.aload X0.here hx rfl (hb hby d11_7) rfl rfl ?_
    refine XS.aload X0.here hx rfl (hb hby d11_9) rfl rfl ?_
    refine XS.iload X0.here hx rfl (hb hby d11_11) rfl ?_
    refine XS.iload X0.here hx rfl (hb hby d11_13) rfl ?_
    refine XS.aload X0.here hx rfl (hb hby d11_15) rfl rfl ?_
    refine XS.iload X0.here hx rfl (hb hby d11_17) rfl ?_
    show Sp p e below s₁ (mkF m 19 #[.val (.ref a1), .val (.long q2), .second, .val (.ref a3), .val (.ref a4), .val (.ref a5), .val (.ref a6), .val (.int p7), .val (.int p8), .val (.ref w_PENDING), .val (.int (0 : Int32))] [(.int (0 : Int32)), (.ref w_PENDING), (.int p8), (.int p7), (.ref a6), (.ref a5), (.ref a4), (.long (0 : Int64)), .null, (.ref a3), (.long q2), (.ref a1)]) _
    refine st1.trans ?_
    show Sp p e below T1 (mkF m 22 #[.val (.ref a1), .val (.long q2), .second, .val (.ref a3), .val (.ref a4), .val (.ref a5), .val (.ref a6), .val (.int p7), .val (.int p8), .val (.ref w_PENDING), .val (.int (0 : Int32))] []) _
    exact X1.returnOut hx Bd.returns (hb hby d11_22) hr
  · show Q17 Z w_PENDING w_IGNORE cs_v a1 q2 a3 a4 a5 a6 p7 p8 h0 n0 _ T1.heap _
    exact ⟨rfl, N1, K1, fq1_0, fq1_1, fq1_2, fq1_3, fq1_4, fq1_5, fq1_6, fq1_7, fq1_8, fq1_9, fq1_10, fq1_11⟩
set_option maxRecDepth 65536 in
set_option maxHeartbeats 40000000 in
theorem rm18 (l : Launch) (Z : State) (a0 : Array Value) (hw : ∀ d ∈ tables_1, d.before a0 Z = true) (ws : List Jvm.Cond) (w_PENDING w_IGNORE : Addr) (cs_v : Int32) (hp : Perm Z w_PENDING w_IGNORE cs_v) (p0 : Int64) (p1 : Int64) (p2 : Int32) (p3 : Int32) (p4 : Int32) (p5 : Int32) (h0 : Heap) (n0 : Nat) (O0 : Old Z n0 h0) (hc1 : ¬ ((p5 &&& (2 : Int32)) = (0 : Int32))) (hc2 : (p5 &&& (1 : Int32)) = (0 : Int32)) (hc3 : (p5 &&& (4 : Int32)) = (0 : Int32)) :
    MetFree l x (head1 (Jvm.Cond.code x code maxLocals ret :: ws) room_1) (fun a U => a = #[(.long p0), (.long p1), (.int p2), (.int p3), (.int p4), (.int p5)] ∧ Z.Warmed39 U.vm ∧ U.heap = h0) (fun _ _ _ _ _ => True) (fun _ U o U' => ∃ v L, o = .returned v ∧ (v = some (.int (1 : Int32)) ∧ Fr n0 L) ∧ FrameEnd U o U' L 32 128) := by
  refine MetFree.of_bodySF (plainFor_of_name pn_0) hisR ?_
  intro p e s m args below meth c s₁ Bd hml0 hP hK
  obtain ⟨rfl, hZ, hh⟩ := hP
  have hx := Bd.exec
  have hby := Bd.bytes
  have hml : c.maxLocals = 17 := hml0
  have hown : s.vm.findClass "com/example/graph_job_runner/graphjobrunner/ClaimedNodeInStreamPinLaw" = some m.cls := findClass_of_methodNamed Bd.named
  have hnm := (name_of_methodNamed Bd.named Bd.method).1
  have X0 : Stand p l e room_1 s m #[(.long p0), (.long p1), (.int p2), (.int p3), (.int p4), (.int p5)] below meth c s₁ [] 0 0 := Stand.of_body Bd
  have e0 : s₁.heap = h0 := by rw [← hh, Bd.state]; rfl
  have N0 := Fr.nil n0
  have hp' := hp
  obtain ⟨S_w_PENDING, E_w_PENDING, S_w_IGNORE, E_w_IGNORE, S_COMPACT_STRINGS, h_cs⟩ := hp'
  have pre0 : ∀ t, Steps p.tables e below (s₁.setTop (mkF m 0 #[.val (.long p0), .second, .val (.long p1), .second, .val (.int p2), .val (.int p3), .val (.int p4), .val (.int p5), .unset, .unset, .unset, .unset, .unset, .unset, .unset, .unset, .unset] [])) t → Steps p.tables e below (s₁.setTop (entryFrame m #[(.long p0), (.long p1), (.int p2), (.int p3), (.int p4), (.int p5)] maxLocals)) t := fun t k => castTop (ef_0_0 m p0 p1 p2 p3 p4 p5) k
  obtain ⟨T1, h1, k1, X1, e1, E1, A1, EA1, st1⟩ := newPE X0 hx hZ (hw _ (List.mem_of_getElem? (i := 0) rfl)) e0 (g := (mkF m 1 #[.val (.long p0), .second, .val (.long p1), .second, .val (.int p2), .val (.int p3), .val (.int p4), .val (.int p5), .unset, .unset, .unset, .unset, .unset, .unset, .unset, .unset, .unset] [(.int (2 : Int32))])) rfl (hb hby at_1) rfl (by decide) (cap := 2) (by decide) (by decide) (by decide) (by decide) (ad := "[C") (by decide)
  obtain ⟨b1, g1⟩ : ∃ z, z = h0.size := ⟨_, rfl⟩
  rw [← g1] at A1 EA1 st1
  have g_b1 : n0 ≤ b1 := Nat.le_trans (own_sz O0) (Nat.le_of_eq g1.symm)
  have sz_b1 : h0.size ≤ b1 := Nat.le_trans (Keep.refl h0 []).1 (Nat.le_of_eq g1.symm)
  have O1 := O0.ext E1
  have K1 : Keep h0 h1 [] := (Keep.refl h0 []).ext E1
  have V_b1 : Arv Z h1 b1 k1 .char (2 : Int32) [(.int (0 : Int32)), (.int (0 : Int32))] (.int (0 : Int32)) := (Arv.new A1 (by decide)).pad (pad_rep [] (.int (0 : Int32)) 2)
  obtain ⟨cl2, Ar2, q2, S2, Nn2, H2, G2⟩ := id V_b1
  have hin2 : ¬ ((0 : Int32) < 0 ∨ cl2.slots.size ≤ ((0 : Int32)).toNatClampNeg) := inb_of S2 ⟨by decide, by decide⟩
  obtain ⟨T3, h3, X3, e3, W3, st3⟩ := stC X1 hx hZ e1 Ar2 (j := (0 : Int32)) hin2 (g := (mkF m 15 #[.val (.long p0), .second, .val (.long p1), .second, .val (.int p2), .val (.int p3), .val (.int p4), .val (.int p5), .val (.ref b1), .unset, .unset, .unset, .unset, .unset, .unset, .unset, .unset] [(.int ((p4 &&& (255 : Int32)).toUInt32.toUInt16.toUInt32.toInt32)), (.int (0 : Int32)), (.ref b1)])) rfl rfl (hb hby at_15)
  have N3 := Fr.snoc X3 N0 g_b1
  have O3 := O1.wr W3 g_b1
  have K3 : Keep h0 h3 [] := K1.wr W3 (Or.inr sz_b1)
  have V_b1_3 : Arv Z h3 b1 k1 .char (2 : Int32) [(.int (nar .char ((p4 &&& (255 : Int32)).toUInt32.toUInt16.toUInt32.toInt32))), (.int (0 : Int32))] (.int (0 : Int32)) := Arv.set Ar2 q2 S2 Nn2 H2 G2 (fits_nar_char _) W3 0 rfl (Nat.le_of_ble_eq_true rfl)
  obtain ⟨cl4, Ar4, q4, S4, Nn4, H4, G4⟩ := id V_b1_3
  have hin4 : ¬ ((1 : Int32) < 0 ∨ cl4.slots.size ≤ ((1 : Int32)).toNatClampNeg) := inb_of S4 ⟨by decide, by decide⟩
  obtain ⟨T5, h5, X5, e5, W5, st5⟩ := stC X3 hx hZ e3 Ar4 (j := (1 : Int32)) hin4 (g := (mkF m 29 #[.val (.long p0), .second, .val (.long p1), .second, .val (.int p2), .val (.int p3), .val (.int p4), .val (.int p5), .val (.ref b1), .unset, .unset, .unset, .unset, .unset, .unset, .unset, .unset] [(.int ((((p4.toUInt32 >>> ((8 : Int32) &&& 31).toUInt32).toInt32) &&& (255 : Int32)).toUInt32.toUInt16.toUInt32.toInt32)), (.int (1 : Int32)), (.ref b1)])) rfl rfl (hb hby at_29)
  have N5 := Fr.snoc X5 N3 g_b1
  have O5 := O3.wr W5 g_b1
  have K5 : Keep h0 h5 [] := K3.wr W5 (Or.inr sz_b1)
  have V_b1_5 : Arv Z h5 b1 k1 .char (2 : Int32) [(.int (nar .char ((p4 &&& (255 : Int32)).toUInt32.toUInt16.toUInt32.toInt32))), (.int (nar .char ((((p4.toUInt32 >>> ((8 : Int32) &&& 31).toUInt32).toInt32) &&& (255 : Int32)).toUInt32.toUInt16.toUInt32.toInt32)))] (.int (0 : Int32)) := Arv.set Ar4 q4 S4 Nn4 H4 G4 (fits_nar_char _) W5 1 rfl (Nat.le_of_ble_eq_true rfl)
  obtain ⟨T6, h6, X6, e6, E6, A6, D6, -, st6⟩ := newO X5 hx hZ hown (hw _ (List.mem_of_getElem? (i := 1) rfl)) (hw _ (List.mem_of_getElem? (i := 2) rfl)) (hw _ (List.mem_of_getElem? (i := 3) rfl)) e5 (g := (mkF m 30 #[.val (.long p0), .second, .val (.long p1), .second, .val (.int p2), .val (.int p3), .val (.int p4), .val (.int p5), .val (.ref b1), .unset, .unset, .unset, .unset, .unset, .unset, .unset, .unset] [])) rfl (hb hby at_30) (by decide) (by decide)
  obtain ⟨b6, g6⟩ : ∃ z, z = h5.size := ⟨_, rfl⟩
  rw [← g6] at A6 D6 st6
  have g_b6 : n0 ≤ b6 := Nat.le_trans (own_sz O5) (Nat.le_of_eq g6.symm)
  have sz_b6 : h0.size ≤ b6 := Nat.le_trans K5.1 (Nat.le_of_eq g6.symm)
  have O6 := O5.ext E6
  have K6 : Keep h0 h6 [] := K5.ext E6
  have F_coder_b6 : Fld Z h6 b6 "java/lang/String" "coder" "B" (.int (0 : Int32)) := D6 (Or.inr (hw _ (List.mem_of_getElem? (i := 27) rfl))) (ty := .byte) (by decide)
  have F_value_b6 : Fld Z h6 b6 "java/lang/String" "value" "[B" .null := D6 (Or.inr (hw _ (List.mem_of_getElem? (i := 29) rfl))) (ty := (.array .byte)) (by decide)
  obtain ⟨_, _, ⟨T7, L7, k7, n7⟩, -, X7, ⟨Lc7, hQ7, l7, y7, z7⟩, st7⟩ := X6.specialBack hx (y := y4) rfl hown (mvT hZ (hw _ (List.mem_of_getElem? (i := 4) rfl))) (mvT hZ (hw _ (List.mem_of_getElem? (i := 5) rfl))) (mvT hZ (hw _ (List.mem_of_getElem? (i := 6) rfl))) (by decide) (backOf (W := 1) (rm5 l Z a0 hw [] w_PENDING w_IGNORE cs_v hp b6 b1 k1 (nar .char ((p4 &&& (255 : Int32)).toUInt32.toUInt16.toUInt32.toInt32)) (nar .char ((((p4.toUInt32 >>> ((8 : Int32) &&& 31).toUInt32).toInt32) &&& (255 : Int32)).toUInt32.toUInt16.toUInt32.toInt32)) h6 n0 O6 (V_b1_5.ext E6) (own_ch2 p4) (own_ch2 ((p4.toUInt32 >>> ((8 : Int32) &&& 31).toUInt32).toInt32)) (((EA1.wr W3).wr W5).ext E6) A6 F_coder_b6 F_value_b6 g_b6) hZ (hw _ (List.mem_of_getElem? (i := 6) rfl)) (hw _ (List.mem_of_getElem? (i := 3) rfl)) (by decide) (by decide)) (g := (mkF m 36 #[.val (.long p0), .second, .val (.long p1), .second, .val (.int p2), .val (.int p3), .val (.int p4), .val (.int p5), .val (.ref b1), .unset, .unset, .unset, .unset, .unset, .unset, .unset, .unset] [(.ref b1), (.ref b6), (.ref b6)])) rfl (by rw [hml]; rfl) (Steps.refl _) (a := b6) (argsL := [(.ref b1)]) (rest := [(.ref b6)]) (lenOf pd_4 rfl) rfl (by show 2 * 0 + _ ≤ _; exact Nat.le_of_eq rfl) (hb hby at_36) (fun _ _ => ⟨rfl, e6, (by decide : 2 + 1 ≤ _), (by decide : 6 + 2 ≤ _)⟩)
  dsimp only [Pt.U, Pt.locs, Pt.cells, Pt.slots] at X7 l7 y7 z7 st7 hQ7
  subst l7 y7 z7
  obtain ⟨b7_0, kc7_0, rfl, Nq7, Kq7, sq_b7_0, fq7_0, fq7_1, fq7_2, fq7_3, fq7_4⟩ := hQ7
  have N7 := Fr.app N5 Nq7
  have g_b7_0 : n0 ≤ b7_0 := Nat.le_trans (own_sz O6) sq_b7_0
  have sz_b7_0 : h0.size ≤ b7_0 := Nat.le_trans K6.1 sq_b7_0
  have O7 := O6.keep Kq7 (allS g_b6 all0)
  have K7 : Keep h0 T7.heap [] := K6.trans Kq7 (allS (Or.inr sz_b6) all0)
  obtain ⟨_, _, ⟨T8, L8, k8, n8⟩, -, X8, ⟨Lc8, hQ8, l8, y8, z8⟩, st8⟩ := Jvm.LawKit.callS X7 hx (y := y8) hown (mvT hZ (hw _ (List.mem_of_getElem? (i := 30) rfl))) (mvT hZ (hw _ (List.mem_of_getElem? (i := 31) rfl))) (mvT hZ (hw _ (List.mem_of_getElem? (i := 3) rfl))) (mvT hZ (hw _ (List.mem_of_getElem? (i := 32) rfl))) (by decide) (backOf (W := 0) (rm9 l Z a0 hw [] w_PENDING w_IGNORE cs_v hp ((((p4.toUInt32 >>> ((16 : Int32) &&& 31).toUInt32).toInt32) &&& (255 : Int32)).toUInt32.toUInt16.toUInt32.toInt32) T7.heap n0 O7 (own_ch1 ((p4.toUInt32 >>> ((16 : Int32) &&& 31).toUInt32).toInt32))) hZ (hw _ (List.mem_of_getElem? (i := 32) rfl)) (hw _ (List.mem_of_getElem? (i := 3) rfl)) (by decide) (by decide)) (g := (mkF m 51 #[.val (.long p0), .second, .val (.long p1), .second, .val (.int p2), .val (.int p3), .val (.int p4), .val (.int p5), .val (.ref b1), .val (.ref b6), .unset, .unset, .unset, .unset, .unset, .unset, .unset] [(.int ((((p4.toUInt32 >>> ((16 : Int32) &&& 31).toUInt32).toInt32) &&& (255 : Int32)).toUInt32.toUInt16.toUInt32.toInt32))])) rfl (by rw [hml]; rfl) (argsL := [(.int ((((p4.toUInt32 >>> ((16 : Int32) &&& 31).toUInt32).toInt32) &&& (255 : Int32)).toUInt32.toUInt16.toUInt32.toInt32))]) (rest := []) (lenOf pd_8 rfl) rfl (by show 2 * 0 + _ ≤ _; exact Nat.le_of_eq rfl) (hb hby at_51) (fun _ _ => ⟨rfl, rfl, (by decide : 3 + 2 ≤ _), (by decide : 8 + 5 ≤ _)⟩)
  dsimp only [Pt.U, Pt.locs, Pt.cells, Pt.slots] at X8 l8 y8 z8 st8 hQ8
  subst l8 y8 z8
  obtain ⟨b8_0, b8_1, kc8_0, rfl, Nq8, Kq8, sq_b8_0, sq_b8_1, nq8_0, fq8_0, fq8_1, fq8_2, fq8_3, fq8_4⟩ := hQ8
  have N8 := Fr.app N7 Nq8
  have g_b8_0 : n0 ≤ b8_0 := Nat.le_trans (own_sz O7) sq_b8_0
  have sz_b8_0 : h0.size ≤ b8_0 := Nat.le_trans K7.1 sq_b8_0
  have g_b8_1 : n0 ≤ b8_1 := Nat.le_trans (own_sz O7) sq_b8_1
  have sz_b8_1 : h0.size ≤ b8_1 := Nat.le_trans K7.1 sq_b8_1
  have O8 := O7.keep Kq8 all0
  have K8 : Keep h0 T8.heap [] := K7.trans Kq8 all0
  obtain ⟨_, _, ⟨T9, L9, k9, n9⟩, -, X9, ⟨Lc9, hQ9, l9, y9, z9⟩, st9⟩ := Jvm.LawKit.callS X8 hx (y := y8) hown (mvT hZ (hw _ (List.mem_of_getElem? (i := 30) rfl))) (mvT hZ (hw _ (List.mem_of_getElem? (i := 31) rfl))) (mvT hZ (hw _ (List.mem_of_getElem? (i := 3) rfl))) (mvT hZ (hw _ (List.mem_of_getElem? (i := 32) rfl))) (by decide) (backOf (W := 0) (rm9 l Z a0 hw [] w_PENDING w_IGNORE cs_v hp ((((p4.toUInt32 >>> ((24 : Int32) &&& 31).toUInt32).toInt32) &&& (255 : Int32)).toUInt32.toUInt16.toUInt32.toInt32) T8.heap n0 O8 (own_ch1 ((p4.toUInt32 >>> ((24 : Int32) &&& 31).toUInt32).toInt32))) hZ (hw _ (List.mem_of_getElem? (i := 32) rfl)) (hw _ (List.mem_of_getElem? (i := 3) rfl)) (by decide) (by decide)) (g := (mkF m 66 #[.val (.long p0), .second, .val (.long p1), .second, .val (.int p2), .val (.int p3), .val (.int p4), .val (.int p5), .val (.ref b1), .val (.ref b6), .val (.ref b8_0), .unset, .unset, .unset, .unset, .unset, .unset] [(.int ((((p4.toUInt32 >>> ((24 : Int32) &&& 31).toUInt32).toInt32) &&& (255 : Int32)).toUInt32.toUInt16.toUInt32.toInt32))])) rfl (by rw [hml]; rfl) (argsL := [(.int ((((p4.toUInt32 >>> ((24 : Int32) &&& 31).toUInt32).toInt32) &&& (255 : Int32)).toUInt32.toUInt16.toUInt32.toInt32))]) (rest := []) (lenOf pd_8 rfl) rfl (by show 2 * 0 + _ ≤ _; exact Nat.le_of_eq rfl) (hb hby at_66) (fun _ _ => ⟨rfl, rfl, (by decide : 5 + 2 ≤ _), (by decide : 13 + 5 ≤ _)⟩)
  dsimp only [Pt.U, Pt.locs, Pt.cells, Pt.slots] at X9 l9 y9 z9 st9 hQ9
  subst l9 y9 z9
  obtain ⟨b9_0, b9_1, kc9_0, rfl, Nq9, Kq9, sq_b9_0, sq_b9_1, nq9_0, fq9_0, fq9_1, fq9_2, fq9_3, fq9_4⟩ := hQ9
  have N9 := Fr.app N8 Nq9
  have g_b9_0 : n0 ≤ b9_0 := Nat.le_trans (own_sz O8) sq_b9_0
  have sz_b9_0 : h0.size ≤ b9_0 := Nat.le_trans K8.1 sq_b9_0
  have g_b9_1 : n0 ≤ b9_1 := Nat.le_trans (own_sz O8) sq_b9_1
  have sz_b9_1 : h0.size ≤ b9_1 := Nat.le_trans K8.1 sq_b9_1
  have O9 := O8.keep Kq9 all0
  have K9 : Keep h0 T9.heap [] := K8.trans Kq9 all0
  obtain ⟨T10, X10, e10, st10⟩ := getS2 X9 hx hZ hown (host := "") (Or.inl (hw _ (List.mem_of_getElem? (i := 44) rfl))) Via.refl rfl (S_w_PENDING.ext O9.2) (g := (mkF m 78 #[.val (.long p0), .second, .val (.long p1), .second, .val (.int p2), .val (.int p3), .val (.int p4), .val (.int p5), .val (.ref b1), .val (.ref b6), .val (.ref b8_0), .val (.ref b9_0), .unset, .unset, .unset, .unset, .unset] [])) rfl (hb hby at_78)
  obtain ⟨T11, h11, k11, X11, e11, E11, A11, EA11, st11⟩ := newPE X10 hx hZ (hw _ (List.mem_of_getElem? (i := 19) rfl)) e10 (g := (mkF m 90 #[.val (.long p0), .second, .val (.long p1), .second, .val (.int p2), .val (.int p3), .val (.int p4), .val (.int p5), .val (.ref b1), .val (.ref b6), .val (.ref b8_0), .val (.ref b9_0), .val (.ref w_PENDING), .unset, .unset, .unset, .unset] [(.int (1 : Int32))])) rfl (hb hby at_90) rfl (by decide) (cap := 1) (by decide) (by decide) (by decide) (by decide) (ad := "[B") (by decide)
  obtain ⟨b11, g11⟩ : ∃ z, z = T9.heap.size := ⟨_, rfl⟩
  rw [← g11] at A11 EA11 st11
  have g_b11 : n0 ≤ b11 := Nat.le_trans (own_sz O9) (Nat.le_of_eq g11.symm)
  have sz_b11 : h0.size ≤ b11 := Nat.le_trans K9.1 (Nat.le_of_eq g11.symm)
  have O11 := O9.ext E11
  have K11 : Keep h0 h11 [] := K9.ext E11
  have V_b11 : Arv Z h11 b11 k11 .byte (1 : Int32) [(.int (0 : Int32))] (.int (0 : Int32)) := (Arv.new A11 (by decide)).pad (pad_rep [] (.int (0 : Int32)) 1)
  obtain ⟨cl12, Ar12, q12, S12, Nn12, H12, G12⟩ := id V_b11
  have hin12 : ¬ ((0 : Int32) < 0 ∨ cl12.slots.size ≤ ((0 : Int32)).toNatClampNeg) := inb_of S12 ⟨by decide, by decide⟩
  obtain ⟨T13, h13, X13, e13, W13, st13⟩ := stB X11 hx hZ e11 Ar12 (j := (0 : Int32)) hin12 (g := (mkF m 103 #[.val (.long p0), .second, .val (.long p1), .second, .val (.int p2), .val (.int p3), .val (.int p4), .val (.int p5), .val (.ref b1), .val (.ref b6), .val (.ref b8_0), .val (.ref b9_0), .val (.ref w_PENDING), .val (.ref b11), .unset, .unset, .unset] [(.int (((p5.toUInt32 >>> ((8 : Int32) &&& 31).toUInt32).toInt32).toInt8.toInt32)), (.int (0 : Int32)), (.ref b11)])) rfl rfl (hb hby at_103)
  have N13 := Fr.snoc X13 N9 g_b11
  have O13 := O11.wr W13 g_b11
  have K13 : Keep h0 h13 [] := K11.wr W13 (Or.inr sz_b11)
  have V_b11_13 : Arv Z h13 b11 k11 .byte (1 : Int32) [(.int (nar .byte (((p5.toUInt32 >>> ((8 : Int32) &&& 31).toUInt32).toInt32).toInt8.toInt32)))] (.int (0 : Int32)) := Arv.set Ar12 q12 S12 Nn12 H12 G12 (fits_nar_byte _) W13 0 rfl (Nat.le_of_ble_eq_true rfl)
  obtain ⟨T14, h14, X14, e14, E14, A14, D14, -, st14⟩ := newO X13 hx hZ hown (hw _ (List.mem_of_getElem? (i := 47) rfl)) (hw _ (List.mem_of_getElem? (i := 48) rfl)) (hw _ (List.mem_of_getElem? (i := 49) rfl)) e13 (g := (mkF m 194 #[.val (.long p0), .second, .val (.long p1), .second, .val (.int p2), .val (.int p3), .val (.int p4), .val (.int p5), .val (.ref b1), .val (.ref b6), .val (.ref b8_0), .val (.ref b9_0), .val (.ref w_PENDING), .val (.ref b11), .val (.int (0 : Int32)), .val (.int (0 : Int32)), .unset] [])) rfl (hb hby at_194) (by decide) (by decide)
  obtain ⟨b14, g14⟩ : ∃ z, z = h13.size := ⟨_, rfl⟩
  rw [← g14] at A14 D14 st14
  have g_b14 : n0 ≤ b14 := Nat.le_trans (own_sz O13) (Nat.le_of_eq g14.symm)
  have sz_b14 : h0.size ≤ b14 := Nat.le_trans K13.1 (Nat.le_of_eq g14.symm)
  have O14 := O13.ext E14
  have K14 : Keep h0 h14 [] := K13.ext E14
  have F_id_b14 : Fld Z h14 b14 "com/example/graph_job_runner/graphjobrunner/ClaimedNode" "id" "J" (.long (0 : Int64)) := D14 (Or.inr (hw _ (List.mem_of_getElem? (i := 58) rfl))) (ty := .long) (by decide)
  have F_runKey_b14 : Fld Z h14 b14 "com/example/graph_job_runner/graphjobrunner/ClaimedNode" "runKey" "Ljava/lang/String;" .null := D14 (Or.inr (hw _ (List.mem_of_getElem? (i := 60) rfl))) (ty := (.object "java/lang/String")) (by decide)
  have F_streamKey_b14 : Fld Z h14 b14 "com/example/graph_job_runner/graphjobrunner/ClaimedNode" "streamKey" "Ljava/lang/String;" .null := D14 (Or.inr (hw _ (List.mem_of_getElem? (i := 62) rfl))) (ty := (.object "java/lang/String")) (by decide)
  have F_position_b14 : Fld Z h14 b14 "com/example/graph_job_runner/graphjobrunner/ClaimedNode" "position" "J" (.long (0 : Int64)) := D14 (Or.inr (hw _ (List.mem_of_getElem? (i := 64) rfl))) (ty := .long) (by decide)
  have F_nodeKey_b14 : Fld Z h14 b14 "com/example/graph_job_runner/graphjobrunner/ClaimedNode" "nodeKey" "Ljava/lang/String;" .null := D14 (Or.inr (hw _ (List.mem_of_getElem? (i := 66) rfl))) (ty := (.object "java/lang/String")) (by decide)
  have F_processor_b14 : Fld Z h14 b14 "com/example/graph_job_runner/graphjobrunner/ClaimedNode" "processor" "Ljava/lang/String;" .null := D14 (Or.inr (hw _ (List.mem_of_getElem? (i := 68) rfl))) (ty := (.object "java/lang/String")) (by decide)
  have F_payload_b14 : Fld Z h14 b14 "com/example/graph_job_runner/graphjobrunner/ClaimedNode" "payload" "[B" .null := D14 (Or.inr (hw _ (List.mem_of_getElem? (i := 70) rfl))) (ty := (.array .byte)) (by decide)
  have F_attempt_b14 : Fld Z h14 b14 "com/example/graph_job_runner/graphjobrunner/ClaimedNode" "attempt" "I" (.int (0 : Int32)) := D14 (Or.inr (hw _ (List.mem_of_getElem? (i := 72) rfl))) (ty := .int) (by decide)
  have F_retryLimit_b14 : Fld Z h14 b14 "com/example/graph_job_runner/graphjobrunner/ClaimedNode" "retryLimit" "I" (.int (0 : Int32)) := D14 (Or.inr (hw _ (List.mem_of_getElem? (i := 74) rfl))) (ty := .int) (by decide)
  have F_failStrategy_b14 : Fld Z h14 b14 "com/example/graph_job_runner/graphjobrunner/ClaimedNode" "failStrategy" "Lcom/example/graph_job_runner/graphjobrunner/FailStrategy;" .null := D14 (Or.inr (hw _ (List.mem_of_getElem? (i := 76) rfl))) (ty := (.object "com/example/graph_job_runner/graphjobrunner/FailStrategy")) (by decide)
  have F_hasChildren_b14 : Fld Z h14 b14 "com/example/graph_job_runner/graphjobrunner/ClaimedNode" "hasChildren" "Z" (.int (0 : Int32)) := D14 (Or.inr (hw _ (List.mem_of_getElem? (i := 78) rfl))) (ty := .boolean) (by decide)
  obtain ⟨_, _, ⟨T15, L15, k15, n15⟩, -, X15, ⟨Lc15, hQ15, l15, y15, z15⟩, st15⟩ := X14.specialBack hx (y := y10) rfl hown (mvT hZ (hw _ (List.mem_of_getElem? (i := 50) rfl))) (mvT hZ (hw _ (List.mem_of_getElem? (i := 51) rfl))) (mvT hZ (hw _ (List.mem_of_getElem? (i := 52) rfl))) (by decide) (backOf (W := 1) (rm17 l Z a0 hw [] w_PENDING w_IGNORE cs_v hp b14 p0 b6 b8_0 b9_0 b11 p2 p3 h14 n0 O14 A14 F_id_b14 F_runKey_b14 F_streamKey_b14 F_position_b14 F_nodeKey_b14 F_processor_b14 F_payload_b14 F_attempt_b14 F_retryLimit_b14 F_failStrategy_b14 F_hasChildren_b14 g_b14) hZ (hw _ (List.mem_of_getElem? (i := 52) rfl)) (hw _ (List.mem_of_getElem? (i := 49) rfl)) (by decide) (by decide)) (g := (mkF m 215 #[.val (.long p0), .second, .val (.long p1), .second, .val (.int p2), .val (.int p3), .val (.int p4), .val (.int p5), .val (.ref b1), .val (.ref b6), .val (.ref b8_0), .val (.ref b9_0), .val (.ref w_PENDING), .val (.ref b11), .val (.int (0 : Int32)), .val (.int (0 : Int32)), .unset] [(.int (0 : Int32)), (.ref w_PENDING), (.int p3), (.int p2), (.ref b11), (.ref b9_0), (.ref b8_0), (.ref b6), (.long p0), (.ref b14), (.ref b14)])) rfl (by rw [hml]; rfl) (Steps.refl _) (a := b14) (argsL := [(.long p0), (.ref b6), (.ref b8_0), (.ref b9_0), (.ref b11), (.int p2), (.int p3), (.ref w_PENDING), (.int (0 : Int32))]) (rest := [(.ref b14)]) (lenOf pd_10 rfl) rfl (by show 2 * 0 + _ ≤ _; exact Nat.le_of_eq rfl) (hb hby at_215) (fun _ _ => ⟨rfl, e14, (by decide : 9 + 0 ≤ _), (by decide : 30 + 0 ≤ _)⟩)
  dsimp only [Pt.U, Pt.locs, Pt.cells, Pt.slots] at X15 l15 y15 z15 st15 hQ15
  subst l15 y15 z15
  obtain ⟨rfl, Nq15, Kq15, fq15_0, fq15_1, fq15_2, fq15_3, fq15_4, fq15_5, fq15_6, fq15_7, fq15_8, fq15_9, fq15_10, fq15_11⟩ := hQ15
  have N15 := Fr.app N13 Nq15
  have O15 := O14.keep Kq15 (allS g_b14 all0)
  have K15 : Keep h0 T15.heap [] := K14.trans Kq15 (allS (Or.inr sz_b14) all0)
  obtain ⟨cq16, kq16, q16a, q16b, q16c⟩ := isOf hZ rfl fq15_0
  obtain ⟨_, _, ⟨T16, L16, k16, n16⟩, -, X16, ⟨Lc16, hQ16, l16, y16, z16⟩, st16⟩ := X15.virtualBack hx (y := y11) (z := y11) hown (mvT hZ (hw _ (List.mem_of_getElem? (i := 79) rfl))) (mvT hZ (hw _ (List.mem_of_getElem? (i := 80) rfl))) (notFace_of_selects (args := #[]) (mvT hZ (hw _ (List.mem_of_getElem? (i := 82) rfl)))) (mvT hZ (hw _ (List.mem_of_getElem? (i := 82) rfl))) (mvT hZ (hw _ (List.mem_of_getElem? (i := 81) rfl))) (by decide) (backOf (W := 0) (rm12 l Z a0 hw [] w_PENDING w_IGNORE cs_v hp b14 T15.heap n0 O15 fq15_11) hZ (hw _ (List.mem_of_getElem? (i := 83) rfl)) (hw _ (List.mem_of_getElem? (i := 49) rfl)) (by decide) (by decide)) q16a q16c (g := (mkF m 222 #[.val (.long p0), .second, .val (.long p1), .second, .val (.int p2), .val (.int p3), .val (.int p4), .val (.int p5), .val (.ref b1), .val (.ref b6), .val (.ref b8_0), .val (.ref b9_0), .val (.ref w_PENDING), .val (.ref b11), .val (.int (0 : Int32)), .val (.int (0 : Int32)), .val (.ref b14)] [(.ref b14)])) rfl (by rw [hml]; rfl) (Steps.refl _) (argsL := []) (rest := []) (lenOf pd_11 rfl) rfl (by show 2 * 0 + _ ≤ _; exact Nat.le_of_eq rfl) (hb hby at_222) (fun _ _ => ⟨rfl, rfl, (by decide : 9 + 0 ≤ _), (by decide : 30 + 0 ≤ _)⟩)
  dsimp only [Pt.U, Pt.locs, Pt.cells, Pt.slots] at X16 l16 y16 z16 st16 hQ16
  subst l16 y16 z16
  obtain ⟨rfl, Nq16, eq16⟩ := hQ16
  have N16 := Fr.app N15 Nq16
  obtain ⟨cq17, kq17, q17a, q17b, q17c⟩ := isOf hZ eq16 fq15_0
  obtain ⟨_, _, ⟨T17, L17, k17, n17⟩, -, X17, ⟨Lc17, hQ17, l17, y17, z17⟩, st17⟩ := X16.virtualBack hx (y := y12) (z := y12) hown (mvT hZ (hw _ (List.mem_of_getElem? (i := 84) rfl))) (mvT hZ (hw _ (List.mem_of_getElem? (i := 85) rfl))) (notFace_of_selects (args := #[]) (mvT hZ (hw _ (List.mem_of_getElem? (i := 87) rfl)))) (mvT hZ (hw _ (List.mem_of_getElem? (i := 87) rfl))) (mvT hZ (hw _ (List.mem_of_getElem? (i := 86) rfl))) (by decide) (backOf (W := 0) (rm13 l Z a0 hw [] w_PENDING w_IGNORE cs_v hp b14 b6 T15.heap n0 O15 fq15_10) hZ (hw _ (List.mem_of_getElem? (i := 88) rfl)) (hw _ (List.mem_of_getElem? (i := 49) rfl)) (by decide) (by decide)) q17a q17c (g := (mkF m 230 #[.val (.long p0), .second, .val (.long p1), .second, .val (.int p2), .val (.int p3), .val (.int p4), .val (.int p5), .val (.ref b1), .val (.ref b6), .val (.ref b8_0), .val (.ref b9_0), .val (.ref w_PENDING), .val (.ref b11), .val (.int (0 : Int32)), .val (.int (0 : Int32)), .val (.ref b14)] [(.ref b14)])) rfl (by rw [hml]; rfl) (Steps.refl _) (argsL := []) (rest := []) (lenOf pd_12 rfl) rfl (by show 2 * 0 + _ ≤ _; exact Nat.le_of_eq rfl) (hb hby at_230) (fun _ _ => ⟨rfl, eq16, (by decide : 9 + 0 ≤ _), (by decide : 30 + 0 ≤ _)⟩)
  dsimp only [Pt.U, Pt.locs, Pt.cells, Pt.slots] at X17 l17 y17 z17 st17 hQ17
  subst l17 y17 z17
  obtain ⟨rfl, Nq17, eq17⟩ := hQ17
  have N17 := Fr.app N16 Nq17
  obtain ⟨cq18, kq18, q18a, q18b, q18c⟩ := isOf hZ eq17 fq15_0
  obtain ⟨_, _, ⟨T18, L18, k18, n18⟩, -, X18, ⟨Lc18, hQ18, l18, y18, z18⟩, st18⟩ := X17.virtualBack hx (y := y13) (z := y13) hown (mvT hZ (hw _ (List.mem_of_getElem? (i := 89) rfl))) (mvT hZ (hw _ (List.mem_of_getElem? (i := 90) rfl))) (notFace_of_selects (args := #[]) (mvT hZ (hw _ (List.mem_of_getElem? (i := 92) rfl)))) (mvT hZ (hw _ (List.mem_of_getElem? (i := 92) rfl))) (mvT hZ (hw _ (List.mem_of_getElem? (i := 91) rfl))) (by decide) (backOf (W := 0) (rm14 l Z a0 hw [] w_PENDING w_IGNORE cs_v hp b14 T15.heap n0 O15 fq15_11) hZ (hw _ (List.mem_of_getElem? (i := 93) rfl)) (hw _ (List.mem_of_getElem? (i := 49) rfl)) (by decide) (by decide)) q18a q18c (g := (mkF m 240 #[.val (.long p0), .second, .val (.long p1), .second, .val (.int p2), .val (.int p3), .val (.int p4), .val (.int p5), .val (.ref b1), .val (.ref b6), .val (.ref b8_0), .val (.ref b9_0), .val (.ref w_PENDING), .val (.ref b11), .val (.int (0 : Int32)), .val (.int (0 : Int32)), .val (.ref b14)] [(.ref b14)])) rfl (by rw [hml]; rfl) (Steps.refl _) (argsL := []) (rest := []) (lenOf pd_12 rfl) rfl (by show 2 * 0 + _ ≤ _; exact Nat.le_of_eq rfl) (hb hby at_240) (fun _ _ => ⟨rfl, eq17, (by decide : 9 + 0 ≤ _), (by decide : 30 + 0 ≤ _)⟩)
  dsimp only [Pt.U, Pt.locs, Pt.cells, Pt.slots] at X18 l18 y18 z18 st18 hQ18
  subst l18 y18 z18
  obtain ⟨rfl, Nq18, eq18⟩ := hQ18
  have N18 := Fr.app N17 Nq18
  obtain ⟨fs, hr, hrun, hended, hW, hsame⟩ := X18.leave (v := some (.int (1 : Int32))) (fun h => by rw [Bd.returns] at h; cases h)
  refine ⟨_, _, pre0 _ ?_, hrun, hended, _, _, rfl, ?_, ⟨_, rfl⟩, hW, hsame.mono (by decide) (by decide)⟩
  · show Sp p e below s₁ (mkF m 0 #[.val (.long p0), .second, .val (.long p1), .second, .val (.int p2), .val (.int p3), .val (.int p4), .val (.int p5), .unset, .unset, .unset, .unset, .unset, .unset, .unset, .unset, .unset] []) _
    refine XS.iconst X0.here hx rfl (hb hby at_0) ?_
    show Sp p e below s₁ (mkF m 1 #[.val (.long p0), .second, .val (.long p1), .second, .val (.int p2), .val (.int p3), .val (.int p4), .val (.int p5), .unset, .unset, .unset, .unset, .unset, .unset, .unset, .unset, .unset] [(.int (2 : Int32))]) _
    refine st1 _ ?_
    show Sp p e below T1 (mkF m 3 #[.val (.long p0), .second, .val (.long p1), .second, .val (.int p2), .val (.int p3), .val (.int p4), .val (.int p5), .unset, .unset, .unset, .unset, .unset, .unset, .unset, .unset, .unset] [(.ref b1)]) _
    refine XS.astore X1.here hx rfl (hb hby at_3) rfl rfl (l' := #[.val (.long p0), .second, .val (.long p1), .second, .val (.int p2), .val (.int p3), .val (.int p4), .val (.int p5), .val (.ref b1), .unset, .unset, .unset, .unset, .unset, .unset, .unset, .unset]) rfl ?_
    refine XS.aload X1.here hx rfl (hb hby at_5) rfl rfl ?_
    refine XS.iconst X1.here hx rfl (hb hby at_7) ?_
    refine XS.iload X1.here hx rfl (hb hby at_8) rfl ?_
    refine XS.sipush X1.here hx rfl (hb hby at_10) ?_
    show Sp p e below T1 (mkF m 13 #[.val (.long p0), .second, .val (.long p1), .second, .val (.int p2), .val (.int p3), .val (.int p4), .val (.int p5), .val (.ref b1), .unset, .unset, .unset, .unset, .unset, .unset, .unset, .unset] [(.int (255 : Int32)), (.int p4), (.int (0 : Int32)), (.ref b1)]) _
    refine XS.iand X1.here hx rfl (hb hby at_13) rfl ?_
    show Sp p e below T1 (mkF m 14 #[.val (.long p0), .second, .val (.long p1), .second, .val (.int p2), .val (.int p3), .val (.int p4), .val (.int p5), .val (.ref b1), .unset, .unset, .unset, .unset, .unset, .unset, .unset, .unset] [(.int (p4 &&& (255 : Int32))), (.int (0 : Int32)), (.ref b1)]) _
    refine XS.i2c X1.here hx rfl (hb hby at_14) rfl ?_
    show Sp p e below T1 (mkF m 15 #[.val (.long p0), .second, .val (.long p1), .second, .val (.int p2), .val (.int p3), .val (.int p4), .val (.int p5), .val (.ref b1), .unset, .unset, .unset, .unset, .unset, .unset, .unset, .unset] [(.int ((p4 &&& (255 : Int32)).toUInt32.toUInt16.toUInt32.toInt32)), (.int (0 : Int32)), (.ref b1)]) _
    refine st3 _ ?_
    show Sp p e below T3 (mkF m 16 #[.val (.long p0), .second, .val (.long p1), .second, .val (.int p2), .val (.int p3), .val (.int p4), .val (.int p5), .val (.ref b1), .unset, .unset, .unset, .unset, .unset, .unset, .unset, .unset] []) _
    refine XS.aload X3.here hx rfl (hb hby at_16) rfl rfl ?_
    refine XS.iconst X3.here hx rfl (hb hby at_18) ?_
    refine XS.iload X3.here hx rfl (hb hby at_19) rfl ?_
    refine XS.bipush X3.here hx rfl (hb hby at_21) ?_
    show Sp p e below T3 (mkF m 23 #[.val (.long p0), .second, .val (.long p1), .second, .val (.int p2), .val (.int p3), .val (.int p4), .val (.int p5), .val (.ref b1), .unset, .unset, .unset, .unset, .unset, .unset, .unset, .unset] [(.int (8 : Int32)), (.int p4), (.int (1 : Int32)), (.ref b1)]) _
    refine XS.iushr X3.here hx rfl (hb hby at_23) rfl ?_
    refine XS.sipush X3.here hx rfl (hb hby at_24) ?_
    show Sp p e below T3 (mkF m 27 #[.val (.long p0), .second, .val (.long p1), .second, .val (.int p2), .val (.int p3), .val (.int p4), .val (.int p5), .val (.ref b1), .unset, .unset, .unset, .unset, .unset, .unset, .unset, .unset] [(.int (255 : Int32)), (.int ((p4.toUInt32 >>> ((8 : Int32) &&& 31).toUInt32).toInt32)), (.int (1 : Int32)), (.ref b1)]) _
    refine XS.iand X3.here hx rfl (hb hby at_27) rfl ?_
    show Sp p e below T3 (mkF m 28 #[.val (.long p0), .second, .val (.long p1), .second, .val (.int p2), .val (.int p3), .val (.int p4), .val (.int p5), .val (.ref b1), .unset, .unset, .unset, .unset, .unset, .unset, .unset, .unset] [(.int (((p4.toUInt32 >>> ((8 : Int32) &&& 31).toUInt32).toInt32) &&& (255 : Int32))), (.int (1 : Int32)), (.ref b1)]) _
    refine XS.i2c X3.here hx rfl (hb hby at_28) rfl ?_
    show Sp p e below T3 (mkF m 29 #[.val (.long p0), .second, .val (.long p1), .second, .val (.int p2), .val (.int p3), .val (.int p4), .val (.int p5), .val (.ref b1), .unset, .unset, .unset, .unset, .unset, .unset, .unset, .unset] [(.int ((((p4.toUInt32 >>> ((8 : Int32) &&& 31).toUInt32).toInt32) &&& (255 : Int32)).toUInt32.toUInt16.toUInt32.toInt32)), (.int (1 : Int32)), (.ref b1)]) _
    refine st5 _ ?_
    show Sp p e below T5 (mkF m 30 #[.val (.long p0), .second, .val (.long p1), .second, .val (.int p2), .val (.int p3), .val (.int p4), .val (.int p5), .val (.ref b1), .unset, .unset, .unset, .unset, .unset, .unset, .unset, .unset] []) _
    refine st6 _ ?_
    show Sp p e below T6 (mkF m 33 #[.val (.long p0), .second, .val (.long p1), .second, .val (.int p2), .val (.int p3), .val (.int p4), .val (.int p5), .val (.ref b1), .unset, .unset, .unset, .unset, .unset, .unset, .unset, .unset] [(.ref b6)]) _
    refine XS.dup X6.here hx rfl (hb hby at_33) rfl rfl ?_
    refine XS.aload X6.here hx rfl (hb hby at_34) rfl rfl ?_
    show Sp p e below T6 (mkF m 36 #[.val (.long p0), .second, .val (.long p1), .second, .val (.int p2), .val (.int p3), .val (.int p4), .val (.int p5), .val (.ref b1), .unset, .unset, .unset, .unset, .unset, .unset, .unset, .unset] [(.ref b1), (.ref b6), (.ref b6)]) _
    refine st7.trans ?_
    show Sp p e below T7 (mkF m 39 #[.val (.long p0), .second, .val (.long p1), .second, .val (.int p2), .val (.int p3), .val (.int p4), .val (.int p5), .val (.ref b1), .unset, .unset, .unset, .unset, .unset, .unset, .unset, .unset] [(.ref b6)]) _
    refine XS.astore X7.here hx rfl (hb hby at_39) rfl rfl (l' := #[.val (.long p0), .second, .val (.long p1), .second, .val (.int p2), .val (.int p3), .val (.int p4), .val (.int p5), .val (.ref b1), .val (.ref b6), .unset, .unset, .unset, .unset, .unset, .unset, .unset]) rfl ?_
    refine XS.iload X7.here hx rfl (hb hby at_41) rfl ?_
    refine XS.bipush X7.here hx rfl (hb hby at_43) ?_
    show Sp p e below T7 (mkF m 45 #[.val (.long p0), .second, .val (.long p1), .second, .val (.int p2), .val (.int p3), .val (.int p4), .val (.int p5), .val (.ref b1), .val (.ref b6), .unset, .unset, .unset, .unset, .unset, .unset, .unset] [(.int (16 : Int32)), (.int p4)]) _
    refine XS.iushr X7.here hx rfl (hb hby at_45) rfl ?_
    refine XS.sipush X7.here hx rfl (hb hby at_46) ?_
    show Sp p e below T7 (mkF m 49 #[.val (.long p0), .second, .val (.long p1), .second, .val (.int p2), .val (.int p3), .val (.int p4), .val (.int p5), .val (.ref b1), .val (.ref b6), .unset, .unset, .unset, .unset, .unset, .unset, .unset] [(.int (255 : Int32)), (.int ((p4.toUInt32 >>> ((16 : Int32) &&& 31).toUInt32).toInt32))]) _
    refine XS.iand X7.here hx rfl (hb hby at_49) rfl ?_
    show Sp p e below T7 (mkF m 50 #[.val (.long p0), .second, .val (.long p1), .second, .val (.int p2), .val (.int p3), .val (.int p4), .val (.int p5), .val (.ref b1), .val (.ref b6), .unset, .unset, .unset, .unset, .unset, .unset, .unset] [(.int (((p4.toUInt32 >>> ((16 : Int32) &&& 31).toUInt32).toInt32) &&& (255 : Int32)))]) _
    refine XS.i2c X7.here hx rfl (hb hby at_50) rfl ?_
    show Sp p e below T7 (mkF m 51 #[.val (.long p0), .second, .val (.long p1), .second, .val (.int p2), .val (.int p3), .val (.int p4), .val (.int p5), .val (.ref b1), .val (.ref b6), .unset, .unset, .unset, .unset, .unset, .unset, .unset] [(.int ((((p4.toUInt32 >>> ((16 : Int32) &&& 31).toUInt32).toInt32) &&& (255 : Int32)).toUInt32.toUInt16.toUInt32.toInt32))]) _
    refine st8 _ ?_
    show Sp p e below T8 (mkF m 54 #[.val (.long p0), .second, .val (.long p1), .second, .val (.int p2), .val (.int p3), .val (.int p4), .val (.int p5), .val (.ref b1), .val (.ref b6), .unset, .unset, .unset, .unset, .unset, .unset, .unset] [(.ref b8_0)]) _
    refine XS.astore X8.here hx rfl (hb hby at_54) rfl rfl (l' := #[.val (.long p0), .second, .val (.long p1), .second, .val (.int p2), .val (.int p3), .val (.int p4), .val (.int p5), .val (.ref b1), .val (.ref b6), .val (.ref b8_0), .unset, .unset, .unset, .unset, .unset, .unset]) rfl ?_
    refine XS.iload X8.here hx rfl (hb hby at_56) rfl ?_
    refine XS.bipush X8.here hx rfl (hb hby at_58) ?_
    show Sp p e below T8 (mkF m 60 #[.val (.long p0), .second, .val (.long p1), .second, .val (.int p2), .val (.int p3), .val (.int p4), .val (.int p5), .val (.ref b1), .val (.ref b6), .val (.ref b8_0), .unset, .unset, .unset, .unset, .unset, .unset] [(.int (24 : Int32)), (.int p4)]) _
    refine XS.iushr X8.here hx rfl (hb hby at_60) rfl ?_
    refine XS.sipush X8.here hx rfl (hb hby at_61) ?_
    show Sp p e below T8 (mkF m 64 #[.val (.long p0), .second, .val (.long p1), .second, .val (.int p2), .val (.int p3), .val (.int p4), .val (.int p5), .val (.ref b1), .val (.ref b6), .val (.ref b8_0), .unset, .unset, .unset, .unset, .unset, .unset] [(.int (255 : Int32)), (.int ((p4.toUInt32 >>> ((24 : Int32) &&& 31).toUInt32).toInt32))]) _
    refine XS.iand X8.here hx rfl (hb hby at_64) rfl ?_
    show Sp p e below T8 (mkF m 65 #[.val (.long p0), .second, .val (.long p1), .second, .val (.int p2), .val (.int p3), .val (.int p4), .val (.int p5), .val (.ref b1), .val (.ref b6), .val (.ref b8_0), .unset, .unset, .unset, .unset, .unset, .unset] [(.int (((p4.toUInt32 >>> ((24 : Int32) &&& 31).toUInt32).toInt32) &&& (255 : Int32)))]) _
    refine XS.i2c X8.here hx rfl (hb hby at_65) rfl ?_
    show Sp p e below T8 (mkF m 66 #[.val (.long p0), .second, .val (.long p1), .second, .val (.int p2), .val (.int p3), .val (.int p4), .val (.int p5), .val (.ref b1), .val (.ref b6), .val (.ref b8_0), .unset, .unset, .unset, .unset, .unset, .unset] [(.int ((((p4.toUInt32 >>> ((24 : Int32) &&& 31).toUInt32).toInt32) &&& (255 : Int32)).toUInt32.toUInt16.toUInt32.toInt32))]) _
    refine st9 _ ?_
    show Sp p e below T9 (mkF m 69 #[.val (.long p0), .second, .val (.long p1), .second, .val (.int p2), .val (.int p3), .val (.int p4), .val (.int p5), .val (.ref b1), .val (.ref b6), .val (.ref b8_0), .unset, .unset, .unset, .unset, .unset, .unset] [(.ref b9_0)]) _
    refine XS.astore X9.here hx rfl (hb hby at_69) rfl rfl (l' := #[.val (.long p0), .second, .val (.long p1), .second, .val (.int p2), .val (.int p3), .val (.int p4), .val (.int p5), .val (.ref b1), .val (.ref b6), .val (.ref b8_0), .val (.ref b9_0), .unset, .unset, .unset, .unset, .unset]) rfl ?_
    refine XS.iload X9.here hx rfl (hb hby at_71) rfl ?_
    refine XS.iconst X9.here hx rfl (hb hby at_73) ?_
    show Sp p e below T9 (mkF m 74 #[.val (.long p0), .second, .val (.long p1), .second, .val (.int p2), .val (.int p3), .val (.int p4), .val (.int p5), .val (.ref b1), .val (.ref b6), .val (.ref b8_0), .val (.ref b9_0), .unset, .unset, .unset, .unset, .unset] [(.int (2 : Int32)), (.int p5)]) _
    refine XS.iand X9.here hx rfl (hb hby at_74) rfl ?_
    show Sp p e below T9 (mkF m 75 #[.val (.long p0), .second, .val (.long p1), .second, .val (.int p2), .val (.int p3), .val (.int p4), .val (.int p5), .val (.ref b1), .val (.ref b6), .val (.ref b8_0), .val (.ref b9_0), .unset, .unset, .unset, .unset, .unset] [(.int (p5 &&& (2 : Int32)))]) _
    refine XS.ifNo X9.here hx rfl (hb hby at_75) rfl ((if0 _ _).trans (feq hc1).1) ?_
    show Sp p e below T9 (mkF m 78 #[.val (.long p0), .second, .val (.long p1), .second, .val (.int p2), .val (.int p3), .val (.int p4), .val (.int p5), .val (.ref b1), .val (.ref b6), .val (.ref b8_0), .val (.ref b9_0), .unset, .unset, .unset, .unset, .unset] []) _
    refine st10 _ ?_
    show Sp p e below T10 (mkF m 81 #[.val (.long p0), .second, .val (.long p1), .second, .val (.int p2), .val (.int p3), .val (.int p4), .val (.int p5), .val (.ref b1), .val (.ref b6), .val (.ref b8_0), .val (.ref b9_0), .unset, .unset, .unset, .unset, .unset] [(.ref w_PENDING)]) _
    refine XS.goto X10.here hx rfl (pc0 := 81) (pc' := 87) rfl (hb hby at_81) (by decide) (by decide) ?_
    show Sp p e below T10 (mkF m 87 #[.val (.long p0), .second, .val (.long p1), .second, .val (.int p2), .val (.int p3), .val (.int p4), .val (.int p5), .val (.ref b1), .val (.ref b6), .val (.ref b8_0), .val (.ref b9_0), .unset, .unset, .unset, .unset, .unset] [(.ref w_PENDING)]) _
    refine XS.astore X10.here hx rfl (hb hby at_87) rfl rfl (l' := #[.val (.long p0), .second, .val (.long p1), .second, .val (.int p2), .val (.int p3), .val (.int p4), .val (.int p5), .val (.ref b1), .val (.ref b6), .val (.ref b8_0), .val (.ref b9_0), .val (.ref w_PENDING), .unset, .unset, .unset, .unset]) rfl ?_
    refine XS.iconst X10.here hx rfl (hb hby at_89) ?_
    show Sp p e below T10 (mkF m 90 #[.val (.long p0), .second, .val (.long p1), .second, .val (.int p2), .val (.int p3), .val (.int p4), .val (.int p5), .val (.ref b1), .val (.ref b6), .val (.ref b8_0), .val (.ref b9_0), .val (.ref w_PENDING), .unset, .unset, .unset, .unset] [(.int (1 : Int32))]) _
    refine st11 _ ?_
    show Sp p e below T11 (mkF m 92 #[.val (.long p0), .second, .val (.long p1), .second, .val (.int p2), .val (.int p3), .val (.int p4), .val (.int p5), .val (.ref b1), .val (.ref b6), .val (.ref b8_0), .val (.ref b9_0), .val (.ref w_PENDING), .unset, .unset, .unset, .unset] [(.ref b11)]) _
    refine XS.astore X11.here hx rfl (hb hby at_92) rfl rfl (l' := #[.val (.long p0), .second, .val (.long p1), .second, .val (.int p2), .val (.int p3), .val (.int p4), .val (.int p5), .val (.ref b1), .val (.ref b6), .val (.ref b8_0), .val (.ref b9_0), .val (.ref w_PENDING), .val (.ref b11), .unset, .unset, .unset]) rfl ?_
    refine XS.aload X11.here hx rfl (hb hby at_94) rfl rfl ?_
    refine XS.iconst X11.here hx rfl (hb hby at_96) ?_
    refine XS.iload X11.here hx rfl (hb hby at_97) rfl ?_
    refine XS.bipush X11.here hx rfl (hb hby at_99) ?_
    show Sp p e below T11 (mkF m 101 #[.val (.long p0), .second, .val (.long p1), .second, .val (.int p2), .val (.int p3), .val (.int p4), .val (.int p5), .val (.ref b1), .val (.ref b6), .val (.ref b8_0), .val (.ref b9_0), .val (.ref w_PENDING), .val (.ref b11), .unset, .unset, .unset] [(.int (8 : Int32)), (.int p5), (.int (0 : Int32)), (.ref b11)]) _
    refine XS.iushr X11.here hx rfl (hb hby at_101) rfl ?_
    show Sp p e below T11 (mkF m 102 #[.val (.long p0), .second, .val (.long p1), .second, .val (.int p2), .val (.int p3), .val (.int p4), .val (.int p5), .val (.ref b1), .val (.ref b6), .val (.ref b8_0), .val (.ref b9_0), .val (.ref w_PENDING), .val (.ref b11), .unset, .unset, .unset] [(.int ((p5.toUInt32 >>> ((8 : Int32) &&& 31).toUInt32).toInt32)), (.int (0 : Int32)), (.ref b11)]) _
    refine XS.i2b X11.here hx rfl (hb hby at_102) rfl ?_
    show Sp p e below T11 (mkF m 103 #[.val (.long p0), .second, .val (.long p1), .second, .val (.int p2), .val (.int p3), .val (.int p4), .val (.int p5), .val (.ref b1), .val (.ref b6), .val (.ref b8_0), .val (.ref b9_0), .val (.ref w_PENDING), .val (.ref b11), .unset, .unset, .unset] [(.int (((p5.toUInt32 >>> ((8 : Int32) &&& 31).toUInt32).toInt32).toInt8.toInt32)), (.int (0 : Int32)), (.ref b11)]) _
    refine st13 _ ?_
    show Sp p e below T13 (mkF m 104 #[.val (.long p0), .second, .val (.long p1), .second, .val (.int p2), .val (.int p3), .val (.int p4), .val (.int p5), .val (.ref b1), .val (.ref b6), .val (.ref b8_0), .val (.ref b9_0), .val (.ref w_PENDING), .val (.ref b11), .unset, .unset, .unset] []) _
    refine XS.iload X13.here hx rfl (hb hby at_104) rfl ?_
    refine XS.iconst X13.here hx rfl (hb hby at_106) ?_
    show Sp p e below T13 (mkF m 107 #[.val (.long p0), .second, .val (.long p1), .second, .val (.int p2), .val (.int p3), .val (.int p4), .val (.int p5), .val (.ref b1), .val (.ref b6), .val (.ref b8_0), .val (.ref b9_0), .val (.ref w_PENDING), .val (.ref b11), .unset, .unset, .unset] [(.int (1 : Int32)), (.int p5)]) _
    refine XS.iand X13.here hx rfl (hb hby at_107) rfl ?_
    show Sp p e below T13 (mkF m 108 #[.val (.long p0), .second, .val (.long p1), .second, .val (.int p2), .val (.int p3), .val (.int p4), .val (.int p5), .val (.ref b1), .val (.ref b6), .val (.ref b8_0), .val (.ref b9_0), .val (.ref w_PENDING), .val (.ref b11), .unset, .unset, .unset] [(.int (p5 &&& (1 : Int32)))]) _
    refine XS.ifYes X13.here hx rfl (pc0 := 108) (pc' := 115) rfl (hb hby at_108) rfl ((if0 _ _).trans (teq hc2).1) (by decide) (by decide) ?_
    refine XS.iconst X13.here hx rfl (hb hby at_115) ?_
    show Sp p e below T13 (mkF m 116 #[.val (.long p0), .second, .val (.long p1), .second, .val (.int p2), .val (.int p3), .val (.int p4), .val (.int p5), .val (.ref b1), .val (.ref b6), .val (.ref b8_0), .val (.ref b9_0), .val (.ref w_PENDING), .val (.ref b11), .unset, .unset, .unset] [(.int (0 : Int32))]) _
    refine XS.istore X13.here hx rfl (hb hby at_116) rfl (l' := #[.val (.long p0), .second, .val (.long p1), .second, .val (.int p2), .val (.int p3), .val (.int p4), .val (.int p5), .val (.ref b1), .val (.ref b6), .val (.ref b8_0), .val (.ref b9_0), .val (.ref w_PENDING), .val (.ref b11), .val (.int (0 : Int32)), .unset, .unset]) rfl ?_
    refine XS.iload X13.here hx rfl (hb hby at_118) rfl ?_
    refine XS.iconst X13.here hx rfl (hb hby at_120) ?_
    show Sp p e below T13 (mkF m 121 #[.val (.long p0), .second, .val (.long p1), .second, .val (.int p2), .val (.int p3), .val (.int p4), .val (.int p5), .val (.ref b1), .val (.ref b6), .val (.ref b8_0), .val (.ref b9_0), .val (.ref w_PENDING), .val (.ref b11), .val (.int (0 : Int32)), .unset, .unset] [(.int (4 : Int32)), (.int p5)]) _
    refine XS.iand X13.here hx rfl (hb hby at_121) rfl ?_
    show Sp p e below T13 (mkF m 122 #[.val (.long p0), .second, .val (.long p1), .second, .val (.int p2), .val (.int p3), .val (.int p4), .val (.int p5), .val (.ref b1), .val (.ref b6), .val (.ref b8_0), .val (.ref b9_0), .val (.ref w_PENDING), .val (.ref b11), .val (.int (0 : Int32)), .unset, .unset] [(.int (p5 &&& (4 : Int32)))]) _
    refine XS.ifYes X13.here hx rfl (pc0 := 122) (pc' := 129) rfl (hb hby at_122) rfl ((if0 _ _).trans (teq hc3).1) (by decide) (by decide) ?_
    refine XS.iconst X13.here hx rfl (hb hby at_129) ?_
    show Sp p e below T13 (mkF m 130 #[.val (.long p0), .second, .val (.long p1), .second, .val (.int p2), .val (.int p3), .val (.int p4), .val (.int p5), .val (.ref b1), .val (.ref b6), .val (.ref b8_0), .val (.ref b9_0), .val (.ref w_PENDING), .val (.ref b11), .val (.int (0 : Int32)), .unset, .unset] [(.int (0 : Int32))]) _
    refine XS.istore X13.here hx rfl (hb hby at_130) rfl (l' := #[.val (.long p0), .second, .val (.long p1), .second, .val (.int p2), .val (.int p3), .val (.int p4), .val (.int p5), .val (.ref b1), .val (.ref b6), .val (.ref b8_0), .val (.ref b9_0), .val (.ref w_PENDING), .val (.ref b11), .val (.int (0 : Int32)), .val (.int (0 : Int32)), .unset]) rfl ?_
    refine XS.iload X13.here hx rfl (hb hby at_132) rfl ?_
    show Sp p e below T13 (mkF m 134 #[.val (.long p0), .second, .val (.long p1), .second, .val (.int p2), .val (.int p3), .val (.int p4), .val (.int p5), .val (.ref b1), .val (.ref b6), .val (.ref b8_0), .val (.ref b9_0), .val (.ref w_PENDING), .val (.ref b11), .val (.int (0 : Int32)), .val (.int (0 : Int32)), .unset] [(.int (0 : Int32))]) _
    refine XS.ifYes X13.here hx rfl (pc0 := 134) (pc' := 194) rfl (hb hby at_134) rfl ((if0 _ _).trans (teq (by decide : (0 : Int32) = (0 : Int32))).1) (by decide) (by decide) ?_
    show Sp p e below T13 (mkF m 194 #[.val (.long p0), .second, .val (.long p1), .second, .val (.int p2), .val (.int p3), .val (.int p4), .val (.int p5), .val (.ref b1), .val (.ref b6), .val (.ref b8_0), .val (.ref b9_0), .val (.ref w_PENDING), .val (.ref b11), .val (.int (0 : Int32)), .val (.int (0 : Int32)), .unset] []) _
    refine st14 _ ?_
    show Sp p e below T14 (mkF m 197 #[.val (.long p0), .second, .val (.long p1), .second, .val (.int p2), .val (.int p3), .val (.int p4), .val (.int p5), .val (.ref b1), .val (.ref b6), .val (.ref b8_0), .val (.ref b9_0), .val (.ref w_PENDING), .val (.ref b11), .val (.int (0 : Int32)), .val (.int (0 : Int32)), .unset] [(.ref b14)]) _
    refine XS.dup X14.here hx rfl (hb hby at_197) rfl rfl ?_
    refine XS.lloadN X14.here hx rfl (hb hby at_198) rfl ?_
    refine XS.aload X14.here hx rfl (hb hby at_199) rfl rfl ?_
    refine XS.aload X14.here hx rfl (hb hby at_201) rfl rfl ?_
    refine XS.aload X14.here hx rfl (hb hby at_203) rfl rfl ?_
    refine XS.aload X14.here hx rfl (hb hby at_205) rfl rfl ?_
    refine XS.iload X14.here hx rfl (hb hby at_207) rfl ?_
    refine XS.iload X14.here hx rfl (hb hby at_209) rfl ?_
    refine XS.aload X14.here hx rfl (hb hby at_211) rfl rfl ?_
    refine XS.iload X14.here hx rfl (hb hby at_213) rfl ?_
    show Sp p e below T14 (mkF m 215 #[.val (.long p0), .second, .val (.long p1), .second, .val (.int p2), .val (.int p3), .val (.int p4), .val (.int p5), .val (.ref b1), .val (.ref b6), .val (.ref b8_0), .val (.ref b9_0), .val (.ref w_PENDING), .val (.ref b11), .val (.int (0 : Int32)), .val (.int (0 : Int32)), .unset] [(.int (0 : Int32)), (.ref w_PENDING), (.int p3), (.int p2), (.ref b11), (.ref b9_0), (.ref b8_0), (.ref b6), (.long p0), (.ref b14), (.ref b14)]) _
    refine st15.trans ?_
    show Sp p e below T15 (mkF m 218 #[.val (.long p0), .second, .val (.long p1), .second, .val (.int p2), .val (.int p3), .val (.int p4), .val (.int p5), .val (.ref b1), .val (.ref b6), .val (.ref b8_0), .val (.ref b9_0), .val (.ref w_PENDING), .val (.ref b11), .val (.int (0 : Int32)), .val (.int (0 : Int32)), .unset] [(.ref b14)]) _
    refine XS.astore X15.here hx rfl (hb hby at_218) rfl rfl (l' := #[.val (.long p0), .second, .val (.long p1), .second, .val (.int p2), .val (.int p3), .val (.int p4), .val (.int p5), .val (.ref b1), .val (.ref b6), .val (.ref b8_0), .val (.ref b9_0), .val (.ref w_PENDING), .val (.ref b11), .val (.int (0 : Int32)), .val (.int (0 : Int32)), .val (.ref b14)]) rfl ?_
    refine XS.aload X15.here hx rfl (hb hby at_220) rfl rfl ?_
    show Sp p e below T15 (mkF m 222 #[.val (.long p0), .second, .val (.long p1), .second, .val (.int p2), .val (.int p3), .val (.int p4), .val (.int p5), .val (.ref b1), .val (.ref b6), .val (.ref b8_0), .val (.ref b9_0), .val (.ref w_PENDING), .val (.ref b11), .val (.int (0 : Int32)), .val (.int (0 : Int32)), .val (.ref b14)] [(.ref b14)]) _
    refine st16.trans ?_
    show Sp p e below T16 (mkF m 225 #[.val (.long p0), .second, .val (.long p1), .second, .val (.int p2), .val (.int p3), .val (.int p4), .val (.int p5), .val (.ref b1), .val (.ref b6), .val (.ref b8_0), .val (.ref b9_0), .val (.ref w_PENDING), .val (.ref b11), .val (.int (0 : Int32)), .val (.int (0 : Int32)), .val (.ref b14)] [(.int (0 : Int32))]) _
    refine XS.ifNo X16.here hx rfl (hb hby at_225) rfl ((if0 _ _).trans (teq (by decide : (0 : Int32) = (0 : Int32))).2) ?_
    refine XS.aload X16.here hx rfl (hb hby at_228) rfl rfl ?_
    show Sp p e below T16 (mkF m 230 #[.val (.long p0), .second, .val (.long p1), .second, .val (.int p2), .val (.int p3), .val (.int p4), .val (.int p5), .val (.ref b1), .val (.ref b6), .val (.ref b8_0), .val (.ref b9_0), .val (.ref w_PENDING), .val (.ref b11), .val (.int (0 : Int32)), .val (.int (0 : Int32)), .val (.ref b14)] [(.ref b14)]) _
    refine st17.trans ?_
    show Sp p e below T17 (mkF m 233 #[.val (.long p0), .second, .val (.long p1), .second, .val (.int p2), .val (.int p3), .val (.int p4), .val (.int p5), .val (.ref b1), .val (.ref b6), .val (.ref b8_0), .val (.ref b9_0), .val (.ref w_PENDING), .val (.ref b11), .val (.int (0 : Int32)), .val (.int (0 : Int32)), .val (.ref b14)] [(.ref b6)]) _
    refine XS.aload X17.here hx rfl (hb hby at_233) rfl rfl ?_
    show Sp p e below T17 (mkF m 235 #[.val (.long p0), .second, .val (.long p1), .second, .val (.int p2), .val (.int p3), .val (.int p4), .val (.int p5), .val (.ref b1), .val (.ref b6), .val (.ref b8_0), .val (.ref b9_0), .val (.ref w_PENDING), .val (.ref b11), .val (.int (0 : Int32)), .val (.int (0 : Int32)), .val (.ref b14)] [(.ref b6), (.ref b6)]) _
    refine Jvm.RoadKit.acmp (g := (mkF m 235 #[.val (.long p0), .second, .val (.long p1), .second, .val (.int p2), .val (.int p3), .val (.int p4), .val (.int p5), .val (.ref b1), .val (.ref b6), .val (.ref b8_0), .val (.ref b9_0), .val (.ref w_PENDING), .val (.ref b11), .val (.int (0 : Int32)), .val (.int (0 : Int32)), .val (.ref b14)] [(.ref b6), (.ref b6)])) X17 hx rfl rfl rfl (pc0 := 235) (pc' := 238) (same := true) rfl (hb hby at_235) rfl (decide_eq_true rfl) (by decide) (by decide) ?_
    show Sp p e below T17 (mkF m 238 #[.val (.long p0), .second, .val (.long p1), .second, .val (.int p2), .val (.int p3), .val (.int p4), .val (.int p5), .val (.ref b1), .val (.ref b6), .val (.ref b8_0), .val (.ref b9_0), .val (.ref w_PENDING), .val (.ref b11), .val (.int (0 : Int32)), .val (.int (0 : Int32)), .val (.ref b14)] []) _
    refine XS.aload X17.here hx rfl (hb hby at_238) rfl rfl ?_
    show Sp p e below T17 (mkF m 240 #[.val (.long p0), .second, .val (.long p1), .second, .val (.int p2), .val (.int p3), .val (.int p4), .val (.int p5), .val (.ref b1), .val (.ref b6), .val (.ref b8_0), .val (.ref b9_0), .val (.ref w_PENDING), .val (.ref b11), .val (.int (0 : Int32)), .val (.int (0 : Int32)), .val (.ref b14)] [(.ref b14)]) _
    refine st18.trans ?_
    show Sp p e below T18 (mkF m 243 #[.val (.long p0), .second, .val (.long p1), .second, .val (.int p2), .val (.int p3), .val (.int p4), .val (.int p5), .val (.ref b1), .val (.ref b6), .val (.ref b8_0), .val (.ref b9_0), .val (.ref w_PENDING), .val (.ref b11), .val (.int (0 : Int32)), .val (.int (0 : Int32)), .val (.ref b14)] [.null]) _
    refine XS.ifnonnullNo X18.here hx rfl (hb hby at_243) rfl ?_
    refine XS.iconst X18.here hx rfl (hb hby at_246) ?_
    show Sp p e below T18 (mkF m 247 #[.val (.long p0), .second, .val (.long p1), .second, .val (.int p2), .val (.int p3), .val (.int p4), .val (.int p5), .val (.ref b1), .val (.ref b6), .val (.ref b8_0), .val (.ref b9_0), .val (.ref w_PENDING), .val (.ref b11), .val (.int (0 : Int32)), .val (.int (0 : Int32)), .val (.ref b14)] [(.int (1 : Int32))]) _
    refine XS.goto X18.here hx rfl (pc0 := 247) (pc' := 251) rfl (hb hby at_247) (by decide) (by decide) ?_
    show Sp p e below T18 (mkF m 251 #[.val (.long p0), .second, .val (.long p1), .second, .val (.int p2), .val (.int p3), .val (.int p4), .val (.int p5), .val (.ref b1), .val (.ref b6), .val (.ref b8_0), .val (.ref b9_0), .val (.ref w_PENDING), .val (.ref b11), .val (.int (0 : Int32)), .val (.int (0 : Int32)), .val (.ref b14)] [(.int (1 : Int32))]) _
    exact retN X18 hx (t := .boolean) Bd.returns (by simp) (hb hby at_251) hr
  · skip
    exact ⟨rfl, N18⟩
theorem d16_0 : decode prog_3_method_2_code 0 = .ok (.aload_n 0, 1) := by decide +kernel
theorem d16_1 : decode prog_3_method_2_code 1 = .ok (.lload_n 1, 1) := by decide +kernel
theorem d16_2 : decode prog_3_method_2_code 2 = .ok (.aconst_null, 1) := by decide +kernel
theorem d16_3 : decode prog_3_method_2_code 3 = .ok (.aload_n 3, 1) := by decide +kernel
theorem d16_4 : decode prog_3_method_2_code 4 = .ok (.lload 4, 2) := by decide +kernel
theorem d16_6 : decode prog_3_method_2_code 6 = .ok (.aload 6, 2) := by decide +kernel
theorem d16_8 : decode prog_3_method_2_code 8 = .ok (.aload 7, 2) := by decide +kernel
theorem d16_10 : decode prog_3_method_2_code 10 = .ok (.aload 8, 2) := by decide +kernel
theorem d16_12 : decode prog_3_method_2_code 12 = .ok (.iload 9, 2) := by decide +kernel
theorem d16_14 : decode prog_3_method_2_code 14 = .ok (.iload 10, 2) := by decide +kernel
theorem d16_16 : decode prog_3_method_2_code 16 = .ok (.aload 11, 2) := by decide +kernel
theorem d16_18 : decode prog_3_method_2_code 18 = .ok (.iconst 0, 1) := by decide +kernel
theorem d16_19 : decode prog_3_method_2_code 19 = .ok (.invokespecial 1, 3) := by decide +kernel
theorem ef_12_1 (m : MethodId) (x0 : Addr) (x1 : Int64) (x3 : Addr) (x4 : Int64) (x5 : Addr) (x6 : Addr) (x7 : Addr) (x8 : Int32) (x9 : Int32) (x10 : Addr) (x11 : Int32) : entryFrame m #[(.ref x0), (.long x1), .null, (.ref x3), (.long x4), (.ref x5), (.ref x6), (.ref x7), (.int x8), (.int x9), (.ref x10), (.int x11)] 14 = mkF m 0 #[.val (.ref x0), .val (.long x1), .second, .val .null, .val (.ref x3), .val (.long x4), .second, .val (.ref x5), .val (.ref x6), .val (.ref x7), .val (.int x8), .val (.int x9), .val (.ref x10), .val (.int x11)] [] := by first | (simp [entryFrame, mkF, argsToLocals, Value.category]; done) | rfl
def Q19 (Z : State) (w_PENDING : Addr) (w_IGNORE : Addr) (cs_v : Int32) (a1 : Addr) (q2 : Int64) (a3 : Addr) (q4 : Int64) (a5 : Addr) (a6 : Addr) (a7 : Addr) (p8 : Int32) (p9 : Int32) (h0 : Heap) (n0 : Nat) (v : Option Value) (h : Heap) (L : List Loc) : Prop := v = none ∧ Fr n0 L ∧ Keep h0 h [a1] ∧ Exa Z h a1 "com/example/graph_job_runner/graphjobrunner/ClaimedNode" ∧ Fld Z h a1 "com/example/graph_job_runner/graphjobrunner/ClaimedNode" "attempt" "I" (.int p8) ∧ Fld Z h a1 "com/example/graph_job_runner/graphjobrunner/ClaimedNode" "failStrategy" "Lcom/example/graph_job_runner/graphjobrunner/FailStrategy;" (.ref w_PENDING) ∧ Fld Z h a1 "com/example/graph_job_runner/graphjobrunner/ClaimedNode" "hasChildren" "Z" (.int (0 : Int32)) ∧ Fld Z h a1 "com/example/graph_job_runner/graphjobrunner/ClaimedNode" "id" "J" (.long q2) ∧ Fld Z h a1 "com/example/graph_job_runner/graphjobrunner/ClaimedNode" "nodeKey" "Ljava/lang/String;" (.ref a5) ∧ Fld Z h a1 "com/example/graph_job_runner/graphjobrunner/ClaimedNode" "payload" "[B" (.ref a7) ∧ Fld Z h a1 "com/example/graph_job_runner/graphjobrunner/ClaimedNode" "position" "J" (.long q4) ∧ Fld Z h a1 "com/example/graph_job_runner/graphjobrunner/ClaimedNode" "processor" "Ljava/lang/String;" (.ref a6) ∧ Fld Z h a1 "com/example/graph_job_runner/graphjobrunner/ClaimedNode" "retryLimit" "I" (.int p9) ∧ Fld Z h a1 "com/example/graph_job_runner/graphjobrunner/ClaimedNode" "runKey" "Ljava/lang/String;" .null ∧ Fld Z h a1 "com/example/graph_job_runner/graphjobrunner/ClaimedNode" "streamKey" "Ljava/lang/String;" (.ref a3)
set_option maxRecDepth 65536 in
set_option maxHeartbeats 40000000 in
theorem rm19 (l : Launch) (Z : State) (a0 : Array Value) (hw : ∀ d ∈ tables_1, d.before a0 Z = true) (ws : List Jvm.Cond) (w_PENDING w_IGNORE : Addr) (cs_v : Int32) (hp : Perm Z w_PENDING w_IGNORE cs_v) (a1 : Addr) (q2 : Int64) (a3 : Addr) (q4 : Int64) (a5 : Addr) (a6 : Addr) (a7 : Addr) (p8 : Int32) (p9 : Int32) (h0 : Heap) (n0 : Nat) (O0 : Old Z n0 h0) (E_a1 : Exa Z h0 a1 "com/example/graph_job_runner/graphjobrunner/ClaimedNode") (F_id_a1 : Fld Z h0 a1 "com/example/graph_job_runner/graphjobrunner/ClaimedNode" "id" "J" (.long (0 : Int64))) (F_runKey_a1 : Fld Z h0 a1 "com/example/graph_job_runner/graphjobrunner/ClaimedNode" "runKey" "Ljava/lang/String;" .null) (F_streamKey_a1 : Fld Z h0 a1 "com/example/graph_job_runner/graphjobrunner/ClaimedNode" "streamKey" "Ljava/lang/String;" .null) (F_position_a1 : Fld Z h0 a1 "com/example/graph_job_runner/graphjobrunner/ClaimedNode" "position" "J" (.long (0 : Int64))) (F_nodeKey_a1 : Fld Z h0 a1 "com/example/graph_job_runner/graphjobrunner/ClaimedNode" "nodeKey" "Ljava/lang/String;" .null) (F_processor_a1 : Fld Z h0 a1 "com/example/graph_job_runner/graphjobrunner/ClaimedNode" "processor" "Ljava/lang/String;" .null) (F_payload_a1 : Fld Z h0 a1 "com/example/graph_job_runner/graphjobrunner/ClaimedNode" "payload" "[B" .null) (F_attempt_a1 : Fld Z h0 a1 "com/example/graph_job_runner/graphjobrunner/ClaimedNode" "attempt" "I" (.int (0 : Int32))) (F_retryLimit_a1 : Fld Z h0 a1 "com/example/graph_job_runner/graphjobrunner/ClaimedNode" "retryLimit" "I" (.int (0 : Int32))) (F_failStrategy_a1 : Fld Z h0 a1 "com/example/graph_job_runner/graphjobrunner/ClaimedNode" "failStrategy" "Lcom/example/graph_job_runner/graphjobrunner/FailStrategy;" .null) (F_hasChildren_a1 : Fld Z h0 a1 "com/example/graph_job_runner/graphjobrunner/ClaimedNode" "hasChildren" "Z" (.int (0 : Int32))) (g_a1 : n0 ≤ a1) :
    MetFree l y9 (head1 (Jvm.Cond.code y9 prog_3_method_3_code 14 none :: ws) ({ frames := 1, cells := 0, slots := 0, locals := 12 } : Room)) (fun a U => a = #[(.ref a1), (.long q2), .null, (.ref a3), (.long q4), (.ref a5), (.ref a6), (.ref a7), (.int p8), (.int p9), (.ref w_PENDING), (.int (0 : Int32))] ∧ Z.Warmed39 U.vm ∧ U.heap = h0) (fun _ _ _ _ _ => True) (fun _ U o U' => ∃ v L, o = .returned v ∧ Q19 Z w_PENDING w_IGNORE cs_v a1 q2 a3 q4 a5 a6 a7 p8 p9 h0 n0 v U'.heap L ∧ FrameEnd U o U' L ({ frames := 1, cells := 0, slots := 0, locals := 12 } : Room).cells ({ frames := 1, cells := 0, slots := 0, locals := 12 } : Room).slots) := by
  refine MetFree.of_bodySF (plainFor_of_name pn_12) hisR ?_
  intro p e s m args below meth c s₁ Bd hml0 hP hK
  obtain ⟨rfl, hZ, hh⟩ := hP
  have hx := Bd.exec
  have hby := Bd.bytes
  have hml : c.maxLocals = 14 := hml0
  have hown : s.vm.findClass "com/example/graph_job_runner/graphjobrunner/ClaimedNode" = some m.cls := findClass_of_methodNamed Bd.named
  have hnm := (name_of_methodNamed Bd.named Bd.method).1
  have X0 : Stand p l e ({ frames := 1, cells := 0, slots := 0, locals := 12 } : Room) s m #[(.ref a1), (.long q2), .null, (.ref a3), (.long q4), (.ref a5), (.ref a6), (.ref a7), (.int p8), (.int p9), (.ref w_PENDING), (.int (0 : Int32))] below meth c s₁ [] 0 0 := Stand.of_body Bd
  have e0 : s₁.heap = h0 := by rw [← hh, Bd.state]; rfl
  have N0 := Fr.nil n0
  have hp' := hp
  obtain ⟨S_w_PENDING, E_w_PENDING, S_w_IGNORE, E_w_IGNORE, S_COMPACT_STRINGS, h_cs⟩ := hp'
  have pre0 : ∀ t, Steps p.tables e below (s₁.setTop (mkF m 0 #[.val (.ref a1), .val (.long q2), .second, .val .null, .val (.ref a3), .val (.long q4), .second, .val (.ref a5), .val (.ref a6), .val (.ref a7), .val (.int p8), .val (.int p9), .val (.ref w_PENDING), .val (.int (0 : Int32))] [])) t → Steps p.tables e below (s₁.setTop (entryFrame m #[(.ref a1), (.long q2), .null, (.ref a3), (.long q4), (.ref a5), (.ref a6), (.ref a7), (.int p8), (.int p9), (.ref w_PENDING), (.int (0 : Int32))] 14)) t := fun t k => castTop (ef_12_1 m a1 q2 a3 q4 a5 a6 a7 p8 p9 w_PENDING (0 : Int32)) k
  obtain ⟨T1, X1, e1, st1⟩ := initO X0 hx hZ hown (hw _ (List.mem_of_getElem? (i := 56) rfl)) (hw _ (List.mem_of_getElem? (i := 12) rfl)) (hw _ (List.mem_of_getElem? (i := 13) rfl)) e0 (g := (mkF m 1 #[.val (.ref a1), .val (.long q2), .second, .val .null, .val (.ref a3), .val (.long q4), .second, .val (.ref a5), .val (.ref a6), .val (.ref a7), .val (.int p8), .val (.int p9), .val (.ref w_PENDING), .val (.int (0 : Int32))] [(.ref a1)])) rfl (by rw [hml]; rfl) rfl (hb hby d12_1) (by decide) (W := 0) (by show 2 * 0 + _ ≤ _; exact Nat.le_of_eq rfl) (by decide)
  obtain ⟨T2, h2, X2, e2, W2, st2⟩ := putF X1 hx hZ hown (host := "") (Or.inl (hw _ (List.mem_of_getElem? (i := 57) rfl))) Via.refl e1 F_id_a1 E_a1 (Or.inr ⟨(hw _ (List.mem_of_getElem? (i := 58) rfl)), rfl, hnm⟩) (hw _ (List.mem_of_getElem? (i := 48) rfl)) (ty := .long) (by decide) rfl rfl (g := (mkF m 6 #[.val (.ref a1), .val (.long q2), .second, .val .null, .val (.ref a3), .val (.long q4), .second, .val (.ref a5), .val (.ref a6), .val (.ref a7), .val (.int p8), .val (.int p9), .val (.ref w_PENDING), .val (.int (0 : Int32))] [(.long q2), (.ref a1)])) rfl rfl (hb hby d12_6)
  have N2 := Fr.snoc X2 N0 g_a1
  have O2 := O0.wr W2 g_a1
  have K2 : Keep h0 h2 [a1] := (Keep.refl h0 [a1]).wr W2 (Or.inl (List.mem_of_getElem? (i := 0) rfl))
  have Fw2 := F_id_a1.same W2
  obtain ⟨T3, h3, X3, e3, W3, st3⟩ := putF X2 hx hZ hown (host := "") (Or.inl (hw _ (List.mem_of_getElem? (i := 59) rfl))) Via.refl e2 (F_runKey_a1.other W2 (Or.inr (sn2 hw))) (E_a1.wr W2) (Or.inr ⟨(hw _ (List.mem_of_getElem? (i := 60) rfl)), rfl, hnm⟩) (hw _ (List.mem_of_getElem? (i := 48) rfl)) (ty := (.object "java/lang/String")) (by decide) rfl rfl (g := (mkF m 11 #[.val (.ref a1), .val (.long q2), .second, .val .null, .val (.ref a3), .val (.long q4), .second, .val (.ref a5), .val (.ref a6), .val (.ref a7), .val (.int p8), .val (.int p9), .val (.ref w_PENDING), .val (.int (0 : Int32))] [.null, (.ref a1)])) rfl rfl (hb hby d12_11)
  have N3 := Fr.snoc X3 N2 g_a1
  have O3 := O2.wr W3 g_a1
  have K3 : Keep h0 h3 [a1] := K2.wr W3 (Or.inl (List.mem_of_getElem? (i := 0) rfl))
  have Fw3 := (F_runKey_a1.other W2 (Or.inr (sn2 hw))).same W3
  have f_4 := ((F_streamKey_a1.other W2 (Or.inr (sn3 hw))).other W3 (Or.inr (sn4 hw)))
  obtain ⟨T5, h5, X5, e5, W5, st5⟩ := putF X3 hx hZ hown (host := "") (Or.inl (hw _ (List.mem_of_getElem? (i := 61) rfl))) Via.refl e3 f_4 ((E_a1.wr W2).wr W3) (Or.inr ⟨(hw _ (List.mem_of_getElem? (i := 62) rfl)), rfl, hnm⟩) (hw _ (List.mem_of_getElem? (i := 48) rfl)) (ty := (.object "java/lang/String")) (by decide) rfl rfl (g := (mkF m 17 #[.val (.ref a1), .val (.long q2), .second, .val .null, .val (.ref a3), .val (.long q4), .second, .val (.ref a5), .val (.ref a6), .val (.ref a7), .val (.int p8), .val (.int p9), .val (.ref w_PENDING), .val (.int (0 : Int32))] [(.ref a3), (.ref a1)])) rfl rfl (hb hby d12_17)
  have N5 := Fr.snoc X5 N3 g_a1
  have O5 := O3.wr W5 g_a1
  have K5 : Keep h0 h5 [a1] := K3.wr W5 (Or.inl (List.mem_of_getElem? (i := 0) rfl))
  have Fw5 := f_4.same W5
  have f_6 := (((F_position_a1.other W2 (Or.inr (sn5 hw))).other W3 (Or.inr (sn6 hw))).other W5 (Or.inr (sn7 hw)))
  obtain ⟨T7, h7, X7, e7, W7, st7⟩ := putF X5 hx hZ hown (host := "") (Or.inl (hw _ (List.mem_of_getElem? (i := 63) rfl))) Via.refl e5 f_6 (((E_a1.wr W2).wr W3).wr W5) (Or.inr ⟨(hw _ (List.mem_of_getElem? (i := 64) rfl)), rfl, hnm⟩) (hw _ (List.mem_of_getElem? (i := 48) rfl)) (ty := .long) (by decide) rfl rfl (g := (mkF m 23 #[.val (.ref a1), .val (.long q2), .second, .val .null, .val (.ref a3), .val (.long q4), .second, .val (.ref a5), .val (.ref a6), .val (.ref a7), .val (.int p8), .val (.int p9), .val (.ref w_PENDING), .val (.int (0 : Int32))] [(.long q4), (.ref a1)])) rfl rfl (hb hby d12_23)
  have N7 := Fr.snoc X7 N5 g_a1
  have O7 := O5.wr W7 g_a1
  have K7 : Keep h0 h7 [a1] := K5.wr W7 (Or.inl (List.mem_of_getElem? (i := 0) rfl))
  have Fw7 := f_6.same W7
  have f_8 := ((((F_nodeKey_a1.other W2 (Or.inr (sn8 hw))).other W3 (Or.inr (sn9 hw))).other W5 (Or.inr (sn10 hw))).other W7 (Or.inr (sn11 hw)))
  obtain ⟨T9, h9, X9, e9, W9, st9⟩ := putF X7 hx hZ hown (host := "") (Or.inl (hw _ (List.mem_of_getElem? (i := 65) rfl))) Via.refl e7 f_8 ((((E_a1.wr W2).wr W3).wr W5).wr W7) (Or.inr ⟨(hw _ (List.mem_of_getElem? (i := 66) rfl)), rfl, hnm⟩) (hw _ (List.mem_of_getElem? (i := 48) rfl)) (ty := (.object "java/lang/String")) (by decide) rfl rfl (g := (mkF m 29 #[.val (.ref a1), .val (.long q2), .second, .val .null, .val (.ref a3), .val (.long q4), .second, .val (.ref a5), .val (.ref a6), .val (.ref a7), .val (.int p8), .val (.int p9), .val (.ref w_PENDING), .val (.int (0 : Int32))] [(.ref a5), (.ref a1)])) rfl rfl (hb hby d12_29)
  have N9 := Fr.snoc X9 N7 g_a1
  have O9 := O7.wr W9 g_a1
  have K9 : Keep h0 h9 [a1] := K7.wr W9 (Or.inl (List.mem_of_getElem? (i := 0) rfl))
  have Fw9 := f_8.same W9
  have f_10 := (((((F_processor_a1.other W2 (Or.inr (sn12 hw))).other W3 (Or.inr (sn13 hw))).other W5 (Or.inr (sn14 hw))).other W7 (Or.inr (sn15 hw))).other W9 (Or.inr (sn16 hw)))
  obtain ⟨T11, h11, X11, e11, W11, st11⟩ := putF X9 hx hZ hown (host := "") (Or.inl (hw _ (List.mem_of_getElem? (i := 67) rfl))) Via.refl e9 f_10 (((((E_a1.wr W2).wr W3).wr W5).wr W7).wr W9) (Or.inr ⟨(hw _ (List.mem_of_getElem? (i := 68) rfl)), rfl, hnm⟩) (hw _ (List.mem_of_getElem? (i := 48) rfl)) (ty := (.object "java/lang/String")) (by decide) rfl rfl (g := (mkF m 35 #[.val (.ref a1), .val (.long q2), .second, .val .null, .val (.ref a3), .val (.long q4), .second, .val (.ref a5), .val (.ref a6), .val (.ref a7), .val (.int p8), .val (.int p9), .val (.ref w_PENDING), .val (.int (0 : Int32))] [(.ref a6), (.ref a1)])) rfl rfl (hb hby d12_35)
  have N11 := Fr.snoc X11 N9 g_a1
  have O11 := O9.wr W11 g_a1
  have K11 : Keep h0 h11 [a1] := K9.wr W11 (Or.inl (List.mem_of_getElem? (i := 0) rfl))
  have Fw11 := f_10.same W11
  have f_12 := ((((((F_payload_a1.other W2 (Or.inr (sn17 hw))).other W3 (Or.inr (sn18 hw))).other W5 (Or.inr (sn19 hw))).other W7 (Or.inr (sn20 hw))).other W9 (Or.inr (sn21 hw))).other W11 (Or.inr (sn22 hw)))
  obtain ⟨T13, h13, X13, e13, W13, st13⟩ := putF X11 hx hZ hown (host := "") (Or.inl (hw _ (List.mem_of_getElem? (i := 69) rfl))) Via.refl e11 f_12 ((((((E_a1.wr W2).wr W3).wr W5).wr W7).wr W9).wr W11) (Or.inr ⟨(hw _ (List.mem_of_getElem? (i := 70) rfl)), rfl, hnm⟩) (hw _ (List.mem_of_getElem? (i := 48) rfl)) (ty := (.array .byte)) (by decide) rfl rfl (g := (mkF m 41 #[.val (.ref a1), .val (.long q2), .second, .val .null, .val (.ref a3), .val (.long q4), .second, .val (.ref a5), .val (.ref a6), .val (.ref a7), .val (.int p8), .val (.int p9), .val (.ref w_PENDING), .val (.int (0 : Int32))] [(.ref a7), (.ref a1)])) rfl rfl (hb hby d12_41)
  have N13 := Fr.snoc X13 N11 g_a1
  have O13 := O11.wr W13 g_a1
  have K13 : Keep h0 h13 [a1] := K11.wr W13 (Or.inl (List.mem_of_getElem? (i := 0) rfl))
  have Fw13 := f_12.same W13
  have f_14 := (((((((E_a1.wr W2).wr W3).wr W5).wr W7).wr W9).wr W11).wr W13)
  have f_15 := (((((((F_attempt_a1.other W2 (Or.inr (sn23 hw))).other W3 (Or.inr (sn24 hw))).other W5 (Or.inr (sn25 hw))).other W7 (Or.inr (sn26 hw))).other W9 (Or.inr (sn27 hw))).other W11 (Or.inr (sn28 hw))).other W13 (Or.inr (sn29 hw)))
  obtain ⟨T16, h16, X16, e16, W16, st16⟩ := putF X13 hx hZ hown (host := "") (Or.inl (hw _ (List.mem_of_getElem? (i := 71) rfl))) Via.refl e13 f_15 f_14 (Or.inr ⟨(hw _ (List.mem_of_getElem? (i := 72) rfl)), rfl, hnm⟩) (hw _ (List.mem_of_getElem? (i := 48) rfl)) (ty := .int) (by decide) rfl rfl (g := (mkF m 47 #[.val (.ref a1), .val (.long q2), .second, .val .null, .val (.ref a3), .val (.long q4), .second, .val (.ref a5), .val (.ref a6), .val (.ref a7), .val (.int p8), .val (.int p9), .val (.ref w_PENDING), .val (.int (0 : Int32))] [(.int p8), (.ref a1)])) rfl rfl (hb hby d12_47)
  have N16 := Fr.snoc X16 N13 g_a1
  have O16 := O13.wr W16 g_a1
  have K16 : Keep h0 h16 [a1] := K13.wr W16 (Or.inl (List.mem_of_getElem? (i := 0) rfl))
  have Fw16 := f_15.same W16
  have f_17 := ((((((((F_retryLimit_a1.other W2 (Or.inr (sn30 hw))).other W3 (Or.inr (sn31 hw))).other W5 (Or.inr (sn32 hw))).other W7 (Or.inr (sn33 hw))).other W9 (Or.inr (sn34 hw))).other W11 (Or.inr (sn35 hw))).other W13 (Or.inr (sn36 hw))).other W16 (Or.inr (sn37 hw)))
  obtain ⟨T18, h18, X18, e18, W18, st18⟩ := putF X16 hx hZ hown (host := "") (Or.inl (hw _ (List.mem_of_getElem? (i := 73) rfl))) Via.refl e16 f_17 (f_14.wr W16) (Or.inr ⟨(hw _ (List.mem_of_getElem? (i := 74) rfl)), rfl, hnm⟩) (hw _ (List.mem_of_getElem? (i := 48) rfl)) (ty := .int) (by decide) rfl rfl (g := (mkF m 53 #[.val (.ref a1), .val (.long q2), .second, .val .null, .val (.ref a3), .val (.long q4), .second, .val (.ref a5), .val (.ref a6), .val (.ref a7), .val (.int p8), .val (.int p9), .val (.ref w_PENDING), .val (.int (0 : Int32))] [(.int p9), (.ref a1)])) rfl rfl (hb hby d12_53)
  have N18 := Fr.snoc X18 N16 g_a1
  have O18 := O16.wr W18 g_a1
  have K18 : Keep h0 h18 [a1] := K16.wr W18 (Or.inl (List.mem_of_getElem? (i := 0) rfl))
  have Fw18 := f_17.same W18
  have f_19 := (((((((((F_failStrategy_a1.other W2 (Or.inr (sn38 hw))).other W3 (Or.inr (sn39 hw))).other W5 (Or.inr (sn40 hw))).other W7 (Or.inr (sn41 hw))).other W9 (Or.inr (sn42 hw))).other W11 (Or.inr (sn43 hw))).other W13 (Or.inr (sn44 hw))).other W16 (Or.inr (sn45 hw))).other W18 (Or.inr (sn46 hw)))
  obtain ⟨T20, h20, X20, e20, W20, st20⟩ := putF X18 hx hZ hown (host := "") (Or.inl (hw _ (List.mem_of_getElem? (i := 75) rfl))) Via.refl e18 f_19 ((f_14.wr W16).wr W18) (Or.inr ⟨(hw _ (List.mem_of_getElem? (i := 76) rfl)), rfl, hnm⟩) (hw _ (List.mem_of_getElem? (i := 48) rfl)) (ty := (.object "com/example/graph_job_runner/graphjobrunner/FailStrategy")) (by decide) rfl rfl (g := (mkF m 59 #[.val (.ref a1), .val (.long q2), .second, .val .null, .val (.ref a3), .val (.long q4), .second, .val (.ref a5), .val (.ref a6), .val (.ref a7), .val (.int p8), .val (.int p9), .val (.ref w_PENDING), .val (.int (0 : Int32))] [(.ref w_PENDING), (.ref a1)])) rfl rfl (hb hby d12_59)
  have N20 := Fr.snoc X20 N18 g_a1
  have O20 := O18.wr W20 g_a1
  have K20 : Keep h0 h20 [a1] := K18.wr W20 (Or.inl (List.mem_of_getElem? (i := 0) rfl))
  have Fw20 := f_19.same W20
  have f_21 := ((((((((((F_hasChildren_a1.other W2 (Or.inr (sn47 hw))).other W3 (Or.inr (sn48 hw))).other W5 (Or.inr (sn49 hw))).other W7 (Or.inr (sn50 hw))).other W9 (Or.inr (sn51 hw))).other W11 (Or.inr (sn52 hw))).other W13 (Or.inr (sn53 hw))).other W16 (Or.inr (sn54 hw))).other W18 (Or.inr (sn55 hw))).other W20 (Or.inr (sn56 hw)))
  obtain ⟨T22, h22, X22, e22, W22, st22⟩ := putFN X20 hx hZ hown (hw _ (List.mem_of_getElem? (i := 77) rfl)) Via.refl e20 f_21 (((f_14.wr W16).wr W18).wr W20) (Or.inr ⟨(hw _ (List.mem_of_getElem? (i := 78) rfl)), rfl, hnm⟩) (hw _ (List.mem_of_getElem? (i := 48) rfl)) (ty := .boolean) (v' := (.int (0 : Int32))) (by decide) rfl rfl (g := (mkF m 65 #[.val (.ref a1), .val (.long q2), .second, .val .null, .val (.ref a3), .val (.long q4), .second, .val (.ref a5), .val (.ref a6), .val (.ref a7), .val (.int p8), .val (.int p9), .val (.ref w_PENDING), .val (.int (0 : Int32))] [(.int (0 : Int32)), (.ref a1)])) rfl rfl (hb hby d12_65)
  have N22 := Fr.snoc X22 N20 g_a1
  have O22 := O20.wr W22 g_a1
  have K22 : Keep h0 h22 [a1] := K20.wr W22 (Or.inl (List.mem_of_getElem? (i := 0) rfl))
  have Fw22 := f_21.same W22
  have f_23 := (((Fw16.other W18 (Or.inr (sn57 hw))).other W20 (Or.inr (sn58 hw))).other W22 (Or.inr (sn59 hw)))
  have f_24 := ((((((((((Fw2.other W3 (Or.inr (sn61 hw))).other W5 (Or.inr (sn62 hw))).other W7 (Or.inr (sn63 hw))).other W9 (Or.inr (sn64 hw))).other W11 (Or.inr (sn65 hw))).other W13 (Or.inr (sn66 hw))).other W16 (Or.inr (sn67 hw))).other W18 (Or.inr (sn68 hw))).other W20 (Or.inr (sn69 hw))).other W22 (Or.inr (sn70 hw)))
  have f_25 := ((((((Fw9.other W11 (Or.inr (sn71 hw))).other W13 (Or.inr (sn72 hw))).other W16 (Or.inr (sn73 hw))).other W18 (Or.inr (sn74 hw))).other W20 (Or.inr (sn75 hw))).other W22 (Or.inr (sn76 hw)))
  have f_26 := ((((Fw13.other W16 (Or.inr (sn77 hw))).other W18 (Or.inr (sn78 hw))).other W20 (Or.inr (sn79 hw))).other W22 (Or.inr (sn80 hw)))
  have f_27 := (((((((Fw7.other W9 (Or.inr (sn81 hw))).other W11 (Or.inr (sn82 hw))).other W13 (Or.inr (sn83 hw))).other W16 (Or.inr (sn84 hw))).other W18 (Or.inr (sn85 hw))).other W20 (Or.inr (sn86 hw))).other W22 (Or.inr (sn87 hw)))
  have f_28 := (((((Fw11.other W13 (Or.inr (sn88 hw))).other W16 (Or.inr (sn89 hw))).other W18 (Or.inr (sn90 hw))).other W20 (Or.inr (sn91 hw))).other W22 (Or.inr (sn92 hw)))
  have f_29 := ((Fw18.other W20 (Or.inr (sn93 hw))).other W22 (Or.inr (sn94 hw)))
  have f_30 := (((((((((Fw3.other W5 (Or.inr (sn95 hw))).other W7 (Or.inr (sn96 hw))).other W9 (Or.inr (sn97 hw))).other W11 (Or.inr (sn98 hw))).other W13 (Or.inr (sn99 hw))).other W16 (Or.inr (sn100 hw))).other W18 (Or.inr (sn101 hw))).other W20 (Or.inr (sn102 hw))).other W22 (Or.inr (sn103 hw)))
  have f_31 := ((((((((Fw5.other W7 (Or.inr (sn104 hw))).other W9 (Or.inr (sn105 hw))).other W11 (Or.inr (sn106 hw))).other W13 (Or.inr (sn107 hw))).other W16 (Or.inr (sn108 hw))).other W18 (Or.inr (sn109 hw))).other W20 (Or.inr (sn110 hw))).other W22 (Or.inr (sn111 hw)))
  obtain ⟨fs, hr, hrun, hended, hW, hsame⟩ := X22.leave (v := none) (fun _ => rfl)
  refine ⟨_, _, pre0 _ ?_, hrun, hended, _, _, rfl, ?_, ⟨_, rfl⟩, hW, hsame.mono (by decide) (by decide)⟩
  · show Sp p e below s₁ (mkF m 0 #[.val (.ref a1), .val (.long q2), .second, .val .null, .val (.ref a3), .val (.long q4), .second, .val (.ref a5), .val (.ref a6), .val (.ref a7), .val (.int p8), .val (.int p9), .val (.ref w_PENDING), .val (.int (0 : Int32))] []) _
    refine XS.aloadN X0.here hx rfl (hb hby d12_0) rfl rfl ?_
    show Sp p e below s₁ (mkF m 1 #[.val (.ref a1), .val (.long q2), .second, .val .null, .val (.ref a3), .val (.long q4), .second, .val (.ref a5), .val (.ref a6), .val (.ref a7), .val (.int p8), .val (.int p9), .val (.ref w_PENDING), .val (.int (0 : Int32))] [(.ref a1)]) _
    refine st1 _ ?_
    show Sp p e below T1 (mkF m 4 #[.val (.ref a1), .val (.long q2), .second, .val .null, .val (.ref a3), .val (.long q4), .second, .val (.ref a5), .val (.ref a6), .val (.ref a7), .val (.int p8), .val (.int p9), .val (.ref w_PENDING), .val (.int (0 : Int32))] []) _
    refine XS.aloadN X1.here hx rfl (hb hby d12_4) rfl rfl ?_
    refine XS.lloadN X1.here hx rfl (hb hby d12_5) rfl ?_
    show Sp p e below T1 (mkF m 6 #[.val (.ref a1), .val (.long q2), .second, .val .null, .val (.ref a3), .val (.long q4), .second, .val (.ref a5), .val (.ref a6), .val (.ref a7), .val (.int p8), .val (.int p9), .val (.ref w_PENDING), .val (.int (0 : Int32))] [(.long q2), (.ref a1)]) _
    refine st2 _ ?_
    show Sp p e below T2 (mkF m 9 #[.val (.ref a1), .val (.long q2), .second, .val .null, .val (.ref a3), .val (.long q4), .second, .val (.ref a5), .val (.ref a6), .val (.ref a7), .val (.int p8), .val (.int p9), .val (.ref w_PENDING), .val (.int (0 : Int32))] []) _
    refine XS.aloadN X2.here hx rfl (hb hby d12_9) rfl rfl ?_
    refine XS.aloadN X2.here hx rfl (hb hby d12_10) rfl rfl ?_
    show Sp p e below T2 (mkF m 11 #[.val (.ref a1), .val (.long q2), .second, .val .null, .val (.ref a3), .val (.long q4), .second, .val (.ref a5), .val (.ref a6), .val (.ref a7), .val (.int p8), .val (.int p9), .val (.ref w_PENDING), .val (.int (0 : Int32))] [.null, (.ref a1)]) _
    refine st3 _ ?_
    show Sp p e below T3 (mkF m 14 #[.val (.ref a1), .val (.long q2), .second, .val .null, .val (.ref a3), .val (.long q4), .second, .val (.ref a5), .val (.ref a6), .val (.ref a7), .val (.int p8), .val (.int p9), .val (.ref w_PENDING), .val (.int (0 : Int32))] []) _
    refine XS.aloadN X3.here hx rfl (hb hby d12_14) rfl rfl ?_
    refine XS.aload X3.here hx rfl (hb hby d12_15) rfl rfl ?_
    show Sp p e below T3 (mkF m 17 #[.val (.ref a1), .val (.long q2), .second, .val .null, .val (.ref a3), .val (.long q4), .second, .val (.ref a5), .val (.ref a6), .val (.ref a7), .val (.int p8), .val (.int p9), .val (.ref w_PENDING), .val (.int (0 : Int32))] [(.ref a3), (.ref a1)]) _
    refine st5 _ ?_
    show Sp p e below T5 (mkF m 20 #[.val (.ref a1), .val (.long q2), .second, .val .null, .val (.ref a3), .val (.long q4), .second, .val (.ref a5), .val (.ref a6), .val (.ref a7), .val (.int p8), .val (.int p9), .val (.ref w_PENDING), .val (.int (0 : Int32))] []) _
    refine XS.aloadN X5.here hx rfl (hb hby d12_20) rfl rfl ?_
    refine XS.lload X5.here hx rfl (hb hby d12_21) rfl ?_
    show Sp p e below T5 (mkF m 23 #[.val (.ref a1), .val (.long q2), .second, .val .null, .val (.ref a3), .val (.long q4), .second, .val (.ref a5), .val (.ref a6), .val (.ref a7), .val (.int p8), .val (.int p9), .val (.ref w_PENDING), .val (.int (0 : Int32))] [(.long q4), (.ref a1)]) _
    refine st7 _ ?_
    show Sp p e below T7 (mkF m 26 #[.val (.ref a1), .val (.long q2), .second, .val .null, .val (.ref a3), .val (.long q4), .second, .val (.ref a5), .val (.ref a6), .val (.ref a7), .val (.int p8), .val (.int p9), .val (.ref w_PENDING), .val (.int (0 : Int32))] []) _
    refine XS.aloadN X7.here hx rfl (hb hby d12_26) rfl rfl ?_
    refine XS.aload X7.here hx rfl (hb hby d12_27) rfl rfl ?_
    show Sp p e below T7 (mkF m 29 #[.val (.ref a1), .val (.long q2), .second, .val .null, .val (.ref a3), .val (.long q4), .second, .val (.ref a5), .val (.ref a6), .val (.ref a7), .val (.int p8), .val (.int p9), .val (.ref w_PENDING), .val (.int (0 : Int32))] [(.ref a5), (.ref a1)]) _
    refine st9 _ ?_
    show Sp p e below T9 (mkF m 32 #[.val (.ref a1), .val (.long q2), .second, .val .null, .val (.ref a3), .val (.long q4), .second, .val (.ref a5), .val (.ref a6), .val (.ref a7), .val (.int p8), .val (.int p9), .val (.ref w_PENDING), .val (.int (0 : Int32))] []) _
    refine XS.aloadN X9.here hx rfl (hb hby d12_32) rfl rfl ?_
    refine XS.aload X9.here hx rfl (hb hby d12_33) rfl rfl ?_
    show Sp p e below T9 (mkF m 35 #[.val (.ref a1), .val (.long q2), .second, .val .null, .val (.ref a3), .val (.long q4), .second, .val (.ref a5), .val (.ref a6), .val (.ref a7), .val (.int p8), .val (.int p9), .val (.ref w_PENDING), .val (.int (0 : Int32))] [(.ref a6), (.ref a1)]) _
    refine st11 _ ?_
    show Sp p e below T11 (mkF m 38 #[.val (.ref a1), .val (.long q2), .second, .val .null, .val (.ref a3), .val (.long q4), .second, .val (.ref a5), .val (.ref a6), .val (.ref a7), .val (.int p8), .val (.int p9), .val (.ref w_PENDING), .val (.int (0 : Int32))] []) _
    refine XS.aloadN X11.here hx rfl (hb hby d12_38) rfl rfl ?_
    refine XS.aload X11.here hx rfl (hb hby d12_39) rfl rfl ?_
    show Sp p e below T11 (mkF m 41 #[.val (.ref a1), .val (.long q2), .second, .val .null, .val (.ref a3), .val (.long q4), .second, .val (.ref a5), .val (.ref a6), .val (.ref a7), .val (.int p8), .val (.int p9), .val (.ref w_PENDING), .val (.int (0 : Int32))] [(.ref a7), (.ref a1)]) _
    refine st13 _ ?_
    show Sp p e below T13 (mkF m 44 #[.val (.ref a1), .val (.long q2), .second, .val .null, .val (.ref a3), .val (.long q4), .second, .val (.ref a5), .val (.ref a6), .val (.ref a7), .val (.int p8), .val (.int p9), .val (.ref w_PENDING), .val (.int (0 : Int32))] []) _
    refine XS.aloadN X13.here hx rfl (hb hby d12_44) rfl rfl ?_
    refine XS.iload X13.here hx rfl (hb hby d12_45) rfl ?_
    show Sp p e below T13 (mkF m 47 #[.val (.ref a1), .val (.long q2), .second, .val .null, .val (.ref a3), .val (.long q4), .second, .val (.ref a5), .val (.ref a6), .val (.ref a7), .val (.int p8), .val (.int p9), .val (.ref w_PENDING), .val (.int (0 : Int32))] [(.int p8), (.ref a1)]) _
    refine st16 _ ?_
    show Sp p e below T16 (mkF m 50 #[.val (.ref a1), .val (.long q2), .second, .val .null, .val (.ref a3), .val (.long q4), .second, .val (.ref a5), .val (.ref a6), .val (.ref a7), .val (.int p8), .val (.int p9), .val (.ref w_PENDING), .val (.int (0 : Int32))] []) _
    refine XS.aloadN X16.here hx rfl (hb hby d12_50) rfl rfl ?_
    refine XS.iload X16.here hx rfl (hb hby d12_51) rfl ?_
    show Sp p e below T16 (mkF m 53 #[.val (.ref a1), .val (.long q2), .second, .val .null, .val (.ref a3), .val (.long q4), .second, .val (.ref a5), .val (.ref a6), .val (.ref a7), .val (.int p8), .val (.int p9), .val (.ref w_PENDING), .val (.int (0 : Int32))] [(.int p9), (.ref a1)]) _
    refine st18 _ ?_
    show Sp p e below T18 (mkF m 56 #[.val (.ref a1), .val (.long q2), .second, .val .null, .val (.ref a3), .val (.long q4), .second, .val (.ref a5), .val (.ref a6), .val (.ref a7), .val (.int p8), .val (.int p9), .val (.ref w_PENDING), .val (.int (0 : Int32))] []) _
    refine XS.aloadN X18.here hx rfl (hb hby d12_56) rfl rfl ?_
    refine XS.aload X18.here hx rfl (hb hby d12_57) rfl rfl ?_
    show Sp p e below T18 (mkF m 59 #[.val (.ref a1), .val (.long q2), .second, .val .null, .val (.ref a3), .val (.long q4), .second, .val (.ref a5), .val (.ref a6), .val (.ref a7), .val (.int p8), .val (.int p9), .val (.ref w_PENDING), .val (.int (0 : Int32))] [(.ref w_PENDING), (.ref a1)]) _
    refine st20 _ ?_
    show Sp p e below T20 (mkF m 62 #[.val (.ref a1), .val (.long q2), .second, .val .null, .val (.ref a3), .val (.long q4), .second, .val (.ref a5), .val (.ref a6), .val (.ref a7), .val (.int p8), .val (.int p9), .val (.ref w_PENDING), .val (.int (0 : Int32))] []) _
    refine XS.aloadN X20.here hx rfl (hb hby d12_62) rfl rfl ?_
    refine XS.iload X20.here hx rfl (hb hby d12_63) rfl ?_
    show Sp p e below T20 (mkF m 65 #[.val (.ref a1), .val (.long q2), .second, .val .null, .val (.ref a3), .val (.long q4), .second, .val (.ref a5), .val (.ref a6), .val (.ref a7), .val (.int p8), .val (.int p9), .val (.ref w_PENDING), .val (.int (0 : Int32))] [(.int (0 : Int32)), (.ref a1)]) _
    refine st22 _ ?_
    show Sp p e below T22 (mkF m 68 #[.val (.ref a1), .val (.long q2), .second, .val .null, .val (.ref a3), .val (.long q4), .second, .val (.ref a5), .val (.ref a6), .val (.ref a7), .val (.int p8), .val (.int p9), .val (.ref w_PENDING), .val (.int (0 : Int32))] []) _
    exact X22.returnOut hx Bd.returns (hb hby d12_68) hr
  · show Q19 Z w_PENDING w_IGNORE cs_v a1 q2 a3 q4 a5 a6 a7 p8 p9 h0 n0 _ T22.heap _
    rw [e22]
    exact ⟨rfl, N22, K22, ((((f_14.wr W16).wr W18).wr W20).wr W22), f_23, (Fw20.other W22 (Or.inr (sn60 hw))), Fw22, f_24, f_25, f_26, f_27, f_28, f_29, f_30, f_31⟩
theorem d16_22 : decode prog_3_method_2_code 22 = .ok (.return_, 1) := by decide +kernel
abbrev y14 : MethodName := (⟨"com/example/graph_job_runner/graphjobrunner/ClaimedNode", "<init>", "(JLjava/lang/String;JLjava/lang/String;Ljava/lang/String;[BIILcom/example/graph_job_runner/graphjobrunner/FailStrategy;)V"⟩ : MethodName)
theorem ef_16_0 (m : MethodId) (x0 : Addr) (x1 : Int64) (x2 : Addr) (x3 : Int64) (x4 : Addr) (x5 : Addr) (x6 : Addr) (x7 : Int32) (x8 : Int32) (x9 : Addr) : entryFrame m #[(.ref x0), (.long x1), (.ref x2), (.long x3), (.ref x4), (.ref x5), (.ref x6), (.int x7), (.int x8), (.ref x9)] 12 = mkF m 0 #[.val (.ref x0), .val (.long x1), .second, .val (.ref x2), .val (.long x3), .second, .val (.ref x4), .val (.ref x5), .val (.ref x6), .val (.int x7), .val (.int x8), .val (.ref x9)] [] := by first | (simp [entryFrame, mkF, argsToLocals, Value.category]; done) | rfl
def Q20 (Z : State) (w_PENDING : Addr) (w_IGNORE : Addr) (cs_v : Int32) (a1 : Addr) (q2 : Int64) (a3 : Addr) (q4 : Int64) (a5 : Addr) (a6 : Addr) (a7 : Addr) (p8 : Int32) (p9 : Int32) (h0 : Heap) (n0 : Nat) (v : Option Value) (h : Heap) (L : List Loc) : Prop := v = none ∧ Fr n0 L ∧ Keep h0 h [a1] ∧ Exa Z h a1 "com/example/graph_job_runner/graphjobrunner/ClaimedNode" ∧ Fld Z h a1 "com/example/graph_job_runner/graphjobrunner/ClaimedNode" "attempt" "I" (.int p8) ∧ Fld Z h a1 "com/example/graph_job_runner/graphjobrunner/ClaimedNode" "failStrategy" "Lcom/example/graph_job_runner/graphjobrunner/FailStrategy;" (.ref w_PENDING) ∧ Fld Z h a1 "com/example/graph_job_runner/graphjobrunner/ClaimedNode" "hasChildren" "Z" (.int (0 : Int32)) ∧ Fld Z h a1 "com/example/graph_job_runner/graphjobrunner/ClaimedNode" "id" "J" (.long q2) ∧ Fld Z h a1 "com/example/graph_job_runner/graphjobrunner/ClaimedNode" "nodeKey" "Ljava/lang/String;" (.ref a5) ∧ Fld Z h a1 "com/example/graph_job_runner/graphjobrunner/ClaimedNode" "payload" "[B" (.ref a7) ∧ Fld Z h a1 "com/example/graph_job_runner/graphjobrunner/ClaimedNode" "position" "J" (.long q4) ∧ Fld Z h a1 "com/example/graph_job_runner/graphjobrunner/ClaimedNode" "processor" "Ljava/lang/String;" (.ref a6) ∧ Fld Z h a1 "com/example/graph_job_runner/graphjobrunner/ClaimedNode" "retryLimit" "I" (.int p9) ∧ Fld Z h a1 "com/example/graph_job_runner/graphjobrunner/ClaimedNode" "runKey" "Ljava/lang/String;" .null ∧ Fld Z h a1 "com/example/graph_job_runner/graphjobrunner/ClaimedNode" "streamKey" "Ljava/lang/String;" (.ref a3)
set_option maxRecDepth 65536 in
set_option maxHeartbeats 40000000 in
theorem rm20 (l : Launch) (Z : State) (a0 : Array Value) (hw : ∀ d ∈ tables_1, d.before a0 Z = true) (ws : List Jvm.Cond) (w_PENDING w_IGNORE : Addr) (cs_v : Int32) (hp : Perm Z w_PENDING w_IGNORE cs_v) (a1 : Addr) (q2 : Int64) (a3 : Addr) (q4 : Int64) (a5 : Addr) (a6 : Addr) (a7 : Addr) (p8 : Int32) (p9 : Int32) (h0 : Heap) (n0 : Nat) (O0 : Old Z n0 h0) (E_a1 : Exa Z h0 a1 "com/example/graph_job_runner/graphjobrunner/ClaimedNode") (F_id_a1 : Fld Z h0 a1 "com/example/graph_job_runner/graphjobrunner/ClaimedNode" "id" "J" (.long (0 : Int64))) (F_runKey_a1 : Fld Z h0 a1 "com/example/graph_job_runner/graphjobrunner/ClaimedNode" "runKey" "Ljava/lang/String;" .null) (F_streamKey_a1 : Fld Z h0 a1 "com/example/graph_job_runner/graphjobrunner/ClaimedNode" "streamKey" "Ljava/lang/String;" .null) (F_position_a1 : Fld Z h0 a1 "com/example/graph_job_runner/graphjobrunner/ClaimedNode" "position" "J" (.long (0 : Int64))) (F_nodeKey_a1 : Fld Z h0 a1 "com/example/graph_job_runner/graphjobrunner/ClaimedNode" "nodeKey" "Ljava/lang/String;" .null) (F_processor_a1 : Fld Z h0 a1 "com/example/graph_job_runner/graphjobrunner/ClaimedNode" "processor" "Ljava/lang/String;" .null) (F_payload_a1 : Fld Z h0 a1 "com/example/graph_job_runner/graphjobrunner/ClaimedNode" "payload" "[B" .null) (F_attempt_a1 : Fld Z h0 a1 "com/example/graph_job_runner/graphjobrunner/ClaimedNode" "attempt" "I" (.int (0 : Int32))) (F_retryLimit_a1 : Fld Z h0 a1 "com/example/graph_job_runner/graphjobrunner/ClaimedNode" "retryLimit" "I" (.int (0 : Int32))) (F_failStrategy_a1 : Fld Z h0 a1 "com/example/graph_job_runner/graphjobrunner/ClaimedNode" "failStrategy" "Lcom/example/graph_job_runner/graphjobrunner/FailStrategy;" .null) (F_hasChildren_a1 : Fld Z h0 a1 "com/example/graph_job_runner/graphjobrunner/ClaimedNode" "hasChildren" "Z" (.int (0 : Int32))) (g_a1 : n0 ≤ a1) :
    MetFree l y14 (head1 (Jvm.Cond.code y14 prog_3_method_2_code 12 none :: ws) ({ frames := 2, cells := 0, slots := 0, locals := 37 } : Room)) (fun a U => a = #[(.ref a1), (.long q2), (.ref a3), (.long q4), (.ref a5), (.ref a6), (.ref a7), (.int p8), (.int p9), (.ref w_PENDING)] ∧ Z.Warmed39 U.vm ∧ U.heap = h0) (fun _ _ _ _ _ => True) (fun _ U o U' => ∃ v L, o = .returned v ∧ Q20 Z w_PENDING w_IGNORE cs_v a1 q2 a3 q4 a5 a6 a7 p8 p9 h0 n0 v U'.heap L ∧ FrameEnd U o U' L ({ frames := 2, cells := 0, slots := 0, locals := 37 } : Room).cells ({ frames := 2, cells := 0, slots := 0, locals := 37 } : Room).slots) := by
  refine MetFree.of_bodySF (plainFor_of_name pn_12) hisR ?_
  intro p e s m args below meth c s₁ Bd hml0 hP hK
  obtain ⟨rfl, hZ, hh⟩ := hP
  have hx := Bd.exec
  have hby := Bd.bytes
  have hml : c.maxLocals = 12 := hml0
  have hown : s.vm.findClass "com/example/graph_job_runner/graphjobrunner/ClaimedNode" = some m.cls := findClass_of_methodNamed Bd.named
  have hnm := (name_of_methodNamed Bd.named Bd.method).1
  have X0 : Stand p l e ({ frames := 2, cells := 0, slots := 0, locals := 37 } : Room) s m #[(.ref a1), (.long q2), (.ref a3), (.long q4), (.ref a5), (.ref a6), (.ref a7), (.int p8), (.int p9), (.ref w_PENDING)] below meth c s₁ [] 0 0 := Stand.of_body Bd
  have e0 : s₁.heap = h0 := by rw [← hh, Bd.state]; rfl
  have N0 := Fr.nil n0
  have hp' := hp
  obtain ⟨S_w_PENDING, E_w_PENDING, S_w_IGNORE, E_w_IGNORE, S_COMPACT_STRINGS, h_cs⟩ := hp'
  have pre0 : ∀ t, Steps p.tables e below (s₁.setTop (mkF m 0 #[.val (.ref a1), .val (.long q2), .second, .val (.ref a3), .val (.long q4), .second, .val (.ref a5), .val (.ref a6), .val (.ref a7), .val (.int p8), .val (.int p9), .val (.ref w_PENDING)] [])) t → Steps p.tables e below (s₁.setTop (entryFrame m #[(.ref a1), (.long q2), (.ref a3), (.long q4), (.ref a5), (.ref a6), (.ref a7), (.int p8), (.int p9), (.ref w_PENDING)] 12)) t := fun t k => castTop (ef_16_0 m a1 q2 a3 q4 a5 a6 a7 p8 p9 w_PENDING) k
  obtain ⟨_, _, ⟨T1, L1, k1, n1⟩, -, X1, ⟨Lc1, hQ1, l1, y1, z1⟩, st1⟩ := X0.specialBack hx (y := y9) rfl hown (mvT hZ (hw _ (List.mem_of_getElem? (i := 53) rfl))) (mvT hZ (hw _ (List.mem_of_getElem? (i := 54) rfl))) (mvT hZ (hw _ (List.mem_of_getElem? (i := 55) rfl))) (by decide) (backOf (W := 0) (rm19 l Z a0 hw [] w_PENDING w_IGNORE cs_v hp a1 q2 a3 q4 a5 a6 a7 p8 p9 h0 n0 O0 E_a1 F_id_a1 F_runKey_a1 F_streamKey_a1 F_position_a1 F_nodeKey_a1 F_processor_a1 F_payload_a1 F_attempt_a1 F_retryLimit_a1 F_failStrategy_a1 F_hasChildren_a1 g_a1) hZ (hw _ (List.mem_of_getElem? (i := 55) rfl)) (hw _ (List.mem_of_getElem? (i := 49) rfl)) (by decide) (by decide)) (g := (mkF m 19 #[.val (.ref a1), .val (.long q2), .second, .val (.ref a3), .val (.long q4), .second, .val (.ref a5), .val (.ref a6), .val (.ref a7), .val (.int p8), .val (.int p9), .val (.ref w_PENDING)] [(.int (0 : Int32)), (.ref w_PENDING), (.int p9), (.int p8), (.ref a7), (.ref a6), (.ref a5), (.long q4), (.ref a3), .null, (.long q2), (.ref a1)])) rfl (by rw [hml]; rfl) (Steps.refl _) (a := a1) (argsL := [(.long q2), .null, (.ref a3), (.long q4), (.ref a5), (.ref a6), (.ref a7), (.int p8), (.int p9), (.ref w_PENDING), (.int (0 : Int32))]) (rest := []) (lenOf pd_9 rfl) rfl (by show 2 * 0 + _ ≤ _; exact Nat.le_of_eq rfl) (hb hby d16_19) (fun _ _ => ⟨rfl, e0, (by decide : 0 + 0 ≤ _), (by decide : 0 + 0 ≤ _)⟩)
  dsimp only [Pt.U, Pt.locs, Pt.cells, Pt.slots] at X1 l1 y1 z1 st1 hQ1
  subst l1 y1 z1
  obtain ⟨rfl, Nq1, Kq1, fq1_0, fq1_1, fq1_2, fq1_3, fq1_4, fq1_5, fq1_6, fq1_7, fq1_8, fq1_9, fq1_10, fq1_11⟩ := hQ1
  have N1 := Fr.app N0 Nq1
  have O1 := O0.keep Kq1 (allS g_a1 all0)
  have K1 : Keep h0 T1.heap [a1] := (Keep.refl h0 [a1]).trans Kq1 (allS (Or.inl (List.mem_of_getElem? (i := 0) rfl)) all0)
  obtain ⟨fs, hr, hrun, hended, hW, hsame⟩ := X1.leave (v := none) (fun _ => rfl)
  refine ⟨_, _, pre0 _ ?_, hrun, hended, _, _, rfl, ?_, ⟨_, rfl⟩, hW, hsame.mono (by decide) (by decide)⟩
  · show Sp p e below s₁ (mkF m 0 #[.val (.ref a1), .val (.long q2), .second, .val (.ref a3), .val (.long q4), .second, .val (.ref a5), .val (.ref a6), .val (.ref a7), .val (.int p8), .val (.int p9), .val (.ref w_PENDING)] []) _
    refine XS.aloadN X0.here hx rfl (hb hby d16_0) rfl rfl ?_
    refine XS.lloadN X0.here hx rfl (hb hby d16_1) rfl ?_
    refine XS.aconstNull X0.here hx rfl (hb hby d16_2) ?_
    refine XS.aloadN X0.here hx rfl (hb hby d16_3) rfl rfl ?_
    refine XS.lload X0.here hx rfl (hb hby d16_4) rfl ?_
    refine XS.aload X0.here hx rfl (hb hby d16_6) rfl rfl ?_
    refine XS.aload X0.here hx rfl (hb hby d16_8) rfl rfl ?_
    refine XS.aload X0.here hx rfl (hb hby d16_10) rfl rfl ?_
    refine XS.iload X0.here hx rfl (hb hby d16_12) rfl ?_
    refine XS.iload X0.here hx rfl (hb hby d16_14) rfl ?_
    refine XS.aload X0.here hx rfl (hb hby d16_16) rfl rfl ?_
    refine XS.iconst X0.here hx rfl (hb hby d16_18) ?_
    show Sp p e below s₁ (mkF m 19 #[.val (.ref a1), .val (.long q2), .second, .val (.ref a3), .val (.long q4), .second, .val (.ref a5), .val (.ref a6), .val (.ref a7), .val (.int p8), .val (.int p9), .val (.ref w_PENDING)] [(.int (0 : Int32)), (.ref w_PENDING), (.int p9), (.int p8), (.ref a7), (.ref a6), (.ref a5), (.long q4), (.ref a3), .null, (.long q2), (.ref a1)]) _
    refine st1.trans ?_
    show Sp p e below T1 (mkF m 22 #[.val (.ref a1), .val (.long q2), .second, .val (.ref a3), .val (.long q4), .second, .val (.ref a5), .val (.ref a6), .val (.ref a7), .val (.int p8), .val (.int p9), .val (.ref w_PENDING)] []) _
    exact X1.returnOut hx Bd.returns (hb hby d16_22) hr
  · show Q20 Z w_PENDING w_IGNORE cs_v a1 q2 a3 q4 a5 a6 a7 p8 p9 h0 n0 _ T1.heap _
    exact ⟨rfl, N1, K1, fq1_0, fq1_1, fq1_2, fq1_3, fq1_4, fq1_5, fq1_6, fq1_7, fq1_8, fq1_9, fq1_10, fq1_11⟩
theorem pd_13 : parseMethodDescriptor "(JLjava/lang/String;JLjava/lang/String;Ljava/lang/String;[BIILcom/example/graph_job_runner/graphjobrunner/FailStrategy;)V" = some ⟨[.long, (.object "java/lang/String"), .long, (.object "java/lang/String"), (.object "java/lang/String"), (.array .byte), .int, .int, (.object "com/example/graph_job_runner/graphjobrunner/FailStrategy")], none⟩ := by decide +kernel
theorem d13_7 : decode prog_3_method_5_code 7 = .ok (.iconst 1, 1) := by decide +kernel
theorem d13_8 : decode prog_3_method_5_code 8 = .ok (.goto 4, 3) := by decide +kernel
def Q21 (Z : State) (w_PENDING : Addr) (w_IGNORE : Addr) (cs_v : Int32) (a1 : Addr) (a2 : Addr) (h0 : Heap) (n0 : Nat) (v : Option Value) (h : Heap) (L : List Loc) : Prop := v = some (.int (1 : Int32)) ∧ Fr n0 L ∧ h = h0
set_option maxRecDepth 65536 in
set_option maxHeartbeats 40000000 in
theorem rm21 (l : Launch) (Z : State) (a0 : Array Value) (hw : ∀ d ∈ tables_1, d.before a0 Z = true) (ws : List Jvm.Cond) (w_PENDING w_IGNORE : Addr) (cs_v : Int32) (hp : Perm Z w_PENDING w_IGNORE cs_v) (a1 : Addr) (a2 : Addr) (h0 : Heap) (n0 : Nat) (O0 : Old Z n0 h0) (F_streamKey_a1 : Fld Z h0 a1 "com/example/graph_job_runner/graphjobrunner/ClaimedNode" "streamKey" "Ljava/lang/String;" (.ref a2)) :
    MetFree l y11 (head1 (Jvm.Cond.code y11 prog_3_method_5_code 1 (some .boolean) :: ws) ({ frames := 0, cells := 0, slots := 0, locals := 0 } : Room)) (fun a U => a = #[(.ref a1)] ∧ Z.Warmed39 U.vm ∧ U.heap = h0) (fun _ _ _ _ _ => True) (fun _ U o U' => ∃ v L, o = .returned v ∧ Q21 Z w_PENDING w_IGNORE cs_v a1 a2 h0 n0 v U'.heap L ∧ FrameEnd U o U' L ({ frames := 0, cells := 0, slots := 0, locals := 0 } : Room).cells ({ frames := 0, cells := 0, slots := 0, locals := 0 } : Room).slots) := by
  refine MetFree.of_bodySF (plainFor_of_name pn_12) hisR ?_
  intro p e s m args below meth c s₁ Bd hml0 hP hK
  obtain ⟨rfl, hZ, hh⟩ := hP
  have hx := Bd.exec
  have hby := Bd.bytes
  have hml : c.maxLocals = 1 := hml0
  have hown : s.vm.findClass "com/example/graph_job_runner/graphjobrunner/ClaimedNode" = some m.cls := findClass_of_methodNamed Bd.named
  have hnm := (name_of_methodNamed Bd.named Bd.method).1
  have X0 : Stand p l e ({ frames := 0, cells := 0, slots := 0, locals := 0 } : Room) s m #[(.ref a1)] below meth c s₁ [] 0 0 := Stand.of_body Bd
  have e0 : s₁.heap = h0 := by rw [← hh, Bd.state]; rfl
  have N0 := Fr.nil n0
  have hp' := hp
  obtain ⟨S_w_PENDING, E_w_PENDING, S_w_IGNORE, E_w_IGNORE, S_COMPACT_STRINGS, h_cs⟩ := hp'
  have pre0 : ∀ t, Steps p.tables e below (s₁.setTop (mkF m 0 #[.val (.ref a1)] [])) t → Steps p.tables e below (s₁.setTop (entryFrame m #[(.ref a1)] 1)) t := fun t k => castTop (ef_13_0 m a1) k
  obtain ⟨T1, X1, e1, st1⟩ := getF X0 hx hZ hown (host := "") (Or.inl (hw _ (List.mem_of_getElem? (i := 61) rfl))) Via.refl e0 F_streamKey_a1 (g := (mkF m 1 #[.val (.ref a1)] [(.ref a1)])) rfl rfl (hb hby d13_1)
  obtain ⟨fs, hr, hrun, hended, hW, hsame⟩ := X1.leave (v := some (.int (1 : Int32))) (fun h => by rw [Bd.returns] at h; cases h)
  refine ⟨_, _, pre0 _ ?_, hrun, hended, _, _, rfl, ?_, ⟨_, rfl⟩, hW, hsame.mono (by decide) (by decide)⟩
  · show Sp p e below s₁ (mkF m 0 #[.val (.ref a1)] []) _
    refine XS.aloadN X0.here hx rfl (hb hby d13_0) rfl rfl ?_
    show Sp p e below s₁ (mkF m 1 #[.val (.ref a1)] [(.ref a1)]) _
    refine st1 _ ?_
    show Sp p e below T1 (mkF m 4 #[.val (.ref a1)] [(.ref a2)]) _
    refine XS.ifnullNo X1.here hx rfl (hb hby d13_4) rfl ?_
    refine XS.iconst X1.here hx rfl (hb hby d13_7) ?_
    show Sp p e below T1 (mkF m 8 #[.val (.ref a1)] [(.int (1 : Int32))]) _
    refine XS.goto X1.here hx rfl (pc0 := 8) (pc' := 12) rfl (hb hby d13_8) (by decide) (by decide) ?_
    show Sp p e below T1 (mkF m 12 #[.val (.ref a1)] [(.int (1 : Int32))]) _
    exact retN X1 hx (t := .boolean) Bd.returns (by simp) (hb hby d13_12) hr
  · show Q21 Z w_PENDING w_IGNORE cs_v a1 a2 h0 n0 _ T1.heap _
    rw [e1]
    exact ⟨rfl, N0, rfl⟩
def Q22 (Z : State) (w_PENDING : Addr) (w_IGNORE : Addr) (cs_v : Int32) (a1 : Addr) (a2 : Addr) (h0 : Heap) (n0 : Nat) (v : Option Value) (h : Heap) (L : List Loc) : Prop := v = some (.ref a2) ∧ Fr n0 L ∧ h = h0
set_option maxRecDepth 65536 in
set_option maxHeartbeats 40000000 in
theorem rm22 (l : Launch) (Z : State) (a0 : Array Value) (hw : ∀ d ∈ tables_1, d.before a0 Z = true) (ws : List Jvm.Cond) (w_PENDING w_IGNORE : Addr) (cs_v : Int32) (hp : Perm Z w_PENDING w_IGNORE cs_v) (a1 : Addr) (a2 : Addr) (h0 : Heap) (n0 : Nat) (O0 : Old Z n0 h0) (F_streamKey_a1 : Fld Z h0 a1 "com/example/graph_job_runner/graphjobrunner/ClaimedNode" "streamKey" "Ljava/lang/String;" (.ref a2)) :
    MetFree l y13 (head1 (Jvm.Cond.code y13 prog_3_method_7_code 1 (some (.object "java/lang/String")) :: ws) ({ frames := 0, cells := 0, slots := 0, locals := 0 } : Room)) (fun a U => a = #[(.ref a1)] ∧ Z.Warmed39 U.vm ∧ U.heap = h0) (fun _ _ _ _ _ => True) (fun _ U o U' => ∃ v L, o = .returned v ∧ Q22 Z w_PENDING w_IGNORE cs_v a1 a2 h0 n0 v U'.heap L ∧ FrameEnd U o U' L ({ frames := 0, cells := 0, slots := 0, locals := 0 } : Room).cells ({ frames := 0, cells := 0, slots := 0, locals := 0 } : Room).slots) := by
  refine MetFree.of_bodySF (plainFor_of_name pn_12) hisR ?_
  intro p e s m args below meth c s₁ Bd hml0 hP hK
  obtain ⟨rfl, hZ, hh⟩ := hP
  have hx := Bd.exec
  have hby := Bd.bytes
  have hml : c.maxLocals = 1 := hml0
  have hown : s.vm.findClass "com/example/graph_job_runner/graphjobrunner/ClaimedNode" = some m.cls := findClass_of_methodNamed Bd.named
  have hnm := (name_of_methodNamed Bd.named Bd.method).1
  have X0 : Stand p l e ({ frames := 0, cells := 0, slots := 0, locals := 0 } : Room) s m #[(.ref a1)] below meth c s₁ [] 0 0 := Stand.of_body Bd
  have e0 : s₁.heap = h0 := by rw [← hh, Bd.state]; rfl
  have N0 := Fr.nil n0
  have hp' := hp
  obtain ⟨S_w_PENDING, E_w_PENDING, S_w_IGNORE, E_w_IGNORE, S_COMPACT_STRINGS, h_cs⟩ := hp'
  have pre0 : ∀ t, Steps p.tables e below (s₁.setTop (mkF m 0 #[.val (.ref a1)] [])) t → Steps p.tables e below (s₁.setTop (entryFrame m #[(.ref a1)] 1)) t := fun t k => castTop (ef_15_0 m a1) k
  obtain ⟨T1, X1, e1, st1⟩ := getF X0 hx hZ hown (host := "") (Or.inl (hw _ (List.mem_of_getElem? (i := 61) rfl))) Via.refl e0 F_streamKey_a1 (g := (mkF m 1 #[.val (.ref a1)] [(.ref a1)])) rfl rfl (hb hby d15_1)
  obtain ⟨fs, hr, hrun, hended, hW, hsame⟩ := X1.leave (v := some (.ref a2)) (fun h => by rw [Bd.returns] at h; cases h)
  refine ⟨_, _, pre0 _ ?_, hrun, hended, _, _, rfl, ?_, ⟨_, rfl⟩, hW, hsame.mono (by decide) (by decide)⟩
  · show Sp p e below s₁ (mkF m 0 #[.val (.ref a1)] []) _
    refine XS.aloadN X0.here hx rfl (hb hby d15_0) rfl rfl ?_
    show Sp p e below s₁ (mkF m 1 #[.val (.ref a1)] [(.ref a1)]) _
    refine st1 _ ?_
    show Sp p e below T1 (mkF m 4 #[.val (.ref a1)] [(.ref a2)]) _
    jvm_step X1.here [X1.here.top, hx, (hb hby d15_4), X1.method', Bd.returns, Value.isRef, FieldType.isReference]
    first | (intro acts; rw [hr _ acts rfl rfl rfl]) | rw [hr _ _ rfl rfl rfl]
    exact Steps.refl _
  · show Q22 Z w_PENDING w_IGNORE cs_v a1 a2 h0 n0 _ T1.heap _
    rw [e1]
    exact ⟨rfl, N0, rfl⟩
def Q23 (Z : State) (w_PENDING : Addr) (w_IGNORE : Addr) (cs_v : Int32) (a1 : Addr) (h0 : Heap) (n0 : Nat) (v : Option Value) (h : Heap) (L : List Loc) : Prop := v = some .null ∧ Fr n0 L ∧ h = h0
set_option maxRecDepth 65536 in
set_option maxHeartbeats 40000000 in
theorem rm23 (l : Launch) (Z : State) (a0 : Array Value) (hw : ∀ d ∈ tables_1, d.before a0 Z = true) (ws : List Jvm.Cond) (w_PENDING w_IGNORE : Addr) (cs_v : Int32) (hp : Perm Z w_PENDING w_IGNORE cs_v) (a1 : Addr) (h0 : Heap) (n0 : Nat) (O0 : Old Z n0 h0) (F_runKey_a1 : Fld Z h0 a1 "com/example/graph_job_runner/graphjobrunner/ClaimedNode" "runKey" "Ljava/lang/String;" .null) :
    MetFree l y12 (head1 (Jvm.Cond.code y12 prog_3_method_6_code 1 (some (.object "java/lang/String")) :: ws) ({ frames := 0, cells := 0, slots := 0, locals := 0 } : Room)) (fun a U => a = #[(.ref a1)] ∧ Z.Warmed39 U.vm ∧ U.heap = h0) (fun _ _ _ _ _ => True) (fun _ U o U' => ∃ v L, o = .returned v ∧ Q23 Z w_PENDING w_IGNORE cs_v a1 h0 n0 v U'.heap L ∧ FrameEnd U o U' L ({ frames := 0, cells := 0, slots := 0, locals := 0 } : Room).cells ({ frames := 0, cells := 0, slots := 0, locals := 0 } : Room).slots) := by
  refine MetFree.of_bodySF (plainFor_of_name pn_12) hisR ?_
  intro p e s m args below meth c s₁ Bd hml0 hP hK
  obtain ⟨rfl, hZ, hh⟩ := hP
  have hx := Bd.exec
  have hby := Bd.bytes
  have hml : c.maxLocals = 1 := hml0
  have hown : s.vm.findClass "com/example/graph_job_runner/graphjobrunner/ClaimedNode" = some m.cls := findClass_of_methodNamed Bd.named
  have hnm := (name_of_methodNamed Bd.named Bd.method).1
  have X0 : Stand p l e ({ frames := 0, cells := 0, slots := 0, locals := 0 } : Room) s m #[(.ref a1)] below meth c s₁ [] 0 0 := Stand.of_body Bd
  have e0 : s₁.heap = h0 := by rw [← hh, Bd.state]; rfl
  have N0 := Fr.nil n0
  have hp' := hp
  obtain ⟨S_w_PENDING, E_w_PENDING, S_w_IGNORE, E_w_IGNORE, S_COMPACT_STRINGS, h_cs⟩ := hp'
  have pre0 : ∀ t, Steps p.tables e below (s₁.setTop (mkF m 0 #[.val (.ref a1)] [])) t → Steps p.tables e below (s₁.setTop (entryFrame m #[(.ref a1)] 1)) t := fun t k => castTop (ef_14_0 m a1) k
  obtain ⟨T1, X1, e1, st1⟩ := getF X0 hx hZ hown (host := "") (Or.inl (hw _ (List.mem_of_getElem? (i := 59) rfl))) Via.refl e0 F_runKey_a1 (g := (mkF m 1 #[.val (.ref a1)] [(.ref a1)])) rfl rfl (hb hby d14_1)
  obtain ⟨fs, hr, hrun, hended, hW, hsame⟩ := X1.leave (v := some .null) (fun h => by rw [Bd.returns] at h; cases h)
  refine ⟨_, _, pre0 _ ?_, hrun, hended, _, _, rfl, ?_, ⟨_, rfl⟩, hW, hsame.mono (by decide) (by decide)⟩
  · show Sp p e below s₁ (mkF m 0 #[.val (.ref a1)] []) _
    refine XS.aloadN X0.here hx rfl (hb hby d14_0) rfl rfl ?_
    show Sp p e below s₁ (mkF m 1 #[.val (.ref a1)] [(.ref a1)]) _
    refine st1 _ ?_
    show Sp p e below T1 (mkF m 4 #[.val (.ref a1)] [.null]) _
    jvm_step X1.here [X1.here.top, hx, (hb hby d14_4), X1.method', Bd.returns, Value.isRef, FieldType.isReference]
    first | (intro acts; rw [hr _ acts rfl rfl rfl]) | rw [hr _ _ rfl rfl rfl]
    exact Steps.refl _
  · show Q23 Z w_PENDING w_IGNORE cs_v a1 h0 n0 _ T1.heap _
    rw [e1]
    exact ⟨rfl, N0, rfl⟩
set_option maxRecDepth 65536 in
set_option maxHeartbeats 40000000 in
theorem rm24 (l : Launch) (Z : State) (a0 : Array Value) (hw : ∀ d ∈ tables_1, d.before a0 Z = true) (ws : List Jvm.Cond) (w_PENDING w_IGNORE : Addr) (cs_v : Int32) (hp : Perm Z w_PENDING w_IGNORE cs_v) (p0 : Int64) (p1 : Int64) (p2 : Int32) (p3 : Int32) (p4 : Int32) (p5 : Int32) (h0 : Heap) (n0 : Nat) (O0 : Old Z n0 h0) (hc1 : ¬ ((p5 &&& (2 : Int32)) = (0 : Int32))) (hc2 : ¬ ((p5 &&& (1 : Int32)) = (0 : Int32))) (hc3 : (p5 &&& (4 : Int32)) = (0 : Int32)) :
    MetFree l x (head1 (Jvm.Cond.code x code maxLocals ret :: ws) room_1) (fun a U => a = #[(.long p0), (.long p1), (.int p2), (.int p3), (.int p4), (.int p5)] ∧ Z.Warmed39 U.vm ∧ U.heap = h0) (fun _ _ _ _ _ => True) (fun _ U o U' => ∃ v L, o = .returned v ∧ (v = some (.int (1 : Int32)) ∧ Fr n0 L) ∧ FrameEnd U o U' L 32 128) := by
  refine MetFree.of_bodySF (plainFor_of_name pn_0) hisR ?_
  intro p e s m args below meth c s₁ Bd hml0 hP hK
  obtain ⟨rfl, hZ, hh⟩ := hP
  have hx := Bd.exec
  have hby := Bd.bytes
  have hml : c.maxLocals = 17 := hml0
  have hown : s.vm.findClass "com/example/graph_job_runner/graphjobrunner/ClaimedNodeInStreamPinLaw" = some m.cls := findClass_of_methodNamed Bd.named
  have hnm := (name_of_methodNamed Bd.named Bd.method).1
  have X0 : Stand p l e room_1 s m #[(.long p0), (.long p1), (.int p2), (.int p3), (.int p4), (.int p5)] below meth c s₁ [] 0 0 := Stand.of_body Bd
  have e0 : s₁.heap = h0 := by rw [← hh, Bd.state]; rfl
  have N0 := Fr.nil n0
  have hp' := hp
  obtain ⟨S_w_PENDING, E_w_PENDING, S_w_IGNORE, E_w_IGNORE, S_COMPACT_STRINGS, h_cs⟩ := hp'
  have pre0 : ∀ t, Steps p.tables e below (s₁.setTop (mkF m 0 #[.val (.long p0), .second, .val (.long p1), .second, .val (.int p2), .val (.int p3), .val (.int p4), .val (.int p5), .unset, .unset, .unset, .unset, .unset, .unset, .unset, .unset, .unset] [])) t → Steps p.tables e below (s₁.setTop (entryFrame m #[(.long p0), (.long p1), (.int p2), (.int p3), (.int p4), (.int p5)] maxLocals)) t := fun t k => castTop (ef_0_0 m p0 p1 p2 p3 p4 p5) k
  obtain ⟨T1, h1, k1, X1, e1, E1, A1, EA1, st1⟩ := newPE X0 hx hZ (hw _ (List.mem_of_getElem? (i := 0) rfl)) e0 (g := (mkF m 1 #[.val (.long p0), .second, .val (.long p1), .second, .val (.int p2), .val (.int p3), .val (.int p4), .val (.int p5), .unset, .unset, .unset, .unset, .unset, .unset, .unset, .unset, .unset] [(.int (2 : Int32))])) rfl (hb hby at_1) rfl (by decide) (cap := 2) (by decide) (by decide) (by decide) (by decide) (ad := "[C") (by decide)
  obtain ⟨b1, g1⟩ : ∃ z, z = h0.size := ⟨_, rfl⟩
  rw [← g1] at A1 EA1 st1
  have g_b1 : n0 ≤ b1 := Nat.le_trans (own_sz O0) (Nat.le_of_eq g1.symm)
  have sz_b1 : h0.size ≤ b1 := Nat.le_trans (Keep.refl h0 []).1 (Nat.le_of_eq g1.symm)
  have O1 := O0.ext E1
  have K1 : Keep h0 h1 [] := (Keep.refl h0 []).ext E1
  have V_b1 : Arv Z h1 b1 k1 .char (2 : Int32) [(.int (0 : Int32)), (.int (0 : Int32))] (.int (0 : Int32)) := (Arv.new A1 (by decide)).pad (pad_rep [] (.int (0 : Int32)) 2)
  obtain ⟨cl2, Ar2, q2, S2, Nn2, H2, G2⟩ := id V_b1
  have hin2 : ¬ ((0 : Int32) < 0 ∨ cl2.slots.size ≤ ((0 : Int32)).toNatClampNeg) := inb_of S2 ⟨by decide, by decide⟩
  obtain ⟨T3, h3, X3, e3, W3, st3⟩ := stC X1 hx hZ e1 Ar2 (j := (0 : Int32)) hin2 (g := (mkF m 15 #[.val (.long p0), .second, .val (.long p1), .second, .val (.int p2), .val (.int p3), .val (.int p4), .val (.int p5), .val (.ref b1), .unset, .unset, .unset, .unset, .unset, .unset, .unset, .unset] [(.int ((p4 &&& (255 : Int32)).toUInt32.toUInt16.toUInt32.toInt32)), (.int (0 : Int32)), (.ref b1)])) rfl rfl (hb hby at_15)
  have N3 := Fr.snoc X3 N0 g_b1
  have O3 := O1.wr W3 g_b1
  have K3 : Keep h0 h3 [] := K1.wr W3 (Or.inr sz_b1)
  have V_b1_3 : Arv Z h3 b1 k1 .char (2 : Int32) [(.int (nar .char ((p4 &&& (255 : Int32)).toUInt32.toUInt16.toUInt32.toInt32))), (.int (0 : Int32))] (.int (0 : Int32)) := Arv.set Ar2 q2 S2 Nn2 H2 G2 (fits_nar_char _) W3 0 rfl (Nat.le_of_ble_eq_true rfl)
  obtain ⟨cl4, Ar4, q4, S4, Nn4, H4, G4⟩ := id V_b1_3
  have hin4 : ¬ ((1 : Int32) < 0 ∨ cl4.slots.size ≤ ((1 : Int32)).toNatClampNeg) := inb_of S4 ⟨by decide, by decide⟩
  obtain ⟨T5, h5, X5, e5, W5, st5⟩ := stC X3 hx hZ e3 Ar4 (j := (1 : Int32)) hin4 (g := (mkF m 29 #[.val (.long p0), .second, .val (.long p1), .second, .val (.int p2), .val (.int p3), .val (.int p4), .val (.int p5), .val (.ref b1), .unset, .unset, .unset, .unset, .unset, .unset, .unset, .unset] [(.int ((((p4.toUInt32 >>> ((8 : Int32) &&& 31).toUInt32).toInt32) &&& (255 : Int32)).toUInt32.toUInt16.toUInt32.toInt32)), (.int (1 : Int32)), (.ref b1)])) rfl rfl (hb hby at_29)
  have N5 := Fr.snoc X5 N3 g_b1
  have O5 := O3.wr W5 g_b1
  have K5 : Keep h0 h5 [] := K3.wr W5 (Or.inr sz_b1)
  have V_b1_5 : Arv Z h5 b1 k1 .char (2 : Int32) [(.int (nar .char ((p4 &&& (255 : Int32)).toUInt32.toUInt16.toUInt32.toInt32))), (.int (nar .char ((((p4.toUInt32 >>> ((8 : Int32) &&& 31).toUInt32).toInt32) &&& (255 : Int32)).toUInt32.toUInt16.toUInt32.toInt32)))] (.int (0 : Int32)) := Arv.set Ar4 q4 S4 Nn4 H4 G4 (fits_nar_char _) W5 1 rfl (Nat.le_of_ble_eq_true rfl)
  obtain ⟨T6, h6, X6, e6, E6, A6, D6, -, st6⟩ := newO X5 hx hZ hown (hw _ (List.mem_of_getElem? (i := 1) rfl)) (hw _ (List.mem_of_getElem? (i := 2) rfl)) (hw _ (List.mem_of_getElem? (i := 3) rfl)) e5 (g := (mkF m 30 #[.val (.long p0), .second, .val (.long p1), .second, .val (.int p2), .val (.int p3), .val (.int p4), .val (.int p5), .val (.ref b1), .unset, .unset, .unset, .unset, .unset, .unset, .unset, .unset] [])) rfl (hb hby at_30) (by decide) (by decide)
  obtain ⟨b6, g6⟩ : ∃ z, z = h5.size := ⟨_, rfl⟩
  rw [← g6] at A6 D6 st6
  have g_b6 : n0 ≤ b6 := Nat.le_trans (own_sz O5) (Nat.le_of_eq g6.symm)
  have sz_b6 : h0.size ≤ b6 := Nat.le_trans K5.1 (Nat.le_of_eq g6.symm)
  have O6 := O5.ext E6
  have K6 : Keep h0 h6 [] := K5.ext E6
  have F_coder_b6 : Fld Z h6 b6 "java/lang/String" "coder" "B" (.int (0 : Int32)) := D6 (Or.inr (hw _ (List.mem_of_getElem? (i := 27) rfl))) (ty := .byte) (by decide)
  have F_value_b6 : Fld Z h6 b6 "java/lang/String" "value" "[B" .null := D6 (Or.inr (hw _ (List.mem_of_getElem? (i := 29) rfl))) (ty := (.array .byte)) (by decide)
  obtain ⟨_, _, ⟨T7, L7, k7, n7⟩, -, X7, ⟨Lc7, hQ7, l7, y7, z7⟩, st7⟩ := X6.specialBack hx (y := y4) rfl hown (mvT hZ (hw _ (List.mem_of_getElem? (i := 4) rfl))) (mvT hZ (hw _ (List.mem_of_getElem? (i := 5) rfl))) (mvT hZ (hw _ (List.mem_of_getElem? (i := 6) rfl))) (by decide) (backOf (W := 1) (rm5 l Z a0 hw [] w_PENDING w_IGNORE cs_v hp b6 b1 k1 (nar .char ((p4 &&& (255 : Int32)).toUInt32.toUInt16.toUInt32.toInt32)) (nar .char ((((p4.toUInt32 >>> ((8 : Int32) &&& 31).toUInt32).toInt32) &&& (255 : Int32)).toUInt32.toUInt16.toUInt32.toInt32)) h6 n0 O6 (V_b1_5.ext E6) (own_ch2 p4) (own_ch2 ((p4.toUInt32 >>> ((8 : Int32) &&& 31).toUInt32).toInt32)) (((EA1.wr W3).wr W5).ext E6) A6 F_coder_b6 F_value_b6 g_b6) hZ (hw _ (List.mem_of_getElem? (i := 6) rfl)) (hw _ (List.mem_of_getElem? (i := 3) rfl)) (by decide) (by decide)) (g := (mkF m 36 #[.val (.long p0), .second, .val (.long p1), .second, .val (.int p2), .val (.int p3), .val (.int p4), .val (.int p5), .val (.ref b1), .unset, .unset, .unset, .unset, .unset, .unset, .unset, .unset] [(.ref b1), (.ref b6), (.ref b6)])) rfl (by rw [hml]; rfl) (Steps.refl _) (a := b6) (argsL := [(.ref b1)]) (rest := [(.ref b6)]) (lenOf pd_4 rfl) rfl (by show 2 * 0 + _ ≤ _; exact Nat.le_of_eq rfl) (hb hby at_36) (fun _ _ => ⟨rfl, e6, (by decide : 2 + 1 ≤ _), (by decide : 6 + 2 ≤ _)⟩)
  dsimp only [Pt.U, Pt.locs, Pt.cells, Pt.slots] at X7 l7 y7 z7 st7 hQ7
  subst l7 y7 z7
  obtain ⟨b7_0, kc7_0, rfl, Nq7, Kq7, sq_b7_0, fq7_0, fq7_1, fq7_2, fq7_3, fq7_4⟩ := hQ7
  have N7 := Fr.app N5 Nq7
  have g_b7_0 : n0 ≤ b7_0 := Nat.le_trans (own_sz O6) sq_b7_0
  have sz_b7_0 : h0.size ≤ b7_0 := Nat.le_trans K6.1 sq_b7_0
  have O7 := O6.keep Kq7 (allS g_b6 all0)
  have K7 : Keep h0 T7.heap [] := K6.trans Kq7 (allS (Or.inr sz_b6) all0)
  obtain ⟨_, _, ⟨T8, L8, k8, n8⟩, -, X8, ⟨Lc8, hQ8, l8, y8, z8⟩, st8⟩ := Jvm.LawKit.callS X7 hx (y := y8) hown (mvT hZ (hw _ (List.mem_of_getElem? (i := 30) rfl))) (mvT hZ (hw _ (List.mem_of_getElem? (i := 31) rfl))) (mvT hZ (hw _ (List.mem_of_getElem? (i := 3) rfl))) (mvT hZ (hw _ (List.mem_of_getElem? (i := 32) rfl))) (by decide) (backOf (W := 0) (rm9 l Z a0 hw [] w_PENDING w_IGNORE cs_v hp ((((p4.toUInt32 >>> ((16 : Int32) &&& 31).toUInt32).toInt32) &&& (255 : Int32)).toUInt32.toUInt16.toUInt32.toInt32) T7.heap n0 O7 (own_ch1 ((p4.toUInt32 >>> ((16 : Int32) &&& 31).toUInt32).toInt32))) hZ (hw _ (List.mem_of_getElem? (i := 32) rfl)) (hw _ (List.mem_of_getElem? (i := 3) rfl)) (by decide) (by decide)) (g := (mkF m 51 #[.val (.long p0), .second, .val (.long p1), .second, .val (.int p2), .val (.int p3), .val (.int p4), .val (.int p5), .val (.ref b1), .val (.ref b6), .unset, .unset, .unset, .unset, .unset, .unset, .unset] [(.int ((((p4.toUInt32 >>> ((16 : Int32) &&& 31).toUInt32).toInt32) &&& (255 : Int32)).toUInt32.toUInt16.toUInt32.toInt32))])) rfl (by rw [hml]; rfl) (argsL := [(.int ((((p4.toUInt32 >>> ((16 : Int32) &&& 31).toUInt32).toInt32) &&& (255 : Int32)).toUInt32.toUInt16.toUInt32.toInt32))]) (rest := []) (lenOf pd_8 rfl) rfl (by show 2 * 0 + _ ≤ _; exact Nat.le_of_eq rfl) (hb hby at_51) (fun _ _ => ⟨rfl, rfl, (by decide : 3 + 2 ≤ _), (by decide : 8 + 5 ≤ _)⟩)
  dsimp only [Pt.U, Pt.locs, Pt.cells, Pt.slots] at X8 l8 y8 z8 st8 hQ8
  subst l8 y8 z8
  obtain ⟨b8_0, b8_1, kc8_0, rfl, Nq8, Kq8, sq_b8_0, sq_b8_1, nq8_0, fq8_0, fq8_1, fq8_2, fq8_3, fq8_4⟩ := hQ8
  have N8 := Fr.app N7 Nq8
  have g_b8_0 : n0 ≤ b8_0 := Nat.le_trans (own_sz O7) sq_b8_0
  have sz_b8_0 : h0.size ≤ b8_0 := Nat.le_trans K7.1 sq_b8_0
  have g_b8_1 : n0 ≤ b8_1 := Nat.le_trans (own_sz O7) sq_b8_1
  have sz_b8_1 : h0.size ≤ b8_1 := Nat.le_trans K7.1 sq_b8_1
  have O8 := O7.keep Kq8 all0
  have K8 : Keep h0 T8.heap [] := K7.trans Kq8 all0
  obtain ⟨_, _, ⟨T9, L9, k9, n9⟩, -, X9, ⟨Lc9, hQ9, l9, y9, z9⟩, st9⟩ := Jvm.LawKit.callS X8 hx (y := y8) hown (mvT hZ (hw _ (List.mem_of_getElem? (i := 30) rfl))) (mvT hZ (hw _ (List.mem_of_getElem? (i := 31) rfl))) (mvT hZ (hw _ (List.mem_of_getElem? (i := 3) rfl))) (mvT hZ (hw _ (List.mem_of_getElem? (i := 32) rfl))) (by decide) (backOf (W := 0) (rm9 l Z a0 hw [] w_PENDING w_IGNORE cs_v hp ((((p4.toUInt32 >>> ((24 : Int32) &&& 31).toUInt32).toInt32) &&& (255 : Int32)).toUInt32.toUInt16.toUInt32.toInt32) T8.heap n0 O8 (own_ch1 ((p4.toUInt32 >>> ((24 : Int32) &&& 31).toUInt32).toInt32))) hZ (hw _ (List.mem_of_getElem? (i := 32) rfl)) (hw _ (List.mem_of_getElem? (i := 3) rfl)) (by decide) (by decide)) (g := (mkF m 66 #[.val (.long p0), .second, .val (.long p1), .second, .val (.int p2), .val (.int p3), .val (.int p4), .val (.int p5), .val (.ref b1), .val (.ref b6), .val (.ref b8_0), .unset, .unset, .unset, .unset, .unset, .unset] [(.int ((((p4.toUInt32 >>> ((24 : Int32) &&& 31).toUInt32).toInt32) &&& (255 : Int32)).toUInt32.toUInt16.toUInt32.toInt32))])) rfl (by rw [hml]; rfl) (argsL := [(.int ((((p4.toUInt32 >>> ((24 : Int32) &&& 31).toUInt32).toInt32) &&& (255 : Int32)).toUInt32.toUInt16.toUInt32.toInt32))]) (rest := []) (lenOf pd_8 rfl) rfl (by show 2 * 0 + _ ≤ _; exact Nat.le_of_eq rfl) (hb hby at_66) (fun _ _ => ⟨rfl, rfl, (by decide : 5 + 2 ≤ _), (by decide : 13 + 5 ≤ _)⟩)
  dsimp only [Pt.U, Pt.locs, Pt.cells, Pt.slots] at X9 l9 y9 z9 st9 hQ9
  subst l9 y9 z9
  obtain ⟨b9_0, b9_1, kc9_0, rfl, Nq9, Kq9, sq_b9_0, sq_b9_1, nq9_0, fq9_0, fq9_1, fq9_2, fq9_3, fq9_4⟩ := hQ9
  have N9 := Fr.app N8 Nq9
  have g_b9_0 : n0 ≤ b9_0 := Nat.le_trans (own_sz O8) sq_b9_0
  have sz_b9_0 : h0.size ≤ b9_0 := Nat.le_trans K8.1 sq_b9_0
  have g_b9_1 : n0 ≤ b9_1 := Nat.le_trans (own_sz O8) sq_b9_1
  have sz_b9_1 : h0.size ≤ b9_1 := Nat.le_trans K8.1 sq_b9_1
  have O9 := O8.keep Kq9 all0
  have K9 : Keep h0 T9.heap [] := K8.trans Kq9 all0
  obtain ⟨T10, X10, e10, st10⟩ := getS2 X9 hx hZ hown (host := "") (Or.inl (hw _ (List.mem_of_getElem? (i := 44) rfl))) Via.refl rfl (S_w_PENDING.ext O9.2) (g := (mkF m 78 #[.val (.long p0), .second, .val (.long p1), .second, .val (.int p2), .val (.int p3), .val (.int p4), .val (.int p5), .val (.ref b1), .val (.ref b6), .val (.ref b8_0), .val (.ref b9_0), .unset, .unset, .unset, .unset, .unset] [])) rfl (hb hby at_78)
  obtain ⟨T11, h11, k11, X11, e11, E11, A11, EA11, st11⟩ := newPE X10 hx hZ (hw _ (List.mem_of_getElem? (i := 19) rfl)) e10 (g := (mkF m 90 #[.val (.long p0), .second, .val (.long p1), .second, .val (.int p2), .val (.int p3), .val (.int p4), .val (.int p5), .val (.ref b1), .val (.ref b6), .val (.ref b8_0), .val (.ref b9_0), .val (.ref w_PENDING), .unset, .unset, .unset, .unset] [(.int (1 : Int32))])) rfl (hb hby at_90) rfl (by decide) (cap := 1) (by decide) (by decide) (by decide) (by decide) (ad := "[B") (by decide)
  obtain ⟨b11, g11⟩ : ∃ z, z = T9.heap.size := ⟨_, rfl⟩
  rw [← g11] at A11 EA11 st11
  have g_b11 : n0 ≤ b11 := Nat.le_trans (own_sz O9) (Nat.le_of_eq g11.symm)
  have sz_b11 : h0.size ≤ b11 := Nat.le_trans K9.1 (Nat.le_of_eq g11.symm)
  have O11 := O9.ext E11
  have K11 : Keep h0 h11 [] := K9.ext E11
  have V_b11 : Arv Z h11 b11 k11 .byte (1 : Int32) [(.int (0 : Int32))] (.int (0 : Int32)) := (Arv.new A11 (by decide)).pad (pad_rep [] (.int (0 : Int32)) 1)
  obtain ⟨cl12, Ar12, q12, S12, Nn12, H12, G12⟩ := id V_b11
  have hin12 : ¬ ((0 : Int32) < 0 ∨ cl12.slots.size ≤ ((0 : Int32)).toNatClampNeg) := inb_of S12 ⟨by decide, by decide⟩
  obtain ⟨T13, h13, X13, e13, W13, st13⟩ := stB X11 hx hZ e11 Ar12 (j := (0 : Int32)) hin12 (g := (mkF m 103 #[.val (.long p0), .second, .val (.long p1), .second, .val (.int p2), .val (.int p3), .val (.int p4), .val (.int p5), .val (.ref b1), .val (.ref b6), .val (.ref b8_0), .val (.ref b9_0), .val (.ref w_PENDING), .val (.ref b11), .unset, .unset, .unset] [(.int (((p5.toUInt32 >>> ((8 : Int32) &&& 31).toUInt32).toInt32).toInt8.toInt32)), (.int (0 : Int32)), (.ref b11)])) rfl rfl (hb hby at_103)
  have N13 := Fr.snoc X13 N9 g_b11
  have O13 := O11.wr W13 g_b11
  have K13 : Keep h0 h13 [] := K11.wr W13 (Or.inr sz_b11)
  have V_b11_13 : Arv Z h13 b11 k11 .byte (1 : Int32) [(.int (nar .byte (((p5.toUInt32 >>> ((8 : Int32) &&& 31).toUInt32).toInt32).toInt8.toInt32)))] (.int (0 : Int32)) := Arv.set Ar12 q12 S12 Nn12 H12 G12 (fits_nar_byte _) W13 0 rfl (Nat.le_of_ble_eq_true rfl)
  obtain ⟨T14, h14, X14, e14, E14, A14, D14, -, st14⟩ := newO X13 hx hZ hown (hw _ (List.mem_of_getElem? (i := 47) rfl)) (hw _ (List.mem_of_getElem? (i := 48) rfl)) (hw _ (List.mem_of_getElem? (i := 49) rfl)) e13 (g := (mkF m 137 #[.val (.long p0), .second, .val (.long p1), .second, .val (.int p2), .val (.int p3), .val (.int p4), .val (.int p5), .val (.ref b1), .val (.ref b6), .val (.ref b8_0), .val (.ref b9_0), .val (.ref w_PENDING), .val (.ref b11), .val (.int (1 : Int32)), .val (.int (0 : Int32)), .unset] [])) rfl (hb hby at_137) (by decide) (by decide)
  obtain ⟨b14, g14⟩ : ∃ z, z = h13.size := ⟨_, rfl⟩
  rw [← g14] at A14 D14 st14
  have g_b14 : n0 ≤ b14 := Nat.le_trans (own_sz O13) (Nat.le_of_eq g14.symm)
  have sz_b14 : h0.size ≤ b14 := Nat.le_trans K13.1 (Nat.le_of_eq g14.symm)
  have O14 := O13.ext E14
  have K14 : Keep h0 h14 [] := K13.ext E14
  have F_id_b14 : Fld Z h14 b14 "com/example/graph_job_runner/graphjobrunner/ClaimedNode" "id" "J" (.long (0 : Int64)) := D14 (Or.inr (hw _ (List.mem_of_getElem? (i := 58) rfl))) (ty := .long) (by decide)
  have F_runKey_b14 : Fld Z h14 b14 "com/example/graph_job_runner/graphjobrunner/ClaimedNode" "runKey" "Ljava/lang/String;" .null := D14 (Or.inr (hw _ (List.mem_of_getElem? (i := 60) rfl))) (ty := (.object "java/lang/String")) (by decide)
  have F_streamKey_b14 : Fld Z h14 b14 "com/example/graph_job_runner/graphjobrunner/ClaimedNode" "streamKey" "Ljava/lang/String;" .null := D14 (Or.inr (hw _ (List.mem_of_getElem? (i := 62) rfl))) (ty := (.object "java/lang/String")) (by decide)
  have F_position_b14 : Fld Z h14 b14 "com/example/graph_job_runner/graphjobrunner/ClaimedNode" "position" "J" (.long (0 : Int64)) := D14 (Or.inr (hw _ (List.mem_of_getElem? (i := 64) rfl))) (ty := .long) (by decide)
  have F_nodeKey_b14 : Fld Z h14 b14 "com/example/graph_job_runner/graphjobrunner/ClaimedNode" "nodeKey" "Ljava/lang/String;" .null := D14 (Or.inr (hw _ (List.mem_of_getElem? (i := 66) rfl))) (ty := (.object "java/lang/String")) (by decide)
  have F_processor_b14 : Fld Z h14 b14 "com/example/graph_job_runner/graphjobrunner/ClaimedNode" "processor" "Ljava/lang/String;" .null := D14 (Or.inr (hw _ (List.mem_of_getElem? (i := 68) rfl))) (ty := (.object "java/lang/String")) (by decide)
  have F_payload_b14 : Fld Z h14 b14 "com/example/graph_job_runner/graphjobrunner/ClaimedNode" "payload" "[B" .null := D14 (Or.inr (hw _ (List.mem_of_getElem? (i := 70) rfl))) (ty := (.array .byte)) (by decide)
  have F_attempt_b14 : Fld Z h14 b14 "com/example/graph_job_runner/graphjobrunner/ClaimedNode" "attempt" "I" (.int (0 : Int32)) := D14 (Or.inr (hw _ (List.mem_of_getElem? (i := 72) rfl))) (ty := .int) (by decide)
  have F_retryLimit_b14 : Fld Z h14 b14 "com/example/graph_job_runner/graphjobrunner/ClaimedNode" "retryLimit" "I" (.int (0 : Int32)) := D14 (Or.inr (hw _ (List.mem_of_getElem? (i := 74) rfl))) (ty := .int) (by decide)
  have F_failStrategy_b14 : Fld Z h14 b14 "com/example/graph_job_runner/graphjobrunner/ClaimedNode" "failStrategy" "Lcom/example/graph_job_runner/graphjobrunner/FailStrategy;" .null := D14 (Or.inr (hw _ (List.mem_of_getElem? (i := 76) rfl))) (ty := (.object "com/example/graph_job_runner/graphjobrunner/FailStrategy")) (by decide)
  have F_hasChildren_b14 : Fld Z h14 b14 "com/example/graph_job_runner/graphjobrunner/ClaimedNode" "hasChildren" "Z" (.int (0 : Int32)) := D14 (Or.inr (hw _ (List.mem_of_getElem? (i := 78) rfl))) (ty := .boolean) (by decide)
  obtain ⟨_, _, ⟨T15, L15, k15, n15⟩, -, X15, ⟨Lc15, hQ15, l15, y15, z15⟩, st15⟩ := X14.specialBack hx (y := y14) rfl hown (mvT hZ (hw _ (List.mem_of_getElem? (i := 96) rfl))) (mvT hZ (hw _ (List.mem_of_getElem? (i := 97) rfl))) (mvT hZ (hw _ (List.mem_of_getElem? (i := 98) rfl))) (by decide) (backOf (W := 1) (rm20 l Z a0 hw [] w_PENDING w_IGNORE cs_v hp b14 p0 b6 p1 b8_0 b9_0 b11 p2 p3 h14 n0 O14 A14 F_id_b14 F_runKey_b14 F_streamKey_b14 F_position_b14 F_nodeKey_b14 F_processor_b14 F_payload_b14 F_attempt_b14 F_retryLimit_b14 F_failStrategy_b14 F_hasChildren_b14 g_b14) hZ (hw _ (List.mem_of_getElem? (i := 98) rfl)) (hw _ (List.mem_of_getElem? (i := 49) rfl)) (by decide) (by decide)) (g := (mkF m 157 #[.val (.long p0), .second, .val (.long p1), .second, .val (.int p2), .val (.int p3), .val (.int p4), .val (.int p5), .val (.ref b1), .val (.ref b6), .val (.ref b8_0), .val (.ref b9_0), .val (.ref w_PENDING), .val (.ref b11), .val (.int (1 : Int32)), .val (.int (0 : Int32)), .unset] [(.ref w_PENDING), (.int p3), (.int p2), (.ref b11), (.ref b9_0), (.ref b8_0), (.long p1), (.ref b6), (.long p0), (.ref b14), (.ref b14)])) rfl (by rw [hml]; rfl) (Steps.refl _) (a := b14) (argsL := [(.long p0), (.ref b6), (.long p1), (.ref b8_0), (.ref b9_0), (.ref b11), (.int p2), (.int p3), (.ref w_PENDING)]) (rest := [(.ref b14)]) (lenOf pd_13 rfl) rfl (by show 2 * 0 + _ ≤ _; exact Nat.le_of_eq rfl) (hb hby at_157) (fun _ _ => ⟨rfl, e14, (by decide : 9 + 0 ≤ _), (by decide : 30 + 0 ≤ _)⟩)
  dsimp only [Pt.U, Pt.locs, Pt.cells, Pt.slots] at X15 l15 y15 z15 st15 hQ15
  subst l15 y15 z15
  obtain ⟨rfl, Nq15, Kq15, fq15_0, fq15_1, fq15_2, fq15_3, fq15_4, fq15_5, fq15_6, fq15_7, fq15_8, fq15_9, fq15_10, fq15_11⟩ := hQ15
  have N15 := Fr.app N13 Nq15
  have O15 := O14.keep Kq15 (allS g_b14 all0)
  have K15 : Keep h0 T15.heap [] := K14.trans Kq15 (allS (Or.inr sz_b14) all0)
  obtain ⟨cq16, kq16, q16a, q16b, q16c⟩ := isOf hZ rfl fq15_0
  obtain ⟨_, _, ⟨T16, L16, k16, n16⟩, -, X16, ⟨Lc16, hQ16, l16, y16, z16⟩, st16⟩ := X15.virtualBack hx (y := y11) (z := y11) hown (mvT hZ (hw _ (List.mem_of_getElem? (i := 79) rfl))) (mvT hZ (hw _ (List.mem_of_getElem? (i := 80) rfl))) (notFace_of_selects (args := #[]) (mvT hZ (hw _ (List.mem_of_getElem? (i := 82) rfl)))) (mvT hZ (hw _ (List.mem_of_getElem? (i := 82) rfl))) (mvT hZ (hw _ (List.mem_of_getElem? (i := 81) rfl))) (by decide) (backOf (W := 0) (rm21 l Z a0 hw [] w_PENDING w_IGNORE cs_v hp b14 b6 T15.heap n0 O15 fq15_11) hZ (hw _ (List.mem_of_getElem? (i := 83) rfl)) (hw _ (List.mem_of_getElem? (i := 49) rfl)) (by decide) (by decide)) q16a q16c (g := (mkF m 164 #[.val (.long p0), .second, .val (.long p1), .second, .val (.int p2), .val (.int p3), .val (.int p4), .val (.int p5), .val (.ref b1), .val (.ref b6), .val (.ref b8_0), .val (.ref b9_0), .val (.ref w_PENDING), .val (.ref b11), .val (.int (1 : Int32)), .val (.int (0 : Int32)), .val (.ref b14)] [(.ref b14)])) rfl (by rw [hml]; rfl) (Steps.refl _) (argsL := []) (rest := []) (lenOf pd_11 rfl) rfl (by show 2 * 0 + _ ≤ _; exact Nat.le_of_eq rfl) (hb hby at_164) (fun _ _ => ⟨rfl, rfl, (by decide : 9 + 0 ≤ _), (by decide : 30 + 0 ≤ _)⟩)
  dsimp only [Pt.U, Pt.locs, Pt.cells, Pt.slots] at X16 l16 y16 z16 st16 hQ16
  subst l16 y16 z16
  obtain ⟨rfl, Nq16, eq16⟩ := hQ16
  have N16 := Fr.app N15 Nq16
  obtain ⟨cq17, kq17, q17a, q17b, q17c⟩ := isOf hZ eq16 fq15_0
  obtain ⟨_, _, ⟨T17, L17, k17, n17⟩, -, X17, ⟨Lc17, hQ17, l17, y17, z17⟩, st17⟩ := X16.virtualBack hx (y := y13) (z := y13) hown (mvT hZ (hw _ (List.mem_of_getElem? (i := 89) rfl))) (mvT hZ (hw _ (List.mem_of_getElem? (i := 90) rfl))) (notFace_of_selects (args := #[]) (mvT hZ (hw _ (List.mem_of_getElem? (i := 92) rfl)))) (mvT hZ (hw _ (List.mem_of_getElem? (i := 92) rfl))) (mvT hZ (hw _ (List.mem_of_getElem? (i := 91) rfl))) (by decide) (backOf (W := 0) (rm22 l Z a0 hw [] w_PENDING w_IGNORE cs_v hp b14 b6 T15.heap n0 O15 fq15_11) hZ (hw _ (List.mem_of_getElem? (i := 93) rfl)) (hw _ (List.mem_of_getElem? (i := 49) rfl)) (by decide) (by decide)) q17a q17c (g := (mkF m 172 #[.val (.long p0), .second, .val (.long p1), .second, .val (.int p2), .val (.int p3), .val (.int p4), .val (.int p5), .val (.ref b1), .val (.ref b6), .val (.ref b8_0), .val (.ref b9_0), .val (.ref w_PENDING), .val (.ref b11), .val (.int (1 : Int32)), .val (.int (0 : Int32)), .val (.ref b14)] [(.ref b14)])) rfl (by rw [hml]; rfl) (Steps.refl _) (argsL := []) (rest := []) (lenOf pd_12 rfl) rfl (by show 2 * 0 + _ ≤ _; exact Nat.le_of_eq rfl) (hb hby at_172) (fun _ _ => ⟨rfl, eq16, (by decide : 9 + 0 ≤ _), (by decide : 30 + 0 ≤ _)⟩)
  dsimp only [Pt.U, Pt.locs, Pt.cells, Pt.slots] at X17 l17 y17 z17 st17 hQ17
  subst l17 y17 z17
  obtain ⟨rfl, Nq17, eq17⟩ := hQ17
  have N17 := Fr.app N16 Nq17
  obtain ⟨cq18, kq18, q18a, q18b, q18c⟩ := isOf hZ eq17 fq15_0
  obtain ⟨_, _, ⟨T18, L18, k18, n18⟩, -, X18, ⟨Lc18, hQ18, l18, y18, z18⟩, st18⟩ := X17.virtualBack hx (y := y12) (z := y12) hown (mvT hZ (hw _ (List.mem_of_getElem? (i := 84) rfl))) (mvT hZ (hw _ (List.mem_of_getElem? (i := 85) rfl))) (notFace_of_selects (args := #[]) (mvT hZ (hw _ (List.mem_of_getElem? (i := 87) rfl)))) (mvT hZ (hw _ (List.mem_of_getElem? (i := 87) rfl))) (mvT hZ (hw _ (List.mem_of_getElem? (i := 86) rfl))) (by decide) (backOf (W := 0) (rm23 l Z a0 hw [] w_PENDING w_IGNORE cs_v hp b14 T15.heap n0 O15 fq15_10) hZ (hw _ (List.mem_of_getElem? (i := 88) rfl)) (hw _ (List.mem_of_getElem? (i := 49) rfl)) (by decide) (by decide)) q18a q18c (g := (mkF m 182 #[.val (.long p0), .second, .val (.long p1), .second, .val (.int p2), .val (.int p3), .val (.int p4), .val (.int p5), .val (.ref b1), .val (.ref b6), .val (.ref b8_0), .val (.ref b9_0), .val (.ref w_PENDING), .val (.ref b11), .val (.int (1 : Int32)), .val (.int (0 : Int32)), .val (.ref b14)] [(.ref b14)])) rfl (by rw [hml]; rfl) (Steps.refl _) (argsL := []) (rest := []) (lenOf pd_12 rfl) rfl (by show 2 * 0 + _ ≤ _; exact Nat.le_of_eq rfl) (hb hby at_182) (fun _ _ => ⟨rfl, eq17, (by decide : 9 + 0 ≤ _), (by decide : 30 + 0 ≤ _)⟩)
  dsimp only [Pt.U, Pt.locs, Pt.cells, Pt.slots] at X18 l18 y18 z18 st18 hQ18
  subst l18 y18 z18
  obtain ⟨rfl, Nq18, eq18⟩ := hQ18
  have N18 := Fr.app N17 Nq18
  obtain ⟨fs, hr, hrun, hended, hW, hsame⟩ := X18.leave (v := some (.int (1 : Int32))) (fun h => by rw [Bd.returns] at h; cases h)
  refine ⟨_, _, pre0 _ ?_, hrun, hended, _, _, rfl, ?_, ⟨_, rfl⟩, hW, hsame.mono (by decide) (by decide)⟩
  · show Sp p e below s₁ (mkF m 0 #[.val (.long p0), .second, .val (.long p1), .second, .val (.int p2), .val (.int p3), .val (.int p4), .val (.int p5), .unset, .unset, .unset, .unset, .unset, .unset, .unset, .unset, .unset] []) _
    refine XS.iconst X0.here hx rfl (hb hby at_0) ?_
    show Sp p e below s₁ (mkF m 1 #[.val (.long p0), .second, .val (.long p1), .second, .val (.int p2), .val (.int p3), .val (.int p4), .val (.int p5), .unset, .unset, .unset, .unset, .unset, .unset, .unset, .unset, .unset] [(.int (2 : Int32))]) _
    refine st1 _ ?_
    show Sp p e below T1 (mkF m 3 #[.val (.long p0), .second, .val (.long p1), .second, .val (.int p2), .val (.int p3), .val (.int p4), .val (.int p5), .unset, .unset, .unset, .unset, .unset, .unset, .unset, .unset, .unset] [(.ref b1)]) _
    refine XS.astore X1.here hx rfl (hb hby at_3) rfl rfl (l' := #[.val (.long p0), .second, .val (.long p1), .second, .val (.int p2), .val (.int p3), .val (.int p4), .val (.int p5), .val (.ref b1), .unset, .unset, .unset, .unset, .unset, .unset, .unset, .unset]) rfl ?_
    refine XS.aload X1.here hx rfl (hb hby at_5) rfl rfl ?_
    refine XS.iconst X1.here hx rfl (hb hby at_7) ?_
    refine XS.iload X1.here hx rfl (hb hby at_8) rfl ?_
    refine XS.sipush X1.here hx rfl (hb hby at_10) ?_
    show Sp p e below T1 (mkF m 13 #[.val (.long p0), .second, .val (.long p1), .second, .val (.int p2), .val (.int p3), .val (.int p4), .val (.int p5), .val (.ref b1), .unset, .unset, .unset, .unset, .unset, .unset, .unset, .unset] [(.int (255 : Int32)), (.int p4), (.int (0 : Int32)), (.ref b1)]) _
    refine XS.iand X1.here hx rfl (hb hby at_13) rfl ?_
    show Sp p e below T1 (mkF m 14 #[.val (.long p0), .second, .val (.long p1), .second, .val (.int p2), .val (.int p3), .val (.int p4), .val (.int p5), .val (.ref b1), .unset, .unset, .unset, .unset, .unset, .unset, .unset, .unset] [(.int (p4 &&& (255 : Int32))), (.int (0 : Int32)), (.ref b1)]) _
    refine XS.i2c X1.here hx rfl (hb hby at_14) rfl ?_
    show Sp p e below T1 (mkF m 15 #[.val (.long p0), .second, .val (.long p1), .second, .val (.int p2), .val (.int p3), .val (.int p4), .val (.int p5), .val (.ref b1), .unset, .unset, .unset, .unset, .unset, .unset, .unset, .unset] [(.int ((p4 &&& (255 : Int32)).toUInt32.toUInt16.toUInt32.toInt32)), (.int (0 : Int32)), (.ref b1)]) _
    refine st3 _ ?_
    show Sp p e below T3 (mkF m 16 #[.val (.long p0), .second, .val (.long p1), .second, .val (.int p2), .val (.int p3), .val (.int p4), .val (.int p5), .val (.ref b1), .unset, .unset, .unset, .unset, .unset, .unset, .unset, .unset] []) _
    refine XS.aload X3.here hx rfl (hb hby at_16) rfl rfl ?_
    refine XS.iconst X3.here hx rfl (hb hby at_18) ?_
    refine XS.iload X3.here hx rfl (hb hby at_19) rfl ?_
    refine XS.bipush X3.here hx rfl (hb hby at_21) ?_
    show Sp p e below T3 (mkF m 23 #[.val (.long p0), .second, .val (.long p1), .second, .val (.int p2), .val (.int p3), .val (.int p4), .val (.int p5), .val (.ref b1), .unset, .unset, .unset, .unset, .unset, .unset, .unset, .unset] [(.int (8 : Int32)), (.int p4), (.int (1 : Int32)), (.ref b1)]) _
    refine XS.iushr X3.here hx rfl (hb hby at_23) rfl ?_
    refine XS.sipush X3.here hx rfl (hb hby at_24) ?_
    show Sp p e below T3 (mkF m 27 #[.val (.long p0), .second, .val (.long p1), .second, .val (.int p2), .val (.int p3), .val (.int p4), .val (.int p5), .val (.ref b1), .unset, .unset, .unset, .unset, .unset, .unset, .unset, .unset] [(.int (255 : Int32)), (.int ((p4.toUInt32 >>> ((8 : Int32) &&& 31).toUInt32).toInt32)), (.int (1 : Int32)), (.ref b1)]) _
    refine XS.iand X3.here hx rfl (hb hby at_27) rfl ?_
    show Sp p e below T3 (mkF m 28 #[.val (.long p0), .second, .val (.long p1), .second, .val (.int p2), .val (.int p3), .val (.int p4), .val (.int p5), .val (.ref b1), .unset, .unset, .unset, .unset, .unset, .unset, .unset, .unset] [(.int (((p4.toUInt32 >>> ((8 : Int32) &&& 31).toUInt32).toInt32) &&& (255 : Int32))), (.int (1 : Int32)), (.ref b1)]) _
    refine XS.i2c X3.here hx rfl (hb hby at_28) rfl ?_
    show Sp p e below T3 (mkF m 29 #[.val (.long p0), .second, .val (.long p1), .second, .val (.int p2), .val (.int p3), .val (.int p4), .val (.int p5), .val (.ref b1), .unset, .unset, .unset, .unset, .unset, .unset, .unset, .unset] [(.int ((((p4.toUInt32 >>> ((8 : Int32) &&& 31).toUInt32).toInt32) &&& (255 : Int32)).toUInt32.toUInt16.toUInt32.toInt32)), (.int (1 : Int32)), (.ref b1)]) _
    refine st5 _ ?_
    show Sp p e below T5 (mkF m 30 #[.val (.long p0), .second, .val (.long p1), .second, .val (.int p2), .val (.int p3), .val (.int p4), .val (.int p5), .val (.ref b1), .unset, .unset, .unset, .unset, .unset, .unset, .unset, .unset] []) _
    refine st6 _ ?_
    show Sp p e below T6 (mkF m 33 #[.val (.long p0), .second, .val (.long p1), .second, .val (.int p2), .val (.int p3), .val (.int p4), .val (.int p5), .val (.ref b1), .unset, .unset, .unset, .unset, .unset, .unset, .unset, .unset] [(.ref b6)]) _
    refine XS.dup X6.here hx rfl (hb hby at_33) rfl rfl ?_
    refine XS.aload X6.here hx rfl (hb hby at_34) rfl rfl ?_
    show Sp p e below T6 (mkF m 36 #[.val (.long p0), .second, .val (.long p1), .second, .val (.int p2), .val (.int p3), .val (.int p4), .val (.int p5), .val (.ref b1), .unset, .unset, .unset, .unset, .unset, .unset, .unset, .unset] [(.ref b1), (.ref b6), (.ref b6)]) _
    refine st7.trans ?_
    show Sp p e below T7 (mkF m 39 #[.val (.long p0), .second, .val (.long p1), .second, .val (.int p2), .val (.int p3), .val (.int p4), .val (.int p5), .val (.ref b1), .unset, .unset, .unset, .unset, .unset, .unset, .unset, .unset] [(.ref b6)]) _
    refine XS.astore X7.here hx rfl (hb hby at_39) rfl rfl (l' := #[.val (.long p0), .second, .val (.long p1), .second, .val (.int p2), .val (.int p3), .val (.int p4), .val (.int p5), .val (.ref b1), .val (.ref b6), .unset, .unset, .unset, .unset, .unset, .unset, .unset]) rfl ?_
    refine XS.iload X7.here hx rfl (hb hby at_41) rfl ?_
    refine XS.bipush X7.here hx rfl (hb hby at_43) ?_
    show Sp p e below T7 (mkF m 45 #[.val (.long p0), .second, .val (.long p1), .second, .val (.int p2), .val (.int p3), .val (.int p4), .val (.int p5), .val (.ref b1), .val (.ref b6), .unset, .unset, .unset, .unset, .unset, .unset, .unset] [(.int (16 : Int32)), (.int p4)]) _
    refine XS.iushr X7.here hx rfl (hb hby at_45) rfl ?_
    refine XS.sipush X7.here hx rfl (hb hby at_46) ?_
    show Sp p e below T7 (mkF m 49 #[.val (.long p0), .second, .val (.long p1), .second, .val (.int p2), .val (.int p3), .val (.int p4), .val (.int p5), .val (.ref b1), .val (.ref b6), .unset, .unset, .unset, .unset, .unset, .unset, .unset] [(.int (255 : Int32)), (.int ((p4.toUInt32 >>> ((16 : Int32) &&& 31).toUInt32).toInt32))]) _
    refine XS.iand X7.here hx rfl (hb hby at_49) rfl ?_
    show Sp p e below T7 (mkF m 50 #[.val (.long p0), .second, .val (.long p1), .second, .val (.int p2), .val (.int p3), .val (.int p4), .val (.int p5), .val (.ref b1), .val (.ref b6), .unset, .unset, .unset, .unset, .unset, .unset, .unset] [(.int (((p4.toUInt32 >>> ((16 : Int32) &&& 31).toUInt32).toInt32) &&& (255 : Int32)))]) _
    refine XS.i2c X7.here hx rfl (hb hby at_50) rfl ?_
    show Sp p e below T7 (mkF m 51 #[.val (.long p0), .second, .val (.long p1), .second, .val (.int p2), .val (.int p3), .val (.int p4), .val (.int p5), .val (.ref b1), .val (.ref b6), .unset, .unset, .unset, .unset, .unset, .unset, .unset] [(.int ((((p4.toUInt32 >>> ((16 : Int32) &&& 31).toUInt32).toInt32) &&& (255 : Int32)).toUInt32.toUInt16.toUInt32.toInt32))]) _
    refine st8 _ ?_
    show Sp p e below T8 (mkF m 54 #[.val (.long p0), .second, .val (.long p1), .second, .val (.int p2), .val (.int p3), .val (.int p4), .val (.int p5), .val (.ref b1), .val (.ref b6), .unset, .unset, .unset, .unset, .unset, .unset, .unset] [(.ref b8_0)]) _
    refine XS.astore X8.here hx rfl (hb hby at_54) rfl rfl (l' := #[.val (.long p0), .second, .val (.long p1), .second, .val (.int p2), .val (.int p3), .val (.int p4), .val (.int p5), .val (.ref b1), .val (.ref b6), .val (.ref b8_0), .unset, .unset, .unset, .unset, .unset, .unset]) rfl ?_
    refine XS.iload X8.here hx rfl (hb hby at_56) rfl ?_
    refine XS.bipush X8.here hx rfl (hb hby at_58) ?_
    show Sp p e below T8 (mkF m 60 #[.val (.long p0), .second, .val (.long p1), .second, .val (.int p2), .val (.int p3), .val (.int p4), .val (.int p5), .val (.ref b1), .val (.ref b6), .val (.ref b8_0), .unset, .unset, .unset, .unset, .unset, .unset] [(.int (24 : Int32)), (.int p4)]) _
    refine XS.iushr X8.here hx rfl (hb hby at_60) rfl ?_
    refine XS.sipush X8.here hx rfl (hb hby at_61) ?_
    show Sp p e below T8 (mkF m 64 #[.val (.long p0), .second, .val (.long p1), .second, .val (.int p2), .val (.int p3), .val (.int p4), .val (.int p5), .val (.ref b1), .val (.ref b6), .val (.ref b8_0), .unset, .unset, .unset, .unset, .unset, .unset] [(.int (255 : Int32)), (.int ((p4.toUInt32 >>> ((24 : Int32) &&& 31).toUInt32).toInt32))]) _
    refine XS.iand X8.here hx rfl (hb hby at_64) rfl ?_
    show Sp p e below T8 (mkF m 65 #[.val (.long p0), .second, .val (.long p1), .second, .val (.int p2), .val (.int p3), .val (.int p4), .val (.int p5), .val (.ref b1), .val (.ref b6), .val (.ref b8_0), .unset, .unset, .unset, .unset, .unset, .unset] [(.int (((p4.toUInt32 >>> ((24 : Int32) &&& 31).toUInt32).toInt32) &&& (255 : Int32)))]) _
    refine XS.i2c X8.here hx rfl (hb hby at_65) rfl ?_
    show Sp p e below T8 (mkF m 66 #[.val (.long p0), .second, .val (.long p1), .second, .val (.int p2), .val (.int p3), .val (.int p4), .val (.int p5), .val (.ref b1), .val (.ref b6), .val (.ref b8_0), .unset, .unset, .unset, .unset, .unset, .unset] [(.int ((((p4.toUInt32 >>> ((24 : Int32) &&& 31).toUInt32).toInt32) &&& (255 : Int32)).toUInt32.toUInt16.toUInt32.toInt32))]) _
    refine st9 _ ?_
    show Sp p e below T9 (mkF m 69 #[.val (.long p0), .second, .val (.long p1), .second, .val (.int p2), .val (.int p3), .val (.int p4), .val (.int p5), .val (.ref b1), .val (.ref b6), .val (.ref b8_0), .unset, .unset, .unset, .unset, .unset, .unset] [(.ref b9_0)]) _
    refine XS.astore X9.here hx rfl (hb hby at_69) rfl rfl (l' := #[.val (.long p0), .second, .val (.long p1), .second, .val (.int p2), .val (.int p3), .val (.int p4), .val (.int p5), .val (.ref b1), .val (.ref b6), .val (.ref b8_0), .val (.ref b9_0), .unset, .unset, .unset, .unset, .unset]) rfl ?_
    refine XS.iload X9.here hx rfl (hb hby at_71) rfl ?_
    refine XS.iconst X9.here hx rfl (hb hby at_73) ?_
    show Sp p e below T9 (mkF m 74 #[.val (.long p0), .second, .val (.long p1), .second, .val (.int p2), .val (.int p3), .val (.int p4), .val (.int p5), .val (.ref b1), .val (.ref b6), .val (.ref b8_0), .val (.ref b9_0), .unset, .unset, .unset, .unset, .unset] [(.int (2 : Int32)), (.int p5)]) _
    refine XS.iand X9.here hx rfl (hb hby at_74) rfl ?_
    show Sp p e below T9 (mkF m 75 #[.val (.long p0), .second, .val (.long p1), .second, .val (.int p2), .val (.int p3), .val (.int p4), .val (.int p5), .val (.ref b1), .val (.ref b6), .val (.ref b8_0), .val (.ref b9_0), .unset, .unset, .unset, .unset, .unset] [(.int (p5 &&& (2 : Int32)))]) _
    refine XS.ifNo X9.here hx rfl (hb hby at_75) rfl ((if0 _ _).trans (feq hc1).1) ?_
    show Sp p e below T9 (mkF m 78 #[.val (.long p0), .second, .val (.long p1), .second, .val (.int p2), .val (.int p3), .val (.int p4), .val (.int p5), .val (.ref b1), .val (.ref b6), .val (.ref b8_0), .val (.ref b9_0), .unset, .unset, .unset, .unset, .unset] []) _
    refine st10 _ ?_
    show Sp p e below T10 (mkF m 81 #[.val (.long p0), .second, .val (.long p1), .second, .val (.int p2), .val (.int p3), .val (.int p4), .val (.int p5), .val (.ref b1), .val (.ref b6), .val (.ref b8_0), .val (.ref b9_0), .unset, .unset, .unset, .unset, .unset] [(.ref w_PENDING)]) _
    refine XS.goto X10.here hx rfl (pc0 := 81) (pc' := 87) rfl (hb hby at_81) (by decide) (by decide) ?_
    show Sp p e below T10 (mkF m 87 #[.val (.long p0), .second, .val (.long p1), .second, .val (.int p2), .val (.int p3), .val (.int p4), .val (.int p5), .val (.ref b1), .val (.ref b6), .val (.ref b8_0), .val (.ref b9_0), .unset, .unset, .unset, .unset, .unset] [(.ref w_PENDING)]) _
    refine XS.astore X10.here hx rfl (hb hby at_87) rfl rfl (l' := #[.val (.long p0), .second, .val (.long p1), .second, .val (.int p2), .val (.int p3), .val (.int p4), .val (.int p5), .val (.ref b1), .val (.ref b6), .val (.ref b8_0), .val (.ref b9_0), .val (.ref w_PENDING), .unset, .unset, .unset, .unset]) rfl ?_
    refine XS.iconst X10.here hx rfl (hb hby at_89) ?_
    show Sp p e below T10 (mkF m 90 #[.val (.long p0), .second, .val (.long p1), .second, .val (.int p2), .val (.int p3), .val (.int p4), .val (.int p5), .val (.ref b1), .val (.ref b6), .val (.ref b8_0), .val (.ref b9_0), .val (.ref w_PENDING), .unset, .unset, .unset, .unset] [(.int (1 : Int32))]) _
    refine st11 _ ?_
    show Sp p e below T11 (mkF m 92 #[.val (.long p0), .second, .val (.long p1), .second, .val (.int p2), .val (.int p3), .val (.int p4), .val (.int p5), .val (.ref b1), .val (.ref b6), .val (.ref b8_0), .val (.ref b9_0), .val (.ref w_PENDING), .unset, .unset, .unset, .unset] [(.ref b11)]) _
    refine XS.astore X11.here hx rfl (hb hby at_92) rfl rfl (l' := #[.val (.long p0), .second, .val (.long p1), .second, .val (.int p2), .val (.int p3), .val (.int p4), .val (.int p5), .val (.ref b1), .val (.ref b6), .val (.ref b8_0), .val (.ref b9_0), .val (.ref w_PENDING), .val (.ref b11), .unset, .unset, .unset]) rfl ?_
    refine XS.aload X11.here hx rfl (hb hby at_94) rfl rfl ?_
    refine XS.iconst X11.here hx rfl (hb hby at_96) ?_
    refine XS.iload X11.here hx rfl (hb hby at_97) rfl ?_
    refine XS.bipush X11.here hx rfl (hb hby at_99) ?_
    show Sp p e below T11 (mkF m 101 #[.val (.long p0), .second, .val (.long p1), .second, .val (.int p2), .val (.int p3), .val (.int p4), .val (.int p5), .val (.ref b1), .val (.ref b6), .val (.ref b8_0), .val (.ref b9_0), .val (.ref w_PENDING), .val (.ref b11), .unset, .unset, .unset] [(.int (8 : Int32)), (.int p5), (.int (0 : Int32)), (.ref b11)]) _
    refine XS.iushr X11.here hx rfl (hb hby at_101) rfl ?_
    show Sp p e below T11 (mkF m 102 #[.val (.long p0), .second, .val (.long p1), .second, .val (.int p2), .val (.int p3), .val (.int p4), .val (.int p5), .val (.ref b1), .val (.ref b6), .val (.ref b8_0), .val (.ref b9_0), .val (.ref w_PENDING), .val (.ref b11), .unset, .unset, .unset] [(.int ((p5.toUInt32 >>> ((8 : Int32) &&& 31).toUInt32).toInt32)), (.int (0 : Int32)), (.ref b11)]) _
    refine XS.i2b X11.here hx rfl (hb hby at_102) rfl ?_
    show Sp p e below T11 (mkF m 103 #[.val (.long p0), .second, .val (.long p1), .second, .val (.int p2), .val (.int p3), .val (.int p4), .val (.int p5), .val (.ref b1), .val (.ref b6), .val (.ref b8_0), .val (.ref b9_0), .val (.ref w_PENDING), .val (.ref b11), .unset, .unset, .unset] [(.int (((p5.toUInt32 >>> ((8 : Int32) &&& 31).toUInt32).toInt32).toInt8.toInt32)), (.int (0 : Int32)), (.ref b11)]) _
    refine st13 _ ?_
    show Sp p e below T13 (mkF m 104 #[.val (.long p0), .second, .val (.long p1), .second, .val (.int p2), .val (.int p3), .val (.int p4), .val (.int p5), .val (.ref b1), .val (.ref b6), .val (.ref b8_0), .val (.ref b9_0), .val (.ref w_PENDING), .val (.ref b11), .unset, .unset, .unset] []) _
    refine XS.iload X13.here hx rfl (hb hby at_104) rfl ?_
    refine XS.iconst X13.here hx rfl (hb hby at_106) ?_
    show Sp p e below T13 (mkF m 107 #[.val (.long p0), .second, .val (.long p1), .second, .val (.int p2), .val (.int p3), .val (.int p4), .val (.int p5), .val (.ref b1), .val (.ref b6), .val (.ref b8_0), .val (.ref b9_0), .val (.ref w_PENDING), .val (.ref b11), .unset, .unset, .unset] [(.int (1 : Int32)), (.int p5)]) _
    refine XS.iand X13.here hx rfl (hb hby at_107) rfl ?_
    show Sp p e below T13 (mkF m 108 #[.val (.long p0), .second, .val (.long p1), .second, .val (.int p2), .val (.int p3), .val (.int p4), .val (.int p5), .val (.ref b1), .val (.ref b6), .val (.ref b8_0), .val (.ref b9_0), .val (.ref w_PENDING), .val (.ref b11), .unset, .unset, .unset] [(.int (p5 &&& (1 : Int32)))]) _
    refine XS.ifNo X13.here hx rfl (hb hby at_108) rfl ((if0 _ _).trans (feq hc2).1) ?_
    refine XS.iconst X13.here hx rfl (hb hby at_111) ?_
    show Sp p e below T13 (mkF m 112 #[.val (.long p0), .second, .val (.long p1), .second, .val (.int p2), .val (.int p3), .val (.int p4), .val (.int p5), .val (.ref b1), .val (.ref b6), .val (.ref b8_0), .val (.ref b9_0), .val (.ref w_PENDING), .val (.ref b11), .unset, .unset, .unset] [(.int (1 : Int32))]) _
    refine XS.goto X13.here hx rfl (pc0 := 112) (pc' := 116) rfl (hb hby at_112) (by decide) (by decide) ?_
    show Sp p e below T13 (mkF m 116 #[.val (.long p0), .second, .val (.long p1), .second, .val (.int p2), .val (.int p3), .val (.int p4), .val (.int p5), .val (.ref b1), .val (.ref b6), .val (.ref b8_0), .val (.ref b9_0), .val (.ref w_PENDING), .val (.ref b11), .unset, .unset, .unset] [(.int (1 : Int32))]) _
    refine XS.istore X13.here hx rfl (hb hby at_116) rfl (l' := #[.val (.long p0), .second, .val (.long p1), .second, .val (.int p2), .val (.int p3), .val (.int p4), .val (.int p5), .val (.ref b1), .val (.ref b6), .val (.ref b8_0), .val (.ref b9_0), .val (.ref w_PENDING), .val (.ref b11), .val (.int (1 : Int32)), .unset, .unset]) rfl ?_
    refine XS.iload X13.here hx rfl (hb hby at_118) rfl ?_
    refine XS.iconst X13.here hx rfl (hb hby at_120) ?_
    show Sp p e below T13 (mkF m 121 #[.val (.long p0), .second, .val (.long p1), .second, .val (.int p2), .val (.int p3), .val (.int p4), .val (.int p5), .val (.ref b1), .val (.ref b6), .val (.ref b8_0), .val (.ref b9_0), .val (.ref w_PENDING), .val (.ref b11), .val (.int (1 : Int32)), .unset, .unset] [(.int (4 : Int32)), (.int p5)]) _
    refine XS.iand X13.here hx rfl (hb hby at_121) rfl ?_
    show Sp p e below T13 (mkF m 122 #[.val (.long p0), .second, .val (.long p1), .second, .val (.int p2), .val (.int p3), .val (.int p4), .val (.int p5), .val (.ref b1), .val (.ref b6), .val (.ref b8_0), .val (.ref b9_0), .val (.ref w_PENDING), .val (.ref b11), .val (.int (1 : Int32)), .unset, .unset] [(.int (p5 &&& (4 : Int32)))]) _
    refine XS.ifYes X13.here hx rfl (pc0 := 122) (pc' := 129) rfl (hb hby at_122) rfl ((if0 _ _).trans (teq hc3).1) (by decide) (by decide) ?_
    refine XS.iconst X13.here hx rfl (hb hby at_129) ?_
    show Sp p e below T13 (mkF m 130 #[.val (.long p0), .second, .val (.long p1), .second, .val (.int p2), .val (.int p3), .val (.int p4), .val (.int p5), .val (.ref b1), .val (.ref b6), .val (.ref b8_0), .val (.ref b9_0), .val (.ref w_PENDING), .val (.ref b11), .val (.int (1 : Int32)), .unset, .unset] [(.int (0 : Int32))]) _
    refine XS.istore X13.here hx rfl (hb hby at_130) rfl (l' := #[.val (.long p0), .second, .val (.long p1), .second, .val (.int p2), .val (.int p3), .val (.int p4), .val (.int p5), .val (.ref b1), .val (.ref b6), .val (.ref b8_0), .val (.ref b9_0), .val (.ref w_PENDING), .val (.ref b11), .val (.int (1 : Int32)), .val (.int (0 : Int32)), .unset]) rfl ?_
    refine XS.iload X13.here hx rfl (hb hby at_132) rfl ?_
    show Sp p e below T13 (mkF m 134 #[.val (.long p0), .second, .val (.long p1), .second, .val (.int p2), .val (.int p3), .val (.int p4), .val (.int p5), .val (.ref b1), .val (.ref b6), .val (.ref b8_0), .val (.ref b9_0), .val (.ref w_PENDING), .val (.ref b11), .val (.int (1 : Int32)), .val (.int (0 : Int32)), .unset] [(.int (1 : Int32))]) _
    refine XS.ifNo X13.here hx rfl (hb hby at_134) rfl ((if0 _ _).trans (feq (by decide : ¬ ((1 : Int32) = (0 : Int32)))).1) ?_
    show Sp p e below T13 (mkF m 137 #[.val (.long p0), .second, .val (.long p1), .second, .val (.int p2), .val (.int p3), .val (.int p4), .val (.int p5), .val (.ref b1), .val (.ref b6), .val (.ref b8_0), .val (.ref b9_0), .val (.ref w_PENDING), .val (.ref b11), .val (.int (1 : Int32)), .val (.int (0 : Int32)), .unset] []) _
    refine st14 _ ?_
    show Sp p e below T14 (mkF m 140 #[.val (.long p0), .second, .val (.long p1), .second, .val (.int p2), .val (.int p3), .val (.int p4), .val (.int p5), .val (.ref b1), .val (.ref b6), .val (.ref b8_0), .val (.ref b9_0), .val (.ref w_PENDING), .val (.ref b11), .val (.int (1 : Int32)), .val (.int (0 : Int32)), .unset] [(.ref b14)]) _
    refine XS.dup X14.here hx rfl (hb hby at_140) rfl rfl ?_
    refine XS.lloadN X14.here hx rfl (hb hby at_141) rfl ?_
    refine XS.aload X14.here hx rfl (hb hby at_142) rfl rfl ?_
    refine XS.lloadN X14.here hx rfl (hb hby at_144) rfl ?_
    refine XS.aload X14.here hx rfl (hb hby at_145) rfl rfl ?_
    refine XS.aload X14.here hx rfl (hb hby at_147) rfl rfl ?_
    refine XS.aload X14.here hx rfl (hb hby at_149) rfl rfl ?_
    refine XS.iload X14.here hx rfl (hb hby at_151) rfl ?_
    refine XS.iload X14.here hx rfl (hb hby at_153) rfl ?_
    refine XS.aload X14.here hx rfl (hb hby at_155) rfl rfl ?_
    show Sp p e below T14 (mkF m 157 #[.val (.long p0), .second, .val (.long p1), .second, .val (.int p2), .val (.int p3), .val (.int p4), .val (.int p5), .val (.ref b1), .val (.ref b6), .val (.ref b8_0), .val (.ref b9_0), .val (.ref w_PENDING), .val (.ref b11), .val (.int (1 : Int32)), .val (.int (0 : Int32)), .unset] [(.ref w_PENDING), (.int p3), (.int p2), (.ref b11), (.ref b9_0), (.ref b8_0), (.long p1), (.ref b6), (.long p0), (.ref b14), (.ref b14)]) _
    refine st15.trans ?_
    show Sp p e below T15 (mkF m 160 #[.val (.long p0), .second, .val (.long p1), .second, .val (.int p2), .val (.int p3), .val (.int p4), .val (.int p5), .val (.ref b1), .val (.ref b6), .val (.ref b8_0), .val (.ref b9_0), .val (.ref w_PENDING), .val (.ref b11), .val (.int (1 : Int32)), .val (.int (0 : Int32)), .unset] [(.ref b14)]) _
    refine XS.astore X15.here hx rfl (hb hby at_160) rfl rfl (l' := #[.val (.long p0), .second, .val (.long p1), .second, .val (.int p2), .val (.int p3), .val (.int p4), .val (.int p5), .val (.ref b1), .val (.ref b6), .val (.ref b8_0), .val (.ref b9_0), .val (.ref w_PENDING), .val (.ref b11), .val (.int (1 : Int32)), .val (.int (0 : Int32)), .val (.ref b14)]) rfl ?_
    refine XS.aload X15.here hx rfl (hb hby at_162) rfl rfl ?_
    show Sp p e below T15 (mkF m 164 #[.val (.long p0), .second, .val (.long p1), .second, .val (.int p2), .val (.int p3), .val (.int p4), .val (.int p5), .val (.ref b1), .val (.ref b6), .val (.ref b8_0), .val (.ref b9_0), .val (.ref w_PENDING), .val (.ref b11), .val (.int (1 : Int32)), .val (.int (0 : Int32)), .val (.ref b14)] [(.ref b14)]) _
    refine st16.trans ?_
    show Sp p e below T16 (mkF m 167 #[.val (.long p0), .second, .val (.long p1), .second, .val (.int p2), .val (.int p3), .val (.int p4), .val (.int p5), .val (.ref b1), .val (.ref b6), .val (.ref b8_0), .val (.ref b9_0), .val (.ref w_PENDING), .val (.ref b11), .val (.int (1 : Int32)), .val (.int (0 : Int32)), .val (.ref b14)] [(.int (1 : Int32))]) _
    refine XS.ifNo X16.here hx rfl (hb hby at_167) rfl ((if0 _ _).trans (feq (by decide : ¬ ((1 : Int32) = (0 : Int32)))).1) ?_
    refine XS.aload X16.here hx rfl (hb hby at_170) rfl rfl ?_
    show Sp p e below T16 (mkF m 172 #[.val (.long p0), .second, .val (.long p1), .second, .val (.int p2), .val (.int p3), .val (.int p4), .val (.int p5), .val (.ref b1), .val (.ref b6), .val (.ref b8_0), .val (.ref b9_0), .val (.ref w_PENDING), .val (.ref b11), .val (.int (1 : Int32)), .val (.int (0 : Int32)), .val (.ref b14)] [(.ref b14)]) _
    refine st17.trans ?_
    show Sp p e below T17 (mkF m 175 #[.val (.long p0), .second, .val (.long p1), .second, .val (.int p2), .val (.int p3), .val (.int p4), .val (.int p5), .val (.ref b1), .val (.ref b6), .val (.ref b8_0), .val (.ref b9_0), .val (.ref w_PENDING), .val (.ref b11), .val (.int (1 : Int32)), .val (.int (0 : Int32)), .val (.ref b14)] [(.ref b6)]) _
    refine XS.aload X17.here hx rfl (hb hby at_175) rfl rfl ?_
    show Sp p e below T17 (mkF m 177 #[.val (.long p0), .second, .val (.long p1), .second, .val (.int p2), .val (.int p3), .val (.int p4), .val (.int p5), .val (.ref b1), .val (.ref b6), .val (.ref b8_0), .val (.ref b9_0), .val (.ref w_PENDING), .val (.ref b11), .val (.int (1 : Int32)), .val (.int (0 : Int32)), .val (.ref b14)] [(.ref b6), (.ref b6)]) _
    refine Jvm.RoadKit.acmp (g := (mkF m 177 #[.val (.long p0), .second, .val (.long p1), .second, .val (.int p2), .val (.int p3), .val (.int p4), .val (.int p5), .val (.ref b1), .val (.ref b6), .val (.ref b8_0), .val (.ref b9_0), .val (.ref w_PENDING), .val (.ref b11), .val (.int (1 : Int32)), .val (.int (0 : Int32)), .val (.ref b14)] [(.ref b6), (.ref b6)])) X17 hx rfl rfl rfl (pc0 := 177) (pc' := 180) (same := true) rfl (hb hby at_177) rfl (decide_eq_true rfl) (by decide) (by decide) ?_
    show Sp p e below T17 (mkF m 180 #[.val (.long p0), .second, .val (.long p1), .second, .val (.int p2), .val (.int p3), .val (.int p4), .val (.int p5), .val (.ref b1), .val (.ref b6), .val (.ref b8_0), .val (.ref b9_0), .val (.ref w_PENDING), .val (.ref b11), .val (.int (1 : Int32)), .val (.int (0 : Int32)), .val (.ref b14)] []) _
    refine XS.aload X17.here hx rfl (hb hby at_180) rfl rfl ?_
    show Sp p e below T17 (mkF m 182 #[.val (.long p0), .second, .val (.long p1), .second, .val (.int p2), .val (.int p3), .val (.int p4), .val (.int p5), .val (.ref b1), .val (.ref b6), .val (.ref b8_0), .val (.ref b9_0), .val (.ref w_PENDING), .val (.ref b11), .val (.int (1 : Int32)), .val (.int (0 : Int32)), .val (.ref b14)] [(.ref b14)]) _
    refine st18.trans ?_
    show Sp p e below T18 (mkF m 185 #[.val (.long p0), .second, .val (.long p1), .second, .val (.int p2), .val (.int p3), .val (.int p4), .val (.int p5), .val (.ref b1), .val (.ref b6), .val (.ref b8_0), .val (.ref b9_0), .val (.ref w_PENDING), .val (.ref b11), .val (.int (1 : Int32)), .val (.int (0 : Int32)), .val (.ref b14)] [.null]) _
    refine XS.ifnonnullNo X18.here hx rfl (hb hby at_185) rfl ?_
    refine XS.iconst X18.here hx rfl (hb hby at_188) ?_
    show Sp p e below T18 (mkF m 189 #[.val (.long p0), .second, .val (.long p1), .second, .val (.int p2), .val (.int p3), .val (.int p4), .val (.int p5), .val (.ref b1), .val (.ref b6), .val (.ref b8_0), .val (.ref b9_0), .val (.ref w_PENDING), .val (.ref b11), .val (.int (1 : Int32)), .val (.int (0 : Int32)), .val (.ref b14)] [(.int (1 : Int32))]) _
    refine XS.goto X18.here hx rfl (pc0 := 189) (pc' := 193) rfl (hb hby at_189) (by decide) (by decide) ?_
    show Sp p e below T18 (mkF m 193 #[.val (.long p0), .second, .val (.long p1), .second, .val (.int p2), .val (.int p3), .val (.int p4), .val (.int p5), .val (.ref b1), .val (.ref b6), .val (.ref b8_0), .val (.ref b9_0), .val (.ref w_PENDING), .val (.ref b11), .val (.int (1 : Int32)), .val (.int (0 : Int32)), .val (.ref b14)] [(.int (1 : Int32))]) _
    exact retN X18 hx (t := .boolean) Bd.returns (by simp) (hb hby at_193) hr
  · skip
    exact ⟨rfl, N18⟩
set_option maxRecDepth 65536 in
set_option maxHeartbeats 40000000 in
theorem rm25 (l : Launch) (Z : State) (a0 : Array Value) (hw : ∀ d ∈ tables_1, d.before a0 Z = true) (ws : List Jvm.Cond) (w_PENDING w_IGNORE : Addr) (cs_v : Int32) (hp : Perm Z w_PENDING w_IGNORE cs_v) (p0 : Int64) (p1 : Int64) (p2 : Int32) (p3 : Int32) (p4 : Int32) (p5 : Int32) (h0 : Heap) (n0 : Nat) (O0 : Old Z n0 h0) (hc1 : ¬ ((p5 &&& (2 : Int32)) = (0 : Int32))) (hc2 : ¬ ((p5 &&& (1 : Int32)) = (0 : Int32))) (hc3 : ¬ ((p5 &&& (4 : Int32)) = (0 : Int32))) :
    MetFree l x (head1 (Jvm.Cond.code x code maxLocals ret :: ws) room_1) (fun a U => a = #[(.long p0), (.long p1), (.int p2), (.int p3), (.int p4), (.int p5)] ∧ Z.Warmed39 U.vm ∧ U.heap = h0) (fun _ _ _ _ _ => True) (fun _ U o U' => ∃ v L, o = .returned v ∧ (v = some (.int (1 : Int32)) ∧ Fr n0 L) ∧ FrameEnd U o U' L 32 128) := by
  refine MetFree.of_bodySF (plainFor_of_name pn_0) hisR ?_
  intro p e s m args below meth c s₁ Bd hml0 hP hK
  obtain ⟨rfl, hZ, hh⟩ := hP
  have hx := Bd.exec
  have hby := Bd.bytes
  have hml : c.maxLocals = 17 := hml0
  have hown : s.vm.findClass "com/example/graph_job_runner/graphjobrunner/ClaimedNodeInStreamPinLaw" = some m.cls := findClass_of_methodNamed Bd.named
  have hnm := (name_of_methodNamed Bd.named Bd.method).1
  have X0 : Stand p l e room_1 s m #[(.long p0), (.long p1), (.int p2), (.int p3), (.int p4), (.int p5)] below meth c s₁ [] 0 0 := Stand.of_body Bd
  have e0 : s₁.heap = h0 := by rw [← hh, Bd.state]; rfl
  have N0 := Fr.nil n0
  have hp' := hp
  obtain ⟨S_w_PENDING, E_w_PENDING, S_w_IGNORE, E_w_IGNORE, S_COMPACT_STRINGS, h_cs⟩ := hp'
  have pre0 : ∀ t, Steps p.tables e below (s₁.setTop (mkF m 0 #[.val (.long p0), .second, .val (.long p1), .second, .val (.int p2), .val (.int p3), .val (.int p4), .val (.int p5), .unset, .unset, .unset, .unset, .unset, .unset, .unset, .unset, .unset] [])) t → Steps p.tables e below (s₁.setTop (entryFrame m #[(.long p0), (.long p1), (.int p2), (.int p3), (.int p4), (.int p5)] maxLocals)) t := fun t k => castTop (ef_0_0 m p0 p1 p2 p3 p4 p5) k
  obtain ⟨T1, h1, k1, X1, e1, E1, A1, EA1, st1⟩ := newPE X0 hx hZ (hw _ (List.mem_of_getElem? (i := 0) rfl)) e0 (g := (mkF m 1 #[.val (.long p0), .second, .val (.long p1), .second, .val (.int p2), .val (.int p3), .val (.int p4), .val (.int p5), .unset, .unset, .unset, .unset, .unset, .unset, .unset, .unset, .unset] [(.int (2 : Int32))])) rfl (hb hby at_1) rfl (by decide) (cap := 2) (by decide) (by decide) (by decide) (by decide) (ad := "[C") (by decide)
  obtain ⟨b1, g1⟩ : ∃ z, z = h0.size := ⟨_, rfl⟩
  rw [← g1] at A1 EA1 st1
  have g_b1 : n0 ≤ b1 := Nat.le_trans (own_sz O0) (Nat.le_of_eq g1.symm)
  have sz_b1 : h0.size ≤ b1 := Nat.le_trans (Keep.refl h0 []).1 (Nat.le_of_eq g1.symm)
  have O1 := O0.ext E1
  have K1 : Keep h0 h1 [] := (Keep.refl h0 []).ext E1
  have V_b1 : Arv Z h1 b1 k1 .char (2 : Int32) [(.int (0 : Int32)), (.int (0 : Int32))] (.int (0 : Int32)) := (Arv.new A1 (by decide)).pad (pad_rep [] (.int (0 : Int32)) 2)
  obtain ⟨cl2, Ar2, q2, S2, Nn2, H2, G2⟩ := id V_b1
  have hin2 : ¬ ((0 : Int32) < 0 ∨ cl2.slots.size ≤ ((0 : Int32)).toNatClampNeg) := inb_of S2 ⟨by decide, by decide⟩
  obtain ⟨T3, h3, X3, e3, W3, st3⟩ := stC X1 hx hZ e1 Ar2 (j := (0 : Int32)) hin2 (g := (mkF m 15 #[.val (.long p0), .second, .val (.long p1), .second, .val (.int p2), .val (.int p3), .val (.int p4), .val (.int p5), .val (.ref b1), .unset, .unset, .unset, .unset, .unset, .unset, .unset, .unset] [(.int ((p4 &&& (255 : Int32)).toUInt32.toUInt16.toUInt32.toInt32)), (.int (0 : Int32)), (.ref b1)])) rfl rfl (hb hby at_15)
  have N3 := Fr.snoc X3 N0 g_b1
  have O3 := O1.wr W3 g_b1
  have K3 : Keep h0 h3 [] := K1.wr W3 (Or.inr sz_b1)
  have V_b1_3 : Arv Z h3 b1 k1 .char (2 : Int32) [(.int (nar .char ((p4 &&& (255 : Int32)).toUInt32.toUInt16.toUInt32.toInt32))), (.int (0 : Int32))] (.int (0 : Int32)) := Arv.set Ar2 q2 S2 Nn2 H2 G2 (fits_nar_char _) W3 0 rfl (Nat.le_of_ble_eq_true rfl)
  obtain ⟨cl4, Ar4, q4, S4, Nn4, H4, G4⟩ := id V_b1_3
  have hin4 : ¬ ((1 : Int32) < 0 ∨ cl4.slots.size ≤ ((1 : Int32)).toNatClampNeg) := inb_of S4 ⟨by decide, by decide⟩
  obtain ⟨T5, h5, X5, e5, W5, st5⟩ := stC X3 hx hZ e3 Ar4 (j := (1 : Int32)) hin4 (g := (mkF m 29 #[.val (.long p0), .second, .val (.long p1), .second, .val (.int p2), .val (.int p3), .val (.int p4), .val (.int p5), .val (.ref b1), .unset, .unset, .unset, .unset, .unset, .unset, .unset, .unset] [(.int ((((p4.toUInt32 >>> ((8 : Int32) &&& 31).toUInt32).toInt32) &&& (255 : Int32)).toUInt32.toUInt16.toUInt32.toInt32)), (.int (1 : Int32)), (.ref b1)])) rfl rfl (hb hby at_29)
  have N5 := Fr.snoc X5 N3 g_b1
  have O5 := O3.wr W5 g_b1
  have K5 : Keep h0 h5 [] := K3.wr W5 (Or.inr sz_b1)
  have V_b1_5 : Arv Z h5 b1 k1 .char (2 : Int32) [(.int (nar .char ((p4 &&& (255 : Int32)).toUInt32.toUInt16.toUInt32.toInt32))), (.int (nar .char ((((p4.toUInt32 >>> ((8 : Int32) &&& 31).toUInt32).toInt32) &&& (255 : Int32)).toUInt32.toUInt16.toUInt32.toInt32)))] (.int (0 : Int32)) := Arv.set Ar4 q4 S4 Nn4 H4 G4 (fits_nar_char _) W5 1 rfl (Nat.le_of_ble_eq_true rfl)
  obtain ⟨T6, h6, X6, e6, E6, A6, D6, -, st6⟩ := newO X5 hx hZ hown (hw _ (List.mem_of_getElem? (i := 1) rfl)) (hw _ (List.mem_of_getElem? (i := 2) rfl)) (hw _ (List.mem_of_getElem? (i := 3) rfl)) e5 (g := (mkF m 30 #[.val (.long p0), .second, .val (.long p1), .second, .val (.int p2), .val (.int p3), .val (.int p4), .val (.int p5), .val (.ref b1), .unset, .unset, .unset, .unset, .unset, .unset, .unset, .unset] [])) rfl (hb hby at_30) (by decide) (by decide)
  obtain ⟨b6, g6⟩ : ∃ z, z = h5.size := ⟨_, rfl⟩
  rw [← g6] at A6 D6 st6
  have g_b6 : n0 ≤ b6 := Nat.le_trans (own_sz O5) (Nat.le_of_eq g6.symm)
  have sz_b6 : h0.size ≤ b6 := Nat.le_trans K5.1 (Nat.le_of_eq g6.symm)
  have O6 := O5.ext E6
  have K6 : Keep h0 h6 [] := K5.ext E6
  have F_coder_b6 : Fld Z h6 b6 "java/lang/String" "coder" "B" (.int (0 : Int32)) := D6 (Or.inr (hw _ (List.mem_of_getElem? (i := 27) rfl))) (ty := .byte) (by decide)
  have F_value_b6 : Fld Z h6 b6 "java/lang/String" "value" "[B" .null := D6 (Or.inr (hw _ (List.mem_of_getElem? (i := 29) rfl))) (ty := (.array .byte)) (by decide)
  obtain ⟨_, _, ⟨T7, L7, k7, n7⟩, -, X7, ⟨Lc7, hQ7, l7, y7, z7⟩, st7⟩ := X6.specialBack hx (y := y4) rfl hown (mvT hZ (hw _ (List.mem_of_getElem? (i := 4) rfl))) (mvT hZ (hw _ (List.mem_of_getElem? (i := 5) rfl))) (mvT hZ (hw _ (List.mem_of_getElem? (i := 6) rfl))) (by decide) (backOf (W := 1) (rm5 l Z a0 hw [] w_PENDING w_IGNORE cs_v hp b6 b1 k1 (nar .char ((p4 &&& (255 : Int32)).toUInt32.toUInt16.toUInt32.toInt32)) (nar .char ((((p4.toUInt32 >>> ((8 : Int32) &&& 31).toUInt32).toInt32) &&& (255 : Int32)).toUInt32.toUInt16.toUInt32.toInt32)) h6 n0 O6 (V_b1_5.ext E6) (own_ch2 p4) (own_ch2 ((p4.toUInt32 >>> ((8 : Int32) &&& 31).toUInt32).toInt32)) (((EA1.wr W3).wr W5).ext E6) A6 F_coder_b6 F_value_b6 g_b6) hZ (hw _ (List.mem_of_getElem? (i := 6) rfl)) (hw _ (List.mem_of_getElem? (i := 3) rfl)) (by decide) (by decide)) (g := (mkF m 36 #[.val (.long p0), .second, .val (.long p1), .second, .val (.int p2), .val (.int p3), .val (.int p4), .val (.int p5), .val (.ref b1), .unset, .unset, .unset, .unset, .unset, .unset, .unset, .unset] [(.ref b1), (.ref b6), (.ref b6)])) rfl (by rw [hml]; rfl) (Steps.refl _) (a := b6) (argsL := [(.ref b1)]) (rest := [(.ref b6)]) (lenOf pd_4 rfl) rfl (by show 2 * 0 + _ ≤ _; exact Nat.le_of_eq rfl) (hb hby at_36) (fun _ _ => ⟨rfl, e6, (by decide : 2 + 1 ≤ _), (by decide : 6 + 2 ≤ _)⟩)
  dsimp only [Pt.U, Pt.locs, Pt.cells, Pt.slots] at X7 l7 y7 z7 st7 hQ7
  subst l7 y7 z7
  obtain ⟨b7_0, kc7_0, rfl, Nq7, Kq7, sq_b7_0, fq7_0, fq7_1, fq7_2, fq7_3, fq7_4⟩ := hQ7
  have N7 := Fr.app N5 Nq7
  have g_b7_0 : n0 ≤ b7_0 := Nat.le_trans (own_sz O6) sq_b7_0
  have sz_b7_0 : h0.size ≤ b7_0 := Nat.le_trans K6.1 sq_b7_0
  have O7 := O6.keep Kq7 (allS g_b6 all0)
  have K7 : Keep h0 T7.heap [] := K6.trans Kq7 (allS (Or.inr sz_b6) all0)
  obtain ⟨_, _, ⟨T8, L8, k8, n8⟩, -, X8, ⟨Lc8, hQ8, l8, y8, z8⟩, st8⟩ := Jvm.LawKit.callS X7 hx (y := y8) hown (mvT hZ (hw _ (List.mem_of_getElem? (i := 30) rfl))) (mvT hZ (hw _ (List.mem_of_getElem? (i := 31) rfl))) (mvT hZ (hw _ (List.mem_of_getElem? (i := 3) rfl))) (mvT hZ (hw _ (List.mem_of_getElem? (i := 32) rfl))) (by decide) (backOf (W := 0) (rm9 l Z a0 hw [] w_PENDING w_IGNORE cs_v hp ((((p4.toUInt32 >>> ((16 : Int32) &&& 31).toUInt32).toInt32) &&& (255 : Int32)).toUInt32.toUInt16.toUInt32.toInt32) T7.heap n0 O7 (own_ch1 ((p4.toUInt32 >>> ((16 : Int32) &&& 31).toUInt32).toInt32))) hZ (hw _ (List.mem_of_getElem? (i := 32) rfl)) (hw _ (List.mem_of_getElem? (i := 3) rfl)) (by decide) (by decide)) (g := (mkF m 51 #[.val (.long p0), .second, .val (.long p1), .second, .val (.int p2), .val (.int p3), .val (.int p4), .val (.int p5), .val (.ref b1), .val (.ref b6), .unset, .unset, .unset, .unset, .unset, .unset, .unset] [(.int ((((p4.toUInt32 >>> ((16 : Int32) &&& 31).toUInt32).toInt32) &&& (255 : Int32)).toUInt32.toUInt16.toUInt32.toInt32))])) rfl (by rw [hml]; rfl) (argsL := [(.int ((((p4.toUInt32 >>> ((16 : Int32) &&& 31).toUInt32).toInt32) &&& (255 : Int32)).toUInt32.toUInt16.toUInt32.toInt32))]) (rest := []) (lenOf pd_8 rfl) rfl (by show 2 * 0 + _ ≤ _; exact Nat.le_of_eq rfl) (hb hby at_51) (fun _ _ => ⟨rfl, rfl, (by decide : 3 + 2 ≤ _), (by decide : 8 + 5 ≤ _)⟩)
  dsimp only [Pt.U, Pt.locs, Pt.cells, Pt.slots] at X8 l8 y8 z8 st8 hQ8
  subst l8 y8 z8
  obtain ⟨b8_0, b8_1, kc8_0, rfl, Nq8, Kq8, sq_b8_0, sq_b8_1, nq8_0, fq8_0, fq8_1, fq8_2, fq8_3, fq8_4⟩ := hQ8
  have N8 := Fr.app N7 Nq8
  have g_b8_0 : n0 ≤ b8_0 := Nat.le_trans (own_sz O7) sq_b8_0
  have sz_b8_0 : h0.size ≤ b8_0 := Nat.le_trans K7.1 sq_b8_0
  have g_b8_1 : n0 ≤ b8_1 := Nat.le_trans (own_sz O7) sq_b8_1
  have sz_b8_1 : h0.size ≤ b8_1 := Nat.le_trans K7.1 sq_b8_1
  have O8 := O7.keep Kq8 all0
  have K8 : Keep h0 T8.heap [] := K7.trans Kq8 all0
  obtain ⟨_, _, ⟨T9, L9, k9, n9⟩, -, X9, ⟨Lc9, hQ9, l9, y9, z9⟩, st9⟩ := Jvm.LawKit.callS X8 hx (y := y8) hown (mvT hZ (hw _ (List.mem_of_getElem? (i := 30) rfl))) (mvT hZ (hw _ (List.mem_of_getElem? (i := 31) rfl))) (mvT hZ (hw _ (List.mem_of_getElem? (i := 3) rfl))) (mvT hZ (hw _ (List.mem_of_getElem? (i := 32) rfl))) (by decide) (backOf (W := 0) (rm9 l Z a0 hw [] w_PENDING w_IGNORE cs_v hp ((((p4.toUInt32 >>> ((24 : Int32) &&& 31).toUInt32).toInt32) &&& (255 : Int32)).toUInt32.toUInt16.toUInt32.toInt32) T8.heap n0 O8 (own_ch1 ((p4.toUInt32 >>> ((24 : Int32) &&& 31).toUInt32).toInt32))) hZ (hw _ (List.mem_of_getElem? (i := 32) rfl)) (hw _ (List.mem_of_getElem? (i := 3) rfl)) (by decide) (by decide)) (g := (mkF m 66 #[.val (.long p0), .second, .val (.long p1), .second, .val (.int p2), .val (.int p3), .val (.int p4), .val (.int p5), .val (.ref b1), .val (.ref b6), .val (.ref b8_0), .unset, .unset, .unset, .unset, .unset, .unset] [(.int ((((p4.toUInt32 >>> ((24 : Int32) &&& 31).toUInt32).toInt32) &&& (255 : Int32)).toUInt32.toUInt16.toUInt32.toInt32))])) rfl (by rw [hml]; rfl) (argsL := [(.int ((((p4.toUInt32 >>> ((24 : Int32) &&& 31).toUInt32).toInt32) &&& (255 : Int32)).toUInt32.toUInt16.toUInt32.toInt32))]) (rest := []) (lenOf pd_8 rfl) rfl (by show 2 * 0 + _ ≤ _; exact Nat.le_of_eq rfl) (hb hby at_66) (fun _ _ => ⟨rfl, rfl, (by decide : 5 + 2 ≤ _), (by decide : 13 + 5 ≤ _)⟩)
  dsimp only [Pt.U, Pt.locs, Pt.cells, Pt.slots] at X9 l9 y9 z9 st9 hQ9
  subst l9 y9 z9
  obtain ⟨b9_0, b9_1, kc9_0, rfl, Nq9, Kq9, sq_b9_0, sq_b9_1, nq9_0, fq9_0, fq9_1, fq9_2, fq9_3, fq9_4⟩ := hQ9
  have N9 := Fr.app N8 Nq9
  have g_b9_0 : n0 ≤ b9_0 := Nat.le_trans (own_sz O8) sq_b9_0
  have sz_b9_0 : h0.size ≤ b9_0 := Nat.le_trans K8.1 sq_b9_0
  have g_b9_1 : n0 ≤ b9_1 := Nat.le_trans (own_sz O8) sq_b9_1
  have sz_b9_1 : h0.size ≤ b9_1 := Nat.le_trans K8.1 sq_b9_1
  have O9 := O8.keep Kq9 all0
  have K9 : Keep h0 T9.heap [] := K8.trans Kq9 all0
  obtain ⟨T10, X10, e10, st10⟩ := getS2 X9 hx hZ hown (host := "") (Or.inl (hw _ (List.mem_of_getElem? (i := 44) rfl))) Via.refl rfl (S_w_PENDING.ext O9.2) (g := (mkF m 78 #[.val (.long p0), .second, .val (.long p1), .second, .val (.int p2), .val (.int p3), .val (.int p4), .val (.int p5), .val (.ref b1), .val (.ref b6), .val (.ref b8_0), .val (.ref b9_0), .unset, .unset, .unset, .unset, .unset] [])) rfl (hb hby at_78)
  obtain ⟨T11, h11, k11, X11, e11, E11, A11, EA11, st11⟩ := newPE X10 hx hZ (hw _ (List.mem_of_getElem? (i := 19) rfl)) e10 (g := (mkF m 90 #[.val (.long p0), .second, .val (.long p1), .second, .val (.int p2), .val (.int p3), .val (.int p4), .val (.int p5), .val (.ref b1), .val (.ref b6), .val (.ref b8_0), .val (.ref b9_0), .val (.ref w_PENDING), .unset, .unset, .unset, .unset] [(.int (1 : Int32))])) rfl (hb hby at_90) rfl (by decide) (cap := 1) (by decide) (by decide) (by decide) (by decide) (ad := "[B") (by decide)
  obtain ⟨b11, g11⟩ : ∃ z, z = T9.heap.size := ⟨_, rfl⟩
  rw [← g11] at A11 EA11 st11
  have g_b11 : n0 ≤ b11 := Nat.le_trans (own_sz O9) (Nat.le_of_eq g11.symm)
  have sz_b11 : h0.size ≤ b11 := Nat.le_trans K9.1 (Nat.le_of_eq g11.symm)
  have O11 := O9.ext E11
  have K11 : Keep h0 h11 [] := K9.ext E11
  have V_b11 : Arv Z h11 b11 k11 .byte (1 : Int32) [(.int (0 : Int32))] (.int (0 : Int32)) := (Arv.new A11 (by decide)).pad (pad_rep [] (.int (0 : Int32)) 1)
  obtain ⟨cl12, Ar12, q12, S12, Nn12, H12, G12⟩ := id V_b11
  have hin12 : ¬ ((0 : Int32) < 0 ∨ cl12.slots.size ≤ ((0 : Int32)).toNatClampNeg) := inb_of S12 ⟨by decide, by decide⟩
  obtain ⟨T13, h13, X13, e13, W13, st13⟩ := stB X11 hx hZ e11 Ar12 (j := (0 : Int32)) hin12 (g := (mkF m 103 #[.val (.long p0), .second, .val (.long p1), .second, .val (.int p2), .val (.int p3), .val (.int p4), .val (.int p5), .val (.ref b1), .val (.ref b6), .val (.ref b8_0), .val (.ref b9_0), .val (.ref w_PENDING), .val (.ref b11), .unset, .unset, .unset] [(.int (((p5.toUInt32 >>> ((8 : Int32) &&& 31).toUInt32).toInt32).toInt8.toInt32)), (.int (0 : Int32)), (.ref b11)])) rfl rfl (hb hby at_103)
  have N13 := Fr.snoc X13 N9 g_b11
  have O13 := O11.wr W13 g_b11
  have K13 : Keep h0 h13 [] := K11.wr W13 (Or.inr sz_b11)
  have V_b11_13 : Arv Z h13 b11 k11 .byte (1 : Int32) [(.int (nar .byte (((p5.toUInt32 >>> ((8 : Int32) &&& 31).toUInt32).toInt32).toInt8.toInt32)))] (.int (0 : Int32)) := Arv.set Ar12 q12 S12 Nn12 H12 G12 (fits_nar_byte _) W13 0 rfl (Nat.le_of_ble_eq_true rfl)
  obtain ⟨T14, h14, X14, e14, E14, A14, D14, -, st14⟩ := newO X13 hx hZ hown (hw _ (List.mem_of_getElem? (i := 47) rfl)) (hw _ (List.mem_of_getElem? (i := 48) rfl)) (hw _ (List.mem_of_getElem? (i := 49) rfl)) e13 (g := (mkF m 137 #[.val (.long p0), .second, .val (.long p1), .second, .val (.int p2), .val (.int p3), .val (.int p4), .val (.int p5), .val (.ref b1), .val (.ref b6), .val (.ref b8_0), .val (.ref b9_0), .val (.ref w_PENDING), .val (.ref b11), .val (.int (1 : Int32)), .val (.int (1 : Int32)), .unset] [])) rfl (hb hby at_137) (by decide) (by decide)
  obtain ⟨b14, g14⟩ : ∃ z, z = h13.size := ⟨_, rfl⟩
  rw [← g14] at A14 D14 st14
  have g_b14 : n0 ≤ b14 := Nat.le_trans (own_sz O13) (Nat.le_of_eq g14.symm)
  have sz_b14 : h0.size ≤ b14 := Nat.le_trans K13.1 (Nat.le_of_eq g14.symm)
  have O14 := O13.ext E14
  have K14 : Keep h0 h14 [] := K13.ext E14
  have F_id_b14 : Fld Z h14 b14 "com/example/graph_job_runner/graphjobrunner/ClaimedNode" "id" "J" (.long (0 : Int64)) := D14 (Or.inr (hw _ (List.mem_of_getElem? (i := 58) rfl))) (ty := .long) (by decide)
  have F_runKey_b14 : Fld Z h14 b14 "com/example/graph_job_runner/graphjobrunner/ClaimedNode" "runKey" "Ljava/lang/String;" .null := D14 (Or.inr (hw _ (List.mem_of_getElem? (i := 60) rfl))) (ty := (.object "java/lang/String")) (by decide)
  have F_streamKey_b14 : Fld Z h14 b14 "com/example/graph_job_runner/graphjobrunner/ClaimedNode" "streamKey" "Ljava/lang/String;" .null := D14 (Or.inr (hw _ (List.mem_of_getElem? (i := 62) rfl))) (ty := (.object "java/lang/String")) (by decide)
  have F_position_b14 : Fld Z h14 b14 "com/example/graph_job_runner/graphjobrunner/ClaimedNode" "position" "J" (.long (0 : Int64)) := D14 (Or.inr (hw _ (List.mem_of_getElem? (i := 64) rfl))) (ty := .long) (by decide)
  have F_nodeKey_b14 : Fld Z h14 b14 "com/example/graph_job_runner/graphjobrunner/ClaimedNode" "nodeKey" "Ljava/lang/String;" .null := D14 (Or.inr (hw _ (List.mem_of_getElem? (i := 66) rfl))) (ty := (.object "java/lang/String")) (by decide)
  have F_processor_b14 : Fld Z h14 b14 "com/example/graph_job_runner/graphjobrunner/ClaimedNode" "processor" "Ljava/lang/String;" .null := D14 (Or.inr (hw _ (List.mem_of_getElem? (i := 68) rfl))) (ty := (.object "java/lang/String")) (by decide)
  have F_payload_b14 : Fld Z h14 b14 "com/example/graph_job_runner/graphjobrunner/ClaimedNode" "payload" "[B" .null := D14 (Or.inr (hw _ (List.mem_of_getElem? (i := 70) rfl))) (ty := (.array .byte)) (by decide)
  have F_attempt_b14 : Fld Z h14 b14 "com/example/graph_job_runner/graphjobrunner/ClaimedNode" "attempt" "I" (.int (0 : Int32)) := D14 (Or.inr (hw _ (List.mem_of_getElem? (i := 72) rfl))) (ty := .int) (by decide)
  have F_retryLimit_b14 : Fld Z h14 b14 "com/example/graph_job_runner/graphjobrunner/ClaimedNode" "retryLimit" "I" (.int (0 : Int32)) := D14 (Or.inr (hw _ (List.mem_of_getElem? (i := 74) rfl))) (ty := .int) (by decide)
  have F_failStrategy_b14 : Fld Z h14 b14 "com/example/graph_job_runner/graphjobrunner/ClaimedNode" "failStrategy" "Lcom/example/graph_job_runner/graphjobrunner/FailStrategy;" .null := D14 (Or.inr (hw _ (List.mem_of_getElem? (i := 76) rfl))) (ty := (.object "com/example/graph_job_runner/graphjobrunner/FailStrategy")) (by decide)
  have F_hasChildren_b14 : Fld Z h14 b14 "com/example/graph_job_runner/graphjobrunner/ClaimedNode" "hasChildren" "Z" (.int (0 : Int32)) := D14 (Or.inr (hw _ (List.mem_of_getElem? (i := 78) rfl))) (ty := .boolean) (by decide)
  obtain ⟨_, _, ⟨T15, L15, k15, n15⟩, -, X15, ⟨Lc15, hQ15, l15, y15, z15⟩, st15⟩ := X14.specialBack hx (y := y14) rfl hown (mvT hZ (hw _ (List.mem_of_getElem? (i := 96) rfl))) (mvT hZ (hw _ (List.mem_of_getElem? (i := 97) rfl))) (mvT hZ (hw _ (List.mem_of_getElem? (i := 98) rfl))) (by decide) (backOf (W := 1) (rm20 l Z a0 hw [] w_PENDING w_IGNORE cs_v hp b14 p0 b6 p1 b8_0 b9_0 b11 p2 p3 h14 n0 O14 A14 F_id_b14 F_runKey_b14 F_streamKey_b14 F_position_b14 F_nodeKey_b14 F_processor_b14 F_payload_b14 F_attempt_b14 F_retryLimit_b14 F_failStrategy_b14 F_hasChildren_b14 g_b14) hZ (hw _ (List.mem_of_getElem? (i := 98) rfl)) (hw _ (List.mem_of_getElem? (i := 49) rfl)) (by decide) (by decide)) (g := (mkF m 157 #[.val (.long p0), .second, .val (.long p1), .second, .val (.int p2), .val (.int p3), .val (.int p4), .val (.int p5), .val (.ref b1), .val (.ref b6), .val (.ref b8_0), .val (.ref b9_0), .val (.ref w_PENDING), .val (.ref b11), .val (.int (1 : Int32)), .val (.int (1 : Int32)), .unset] [(.ref w_PENDING), (.int p3), (.int p2), (.ref b11), (.ref b9_0), (.ref b8_0), (.long p1), (.ref b6), (.long p0), (.ref b14), (.ref b14)])) rfl (by rw [hml]; rfl) (Steps.refl _) (a := b14) (argsL := [(.long p0), (.ref b6), (.long p1), (.ref b8_0), (.ref b9_0), (.ref b11), (.int p2), (.int p3), (.ref w_PENDING)]) (rest := [(.ref b14)]) (lenOf pd_13 rfl) rfl (by show 2 * 0 + _ ≤ _; exact Nat.le_of_eq rfl) (hb hby at_157) (fun _ _ => ⟨rfl, e14, (by decide : 9 + 0 ≤ _), (by decide : 30 + 0 ≤ _)⟩)
  dsimp only [Pt.U, Pt.locs, Pt.cells, Pt.slots] at X15 l15 y15 z15 st15 hQ15
  subst l15 y15 z15
  obtain ⟨rfl, Nq15, Kq15, fq15_0, fq15_1, fq15_2, fq15_3, fq15_4, fq15_5, fq15_6, fq15_7, fq15_8, fq15_9, fq15_10, fq15_11⟩ := hQ15
  have N15 := Fr.app N13 Nq15
  have O15 := O14.keep Kq15 (allS g_b14 all0)
  have K15 : Keep h0 T15.heap [] := K14.trans Kq15 (allS (Or.inr sz_b14) all0)
  obtain ⟨cq16, kq16, q16a, q16b, q16c⟩ := isOf hZ rfl fq15_0
  obtain ⟨_, _, ⟨T16, L16, k16, n16⟩, -, X16, ⟨Lc16, hQ16, l16, y16, z16⟩, st16⟩ := X15.virtualBack hx (y := y11) (z := y11) hown (mvT hZ (hw _ (List.mem_of_getElem? (i := 79) rfl))) (mvT hZ (hw _ (List.mem_of_getElem? (i := 80) rfl))) (notFace_of_selects (args := #[]) (mvT hZ (hw _ (List.mem_of_getElem? (i := 82) rfl)))) (mvT hZ (hw _ (List.mem_of_getElem? (i := 82) rfl))) (mvT hZ (hw _ (List.mem_of_getElem? (i := 81) rfl))) (by decide) (backOf (W := 0) (rm21 l Z a0 hw [] w_PENDING w_IGNORE cs_v hp b14 b6 T15.heap n0 O15 fq15_11) hZ (hw _ (List.mem_of_getElem? (i := 83) rfl)) (hw _ (List.mem_of_getElem? (i := 49) rfl)) (by decide) (by decide)) q16a q16c (g := (mkF m 164 #[.val (.long p0), .second, .val (.long p1), .second, .val (.int p2), .val (.int p3), .val (.int p4), .val (.int p5), .val (.ref b1), .val (.ref b6), .val (.ref b8_0), .val (.ref b9_0), .val (.ref w_PENDING), .val (.ref b11), .val (.int (1 : Int32)), .val (.int (1 : Int32)), .val (.ref b14)] [(.ref b14)])) rfl (by rw [hml]; rfl) (Steps.refl _) (argsL := []) (rest := []) (lenOf pd_11 rfl) rfl (by show 2 * 0 + _ ≤ _; exact Nat.le_of_eq rfl) (hb hby at_164) (fun _ _ => ⟨rfl, rfl, (by decide : 9 + 0 ≤ _), (by decide : 30 + 0 ≤ _)⟩)
  dsimp only [Pt.U, Pt.locs, Pt.cells, Pt.slots] at X16 l16 y16 z16 st16 hQ16
  subst l16 y16 z16
  obtain ⟨rfl, Nq16, eq16⟩ := hQ16
  have N16 := Fr.app N15 Nq16
  obtain ⟨cq17, kq17, q17a, q17b, q17c⟩ := isOf hZ eq16 fq15_0
  obtain ⟨_, _, ⟨T17, L17, k17, n17⟩, -, X17, ⟨Lc17, hQ17, l17, y17, z17⟩, st17⟩ := X16.virtualBack hx (y := y13) (z := y13) hown (mvT hZ (hw _ (List.mem_of_getElem? (i := 89) rfl))) (mvT hZ (hw _ (List.mem_of_getElem? (i := 90) rfl))) (notFace_of_selects (args := #[]) (mvT hZ (hw _ (List.mem_of_getElem? (i := 92) rfl)))) (mvT hZ (hw _ (List.mem_of_getElem? (i := 92) rfl))) (mvT hZ (hw _ (List.mem_of_getElem? (i := 91) rfl))) (by decide) (backOf (W := 0) (rm22 l Z a0 hw [] w_PENDING w_IGNORE cs_v hp b14 b6 T15.heap n0 O15 fq15_11) hZ (hw _ (List.mem_of_getElem? (i := 93) rfl)) (hw _ (List.mem_of_getElem? (i := 49) rfl)) (by decide) (by decide)) q17a q17c (g := (mkF m 172 #[.val (.long p0), .second, .val (.long p1), .second, .val (.int p2), .val (.int p3), .val (.int p4), .val (.int p5), .val (.ref b1), .val (.ref b6), .val (.ref b8_0), .val (.ref b9_0), .val (.ref w_PENDING), .val (.ref b11), .val (.int (1 : Int32)), .val (.int (1 : Int32)), .val (.ref b14)] [(.ref b14)])) rfl (by rw [hml]; rfl) (Steps.refl _) (argsL := []) (rest := []) (lenOf pd_12 rfl) rfl (by show 2 * 0 + _ ≤ _; exact Nat.le_of_eq rfl) (hb hby at_172) (fun _ _ => ⟨rfl, eq16, (by decide : 9 + 0 ≤ _), (by decide : 30 + 0 ≤ _)⟩)
  dsimp only [Pt.U, Pt.locs, Pt.cells, Pt.slots] at X17 l17 y17 z17 st17 hQ17
  subst l17 y17 z17
  obtain ⟨rfl, Nq17, eq17⟩ := hQ17
  have N17 := Fr.app N16 Nq17
  obtain ⟨cq18, kq18, q18a, q18b, q18c⟩ := isOf hZ eq17 fq15_0
  obtain ⟨_, _, ⟨T18, L18, k18, n18⟩, -, X18, ⟨Lc18, hQ18, l18, y18, z18⟩, st18⟩ := X17.virtualBack hx (y := y12) (z := y12) hown (mvT hZ (hw _ (List.mem_of_getElem? (i := 84) rfl))) (mvT hZ (hw _ (List.mem_of_getElem? (i := 85) rfl))) (notFace_of_selects (args := #[]) (mvT hZ (hw _ (List.mem_of_getElem? (i := 87) rfl)))) (mvT hZ (hw _ (List.mem_of_getElem? (i := 87) rfl))) (mvT hZ (hw _ (List.mem_of_getElem? (i := 86) rfl))) (by decide) (backOf (W := 0) (rm23 l Z a0 hw [] w_PENDING w_IGNORE cs_v hp b14 T15.heap n0 O15 fq15_10) hZ (hw _ (List.mem_of_getElem? (i := 88) rfl)) (hw _ (List.mem_of_getElem? (i := 49) rfl)) (by decide) (by decide)) q18a q18c (g := (mkF m 182 #[.val (.long p0), .second, .val (.long p1), .second, .val (.int p2), .val (.int p3), .val (.int p4), .val (.int p5), .val (.ref b1), .val (.ref b6), .val (.ref b8_0), .val (.ref b9_0), .val (.ref w_PENDING), .val (.ref b11), .val (.int (1 : Int32)), .val (.int (1 : Int32)), .val (.ref b14)] [(.ref b14)])) rfl (by rw [hml]; rfl) (Steps.refl _) (argsL := []) (rest := []) (lenOf pd_12 rfl) rfl (by show 2 * 0 + _ ≤ _; exact Nat.le_of_eq rfl) (hb hby at_182) (fun _ _ => ⟨rfl, eq17, (by decide : 9 + 0 ≤ _), (by decide : 30 + 0 ≤ _)⟩)
  dsimp only [Pt.U, Pt.locs, Pt.cells, Pt.slots] at X18 l18 y18 z18 st18 hQ18
  subst l18 y18 z18
  obtain ⟨rfl, Nq18, eq18⟩ := hQ18
  have N18 := Fr.app N17 Nq18
  obtain ⟨fs, hr, hrun, hended, hW, hsame⟩ := X18.leave (v := some (.int (1 : Int32))) (fun h => by rw [Bd.returns] at h; cases h)
  refine ⟨_, _, pre0 _ ?_, hrun, hended, _, _, rfl, ?_, ⟨_, rfl⟩, hW, hsame.mono (by decide) (by decide)⟩
  · show Sp p e below s₁ (mkF m 0 #[.val (.long p0), .second, .val (.long p1), .second, .val (.int p2), .val (.int p3), .val (.int p4), .val (.int p5), .unset, .unset, .unset, .unset, .unset, .unset, .unset, .unset, .unset] []) _
    refine XS.iconst X0.here hx rfl (hb hby at_0) ?_
    show Sp p e below s₁ (mkF m 1 #[.val (.long p0), .second, .val (.long p1), .second, .val (.int p2), .val (.int p3), .val (.int p4), .val (.int p5), .unset, .unset, .unset, .unset, .unset, .unset, .unset, .unset, .unset] [(.int (2 : Int32))]) _
    refine st1 _ ?_
    show Sp p e below T1 (mkF m 3 #[.val (.long p0), .second, .val (.long p1), .second, .val (.int p2), .val (.int p3), .val (.int p4), .val (.int p5), .unset, .unset, .unset, .unset, .unset, .unset, .unset, .unset, .unset] [(.ref b1)]) _
    refine XS.astore X1.here hx rfl (hb hby at_3) rfl rfl (l' := #[.val (.long p0), .second, .val (.long p1), .second, .val (.int p2), .val (.int p3), .val (.int p4), .val (.int p5), .val (.ref b1), .unset, .unset, .unset, .unset, .unset, .unset, .unset, .unset]) rfl ?_
    refine XS.aload X1.here hx rfl (hb hby at_5) rfl rfl ?_
    refine XS.iconst X1.here hx rfl (hb hby at_7) ?_
    refine XS.iload X1.here hx rfl (hb hby at_8) rfl ?_
    refine XS.sipush X1.here hx rfl (hb hby at_10) ?_
    show Sp p e below T1 (mkF m 13 #[.val (.long p0), .second, .val (.long p1), .second, .val (.int p2), .val (.int p3), .val (.int p4), .val (.int p5), .val (.ref b1), .unset, .unset, .unset, .unset, .unset, .unset, .unset, .unset] [(.int (255 : Int32)), (.int p4), (.int (0 : Int32)), (.ref b1)]) _
    refine XS.iand X1.here hx rfl (hb hby at_13) rfl ?_
    show Sp p e below T1 (mkF m 14 #[.val (.long p0), .second, .val (.long p1), .second, .val (.int p2), .val (.int p3), .val (.int p4), .val (.int p5), .val (.ref b1), .unset, .unset, .unset, .unset, .unset, .unset, .unset, .unset] [(.int (p4 &&& (255 : Int32))), (.int (0 : Int32)), (.ref b1)]) _
    refine XS.i2c X1.here hx rfl (hb hby at_14) rfl ?_
    show Sp p e below T1 (mkF m 15 #[.val (.long p0), .second, .val (.long p1), .second, .val (.int p2), .val (.int p3), .val (.int p4), .val (.int p5), .val (.ref b1), .unset, .unset, .unset, .unset, .unset, .unset, .unset, .unset] [(.int ((p4 &&& (255 : Int32)).toUInt32.toUInt16.toUInt32.toInt32)), (.int (0 : Int32)), (.ref b1)]) _
    refine st3 _ ?_
    show Sp p e below T3 (mkF m 16 #[.val (.long p0), .second, .val (.long p1), .second, .val (.int p2), .val (.int p3), .val (.int p4), .val (.int p5), .val (.ref b1), .unset, .unset, .unset, .unset, .unset, .unset, .unset, .unset] []) _
    refine XS.aload X3.here hx rfl (hb hby at_16) rfl rfl ?_
    refine XS.iconst X3.here hx rfl (hb hby at_18) ?_
    refine XS.iload X3.here hx rfl (hb hby at_19) rfl ?_
    refine XS.bipush X3.here hx rfl (hb hby at_21) ?_
    show Sp p e below T3 (mkF m 23 #[.val (.long p0), .second, .val (.long p1), .second, .val (.int p2), .val (.int p3), .val (.int p4), .val (.int p5), .val (.ref b1), .unset, .unset, .unset, .unset, .unset, .unset, .unset, .unset] [(.int (8 : Int32)), (.int p4), (.int (1 : Int32)), (.ref b1)]) _
    refine XS.iushr X3.here hx rfl (hb hby at_23) rfl ?_
    refine XS.sipush X3.here hx rfl (hb hby at_24) ?_
    show Sp p e below T3 (mkF m 27 #[.val (.long p0), .second, .val (.long p1), .second, .val (.int p2), .val (.int p3), .val (.int p4), .val (.int p5), .val (.ref b1), .unset, .unset, .unset, .unset, .unset, .unset, .unset, .unset] [(.int (255 : Int32)), (.int ((p4.toUInt32 >>> ((8 : Int32) &&& 31).toUInt32).toInt32)), (.int (1 : Int32)), (.ref b1)]) _
    refine XS.iand X3.here hx rfl (hb hby at_27) rfl ?_
    show Sp p e below T3 (mkF m 28 #[.val (.long p0), .second, .val (.long p1), .second, .val (.int p2), .val (.int p3), .val (.int p4), .val (.int p5), .val (.ref b1), .unset, .unset, .unset, .unset, .unset, .unset, .unset, .unset] [(.int (((p4.toUInt32 >>> ((8 : Int32) &&& 31).toUInt32).toInt32) &&& (255 : Int32))), (.int (1 : Int32)), (.ref b1)]) _
    refine XS.i2c X3.here hx rfl (hb hby at_28) rfl ?_
    show Sp p e below T3 (mkF m 29 #[.val (.long p0), .second, .val (.long p1), .second, .val (.int p2), .val (.int p3), .val (.int p4), .val (.int p5), .val (.ref b1), .unset, .unset, .unset, .unset, .unset, .unset, .unset, .unset] [(.int ((((p4.toUInt32 >>> ((8 : Int32) &&& 31).toUInt32).toInt32) &&& (255 : Int32)).toUInt32.toUInt16.toUInt32.toInt32)), (.int (1 : Int32)), (.ref b1)]) _
    refine st5 _ ?_
    show Sp p e below T5 (mkF m 30 #[.val (.long p0), .second, .val (.long p1), .second, .val (.int p2), .val (.int p3), .val (.int p4), .val (.int p5), .val (.ref b1), .unset, .unset, .unset, .unset, .unset, .unset, .unset, .unset] []) _
    refine st6 _ ?_
    show Sp p e below T6 (mkF m 33 #[.val (.long p0), .second, .val (.long p1), .second, .val (.int p2), .val (.int p3), .val (.int p4), .val (.int p5), .val (.ref b1), .unset, .unset, .unset, .unset, .unset, .unset, .unset, .unset] [(.ref b6)]) _
    refine XS.dup X6.here hx rfl (hb hby at_33) rfl rfl ?_
    refine XS.aload X6.here hx rfl (hb hby at_34) rfl rfl ?_
    show Sp p e below T6 (mkF m 36 #[.val (.long p0), .second, .val (.long p1), .second, .val (.int p2), .val (.int p3), .val (.int p4), .val (.int p5), .val (.ref b1), .unset, .unset, .unset, .unset, .unset, .unset, .unset, .unset] [(.ref b1), (.ref b6), (.ref b6)]) _
    refine st7.trans ?_
    show Sp p e below T7 (mkF m 39 #[.val (.long p0), .second, .val (.long p1), .second, .val (.int p2), .val (.int p3), .val (.int p4), .val (.int p5), .val (.ref b1), .unset, .unset, .unset, .unset, .unset, .unset, .unset, .unset] [(.ref b6)]) _
    refine XS.astore X7.here hx rfl (hb hby at_39) rfl rfl (l' := #[.val (.long p0), .second, .val (.long p1), .second, .val (.int p2), .val (.int p3), .val (.int p4), .val (.int p5), .val (.ref b1), .val (.ref b6), .unset, .unset, .unset, .unset, .unset, .unset, .unset]) rfl ?_
    refine XS.iload X7.here hx rfl (hb hby at_41) rfl ?_
    refine XS.bipush X7.here hx rfl (hb hby at_43) ?_
    show Sp p e below T7 (mkF m 45 #[.val (.long p0), .second, .val (.long p1), .second, .val (.int p2), .val (.int p3), .val (.int p4), .val (.int p5), .val (.ref b1), .val (.ref b6), .unset, .unset, .unset, .unset, .unset, .unset, .unset] [(.int (16 : Int32)), (.int p4)]) _
    refine XS.iushr X7.here hx rfl (hb hby at_45) rfl ?_
    refine XS.sipush X7.here hx rfl (hb hby at_46) ?_
    show Sp p e below T7 (mkF m 49 #[.val (.long p0), .second, .val (.long p1), .second, .val (.int p2), .val (.int p3), .val (.int p4), .val (.int p5), .val (.ref b1), .val (.ref b6), .unset, .unset, .unset, .unset, .unset, .unset, .unset] [(.int (255 : Int32)), (.int ((p4.toUInt32 >>> ((16 : Int32) &&& 31).toUInt32).toInt32))]) _
    refine XS.iand X7.here hx rfl (hb hby at_49) rfl ?_
    show Sp p e below T7 (mkF m 50 #[.val (.long p0), .second, .val (.long p1), .second, .val (.int p2), .val (.int p3), .val (.int p4), .val (.int p5), .val (.ref b1), .val (.ref b6), .unset, .unset, .unset, .unset, .unset, .unset, .unset] [(.int (((p4.toUInt32 >>> ((16 : Int32) &&& 31).toUInt32).toInt32) &&& (255 : Int32)))]) _
    refine XS.i2c X7.here hx rfl (hb hby at_50) rfl ?_
    show Sp p e below T7 (mkF m 51 #[.val (.long p0), .second, .val (.long p1), .second, .val (.int p2), .val (.int p3), .val (.int p4), .val (.int p5), .val (.ref b1), .val (.ref b6), .unset, .unset, .unset, .unset, .unset, .unset, .unset] [(.int ((((p4.toUInt32 >>> ((16 : Int32) &&& 31).toUInt32).toInt32) &&& (255 : Int32)).toUInt32.toUInt16.toUInt32.toInt32))]) _
    refine st8 _ ?_
    show Sp p e below T8 (mkF m 54 #[.val (.long p0), .second, .val (.long p1), .second, .val (.int p2), .val (.int p3), .val (.int p4), .val (.int p5), .val (.ref b1), .val (.ref b6), .unset, .unset, .unset, .unset, .unset, .unset, .unset] [(.ref b8_0)]) _
    refine XS.astore X8.here hx rfl (hb hby at_54) rfl rfl (l' := #[.val (.long p0), .second, .val (.long p1), .second, .val (.int p2), .val (.int p3), .val (.int p4), .val (.int p5), .val (.ref b1), .val (.ref b6), .val (.ref b8_0), .unset, .unset, .unset, .unset, .unset, .unset]) rfl ?_
    refine XS.iload X8.here hx rfl (hb hby at_56) rfl ?_
    refine XS.bipush X8.here hx rfl (hb hby at_58) ?_
    show Sp p e below T8 (mkF m 60 #[.val (.long p0), .second, .val (.long p1), .second, .val (.int p2), .val (.int p3), .val (.int p4), .val (.int p5), .val (.ref b1), .val (.ref b6), .val (.ref b8_0), .unset, .unset, .unset, .unset, .unset, .unset] [(.int (24 : Int32)), (.int p4)]) _
    refine XS.iushr X8.here hx rfl (hb hby at_60) rfl ?_
    refine XS.sipush X8.here hx rfl (hb hby at_61) ?_
    show Sp p e below T8 (mkF m 64 #[.val (.long p0), .second, .val (.long p1), .second, .val (.int p2), .val (.int p3), .val (.int p4), .val (.int p5), .val (.ref b1), .val (.ref b6), .val (.ref b8_0), .unset, .unset, .unset, .unset, .unset, .unset] [(.int (255 : Int32)), (.int ((p4.toUInt32 >>> ((24 : Int32) &&& 31).toUInt32).toInt32))]) _
    refine XS.iand X8.here hx rfl (hb hby at_64) rfl ?_
    show Sp p e below T8 (mkF m 65 #[.val (.long p0), .second, .val (.long p1), .second, .val (.int p2), .val (.int p3), .val (.int p4), .val (.int p5), .val (.ref b1), .val (.ref b6), .val (.ref b8_0), .unset, .unset, .unset, .unset, .unset, .unset] [(.int (((p4.toUInt32 >>> ((24 : Int32) &&& 31).toUInt32).toInt32) &&& (255 : Int32)))]) _
    refine XS.i2c X8.here hx rfl (hb hby at_65) rfl ?_
    show Sp p e below T8 (mkF m 66 #[.val (.long p0), .second, .val (.long p1), .second, .val (.int p2), .val (.int p3), .val (.int p4), .val (.int p5), .val (.ref b1), .val (.ref b6), .val (.ref b8_0), .unset, .unset, .unset, .unset, .unset, .unset] [(.int ((((p4.toUInt32 >>> ((24 : Int32) &&& 31).toUInt32).toInt32) &&& (255 : Int32)).toUInt32.toUInt16.toUInt32.toInt32))]) _
    refine st9 _ ?_
    show Sp p e below T9 (mkF m 69 #[.val (.long p0), .second, .val (.long p1), .second, .val (.int p2), .val (.int p3), .val (.int p4), .val (.int p5), .val (.ref b1), .val (.ref b6), .val (.ref b8_0), .unset, .unset, .unset, .unset, .unset, .unset] [(.ref b9_0)]) _
    refine XS.astore X9.here hx rfl (hb hby at_69) rfl rfl (l' := #[.val (.long p0), .second, .val (.long p1), .second, .val (.int p2), .val (.int p3), .val (.int p4), .val (.int p5), .val (.ref b1), .val (.ref b6), .val (.ref b8_0), .val (.ref b9_0), .unset, .unset, .unset, .unset, .unset]) rfl ?_
    refine XS.iload X9.here hx rfl (hb hby at_71) rfl ?_
    refine XS.iconst X9.here hx rfl (hb hby at_73) ?_
    show Sp p e below T9 (mkF m 74 #[.val (.long p0), .second, .val (.long p1), .second, .val (.int p2), .val (.int p3), .val (.int p4), .val (.int p5), .val (.ref b1), .val (.ref b6), .val (.ref b8_0), .val (.ref b9_0), .unset, .unset, .unset, .unset, .unset] [(.int (2 : Int32)), (.int p5)]) _
    refine XS.iand X9.here hx rfl (hb hby at_74) rfl ?_
    show Sp p e below T9 (mkF m 75 #[.val (.long p0), .second, .val (.long p1), .second, .val (.int p2), .val (.int p3), .val (.int p4), .val (.int p5), .val (.ref b1), .val (.ref b6), .val (.ref b8_0), .val (.ref b9_0), .unset, .unset, .unset, .unset, .unset] [(.int (p5 &&& (2 : Int32)))]) _
    refine XS.ifNo X9.here hx rfl (hb hby at_75) rfl ((if0 _ _).trans (feq hc1).1) ?_
    show Sp p e below T9 (mkF m 78 #[.val (.long p0), .second, .val (.long p1), .second, .val (.int p2), .val (.int p3), .val (.int p4), .val (.int p5), .val (.ref b1), .val (.ref b6), .val (.ref b8_0), .val (.ref b9_0), .unset, .unset, .unset, .unset, .unset] []) _
    refine st10 _ ?_
    show Sp p e below T10 (mkF m 81 #[.val (.long p0), .second, .val (.long p1), .second, .val (.int p2), .val (.int p3), .val (.int p4), .val (.int p5), .val (.ref b1), .val (.ref b6), .val (.ref b8_0), .val (.ref b9_0), .unset, .unset, .unset, .unset, .unset] [(.ref w_PENDING)]) _
    refine XS.goto X10.here hx rfl (pc0 := 81) (pc' := 87) rfl (hb hby at_81) (by decide) (by decide) ?_
    show Sp p e below T10 (mkF m 87 #[.val (.long p0), .second, .val (.long p1), .second, .val (.int p2), .val (.int p3), .val (.int p4), .val (.int p5), .val (.ref b1), .val (.ref b6), .val (.ref b8_0), .val (.ref b9_0), .unset, .unset, .unset, .unset, .unset] [(.ref w_PENDING)]) _
    refine XS.astore X10.here hx rfl (hb hby at_87) rfl rfl (l' := #[.val (.long p0), .second, .val (.long p1), .second, .val (.int p2), .val (.int p3), .val (.int p4), .val (.int p5), .val (.ref b1), .val (.ref b6), .val (.ref b8_0), .val (.ref b9_0), .val (.ref w_PENDING), .unset, .unset, .unset, .unset]) rfl ?_
    refine XS.iconst X10.here hx rfl (hb hby at_89) ?_
    show Sp p e below T10 (mkF m 90 #[.val (.long p0), .second, .val (.long p1), .second, .val (.int p2), .val (.int p3), .val (.int p4), .val (.int p5), .val (.ref b1), .val (.ref b6), .val (.ref b8_0), .val (.ref b9_0), .val (.ref w_PENDING), .unset, .unset, .unset, .unset] [(.int (1 : Int32))]) _
    refine st11 _ ?_
    show Sp p e below T11 (mkF m 92 #[.val (.long p0), .second, .val (.long p1), .second, .val (.int p2), .val (.int p3), .val (.int p4), .val (.int p5), .val (.ref b1), .val (.ref b6), .val (.ref b8_0), .val (.ref b9_0), .val (.ref w_PENDING), .unset, .unset, .unset, .unset] [(.ref b11)]) _
    refine XS.astore X11.here hx rfl (hb hby at_92) rfl rfl (l' := #[.val (.long p0), .second, .val (.long p1), .second, .val (.int p2), .val (.int p3), .val (.int p4), .val (.int p5), .val (.ref b1), .val (.ref b6), .val (.ref b8_0), .val (.ref b9_0), .val (.ref w_PENDING), .val (.ref b11), .unset, .unset, .unset]) rfl ?_
    refine XS.aload X11.here hx rfl (hb hby at_94) rfl rfl ?_
    refine XS.iconst X11.here hx rfl (hb hby at_96) ?_
    refine XS.iload X11.here hx rfl (hb hby at_97) rfl ?_
    refine XS.bipush X11.here hx rfl (hb hby at_99) ?_
    show Sp p e below T11 (mkF m 101 #[.val (.long p0), .second, .val (.long p1), .second, .val (.int p2), .val (.int p3), .val (.int p4), .val (.int p5), .val (.ref b1), .val (.ref b6), .val (.ref b8_0), .val (.ref b9_0), .val (.ref w_PENDING), .val (.ref b11), .unset, .unset, .unset] [(.int (8 : Int32)), (.int p5), (.int (0 : Int32)), (.ref b11)]) _
    refine XS.iushr X11.here hx rfl (hb hby at_101) rfl ?_
    show Sp p e below T11 (mkF m 102 #[.val (.long p0), .second, .val (.long p1), .second, .val (.int p2), .val (.int p3), .val (.int p4), .val (.int p5), .val (.ref b1), .val (.ref b6), .val (.ref b8_0), .val (.ref b9_0), .val (.ref w_PENDING), .val (.ref b11), .unset, .unset, .unset] [(.int ((p5.toUInt32 >>> ((8 : Int32) &&& 31).toUInt32).toInt32)), (.int (0 : Int32)), (.ref b11)]) _
    refine XS.i2b X11.here hx rfl (hb hby at_102) rfl ?_
    show Sp p e below T11 (mkF m 103 #[.val (.long p0), .second, .val (.long p1), .second, .val (.int p2), .val (.int p3), .val (.int p4), .val (.int p5), .val (.ref b1), .val (.ref b6), .val (.ref b8_0), .val (.ref b9_0), .val (.ref w_PENDING), .val (.ref b11), .unset, .unset, .unset] [(.int (((p5.toUInt32 >>> ((8 : Int32) &&& 31).toUInt32).toInt32).toInt8.toInt32)), (.int (0 : Int32)), (.ref b11)]) _
    refine st13 _ ?_
    show Sp p e below T13 (mkF m 104 #[.val (.long p0), .second, .val (.long p1), .second, .val (.int p2), .val (.int p3), .val (.int p4), .val (.int p5), .val (.ref b1), .val (.ref b6), .val (.ref b8_0), .val (.ref b9_0), .val (.ref w_PENDING), .val (.ref b11), .unset, .unset, .unset] []) _
    refine XS.iload X13.here hx rfl (hb hby at_104) rfl ?_
    refine XS.iconst X13.here hx rfl (hb hby at_106) ?_
    show Sp p e below T13 (mkF m 107 #[.val (.long p0), .second, .val (.long p1), .second, .val (.int p2), .val (.int p3), .val (.int p4), .val (.int p5), .val (.ref b1), .val (.ref b6), .val (.ref b8_0), .val (.ref b9_0), .val (.ref w_PENDING), .val (.ref b11), .unset, .unset, .unset] [(.int (1 : Int32)), (.int p5)]) _
    refine XS.iand X13.here hx rfl (hb hby at_107) rfl ?_
    show Sp p e below T13 (mkF m 108 #[.val (.long p0), .second, .val (.long p1), .second, .val (.int p2), .val (.int p3), .val (.int p4), .val (.int p5), .val (.ref b1), .val (.ref b6), .val (.ref b8_0), .val (.ref b9_0), .val (.ref w_PENDING), .val (.ref b11), .unset, .unset, .unset] [(.int (p5 &&& (1 : Int32)))]) _
    refine XS.ifNo X13.here hx rfl (hb hby at_108) rfl ((if0 _ _).trans (feq hc2).1) ?_
    refine XS.iconst X13.here hx rfl (hb hby at_111) ?_
    show Sp p e below T13 (mkF m 112 #[.val (.long p0), .second, .val (.long p1), .second, .val (.int p2), .val (.int p3), .val (.int p4), .val (.int p5), .val (.ref b1), .val (.ref b6), .val (.ref b8_0), .val (.ref b9_0), .val (.ref w_PENDING), .val (.ref b11), .unset, .unset, .unset] [(.int (1 : Int32))]) _
    refine XS.goto X13.here hx rfl (pc0 := 112) (pc' := 116) rfl (hb hby at_112) (by decide) (by decide) ?_
    show Sp p e below T13 (mkF m 116 #[.val (.long p0), .second, .val (.long p1), .second, .val (.int p2), .val (.int p3), .val (.int p4), .val (.int p5), .val (.ref b1), .val (.ref b6), .val (.ref b8_0), .val (.ref b9_0), .val (.ref w_PENDING), .val (.ref b11), .unset, .unset, .unset] [(.int (1 : Int32))]) _
    refine XS.istore X13.here hx rfl (hb hby at_116) rfl (l' := #[.val (.long p0), .second, .val (.long p1), .second, .val (.int p2), .val (.int p3), .val (.int p4), .val (.int p5), .val (.ref b1), .val (.ref b6), .val (.ref b8_0), .val (.ref b9_0), .val (.ref w_PENDING), .val (.ref b11), .val (.int (1 : Int32)), .unset, .unset]) rfl ?_
    refine XS.iload X13.here hx rfl (hb hby at_118) rfl ?_
    refine XS.iconst X13.here hx rfl (hb hby at_120) ?_
    show Sp p e below T13 (mkF m 121 #[.val (.long p0), .second, .val (.long p1), .second, .val (.int p2), .val (.int p3), .val (.int p4), .val (.int p5), .val (.ref b1), .val (.ref b6), .val (.ref b8_0), .val (.ref b9_0), .val (.ref w_PENDING), .val (.ref b11), .val (.int (1 : Int32)), .unset, .unset] [(.int (4 : Int32)), (.int p5)]) _
    refine XS.iand X13.here hx rfl (hb hby at_121) rfl ?_
    show Sp p e below T13 (mkF m 122 #[.val (.long p0), .second, .val (.long p1), .second, .val (.int p2), .val (.int p3), .val (.int p4), .val (.int p5), .val (.ref b1), .val (.ref b6), .val (.ref b8_0), .val (.ref b9_0), .val (.ref w_PENDING), .val (.ref b11), .val (.int (1 : Int32)), .unset, .unset] [(.int (p5 &&& (4 : Int32)))]) _
    refine XS.ifNo X13.here hx rfl (hb hby at_122) rfl ((if0 _ _).trans (feq hc3).1) ?_
    refine XS.iconst X13.here hx rfl (hb hby at_125) ?_
    show Sp p e below T13 (mkF m 126 #[.val (.long p0), .second, .val (.long p1), .second, .val (.int p2), .val (.int p3), .val (.int p4), .val (.int p5), .val (.ref b1), .val (.ref b6), .val (.ref b8_0), .val (.ref b9_0), .val (.ref w_PENDING), .val (.ref b11), .val (.int (1 : Int32)), .unset, .unset] [(.int (1 : Int32))]) _
    refine XS.goto X13.here hx rfl (pc0 := 126) (pc' := 130) rfl (hb hby at_126) (by decide) (by decide) ?_
    show Sp p e below T13 (mkF m 130 #[.val (.long p0), .second, .val (.long p1), .second, .val (.int p2), .val (.int p3), .val (.int p4), .val (.int p5), .val (.ref b1), .val (.ref b6), .val (.ref b8_0), .val (.ref b9_0), .val (.ref w_PENDING), .val (.ref b11), .val (.int (1 : Int32)), .unset, .unset] [(.int (1 : Int32))]) _
    refine XS.istore X13.here hx rfl (hb hby at_130) rfl (l' := #[.val (.long p0), .second, .val (.long p1), .second, .val (.int p2), .val (.int p3), .val (.int p4), .val (.int p5), .val (.ref b1), .val (.ref b6), .val (.ref b8_0), .val (.ref b9_0), .val (.ref w_PENDING), .val (.ref b11), .val (.int (1 : Int32)), .val (.int (1 : Int32)), .unset]) rfl ?_
    refine XS.iload X13.here hx rfl (hb hby at_132) rfl ?_
    show Sp p e below T13 (mkF m 134 #[.val (.long p0), .second, .val (.long p1), .second, .val (.int p2), .val (.int p3), .val (.int p4), .val (.int p5), .val (.ref b1), .val (.ref b6), .val (.ref b8_0), .val (.ref b9_0), .val (.ref w_PENDING), .val (.ref b11), .val (.int (1 : Int32)), .val (.int (1 : Int32)), .unset] [(.int (1 : Int32))]) _
    refine XS.ifNo X13.here hx rfl (hb hby at_134) rfl ((if0 _ _).trans (feq (by decide : ¬ ((1 : Int32) = (0 : Int32)))).1) ?_
    show Sp p e below T13 (mkF m 137 #[.val (.long p0), .second, .val (.long p1), .second, .val (.int p2), .val (.int p3), .val (.int p4), .val (.int p5), .val (.ref b1), .val (.ref b6), .val (.ref b8_0), .val (.ref b9_0), .val (.ref w_PENDING), .val (.ref b11), .val (.int (1 : Int32)), .val (.int (1 : Int32)), .unset] []) _
    refine st14 _ ?_
    show Sp p e below T14 (mkF m 140 #[.val (.long p0), .second, .val (.long p1), .second, .val (.int p2), .val (.int p3), .val (.int p4), .val (.int p5), .val (.ref b1), .val (.ref b6), .val (.ref b8_0), .val (.ref b9_0), .val (.ref w_PENDING), .val (.ref b11), .val (.int (1 : Int32)), .val (.int (1 : Int32)), .unset] [(.ref b14)]) _
    refine XS.dup X14.here hx rfl (hb hby at_140) rfl rfl ?_
    refine XS.lloadN X14.here hx rfl (hb hby at_141) rfl ?_
    refine XS.aload X14.here hx rfl (hb hby at_142) rfl rfl ?_
    refine XS.lloadN X14.here hx rfl (hb hby at_144) rfl ?_
    refine XS.aload X14.here hx rfl (hb hby at_145) rfl rfl ?_
    refine XS.aload X14.here hx rfl (hb hby at_147) rfl rfl ?_
    refine XS.aload X14.here hx rfl (hb hby at_149) rfl rfl ?_
    refine XS.iload X14.here hx rfl (hb hby at_151) rfl ?_
    refine XS.iload X14.here hx rfl (hb hby at_153) rfl ?_
    refine XS.aload X14.here hx rfl (hb hby at_155) rfl rfl ?_
    show Sp p e below T14 (mkF m 157 #[.val (.long p0), .second, .val (.long p1), .second, .val (.int p2), .val (.int p3), .val (.int p4), .val (.int p5), .val (.ref b1), .val (.ref b6), .val (.ref b8_0), .val (.ref b9_0), .val (.ref w_PENDING), .val (.ref b11), .val (.int (1 : Int32)), .val (.int (1 : Int32)), .unset] [(.ref w_PENDING), (.int p3), (.int p2), (.ref b11), (.ref b9_0), (.ref b8_0), (.long p1), (.ref b6), (.long p0), (.ref b14), (.ref b14)]) _
    refine st15.trans ?_
    show Sp p e below T15 (mkF m 160 #[.val (.long p0), .second, .val (.long p1), .second, .val (.int p2), .val (.int p3), .val (.int p4), .val (.int p5), .val (.ref b1), .val (.ref b6), .val (.ref b8_0), .val (.ref b9_0), .val (.ref w_PENDING), .val (.ref b11), .val (.int (1 : Int32)), .val (.int (1 : Int32)), .unset] [(.ref b14)]) _
    refine XS.astore X15.here hx rfl (hb hby at_160) rfl rfl (l' := #[.val (.long p0), .second, .val (.long p1), .second, .val (.int p2), .val (.int p3), .val (.int p4), .val (.int p5), .val (.ref b1), .val (.ref b6), .val (.ref b8_0), .val (.ref b9_0), .val (.ref w_PENDING), .val (.ref b11), .val (.int (1 : Int32)), .val (.int (1 : Int32)), .val (.ref b14)]) rfl ?_
    refine XS.aload X15.here hx rfl (hb hby at_162) rfl rfl ?_
    show Sp p e below T15 (mkF m 164 #[.val (.long p0), .second, .val (.long p1), .second, .val (.int p2), .val (.int p3), .val (.int p4), .val (.int p5), .val (.ref b1), .val (.ref b6), .val (.ref b8_0), .val (.ref b9_0), .val (.ref w_PENDING), .val (.ref b11), .val (.int (1 : Int32)), .val (.int (1 : Int32)), .val (.ref b14)] [(.ref b14)]) _
    refine st16.trans ?_
    show Sp p e below T16 (mkF m 167 #[.val (.long p0), .second, .val (.long p1), .second, .val (.int p2), .val (.int p3), .val (.int p4), .val (.int p5), .val (.ref b1), .val (.ref b6), .val (.ref b8_0), .val (.ref b9_0), .val (.ref w_PENDING), .val (.ref b11), .val (.int (1 : Int32)), .val (.int (1 : Int32)), .val (.ref b14)] [(.int (1 : Int32))]) _
    refine XS.ifNo X16.here hx rfl (hb hby at_167) rfl ((if0 _ _).trans (feq (by decide : ¬ ((1 : Int32) = (0 : Int32)))).1) ?_
    refine XS.aload X16.here hx rfl (hb hby at_170) rfl rfl ?_
    show Sp p e below T16 (mkF m 172 #[.val (.long p0), .second, .val (.long p1), .second, .val (.int p2), .val (.int p3), .val (.int p4), .val (.int p5), .val (.ref b1), .val (.ref b6), .val (.ref b8_0), .val (.ref b9_0), .val (.ref w_PENDING), .val (.ref b11), .val (.int (1 : Int32)), .val (.int (1 : Int32)), .val (.ref b14)] [(.ref b14)]) _
    refine st17.trans ?_
    show Sp p e below T17 (mkF m 175 #[.val (.long p0), .second, .val (.long p1), .second, .val (.int p2), .val (.int p3), .val (.int p4), .val (.int p5), .val (.ref b1), .val (.ref b6), .val (.ref b8_0), .val (.ref b9_0), .val (.ref w_PENDING), .val (.ref b11), .val (.int (1 : Int32)), .val (.int (1 : Int32)), .val (.ref b14)] [(.ref b6)]) _
    refine XS.aload X17.here hx rfl (hb hby at_175) rfl rfl ?_
    show Sp p e below T17 (mkF m 177 #[.val (.long p0), .second, .val (.long p1), .second, .val (.int p2), .val (.int p3), .val (.int p4), .val (.int p5), .val (.ref b1), .val (.ref b6), .val (.ref b8_0), .val (.ref b9_0), .val (.ref w_PENDING), .val (.ref b11), .val (.int (1 : Int32)), .val (.int (1 : Int32)), .val (.ref b14)] [(.ref b6), (.ref b6)]) _
    refine Jvm.RoadKit.acmp (g := (mkF m 177 #[.val (.long p0), .second, .val (.long p1), .second, .val (.int p2), .val (.int p3), .val (.int p4), .val (.int p5), .val (.ref b1), .val (.ref b6), .val (.ref b8_0), .val (.ref b9_0), .val (.ref w_PENDING), .val (.ref b11), .val (.int (1 : Int32)), .val (.int (1 : Int32)), .val (.ref b14)] [(.ref b6), (.ref b6)])) X17 hx rfl rfl rfl (pc0 := 177) (pc' := 180) (same := true) rfl (hb hby at_177) rfl (decide_eq_true rfl) (by decide) (by decide) ?_
    show Sp p e below T17 (mkF m 180 #[.val (.long p0), .second, .val (.long p1), .second, .val (.int p2), .val (.int p3), .val (.int p4), .val (.int p5), .val (.ref b1), .val (.ref b6), .val (.ref b8_0), .val (.ref b9_0), .val (.ref w_PENDING), .val (.ref b11), .val (.int (1 : Int32)), .val (.int (1 : Int32)), .val (.ref b14)] []) _
    refine XS.aload X17.here hx rfl (hb hby at_180) rfl rfl ?_
    show Sp p e below T17 (mkF m 182 #[.val (.long p0), .second, .val (.long p1), .second, .val (.int p2), .val (.int p3), .val (.int p4), .val (.int p5), .val (.ref b1), .val (.ref b6), .val (.ref b8_0), .val (.ref b9_0), .val (.ref w_PENDING), .val (.ref b11), .val (.int (1 : Int32)), .val (.int (1 : Int32)), .val (.ref b14)] [(.ref b14)]) _
    refine st18.trans ?_
    show Sp p e below T18 (mkF m 185 #[.val (.long p0), .second, .val (.long p1), .second, .val (.int p2), .val (.int p3), .val (.int p4), .val (.int p5), .val (.ref b1), .val (.ref b6), .val (.ref b8_0), .val (.ref b9_0), .val (.ref w_PENDING), .val (.ref b11), .val (.int (1 : Int32)), .val (.int (1 : Int32)), .val (.ref b14)] [.null]) _
    refine XS.ifnonnullNo X18.here hx rfl (hb hby at_185) rfl ?_
    refine XS.iconst X18.here hx rfl (hb hby at_188) ?_
    show Sp p e below T18 (mkF m 189 #[.val (.long p0), .second, .val (.long p1), .second, .val (.int p2), .val (.int p3), .val (.int p4), .val (.int p5), .val (.ref b1), .val (.ref b6), .val (.ref b8_0), .val (.ref b9_0), .val (.ref w_PENDING), .val (.ref b11), .val (.int (1 : Int32)), .val (.int (1 : Int32)), .val (.ref b14)] [(.int (1 : Int32))]) _
    refine XS.goto X18.here hx rfl (pc0 := 189) (pc' := 193) rfl (hb hby at_189) (by decide) (by decide) ?_
    show Sp p e below T18 (mkF m 193 #[.val (.long p0), .second, .val (.long p1), .second, .val (.int p2), .val (.int p3), .val (.int p4), .val (.int p5), .val (.ref b1), .val (.ref b6), .val (.ref b8_0), .val (.ref b9_0), .val (.ref w_PENDING), .val (.ref b11), .val (.int (1 : Int32)), .val (.int (1 : Int32)), .val (.ref b14)] [(.int (1 : Int32))]) _
    exact retN X18 hx (t := .boolean) Bd.returns (by simp) (hb hby at_193) hr
  · skip
    exact ⟨rfl, N18⟩
def Q26 (Z : State) (w_PENDING : Addr) (w_IGNORE : Addr) (cs_v : Int32) (a1 : Addr) (q2 : Int64) (a3 : Addr) (a4 : Addr) (a5 : Addr) (a6 : Addr) (p7 : Int32) (p8 : Int32) (h0 : Heap) (n0 : Nat) (v : Option Value) (h : Heap) (L : List Loc) : Prop := v = none ∧ Fr n0 L ∧ Keep h0 h [a1] ∧ Exa Z h a1 "com/example/graph_job_runner/graphjobrunner/ClaimedNode" ∧ Fld Z h a1 "com/example/graph_job_runner/graphjobrunner/ClaimedNode" "attempt" "I" (.int p7) ∧ Fld Z h a1 "com/example/graph_job_runner/graphjobrunner/ClaimedNode" "failStrategy" "Lcom/example/graph_job_runner/graphjobrunner/FailStrategy;" (.ref w_PENDING) ∧ Fld Z h a1 "com/example/graph_job_runner/graphjobrunner/ClaimedNode" "hasChildren" "Z" (.int (1 : Int32)) ∧ Fld Z h a1 "com/example/graph_job_runner/graphjobrunner/ClaimedNode" "id" "J" (.long q2) ∧ Fld Z h a1 "com/example/graph_job_runner/graphjobrunner/ClaimedNode" "nodeKey" "Ljava/lang/String;" (.ref a4) ∧ Fld Z h a1 "com/example/graph_job_runner/graphjobrunner/ClaimedNode" "payload" "[B" (.ref a6) ∧ Fld Z h a1 "com/example/graph_job_runner/graphjobrunner/ClaimedNode" "position" "J" (.long (0 : Int64)) ∧ Fld Z h a1 "com/example/graph_job_runner/graphjobrunner/ClaimedNode" "processor" "Ljava/lang/String;" (.ref a5) ∧ Fld Z h a1 "com/example/graph_job_runner/graphjobrunner/ClaimedNode" "retryLimit" "I" (.int p8) ∧ Fld Z h a1 "com/example/graph_job_runner/graphjobrunner/ClaimedNode" "runKey" "Ljava/lang/String;" (.ref a3) ∧ Fld Z h a1 "com/example/graph_job_runner/graphjobrunner/ClaimedNode" "streamKey" "Ljava/lang/String;" .null
set_option maxRecDepth 65536 in
set_option maxHeartbeats 40000000 in
theorem rm26 (l : Launch) (Z : State) (a0 : Array Value) (hw : ∀ d ∈ tables_1, d.before a0 Z = true) (ws : List Jvm.Cond) (w_PENDING w_IGNORE : Addr) (cs_v : Int32) (hp : Perm Z w_PENDING w_IGNORE cs_v) (a1 : Addr) (q2 : Int64) (a3 : Addr) (a4 : Addr) (a5 : Addr) (a6 : Addr) (p7 : Int32) (p8 : Int32) (h0 : Heap) (n0 : Nat) (O0 : Old Z n0 h0) (E_a1 : Exa Z h0 a1 "com/example/graph_job_runner/graphjobrunner/ClaimedNode") (F_id_a1 : Fld Z h0 a1 "com/example/graph_job_runner/graphjobrunner/ClaimedNode" "id" "J" (.long (0 : Int64))) (F_runKey_a1 : Fld Z h0 a1 "com/example/graph_job_runner/graphjobrunner/ClaimedNode" "runKey" "Ljava/lang/String;" .null) (F_streamKey_a1 : Fld Z h0 a1 "com/example/graph_job_runner/graphjobrunner/ClaimedNode" "streamKey" "Ljava/lang/String;" .null) (F_position_a1 : Fld Z h0 a1 "com/example/graph_job_runner/graphjobrunner/ClaimedNode" "position" "J" (.long (0 : Int64))) (F_nodeKey_a1 : Fld Z h0 a1 "com/example/graph_job_runner/graphjobrunner/ClaimedNode" "nodeKey" "Ljava/lang/String;" .null) (F_processor_a1 : Fld Z h0 a1 "com/example/graph_job_runner/graphjobrunner/ClaimedNode" "processor" "Ljava/lang/String;" .null) (F_payload_a1 : Fld Z h0 a1 "com/example/graph_job_runner/graphjobrunner/ClaimedNode" "payload" "[B" .null) (F_attempt_a1 : Fld Z h0 a1 "com/example/graph_job_runner/graphjobrunner/ClaimedNode" "attempt" "I" (.int (0 : Int32))) (F_retryLimit_a1 : Fld Z h0 a1 "com/example/graph_job_runner/graphjobrunner/ClaimedNode" "retryLimit" "I" (.int (0 : Int32))) (F_failStrategy_a1 : Fld Z h0 a1 "com/example/graph_job_runner/graphjobrunner/ClaimedNode" "failStrategy" "Lcom/example/graph_job_runner/graphjobrunner/FailStrategy;" .null) (F_hasChildren_a1 : Fld Z h0 a1 "com/example/graph_job_runner/graphjobrunner/ClaimedNode" "hasChildren" "Z" (.int (0 : Int32))) (g_a1 : n0 ≤ a1) :
    MetFree l y9 (head1 (Jvm.Cond.code y9 prog_3_method_3_code 14 none :: ws) ({ frames := 1, cells := 0, slots := 0, locals := 12 } : Room)) (fun a U => a = #[(.ref a1), (.long q2), (.ref a3), .null, (.long (0 : Int64)), (.ref a4), (.ref a5), (.ref a6), (.int p7), (.int p8), (.ref w_PENDING), (.int (1 : Int32))] ∧ Z.Warmed39 U.vm ∧ U.heap = h0) (fun _ _ _ _ _ => True) (fun _ U o U' => ∃ v L, o = .returned v ∧ Q26 Z w_PENDING w_IGNORE cs_v a1 q2 a3 a4 a5 a6 p7 p8 h0 n0 v U'.heap L ∧ FrameEnd U o U' L ({ frames := 1, cells := 0, slots := 0, locals := 12 } : Room).cells ({ frames := 1, cells := 0, slots := 0, locals := 12 } : Room).slots) := by
  refine MetFree.of_bodySF (plainFor_of_name pn_12) hisR ?_
  intro p e s m args below meth c s₁ Bd hml0 hP hK
  obtain ⟨rfl, hZ, hh⟩ := hP
  have hx := Bd.exec
  have hby := Bd.bytes
  have hml : c.maxLocals = 14 := hml0
  have hown : s.vm.findClass "com/example/graph_job_runner/graphjobrunner/ClaimedNode" = some m.cls := findClass_of_methodNamed Bd.named
  have hnm := (name_of_methodNamed Bd.named Bd.method).1
  have X0 : Stand p l e ({ frames := 1, cells := 0, slots := 0, locals := 12 } : Room) s m #[(.ref a1), (.long q2), (.ref a3), .null, (.long (0 : Int64)), (.ref a4), (.ref a5), (.ref a6), (.int p7), (.int p8), (.ref w_PENDING), (.int (1 : Int32))] below meth c s₁ [] 0 0 := Stand.of_body Bd
  have e0 : s₁.heap = h0 := by rw [← hh, Bd.state]; rfl
  have N0 := Fr.nil n0
  have hp' := hp
  obtain ⟨S_w_PENDING, E_w_PENDING, S_w_IGNORE, E_w_IGNORE, S_COMPACT_STRINGS, h_cs⟩ := hp'
  have pre0 : ∀ t, Steps p.tables e below (s₁.setTop (mkF m 0 #[.val (.ref a1), .val (.long q2), .second, .val (.ref a3), .val .null, .val (.long (0 : Int64)), .second, .val (.ref a4), .val (.ref a5), .val (.ref a6), .val (.int p7), .val (.int p8), .val (.ref w_PENDING), .val (.int (1 : Int32))] [])) t → Steps p.tables e below (s₁.setTop (entryFrame m #[(.ref a1), (.long q2), (.ref a3), .null, (.long (0 : Int64)), (.ref a4), (.ref a5), (.ref a6), (.int p7), (.int p8), (.ref w_PENDING), (.int (1 : Int32))] 14)) t := fun t k => castTop (ef_12_0 m a1 q2 a3 (0 : Int64) a4 a5 a6 p7 p8 w_PENDING (1 : Int32)) k
  obtain ⟨T1, X1, e1, st1⟩ := initO X0 hx hZ hown (hw _ (List.mem_of_getElem? (i := 56) rfl)) (hw _ (List.mem_of_getElem? (i := 12) rfl)) (hw _ (List.mem_of_getElem? (i := 13) rfl)) e0 (g := (mkF m 1 #[.val (.ref a1), .val (.long q2), .second, .val (.ref a3), .val .null, .val (.long (0 : Int64)), .second, .val (.ref a4), .val (.ref a5), .val (.ref a6), .val (.int p7), .val (.int p8), .val (.ref w_PENDING), .val (.int (1 : Int32))] [(.ref a1)])) rfl (by rw [hml]; rfl) rfl (hb hby d12_1) (by decide) (W := 0) (by show 2 * 0 + _ ≤ _; exact Nat.le_of_eq rfl) (by decide)
  obtain ⟨T2, h2, X2, e2, W2, st2⟩ := putF X1 hx hZ hown (host := "") (Or.inl (hw _ (List.mem_of_getElem? (i := 57) rfl))) Via.refl e1 F_id_a1 E_a1 (Or.inr ⟨(hw _ (List.mem_of_getElem? (i := 58) rfl)), rfl, hnm⟩) (hw _ (List.mem_of_getElem? (i := 48) rfl)) (ty := .long) (by decide) rfl rfl (g := (mkF m 6 #[.val (.ref a1), .val (.long q2), .second, .val (.ref a3), .val .null, .val (.long (0 : Int64)), .second, .val (.ref a4), .val (.ref a5), .val (.ref a6), .val (.int p7), .val (.int p8), .val (.ref w_PENDING), .val (.int (1 : Int32))] [(.long q2), (.ref a1)])) rfl rfl (hb hby d12_6)
  have N2 := Fr.snoc X2 N0 g_a1
  have O2 := O0.wr W2 g_a1
  have K2 : Keep h0 h2 [a1] := (Keep.refl h0 [a1]).wr W2 (Or.inl (List.mem_of_getElem? (i := 0) rfl))
  have Fw2 := F_id_a1.same W2
  obtain ⟨T3, h3, X3, e3, W3, st3⟩ := putF X2 hx hZ hown (host := "") (Or.inl (hw _ (List.mem_of_getElem? (i := 59) rfl))) Via.refl e2 (F_runKey_a1.other W2 (Or.inr (sn2 hw))) (E_a1.wr W2) (Or.inr ⟨(hw _ (List.mem_of_getElem? (i := 60) rfl)), rfl, hnm⟩) (hw _ (List.mem_of_getElem? (i := 48) rfl)) (ty := (.object "java/lang/String")) (by decide) rfl rfl (g := (mkF m 11 #[.val (.ref a1), .val (.long q2), .second, .val (.ref a3), .val .null, .val (.long (0 : Int64)), .second, .val (.ref a4), .val (.ref a5), .val (.ref a6), .val (.int p7), .val (.int p8), .val (.ref w_PENDING), .val (.int (1 : Int32))] [(.ref a3), (.ref a1)])) rfl rfl (hb hby d12_11)
  have N3 := Fr.snoc X3 N2 g_a1
  have O3 := O2.wr W3 g_a1
  have K3 : Keep h0 h3 [a1] := K2.wr W3 (Or.inl (List.mem_of_getElem? (i := 0) rfl))
  have Fw3 := (F_runKey_a1.other W2 (Or.inr (sn2 hw))).same W3
  have f_4 := ((F_streamKey_a1.other W2 (Or.inr (sn3 hw))).other W3 (Or.inr (sn4 hw)))
  obtain ⟨T5, h5, X5, e5, W5, st5⟩ := putF X3 hx hZ hown (host := "") (Or.inl (hw _ (List.mem_of_getElem? (i := 61) rfl))) Via.refl e3 f_4 ((E_a1.wr W2).wr W3) (Or.inr ⟨(hw _ (List.mem_of_getElem? (i := 62) rfl)), rfl, hnm⟩) (hw _ (List.mem_of_getElem? (i := 48) rfl)) (ty := (.object "java/lang/String")) (by decide) rfl rfl (g := (mkF m 17 #[.val (.ref a1), .val (.long q2), .second, .val (.ref a3), .val .null, .val (.long (0 : Int64)), .second, .val (.ref a4), .val (.ref a5), .val (.ref a6), .val (.int p7), .val (.int p8), .val (.ref w_PENDING), .val (.int (1 : Int32))] [.null, (.ref a1)])) rfl rfl (hb hby d12_17)
  have N5 := Fr.snoc X5 N3 g_a1
  have O5 := O3.wr W5 g_a1
  have K5 : Keep h0 h5 [a1] := K3.wr W5 (Or.inl (List.mem_of_getElem? (i := 0) rfl))
  have Fw5 := f_4.same W5
  have f_6 := (((F_position_a1.other W2 (Or.inr (sn5 hw))).other W3 (Or.inr (sn6 hw))).other W5 (Or.inr (sn7 hw)))
  obtain ⟨T7, h7, X7, e7, W7, st7⟩ := putF X5 hx hZ hown (host := "") (Or.inl (hw _ (List.mem_of_getElem? (i := 63) rfl))) Via.refl e5 f_6 (((E_a1.wr W2).wr W3).wr W5) (Or.inr ⟨(hw _ (List.mem_of_getElem? (i := 64) rfl)), rfl, hnm⟩) (hw _ (List.mem_of_getElem? (i := 48) rfl)) (ty := .long) (by decide) rfl rfl (g := (mkF m 23 #[.val (.ref a1), .val (.long q2), .second, .val (.ref a3), .val .null, .val (.long (0 : Int64)), .second, .val (.ref a4), .val (.ref a5), .val (.ref a6), .val (.int p7), .val (.int p8), .val (.ref w_PENDING), .val (.int (1 : Int32))] [(.long (0 : Int64)), (.ref a1)])) rfl rfl (hb hby d12_23)
  have N7 := Fr.snoc X7 N5 g_a1
  have O7 := O5.wr W7 g_a1
  have K7 : Keep h0 h7 [a1] := K5.wr W7 (Or.inl (List.mem_of_getElem? (i := 0) rfl))
  have Fw7 := f_6.same W7
  have f_8 := ((((F_nodeKey_a1.other W2 (Or.inr (sn8 hw))).other W3 (Or.inr (sn9 hw))).other W5 (Or.inr (sn10 hw))).other W7 (Or.inr (sn11 hw)))
  obtain ⟨T9, h9, X9, e9, W9, st9⟩ := putF X7 hx hZ hown (host := "") (Or.inl (hw _ (List.mem_of_getElem? (i := 65) rfl))) Via.refl e7 f_8 ((((E_a1.wr W2).wr W3).wr W5).wr W7) (Or.inr ⟨(hw _ (List.mem_of_getElem? (i := 66) rfl)), rfl, hnm⟩) (hw _ (List.mem_of_getElem? (i := 48) rfl)) (ty := (.object "java/lang/String")) (by decide) rfl rfl (g := (mkF m 29 #[.val (.ref a1), .val (.long q2), .second, .val (.ref a3), .val .null, .val (.long (0 : Int64)), .second, .val (.ref a4), .val (.ref a5), .val (.ref a6), .val (.int p7), .val (.int p8), .val (.ref w_PENDING), .val (.int (1 : Int32))] [(.ref a4), (.ref a1)])) rfl rfl (hb hby d12_29)
  have N9 := Fr.snoc X9 N7 g_a1
  have O9 := O7.wr W9 g_a1
  have K9 : Keep h0 h9 [a1] := K7.wr W9 (Or.inl (List.mem_of_getElem? (i := 0) rfl))
  have Fw9 := f_8.same W9
  have f_10 := (((((F_processor_a1.other W2 (Or.inr (sn12 hw))).other W3 (Or.inr (sn13 hw))).other W5 (Or.inr (sn14 hw))).other W7 (Or.inr (sn15 hw))).other W9 (Or.inr (sn16 hw)))
  obtain ⟨T11, h11, X11, e11, W11, st11⟩ := putF X9 hx hZ hown (host := "") (Or.inl (hw _ (List.mem_of_getElem? (i := 67) rfl))) Via.refl e9 f_10 (((((E_a1.wr W2).wr W3).wr W5).wr W7).wr W9) (Or.inr ⟨(hw _ (List.mem_of_getElem? (i := 68) rfl)), rfl, hnm⟩) (hw _ (List.mem_of_getElem? (i := 48) rfl)) (ty := (.object "java/lang/String")) (by decide) rfl rfl (g := (mkF m 35 #[.val (.ref a1), .val (.long q2), .second, .val (.ref a3), .val .null, .val (.long (0 : Int64)), .second, .val (.ref a4), .val (.ref a5), .val (.ref a6), .val (.int p7), .val (.int p8), .val (.ref w_PENDING), .val (.int (1 : Int32))] [(.ref a5), (.ref a1)])) rfl rfl (hb hby d12_35)
  have N11 := Fr.snoc X11 N9 g_a1
  have O11 := O9.wr W11 g_a1
  have K11 : Keep h0 h11 [a1] := K9.wr W11 (Or.inl (List.mem_of_getElem? (i := 0) rfl))
  have Fw11 := f_10.same W11
  have f_12 := ((((((F_payload_a1.other W2 (Or.inr (sn17 hw))).other W3 (Or.inr (sn18 hw))).other W5 (Or.inr (sn19 hw))).other W7 (Or.inr (sn20 hw))).other W9 (Or.inr (sn21 hw))).other W11 (Or.inr (sn22 hw)))
  obtain ⟨T13, h13, X13, e13, W13, st13⟩ := putF X11 hx hZ hown (host := "") (Or.inl (hw _ (List.mem_of_getElem? (i := 69) rfl))) Via.refl e11 f_12 ((((((E_a1.wr W2).wr W3).wr W5).wr W7).wr W9).wr W11) (Or.inr ⟨(hw _ (List.mem_of_getElem? (i := 70) rfl)), rfl, hnm⟩) (hw _ (List.mem_of_getElem? (i := 48) rfl)) (ty := (.array .byte)) (by decide) rfl rfl (g := (mkF m 41 #[.val (.ref a1), .val (.long q2), .second, .val (.ref a3), .val .null, .val (.long (0 : Int64)), .second, .val (.ref a4), .val (.ref a5), .val (.ref a6), .val (.int p7), .val (.int p8), .val (.ref w_PENDING), .val (.int (1 : Int32))] [(.ref a6), (.ref a1)])) rfl rfl (hb hby d12_41)
  have N13 := Fr.snoc X13 N11 g_a1
  have O13 := O11.wr W13 g_a1
  have K13 : Keep h0 h13 [a1] := K11.wr W13 (Or.inl (List.mem_of_getElem? (i := 0) rfl))
  have Fw13 := f_12.same W13
  have f_14 := (((((((E_a1.wr W2).wr W3).wr W5).wr W7).wr W9).wr W11).wr W13)
  have f_15 := (((((((F_attempt_a1.other W2 (Or.inr (sn23 hw))).other W3 (Or.inr (sn24 hw))).other W5 (Or.inr (sn25 hw))).other W7 (Or.inr (sn26 hw))).other W9 (Or.inr (sn27 hw))).other W11 (Or.inr (sn28 hw))).other W13 (Or.inr (sn29 hw)))
  obtain ⟨T16, h16, X16, e16, W16, st16⟩ := putF X13 hx hZ hown (host := "") (Or.inl (hw _ (List.mem_of_getElem? (i := 71) rfl))) Via.refl e13 f_15 f_14 (Or.inr ⟨(hw _ (List.mem_of_getElem? (i := 72) rfl)), rfl, hnm⟩) (hw _ (List.mem_of_getElem? (i := 48) rfl)) (ty := .int) (by decide) rfl rfl (g := (mkF m 47 #[.val (.ref a1), .val (.long q2), .second, .val (.ref a3), .val .null, .val (.long (0 : Int64)), .second, .val (.ref a4), .val (.ref a5), .val (.ref a6), .val (.int p7), .val (.int p8), .val (.ref w_PENDING), .val (.int (1 : Int32))] [(.int p7), (.ref a1)])) rfl rfl (hb hby d12_47)
  have N16 := Fr.snoc X16 N13 g_a1
  have O16 := O13.wr W16 g_a1
  have K16 : Keep h0 h16 [a1] := K13.wr W16 (Or.inl (List.mem_of_getElem? (i := 0) rfl))
  have Fw16 := f_15.same W16
  have f_17 := ((((((((F_retryLimit_a1.other W2 (Or.inr (sn30 hw))).other W3 (Or.inr (sn31 hw))).other W5 (Or.inr (sn32 hw))).other W7 (Or.inr (sn33 hw))).other W9 (Or.inr (sn34 hw))).other W11 (Or.inr (sn35 hw))).other W13 (Or.inr (sn36 hw))).other W16 (Or.inr (sn37 hw)))
  obtain ⟨T18, h18, X18, e18, W18, st18⟩ := putF X16 hx hZ hown (host := "") (Or.inl (hw _ (List.mem_of_getElem? (i := 73) rfl))) Via.refl e16 f_17 (f_14.wr W16) (Or.inr ⟨(hw _ (List.mem_of_getElem? (i := 74) rfl)), rfl, hnm⟩) (hw _ (List.mem_of_getElem? (i := 48) rfl)) (ty := .int) (by decide) rfl rfl (g := (mkF m 53 #[.val (.ref a1), .val (.long q2), .second, .val (.ref a3), .val .null, .val (.long (0 : Int64)), .second, .val (.ref a4), .val (.ref a5), .val (.ref a6), .val (.int p7), .val (.int p8), .val (.ref w_PENDING), .val (.int (1 : Int32))] [(.int p8), (.ref a1)])) rfl rfl (hb hby d12_53)
  have N18 := Fr.snoc X18 N16 g_a1
  have O18 := O16.wr W18 g_a1
  have K18 : Keep h0 h18 [a1] := K16.wr W18 (Or.inl (List.mem_of_getElem? (i := 0) rfl))
  have Fw18 := f_17.same W18
  have f_19 := (((((((((F_failStrategy_a1.other W2 (Or.inr (sn38 hw))).other W3 (Or.inr (sn39 hw))).other W5 (Or.inr (sn40 hw))).other W7 (Or.inr (sn41 hw))).other W9 (Or.inr (sn42 hw))).other W11 (Or.inr (sn43 hw))).other W13 (Or.inr (sn44 hw))).other W16 (Or.inr (sn45 hw))).other W18 (Or.inr (sn46 hw)))
  obtain ⟨T20, h20, X20, e20, W20, st20⟩ := putF X18 hx hZ hown (host := "") (Or.inl (hw _ (List.mem_of_getElem? (i := 75) rfl))) Via.refl e18 f_19 ((f_14.wr W16).wr W18) (Or.inr ⟨(hw _ (List.mem_of_getElem? (i := 76) rfl)), rfl, hnm⟩) (hw _ (List.mem_of_getElem? (i := 48) rfl)) (ty := (.object "com/example/graph_job_runner/graphjobrunner/FailStrategy")) (by decide) rfl rfl (g := (mkF m 59 #[.val (.ref a1), .val (.long q2), .second, .val (.ref a3), .val .null, .val (.long (0 : Int64)), .second, .val (.ref a4), .val (.ref a5), .val (.ref a6), .val (.int p7), .val (.int p8), .val (.ref w_PENDING), .val (.int (1 : Int32))] [(.ref w_PENDING), (.ref a1)])) rfl rfl (hb hby d12_59)
  have N20 := Fr.snoc X20 N18 g_a1
  have O20 := O18.wr W20 g_a1
  have K20 : Keep h0 h20 [a1] := K18.wr W20 (Or.inl (List.mem_of_getElem? (i := 0) rfl))
  have Fw20 := f_19.same W20
  have f_21 := ((((((((((F_hasChildren_a1.other W2 (Or.inr (sn47 hw))).other W3 (Or.inr (sn48 hw))).other W5 (Or.inr (sn49 hw))).other W7 (Or.inr (sn50 hw))).other W9 (Or.inr (sn51 hw))).other W11 (Or.inr (sn52 hw))).other W13 (Or.inr (sn53 hw))).other W16 (Or.inr (sn54 hw))).other W18 (Or.inr (sn55 hw))).other W20 (Or.inr (sn56 hw)))
  obtain ⟨T22, h22, X22, e22, W22, st22⟩ := putFN X20 hx hZ hown (hw _ (List.mem_of_getElem? (i := 77) rfl)) Via.refl e20 f_21 (((f_14.wr W16).wr W18).wr W20) (Or.inr ⟨(hw _ (List.mem_of_getElem? (i := 78) rfl)), rfl, hnm⟩) (hw _ (List.mem_of_getElem? (i := 48) rfl)) (ty := .boolean) (v' := (.int (1 : Int32))) (by decide) rfl rfl (g := (mkF m 65 #[.val (.ref a1), .val (.long q2), .second, .val (.ref a3), .val .null, .val (.long (0 : Int64)), .second, .val (.ref a4), .val (.ref a5), .val (.ref a6), .val (.int p7), .val (.int p8), .val (.ref w_PENDING), .val (.int (1 : Int32))] [(.int (1 : Int32)), (.ref a1)])) rfl rfl (hb hby d12_65)
  have N22 := Fr.snoc X22 N20 g_a1
  have O22 := O20.wr W22 g_a1
  have K22 : Keep h0 h22 [a1] := K20.wr W22 (Or.inl (List.mem_of_getElem? (i := 0) rfl))
  have Fw22 := f_21.same W22
  have f_23 := (((Fw16.other W18 (Or.inr (sn57 hw))).other W20 (Or.inr (sn58 hw))).other W22 (Or.inr (sn59 hw)))
  have f_24 := ((((((((((Fw2.other W3 (Or.inr (sn61 hw))).other W5 (Or.inr (sn62 hw))).other W7 (Or.inr (sn63 hw))).other W9 (Or.inr (sn64 hw))).other W11 (Or.inr (sn65 hw))).other W13 (Or.inr (sn66 hw))).other W16 (Or.inr (sn67 hw))).other W18 (Or.inr (sn68 hw))).other W20 (Or.inr (sn69 hw))).other W22 (Or.inr (sn70 hw)))
  have f_25 := ((((((Fw9.other W11 (Or.inr (sn71 hw))).other W13 (Or.inr (sn72 hw))).other W16 (Or.inr (sn73 hw))).other W18 (Or.inr (sn74 hw))).other W20 (Or.inr (sn75 hw))).other W22 (Or.inr (sn76 hw)))
  have f_26 := ((((Fw13.other W16 (Or.inr (sn77 hw))).other W18 (Or.inr (sn78 hw))).other W20 (Or.inr (sn79 hw))).other W22 (Or.inr (sn80 hw)))
  have f_27 := (((((((Fw7.other W9 (Or.inr (sn81 hw))).other W11 (Or.inr (sn82 hw))).other W13 (Or.inr (sn83 hw))).other W16 (Or.inr (sn84 hw))).other W18 (Or.inr (sn85 hw))).other W20 (Or.inr (sn86 hw))).other W22 (Or.inr (sn87 hw)))
  have f_28 := (((((Fw11.other W13 (Or.inr (sn88 hw))).other W16 (Or.inr (sn89 hw))).other W18 (Or.inr (sn90 hw))).other W20 (Or.inr (sn91 hw))).other W22 (Or.inr (sn92 hw)))
  have f_29 := ((Fw18.other W20 (Or.inr (sn93 hw))).other W22 (Or.inr (sn94 hw)))
  have f_30 := (((((((((Fw3.other W5 (Or.inr (sn95 hw))).other W7 (Or.inr (sn96 hw))).other W9 (Or.inr (sn97 hw))).other W11 (Or.inr (sn98 hw))).other W13 (Or.inr (sn99 hw))).other W16 (Or.inr (sn100 hw))).other W18 (Or.inr (sn101 hw))).other W20 (Or.inr (sn102 hw))).other W22 (Or.inr (sn103 hw)))
  have f_31 := ((((((((Fw5.other W7 (Or.inr (sn104 hw))).other W9 (Or.inr (sn105 hw))).other W11 (Or.inr (sn106 hw))).other W13 (Or.inr (sn107 hw))).other W16 (Or.inr (sn108 hw))).other W18 (Or.inr (sn109 hw))).other W20 (Or.inr (sn110 hw))).other W22 (Or.inr (sn111 hw)))
  obtain ⟨fs, hr, hrun, hended, hW, hsame⟩ := X22.leave (v := none) (fun _ => rfl)
  refine ⟨_, _, pre0 _ ?_, hrun, hended, _, _, rfl, ?_, ⟨_, rfl⟩, hW, hsame.mono (by decide) (by decide)⟩
  · show Sp p e below s₁ (mkF m 0 #[.val (.ref a1), .val (.long q2), .second, .val (.ref a3), .val .null, .val (.long (0 : Int64)), .second, .val (.ref a4), .val (.ref a5), .val (.ref a6), .val (.int p7), .val (.int p8), .val (.ref w_PENDING), .val (.int (1 : Int32))] []) _
    refine XS.aloadN X0.here hx rfl (hb hby d12_0) rfl rfl ?_
    show Sp p e below s₁ (mkF m 1 #[.val (.ref a1), .val (.long q2), .second, .val (.ref a3), .val .null, .val (.long (0 : Int64)), .second, .val (.ref a4), .val (.ref a5), .val (.ref a6), .val (.int p7), .val (.int p8), .val (.ref w_PENDING), .val (.int (1 : Int32))] [(.ref a1)]) _
    refine st1 _ ?_
    show Sp p e below T1 (mkF m 4 #[.val (.ref a1), .val (.long q2), .second, .val (.ref a3), .val .null, .val (.long (0 : Int64)), .second, .val (.ref a4), .val (.ref a5), .val (.ref a6), .val (.int p7), .val (.int p8), .val (.ref w_PENDING), .val (.int (1 : Int32))] []) _
    refine XS.aloadN X1.here hx rfl (hb hby d12_4) rfl rfl ?_
    refine XS.lloadN X1.here hx rfl (hb hby d12_5) rfl ?_
    show Sp p e below T1 (mkF m 6 #[.val (.ref a1), .val (.long q2), .second, .val (.ref a3), .val .null, .val (.long (0 : Int64)), .second, .val (.ref a4), .val (.ref a5), .val (.ref a6), .val (.int p7), .val (.int p8), .val (.ref w_PENDING), .val (.int (1 : Int32))] [(.long q2), (.ref a1)]) _
    refine st2 _ ?_
    show Sp p e below T2 (mkF m 9 #[.val (.ref a1), .val (.long q2), .second, .val (.ref a3), .val .null, .val (.long (0 : Int64)), .second, .val (.ref a4), .val (.ref a5), .val (.ref a6), .val (.int p7), .val (.int p8), .val (.ref w_PENDING), .val (.int (1 : Int32))] []) _
    refine XS.aloadN X2.here hx rfl (hb hby d12_9) rfl rfl ?_
    refine XS.aloadN X2.here hx rfl (hb hby d12_10) rfl rfl ?_
    show Sp p e below T2 (mkF m 11 #[.val (.ref a1), .val (.long q2), .second, .val (.ref a3), .val .null, .val (.long (0 : Int64)), .second, .val (.ref a4), .val (.ref a5), .val (.ref a6), .val (.int p7), .val (.int p8), .val (.ref w_PENDING), .val (.int (1 : Int32))] [(.ref a3), (.ref a1)]) _
    refine st3 _ ?_
    show Sp p e below T3 (mkF m 14 #[.val (.ref a1), .val (.long q2), .second, .val (.ref a3), .val .null, .val (.long (0 : Int64)), .second, .val (.ref a4), .val (.ref a5), .val (.ref a6), .val (.int p7), .val (.int p8), .val (.ref w_PENDING), .val (.int (1 : Int32))] []) _
    refine XS.aloadN X3.here hx rfl (hb hby d12_14) rfl rfl ?_
    refine XS.aload X3.here hx rfl (hb hby d12_15) rfl rfl ?_
    show Sp p e below T3 (mkF m 17 #[.val (.ref a1), .val (.long q2), .second, .val (.ref a3), .val .null, .val (.long (0 : Int64)), .second, .val (.ref a4), .val (.ref a5), .val (.ref a6), .val (.int p7), .val (.int p8), .val (.ref w_PENDING), .val (.int (1 : Int32))] [.null, (.ref a1)]) _
    refine st5 _ ?_
    show Sp p e below T5 (mkF m 20 #[.val (.ref a1), .val (.long q2), .second, .val (.ref a3), .val .null, .val (.long (0 : Int64)), .second, .val (.ref a4), .val (.ref a5), .val (.ref a6), .val (.int p7), .val (.int p8), .val (.ref w_PENDING), .val (.int (1 : Int32))] []) _
    refine XS.aloadN X5.here hx rfl (hb hby d12_20) rfl rfl ?_
    refine XS.lload X5.here hx rfl (hb hby d12_21) rfl ?_
    show Sp p e below T5 (mkF m 23 #[.val (.ref a1), .val (.long q2), .second, .val (.ref a3), .val .null, .val (.long (0 : Int64)), .second, .val (.ref a4), .val (.ref a5), .val (.ref a6), .val (.int p7), .val (.int p8), .val (.ref w_PENDING), .val (.int (1 : Int32))] [(.long (0 : Int64)), (.ref a1)]) _
    refine st7 _ ?_
    show Sp p e below T7 (mkF m 26 #[.val (.ref a1), .val (.long q2), .second, .val (.ref a3), .val .null, .val (.long (0 : Int64)), .second, .val (.ref a4), .val (.ref a5), .val (.ref a6), .val (.int p7), .val (.int p8), .val (.ref w_PENDING), .val (.int (1 : Int32))] []) _
    refine XS.aloadN X7.here hx rfl (hb hby d12_26) rfl rfl ?_
    refine XS.aload X7.here hx rfl (hb hby d12_27) rfl rfl ?_
    show Sp p e below T7 (mkF m 29 #[.val (.ref a1), .val (.long q2), .second, .val (.ref a3), .val .null, .val (.long (0 : Int64)), .second, .val (.ref a4), .val (.ref a5), .val (.ref a6), .val (.int p7), .val (.int p8), .val (.ref w_PENDING), .val (.int (1 : Int32))] [(.ref a4), (.ref a1)]) _
    refine st9 _ ?_
    show Sp p e below T9 (mkF m 32 #[.val (.ref a1), .val (.long q2), .second, .val (.ref a3), .val .null, .val (.long (0 : Int64)), .second, .val (.ref a4), .val (.ref a5), .val (.ref a6), .val (.int p7), .val (.int p8), .val (.ref w_PENDING), .val (.int (1 : Int32))] []) _
    refine XS.aloadN X9.here hx rfl (hb hby d12_32) rfl rfl ?_
    refine XS.aload X9.here hx rfl (hb hby d12_33) rfl rfl ?_
    show Sp p e below T9 (mkF m 35 #[.val (.ref a1), .val (.long q2), .second, .val (.ref a3), .val .null, .val (.long (0 : Int64)), .second, .val (.ref a4), .val (.ref a5), .val (.ref a6), .val (.int p7), .val (.int p8), .val (.ref w_PENDING), .val (.int (1 : Int32))] [(.ref a5), (.ref a1)]) _
    refine st11 _ ?_
    show Sp p e below T11 (mkF m 38 #[.val (.ref a1), .val (.long q2), .second, .val (.ref a3), .val .null, .val (.long (0 : Int64)), .second, .val (.ref a4), .val (.ref a5), .val (.ref a6), .val (.int p7), .val (.int p8), .val (.ref w_PENDING), .val (.int (1 : Int32))] []) _
    refine XS.aloadN X11.here hx rfl (hb hby d12_38) rfl rfl ?_
    refine XS.aload X11.here hx rfl (hb hby d12_39) rfl rfl ?_
    show Sp p e below T11 (mkF m 41 #[.val (.ref a1), .val (.long q2), .second, .val (.ref a3), .val .null, .val (.long (0 : Int64)), .second, .val (.ref a4), .val (.ref a5), .val (.ref a6), .val (.int p7), .val (.int p8), .val (.ref w_PENDING), .val (.int (1 : Int32))] [(.ref a6), (.ref a1)]) _
    refine st13 _ ?_
    show Sp p e below T13 (mkF m 44 #[.val (.ref a1), .val (.long q2), .second, .val (.ref a3), .val .null, .val (.long (0 : Int64)), .second, .val (.ref a4), .val (.ref a5), .val (.ref a6), .val (.int p7), .val (.int p8), .val (.ref w_PENDING), .val (.int (1 : Int32))] []) _
    refine XS.aloadN X13.here hx rfl (hb hby d12_44) rfl rfl ?_
    refine XS.iload X13.here hx rfl (hb hby d12_45) rfl ?_
    show Sp p e below T13 (mkF m 47 #[.val (.ref a1), .val (.long q2), .second, .val (.ref a3), .val .null, .val (.long (0 : Int64)), .second, .val (.ref a4), .val (.ref a5), .val (.ref a6), .val (.int p7), .val (.int p8), .val (.ref w_PENDING), .val (.int (1 : Int32))] [(.int p7), (.ref a1)]) _
    refine st16 _ ?_
    show Sp p e below T16 (mkF m 50 #[.val (.ref a1), .val (.long q2), .second, .val (.ref a3), .val .null, .val (.long (0 : Int64)), .second, .val (.ref a4), .val (.ref a5), .val (.ref a6), .val (.int p7), .val (.int p8), .val (.ref w_PENDING), .val (.int (1 : Int32))] []) _
    refine XS.aloadN X16.here hx rfl (hb hby d12_50) rfl rfl ?_
    refine XS.iload X16.here hx rfl (hb hby d12_51) rfl ?_
    show Sp p e below T16 (mkF m 53 #[.val (.ref a1), .val (.long q2), .second, .val (.ref a3), .val .null, .val (.long (0 : Int64)), .second, .val (.ref a4), .val (.ref a5), .val (.ref a6), .val (.int p7), .val (.int p8), .val (.ref w_PENDING), .val (.int (1 : Int32))] [(.int p8), (.ref a1)]) _
    refine st18 _ ?_
    show Sp p e below T18 (mkF m 56 #[.val (.ref a1), .val (.long q2), .second, .val (.ref a3), .val .null, .val (.long (0 : Int64)), .second, .val (.ref a4), .val (.ref a5), .val (.ref a6), .val (.int p7), .val (.int p8), .val (.ref w_PENDING), .val (.int (1 : Int32))] []) _
    refine XS.aloadN X18.here hx rfl (hb hby d12_56) rfl rfl ?_
    refine XS.aload X18.here hx rfl (hb hby d12_57) rfl rfl ?_
    show Sp p e below T18 (mkF m 59 #[.val (.ref a1), .val (.long q2), .second, .val (.ref a3), .val .null, .val (.long (0 : Int64)), .second, .val (.ref a4), .val (.ref a5), .val (.ref a6), .val (.int p7), .val (.int p8), .val (.ref w_PENDING), .val (.int (1 : Int32))] [(.ref w_PENDING), (.ref a1)]) _
    refine st20 _ ?_
    show Sp p e below T20 (mkF m 62 #[.val (.ref a1), .val (.long q2), .second, .val (.ref a3), .val .null, .val (.long (0 : Int64)), .second, .val (.ref a4), .val (.ref a5), .val (.ref a6), .val (.int p7), .val (.int p8), .val (.ref w_PENDING), .val (.int (1 : Int32))] []) _
    refine XS.aloadN X20.here hx rfl (hb hby d12_62) rfl rfl ?_
    refine XS.iload X20.here hx rfl (hb hby d12_63) rfl ?_
    show Sp p e below T20 (mkF m 65 #[.val (.ref a1), .val (.long q2), .second, .val (.ref a3), .val .null, .val (.long (0 : Int64)), .second, .val (.ref a4), .val (.ref a5), .val (.ref a6), .val (.int p7), .val (.int p8), .val (.ref w_PENDING), .val (.int (1 : Int32))] [(.int (1 : Int32)), (.ref a1)]) _
    refine st22 _ ?_
    show Sp p e below T22 (mkF m 68 #[.val (.ref a1), .val (.long q2), .second, .val (.ref a3), .val .null, .val (.long (0 : Int64)), .second, .val (.ref a4), .val (.ref a5), .val (.ref a6), .val (.int p7), .val (.int p8), .val (.ref w_PENDING), .val (.int (1 : Int32))] []) _
    exact X22.returnOut hx Bd.returns (hb hby d12_68) hr
  · show Q26 Z w_PENDING w_IGNORE cs_v a1 q2 a3 a4 a5 a6 p7 p8 h0 n0 _ T22.heap _
    rw [e22]
    exact ⟨rfl, N22, K22, ((((f_14.wr W16).wr W18).wr W20).wr W22), f_23, (Fw20.other W22 (Or.inr (sn60 hw))), Fw22, f_24, f_25, f_26, f_27, f_28, f_29, f_30, f_31⟩
def Q27 (Z : State) (w_PENDING : Addr) (w_IGNORE : Addr) (cs_v : Int32) (a1 : Addr) (q2 : Int64) (a3 : Addr) (a4 : Addr) (a5 : Addr) (a6 : Addr) (p7 : Int32) (p8 : Int32) (h0 : Heap) (n0 : Nat) (v : Option Value) (h : Heap) (L : List Loc) : Prop := v = none ∧ Fr n0 L ∧ Keep h0 h [a1] ∧ Exa Z h a1 "com/example/graph_job_runner/graphjobrunner/ClaimedNode" ∧ Fld Z h a1 "com/example/graph_job_runner/graphjobrunner/ClaimedNode" "attempt" "I" (.int p7) ∧ Fld Z h a1 "com/example/graph_job_runner/graphjobrunner/ClaimedNode" "failStrategy" "Lcom/example/graph_job_runner/graphjobrunner/FailStrategy;" (.ref w_PENDING) ∧ Fld Z h a1 "com/example/graph_job_runner/graphjobrunner/ClaimedNode" "hasChildren" "Z" (.int (1 : Int32)) ∧ Fld Z h a1 "com/example/graph_job_runner/graphjobrunner/ClaimedNode" "id" "J" (.long q2) ∧ Fld Z h a1 "com/example/graph_job_runner/graphjobrunner/ClaimedNode" "nodeKey" "Ljava/lang/String;" (.ref a4) ∧ Fld Z h a1 "com/example/graph_job_runner/graphjobrunner/ClaimedNode" "payload" "[B" (.ref a6) ∧ Fld Z h a1 "com/example/graph_job_runner/graphjobrunner/ClaimedNode" "position" "J" (.long (0 : Int64)) ∧ Fld Z h a1 "com/example/graph_job_runner/graphjobrunner/ClaimedNode" "processor" "Ljava/lang/String;" (.ref a5) ∧ Fld Z h a1 "com/example/graph_job_runner/graphjobrunner/ClaimedNode" "retryLimit" "I" (.int p8) ∧ Fld Z h a1 "com/example/graph_job_runner/graphjobrunner/ClaimedNode" "runKey" "Ljava/lang/String;" (.ref a3) ∧ Fld Z h a1 "com/example/graph_job_runner/graphjobrunner/ClaimedNode" "streamKey" "Ljava/lang/String;" .null
set_option maxRecDepth 65536 in
set_option maxHeartbeats 40000000 in
theorem rm27 (l : Launch) (Z : State) (a0 : Array Value) (hw : ∀ d ∈ tables_1, d.before a0 Z = true) (ws : List Jvm.Cond) (w_PENDING w_IGNORE : Addr) (cs_v : Int32) (hp : Perm Z w_PENDING w_IGNORE cs_v) (a1 : Addr) (q2 : Int64) (a3 : Addr) (a4 : Addr) (a5 : Addr) (a6 : Addr) (p7 : Int32) (p8 : Int32) (h0 : Heap) (n0 : Nat) (O0 : Old Z n0 h0) (E_a1 : Exa Z h0 a1 "com/example/graph_job_runner/graphjobrunner/ClaimedNode") (F_id_a1 : Fld Z h0 a1 "com/example/graph_job_runner/graphjobrunner/ClaimedNode" "id" "J" (.long (0 : Int64))) (F_runKey_a1 : Fld Z h0 a1 "com/example/graph_job_runner/graphjobrunner/ClaimedNode" "runKey" "Ljava/lang/String;" .null) (F_streamKey_a1 : Fld Z h0 a1 "com/example/graph_job_runner/graphjobrunner/ClaimedNode" "streamKey" "Ljava/lang/String;" .null) (F_position_a1 : Fld Z h0 a1 "com/example/graph_job_runner/graphjobrunner/ClaimedNode" "position" "J" (.long (0 : Int64))) (F_nodeKey_a1 : Fld Z h0 a1 "com/example/graph_job_runner/graphjobrunner/ClaimedNode" "nodeKey" "Ljava/lang/String;" .null) (F_processor_a1 : Fld Z h0 a1 "com/example/graph_job_runner/graphjobrunner/ClaimedNode" "processor" "Ljava/lang/String;" .null) (F_payload_a1 : Fld Z h0 a1 "com/example/graph_job_runner/graphjobrunner/ClaimedNode" "payload" "[B" .null) (F_attempt_a1 : Fld Z h0 a1 "com/example/graph_job_runner/graphjobrunner/ClaimedNode" "attempt" "I" (.int (0 : Int32))) (F_retryLimit_a1 : Fld Z h0 a1 "com/example/graph_job_runner/graphjobrunner/ClaimedNode" "retryLimit" "I" (.int (0 : Int32))) (F_failStrategy_a1 : Fld Z h0 a1 "com/example/graph_job_runner/graphjobrunner/ClaimedNode" "failStrategy" "Lcom/example/graph_job_runner/graphjobrunner/FailStrategy;" .null) (F_hasChildren_a1 : Fld Z h0 a1 "com/example/graph_job_runner/graphjobrunner/ClaimedNode" "hasChildren" "Z" (.int (0 : Int32))) (g_a1 : n0 ≤ a1) :
    MetFree l y10 (head1 (Jvm.Cond.code y10 prog_3_method_1_code 11 none :: ws) ({ frames := 2, cells := 0, slots := 0, locals := 37 } : Room)) (fun a U => a = #[(.ref a1), (.long q2), (.ref a3), (.ref a4), (.ref a5), (.ref a6), (.int p7), (.int p8), (.ref w_PENDING), (.int (1 : Int32))] ∧ Z.Warmed39 U.vm ∧ U.heap = h0) (fun _ _ _ _ _ => True) (fun _ U o U' => ∃ v L, o = .returned v ∧ Q27 Z w_PENDING w_IGNORE cs_v a1 q2 a3 a4 a5 a6 p7 p8 h0 n0 v U'.heap L ∧ FrameEnd U o U' L ({ frames := 2, cells := 0, slots := 0, locals := 37 } : Room).cells ({ frames := 2, cells := 0, slots := 0, locals := 37 } : Room).slots) := by
  refine MetFree.of_bodySF (plainFor_of_name pn_12) hisR ?_
  intro p e s m args below meth c s₁ Bd hml0 hP hK
  obtain ⟨rfl, hZ, hh⟩ := hP
  have hx := Bd.exec
  have hby := Bd.bytes
  have hml : c.maxLocals = 11 := hml0
  have hown : s.vm.findClass "com/example/graph_job_runner/graphjobrunner/ClaimedNode" = some m.cls := findClass_of_methodNamed Bd.named
  have hnm := (name_of_methodNamed Bd.named Bd.method).1
  have X0 : Stand p l e ({ frames := 2, cells := 0, slots := 0, locals := 37 } : Room) s m #[(.ref a1), (.long q2), (.ref a3), (.ref a4), (.ref a5), (.ref a6), (.int p7), (.int p8), (.ref w_PENDING), (.int (1 : Int32))] below meth c s₁ [] 0 0 := Stand.of_body Bd
  have e0 : s₁.heap = h0 := by rw [← hh, Bd.state]; rfl
  have N0 := Fr.nil n0
  have hp' := hp
  obtain ⟨S_w_PENDING, E_w_PENDING, S_w_IGNORE, E_w_IGNORE, S_COMPACT_STRINGS, h_cs⟩ := hp'
  have pre0 : ∀ t, Steps p.tables e below (s₁.setTop (mkF m 0 #[.val (.ref a1), .val (.long q2), .second, .val (.ref a3), .val (.ref a4), .val (.ref a5), .val (.ref a6), .val (.int p7), .val (.int p8), .val (.ref w_PENDING), .val (.int (1 : Int32))] [])) t → Steps p.tables e below (s₁.setTop (entryFrame m #[(.ref a1), (.long q2), (.ref a3), (.ref a4), (.ref a5), (.ref a6), (.int p7), (.int p8), (.ref w_PENDING), (.int (1 : Int32))] 11)) t := fun t k => castTop (ef_11_0 m a1 q2 a3 a4 a5 a6 p7 p8 w_PENDING (1 : Int32)) k
  obtain ⟨_, _, ⟨T1, L1, k1, n1⟩, -, X1, ⟨Lc1, hQ1, l1, y1, z1⟩, st1⟩ := X0.specialBack hx (y := y9) rfl hown (mvT hZ (hw _ (List.mem_of_getElem? (i := 53) rfl))) (mvT hZ (hw _ (List.mem_of_getElem? (i := 54) rfl))) (mvT hZ (hw _ (List.mem_of_getElem? (i := 55) rfl))) (by decide) (backOf (W := 0) (rm26 l Z a0 hw [] w_PENDING w_IGNORE cs_v hp a1 q2 a3 a4 a5 a6 p7 p8 h0 n0 O0 E_a1 F_id_a1 F_runKey_a1 F_streamKey_a1 F_position_a1 F_nodeKey_a1 F_processor_a1 F_payload_a1 F_attempt_a1 F_retryLimit_a1 F_failStrategy_a1 F_hasChildren_a1 g_a1) hZ (hw _ (List.mem_of_getElem? (i := 55) rfl)) (hw _ (List.mem_of_getElem? (i := 49) rfl)) (by decide) (by decide)) (g := (mkF m 19 #[.val (.ref a1), .val (.long q2), .second, .val (.ref a3), .val (.ref a4), .val (.ref a5), .val (.ref a6), .val (.int p7), .val (.int p8), .val (.ref w_PENDING), .val (.int (1 : Int32))] [(.int (1 : Int32)), (.ref w_PENDING), (.int p8), (.int p7), (.ref a6), (.ref a5), (.ref a4), (.long (0 : Int64)), .null, (.ref a3), (.long q2), (.ref a1)])) rfl (by rw [hml]; rfl) (Steps.refl _) (a := a1) (argsL := [(.long q2), (.ref a3), .null, (.long (0 : Int64)), (.ref a4), (.ref a5), (.ref a6), (.int p7), (.int p8), (.ref w_PENDING), (.int (1 : Int32))]) (rest := []) (lenOf pd_9 rfl) rfl (by show 2 * 0 + _ ≤ _; exact Nat.le_of_eq rfl) (hb hby d11_19) (fun _ _ => ⟨rfl, e0, (by decide : 0 + 0 ≤ _), (by decide : 0 + 0 ≤ _)⟩)
  dsimp only [Pt.U, Pt.locs, Pt.cells, Pt.slots] at X1 l1 y1 z1 st1 hQ1
  subst l1 y1 z1
  obtain ⟨rfl, Nq1, Kq1, fq1_0, fq1_1, fq1_2, fq1_3, fq1_4, fq1_5, fq1_6, fq1_7, fq1_8, fq1_9, fq1_10, fq1_11⟩ := hQ1
  have N1 := Fr.app N0 Nq1
  have O1 := O0.keep Kq1 (allS g_a1 all0)
  have K1 : Keep h0 T1.heap [a1] := (Keep.refl h0 [a1]).trans Kq1 (allS (Or.inl (List.mem_of_getElem? (i := 0) rfl)) all0)
  obtain ⟨fs, hr, hrun, hended, hW, hsame⟩ := X1.leave (v := none) (fun _ => rfl)
  refine ⟨_, _, pre0 _ ?_, hrun, hended, _, _, rfl, ?_, ⟨_, rfl⟩, hW, hsame.mono (by decide) (by decide)⟩
  · show Sp p e below s₁ (mkF m 0 #[.val (.ref a1), .val (.long q2), .second, .val (.ref a3), .val (.ref a4), .val (.ref a5), .val (.ref a6), .val (.int p7), .val (.int p8), .val (.ref w_PENDING), .val (.int (1 : Int32))] []) _
    refine XS.aloadN X0.here hx rfl (hb hby d11_0) rfl rfl ?_
    refine XS.lloadN X0.here hx rfl (hb hby d11_1) rfl ?_
    refine XS.aloadN X0.here hx rfl (hb hby d11_2) rfl rfl ?_
    refine XS.aconstNull X0.here hx rfl (hb hby d11_3) ?_
    refine XS.lconst X0.here hx rfl (hb hby d11_4) ?_
    refine XS.aload X0.here hx rfl (hb hby d11_5) rfl rfl ?_
    refine XS.aload X0.here hx rfl (hb hby d11_7) rfl rfl ?_
    refine XS.aload X0.here hx rfl (hb hby d11_9) rfl rfl ?_
    refine XS.iload X0.here hx rfl (hb hby d11_11) rfl ?_
    refine XS.iload X0.here hx rfl (hb hby d11_13) rfl ?_
    refine XS.aload X0.here hx rfl (hb hby d11_15) rfl rfl ?_
    refine XS.iload X0.here hx rfl (hb hby d11_17) rfl ?_
    show Sp p e below s₁ (mkF m 19 #[.val (.ref a1), .val (.long q2), .second, .val (.ref a3), .val (.ref a4), .val (.ref a5), .val (.ref a6), .val (.int p7), .val (.int p8), .val (.ref w_PENDING), .val (.int (1 : Int32))] [(.int (1 : Int32)), (.ref w_PENDING), (.int p8), (.int p7), (.ref a6), (.ref a5), (.ref a4), (.long (0 : Int64)), .null, (.ref a3), (.long q2), (.ref a1)]) _
    refine st1.trans ?_
    show Sp p e below T1 (mkF m 22 #[.val (.ref a1), .val (.long q2), .second, .val (.ref a3), .val (.ref a4), .val (.ref a5), .val (.ref a6), .val (.int p7), .val (.int p8), .val (.ref w_PENDING), .val (.int (1 : Int32))] []) _
    exact X1.returnOut hx Bd.returns (hb hby d11_22) hr
  · show Q27 Z w_PENDING w_IGNORE cs_v a1 q2 a3 a4 a5 a6 p7 p8 h0 n0 _ T1.heap _
    exact ⟨rfl, N1, K1, fq1_0, fq1_1, fq1_2, fq1_3, fq1_4, fq1_5, fq1_6, fq1_7, fq1_8, fq1_9, fq1_10, fq1_11⟩
set_option maxRecDepth 65536 in
set_option maxHeartbeats 40000000 in
theorem rm28 (l : Launch) (Z : State) (a0 : Array Value) (hw : ∀ d ∈ tables_1, d.before a0 Z = true) (ws : List Jvm.Cond) (w_PENDING w_IGNORE : Addr) (cs_v : Int32) (hp : Perm Z w_PENDING w_IGNORE cs_v) (p0 : Int64) (p1 : Int64) (p2 : Int32) (p3 : Int32) (p4 : Int32) (p5 : Int32) (h0 : Heap) (n0 : Nat) (O0 : Old Z n0 h0) (hc1 : ¬ ((p5 &&& (2 : Int32)) = (0 : Int32))) (hc2 : (p5 &&& (1 : Int32)) = (0 : Int32)) (hc3 : ¬ ((p5 &&& (4 : Int32)) = (0 : Int32))) :
    MetFree l x (head1 (Jvm.Cond.code x code maxLocals ret :: ws) room_1) (fun a U => a = #[(.long p0), (.long p1), (.int p2), (.int p3), (.int p4), (.int p5)] ∧ Z.Warmed39 U.vm ∧ U.heap = h0) (fun _ _ _ _ _ => True) (fun _ U o U' => ∃ v L, o = .returned v ∧ (v = some (.int (1 : Int32)) ∧ Fr n0 L) ∧ FrameEnd U o U' L 32 128) := by
  refine MetFree.of_bodySF (plainFor_of_name pn_0) hisR ?_
  intro p e s m args below meth c s₁ Bd hml0 hP hK
  obtain ⟨rfl, hZ, hh⟩ := hP
  have hx := Bd.exec
  have hby := Bd.bytes
  have hml : c.maxLocals = 17 := hml0
  have hown : s.vm.findClass "com/example/graph_job_runner/graphjobrunner/ClaimedNodeInStreamPinLaw" = some m.cls := findClass_of_methodNamed Bd.named
  have hnm := (name_of_methodNamed Bd.named Bd.method).1
  have X0 : Stand p l e room_1 s m #[(.long p0), (.long p1), (.int p2), (.int p3), (.int p4), (.int p5)] below meth c s₁ [] 0 0 := Stand.of_body Bd
  have e0 : s₁.heap = h0 := by rw [← hh, Bd.state]; rfl
  have N0 := Fr.nil n0
  have hp' := hp
  obtain ⟨S_w_PENDING, E_w_PENDING, S_w_IGNORE, E_w_IGNORE, S_COMPACT_STRINGS, h_cs⟩ := hp'
  have pre0 : ∀ t, Steps p.tables e below (s₁.setTop (mkF m 0 #[.val (.long p0), .second, .val (.long p1), .second, .val (.int p2), .val (.int p3), .val (.int p4), .val (.int p5), .unset, .unset, .unset, .unset, .unset, .unset, .unset, .unset, .unset] [])) t → Steps p.tables e below (s₁.setTop (entryFrame m #[(.long p0), (.long p1), (.int p2), (.int p3), (.int p4), (.int p5)] maxLocals)) t := fun t k => castTop (ef_0_0 m p0 p1 p2 p3 p4 p5) k
  obtain ⟨T1, h1, k1, X1, e1, E1, A1, EA1, st1⟩ := newPE X0 hx hZ (hw _ (List.mem_of_getElem? (i := 0) rfl)) e0 (g := (mkF m 1 #[.val (.long p0), .second, .val (.long p1), .second, .val (.int p2), .val (.int p3), .val (.int p4), .val (.int p5), .unset, .unset, .unset, .unset, .unset, .unset, .unset, .unset, .unset] [(.int (2 : Int32))])) rfl (hb hby at_1) rfl (by decide) (cap := 2) (by decide) (by decide) (by decide) (by decide) (ad := "[C") (by decide)
  obtain ⟨b1, g1⟩ : ∃ z, z = h0.size := ⟨_, rfl⟩
  rw [← g1] at A1 EA1 st1
  have g_b1 : n0 ≤ b1 := Nat.le_trans (own_sz O0) (Nat.le_of_eq g1.symm)
  have sz_b1 : h0.size ≤ b1 := Nat.le_trans (Keep.refl h0 []).1 (Nat.le_of_eq g1.symm)
  have O1 := O0.ext E1
  have K1 : Keep h0 h1 [] := (Keep.refl h0 []).ext E1
  have V_b1 : Arv Z h1 b1 k1 .char (2 : Int32) [(.int (0 : Int32)), (.int (0 : Int32))] (.int (0 : Int32)) := (Arv.new A1 (by decide)).pad (pad_rep [] (.int (0 : Int32)) 2)
  obtain ⟨cl2, Ar2, q2, S2, Nn2, H2, G2⟩ := id V_b1
  have hin2 : ¬ ((0 : Int32) < 0 ∨ cl2.slots.size ≤ ((0 : Int32)).toNatClampNeg) := inb_of S2 ⟨by decide, by decide⟩
  obtain ⟨T3, h3, X3, e3, W3, st3⟩ := stC X1 hx hZ e1 Ar2 (j := (0 : Int32)) hin2 (g := (mkF m 15 #[.val (.long p0), .second, .val (.long p1), .second, .val (.int p2), .val (.int p3), .val (.int p4), .val (.int p5), .val (.ref b1), .unset, .unset, .unset, .unset, .unset, .unset, .unset, .unset] [(.int ((p4 &&& (255 : Int32)).toUInt32.toUInt16.toUInt32.toInt32)), (.int (0 : Int32)), (.ref b1)])) rfl rfl (hb hby at_15)
  have N3 := Fr.snoc X3 N0 g_b1
  have O3 := O1.wr W3 g_b1
  have K3 : Keep h0 h3 [] := K1.wr W3 (Or.inr sz_b1)
  have V_b1_3 : Arv Z h3 b1 k1 .char (2 : Int32) [(.int (nar .char ((p4 &&& (255 : Int32)).toUInt32.toUInt16.toUInt32.toInt32))), (.int (0 : Int32))] (.int (0 : Int32)) := Arv.set Ar2 q2 S2 Nn2 H2 G2 (fits_nar_char _) W3 0 rfl (Nat.le_of_ble_eq_true rfl)
  obtain ⟨cl4, Ar4, q4, S4, Nn4, H4, G4⟩ := id V_b1_3
  have hin4 : ¬ ((1 : Int32) < 0 ∨ cl4.slots.size ≤ ((1 : Int32)).toNatClampNeg) := inb_of S4 ⟨by decide, by decide⟩
  obtain ⟨T5, h5, X5, e5, W5, st5⟩ := stC X3 hx hZ e3 Ar4 (j := (1 : Int32)) hin4 (g := (mkF m 29 #[.val (.long p0), .second, .val (.long p1), .second, .val (.int p2), .val (.int p3), .val (.int p4), .val (.int p5), .val (.ref b1), .unset, .unset, .unset, .unset, .unset, .unset, .unset, .unset] [(.int ((((p4.toUInt32 >>> ((8 : Int32) &&& 31).toUInt32).toInt32) &&& (255 : Int32)).toUInt32.toUInt16.toUInt32.toInt32)), (.int (1 : Int32)), (.ref b1)])) rfl rfl (hb hby at_29)
  have N5 := Fr.snoc X5 N3 g_b1
  have O5 := O3.wr W5 g_b1
  have K5 : Keep h0 h5 [] := K3.wr W5 (Or.inr sz_b1)
  have V_b1_5 : Arv Z h5 b1 k1 .char (2 : Int32) [(.int (nar .char ((p4 &&& (255 : Int32)).toUInt32.toUInt16.toUInt32.toInt32))), (.int (nar .char ((((p4.toUInt32 >>> ((8 : Int32) &&& 31).toUInt32).toInt32) &&& (255 : Int32)).toUInt32.toUInt16.toUInt32.toInt32)))] (.int (0 : Int32)) := Arv.set Ar4 q4 S4 Nn4 H4 G4 (fits_nar_char _) W5 1 rfl (Nat.le_of_ble_eq_true rfl)
  obtain ⟨T6, h6, X6, e6, E6, A6, D6, -, st6⟩ := newO X5 hx hZ hown (hw _ (List.mem_of_getElem? (i := 1) rfl)) (hw _ (List.mem_of_getElem? (i := 2) rfl)) (hw _ (List.mem_of_getElem? (i := 3) rfl)) e5 (g := (mkF m 30 #[.val (.long p0), .second, .val (.long p1), .second, .val (.int p2), .val (.int p3), .val (.int p4), .val (.int p5), .val (.ref b1), .unset, .unset, .unset, .unset, .unset, .unset, .unset, .unset] [])) rfl (hb hby at_30) (by decide) (by decide)
  obtain ⟨b6, g6⟩ : ∃ z, z = h5.size := ⟨_, rfl⟩
  rw [← g6] at A6 D6 st6
  have g_b6 : n0 ≤ b6 := Nat.le_trans (own_sz O5) (Nat.le_of_eq g6.symm)
  have sz_b6 : h0.size ≤ b6 := Nat.le_trans K5.1 (Nat.le_of_eq g6.symm)
  have O6 := O5.ext E6
  have K6 : Keep h0 h6 [] := K5.ext E6
  have F_coder_b6 : Fld Z h6 b6 "java/lang/String" "coder" "B" (.int (0 : Int32)) := D6 (Or.inr (hw _ (List.mem_of_getElem? (i := 27) rfl))) (ty := .byte) (by decide)
  have F_value_b6 : Fld Z h6 b6 "java/lang/String" "value" "[B" .null := D6 (Or.inr (hw _ (List.mem_of_getElem? (i := 29) rfl))) (ty := (.array .byte)) (by decide)
  obtain ⟨_, _, ⟨T7, L7, k7, n7⟩, -, X7, ⟨Lc7, hQ7, l7, y7, z7⟩, st7⟩ := X6.specialBack hx (y := y4) rfl hown (mvT hZ (hw _ (List.mem_of_getElem? (i := 4) rfl))) (mvT hZ (hw _ (List.mem_of_getElem? (i := 5) rfl))) (mvT hZ (hw _ (List.mem_of_getElem? (i := 6) rfl))) (by decide) (backOf (W := 1) (rm5 l Z a0 hw [] w_PENDING w_IGNORE cs_v hp b6 b1 k1 (nar .char ((p4 &&& (255 : Int32)).toUInt32.toUInt16.toUInt32.toInt32)) (nar .char ((((p4.toUInt32 >>> ((8 : Int32) &&& 31).toUInt32).toInt32) &&& (255 : Int32)).toUInt32.toUInt16.toUInt32.toInt32)) h6 n0 O6 (V_b1_5.ext E6) (own_ch2 p4) (own_ch2 ((p4.toUInt32 >>> ((8 : Int32) &&& 31).toUInt32).toInt32)) (((EA1.wr W3).wr W5).ext E6) A6 F_coder_b6 F_value_b6 g_b6) hZ (hw _ (List.mem_of_getElem? (i := 6) rfl)) (hw _ (List.mem_of_getElem? (i := 3) rfl)) (by decide) (by decide)) (g := (mkF m 36 #[.val (.long p0), .second, .val (.long p1), .second, .val (.int p2), .val (.int p3), .val (.int p4), .val (.int p5), .val (.ref b1), .unset, .unset, .unset, .unset, .unset, .unset, .unset, .unset] [(.ref b1), (.ref b6), (.ref b6)])) rfl (by rw [hml]; rfl) (Steps.refl _) (a := b6) (argsL := [(.ref b1)]) (rest := [(.ref b6)]) (lenOf pd_4 rfl) rfl (by show 2 * 0 + _ ≤ _; exact Nat.le_of_eq rfl) (hb hby at_36) (fun _ _ => ⟨rfl, e6, (by decide : 2 + 1 ≤ _), (by decide : 6 + 2 ≤ _)⟩)
  dsimp only [Pt.U, Pt.locs, Pt.cells, Pt.slots] at X7 l7 y7 z7 st7 hQ7
  subst l7 y7 z7
  obtain ⟨b7_0, kc7_0, rfl, Nq7, Kq7, sq_b7_0, fq7_0, fq7_1, fq7_2, fq7_3, fq7_4⟩ := hQ7
  have N7 := Fr.app N5 Nq7
  have g_b7_0 : n0 ≤ b7_0 := Nat.le_trans (own_sz O6) sq_b7_0
  have sz_b7_0 : h0.size ≤ b7_0 := Nat.le_trans K6.1 sq_b7_0
  have O7 := O6.keep Kq7 (allS g_b6 all0)
  have K7 : Keep h0 T7.heap [] := K6.trans Kq7 (allS (Or.inr sz_b6) all0)
  obtain ⟨_, _, ⟨T8, L8, k8, n8⟩, -, X8, ⟨Lc8, hQ8, l8, y8, z8⟩, st8⟩ := Jvm.LawKit.callS X7 hx (y := y8) hown (mvT hZ (hw _ (List.mem_of_getElem? (i := 30) rfl))) (mvT hZ (hw _ (List.mem_of_getElem? (i := 31) rfl))) (mvT hZ (hw _ (List.mem_of_getElem? (i := 3) rfl))) (mvT hZ (hw _ (List.mem_of_getElem? (i := 32) rfl))) (by decide) (backOf (W := 0) (rm9 l Z a0 hw [] w_PENDING w_IGNORE cs_v hp ((((p4.toUInt32 >>> ((16 : Int32) &&& 31).toUInt32).toInt32) &&& (255 : Int32)).toUInt32.toUInt16.toUInt32.toInt32) T7.heap n0 O7 (own_ch1 ((p4.toUInt32 >>> ((16 : Int32) &&& 31).toUInt32).toInt32))) hZ (hw _ (List.mem_of_getElem? (i := 32) rfl)) (hw _ (List.mem_of_getElem? (i := 3) rfl)) (by decide) (by decide)) (g := (mkF m 51 #[.val (.long p0), .second, .val (.long p1), .second, .val (.int p2), .val (.int p3), .val (.int p4), .val (.int p5), .val (.ref b1), .val (.ref b6), .unset, .unset, .unset, .unset, .unset, .unset, .unset] [(.int ((((p4.toUInt32 >>> ((16 : Int32) &&& 31).toUInt32).toInt32) &&& (255 : Int32)).toUInt32.toUInt16.toUInt32.toInt32))])) rfl (by rw [hml]; rfl) (argsL := [(.int ((((p4.toUInt32 >>> ((16 : Int32) &&& 31).toUInt32).toInt32) &&& (255 : Int32)).toUInt32.toUInt16.toUInt32.toInt32))]) (rest := []) (lenOf pd_8 rfl) rfl (by show 2 * 0 + _ ≤ _; exact Nat.le_of_eq rfl) (hb hby at_51) (fun _ _ => ⟨rfl, rfl, (by decide : 3 + 2 ≤ _), (by decide : 8 + 5 ≤ _)⟩)
  dsimp only [Pt.U, Pt.locs, Pt.cells, Pt.slots] at X8 l8 y8 z8 st8 hQ8
  subst l8 y8 z8
  obtain ⟨b8_0, b8_1, kc8_0, rfl, Nq8, Kq8, sq_b8_0, sq_b8_1, nq8_0, fq8_0, fq8_1, fq8_2, fq8_3, fq8_4⟩ := hQ8
  have N8 := Fr.app N7 Nq8
  have g_b8_0 : n0 ≤ b8_0 := Nat.le_trans (own_sz O7) sq_b8_0
  have sz_b8_0 : h0.size ≤ b8_0 := Nat.le_trans K7.1 sq_b8_0
  have g_b8_1 : n0 ≤ b8_1 := Nat.le_trans (own_sz O7) sq_b8_1
  have sz_b8_1 : h0.size ≤ b8_1 := Nat.le_trans K7.1 sq_b8_1
  have O8 := O7.keep Kq8 all0
  have K8 : Keep h0 T8.heap [] := K7.trans Kq8 all0
  obtain ⟨_, _, ⟨T9, L9, k9, n9⟩, -, X9, ⟨Lc9, hQ9, l9, y9, z9⟩, st9⟩ := Jvm.LawKit.callS X8 hx (y := y8) hown (mvT hZ (hw _ (List.mem_of_getElem? (i := 30) rfl))) (mvT hZ (hw _ (List.mem_of_getElem? (i := 31) rfl))) (mvT hZ (hw _ (List.mem_of_getElem? (i := 3) rfl))) (mvT hZ (hw _ (List.mem_of_getElem? (i := 32) rfl))) (by decide) (backOf (W := 0) (rm9 l Z a0 hw [] w_PENDING w_IGNORE cs_v hp ((((p4.toUInt32 >>> ((24 : Int32) &&& 31).toUInt32).toInt32) &&& (255 : Int32)).toUInt32.toUInt16.toUInt32.toInt32) T8.heap n0 O8 (own_ch1 ((p4.toUInt32 >>> ((24 : Int32) &&& 31).toUInt32).toInt32))) hZ (hw _ (List.mem_of_getElem? (i := 32) rfl)) (hw _ (List.mem_of_getElem? (i := 3) rfl)) (by decide) (by decide)) (g := (mkF m 66 #[.val (.long p0), .second, .val (.long p1), .second, .val (.int p2), .val (.int p3), .val (.int p4), .val (.int p5), .val (.ref b1), .val (.ref b6), .val (.ref b8_0), .unset, .unset, .unset, .unset, .unset, .unset] [(.int ((((p4.toUInt32 >>> ((24 : Int32) &&& 31).toUInt32).toInt32) &&& (255 : Int32)).toUInt32.toUInt16.toUInt32.toInt32))])) rfl (by rw [hml]; rfl) (argsL := [(.int ((((p4.toUInt32 >>> ((24 : Int32) &&& 31).toUInt32).toInt32) &&& (255 : Int32)).toUInt32.toUInt16.toUInt32.toInt32))]) (rest := []) (lenOf pd_8 rfl) rfl (by show 2 * 0 + _ ≤ _; exact Nat.le_of_eq rfl) (hb hby at_66) (fun _ _ => ⟨rfl, rfl, (by decide : 5 + 2 ≤ _), (by decide : 13 + 5 ≤ _)⟩)
  dsimp only [Pt.U, Pt.locs, Pt.cells, Pt.slots] at X9 l9 y9 z9 st9 hQ9
  subst l9 y9 z9
  obtain ⟨b9_0, b9_1, kc9_0, rfl, Nq9, Kq9, sq_b9_0, sq_b9_1, nq9_0, fq9_0, fq9_1, fq9_2, fq9_3, fq9_4⟩ := hQ9
  have N9 := Fr.app N8 Nq9
  have g_b9_0 : n0 ≤ b9_0 := Nat.le_trans (own_sz O8) sq_b9_0
  have sz_b9_0 : h0.size ≤ b9_0 := Nat.le_trans K8.1 sq_b9_0
  have g_b9_1 : n0 ≤ b9_1 := Nat.le_trans (own_sz O8) sq_b9_1
  have sz_b9_1 : h0.size ≤ b9_1 := Nat.le_trans K8.1 sq_b9_1
  have O9 := O8.keep Kq9 all0
  have K9 : Keep h0 T9.heap [] := K8.trans Kq9 all0
  obtain ⟨T10, X10, e10, st10⟩ := getS2 X9 hx hZ hown (host := "") (Or.inl (hw _ (List.mem_of_getElem? (i := 44) rfl))) Via.refl rfl (S_w_PENDING.ext O9.2) (g := (mkF m 78 #[.val (.long p0), .second, .val (.long p1), .second, .val (.int p2), .val (.int p3), .val (.int p4), .val (.int p5), .val (.ref b1), .val (.ref b6), .val (.ref b8_0), .val (.ref b9_0), .unset, .unset, .unset, .unset, .unset] [])) rfl (hb hby at_78)
  obtain ⟨T11, h11, k11, X11, e11, E11, A11, EA11, st11⟩ := newPE X10 hx hZ (hw _ (List.mem_of_getElem? (i := 19) rfl)) e10 (g := (mkF m 90 #[.val (.long p0), .second, .val (.long p1), .second, .val (.int p2), .val (.int p3), .val (.int p4), .val (.int p5), .val (.ref b1), .val (.ref b6), .val (.ref b8_0), .val (.ref b9_0), .val (.ref w_PENDING), .unset, .unset, .unset, .unset] [(.int (1 : Int32))])) rfl (hb hby at_90) rfl (by decide) (cap := 1) (by decide) (by decide) (by decide) (by decide) (ad := "[B") (by decide)
  obtain ⟨b11, g11⟩ : ∃ z, z = T9.heap.size := ⟨_, rfl⟩
  rw [← g11] at A11 EA11 st11
  have g_b11 : n0 ≤ b11 := Nat.le_trans (own_sz O9) (Nat.le_of_eq g11.symm)
  have sz_b11 : h0.size ≤ b11 := Nat.le_trans K9.1 (Nat.le_of_eq g11.symm)
  have O11 := O9.ext E11
  have K11 : Keep h0 h11 [] := K9.ext E11
  have V_b11 : Arv Z h11 b11 k11 .byte (1 : Int32) [(.int (0 : Int32))] (.int (0 : Int32)) := (Arv.new A11 (by decide)).pad (pad_rep [] (.int (0 : Int32)) 1)
  obtain ⟨cl12, Ar12, q12, S12, Nn12, H12, G12⟩ := id V_b11
  have hin12 : ¬ ((0 : Int32) < 0 ∨ cl12.slots.size ≤ ((0 : Int32)).toNatClampNeg) := inb_of S12 ⟨by decide, by decide⟩
  obtain ⟨T13, h13, X13, e13, W13, st13⟩ := stB X11 hx hZ e11 Ar12 (j := (0 : Int32)) hin12 (g := (mkF m 103 #[.val (.long p0), .second, .val (.long p1), .second, .val (.int p2), .val (.int p3), .val (.int p4), .val (.int p5), .val (.ref b1), .val (.ref b6), .val (.ref b8_0), .val (.ref b9_0), .val (.ref w_PENDING), .val (.ref b11), .unset, .unset, .unset] [(.int (((p5.toUInt32 >>> ((8 : Int32) &&& 31).toUInt32).toInt32).toInt8.toInt32)), (.int (0 : Int32)), (.ref b11)])) rfl rfl (hb hby at_103)
  have N13 := Fr.snoc X13 N9 g_b11
  have O13 := O11.wr W13 g_b11
  have K13 : Keep h0 h13 [] := K11.wr W13 (Or.inr sz_b11)
  have V_b11_13 : Arv Z h13 b11 k11 .byte (1 : Int32) [(.int (nar .byte (((p5.toUInt32 >>> ((8 : Int32) &&& 31).toUInt32).toInt32).toInt8.toInt32)))] (.int (0 : Int32)) := Arv.set Ar12 q12 S12 Nn12 H12 G12 (fits_nar_byte _) W13 0 rfl (Nat.le_of_ble_eq_true rfl)
  obtain ⟨T14, h14, X14, e14, E14, A14, D14, -, st14⟩ := newO X13 hx hZ hown (hw _ (List.mem_of_getElem? (i := 47) rfl)) (hw _ (List.mem_of_getElem? (i := 48) rfl)) (hw _ (List.mem_of_getElem? (i := 49) rfl)) e13 (g := (mkF m 194 #[.val (.long p0), .second, .val (.long p1), .second, .val (.int p2), .val (.int p3), .val (.int p4), .val (.int p5), .val (.ref b1), .val (.ref b6), .val (.ref b8_0), .val (.ref b9_0), .val (.ref w_PENDING), .val (.ref b11), .val (.int (0 : Int32)), .val (.int (1 : Int32)), .unset] [])) rfl (hb hby at_194) (by decide) (by decide)
  obtain ⟨b14, g14⟩ : ∃ z, z = h13.size := ⟨_, rfl⟩
  rw [← g14] at A14 D14 st14
  have g_b14 : n0 ≤ b14 := Nat.le_trans (own_sz O13) (Nat.le_of_eq g14.symm)
  have sz_b14 : h0.size ≤ b14 := Nat.le_trans K13.1 (Nat.le_of_eq g14.symm)
  have O14 := O13.ext E14
  have K14 : Keep h0 h14 [] := K13.ext E14
  have F_id_b14 : Fld Z h14 b14 "com/example/graph_job_runner/graphjobrunner/ClaimedNode" "id" "J" (.long (0 : Int64)) := D14 (Or.inr (hw _ (List.mem_of_getElem? (i := 58) rfl))) (ty := .long) (by decide)
  have F_runKey_b14 : Fld Z h14 b14 "com/example/graph_job_runner/graphjobrunner/ClaimedNode" "runKey" "Ljava/lang/String;" .null := D14 (Or.inr (hw _ (List.mem_of_getElem? (i := 60) rfl))) (ty := (.object "java/lang/String")) (by decide)
  have F_streamKey_b14 : Fld Z h14 b14 "com/example/graph_job_runner/graphjobrunner/ClaimedNode" "streamKey" "Ljava/lang/String;" .null := D14 (Or.inr (hw _ (List.mem_of_getElem? (i := 62) rfl))) (ty := (.object "java/lang/String")) (by decide)
  have F_position_b14 : Fld Z h14 b14 "com/example/graph_job_runner/graphjobrunner/ClaimedNode" "position" "J" (.long (0 : Int64)) := D14 (Or.inr (hw _ (List.mem_of_getElem? (i := 64) rfl))) (ty := .long) (by decide)
  have F_nodeKey_b14 : Fld Z h14 b14 "com/example/graph_job_runner/graphjobrunner/ClaimedNode" "nodeKey" "Ljava/lang/String;" .null := D14 (Or.inr (hw _ (List.mem_of_getElem? (i := 66) rfl))) (ty := (.object "java/lang/String")) (by decide)
  have F_processor_b14 : Fld Z h14 b14 "com/example/graph_job_runner/graphjobrunner/ClaimedNode" "processor" "Ljava/lang/String;" .null := D14 (Or.inr (hw _ (List.mem_of_getElem? (i := 68) rfl))) (ty := (.object "java/lang/String")) (by decide)
  have F_payload_b14 : Fld Z h14 b14 "com/example/graph_job_runner/graphjobrunner/ClaimedNode" "payload" "[B" .null := D14 (Or.inr (hw _ (List.mem_of_getElem? (i := 70) rfl))) (ty := (.array .byte)) (by decide)
  have F_attempt_b14 : Fld Z h14 b14 "com/example/graph_job_runner/graphjobrunner/ClaimedNode" "attempt" "I" (.int (0 : Int32)) := D14 (Or.inr (hw _ (List.mem_of_getElem? (i := 72) rfl))) (ty := .int) (by decide)
  have F_retryLimit_b14 : Fld Z h14 b14 "com/example/graph_job_runner/graphjobrunner/ClaimedNode" "retryLimit" "I" (.int (0 : Int32)) := D14 (Or.inr (hw _ (List.mem_of_getElem? (i := 74) rfl))) (ty := .int) (by decide)
  have F_failStrategy_b14 : Fld Z h14 b14 "com/example/graph_job_runner/graphjobrunner/ClaimedNode" "failStrategy" "Lcom/example/graph_job_runner/graphjobrunner/FailStrategy;" .null := D14 (Or.inr (hw _ (List.mem_of_getElem? (i := 76) rfl))) (ty := (.object "com/example/graph_job_runner/graphjobrunner/FailStrategy")) (by decide)
  have F_hasChildren_b14 : Fld Z h14 b14 "com/example/graph_job_runner/graphjobrunner/ClaimedNode" "hasChildren" "Z" (.int (0 : Int32)) := D14 (Or.inr (hw _ (List.mem_of_getElem? (i := 78) rfl))) (ty := .boolean) (by decide)
  obtain ⟨_, _, ⟨T15, L15, k15, n15⟩, -, X15, ⟨Lc15, hQ15, l15, y15, z15⟩, st15⟩ := X14.specialBack hx (y := y10) rfl hown (mvT hZ (hw _ (List.mem_of_getElem? (i := 50) rfl))) (mvT hZ (hw _ (List.mem_of_getElem? (i := 51) rfl))) (mvT hZ (hw _ (List.mem_of_getElem? (i := 52) rfl))) (by decide) (backOf (W := 1) (rm27 l Z a0 hw [] w_PENDING w_IGNORE cs_v hp b14 p0 b6 b8_0 b9_0 b11 p2 p3 h14 n0 O14 A14 F_id_b14 F_runKey_b14 F_streamKey_b14 F_position_b14 F_nodeKey_b14 F_processor_b14 F_payload_b14 F_attempt_b14 F_retryLimit_b14 F_failStrategy_b14 F_hasChildren_b14 g_b14) hZ (hw _ (List.mem_of_getElem? (i := 52) rfl)) (hw _ (List.mem_of_getElem? (i := 49) rfl)) (by decide) (by decide)) (g := (mkF m 215 #[.val (.long p0), .second, .val (.long p1), .second, .val (.int p2), .val (.int p3), .val (.int p4), .val (.int p5), .val (.ref b1), .val (.ref b6), .val (.ref b8_0), .val (.ref b9_0), .val (.ref w_PENDING), .val (.ref b11), .val (.int (0 : Int32)), .val (.int (1 : Int32)), .unset] [(.int (1 : Int32)), (.ref w_PENDING), (.int p3), (.int p2), (.ref b11), (.ref b9_0), (.ref b8_0), (.ref b6), (.long p0), (.ref b14), (.ref b14)])) rfl (by rw [hml]; rfl) (Steps.refl _) (a := b14) (argsL := [(.long p0), (.ref b6), (.ref b8_0), (.ref b9_0), (.ref b11), (.int p2), (.int p3), (.ref w_PENDING), (.int (1 : Int32))]) (rest := [(.ref b14)]) (lenOf pd_10 rfl) rfl (by show 2 * 0 + _ ≤ _; exact Nat.le_of_eq rfl) (hb hby at_215) (fun _ _ => ⟨rfl, e14, (by decide : 9 + 0 ≤ _), (by decide : 30 + 0 ≤ _)⟩)
  dsimp only [Pt.U, Pt.locs, Pt.cells, Pt.slots] at X15 l15 y15 z15 st15 hQ15
  subst l15 y15 z15
  obtain ⟨rfl, Nq15, Kq15, fq15_0, fq15_1, fq15_2, fq15_3, fq15_4, fq15_5, fq15_6, fq15_7, fq15_8, fq15_9, fq15_10, fq15_11⟩ := hQ15
  have N15 := Fr.app N13 Nq15
  have O15 := O14.keep Kq15 (allS g_b14 all0)
  have K15 : Keep h0 T15.heap [] := K14.trans Kq15 (allS (Or.inr sz_b14) all0)
  obtain ⟨cq16, kq16, q16a, q16b, q16c⟩ := isOf hZ rfl fq15_0
  obtain ⟨_, _, ⟨T16, L16, k16, n16⟩, -, X16, ⟨Lc16, hQ16, l16, y16, z16⟩, st16⟩ := X15.virtualBack hx (y := y11) (z := y11) hown (mvT hZ (hw _ (List.mem_of_getElem? (i := 79) rfl))) (mvT hZ (hw _ (List.mem_of_getElem? (i := 80) rfl))) (notFace_of_selects (args := #[]) (mvT hZ (hw _ (List.mem_of_getElem? (i := 82) rfl)))) (mvT hZ (hw _ (List.mem_of_getElem? (i := 82) rfl))) (mvT hZ (hw _ (List.mem_of_getElem? (i := 81) rfl))) (by decide) (backOf (W := 0) (rm12 l Z a0 hw [] w_PENDING w_IGNORE cs_v hp b14 T15.heap n0 O15 fq15_11) hZ (hw _ (List.mem_of_getElem? (i := 83) rfl)) (hw _ (List.mem_of_getElem? (i := 49) rfl)) (by decide) (by decide)) q16a q16c (g := (mkF m 222 #[.val (.long p0), .second, .val (.long p1), .second, .val (.int p2), .val (.int p3), .val (.int p4), .val (.int p5), .val (.ref b1), .val (.ref b6), .val (.ref b8_0), .val (.ref b9_0), .val (.ref w_PENDING), .val (.ref b11), .val (.int (0 : Int32)), .val (.int (1 : Int32)), .val (.ref b14)] [(.ref b14)])) rfl (by rw [hml]; rfl) (Steps.refl _) (argsL := []) (rest := []) (lenOf pd_11 rfl) rfl (by show 2 * 0 + _ ≤ _; exact Nat.le_of_eq rfl) (hb hby at_222) (fun _ _ => ⟨rfl, rfl, (by decide : 9 + 0 ≤ _), (by decide : 30 + 0 ≤ _)⟩)
  dsimp only [Pt.U, Pt.locs, Pt.cells, Pt.slots] at X16 l16 y16 z16 st16 hQ16
  subst l16 y16 z16
  obtain ⟨rfl, Nq16, eq16⟩ := hQ16
  have N16 := Fr.app N15 Nq16
  obtain ⟨cq17, kq17, q17a, q17b, q17c⟩ := isOf hZ eq16 fq15_0
  obtain ⟨_, _, ⟨T17, L17, k17, n17⟩, -, X17, ⟨Lc17, hQ17, l17, y17, z17⟩, st17⟩ := X16.virtualBack hx (y := y12) (z := y12) hown (mvT hZ (hw _ (List.mem_of_getElem? (i := 84) rfl))) (mvT hZ (hw _ (List.mem_of_getElem? (i := 85) rfl))) (notFace_of_selects (args := #[]) (mvT hZ (hw _ (List.mem_of_getElem? (i := 87) rfl)))) (mvT hZ (hw _ (List.mem_of_getElem? (i := 87) rfl))) (mvT hZ (hw _ (List.mem_of_getElem? (i := 86) rfl))) (by decide) (backOf (W := 0) (rm13 l Z a0 hw [] w_PENDING w_IGNORE cs_v hp b14 b6 T15.heap n0 O15 fq15_10) hZ (hw _ (List.mem_of_getElem? (i := 88) rfl)) (hw _ (List.mem_of_getElem? (i := 49) rfl)) (by decide) (by decide)) q17a q17c (g := (mkF m 230 #[.val (.long p0), .second, .val (.long p1), .second, .val (.int p2), .val (.int p3), .val (.int p4), .val (.int p5), .val (.ref b1), .val (.ref b6), .val (.ref b8_0), .val (.ref b9_0), .val (.ref w_PENDING), .val (.ref b11), .val (.int (0 : Int32)), .val (.int (1 : Int32)), .val (.ref b14)] [(.ref b14)])) rfl (by rw [hml]; rfl) (Steps.refl _) (argsL := []) (rest := []) (lenOf pd_12 rfl) rfl (by show 2 * 0 + _ ≤ _; exact Nat.le_of_eq rfl) (hb hby at_230) (fun _ _ => ⟨rfl, eq16, (by decide : 9 + 0 ≤ _), (by decide : 30 + 0 ≤ _)⟩)
  dsimp only [Pt.U, Pt.locs, Pt.cells, Pt.slots] at X17 l17 y17 z17 st17 hQ17
  subst l17 y17 z17
  obtain ⟨rfl, Nq17, eq17⟩ := hQ17
  have N17 := Fr.app N16 Nq17
  obtain ⟨cq18, kq18, q18a, q18b, q18c⟩ := isOf hZ eq17 fq15_0
  obtain ⟨_, _, ⟨T18, L18, k18, n18⟩, -, X18, ⟨Lc18, hQ18, l18, y18, z18⟩, st18⟩ := X17.virtualBack hx (y := y13) (z := y13) hown (mvT hZ (hw _ (List.mem_of_getElem? (i := 89) rfl))) (mvT hZ (hw _ (List.mem_of_getElem? (i := 90) rfl))) (notFace_of_selects (args := #[]) (mvT hZ (hw _ (List.mem_of_getElem? (i := 92) rfl)))) (mvT hZ (hw _ (List.mem_of_getElem? (i := 92) rfl))) (mvT hZ (hw _ (List.mem_of_getElem? (i := 91) rfl))) (by decide) (backOf (W := 0) (rm14 l Z a0 hw [] w_PENDING w_IGNORE cs_v hp b14 T15.heap n0 O15 fq15_11) hZ (hw _ (List.mem_of_getElem? (i := 93) rfl)) (hw _ (List.mem_of_getElem? (i := 49) rfl)) (by decide) (by decide)) q18a q18c (g := (mkF m 240 #[.val (.long p0), .second, .val (.long p1), .second, .val (.int p2), .val (.int p3), .val (.int p4), .val (.int p5), .val (.ref b1), .val (.ref b6), .val (.ref b8_0), .val (.ref b9_0), .val (.ref w_PENDING), .val (.ref b11), .val (.int (0 : Int32)), .val (.int (1 : Int32)), .val (.ref b14)] [(.ref b14)])) rfl (by rw [hml]; rfl) (Steps.refl _) (argsL := []) (rest := []) (lenOf pd_12 rfl) rfl (by show 2 * 0 + _ ≤ _; exact Nat.le_of_eq rfl) (hb hby at_240) (fun _ _ => ⟨rfl, eq17, (by decide : 9 + 0 ≤ _), (by decide : 30 + 0 ≤ _)⟩)
  dsimp only [Pt.U, Pt.locs, Pt.cells, Pt.slots] at X18 l18 y18 z18 st18 hQ18
  subst l18 y18 z18
  obtain ⟨rfl, Nq18, eq18⟩ := hQ18
  have N18 := Fr.app N17 Nq18
  obtain ⟨fs, hr, hrun, hended, hW, hsame⟩ := X18.leave (v := some (.int (1 : Int32))) (fun h => by rw [Bd.returns] at h; cases h)
  refine ⟨_, _, pre0 _ ?_, hrun, hended, _, _, rfl, ?_, ⟨_, rfl⟩, hW, hsame.mono (by decide) (by decide)⟩
  · show Sp p e below s₁ (mkF m 0 #[.val (.long p0), .second, .val (.long p1), .second, .val (.int p2), .val (.int p3), .val (.int p4), .val (.int p5), .unset, .unset, .unset, .unset, .unset, .unset, .unset, .unset, .unset] []) _
    refine XS.iconst X0.here hx rfl (hb hby at_0) ?_
    show Sp p e below s₁ (mkF m 1 #[.val (.long p0), .second, .val (.long p1), .second, .val (.int p2), .val (.int p3), .val (.int p4), .val (.int p5), .unset, .unset, .unset, .unset, .unset, .unset, .unset, .unset, .unset] [(.int (2 : Int32))]) _
    refine st1 _ ?_
    show Sp p e below T1 (mkF m 3 #[.val (.long p0), .second, .val (.long p1), .second, .val (.int p2), .val (.int p3), .val (.int p4), .val (.int p5), .unset, .unset, .unset, .unset, .unset, .unset, .unset, .unset, .unset] [(.ref b1)]) _
    refine XS.astore X1.here hx rfl (hb hby at_3) rfl rfl (l' := #[.val (.long p0), .second, .val (.long p1), .second, .val (.int p2), .val (.int p3), .val (.int p4), .val (.int p5), .val (.ref b1), .unset, .unset, .unset, .unset, .unset, .unset, .unset, .unset]) rfl ?_
    refine XS.aload X1.here hx rfl (hb hby at_5) rfl rfl ?_
    refine XS.iconst X1.here hx rfl (hb hby at_7) ?_
    refine XS.iload X1.here hx rfl (hb hby at_8) rfl ?_
    refine XS.sipush X1.here hx rfl (hb hby at_10) ?_
    show Sp p e below T1 (mkF m 13 #[.val (.long p0), .second, .val (.long p1), .second, .val (.int p2), .val (.int p3), .val (.int p4), .val (.int p5), .val (.ref b1), .unset, .unset, .unset, .unset, .unset, .unset, .unset, .unset] [(.int (255 : Int32)), (.int p4), (.int (0 : Int32)), (.ref b1)]) _
    refine XS.iand X1.here hx rfl (hb hby at_13) rfl ?_
    show Sp p e below T1 (mkF m 14 #[.val (.long p0), .second, .val (.long p1), .second, .val (.int p2), .val (.int p3), .val (.int p4), .val (.int p5), .val (.ref b1), .unset, .unset, .unset, .unset, .unset, .unset, .unset, .unset] [(.int (p4 &&& (255 : Int32))), (.int (0 : Int32)), (.ref b1)]) _
    refine XS.i2c X1.here hx rfl (hb hby at_14) rfl ?_
    show Sp p e below T1 (mkF m 15 #[.val (.long p0), .second, .val (.long p1), .second, .val (.int p2), .val (.int p3), .val (.int p4), .val (.int p5), .val (.ref b1), .unset, .unset, .unset, .unset, .unset, .unset, .unset, .unset] [(.int ((p4 &&& (255 : Int32)).toUInt32.toUInt16.toUInt32.toInt32)), (.int (0 : Int32)), (.ref b1)]) _
    refine st3 _ ?_
    show Sp p e below T3 (mkF m 16 #[.val (.long p0), .second, .val (.long p1), .second, .val (.int p2), .val (.int p3), .val (.int p4), .val (.int p5), .val (.ref b1), .unset, .unset, .unset, .unset, .unset, .unset, .unset, .unset] []) _
    refine XS.aload X3.here hx rfl (hb hby at_16) rfl rfl ?_
    refine XS.iconst X3.here hx rfl (hb hby at_18) ?_
    refine XS.iload X3.here hx rfl (hb hby at_19) rfl ?_
    refine XS.bipush X3.here hx rfl (hb hby at_21) ?_
    show Sp p e below T3 (mkF m 23 #[.val (.long p0), .second, .val (.long p1), .second, .val (.int p2), .val (.int p3), .val (.int p4), .val (.int p5), .val (.ref b1), .unset, .unset, .unset, .unset, .unset, .unset, .unset, .unset] [(.int (8 : Int32)), (.int p4), (.int (1 : Int32)), (.ref b1)]) _
    refine XS.iushr X3.here hx rfl (hb hby at_23) rfl ?_
    refine XS.sipush X3.here hx rfl (hb hby at_24) ?_
    show Sp p e below T3 (mkF m 27 #[.val (.long p0), .second, .val (.long p1), .second, .val (.int p2), .val (.int p3), .val (.int p4), .val (.int p5), .val (.ref b1), .unset, .unset, .unset, .unset, .unset, .unset, .unset, .unset] [(.int (255 : Int32)), (.int ((p4.toUInt32 >>> ((8 : Int32) &&& 31).toUInt32).toInt32)), (.int (1 : Int32)), (.ref b1)]) _
    refine XS.iand X3.here hx rfl (hb hby at_27) rfl ?_
    show Sp p e below T3 (mkF m 28 #[.val (.long p0), .second, .val (.long p1), .second, .val (.int p2), .val (.int p3), .val (.int p4), .val (.int p5), .val (.ref b1), .unset, .unset, .unset, .unset, .unset, .unset, .unset, .unset] [(.int (((p4.toUInt32 >>> ((8 : Int32) &&& 31).toUInt32).toInt32) &&& (255 : Int32))), (.int (1 : Int32)), (.ref b1)]) _
    refine XS.i2c X3.here hx rfl (hb hby at_28) rfl ?_
    show Sp p e below T3 (mkF m 29 #[.val (.long p0), .second, .val (.long p1), .second, .val (.int p2), .val (.int p3), .val (.int p4), .val (.int p5), .val (.ref b1), .unset, .unset, .unset, .unset, .unset, .unset, .unset, .unset] [(.int ((((p4.toUInt32 >>> ((8 : Int32) &&& 31).toUInt32).toInt32) &&& (255 : Int32)).toUInt32.toUInt16.toUInt32.toInt32)), (.int (1 : Int32)), (.ref b1)]) _
    refine st5 _ ?_
    show Sp p e below T5 (mkF m 30 #[.val (.long p0), .second, .val (.long p1), .second, .val (.int p2), .val (.int p3), .val (.int p4), .val (.int p5), .val (.ref b1), .unset, .unset, .unset, .unset, .unset, .unset, .unset, .unset] []) _
    refine st6 _ ?_
    show Sp p e below T6 (mkF m 33 #[.val (.long p0), .second, .val (.long p1), .second, .val (.int p2), .val (.int p3), .val (.int p4), .val (.int p5), .val (.ref b1), .unset, .unset, .unset, .unset, .unset, .unset, .unset, .unset] [(.ref b6)]) _
    refine XS.dup X6.here hx rfl (hb hby at_33) rfl rfl ?_
    refine XS.aload X6.here hx rfl (hb hby at_34) rfl rfl ?_
    show Sp p e below T6 (mkF m 36 #[.val (.long p0), .second, .val (.long p1), .second, .val (.int p2), .val (.int p3), .val (.int p4), .val (.int p5), .val (.ref b1), .unset, .unset, .unset, .unset, .unset, .unset, .unset, .unset] [(.ref b1), (.ref b6), (.ref b6)]) _
    refine st7.trans ?_
    show Sp p e below T7 (mkF m 39 #[.val (.long p0), .second, .val (.long p1), .second, .val (.int p2), .val (.int p3), .val (.int p4), .val (.int p5), .val (.ref b1), .unset, .unset, .unset, .unset, .unset, .unset, .unset, .unset] [(.ref b6)]) _
    refine XS.astore X7.here hx rfl (hb hby at_39) rfl rfl (l' := #[.val (.long p0), .second, .val (.long p1), .second, .val (.int p2), .val (.int p3), .val (.int p4), .val (.int p5), .val (.ref b1), .val (.ref b6), .unset, .unset, .unset, .unset, .unset, .unset, .unset]) rfl ?_
    refine XS.iload X7.here hx rfl (hb hby at_41) rfl ?_
    refine XS.bipush X7.here hx rfl (hb hby at_43) ?_
    show Sp p e below T7 (mkF m 45 #[.val (.long p0), .second, .val (.long p1), .second, .val (.int p2), .val (.int p3), .val (.int p4), .val (.int p5), .val (.ref b1), .val (.ref b6), .unset, .unset, .unset, .unset, .unset, .unset, .unset] [(.int (16 : Int32)), (.int p4)]) _
    refine XS.iushr X7.here hx rfl (hb hby at_45) rfl ?_
    refine XS.sipush X7.here hx rfl (hb hby at_46) ?_
    show Sp p e below T7 (mkF m 49 #[.val (.long p0), .second, .val (.long p1), .second, .val (.int p2), .val (.int p3), .val (.int p4), .val (.int p5), .val (.ref b1), .val (.ref b6), .unset, .unset, .unset, .unset, .unset, .unset, .unset] [(.int (255 : Int32)), (.int ((p4.toUInt32 >>> ((16 : Int32) &&& 31).toUInt32).toInt32))]) _
    refine XS.iand X7.here hx rfl (hb hby at_49) rfl ?_
    show Sp p e below T7 (mkF m 50 #[.val (.long p0), .second, .val (.long p1), .second, .val (.int p2), .val (.int p3), .val (.int p4), .val (.int p5), .val (.ref b1), .val (.ref b6), .unset, .unset, .unset, .unset, .unset, .unset, .unset] [(.int (((p4.toUInt32 >>> ((16 : Int32) &&& 31).toUInt32).toInt32) &&& (255 : Int32)))]) _
    refine XS.i2c X7.here hx rfl (hb hby at_50) rfl ?_
    show Sp p e below T7 (mkF m 51 #[.val (.long p0), .second, .val (.long p1), .second, .val (.int p2), .val (.int p3), .val (.int p4), .val (.int p5), .val (.ref b1), .val (.ref b6), .unset, .unset, .unset, .unset, .unset, .unset, .unset] [(.int ((((p4.toUInt32 >>> ((16 : Int32) &&& 31).toUInt32).toInt32) &&& (255 : Int32)).toUInt32.toUInt16.toUInt32.toInt32))]) _
    refine st8 _ ?_
    show Sp p e below T8 (mkF m 54 #[.val (.long p0), .second, .val (.long p1), .second, .val (.int p2), .val (.int p3), .val (.int p4), .val (.int p5), .val (.ref b1), .val (.ref b6), .unset, .unset, .unset, .unset, .unset, .unset, .unset] [(.ref b8_0)]) _
    refine XS.astore X8.here hx rfl (hb hby at_54) rfl rfl (l' := #[.val (.long p0), .second, .val (.long p1), .second, .val (.int p2), .val (.int p3), .val (.int p4), .val (.int p5), .val (.ref b1), .val (.ref b6), .val (.ref b8_0), .unset, .unset, .unset, .unset, .unset, .unset]) rfl ?_
    refine XS.iload X8.here hx rfl (hb hby at_56) rfl ?_
    refine XS.bipush X8.here hx rfl (hb hby at_58) ?_
    show Sp p e below T8 (mkF m 60 #[.val (.long p0), .second, .val (.long p1), .second, .val (.int p2), .val (.int p3), .val (.int p4), .val (.int p5), .val (.ref b1), .val (.ref b6), .val (.ref b8_0), .unset, .unset, .unset, .unset, .unset, .unset] [(.int (24 : Int32)), (.int p4)]) _
    refine XS.iushr X8.here hx rfl (hb hby at_60) rfl ?_
    refine XS.sipush X8.here hx rfl (hb hby at_61) ?_
    show Sp p e below T8 (mkF m 64 #[.val (.long p0), .second, .val (.long p1), .second, .val (.int p2), .val (.int p3), .val (.int p4), .val (.int p5), .val (.ref b1), .val (.ref b6), .val (.ref b8_0), .unset, .unset, .unset, .unset, .unset, .unset] [(.int (255 : Int32)), (.int ((p4.toUInt32 >>> ((24 : Int32) &&& 31).toUInt32).toInt32))]) _
    refine XS.iand X8.here hx rfl (hb hby at_64) rfl ?_
    show Sp p e below T8 (mkF m 65 #[.val (.long p0), .second, .val (.long p1), .second, .val (.int p2), .val (.int p3), .val (.int p4), .val (.int p5), .val (.ref b1), .val (.ref b6), .val (.ref b8_0), .unset, .unset, .unset, .unset, .unset, .unset] [(.int (((p4.toUInt32 >>> ((24 : Int32) &&& 31).toUInt32).toInt32) &&& (255 : Int32)))]) _
    refine XS.i2c X8.here hx rfl (hb hby at_65) rfl ?_
    show Sp p e below T8 (mkF m 66 #[.val (.long p0), .second, .val (.long p1), .second, .val (.int p2), .val (.int p3), .val (.int p4), .val (.int p5), .val (.ref b1), .val (.ref b6), .val (.ref b8_0), .unset, .unset, .unset, .unset, .unset, .unset] [(.int ((((p4.toUInt32 >>> ((24 : Int32) &&& 31).toUInt32).toInt32) &&& (255 : Int32)).toUInt32.toUInt16.toUInt32.toInt32))]) _
    refine st9 _ ?_
    show Sp p e below T9 (mkF m 69 #[.val (.long p0), .second, .val (.long p1), .second, .val (.int p2), .val (.int p3), .val (.int p4), .val (.int p5), .val (.ref b1), .val (.ref b6), .val (.ref b8_0), .unset, .unset, .unset, .unset, .unset, .unset] [(.ref b9_0)]) _
    refine XS.astore X9.here hx rfl (hb hby at_69) rfl rfl (l' := #[.val (.long p0), .second, .val (.long p1), .second, .val (.int p2), .val (.int p3), .val (.int p4), .val (.int p5), .val (.ref b1), .val (.ref b6), .val (.ref b8_0), .val (.ref b9_0), .unset, .unset, .unset, .unset, .unset]) rfl ?_
    refine XS.iload X9.here hx rfl (hb hby at_71) rfl ?_
    refine XS.iconst X9.here hx rfl (hb hby at_73) ?_
    show Sp p e below T9 (mkF m 74 #[.val (.long p0), .second, .val (.long p1), .second, .val (.int p2), .val (.int p3), .val (.int p4), .val (.int p5), .val (.ref b1), .val (.ref b6), .val (.ref b8_0), .val (.ref b9_0), .unset, .unset, .unset, .unset, .unset] [(.int (2 : Int32)), (.int p5)]) _
    refine XS.iand X9.here hx rfl (hb hby at_74) rfl ?_
    show Sp p e below T9 (mkF m 75 #[.val (.long p0), .second, .val (.long p1), .second, .val (.int p2), .val (.int p3), .val (.int p4), .val (.int p5), .val (.ref b1), .val (.ref b6), .val (.ref b8_0), .val (.ref b9_0), .unset, .unset, .unset, .unset, .unset] [(.int (p5 &&& (2 : Int32)))]) _
    refine XS.ifNo X9.here hx rfl (hb hby at_75) rfl ((if0 _ _).trans (feq hc1).1) ?_
    show Sp p e below T9 (mkF m 78 #[.val (.long p0), .second, .val (.long p1), .second, .val (.int p2), .val (.int p3), .val (.int p4), .val (.int p5), .val (.ref b1), .val (.ref b6), .val (.ref b8_0), .val (.ref b9_0), .unset, .unset, .unset, .unset, .unset] []) _
    refine st10 _ ?_
    show Sp p e below T10 (mkF m 81 #[.val (.long p0), .second, .val (.long p1), .second, .val (.int p2), .val (.int p3), .val (.int p4), .val (.int p5), .val (.ref b1), .val (.ref b6), .val (.ref b8_0), .val (.ref b9_0), .unset, .unset, .unset, .unset, .unset] [(.ref w_PENDING)]) _
    refine XS.goto X10.here hx rfl (pc0 := 81) (pc' := 87) rfl (hb hby at_81) (by decide) (by decide) ?_
    show Sp p e below T10 (mkF m 87 #[.val (.long p0), .second, .val (.long p1), .second, .val (.int p2), .val (.int p3), .val (.int p4), .val (.int p5), .val (.ref b1), .val (.ref b6), .val (.ref b8_0), .val (.ref b9_0), .unset, .unset, .unset, .unset, .unset] [(.ref w_PENDING)]) _
    refine XS.astore X10.here hx rfl (hb hby at_87) rfl rfl (l' := #[.val (.long p0), .second, .val (.long p1), .second, .val (.int p2), .val (.int p3), .val (.int p4), .val (.int p5), .val (.ref b1), .val (.ref b6), .val (.ref b8_0), .val (.ref b9_0), .val (.ref w_PENDING), .unset, .unset, .unset, .unset]) rfl ?_
    refine XS.iconst X10.here hx rfl (hb hby at_89) ?_
    show Sp p e below T10 (mkF m 90 #[.val (.long p0), .second, .val (.long p1), .second, .val (.int p2), .val (.int p3), .val (.int p4), .val (.int p5), .val (.ref b1), .val (.ref b6), .val (.ref b8_0), .val (.ref b9_0), .val (.ref w_PENDING), .unset, .unset, .unset, .unset] [(.int (1 : Int32))]) _
    refine st11 _ ?_
    show Sp p e below T11 (mkF m 92 #[.val (.long p0), .second, .val (.long p1), .second, .val (.int p2), .val (.int p3), .val (.int p4), .val (.int p5), .val (.ref b1), .val (.ref b6), .val (.ref b8_0), .val (.ref b9_0), .val (.ref w_PENDING), .unset, .unset, .unset, .unset] [(.ref b11)]) _
    refine XS.astore X11.here hx rfl (hb hby at_92) rfl rfl (l' := #[.val (.long p0), .second, .val (.long p1), .second, .val (.int p2), .val (.int p3), .val (.int p4), .val (.int p5), .val (.ref b1), .val (.ref b6), .val (.ref b8_0), .val (.ref b9_0), .val (.ref w_PENDING), .val (.ref b11), .unset, .unset, .unset]) rfl ?_
    refine XS.aload X11.here hx rfl (hb hby at_94) rfl rfl ?_
    refine XS.iconst X11.here hx rfl (hb hby at_96) ?_
    refine XS.iload X11.here hx rfl (hb hby at_97) rfl ?_
    refine XS.bipush X11.here hx rfl (hb hby at_99) ?_
    show Sp p e below T11 (mkF m 101 #[.val (.long p0), .second, .val (.long p1), .second, .val (.int p2), .val (.int p3), .val (.int p4), .val (.int p5), .val (.ref b1), .val (.ref b6), .val (.ref b8_0), .val (.ref b9_0), .val (.ref w_PENDING), .val (.ref b11), .unset, .unset, .unset] [(.int (8 : Int32)), (.int p5), (.int (0 : Int32)), (.ref b11)]) _
    refine XS.iushr X11.here hx rfl (hb hby at_101) rfl ?_
    show Sp p e below T11 (mkF m 102 #[.val (.long p0), .second, .val (.long p1), .second, .val (.int p2), .val (.int p3), .val (.int p4), .val (.int p5), .val (.ref b1), .val (.ref b6), .val (.ref b8_0), .val (.ref b9_0), .val (.ref w_PENDING), .val (.ref b11), .unset, .unset, .unset] [(.int ((p5.toUInt32 >>> ((8 : Int32) &&& 31).toUInt32).toInt32)), (.int (0 : Int32)), (.ref b11)]) _
    refine XS.i2b X11.here hx rfl (hb hby at_102) rfl ?_
    show Sp p e below T11 (mkF m 103 #[.val (.long p0), .second, .val (.long p1), .second, .val (.int p2), .val (.int p3), .val (.int p4), .val (.int p5), .val (.ref b1), .val (.ref b6), .val (.ref b8_0), .val (.ref b9_0), .val (.ref w_PENDING), .val (.ref b11), .unset, .unset, .unset] [(.int (((p5.toUInt32 >>> ((8 : Int32) &&& 31).toUInt32).toInt32).toInt8.toInt32)), (.int (0 : Int32)), (.ref b11)]) _
    refine st13 _ ?_
    show Sp p e below T13 (mkF m 104 #[.val (.long p0), .second, .val (.long p1), .second, .val (.int p2), .val (.int p3), .val (.int p4), .val (.int p5), .val (.ref b1), .val (.ref b6), .val (.ref b8_0), .val (.ref b9_0), .val (.ref w_PENDING), .val (.ref b11), .unset, .unset, .unset] []) _
    refine XS.iload X13.here hx rfl (hb hby at_104) rfl ?_
    refine XS.iconst X13.here hx rfl (hb hby at_106) ?_
    show Sp p e below T13 (mkF m 107 #[.val (.long p0), .second, .val (.long p1), .second, .val (.int p2), .val (.int p3), .val (.int p4), .val (.int p5), .val (.ref b1), .val (.ref b6), .val (.ref b8_0), .val (.ref b9_0), .val (.ref w_PENDING), .val (.ref b11), .unset, .unset, .unset] [(.int (1 : Int32)), (.int p5)]) _
    refine XS.iand X13.here hx rfl (hb hby at_107) rfl ?_
    show Sp p e below T13 (mkF m 108 #[.val (.long p0), .second, .val (.long p1), .second, .val (.int p2), .val (.int p3), .val (.int p4), .val (.int p5), .val (.ref b1), .val (.ref b6), .val (.ref b8_0), .val (.ref b9_0), .val (.ref w_PENDING), .val (.ref b11), .unset, .unset, .unset] [(.int (p5 &&& (1 : Int32)))]) _
    refine XS.ifYes X13.here hx rfl (pc0 := 108) (pc' := 115) rfl (hb hby at_108) rfl ((if0 _ _).trans (teq hc2).1) (by decide) (by decide) ?_
    refine XS.iconst X13.here hx rfl (hb hby at_115) ?_
    show Sp p e below T13 (mkF m 116 #[.val (.long p0), .second, .val (.long p1), .second, .val (.int p2), .val (.int p3), .val (.int p4), .val (.int p5), .val (.ref b1), .val (.ref b6), .val (.ref b8_0), .val (.ref b9_0), .val (.ref w_PENDING), .val (.ref b11), .unset, .unset, .unset] [(.int (0 : Int32))]) _
    refine XS.istore X13.here hx rfl (hb hby at_116) rfl (l' := #[.val (.long p0), .second, .val (.long p1), .second, .val (.int p2), .val (.int p3), .val (.int p4), .val (.int p5), .val (.ref b1), .val (.ref b6), .val (.ref b8_0), .val (.ref b9_0), .val (.ref w_PENDING), .val (.ref b11), .val (.int (0 : Int32)), .unset, .unset]) rfl ?_
    refine XS.iload X13.here hx rfl (hb hby at_118) rfl ?_
    refine XS.iconst X13.here hx rfl (hb hby at_120) ?_
    show Sp p e below T13 (mkF m 121 #[.val (.long p0), .second, .val (.long p1), .second, .val (.int p2), .val (.int p3), .val (.int p4), .val (.int p5), .val (.ref b1), .val (.ref b6), .val (.ref b8_0), .val (.ref b9_0), .val (.ref w_PENDING), .val (.ref b11), .val (.int (0 : Int32)), .unset, .unset] [(.int (4 : Int32)), (.int p5)]) _
    refine XS.iand X13.here hx rfl (hb hby at_121) rfl ?_
    show Sp p e below T13 (mkF m 122 #[.val (.long p0), .second, .val (.long p1), .second, .val (.int p2), .val (.int p3), .val (.int p4), .val (.int p5), .val (.ref b1), .val (.ref b6), .val (.ref b8_0), .val (.ref b9_0), .val (.ref w_PENDING), .val (.ref b11), .val (.int (0 : Int32)), .unset, .unset] [(.int (p5 &&& (4 : Int32)))]) _
    refine XS.ifNo X13.here hx rfl (hb hby at_122) rfl ((if0 _ _).trans (feq hc3).1) ?_
    refine XS.iconst X13.here hx rfl (hb hby at_125) ?_
    show Sp p e below T13 (mkF m 126 #[.val (.long p0), .second, .val (.long p1), .second, .val (.int p2), .val (.int p3), .val (.int p4), .val (.int p5), .val (.ref b1), .val (.ref b6), .val (.ref b8_0), .val (.ref b9_0), .val (.ref w_PENDING), .val (.ref b11), .val (.int (0 : Int32)), .unset, .unset] [(.int (1 : Int32))]) _
    refine XS.goto X13.here hx rfl (pc0 := 126) (pc' := 130) rfl (hb hby at_126) (by decide) (by decide) ?_
    show Sp p e below T13 (mkF m 130 #[.val (.long p0), .second, .val (.long p1), .second, .val (.int p2), .val (.int p3), .val (.int p4), .val (.int p5), .val (.ref b1), .val (.ref b6), .val (.ref b8_0), .val (.ref b9_0), .val (.ref w_PENDING), .val (.ref b11), .val (.int (0 : Int32)), .unset, .unset] [(.int (1 : Int32))]) _
    refine XS.istore X13.here hx rfl (hb hby at_130) rfl (l' := #[.val (.long p0), .second, .val (.long p1), .second, .val (.int p2), .val (.int p3), .val (.int p4), .val (.int p5), .val (.ref b1), .val (.ref b6), .val (.ref b8_0), .val (.ref b9_0), .val (.ref w_PENDING), .val (.ref b11), .val (.int (0 : Int32)), .val (.int (1 : Int32)), .unset]) rfl ?_
    refine XS.iload X13.here hx rfl (hb hby at_132) rfl ?_
    show Sp p e below T13 (mkF m 134 #[.val (.long p0), .second, .val (.long p1), .second, .val (.int p2), .val (.int p3), .val (.int p4), .val (.int p5), .val (.ref b1), .val (.ref b6), .val (.ref b8_0), .val (.ref b9_0), .val (.ref w_PENDING), .val (.ref b11), .val (.int (0 : Int32)), .val (.int (1 : Int32)), .unset] [(.int (0 : Int32))]) _
    refine XS.ifYes X13.here hx rfl (pc0 := 134) (pc' := 194) rfl (hb hby at_134) rfl ((if0 _ _).trans (teq (by decide : (0 : Int32) = (0 : Int32))).1) (by decide) (by decide) ?_
    show Sp p e below T13 (mkF m 194 #[.val (.long p0), .second, .val (.long p1), .second, .val (.int p2), .val (.int p3), .val (.int p4), .val (.int p5), .val (.ref b1), .val (.ref b6), .val (.ref b8_0), .val (.ref b9_0), .val (.ref w_PENDING), .val (.ref b11), .val (.int (0 : Int32)), .val (.int (1 : Int32)), .unset] []) _
    refine st14 _ ?_
    show Sp p e below T14 (mkF m 197 #[.val (.long p0), .second, .val (.long p1), .second, .val (.int p2), .val (.int p3), .val (.int p4), .val (.int p5), .val (.ref b1), .val (.ref b6), .val (.ref b8_0), .val (.ref b9_0), .val (.ref w_PENDING), .val (.ref b11), .val (.int (0 : Int32)), .val (.int (1 : Int32)), .unset] [(.ref b14)]) _
    refine XS.dup X14.here hx rfl (hb hby at_197) rfl rfl ?_
    refine XS.lloadN X14.here hx rfl (hb hby at_198) rfl ?_
    refine XS.aload X14.here hx rfl (hb hby at_199) rfl rfl ?_
    refine XS.aload X14.here hx rfl (hb hby at_201) rfl rfl ?_
    refine XS.aload X14.here hx rfl (hb hby at_203) rfl rfl ?_
    refine XS.aload X14.here hx rfl (hb hby at_205) rfl rfl ?_
    refine XS.iload X14.here hx rfl (hb hby at_207) rfl ?_
    refine XS.iload X14.here hx rfl (hb hby at_209) rfl ?_
    refine XS.aload X14.here hx rfl (hb hby at_211) rfl rfl ?_
    refine XS.iload X14.here hx rfl (hb hby at_213) rfl ?_
    show Sp p e below T14 (mkF m 215 #[.val (.long p0), .second, .val (.long p1), .second, .val (.int p2), .val (.int p3), .val (.int p4), .val (.int p5), .val (.ref b1), .val (.ref b6), .val (.ref b8_0), .val (.ref b9_0), .val (.ref w_PENDING), .val (.ref b11), .val (.int (0 : Int32)), .val (.int (1 : Int32)), .unset] [(.int (1 : Int32)), (.ref w_PENDING), (.int p3), (.int p2), (.ref b11), (.ref b9_0), (.ref b8_0), (.ref b6), (.long p0), (.ref b14), (.ref b14)]) _
    refine st15.trans ?_
    show Sp p e below T15 (mkF m 218 #[.val (.long p0), .second, .val (.long p1), .second, .val (.int p2), .val (.int p3), .val (.int p4), .val (.int p5), .val (.ref b1), .val (.ref b6), .val (.ref b8_0), .val (.ref b9_0), .val (.ref w_PENDING), .val (.ref b11), .val (.int (0 : Int32)), .val (.int (1 : Int32)), .unset] [(.ref b14)]) _
    refine XS.astore X15.here hx rfl (hb hby at_218) rfl rfl (l' := #[.val (.long p0), .second, .val (.long p1), .second, .val (.int p2), .val (.int p3), .val (.int p4), .val (.int p5), .val (.ref b1), .val (.ref b6), .val (.ref b8_0), .val (.ref b9_0), .val (.ref w_PENDING), .val (.ref b11), .val (.int (0 : Int32)), .val (.int (1 : Int32)), .val (.ref b14)]) rfl ?_
    refine XS.aload X15.here hx rfl (hb hby at_220) rfl rfl ?_
    show Sp p e below T15 (mkF m 222 #[.val (.long p0), .second, .val (.long p1), .second, .val (.int p2), .val (.int p3), .val (.int p4), .val (.int p5), .val (.ref b1), .val (.ref b6), .val (.ref b8_0), .val (.ref b9_0), .val (.ref w_PENDING), .val (.ref b11), .val (.int (0 : Int32)), .val (.int (1 : Int32)), .val (.ref b14)] [(.ref b14)]) _
    refine st16.trans ?_
    show Sp p e below T16 (mkF m 225 #[.val (.long p0), .second, .val (.long p1), .second, .val (.int p2), .val (.int p3), .val (.int p4), .val (.int p5), .val (.ref b1), .val (.ref b6), .val (.ref b8_0), .val (.ref b9_0), .val (.ref w_PENDING), .val (.ref b11), .val (.int (0 : Int32)), .val (.int (1 : Int32)), .val (.ref b14)] [(.int (0 : Int32))]) _
    refine XS.ifNo X16.here hx rfl (hb hby at_225) rfl ((if0 _ _).trans (teq (by decide : (0 : Int32) = (0 : Int32))).2) ?_
    refine XS.aload X16.here hx rfl (hb hby at_228) rfl rfl ?_
    show Sp p e below T16 (mkF m 230 #[.val (.long p0), .second, .val (.long p1), .second, .val (.int p2), .val (.int p3), .val (.int p4), .val (.int p5), .val (.ref b1), .val (.ref b6), .val (.ref b8_0), .val (.ref b9_0), .val (.ref w_PENDING), .val (.ref b11), .val (.int (0 : Int32)), .val (.int (1 : Int32)), .val (.ref b14)] [(.ref b14)]) _
    refine st17.trans ?_
    show Sp p e below T17 (mkF m 233 #[.val (.long p0), .second, .val (.long p1), .second, .val (.int p2), .val (.int p3), .val (.int p4), .val (.int p5), .val (.ref b1), .val (.ref b6), .val (.ref b8_0), .val (.ref b9_0), .val (.ref w_PENDING), .val (.ref b11), .val (.int (0 : Int32)), .val (.int (1 : Int32)), .val (.ref b14)] [(.ref b6)]) _
    refine XS.aload X17.here hx rfl (hb hby at_233) rfl rfl ?_
    show Sp p e below T17 (mkF m 235 #[.val (.long p0), .second, .val (.long p1), .second, .val (.int p2), .val (.int p3), .val (.int p4), .val (.int p5), .val (.ref b1), .val (.ref b6), .val (.ref b8_0), .val (.ref b9_0), .val (.ref w_PENDING), .val (.ref b11), .val (.int (0 : Int32)), .val (.int (1 : Int32)), .val (.ref b14)] [(.ref b6), (.ref b6)]) _
    refine Jvm.RoadKit.acmp (g := (mkF m 235 #[.val (.long p0), .second, .val (.long p1), .second, .val (.int p2), .val (.int p3), .val (.int p4), .val (.int p5), .val (.ref b1), .val (.ref b6), .val (.ref b8_0), .val (.ref b9_0), .val (.ref w_PENDING), .val (.ref b11), .val (.int (0 : Int32)), .val (.int (1 : Int32)), .val (.ref b14)] [(.ref b6), (.ref b6)])) X17 hx rfl rfl rfl (pc0 := 235) (pc' := 238) (same := true) rfl (hb hby at_235) rfl (decide_eq_true rfl) (by decide) (by decide) ?_
    show Sp p e below T17 (mkF m 238 #[.val (.long p0), .second, .val (.long p1), .second, .val (.int p2), .val (.int p3), .val (.int p4), .val (.int p5), .val (.ref b1), .val (.ref b6), .val (.ref b8_0), .val (.ref b9_0), .val (.ref w_PENDING), .val (.ref b11), .val (.int (0 : Int32)), .val (.int (1 : Int32)), .val (.ref b14)] []) _
    refine XS.aload X17.here hx rfl (hb hby at_238) rfl rfl ?_
    show Sp p e below T17 (mkF m 240 #[.val (.long p0), .second, .val (.long p1), .second, .val (.int p2), .val (.int p3), .val (.int p4), .val (.int p5), .val (.ref b1), .val (.ref b6), .val (.ref b8_0), .val (.ref b9_0), .val (.ref w_PENDING), .val (.ref b11), .val (.int (0 : Int32)), .val (.int (1 : Int32)), .val (.ref b14)] [(.ref b14)]) _
    refine st18.trans ?_
    show Sp p e below T18 (mkF m 243 #[.val (.long p0), .second, .val (.long p1), .second, .val (.int p2), .val (.int p3), .val (.int p4), .val (.int p5), .val (.ref b1), .val (.ref b6), .val (.ref b8_0), .val (.ref b9_0), .val (.ref w_PENDING), .val (.ref b11), .val (.int (0 : Int32)), .val (.int (1 : Int32)), .val (.ref b14)] [.null]) _
    refine XS.ifnonnullNo X18.here hx rfl (hb hby at_243) rfl ?_
    refine XS.iconst X18.here hx rfl (hb hby at_246) ?_
    show Sp p e below T18 (mkF m 247 #[.val (.long p0), .second, .val (.long p1), .second, .val (.int p2), .val (.int p3), .val (.int p4), .val (.int p5), .val (.ref b1), .val (.ref b6), .val (.ref b8_0), .val (.ref b9_0), .val (.ref w_PENDING), .val (.ref b11), .val (.int (0 : Int32)), .val (.int (1 : Int32)), .val (.ref b14)] [(.int (1 : Int32))]) _
    refine XS.goto X18.here hx rfl (pc0 := 247) (pc' := 251) rfl (hb hby at_247) (by decide) (by decide) ?_
    show Sp p e below T18 (mkF m 251 #[.val (.long p0), .second, .val (.long p1), .second, .val (.int p2), .val (.int p3), .val (.int p4), .val (.int p5), .val (.ref b1), .val (.ref b6), .val (.ref b8_0), .val (.ref b9_0), .val (.ref w_PENDING), .val (.ref b11), .val (.int (0 : Int32)), .val (.int (1 : Int32)), .val (.ref b14)] [(.int (1 : Int32))]) _
    exact retN X18 hx (t := .boolean) Bd.returns (by simp) (hb hby at_251) hr
  · skip
    exact ⟨rfl, N18⟩
def Q29 (Z : State) (w_PENDING : Addr) (w_IGNORE : Addr) (cs_v : Int32) (a1 : Addr) (q2 : Int64) (a3 : Addr) (q4 : Int64) (a5 : Addr) (a6 : Addr) (a7 : Addr) (p8 : Int32) (p9 : Int32) (h0 : Heap) (n0 : Nat) (v : Option Value) (h : Heap) (L : List Loc) : Prop := v = none ∧ Fr n0 L ∧ Keep h0 h [a1] ∧ Exa Z h a1 "com/example/graph_job_runner/graphjobrunner/ClaimedNode" ∧ Fld Z h a1 "com/example/graph_job_runner/graphjobrunner/ClaimedNode" "attempt" "I" (.int p8) ∧ Fld Z h a1 "com/example/graph_job_runner/graphjobrunner/ClaimedNode" "failStrategy" "Lcom/example/graph_job_runner/graphjobrunner/FailStrategy;" (.ref w_IGNORE) ∧ Fld Z h a1 "com/example/graph_job_runner/graphjobrunner/ClaimedNode" "hasChildren" "Z" (.int (0 : Int32)) ∧ Fld Z h a1 "com/example/graph_job_runner/graphjobrunner/ClaimedNode" "id" "J" (.long q2) ∧ Fld Z h a1 "com/example/graph_job_runner/graphjobrunner/ClaimedNode" "nodeKey" "Ljava/lang/String;" (.ref a5) ∧ Fld Z h a1 "com/example/graph_job_runner/graphjobrunner/ClaimedNode" "payload" "[B" (.ref a7) ∧ Fld Z h a1 "com/example/graph_job_runner/graphjobrunner/ClaimedNode" "position" "J" (.long q4) ∧ Fld Z h a1 "com/example/graph_job_runner/graphjobrunner/ClaimedNode" "processor" "Ljava/lang/String;" (.ref a6) ∧ Fld Z h a1 "com/example/graph_job_runner/graphjobrunner/ClaimedNode" "retryLimit" "I" (.int p9) ∧ Fld Z h a1 "com/example/graph_job_runner/graphjobrunner/ClaimedNode" "runKey" "Ljava/lang/String;" .null ∧ Fld Z h a1 "com/example/graph_job_runner/graphjobrunner/ClaimedNode" "streamKey" "Ljava/lang/String;" (.ref a3)
set_option maxRecDepth 65536 in
set_option maxHeartbeats 40000000 in
theorem rm29 (l : Launch) (Z : State) (a0 : Array Value) (hw : ∀ d ∈ tables_1, d.before a0 Z = true) (ws : List Jvm.Cond) (w_PENDING w_IGNORE : Addr) (cs_v : Int32) (hp : Perm Z w_PENDING w_IGNORE cs_v) (a1 : Addr) (q2 : Int64) (a3 : Addr) (q4 : Int64) (a5 : Addr) (a6 : Addr) (a7 : Addr) (p8 : Int32) (p9 : Int32) (h0 : Heap) (n0 : Nat) (O0 : Old Z n0 h0) (E_a1 : Exa Z h0 a1 "com/example/graph_job_runner/graphjobrunner/ClaimedNode") (F_id_a1 : Fld Z h0 a1 "com/example/graph_job_runner/graphjobrunner/ClaimedNode" "id" "J" (.long (0 : Int64))) (F_runKey_a1 : Fld Z h0 a1 "com/example/graph_job_runner/graphjobrunner/ClaimedNode" "runKey" "Ljava/lang/String;" .null) (F_streamKey_a1 : Fld Z h0 a1 "com/example/graph_job_runner/graphjobrunner/ClaimedNode" "streamKey" "Ljava/lang/String;" .null) (F_position_a1 : Fld Z h0 a1 "com/example/graph_job_runner/graphjobrunner/ClaimedNode" "position" "J" (.long (0 : Int64))) (F_nodeKey_a1 : Fld Z h0 a1 "com/example/graph_job_runner/graphjobrunner/ClaimedNode" "nodeKey" "Ljava/lang/String;" .null) (F_processor_a1 : Fld Z h0 a1 "com/example/graph_job_runner/graphjobrunner/ClaimedNode" "processor" "Ljava/lang/String;" .null) (F_payload_a1 : Fld Z h0 a1 "com/example/graph_job_runner/graphjobrunner/ClaimedNode" "payload" "[B" .null) (F_attempt_a1 : Fld Z h0 a1 "com/example/graph_job_runner/graphjobrunner/ClaimedNode" "attempt" "I" (.int (0 : Int32))) (F_retryLimit_a1 : Fld Z h0 a1 "com/example/graph_job_runner/graphjobrunner/ClaimedNode" "retryLimit" "I" (.int (0 : Int32))) (F_failStrategy_a1 : Fld Z h0 a1 "com/example/graph_job_runner/graphjobrunner/ClaimedNode" "failStrategy" "Lcom/example/graph_job_runner/graphjobrunner/FailStrategy;" .null) (F_hasChildren_a1 : Fld Z h0 a1 "com/example/graph_job_runner/graphjobrunner/ClaimedNode" "hasChildren" "Z" (.int (0 : Int32))) (g_a1 : n0 ≤ a1) :
    MetFree l y9 (head1 (Jvm.Cond.code y9 prog_3_method_3_code 14 none :: ws) ({ frames := 1, cells := 0, slots := 0, locals := 12 } : Room)) (fun a U => a = #[(.ref a1), (.long q2), .null, (.ref a3), (.long q4), (.ref a5), (.ref a6), (.ref a7), (.int p8), (.int p9), (.ref w_IGNORE), (.int (0 : Int32))] ∧ Z.Warmed39 U.vm ∧ U.heap = h0) (fun _ _ _ _ _ => True) (fun _ U o U' => ∃ v L, o = .returned v ∧ Q29 Z w_PENDING w_IGNORE cs_v a1 q2 a3 q4 a5 a6 a7 p8 p9 h0 n0 v U'.heap L ∧ FrameEnd U o U' L ({ frames := 1, cells := 0, slots := 0, locals := 12 } : Room).cells ({ frames := 1, cells := 0, slots := 0, locals := 12 } : Room).slots) := by
  refine MetFree.of_bodySF (plainFor_of_name pn_12) hisR ?_
  intro p e s m args below meth c s₁ Bd hml0 hP hK
  obtain ⟨rfl, hZ, hh⟩ := hP
  have hx := Bd.exec
  have hby := Bd.bytes
  have hml : c.maxLocals = 14 := hml0
  have hown : s.vm.findClass "com/example/graph_job_runner/graphjobrunner/ClaimedNode" = some m.cls := findClass_of_methodNamed Bd.named
  have hnm := (name_of_methodNamed Bd.named Bd.method).1
  have X0 : Stand p l e ({ frames := 1, cells := 0, slots := 0, locals := 12 } : Room) s m #[(.ref a1), (.long q2), .null, (.ref a3), (.long q4), (.ref a5), (.ref a6), (.ref a7), (.int p8), (.int p9), (.ref w_IGNORE), (.int (0 : Int32))] below meth c s₁ [] 0 0 := Stand.of_body Bd
  have e0 : s₁.heap = h0 := by rw [← hh, Bd.state]; rfl
  have N0 := Fr.nil n0
  have hp' := hp
  obtain ⟨S_w_PENDING, E_w_PENDING, S_w_IGNORE, E_w_IGNORE, S_COMPACT_STRINGS, h_cs⟩ := hp'
  have pre0 : ∀ t, Steps p.tables e below (s₁.setTop (mkF m 0 #[.val (.ref a1), .val (.long q2), .second, .val .null, .val (.ref a3), .val (.long q4), .second, .val (.ref a5), .val (.ref a6), .val (.ref a7), .val (.int p8), .val (.int p9), .val (.ref w_IGNORE), .val (.int (0 : Int32))] [])) t → Steps p.tables e below (s₁.setTop (entryFrame m #[(.ref a1), (.long q2), .null, (.ref a3), (.long q4), (.ref a5), (.ref a6), (.ref a7), (.int p8), (.int p9), (.ref w_IGNORE), (.int (0 : Int32))] 14)) t := fun t k => castTop (ef_12_1 m a1 q2 a3 q4 a5 a6 a7 p8 p9 w_IGNORE (0 : Int32)) k
  obtain ⟨T1, X1, e1, st1⟩ := initO X0 hx hZ hown (hw _ (List.mem_of_getElem? (i := 56) rfl)) (hw _ (List.mem_of_getElem? (i := 12) rfl)) (hw _ (List.mem_of_getElem? (i := 13) rfl)) e0 (g := (mkF m 1 #[.val (.ref a1), .val (.long q2), .second, .val .null, .val (.ref a3), .val (.long q4), .second, .val (.ref a5), .val (.ref a6), .val (.ref a7), .val (.int p8), .val (.int p9), .val (.ref w_IGNORE), .val (.int (0 : Int32))] [(.ref a1)])) rfl (by rw [hml]; rfl) rfl (hb hby d12_1) (by decide) (W := 0) (by show 2 * 0 + _ ≤ _; exact Nat.le_of_eq rfl) (by decide)
  obtain ⟨T2, h2, X2, e2, W2, st2⟩ := putF X1 hx hZ hown (host := "") (Or.inl (hw _ (List.mem_of_getElem? (i := 57) rfl))) Via.refl e1 F_id_a1 E_a1 (Or.inr ⟨(hw _ (List.mem_of_getElem? (i := 58) rfl)), rfl, hnm⟩) (hw _ (List.mem_of_getElem? (i := 48) rfl)) (ty := .long) (by decide) rfl rfl (g := (mkF m 6 #[.val (.ref a1), .val (.long q2), .second, .val .null, .val (.ref a3), .val (.long q4), .second, .val (.ref a5), .val (.ref a6), .val (.ref a7), .val (.int p8), .val (.int p9), .val (.ref w_IGNORE), .val (.int (0 : Int32))] [(.long q2), (.ref a1)])) rfl rfl (hb hby d12_6)
  have N2 := Fr.snoc X2 N0 g_a1
  have O2 := O0.wr W2 g_a1
  have K2 : Keep h0 h2 [a1] := (Keep.refl h0 [a1]).wr W2 (Or.inl (List.mem_of_getElem? (i := 0) rfl))
  have Fw2 := F_id_a1.same W2
  obtain ⟨T3, h3, X3, e3, W3, st3⟩ := putF X2 hx hZ hown (host := "") (Or.inl (hw _ (List.mem_of_getElem? (i := 59) rfl))) Via.refl e2 (F_runKey_a1.other W2 (Or.inr (sn2 hw))) (E_a1.wr W2) (Or.inr ⟨(hw _ (List.mem_of_getElem? (i := 60) rfl)), rfl, hnm⟩) (hw _ (List.mem_of_getElem? (i := 48) rfl)) (ty := (.object "java/lang/String")) (by decide) rfl rfl (g := (mkF m 11 #[.val (.ref a1), .val (.long q2), .second, .val .null, .val (.ref a3), .val (.long q4), .second, .val (.ref a5), .val (.ref a6), .val (.ref a7), .val (.int p8), .val (.int p9), .val (.ref w_IGNORE), .val (.int (0 : Int32))] [.null, (.ref a1)])) rfl rfl (hb hby d12_11)
  have N3 := Fr.snoc X3 N2 g_a1
  have O3 := O2.wr W3 g_a1
  have K3 : Keep h0 h3 [a1] := K2.wr W3 (Or.inl (List.mem_of_getElem? (i := 0) rfl))
  have Fw3 := (F_runKey_a1.other W2 (Or.inr (sn2 hw))).same W3
  have f_4 := ((F_streamKey_a1.other W2 (Or.inr (sn3 hw))).other W3 (Or.inr (sn4 hw)))
  obtain ⟨T5, h5, X5, e5, W5, st5⟩ := putF X3 hx hZ hown (host := "") (Or.inl (hw _ (List.mem_of_getElem? (i := 61) rfl))) Via.refl e3 f_4 ((E_a1.wr W2).wr W3) (Or.inr ⟨(hw _ (List.mem_of_getElem? (i := 62) rfl)), rfl, hnm⟩) (hw _ (List.mem_of_getElem? (i := 48) rfl)) (ty := (.object "java/lang/String")) (by decide) rfl rfl (g := (mkF m 17 #[.val (.ref a1), .val (.long q2), .second, .val .null, .val (.ref a3), .val (.long q4), .second, .val (.ref a5), .val (.ref a6), .val (.ref a7), .val (.int p8), .val (.int p9), .val (.ref w_IGNORE), .val (.int (0 : Int32))] [(.ref a3), (.ref a1)])) rfl rfl (hb hby d12_17)
  have N5 := Fr.snoc X5 N3 g_a1
  have O5 := O3.wr W5 g_a1
  have K5 : Keep h0 h5 [a1] := K3.wr W5 (Or.inl (List.mem_of_getElem? (i := 0) rfl))
  have Fw5 := f_4.same W5
  have f_6 := (((F_position_a1.other W2 (Or.inr (sn5 hw))).other W3 (Or.inr (sn6 hw))).other W5 (Or.inr (sn7 hw)))
  obtain ⟨T7, h7, X7, e7, W7, st7⟩ := putF X5 hx hZ hown (host := "") (Or.inl (hw _ (List.mem_of_getElem? (i := 63) rfl))) Via.refl e5 f_6 (((E_a1.wr W2).wr W3).wr W5) (Or.inr ⟨(hw _ (List.mem_of_getElem? (i := 64) rfl)), rfl, hnm⟩) (hw _ (List.mem_of_getElem? (i := 48) rfl)) (ty := .long) (by decide) rfl rfl (g := (mkF m 23 #[.val (.ref a1), .val (.long q2), .second, .val .null, .val (.ref a3), .val (.long q4), .second, .val (.ref a5), .val (.ref a6), .val (.ref a7), .val (.int p8), .val (.int p9), .val (.ref w_IGNORE), .val (.int (0 : Int32))] [(.long q4), (.ref a1)])) rfl rfl (hb hby d12_23)
  have N7 := Fr.snoc X7 N5 g_a1
  have O7 := O5.wr W7 g_a1
  have K7 : Keep h0 h7 [a1] := K5.wr W7 (Or.inl (List.mem_of_getElem? (i := 0) rfl))
  have Fw7 := f_6.same W7
  have f_8 := ((((F_nodeKey_a1.other W2 (Or.inr (sn8 hw))).other W3 (Or.inr (sn9 hw))).other W5 (Or.inr (sn10 hw))).other W7 (Or.inr (sn11 hw)))
  obtain ⟨T9, h9, X9, e9, W9, st9⟩ := putF X7 hx hZ hown (host := "") (Or.inl (hw _ (List.mem_of_getElem? (i := 65) rfl))) Via.refl e7 f_8 ((((E_a1.wr W2).wr W3).wr W5).wr W7) (Or.inr ⟨(hw _ (List.mem_of_getElem? (i := 66) rfl)), rfl, hnm⟩) (hw _ (List.mem_of_getElem? (i := 48) rfl)) (ty := (.object "java/lang/String")) (by decide) rfl rfl (g := (mkF m 29 #[.val (.ref a1), .val (.long q2), .second, .val .null, .val (.ref a3), .val (.long q4), .second, .val (.ref a5), .val (.ref a6), .val (.ref a7), .val (.int p8), .val (.int p9), .val (.ref w_IGNORE), .val (.int (0 : Int32))] [(.ref a5), (.ref a1)])) rfl rfl (hb hby d12_29)
  have N9 := Fr.snoc X9 N7 g_a1
  have O9 := O7.wr W9 g_a1
  have K9 : Keep h0 h9 [a1] := K7.wr W9 (Or.inl (List.mem_of_getElem? (i := 0) rfl))
  have Fw9 := f_8.same W9
  have f_10 := (((((F_processor_a1.other W2 (Or.inr (sn12 hw))).other W3 (Or.inr (sn13 hw))).other W5 (Or.inr (sn14 hw))).other W7 (Or.inr (sn15 hw))).other W9 (Or.inr (sn16 hw)))
  obtain ⟨T11, h11, X11, e11, W11, st11⟩ := putF X9 hx hZ hown (host := "") (Or.inl (hw _ (List.mem_of_getElem? (i := 67) rfl))) Via.refl e9 f_10 (((((E_a1.wr W2).wr W3).wr W5).wr W7).wr W9) (Or.inr ⟨(hw _ (List.mem_of_getElem? (i := 68) rfl)), rfl, hnm⟩) (hw _ (List.mem_of_getElem? (i := 48) rfl)) (ty := (.object "java/lang/String")) (by decide) rfl rfl (g := (mkF m 35 #[.val (.ref a1), .val (.long q2), .second, .val .null, .val (.ref a3), .val (.long q4), .second, .val (.ref a5), .val (.ref a6), .val (.ref a7), .val (.int p8), .val (.int p9), .val (.ref w_IGNORE), .val (.int (0 : Int32))] [(.ref a6), (.ref a1)])) rfl rfl (hb hby d12_35)
  have N11 := Fr.snoc X11 N9 g_a1
  have O11 := O9.wr W11 g_a1
  have K11 : Keep h0 h11 [a1] := K9.wr W11 (Or.inl (List.mem_of_getElem? (i := 0) rfl))
  have Fw11 := f_10.same W11
  have f_12 := ((((((F_payload_a1.other W2 (Or.inr (sn17 hw))).other W3 (Or.inr (sn18 hw))).other W5 (Or.inr (sn19 hw))).other W7 (Or.inr (sn20 hw))).other W9 (Or.inr (sn21 hw))).other W11 (Or.inr (sn22 hw)))
  obtain ⟨T13, h13, X13, e13, W13, st13⟩ := putF X11 hx hZ hown (host := "") (Or.inl (hw _ (List.mem_of_getElem? (i := 69) rfl))) Via.refl e11 f_12 ((((((E_a1.wr W2).wr W3).wr W5).wr W7).wr W9).wr W11) (Or.inr ⟨(hw _ (List.mem_of_getElem? (i := 70) rfl)), rfl, hnm⟩) (hw _ (List.mem_of_getElem? (i := 48) rfl)) (ty := (.array .byte)) (by decide) rfl rfl (g := (mkF m 41 #[.val (.ref a1), .val (.long q2), .second, .val .null, .val (.ref a3), .val (.long q4), .second, .val (.ref a5), .val (.ref a6), .val (.ref a7), .val (.int p8), .val (.int p9), .val (.ref w_IGNORE), .val (.int (0 : Int32))] [(.ref a7), (.ref a1)])) rfl rfl (hb hby d12_41)
  have N13 := Fr.snoc X13 N11 g_a1
  have O13 := O11.wr W13 g_a1
  have K13 : Keep h0 h13 [a1] := K11.wr W13 (Or.inl (List.mem_of_getElem? (i := 0) rfl))
  have Fw13 := f_12.same W13
  have f_14 := (((((((E_a1.wr W2).wr W3).wr W5).wr W7).wr W9).wr W11).wr W13)
  have f_15 := (((((((F_attempt_a1.other W2 (Or.inr (sn23 hw))).other W3 (Or.inr (sn24 hw))).other W5 (Or.inr (sn25 hw))).other W7 (Or.inr (sn26 hw))).other W9 (Or.inr (sn27 hw))).other W11 (Or.inr (sn28 hw))).other W13 (Or.inr (sn29 hw)))
  obtain ⟨T16, h16, X16, e16, W16, st16⟩ := putF X13 hx hZ hown (host := "") (Or.inl (hw _ (List.mem_of_getElem? (i := 71) rfl))) Via.refl e13 f_15 f_14 (Or.inr ⟨(hw _ (List.mem_of_getElem? (i := 72) rfl)), rfl, hnm⟩) (hw _ (List.mem_of_getElem? (i := 48) rfl)) (ty := .int) (by decide) rfl rfl (g := (mkF m 47 #[.val (.ref a1), .val (.long q2), .second, .val .null, .val (.ref a3), .val (.long q4), .second, .val (.ref a5), .val (.ref a6), .val (.ref a7), .val (.int p8), .val (.int p9), .val (.ref w_IGNORE), .val (.int (0 : Int32))] [(.int p8), (.ref a1)])) rfl rfl (hb hby d12_47)
  have N16 := Fr.snoc X16 N13 g_a1
  have O16 := O13.wr W16 g_a1
  have K16 : Keep h0 h16 [a1] := K13.wr W16 (Or.inl (List.mem_of_getElem? (i := 0) rfl))
  have Fw16 := f_15.same W16
  have f_17 := ((((((((F_retryLimit_a1.other W2 (Or.inr (sn30 hw))).other W3 (Or.inr (sn31 hw))).other W5 (Or.inr (sn32 hw))).other W7 (Or.inr (sn33 hw))).other W9 (Or.inr (sn34 hw))).other W11 (Or.inr (sn35 hw))).other W13 (Or.inr (sn36 hw))).other W16 (Or.inr (sn37 hw)))
  obtain ⟨T18, h18, X18, e18, W18, st18⟩ := putF X16 hx hZ hown (host := "") (Or.inl (hw _ (List.mem_of_getElem? (i := 73) rfl))) Via.refl e16 f_17 (f_14.wr W16) (Or.inr ⟨(hw _ (List.mem_of_getElem? (i := 74) rfl)), rfl, hnm⟩) (hw _ (List.mem_of_getElem? (i := 48) rfl)) (ty := .int) (by decide) rfl rfl (g := (mkF m 53 #[.val (.ref a1), .val (.long q2), .second, .val .null, .val (.ref a3), .val (.long q4), .second, .val (.ref a5), .val (.ref a6), .val (.ref a7), .val (.int p8), .val (.int p9), .val (.ref w_IGNORE), .val (.int (0 : Int32))] [(.int p9), (.ref a1)])) rfl rfl (hb hby d12_53)
  have N18 := Fr.snoc X18 N16 g_a1
  have O18 := O16.wr W18 g_a1
  have K18 : Keep h0 h18 [a1] := K16.wr W18 (Or.inl (List.mem_of_getElem? (i := 0) rfl))
  have Fw18 := f_17.same W18
  have f_19 := (((((((((F_failStrategy_a1.other W2 (Or.inr (sn38 hw))).other W3 (Or.inr (sn39 hw))).other W5 (Or.inr (sn40 hw))).other W7 (Or.inr (sn41 hw))).other W9 (Or.inr (sn42 hw))).other W11 (Or.inr (sn43 hw))).other W13 (Or.inr (sn44 hw))).other W16 (Or.inr (sn45 hw))).other W18 (Or.inr (sn46 hw)))
  obtain ⟨T20, h20, X20, e20, W20, st20⟩ := putF X18 hx hZ hown (host := "") (Or.inl (hw _ (List.mem_of_getElem? (i := 75) rfl))) Via.refl e18 f_19 ((f_14.wr W16).wr W18) (Or.inr ⟨(hw _ (List.mem_of_getElem? (i := 76) rfl)), rfl, hnm⟩) (hw _ (List.mem_of_getElem? (i := 48) rfl)) (ty := (.object "com/example/graph_job_runner/graphjobrunner/FailStrategy")) (by decide) rfl rfl (g := (mkF m 59 #[.val (.ref a1), .val (.long q2), .second, .val .null, .val (.ref a3), .val (.long q4), .second, .val (.ref a5), .val (.ref a6), .val (.ref a7), .val (.int p8), .val (.int p9), .val (.ref w_IGNORE), .val (.int (0 : Int32))] [(.ref w_IGNORE), (.ref a1)])) rfl rfl (hb hby d12_59)
  have N20 := Fr.snoc X20 N18 g_a1
  have O20 := O18.wr W20 g_a1
  have K20 : Keep h0 h20 [a1] := K18.wr W20 (Or.inl (List.mem_of_getElem? (i := 0) rfl))
  have Fw20 := f_19.same W20
  have f_21 := ((((((((((F_hasChildren_a1.other W2 (Or.inr (sn47 hw))).other W3 (Or.inr (sn48 hw))).other W5 (Or.inr (sn49 hw))).other W7 (Or.inr (sn50 hw))).other W9 (Or.inr (sn51 hw))).other W11 (Or.inr (sn52 hw))).other W13 (Or.inr (sn53 hw))).other W16 (Or.inr (sn54 hw))).other W18 (Or.inr (sn55 hw))).other W20 (Or.inr (sn56 hw)))
  obtain ⟨T22, h22, X22, e22, W22, st22⟩ := putFN X20 hx hZ hown (hw _ (List.mem_of_getElem? (i := 77) rfl)) Via.refl e20 f_21 (((f_14.wr W16).wr W18).wr W20) (Or.inr ⟨(hw _ (List.mem_of_getElem? (i := 78) rfl)), rfl, hnm⟩) (hw _ (List.mem_of_getElem? (i := 48) rfl)) (ty := .boolean) (v' := (.int (0 : Int32))) (by decide) rfl rfl (g := (mkF m 65 #[.val (.ref a1), .val (.long q2), .second, .val .null, .val (.ref a3), .val (.long q4), .second, .val (.ref a5), .val (.ref a6), .val (.ref a7), .val (.int p8), .val (.int p9), .val (.ref w_IGNORE), .val (.int (0 : Int32))] [(.int (0 : Int32)), (.ref a1)])) rfl rfl (hb hby d12_65)
  have N22 := Fr.snoc X22 N20 g_a1
  have O22 := O20.wr W22 g_a1
  have K22 : Keep h0 h22 [a1] := K20.wr W22 (Or.inl (List.mem_of_getElem? (i := 0) rfl))
  have Fw22 := f_21.same W22
  have f_23 := (((Fw16.other W18 (Or.inr (sn57 hw))).other W20 (Or.inr (sn58 hw))).other W22 (Or.inr (sn59 hw)))
  have f_24 := ((((((((((Fw2.other W3 (Or.inr (sn61 hw))).other W5 (Or.inr (sn62 hw))).other W7 (Or.inr (sn63 hw))).other W9 (Or.inr (sn64 hw))).other W11 (Or.inr (sn65 hw))).other W13 (Or.inr (sn66 hw))).other W16 (Or.inr (sn67 hw))).other W18 (Or.inr (sn68 hw))).other W20 (Or.inr (sn69 hw))).other W22 (Or.inr (sn70 hw)))
  have f_25 := ((((((Fw9.other W11 (Or.inr (sn71 hw))).other W13 (Or.inr (sn72 hw))).other W16 (Or.inr (sn73 hw))).other W18 (Or.inr (sn74 hw))).other W20 (Or.inr (sn75 hw))).other W22 (Or.inr (sn76 hw)))
  have f_26 := ((((Fw13.other W16 (Or.inr (sn77 hw))).other W18 (Or.inr (sn78 hw))).other W20 (Or.inr (sn79 hw))).other W22 (Or.inr (sn80 hw)))
  have f_27 := (((((((Fw7.other W9 (Or.inr (sn81 hw))).other W11 (Or.inr (sn82 hw))).other W13 (Or.inr (sn83 hw))).other W16 (Or.inr (sn84 hw))).other W18 (Or.inr (sn85 hw))).other W20 (Or.inr (sn86 hw))).other W22 (Or.inr (sn87 hw)))
  have f_28 := (((((Fw11.other W13 (Or.inr (sn88 hw))).other W16 (Or.inr (sn89 hw))).other W18 (Or.inr (sn90 hw))).other W20 (Or.inr (sn91 hw))).other W22 (Or.inr (sn92 hw)))
  have f_29 := ((Fw18.other W20 (Or.inr (sn93 hw))).other W22 (Or.inr (sn94 hw)))
  have f_30 := (((((((((Fw3.other W5 (Or.inr (sn95 hw))).other W7 (Or.inr (sn96 hw))).other W9 (Or.inr (sn97 hw))).other W11 (Or.inr (sn98 hw))).other W13 (Or.inr (sn99 hw))).other W16 (Or.inr (sn100 hw))).other W18 (Or.inr (sn101 hw))).other W20 (Or.inr (sn102 hw))).other W22 (Or.inr (sn103 hw)))
  have f_31 := ((((((((Fw5.other W7 (Or.inr (sn104 hw))).other W9 (Or.inr (sn105 hw))).other W11 (Or.inr (sn106 hw))).other W13 (Or.inr (sn107 hw))).other W16 (Or.inr (sn108 hw))).other W18 (Or.inr (sn109 hw))).other W20 (Or.inr (sn110 hw))).other W22 (Or.inr (sn111 hw)))
  obtain ⟨fs, hr, hrun, hended, hW, hsame⟩ := X22.leave (v := none) (fun _ => rfl)
  refine ⟨_, _, pre0 _ ?_, hrun, hended, _, _, rfl, ?_, ⟨_, rfl⟩, hW, hsame.mono (by decide) (by decide)⟩
  · show Sp p e below s₁ (mkF m 0 #[.val (.ref a1), .val (.long q2), .second, .val .null, .val (.ref a3), .val (.long q4), .second, .val (.ref a5), .val (.ref a6), .val (.ref a7), .val (.int p8), .val (.int p9), .val (.ref w_IGNORE), .val (.int (0 : Int32))] []) _
    refine XS.aloadN X0.here hx rfl (hb hby d12_0) rfl rfl ?_
    show Sp p e below s₁ (mkF m 1 #[.val (.ref a1), .val (.long q2), .second, .val .null, .val (.ref a3), .val (.long q4), .second, .val (.ref a5), .val (.ref a6), .val (.ref a7), .val (.int p8), .val (.int p9), .val (.ref w_IGNORE), .val (.int (0 : Int32))] [(.ref a1)]) _
    refine st1 _ ?_
    show Sp p e below T1 (mkF m 4 #[.val (.ref a1), .val (.long q2), .second, .val .null, .val (.ref a3), .val (.long q4), .second, .val (.ref a5), .val (.ref a6), .val (.ref a7), .val (.int p8), .val (.int p9), .val (.ref w_IGNORE), .val (.int (0 : Int32))] []) _
    refine XS.aloadN X1.here hx rfl (hb hby d12_4) rfl rfl ?_
    refine XS.lloadN X1.here hx rfl (hb hby d12_5) rfl ?_
    show Sp p e below T1 (mkF m 6 #[.val (.ref a1), .val (.long q2), .second, .val .null, .val (.ref a3), .val (.long q4), .second, .val (.ref a5), .val (.ref a6), .val (.ref a7), .val (.int p8), .val (.int p9), .val (.ref w_IGNORE), .val (.int (0 : Int32))] [(.long q2), (.ref a1)]) _
    refine st2 _ ?_
    show Sp p e below T2 (mkF m 9 #[.val (.ref a1), .val (.long q2), .second, .val .null, .val (.ref a3), .val (.long q4), .second, .val (.ref a5), .val (.ref a6), .val (.ref a7), .val (.int p8), .val (.int p9), .val (.ref w_IGNORE), .val (.int (0 : Int32))] []) _
    refine XS.aloadN X2.here hx rfl (hb hby d12_9) rfl rfl ?_
    refine XS.aloadN X2.here hx rfl (hb hby d12_10) rfl rfl ?_
    show Sp p e below T2 (mkF m 11 #[.val (.ref a1), .val (.long q2), .second, .val .null, .val (.ref a3), .val (.long q4), .second, .val (.ref a5), .val (.ref a6), .val (.ref a7), .val (.int p8), .val (.int p9), .val (.ref w_IGNORE), .val (.int (0 : Int32))] [.null, (.ref a1)]) _
    refine st3 _ ?_
    show Sp p e below T3 (mkF m 14 #[.val (.ref a1), .val (.long q2), .second, .val .null, .val (.ref a3), .val (.long q4), .second, .val (.ref a5), .val (.ref a6), .val (.ref a7), .val (.int p8), .val (.int p9), .val (.ref w_IGNORE), .val (.int (0 : Int32))] []) _
    refine XS.aloadN X3.here hx rfl (hb hby d12_14) rfl rfl ?_
    refine XS.aload X3.here hx rfl (hb hby d12_15) rfl rfl ?_
    show Sp p e below T3 (mkF m 17 #[.val (.ref a1), .val (.long q2), .second, .val .null, .val (.ref a3), .val (.long q4), .second, .val (.ref a5), .val (.ref a6), .val (.ref a7), .val (.int p8), .val (.int p9), .val (.ref w_IGNORE), .val (.int (0 : Int32))] [(.ref a3), (.ref a1)]) _
    refine st5 _ ?_
    show Sp p e below T5 (mkF m 20 #[.val (.ref a1), .val (.long q2), .second, .val .null, .val (.ref a3), .val (.long q4), .second, .val (.ref a5), .val (.ref a6), .val (.ref a7), .val (.int p8), .val (.int p9), .val (.ref w_IGNORE), .val (.int (0 : Int32))] []) _
    refine XS.aloadN X5.here hx rfl (hb hby d12_20) rfl rfl ?_
    refine XS.lload X5.here hx rfl (hb hby d12_21) rfl ?_
    show Sp p e below T5 (mkF m 23 #[.val (.ref a1), .val (.long q2), .second, .val .null, .val (.ref a3), .val (.long q4), .second, .val (.ref a5), .val (.ref a6), .val (.ref a7), .val (.int p8), .val (.int p9), .val (.ref w_IGNORE), .val (.int (0 : Int32))] [(.long q4), (.ref a1)]) _
    refine st7 _ ?_
    show Sp p e below T7 (mkF m 26 #[.val (.ref a1), .val (.long q2), .second, .val .null, .val (.ref a3), .val (.long q4), .second, .val (.ref a5), .val (.ref a6), .val (.ref a7), .val (.int p8), .val (.int p9), .val (.ref w_IGNORE), .val (.int (0 : Int32))] []) _
    refine XS.aloadN X7.here hx rfl (hb hby d12_26) rfl rfl ?_
    refine XS.aload X7.here hx rfl (hb hby d12_27) rfl rfl ?_
    show Sp p e below T7 (mkF m 29 #[.val (.ref a1), .val (.long q2), .second, .val .null, .val (.ref a3), .val (.long q4), .second, .val (.ref a5), .val (.ref a6), .val (.ref a7), .val (.int p8), .val (.int p9), .val (.ref w_IGNORE), .val (.int (0 : Int32))] [(.ref a5), (.ref a1)]) _
    refine st9 _ ?_
    show Sp p e below T9 (mkF m 32 #[.val (.ref a1), .val (.long q2), .second, .val .null, .val (.ref a3), .val (.long q4), .second, .val (.ref a5), .val (.ref a6), .val (.ref a7), .val (.int p8), .val (.int p9), .val (.ref w_IGNORE), .val (.int (0 : Int32))] []) _
    refine XS.aloadN X9.here hx rfl (hb hby d12_32) rfl rfl ?_
    refine XS.aload X9.here hx rfl (hb hby d12_33) rfl rfl ?_
    show Sp p e below T9 (mkF m 35 #[.val (.ref a1), .val (.long q2), .second, .val .null, .val (.ref a3), .val (.long q4), .second, .val (.ref a5), .val (.ref a6), .val (.ref a7), .val (.int p8), .val (.int p9), .val (.ref w_IGNORE), .val (.int (0 : Int32))] [(.ref a6), (.ref a1)]) _
    refine st11 _ ?_
    show Sp p e below T11 (mkF m 38 #[.val (.ref a1), .val (.long q2), .second, .val .null, .val (.ref a3), .val (.long q4), .second, .val (.ref a5), .val (.ref a6), .val (.ref a7), .val (.int p8), .val (.int p9), .val (.ref w_IGNORE), .val (.int (0 : Int32))] []) _
    refine XS.aloadN X11.here hx rfl (hb hby d12_38) rfl rfl ?_
    refine XS.aload X11.here hx rfl (hb hby d12_39) rfl rfl ?_
    show Sp p e below T11 (mkF m 41 #[.val (.ref a1), .val (.long q2), .second, .val .null, .val (.ref a3), .val (.long q4), .second, .val (.ref a5), .val (.ref a6), .val (.ref a7), .val (.int p8), .val (.int p9), .val (.ref w_IGNORE), .val (.int (0 : Int32))] [(.ref a7), (.ref a1)]) _
    refine st13 _ ?_
    show Sp p e below T13 (mkF m 44 #[.val (.ref a1), .val (.long q2), .second, .val .null, .val (.ref a3), .val (.long q4), .second, .val (.ref a5), .val (.ref a6), .val (.ref a7), .val (.int p8), .val (.int p9), .val (.ref w_IGNORE), .val (.int (0 : Int32))] []) _
    refine XS.aloadN X13.here hx rfl (hb hby d12_44) rfl rfl ?_
    refine XS.iload X13.here hx rfl (hb hby d12_45) rfl ?_
    show Sp p e below T13 (mkF m 47 #[.val (.ref a1), .val (.long q2), .second, .val .null, .val (.ref a3), .val (.long q4), .second, .val (.ref a5), .val (.ref a6), .val (.ref a7), .val (.int p8), .val (.int p9), .val (.ref w_IGNORE), .val (.int (0 : Int32))] [(.int p8), (.ref a1)]) _
    refine st16 _ ?_
    show Sp p e below T16 (mkF m 50 #[.val (.ref a1), .val (.long q2), .second, .val .null, .val (.ref a3), .val (.long q4), .second, .val (.ref a5), .val (.ref a6), .val (.ref a7), .val (.int p8), .val (.int p9), .val (.ref w_IGNORE), .val (.int (0 : Int32))] []) _
    refine XS.aloadN X16.here hx rfl (hb hby d12_50) rfl rfl ?_
    refine XS.iload X16.here hx rfl (hb hby d12_51) rfl ?_
    show Sp p e below T16 (mkF m 53 #[.val (.ref a1), .val (.long q2), .second, .val .null, .val (.ref a3), .val (.long q4), .second, .val (.ref a5), .val (.ref a6), .val (.ref a7), .val (.int p8), .val (.int p9), .val (.ref w_IGNORE), .val (.int (0 : Int32))] [(.int p9), (.ref a1)]) _
    refine st18 _ ?_
    show Sp p e below T18 (mkF m 56 #[.val (.ref a1), .val (.long q2), .second, .val .null, .val (.ref a3), .val (.long q4), .second, .val (.ref a5), .val (.ref a6), .val (.ref a7), .val (.int p8), .val (.int p9), .val (.ref w_IGNORE), .val (.int (0 : Int32))] []) _
    refine XS.aloadN X18.here hx rfl (hb hby d12_56) rfl rfl ?_
    refine XS.aload X18.here hx rfl (hb hby d12_57) rfl rfl ?_
    show Sp p e below T18 (mkF m 59 #[.val (.ref a1), .val (.long q2), .second, .val .null, .val (.ref a3), .val (.long q4), .second, .val (.ref a5), .val (.ref a6), .val (.ref a7), .val (.int p8), .val (.int p9), .val (.ref w_IGNORE), .val (.int (0 : Int32))] [(.ref w_IGNORE), (.ref a1)]) _
    refine st20 _ ?_
    show Sp p e below T20 (mkF m 62 #[.val (.ref a1), .val (.long q2), .second, .val .null, .val (.ref a3), .val (.long q4), .second, .val (.ref a5), .val (.ref a6), .val (.ref a7), .val (.int p8), .val (.int p9), .val (.ref w_IGNORE), .val (.int (0 : Int32))] []) _
    refine XS.aloadN X20.here hx rfl (hb hby d12_62) rfl rfl ?_
    refine XS.iload X20.here hx rfl (hb hby d12_63) rfl ?_
    show Sp p e below T20 (mkF m 65 #[.val (.ref a1), .val (.long q2), .second, .val .null, .val (.ref a3), .val (.long q4), .second, .val (.ref a5), .val (.ref a6), .val (.ref a7), .val (.int p8), .val (.int p9), .val (.ref w_IGNORE), .val (.int (0 : Int32))] [(.int (0 : Int32)), (.ref a1)]) _
    refine st22 _ ?_
    show Sp p e below T22 (mkF m 68 #[.val (.ref a1), .val (.long q2), .second, .val .null, .val (.ref a3), .val (.long q4), .second, .val (.ref a5), .val (.ref a6), .val (.ref a7), .val (.int p8), .val (.int p9), .val (.ref w_IGNORE), .val (.int (0 : Int32))] []) _
    exact X22.returnOut hx Bd.returns (hb hby d12_68) hr
  · show Q29 Z w_PENDING w_IGNORE cs_v a1 q2 a3 q4 a5 a6 a7 p8 p9 h0 n0 _ T22.heap _
    rw [e22]
    exact ⟨rfl, N22, K22, ((((f_14.wr W16).wr W18).wr W20).wr W22), f_23, (Fw20.other W22 (Or.inr (sn60 hw))), Fw22, f_24, f_25, f_26, f_27, f_28, f_29, f_30, f_31⟩
def Q30 (Z : State) (w_PENDING : Addr) (w_IGNORE : Addr) (cs_v : Int32) (a1 : Addr) (q2 : Int64) (a3 : Addr) (q4 : Int64) (a5 : Addr) (a6 : Addr) (a7 : Addr) (p8 : Int32) (p9 : Int32) (h0 : Heap) (n0 : Nat) (v : Option Value) (h : Heap) (L : List Loc) : Prop := v = none ∧ Fr n0 L ∧ Keep h0 h [a1] ∧ Exa Z h a1 "com/example/graph_job_runner/graphjobrunner/ClaimedNode" ∧ Fld Z h a1 "com/example/graph_job_runner/graphjobrunner/ClaimedNode" "attempt" "I" (.int p8) ∧ Fld Z h a1 "com/example/graph_job_runner/graphjobrunner/ClaimedNode" "failStrategy" "Lcom/example/graph_job_runner/graphjobrunner/FailStrategy;" (.ref w_IGNORE) ∧ Fld Z h a1 "com/example/graph_job_runner/graphjobrunner/ClaimedNode" "hasChildren" "Z" (.int (0 : Int32)) ∧ Fld Z h a1 "com/example/graph_job_runner/graphjobrunner/ClaimedNode" "id" "J" (.long q2) ∧ Fld Z h a1 "com/example/graph_job_runner/graphjobrunner/ClaimedNode" "nodeKey" "Ljava/lang/String;" (.ref a5) ∧ Fld Z h a1 "com/example/graph_job_runner/graphjobrunner/ClaimedNode" "payload" "[B" (.ref a7) ∧ Fld Z h a1 "com/example/graph_job_runner/graphjobrunner/ClaimedNode" "position" "J" (.long q4) ∧ Fld Z h a1 "com/example/graph_job_runner/graphjobrunner/ClaimedNode" "processor" "Ljava/lang/String;" (.ref a6) ∧ Fld Z h a1 "com/example/graph_job_runner/graphjobrunner/ClaimedNode" "retryLimit" "I" (.int p9) ∧ Fld Z h a1 "com/example/graph_job_runner/graphjobrunner/ClaimedNode" "runKey" "Ljava/lang/String;" .null ∧ Fld Z h a1 "com/example/graph_job_runner/graphjobrunner/ClaimedNode" "streamKey" "Ljava/lang/String;" (.ref a3)
set_option maxRecDepth 65536 in
set_option maxHeartbeats 40000000 in
theorem rm30 (l : Launch) (Z : State) (a0 : Array Value) (hw : ∀ d ∈ tables_1, d.before a0 Z = true) (ws : List Jvm.Cond) (w_PENDING w_IGNORE : Addr) (cs_v : Int32) (hp : Perm Z w_PENDING w_IGNORE cs_v) (a1 : Addr) (q2 : Int64) (a3 : Addr) (q4 : Int64) (a5 : Addr) (a6 : Addr) (a7 : Addr) (p8 : Int32) (p9 : Int32) (h0 : Heap) (n0 : Nat) (O0 : Old Z n0 h0) (E_a1 : Exa Z h0 a1 "com/example/graph_job_runner/graphjobrunner/ClaimedNode") (F_id_a1 : Fld Z h0 a1 "com/example/graph_job_runner/graphjobrunner/ClaimedNode" "id" "J" (.long (0 : Int64))) (F_runKey_a1 : Fld Z h0 a1 "com/example/graph_job_runner/graphjobrunner/ClaimedNode" "runKey" "Ljava/lang/String;" .null) (F_streamKey_a1 : Fld Z h0 a1 "com/example/graph_job_runner/graphjobrunner/ClaimedNode" "streamKey" "Ljava/lang/String;" .null) (F_position_a1 : Fld Z h0 a1 "com/example/graph_job_runner/graphjobrunner/ClaimedNode" "position" "J" (.long (0 : Int64))) (F_nodeKey_a1 : Fld Z h0 a1 "com/example/graph_job_runner/graphjobrunner/ClaimedNode" "nodeKey" "Ljava/lang/String;" .null) (F_processor_a1 : Fld Z h0 a1 "com/example/graph_job_runner/graphjobrunner/ClaimedNode" "processor" "Ljava/lang/String;" .null) (F_payload_a1 : Fld Z h0 a1 "com/example/graph_job_runner/graphjobrunner/ClaimedNode" "payload" "[B" .null) (F_attempt_a1 : Fld Z h0 a1 "com/example/graph_job_runner/graphjobrunner/ClaimedNode" "attempt" "I" (.int (0 : Int32))) (F_retryLimit_a1 : Fld Z h0 a1 "com/example/graph_job_runner/graphjobrunner/ClaimedNode" "retryLimit" "I" (.int (0 : Int32))) (F_failStrategy_a1 : Fld Z h0 a1 "com/example/graph_job_runner/graphjobrunner/ClaimedNode" "failStrategy" "Lcom/example/graph_job_runner/graphjobrunner/FailStrategy;" .null) (F_hasChildren_a1 : Fld Z h0 a1 "com/example/graph_job_runner/graphjobrunner/ClaimedNode" "hasChildren" "Z" (.int (0 : Int32))) (g_a1 : n0 ≤ a1) :
    MetFree l y14 (head1 (Jvm.Cond.code y14 prog_3_method_2_code 12 none :: ws) ({ frames := 2, cells := 0, slots := 0, locals := 37 } : Room)) (fun a U => a = #[(.ref a1), (.long q2), (.ref a3), (.long q4), (.ref a5), (.ref a6), (.ref a7), (.int p8), (.int p9), (.ref w_IGNORE)] ∧ Z.Warmed39 U.vm ∧ U.heap = h0) (fun _ _ _ _ _ => True) (fun _ U o U' => ∃ v L, o = .returned v ∧ Q30 Z w_PENDING w_IGNORE cs_v a1 q2 a3 q4 a5 a6 a7 p8 p9 h0 n0 v U'.heap L ∧ FrameEnd U o U' L ({ frames := 2, cells := 0, slots := 0, locals := 37 } : Room).cells ({ frames := 2, cells := 0, slots := 0, locals := 37 } : Room).slots) := by
  refine MetFree.of_bodySF (plainFor_of_name pn_12) hisR ?_
  intro p e s m args below meth c s₁ Bd hml0 hP hK
  obtain ⟨rfl, hZ, hh⟩ := hP
  have hx := Bd.exec
  have hby := Bd.bytes
  have hml : c.maxLocals = 12 := hml0
  have hown : s.vm.findClass "com/example/graph_job_runner/graphjobrunner/ClaimedNode" = some m.cls := findClass_of_methodNamed Bd.named
  have hnm := (name_of_methodNamed Bd.named Bd.method).1
  have X0 : Stand p l e ({ frames := 2, cells := 0, slots := 0, locals := 37 } : Room) s m #[(.ref a1), (.long q2), (.ref a3), (.long q4), (.ref a5), (.ref a6), (.ref a7), (.int p8), (.int p9), (.ref w_IGNORE)] below meth c s₁ [] 0 0 := Stand.of_body Bd
  have e0 : s₁.heap = h0 := by rw [← hh, Bd.state]; rfl
  have N0 := Fr.nil n0
  have hp' := hp
  obtain ⟨S_w_PENDING, E_w_PENDING, S_w_IGNORE, E_w_IGNORE, S_COMPACT_STRINGS, h_cs⟩ := hp'
  have pre0 : ∀ t, Steps p.tables e below (s₁.setTop (mkF m 0 #[.val (.ref a1), .val (.long q2), .second, .val (.ref a3), .val (.long q4), .second, .val (.ref a5), .val (.ref a6), .val (.ref a7), .val (.int p8), .val (.int p9), .val (.ref w_IGNORE)] [])) t → Steps p.tables e below (s₁.setTop (entryFrame m #[(.ref a1), (.long q2), (.ref a3), (.long q4), (.ref a5), (.ref a6), (.ref a7), (.int p8), (.int p9), (.ref w_IGNORE)] 12)) t := fun t k => castTop (ef_16_0 m a1 q2 a3 q4 a5 a6 a7 p8 p9 w_IGNORE) k
  obtain ⟨_, _, ⟨T1, L1, k1, n1⟩, -, X1, ⟨Lc1, hQ1, l1, y1, z1⟩, st1⟩ := X0.specialBack hx (y := y9) rfl hown (mvT hZ (hw _ (List.mem_of_getElem? (i := 53) rfl))) (mvT hZ (hw _ (List.mem_of_getElem? (i := 54) rfl))) (mvT hZ (hw _ (List.mem_of_getElem? (i := 55) rfl))) (by decide) (backOf (W := 0) (rm29 l Z a0 hw [] w_PENDING w_IGNORE cs_v hp a1 q2 a3 q4 a5 a6 a7 p8 p9 h0 n0 O0 E_a1 F_id_a1 F_runKey_a1 F_streamKey_a1 F_position_a1 F_nodeKey_a1 F_processor_a1 F_payload_a1 F_attempt_a1 F_retryLimit_a1 F_failStrategy_a1 F_hasChildren_a1 g_a1) hZ (hw _ (List.mem_of_getElem? (i := 55) rfl)) (hw _ (List.mem_of_getElem? (i := 49) rfl)) (by decide) (by decide)) (g := (mkF m 19 #[.val (.ref a1), .val (.long q2), .second, .val (.ref a3), .val (.long q4), .second, .val (.ref a5), .val (.ref a6), .val (.ref a7), .val (.int p8), .val (.int p9), .val (.ref w_IGNORE)] [(.int (0 : Int32)), (.ref w_IGNORE), (.int p9), (.int p8), (.ref a7), (.ref a6), (.ref a5), (.long q4), (.ref a3), .null, (.long q2), (.ref a1)])) rfl (by rw [hml]; rfl) (Steps.refl _) (a := a1) (argsL := [(.long q2), .null, (.ref a3), (.long q4), (.ref a5), (.ref a6), (.ref a7), (.int p8), (.int p9), (.ref w_IGNORE), (.int (0 : Int32))]) (rest := []) (lenOf pd_9 rfl) rfl (by show 2 * 0 + _ ≤ _; exact Nat.le_of_eq rfl) (hb hby d16_19) (fun _ _ => ⟨rfl, e0, (by decide : 0 + 0 ≤ _), (by decide : 0 + 0 ≤ _)⟩)
  dsimp only [Pt.U, Pt.locs, Pt.cells, Pt.slots] at X1 l1 y1 z1 st1 hQ1
  subst l1 y1 z1
  obtain ⟨rfl, Nq1, Kq1, fq1_0, fq1_1, fq1_2, fq1_3, fq1_4, fq1_5, fq1_6, fq1_7, fq1_8, fq1_9, fq1_10, fq1_11⟩ := hQ1
  have N1 := Fr.app N0 Nq1
  have O1 := O0.keep Kq1 (allS g_a1 all0)
  have K1 : Keep h0 T1.heap [a1] := (Keep.refl h0 [a1]).trans Kq1 (allS (Or.inl (List.mem_of_getElem? (i := 0) rfl)) all0)
  obtain ⟨fs, hr, hrun, hended, hW, hsame⟩ := X1.leave (v := none) (fun _ => rfl)
  refine ⟨_, _, pre0 _ ?_, hrun, hended, _, _, rfl, ?_, ⟨_, rfl⟩, hW, hsame.mono (by decide) (by decide)⟩
  · show Sp p e below s₁ (mkF m 0 #[.val (.ref a1), .val (.long q2), .second, .val (.ref a3), .val (.long q4), .second, .val (.ref a5), .val (.ref a6), .val (.ref a7), .val (.int p8), .val (.int p9), .val (.ref w_IGNORE)] []) _
    refine XS.aloadN X0.here hx rfl (hb hby d16_0) rfl rfl ?_
    refine XS.lloadN X0.here hx rfl (hb hby d16_1) rfl ?_
    refine XS.aconstNull X0.here hx rfl (hb hby d16_2) ?_
    refine XS.aloadN X0.here hx rfl (hb hby d16_3) rfl rfl ?_
    refine XS.lload X0.here hx rfl (hb hby d16_4) rfl ?_
    refine XS.aload X0.here hx rfl (hb hby d16_6) rfl rfl ?_
    refine XS.aload X0.here hx rfl (hb hby d16_8) rfl rfl ?_
    refine XS.aload X0.here hx rfl (hb hby d16_10) rfl rfl ?_
    refine XS.iload X0.here hx rfl (hb hby d16_12) rfl ?_
    refine XS.iload X0.here hx rfl (hb hby d16_14) rfl ?_
    refine XS.aload X0.here hx rfl (hb hby d16_16) rfl rfl ?_
    refine XS.iconst X0.here hx rfl (hb hby d16_18) ?_
    show Sp p e below s₁ (mkF m 19 #[.val (.ref a1), .val (.long q2), .second, .val (.ref a3), .val (.long q4), .second, .val (.ref a5), .val (.ref a6), .val (.ref a7), .val (.int p8), .val (.int p9), .val (.ref w_IGNORE)] [(.int (0 : Int32)), (.ref w_IGNORE), (.int p9), (.int p8), (.ref a7), (.ref a6), (.ref a5), (.long q4), (.ref a3), .null, (.long q2), (.ref a1)]) _
    refine st1.trans ?_
    show Sp p e below T1 (mkF m 22 #[.val (.ref a1), .val (.long q2), .second, .val (.ref a3), .val (.long q4), .second, .val (.ref a5), .val (.ref a6), .val (.ref a7), .val (.int p8), .val (.int p9), .val (.ref w_IGNORE)] []) _
    exact X1.returnOut hx Bd.returns (hb hby d16_22) hr
  · show Q30 Z w_PENDING w_IGNORE cs_v a1 q2 a3 q4 a5 a6 a7 p8 p9 h0 n0 _ T1.heap _
    exact ⟨rfl, N1, K1, fq1_0, fq1_1, fq1_2, fq1_3, fq1_4, fq1_5, fq1_6, fq1_7, fq1_8, fq1_9, fq1_10, fq1_11⟩
set_option maxRecDepth 65536 in
set_option maxHeartbeats 40000000 in
theorem rm31 (l : Launch) (Z : State) (a0 : Array Value) (hw : ∀ d ∈ tables_1, d.before a0 Z = true) (ws : List Jvm.Cond) (w_PENDING w_IGNORE : Addr) (cs_v : Int32) (hp : Perm Z w_PENDING w_IGNORE cs_v) (p0 : Int64) (p1 : Int64) (p2 : Int32) (p3 : Int32) (p4 : Int32) (p5 : Int32) (h0 : Heap) (n0 : Nat) (O0 : Old Z n0 h0) (hc1 : (p5 &&& (2 : Int32)) = (0 : Int32)) (hc2 : ¬ ((p5 &&& (1 : Int32)) = (0 : Int32))) (hc3 : (p5 &&& (4 : Int32)) = (0 : Int32)) :
    MetFree l x (head1 (Jvm.Cond.code x code maxLocals ret :: ws) room_1) (fun a U => a = #[(.long p0), (.long p1), (.int p2), (.int p3), (.int p4), (.int p5)] ∧ Z.Warmed39 U.vm ∧ U.heap = h0) (fun _ _ _ _ _ => True) (fun _ U o U' => ∃ v L, o = .returned v ∧ (v = some (.int (1 : Int32)) ∧ Fr n0 L) ∧ FrameEnd U o U' L 32 128) := by
  refine MetFree.of_bodySF (plainFor_of_name pn_0) hisR ?_
  intro p e s m args below meth c s₁ Bd hml0 hP hK
  obtain ⟨rfl, hZ, hh⟩ := hP
  have hx := Bd.exec
  have hby := Bd.bytes
  have hml : c.maxLocals = 17 := hml0
  have hown : s.vm.findClass "com/example/graph_job_runner/graphjobrunner/ClaimedNodeInStreamPinLaw" = some m.cls := findClass_of_methodNamed Bd.named
  have hnm := (name_of_methodNamed Bd.named Bd.method).1
  have X0 : Stand p l e room_1 s m #[(.long p0), (.long p1), (.int p2), (.int p3), (.int p4), (.int p5)] below meth c s₁ [] 0 0 := Stand.of_body Bd
  have e0 : s₁.heap = h0 := by rw [← hh, Bd.state]; rfl
  have N0 := Fr.nil n0
  have hp' := hp
  obtain ⟨S_w_PENDING, E_w_PENDING, S_w_IGNORE, E_w_IGNORE, S_COMPACT_STRINGS, h_cs⟩ := hp'
  have pre0 : ∀ t, Steps p.tables e below (s₁.setTop (mkF m 0 #[.val (.long p0), .second, .val (.long p1), .second, .val (.int p2), .val (.int p3), .val (.int p4), .val (.int p5), .unset, .unset, .unset, .unset, .unset, .unset, .unset, .unset, .unset] [])) t → Steps p.tables e below (s₁.setTop (entryFrame m #[(.long p0), (.long p1), (.int p2), (.int p3), (.int p4), (.int p5)] maxLocals)) t := fun t k => castTop (ef_0_0 m p0 p1 p2 p3 p4 p5) k
  obtain ⟨T1, h1, k1, X1, e1, E1, A1, EA1, st1⟩ := newPE X0 hx hZ (hw _ (List.mem_of_getElem? (i := 0) rfl)) e0 (g := (mkF m 1 #[.val (.long p0), .second, .val (.long p1), .second, .val (.int p2), .val (.int p3), .val (.int p4), .val (.int p5), .unset, .unset, .unset, .unset, .unset, .unset, .unset, .unset, .unset] [(.int (2 : Int32))])) rfl (hb hby at_1) rfl (by decide) (cap := 2) (by decide) (by decide) (by decide) (by decide) (ad := "[C") (by decide)
  obtain ⟨b1, g1⟩ : ∃ z, z = h0.size := ⟨_, rfl⟩
  rw [← g1] at A1 EA1 st1
  have g_b1 : n0 ≤ b1 := Nat.le_trans (own_sz O0) (Nat.le_of_eq g1.symm)
  have sz_b1 : h0.size ≤ b1 := Nat.le_trans (Keep.refl h0 []).1 (Nat.le_of_eq g1.symm)
  have O1 := O0.ext E1
  have K1 : Keep h0 h1 [] := (Keep.refl h0 []).ext E1
  have V_b1 : Arv Z h1 b1 k1 .char (2 : Int32) [(.int (0 : Int32)), (.int (0 : Int32))] (.int (0 : Int32)) := (Arv.new A1 (by decide)).pad (pad_rep [] (.int (0 : Int32)) 2)
  obtain ⟨cl2, Ar2, q2, S2, Nn2, H2, G2⟩ := id V_b1
  have hin2 : ¬ ((0 : Int32) < 0 ∨ cl2.slots.size ≤ ((0 : Int32)).toNatClampNeg) := inb_of S2 ⟨by decide, by decide⟩
  obtain ⟨T3, h3, X3, e3, W3, st3⟩ := stC X1 hx hZ e1 Ar2 (j := (0 : Int32)) hin2 (g := (mkF m 15 #[.val (.long p0), .second, .val (.long p1), .second, .val (.int p2), .val (.int p3), .val (.int p4), .val (.int p5), .val (.ref b1), .unset, .unset, .unset, .unset, .unset, .unset, .unset, .unset] [(.int ((p4 &&& (255 : Int32)).toUInt32.toUInt16.toUInt32.toInt32)), (.int (0 : Int32)), (.ref b1)])) rfl rfl (hb hby at_15)
  have N3 := Fr.snoc X3 N0 g_b1
  have O3 := O1.wr W3 g_b1
  have K3 : Keep h0 h3 [] := K1.wr W3 (Or.inr sz_b1)
  have V_b1_3 : Arv Z h3 b1 k1 .char (2 : Int32) [(.int (nar .char ((p4 &&& (255 : Int32)).toUInt32.toUInt16.toUInt32.toInt32))), (.int (0 : Int32))] (.int (0 : Int32)) := Arv.set Ar2 q2 S2 Nn2 H2 G2 (fits_nar_char _) W3 0 rfl (Nat.le_of_ble_eq_true rfl)
  obtain ⟨cl4, Ar4, q4, S4, Nn4, H4, G4⟩ := id V_b1_3
  have hin4 : ¬ ((1 : Int32) < 0 ∨ cl4.slots.size ≤ ((1 : Int32)).toNatClampNeg) := inb_of S4 ⟨by decide, by decide⟩
  obtain ⟨T5, h5, X5, e5, W5, st5⟩ := stC X3 hx hZ e3 Ar4 (j := (1 : Int32)) hin4 (g := (mkF m 29 #[.val (.long p0), .second, .val (.long p1), .second, .val (.int p2), .val (.int p3), .val (.int p4), .val (.int p5), .val (.ref b1), .unset, .unset, .unset, .unset, .unset, .unset, .unset, .unset] [(.int ((((p4.toUInt32 >>> ((8 : Int32) &&& 31).toUInt32).toInt32) &&& (255 : Int32)).toUInt32.toUInt16.toUInt32.toInt32)), (.int (1 : Int32)), (.ref b1)])) rfl rfl (hb hby at_29)
  have N5 := Fr.snoc X5 N3 g_b1
  have O5 := O3.wr W5 g_b1
  have K5 : Keep h0 h5 [] := K3.wr W5 (Or.inr sz_b1)
  have V_b1_5 : Arv Z h5 b1 k1 .char (2 : Int32) [(.int (nar .char ((p4 &&& (255 : Int32)).toUInt32.toUInt16.toUInt32.toInt32))), (.int (nar .char ((((p4.toUInt32 >>> ((8 : Int32) &&& 31).toUInt32).toInt32) &&& (255 : Int32)).toUInt32.toUInt16.toUInt32.toInt32)))] (.int (0 : Int32)) := Arv.set Ar4 q4 S4 Nn4 H4 G4 (fits_nar_char _) W5 1 rfl (Nat.le_of_ble_eq_true rfl)
  obtain ⟨T6, h6, X6, e6, E6, A6, D6, -, st6⟩ := newO X5 hx hZ hown (hw _ (List.mem_of_getElem? (i := 1) rfl)) (hw _ (List.mem_of_getElem? (i := 2) rfl)) (hw _ (List.mem_of_getElem? (i := 3) rfl)) e5 (g := (mkF m 30 #[.val (.long p0), .second, .val (.long p1), .second, .val (.int p2), .val (.int p3), .val (.int p4), .val (.int p5), .val (.ref b1), .unset, .unset, .unset, .unset, .unset, .unset, .unset, .unset] [])) rfl (hb hby at_30) (by decide) (by decide)
  obtain ⟨b6, g6⟩ : ∃ z, z = h5.size := ⟨_, rfl⟩
  rw [← g6] at A6 D6 st6
  have g_b6 : n0 ≤ b6 := Nat.le_trans (own_sz O5) (Nat.le_of_eq g6.symm)
  have sz_b6 : h0.size ≤ b6 := Nat.le_trans K5.1 (Nat.le_of_eq g6.symm)
  have O6 := O5.ext E6
  have K6 : Keep h0 h6 [] := K5.ext E6
  have F_coder_b6 : Fld Z h6 b6 "java/lang/String" "coder" "B" (.int (0 : Int32)) := D6 (Or.inr (hw _ (List.mem_of_getElem? (i := 27) rfl))) (ty := .byte) (by decide)
  have F_value_b6 : Fld Z h6 b6 "java/lang/String" "value" "[B" .null := D6 (Or.inr (hw _ (List.mem_of_getElem? (i := 29) rfl))) (ty := (.array .byte)) (by decide)
  obtain ⟨_, _, ⟨T7, L7, k7, n7⟩, -, X7, ⟨Lc7, hQ7, l7, y7, z7⟩, st7⟩ := X6.specialBack hx (y := y4) rfl hown (mvT hZ (hw _ (List.mem_of_getElem? (i := 4) rfl))) (mvT hZ (hw _ (List.mem_of_getElem? (i := 5) rfl))) (mvT hZ (hw _ (List.mem_of_getElem? (i := 6) rfl))) (by decide) (backOf (W := 1) (rm5 l Z a0 hw [] w_PENDING w_IGNORE cs_v hp b6 b1 k1 (nar .char ((p4 &&& (255 : Int32)).toUInt32.toUInt16.toUInt32.toInt32)) (nar .char ((((p4.toUInt32 >>> ((8 : Int32) &&& 31).toUInt32).toInt32) &&& (255 : Int32)).toUInt32.toUInt16.toUInt32.toInt32)) h6 n0 O6 (V_b1_5.ext E6) (own_ch2 p4) (own_ch2 ((p4.toUInt32 >>> ((8 : Int32) &&& 31).toUInt32).toInt32)) (((EA1.wr W3).wr W5).ext E6) A6 F_coder_b6 F_value_b6 g_b6) hZ (hw _ (List.mem_of_getElem? (i := 6) rfl)) (hw _ (List.mem_of_getElem? (i := 3) rfl)) (by decide) (by decide)) (g := (mkF m 36 #[.val (.long p0), .second, .val (.long p1), .second, .val (.int p2), .val (.int p3), .val (.int p4), .val (.int p5), .val (.ref b1), .unset, .unset, .unset, .unset, .unset, .unset, .unset, .unset] [(.ref b1), (.ref b6), (.ref b6)])) rfl (by rw [hml]; rfl) (Steps.refl _) (a := b6) (argsL := [(.ref b1)]) (rest := [(.ref b6)]) (lenOf pd_4 rfl) rfl (by show 2 * 0 + _ ≤ _; exact Nat.le_of_eq rfl) (hb hby at_36) (fun _ _ => ⟨rfl, e6, (by decide : 2 + 1 ≤ _), (by decide : 6 + 2 ≤ _)⟩)
  dsimp only [Pt.U, Pt.locs, Pt.cells, Pt.slots] at X7 l7 y7 z7 st7 hQ7
  subst l7 y7 z7
  obtain ⟨b7_0, kc7_0, rfl, Nq7, Kq7, sq_b7_0, fq7_0, fq7_1, fq7_2, fq7_3, fq7_4⟩ := hQ7
  have N7 := Fr.app N5 Nq7
  have g_b7_0 : n0 ≤ b7_0 := Nat.le_trans (own_sz O6) sq_b7_0
  have sz_b7_0 : h0.size ≤ b7_0 := Nat.le_trans K6.1 sq_b7_0
  have O7 := O6.keep Kq7 (allS g_b6 all0)
  have K7 : Keep h0 T7.heap [] := K6.trans Kq7 (allS (Or.inr sz_b6) all0)
  obtain ⟨_, _, ⟨T8, L8, k8, n8⟩, -, X8, ⟨Lc8, hQ8, l8, y8, z8⟩, st8⟩ := Jvm.LawKit.callS X7 hx (y := y8) hown (mvT hZ (hw _ (List.mem_of_getElem? (i := 30) rfl))) (mvT hZ (hw _ (List.mem_of_getElem? (i := 31) rfl))) (mvT hZ (hw _ (List.mem_of_getElem? (i := 3) rfl))) (mvT hZ (hw _ (List.mem_of_getElem? (i := 32) rfl))) (by decide) (backOf (W := 0) (rm9 l Z a0 hw [] w_PENDING w_IGNORE cs_v hp ((((p4.toUInt32 >>> ((16 : Int32) &&& 31).toUInt32).toInt32) &&& (255 : Int32)).toUInt32.toUInt16.toUInt32.toInt32) T7.heap n0 O7 (own_ch1 ((p4.toUInt32 >>> ((16 : Int32) &&& 31).toUInt32).toInt32))) hZ (hw _ (List.mem_of_getElem? (i := 32) rfl)) (hw _ (List.mem_of_getElem? (i := 3) rfl)) (by decide) (by decide)) (g := (mkF m 51 #[.val (.long p0), .second, .val (.long p1), .second, .val (.int p2), .val (.int p3), .val (.int p4), .val (.int p5), .val (.ref b1), .val (.ref b6), .unset, .unset, .unset, .unset, .unset, .unset, .unset] [(.int ((((p4.toUInt32 >>> ((16 : Int32) &&& 31).toUInt32).toInt32) &&& (255 : Int32)).toUInt32.toUInt16.toUInt32.toInt32))])) rfl (by rw [hml]; rfl) (argsL := [(.int ((((p4.toUInt32 >>> ((16 : Int32) &&& 31).toUInt32).toInt32) &&& (255 : Int32)).toUInt32.toUInt16.toUInt32.toInt32))]) (rest := []) (lenOf pd_8 rfl) rfl (by show 2 * 0 + _ ≤ _; exact Nat.le_of_eq rfl) (hb hby at_51) (fun _ _ => ⟨rfl, rfl, (by decide : 3 + 2 ≤ _), (by decide : 8 + 5 ≤ _)⟩)
  dsimp only [Pt.U, Pt.locs, Pt.cells, Pt.slots] at X8 l8 y8 z8 st8 hQ8
  subst l8 y8 z8
  obtain ⟨b8_0, b8_1, kc8_0, rfl, Nq8, Kq8, sq_b8_0, sq_b8_1, nq8_0, fq8_0, fq8_1, fq8_2, fq8_3, fq8_4⟩ := hQ8
  have N8 := Fr.app N7 Nq8
  have g_b8_0 : n0 ≤ b8_0 := Nat.le_trans (own_sz O7) sq_b8_0
  have sz_b8_0 : h0.size ≤ b8_0 := Nat.le_trans K7.1 sq_b8_0
  have g_b8_1 : n0 ≤ b8_1 := Nat.le_trans (own_sz O7) sq_b8_1
  have sz_b8_1 : h0.size ≤ b8_1 := Nat.le_trans K7.1 sq_b8_1
  have O8 := O7.keep Kq8 all0
  have K8 : Keep h0 T8.heap [] := K7.trans Kq8 all0
  obtain ⟨_, _, ⟨T9, L9, k9, n9⟩, -, X9, ⟨Lc9, hQ9, l9, y9, z9⟩, st9⟩ := Jvm.LawKit.callS X8 hx (y := y8) hown (mvT hZ (hw _ (List.mem_of_getElem? (i := 30) rfl))) (mvT hZ (hw _ (List.mem_of_getElem? (i := 31) rfl))) (mvT hZ (hw _ (List.mem_of_getElem? (i := 3) rfl))) (mvT hZ (hw _ (List.mem_of_getElem? (i := 32) rfl))) (by decide) (backOf (W := 0) (rm9 l Z a0 hw [] w_PENDING w_IGNORE cs_v hp ((((p4.toUInt32 >>> ((24 : Int32) &&& 31).toUInt32).toInt32) &&& (255 : Int32)).toUInt32.toUInt16.toUInt32.toInt32) T8.heap n0 O8 (own_ch1 ((p4.toUInt32 >>> ((24 : Int32) &&& 31).toUInt32).toInt32))) hZ (hw _ (List.mem_of_getElem? (i := 32) rfl)) (hw _ (List.mem_of_getElem? (i := 3) rfl)) (by decide) (by decide)) (g := (mkF m 66 #[.val (.long p0), .second, .val (.long p1), .second, .val (.int p2), .val (.int p3), .val (.int p4), .val (.int p5), .val (.ref b1), .val (.ref b6), .val (.ref b8_0), .unset, .unset, .unset, .unset, .unset, .unset] [(.int ((((p4.toUInt32 >>> ((24 : Int32) &&& 31).toUInt32).toInt32) &&& (255 : Int32)).toUInt32.toUInt16.toUInt32.toInt32))])) rfl (by rw [hml]; rfl) (argsL := [(.int ((((p4.toUInt32 >>> ((24 : Int32) &&& 31).toUInt32).toInt32) &&& (255 : Int32)).toUInt32.toUInt16.toUInt32.toInt32))]) (rest := []) (lenOf pd_8 rfl) rfl (by show 2 * 0 + _ ≤ _; exact Nat.le_of_eq rfl) (hb hby at_66) (fun _ _ => ⟨rfl, rfl, (by decide : 5 + 2 ≤ _), (by decide : 13 + 5 ≤ _)⟩)
  dsimp only [Pt.U, Pt.locs, Pt.cells, Pt.slots] at X9 l9 y9 z9 st9 hQ9
  subst l9 y9 z9
  obtain ⟨b9_0, b9_1, kc9_0, rfl, Nq9, Kq9, sq_b9_0, sq_b9_1, nq9_0, fq9_0, fq9_1, fq9_2, fq9_3, fq9_4⟩ := hQ9
  have N9 := Fr.app N8 Nq9
  have g_b9_0 : n0 ≤ b9_0 := Nat.le_trans (own_sz O8) sq_b9_0
  have sz_b9_0 : h0.size ≤ b9_0 := Nat.le_trans K8.1 sq_b9_0
  have g_b9_1 : n0 ≤ b9_1 := Nat.le_trans (own_sz O8) sq_b9_1
  have sz_b9_1 : h0.size ≤ b9_1 := Nat.le_trans K8.1 sq_b9_1
  have O9 := O8.keep Kq9 all0
  have K9 : Keep h0 T9.heap [] := K8.trans Kq9 all0
  obtain ⟨T10, X10, e10, st10⟩ := getS2 X9 hx hZ hown (host := "") (Or.inl (hw _ (List.mem_of_getElem? (i := 94) rfl))) Via.refl rfl (S_w_IGNORE.ext O9.2) (g := (mkF m 84 #[.val (.long p0), .second, .val (.long p1), .second, .val (.int p2), .val (.int p3), .val (.int p4), .val (.int p5), .val (.ref b1), .val (.ref b6), .val (.ref b8_0), .val (.ref b9_0), .unset, .unset, .unset, .unset, .unset] [])) rfl (hb hby at_84)
  obtain ⟨T11, h11, k11, X11, e11, E11, A11, EA11, st11⟩ := newPE X10 hx hZ (hw _ (List.mem_of_getElem? (i := 19) rfl)) e10 (g := (mkF m 90 #[.val (.long p0), .second, .val (.long p1), .second, .val (.int p2), .val (.int p3), .val (.int p4), .val (.int p5), .val (.ref b1), .val (.ref b6), .val (.ref b8_0), .val (.ref b9_0), .val (.ref w_IGNORE), .unset, .unset, .unset, .unset] [(.int (1 : Int32))])) rfl (hb hby at_90) rfl (by decide) (cap := 1) (by decide) (by decide) (by decide) (by decide) (ad := "[B") (by decide)
  obtain ⟨b11, g11⟩ : ∃ z, z = T9.heap.size := ⟨_, rfl⟩
  rw [← g11] at A11 EA11 st11
  have g_b11 : n0 ≤ b11 := Nat.le_trans (own_sz O9) (Nat.le_of_eq g11.symm)
  have sz_b11 : h0.size ≤ b11 := Nat.le_trans K9.1 (Nat.le_of_eq g11.symm)
  have O11 := O9.ext E11
  have K11 : Keep h0 h11 [] := K9.ext E11
  have V_b11 : Arv Z h11 b11 k11 .byte (1 : Int32) [(.int (0 : Int32))] (.int (0 : Int32)) := (Arv.new A11 (by decide)).pad (pad_rep [] (.int (0 : Int32)) 1)
  obtain ⟨cl12, Ar12, q12, S12, Nn12, H12, G12⟩ := id V_b11
  have hin12 : ¬ ((0 : Int32) < 0 ∨ cl12.slots.size ≤ ((0 : Int32)).toNatClampNeg) := inb_of S12 ⟨by decide, by decide⟩
  obtain ⟨T13, h13, X13, e13, W13, st13⟩ := stB X11 hx hZ e11 Ar12 (j := (0 : Int32)) hin12 (g := (mkF m 103 #[.val (.long p0), .second, .val (.long p1), .second, .val (.int p2), .val (.int p3), .val (.int p4), .val (.int p5), .val (.ref b1), .val (.ref b6), .val (.ref b8_0), .val (.ref b9_0), .val (.ref w_IGNORE), .val (.ref b11), .unset, .unset, .unset] [(.int (((p5.toUInt32 >>> ((8 : Int32) &&& 31).toUInt32).toInt32).toInt8.toInt32)), (.int (0 : Int32)), (.ref b11)])) rfl rfl (hb hby at_103)
  have N13 := Fr.snoc X13 N9 g_b11
  have O13 := O11.wr W13 g_b11
  have K13 : Keep h0 h13 [] := K11.wr W13 (Or.inr sz_b11)
  have V_b11_13 : Arv Z h13 b11 k11 .byte (1 : Int32) [(.int (nar .byte (((p5.toUInt32 >>> ((8 : Int32) &&& 31).toUInt32).toInt32).toInt8.toInt32)))] (.int (0 : Int32)) := Arv.set Ar12 q12 S12 Nn12 H12 G12 (fits_nar_byte _) W13 0 rfl (Nat.le_of_ble_eq_true rfl)
  obtain ⟨T14, h14, X14, e14, E14, A14, D14, -, st14⟩ := newO X13 hx hZ hown (hw _ (List.mem_of_getElem? (i := 47) rfl)) (hw _ (List.mem_of_getElem? (i := 48) rfl)) (hw _ (List.mem_of_getElem? (i := 49) rfl)) e13 (g := (mkF m 137 #[.val (.long p0), .second, .val (.long p1), .second, .val (.int p2), .val (.int p3), .val (.int p4), .val (.int p5), .val (.ref b1), .val (.ref b6), .val (.ref b8_0), .val (.ref b9_0), .val (.ref w_IGNORE), .val (.ref b11), .val (.int (1 : Int32)), .val (.int (0 : Int32)), .unset] [])) rfl (hb hby at_137) (by decide) (by decide)
  obtain ⟨b14, g14⟩ : ∃ z, z = h13.size := ⟨_, rfl⟩
  rw [← g14] at A14 D14 st14
  have g_b14 : n0 ≤ b14 := Nat.le_trans (own_sz O13) (Nat.le_of_eq g14.symm)
  have sz_b14 : h0.size ≤ b14 := Nat.le_trans K13.1 (Nat.le_of_eq g14.symm)
  have O14 := O13.ext E14
  have K14 : Keep h0 h14 [] := K13.ext E14
  have F_id_b14 : Fld Z h14 b14 "com/example/graph_job_runner/graphjobrunner/ClaimedNode" "id" "J" (.long (0 : Int64)) := D14 (Or.inr (hw _ (List.mem_of_getElem? (i := 58) rfl))) (ty := .long) (by decide)
  have F_runKey_b14 : Fld Z h14 b14 "com/example/graph_job_runner/graphjobrunner/ClaimedNode" "runKey" "Ljava/lang/String;" .null := D14 (Or.inr (hw _ (List.mem_of_getElem? (i := 60) rfl))) (ty := (.object "java/lang/String")) (by decide)
  have F_streamKey_b14 : Fld Z h14 b14 "com/example/graph_job_runner/graphjobrunner/ClaimedNode" "streamKey" "Ljava/lang/String;" .null := D14 (Or.inr (hw _ (List.mem_of_getElem? (i := 62) rfl))) (ty := (.object "java/lang/String")) (by decide)
  have F_position_b14 : Fld Z h14 b14 "com/example/graph_job_runner/graphjobrunner/ClaimedNode" "position" "J" (.long (0 : Int64)) := D14 (Or.inr (hw _ (List.mem_of_getElem? (i := 64) rfl))) (ty := .long) (by decide)
  have F_nodeKey_b14 : Fld Z h14 b14 "com/example/graph_job_runner/graphjobrunner/ClaimedNode" "nodeKey" "Ljava/lang/String;" .null := D14 (Or.inr (hw _ (List.mem_of_getElem? (i := 66) rfl))) (ty := (.object "java/lang/String")) (by decide)
  have F_processor_b14 : Fld Z h14 b14 "com/example/graph_job_runner/graphjobrunner/ClaimedNode" "processor" "Ljava/lang/String;" .null := D14 (Or.inr (hw _ (List.mem_of_getElem? (i := 68) rfl))) (ty := (.object "java/lang/String")) (by decide)
  have F_payload_b14 : Fld Z h14 b14 "com/example/graph_job_runner/graphjobrunner/ClaimedNode" "payload" "[B" .null := D14 (Or.inr (hw _ (List.mem_of_getElem? (i := 70) rfl))) (ty := (.array .byte)) (by decide)
  have F_attempt_b14 : Fld Z h14 b14 "com/example/graph_job_runner/graphjobrunner/ClaimedNode" "attempt" "I" (.int (0 : Int32)) := D14 (Or.inr (hw _ (List.mem_of_getElem? (i := 72) rfl))) (ty := .int) (by decide)
  have F_retryLimit_b14 : Fld Z h14 b14 "com/example/graph_job_runner/graphjobrunner/ClaimedNode" "retryLimit" "I" (.int (0 : Int32)) := D14 (Or.inr (hw _ (List.mem_of_getElem? (i := 74) rfl))) (ty := .int) (by decide)
  have F_failStrategy_b14 : Fld Z h14 b14 "com/example/graph_job_runner/graphjobrunner/ClaimedNode" "failStrategy" "Lcom/example/graph_job_runner/graphjobrunner/FailStrategy;" .null := D14 (Or.inr (hw _ (List.mem_of_getElem? (i := 76) rfl))) (ty := (.object "com/example/graph_job_runner/graphjobrunner/FailStrategy")) (by decide)
  have F_hasChildren_b14 : Fld Z h14 b14 "com/example/graph_job_runner/graphjobrunner/ClaimedNode" "hasChildren" "Z" (.int (0 : Int32)) := D14 (Or.inr (hw _ (List.mem_of_getElem? (i := 78) rfl))) (ty := .boolean) (by decide)
  obtain ⟨_, _, ⟨T15, L15, k15, n15⟩, -, X15, ⟨Lc15, hQ15, l15, y15, z15⟩, st15⟩ := X14.specialBack hx (y := y14) rfl hown (mvT hZ (hw _ (List.mem_of_getElem? (i := 96) rfl))) (mvT hZ (hw _ (List.mem_of_getElem? (i := 97) rfl))) (mvT hZ (hw _ (List.mem_of_getElem? (i := 98) rfl))) (by decide) (backOf (W := 1) (rm30 l Z a0 hw [] w_PENDING w_IGNORE cs_v hp b14 p0 b6 p1 b8_0 b9_0 b11 p2 p3 h14 n0 O14 A14 F_id_b14 F_runKey_b14 F_streamKey_b14 F_position_b14 F_nodeKey_b14 F_processor_b14 F_payload_b14 F_attempt_b14 F_retryLimit_b14 F_failStrategy_b14 F_hasChildren_b14 g_b14) hZ (hw _ (List.mem_of_getElem? (i := 98) rfl)) (hw _ (List.mem_of_getElem? (i := 49) rfl)) (by decide) (by decide)) (g := (mkF m 157 #[.val (.long p0), .second, .val (.long p1), .second, .val (.int p2), .val (.int p3), .val (.int p4), .val (.int p5), .val (.ref b1), .val (.ref b6), .val (.ref b8_0), .val (.ref b9_0), .val (.ref w_IGNORE), .val (.ref b11), .val (.int (1 : Int32)), .val (.int (0 : Int32)), .unset] [(.ref w_IGNORE), (.int p3), (.int p2), (.ref b11), (.ref b9_0), (.ref b8_0), (.long p1), (.ref b6), (.long p0), (.ref b14), (.ref b14)])) rfl (by rw [hml]; rfl) (Steps.refl _) (a := b14) (argsL := [(.long p0), (.ref b6), (.long p1), (.ref b8_0), (.ref b9_0), (.ref b11), (.int p2), (.int p3), (.ref w_IGNORE)]) (rest := [(.ref b14)]) (lenOf pd_13 rfl) rfl (by show 2 * 0 + _ ≤ _; exact Nat.le_of_eq rfl) (hb hby at_157) (fun _ _ => ⟨rfl, e14, (by decide : 9 + 0 ≤ _), (by decide : 30 + 0 ≤ _)⟩)
  dsimp only [Pt.U, Pt.locs, Pt.cells, Pt.slots] at X15 l15 y15 z15 st15 hQ15
  subst l15 y15 z15
  obtain ⟨rfl, Nq15, Kq15, fq15_0, fq15_1, fq15_2, fq15_3, fq15_4, fq15_5, fq15_6, fq15_7, fq15_8, fq15_9, fq15_10, fq15_11⟩ := hQ15
  have N15 := Fr.app N13 Nq15
  have O15 := O14.keep Kq15 (allS g_b14 all0)
  have K15 : Keep h0 T15.heap [] := K14.trans Kq15 (allS (Or.inr sz_b14) all0)
  obtain ⟨cq16, kq16, q16a, q16b, q16c⟩ := isOf hZ rfl fq15_0
  obtain ⟨_, _, ⟨T16, L16, k16, n16⟩, -, X16, ⟨Lc16, hQ16, l16, y16, z16⟩, st16⟩ := X15.virtualBack hx (y := y11) (z := y11) hown (mvT hZ (hw _ (List.mem_of_getElem? (i := 79) rfl))) (mvT hZ (hw _ (List.mem_of_getElem? (i := 80) rfl))) (notFace_of_selects (args := #[]) (mvT hZ (hw _ (List.mem_of_getElem? (i := 82) rfl)))) (mvT hZ (hw _ (List.mem_of_getElem? (i := 82) rfl))) (mvT hZ (hw _ (List.mem_of_getElem? (i := 81) rfl))) (by decide) (backOf (W := 0) (rm21 l Z a0 hw [] w_PENDING w_IGNORE cs_v hp b14 b6 T15.heap n0 O15 fq15_11) hZ (hw _ (List.mem_of_getElem? (i := 83) rfl)) (hw _ (List.mem_of_getElem? (i := 49) rfl)) (by decide) (by decide)) q16a q16c (g := (mkF m 164 #[.val (.long p0), .second, .val (.long p1), .second, .val (.int p2), .val (.int p3), .val (.int p4), .val (.int p5), .val (.ref b1), .val (.ref b6), .val (.ref b8_0), .val (.ref b9_0), .val (.ref w_IGNORE), .val (.ref b11), .val (.int (1 : Int32)), .val (.int (0 : Int32)), .val (.ref b14)] [(.ref b14)])) rfl (by rw [hml]; rfl) (Steps.refl _) (argsL := []) (rest := []) (lenOf pd_11 rfl) rfl (by show 2 * 0 + _ ≤ _; exact Nat.le_of_eq rfl) (hb hby at_164) (fun _ _ => ⟨rfl, rfl, (by decide : 9 + 0 ≤ _), (by decide : 30 + 0 ≤ _)⟩)
  dsimp only [Pt.U, Pt.locs, Pt.cells, Pt.slots] at X16 l16 y16 z16 st16 hQ16
  subst l16 y16 z16
  obtain ⟨rfl, Nq16, eq16⟩ := hQ16
  have N16 := Fr.app N15 Nq16
  obtain ⟨cq17, kq17, q17a, q17b, q17c⟩ := isOf hZ eq16 fq15_0
  obtain ⟨_, _, ⟨T17, L17, k17, n17⟩, -, X17, ⟨Lc17, hQ17, l17, y17, z17⟩, st17⟩ := X16.virtualBack hx (y := y13) (z := y13) hown (mvT hZ (hw _ (List.mem_of_getElem? (i := 89) rfl))) (mvT hZ (hw _ (List.mem_of_getElem? (i := 90) rfl))) (notFace_of_selects (args := #[]) (mvT hZ (hw _ (List.mem_of_getElem? (i := 92) rfl)))) (mvT hZ (hw _ (List.mem_of_getElem? (i := 92) rfl))) (mvT hZ (hw _ (List.mem_of_getElem? (i := 91) rfl))) (by decide) (backOf (W := 0) (rm22 l Z a0 hw [] w_PENDING w_IGNORE cs_v hp b14 b6 T15.heap n0 O15 fq15_11) hZ (hw _ (List.mem_of_getElem? (i := 93) rfl)) (hw _ (List.mem_of_getElem? (i := 49) rfl)) (by decide) (by decide)) q17a q17c (g := (mkF m 172 #[.val (.long p0), .second, .val (.long p1), .second, .val (.int p2), .val (.int p3), .val (.int p4), .val (.int p5), .val (.ref b1), .val (.ref b6), .val (.ref b8_0), .val (.ref b9_0), .val (.ref w_IGNORE), .val (.ref b11), .val (.int (1 : Int32)), .val (.int (0 : Int32)), .val (.ref b14)] [(.ref b14)])) rfl (by rw [hml]; rfl) (Steps.refl _) (argsL := []) (rest := []) (lenOf pd_12 rfl) rfl (by show 2 * 0 + _ ≤ _; exact Nat.le_of_eq rfl) (hb hby at_172) (fun _ _ => ⟨rfl, eq16, (by decide : 9 + 0 ≤ _), (by decide : 30 + 0 ≤ _)⟩)
  dsimp only [Pt.U, Pt.locs, Pt.cells, Pt.slots] at X17 l17 y17 z17 st17 hQ17
  subst l17 y17 z17
  obtain ⟨rfl, Nq17, eq17⟩ := hQ17
  have N17 := Fr.app N16 Nq17
  obtain ⟨cq18, kq18, q18a, q18b, q18c⟩ := isOf hZ eq17 fq15_0
  obtain ⟨_, _, ⟨T18, L18, k18, n18⟩, -, X18, ⟨Lc18, hQ18, l18, y18, z18⟩, st18⟩ := X17.virtualBack hx (y := y12) (z := y12) hown (mvT hZ (hw _ (List.mem_of_getElem? (i := 84) rfl))) (mvT hZ (hw _ (List.mem_of_getElem? (i := 85) rfl))) (notFace_of_selects (args := #[]) (mvT hZ (hw _ (List.mem_of_getElem? (i := 87) rfl)))) (mvT hZ (hw _ (List.mem_of_getElem? (i := 87) rfl))) (mvT hZ (hw _ (List.mem_of_getElem? (i := 86) rfl))) (by decide) (backOf (W := 0) (rm23 l Z a0 hw [] w_PENDING w_IGNORE cs_v hp b14 T15.heap n0 O15 fq15_10) hZ (hw _ (List.mem_of_getElem? (i := 88) rfl)) (hw _ (List.mem_of_getElem? (i := 49) rfl)) (by decide) (by decide)) q18a q18c (g := (mkF m 182 #[.val (.long p0), .second, .val (.long p1), .second, .val (.int p2), .val (.int p3), .val (.int p4), .val (.int p5), .val (.ref b1), .val (.ref b6), .val (.ref b8_0), .val (.ref b9_0), .val (.ref w_IGNORE), .val (.ref b11), .val (.int (1 : Int32)), .val (.int (0 : Int32)), .val (.ref b14)] [(.ref b14)])) rfl (by rw [hml]; rfl) (Steps.refl _) (argsL := []) (rest := []) (lenOf pd_12 rfl) rfl (by show 2 * 0 + _ ≤ _; exact Nat.le_of_eq rfl) (hb hby at_182) (fun _ _ => ⟨rfl, eq17, (by decide : 9 + 0 ≤ _), (by decide : 30 + 0 ≤ _)⟩)
  dsimp only [Pt.U, Pt.locs, Pt.cells, Pt.slots] at X18 l18 y18 z18 st18 hQ18
  subst l18 y18 z18
  obtain ⟨rfl, Nq18, eq18⟩ := hQ18
  have N18 := Fr.app N17 Nq18
  obtain ⟨fs, hr, hrun, hended, hW, hsame⟩ := X18.leave (v := some (.int (1 : Int32))) (fun h => by rw [Bd.returns] at h; cases h)
  refine ⟨_, _, pre0 _ ?_, hrun, hended, _, _, rfl, ?_, ⟨_, rfl⟩, hW, hsame.mono (by decide) (by decide)⟩
  · show Sp p e below s₁ (mkF m 0 #[.val (.long p0), .second, .val (.long p1), .second, .val (.int p2), .val (.int p3), .val (.int p4), .val (.int p5), .unset, .unset, .unset, .unset, .unset, .unset, .unset, .unset, .unset] []) _
    refine XS.iconst X0.here hx rfl (hb hby at_0) ?_
    show Sp p e below s₁ (mkF m 1 #[.val (.long p0), .second, .val (.long p1), .second, .val (.int p2), .val (.int p3), .val (.int p4), .val (.int p5), .unset, .unset, .unset, .unset, .unset, .unset, .unset, .unset, .unset] [(.int (2 : Int32))]) _
    refine st1 _ ?_
    show Sp p e below T1 (mkF m 3 #[.val (.long p0), .second, .val (.long p1), .second, .val (.int p2), .val (.int p3), .val (.int p4), .val (.int p5), .unset, .unset, .unset, .unset, .unset, .unset, .unset, .unset, .unset] [(.ref b1)]) _
    refine XS.astore X1.here hx rfl (hb hby at_3) rfl rfl (l' := #[.val (.long p0), .second, .val (.long p1), .second, .val (.int p2), .val (.int p3), .val (.int p4), .val (.int p5), .val (.ref b1), .unset, .unset, .unset, .unset, .unset, .unset, .unset, .unset]) rfl ?_
    refine XS.aload X1.here hx rfl (hb hby at_5) rfl rfl ?_
    refine XS.iconst X1.here hx rfl (hb hby at_7) ?_
    refine XS.iload X1.here hx rfl (hb hby at_8) rfl ?_
    refine XS.sipush X1.here hx rfl (hb hby at_10) ?_
    show Sp p e below T1 (mkF m 13 #[.val (.long p0), .second, .val (.long p1), .second, .val (.int p2), .val (.int p3), .val (.int p4), .val (.int p5), .val (.ref b1), .unset, .unset, .unset, .unset, .unset, .unset, .unset, .unset] [(.int (255 : Int32)), (.int p4), (.int (0 : Int32)), (.ref b1)]) _
    refine XS.iand X1.here hx rfl (hb hby at_13) rfl ?_
    show Sp p e below T1 (mkF m 14 #[.val (.long p0), .second, .val (.long p1), .second, .val (.int p2), .val (.int p3), .val (.int p4), .val (.int p5), .val (.ref b1), .unset, .unset, .unset, .unset, .unset, .unset, .unset, .unset] [(.int (p4 &&& (255 : Int32))), (.int (0 : Int32)), (.ref b1)]) _
    refine XS.i2c X1.here hx rfl (hb hby at_14) rfl ?_
    show Sp p e below T1 (mkF m 15 #[.val (.long p0), .second, .val (.long p1), .second, .val (.int p2), .val (.int p3), .val (.int p4), .val (.int p5), .val (.ref b1), .unset, .unset, .unset, .unset, .unset, .unset, .unset, .unset] [(.int ((p4 &&& (255 : Int32)).toUInt32.toUInt16.toUInt32.toInt32)), (.int (0 : Int32)), (.ref b1)]) _
    refine st3 _ ?_
    show Sp p e below T3 (mkF m 16 #[.val (.long p0), .second, .val (.long p1), .second, .val (.int p2), .val (.int p3), .val (.int p4), .val (.int p5), .val (.ref b1), .unset, .unset, .unset, .unset, .unset, .unset, .unset, .unset] []) _
    refine XS.aload X3.here hx rfl (hb hby at_16) rfl rfl ?_
    refine XS.iconst X3.here hx rfl (hb hby at_18) ?_
    refine XS.iload X3.here hx rfl (hb hby at_19) rfl ?_
    refine XS.bipush X3.here hx rfl (hb hby at_21) ?_
    show Sp p e below T3 (mkF m 23 #[.val (.long p0), .second, .val (.long p1), .second, .val (.int p2), .val (.int p3), .val (.int p4), .val (.int p5), .val (.ref b1), .unset, .unset, .unset, .unset, .unset, .unset, .unset, .unset] [(.int (8 : Int32)), (.int p4), (.int (1 : Int32)), (.ref b1)]) _
    refine XS.iushr X3.here hx rfl (hb hby at_23) rfl ?_
    refine XS.sipush X3.here hx rfl (hb hby at_24) ?_
    show Sp p e below T3 (mkF m 27 #[.val (.long p0), .second, .val (.long p1), .second, .val (.int p2), .val (.int p3), .val (.int p4), .val (.int p5), .val (.ref b1), .unset, .unset, .unset, .unset, .unset, .unset, .unset, .unset] [(.int (255 : Int32)), (.int ((p4.toUInt32 >>> ((8 : Int32) &&& 31).toUInt32).toInt32)), (.int (1 : Int32)), (.ref b1)]) _
    refine XS.iand X3.here hx rfl (hb hby at_27) rfl ?_
    show Sp p e below T3 (mkF m 28 #[.val (.long p0), .second, .val (.long p1), .second, .val (.int p2), .val (.int p3), .val (.int p4), .val (.int p5), .val (.ref b1), .unset, .unset, .unset, .unset, .unset, .unset, .unset, .unset] [(.int (((p4.toUInt32 >>> ((8 : Int32) &&& 31).toUInt32).toInt32) &&& (255 : Int32))), (.int (1 : Int32)), (.ref b1)]) _
    refine XS.i2c X3.here hx rfl (hb hby at_28) rfl ?_
    show Sp p e below T3 (mkF m 29 #[.val (.long p0), .second, .val (.long p1), .second, .val (.int p2), .val (.int p3), .val (.int p4), .val (.int p5), .val (.ref b1), .unset, .unset, .unset, .unset, .unset, .unset, .unset, .unset] [(.int ((((p4.toUInt32 >>> ((8 : Int32) &&& 31).toUInt32).toInt32) &&& (255 : Int32)).toUInt32.toUInt16.toUInt32.toInt32)), (.int (1 : Int32)), (.ref b1)]) _
    refine st5 _ ?_
    show Sp p e below T5 (mkF m 30 #[.val (.long p0), .second, .val (.long p1), .second, .val (.int p2), .val (.int p3), .val (.int p4), .val (.int p5), .val (.ref b1), .unset, .unset, .unset, .unset, .unset, .unset, .unset, .unset] []) _
    refine st6 _ ?_
    show Sp p e below T6 (mkF m 33 #[.val (.long p0), .second, .val (.long p1), .second, .val (.int p2), .val (.int p3), .val (.int p4), .val (.int p5), .val (.ref b1), .unset, .unset, .unset, .unset, .unset, .unset, .unset, .unset] [(.ref b6)]) _
    refine XS.dup X6.here hx rfl (hb hby at_33) rfl rfl ?_
    refine XS.aload X6.here hx rfl (hb hby at_34) rfl rfl ?_
    show Sp p e below T6 (mkF m 36 #[.val (.long p0), .second, .val (.long p1), .second, .val (.int p2), .val (.int p3), .val (.int p4), .val (.int p5), .val (.ref b1), .unset, .unset, .unset, .unset, .unset, .unset, .unset, .unset] [(.ref b1), (.ref b6), (.ref b6)]) _
    refine st7.trans ?_
    show Sp p e below T7 (mkF m 39 #[.val (.long p0), .second, .val (.long p1), .second, .val (.int p2), .val (.int p3), .val (.int p4), .val (.int p5), .val (.ref b1), .unset, .unset, .unset, .unset, .unset, .unset, .unset, .unset] [(.ref b6)]) _
    refine XS.astore X7.here hx rfl (hb hby at_39) rfl rfl (l' := #[.val (.long p0), .second, .val (.long p1), .second, .val (.int p2), .val (.int p3), .val (.int p4), .val (.int p5), .val (.ref b1), .val (.ref b6), .unset, .unset, .unset, .unset, .unset, .unset, .unset]) rfl ?_
    refine XS.iload X7.here hx rfl (hb hby at_41) rfl ?_
    refine XS.bipush X7.here hx rfl (hb hby at_43) ?_
    show Sp p e below T7 (mkF m 45 #[.val (.long p0), .second, .val (.long p1), .second, .val (.int p2), .val (.int p3), .val (.int p4), .val (.int p5), .val (.ref b1), .val (.ref b6), .unset, .unset, .unset, .unset, .unset, .unset, .unset] [(.int (16 : Int32)), (.int p4)]) _
    refine XS.iushr X7.here hx rfl (hb hby at_45) rfl ?_
    refine XS.sipush X7.here hx rfl (hb hby at_46) ?_
    show Sp p e below T7 (mkF m 49 #[.val (.long p0), .second, .val (.long p1), .second, .val (.int p2), .val (.int p3), .val (.int p4), .val (.int p5), .val (.ref b1), .val (.ref b6), .unset, .unset, .unset, .unset, .unset, .unset, .unset] [(.int (255 : Int32)), (.int ((p4.toUInt32 >>> ((16 : Int32) &&& 31).toUInt32).toInt32))]) _
    refine XS.iand X7.here hx rfl (hb hby at_49) rfl ?_
    show Sp p e below T7 (mkF m 50 #[.val (.long p0), .second, .val (.long p1), .second, .val (.int p2), .val (.int p3), .val (.int p4), .val (.int p5), .val (.ref b1), .val (.ref b6), .unset, .unset, .unset, .unset, .unset, .unset, .unset] [(.int (((p4.toUInt32 >>> ((16 : Int32) &&& 31).toUInt32).toInt32) &&& (255 : Int32)))]) _
    refine XS.i2c X7.here hx rfl (hb hby at_50) rfl ?_
    show Sp p e below T7 (mkF m 51 #[.val (.long p0), .second, .val (.long p1), .second, .val (.int p2), .val (.int p3), .val (.int p4), .val (.int p5), .val (.ref b1), .val (.ref b6), .unset, .unset, .unset, .unset, .unset, .unset, .unset] [(.int ((((p4.toUInt32 >>> ((16 : Int32) &&& 31).toUInt32).toInt32) &&& (255 : Int32)).toUInt32.toUInt16.toUInt32.toInt32))]) _
    refine st8 _ ?_
    show Sp p e below T8 (mkF m 54 #[.val (.long p0), .second, .val (.long p1), .second, .val (.int p2), .val (.int p3), .val (.int p4), .val (.int p5), .val (.ref b1), .val (.ref b6), .unset, .unset, .unset, .unset, .unset, .unset, .unset] [(.ref b8_0)]) _
    refine XS.astore X8.here hx rfl (hb hby at_54) rfl rfl (l' := #[.val (.long p0), .second, .val (.long p1), .second, .val (.int p2), .val (.int p3), .val (.int p4), .val (.int p5), .val (.ref b1), .val (.ref b6), .val (.ref b8_0), .unset, .unset, .unset, .unset, .unset, .unset]) rfl ?_
    refine XS.iload X8.here hx rfl (hb hby at_56) rfl ?_
    refine XS.bipush X8.here hx rfl (hb hby at_58) ?_
    show Sp p e below T8 (mkF m 60 #[.val (.long p0), .second, .val (.long p1), .second, .val (.int p2), .val (.int p3), .val (.int p4), .val (.int p5), .val (.ref b1), .val (.ref b6), .val (.ref b8_0), .unset, .unset, .unset, .unset, .unset, .unset] [(.int (24 : Int32)), (.int p4)]) _
    refine XS.iushr X8.here hx rfl (hb hby at_60) rfl ?_
    refine XS.sipush X8.here hx rfl (hb hby at_61) ?_
    show Sp p e below T8 (mkF m 64 #[.val (.long p0), .second, .val (.long p1), .second, .val (.int p2), .val (.int p3), .val (.int p4), .val (.int p5), .val (.ref b1), .val (.ref b6), .val (.ref b8_0), .unset, .unset, .unset, .unset, .unset, .unset] [(.int (255 : Int32)), (.int ((p4.toUInt32 >>> ((24 : Int32) &&& 31).toUInt32).toInt32))]) _
    refine XS.iand X8.here hx rfl (hb hby at_64) rfl ?_
    show Sp p e below T8 (mkF m 65 #[.val (.long p0), .second, .val (.long p1), .second, .val (.int p2), .val (.int p3), .val (.int p4), .val (.int p5), .val (.ref b1), .val (.ref b6), .val (.ref b8_0), .unset, .unset, .unset, .unset, .unset, .unset] [(.int (((p4.toUInt32 >>> ((24 : Int32) &&& 31).toUInt32).toInt32) &&& (255 : Int32)))]) _
    refine XS.i2c X8.here hx rfl (hb hby at_65) rfl ?_
    show Sp p e below T8 (mkF m 66 #[.val (.long p0), .second, .val (.long p1), .second, .val (.int p2), .val (.int p3), .val (.int p4), .val (.int p5), .val (.ref b1), .val (.ref b6), .val (.ref b8_0), .unset, .unset, .unset, .unset, .unset, .unset] [(.int ((((p4.toUInt32 >>> ((24 : Int32) &&& 31).toUInt32).toInt32) &&& (255 : Int32)).toUInt32.toUInt16.toUInt32.toInt32))]) _
    refine st9 _ ?_
    show Sp p e below T9 (mkF m 69 #[.val (.long p0), .second, .val (.long p1), .second, .val (.int p2), .val (.int p3), .val (.int p4), .val (.int p5), .val (.ref b1), .val (.ref b6), .val (.ref b8_0), .unset, .unset, .unset, .unset, .unset, .unset] [(.ref b9_0)]) _
    refine XS.astore X9.here hx rfl (hb hby at_69) rfl rfl (l' := #[.val (.long p0), .second, .val (.long p1), .second, .val (.int p2), .val (.int p3), .val (.int p4), .val (.int p5), .val (.ref b1), .val (.ref b6), .val (.ref b8_0), .val (.ref b9_0), .unset, .unset, .unset, .unset, .unset]) rfl ?_
    refine XS.iload X9.here hx rfl (hb hby at_71) rfl ?_
    refine XS.iconst X9.here hx rfl (hb hby at_73) ?_
    show Sp p e below T9 (mkF m 74 #[.val (.long p0), .second, .val (.long p1), .second, .val (.int p2), .val (.int p3), .val (.int p4), .val (.int p5), .val (.ref b1), .val (.ref b6), .val (.ref b8_0), .val (.ref b9_0), .unset, .unset, .unset, .unset, .unset] [(.int (2 : Int32)), (.int p5)]) _
    refine XS.iand X9.here hx rfl (hb hby at_74) rfl ?_
    show Sp p e below T9 (mkF m 75 #[.val (.long p0), .second, .val (.long p1), .second, .val (.int p2), .val (.int p3), .val (.int p4), .val (.int p5), .val (.ref b1), .val (.ref b6), .val (.ref b8_0), .val (.ref b9_0), .unset, .unset, .unset, .unset, .unset] [(.int (p5 &&& (2 : Int32)))]) _
    refine XS.ifYes X9.here hx rfl (pc0 := 75) (pc' := 84) rfl (hb hby at_75) rfl ((if0 _ _).trans (teq hc1).1) (by decide) (by decide) ?_
    show Sp p e below T9 (mkF m 84 #[.val (.long p0), .second, .val (.long p1), .second, .val (.int p2), .val (.int p3), .val (.int p4), .val (.int p5), .val (.ref b1), .val (.ref b6), .val (.ref b8_0), .val (.ref b9_0), .unset, .unset, .unset, .unset, .unset] []) _
    refine st10 _ ?_
    show Sp p e below T10 (mkF m 87 #[.val (.long p0), .second, .val (.long p1), .second, .val (.int p2), .val (.int p3), .val (.int p4), .val (.int p5), .val (.ref b1), .val (.ref b6), .val (.ref b8_0), .val (.ref b9_0), .unset, .unset, .unset, .unset, .unset] [(.ref w_IGNORE)]) _
    refine XS.astore X10.here hx rfl (hb hby at_87) rfl rfl (l' := #[.val (.long p0), .second, .val (.long p1), .second, .val (.int p2), .val (.int p3), .val (.int p4), .val (.int p5), .val (.ref b1), .val (.ref b6), .val (.ref b8_0), .val (.ref b9_0), .val (.ref w_IGNORE), .unset, .unset, .unset, .unset]) rfl ?_
    refine XS.iconst X10.here hx rfl (hb hby at_89) ?_
    show Sp p e below T10 (mkF m 90 #[.val (.long p0), .second, .val (.long p1), .second, .val (.int p2), .val (.int p3), .val (.int p4), .val (.int p5), .val (.ref b1), .val (.ref b6), .val (.ref b8_0), .val (.ref b9_0), .val (.ref w_IGNORE), .unset, .unset, .unset, .unset] [(.int (1 : Int32))]) _
    refine st11 _ ?_
    show Sp p e below T11 (mkF m 92 #[.val (.long p0), .second, .val (.long p1), .second, .val (.int p2), .val (.int p3), .val (.int p4), .val (.int p5), .val (.ref b1), .val (.ref b6), .val (.ref b8_0), .val (.ref b9_0), .val (.ref w_IGNORE), .unset, .unset, .unset, .unset] [(.ref b11)]) _
    refine XS.astore X11.here hx rfl (hb hby at_92) rfl rfl (l' := #[.val (.long p0), .second, .val (.long p1), .second, .val (.int p2), .val (.int p3), .val (.int p4), .val (.int p5), .val (.ref b1), .val (.ref b6), .val (.ref b8_0), .val (.ref b9_0), .val (.ref w_IGNORE), .val (.ref b11), .unset, .unset, .unset]) rfl ?_
    refine XS.aload X11.here hx rfl (hb hby at_94) rfl rfl ?_
    refine XS.iconst X11.here hx rfl (hb hby at_96) ?_
    refine XS.iload X11.here hx rfl (hb hby at_97) rfl ?_
    refine XS.bipush X11.here hx rfl (hb hby at_99) ?_
    show Sp p e below T11 (mkF m 101 #[.val (.long p0), .second, .val (.long p1), .second, .val (.int p2), .val (.int p3), .val (.int p4), .val (.int p5), .val (.ref b1), .val (.ref b6), .val (.ref b8_0), .val (.ref b9_0), .val (.ref w_IGNORE), .val (.ref b11), .unset, .unset, .unset] [(.int (8 : Int32)), (.int p5), (.int (0 : Int32)), (.ref b11)]) _
    refine XS.iushr X11.here hx rfl (hb hby at_101) rfl ?_
    show Sp p e below T11 (mkF m 102 #[.val (.long p0), .second, .val (.long p1), .second, .val (.int p2), .val (.int p3), .val (.int p4), .val (.int p5), .val (.ref b1), .val (.ref b6), .val (.ref b8_0), .val (.ref b9_0), .val (.ref w_IGNORE), .val (.ref b11), .unset, .unset, .unset] [(.int ((p5.toUInt32 >>> ((8 : Int32) &&& 31).toUInt32).toInt32)), (.int (0 : Int32)), (.ref b11)]) _
    refine XS.i2b X11.here hx rfl (hb hby at_102) rfl ?_
    show Sp p e below T11 (mkF m 103 #[.val (.long p0), .second, .val (.long p1), .second, .val (.int p2), .val (.int p3), .val (.int p4), .val (.int p5), .val (.ref b1), .val (.ref b6), .val (.ref b8_0), .val (.ref b9_0), .val (.ref w_IGNORE), .val (.ref b11), .unset, .unset, .unset] [(.int (((p5.toUInt32 >>> ((8 : Int32) &&& 31).toUInt32).toInt32).toInt8.toInt32)), (.int (0 : Int32)), (.ref b11)]) _
    refine st13 _ ?_
    show Sp p e below T13 (mkF m 104 #[.val (.long p0), .second, .val (.long p1), .second, .val (.int p2), .val (.int p3), .val (.int p4), .val (.int p5), .val (.ref b1), .val (.ref b6), .val (.ref b8_0), .val (.ref b9_0), .val (.ref w_IGNORE), .val (.ref b11), .unset, .unset, .unset] []) _
    refine XS.iload X13.here hx rfl (hb hby at_104) rfl ?_
    refine XS.iconst X13.here hx rfl (hb hby at_106) ?_
    show Sp p e below T13 (mkF m 107 #[.val (.long p0), .second, .val (.long p1), .second, .val (.int p2), .val (.int p3), .val (.int p4), .val (.int p5), .val (.ref b1), .val (.ref b6), .val (.ref b8_0), .val (.ref b9_0), .val (.ref w_IGNORE), .val (.ref b11), .unset, .unset, .unset] [(.int (1 : Int32)), (.int p5)]) _
    refine XS.iand X13.here hx rfl (hb hby at_107) rfl ?_
    show Sp p e below T13 (mkF m 108 #[.val (.long p0), .second, .val (.long p1), .second, .val (.int p2), .val (.int p3), .val (.int p4), .val (.int p5), .val (.ref b1), .val (.ref b6), .val (.ref b8_0), .val (.ref b9_0), .val (.ref w_IGNORE), .val (.ref b11), .unset, .unset, .unset] [(.int (p5 &&& (1 : Int32)))]) _
    refine XS.ifNo X13.here hx rfl (hb hby at_108) rfl ((if0 _ _).trans (feq hc2).1) ?_
    refine XS.iconst X13.here hx rfl (hb hby at_111) ?_
    show Sp p e below T13 (mkF m 112 #[.val (.long p0), .second, .val (.long p1), .second, .val (.int p2), .val (.int p3), .val (.int p4), .val (.int p5), .val (.ref b1), .val (.ref b6), .val (.ref b8_0), .val (.ref b9_0), .val (.ref w_IGNORE), .val (.ref b11), .unset, .unset, .unset] [(.int (1 : Int32))]) _
    refine XS.goto X13.here hx rfl (pc0 := 112) (pc' := 116) rfl (hb hby at_112) (by decide) (by decide) ?_
    show Sp p e below T13 (mkF m 116 #[.val (.long p0), .second, .val (.long p1), .second, .val (.int p2), .val (.int p3), .val (.int p4), .val (.int p5), .val (.ref b1), .val (.ref b6), .val (.ref b8_0), .val (.ref b9_0), .val (.ref w_IGNORE), .val (.ref b11), .unset, .unset, .unset] [(.int (1 : Int32))]) _
    refine XS.istore X13.here hx rfl (hb hby at_116) rfl (l' := #[.val (.long p0), .second, .val (.long p1), .second, .val (.int p2), .val (.int p3), .val (.int p4), .val (.int p5), .val (.ref b1), .val (.ref b6), .val (.ref b8_0), .val (.ref b9_0), .val (.ref w_IGNORE), .val (.ref b11), .val (.int (1 : Int32)), .unset, .unset]) rfl ?_
    refine XS.iload X13.here hx rfl (hb hby at_118) rfl ?_
    refine XS.iconst X13.here hx rfl (hb hby at_120) ?_
    show Sp p e below T13 (mkF m 121 #[.val (.long p0), .second, .val (.long p1), .second, .val (.int p2), .val (.int p3), .val (.int p4), .val (.int p5), .val (.ref b1), .val (.ref b6), .val (.ref b8_0), .val (.ref b9_0), .val (.ref w_IGNORE), .val (.ref b11), .val (.int (1 : Int32)), .unset, .unset] [(.int (4 : Int32)), (.int p5)]) _
    refine XS.iand X13.here hx rfl (hb hby at_121) rfl ?_
    show Sp p e below T13 (mkF m 122 #[.val (.long p0), .second, .val (.long p1), .second, .val (.int p2), .val (.int p3), .val (.int p4), .val (.int p5), .val (.ref b1), .val (.ref b6), .val (.ref b8_0), .val (.ref b9_0), .val (.ref w_IGNORE), .val (.ref b11), .val (.int (1 : Int32)), .unset, .unset] [(.int (p5 &&& (4 : Int32)))]) _
    refine XS.ifYes X13.here hx rfl (pc0 := 122) (pc' := 129) rfl (hb hby at_122) rfl ((if0 _ _).trans (teq hc3).1) (by decide) (by decide) ?_
    refine XS.iconst X13.here hx rfl (hb hby at_129) ?_
    show Sp p e below T13 (mkF m 130 #[.val (.long p0), .second, .val (.long p1), .second, .val (.int p2), .val (.int p3), .val (.int p4), .val (.int p5), .val (.ref b1), .val (.ref b6), .val (.ref b8_0), .val (.ref b9_0), .val (.ref w_IGNORE), .val (.ref b11), .val (.int (1 : Int32)), .unset, .unset] [(.int (0 : Int32))]) _
    refine XS.istore X13.here hx rfl (hb hby at_130) rfl (l' := #[.val (.long p0), .second, .val (.long p1), .second, .val (.int p2), .val (.int p3), .val (.int p4), .val (.int p5), .val (.ref b1), .val (.ref b6), .val (.ref b8_0), .val (.ref b9_0), .val (.ref w_IGNORE), .val (.ref b11), .val (.int (1 : Int32)), .val (.int (0 : Int32)), .unset]) rfl ?_
    refine XS.iload X13.here hx rfl (hb hby at_132) rfl ?_
    show Sp p e below T13 (mkF m 134 #[.val (.long p0), .second, .val (.long p1), .second, .val (.int p2), .val (.int p3), .val (.int p4), .val (.int p5), .val (.ref b1), .val (.ref b6), .val (.ref b8_0), .val (.ref b9_0), .val (.ref w_IGNORE), .val (.ref b11), .val (.int (1 : Int32)), .val (.int (0 : Int32)), .unset] [(.int (1 : Int32))]) _
    refine XS.ifNo X13.here hx rfl (hb hby at_134) rfl ((if0 _ _).trans (feq (by decide : ¬ ((1 : Int32) = (0 : Int32)))).1) ?_
    show Sp p e below T13 (mkF m 137 #[.val (.long p0), .second, .val (.long p1), .second, .val (.int p2), .val (.int p3), .val (.int p4), .val (.int p5), .val (.ref b1), .val (.ref b6), .val (.ref b8_0), .val (.ref b9_0), .val (.ref w_IGNORE), .val (.ref b11), .val (.int (1 : Int32)), .val (.int (0 : Int32)), .unset] []) _
    refine st14 _ ?_
    show Sp p e below T14 (mkF m 140 #[.val (.long p0), .second, .val (.long p1), .second, .val (.int p2), .val (.int p3), .val (.int p4), .val (.int p5), .val (.ref b1), .val (.ref b6), .val (.ref b8_0), .val (.ref b9_0), .val (.ref w_IGNORE), .val (.ref b11), .val (.int (1 : Int32)), .val (.int (0 : Int32)), .unset] [(.ref b14)]) _
    refine XS.dup X14.here hx rfl (hb hby at_140) rfl rfl ?_
    refine XS.lloadN X14.here hx rfl (hb hby at_141) rfl ?_
    refine XS.aload X14.here hx rfl (hb hby at_142) rfl rfl ?_
    refine XS.lloadN X14.here hx rfl (hb hby at_144) rfl ?_
    refine XS.aload X14.here hx rfl (hb hby at_145) rfl rfl ?_
    refine XS.aload X14.here hx rfl (hb hby at_147) rfl rfl ?_
    refine XS.aload X14.here hx rfl (hb hby at_149) rfl rfl ?_
    refine XS.iload X14.here hx rfl (hb hby at_151) rfl ?_
    refine XS.iload X14.here hx rfl (hb hby at_153) rfl ?_
    refine XS.aload X14.here hx rfl (hb hby at_155) rfl rfl ?_
    show Sp p e below T14 (mkF m 157 #[.val (.long p0), .second, .val (.long p1), .second, .val (.int p2), .val (.int p3), .val (.int p4), .val (.int p5), .val (.ref b1), .val (.ref b6), .val (.ref b8_0), .val (.ref b9_0), .val (.ref w_IGNORE), .val (.ref b11), .val (.int (1 : Int32)), .val (.int (0 : Int32)), .unset] [(.ref w_IGNORE), (.int p3), (.int p2), (.ref b11), (.ref b9_0), (.ref b8_0), (.long p1), (.ref b6), (.long p0), (.ref b14), (.ref b14)]) _
    refine st15.trans ?_
    show Sp p e below T15 (mkF m 160 #[.val (.long p0), .second, .val (.long p1), .second, .val (.int p2), .val (.int p3), .val (.int p4), .val (.int p5), .val (.ref b1), .val (.ref b6), .val (.ref b8_0), .val (.ref b9_0), .val (.ref w_IGNORE), .val (.ref b11), .val (.int (1 : Int32)), .val (.int (0 : Int32)), .unset] [(.ref b14)]) _
    refine XS.astore X15.here hx rfl (hb hby at_160) rfl rfl (l' := #[.val (.long p0), .second, .val (.long p1), .second, .val (.int p2), .val (.int p3), .val (.int p4), .val (.int p5), .val (.ref b1), .val (.ref b6), .val (.ref b8_0), .val (.ref b9_0), .val (.ref w_IGNORE), .val (.ref b11), .val (.int (1 : Int32)), .val (.int (0 : Int32)), .val (.ref b14)]) rfl ?_
    refine XS.aload X15.here hx rfl (hb hby at_162) rfl rfl ?_
    show Sp p e below T15 (mkF m 164 #[.val (.long p0), .second, .val (.long p1), .second, .val (.int p2), .val (.int p3), .val (.int p4), .val (.int p5), .val (.ref b1), .val (.ref b6), .val (.ref b8_0), .val (.ref b9_0), .val (.ref w_IGNORE), .val (.ref b11), .val (.int (1 : Int32)), .val (.int (0 : Int32)), .val (.ref b14)] [(.ref b14)]) _
    refine st16.trans ?_
    show Sp p e below T16 (mkF m 167 #[.val (.long p0), .second, .val (.long p1), .second, .val (.int p2), .val (.int p3), .val (.int p4), .val (.int p5), .val (.ref b1), .val (.ref b6), .val (.ref b8_0), .val (.ref b9_0), .val (.ref w_IGNORE), .val (.ref b11), .val (.int (1 : Int32)), .val (.int (0 : Int32)), .val (.ref b14)] [(.int (1 : Int32))]) _
    refine XS.ifNo X16.here hx rfl (hb hby at_167) rfl ((if0 _ _).trans (feq (by decide : ¬ ((1 : Int32) = (0 : Int32)))).1) ?_
    refine XS.aload X16.here hx rfl (hb hby at_170) rfl rfl ?_
    show Sp p e below T16 (mkF m 172 #[.val (.long p0), .second, .val (.long p1), .second, .val (.int p2), .val (.int p3), .val (.int p4), .val (.int p5), .val (.ref b1), .val (.ref b6), .val (.ref b8_0), .val (.ref b9_0), .val (.ref w_IGNORE), .val (.ref b11), .val (.int (1 : Int32)), .val (.int (0 : Int32)), .val (.ref b14)] [(.ref b14)]) _
    refine st17.trans ?_
    show Sp p e below T17 (mkF m 175 #[.val (.long p0), .second, .val (.long p1), .second, .val (.int p2), .val (.int p3), .val (.int p4), .val (.int p5), .val (.ref b1), .val (.ref b6), .val (.ref b8_0), .val (.ref b9_0), .val (.ref w_IGNORE), .val (.ref b11), .val (.int (1 : Int32)), .val (.int (0 : Int32)), .val (.ref b14)] [(.ref b6)]) _
    refine XS.aload X17.here hx rfl (hb hby at_175) rfl rfl ?_
    show Sp p e below T17 (mkF m 177 #[.val (.long p0), .second, .val (.long p1), .second, .val (.int p2), .val (.int p3), .val (.int p4), .val (.int p5), .val (.ref b1), .val (.ref b6), .val (.ref b8_0), .val (.ref b9_0), .val (.ref w_IGNORE), .val (.ref b11), .val (.int (1 : Int32)), .val (.int (0 : Int32)), .val (.ref b14)] [(.ref b6), (.ref b6)]) _
    refine Jvm.RoadKit.acmp (g := (mkF m 177 #[.val (.long p0), .second, .val (.long p1), .second, .val (.int p2), .val (.int p3), .val (.int p4), .val (.int p5), .val (.ref b1), .val (.ref b6), .val (.ref b8_0), .val (.ref b9_0), .val (.ref w_IGNORE), .val (.ref b11), .val (.int (1 : Int32)), .val (.int (0 : Int32)), .val (.ref b14)] [(.ref b6), (.ref b6)])) X17 hx rfl rfl rfl (pc0 := 177) (pc' := 180) (same := true) rfl (hb hby at_177) rfl (decide_eq_true rfl) (by decide) (by decide) ?_
    show Sp p e below T17 (mkF m 180 #[.val (.long p0), .second, .val (.long p1), .second, .val (.int p2), .val (.int p3), .val (.int p4), .val (.int p5), .val (.ref b1), .val (.ref b6), .val (.ref b8_0), .val (.ref b9_0), .val (.ref w_IGNORE), .val (.ref b11), .val (.int (1 : Int32)), .val (.int (0 : Int32)), .val (.ref b14)] []) _
    refine XS.aload X17.here hx rfl (hb hby at_180) rfl rfl ?_
    show Sp p e below T17 (mkF m 182 #[.val (.long p0), .second, .val (.long p1), .second, .val (.int p2), .val (.int p3), .val (.int p4), .val (.int p5), .val (.ref b1), .val (.ref b6), .val (.ref b8_0), .val (.ref b9_0), .val (.ref w_IGNORE), .val (.ref b11), .val (.int (1 : Int32)), .val (.int (0 : Int32)), .val (.ref b14)] [(.ref b14)]) _
    refine st18.trans ?_
    show Sp p e below T18 (mkF m 185 #[.val (.long p0), .second, .val (.long p1), .second, .val (.int p2), .val (.int p3), .val (.int p4), .val (.int p5), .val (.ref b1), .val (.ref b6), .val (.ref b8_0), .val (.ref b9_0), .val (.ref w_IGNORE), .val (.ref b11), .val (.int (1 : Int32)), .val (.int (0 : Int32)), .val (.ref b14)] [.null]) _
    refine XS.ifnonnullNo X18.here hx rfl (hb hby at_185) rfl ?_
    refine XS.iconst X18.here hx rfl (hb hby at_188) ?_
    show Sp p e below T18 (mkF m 189 #[.val (.long p0), .second, .val (.long p1), .second, .val (.int p2), .val (.int p3), .val (.int p4), .val (.int p5), .val (.ref b1), .val (.ref b6), .val (.ref b8_0), .val (.ref b9_0), .val (.ref w_IGNORE), .val (.ref b11), .val (.int (1 : Int32)), .val (.int (0 : Int32)), .val (.ref b14)] [(.int (1 : Int32))]) _
    refine XS.goto X18.here hx rfl (pc0 := 189) (pc' := 193) rfl (hb hby at_189) (by decide) (by decide) ?_
    show Sp p e below T18 (mkF m 193 #[.val (.long p0), .second, .val (.long p1), .second, .val (.int p2), .val (.int p3), .val (.int p4), .val (.int p5), .val (.ref b1), .val (.ref b6), .val (.ref b8_0), .val (.ref b9_0), .val (.ref w_IGNORE), .val (.ref b11), .val (.int (1 : Int32)), .val (.int (0 : Int32)), .val (.ref b14)] [(.int (1 : Int32))]) _
    exact retN X18 hx (t := .boolean) Bd.returns (by simp) (hb hby at_193) hr
  · skip
    exact ⟨rfl, N18⟩
set_option maxRecDepth 65536 in
set_option maxHeartbeats 40000000 in
theorem rm32 (l : Launch) (Z : State) (a0 : Array Value) (hw : ∀ d ∈ tables_1, d.before a0 Z = true) (ws : List Jvm.Cond) (w_PENDING w_IGNORE : Addr) (cs_v : Int32) (hp : Perm Z w_PENDING w_IGNORE cs_v) (p0 : Int64) (p1 : Int64) (p2 : Int32) (p3 : Int32) (p4 : Int32) (p5 : Int32) (h0 : Heap) (n0 : Nat) (O0 : Old Z n0 h0) (hc1 : (p5 &&& (2 : Int32)) = (0 : Int32)) (hc2 : ¬ ((p5 &&& (1 : Int32)) = (0 : Int32))) (hc3 : ¬ ((p5 &&& (4 : Int32)) = (0 : Int32))) :
    MetFree l x (head1 (Jvm.Cond.code x code maxLocals ret :: ws) room_1) (fun a U => a = #[(.long p0), (.long p1), (.int p2), (.int p3), (.int p4), (.int p5)] ∧ Z.Warmed39 U.vm ∧ U.heap = h0) (fun _ _ _ _ _ => True) (fun _ U o U' => ∃ v L, o = .returned v ∧ (v = some (.int (1 : Int32)) ∧ Fr n0 L) ∧ FrameEnd U o U' L 32 128) := by
  refine MetFree.of_bodySF (plainFor_of_name pn_0) hisR ?_
  intro p e s m args below meth c s₁ Bd hml0 hP hK
  obtain ⟨rfl, hZ, hh⟩ := hP
  have hx := Bd.exec
  have hby := Bd.bytes
  have hml : c.maxLocals = 17 := hml0
  have hown : s.vm.findClass "com/example/graph_job_runner/graphjobrunner/ClaimedNodeInStreamPinLaw" = some m.cls := findClass_of_methodNamed Bd.named
  have hnm := (name_of_methodNamed Bd.named Bd.method).1
  have X0 : Stand p l e room_1 s m #[(.long p0), (.long p1), (.int p2), (.int p3), (.int p4), (.int p5)] below meth c s₁ [] 0 0 := Stand.of_body Bd
  have e0 : s₁.heap = h0 := by rw [← hh, Bd.state]; rfl
  have N0 := Fr.nil n0
  have hp' := hp
  obtain ⟨S_w_PENDING, E_w_PENDING, S_w_IGNORE, E_w_IGNORE, S_COMPACT_STRINGS, h_cs⟩ := hp'
  have pre0 : ∀ t, Steps p.tables e below (s₁.setTop (mkF m 0 #[.val (.long p0), .second, .val (.long p1), .second, .val (.int p2), .val (.int p3), .val (.int p4), .val (.int p5), .unset, .unset, .unset, .unset, .unset, .unset, .unset, .unset, .unset] [])) t → Steps p.tables e below (s₁.setTop (entryFrame m #[(.long p0), (.long p1), (.int p2), (.int p3), (.int p4), (.int p5)] maxLocals)) t := fun t k => castTop (ef_0_0 m p0 p1 p2 p3 p4 p5) k
  obtain ⟨T1, h1, k1, X1, e1, E1, A1, EA1, st1⟩ := newPE X0 hx hZ (hw _ (List.mem_of_getElem? (i := 0) rfl)) e0 (g := (mkF m 1 #[.val (.long p0), .second, .val (.long p1), .second, .val (.int p2), .val (.int p3), .val (.int p4), .val (.int p5), .unset, .unset, .unset, .unset, .unset, .unset, .unset, .unset, .unset] [(.int (2 : Int32))])) rfl (hb hby at_1) rfl (by decide) (cap := 2) (by decide) (by decide) (by decide) (by decide) (ad := "[C") (by decide)
  obtain ⟨b1, g1⟩ : ∃ z, z = h0.size := ⟨_, rfl⟩
  rw [← g1] at A1 EA1 st1
  have g_b1 : n0 ≤ b1 := Nat.le_trans (own_sz O0) (Nat.le_of_eq g1.symm)
  have sz_b1 : h0.size ≤ b1 := Nat.le_trans (Keep.refl h0 []).1 (Nat.le_of_eq g1.symm)
  have O1 := O0.ext E1
  have K1 : Keep h0 h1 [] := (Keep.refl h0 []).ext E1
  have V_b1 : Arv Z h1 b1 k1 .char (2 : Int32) [(.int (0 : Int32)), (.int (0 : Int32))] (.int (0 : Int32)) := (Arv.new A1 (by decide)).pad (pad_rep [] (.int (0 : Int32)) 2)
  obtain ⟨cl2, Ar2, q2, S2, Nn2, H2, G2⟩ := id V_b1
  have hin2 : ¬ ((0 : Int32) < 0 ∨ cl2.slots.size ≤ ((0 : Int32)).toNatClampNeg) := inb_of S2 ⟨by decide, by decide⟩
  obtain ⟨T3, h3, X3, e3, W3, st3⟩ := stC X1 hx hZ e1 Ar2 (j := (0 : Int32)) hin2 (g := (mkF m 15 #[.val (.long p0), .second, .val (.long p1), .second, .val (.int p2), .val (.int p3), .val (.int p4), .val (.int p5), .val (.ref b1), .unset, .unset, .unset, .unset, .unset, .unset, .unset, .unset] [(.int ((p4 &&& (255 : Int32)).toUInt32.toUInt16.toUInt32.toInt32)), (.int (0 : Int32)), (.ref b1)])) rfl rfl (hb hby at_15)
  have N3 := Fr.snoc X3 N0 g_b1
  have O3 := O1.wr W3 g_b1
  have K3 : Keep h0 h3 [] := K1.wr W3 (Or.inr sz_b1)
  have V_b1_3 : Arv Z h3 b1 k1 .char (2 : Int32) [(.int (nar .char ((p4 &&& (255 : Int32)).toUInt32.toUInt16.toUInt32.toInt32))), (.int (0 : Int32))] (.int (0 : Int32)) := Arv.set Ar2 q2 S2 Nn2 H2 G2 (fits_nar_char _) W3 0 rfl (Nat.le_of_ble_eq_true rfl)
  obtain ⟨cl4, Ar4, q4, S4, Nn4, H4, G4⟩ := id V_b1_3
  have hin4 : ¬ ((1 : Int32) < 0 ∨ cl4.slots.size ≤ ((1 : Int32)).toNatClampNeg) := inb_of S4 ⟨by decide, by decide⟩
  obtain ⟨T5, h5, X5, e5, W5, st5⟩ := stC X3 hx hZ e3 Ar4 (j := (1 : Int32)) hin4 (g := (mkF m 29 #[.val (.long p0), .second, .val (.long p1), .second, .val (.int p2), .val (.int p3), .val (.int p4), .val (.int p5), .val (.ref b1), .unset, .unset, .unset, .unset, .unset, .unset, .unset, .unset] [(.int ((((p4.toUInt32 >>> ((8 : Int32) &&& 31).toUInt32).toInt32) &&& (255 : Int32)).toUInt32.toUInt16.toUInt32.toInt32)), (.int (1 : Int32)), (.ref b1)])) rfl rfl (hb hby at_29)
  have N5 := Fr.snoc X5 N3 g_b1
  have O5 := O3.wr W5 g_b1
  have K5 : Keep h0 h5 [] := K3.wr W5 (Or.inr sz_b1)
  have V_b1_5 : Arv Z h5 b1 k1 .char (2 : Int32) [(.int (nar .char ((p4 &&& (255 : Int32)).toUInt32.toUInt16.toUInt32.toInt32))), (.int (nar .char ((((p4.toUInt32 >>> ((8 : Int32) &&& 31).toUInt32).toInt32) &&& (255 : Int32)).toUInt32.toUInt16.toUInt32.toInt32)))] (.int (0 : Int32)) := Arv.set Ar4 q4 S4 Nn4 H4 G4 (fits_nar_char _) W5 1 rfl (Nat.le_of_ble_eq_true rfl)
  obtain ⟨T6, h6, X6, e6, E6, A6, D6, -, st6⟩ := newO X5 hx hZ hown (hw _ (List.mem_of_getElem? (i := 1) rfl)) (hw _ (List.mem_of_getElem? (i := 2) rfl)) (hw _ (List.mem_of_getElem? (i := 3) rfl)) e5 (g := (mkF m 30 #[.val (.long p0), .second, .val (.long p1), .second, .val (.int p2), .val (.int p3), .val (.int p4), .val (.int p5), .val (.ref b1), .unset, .unset, .unset, .unset, .unset, .unset, .unset, .unset] [])) rfl (hb hby at_30) (by decide) (by decide)
  obtain ⟨b6, g6⟩ : ∃ z, z = h5.size := ⟨_, rfl⟩
  rw [← g6] at A6 D6 st6
  have g_b6 : n0 ≤ b6 := Nat.le_trans (own_sz O5) (Nat.le_of_eq g6.symm)
  have sz_b6 : h0.size ≤ b6 := Nat.le_trans K5.1 (Nat.le_of_eq g6.symm)
  have O6 := O5.ext E6
  have K6 : Keep h0 h6 [] := K5.ext E6
  have F_coder_b6 : Fld Z h6 b6 "java/lang/String" "coder" "B" (.int (0 : Int32)) := D6 (Or.inr (hw _ (List.mem_of_getElem? (i := 27) rfl))) (ty := .byte) (by decide)
  have F_value_b6 : Fld Z h6 b6 "java/lang/String" "value" "[B" .null := D6 (Or.inr (hw _ (List.mem_of_getElem? (i := 29) rfl))) (ty := (.array .byte)) (by decide)
  obtain ⟨_, _, ⟨T7, L7, k7, n7⟩, -, X7, ⟨Lc7, hQ7, l7, y7, z7⟩, st7⟩ := X6.specialBack hx (y := y4) rfl hown (mvT hZ (hw _ (List.mem_of_getElem? (i := 4) rfl))) (mvT hZ (hw _ (List.mem_of_getElem? (i := 5) rfl))) (mvT hZ (hw _ (List.mem_of_getElem? (i := 6) rfl))) (by decide) (backOf (W := 1) (rm5 l Z a0 hw [] w_PENDING w_IGNORE cs_v hp b6 b1 k1 (nar .char ((p4 &&& (255 : Int32)).toUInt32.toUInt16.toUInt32.toInt32)) (nar .char ((((p4.toUInt32 >>> ((8 : Int32) &&& 31).toUInt32).toInt32) &&& (255 : Int32)).toUInt32.toUInt16.toUInt32.toInt32)) h6 n0 O6 (V_b1_5.ext E6) (own_ch2 p4) (own_ch2 ((p4.toUInt32 >>> ((8 : Int32) &&& 31).toUInt32).toInt32)) (((EA1.wr W3).wr W5).ext E6) A6 F_coder_b6 F_value_b6 g_b6) hZ (hw _ (List.mem_of_getElem? (i := 6) rfl)) (hw _ (List.mem_of_getElem? (i := 3) rfl)) (by decide) (by decide)) (g := (mkF m 36 #[.val (.long p0), .second, .val (.long p1), .second, .val (.int p2), .val (.int p3), .val (.int p4), .val (.int p5), .val (.ref b1), .unset, .unset, .unset, .unset, .unset, .unset, .unset, .unset] [(.ref b1), (.ref b6), (.ref b6)])) rfl (by rw [hml]; rfl) (Steps.refl _) (a := b6) (argsL := [(.ref b1)]) (rest := [(.ref b6)]) (lenOf pd_4 rfl) rfl (by show 2 * 0 + _ ≤ _; exact Nat.le_of_eq rfl) (hb hby at_36) (fun _ _ => ⟨rfl, e6, (by decide : 2 + 1 ≤ _), (by decide : 6 + 2 ≤ _)⟩)
  dsimp only [Pt.U, Pt.locs, Pt.cells, Pt.slots] at X7 l7 y7 z7 st7 hQ7
  subst l7 y7 z7
  obtain ⟨b7_0, kc7_0, rfl, Nq7, Kq7, sq_b7_0, fq7_0, fq7_1, fq7_2, fq7_3, fq7_4⟩ := hQ7
  have N7 := Fr.app N5 Nq7
  have g_b7_0 : n0 ≤ b7_0 := Nat.le_trans (own_sz O6) sq_b7_0
  have sz_b7_0 : h0.size ≤ b7_0 := Nat.le_trans K6.1 sq_b7_0
  have O7 := O6.keep Kq7 (allS g_b6 all0)
  have K7 : Keep h0 T7.heap [] := K6.trans Kq7 (allS (Or.inr sz_b6) all0)
  obtain ⟨_, _, ⟨T8, L8, k8, n8⟩, -, X8, ⟨Lc8, hQ8, l8, y8, z8⟩, st8⟩ := Jvm.LawKit.callS X7 hx (y := y8) hown (mvT hZ (hw _ (List.mem_of_getElem? (i := 30) rfl))) (mvT hZ (hw _ (List.mem_of_getElem? (i := 31) rfl))) (mvT hZ (hw _ (List.mem_of_getElem? (i := 3) rfl))) (mvT hZ (hw _ (List.mem_of_getElem? (i := 32) rfl))) (by decide) (backOf (W := 0) (rm9 l Z a0 hw [] w_PENDING w_IGNORE cs_v hp ((((p4.toUInt32 >>> ((16 : Int32) &&& 31).toUInt32).toInt32) &&& (255 : Int32)).toUInt32.toUInt16.toUInt32.toInt32) T7.heap n0 O7 (own_ch1 ((p4.toUInt32 >>> ((16 : Int32) &&& 31).toUInt32).toInt32))) hZ (hw _ (List.mem_of_getElem? (i := 32) rfl)) (hw _ (List.mem_of_getElem? (i := 3) rfl)) (by decide) (by decide)) (g := (mkF m 51 #[.val (.long p0), .second, .val (.long p1), .second, .val (.int p2), .val (.int p3), .val (.int p4), .val (.int p5), .val (.ref b1), .val (.ref b6), .unset, .unset, .unset, .unset, .unset, .unset, .unset] [(.int ((((p4.toUInt32 >>> ((16 : Int32) &&& 31).toUInt32).toInt32) &&& (255 : Int32)).toUInt32.toUInt16.toUInt32.toInt32))])) rfl (by rw [hml]; rfl) (argsL := [(.int ((((p4.toUInt32 >>> ((16 : Int32) &&& 31).toUInt32).toInt32) &&& (255 : Int32)).toUInt32.toUInt16.toUInt32.toInt32))]) (rest := []) (lenOf pd_8 rfl) rfl (by show 2 * 0 + _ ≤ _; exact Nat.le_of_eq rfl) (hb hby at_51) (fun _ _ => ⟨rfl, rfl, (by decide : 3 + 2 ≤ _), (by decide : 8 + 5 ≤ _)⟩)
  dsimp only [Pt.U, Pt.locs, Pt.cells, Pt.slots] at X8 l8 y8 z8 st8 hQ8
  subst l8 y8 z8
  obtain ⟨b8_0, b8_1, kc8_0, rfl, Nq8, Kq8, sq_b8_0, sq_b8_1, nq8_0, fq8_0, fq8_1, fq8_2, fq8_3, fq8_4⟩ := hQ8
  have N8 := Fr.app N7 Nq8
  have g_b8_0 : n0 ≤ b8_0 := Nat.le_trans (own_sz O7) sq_b8_0
  have sz_b8_0 : h0.size ≤ b8_0 := Nat.le_trans K7.1 sq_b8_0
  have g_b8_1 : n0 ≤ b8_1 := Nat.le_trans (own_sz O7) sq_b8_1
  have sz_b8_1 : h0.size ≤ b8_1 := Nat.le_trans K7.1 sq_b8_1
  have O8 := O7.keep Kq8 all0
  have K8 : Keep h0 T8.heap [] := K7.trans Kq8 all0
  obtain ⟨_, _, ⟨T9, L9, k9, n9⟩, -, X9, ⟨Lc9, hQ9, l9, y9, z9⟩, st9⟩ := Jvm.LawKit.callS X8 hx (y := y8) hown (mvT hZ (hw _ (List.mem_of_getElem? (i := 30) rfl))) (mvT hZ (hw _ (List.mem_of_getElem? (i := 31) rfl))) (mvT hZ (hw _ (List.mem_of_getElem? (i := 3) rfl))) (mvT hZ (hw _ (List.mem_of_getElem? (i := 32) rfl))) (by decide) (backOf (W := 0) (rm9 l Z a0 hw [] w_PENDING w_IGNORE cs_v hp ((((p4.toUInt32 >>> ((24 : Int32) &&& 31).toUInt32).toInt32) &&& (255 : Int32)).toUInt32.toUInt16.toUInt32.toInt32) T8.heap n0 O8 (own_ch1 ((p4.toUInt32 >>> ((24 : Int32) &&& 31).toUInt32).toInt32))) hZ (hw _ (List.mem_of_getElem? (i := 32) rfl)) (hw _ (List.mem_of_getElem? (i := 3) rfl)) (by decide) (by decide)) (g := (mkF m 66 #[.val (.long p0), .second, .val (.long p1), .second, .val (.int p2), .val (.int p3), .val (.int p4), .val (.int p5), .val (.ref b1), .val (.ref b6), .val (.ref b8_0), .unset, .unset, .unset, .unset, .unset, .unset] [(.int ((((p4.toUInt32 >>> ((24 : Int32) &&& 31).toUInt32).toInt32) &&& (255 : Int32)).toUInt32.toUInt16.toUInt32.toInt32))])) rfl (by rw [hml]; rfl) (argsL := [(.int ((((p4.toUInt32 >>> ((24 : Int32) &&& 31).toUInt32).toInt32) &&& (255 : Int32)).toUInt32.toUInt16.toUInt32.toInt32))]) (rest := []) (lenOf pd_8 rfl) rfl (by show 2 * 0 + _ ≤ _; exact Nat.le_of_eq rfl) (hb hby at_66) (fun _ _ => ⟨rfl, rfl, (by decide : 5 + 2 ≤ _), (by decide : 13 + 5 ≤ _)⟩)
  dsimp only [Pt.U, Pt.locs, Pt.cells, Pt.slots] at X9 l9 y9 z9 st9 hQ9
  subst l9 y9 z9
  obtain ⟨b9_0, b9_1, kc9_0, rfl, Nq9, Kq9, sq_b9_0, sq_b9_1, nq9_0, fq9_0, fq9_1, fq9_2, fq9_3, fq9_4⟩ := hQ9
  have N9 := Fr.app N8 Nq9
  have g_b9_0 : n0 ≤ b9_0 := Nat.le_trans (own_sz O8) sq_b9_0
  have sz_b9_0 : h0.size ≤ b9_0 := Nat.le_trans K8.1 sq_b9_0
  have g_b9_1 : n0 ≤ b9_1 := Nat.le_trans (own_sz O8) sq_b9_1
  have sz_b9_1 : h0.size ≤ b9_1 := Nat.le_trans K8.1 sq_b9_1
  have O9 := O8.keep Kq9 all0
  have K9 : Keep h0 T9.heap [] := K8.trans Kq9 all0
  obtain ⟨T10, X10, e10, st10⟩ := getS2 X9 hx hZ hown (host := "") (Or.inl (hw _ (List.mem_of_getElem? (i := 94) rfl))) Via.refl rfl (S_w_IGNORE.ext O9.2) (g := (mkF m 84 #[.val (.long p0), .second, .val (.long p1), .second, .val (.int p2), .val (.int p3), .val (.int p4), .val (.int p5), .val (.ref b1), .val (.ref b6), .val (.ref b8_0), .val (.ref b9_0), .unset, .unset, .unset, .unset, .unset] [])) rfl (hb hby at_84)
  obtain ⟨T11, h11, k11, X11, e11, E11, A11, EA11, st11⟩ := newPE X10 hx hZ (hw _ (List.mem_of_getElem? (i := 19) rfl)) e10 (g := (mkF m 90 #[.val (.long p0), .second, .val (.long p1), .second, .val (.int p2), .val (.int p3), .val (.int p4), .val (.int p5), .val (.ref b1), .val (.ref b6), .val (.ref b8_0), .val (.ref b9_0), .val (.ref w_IGNORE), .unset, .unset, .unset, .unset] [(.int (1 : Int32))])) rfl (hb hby at_90) rfl (by decide) (cap := 1) (by decide) (by decide) (by decide) (by decide) (ad := "[B") (by decide)
  obtain ⟨b11, g11⟩ : ∃ z, z = T9.heap.size := ⟨_, rfl⟩
  rw [← g11] at A11 EA11 st11
  have g_b11 : n0 ≤ b11 := Nat.le_trans (own_sz O9) (Nat.le_of_eq g11.symm)
  have sz_b11 : h0.size ≤ b11 := Nat.le_trans K9.1 (Nat.le_of_eq g11.symm)
  have O11 := O9.ext E11
  have K11 : Keep h0 h11 [] := K9.ext E11
  have V_b11 : Arv Z h11 b11 k11 .byte (1 : Int32) [(.int (0 : Int32))] (.int (0 : Int32)) := (Arv.new A11 (by decide)).pad (pad_rep [] (.int (0 : Int32)) 1)
  obtain ⟨cl12, Ar12, q12, S12, Nn12, H12, G12⟩ := id V_b11
  have hin12 : ¬ ((0 : Int32) < 0 ∨ cl12.slots.size ≤ ((0 : Int32)).toNatClampNeg) := inb_of S12 ⟨by decide, by decide⟩
  obtain ⟨T13, h13, X13, e13, W13, st13⟩ := stB X11 hx hZ e11 Ar12 (j := (0 : Int32)) hin12 (g := (mkF m 103 #[.val (.long p0), .second, .val (.long p1), .second, .val (.int p2), .val (.int p3), .val (.int p4), .val (.int p5), .val (.ref b1), .val (.ref b6), .val (.ref b8_0), .val (.ref b9_0), .val (.ref w_IGNORE), .val (.ref b11), .unset, .unset, .unset] [(.int (((p5.toUInt32 >>> ((8 : Int32) &&& 31).toUInt32).toInt32).toInt8.toInt32)), (.int (0 : Int32)), (.ref b11)])) rfl rfl (hb hby at_103)
  have N13 := Fr.snoc X13 N9 g_b11
  have O13 := O11.wr W13 g_b11
  have K13 : Keep h0 h13 [] := K11.wr W13 (Or.inr sz_b11)
  have V_b11_13 : Arv Z h13 b11 k11 .byte (1 : Int32) [(.int (nar .byte (((p5.toUInt32 >>> ((8 : Int32) &&& 31).toUInt32).toInt32).toInt8.toInt32)))] (.int (0 : Int32)) := Arv.set Ar12 q12 S12 Nn12 H12 G12 (fits_nar_byte _) W13 0 rfl (Nat.le_of_ble_eq_true rfl)
  obtain ⟨T14, h14, X14, e14, E14, A14, D14, -, st14⟩ := newO X13 hx hZ hown (hw _ (List.mem_of_getElem? (i := 47) rfl)) (hw _ (List.mem_of_getElem? (i := 48) rfl)) (hw _ (List.mem_of_getElem? (i := 49) rfl)) e13 (g := (mkF m 137 #[.val (.long p0), .second, .val (.long p1), .second, .val (.int p2), .val (.int p3), .val (.int p4), .val (.int p5), .val (.ref b1), .val (.ref b6), .val (.ref b8_0), .val (.ref b9_0), .val (.ref w_IGNORE), .val (.ref b11), .val (.int (1 : Int32)), .val (.int (1 : Int32)), .unset] [])) rfl (hb hby at_137) (by decide) (by decide)
  obtain ⟨b14, g14⟩ : ∃ z, z = h13.size := ⟨_, rfl⟩
  rw [← g14] at A14 D14 st14
  have g_b14 : n0 ≤ b14 := Nat.le_trans (own_sz O13) (Nat.le_of_eq g14.symm)
  have sz_b14 : h0.size ≤ b14 := Nat.le_trans K13.1 (Nat.le_of_eq g14.symm)
  have O14 := O13.ext E14
  have K14 : Keep h0 h14 [] := K13.ext E14
  have F_id_b14 : Fld Z h14 b14 "com/example/graph_job_runner/graphjobrunner/ClaimedNode" "id" "J" (.long (0 : Int64)) := D14 (Or.inr (hw _ (List.mem_of_getElem? (i := 58) rfl))) (ty := .long) (by decide)
  have F_runKey_b14 : Fld Z h14 b14 "com/example/graph_job_runner/graphjobrunner/ClaimedNode" "runKey" "Ljava/lang/String;" .null := D14 (Or.inr (hw _ (List.mem_of_getElem? (i := 60) rfl))) (ty := (.object "java/lang/String")) (by decide)
  have F_streamKey_b14 : Fld Z h14 b14 "com/example/graph_job_runner/graphjobrunner/ClaimedNode" "streamKey" "Ljava/lang/String;" .null := D14 (Or.inr (hw _ (List.mem_of_getElem? (i := 62) rfl))) (ty := (.object "java/lang/String")) (by decide)
  have F_position_b14 : Fld Z h14 b14 "com/example/graph_job_runner/graphjobrunner/ClaimedNode" "position" "J" (.long (0 : Int64)) := D14 (Or.inr (hw _ (List.mem_of_getElem? (i := 64) rfl))) (ty := .long) (by decide)
  have F_nodeKey_b14 : Fld Z h14 b14 "com/example/graph_job_runner/graphjobrunner/ClaimedNode" "nodeKey" "Ljava/lang/String;" .null := D14 (Or.inr (hw _ (List.mem_of_getElem? (i := 66) rfl))) (ty := (.object "java/lang/String")) (by decide)
  have F_processor_b14 : Fld Z h14 b14 "com/example/graph_job_runner/graphjobrunner/ClaimedNode" "processor" "Ljava/lang/String;" .null := D14 (Or.inr (hw _ (List.mem_of_getElem? (i := 68) rfl))) (ty := (.object "java/lang/String")) (by decide)
  have F_payload_b14 : Fld Z h14 b14 "com/example/graph_job_runner/graphjobrunner/ClaimedNode" "payload" "[B" .null := D14 (Or.inr (hw _ (List.mem_of_getElem? (i := 70) rfl))) (ty := (.array .byte)) (by decide)
  have F_attempt_b14 : Fld Z h14 b14 "com/example/graph_job_runner/graphjobrunner/ClaimedNode" "attempt" "I" (.int (0 : Int32)) := D14 (Or.inr (hw _ (List.mem_of_getElem? (i := 72) rfl))) (ty := .int) (by decide)
  have F_retryLimit_b14 : Fld Z h14 b14 "com/example/graph_job_runner/graphjobrunner/ClaimedNode" "retryLimit" "I" (.int (0 : Int32)) := D14 (Or.inr (hw _ (List.mem_of_getElem? (i := 74) rfl))) (ty := .int) (by decide)
  have F_failStrategy_b14 : Fld Z h14 b14 "com/example/graph_job_runner/graphjobrunner/ClaimedNode" "failStrategy" "Lcom/example/graph_job_runner/graphjobrunner/FailStrategy;" .null := D14 (Or.inr (hw _ (List.mem_of_getElem? (i := 76) rfl))) (ty := (.object "com/example/graph_job_runner/graphjobrunner/FailStrategy")) (by decide)
  have F_hasChildren_b14 : Fld Z h14 b14 "com/example/graph_job_runner/graphjobrunner/ClaimedNode" "hasChildren" "Z" (.int (0 : Int32)) := D14 (Or.inr (hw _ (List.mem_of_getElem? (i := 78) rfl))) (ty := .boolean) (by decide)
  obtain ⟨_, _, ⟨T15, L15, k15, n15⟩, -, X15, ⟨Lc15, hQ15, l15, y15, z15⟩, st15⟩ := X14.specialBack hx (y := y14) rfl hown (mvT hZ (hw _ (List.mem_of_getElem? (i := 96) rfl))) (mvT hZ (hw _ (List.mem_of_getElem? (i := 97) rfl))) (mvT hZ (hw _ (List.mem_of_getElem? (i := 98) rfl))) (by decide) (backOf (W := 1) (rm30 l Z a0 hw [] w_PENDING w_IGNORE cs_v hp b14 p0 b6 p1 b8_0 b9_0 b11 p2 p3 h14 n0 O14 A14 F_id_b14 F_runKey_b14 F_streamKey_b14 F_position_b14 F_nodeKey_b14 F_processor_b14 F_payload_b14 F_attempt_b14 F_retryLimit_b14 F_failStrategy_b14 F_hasChildren_b14 g_b14) hZ (hw _ (List.mem_of_getElem? (i := 98) rfl)) (hw _ (List.mem_of_getElem? (i := 49) rfl)) (by decide) (by decide)) (g := (mkF m 157 #[.val (.long p0), .second, .val (.long p1), .second, .val (.int p2), .val (.int p3), .val (.int p4), .val (.int p5), .val (.ref b1), .val (.ref b6), .val (.ref b8_0), .val (.ref b9_0), .val (.ref w_IGNORE), .val (.ref b11), .val (.int (1 : Int32)), .val (.int (1 : Int32)), .unset] [(.ref w_IGNORE), (.int p3), (.int p2), (.ref b11), (.ref b9_0), (.ref b8_0), (.long p1), (.ref b6), (.long p0), (.ref b14), (.ref b14)])) rfl (by rw [hml]; rfl) (Steps.refl _) (a := b14) (argsL := [(.long p0), (.ref b6), (.long p1), (.ref b8_0), (.ref b9_0), (.ref b11), (.int p2), (.int p3), (.ref w_IGNORE)]) (rest := [(.ref b14)]) (lenOf pd_13 rfl) rfl (by show 2 * 0 + _ ≤ _; exact Nat.le_of_eq rfl) (hb hby at_157) (fun _ _ => ⟨rfl, e14, (by decide : 9 + 0 ≤ _), (by decide : 30 + 0 ≤ _)⟩)
  dsimp only [Pt.U, Pt.locs, Pt.cells, Pt.slots] at X15 l15 y15 z15 st15 hQ15
  subst l15 y15 z15
  obtain ⟨rfl, Nq15, Kq15, fq15_0, fq15_1, fq15_2, fq15_3, fq15_4, fq15_5, fq15_6, fq15_7, fq15_8, fq15_9, fq15_10, fq15_11⟩ := hQ15
  have N15 := Fr.app N13 Nq15
  have O15 := O14.keep Kq15 (allS g_b14 all0)
  have K15 : Keep h0 T15.heap [] := K14.trans Kq15 (allS (Or.inr sz_b14) all0)
  obtain ⟨cq16, kq16, q16a, q16b, q16c⟩ := isOf hZ rfl fq15_0
  obtain ⟨_, _, ⟨T16, L16, k16, n16⟩, -, X16, ⟨Lc16, hQ16, l16, y16, z16⟩, st16⟩ := X15.virtualBack hx (y := y11) (z := y11) hown (mvT hZ (hw _ (List.mem_of_getElem? (i := 79) rfl))) (mvT hZ (hw _ (List.mem_of_getElem? (i := 80) rfl))) (notFace_of_selects (args := #[]) (mvT hZ (hw _ (List.mem_of_getElem? (i := 82) rfl)))) (mvT hZ (hw _ (List.mem_of_getElem? (i := 82) rfl))) (mvT hZ (hw _ (List.mem_of_getElem? (i := 81) rfl))) (by decide) (backOf (W := 0) (rm21 l Z a0 hw [] w_PENDING w_IGNORE cs_v hp b14 b6 T15.heap n0 O15 fq15_11) hZ (hw _ (List.mem_of_getElem? (i := 83) rfl)) (hw _ (List.mem_of_getElem? (i := 49) rfl)) (by decide) (by decide)) q16a q16c (g := (mkF m 164 #[.val (.long p0), .second, .val (.long p1), .second, .val (.int p2), .val (.int p3), .val (.int p4), .val (.int p5), .val (.ref b1), .val (.ref b6), .val (.ref b8_0), .val (.ref b9_0), .val (.ref w_IGNORE), .val (.ref b11), .val (.int (1 : Int32)), .val (.int (1 : Int32)), .val (.ref b14)] [(.ref b14)])) rfl (by rw [hml]; rfl) (Steps.refl _) (argsL := []) (rest := []) (lenOf pd_11 rfl) rfl (by show 2 * 0 + _ ≤ _; exact Nat.le_of_eq rfl) (hb hby at_164) (fun _ _ => ⟨rfl, rfl, (by decide : 9 + 0 ≤ _), (by decide : 30 + 0 ≤ _)⟩)
  dsimp only [Pt.U, Pt.locs, Pt.cells, Pt.slots] at X16 l16 y16 z16 st16 hQ16
  subst l16 y16 z16
  obtain ⟨rfl, Nq16, eq16⟩ := hQ16
  have N16 := Fr.app N15 Nq16
  obtain ⟨cq17, kq17, q17a, q17b, q17c⟩ := isOf hZ eq16 fq15_0
  obtain ⟨_, _, ⟨T17, L17, k17, n17⟩, -, X17, ⟨Lc17, hQ17, l17, y17, z17⟩, st17⟩ := X16.virtualBack hx (y := y13) (z := y13) hown (mvT hZ (hw _ (List.mem_of_getElem? (i := 89) rfl))) (mvT hZ (hw _ (List.mem_of_getElem? (i := 90) rfl))) (notFace_of_selects (args := #[]) (mvT hZ (hw _ (List.mem_of_getElem? (i := 92) rfl)))) (mvT hZ (hw _ (List.mem_of_getElem? (i := 92) rfl))) (mvT hZ (hw _ (List.mem_of_getElem? (i := 91) rfl))) (by decide) (backOf (W := 0) (rm22 l Z a0 hw [] w_PENDING w_IGNORE cs_v hp b14 b6 T15.heap n0 O15 fq15_11) hZ (hw _ (List.mem_of_getElem? (i := 93) rfl)) (hw _ (List.mem_of_getElem? (i := 49) rfl)) (by decide) (by decide)) q17a q17c (g := (mkF m 172 #[.val (.long p0), .second, .val (.long p1), .second, .val (.int p2), .val (.int p3), .val (.int p4), .val (.int p5), .val (.ref b1), .val (.ref b6), .val (.ref b8_0), .val (.ref b9_0), .val (.ref w_IGNORE), .val (.ref b11), .val (.int (1 : Int32)), .val (.int (1 : Int32)), .val (.ref b14)] [(.ref b14)])) rfl (by rw [hml]; rfl) (Steps.refl _) (argsL := []) (rest := []) (lenOf pd_12 rfl) rfl (by show 2 * 0 + _ ≤ _; exact Nat.le_of_eq rfl) (hb hby at_172) (fun _ _ => ⟨rfl, eq16, (by decide : 9 + 0 ≤ _), (by decide : 30 + 0 ≤ _)⟩)
  dsimp only [Pt.U, Pt.locs, Pt.cells, Pt.slots] at X17 l17 y17 z17 st17 hQ17
  subst l17 y17 z17
  obtain ⟨rfl, Nq17, eq17⟩ := hQ17
  have N17 := Fr.app N16 Nq17
  obtain ⟨cq18, kq18, q18a, q18b, q18c⟩ := isOf hZ eq17 fq15_0
  obtain ⟨_, _, ⟨T18, L18, k18, n18⟩, -, X18, ⟨Lc18, hQ18, l18, y18, z18⟩, st18⟩ := X17.virtualBack hx (y := y12) (z := y12) hown (mvT hZ (hw _ (List.mem_of_getElem? (i := 84) rfl))) (mvT hZ (hw _ (List.mem_of_getElem? (i := 85) rfl))) (notFace_of_selects (args := #[]) (mvT hZ (hw _ (List.mem_of_getElem? (i := 87) rfl)))) (mvT hZ (hw _ (List.mem_of_getElem? (i := 87) rfl))) (mvT hZ (hw _ (List.mem_of_getElem? (i := 86) rfl))) (by decide) (backOf (W := 0) (rm23 l Z a0 hw [] w_PENDING w_IGNORE cs_v hp b14 T15.heap n0 O15 fq15_10) hZ (hw _ (List.mem_of_getElem? (i := 88) rfl)) (hw _ (List.mem_of_getElem? (i := 49) rfl)) (by decide) (by decide)) q18a q18c (g := (mkF m 182 #[.val (.long p0), .second, .val (.long p1), .second, .val (.int p2), .val (.int p3), .val (.int p4), .val (.int p5), .val (.ref b1), .val (.ref b6), .val (.ref b8_0), .val (.ref b9_0), .val (.ref w_IGNORE), .val (.ref b11), .val (.int (1 : Int32)), .val (.int (1 : Int32)), .val (.ref b14)] [(.ref b14)])) rfl (by rw [hml]; rfl) (Steps.refl _) (argsL := []) (rest := []) (lenOf pd_12 rfl) rfl (by show 2 * 0 + _ ≤ _; exact Nat.le_of_eq rfl) (hb hby at_182) (fun _ _ => ⟨rfl, eq17, (by decide : 9 + 0 ≤ _), (by decide : 30 + 0 ≤ _)⟩)
  dsimp only [Pt.U, Pt.locs, Pt.cells, Pt.slots] at X18 l18 y18 z18 st18 hQ18
  subst l18 y18 z18
  obtain ⟨rfl, Nq18, eq18⟩ := hQ18
  have N18 := Fr.app N17 Nq18
  obtain ⟨fs, hr, hrun, hended, hW, hsame⟩ := X18.leave (v := some (.int (1 : Int32))) (fun h => by rw [Bd.returns] at h; cases h)
  refine ⟨_, _, pre0 _ ?_, hrun, hended, _, _, rfl, ?_, ⟨_, rfl⟩, hW, hsame.mono (by decide) (by decide)⟩
  · show Sp p e below s₁ (mkF m 0 #[.val (.long p0), .second, .val (.long p1), .second, .val (.int p2), .val (.int p3), .val (.int p4), .val (.int p5), .unset, .unset, .unset, .unset, .unset, .unset, .unset, .unset, .unset] []) _
    refine XS.iconst X0.here hx rfl (hb hby at_0) ?_
    show Sp p e below s₁ (mkF m 1 #[.val (.long p0), .second, .val (.long p1), .second, .val (.int p2), .val (.int p3), .val (.int p4), .val (.int p5), .unset, .unset, .unset, .unset, .unset, .unset, .unset, .unset, .unset] [(.int (2 : Int32))]) _
    refine st1 _ ?_
    show Sp p e below T1 (mkF m 3 #[.val (.long p0), .second, .val (.long p1), .second, .val (.int p2), .val (.int p3), .val (.int p4), .val (.int p5), .unset, .unset, .unset, .unset, .unset, .unset, .unset, .unset, .unset] [(.ref b1)]) _
    refine XS.astore X1.here hx rfl (hb hby at_3) rfl rfl (l' := #[.val (.long p0), .second, .val (.long p1), .second, .val (.int p2), .val (.int p3), .val (.int p4), .val (.int p5), .val (.ref b1), .unset, .unset, .unset, .unset, .unset, .unset, .unset, .unset]) rfl ?_
    refine XS.aload X1.here hx rfl (hb hby at_5) rfl rfl ?_
    refine XS.iconst X1.here hx rfl (hb hby at_7) ?_
    refine XS.iload X1.here hx rfl (hb hby at_8) rfl ?_
    refine XS.sipush X1.here hx rfl (hb hby at_10) ?_
    show Sp p e below T1 (mkF m 13 #[.val (.long p0), .second, .val (.long p1), .second, .val (.int p2), .val (.int p3), .val (.int p4), .val (.int p5), .val (.ref b1), .unset, .unset, .unset, .unset, .unset, .unset, .unset, .unset] [(.int (255 : Int32)), (.int p4), (.int (0 : Int32)), (.ref b1)]) _
    refine XS.iand X1.here hx rfl (hb hby at_13) rfl ?_
    show Sp p e below T1 (mkF m 14 #[.val (.long p0), .second, .val (.long p1), .second, .val (.int p2), .val (.int p3), .val (.int p4), .val (.int p5), .val (.ref b1), .unset, .unset, .unset, .unset, .unset, .unset, .unset, .unset] [(.int (p4 &&& (255 : Int32))), (.int (0 : Int32)), (.ref b1)]) _
    refine XS.i2c X1.here hx rfl (hb hby at_14) rfl ?_
    show Sp p e below T1 (mkF m 15 #[.val (.long p0), .second, .val (.long p1), .second, .val (.int p2), .val (.int p3), .val (.int p4), .val (.int p5), .val (.ref b1), .unset, .unset, .unset, .unset, .unset, .unset, .unset, .unset] [(.int ((p4 &&& (255 : Int32)).toUInt32.toUInt16.toUInt32.toInt32)), (.int (0 : Int32)), (.ref b1)]) _
    refine st3 _ ?_
    show Sp p e below T3 (mkF m 16 #[.val (.long p0), .second, .val (.long p1), .second, .val (.int p2), .val (.int p3), .val (.int p4), .val (.int p5), .val (.ref b1), .unset, .unset, .unset, .unset, .unset, .unset, .unset, .unset] []) _
    refine XS.aload X3.here hx rfl (hb hby at_16) rfl rfl ?_
    refine XS.iconst X3.here hx rfl (hb hby at_18) ?_
    refine XS.iload X3.here hx rfl (hb hby at_19) rfl ?_
    refine XS.bipush X3.here hx rfl (hb hby at_21) ?_
    show Sp p e below T3 (mkF m 23 #[.val (.long p0), .second, .val (.long p1), .second, .val (.int p2), .val (.int p3), .val (.int p4), .val (.int p5), .val (.ref b1), .unset, .unset, .unset, .unset, .unset, .unset, .unset, .unset] [(.int (8 : Int32)), (.int p4), (.int (1 : Int32)), (.ref b1)]) _
    refine XS.iushr X3.here hx rfl (hb hby at_23) rfl ?_
    refine XS.sipush X3.here hx rfl (hb hby at_24) ?_
    show Sp p e below T3 (mkF m 27 #[.val (.long p0), .second, .val (.long p1), .second, .val (.int p2), .val (.int p3), .val (.int p4), .val (.int p5), .val (.ref b1), .unset, .unset, .unset, .unset, .unset, .unset, .unset, .unset] [(.int (255 : Int32)), (.int ((p4.toUInt32 >>> ((8 : Int32) &&& 31).toUInt32).toInt32)), (.int (1 : Int32)), (.ref b1)]) _
    refine XS.iand X3.here hx rfl (hb hby at_27) rfl ?_
    show Sp p e below T3 (mkF m 28 #[.val (.long p0), .second, .val (.long p1), .second, .val (.int p2), .val (.int p3), .val (.int p4), .val (.int p5), .val (.ref b1), .unset, .unset, .unset, .unset, .unset, .unset, .unset, .unset] [(.int (((p4.toUInt32 >>> ((8 : Int32) &&& 31).toUInt32).toInt32) &&& (255 : Int32))), (.int (1 : Int32)), (.ref b1)]) _
    refine XS.i2c X3.here hx rfl (hb hby at_28) rfl ?_
    show Sp p e below T3 (mkF m 29 #[.val (.long p0), .second, .val (.long p1), .second, .val (.int p2), .val (.int p3), .val (.int p4), .val (.int p5), .val (.ref b1), .unset, .unset, .unset, .unset, .unset, .unset, .unset, .unset] [(.int ((((p4.toUInt32 >>> ((8 : Int32) &&& 31).toUInt32).toInt32) &&& (255 : Int32)).toUInt32.toUInt16.toUInt32.toInt32)), (.int (1 : Int32)), (.ref b1)]) _
    refine st5 _ ?_
    show Sp p e below T5 (mkF m 30 #[.val (.long p0), .second, .val (.long p1), .second, .val (.int p2), .val (.int p3), .val (.int p4), .val (.int p5), .val (.ref b1), .unset, .unset, .unset, .unset, .unset, .unset, .unset, .unset] []) _
    refine st6 _ ?_
    show Sp p e below T6 (mkF m 33 #[.val (.long p0), .second, .val (.long p1), .second, .val (.int p2), .val (.int p3), .val (.int p4), .val (.int p5), .val (.ref b1), .unset, .unset, .unset, .unset, .unset, .unset, .unset, .unset] [(.ref b6)]) _
    refine XS.dup X6.here hx rfl (hb hby at_33) rfl rfl ?_
    refine XS.aload X6.here hx rfl (hb hby at_34) rfl rfl ?_
    show Sp p e below T6 (mkF m 36 #[.val (.long p0), .second, .val (.long p1), .second, .val (.int p2), .val (.int p3), .val (.int p4), .val (.int p5), .val (.ref b1), .unset, .unset, .unset, .unset, .unset, .unset, .unset, .unset] [(.ref b1), (.ref b6), (.ref b6)]) _
    refine st7.trans ?_
    show Sp p e below T7 (mkF m 39 #[.val (.long p0), .second, .val (.long p1), .second, .val (.int p2), .val (.int p3), .val (.int p4), .val (.int p5), .val (.ref b1), .unset, .unset, .unset, .unset, .unset, .unset, .unset, .unset] [(.ref b6)]) _
    refine XS.astore X7.here hx rfl (hb hby at_39) rfl rfl (l' := #[.val (.long p0), .second, .val (.long p1), .second, .val (.int p2), .val (.int p3), .val (.int p4), .val (.int p5), .val (.ref b1), .val (.ref b6), .unset, .unset, .unset, .unset, .unset, .unset, .unset]) rfl ?_
    refine XS.iload X7.here hx rfl (hb hby at_41) rfl ?_
    refine XS.bipush X7.here hx rfl (hb hby at_43) ?_
    show Sp p e below T7 (mkF m 45 #[.val (.long p0), .second, .val (.long p1), .second, .val (.int p2), .val (.int p3), .val (.int p4), .val (.int p5), .val (.ref b1), .val (.ref b6), .unset, .unset, .unset, .unset, .unset, .unset, .unset] [(.int (16 : Int32)), (.int p4)]) _
    refine XS.iushr X7.here hx rfl (hb hby at_45) rfl ?_
    refine XS.sipush X7.here hx rfl (hb hby at_46) ?_
    show Sp p e below T7 (mkF m 49 #[.val (.long p0), .second, .val (.long p1), .second, .val (.int p2), .val (.int p3), .val (.int p4), .val (.int p5), .val (.ref b1), .val (.ref b6), .unset, .unset, .unset, .unset, .unset, .unset, .unset] [(.int (255 : Int32)), (.int ((p4.toUInt32 >>> ((16 : Int32) &&& 31).toUInt32).toInt32))]) _
    refine XS.iand X7.here hx rfl (hb hby at_49) rfl ?_
    show Sp p e below T7 (mkF m 50 #[.val (.long p0), .second, .val (.long p1), .second, .val (.int p2), .val (.int p3), .val (.int p4), .val (.int p5), .val (.ref b1), .val (.ref b6), .unset, .unset, .unset, .unset, .unset, .unset, .unset] [(.int (((p4.toUInt32 >>> ((16 : Int32) &&& 31).toUInt32).toInt32) &&& (255 : Int32)))]) _
    refine XS.i2c X7.here hx rfl (hb hby at_50) rfl ?_
    show Sp p e below T7 (mkF m 51 #[.val (.long p0), .second, .val (.long p1), .second, .val (.int p2), .val (.int p3), .val (.int p4), .val (.int p5), .val (.ref b1), .val (.ref b6), .unset, .unset, .unset, .unset, .unset, .unset, .unset] [(.int ((((p4.toUInt32 >>> ((16 : Int32) &&& 31).toUInt32).toInt32) &&& (255 : Int32)).toUInt32.toUInt16.toUInt32.toInt32))]) _
    refine st8 _ ?_
    show Sp p e below T8 (mkF m 54 #[.val (.long p0), .second, .val (.long p1), .second, .val (.int p2), .val (.int p3), .val (.int p4), .val (.int p5), .val (.ref b1), .val (.ref b6), .unset, .unset, .unset, .unset, .unset, .unset, .unset] [(.ref b8_0)]) _
    refine XS.astore X8.here hx rfl (hb hby at_54) rfl rfl (l' := #[.val (.long p0), .second, .val (.long p1), .second, .val (.int p2), .val (.int p3), .val (.int p4), .val (.int p5), .val (.ref b1), .val (.ref b6), .val (.ref b8_0), .unset, .unset, .unset, .unset, .unset, .unset]) rfl ?_
    refine XS.iload X8.here hx rfl (hb hby at_56) rfl ?_
    refine XS.bipush X8.here hx rfl (hb hby at_58) ?_
    show Sp p e below T8 (mkF m 60 #[.val (.long p0), .second, .val (.long p1), .second, .val (.int p2), .val (.int p3), .val (.int p4), .val (.int p5), .val (.ref b1), .val (.ref b6), .val (.ref b8_0), .unset, .unset, .unset, .unset, .unset, .unset] [(.int (24 : Int32)), (.int p4)]) _
    refine XS.iushr X8.here hx rfl (hb hby at_60) rfl ?_
    refine XS.sipush X8.here hx rfl (hb hby at_61) ?_
    show Sp p e below T8 (mkF m 64 #[.val (.long p0), .second, .val (.long p1), .second, .val (.int p2), .val (.int p3), .val (.int p4), .val (.int p5), .val (.ref b1), .val (.ref b6), .val (.ref b8_0), .unset, .unset, .unset, .unset, .unset, .unset] [(.int (255 : Int32)), (.int ((p4.toUInt32 >>> ((24 : Int32) &&& 31).toUInt32).toInt32))]) _
    refine XS.iand X8.here hx rfl (hb hby at_64) rfl ?_
    show Sp p e below T8 (mkF m 65 #[.val (.long p0), .second, .val (.long p1), .second, .val (.int p2), .val (.int p3), .val (.int p4), .val (.int p5), .val (.ref b1), .val (.ref b6), .val (.ref b8_0), .unset, .unset, .unset, .unset, .unset, .unset] [(.int (((p4.toUInt32 >>> ((24 : Int32) &&& 31).toUInt32).toInt32) &&& (255 : Int32)))]) _
    refine XS.i2c X8.here hx rfl (hb hby at_65) rfl ?_
    show Sp p e below T8 (mkF m 66 #[.val (.long p0), .second, .val (.long p1), .second, .val (.int p2), .val (.int p3), .val (.int p4), .val (.int p5), .val (.ref b1), .val (.ref b6), .val (.ref b8_0), .unset, .unset, .unset, .unset, .unset, .unset] [(.int ((((p4.toUInt32 >>> ((24 : Int32) &&& 31).toUInt32).toInt32) &&& (255 : Int32)).toUInt32.toUInt16.toUInt32.toInt32))]) _
    refine st9 _ ?_
    show Sp p e below T9 (mkF m 69 #[.val (.long p0), .second, .val (.long p1), .second, .val (.int p2), .val (.int p3), .val (.int p4), .val (.int p5), .val (.ref b1), .val (.ref b6), .val (.ref b8_0), .unset, .unset, .unset, .unset, .unset, .unset] [(.ref b9_0)]) _
    refine XS.astore X9.here hx rfl (hb hby at_69) rfl rfl (l' := #[.val (.long p0), .second, .val (.long p1), .second, .val (.int p2), .val (.int p3), .val (.int p4), .val (.int p5), .val (.ref b1), .val (.ref b6), .val (.ref b8_0), .val (.ref b9_0), .unset, .unset, .unset, .unset, .unset]) rfl ?_
    refine XS.iload X9.here hx rfl (hb hby at_71) rfl ?_
    refine XS.iconst X9.here hx rfl (hb hby at_73) ?_
    show Sp p e below T9 (mkF m 74 #[.val (.long p0), .second, .val (.long p1), .second, .val (.int p2), .val (.int p3), .val (.int p4), .val (.int p5), .val (.ref b1), .val (.ref b6), .val (.ref b8_0), .val (.ref b9_0), .unset, .unset, .unset, .unset, .unset] [(.int (2 : Int32)), (.int p5)]) _
    refine XS.iand X9.here hx rfl (hb hby at_74) rfl ?_
    show Sp p e below T9 (mkF m 75 #[.val (.long p0), .second, .val (.long p1), .second, .val (.int p2), .val (.int p3), .val (.int p4), .val (.int p5), .val (.ref b1), .val (.ref b6), .val (.ref b8_0), .val (.ref b9_0), .unset, .unset, .unset, .unset, .unset] [(.int (p5 &&& (2 : Int32)))]) _
    refine XS.ifYes X9.here hx rfl (pc0 := 75) (pc' := 84) rfl (hb hby at_75) rfl ((if0 _ _).trans (teq hc1).1) (by decide) (by decide) ?_
    show Sp p e below T9 (mkF m 84 #[.val (.long p0), .second, .val (.long p1), .second, .val (.int p2), .val (.int p3), .val (.int p4), .val (.int p5), .val (.ref b1), .val (.ref b6), .val (.ref b8_0), .val (.ref b9_0), .unset, .unset, .unset, .unset, .unset] []) _
    refine st10 _ ?_
    show Sp p e below T10 (mkF m 87 #[.val (.long p0), .second, .val (.long p1), .second, .val (.int p2), .val (.int p3), .val (.int p4), .val (.int p5), .val (.ref b1), .val (.ref b6), .val (.ref b8_0), .val (.ref b9_0), .unset, .unset, .unset, .unset, .unset] [(.ref w_IGNORE)]) _
    refine XS.astore X10.here hx rfl (hb hby at_87) rfl rfl (l' := #[.val (.long p0), .second, .val (.long p1), .second, .val (.int p2), .val (.int p3), .val (.int p4), .val (.int p5), .val (.ref b1), .val (.ref b6), .val (.ref b8_0), .val (.ref b9_0), .val (.ref w_IGNORE), .unset, .unset, .unset, .unset]) rfl ?_
    refine XS.iconst X10.here hx rfl (hb hby at_89) ?_
    show Sp p e below T10 (mkF m 90 #[.val (.long p0), .second, .val (.long p1), .second, .val (.int p2), .val (.int p3), .val (.int p4), .val (.int p5), .val (.ref b1), .val (.ref b6), .val (.ref b8_0), .val (.ref b9_0), .val (.ref w_IGNORE), .unset, .unset, .unset, .unset] [(.int (1 : Int32))]) _
    refine st11 _ ?_
    show Sp p e below T11 (mkF m 92 #[.val (.long p0), .second, .val (.long p1), .second, .val (.int p2), .val (.int p3), .val (.int p4), .val (.int p5), .val (.ref b1), .val (.ref b6), .val (.ref b8_0), .val (.ref b9_0), .val (.ref w_IGNORE), .unset, .unset, .unset, .unset] [(.ref b11)]) _
    refine XS.astore X11.here hx rfl (hb hby at_92) rfl rfl (l' := #[.val (.long p0), .second, .val (.long p1), .second, .val (.int p2), .val (.int p3), .val (.int p4), .val (.int p5), .val (.ref b1), .val (.ref b6), .val (.ref b8_0), .val (.ref b9_0), .val (.ref w_IGNORE), .val (.ref b11), .unset, .unset, .unset]) rfl ?_
    refine XS.aload X11.here hx rfl (hb hby at_94) rfl rfl ?_
    refine XS.iconst X11.here hx rfl (hb hby at_96) ?_
    refine XS.iload X11.here hx rfl (hb hby at_97) rfl ?_
    refine XS.bipush X11.here hx rfl (hb hby at_99) ?_
    show Sp p e below T11 (mkF m 101 #[.val (.long p0), .second, .val (.long p1), .second, .val (.int p2), .val (.int p3), .val (.int p4), .val (.int p5), .val (.ref b1), .val (.ref b6), .val (.ref b8_0), .val (.ref b9_0), .val (.ref w_IGNORE), .val (.ref b11), .unset, .unset, .unset] [(.int (8 : Int32)), (.int p5), (.int (0 : Int32)), (.ref b11)]) _
    refine XS.iushr X11.here hx rfl (hb hby at_101) rfl ?_
    show Sp p e below T11 (mkF m 102 #[.val (.long p0), .second, .val (.long p1), .second, .val (.int p2), .val (.int p3), .val (.int p4), .val (.int p5), .val (.ref b1), .val (.ref b6), .val (.ref b8_0), .val (.ref b9_0), .val (.ref w_IGNORE), .val (.ref b11), .unset, .unset, .unset] [(.int ((p5.toUInt32 >>> ((8 : Int32) &&& 31).toUInt32).toInt32)), (.int (0 : Int32)), (.ref b11)]) _
    refine XS.i2b X11.here hx rfl (hb hby at_102) rfl ?_
    show Sp p e below T11 (mkF m 103 #[.val (.long p0), .second, .val (.long p1), .second, .val (.int p2), .val (.int p3), .val (.int p4), .val (.int p5), .val (.ref b1), .val (.ref b6), .val (.ref b8_0), .val (.ref b9_0), .val (.ref w_IGNORE), .val (.ref b11), .unset, .unset, .unset] [(.int (((p5.toUInt32 >>> ((8 : Int32) &&& 31).toUInt32).toInt32).toInt8.toInt32)), (.int (0 : Int32)), (.ref b11)]) _
    refine st13 _ ?_
    show Sp p e below T13 (mkF m 104 #[.val (.long p0), .second, .val (.long p1), .second, .val (.int p2), .val (.int p3), .val (.int p4), .val (.int p5), .val (.ref b1), .val (.ref b6), .val (.ref b8_0), .val (.ref b9_0), .val (.ref w_IGNORE), .val (.ref b11), .unset, .unset, .unset] []) _
    refine XS.iload X13.here hx rfl (hb hby at_104) rfl ?_
    refine XS.iconst X13.here hx rfl (hb hby at_106) ?_
    show Sp p e below T13 (mkF m 107 #[.val (.long p0), .second, .val (.long p1), .second, .val (.int p2), .val (.int p3), .val (.int p4), .val (.int p5), .val (.ref b1), .val (.ref b6), .val (.ref b8_0), .val (.ref b9_0), .val (.ref w_IGNORE), .val (.ref b11), .unset, .unset, .unset] [(.int (1 : Int32)), (.int p5)]) _
    refine XS.iand X13.here hx rfl (hb hby at_107) rfl ?_
    show Sp p e below T13 (mkF m 108 #[.val (.long p0), .second, .val (.long p1), .second, .val (.int p2), .val (.int p3), .val (.int p4), .val (.int p5), .val (.ref b1), .val (.ref b6), .val (.ref b8_0), .val (.ref b9_0), .val (.ref w_IGNORE), .val (.ref b11), .unset, .unset, .unset] [(.int (p5 &&& (1 : Int32)))]) _
    refine XS.ifNo X13.here hx rfl (hb hby at_108) rfl ((if0 _ _).trans (feq hc2).1) ?_
    refine XS.iconst X13.here hx rfl (hb hby at_111) ?_
    show Sp p e below T13 (mkF m 112 #[.val (.long p0), .second, .val (.long p1), .second, .val (.int p2), .val (.int p3), .val (.int p4), .val (.int p5), .val (.ref b1), .val (.ref b6), .val (.ref b8_0), .val (.ref b9_0), .val (.ref w_IGNORE), .val (.ref b11), .unset, .unset, .unset] [(.int (1 : Int32))]) _
    refine XS.goto X13.here hx rfl (pc0 := 112) (pc' := 116) rfl (hb hby at_112) (by decide) (by decide) ?_
    show Sp p e below T13 (mkF m 116 #[.val (.long p0), .second, .val (.long p1), .second, .val (.int p2), .val (.int p3), .val (.int p4), .val (.int p5), .val (.ref b1), .val (.ref b6), .val (.ref b8_0), .val (.ref b9_0), .val (.ref w_IGNORE), .val (.ref b11), .unset, .unset, .unset] [(.int (1 : Int32))]) _
    refine XS.istore X13.here hx rfl (hb hby at_116) rfl (l' := #[.val (.long p0), .second, .val (.long p1), .second, .val (.int p2), .val (.int p3), .val (.int p4), .val (.int p5), .val (.ref b1), .val (.ref b6), .val (.ref b8_0), .val (.ref b9_0), .val (.ref w_IGNORE), .val (.ref b11), .val (.int (1 : Int32)), .unset, .unset]) rfl ?_
    refine XS.iload X13.here hx rfl (hb hby at_118) rfl ?_
    refine XS.iconst X13.here hx rfl (hb hby at_120) ?_
    show Sp p e below T13 (mkF m 121 #[.val (.long p0), .second, .val (.long p1), .second, .val (.int p2), .val (.int p3), .val (.int p4), .val (.int p5), .val (.ref b1), .val (.ref b6), .val (.ref b8_0), .val (.ref b9_0), .val (.ref w_IGNORE), .val (.ref b11), .val (.int (1 : Int32)), .unset, .unset] [(.int (4 : Int32)), (.int p5)]) _
    refine XS.iand X13.here hx rfl (hb hby at_121) rfl ?_
    show Sp p e below T13 (mkF m 122 #[.val (.long p0), .second, .val (.long p1), .second, .val (.int p2), .val (.int p3), .val (.int p4), .val (.int p5), .val (.ref b1), .val (.ref b6), .val (.ref b8_0), .val (.ref b9_0), .val (.ref w_IGNORE), .val (.ref b11), .val (.int (1 : Int32)), .unset, .unset] [(.int (p5 &&& (4 : Int32)))]) _
    refine XS.ifNo X13.here hx rfl (hb hby at_122) rfl ((if0 _ _).trans (feq hc3).1) ?_
    refine XS.iconst X13.here hx rfl (hb hby at_125) ?_
    show Sp p e below T13 (mkF m 126 #[.val (.long p0), .second, .val (.long p1), .second, .val (.int p2), .val (.int p3), .val (.int p4), .val (.int p5), .val (.ref b1), .val (.ref b6), .val (.ref b8_0), .val (.ref b9_0), .val (.ref w_IGNORE), .val (.ref b11), .val (.int (1 : Int32)), .unset, .unset] [(.int (1 : Int32))]) _
    refine XS.goto X13.here hx rfl (pc0 := 126) (pc' := 130) rfl (hb hby at_126) (by decide) (by decide) ?_
    show Sp p e below T13 (mkF m 130 #[.val (.long p0), .second, .val (.long p1), .second, .val (.int p2), .val (.int p3), .val (.int p4), .val (.int p5), .val (.ref b1), .val (.ref b6), .val (.ref b8_0), .val (.ref b9_0), .val (.ref w_IGNORE), .val (.ref b11), .val (.int (1 : Int32)), .unset, .unset] [(.int (1 : Int32))]) _
    refine XS.istore X13.here hx rfl (hb hby at_130) rfl (l' := #[.val (.long p0), .second, .val (.long p1), .second, .val (.int p2), .val (.int p3), .val (.int p4), .val (.int p5), .val (.ref b1), .val (.ref b6), .val (.ref b8_0), .val (.ref b9_0), .val (.ref w_IGNORE), .val (.ref b11), .val (.int (1 : Int32)), .val (.int (1 : Int32)), .unset]) rfl ?_
    refine XS.iload X13.here hx rfl (hb hby at_132) rfl ?_
    show Sp p e below T13 (mkF m 134 #[.val (.long p0), .second, .val (.long p1), .second, .val (.int p2), .val (.int p3), .val (.int p4), .val (.int p5), .val (.ref b1), .val (.ref b6), .val (.ref b8_0), .val (.ref b9_0), .val (.ref w_IGNORE), .val (.ref b11), .val (.int (1 : Int32)), .val (.int (1 : Int32)), .unset] [(.int (1 : Int32))]) _
    refine XS.ifNo X13.here hx rfl (hb hby at_134) rfl ((if0 _ _).trans (feq (by decide : ¬ ((1 : Int32) = (0 : Int32)))).1) ?_
    show Sp p e below T13 (mkF m 137 #[.val (.long p0), .second, .val (.long p1), .second, .val (.int p2), .val (.int p3), .val (.int p4), .val (.int p5), .val (.ref b1), .val (.ref b6), .val (.ref b8_0), .val (.ref b9_0), .val (.ref w_IGNORE), .val (.ref b11), .val (.int (1 : Int32)), .val (.int (1 : Int32)), .unset] []) _
    refine st14 _ ?_
    show Sp p e below T14 (mkF m 140 #[.val (.long p0), .second, .val (.long p1), .second, .val (.int p2), .val (.int p3), .val (.int p4), .val (.int p5), .val (.ref b1), .val (.ref b6), .val (.ref b8_0), .val (.ref b9_0), .val (.ref w_IGNORE), .val (.ref b11), .val (.int (1 : Int32)), .val (.int (1 : Int32)), .unset] [(.ref b14)]) _
    refine XS.dup X14.here hx rfl (hb hby at_140) rfl rfl ?_
    refine XS.lloadN X14.here hx rfl (hb hby at_141) rfl ?_
    refine XS.aload X14.here hx rfl (hb hby at_142) rfl rfl ?_
    refine XS.lloadN X14.here hx rfl (hb hby at_144) rfl ?_
    refine XS.aload X14.here hx rfl (hb hby at_145) rfl rfl ?_
    refine XS.aload X14.here hx rfl (hb hby at_147) rfl rfl ?_
    refine XS.aload X14.here hx rfl (hb hby at_149) rfl rfl ?_
    refine XS.iload X14.here hx rfl (hb hby at_151) rfl ?_
    refine XS.iload X14.here hx rfl (hb hby at_153) rfl ?_
    refine XS.aload X14.here hx rfl (hb hby at_155) rfl rfl ?_
    show Sp p e below T14 (mkF m 157 #[.val (.long p0), .second, .val (.long p1), .second, .val (.int p2), .val (.int p3), .val (.int p4), .val (.int p5), .val (.ref b1), .val (.ref b6), .val (.ref b8_0), .val (.ref b9_0), .val (.ref w_IGNORE), .val (.ref b11), .val (.int (1 : Int32)), .val (.int (1 : Int32)), .unset] [(.ref w_IGNORE), (.int p3), (.int p2), (.ref b11), (.ref b9_0), (.ref b8_0), (.long p1), (.ref b6), (.long p0), (.ref b14), (.ref b14)]) _
    refine st15.trans ?_
    show Sp p e below T15 (mkF m 160 #[.val (.long p0), .second, .val (.long p1), .second, .val (.int p2), .val (.int p3), .val (.int p4), .val (.int p5), .val (.ref b1), .val (.ref b6), .val (.ref b8_0), .val (.ref b9_0), .val (.ref w_IGNORE), .val (.ref b11), .val (.int (1 : Int32)), .val (.int (1 : Int32)), .unset] [(.ref b14)]) _
    refine XS.astore X15.here hx rfl (hb hby at_160) rfl rfl (l' := #[.val (.long p0), .second, .val (.long p1), .second, .val (.int p2), .val (.int p3), .val (.int p4), .val (.int p5), .val (.ref b1), .val (.ref b6), .val (.ref b8_0), .val (.ref b9_0), .val (.ref w_IGNORE), .val (.ref b11), .val (.int (1 : Int32)), .val (.int (1 : Int32)), .val (.ref b14)]) rfl ?_
    refine XS.aload X15.here hx rfl (hb hby at_162) rfl rfl ?_
    show Sp p e below T15 (mkF m 164 #[.val (.long p0), .second, .val (.long p1), .second, .val (.int p2), .val (.int p3), .val (.int p4), .val (.int p5), .val (.ref b1), .val (.ref b6), .val (.ref b8_0), .val (.ref b9_0), .val (.ref w_IGNORE), .val (.ref b11), .val (.int (1 : Int32)), .val (.int (1 : Int32)), .val (.ref b14)] [(.ref b14)]) _
    refine st16.trans ?_
    show Sp p e below T16 (mkF m 167 #[.val (.long p0), .second, .val (.long p1), .second, .val (.int p2), .val (.int p3), .val (.int p4), .val (.int p5), .val (.ref b1), .val (.ref b6), .val (.ref b8_0), .val (.ref b9_0), .val (.ref w_IGNORE), .val (.ref b11), .val (.int (1 : Int32)), .val (.int (1 : Int32)), .val (.ref b14)] [(.int (1 : Int32))]) _
    refine XS.ifNo X16.here hx rfl (hb hby at_167) rfl ((if0 _ _).trans (feq (by decide : ¬ ((1 : Int32) = (0 : Int32)))).1) ?_
    refine XS.aload X16.here hx rfl (hb hby at_170) rfl rfl ?_
    show Sp p e below T16 (mkF m 172 #[.val (.long p0), .second, .val (.long p1), .second, .val (.int p2), .val (.int p3), .val (.int p4), .val (.int p5), .val (.ref b1), .val (.ref b6), .val (.ref b8_0), .val (.ref b9_0), .val (.ref w_IGNORE), .val (.ref b11), .val (.int (1 : Int32)), .val (.int (1 : Int32)), .val (.ref b14)] [(.ref b14)]) _
    refine st17.trans ?_
    show Sp p e below T17 (mkF m 175 #[.val (.long p0), .second, .val (.long p1), .second, .val (.int p2), .val (.int p3), .val (.int p4), .val (.int p5), .val (.ref b1), .val (.ref b6), .val (.ref b8_0), .val (.ref b9_0), .val (.ref w_IGNORE), .val (.ref b11), .val (.int (1 : Int32)), .val (.int (1 : Int32)), .val (.ref b14)] [(.ref b6)]) _
    refine XS.aload X17.here hx rfl (hb hby at_175) rfl rfl ?_
    show Sp p e below T17 (mkF m 177 #[.val (.long p0), .second, .val (.long p1), .second, .val (.int p2), .val (.int p3), .val (.int p4), .val (.int p5), .val (.ref b1), .val (.ref b6), .val (.ref b8_0), .val (.ref b9_0), .val (.ref w_IGNORE), .val (.ref b11), .val (.int (1 : Int32)), .val (.int (1 : Int32)), .val (.ref b14)] [(.ref b6), (.ref b6)]) _
    refine Jvm.RoadKit.acmp (g := (mkF m 177 #[.val (.long p0), .second, .val (.long p1), .second, .val (.int p2), .val (.int p3), .val (.int p4), .val (.int p5), .val (.ref b1), .val (.ref b6), .val (.ref b8_0), .val (.ref b9_0), .val (.ref w_IGNORE), .val (.ref b11), .val (.int (1 : Int32)), .val (.int (1 : Int32)), .val (.ref b14)] [(.ref b6), (.ref b6)])) X17 hx rfl rfl rfl (pc0 := 177) (pc' := 180) (same := true) rfl (hb hby at_177) rfl (decide_eq_true rfl) (by decide) (by decide) ?_
    show Sp p e below T17 (mkF m 180 #[.val (.long p0), .second, .val (.long p1), .second, .val (.int p2), .val (.int p3), .val (.int p4), .val (.int p5), .val (.ref b1), .val (.ref b6), .val (.ref b8_0), .val (.ref b9_0), .val (.ref w_IGNORE), .val (.ref b11), .val (.int (1 : Int32)), .val (.int (1 : Int32)), .val (.ref b14)] []) _
    refine XS.aload X17.here hx rfl (hb hby at_180) rfl rfl ?_
    show Sp p e below T17 (mkF m 182 #[.val (.long p0), .second, .val (.long p1), .second, .val (.int p2), .val (.int p3), .val (.int p4), .val (.int p5), .val (.ref b1), .val (.ref b6), .val (.ref b8_0), .val (.ref b9_0), .val (.ref w_IGNORE), .val (.ref b11), .val (.int (1 : Int32)), .val (.int (1 : Int32)), .val (.ref b14)] [(.ref b14)]) _
    refine st18.trans ?_
    show Sp p e below T18 (mkF m 185 #[.val (.long p0), .second, .val (.long p1), .second, .val (.int p2), .val (.int p3), .val (.int p4), .val (.int p5), .val (.ref b1), .val (.ref b6), .val (.ref b8_0), .val (.ref b9_0), .val (.ref w_IGNORE), .val (.ref b11), .val (.int (1 : Int32)), .val (.int (1 : Int32)), .val (.ref b14)] [.null]) _
    refine XS.ifnonnullNo X18.here hx rfl (hb hby at_185) rfl ?_
    refine XS.iconst X18.here hx rfl (hb hby at_188) ?_
    show Sp p e below T18 (mkF m 189 #[.val (.long p0), .second, .val (.long p1), .second, .val (.int p2), .val (.int p3), .val (.int p4), .val (.int p5), .val (.ref b1), .val (.ref b6), .val (.ref b8_0), .val (.ref b9_0), .val (.ref w_IGNORE), .val (.ref b11), .val (.int (1 : Int32)), .val (.int (1 : Int32)), .val (.ref b14)] [(.int (1 : Int32))]) _
    refine XS.goto X18.here hx rfl (pc0 := 189) (pc' := 193) rfl (hb hby at_189) (by decide) (by decide) ?_
    show Sp p e below T18 (mkF m 193 #[.val (.long p0), .second, .val (.long p1), .second, .val (.int p2), .val (.int p3), .val (.int p4), .val (.int p5), .val (.ref b1), .val (.ref b6), .val (.ref b8_0), .val (.ref b9_0), .val (.ref w_IGNORE), .val (.ref b11), .val (.int (1 : Int32)), .val (.int (1 : Int32)), .val (.ref b14)] [(.int (1 : Int32))]) _
    exact retN X18 hx (t := .boolean) Bd.returns (by simp) (hb hby at_193) hr
  · skip
    exact ⟨rfl, N18⟩
def Q33 (Z : State) (w_PENDING : Addr) (w_IGNORE : Addr) (cs_v : Int32) (a1 : Addr) (q2 : Int64) (a3 : Addr) (a4 : Addr) (a5 : Addr) (a6 : Addr) (p7 : Int32) (p8 : Int32) (h0 : Heap) (n0 : Nat) (v : Option Value) (h : Heap) (L : List Loc) : Prop := v = none ∧ Fr n0 L ∧ Keep h0 h [a1] ∧ Exa Z h a1 "com/example/graph_job_runner/graphjobrunner/ClaimedNode" ∧ Fld Z h a1 "com/example/graph_job_runner/graphjobrunner/ClaimedNode" "attempt" "I" (.int p7) ∧ Fld Z h a1 "com/example/graph_job_runner/graphjobrunner/ClaimedNode" "failStrategy" "Lcom/example/graph_job_runner/graphjobrunner/FailStrategy;" (.ref w_IGNORE) ∧ Fld Z h a1 "com/example/graph_job_runner/graphjobrunner/ClaimedNode" "hasChildren" "Z" (.int (1 : Int32)) ∧ Fld Z h a1 "com/example/graph_job_runner/graphjobrunner/ClaimedNode" "id" "J" (.long q2) ∧ Fld Z h a1 "com/example/graph_job_runner/graphjobrunner/ClaimedNode" "nodeKey" "Ljava/lang/String;" (.ref a4) ∧ Fld Z h a1 "com/example/graph_job_runner/graphjobrunner/ClaimedNode" "payload" "[B" (.ref a6) ∧ Fld Z h a1 "com/example/graph_job_runner/graphjobrunner/ClaimedNode" "position" "J" (.long (0 : Int64)) ∧ Fld Z h a1 "com/example/graph_job_runner/graphjobrunner/ClaimedNode" "processor" "Ljava/lang/String;" (.ref a5) ∧ Fld Z h a1 "com/example/graph_job_runner/graphjobrunner/ClaimedNode" "retryLimit" "I" (.int p8) ∧ Fld Z h a1 "com/example/graph_job_runner/graphjobrunner/ClaimedNode" "runKey" "Ljava/lang/String;" (.ref a3) ∧ Fld Z h a1 "com/example/graph_job_runner/graphjobrunner/ClaimedNode" "streamKey" "Ljava/lang/String;" .null
set_option maxRecDepth 65536 in
set_option maxHeartbeats 40000000 in
theorem rm33 (l : Launch) (Z : State) (a0 : Array Value) (hw : ∀ d ∈ tables_1, d.before a0 Z = true) (ws : List Jvm.Cond) (w_PENDING w_IGNORE : Addr) (cs_v : Int32) (hp : Perm Z w_PENDING w_IGNORE cs_v) (a1 : Addr) (q2 : Int64) (a3 : Addr) (a4 : Addr) (a5 : Addr) (a6 : Addr) (p7 : Int32) (p8 : Int32) (h0 : Heap) (n0 : Nat) (O0 : Old Z n0 h0) (E_a1 : Exa Z h0 a1 "com/example/graph_job_runner/graphjobrunner/ClaimedNode") (F_id_a1 : Fld Z h0 a1 "com/example/graph_job_runner/graphjobrunner/ClaimedNode" "id" "J" (.long (0 : Int64))) (F_runKey_a1 : Fld Z h0 a1 "com/example/graph_job_runner/graphjobrunner/ClaimedNode" "runKey" "Ljava/lang/String;" .null) (F_streamKey_a1 : Fld Z h0 a1 "com/example/graph_job_runner/graphjobrunner/ClaimedNode" "streamKey" "Ljava/lang/String;" .null) (F_position_a1 : Fld Z h0 a1 "com/example/graph_job_runner/graphjobrunner/ClaimedNode" "position" "J" (.long (0 : Int64))) (F_nodeKey_a1 : Fld Z h0 a1 "com/example/graph_job_runner/graphjobrunner/ClaimedNode" "nodeKey" "Ljava/lang/String;" .null) (F_processor_a1 : Fld Z h0 a1 "com/example/graph_job_runner/graphjobrunner/ClaimedNode" "processor" "Ljava/lang/String;" .null) (F_payload_a1 : Fld Z h0 a1 "com/example/graph_job_runner/graphjobrunner/ClaimedNode" "payload" "[B" .null) (F_attempt_a1 : Fld Z h0 a1 "com/example/graph_job_runner/graphjobrunner/ClaimedNode" "attempt" "I" (.int (0 : Int32))) (F_retryLimit_a1 : Fld Z h0 a1 "com/example/graph_job_runner/graphjobrunner/ClaimedNode" "retryLimit" "I" (.int (0 : Int32))) (F_failStrategy_a1 : Fld Z h0 a1 "com/example/graph_job_runner/graphjobrunner/ClaimedNode" "failStrategy" "Lcom/example/graph_job_runner/graphjobrunner/FailStrategy;" .null) (F_hasChildren_a1 : Fld Z h0 a1 "com/example/graph_job_runner/graphjobrunner/ClaimedNode" "hasChildren" "Z" (.int (0 : Int32))) (g_a1 : n0 ≤ a1) :
    MetFree l y9 (head1 (Jvm.Cond.code y9 prog_3_method_3_code 14 none :: ws) ({ frames := 1, cells := 0, slots := 0, locals := 12 } : Room)) (fun a U => a = #[(.ref a1), (.long q2), (.ref a3), .null, (.long (0 : Int64)), (.ref a4), (.ref a5), (.ref a6), (.int p7), (.int p8), (.ref w_IGNORE), (.int (1 : Int32))] ∧ Z.Warmed39 U.vm ∧ U.heap = h0) (fun _ _ _ _ _ => True) (fun _ U o U' => ∃ v L, o = .returned v ∧ Q33 Z w_PENDING w_IGNORE cs_v a1 q2 a3 a4 a5 a6 p7 p8 h0 n0 v U'.heap L ∧ FrameEnd U o U' L ({ frames := 1, cells := 0, slots := 0, locals := 12 } : Room).cells ({ frames := 1, cells := 0, slots := 0, locals := 12 } : Room).slots) := by
  refine MetFree.of_bodySF (plainFor_of_name pn_12) hisR ?_
  intro p e s m args below meth c s₁ Bd hml0 hP hK
  obtain ⟨rfl, hZ, hh⟩ := hP
  have hx := Bd.exec
  have hby := Bd.bytes
  have hml : c.maxLocals = 14 := hml0
  have hown : s.vm.findClass "com/example/graph_job_runner/graphjobrunner/ClaimedNode" = some m.cls := findClass_of_methodNamed Bd.named
  have hnm := (name_of_methodNamed Bd.named Bd.method).1
  have X0 : Stand p l e ({ frames := 1, cells := 0, slots := 0, locals := 12 } : Room) s m #[(.ref a1), (.long q2), (.ref a3), .null, (.long (0 : Int64)), (.ref a4), (.ref a5), (.ref a6), (.int p7), (.int p8), (.ref w_IGNORE), (.int (1 : Int32))] below meth c s₁ [] 0 0 := Stand.of_body Bd
  have e0 : s₁.heap = h0 := by rw [← hh, Bd.state]; rfl
  have N0 := Fr.nil n0
  have hp' := hp
  obtain ⟨S_w_PENDING, E_w_PENDING, S_w_IGNORE, E_w_IGNORE, S_COMPACT_STRINGS, h_cs⟩ := hp'
  have pre0 : ∀ t, Steps p.tables e below (s₁.setTop (mkF m 0 #[.val (.ref a1), .val (.long q2), .second, .val (.ref a3), .val .null, .val (.long (0 : Int64)), .second, .val (.ref a4), .val (.ref a5), .val (.ref a6), .val (.int p7), .val (.int p8), .val (.ref w_IGNORE), .val (.int (1 : Int32))] [])) t → Steps p.tables e below (s₁.setTop (entryFrame m #[(.ref a1), (.long q2), (.ref a3), .null, (.long (0 : Int64)), (.ref a4), (.ref a5), (.ref a6), (.int p7), (.int p8), (.ref w_IGNORE), (.int (1 : Int32))] 14)) t := fun t k => castTop (ef_12_0 m a1 q2 a3 (0 : Int64) a4 a5 a6 p7 p8 w_IGNORE (1 : Int32)) k
  obtain ⟨T1, X1, e1, st1⟩ := initO X0 hx hZ hown (hw _ (List.mem_of_getElem? (i := 56) rfl)) (hw _ (List.mem_of_getElem? (i := 12) rfl)) (hw _ (List.mem_of_getElem? (i := 13) rfl)) e0 (g := (mkF m 1 #[.val (.ref a1), .val (.long q2), .second, .val (.ref a3), .val .null, .val (.long (0 : Int64)), .second, .val (.ref a4), .val (.ref a5), .val (.ref a6), .val (.int p7), .val (.int p8), .val (.ref w_IGNORE), .val (.int (1 : Int32))] [(.ref a1)])) rfl (by rw [hml]; rfl) rfl (hb hby d12_1) (by decide) (W := 0) (by show 2 * 0 + _ ≤ _; exact Nat.le_of_eq rfl) (by decide)
  obtain ⟨T2, h2, X2, e2, W2, st2⟩ := putF X1 hx hZ hown (host := "") (Or.inl (hw _ (List.mem_of_getElem? (i := 57) rfl))) Via.refl e1 F_id_a1 E_a1 (Or.inr ⟨(hw _ (List.mem_of_getElem? (i := 58) rfl)), rfl, hnm⟩) (hw _ (List.mem_of_getElem? (i := 48) rfl)) (ty := .long) (by decide) rfl rfl (g := (mkF m 6 #[.val (.ref a1), .val (.long q2), .second, .val (.ref a3), .val .null, .val (.long (0 : Int64)), .second, .val (.ref a4), .val (.ref a5), .val (.ref a6), .val (.int p7), .val (.int p8), .val (.ref w_IGNORE), .val (.int (1 : Int32))] [(.long q2), (.ref a1)])) rfl rfl (hb hby d12_6)
  have N2 := Fr.snoc X2 N0 g_a1
  have O2 := O0.wr W2 g_a1
  have K2 : Keep h0 h2 [a1] := (Keep.refl h0 [a1]).wr W2 (Or.inl (List.mem_of_getElem? (i := 0) rfl))
  have Fw2 := F_id_a1.same W2
  obtain ⟨T3, h3, X3, e3, W3, st3⟩ := putF X2 hx hZ hown (host := "") (Or.inl (hw _ (List.mem_of_getElem? (i := 59) rfl))) Via.refl e2 (F_runKey_a1.other W2 (Or.inr (sn2 hw))) (E_a1.wr W2) (Or.inr ⟨(hw _ (List.mem_of_getElem? (i := 60) rfl)), rfl, hnm⟩) (hw _ (List.mem_of_getElem? (i := 48) rfl)) (ty := (.object "java/lang/String")) (by decide) rfl rfl (g := (mkF m 11 #[.val (.ref a1), .val (.long q2), .second, .val (.ref a3), .val .null, .val (.long (0 : Int64)), .second, .val (.ref a4), .val (.ref a5), .val (.ref a6), .val (.int p7), .val (.int p8), .val (.ref w_IGNORE), .val (.int (1 : Int32))] [(.ref a3), (.ref a1)])) rfl rfl (hb hby d12_11)
  have N3 := Fr.snoc X3 N2 g_a1
  have O3 := O2.wr W3 g_a1
  have K3 : Keep h0 h3 [a1] := K2.wr W3 (Or.inl (List.mem_of_getElem? (i := 0) rfl))
  have Fw3 := (F_runKey_a1.other W2 (Or.inr (sn2 hw))).same W3
  have f_4 := ((F_streamKey_a1.other W2 (Or.inr (sn3 hw))).other W3 (Or.inr (sn4 hw)))
  obtain ⟨T5, h5, X5, e5, W5, st5⟩ := putF X3 hx hZ hown (host := "") (Or.inl (hw _ (List.mem_of_getElem? (i := 61) rfl))) Via.refl e3 f_4 ((E_a1.wr W2).wr W3) (Or.inr ⟨(hw _ (List.mem_of_getElem? (i := 62) rfl)), rfl, hnm⟩) (hw _ (List.mem_of_getElem? (i := 48) rfl)) (ty := (.object "java/lang/String")) (by decide) rfl rfl (g := (mkF m 17 #[.val (.ref a1), .val (.long q2), .second, .val (.ref a3), .val .null, .val (.long (0 : Int64)), .second, .val (.ref a4), .val (.ref a5), .val (.ref a6), .val (.int p7), .val (.int p8), .val (.ref w_IGNORE), .val (.int (1 : Int32))] [.null, (.ref a1)])) rfl rfl (hb hby d12_17)
  have N5 := Fr.snoc X5 N3 g_a1
  have O5 := O3.wr W5 g_a1
  have K5 : Keep h0 h5 [a1] := K3.wr W5 (Or.inl (List.mem_of_getElem? (i := 0) rfl))
  have Fw5 := f_4.same W5
  have f_6 := (((F_position_a1.other W2 (Or.inr (sn5 hw))).other W3 (Or.inr (sn6 hw))).other W5 (Or.inr (sn7 hw)))
  obtain ⟨T7, h7, X7, e7, W7, st7⟩ := putF X5 hx hZ hown (host := "") (Or.inl (hw _ (List.mem_of_getElem? (i := 63) rfl))) Via.refl e5 f_6 (((E_a1.wr W2).wr W3).wr W5) (Or.inr ⟨(hw _ (List.mem_of_getElem? (i := 64) rfl)), rfl, hnm⟩) (hw _ (List.mem_of_getElem? (i := 48) rfl)) (ty := .long) (by decide) rfl rfl (g := (mkF m 23 #[.val (.ref a1), .val (.long q2), .second, .val (.ref a3), .val .null, .val (.long (0 : Int64)), .second, .val (.ref a4), .val (.ref a5), .val (.ref a6), .val (.int p7), .val (.int p8), .val (.ref w_IGNORE), .val (.int (1 : Int32))] [(.long (0 : Int64)), (.ref a1)])) rfl rfl (hb hby d12_23)
  have N7 := Fr.snoc X7 N5 g_a1
  have O7 := O5.wr W7 g_a1
  have K7 : Keep h0 h7 [a1] := K5.wr W7 (Or.inl (List.mem_of_getElem? (i := 0) rfl))
  have Fw7 := f_6.same W7
  have f_8 := ((((F_nodeKey_a1.other W2 (Or.inr (sn8 hw))).other W3 (Or.inr (sn9 hw))).other W5 (Or.inr (sn10 hw))).other W7 (Or.inr (sn11 hw)))
  obtain ⟨T9, h9, X9, e9, W9, st9⟩ := putF X7 hx hZ hown (host := "") (Or.inl (hw _ (List.mem_of_getElem? (i := 65) rfl))) Via.refl e7 f_8 ((((E_a1.wr W2).wr W3).wr W5).wr W7) (Or.inr ⟨(hw _ (List.mem_of_getElem? (i := 66) rfl)), rfl, hnm⟩) (hw _ (List.mem_of_getElem? (i := 48) rfl)) (ty := (.object "java/lang/String")) (by decide) rfl rfl (g := (mkF m 29 #[.val (.ref a1), .val (.long q2), .second, .val (.ref a3), .val .null, .val (.long (0 : Int64)), .second, .val (.ref a4), .val (.ref a5), .val (.ref a6), .val (.int p7), .val (.int p8), .val (.ref w_IGNORE), .val (.int (1 : Int32))] [(.ref a4), (.ref a1)])) rfl rfl (hb hby d12_29)
  have N9 := Fr.snoc X9 N7 g_a1
  have O9 := O7.wr W9 g_a1
  have K9 : Keep h0 h9 [a1] := K7.wr W9 (Or.inl (List.mem_of_getElem? (i := 0) rfl))
  have Fw9 := f_8.same W9
  have f_10 := (((((F_processor_a1.other W2 (Or.inr (sn12 hw))).other W3 (Or.inr (sn13 hw))).other W5 (Or.inr (sn14 hw))).other W7 (Or.inr (sn15 hw))).other W9 (Or.inr (sn16 hw)))
  obtain ⟨T11, h11, X11, e11, W11, st11⟩ := putF X9 hx hZ hown (host := "") (Or.inl (hw _ (List.mem_of_getElem? (i := 67) rfl))) Via.refl e9 f_10 (((((E_a1.wr W2).wr W3).wr W5).wr W7).wr W9) (Or.inr ⟨(hw _ (List.mem_of_getElem? (i := 68) rfl)), rfl, hnm⟩) (hw _ (List.mem_of_getElem? (i := 48) rfl)) (ty := (.object "java/lang/String")) (by decide) rfl rfl (g := (mkF m 35 #[.val (.ref a1), .val (.long q2), .second, .val (.ref a3), .val .null, .val (.long (0 : Int64)), .second, .val (.ref a4), .val (.ref a5), .val (.ref a6), .val (.int p7), .val (.int p8), .val (.ref w_IGNORE), .val (.int (1 : Int32))] [(.ref a5), (.ref a1)])) rfl rfl (hb hby d12_35)
  have N11 := Fr.snoc X11 N9 g_a1
  have O11 := O9.wr W11 g_a1
  have K11 : Keep h0 h11 [a1] := K9.wr W11 (Or.inl (List.mem_of_getElem? (i := 0) rfl))
  have Fw11 := f_10.same W11
  have f_12 := ((((((F_payload_a1.other W2 (Or.inr (sn17 hw))).other W3 (Or.inr (sn18 hw))).other W5 (Or.inr (sn19 hw))).other W7 (Or.inr (sn20 hw))).other W9 (Or.inr (sn21 hw))).other W11 (Or.inr (sn22 hw)))
  obtain ⟨T13, h13, X13, e13, W13, st13⟩ := putF X11 hx hZ hown (host := "") (Or.inl (hw _ (List.mem_of_getElem? (i := 69) rfl))) Via.refl e11 f_12 ((((((E_a1.wr W2).wr W3).wr W5).wr W7).wr W9).wr W11) (Or.inr ⟨(hw _ (List.mem_of_getElem? (i := 70) rfl)), rfl, hnm⟩) (hw _ (List.mem_of_getElem? (i := 48) rfl)) (ty := (.array .byte)) (by decide) rfl rfl (g := (mkF m 41 #[.val (.ref a1), .val (.long q2), .second, .val (.ref a3), .val .null, .val (.long (0 : Int64)), .second, .val (.ref a4), .val (.ref a5), .val (.ref a6), .val (.int p7), .val (.int p8), .val (.ref w_IGNORE), .val (.int (1 : Int32))] [(.ref a6), (.ref a1)])) rfl rfl (hb hby d12_41)
  have N13 := Fr.snoc X13 N11 g_a1
  have O13 := O11.wr W13 g_a1
  have K13 : Keep h0 h13 [a1] := K11.wr W13 (Or.inl (List.mem_of_getElem? (i := 0) rfl))
  have Fw13 := f_12.same W13
  have f_14 := (((((((E_a1.wr W2).wr W3).wr W5).wr W7).wr W9).wr W11).wr W13)
  have f_15 := (((((((F_attempt_a1.other W2 (Or.inr (sn23 hw))).other W3 (Or.inr (sn24 hw))).other W5 (Or.inr (sn25 hw))).other W7 (Or.inr (sn26 hw))).other W9 (Or.inr (sn27 hw))).other W11 (Or.inr (sn28 hw))).other W13 (Or.inr (sn29 hw)))
  obtain ⟨T16, h16, X16, e16, W16, st16⟩ := putF X13 hx hZ hown (host := "") (Or.inl (hw _ (List.mem_of_getElem? (i := 71) rfl))) Via.refl e13 f_15 f_14 (Or.inr ⟨(hw _ (List.mem_of_getElem? (i := 72) rfl)), rfl, hnm⟩) (hw _ (List.mem_of_getElem? (i := 48) rfl)) (ty := .int) (by decide) rfl rfl (g := (mkF m 47 #[.val (.ref a1), .val (.long q2), .second, .val (.ref a3), .val .null, .val (.long (0 : Int64)), .second, .val (.ref a4), .val (.ref a5), .val (.ref a6), .val (.int p7), .val (.int p8), .val (.ref w_IGNORE), .val (.int (1 : Int32))] [(.int p7), (.ref a1)])) rfl rfl (hb hby d12_47)
  have N16 := Fr.snoc X16 N13 g_a1
  have O16 := O13.wr W16 g_a1
  have K16 : Keep h0 h16 [a1] := K13.wr W16 (Or.inl (List.mem_of_getElem? (i := 0) rfl))
  have Fw16 := f_15.same W16
  have f_17 := ((((((((F_retryLimit_a1.other W2 (Or.inr (sn30 hw))).other W3 (Or.inr (sn31 hw))).other W5 (Or.inr (sn32 hw))).other W7 (Or.inr (sn33 hw))).other W9 (Or.inr (sn34 hw))).other W11 (Or.inr (sn35 hw))).other W13 (Or.inr (sn36 hw))).other W16 (Or.inr (sn37 hw)))
  obtain ⟨T18, h18, X18, e18, W18, st18⟩ := putF X16 hx hZ hown (host := "") (Or.inl (hw _ (List.mem_of_getElem? (i := 73) rfl))) Via.refl e16 f_17 (f_14.wr W16) (Or.inr ⟨(hw _ (List.mem_of_getElem? (i := 74) rfl)), rfl, hnm⟩) (hw _ (List.mem_of_getElem? (i := 48) rfl)) (ty := .int) (by decide) rfl rfl (g := (mkF m 53 #[.val (.ref a1), .val (.long q2), .second, .val (.ref a3), .val .null, .val (.long (0 : Int64)), .second, .val (.ref a4), .val (.ref a5), .val (.ref a6), .val (.int p7), .val (.int p8), .val (.ref w_IGNORE), .val (.int (1 : Int32))] [(.int p8), (.ref a1)])) rfl rfl (hb hby d12_53)
  have N18 := Fr.snoc X18 N16 g_a1
  have O18 := O16.wr W18 g_a1
  have K18 : Keep h0 h18 [a1] := K16.wr W18 (Or.inl (List.mem_of_getElem? (i := 0) rfl))
  have Fw18 := f_17.same W18
  have f_19 := (((((((((F_failStrategy_a1.other W2 (Or.inr (sn38 hw))).other W3 (Or.inr (sn39 hw))).other W5 (Or.inr (sn40 hw))).other W7 (Or.inr (sn41 hw))).other W9 (Or.inr (sn42 hw))).other W11 (Or.inr (sn43 hw))).other W13 (Or.inr (sn44 hw))).other W16 (Or.inr (sn45 hw))).other W18 (Or.inr (sn46 hw)))
  obtain ⟨T20, h20, X20, e20, W20, st20⟩ := putF X18 hx hZ hown (host := "") (Or.inl (hw _ (List.mem_of_getElem? (i := 75) rfl))) Via.refl e18 f_19 ((f_14.wr W16).wr W18) (Or.inr ⟨(hw _ (List.mem_of_getElem? (i := 76) rfl)), rfl, hnm⟩) (hw _ (List.mem_of_getElem? (i := 48) rfl)) (ty := (.object "com/example/graph_job_runner/graphjobrunner/FailStrategy")) (by decide) rfl rfl (g := (mkF m 59 #[.val (.ref a1), .val (.long q2), .second, .val (.ref a3), .val .null, .val (.long (0 : Int64)), .second, .val (.ref a4), .val (.ref a5), .val (.ref a6), .val (.int p7), .val (.int p8), .val (.ref w_IGNORE), .val (.int (1 : Int32))] [(.ref w_IGNORE), (.ref a1)])) rfl rfl (hb hby d12_59)
  have N20 := Fr.snoc X20 N18 g_a1
  have O20 := O18.wr W20 g_a1
  have K20 : Keep h0 h20 [a1] := K18.wr W20 (Or.inl (List.mem_of_getElem? (i := 0) rfl))
  have Fw20 := f_19.same W20
  have f_21 := ((((((((((F_hasChildren_a1.other W2 (Or.inr (sn47 hw))).other W3 (Or.inr (sn48 hw))).other W5 (Or.inr (sn49 hw))).other W7 (Or.inr (sn50 hw))).other W9 (Or.inr (sn51 hw))).other W11 (Or.inr (sn52 hw))).other W13 (Or.inr (sn53 hw))).other W16 (Or.inr (sn54 hw))).other W18 (Or.inr (sn55 hw))).other W20 (Or.inr (sn56 hw)))
  obtain ⟨T22, h22, X22, e22, W22, st22⟩ := putFN X20 hx hZ hown (hw _ (List.mem_of_getElem? (i := 77) rfl)) Via.refl e20 f_21 (((f_14.wr W16).wr W18).wr W20) (Or.inr ⟨(hw _ (List.mem_of_getElem? (i := 78) rfl)), rfl, hnm⟩) (hw _ (List.mem_of_getElem? (i := 48) rfl)) (ty := .boolean) (v' := (.int (1 : Int32))) (by decide) rfl rfl (g := (mkF m 65 #[.val (.ref a1), .val (.long q2), .second, .val (.ref a3), .val .null, .val (.long (0 : Int64)), .second, .val (.ref a4), .val (.ref a5), .val (.ref a6), .val (.int p7), .val (.int p8), .val (.ref w_IGNORE), .val (.int (1 : Int32))] [(.int (1 : Int32)), (.ref a1)])) rfl rfl (hb hby d12_65)
  have N22 := Fr.snoc X22 N20 g_a1
  have O22 := O20.wr W22 g_a1
  have K22 : Keep h0 h22 [a1] := K20.wr W22 (Or.inl (List.mem_of_getElem? (i := 0) rfl))
  have Fw22 := f_21.same W22
  have f_23 := (((Fw16.other W18 (Or.inr (sn57 hw))).other W20 (Or.inr (sn58 hw))).other W22 (Or.inr (sn59 hw)))
  have f_24 := ((((((((((Fw2.other W3 (Or.inr (sn61 hw))).other W5 (Or.inr (sn62 hw))).other W7 (Or.inr (sn63 hw))).other W9 (Or.inr (sn64 hw))).other W11 (Or.inr (sn65 hw))).other W13 (Or.inr (sn66 hw))).other W16 (Or.inr (sn67 hw))).other W18 (Or.inr (sn68 hw))).other W20 (Or.inr (sn69 hw))).other W22 (Or.inr (sn70 hw)))
  have f_25 := ((((((Fw9.other W11 (Or.inr (sn71 hw))).other W13 (Or.inr (sn72 hw))).other W16 (Or.inr (sn73 hw))).other W18 (Or.inr (sn74 hw))).other W20 (Or.inr (sn75 hw))).other W22 (Or.inr (sn76 hw)))
  have f_26 := ((((Fw13.other W16 (Or.inr (sn77 hw))).other W18 (Or.inr (sn78 hw))).other W20 (Or.inr (sn79 hw))).other W22 (Or.inr (sn80 hw)))
  have f_27 := (((((((Fw7.other W9 (Or.inr (sn81 hw))).other W11 (Or.inr (sn82 hw))).other W13 (Or.inr (sn83 hw))).other W16 (Or.inr (sn84 hw))).other W18 (Or.inr (sn85 hw))).other W20 (Or.inr (sn86 hw))).other W22 (Or.inr (sn87 hw)))
  have f_28 := (((((Fw11.other W13 (Or.inr (sn88 hw))).other W16 (Or.inr (sn89 hw))).other W18 (Or.inr (sn90 hw))).other W20 (Or.inr (sn91 hw))).other W22 (Or.inr (sn92 hw)))
  have f_29 := ((Fw18.other W20 (Or.inr (sn93 hw))).other W22 (Or.inr (sn94 hw)))
  have f_30 := (((((((((Fw3.other W5 (Or.inr (sn95 hw))).other W7 (Or.inr (sn96 hw))).other W9 (Or.inr (sn97 hw))).other W11 (Or.inr (sn98 hw))).other W13 (Or.inr (sn99 hw))).other W16 (Or.inr (sn100 hw))).other W18 (Or.inr (sn101 hw))).other W20 (Or.inr (sn102 hw))).other W22 (Or.inr (sn103 hw)))
  have f_31 := ((((((((Fw5.other W7 (Or.inr (sn104 hw))).other W9 (Or.inr (sn105 hw))).other W11 (Or.inr (sn106 hw))).other W13 (Or.inr (sn107 hw))).other W16 (Or.inr (sn108 hw))).other W18 (Or.inr (sn109 hw))).other W20 (Or.inr (sn110 hw))).other W22 (Or.inr (sn111 hw)))
  obtain ⟨fs, hr, hrun, hended, hW, hsame⟩ := X22.leave (v := none) (fun _ => rfl)
  refine ⟨_, _, pre0 _ ?_, hrun, hended, _, _, rfl, ?_, ⟨_, rfl⟩, hW, hsame.mono (by decide) (by decide)⟩
  · show Sp p e below s₁ (mkF m 0 #[.val (.ref a1), .val (.long q2), .second, .val (.ref a3), .val .null, .val (.long (0 : Int64)), .second, .val (.ref a4), .val (.ref a5), .val (.ref a6), .val (.int p7), .val (.int p8), .val (.ref w_IGNORE), .val (.int (1 : Int32))] []) _
    refine XS.aloadN X0.here hx rfl (hb hby d12_0) rfl rfl ?_
    show Sp p e below s₁ (mkF m 1 #[.val (.ref a1), .val (.long q2), .second, .val (.ref a3), .val .null, .val (.long (0 : Int64)), .second, .val (.ref a4), .val (.ref a5), .val (.ref a6), .val (.int p7), .val (.int p8), .val (.ref w_IGNORE), .val (.int (1 : Int32))] [(.ref a1)]) _
    refine st1 _ ?_
    show Sp p e below T1 (mkF m 4 #[.val (.ref a1), .val (.long q2), .second, .val (.ref a3), .val .null, .val (.long (0 : Int64)), .second, .val (.ref a4), .val (.ref a5), .val (.ref a6), .val (.int p7), .val (.int p8), .val (.ref w_IGNORE), .val (.int (1 : Int32))] []) _
    refine XS.aloadN X1.here hx rfl (hb hby d12_4) rfl rfl ?_
    refine XS.lloadN X1.here hx rfl (hb hby d12_5) rfl ?_
    show Sp p e below T1 (mkF m 6 #[.val (.ref a1), .val (.long q2), .second, .val (.ref a3), .val .null, .val (.long (0 : Int64)), .second, .val (.ref a4), .val (.ref a5), .val (.ref a6), .val (.int p7), .val (.int p8), .val (.ref w_IGNORE), .val (.int (1 : Int32))] [(.long q2), (.ref a1)]) _
    refine st2 _ ?_
    show Sp p e below T2 (mkF m 9 #[.val (.ref a1), .val (.long q2), .second, .val (.ref a3), .val .null, .val (.long (0 : Int64)), .second, .val (.ref a4), .val (.ref a5), .val (.ref a6), .val (.int p7), .val (.int p8), .val (.ref w_IGNORE), .val (.int (1 : Int32))] []) _
    refine XS.aloadN X2.here hx rfl (hb hby d12_9) rfl rfl ?_
    refine XS.aloadN X2.here hx rfl (hb hby d12_10) rfl rfl ?_
    show Sp p e below T2 (mkF m 11 #[.val (.ref a1), .val (.long q2), .second, .val (.ref a3), .val .null, .val (.long (0 : Int64)), .second, .val (.ref a4), .val (.ref a5), .val (.ref a6), .val (.int p7), .val (.int p8), .val (.ref w_IGNORE), .val (.int (1 : Int32))] [(.ref a3), (.ref a1)]) _
    refine st3 _ ?_
    show Sp p e below T3 (mkF m 14 #[.val (.ref a1), .val (.long q2), .second, .val (.ref a3), .val .null, .val (.long (0 : Int64)), .second, .val (.ref a4), .val (.ref a5), .val (.ref a6), .val (.int p7), .val (.int p8), .val (.ref w_IGNORE), .val (.int (1 : Int32))] []) _
    refine XS.aloadN X3.here hx rfl (hb hby d12_14) rfl rfl ?_
    refine XS.aload X3.here hx rfl (hb hby d12_15) rfl rfl ?_
    show Sp p e below T3 (mkF m 17 #[.val (.ref a1), .val (.long q2), .second, .val (.ref a3), .val .null, .val (.long (0 : Int64)), .second, .val (.ref a4), .val (.ref a5), .val (.ref a6), .val (.int p7), .val (.int p8), .val (.ref w_IGNORE), .val (.int (1 : Int32))] [.null, (.ref a1)]) _
    refine st5 _ ?_
    show Sp p e below T5 (mkF m 20 #[.val (.ref a1), .val (.long q2), .second, .val (.ref a3), .val .null, .val (.long (0 : Int64)), .second, .val (.ref a4), .val (.ref a5), .val (.ref a6), .val (.int p7), .val (.int p8), .val (.ref w_IGNORE), .val (.int (1 : Int32))] []) _
    refine XS.aloadN X5.here hx rfl (hb hby d12_20) rfl rfl ?_
    refine XS.lload X5.here hx rfl (hb hby d12_21) rfl ?_
    show Sp p e below T5 (mkF m 23 #[.val (.ref a1), .val (.long q2), .second, .val (.ref a3), .val .null, .val (.long (0 : Int64)), .second, .val (.ref a4), .val (.ref a5), .val (.ref a6), .val (.int p7), .val (.int p8), .val (.ref w_IGNORE), .val (.int (1 : Int32))] [(.long (0 : Int64)), (.ref a1)]) _
    refine st7 _ ?_
    show Sp p e below T7 (mkF m 26 #[.val (.ref a1), .val (.long q2), .second, .val (.ref a3), .val .null, .val (.long (0 : Int64)), .second, .val (.ref a4), .val (.ref a5), .val (.ref a6), .val (.int p7), .val (.int p8), .val (.ref w_IGNORE), .val (.int (1 : Int32))] []) _
    refine XS.aloadN X7.here hx rfl (hb hby d12_26) rfl rfl ?_
    refine XS.aload X7.here hx rfl (hb hby d12_27) rfl rfl ?_
    show Sp p e below T7 (mkF m 29 #[.val (.ref a1), .val (.long q2), .second, .val (.ref a3), .val .null, .val (.long (0 : Int64)), .second, .val (.ref a4), .val (.ref a5), .val (.ref a6), .val (.int p7), .val (.int p8), .val (.ref w_IGNORE), .val (.int (1 : Int32))] [(.ref a4), (.ref a1)]) _
    refine st9 _ ?_
    show Sp p e below T9 (mkF m 32 #[.val (.ref a1), .val (.long q2), .second, .val (.ref a3), .val .null, .val (.long (0 : Int64)), .second, .val (.ref a4), .val (.ref a5), .val (.ref a6), .val (.int p7), .val (.int p8), .val (.ref w_IGNORE), .val (.int (1 : Int32))] []) _
    refine XS.aloadN X9.here hx rfl (hb hby d12_32) rfl rfl ?_
    refine XS.aload X9.here hx rfl (hb hby d12_33) rfl rfl ?_
    show Sp p e below T9 (mkF m 35 #[.val (.ref a1), .val (.long q2), .second, .val (.ref a3), .val .null, .val (.long (0 : Int64)), .second, .val (.ref a4), .val (.ref a5), .val (.ref a6), .val (.int p7), .val (.int p8), .val (.ref w_IGNORE), .val (.int (1 : Int32))] [(.ref a5), (.ref a1)]) _
    refine st11 _ ?_
    show Sp p e below T11 (mkF m 38 #[.val (.ref a1), .val (.long q2), .second, .val (.ref a3), .val .null, .val (.long (0 : Int64)), .second, .val (.ref a4), .val (.ref a5), .val (.ref a6), .val (.int p7), .val (.int p8), .val (.ref w_IGNORE), .val (.int (1 : Int32))] []) _
    refine XS.aloadN X11.here hx rfl (hb hby d12_38) rfl rfl ?_
    refine XS.aload X11.here hx rfl (hb hby d12_39) rfl rfl ?_
    show Sp p e below T11 (mkF m 41 #[.val (.ref a1), .val (.long q2), .second, .val (.ref a3), .val .null, .val (.long (0 : Int64)), .second, .val (.ref a4), .val (.ref a5), .val (.ref a6), .val (.int p7), .val (.int p8), .val (.ref w_IGNORE), .val (.int (1 : Int32))] [(.ref a6), (.ref a1)]) _
    refine st13 _ ?_
    show Sp p e below T13 (mkF m 44 #[.val (.ref a1), .val (.long q2), .second, .val (.ref a3), .val .null, .val (.long (0 : Int64)), .second, .val (.ref a4), .val (.ref a5), .val (.ref a6), .val (.int p7), .val (.int p8), .val (.ref w_IGNORE), .val (.int (1 : Int32))] []) _
    refine XS.aloadN X13.here hx rfl (hb hby d12_44) rfl rfl ?_
    refine XS.iload X13.here hx rfl (hb hby d12_45) rfl ?_
    show Sp p e below T13 (mkF m 47 #[.val (.ref a1), .val (.long q2), .second, .val (.ref a3), .val .null, .val (.long (0 : Int64)), .second, .val (.ref a4), .val (.ref a5), .val (.ref a6), .val (.int p7), .val (.int p8), .val (.ref w_IGNORE), .val (.int (1 : Int32))] [(.int p7), (.ref a1)]) _
    refine st16 _ ?_
    show Sp p e below T16 (mkF m 50 #[.val (.ref a1), .val (.long q2), .second, .val (.ref a3), .val .null, .val (.long (0 : Int64)), .second, .val (.ref a4), .val (.ref a5), .val (.ref a6), .val (.int p7), .val (.int p8), .val (.ref w_IGNORE), .val (.int (1 : Int32))] []) _
    refine XS.aloadN X16.here hx rfl (hb hby d12_50) rfl rfl ?_
    refine XS.iload X16.here hx rfl (hb hby d12_51) rfl ?_
    show Sp p e below T16 (mkF m 53 #[.val (.ref a1), .val (.long q2), .second, .val (.ref a3), .val .null, .val (.long (0 : Int64)), .second, .val (.ref a4), .val (.ref a5), .val (.ref a6), .val (.int p7), .val (.int p8), .val (.ref w_IGNORE), .val (.int (1 : Int32))] [(.int p8), (.ref a1)]) _
    refine st18 _ ?_
    show Sp p e below T18 (mkF m 56 #[.val (.ref a1), .val (.long q2), .second, .val (.ref a3), .val .null, .val (.long (0 : Int64)), .second, .val (.ref a4), .val (.ref a5), .val (.ref a6), .val (.int p7), .val (.int p8), .val (.ref w_IGNORE), .val (.int (1 : Int32))] []) _
    refine XS.aloadN X18.here hx rfl (hb hby d12_56) rfl rfl ?_
    refine XS.aload X18.here hx rfl (hb hby d12_57) rfl rfl ?_
    show Sp p e below T18 (mkF m 59 #[.val (.ref a1), .val (.long q2), .second, .val (.ref a3), .val .null, .val (.long (0 : Int64)), .second, .val (.ref a4), .val (.ref a5), .val (.ref a6), .val (.int p7), .val (.int p8), .val (.ref w_IGNORE), .val (.int (1 : Int32))] [(.ref w_IGNORE), (.ref a1)]) _
    refine st20 _ ?_
    show Sp p e below T20 (mkF m 62 #[.val (.ref a1), .val (.long q2), .second, .val (.ref a3), .val .null, .val (.long (0 : Int64)), .second, .val (.ref a4), .val (.ref a5), .val (.ref a6), .val (.int p7), .val (.int p8), .val (.ref w_IGNORE), .val (.int (1 : Int32))] []) _
    refine XS.aloadN X20.here hx rfl (hb hby d12_62) rfl rfl ?_
    refine XS.iload X20.here hx rfl (hb hby d12_63) rfl ?_
    show Sp p e below T20 (mkF m 65 #[.val (.ref a1), .val (.long q2), .second, .val (.ref a3), .val .null, .val (.long (0 : Int64)), .second, .val (.ref a4), .val (.ref a5), .val (.ref a6), .val (.int p7), .val (.int p8), .val (.ref w_IGNORE), .val (.int (1 : Int32))] [(.int (1 : Int32)), (.ref a1)]) _
    refine st22 _ ?_
    show Sp p e below T22 (mkF m 68 #[.val (.ref a1), .val (.long q2), .second, .val (.ref a3), .val .null, .val (.long (0 : Int64)), .second, .val (.ref a4), .val (.ref a5), .val (.ref a6), .val (.int p7), .val (.int p8), .val (.ref w_IGNORE), .val (.int (1 : Int32))] []) _
    exact X22.returnOut hx Bd.returns (hb hby d12_68) hr
  · show Q33 Z w_PENDING w_IGNORE cs_v a1 q2 a3 a4 a5 a6 p7 p8 h0 n0 _ T22.heap _
    rw [e22]
    exact ⟨rfl, N22, K22, ((((f_14.wr W16).wr W18).wr W20).wr W22), f_23, (Fw20.other W22 (Or.inr (sn60 hw))), Fw22, f_24, f_25, f_26, f_27, f_28, f_29, f_30, f_31⟩
def Q34 (Z : State) (w_PENDING : Addr) (w_IGNORE : Addr) (cs_v : Int32) (a1 : Addr) (q2 : Int64) (a3 : Addr) (a4 : Addr) (a5 : Addr) (a6 : Addr) (p7 : Int32) (p8 : Int32) (h0 : Heap) (n0 : Nat) (v : Option Value) (h : Heap) (L : List Loc) : Prop := v = none ∧ Fr n0 L ∧ Keep h0 h [a1] ∧ Exa Z h a1 "com/example/graph_job_runner/graphjobrunner/ClaimedNode" ∧ Fld Z h a1 "com/example/graph_job_runner/graphjobrunner/ClaimedNode" "attempt" "I" (.int p7) ∧ Fld Z h a1 "com/example/graph_job_runner/graphjobrunner/ClaimedNode" "failStrategy" "Lcom/example/graph_job_runner/graphjobrunner/FailStrategy;" (.ref w_IGNORE) ∧ Fld Z h a1 "com/example/graph_job_runner/graphjobrunner/ClaimedNode" "hasChildren" "Z" (.int (1 : Int32)) ∧ Fld Z h a1 "com/example/graph_job_runner/graphjobrunner/ClaimedNode" "id" "J" (.long q2) ∧ Fld Z h a1 "com/example/graph_job_runner/graphjobrunner/ClaimedNode" "nodeKey" "Ljava/lang/String;" (.ref a4) ∧ Fld Z h a1 "com/example/graph_job_runner/graphjobrunner/ClaimedNode" "payload" "[B" (.ref a6) ∧ Fld Z h a1 "com/example/graph_job_runner/graphjobrunner/ClaimedNode" "position" "J" (.long (0 : Int64)) ∧ Fld Z h a1 "com/example/graph_job_runner/graphjobrunner/ClaimedNode" "processor" "Ljava/lang/String;" (.ref a5) ∧ Fld Z h a1 "com/example/graph_job_runner/graphjobrunner/ClaimedNode" "retryLimit" "I" (.int p8) ∧ Fld Z h a1 "com/example/graph_job_runner/graphjobrunner/ClaimedNode" "runKey" "Ljava/lang/String;" (.ref a3) ∧ Fld Z h a1 "com/example/graph_job_runner/graphjobrunner/ClaimedNode" "streamKey" "Ljava/lang/String;" .null
set_option maxRecDepth 65536 in
set_option maxHeartbeats 40000000 in
theorem rm34 (l : Launch) (Z : State) (a0 : Array Value) (hw : ∀ d ∈ tables_1, d.before a0 Z = true) (ws : List Jvm.Cond) (w_PENDING w_IGNORE : Addr) (cs_v : Int32) (hp : Perm Z w_PENDING w_IGNORE cs_v) (a1 : Addr) (q2 : Int64) (a3 : Addr) (a4 : Addr) (a5 : Addr) (a6 : Addr) (p7 : Int32) (p8 : Int32) (h0 : Heap) (n0 : Nat) (O0 : Old Z n0 h0) (E_a1 : Exa Z h0 a1 "com/example/graph_job_runner/graphjobrunner/ClaimedNode") (F_id_a1 : Fld Z h0 a1 "com/example/graph_job_runner/graphjobrunner/ClaimedNode" "id" "J" (.long (0 : Int64))) (F_runKey_a1 : Fld Z h0 a1 "com/example/graph_job_runner/graphjobrunner/ClaimedNode" "runKey" "Ljava/lang/String;" .null) (F_streamKey_a1 : Fld Z h0 a1 "com/example/graph_job_runner/graphjobrunner/ClaimedNode" "streamKey" "Ljava/lang/String;" .null) (F_position_a1 : Fld Z h0 a1 "com/example/graph_job_runner/graphjobrunner/ClaimedNode" "position" "J" (.long (0 : Int64))) (F_nodeKey_a1 : Fld Z h0 a1 "com/example/graph_job_runner/graphjobrunner/ClaimedNode" "nodeKey" "Ljava/lang/String;" .null) (F_processor_a1 : Fld Z h0 a1 "com/example/graph_job_runner/graphjobrunner/ClaimedNode" "processor" "Ljava/lang/String;" .null) (F_payload_a1 : Fld Z h0 a1 "com/example/graph_job_runner/graphjobrunner/ClaimedNode" "payload" "[B" .null) (F_attempt_a1 : Fld Z h0 a1 "com/example/graph_job_runner/graphjobrunner/ClaimedNode" "attempt" "I" (.int (0 : Int32))) (F_retryLimit_a1 : Fld Z h0 a1 "com/example/graph_job_runner/graphjobrunner/ClaimedNode" "retryLimit" "I" (.int (0 : Int32))) (F_failStrategy_a1 : Fld Z h0 a1 "com/example/graph_job_runner/graphjobrunner/ClaimedNode" "failStrategy" "Lcom/example/graph_job_runner/graphjobrunner/FailStrategy;" .null) (F_hasChildren_a1 : Fld Z h0 a1 "com/example/graph_job_runner/graphjobrunner/ClaimedNode" "hasChildren" "Z" (.int (0 : Int32))) (g_a1 : n0 ≤ a1) :
    MetFree l y10 (head1 (Jvm.Cond.code y10 prog_3_method_1_code 11 none :: ws) ({ frames := 2, cells := 0, slots := 0, locals := 37 } : Room)) (fun a U => a = #[(.ref a1), (.long q2), (.ref a3), (.ref a4), (.ref a5), (.ref a6), (.int p7), (.int p8), (.ref w_IGNORE), (.int (1 : Int32))] ∧ Z.Warmed39 U.vm ∧ U.heap = h0) (fun _ _ _ _ _ => True) (fun _ U o U' => ∃ v L, o = .returned v ∧ Q34 Z w_PENDING w_IGNORE cs_v a1 q2 a3 a4 a5 a6 p7 p8 h0 n0 v U'.heap L ∧ FrameEnd U o U' L ({ frames := 2, cells := 0, slots := 0, locals := 37 } : Room).cells ({ frames := 2, cells := 0, slots := 0, locals := 37 } : Room).slots) := by
  refine MetFree.of_bodySF (plainFor_of_name pn_12) hisR ?_
  intro p e s m args below meth c s₁ Bd hml0 hP hK
  obtain ⟨rfl, hZ, hh⟩ := hP
  have hx := Bd.exec
  have hby := Bd.bytes
  have hml : c.maxLocals = 11 := hml0
  have hown : s.vm.findClass "com/example/graph_job_runner/graphjobrunner/ClaimedNode" = some m.cls := findClass_of_methodNamed Bd.named
  have hnm := (name_of_methodNamed Bd.named Bd.method).1
  have X0 : Stand p l e ({ frames := 2, cells := 0, slots := 0, locals := 37 } : Room) s m #[(.ref a1), (.long q2), (.ref a3), (.ref a4), (.ref a5), (.ref a6), (.int p7), (.int p8), (.ref w_IGNORE), (.int (1 : Int32))] below meth c s₁ [] 0 0 := Stand.of_body Bd
  have e0 : s₁.heap = h0 := by rw [← hh, Bd.state]; rfl
  have N0 := Fr.nil n0
  have hp' := hp
  obtain ⟨S_w_PENDING, E_w_PENDING, S_w_IGNORE, E_w_IGNORE, S_COMPACT_STRINGS, h_cs⟩ := hp'
  have pre0 : ∀ t, Steps p.tables e below (s₁.setTop (mkF m 0 #[.val (.ref a1), .val (.long q2), .second, .val (.ref a3), .val (.ref a4), .val (.ref a5), .val (.ref a6), .val (.int p7), .val (.int p8), .val (.ref w_IGNORE), .val (.int (1 : Int32))] [])) t → Steps p.tables e below (s₁.setTop (entryFrame m #[(.ref a1), (.long q2), (.ref a3), (.ref a4), (.ref a5), (.ref a6), (.int p7), (.int p8), (.ref w_IGNORE), (.int (1 : Int32))] 11)) t := fun t k => castTop (ef_11_0 m a1 q2 a3 a4 a5 a6 p7 p8 w_IGNORE (1 : Int32)) k
  obtain ⟨_, _, ⟨T1, L1, k1, n1⟩, -, X1, ⟨Lc1, hQ1, l1, y1, z1⟩, st1⟩ := X0.specialBack hx (y := y9) rfl hown (mvT hZ (hw _ (List.mem_of_getElem? (i := 53) rfl))) (mvT hZ (hw _ (List.mem_of_getElem? (i := 54) rfl))) (mvT hZ (hw _ (List.mem_of_getElem? (i := 55) rfl))) (by decide) (backOf (W := 0) (rm33 l Z a0 hw [] w_PENDING w_IGNORE cs_v hp a1 q2 a3 a4 a5 a6 p7 p8 h0 n0 O0 E_a1 F_id_a1 F_runKey_a1 F_streamKey_a1 F_position_a1 F_nodeKey_a1 F_processor_a1 F_payload_a1 F_attempt_a1 F_retryLimit_a1 F_failStrategy_a1 F_hasChildren_a1 g_a1) hZ (hw _ (List.mem_of_getElem? (i := 55) rfl)) (hw _ (List.mem_of_getElem? (i := 49) rfl)) (by decide) (by decide)) (g := (mkF m 19 #[.val (.ref a1), .val (.long q2), .second, .val (.ref a3), .val (.ref a4), .val (.ref a5), .val (.ref a6), .val (.int p7), .val (.int p8), .val (.ref w_IGNORE), .val (.int (1 : Int32))] [(.int (1 : Int32)), (.ref w_IGNORE), (.int p8), (.int p7), (.ref a6), (.ref a5), (.ref a4), (.long (0 : Int64)), .null, (.ref a3), (.long q2), (.ref a1)])) rfl (by rw [hml]; rfl) (Steps.refl _) (a := a1) (argsL := [(.long q2), (.ref a3), .null, (.long (0 : Int64)), (.ref a4), (.ref a5), (.ref a6), (.int p7), (.int p8), (.ref w_IGNORE), (.int (1 : Int32))]) (rest := []) (lenOf pd_9 rfl) rfl (by show 2 * 0 + _ ≤ _; exact Nat.le_of_eq rfl) (hb hby d11_19) (fun _ _ => ⟨rfl, e0, (by decide : 0 + 0 ≤ _), (by decide : 0 + 0 ≤ _)⟩)
  dsimp only [Pt.U, Pt.locs, Pt.cells, Pt.slots] at X1 l1 y1 z1 st1 hQ1
  subst l1 y1 z1
  obtain ⟨rfl, Nq1, Kq1, fq1_0, fq1_1, fq1_2, fq1_3, fq1_4, fq1_5, fq1_6, fq1_7, fq1_8, fq1_9, fq1_10, fq1_11⟩ := hQ1
  have N1 := Fr.app N0 Nq1
  have O1 := O0.keep Kq1 (allS g_a1 all0)
  have K1 : Keep h0 T1.heap [a1] := (Keep.refl h0 [a1]).trans Kq1 (allS (Or.inl (List.mem_of_getElem? (i := 0) rfl)) all0)
  obtain ⟨fs, hr, hrun, hended, hW, hsame⟩ := X1.leave (v := none) (fun _ => rfl)
  refine ⟨_, _, pre0 _ ?_, hrun, hended, _, _, rfl, ?_, ⟨_, rfl⟩, hW, hsame.mono (by decide) (by decide)⟩
  · show Sp p e below s₁ (mkF m 0 #[.val (.ref a1), .val (.long q2), .second, .val (.ref a3), .val (.ref a4), .val (.ref a5), .val (.ref a6), .val (.int p7), .val (.int p8), .val (.ref w_IGNORE), .val (.int (1 : Int32))] []) _
    refine XS.aloadN X0.here hx rfl (hb hby d11_0) rfl rfl ?_
    refine XS.lloadN X0.here hx rfl (hb hby d11_1) rfl ?_
    refine XS.aloadN X0.here hx rfl (hb hby d11_2) rfl rfl ?_
    refine XS.aconstNull X0.here hx rfl (hb hby d11_3) ?_
    refine XS.lconst X0.here hx rfl (hb hby d11_4) ?_
    refine XS.aload X0.here hx rfl (hb hby d11_5) rfl rfl ?_
    refine XS.aload X0.here hx rfl (hb hby d11_7) rfl rfl ?_
    refine XS.aload X0.here hx rfl (hb hby d11_9) rfl rfl ?_
    refine XS.iload X0.here hx rfl (hb hby d11_11) rfl ?_
    refine XS.iload X0.here hx rfl (hb hby d11_13) rfl ?_
    refine XS.aload X0.here hx rfl (hb hby d11_15) rfl rfl ?_
    refine XS.iload X0.here hx rfl (hb hby d11_17) rfl ?_
    show Sp p e below s₁ (mkF m 19 #[.val (.ref a1), .val (.long q2), .second, .val (.ref a3), .val (.ref a4), .val (.ref a5), .val (.ref a6), .val (.int p7), .val (.int p8), .val (.ref w_IGNORE), .val (.int (1 : Int32))] [(.int (1 : Int32)), (.ref w_IGNORE), (.int p8), (.int p7), (.ref a6), (.ref a5), (.ref a4), (.long (0 : Int64)), .null, (.ref a3), (.long q2), (.ref a1)]) _
    refine st1.trans ?_
    show Sp p e below T1 (mkF m 22 #[.val (.ref a1), .val (.long q2), .second, .val (.ref a3), .val (.ref a4), .val (.ref a5), .val (.ref a6), .val (.int p7), .val (.int p8), .val (.ref w_IGNORE), .val (.int (1 : Int32))] []) _
    exact X1.returnOut hx Bd.returns (hb hby d11_22) hr
  · show Q34 Z w_PENDING w_IGNORE cs_v a1 q2 a3 a4 a5 a6 p7 p8 h0 n0 _ T1.heap _
    exact ⟨rfl, N1, K1, fq1_0, fq1_1, fq1_2, fq1_3, fq1_4, fq1_5, fq1_6, fq1_7, fq1_8, fq1_9, fq1_10, fq1_11⟩
set_option maxRecDepth 65536 in
set_option maxHeartbeats 40000000 in
theorem rm35 (l : Launch) (Z : State) (a0 : Array Value) (hw : ∀ d ∈ tables_1, d.before a0 Z = true) (ws : List Jvm.Cond) (w_PENDING w_IGNORE : Addr) (cs_v : Int32) (hp : Perm Z w_PENDING w_IGNORE cs_v) (p0 : Int64) (p1 : Int64) (p2 : Int32) (p3 : Int32) (p4 : Int32) (p5 : Int32) (h0 : Heap) (n0 : Nat) (O0 : Old Z n0 h0) (hc1 : (p5 &&& (2 : Int32)) = (0 : Int32)) (hc2 : (p5 &&& (1 : Int32)) = (0 : Int32)) (hc3 : ¬ ((p5 &&& (4 : Int32)) = (0 : Int32))) :
    MetFree l x (head1 (Jvm.Cond.code x code maxLocals ret :: ws) room_1) (fun a U => a = #[(.long p0), (.long p1), (.int p2), (.int p3), (.int p4), (.int p5)] ∧ Z.Warmed39 U.vm ∧ U.heap = h0) (fun _ _ _ _ _ => True) (fun _ U o U' => ∃ v L, o = .returned v ∧ (v = some (.int (1 : Int32)) ∧ Fr n0 L) ∧ FrameEnd U o U' L 32 128) := by
  refine MetFree.of_bodySF (plainFor_of_name pn_0) hisR ?_
  intro p e s m args below meth c s₁ Bd hml0 hP hK
  obtain ⟨rfl, hZ, hh⟩ := hP
  have hx := Bd.exec
  have hby := Bd.bytes
  have hml : c.maxLocals = 17 := hml0
  have hown : s.vm.findClass "com/example/graph_job_runner/graphjobrunner/ClaimedNodeInStreamPinLaw" = some m.cls := findClass_of_methodNamed Bd.named
  have hnm := (name_of_methodNamed Bd.named Bd.method).1
  have X0 : Stand p l e room_1 s m #[(.long p0), (.long p1), (.int p2), (.int p3), (.int p4), (.int p5)] below meth c s₁ [] 0 0 := Stand.of_body Bd
  have e0 : s₁.heap = h0 := by rw [← hh, Bd.state]; rfl
  have N0 := Fr.nil n0
  have hp' := hp
  obtain ⟨S_w_PENDING, E_w_PENDING, S_w_IGNORE, E_w_IGNORE, S_COMPACT_STRINGS, h_cs⟩ := hp'
  have pre0 : ∀ t, Steps p.tables e below (s₁.setTop (mkF m 0 #[.val (.long p0), .second, .val (.long p1), .second, .val (.int p2), .val (.int p3), .val (.int p4), .val (.int p5), .unset, .unset, .unset, .unset, .unset, .unset, .unset, .unset, .unset] [])) t → Steps p.tables e below (s₁.setTop (entryFrame m #[(.long p0), (.long p1), (.int p2), (.int p3), (.int p4), (.int p5)] maxLocals)) t := fun t k => castTop (ef_0_0 m p0 p1 p2 p3 p4 p5) k
  obtain ⟨T1, h1, k1, X1, e1, E1, A1, EA1, st1⟩ := newPE X0 hx hZ (hw _ (List.mem_of_getElem? (i := 0) rfl)) e0 (g := (mkF m 1 #[.val (.long p0), .second, .val (.long p1), .second, .val (.int p2), .val (.int p3), .val (.int p4), .val (.int p5), .unset, .unset, .unset, .unset, .unset, .unset, .unset, .unset, .unset] [(.int (2 : Int32))])) rfl (hb hby at_1) rfl (by decide) (cap := 2) (by decide) (by decide) (by decide) (by decide) (ad := "[C") (by decide)
  obtain ⟨b1, g1⟩ : ∃ z, z = h0.size := ⟨_, rfl⟩
  rw [← g1] at A1 EA1 st1
  have g_b1 : n0 ≤ b1 := Nat.le_trans (own_sz O0) (Nat.le_of_eq g1.symm)
  have sz_b1 : h0.size ≤ b1 := Nat.le_trans (Keep.refl h0 []).1 (Nat.le_of_eq g1.symm)
  have O1 := O0.ext E1
  have K1 : Keep h0 h1 [] := (Keep.refl h0 []).ext E1
  have V_b1 : Arv Z h1 b1 k1 .char (2 : Int32) [(.int (0 : Int32)), (.int (0 : Int32))] (.int (0 : Int32)) := (Arv.new A1 (by decide)).pad (pad_rep [] (.int (0 : Int32)) 2)
  obtain ⟨cl2, Ar2, q2, S2, Nn2, H2, G2⟩ := id V_b1
  have hin2 : ¬ ((0 : Int32) < 0 ∨ cl2.slots.size ≤ ((0 : Int32)).toNatClampNeg) := inb_of S2 ⟨by decide, by decide⟩
  obtain ⟨T3, h3, X3, e3, W3, st3⟩ := stC X1 hx hZ e1 Ar2 (j := (0 : Int32)) hin2 (g := (mkF m 15 #[.val (.long p0), .second, .val (.long p1), .second, .val (.int p2), .val (.int p3), .val (.int p4), .val (.int p5), .val (.ref b1), .unset, .unset, .unset, .unset, .unset, .unset, .unset, .unset] [(.int ((p4 &&& (255 : Int32)).toUInt32.toUInt16.toUInt32.toInt32)), (.int (0 : Int32)), (.ref b1)])) rfl rfl (hb hby at_15)
  have N3 := Fr.snoc X3 N0 g_b1
  have O3 := O1.wr W3 g_b1
  have K3 : Keep h0 h3 [] := K1.wr W3 (Or.inr sz_b1)
  have V_b1_3 : Arv Z h3 b1 k1 .char (2 : Int32) [(.int (nar .char ((p4 &&& (255 : Int32)).toUInt32.toUInt16.toUInt32.toInt32))), (.int (0 : Int32))] (.int (0 : Int32)) := Arv.set Ar2 q2 S2 Nn2 H2 G2 (fits_nar_char _) W3 0 rfl (Nat.le_of_ble_eq_true rfl)
  obtain ⟨cl4, Ar4, q4, S4, Nn4, H4, G4⟩ := id V_b1_3
  have hin4 : ¬ ((1 : Int32) < 0 ∨ cl4.slots.size ≤ ((1 : Int32)).toNatClampNeg) := inb_of S4 ⟨by decide, by decide⟩
  obtain ⟨T5, h5, X5, e5, W5, st5⟩ := stC X3 hx hZ e3 Ar4 (j := (1 : Int32)) hin4 (g := (mkF m 29 #[.val (.long p0), .second, .val (.long p1), .second, .val (.int p2), .val (.int p3), .val (.int p4), .val (.int p5), .val (.ref b1), .unset, .unset, .unset, .unset, .unset, .unset, .unset, .unset] [(.int ((((p4.toUInt32 >>> ((8 : Int32) &&& 31).toUInt32).toInt32) &&& (255 : Int32)).toUInt32.toUInt16.toUInt32.toInt32)), (.int (1 : Int32)), (.ref b1)])) rfl rfl (hb hby at_29)
  have N5 := Fr.snoc X5 N3 g_b1
  have O5 := O3.wr W5 g_b1
  have K5 : Keep h0 h5 [] := K3.wr W5 (Or.inr sz_b1)
  have V_b1_5 : Arv Z h5 b1 k1 .char (2 : Int32) [(.int (nar .char ((p4 &&& (255 : Int32)).toUInt32.toUInt16.toUInt32.toInt32))), (.int (nar .char ((((p4.toUInt32 >>> ((8 : Int32) &&& 31).toUInt32).toInt32) &&& (255 : Int32)).toUInt32.toUInt16.toUInt32.toInt32)))] (.int (0 : Int32)) := Arv.set Ar4 q4 S4 Nn4 H4 G4 (fits_nar_char _) W5 1 rfl (Nat.le_of_ble_eq_true rfl)
  obtain ⟨T6, h6, X6, e6, E6, A6, D6, -, st6⟩ := newO X5 hx hZ hown (hw _ (List.mem_of_getElem? (i := 1) rfl)) (hw _ (List.mem_of_getElem? (i := 2) rfl)) (hw _ (List.mem_of_getElem? (i := 3) rfl)) e5 (g := (mkF m 30 #[.val (.long p0), .second, .val (.long p1), .second, .val (.int p2), .val (.int p3), .val (.int p4), .val (.int p5), .val (.ref b1), .unset, .unset, .unset, .unset, .unset, .unset, .unset, .unset] [])) rfl (hb hby at_30) (by decide) (by decide)
  obtain ⟨b6, g6⟩ : ∃ z, z = h5.size := ⟨_, rfl⟩
  rw [← g6] at A6 D6 st6
  have g_b6 : n0 ≤ b6 := Nat.le_trans (own_sz O5) (Nat.le_of_eq g6.symm)
  have sz_b6 : h0.size ≤ b6 := Nat.le_trans K5.1 (Nat.le_of_eq g6.symm)
  have O6 := O5.ext E6
  have K6 : Keep h0 h6 [] := K5.ext E6
  have F_coder_b6 : Fld Z h6 b6 "java/lang/String" "coder" "B" (.int (0 : Int32)) := D6 (Or.inr (hw _ (List.mem_of_getElem? (i := 27) rfl))) (ty := .byte) (by decide)
  have F_value_b6 : Fld Z h6 b6 "java/lang/String" "value" "[B" .null := D6 (Or.inr (hw _ (List.mem_of_getElem? (i := 29) rfl))) (ty := (.array .byte)) (by decide)
  obtain ⟨_, _, ⟨T7, L7, k7, n7⟩, -, X7, ⟨Lc7, hQ7, l7, y7, z7⟩, st7⟩ := X6.specialBack hx (y := y4) rfl hown (mvT hZ (hw _ (List.mem_of_getElem? (i := 4) rfl))) (mvT hZ (hw _ (List.mem_of_getElem? (i := 5) rfl))) (mvT hZ (hw _ (List.mem_of_getElem? (i := 6) rfl))) (by decide) (backOf (W := 1) (rm5 l Z a0 hw [] w_PENDING w_IGNORE cs_v hp b6 b1 k1 (nar .char ((p4 &&& (255 : Int32)).toUInt32.toUInt16.toUInt32.toInt32)) (nar .char ((((p4.toUInt32 >>> ((8 : Int32) &&& 31).toUInt32).toInt32) &&& (255 : Int32)).toUInt32.toUInt16.toUInt32.toInt32)) h6 n0 O6 (V_b1_5.ext E6) (own_ch2 p4) (own_ch2 ((p4.toUInt32 >>> ((8 : Int32) &&& 31).toUInt32).toInt32)) (((EA1.wr W3).wr W5).ext E6) A6 F_coder_b6 F_value_b6 g_b6) hZ (hw _ (List.mem_of_getElem? (i := 6) rfl)) (hw _ (List.mem_of_getElem? (i := 3) rfl)) (by decide) (by decide)) (g := (mkF m 36 #[.val (.long p0), .second, .val (.long p1), .second, .val (.int p2), .val (.int p3), .val (.int p4), .val (.int p5), .val (.ref b1), .unset, .unset, .unset, .unset, .unset, .unset, .unset, .unset] [(.ref b1), (.ref b6), (.ref b6)])) rfl (by rw [hml]; rfl) (Steps.refl _) (a := b6) (argsL := [(.ref b1)]) (rest := [(.ref b6)]) (lenOf pd_4 rfl) rfl (by show 2 * 0 + _ ≤ _; exact Nat.le_of_eq rfl) (hb hby at_36) (fun _ _ => ⟨rfl, e6, (by decide : 2 + 1 ≤ _), (by decide : 6 + 2 ≤ _)⟩)
  dsimp only [Pt.U, Pt.locs, Pt.cells, Pt.slots] at X7 l7 y7 z7 st7 hQ7
  subst l7 y7 z7
  obtain ⟨b7_0, kc7_0, rfl, Nq7, Kq7, sq_b7_0, fq7_0, fq7_1, fq7_2, fq7_3, fq7_4⟩ := hQ7
  have N7 := Fr.app N5 Nq7
  have g_b7_0 : n0 ≤ b7_0 := Nat.le_trans (own_sz O6) sq_b7_0
  have sz_b7_0 : h0.size ≤ b7_0 := Nat.le_trans K6.1 sq_b7_0
  have O7 := O6.keep Kq7 (allS g_b6 all0)
  have K7 : Keep h0 T7.heap [] := K6.trans Kq7 (allS (Or.inr sz_b6) all0)
  obtain ⟨_, _, ⟨T8, L8, k8, n8⟩, -, X8, ⟨Lc8, hQ8, l8, y8, z8⟩, st8⟩ := Jvm.LawKit.callS X7 hx (y := y8) hown (mvT hZ (hw _ (List.mem_of_getElem? (i := 30) rfl))) (mvT hZ (hw _ (List.mem_of_getElem? (i := 31) rfl))) (mvT hZ (hw _ (List.mem_of_getElem? (i := 3) rfl))) (mvT hZ (hw _ (List.mem_of_getElem? (i := 32) rfl))) (by decide) (backOf (W := 0) (rm9 l Z a0 hw [] w_PENDING w_IGNORE cs_v hp ((((p4.toUInt32 >>> ((16 : Int32) &&& 31).toUInt32).toInt32) &&& (255 : Int32)).toUInt32.toUInt16.toUInt32.toInt32) T7.heap n0 O7 (own_ch1 ((p4.toUInt32 >>> ((16 : Int32) &&& 31).toUInt32).toInt32))) hZ (hw _ (List.mem_of_getElem? (i := 32) rfl)) (hw _ (List.mem_of_getElem? (i := 3) rfl)) (by decide) (by decide)) (g := (mkF m 51 #[.val (.long p0), .second, .val (.long p1), .second, .val (.int p2), .val (.int p3), .val (.int p4), .val (.int p5), .val (.ref b1), .val (.ref b6), .unset, .unset, .unset, .unset, .unset, .unset, .unset] [(.int ((((p4.toUInt32 >>> ((16 : Int32) &&& 31).toUInt32).toInt32) &&& (255 : Int32)).toUInt32.toUInt16.toUInt32.toInt32))])) rfl (by rw [hml]; rfl) (argsL := [(.int ((((p4.toUInt32 >>> ((16 : Int32) &&& 31).toUInt32).toInt32) &&& (255 : Int32)).toUInt32.toUInt16.toUInt32.toInt32))]) (rest := []) (lenOf pd_8 rfl) rfl (by show 2 * 0 + _ ≤ _; exact Nat.le_of_eq rfl) (hb hby at_51) (fun _ _ => ⟨rfl, rfl, (by decide : 3 + 2 ≤ _), (by decide : 8 + 5 ≤ _)⟩)
  dsimp only [Pt.U, Pt.locs, Pt.cells, Pt.slots] at X8 l8 y8 z8 st8 hQ8
  subst l8 y8 z8
  obtain ⟨b8_0, b8_1, kc8_0, rfl, Nq8, Kq8, sq_b8_0, sq_b8_1, nq8_0, fq8_0, fq8_1, fq8_2, fq8_3, fq8_4⟩ := hQ8
  have N8 := Fr.app N7 Nq8
  have g_b8_0 : n0 ≤ b8_0 := Nat.le_trans (own_sz O7) sq_b8_0
  have sz_b8_0 : h0.size ≤ b8_0 := Nat.le_trans K7.1 sq_b8_0
  have g_b8_1 : n0 ≤ b8_1 := Nat.le_trans (own_sz O7) sq_b8_1
  have sz_b8_1 : h0.size ≤ b8_1 := Nat.le_trans K7.1 sq_b8_1
  have O8 := O7.keep Kq8 all0
  have K8 : Keep h0 T8.heap [] := K7.trans Kq8 all0
  obtain ⟨_, _, ⟨T9, L9, k9, n9⟩, -, X9, ⟨Lc9, hQ9, l9, y9, z9⟩, st9⟩ := Jvm.LawKit.callS X8 hx (y := y8) hown (mvT hZ (hw _ (List.mem_of_getElem? (i := 30) rfl))) (mvT hZ (hw _ (List.mem_of_getElem? (i := 31) rfl))) (mvT hZ (hw _ (List.mem_of_getElem? (i := 3) rfl))) (mvT hZ (hw _ (List.mem_of_getElem? (i := 32) rfl))) (by decide) (backOf (W := 0) (rm9 l Z a0 hw [] w_PENDING w_IGNORE cs_v hp ((((p4.toUInt32 >>> ((24 : Int32) &&& 31).toUInt32).toInt32) &&& (255 : Int32)).toUInt32.toUInt16.toUInt32.toInt32) T8.heap n0 O8 (own_ch1 ((p4.toUInt32 >>> ((24 : Int32) &&& 31).toUInt32).toInt32))) hZ (hw _ (List.mem_of_getElem? (i := 32) rfl)) (hw _ (List.mem_of_getElem? (i := 3) rfl)) (by decide) (by decide)) (g := (mkF m 66 #[.val (.long p0), .second, .val (.long p1), .second, .val (.int p2), .val (.int p3), .val (.int p4), .val (.int p5), .val (.ref b1), .val (.ref b6), .val (.ref b8_0), .unset, .unset, .unset, .unset, .unset, .unset] [(.int ((((p4.toUInt32 >>> ((24 : Int32) &&& 31).toUInt32).toInt32) &&& (255 : Int32)).toUInt32.toUInt16.toUInt32.toInt32))])) rfl (by rw [hml]; rfl) (argsL := [(.int ((((p4.toUInt32 >>> ((24 : Int32) &&& 31).toUInt32).toInt32) &&& (255 : Int32)).toUInt32.toUInt16.toUInt32.toInt32))]) (rest := []) (lenOf pd_8 rfl) rfl (by show 2 * 0 + _ ≤ _; exact Nat.le_of_eq rfl) (hb hby at_66) (fun _ _ => ⟨rfl, rfl, (by decide : 5 + 2 ≤ _), (by decide : 13 + 5 ≤ _)⟩)
  dsimp only [Pt.U, Pt.locs, Pt.cells, Pt.slots] at X9 l9 y9 z9 st9 hQ9
  subst l9 y9 z9
  obtain ⟨b9_0, b9_1, kc9_0, rfl, Nq9, Kq9, sq_b9_0, sq_b9_1, nq9_0, fq9_0, fq9_1, fq9_2, fq9_3, fq9_4⟩ := hQ9
  have N9 := Fr.app N8 Nq9
  have g_b9_0 : n0 ≤ b9_0 := Nat.le_trans (own_sz O8) sq_b9_0
  have sz_b9_0 : h0.size ≤ b9_0 := Nat.le_trans K8.1 sq_b9_0
  have g_b9_1 : n0 ≤ b9_1 := Nat.le_trans (own_sz O8) sq_b9_1
  have sz_b9_1 : h0.size ≤ b9_1 := Nat.le_trans K8.1 sq_b9_1
  have O9 := O8.keep Kq9 all0
  have K9 : Keep h0 T9.heap [] := K8.trans Kq9 all0
  obtain ⟨T10, X10, e10, st10⟩ := getS2 X9 hx hZ hown (host := "") (Or.inl (hw _ (List.mem_of_getElem? (i := 94) rfl))) Via.refl rfl (S_w_IGNORE.ext O9.2) (g := (mkF m 84 #[.val (.long p0), .second, .val (.long p1), .second, .val (.int p2), .val (.int p3), .val (.int p4), .val (.int p5), .val (.ref b1), .val (.ref b6), .val (.ref b8_0), .val (.ref b9_0), .unset, .unset, .unset, .unset, .unset] [])) rfl (hb hby at_84)
  obtain ⟨T11, h11, k11, X11, e11, E11, A11, EA11, st11⟩ := newPE X10 hx hZ (hw _ (List.mem_of_getElem? (i := 19) rfl)) e10 (g := (mkF m 90 #[.val (.long p0), .second, .val (.long p1), .second, .val (.int p2), .val (.int p3), .val (.int p4), .val (.int p5), .val (.ref b1), .val (.ref b6), .val (.ref b8_0), .val (.ref b9_0), .val (.ref w_IGNORE), .unset, .unset, .unset, .unset] [(.int (1 : Int32))])) rfl (hb hby at_90) rfl (by decide) (cap := 1) (by decide) (by decide) (by decide) (by decide) (ad := "[B") (by decide)
  obtain ⟨b11, g11⟩ : ∃ z, z = T9.heap.size := ⟨_, rfl⟩
  rw [← g11] at A11 EA11 st11
  have g_b11 : n0 ≤ b11 := Nat.le_trans (own_sz O9) (Nat.le_of_eq g11.symm)
  have sz_b11 : h0.size ≤ b11 := Nat.le_trans K9.1 (Nat.le_of_eq g11.symm)
  have O11 := O9.ext E11
  have K11 : Keep h0 h11 [] := K9.ext E11
  have V_b11 : Arv Z h11 b11 k11 .byte (1 : Int32) [(.int (0 : Int32))] (.int (0 : Int32)) := (Arv.new A11 (by decide)).pad (pad_rep [] (.int (0 : Int32)) 1)
  obtain ⟨cl12, Ar12, q12, S12, Nn12, H12, G12⟩ := id V_b11
  have hin12 : ¬ ((0 : Int32) < 0 ∨ cl12.slots.size ≤ ((0 : Int32)).toNatClampNeg) := inb_of S12 ⟨by decide, by decide⟩
  obtain ⟨T13, h13, X13, e13, W13, st13⟩ := stB X11 hx hZ e11 Ar12 (j := (0 : Int32)) hin12 (g := (mkF m 103 #[.val (.long p0), .second, .val (.long p1), .second, .val (.int p2), .val (.int p3), .val (.int p4), .val (.int p5), .val (.ref b1), .val (.ref b6), .val (.ref b8_0), .val (.ref b9_0), .val (.ref w_IGNORE), .val (.ref b11), .unset, .unset, .unset] [(.int (((p5.toUInt32 >>> ((8 : Int32) &&& 31).toUInt32).toInt32).toInt8.toInt32)), (.int (0 : Int32)), (.ref b11)])) rfl rfl (hb hby at_103)
  have N13 := Fr.snoc X13 N9 g_b11
  have O13 := O11.wr W13 g_b11
  have K13 : Keep h0 h13 [] := K11.wr W13 (Or.inr sz_b11)
  have V_b11_13 : Arv Z h13 b11 k11 .byte (1 : Int32) [(.int (nar .byte (((p5.toUInt32 >>> ((8 : Int32) &&& 31).toUInt32).toInt32).toInt8.toInt32)))] (.int (0 : Int32)) := Arv.set Ar12 q12 S12 Nn12 H12 G12 (fits_nar_byte _) W13 0 rfl (Nat.le_of_ble_eq_true rfl)
  obtain ⟨T14, h14, X14, e14, E14, A14, D14, -, st14⟩ := newO X13 hx hZ hown (hw _ (List.mem_of_getElem? (i := 47) rfl)) (hw _ (List.mem_of_getElem? (i := 48) rfl)) (hw _ (List.mem_of_getElem? (i := 49) rfl)) e13 (g := (mkF m 194 #[.val (.long p0), .second, .val (.long p1), .second, .val (.int p2), .val (.int p3), .val (.int p4), .val (.int p5), .val (.ref b1), .val (.ref b6), .val (.ref b8_0), .val (.ref b9_0), .val (.ref w_IGNORE), .val (.ref b11), .val (.int (0 : Int32)), .val (.int (1 : Int32)), .unset] [])) rfl (hb hby at_194) (by decide) (by decide)
  obtain ⟨b14, g14⟩ : ∃ z, z = h13.size := ⟨_, rfl⟩
  rw [← g14] at A14 D14 st14
  have g_b14 : n0 ≤ b14 := Nat.le_trans (own_sz O13) (Nat.le_of_eq g14.symm)
  have sz_b14 : h0.size ≤ b14 := Nat.le_trans K13.1 (Nat.le_of_eq g14.symm)
  have O14 := O13.ext E14
  have K14 : Keep h0 h14 [] := K13.ext E14
  have F_id_b14 : Fld Z h14 b14 "com/example/graph_job_runner/graphjobrunner/ClaimedNode" "id" "J" (.long (0 : Int64)) := D14 (Or.inr (hw _ (List.mem_of_getElem? (i := 58) rfl))) (ty := .long) (by decide)
  have F_runKey_b14 : Fld Z h14 b14 "com/example/graph_job_runner/graphjobrunner/ClaimedNode" "runKey" "Ljava/lang/String;" .null := D14 (Or.inr (hw _ (List.mem_of_getElem? (i := 60) rfl))) (ty := (.object "java/lang/String")) (by decide)
  have F_streamKey_b14 : Fld Z h14 b14 "com/example/graph_job_runner/graphjobrunner/ClaimedNode" "streamKey" "Ljava/lang/String;" .null := D14 (Or.inr (hw _ (List.mem_of_getElem? (i := 62) rfl))) (ty := (.object "java/lang/String")) (by decide)
  have F_position_b14 : Fld Z h14 b14 "com/example/graph_job_runner/graphjobrunner/ClaimedNode" "position" "J" (.long (0 : Int64)) := D14 (Or.inr (hw _ (List.mem_of_getElem? (i := 64) rfl))) (ty := .long) (by decide)
  have F_nodeKey_b14 : Fld Z h14 b14 "com/example/graph_job_runner/graphjobrunner/ClaimedNode" "nodeKey" "Ljava/lang/String;" .null := D14 (Or.inr (hw _ (List.mem_of_getElem? (i := 66) rfl))) (ty := (.object "java/lang/String")) (by decide)
  have F_processor_b14 : Fld Z h14 b14 "com/example/graph_job_runner/graphjobrunner/ClaimedNode" "processor" "Ljava/lang/String;" .null := D14 (Or.inr (hw _ (List.mem_of_getElem? (i := 68) rfl))) (ty := (.object "java/lang/String")) (by decide)
  have F_payload_b14 : Fld Z h14 b14 "com/example/graph_job_runner/graphjobrunner/ClaimedNode" "payload" "[B" .null := D14 (Or.inr (hw _ (List.mem_of_getElem? (i := 70) rfl))) (ty := (.array .byte)) (by decide)
  have F_attempt_b14 : Fld Z h14 b14 "com/example/graph_job_runner/graphjobrunner/ClaimedNode" "attempt" "I" (.int (0 : Int32)) := D14 (Or.inr (hw _ (List.mem_of_getElem? (i := 72) rfl))) (ty := .int) (by decide)
  have F_retryLimit_b14 : Fld Z h14 b14 "com/example/graph_job_runner/graphjobrunner/ClaimedNode" "retryLimit" "I" (.int (0 : Int32)) := D14 (Or.inr (hw _ (List.mem_of_getElem? (i := 74) rfl))) (ty := .int) (by decide)
  have F_failStrategy_b14 : Fld Z h14 b14 "com/example/graph_job_runner/graphjobrunner/ClaimedNode" "failStrategy" "Lcom/example/graph_job_runner/graphjobrunner/FailStrategy;" .null := D14 (Or.inr (hw _ (List.mem_of_getElem? (i := 76) rfl))) (ty := (.object "com/example/graph_job_runner/graphjobrunner/FailStrategy")) (by decide)
  have F_hasChildren_b14 : Fld Z h14 b14 "com/example/graph_job_runner/graphjobrunner/ClaimedNode" "hasChildren" "Z" (.int (0 : Int32)) := D14 (Or.inr (hw _ (List.mem_of_getElem? (i := 78) rfl))) (ty := .boolean) (by decide)
  obtain ⟨_, _, ⟨T15, L15, k15, n15⟩, -, X15, ⟨Lc15, hQ15, l15, y15, z15⟩, st15⟩ := X14.specialBack hx (y := y10) rfl hown (mvT hZ (hw _ (List.mem_of_getElem? (i := 50) rfl))) (mvT hZ (hw _ (List.mem_of_getElem? (i := 51) rfl))) (mvT hZ (hw _ (List.mem_of_getElem? (i := 52) rfl))) (by decide) (backOf (W := 1) (rm34 l Z a0 hw [] w_PENDING w_IGNORE cs_v hp b14 p0 b6 b8_0 b9_0 b11 p2 p3 h14 n0 O14 A14 F_id_b14 F_runKey_b14 F_streamKey_b14 F_position_b14 F_nodeKey_b14 F_processor_b14 F_payload_b14 F_attempt_b14 F_retryLimit_b14 F_failStrategy_b14 F_hasChildren_b14 g_b14) hZ (hw _ (List.mem_of_getElem? (i := 52) rfl)) (hw _ (List.mem_of_getElem? (i := 49) rfl)) (by decide) (by decide)) (g := (mkF m 215 #[.val (.long p0), .second, .val (.long p1), .second, .val (.int p2), .val (.int p3), .val (.int p4), .val (.int p5), .val (.ref b1), .val (.ref b6), .val (.ref b8_0), .val (.ref b9_0), .val (.ref w_IGNORE), .val (.ref b11), .val (.int (0 : Int32)), .val (.int (1 : Int32)), .unset] [(.int (1 : Int32)), (.ref w_IGNORE), (.int p3), (.int p2), (.ref b11), (.ref b9_0), (.ref b8_0), (.ref b6), (.long p0), (.ref b14), (.ref b14)])) rfl (by rw [hml]; rfl) (Steps.refl _) (a := b14) (argsL := [(.long p0), (.ref b6), (.ref b8_0), (.ref b9_0), (.ref b11), (.int p2), (.int p3), (.ref w_IGNORE), (.int (1 : Int32))]) (rest := [(.ref b14)]) (lenOf pd_10 rfl) rfl (by show 2 * 0 + _ ≤ _; exact Nat.le_of_eq rfl) (hb hby at_215) (fun _ _ => ⟨rfl, e14, (by decide : 9 + 0 ≤ _), (by decide : 30 + 0 ≤ _)⟩)
  dsimp only [Pt.U, Pt.locs, Pt.cells, Pt.slots] at X15 l15 y15 z15 st15 hQ15
  subst l15 y15 z15
  obtain ⟨rfl, Nq15, Kq15, fq15_0, fq15_1, fq15_2, fq15_3, fq15_4, fq15_5, fq15_6, fq15_7, fq15_8, fq15_9, fq15_10, fq15_11⟩ := hQ15
  have N15 := Fr.app N13 Nq15
  have O15 := O14.keep Kq15 (allS g_b14 all0)
  have K15 : Keep h0 T15.heap [] := K14.trans Kq15 (allS (Or.inr sz_b14) all0)
  obtain ⟨cq16, kq16, q16a, q16b, q16c⟩ := isOf hZ rfl fq15_0
  obtain ⟨_, _, ⟨T16, L16, k16, n16⟩, -, X16, ⟨Lc16, hQ16, l16, y16, z16⟩, st16⟩ := X15.virtualBack hx (y := y11) (z := y11) hown (mvT hZ (hw _ (List.mem_of_getElem? (i := 79) rfl))) (mvT hZ (hw _ (List.mem_of_getElem? (i := 80) rfl))) (notFace_of_selects (args := #[]) (mvT hZ (hw _ (List.mem_of_getElem? (i := 82) rfl)))) (mvT hZ (hw _ (List.mem_of_getElem? (i := 82) rfl))) (mvT hZ (hw _ (List.mem_of_getElem? (i := 81) rfl))) (by decide) (backOf (W := 0) (rm12 l Z a0 hw [] w_PENDING w_IGNORE cs_v hp b14 T15.heap n0 O15 fq15_11) hZ (hw _ (List.mem_of_getElem? (i := 83) rfl)) (hw _ (List.mem_of_getElem? (i := 49) rfl)) (by decide) (by decide)) q16a q16c (g := (mkF m 222 #[.val (.long p0), .second, .val (.long p1), .second, .val (.int p2), .val (.int p3), .val (.int p4), .val (.int p5), .val (.ref b1), .val (.ref b6), .val (.ref b8_0), .val (.ref b9_0), .val (.ref w_IGNORE), .val (.ref b11), .val (.int (0 : Int32)), .val (.int (1 : Int32)), .val (.ref b14)] [(.ref b14)])) rfl (by rw [hml]; rfl) (Steps.refl _) (argsL := []) (rest := []) (lenOf pd_11 rfl) rfl (by show 2 * 0 + _ ≤ _; exact Nat.le_of_eq rfl) (hb hby at_222) (fun _ _ => ⟨rfl, rfl, (by decide : 9 + 0 ≤ _), (by decide : 30 + 0 ≤ _)⟩)
  dsimp only [Pt.U, Pt.locs, Pt.cells, Pt.slots] at X16 l16 y16 z16 st16 hQ16
  subst l16 y16 z16
  obtain ⟨rfl, Nq16, eq16⟩ := hQ16
  have N16 := Fr.app N15 Nq16
  obtain ⟨cq17, kq17, q17a, q17b, q17c⟩ := isOf hZ eq16 fq15_0
  obtain ⟨_, _, ⟨T17, L17, k17, n17⟩, -, X17, ⟨Lc17, hQ17, l17, y17, z17⟩, st17⟩ := X16.virtualBack hx (y := y12) (z := y12) hown (mvT hZ (hw _ (List.mem_of_getElem? (i := 84) rfl))) (mvT hZ (hw _ (List.mem_of_getElem? (i := 85) rfl))) (notFace_of_selects (args := #[]) (mvT hZ (hw _ (List.mem_of_getElem? (i := 87) rfl)))) (mvT hZ (hw _ (List.mem_of_getElem? (i := 87) rfl))) (mvT hZ (hw _ (List.mem_of_getElem? (i := 86) rfl))) (by decide) (backOf (W := 0) (rm13 l Z a0 hw [] w_PENDING w_IGNORE cs_v hp b14 b6 T15.heap n0 O15 fq15_10) hZ (hw _ (List.mem_of_getElem? (i := 88) rfl)) (hw _ (List.mem_of_getElem? (i := 49) rfl)) (by decide) (by decide)) q17a q17c (g := (mkF m 230 #[.val (.long p0), .second, .val (.long p1), .second, .val (.int p2), .val (.int p3), .val (.int p4), .val (.int p5), .val (.ref b1), .val (.ref b6), .val (.ref b8_0), .val (.ref b9_0), .val (.ref w_IGNORE), .val (.ref b11), .val (.int (0 : Int32)), .val (.int (1 : Int32)), .val (.ref b14)] [(.ref b14)])) rfl (by rw [hml]; rfl) (Steps.refl _) (argsL := []) (rest := []) (lenOf pd_12 rfl) rfl (by show 2 * 0 + _ ≤ _; exact Nat.le_of_eq rfl) (hb hby at_230) (fun _ _ => ⟨rfl, eq16, (by decide : 9 + 0 ≤ _), (by decide : 30 + 0 ≤ _)⟩)
  dsimp only [Pt.U, Pt.locs, Pt.cells, Pt.slots] at X17 l17 y17 z17 st17 hQ17
  subst l17 y17 z17
  obtain ⟨rfl, Nq17, eq17⟩ := hQ17
  have N17 := Fr.app N16 Nq17
  obtain ⟨cq18, kq18, q18a, q18b, q18c⟩ := isOf hZ eq17 fq15_0
  obtain ⟨_, _, ⟨T18, L18, k18, n18⟩, -, X18, ⟨Lc18, hQ18, l18, y18, z18⟩, st18⟩ := X17.virtualBack hx (y := y13) (z := y13) hown (mvT hZ (hw _ (List.mem_of_getElem? (i := 89) rfl))) (mvT hZ (hw _ (List.mem_of_getElem? (i := 90) rfl))) (notFace_of_selects (args := #[]) (mvT hZ (hw _ (List.mem_of_getElem? (i := 92) rfl)))) (mvT hZ (hw _ (List.mem_of_getElem? (i := 92) rfl))) (mvT hZ (hw _ (List.mem_of_getElem? (i := 91) rfl))) (by decide) (backOf (W := 0) (rm14 l Z a0 hw [] w_PENDING w_IGNORE cs_v hp b14 T15.heap n0 O15 fq15_11) hZ (hw _ (List.mem_of_getElem? (i := 93) rfl)) (hw _ (List.mem_of_getElem? (i := 49) rfl)) (by decide) (by decide)) q18a q18c (g := (mkF m 240 #[.val (.long p0), .second, .val (.long p1), .second, .val (.int p2), .val (.int p3), .val (.int p4), .val (.int p5), .val (.ref b1), .val (.ref b6), .val (.ref b8_0), .val (.ref b9_0), .val (.ref w_IGNORE), .val (.ref b11), .val (.int (0 : Int32)), .val (.int (1 : Int32)), .val (.ref b14)] [(.ref b14)])) rfl (by rw [hml]; rfl) (Steps.refl _) (argsL := []) (rest := []) (lenOf pd_12 rfl) rfl (by show 2 * 0 + _ ≤ _; exact Nat.le_of_eq rfl) (hb hby at_240) (fun _ _ => ⟨rfl, eq17, (by decide : 9 + 0 ≤ _), (by decide : 30 + 0 ≤ _)⟩)
  dsimp only [Pt.U, Pt.locs, Pt.cells, Pt.slots] at X18 l18 y18 z18 st18 hQ18
  subst l18 y18 z18
  obtain ⟨rfl, Nq18, eq18⟩ := hQ18
  have N18 := Fr.app N17 Nq18
  obtain ⟨fs, hr, hrun, hended, hW, hsame⟩ := X18.leave (v := some (.int (1 : Int32))) (fun h => by rw [Bd.returns] at h; cases h)
  refine ⟨_, _, pre0 _ ?_, hrun, hended, _, _, rfl, ?_, ⟨_, rfl⟩, hW, hsame.mono (by decide) (by decide)⟩
  · show Sp p e below s₁ (mkF m 0 #[.val (.long p0), .second, .val (.long p1), .second, .val (.int p2), .val (.int p3), .val (.int p4), .val (.int p5), .unset, .unset, .unset, .unset, .unset, .unset, .unset, .unset, .unset] []) _
    refine XS.iconst X0.here hx rfl (hb hby at_0) ?_
    show Sp p e below s₁ (mkF m 1 #[.val (.long p0), .second, .val (.long p1), .second, .val (.int p2), .val (.int p3), .val (.int p4), .val (.int p5), .unset, .unset, .unset, .unset, .unset, .unset, .unset, .unset, .unset] [(.int (2 : Int32))]) _
    refine st1 _ ?_
    show Sp p e below T1 (mkF m 3 #[.val (.long p0), .second, .val (.long p1), .second, .val (.int p2), .val (.int p3), .val (.int p4), .val (.int p5), .unset, .unset, .unset, .unset, .unset, .unset, .unset, .unset, .unset] [(.ref b1)]) _
    refine XS.astore X1.here hx rfl (hb hby at_3) rfl rfl (l' := #[.val (.long p0), .second, .val (.long p1), .second, .val (.int p2), .val (.int p3), .val (.int p4), .val (.int p5), .val (.ref b1), .unset, .unset, .unset, .unset, .unset, .unset, .unset, .unset]) rfl ?_
    refine XS.aload X1.here hx rfl (hb hby at_5) rfl rfl ?_
    refine XS.iconst X1.here hx rfl (hb hby at_7) ?_
    refine XS.iload X1.here hx rfl (hb hby at_8) rfl ?_
    refine XS.sipush X1.here hx rfl (hb hby at_10) ?_
    show Sp p e below T1 (mkF m 13 #[.val (.long p0), .second, .val (.long p1), .second, .val (.int p2), .val (.int p3), .val (.int p4), .val (.int p5), .val (.ref b1), .unset, .unset, .unset, .unset, .unset, .unset, .unset, .unset] [(.int (255 : Int32)), (.int p4), (.int (0 : Int32)), (.ref b1)]) _
    refine XS.iand X1.here hx rfl (hb hby at_13) rfl ?_
    show Sp p e below T1 (mkF m 14 #[.val (.long p0), .second, .val (.long p1), .second, .val (.int p2), .val (.int p3), .val (.int p4), .val (.int p5), .val (.ref b1), .unset, .unset, .unset, .unset, .unset, .unset, .unset, .unset] [(.int (p4 &&& (255 : Int32))), (.int (0 : Int32)), (.ref b1)]) _
    refine XS.i2c X1.here hx rfl (hb hby at_14) rfl ?_
    show Sp p e below T1 (mkF m 15 #[.val (.long p0), .second, .val (.long p1), .second, .val (.int p2), .val (.int p3), .val (.int p4), .val (.int p5), .val (.ref b1), .unset, .unset, .unset, .unset, .unset, .unset, .unset, .unset] [(.int ((p4 &&& (255 : Int32)).toUInt32.toUInt16.toUInt32.toInt32)), (.int (0 : Int32)), (.ref b1)]) _
    refine st3 _ ?_
    show Sp p e below T3 (mkF m 16 #[.val (.long p0), .second, .val (.long p1), .second, .val (.int p2), .val (.int p3), .val (.int p4), .val (.int p5), .val (.ref b1), .unset, .unset, .unset, .unset, .unset, .unset, .unset, .unset] []) _
    refine XS.aload X3.here hx rfl (hb hby at_16) rfl rfl ?_
    refine XS.iconst X3.here hx rfl (hb hby at_18) ?_
    refine XS.iload X3.here hx rfl (hb hby at_19) rfl ?_
    refine XS.bipush X3.here hx rfl (hb hby at_21) ?_
    show Sp p e below T3 (mkF m 23 #[.val (.long p0), .second, .val (.long p1), .second, .val (.int p2), .val (.int p3), .val (.int p4), .val (.int p5), .val (.ref b1), .unset, .unset, .unset, .unset, .unset, .unset, .unset, .unset] [(.int (8 : Int32)), (.int p4), (.int (1 : Int32)), (.ref b1)]) _
    refine XS.iushr X3.here hx rfl (hb hby at_23) rfl ?_
    refine XS.sipush X3.here hx rfl (hb hby at_24) ?_
    show Sp p e below T3 (mkF m 27 #[.val (.long p0), .second, .val (.long p1), .second, .val (.int p2), .val (.int p3), .val (.int p4), .val (.int p5), .val (.ref b1), .unset, .unset, .unset, .unset, .unset, .unset, .unset, .unset] [(.int (255 : Int32)), (.int ((p4.toUInt32 >>> ((8 : Int32) &&& 31).toUInt32).toInt32)), (.int (1 : Int32)), (.ref b1)]) _
    refine XS.iand X3.here hx rfl (hb hby at_27) rfl ?_
    show Sp p e below T3 (mkF m 28 #[.val (.long p0), .second, .val (.long p1), .second, .val (.int p2), .val (.int p3), .val (.int p4), .val (.int p5), .val (.ref b1), .unset, .unset, .unset, .unset, .unset, .unset, .unset, .unset] [(.int (((p4.toUInt32 >>> ((8 : Int32) &&& 31).toUInt32).toInt32) &&& (255 : Int32))), (.int (1 : Int32)), (.ref b1)]) _
    refine XS.i2c X3.here hx rfl (hb hby at_28) rfl ?_
    show Sp p e below T3 (mkF m 29 #[.val (.long p0), .second, .val (.long p1), .second, .val (.int p2), .val (.int p3), .val (.int p4), .val (.int p5), .val (.ref b1), .unset, .unset, .unset, .unset, .unset, .unset, .unset, .unset] [(.int ((((p4.toUInt32 >>> ((8 : Int32) &&& 31).toUInt32).toInt32) &&& (255 : Int32)).toUInt32.toUInt16.toUInt32.toInt32)), (.int (1 : Int32)), (.ref b1)]) _
    refine st5 _ ?_
    show Sp p e below T5 (mkF m 30 #[.val (.long p0), .second, .val (.long p1), .second, .val (.int p2), .val (.int p3), .val (.int p4), .val (.int p5), .val (.ref b1), .unset, .unset, .unset, .unset, .unset, .unset, .unset, .unset] []) _
    refine st6 _ ?_
    show Sp p e below T6 (mkF m 33 #[.val (.long p0), .second, .val (.long p1), .second, .val (.int p2), .val (.int p3), .val (.int p4), .val (.int p5), .val (.ref b1), .unset, .unset, .unset, .unset, .unset, .unset, .unset, .unset] [(.ref b6)]) _
    refine XS.dup X6.here hx rfl (hb hby at_33) rfl rfl ?_
    refine XS.aload X6.here hx rfl (hb hby at_34) rfl rfl ?_
    show Sp p e below T6 (mkF m 36 #[.val (.long p0), .second, .val (.long p1), .second, .val (.int p2), .val (.int p3), .val (.int p4), .val (.int p5), .val (.ref b1), .unset, .unset, .unset, .unset, .unset, .unset, .unset, .unset] [(.ref b1), (.ref b6), (.ref b6)]) _
    refine st7.trans ?_
    show Sp p e below T7 (mkF m 39 #[.val (.long p0), .second, .val (.long p1), .second, .val (.int p2), .val (.int p3), .val (.int p4), .val (.int p5), .val (.ref b1), .unset, .unset, .unset, .unset, .unset, .unset, .unset, .unset] [(.ref b6)]) _
    refine XS.astore X7.here hx rfl (hb hby at_39) rfl rfl (l' := #[.val (.long p0), .second, .val (.long p1), .second, .val (.int p2), .val (.int p3), .val (.int p4), .val (.int p5), .val (.ref b1), .val (.ref b6), .unset, .unset, .unset, .unset, .unset, .unset, .unset]) rfl ?_
    refine XS.iload X7.here hx rfl (hb hby at_41) rfl ?_
    refine XS.bipush X7.here hx rfl (hb hby at_43) ?_
    show Sp p e below T7 (mkF m 45 #[.val (.long p0), .second, .val (.long p1), .second, .val (.int p2), .val (.int p3), .val (.int p4), .val (.int p5), .val (.ref b1), .val (.ref b6), .unset, .unset, .unset, .unset, .unset, .unset, .unset] [(.int (16 : Int32)), (.int p4)]) _
    refine XS.iushr X7.here hx rfl (hb hby at_45) rfl ?_
    refine XS.sipush X7.here hx rfl (hb hby at_46) ?_
    show Sp p e below T7 (mkF m 49 #[.val (.long p0), .second, .val (.long p1), .second, .val (.int p2), .val (.int p3), .val (.int p4), .val (.int p5), .val (.ref b1), .val (.ref b6), .unset, .unset, .unset, .unset, .unset, .unset, .unset] [(.int (255 : Int32)), (.int ((p4.toUInt32 >>> ((16 : Int32) &&& 31).toUInt32).toInt32))]) _
    refine XS.iand X7.here hx rfl (hb hby at_49) rfl ?_
    show Sp p e below T7 (mkF m 50 #[.val (.long p0), .second, .val (.long p1), .second, .val (.int p2), .val (.int p3), .val (.int p4), .val (.int p5), .val (.ref b1), .val (.ref b6), .unset, .unset, .unset, .unset, .unset, .unset, .unset] [(.int (((p4.toUInt32 >>> ((16 : Int32) &&& 31).toUInt32).toInt32) &&& (255 : Int32)))]) _
    refine XS.i2c X7.here hx rfl (hb hby at_50) rfl ?_
    show Sp p e below T7 (mkF m 51 #[.val (.long p0), .second, .val (.long p1), .second, .val (.int p2), .val (.int p3), .val (.int p4), .val (.int p5), .val (.ref b1), .val (.ref b6), .unset, .unset, .unset, .unset, .unset, .unset, .unset] [(.int ((((p4.toUInt32 >>> ((16 : Int32) &&& 31).toUInt32).toInt32) &&& (255 : Int32)).toUInt32.toUInt16.toUInt32.toInt32))]) _
    refine st8 _ ?_
    show Sp p e below T8 (mkF m 54 #[.val (.long p0), .second, .val (.long p1), .second, .val (.int p2), .val (.int p3), .val (.int p4), .val (.int p5), .val (.ref b1), .val (.ref b6), .unset, .unset, .unset, .unset, .unset, .unset, .unset] [(.ref b8_0)]) _
    refine XS.astore X8.here hx rfl (hb hby at_54) rfl rfl (l' := #[.val (.long p0), .second, .val (.long p1), .second, .val (.int p2), .val (.int p3), .val (.int p4), .val (.int p5), .val (.ref b1), .val (.ref b6), .val (.ref b8_0), .unset, .unset, .unset, .unset, .unset, .unset]) rfl ?_
    refine XS.iload X8.here hx rfl (hb hby at_56) rfl ?_
    refine XS.bipush X8.here hx rfl (hb hby at_58) ?_
    show Sp p e below T8 (mkF m 60 #[.val (.long p0), .second, .val (.long p1), .second, .val (.int p2), .val (.int p3), .val (.int p4), .val (.int p5), .val (.ref b1), .val (.ref b6), .val (.ref b8_0), .unset, .unset, .unset, .unset, .unset, .unset] [(.int (24 : Int32)), (.int p4)]) _
    refine XS.iushr X8.here hx rfl (hb hby at_60) rfl ?_
    refine XS.sipush X8.here hx rfl (hb hby at_61) ?_
    show Sp p e below T8 (mkF m 64 #[.val (.long p0), .second, .val (.long p1), .second, .val (.int p2), .val (.int p3), .val (.int p4), .val (.int p5), .val (.ref b1), .val (.ref b6), .val (.ref b8_0), .unset, .unset, .unset, .unset, .unset, .unset] [(.int (255 : Int32)), (.int ((p4.toUInt32 >>> ((24 : Int32) &&& 31).toUInt32).toInt32))]) _
    refine XS.iand X8.here hx rfl (hb hby at_64) rfl ?_
    show Sp p e below T8 (mkF m 65 #[.val (.long p0), .second, .val (.long p1), .second, .val (.int p2), .val (.int p3), .val (.int p4), .val (.int p5), .val (.ref b1), .val (.ref b6), .val (.ref b8_0), .unset, .unset, .unset, .unset, .unset, .unset] [(.int (((p4.toUInt32 >>> ((24 : Int32) &&& 31).toUInt32).toInt32) &&& (255 : Int32)))]) _
    refine XS.i2c X8.here hx rfl (hb hby at_65) rfl ?_
    show Sp p e below T8 (mkF m 66 #[.val (.long p0), .second, .val (.long p1), .second, .val (.int p2), .val (.int p3), .val (.int p4), .val (.int p5), .val (.ref b1), .val (.ref b6), .val (.ref b8_0), .unset, .unset, .unset, .unset, .unset, .unset] [(.int ((((p4.toUInt32 >>> ((24 : Int32) &&& 31).toUInt32).toInt32) &&& (255 : Int32)).toUInt32.toUInt16.toUInt32.toInt32))]) _
    refine st9 _ ?_
    show Sp p e below T9 (mkF m 69 #[.val (.long p0), .second, .val (.long p1), .second, .val (.int p2), .val (.int p3), .val (.int p4), .val (.int p5), .val (.ref b1), .val (.ref b6), .val (.ref b8_0), .unset, .unset, .unset, .unset, .unset, .unset] [(.ref b9_0)]) _
    refine XS.astore X9.here hx rfl (hb hby at_69) rfl rfl (l' := #[.val (.long p0), .second, .val (.long p1), .second, .val (.int p2), .val (.int p3), .val (.int p4), .val (.int p5), .val (.ref b1), .val (.ref b6), .val (.ref b8_0), .val (.ref b9_0), .unset, .unset, .unset, .unset, .unset]) rfl ?_
    refine XS.iload X9.here hx rfl (hb hby at_71) rfl ?_
    refine XS.iconst X9.here hx rfl (hb hby at_73) ?_
    show Sp p e below T9 (mkF m 74 #[.val (.long p0), .second, .val (.long p1), .second, .val (.int p2), .val (.int p3), .val (.int p4), .val (.int p5), .val (.ref b1), .val (.ref b6), .val (.ref b8_0), .val (.ref b9_0), .unset, .unset, .unset, .unset, .unset] [(.int (2 : Int32)), (.int p5)]) _
    refine XS.iand X9.here hx rfl (hb hby at_74) rfl ?_
    show Sp p e below T9 (mkF m 75 #[.val (.long p0), .second, .val (.long p1), .second, .val (.int p2), .val (.int p3), .val (.int p4), .val (.int p5), .val (.ref b1), .val (.ref b6), .val (.ref b8_0), .val (.ref b9_0), .unset, .unset, .unset, .unset, .unset] [(.int (p5 &&& (2 : Int32)))]) _
    refine XS.ifYes X9.here hx rfl (pc0 := 75) (pc' := 84) rfl (hb hby at_75) rfl ((if0 _ _).trans (teq hc1).1) (by decide) (by decide) ?_
    show Sp p e below T9 (mkF m 84 #[.val (.long p0), .second, .val (.long p1), .second, .val (.int p2), .val (.int p3), .val (.int p4), .val (.int p5), .val (.ref b1), .val (.ref b6), .val (.ref b8_0), .val (.ref b9_0), .unset, .unset, .unset, .unset, .unset] []) _
    refine st10 _ ?_
    show Sp p e below T10 (mkF m 87 #[.val (.long p0), .second, .val (.long p1), .second, .val (.int p2), .val (.int p3), .val (.int p4), .val (.int p5), .val (.ref b1), .val (.ref b6), .val (.ref b8_0), .val (.ref b9_0), .unset, .unset, .unset, .unset, .unset] [(.ref w_IGNORE)]) _
    refine XS.astore X10.here hx rfl (hb hby at_87) rfl rfl (l' := #[.val (.long p0), .second, .val (.long p1), .second, .val (.int p2), .val (.int p3), .val (.int p4), .val (.int p5), .val (.ref b1), .val (.ref b6), .val (.ref b8_0), .val (.ref b9_0), .val (.ref w_IGNORE), .unset, .unset, .unset, .unset]) rfl ?_
    refine XS.iconst X10.here hx rfl (hb hby at_89) ?_
    show Sp p e below T10 (mkF m 90 #[.val (.long p0), .second, .val (.long p1), .second, .val (.int p2), .val (.int p3), .val (.int p4), .val (.int p5), .val (.ref b1), .val (.ref b6), .val (.ref b8_0), .val (.ref b9_0), .val (.ref w_IGNORE), .unset, .unset, .unset, .unset] [(.int (1 : Int32))]) _
    refine st11 _ ?_
    show Sp p e below T11 (mkF m 92 #[.val (.long p0), .second, .val (.long p1), .second, .val (.int p2), .val (.int p3), .val (.int p4), .val (.int p5), .val (.ref b1), .val (.ref b6), .val (.ref b8_0), .val (.ref b9_0), .val (.ref w_IGNORE), .unset, .unset, .unset, .unset] [(.ref b11)]) _
    refine XS.astore X11.here hx rfl (hb hby at_92) rfl rfl (l' := #[.val (.long p0), .second, .val (.long p1), .second, .val (.int p2), .val (.int p3), .val (.int p4), .val (.int p5), .val (.ref b1), .val (.ref b6), .val (.ref b8_0), .val (.ref b9_0), .val (.ref w_IGNORE), .val (.ref b11), .unset, .unset, .unset]) rfl ?_
    refine XS.aload X11.here hx rfl (hb hby at_94) rfl rfl ?_
    refine XS.iconst X11.here hx rfl (hb hby at_96) ?_
    refine XS.iload X11.here hx rfl (hb hby at_97) rfl ?_
    refine XS.bipush X11.here hx rfl (hb hby at_99) ?_
    show Sp p e below T11 (mkF m 101 #[.val (.long p0), .second, .val (.long p1), .second, .val (.int p2), .val (.int p3), .val (.int p4), .val (.int p5), .val (.ref b1), .val (.ref b6), .val (.ref b8_0), .val (.ref b9_0), .val (.ref w_IGNORE), .val (.ref b11), .unset, .unset, .unset] [(.int (8 : Int32)), (.int p5), (.int (0 : Int32)), (.ref b11)]) _
    refine XS.iushr X11.here hx rfl (hb hby at_101) rfl ?_
    show Sp p e below T11 (mkF m 102 #[.val (.long p0), .second, .val (.long p1), .second, .val (.int p2), .val (.int p3), .val (.int p4), .val (.int p5), .val (.ref b1), .val (.ref b6), .val (.ref b8_0), .val (.ref b9_0), .val (.ref w_IGNORE), .val (.ref b11), .unset, .unset, .unset] [(.int ((p5.toUInt32 >>> ((8 : Int32) &&& 31).toUInt32).toInt32)), (.int (0 : Int32)), (.ref b11)]) _
    refine XS.i2b X11.here hx rfl (hb hby at_102) rfl ?_
    show Sp p e below T11 (mkF m 103 #[.val (.long p0), .second, .val (.long p1), .second, .val (.int p2), .val (.int p3), .val (.int p4), .val (.int p5), .val (.ref b1), .val (.ref b6), .val (.ref b8_0), .val (.ref b9_0), .val (.ref w_IGNORE), .val (.ref b11), .unset, .unset, .unset] [(.int (((p5.toUInt32 >>> ((8 : Int32) &&& 31).toUInt32).toInt32).toInt8.toInt32)), (.int (0 : Int32)), (.ref b11)]) _
    refine st13 _ ?_
    show Sp p e below T13 (mkF m 104 #[.val (.long p0), .second, .val (.long p1), .second, .val (.int p2), .val (.int p3), .val (.int p4), .val (.int p5), .val (.ref b1), .val (.ref b6), .val (.ref b8_0), .val (.ref b9_0), .val (.ref w_IGNORE), .val (.ref b11), .unset, .unset, .unset] []) _
    refine XS.iload X13.here hx rfl (hb hby at_104) rfl ?_
    refine XS.iconst X13.here hx rfl (hb hby at_106) ?_
    show Sp p e below T13 (mkF m 107 #[.val (.long p0), .second, .val (.long p1), .second, .val (.int p2), .val (.int p3), .val (.int p4), .val (.int p5), .val (.ref b1), .val (.ref b6), .val (.ref b8_0), .val (.ref b9_0), .val (.ref w_IGNORE), .val (.ref b11), .unset, .unset, .unset] [(.int (1 : Int32)), (.int p5)]) _
    refine XS.iand X13.here hx rfl (hb hby at_107) rfl ?_
    show Sp p e below T13 (mkF m 108 #[.val (.long p0), .second, .val (.long p1), .second, .val (.int p2), .val (.int p3), .val (.int p4), .val (.int p5), .val (.ref b1), .val (.ref b6), .val (.ref b8_0), .val (.ref b9_0), .val (.ref w_IGNORE), .val (.ref b11), .unset, .unset, .unset] [(.int (p5 &&& (1 : Int32)))]) _
    refine XS.ifYes X13.here hx rfl (pc0 := 108) (pc' := 115) rfl (hb hby at_108) rfl ((if0 _ _).trans (teq hc2).1) (by decide) (by decide) ?_
    refine XS.iconst X13.here hx rfl (hb hby at_115) ?_
    show Sp p e below T13 (mkF m 116 #[.val (.long p0), .second, .val (.long p1), .second, .val (.int p2), .val (.int p3), .val (.int p4), .val (.int p5), .val (.ref b1), .val (.ref b6), .val (.ref b8_0), .val (.ref b9_0), .val (.ref w_IGNORE), .val (.ref b11), .unset, .unset, .unset] [(.int (0 : Int32))]) _
    refine XS.istore X13.here hx rfl (hb hby at_116) rfl (l' := #[.val (.long p0), .second, .val (.long p1), .second, .val (.int p2), .val (.int p3), .val (.int p4), .val (.int p5), .val (.ref b1), .val (.ref b6), .val (.ref b8_0), .val (.ref b9_0), .val (.ref w_IGNORE), .val (.ref b11), .val (.int (0 : Int32)), .unset, .unset]) rfl ?_
    refine XS.iload X13.here hx rfl (hb hby at_118) rfl ?_
    refine XS.iconst X13.here hx rfl (hb hby at_120) ?_
    show Sp p e below T13 (mkF m 121 #[.val (.long p0), .second, .val (.long p1), .second, .val (.int p2), .val (.int p3), .val (.int p4), .val (.int p5), .val (.ref b1), .val (.ref b6), .val (.ref b8_0), .val (.ref b9_0), .val (.ref w_IGNORE), .val (.ref b11), .val (.int (0 : Int32)), .unset, .unset] [(.int (4 : Int32)), (.int p5)]) _
    refine XS.iand X13.here hx rfl (hb hby at_121) rfl ?_
    show Sp p e below T13 (mkF m 122 #[.val (.long p0), .second, .val (.long p1), .second, .val (.int p2), .val (.int p3), .val (.int p4), .val (.int p5), .val (.ref b1), .val (.ref b6), .val (.ref b8_0), .val (.ref b9_0), .val (.ref w_IGNORE), .val (.ref b11), .val (.int (0 : Int32)), .unset, .unset] [(.int (p5 &&& (4 : Int32)))]) _
    refine XS.ifNo X13.here hx rfl (hb hby at_122) rfl ((if0 _ _).trans (feq hc3).1) ?_
    refine XS.iconst X13.here hx rfl (hb hby at_125) ?_
    show Sp p e below T13 (mkF m 126 #[.val (.long p0), .second, .val (.long p1), .second, .val (.int p2), .val (.int p3), .val (.int p4), .val (.int p5), .val (.ref b1), .val (.ref b6), .val (.ref b8_0), .val (.ref b9_0), .val (.ref w_IGNORE), .val (.ref b11), .val (.int (0 : Int32)), .unset, .unset] [(.int (1 : Int32))]) _
    refine XS.goto X13.here hx rfl (pc0 := 126) (pc' := 130) rfl (hb hby at_126) (by decide) (by decide) ?_
    show Sp p e below T13 (mkF m 130 #[.val (.long p0), .second, .val (.long p1), .second, .val (.int p2), .val (.int p3), .val (.int p4), .val (.int p5), .val (.ref b1), .val (.ref b6), .val (.ref b8_0), .val (.ref b9_0), .val (.ref w_IGNORE), .val (.ref b11), .val (.int (0 : Int32)), .unset, .unset] [(.int (1 : Int32))]) _
    refine XS.istore X13.here hx rfl (hb hby at_130) rfl (l' := #[.val (.long p0), .second, .val (.long p1), .second, .val (.int p2), .val (.int p3), .val (.int p4), .val (.int p5), .val (.ref b1), .val (.ref b6), .val (.ref b8_0), .val (.ref b9_0), .val (.ref w_IGNORE), .val (.ref b11), .val (.int (0 : Int32)), .val (.int (1 : Int32)), .unset]) rfl ?_
    refine XS.iload X13.here hx rfl (hb hby at_132) rfl ?_
    show Sp p e below T13 (mkF m 134 #[.val (.long p0), .second, .val (.long p1), .second, .val (.int p2), .val (.int p3), .val (.int p4), .val (.int p5), .val (.ref b1), .val (.ref b6), .val (.ref b8_0), .val (.ref b9_0), .val (.ref w_IGNORE), .val (.ref b11), .val (.int (0 : Int32)), .val (.int (1 : Int32)), .unset] [(.int (0 : Int32))]) _
    refine XS.ifYes X13.here hx rfl (pc0 := 134) (pc' := 194) rfl (hb hby at_134) rfl ((if0 _ _).trans (teq (by decide : (0 : Int32) = (0 : Int32))).1) (by decide) (by decide) ?_
    show Sp p e below T13 (mkF m 194 #[.val (.long p0), .second, .val (.long p1), .second, .val (.int p2), .val (.int p3), .val (.int p4), .val (.int p5), .val (.ref b1), .val (.ref b6), .val (.ref b8_0), .val (.ref b9_0), .val (.ref w_IGNORE), .val (.ref b11), .val (.int (0 : Int32)), .val (.int (1 : Int32)), .unset] []) _
    refine st14 _ ?_
    show Sp p e below T14 (mkF m 197 #[.val (.long p0), .second, .val (.long p1), .second, .val (.int p2), .val (.int p3), .val (.int p4), .val (.int p5), .val (.ref b1), .val (.ref b6), .val (.ref b8_0), .val (.ref b9_0), .val (.ref w_IGNORE), .val (.ref b11), .val (.int (0 : Int32)), .val (.int (1 : Int32)), .unset] [(.ref b14)]) _
    refine XS.dup X14.here hx rfl (hb hby at_197) rfl rfl ?_
    refine XS.lloadN X14.here hx rfl (hb hby at_198) rfl ?_
    refine XS.aload X14.here hx rfl (hb hby at_199) rfl rfl ?_
    refine XS.aload X14.here hx rfl (hb hby at_201) rfl rfl ?_
    refine XS.aload X14.here hx rfl (hb hby at_203) rfl rfl ?_
    refine XS.aload X14.here hx rfl (hb hby at_205) rfl rfl ?_
    refine XS.iload X14.here hx rfl (hb hby at_207) rfl ?_
    refine XS.iload X14.here hx rfl (hb hby at_209) rfl ?_
    refine XS.aload X14.here hx rfl (hb hby at_211) rfl rfl ?_
    refine XS.iload X14.here hx rfl (hb hby at_213) rfl ?_
    show Sp p e below T14 (mkF m 215 #[.val (.long p0), .second, .val (.long p1), .second, .val (.int p2), .val (.int p3), .val (.int p4), .val (.int p5), .val (.ref b1), .val (.ref b6), .val (.ref b8_0), .val (.ref b9_0), .val (.ref w_IGNORE), .val (.ref b11), .val (.int (0 : Int32)), .val (.int (1 : Int32)), .unset] [(.int (1 : Int32)), (.ref w_IGNORE), (.int p3), (.int p2), (.ref b11), (.ref b9_0), (.ref b8_0), (.ref b6), (.long p0), (.ref b14), (.ref b14)]) _
    refine st15.trans ?_
    show Sp p e below T15 (mkF m 218 #[.val (.long p0), .second, .val (.long p1), .second, .val (.int p2), .val (.int p3), .val (.int p4), .val (.int p5), .val (.ref b1), .val (.ref b6), .val (.ref b8_0), .val (.ref b9_0), .val (.ref w_IGNORE), .val (.ref b11), .val (.int (0 : Int32)), .val (.int (1 : Int32)), .unset] [(.ref b14)]) _
    refine XS.astore X15.here hx rfl (hb hby at_218) rfl rfl (l' := #[.val (.long p0), .second, .val (.long p1), .second, .val (.int p2), .val (.int p3), .val (.int p4), .val (.int p5), .val (.ref b1), .val (.ref b6), .val (.ref b8_0), .val (.ref b9_0), .val (.ref w_IGNORE), .val (.ref b11), .val (.int (0 : Int32)), .val (.int (1 : Int32)), .val (.ref b14)]) rfl ?_
    refine XS.aload X15.here hx rfl (hb hby at_220) rfl rfl ?_
    show Sp p e below T15 (mkF m 222 #[.val (.long p0), .second, .val (.long p1), .second, .val (.int p2), .val (.int p3), .val (.int p4), .val (.int p5), .val (.ref b1), .val (.ref b6), .val (.ref b8_0), .val (.ref b9_0), .val (.ref w_IGNORE), .val (.ref b11), .val (.int (0 : Int32)), .val (.int (1 : Int32)), .val (.ref b14)] [(.ref b14)]) _
    refine st16.trans ?_
    show Sp p e below T16 (mkF m 225 #[.val (.long p0), .second, .val (.long p1), .second, .val (.int p2), .val (.int p3), .val (.int p4), .val (.int p5), .val (.ref b1), .val (.ref b6), .val (.ref b8_0), .val (.ref b9_0), .val (.ref w_IGNORE), .val (.ref b11), .val (.int (0 : Int32)), .val (.int (1 : Int32)), .val (.ref b14)] [(.int (0 : Int32))]) _
    refine XS.ifNo X16.here hx rfl (hb hby at_225) rfl ((if0 _ _).trans (teq (by decide : (0 : Int32) = (0 : Int32))).2) ?_
    refine XS.aload X16.here hx rfl (hb hby at_228) rfl rfl ?_
    show Sp p e below T16 (mkF m 230 #[.val (.long p0), .second, .val (.long p1), .second, .val (.int p2), .val (.int p3), .val (.int p4), .val (.int p5), .val (.ref b1), .val (.ref b6), .val (.ref b8_0), .val (.ref b9_0), .val (.ref w_IGNORE), .val (.ref b11), .val (.int (0 : Int32)), .val (.int (1 : Int32)), .val (.ref b14)] [(.ref b14)]) _
    refine st17.trans ?_
    show Sp p e below T17 (mkF m 233 #[.val (.long p0), .second, .val (.long p1), .second, .val (.int p2), .val (.int p3), .val (.int p4), .val (.int p5), .val (.ref b1), .val (.ref b6), .val (.ref b8_0), .val (.ref b9_0), .val (.ref w_IGNORE), .val (.ref b11), .val (.int (0 : Int32)), .val (.int (1 : Int32)), .val (.ref b14)] [(.ref b6)]) _
    refine XS.aload X17.here hx rfl (hb hby at_233) rfl rfl ?_
    show Sp p e below T17 (mkF m 235 #[.val (.long p0), .second, .val (.long p1), .second, .val (.int p2), .val (.int p3), .val (.int p4), .val (.int p5), .val (.ref b1), .val (.ref b6), .val (.ref b8_0), .val (.ref b9_0), .val (.ref w_IGNORE), .val (.ref b11), .val (.int (0 : Int32)), .val (.int (1 : Int32)), .val (.ref b14)] [(.ref b6), (.ref b6)]) _
    refine Jvm.RoadKit.acmp (g := (mkF m 235 #[.val (.long p0), .second, .val (.long p1), .second, .val (.int p2), .val (.int p3), .val (.int p4), .val (.int p5), .val (.ref b1), .val (.ref b6), .val (.ref b8_0), .val (.ref b9_0), .val (.ref w_IGNORE), .val (.ref b11), .val (.int (0 : Int32)), .val (.int (1 : Int32)), .val (.ref b14)] [(.ref b6), (.ref b6)])) X17 hx rfl rfl rfl (pc0 := 235) (pc' := 238) (same := true) rfl (hb hby at_235) rfl (decide_eq_true rfl) (by decide) (by decide) ?_
    show Sp p e below T17 (mkF m 238 #[.val (.long p0), .second, .val (.long p1), .second, .val (.int p2), .val (.int p3), .val (.int p4), .val (.int p5), .val (.ref b1), .val (.ref b6), .val (.ref b8_0), .val (.ref b9_0), .val (.ref w_IGNORE), .val (.ref b11), .val (.int (0 : Int32)), .val (.int (1 : Int32)), .val (.ref b14)] []) _
    refine XS.aload X17.here hx rfl (hb hby at_238) rfl rfl ?_
    show Sp p e below T17 (mkF m 240 #[.val (.long p0), .second, .val (.long p1), .second, .val (.int p2), .val (.int p3), .val (.int p4), .val (.int p5), .val (.ref b1), .val (.ref b6), .val (.ref b8_0), .val (.ref b9_0), .val (.ref w_IGNORE), .val (.ref b11), .val (.int (0 : Int32)), .val (.int (1 : Int32)), .val (.ref b14)] [(.ref b14)]) _
    refine st18.trans ?_
    show Sp p e below T18 (mkF m 243 #[.val (.long p0), .second, .val (.long p1), .second, .val (.int p2), .val (.int p3), .val (.int p4), .val (.int p5), .val (.ref b1), .val (.ref b6), .val (.ref b8_0), .val (.ref b9_0), .val (.ref w_IGNORE), .val (.ref b11), .val (.int (0 : Int32)), .val (.int (1 : Int32)), .val (.ref b14)] [.null]) _
    refine XS.ifnonnullNo X18.here hx rfl (hb hby at_243) rfl ?_
    refine XS.iconst X18.here hx rfl (hb hby at_246) ?_
    show Sp p e below T18 (mkF m 247 #[.val (.long p0), .second, .val (.long p1), .second, .val (.int p2), .val (.int p3), .val (.int p4), .val (.int p5), .val (.ref b1), .val (.ref b6), .val (.ref b8_0), .val (.ref b9_0), .val (.ref w_IGNORE), .val (.ref b11), .val (.int (0 : Int32)), .val (.int (1 : Int32)), .val (.ref b14)] [(.int (1 : Int32))]) _
    refine XS.goto X18.here hx rfl (pc0 := 247) (pc' := 251) rfl (hb hby at_247) (by decide) (by decide) ?_
    show Sp p e below T18 (mkF m 251 #[.val (.long p0), .second, .val (.long p1), .second, .val (.int p2), .val (.int p3), .val (.int p4), .val (.int p5), .val (.ref b1), .val (.ref b6), .val (.ref b8_0), .val (.ref b9_0), .val (.ref w_IGNORE), .val (.ref b11), .val (.int (0 : Int32)), .val (.int (1 : Int32)), .val (.ref b14)] [(.int (1 : Int32))]) _
    exact retN X18 hx (t := .boolean) Bd.returns (by simp) (hb hby at_251) hr
  · skip
    exact ⟨rfl, N18⟩
set_option maxRecDepth 65536 in
set_option maxHeartbeats 4000000 in
theorem rm_law (l : Launch) (Z : State) (a0 : Array Value) (hw : ∀ d ∈ tables_1, d.before a0 Z = true) (ws : List Jvm.Cond) (w_PENDING w_IGNORE : Addr) (cs_v : Int32) (hp : Perm Z w_PENDING w_IGNORE cs_v) (p0 : Int64) (p1 : Int64) (p2 : Int32) (p3 : Int32) (p4 : Int32) (p5 : Int32) (h0 : Heap) (n0 : Nat) (O0 : Old Z n0 h0) :
    MetFree l x (head1 (Jvm.Cond.code x code maxLocals ret :: ws) room_1) (fun a U => a = #[(.long p0), (.long p1), (.int p2), (.int p3), (.int p4), (.int p5)] ∧ Z.Warmed39 U.vm ∧ U.heap = h0) (fun _ _ _ _ _ => True) (fun _ U o U' => ∃ v L, o = .returned v ∧ (v = some (.int (1 : Int32)) ∧ Fr n0 L) ∧ FrameEnd U o U' L 32 128) := by
  by_cases d0 : (p5 &&& (2 : Int32)) = (0 : Int32)
  · skip
    by_cases d1 : (p5 &&& (1 : Int32)) = (0 : Int32)
    · skip
      by_cases d2 : (p5 &&& (4 : Int32)) = (0 : Int32)
      · skip
        exact rm15 l Z a0 hw ws w_PENDING w_IGNORE cs_v hp p0 p1 p2 p3 p4 p5 h0 n0 O0 d0 d1 d2
      · skip
        exact rm35 l Z a0 hw ws w_PENDING w_IGNORE cs_v hp p0 p1 p2 p3 p4 p5 h0 n0 O0 d0 d1 d2
    · skip
      by_cases d2 : (p5 &&& (4 : Int32)) = (0 : Int32)
      · skip
        exact rm31 l Z a0 hw ws w_PENDING w_IGNORE cs_v hp p0 p1 p2 p3 p4 p5 h0 n0 O0 d0 d1 d2
      · skip
        exact rm32 l Z a0 hw ws w_PENDING w_IGNORE cs_v hp p0 p1 p2 p3 p4 p5 h0 n0 O0 d0 d1 d2
  · skip
    by_cases d1 : (p5 &&& (1 : Int32)) = (0 : Int32)
    · skip
      by_cases d2 : (p5 &&& (4 : Int32)) = (0 : Int32)
      · skip
        exact rm18 l Z a0 hw ws w_PENDING w_IGNORE cs_v hp p0 p1 p2 p3 p4 p5 h0 n0 O0 d0 d1 d2
      · skip
        exact rm28 l Z a0 hw ws w_PENDING w_IGNORE cs_v hp p0 p1 p2 p3 p4 p5 h0 n0 O0 d0 d1 d2
    · skip
      by_cases d2 : (p5 &&& (4 : Int32)) = (0 : Int32)
      · skip
        exact rm24 l Z a0 hw ws w_PENDING w_IGNORE cs_v hp p0 p1 p2 p3 p4 p5 h0 n0 O0 d0 d1 d2
      · skip
        exact rm25 l Z a0 hw ws w_PENDING w_IGNORE cs_v hp p0 p1 p2 p3 p4 p5 h0 n0 O0 d0 d1 d2
set_option maxRecDepth 65536 in
set_option maxHeartbeats 40000000 in
theorem comes_1 {Post : Tables → Env → Array Value → State → Outcome → State → Prop} (hpost : ∀ tb e args s v u, (limb_1_1.after args s (.returned v) u = true ∧ limb_1_2.after args s (.returned v) u = true ∧ True) → FrameEnd s (.returned v) u (Jvm.fieldLocs frame_1_writes args s ++ Jvm.arrayLocs frame_1_arrays args s ++ Jvm.staticLocs frame_1_statics s) 32 128 → Post tb e args s (.returned v) u) :
    ArmFor flags0 classFile x code maxLocals ret World_1 tables_1 room_1 Calls_1 rest_1 Pre_1 Post := by
  intro l hfl _ _ p e ha hc hk s m args below hf hA hF happ hP
  obtain ⟨hcalls, hrest, hpre⟩ := hP
  obtain ⟨-, -, -, hnamed, -, -, -, hat⟩ := (Spec.applies_iff hf).mp happ
  obtain ⟨hg, hn⟩ := and_e (Cond.before_iff.mp (show (Jvm.Cond.and given_1 narrow_1).before args s = true from hpre))
  obtain ⟨h1, hg⟩ := and_e hg
  obtain ⟨ga0, hg⟩ := and_e hg
  obtain ⟨ga1, hg⟩ := and_e hg
  obtain ⟨ga2, hg⟩ := and_e hg
  obtain ⟨ga3, hg⟩ := and_e hg
  obtain ⟨ga4, hg⟩ := and_e hg
  have ga5 := hg
  obtain ⟨w0, w1, w2, w3, w4, w5, rfl⟩ : ∃ w0 w1 w2 w3 w4 w5 : Value, args = #[w0, w1, w2, w3, w4, w5] := by
    have hs : args.size = 6 := by simpa [Cond.value, given_1] using h1
    obtain ⟨L⟩ := args
    match L, hs with
    | [w0, w1, w2, w3, w4, w5], _ => exact ⟨w0, w1, w2, w3, w4, w5, rfl⟩
  have hw := fun d (hd : d ∈ tables_1) => atoms_spec (ws := Jvm.Cond.code x code maxLocals ret :: tables_1) hat d (List.mem_cons_of_mem _ hd)
  have hfit : Fit s := fun {y c} hc i hi => by
    obtain ⟨ha, rfl⟩ := Array.getElem?_eq_some_iff.mp hc
    have q := List.all_eq_true.mp ((Array.all_eq_true_iff_forall_mem.mp hF) _ (Array.getElem_mem ha)) i (List.mem_range.mpr hi)
    simpa [Array.getElem?_eq_getElem hi] using q
  obtain ⟨hsets, hown0⟩ := atoms_of _ (rest_1_c_eq ▸ (show rest_1_c.before _ s = true from hrest))
  have hr0 := Cond.before_iff.mp hown0
  obtain ⟨i0, ei0⟩ := isL_v ga0
  obtain rfl : w0 = (.long i0) := Option.some.inj ei0
  obtain ⟨i1, ei1⟩ := isL_v ga1
  obtain rfl : w1 = (.long i1) := Option.some.inj ei1
  obtain ⟨i2, ei2⟩ := is_v ga2
  obtain rfl : w2 = (.int i2) := Option.some.inj ei2
  obtain ⟨i3, ei3⟩ := is_v ga3
  obtain rfl : w3 = (.int i3) := Option.some.inj ei3
  obtain ⟨i4, ei4⟩ := is_v ga4
  obtain rfl : w4 = (.int i4) := Option.some.inj ei4
  obtain ⟨i5, ei5⟩ := is_v ga5
  obtain rfl : w5 = (.int i5) := Option.some.inj ei5
  obtain ⟨nn0, hn⟩ := and_e hn
  have nn1 := hn
  obtain ⟨w_PENDING, ev_w_PENDING⟩ := exa_v nn0
  have E_w_PENDING := Exa.start ev_w_PENDING nn0
  have S_w_PENDING := Sta.start ev_w_PENDING (Or.inr ⟨(hw _ (List.mem_of_getElem? (i := 45) rfl)), (hw _ (List.mem_of_getElem? (i := 46) rfl))⟩)
  obtain ⟨w_IGNORE, ev_w_IGNORE⟩ := exa_v nn1
  have E_w_IGNORE := Exa.start ev_w_IGNORE nn1
  have S_w_IGNORE := Sta.start ev_w_IGNORE (Or.inr ⟨(hw _ (List.mem_of_getElem? (i := 45) rfl)), (hw _ (List.mem_of_getElem? (i := 95) rfl))⟩)
  obtain ⟨cs_v, ev_cs⟩ := is_v (Cond.before_iff.mp (hsets _ (List.mem_of_getElem? (i := 1) rfl)))
  have S_COMPACT_STRINGS := Sta.start ev_cs (Or.inl (hsets _ (List.mem_of_getElem? (i := 0) rfl)))
  have h_cs : ¬ (cs_v = (0 : Int32)) := gotF (Cond.eq_ints ev_cs (Term.int_eval (0 : Int32))) (not_v (r := true) (Cond.before_iff.mp (hsets _ (List.mem_of_getElem? (i := 2) rfl))))
  obtain ⟨n, o, h1, h2, h3, _, L, rfl, ⟨rfl, N⟩, hq⟩ := rm_law l s _ hw tables_1 w_PENDING w_IGNORE cs_v ⟨S_w_PENDING, E_w_PENDING, S_w_IGNORE, E_w_IGNORE, S_COMPACT_STRINGS, h_cs⟩ i0 i1 i2 i3 i4 i5 s.heap s.heap.size (Old.start s) p e ha hc hk s m _ below hf ((Spec.applies_iff_loose hf).mp happ).1 ⟨rfl, State.Warmed39.refl s, rfl⟩ trivial
  refine ⟨n, _, h1, h2, h3, hpost _ _ _ _ _ _ ⟨Cond.after_iff.mpr rfl, Cond.after_iff.mpr (eq_i res_at (Term.int_eval (1)) rfl), trivial⟩ ⟨hq.1, hq.2.1, (hq.2.2.sift fun y hy => Or.inr (N y hy)).mono (by decide) (by decide)⟩⟩
theorem main_1_1 : Claimed_1_1 := comes_1 fun _ _ _ _ _ _ h hF => ⟨h.1, hF⟩
theorem main_1_2 : Claimed_1_2 := comes_1 fun _ _ _ _ _ _ h hF => ⟨h.2.1, hF⟩
end Jvm.Pilot.@@N@@
namespace Jvm.Pilot.@@N@@
open Jvm Jvm.ClassFile Sem Op Lib Jvm.Free Jvm.Stand Jvm.Pilot.@@N@@.Jvm.D
/-! MADE BY PROGRAM (witnessworld.py) out of the Statement's table words and the real class files: 22 classes; the members and pool entries that the words name. The judged class is class 1, her method 1. -/
namespace start1
open Jvm.ClassFile
def u (s : String) : CpInfo := .utf8 (stringToUtf16 s)
/-- a pool by its gaps: so many unusable entries, then the entry; so many at the end -/
def gap : Nat → List CpInfo → List CpInfo
  | 0, r => r
  | n + 1, r => .unusable :: gap n r
def poolList (es : List (Nat × CpInfo)) (last : Nat) : List CpInfo := es.foldr (fun e r => gap e.1 (e.2 :: r)) (gap last [])
def pool (es : List (Nat × CpInfo)) (last : Nat) : Array CpInfo := ⟨poolList es last⟩
def fileOf (pool : Array CpInfo) (this : Nat) (attrs : Array Attribute := #[]) (ms : Array MethodInfo := #[]) (fl : Nat := 33) (sup : Nat := 0) (ifs : Array Nat := #[]) (fds : Array FieldInfo := #[]) : ClassFile where
  minorVersion := 0
  majorVersion := 65
  constantPool := pool
  accessFlags := fl
  thisClass := this
  superClass := sup
  interfaces := ifs
  fields := fds
  methods := ms
  attributes := attrs
def plain (name : String) (sup : Option ClassId) : Class where
  name := name
  kind := .ordinary
  loader := none
  accessFlags := 33
  super := sup
  interfaces := #[]
  cf := none
  fields := #[]
  methods := #[]
  instanceTypes := #[]
  staticTypes := #[]
  resolved := #[]
  callSites := []
  init := .initialized
  statics := none
  mirror := none

def pool0 : Array CpInfo := pool [(5, u "<init>"), (0, u "()V"), (1, .class_ 10), (1, u "java/lang/Object")] 113

def k0c0 : Code := { maxStack := 0, maxLocals := 1, code := object_method_1_code, exceptionTable := #[], attributes := #[] }
def k0m0 : Method := { name := "<init>", desc := "()V", sig := { parameters := [], returnType := none }, accessFlags := 1, code := some k0c0 }
/-- java/lang/Object -/
def k0 : Class := { plain "java/lang/Object" none with
  accessFlags := 33
  interfaces := #[]
  cf := some (fileOf pool0 8 #[] #[{ accessFlags := 1, nameIndex := 5, descriptorIndex := 6, attributes := #[] }] 33 0 #[] #[])
  fields := #[]
  methods := #[k0m0]
  instanceTypes := #[]
  staticTypes := #[]
  resolved := Array.replicate 124 none
  statics := none }

def pool1 : Array CpInfo := pool [(2, .class_ 4), (1, u "java/lang/Object"), (0, u "<init>"), (0, u "()V"), (0, .class_ 8), (0, u "java/lang/String"), (0, .methodref 7 10), (0, .nameAndType 5 11), (0, u "([C)V"), (0, .methodref 7 13), (0, .nameAndType 14 15), (0, u "valueOf"), (0, u "(C)Ljava/lang/String;"), (0, .fieldref 17 18), (0, .class_ 19), (0, .nameAndType 20 21), (0, u "com/example/graph_job_runner/graphjobrunner/FailStrategy"), (0, u "PENDING"), (0, u "Lcom/example/graph_job_runner/graphjobrunner/FailStrategy;"), (0, .fieldref 17 23), (0, .nameAndType 24 21), (0, u "IGNORE"), (0, .class_ 26), (0, u "com/example/graph_job_runner/graphjobrunner/ClaimedNode"), (0, .methodref 25 28), (0, .nameAndType 5 29), (0, u "(JLjava/lang/String;JLjava/lang/String;Ljava/lang/String;[BIILcom/example/graph_job_runner/graphjobrunner/FailStrategy;)V"), (0, .methodref 25 31), (0, .nameAndType 32 33), (0, u "inStream"), (0, u "()Z"), (0, .methodref 25 35), (0, .nameAndType 36 37), (0, u "streamKey"), (0, u "()Ljava/lang/String;"), (0, .methodref 25 39), (0, .nameAndType 40 37), (0, u "runKey"), (0, .methodref 25 42), (0, .nameAndType 5 43), (0, u "(JLjava/lang/String;Ljava/lang/String;Ljava/lang/String;[BIILcom/example/graph_job_runner/graphjobrunner/FailStrategy;Z)V"), (0, .class_ 45), (0, u "com/example/graph_job_runner/graphjobrunner/ClaimedNodeInStreamPinLaw"), (2, u "law"), (0, u "(JJIIII)Z")] 7

def k1m0 : Method := { name := "<init>", desc := "()V", sig := { parameters := [], returnType := none }, accessFlags := 1, code := none }
def k1c1 : Code := { maxStack := 13, maxLocals := 17, code := code, exceptionTable := #[], attributes := #[] }
def k1m1 : Method := { name := "law", desc := "(JJIIII)Z", sig := { parameters := [.long, .long, .int, .int, .int, .int], returnType := some .boolean }, accessFlags := 9, code := some k1c1 }
/-- com/example/graph_job_runner/graphjobrunner/ClaimedNodeInStreamPinLaw -/
def k1 : Class := { plain "com/example/graph_job_runner/graphjobrunner/ClaimedNodeInStreamPinLaw" (some 0) with
  accessFlags := 49
  interfaces := #[]
  cf := some (fileOf pool1 44 #[] #[{ accessFlags := 1, nameIndex := 5, descriptorIndex := 6, attributes := #[] }, { accessFlags := 9, nameIndex := 48, descriptorIndex := 49, attributes := #[] }] 49 2 #[] #[])
  fields := #[]
  methods := #[k1m0, k1m1]
  instanceTypes := #[]
  staticTypes := #[]
  resolved := Array.replicate 57 none
  statics := none }

def pool2 : Array CpInfo := pool [(1, .class_ 2), (0, u "java/io/Serializable"), (0, .class_ 4), (0, u "java/lang/Object")] 2

/-- java/io/Serializable -/
def k2 : Class := { plain "java/io/Serializable" (some 0) with
  accessFlags := 1537
  interfaces := #[]
  cf := some (fileOf pool2 1 #[] #[] 1537 3 #[] #[])
  fields := #[]
  methods := #[]
  instanceTypes := #[]
  staticTypes := #[]
  resolved := Array.replicate 7 none
  statics := none }

def pool3 : Array CpInfo := pool [(1, .class_ 2), (0, u "java/lang/Comparable"), (0, .class_ 4), (0, u "java/lang/Object")] 7

/-- java/lang/Comparable -/
def k3 : Class := { plain "java/lang/Comparable" (some 0) with
  accessFlags := 1537
  interfaces := #[]
  cf := some (fileOf pool3 1 #[] #[] 1537 3 #[] #[])
  fields := #[]
  methods := #[]
  instanceTypes := #[]
  staticTypes := #[]
  resolved := Array.replicate 12 none
  statics := none }

def pool4 : Array CpInfo := pool [(2, .class_ 4), (1, u "java/lang/CharSequence"), (42, .class_ 48), (0, u "java/lang/CharSequence$1CodePointIterator"), (10, .class_ 60), (0, u "java/lang/CharSequence$1CharIterator"), (5, .class_ 67), (0, u "java/lang/Object")] 63

/-- java/lang/CharSequence -/
def k4 : Class := { plain "java/lang/CharSequence" (some 0) with
  accessFlags := 1537
  interfaces := #[]
  cf := some (fileOf pool4 2 #[.nestMembers #[47, 59]] #[] 1537 66 #[] #[])
  fields := #[]
  methods := #[]
  instanceTypes := #[]
  staticTypes := #[]
  resolved := Array.replicate 131 none
  statics := none }

def pool5 : Array CpInfo := pool [(1, .class_ 2), (0, u "java/lang/constant/Constable"), (0, .class_ 4), (0, u "java/lang/Object")] 6

/-- java/lang/constant/Constable -/
def k5 : Class := { plain "java/lang/constant/Constable" (some 0) with
  accessFlags := 1537
  interfaces := #[]
  cf := some (fileOf pool5 1 #[] #[] 1537 3 #[] #[])
  fields := #[]
  methods := #[]
  instanceTypes := #[]
  staticTypes := #[]
  resolved := Array.replicate 11 none
  statics := none }

def pool6 : Array CpInfo := pool [(1, .class_ 2), (0, u "java/lang/constant/ConstantDesc"), (0, .class_ 4), (0, u "java/lang/Object")] 32

/-- java/lang/constant/ConstantDesc -/
def k6 : Class := { plain "java/lang/constant/ConstantDesc" (some 0) with
  accessFlags := 1537
  interfaces := #[]
  cf := some (fileOf pool6 1 #[] #[] 1537 3 #[] #[])
  fields := #[]
  methods := #[]
  instanceTypes := #[]
  staticTypes := #[]
  resolved := Array.replicate 37 none
  statics := none }

def pool7 : Array CpInfo := pool [(1, .methodref 2 3), (0, .class_ 4), (0, .nameAndType 5 6), (0, u "java/lang/Object"), (0, u "<init>"), (0, u "()V"), (2, .fieldref 10 11), (0, .class_ 12), (0, .nameAndType 13 14), (0, u "java/lang/String"), (0, u "value"), (0, u "[B"), (0, .fieldref 10 16), (0, .nameAndType 17 18), (0, u "coder"), (0, u "B"), (2, u "hash"), (0, u "I"), (2, u "hashIsZero"), (0, u "Z"), (0, .methodref 10 28), (0, .nameAndType 5 29), (0, u "([CIILjava/lang/Void;)V"), (8, .fieldref 10 39), (0, .nameAndType 40 26), (0, u "COMPACT_STRINGS"), (1, .class_ 44), (1, u "java/lang/StringUTF16"), (0, u "compress"), (1, .methodref 42 48), (0, .nameAndType 49 50), (0, u "coderFromArrayLen"), (0, u "([BI)B"), (2, u "toBytes"), (53, .class_ 109), (1, u "java/lang/StringLatin1"), (67, .methodref 42 178), (0, .nameAndType 45 179), (0, u "([CII)[B"), (29, .methodref 10 210), (0, .nameAndType 5 211), (0, u "([BB)V"), (157, u "(C)Z"), (205, .class_ 576), (0, u "java/lang/CharSequence"), (22, u "CASE_INSENSITIVE_ORDER"), (0, u "Ljava/util/Comparator;"), (181, u "valueOf"), (0, u "(C)Ljava/lang/String;"), (226, u "([C)V"), (4, .methodref 107 1016), (0, .nameAndType 1017 369), (0, u "canEncode"), (0, .methodref 107 1019), (0, .nameAndType 53 1020), (0, u "(C)[B"), (80, u "serialPersistentFields"), (0, u "[Ljava/io/ObjectStreamField;"), (0, .class_ 1104), (0, u "java/lang/String$CaseInsensitiveComparator"), (1, .class_ 1107), (0, u "java/io/Serializable"), (0, .class_ 1109), (0, u "java/lang/Comparable"), (0, .class_ 1111), (0, u "java/lang/constant/Constable"), (0, .class_ 1113), (0, u "java/lang/constant/ConstantDesc"), (2, u "serialVersionUID"), (0, u "J"), (3, u "REPL"), (0, u "C"), (2, u "LATIN1"), (1, u "UTF16")] 323

def k7m0 : Method := { name := "<init>", desc := "()V", sig := { parameters := [], returnType := none }, accessFlags := 1, code := none }
def k7c1 : Code := { maxStack := 5, maxLocals := 2, code := jdk_42_method_3_code, exceptionTable := #[], attributes := #[] }
def k7m1 : Method := { name := "<init>", desc := "([C)V", sig := { parameters := [(.array .char)], returnType := none }, accessFlags := 1, code := some k7c1 }
def k7c2 : Code := { maxStack := 4, maxLocals := 1, code := jdk_42_method_139_code, exceptionTable := #[], attributes := #[] }
def k7m2 : Method := { name := "valueOf", desc := "(C)Ljava/lang/String;", sig := { parameters := [.char], returnType := some (.object "java/lang/String") }, accessFlags := 9, code := some k7c2 }
def k7c3 : Code := { maxStack := 4, maxLocals := 6, code := jdk_42_method_149_code, exceptionTable := #[], attributes := #[] }
def k7m3 : Method := { name := "<init>", desc := "([CIILjava/lang/Void;)V", sig := { parameters := [(.array .char), .int, .int, (.object "java/lang/Void")], returnType := none }, accessFlags := 2, code := some k7c3 }
def k7c4 : Code := { maxStack := 2, maxLocals := 3, code := jdk_42_method_151_code, exceptionTable := #[], attributes := #[] }
def k7m4 : Method := { name := "<init>", desc := "([BB)V", sig := { parameters := [(.array .byte), .byte], returnType := none }, accessFlags := 0, code := some k7c4 }
/-- java/lang/String -/
def k7 : Class := { plain "java/lang/String" (some 0) with
  accessFlags := 49
  interfaces := #[2, 3, 4, 5, 6]
  cf := some (fileOf pool7 10 #[.nestMembers #[1103]] #[{ accessFlags := 1, nameIndex := 5, descriptorIndex := 6, attributes := #[] }, { accessFlags := 1, nameIndex := 5, descriptorIndex := 1010, attributes := #[] }, { accessFlags := 9, nameIndex := 782, descriptorIndex := 783, attributes := #[] }, { accessFlags := 2, nameIndex := 5, descriptorIndex := 29, attributes := #[] }, { accessFlags := 0, nameIndex := 5, descriptorIndex := 211, attributes := #[] }] 49 2 #[1106, 1108, 575, 1110, 1112] #[{ accessFlags := 18, nameIndex := 13, descriptorIndex := 14, attributes := #[] }, { accessFlags := 18, nameIndex := 17, descriptorIndex := 18, attributes := #[] }, { accessFlags := 2, nameIndex := 21, descriptorIndex := 22, attributes := #[] }, { accessFlags := 2, nameIndex := 25, descriptorIndex := 26, attributes := #[] }, { accessFlags := 26, nameIndex := 1116, descriptorIndex := 1117, attributes := #[] }, { accessFlags := 24, nameIndex := 40, descriptorIndex := 26, attributes := #[] }, { accessFlags := 26, nameIndex := 1101, descriptorIndex := 1102, attributes := #[] }, { accessFlags := 26, nameIndex := 1121, descriptorIndex := 1122, attributes := #[] }, { accessFlags := 25, nameIndex := 599, descriptorIndex := 600, attributes := #[] }, { accessFlags := 24, nameIndex := 1125, descriptorIndex := 18, attributes := #[] }, { accessFlags := 24, nameIndex := 1127, descriptorIndex := 18, attributes := #[] }])
  fields := #[{ name := "value", type := (.array .byte), accessFlags := 18, slot := 0, constantValue := 0 }, { name := "coder", type := .byte, accessFlags := 18, slot := 1, constantValue := 0 }, { name := "hash", type := .int, accessFlags := 2, slot := 2, constantValue := 0 }, { name := "hashIsZero", type := .boolean, accessFlags := 2, slot := 3, constantValue := 0 }, { name := "serialVersionUID", type := .long, accessFlags := 26, slot := 0, constantValue := 0 }, { name := "COMPACT_STRINGS", type := .boolean, accessFlags := 24, slot := 1, constantValue := 0 }, { name := "serialPersistentFields", type := (.array (.object "java/io/ObjectStreamField")), accessFlags := 26, slot := 2, constantValue := 0 }, { name := "REPL", type := .char, accessFlags := 26, slot := 3, constantValue := 0 }, { name := "CASE_INSENSITIVE_ORDER", type := (.object "java/util/Comparator"), accessFlags := 25, slot := 4, constantValue := 0 }, { name := "LATIN1", type := .byte, accessFlags := 24, slot := 5, constantValue := 0 }, { name := "UTF16", type := .byte, accessFlags := 24, slot := 6, constantValue := 0 }]
  methods := #[k7m0, k7m1, k7m2, k7m3, k7m4]
  instanceTypes := #[(.array .byte), .byte, .int, .boolean]
  staticTypes := #[.long, .boolean, (.array (.object "java/io/ObjectStreamField")), .char, (.object "java/util/Comparator"), .byte, .byte]
  resolved := Array.replicate 1451 none
  statics := some 0 }

def pool8 : Array CpInfo := pool [(6, .class_ 8), (1, u "java/lang/Object"), (0, u "<init>"), (0, u "()V"), (1, .class_ 14), (1, u "java/lang/StringUTF16"), (31, u "$assertionsDisabled"), (0, u "Z"), (13, u "HI_BYTE_SHIFT"), (0, u "I"), (2, u "LO_BYTE_SHIFT"), (49, .methodref 12 116), (0, .nameAndType 117 118), (0, u "compress"), (0, u "([CI[BII)I"), (3, u "([CII)[B"), (138, u "coderFromArrayLen"), (0, u "([BI)B"), (106, .class_ 371), (1, u "java/lang/StringUTF16$LinesSpliterator"), (58, u "MAX_LENGTH"), (196, .class_ 628), (0, u "java/lang/StringUTF16$CodePointsSpliterator"), (0, .class_ 630), (0, u "java/lang/StringUTF16$CharsSpliterator")] 4

def k8m0 : Method := { name := "<init>", desc := "()V", sig := { parameters := [], returnType := none }, accessFlags := 0, code := none }
def k8c1 : Code := { maxStack := 2, maxLocals := 2, code := jdk_52_method_15_code, exceptionTable := #[], attributes := #[] }
def k8m1 : Method := { name := "coderFromArrayLen", desc := "([BI)B", sig := { parameters := [(.array .byte), .int], returnType := some .byte }, accessFlags := 8, code := some k8c1 }
def k8c2 : Code := { maxStack := 5, maxLocals := 6, code := jdk_52_method_16_code, exceptionTable := #[], attributes := #[] }
def k8m2 : Method := { name := "compress", desc := "([CII)[B", sig := { parameters := [(.array .char), .int, .int], returnType := some (.array .byte) }, accessFlags := 9, code := some k8c2 }
def k8c3 : Code := { maxStack := 3, maxLocals := 7, code := jdk_52_method_21_code, exceptionTable := #[], attributes := #[] }
def k8m3 : Method := { name := "compress", desc := "([CI[BII)I", sig := { parameters := [(.array .char), .int, (.array .byte), .int, .int], returnType := some .int }, accessFlags := 9, code := some k8c3 }
/-- java/lang/StringUTF16 -/
def k8 : Class := { plain "java/lang/StringUTF16" (some 0) with
  accessFlags := 48
  interfaces := #[]
  cf := some (fileOf pool8 12 #[.nestMembers #[627, 629, 369]] #[{ accessFlags := 0, nameIndex := 9, descriptorIndex := 10, attributes := #[] }, { accessFlags := 8, nameIndex := 261, descriptorIndex := 262, attributes := #[] }, { accessFlags := 9, nameIndex := 117, descriptorIndex := 122, attributes := #[] }, { accessFlags := 9, nameIndex := 117, descriptorIndex := 118, attributes := #[] }] 48 6 #[] #[{ accessFlags := 26, nameIndex := 61, descriptorIndex := 62, attributes := #[] }, { accessFlags := 26, nameIndex := 65, descriptorIndex := 62, attributes := #[] }, { accessFlags := 24, nameIndex := 430, descriptorIndex := 62, attributes := #[] }, { accessFlags := 4120, nameIndex := 46, descriptorIndex := 47, attributes := #[] }])
  fields := #[{ name := "HI_BYTE_SHIFT", type := .int, accessFlags := 26, slot := 0, constantValue := 0 }, { name := "LO_BYTE_SHIFT", type := .int, accessFlags := 26, slot := 1, constantValue := 0 }, { name := "MAX_LENGTH", type := .int, accessFlags := 24, slot := 2, constantValue := 0 }, { name := "$assertionsDisabled", type := .boolean, accessFlags := 4120, slot := 3, constantValue := 0 }]
  methods := #[k8m0, k8m1, k8m2, k8m3]
  instanceTypes := #[]
  staticTypes := #[.int, .int, .int, .boolean]
  resolved := Array.replicate 635 none
  statics := none }

def pool9 : Array CpInfo := pool [(4, .class_ 6), (1, u "java/lang/Object"), (0, u "<init>"), (0, u "()V"), (5, .class_ 16), (1, u "java/lang/StringLatin1"), (73, u "canEncode"), (14, u "(C)Z"), (15, u "$assertionsDisabled"), (0, u "Z"), (98, .class_ 223), (1, u "java/lang/StringLatin1$LinesSpliterator"), (156, u "toBytes"), (1, u "(C)[B"), (7, .class_ 391), (0, u "java/lang/StringLatin1$CharsSpliterator")] 3

def k9m0 : Method := { name := "<init>", desc := "()V", sig := { parameters := [], returnType := none }, accessFlags := 0, code := none }
def k9c1 : Code := { maxStack := 2, maxLocals := 1, code := jdk_43_method_3_code, exceptionTable := #[], attributes := #[] }
def k9m1 : Method := { name := "canEncode", desc := "(C)Z", sig := { parameters := [.char], returnType := some .boolean }, accessFlags := 9, code := some k9c1 }
def k9c2 : Code := { maxStack := 4, maxLocals := 1, code := jdk_43_method_46_code, exceptionTable := #[], attributes := #[] }
def k9m2 : Method := { name := "toBytes", desc := "(C)[B", sig := { parameters := [.char], returnType := some (.array .byte) }, accessFlags := 9, code := some k9c2 }
/-- java/lang/StringLatin1 -/
def k9 : Class := { plain "java/lang/StringLatin1" (some 0) with
  accessFlags := 48
  interfaces := #[]
  cf := some (fileOf pool9 14 #[.nestMembers #[390, 221]] #[{ accessFlags := 0, nameIndex := 7, descriptorIndex := 8, attributes := #[] }, { accessFlags := 9, nameIndex := 90, descriptorIndex := 105, attributes := #[] }, { accessFlags := 9, nameIndex := 380, descriptorIndex := 382, attributes := #[] }] 48 4 #[] #[{ accessFlags := 4120, nameIndex := 121, descriptorIndex := 122, attributes := #[] }])
  fields := #[{ name := "$assertionsDisabled", type := .boolean, accessFlags := 4120, slot := 0, constantValue := 0 }]
  methods := #[k9m0, k9m1, k9m2]
  instanceTypes := #[]
  staticTypes := #[.boolean]
  resolved := Array.replicate 395 none
  statics := none }

def pool10 : Array CpInfo := pool [(2, .class_ 4), (1, u "java/lang/Enum"), (0, u "name"), (0, u "Ljava/lang/String;"), (2, u "ordinal"), (0, u "I"), (1, .class_ 14), (1, u "java/lang/Object"), (4, u "hash"), (86, .class_ 108), (1, u "java/lang/Enum$EnumDesc"), (2, .class_ 112), (0, u "java/lang/constant/Constable"), (0, .class_ 114), (0, u "java/lang/Comparable"), (0, .class_ 116), (0, u "java/io/Serializable")] 87

/-- java/lang/Enum -/
def k10 : Class := { plain "java/lang/Enum" (some 0) with
  accessFlags := 1057
  interfaces := #[5, 3, 2]
  cf := some (fileOf pool10 2 #[.nestMembers #[106]] #[] 1057 12 #[111, 113, 115] #[{ accessFlags := 18, nameIndex := 5, descriptorIndex := 6, attributes := #[] }, { accessFlags := 18, nameIndex := 9, descriptorIndex := 10, attributes := #[] }, { accessFlags := 2, nameIndex := 19, descriptorIndex := 10, attributes := #[] }])
  fields := #[{ name := "name", type := (.object "java/lang/String"), accessFlags := 18, slot := 0, constantValue := 0 }, { name := "ordinal", type := .int, accessFlags := 18, slot := 1, constantValue := 0 }, { name := "hash", type := .int, accessFlags := 2, slot := 2, constantValue := 0 }]
  methods := #[]
  instanceTypes := #[(.object "java/lang/String"), .int, .int]
  staticTypes := #[]
  resolved := Array.replicate 204 none
  statics := none }

def pool11 : Array CpInfo := pool [(1, .class_ 2), (0, u "com/example/graph_job_runner/graphjobrunner/FailStrategy"), (2, u "IGNORE"), (0, u "Lcom/example/graph_job_runner/graphjobrunner/FailStrategy;"), (2, u "PENDING"), (2, u "$VALUES"), (0, u "[Lcom/example/graph_job_runner/graphjobrunner/FailStrategy;"), (6, .class_ 22), (1, u "java/lang/Enum"), (8, u "settled"), (0, u "Lcom/example/graph_job_runner/graphjobrunner/NodeStatus;")] 30

/-- com/example/graph_job_runner/graphjobrunner/FailStrategy -/
def k11 : Class := { plain "com/example/graph_job_runner/graphjobrunner/FailStrategy" (some 10) with
  accessFlags := 16433
  interfaces := #[]
  cf := some (fileOf pool11 1 #[] #[] 16433 20 #[] #[{ accessFlags := 16409, nameIndex := 5, descriptorIndex := 6, attributes := #[] }, { accessFlags := 16409, nameIndex := 9, descriptorIndex := 6, attributes := #[] }, { accessFlags := 18, nameIndex := 31, descriptorIndex := 32, attributes := #[] }, { accessFlags := 4122, nameIndex := 12, descriptorIndex := 13, attributes := #[] }])
  fields := #[{ name := "IGNORE", type := (.object "com/example/graph_job_runner/graphjobrunner/FailStrategy"), accessFlags := 16409, slot := 0, constantValue := 0 }, { name := "PENDING", type := (.object "com/example/graph_job_runner/graphjobrunner/FailStrategy"), accessFlags := 16409, slot := 1, constantValue := 0 }, { name := "settled", type := (.object "com/example/graph_job_runner/graphjobrunner/NodeStatus"), accessFlags := 18, slot := 3, constantValue := 0 }, { name := "$VALUES", type := (.array (.object "com/example/graph_job_runner/graphjobrunner/FailStrategy")), accessFlags := 4122, slot := 2, constantValue := 0 }]
  methods := #[]
  instanceTypes := #[(.object "java/lang/String"), .int, .int, (.object "com/example/graph_job_runner/graphjobrunner/NodeStatus")]
  staticTypes := #[(.object "com/example/graph_job_runner/graphjobrunner/FailStrategy"), (.object "com/example/graph_job_runner/graphjobrunner/FailStrategy"), (.array (.object "com/example/graph_job_runner/graphjobrunner/FailStrategy"))]
  resolved := Array.replicate 63 none
  statics := some 1 }

def pool12 : Array CpInfo := pool [(1, .methodref 2 3), (0, .class_ 4), (0, .nameAndType 5 6), (0, u "com/example/graph_job_runner/graphjobrunner/ClaimedNode"), (0, u "<init>"), (0, u "(JLjava/lang/String;Ljava/lang/String;JLjava/lang/String;Ljava/lang/String;[BIILcom/example/graph_job_runner/graphjobrunner/FailStrategy;Z)V"), (0, .methodref 8 9), (0, .class_ 10), (0, .nameAndType 5 11), (0, u "java/lang/Object"), (0, u "()V"), (0, .fieldref 2 13), (0, .nameAndType 14 15), (0, u "id"), (0, u "J"), (0, .fieldref 2 17), (0, .nameAndType 18 19), (0, u "runKey"), (0, u "Ljava/lang/String;"), (0, .fieldref 2 21), (0, .nameAndType 22 19), (0, u "streamKey"), (0, .fieldref 2 24), (0, .nameAndType 25 15), (0, u "position"), (0, .fieldref 2 27), (0, .nameAndType 28 19), (0, u "nodeKey"), (0, .fieldref 2 30), (0, .nameAndType 31 19), (0, u "processor"), (0, .fieldref 2 33), (0, .nameAndType 34 35), (0, u "payload"), (0, u "[B"), (0, .fieldref 2 37), (0, .nameAndType 38 39), (0, u "attempt"), (0, u "I"), (0, .fieldref 2 41), (0, .nameAndType 42 39), (0, u "retryLimit"), (0, .fieldref 2 44), (0, .nameAndType 45 46), (0, u "failStrategy"), (0, u "Lcom/example/graph_job_runner/graphjobrunner/FailStrategy;"), (0, .fieldref 2 48), (0, .nameAndType 49 50), (0, u "hasChildren"), (0, u "Z"), (2, u "inStream"), (0, u "()Z"), (0, u "(JLjava/lang/String;Ljava/lang/String;Ljava/lang/String;[BIILcom/example/graph_job_runner/graphjobrunner/FailStrategy;Z)V"), (2, u "(JLjava/lang/String;JLjava/lang/String;Ljava/lang/String;[BIILcom/example/graph_job_runner/graphjobrunner/FailStrategy;)V"), (2, u "()Ljava/lang/String;")] 6

def k12c0 : Code := { maxStack := 14, maxLocals := 11, code := prog_3_method_1_code, exceptionTable := #[], attributes := #[] }
def k12m0 : Method := { name := "<init>", desc := "(JLjava/lang/String;Ljava/lang/String;Ljava/lang/String;[BIILcom/example/graph_job_runner/graphjobrunner/FailStrategy;Z)V", sig := { parameters := [.long, (.object "java/lang/String"), (.object "java/lang/String"), (.object "java/lang/String"), (.array .byte), .int, .int, (.object "com/example/graph_job_runner/graphjobrunner/FailStrategy"), .boolean], returnType := none }, accessFlags := 1, code := some k12c0 }
def k12c1 : Code := { maxStack := 14, maxLocals := 12, code := prog_3_method_2_code, exceptionTable := #[], attributes := #[] }
def k12m1 : Method := { name := "<init>", desc := "(JLjava/lang/String;JLjava/lang/String;Ljava/lang/String;[BIILcom/example/graph_job_runner/graphjobrunner/FailStrategy;)V", sig := { parameters := [.long, (.object "java/lang/String"), .long, (.object "java/lang/String"), (.object "java/lang/String"), (.array .byte), .int, .int, (.object "com/example/graph_job_runner/graphjobrunner/FailStrategy")], returnType := none }, accessFlags := 1, code := some k12c1 }
def k12c2 : Code := { maxStack := 3, maxLocals := 14, code := prog_3_method_3_code, exceptionTable := #[], attributes := #[] }
def k12m2 : Method := { name := "<init>", desc := "(JLjava/lang/String;Ljava/lang/String;JLjava/lang/String;Ljava/lang/String;[BIILcom/example/graph_job_runner/graphjobrunner/FailStrategy;Z)V", sig := { parameters := [.long, (.object "java/lang/String"), (.object "java/lang/String"), .long, (.object "java/lang/String"), (.object "java/lang/String"), (.array .byte), .int, .int, (.object "com/example/graph_job_runner/graphjobrunner/FailStrategy"), .boolean], returnType := none }, accessFlags := 2, code := some k12c2 }
def k12c3 : Code := { maxStack := 1, maxLocals := 1, code := prog_3_method_5_code, exceptionTable := #[], attributes := #[] }
def k12m3 : Method := { name := "inStream", desc := "()Z", sig := { parameters := [], returnType := some .boolean }, accessFlags := 1, code := some k12c3 }
def k12c4 : Code := { maxStack := 1, maxLocals := 1, code := prog_3_method_6_code, exceptionTable := #[], attributes := #[] }
def k12m4 : Method := { name := "runKey", desc := "()Ljava/lang/String;", sig := { parameters := [], returnType := some (.object "java/lang/String") }, accessFlags := 1, code := some k12c4 }
def k12c5 : Code := { maxStack := 1, maxLocals := 1, code := prog_3_method_7_code, exceptionTable := #[], attributes := #[] }
def k12m5 : Method := { name := "streamKey", desc := "()Ljava/lang/String;", sig := { parameters := [], returnType := some (.object "java/lang/String") }, accessFlags := 1, code := some k12c5 }
/-- com/example/graph_job_runner/graphjobrunner/ClaimedNode -/
def k12 : Class := { plain "com/example/graph_job_runner/graphjobrunner/ClaimedNode" (some 0) with
  accessFlags := 33
  interfaces := #[]
  cf := some (fileOf pool12 2 #[] #[{ accessFlags := 1, nameIndex := 5, descriptorIndex := 55, attributes := #[] }, { accessFlags := 1, nameIndex := 5, descriptorIndex := 58, attributes := #[] }, { accessFlags := 2, nameIndex := 5, descriptorIndex := 6, attributes := #[] }, { accessFlags := 1, nameIndex := 53, descriptorIndex := 54, attributes := #[] }, { accessFlags := 1, nameIndex := 18, descriptorIndex := 61, attributes := #[] }, { accessFlags := 1, nameIndex := 22, descriptorIndex := 61, attributes := #[] }] 33 8 #[] #[{ accessFlags := 18, nameIndex := 14, descriptorIndex := 15, attributes := #[] }, { accessFlags := 18, nameIndex := 18, descriptorIndex := 19, attributes := #[] }, { accessFlags := 18, nameIndex := 22, descriptorIndex := 19, attributes := #[] }, { accessFlags := 18, nameIndex := 25, descriptorIndex := 15, attributes := #[] }, { accessFlags := 18, nameIndex := 28, descriptorIndex := 19, attributes := #[] }, { accessFlags := 18, nameIndex := 31, descriptorIndex := 19, attributes := #[] }, { accessFlags := 18, nameIndex := 34, descriptorIndex := 35, attributes := #[] }, { accessFlags := 18, nameIndex := 38, descriptorIndex := 39, attributes := #[] }, { accessFlags := 18, nameIndex := 42, descriptorIndex := 39, attributes := #[] }, { accessFlags := 18, nameIndex := 45, descriptorIndex := 46, attributes := #[] }, { accessFlags := 18, nameIndex := 49, descriptorIndex := 50, attributes := #[] }])
  fields := #[{ name := "id", type := .long, accessFlags := 18, slot := 0, constantValue := 0 }, { name := "runKey", type := (.object "java/lang/String"), accessFlags := 18, slot := 1, constantValue := 0 }, { name := "streamKey", type := (.object "java/lang/String"), accessFlags := 18, slot := 2, constantValue := 0 }, { name := "position", type := .long, accessFlags := 18, slot := 3, constantValue := 0 }, { name := "nodeKey", type := (.object "java/lang/String"), accessFlags := 18, slot := 4, constantValue := 0 }, { name := "processor", type := (.object "java/lang/String"), accessFlags := 18, slot := 5, constantValue := 0 }, { name := "payload", type := (.array .byte), accessFlags := 18, slot := 6, constantValue := 0 }, { name := "attempt", type := .int, accessFlags := 18, slot := 7, constantValue := 0 }, { name := "retryLimit", type := .int, accessFlags := 18, slot := 8, constantValue := 0 }, { name := "failStrategy", type := (.object "com/example/graph_job_runner/graphjobrunner/FailStrategy"), accessFlags := 18, slot := 9, constantValue := 0 }, { name := "hasChildren", type := .boolean, accessFlags := 18, slot := 10, constantValue := 0 }]
  methods := #[k12m0, k12m1, k12m2, k12m3, k12m4, k12m5]
  instanceTypes := #[.long, (.object "java/lang/String"), (.object "java/lang/String"), .long, (.object "java/lang/String"), (.object "java/lang/String"), (.array .byte), .int, .int, (.object "com/example/graph_job_runner/graphjobrunner/FailStrategy"), .boolean]
  staticTypes := #[]
  resolved := Array.replicate 68 none
  statics := none }

def pool13 : Array CpInfo := pool [(2, .class_ 4), (1, u "java/lang/Object"), (0, u "<init>"), (0, u "()V"), (17, .class_ 26), (1, u "jdk/internal/util/Preconditions"), (28, .class_ 56), (0, u "jdk/internal/util/Preconditions$4"), (57, .class_ 115), (0, u "jdk/internal/util/Preconditions$1"), (7, u "SIOOBE_FORMATTER"), (0, u "Ljava/util/function/BiFunction;"), (0, .class_ 126), (0, u "jdk/internal/util/Preconditions$2"), (3, u "AIOOBE_FORMATTER"), (0, .class_ 132), (0, u "jdk/internal/util/Preconditions$3"), (3, u "IOOBE_FORMATTER")] 57

def k13m0 : Method := { name := "<init>", desc := "()V", sig := { parameters := [], returnType := none }, accessFlags := 1, code := none }
/-- jdk/internal/util/Preconditions -/
def k13 : Class := { plain "jdk/internal/util/Preconditions" (some 0) with
  accessFlags := 33
  interfaces := #[]
  cf := some (fileOf pool13 24 #[.nestMembers #[55, 131, 125, 114]] #[{ accessFlags := 1, nameIndex := 5, descriptorIndex := 6, attributes := #[] }] 33 2 #[] #[{ accessFlags := 25, nameIndex := 123, descriptorIndex := 124, attributes := #[] }, { accessFlags := 25, nameIndex := 130, descriptorIndex := 124, attributes := #[] }, { accessFlags := 25, nameIndex := 136, descriptorIndex := 124, attributes := #[] }])
  fields := #[{ name := "SIOOBE_FORMATTER", type := (.object "java/util/function/BiFunction"), accessFlags := 25, slot := 0, constantValue := 0 }, { name := "AIOOBE_FORMATTER", type := (.object "java/util/function/BiFunction"), accessFlags := 25, slot := 1, constantValue := 0 }, { name := "IOOBE_FORMATTER", type := (.object "java/util/function/BiFunction"), accessFlags := 25, slot := 2, constantValue := 0 }]
  methods := #[k13m0]
  instanceTypes := #[]
  staticTypes := #[(.object "java/util/function/BiFunction"), (.object "java/util/function/BiFunction"), (.object "java/util/function/BiFunction")]
  resolved := Array.replicate 194 none
  statics := some 2 }

def pool14 : Array CpInfo := pool [(9, u "<init>"), (6, .class_ 18), (1, u "java/lang/Object"), (0, u "()V"), (1, .class_ 23), (1, u "jdk/internal/util/ArraysSupport"), (0, u "LOG2_ARRAY_LONG_INDEX_SCALE"), (0, u "I"), (2, u "U"), (0, u "Ljdk/internal/misc/Unsafe;"), (8, u "BIG_ENDIAN"), (0, u "Z"), (8, u "LOG2_BYTE_BIT_SIZE"), (4, u "LOG2_ARRAY_INT_INDEX_SCALE"), (54, u "JLA"), (0, u "Ljdk/internal/access/JavaLangAccess;"), (11, u "LOG2_ARRAY_BOOLEAN_INDEX_SCALE"), (9, u "LOG2_ARRAY_BYTE_INDEX_SCALE"), (5, u "LOG2_ARRAY_CHAR_INDEX_SCALE"), (5, u "LOG2_ARRAY_SHORT_INDEX_SCALE"), (18, u "LOG2_ARRAY_FLOAT_INDEX_SCALE"), (24, u "LOG2_ARRAY_DOUBLE_INDEX_SCALE"), (89, u "T_BOOLEAN"), (2, u "T_CHAR"), (1, u "T_FLOAT"), (1, u "T_DOUBLE"), (1, u "T_BYTE"), (1, u "T_SHORT"), (1, u "T_INT"), (1, u "T_LONG"), (1, u "SOFT_MAX_ARRAY_LENGTH")] 83

def k14m0 : Method := { name := "<init>", desc := "()V", sig := { parameters := [], returnType := none }, accessFlags := 2, code := none }
/-- jdk/internal/util/ArraysSupport -/
def k14 : Class := { plain "jdk/internal/util/ArraysSupport" (some 0) with
  accessFlags := 33
  interfaces := #[]
  cf := some (fileOf pool14 21 #[] #[{ accessFlags := 2, nameIndex := 9, descriptorIndex := 19, attributes := #[] }] 33 16 #[] #[{ accessFlags := 24, nameIndex := 28, descriptorIndex := 29, attributes := #[] }, { accessFlags := 26, nameIndex := 38, descriptorIndex := 39, attributes := #[] }, { accessFlags := 25, nameIndex := 121, descriptorIndex := 25, attributes := #[] }, { accessFlags := 25, nameIndex := 131, descriptorIndex := 25, attributes := #[] }, { accessFlags := 25, nameIndex := 137, descriptorIndex := 25, attributes := #[] }, { accessFlags := 25, nameIndex := 143, descriptorIndex := 25, attributes := #[] }, { accessFlags := 25, nameIndex := 53, descriptorIndex := 25, attributes := #[] }, { accessFlags := 25, nameIndex := 24, descriptorIndex := 25, attributes := #[] }, { accessFlags := 25, nameIndex := 162, descriptorIndex := 25, attributes := #[] }, { accessFlags := 25, nameIndex := 187, descriptorIndex := 25, attributes := #[] }, { accessFlags := 26, nameIndex := 48, descriptorIndex := 25, attributes := #[] }, { accessFlags := 25, nameIndex := 277, descriptorIndex := 25, attributes := #[] }, { accessFlags := 25, nameIndex := 280, descriptorIndex := 25, attributes := #[] }, { accessFlags := 25, nameIndex := 282, descriptorIndex := 25, attributes := #[] }, { accessFlags := 25, nameIndex := 284, descriptorIndex := 25, attributes := #[] }, { accessFlags := 25, nameIndex := 286, descriptorIndex := 25, attributes := #[] }, { accessFlags := 25, nameIndex := 288, descriptorIndex := 25, attributes := #[] }, { accessFlags := 25, nameIndex := 290, descriptorIndex := 25, attributes := #[] }, { accessFlags := 25, nameIndex := 292, descriptorIndex := 25, attributes := #[] }, { accessFlags := 26, nameIndex := 108, descriptorIndex := 109, attributes := #[] }, { accessFlags := 25, nameIndex := 294, descriptorIndex := 25, attributes := #[] }])
  fields := #[{ name := "U", type := (.object "jdk/internal/misc/Unsafe"), accessFlags := 24, slot := 0, constantValue := 0 }, { name := "BIG_ENDIAN", type := .boolean, accessFlags := 26, slot := 1, constantValue := 0 }, { name := "LOG2_ARRAY_BOOLEAN_INDEX_SCALE", type := .int, accessFlags := 25, slot := 2, constantValue := 0 }, { name := "LOG2_ARRAY_BYTE_INDEX_SCALE", type := .int, accessFlags := 25, slot := 3, constantValue := 0 }, { name := "LOG2_ARRAY_CHAR_INDEX_SCALE", type := .int, accessFlags := 25, slot := 4, constantValue := 0 }, { name := "LOG2_ARRAY_SHORT_INDEX_SCALE", type := .int, accessFlags := 25, slot := 5, constantValue := 0 }, { name := "LOG2_ARRAY_INT_INDEX_SCALE", type := .int, accessFlags := 25, slot := 6, constantValue := 0 }, { name := "LOG2_ARRAY_LONG_INDEX_SCALE", type := .int, accessFlags := 25, slot := 7, constantValue := 0 }, { name := "LOG2_ARRAY_FLOAT_INDEX_SCALE", type := .int, accessFlags := 25, slot := 8, constantValue := 0 }, { name := "LOG2_ARRAY_DOUBLE_INDEX_SCALE", type := .int, accessFlags := 25, slot := 9, constantValue := 0 }, { name := "LOG2_BYTE_BIT_SIZE", type := .int, accessFlags := 26, slot := 10, constantValue := 0 }, { name := "T_BOOLEAN", type := .int, accessFlags := 25, slot := 11, constantValue := 0 }, { name := "T_CHAR", type := .int, accessFlags := 25, slot := 12, constantValue := 0 }, { name := "T_FLOAT", type := .int, accessFlags := 25, slot := 13, constantValue := 0 }, { name := "T_DOUBLE", type := .int, accessFlags := 25, slot := 14, constantValue := 0 }, { name := "T_BYTE", type := .int, accessFlags := 25, slot := 15, constantValue := 0 }, { name := "T_SHORT", type := .int, accessFlags := 25, slot := 16, constantValue := 0 }, { name := "T_INT", type := .int, accessFlags := 25, slot := 17, constantValue := 0 }, { name := "T_LONG", type := .int, accessFlags := 25, slot := 18, constantValue := 0 }, { name := "JLA", type := (.object "jdk/internal/access/JavaLangAccess"), accessFlags := 26, slot := 19, constantValue := 0 }, { name := "SOFT_MAX_ARRAY_LENGTH", type := .int, accessFlags := 25, slot := 20, constantValue := 0 }]
  methods := #[k14m0]
  instanceTypes := #[]
  staticTypes := #[(.object "jdk/internal/misc/Unsafe"), .boolean, .int, .int, .int, .int, .int, .int, .int, .int, .int, .int, .int, .int, .int, .int, .int, .int, .int, (.object "jdk/internal/access/JavaLangAccess"), .int]
  resolved := Array.replicate 378 none
  statics := none }

def pool15 : Array CpInfo := pool [(1, u "java/lang/Cloneable"), (0, .class_ 1), (0, u "java/lang/Object"), (0, .class_ 3)] 3

/-- java/lang/Cloneable -/
def k15 : Class := { plain "java/lang/Cloneable" (some 0) with
  accessFlags := 1537
  interfaces := #[]
  cf := some (fileOf pool15 2 #[] #[] 1537 4 #[] #[])
  fields := #[]
  methods := #[]
  instanceTypes := #[]
  staticTypes := #[]
  resolved := Array.replicate 8 none
  statics := none }

/-- the primitive byte -/
def k16 : Class := { plain "byte" none with kind := .primitive 'B', accessFlags := 0x411 }
/-- [B -/
def k17 : Class := { plain "[B" (some 0) with kind := .array 16 .byte, interfaces := #[15, 2], accessFlags := 1041 }

/-- the primitive char -/
def k18 : Class := { plain "char" none with kind := .primitive 'C', accessFlags := 0x411 }
/-- [C -/
def k19 : Class := { plain "[C" (some 0) with kind := .array 18 .char, interfaces := #[15, 2], accessFlags := 1041 }

/-- the primitive int -/
def k20 : Class := { plain "int" none with kind := .primitive 'I', accessFlags := 0x411 }
/-- [I -/
def k21 : Class := { plain "[I" (some 0) with kind := .array 20 .int, interfaces := #[15, 2], accessFlags := 1041 }

def heap : Heap := #[{ cls := 7, slots := #[.long 0, .int 1, .null, .int 0, .null, .int 0, .int 0], vm := .statics 7 },
  { cls := 11, slots := #[.ref 4, .ref 3, .null], vm := .statics 11 },
  { cls := 13, slots := #[.null, .null, .null], vm := .statics 13 },
  { cls := 11, slots := #[.null, .int 0, .int 0, .null], vm := .none },
  { cls := 11, slots := #[.null, .int 0, .int 0, .null], vm := .none }]
def classes : Array Class := #[k0, k1, k2, k3, k4, k5, k6, k7, k8, k9, k10, k11, k12, k13, k14, k15, k16, k17, k18, k19, k20, k21]
def interned : List (Array UInt16 × Addr) := []
def slotsUsed : Nat := 21
def theMethod : MethodId := ⟨1, 1⟩
def args0 : Array Value := #[.long 2, .long 1, .int 65, .int 7, .int 77, .int 1]
def aboutOver (below : List Frame) : State where
  vm := { classes := classes, interned := interned.toArray }
  heap := heap
  slotsUsed := slotsUsed
  threads := #[{ frames := .invoking theMethod args0 :: below }]
def below0 : List Frame := [.native { method := ⟨0, 0⟩, args := #[] }]
def about1 : State := aboutOver below0
def p0 : Program := .bare "" "" ""
def e0 : Env := launch0.env 0 0 0
theorem w_frames : about1.frames = Frame.invoking theMethod args0 :: below0 := rfl
set_option maxRecDepth 65536 in
theorem w_args : argsFit about1.vm theMethod args0 = true := by decide +kernel
set_option maxRecDepth 65536 in
theorem w_heap : heapFits about1 = true := by decide +kernel
set_option maxRecDepth 65536 in
theorem w_runnable : about1.curStatus? = some .runnable := by decide +kernel
set_option maxRecDepth 65536 in
theorem w_alone : about1.alone = true := by decide +kernel
set_option maxRecDepth 65536 in
theorem w_named : about1.methodNamed? x = some theMethod := by decide +kernel
set_option maxRecDepth 65536 in
theorem w_hears : about1.hears theMethod below0 = true := by decide +kernel
set_option maxRecDepth 65536 in
theorem w_ripe : about1.ripe theMethod args0 below0 = true := by decide +kernel
theorem w_running : about1.status = .running := rfl
set_option maxRecDepth 65536 in
theorem w_room : about1.hasRoom e0.platform room_1 = true :=
  launch0.hasRoom_least _ room_1 (by decide +kernel) (by decide +kernel) (by decide +kernel) (by decide +kernel) (by decide +kernel) (by decide +kernel)
theorem allAtoms_all (ts : List Jvm.Cond) (a : Array Jvm.Value) (st : Jvm.State) : (allAtoms ts).before a st = ts.all (fun c => c.before a st) := by
  induction ts with
  | nil => rfl
  | cons c t ih =>
    show (Jvm.Cond.and c (allAtoms t)).before a st = _
    rw [Jvm.Cond.before_and, ih, List.all_cons]
def words1 : List Jvm.Cond := Jvm.Cond.code x code maxLocals ret :: tables_1
/-- a 'code' word, met by the world's own term for the bytes: nothing is compared byte by byte -/
theorem code_word {y : MethodName} {bytes : ByteArray} {mx : Nat} {rt : Option FieldType} {a : Array Value} {s : State} {m : MethodId} {meth : Method} {c : Code} (h1 : s.methodNamed? y = some m) (h2 : s.vm.method? m = some meth) (h3 : meth.code = some c) (h4 : c.code = bytes)
    (h5 : (c.maxLocals == mx && c.exceptionTable.isEmpty && decide (c.maxStack ≤ mostOperands) && decide (meth.sig.returnType = rt) && !meth.locks && decide (parseMethodDescriptor y.desc = some meth.sig)) = true) : (Jvm.Cond.code y bytes mx rt).before a s = true := by
  simp only [Bool.and_eq_true, beq_iff_eq, Bool.not_eq_true', decide_eq_true_eq] at h5
  obtain ⟨⟨⟨⟨⟨g1, g2⟩, g3⟩, g4⟩, g5⟩, g6⟩ := h5
  simp [Cond.before, Cond.holds, Cond.value, h1, h2, h3, h4, g1, g2, g3, g4, g5, g6]
def isCode : Jvm.Cond → Bool
  | .code _ _ _ _ => true
  | _ => false
theorem all_split {L : List Jvm.Cond} {P : Jvm.Cond → Bool} (h1 : L.all (fun c => isCode c || P c) = true) (h2 : ∀ c ∈ L.filter isCode, P c = true) : L.all P = true := by
  refine List.all_eq_true.mpr fun c hc => ?_
  have h := List.all_eq_true.mp h1 c hc
  rcases Bool.eq_false_or_eq_true (isCode c) with hi | hi
  · exact h2 c (List.mem_filter.mpr ⟨hc, hi⟩)
  · simpa [hi] using h
set_option maxRecDepth 65536 in
theorem w_c0 : (Jvm.Cond.code x code maxLocals ret).before args0 about1 = true := code_word (m := ⟨1, 1⟩) (meth := k1m1) (c := k1c1) (by decide +kernel) rfl rfl rfl (by decide +kernel)
set_option maxRecDepth 65536 in
theorem w_c1 : (Jvm.Cond.code ({ cls := "java/lang/String", name := "<init>", desc := "([C)V" } : Jvm.MethodName) jdk_42_method_3_code (2 : Nat) (Option.none : Option Jvm.ClassFile.FieldType)).before args0 about1 = true := code_word (m := ⟨7, 1⟩) (meth := k7m1) (c := k7c1) (by decide +kernel) rfl rfl rfl (by decide +kernel)
set_option maxRecDepth 65536 in
theorem w_c2 : (Jvm.Cond.code ({ cls := "java/lang/String", name := "<init>", desc := "([CIILjava/lang/Void;)V" } : Jvm.MethodName) jdk_42_method_149_code (6 : Nat) (Option.none : Option Jvm.ClassFile.FieldType)).before args0 about1 = true := code_word (m := ⟨7, 3⟩) (meth := k7m3) (c := k7c3) (by decide +kernel) rfl rfl rfl (by decide +kernel)
set_option maxRecDepth 65536 in
theorem w_c3 : (Jvm.Cond.code ({ cls := "java/lang/Object", name := "<init>", desc := "()V" } : Jvm.MethodName) object_method_1_code (1 : Nat) (Option.none : Option Jvm.ClassFile.FieldType)).before args0 about1 = true := code_word (m := ⟨0, 0⟩) (meth := k0m0) (c := k0c0) (by decide +kernel) rfl rfl rfl (by decide +kernel)
set_option maxRecDepth 65536 in
theorem w_c4 : (Jvm.Cond.code ({ cls := "java/lang/StringUTF16", name := "compress", desc := "([CII)[B" } : Jvm.MethodName) jdk_52_method_16_code (6 : Nat) (Option.some (Jvm.ClassFile.FieldType.array Jvm.ClassFile.FieldType.byte))).before args0 about1 = true := code_word (m := ⟨8, 2⟩) (meth := k8m2) (c := k8c2) (by decide +kernel) rfl rfl rfl (by decide +kernel)
set_option maxRecDepth 65536 in
theorem w_c5 : (Jvm.Cond.code ({ cls := "java/lang/StringUTF16", name := "compress", desc := "([CI[BII)I" } : Jvm.MethodName) jdk_52_method_21_code (7 : Nat) (Option.some Jvm.ClassFile.FieldType.int)).before args0 about1 = true := code_word (m := ⟨8, 3⟩) (meth := k8m3) (c := k8c3) (by decide +kernel) rfl rfl rfl (by decide +kernel)
set_option maxRecDepth 65536 in
theorem w_c6 : (Jvm.Cond.code ({ cls := "java/lang/StringUTF16", name := "coderFromArrayLen", desc := "([BI)B" } : Jvm.MethodName) jdk_52_method_15_code (2 : Nat) (Option.some Jvm.ClassFile.FieldType.byte)).before args0 about1 = true := code_word (m := ⟨8, 1⟩) (meth := k8m1) (c := k8c1) (by decide +kernel) rfl rfl rfl (by decide +kernel)
set_option maxRecDepth 65536 in
theorem w_c7 : (Jvm.Cond.code ({ cls := "java/lang/String", name := "valueOf", desc := "(C)Ljava/lang/String;" } : Jvm.MethodName) jdk_42_method_139_code (1 : Nat) (Option.some (Jvm.ClassFile.FieldType.object "java/lang/String"))).before args0 about1 = true := code_word (m := ⟨7, 2⟩) (meth := k7m2) (c := k7c2) (by decide +kernel) rfl rfl rfl (by decide +kernel)
set_option maxRecDepth 65536 in
theorem w_c8 : (Jvm.Cond.code ({ cls := "java/lang/StringLatin1", name := "canEncode", desc := "(C)Z" } : Jvm.MethodName) jdk_43_method_3_code (1 : Nat) (Option.some Jvm.ClassFile.FieldType.boolean)).before args0 about1 = true := code_word (m := ⟨9, 1⟩) (meth := k9m1) (c := k9c1) (by decide +kernel) rfl rfl rfl (by decide +kernel)
set_option maxRecDepth 65536 in
theorem w_c9 : (Jvm.Cond.code ({ cls := "java/lang/StringLatin1", name := "toBytes", desc := "(C)[B" } : Jvm.MethodName) jdk_43_method_46_code (1 : Nat) (Option.some (Jvm.ClassFile.FieldType.array Jvm.ClassFile.FieldType.byte))).before args0 about1 = true := code_word (m := ⟨9, 2⟩) (meth := k9m2) (c := k9c2) (by decide +kernel) rfl rfl rfl (by decide +kernel)
set_option maxRecDepth 65536 in
theorem w_c10 : (Jvm.Cond.code ({ cls := "java/lang/String", name := "<init>", desc := "([BB)V" } : Jvm.MethodName) jdk_42_method_151_code (3 : Nat) (Option.none : Option Jvm.ClassFile.FieldType)).before args0 about1 = true := code_word (m := ⟨7, 4⟩) (meth := k7m4) (c := k7c4) (by decide +kernel) rfl rfl rfl (by decide +kernel)
set_option maxRecDepth 65536 in
theorem w_c11 : (Jvm.Cond.code ({ cls := "com/example/graph_job_runner/graphjobrunner/ClaimedNode", name := "<init>", desc := "(JLjava/lang/String;Ljava/lang/String;Ljava/lang/String;[BIILcom/example/graph_job_runner/graphjobrunner/FailStrategy;Z)V" } : Jvm.MethodName) prog_3_method_1_code (11 : Nat) (Option.none : Option Jvm.ClassFile.FieldType)).before args0 about1 = true := code_word (m := ⟨12, 0⟩) (meth := k12m0) (c := k12c0) (by decide +kernel) rfl rfl rfl (by decide +kernel)
set_option maxRecDepth 65536 in
theorem w_c12 : (Jvm.Cond.code ({ cls := "com/example/graph_job_runner/graphjobrunner/ClaimedNode", name := "<init>", desc := "(JLjava/lang/String;Ljava/lang/String;JLjava/lang/String;Ljava/lang/String;[BIILcom/example/graph_job_runner/graphjobrunner/FailStrategy;Z)V" } : Jvm.MethodName) prog_3_method_3_code (14 : Nat) (Option.none : Option Jvm.ClassFile.FieldType)).before args0 about1 = true := code_word (m := ⟨12, 2⟩) (meth := k12m2) (c := k12c2) (by decide +kernel) rfl rfl rfl (by decide +kernel)
set_option maxRecDepth 65536 in
theorem w_c13 : (Jvm.Cond.code ({ cls := "com/example/graph_job_runner/graphjobrunner/ClaimedNode", name := "inStream", desc := "()Z" } : Jvm.MethodName) prog_3_method_5_code (1 : Nat) (Option.some Jvm.ClassFile.FieldType.boolean)).before args0 about1 = true := code_word (m := ⟨12, 3⟩) (meth := k12m3) (c := k12c3) (by decide +kernel) rfl rfl rfl (by decide +kernel)
set_option maxRecDepth 65536 in
theorem w_c14 : (Jvm.Cond.code ({ cls := "com/example/graph_job_runner/graphjobrunner/ClaimedNode", name := "runKey", desc := "()Ljava/lang/String;" } : Jvm.MethodName) prog_3_method_6_code (1 : Nat) (Option.some (Jvm.ClassFile.FieldType.object "java/lang/String"))).before args0 about1 = true := code_word (m := ⟨12, 4⟩) (meth := k12m4) (c := k12c4) (by decide +kernel) rfl rfl rfl (by decide +kernel)
set_option maxRecDepth 65536 in
theorem w_c15 : (Jvm.Cond.code ({ cls := "com/example/graph_job_runner/graphjobrunner/ClaimedNode", name := "streamKey", desc := "()Ljava/lang/String;" } : Jvm.MethodName) prog_3_method_7_code (1 : Nat) (Option.some (Jvm.ClassFile.FieldType.object "java/lang/String"))).before args0 about1 = true := code_word (m := ⟨12, 5⟩) (meth := k12m5) (c := k12c5) (by decide +kernel) rfl rfl rfl (by decide +kernel)
set_option maxRecDepth 65536 in
theorem w_c16 : (Jvm.Cond.code ({ cls := "com/example/graph_job_runner/graphjobrunner/ClaimedNode", name := "<init>", desc := "(JLjava/lang/String;JLjava/lang/String;Ljava/lang/String;[BIILcom/example/graph_job_runner/graphjobrunner/FailStrategy;)V" } : Jvm.MethodName) prog_3_method_2_code (12 : Nat) (Option.none : Option Jvm.ClassFile.FieldType)).before args0 about1 = true := code_word (m := ⟨12, 1⟩) (meth := k12m1) (c := k12c1) (by decide +kernel) rfl rfl rfl (by decide +kernel)
def codes1 : List Jvm.Cond := [Jvm.Cond.code x code maxLocals ret, Jvm.Cond.code ({ cls := "java/lang/String", name := "<init>", desc := "([C)V" } : Jvm.MethodName) jdk_42_method_3_code (2 : Nat) (Option.none : Option Jvm.ClassFile.FieldType), Jvm.Cond.code ({ cls := "java/lang/String", name := "<init>", desc := "([CIILjava/lang/Void;)V" } : Jvm.MethodName) jdk_42_method_149_code (6 : Nat) (Option.none : Option Jvm.ClassFile.FieldType), Jvm.Cond.code ({ cls := "java/lang/Object", name := "<init>", desc := "()V" } : Jvm.MethodName) object_method_1_code (1 : Nat) (Option.none : Option Jvm.ClassFile.FieldType), Jvm.Cond.code ({ cls := "java/lang/StringUTF16", name := "compress", desc := "([CII)[B" } : Jvm.MethodName) jdk_52_method_16_code (6 : Nat) (Option.some (Jvm.ClassFile.FieldType.array Jvm.ClassFile.FieldType.byte)), Jvm.Cond.code ({ cls := "java/lang/StringUTF16", name := "compress", desc := "([CI[BII)I" } : Jvm.MethodName) jdk_52_method_21_code (7 : Nat) (Option.some Jvm.ClassFile.FieldType.int), Jvm.Cond.code ({ cls := "java/lang/StringUTF16", name := "coderFromArrayLen", desc := "([BI)B" } : Jvm.MethodName) jdk_52_method_15_code (2 : Nat) (Option.some Jvm.ClassFile.FieldType.byte), Jvm.Cond.code ({ cls := "java/lang/String", name := "valueOf", desc := "(C)Ljava/lang/String;" } : Jvm.MethodName) jdk_42_method_139_code (1 : Nat) (Option.some (Jvm.ClassFile.FieldType.object "java/lang/String")), Jvm.Cond.code ({ cls := "java/lang/StringLatin1", name := "canEncode", desc := "(C)Z" } : Jvm.MethodName) jdk_43_method_3_code (1 : Nat) (Option.some Jvm.ClassFile.FieldType.boolean), Jvm.Cond.code ({ cls := "java/lang/StringLatin1", name := "toBytes", desc := "(C)[B" } : Jvm.MethodName) jdk_43_method_46_code (1 : Nat) (Option.some (Jvm.ClassFile.FieldType.array Jvm.ClassFile.FieldType.byte)), Jvm.Cond.code ({ cls := "java/lang/String", name := "<init>", desc := "([BB)V" } : Jvm.MethodName) jdk_42_method_151_code (3 : Nat) (Option.none : Option Jvm.ClassFile.FieldType), Jvm.Cond.code ({ cls := "com/example/graph_job_runner/graphjobrunner/ClaimedNode", name := "<init>", desc := "(JLjava/lang/String;Ljava/lang/String;Ljava/lang/String;[BIILcom/example/graph_job_runner/graphjobrunner/FailStrategy;Z)V" } : Jvm.MethodName) prog_3_method_1_code (11 : Nat) (Option.none : Option Jvm.ClassFile.FieldType), Jvm.Cond.code ({ cls := "com/example/graph_job_runner/graphjobrunner/ClaimedNode", name := "<init>", desc := "(JLjava/lang/String;Ljava/lang/String;JLjava/lang/String;Ljava/lang/String;[BIILcom/example/graph_job_runner/graphjobrunner/FailStrategy;Z)V" } : Jvm.MethodName) prog_3_method_3_code (14 : Nat) (Option.none : Option Jvm.ClassFile.FieldType), Jvm.Cond.code ({ cls := "com/example/graph_job_runner/graphjobrunner/ClaimedNode", name := "inStream", desc := "()Z" } : Jvm.MethodName) prog_3_method_5_code (1 : Nat) (Option.some Jvm.ClassFile.FieldType.boolean), Jvm.Cond.code ({ cls := "com/example/graph_job_runner/graphjobrunner/ClaimedNode", name := "runKey", desc := "()Ljava/lang/String;" } : Jvm.MethodName) prog_3_method_6_code (1 : Nat) (Option.some (Jvm.ClassFile.FieldType.object "java/lang/String")), Jvm.Cond.code ({ cls := "com/example/graph_job_runner/graphjobrunner/ClaimedNode", name := "streamKey", desc := "()Ljava/lang/String;" } : Jvm.MethodName) prog_3_method_7_code (1 : Nat) (Option.some (Jvm.ClassFile.FieldType.object "java/lang/String")), Jvm.Cond.code ({ cls := "com/example/graph_job_runner/graphjobrunner/ClaimedNode", name := "<init>", desc := "(JLjava/lang/String;JLjava/lang/String;Ljava/lang/String;[BIILcom/example/graph_job_runner/graphjobrunner/FailStrategy;)V" } : Jvm.MethodName) prog_3_method_2_code (12 : Nat) (Option.none : Option Jvm.ClassFile.FieldType)]
set_option maxRecDepth 65536 in
theorem codes_eq : words1.filter isCode = codes1 := rfl
theorem w_codes : ∀ c ∈ words1.filter isCode, c.before args0 about1 = true := by
  rw [codes_eq]
  intro c hc
  simp only [codes1, List.mem_cons, List.not_mem_nil, or_false] at hc
  rcases hc with rfl | rfl | rfl | rfl | rfl | rfl | rfl | rfl | rfl | rfl | rfl | rfl | rfl | rfl | rfl | rfl | rfl
  · exact w_c0
  · exact w_c1
  · exact w_c2
  · exact w_c3
  · exact w_c4
  · exact w_c5
  · exact w_c6
  · exact w_c7
  · exact w_c8
  · exact w_c9
  · exact w_c10
  · exact w_c11
  · exact w_c12
  · exact w_c13
  · exact w_c14
  · exact w_c15
  · exact w_c16
set_option maxRecDepth 65536 in
theorem w_t1 : (words1.take 24).all (fun c => isCode c || c.before args0 about1) = true := by decide +kernel
set_option maxRecDepth 65536 in
theorem w_t2 : ((words1.drop 24).take 24).all (fun c => isCode c || c.before args0 about1) = true := by decide +kernel
set_option maxRecDepth 65536 in
theorem w_t3 : (((words1.drop 24).drop 24).take 24).all (fun c => isCode c || c.before args0 about1) = true := by decide +kernel
set_option maxRecDepth 65536 in
theorem w_t4 : ((((words1.drop 24).drop 24).drop 24).take 24).all (fun c => isCode c || c.before args0 about1) = true := by decide +kernel
set_option maxRecDepth 65536 in
theorem w_t5 : ((((words1.drop 24).drop 24).drop 24).drop 24).all (fun c => isCode c || c.before args0 about1) = true := by decide +kernel
theorem w_tables : (allAtoms (Jvm.Cond.code x code maxLocals ret :: tables_1)).before args0 about1 = true := by
  rw [allAtoms_all]
  show words1.all (fun c => c.before args0 about1) = true
  refine all_split ?_ w_codes
  rw [← List.take_append_drop 24 words1, List.all_append, w_t1, ← List.take_append_drop 24 (words1.drop 24), List.all_append, w_t2, ← List.take_append_drop 24 ((words1.drop 24).drop 24), List.all_append, w_t3, ← List.take_append_drop 24 (((words1.drop 24).drop 24).drop 24), List.all_append, w_t4, w_t5]
  rfl
set_option maxRecDepth 65536 in
theorem w_rest : rest_1_c.before args0 about1 = true := by decide +kernel
set_option maxRecDepth 65536 in
theorem w_case : (Jvm.Cond.and given_1 narrow_1).before args0 about1 = true := by decide +kernel
theorem w_applies : (headSpec (Jvm.Cond.code x code maxLocals ret :: tables_1) room_1).applies x e0.platform about1 = true :=
  (Spec.applies_iff w_frames).mpr ⟨w_running, w_runnable, w_alone, w_named, w_hears, w_ripe, w_room, w_tables⟩
theorem atStart : AtStart classFile x code maxLocals ret World_1 tables_1 room_1 Calls_1 rest_1 Pre_1 launch0 p0 e0 about1 theMethod args0 below0 :=
  ⟨lists_1, trivial, launch0.admits_env _ _ _, launch0.least_env, fairChoices_fair.cas, fairChoices_fair.clock, w_frames, w_args, w_heap, w_applies, trivial, w_rest, w_case⟩
end start1
theorem witness_1 : WitnessClaimed_1 := ⟨start1.p0, start1.e0, start1.about1, start1.theMethod, start1.args0, start1.below0, start1.atStart⟩
end Jvm.Pilot.@@N@@
