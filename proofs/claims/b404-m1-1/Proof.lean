import JvmDerived
import JvmDerived.Pilot.@@N@@Statement
import JvmDerived.Pilot.@@N@@Code
set_option linter.unusedVariables false
set_option linter.unusedSimpArgs false
namespace Jvm.RoadKit
open Sem ClassFile Op Lib Jvm.Stand Jvm.Free Jvm.LawKit
section New
variable {p : Program} {l : Launch} {e : Env} {R : Room} {s : State} {m : MethodId} {args : Array Value} {below : List Frame} {meth : Method} {c : Code} {T : State} {locs : List Loc} {cells slots : Nat}
theorem retI (X : Stand p l e R s m args below meth c T locs cells slots) (hx : p.tables.exec = Jvm.exec) {pc : Nat} {Ls : Array Slot} {z : Int32} {rest : List Value} (hret : meth.sig.returnType = some .int) (hd : decode c.code pc = .ok (.ireturn, 1)) {fs : List Frame}
    (hl : ∀ (f : JFrame) (acts : List Action), f.method = m → f.locked = none → f.entered = [] → (doReturn e (T.setTop f) acts (some (.int z))).1 = T.setFrames fs) : Steps p.tables e below (T.setTop (mkF m pc Ls (.int z :: rest))) (T.setFrames fs) := by
  have hm' : T.vm.method? m = some meth := X.method'
  have hn : narrow .int (.int z) = .int z := rfl
  show Steps p.tables e below (T.setTop { method := m, pc := pc, locals := Ls, stack := _ :: rest, locked := none }) _
  jvm_step X.here [X.here.top, hx, hd, hm', hret, hn]
  first | (intro acts; rw [hl _ acts rfl rfl rfl]) | rw [hl _ _ rfl rfl rfl]
  exact Steps.refl _
end New
end Jvm.RoadKit
namespace Jvm.Pilot.@@N@@
open Jvm Jvm.ClassFile Sem Op Lib Jvm.Free Jvm.Stand Jvm.LawKit Jvm.RoadKit Bundle Jvm.Pilot.@@N@@.Jvm.D
abbrev Sp (p : Program) (e : Env) (below : List Frame) (T : State) (f : JFrame) (t : State) : Prop := Steps p.tables e below (T.setTop f) t
theorem own_sz {Z : State} {n0 : Nat} {h : Heap} (O : Old Z n0 h) : n0 ≤ h.size := O.1 ▸ O.2.1
theorem own_nei {x c : Int32} {n : Int} (h : ¬ x = c) (e : c.toInt = n) : x.toInt ≠ n := fun q => h (Int32.toInt_inj.mp (q.trans e.symm))
theorem own_eq {x c : Int32} {n : Int} (e : c.toInt = n) (h : x.toInt = n) : x = c := Int32.toInt_inj.mp (h.trans e.symm)
theorem own_eqi {x c : Int32} {n : Int} (h : x = c) (e : c.toInt = n) : x.toInt = n := by rw [h]; exact e
theorem own_fldi {args : Array Value} {s : State} {t : Term} {a : Addr} {C n d : String} {c : Int32} (ev : t.eval args s none [] s = some (.ref a)) (h : (Cond.eq (.field t C n d) (.int c)).value args s none s [] = some true) : Fld s s.heap a C n d (.int c) := by
  apply Fld.start
  cases hf : s.fieldOf? a C n d with
  | none => simp [Cond.value, Term.eval, ev, hf] at h
  | some x => cases x <;> simp [Cond.value, Term.eval, ev, hf] at h ⊢; exact h
theorem own_fldr {args : Array Value} {s : State} {t u : Term} {a b : Addr} {C n d : String} (ev : t.eval args s none [] s = some (.ref a)) (eu : u.eval args s none [] s = some (.ref b)) (h : (Cond.eq (.field t C n d) u).value args s none s [] = some true) : Fld s s.heap a C n d (.ref b) := by
  apply Fld.start
  cases hf : s.fieldOf? a C n d with
  | none => simp [Cond.value, Term.eval, ev, eu, hf] at h
  | some x => cases x <;> simp [Cond.value, Term.eval, ev, eu, hf] at h ⊢; exact h
theorem own_rem {x m : Int32} {M d : Int} (hm : m.toInt = M) (h0 : 0 ≤ M) {y : Int32} (hy : y.toInt = d) (hd : 0 < d) : 0 ≤ ((x &&& m) % y).toInt ∧ ((x &&& m) % y).toInt < d := by
  have a := c_and x m (by rw [hm]; exact h0)
  have b := (c_irem (x &&& m) y d hy).1 a.1
  rw [b]; exact ⟨Int.emod_nonneg _ (by omega), Int.emod_lt_of_pos _ hd⟩
theorem own_and {x m : Int32} {M : Int} (hm : m.toInt = M) (h0 : 0 ≤ M) : 0 ≤ (x &&& m).toInt ∧ (x &&& m).toInt < M + 1 := by
  have a := c_and x m (by rw [hm]; exact h0)
  rw [hm] at a; omega
def Perm (Z : State) (w_XML_INVALID : Addr) (w_STATUS_UNAVAILABLE : Addr) (w_IMPORTED : Addr) (w_IMPORTED_WITH_WARNINGS : Addr) : Prop := Sta Z Z.heap "com/example/epcrtools/epcrtools/exchange/StatusCode" "XML_INVALID" "Lcom/example/epcrtools/epcrtools/exchange/StatusCode;" (.ref w_XML_INVALID) ∧ Exa Z Z.heap w_XML_INVALID "com/example/epcrtools/epcrtools/exchange/StatusCode" ∧ Sta Z Z.heap "com/example/epcrtools/epcrtools/exchange/StatusCode" "STATUS_UNAVAILABLE" "Lcom/example/epcrtools/epcrtools/exchange/StatusCode;" (.ref w_STATUS_UNAVAILABLE) ∧ Exa Z Z.heap w_STATUS_UNAVAILABLE "com/example/epcrtools/epcrtools/exchange/StatusCode" ∧ Sta Z Z.heap "com/example/epcrtools/epcrtools/exchange/StatusCode" "IMPORTED" "Lcom/example/epcrtools/epcrtools/exchange/StatusCode;" (.ref w_IMPORTED) ∧ Exa Z Z.heap w_IMPORTED "com/example/epcrtools/epcrtools/exchange/StatusCode" ∧ Sta Z Z.heap "com/example/epcrtools/epcrtools/exchange/StatusCode" "IMPORTED_WITH_WARNINGS" "Lcom/example/epcrtools/epcrtools/exchange/StatusCode;" (.ref w_IMPORTED_WITH_WARNINGS) ∧ Exa Z Z.heap w_IMPORTED_WITH_WARNINGS "com/example/epcrtools/epcrtools/exchange/StatusCode"
theorem d1_0 : decode method_2_code 0 = .ok (.iload_n 0, 1) := by decide +kernel
theorem d1_1 : decode method_2_code 1 = .ok (.iconst 3, 1) := by decide +kernel
theorem d1_2 : decode method_2_code 2 = .ok (.iand, 1) := by decide +kernel
theorem d1_3 : decode method_2_code 3 = .ok (.istore_n 1, 1) := by decide +kernel
theorem d1_4 : decode method_2_code 4 = .ok (.iload_n 1, 1) := by decide +kernel
theorem d1_5 : decode method_2_code 5 = .ok (.ifCond .ne 7, 3) := by decide +kernel
theorem d1_8 : decode method_2_code 8 = .ok (.getstatic 7, 3) := by decide +kernel
theorem d1_11 : decode method_2_code 11 = .ok (.areturn, 1) := by decide +kernel
abbrev y0 : MethodName := (⟨"com/example/epcrtools/epcrtools/exchange/SubmissionStatusSizePinLaw", "code", "(I)Lcom/example/epcrtools/epcrtools/exchange/StatusCode;"⟩ : MethodName)
theorem ef_1_0 (m : MethodId) (x0 : Int32) : entryFrame m #[(.int x0)] 2 = mkF m 0 #[.val (.int x0), .unset] [] := by first | (simp [entryFrame, mkF, argsToLocals, Value.category]; done) | rfl
theorem pn_1 : plainName "com/example/epcrtools/epcrtools/exchange/SubmissionStatusSizePinLaw" = true := by first | (simp [plainName, overriddenIn]; done) | decide +kernel
def Q1 (Z : State) (w_XML_INVALID : Addr) (w_STATUS_UNAVAILABLE : Addr) (w_IMPORTED : Addr) (w_IMPORTED_WITH_WARNINGS : Addr) (p0 : Int32) (h0 : Heap) (n0 : Nat) (v : Option Value) (h : Heap) (L : List Loc) : Prop := v = some (.ref w_IMPORTED) ∧ Fr n0 L ∧ h = h0
set_option maxRecDepth 65536 in
set_option maxHeartbeats 40000000 in
theorem rm1 (l : Launch) (Z : State) (a0 : Array Value) (hw : ∀ d ∈ tables_1, d.before a0 Z = true) (ws : List Jvm.Cond) (w_XML_INVALID w_STATUS_UNAVAILABLE w_IMPORTED w_IMPORTED_WITH_WARNINGS : Addr) (hp : Perm Z w_XML_INVALID w_STATUS_UNAVAILABLE w_IMPORTED w_IMPORTED_WITH_WARNINGS) (p0 : Int32) (h0 : Heap) (n0 : Nat) (O0 : Old Z n0 h0) (hc1 : (p0 &&& (3 : Int32)) = (0 : Int32)) :
    MetFree l y0 (head1 (Jvm.Cond.code y0 method_2_code 2 (some (.object "com/example/epcrtools/epcrtools/exchange/StatusCode")) :: ws) ({ frames := 0, cells := 0, slots := 0, locals := 0 } : Room)) (fun a U => a = #[(.int p0)] ∧ Z.Warmed39 U.vm ∧ U.heap = h0) (fun _ _ _ _ _ => True) (fun _ U o U' => ∃ v L, o = .returned v ∧ Q1 Z w_XML_INVALID w_STATUS_UNAVAILABLE w_IMPORTED w_IMPORTED_WITH_WARNINGS p0 h0 n0 v U'.heap L ∧ FrameEnd U o U' L ({ frames := 0, cells := 0, slots := 0, locals := 0 } : Room).cells ({ frames := 0, cells := 0, slots := 0, locals := 0 } : Room).slots) := by
  refine MetFree.of_bodySF (plainFor_of_name pn_1) hisR ?_
  intro p e s m args below meth c s₁ Bd hml0 hP hK
  obtain ⟨rfl, hZ, hh⟩ := hP
  have hx := Bd.exec
  have hby := Bd.bytes
  have hml : c.maxLocals = 2 := hml0
  have hown : s.vm.findClass "com/example/epcrtools/epcrtools/exchange/SubmissionStatusSizePinLaw" = some m.cls := findClass_of_methodNamed Bd.named
  have hnm := (name_of_methodNamed Bd.named Bd.method).1
  have X0 : Stand p l e ({ frames := 0, cells := 0, slots := 0, locals := 0 } : Room) s m #[(.int p0)] below meth c s₁ [] 0 0 := Stand.of_body Bd
  have e0 : s₁.heap = h0 := by rw [← hh, Bd.state]; rfl
  have N0 := Fr.nil n0
  have hp' := hp
  obtain ⟨S_w_XML_INVALID, E_w_XML_INVALID, S_w_STATUS_UNAVAILABLE, E_w_STATUS_UNAVAILABLE, S_w_IMPORTED, E_w_IMPORTED, S_w_IMPORTED_WITH_WARNINGS, E_w_IMPORTED_WITH_WARNINGS⟩ := hp'
  have pre0 : ∀ t, Steps p.tables e below (s₁.setTop (mkF m 0 #[.val (.int p0), .unset] [])) t → Steps p.tables e below (s₁.setTop (entryFrame m #[(.int p0)] 2)) t := fun t k => castTop (ef_1_0 m p0) k
  obtain ⟨T1, X1, e1, st1⟩ := getS2 X0 hx hZ hown (host := "") (Or.inl (hw _ (List.mem_of_getElem? (i := 52) rfl))) Via.refl e0 (S_w_IMPORTED.ext O0.2) (g := (mkF m 8 #[.val (.int p0), .val (.int (p0 &&& (3 : Int32)))] [])) rfl (hb hby d1_8)
  obtain ⟨fs, hr, hrun, hended, hW, hsame⟩ := X1.leave (v := some (.ref w_IMPORTED)) (fun h => by rw [Bd.returns] at h; cases h)
  refine ⟨_, _, pre0 _ ?_, hrun, hended, _, _, rfl, ?_, ⟨_, rfl⟩, hW, hsame.mono (by decide) (by decide)⟩
  · show Sp p e below s₁ (mkF m 0 #[.val (.int p0), .unset] []) _
    refine XS.iloadN X0.here hx rfl (hb hby d1_0) rfl ?_
    show Sp p e below s₁ (mkF m 1 #[.val (.int p0), .unset] [(.int p0)]) _
    refine XS.iconst X0.here hx rfl (hb hby d1_1) ?_
    show Sp p e below s₁ (mkF m 2 #[.val (.int p0), .unset] [(.int (3 : Int32)), (.int p0)]) _
    refine XS.iand X0.here hx rfl (hb hby d1_2) rfl ?_
    show Sp p e below s₁ (mkF m 3 #[.val (.int p0), .unset] [(.int (p0 &&& (3 : Int32)))]) _
    refine XS.istoreN X0.here hx rfl (hb hby d1_3) rfl (l' := #[.val (.int p0), .val (.int (p0 &&& (3 : Int32)))]) rfl ?_
    show Sp p e below s₁ (mkF m 4 #[.val (.int p0), .val (.int (p0 &&& (3 : Int32)))] []) _
    refine XS.iloadN X0.here hx rfl (hb hby d1_4) rfl ?_
    show Sp p e below s₁ (mkF m 5 #[.val (.int p0), .val (.int (p0 &&& (3 : Int32)))] [(.int (p0 &&& (3 : Int32)))]) _
    refine XS.ifNo X0.here hx rfl (hb hby d1_5) rfl ((if0 _ _).trans (teq hc1).2) ?_
    show Sp p e below s₁ (mkF m 8 #[.val (.int p0), .val (.int (p0 &&& (3 : Int32)))] []) _
    refine st1 _ ?_
    show Sp p e below T1 (mkF m 11 #[.val (.int p0), .val (.int (p0 &&& (3 : Int32)))] [(.ref w_IMPORTED)]) _
    jvm_step X1.here [X1.here.top, hx, (hb hby d1_11), X1.method', Bd.returns, Value.isRef, FieldType.isReference]
    first | (intro acts; rw [hr _ acts rfl rfl rfl]) | rw [hr _ _ rfl rfl rfl]
    exact Steps.refl _
  · show Q1 Z w_XML_INVALID w_STATUS_UNAVAILABLE w_IMPORTED w_IMPORTED_WITH_WARNINGS p0 h0 n0 _ T1.heap _
    rw [e1]
    exact ⟨rfl, N0, rfl⟩
theorem d1_12 : decode method_2_code 12 = .ok (.iload_n 1, 1) := by decide +kernel
theorem d1_13 : decode method_2_code 13 = .ok (.iconst 1, 1) := by decide +kernel
theorem d1_14 : decode method_2_code 14 = .ok (.if_icmp .ne 7, 3) := by decide +kernel
theorem d1_17 : decode method_2_code 17 = .ok (.getstatic 13, 3) := by decide +kernel
theorem d1_20 : decode method_2_code 20 = .ok (.areturn, 1) := by decide +kernel
def Q2 (Z : State) (w_XML_INVALID : Addr) (w_STATUS_UNAVAILABLE : Addr) (w_IMPORTED : Addr) (w_IMPORTED_WITH_WARNINGS : Addr) (p0 : Int32) (h0 : Heap) (n0 : Nat) (v : Option Value) (h : Heap) (L : List Loc) : Prop := v = some (.ref w_XML_INVALID) ∧ Fr n0 L ∧ h = h0
set_option maxRecDepth 65536 in
set_option maxHeartbeats 40000000 in
theorem rm2 (l : Launch) (Z : State) (a0 : Array Value) (hw : ∀ d ∈ tables_1, d.before a0 Z = true) (ws : List Jvm.Cond) (w_XML_INVALID w_STATUS_UNAVAILABLE w_IMPORTED w_IMPORTED_WITH_WARNINGS : Addr) (hp : Perm Z w_XML_INVALID w_STATUS_UNAVAILABLE w_IMPORTED w_IMPORTED_WITH_WARNINGS) (p0 : Int32) (h0 : Heap) (n0 : Nat) (O0 : Old Z n0 h0) (hc1 : ¬ ((p0 &&& (3 : Int32)) = (0 : Int32))) (hc2 : (p0 &&& (3 : Int32)) = (1 : Int32)) :
    MetFree l y0 (head1 (Jvm.Cond.code y0 method_2_code 2 (some (.object "com/example/epcrtools/epcrtools/exchange/StatusCode")) :: ws) ({ frames := 0, cells := 0, slots := 0, locals := 0 } : Room)) (fun a U => a = #[(.int p0)] ∧ Z.Warmed39 U.vm ∧ U.heap = h0) (fun _ _ _ _ _ => True) (fun _ U o U' => ∃ v L, o = .returned v ∧ Q2 Z w_XML_INVALID w_STATUS_UNAVAILABLE w_IMPORTED w_IMPORTED_WITH_WARNINGS p0 h0 n0 v U'.heap L ∧ FrameEnd U o U' L ({ frames := 0, cells := 0, slots := 0, locals := 0 } : Room).cells ({ frames := 0, cells := 0, slots := 0, locals := 0 } : Room).slots) := by
  refine MetFree.of_bodySF (plainFor_of_name pn_1) hisR ?_
  intro p e s m args below meth c s₁ Bd hml0 hP hK
  obtain ⟨rfl, hZ, hh⟩ := hP
  have hx := Bd.exec
  have hby := Bd.bytes
  have hml : c.maxLocals = 2 := hml0
  have hown : s.vm.findClass "com/example/epcrtools/epcrtools/exchange/SubmissionStatusSizePinLaw" = some m.cls := findClass_of_methodNamed Bd.named
  have hnm := (name_of_methodNamed Bd.named Bd.method).1
  have X0 : Stand p l e ({ frames := 0, cells := 0, slots := 0, locals := 0 } : Room) s m #[(.int p0)] below meth c s₁ [] 0 0 := Stand.of_body Bd
  have e0 : s₁.heap = h0 := by rw [← hh, Bd.state]; rfl
  have N0 := Fr.nil n0
  have hp' := hp
  obtain ⟨S_w_XML_INVALID, E_w_XML_INVALID, S_w_STATUS_UNAVAILABLE, E_w_STATUS_UNAVAILABLE, S_w_IMPORTED, E_w_IMPORTED, S_w_IMPORTED_WITH_WARNINGS, E_w_IMPORTED_WITH_WARNINGS⟩ := hp'
  have pre0 : ∀ t, Steps p.tables e below (s₁.setTop (mkF m 0 #[.val (.int p0), .unset] [])) t → Steps p.tables e below (s₁.setTop (entryFrame m #[(.int p0)] 2)) t := fun t k => castTop (ef_1_0 m p0) k
  obtain ⟨T1, X1, e1, st1⟩ := getS2 X0 hx hZ hown (host := "") (Or.inl (hw _ (List.mem_of_getElem? (i := 4) rfl))) Via.refl e0 (S_w_XML_INVALID.ext O0.2) (g := (mkF m 17 #[.val (.int p0), .val (.int (p0 &&& (3 : Int32)))] [])) rfl (hb hby d1_17)
  obtain ⟨fs, hr, hrun, hended, hW, hsame⟩ := X1.leave (v := some (.ref w_XML_INVALID)) (fun h => by rw [Bd.returns] at h; cases h)
  refine ⟨_, _, pre0 _ ?_, hrun, hended, _, _, rfl, ?_, ⟨_, rfl⟩, hW, hsame.mono (by decide) (by decide)⟩
  · show Sp p e below s₁ (mkF m 0 #[.val (.int p0), .unset] []) _
    refine XS.iloadN X0.here hx rfl (hb hby d1_0) rfl ?_
    show Sp p e below s₁ (mkF m 1 #[.val (.int p0), .unset] [(.int p0)]) _
    refine XS.iconst X0.here hx rfl (hb hby d1_1) ?_
    show Sp p e below s₁ (mkF m 2 #[.val (.int p0), .unset] [(.int (3 : Int32)), (.int p0)]) _
    refine XS.iand X0.here hx rfl (hb hby d1_2) rfl ?_
    show Sp p e below s₁ (mkF m 3 #[.val (.int p0), .unset] [(.int (p0 &&& (3 : Int32)))]) _
    refine XS.istoreN X0.here hx rfl (hb hby d1_3) rfl (l' := #[.val (.int p0), .val (.int (p0 &&& (3 : Int32)))]) rfl ?_
    show Sp p e below s₁ (mkF m 4 #[.val (.int p0), .val (.int (p0 &&& (3 : Int32)))] []) _
    refine XS.iloadN X0.here hx rfl (hb hby d1_4) rfl ?_
    show Sp p e below s₁ (mkF m 5 #[.val (.int p0), .val (.int (p0 &&& (3 : Int32)))] [(.int (p0 &&& (3 : Int32)))]) _
    refine XS.ifYes X0.here hx rfl (pc0 := 5) (pc' := 12) rfl (hb hby d1_5) rfl ((if0 _ _).trans (feq hc1).2) (by decide) (by decide) ?_
    show Sp p e below s₁ (mkF m 12 #[.val (.int p0), .val (.int (p0 &&& (3 : Int32)))] []) _
    refine XS.iloadN X0.here hx rfl (hb hby d1_12) rfl ?_
    show Sp p e below s₁ (mkF m 13 #[.val (.int p0), .val (.int (p0 &&& (3 : Int32)))] [(.int (p0 &&& (3 : Int32)))]) _
    refine XS.iconst X0.here hx rfl (hb hby d1_13) ?_
    show Sp p e below s₁ (mkF m 14 #[.val (.int p0), .val (.int (p0 &&& (3 : Int32)))] [(.int (1 : Int32)), (.int (p0 &&& (3 : Int32)))]) _
    refine XS.icmpNo X0.here hx rfl (hb hby d1_14) rfl (teq hc2).2 ?_
    show Sp p e below s₁ (mkF m 17 #[.val (.int p0), .val (.int (p0 &&& (3 : Int32)))] []) _
    refine st1 _ ?_
    show Sp p e below T1 (mkF m 20 #[.val (.int p0), .val (.int (p0 &&& (3 : Int32)))] [(.ref w_XML_INVALID)]) _
    jvm_step X1.here [X1.here.top, hx, (hb hby d1_20), X1.method', Bd.returns, Value.isRef, FieldType.isReference]
    first | (intro acts; rw [hr _ acts rfl rfl rfl]) | rw [hr _ _ rfl rfl rfl]
    exact Steps.refl _
  · show Q2 Z w_XML_INVALID w_STATUS_UNAVAILABLE w_IMPORTED w_IMPORTED_WITH_WARNINGS p0 h0 n0 _ T1.heap _
    rw [e1]
    exact ⟨rfl, N0, rfl⟩
theorem d1_21 : decode method_2_code 21 = .ok (.iload_n 1, 1) := by decide +kernel
theorem d1_22 : decode method_2_code 22 = .ok (.iconst 2, 1) := by decide +kernel
theorem d1_23 : decode method_2_code 23 = .ok (.if_icmp .ne 7, 3) := by decide +kernel
theorem d1_26 : decode method_2_code 26 = .ok (.getstatic 16, 3) := by decide +kernel
theorem d1_29 : decode method_2_code 29 = .ok (.areturn, 1) := by decide +kernel
def Q3 (Z : State) (w_XML_INVALID : Addr) (w_STATUS_UNAVAILABLE : Addr) (w_IMPORTED : Addr) (w_IMPORTED_WITH_WARNINGS : Addr) (p0 : Int32) (h0 : Heap) (n0 : Nat) (v : Option Value) (h : Heap) (L : List Loc) : Prop := v = some (.ref w_STATUS_UNAVAILABLE) ∧ Fr n0 L ∧ h = h0
set_option maxRecDepth 65536 in
set_option maxHeartbeats 40000000 in
theorem rm3 (l : Launch) (Z : State) (a0 : Array Value) (hw : ∀ d ∈ tables_1, d.before a0 Z = true) (ws : List Jvm.Cond) (w_XML_INVALID w_STATUS_UNAVAILABLE w_IMPORTED w_IMPORTED_WITH_WARNINGS : Addr) (hp : Perm Z w_XML_INVALID w_STATUS_UNAVAILABLE w_IMPORTED w_IMPORTED_WITH_WARNINGS) (p0 : Int32) (h0 : Heap) (n0 : Nat) (O0 : Old Z n0 h0) (hc1 : ¬ ((p0 &&& (3 : Int32)) = (0 : Int32))) (hc2 : ¬ ((p0 &&& (3 : Int32)) = (1 : Int32))) (hc3 : (p0 &&& (3 : Int32)) = (2 : Int32)) :
    MetFree l y0 (head1 (Jvm.Cond.code y0 method_2_code 2 (some (.object "com/example/epcrtools/epcrtools/exchange/StatusCode")) :: ws) ({ frames := 0, cells := 0, slots := 0, locals := 0 } : Room)) (fun a U => a = #[(.int p0)] ∧ Z.Warmed39 U.vm ∧ U.heap = h0) (fun _ _ _ _ _ => True) (fun _ U o U' => ∃ v L, o = .returned v ∧ Q3 Z w_XML_INVALID w_STATUS_UNAVAILABLE w_IMPORTED w_IMPORTED_WITH_WARNINGS p0 h0 n0 v U'.heap L ∧ FrameEnd U o U' L ({ frames := 0, cells := 0, slots := 0, locals := 0 } : Room).cells ({ frames := 0, cells := 0, slots := 0, locals := 0 } : Room).slots) := by
  refine MetFree.of_bodySF (plainFor_of_name pn_1) hisR ?_
  intro p e s m args below meth c s₁ Bd hml0 hP hK
  obtain ⟨rfl, hZ, hh⟩ := hP
  have hx := Bd.exec
  have hby := Bd.bytes
  have hml : c.maxLocals = 2 := hml0
  have hown : s.vm.findClass "com/example/epcrtools/epcrtools/exchange/SubmissionStatusSizePinLaw" = some m.cls := findClass_of_methodNamed Bd.named
  have hnm := (name_of_methodNamed Bd.named Bd.method).1
  have X0 : Stand p l e ({ frames := 0, cells := 0, slots := 0, locals := 0 } : Room) s m #[(.int p0)] below meth c s₁ [] 0 0 := Stand.of_body Bd
  have e0 : s₁.heap = h0 := by rw [← hh, Bd.state]; rfl
  have N0 := Fr.nil n0
  have hp' := hp
  obtain ⟨S_w_XML_INVALID, E_w_XML_INVALID, S_w_STATUS_UNAVAILABLE, E_w_STATUS_UNAVAILABLE, S_w_IMPORTED, E_w_IMPORTED, S_w_IMPORTED_WITH_WARNINGS, E_w_IMPORTED_WITH_WARNINGS⟩ := hp'
  have pre0 : ∀ t, Steps p.tables e below (s₁.setTop (mkF m 0 #[.val (.int p0), .unset] [])) t → Steps p.tables e below (s₁.setTop (entryFrame m #[(.int p0)] 2)) t := fun t k => castTop (ef_1_0 m p0) k
  obtain ⟨T1, X1, e1, st1⟩ := getS2 X0 hx hZ hown (host := "") (Or.inl (hw _ (List.mem_of_getElem? (i := 43) rfl))) Via.refl e0 (S_w_STATUS_UNAVAILABLE.ext O0.2) (g := (mkF m 26 #[.val (.int p0), .val (.int (p0 &&& (3 : Int32)))] [])) rfl (hb hby d1_26)
  obtain ⟨fs, hr, hrun, hended, hW, hsame⟩ := X1.leave (v := some (.ref w_STATUS_UNAVAILABLE)) (fun h => by rw [Bd.returns] at h; cases h)
  refine ⟨_, _, pre0 _ ?_, hrun, hended, _, _, rfl, ?_, ⟨_, rfl⟩, hW, hsame.mono (by decide) (by decide)⟩
  · show Sp p e below s₁ (mkF m 0 #[.val (.int p0), .unset] []) _
    refine XS.iloadN X0.here hx rfl (hb hby d1_0) rfl ?_
    show Sp p e below s₁ (mkF m 1 #[.val (.int p0), .unset] [(.int p0)]) _
    refine XS.iconst X0.here hx rfl (hb hby d1_1) ?_
    show Sp p e below s₁ (mkF m 2 #[.val (.int p0), .unset] [(.int (3 : Int32)), (.int p0)]) _
    refine XS.iand X0.here hx rfl (hb hby d1_2) rfl ?_
    show Sp p e below s₁ (mkF m 3 #[.val (.int p0), .unset] [(.int (p0 &&& (3 : Int32)))]) _
    refine XS.istoreN X0.here hx rfl (hb hby d1_3) rfl (l' := #[.val (.int p0), .val (.int (p0 &&& (3 : Int32)))]) rfl ?_
    show Sp p e below s₁ (mkF m 4 #[.val (.int p0), .val (.int (p0 &&& (3 : Int32)))] []) _
    refine XS.iloadN X0.here hx rfl (hb hby d1_4) rfl ?_
    show Sp p e below s₁ (mkF m 5 #[.val (.int p0), .val (.int (p0 &&& (3 : Int32)))] [(.int (p0 &&& (3 : Int32)))]) _
    refine XS.ifYes X0.here hx rfl (pc0 := 5) (pc' := 12) rfl (hb hby d1_5) rfl ((if0 _ _).trans (feq hc1).2) (by decide) (by decide) ?_
    show Sp p e below s₁ (mkF m 12 #[.val (.int p0), .val (.int (p0 &&& (3 : Int32)))] []) _
    refine XS.iloadN X0.here hx rfl (hb hby d1_12) rfl ?_
    show Sp p e below s₁ (mkF m 13 #[.val (.int p0), .val (.int (p0 &&& (3 : Int32)))] [(.int (p0 &&& (3 : Int32)))]) _
    refine XS.iconst X0.here hx rfl (hb hby d1_13) ?_
    show Sp p e below s₁ (mkF m 14 #[.val (.int p0), .val (.int (p0 &&& (3 : Int32)))] [(.int (1 : Int32)), (.int (p0 &&& (3 : Int32)))]) _
    refine XS.icmpYes X0.here hx rfl (pc0 := 14) (pc' := 21) rfl (hb hby d1_14) rfl (feq hc2).2 (by decide) (by decide) ?_
    show Sp p e below s₁ (mkF m 21 #[.val (.int p0), .val (.int (p0 &&& (3 : Int32)))] []) _
    refine XS.iloadN X0.here hx rfl (hb hby d1_21) rfl ?_
    show Sp p e below s₁ (mkF m 22 #[.val (.int p0), .val (.int (p0 &&& (3 : Int32)))] [(.int (p0 &&& (3 : Int32)))]) _
    refine XS.iconst X0.here hx rfl (hb hby d1_22) ?_
    show Sp p e below s₁ (mkF m 23 #[.val (.int p0), .val (.int (p0 &&& (3 : Int32)))] [(.int (2 : Int32)), (.int (p0 &&& (3 : Int32)))]) _
    refine XS.icmpNo X0.here hx rfl (hb hby d1_23) rfl (teq hc3).2 ?_
    show Sp p e below s₁ (mkF m 26 #[.val (.int p0), .val (.int (p0 &&& (3 : Int32)))] []) _
    refine st1 _ ?_
    show Sp p e below T1 (mkF m 29 #[.val (.int p0), .val (.int (p0 &&& (3 : Int32)))] [(.ref w_STATUS_UNAVAILABLE)]) _
    jvm_step X1.here [X1.here.top, hx, (hb hby d1_29), X1.method', Bd.returns, Value.isRef, FieldType.isReference]
    first | (intro acts; rw [hr _ acts rfl rfl rfl]) | rw [hr _ _ rfl rfl rfl]
    exact Steps.refl _
  · show Q3 Z w_XML_INVALID w_STATUS_UNAVAILABLE w_IMPORTED w_IMPORTED_WITH_WARNINGS p0 h0 n0 _ T1.heap _
    rw [e1]
    exact ⟨rfl, N0, rfl⟩
theorem d1_30 : decode method_2_code 30 = .ok (.getstatic 19, 3) := by decide +kernel
theorem d1_33 : decode method_2_code 33 = .ok (.areturn, 1) := by decide +kernel
def Q4 (Z : State) (w_XML_INVALID : Addr) (w_STATUS_UNAVAILABLE : Addr) (w_IMPORTED : Addr) (w_IMPORTED_WITH_WARNINGS : Addr) (p0 : Int32) (h0 : Heap) (n0 : Nat) (v : Option Value) (h : Heap) (L : List Loc) : Prop := v = some (.ref w_IMPORTED_WITH_WARNINGS) ∧ Fr n0 L ∧ h = h0
set_option maxRecDepth 65536 in
set_option maxHeartbeats 40000000 in
theorem rm4 (l : Launch) (Z : State) (a0 : Array Value) (hw : ∀ d ∈ tables_1, d.before a0 Z = true) (ws : List Jvm.Cond) (w_XML_INVALID w_STATUS_UNAVAILABLE w_IMPORTED w_IMPORTED_WITH_WARNINGS : Addr) (hp : Perm Z w_XML_INVALID w_STATUS_UNAVAILABLE w_IMPORTED w_IMPORTED_WITH_WARNINGS) (p0 : Int32) (h0 : Heap) (n0 : Nat) (O0 : Old Z n0 h0) (hc1 : ¬ ((p0 &&& (3 : Int32)) = (0 : Int32))) (hc2 : ¬ ((p0 &&& (3 : Int32)) = (1 : Int32))) (hc3 : ¬ ((p0 &&& (3 : Int32)) = (2 : Int32))) :
    MetFree l y0 (head1 (Jvm.Cond.code y0 method_2_code 2 (some (.object "com/example/epcrtools/epcrtools/exchange/StatusCode")) :: ws) ({ frames := 0, cells := 0, slots := 0, locals := 0 } : Room)) (fun a U => a = #[(.int p0)] ∧ Z.Warmed39 U.vm ∧ U.heap = h0) (fun _ _ _ _ _ => True) (fun _ U o U' => ∃ v L, o = .returned v ∧ Q4 Z w_XML_INVALID w_STATUS_UNAVAILABLE w_IMPORTED w_IMPORTED_WITH_WARNINGS p0 h0 n0 v U'.heap L ∧ FrameEnd U o U' L ({ frames := 0, cells := 0, slots := 0, locals := 0 } : Room).cells ({ frames := 0, cells := 0, slots := 0, locals := 0 } : Room).slots) := by
  refine MetFree.of_bodySF (plainFor_of_name pn_1) hisR ?_
  intro p e s m args below meth c s₁ Bd hml0 hP hK
  obtain ⟨rfl, hZ, hh⟩ := hP
  have hx := Bd.exec
  have hby := Bd.bytes
  have hml : c.maxLocals = 2 := hml0
  have hown : s.vm.findClass "com/example/epcrtools/epcrtools/exchange/SubmissionStatusSizePinLaw" = some m.cls := findClass_of_methodNamed Bd.named
  have hnm := (name_of_methodNamed Bd.named Bd.method).1
  have X0 : Stand p l e ({ frames := 0, cells := 0, slots := 0, locals := 0 } : Room) s m #[(.int p0)] below meth c s₁ [] 0 0 := Stand.of_body Bd
  have e0 : s₁.heap = h0 := by rw [← hh, Bd.state]; rfl
  have N0 := Fr.nil n0
  have hp' := hp
  obtain ⟨S_w_XML_INVALID, E_w_XML_INVALID, S_w_STATUS_UNAVAILABLE, E_w_STATUS_UNAVAILABLE, S_w_IMPORTED, E_w_IMPORTED, S_w_IMPORTED_WITH_WARNINGS, E_w_IMPORTED_WITH_WARNINGS⟩ := hp'
  have pre0 : ∀ t, Steps p.tables e below (s₁.setTop (mkF m 0 #[.val (.int p0), .unset] [])) t → Steps p.tables e below (s₁.setTop (entryFrame m #[(.int p0)] 2)) t := fun t k => castTop (ef_1_0 m p0) k
  obtain ⟨T1, X1, e1, st1⟩ := getS2 X0 hx hZ hown (host := "") (Or.inl (hw _ (List.mem_of_getElem? (i := 54) rfl))) Via.refl e0 (S_w_IMPORTED_WITH_WARNINGS.ext O0.2) (g := (mkF m 30 #[.val (.int p0), .val (.int (p0 &&& (3 : Int32)))] [])) rfl (hb hby d1_30)
  obtain ⟨fs, hr, hrun, hended, hW, hsame⟩ := X1.leave (v := some (.ref w_IMPORTED_WITH_WARNINGS)) (fun h => by rw [Bd.returns] at h; cases h)
  refine ⟨_, _, pre0 _ ?_, hrun, hended, _, _, rfl, ?_, ⟨_, rfl⟩, hW, hsame.mono (by decide) (by decide)⟩
  · show Sp p e below s₁ (mkF m 0 #[.val (.int p0), .unset] []) _
    refine XS.iloadN X0.here hx rfl (hb hby d1_0) rfl ?_
    show Sp p e below s₁ (mkF m 1 #[.val (.int p0), .unset] [(.int p0)]) _
    refine XS.iconst X0.here hx rfl (hb hby d1_1) ?_
    show Sp p e below s₁ (mkF m 2 #[.val (.int p0), .unset] [(.int (3 : Int32)), (.int p0)]) _
    refine XS.iand X0.here hx rfl (hb hby d1_2) rfl ?_
    show Sp p e below s₁ (mkF m 3 #[.val (.int p0), .unset] [(.int (p0 &&& (3 : Int32)))]) _
    refine XS.istoreN X0.here hx rfl (hb hby d1_3) rfl (l' := #[.val (.int p0), .val (.int (p0 &&& (3 : Int32)))]) rfl ?_
    show Sp p e below s₁ (mkF m 4 #[.val (.int p0), .val (.int (p0 &&& (3 : Int32)))] []) _
    refine XS.iloadN X0.here hx rfl (hb hby d1_4) rfl ?_
    show Sp p e below s₁ (mkF m 5 #[.val (.int p0), .val (.int (p0 &&& (3 : Int32)))] [(.int (p0 &&& (3 : Int32)))]) _
    refine XS.ifYes X0.here hx rfl (pc0 := 5) (pc' := 12) rfl (hb hby d1_5) rfl ((if0 _ _).trans (feq hc1).2) (by decide) (by decide) ?_
    show Sp p e below s₁ (mkF m 12 #[.val (.int p0), .val (.int (p0 &&& (3 : Int32)))] []) _
    refine XS.iloadN X0.here hx rfl (hb hby d1_12) rfl ?_
    show Sp p e below s₁ (mkF m 13 #[.val (.int p0), .val (.int (p0 &&& (3 : Int32)))] [(.int (p0 &&& (3 : Int32)))]) _
    refine XS.iconst X0.here hx rfl (hb hby d1_13) ?_
    show Sp p e below s₁ (mkF m 14 #[.val (.int p0), .val (.int (p0 &&& (3 : Int32)))] [(.int (1 : Int32)), (.int (p0 &&& (3 : Int32)))]) _
    refine XS.icmpYes X0.here hx rfl (pc0 := 14) (pc' := 21) rfl (hb hby d1_14) rfl (feq hc2).2 (by decide) (by decide) ?_
    show Sp p e below s₁ (mkF m 21 #[.val (.int p0), .val (.int (p0 &&& (3 : Int32)))] []) _
    refine XS.iloadN X0.here hx rfl (hb hby d1_21) rfl ?_
    show Sp p e below s₁ (mkF m 22 #[.val (.int p0), .val (.int (p0 &&& (3 : Int32)))] [(.int (p0 &&& (3 : Int32)))]) _
    refine XS.iconst X0.here hx rfl (hb hby d1_22) ?_
    show Sp p e below s₁ (mkF m 23 #[.val (.int p0), .val (.int (p0 &&& (3 : Int32)))] [(.int (2 : Int32)), (.int (p0 &&& (3 : Int32)))]) _
    refine XS.icmpYes X0.here hx rfl (pc0 := 23) (pc' := 30) rfl (hb hby d1_23) rfl (feq hc3).2 (by decide) (by decide) ?_
    show Sp p e below s₁ (mkF m 30 #[.val (.int p0), .val (.int (p0 &&& (3 : Int32)))] []) _
    refine st1 _ ?_
    show Sp p e below T1 (mkF m 33 #[.val (.int p0), .val (.int (p0 &&& (3 : Int32)))] [(.ref w_IMPORTED_WITH_WARNINGS)]) _
    jvm_step X1.here [X1.here.top, hx, (hb hby d1_33), X1.method', Bd.returns, Value.isRef, FieldType.isReference]
    first | (intro acts; rw [hr _ acts rfl rfl rfl]) | rw [hr _ _ rfl rfl rfl]
    exact Steps.refl _
  · show Q4 Z w_XML_INVALID w_STATUS_UNAVAILABLE w_IMPORTED w_IMPORTED_WITH_WARNINGS p0 h0 n0 _ T1.heap _
    rw [e1]
    exact ⟨rfl, N0, rfl⟩
def QM1 (Z : State) (p0 : Int32) (h0 : Heap) (n0 : Nat) (v : Option Value) (h : Heap) (L : List Loc) : Prop := ∃ (x : Addr), v = some (.ref x) ∧ Fr n0 L ∧ h = h0 ∧ Exa Z Z.heap x "com/example/epcrtools/epcrtools/exchange/StatusCode"
set_option maxRecDepth 65536 in
set_option maxHeartbeats 4000000 in
theorem rmM1 (l : Launch) (Z : State) (a0 : Array Value) (hw : ∀ d ∈ tables_1, d.before a0 Z = true) (ws : List Jvm.Cond) (w_XML_INVALID w_STATUS_UNAVAILABLE w_IMPORTED w_IMPORTED_WITH_WARNINGS : Addr) (hp : Perm Z w_XML_INVALID w_STATUS_UNAVAILABLE w_IMPORTED w_IMPORTED_WITH_WARNINGS) (p0 : Int32) (h0 : Heap) (n0 : Nat) (O0 : Old Z n0 h0) :
    MetFree l y0 (head1 (Jvm.Cond.code y0 method_2_code 2 (some (.object "com/example/epcrtools/epcrtools/exchange/StatusCode")) :: ws) ({ frames := 0, cells := 0, slots := 0, locals := 0 } : Room)) (fun a U => a = #[(.int p0)] ∧ Z.Warmed39 U.vm ∧ U.heap = h0) (fun _ _ _ _ _ => True) (fun _ U o U' => ∃ v L, o = .returned v ∧ QM1 Z p0 h0 n0 v U'.heap L ∧ FrameEnd U o U' L ({ frames := 0, cells := 0, slots := 0, locals := 0 } : Room).cells ({ frames := 0, cells := 0, slots := 0, locals := 0 } : Room).slots) := by
  have hp' := hp
  obtain ⟨S_w_XML_INVALID, E_w_XML_INVALID, S_w_STATUS_UNAVAILABLE, E_w_STATUS_UNAVAILABLE, S_w_IMPORTED, E_w_IMPORTED, S_w_IMPORTED_WITH_WARNINGS, E_w_IMPORTED_WITH_WARNINGS⟩ := hp'
  by_cases d0 : (p0 &&& (3 : Int32)) = (0 : Int32)
  · skip
    exact (rm1 l Z a0 hw ws w_XML_INVALID w_STATUS_UNAVAILABLE w_IMPORTED w_IMPORTED_WITH_WARNINGS hp p0 h0 n0 O0 d0).mono (fun _ _ h => h) (fun _ _ _ _ _ h => h) (fun a s o s' _ ⟨v, L, e, q, f⟩ => ⟨v, L, e, ⟨w_IMPORTED, q.1, q.2.1, q.2.2, E_w_IMPORTED⟩, f⟩)
  · skip
    by_cases d1 : (p0 &&& (3 : Int32)) = (1 : Int32)
    · skip
      exact (rm2 l Z a0 hw ws w_XML_INVALID w_STATUS_UNAVAILABLE w_IMPORTED w_IMPORTED_WITH_WARNINGS hp p0 h0 n0 O0 d0 d1).mono (fun _ _ h => h) (fun _ _ _ _ _ h => h) (fun a s o s' _ ⟨v, L, e, q, f⟩ => ⟨v, L, e, ⟨w_XML_INVALID, q.1, q.2.1, q.2.2, E_w_XML_INVALID⟩, f⟩)
    · skip
      by_cases d2 : (p0 &&& (3 : Int32)) = (2 : Int32)
      · skip
        exact (rm3 l Z a0 hw ws w_XML_INVALID w_STATUS_UNAVAILABLE w_IMPORTED w_IMPORTED_WITH_WARNINGS hp p0 h0 n0 O0 d0 d1 d2).mono (fun _ _ h => h) (fun _ _ _ _ _ h => h) (fun a s o s' _ ⟨v, L, e, q, f⟩ => ⟨v, L, e, ⟨w_STATUS_UNAVAILABLE, q.1, q.2.1, q.2.2, E_w_STATUS_UNAVAILABLE⟩, f⟩)
      · skip
        exact (rm4 l Z a0 hw ws w_XML_INVALID w_STATUS_UNAVAILABLE w_IMPORTED w_IMPORTED_WITH_WARNINGS hp p0 h0 n0 O0 d0 d1 d2).mono (fun _ _ h => h) (fun _ _ _ _ _ h => h) (fun a s o s' _ ⟨v, L, e, q, f⟩ => ⟨v, L, e, ⟨w_IMPORTED_WITH_WARNINGS, q.1, q.2.1, q.2.2, E_w_IMPORTED_WITH_WARNINGS⟩, f⟩)
theorem pd_0 : parseMethodDescriptor "(I)Lcom/example/epcrtools/epcrtools/exchange/StatusCode;" = some ⟨[.int], some (.object "com/example/epcrtools/epcrtools/exchange/StatusCode")⟩ := by decide +kernel
theorem d2_0 : decode method_3_code 0 = .ok (.iload_n 0, 1) := by decide +kernel
theorem d2_1 : decode method_3_code 1 = .ok (.bipush 7, 2) := by decide +kernel
theorem d2_3 : decode method_3_code 3 = .ok (.iand, 1) := by decide +kernel
theorem d2_4 : decode method_3_code 4 = .ok (.istore_n 2, 1) := by decide +kernel
theorem d2_5 : decode method_3_code 5 = .ok (.iload_n 1, 1) := by decide +kernel
theorem d2_6 : decode method_3_code 6 = .ok (.i2b, 1) := by decide +kernel
theorem d2_7 : decode method_3_code 7 = .ok (.istore_n 3, 1) := by decide +kernel
theorem d2_8 : decode method_3_code 8 = .ok (.iload_n 1, 1) := by decide +kernel
theorem d2_9 : decode method_3_code 9 = .ok (.bipush 8, 2) := by decide +kernel
theorem d2_11 : decode method_3_code 11 = .ok (.iushr, 1) := by decide +kernel
theorem d2_12 : decode method_3_code 12 = .ok (.i2b, 1) := by decide +kernel
theorem d2_13 : decode method_3_code 13 = .ok (.istore 4, 2) := by decide +kernel
theorem d2_15 : decode method_3_code 15 = .ok (.iload_n 1, 1) := by decide +kernel
theorem d2_16 : decode method_3_code 16 = .ok (.bipush 16, 2) := by decide +kernel
theorem d2_18 : decode method_3_code 18 = .ok (.iushr, 1) := by decide +kernel
theorem d2_19 : decode method_3_code 19 = .ok (.i2b, 1) := by decide +kernel
theorem d2_20 : decode method_3_code 20 = .ok (.istore 5, 2) := by decide +kernel
theorem d2_22 : decode method_3_code 22 = .ok (.iload_n 1, 1) := by decide +kernel
theorem d2_23 : decode method_3_code 23 = .ok (.bipush 24, 2) := by decide +kernel
theorem d2_25 : decode method_3_code 25 = .ok (.iushr, 1) := by decide +kernel
theorem d2_26 : decode method_3_code 26 = .ok (.i2b, 1) := by decide +kernel
theorem d2_27 : decode method_3_code 27 = .ok (.istore 6, 2) := by decide +kernel
theorem d2_29 : decode method_3_code 29 = .ok (.iload_n 2, 1) := by decide +kernel
theorem d2_30 : decode method_3_code 30 = .ok (.ifCond .ne 7, 3) := by decide +kernel
theorem d2_33 : decode method_3_code 33 = .ok (.iconst 0, 1) := by decide +kernel
theorem d2_34 : decode method_3_code 34 = .ok (.newarray .byte, 2) := by decide +kernel
theorem d2_36 : decode method_3_code 36 = .ok (.areturn, 1) := by decide +kernel
abbrev y1 : MethodName := (⟨"com/example/epcrtools/epcrtools/exchange/SubmissionStatusSizePinLaw", "bytes", "(II)[B"⟩ : MethodName)
theorem ef_2_0 (m : MethodId) (x0 : Int32) (x1 : Int32) : entryFrame m #[(.int x0), (.int x1)] 7 = mkF m 0 #[.val (.int x0), .val (.int x1), .unset, .unset, .unset, .unset, .unset] [] := by first | (simp [entryFrame, mkF, argsToLocals, Value.category]; done) | rfl
def Q5 (Z : State) (w_XML_INVALID : Addr) (w_STATUS_UNAVAILABLE : Addr) (w_IMPORTED : Addr) (w_IMPORTED_WITH_WARNINGS : Addr) (p1 : Int32) (p2 : Int32) (h0 : Heap) (n0 : Nat) (v : Option Value) (h : Heap) (L : List Loc) : Prop := ∃ (b1 : Addr), ∃ (k1 : ClassId), v = some (.ref b1) ∧ Fr n0 L ∧ Keep h0 h [] ∧ h0.size ≤ b1 ∧ Exa Z h b1 "[B" ∧ Arv Z h b1 k1 .byte (0 : Int32) [] (.int (0 : Int32))
set_option maxRecDepth 65536 in
set_option maxHeartbeats 40000000 in
theorem rm5 (l : Launch) (Z : State) (a0 : Array Value) (hw : ∀ d ∈ tables_1, d.before a0 Z = true) (ws : List Jvm.Cond) (w_XML_INVALID w_STATUS_UNAVAILABLE w_IMPORTED w_IMPORTED_WITH_WARNINGS : Addr) (hp : Perm Z w_XML_INVALID w_STATUS_UNAVAILABLE w_IMPORTED w_IMPORTED_WITH_WARNINGS) (p1 : Int32) (p2 : Int32) (h0 : Heap) (n0 : Nat) (O0 : Old Z n0 h0) (hc1 : (p1 &&& (7 : Int32)) = (0 : Int32)) :
    MetFree l y1 (head1 (Jvm.Cond.code y1 method_3_code 7 (some (.array .byte)) :: ws) ({ frames := 0, cells := 1, slots := 0, locals := 0 } : Room)) (fun a U => a = #[(.int p1), (.int p2)] ∧ Z.Warmed39 U.vm ∧ U.heap = h0) (fun _ _ _ _ _ => True) (fun _ U o U' => ∃ v L, o = .returned v ∧ Q5 Z w_XML_INVALID w_STATUS_UNAVAILABLE w_IMPORTED w_IMPORTED_WITH_WARNINGS p1 p2 h0 n0 v U'.heap L ∧ FrameEnd U o U' L ({ frames := 0, cells := 1, slots := 0, locals := 0 } : Room).cells ({ frames := 0, cells := 1, slots := 0, locals := 0 } : Room).slots) := by
  refine MetFree.of_bodySF (plainFor_of_name pn_1) hisR ?_
  intro p e s m args below meth c s₁ Bd hml0 hP hK
  obtain ⟨rfl, hZ, hh⟩ := hP
  have hx := Bd.exec
  have hby := Bd.bytes
  have hml : c.maxLocals = 7 := hml0
  have hown : s.vm.findClass "com/example/epcrtools/epcrtools/exchange/SubmissionStatusSizePinLaw" = some m.cls := findClass_of_methodNamed Bd.named
  have hnm := (name_of_methodNamed Bd.named Bd.method).1
  have X0 : Stand p l e ({ frames := 0, cells := 1, slots := 0, locals := 0 } : Room) s m #[(.int p1), (.int p2)] below meth c s₁ [] 0 0 := Stand.of_body Bd
  have e0 : s₁.heap = h0 := by rw [← hh, Bd.state]; rfl
  have N0 := Fr.nil n0
  have hp' := hp
  obtain ⟨S_w_XML_INVALID, E_w_XML_INVALID, S_w_STATUS_UNAVAILABLE, E_w_STATUS_UNAVAILABLE, S_w_IMPORTED, E_w_IMPORTED, S_w_IMPORTED_WITH_WARNINGS, E_w_IMPORTED_WITH_WARNINGS⟩ := hp'
  have pre0 : ∀ t, Steps p.tables e below (s₁.setTop (mkF m 0 #[.val (.int p1), .val (.int p2), .unset, .unset, .unset, .unset, .unset] [])) t → Steps p.tables e below (s₁.setTop (entryFrame m #[(.int p1), (.int p2)] 7)) t := fun t k => castTop (ef_2_0 m p1 p2) k
  obtain ⟨T1, h1, k1, X1, e1, E1, A1, EA1, st1⟩ := newPE X0 hx hZ (hw _ (List.mem_of_getElem? (i := 10) rfl)) e0 (g := (mkF m 34 #[.val (.int p1), .val (.int p2), .val (.int (p1 &&& (7 : Int32))), .val (.int (p2.toInt8.toInt32)), .val (.int (((p2.toUInt32 >>> ((8 : Int32) &&& 31).toUInt32).toInt32).toInt8.toInt32)), .val (.int (((p2.toUInt32 >>> ((16 : Int32) &&& 31).toUInt32).toInt32).toInt8.toInt32)), .val (.int (((p2.toUInt32 >>> ((24 : Int32) &&& 31).toUInt32).toInt32).toInt8.toInt32))] [(.int (0 : Int32))])) rfl (hb hby d2_34) rfl (by decide) (cap := 0) (by decide) (by decide) (by decide) (by decide) (ad := "[B") (by decide)
  obtain ⟨b1, g1⟩ : ∃ z, z = h0.size := ⟨_, rfl⟩
  rw [← g1] at A1 EA1 st1
  have g_b1 : n0 ≤ b1 := Nat.le_trans (own_sz O0) (Nat.le_of_eq g1.symm)
  have sz_b1 : h0.size ≤ b1 := Nat.le_trans (Keep.refl h0 []).1 (Nat.le_of_eq g1.symm)
  have O1 := O0.ext E1
  have K1 : Keep h0 h1 [] := (Keep.refl h0 []).ext E1
  have V_b1 : Arv Z h1 b1 k1 .byte (0 : Int32) [] (.int (0 : Int32)) := (Arv.new A1 (by decide)).pad (pad_rep [] (.int (0 : Int32)) 0)
  obtain ⟨fs, hr, hrun, hended, hW, hsame⟩ := X1.leave (v := some (.ref b1)) (fun h => by rw [Bd.returns] at h; cases h)
  refine ⟨_, _, pre0 _ ?_, hrun, hended, _, _, rfl, ?_, ⟨_, rfl⟩, hW, hsame.mono (by decide) (by decide)⟩
  · show Sp p e below s₁ (mkF m 0 #[.val (.int p1), .val (.int p2), .unset, .unset, .unset, .unset, .unset] []) _
    refine XS.iloadN X0.here hx rfl (hb hby d2_0) rfl ?_
    show Sp p e below s₁ (mkF m 1 #[.val (.int p1), .val (.int p2), .unset, .unset, .unset, .unset, .unset] [(.int p1)]) _
    refine XS.bipush X0.here hx rfl (hb hby d2_1) ?_
    show Sp p e below s₁ (mkF m 3 #[.val (.int p1), .val (.int p2), .unset, .unset, .unset, .unset, .unset] [(.int (7 : Int32)), (.int p1)]) _
    refine XS.iand X0.here hx rfl (hb hby d2_3) rfl ?_
    show Sp p e below s₁ (mkF m 4 #[.val (.int p1), .val (.int p2), .unset, .unset, .unset, .unset, .unset] [(.int (p1 &&& (7 : Int32)))]) _
    refine XS.istoreN X0.here hx rfl (hb hby d2_4) rfl (l' := #[.val (.int p1), .val (.int p2), .val (.int (p1 &&& (7 : Int32))), .unset, .unset, .unset, .unset]) rfl ?_
    show Sp p e below s₁ (mkF m 5 #[.val (.int p1), .val (.int p2), .val (.int (p1 &&& (7 : Int32))), .unset, .unset, .unset, .unset] []) _
    refine XS.iloadN X0.here hx rfl (hb hby d2_5) rfl ?_
    show Sp p e below s₁ (mkF m 6 #[.val (.int p1), .val (.int p2), .val (.int (p1 &&& (7 : Int32))), .unset, .unset, .unset, .unset] [(.int p2)]) _
    refine XS.i2b X0.here hx rfl (hb hby d2_6) rfl ?_
    show Sp p e below s₁ (mkF m 7 #[.val (.int p1), .val (.int p2), .val (.int (p1 &&& (7 : Int32))), .unset, .unset, .unset, .unset] [(.int (p2.toInt8.toInt32))]) _
    refine XS.istoreN X0.here hx rfl (hb hby d2_7) rfl (l' := #[.val (.int p1), .val (.int p2), .val (.int (p1 &&& (7 : Int32))), .val (.int (p2.toInt8.toInt32)), .unset, .unset, .unset]) rfl ?_
    show Sp p e below s₁ (mkF m 8 #[.val (.int p1), .val (.int p2), .val (.int (p1 &&& (7 : Int32))), .val (.int (p2.toInt8.toInt32)), .unset, .unset, .unset] []) _
    refine XS.iloadN X0.here hx rfl (hb hby d2_8) rfl ?_
    show Sp p e below s₁ (mkF m 9 #[.val (.int p1), .val (.int p2), .val (.int (p1 &&& (7 : Int32))), .val (.int (p2.toInt8.toInt32)), .unset, .unset, .unset] [(.int p2)]) _
    refine XS.bipush X0.here hx rfl (hb hby d2_9) ?_
    show Sp p e below s₁ (mkF m 11 #[.val (.int p1), .val (.int p2), .val (.int (p1 &&& (7 : Int32))), .val (.int (p2.toInt8.toInt32)), .unset, .unset, .unset] [(.int (8 : Int32)), (.int p2)]) _
    refine XS.iushr X0.here hx rfl (hb hby d2_11) rfl ?_
    show Sp p e below s₁ (mkF m 12 #[.val (.int p1), .val (.int p2), .val (.int (p1 &&& (7 : Int32))), .val (.int (p2.toInt8.toInt32)), .unset, .unset, .unset] [(.int ((p2.toUInt32 >>> ((8 : Int32) &&& 31).toUInt32).toInt32))]) _
    refine XS.i2b X0.here hx rfl (hb hby d2_12) rfl ?_
    show Sp p e below s₁ (mkF m 13 #[.val (.int p1), .val (.int p2), .val (.int (p1 &&& (7 : Int32))), .val (.int (p2.toInt8.toInt32)), .unset, .unset, .unset] [(.int (((p2.toUInt32 >>> ((8 : Int32) &&& 31).toUInt32).toInt32).toInt8.toInt32))]) _
    refine XS.istore X0.here hx rfl (hb hby d2_13) rfl (l' := #[.val (.int p1), .val (.int p2), .val (.int (p1 &&& (7 : Int32))), .val (.int (p2.toInt8.toInt32)), .val (.int (((p2.toUInt32 >>> ((8 : Int32) &&& 31).toUInt32).toInt32).toInt8.toInt32)), .unset, .unset]) rfl ?_
    show Sp p e below s₁ (mkF m 15 #[.val (.int p1), .val (.int p2), .val (.int (p1 &&& (7 : Int32))), .val (.int (p2.toInt8.toInt32)), .val (.int (((p2.toUInt32 >>> ((8 : Int32) &&& 31).toUInt32).toInt32).toInt8.toInt32)), .unset, .unset] []) _
    refine XS.iloadN X0.here hx rfl (hb hby d2_15) rfl ?_
    show Sp p e below s₁ (mkF m 16 #[.val (.int p1), .val (.int p2), .val (.int (p1 &&& (7 : Int32))), .val (.int (p2.toInt8.toInt32)), .val (.int (((p2.toUInt32 >>> ((8 : Int32) &&& 31).toUInt32).toInt32).toInt8.toInt32)), .unset, .unset] [(.int p2)]) _
    refine XS.bipush X0.here hx rfl (hb hby d2_16) ?_
    show Sp p e below s₁ (mkF m 18 #[.val (.int p1), .val (.int p2), .val (.int (p1 &&& (7 : Int32))), .val (.int (p2.toInt8.toInt32)), .val (.int (((p2.toUInt32 >>> ((8 : Int32) &&& 31).toUInt32).toInt32).toInt8.toInt32)), .unset, .unset] [(.int (16 : Int32)), (.int p2)]) _
    refine XS.iushr X0.here hx rfl (hb hby d2_18) rfl ?_
    show Sp p e below s₁ (mkF m 19 #[.val (.int p1), .val (.int p2), .val (.int (p1 &&& (7 : Int32))), .val (.int (p2.toInt8.toInt32)), .val (.int (((p2.toUInt32 >>> ((8 : Int32) &&& 31).toUInt32).toInt32).toInt8.toInt32)), .unset, .unset] [(.int ((p2.toUInt32 >>> ((16 : Int32) &&& 31).toUInt32).toInt32))]) _
    refine XS.i2b X0.here hx rfl (hb hby d2_19) rfl ?_
    show Sp p e below s₁ (mkF m 20 #[.val (.int p1), .val (.int p2), .val (.int (p1 &&& (7 : Int32))), .val (.int (p2.toInt8.toInt32)), .val (.int (((p2.toUInt32 >>> ((8 : Int32) &&& 31).toUInt32).toInt32).toInt8.toInt32)), .unset, .unset] [(.int (((p2.toUInt32 >>> ((16 : Int32) &&& 31).toUInt32).toInt32).toInt8.toInt32))]) _
    refine XS.istore X0.here hx rfl (hb hby d2_20) rfl (l' := #[.val (.int p1), .val (.int p2), .val (.int (p1 &&& (7 : Int32))), .val (.int (p2.toInt8.toInt32)), .val (.int (((p2.toUInt32 >>> ((8 : Int32) &&& 31).toUInt32).toInt32).toInt8.toInt32)), .val (.int (((p2.toUInt32 >>> ((16 : Int32) &&& 31).toUInt32).toInt32).toInt8.toInt32)), .unset]) rfl ?_
    show Sp p e below s₁ (mkF m 22 #[.val (.int p1), .val (.int p2), .val (.int (p1 &&& (7 : Int32))), .val (.int (p2.toInt8.toInt32)), .val (.int (((p2.toUInt32 >>> ((8 : Int32) &&& 31).toUInt32).toInt32).toInt8.toInt32)), .val (.int (((p2.toUInt32 >>> ((16 : Int32) &&& 31).toUInt32).toInt32).toInt8.toInt32)), .unset] []) _
    refine XS.iloadN X0.here hx rfl (hb hby d2_22) rfl ?_
    show Sp p e below s₁ (mkF m 23 #[.val (.int p1), .val (.int p2), .val (.int (p1 &&& (7 : Int32))), .val (.int (p2.toInt8.toInt32)), .val (.int (((p2.toUInt32 >>> ((8 : Int32) &&& 31).toUInt32).toInt32).toInt8.toInt32)), .val (.int (((p2.toUInt32 >>> ((16 : Int32) &&& 31).toUInt32).toInt32).toInt8.toInt32)), .unset] [(.int p2)]) _
    refine XS.bipush X0.here hx rfl (hb hby d2_23) ?_
    show Sp p e below s₁ (mkF m 25 #[.val (.int p1), .val (.int p2), .val (.int (p1 &&& (7 : Int32))), .val (.int (p2.toInt8.toInt32)), .val (.int (((p2.toUInt32 >>> ((8 : Int32) &&& 31).toUInt32).toInt32).toInt8.toInt32)), .val (.int (((p2.toUInt32 >>> ((16 : Int32) &&& 31).toUInt32).toInt32).toInt8.toInt32)), .unset] [(.int (24 : Int32)), (.int p2)]) _
    refine XS.iushr X0.here hx rfl (hb hby d2_25) rfl ?_
    show Sp p e below s₁ (mkF m 26 #[.val (.int p1), .val (.int p2), .val (.int (p1 &&& (7 : Int32))), .val (.int (p2.toInt8.toInt32)), .val (.int (((p2.toUInt32 >>> ((8 : Int32) &&& 31).toUInt32).toInt32).toInt8.toInt32)), .val (.int (((p2.toUInt32 >>> ((16 : Int32) &&& 31).toUInt32).toInt32).toInt8.toInt32)), .unset] [(.int ((p2.toUInt32 >>> ((24 : Int32) &&& 31).toUInt32).toInt32))]) _
    refine XS.i2b X0.here hx rfl (hb hby d2_26) rfl ?_
    show Sp p e below s₁ (mkF m 27 #[.val (.int p1), .val (.int p2), .val (.int (p1 &&& (7 : Int32))), .val (.int (p2.toInt8.toInt32)), .val (.int (((p2.toUInt32 >>> ((8 : Int32) &&& 31).toUInt32).toInt32).toInt8.toInt32)), .val (.int (((p2.toUInt32 >>> ((16 : Int32) &&& 31).toUInt32).toInt32).toInt8.toInt32)), .unset] [(.int (((p2.toUInt32 >>> ((24 : Int32) &&& 31).toUInt32).toInt32).toInt8.toInt32))]) _
    refine XS.istore X0.here hx rfl (hb hby d2_27) rfl (l' := #[.val (.int p1), .val (.int p2), .val (.int (p1 &&& (7 : Int32))), .val (.int (p2.toInt8.toInt32)), .val (.int (((p2.toUInt32 >>> ((8 : Int32) &&& 31).toUInt32).toInt32).toInt8.toInt32)), .val (.int (((p2.toUInt32 >>> ((16 : Int32) &&& 31).toUInt32).toInt32).toInt8.toInt32)), .val (.int (((p2.toUInt32 >>> ((24 : Int32) &&& 31).toUInt32).toInt32).toInt8.toInt32))]) rfl ?_
    show Sp p e below s₁ (mkF m 29 #[.val (.int p1), .val (.int p2), .val (.int (p1 &&& (7 : Int32))), .val (.int (p2.toInt8.toInt32)), .val (.int (((p2.toUInt32 >>> ((8 : Int32) &&& 31).toUInt32).toInt32).toInt8.toInt32)), .val (.int (((p2.toUInt32 >>> ((16 : Int32) &&& 31).toUInt32).toInt32).toInt8.toInt32)), .val (.int (((p2.toUInt32 >>> ((24 : Int32) &&& 31).toUInt32).toInt32).toInt8.toInt32))] []) _
    refine XS.iloadN X0.here hx rfl (hb hby d2_29) rfl ?_
    show Sp p e below s₁ (mkF m 30 #[.val (.int p1), .val (.int p2), .val (.int (p1 &&& (7 : Int32))), .val (.int (p2.toInt8.toInt32)), .val (.int (((p2.toUInt32 >>> ((8 : Int32) &&& 31).toUInt32).toInt32).toInt8.toInt32)), .val (.int (((p2.toUInt32 >>> ((16 : Int32) &&& 31).toUInt32).toInt32).toInt8.toInt32)), .val (.int (((p2.toUInt32 >>> ((24 : Int32) &&& 31).toUInt32).toInt32).toInt8.toInt32))] [(.int (p1 &&& (7 : Int32)))]) _
    refine XS.ifNo X0.here hx rfl (hb hby d2_30) rfl ((if0 _ _).trans (teq hc1).2) ?_
    show Sp p e below s₁ (mkF m 33 #[.val (.int p1), .val (.int p2), .val (.int (p1 &&& (7 : Int32))), .val (.int (p2.toInt8.toInt32)), .val (.int (((p2.toUInt32 >>> ((8 : Int32) &&& 31).toUInt32).toInt32).toInt8.toInt32)), .val (.int (((p2.toUInt32 >>> ((16 : Int32) &&& 31).toUInt32).toInt32).toInt8.toInt32)), .val (.int (((p2.toUInt32 >>> ((24 : Int32) &&& 31).toUInt32).toInt32).toInt8.toInt32))] []) _
    refine XS.iconst X0.here hx rfl (hb hby d2_33) ?_
    show Sp p e below s₁ (mkF m 34 #[.val (.int p1), .val (.int p2), .val (.int (p1 &&& (7 : Int32))), .val (.int (p2.toInt8.toInt32)), .val (.int (((p2.toUInt32 >>> ((8 : Int32) &&& 31).toUInt32).toInt32).toInt8.toInt32)), .val (.int (((p2.toUInt32 >>> ((16 : Int32) &&& 31).toUInt32).toInt32).toInt8.toInt32)), .val (.int (((p2.toUInt32 >>> ((24 : Int32) &&& 31).toUInt32).toInt32).toInt8.toInt32))] [(.int (0 : Int32))]) _
    refine st1 _ ?_
    show Sp p e below T1 (mkF m 36 #[.val (.int p1), .val (.int p2), .val (.int (p1 &&& (7 : Int32))), .val (.int (p2.toInt8.toInt32)), .val (.int (((p2.toUInt32 >>> ((8 : Int32) &&& 31).toUInt32).toInt32).toInt8.toInt32)), .val (.int (((p2.toUInt32 >>> ((16 : Int32) &&& 31).toUInt32).toInt32).toInt8.toInt32)), .val (.int (((p2.toUInt32 >>> ((24 : Int32) &&& 31).toUInt32).toInt32).toInt8.toInt32))] [(.ref b1)]) _
    jvm_step X1.here [X1.here.top, hx, (hb hby d2_36), X1.method', Bd.returns, Value.isRef, FieldType.isReference]
    first | (intro acts; rw [hr _ acts rfl rfl rfl]) | rw [hr _ _ rfl rfl rfl]
    exact Steps.refl _
  · show Q5 Z w_XML_INVALID w_STATUS_UNAVAILABLE w_IMPORTED w_IMPORTED_WITH_WARNINGS p1 p2 h0 n0 _ T1.heap _
    rw [e1]
    exact ⟨b1, k1, rfl, N0, K1, sz_b1, EA1, V_b1⟩
theorem pd_1 : parseMethodDescriptor "(II)[B" = some ⟨[.int, .int], some (.array .byte)⟩ := by decide +kernel
theorem d3_0 : decode prog_13_method_1_code 0 = .ok (.aload_n 0, 1) := by decide +kernel
theorem d3_1 : decode prog_13_method_1_code 1 = .ok (.invokespecial 1, 3) := by decide +kernel
theorem d3_4 : decode prog_13_method_1_code 4 = .ok (.aload_n 0, 1) := by decide +kernel
theorem d3_5 : decode prog_13_method_1_code 5 = .ok (.aload_n 1, 1) := by decide +kernel
theorem d3_6 : decode prog_13_method_1_code 6 = .ok (.putfield 7, 3) := by decide +kernel
theorem d3_9 : decode prog_13_method_1_code 9 = .ok (.aload_n 0, 1) := by decide +kernel
theorem d3_10 : decode prog_13_method_1_code 10 = .ok (.aload_n 2, 1) := by decide +kernel
theorem d3_11 : decode prog_13_method_1_code 11 = .ok (.invokevirtual 13, 3) := by decide +kernel
theorem d3_14 : decode prog_13_method_1_code 14 = .ok (.checkcast 14, 3) := by decide +kernel
theorem d3_17 : decode prog_13_method_1_code 17 = .ok (.putfield 19, 3) := by decide +kernel
theorem sn0 {Z : State} {a0 : Array Value} (hw : ∀ d ∈ tables_1, d.before a0 Z = true) : Jvm.RoadKit.slotOf Z "com/example/epcrtools/epcrtools/exchange/SubmissionStatus" "report" "[B" ≠ Jvm.RoadKit.slotOf Z "com/example/epcrtools/epcrtools/exchange/SubmissionStatus" "statusCode" "Lcom/example/epcrtools/epcrtools/exchange/StatusCode;" := slot_ne (Or.inr (hw _ (List.mem_of_getElem? (i := 32) rfl))) (Or.inr (hw _ (List.mem_of_getElem? (i := 21) rfl))) (by decide) (t := (.array .byte)) (t' := (.object "com/example/epcrtools/epcrtools/exchange/StatusCode")) (by decide) (by decide)
theorem d3_20 : decode prog_13_method_1_code 20 = .ok (.return_, 1) := by decide +kernel
theorem sn1 {Z : State} {a0 : Array Value} (hw : ∀ d ∈ tables_1, d.before a0 Z = true) : Jvm.RoadKit.slotOf Z "com/example/epcrtools/epcrtools/exchange/SubmissionStatus" "statusCode" "Lcom/example/epcrtools/epcrtools/exchange/StatusCode;" ≠ Jvm.RoadKit.slotOf Z "com/example/epcrtools/epcrtools/exchange/SubmissionStatus" "report" "[B" := slot_ne (Or.inr (hw _ (List.mem_of_getElem? (i := 21) rfl))) (Or.inr (hw _ (List.mem_of_getElem? (i := 32) rfl))) (by decide) (t := (.object "com/example/epcrtools/epcrtools/exchange/StatusCode")) (t' := (.array .byte)) (by decide) (by decide)
abbrev y2 : MethodName := (⟨"com/example/epcrtools/epcrtools/exchange/SubmissionStatus", "<init>", "(Lcom/example/epcrtools/epcrtools/exchange/StatusCode;[B)V"⟩ : MethodName)
theorem ef_3_0 (m : MethodId) (x0 : Addr) (x1 : Addr) (x2 : Addr) : entryFrame m #[(.ref x0), (.ref x1), (.ref x2)] 3 = mkF m 0 #[.val (.ref x0), .val (.ref x1), .val (.ref x2)] [] := by first | (simp [entryFrame, mkF, argsToLocals, Value.category]; done) | rfl
theorem pn_3 : plainName "com/example/epcrtools/epcrtools/exchange/SubmissionStatus" = true := by first | (simp [plainName, overriddenIn]; done) | decide +kernel
def Q6 (Z : State) (w_XML_INVALID : Addr) (w_STATUS_UNAVAILABLE : Addr) (w_IMPORTED : Addr) (w_IMPORTED_WITH_WARNINGS : Addr) (a1 : Addr) (a2 : Addr) (a3 : Addr) (k_a3 : ClassId) (h0 : Heap) (n0 : Nat) (v : Option Value) (h : Heap) (L : List Loc) : Prop := ∃ (b3 : Addr), v = none ∧ Fr n0 L ∧ Keep h0 h [a1] ∧ h0.size ≤ b3 ∧ Exa Z h a1 "com/example/epcrtools/epcrtools/exchange/SubmissionStatus" ∧ Fld Z h a1 "com/example/epcrtools/epcrtools/exchange/SubmissionStatus" "report" "[B" (.ref b3) ∧ Fld Z h a1 "com/example/epcrtools/epcrtools/exchange/SubmissionStatus" "statusCode" "Lcom/example/epcrtools/epcrtools/exchange/StatusCode;" (.ref a2) ∧ Exa Z h b3 "[B" ∧ Arv Z h b3 k_a3 .byte (0 : Int32) [] (.int (0 : Int32))
set_option maxRecDepth 65536 in
set_option maxHeartbeats 40000000 in
theorem rm6 (l : Launch) (Z : State) (a0 : Array Value) (hw : ∀ d ∈ tables_1, d.before a0 Z = true) (ws : List Jvm.Cond) (w_XML_INVALID w_STATUS_UNAVAILABLE w_IMPORTED w_IMPORTED_WITH_WARNINGS : Addr) (hp : Perm Z w_XML_INVALID w_STATUS_UNAVAILABLE w_IMPORTED w_IMPORTED_WITH_WARNINGS) (a1 : Addr) (a2 : Addr) (a3 : Addr) (k_a3 : ClassId) (h0 : Heap) (n0 : Nat) (O0 : Old Z n0 h0) (E_a1 : Exa Z h0 a1 "com/example/epcrtools/epcrtools/exchange/SubmissionStatus") (F_statusCode_a1 : Fld Z h0 a1 "com/example/epcrtools/epcrtools/exchange/SubmissionStatus" "statusCode" "Lcom/example/epcrtools/epcrtools/exchange/StatusCode;" .null) (F_report_a1 : Fld Z h0 a1 "com/example/epcrtools/epcrtools/exchange/SubmissionStatus" "report" "[B" .null) (g_a1 : n0 ≤ a1) (V_a3 : Arv Z h0 a3 k_a3 .byte (0 : Int32) [] (.int (0 : Int32))) (ne_a1_a3 : a1 ≠ a3) (E_a3 : Exa Z h0 a3 "[B") :
    MetFree l y2 (head1 (Jvm.Cond.code y2 prog_13_method_1_code 3 none :: ws) ({ frames := 1, cells := 1, slots := 0, locals := 15 } : Room)) (fun a U => a = #[(.ref a1), (.ref a2), (.ref a3)] ∧ Z.Warmed39 U.vm ∧ U.heap = h0) (fun _ _ _ _ _ => True) (fun _ U o U' => ∃ v L, o = .returned v ∧ Q6 Z w_XML_INVALID w_STATUS_UNAVAILABLE w_IMPORTED w_IMPORTED_WITH_WARNINGS a1 a2 a3 k_a3 h0 n0 v U'.heap L ∧ FrameEnd U o U' L ({ frames := 1, cells := 1, slots := 0, locals := 15 } : Room).cells ({ frames := 1, cells := 1, slots := 0, locals := 15 } : Room).slots) := by
  refine MetFree.of_bodySF (plainFor_of_name pn_3) hisR ?_
  intro p e s m args below meth c s₁ Bd hml0 hP hK
  obtain ⟨rfl, hZ, hh⟩ := hP
  have hx := Bd.exec
  have hby := Bd.bytes
  have hml : c.maxLocals = 3 := hml0
  have hown : s.vm.findClass "com/example/epcrtools/epcrtools/exchange/SubmissionStatus" = some m.cls := findClass_of_methodNamed Bd.named
  have hnm := (name_of_methodNamed Bd.named Bd.method).1
  have X0 : Stand p l e ({ frames := 1, cells := 1, slots := 0, locals := 15 } : Room) s m #[(.ref a1), (.ref a2), (.ref a3)] below meth c s₁ [] 0 0 := Stand.of_body Bd
  have e0 : s₁.heap = h0 := by rw [← hh, Bd.state]; rfl
  have N0 := Fr.nil n0
  have hp' := hp
  obtain ⟨S_w_XML_INVALID, E_w_XML_INVALID, S_w_STATUS_UNAVAILABLE, E_w_STATUS_UNAVAILABLE, S_w_IMPORTED, E_w_IMPORTED, S_w_IMPORTED_WITH_WARNINGS, E_w_IMPORTED_WITH_WARNINGS⟩ := hp'
  have pre0 : ∀ t, Steps p.tables e below (s₁.setTop (mkF m 0 #[.val (.ref a1), .val (.ref a2), .val (.ref a3)] [])) t → Steps p.tables e below (s₁.setTop (entryFrame m #[(.ref a1), (.ref a2), (.ref a3)] 3)) t := fun t k => castTop (ef_3_0 m a1 a2 a3) k
  obtain ⟨T1, X1, e1, st1⟩ := initO X0 hx hZ hown (hw _ (List.mem_of_getElem? (i := 17) rfl)) (hw _ (List.mem_of_getElem? (i := 18) rfl)) (hw _ (List.mem_of_getElem? (i := 19) rfl)) e0 (g := (mkF m 1 #[.val (.ref a1), .val (.ref a2), .val (.ref a3)] [(.ref a1)])) rfl (by rw [hml]; rfl) rfl (hb hby d3_1) (by decide) (W := 0) (by show 2 * 0 + _ ≤ _; exact Nat.le_of_eq rfl) (by decide)
  obtain ⟨T2, h2, X2, e2, W2, st2⟩ := putF X1 hx hZ hown (host := "") (Or.inl (hw _ (List.mem_of_getElem? (i := 20) rfl))) Via.refl e1 F_statusCode_a1 E_a1 (Or.inr ⟨(hw _ (List.mem_of_getElem? (i := 21) rfl)), rfl, hnm⟩) (hw _ (List.mem_of_getElem? (i := 12) rfl)) (ty := (.object "com/example/epcrtools/epcrtools/exchange/StatusCode")) (by decide) rfl rfl (g := (mkF m 6 #[.val (.ref a1), .val (.ref a2), .val (.ref a3)] [(.ref a2), (.ref a1)])) rfl rfl (hb hby d3_6)
  have N2 := Fr.snoc X2 N0 g_a1
  have O2 := O0.wr W2 g_a1
  have K2 : Keep h0 h2 [a1] := (Keep.refl h0 [a1]).wr W2 (Or.inl (List.mem_of_getElem? (i := 0) rfl))
  have Fw2 := F_statusCode_a1.same W2
  obtain ⟨T3, h3, X3, e3, E3, A3, EA3, st3⟩ := cloneH X2 hx hZ hown (hw _ (List.mem_of_getElem? (i := 22) rfl)) (hw _ (List.mem_of_getElem? (i := 23) rfl)) (hw _ (List.mem_of_getElem? (i := 27) rfl)) (hw _ (List.mem_of_getElem? (i := 25) rfl)) (hw _ (List.mem_of_getElem? (i := 26) rfl)) (hw _ (List.mem_of_getElem? (i := 28) rfl)) e2 (Arv.arh (V_a3.other W2 (Ne.symm ne_a1_a3))) (E_a3.wr W2) (g := (mkF m 11 #[.val (.ref a1), .val (.ref a2), .val (.ref a3)] [(.ref a3), (.ref a1)])) rfl (by rw [hml]; rfl) rfl (hb hby d3_11) (by decide) (W := 1) (cap := 0) (by show 2 * 0 + _ ≤ _; exact Nat.le_of_eq rfl) (by decide) (by decide) (by decide) (by decide)
  obtain ⟨b3, g3⟩ : ∃ z, z = h2.size := ⟨_, rfl⟩
  rw [← g3] at A3 EA3 st3
  have g_b3 : n0 ≤ b3 := Nat.le_trans (own_sz O2) (Nat.le_of_eq g3.symm)
  have sz_b3 : h0.size ≤ b3 := Nat.le_trans K2.1 (Nat.le_of_eq g3.symm)
  have O3 := O2.ext E3
  have K3 : Keep h0 h3 [a1] := K2.ext E3
  have V_b3 : Arv Z h3 b3 k_a3 .byte (0 : Int32) [] (.int (0 : Int32)) := A3
  obtain ⟨T4, X4, e4, st4⟩ := castY X3 hx hZ hown (hw _ (List.mem_of_getElem? (i := 29) rfl)) e3 (Ins.self EA3) (g := (mkF m 14 #[.val (.ref a1), .val (.ref a2), .val (.ref a3)] [(.ref b3), (.ref a1)])) rfl rfl (hb hby d3_14)
  obtain ⟨T5, h5, X5, e5, W5, st5⟩ := putF X4 hx hZ hown (host := "") (Or.inl (hw _ (List.mem_of_getElem? (i := 31) rfl))) Via.refl e4 ((F_report_a1.other W2 (Or.inr (sn0 hw))).ext E3) ((E_a1.wr W2).ext E3) (Or.inr ⟨(hw _ (List.mem_of_getElem? (i := 32) rfl)), rfl, hnm⟩) (hw _ (List.mem_of_getElem? (i := 12) rfl)) (ty := (.array .byte)) (by decide) rfl rfl (g := (mkF m 17 #[.val (.ref a1), .val (.ref a2), .val (.ref a3)] [(.ref b3), (.ref a1)])) rfl rfl (hb hby d3_17)
  have N5 := Fr.snoc X5 N2 g_a1
  have O5 := O3.wr W5 g_a1
  have K5 : Keep h0 h5 [a1] := K3.wr W5 (Or.inl (List.mem_of_getElem? (i := 0) rfl))
  have Fw5 := ((F_report_a1.other W2 (Or.inr (sn0 hw))).ext E3).same W5
  have f_6 := (V_b3.other W5 (Ne.symm (Nat.ne_of_lt (Nat.lt_of_lt_of_le E_a1.lt sz_b3))))
  obtain ⟨fs, hr, hrun, hended, hW, hsame⟩ := X5.leave (v := none) (fun _ => rfl)
  refine ⟨_, _, pre0 _ ?_, hrun, hended, _, _, rfl, ?_, ⟨_, rfl⟩, hW, hsame.mono (by decide) (by decide)⟩
  · show Sp p e below s₁ (mkF m 0 #[.val (.ref a1), .val (.ref a2), .val (.ref a3)] []) _
    refine XS.aloadN X0.here hx rfl (hb hby d3_0) rfl rfl ?_
    show Sp p e below s₁ (mkF m 1 #[.val (.ref a1), .val (.ref a2), .val (.ref a3)] [(.ref a1)]) _
    refine st1 _ ?_
    show Sp p e below T1 (mkF m 4 #[.val (.ref a1), .val (.ref a2), .val (.ref a3)] []) _
    refine XS.aloadN X1.here hx rfl (hb hby d3_4) rfl rfl ?_
    show Sp p e below T1 (mkF m 5 #[.val (.ref a1), .val (.ref a2), .val (.ref a3)] [(.ref a1)]) _
    refine XS.aloadN X1.here hx rfl (hb hby d3_5) rfl rfl ?_
    show Sp p e below T1 (mkF m 6 #[.val (.ref a1), .val (.ref a2), .val (.ref a3)] [(.ref a2), (.ref a1)]) _
    refine st2 _ ?_
    show Sp p e below T2 (mkF m 9 #[.val (.ref a1), .val (.ref a2), .val (.ref a3)] []) _
    refine XS.aloadN X2.here hx rfl (hb hby d3_9) rfl rfl ?_
    show Sp p e below T2 (mkF m 10 #[.val (.ref a1), .val (.ref a2), .val (.ref a3)] [(.ref a1)]) _
    refine XS.aloadN X2.here hx rfl (hb hby d3_10) rfl rfl ?_
    show Sp p e below T2 (mkF m 11 #[.val (.ref a1), .val (.ref a2), .val (.ref a3)] [(.ref a3), (.ref a1)]) _
    refine st3 _ ?_
    show Sp p e below T3 (mkF m 14 #[.val (.ref a1), .val (.ref a2), .val (.ref a3)] [(.ref b3), (.ref a1)]) _
    refine st4 _ ?_
    show Sp p e below T4 (mkF m 17 #[.val (.ref a1), .val (.ref a2), .val (.ref a3)] [(.ref b3), (.ref a1)]) _
    refine st5 _ ?_
    show Sp p e below T5 (mkF m 20 #[.val (.ref a1), .val (.ref a2), .val (.ref a3)] []) _
    exact X5.returnOut hx Bd.returns (hb hby d3_20) hr
  · show Q6 Z w_XML_INVALID w_STATUS_UNAVAILABLE w_IMPORTED w_IMPORTED_WITH_WARNINGS a1 a2 a3 k_a3 h0 n0 _ T5.heap _
    rw [e5]
    exact ⟨b3, rfl, N5, K5, sz_b3, (((E_a1.wr W2).ext E3).wr W5), Fw5, ((Fw2.ext E3).other W5 (Or.inr (sn1 hw))), (EA3.wr W5), f_6⟩
theorem pd_2 : parseMethodDescriptor "(Lcom/example/epcrtools/epcrtools/exchange/StatusCode;[B)V" = some ⟨[(.object "com/example/epcrtools/epcrtools/exchange/StatusCode"), (.array .byte)], none⟩ := by decide +kernel
theorem d5_0 : decode prog_13_method_6_code 0 = .ok (.aload_n 0, 1) := by decide +kernel
theorem d5_1 : decode prog_13_method_6_code 1 = .ok (.getfield 19, 3) := by decide +kernel
theorem d5_4 : decode prog_13_method_6_code 4 = .ok (.ifnonnull 7, 3) := by decide +kernel
theorem d5_11 : decode prog_13_method_6_code 11 = .ok (.aload_n 0, 1) := by decide +kernel
theorem d5_12 : decode prog_13_method_6_code 12 = .ok (.getfield 19, 3) := by decide +kernel
theorem d5_15 : decode prog_13_method_6_code 15 = .ok (.arraylength, 1) := by decide +kernel
theorem d5_16 : decode prog_13_method_6_code 16 = .ok (.ireturn, 1) := by decide +kernel
abbrev y3 : MethodName := (⟨"com/example/epcrtools/epcrtools/exchange/SubmissionStatus", "size", "()I"⟩ : MethodName)
theorem ef_5_0 (m : MethodId) (x0 : Addr) : entryFrame m #[(.ref x0)] 1 = mkF m 0 #[.val (.ref x0)] [] := by first | (simp [entryFrame, mkF, argsToLocals, Value.category]; done) | rfl
def Q7 (Z : State) (w_XML_INVALID : Addr) (w_STATUS_UNAVAILABLE : Addr) (w_IMPORTED : Addr) (w_IMPORTED_WITH_WARNINGS : Addr) (a1 : Addr) (a2 : Addr) (k_a2 : ClassId) (h0 : Heap) (n0 : Nat) (v : Option Value) (h : Heap) (L : List Loc) : Prop := v = some (.int (0 : Int32)) ∧ Fr n0 L ∧ h = h0
set_option maxRecDepth 65536 in
set_option maxHeartbeats 40000000 in
theorem rm7 (l : Launch) (Z : State) (a0 : Array Value) (hw : ∀ d ∈ tables_1, d.before a0 Z = true) (ws : List Jvm.Cond) (w_XML_INVALID w_STATUS_UNAVAILABLE w_IMPORTED w_IMPORTED_WITH_WARNINGS : Addr) (hp : Perm Z w_XML_INVALID w_STATUS_UNAVAILABLE w_IMPORTED w_IMPORTED_WITH_WARNINGS) (a1 : Addr) (a2 : Addr) (k_a2 : ClassId) (h0 : Heap) (n0 : Nat) (O0 : Old Z n0 h0) (F_report_a1 : Fld Z h0 a1 "com/example/epcrtools/epcrtools/exchange/SubmissionStatus" "report" "[B" (.ref a2)) (V_a2 : Arv Z h0 a2 k_a2 .byte (0 : Int32) [] (.int (0 : Int32))) :
    MetFree l y3 (head1 (Jvm.Cond.code y3 prog_13_method_6_code 1 (some .int) :: ws) ({ frames := 0, cells := 0, slots := 0, locals := 0 } : Room)) (fun a U => a = #[(.ref a1)] ∧ Z.Warmed39 U.vm ∧ U.heap = h0) (fun _ _ _ _ _ => True) (fun _ U o U' => ∃ v L, o = .returned v ∧ Q7 Z w_XML_INVALID w_STATUS_UNAVAILABLE w_IMPORTED w_IMPORTED_WITH_WARNINGS a1 a2 k_a2 h0 n0 v U'.heap L ∧ FrameEnd U o U' L ({ frames := 0, cells := 0, slots := 0, locals := 0 } : Room).cells ({ frames := 0, cells := 0, slots := 0, locals := 0 } : Room).slots) := by
  refine MetFree.of_bodySF (plainFor_of_name pn_3) hisR ?_
  intro p e s m args below meth c s₁ Bd hml0 hP hK
  obtain ⟨rfl, hZ, hh⟩ := hP
  have hx := Bd.exec
  have hby := Bd.bytes
  have hml : c.maxLocals = 1 := hml0
  have hown : s.vm.findClass "com/example/epcrtools/epcrtools/exchange/SubmissionStatus" = some m.cls := findClass_of_methodNamed Bd.named
  have hnm := (name_of_methodNamed Bd.named Bd.method).1
  have X0 : Stand p l e ({ frames := 0, cells := 0, slots := 0, locals := 0 } : Room) s m #[(.ref a1)] below meth c s₁ [] 0 0 := Stand.of_body Bd
  have e0 : s₁.heap = h0 := by rw [← hh, Bd.state]; rfl
  have N0 := Fr.nil n0
  have hp' := hp
  obtain ⟨S_w_XML_INVALID, E_w_XML_INVALID, S_w_STATUS_UNAVAILABLE, E_w_STATUS_UNAVAILABLE, S_w_IMPORTED, E_w_IMPORTED, S_w_IMPORTED_WITH_WARNINGS, E_w_IMPORTED_WITH_WARNINGS⟩ := hp'
  have pre0 : ∀ t, Steps p.tables e below (s₁.setTop (mkF m 0 #[.val (.ref a1)] [])) t → Steps p.tables e below (s₁.setTop (entryFrame m #[(.ref a1)] 1)) t := fun t k => castTop (ef_5_0 m a1) k
  obtain ⟨T1, X1, e1, st1⟩ := getF X0 hx hZ hown (host := "") (Or.inl (hw _ (List.mem_of_getElem? (i := 31) rfl))) Via.refl e0 F_report_a1 (g := (mkF m 1 #[.val (.ref a1)] [(.ref a1)])) rfl rfl (hb hby d5_1)
  obtain ⟨T2, X2, e2, st2⟩ := getF X1 hx hZ hown (host := "") (Or.inl (hw _ (List.mem_of_getElem? (i := 31) rfl))) Via.refl e1 F_report_a1 (g := (mkF m 12 #[.val (.ref a1)] [(.ref a1)])) rfl rfl (hb hby d5_12)
  obtain ⟨cl3, Ar3, -, S3, Nn3, -, -⟩ := id V_a2
  obtain ⟨fs, hr, hrun, hended, hW, hsame⟩ := X2.leave (v := some (.int (0 : Int32))) (fun h => by rw [Bd.returns] at h; cases h)
  refine ⟨_, _, pre0 _ ?_, hrun, hended, _, _, rfl, ?_, ⟨_, rfl⟩, hW, hsame.mono (by decide) (by decide)⟩
  · show Sp p e below s₁ (mkF m 0 #[.val (.ref a1)] []) _
    refine XS.aloadN X0.here hx rfl (hb hby d5_0) rfl rfl ?_
    show Sp p e below s₁ (mkF m 1 #[.val (.ref a1)] [(.ref a1)]) _
    refine st1 _ ?_
    show Sp p e below T1 (mkF m 4 #[.val (.ref a1)] [(.ref a2)]) _
    refine XS.ifnonnullYes X1.here hx rfl (pc0 := 4) (pc' := 11) rfl (hb hby d5_4) rfl (by decide) (by decide) ?_
    show Sp p e below T1 (mkF m 11 #[.val (.ref a1)] []) _
    refine XS.aloadN X1.here hx rfl (hb hby d5_11) rfl rfl ?_
    show Sp p e below T1 (mkF m 12 #[.val (.ref a1)] [(.ref a1)]) _
    refine st2 _ ?_
    show Sp p e below T2 (mkF m 15 #[.val (.ref a1)] [(.ref a2)]) _
    refine X2.arraylength hx (by rw [e2]; exact Ar3.1) (State.isArrayOf_alike hZ.alike Ar3.2.1) (g := (mkF m 15 #[.val (.ref a1)] [(.ref a2)])) rfl rfl (hb hby d5_15) _ ?_
    rw [len_of S3 Nn3]
    show Sp p e below T2 (mkF m 16 #[.val (.ref a1)] [(.int (0 : Int32))]) _
    exact retI X2 hx Bd.returns (hb hby d5_16) hr
  · show Q7 Z w_XML_INVALID w_STATUS_UNAVAILABLE w_IMPORTED w_IMPORTED_WITH_WARNINGS a1 a2 k_a2 h0 n0 _ T2.heap _
    rw [e2]
    exact ⟨rfl, N0, rfl⟩
theorem pd_3 : parseMethodDescriptor "()I" = some ⟨[], some .int⟩ := by decide +kernel
theorem d6_0 : decode prog_13_method_4_code 0 = .ok (.aload_n 0, 1) := by decide +kernel
theorem d6_1 : decode prog_13_method_4_code 1 = .ok (.getfield 7, 3) := by decide +kernel
theorem d6_4 : decode prog_13_method_4_code 4 = .ok (.areturn, 1) := by decide +kernel
abbrev y4 : MethodName := (⟨"com/example/epcrtools/epcrtools/exchange/SubmissionStatus", "statusCode", "()Lcom/example/epcrtools/epcrtools/exchange/StatusCode;"⟩ : MethodName)
theorem ef_6_0 (m : MethodId) (x0 : Addr) : entryFrame m #[(.ref x0)] 1 = mkF m 0 #[.val (.ref x0)] [] := by first | (simp [entryFrame, mkF, argsToLocals, Value.category]; done) | rfl
def Q8 (Z : State) (w_XML_INVALID : Addr) (w_STATUS_UNAVAILABLE : Addr) (w_IMPORTED : Addr) (w_IMPORTED_WITH_WARNINGS : Addr) (a1 : Addr) (a2 : Addr) (h0 : Heap) (n0 : Nat) (v : Option Value) (h : Heap) (L : List Loc) : Prop := v = some (.ref a2) ∧ Fr n0 L ∧ h = h0
set_option maxRecDepth 65536 in
set_option maxHeartbeats 40000000 in
theorem rm8 (l : Launch) (Z : State) (a0 : Array Value) (hw : ∀ d ∈ tables_1, d.before a0 Z = true) (ws : List Jvm.Cond) (w_XML_INVALID w_STATUS_UNAVAILABLE w_IMPORTED w_IMPORTED_WITH_WARNINGS : Addr) (hp : Perm Z w_XML_INVALID w_STATUS_UNAVAILABLE w_IMPORTED w_IMPORTED_WITH_WARNINGS) (a1 : Addr) (a2 : Addr) (h0 : Heap) (n0 : Nat) (O0 : Old Z n0 h0) (F_statusCode_a1 : Fld Z h0 a1 "com/example/epcrtools/epcrtools/exchange/SubmissionStatus" "statusCode" "Lcom/example/epcrtools/epcrtools/exchange/StatusCode;" (.ref a2)) :
    MetFree l y4 (head1 (Jvm.Cond.code y4 prog_13_method_4_code 1 (some (.object "com/example/epcrtools/epcrtools/exchange/StatusCode")) :: ws) ({ frames := 0, cells := 0, slots := 0, locals := 0 } : Room)) (fun a U => a = #[(.ref a1)] ∧ Z.Warmed39 U.vm ∧ U.heap = h0) (fun _ _ _ _ _ => True) (fun _ U o U' => ∃ v L, o = .returned v ∧ Q8 Z w_XML_INVALID w_STATUS_UNAVAILABLE w_IMPORTED w_IMPORTED_WITH_WARNINGS a1 a2 h0 n0 v U'.heap L ∧ FrameEnd U o U' L ({ frames := 0, cells := 0, slots := 0, locals := 0 } : Room).cells ({ frames := 0, cells := 0, slots := 0, locals := 0 } : Room).slots) := by
  refine MetFree.of_bodySF (plainFor_of_name pn_3) hisR ?_
  intro p e s m args below meth c s₁ Bd hml0 hP hK
  obtain ⟨rfl, hZ, hh⟩ := hP
  have hx := Bd.exec
  have hby := Bd.bytes
  have hml : c.maxLocals = 1 := hml0
  have hown : s.vm.findClass "com/example/epcrtools/epcrtools/exchange/SubmissionStatus" = some m.cls := findClass_of_methodNamed Bd.named
  have hnm := (name_of_methodNamed Bd.named Bd.method).1
  have X0 : Stand p l e ({ frames := 0, cells := 0, slots := 0, locals := 0 } : Room) s m #[(.ref a1)] below meth c s₁ [] 0 0 := Stand.of_body Bd
  have e0 : s₁.heap = h0 := by rw [← hh, Bd.state]; rfl
  have N0 := Fr.nil n0
  have hp' := hp
  obtain ⟨S_w_XML_INVALID, E_w_XML_INVALID, S_w_STATUS_UNAVAILABLE, E_w_STATUS_UNAVAILABLE, S_w_IMPORTED, E_w_IMPORTED, S_w_IMPORTED_WITH_WARNINGS, E_w_IMPORTED_WITH_WARNINGS⟩ := hp'
  have pre0 : ∀ t, Steps p.tables e below (s₁.setTop (mkF m 0 #[.val (.ref a1)] [])) t → Steps p.tables e below (s₁.setTop (entryFrame m #[(.ref a1)] 1)) t := fun t k => castTop (ef_6_0 m a1) k
  obtain ⟨T1, X1, e1, st1⟩ := getF X0 hx hZ hown (host := "") (Or.inl (hw _ (List.mem_of_getElem? (i := 20) rfl))) Via.refl e0 F_statusCode_a1 (g := (mkF m 1 #[.val (.ref a1)] [(.ref a1)])) rfl rfl (hb hby d6_1)
  obtain ⟨fs, hr, hrun, hended, hW, hsame⟩ := X1.leave (v := some (.ref a2)) (fun h => by rw [Bd.returns] at h; cases h)
  refine ⟨_, _, pre0 _ ?_, hrun, hended, _, _, rfl, ?_, ⟨_, rfl⟩, hW, hsame.mono (by decide) (by decide)⟩
  · show Sp p e below s₁ (mkF m 0 #[.val (.ref a1)] []) _
    refine XS.aloadN X0.here hx rfl (hb hby d6_0) rfl rfl ?_
    show Sp p e below s₁ (mkF m 1 #[.val (.ref a1)] [(.ref a1)]) _
    refine st1 _ ?_
    show Sp p e below T1 (mkF m 4 #[.val (.ref a1)] [(.ref a2)]) _
    jvm_step X1.here [X1.here.top, hx, (hb hby d6_4), X1.method', Bd.returns, Value.isRef, FieldType.isReference]
    first | (intro acts; rw [hr _ acts rfl rfl rfl]) | rw [hr _ _ rfl rfl rfl]
    exact Steps.refl _
  · show Q8 Z w_XML_INVALID w_STATUS_UNAVAILABLE w_IMPORTED w_IMPORTED_WITH_WARNINGS a1 a2 h0 n0 _ T1.heap _
    rw [e1]
    exact ⟨rfl, N0, rfl⟩
theorem pd_4 : parseMethodDescriptor "()Lcom/example/epcrtools/epcrtools/exchange/StatusCode;" = some ⟨[], some (.object "com/example/epcrtools/epcrtools/exchange/StatusCode")⟩ := by decide +kernel
theorem ef_0_0 (m : MethodId) (x0 : Int32) (x1 : Int32) (x2 : Int32) (x3 : Int32) : entryFrame m #[(.int x0), (.int x1), (.int x2), (.int x3)] maxLocals = mkF m 0 #[.val (.int x0), .val (.int x1), .val (.int x2), .val (.int x3), .unset, .unset, .unset, .unset] [] := by first | (simp [entryFrame, mkF, argsToLocals, Value.category, maxLocals]; done) | rfl
set_option maxRecDepth 65536 in
set_option maxHeartbeats 40000000 in
theorem rm9 (l : Launch) (Z : State) (a0 : Array Value) (hw : ∀ d ∈ tables_1, d.before a0 Z = true) (ws : List Jvm.Cond) (w_XML_INVALID w_STATUS_UNAVAILABLE w_IMPORTED w_IMPORTED_WITH_WARNINGS : Addr) (hp : Perm Z w_XML_INVALID w_STATUS_UNAVAILABLE w_IMPORTED w_IMPORTED_WITH_WARNINGS) (p0 : Int32) (p1 : Int32) (p2 : Int32) (p3 : Int32) (h0 : Heap) (n0 : Nat) (O0 : Old Z n0 h0) (hc1 : (p0 &&& (1 : Int32)) = (0 : Int32)) (hc2 : (p1 &&& (7 : Int32)) = (0 : Int32)) :
    MetFree l x (head1 (Jvm.Cond.code x code maxLocals ret :: ws) room_1) (fun a U => a = #[(.int p0), (.int p1), (.int p2), (.int p3)] ∧ Z.Warmed39 U.vm ∧ U.heap = h0) (fun _ _ _ _ _ => True) (fun _ U o U' => ∃ v L, o = .returned v ∧ (v = some (.int (1 : Int32)) ∧ Fr n0 L) ∧ FrameEnd U o U' L 16 896) := by
  refine MetFree.of_bodySF (plainFor_of_name pn_1) hisR ?_
  intro p e s m args below meth c s₁ Bd hml0 hP hK
  obtain ⟨rfl, hZ, hh⟩ := hP
  have hx := Bd.exec
  have hby := Bd.bytes
  have hml : c.maxLocals = 8 := hml0
  have hown : s.vm.findClass "com/example/epcrtools/epcrtools/exchange/SubmissionStatusSizePinLaw" = some m.cls := findClass_of_methodNamed Bd.named
  have hnm := (name_of_methodNamed Bd.named Bd.method).1
  have X0 : Stand p l e room_1 s m #[(.int p0), (.int p1), (.int p2), (.int p3)] below meth c s₁ [] 0 0 := Stand.of_body Bd
  have e0 : s₁.heap = h0 := by rw [← hh, Bd.state]; rfl
  have N0 := Fr.nil n0
  have hp' := hp
  obtain ⟨S_w_XML_INVALID, E_w_XML_INVALID, S_w_STATUS_UNAVAILABLE, E_w_STATUS_UNAVAILABLE, S_w_IMPORTED, E_w_IMPORTED, S_w_IMPORTED_WITH_WARNINGS, E_w_IMPORTED_WITH_WARNINGS⟩ := hp'
  have pre0 : ∀ t, Steps p.tables e below (s₁.setTop (mkF m 0 #[.val (.int p0), .val (.int p1), .val (.int p2), .val (.int p3), .unset, .unset, .unset, .unset] [])) t → Steps p.tables e below (s₁.setTop (entryFrame m #[(.int p0), (.int p1), (.int p2), (.int p3)] maxLocals)) t := fun t k => castTop (ef_0_0 m p0 p1 p2 p3) k
  obtain ⟨_, _, ⟨T1, L1, k1, n1⟩, -, X1, ⟨Lc1, hQ1, l1, y1, z1⟩, st1⟩ := Jvm.LawKit.callS X0 hx (y := y0) hown (mvT hZ (hw _ (List.mem_of_getElem? (i := 0) rfl))) (mvT hZ (hw _ (List.mem_of_getElem? (i := 1) rfl))) (mvT hZ (hw _ (List.mem_of_getElem? (i := 2) rfl))) (mvT hZ (hw _ (List.mem_of_getElem? (i := 3) rfl))) (by decide) (backOf (W := 0) (rmM1 l Z a0 hw [] w_XML_INVALID w_STATUS_UNAVAILABLE w_IMPORTED w_IMPORTED_WITH_WARNINGS hp p3 h0 n0 O0) hZ (hw _ (List.mem_of_getElem? (i := 3) rfl)) (hw _ (List.mem_of_getElem? (i := 2) rfl)) (by decide) (by decide)) (g := (mkF m 1 #[.val (.int p0), .val (.int p1), .val (.int p2), .val (.int p3), .unset, .unset, .unset, .unset] [(.int p3)])) rfl (by rw [hml]; rfl) (argsL := [(.int p3)]) (rest := []) (lenOf pd_0 rfl) rfl (by show 2 * 0 + _ ≤ _; exact Nat.le_of_eq rfl) (hb hby at_1) (fun _ _ => ⟨rfl, e0, (by decide : 0 + 0 ≤ _), (by decide : 0 + 0 ≤ _)⟩)
  dsimp only [Pt.U, Pt.locs, Pt.cells, Pt.slots] at X1 l1 y1 z1 st1 hQ1
  subst l1 y1 z1
  obtain ⟨c1_0, rfl, Nq1, eq1, oq1_0⟩ := hQ1
  have N1 := Fr.app N0 Nq1
  obtain ⟨_, _, ⟨T2, L2, k2, n2⟩, -, X2, ⟨Lc2, hQ2, l2, y2, z2⟩, st2⟩ := Jvm.LawKit.callS X1 hx (y := y1) hown (mvT hZ (hw _ (List.mem_of_getElem? (i := 7) rfl))) (mvT hZ (hw _ (List.mem_of_getElem? (i := 8) rfl))) (mvT hZ (hw _ (List.mem_of_getElem? (i := 2) rfl))) (mvT hZ (hw _ (List.mem_of_getElem? (i := 9) rfl))) (by decide) (backOf (W := 0) (rm5 l Z a0 hw [] w_XML_INVALID w_STATUS_UNAVAILABLE w_IMPORTED w_IMPORTED_WITH_WARNINGS hp p1 p2 h0 n0 O0 hc2) hZ (hw _ (List.mem_of_getElem? (i := 9) rfl)) (hw _ (List.mem_of_getElem? (i := 2) rfl)) (by decide) (by decide)) (g := (mkF m 45 #[.val (.int p0), .val (.int p1), .val (.int p2), .val (.int p3), .val (.ref c1_0), .unset, .unset, .unset] [(.int p2), (.int p1)])) rfl (by rw [hml]; rfl) (argsL := [(.int p1), (.int p2)]) (rest := []) (lenOf pd_1 rfl) rfl (by show 2 * 0 + _ ≤ _; exact Nat.le_of_eq rfl) (hb hby at_45) (fun _ _ => ⟨rfl, eq1, (by decide : 0 + 1 ≤ _), (by decide : 0 + 0 ≤ _)⟩)
  dsimp only [Pt.U, Pt.locs, Pt.cells, Pt.slots] at X2 l2 y2 z2 st2 hQ2
  subst l2 y2 z2
  obtain ⟨b2_0, kc2_0, rfl, Nq2, Kq2, sq_b2_0, fq2_0, fq2_1⟩ := hQ2
  have N2 := Fr.app N1 Nq2
  have g_b2_0 : n0 ≤ b2_0 := Nat.le_trans (own_sz O0) sq_b2_0
  have sz_b2_0 : h0.size ≤ b2_0 := Nat.le_trans (Keep.refl h0 []).1 sq_b2_0
  have O2 := O0.keep Kq2 all0
  have K2 : Keep h0 T2.heap [] := (Keep.refl h0 []).trans Kq2 all0
  obtain ⟨cl3, Ar3, -, S3, Nn3, -, -⟩ := id fq2_1
  obtain ⟨T4, h4, X4, e4, E4, A4, D4, -, st4⟩ := newO X2 hx hZ hown (hw _ (List.mem_of_getElem? (i := 11) rfl)) (hw _ (List.mem_of_getElem? (i := 12) rfl)) (hw _ (List.mem_of_getElem? (i := 13) rfl)) rfl (g := (mkF m 55 #[.val (.int p0), .val (.int p1), .val (.int p2), .val (.int p3), .val (.ref c1_0), .val (.ref b2_0), .val (.int (0 : Int32)), .unset] [])) rfl (hb hby at_55) (by decide) (by decide)
  obtain ⟨b4, g4⟩ : ∃ z, z = T2.heap.size := ⟨_, rfl⟩
  rw [← g4] at A4 D4 st4
  have g_b4 : n0 ≤ b4 := Nat.le_trans (own_sz O2) (Nat.le_of_eq g4.symm)
  have sz_b4 : h0.size ≤ b4 := Nat.le_trans K2.1 (Nat.le_of_eq g4.symm)
  have O4 := O2.ext E4
  have K4 : Keep h0 h4 [] := K2.ext E4
  have F_statusCode_b4 : Fld Z h4 b4 "com/example/epcrtools/epcrtools/exchange/SubmissionStatus" "statusCode" "Lcom/example/epcrtools/epcrtools/exchange/StatusCode;" .null := D4 (Or.inr (hw _ (List.mem_of_getElem? (i := 21) rfl))) (ty := (.object "com/example/epcrtools/epcrtools/exchange/StatusCode")) (by decide)
  have F_report_b4 : Fld Z h4 b4 "com/example/epcrtools/epcrtools/exchange/SubmissionStatus" "report" "[B" .null := D4 (Or.inr (hw _ (List.mem_of_getElem? (i := 32) rfl))) (ty := (.array .byte)) (by decide)
  obtain ⟨_, _, ⟨T5, L5, k5, n5⟩, -, X5, ⟨Lc5, hQ5, l5, y5, z5⟩, st5⟩ := X4.specialBack hx (y := y2) rfl hown (mvT hZ (hw _ (List.mem_of_getElem? (i := 14) rfl))) (mvT hZ (hw _ (List.mem_of_getElem? (i := 15) rfl))) (mvT hZ (hw _ (List.mem_of_getElem? (i := 16) rfl))) (by decide) (backOf (W := 1) (rm6 l Z a0 hw [] w_XML_INVALID w_STATUS_UNAVAILABLE w_IMPORTED w_IMPORTED_WITH_WARNINGS hp b4 c1_0 b2_0 kc2_0 h4 n0 O4 A4 F_statusCode_b4 F_report_b4 g_b4 (fq2_1.ext E4) (Ne.symm (Nat.ne_of_lt (Nat.lt_of_lt_of_le fq2_0.lt (Nat.le_of_eq g4.symm)))) (fq2_0.ext E4)) hZ (hw _ (List.mem_of_getElem? (i := 16) rfl)) (hw _ (List.mem_of_getElem? (i := 13) rfl)) (by decide) (by decide)) (g := (mkF m 63 #[.val (.int p0), .val (.int p1), .val (.int p2), .val (.int p3), .val (.ref c1_0), .val (.ref b2_0), .val (.int (0 : Int32)), .unset] [(.ref b2_0), (.ref c1_0), (.ref b4), (.ref b4)])) rfl (by rw [hml]; rfl) (Steps.refl _) (a := b4) (argsL := [(.ref c1_0), (.ref b2_0)]) (rest := [(.ref b4)]) (lenOf pd_2 rfl) rfl (by show 2 * 0 + _ ≤ _; exact Nat.le_of_eq rfl) (hb hby at_63) (fun _ _ => ⟨rfl, e4, (by decide : 2 + 1 ≤ _), (by decide : 2 + 0 ≤ _)⟩)
  dsimp only [Pt.U, Pt.locs, Pt.cells, Pt.slots] at X5 l5 y5 z5 st5 hQ5
  subst l5 y5 z5
  obtain ⟨b5_0, rfl, Nq5, Kq5, sq_b5_0, fq5_0, fq5_1, fq5_2, fq5_3, fq5_4⟩ := hQ5
  have N5 := Fr.app N2 Nq5
  have g_b5_0 : n0 ≤ b5_0 := Nat.le_trans (own_sz O4) sq_b5_0
  have sz_b5_0 : h0.size ≤ b5_0 := Nat.le_trans K4.1 sq_b5_0
  have O5 := O4.keep Kq5 (allS g_b4 all0)
  have K5 : Keep h0 T5.heap [] := K4.trans Kq5 (allS (Or.inr sz_b4) all0)
  obtain ⟨cq6, kq6, q6a, q6b, q6c⟩ := isOf hZ rfl fq5_0
  obtain ⟨_, _, ⟨T6, L6, k6, n6⟩, -, X6, ⟨Lc6, hQ6, l6, y6, z6⟩, st6⟩ := X5.virtualBack hx (y := y3) (z := y3) hown (mvT hZ (hw _ (List.mem_of_getElem? (i := 33) rfl))) (mvT hZ (hw _ (List.mem_of_getElem? (i := 34) rfl))) (notFace_of_selects (args := #[]) (mvT hZ (hw _ (List.mem_of_getElem? (i := 36) rfl)))) (mvT hZ (hw _ (List.mem_of_getElem? (i := 36) rfl))) (mvT hZ (hw _ (List.mem_of_getElem? (i := 35) rfl))) (by decide) (backOf (W := 0) (rm7 l Z a0 hw [] w_XML_INVALID w_STATUS_UNAVAILABLE w_IMPORTED w_IMPORTED_WITH_WARNINGS hp b4 b5_0 kc2_0 T5.heap n0 O5 fq5_1 fq5_4) hZ (hw _ (List.mem_of_getElem? (i := 37) rfl)) (hw _ (List.mem_of_getElem? (i := 13) rfl)) (by decide) (by decide)) q6a q6c (g := (mkF m 86 #[.val (.int p0), .val (.int p1), .val (.int p2), .val (.int p3), .val (.ref c1_0), .val (.ref b2_0), .val (.int (0 : Int32)), .val (.ref b4)] [(.ref b4)])) rfl (by rw [hml]; rfl) (Steps.refl _) (argsL := []) (rest := []) (lenOf pd_3 rfl) rfl (by show 2 * 0 + _ ≤ _; exact Nat.le_of_eq rfl) (hb hby at_86) (fun _ _ => ⟨rfl, rfl, (by decide : 3 + 0 ≤ _), (by decide : 2 + 0 ≤ _)⟩)
  dsimp only [Pt.U, Pt.locs, Pt.cells, Pt.slots] at X6 l6 y6 z6 st6 hQ6
  subst l6 y6 z6
  obtain ⟨rfl, Nq6, eq6⟩ := hQ6
  have N6 := Fr.app N5 Nq6
  obtain ⟨cq7, kq7, q7a, q7b, q7c⟩ := isOf hZ eq6 fq5_0
  obtain ⟨_, _, ⟨T7, L7, k7, n7⟩, -, X7, ⟨Lc7, hQ7, l7, y7, z7⟩, st7⟩ := X6.virtualBack hx (y := y4) (z := y4) hown (mvT hZ (hw _ (List.mem_of_getElem? (i := 38) rfl))) (mvT hZ (hw _ (List.mem_of_getElem? (i := 39) rfl))) (notFace_of_selects (args := #[]) (mvT hZ (hw _ (List.mem_of_getElem? (i := 41) rfl)))) (mvT hZ (hw _ (List.mem_of_getElem? (i := 41) rfl))) (mvT hZ (hw _ (List.mem_of_getElem? (i := 40) rfl))) (by decide) (backOf (W := 0) (rm8 l Z a0 hw [] w_XML_INVALID w_STATUS_UNAVAILABLE w_IMPORTED w_IMPORTED_WITH_WARNINGS hp b4 c1_0 T5.heap n0 O5 fq5_2) hZ (hw _ (List.mem_of_getElem? (i := 42) rfl)) (hw _ (List.mem_of_getElem? (i := 13) rfl)) (by decide) (by decide)) q7a q7c (g := (mkF m 96 #[.val (.int p0), .val (.int p1), .val (.int p2), .val (.int p3), .val (.ref c1_0), .val (.ref b2_0), .val (.int (0 : Int32)), .val (.ref b4)] [(.ref b4)])) rfl (by rw [hml]; rfl) (Steps.refl _) (argsL := []) (rest := []) (lenOf pd_4 rfl) rfl (by show 2 * 0 + _ ≤ _; exact Nat.le_of_eq rfl) (hb hby at_96) (fun _ _ => ⟨rfl, eq6, (by decide : 3 + 0 ≤ _), (by decide : 2 + 0 ≤ _)⟩)
  dsimp only [Pt.U, Pt.locs, Pt.cells, Pt.slots] at X7 l7 y7 z7 st7 hQ7
  subst l7 y7 z7
  obtain ⟨rfl, Nq7, eq7⟩ := hQ7
  have N7 := Fr.app N6 Nq7
  obtain ⟨fs, hr, hrun, hended, hW, hsame⟩ := X7.leave (v := some (.int (1 : Int32))) (fun h => by rw [Bd.returns] at h; cases h)
  refine ⟨_, _, pre0 _ ?_, hrun, hended, _, _, rfl, ?_, ⟨_, rfl⟩, hW, hsame.mono (by decide) (by decide)⟩
  · show Sp p e below s₁ (mkF m 0 #[.val (.int p0), .val (.int p1), .val (.int p2), .val (.int p3), .unset, .unset, .unset, .unset] []) _
    refine XS.iloadN X0.here hx rfl (hb hby at_0) rfl ?_
    show Sp p e below s₁ (mkF m 1 #[.val (.int p0), .val (.int p1), .val (.int p2), .val (.int p3), .unset, .unset, .unset, .unset] [(.int p3)]) _
    refine st1 _ ?_
    show Sp p e below T1 (mkF m 4 #[.val (.int p0), .val (.int p1), .val (.int p2), .val (.int p3), .unset, .unset, .unset, .unset] [(.ref c1_0)]) _
    refine XS.astore X1.here hx rfl (hb hby at_4) rfl rfl (l' := #[.val (.int p0), .val (.int p1), .val (.int p2), .val (.int p3), .val (.ref c1_0), .unset, .unset, .unset]) rfl ?_
    show Sp p e below T1 (mkF m 6 #[.val (.int p0), .val (.int p1), .val (.int p2), .val (.int p3), .val (.ref c1_0), .unset, .unset, .unset] []) _
    refine XS.iloadN X1.here hx rfl (hb hby at_6) rfl ?_
    show Sp p e below T1 (mkF m 7 #[.val (.int p0), .val (.int p1), .val (.int p2), .val (.int p3), .val (.ref c1_0), .unset, .unset, .unset] [(.int p0)]) _
    refine XS.iconst X1.here hx rfl (hb hby at_7) ?_
    show Sp p e below T1 (mkF m 8 #[.val (.int p0), .val (.int p1), .val (.int p2), .val (.int p3), .val (.ref c1_0), .unset, .unset, .unset] [(.int (1 : Int32)), (.int p0)]) _
    refine XS.iand X1.here hx rfl (hb hby at_8) rfl ?_
    show Sp p e below T1 (mkF m 9 #[.val (.int p0), .val (.int p1), .val (.int p2), .val (.int p3), .val (.ref c1_0), .unset, .unset, .unset] [(.int (p0 &&& (1 : Int32)))]) _
    refine XS.ifYes X1.here hx rfl (pc0 := 9) (pc' := 43) rfl (hb hby at_9) rfl ((if0 _ _).trans (teq hc1).1) (by decide) (by decide) ?_
    show Sp p e below T1 (mkF m 43 #[.val (.int p0), .val (.int p1), .val (.int p2), .val (.int p3), .val (.ref c1_0), .unset, .unset, .unset] []) _
    refine XS.iloadN X1.here hx rfl (hb hby at_43) rfl ?_
    show Sp p e below T1 (mkF m 44 #[.val (.int p0), .val (.int p1), .val (.int p2), .val (.int p3), .val (.ref c1_0), .unset, .unset, .unset] [(.int p1)]) _
    refine XS.iloadN X1.here hx rfl (hb hby at_44) rfl ?_
    show Sp p e below T1 (mkF m 45 #[.val (.int p0), .val (.int p1), .val (.int p2), .val (.int p3), .val (.ref c1_0), .unset, .unset, .unset] [(.int p2), (.int p1)]) _
    refine st2 _ ?_
    show Sp p e below T2 (mkF m 48 #[.val (.int p0), .val (.int p1), .val (.int p2), .val (.int p3), .val (.ref c1_0), .unset, .unset, .unset] [(.ref b2_0)]) _
    refine XS.astore X2.here hx rfl (hb hby at_48) rfl rfl (l' := #[.val (.int p0), .val (.int p1), .val (.int p2), .val (.int p3), .val (.ref c1_0), .val (.ref b2_0), .unset, .unset]) rfl ?_
    show Sp p e below T2 (mkF m 50 #[.val (.int p0), .val (.int p1), .val (.int p2), .val (.int p3), .val (.ref c1_0), .val (.ref b2_0), .unset, .unset] []) _
    refine XS.aload X2.here hx rfl (hb hby at_50) rfl rfl ?_
    show Sp p e below T2 (mkF m 52 #[.val (.int p0), .val (.int p1), .val (.int p2), .val (.int p3), .val (.ref c1_0), .val (.ref b2_0), .unset, .unset] [(.ref b2_0)]) _
    refine X2.arraylength hx (by exact Ar3.1) (State.isArrayOf_alike hZ.alike Ar3.2.1) (g := (mkF m 52 #[.val (.int p0), .val (.int p1), .val (.int p2), .val (.int p3), .val (.ref c1_0), .val (.ref b2_0), .unset, .unset] [(.ref b2_0)])) rfl rfl (hb hby at_52) _ ?_
    rw [len_of S3 Nn3]
    show Sp p e below T2 (mkF m 53 #[.val (.int p0), .val (.int p1), .val (.int p2), .val (.int p3), .val (.ref c1_0), .val (.ref b2_0), .unset, .unset] [(.int (0 : Int32))]) _
    refine XS.istore X2.here hx rfl (hb hby at_53) rfl (l' := #[.val (.int p0), .val (.int p1), .val (.int p2), .val (.int p3), .val (.ref c1_0), .val (.ref b2_0), .val (.int (0 : Int32)), .unset]) rfl ?_
    show Sp p e below T2 (mkF m 55 #[.val (.int p0), .val (.int p1), .val (.int p2), .val (.int p3), .val (.ref c1_0), .val (.ref b2_0), .val (.int (0 : Int32)), .unset] []) _
    refine st4 _ ?_
    show Sp p e below T4 (mkF m 58 #[.val (.int p0), .val (.int p1), .val (.int p2), .val (.int p3), .val (.ref c1_0), .val (.ref b2_0), .val (.int (0 : Int32)), .unset] [(.ref b4)]) _
    refine XS.dup X4.here hx rfl (hb hby at_58) rfl rfl ?_
    show Sp p e below T4 (mkF m 59 #[.val (.int p0), .val (.int p1), .val (.int p2), .val (.int p3), .val (.ref c1_0), .val (.ref b2_0), .val (.int (0 : Int32)), .unset] [(.ref b4), (.ref b4)]) _
    refine XS.aload X4.here hx rfl (hb hby at_59) rfl rfl ?_
    show Sp p e below T4 (mkF m 61 #[.val (.int p0), .val (.int p1), .val (.int p2), .val (.int p3), .val (.ref c1_0), .val (.ref b2_0), .val (.int (0 : Int32)), .unset] [(.ref c1_0), (.ref b4), (.ref b4)]) _
    refine XS.aload X4.here hx rfl (hb hby at_61) rfl rfl ?_
    show Sp p e below T4 (mkF m 63 #[.val (.int p0), .val (.int p1), .val (.int p2), .val (.int p3), .val (.ref c1_0), .val (.ref b2_0), .val (.int (0 : Int32)), .unset] [(.ref b2_0), (.ref c1_0), (.ref b4), (.ref b4)]) _
    refine st5.trans ?_
    show Sp p e below T5 (mkF m 66 #[.val (.int p0), .val (.int p1), .val (.int p2), .val (.int p3), .val (.ref c1_0), .val (.ref b2_0), .val (.int (0 : Int32)), .unset] [(.ref b4)]) _
    refine XS.astore X5.here hx rfl (hb hby at_66) rfl rfl (l' := #[.val (.int p0), .val (.int p1), .val (.int p2), .val (.int p3), .val (.ref c1_0), .val (.ref b2_0), .val (.int (0 : Int32)), .val (.ref b4)]) rfl ?_
    show Sp p e below T5 (mkF m 68 #[.val (.int p0), .val (.int p1), .val (.int p2), .val (.int p3), .val (.ref c1_0), .val (.ref b2_0), .val (.int (0 : Int32)), .val (.ref b4)] []) _
    refine XS.iload X5.here hx rfl (hb hby at_68) rfl ?_
    show Sp p e below T5 (mkF m 70 #[.val (.int p0), .val (.int p1), .val (.int p2), .val (.int p3), .val (.ref c1_0), .val (.ref b2_0), .val (.int (0 : Int32)), .val (.ref b4)] [(.int (0 : Int32))]) _
    refine XS.ifYes X5.here hx rfl (pc0 := 70) (pc' := 84) rfl (hb hby at_70) rfl ((if0 _ _).trans (flt (by decide : ¬ ((0 : Int32) < (0 : Int32)))).2.2.2) (by decide) (by decide) ?_
    show Sp p e below T5 (mkF m 84 #[.val (.int p0), .val (.int p1), .val (.int p2), .val (.int p3), .val (.ref c1_0), .val (.ref b2_0), .val (.int (0 : Int32)), .val (.ref b4)] []) _
    refine XS.aload X5.here hx rfl (hb hby at_84) rfl rfl ?_
    show Sp p e below T5 (mkF m 86 #[.val (.int p0), .val (.int p1), .val (.int p2), .val (.int p3), .val (.ref c1_0), .val (.ref b2_0), .val (.int (0 : Int32)), .val (.ref b4)] [(.ref b4)]) _
    refine st6.trans ?_
    show Sp p e below T6 (mkF m 89 #[.val (.int p0), .val (.int p1), .val (.int p2), .val (.int p3), .val (.ref c1_0), .val (.ref b2_0), .val (.int (0 : Int32)), .val (.ref b4)] [(.int (0 : Int32))]) _
    refine XS.iload X6.here hx rfl (hb hby at_89) rfl ?_
    show Sp p e below T6 (mkF m 91 #[.val (.int p0), .val (.int p1), .val (.int p2), .val (.int p3), .val (.ref c1_0), .val (.ref b2_0), .val (.int (0 : Int32)), .val (.ref b4)] [(.int (0 : Int32)), (.int (0 : Int32))]) _
    refine XS.icmpNo X6.here hx rfl (hb hby at_91) rfl (teq (by decide : (0 : Int32) = (0 : Int32))).2 ?_
    show Sp p e below T6 (mkF m 94 #[.val (.int p0), .val (.int p1), .val (.int p2), .val (.int p3), .val (.ref c1_0), .val (.ref b2_0), .val (.int (0 : Int32)), .val (.ref b4)] []) _
    refine XS.aload X6.here hx rfl (hb hby at_94) rfl rfl ?_
    show Sp p e below T6 (mkF m 96 #[.val (.int p0), .val (.int p1), .val (.int p2), .val (.int p3), .val (.ref c1_0), .val (.ref b2_0), .val (.int (0 : Int32)), .val (.ref b4)] [(.ref b4)]) _
    refine st7.trans ?_
    show Sp p e below T7 (mkF m 99 #[.val (.int p0), .val (.int p1), .val (.int p2), .val (.int p3), .val (.ref c1_0), .val (.ref b2_0), .val (.int (0 : Int32)), .val (.ref b4)] [(.ref c1_0)]) _
    refine XS.aload X7.here hx rfl (hb hby at_99) rfl rfl ?_
    show Sp p e below T7 (mkF m 101 #[.val (.int p0), .val (.int p1), .val (.int p2), .val (.int p3), .val (.ref c1_0), .val (.ref b2_0), .val (.int (0 : Int32)), .val (.ref b4)] [(.ref c1_0), (.ref c1_0)]) _
    refine Jvm.RoadKit.acmp (g := (mkF m 101 #[.val (.int p0), .val (.int p1), .val (.int p2), .val (.int p3), .val (.ref c1_0), .val (.ref b2_0), .val (.int (0 : Int32)), .val (.ref b4)] [(.ref c1_0), (.ref c1_0)])) X7 hx rfl rfl rfl (pc0 := 101) (pc' := 104) (same := true) rfl (hb hby at_101) rfl (decide_eq_true rfl) (by decide) (by decide) ?_
    show Sp p e below T7 (mkF m 104 #[.val (.int p0), .val (.int p1), .val (.int p2), .val (.int p3), .val (.ref c1_0), .val (.ref b2_0), .val (.int (0 : Int32)), .val (.ref b4)] []) _
    refine XS.iconst X7.here hx rfl (hb hby at_104) ?_
    show Sp p e below T7 (mkF m 105 #[.val (.int p0), .val (.int p1), .val (.int p2), .val (.int p3), .val (.ref c1_0), .val (.ref b2_0), .val (.int (0 : Int32)), .val (.ref b4)] [(.int (1 : Int32))]) _
    refine XS.goto X7.here hx rfl (pc0 := 105) (pc' := 109) rfl (hb hby at_105) (by decide) (by decide) ?_
    show Sp p e below T7 (mkF m 109 #[.val (.int p0), .val (.int p1), .val (.int p2), .val (.int p3), .val (.ref c1_0), .val (.ref b2_0), .val (.int (0 : Int32)), .val (.ref b4)] [(.int (1 : Int32))]) _
    exact retN X7 hx (t := .boolean) Bd.returns (by simp) (hb hby at_109) hr
  · skip
    exact ⟨rfl, N7⟩
theorem d7_0 : decode prog_13_method_3_code 0 = .ok (.new 8, 3) := by decide +kernel
theorem d7_3 : decode prog_13_method_3_code 3 = .ok (.dup, 1) := by decide +kernel
theorem d7_4 : decode prog_13_method_3_code 4 = .ok (.aload_n 0, 1) := by decide +kernel
theorem d7_5 : decode prog_13_method_3_code 5 = .ok (.invokespecial 22, 3) := by decide +kernel
theorem d8_0 : decode prog_13_method_2_code 0 = .ok (.aload_n 0, 1) := by decide +kernel
theorem d8_1 : decode prog_13_method_2_code 1 = .ok (.invokespecial 1, 3) := by decide +kernel
theorem d8_4 : decode prog_13_method_2_code 4 = .ok (.aload_n 0, 1) := by decide +kernel
theorem d8_5 : decode prog_13_method_2_code 5 = .ok (.aload_n 1, 1) := by decide +kernel
theorem d8_6 : decode prog_13_method_2_code 6 = .ok (.putfield 7, 3) := by decide +kernel
theorem d8_9 : decode prog_13_method_2_code 9 = .ok (.aload_n 0, 1) := by decide +kernel
theorem d8_10 : decode prog_13_method_2_code 10 = .ok (.aconst_null, 1) := by decide +kernel
theorem d8_11 : decode prog_13_method_2_code 11 = .ok (.putfield 19, 3) := by decide +kernel
theorem d8_14 : decode prog_13_method_2_code 14 = .ok (.return_, 1) := by decide +kernel
abbrev y5 : MethodName := (⟨"com/example/epcrtools/epcrtools/exchange/SubmissionStatus", "<init>", "(Lcom/example/epcrtools/epcrtools/exchange/StatusCode;)V"⟩ : MethodName)
theorem ef_8_0 (m : MethodId) (x0 : Addr) (x1 : Addr) : entryFrame m #[(.ref x0), (.ref x1)] 2 = mkF m 0 #[.val (.ref x0), .val (.ref x1)] [] := by first | (simp [entryFrame, mkF, argsToLocals, Value.category]; done) | rfl
def Q10 (Z : State) (w_XML_INVALID : Addr) (w_STATUS_UNAVAILABLE : Addr) (w_IMPORTED : Addr) (w_IMPORTED_WITH_WARNINGS : Addr) (a1 : Addr) (a2 : Addr) (h0 : Heap) (n0 : Nat) (v : Option Value) (h : Heap) (L : List Loc) : Prop := v = none ∧ Fr n0 L ∧ Keep h0 h [a1] ∧ Exa Z h a1 "com/example/epcrtools/epcrtools/exchange/SubmissionStatus" ∧ Fld Z h a1 "com/example/epcrtools/epcrtools/exchange/SubmissionStatus" "report" "[B" .null ∧ Fld Z h a1 "com/example/epcrtools/epcrtools/exchange/SubmissionStatus" "statusCode" "Lcom/example/epcrtools/epcrtools/exchange/StatusCode;" (.ref a2)
set_option maxRecDepth 65536 in
set_option maxHeartbeats 40000000 in
theorem rm10 (l : Launch) (Z : State) (a0 : Array Value) (hw : ∀ d ∈ tables_1, d.before a0 Z = true) (ws : List Jvm.Cond) (w_XML_INVALID w_STATUS_UNAVAILABLE w_IMPORTED w_IMPORTED_WITH_WARNINGS : Addr) (hp : Perm Z w_XML_INVALID w_STATUS_UNAVAILABLE w_IMPORTED w_IMPORTED_WITH_WARNINGS) (a1 : Addr) (a2 : Addr) (h0 : Heap) (n0 : Nat) (O0 : Old Z n0 h0) (E_a1 : Exa Z h0 a1 "com/example/epcrtools/epcrtools/exchange/SubmissionStatus") (F_statusCode_a1 : Fld Z h0 a1 "com/example/epcrtools/epcrtools/exchange/SubmissionStatus" "statusCode" "Lcom/example/epcrtools/epcrtools/exchange/StatusCode;" .null) (F_report_a1 : Fld Z h0 a1 "com/example/epcrtools/epcrtools/exchange/SubmissionStatus" "report" "[B" .null) (g_a1 : n0 ≤ a1) :
    MetFree l y5 (head1 (Jvm.Cond.code y5 prog_13_method_2_code 2 none :: ws) ({ frames := 1, cells := 0, slots := 0, locals := 12 } : Room)) (fun a U => a = #[(.ref a1), (.ref a2)] ∧ Z.Warmed39 U.vm ∧ U.heap = h0) (fun _ _ _ _ _ => True) (fun _ U o U' => ∃ v L, o = .returned v ∧ Q10 Z w_XML_INVALID w_STATUS_UNAVAILABLE w_IMPORTED w_IMPORTED_WITH_WARNINGS a1 a2 h0 n0 v U'.heap L ∧ FrameEnd U o U' L ({ frames := 1, cells := 0, slots := 0, locals := 12 } : Room).cells ({ frames := 1, cells := 0, slots := 0, locals := 12 } : Room).slots) := by
  refine MetFree.of_bodySF (plainFor_of_name pn_3) hisR ?_
  intro p e s m args below meth c s₁ Bd hml0 hP hK
  obtain ⟨rfl, hZ, hh⟩ := hP
  have hx := Bd.exec
  have hby := Bd.bytes
  have hml : c.maxLocals = 2 := hml0
  have hown : s.vm.findClass "com/example/epcrtools/epcrtools/exchange/SubmissionStatus" = some m.cls := findClass_of_methodNamed Bd.named
  have hnm := (name_of_methodNamed Bd.named Bd.method).1
  have X0 : Stand p l e ({ frames := 1, cells := 0, slots := 0, locals := 12 } : Room) s m #[(.ref a1), (.ref a2)] below meth c s₁ [] 0 0 := Stand.of_body Bd
  have e0 : s₁.heap = h0 := by rw [← hh, Bd.state]; rfl
  have N0 := Fr.nil n0
  have hp' := hp
  obtain ⟨S_w_XML_INVALID, E_w_XML_INVALID, S_w_STATUS_UNAVAILABLE, E_w_STATUS_UNAVAILABLE, S_w_IMPORTED, E_w_IMPORTED, S_w_IMPORTED_WITH_WARNINGS, E_w_IMPORTED_WITH_WARNINGS⟩ := hp'
  have pre0 : ∀ t, Steps p.tables e below (s₁.setTop (mkF m 0 #[.val (.ref a1), .val (.ref a2)] [])) t → Steps p.tables e below (s₁.setTop (entryFrame m #[(.ref a1), (.ref a2)] 2)) t := fun t k => castTop (ef_8_0 m a1 a2) k
  obtain ⟨T1, X1, e1, st1⟩ := initO X0 hx hZ hown (hw _ (List.mem_of_getElem? (i := 17) rfl)) (hw _ (List.mem_of_getElem? (i := 18) rfl)) (hw _ (List.mem_of_getElem? (i := 19) rfl)) e0 (g := (mkF m 1 #[.val (.ref a1), .val (.ref a2)] [(.ref a1)])) rfl (by rw [hml]; rfl) rfl (hb hby d8_1) (by decide) (W := 0) (by show 2 * 0 + _ ≤ _; exact Nat.le_of_eq rfl) (by decide)
  obtain ⟨T2, h2, X2, e2, W2, st2⟩ := putF X1 hx hZ hown (host := "") (Or.inl (hw _ (List.mem_of_getElem? (i := 20) rfl))) Via.refl e1 F_statusCode_a1 E_a1 (Or.inr ⟨(hw _ (List.mem_of_getElem? (i := 21) rfl)), rfl, hnm⟩) (hw _ (List.mem_of_getElem? (i := 12) rfl)) (ty := (.object "com/example/epcrtools/epcrtools/exchange/StatusCode")) (by decide) rfl rfl (g := (mkF m 6 #[.val (.ref a1), .val (.ref a2)] [(.ref a2), (.ref a1)])) rfl rfl (hb hby d8_6)
  have N2 := Fr.snoc X2 N0 g_a1
  have O2 := O0.wr W2 g_a1
  have K2 : Keep h0 h2 [a1] := (Keep.refl h0 [a1]).wr W2 (Or.inl (List.mem_of_getElem? (i := 0) rfl))
  have Fw2 := F_statusCode_a1.same W2
  obtain ⟨T3, h3, X3, e3, W3, st3⟩ := putF X2 hx hZ hown (host := "") (Or.inl (hw _ (List.mem_of_getElem? (i := 31) rfl))) Via.refl e2 (F_report_a1.other W2 (Or.inr (sn0 hw))) (E_a1.wr W2) (Or.inr ⟨(hw _ (List.mem_of_getElem? (i := 32) rfl)), rfl, hnm⟩) (hw _ (List.mem_of_getElem? (i := 12) rfl)) (ty := (.array .byte)) (by decide) rfl rfl (g := (mkF m 11 #[.val (.ref a1), .val (.ref a2)] [.null, (.ref a1)])) rfl rfl (hb hby d8_11)
  have N3 := Fr.snoc X3 N2 g_a1
  have O3 := O2.wr W3 g_a1
  have K3 : Keep h0 h3 [a1] := K2.wr W3 (Or.inl (List.mem_of_getElem? (i := 0) rfl))
  have Fw3 := (F_report_a1.other W2 (Or.inr (sn0 hw))).same W3
  obtain ⟨fs, hr, hrun, hended, hW, hsame⟩ := X3.leave (v := none) (fun _ => rfl)
  refine ⟨_, _, pre0 _ ?_, hrun, hended, _, _, rfl, ?_, ⟨_, rfl⟩, hW, hsame.mono (by decide) (by decide)⟩
  · show Sp p e below s₁ (mkF m 0 #[.val (.ref a1), .val (.ref a2)] []) _
    refine XS.aloadN X0.here hx rfl (hb hby d8_0) rfl rfl ?_
    show Sp p e below s₁ (mkF m 1 #[.val (.ref a1), .val (.ref a2)] [(.ref a1)]) _
    refine st1 _ ?_
    show Sp p e below T1 (mkF m 4 #[.val (.ref a1), .val (.ref a2)] []) _
    refine XS.aloadN X1.here hx rfl (hb hby d8_4) rfl rfl ?_
    show Sp p e below T1 (mkF m 5 #[.val (.ref a1), .val (.ref a2)] [(.ref a1)]) _
    refine XS.aloadN X1.here hx rfl (hb hby d8_5) rfl rfl ?_
    show Sp p e below T1 (mkF m 6 #[.val (.ref a1), .val (.ref a2)] [(.ref a2), (.ref a1)]) _
    refine st2 _ ?_
    show Sp p e below T2 (mkF m 9 #[.val (.ref a1), .val (.ref a2)] []) _
    refine XS.aloadN X2.here hx rfl (hb hby d8_9) rfl rfl ?_
    show Sp p e below T2 (mkF m 10 #[.val (.ref a1), .val (.ref a2)] [(.ref a1)]) _
    refine XS.aconstNull X2.here hx rfl (hb hby d8_10) ?_
    show Sp p e below T2 (mkF m 11 #[.val (.ref a1), .val (.ref a2)] [.null, (.ref a1)]) _
    refine st3 _ ?_
    show Sp p e below T3 (mkF m 14 #[.val (.ref a1), .val (.ref a2)] []) _
    exact X3.returnOut hx Bd.returns (hb hby d8_14) hr
  · show Q10 Z w_XML_INVALID w_STATUS_UNAVAILABLE w_IMPORTED w_IMPORTED_WITH_WARNINGS a1 a2 h0 n0 _ T3.heap _
    rw [e3]
    exact ⟨rfl, N3, K3, ((E_a1.wr W2).wr W3), Fw3, (Fw2.other W3 (Or.inr (sn1 hw)))⟩
theorem pd_5 : parseMethodDescriptor "(Lcom/example/epcrtools/epcrtools/exchange/StatusCode;)V" = some ⟨[(.object "com/example/epcrtools/epcrtools/exchange/StatusCode")], none⟩ := by decide +kernel
theorem d7_8 : decode prog_13_method_3_code 8 = .ok (.areturn, 1) := by decide +kernel
abbrev y6 : MethodName := (⟨"com/example/epcrtools/epcrtools/exchange/SubmissionStatus", "refused", "(Lcom/example/epcrtools/epcrtools/exchange/StatusCode;)Lcom/example/epcrtools/epcrtools/exchange/SubmissionStatus;"⟩ : MethodName)
theorem ef_7_0 (m : MethodId) (x0 : Addr) : entryFrame m #[(.ref x0)] 1 = mkF m 0 #[.val (.ref x0)] [] := by first | (simp [entryFrame, mkF, argsToLocals, Value.category]; done) | rfl
def Q11 (Z : State) (w_XML_INVALID : Addr) (w_STATUS_UNAVAILABLE : Addr) (w_IMPORTED : Addr) (w_IMPORTED_WITH_WARNINGS : Addr) (a1 : Addr) (h0 : Heap) (n0 : Nat) (v : Option Value) (h : Heap) (L : List Loc) : Prop := ∃ (b1 : Addr), v = some (.ref b1) ∧ Fr n0 L ∧ Keep h0 h [] ∧ h0.size ≤ b1 ∧ Exa Z h b1 "com/example/epcrtools/epcrtools/exchange/SubmissionStatus" ∧ Fld Z h b1 "com/example/epcrtools/epcrtools/exchange/SubmissionStatus" "report" "[B" .null ∧ Fld Z h b1 "com/example/epcrtools/epcrtools/exchange/SubmissionStatus" "statusCode" "Lcom/example/epcrtools/epcrtools/exchange/StatusCode;" (.ref a1)
set_option maxRecDepth 65536 in
set_option maxHeartbeats 40000000 in
theorem rm11 (l : Launch) (Z : State) (a0 : Array Value) (hw : ∀ d ∈ tables_1, d.before a0 Z = true) (ws : List Jvm.Cond) (w_XML_INVALID w_STATUS_UNAVAILABLE w_IMPORTED w_IMPORTED_WITH_WARNINGS : Addr) (hp : Perm Z w_XML_INVALID w_STATUS_UNAVAILABLE w_IMPORTED w_IMPORTED_WITH_WARNINGS) (a1 : Addr) (h0 : Heap) (n0 : Nat) (O0 : Old Z n0 h0) :
    MetFree l y6 (head1 (Jvm.Cond.code y6 prog_13_method_3_code 1 (some (.object "com/example/epcrtools/epcrtools/exchange/SubmissionStatus")) :: ws) ({ frames := 2, cells := 1, slots := 2, locals := 26 } : Room)) (fun a U => a = #[(.ref a1)] ∧ Z.Warmed39 U.vm ∧ U.heap = h0) (fun _ _ _ _ _ => True) (fun _ U o U' => ∃ v L, o = .returned v ∧ Q11 Z w_XML_INVALID w_STATUS_UNAVAILABLE w_IMPORTED w_IMPORTED_WITH_WARNINGS a1 h0 n0 v U'.heap L ∧ FrameEnd U o U' L ({ frames := 2, cells := 1, slots := 2, locals := 26 } : Room).cells ({ frames := 2, cells := 1, slots := 2, locals := 26 } : Room).slots) := by
  refine MetFree.of_bodySF (plainFor_of_name pn_3) hisR ?_
  intro p e s m args below meth c s₁ Bd hml0 hP hK
  obtain ⟨rfl, hZ, hh⟩ := hP
  have hx := Bd.exec
  have hby := Bd.bytes
  have hml : c.maxLocals = 1 := hml0
  have hown : s.vm.findClass "com/example/epcrtools/epcrtools/exchange/SubmissionStatus" = some m.cls := findClass_of_methodNamed Bd.named
  have hnm := (name_of_methodNamed Bd.named Bd.method).1
  have X0 : Stand p l e ({ frames := 2, cells := 1, slots := 2, locals := 26 } : Room) s m #[(.ref a1)] below meth c s₁ [] 0 0 := Stand.of_body Bd
  have e0 : s₁.heap = h0 := by rw [← hh, Bd.state]; rfl
  have N0 := Fr.nil n0
  have hp' := hp
  obtain ⟨S_w_XML_INVALID, E_w_XML_INVALID, S_w_STATUS_UNAVAILABLE, E_w_STATUS_UNAVAILABLE, S_w_IMPORTED, E_w_IMPORTED, S_w_IMPORTED_WITH_WARNINGS, E_w_IMPORTED_WITH_WARNINGS⟩ := hp'
  have pre0 : ∀ t, Steps p.tables e below (s₁.setTop (mkF m 0 #[.val (.ref a1)] [])) t → Steps p.tables e below (s₁.setTop (entryFrame m #[(.ref a1)] 1)) t := fun t k => castTop (ef_7_0 m a1) k
  obtain ⟨T1, h1, X1, e1, E1, A1, D1, -, st1⟩ := newO X0 hx hZ hown (hw _ (List.mem_of_getElem? (i := 48) rfl)) (hw _ (List.mem_of_getElem? (i := 12) rfl)) (hw _ (List.mem_of_getElem? (i := 13) rfl)) e0 (g := (mkF m 0 #[.val (.ref a1)] [])) rfl (hb hby d7_0) (by decide) (by decide)
  obtain ⟨b1, g1⟩ : ∃ z, z = h0.size := ⟨_, rfl⟩
  rw [← g1] at A1 D1 st1
  have g_b1 : n0 ≤ b1 := Nat.le_trans (own_sz O0) (Nat.le_of_eq g1.symm)
  have sz_b1 : h0.size ≤ b1 := Nat.le_trans (Keep.refl h0 []).1 (Nat.le_of_eq g1.symm)
  have O1 := O0.ext E1
  have K1 : Keep h0 h1 [] := (Keep.refl h0 []).ext E1
  have F_statusCode_b1 : Fld Z h1 b1 "com/example/epcrtools/epcrtools/exchange/SubmissionStatus" "statusCode" "Lcom/example/epcrtools/epcrtools/exchange/StatusCode;" .null := D1 (Or.inr (hw _ (List.mem_of_getElem? (i := 21) rfl))) (ty := (.object "com/example/epcrtools/epcrtools/exchange/StatusCode")) (by decide)
  have F_report_b1 : Fld Z h1 b1 "com/example/epcrtools/epcrtools/exchange/SubmissionStatus" "report" "[B" .null := D1 (Or.inr (hw _ (List.mem_of_getElem? (i := 32) rfl))) (ty := (.array .byte)) (by decide)
  obtain ⟨_, _, ⟨T2, L2, k2, n2⟩, -, X2, ⟨Lc2, hQ2, l2, y2, z2⟩, st2⟩ := X1.specialBack hx (y := y5) rfl hown (mvT hZ (hw _ (List.mem_of_getElem? (i := 49) rfl))) (mvT hZ (hw _ (List.mem_of_getElem? (i := 50) rfl))) (mvT hZ (hw _ (List.mem_of_getElem? (i := 51) rfl))) (by decide) (backOf (W := 1) (rm10 l Z a0 hw [] w_XML_INVALID w_STATUS_UNAVAILABLE w_IMPORTED w_IMPORTED_WITH_WARNINGS hp b1 a1 h1 n0 O1 A1 F_statusCode_b1 F_report_b1 g_b1) hZ (hw _ (List.mem_of_getElem? (i := 51) rfl)) (hw _ (List.mem_of_getElem? (i := 13) rfl)) (by decide) (by decide)) (g := (mkF m 5 #[.val (.ref a1)] [(.ref a1), (.ref b1), (.ref b1)])) rfl (by rw [hml]; rfl) (Steps.refl _) (a := b1) (argsL := [(.ref a1)]) (rest := [(.ref b1)]) (lenOf pd_5 rfl) rfl (by show 2 * 0 + _ ≤ _; exact Nat.le_of_eq rfl) (hb hby d7_5) (fun _ _ => ⟨rfl, e1, (by decide : 1 + 0 ≤ _), (by decide : 2 + 0 ≤ _)⟩)
  dsimp only [Pt.U, Pt.locs, Pt.cells, Pt.slots] at X2 l2 y2 z2 st2 hQ2
  subst l2 y2 z2
  obtain ⟨rfl, Nq2, Kq2, fq2_0, fq2_1, fq2_2⟩ := hQ2
  have N2 := Fr.app N0 Nq2
  have O2 := O1.keep Kq2 (allS g_b1 all0)
  have K2 : Keep h0 T2.heap [] := K1.trans Kq2 (allS (Or.inr sz_b1) all0)
  obtain ⟨fs, hr, hrun, hended, hW, hsame⟩ := X2.leave (v := some (.ref b1)) (fun h => by rw [Bd.returns] at h; cases h)
  refine ⟨_, _, pre0 _ ?_, hrun, hended, _, _, rfl, ?_, ⟨_, rfl⟩, hW, hsame.mono (by decide) (by decide)⟩
  · show Sp p e below s₁ (mkF m 0 #[.val (.ref a1)] []) _
    refine st1 _ ?_
    show Sp p e below T1 (mkF m 3 #[.val (.ref a1)] [(.ref b1)]) _
    refine XS.dup X1.here hx rfl (hb hby d7_3) rfl rfl ?_
    show Sp p e below T1 (mkF m 4 #[.val (.ref a1)] [(.ref b1), (.ref b1)]) _
    refine XS.aloadN X1.here hx rfl (hb hby d7_4) rfl rfl ?_
    show Sp p e below T1 (mkF m 5 #[.val (.ref a1)] [(.ref a1), (.ref b1), (.ref b1)]) _
    refine st2.trans ?_
    show Sp p e below T2 (mkF m 8 #[.val (.ref a1)] [(.ref b1)]) _
    jvm_step X2.here [X2.here.top, hx, (hb hby d7_8), X2.method', Bd.returns, Value.isRef, FieldType.isReference]
    first | (intro acts; rw [hr _ acts rfl rfl rfl]) | rw [hr _ _ rfl rfl rfl]
    exact Steps.refl _
  · show Q11 Z w_XML_INVALID w_STATUS_UNAVAILABLE w_IMPORTED w_IMPORTED_WITH_WARNINGS a1 h0 n0 _ T2.heap _
    exact ⟨b1, rfl, N2, K2, sz_b1, fq2_0, fq2_1, fq2_2⟩
theorem pd_6 : parseMethodDescriptor "(Lcom/example/epcrtools/epcrtools/exchange/StatusCode;)Lcom/example/epcrtools/epcrtools/exchange/SubmissionStatus;" = some ⟨[(.object "com/example/epcrtools/epcrtools/exchange/StatusCode")], some (.object "com/example/epcrtools/epcrtools/exchange/SubmissionStatus")⟩ := by decide +kernel
theorem d5_7 : decode prog_13_method_6_code 7 = .ok (.iconst 0, 1) := by decide +kernel
theorem d5_8 : decode prog_13_method_6_code 8 = .ok (.goto 8, 3) := by decide +kernel
def Q12 (Z : State) (w_XML_INVALID : Addr) (w_STATUS_UNAVAILABLE : Addr) (w_IMPORTED : Addr) (w_IMPORTED_WITH_WARNINGS : Addr) (a1 : Addr) (h0 : Heap) (n0 : Nat) (v : Option Value) (h : Heap) (L : List Loc) : Prop := v = some (.int (0 : Int32)) ∧ Fr n0 L ∧ h = h0
set_option maxRecDepth 65536 in
set_option maxHeartbeats 40000000 in
theorem rm12 (l : Launch) (Z : State) (a0 : Array Value) (hw : ∀ d ∈ tables_1, d.before a0 Z = true) (ws : List Jvm.Cond) (w_XML_INVALID w_STATUS_UNAVAILABLE w_IMPORTED w_IMPORTED_WITH_WARNINGS : Addr) (hp : Perm Z w_XML_INVALID w_STATUS_UNAVAILABLE w_IMPORTED w_IMPORTED_WITH_WARNINGS) (a1 : Addr) (h0 : Heap) (n0 : Nat) (O0 : Old Z n0 h0) (F_report_a1 : Fld Z h0 a1 "com/example/epcrtools/epcrtools/exchange/SubmissionStatus" "report" "[B" .null) :
    MetFree l y3 (head1 (Jvm.Cond.code y3 prog_13_method_6_code 1 (some .int) :: ws) ({ frames := 0, cells := 0, slots := 0, locals := 0 } : Room)) (fun a U => a = #[(.ref a1)] ∧ Z.Warmed39 U.vm ∧ U.heap = h0) (fun _ _ _ _ _ => True) (fun _ U o U' => ∃ v L, o = .returned v ∧ Q12 Z w_XML_INVALID w_STATUS_UNAVAILABLE w_IMPORTED w_IMPORTED_WITH_WARNINGS a1 h0 n0 v U'.heap L ∧ FrameEnd U o U' L ({ frames := 0, cells := 0, slots := 0, locals := 0 } : Room).cells ({ frames := 0, cells := 0, slots := 0, locals := 0 } : Room).slots) := by
  refine MetFree.of_bodySF (plainFor_of_name pn_3) hisR ?_
  intro p e s m args below meth c s₁ Bd hml0 hP hK
  obtain ⟨rfl, hZ, hh⟩ := hP
  have hx := Bd.exec
  have hby := Bd.bytes
  have hml : c.maxLocals = 1 := hml0
  have hown : s.vm.findClass "com/example/epcrtools/epcrtools/exchange/SubmissionStatus" = some m.cls := findClass_of_methodNamed Bd.named
  have hnm := (name_of_methodNamed Bd.named Bd.method).1
  have X0 : Stand p l e ({ frames := 0, cells := 0, slots := 0, locals := 0 } : Room) s m #[(.ref a1)] below meth c s₁ [] 0 0 := Stand.of_body Bd
  have e0 : s₁.heap = h0 := by rw [← hh, Bd.state]; rfl
  have N0 := Fr.nil n0
  have hp' := hp
  obtain ⟨S_w_XML_INVALID, E_w_XML_INVALID, S_w_STATUS_UNAVAILABLE, E_w_STATUS_UNAVAILABLE, S_w_IMPORTED, E_w_IMPORTED, S_w_IMPORTED_WITH_WARNINGS, E_w_IMPORTED_WITH_WARNINGS⟩ := hp'
  have pre0 : ∀ t, Steps p.tables e below (s₁.setTop (mkF m 0 #[.val (.ref a1)] [])) t → Steps p.tables e below (s₁.setTop (entryFrame m #[(.ref a1)] 1)) t := fun t k => castTop (ef_5_0 m a1) k
  obtain ⟨T1, X1, e1, st1⟩ := getF X0 hx hZ hown (host := "") (Or.inl (hw _ (List.mem_of_getElem? (i := 31) rfl))) Via.refl e0 F_report_a1 (g := (mkF m 1 #[.val (.ref a1)] [(.ref a1)])) rfl rfl (hb hby d5_1)
  obtain ⟨fs, hr, hrun, hended, hW, hsame⟩ := X1.leave (v := some (.int (0 : Int32))) (fun h => by rw [Bd.returns] at h; cases h)
  refine ⟨_, _, pre0 _ ?_, hrun, hended, _, _, rfl, ?_, ⟨_, rfl⟩, hW, hsame.mono (by decide) (by decide)⟩
  · show Sp p e below s₁ (mkF m 0 #[.val (.ref a1)] []) _
    refine XS.aloadN X0.here hx rfl (hb hby d5_0) rfl rfl ?_
    show Sp p e below s₁ (mkF m 1 #[.val (.ref a1)] [(.ref a1)]) _
    refine st1 _ ?_
    show Sp p e below T1 (mkF m 4 #[.val (.ref a1)] [.null]) _
    refine XS.ifnonnullNo X1.here hx rfl (hb hby d5_4) rfl ?_
    show Sp p e below T1 (mkF m 7 #[.val (.ref a1)] []) _
    refine XS.iconst X1.here hx rfl (hb hby d5_7) ?_
    show Sp p e below T1 (mkF m 8 #[.val (.ref a1)] [(.int (0 : Int32))]) _
    refine XS.goto X1.here hx rfl (pc0 := 8) (pc' := 16) rfl (hb hby d5_8) (by decide) (by decide) ?_
    show Sp p e below T1 (mkF m 16 #[.val (.ref a1)] [(.int (0 : Int32))]) _
    exact retI X1 hx Bd.returns (hb hby d5_16) hr
  · show Q12 Z w_XML_INVALID w_STATUS_UNAVAILABLE w_IMPORTED w_IMPORTED_WITH_WARNINGS a1 h0 n0 _ T1.heap _
    rw [e1]
    exact ⟨rfl, N0, rfl⟩
set_option maxRecDepth 65536 in
set_option maxHeartbeats 40000000 in
theorem rm13 (l : Launch) (Z : State) (a0 : Array Value) (hw : ∀ d ∈ tables_1, d.before a0 Z = true) (ws : List Jvm.Cond) (w_XML_INVALID w_STATUS_UNAVAILABLE w_IMPORTED w_IMPORTED_WITH_WARNINGS : Addr) (hp : Perm Z w_XML_INVALID w_STATUS_UNAVAILABLE w_IMPORTED w_IMPORTED_WITH_WARNINGS) (p0 : Int32) (p1 : Int32) (p2 : Int32) (p3 : Int32) (h0 : Heap) (n0 : Nat) (O0 : Old Z n0 h0) (hc1 : ¬ ((p0 &&& (1 : Int32)) = (0 : Int32))) :
    MetFree l x (head1 (Jvm.Cond.code x code maxLocals ret :: ws) room_1) (fun a U => a = #[(.int p0), (.int p1), (.int p2), (.int p3)] ∧ Z.Warmed39 U.vm ∧ U.heap = h0) (fun _ _ _ _ _ => True) (fun _ U o U' => ∃ v L, o = .returned v ∧ (v = some (.int (1 : Int32)) ∧ Fr n0 L) ∧ FrameEnd U o U' L 16 896) := by
  refine MetFree.of_bodySF (plainFor_of_name pn_1) hisR ?_
  intro p e s m args below meth c s₁ Bd hml0 hP hK
  obtain ⟨rfl, hZ, hh⟩ := hP
  have hx := Bd.exec
  have hby := Bd.bytes
  have hml : c.maxLocals = 8 := hml0
  have hown : s.vm.findClass "com/example/epcrtools/epcrtools/exchange/SubmissionStatusSizePinLaw" = some m.cls := findClass_of_methodNamed Bd.named
  have hnm := (name_of_methodNamed Bd.named Bd.method).1
  have X0 : Stand p l e room_1 s m #[(.int p0), (.int p1), (.int p2), (.int p3)] below meth c s₁ [] 0 0 := Stand.of_body Bd
  have e0 : s₁.heap = h0 := by rw [← hh, Bd.state]; rfl
  have N0 := Fr.nil n0
  have hp' := hp
  obtain ⟨S_w_XML_INVALID, E_w_XML_INVALID, S_w_STATUS_UNAVAILABLE, E_w_STATUS_UNAVAILABLE, S_w_IMPORTED, E_w_IMPORTED, S_w_IMPORTED_WITH_WARNINGS, E_w_IMPORTED_WITH_WARNINGS⟩ := hp'
  have pre0 : ∀ t, Steps p.tables e below (s₁.setTop (mkF m 0 #[.val (.int p0), .val (.int p1), .val (.int p2), .val (.int p3), .unset, .unset, .unset, .unset] [])) t → Steps p.tables e below (s₁.setTop (entryFrame m #[(.int p0), (.int p1), (.int p2), (.int p3)] maxLocals)) t := fun t k => castTop (ef_0_0 m p0 p1 p2 p3) k
  obtain ⟨_, _, ⟨T1, L1, k1, n1⟩, -, X1, ⟨Lc1, hQ1, l1, y1, z1⟩, st1⟩ := Jvm.LawKit.callS X0 hx (y := y0) hown (mvT hZ (hw _ (List.mem_of_getElem? (i := 0) rfl))) (mvT hZ (hw _ (List.mem_of_getElem? (i := 1) rfl))) (mvT hZ (hw _ (List.mem_of_getElem? (i := 2) rfl))) (mvT hZ (hw _ (List.mem_of_getElem? (i := 3) rfl))) (by decide) (backOf (W := 0) (rmM1 l Z a0 hw [] w_XML_INVALID w_STATUS_UNAVAILABLE w_IMPORTED w_IMPORTED_WITH_WARNINGS hp p3 h0 n0 O0) hZ (hw _ (List.mem_of_getElem? (i := 3) rfl)) (hw _ (List.mem_of_getElem? (i := 2) rfl)) (by decide) (by decide)) (g := (mkF m 1 #[.val (.int p0), .val (.int p1), .val (.int p2), .val (.int p3), .unset, .unset, .unset, .unset] [(.int p3)])) rfl (by rw [hml]; rfl) (argsL := [(.int p3)]) (rest := []) (lenOf pd_0 rfl) rfl (by show 2 * 0 + _ ≤ _; exact Nat.le_of_eq rfl) (hb hby at_1) (fun _ _ => ⟨rfl, e0, (by decide : 0 + 0 ≤ _), (by decide : 0 + 0 ≤ _)⟩)
  dsimp only [Pt.U, Pt.locs, Pt.cells, Pt.slots] at X1 l1 y1 z1 st1 hQ1
  subst l1 y1 z1
  obtain ⟨c1_0, rfl, Nq1, eq1, oq1_0⟩ := hQ1
  have N1 := Fr.app N0 Nq1
  obtain ⟨_, _, ⟨T2, L2, k2, n2⟩, -, X2, ⟨Lc2, hQ2, l2, y2, z2⟩, st2⟩ := Jvm.LawKit.callS X1 hx (y := y6) hown (mvT hZ (hw _ (List.mem_of_getElem? (i := 45) rfl))) (mvT hZ (hw _ (List.mem_of_getElem? (i := 46) rfl))) (mvT hZ (hw _ (List.mem_of_getElem? (i := 13) rfl))) (mvT hZ (hw _ (List.mem_of_getElem? (i := 47) rfl))) (by decide) (backOf (W := 0) (rm11 l Z a0 hw [] w_XML_INVALID w_STATUS_UNAVAILABLE w_IMPORTED w_IMPORTED_WITH_WARNINGS hp c1_0 h0 n0 O0) hZ (hw _ (List.mem_of_getElem? (i := 47) rfl)) (hw _ (List.mem_of_getElem? (i := 13) rfl)) (by decide) (by decide)) (g := (mkF m 14 #[.val (.int p0), .val (.int p1), .val (.int p2), .val (.int p3), .val (.ref c1_0), .unset, .unset, .unset] [(.ref c1_0)])) rfl (by rw [hml]; rfl) (argsL := [(.ref c1_0)]) (rest := []) (lenOf pd_6 rfl) rfl (by show 2 * 0 + _ ≤ _; exact Nat.le_of_eq rfl) (hb hby at_14) (fun _ _ => ⟨rfl, eq1, (by decide : 0 + 1 ≤ _), (by decide : 0 + 2 ≤ _)⟩)
  dsimp only [Pt.U, Pt.locs, Pt.cells, Pt.slots] at X2 l2 y2 z2 st2 hQ2
  subst l2 y2 z2
  obtain ⟨b2_0, rfl, Nq2, Kq2, sq_b2_0, fq2_0, fq2_1, fq2_2⟩ := hQ2
  have N2 := Fr.app N1 Nq2
  have g_b2_0 : n0 ≤ b2_0 := Nat.le_trans (own_sz O0) sq_b2_0
  have sz_b2_0 : h0.size ≤ b2_0 := Nat.le_trans (Keep.refl h0 []).1 sq_b2_0
  have O2 := O0.keep Kq2 all0
  have K2 : Keep h0 T2.heap [] := (Keep.refl h0 []).trans Kq2 all0
  obtain ⟨cq3, kq3, q3a, q3b, q3c⟩ := isOf hZ rfl fq2_0
  obtain ⟨_, _, ⟨T3, L3, k3, n3⟩, -, X3, ⟨Lc3, hQ3, l3, y3, z3⟩, st3⟩ := X2.virtualBack hx (y := y3) (z := y3) hown (mvT hZ (hw _ (List.mem_of_getElem? (i := 33) rfl))) (mvT hZ (hw _ (List.mem_of_getElem? (i := 34) rfl))) (notFace_of_selects (args := #[]) (mvT hZ (hw _ (List.mem_of_getElem? (i := 36) rfl)))) (mvT hZ (hw _ (List.mem_of_getElem? (i := 36) rfl))) (mvT hZ (hw _ (List.mem_of_getElem? (i := 35) rfl))) (by decide) (backOf (W := 0) (rm12 l Z a0 hw [] w_XML_INVALID w_STATUS_UNAVAILABLE w_IMPORTED w_IMPORTED_WITH_WARNINGS hp b2_0 T2.heap n0 O2 fq2_1) hZ (hw _ (List.mem_of_getElem? (i := 37) rfl)) (hw _ (List.mem_of_getElem? (i := 13) rfl)) (by decide) (by decide)) q3a q3c (g := (mkF m 21 #[.val (.int p0), .val (.int p1), .val (.int p2), .val (.int p3), .val (.ref c1_0), .val (.ref b2_0), .unset, .unset] [(.ref b2_0)])) rfl (by rw [hml]; rfl) (Steps.refl _) (argsL := []) (rest := []) (lenOf pd_3 rfl) rfl (by show 2 * 0 + _ ≤ _; exact Nat.le_of_eq rfl) (hb hby at_21) (fun _ _ => ⟨rfl, rfl, (by decide : 1 + 0 ≤ _), (by decide : 2 + 0 ≤ _)⟩)
  dsimp only [Pt.U, Pt.locs, Pt.cells, Pt.slots] at X3 l3 y3 z3 st3 hQ3
  subst l3 y3 z3
  obtain ⟨rfl, Nq3, eq3⟩ := hQ3
  have N3 := Fr.app N2 Nq3
  obtain ⟨cq4, kq4, q4a, q4b, q4c⟩ := isOf hZ eq3 fq2_0
  obtain ⟨_, _, ⟨T4, L4, k4, n4⟩, -, X4, ⟨Lc4, hQ4, l4, y4, z4⟩, st4⟩ := X3.virtualBack hx (y := y4) (z := y4) hown (mvT hZ (hw _ (List.mem_of_getElem? (i := 38) rfl))) (mvT hZ (hw _ (List.mem_of_getElem? (i := 39) rfl))) (notFace_of_selects (args := #[]) (mvT hZ (hw _ (List.mem_of_getElem? (i := 41) rfl)))) (mvT hZ (hw _ (List.mem_of_getElem? (i := 41) rfl))) (mvT hZ (hw _ (List.mem_of_getElem? (i := 40) rfl))) (by decide) (backOf (W := 0) (rm8 l Z a0 hw [] w_XML_INVALID w_STATUS_UNAVAILABLE w_IMPORTED w_IMPORTED_WITH_WARNINGS hp b2_0 c1_0 T2.heap n0 O2 fq2_2) hZ (hw _ (List.mem_of_getElem? (i := 42) rfl)) (hw _ (List.mem_of_getElem? (i := 13) rfl)) (by decide) (by decide)) q4a q4c (g := (mkF m 29 #[.val (.int p0), .val (.int p1), .val (.int p2), .val (.int p3), .val (.ref c1_0), .val (.ref b2_0), .unset, .unset] [(.ref b2_0)])) rfl (by rw [hml]; rfl) (Steps.refl _) (argsL := []) (rest := []) (lenOf pd_4 rfl) rfl (by show 2 * 0 + _ ≤ _; exact Nat.le_of_eq rfl) (hb hby at_29) (fun _ _ => ⟨rfl, eq3, (by decide : 1 + 0 ≤ _), (by decide : 2 + 0 ≤ _)⟩)
  dsimp only [Pt.U, Pt.locs, Pt.cells, Pt.slots] at X4 l4 y4 z4 st4 hQ4
  subst l4 y4 z4
  obtain ⟨rfl, Nq4, eq4⟩ := hQ4
  have N4 := Fr.app N3 Nq4
  obtain ⟨fs, hr, hrun, hended, hW, hsame⟩ := X4.leave (v := some (.int (1 : Int32))) (fun h => by rw [Bd.returns] at h; cases h)
  refine ⟨_, _, pre0 _ ?_, hrun, hended, _, _, rfl, ?_, ⟨_, rfl⟩, hW, hsame.mono (by decide) (by decide)⟩
  · show Sp p e below s₁ (mkF m 0 #[.val (.int p0), .val (.int p1), .val (.int p2), .val (.int p3), .unset, .unset, .unset, .unset] []) _
    refine XS.iloadN X0.here hx rfl (hb hby at_0) rfl ?_
    show Sp p e below s₁ (mkF m 1 #[.val (.int p0), .val (.int p1), .val (.int p2), .val (.int p3), .unset, .unset, .unset, .unset] [(.int p3)]) _
    refine st1 _ ?_
    show Sp p e below T1 (mkF m 4 #[.val (.int p0), .val (.int p1), .val (.int p2), .val (.int p3), .unset, .unset, .unset, .unset] [(.ref c1_0)]) _
    refine XS.astore X1.here hx rfl (hb hby at_4) rfl rfl (l' := #[.val (.int p0), .val (.int p1), .val (.int p2), .val (.int p3), .val (.ref c1_0), .unset, .unset, .unset]) rfl ?_
    show Sp p e below T1 (mkF m 6 #[.val (.int p0), .val (.int p1), .val (.int p2), .val (.int p3), .val (.ref c1_0), .unset, .unset, .unset] []) _
    refine XS.iloadN X1.here hx rfl (hb hby at_6) rfl ?_
    show Sp p e below T1 (mkF m 7 #[.val (.int p0), .val (.int p1), .val (.int p2), .val (.int p3), .val (.ref c1_0), .unset, .unset, .unset] [(.int p0)]) _
    refine XS.iconst X1.here hx rfl (hb hby at_7) ?_
    show Sp p e below T1 (mkF m 8 #[.val (.int p0), .val (.int p1), .val (.int p2), .val (.int p3), .val (.ref c1_0), .unset, .unset, .unset] [(.int (1 : Int32)), (.int p0)]) _
    refine XS.iand X1.here hx rfl (hb hby at_8) rfl ?_
    show Sp p e below T1 (mkF m 9 #[.val (.int p0), .val (.int p1), .val (.int p2), .val (.int p3), .val (.ref c1_0), .unset, .unset, .unset] [(.int (p0 &&& (1 : Int32)))]) _
    refine XS.ifNo X1.here hx rfl (hb hby at_9) rfl ((if0 _ _).trans (feq hc1).1) ?_
    show Sp p e below T1 (mkF m 12 #[.val (.int p0), .val (.int p1), .val (.int p2), .val (.int p3), .val (.ref c1_0), .unset, .unset, .unset] []) _
    refine XS.aload X1.here hx rfl (hb hby at_12) rfl rfl ?_
    show Sp p e below T1 (mkF m 14 #[.val (.int p0), .val (.int p1), .val (.int p2), .val (.int p3), .val (.ref c1_0), .unset, .unset, .unset] [(.ref c1_0)]) _
    refine st2 _ ?_
    show Sp p e below T2 (mkF m 17 #[.val (.int p0), .val (.int p1), .val (.int p2), .val (.int p3), .val (.ref c1_0), .unset, .unset, .unset] [(.ref b2_0)]) _
    refine XS.astore X2.here hx rfl (hb hby at_17) rfl rfl (l' := #[.val (.int p0), .val (.int p1), .val (.int p2), .val (.int p3), .val (.ref c1_0), .val (.ref b2_0), .unset, .unset]) rfl ?_
    show Sp p e below T2 (mkF m 19 #[.val (.int p0), .val (.int p1), .val (.int p2), .val (.int p3), .val (.ref c1_0), .val (.ref b2_0), .unset, .unset] []) _
    refine XS.aload X2.here hx rfl (hb hby at_19) rfl rfl ?_
    show Sp p e below T2 (mkF m 21 #[.val (.int p0), .val (.int p1), .val (.int p2), .val (.int p3), .val (.ref c1_0), .val (.ref b2_0), .unset, .unset] [(.ref b2_0)]) _
    refine st3.trans ?_
    show Sp p e below T3 (mkF m 24 #[.val (.int p0), .val (.int p1), .val (.int p2), .val (.int p3), .val (.ref c1_0), .val (.ref b2_0), .unset, .unset] [(.int (0 : Int32))]) _
    refine XS.ifNo X3.here hx rfl (hb hby at_24) rfl ((if0 _ _).trans (teq (by decide : (0 : Int32) = (0 : Int32))).2) ?_
    show Sp p e below T3 (mkF m 27 #[.val (.int p0), .val (.int p1), .val (.int p2), .val (.int p3), .val (.ref c1_0), .val (.ref b2_0), .unset, .unset] []) _
    refine XS.aload X3.here hx rfl (hb hby at_27) rfl rfl ?_
    show Sp p e below T3 (mkF m 29 #[.val (.int p0), .val (.int p1), .val (.int p2), .val (.int p3), .val (.ref c1_0), .val (.ref b2_0), .unset, .unset] [(.ref b2_0)]) _
    refine st4.trans ?_
    show Sp p e below T4 (mkF m 32 #[.val (.int p0), .val (.int p1), .val (.int p2), .val (.int p3), .val (.ref c1_0), .val (.ref b2_0), .unset, .unset] [(.ref c1_0)]) _
    refine XS.aload X4.here hx rfl (hb hby at_32) rfl rfl ?_
    show Sp p e below T4 (mkF m 34 #[.val (.int p0), .val (.int p1), .val (.int p2), .val (.int p3), .val (.ref c1_0), .val (.ref b2_0), .unset, .unset] [(.ref c1_0), (.ref c1_0)]) _
    refine Jvm.RoadKit.acmp (g := (mkF m 34 #[.val (.int p0), .val (.int p1), .val (.int p2), .val (.int p3), .val (.ref c1_0), .val (.ref b2_0), .unset, .unset] [(.ref c1_0), (.ref c1_0)])) X4 hx rfl rfl rfl (pc0 := 34) (pc' := 37) (same := true) rfl (hb hby at_34) rfl (decide_eq_true rfl) (by decide) (by decide) ?_
    show Sp p e below T4 (mkF m 37 #[.val (.int p0), .val (.int p1), .val (.int p2), .val (.int p3), .val (.ref c1_0), .val (.ref b2_0), .unset, .unset] []) _
    refine XS.iconst X4.here hx rfl (hb hby at_37) ?_
    show Sp p e below T4 (mkF m 38 #[.val (.int p0), .val (.int p1), .val (.int p2), .val (.int p3), .val (.ref c1_0), .val (.ref b2_0), .unset, .unset] [(.int (1 : Int32))]) _
    refine XS.goto X4.here hx rfl (pc0 := 38) (pc' := 42) rfl (hb hby at_38) (by decide) (by decide) ?_
    show Sp p e below T4 (mkF m 42 #[.val (.int p0), .val (.int p1), .val (.int p2), .val (.int p3), .val (.ref c1_0), .val (.ref b2_0), .unset, .unset] [(.int (1 : Int32))]) _
    exact retN X4 hx (t := .boolean) Bd.returns (by simp) (hb hby at_42) hr
  · skip
    exact ⟨rfl, N4⟩
theorem d2_37 : decode method_3_code 37 = .ok (.iload_n 2, 1) := by decide +kernel
theorem d2_38 : decode method_3_code 38 = .ok (.iconst 1, 1) := by decide +kernel
theorem d2_39 : decode method_3_code 39 = .ok (.if_icmp .ne 11, 3) := by decide +kernel
theorem d2_42 : decode method_3_code 42 = .ok (.iconst 1, 1) := by decide +kernel
theorem d2_43 : decode method_3_code 43 = .ok (.newarray .byte, 2) := by decide +kernel
theorem d2_45 : decode method_3_code 45 = .ok (.dup, 1) := by decide +kernel
theorem d2_46 : decode method_3_code 46 = .ok (.iconst 0, 1) := by decide +kernel
theorem d2_47 : decode method_3_code 47 = .ok (.iload_n 3, 1) := by decide +kernel
theorem d2_48 : decode method_3_code 48 = .ok (.bastore, 1) := by decide +kernel
theorem d2_49 : decode method_3_code 49 = .ok (.areturn, 1) := by decide +kernel
def Q14 (Z : State) (w_XML_INVALID : Addr) (w_STATUS_UNAVAILABLE : Addr) (w_IMPORTED : Addr) (w_IMPORTED_WITH_WARNINGS : Addr) (p1 : Int32) (p2 : Int32) (h0 : Heap) (n0 : Nat) (v : Option Value) (h : Heap) (L : List Loc) : Prop := ∃ (b1 : Addr), ∃ (k1 : ClassId), v = some (.ref b1) ∧ Fr n0 L ∧ Keep h0 h [] ∧ h0.size ≤ b1 ∧ Exa Z h b1 "[B" ∧ Arv Z h b1 k1 .byte (1 : Int32) [(.int (nar .byte (p2.toInt8.toInt32)))] (.int (0 : Int32))
set_option maxRecDepth 65536 in
set_option maxHeartbeats 40000000 in
theorem rm14 (l : Launch) (Z : State) (a0 : Array Value) (hw : ∀ d ∈ tables_1, d.before a0 Z = true) (ws : List Jvm.Cond) (w_XML_INVALID w_STATUS_UNAVAILABLE w_IMPORTED w_IMPORTED_WITH_WARNINGS : Addr) (hp : Perm Z w_XML_INVALID w_STATUS_UNAVAILABLE w_IMPORTED w_IMPORTED_WITH_WARNINGS) (p1 : Int32) (p2 : Int32) (h0 : Heap) (n0 : Nat) (O0 : Old Z n0 h0) (hc1 : ¬ ((p1 &&& (7 : Int32)) = (0 : Int32))) (hc2 : (p1 &&& (7 : Int32)) = (1 : Int32)) :
    MetFree l y1 (head1 (Jvm.Cond.code y1 method_3_code 7 (some (.array .byte)) :: ws) ({ frames := 0, cells := 1, slots := 1, locals := 0 } : Room)) (fun a U => a = #[(.int p1), (.int p2)] ∧ Z.Warmed39 U.vm ∧ U.heap = h0) (fun _ _ _ _ _ => True) (fun _ U o U' => ∃ v L, o = .returned v ∧ Q14 Z w_XML_INVALID w_STATUS_UNAVAILABLE w_IMPORTED w_IMPORTED_WITH_WARNINGS p1 p2 h0 n0 v U'.heap L ∧ FrameEnd U o U' L ({ frames := 0, cells := 1, slots := 1, locals := 0 } : Room).cells ({ frames := 0, cells := 1, slots := 1, locals := 0 } : Room).slots) := by
  refine MetFree.of_bodySF (plainFor_of_name pn_1) hisR ?_
  intro p e s m args below meth c s₁ Bd hml0 hP hK
  obtain ⟨rfl, hZ, hh⟩ := hP
  have hx := Bd.exec
  have hby := Bd.bytes
  have hml : c.maxLocals = 7 := hml0
  have hown : s.vm.findClass "com/example/epcrtools/epcrtools/exchange/SubmissionStatusSizePinLaw" = some m.cls := findClass_of_methodNamed Bd.named
  have hnm := (name_of_methodNamed Bd.named Bd.method).1
  have X0 : Stand p l e ({ frames := 0, cells := 1, slots := 1, locals := 0 } : Room) s m #[(.int p1), (.int p2)] below meth c s₁ [] 0 0 := Stand.of_body Bd
  have e0 : s₁.heap = h0 := by rw [← hh, Bd.state]; rfl
  have N0 := Fr.nil n0
  have hp' := hp
  obtain ⟨S_w_XML_INVALID, E_w_XML_INVALID, S_w_STATUS_UNAVAILABLE, E_w_STATUS_UNAVAILABLE, S_w_IMPORTED, E_w_IMPORTED, S_w_IMPORTED_WITH_WARNINGS, E_w_IMPORTED_WITH_WARNINGS⟩ := hp'
  have pre0 : ∀ t, Steps p.tables e below (s₁.setTop (mkF m 0 #[.val (.int p1), .val (.int p2), .unset, .unset, .unset, .unset, .unset] [])) t → Steps p.tables e below (s₁.setTop (entryFrame m #[(.int p1), (.int p2)] 7)) t := fun t k => castTop (ef_2_0 m p1 p2) k
  obtain ⟨T1, h1, k1, X1, e1, E1, A1, EA1, st1⟩ := newPE X0 hx hZ (hw _ (List.mem_of_getElem? (i := 10) rfl)) e0 (g := (mkF m 43 #[.val (.int p1), .val (.int p2), .val (.int (p1 &&& (7 : Int32))), .val (.int (p2.toInt8.toInt32)), .val (.int (((p2.toUInt32 >>> ((8 : Int32) &&& 31).toUInt32).toInt32).toInt8.toInt32)), .val (.int (((p2.toUInt32 >>> ((16 : Int32) &&& 31).toUInt32).toInt32).toInt8.toInt32)), .val (.int (((p2.toUInt32 >>> ((24 : Int32) &&& 31).toUInt32).toInt32).toInt8.toInt32))] [(.int (1 : Int32))])) rfl (hb hby d2_43) rfl (by decide) (cap := 1) (by decide) (by decide) (by decide) (by decide) (ad := "[B") (by decide)
  obtain ⟨b1, g1⟩ : ∃ z, z = h0.size := ⟨_, rfl⟩
  rw [← g1] at A1 EA1 st1
  have g_b1 : n0 ≤ b1 := Nat.le_trans (own_sz O0) (Nat.le_of_eq g1.symm)
  have sz_b1 : h0.size ≤ b1 := Nat.le_trans (Keep.refl h0 []).1 (Nat.le_of_eq g1.symm)
  have O1 := O0.ext E1
  have K1 : Keep h0 h1 [] := (Keep.refl h0 []).ext E1
  have V_b1 : Arv Z h1 b1 k1 .byte (1 : Int32) [(.int (0 : Int32))] (.int (0 : Int32)) := (Arv.new A1 (by decide)).pad (pad_rep [] (.int (0 : Int32)) 1)
  obtain ⟨cl2, Ar2, q2, S2, Nn2, H2, G2⟩ := id V_b1
  have hin2 : ¬ ((0 : Int32) < 0 ∨ cl2.slots.size ≤ ((0 : Int32)).toNatClampNeg) := inb_of S2 ⟨by decide, by decide⟩
  obtain ⟨T3, h3, X3, e3, W3, st3⟩ := stB X1 hx hZ e1 Ar2 (j := (0 : Int32)) hin2 (g := (mkF m 48 #[.val (.int p1), .val (.int p2), .val (.int (p1 &&& (7 : Int32))), .val (.int (p2.toInt8.toInt32)), .val (.int (((p2.toUInt32 >>> ((8 : Int32) &&& 31).toUInt32).toInt32).toInt8.toInt32)), .val (.int (((p2.toUInt32 >>> ((16 : Int32) &&& 31).toUInt32).toInt32).toInt8.toInt32)), .val (.int (((p2.toUInt32 >>> ((24 : Int32) &&& 31).toUInt32).toInt32).toInt8.toInt32))] [(.int (p2.toInt8.toInt32)), (.int (0 : Int32)), (.ref b1), (.ref b1)])) rfl rfl (hb hby d2_48)
  have N3 := Fr.snoc X3 N0 g_b1
  have O3 := O1.wr W3 g_b1
  have K3 : Keep h0 h3 [] := K1.wr W3 (Or.inr sz_b1)
  have V_b1_3 : Arv Z h3 b1 k1 .byte (1 : Int32) [(.int (nar .byte (p2.toInt8.toInt32)))] (.int (0 : Int32)) := Arv.set Ar2 q2 S2 Nn2 H2 G2 (fits_nar_byte _) W3 0 rfl (Nat.le_of_ble_eq_true rfl)
  obtain ⟨fs, hr, hrun, hended, hW, hsame⟩ := X3.leave (v := some (.ref b1)) (fun h => by rw [Bd.returns] at h; cases h)
  refine ⟨_, _, pre0 _ ?_, hrun, hended, _, _, rfl, ?_, ⟨_, rfl⟩, hW, hsame.mono (by decide) (by decide)⟩
  · show Sp p e below s₁ (mkF m 0 #[.val (.int p1), .val (.int p2), .unset, .unset, .unset, .unset, .unset] []) _
    refine XS.iloadN X0.here hx rfl (hb hby d2_0) rfl ?_
    show Sp p e below s₁ (mkF m 1 #[.val (.int p1), .val (.int p2), .unset, .unset, .unset, .unset, .unset] [(.int p1)]) _
    refine XS.bipush X0.here hx rfl (hb hby d2_1) ?_
    show Sp p e below s₁ (mkF m 3 #[.val (.int p1), .val (.int p2), .unset, .unset, .unset, .unset, .unset] [(.int (7 : Int32)), (.int p1)]) _
    refine XS.iand X0.here hx rfl (hb hby d2_3) rfl ?_
    show Sp p e below s₁ (mkF m 4 #[.val (.int p1), .val (.int p2), .unset, .unset, .unset, .unset, .unset] [(.int (p1 &&& (7 : Int32)))]) _
    refine XS.istoreN X0.here hx rfl (hb hby d2_4) rfl (l' := #[.val (.int p1), .val (.int p2), .val (.int (p1 &&& (7 : Int32))), .unset, .unset, .unset, .unset]) rfl ?_
    show Sp p e below s₁ (mkF m 5 #[.val (.int p1), .val (.int p2), .val (.int (p1 &&& (7 : Int32))), .unset, .unset, .unset, .unset] []) _
    refine XS.iloadN X0.here hx rfl (hb hby d2_5) rfl ?_
    show Sp p e below s₁ (mkF m 6 #[.val (.int p1), .val (.int p2), .val (.int (p1 &&& (7 : Int32))), .unset, .unset, .unset, .unset] [(.int p2)]) _
    refine XS.i2b X0.here hx rfl (hb hby d2_6) rfl ?_
    show Sp p e below s₁ (mkF m 7 #[.val (.int p1), .val (.int p2), .val (.int (p1 &&& (7 : Int32))), .unset, .unset, .unset, .unset] [(.int (p2.toInt8.toInt32))]) _
    refine XS.istoreN X0.here hx rfl (hb hby d2_7) rfl (l' := #[.val (.int p1), .val (.int p2), .val (.int (p1 &&& (7 : Int32))), .val (.int (p2.toInt8.toInt32)), .unset, .unset, .unset]) rfl ?_
    show Sp p e below s₁ (mkF m 8 #[.val (.int p1), .val (.int p2), .val (.int (p1 &&& (7 : Int32))), .val (.int (p2.toInt8.toInt32)), .unset, .unset, .unset] []) _
    refine XS.iloadN X0.here hx rfl (hb hby d2_8) rfl ?_
    show Sp p e below s₁ (mkF m 9 #[.val (.int p1), .val (.int p2), .val (.int (p1 &&& (7 : Int32))), .val (.int (p2.toInt8.toInt32)), .unset, .unset, .unset] [(.int p2)]) _
    refine XS.bipush X0.here hx rfl (hb hby d2_9) ?_
    show Sp p e below s₁ (mkF m 11 #[.val (.int p1), .val (.int p2), .val (.int (p1 &&& (7 : Int32))), .val (.int (p2.toInt8.toInt32)), .unset, .unset, .unset] [(.int (8 : Int32)), (.int p2)]) _
    refine XS.iushr X0.here hx rfl (hb hby d2_11) rfl ?_
    show Sp p e below s₁ (mkF m 12 #[.val (.int p1), .val (.int p2), .val (.int (p1 &&& (7 : Int32))), .val (.int (p2.toInt8.toInt32)), .unset, .unset, .unset] [(.int ((p2.toUInt32 >>> ((8 : Int32) &&& 31).toUInt32).toInt32))]) _
    refine XS.i2b X0.here hx rfl (hb hby d2_12) rfl ?_
    show Sp p e below s₁ (mkF m 13 #[.val (.int p1), .val (.int p2), .val (.int (p1 &&& (7 : Int32))), .val (.int (p2.toInt8.toInt32)), .unset, .unset, .unset] [(.int (((p2.toUInt32 >>> ((8 : Int32) &&& 31).toUInt32).toInt32).toInt8.toInt32))]) _
    refine XS.istore X0.here hx rfl (hb hby d2_13) rfl (l' := #[.val (.int p1), .val (.int p2), .val (.int (p1 &&& (7 : Int32))), .val (.int (p2.toInt8.toInt32)), .val (.int (((p2.toUInt32 >>> ((8 : Int32) &&& 31).toUInt32).toInt32).toInt8.toInt32)), .unset, .unset]) rfl ?_
    show Sp p e below s₁ (mkF m 15 #[.val (.int p1), .val (.int p2), .val (.int (p1 &&& (7 : Int32))), .val (.int (p2.toInt8.toInt32)), .val (.int (((p2.toUInt32 >>> ((8 : Int32) &&& 31).toUInt32).toInt32).toInt8.toInt32)), .unset, .unset] []) _
    refine XS.iloadN X0.here hx rfl (hb hby d2_15) rfl ?_
    show Sp p e below s₁ (mkF m 16 #[.val (.int p1), .val (.int p2), .val (.int (p1 &&& (7 : Int32))), .val (.int (p2.toInt8.toInt32)), .val (.int (((p2.toUInt32 >>> ((8 : Int32) &&& 31).toUInt32).toInt32).toInt8.toInt32)), .unset, .unset] [(.int p2)]) _
    refine XS.bipush X0.here hx rfl (hb hby d2_16) ?_
    show Sp p e below s₁ (mkF m 18 #[.val (.int p1), .val (.int p2), .val (.int (p1 &&& (7 : Int32))), .val (.int (p2.toInt8.toInt32)), .val (.int (((p2.toUInt32 >>> ((8 : Int32) &&& 31).toUInt32).toInt32).toInt8.toInt32)), .unset, .unset] [(.int (16 : Int32)), (.int p2)]) _
    refine XS.iushr X0.here hx rfl (hb hby d2_18) rfl ?_
    show Sp p e below s₁ (mkF m 19 #[.val (.int p1), .val (.int p2), .val (.int (p1 &&& (7 : Int32))), .val (.int (p2.toInt8.toInt32)), .val (.int (((p2.toUInt32 >>> ((8 : Int32) &&& 31).toUInt32).toInt32).toInt8.toInt32)), .unset, .unset] [(.int ((p2.toUInt32 >>> ((16 : Int32) &&& 31).toUInt32).toInt32))]) _
    refine XS.i2b X0.here hx rfl (hb hby d2_19) rfl ?_
    show Sp p e below s₁ (mkF m 20 #[.val (.int p1), .val (.int p2), .val (.int (p1 &&& (7 : Int32))), .val (.int (p2.toInt8.toInt32)), .val (.int (((p2.toUInt32 >>> ((8 : Int32) &&& 31).toUInt32).toInt32).toInt8.toInt32)), .unset, .unset] [(.int (((p2.toUInt32 >>> ((16 : Int32) &&& 31).toUInt32).toInt32).toInt8.toInt32))]) _
    refine XS.istore X0.here hx rfl (hb hby d2_20) rfl (l' := #[.val (.int p1), .val (.int p2), .val (.int (p1 &&& (7 : Int32))), .val (.int (p2.toInt8.toInt32)), .val (.int (((p2.toUInt32 >>> ((8 : Int32) &&& 31).toUInt32).toInt32).toInt8.toInt32)), .val (.int (((p2.toUInt32 >>> ((16 : Int32) &&& 31).toUInt32).toInt32).toInt8.toInt32)), .unset]) rfl ?_
    show Sp p e below s₁ (mkF m 22 #[.val (.int p1), .val (.int p2), .val (.int (p1 &&& (7 : Int32))), .val (.int (p2.toInt8.toInt32)), .val (.int (((p2.toUInt32 >>> ((8 : Int32) &&& 31).toUInt32).toInt32).toInt8.toInt32)), .val (.int (((p2.toUInt32 >>> ((16 : Int32) &&& 31).toUInt32).toInt32).toInt8.toInt32)), .unset] []) _
    refine XS.iloadN X0.here hx rfl (hb hby d2_22) rfl ?_
    show Sp p e below s₁ (mkF m 23 #[.val (.int p1), .val (.int p2), .val (.int (p1 &&& (7 : Int32))), .val (.int (p2.toInt8.toInt32)), .val (.int (((p2.toUInt32 >>> ((8 : Int32) &&& 31).toUInt32).toInt32).toInt8.toInt32)), .val (.int (((p2.toUInt32 >>> ((16 : Int32) &&& 31).toUInt32).toInt32).toInt8.toInt32)), .unset] [(.int p2)]) _
    refine XS.bipush X0.here hx rfl (hb hby d2_23) ?_
    show Sp p e below s₁ (mkF m 25 #[.val (.int p1), .val (.int p2), .val (.int (p1 &&& (7 : Int32))), .val (.int (p2.toInt8.toInt32)), .val (.int (((p2.toUInt32 >>> ((8 : Int32) &&& 31).toUInt32).toInt32).toInt8.toInt32)), .val (.int (((p2.toUInt32 >>> ((16 : Int32) &&& 31).toUInt32).toInt32).toInt8.toInt32)), .unset] [(.int (24 : Int32)), (.int p2)]) _
    refine XS.iushr X0.here hx rfl (hb hby d2_25) rfl ?_
    show Sp p e below s₁ (mkF m 26 #[.val (.int p1), .val (.int p2), .val (.int (p1 &&& (7 : Int32))), .val (.int (p2.toInt8.toInt32)), .val (.int (((p2.toUInt32 >>> ((8 : Int32) &&& 31).toUInt32).toInt32).toInt8.toInt32)), .val (.int (((p2.toUInt32 >>> ((16 : Int32) &&& 31).toUInt32).toInt32).toInt8.toInt32)), .unset] [(.int ((p2.toUInt32 >>> ((24 : Int32) &&& 31).toUInt32).toInt32))]) _
    refine XS.i2b X0.here hx rfl (hb hby d2_26) rfl ?_
    show Sp p e below s₁ (mkF m 27 #[.val (.int p1), .val (.int p2), .val (.int (p1 &&& (7 : Int32))), .val (.int (p2.toInt8.toInt32)), .val (.int (((p2.toUInt32 >>> ((8 : Int32) &&& 31).toUInt32).toInt32).toInt8.toInt32)), .val (.int (((p2.toUInt32 >>> ((16 : Int32) &&& 31).toUInt32).toInt32).toInt8.toInt32)), .unset] [(.int (((p2.toUInt32 >>> ((24 : Int32) &&& 31).toUInt32).toInt32).toInt8.toInt32))]) _
    refine XS.istore X0.here hx rfl (hb hby d2_27) rfl (l' := #[.val (.int p1), .val (.int p2), .val (.int (p1 &&& (7 : Int32))), .val (.int (p2.toInt8.toInt32)), .val (.int (((p2.toUInt32 >>> ((8 : Int32) &&& 31).toUInt32).toInt32).toInt8.toInt32)), .val (.int (((p2.toUInt32 >>> ((16 : Int32) &&& 31).toUInt32).toInt32).toInt8.toInt32)), .val (.int (((p2.toUInt32 >>> ((24 : Int32) &&& 31).toUInt32).toInt32).toInt8.toInt32))]) rfl ?_
    show Sp p e below s₁ (mkF m 29 #[.val (.int p1), .val (.int p2), .val (.int (p1 &&& (7 : Int32))), .val (.int (p2.toInt8.toInt32)), .val (.int (((p2.toUInt32 >>> ((8 : Int32) &&& 31).toUInt32).toInt32).toInt8.toInt32)), .val (.int (((p2.toUInt32 >>> ((16 : Int32) &&& 31).toUInt32).toInt32).toInt8.toInt32)), .val (.int (((p2.toUInt32 >>> ((24 : Int32) &&& 31).toUInt32).toInt32).toInt8.toInt32))] []) _
    refine XS.iloadN X0.here hx rfl (hb hby d2_29) rfl ?_
    show Sp p e below s₁ (mkF m 30 #[.val (.int p1), .val (.int p2), .val (.int (p1 &&& (7 : Int32))), .val (.int (p2.toInt8.toInt32)), .val (.int (((p2.toUInt32 >>> ((8 : Int32) &&& 31).toUInt32).toInt32).toInt8.toInt32)), .val (.int (((p2.toUInt32 >>> ((16 : Int32) &&& 31).toUInt32).toInt32).toInt8.toInt32)), .val (.int (((p2.toUInt32 >>> ((24 : Int32) &&& 31).toUInt32).toInt32).toInt8.toInt32))] [(.int (p1 &&& (7 : Int32)))]) _
    refine XS.ifYes X0.here hx rfl (pc0 := 30) (pc' := 37) rfl (hb hby d2_30) rfl ((if0 _ _).trans (feq hc1).2) (by decide) (by decide) ?_
    show Sp p e below s₁ (mkF m 37 #[.val (.int p1), .val (.int p2), .val (.int (p1 &&& (7 : Int32))), .val (.int (p2.toInt8.toInt32)), .val (.int (((p2.toUInt32 >>> ((8 : Int32) &&& 31).toUInt32).toInt32).toInt8.toInt32)), .val (.int (((p2.toUInt32 >>> ((16 : Int32) &&& 31).toUInt32).toInt32).toInt8.toInt32)), .val (.int (((p2.toUInt32 >>> ((24 : Int32) &&& 31).toUInt32).toInt32).toInt8.toInt32))] []) _
    refine XS.iloadN X0.here hx rfl (hb hby d2_37) rfl ?_
    show Sp p e below s₁ (mkF m 38 #[.val (.int p1), .val (.int p2), .val (.int (p1 &&& (7 : Int32))), .val (.int (p2.toInt8.toInt32)), .val (.int (((p2.toUInt32 >>> ((8 : Int32) &&& 31).toUInt32).toInt32).toInt8.toInt32)), .val (.int (((p2.toUInt32 >>> ((16 : Int32) &&& 31).toUInt32).toInt32).toInt8.toInt32)), .val (.int (((p2.toUInt32 >>> ((24 : Int32) &&& 31).toUInt32).toInt32).toInt8.toInt32))] [(.int (p1 &&& (7 : Int32)))]) _
    refine XS.iconst X0.here hx rfl (hb hby d2_38) ?_
    show Sp p e below s₁ (mkF m 39 #[.val (.int p1), .val (.int p2), .val (.int (p1 &&& (7 : Int32))), .val (.int (p2.toInt8.toInt32)), .val (.int (((p2.toUInt32 >>> ((8 : Int32) &&& 31).toUInt32).toInt32).toInt8.toInt32)), .val (.int (((p2.toUInt32 >>> ((16 : Int32) &&& 31).toUInt32).toInt32).toInt8.toInt32)), .val (.int (((p2.toUInt32 >>> ((24 : Int32) &&& 31).toUInt32).toInt32).toInt8.toInt32))] [(.int (1 : Int32)), (.int (p1 &&& (7 : Int32)))]) _
    refine XS.icmpNo X0.here hx rfl (hb hby d2_39) rfl (teq hc2).2 ?_
    show Sp p e below s₁ (mkF m 42 #[.val (.int p1), .val (.int p2), .val (.int (p1 &&& (7 : Int32))), .val (.int (p2.toInt8.toInt32)), .val (.int (((p2.toUInt32 >>> ((8 : Int32) &&& 31).toUInt32).toInt32).toInt8.toInt32)), .val (.int (((p2.toUInt32 >>> ((16 : Int32) &&& 31).toUInt32).toInt32).toInt8.toInt32)), .val (.int (((p2.toUInt32 >>> ((24 : Int32) &&& 31).toUInt32).toInt32).toInt8.toInt32))] []) _
    refine XS.iconst X0.here hx rfl (hb hby d2_42) ?_
    show Sp p e below s₁ (mkF m 43 #[.val (.int p1), .val (.int p2), .val (.int (p1 &&& (7 : Int32))), .val (.int (p2.toInt8.toInt32)), .val (.int (((p2.toUInt32 >>> ((8 : Int32) &&& 31).toUInt32).toInt32).toInt8.toInt32)), .val (.int (((p2.toUInt32 >>> ((16 : Int32) &&& 31).toUInt32).toInt32).toInt8.toInt32)), .val (.int (((p2.toUInt32 >>> ((24 : Int32) &&& 31).toUInt32).toInt32).toInt8.toInt32))] [(.int (1 : Int32))]) _
    refine st1 _ ?_
    show Sp p e below T1 (mkF m 45 #[.val (.int p1), .val (.int p2), .val (.int (p1 &&& (7 : Int32))), .val (.int (p2.toInt8.toInt32)), .val (.int (((p2.toUInt32 >>> ((8 : Int32) &&& 31).toUInt32).toInt32).toInt8.toInt32)), .val (.int (((p2.toUInt32 >>> ((16 : Int32) &&& 31).toUInt32).toInt32).toInt8.toInt32)), .val (.int (((p2.toUInt32 >>> ((24 : Int32) &&& 31).toUInt32).toInt32).toInt8.toInt32))] [(.ref b1)]) _
    refine XS.dup X1.here hx rfl (hb hby d2_45) rfl rfl ?_
    show Sp p e below T1 (mkF m 46 #[.val (.int p1), .val (.int p2), .val (.int (p1 &&& (7 : Int32))), .val (.int (p2.toInt8.toInt32)), .val (.int (((p2.toUInt32 >>> ((8 : Int32) &&& 31).toUInt32).toInt32).toInt8.toInt32)), .val (.int (((p2.toUInt32 >>> ((16 : Int32) &&& 31).toUInt32).toInt32).toInt8.toInt32)), .val (.int (((p2.toUInt32 >>> ((24 : Int32) &&& 31).toUInt32).toInt32).toInt8.toInt32))] [(.ref b1), (.ref b1)]) _
    refine XS.iconst X1.here hx rfl (hb hby d2_46) ?_
    show Sp p e below T1 (mkF m 47 #[.val (.int p1), .val (.int p2), .val (.int (p1 &&& (7 : Int32))), .val (.int (p2.toInt8.toInt32)), .val (.int (((p2.toUInt32 >>> ((8 : Int32) &&& 31).toUInt32).toInt32).toInt8.toInt32)), .val (.int (((p2.toUInt32 >>> ((16 : Int32) &&& 31).toUInt32).toInt32).toInt8.toInt32)), .val (.int (((p2.toUInt32 >>> ((24 : Int32) &&& 31).toUInt32).toInt32).toInt8.toInt32))] [(.int (0 : Int32)), (.ref b1), (.ref b1)]) _
    refine XS.iloadN X1.here hx rfl (hb hby d2_47) rfl ?_
    show Sp p e below T1 (mkF m 48 #[.val (.int p1), .val (.int p2), .val (.int (p1 &&& (7 : Int32))), .val (.int (p2.toInt8.toInt32)), .val (.int (((p2.toUInt32 >>> ((8 : Int32) &&& 31).toUInt32).toInt32).toInt8.toInt32)), .val (.int (((p2.toUInt32 >>> ((16 : Int32) &&& 31).toUInt32).toInt32).toInt8.toInt32)), .val (.int (((p2.toUInt32 >>> ((24 : Int32) &&& 31).toUInt32).toInt32).toInt8.toInt32))] [(.int (p2.toInt8.toInt32)), (.int (0 : Int32)), (.ref b1), (.ref b1)]) _
    refine st3 _ ?_
    show Sp p e below T3 (mkF m 49 #[.val (.int p1), .val (.int p2), .val (.int (p1 &&& (7 : Int32))), .val (.int (p2.toInt8.toInt32)), .val (.int (((p2.toUInt32 >>> ((8 : Int32) &&& 31).toUInt32).toInt32).toInt8.toInt32)), .val (.int (((p2.toUInt32 >>> ((16 : Int32) &&& 31).toUInt32).toInt32).toInt8.toInt32)), .val (.int (((p2.toUInt32 >>> ((24 : Int32) &&& 31).toUInt32).toInt32).toInt8.toInt32))] [(.ref b1)]) _
    jvm_step X3.here [X3.here.top, hx, (hb hby d2_49), X3.method', Bd.returns, Value.isRef, FieldType.isReference]
    first | (intro acts; rw [hr _ acts rfl rfl rfl]) | rw [hr _ _ rfl rfl rfl]
    exact Steps.refl _
  · show Q14 Z w_XML_INVALID w_STATUS_UNAVAILABLE w_IMPORTED w_IMPORTED_WITH_WARNINGS p1 p2 h0 n0 _ T3.heap _
    rw [e3]
    exact ⟨b1, k1, rfl, N3, K3, sz_b1, (EA1.wr W3), V_b1_3⟩
def Q15 (Z : State) (w_XML_INVALID : Addr) (w_STATUS_UNAVAILABLE : Addr) (w_IMPORTED : Addr) (w_IMPORTED_WITH_WARNINGS : Addr) (a1 : Addr) (a2 : Addr) (a3 : Addr) (k_a3 : ClassId) (p5 : Int32) (h0 : Heap) (n0 : Nat) (v : Option Value) (h : Heap) (L : List Loc) : Prop := ∃ (b3 : Addr), v = none ∧ Fr n0 L ∧ Keep h0 h [a1] ∧ h0.size ≤ b3 ∧ Exa Z h a1 "com/example/epcrtools/epcrtools/exchange/SubmissionStatus" ∧ Fld Z h a1 "com/example/epcrtools/epcrtools/exchange/SubmissionStatus" "report" "[B" (.ref b3) ∧ Fld Z h a1 "com/example/epcrtools/epcrtools/exchange/SubmissionStatus" "statusCode" "Lcom/example/epcrtools/epcrtools/exchange/StatusCode;" (.ref a2) ∧ Exa Z h b3 "[B" ∧ Arv Z h b3 k_a3 .byte (1 : Int32) [(.int p5)] (.int (0 : Int32))
set_option maxRecDepth 65536 in
set_option maxHeartbeats 40000000 in
theorem rm15 (l : Launch) (Z : State) (a0 : Array Value) (hw : ∀ d ∈ tables_1, d.before a0 Z = true) (ws : List Jvm.Cond) (w_XML_INVALID w_STATUS_UNAVAILABLE w_IMPORTED w_IMPORTED_WITH_WARNINGS : Addr) (hp : Perm Z w_XML_INVALID w_STATUS_UNAVAILABLE w_IMPORTED w_IMPORTED_WITH_WARNINGS) (a1 : Addr) (a2 : Addr) (a3 : Addr) (k_a3 : ClassId) (p5 : Int32) (h0 : Heap) (n0 : Nat) (O0 : Old Z n0 h0) (E_a1 : Exa Z h0 a1 "com/example/epcrtools/epcrtools/exchange/SubmissionStatus") (F_statusCode_a1 : Fld Z h0 a1 "com/example/epcrtools/epcrtools/exchange/SubmissionStatus" "statusCode" "Lcom/example/epcrtools/epcrtools/exchange/StatusCode;" .null) (F_report_a1 : Fld Z h0 a1 "com/example/epcrtools/epcrtools/exchange/SubmissionStatus" "report" "[B" .null) (g_a1 : n0 ≤ a1) (V_a3 : Arv Z h0 a3 k_a3 .byte (1 : Int32) [(.int p5)] (.int (0 : Int32))) (ne_a1_a3 : a1 ≠ a3) (E_a3 : Exa Z h0 a3 "[B") :
    MetFree l y2 (head1 (Jvm.Cond.code y2 prog_13_method_1_code 3 none :: ws) ({ frames := 1, cells := 1, slots := 1, locals := 15 } : Room)) (fun a U => a = #[(.ref a1), (.ref a2), (.ref a3)] ∧ Z.Warmed39 U.vm ∧ U.heap = h0) (fun _ _ _ _ _ => True) (fun _ U o U' => ∃ v L, o = .returned v ∧ Q15 Z w_XML_INVALID w_STATUS_UNAVAILABLE w_IMPORTED w_IMPORTED_WITH_WARNINGS a1 a2 a3 k_a3 p5 h0 n0 v U'.heap L ∧ FrameEnd U o U' L ({ frames := 1, cells := 1, slots := 1, locals := 15 } : Room).cells ({ frames := 1, cells := 1, slots := 1, locals := 15 } : Room).slots) := by
  refine MetFree.of_bodySF (plainFor_of_name pn_3) hisR ?_
  intro p e s m args below meth c s₁ Bd hml0 hP hK
  obtain ⟨rfl, hZ, hh⟩ := hP
  have hx := Bd.exec
  have hby := Bd.bytes
  have hml : c.maxLocals = 3 := hml0
  have hown : s.vm.findClass "com/example/epcrtools/epcrtools/exchange/SubmissionStatus" = some m.cls := findClass_of_methodNamed Bd.named
  have hnm := (name_of_methodNamed Bd.named Bd.method).1
  have X0 : Stand p l e ({ frames := 1, cells := 1, slots := 1, locals := 15 } : Room) s m #[(.ref a1), (.ref a2), (.ref a3)] below meth c s₁ [] 0 0 := Stand.of_body Bd
  have e0 : s₁.heap = h0 := by rw [← hh, Bd.state]; rfl
  have N0 := Fr.nil n0
  have hp' := hp
  obtain ⟨S_w_XML_INVALID, E_w_XML_INVALID, S_w_STATUS_UNAVAILABLE, E_w_STATUS_UNAVAILABLE, S_w_IMPORTED, E_w_IMPORTED, S_w_IMPORTED_WITH_WARNINGS, E_w_IMPORTED_WITH_WARNINGS⟩ := hp'
  have pre0 : ∀ t, Steps p.tables e below (s₁.setTop (mkF m 0 #[.val (.ref a1), .val (.ref a2), .val (.ref a3)] [])) t → Steps p.tables e below (s₁.setTop (entryFrame m #[(.ref a1), (.ref a2), (.ref a3)] 3)) t := fun t k => castTop (ef_3_0 m a1 a2 a3) k
  obtain ⟨T1, X1, e1, st1⟩ := initO X0 hx hZ hown (hw _ (List.mem_of_getElem? (i := 17) rfl)) (hw _ (List.mem_of_getElem? (i := 18) rfl)) (hw _ (List.mem_of_getElem? (i := 19) rfl)) e0 (g := (mkF m 1 #[.val (.ref a1), .val (.ref a2), .val (.ref a3)] [(.ref a1)])) rfl (by rw [hml]; rfl) rfl (hb hby d3_1) (by decide) (W := 0) (by show 2 * 0 + _ ≤ _; exact Nat.le_of_eq rfl) (by decide)
  obtain ⟨T2, h2, X2, e2, W2, st2⟩ := putF X1 hx hZ hown (host := "") (Or.inl (hw _ (List.mem_of_getElem? (i := 20) rfl))) Via.refl e1 F_statusCode_a1 E_a1 (Or.inr ⟨(hw _ (List.mem_of_getElem? (i := 21) rfl)), rfl, hnm⟩) (hw _ (List.mem_of_getElem? (i := 12) rfl)) (ty := (.object "com/example/epcrtools/epcrtools/exchange/StatusCode")) (by decide) rfl rfl (g := (mkF m 6 #[.val (.ref a1), .val (.ref a2), .val (.ref a3)] [(.ref a2), (.ref a1)])) rfl rfl (hb hby d3_6)
  have N2 := Fr.snoc X2 N0 g_a1
  have O2 := O0.wr W2 g_a1
  have K2 : Keep h0 h2 [a1] := (Keep.refl h0 [a1]).wr W2 (Or.inl (List.mem_of_getElem? (i := 0) rfl))
  have Fw2 := F_statusCode_a1.same W2
  obtain ⟨T3, h3, X3, e3, E3, A3, EA3, st3⟩ := cloneH X2 hx hZ hown (hw _ (List.mem_of_getElem? (i := 22) rfl)) (hw _ (List.mem_of_getElem? (i := 23) rfl)) (hw _ (List.mem_of_getElem? (i := 27) rfl)) (hw _ (List.mem_of_getElem? (i := 25) rfl)) (hw _ (List.mem_of_getElem? (i := 26) rfl)) (hw _ (List.mem_of_getElem? (i := 28) rfl)) e2 (Arv.arh (V_a3.other W2 (Ne.symm ne_a1_a3))) (E_a3.wr W2) (g := (mkF m 11 #[.val (.ref a1), .val (.ref a2), .val (.ref a3)] [(.ref a3), (.ref a1)])) rfl (by rw [hml]; rfl) rfl (hb hby d3_11) (by decide) (W := 1) (cap := 1) (by show 2 * 0 + _ ≤ _; exact Nat.le_of_eq rfl) (by decide) (by decide) (by decide) (by decide)
  obtain ⟨b3, g3⟩ : ∃ z, z = h2.size := ⟨_, rfl⟩
  rw [← g3] at A3 EA3 st3
  have g_b3 : n0 ≤ b3 := Nat.le_trans (own_sz O2) (Nat.le_of_eq g3.symm)
  have sz_b3 : h0.size ≤ b3 := Nat.le_trans K2.1 (Nat.le_of_eq g3.symm)
  have O3 := O2.ext E3
  have K3 : Keep h0 h3 [a1] := K2.ext E3
  have V_b3 : Arv Z h3 b3 k_a3 .byte (1 : Int32) [(.int p5)] (.int (0 : Int32)) := A3
  obtain ⟨T4, X4, e4, st4⟩ := castY X3 hx hZ hown (hw _ (List.mem_of_getElem? (i := 29) rfl)) e3 (Ins.self EA3) (g := (mkF m 14 #[.val (.ref a1), .val (.ref a2), .val (.ref a3)] [(.ref b3), (.ref a1)])) rfl rfl (hb hby d3_14)
  obtain ⟨T5, h5, X5, e5, W5, st5⟩ := putF X4 hx hZ hown (host := "") (Or.inl (hw _ (List.mem_of_getElem? (i := 31) rfl))) Via.refl e4 ((F_report_a1.other W2 (Or.inr (sn0 hw))).ext E3) ((E_a1.wr W2).ext E3) (Or.inr ⟨(hw _ (List.mem_of_getElem? (i := 32) rfl)), rfl, hnm⟩) (hw _ (List.mem_of_getElem? (i := 12) rfl)) (ty := (.array .byte)) (by decide) rfl rfl (g := (mkF m 17 #[.val (.ref a1), .val (.ref a2), .val (.ref a3)] [(.ref b3), (.ref a1)])) rfl rfl (hb hby d3_17)
  have N5 := Fr.snoc X5 N2 g_a1
  have O5 := O3.wr W5 g_a1
  have K5 : Keep h0 h5 [a1] := K3.wr W5 (Or.inl (List.mem_of_getElem? (i := 0) rfl))
  have Fw5 := ((F_report_a1.other W2 (Or.inr (sn0 hw))).ext E3).same W5
  have f_6 := (V_b3.other W5 (Ne.symm (Nat.ne_of_lt (Nat.lt_of_lt_of_le E_a1.lt sz_b3))))
  obtain ⟨fs, hr, hrun, hended, hW, hsame⟩ := X5.leave (v := none) (fun _ => rfl)
  refine ⟨_, _, pre0 _ ?_, hrun, hended, _, _, rfl, ?_, ⟨_, rfl⟩, hW, hsame.mono (by decide) (by decide)⟩
  · show Sp p e below s₁ (mkF m 0 #[.val (.ref a1), .val (.ref a2), .val (.ref a3)] []) _
    refine XS.aloadN X0.here hx rfl (hb hby d3_0) rfl rfl ?_
    show Sp p e below s₁ (mkF m 1 #[.val (.ref a1), .val (.ref a2), .val (.ref a3)] [(.ref a1)]) _
    refine st1 _ ?_
    show Sp p e below T1 (mkF m 4 #[.val (.ref a1), .val (.ref a2), .val (.ref a3)] []) _
    refine XS.aloadN X1.here hx rfl (hb hby d3_4) rfl rfl ?_
    show Sp p e below T1 (mkF m 5 #[.val (.ref a1), .val (.ref a2), .val (.ref a3)] [(.ref a1)]) _
    refine XS.aloadN X1.here hx rfl (hb hby d3_5) rfl rfl ?_
    show Sp p e below T1 (mkF m 6 #[.val (.ref a1), .val (.ref a2), .val (.ref a3)] [(.ref a2), (.ref a1)]) _
    refine st2 _ ?_
    show Sp p e below T2 (mkF m 9 #[.val (.ref a1), .val (.ref a2), .val (.ref a3)] []) _
    refine XS.aloadN X2.here hx rfl (hb hby d3_9) rfl rfl ?_
    show Sp p e below T2 (mkF m 10 #[.val (.ref a1), .val (.ref a2), .val (.ref a3)] [(.ref a1)]) _
    refine XS.aloadN X2.here hx rfl (hb hby d3_10) rfl rfl ?_
    show Sp p e below T2 (mkF m 11 #[.val (.ref a1), .val (.ref a2), .val (.ref a3)] [(.ref a3), (.ref a1)]) _
    refine st3 _ ?_
    show Sp p e below T3 (mkF m 14 #[.val (.ref a1), .val (.ref a2), .val (.ref a3)] [(.ref b3), (.ref a1)]) _
    refine st4 _ ?_
    show Sp p e below T4 (mkF m 17 #[.val (.ref a1), .val (.ref a2), .val (.ref a3)] [(.ref b3), (.ref a1)]) _
    refine st5 _ ?_
    show Sp p e below T5 (mkF m 20 #[.val (.ref a1), .val (.ref a2), .val (.ref a3)] []) _
    exact X5.returnOut hx Bd.returns (hb hby d3_20) hr
  · show Q15 Z w_XML_INVALID w_STATUS_UNAVAILABLE w_IMPORTED w_IMPORTED_WITH_WARNINGS a1 a2 a3 k_a3 p5 h0 n0 _ T5.heap _
    rw [e5]
    exact ⟨b3, rfl, N5, K5, sz_b3, (((E_a1.wr W2).ext E3).wr W5), Fw5, ((Fw2.ext E3).other W5 (Or.inr (sn1 hw))), (EA3.wr W5), f_6⟩
def Q16 (Z : State) (w_XML_INVALID : Addr) (w_STATUS_UNAVAILABLE : Addr) (w_IMPORTED : Addr) (w_IMPORTED_WITH_WARNINGS : Addr) (a1 : Addr) (a2 : Addr) (k_a2 : ClassId) (p4 : Int32) (h0 : Heap) (n0 : Nat) (v : Option Value) (h : Heap) (L : List Loc) : Prop := v = some (.int (1 : Int32)) ∧ Fr n0 L ∧ h = h0
set_option maxRecDepth 65536 in
set_option maxHeartbeats 40000000 in
theorem rm16 (l : Launch) (Z : State) (a0 : Array Value) (hw : ∀ d ∈ tables_1, d.before a0 Z = true) (ws : List Jvm.Cond) (w_XML_INVALID w_STATUS_UNAVAILABLE w_IMPORTED w_IMPORTED_WITH_WARNINGS : Addr) (hp : Perm Z w_XML_INVALID w_STATUS_UNAVAILABLE w_IMPORTED w_IMPORTED_WITH_WARNINGS) (a1 : Addr) (a2 : Addr) (k_a2 : ClassId) (p4 : Int32) (h0 : Heap) (n0 : Nat) (O0 : Old Z n0 h0) (F_report_a1 : Fld Z h0 a1 "com/example/epcrtools/epcrtools/exchange/SubmissionStatus" "report" "[B" (.ref a2)) (V_a2 : Arv Z h0 a2 k_a2 .byte (1 : Int32) [(.int p4)] (.int (0 : Int32))) :
    MetFree l y3 (head1 (Jvm.Cond.code y3 prog_13_method_6_code 1 (some .int) :: ws) ({ frames := 0, cells := 0, slots := 0, locals := 0 } : Room)) (fun a U => a = #[(.ref a1)] ∧ Z.Warmed39 U.vm ∧ U.heap = h0) (fun _ _ _ _ _ => True) (fun _ U o U' => ∃ v L, o = .returned v ∧ Q16 Z w_XML_INVALID w_STATUS_UNAVAILABLE w_IMPORTED w_IMPORTED_WITH_WARNINGS a1 a2 k_a2 p4 h0 n0 v U'.heap L ∧ FrameEnd U o U' L ({ frames := 0, cells := 0, slots := 0, locals := 0 } : Room).cells ({ frames := 0, cells := 0, slots := 0, locals := 0 } : Room).slots) := by
  refine MetFree.of_bodySF (plainFor_of_name pn_3) hisR ?_
  intro p e s m args below meth c s₁ Bd hml0 hP hK
  obtain ⟨rfl, hZ, hh⟩ := hP
  have hx := Bd.exec
  have hby := Bd.bytes
  have hml : c.maxLocals = 1 := hml0
  have hown : s.vm.findClass "com/example/epcrtools/epcrtools/exchange/SubmissionStatus" = some m.cls := findClass_of_methodNamed Bd.named
  have hnm := (name_of_methodNamed Bd.named Bd.method).1
  have X0 : Stand p l e ({ frames := 0, cells := 0, slots := 0, locals := 0 } : Room) s m #[(.ref a1)] below meth c s₁ [] 0 0 := Stand.of_body Bd
  have e0 : s₁.heap = h0 := by rw [← hh, Bd.state]; rfl
  have N0 := Fr.nil n0
  have hp' := hp
  obtain ⟨S_w_XML_INVALID, E_w_XML_INVALID, S_w_STATUS_UNAVAILABLE, E_w_STATUS_UNAVAILABLE, S_w_IMPORTED, E_w_IMPORTED, S_w_IMPORTED_WITH_WARNINGS, E_w_IMPORTED_WITH_WARNINGS⟩ := hp'
  have pre0 : ∀ t, Steps p.tables e below (s₁.setTop (mkF m 0 #[.val (.ref a1)] [])) t → Steps p.tables e below (s₁.setTop (entryFrame m #[(.ref a1)] 1)) t := fun t k => castTop (ef_5_0 m a1) k
  obtain ⟨T1, X1, e1, st1⟩ := getF X0 hx hZ hown (host := "") (Or.inl (hw _ (List.mem_of_getElem? (i := 31) rfl))) Via.refl e0 F_report_a1 (g := (mkF m 1 #[.val (.ref a1)] [(.ref a1)])) rfl rfl (hb hby d5_1)
  obtain ⟨T2, X2, e2, st2⟩ := getF X1 hx hZ hown (host := "") (Or.inl (hw _ (List.mem_of_getElem? (i := 31) rfl))) Via.refl e1 F_report_a1 (g := (mkF m 12 #[.val (.ref a1)] [(.ref a1)])) rfl rfl (hb hby d5_12)
  obtain ⟨cl3, Ar3, -, S3, Nn3, -, -⟩ := id V_a2
  obtain ⟨fs, hr, hrun, hended, hW, hsame⟩ := X2.leave (v := some (.int (1 : Int32))) (fun h => by rw [Bd.returns] at h; cases h)
  refine ⟨_, _, pre0 _ ?_, hrun, hended, _, _, rfl, ?_, ⟨_, rfl⟩, hW, hsame.mono (by decide) (by decide)⟩
  · show Sp p e below s₁ (mkF m 0 #[.val (.ref a1)] []) _
    refine XS.aloadN X0.here hx rfl (hb hby d5_0) rfl rfl ?_
    show Sp p e below s₁ (mkF m 1 #[.val (.ref a1)] [(.ref a1)]) _
    refine st1 _ ?_
    show Sp p e below T1 (mkF m 4 #[.val (.ref a1)] [(.ref a2)]) _
    refine XS.ifnonnullYes X1.here hx rfl (pc0 := 4) (pc' := 11) rfl (hb hby d5_4) rfl (by decide) (by decide) ?_
    show Sp p e below T1 (mkF m 11 #[.val (.ref a1)] []) _
    refine XS.aloadN X1.here hx rfl (hb hby d5_11) rfl rfl ?_
    show Sp p e below T1 (mkF m 12 #[.val (.ref a1)] [(.ref a1)]) _
    refine st2 _ ?_
    show Sp p e below T2 (mkF m 15 #[.val (.ref a1)] [(.ref a2)]) _
    refine X2.arraylength hx (by rw [e2]; exact Ar3.1) (State.isArrayOf_alike hZ.alike Ar3.2.1) (g := (mkF m 15 #[.val (.ref a1)] [(.ref a2)])) rfl rfl (hb hby d5_15) _ ?_
    rw [len_of S3 Nn3]
    show Sp p e below T2 (mkF m 16 #[.val (.ref a1)] [(.int (1 : Int32))]) _
    exact retI X2 hx Bd.returns (hb hby d5_16) hr
  · show Q16 Z w_XML_INVALID w_STATUS_UNAVAILABLE w_IMPORTED w_IMPORTED_WITH_WARNINGS a1 a2 k_a2 p4 h0 n0 _ T2.heap _
    rw [e2]
    exact ⟨rfl, N0, rfl⟩
set_option maxRecDepth 65536 in
set_option maxHeartbeats 40000000 in
theorem rm17 (l : Launch) (Z : State) (a0 : Array Value) (hw : ∀ d ∈ tables_1, d.before a0 Z = true) (ws : List Jvm.Cond) (w_XML_INVALID w_STATUS_UNAVAILABLE w_IMPORTED w_IMPORTED_WITH_WARNINGS : Addr) (hp : Perm Z w_XML_INVALID w_STATUS_UNAVAILABLE w_IMPORTED w_IMPORTED_WITH_WARNINGS) (p0 : Int32) (p1 : Int32) (p2 : Int32) (p3 : Int32) (h0 : Heap) (n0 : Nat) (O0 : Old Z n0 h0) (hc1 : (p0 &&& (1 : Int32)) = (0 : Int32)) (hc2 : ¬ ((p1 &&& (7 : Int32)) = (0 : Int32))) (hc3 : (p1 &&& (7 : Int32)) = (1 : Int32)) :
    MetFree l x (head1 (Jvm.Cond.code x code maxLocals ret :: ws) room_1) (fun a U => a = #[(.int p0), (.int p1), (.int p2), (.int p3)] ∧ Z.Warmed39 U.vm ∧ U.heap = h0) (fun _ _ _ _ _ => True) (fun _ U o U' => ∃ v L, o = .returned v ∧ (v = some (.int (1 : Int32)) ∧ Fr n0 L) ∧ FrameEnd U o U' L 16 896) := by
  refine MetFree.of_bodySF (plainFor_of_name pn_1) hisR ?_
  intro p e s m args below meth c s₁ Bd hml0 hP hK
  obtain ⟨rfl, hZ, hh⟩ := hP
  have hx := Bd.exec
  have hby := Bd.bytes
  have hml : c.maxLocals = 8 := hml0
  have hown : s.vm.findClass "com/example/epcrtools/epcrtools/exchange/SubmissionStatusSizePinLaw" = some m.cls := findClass_of_methodNamed Bd.named
  have hnm := (name_of_methodNamed Bd.named Bd.method).1
  have X0 : Stand p l e room_1 s m #[(.int p0), (.int p1), (.int p2), (.int p3)] below meth c s₁ [] 0 0 := Stand.of_body Bd
  have e0 : s₁.heap = h0 := by rw [← hh, Bd.state]; rfl
  have N0 := Fr.nil n0
  have hp' := hp
  obtain ⟨S_w_XML_INVALID, E_w_XML_INVALID, S_w_STATUS_UNAVAILABLE, E_w_STATUS_UNAVAILABLE, S_w_IMPORTED, E_w_IMPORTED, S_w_IMPORTED_WITH_WARNINGS, E_w_IMPORTED_WITH_WARNINGS⟩ := hp'
  have pre0 : ∀ t, Steps p.tables e below (s₁.setTop (mkF m 0 #[.val (.int p0), .val (.int p1), .val (.int p2), .val (.int p3), .unset, .unset, .unset, .unset] [])) t → Steps p.tables e below (s₁.setTop (entryFrame m #[(.int p0), (.int p1), (.int p2), (.int p3)] maxLocals)) t := fun t k => castTop (ef_0_0 m p0 p1 p2 p3) k
  obtain ⟨_, _, ⟨T1, L1, k1, n1⟩, -, X1, ⟨Lc1, hQ1, l1, y1, z1⟩, st1⟩ := Jvm.LawKit.callS X0 hx (y := y0) hown (mvT hZ (hw _ (List.mem_of_getElem? (i := 0) rfl))) (mvT hZ (hw _ (List.mem_of_getElem? (i := 1) rfl))) (mvT hZ (hw _ (List.mem_of_getElem? (i := 2) rfl))) (mvT hZ (hw _ (List.mem_of_getElem? (i := 3) rfl))) (by decide) (backOf (W := 0) (rmM1 l Z a0 hw [] w_XML_INVALID w_STATUS_UNAVAILABLE w_IMPORTED w_IMPORTED_WITH_WARNINGS hp p3 h0 n0 O0) hZ (hw _ (List.mem_of_getElem? (i := 3) rfl)) (hw _ (List.mem_of_getElem? (i := 2) rfl)) (by decide) (by decide)) (g := (mkF m 1 #[.val (.int p0), .val (.int p1), .val (.int p2), .val (.int p3), .unset, .unset, .unset, .unset] [(.int p3)])) rfl (by rw [hml]; rfl) (argsL := [(.int p3)]) (rest := []) (lenOf pd_0 rfl) rfl (by show 2 * 0 + _ ≤ _; exact Nat.le_of_eq rfl) (hb hby at_1) (fun _ _ => ⟨rfl, e0, (by decide : 0 + 0 ≤ _), (by decide : 0 + 0 ≤ _)⟩)
  dsimp only [Pt.U, Pt.locs, Pt.cells, Pt.slots] at X1 l1 y1 z1 st1 hQ1
  subst l1 y1 z1
  obtain ⟨c1_0, rfl, Nq1, eq1, oq1_0⟩ := hQ1
  have N1 := Fr.app N0 Nq1
  obtain ⟨_, _, ⟨T2, L2, k2, n2⟩, -, X2, ⟨Lc2, hQ2, l2, y2, z2⟩, st2⟩ := Jvm.LawKit.callS X1 hx (y := y1) hown (mvT hZ (hw _ (List.mem_of_getElem? (i := 7) rfl))) (mvT hZ (hw _ (List.mem_of_getElem? (i := 8) rfl))) (mvT hZ (hw _ (List.mem_of_getElem? (i := 2) rfl))) (mvT hZ (hw _ (List.mem_of_getElem? (i := 9) rfl))) (by decide) (backOf (W := 0) (rm14 l Z a0 hw [] w_XML_INVALID w_STATUS_UNAVAILABLE w_IMPORTED w_IMPORTED_WITH_WARNINGS hp p1 p2 h0 n0 O0 hc2 hc3) hZ (hw _ (List.mem_of_getElem? (i := 9) rfl)) (hw _ (List.mem_of_getElem? (i := 2) rfl)) (by decide) (by decide)) (g := (mkF m 45 #[.val (.int p0), .val (.int p1), .val (.int p2), .val (.int p3), .val (.ref c1_0), .unset, .unset, .unset] [(.int p2), (.int p1)])) rfl (by rw [hml]; rfl) (argsL := [(.int p1), (.int p2)]) (rest := []) (lenOf pd_1 rfl) rfl (by show 2 * 0 + _ ≤ _; exact Nat.le_of_eq rfl) (hb hby at_45) (fun _ _ => ⟨rfl, eq1, (by decide : 0 + 1 ≤ _), (by decide : 0 + 1 ≤ _)⟩)
  dsimp only [Pt.U, Pt.locs, Pt.cells, Pt.slots] at X2 l2 y2 z2 st2 hQ2
  subst l2 y2 z2
  obtain ⟨b2_0, kc2_0, rfl, Nq2, Kq2, sq_b2_0, fq2_0, fq2_1⟩ := hQ2
  have N2 := Fr.app N1 Nq2
  have g_b2_0 : n0 ≤ b2_0 := Nat.le_trans (own_sz O0) sq_b2_0
  have sz_b2_0 : h0.size ≤ b2_0 := Nat.le_trans (Keep.refl h0 []).1 sq_b2_0
  have O2 := O0.keep Kq2 all0
  have K2 : Keep h0 T2.heap [] := (Keep.refl h0 []).trans Kq2 all0
  obtain ⟨cl3, Ar3, -, S3, Nn3, -, -⟩ := id fq2_1
  obtain ⟨T4, h4, X4, e4, E4, A4, D4, -, st4⟩ := newO X2 hx hZ hown (hw _ (List.mem_of_getElem? (i := 11) rfl)) (hw _ (List.mem_of_getElem? (i := 12) rfl)) (hw _ (List.mem_of_getElem? (i := 13) rfl)) rfl (g := (mkF m 55 #[.val (.int p0), .val (.int p1), .val (.int p2), .val (.int p3), .val (.ref c1_0), .val (.ref b2_0), .val (.int (1 : Int32)), .unset] [])) rfl (hb hby at_55) (by decide) (by decide)
  obtain ⟨b4, g4⟩ : ∃ z, z = T2.heap.size := ⟨_, rfl⟩
  rw [← g4] at A4 D4 st4
  have g_b4 : n0 ≤ b4 := Nat.le_trans (own_sz O2) (Nat.le_of_eq g4.symm)
  have sz_b4 : h0.size ≤ b4 := Nat.le_trans K2.1 (Nat.le_of_eq g4.symm)
  have O4 := O2.ext E4
  have K4 : Keep h0 h4 [] := K2.ext E4
  have F_statusCode_b4 : Fld Z h4 b4 "com/example/epcrtools/epcrtools/exchange/SubmissionStatus" "statusCode" "Lcom/example/epcrtools/epcrtools/exchange/StatusCode;" .null := D4 (Or.inr (hw _ (List.mem_of_getElem? (i := 21) rfl))) (ty := (.object "com/example/epcrtools/epcrtools/exchange/StatusCode")) (by decide)
  have F_report_b4 : Fld Z h4 b4 "com/example/epcrtools/epcrtools/exchange/SubmissionStatus" "report" "[B" .null := D4 (Or.inr (hw _ (List.mem_of_getElem? (i := 32) rfl))) (ty := (.array .byte)) (by decide)
  obtain ⟨_, _, ⟨T5, L5, k5, n5⟩, -, X5, ⟨Lc5, hQ5, l5, y5, z5⟩, st5⟩ := X4.specialBack hx (y := y2) rfl hown (mvT hZ (hw _ (List.mem_of_getElem? (i := 14) rfl))) (mvT hZ (hw _ (List.mem_of_getElem? (i := 15) rfl))) (mvT hZ (hw _ (List.mem_of_getElem? (i := 16) rfl))) (by decide) (backOf (W := 1) (rm15 l Z a0 hw [] w_XML_INVALID w_STATUS_UNAVAILABLE w_IMPORTED w_IMPORTED_WITH_WARNINGS hp b4 c1_0 b2_0 kc2_0 (nar .byte (p2.toInt8.toInt32)) h4 n0 O4 A4 F_statusCode_b4 F_report_b4 g_b4 (fq2_1.ext E4) (Ne.symm (Nat.ne_of_lt (Nat.lt_of_lt_of_le fq2_0.lt (Nat.le_of_eq g4.symm)))) (fq2_0.ext E4)) hZ (hw _ (List.mem_of_getElem? (i := 16) rfl)) (hw _ (List.mem_of_getElem? (i := 13) rfl)) (by decide) (by decide)) (g := (mkF m 63 #[.val (.int p0), .val (.int p1), .val (.int p2), .val (.int p3), .val (.ref c1_0), .val (.ref b2_0), .val (.int (1 : Int32)), .unset] [(.ref b2_0), (.ref c1_0), (.ref b4), (.ref b4)])) rfl (by rw [hml]; rfl) (Steps.refl _) (a := b4) (argsL := [(.ref c1_0), (.ref b2_0)]) (rest := [(.ref b4)]) (lenOf pd_2 rfl) rfl (by show 2 * 0 + _ ≤ _; exact Nat.le_of_eq rfl) (hb hby at_63) (fun _ _ => ⟨rfl, e4, (by decide : 2 + 1 ≤ _), (by decide : 3 + 1 ≤ _)⟩)
  dsimp only [Pt.U, Pt.locs, Pt.cells, Pt.slots] at X5 l5 y5 z5 st5 hQ5
  subst l5 y5 z5
  obtain ⟨b5_0, rfl, Nq5, Kq5, sq_b5_0, fq5_0, fq5_1, fq5_2, fq5_3, fq5_4⟩ := hQ5
  have N5 := Fr.app N2 Nq5
  have g_b5_0 : n0 ≤ b5_0 := Nat.le_trans (own_sz O4) sq_b5_0
  have sz_b5_0 : h0.size ≤ b5_0 := Nat.le_trans K4.1 sq_b5_0
  have O5 := O4.keep Kq5 (allS g_b4 all0)
  have K5 : Keep h0 T5.heap [] := K4.trans Kq5 (allS (Or.inr sz_b4) all0)
  have f_6 := ((fq2_1.ext E4).keep Kq5 (ninS (Nat.ne_of_lt (Nat.lt_of_lt_of_le fq2_0.lt (Nat.le_of_eq g4.symm))) nin0))
  obtain ⟨cl7, Ar7, -, S7, -, H7, -⟩ := id f_6
  have hin7 : ¬ ((0 : Int32) < 0 ∨ cl7.slots.size ≤ ((0 : Int32)).toNatClampNeg) := inb_of S7 ⟨by decide, by decide⟩
  have hat7 : cl7.slots[((0 : Int32)).toNatClampNeg]? = some (.int (nar .byte (p2.toInt8.toInt32))) := H7.at hin7 rfl
  obtain ⟨cl8, Ar8, q8, S8, Nn8, H8, G8⟩ := id f_6
  have hin8 : ¬ ((0 : Int32) < 0 ∨ cl8.slots.size ≤ ((0 : Int32)).toNatClampNeg) := inb_of S8 ⟨by decide, by decide⟩
  obtain ⟨T9, h9, X9, e9, W9, st9⟩ := stB X5 hx hZ rfl Ar8 (j := (0 : Int32)) hin8 (g := (mkF m 83 #[.val (.int p0), .val (.int p1), .val (.int p2), .val (.int p3), .val (.ref c1_0), .val (.ref b2_0), .val (.int (1 : Int32)), .val (.ref b4)] [(.int (((nar .byte (p2.toInt8.toInt32)) + (1 : Int32)).toInt8.toInt32)), (.int (0 : Int32)), (.ref b2_0)])) rfl rfl (hb hby at_83)
  have N9 := Fr.snoc X9 N5 g_b2_0
  have O9 := O5.wr W9 g_b2_0
  have K9 : Keep h0 h9 [] := K5.wr W9 (Or.inr sz_b2_0)
  have V_b2_0_9 : Arv Z h9 b2_0 kc2_0 .byte (1 : Int32) [(.int (nar .byte (((nar .byte (p2.toInt8.toInt32)) + (1 : Int32)).toInt8.toInt32)))] (.int (0 : Int32)) := Arv.set Ar8 q8 S8 Nn8 H8 G8 (fits_nar_byte _) W9 0 rfl (Nat.le_of_ble_eq_true rfl)
  have f_10 := (fq5_1.other W9 (Or.inl (Ne.symm (Nat.ne_of_lt (Nat.lt_of_lt_of_le fq2_0.lt (Nat.le_of_eq g4.symm))))))
  have f_11 := (fq5_4.other W9 (Ne.symm (Nat.ne_of_lt (Nat.lt_of_lt_of_le (fq2_0.ext E4).lt sq_b5_0))))
  obtain ⟨cq12, kq12, q12a, q12b, q12c⟩ := isOf hZ e9 (fq5_0.wr W9)
  obtain ⟨_, _, ⟨T12, L12, k12, n12⟩, -, X12, ⟨Lc12, hQ12, l12, y12, z12⟩, st12⟩ := X9.virtualBack hx (y := y3) (z := y3) hown (mvT hZ (hw _ (List.mem_of_getElem? (i := 33) rfl))) (mvT hZ (hw _ (List.mem_of_getElem? (i := 34) rfl))) (notFace_of_selects (args := #[]) (mvT hZ (hw _ (List.mem_of_getElem? (i := 36) rfl)))) (mvT hZ (hw _ (List.mem_of_getElem? (i := 36) rfl))) (mvT hZ (hw _ (List.mem_of_getElem? (i := 35) rfl))) (by decide) (backOf (W := 0) (rm16 l Z a0 hw [] w_XML_INVALID w_STATUS_UNAVAILABLE w_IMPORTED w_IMPORTED_WITH_WARNINGS hp b4 b5_0 kc2_0 (nar .byte (p2.toInt8.toInt32)) h9 n0 O9 f_10 f_11) hZ (hw _ (List.mem_of_getElem? (i := 37) rfl)) (hw _ (List.mem_of_getElem? (i := 13) rfl)) (by decide) (by decide)) q12a q12c (g := (mkF m 86 #[.val (.int p0), .val (.int p1), .val (.int p2), .val (.int p3), .val (.ref c1_0), .val (.ref b2_0), .val (.int (1 : Int32)), .val (.ref b4)] [(.ref b4)])) rfl (by rw [hml]; rfl) (Steps.refl _) (argsL := []) (rest := []) (lenOf pd_3 rfl) rfl (by show 2 * 0 + _ ≤ _; exact Nat.le_of_eq rfl) (hb hby at_86) (fun _ _ => ⟨rfl, e9, (by decide : 3 + 0 ≤ _), (by decide : 4 + 0 ≤ _)⟩)
  dsimp only [Pt.U, Pt.locs, Pt.cells, Pt.slots] at X12 l12 y12 z12 st12 hQ12
  subst l12 y12 z12
  obtain ⟨rfl, Nq12, eq12⟩ := hQ12
  have N12 := Fr.app N9 Nq12
  have f_13 := (fq5_2.other W9 (Or.inl (Ne.symm (Nat.ne_of_lt (Nat.lt_of_lt_of_le fq2_0.lt (Nat.le_of_eq g4.symm))))))
  obtain ⟨cq14, kq14, q14a, q14b, q14c⟩ := isOf hZ eq12 (fq5_0.wr W9)
  obtain ⟨_, _, ⟨T14, L14, k14, n14⟩, -, X14, ⟨Lc14, hQ14, l14, y14, z14⟩, st14⟩ := X12.virtualBack hx (y := y4) (z := y4) hown (mvT hZ (hw _ (List.mem_of_getElem? (i := 38) rfl))) (mvT hZ (hw _ (List.mem_of_getElem? (i := 39) rfl))) (notFace_of_selects (args := #[]) (mvT hZ (hw _ (List.mem_of_getElem? (i := 41) rfl)))) (mvT hZ (hw _ (List.mem_of_getElem? (i := 41) rfl))) (mvT hZ (hw _ (List.mem_of_getElem? (i := 40) rfl))) (by decide) (backOf (W := 0) (rm8 l Z a0 hw [] w_XML_INVALID w_STATUS_UNAVAILABLE w_IMPORTED w_IMPORTED_WITH_WARNINGS hp b4 c1_0 h9 n0 O9 f_13) hZ (hw _ (List.mem_of_getElem? (i := 42) rfl)) (hw _ (List.mem_of_getElem? (i := 13) rfl)) (by decide) (by decide)) q14a q14c (g := (mkF m 96 #[.val (.int p0), .val (.int p1), .val (.int p2), .val (.int p3), .val (.ref c1_0), .val (.ref b2_0), .val (.int (1 : Int32)), .val (.ref b4)] [(.ref b4)])) rfl (by rw [hml]; rfl) (Steps.refl _) (argsL := []) (rest := []) (lenOf pd_4 rfl) rfl (by show 2 * 0 + _ ≤ _; exact Nat.le_of_eq rfl) (hb hby at_96) (fun _ _ => ⟨rfl, eq12, (by decide : 3 + 0 ≤ _), (by decide : 4 + 0 ≤ _)⟩)
  dsimp only [Pt.U, Pt.locs, Pt.cells, Pt.slots] at X14 l14 y14 z14 st14 hQ14
  subst l14 y14 z14
  obtain ⟨rfl, Nq14, eq14⟩ := hQ14
  have N14 := Fr.app N12 Nq14
  obtain ⟨fs, hr, hrun, hended, hW, hsame⟩ := X14.leave (v := some (.int (1 : Int32))) (fun h => by rw [Bd.returns] at h; cases h)
  refine ⟨_, _, pre0 _ ?_, hrun, hended, _, _, rfl, ?_, ⟨_, rfl⟩, hW, hsame.mono (by decide) (by decide)⟩
  · show Sp p e below s₁ (mkF m 0 #[.val (.int p0), .val (.int p1), .val (.int p2), .val (.int p3), .unset, .unset, .unset, .unset] []) _
    refine XS.iloadN X0.here hx rfl (hb hby at_0) rfl ?_
    show Sp p e below s₁ (mkF m 1 #[.val (.int p0), .val (.int p1), .val (.int p2), .val (.int p3), .unset, .unset, .unset, .unset] [(.int p3)]) _
    refine st1 _ ?_
    show Sp p e below T1 (mkF m 4 #[.val (.int p0), .val (.int p1), .val (.int p2), .val (.int p3), .unset, .unset, .unset, .unset] [(.ref c1_0)]) _
    refine XS.astore X1.here hx rfl (hb hby at_4) rfl rfl (l' := #[.val (.int p0), .val (.int p1), .val (.int p2), .val (.int p3), .val (.ref c1_0), .unset, .unset, .unset]) rfl ?_
    show Sp p e below T1 (mkF m 6 #[.val (.int p0), .val (.int p1), .val (.int p2), .val (.int p3), .val (.ref c1_0), .unset, .unset, .unset] []) _
    refine XS.iloadN X1.here hx rfl (hb hby at_6) rfl ?_
    show Sp p e below T1 (mkF m 7 #[.val (.int p0), .val (.int p1), .val (.int p2), .val (.int p3), .val (.ref c1_0), .unset, .unset, .unset] [(.int p0)]) _
    refine XS.iconst X1.here hx rfl (hb hby at_7) ?_
    show Sp p e below T1 (mkF m 8 #[.val (.int p0), .val (.int p1), .val (.int p2), .val (.int p3), .val (.ref c1_0), .unset, .unset, .unset] [(.int (1 : Int32)), (.int p0)]) _
    refine XS.iand X1.here hx rfl (hb hby at_8) rfl ?_
    show Sp p e below T1 (mkF m 9 #[.val (.int p0), .val (.int p1), .val (.int p2), .val (.int p3), .val (.ref c1_0), .unset, .unset, .unset] [(.int (p0 &&& (1 : Int32)))]) _
    refine XS.ifYes X1.here hx rfl (pc0 := 9) (pc' := 43) rfl (hb hby at_9) rfl ((if0 _ _).trans (teq hc1).1) (by decide) (by decide) ?_
    show Sp p e below T1 (mkF m 43 #[.val (.int p0), .val (.int p1), .val (.int p2), .val (.int p3), .val (.ref c1_0), .unset, .unset, .unset] []) _
    refine XS.iloadN X1.here hx rfl (hb hby at_43) rfl ?_
    show Sp p e below T1 (mkF m 44 #[.val (.int p0), .val (.int p1), .val (.int p2), .val (.int p3), .val (.ref c1_0), .unset, .unset, .unset] [(.int p1)]) _
    refine XS.iloadN X1.here hx rfl (hb hby at_44) rfl ?_
    show Sp p e below T1 (mkF m 45 #[.val (.int p0), .val (.int p1), .val (.int p2), .val (.int p3), .val (.ref c1_0), .unset, .unset, .unset] [(.int p2), (.int p1)]) _
    refine st2 _ ?_
    show Sp p e below T2 (mkF m 48 #[.val (.int p0), .val (.int p1), .val (.int p2), .val (.int p3), .val (.ref c1_0), .unset, .unset, .unset] [(.ref b2_0)]) _
    refine XS.astore X2.here hx rfl (hb hby at_48) rfl rfl (l' := #[.val (.int p0), .val (.int p1), .val (.int p2), .val (.int p3), .val (.ref c1_0), .val (.ref b2_0), .unset, .unset]) rfl ?_
    show Sp p e below T2 (mkF m 50 #[.val (.int p0), .val (.int p1), .val (.int p2), .val (.int p3), .val (.ref c1_0), .val (.ref b2_0), .unset, .unset] []) _
    refine XS.aload X2.here hx rfl (hb hby at_50) rfl rfl ?_
    show Sp p e below T2 (mkF m 52 #[.val (.int p0), .val (.int p1), .val (.int p2), .val (.int p3), .val (.ref c1_0), .val (.ref b2_0), .unset, .unset] [(.ref b2_0)]) _
    refine X2.arraylength hx (by exact Ar3.1) (State.isArrayOf_alike hZ.alike Ar3.2.1) (g := (mkF m 52 #[.val (.int p0), .val (.int p1), .val (.int p2), .val (.int p3), .val (.ref c1_0), .val (.ref b2_0), .unset, .unset] [(.ref b2_0)])) rfl rfl (hb hby at_52) _ ?_
    rw [len_of S3 Nn3]
    show Sp p e below T2 (mkF m 53 #[.val (.int p0), .val (.int p1), .val (.int p2), .val (.int p3), .val (.ref c1_0), .val (.ref b2_0), .unset, .unset] [(.int (1 : Int32))]) _
    refine XS.istore X2.here hx rfl (hb hby at_53) rfl (l' := #[.val (.int p0), .val (.int p1), .val (.int p2), .val (.int p3), .val (.ref c1_0), .val (.ref b2_0), .val (.int (1 : Int32)), .unset]) rfl ?_
    show Sp p e below T2 (mkF m 55 #[.val (.int p0), .val (.int p1), .val (.int p2), .val (.int p3), .val (.ref c1_0), .val (.ref b2_0), .val (.int (1 : Int32)), .unset] []) _
    refine st4 _ ?_
    show Sp p e below T4 (mkF m 58 #[.val (.int p0), .val (.int p1), .val (.int p2), .val (.int p3), .val (.ref c1_0), .val (.ref b2_0), .val (.int (1 : Int32)), .unset] [(.ref b4)]) _
    refine XS.dup X4.here hx rfl (hb hby at_58) rfl rfl ?_
    show Sp p e below T4 (mkF m 59 #[.val (.int p0), .val (.int p1), .val (.int p2), .val (.int p3), .val (.ref c1_0), .val (.ref b2_0), .val (.int (1 : Int32)), .unset] [(.ref b4), (.ref b4)]) _
    refine XS.aload X4.here hx rfl (hb hby at_59) rfl rfl ?_
    show Sp p e below T4 (mkF m 61 #[.val (.int p0), .val (.int p1), .val (.int p2), .val (.int p3), .val (.ref c1_0), .val (.ref b2_0), .val (.int (1 : Int32)), .unset] [(.ref c1_0), (.ref b4), (.ref b4)]) _
    refine XS.aload X4.here hx rfl (hb hby at_61) rfl rfl ?_
    show Sp p e below T4 (mkF m 63 #[.val (.int p0), .val (.int p1), .val (.int p2), .val (.int p3), .val (.ref c1_0), .val (.ref b2_0), .val (.int (1 : Int32)), .unset] [(.ref b2_0), (.ref c1_0), (.ref b4), (.ref b4)]) _
    refine st5.trans ?_
    show Sp p e below T5 (mkF m 66 #[.val (.int p0), .val (.int p1), .val (.int p2), .val (.int p3), .val (.ref c1_0), .val (.ref b2_0), .val (.int (1 : Int32)), .unset] [(.ref b4)]) _
    refine XS.astore X5.here hx rfl (hb hby at_66) rfl rfl (l' := #[.val (.int p0), .val (.int p1), .val (.int p2), .val (.int p3), .val (.ref c1_0), .val (.ref b2_0), .val (.int (1 : Int32)), .val (.ref b4)]) rfl ?_
    show Sp p e below T5 (mkF m 68 #[.val (.int p0), .val (.int p1), .val (.int p2), .val (.int p3), .val (.ref c1_0), .val (.ref b2_0), .val (.int (1 : Int32)), .val (.ref b4)] []) _
    refine XS.iload X5.here hx rfl (hb hby at_68) rfl ?_
    show Sp p e below T5 (mkF m 70 #[.val (.int p0), .val (.int p1), .val (.int p2), .val (.int p3), .val (.ref c1_0), .val (.ref b2_0), .val (.int (1 : Int32)), .val (.ref b4)] [(.int (1 : Int32))]) _
    refine XS.ifNo X5.here hx rfl (hb hby at_70) rfl ((if0 _ _).trans (tlt (by decide : (0 : Int32) < (1 : Int32))).2.2.2) ?_
    show Sp p e below T5 (mkF m 73 #[.val (.int p0), .val (.int p1), .val (.int p2), .val (.int p3), .val (.ref c1_0), .val (.ref b2_0), .val (.int (1 : Int32)), .val (.ref b4)] []) _
    refine XS.aload X5.here hx rfl (hb hby at_73) rfl rfl ?_
    show Sp p e below T5 (mkF m 75 #[.val (.int p0), .val (.int p1), .val (.int p2), .val (.int p3), .val (.ref c1_0), .val (.ref b2_0), .val (.int (1 : Int32)), .val (.ref b4)] [(.ref b2_0)]) _
    refine XS.iconst X5.here hx rfl (hb hby at_75) ?_
    show Sp p e below T5 (mkF m 76 #[.val (.int p0), .val (.int p1), .val (.int p2), .val (.int p3), .val (.ref c1_0), .val (.ref b2_0), .val (.int (1 : Int32)), .val (.ref b4)] [(.int (0 : Int32)), (.ref b2_0)]) _
    refine XS.aload X5.here hx rfl (hb hby at_76) rfl rfl ?_
    show Sp p e below T5 (mkF m 78 #[.val (.int p0), .val (.int p1), .val (.int p2), .val (.int p3), .val (.ref c1_0), .val (.ref b2_0), .val (.int (1 : Int32)), .val (.ref b4)] [(.ref b2_0), (.int (0 : Int32)), (.ref b2_0)]) _
    refine XS.iconst X5.here hx rfl (hb hby at_78) ?_
    show Sp p e below T5 (mkF m 79 #[.val (.int p0), .val (.int p1), .val (.int p2), .val (.int p3), .val (.ref c1_0), .val (.ref b2_0), .val (.int (1 : Int32)), .val (.ref b4)] [(.int (0 : Int32)), (.ref b2_0), (.int (0 : Int32)), (.ref b2_0)]) _
    refine X5.baloadBytes hx (j := (0 : Int32)) (v := (.int (nar .byte (p2.toInt8.toInt32)))) (by exact Ar7.1) (State.isArrayOf_alike hZ.alike Ar7.2.1) Ar7.2.2 hin7 hat7 (g := (mkF m 79 #[.val (.int p0), .val (.int p1), .val (.int p2), .val (.int p3), .val (.ref c1_0), .val (.ref b2_0), .val (.int (1 : Int32)), .val (.ref b4)] [(.int (0 : Int32)), (.ref b2_0), (.int (0 : Int32)), (.ref b2_0)])) rfl rfl (hb hby at_79) _ ?_
    show Sp p e below T5 (mkF m 80 #[.val (.int p0), .val (.int p1), .val (.int p2), .val (.int p3), .val (.ref c1_0), .val (.ref b2_0), .val (.int (1 : Int32)), .val (.ref b4)] [(.int (nar .byte (p2.toInt8.toInt32))), (.int (0 : Int32)), (.ref b2_0)]) _
    refine XS.iconst X5.here hx rfl (hb hby at_80) ?_
    show Sp p e below T5 (mkF m 81 #[.val (.int p0), .val (.int p1), .val (.int p2), .val (.int p3), .val (.ref c1_0), .val (.ref b2_0), .val (.int (1 : Int32)), .val (.ref b4)] [(.int (1 : Int32)), (.int (nar .byte (p2.toInt8.toInt32))), (.int (0 : Int32)), (.ref b2_0)]) _
    refine XS.iadd X5.here hx rfl (hb hby at_81) rfl ?_
    show Sp p e below T5 (mkF m 82 #[.val (.int p0), .val (.int p1), .val (.int p2), .val (.int p3), .val (.ref c1_0), .val (.ref b2_0), .val (.int (1 : Int32)), .val (.ref b4)] [(.int ((nar .byte (p2.toInt8.toInt32)) + (1 : Int32))), (.int (0 : Int32)), (.ref b2_0)]) _
    refine XS.i2b X5.here hx rfl (hb hby at_82) rfl ?_
    show Sp p e below T5 (mkF m 83 #[.val (.int p0), .val (.int p1), .val (.int p2), .val (.int p3), .val (.ref c1_0), .val (.ref b2_0), .val (.int (1 : Int32)), .val (.ref b4)] [(.int (((nar .byte (p2.toInt8.toInt32)) + (1 : Int32)).toInt8.toInt32)), (.int (0 : Int32)), (.ref b2_0)]) _
    refine st9 _ ?_
    show Sp p e below T9 (mkF m 84 #[.val (.int p0), .val (.int p1), .val (.int p2), .val (.int p3), .val (.ref c1_0), .val (.ref b2_0), .val (.int (1 : Int32)), .val (.ref b4)] []) _
    refine XS.aload X9.here hx rfl (hb hby at_84) rfl rfl ?_
    show Sp p e below T9 (mkF m 86 #[.val (.int p0), .val (.int p1), .val (.int p2), .val (.int p3), .val (.ref c1_0), .val (.ref b2_0), .val (.int (1 : Int32)), .val (.ref b4)] [(.ref b4)]) _
    refine st12.trans ?_
    show Sp p e below T12 (mkF m 89 #[.val (.int p0), .val (.int p1), .val (.int p2), .val (.int p3), .val (.ref c1_0), .val (.ref b2_0), .val (.int (1 : Int32)), .val (.ref b4)] [(.int (1 : Int32))]) _
    refine XS.iload X12.here hx rfl (hb hby at_89) rfl ?_
    show Sp p e below T12 (mkF m 91 #[.val (.int p0), .val (.int p1), .val (.int p2), .val (.int p3), .val (.ref c1_0), .val (.ref b2_0), .val (.int (1 : Int32)), .val (.ref b4)] [(.int (1 : Int32)), (.int (1 : Int32))]) _
    refine XS.icmpNo X12.here hx rfl (hb hby at_91) rfl (teq (by decide : (1 : Int32) = (1 : Int32))).2 ?_
    show Sp p e below T12 (mkF m 94 #[.val (.int p0), .val (.int p1), .val (.int p2), .val (.int p3), .val (.ref c1_0), .val (.ref b2_0), .val (.int (1 : Int32)), .val (.ref b4)] []) _
    refine XS.aload X12.here hx rfl (hb hby at_94) rfl rfl ?_
    show Sp p e below T12 (mkF m 96 #[.val (.int p0), .val (.int p1), .val (.int p2), .val (.int p3), .val (.ref c1_0), .val (.ref b2_0), .val (.int (1 : Int32)), .val (.ref b4)] [(.ref b4)]) _
    refine st14.trans ?_
    show Sp p e below T14 (mkF m 99 #[.val (.int p0), .val (.int p1), .val (.int p2), .val (.int p3), .val (.ref c1_0), .val (.ref b2_0), .val (.int (1 : Int32)), .val (.ref b4)] [(.ref c1_0)]) _
    refine XS.aload X14.here hx rfl (hb hby at_99) rfl rfl ?_
    show Sp p e below T14 (mkF m 101 #[.val (.int p0), .val (.int p1), .val (.int p2), .val (.int p3), .val (.ref c1_0), .val (.ref b2_0), .val (.int (1 : Int32)), .val (.ref b4)] [(.ref c1_0), (.ref c1_0)]) _
    refine Jvm.RoadKit.acmp (g := (mkF m 101 #[.val (.int p0), .val (.int p1), .val (.int p2), .val (.int p3), .val (.ref c1_0), .val (.ref b2_0), .val (.int (1 : Int32)), .val (.ref b4)] [(.ref c1_0), (.ref c1_0)])) X14 hx rfl rfl rfl (pc0 := 101) (pc' := 104) (same := true) rfl (hb hby at_101) rfl (decide_eq_true rfl) (by decide) (by decide) ?_
    show Sp p e below T14 (mkF m 104 #[.val (.int p0), .val (.int p1), .val (.int p2), .val (.int p3), .val (.ref c1_0), .val (.ref b2_0), .val (.int (1 : Int32)), .val (.ref b4)] []) _
    refine XS.iconst X14.here hx rfl (hb hby at_104) ?_
    show Sp p e below T14 (mkF m 105 #[.val (.int p0), .val (.int p1), .val (.int p2), .val (.int p3), .val (.ref c1_0), .val (.ref b2_0), .val (.int (1 : Int32)), .val (.ref b4)] [(.int (1 : Int32))]) _
    refine XS.goto X14.here hx rfl (pc0 := 105) (pc' := 109) rfl (hb hby at_105) (by decide) (by decide) ?_
    show Sp p e below T14 (mkF m 109 #[.val (.int p0), .val (.int p1), .val (.int p2), .val (.int p3), .val (.ref c1_0), .val (.ref b2_0), .val (.int (1 : Int32)), .val (.ref b4)] [(.int (1 : Int32))]) _
    exact retN X14 hx (t := .boolean) Bd.returns (by simp) (hb hby at_109) hr
  · skip
    exact ⟨rfl, N14⟩
theorem d2_50 : decode method_3_code 50 = .ok (.iload_n 2, 1) := by decide +kernel
theorem d2_51 : decode method_3_code 51 = .ok (.iconst 2, 1) := by decide +kernel
theorem d2_52 : decode method_3_code 52 = .ok (.if_icmp .ne 16, 3) := by decide +kernel
theorem d2_55 : decode method_3_code 55 = .ok (.iconst 2, 1) := by decide +kernel
theorem d2_56 : decode method_3_code 56 = .ok (.newarray .byte, 2) := by decide +kernel
theorem d2_58 : decode method_3_code 58 = .ok (.dup, 1) := by decide +kernel
theorem d2_59 : decode method_3_code 59 = .ok (.iconst 0, 1) := by decide +kernel
theorem d2_60 : decode method_3_code 60 = .ok (.iload_n 3, 1) := by decide +kernel
theorem d2_61 : decode method_3_code 61 = .ok (.bastore, 1) := by decide +kernel
theorem d2_62 : decode method_3_code 62 = .ok (.dup, 1) := by decide +kernel
theorem d2_63 : decode method_3_code 63 = .ok (.iconst 1, 1) := by decide +kernel
theorem d2_64 : decode method_3_code 64 = .ok (.iload 4, 2) := by decide +kernel
theorem d2_66 : decode method_3_code 66 = .ok (.bastore, 1) := by decide +kernel
theorem d2_67 : decode method_3_code 67 = .ok (.areturn, 1) := by decide +kernel
def Q18 (Z : State) (w_XML_INVALID : Addr) (w_STATUS_UNAVAILABLE : Addr) (w_IMPORTED : Addr) (w_IMPORTED_WITH_WARNINGS : Addr) (p1 : Int32) (p2 : Int32) (h0 : Heap) (n0 : Nat) (v : Option Value) (h : Heap) (L : List Loc) : Prop := ∃ (b1 : Addr), ∃ (k1 : ClassId), v = some (.ref b1) ∧ Fr n0 L ∧ Keep h0 h [] ∧ h0.size ≤ b1 ∧ Exa Z h b1 "[B" ∧ Arv Z h b1 k1 .byte (2 : Int32) [(.int (nar .byte (p2.toInt8.toInt32))), (.int (nar .byte (((p2.toUInt32 >>> ((8 : Int32) &&& 31).toUInt32).toInt32).toInt8.toInt32)))] (.int (0 : Int32))
set_option maxRecDepth 65536 in
set_option maxHeartbeats 40000000 in
theorem rm18 (l : Launch) (Z : State) (a0 : Array Value) (hw : ∀ d ∈ tables_1, d.before a0 Z = true) (ws : List Jvm.Cond) (w_XML_INVALID w_STATUS_UNAVAILABLE w_IMPORTED w_IMPORTED_WITH_WARNINGS : Addr) (hp : Perm Z w_XML_INVALID w_STATUS_UNAVAILABLE w_IMPORTED w_IMPORTED_WITH_WARNINGS) (p1 : Int32) (p2 : Int32) (h0 : Heap) (n0 : Nat) (O0 : Old Z n0 h0) (hc1 : ¬ ((p1 &&& (7 : Int32)) = (0 : Int32))) (hc2 : ¬ ((p1 &&& (7 : Int32)) = (1 : Int32))) (hc3 : (p1 &&& (7 : Int32)) = (2 : Int32)) :
    MetFree l y1 (head1 (Jvm.Cond.code y1 method_3_code 7 (some (.array .byte)) :: ws) ({ frames := 0, cells := 1, slots := 2, locals := 0 } : Room)) (fun a U => a = #[(.int p1), (.int p2)] ∧ Z.Warmed39 U.vm ∧ U.heap = h0) (fun _ _ _ _ _ => True) (fun _ U o U' => ∃ v L, o = .returned v ∧ Q18 Z w_XML_INVALID w_STATUS_UNAVAILABLE w_IMPORTED w_IMPORTED_WITH_WARNINGS p1 p2 h0 n0 v U'.heap L ∧ FrameEnd U o U' L ({ frames := 0, cells := 1, slots := 2, locals := 0 } : Room).cells ({ frames := 0, cells := 1, slots := 2, locals := 0 } : Room).slots) := by
  refine MetFree.of_bodySF (plainFor_of_name pn_1) hisR ?_
  intro p e s m args below meth c s₁ Bd hml0 hP hK
  obtain ⟨rfl, hZ, hh⟩ := hP
  have hx := Bd.exec
  have hby := Bd.bytes
  have hml : c.maxLocals = 7 := hml0
  have hown : s.vm.findClass "com/example/epcrtools/epcrtools/exchange/SubmissionStatusSizePinLaw" = some m.cls := findClass_of_methodNamed Bd.named
  have hnm := (name_of_methodNamed Bd.named Bd.method).1
  have X0 : Stand p l e ({ frames := 0, cells := 1, slots := 2, locals := 0 } : Room) s m #[(.int p1), (.int p2)] below meth c s₁ [] 0 0 := Stand.of_body Bd
  have e0 : s₁.heap = h0 := by rw [← hh, Bd.state]; rfl
  have N0 := Fr.nil n0
  have hp' := hp
  obtain ⟨S_w_XML_INVALID, E_w_XML_INVALID, S_w_STATUS_UNAVAILABLE, E_w_STATUS_UNAVAILABLE, S_w_IMPORTED, E_w_IMPORTED, S_w_IMPORTED_WITH_WARNINGS, E_w_IMPORTED_WITH_WARNINGS⟩ := hp'
  have pre0 : ∀ t, Steps p.tables e below (s₁.setTop (mkF m 0 #[.val (.int p1), .val (.int p2), .unset, .unset, .unset, .unset, .unset] [])) t → Steps p.tables e below (s₁.setTop (entryFrame m #[(.int p1), (.int p2)] 7)) t := fun t k => castTop (ef_2_0 m p1 p2) k
  obtain ⟨T1, h1, k1, X1, e1, E1, A1, EA1, st1⟩ := newPE X0 hx hZ (hw _ (List.mem_of_getElem? (i := 10) rfl)) e0 (g := (mkF m 56 #[.val (.int p1), .val (.int p2), .val (.int (p1 &&& (7 : Int32))), .val (.int (p2.toInt8.toInt32)), .val (.int (((p2.toUInt32 >>> ((8 : Int32) &&& 31).toUInt32).toInt32).toInt8.toInt32)), .val (.int (((p2.toUInt32 >>> ((16 : Int32) &&& 31).toUInt32).toInt32).toInt8.toInt32)), .val (.int (((p2.toUInt32 >>> ((24 : Int32) &&& 31).toUInt32).toInt32).toInt8.toInt32))] [(.int (2 : Int32))])) rfl (hb hby d2_56) rfl (by decide) (cap := 2) (by decide) (by decide) (by decide) (by decide) (ad := "[B") (by decide)
  obtain ⟨b1, g1⟩ : ∃ z, z = h0.size := ⟨_, rfl⟩
  rw [← g1] at A1 EA1 st1
  have g_b1 : n0 ≤ b1 := Nat.le_trans (own_sz O0) (Nat.le_of_eq g1.symm)
  have sz_b1 : h0.size ≤ b1 := Nat.le_trans (Keep.refl h0 []).1 (Nat.le_of_eq g1.symm)
  have O1 := O0.ext E1
  have K1 : Keep h0 h1 [] := (Keep.refl h0 []).ext E1
  have V_b1 : Arv Z h1 b1 k1 .byte (2 : Int32) [(.int (0 : Int32)), (.int (0 : Int32))] (.int (0 : Int32)) := (Arv.new A1 (by decide)).pad (pad_rep [] (.int (0 : Int32)) 2)
  obtain ⟨cl2, Ar2, q2, S2, Nn2, H2, G2⟩ := id V_b1
  have hin2 : ¬ ((0 : Int32) < 0 ∨ cl2.slots.size ≤ ((0 : Int32)).toNatClampNeg) := inb_of S2 ⟨by decide, by decide⟩
  obtain ⟨T3, h3, X3, e3, W3, st3⟩ := stB X1 hx hZ e1 Ar2 (j := (0 : Int32)) hin2 (g := (mkF m 61 #[.val (.int p1), .val (.int p2), .val (.int (p1 &&& (7 : Int32))), .val (.int (p2.toInt8.toInt32)), .val (.int (((p2.toUInt32 >>> ((8 : Int32) &&& 31).toUInt32).toInt32).toInt8.toInt32)), .val (.int (((p2.toUInt32 >>> ((16 : Int32) &&& 31).toUInt32).toInt32).toInt8.toInt32)), .val (.int (((p2.toUInt32 >>> ((24 : Int32) &&& 31).toUInt32).toInt32).toInt8.toInt32))] [(.int (p2.toInt8.toInt32)), (.int (0 : Int32)), (.ref b1), (.ref b1)])) rfl rfl (hb hby d2_61)
  have N3 := Fr.snoc X3 N0 g_b1
  have O3 := O1.wr W3 g_b1
  have K3 : Keep h0 h3 [] := K1.wr W3 (Or.inr sz_b1)
  have V_b1_3 : Arv Z h3 b1 k1 .byte (2 : Int32) [(.int (nar .byte (p2.toInt8.toInt32))), (.int (0 : Int32))] (.int (0 : Int32)) := Arv.set Ar2 q2 S2 Nn2 H2 G2 (fits_nar_byte _) W3 0 rfl (Nat.le_of_ble_eq_true rfl)
  obtain ⟨cl4, Ar4, q4, S4, Nn4, H4, G4⟩ := id V_b1_3
  have hin4 : ¬ ((1 : Int32) < 0 ∨ cl4.slots.size ≤ ((1 : Int32)).toNatClampNeg) := inb_of S4 ⟨by decide, by decide⟩
  obtain ⟨T5, h5, X5, e5, W5, st5⟩ := stB X3 hx hZ e3 Ar4 (j := (1 : Int32)) hin4 (g := (mkF m 66 #[.val (.int p1), .val (.int p2), .val (.int (p1 &&& (7 : Int32))), .val (.int (p2.toInt8.toInt32)), .val (.int (((p2.toUInt32 >>> ((8 : Int32) &&& 31).toUInt32).toInt32).toInt8.toInt32)), .val (.int (((p2.toUInt32 >>> ((16 : Int32) &&& 31).toUInt32).toInt32).toInt8.toInt32)), .val (.int (((p2.toUInt32 >>> ((24 : Int32) &&& 31).toUInt32).toInt32).toInt8.toInt32))] [(.int (((p2.toUInt32 >>> ((8 : Int32) &&& 31).toUInt32).toInt32).toInt8.toInt32)), (.int (1 : Int32)), (.ref b1), (.ref b1)])) rfl rfl (hb hby d2_66)
  have N5 := Fr.snoc X5 N3 g_b1
  have O5 := O3.wr W5 g_b1
  have K5 : Keep h0 h5 [] := K3.wr W5 (Or.inr sz_b1)
  have V_b1_5 : Arv Z h5 b1 k1 .byte (2 : Int32) [(.int (nar .byte (p2.toInt8.toInt32))), (.int (nar .byte (((p2.toUInt32 >>> ((8 : Int32) &&& 31).toUInt32).toInt32).toInt8.toInt32)))] (.int (0 : Int32)) := Arv.set Ar4 q4 S4 Nn4 H4 G4 (fits_nar_byte _) W5 1 rfl (Nat.le_of_ble_eq_true rfl)
  obtain ⟨fs, hr, hrun, hended, hW, hsame⟩ := X5.leave (v := some (.ref b1)) (fun h => by rw [Bd.returns] at h; cases h)
  refine ⟨_, _, pre0 _ ?_, hrun, hended, _, _, rfl, ?_, ⟨_, rfl⟩, hW, hsame.mono (by decide) (by decide)⟩
  · show Sp p e below s₁ (mkF m 0 #[.val (.int p1), .val (.int p2), .unset, .unset, .unset, .unset, .unset] []) _
    refine XS.iloadN X0.here hx rfl (hb hby d2_0) rfl ?_
    show Sp p e below s₁ (mkF m 1 #[.val (.int p1), .val (.int p2), .unset, .unset, .unset, .unset, .unset] [(.int p1)]) _
    refine XS.bipush X0.here hx rfl (hb hby d2_1) ?_
    show Sp p e below s₁ (mkF m 3 #[.val (.int p1), .val (.int p2), .unset, .unset, .unset, .unset, .unset] [(.int (7 : Int32)), (.int p1)]) _
    refine XS.iand X0.here hx rfl (hb hby d2_3) rfl ?_
    show Sp p e below s₁ (mkF m 4 #[.val (.int p1), .val (.int p2), .unset, .unset, .unset, .unset, .unset] [(.int (p1 &&& (7 : Int32)))]) _
    refine XS.istoreN X0.here hx rfl (hb hby d2_4) rfl (l' := #[.val (.int p1), .val (.int p2), .val (.int (p1 &&& (7 : Int32))), .unset, .unset, .unset, .unset]) rfl ?_
    show Sp p e below s₁ (mkF m 5 #[.val (.int p1), .val (.int p2), .val (.int (p1 &&& (7 : Int32))), .unset, .unset, .unset, .unset] []) _
    refine XS.iloadN X0.here hx rfl (hb hby d2_5) rfl ?_
    show Sp p e below s₁ (mkF m 6 #[.val (.int p1), .val (.int p2), .val (.int (p1 &&& (7 : Int32))), .unset, .unset, .unset, .unset] [(.int p2)]) _
    refine XS.i2b X0.here hx rfl (hb hby d2_6) rfl ?_
    show Sp p e below s₁ (mkF m 7 #[.val (.int p1), .val (.int p2), .val (.int (p1 &&& (7 : Int32))), .unset, .unset, .unset, .unset] [(.int (p2.toInt8.toInt32))]) _
    refine XS.istoreN X0.here hx rfl (hb hby d2_7) rfl (l' := #[.val (.int p1), .val (.int p2), .val (.int (p1 &&& (7 : Int32))), .val (.int (p2.toInt8.toInt32)), .unset, .unset, .unset]) rfl ?_
    show Sp p e below s₁ (mkF m 8 #[.val (.int p1), .val (.int p2), .val (.int (p1 &&& (7 : Int32))), .val (.int (p2.toInt8.toInt32)), .unset, .unset, .unset] []) _
    refine XS.iloadN X0.here hx rfl (hb hby d2_8) rfl ?_
    show Sp p e below s₁ (mkF m 9 #[.val (.int p1), .val (.int p2), .val (.int (p1 &&& (7 : Int32))), .val (.int (p2.toInt8.toInt32)), .unset, .unset, .unset] [(.int p2)]) _
    refine XS.bipush X0.here hx rfl (hb hby d2_9) ?_
    show Sp p e below s₁ (mkF m 11 #[.val (.int p1), .val (.int p2), .val (.int (p1 &&& (7 : Int32))), .val (.int (p2.toInt8.toInt32)), .unset, .unset, .unset] [(.int (8 : Int32)), (.int p2)]) _
    refine XS.iushr X0.here hx rfl (hb hby d2_11) rfl ?_
    show Sp p e below s₁ (mkF m 12 #[.val (.int p1), .val (.int p2), .val (.int (p1 &&& (7 : Int32))), .val (.int (p2.toInt8.toInt32)), .unset, .unset, .unset] [(.int ((p2.toUInt32 >>> ((8 : Int32) &&& 31).toUInt32).toInt32))]) _
    refine XS.i2b X0.here hx rfl (hb hby d2_12) rfl ?_
    show Sp p e below s₁ (mkF m 13 #[.val (.int p1), .val (.int p2), .val (.int (p1 &&& (7 : Int32))), .val (.int (p2.toInt8.toInt32)), .unset, .unset, .unset] [(.int (((p2.toUInt32 >>> ((8 : Int32) &&& 31).toUInt32).toInt32).toInt8.toInt32))]) _
    refine XS.istore X0.here hx rfl (hb hby d2_13) rfl (l' := #[.val (.int p1), .val (.int p2), .val (.int (p1 &&& (7 : Int32))), .val (.int (p2.toInt8.toInt32)), .val (.int (((p2.toUInt32 >>> ((8 : Int32) &&& 31).toUInt32).toInt32).toInt8.toInt32)), .unset, .unset]) rfl ?_
    show Sp p e below s₁ (mkF m 15 #[.val (.int p1), .val (.int p2), .val (.int (p1 &&& (7 : Int32))), .val (.int (p2.toInt8.toInt32)), .val (.int (((p2.toUInt32 >>> ((8 : Int32) &&& 31).toUInt32).toInt32).toInt8.toInt32)), .unset, .unset] []) _
    refine XS.iloadN X0.here hx rfl (hb hby d2_15) rfl ?_
    show Sp p e below s₁ (mkF m 16 #[.val (.int p1), .val (.int p2), .val (.int (p1 &&& (7 : Int32))), .val (.int (p2.toInt8.toInt32)), .val (.int (((p2.toUInt32 >>> ((8 : Int32) &&& 31).toUInt32).toInt32).toInt8.toInt32)), .unset, .unset] [(.int p2)]) _
    refine XS.bipush X0.here hx rfl (hb hby d2_16) ?_
    show Sp p e below s₁ (mkF m 18 #[.val (.int p1), .val (.int p2), .val (.int (p1 &&& (7 : Int32))), .val (.int (p2.toInt8.toInt32)), .val (.int (((p2.toUInt32 >>> ((8 : Int32) &&& 31).toUInt32).toInt32).toInt8.toInt32)), .unset, .unset] [(.int (16 : Int32)), (.int p2)]) _
    refine XS.iushr X0.here hx rfl (hb hby d2_18) rfl ?_
    show Sp p e below s₁ (mkF m 19 #[.val (.int p1), .val (.int p2), .val (.int (p1 &&& (7 : Int32))), .val (.int (p2.toInt8.toInt32)), .val (.int (((p2.toUInt32 >>> ((8 : Int32) &&& 31).toUInt32).toInt32).toInt8.toInt32)), .unset, .unset] [(.int ((p2.toUInt32 >>> ((16 : Int32) &&& 31).toUInt32).toInt32))]) _
    refine XS.i2b X0.here hx rfl (hb hby d2_19) rfl ?_
    show Sp p e below s₁ (mkF m 20 #[.val (.int p1), .val (.int p2), .val (.int (p1 &&& (7 : Int32))), .val (.int (p2.toInt8.toInt32)), .val (.int (((p2.toUInt32 >>> ((8 : Int32) &&& 31).toUInt32).toInt32).toInt8.toInt32)), .unset, .unset] [(.int (((p2.toUInt32 >>> ((16 : Int32) &&& 31).toUInt32).toInt32).toInt8.toInt32))]) _
    refine XS.istore X0.here hx rfl (hb hby d2_20) rfl (l' := #[.val (.int p1), .val (.int p2), .val (.int (p1 &&& (7 : Int32))), .val (.int (p2.toInt8.toInt32)), .val (.int (((p2.toUInt32 >>> ((8 : Int32) &&& 31).toUInt32).toInt32).toInt8.toInt32)), .val (.int (((p2.toUInt32 >>> ((16 : Int32) &&& 31).toUInt32).toInt32).toInt8.toInt32)), .unset]) rfl ?_
    show Sp p e below s₁ (mkF m 22 #[.val (.int p1), .val (.int p2), .val (.int (p1 &&& (7 : Int32))), .val (.int (p2.toInt8.toInt32)), .val (.int (((p2.toUInt32 >>> ((8 : Int32) &&& 31).toUInt32).toInt32).toInt8.toInt32)), .val (.int (((p2.toUInt32 >>> ((16 : Int32) &&& 31).toUInt32).toInt32).toInt8.toInt32)), .unset] []) _
    refine XS.iloadN X0.here hx rfl (hb hby d2_22) rfl ?_
    show Sp p e below s₁ (mkF m 23 #[.val (.int p1), .val (.int p2), .val (.int (p1 &&& (7 : Int32))), .val (.int (p2.toInt8.toInt32)), .val (.int (((p2.toUInt32 >>> ((8 : Int32) &&& 31).toUInt32).toInt32).toInt8.toInt32)), .val (.int (((p2.toUInt32 >>> ((16 : Int32) &&& 31).toUInt32).toInt32).toInt8.toInt32)), .unset] [(.int p2)]) _
    refine XS.bipush X0.here hx rfl (hb hby d2_23) ?_
    show Sp p e below s₁ (mkF m 25 #[.val (.int p1), .val (.int p2), .val (.int (p1 &&& (7 : Int32))), .val (.int (p2.toInt8.toInt32)), .val (.int (((p2.toUInt32 >>> ((8 : Int32) &&& 31).toUInt32).toInt32).toInt8.toInt32)), .val (.int (((p2.toUInt32 >>> ((16 : Int32) &&& 31).toUInt32).toInt32).toInt8.toInt32)), .unset] [(.int (24 : Int32)), (.int p2)]) _
    refine XS.iushr X0.here hx rfl (hb hby d2_25) rfl ?_
    show Sp p e below s₁ (mkF m 26 #[.val (.int p1), .val (.int p2), .val (.int (p1 &&& (7 : Int32))), .val (.int (p2.toInt8.toInt32)), .val (.int (((p2.toUInt32 >>> ((8 : Int32) &&& 31).toUInt32).toInt32).toInt8.toInt32)), .val (.int (((p2.toUInt32 >>> ((16 : Int32) &&& 31).toUInt32).toInt32).toInt8.toInt32)), .unset] [(.int ((p2.toUInt32 >>> ((24 : Int32) &&& 31).toUInt32).toInt32))]) _
    refine XS.i2b X0.here hx rfl (hb hby d2_26) rfl ?_
    show Sp p e below s₁ (mkF m 27 #[.val (.int p1), .val (.int p2), .val (.int (p1 &&& (7 : Int32))), .val (.int (p2.toInt8.toInt32)), .val (.int (((p2.toUInt32 >>> ((8 : Int32) &&& 31).toUInt32).toInt32).toInt8.toInt32)), .val (.int (((p2.toUInt32 >>> ((16 : Int32) &&& 31).toUInt32).toInt32).toInt8.toInt32)), .unset] [(.int (((p2.toUInt32 >>> ((24 : Int32) &&& 31).toUInt32).toInt32).toInt8.toInt32))]) _
    refine XS.istore X0.here hx rfl (hb hby d2_27) rfl (l' := #[.val (.int p1), .val (.int p2), .val (.int (p1 &&& (7 : Int32))), .val (.int (p2.toInt8.toInt32)), .val (.int (((p2.toUInt32 >>> ((8 : Int32) &&& 31).toUInt32).toInt32).toInt8.toInt32)), .val (.int (((p2.toUInt32 >>> ((16 : Int32) &&& 31).toUInt32).toInt32).toInt8.toInt32)), .val (.int (((p2.toUInt32 >>> ((24 : Int32) &&& 31).toUInt32).toInt32).toInt8.toInt32))]) rfl ?_
    show Sp p e below s₁ (mkF m 29 #[.val (.int p1), .val (.int p2), .val (.int (p1 &&& (7 : Int32))), .val (.int (p2.toInt8.toInt32)), .val (.int (((p2.toUInt32 >>> ((8 : Int32) &&& 31).toUInt32).toInt32).toInt8.toInt32)), .val (.int (((p2.toUInt32 >>> ((16 : Int32) &&& 31).toUInt32).toInt32).toInt8.toInt32)), .val (.int (((p2.toUInt32 >>> ((24 : Int32) &&& 31).toUInt32).toInt32).toInt8.toInt32))] []) _
    refine XS.iloadN X0.here hx rfl (hb hby d2_29) rfl ?_
    show Sp p e below s₁ (mkF m 30 #[.val (.int p1), .val (.int p2), .val (.int (p1 &&& (7 : Int32))), .val (.int (p2.toInt8.toInt32)), .val (.int (((p2.toUInt32 >>> ((8 : Int32) &&& 31).toUInt32).toInt32).toInt8.toInt32)), .val (.int (((p2.toUInt32 >>> ((16 : Int32) &&& 31).toUInt32).toInt32).toInt8.toInt32)), .val (.int (((p2.toUInt32 >>> ((24 : Int32) &&& 31).toUInt32).toInt32).toInt8.toInt32))] [(.int (p1 &&& (7 : Int32)))]) _
    refine XS.ifYes X0.here hx rfl (pc0 := 30) (pc' := 37) rfl (hb hby d2_30) rfl ((if0 _ _).trans (feq hc1).2) (by decide) (by decide) ?_
    show Sp p e below s₁ (mkF m 37 #[.val (.int p1), .val (.int p2), .val (.int (p1 &&& (7 : Int32))), .val (.int (p2.toInt8.toInt32)), .val (.int (((p2.toUInt32 >>> ((8 : Int32) &&& 31).toUInt32).toInt32).toInt8.toInt32)), .val (.int (((p2.toUInt32 >>> ((16 : Int32) &&& 31).toUInt32).toInt32).toInt8.toInt32)), .val (.int (((p2.toUInt32 >>> ((24 : Int32) &&& 31).toUInt32).toInt32).toInt8.toInt32))] []) _
    refine XS.iloadN X0.here hx rfl (hb hby d2_37) rfl ?_
    show Sp p e below s₁ (mkF m 38 #[.val (.int p1), .val (.int p2), .val (.int (p1 &&& (7 : Int32))), .val (.int (p2.toInt8.toInt32)), .val (.int (((p2.toUInt32 >>> ((8 : Int32) &&& 31).toUInt32).toInt32).toInt8.toInt32)), .val (.int (((p2.toUInt32 >>> ((16 : Int32) &&& 31).toUInt32).toInt32).toInt8.toInt32)), .val (.int (((p2.toUInt32 >>> ((24 : Int32) &&& 31).toUInt32).toInt32).toInt8.toInt32))] [(.int (p1 &&& (7 : Int32)))]) _
    refine XS.iconst X0.here hx rfl (hb hby d2_38) ?_
    show Sp p e below s₁ (mkF m 39 #[.val (.int p1), .val (.int p2), .val (.int (p1 &&& (7 : Int32))), .val (.int (p2.toInt8.toInt32)), .val (.int (((p2.toUInt32 >>> ((8 : Int32) &&& 31).toUInt32).toInt32).toInt8.toInt32)), .val (.int (((p2.toUInt32 >>> ((16 : Int32) &&& 31).toUInt32).toInt32).toInt8.toInt32)), .val (.int (((p2.toUInt32 >>> ((24 : Int32) &&& 31).toUInt32).toInt32).toInt8.toInt32))] [(.int (1 : Int32)), (.int (p1 &&& (7 : Int32)))]) _
    refine XS.icmpYes X0.here hx rfl (pc0 := 39) (pc' := 50) rfl (hb hby d2_39) rfl (feq hc2).2 (by decide) (by decide) ?_
    show Sp p e below s₁ (mkF m 50 #[.val (.int p1), .val (.int p2), .val (.int (p1 &&& (7 : Int32))), .val (.int (p2.toInt8.toInt32)), .val (.int (((p2.toUInt32 >>> ((8 : Int32) &&& 31).toUInt32).toInt32).toInt8.toInt32)), .val (.int (((p2.toUInt32 >>> ((16 : Int32) &&& 31).toUInt32).toInt32).toInt8.toInt32)), .val (.int (((p2.toUInt32 >>> ((24 : Int32) &&& 31).toUInt32).toInt32).toInt8.toInt32))] []) _
    refine XS.iloadN X0.here hx rfl (hb hby d2_50) rfl ?_
    show Sp p e below s₁ (mkF m 51 #[.val (.int p1), .val (.int p2), .val (.int (p1 &&& (7 : Int32))), .val (.int (p2.toInt8.toInt32)), .val (.int (((p2.toUInt32 >>> ((8 : Int32) &&& 31).toUInt32).toInt32).toInt8.toInt32)), .val (.int (((p2.toUInt32 >>> ((16 : Int32) &&& 31).toUInt32).toInt32).toInt8.toInt32)), .val (.int (((p2.toUInt32 >>> ((24 : Int32) &&& 31).toUInt32).toInt32).toInt8.toInt32))] [(.int (p1 &&& (7 : Int32)))]) _
    refine XS.iconst X0.here hx rfl (hb hby d2_51) ?_
    show Sp p e below s₁ (mkF m 52 #[.val (.int p1), .val (.int p2), .val (.int (p1 &&& (7 : Int32))), .val (.int (p2.toInt8.toInt32)), .val (.int (((p2.toUInt32 >>> ((8 : Int32) &&& 31).toUInt32).toInt32).toInt8.toInt32)), .val (.int (((p2.toUInt32 >>> ((16 : Int32) &&& 31).toUInt32).toInt32).toInt8.toInt32)), .val (.int (((p2.toUInt32 >>> ((24 : Int32) &&& 31).toUInt32).toInt32).toInt8.toInt32))] [(.int (2 : Int32)), (.int (p1 &&& (7 : Int32)))]) _
    refine XS.icmpNo X0.here hx rfl (hb hby d2_52) rfl (teq hc3).2 ?_
    show Sp p e below s₁ (mkF m 55 #[.val (.int p1), .val (.int p2), .val (.int (p1 &&& (7 : Int32))), .val (.int (p2.toInt8.toInt32)), .val (.int (((p2.toUInt32 >>> ((8 : Int32) &&& 31).toUInt32).toInt32).toInt8.toInt32)), .val (.int (((p2.toUInt32 >>> ((16 : Int32) &&& 31).toUInt32).toInt32).toInt8.toInt32)), .val (.int (((p2.toUInt32 >>> ((24 : Int32) &&& 31).toUInt32).toInt32).toInt8.toInt32))] []) _
    refine XS.iconst X0.here hx rfl (hb hby d2_55) ?_
    show Sp p e below s₁ (mkF m 56 #[.val (.int p1), .val (.int p2), .val (.int (p1 &&& (7 : Int32))), .val (.int (p2.toInt8.toInt32)), .val (.int (((p2.toUInt32 >>> ((8 : Int32) &&& 31).toUInt32).toInt32).toInt8.toInt32)), .val (.int (((p2.toUInt32 >>> ((16 : Int32) &&& 31).toUInt32).toInt32).toInt8.toInt32)), .val (.int (((p2.toUInt32 >>> ((24 : Int32) &&& 31).toUInt32).toInt32).toInt8.toInt32))] [(.int (2 : Int32))]) _
    refine st1 _ ?_
    show Sp p e below T1 (mkF m 58 #[.val (.int p1), .val (.int p2), .val (.int (p1 &&& (7 : Int32))), .val (.int (p2.toInt8.toInt32)), .val (.int (((p2.toUInt32 >>> ((8 : Int32) &&& 31).toUInt32).toInt32).toInt8.toInt32)), .val (.int (((p2.toUInt32 >>> ((16 : Int32) &&& 31).toUInt32).toInt32).toInt8.toInt32)), .val (.int (((p2.toUInt32 >>> ((24 : Int32) &&& 31).toUInt32).toInt32).toInt8.toInt32))] [(.ref b1)]) _
    refine XS.dup X1.here hx rfl (hb hby d2_58) rfl rfl ?_
    show Sp p e below T1 (mkF m 59 #[.val (.int p1), .val (.int p2), .val (.int (p1 &&& (7 : Int32))), .val (.int (p2.toInt8.toInt32)), .val (.int (((p2.toUInt32 >>> ((8 : Int32) &&& 31).toUInt32).toInt32).toInt8.toInt32)), .val (.int (((p2.toUInt32 >>> ((16 : Int32) &&& 31).toUInt32).toInt32).toInt8.toInt32)), .val (.int (((p2.toUInt32 >>> ((24 : Int32) &&& 31).toUInt32).toInt32).toInt8.toInt32))] [(.ref b1), (.ref b1)]) _
    refine XS.iconst X1.here hx rfl (hb hby d2_59) ?_
    show Sp p e below T1 (mkF m 60 #[.val (.int p1), .val (.int p2), .val (.int (p1 &&& (7 : Int32))), .val (.int (p2.toInt8.toInt32)), .val (.int (((p2.toUInt32 >>> ((8 : Int32) &&& 31).toUInt32).toInt32).toInt8.toInt32)), .val (.int (((p2.toUInt32 >>> ((16 : Int32) &&& 31).toUInt32).toInt32).toInt8.toInt32)), .val (.int (((p2.toUInt32 >>> ((24 : Int32) &&& 31).toUInt32).toInt32).toInt8.toInt32))] [(.int (0 : Int32)), (.ref b1), (.ref b1)]) _
    refine XS.iloadN X1.here hx rfl (hb hby d2_60) rfl ?_
    show Sp p e below T1 (mkF m 61 #[.val (.int p1), .val (.int p2), .val (.int (p1 &&& (7 : Int32))), .val (.int (p2.toInt8.toInt32)), .val (.int (((p2.toUInt32 >>> ((8 : Int32) &&& 31).toUInt32).toInt32).toInt8.toInt32)), .val (.int (((p2.toUInt32 >>> ((16 : Int32) &&& 31).toUInt32).toInt32).toInt8.toInt32)), .val (.int (((p2.toUInt32 >>> ((24 : Int32) &&& 31).toUInt32).toInt32).toInt8.toInt32))] [(.int (p2.toInt8.toInt32)), (.int (0 : Int32)), (.ref b1), (.ref b1)]) _
    refine st3 _ ?_
    show Sp p e below T3 (mkF m 62 #[.val (.int p1), .val (.int p2), .val (.int (p1 &&& (7 : Int32))), .val (.int (p2.toInt8.toInt32)), .val (.int (((p2.toUInt32 >>> ((8 : Int32) &&& 31).toUInt32).toInt32).toInt8.toInt32)), .val (.int (((p2.toUInt32 >>> ((16 : Int32) &&& 31).toUInt32).toInt32).toInt8.toInt32)), .val (.int (((p2.toUInt32 >>> ((24 : Int32) &&& 31).toUInt32).toInt32).toInt8.toInt32))] [(.ref b1)]) _
    refine XS.dup X3.here hx rfl (hb hby d2_62) rfl rfl ?_
    show Sp p e below T3 (mkF m 63 #[.val (.int p1), .val (.int p2), .val (.int (p1 &&& (7 : Int32))), .val (.int (p2.toInt8.toInt32)), .val (.int (((p2.toUInt32 >>> ((8 : Int32) &&& 31).toUInt32).toInt32).toInt8.toInt32)), .val (.int (((p2.toUInt32 >>> ((16 : Int32) &&& 31).toUInt32).toInt32).toInt8.toInt32)), .val (.int (((p2.toUInt32 >>> ((24 : Int32) &&& 31).toUInt32).toInt32).toInt8.toInt32))] [(.ref b1), (.ref b1)]) _
    refine XS.iconst X3.here hx rfl (hb hby d2_63) ?_
    show Sp p e below T3 (mkF m 64 #[.val (.int p1), .val (.int p2), .val (.int (p1 &&& (7 : Int32))), .val (.int (p2.toInt8.toInt32)), .val (.int (((p2.toUInt32 >>> ((8 : Int32) &&& 31).toUInt32).toInt32).toInt8.toInt32)), .val (.int (((p2.toUInt32 >>> ((16 : Int32) &&& 31).toUInt32).toInt32).toInt8.toInt32)), .val (.int (((p2.toUInt32 >>> ((24 : Int32) &&& 31).toUInt32).toInt32).toInt8.toInt32))] [(.int (1 : Int32)), (.ref b1), (.ref b1)]) _
    refine XS.iload X3.here hx rfl (hb hby d2_64) rfl ?_
    show Sp p e below T3 (mkF m 66 #[.val (.int p1), .val (.int p2), .val (.int (p1 &&& (7 : Int32))), .val (.int (p2.toInt8.toInt32)), .val (.int (((p2.toUInt32 >>> ((8 : Int32) &&& 31).toUInt32).toInt32).toInt8.toInt32)), .val (.int (((p2.toUInt32 >>> ((16 : Int32) &&& 31).toUInt32).toInt32).toInt8.toInt32)), .val (.int (((p2.toUInt32 >>> ((24 : Int32) &&& 31).toUInt32).toInt32).toInt8.toInt32))] [(.int (((p2.toUInt32 >>> ((8 : Int32) &&& 31).toUInt32).toInt32).toInt8.toInt32)), (.int (1 : Int32)), (.ref b1), (.ref b1)]) _
    refine st5 _ ?_
    show Sp p e below T5 (mkF m 67 #[.val (.int p1), .val (.int p2), .val (.int (p1 &&& (7 : Int32))), .val (.int (p2.toInt8.toInt32)), .val (.int (((p2.toUInt32 >>> ((8 : Int32) &&& 31).toUInt32).toInt32).toInt8.toInt32)), .val (.int (((p2.toUInt32 >>> ((16 : Int32) &&& 31).toUInt32).toInt32).toInt8.toInt32)), .val (.int (((p2.toUInt32 >>> ((24 : Int32) &&& 31).toUInt32).toInt32).toInt8.toInt32))] [(.ref b1)]) _
    jvm_step X5.here [X5.here.top, hx, (hb hby d2_67), X5.method', Bd.returns, Value.isRef, FieldType.isReference]
    first | (intro acts; rw [hr _ acts rfl rfl rfl]) | rw [hr _ _ rfl rfl rfl]
    exact Steps.refl _
  · show Q18 Z w_XML_INVALID w_STATUS_UNAVAILABLE w_IMPORTED w_IMPORTED_WITH_WARNINGS p1 p2 h0 n0 _ T5.heap _
    rw [e5]
    exact ⟨b1, k1, rfl, N5, K5, sz_b1, ((EA1.wr W3).wr W5), V_b1_5⟩
def Q19 (Z : State) (w_XML_INVALID : Addr) (w_STATUS_UNAVAILABLE : Addr) (w_IMPORTED : Addr) (w_IMPORTED_WITH_WARNINGS : Addr) (a1 : Addr) (a2 : Addr) (a3 : Addr) (k_a3 : ClassId) (p5 : Int32) (p6 : Int32) (h0 : Heap) (n0 : Nat) (v : Option Value) (h : Heap) (L : List Loc) : Prop := ∃ (b3 : Addr), v = none ∧ Fr n0 L ∧ Keep h0 h [a1] ∧ h0.size ≤ b3 ∧ Exa Z h a1 "com/example/epcrtools/epcrtools/exchange/SubmissionStatus" ∧ Fld Z h a1 "com/example/epcrtools/epcrtools/exchange/SubmissionStatus" "report" "[B" (.ref b3) ∧ Fld Z h a1 "com/example/epcrtools/epcrtools/exchange/SubmissionStatus" "statusCode" "Lcom/example/epcrtools/epcrtools/exchange/StatusCode;" (.ref a2) ∧ Exa Z h b3 "[B" ∧ Arv Z h b3 k_a3 .byte (2 : Int32) [(.int p5), (.int p6)] (.int (0 : Int32))
set_option maxRecDepth 65536 in
set_option maxHeartbeats 40000000 in
theorem rm19 (l : Launch) (Z : State) (a0 : Array Value) (hw : ∀ d ∈ tables_1, d.before a0 Z = true) (ws : List Jvm.Cond) (w_XML_INVALID w_STATUS_UNAVAILABLE w_IMPORTED w_IMPORTED_WITH_WARNINGS : Addr) (hp : Perm Z w_XML_INVALID w_STATUS_UNAVAILABLE w_IMPORTED w_IMPORTED_WITH_WARNINGS) (a1 : Addr) (a2 : Addr) (a3 : Addr) (k_a3 : ClassId) (p5 : Int32) (p6 : Int32) (h0 : Heap) (n0 : Nat) (O0 : Old Z n0 h0) (E_a1 : Exa Z h0 a1 "com/example/epcrtools/epcrtools/exchange/SubmissionStatus") (F_statusCode_a1 : Fld Z h0 a1 "com/example/epcrtools/epcrtools/exchange/SubmissionStatus" "statusCode" "Lcom/example/epcrtools/epcrtools/exchange/StatusCode;" .null) (F_report_a1 : Fld Z h0 a1 "com/example/epcrtools/epcrtools/exchange/SubmissionStatus" "report" "[B" .null) (g_a1 : n0 ≤ a1) (V_a3 : Arv Z h0 a3 k_a3 .byte (2 : Int32) [(.int p5), (.int p6)] (.int (0 : Int32))) (ne_a1_a3 : a1 ≠ a3) (E_a3 : Exa Z h0 a3 "[B") :
    MetFree l y2 (head1 (Jvm.Cond.code y2 prog_13_method_1_code 3 none :: ws) ({ frames := 1, cells := 1, slots := 2, locals := 15 } : Room)) (fun a U => a = #[(.ref a1), (.ref a2), (.ref a3)] ∧ Z.Warmed39 U.vm ∧ U.heap = h0) (fun _ _ _ _ _ => True) (fun _ U o U' => ∃ v L, o = .returned v ∧ Q19 Z w_XML_INVALID w_STATUS_UNAVAILABLE w_IMPORTED w_IMPORTED_WITH_WARNINGS a1 a2 a3 k_a3 p5 p6 h0 n0 v U'.heap L ∧ FrameEnd U o U' L ({ frames := 1, cells := 1, slots := 2, locals := 15 } : Room).cells ({ frames := 1, cells := 1, slots := 2, locals := 15 } : Room).slots) := by
  refine MetFree.of_bodySF (plainFor_of_name pn_3) hisR ?_
  intro p e s m args below meth c s₁ Bd hml0 hP hK
  obtain ⟨rfl, hZ, hh⟩ := hP
  have hx := Bd.exec
  have hby := Bd.bytes
  have hml : c.maxLocals = 3 := hml0
  have hown : s.vm.findClass "com/example/epcrtools/epcrtools/exchange/SubmissionStatus" = some m.cls := findClass_of_methodNamed Bd.named
  have hnm := (name_of_methodNamed Bd.named Bd.method).1
  have X0 : Stand p l e ({ frames := 1, cells := 1, slots := 2, locals := 15 } : Room) s m #[(.ref a1), (.ref a2), (.ref a3)] below meth c s₁ [] 0 0 := Stand.of_body Bd
  have e0 : s₁.heap = h0 := by rw [← hh, Bd.state]; rfl
  have N0 := Fr.nil n0
  have hp' := hp
  obtain ⟨S_w_XML_INVALID, E_w_XML_INVALID, S_w_STATUS_UNAVAILABLE, E_w_STATUS_UNAVAILABLE, S_w_IMPORTED, E_w_IMPORTED, S_w_IMPORTED_WITH_WARNINGS, E_w_IMPORTED_WITH_WARNINGS⟩ := hp'
  have pre0 : ∀ t, Steps p.tables e below (s₁.setTop (mkF m 0 #[.val (.ref a1), .val (.ref a2), .val (.ref a3)] [])) t → Steps p.tables e below (s₁.setTop (entryFrame m #[(.ref a1), (.ref a2), (.ref a3)] 3)) t := fun t k => castTop (ef_3_0 m a1 a2 a3) k
  obtain ⟨T1, X1, e1, st1⟩ := initO X0 hx hZ hown (hw _ (List.mem_of_getElem? (i := 17) rfl)) (hw _ (List.mem_of_getElem? (i := 18) rfl)) (hw _ (List.mem_of_getElem? (i := 19) rfl)) e0 (g := (mkF m 1 #[.val (.ref a1), .val (.ref a2), .val (.ref a3)] [(.ref a1)])) rfl (by rw [hml]; rfl) rfl (hb hby d3_1) (by decide) (W := 0) (by show 2 * 0 + _ ≤ _; exact Nat.le_of_eq rfl) (by decide)
  obtain ⟨T2, h2, X2, e2, W2, st2⟩ := putF X1 hx hZ hown (host := "") (Or.inl (hw _ (List.mem_of_getElem? (i := 20) rfl))) Via.refl e1 F_statusCode_a1 E_a1 (Or.inr ⟨(hw _ (List.mem_of_getElem? (i := 21) rfl)), rfl, hnm⟩) (hw _ (List.mem_of_getElem? (i := 12) rfl)) (ty := (.object "com/example/epcrtools/epcrtools/exchange/StatusCode")) (by decide) rfl rfl (g := (mkF m 6 #[.val (.ref a1), .val (.ref a2), .val (.ref a3)] [(.ref a2), (.ref a1)])) rfl rfl (hb hby d3_6)
  have N2 := Fr.snoc X2 N0 g_a1
  have O2 := O0.wr W2 g_a1
  have K2 : Keep h0 h2 [a1] := (Keep.refl h0 [a1]).wr W2 (Or.inl (List.mem_of_getElem? (i := 0) rfl))
  have Fw2 := F_statusCode_a1.same W2
  obtain ⟨T3, h3, X3, e3, E3, A3, EA3, st3⟩ := cloneH X2 hx hZ hown (hw _ (List.mem_of_getElem? (i := 22) rfl)) (hw _ (List.mem_of_getElem? (i := 23) rfl)) (hw _ (List.mem_of_getElem? (i := 27) rfl)) (hw _ (List.mem_of_getElem? (i := 25) rfl)) (hw _ (List.mem_of_getElem? (i := 26) rfl)) (hw _ (List.mem_of_getElem? (i := 28) rfl)) e2 (Arv.arh (V_a3.other W2 (Ne.symm ne_a1_a3))) (E_a3.wr W2) (g := (mkF m 11 #[.val (.ref a1), .val (.ref a2), .val (.ref a3)] [(.ref a3), (.ref a1)])) rfl (by rw [hml]; rfl) rfl (hb hby d3_11) (by decide) (W := 1) (cap := 2) (by show 2 * 0 + _ ≤ _; exact Nat.le_of_eq rfl) (by decide) (by decide) (by decide) (by decide)
  obtain ⟨b3, g3⟩ : ∃ z, z = h2.size := ⟨_, rfl⟩
  rw [← g3] at A3 EA3 st3
  have g_b3 : n0 ≤ b3 := Nat.le_trans (own_sz O2) (Nat.le_of_eq g3.symm)
  have sz_b3 : h0.size ≤ b3 := Nat.le_trans K2.1 (Nat.le_of_eq g3.symm)
  have O3 := O2.ext E3
  have K3 : Keep h0 h3 [a1] := K2.ext E3
  have V_b3 : Arv Z h3 b3 k_a3 .byte (2 : Int32) [(.int p5), (.int p6)] (.int (0 : Int32)) := A3
  obtain ⟨T4, X4, e4, st4⟩ := castY X3 hx hZ hown (hw _ (List.mem_of_getElem? (i := 29) rfl)) e3 (Ins.self EA3) (g := (mkF m 14 #[.val (.ref a1), .val (.ref a2), .val (.ref a3)] [(.ref b3), (.ref a1)])) rfl rfl (hb hby d3_14)
  obtain ⟨T5, h5, X5, e5, W5, st5⟩ := putF X4 hx hZ hown (host := "") (Or.inl (hw _ (List.mem_of_getElem? (i := 31) rfl))) Via.refl e4 ((F_report_a1.other W2 (Or.inr (sn0 hw))).ext E3) ((E_a1.wr W2).ext E3) (Or.inr ⟨(hw _ (List.mem_of_getElem? (i := 32) rfl)), rfl, hnm⟩) (hw _ (List.mem_of_getElem? (i := 12) rfl)) (ty := (.array .byte)) (by decide) rfl rfl (g := (mkF m 17 #[.val (.ref a1), .val (.ref a2), .val (.ref a3)] [(.ref b3), (.ref a1)])) rfl rfl (hb hby d3_17)
  have N5 := Fr.snoc X5 N2 g_a1
  have O5 := O3.wr W5 g_a1
  have K5 : Keep h0 h5 [a1] := K3.wr W5 (Or.inl (List.mem_of_getElem? (i := 0) rfl))
  have Fw5 := ((F_report_a1.other W2 (Or.inr (sn0 hw))).ext E3).same W5
  have f_6 := (V_b3.other W5 (Ne.symm (Nat.ne_of_lt (Nat.lt_of_lt_of_le E_a1.lt sz_b3))))
  obtain ⟨fs, hr, hrun, hended, hW, hsame⟩ := X5.leave (v := none) (fun _ => rfl)
  refine ⟨_, _, pre0 _ ?_, hrun, hended, _, _, rfl, ?_, ⟨_, rfl⟩, hW, hsame.mono (by decide) (by decide)⟩
  · show Sp p e below s₁ (mkF m 0 #[.val (.ref a1), .val (.ref a2), .val (.ref a3)] []) _
    refine XS.aloadN X0.here hx rfl (hb hby d3_0) rfl rfl ?_
    show Sp p e below s₁ (mkF m 1 #[.val (.ref a1), .val (.ref a2), .val (.ref a3)] [(.ref a1)]) _
    refine st1 _ ?_
    show Sp p e below T1 (mkF m 4 #[.val (.ref a1), .val (.ref a2), .val (.ref a3)] []) _
    refine XS.aloadN X1.here hx rfl (hb hby d3_4) rfl rfl ?_
    show Sp p e below T1 (mkF m 5 #[.val (.ref a1), .val (.ref a2), .val (.ref a3)] [(.ref a1)]) _
    refine XS.aloadN X1.here hx rfl (hb hby d3_5) rfl rfl ?_
    show Sp p e below T1 (mkF m 6 #[.val (.ref a1), .val (.ref a2), .val (.ref a3)] [(.ref a2), (.ref a1)]) _
    refine st2 _ ?_
    show Sp p e below T2 (mkF m 9 #[.val (.ref a1), .val (.ref a2), .val (.ref a3)] []) _
    refine XS.aloadN X2.here hx rfl (hb hby d3_9) rfl rfl ?_
    show Sp p e below T2 (mkF m 10 #[.val (.ref a1), .val (.ref a2), .val (.ref a3)] [(.ref a1)]) _
    refine XS.aloadN X2.here hx rfl (hb hby d3_10) rfl rfl ?_
    show Sp p e below T2 (mkF m 11 #[.val (.ref a1), .val (.ref a2), .val (.ref a3)] [(.ref a3), (.ref a1)]) _
    refine st3 _ ?_
    show Sp p e below T3 (mkF m 14 #[.val (.ref a1), .val (.ref a2), .val (.ref a3)] [(.ref b3), (.ref a1)]) _
    refine st4 _ ?_
    show Sp p e below T4 (mkF m 17 #[.val (.ref a1), .val (.ref a2), .val (.ref a3)] [(.ref b3), (.ref a1)]) _
    refine st5 _ ?_
    show Sp p e below T5 (mkF m 20 #[.val (.ref a1), .val (.ref a2), .val (.ref a3)] []) _
    exact X5.returnOut hx Bd.returns (hb hby d3_20) hr
  · show Q19 Z w_XML_INVALID w_STATUS_UNAVAILABLE w_IMPORTED w_IMPORTED_WITH_WARNINGS a1 a2 a3 k_a3 p5 p6 h0 n0 _ T5.heap _
    rw [e5]
    exact ⟨b3, rfl, N5, K5, sz_b3, (((E_a1.wr W2).ext E3).wr W5), Fw5, ((Fw2.ext E3).other W5 (Or.inr (sn1 hw))), (EA3.wr W5), f_6⟩
def Q20 (Z : State) (w_XML_INVALID : Addr) (w_STATUS_UNAVAILABLE : Addr) (w_IMPORTED : Addr) (w_IMPORTED_WITH_WARNINGS : Addr) (a1 : Addr) (a2 : Addr) (k_a2 : ClassId) (p4 : Int32) (p5 : Int32) (h0 : Heap) (n0 : Nat) (v : Option Value) (h : Heap) (L : List Loc) : Prop := v = some (.int (2 : Int32)) ∧ Fr n0 L ∧ h = h0
set_option maxRecDepth 65536 in
set_option maxHeartbeats 40000000 in
theorem rm20 (l : Launch) (Z : State) (a0 : Array Value) (hw : ∀ d ∈ tables_1, d.before a0 Z = true) (ws : List Jvm.Cond) (w_XML_INVALID w_STATUS_UNAVAILABLE w_IMPORTED w_IMPORTED_WITH_WARNINGS : Addr) (hp : Perm Z w_XML_INVALID w_STATUS_UNAVAILABLE w_IMPORTED w_IMPORTED_WITH_WARNINGS) (a1 : Addr) (a2 : Addr) (k_a2 : ClassId) (p4 : Int32) (p5 : Int32) (h0 : Heap) (n0 : Nat) (O0 : Old Z n0 h0) (F_report_a1 : Fld Z h0 a1 "com/example/epcrtools/epcrtools/exchange/SubmissionStatus" "report" "[B" (.ref a2)) (V_a2 : Arv Z h0 a2 k_a2 .byte (2 : Int32) [(.int p4), (.int p5)] (.int (0 : Int32))) :
    MetFree l y3 (head1 (Jvm.Cond.code y3 prog_13_method_6_code 1 (some .int) :: ws) ({ frames := 0, cells := 0, slots := 0, locals := 0 } : Room)) (fun a U => a = #[(.ref a1)] ∧ Z.Warmed39 U.vm ∧ U.heap = h0) (fun _ _ _ _ _ => True) (fun _ U o U' => ∃ v L, o = .returned v ∧ Q20 Z w_XML_INVALID w_STATUS_UNAVAILABLE w_IMPORTED w_IMPORTED_WITH_WARNINGS a1 a2 k_a2 p4 p5 h0 n0 v U'.heap L ∧ FrameEnd U o U' L ({ frames := 0, cells := 0, slots := 0, locals := 0 } : Room).cells ({ frames := 0, cells := 0, slots := 0, locals := 0 } : Room).slots) := by
  refine MetFree.of_bodySF (plainFor_of_name pn_3) hisR ?_
  intro p e s m args below meth c s₁ Bd hml0 hP hK
  obtain ⟨rfl, hZ, hh⟩ := hP
  have hx := Bd.exec
  have hby := Bd.bytes
  have hml : c.maxLocals = 1 := hml0
  have hown : s.vm.findClass "com/example/epcrtools/epcrtools/exchange/SubmissionStatus" = some m.cls := findClass_of_methodNamed Bd.named
  have hnm := (name_of_methodNamed Bd.named Bd.method).1
  have X0 : Stand p l e ({ frames := 0, cells := 0, slots := 0, locals := 0 } : Room) s m #[(.ref a1)] below meth c s₁ [] 0 0 := Stand.of_body Bd
  have e0 : s₁.heap = h0 := by rw [← hh, Bd.state]; rfl
  have N0 := Fr.nil n0
  have hp' := hp
  obtain ⟨S_w_XML_INVALID, E_w_XML_INVALID, S_w_STATUS_UNAVAILABLE, E_w_STATUS_UNAVAILABLE, S_w_IMPORTED, E_w_IMPORTED, S_w_IMPORTED_WITH_WARNINGS, E_w_IMPORTED_WITH_WARNINGS⟩ := hp'
  have pre0 : ∀ t, Steps p.tables e below (s₁.setTop (mkF m 0 #[.val (.ref a1)] [])) t → Steps p.tables e below (s₁.setTop (entryFrame m #[(.ref a1)] 1)) t := fun t k => castTop (ef_5_0 m a1) k
  obtain ⟨T1, X1, e1, st1⟩ := getF X0 hx hZ hown (host := "") (Or.inl (hw _ (List.mem_of_getElem? (i := 31) rfl))) Via.refl e0 F_report_a1 (g := (mkF m 1 #[.val (.ref a1)] [(.ref a1)])) rfl rfl (hb hby d5_1)
  obtain ⟨T2, X2, e2, st2⟩ := getF X1 hx hZ hown (host := "") (Or.inl (hw _ (List.mem_of_getElem? (i := 31) rfl))) Via.refl e1 F_report_a1 (g := (mkF m 12 #[.val (.ref a1)] [(.ref a1)])) rfl rfl (hb hby d5_12)
  obtain ⟨cl3, Ar3, -, S3, Nn3, -, -⟩ := id V_a2
  obtain ⟨fs, hr, hrun, hended, hW, hsame⟩ := X2.leave (v := some (.int (2 : Int32))) (fun h => by rw [Bd.returns] at h; cases h)
  refine ⟨_, _, pre0 _ ?_, hrun, hended, _, _, rfl, ?_, ⟨_, rfl⟩, hW, hsame.mono (by decide) (by decide)⟩
  · show Sp p e below s₁ (mkF m 0 #[.val (.ref a1)] []) _
    refine XS.aloadN X0.here hx rfl (hb hby d5_0) rfl rfl ?_
    show Sp p e below s₁ (mkF m 1 #[.val (.ref a1)] [(.ref a1)]) _
    refine st1 _ ?_
    show Sp p e below T1 (mkF m 4 #[.val (.ref a1)] [(.ref a2)]) _
    refine XS.ifnonnullYes X1.here hx rfl (pc0 := 4) (pc' := 11) rfl (hb hby d5_4) rfl (by decide) (by decide) ?_
    show Sp p e below T1 (mkF m 11 #[.val (.ref a1)] []) _
    refine XS.aloadN X1.here hx rfl (hb hby d5_11) rfl rfl ?_
    show Sp p e below T1 (mkF m 12 #[.val (.ref a1)] [(.ref a1)]) _
    refine st2 _ ?_
    show Sp p e below T2 (mkF m 15 #[.val (.ref a1)] [(.ref a2)]) _
    refine X2.arraylength hx (by rw [e2]; exact Ar3.1) (State.isArrayOf_alike hZ.alike Ar3.2.1) (g := (mkF m 15 #[.val (.ref a1)] [(.ref a2)])) rfl rfl (hb hby d5_15) _ ?_
    rw [len_of S3 Nn3]
    show Sp p e below T2 (mkF m 16 #[.val (.ref a1)] [(.int (2 : Int32))]) _
    exact retI X2 hx Bd.returns (hb hby d5_16) hr
  · show Q20 Z w_XML_INVALID w_STATUS_UNAVAILABLE w_IMPORTED w_IMPORTED_WITH_WARNINGS a1 a2 k_a2 p4 p5 h0 n0 _ T2.heap _
    rw [e2]
    exact ⟨rfl, N0, rfl⟩
set_option maxRecDepth 65536 in
set_option maxHeartbeats 40000000 in
theorem rm21 (l : Launch) (Z : State) (a0 : Array Value) (hw : ∀ d ∈ tables_1, d.before a0 Z = true) (ws : List Jvm.Cond) (w_XML_INVALID w_STATUS_UNAVAILABLE w_IMPORTED w_IMPORTED_WITH_WARNINGS : Addr) (hp : Perm Z w_XML_INVALID w_STATUS_UNAVAILABLE w_IMPORTED w_IMPORTED_WITH_WARNINGS) (p0 : Int32) (p1 : Int32) (p2 : Int32) (p3 : Int32) (h0 : Heap) (n0 : Nat) (O0 : Old Z n0 h0) (hc1 : (p0 &&& (1 : Int32)) = (0 : Int32)) (hc2 : ¬ ((p1 &&& (7 : Int32)) = (0 : Int32))) (hc3 : ¬ ((p1 &&& (7 : Int32)) = (1 : Int32))) (hc4 : (p1 &&& (7 : Int32)) = (2 : Int32)) :
    MetFree l x (head1 (Jvm.Cond.code x code maxLocals ret :: ws) room_1) (fun a U => a = #[(.int p0), (.int p1), (.int p2), (.int p3)] ∧ Z.Warmed39 U.vm ∧ U.heap = h0) (fun _ _ _ _ _ => True) (fun _ U o U' => ∃ v L, o = .returned v ∧ (v = some (.int (1 : Int32)) ∧ Fr n0 L) ∧ FrameEnd U o U' L 16 896) := by
  refine MetFree.of_bodySF (plainFor_of_name pn_1) hisR ?_
  intro p e s m args below meth c s₁ Bd hml0 hP hK
  obtain ⟨rfl, hZ, hh⟩ := hP
  have hx := Bd.exec
  have hby := Bd.bytes
  have hml : c.maxLocals = 8 := hml0
  have hown : s.vm.findClass "com/example/epcrtools/epcrtools/exchange/SubmissionStatusSizePinLaw" = some m.cls := findClass_of_methodNamed Bd.named
  have hnm := (name_of_methodNamed Bd.named Bd.method).1
  have X0 : Stand p l e room_1 s m #[(.int p0), (.int p1), (.int p2), (.int p3)] below meth c s₁ [] 0 0 := Stand.of_body Bd
  have e0 : s₁.heap = h0 := by rw [← hh, Bd.state]; rfl
  have N0 := Fr.nil n0
  have hp' := hp
  obtain ⟨S_w_XML_INVALID, E_w_XML_INVALID, S_w_STATUS_UNAVAILABLE, E_w_STATUS_UNAVAILABLE, S_w_IMPORTED, E_w_IMPORTED, S_w_IMPORTED_WITH_WARNINGS, E_w_IMPORTED_WITH_WARNINGS⟩ := hp'
  have pre0 : ∀ t, Steps p.tables e below (s₁.setTop (mkF m 0 #[.val (.int p0), .val (.int p1), .val (.int p2), .val (.int p3), .unset, .unset, .unset, .unset] [])) t → Steps p.tables e below (s₁.setTop (entryFrame m #[(.int p0), (.int p1), (.int p2), (.int p3)] maxLocals)) t := fun t k => castTop (ef_0_0 m p0 p1 p2 p3) k
  obtain ⟨_, _, ⟨T1, L1, k1, n1⟩, -, X1, ⟨Lc1, hQ1, l1, y1, z1⟩, st1⟩ := Jvm.LawKit.callS X0 hx (y := y0) hown (mvT hZ (hw _ (List.mem_of_getElem? (i := 0) rfl))) (mvT hZ (hw _ (List.mem_of_getElem? (i := 1) rfl))) (mvT hZ (hw _ (List.mem_of_getElem? (i := 2) rfl))) (mvT hZ (hw _ (List.mem_of_getElem? (i := 3) rfl))) (by decide) (backOf (W := 0) (rmM1 l Z a0 hw [] w_XML_INVALID w_STATUS_UNAVAILABLE w_IMPORTED w_IMPORTED_WITH_WARNINGS hp p3 h0 n0 O0) hZ (hw _ (List.mem_of_getElem? (i := 3) rfl)) (hw _ (List.mem_of_getElem? (i := 2) rfl)) (by decide) (by decide)) (g := (mkF m 1 #[.val (.int p0), .val (.int p1), .val (.int p2), .val (.int p3), .unset, .unset, .unset, .unset] [(.int p3)])) rfl (by rw [hml]; rfl) (argsL := [(.int p3)]) (rest := []) (lenOf pd_0 rfl) rfl (by show 2 * 0 + _ ≤ _; exact Nat.le_of_eq rfl) (hb hby at_1) (fun _ _ => ⟨rfl, e0, (by decide : 0 + 0 ≤ _), (by decide : 0 + 0 ≤ _)⟩)
  dsimp only [Pt.U, Pt.locs, Pt.cells, Pt.slots] at X1 l1 y1 z1 st1 hQ1
  subst l1 y1 z1
  obtain ⟨c1_0, rfl, Nq1, eq1, oq1_0⟩ := hQ1
  have N1 := Fr.app N0 Nq1
  obtain ⟨_, _, ⟨T2, L2, k2, n2⟩, -, X2, ⟨Lc2, hQ2, l2, y2, z2⟩, st2⟩ := Jvm.LawKit.callS X1 hx (y := y1) hown (mvT hZ (hw _ (List.mem_of_getElem? (i := 7) rfl))) (mvT hZ (hw _ (List.mem_of_getElem? (i := 8) rfl))) (mvT hZ (hw _ (List.mem_of_getElem? (i := 2) rfl))) (mvT hZ (hw _ (List.mem_of_getElem? (i := 9) rfl))) (by decide) (backOf (W := 0) (rm18 l Z a0 hw [] w_XML_INVALID w_STATUS_UNAVAILABLE w_IMPORTED w_IMPORTED_WITH_WARNINGS hp p1 p2 h0 n0 O0 hc2 hc3 hc4) hZ (hw _ (List.mem_of_getElem? (i := 9) rfl)) (hw _ (List.mem_of_getElem? (i := 2) rfl)) (by decide) (by decide)) (g := (mkF m 45 #[.val (.int p0), .val (.int p1), .val (.int p2), .val (.int p3), .val (.ref c1_0), .unset, .unset, .unset] [(.int p2), (.int p1)])) rfl (by rw [hml]; rfl) (argsL := [(.int p1), (.int p2)]) (rest := []) (lenOf pd_1 rfl) rfl (by show 2 * 0 + _ ≤ _; exact Nat.le_of_eq rfl) (hb hby at_45) (fun _ _ => ⟨rfl, eq1, (by decide : 0 + 1 ≤ _), (by decide : 0 + 2 ≤ _)⟩)
  dsimp only [Pt.U, Pt.locs, Pt.cells, Pt.slots] at X2 l2 y2 z2 st2 hQ2
  subst l2 y2 z2
  obtain ⟨b2_0, kc2_0, rfl, Nq2, Kq2, sq_b2_0, fq2_0, fq2_1⟩ := hQ2
  have N2 := Fr.app N1 Nq2
  have g_b2_0 : n0 ≤ b2_0 := Nat.le_trans (own_sz O0) sq_b2_0
  have sz_b2_0 : h0.size ≤ b2_0 := Nat.le_trans (Keep.refl h0 []).1 sq_b2_0
  have O2 := O0.keep Kq2 all0
  have K2 : Keep h0 T2.heap [] := (Keep.refl h0 []).trans Kq2 all0
  obtain ⟨cl3, Ar3, -, S3, Nn3, -, -⟩ := id fq2_1
  obtain ⟨T4, h4, X4, e4, E4, A4, D4, -, st4⟩ := newO X2 hx hZ hown (hw _ (List.mem_of_getElem? (i := 11) rfl)) (hw _ (List.mem_of_getElem? (i := 12) rfl)) (hw _ (List.mem_of_getElem? (i := 13) rfl)) rfl (g := (mkF m 55 #[.val (.int p0), .val (.int p1), .val (.int p2), .val (.int p3), .val (.ref c1_0), .val (.ref b2_0), .val (.int (2 : Int32)), .unset] [])) rfl (hb hby at_55) (by decide) (by decide)
  obtain ⟨b4, g4⟩ : ∃ z, z = T2.heap.size := ⟨_, rfl⟩
  rw [← g4] at A4 D4 st4
  have g_b4 : n0 ≤ b4 := Nat.le_trans (own_sz O2) (Nat.le_of_eq g4.symm)
  have sz_b4 : h0.size ≤ b4 := Nat.le_trans K2.1 (Nat.le_of_eq g4.symm)
  have O4 := O2.ext E4
  have K4 : Keep h0 h4 [] := K2.ext E4
  have F_statusCode_b4 : Fld Z h4 b4 "com/example/epcrtools/epcrtools/exchange/SubmissionStatus" "statusCode" "Lcom/example/epcrtools/epcrtools/exchange/StatusCode;" .null := D4 (Or.inr (hw _ (List.mem_of_getElem? (i := 21) rfl))) (ty := (.object "com/example/epcrtools/epcrtools/exchange/StatusCode")) (by decide)
  have F_report_b4 : Fld Z h4 b4 "com/example/epcrtools/epcrtools/exchange/SubmissionStatus" "report" "[B" .null := D4 (Or.inr (hw _ (List.mem_of_getElem? (i := 32) rfl))) (ty := (.array .byte)) (by decide)
  obtain ⟨_, _, ⟨T5, L5, k5, n5⟩, -, X5, ⟨Lc5, hQ5, l5, y5, z5⟩, st5⟩ := X4.specialBack hx (y := y2) rfl hown (mvT hZ (hw _ (List.mem_of_getElem? (i := 14) rfl))) (mvT hZ (hw _ (List.mem_of_getElem? (i := 15) rfl))) (mvT hZ (hw _ (List.mem_of_getElem? (i := 16) rfl))) (by decide) (backOf (W := 1) (rm19 l Z a0 hw [] w_XML_INVALID w_STATUS_UNAVAILABLE w_IMPORTED w_IMPORTED_WITH_WARNINGS hp b4 c1_0 b2_0 kc2_0 (nar .byte (p2.toInt8.toInt32)) (nar .byte (((p2.toUInt32 >>> ((8 : Int32) &&& 31).toUInt32).toInt32).toInt8.toInt32)) h4 n0 O4 A4 F_statusCode_b4 F_report_b4 g_b4 (fq2_1.ext E4) (Ne.symm (Nat.ne_of_lt (Nat.lt_of_lt_of_le fq2_0.lt (Nat.le_of_eq g4.symm)))) (fq2_0.ext E4)) hZ (hw _ (List.mem_of_getElem? (i := 16) rfl)) (hw _ (List.mem_of_getElem? (i := 13) rfl)) (by decide) (by decide)) (g := (mkF m 63 #[.val (.int p0), .val (.int p1), .val (.int p2), .val (.int p3), .val (.ref c1_0), .val (.ref b2_0), .val (.int (2 : Int32)), .unset] [(.ref b2_0), (.ref c1_0), (.ref b4), (.ref b4)])) rfl (by rw [hml]; rfl) (Steps.refl _) (a := b4) (argsL := [(.ref c1_0), (.ref b2_0)]) (rest := [(.ref b4)]) (lenOf pd_2 rfl) rfl (by show 2 * 0 + _ ≤ _; exact Nat.le_of_eq rfl) (hb hby at_63) (fun _ _ => ⟨rfl, e4, (by decide : 2 + 1 ≤ _), (by decide : 4 + 2 ≤ _)⟩)
  dsimp only [Pt.U, Pt.locs, Pt.cells, Pt.slots] at X5 l5 y5 z5 st5 hQ5
  subst l5 y5 z5
  obtain ⟨b5_0, rfl, Nq5, Kq5, sq_b5_0, fq5_0, fq5_1, fq5_2, fq5_3, fq5_4⟩ := hQ5
  have N5 := Fr.app N2 Nq5
  have g_b5_0 : n0 ≤ b5_0 := Nat.le_trans (own_sz O4) sq_b5_0
  have sz_b5_0 : h0.size ≤ b5_0 := Nat.le_trans K4.1 sq_b5_0
  have O5 := O4.keep Kq5 (allS g_b4 all0)
  have K5 : Keep h0 T5.heap [] := K4.trans Kq5 (allS (Or.inr sz_b4) all0)
  have f_6 := ((fq2_1.ext E4).keep Kq5 (ninS (Nat.ne_of_lt (Nat.lt_of_lt_of_le fq2_0.lt (Nat.le_of_eq g4.symm))) nin0))
  obtain ⟨cl7, Ar7, -, S7, -, H7, -⟩ := id f_6
  have hin7 : ¬ ((0 : Int32) < 0 ∨ cl7.slots.size ≤ ((0 : Int32)).toNatClampNeg) := inb_of S7 ⟨by decide, by decide⟩
  have hat7 : cl7.slots[((0 : Int32)).toNatClampNeg]? = some (.int (nar .byte (p2.toInt8.toInt32))) := H7.at hin7 rfl
  obtain ⟨cl8, Ar8, q8, S8, Nn8, H8, G8⟩ := id f_6
  have hin8 : ¬ ((0 : Int32) < 0 ∨ cl8.slots.size ≤ ((0 : Int32)).toNatClampNeg) := inb_of S8 ⟨by decide, by decide⟩
  obtain ⟨T9, h9, X9, e9, W9, st9⟩ := stB X5 hx hZ rfl Ar8 (j := (0 : Int32)) hin8 (g := (mkF m 83 #[.val (.int p0), .val (.int p1), .val (.int p2), .val (.int p3), .val (.ref c1_0), .val (.ref b2_0), .val (.int (2 : Int32)), .val (.ref b4)] [(.int (((nar .byte (p2.toInt8.toInt32)) + (1 : Int32)).toInt8.toInt32)), (.int (0 : Int32)), (.ref b2_0)])) rfl rfl (hb hby at_83)
  have N9 := Fr.snoc X9 N5 g_b2_0
  have O9 := O5.wr W9 g_b2_0
  have K9 : Keep h0 h9 [] := K5.wr W9 (Or.inr sz_b2_0)
  have V_b2_0_9 : Arv Z h9 b2_0 kc2_0 .byte (2 : Int32) [(.int (nar .byte (((nar .byte (p2.toInt8.toInt32)) + (1 : Int32)).toInt8.toInt32))), (.int (nar .byte (((p2.toUInt32 >>> ((8 : Int32) &&& 31).toUInt32).toInt32).toInt8.toInt32)))] (.int (0 : Int32)) := Arv.set Ar8 q8 S8 Nn8 H8 G8 (fits_nar_byte _) W9 0 rfl (Nat.le_of_ble_eq_true rfl)
  have f_10 := (fq5_1.other W9 (Or.inl (Ne.symm (Nat.ne_of_lt (Nat.lt_of_lt_of_le fq2_0.lt (Nat.le_of_eq g4.symm))))))
  have f_11 := (fq5_4.other W9 (Ne.symm (Nat.ne_of_lt (Nat.lt_of_lt_of_le (fq2_0.ext E4).lt sq_b5_0))))
  obtain ⟨cq12, kq12, q12a, q12b, q12c⟩ := isOf hZ e9 (fq5_0.wr W9)
  obtain ⟨_, _, ⟨T12, L12, k12, n12⟩, -, X12, ⟨Lc12, hQ12, l12, y12, z12⟩, st12⟩ := X9.virtualBack hx (y := y3) (z := y3) hown (mvT hZ (hw _ (List.mem_of_getElem? (i := 33) rfl))) (mvT hZ (hw _ (List.mem_of_getElem? (i := 34) rfl))) (notFace_of_selects (args := #[]) (mvT hZ (hw _ (List.mem_of_getElem? (i := 36) rfl)))) (mvT hZ (hw _ (List.mem_of_getElem? (i := 36) rfl))) (mvT hZ (hw _ (List.mem_of_getElem? (i := 35) rfl))) (by decide) (backOf (W := 0) (rm20 l Z a0 hw [] w_XML_INVALID w_STATUS_UNAVAILABLE w_IMPORTED w_IMPORTED_WITH_WARNINGS hp b4 b5_0 kc2_0 (nar .byte (p2.toInt8.toInt32)) (nar .byte (((p2.toUInt32 >>> ((8 : Int32) &&& 31).toUInt32).toInt32).toInt8.toInt32)) h9 n0 O9 f_10 f_11) hZ (hw _ (List.mem_of_getElem? (i := 37) rfl)) (hw _ (List.mem_of_getElem? (i := 13) rfl)) (by decide) (by decide)) q12a q12c (g := (mkF m 86 #[.val (.int p0), .val (.int p1), .val (.int p2), .val (.int p3), .val (.ref c1_0), .val (.ref b2_0), .val (.int (2 : Int32)), .val (.ref b4)] [(.ref b4)])) rfl (by rw [hml]; rfl) (Steps.refl _) (argsL := []) (rest := []) (lenOf pd_3 rfl) rfl (by show 2 * 0 + _ ≤ _; exact Nat.le_of_eq rfl) (hb hby at_86) (fun _ _ => ⟨rfl, e9, (by decide : 3 + 0 ≤ _), (by decide : 6 + 0 ≤ _)⟩)
  dsimp only [Pt.U, Pt.locs, Pt.cells, Pt.slots] at X12 l12 y12 z12 st12 hQ12
  subst l12 y12 z12
  obtain ⟨rfl, Nq12, eq12⟩ := hQ12
  have N12 := Fr.app N9 Nq12
  have f_13 := (fq5_2.other W9 (Or.inl (Ne.symm (Nat.ne_of_lt (Nat.lt_of_lt_of_le fq2_0.lt (Nat.le_of_eq g4.symm))))))
  obtain ⟨cq14, kq14, q14a, q14b, q14c⟩ := isOf hZ eq12 (fq5_0.wr W9)
  obtain ⟨_, _, ⟨T14, L14, k14, n14⟩, -, X14, ⟨Lc14, hQ14, l14, y14, z14⟩, st14⟩ := X12.virtualBack hx (y := y4) (z := y4) hown (mvT hZ (hw _ (List.mem_of_getElem? (i := 38) rfl))) (mvT hZ (hw _ (List.mem_of_getElem? (i := 39) rfl))) (notFace_of_selects (args := #[]) (mvT hZ (hw _ (List.mem_of_getElem? (i := 41) rfl)))) (mvT hZ (hw _ (List.mem_of_getElem? (i := 41) rfl))) (mvT hZ (hw _ (List.mem_of_getElem? (i := 40) rfl))) (by decide) (backOf (W := 0) (rm8 l Z a0 hw [] w_XML_INVALID w_STATUS_UNAVAILABLE w_IMPORTED w_IMPORTED_WITH_WARNINGS hp b4 c1_0 h9 n0 O9 f_13) hZ (hw _ (List.mem_of_getElem? (i := 42) rfl)) (hw _ (List.mem_of_getElem? (i := 13) rfl)) (by decide) (by decide)) q14a q14c (g := (mkF m 96 #[.val (.int p0), .val (.int p1), .val (.int p2), .val (.int p3), .val (.ref c1_0), .val (.ref b2_0), .val (.int (2 : Int32)), .val (.ref b4)] [(.ref b4)])) rfl (by rw [hml]; rfl) (Steps.refl _) (argsL := []) (rest := []) (lenOf pd_4 rfl) rfl (by show 2 * 0 + _ ≤ _; exact Nat.le_of_eq rfl) (hb hby at_96) (fun _ _ => ⟨rfl, eq12, (by decide : 3 + 0 ≤ _), (by decide : 6 + 0 ≤ _)⟩)
  dsimp only [Pt.U, Pt.locs, Pt.cells, Pt.slots] at X14 l14 y14 z14 st14 hQ14
  subst l14 y14 z14
  obtain ⟨rfl, Nq14, eq14⟩ := hQ14
  have N14 := Fr.app N12 Nq14
  obtain ⟨fs, hr, hrun, hended, hW, hsame⟩ := X14.leave (v := some (.int (1 : Int32))) (fun h => by rw [Bd.returns] at h; cases h)
  refine ⟨_, _, pre0 _ ?_, hrun, hended, _, _, rfl, ?_, ⟨_, rfl⟩, hW, hsame.mono (by decide) (by decide)⟩
  · show Sp p e below s₁ (mkF m 0 #[.val (.int p0), .val (.int p1), .val (.int p2), .val (.int p3), .unset, .unset, .unset, .unset] []) _
    refine XS.iloadN X0.here hx rfl (hb hby at_0) rfl ?_
    show Sp p e below s₁ (mkF m 1 #[.val (.int p0), .val (.int p1), .val (.int p2), .val (.int p3), .unset, .unset, .unset, .unset] [(.int p3)]) _
    refine st1 _ ?_
    show Sp p e below T1 (mkF m 4 #[.val (.int p0), .val (.int p1), .val (.int p2), .val (.int p3), .unset, .unset, .unset, .unset] [(.ref c1_0)]) _
    refine XS.astore X1.here hx rfl (hb hby at_4) rfl rfl (l' := #[.val (.int p0), .val (.int p1), .val (.int p2), .val (.int p3), .val (.ref c1_0), .unset, .unset, .unset]) rfl ?_
    show Sp p e below T1 (mkF m 6 #[.val (.int p0), .val (.int p1), .val (.int p2), .val (.int p3), .val (.ref c1_0), .unset, .unset, .unset] []) _
    refine XS.iloadN X1.here hx rfl (hb hby at_6) rfl ?_
    show Sp p e below T1 (mkF m 7 #[.val (.int p0), .val (.int p1), .val (.int p2), .val (.int p3), .val (.ref c1_0), .unset, .unset, .unset] [(.int p0)]) _
    refine XS.iconst X1.here hx rfl (hb hby at_7) ?_
    show Sp p e below T1 (mkF m 8 #[.val (.int p0), .val (.int p1), .val (.int p2), .val (.int p3), .val (.ref c1_0), .unset, .unset, .unset] [(.int (1 : Int32)), (.int p0)]) _
    refine XS.iand X1.here hx rfl (hb hby at_8) rfl ?_
    show Sp p e below T1 (mkF m 9 #[.val (.int p0), .val (.int p1), .val (.int p2), .val (.int p3), .val (.ref c1_0), .unset, .unset, .unset] [(.int (p0 &&& (1 : Int32)))]) _
    refine XS.ifYes X1.here hx rfl (pc0 := 9) (pc' := 43) rfl (hb hby at_9) rfl ((if0 _ _).trans (teq hc1).1) (by decide) (by decide) ?_
    show Sp p e below T1 (mkF m 43 #[.val (.int p0), .val (.int p1), .val (.int p2), .val (.int p3), .val (.ref c1_0), .unset, .unset, .unset] []) _
    refine XS.iloadN X1.here hx rfl (hb hby at_43) rfl ?_
    show Sp p e below T1 (mkF m 44 #[.val (.int p0), .val (.int p1), .val (.int p2), .val (.int p3), .val (.ref c1_0), .unset, .unset, .unset] [(.int p1)]) _
    refine XS.iloadN X1.here hx rfl (hb hby at_44) rfl ?_
    show Sp p e below T1 (mkF m 45 #[.val (.int p0), .val (.int p1), .val (.int p2), .val (.int p3), .val (.ref c1_0), .unset, .unset, .unset] [(.int p2), (.int p1)]) _
    refine st2 _ ?_
    show Sp p e below T2 (mkF m 48 #[.val (.int p0), .val (.int p1), .val (.int p2), .val (.int p3), .val (.ref c1_0), .unset, .unset, .unset] [(.ref b2_0)]) _
    refine XS.astore X2.here hx rfl (hb hby at_48) rfl rfl (l' := #[.val (.int p0), .val (.int p1), .val (.int p2), .val (.int p3), .val (.ref c1_0), .val (.ref b2_0), .unset, .unset]) rfl ?_
    show Sp p e below T2 (mkF m 50 #[.val (.int p0), .val (.int p1), .val (.int p2), .val (.int p3), .val (.ref c1_0), .val (.ref b2_0), .unset, .unset] []) _
    refine XS.aload X2.here hx rfl (hb hby at_50) rfl rfl ?_
    show Sp p e below T2 (mkF m 52 #[.val (.int p0), .val (.int p1), .val (.int p2), .val (.int p3), .val (.ref c1_0), .val (.ref b2_0), .unset, .unset] [(.ref b2_0)]) _
    refine X2.arraylength hx (by exact Ar3.1) (State.isArrayOf_alike hZ.alike Ar3.2.1) (g := (mkF m 52 #[.val (.int p0), .val (.int p1), .val (.int p2), .val (.int p3), .val (.ref c1_0), .val (.ref b2_0), .unset, .unset] [(.ref b2_0)])) rfl rfl (hb hby at_52) _ ?_
    rw [len_of S3 Nn3]
    show Sp p e below T2 (mkF m 53 #[.val (.int p0), .val (.int p1), .val (.int p2), .val (.int p3), .val (.ref c1_0), .val (.ref b2_0), .unset, .unset] [(.int (2 : Int32))]) _
    refine XS.istore X2.here hx rfl (hb hby at_53) rfl (l' := #[.val (.int p0), .val (.int p1), .val (.int p2), .val (.int p3), .val (.ref c1_0), .val (.ref b2_0), .val (.int (2 : Int32)), .unset]) rfl ?_
    show Sp p e below T2 (mkF m 55 #[.val (.int p0), .val (.int p1), .val (.int p2), .val (.int p3), .val (.ref c1_0), .val (.ref b2_0), .val (.int (2 : Int32)), .unset] []) _
    refine st4 _ ?_
    show Sp p e below T4 (mkF m 58 #[.val (.int p0), .val (.int p1), .val (.int p2), .val (.int p3), .val (.ref c1_0), .val (.ref b2_0), .val (.int (2 : Int32)), .unset] [(.ref b4)]) _
    refine XS.dup X4.here hx rfl (hb hby at_58) rfl rfl ?_
    show Sp p e below T4 (mkF m 59 #[.val (.int p0), .val (.int p1), .val (.int p2), .val (.int p3), .val (.ref c1_0), .val (.ref b2_0), .val (.int (2 : Int32)), .unset] [(.ref b4), (.ref b4)]) _
    refine XS.aload X4.here hx rfl (hb hby at_59) rfl rfl ?_
    show Sp p e below T4 (mkF m 61 #[.val (.int p0), .val (.int p1), .val (.int p2), .val (.int p3), .val (.ref c1_0), .val (.ref b2_0), .val (.int (2 : Int32)), .unset] [(.ref c1_0), (.ref b4), (.ref b4)]) _
    refine XS.aload X4.here hx rfl (hb hby at_61) rfl rfl ?_
    show Sp p e below T4 (mkF m 63 #[.val (.int p0), .val (.int p1), .val (.int p2), .val (.int p3), .val (.ref c1_0), .val (.ref b2_0), .val (.int (2 : Int32)), .unset] [(.ref b2_0), (.ref c1_0), (.ref b4), (.ref b4)]) _
    refine st5.trans ?_
    show Sp p e below T5 (mkF m 66 #[.val (.int p0), .val (.int p1), .val (.int p2), .val (.int p3), .val (.ref c1_0), .val (.ref b2_0), .val (.int (2 : Int32)), .unset] [(.ref b4)]) _
    refine XS.astore X5.here hx rfl (hb hby at_66) rfl rfl (l' := #[.val (.int p0), .val (.int p1), .val (.int p2), .val (.int p3), .val (.ref c1_0), .val (.ref b2_0), .val (.int (2 : Int32)), .val (.ref b4)]) rfl ?_
    show Sp p e below T5 (mkF m 68 #[.val (.int p0), .val (.int p1), .val (.int p2), .val (.int p3), .val (.ref c1_0), .val (.ref b2_0), .val (.int (2 : Int32)), .val (.ref b4)] []) _
    refine XS.iload X5.here hx rfl (hb hby at_68) rfl ?_
    show Sp p e below T5 (mkF m 70 #[.val (.int p0), .val (.int p1), .val (.int p2), .val (.int p3), .val (.ref c1_0), .val (.ref b2_0), .val (.int (2 : Int32)), .val (.ref b4)] [(.int (2 : Int32))]) _
    refine XS.ifNo X5.here hx rfl (hb hby at_70) rfl ((if0 _ _).trans (tlt (by decide : (0 : Int32) < (2 : Int32))).2.2.2) ?_
    show Sp p e below T5 (mkF m 73 #[.val (.int p0), .val (.int p1), .val (.int p2), .val (.int p3), .val (.ref c1_0), .val (.ref b2_0), .val (.int (2 : Int32)), .val (.ref b4)] []) _
    refine XS.aload X5.here hx rfl (hb hby at_73) rfl rfl ?_
    show Sp p e below T5 (mkF m 75 #[.val (.int p0), .val (.int p1), .val (.int p2), .val (.int p3), .val (.ref c1_0), .val (.ref b2_0), .val (.int (2 : Int32)), .val (.ref b4)] [(.ref b2_0)]) _
    refine XS.iconst X5.here hx rfl (hb hby at_75) ?_
    show Sp p e below T5 (mkF m 76 #[.val (.int p0), .val (.int p1), .val (.int p2), .val (.int p3), .val (.ref c1_0), .val (.ref b2_0), .val (.int (2 : Int32)), .val (.ref b4)] [(.int (0 : Int32)), (.ref b2_0)]) _
    refine XS.aload X5.here hx rfl (hb hby at_76) rfl rfl ?_
    show Sp p e below T5 (mkF m 78 #[.val (.int p0), .val (.int p1), .val (.int p2), .val (.int p3), .val (.ref c1_0), .val (.ref b2_0), .val (.int (2 : Int32)), .val (.ref b4)] [(.ref b2_0), (.int (0 : Int32)), (.ref b2_0)]) _
    refine XS.iconst X5.here hx rfl (hb hby at_78) ?_
    show Sp p e below T5 (mkF m 79 #[.val (.int p0), .val (.int p1), .val (.int p2), .val (.int p3), .val (.ref c1_0), .val (.ref b2_0), .val (.int (2 : Int32)), .val (.ref b4)] [(.int (0 : Int32)), (.ref b2_0), (.int (0 : Int32)), (.ref b2_0)]) _
    refine X5.baloadBytes hx (j := (0 : Int32)) (v := (.int (nar .byte (p2.toInt8.toInt32)))) (by exact Ar7.1) (State.isArrayOf_alike hZ.alike Ar7.2.1) Ar7.2.2 hin7 hat7 (g := (mkF m 79 #[.val (.int p0), .val (.int p1), .val (.int p2), .val (.int p3), .val (.ref c1_0), .val (.ref b2_0), .val (.int (2 : Int32)), .val (.ref b4)] [(.int (0 : Int32)), (.ref b2_0), (.int (0 : Int32)), (.ref b2_0)])) rfl rfl (hb hby at_79) _ ?_
    show Sp p e below T5 (mkF m 80 #[.val (.int p0), .val (.int p1), .val (.int p2), .val (.int p3), .val (.ref c1_0), .val (.ref b2_0), .val (.int (2 : Int32)), .val (.ref b4)] [(.int (nar .byte (p2.toInt8.toInt32))), (.int (0 : Int32)), (.ref b2_0)]) _
    refine XS.iconst X5.here hx rfl (hb hby at_80) ?_
    show Sp p e below T5 (mkF m 81 #[.val (.int p0), .val (.int p1), .val (.int p2), .val (.int p3), .val (.ref c1_0), .val (.ref b2_0), .val (.int (2 : Int32)), .val (.ref b4)] [(.int (1 : Int32)), (.int (nar .byte (p2.toInt8.toInt32))), (.int (0 : Int32)), (.ref b2_0)]) _
    refine XS.iadd X5.here hx rfl (hb hby at_81) rfl ?_
    show Sp p e below T5 (mkF m 82 #[.val (.int p0), .val (.int p1), .val (.int p2), .val (.int p3), .val (.ref c1_0), .val (.ref b2_0), .val (.int (2 : Int32)), .val (.ref b4)] [(.int ((nar .byte (p2.toInt8.toInt32)) + (1 : Int32))), (.int (0 : Int32)), (.ref b2_0)]) _
    refine XS.i2b X5.here hx rfl (hb hby at_82) rfl ?_
    show Sp p e below T5 (mkF m 83 #[.val (.int p0), .val (.int p1), .val (.int p2), .val (.int p3), .val (.ref c1_0), .val (.ref b2_0), .val (.int (2 : Int32)), .val (.ref b4)] [(.int (((nar .byte (p2.toInt8.toInt32)) + (1 : Int32)).toInt8.toInt32)), (.int (0 : Int32)), (.ref b2_0)]) _
    refine st9 _ ?_
    show Sp p e below T9 (mkF m 84 #[.val (.int p0), .val (.int p1), .val (.int p2), .val (.int p3), .val (.ref c1_0), .val (.ref b2_0), .val (.int (2 : Int32)), .val (.ref b4)] []) _
    refine XS.aload X9.here hx rfl (hb hby at_84) rfl rfl ?_
    show Sp p e below T9 (mkF m 86 #[.val (.int p0), .val (.int p1), .val (.int p2), .val (.int p3), .val (.ref c1_0), .val (.ref b2_0), .val (.int (2 : Int32)), .val (.ref b4)] [(.ref b4)]) _
    refine st12.trans ?_
    show Sp p e below T12 (mkF m 89 #[.val (.int p0), .val (.int p1), .val (.int p2), .val (.int p3), .val (.ref c1_0), .val (.ref b2_0), .val (.int (2 : Int32)), .val (.ref b4)] [(.int (2 : Int32))]) _
    refine XS.iload X12.here hx rfl (hb hby at_89) rfl ?_
    show Sp p e below T12 (mkF m 91 #[.val (.int p0), .val (.int p1), .val (.int p2), .val (.int p3), .val (.ref c1_0), .val (.ref b2_0), .val (.int (2 : Int32)), .val (.ref b4)] [(.int (2 : Int32)), (.int (2 : Int32))]) _
    refine XS.icmpNo X12.here hx rfl (hb hby at_91) rfl (teq (by decide : (2 : Int32) = (2 : Int32))).2 ?_
    show Sp p e below T12 (mkF m 94 #[.val (.int p0), .val (.int p1), .val (.int p2), .val (.int p3), .val (.ref c1_0), .val (.ref b2_0), .val (.int (2 : Int32)), .val (.ref b4)] []) _
    refine XS.aload X12.here hx rfl (hb hby at_94) rfl rfl ?_
    show Sp p e below T12 (mkF m 96 #[.val (.int p0), .val (.int p1), .val (.int p2), .val (.int p3), .val (.ref c1_0), .val (.ref b2_0), .val (.int (2 : Int32)), .val (.ref b4)] [(.ref b4)]) _
    refine st14.trans ?_
    show Sp p e below T14 (mkF m 99 #[.val (.int p0), .val (.int p1), .val (.int p2), .val (.int p3), .val (.ref c1_0), .val (.ref b2_0), .val (.int (2 : Int32)), .val (.ref b4)] [(.ref c1_0)]) _
    refine XS.aload X14.here hx rfl (hb hby at_99) rfl rfl ?_
    show Sp p e below T14 (mkF m 101 #[.val (.int p0), .val (.int p1), .val (.int p2), .val (.int p3), .val (.ref c1_0), .val (.ref b2_0), .val (.int (2 : Int32)), .val (.ref b4)] [(.ref c1_0), (.ref c1_0)]) _
    refine Jvm.RoadKit.acmp (g := (mkF m 101 #[.val (.int p0), .val (.int p1), .val (.int p2), .val (.int p3), .val (.ref c1_0), .val (.ref b2_0), .val (.int (2 : Int32)), .val (.ref b4)] [(.ref c1_0), (.ref c1_0)])) X14 hx rfl rfl rfl (pc0 := 101) (pc' := 104) (same := true) rfl (hb hby at_101) rfl (decide_eq_true rfl) (by decide) (by decide) ?_
    show Sp p e below T14 (mkF m 104 #[.val (.int p0), .val (.int p1), .val (.int p2), .val (.int p3), .val (.ref c1_0), .val (.ref b2_0), .val (.int (2 : Int32)), .val (.ref b4)] []) _
    refine XS.iconst X14.here hx rfl (hb hby at_104) ?_
    show Sp p e below T14 (mkF m 105 #[.val (.int p0), .val (.int p1), .val (.int p2), .val (.int p3), .val (.ref c1_0), .val (.ref b2_0), .val (.int (2 : Int32)), .val (.ref b4)] [(.int (1 : Int32))]) _
    refine XS.goto X14.here hx rfl (pc0 := 105) (pc' := 109) rfl (hb hby at_105) (by decide) (by decide) ?_
    show Sp p e below T14 (mkF m 109 #[.val (.int p0), .val (.int p1), .val (.int p2), .val (.int p3), .val (.ref c1_0), .val (.ref b2_0), .val (.int (2 : Int32)), .val (.ref b4)] [(.int (1 : Int32))]) _
    exact retN X14 hx (t := .boolean) Bd.returns (by simp) (hb hby at_109) hr
  · skip
    exact ⟨rfl, N14⟩
theorem d2_68 : decode method_3_code 68 = .ok (.iload_n 2, 1) := by decide +kernel
theorem d2_69 : decode method_3_code 69 = .ok (.iconst 3, 1) := by decide +kernel
theorem d2_70 : decode method_3_code 70 = .ok (.if_icmp .ne 21, 3) := by decide +kernel
theorem d2_73 : decode method_3_code 73 = .ok (.iconst 3, 1) := by decide +kernel
theorem d2_74 : decode method_3_code 74 = .ok (.newarray .byte, 2) := by decide +kernel
theorem d2_76 : decode method_3_code 76 = .ok (.dup, 1) := by decide +kernel
theorem d2_77 : decode method_3_code 77 = .ok (.iconst 0, 1) := by decide +kernel
theorem d2_78 : decode method_3_code 78 = .ok (.iload_n 3, 1) := by decide +kernel
theorem d2_79 : decode method_3_code 79 = .ok (.bastore, 1) := by decide +kernel
theorem d2_80 : decode method_3_code 80 = .ok (.dup, 1) := by decide +kernel
theorem d2_81 : decode method_3_code 81 = .ok (.iconst 1, 1) := by decide +kernel
theorem d2_82 : decode method_3_code 82 = .ok (.iload 4, 2) := by decide +kernel
theorem d2_84 : decode method_3_code 84 = .ok (.bastore, 1) := by decide +kernel
theorem d2_85 : decode method_3_code 85 = .ok (.dup, 1) := by decide +kernel
theorem d2_86 : decode method_3_code 86 = .ok (.iconst 2, 1) := by decide +kernel
theorem d2_87 : decode method_3_code 87 = .ok (.iload 5, 2) := by decide +kernel
theorem d2_89 : decode method_3_code 89 = .ok (.bastore, 1) := by decide +kernel
theorem d2_90 : decode method_3_code 90 = .ok (.areturn, 1) := by decide +kernel
def Q22 (Z : State) (w_XML_INVALID : Addr) (w_STATUS_UNAVAILABLE : Addr) (w_IMPORTED : Addr) (w_IMPORTED_WITH_WARNINGS : Addr) (p1 : Int32) (p2 : Int32) (h0 : Heap) (n0 : Nat) (v : Option Value) (h : Heap) (L : List Loc) : Prop := ∃ (b1 : Addr), ∃ (k1 : ClassId), v = some (.ref b1) ∧ Fr n0 L ∧ Keep h0 h [] ∧ h0.size ≤ b1 ∧ Exa Z h b1 "[B" ∧ Arv Z h b1 k1 .byte (3 : Int32) [(.int (nar .byte (p2.toInt8.toInt32))), (.int (nar .byte (((p2.toUInt32 >>> ((8 : Int32) &&& 31).toUInt32).toInt32).toInt8.toInt32))), (.int (nar .byte (((p2.toUInt32 >>> ((16 : Int32) &&& 31).toUInt32).toInt32).toInt8.toInt32)))] (.int (0 : Int32))
set_option maxRecDepth 65536 in
set_option maxHeartbeats 40000000 in
theorem rm22 (l : Launch) (Z : State) (a0 : Array Value) (hw : ∀ d ∈ tables_1, d.before a0 Z = true) (ws : List Jvm.Cond) (w_XML_INVALID w_STATUS_UNAVAILABLE w_IMPORTED w_IMPORTED_WITH_WARNINGS : Addr) (hp : Perm Z w_XML_INVALID w_STATUS_UNAVAILABLE w_IMPORTED w_IMPORTED_WITH_WARNINGS) (p1 : Int32) (p2 : Int32) (h0 : Heap) (n0 : Nat) (O0 : Old Z n0 h0) (hc1 : ¬ ((p1 &&& (7 : Int32)) = (0 : Int32))) (hc2 : ¬ ((p1 &&& (7 : Int32)) = (1 : Int32))) (hc3 : ¬ ((p1 &&& (7 : Int32)) = (2 : Int32))) (hc4 : (p1 &&& (7 : Int32)) = (3 : Int32)) :
    MetFree l y1 (head1 (Jvm.Cond.code y1 method_3_code 7 (some (.array .byte)) :: ws) ({ frames := 0, cells := 1, slots := 3, locals := 0 } : Room)) (fun a U => a = #[(.int p1), (.int p2)] ∧ Z.Warmed39 U.vm ∧ U.heap = h0) (fun _ _ _ _ _ => True) (fun _ U o U' => ∃ v L, o = .returned v ∧ Q22 Z w_XML_INVALID w_STATUS_UNAVAILABLE w_IMPORTED w_IMPORTED_WITH_WARNINGS p1 p2 h0 n0 v U'.heap L ∧ FrameEnd U o U' L ({ frames := 0, cells := 1, slots := 3, locals := 0 } : Room).cells ({ frames := 0, cells := 1, slots := 3, locals := 0 } : Room).slots) := by
  refine MetFree.of_bodySF (plainFor_of_name pn_1) hisR ?_
  intro p e s m args below meth c s₁ Bd hml0 hP hK
  obtain ⟨rfl, hZ, hh⟩ := hP
  have hx := Bd.exec
  have hby := Bd.bytes
  have hml : c.maxLocals = 7 := hml0
  have hown : s.vm.findClass "com/example/epcrtools/epcrtools/exchange/SubmissionStatusSizePinLaw" = some m.cls := findClass_of_methodNamed Bd.named
  have hnm := (name_of_methodNamed Bd.named Bd.method).1
  have X0 : Stand p l e ({ frames := 0, cells := 1, slots := 3, locals := 0 } : Room) s m #[(.int p1), (.int p2)] below meth c s₁ [] 0 0 := Stand.of_body Bd
  have e0 : s₁.heap = h0 := by rw [← hh, Bd.state]; rfl
  have N0 := Fr.nil n0
  have hp' := hp
  obtain ⟨S_w_XML_INVALID, E_w_XML_INVALID, S_w_STATUS_UNAVAILABLE, E_w_STATUS_UNAVAILABLE, S_w_IMPORTED, E_w_IMPORTED, S_w_IMPORTED_WITH_WARNINGS, E_w_IMPORTED_WITH_WARNINGS⟩ := hp'
  have pre0 : ∀ t, Steps p.tables e below (s₁.setTop (mkF m 0 #[.val (.int p1), .val (.int p2), .unset, .unset, .unset, .unset, .unset] [])) t → Steps p.tables e below (s₁.setTop (entryFrame m #[(.int p1), (.int p2)] 7)) t := fun t k => castTop (ef_2_0 m p1 p2) k
  obtain ⟨T1, h1, k1, X1, e1, E1, A1, EA1, st1⟩ := newPE X0 hx hZ (hw _ (List.mem_of_getElem? (i := 10) rfl)) e0 (g := (mkF m 74 #[.val (.int p1), .val (.int p2), .val (.int (p1 &&& (7 : Int32))), .val (.int (p2.toInt8.toInt32)), .val (.int (((p2.toUInt32 >>> ((8 : Int32) &&& 31).toUInt32).toInt32).toInt8.toInt32)), .val (.int (((p2.toUInt32 >>> ((16 : Int32) &&& 31).toUInt32).toInt32).toInt8.toInt32)), .val (.int (((p2.toUInt32 >>> ((24 : Int32) &&& 31).toUInt32).toInt32).toInt8.toInt32))] [(.int (3 : Int32))])) rfl (hb hby d2_74) rfl (by decide) (cap := 3) (by decide) (by decide) (by decide) (by decide) (ad := "[B") (by decide)
  obtain ⟨b1, g1⟩ : ∃ z, z = h0.size := ⟨_, rfl⟩
  rw [← g1] at A1 EA1 st1
  have g_b1 : n0 ≤ b1 := Nat.le_trans (own_sz O0) (Nat.le_of_eq g1.symm)
  have sz_b1 : h0.size ≤ b1 := Nat.le_trans (Keep.refl h0 []).1 (Nat.le_of_eq g1.symm)
  have O1 := O0.ext E1
  have K1 : Keep h0 h1 [] := (Keep.refl h0 []).ext E1
  have V_b1 : Arv Z h1 b1 k1 .byte (3 : Int32) [(.int (0 : Int32)), (.int (0 : Int32)), (.int (0 : Int32))] (.int (0 : Int32)) := (Arv.new A1 (by decide)).pad (pad_rep [] (.int (0 : Int32)) 3)
  obtain ⟨cl2, Ar2, q2, S2, Nn2, H2, G2⟩ := id V_b1
  have hin2 : ¬ ((0 : Int32) < 0 ∨ cl2.slots.size ≤ ((0 : Int32)).toNatClampNeg) := inb_of S2 ⟨by decide, by decide⟩
  obtain ⟨T3, h3, X3, e3, W3, st3⟩ := stB X1 hx hZ e1 Ar2 (j := (0 : Int32)) hin2 (g := (mkF m 79 #[.val (.int p1), .val (.int p2), .val (.int (p1 &&& (7 : Int32))), .val (.int (p2.toInt8.toInt32)), .val (.int (((p2.toUInt32 >>> ((8 : Int32) &&& 31).toUInt32).toInt32).toInt8.toInt32)), .val (.int (((p2.toUInt32 >>> ((16 : Int32) &&& 31).toUInt32).toInt32).toInt8.toInt32)), .val (.int (((p2.toUInt32 >>> ((24 : Int32) &&& 31).toUInt32).toInt32).toInt8.toInt32))] [(.int (p2.toInt8.toInt32)), (.int (0 : Int32)), (.ref b1), (.ref b1)])) rfl rfl (hb hby d2_79)
  have N3 := Fr.snoc X3 N0 g_b1
  have O3 := O1.wr W3 g_b1
  have K3 : Keep h0 h3 [] := K1.wr W3 (Or.inr sz_b1)
  have V_b1_3 : Arv Z h3 b1 k1 .byte (3 : Int32) [(.int (nar .byte (p2.toInt8.toInt32))), (.int (0 : Int32)), (.int (0 : Int32))] (.int (0 : Int32)) := Arv.set Ar2 q2 S2 Nn2 H2 G2 (fits_nar_byte _) W3 0 rfl (Nat.le_of_ble_eq_true rfl)
  obtain ⟨cl4, Ar4, q4, S4, Nn4, H4, G4⟩ := id V_b1_3
  have hin4 : ¬ ((1 : Int32) < 0 ∨ cl4.slots.size ≤ ((1 : Int32)).toNatClampNeg) := inb_of S4 ⟨by decide, by decide⟩
  obtain ⟨T5, h5, X5, e5, W5, st5⟩ := stB X3 hx hZ e3 Ar4 (j := (1 : Int32)) hin4 (g := (mkF m 84 #[.val (.int p1), .val (.int p2), .val (.int (p1 &&& (7 : Int32))), .val (.int (p2.toInt8.toInt32)), .val (.int (((p2.toUInt32 >>> ((8 : Int32) &&& 31).toUInt32).toInt32).toInt8.toInt32)), .val (.int (((p2.toUInt32 >>> ((16 : Int32) &&& 31).toUInt32).toInt32).toInt8.toInt32)), .val (.int (((p2.toUInt32 >>> ((24 : Int32) &&& 31).toUInt32).toInt32).toInt8.toInt32))] [(.int (((p2.toUInt32 >>> ((8 : Int32) &&& 31).toUInt32).toInt32).toInt8.toInt32)), (.int (1 : Int32)), (.ref b1), (.ref b1)])) rfl rfl (hb hby d2_84)
  have N5 := Fr.snoc X5 N3 g_b1
  have O5 := O3.wr W5 g_b1
  have K5 : Keep h0 h5 [] := K3.wr W5 (Or.inr sz_b1)
  have V_b1_5 : Arv Z h5 b1 k1 .byte (3 : Int32) [(.int (nar .byte (p2.toInt8.toInt32))), (.int (nar .byte (((p2.toUInt32 >>> ((8 : Int32) &&& 31).toUInt32).toInt32).toInt8.toInt32))), (.int (0 : Int32))] (.int (0 : Int32)) := Arv.set Ar4 q4 S4 Nn4 H4 G4 (fits_nar_byte _) W5 1 rfl (Nat.le_of_ble_eq_true rfl)
  obtain ⟨cl6, Ar6, q6, S6, Nn6, H6, G6⟩ := id V_b1_5
  have hin6 : ¬ ((2 : Int32) < 0 ∨ cl6.slots.size ≤ ((2 : Int32)).toNatClampNeg) := inb_of S6 ⟨by decide, by decide⟩
  obtain ⟨T7, h7, X7, e7, W7, st7⟩ := stB X5 hx hZ e5 Ar6 (j := (2 : Int32)) hin6 (g := (mkF m 89 #[.val (.int p1), .val (.int p2), .val (.int (p1 &&& (7 : Int32))), .val (.int (p2.toInt8.toInt32)), .val (.int (((p2.toUInt32 >>> ((8 : Int32) &&& 31).toUInt32).toInt32).toInt8.toInt32)), .val (.int (((p2.toUInt32 >>> ((16 : Int32) &&& 31).toUInt32).toInt32).toInt8.toInt32)), .val (.int (((p2.toUInt32 >>> ((24 : Int32) &&& 31).toUInt32).toInt32).toInt8.toInt32))] [(.int (((p2.toUInt32 >>> ((16 : Int32) &&& 31).toUInt32).toInt32).toInt8.toInt32)), (.int (2 : Int32)), (.ref b1), (.ref b1)])) rfl rfl (hb hby d2_89)
  have N7 := Fr.snoc X7 N5 g_b1
  have O7 := O5.wr W7 g_b1
  have K7 : Keep h0 h7 [] := K5.wr W7 (Or.inr sz_b1)
  have V_b1_7 : Arv Z h7 b1 k1 .byte (3 : Int32) [(.int (nar .byte (p2.toInt8.toInt32))), (.int (nar .byte (((p2.toUInt32 >>> ((8 : Int32) &&& 31).toUInt32).toInt32).toInt8.toInt32))), (.int (nar .byte (((p2.toUInt32 >>> ((16 : Int32) &&& 31).toUInt32).toInt32).toInt8.toInt32)))] (.int (0 : Int32)) := Arv.set Ar6 q6 S6 Nn6 H6 G6 (fits_nar_byte _) W7 2 rfl (Nat.le_of_ble_eq_true rfl)
  obtain ⟨fs, hr, hrun, hended, hW, hsame⟩ := X7.leave (v := some (.ref b1)) (fun h => by rw [Bd.returns] at h; cases h)
  refine ⟨_, _, pre0 _ ?_, hrun, hended, _, _, rfl, ?_, ⟨_, rfl⟩, hW, hsame.mono (by decide) (by decide)⟩
  · show Sp p e below s₁ (mkF m 0 #[.val (.int p1), .val (.int p2), .unset, .unset, .unset, .unset, .unset] []) _
    refine XS.iloadN X0.here hx rfl (hb hby d2_0) rfl ?_
    show Sp p e below s₁ (mkF m 1 #[.val (.int p1), .val (.int p2), .unset, .unset, .unset, .unset, .unset] [(.int p1)]) _
    refine XS.bipush X0.here hx rfl (hb hby d2_1) ?_
    show Sp p e below s₁ (mkF m 3 #[.val (.int p1), .val (.int p2), .unset, .unset, .unset, .unset, .unset] [(.int (7 : Int32)), (.int p1)]) _
    refine XS.iand X0.here hx rfl (hb hby d2_3) rfl ?_
    show Sp p e below s₁ (mkF m 4 #[.val (.int p1), .val (.int p2), .unset, .unset, .unset, .unset, .unset] [(.int (p1 &&& (7 : Int32)))]) _
    refine XS.istoreN X0.here hx rfl (hb hby d2_4) rfl (l' := #[.val (.int p1), .val (.int p2), .val (.int (p1 &&& (7 : Int32))), .unset, .unset, .unset, .unset]) rfl ?_
    show Sp p e below s₁ (mkF m 5 #[.val (.int p1), .val (.int p2), .val (.int (p1 &&& (7 : Int32))), .unset, .unset, .unset, .unset] []) _
    refine XS.iloadN X0.here hx rfl (hb hby d2_5) rfl ?_
    show Sp p e below s₁ (mkF m 6 #[.val (.int p1), .val (.int p2), .val (.int (p1 &&& (7 : Int32))), .unset, .unset, .unset, .unset] [(.int p2)]) _
    refine XS.i2b X0.here hx rfl (hb hby d2_6) rfl ?_
    show Sp p e below s₁ (mkF m 7 #[.val (.int p1), .val (.int p2), .val (.int (p1 &&& (7 : Int32))), .unset, .unset, .unset, .unset] [(.int (p2.toInt8.toInt32))]) _
    refine XS.istoreN X0.here hx rfl (hb hby d2_7) rfl (l' := #[.val (.int p1), .val (.int p2), .val (.int (p1 &&& (7 : Int32))), .val (.int (p2.toInt8.toInt32)), .unset, .unset, .unset]) rfl ?_
    show Sp p e below s₁ (mkF m 8 #[.val (.int p1), .val (.int p2), .val (.int (p1 &&& (7 : Int32))), .val (.int (p2.toInt8.toInt32)), .unset, .unset, .unset] []) _
    refine XS.iloadN X0.here hx rfl (hb hby d2_8) rfl ?_
    show Sp p e below s₁ (mkF m 9 #[.val (.int p1), .val (.int p2), .val (.int (p1 &&& (7 : Int32))), .val (.int (p2.toInt8.toInt32)), .unset, .unset, .unset] [(.int p2)]) _
    refine XS.bipush X0.here hx rfl (hb hby d2_9) ?_
    show Sp p e below s₁ (mkF m 11 #[.val (.int p1), .val (.int p2), .val (.int (p1 &&& (7 : Int32))), .val (.int (p2.toInt8.toInt32)), .unset, .unset, .unset] [(.int (8 : Int32)), (.int p2)]) _
    refine XS.iushr X0.here hx rfl (hb hby d2_11) rfl ?_
    show Sp p e below s₁ (mkF m 12 #[.val (.int p1), .val (.int p2), .val (.int (p1 &&& (7 : Int32))), .val (.int (p2.toInt8.toInt32)), .unset, .unset, .unset] [(.int ((p2.toUInt32 >>> ((8 : Int32) &&& 31).toUInt32).toInt32))]) _
    refine XS.i2b X0.here hx rfl (hb hby d2_12) rfl ?_
    show Sp p e below s₁ (mkF m 13 #[.val (.int p1), .val (.int p2), .val (.int (p1 &&& (7 : Int32))), .val (.int (p2.toInt8.toInt32)), .unset, .unset, .unset] [(.int (((p2.toUInt32 >>> ((8 : Int32) &&& 31).toUInt32).toInt32).toInt8.toInt32))]) _
    refine XS.istore X0.here hx rfl (hb hby d2_13) rfl (l' := #[.val (.int p1), .val (.int p2), .val (.int (p1 &&& (7 : Int32))), .val (.int (p2.toInt8.toInt32)), .val (.int (((p2.toUInt32 >>> ((8 : Int32) &&& 31).toUInt32).toInt32).toInt8.toInt32)), .unset, .unset]) rfl ?_
    show Sp p e below s₁ (mkF m 15 #[.val (.int p1), .val (.int p2), .val (.int (p1 &&& (7 : Int32))), .val (.int (p2.toInt8.toInt32)), .val (.int (((p2.toUInt32 >>> ((8 : Int32) &&& 31).toUInt32).toInt32).toInt8.toInt32)), .unset, .unset] []) _
    refine XS.iloadN X0.here hx rfl (hb hby d2_15) rfl ?_
    show Sp p e below s₁ (mkF m 16 #[.val (.int p1), .val (.int p2), .val (.int (p1 &&& (7 : Int32))), .val (.int (p2.toInt8.toInt32)), .val (.int (((p2.toUInt32 >>> ((8 : Int32) &&& 31).toUInt32).toInt32).toInt8.toInt32)), .unset, .unset] [(.int p2)]) _
    refine XS.bipush X0.here hx rfl (hb hby d2_16) ?_
    show Sp p e below s₁ (mkF m 18 #[.val (.int p1), .val (.int p2), .val (.int (p1 &&& (7 : Int32))), .val (.int (p2.toInt8.toInt32)), .val (.int (((p2.toUInt32 >>> ((8 : Int32) &&& 31).toUInt32).toInt32).toInt8.toInt32)), .unset, .unset] [(.int (16 : Int32)), (.int p2)]) _
    refine XS.iushr X0.here hx rfl (hb hby d2_18) rfl ?_
    show Sp p e below s₁ (mkF m 19 #[.val (.int p1), .val (.int p2), .val (.int (p1 &&& (7 : Int32))), .val (.int (p2.toInt8.toInt32)), .val (.int (((p2.toUInt32 >>> ((8 : Int32) &&& 31).toUInt32).toInt32).toInt8.toInt32)), .unset, .unset] [(.int ((p2.toUInt32 >>> ((16 : Int32) &&& 31).toUInt32).toInt32))]) _
    refine XS.i2b X0.here hx rfl (hb hby d2_19) rfl ?_
    show Sp p e below s₁ (mkF m 20 #[.val (.int p1), .val (.int p2), .val (.int (p1 &&& (7 : Int32))), .val (.int (p2.toInt8.toInt32)), .val (.int (((p2.toUInt32 >>> ((8 : Int32) &&& 31).toUInt32).toInt32).toInt8.toInt32)), .unset, .unset] [(.int (((p2.toUInt32 >>> ((16 : Int32) &&& 31).toUInt32).toInt32).toInt8.toInt32))]) _
    refine XS.istore X0.here hx rfl (hb hby d2_20) rfl (l' := #[.val (.int p1), .val (.int p2), .val (.int (p1 &&& (7 : Int32))), .val (.int (p2.toInt8.toInt32)), .val (.int (((p2.toUInt32 >>> ((8 : Int32) &&& 31).toUInt32).toInt32).toInt8.toInt32)), .val (.int (((p2.toUInt32 >>> ((16 : Int32) &&& 31).toUInt32).toInt32).toInt8.toInt32)), .unset]) rfl ?_
    show Sp p e below s₁ (mkF m 22 #[.val (.int p1), .val (.int p2), .val (.int (p1 &&& (7 : Int32))), .val (.int (p2.toInt8.toInt32)), .val (.int (((p2.toUInt32 >>> ((8 : Int32) &&& 31).toUInt32).toInt32).toInt8.toInt32)), .val (.int (((p2.toUInt32 >>> ((16 : Int32) &&& 31).toUInt32).toInt32).toInt8.toInt32)), .unset] []) _
    refine XS.iloadN X0.here hx rfl (hb hby d2_22) rfl ?_
    show Sp p e below s₁ (mkF m 23 #[.val (.int p1), .val (.int p2), .val (.int (p1 &&& (7 : Int32))), .val (.int (p2.toInt8.toInt32)), .val (.int (((p2.toUInt32 >>> ((8 : Int32) &&& 31).toUInt32).toInt32).toInt8.toInt32)), .val (.int (((p2.toUInt32 >>> ((16 : Int32) &&& 31).toUInt32).toInt32).toInt8.toInt32)), .unset] [(.int p2)]) _
    refine XS.bipush X0.here hx rfl (hb hby d2_23) ?_
    show Sp p e below s₁ (mkF m 25 #[.val (.int p1), .val (.int p2), .val (.int (p1 &&& (7 : Int32))), .val (.int (p2.toInt8.toInt32)), .val (.int (((p2.toUInt32 >>> ((8 : Int32) &&& 31).toUInt32).toInt32).toInt8.toInt32)), .val (.int (((p2.toUInt32 >>> ((16 : Int32) &&& 31).toUInt32).toInt32).toInt8.toInt32)), .unset] [(.int (24 : Int32)), (.int p2)]) _
    refine XS.iushr X0.here hx rfl (hb hby d2_25) rfl ?_
    show Sp p e below s₁ (mkF m 26 #[.val (.int p1), .val (.int p2), .val (.int (p1 &&& (7 : Int32))), .val (.int (p2.toInt8.toInt32)), .val (.int (((p2.toUInt32 >>> ((8 : Int32) &&& 31).toUInt32).toInt32).toInt8.toInt32)), .val (.int (((p2.toUInt32 >>> ((16 : Int32) &&& 31).toUInt32).toInt32).toInt8.toInt32)), .unset] [(.int ((p2.toUInt32 >>> ((24 : Int32) &&& 31).toUInt32).toInt32))]) _
    refine XS.i2b X0.here hx rfl (hb hby d2_26) rfl ?_
    show Sp p e below s₁ (mkF m 27 #[.val (.int p1), .val (.int p2), .val (.int (p1 &&& (7 : Int32))), .val (.int (p2.toInt8.toInt32)), .val (.int (((p2.toUInt32 >>> ((8 : Int32) &&& 31).toUInt32).toInt32).toInt8.toInt32)), .val (.int (((p2.toUInt32 >>> ((16 : Int32) &&& 31).toUInt32).toInt32).toInt8.toInt32)), .unset] [(.int (((p2.toUInt32 >>> ((24 : Int32) &&& 31).toUInt32).toInt32).toInt8.toInt32))]) _
    refine XS.istore X0.here hx rfl (hb hby d2_27) rfl (l' := #[.val (.int p1), .val (.int p2), .val (.int (p1 &&& (7 : Int32))), .val (.int (p2.toInt8.toInt32)), .val (.int (((p2.toUInt32 >>> ((8 : Int32) &&& 31).toUInt32).toInt32).toInt8.toInt32)), .val (.int (((p2.toUInt32 >>> ((16 : Int32) &&& 31).toUInt32).toInt32).toInt8.toInt32)), .val (.int (((p2.toUInt32 >>> ((24 : Int32) &&& 31).toUInt32).toInt32).toInt8.toInt32))]) rfl ?_
    show Sp p e below s₁ (mkF m 29 #[.val (.int p1), .val (.int p2), .val (.int (p1 &&& (7 : Int32))), .val (.int (p2.toInt8.toInt32)), .val (.int (((p2.toUInt32 >>> ((8 : Int32) &&& 31).toUInt32).toInt32).toInt8.toInt32)), .val (.int (((p2.toUInt32 >>> ((16 : Int32) &&& 31).toUInt32).toInt32).toInt8.toInt32)), .val (.int (((p2.toUInt32 >>> ((24 : Int32) &&& 31).toUInt32).toInt32).toInt8.toInt32))] []) _
    refine XS.iloadN X0.here hx rfl (hb hby d2_29) rfl ?_
    show Sp p e below s₁ (mkF m 30 #[.val (.int p1), .val (.int p2), .val (.int (p1 &&& (7 : Int32))), .val (.int (p2.toInt8.toInt32)), .val (.int (((p2.toUInt32 >>> ((8 : Int32) &&& 31).toUInt32).toInt32).toInt8.toInt32)), .val (.int (((p2.toUInt32 >>> ((16 : Int32) &&& 31).toUInt32).toInt32).toInt8.toInt32)), .val (.int (((p2.toUInt32 >>> ((24 : Int32) &&& 31).toUInt32).toInt32).toInt8.toInt32))] [(.int (p1 &&& (7 : Int32)))]) _
    refine XS.ifYes X0.here hx rfl (pc0 := 30) (pc' := 37) rfl (hb hby d2_30) rfl ((if0 _ _).trans (feq hc1).2) (by decide) (by decide) ?_
    show Sp p e below s₁ (mkF m 37 #[.val (.int p1), .val (.int p2), .val (.int (p1 &&& (7 : Int32))), .val (.int (p2.toInt8.toInt32)), .val (.int (((p2.toUInt32 >>> ((8 : Int32) &&& 31).toUInt32).toInt32).toInt8.toInt32)), .val (.int (((p2.toUInt32 >>> ((16 : Int32) &&& 31).toUInt32).toInt32).toInt8.toInt32)), .val (.int (((p2.toUInt32 >>> ((24 : Int32) &&& 31).toUInt32).toInt32).toInt8.toInt32))] []) _
    refine XS.iloadN X0.here hx rfl (hb hby d2_37) rfl ?_
    show Sp p e below s₁ (mkF m 38 #[.val (.int p1), .val (.int p2), .val (.int (p1 &&& (7 : Int32))), .val (.int (p2.toInt8.toInt32)), .val (.int (((p2.toUInt32 >>> ((8 : Int32) &&& 31).toUInt32).toInt32).toInt8.toInt32)), .val (.int (((p2.toUInt32 >>> ((16 : Int32) &&& 31).toUInt32).toInt32).toInt8.toInt32)), .val (.int (((p2.toUInt32 >>> ((24 : Int32) &&& 31).toUInt32).toInt32).toInt8.toInt32))] [(.int (p1 &&& (7 : Int32)))]) _
    refine XS.iconst X0.here hx rfl (hb hby d2_38) ?_
    show Sp p e below s₁ (mkF m 39 #[.val (.int p1), .val (.int p2), .val (.int (p1 &&& (7 : Int32))), .val (.int (p2.toInt8.toInt32)), .val (.int (((p2.toUInt32 >>> ((8 : Int32) &&& 31).toUInt32).toInt32).toInt8.toInt32)), .val (.int (((p2.toUInt32 >>> ((16 : Int32) &&& 31).toUInt32).toInt32).toInt8.toInt32)), .val (.int (((p2.toUInt32 >>> ((24 : Int32) &&& 31).toUInt32).toInt32).toInt8.toInt32))] [(.int (1 : Int32)), (.int (p1 &&& (7 : Int32)))]) _
    refine XS.icmpYes X0.here hx rfl (pc0 := 39) (pc' := 50) rfl (hb hby d2_39) rfl (feq hc2).2 (by decide) (by decide) ?_
    show Sp p e below s₁ (mkF m 50 #[.val (.int p1), .val (.int p2), .val (.int (p1 &&& (7 : Int32))), .val (.int (p2.toInt8.toInt32)), .val (.int (((p2.toUInt32 >>> ((8 : Int32) &&& 31).toUInt32).toInt32).toInt8.toInt32)), .val (.int (((p2.toUInt32 >>> ((16 : Int32) &&& 31).toUInt32).toInt32).toInt8.toInt32)), .val (.int (((p2.toUInt32 >>> ((24 : Int32) &&& 31).toUInt32).toInt32).toInt8.toInt32))] []) _
    refine XS.iloadN X0.here hx rfl (hb hby d2_50) rfl ?_
    show Sp p e below s₁ (mkF m 51 #[.val (.int p1), .val (.int p2), .val (.int (p1 &&& (7 : Int32))), .val (.int (p2.toInt8.toInt32)), .val (.int (((p2.toUInt32 >>> ((8 : Int32) &&& 31).toUInt32).toInt32).toInt8.toInt32)), .val (.int (((p2.toUInt32 >>> ((16 : Int32) &&& 31).toUInt32).toInt32).toInt8.toInt32)), .val (.int (((p2.toUInt32 >>> ((24 : Int32) &&& 31).toUInt32).toInt32).toInt8.toInt32))] [(.int (p1 &&& (7 : Int32)))]) _
    refine XS.iconst X0.here hx rfl (hb hby d2_51) ?_
    show Sp p e below s₁ (mkF m 52 #[.val (.int p1), .val (.int p2), .val (.int (p1 &&& (7 : Int32))), .val (.int (p2.toInt8.toInt32)), .val (.int (((p2.toUInt32 >>> ((8 : Int32) &&& 31).toUInt32).toInt32).toInt8.toInt32)), .val (.int (((p2.toUInt32 >>> ((16 : Int32) &&& 31).toUInt32).toInt32).toInt8.toInt32)), .val (.int (((p2.toUInt32 >>> ((24 : Int32) &&& 31).toUInt32).toInt32).toInt8.toInt32))] [(.int (2 : Int32)), (.int (p1 &&& (7 : Int32)))]) _
    refine XS.icmpYes X0.here hx rfl (pc0 := 52) (pc' := 68) rfl (hb hby d2_52) rfl (feq hc3).2 (by decide) (by decide) ?_
    show Sp p e below s₁ (mkF m 68 #[.val (.int p1), .val (.int p2), .val (.int (p1 &&& (7 : Int32))), .val (.int (p2.toInt8.toInt32)), .val (.int (((p2.toUInt32 >>> ((8 : Int32) &&& 31).toUInt32).toInt32).toInt8.toInt32)), .val (.int (((p2.toUInt32 >>> ((16 : Int32) &&& 31).toUInt32).toInt32).toInt8.toInt32)), .val (.int (((p2.toUInt32 >>> ((24 : Int32) &&& 31).toUInt32).toInt32).toInt8.toInt32))] []) _
    refine XS.iloadN X0.here hx rfl (hb hby d2_68) rfl ?_
    show Sp p e below s₁ (mkF m 69 #[.val (.int p1), .val (.int p2), .val (.int (p1 &&& (7 : Int32))), .val (.int (p2.toInt8.toInt32)), .val (.int (((p2.toUInt32 >>> ((8 : Int32) &&& 31).toUInt32).toInt32).toInt8.toInt32)), .val (.int (((p2.toUInt32 >>> ((16 : Int32) &&& 31).toUInt32).toInt32).toInt8.toInt32)), .val (.int (((p2.toUInt32 >>> ((24 : Int32) &&& 31).toUInt32).toInt32).toInt8.toInt32))] [(.int (p1 &&& (7 : Int32)))]) _
    refine XS.iconst X0.here hx rfl (hb hby d2_69) ?_
    show Sp p e below s₁ (mkF m 70 #[.val (.int p1), .val (.int p2), .val (.int (p1 &&& (7 : Int32))), .val (.int (p2.toInt8.toInt32)), .val (.int (((p2.toUInt32 >>> ((8 : Int32) &&& 31).toUInt32).toInt32).toInt8.toInt32)), .val (.int (((p2.toUInt32 >>> ((16 : Int32) &&& 31).toUInt32).toInt32).toInt8.toInt32)), .val (.int (((p2.toUInt32 >>> ((24 : Int32) &&& 31).toUInt32).toInt32).toInt8.toInt32))] [(.int (3 : Int32)), (.int (p1 &&& (7 : Int32)))]) _
    refine XS.icmpNo X0.here hx rfl (hb hby d2_70) rfl (teq hc4).2 ?_
    show Sp p e below s₁ (mkF m 73 #[.val (.int p1), .val (.int p2), .val (.int (p1 &&& (7 : Int32))), .val (.int (p2.toInt8.toInt32)), .val (.int (((p2.toUInt32 >>> ((8 : Int32) &&& 31).toUInt32).toInt32).toInt8.toInt32)), .val (.int (((p2.toUInt32 >>> ((16 : Int32) &&& 31).toUInt32).toInt32).toInt8.toInt32)), .val (.int (((p2.toUInt32 >>> ((24 : Int32) &&& 31).toUInt32).toInt32).toInt8.toInt32))] []) _
    refine XS.iconst X0.here hx rfl (hb hby d2_73) ?_
    show Sp p e below s₁ (mkF m 74 #[.val (.int p1), .val (.int p2), .val (.int (p1 &&& (7 : Int32))), .val (.int (p2.toInt8.toInt32)), .val (.int (((p2.toUInt32 >>> ((8 : Int32) &&& 31).toUInt32).toInt32).toInt8.toInt32)), .val (.int (((p2.toUInt32 >>> ((16 : Int32) &&& 31).toUInt32).toInt32).toInt8.toInt32)), .val (.int (((p2.toUInt32 >>> ((24 : Int32) &&& 31).toUInt32).toInt32).toInt8.toInt32))] [(.int (3 : Int32))]) _
    refine st1 _ ?_
    show Sp p e below T1 (mkF m 76 #[.val (.int p1), .val (.int p2), .val (.int (p1 &&& (7 : Int32))), .val (.int (p2.toInt8.toInt32)), .val (.int (((p2.toUInt32 >>> ((8 : Int32) &&& 31).toUInt32).toInt32).toInt8.toInt32)), .val (.int (((p2.toUInt32 >>> ((16 : Int32) &&& 31).toUInt32).toInt32).toInt8.toInt32)), .val (.int (((p2.toUInt32 >>> ((24 : Int32) &&& 31).toUInt32).toInt32).toInt8.toInt32))] [(.ref b1)]) _
    refine XS.dup X1.here hx rfl (hb hby d2_76) rfl rfl ?_
    show Sp p e below T1 (mkF m 77 #[.val (.int p1), .val (.int p2), .val (.int (p1 &&& (7 : Int32))), .val (.int (p2.toInt8.toInt32)), .val (.int (((p2.toUInt32 >>> ((8 : Int32) &&& 31).toUInt32).toInt32).toInt8.toInt32)), .val (.int (((p2.toUInt32 >>> ((16 : Int32) &&& 31).toUInt32).toInt32).toInt8.toInt32)), .val (.int (((p2.toUInt32 >>> ((24 : Int32) &&& 31).toUInt32).toInt32).toInt8.toInt32))] [(.ref b1), (.ref b1)]) _
    refine XS.iconst X1.here hx rfl (hb hby d2_77) ?_
    show Sp p e below T1 (mkF m 78 #[.val (.int p1), .val (.int p2), .val (.int (p1 &&& (7 : Int32))), .val (.int (p2.toInt8.toInt32)), .val (.int (((p2.toUInt32 >>> ((8 : Int32) &&& 31).toUInt32).toInt32).toInt8.toInt32)), .val (.int (((p2.toUInt32 >>> ((16 : Int32) &&& 31).toUInt32).toInt32).toInt8.toInt32)), .val (.int (((p2.toUInt32 >>> ((24 : Int32) &&& 31).toUInt32).toInt32).toInt8.toInt32))] [(.int (0 : Int32)), (.ref b1), (.ref b1)]) _
    refine XS.iloadN X1.here hx rfl (hb hby d2_78) rfl ?_
    show Sp p e below T1 (mkF m 79 #[.val (.int p1), .val (.int p2), .val (.int (p1 &&& (7 : Int32))), .val (.int (p2.toInt8.toInt32)), .val (.int (((p2.toUInt32 >>> ((8 : Int32) &&& 31).toUInt32).toInt32).toInt8.toInt32)), .val (.int (((p2.toUInt32 >>> ((16 : Int32) &&& 31).toUInt32).toInt32).toInt8.toInt32)), .val (.int (((p2.toUInt32 >>> ((24 : Int32) &&& 31).toUInt32).toInt32).toInt8.toInt32))] [(.int (p2.toInt8.toInt32)), (.int (0 : Int32)), (.ref b1), (.ref b1)]) _
    refine st3 _ ?_
    show Sp p e below T3 (mkF m 80 #[.val (.int p1), .val (.int p2), .val (.int (p1 &&& (7 : Int32))), .val (.int (p2.toInt8.toInt32)), .val (.int (((p2.toUInt32 >>> ((8 : Int32) &&& 31).toUInt32).toInt32).toInt8.toInt32)), .val (.int (((p2.toUInt32 >>> ((16 : Int32) &&& 31).toUInt32).toInt32).toInt8.toInt32)), .val (.int (((p2.toUInt32 >>> ((24 : Int32) &&& 31).toUInt32).toInt32).toInt8.toInt32))] [(.ref b1)]) _
    refine XS.dup X3.here hx rfl (hb hby d2_80) rfl rfl ?_
    show Sp p e below T3 (mkF m 81 #[.val (.int p1), .val (.int p2), .val (.int (p1 &&& (7 : Int32))), .val (.int (p2.toInt8.toInt32)), .val (.int (((p2.toUInt32 >>> ((8 : Int32) &&& 31).toUInt32).toInt32).toInt8.toInt32)), .val (.int (((p2.toUInt32 >>> ((16 : Int32) &&& 31).toUInt32).toInt32).toInt8.toInt32)), .val (.int (((p2.toUInt32 >>> ((24 : Int32) &&& 31).toUInt32).toInt32).toInt8.toInt32))] [(.ref b1), (.ref b1)]) _
    refine XS.iconst X3.here hx rfl (hb hby d2_81) ?_
    show Sp p e below T3 (mkF m 82 #[.val (.int p1), .val (.int p2), .val (.int (p1 &&& (7 : Int32))), .val (.int (p2.toInt8.toInt32)), .val (.int (((p2.toUInt32 >>> ((8 : Int32) &&& 31).toUInt32).toInt32).toInt8.toInt32)), .val (.int (((p2.toUInt32 >>> ((16 : Int32) &&& 31).toUInt32).toInt32).toInt8.toInt32)), .val (.int (((p2.toUInt32 >>> ((24 : Int32) &&& 31).toUInt32).toInt32).toInt8.toInt32))] [(.int (1 : Int32)), (.ref b1), (.ref b1)]) _
    refine XS.iload X3.here hx rfl (hb hby d2_82) rfl ?_
    show Sp p e below T3 (mkF m 84 #[.val (.int p1), .val (.int p2), .val (.int (p1 &&& (7 : Int32))), .val (.int (p2.toInt8.toInt32)), .val (.int (((p2.toUInt32 >>> ((8 : Int32) &&& 31).toUInt32).toInt32).toInt8.toInt32)), .val (.int (((p2.toUInt32 >>> ((16 : Int32) &&& 31).toUInt32).toInt32).toInt8.toInt32)), .val (.int (((p2.toUInt32 >>> ((24 : Int32) &&& 31).toUInt32).toInt32).toInt8.toInt32))] [(.int (((p2.toUInt32 >>> ((8 : Int32) &&& 31).toUInt32).toInt32).toInt8.toInt32)), (.int (1 : Int32)), (.ref b1), (.ref b1)]) _
    refine st5 _ ?_
    show Sp p e below T5 (mkF m 85 #[.val (.int p1), .val (.int p2), .val (.int (p1 &&& (7 : Int32))), .val (.int (p2.toInt8.toInt32)), .val (.int (((p2.toUInt32 >>> ((8 : Int32) &&& 31).toUInt32).toInt32).toInt8.toInt32)), .val (.int (((p2.toUInt32 >>> ((16 : Int32) &&& 31).toUInt32).toInt32).toInt8.toInt32)), .val (.int (((p2.toUInt32 >>> ((24 : Int32) &&& 31).toUInt32).toInt32).toInt8.toInt32))] [(.ref b1)]) _
    refine XS.dup X5.here hx rfl (hb hby d2_85) rfl rfl ?_
    show Sp p e below T5 (mkF m 86 #[.val (.int p1), .val (.int p2), .val (.int (p1 &&& (7 : Int32))), .val (.int (p2.toInt8.toInt32)), .val (.int (((p2.toUInt32 >>> ((8 : Int32) &&& 31).toUInt32).toInt32).toInt8.toInt32)), .val (.int (((p2.toUInt32 >>> ((16 : Int32) &&& 31).toUInt32).toInt32).toInt8.toInt32)), .val (.int (((p2.toUInt32 >>> ((24 : Int32) &&& 31).toUInt32).toInt32).toInt8.toInt32))] [(.ref b1), (.ref b1)]) _
    refine XS.iconst X5.here hx rfl (hb hby d2_86) ?_
    show Sp p e below T5 (mkF m 87 #[.val (.int p1), .val (.int p2), .val (.int (p1 &&& (7 : Int32))), .val (.int (p2.toInt8.toInt32)), .val (.int (((p2.toUInt32 >>> ((8 : Int32) &&& 31).toUInt32).toInt32).toInt8.toInt32)), .val (.int (((p2.toUInt32 >>> ((16 : Int32) &&& 31).toUInt32).toInt32).toInt8.toInt32)), .val (.int (((p2.toUInt32 >>> ((24 : Int32) &&& 31).toUInt32).toInt32).toInt8.toInt32))] [(.int (2 : Int32)), (.ref b1), (.ref b1)]) _
    refine XS.iload X5.here hx rfl (hb hby d2_87) rfl ?_
    show Sp p e below T5 (mkF m 89 #[.val (.int p1), .val (.int p2), .val (.int (p1 &&& (7 : Int32))), .val (.int (p2.toInt8.toInt32)), .val (.int (((p2.toUInt32 >>> ((8 : Int32) &&& 31).toUInt32).toInt32).toInt8.toInt32)), .val (.int (((p2.toUInt32 >>> ((16 : Int32) &&& 31).toUInt32).toInt32).toInt8.toInt32)), .val (.int (((p2.toUInt32 >>> ((24 : Int32) &&& 31).toUInt32).toInt32).toInt8.toInt32))] [(.int (((p2.toUInt32 >>> ((16 : Int32) &&& 31).toUInt32).toInt32).toInt8.toInt32)), (.int (2 : Int32)), (.ref b1), (.ref b1)]) _
    refine st7 _ ?_
    show Sp p e below T7 (mkF m 90 #[.val (.int p1), .val (.int p2), .val (.int (p1 &&& (7 : Int32))), .val (.int (p2.toInt8.toInt32)), .val (.int (((p2.toUInt32 >>> ((8 : Int32) &&& 31).toUInt32).toInt32).toInt8.toInt32)), .val (.int (((p2.toUInt32 >>> ((16 : Int32) &&& 31).toUInt32).toInt32).toInt8.toInt32)), .val (.int (((p2.toUInt32 >>> ((24 : Int32) &&& 31).toUInt32).toInt32).toInt8.toInt32))] [(.ref b1)]) _
    jvm_step X7.here [X7.here.top, hx, (hb hby d2_90), X7.method', Bd.returns, Value.isRef, FieldType.isReference]
    first | (intro acts; rw [hr _ acts rfl rfl rfl]) | rw [hr _ _ rfl rfl rfl]
    exact Steps.refl _
  · show Q22 Z w_XML_INVALID w_STATUS_UNAVAILABLE w_IMPORTED w_IMPORTED_WITH_WARNINGS p1 p2 h0 n0 _ T7.heap _
    rw [e7]
    exact ⟨b1, k1, rfl, N7, K7, sz_b1, (((EA1.wr W3).wr W5).wr W7), V_b1_7⟩
def Q23 (Z : State) (w_XML_INVALID : Addr) (w_STATUS_UNAVAILABLE : Addr) (w_IMPORTED : Addr) (w_IMPORTED_WITH_WARNINGS : Addr) (a1 : Addr) (a2 : Addr) (a3 : Addr) (k_a3 : ClassId) (p5 : Int32) (p6 : Int32) (p7 : Int32) (h0 : Heap) (n0 : Nat) (v : Option Value) (h : Heap) (L : List Loc) : Prop := ∃ (b3 : Addr), v = none ∧ Fr n0 L ∧ Keep h0 h [a1] ∧ h0.size ≤ b3 ∧ Exa Z h a1 "com/example/epcrtools/epcrtools/exchange/SubmissionStatus" ∧ Fld Z h a1 "com/example/epcrtools/epcrtools/exchange/SubmissionStatus" "report" "[B" (.ref b3) ∧ Fld Z h a1 "com/example/epcrtools/epcrtools/exchange/SubmissionStatus" "statusCode" "Lcom/example/epcrtools/epcrtools/exchange/StatusCode;" (.ref a2) ∧ Exa Z h b3 "[B" ∧ Arv Z h b3 k_a3 .byte (3 : Int32) [(.int p5), (.int p6), (.int p7)] (.int (0 : Int32))
set_option maxRecDepth 65536 in
set_option maxHeartbeats 40000000 in
theorem rm23 (l : Launch) (Z : State) (a0 : Array Value) (hw : ∀ d ∈ tables_1, d.before a0 Z = true) (ws : List Jvm.Cond) (w_XML_INVALID w_STATUS_UNAVAILABLE w_IMPORTED w_IMPORTED_WITH_WARNINGS : Addr) (hp : Perm Z w_XML_INVALID w_STATUS_UNAVAILABLE w_IMPORTED w_IMPORTED_WITH_WARNINGS) (a1 : Addr) (a2 : Addr) (a3 : Addr) (k_a3 : ClassId) (p5 : Int32) (p6 : Int32) (p7 : Int32) (h0 : Heap) (n0 : Nat) (O0 : Old Z n0 h0) (E_a1 : Exa Z h0 a1 "com/example/epcrtools/epcrtools/exchange/SubmissionStatus") (F_statusCode_a1 : Fld Z h0 a1 "com/example/epcrtools/epcrtools/exchange/SubmissionStatus" "statusCode" "Lcom/example/epcrtools/epcrtools/exchange/StatusCode;" .null) (F_report_a1 : Fld Z h0 a1 "com/example/epcrtools/epcrtools/exchange/SubmissionStatus" "report" "[B" .null) (g_a1 : n0 ≤ a1) (V_a3 : Arv Z h0 a3 k_a3 .byte (3 : Int32) [(.int p5), (.int p6), (.int p7)] (.int (0 : Int32))) (ne_a1_a3 : a1 ≠ a3) (E_a3 : Exa Z h0 a3 "[B") :
    MetFree l y2 (head1 (Jvm.Cond.code y2 prog_13_method_1_code 3 none :: ws) ({ frames := 1, cells := 1, slots := 3, locals := 15 } : Room)) (fun a U => a = #[(.ref a1), (.ref a2), (.ref a3)] ∧ Z.Warmed39 U.vm ∧ U.heap = h0) (fun _ _ _ _ _ => True) (fun _ U o U' => ∃ v L, o = .returned v ∧ Q23 Z w_XML_INVALID w_STATUS_UNAVAILABLE w_IMPORTED w_IMPORTED_WITH_WARNINGS a1 a2 a3 k_a3 p5 p6 p7 h0 n0 v U'.heap L ∧ FrameEnd U o U' L ({ frames := 1, cells := 1, slots := 3, locals := 15 } : Room).cells ({ frames := 1, cells := 1, slots := 3, locals := 15 } : Room).slots) := by
  refine MetFree.of_bodySF (plainFor_of_name pn_3) hisR ?_
  intro p e s m args below meth c s₁ Bd hml0 hP hK
  obtain ⟨rfl, hZ, hh⟩ := hP
  have hx := Bd.exec
  have hby := Bd.bytes
  have hml : c.maxLocals = 3 := hml0
  have hown : s.vm.findClass "com/example/epcrtools/epcrtools/exchange/SubmissionStatus" = some m.cls := findClass_of_methodNamed Bd.named
  have hnm := (name_of_methodNamed Bd.named Bd.method).1
  have X0 : Stand p l e ({ frames := 1, cells := 1, slots := 3, locals := 15 } : Room) s m #[(.ref a1), (.ref a2), (.ref a3)] below meth c s₁ [] 0 0 := Stand.of_body Bd
  have e0 : s₁.heap = h0 := by rw [← hh, Bd.state]; rfl
  have N0 := Fr.nil n0
  have hp' := hp
  obtain ⟨S_w_XML_INVALID, E_w_XML_INVALID, S_w_STATUS_UNAVAILABLE, E_w_STATUS_UNAVAILABLE, S_w_IMPORTED, E_w_IMPORTED, S_w_IMPORTED_WITH_WARNINGS, E_w_IMPORTED_WITH_WARNINGS⟩ := hp'
  have pre0 : ∀ t, Steps p.tables e below (s₁.setTop (mkF m 0 #[.val (.ref a1), .val (.ref a2), .val (.ref a3)] [])) t → Steps p.tables e below (s₁.setTop (entryFrame m #[(.ref a1), (.ref a2), (.ref a3)] 3)) t := fun t k => castTop (ef_3_0 m a1 a2 a3) k
  obtain ⟨T1, X1, e1, st1⟩ := initO X0 hx hZ hown (hw _ (List.mem_of_getElem? (i := 17) rfl)) (hw _ (List.mem_of_getElem? (i := 18) rfl)) (hw _ (List.mem_of_getElem? (i := 19) rfl)) e0 (g := (mkF m 1 #[.val (.ref a1), .val (.ref a2), .val (.ref a3)] [(.ref a1)])) rfl (by rw [hml]; rfl) rfl (hb hby d3_1) (by decide) (W := 0) (by show 2 * 0 + _ ≤ _; exact Nat.le_of_eq rfl) (by decide)
  obtain ⟨T2, h2, X2, e2, W2, st2⟩ := putF X1 hx hZ hown (host := "") (Or.inl (hw _ (List.mem_of_getElem? (i := 20) rfl))) Via.refl e1 F_statusCode_a1 E_a1 (Or.inr ⟨(hw _ (List.mem_of_getElem? (i := 21) rfl)), rfl, hnm⟩) (hw _ (List.mem_of_getElem? (i := 12) rfl)) (ty := (.object "com/example/epcrtools/epcrtools/exchange/StatusCode")) (by decide) rfl rfl (g := (mkF m 6 #[.val (.ref a1), .val (.ref a2), .val (.ref a3)] [(.ref a2), (.ref a1)])) rfl rfl (hb hby d3_6)
  have N2 := Fr.snoc X2 N0 g_a1
  have O2 := O0.wr W2 g_a1
  have K2 : Keep h0 h2 [a1] := (Keep.refl h0 [a1]).wr W2 (Or.inl (List.mem_of_getElem? (i := 0) rfl))
  have Fw2 := F_statusCode_a1.same W2
  obtain ⟨T3, h3, X3, e3, E3, A3, EA3, st3⟩ := cloneH X2 hx hZ hown (hw _ (List.mem_of_getElem? (i := 22) rfl)) (hw _ (List.mem_of_getElem? (i := 23) rfl)) (hw _ (List.mem_of_getElem? (i := 27) rfl)) (hw _ (List.mem_of_getElem? (i := 25) rfl)) (hw _ (List.mem_of_getElem? (i := 26) rfl)) (hw _ (List.mem_of_getElem? (i := 28) rfl)) e2 (Arv.arh (V_a3.other W2 (Ne.symm ne_a1_a3))) (E_a3.wr W2) (g := (mkF m 11 #[.val (.ref a1), .val (.ref a2), .val (.ref a3)] [(.ref a3), (.ref a1)])) rfl (by rw [hml]; rfl) rfl (hb hby d3_11) (by decide) (W := 1) (cap := 3) (by show 2 * 0 + _ ≤ _; exact Nat.le_of_eq rfl) (by decide) (by decide) (by decide) (by decide)
  obtain ⟨b3, g3⟩ : ∃ z, z = h2.size := ⟨_, rfl⟩
  rw [← g3] at A3 EA3 st3
  have g_b3 : n0 ≤ b3 := Nat.le_trans (own_sz O2) (Nat.le_of_eq g3.symm)
  have sz_b3 : h0.size ≤ b3 := Nat.le_trans K2.1 (Nat.le_of_eq g3.symm)
  have O3 := O2.ext E3
  have K3 : Keep h0 h3 [a1] := K2.ext E3
  have V_b3 : Arv Z h3 b3 k_a3 .byte (3 : Int32) [(.int p5), (.int p6), (.int p7)] (.int (0 : Int32)) := A3
  obtain ⟨T4, X4, e4, st4⟩ := castY X3 hx hZ hown (hw _ (List.mem_of_getElem? (i := 29) rfl)) e3 (Ins.self EA3) (g := (mkF m 14 #[.val (.ref a1), .val (.ref a2), .val (.ref a3)] [(.ref b3), (.ref a1)])) rfl rfl (hb hby d3_14)
  obtain ⟨T5, h5, X5, e5, W5, st5⟩ := putF X4 hx hZ hown (host := "") (Or.inl (hw _ (List.mem_of_getElem? (i := 31) rfl))) Via.refl e4 ((F_report_a1.other W2 (Or.inr (sn0 hw))).ext E3) ((E_a1.wr W2).ext E3) (Or.inr ⟨(hw _ (List.mem_of_getElem? (i := 32) rfl)), rfl, hnm⟩) (hw _ (List.mem_of_getElem? (i := 12) rfl)) (ty := (.array .byte)) (by decide) rfl rfl (g := (mkF m 17 #[.val (.ref a1), .val (.ref a2), .val (.ref a3)] [(.ref b3), (.ref a1)])) rfl rfl (hb hby d3_17)
  have N5 := Fr.snoc X5 N2 g_a1
  have O5 := O3.wr W5 g_a1
  have K5 : Keep h0 h5 [a1] := K3.wr W5 (Or.inl (List.mem_of_getElem? (i := 0) rfl))
  have Fw5 := ((F_report_a1.other W2 (Or.inr (sn0 hw))).ext E3).same W5
  have f_6 := (V_b3.other W5 (Ne.symm (Nat.ne_of_lt (Nat.lt_of_lt_of_le E_a1.lt sz_b3))))
  obtain ⟨fs, hr, hrun, hended, hW, hsame⟩ := X5.leave (v := none) (fun _ => rfl)
  refine ⟨_, _, pre0 _ ?_, hrun, hended, _, _, rfl, ?_, ⟨_, rfl⟩, hW, hsame.mono (by decide) (by decide)⟩
  · show Sp p e below s₁ (mkF m 0 #[.val (.ref a1), .val (.ref a2), .val (.ref a3)] []) _
    refine XS.aloadN X0.here hx rfl (hb hby d3_0) rfl rfl ?_
    show Sp p e below s₁ (mkF m 1 #[.val (.ref a1), .val (.ref a2), .val (.ref a3)] [(.ref a1)]) _
    refine st1 _ ?_
    show Sp p e below T1 (mkF m 4 #[.val (.ref a1), .val (.ref a2), .val (.ref a3)] []) _
    refine XS.aloadN X1.here hx rfl (hb hby d3_4) rfl rfl ?_
    show Sp p e below T1 (mkF m 5 #[.val (.ref a1), .val (.ref a2), .val (.ref a3)] [(.ref a1)]) _
    refine XS.aloadN X1.here hx rfl (hb hby d3_5) rfl rfl ?_
    show Sp p e below T1 (mkF m 6 #[.val (.ref a1), .val (.ref a2), .val (.ref a3)] [(.ref a2), (.ref a1)]) _
    refine st2 _ ?_
    show Sp p e below T2 (mkF m 9 #[.val (.ref a1), .val (.ref a2), .val (.ref a3)] []) _
    refine XS.aloadN X2.here hx rfl (hb hby d3_9) rfl rfl ?_
    show Sp p e below T2 (mkF m 10 #[.val (.ref a1), .val (.ref a2), .val (.ref a3)] [(.ref a1)]) _
    refine XS.aloadN X2.here hx rfl (hb hby d3_10) rfl rfl ?_
    show Sp p e below T2 (mkF m 11 #[.val (.ref a1), .val (.ref a2), .val (.ref a3)] [(.ref a3), (.ref a1)]) _
    refine st3 _ ?_
    show Sp p e below T3 (mkF m 14 #[.val (.ref a1), .val (.ref a2), .val (.ref a3)] [(.ref b3), (.ref a1)]) _
    refine st4 _ ?_
    show Sp p e below T4 (mkF m 17 #[.val (.ref a1), .val (.ref a2), .val (.ref a3)] [(.ref b3), (.ref a1)]) _
    refine st5 _ ?_
    show Sp p e below T5 (mkF m 20 #[.val (.ref a1), .val (.ref a2), .val (.ref a3)] []) _
    exact X5.returnOut hx Bd.returns (hb hby d3_20) hr
  · show Q23 Z w_XML_INVALID w_STATUS_UNAVAILABLE w_IMPORTED w_IMPORTED_WITH_WARNINGS a1 a2 a3 k_a3 p5 p6 p7 h0 n0 _ T5.heap _
    rw [e5]
    exact ⟨b3, rfl, N5, K5, sz_b3, (((E_a1.wr W2).ext E3).wr W5), Fw5, ((Fw2.ext E3).other W5 (Or.inr (sn1 hw))), (EA3.wr W5), f_6⟩
def Q24 (Z : State) (w_XML_INVALID : Addr) (w_STATUS_UNAVAILABLE : Addr) (w_IMPORTED : Addr) (w_IMPORTED_WITH_WARNINGS : Addr) (a1 : Addr) (a2 : Addr) (k_a2 : ClassId) (p4 : Int32) (p5 : Int32) (p6 : Int32) (h0 : Heap) (n0 : Nat) (v : Option Value) (h : Heap) (L : List Loc) : Prop := v = some (.int (3 : Int32)) ∧ Fr n0 L ∧ h = h0
set_option maxRecDepth 65536 in
set_option maxHeartbeats 40000000 in
theorem rm24 (l : Launch) (Z : State) (a0 : Array Value) (hw : ∀ d ∈ tables_1, d.before a0 Z = true) (ws : List Jvm.Cond) (w_XML_INVALID w_STATUS_UNAVAILABLE w_IMPORTED w_IMPORTED_WITH_WARNINGS : Addr) (hp : Perm Z w_XML_INVALID w_STATUS_UNAVAILABLE w_IMPORTED w_IMPORTED_WITH_WARNINGS) (a1 : Addr) (a2 : Addr) (k_a2 : ClassId) (p4 : Int32) (p5 : Int32) (p6 : Int32) (h0 : Heap) (n0 : Nat) (O0 : Old Z n0 h0) (F_report_a1 : Fld Z h0 a1 "com/example/epcrtools/epcrtools/exchange/SubmissionStatus" "report" "[B" (.ref a2)) (V_a2 : Arv Z h0 a2 k_a2 .byte (3 : Int32) [(.int p4), (.int p5), (.int p6)] (.int (0 : Int32))) :
    MetFree l y3 (head1 (Jvm.Cond.code y3 prog_13_method_6_code 1 (some .int) :: ws) ({ frames := 0, cells := 0, slots := 0, locals := 0 } : Room)) (fun a U => a = #[(.ref a1)] ∧ Z.Warmed39 U.vm ∧ U.heap = h0) (fun _ _ _ _ _ => True) (fun _ U o U' => ∃ v L, o = .returned v ∧ Q24 Z w_XML_INVALID w_STATUS_UNAVAILABLE w_IMPORTED w_IMPORTED_WITH_WARNINGS a1 a2 k_a2 p4 p5 p6 h0 n0 v U'.heap L ∧ FrameEnd U o U' L ({ frames := 0, cells := 0, slots := 0, locals := 0 } : Room).cells ({ frames := 0, cells := 0, slots := 0, locals := 0 } : Room).slots) := by
  refine MetFree.of_bodySF (plainFor_of_name pn_3) hisR ?_
  intro p e s m args below meth c s₁ Bd hml0 hP hK
  obtain ⟨rfl, hZ, hh⟩ := hP
  have hx := Bd.exec
  have hby := Bd.bytes
  have hml : c.maxLocals = 1 := hml0
  have hown : s.vm.findClass "com/example/epcrtools/epcrtools/exchange/SubmissionStatus" = some m.cls := findClass_of_methodNamed Bd.named
  have hnm := (name_of_methodNamed Bd.named Bd.method).1
  have X0 : Stand p l e ({ frames := 0, cells := 0, slots := 0, locals := 0 } : Room) s m #[(.ref a1)] below meth c s₁ [] 0 0 := Stand.of_body Bd
  have e0 : s₁.heap = h0 := by rw [← hh, Bd.state]; rfl
  have N0 := Fr.nil n0
  have hp' := hp
  obtain ⟨S_w_XML_INVALID, E_w_XML_INVALID, S_w_STATUS_UNAVAILABLE, E_w_STATUS_UNAVAILABLE, S_w_IMPORTED, E_w_IMPORTED, S_w_IMPORTED_WITH_WARNINGS, E_w_IMPORTED_WITH_WARNINGS⟩ := hp'
  have pre0 : ∀ t, Steps p.tables e below (s₁.setTop (mkF m 0 #[.val (.ref a1)] [])) t → Steps p.tables e below (s₁.setTop (entryFrame m #[(.ref a1)] 1)) t := fun t k => castTop (ef_5_0 m a1) k
  obtain ⟨T1, X1, e1, st1⟩ := getF X0 hx hZ hown (host := "") (Or.inl (hw _ (List.mem_of_getElem? (i := 31) rfl))) Via.refl e0 F_report_a1 (g := (mkF m 1 #[.val (.ref a1)] [(.ref a1)])) rfl rfl (hb hby d5_1)
  obtain ⟨T2, X2, e2, st2⟩ := getF X1 hx hZ hown (host := "") (Or.inl (hw _ (List.mem_of_getElem? (i := 31) rfl))) Via.refl e1 F_report_a1 (g := (mkF m 12 #[.val (.ref a1)] [(.ref a1)])) rfl rfl (hb hby d5_12)
  obtain ⟨cl3, Ar3, -, S3, Nn3, -, -⟩ := id V_a2
  obtain ⟨fs, hr, hrun, hended, hW, hsame⟩ := X2.leave (v := some (.int (3 : Int32))) (fun h => by rw [Bd.returns] at h; cases h)
  refine ⟨_, _, pre0 _ ?_, hrun, hended, _, _, rfl, ?_, ⟨_, rfl⟩, hW, hsame.mono (by decide) (by decide)⟩
  · show Sp p e below s₁ (mkF m 0 #[.val (.ref a1)] []) _
    refine XS.aloadN X0.here hx rfl (hb hby d5_0) rfl rfl ?_
    show Sp p e below s₁ (mkF m 1 #[.val (.ref a1)] [(.ref a1)]) _
    refine st1 _ ?_
    show Sp p e below T1 (mkF m 4 #[.val (.ref a1)] [(.ref a2)]) _
    refine XS.ifnonnullYes X1.here hx rfl (pc0 := 4) (pc' := 11) rfl (hb hby d5_4) rfl (by decide) (by decide) ?_
    show Sp p e below T1 (mkF m 11 #[.val (.ref a1)] []) _
    refine XS.aloadN X1.here hx rfl (hb hby d5_11) rfl rfl ?_
    show Sp p e below T1 (mkF m 12 #[.val (.ref a1)] [(.ref a1)]) _
    refine st2 _ ?_
    show Sp p e below T2 (mkF m 15 #[.val (.ref a1)] [(.ref a2)]) _
    refine X2.arraylength hx (by rw [e2]; exact Ar3.1) (State.isArrayOf_alike hZ.alike Ar3.2.1) (g := (mkF m 15 #[.val (.ref a1)] [(.ref a2)])) rfl rfl (hb hby d5_15) _ ?_
    rw [len_of S3 Nn3]
    show Sp p e below T2 (mkF m 16 #[.val (.ref a1)] [(.int (3 : Int32))]) _
    exact retI X2 hx Bd.returns (hb hby d5_16) hr
  · show Q24 Z w_XML_INVALID w_STATUS_UNAVAILABLE w_IMPORTED w_IMPORTED_WITH_WARNINGS a1 a2 k_a2 p4 p5 p6 h0 n0 _ T2.heap _
    rw [e2]
    exact ⟨rfl, N0, rfl⟩
set_option maxRecDepth 65536 in
set_option maxHeartbeats 40000000 in
theorem rm25 (l : Launch) (Z : State) (a0 : Array Value) (hw : ∀ d ∈ tables_1, d.before a0 Z = true) (ws : List Jvm.Cond) (w_XML_INVALID w_STATUS_UNAVAILABLE w_IMPORTED w_IMPORTED_WITH_WARNINGS : Addr) (hp : Perm Z w_XML_INVALID w_STATUS_UNAVAILABLE w_IMPORTED w_IMPORTED_WITH_WARNINGS) (p0 : Int32) (p1 : Int32) (p2 : Int32) (p3 : Int32) (h0 : Heap) (n0 : Nat) (O0 : Old Z n0 h0) (hc1 : (p0 &&& (1 : Int32)) = (0 : Int32)) (hc2 : ¬ ((p1 &&& (7 : Int32)) = (0 : Int32))) (hc3 : ¬ ((p1 &&& (7 : Int32)) = (1 : Int32))) (hc4 : ¬ ((p1 &&& (7 : Int32)) = (2 : Int32))) (hc5 : (p1 &&& (7 : Int32)) = (3 : Int32)) :
    MetFree l x (head1 (Jvm.Cond.code x code maxLocals ret :: ws) room_1) (fun a U => a = #[(.int p0), (.int p1), (.int p2), (.int p3)] ∧ Z.Warmed39 U.vm ∧ U.heap = h0) (fun _ _ _ _ _ => True) (fun _ U o U' => ∃ v L, o = .returned v ∧ (v = some (.int (1 : Int32)) ∧ Fr n0 L) ∧ FrameEnd U o U' L 16 896) := by
  refine MetFree.of_bodySF (plainFor_of_name pn_1) hisR ?_
  intro p e s m args below meth c s₁ Bd hml0 hP hK
  obtain ⟨rfl, hZ, hh⟩ := hP
  have hx := Bd.exec
  have hby := Bd.bytes
  have hml : c.maxLocals = 8 := hml0
  have hown : s.vm.findClass "com/example/epcrtools/epcrtools/exchange/SubmissionStatusSizePinLaw" = some m.cls := findClass_of_methodNamed Bd.named
  have hnm := (name_of_methodNamed Bd.named Bd.method).1
  have X0 : Stand p l e room_1 s m #[(.int p0), (.int p1), (.int p2), (.int p3)] below meth c s₁ [] 0 0 := Stand.of_body Bd
  have e0 : s₁.heap = h0 := by rw [← hh, Bd.state]; rfl
  have N0 := Fr.nil n0
  have hp' := hp
  obtain ⟨S_w_XML_INVALID, E_w_XML_INVALID, S_w_STATUS_UNAVAILABLE, E_w_STATUS_UNAVAILABLE, S_w_IMPORTED, E_w_IMPORTED, S_w_IMPORTED_WITH_WARNINGS, E_w_IMPORTED_WITH_WARNINGS⟩ := hp'
  have pre0 : ∀ t, Steps p.tables e below (s₁.setTop (mkF m 0 #[.val (.int p0), .val (.int p1), .val (.int p2), .val (.int p3), .unset, .unset, .unset, .unset] [])) t → Steps p.tables e below (s₁.setTop (entryFrame m #[(.int p0), (.int p1), (.int p2), (.int p3)] maxLocals)) t := fun t k => castTop (ef_0_0 m p0 p1 p2 p3) k
  obtain ⟨_, _, ⟨T1, L1, k1, n1⟩, -, X1, ⟨Lc1, hQ1, l1, y1, z1⟩, st1⟩ := Jvm.LawKit.callS X0 hx (y := y0) hown (mvT hZ (hw _ (List.mem_of_getElem? (i := 0) rfl))) (mvT hZ (hw _ (List.mem_of_getElem? (i := 1) rfl))) (mvT hZ (hw _ (List.mem_of_getElem? (i := 2) rfl))) (mvT hZ (hw _ (List.mem_of_getElem? (i := 3) rfl))) (by decide) (backOf (W := 0) (rmM1 l Z a0 hw [] w_XML_INVALID w_STATUS_UNAVAILABLE w_IMPORTED w_IMPORTED_WITH_WARNINGS hp p3 h0 n0 O0) hZ (hw _ (List.mem_of_getElem? (i := 3) rfl)) (hw _ (List.mem_of_getElem? (i := 2) rfl)) (by decide) (by decide)) (g := (mkF m 1 #[.val (.int p0), .val (.int p1), .val (.int p2), .val (.int p3), .unset, .unset, .unset, .unset] [(.int p3)])) rfl (by rw [hml]; rfl) (argsL := [(.int p3)]) (rest := []) (lenOf pd_0 rfl) rfl (by show 2 * 0 + _ ≤ _; exact Nat.le_of_eq rfl) (hb hby at_1) (fun _ _ => ⟨rfl, e0, (by decide : 0 + 0 ≤ _), (by decide : 0 + 0 ≤ _)⟩)
  dsimp only [Pt.U, Pt.locs, Pt.cells, Pt.slots] at X1 l1 y1 z1 st1 hQ1
  subst l1 y1 z1
  obtain ⟨c1_0, rfl, Nq1, eq1, oq1_0⟩ := hQ1
  have N1 := Fr.app N0 Nq1
  obtain ⟨_, _, ⟨T2, L2, k2, n2⟩, -, X2, ⟨Lc2, hQ2, l2, y2, z2⟩, st2⟩ := Jvm.LawKit.callS X1 hx (y := y1) hown (mvT hZ (hw _ (List.mem_of_getElem? (i := 7) rfl))) (mvT hZ (hw _ (List.mem_of_getElem? (i := 8) rfl))) (mvT hZ (hw _ (List.mem_of_getElem? (i := 2) rfl))) (mvT hZ (hw _ (List.mem_of_getElem? (i := 9) rfl))) (by decide) (backOf (W := 0) (rm22 l Z a0 hw [] w_XML_INVALID w_STATUS_UNAVAILABLE w_IMPORTED w_IMPORTED_WITH_WARNINGS hp p1 p2 h0 n0 O0 hc2 hc3 hc4 hc5) hZ (hw _ (List.mem_of_getElem? (i := 9) rfl)) (hw _ (List.mem_of_getElem? (i := 2) rfl)) (by decide) (by decide)) (g := (mkF m 45 #[.val (.int p0), .val (.int p1), .val (.int p2), .val (.int p3), .val (.ref c1_0), .unset, .unset, .unset] [(.int p2), (.int p1)])) rfl (by rw [hml]; rfl) (argsL := [(.int p1), (.int p2)]) (rest := []) (lenOf pd_1 rfl) rfl (by show 2 * 0 + _ ≤ _; exact Nat.le_of_eq rfl) (hb hby at_45) (fun _ _ => ⟨rfl, eq1, (by decide : 0 + 1 ≤ _), (by decide : 0 + 3 ≤ _)⟩)
  dsimp only [Pt.U, Pt.locs, Pt.cells, Pt.slots] at X2 l2 y2 z2 st2 hQ2
  subst l2 y2 z2
  obtain ⟨b2_0, kc2_0, rfl, Nq2, Kq2, sq_b2_0, fq2_0, fq2_1⟩ := hQ2
  have N2 := Fr.app N1 Nq2
  have g_b2_0 : n0 ≤ b2_0 := Nat.le_trans (own_sz O0) sq_b2_0
  have sz_b2_0 : h0.size ≤ b2_0 := Nat.le_trans (Keep.refl h0 []).1 sq_b2_0
  have O2 := O0.keep Kq2 all0
  have K2 : Keep h0 T2.heap [] := (Keep.refl h0 []).trans Kq2 all0
  obtain ⟨cl3, Ar3, -, S3, Nn3, -, -⟩ := id fq2_1
  obtain ⟨T4, h4, X4, e4, E4, A4, D4, -, st4⟩ := newO X2 hx hZ hown (hw _ (List.mem_of_getElem? (i := 11) rfl)) (hw _ (List.mem_of_getElem? (i := 12) rfl)) (hw _ (List.mem_of_getElem? (i := 13) rfl)) rfl (g := (mkF m 55 #[.val (.int p0), .val (.int p1), .val (.int p2), .val (.int p3), .val (.ref c1_0), .val (.ref b2_0), .val (.int (3 : Int32)), .unset] [])) rfl (hb hby at_55) (by decide) (by decide)
  obtain ⟨b4, g4⟩ : ∃ z, z = T2.heap.size := ⟨_, rfl⟩
  rw [← g4] at A4 D4 st4
  have g_b4 : n0 ≤ b4 := Nat.le_trans (own_sz O2) (Nat.le_of_eq g4.symm)
  have sz_b4 : h0.size ≤ b4 := Nat.le_trans K2.1 (Nat.le_of_eq g4.symm)
  have O4 := O2.ext E4
  have K4 : Keep h0 h4 [] := K2.ext E4
  have F_statusCode_b4 : Fld Z h4 b4 "com/example/epcrtools/epcrtools/exchange/SubmissionStatus" "statusCode" "Lcom/example/epcrtools/epcrtools/exchange/StatusCode;" .null := D4 (Or.inr (hw _ (List.mem_of_getElem? (i := 21) rfl))) (ty := (.object "com/example/epcrtools/epcrtools/exchange/StatusCode")) (by decide)
  have F_report_b4 : Fld Z h4 b4 "com/example/epcrtools/epcrtools/exchange/SubmissionStatus" "report" "[B" .null := D4 (Or.inr (hw _ (List.mem_of_getElem? (i := 32) rfl))) (ty := (.array .byte)) (by decide)
  obtain ⟨_, _, ⟨T5, L5, k5, n5⟩, -, X5, ⟨Lc5, hQ5, l5, y5, z5⟩, st5⟩ := X4.specialBack hx (y := y2) rfl hown (mvT hZ (hw _ (List.mem_of_getElem? (i := 14) rfl))) (mvT hZ (hw _ (List.mem_of_getElem? (i := 15) rfl))) (mvT hZ (hw _ (List.mem_of_getElem? (i := 16) rfl))) (by decide) (backOf (W := 1) (rm23 l Z a0 hw [] w_XML_INVALID w_STATUS_UNAVAILABLE w_IMPORTED w_IMPORTED_WITH_WARNINGS hp b4 c1_0 b2_0 kc2_0 (nar .byte (p2.toInt8.toInt32)) (nar .byte (((p2.toUInt32 >>> ((8 : Int32) &&& 31).toUInt32).toInt32).toInt8.toInt32)) (nar .byte (((p2.toUInt32 >>> ((16 : Int32) &&& 31).toUInt32).toInt32).toInt8.toInt32)) h4 n0 O4 A4 F_statusCode_b4 F_report_b4 g_b4 (fq2_1.ext E4) (Ne.symm (Nat.ne_of_lt (Nat.lt_of_lt_of_le fq2_0.lt (Nat.le_of_eq g4.symm)))) (fq2_0.ext E4)) hZ (hw _ (List.mem_of_getElem? (i := 16) rfl)) (hw _ (List.mem_of_getElem? (i := 13) rfl)) (by decide) (by decide)) (g := (mkF m 63 #[.val (.int p0), .val (.int p1), .val (.int p2), .val (.int p3), .val (.ref c1_0), .val (.ref b2_0), .val (.int (3 : Int32)), .unset] [(.ref b2_0), (.ref c1_0), (.ref b4), (.ref b4)])) rfl (by rw [hml]; rfl) (Steps.refl _) (a := b4) (argsL := [(.ref c1_0), (.ref b2_0)]) (rest := [(.ref b4)]) (lenOf pd_2 rfl) rfl (by show 2 * 0 + _ ≤ _; exact Nat.le_of_eq rfl) (hb hby at_63) (fun _ _ => ⟨rfl, e4, (by decide : 2 + 1 ≤ _), (by decide : 5 + 3 ≤ _)⟩)
  dsimp only [Pt.U, Pt.locs, Pt.cells, Pt.slots] at X5 l5 y5 z5 st5 hQ5
  subst l5 y5 z5
  obtain ⟨b5_0, rfl, Nq5, Kq5, sq_b5_0, fq5_0, fq5_1, fq5_2, fq5_3, fq5_4⟩ := hQ5
  have N5 := Fr.app N2 Nq5
  have g_b5_0 : n0 ≤ b5_0 := Nat.le_trans (own_sz O4) sq_b5_0
  have sz_b5_0 : h0.size ≤ b5_0 := Nat.le_trans K4.1 sq_b5_0
  have O5 := O4.keep Kq5 (allS g_b4 all0)
  have K5 : Keep h0 T5.heap [] := K4.trans Kq5 (allS (Or.inr sz_b4) all0)
  have f_6 := ((fq2_1.ext E4).keep Kq5 (ninS (Nat.ne_of_lt (Nat.lt_of_lt_of_le fq2_0.lt (Nat.le_of_eq g4.symm))) nin0))
  obtain ⟨cl7, Ar7, -, S7, -, H7, -⟩ := id f_6
  have hin7 : ¬ ((0 : Int32) < 0 ∨ cl7.slots.size ≤ ((0 : Int32)).toNatClampNeg) := inb_of S7 ⟨by decide, by decide⟩
  have hat7 : cl7.slots[((0 : Int32)).toNatClampNeg]? = some (.int (nar .byte (p2.toInt8.toInt32))) := H7.at hin7 rfl
  obtain ⟨cl8, Ar8, q8, S8, Nn8, H8, G8⟩ := id f_6
  have hin8 : ¬ ((0 : Int32) < 0 ∨ cl8.slots.size ≤ ((0 : Int32)).toNatClampNeg) := inb_of S8 ⟨by decide, by decide⟩
  obtain ⟨T9, h9, X9, e9, W9, st9⟩ := stB X5 hx hZ rfl Ar8 (j := (0 : Int32)) hin8 (g := (mkF m 83 #[.val (.int p0), .val (.int p1), .val (.int p2), .val (.int p3), .val (.ref c1_0), .val (.ref b2_0), .val (.int (3 : Int32)), .val (.ref b4)] [(.int (((nar .byte (p2.toInt8.toInt32)) + (1 : Int32)).toInt8.toInt32)), (.int (0 : Int32)), (.ref b2_0)])) rfl rfl (hb hby at_83)
  have N9 := Fr.snoc X9 N5 g_b2_0
  have O9 := O5.wr W9 g_b2_0
  have K9 : Keep h0 h9 [] := K5.wr W9 (Or.inr sz_b2_0)
  have V_b2_0_9 : Arv Z h9 b2_0 kc2_0 .byte (3 : Int32) [(.int (nar .byte (((nar .byte (p2.toInt8.toInt32)) + (1 : Int32)).toInt8.toInt32))), (.int (nar .byte (((p2.toUInt32 >>> ((8 : Int32) &&& 31).toUInt32).toInt32).toInt8.toInt32))), (.int (nar .byte (((p2.toUInt32 >>> ((16 : Int32) &&& 31).toUInt32).toInt32).toInt8.toInt32)))] (.int (0 : Int32)) := Arv.set Ar8 q8 S8 Nn8 H8 G8 (fits_nar_byte _) W9 0 rfl (Nat.le_of_ble_eq_true rfl)
  have f_10 := (fq5_1.other W9 (Or.inl (Ne.symm (Nat.ne_of_lt (Nat.lt_of_lt_of_le fq2_0.lt (Nat.le_of_eq g4.symm))))))
  have f_11 := (fq5_4.other W9 (Ne.symm (Nat.ne_of_lt (Nat.lt_of_lt_of_le (fq2_0.ext E4).lt sq_b5_0))))
  obtain ⟨cq12, kq12, q12a, q12b, q12c⟩ := isOf hZ e9 (fq5_0.wr W9)
  obtain ⟨_, _, ⟨T12, L12, k12, n12⟩, -, X12, ⟨Lc12, hQ12, l12, y12, z12⟩, st12⟩ := X9.virtualBack hx (y := y3) (z := y3) hown (mvT hZ (hw _ (List.mem_of_getElem? (i := 33) rfl))) (mvT hZ (hw _ (List.mem_of_getElem? (i := 34) rfl))) (notFace_of_selects (args := #[]) (mvT hZ (hw _ (List.mem_of_getElem? (i := 36) rfl)))) (mvT hZ (hw _ (List.mem_of_getElem? (i := 36) rfl))) (mvT hZ (hw _ (List.mem_of_getElem? (i := 35) rfl))) (by decide) (backOf (W := 0) (rm24 l Z a0 hw [] w_XML_INVALID w_STATUS_UNAVAILABLE w_IMPORTED w_IMPORTED_WITH_WARNINGS hp b4 b5_0 kc2_0 (nar .byte (p2.toInt8.toInt32)) (nar .byte (((p2.toUInt32 >>> ((8 : Int32) &&& 31).toUInt32).toInt32).toInt8.toInt32)) (nar .byte (((p2.toUInt32 >>> ((16 : Int32) &&& 31).toUInt32).toInt32).toInt8.toInt32)) h9 n0 O9 f_10 f_11) hZ (hw _ (List.mem_of_getElem? (i := 37) rfl)) (hw _ (List.mem_of_getElem? (i := 13) rfl)) (by decide) (by decide)) q12a q12c (g := (mkF m 86 #[.val (.int p0), .val (.int p1), .val (.int p2), .val (.int p3), .val (.ref c1_0), .val (.ref b2_0), .val (.int (3 : Int32)), .val (.ref b4)] [(.ref b4)])) rfl (by rw [hml]; rfl) (Steps.refl _) (argsL := []) (rest := []) (lenOf pd_3 rfl) rfl (by show 2 * 0 + _ ≤ _; exact Nat.le_of_eq rfl) (hb hby at_86) (fun _ _ => ⟨rfl, e9, (by decide : 3 + 0 ≤ _), (by decide : 8 + 0 ≤ _)⟩)
  dsimp only [Pt.U, Pt.locs, Pt.cells, Pt.slots] at X12 l12 y12 z12 st12 hQ12
  subst l12 y12 z12
  obtain ⟨rfl, Nq12, eq12⟩ := hQ12
  have N12 := Fr.app N9 Nq12
  have f_13 := (fq5_2.other W9 (Or.inl (Ne.symm (Nat.ne_of_lt (Nat.lt_of_lt_of_le fq2_0.lt (Nat.le_of_eq g4.symm))))))
  obtain ⟨cq14, kq14, q14a, q14b, q14c⟩ := isOf hZ eq12 (fq5_0.wr W9)
  obtain ⟨_, _, ⟨T14, L14, k14, n14⟩, -, X14, ⟨Lc14, hQ14, l14, y14, z14⟩, st14⟩ := X12.virtualBack hx (y := y4) (z := y4) hown (mvT hZ (hw _ (List.mem_of_getElem? (i := 38) rfl))) (mvT hZ (hw _ (List.mem_of_getElem? (i := 39) rfl))) (notFace_of_selects (args := #[]) (mvT hZ (hw _ (List.mem_of_getElem? (i := 41) rfl)))) (mvT hZ (hw _ (List.mem_of_getElem? (i := 41) rfl))) (mvT hZ (hw _ (List.mem_of_getElem? (i := 40) rfl))) (by decide) (backOf (W := 0) (rm8 l Z a0 hw [] w_XML_INVALID w_STATUS_UNAVAILABLE w_IMPORTED w_IMPORTED_WITH_WARNINGS hp b4 c1_0 h9 n0 O9 f_13) hZ (hw _ (List.mem_of_getElem? (i := 42) rfl)) (hw _ (List.mem_of_getElem? (i := 13) rfl)) (by decide) (by decide)) q14a q14c (g := (mkF m 96 #[.val (.int p0), .val (.int p1), .val (.int p2), .val (.int p3), .val (.ref c1_0), .val (.ref b2_0), .val (.int (3 : Int32)), .val (.ref b4)] [(.ref b4)])) rfl (by rw [hml]; rfl) (Steps.refl _) (argsL := []) (rest := []) (lenOf pd_4 rfl) rfl (by show 2 * 0 + _ ≤ _; exact Nat.le_of_eq rfl) (hb hby at_96) (fun _ _ => ⟨rfl, eq12, (by decide : 3 + 0 ≤ _), (by decide : 8 + 0 ≤ _)⟩)
  dsimp only [Pt.U, Pt.locs, Pt.cells, Pt.slots] at X14 l14 y14 z14 st14 hQ14
  subst l14 y14 z14
  obtain ⟨rfl, Nq14, eq14⟩ := hQ14
  have N14 := Fr.app N12 Nq14
  obtain ⟨fs, hr, hrun, hended, hW, hsame⟩ := X14.leave (v := some (.int (1 : Int32))) (fun h => by rw [Bd.returns] at h; cases h)
  refine ⟨_, _, pre0 _ ?_, hrun, hended, _, _, rfl, ?_, ⟨_, rfl⟩, hW, hsame.mono (by decide) (by decide)⟩
  · show Sp p e below s₁ (mkF m 0 #[.val (.int p0), .val (.int p1), .val (.int p2), .val (.int p3), .unset, .unset, .unset, .unset] []) _
    refine XS.iloadN X0.here hx rfl (hb hby at_0) rfl ?_
    show Sp p e below s₁ (mkF m 1 #[.val (.int p0), .val (.int p1), .val (.int p2), .val (.int p3), .unset, .unset, .unset, .unset] [(.int p3)]) _
    refine st1 _ ?_
    show Sp p e below T1 (mkF m 4 #[.val (.int p0), .val (.int p1), .val (.int p2), .val (.int p3), .unset, .unset, .unset, .unset] [(.ref c1_0)]) _
    refine XS.astore X1.here hx rfl (hb hby at_4) rfl rfl (l' := #[.val (.int p0), .val (.int p1), .val (.int p2), .val (.int p3), .val (.ref c1_0), .unset, .unset, .unset]) rfl ?_
    show Sp p e below T1 (mkF m 6 #[.val (.int p0), .val (.int p1), .val (.int p2), .val (.int p3), .val (.ref c1_0), .unset, .unset, .unset] []) _
    refine XS.iloadN X1.here hx rfl (hb hby at_6) rfl ?_
    show Sp p e below T1 (mkF m 7 #[.val (.int p0), .val (.int p1), .val (.int p2), .val (.int p3), .val (.ref c1_0), .unset, .unset, .unset] [(.int p0)]) _
    refine XS.iconst X1.here hx rfl (hb hby at_7) ?_
    show Sp p e below T1 (mkF m 8 #[.val (.int p0), .val (.int p1), .val (.int p2), .val (.int p3), .val (.ref c1_0), .unset, .unset, .unset] [(.int (1 : Int32)), (.int p0)]) _
    refine XS.iand X1.here hx rfl (hb hby at_8) rfl ?_
    show Sp p e below T1 (mkF m 9 #[.val (.int p0), .val (.int p1), .val (.int p2), .val (.int p3), .val (.ref c1_0), .unset, .unset, .unset] [(.int (p0 &&& (1 : Int32)))]) _
    refine XS.ifYes X1.here hx rfl (pc0 := 9) (pc' := 43) rfl (hb hby at_9) rfl ((if0 _ _).trans (teq hc1).1) (by decide) (by decide) ?_
    show Sp p e below T1 (mkF m 43 #[.val (.int p0), .val (.int p1), .val (.int p2), .val (.int p3), .val (.ref c1_0), .unset, .unset, .unset] []) _
    refine XS.iloadN X1.here hx rfl (hb hby at_43) rfl ?_
    show Sp p e below T1 (mkF m 44 #[.val (.int p0), .val (.int p1), .val (.int p2), .val (.int p3), .val (.ref c1_0), .unset, .unset, .unset] [(.int p1)]) _
    refine XS.iloadN X1.here hx rfl (hb hby at_44) rfl ?_
    show Sp p e below T1 (mkF m 45 #[.val (.int p0), .val (.int p1), .val (.int p2), .val (.int p3), .val (.ref c1_0), .unset, .unset, .unset] [(.int p2), (.int p1)]) _
    refine st2 _ ?_
    show Sp p e below T2 (mkF m 48 #[.val (.int p0), .val (.int p1), .val (.int p2), .val (.int p3), .val (.ref c1_0), .unset, .unset, .unset] [(.ref b2_0)]) _
    refine XS.astore X2.here hx rfl (hb hby at_48) rfl rfl (l' := #[.val (.int p0), .val (.int p1), .val (.int p2), .val (.int p3), .val (.ref c1_0), .val (.ref b2_0), .unset, .unset]) rfl ?_
    show Sp p e below T2 (mkF m 50 #[.val (.int p0), .val (.int p1), .val (.int p2), .val (.int p3), .val (.ref c1_0), .val (.ref b2_0), .unset, .unset] []) _
    refine XS.aload X2.here hx rfl (hb hby at_50) rfl rfl ?_
    show Sp p e below T2 (mkF m 52 #[.val (.int p0), .val (.int p1), .val (.int p2), .val (.int p3), .val (.ref c1_0), .val (.ref b2_0), .unset, .unset] [(.ref b2_0)]) _
    refine X2.arraylength hx (by exact Ar3.1) (State.isArrayOf_alike hZ.alike Ar3.2.1) (g := (mkF m 52 #[.val (.int p0), .val (.int p1), .val (.int p2), .val (.int p3), .val (.ref c1_0), .val (.ref b2_0), .unset, .unset] [(.ref b2_0)])) rfl rfl (hb hby at_52) _ ?_
    rw [len_of S3 Nn3]
    show Sp p e below T2 (mkF m 53 #[.val (.int p0), .val (.int p1), .val (.int p2), .val (.int p3), .val (.ref c1_0), .val (.ref b2_0), .unset, .unset] [(.int (3 : Int32))]) _
    refine XS.istore X2.here hx rfl (hb hby at_53) rfl (l' := #[.val (.int p0), .val (.int p1), .val (.int p2), .val (.int p3), .val (.ref c1_0), .val (.ref b2_0), .val (.int (3 : Int32)), .unset]) rfl ?_
    show Sp p e below T2 (mkF m 55 #[.val (.int p0), .val (.int p1), .val (.int p2), .val (.int p3), .val (.ref c1_0), .val (.ref b2_0), .val (.int (3 : Int32)), .unset] []) _
    refine st4 _ ?_
    show Sp p e below T4 (mkF m 58 #[.val (.int p0), .val (.int p1), .val (.int p2), .val (.int p3), .val (.ref c1_0), .val (.ref b2_0), .val (.int (3 : Int32)), .unset] [(.ref b4)]) _
    refine XS.dup X4.here hx rfl (hb hby at_58) rfl rfl ?_
    show Sp p e below T4 (mkF m 59 #[.val (.int p0), .val (.int p1), .val (.int p2), .val (.int p3), .val (.ref c1_0), .val (.ref b2_0), .val (.int (3 : Int32)), .unset] [(.ref b4), (.ref b4)]) _
    refine XS.aload X4.here hx rfl (hb hby at_59) rfl rfl ?_
    show Sp p e below T4 (mkF m 61 #[.val (.int p0), .val (.int p1), .val (.int p2), .val (.int p3), .val (.ref c1_0), .val (.ref b2_0), .val (.int (3 : Int32)), .unset] [(.ref c1_0), (.ref b4), (.ref b4)]) _
    refine XS.aload X4.here hx rfl (hb hby at_61) rfl rfl ?_
    show Sp p e below T4 (mkF m 63 #[.val (.int p0), .val (.int p1), .val (.int p2), .val (.int p3), .val (.ref c1_0), .val (.ref b2_0), .val (.int (3 : Int32)), .unset] [(.ref b2_0), (.ref c1_0), (.ref b4), (.ref b4)]) _
    refine st5.trans ?_
    show Sp p e below T5 (mkF m 66 #[.val (.int p0), .val (.int p1), .val (.int p2), .val (.int p3), .val (.ref c1_0), .val (.ref b2_0), .val (.int (3 : Int32)), .unset] [(.ref b4)]) _
    refine XS.astore X5.here hx rfl (hb hby at_66) rfl rfl (l' := #[.val (.int p0), .val (.int p1), .val (.int p2), .val (.int p3), .val (.ref c1_0), .val (.ref b2_0), .val (.int (3 : Int32)), .val (.ref b4)]) rfl ?_
    show Sp p e below T5 (mkF m 68 #[.val (.int p0), .val (.int p1), .val (.int p2), .val (.int p3), .val (.ref c1_0), .val (.ref b2_0), .val (.int (3 : Int32)), .val (.ref b4)] []) _
    refine XS.iload X5.here hx rfl (hb hby at_68) rfl ?_
    show Sp p e below T5 (mkF m 70 #[.val (.int p0), .val (.int p1), .val (.int p2), .val (.int p3), .val (.ref c1_0), .val (.ref b2_0), .val (.int (3 : Int32)), .val (.ref b4)] [(.int (3 : Int32))]) _
    refine XS.ifNo X5.here hx rfl (hb hby at_70) rfl ((if0 _ _).trans (tlt (by decide : (0 : Int32) < (3 : Int32))).2.2.2) ?_
    show Sp p e below T5 (mkF m 73 #[.val (.int p0), .val (.int p1), .val (.int p2), .val (.int p3), .val (.ref c1_0), .val (.ref b2_0), .val (.int (3 : Int32)), .val (.ref b4)] []) _
    refine XS.aload X5.here hx rfl (hb hby at_73) rfl rfl ?_
    show Sp p e below T5 (mkF m 75 #[.val (.int p0), .val (.int p1), .val (.int p2), .val (.int p3), .val (.ref c1_0), .val (.ref b2_0), .val (.int (3 : Int32)), .val (.ref b4)] [(.ref b2_0)]) _
    refine XS.iconst X5.here hx rfl (hb hby at_75) ?_
    show Sp p e below T5 (mkF m 76 #[.val (.int p0), .val (.int p1), .val (.int p2), .val (.int p3), .val (.ref c1_0), .val (.ref b2_0), .val (.int (3 : Int32)), .val (.ref b4)] [(.int (0 : Int32)), (.ref b2_0)]) _
    refine XS.aload X5.here hx rfl (hb hby at_76) rfl rfl ?_
    show Sp p e below T5 (mkF m 78 #[.val (.int p0), .val (.int p1), .val (.int p2), .val (.int p3), .val (.ref c1_0), .val (.ref b2_0), .val (.int (3 : Int32)), .val (.ref b4)] [(.ref b2_0), (.int (0 : Int32)), (.ref b2_0)]) _
    refine XS.iconst X5.here hx rfl (hb hby at_78) ?_
    show Sp p e below T5 (mkF m 79 #[.val (.int p0), .val (.int p1), .val (.int p2), .val (.int p3), .val (.ref c1_0), .val (.ref b2_0), .val (.int (3 : Int32)), .val (.ref b4)] [(.int (0 : Int32)), (.ref b2_0), (.int (0 : Int32)), (.ref b2_0)]) _
    refine X5.baloadBytes hx (j := (0 : Int32)) (v := (.int (nar .byte (p2.toInt8.toInt32)))) (by exact Ar7.1) (State.isArrayOf_alike hZ.alike Ar7.2.1) Ar7.2.2 hin7 hat7 (g := (mkF m 79 #[.val (.int p0), .val (.int p1), .val (.int p2), .val (.int p3), .val (.ref c1_0), .val (.ref b2_0), .val (.int (3 : Int32)), .val (.ref b4)] [(.int (0 : Int32)), (.ref b2_0), (.int (0 : Int32)), (.ref b2_0)])) rfl rfl (hb hby at_79) _ ?_
    show Sp p e below T5 (mkF m 80 #[.val (.int p0), .val (.int p1), .val (.int p2), .val (.int p3), .val (.ref c1_0), .val (.ref b2_0), .val (.int (3 : Int32)), .val (.ref b4)] [(.int (nar .byte (p2.toInt8.toInt32))), (.int (0 : Int32)), (.ref b2_0)]) _
    refine XS.iconst X5.here hx rfl (hb hby at_80) ?_
    show Sp p e below T5 (mkF m 81 #[.val (.int p0), .val (.int p1), .val (.int p2), .val (.int p3), .val (.ref c1_0), .val (.ref b2_0), .val (.int (3 : Int32)), .val (.ref b4)] [(.int (1 : Int32)), (.int (nar .byte (p2.toInt8.toInt32))), (.int (0 : Int32)), (.ref b2_0)]) _
    refine XS.iadd X5.here hx rfl (hb hby at_81) rfl ?_
    show Sp p e below T5 (mkF m 82 #[.val (.int p0), .val (.int p1), .val (.int p2), .val (.int p3), .val (.ref c1_0), .val (.ref b2_0), .val (.int (3 : Int32)), .val (.ref b4)] [(.int ((nar .byte (p2.toInt8.toInt32)) + (1 : Int32))), (.int (0 : Int32)), (.ref b2_0)]) _
    refine XS.i2b X5.here hx rfl (hb hby at_82) rfl ?_
    show Sp p e below T5 (mkF m 83 #[.val (.int p0), .val (.int p1), .val (.int p2), .val (.int p3), .val (.ref c1_0), .val (.ref b2_0), .val (.int (3 : Int32)), .val (.ref b4)] [(.int (((nar .byte (p2.toInt8.toInt32)) + (1 : Int32)).toInt8.toInt32)), (.int (0 : Int32)), (.ref b2_0)]) _
    refine st9 _ ?_
    show Sp p e below T9 (mkF m 84 #[.val (.int p0), .val (.int p1), .val (.int p2), .val (.int p3), .val (.ref c1_0), .val (.ref b2_0), .val (.int (3 : Int32)), .val (.ref b4)] []) _
    refine XS.aload X9.here hx rfl (hb hby at_84) rfl rfl ?_
    show Sp p e below T9 (mkF m 86 #[.val (.int p0), .val (.int p1), .val (.int p2), .val (.int p3), .val (.ref c1_0), .val (.ref b2_0), .val (.int (3 : Int32)), .val (.ref b4)] [(.ref b4)]) _
    refine st12.trans ?_
    show Sp p e below T12 (mkF m 89 #[.val (.int p0), .val (.int p1), .val (.int p2), .val (.int p3), .val (.ref c1_0), .val (.ref b2_0), .val (.int (3 : Int32)), .val (.ref b4)] [(.int (3 : Int32))]) _
    refine XS.iload X12.here hx rfl (hb hby at_89) rfl ?_
    show Sp p e below T12 (mkF m 91 #[.val (.int p0), .val (.int p1), .val (.int p2), .val (.int p3), .val (.ref c1_0), .val (.ref b2_0), .val (.int (3 : Int32)), .val (.ref b4)] [(.int (3 : Int32)), (.int (3 : Int32))]) _
    refine XS.icmpNo X12.here hx rfl (hb hby at_91) rfl (teq (by decide : (3 : Int32) = (3 : Int32))).2 ?_
    show Sp p e below T12 (mkF m 94 #[.val (.int p0), .val (.int p1), .val (.int p2), .val (.int p3), .val (.ref c1_0), .val (.ref b2_0), .val (.int (3 : Int32)), .val (.ref b4)] []) _
    refine XS.aload X12.here hx rfl (hb hby at_94) rfl rfl ?_
    show Sp p e below T12 (mkF m 96 #[.val (.int p0), .val (.int p1), .val (.int p2), .val (.int p3), .val (.ref c1_0), .val (.ref b2_0), .val (.int (3 : Int32)), .val (.ref b4)] [(.ref b4)]) _
    refine st14.trans ?_
    show Sp p e below T14 (mkF m 99 #[.val (.int p0), .val (.int p1), .val (.int p2), .val (.int p3), .val (.ref c1_0), .val (.ref b2_0), .val (.int (3 : Int32)), .val (.ref b4)] [(.ref c1_0)]) _
    refine XS.aload X14.here hx rfl (hb hby at_99) rfl rfl ?_
    show Sp p e below T14 (mkF m 101 #[.val (.int p0), .val (.int p1), .val (.int p2), .val (.int p3), .val (.ref c1_0), .val (.ref b2_0), .val (.int (3 : Int32)), .val (.ref b4)] [(.ref c1_0), (.ref c1_0)]) _
    refine Jvm.RoadKit.acmp (g := (mkF m 101 #[.val (.int p0), .val (.int p1), .val (.int p2), .val (.int p3), .val (.ref c1_0), .val (.ref b2_0), .val (.int (3 : Int32)), .val (.ref b4)] [(.ref c1_0), (.ref c1_0)])) X14 hx rfl rfl rfl (pc0 := 101) (pc' := 104) (same := true) rfl (hb hby at_101) rfl (decide_eq_true rfl) (by decide) (by decide) ?_
    show Sp p e below T14 (mkF m 104 #[.val (.int p0), .val (.int p1), .val (.int p2), .val (.int p3), .val (.ref c1_0), .val (.ref b2_0), .val (.int (3 : Int32)), .val (.ref b4)] []) _
    refine XS.iconst X14.here hx rfl (hb hby at_104) ?_
    show Sp p e below T14 (mkF m 105 #[.val (.int p0), .val (.int p1), .val (.int p2), .val (.int p3), .val (.ref c1_0), .val (.ref b2_0), .val (.int (3 : Int32)), .val (.ref b4)] [(.int (1 : Int32))]) _
    refine XS.goto X14.here hx rfl (pc0 := 105) (pc' := 109) rfl (hb hby at_105) (by decide) (by decide) ?_
    show Sp p e below T14 (mkF m 109 #[.val (.int p0), .val (.int p1), .val (.int p2), .val (.int p3), .val (.ref c1_0), .val (.ref b2_0), .val (.int (3 : Int32)), .val (.ref b4)] [(.int (1 : Int32))]) _
    exact retN X14 hx (t := .boolean) Bd.returns (by simp) (hb hby at_109) hr
  · skip
    exact ⟨rfl, N14⟩
theorem d2_91 : decode method_3_code 91 = .ok (.iload_n 2, 1) := by decide +kernel
theorem d2_92 : decode method_3_code 92 = .ok (.iconst 4, 1) := by decide +kernel
theorem d2_93 : decode method_3_code 93 = .ok (.if_icmp .ne 26, 3) := by decide +kernel
theorem d2_96 : decode method_3_code 96 = .ok (.iconst 4, 1) := by decide +kernel
theorem d2_97 : decode method_3_code 97 = .ok (.newarray .byte, 2) := by decide +kernel
theorem d2_99 : decode method_3_code 99 = .ok (.dup, 1) := by decide +kernel
theorem d2_100 : decode method_3_code 100 = .ok (.iconst 0, 1) := by decide +kernel
theorem d2_101 : decode method_3_code 101 = .ok (.iload_n 3, 1) := by decide +kernel
theorem d2_102 : decode method_3_code 102 = .ok (.bastore, 1) := by decide +kernel
theorem d2_103 : decode method_3_code 103 = .ok (.dup, 1) := by decide +kernel
theorem d2_104 : decode method_3_code 104 = .ok (.iconst 1, 1) := by decide +kernel
theorem d2_105 : decode method_3_code 105 = .ok (.iload 4, 2) := by decide +kernel
theorem d2_107 : decode method_3_code 107 = .ok (.bastore, 1) := by decide +kernel
theorem d2_108 : decode method_3_code 108 = .ok (.dup, 1) := by decide +kernel
theorem d2_109 : decode method_3_code 109 = .ok (.iconst 2, 1) := by decide +kernel
theorem d2_110 : decode method_3_code 110 = .ok (.iload 5, 2) := by decide +kernel
theorem d2_112 : decode method_3_code 112 = .ok (.bastore, 1) := by decide +kernel
theorem d2_113 : decode method_3_code 113 = .ok (.dup, 1) := by decide +kernel
theorem d2_114 : decode method_3_code 114 = .ok (.iconst 3, 1) := by decide +kernel
theorem d2_115 : decode method_3_code 115 = .ok (.iload 6, 2) := by decide +kernel
theorem d2_117 : decode method_3_code 117 = .ok (.bastore, 1) := by decide +kernel
theorem d2_118 : decode method_3_code 118 = .ok (.areturn, 1) := by decide +kernel
def Q26 (Z : State) (w_XML_INVALID : Addr) (w_STATUS_UNAVAILABLE : Addr) (w_IMPORTED : Addr) (w_IMPORTED_WITH_WARNINGS : Addr) (p1 : Int32) (p2 : Int32) (h0 : Heap) (n0 : Nat) (v : Option Value) (h : Heap) (L : List Loc) : Prop := ∃ (b1 : Addr), ∃ (k1 : ClassId), v = some (.ref b1) ∧ Fr n0 L ∧ Keep h0 h [] ∧ h0.size ≤ b1 ∧ Exa Z h b1 "[B" ∧ Arv Z h b1 k1 .byte (4 : Int32) [(.int (nar .byte (p2.toInt8.toInt32))), (.int (nar .byte (((p2.toUInt32 >>> ((8 : Int32) &&& 31).toUInt32).toInt32).toInt8.toInt32))), (.int (nar .byte (((p2.toUInt32 >>> ((16 : Int32) &&& 31).toUInt32).toInt32).toInt8.toInt32))), (.int (nar .byte (((p2.toUInt32 >>> ((24 : Int32) &&& 31).toUInt32).toInt32).toInt8.toInt32)))] (.int (0 : Int32))
set_option maxRecDepth 65536 in
set_option maxHeartbeats 40000000 in
theorem rm26 (l : Launch) (Z : State) (a0 : Array Value) (hw : ∀ d ∈ tables_1, d.before a0 Z = true) (ws : List Jvm.Cond) (w_XML_INVALID w_STATUS_UNAVAILABLE w_IMPORTED w_IMPORTED_WITH_WARNINGS : Addr) (hp : Perm Z w_XML_INVALID w_STATUS_UNAVAILABLE w_IMPORTED w_IMPORTED_WITH_WARNINGS) (p1 : Int32) (p2 : Int32) (h0 : Heap) (n0 : Nat) (O0 : Old Z n0 h0) (hc1 : ¬ ((p1 &&& (7 : Int32)) = (0 : Int32))) (hc2 : ¬ ((p1 &&& (7 : Int32)) = (1 : Int32))) (hc3 : ¬ ((p1 &&& (7 : Int32)) = (2 : Int32))) (hc4 : ¬ ((p1 &&& (7 : Int32)) = (3 : Int32))) (hc5 : (p1 &&& (7 : Int32)) = (4 : Int32)) :
    MetFree l y1 (head1 (Jvm.Cond.code y1 method_3_code 7 (some (.array .byte)) :: ws) ({ frames := 0, cells := 1, slots := 4, locals := 0 } : Room)) (fun a U => a = #[(.int p1), (.int p2)] ∧ Z.Warmed39 U.vm ∧ U.heap = h0) (fun _ _ _ _ _ => True) (fun _ U o U' => ∃ v L, o = .returned v ∧ Q26 Z w_XML_INVALID w_STATUS_UNAVAILABLE w_IMPORTED w_IMPORTED_WITH_WARNINGS p1 p2 h0 n0 v U'.heap L ∧ FrameEnd U o U' L ({ frames := 0, cells := 1, slots := 4, locals := 0 } : Room).cells ({ frames := 0, cells := 1, slots := 4, locals := 0 } : Room).slots) := by
  refine MetFree.of_bodySF (plainFor_of_name pn_1) hisR ?_
  intro p e s m args below meth c s₁ Bd hml0 hP hK
  obtain ⟨rfl, hZ, hh⟩ := hP
  have hx := Bd.exec
  have hby := Bd.bytes
  have hml : c.maxLocals = 7 := hml0
  have hown : s.vm.findClass "com/example/epcrtools/epcrtools/exchange/SubmissionStatusSizePinLaw" = some m.cls := findClass_of_methodNamed Bd.named
  have hnm := (name_of_methodNamed Bd.named Bd.method).1
  have X0 : Stand p l e ({ frames := 0, cells := 1, slots := 4, locals := 0 } : Room) s m #[(.int p1), (.int p2)] below meth c s₁ [] 0 0 := Stand.of_body Bd
  have e0 : s₁.heap = h0 := by rw [← hh, Bd.state]; rfl
  have N0 := Fr.nil n0
  have hp' := hp
  obtain ⟨S_w_XML_INVALID, E_w_XML_INVALID, S_w_STATUS_UNAVAILABLE, E_w_STATUS_UNAVAILABLE, S_w_IMPORTED, E_w_IMPORTED, S_w_IMPORTED_WITH_WARNINGS, E_w_IMPORTED_WITH_WARNINGS⟩ := hp'
  have pre0 : ∀ t, Steps p.tables e below (s₁.setTop (mkF m 0 #[.val (.int p1), .val (.int p2), .unset, .unset, .unset, .unset, .unset] [])) t → Steps p.tables e below (s₁.setTop (entryFrame m #[(.int p1), (.int p2)] 7)) t := fun t k => castTop (ef_2_0 m p1 p2) k
  obtain ⟨T1, h1, k1, X1, e1, E1, A1, EA1, st1⟩ := newPE X0 hx hZ (hw _ (List.mem_of_getElem? (i := 10) rfl)) e0 (g := (mkF m 97 #[.val (.int p1), .val (.int p2), .val (.int (p1 &&& (7 : Int32))), .val (.int (p2.toInt8.toInt32)), .val (.int (((p2.toUInt32 >>> ((8 : Int32) &&& 31).toUInt32).toInt32).toInt8.toInt32)), .val (.int (((p2.toUInt32 >>> ((16 : Int32) &&& 31).toUInt32).toInt32).toInt8.toInt32)), .val (.int (((p2.toUInt32 >>> ((24 : Int32) &&& 31).toUInt32).toInt32).toInt8.toInt32))] [(.int (4 : Int32))])) rfl (hb hby d2_97) rfl (by decide) (cap := 4) (by decide) (by decide) (by decide) (by decide) (ad := "[B") (by decide)
  obtain ⟨b1, g1⟩ : ∃ z, z = h0.size := ⟨_, rfl⟩
  rw [← g1] at A1 EA1 st1
  have g_b1 : n0 ≤ b1 := Nat.le_trans (own_sz O0) (Nat.le_of_eq g1.symm)
  have sz_b1 : h0.size ≤ b1 := Nat.le_trans (Keep.refl h0 []).1 (Nat.le_of_eq g1.symm)
  have O1 := O0.ext E1
  have K1 : Keep h0 h1 [] := (Keep.refl h0 []).ext E1
  have V_b1 : Arv Z h1 b1 k1 .byte (4 : Int32) [(.int (0 : Int32)), (.int (0 : Int32)), (.int (0 : Int32)), (.int (0 : Int32))] (.int (0 : Int32)) := (Arv.new A1 (by decide)).pad (pad_rep [] (.int (0 : Int32)) 4)
  obtain ⟨cl2, Ar2, q2, S2, Nn2, H2, G2⟩ := id V_b1
  have hin2 : ¬ ((0 : Int32) < 0 ∨ cl2.slots.size ≤ ((0 : Int32)).toNatClampNeg) := inb_of S2 ⟨by decide, by decide⟩
  obtain ⟨T3, h3, X3, e3, W3, st3⟩ := stB X1 hx hZ e1 Ar2 (j := (0 : Int32)) hin2 (g := (mkF m 102 #[.val (.int p1), .val (.int p2), .val (.int (p1 &&& (7 : Int32))), .val (.int (p2.toInt8.toInt32)), .val (.int (((p2.toUInt32 >>> ((8 : Int32) &&& 31).toUInt32).toInt32).toInt8.toInt32)), .val (.int (((p2.toUInt32 >>> ((16 : Int32) &&& 31).toUInt32).toInt32).toInt8.toInt32)), .val (.int (((p2.toUInt32 >>> ((24 : Int32) &&& 31).toUInt32).toInt32).toInt8.toInt32))] [(.int (p2.toInt8.toInt32)), (.int (0 : Int32)), (.ref b1), (.ref b1)])) rfl rfl (hb hby d2_102)
  have N3 := Fr.snoc X3 N0 g_b1
  have O3 := O1.wr W3 g_b1
  have K3 : Keep h0 h3 [] := K1.wr W3 (Or.inr sz_b1)
  have V_b1_3 : Arv Z h3 b1 k1 .byte (4 : Int32) [(.int (nar .byte (p2.toInt8.toInt32))), (.int (0 : Int32)), (.int (0 : Int32)), (.int (0 : Int32))] (.int (0 : Int32)) := Arv.set Ar2 q2 S2 Nn2 H2 G2 (fits_nar_byte _) W3 0 rfl (Nat.le_of_ble_eq_true rfl)
  obtain ⟨cl4, Ar4, q4, S4, Nn4, H4, G4⟩ := id V_b1_3
  have hin4 : ¬ ((1 : Int32) < 0 ∨ cl4.slots.size ≤ ((1 : Int32)).toNatClampNeg) := inb_of S4 ⟨by decide, by decide⟩
  obtain ⟨T5, h5, X5, e5, W5, st5⟩ := stB X3 hx hZ e3 Ar4 (j := (1 : Int32)) hin4 (g := (mkF m 107 #[.val (.int p1), .val (.int p2), .val (.int (p1 &&& (7 : Int32))), .val (.int (p2.toInt8.toInt32)), .val (.int (((p2.toUInt32 >>> ((8 : Int32) &&& 31).toUInt32).toInt32).toInt8.toInt32)), .val (.int (((p2.toUInt32 >>> ((16 : Int32) &&& 31).toUInt32).toInt32).toInt8.toInt32)), .val (.int (((p2.toUInt32 >>> ((24 : Int32) &&& 31).toUInt32).toInt32).toInt8.toInt32))] [(.int (((p2.toUInt32 >>> ((8 : Int32) &&& 31).toUInt32).toInt32).toInt8.toInt32)), (.int (1 : Int32)), (.ref b1), (.ref b1)])) rfl rfl (hb hby d2_107)
  have N5 := Fr.snoc X5 N3 g_b1
  have O5 := O3.wr W5 g_b1
  have K5 : Keep h0 h5 [] := K3.wr W5 (Or.inr sz_b1)
  have V_b1_5 : Arv Z h5 b1 k1 .byte (4 : Int32) [(.int (nar .byte (p2.toInt8.toInt32))), (.int (nar .byte (((p2.toUInt32 >>> ((8 : Int32) &&& 31).toUInt32).toInt32).toInt8.toInt32))), (.int (0 : Int32)), (.int (0 : Int32))] (.int (0 : Int32)) := Arv.set Ar4 q4 S4 Nn4 H4 G4 (fits_nar_byte _) W5 1 rfl (Nat.le_of_ble_eq_true rfl)
  obtain ⟨cl6, Ar6, q6, S6, Nn6, H6, G6⟩ := id V_b1_5
  have hin6 : ¬ ((2 : Int32) < 0 ∨ cl6.slots.size ≤ ((2 : Int32)).toNatClampNeg) := inb_of S6 ⟨by decide, by decide⟩
  obtain ⟨T7, h7, X7, e7, W7, st7⟩ := stB X5 hx hZ e5 Ar6 (j := (2 : Int32)) hin6 (g := (mkF m 112 #[.val (.int p1), .val (.int p2), .val (.int (p1 &&& (7 : Int32))), .val (.int (p2.toInt8.toInt32)), .val (.int (((p2.toUInt32 >>> ((8 : Int32) &&& 31).toUInt32).toInt32).toInt8.toInt32)), .val (.int (((p2.toUInt32 >>> ((16 : Int32) &&& 31).toUInt32).toInt32).toInt8.toInt32)), .val (.int (((p2.toUInt32 >>> ((24 : Int32) &&& 31).toUInt32).toInt32).toInt8.toInt32))] [(.int (((p2.toUInt32 >>> ((16 : Int32) &&& 31).toUInt32).toInt32).toInt8.toInt32)), (.int (2 : Int32)), (.ref b1), (.ref b1)])) rfl rfl (hb hby d2_112)
  have N7 := Fr.snoc X7 N5 g_b1
  have O7 := O5.wr W7 g_b1
  have K7 : Keep h0 h7 [] := K5.wr W7 (Or.inr sz_b1)
  have V_b1_7 : Arv Z h7 b1 k1 .byte (4 : Int32) [(.int (nar .byte (p2.toInt8.toInt32))), (.int (nar .byte (((p2.toUInt32 >>> ((8 : Int32) &&& 31).toUInt32).toInt32).toInt8.toInt32))), (.int (nar .byte (((p2.toUInt32 >>> ((16 : Int32) &&& 31).toUInt32).toInt32).toInt8.toInt32))), (.int (0 : Int32))] (.int (0 : Int32)) := Arv.set Ar6 q6 S6 Nn6 H6 G6 (fits_nar_byte _) W7 2 rfl (Nat.le_of_ble_eq_true rfl)
  obtain ⟨cl8, Ar8, q8, S8, Nn8, H8, G8⟩ := id V_b1_7
  have hin8 : ¬ ((3 : Int32) < 0 ∨ cl8.slots.size ≤ ((3 : Int32)).toNatClampNeg) := inb_of S8 ⟨by decide, by decide⟩
  obtain ⟨T9, h9, X9, e9, W9, st9⟩ := stB X7 hx hZ e7 Ar8 (j := (3 : Int32)) hin8 (g := (mkF m 117 #[.val (.int p1), .val (.int p2), .val (.int (p1 &&& (7 : Int32))), .val (.int (p2.toInt8.toInt32)), .val (.int (((p2.toUInt32 >>> ((8 : Int32) &&& 31).toUInt32).toInt32).toInt8.toInt32)), .val (.int (((p2.toUInt32 >>> ((16 : Int32) &&& 31).toUInt32).toInt32).toInt8.toInt32)), .val (.int (((p2.toUInt32 >>> ((24 : Int32) &&& 31).toUInt32).toInt32).toInt8.toInt32))] [(.int (((p2.toUInt32 >>> ((24 : Int32) &&& 31).toUInt32).toInt32).toInt8.toInt32)), (.int (3 : Int32)), (.ref b1), (.ref b1)])) rfl rfl (hb hby d2_117)
  have N9 := Fr.snoc X9 N7 g_b1
  have O9 := O7.wr W9 g_b1
  have K9 : Keep h0 h9 [] := K7.wr W9 (Or.inr sz_b1)
  have V_b1_9 : Arv Z h9 b1 k1 .byte (4 : Int32) [(.int (nar .byte (p2.toInt8.toInt32))), (.int (nar .byte (((p2.toUInt32 >>> ((8 : Int32) &&& 31).toUInt32).toInt32).toInt8.toInt32))), (.int (nar .byte (((p2.toUInt32 >>> ((16 : Int32) &&& 31).toUInt32).toInt32).toInt8.toInt32))), (.int (nar .byte (((p2.toUInt32 >>> ((24 : Int32) &&& 31).toUInt32).toInt32).toInt8.toInt32)))] (.int (0 : Int32)) := Arv.set Ar8 q8 S8 Nn8 H8 G8 (fits_nar_byte _) W9 3 rfl (Nat.le_of_ble_eq_true rfl)
  obtain ⟨fs, hr, hrun, hended, hW, hsame⟩ := X9.leave (v := some (.ref b1)) (fun h => by rw [Bd.returns] at h; cases h)
  refine ⟨_, _, pre0 _ ?_, hrun, hended, _, _, rfl, ?_, ⟨_, rfl⟩, hW, hsame.mono (by decide) (by decide)⟩
  · show Sp p e below s₁ (mkF m 0 #[.val (.int p1), .val (.int p2), .unset, .unset, .unset, .unset, .unset] []) _
    refine XS.iloadN X0.here hx rfl (hb hby d2_0) rfl ?_
    show Sp p e below s₁ (mkF m 1 #[.val (.int p1), .val (.int p2), .unset, .unset, .unset, .unset, .unset] [(.int p1)]) _
    refine XS.bipush X0.here hx rfl (hb hby d2_1) ?_
    show Sp p e below s₁ (mkF m 3 #[.val (.int p1), .val (.int p2), .unset, .unset, .unset, .unset, .unset] [(.int (7 : Int32)), (.int p1)]) _
    refine XS.iand X0.here hx rfl (hb hby d2_3) rfl ?_
    show Sp p e below s₁ (mkF m 4 #[.val (.int p1), .val (.int p2), .unset, .unset, .unset, .unset, .unset] [(.int (p1 &&& (7 : Int32)))]) _
    refine XS.istoreN X0.here hx rfl (hb hby d2_4) rfl (l' := #[.val (.int p1), .val (.int p2), .val (.int (p1 &&& (7 : Int32))), .unset, .unset, .unset, .unset]) rfl ?_
    show Sp p e below s₁ (mkF m 5 #[.val (.int p1), .val (.int p2), .val (.int (p1 &&& (7 : Int32))), .unset, .unset, .unset, .unset] []) _
    refine XS.iloadN X0.here hx rfl (hb hby d2_5) rfl ?_
    show Sp p e below s₁ (mkF m 6 #[.val (.int p1), .val (.int p2), .val (.int (p1 &&& (7 : Int32))), .unset, .unset, .unset, .unset] [(.int p2)]) _
    refine XS.i2b X0.here hx rfl (hb hby d2_6) rfl ?_
    show Sp p e below s₁ (mkF m 7 #[.val (.int p1), .val (.int p2), .val (.int (p1 &&& (7 : Int32))), .unset, .unset, .unset, .unset] [(.int (p2.toInt8.toInt32))]) _
    refine XS.istoreN X0.here hx rfl (hb hby d2_7) rfl (l' := #[.val (.int p1), .val (.int p2), .val (.int (p1 &&& (7 : Int32))), .val (.int (p2.toInt8.toInt32)), .unset, .unset, .unset]) rfl ?_
    show Sp p e below s₁ (mkF m 8 #[.val (.int p1), .val (.int p2), .val (.int (p1 &&& (7 : Int32))), .val (.int (p2.toInt8.toInt32)), .unset, .unset, .unset] []) _
    refine XS.iloadN X0.here hx rfl (hb hby d2_8) rfl ?_
    show Sp p e below s₁ (mkF m 9 #[.val (.int p1), .val (.int p2), .val (.int (p1 &&& (7 : Int32))), .val (.int (p2.toInt8.toInt32)), .unset, .unset, .unset] [(.int p2)]) _
    refine XS.bipush X0.here hx rfl (hb hby d2_9) ?_
    show Sp p e below s₁ (mkF m 11 #[.val (.int p1), .val (.int p2), .val (.int (p1 &&& (7 : Int32))), .val (.int (p2.toInt8.toInt32)), .unset, .unset, .unset] [(.int (8 : Int32)), (.int p2)]) _
    refine XS.iushr X0.here hx rfl (hb hby d2_11) rfl ?_
    show Sp p e below s₁ (mkF m 12 #[.val (.int p1), .val (.int p2), .val (.int (p1 &&& (7 : Int32))), .val (.int (p2.toInt8.toInt32)), .unset, .unset, .unset] [(.int ((p2.toUInt32 >>> ((8 : Int32) &&& 31).toUInt32).toInt32))]) _
    refine XS.i2b X0.here hx rfl (hb hby d2_12) rfl ?_
    show Sp p e below s₁ (mkF m 13 #[.val (.int p1), .val (.int p2), .val (.int (p1 &&& (7 : Int32))), .val (.int (p2.toInt8.toInt32)), .unset, .unset, .unset] [(.int (((p2.toUInt32 >>> ((8 : Int32) &&& 31).toUInt32).toInt32).toInt8.toInt32))]) _
    refine XS.istore X0.here hx rfl (hb hby d2_13) rfl (l' := #[.val (.int p1), .val (.int p2), .val (.int (p1 &&& (7 : Int32))), .val (.int (p2.toInt8.toInt32)), .val (.int (((p2.toUInt32 >>> ((8 : Int32) &&& 31).toUInt32).toInt32).toInt8.toInt32)), .unset, .unset]) rfl ?_
    show Sp p e below s₁ (mkF m 15 #[.val (.int p1), .val (.int p2), .val (.int (p1 &&& (7 : Int32))), .val (.int (p2.toInt8.toInt32)), .val (.int (((p2.toUInt32 >>> ((8 : Int32) &&& 31).toUInt32).toInt32).toInt8.toInt32)), .unset, .unset] []) _
    refine XS.iloadN X0.here hx rfl (hb hby d2_15) rfl ?_
    show Sp p e below s₁ (mkF m 16 #[.val (.int p1), .val (.int p2), .val (.int (p1 &&& (7 : Int32))), .val (.int (p2.toInt8.toInt32)), .val (.int (((p2.toUInt32 >>> ((8 : Int32) &&& 31).toUInt32).toInt32).toInt8.toInt32)), .unset, .unset] [(.int p2)]) _
    refine XS.bipush X0.here hx rfl (hb hby d2_16) ?_
    show Sp p e below s₁ (mkF m 18 #[.val (.int p1), .val (.int p2), .val (.int (p1 &&& (7 : Int32))), .val (.int (p2.toInt8.toInt32)), .val (.int (((p2.toUInt32 >>> ((8 : Int32) &&& 31).toUInt32).toInt32).toInt8.toInt32)), .unset, .unset] [(.int (16 : Int32)), (.int p2)]) _
    refine XS.iushr X0.here hx rfl (hb hby d2_18) rfl ?_
    show Sp p e below s₁ (mkF m 19 #[.val (.int p1), .val (.int p2), .val (.int (p1 &&& (7 : Int32))), .val (.int (p2.toInt8.toInt32)), .val (.int (((p2.toUInt32 >>> ((8 : Int32) &&& 31).toUInt32).toInt32).toInt8.toInt32)), .unset, .unset] [(.int ((p2.toUInt32 >>> ((16 : Int32) &&& 31).toUInt32).toInt32))]) _
    refine XS.i2b X0.here hx rfl (hb hby d2_19) rfl ?_
    show Sp p e below s₁ (mkF m 20 #[.val (.int p1), .val (.int p2), .val (.int (p1 &&& (7 : Int32))), .val (.int (p2.toInt8.toInt32)), .val (.int (((p2.toUInt32 >>> ((8 : Int32) &&& 31).toUInt32).toInt32).toInt8.toInt32)), .unset, .unset] [(.int (((p2.toUInt32 >>> ((16 : Int32) &&& 31).toUInt32).toInt32).toInt8.toInt32))]) _
    refine XS.istore X0.here hx rfl (hb hby d2_20) rfl (l' := #[.val (.int p1), .val (.int p2), .val (.int (p1 &&& (7 : Int32))), .val (.int (p2.toInt8.toInt32)), .val (.int (((p2.toUInt32 >>> ((8 : Int32) &&& 31).toUInt32).toInt32).toInt8.toInt32)), .val (.int (((p2.toUInt32 >>> ((16 : Int32) &&& 31).toUInt32).toInt32).toInt8.toInt32)), .unset]) rfl ?_
    show Sp p e below s₁ (mkF m 22 #[.val (.int p1), .val (.int p2), .val (.int (p1 &&& (7 : Int32))), .val (.int (p2.toInt8.toInt32)), .val (.int (((p2.toUInt32 >>> ((8 : Int32) &&& 31).toUInt32).toInt32).toInt8.toInt32)), .val (.int (((p2.toUInt32 >>> ((16 : Int32) &&& 31).toUInt32).toInt32).toInt8.toInt32)), .unset] []) _
    refine XS.iloadN X0.here hx rfl (hb hby d2_22) rfl ?_
    show Sp p e below s₁ (mkF m 23 #[.val (.int p1), .val (.int p2), .val (.int (p1 &&& (7 : Int32))), .val (.int (p2.toInt8.toInt32)), .val (.int (((p2.toUInt32 >>> ((8 : Int32) &&& 31).toUInt32).toInt32).toInt8.toInt32)), .val (.int (((p2.toUInt32 >>> ((16 : Int32) &&& 31).toUInt32).toInt32).toInt8.toInt32)), .unset] [(.int p2)]) _
    refine XS.bipush X0.here hx rfl (hb hby d2_23) ?_
    show Sp p e below s₁ (mkF m 25 #[.val (.int p1), .val (.int p2), .val (.int (p1 &&& (7 : Int32))), .val (.int (p2.toInt8.toInt32)), .val (.int (((p2.toUInt32 >>> ((8 : Int32) &&& 31).toUInt32).toInt32).toInt8.toInt32)), .val (.int (((p2.toUInt32 >>> ((16 : Int32) &&& 31).toUInt32).toInt32).toInt8.toInt32)), .unset] [(.int (24 : Int32)), (.int p2)]) _
    refine XS.iushr X0.here hx rfl (hb hby d2_25) rfl ?_
    show Sp p e below s₁ (mkF m 26 #[.val (.int p1), .val (.int p2), .val (.int (p1 &&& (7 : Int32))), .val (.int (p2.toInt8.toInt32)), .val (.int (((p2.toUInt32 >>> ((8 : Int32) &&& 31).toUInt32).toInt32).toInt8.toInt32)), .val (.int (((p2.toUInt32 >>> ((16 : Int32) &&& 31).toUInt32).toInt32).toInt8.toInt32)), .unset] [(.int ((p2.toUInt32 >>> ((24 : Int32) &&& 31).toUInt32).toInt32))]) _
    refine XS.i2b X0.here hx rfl (hb hby d2_26) rfl ?_
    show Sp p e below s₁ (mkF m 27 #[.val (.int p1), .val (.int p2), .val (.int (p1 &&& (7 : Int32))), .val (.int (p2.toInt8.toInt32)), .val (.int (((p2.toUInt32 >>> ((8 : Int32) &&& 31).toUInt32).toInt32).toInt8.toInt32)), .val (.int (((p2.toUInt32 >>> ((16 : Int32) &&& 31).toUInt32).toInt32).toInt8.toInt32)), .unset] [(.int (((p2.toUInt32 >>> ((24 : Int32) &&& 31).toUInt32).toInt32).toInt8.toInt32))]) _
    refine XS.istore X0.here hx rfl (hb hby d2_27) rfl (l' := #[.val (.int p1), .val (.int p2), .val (.int (p1 &&& (7 : Int32))), .val (.int (p2.toInt8.toInt32)), .val (.int (((p2.toUInt32 >>> ((8 : Int32) &&& 31).toUInt32).toInt32).toInt8.toInt32)), .val (.int (((p2.toUInt32 >>> ((16 : Int32) &&& 31).toUInt32).toInt32).toInt8.toInt32)), .val (.int (((p2.toUInt32 >>> ((24 : Int32) &&& 31).toUInt32).toInt32).toInt8.toInt32))]) rfl ?_
    show Sp p e below s₁ (mkF m 29 #[.val (.int p1), .val (.int p2), .val (.int (p1 &&& (7 : Int32))), .val (.int (p2.toInt8.toInt32)), .val (.int (((p2.toUInt32 >>> ((8 : Int32) &&& 31).toUInt32).toInt32).toInt8.toInt32)), .val (.int (((p2.toUInt32 >>> ((16 : Int32) &&& 31).toUInt32).toInt32).toInt8.toInt32)), .val (.int (((p2.toUInt32 >>> ((24 : Int32) &&& 31).toUInt32).toInt32).toInt8.toInt32))] []) _
    refine XS.iloadN X0.here hx rfl (hb hby d2_29) rfl ?_
    show Sp p e below s₁ (mkF m 30 #[.val (.int p1), .val (.int p2), .val (.int (p1 &&& (7 : Int32))), .val (.int (p2.toInt8.toInt32)), .val (.int (((p2.toUInt32 >>> ((8 : Int32) &&& 31).toUInt32).toInt32).toInt8.toInt32)), .val (.int (((p2.toUInt32 >>> ((16 : Int32) &&& 31).toUInt32).toInt32).toInt8.toInt32)), .val (.int (((p2.toUInt32 >>> ((24 : Int32) &&& 31).toUInt32).toInt32).toInt8.toInt32))] [(.int (p1 &&& (7 : Int32)))]) _
    refine XS.ifYes X0.here hx rfl (pc0 := 30) (pc' := 37) rfl (hb hby d2_30) rfl ((if0 _ _).trans (feq hc1).2) (by decide) (by decide) ?_
    show Sp p e below s₁ (mkF m 37 #[.val (.int p1), .val (.int p2), .val (.int (p1 &&& (7 : Int32))), .val (.int (p2.toInt8.toInt32)), .val (.int (((p2.toUInt32 >>> ((8 : Int32) &&& 31).toUInt32).toInt32).toInt8.toInt32)), .val (.int (((p2.toUInt32 >>> ((16 : Int32) &&& 31).toUInt32).toInt32).toInt8.toInt32)), .val (.int (((p2.toUInt32 >>> ((24 : Int32) &&& 31).toUInt32).toInt32).toInt8.toInt32))] []) _
    refine XS.iloadN X0.here hx rfl (hb hby d2_37) rfl ?_
    show Sp p e below s₁ (mkF m 38 #[.val (.int p1), .val (.int p2), .val (.int (p1 &&& (7 : Int32))), .val (.int (p2.toInt8.toInt32)), .val (.int (((p2.toUInt32 >>> ((8 : Int32) &&& 31).toUInt32).toInt32).toInt8.toInt32)), .val (.int (((p2.toUInt32 >>> ((16 : Int32) &&& 31).toUInt32).toInt32).toInt8.toInt32)), .val (.int (((p2.toUInt32 >>> ((24 : Int32) &&& 31).toUInt32).toInt32).toInt8.toInt32))] [(.int (p1 &&& (7 : Int32)))]) _
    refine XS.iconst X0.here hx rfl (hb hby d2_38) ?_
    show Sp p e below s₁ (mkF m 39 #[.val (.int p1), .val (.int p2), .val (.int (p1 &&& (7 : Int32))), .val (.int (p2.toInt8.toInt32)), .val (.int (((p2.toUInt32 >>> ((8 : Int32) &&& 31).toUInt32).toInt32).toInt8.toInt32)), .val (.int (((p2.toUInt32 >>> ((16 : Int32) &&& 31).toUInt32).toInt32).toInt8.toInt32)), .val (.int (((p2.toUInt32 >>> ((24 : Int32) &&& 31).toUInt32).toInt32).toInt8.toInt32))] [(.int (1 : Int32)), (.int (p1 &&& (7 : Int32)))]) _
    refine XS.icmpYes X0.here hx rfl (pc0 := 39) (pc' := 50) rfl (hb hby d2_39) rfl (feq hc2).2 (by decide) (by decide) ?_
    show Sp p e below s₁ (mkF m 50 #[.val (.int p1), .val (.int p2), .val (.int (p1 &&& (7 : Int32))), .val (.int (p2.toInt8.toInt32)), .val (.int (((p2.toUInt32 >>> ((8 : Int32) &&& 31).toUInt32).toInt32).toInt8.toInt32)), .val (.int (((p2.toUInt32 >>> ((16 : Int32) &&& 31).toUInt32).toInt32).toInt8.toInt32)), .val (.int (((p2.toUInt32 >>> ((24 : Int32) &&& 31).toUInt32).toInt32).toInt8.toInt32))] []) _
    refine XS.iloadN X0.here hx rfl (hb hby d2_50) rfl ?_
    show Sp p e below s₁ (mkF m 51 #[.val (.int p1), .val (.int p2), .val (.int (p1 &&& (7 : Int32))), .val (.int (p2.toInt8.toInt32)), .val (.int (((p2.toUInt32 >>> ((8 : Int32) &&& 31).toUInt32).toInt32).toInt8.toInt32)), .val (.int (((p2.toUInt32 >>> ((16 : Int32) &&& 31).toUInt32).toInt32).toInt8.toInt32)), .val (.int (((p2.toUInt32 >>> ((24 : Int32) &&& 31).toUInt32).toInt32).toInt8.toInt32))] [(.int (p1 &&& (7 : Int32)))]) _
    refine XS.iconst X0.here hx rfl (hb hby d2_51) ?_
    show Sp p e below s₁ (mkF m 52 #[.val (.int p1), .val (.int p2), .val (.int (p1 &&& (7 : Int32))), .val (.int (p2.toInt8.toInt32)), .val (.int (((p2.toUInt32 >>> ((8 : Int32) &&& 31).toUInt32).toInt32).toInt8.toInt32)), .val (.int (((p2.toUInt32 >>> ((16 : Int32) &&& 31).toUInt32).toInt32).toInt8.toInt32)), .val (.int (((p2.toUInt32 >>> ((24 : Int32) &&& 31).toUInt32).toInt32).toInt8.toInt32))] [(.int (2 : Int32)), (.int (p1 &&& (7 : Int32)))]) _
    refine XS.icmpYes X0.here hx rfl (pc0 := 52) (pc' := 68) rfl (hb hby d2_52) rfl (feq hc3).2 (by decide) (by decide) ?_
    show Sp p e below s₁ (mkF m 68 #[.val (.int p1), .val (.int p2), .val (.int (p1 &&& (7 : Int32))), .val (.int (p2.toInt8.toInt32)), .val (.int (((p2.toUInt32 >>> ((8 : Int32) &&& 31).toUInt32).toInt32).toInt8.toInt32)), .val (.int (((p2.toUInt32 >>> ((16 : Int32) &&& 31).toUInt32).toInt32).toInt8.toInt32)), .val (.int (((p2.toUInt32 >>> ((24 : Int32) &&& 31).toUInt32).toInt32).toInt8.toInt32))] []) _
    refine XS.iloadN X0.here hx rfl (hb hby d2_68) rfl ?_
    show Sp p e below s₁ (mkF m 69 #[.val (.int p1), .val (.int p2), .val (.int (p1 &&& (7 : Int32))), .val (.int (p2.toInt8.toInt32)), .val (.int (((p2.toUInt32 >>> ((8 : Int32) &&& 31).toUInt32).toInt32).toInt8.toInt32)), .val (.int (((p2.toUInt32 >>> ((16 : Int32) &&& 31).toUInt32).toInt32).toInt8.toInt32)), .val (.int (((p2.toUInt32 >>> ((24 : Int32) &&& 31).toUInt32).toInt32).toInt8.toInt32))] [(.int (p1 &&& (7 : Int32)))]) _
    refine XS.iconst X0.here hx rfl (hb hby d2_69) ?_
    show Sp p e below s₁ (mkF m 70 #[.val (.int p1), .val (.int p2), .val (.int (p1 &&& (7 : Int32))), .val (.int (p2.toInt8.toInt32)), .val (.int (((p2.toUInt32 >>> ((8 : Int32) &&& 31).toUInt32).toInt32).toInt8.toInt32)), .val (.int (((p2.toUInt32 >>> ((16 : Int32) &&& 31).toUInt32).toInt32).toInt8.toInt32)), .val (.int (((p2.toUInt32 >>> ((24 : Int32) &&& 31).toUInt32).toInt32).toInt8.toInt32))] [(.int (3 : Int32)), (.int (p1 &&& (7 : Int32)))]) _
    refine XS.icmpYes X0.here hx rfl (pc0 := 70) (pc' := 91) rfl (hb hby d2_70) rfl (feq hc4).2 (by decide) (by decide) ?_
    show Sp p e below s₁ (mkF m 91 #[.val (.int p1), .val (.int p2), .val (.int (p1 &&& (7 : Int32))), .val (.int (p2.toInt8.toInt32)), .val (.int (((p2.toUInt32 >>> ((8 : Int32) &&& 31).toUInt32).toInt32).toInt8.toInt32)), .val (.int (((p2.toUInt32 >>> ((16 : Int32) &&& 31).toUInt32).toInt32).toInt8.toInt32)), .val (.int (((p2.toUInt32 >>> ((24 : Int32) &&& 31).toUInt32).toInt32).toInt8.toInt32))] []) _
    refine XS.iloadN X0.here hx rfl (hb hby d2_91) rfl ?_
    show Sp p e below s₁ (mkF m 92 #[.val (.int p1), .val (.int p2), .val (.int (p1 &&& (7 : Int32))), .val (.int (p2.toInt8.toInt32)), .val (.int (((p2.toUInt32 >>> ((8 : Int32) &&& 31).toUInt32).toInt32).toInt8.toInt32)), .val (.int (((p2.toUInt32 >>> ((16 : Int32) &&& 31).toUInt32).toInt32).toInt8.toInt32)), .val (.int (((p2.toUInt32 >>> ((24 : Int32) &&& 31).toUInt32).toInt32).toInt8.toInt32))] [(.int (p1 &&& (7 : Int32)))]) _
    refine XS.iconst X0.here hx rfl (hb hby d2_92) ?_
    show Sp p e below s₁ (mkF m 93 #[.val (.int p1), .val (.int p2), .val (.int (p1 &&& (7 : Int32))), .val (.int (p2.toInt8.toInt32)), .val (.int (((p2.toUInt32 >>> ((8 : Int32) &&& 31).toUInt32).toInt32).toInt8.toInt32)), .val (.int (((p2.toUInt32 >>> ((16 : Int32) &&& 31).toUInt32).toInt32).toInt8.toInt32)), .val (.int (((p2.toUInt32 >>> ((24 : Int32) &&& 31).toUInt32).toInt32).toInt8.toInt32))] [(.int (4 : Int32)), (.int (p1 &&& (7 : Int32)))]) _
    refine XS.icmpNo X0.here hx rfl (hb hby d2_93) rfl (teq hc5).2 ?_
    show Sp p e below s₁ (mkF m 96 #[.val (.int p1), .val (.int p2), .val (.int (p1 &&& (7 : Int32))), .val (.int (p2.toInt8.toInt32)), .val (.int (((p2.toUInt32 >>> ((8 : Int32) &&& 31).toUInt32).toInt32).toInt8.toInt32)), .val (.int (((p2.toUInt32 >>> ((16 : Int32) &&& 31).toUInt32).toInt32).toInt8.toInt32)), .val (.int (((p2.toUInt32 >>> ((24 : Int32) &&& 31).toUInt32).toInt32).toInt8.toInt32))] []) _
    refine XS.iconst X0.here hx rfl (hb hby d2_96) ?_
    show Sp p e below s₁ (mkF m 97 #[.val (.int p1), .val (.int p2), .val (.int (p1 &&& (7 : Int32))), .val (.int (p2.toInt8.toInt32)), .val (.int (((p2.toUInt32 >>> ((8 : Int32) &&& 31).toUInt32).toInt32).toInt8.toInt32)), .val (.int (((p2.toUInt32 >>> ((16 : Int32) &&& 31).toUInt32).toInt32).toInt8.toInt32)), .val (.int (((p2.toUInt32 >>> ((24 : Int32) &&& 31).toUInt32).toInt32).toInt8.toInt32))] [(.int (4 : Int32))]) _
    refine st1 _ ?_
    show Sp p e below T1 (mkF m 99 #[.val (.int p1), .val (.int p2), .val (.int (p1 &&& (7 : Int32))), .val (.int (p2.toInt8.toInt32)), .val (.int (((p2.toUInt32 >>> ((8 : Int32) &&& 31).toUInt32).toInt32).toInt8.toInt32)), .val (.int (((p2.toUInt32 >>> ((16 : Int32) &&& 31).toUInt32).toInt32).toInt8.toInt32)), .val (.int (((p2.toUInt32 >>> ((24 : Int32) &&& 31).toUInt32).toInt32).toInt8.toInt32))] [(.ref b1)]) _
    refine XS.dup X1.here hx rfl (hb hby d2_99) rfl rfl ?_
    show Sp p e below T1 (mkF m 100 #[.val (.int p1), .val (.int p2), .val (.int (p1 &&& (7 : Int32))), .val (.int (p2.toInt8.toInt32)), .val (.int (((p2.toUInt32 >>> ((8 : Int32) &&& 31).toUInt32).toInt32).toInt8.toInt32)), .val (.int (((p2.toUInt32 >>> ((16 : Int32) &&& 31).toUInt32).toInt32).toInt8.toInt32)), .val (.int (((p2.toUInt32 >>> ((24 : Int32) &&& 31).toUInt32).toInt32).toInt8.toInt32))] [(.ref b1), (.ref b1)]) _
    refine XS.iconst X1.here hx rfl (hb hby d2_100) ?_
    show Sp p e below T1 (mkF m 101 #[.val (.int p1), .val (.int p2), .val (.int (p1 &&& (7 : Int32))), .val (.int (p2.toInt8.toInt32)), .val (.int (((p2.toUInt32 >>> ((8 : Int32) &&& 31).toUInt32).toInt32).toInt8.toInt32)), .val (.int (((p2.toUInt32 >>> ((16 : Int32) &&& 31).toUInt32).toInt32).toInt8.toInt32)), .val (.int (((p2.toUInt32 >>> ((24 : Int32) &&& 31).toUInt32).toInt32).toInt8.toInt32))] [(.int (0 : Int32)), (.ref b1), (.ref b1)]) _
    refine XS.iloadN X1.here hx rfl (hb hby d2_101) rfl ?_
    show Sp p e below T1 (mkF m 102 #[.val (.int p1), .val (.int p2), .val (.int (p1 &&& (7 : Int32))), .val (.int (p2.toInt8.toInt32)), .val (.int (((p2.toUInt32 >>> ((8 : Int32) &&& 31).toUInt32).toInt32).toInt8.toInt32)), .val (.int (((p2.toUInt32 >>> ((16 : Int32) &&& 31).toUInt32).toInt32).toInt8.toInt32)), .val (.int (((p2.toUInt32 >>> ((24 : Int32) &&& 31).toUInt32).toInt32).toInt8.toInt32))] [(.int (p2.toInt8.toInt32)), (.int (0 : Int32)), (.ref b1), (.ref b1)]) _
    refine st3 _ ?_
    show Sp p e below T3 (mkF m 103 #[.val (.int p1), .val (.int p2), .val (.int (p1 &&& (7 : Int32))), .val (.int (p2.toInt8.toInt32)), .val (.int (((p2.toUInt32 >>> ((8 : Int32) &&& 31).toUInt32).toInt32).toInt8.toInt32)), .val (.int (((p2.toUInt32 >>> ((16 : Int32) &&& 31).toUInt32).toInt32).toInt8.toInt32)), .val (.int (((p2.toUInt32 >>> ((24 : Int32) &&& 31).toUInt32).toInt32).toInt8.toInt32))] [(.ref b1)]) _
    refine XS.dup X3.here hx rfl (hb hby d2_103) rfl rfl ?_
    show Sp p e below T3 (mkF m 104 #[.val (.int p1), .val (.int p2), .val (.int (p1 &&& (7 : Int32))), .val (.int (p2.toInt8.toInt32)), .val (.int (((p2.toUInt32 >>> ((8 : Int32) &&& 31).toUInt32).toInt32).toInt8.toInt32)), .val (.int (((p2.toUInt32 >>> ((16 : Int32) &&& 31).toUInt32).toInt32).toInt8.toInt32)), .val (.int (((p2.toUInt32 >>> ((24 : Int32) &&& 31).toUInt32).toInt32).toInt8.toInt32))] [(.ref b1), (.ref b1)]) _
    refine XS.iconst X3.here hx rfl (hb hby d2_104) ?_
    show Sp p e below T3 (mkF m 105 #[.val (.int p1), .val (.int p2), .val (.int (p1 &&& (7 : Int32))), .val (.int (p2.toInt8.toInt32)), .val (.int (((p2.toUInt32 >>> ((8 : Int32) &&& 31).toUInt32).toInt32).toInt8.toInt32)), .val (.int (((p2.toUInt32 >>> ((16 : Int32) &&& 31).toUInt32).toInt32).toInt8.toInt32)), .val (.int (((p2.toUInt32 >>> ((24 : Int32) &&& 31).toUInt32).toInt32).toInt8.toInt32))] [(.int (1 : Int32)), (.ref b1), (.ref b1)]) _
    refine XS.iload X3.here hx rfl (hb hby d2_105) rfl ?_
    show Sp p e below T3 (mkF m 107 #[.val (.int p1), .val (.int p2), .val (.int (p1 &&& (7 : Int32))), .val (.int (p2.toInt8.toInt32)), .val (.int (((p2.toUInt32 >>> ((8 : Int32) &&& 31).toUInt32).toInt32).toInt8.toInt32)), .val (.int (((p2.toUInt32 >>> ((16 : Int32) &&& 31).toUInt32).toInt32).toInt8.toInt32)), .val (.int (((p2.toUInt32 >>> ((24 : Int32) &&& 31).toUInt32).toInt32).toInt8.toInt32))] [(.int (((p2.toUInt32 >>> ((8 : Int32) &&& 31).toUInt32).toInt32).toInt8.toInt32)), (.int (1 : Int32)), (.ref b1), (.ref b1)]) _
    refine st5 _ ?_
    show Sp p e below T5 (mkF m 108 #[.val (.int p1), .val (.int p2), .val (.int (p1 &&& (7 : Int32))), .val (.int (p2.toInt8.toInt32)), .val (.int (((p2.toUInt32 >>> ((8 : Int32) &&& 31).toUInt32).toInt32).toInt8.toInt32)), .val (.int (((p2.toUInt32 >>> ((16 : Int32) &&& 31).toUInt32).toInt32).toInt8.toInt32)), .val (.int (((p2.toUInt32 >>> ((24 : Int32) &&& 31).toUInt32).toInt32).toInt8.toInt32))] [(.ref b1)]) _
    refine XS.dup X5.here hx rfl (hb hby d2_108) rfl rfl ?_
    show Sp p e below T5 (mkF m 109 #[.val (.int p1), .val (.int p2), .val (.int (p1 &&& (7 : Int32))), .val (.int (p2.toInt8.toInt32)), .val (.int (((p2.toUInt32 >>> ((8 : Int32) &&& 31).toUInt32).toInt32).toInt8.toInt32)), .val (.int (((p2.toUInt32 >>> ((16 : Int32) &&& 31).toUInt32).toInt32).toInt8.toInt32)), .val (.int (((p2.toUInt32 >>> ((24 : Int32) &&& 31).toUInt32).toInt32).toInt8.toInt32))] [(.ref b1), (.ref b1)]) _
    refine XS.iconst X5.here hx rfl (hb hby d2_109) ?_
    show Sp p e below T5 (mkF m 110 #[.val (.int p1), .val (.int p2), .val (.int (p1 &&& (7 : Int32))), .val (.int (p2.toInt8.toInt32)), .val (.int (((p2.toUInt32 >>> ((8 : Int32) &&& 31).toUInt32).toInt32).toInt8.toInt32)), .val (.int (((p2.toUInt32 >>> ((16 : Int32) &&& 31).toUInt32).toInt32).toInt8.toInt32)), .val (.int (((p2.toUInt32 >>> ((24 : Int32) &&& 31).toUInt32).toInt32).toInt8.toInt32))] [(.int (2 : Int32)), (.ref b1), (.ref b1)]) _
    refine XS.iload X5.here hx rfl (hb hby d2_110) rfl ?_
    show Sp p e below T5 (mkF m 112 #[.val (.int p1), .val (.int p2), .val (.int (p1 &&& (7 : Int32))), .val (.int (p2.toInt8.toInt32)), .val (.int (((p2.toUInt32 >>> ((8 : Int32) &&& 31).toUInt32).toInt32).toInt8.toInt32)), .val (.int (((p2.toUInt32 >>> ((16 : Int32) &&& 31).toUInt32).toInt32).toInt8.toInt32)), .val (.int (((p2.toUInt32 >>> ((24 : Int32) &&& 31).toUInt32).toInt32).toInt8.toInt32))] [(.int (((p2.toUInt32 >>> ((16 : Int32) &&& 31).toUInt32).toInt32).toInt8.toInt32)), (.int (2 : Int32)), (.ref b1), (.ref b1)]) _
    refine st7 _ ?_
    show Sp p e below T7 (mkF m 113 #[.val (.int p1), .val (.int p2), .val (.int (p1 &&& (7 : Int32))), .val (.int (p2.toInt8.toInt32)), .val (.int (((p2.toUInt32 >>> ((8 : Int32) &&& 31).toUInt32).toInt32).toInt8.toInt32)), .val (.int (((p2.toUInt32 >>> ((16 : Int32) &&& 31).toUInt32).toInt32).toInt8.toInt32)), .val (.int (((p2.toUInt32 >>> ((24 : Int32) &&& 31).toUInt32).toInt32).toInt8.toInt32))] [(.ref b1)]) _
    refine XS.dup X7.here hx rfl (hb hby d2_113) rfl rfl ?_
    show Sp p e below T7 (mkF m 114 #[.val (.int p1), .val (.int p2), .val (.int (p1 &&& (7 : Int32))), .val (.int (p2.toInt8.toInt32)), .val (.int (((p2.toUInt32 >>> ((8 : Int32) &&& 31).toUInt32).toInt32).toInt8.toInt32)), .val (.int (((p2.toUInt32 >>> ((16 : Int32) &&& 31).toUInt32).toInt32).toInt8.toInt32)), .val (.int (((p2.toUInt32 >>> ((24 : Int32) &&& 31).toUInt32).toInt32).toInt8.toInt32))] [(.ref b1), (.ref b1)]) _
    refine XS.iconst X7.here hx rfl (hb hby d2_114) ?_
    show Sp p e below T7 (mkF m 115 #[.val (.int p1), .val (.int p2), .val (.int (p1 &&& (7 : Int32))), .val (.int (p2.toInt8.toInt32)), .val (.int (((p2.toUInt32 >>> ((8 : Int32) &&& 31).toUInt32).toInt32).toInt8.toInt32)), .val (.int (((p2.toUInt32 >>> ((16 : Int32) &&& 31).toUInt32).toInt32).toInt8.toInt32)), .val (.int (((p2.toUInt32 >>> ((24 : Int32) &&& 31).toUInt32).toInt32).toInt8.toInt32))] [(.int (3 : Int32)), (.ref b1), (.ref b1)]) _
    refine XS.iload X7.here hx rfl (hb hby d2_115) rfl ?_
    show Sp p e below T7 (mkF m 117 #[.val (.int p1), .val (.int p2), .val (.int (p1 &&& (7 : Int32))), .val (.int (p2.toInt8.toInt32)), .val (.int (((p2.toUInt32 >>> ((8 : Int32) &&& 31).toUInt32).toInt32).toInt8.toInt32)), .val (.int (((p2.toUInt32 >>> ((16 : Int32) &&& 31).toUInt32).toInt32).toInt8.toInt32)), .val (.int (((p2.toUInt32 >>> ((24 : Int32) &&& 31).toUInt32).toInt32).toInt8.toInt32))] [(.int (((p2.toUInt32 >>> ((24 : Int32) &&& 31).toUInt32).toInt32).toInt8.toInt32)), (.int (3 : Int32)), (.ref b1), (.ref b1)]) _
    refine st9 _ ?_
    show Sp p e below T9 (mkF m 118 #[.val (.int p1), .val (.int p2), .val (.int (p1 &&& (7 : Int32))), .val (.int (p2.toInt8.toInt32)), .val (.int (((p2.toUInt32 >>> ((8 : Int32) &&& 31).toUInt32).toInt32).toInt8.toInt32)), .val (.int (((p2.toUInt32 >>> ((16 : Int32) &&& 31).toUInt32).toInt32).toInt8.toInt32)), .val (.int (((p2.toUInt32 >>> ((24 : Int32) &&& 31).toUInt32).toInt32).toInt8.toInt32))] [(.ref b1)]) _
    jvm_step X9.here [X9.here.top, hx, (hb hby d2_118), X9.method', Bd.returns, Value.isRef, FieldType.isReference]
    first | (intro acts; rw [hr _ acts rfl rfl rfl]) | rw [hr _ _ rfl rfl rfl]
    exact Steps.refl _
  · show Q26 Z w_XML_INVALID w_STATUS_UNAVAILABLE w_IMPORTED w_IMPORTED_WITH_WARNINGS p1 p2 h0 n0 _ T9.heap _
    rw [e9]
    exact ⟨b1, k1, rfl, N9, K9, sz_b1, ((((EA1.wr W3).wr W5).wr W7).wr W9), V_b1_9⟩
def Q27 (Z : State) (w_XML_INVALID : Addr) (w_STATUS_UNAVAILABLE : Addr) (w_IMPORTED : Addr) (w_IMPORTED_WITH_WARNINGS : Addr) (a1 : Addr) (a2 : Addr) (a3 : Addr) (k_a3 : ClassId) (p5 : Int32) (p6 : Int32) (p7 : Int32) (p8 : Int32) (h0 : Heap) (n0 : Nat) (v : Option Value) (h : Heap) (L : List Loc) : Prop := ∃ (b3 : Addr), v = none ∧ Fr n0 L ∧ Keep h0 h [a1] ∧ h0.size ≤ b3 ∧ Exa Z h a1 "com/example/epcrtools/epcrtools/exchange/SubmissionStatus" ∧ Fld Z h a1 "com/example/epcrtools/epcrtools/exchange/SubmissionStatus" "report" "[B" (.ref b3) ∧ Fld Z h a1 "com/example/epcrtools/epcrtools/exchange/SubmissionStatus" "statusCode" "Lcom/example/epcrtools/epcrtools/exchange/StatusCode;" (.ref a2) ∧ Exa Z h b3 "[B" ∧ Arv Z h b3 k_a3 .byte (4 : Int32) [(.int p5), (.int p6), (.int p7), (.int p8)] (.int (0 : Int32))
set_option maxRecDepth 65536 in
set_option maxHeartbeats 40000000 in
theorem rm27 (l : Launch) (Z : State) (a0 : Array Value) (hw : ∀ d ∈ tables_1, d.before a0 Z = true) (ws : List Jvm.Cond) (w_XML_INVALID w_STATUS_UNAVAILABLE w_IMPORTED w_IMPORTED_WITH_WARNINGS : Addr) (hp : Perm Z w_XML_INVALID w_STATUS_UNAVAILABLE w_IMPORTED w_IMPORTED_WITH_WARNINGS) (a1 : Addr) (a2 : Addr) (a3 : Addr) (k_a3 : ClassId) (p5 : Int32) (p6 : Int32) (p7 : Int32) (p8 : Int32) (h0 : Heap) (n0 : Nat) (O0 : Old Z n0 h0) (E_a1 : Exa Z h0 a1 "com/example/epcrtools/epcrtools/exchange/SubmissionStatus") (F_statusCode_a1 : Fld Z h0 a1 "com/example/epcrtools/epcrtools/exchange/SubmissionStatus" "statusCode" "Lcom/example/epcrtools/epcrtools/exchange/StatusCode;" .null) (F_report_a1 : Fld Z h0 a1 "com/example/epcrtools/epcrtools/exchange/SubmissionStatus" "report" "[B" .null) (g_a1 : n0 ≤ a1) (V_a3 : Arv Z h0 a3 k_a3 .byte (4 : Int32) [(.int p5), (.int p6), (.int p7), (.int p8)] (.int (0 : Int32))) (ne_a1_a3 : a1 ≠ a3) (E_a3 : Exa Z h0 a3 "[B") :
    MetFree l y2 (head1 (Jvm.Cond.code y2 prog_13_method_1_code 3 none :: ws) ({ frames := 1, cells := 1, slots := 4, locals := 15 } : Room)) (fun a U => a = #[(.ref a1), (.ref a2), (.ref a3)] ∧ Z.Warmed39 U.vm ∧ U.heap = h0) (fun _ _ _ _ _ => True) (fun _ U o U' => ∃ v L, o = .returned v ∧ Q27 Z w_XML_INVALID w_STATUS_UNAVAILABLE w_IMPORTED w_IMPORTED_WITH_WARNINGS a1 a2 a3 k_a3 p5 p6 p7 p8 h0 n0 v U'.heap L ∧ FrameEnd U o U' L ({ frames := 1, cells := 1, slots := 4, locals := 15 } : Room).cells ({ frames := 1, cells := 1, slots := 4, locals := 15 } : Room).slots) := by
  refine MetFree.of_bodySF (plainFor_of_name pn_3) hisR ?_
  intro p e s m args below meth c s₁ Bd hml0 hP hK
  obtain ⟨rfl, hZ, hh⟩ := hP
  have hx := Bd.exec
  have hby := Bd.bytes
  have hml : c.maxLocals = 3 := hml0
  have hown : s.vm.findClass "com/example/epcrtools/epcrtools/exchange/SubmissionStatus" = some m.cls := findClass_of_methodNamed Bd.named
  have hnm := (name_of_methodNamed Bd.named Bd.method).1
  have X0 : Stand p l e ({ frames := 1, cells := 1, slots := 4, locals := 15 } : Room) s m #[(.ref a1), (.ref a2), (.ref a3)] below meth c s₁ [] 0 0 := Stand.of_body Bd
  have e0 : s₁.heap = h0 := by rw [← hh, Bd.state]; rfl
  have N0 := Fr.nil n0
  have hp' := hp
  obtain ⟨S_w_XML_INVALID, E_w_XML_INVALID, S_w_STATUS_UNAVAILABLE, E_w_STATUS_UNAVAILABLE, S_w_IMPORTED, E_w_IMPORTED, S_w_IMPORTED_WITH_WARNINGS, E_w_IMPORTED_WITH_WARNINGS⟩ := hp'
  have pre0 : ∀ t, Steps p.tables e below (s₁.setTop (mkF m 0 #[.val (.ref a1), .val (.ref a2), .val (.ref a3)] [])) t → Steps p.tables e below (s₁.setTop (entryFrame m #[(.ref a1), (.ref a2), (.ref a3)] 3)) t := fun t k => castTop (ef_3_0 m a1 a2 a3) k
  obtain ⟨T1, X1, e1, st1⟩ := initO X0 hx hZ hown (hw _ (List.mem_of_getElem? (i := 17) rfl)) (hw _ (List.mem_of_getElem? (i := 18) rfl)) (hw _ (List.mem_of_getElem? (i := 19) rfl)) e0 (g := (mkF m 1 #[.val (.ref a1), .val (.ref a2), .val (.ref a3)] [(.ref a1)])) rfl (by rw [hml]; rfl) rfl (hb hby d3_1) (by decide) (W := 0) (by show 2 * 0 + _ ≤ _; exact Nat.le_of_eq rfl) (by decide)
  obtain ⟨T2, h2, X2, e2, W2, st2⟩ := putF X1 hx hZ hown (host := "") (Or.inl (hw _ (List.mem_of_getElem? (i := 20) rfl))) Via.refl e1 F_statusCode_a1 E_a1 (Or.inr ⟨(hw _ (List.mem_of_getElem? (i := 21) rfl)), rfl, hnm⟩) (hw _ (List.mem_of_getElem? (i := 12) rfl)) (ty := (.object "com/example/epcrtools/epcrtools/exchange/StatusCode")) (by decide) rfl rfl (g := (mkF m 6 #[.val (.ref a1), .val (.ref a2), .val (.ref a3)] [(.ref a2), (.ref a1)])) rfl rfl (hb hby d3_6)
  have N2 := Fr.snoc X2 N0 g_a1
  have O2 := O0.wr W2 g_a1
  have K2 : Keep h0 h2 [a1] := (Keep.refl h0 [a1]).wr W2 (Or.inl (List.mem_of_getElem? (i := 0) rfl))
  have Fw2 := F_statusCode_a1.same W2
  obtain ⟨T3, h3, X3, e3, E3, A3, EA3, st3⟩ := cloneH X2 hx hZ hown (hw _ (List.mem_of_getElem? (i := 22) rfl)) (hw _ (List.mem_of_getElem? (i := 23) rfl)) (hw _ (List.mem_of_getElem? (i := 27) rfl)) (hw _ (List.mem_of_getElem? (i := 25) rfl)) (hw _ (List.mem_of_getElem? (i := 26) rfl)) (hw _ (List.mem_of_getElem? (i := 28) rfl)) e2 (Arv.arh (V_a3.other W2 (Ne.symm ne_a1_a3))) (E_a3.wr W2) (g := (mkF m 11 #[.val (.ref a1), .val (.ref a2), .val (.ref a3)] [(.ref a3), (.ref a1)])) rfl (by rw [hml]; rfl) rfl (hb hby d3_11) (by decide) (W := 1) (cap := 4) (by show 2 * 0 + _ ≤ _; exact Nat.le_of_eq rfl) (by decide) (by decide) (by decide) (by decide)
  obtain ⟨b3, g3⟩ : ∃ z, z = h2.size := ⟨_, rfl⟩
  rw [← g3] at A3 EA3 st3
  have g_b3 : n0 ≤ b3 := Nat.le_trans (own_sz O2) (Nat.le_of_eq g3.symm)
  have sz_b3 : h0.size ≤ b3 := Nat.le_trans K2.1 (Nat.le_of_eq g3.symm)
  have O3 := O2.ext E3
  have K3 : Keep h0 h3 [a1] := K2.ext E3
  have V_b3 : Arv Z h3 b3 k_a3 .byte (4 : Int32) [(.int p5), (.int p6), (.int p7), (.int p8)] (.int (0 : Int32)) := A3
  obtain ⟨T4, X4, e4, st4⟩ := castY X3 hx hZ hown (hw _ (List.mem_of_getElem? (i := 29) rfl)) e3 (Ins.self EA3) (g := (mkF m 14 #[.val (.ref a1), .val (.ref a2), .val (.ref a3)] [(.ref b3), (.ref a1)])) rfl rfl (hb hby d3_14)
  obtain ⟨T5, h5, X5, e5, W5, st5⟩ := putF X4 hx hZ hown (host := "") (Or.inl (hw _ (List.mem_of_getElem? (i := 31) rfl))) Via.refl e4 ((F_report_a1.other W2 (Or.inr (sn0 hw))).ext E3) ((E_a1.wr W2).ext E3) (Or.inr ⟨(hw _ (List.mem_of_getElem? (i := 32) rfl)), rfl, hnm⟩) (hw _ (List.mem_of_getElem? (i := 12) rfl)) (ty := (.array .byte)) (by decide) rfl rfl (g := (mkF m 17 #[.val (.ref a1), .val (.ref a2), .val (.ref a3)] [(.ref b3), (.ref a1)])) rfl rfl (hb hby d3_17)
  have N5 := Fr.snoc X5 N2 g_a1
  have O5 := O3.wr W5 g_a1
  have K5 : Keep h0 h5 [a1] := K3.wr W5 (Or.inl (List.mem_of_getElem? (i := 0) rfl))
  have Fw5 := ((F_report_a1.other W2 (Or.inr (sn0 hw))).ext E3).same W5
  have f_6 := (V_b3.other W5 (Ne.symm (Nat.ne_of_lt (Nat.lt_of_lt_of_le E_a1.lt sz_b3))))
  obtain ⟨fs, hr, hrun, hended, hW, hsame⟩ := X5.leave (v := none) (fun _ => rfl)
  refine ⟨_, _, pre0 _ ?_, hrun, hended, _, _, rfl, ?_, ⟨_, rfl⟩, hW, hsame.mono (by decide) (by decide)⟩
  · show Sp p e below s₁ (mkF m 0 #[.val (.ref a1), .val (.ref a2), .val (.ref a3)] []) _
    refine XS.aloadN X0.here hx rfl (hb hby d3_0) rfl rfl ?_
    show Sp p e below s₁ (mkF m 1 #[.val (.ref a1), .val (.ref a2), .val (.ref a3)] [(.ref a1)]) _
    refine st1 _ ?_
    show Sp p e below T1 (mkF m 4 #[.val (.ref a1), .val (.ref a2), .val (.ref a3)] []) _
    refine XS.aloadN X1.here hx rfl (hb hby d3_4) rfl rfl ?_
    show Sp p e below T1 (mkF m 5 #[.val (.ref a1), .val (.ref a2), .val (.ref a3)] [(.ref a1)]) _
    refine XS.aloadN X1.here hx rfl (hb hby d3_5) rfl rfl ?_
    show Sp p e below T1 (mkF m 6 #[.val (.ref a1), .val (.ref a2), .val (.ref a3)] [(.ref a2), (.ref a1)]) _
    refine st2 _ ?_
    show Sp p e below T2 (mkF m 9 #[.val (.ref a1), .val (.ref a2), .val (.ref a3)] []) _
    refine XS.aloadN X2.here hx rfl (hb hby d3_9) rfl rfl ?_
    show Sp p e below T2 (mkF m 10 #[.val (.ref a1), .val (.ref a2), .val (.ref a3)] [(.ref a1)]) _
    refine XS.aloadN X2.here hx rfl (hb hby d3_10) rfl rfl ?_
    show Sp p e below T2 (mkF m 11 #[.val (.ref a1), .val (.ref a2), .val (.ref a3)] [(.ref a3), (.ref a1)]) _
    refine st3 _ ?_
    show Sp p e below T3 (mkF m 14 #[.val (.ref a1), .val (.ref a2), .val (.ref a3)] [(.ref b3), (.ref a1)]) _
    refine st4 _ ?_
    show Sp p e below T4 (mkF m 17 #[.val (.ref a1), .val (.ref a2), .val (.ref a3)] [(.ref b3), (.ref a1)]) _
    refine st5 _ ?_
    show Sp p e below T5 (mkF m 20 #[.val (.ref a1), .val (.ref a2), .val (.ref a3)] []) _
    exact X5.returnOut hx Bd.returns (hb hby d3_20) hr
  · show Q27 Z w_XML_INVALID w_STATUS_UNAVAILABLE w_IMPORTED w_IMPORTED_WITH_WARNINGS a1 a2 a3 k_a3 p5 p6 p7 p8 h0 n0 _ T5.heap _
    rw [e5]
    exact ⟨b3, rfl, N5, K5, sz_b3, (((E_a1.wr W2).ext E3).wr W5), Fw5, ((Fw2.ext E3).other W5 (Or.inr (sn1 hw))), (EA3.wr W5), f_6⟩
def Q28 (Z : State) (w_XML_INVALID : Addr) (w_STATUS_UNAVAILABLE : Addr) (w_IMPORTED : Addr) (w_IMPORTED_WITH_WARNINGS : Addr) (a1 : Addr) (a2 : Addr) (k_a2 : ClassId) (p4 : Int32) (p5 : Int32) (p6 : Int32) (p7 : Int32) (h0 : Heap) (n0 : Nat) (v : Option Value) (h : Heap) (L : List Loc) : Prop := v = some (.int (4 : Int32)) ∧ Fr n0 L ∧ h = h0
set_option maxRecDepth 65536 in
set_option maxHeartbeats 40000000 in
theorem rm28 (l : Launch) (Z : State) (a0 : Array Value) (hw : ∀ d ∈ tables_1, d.before a0 Z = true) (ws : List Jvm.Cond) (w_XML_INVALID w_STATUS_UNAVAILABLE w_IMPORTED w_IMPORTED_WITH_WARNINGS : Addr) (hp : Perm Z w_XML_INVALID w_STATUS_UNAVAILABLE w_IMPORTED w_IMPORTED_WITH_WARNINGS) (a1 : Addr) (a2 : Addr) (k_a2 : ClassId) (p4 : Int32) (p5 : Int32) (p6 : Int32) (p7 : Int32) (h0 : Heap) (n0 : Nat) (O0 : Old Z n0 h0) (F_report_a1 : Fld Z h0 a1 "com/example/epcrtools/epcrtools/exchange/SubmissionStatus" "report" "[B" (.ref a2)) (V_a2 : Arv Z h0 a2 k_a2 .byte (4 : Int32) [(.int p4), (.int p5), (.int p6), (.int p7)] (.int (0 : Int32))) :
    MetFree l y3 (head1 (Jvm.Cond.code y3 prog_13_method_6_code 1 (some .int) :: ws) ({ frames := 0, cells := 0, slots := 0, locals := 0 } : Room)) (fun a U => a = #[(.ref a1)] ∧ Z.Warmed39 U.vm ∧ U.heap = h0) (fun _ _ _ _ _ => True) (fun _ U o U' => ∃ v L, o = .returned v ∧ Q28 Z w_XML_INVALID w_STATUS_UNAVAILABLE w_IMPORTED w_IMPORTED_WITH_WARNINGS a1 a2 k_a2 p4 p5 p6 p7 h0 n0 v U'.heap L ∧ FrameEnd U o U' L ({ frames := 0, cells := 0, slots := 0, locals := 0 } : Room).cells ({ frames := 0, cells := 0, slots := 0, locals := 0 } : Room).slots) := by
  refine MetFree.of_bodySF (plainFor_of_name pn_3) hisR ?_
  intro p e s m args below meth c s₁ Bd hml0 hP hK
  obtain ⟨rfl, hZ, hh⟩ := hP
  have hx := Bd.exec
  have hby := Bd.bytes
  have hml : c.maxLocals = 1 := hml0
  have hown : s.vm.findClass "com/example/epcrtools/epcrtools/exchange/SubmissionStatus" = some m.cls := findClass_of_methodNamed Bd.named
  have hnm := (name_of_methodNamed Bd.named Bd.method).1
  have X0 : Stand p l e ({ frames := 0, cells := 0, slots := 0, locals := 0 } : Room) s m #[(.ref a1)] below meth c s₁ [] 0 0 := Stand.of_body Bd
  have e0 : s₁.heap = h0 := by rw [← hh, Bd.state]; rfl
  have N0 := Fr.nil n0
  have hp' := hp
  obtain ⟨S_w_XML_INVALID, E_w_XML_INVALID, S_w_STATUS_UNAVAILABLE, E_w_STATUS_UNAVAILABLE, S_w_IMPORTED, E_w_IMPORTED, S_w_IMPORTED_WITH_WARNINGS, E_w_IMPORTED_WITH_WARNINGS⟩ := hp'
  have pre0 : ∀ t, Steps p.tables e below (s₁.setTop (mkF m 0 #[.val (.ref a1)] [])) t → Steps p.tables e below (s₁.setTop (entryFrame m #[(.ref a1)] 1)) t := fun t k => castTop (ef_5_0 m a1) k
  obtain ⟨T1, X1, e1, st1⟩ := getF X0 hx hZ hown (host := "") (Or.inl (hw _ (List.mem_of_getElem? (i := 31) rfl))) Via.refl e0 F_report_a1 (g := (mkF m 1 #[.val (.ref a1)] [(.ref a1)])) rfl rfl (hb hby d5_1)
  obtain ⟨T2, X2, e2, st2⟩ := getF X1 hx hZ hown (host := "") (Or.inl (hw _ (List.mem_of_getElem? (i := 31) rfl))) Via.refl e1 F_report_a1 (g := (mkF m 12 #[.val (.ref a1)] [(.ref a1)])) rfl rfl (hb hby d5_12)
  obtain ⟨cl3, Ar3, -, S3, Nn3, -, -⟩ := id V_a2
  obtain ⟨fs, hr, hrun, hended, hW, hsame⟩ := X2.leave (v := some (.int (4 : Int32))) (fun h => by rw [Bd.returns] at h; cases h)
  refine ⟨_, _, pre0 _ ?_, hrun, hended, _, _, rfl, ?_, ⟨_, rfl⟩, hW, hsame.mono (by decide) (by decide)⟩
  · show Sp p e below s₁ (mkF m 0 #[.val (.ref a1)] []) _
    refine XS.aloadN X0.here hx rfl (hb hby d5_0) rfl rfl ?_
    show Sp p e below s₁ (mkF m 1 #[.val (.ref a1)] [(.ref a1)]) _
    refine st1 _ ?_
    show Sp p e below T1 (mkF m 4 #[.val (.ref a1)] [(.ref a2)]) _
    refine XS.ifnonnullYes X1.here hx rfl (pc0 := 4) (pc' := 11) rfl (hb hby d5_4) rfl (by decide) (by decide) ?_
    show Sp p e below T1 (mkF m 11 #[.val (.ref a1)] []) _
    refine XS.aloadN X1.here hx rfl (hb hby d5_11) rfl rfl ?_
    show Sp p e below T1 (mkF m 12 #[.val (.ref a1)] [(.ref a1)]) _
    refine st2 _ ?_
    show Sp p e below T2 (mkF m 15 #[.val (.ref a1)] [(.ref a2)]) _
    refine X2.arraylength hx (by rw [e2]; exact Ar3.1) (State.isArrayOf_alike hZ.alike Ar3.2.1) (g := (mkF m 15 #[.val (.ref a1)] [(.ref a2)])) rfl rfl (hb hby d5_15) _ ?_
    rw [len_of S3 Nn3]
    show Sp p e below T2 (mkF m 16 #[.val (.ref a1)] [(.int (4 : Int32))]) _
    exact retI X2 hx Bd.returns (hb hby d5_16) hr
  · show Q28 Z w_XML_INVALID w_STATUS_UNAVAILABLE w_IMPORTED w_IMPORTED_WITH_WARNINGS a1 a2 k_a2 p4 p5 p6 p7 h0 n0 _ T2.heap _
    rw [e2]
    exact ⟨rfl, N0, rfl⟩
set_option maxRecDepth 65536 in
set_option maxHeartbeats 40000000 in
theorem rm29 (l : Launch) (Z : State) (a0 : Array Value) (hw : ∀ d ∈ tables_1, d.before a0 Z = true) (ws : List Jvm.Cond) (w_XML_INVALID w_STATUS_UNAVAILABLE w_IMPORTED w_IMPORTED_WITH_WARNINGS : Addr) (hp : Perm Z w_XML_INVALID w_STATUS_UNAVAILABLE w_IMPORTED w_IMPORTED_WITH_WARNINGS) (p0 : Int32) (p1 : Int32) (p2 : Int32) (p3 : Int32) (h0 : Heap) (n0 : Nat) (O0 : Old Z n0 h0) (hc1 : (p0 &&& (1 : Int32)) = (0 : Int32)) (hc2 : ¬ ((p1 &&& (7 : Int32)) = (0 : Int32))) (hc3 : ¬ ((p1 &&& (7 : Int32)) = (1 : Int32))) (hc4 : ¬ ((p1 &&& (7 : Int32)) = (2 : Int32))) (hc5 : ¬ ((p1 &&& (7 : Int32)) = (3 : Int32))) (hc6 : (p1 &&& (7 : Int32)) = (4 : Int32)) :
    MetFree l x (head1 (Jvm.Cond.code x code maxLocals ret :: ws) room_1) (fun a U => a = #[(.int p0), (.int p1), (.int p2), (.int p3)] ∧ Z.Warmed39 U.vm ∧ U.heap = h0) (fun _ _ _ _ _ => True) (fun _ U o U' => ∃ v L, o = .returned v ∧ (v = some (.int (1 : Int32)) ∧ Fr n0 L) ∧ FrameEnd U o U' L 16 896) := by
  refine MetFree.of_bodySF (plainFor_of_name pn_1) hisR ?_
  intro p e s m args below meth c s₁ Bd hml0 hP hK
  obtain ⟨rfl, hZ, hh⟩ := hP
  have hx := Bd.exec
  have hby := Bd.bytes
  have hml : c.maxLocals = 8 := hml0
  have hown : s.vm.findClass "com/example/epcrtools/epcrtools/exchange/SubmissionStatusSizePinLaw" = some m.cls := findClass_of_methodNamed Bd.named
  have hnm := (name_of_methodNamed Bd.named Bd.method).1
  have X0 : Stand p l e room_1 s m #[(.int p0), (.int p1), (.int p2), (.int p3)] below meth c s₁ [] 0 0 := Stand.of_body Bd
  have e0 : s₁.heap = h0 := by rw [← hh, Bd.state]; rfl
  have N0 := Fr.nil n0
  have hp' := hp
  obtain ⟨S_w_XML_INVALID, E_w_XML_INVALID, S_w_STATUS_UNAVAILABLE, E_w_STATUS_UNAVAILABLE, S_w_IMPORTED, E_w_IMPORTED, S_w_IMPORTED_WITH_WARNINGS, E_w_IMPORTED_WITH_WARNINGS⟩ := hp'
  have pre0 : ∀ t, Steps p.tables e below (s₁.setTop (mkF m 0 #[.val (.int p0), .val (.int p1), .val (.int p2), .val (.int p3), .unset, .unset, .unset, .unset] [])) t → Steps p.tables e below (s₁.setTop (entryFrame m #[(.int p0), (.int p1), (.int p2), (.int p3)] maxLocals)) t := fun t k => castTop (ef_0_0 m p0 p1 p2 p3) k
  obtain ⟨_, _, ⟨T1, L1, k1, n1⟩, -, X1, ⟨Lc1, hQ1, l1, y1, z1⟩, st1⟩ := Jvm.LawKit.callS X0 hx (y := y0) hown (mvT hZ (hw _ (List.mem_of_getElem? (i := 0) rfl))) (mvT hZ (hw _ (List.mem_of_getElem? (i := 1) rfl))) (mvT hZ (hw _ (List.mem_of_getElem? (i := 2) rfl))) (mvT hZ (hw _ (List.mem_of_getElem? (i := 3) rfl))) (by decide) (backOf (W := 0) (rmM1 l Z a0 hw [] w_XML_INVALID w_STATUS_UNAVAILABLE w_IMPORTED w_IMPORTED_WITH_WARNINGS hp p3 h0 n0 O0) hZ (hw _ (List.mem_of_getElem? (i := 3) rfl)) (hw _ (List.mem_of_getElem? (i := 2) rfl)) (by decide) (by decide)) (g := (mkF m 1 #[.val (.int p0), .val (.int p1), .val (.int p2), .val (.int p3), .unset, .unset, .unset, .unset] [(.int p3)])) rfl (by rw [hml]; rfl) (argsL := [(.int p3)]) (rest := []) (lenOf pd_0 rfl) rfl (by show 2 * 0 + _ ≤ _; exact Nat.le_of_eq rfl) (hb hby at_1) (fun _ _ => ⟨rfl, e0, (by decide : 0 + 0 ≤ _), (by decide : 0 + 0 ≤ _)⟩)
  dsimp only [Pt.U, Pt.locs, Pt.cells, Pt.slots] at X1 l1 y1 z1 st1 hQ1
  subst l1 y1 z1
  obtain ⟨c1_0, rfl, Nq1, eq1, oq1_0⟩ := hQ1
  have N1 := Fr.app N0 Nq1
  obtain ⟨_, _, ⟨T2, L2, k2, n2⟩, -, X2, ⟨Lc2, hQ2, l2, y2, z2⟩, st2⟩ := Jvm.LawKit.callS X1 hx (y := y1) hown (mvT hZ (hw _ (List.mem_of_getElem? (i := 7) rfl))) (mvT hZ (hw _ (List.mem_of_getElem? (i := 8) rfl))) (mvT hZ (hw _ (List.mem_of_getElem? (i := 2) rfl))) (mvT hZ (hw _ (List.mem_of_getElem? (i := 9) rfl))) (by decide) (backOf (W := 0) (rm26 l Z a0 hw [] w_XML_INVALID w_STATUS_UNAVAILABLE w_IMPORTED w_IMPORTED_WITH_WARNINGS hp p1 p2 h0 n0 O0 hc2 hc3 hc4 hc5 hc6) hZ (hw _ (List.mem_of_getElem? (i := 9) rfl)) (hw _ (List.mem_of_getElem? (i := 2) rfl)) (by decide) (by decide)) (g := (mkF m 45 #[.val (.int p0), .val (.int p1), .val (.int p2), .val (.int p3), .val (.ref c1_0), .unset, .unset, .unset] [(.int p2), (.int p1)])) rfl (by rw [hml]; rfl) (argsL := [(.int p1), (.int p2)]) (rest := []) (lenOf pd_1 rfl) rfl (by show 2 * 0 + _ ≤ _; exact Nat.le_of_eq rfl) (hb hby at_45) (fun _ _ => ⟨rfl, eq1, (by decide : 0 + 1 ≤ _), (by decide : 0 + 4 ≤ _)⟩)
  dsimp only [Pt.U, Pt.locs, Pt.cells, Pt.slots] at X2 l2 y2 z2 st2 hQ2
  subst l2 y2 z2
  obtain ⟨b2_0, kc2_0, rfl, Nq2, Kq2, sq_b2_0, fq2_0, fq2_1⟩ := hQ2
  have N2 := Fr.app N1 Nq2
  have g_b2_0 : n0 ≤ b2_0 := Nat.le_trans (own_sz O0) sq_b2_0
  have sz_b2_0 : h0.size ≤ b2_0 := Nat.le_trans (Keep.refl h0 []).1 sq_b2_0
  have O2 := O0.keep Kq2 all0
  have K2 : Keep h0 T2.heap [] := (Keep.refl h0 []).trans Kq2 all0
  obtain ⟨cl3, Ar3, -, S3, Nn3, -, -⟩ := id fq2_1
  obtain ⟨T4, h4, X4, e4, E4, A4, D4, -, st4⟩ := newO X2 hx hZ hown (hw _ (List.mem_of_getElem? (i := 11) rfl)) (hw _ (List.mem_of_getElem? (i := 12) rfl)) (hw _ (List.mem_of_getElem? (i := 13) rfl)) rfl (g := (mkF m 55 #[.val (.int p0), .val (.int p1), .val (.int p2), .val (.int p3), .val (.ref c1_0), .val (.ref b2_0), .val (.int (4 : Int32)), .unset] [])) rfl (hb hby at_55) (by decide) (by decide)
  obtain ⟨b4, g4⟩ : ∃ z, z = T2.heap.size := ⟨_, rfl⟩
  rw [← g4] at A4 D4 st4
  have g_b4 : n0 ≤ b4 := Nat.le_trans (own_sz O2) (Nat.le_of_eq g4.symm)
  have sz_b4 : h0.size ≤ b4 := Nat.le_trans K2.1 (Nat.le_of_eq g4.symm)
  have O4 := O2.ext E4
  have K4 : Keep h0 h4 [] := K2.ext E4
  have F_statusCode_b4 : Fld Z h4 b4 "com/example/epcrtools/epcrtools/exchange/SubmissionStatus" "statusCode" "Lcom/example/epcrtools/epcrtools/exchange/StatusCode;" .null := D4 (Or.inr (hw _ (List.mem_of_getElem? (i := 21) rfl))) (ty := (.object "com/example/epcrtools/epcrtools/exchange/StatusCode")) (by decide)
  have F_report_b4 : Fld Z h4 b4 "com/example/epcrtools/epcrtools/exchange/SubmissionStatus" "report" "[B" .null := D4 (Or.inr (hw _ (List.mem_of_getElem? (i := 32) rfl))) (ty := (.array .byte)) (by decide)
  obtain ⟨_, _, ⟨T5, L5, k5, n5⟩, -, X5, ⟨Lc5, hQ5, l5, y5, z5⟩, st5⟩ := X4.specialBack hx (y := y2) rfl hown (mvT hZ (hw _ (List.mem_of_getElem? (i := 14) rfl))) (mvT hZ (hw _ (List.mem_of_getElem? (i := 15) rfl))) (mvT hZ (hw _ (List.mem_of_getElem? (i := 16) rfl))) (by decide) (backOf (W := 1) (rm27 l Z a0 hw [] w_XML_INVALID w_STATUS_UNAVAILABLE w_IMPORTED w_IMPORTED_WITH_WARNINGS hp b4 c1_0 b2_0 kc2_0 (nar .byte (p2.toInt8.toInt32)) (nar .byte (((p2.toUInt32 >>> ((8 : Int32) &&& 31).toUInt32).toInt32).toInt8.toInt32)) (nar .byte (((p2.toUInt32 >>> ((16 : Int32) &&& 31).toUInt32).toInt32).toInt8.toInt32)) (nar .byte (((p2.toUInt32 >>> ((24 : Int32) &&& 31).toUInt32).toInt32).toInt8.toInt32)) h4 n0 O4 A4 F_statusCode_b4 F_report_b4 g_b4 (fq2_1.ext E4) (Ne.symm (Nat.ne_of_lt (Nat.lt_of_lt_of_le fq2_0.lt (Nat.le_of_eq g4.symm)))) (fq2_0.ext E4)) hZ (hw _ (List.mem_of_getElem? (i := 16) rfl)) (hw _ (List.mem_of_getElem? (i := 13) rfl)) (by decide) (by decide)) (g := (mkF m 63 #[.val (.int p0), .val (.int p1), .val (.int p2), .val (.int p3), .val (.ref c1_0), .val (.ref b2_0), .val (.int (4 : Int32)), .unset] [(.ref b2_0), (.ref c1_0), (.ref b4), (.ref b4)])) rfl (by rw [hml]; rfl) (Steps.refl _) (a := b4) (argsL := [(.ref c1_0), (.ref b2_0)]) (rest := [(.ref b4)]) (lenOf pd_2 rfl) rfl (by show 2 * 0 + _ ≤ _; exact Nat.le_of_eq rfl) (hb hby at_63) (fun _ _ => ⟨rfl, e4, (by decide : 2 + 1 ≤ _), (by decide : 6 + 4 ≤ _)⟩)
  dsimp only [Pt.U, Pt.locs, Pt.cells, Pt.slots] at X5 l5 y5 z5 st5 hQ5
  subst l5 y5 z5
  obtain ⟨b5_0, rfl, Nq5, Kq5, sq_b5_0, fq5_0, fq5_1, fq5_2, fq5_3, fq5_4⟩ := hQ5
  have N5 := Fr.app N2 Nq5
  have g_b5_0 : n0 ≤ b5_0 := Nat.le_trans (own_sz O4) sq_b5_0
  have sz_b5_0 : h0.size ≤ b5_0 := Nat.le_trans K4.1 sq_b5_0
  have O5 := O4.keep Kq5 (allS g_b4 all0)
  have K5 : Keep h0 T5.heap [] := K4.trans Kq5 (allS (Or.inr sz_b4) all0)
  have f_6 := ((fq2_1.ext E4).keep Kq5 (ninS (Nat.ne_of_lt (Nat.lt_of_lt_of_le fq2_0.lt (Nat.le_of_eq g4.symm))) nin0))
  obtain ⟨cl7, Ar7, -, S7, -, H7, -⟩ := id f_6
  have hin7 : ¬ ((0 : Int32) < 0 ∨ cl7.slots.size ≤ ((0 : Int32)).toNatClampNeg) := inb_of S7 ⟨by decide, by decide⟩
  have hat7 : cl7.slots[((0 : Int32)).toNatClampNeg]? = some (.int (nar .byte (p2.toInt8.toInt32))) := H7.at hin7 rfl
  obtain ⟨cl8, Ar8, q8, S8, Nn8, H8, G8⟩ := id f_6
  have hin8 : ¬ ((0 : Int32) < 0 ∨ cl8.slots.size ≤ ((0 : Int32)).toNatClampNeg) := inb_of S8 ⟨by decide, by decide⟩
  obtain ⟨T9, h9, X9, e9, W9, st9⟩ := stB X5 hx hZ rfl Ar8 (j := (0 : Int32)) hin8 (g := (mkF m 83 #[.val (.int p0), .val (.int p1), .val (.int p2), .val (.int p3), .val (.ref c1_0), .val (.ref b2_0), .val (.int (4 : Int32)), .val (.ref b4)] [(.int (((nar .byte (p2.toInt8.toInt32)) + (1 : Int32)).toInt8.toInt32)), (.int (0 : Int32)), (.ref b2_0)])) rfl rfl (hb hby at_83)
  have N9 := Fr.snoc X9 N5 g_b2_0
  have O9 := O5.wr W9 g_b2_0
  have K9 : Keep h0 h9 [] := K5.wr W9 (Or.inr sz_b2_0)
  have V_b2_0_9 : Arv Z h9 b2_0 kc2_0 .byte (4 : Int32) [(.int (nar .byte (((nar .byte (p2.toInt8.toInt32)) + (1 : Int32)).toInt8.toInt32))), (.int (nar .byte (((p2.toUInt32 >>> ((8 : Int32) &&& 31).toUInt32).toInt32).toInt8.toInt32))), (.int (nar .byte (((p2.toUInt32 >>> ((16 : Int32) &&& 31).toUInt32).toInt32).toInt8.toInt32))), (.int (nar .byte (((p2.toUInt32 >>> ((24 : Int32) &&& 31).toUInt32).toInt32).toInt8.toInt32)))] (.int (0 : Int32)) := Arv.set Ar8 q8 S8 Nn8 H8 G8 (fits_nar_byte _) W9 0 rfl (Nat.le_of_ble_eq_true rfl)
  have f_10 := (fq5_1.other W9 (Or.inl (Ne.symm (Nat.ne_of_lt (Nat.lt_of_lt_of_le fq2_0.lt (Nat.le_of_eq g4.symm))))))
  have f_11 := (fq5_4.other W9 (Ne.symm (Nat.ne_of_lt (Nat.lt_of_lt_of_le (fq2_0.ext E4).lt sq_b5_0))))
  obtain ⟨cq12, kq12, q12a, q12b, q12c⟩ := isOf hZ e9 (fq5_0.wr W9)
  obtain ⟨_, _, ⟨T12, L12, k12, n12⟩, -, X12, ⟨Lc12, hQ12, l12, y12, z12⟩, st12⟩ := X9.virtualBack hx (y := y3) (z := y3) hown (mvT hZ (hw _ (List.mem_of_getElem? (i := 33) rfl))) (mvT hZ (hw _ (List.mem_of_getElem? (i := 34) rfl))) (notFace_of_selects (args := #[]) (mvT hZ (hw _ (List.mem_of_getElem? (i := 36) rfl)))) (mvT hZ (hw _ (List.mem_of_getElem? (i := 36) rfl))) (mvT hZ (hw _ (List.mem_of_getElem? (i := 35) rfl))) (by decide) (backOf (W := 0) (rm28 l Z a0 hw [] w_XML_INVALID w_STATUS_UNAVAILABLE w_IMPORTED w_IMPORTED_WITH_WARNINGS hp b4 b5_0 kc2_0 (nar .byte (p2.toInt8.toInt32)) (nar .byte (((p2.toUInt32 >>> ((8 : Int32) &&& 31).toUInt32).toInt32).toInt8.toInt32)) (nar .byte (((p2.toUInt32 >>> ((16 : Int32) &&& 31).toUInt32).toInt32).toInt8.toInt32)) (nar .byte (((p2.toUInt32 >>> ((24 : Int32) &&& 31).toUInt32).toInt32).toInt8.toInt32)) h9 n0 O9 f_10 f_11) hZ (hw _ (List.mem_of_getElem? (i := 37) rfl)) (hw _ (List.mem_of_getElem? (i := 13) rfl)) (by decide) (by decide)) q12a q12c (g := (mkF m 86 #[.val (.int p0), .val (.int p1), .val (.int p2), .val (.int p3), .val (.ref c1_0), .val (.ref b2_0), .val (.int (4 : Int32)), .val (.ref b4)] [(.ref b4)])) rfl (by rw [hml]; rfl) (Steps.refl _) (argsL := []) (rest := []) (lenOf pd_3 rfl) rfl (by show 2 * 0 + _ ≤ _; exact Nat.le_of_eq rfl) (hb hby at_86) (fun _ _ => ⟨rfl, e9, (by decide : 3 + 0 ≤ _), (by decide : 10 + 0 ≤ _)⟩)
  dsimp only [Pt.U, Pt.locs, Pt.cells, Pt.slots] at X12 l12 y12 z12 st12 hQ12
  subst l12 y12 z12
  obtain ⟨rfl, Nq12, eq12⟩ := hQ12
  have N12 := Fr.app N9 Nq12
  have f_13 := (fq5_2.other W9 (Or.inl (Ne.symm (Nat.ne_of_lt (Nat.lt_of_lt_of_le fq2_0.lt (Nat.le_of_eq g4.symm))))))
  obtain ⟨cq14, kq14, q14a, q14b, q14c⟩ := isOf hZ eq12 (fq5_0.wr W9)
  obtain ⟨_, _, ⟨T14, L14, k14, n14⟩, -, X14, ⟨Lc14, hQ14, l14, y14, z14⟩, st14⟩ := X12.virtualBack hx (y := y4) (z := y4) hown (mvT hZ (hw _ (List.mem_of_getElem? (i := 38) rfl))) (mvT hZ (hw _ (List.mem_of_getElem? (i := 39) rfl))) (notFace_of_selects (args := #[]) (mvT hZ (hw _ (List.mem_of_getElem? (i := 41) rfl)))) (mvT hZ (hw _ (List.mem_of_getElem? (i := 41) rfl))) (mvT hZ (hw _ (List.mem_of_getElem? (i := 40) rfl))) (by decide) (backOf (W := 0) (rm8 l Z a0 hw [] w_XML_INVALID w_STATUS_UNAVAILABLE w_IMPORTED w_IMPORTED_WITH_WARNINGS hp b4 c1_0 h9 n0 O9 f_13) hZ (hw _ (List.mem_of_getElem? (i := 42) rfl)) (hw _ (List.mem_of_getElem? (i := 13) rfl)) (by decide) (by decide)) q14a q14c (g := (mkF m 96 #[.val (.int p0), .val (.int p1), .val (.int p2), .val (.int p3), .val (.ref c1_0), .val (.ref b2_0), .val (.int (4 : Int32)), .val (.ref b4)] [(.ref b4)])) rfl (by rw [hml]; rfl) (Steps.refl _) (argsL := []) (rest := []) (lenOf pd_4 rfl) rfl (by show 2 * 0 + _ ≤ _; exact Nat.le_of_eq rfl) (hb hby at_96) (fun _ _ => ⟨rfl, eq12, (by decide : 3 + 0 ≤ _), (by decide : 10 + 0 ≤ _)⟩)
  dsimp only [Pt.U, Pt.locs, Pt.cells, Pt.slots] at X14 l14 y14 z14 st14 hQ14
  subst l14 y14 z14
  obtain ⟨rfl, Nq14, eq14⟩ := hQ14
  have N14 := Fr.app N12 Nq14
  obtain ⟨fs, hr, hrun, hended, hW, hsame⟩ := X14.leave (v := some (.int (1 : Int32))) (fun h => by rw [Bd.returns] at h; cases h)
  refine ⟨_, _, pre0 _ ?_, hrun, hended, _, _, rfl, ?_, ⟨_, rfl⟩, hW, hsame.mono (by decide) (by decide)⟩
  · show Sp p e below s₁ (mkF m 0 #[.val (.int p0), .val (.int p1), .val (.int p2), .val (.int p3), .unset, .unset, .unset, .unset] []) _
    refine XS.iloadN X0.here hx rfl (hb hby at_0) rfl ?_
    show Sp p e below s₁ (mkF m 1 #[.val (.int p0), .val (.int p1), .val (.int p2), .val (.int p3), .unset, .unset, .unset, .unset] [(.int p3)]) _
    refine st1 _ ?_
    show Sp p e below T1 (mkF m 4 #[.val (.int p0), .val (.int p1), .val (.int p2), .val (.int p3), .unset, .unset, .unset, .unset] [(.ref c1_0)]) _
    refine XS.astore X1.here hx rfl (hb hby at_4) rfl rfl (l' := #[.val (.int p0), .val (.int p1), .val (.int p2), .val (.int p3), .val (.ref c1_0), .unset, .unset, .unset]) rfl ?_
    show Sp p e below T1 (mkF m 6 #[.val (.int p0), .val (.int p1), .val (.int p2), .val (.int p3), .val (.ref c1_0), .unset, .unset, .unset] []) _
    refine XS.iloadN X1.here hx rfl (hb hby at_6) rfl ?_
    show Sp p e below T1 (mkF m 7 #[.val (.int p0), .val (.int p1), .val (.int p2), .val (.int p3), .val (.ref c1_0), .unset, .unset, .unset] [(.int p0)]) _
    refine XS.iconst X1.here hx rfl (hb hby at_7) ?_
    show Sp p e below T1 (mkF m 8 #[.val (.int p0), .val (.int p1), .val (.int p2), .val (.int p3), .val (.ref c1_0), .unset, .unset, .unset] [(.int (1 : Int32)), (.int p0)]) _
    refine XS.iand X1.here hx rfl (hb hby at_8) rfl ?_
    show Sp p e below T1 (mkF m 9 #[.val (.int p0), .val (.int p1), .val (.int p2), .val (.int p3), .val (.ref c1_0), .unset, .unset, .unset] [(.int (p0 &&& (1 : Int32)))]) _
    refine XS.ifYes X1.here hx rfl (pc0 := 9) (pc' := 43) rfl (hb hby at_9) rfl ((if0 _ _).trans (teq hc1).1) (by decide) (by decide) ?_
    show Sp p e below T1 (mkF m 43 #[.val (.int p0), .val (.int p1), .val (.int p2), .val (.int p3), .val (.ref c1_0), .unset, .unset, .unset] []) _
    refine XS.iloadN X1.here hx rfl (hb hby at_43) rfl ?_
    show Sp p e below T1 (mkF m 44 #[.val (.int p0), .val (.int p1), .val (.int p2), .val (.int p3), .val (.ref c1_0), .unset, .unset, .unset] [(.int p1)]) _
    refine XS.iloadN X1.here hx rfl (hb hby at_44) rfl ?_
    show Sp p e below T1 (mkF m 45 #[.val (.int p0), .val (.int p1), .val (.int p2), .val (.int p3), .val (.ref c1_0), .unset, .unset, .unset] [(.int p2), (.int p1)]) _
    refine st2 _ ?_
    show Sp p e below T2 (mkF m 48 #[.val (.int p0), .val (.int p1), .val (.int p2), .val (.int p3), .val (.ref c1_0), .unset, .unset, .unset] [(.ref b2_0)]) _
    refine XS.astore X2.here hx rfl (hb hby at_48) rfl rfl (l' := #[.val (.int p0), .val (.int p1), .val (.int p2), .val (.int p3), .val (.ref c1_0), .val (.ref b2_0), .unset, .unset]) rfl ?_
    show Sp p e below T2 (mkF m 50 #[.val (.int p0), .val (.int p1), .val (.int p2), .val (.int p3), .val (.ref c1_0), .val (.ref b2_0), .unset, .unset] []) _
    refine XS.aload X2.here hx rfl (hb hby at_50) rfl rfl ?_
    show Sp p e below T2 (mkF m 52 #[.val (.int p0), .val (.int p1), .val (.int p2), .val (.int p3), .val (.ref c1_0), .val (.ref b2_0), .unset, .unset] [(.ref b2_0)]) _
    refine X2.arraylength hx (by exact Ar3.1) (State.isArrayOf_alike hZ.alike Ar3.2.1) (g := (mkF m 52 #[.val (.int p0), .val (.int p1), .val (.int p2), .val (.int p3), .val (.ref c1_0), .val (.ref b2_0), .unset, .unset] [(.ref b2_0)])) rfl rfl (hb hby at_52) _ ?_
    rw [len_of S3 Nn3]
    show Sp p e below T2 (mkF m 53 #[.val (.int p0), .val (.int p1), .val (.int p2), .val (.int p3), .val (.ref c1_0), .val (.ref b2_0), .unset, .unset] [(.int (4 : Int32))]) _
    refine XS.istore X2.here hx rfl (hb hby at_53) rfl (l' := #[.val (.int p0), .val (.int p1), .val (.int p2), .val (.int p3), .val (.ref c1_0), .val (.ref b2_0), .val (.int (4 : Int32)), .unset]) rfl ?_
    show Sp p e below T2 (mkF m 55 #[.val (.int p0), .val (.int p1), .val (.int p2), .val (.int p3), .val (.ref c1_0), .val (.ref b2_0), .val (.int (4 : Int32)), .unset] []) _
    refine st4 _ ?_
    show Sp p e below T4 (mkF m 58 #[.val (.int p0), .val (.int p1), .val (.int p2), .val (.int p3), .val (.ref c1_0), .val (.ref b2_0), .val (.int (4 : Int32)), .unset] [(.ref b4)]) _
    refine XS.dup X4.here hx rfl (hb hby at_58) rfl rfl ?_
    show Sp p e below T4 (mkF m 59 #[.val (.int p0), .val (.int p1), .val (.int p2), .val (.int p3), .val (.ref c1_0), .val (.ref b2_0), .val (.int (4 : Int32)), .unset] [(.ref b4), (.ref b4)]) _
    refine XS.aload X4.here hx rfl (hb hby at_59) rfl rfl ?_
    show Sp p e below T4 (mkF m 61 #[.val (.int p0), .val (.int p1), .val (.int p2), .val (.int p3), .val (.ref c1_0), .val (.ref b2_0), .val (.int (4 : Int32)), .unset] [(.ref c1_0), (.ref b4), (.ref b4)]) _
    refine XS.aload X4.here hx rfl (hb hby at_61) rfl rfl ?_
    show Sp p e below T4 (mkF m 63 #[.val (.int p0), .val (.int p1), .val (.int p2), .val (.int p3), .val (.ref c1_0), .val (.ref b2_0), .val (.int (4 : Int32)), .unset] [(.ref b2_0), (.ref c1_0), (.ref b4), (.ref b4)]) _
    refine st5.trans ?_
    show Sp p e below T5 (mkF m 66 #[.val (.int p0), .val (.int p1), .val (.int p2), .val (.int p3), .val (.ref c1_0), .val (.ref b2_0), .val (.int (4 : Int32)), .unset] [(.ref b4)]) _
    refine XS.astore X5.here hx rfl (hb hby at_66) rfl rfl (l' := #[.val (.int p0), .val (.int p1), .val (.int p2), .val (.int p3), .val (.ref c1_0), .val (.ref b2_0), .val (.int (4 : Int32)), .val (.ref b4)]) rfl ?_
    show Sp p e below T5 (mkF m 68 #[.val (.int p0), .val (.int p1), .val (.int p2), .val (.int p3), .val (.ref c1_0), .val (.ref b2_0), .val (.int (4 : Int32)), .val (.ref b4)] []) _
    refine XS.iload X5.here hx rfl (hb hby at_68) rfl ?_
    show Sp p e below T5 (mkF m 70 #[.val (.int p0), .val (.int p1), .val (.int p2), .val (.int p3), .val (.ref c1_0), .val (.ref b2_0), .val (.int (4 : Int32)), .val (.ref b4)] [(.int (4 : Int32))]) _
    refine XS.ifNo X5.here hx rfl (hb hby at_70) rfl ((if0 _ _).trans (tlt (by decide : (0 : Int32) < (4 : Int32))).2.2.2) ?_
    show Sp p e below T5 (mkF m 73 #[.val (.int p0), .val (.int p1), .val (.int p2), .val (.int p3), .val (.ref c1_0), .val (.ref b2_0), .val (.int (4 : Int32)), .val (.ref b4)] []) _
    refine XS.aload X5.here hx rfl (hb hby at_73) rfl rfl ?_
    show Sp p e below T5 (mkF m 75 #[.val (.int p0), .val (.int p1), .val (.int p2), .val (.int p3), .val (.ref c1_0), .val (.ref b2_0), .val (.int (4 : Int32)), .val (.ref b4)] [(.ref b2_0)]) _
    refine XS.iconst X5.here hx rfl (hb hby at_75) ?_
    show Sp p e below T5 (mkF m 76 #[.val (.int p0), .val (.int p1), .val (.int p2), .val (.int p3), .val (.ref c1_0), .val (.ref b2_0), .val (.int (4 : Int32)), .val (.ref b4)] [(.int (0 : Int32)), (.ref b2_0)]) _
    refine XS.aload X5.here hx rfl (hb hby at_76) rfl rfl ?_
    show Sp p e below T5 (mkF m 78 #[.val (.int p0), .val (.int p1), .val (.int p2), .val (.int p3), .val (.ref c1_0), .val (.ref b2_0), .val (.int (4 : Int32)), .val (.ref b4)] [(.ref b2_0), (.int (0 : Int32)), (.ref b2_0)]) _
    refine XS.iconst X5.here hx rfl (hb hby at_78) ?_
    show Sp p e below T5 (mkF m 79 #[.val (.int p0), .val (.int p1), .val (.int p2), .val (.int p3), .val (.ref c1_0), .val (.ref b2_0), .val (.int (4 : Int32)), .val (.ref b4)] [(.int (0 : Int32)), (.ref b2_0), (.int (0 : Int32)), (.ref b2_0)]) _
    refine X5.baloadBytes hx (j := (0 : Int32)) (v := (.int (nar .byte (p2.toInt8.toInt32)))) (by exact Ar7.1) (State.isArrayOf_alike hZ.alike Ar7.2.1) Ar7.2.2 hin7 hat7 (g := (mkF m 79 #[.val (.int p0), .val (.int p1), .val (.int p2), .val (.int p3), .val (.ref c1_0), .val (.ref b2_0), .val (.int (4 : Int32)), .val (.ref b4)] [(.int (0 : Int32)), (.ref b2_0), (.int (0 : Int32)), (.ref b2_0)])) rfl rfl (hb hby at_79) _ ?_
    show Sp p e below T5 (mkF m 80 #[.val (.int p0), .val (.int p1), .val (.int p2), .val (.int p3), .val (.ref c1_0), .val (.ref b2_0), .val (.int (4 : Int32)), .val (.ref b4)] [(.int (nar .byte (p2.toInt8.toInt32))), (.int (0 : Int32)), (.ref b2_0)]) _
    refine XS.iconst X5.here hx rfl (hb hby at_80) ?_
    show Sp p e below T5 (mkF m 81 #[.val (.int p0), .val (.int p1), .val (.int p2), .val (.int p3), .val (.ref c1_0), .val (.ref b2_0), .val (.int (4 : Int32)), .val (.ref b4)] [(.int (1 : Int32)), (.int (nar .byte (p2.toInt8.toInt32))), (.int (0 : Int32)), (.ref b2_0)]) _
    refine XS.iadd X5.here hx rfl (hb hby at_81) rfl ?_
    show Sp p e below T5 (mkF m 82 #[.val (.int p0), .val (.int p1), .val (.int p2), .val (.int p3), .val (.ref c1_0), .val (.ref b2_0), .val (.int (4 : Int32)), .val (.ref b4)] [(.int ((nar .byte (p2.toInt8.toInt32)) + (1 : Int32))), (.int (0 : Int32)), (.ref b2_0)]) _
    refine XS.i2b X5.here hx rfl (hb hby at_82) rfl ?_
    show Sp p e below T5 (mkF m 83 #[.val (.int p0), .val (.int p1), .val (.int p2), .val (.int p3), .val (.ref c1_0), .val (.ref b2_0), .val (.int (4 : Int32)), .val (.ref b4)] [(.int (((nar .byte (p2.toInt8.toInt32)) + (1 : Int32)).toInt8.toInt32)), (.int (0 : Int32)), (.ref b2_0)]) _
    refine st9 _ ?_
    show Sp p e below T9 (mkF m 84 #[.val (.int p0), .val (.int p1), .val (.int p2), .val (.int p3), .val (.ref c1_0), .val (.ref b2_0), .val (.int (4 : Int32)), .val (.ref b4)] []) _
    refine XS.aload X9.here hx rfl (hb hby at_84) rfl rfl ?_
    show Sp p e below T9 (mkF m 86 #[.val (.int p0), .val (.int p1), .val (.int p2), .val (.int p3), .val (.ref c1_0), .val (.ref b2_0), .val (.int (4 : Int32)), .val (.ref b4)] [(.ref b4)]) _
    refine st12.trans ?_
    show Sp p e below T12 (mkF m 89 #[.val (.int p0), .val (.int p1), .val (.int p2), .val (.int p3), .val (.ref c1_0), .val (.ref b2_0), .val (.int (4 : Int32)), .val (.ref b4)] [(.int (4 : Int32))]) _
    refine XS.iload X12.here hx rfl (hb hby at_89) rfl ?_
    show Sp p e below T12 (mkF m 91 #[.val (.int p0), .val (.int p1), .val (.int p2), .val (.int p3), .val (.ref c1_0), .val (.ref b2_0), .val (.int (4 : Int32)), .val (.ref b4)] [(.int (4 : Int32)), (.int (4 : Int32))]) _
    refine XS.icmpNo X12.here hx rfl (hb hby at_91) rfl (teq (by decide : (4 : Int32) = (4 : Int32))).2 ?_
    show Sp p e below T12 (mkF m 94 #[.val (.int p0), .val (.int p1), .val (.int p2), .val (.int p3), .val (.ref c1_0), .val (.ref b2_0), .val (.int (4 : Int32)), .val (.ref b4)] []) _
    refine XS.aload X12.here hx rfl (hb hby at_94) rfl rfl ?_
    show Sp p e below T12 (mkF m 96 #[.val (.int p0), .val (.int p1), .val (.int p2), .val (.int p3), .val (.ref c1_0), .val (.ref b2_0), .val (.int (4 : Int32)), .val (.ref b4)] [(.ref b4)]) _
    refine st14.trans ?_
    show Sp p e below T14 (mkF m 99 #[.val (.int p0), .val (.int p1), .val (.int p2), .val (.int p3), .val (.ref c1_0), .val (.ref b2_0), .val (.int (4 : Int32)), .val (.ref b4)] [(.ref c1_0)]) _
    refine XS.aload X14.here hx rfl (hb hby at_99) rfl rfl ?_
    show Sp p e below T14 (mkF m 101 #[.val (.int p0), .val (.int p1), .val (.int p2), .val (.int p3), .val (.ref c1_0), .val (.ref b2_0), .val (.int (4 : Int32)), .val (.ref b4)] [(.ref c1_0), (.ref c1_0)]) _
    refine Jvm.RoadKit.acmp (g := (mkF m 101 #[.val (.int p0), .val (.int p1), .val (.int p2), .val (.int p3), .val (.ref c1_0), .val (.ref b2_0), .val (.int (4 : Int32)), .val (.ref b4)] [(.ref c1_0), (.ref c1_0)])) X14 hx rfl rfl rfl (pc0 := 101) (pc' := 104) (same := true) rfl (hb hby at_101) rfl (decide_eq_true rfl) (by decide) (by decide) ?_
    show Sp p e below T14 (mkF m 104 #[.val (.int p0), .val (.int p1), .val (.int p2), .val (.int p3), .val (.ref c1_0), .val (.ref b2_0), .val (.int (4 : Int32)), .val (.ref b4)] []) _
    refine XS.iconst X14.here hx rfl (hb hby at_104) ?_
    show Sp p e below T14 (mkF m 105 #[.val (.int p0), .val (.int p1), .val (.int p2), .val (.int p3), .val (.ref c1_0), .val (.ref b2_0), .val (.int (4 : Int32)), .val (.ref b4)] [(.int (1 : Int32))]) _
    refine XS.goto X14.here hx rfl (pc0 := 105) (pc' := 109) rfl (hb hby at_105) (by decide) (by decide) ?_
    show Sp p e below T14 (mkF m 109 #[.val (.int p0), .val (.int p1), .val (.int p2), .val (.int p3), .val (.ref c1_0), .val (.ref b2_0), .val (.int (4 : Int32)), .val (.ref b4)] [(.int (1 : Int32))]) _
    exact retN X14 hx (t := .boolean) Bd.returns (by simp) (hb hby at_109) hr
  · skip
    exact ⟨rfl, N14⟩
theorem d2_119 : decode method_3_code 119 = .ok (.iload_n 2, 1) := by decide +kernel
theorem d2_120 : decode method_3_code 120 = .ok (.iconst 5, 1) := by decide +kernel
theorem d2_121 : decode method_3_code 121 = .ok (.if_icmp .ne 29, 3) := by decide +kernel
theorem d2_124 : decode method_3_code 124 = .ok (.iconst 5, 1) := by decide +kernel
theorem d2_125 : decode method_3_code 125 = .ok (.newarray .byte, 2) := by decide +kernel
theorem d2_127 : decode method_3_code 127 = .ok (.dup, 1) := by decide +kernel
theorem d2_128 : decode method_3_code 128 = .ok (.iconst 0, 1) := by decide +kernel
theorem d2_129 : decode method_3_code 129 = .ok (.iconst 0, 1) := by decide +kernel
theorem d2_130 : decode method_3_code 130 = .ok (.bastore, 1) := by decide +kernel
theorem d2_131 : decode method_3_code 131 = .ok (.dup, 1) := by decide +kernel
theorem d2_132 : decode method_3_code 132 = .ok (.iconst 1, 1) := by decide +kernel
theorem d2_133 : decode method_3_code 133 = .ok (.iload 4, 2) := by decide +kernel
theorem d2_135 : decode method_3_code 135 = .ok (.bastore, 1) := by decide +kernel
theorem d2_136 : decode method_3_code 136 = .ok (.dup, 1) := by decide +kernel
theorem d2_137 : decode method_3_code 137 = .ok (.iconst 2, 1) := by decide +kernel
theorem d2_138 : decode method_3_code 138 = .ok (.iconst 0, 1) := by decide +kernel
theorem d2_139 : decode method_3_code 139 = .ok (.bastore, 1) := by decide +kernel
theorem d2_140 : decode method_3_code 140 = .ok (.dup, 1) := by decide +kernel
theorem d2_141 : decode method_3_code 141 = .ok (.iconst 3, 1) := by decide +kernel
theorem d2_142 : decode method_3_code 142 = .ok (.iload 6, 2) := by decide +kernel
theorem d2_144 : decode method_3_code 144 = .ok (.bastore, 1) := by decide +kernel
theorem d2_145 : decode method_3_code 145 = .ok (.dup, 1) := by decide +kernel
theorem d2_146 : decode method_3_code 146 = .ok (.iconst 4, 1) := by decide +kernel
theorem d2_147 : decode method_3_code 147 = .ok (.iload_n 3, 1) := by decide +kernel
theorem d2_148 : decode method_3_code 148 = .ok (.bastore, 1) := by decide +kernel
theorem d2_149 : decode method_3_code 149 = .ok (.areturn, 1) := by decide +kernel
def Q30 (Z : State) (w_XML_INVALID : Addr) (w_STATUS_UNAVAILABLE : Addr) (w_IMPORTED : Addr) (w_IMPORTED_WITH_WARNINGS : Addr) (p1 : Int32) (p2 : Int32) (h0 : Heap) (n0 : Nat) (v : Option Value) (h : Heap) (L : List Loc) : Prop := ∃ (b1 : Addr), ∃ (k1 : ClassId), v = some (.ref b1) ∧ Fr n0 L ∧ Keep h0 h [] ∧ h0.size ≤ b1 ∧ Exa Z h b1 "[B" ∧ Arv Z h b1 k1 .byte (5 : Int32) [(.int (0 : Int32)), (.int (nar .byte (((p2.toUInt32 >>> ((8 : Int32) &&& 31).toUInt32).toInt32).toInt8.toInt32))), (.int (0 : Int32)), (.int (nar .byte (((p2.toUInt32 >>> ((24 : Int32) &&& 31).toUInt32).toInt32).toInt8.toInt32))), (.int (nar .byte (p2.toInt8.toInt32)))] (.int (0 : Int32))
set_option maxRecDepth 65536 in
set_option maxHeartbeats 40000000 in
theorem rm30 (l : Launch) (Z : State) (a0 : Array Value) (hw : ∀ d ∈ tables_1, d.before a0 Z = true) (ws : List Jvm.Cond) (w_XML_INVALID w_STATUS_UNAVAILABLE w_IMPORTED w_IMPORTED_WITH_WARNINGS : Addr) (hp : Perm Z w_XML_INVALID w_STATUS_UNAVAILABLE w_IMPORTED w_IMPORTED_WITH_WARNINGS) (p1 : Int32) (p2 : Int32) (h0 : Heap) (n0 : Nat) (O0 : Old Z n0 h0) (hc1 : ¬ ((p1 &&& (7 : Int32)) = (0 : Int32))) (hc2 : ¬ ((p1 &&& (7 : Int32)) = (1 : Int32))) (hc3 : ¬ ((p1 &&& (7 : Int32)) = (2 : Int32))) (hc4 : ¬ ((p1 &&& (7 : Int32)) = (3 : Int32))) (hc5 : ¬ ((p1 &&& (7 : Int32)) = (4 : Int32))) (hc6 : (p1 &&& (7 : Int32)) = (5 : Int32)) :
    MetFree l y1 (head1 (Jvm.Cond.code y1 method_3_code 7 (some (.array .byte)) :: ws) ({ frames := 0, cells := 1, slots := 5, locals := 0 } : Room)) (fun a U => a = #[(.int p1), (.int p2)] ∧ Z.Warmed39 U.vm ∧ U.heap = h0) (fun _ _ _ _ _ => True) (fun _ U o U' => ∃ v L, o = .returned v ∧ Q30 Z w_XML_INVALID w_STATUS_UNAVAILABLE w_IMPORTED w_IMPORTED_WITH_WARNINGS p1 p2 h0 n0 v U'.heap L ∧ FrameEnd U o U' L ({ frames := 0, cells := 1, slots := 5, locals := 0 } : Room).cells ({ frames := 0, cells := 1, slots := 5, locals := 0 } : Room).slots) := by
  refine MetFree.of_bodySF (plainFor_of_name pn_1) hisR ?_
  intro p e s m args below meth c s₁ Bd hml0 hP hK
  obtain ⟨rfl, hZ, hh⟩ := hP
  have hx := Bd.exec
  have hby := Bd.bytes
  have hml : c.maxLocals = 7 := hml0
  have hown : s.vm.findClass "com/example/epcrtools/epcrtools/exchange/SubmissionStatusSizePinLaw" = some m.cls := findClass_of_methodNamed Bd.named
  have hnm := (name_of_methodNamed Bd.named Bd.method).1
  have X0 : Stand p l e ({ frames := 0, cells := 1, slots := 5, locals := 0 } : Room) s m #[(.int p1), (.int p2)] below meth c s₁ [] 0 0 := Stand.of_body Bd
  have e0 : s₁.heap = h0 := by rw [← hh, Bd.state]; rfl
  have N0 := Fr.nil n0
  have hp' := hp
  obtain ⟨S_w_XML_INVALID, E_w_XML_INVALID, S_w_STATUS_UNAVAILABLE, E_w_STATUS_UNAVAILABLE, S_w_IMPORTED, E_w_IMPORTED, S_w_IMPORTED_WITH_WARNINGS, E_w_IMPORTED_WITH_WARNINGS⟩ := hp'
  have pre0 : ∀ t, Steps p.tables e below (s₁.setTop (mkF m 0 #[.val (.int p1), .val (.int p2), .unset, .unset, .unset, .unset, .unset] [])) t → Steps p.tables e below (s₁.setTop (entryFrame m #[(.int p1), (.int p2)] 7)) t := fun t k => castTop (ef_2_0 m p1 p2) k
  obtain ⟨T1, h1, k1, X1, e1, E1, A1, EA1, st1⟩ := newPE X0 hx hZ (hw _ (List.mem_of_getElem? (i := 10) rfl)) e0 (g := (mkF m 125 #[.val (.int p1), .val (.int p2), .val (.int (p1 &&& (7 : Int32))), .val (.int (p2.toInt8.toInt32)), .val (.int (((p2.toUInt32 >>> ((8 : Int32) &&& 31).toUInt32).toInt32).toInt8.toInt32)), .val (.int (((p2.toUInt32 >>> ((16 : Int32) &&& 31).toUInt32).toInt32).toInt8.toInt32)), .val (.int (((p2.toUInt32 >>> ((24 : Int32) &&& 31).toUInt32).toInt32).toInt8.toInt32))] [(.int (5 : Int32))])) rfl (hb hby d2_125) rfl (by decide) (cap := 5) (by decide) (by decide) (by decide) (by decide) (ad := "[B") (by decide)
  obtain ⟨b1, g1⟩ : ∃ z, z = h0.size := ⟨_, rfl⟩
  rw [← g1] at A1 EA1 st1
  have g_b1 : n0 ≤ b1 := Nat.le_trans (own_sz O0) (Nat.le_of_eq g1.symm)
  have sz_b1 : h0.size ≤ b1 := Nat.le_trans (Keep.refl h0 []).1 (Nat.le_of_eq g1.symm)
  have O1 := O0.ext E1
  have K1 : Keep h0 h1 [] := (Keep.refl h0 []).ext E1
  have V_b1 : Arv Z h1 b1 k1 .byte (5 : Int32) [(.int (0 : Int32)), (.int (0 : Int32)), (.int (0 : Int32)), (.int (0 : Int32)), (.int (0 : Int32))] (.int (0 : Int32)) := (Arv.new A1 (by decide)).pad (pad_rep [] (.int (0 : Int32)) 5)
  obtain ⟨cl2, Ar2, q2, S2, Nn2, H2, G2⟩ := id V_b1
  have hin2 : ¬ ((0 : Int32) < 0 ∨ cl2.slots.size ≤ ((0 : Int32)).toNatClampNeg) := inb_of S2 ⟨by decide, by decide⟩
  obtain ⟨T3, h3, X3, e3, W3, st3⟩ := stB X1 hx hZ e1 Ar2 (j := (0 : Int32)) hin2 (g := (mkF m 130 #[.val (.int p1), .val (.int p2), .val (.int (p1 &&& (7 : Int32))), .val (.int (p2.toInt8.toInt32)), .val (.int (((p2.toUInt32 >>> ((8 : Int32) &&& 31).toUInt32).toInt32).toInt8.toInt32)), .val (.int (((p2.toUInt32 >>> ((16 : Int32) &&& 31).toUInt32).toInt32).toInt8.toInt32)), .val (.int (((p2.toUInt32 >>> ((24 : Int32) &&& 31).toUInt32).toInt32).toInt8.toInt32))] [(.int (0 : Int32)), (.int (0 : Int32)), (.ref b1), (.ref b1)])) rfl rfl (hb hby d2_130)
  have N3 := Fr.snoc X3 N0 g_b1
  have O3 := O1.wr W3 g_b1
  have K3 : Keep h0 h3 [] := K1.wr W3 (Or.inr sz_b1)
  have V_b1_3 : Arv Z h3 b1 k1 .byte (5 : Int32) [(.int (0 : Int32)), (.int (0 : Int32)), (.int (0 : Int32)), (.int (0 : Int32)), (.int (0 : Int32))] (.int (0 : Int32)) := Arv.set Ar2 q2 S2 Nn2 H2 G2 (fits_nar_byte _) W3 0 rfl (Nat.le_of_ble_eq_true rfl)
  obtain ⟨cl4, Ar4, q4, S4, Nn4, H4, G4⟩ := id V_b1_3
  have hin4 : ¬ ((1 : Int32) < 0 ∨ cl4.slots.size ≤ ((1 : Int32)).toNatClampNeg) := inb_of S4 ⟨by decide, by decide⟩
  obtain ⟨T5, h5, X5, e5, W5, st5⟩ := stB X3 hx hZ e3 Ar4 (j := (1 : Int32)) hin4 (g := (mkF m 135 #[.val (.int p1), .val (.int p2), .val (.int (p1 &&& (7 : Int32))), .val (.int (p2.toInt8.toInt32)), .val (.int (((p2.toUInt32 >>> ((8 : Int32) &&& 31).toUInt32).toInt32).toInt8.toInt32)), .val (.int (((p2.toUInt32 >>> ((16 : Int32) &&& 31).toUInt32).toInt32).toInt8.toInt32)), .val (.int (((p2.toUInt32 >>> ((24 : Int32) &&& 31).toUInt32).toInt32).toInt8.toInt32))] [(.int (((p2.toUInt32 >>> ((8 : Int32) &&& 31).toUInt32).toInt32).toInt8.toInt32)), (.int (1 : Int32)), (.ref b1), (.ref b1)])) rfl rfl (hb hby d2_135)
  have N5 := Fr.snoc X5 N3 g_b1
  have O5 := O3.wr W5 g_b1
  have K5 : Keep h0 h5 [] := K3.wr W5 (Or.inr sz_b1)
  have V_b1_5 : Arv Z h5 b1 k1 .byte (5 : Int32) [(.int (0 : Int32)), (.int (nar .byte (((p2.toUInt32 >>> ((8 : Int32) &&& 31).toUInt32).toInt32).toInt8.toInt32))), (.int (0 : Int32)), (.int (0 : Int32)), (.int (0 : Int32))] (.int (0 : Int32)) := Arv.set Ar4 q4 S4 Nn4 H4 G4 (fits_nar_byte _) W5 1 rfl (Nat.le_of_ble_eq_true rfl)
  obtain ⟨cl6, Ar6, q6, S6, Nn6, H6, G6⟩ := id V_b1_5
  have hin6 : ¬ ((2 : Int32) < 0 ∨ cl6.slots.size ≤ ((2 : Int32)).toNatClampNeg) := inb_of S6 ⟨by decide, by decide⟩
  obtain ⟨T7, h7, X7, e7, W7, st7⟩ := stB X5 hx hZ e5 Ar6 (j := (2 : Int32)) hin6 (g := (mkF m 139 #[.val (.int p1), .val (.int p2), .val (.int (p1 &&& (7 : Int32))), .val (.int (p2.toInt8.toInt32)), .val (.int (((p2.toUInt32 >>> ((8 : Int32) &&& 31).toUInt32).toInt32).toInt8.toInt32)), .val (.int (((p2.toUInt32 >>> ((16 : Int32) &&& 31).toUInt32).toInt32).toInt8.toInt32)), .val (.int (((p2.toUInt32 >>> ((24 : Int32) &&& 31).toUInt32).toInt32).toInt8.toInt32))] [(.int (0 : Int32)), (.int (2 : Int32)), (.ref b1), (.ref b1)])) rfl rfl (hb hby d2_139)
  have N7 := Fr.snoc X7 N5 g_b1
  have O7 := O5.wr W7 g_b1
  have K7 : Keep h0 h7 [] := K5.wr W7 (Or.inr sz_b1)
  have V_b1_7 : Arv Z h7 b1 k1 .byte (5 : Int32) [(.int (0 : Int32)), (.int (nar .byte (((p2.toUInt32 >>> ((8 : Int32) &&& 31).toUInt32).toInt32).toInt8.toInt32))), (.int (0 : Int32)), (.int (0 : Int32)), (.int (0 : Int32))] (.int (0 : Int32)) := Arv.set Ar6 q6 S6 Nn6 H6 G6 (fits_nar_byte _) W7 2 rfl (Nat.le_of_ble_eq_true rfl)
  obtain ⟨cl8, Ar8, q8, S8, Nn8, H8, G8⟩ := id V_b1_7
  have hin8 : ¬ ((3 : Int32) < 0 ∨ cl8.slots.size ≤ ((3 : Int32)).toNatClampNeg) := inb_of S8 ⟨by decide, by decide⟩
  obtain ⟨T9, h9, X9, e9, W9, st9⟩ := stB X7 hx hZ e7 Ar8 (j := (3 : Int32)) hin8 (g := (mkF m 144 #[.val (.int p1), .val (.int p2), .val (.int (p1 &&& (7 : Int32))), .val (.int (p2.toInt8.toInt32)), .val (.int (((p2.toUInt32 >>> ((8 : Int32) &&& 31).toUInt32).toInt32).toInt8.toInt32)), .val (.int (((p2.toUInt32 >>> ((16 : Int32) &&& 31).toUInt32).toInt32).toInt8.toInt32)), .val (.int (((p2.toUInt32 >>> ((24 : Int32) &&& 31).toUInt32).toInt32).toInt8.toInt32))] [(.int (((p2.toUInt32 >>> ((24 : Int32) &&& 31).toUInt32).toInt32).toInt8.toInt32)), (.int (3 : Int32)), (.ref b1), (.ref b1)])) rfl rfl (hb hby d2_144)
  have N9 := Fr.snoc X9 N7 g_b1
  have O9 := O7.wr W9 g_b1
  have K9 : Keep h0 h9 [] := K7.wr W9 (Or.inr sz_b1)
  have V_b1_9 : Arv Z h9 b1 k1 .byte (5 : Int32) [(.int (0 : Int32)), (.int (nar .byte (((p2.toUInt32 >>> ((8 : Int32) &&& 31).toUInt32).toInt32).toInt8.toInt32))), (.int (0 : Int32)), (.int (nar .byte (((p2.toUInt32 >>> ((24 : Int32) &&& 31).toUInt32).toInt32).toInt8.toInt32))), (.int (0 : Int32))] (.int (0 : Int32)) := Arv.set Ar8 q8 S8 Nn8 H8 G8 (fits_nar_byte _) W9 3 rfl (Nat.le_of_ble_eq_true rfl)
  obtain ⟨cl10, Ar10, q10, S10, Nn10, H10, G10⟩ := id V_b1_9
  have hin10 : ¬ ((4 : Int32) < 0 ∨ cl10.slots.size ≤ ((4 : Int32)).toNatClampNeg) := inb_of S10 ⟨by decide, by decide⟩
  obtain ⟨T11, h11, X11, e11, W11, st11⟩ := stB X9 hx hZ e9 Ar10 (j := (4 : Int32)) hin10 (g := (mkF m 148 #[.val (.int p1), .val (.int p2), .val (.int (p1 &&& (7 : Int32))), .val (.int (p2.toInt8.toInt32)), .val (.int (((p2.toUInt32 >>> ((8 : Int32) &&& 31).toUInt32).toInt32).toInt8.toInt32)), .val (.int (((p2.toUInt32 >>> ((16 : Int32) &&& 31).toUInt32).toInt32).toInt8.toInt32)), .val (.int (((p2.toUInt32 >>> ((24 : Int32) &&& 31).toUInt32).toInt32).toInt8.toInt32))] [(.int (p2.toInt8.toInt32)), (.int (4 : Int32)), (.ref b1), (.ref b1)])) rfl rfl (hb hby d2_148)
  have N11 := Fr.snoc X11 N9 g_b1
  have O11 := O9.wr W11 g_b1
  have K11 : Keep h0 h11 [] := K9.wr W11 (Or.inr sz_b1)
  have V_b1_11 : Arv Z h11 b1 k1 .byte (5 : Int32) [(.int (0 : Int32)), (.int (nar .byte (((p2.toUInt32 >>> ((8 : Int32) &&& 31).toUInt32).toInt32).toInt8.toInt32))), (.int (0 : Int32)), (.int (nar .byte (((p2.toUInt32 >>> ((24 : Int32) &&& 31).toUInt32).toInt32).toInt8.toInt32))), (.int (nar .byte (p2.toInt8.toInt32)))] (.int (0 : Int32)) := Arv.set Ar10 q10 S10 Nn10 H10 G10 (fits_nar_byte _) W11 4 rfl (Nat.le_of_ble_eq_true rfl)
  obtain ⟨fs, hr, hrun, hended, hW, hsame⟩ := X11.leave (v := some (.ref b1)) (fun h => by rw [Bd.returns] at h; cases h)
  refine ⟨_, _, pre0 _ ?_, hrun, hended, _, _, rfl, ?_, ⟨_, rfl⟩, hW, hsame.mono (by decide) (by decide)⟩
  · show Sp p e below s₁ (mkF m 0 #[.val (.int p1), .val (.int p2), .unset, .unset, .unset, .unset, .unset] []) _
    refine XS.iloadN X0.here hx rfl (hb hby d2_0) rfl ?_
    show Sp p e below s₁ (mkF m 1 #[.val (.int p1), .val (.int p2), .unset, .unset, .unset, .unset, .unset] [(.int p1)]) _
    refine XS.bipush X0.here hx rfl (hb hby d2_1) ?_
    show Sp p e below s₁ (mkF m 3 #[.val (.int p1), .val (.int p2), .unset, .unset, .unset, .unset, .unset] [(.int (7 : Int32)), (.int p1)]) _
    refine XS.iand X0.here hx rfl (hb hby d2_3) rfl ?_
    show Sp p e below s₁ (mkF m 4 #[.val (.int p1), .val (.int p2), .unset, .unset, .unset, .unset, .unset] [(.int (p1 &&& (7 : Int32)))]) _
    refine XS.istoreN X0.here hx rfl (hb hby d2_4) rfl (l' := #[.val (.int p1), .val (.int p2), .val (.int (p1 &&& (7 : Int32))), .unset, .unset, .unset, .unset]) rfl ?_
    show Sp p e below s₁ (mkF m 5 #[.val (.int p1), .val (.int p2), .val (.int (p1 &&& (7 : Int32))), .unset, .unset, .unset, .unset] []) _
    refine XS.iloadN X0.here hx rfl (hb hby d2_5) rfl ?_
    show Sp p e below s₁ (mkF m 6 #[.val (.int p1), .val (.int p2), .val (.int (p1 &&& (7 : Int32))), .unset, .unset, .unset, .unset] [(.int p2)]) _
    refine XS.i2b X0.here hx rfl (hb hby d2_6) rfl ?_
    show Sp p e below s₁ (mkF m 7 #[.val (.int p1), .val (.int p2), .val (.int (p1 &&& (7 : Int32))), .unset, .unset, .unset, .unset] [(.int (p2.toInt8.toInt32))]) _
    refine XS.istoreN X0.here hx rfl (hb hby d2_7) rfl (l' := #[.val (.int p1), .val (.int p2), .val (.int (p1 &&& (7 : Int32))), .val (.int (p2.toInt8.toInt32)), .unset, .unset, .unset]) rfl ?_
    show Sp p e below s₁ (mkF m 8 #[.val (.int p1), .val (.int p2), .val (.int (p1 &&& (7 : Int32))), .val (.int (p2.toInt8.toInt32)), .unset, .unset, .unset] []) _
    refine XS.iloadN X0.here hx rfl (hb hby d2_8) rfl ?_
    show Sp p e below s₁ (mkF m 9 #[.val (.int p1), .val (.int p2), .val (.int (p1 &&& (7 : Int32))), .val (.int (p2.toInt8.toInt32)), .unset, .unset, .unset] [(.int p2)]) _
    refine XS.bipush X0.here hx rfl (hb hby d2_9) ?_
    show Sp p e below s₁ (mkF m 11 #[.val (.int p1), .val (.int p2), .val (.int (p1 &&& (7 : Int32))), .val (.int (p2.toInt8.toInt32)), .unset, .unset, .unset] [(.int (8 : Int32)), (.int p2)]) _
    refine XS.iushr X0.here hx rfl (hb hby d2_11) rfl ?_
    show Sp p e below s₁ (mkF m 12 #[.val (.int p1), .val (.int p2), .val (.int (p1 &&& (7 : Int32))), .val (.int (p2.toInt8.toInt32)), .unset, .unset, .unset] [(.int ((p2.toUInt32 >>> ((8 : Int32) &&& 31).toUInt32).toInt32))]) _
    refine XS.i2b X0.here hx rfl (hb hby d2_12) rfl ?_
    show Sp p e below s₁ (mkF m 13 #[.val (.int p1), .val (.int p2), .val (.int (p1 &&& (7 : Int32))), .val (.int (p2.toInt8.toInt32)), .unset, .unset, .unset] [(.int (((p2.toUInt32 >>> ((8 : Int32) &&& 31).toUInt32).toInt32).toInt8.toInt32))]) _
    refine XS.istore X0.here hx rfl (hb hby d2_13) rfl (l' := #[.val (.int p1), .val (.int p2), .val (.int (p1 &&& (7 : Int32))), .val (.int (p2.toInt8.toInt32)), .val (.int (((p2.toUInt32 >>> ((8 : Int32) &&& 31).toUInt32).toInt32).toInt8.toInt32)), .unset, .unset]) rfl ?_
    show Sp p e below s₁ (mkF m 15 #[.val (.int p1), .val (.int p2), .val (.int (p1 &&& (7 : Int32))), .val (.int (p2.toInt8.toInt32)), .val (.int (((p2.toUInt32 >>> ((8 : Int32) &&& 31).toUInt32).toInt32).toInt8.toInt32)), .unset, .unset] []) _
    refine XS.iloadN X0.here hx rfl (hb hby d2_15) rfl ?_
    show Sp p e below s₁ (mkF m 16 #[.val (.int p1), .val (.int p2), .val (.int (p1 &&& (7 : Int32))), .val (.int (p2.toInt8.toInt32)), .val (.int (((p2.toUInt32 >>> ((8 : Int32) &&& 31).toUInt32).toInt32).toInt8.toInt32)), .unset, .unset] [(.int p2)]) _
    refine XS.bipush X0.here hx rfl (hb hby d2_16) ?_
    show Sp p e below s₁ (mkF m 18 #[.val (.int p1), .val (.int p2), .val (.int (p1 &&& (7 : Int32))), .val (.int (p2.toInt8.toInt32)), .val (.int (((p2.toUInt32 >>> ((8 : Int32) &&& 31).toUInt32).toInt32).toInt8.toInt32)), .unset, .unset] [(.int (16 : Int32)), (.int p2)]) _
    refine XS.iushr X0.here hx rfl (hb hby d2_18) rfl ?_
    show Sp p e below s₁ (mkF m 19 #[.val (.int p1), .val (.int p2), .val (.int (p1 &&& (7 : Int32))), .val (.int (p2.toInt8.toInt32)), .val (.int (((p2.toUInt32 >>> ((8 : Int32) &&& 31).toUInt32).toInt32).toInt8.toInt32)), .unset, .unset] [(.int ((p2.toUInt32 >>> ((16 : Int32) &&& 31).toUInt32).toInt32))]) _
    refine XS.i2b X0.here hx rfl (hb hby d2_19) rfl ?_
    show Sp p e below s₁ (mkF m 20 #[.val (.int p1), .val (.int p2), .val (.int (p1 &&& (7 : Int32))), .val (.int (p2.toInt8.toInt32)), .val (.int (((p2.toUInt32 >>> ((8 : Int32) &&& 31).toUInt32).toInt32).toInt8.toInt32)), .unset, .unset] [(.int (((p2.toUInt32 >>> ((16 : Int32) &&& 31).toUInt32).toInt32).toInt8.toInt32))]) _
    refine XS.istore X0.here hx rfl (hb hby d2_20) rfl (l' := #[.val (.int p1), .val (.int p2), .val (.int (p1 &&& (7 : Int32))), .val (.int (p2.toInt8.toInt32)), .val (.int (((p2.toUInt32 >>> ((8 : Int32) &&& 31).toUInt32).toInt32).toInt8.toInt32)), .val (.int (((p2.toUInt32 >>> ((16 : Int32) &&& 31).toUInt32).toInt32).toInt8.toInt32)), .unset]) rfl ?_
    show Sp p e below s₁ (mkF m 22 #[.val (.int p1), .val (.int p2), .val (.int (p1 &&& (7 : Int32))), .val (.int (p2.toInt8.toInt32)), .val (.int (((p2.toUInt32 >>> ((8 : Int32) &&& 31).toUInt32).toInt32).toInt8.toInt32)), .val (.int (((p2.toUInt32 >>> ((16 : Int32) &&& 31).toUInt32).toInt32).toInt8.toInt32)), .unset] []) _
    refine XS.iloadN X0.here hx rfl (hb hby d2_22) rfl ?_
    show Sp p e below s₁ (mkF m 23 #[.val (.int p1), .val (.int p2), .val (.int (p1 &&& (7 : Int32))), .val (.int (p2.toInt8.toInt32)), .val (.int (((p2.toUInt32 >>> ((8 : Int32) &&& 31).toUInt32).toInt32).toInt8.toInt32)), .val (.int (((p2.toUInt32 >>> ((16 : Int32) &&& 31).toUInt32).toInt32).toInt8.toInt32)), .unset] [(.int p2)]) _
    refine XS.bipush X0.here hx rfl (hb hby d2_23) ?_
    show Sp p e below s₁ (mkF m 25 #[.val (.int p1), .val (.int p2), .val (.int (p1 &&& (7 : Int32))), .val (.int (p2.toInt8.toInt32)), .val (.int (((p2.toUInt32 >>> ((8 : Int32) &&& 31).toUInt32).toInt32).toInt8.toInt32)), .val (.int (((p2.toUInt32 >>> ((16 : Int32) &&& 31).toUInt32).toInt32).toInt8.toInt32)), .unset] [(.int (24 : Int32)), (.int p2)]) _
    refine XS.iushr X0.here hx rfl (hb hby d2_25) rfl ?_
    show Sp p e below s₁ (mkF m 26 #[.val (.int p1), .val (.int p2), .val (.int (p1 &&& (7 : Int32))), .val (.int (p2.toInt8.toInt32)), .val (.int (((p2.toUInt32 >>> ((8 : Int32) &&& 31).toUInt32).toInt32).toInt8.toInt32)), .val (.int (((p2.toUInt32 >>> ((16 : Int32) &&& 31).toUInt32).toInt32).toInt8.toInt32)), .unset] [(.int ((p2.toUInt32 >>> ((24 : Int32) &&& 31).toUInt32).toInt32))]) _
    refine XS.i2b X0.here hx rfl (hb hby d2_26) rfl ?_
    show Sp p e below s₁ (mkF m 27 #[.val (.int p1), .val (.int p2), .val (.int (p1 &&& (7 : Int32))), .val (.int (p2.toInt8.toInt32)), .val (.int (((p2.toUInt32 >>> ((8 : Int32) &&& 31).toUInt32).toInt32).toInt8.toInt32)), .val (.int (((p2.toUInt32 >>> ((16 : Int32) &&& 31).toUInt32).toInt32).toInt8.toInt32)), .unset] [(.int (((p2.toUInt32 >>> ((24 : Int32) &&& 31).toUInt32).toInt32).toInt8.toInt32))]) _
    refine XS.istore X0.here hx rfl (hb hby d2_27) rfl (l' := #[.val (.int p1), .val (.int p2), .val (.int (p1 &&& (7 : Int32))), .val (.int (p2.toInt8.toInt32)), .val (.int (((p2.toUInt32 >>> ((8 : Int32) &&& 31).toUInt32).toInt32).toInt8.toInt32)), .val (.int (((p2.toUInt32 >>> ((16 : Int32) &&& 31).toUInt32).toInt32).toInt8.toInt32)), .val (.int (((p2.toUInt32 >>> ((24 : Int32) &&& 31).toUInt32).toInt32).toInt8.toInt32))]) rfl ?_
    show Sp p e below s₁ (mkF m 29 #[.val (.int p1), .val (.int p2), .val (.int (p1 &&& (7 : Int32))), .val (.int (p2.toInt8.toInt32)), .val (.int (((p2.toUInt32 >>> ((8 : Int32) &&& 31).toUInt32).toInt32).toInt8.toInt32)), .val (.int (((p2.toUInt32 >>> ((16 : Int32) &&& 31).toUInt32).toInt32).toInt8.toInt32)), .val (.int (((p2.toUInt32 >>> ((24 : Int32) &&& 31).toUInt32).toInt32).toInt8.toInt32))] []) _
    refine XS.iloadN X0.here hx rfl (hb hby d2_29) rfl ?_
    show Sp p e below s₁ (mkF m 30 #[.val (.int p1), .val (.int p2), .val (.int (p1 &&& (7 : Int32))), .val (.int (p2.toInt8.toInt32)), .val (.int (((p2.toUInt32 >>> ((8 : Int32) &&& 31).toUInt32).toInt32).toInt8.toInt32)), .val (.int (((p2.toUInt32 >>> ((16 : Int32) &&& 31).toUInt32).toInt32).toInt8.toInt32)), .val (.int (((p2.toUInt32 >>> ((24 : Int32) &&& 31).toUInt32).toInt32).toInt8.toInt32))] [(.int (p1 &&& (7 : Int32)))]) _
    refine XS.ifYes X0.here hx rfl (pc0 := 30) (pc' := 37) rfl (hb hby d2_30) rfl ((if0 _ _).trans (feq hc1).2) (by decide) (by decide) ?_
    show Sp p e below s₁ (mkF m 37 #[.val (.int p1), .val (.int p2), .val (.int (p1 &&& (7 : Int32))), .val (.int (p2.toInt8.toInt32)), .val (.int (((p2.toUInt32 >>> ((8 : Int32) &&& 31).toUInt32).toInt32).toInt8.toInt32)), .val (.int (((p2.toUInt32 >>> ((16 : Int32) &&& 31).toUInt32).toInt32).toInt8.toInt32)), .val (.int (((p2.toUInt32 >>> ((24 : Int32) &&& 31).toUInt32).toInt32).toInt8.toInt32))] []) _
    refine XS.iloadN X0.here hx rfl (hb hby d2_37) rfl ?_
    show Sp p e below s₁ (mkF m 38 #[.val (.int p1), .val (.int p2), .val (.int (p1 &&& (7 : Int32))), .val (.int (p2.toInt8.toInt32)), .val (.int (((p2.toUInt32 >>> ((8 : Int32) &&& 31).toUInt32).toInt32).toInt8.toInt32)), .val (.int (((p2.toUInt32 >>> ((16 : Int32) &&& 31).toUInt32).toInt32).toInt8.toInt32)), .val (.int (((p2.toUInt32 >>> ((24 : Int32) &&& 31).toUInt32).toInt32).toInt8.toInt32))] [(.int (p1 &&& (7 : Int32)))]) _
    refine XS.iconst X0.here hx rfl (hb hby d2_38) ?_
    show Sp p e below s₁ (mkF m 39 #[.val (.int p1), .val (.int p2), .val (.int (p1 &&& (7 : Int32))), .val (.int (p2.toInt8.toInt32)), .val (.int (((p2.toUInt32 >>> ((8 : Int32) &&& 31).toUInt32).toInt32).toInt8.toInt32)), .val (.int (((p2.toUInt32 >>> ((16 : Int32) &&& 31).toUInt32).toInt32).toInt8.toInt32)), .val (.int (((p2.toUInt32 >>> ((24 : Int32) &&& 31).toUInt32).toInt32).toInt8.toInt32))] [(.int (1 : Int32)), (.int (p1 &&& (7 : Int32)))]) _
    refine XS.icmpYes X0.here hx rfl (pc0 := 39) (pc' := 50) rfl (hb hby d2_39) rfl (feq hc2).2 (by decide) (by decide) ?_
    show Sp p e below s₁ (mkF m 50 #[.val (.int p1), .val (.int p2), .val (.int (p1 &&& (7 : Int32))), .val (.int (p2.toInt8.toInt32)), .val (.int (((p2.toUInt32 >>> ((8 : Int32) &&& 31).toUInt32).toInt32).toInt8.toInt32)), .val (.int (((p2.toUInt32 >>> ((16 : Int32) &&& 31).toUInt32).toInt32).toInt8.toInt32)), .val (.int (((p2.toUInt32 >>> ((24 : Int32) &&& 31).toUInt32).toInt32).toInt8.toInt32))] []) _
    refine XS.iloadN X0.here hx rfl (hb hby d2_50) rfl ?_
    show Sp p e below s₁ (mkF m 51 #[.val (.int p1), .val (.int p2), .val (.int (p1 &&& (7 : Int32))), .val (.int (p2.toInt8.toInt32)), .val (.int (((p2.toUInt32 >>> ((8 : Int32) &&& 31).toUInt32).toInt32).toInt8.toInt32)), .val (.int (((p2.toUInt32 >>> ((16 : Int32) &&& 31).toUInt32).toInt32).toInt8.toInt32)), .val (.int (((p2.toUInt32 >>> ((24 : Int32) &&& 31).toUInt32).toInt32).toInt8.toInt32))] [(.int (p1 &&& (7 : Int32)))]) _
    refine XS.iconst X0.here hx rfl (hb hby d2_51) ?_
    show Sp p e below s₁ (mkF m 52 #[.val (.int p1), .val (.int p2), .val (.int (p1 &&& (7 : Int32))), .val (.int (p2.toInt8.toInt32)), .val (.int (((p2.toUInt32 >>> ((8 : Int32) &&& 31).toUInt32).toInt32).toInt8.toInt32)), .val (.int (((p2.toUInt32 >>> ((16 : Int32) &&& 31).toUInt32).toInt32).toInt8.toInt32)), .val (.int (((p2.toUInt32 >>> ((24 : Int32) &&& 31).toUInt32).toInt32).toInt8.toInt32))] [(.int (2 : Int32)), (.int (p1 &&& (7 : Int32)))]) _
    refine XS.icmpYes X0.here hx rfl (pc0 := 52) (pc' := 68) rfl (hb hby d2_52) rfl (feq hc3).2 (by decide) (by decide) ?_
    show Sp p e below s₁ (mkF m 68 #[.val (.int p1), .val (.int p2), .val (.int (p1 &&& (7 : Int32))), .val (.int (p2.toInt8.toInt32)), .val (.int (((p2.toUInt32 >>> ((8 : Int32) &&& 31).toUInt32).toInt32).toInt8.toInt32)), .val (.int (((p2.toUInt32 >>> ((16 : Int32) &&& 31).toUInt32).toInt32).toInt8.toInt32)), .val (.int (((p2.toUInt32 >>> ((24 : Int32) &&& 31).toUInt32).toInt32).toInt8.toInt32))] []) _
    refine XS.iloadN X0.here hx rfl (hb hby d2_68) rfl ?_
    show Sp p e below s₁ (mkF m 69 #[.val (.int p1), .val (.int p2), .val (.int (p1 &&& (7 : Int32))), .val (.int (p2.toInt8.toInt32)), .val (.int (((p2.toUInt32 >>> ((8 : Int32) &&& 31).toUInt32).toInt32).toInt8.toInt32)), .val (.int (((p2.toUInt32 >>> ((16 : Int32) &&& 31).toUInt32).toInt32).toInt8.toInt32)), .val (.int (((p2.toUInt32 >>> ((24 : Int32) &&& 31).toUInt32).toInt32).toInt8.toInt32))] [(.int (p1 &&& (7 : Int32)))]) _
    refine XS.iconst X0.here hx rfl (hb hby d2_69) ?_
    show Sp p e below s₁ (mkF m 70 #[.val (.int p1), .val (.int p2), .val (.int (p1 &&& (7 : Int32))), .val (.int (p2.toInt8.toInt32)), .val (.int (((p2.toUInt32 >>> ((8 : Int32) &&& 31).toUInt32).toInt32).toInt8.toInt32)), .val (.int (((p2.toUInt32 >>> ((16 : Int32) &&& 31).toUInt32).toInt32).toInt8.toInt32)), .val (.int (((p2.toUInt32 >>> ((24 : Int32) &&& 31).toUInt32).toInt32).toInt8.toInt32))] [(.int (3 : Int32)), (.int (p1 &&& (7 : Int32)))]) _
    refine XS.icmpYes X0.here hx rfl (pc0 := 70) (pc' := 91) rfl (hb hby d2_70) rfl (feq hc4).2 (by decide) (by decide) ?_
    show Sp p e below s₁ (mkF m 91 #[.val (.int p1), .val (.int p2), .val (.int (p1 &&& (7 : Int32))), .val (.int (p2.toInt8.toInt32)), .val (.int (((p2.toUInt32 >>> ((8 : Int32) &&& 31).toUInt32).toInt32).toInt8.toInt32)), .val (.int (((p2.toUInt32 >>> ((16 : Int32) &&& 31).toUInt32).toInt32).toInt8.toInt32)), .val (.int (((p2.toUInt32 >>> ((24 : Int32) &&& 31).toUInt32).toInt32).toInt8.toInt32))] []) _
    refine XS.iloadN X0.here hx rfl (hb hby d2_91) rfl ?_
    show Sp p e below s₁ (mkF m 92 #[.val (.int p1), .val (.int p2), .val (.int (p1 &&& (7 : Int32))), .val (.int (p2.toInt8.toInt32)), .val (.int (((p2.toUInt32 >>> ((8 : Int32) &&& 31).toUInt32).toInt32).toInt8.toInt32)), .val (.int (((p2.toUInt32 >>> ((16 : Int32) &&& 31).toUInt32).toInt32).toInt8.toInt32)), .val (.int (((p2.toUInt32 >>> ((24 : Int32) &&& 31).toUInt32).toInt32).toInt8.toInt32))] [(.int (p1 &&& (7 : Int32)))]) _
    refine XS.iconst X0.here hx rfl (hb hby d2_92) ?_
    show Sp p e below s₁ (mkF m 93 #[.val (.int p1), .val (.int p2), .val (.int (p1 &&& (7 : Int32))), .val (.int (p2.toInt8.toInt32)), .val (.int (((p2.toUInt32 >>> ((8 : Int32) &&& 31).toUInt32).toInt32).toInt8.toInt32)), .val (.int (((p2.toUInt32 >>> ((16 : Int32) &&& 31).toUInt32).toInt32).toInt8.toInt32)), .val (.int (((p2.toUInt32 >>> ((24 : Int32) &&& 31).toUInt32).toInt32).toInt8.toInt32))] [(.int (4 : Int32)), (.int (p1 &&& (7 : Int32)))]) _
    refine XS.icmpYes X0.here hx rfl (pc0 := 93) (pc' := 119) rfl (hb hby d2_93) rfl (feq hc5).2 (by decide) (by decide) ?_
    show Sp p e below s₁ (mkF m 119 #[.val (.int p1), .val (.int p2), .val (.int (p1 &&& (7 : Int32))), .val (.int (p2.toInt8.toInt32)), .val (.int (((p2.toUInt32 >>> ((8 : Int32) &&& 31).toUInt32).toInt32).toInt8.toInt32)), .val (.int (((p2.toUInt32 >>> ((16 : Int32) &&& 31).toUInt32).toInt32).toInt8.toInt32)), .val (.int (((p2.toUInt32 >>> ((24 : Int32) &&& 31).toUInt32).toInt32).toInt8.toInt32))] []) _
    refine XS.iloadN X0.here hx rfl (hb hby d2_119) rfl ?_
    show Sp p e below s₁ (mkF m 120 #[.val (.int p1), .val (.int p2), .val (.int (p1 &&& (7 : Int32))), .val (.int (p2.toInt8.toInt32)), .val (.int (((p2.toUInt32 >>> ((8 : Int32) &&& 31).toUInt32).toInt32).toInt8.toInt32)), .val (.int (((p2.toUInt32 >>> ((16 : Int32) &&& 31).toUInt32).toInt32).toInt8.toInt32)), .val (.int (((p2.toUInt32 >>> ((24 : Int32) &&& 31).toUInt32).toInt32).toInt8.toInt32))] [(.int (p1 &&& (7 : Int32)))]) _
    refine XS.iconst X0.here hx rfl (hb hby d2_120) ?_
    show Sp p e below s₁ (mkF m 121 #[.val (.int p1), .val (.int p2), .val (.int (p1 &&& (7 : Int32))), .val (.int (p2.toInt8.toInt32)), .val (.int (((p2.toUInt32 >>> ((8 : Int32) &&& 31).toUInt32).toInt32).toInt8.toInt32)), .val (.int (((p2.toUInt32 >>> ((16 : Int32) &&& 31).toUInt32).toInt32).toInt8.toInt32)), .val (.int (((p2.toUInt32 >>> ((24 : Int32) &&& 31).toUInt32).toInt32).toInt8.toInt32))] [(.int (5 : Int32)), (.int (p1 &&& (7 : Int32)))]) _
    refine XS.icmpNo X0.here hx rfl (hb hby d2_121) rfl (teq hc6).2 ?_
    show Sp p e below s₁ (mkF m 124 #[.val (.int p1), .val (.int p2), .val (.int (p1 &&& (7 : Int32))), .val (.int (p2.toInt8.toInt32)), .val (.int (((p2.toUInt32 >>> ((8 : Int32) &&& 31).toUInt32).toInt32).toInt8.toInt32)), .val (.int (((p2.toUInt32 >>> ((16 : Int32) &&& 31).toUInt32).toInt32).toInt8.toInt32)), .val (.int (((p2.toUInt32 >>> ((24 : Int32) &&& 31).toUInt32).toInt32).toInt8.toInt32))] []) _
    refine XS.iconst X0.here hx rfl (hb hby d2_124) ?_
    show Sp p e below s₁ (mkF m 125 #[.val (.int p1), .val (.int p2), .val (.int (p1 &&& (7 : Int32))), .val (.int (p2.toInt8.toInt32)), .val (.int (((p2.toUInt32 >>> ((8 : Int32) &&& 31).toUInt32).toInt32).toInt8.toInt32)), .val (.int (((p2.toUInt32 >>> ((16 : Int32) &&& 31).toUInt32).toInt32).toInt8.toInt32)), .val (.int (((p2.toUInt32 >>> ((24 : Int32) &&& 31).toUInt32).toInt32).toInt8.toInt32))] [(.int (5 : Int32))]) _
    refine st1 _ ?_
    show Sp p e below T1 (mkF m 127 #[.val (.int p1), .val (.int p2), .val (.int (p1 &&& (7 : Int32))), .val (.int (p2.toInt8.toInt32)), .val (.int (((p2.toUInt32 >>> ((8 : Int32) &&& 31).toUInt32).toInt32).toInt8.toInt32)), .val (.int (((p2.toUInt32 >>> ((16 : Int32) &&& 31).toUInt32).toInt32).toInt8.toInt32)), .val (.int (((p2.toUInt32 >>> ((24 : Int32) &&& 31).toUInt32).toInt32).toInt8.toInt32))] [(.ref b1)]) _
    refine XS.dup X1.here hx rfl (hb hby d2_127) rfl rfl ?_
    show Sp p e below T1 (mkF m 128 #[.val (.int p1), .val (.int p2), .val (.int (p1 &&& (7 : Int32))), .val (.int (p2.toInt8.toInt32)), .val (.int (((p2.toUInt32 >>> ((8 : Int32) &&& 31).toUInt32).toInt32).toInt8.toInt32)), .val (.int (((p2.toUInt32 >>> ((16 : Int32) &&& 31).toUInt32).toInt32).toInt8.toInt32)), .val (.int (((p2.toUInt32 >>> ((24 : Int32) &&& 31).toUInt32).toInt32).toInt8.toInt32))] [(.ref b1), (.ref b1)]) _
    refine XS.iconst X1.here hx rfl (hb hby d2_128) ?_
    show Sp p e below T1 (mkF m 129 #[.val (.int p1), .val (.int p2), .val (.int (p1 &&& (7 : Int32))), .val (.int (p2.toInt8.toInt32)), .val (.int (((p2.toUInt32 >>> ((8 : Int32) &&& 31).toUInt32).toInt32).toInt8.toInt32)), .val (.int (((p2.toUInt32 >>> ((16 : Int32) &&& 31).toUInt32).toInt32).toInt8.toInt32)), .val (.int (((p2.toUInt32 >>> ((24 : Int32) &&& 31).toUInt32).toInt32).toInt8.toInt32))] [(.int (0 : Int32)), (.ref b1), (.ref b1)]) _
    refine XS.iconst X1.here hx rfl (hb hby d2_129) ?_
    show Sp p e below T1 (mkF m 130 #[.val (.int p1), .val (.int p2), .val (.int (p1 &&& (7 : Int32))), .val (.int (p2.toInt8.toInt32)), .val (.int (((p2.toUInt32 >>> ((8 : Int32) &&& 31).toUInt32).toInt32).toInt8.toInt32)), .val (.int (((p2.toUInt32 >>> ((16 : Int32) &&& 31).toUInt32).toInt32).toInt8.toInt32)), .val (.int (((p2.toUInt32 >>> ((24 : Int32) &&& 31).toUInt32).toInt32).toInt8.toInt32))] [(.int (0 : Int32)), (.int (0 : Int32)), (.ref b1), (.ref b1)]) _
    refine st3 _ ?_
    show Sp p e below T3 (mkF m 131 #[.val (.int p1), .val (.int p2), .val (.int (p1 &&& (7 : Int32))), .val (.int (p2.toInt8.toInt32)), .val (.int (((p2.toUInt32 >>> ((8 : Int32) &&& 31).toUInt32).toInt32).toInt8.toInt32)), .val (.int (((p2.toUInt32 >>> ((16 : Int32) &&& 31).toUInt32).toInt32).toInt8.toInt32)), .val (.int (((p2.toUInt32 >>> ((24 : Int32) &&& 31).toUInt32).toInt32).toInt8.toInt32))] [(.ref b1)]) _
    refine XS.dup X3.here hx rfl (hb hby d2_131) rfl rfl ?_
    show Sp p e below T3 (mkF m 132 #[.val (.int p1), .val (.int p2), .val (.int (p1 &&& (7 : Int32))), .val (.int (p2.toInt8.toInt32)), .val (.int (((p2.toUInt32 >>> ((8 : Int32) &&& 31).toUInt32).toInt32).toInt8.toInt32)), .val (.int (((p2.toUInt32 >>> ((16 : Int32) &&& 31).toUInt32).toInt32).toInt8.toInt32)), .val (.int (((p2.toUInt32 >>> ((24 : Int32) &&& 31).toUInt32).toInt32).toInt8.toInt32))] [(.ref b1), (.ref b1)]) _
    refine XS.iconst X3.here hx rfl (hb hby d2_132) ?_
    show Sp p e below T3 (mkF m 133 #[.val (.int p1), .val (.int p2), .val (.int (p1 &&& (7 : Int32))), .val (.int (p2.toInt8.toInt32)), .val (.int (((p2.toUInt32 >>> ((8 : Int32) &&& 31).toUInt32).toInt32).toInt8.toInt32)), .val (.int (((p2.toUInt32 >>> ((16 : Int32) &&& 31).toUInt32).toInt32).toInt8.toInt32)), .val (.int (((p2.toUInt32 >>> ((24 : Int32) &&& 31).toUInt32).toInt32).toInt8.toInt32))] [(.int (1 : Int32)), (.ref b1), (.ref b1)]) _
    refine XS.iload X3.here hx rfl (hb hby d2_133) rfl ?_
    show Sp p e below T3 (mkF m 135 #[.val (.int p1), .val (.int p2), .val (.int (p1 &&& (7 : Int32))), .val (.int (p2.toInt8.toInt32)), .val (.int (((p2.toUInt32 >>> ((8 : Int32) &&& 31).toUInt32).toInt32).toInt8.toInt32)), .val (.int (((p2.toUInt32 >>> ((16 : Int32) &&& 31).toUInt32).toInt32).toInt8.toInt32)), .val (.int (((p2.toUInt32 >>> ((24 : Int32) &&& 31).toUInt32).toInt32).toInt8.toInt32))] [(.int (((p2.toUInt32 >>> ((8 : Int32) &&& 31).toUInt32).toInt32).toInt8.toInt32)), (.int (1 : Int32)), (.ref b1), (.ref b1)]) _
    refine st5 _ ?_
    show Sp p e below T5 (mkF m 136 #[.val (.int p1), .val (.int p2), .val (.int (p1 &&& (7 : Int32))), .val (.int (p2.toInt8.toInt32)), .val (.int (((p2.toUInt32 >>> ((8 : Int32) &&& 31).toUInt32).toInt32).toInt8.toInt32)), .val (.int (((p2.toUInt32 >>> ((16 : Int32) &&& 31).toUInt32).toInt32).toInt8.toInt32)), .val (.int (((p2.toUInt32 >>> ((24 : Int32) &&& 31).toUInt32).toInt32).toInt8.toInt32))] [(.ref b1)]) _
    refine XS.dup X5.here hx rfl (hb hby d2_136) rfl rfl ?_
    show Sp p e below T5 (mkF m 137 #[.val (.int p1), .val (.int p2), .val (.int (p1 &&& (7 : Int32))), .val (.int (p2.toInt8.toInt32)), .val (.int (((p2.toUInt32 >>> ((8 : Int32) &&& 31).toUInt32).toInt32).toInt8.toInt32)), .val (.int (((p2.toUInt32 >>> ((16 : Int32) &&& 31).toUInt32).toInt32).toInt8.toInt32)), .val (.int (((p2.toUInt32 >>> ((24 : Int32) &&& 31).toUInt32).toInt32).toInt8.toInt32))] [(.ref b1), (.ref b1)]) _
    refine XS.iconst X5.here hx rfl (hb hby d2_137) ?_
    show Sp p e below T5 (mkF m 138 #[.val (.int p1), .val (.int p2), .val (.int (p1 &&& (7 : Int32))), .val (.int (p2.toInt8.toInt32)), .val (.int (((p2.toUInt32 >>> ((8 : Int32) &&& 31).toUInt32).toInt32).toInt8.toInt32)), .val (.int (((p2.toUInt32 >>> ((16 : Int32) &&& 31).toUInt32).toInt32).toInt8.toInt32)), .val (.int (((p2.toUInt32 >>> ((24 : Int32) &&& 31).toUInt32).toInt32).toInt8.toInt32))] [(.int (2 : Int32)), (.ref b1), (.ref b1)]) _
    refine XS.iconst X5.here hx rfl (hb hby d2_138) ?_
    show Sp p e below T5 (mkF m 139 #[.val (.int p1), .val (.int p2), .val (.int (p1 &&& (7 : Int32))), .val (.int (p2.toInt8.toInt32)), .val (.int (((p2.toUInt32 >>> ((8 : Int32) &&& 31).toUInt32).toInt32).toInt8.toInt32)), .val (.int (((p2.toUInt32 >>> ((16 : Int32) &&& 31).toUInt32).toInt32).toInt8.toInt32)), .val (.int (((p2.toUInt32 >>> ((24 : Int32) &&& 31).toUInt32).toInt32).toInt8.toInt32))] [(.int (0 : Int32)), (.int (2 : Int32)), (.ref b1), (.ref b1)]) _
    refine st7 _ ?_
    show Sp p e below T7 (mkF m 140 #[.val (.int p1), .val (.int p2), .val (.int (p1 &&& (7 : Int32))), .val (.int (p2.toInt8.toInt32)), .val (.int (((p2.toUInt32 >>> ((8 : Int32) &&& 31).toUInt32).toInt32).toInt8.toInt32)), .val (.int (((p2.toUInt32 >>> ((16 : Int32) &&& 31).toUInt32).toInt32).toInt8.toInt32)), .val (.int (((p2.toUInt32 >>> ((24 : Int32) &&& 31).toUInt32).toInt32).toInt8.toInt32))] [(.ref b1)]) _
    refine XS.dup X7.here hx rfl (hb hby d2_140) rfl rfl ?_
    show Sp p e below T7 (mkF m 141 #[.val (.int p1), .val (.int p2), .val (.int (p1 &&& (7 : Int32))), .val (.int (p2.toInt8.toInt32)), .val (.int (((p2.toUInt32 >>> ((8 : Int32) &&& 31).toUInt32).toInt32).toInt8.toInt32)), .val (.int (((p2.toUInt32 >>> ((16 : Int32) &&& 31).toUInt32).toInt32).toInt8.toInt32)), .val (.int (((p2.toUInt32 >>> ((24 : Int32) &&& 31).toUInt32).toInt32).toInt8.toInt32))] [(.ref b1), (.ref b1)]) _
    refine XS.iconst X7.here hx rfl (hb hby d2_141) ?_
    show Sp p e below T7 (mkF m 142 #[.val (.int p1), .val (.int p2), .val (.int (p1 &&& (7 : Int32))), .val (.int (p2.toInt8.toInt32)), .val (.int (((p2.toUInt32 >>> ((8 : Int32) &&& 31).toUInt32).toInt32).toInt8.toInt32)), .val (.int (((p2.toUInt32 >>> ((16 : Int32) &&& 31).toUInt32).toInt32).toInt8.toInt32)), .val (.int (((p2.toUInt32 >>> ((24 : Int32) &&& 31).toUInt32).toInt32).toInt8.toInt32))] [(.int (3 : Int32)), (.ref b1), (.ref b1)]) _
    refine XS.iload X7.here hx rfl (hb hby d2_142) rfl ?_
    show Sp p e below T7 (mkF m 144 #[.val (.int p1), .val (.int p2), .val (.int (p1 &&& (7 : Int32))), .val (.int (p2.toInt8.toInt32)), .val (.int (((p2.toUInt32 >>> ((8 : Int32) &&& 31).toUInt32).toInt32).toInt8.toInt32)), .val (.int (((p2.toUInt32 >>> ((16 : Int32) &&& 31).toUInt32).toInt32).toInt8.toInt32)), .val (.int (((p2.toUInt32 >>> ((24 : Int32) &&& 31).toUInt32).toInt32).toInt8.toInt32))] [(.int (((p2.toUInt32 >>> ((24 : Int32) &&& 31).toUInt32).toInt32).toInt8.toInt32)), (.int (3 : Int32)), (.ref b1), (.ref b1)]) _
    refine st9 _ ?_
    show Sp p e below T9 (mkF m 145 #[.val (.int p1), .val (.int p2), .val (.int (p1 &&& (7 : Int32))), .val (.int (p2.toInt8.toInt32)), .val (.int (((p2.toUInt32 >>> ((8 : Int32) &&& 31).toUInt32).toInt32).toInt8.toInt32)), .val (.int (((p2.toUInt32 >>> ((16 : Int32) &&& 31).toUInt32).toInt32).toInt8.toInt32)), .val (.int (((p2.toUInt32 >>> ((24 : Int32) &&& 31).toUInt32).toInt32).toInt8.toInt32))] [(.ref b1)]) _
    refine XS.dup X9.here hx rfl (hb hby d2_145) rfl rfl ?_
    show Sp p e below T9 (mkF m 146 #[.val (.int p1), .val (.int p2), .val (.int (p1 &&& (7 : Int32))), .val (.int (p2.toInt8.toInt32)), .val (.int (((p2.toUInt32 >>> ((8 : Int32) &&& 31).toUInt32).toInt32).toInt8.toInt32)), .val (.int (((p2.toUInt32 >>> ((16 : Int32) &&& 31).toUInt32).toInt32).toInt8.toInt32)), .val (.int (((p2.toUInt32 >>> ((24 : Int32) &&& 31).toUInt32).toInt32).toInt8.toInt32))] [(.ref b1), (.ref b1)]) _
    refine XS.iconst X9.here hx rfl (hb hby d2_146) ?_
    show Sp p e below T9 (mkF m 147 #[.val (.int p1), .val (.int p2), .val (.int (p1 &&& (7 : Int32))), .val (.int (p2.toInt8.toInt32)), .val (.int (((p2.toUInt32 >>> ((8 : Int32) &&& 31).toUInt32).toInt32).toInt8.toInt32)), .val (.int (((p2.toUInt32 >>> ((16 : Int32) &&& 31).toUInt32).toInt32).toInt8.toInt32)), .val (.int (((p2.toUInt32 >>> ((24 : Int32) &&& 31).toUInt32).toInt32).toInt8.toInt32))] [(.int (4 : Int32)), (.ref b1), (.ref b1)]) _
    refine XS.iloadN X9.here hx rfl (hb hby d2_147) rfl ?_
    show Sp p e below T9 (mkF m 148 #[.val (.int p1), .val (.int p2), .val (.int (p1 &&& (7 : Int32))), .val (.int (p2.toInt8.toInt32)), .val (.int (((p2.toUInt32 >>> ((8 : Int32) &&& 31).toUInt32).toInt32).toInt8.toInt32)), .val (.int (((p2.toUInt32 >>> ((16 : Int32) &&& 31).toUInt32).toInt32).toInt8.toInt32)), .val (.int (((p2.toUInt32 >>> ((24 : Int32) &&& 31).toUInt32).toInt32).toInt8.toInt32))] [(.int (p2.toInt8.toInt32)), (.int (4 : Int32)), (.ref b1), (.ref b1)]) _
    refine st11 _ ?_
    show Sp p e below T11 (mkF m 149 #[.val (.int p1), .val (.int p2), .val (.int (p1 &&& (7 : Int32))), .val (.int (p2.toInt8.toInt32)), .val (.int (((p2.toUInt32 >>> ((8 : Int32) &&& 31).toUInt32).toInt32).toInt8.toInt32)), .val (.int (((p2.toUInt32 >>> ((16 : Int32) &&& 31).toUInt32).toInt32).toInt8.toInt32)), .val (.int (((p2.toUInt32 >>> ((24 : Int32) &&& 31).toUInt32).toInt32).toInt8.toInt32))] [(.ref b1)]) _
    jvm_step X11.here [X11.here.top, hx, (hb hby d2_149), X11.method', Bd.returns, Value.isRef, FieldType.isReference]
    first | (intro acts; rw [hr _ acts rfl rfl rfl]) | rw [hr _ _ rfl rfl rfl]
    exact Steps.refl _
  · show Q30 Z w_XML_INVALID w_STATUS_UNAVAILABLE w_IMPORTED w_IMPORTED_WITH_WARNINGS p1 p2 h0 n0 _ T11.heap _
    rw [e11]
    exact ⟨b1, k1, rfl, N11, K11, sz_b1, (((((EA1.wr W3).wr W5).wr W7).wr W9).wr W11), V_b1_11⟩
def Q31 (Z : State) (w_XML_INVALID : Addr) (w_STATUS_UNAVAILABLE : Addr) (w_IMPORTED : Addr) (w_IMPORTED_WITH_WARNINGS : Addr) (a1 : Addr) (a2 : Addr) (a3 : Addr) (k_a3 : ClassId) (p5 : Int32) (p6 : Int32) (p7 : Int32) (h0 : Heap) (n0 : Nat) (v : Option Value) (h : Heap) (L : List Loc) : Prop := ∃ (b3 : Addr), v = none ∧ Fr n0 L ∧ Keep h0 h [a1] ∧ h0.size ≤ b3 ∧ Exa Z h a1 "com/example/epcrtools/epcrtools/exchange/SubmissionStatus" ∧ Fld Z h a1 "com/example/epcrtools/epcrtools/exchange/SubmissionStatus" "report" "[B" (.ref b3) ∧ Fld Z h a1 "com/example/epcrtools/epcrtools/exchange/SubmissionStatus" "statusCode" "Lcom/example/epcrtools/epcrtools/exchange/StatusCode;" (.ref a2) ∧ Exa Z h b3 "[B" ∧ Arv Z h b3 k_a3 .byte (5 : Int32) [(.int (0 : Int32)), (.int p5), (.int (0 : Int32)), (.int p6), (.int p7)] (.int (0 : Int32))
set_option maxRecDepth 65536 in
set_option maxHeartbeats 40000000 in
theorem rm31 (l : Launch) (Z : State) (a0 : Array Value) (hw : ∀ d ∈ tables_1, d.before a0 Z = true) (ws : List Jvm.Cond) (w_XML_INVALID w_STATUS_UNAVAILABLE w_IMPORTED w_IMPORTED_WITH_WARNINGS : Addr) (hp : Perm Z w_XML_INVALID w_STATUS_UNAVAILABLE w_IMPORTED w_IMPORTED_WITH_WARNINGS) (a1 : Addr) (a2 : Addr) (a3 : Addr) (k_a3 : ClassId) (p5 : Int32) (p6 : Int32) (p7 : Int32) (h0 : Heap) (n0 : Nat) (O0 : Old Z n0 h0) (E_a1 : Exa Z h0 a1 "com/example/epcrtools/epcrtools/exchange/SubmissionStatus") (F_statusCode_a1 : Fld Z h0 a1 "com/example/epcrtools/epcrtools/exchange/SubmissionStatus" "statusCode" "Lcom/example/epcrtools/epcrtools/exchange/StatusCode;" .null) (F_report_a1 : Fld Z h0 a1 "com/example/epcrtools/epcrtools/exchange/SubmissionStatus" "report" "[B" .null) (g_a1 : n0 ≤ a1) (V_a3 : Arv Z h0 a3 k_a3 .byte (5 : Int32) [(.int (0 : Int32)), (.int p5), (.int (0 : Int32)), (.int p6), (.int p7)] (.int (0 : Int32))) (ne_a1_a3 : a1 ≠ a3) (E_a3 : Exa Z h0 a3 "[B") :
    MetFree l y2 (head1 (Jvm.Cond.code y2 prog_13_method_1_code 3 none :: ws) ({ frames := 1, cells := 1, slots := 5, locals := 15 } : Room)) (fun a U => a = #[(.ref a1), (.ref a2), (.ref a3)] ∧ Z.Warmed39 U.vm ∧ U.heap = h0) (fun _ _ _ _ _ => True) (fun _ U o U' => ∃ v L, o = .returned v ∧ Q31 Z w_XML_INVALID w_STATUS_UNAVAILABLE w_IMPORTED w_IMPORTED_WITH_WARNINGS a1 a2 a3 k_a3 p5 p6 p7 h0 n0 v U'.heap L ∧ FrameEnd U o U' L ({ frames := 1, cells := 1, slots := 5, locals := 15 } : Room).cells ({ frames := 1, cells := 1, slots := 5, locals := 15 } : Room).slots) := by
  refine MetFree.of_bodySF (plainFor_of_name pn_3) hisR ?_
  intro p e s m args below meth c s₁ Bd hml0 hP hK
  obtain ⟨rfl, hZ, hh⟩ := hP
  have hx := Bd.exec
  have hby := Bd.bytes
  have hml : c.maxLocals = 3 := hml0
  have hown : s.vm.findClass "com/example/epcrtools/epcrtools/exchange/SubmissionStatus" = some m.cls := findClass_of_methodNamed Bd.named
  have hnm := (name_of_methodNamed Bd.named Bd.method).1
  have X0 : Stand p l e ({ frames := 1, cells := 1, slots := 5, locals := 15 } : Room) s m #[(.ref a1), (.ref a2), (.ref a3)] below meth c s₁ [] 0 0 := Stand.of_body Bd
  have e0 : s₁.heap = h0 := by rw [← hh, Bd.state]; rfl
  have N0 := Fr.nil n0
  have hp' := hp
  obtain ⟨S_w_XML_INVALID, E_w_XML_INVALID, S_w_STATUS_UNAVAILABLE, E_w_STATUS_UNAVAILABLE, S_w_IMPORTED, E_w_IMPORTED, S_w_IMPORTED_WITH_WARNINGS, E_w_IMPORTED_WITH_WARNINGS⟩ := hp'
  have pre0 : ∀ t, Steps p.tables e below (s₁.setTop (mkF m 0 #[.val (.ref a1), .val (.ref a2), .val (.ref a3)] [])) t → Steps p.tables e below (s₁.setTop (entryFrame m #[(.ref a1), (.ref a2), (.ref a3)] 3)) t := fun t k => castTop (ef_3_0 m a1 a2 a3) k
  obtain ⟨T1, X1, e1, st1⟩ := initO X0 hx hZ hown (hw _ (List.mem_of_getElem? (i := 17) rfl)) (hw _ (List.mem_of_getElem? (i := 18) rfl)) (hw _ (List.mem_of_getElem? (i := 19) rfl)) e0 (g := (mkF m 1 #[.val (.ref a1), .val (.ref a2), .val (.ref a3)] [(.ref a1)])) rfl (by rw [hml]; rfl) rfl (hb hby d3_1) (by decide) (W := 0) (by show 2 * 0 + _ ≤ _; exact Nat.le_of_eq rfl) (by decide)
  obtain ⟨T2, h2, X2, e2, W2, st2⟩ := putF X1 hx hZ hown (host := "") (Or.inl (hw _ (List.mem_of_getElem? (i := 20) rfl))) Via.refl e1 F_statusCode_a1 E_a1 (Or.inr ⟨(hw _ (List.mem_of_getElem? (i := 21) rfl)), rfl, hnm⟩) (hw _ (List.mem_of_getElem? (i := 12) rfl)) (ty := (.object "com/example/epcrtools/epcrtools/exchange/StatusCode")) (by decide) rfl rfl (g := (mkF m 6 #[.val (.ref a1), .val (.ref a2), .val (.ref a3)] [(.ref a2), (.ref a1)])) rfl rfl (hb hby d3_6)
  have N2 := Fr.snoc X2 N0 g_a1
  have O2 := O0.wr W2 g_a1
  have K2 : Keep h0 h2 [a1] := (Keep.refl h0 [a1]).wr W2 (Or.inl (List.mem_of_getElem? (i := 0) rfl))
  have Fw2 := F_statusCode_a1.same W2
  obtain ⟨T3, h3, X3, e3, E3, A3, EA3, st3⟩ := cloneH X2 hx hZ hown (hw _ (List.mem_of_getElem? (i := 22) rfl)) (hw _ (List.mem_of_getElem? (i := 23) rfl)) (hw _ (List.mem_of_getElem? (i := 27) rfl)) (hw _ (List.mem_of_getElem? (i := 25) rfl)) (hw _ (List.mem_of_getElem? (i := 26) rfl)) (hw _ (List.mem_of_getElem? (i := 28) rfl)) e2 (Arv.arh (V_a3.other W2 (Ne.symm ne_a1_a3))) (E_a3.wr W2) (g := (mkF m 11 #[.val (.ref a1), .val (.ref a2), .val (.ref a3)] [(.ref a3), (.ref a1)])) rfl (by rw [hml]; rfl) rfl (hb hby d3_11) (by decide) (W := 1) (cap := 5) (by show 2 * 0 + _ ≤ _; exact Nat.le_of_eq rfl) (by decide) (by decide) (by decide) (by decide)
  obtain ⟨b3, g3⟩ : ∃ z, z = h2.size := ⟨_, rfl⟩
  rw [← g3] at A3 EA3 st3
  have g_b3 : n0 ≤ b3 := Nat.le_trans (own_sz O2) (Nat.le_of_eq g3.symm)
  have sz_b3 : h0.size ≤ b3 := Nat.le_trans K2.1 (Nat.le_of_eq g3.symm)
  have O3 := O2.ext E3
  have K3 : Keep h0 h3 [a1] := K2.ext E3
  have V_b3 : Arv Z h3 b3 k_a3 .byte (5 : Int32) [(.int (0 : Int32)), (.int p5), (.int (0 : Int32)), (.int p6), (.int p7)] (.int (0 : Int32)) := A3
  obtain ⟨T4, X4, e4, st4⟩ := castY X3 hx hZ hown (hw _ (List.mem_of_getElem? (i := 29) rfl)) e3 (Ins.self EA3) (g := (mkF m 14 #[.val (.ref a1), .val (.ref a2), .val (.ref a3)] [(.ref b3), (.ref a1)])) rfl rfl (hb hby d3_14)
  obtain ⟨T5, h5, X5, e5, W5, st5⟩ := putF X4 hx hZ hown (host := "") (Or.inl (hw _ (List.mem_of_getElem? (i := 31) rfl))) Via.refl e4 ((F_report_a1.other W2 (Or.inr (sn0 hw))).ext E3) ((E_a1.wr W2).ext E3) (Or.inr ⟨(hw _ (List.mem_of_getElem? (i := 32) rfl)), rfl, hnm⟩) (hw _ (List.mem_of_getElem? (i := 12) rfl)) (ty := (.array .byte)) (by decide) rfl rfl (g := (mkF m 17 #[.val (.ref a1), .val (.ref a2), .val (.ref a3)] [(.ref b3), (.ref a1)])) rfl rfl (hb hby d3_17)
  have N5 := Fr.snoc X5 N2 g_a1
  have O5 := O3.wr W5 g_a1
  have K5 : Keep h0 h5 [a1] := K3.wr W5 (Or.inl (List.mem_of_getElem? (i := 0) rfl))
  have Fw5 := ((F_report_a1.other W2 (Or.inr (sn0 hw))).ext E3).same W5
  have f_6 := (V_b3.other W5 (Ne.symm (Nat.ne_of_lt (Nat.lt_of_lt_of_le E_a1.lt sz_b3))))
  obtain ⟨fs, hr, hrun, hended, hW, hsame⟩ := X5.leave (v := none) (fun _ => rfl)
  refine ⟨_, _, pre0 _ ?_, hrun, hended, _, _, rfl, ?_, ⟨_, rfl⟩, hW, hsame.mono (by decide) (by decide)⟩
  · show Sp p e below s₁ (mkF m 0 #[.val (.ref a1), .val (.ref a2), .val (.ref a3)] []) _
    refine XS.aloadN X0.here hx rfl (hb hby d3_0) rfl rfl ?_
    show Sp p e below s₁ (mkF m 1 #[.val (.ref a1), .val (.ref a2), .val (.ref a3)] [(.ref a1)]) _
    refine st1 _ ?_
    show Sp p e below T1 (mkF m 4 #[.val (.ref a1), .val (.ref a2), .val (.ref a3)] []) _
    refine XS.aloadN X1.here hx rfl (hb hby d3_4) rfl rfl ?_
    show Sp p e below T1 (mkF m 5 #[.val (.ref a1), .val (.ref a2), .val (.ref a3)] [(.ref a1)]) _
    refine XS.aloadN X1.here hx rfl (hb hby d3_5) rfl rfl ?_
    show Sp p e below T1 (mkF m 6 #[.val (.ref a1), .val (.ref a2), .val (.ref a3)] [(.ref a2), (.ref a1)]) _
    refine st2 _ ?_
    show Sp p e below T2 (mkF m 9 #[.val (.ref a1), .val (.ref a2), .val (.ref a3)] []) _
    refine XS.aloadN X2.here hx rfl (hb hby d3_9) rfl rfl ?_
    show Sp p e below T2 (mkF m 10 #[.val (.ref a1), .val (.ref a2), .val (.ref a3)] [(.ref a1)]) _
    refine XS.aloadN X2.here hx rfl (hb hby d3_10) rfl rfl ?_
    show Sp p e below T2 (mkF m 11 #[.val (.ref a1), .val (.ref a2), .val (.ref a3)] [(.ref a3), (.ref a1)]) _
    refine st3 _ ?_
    show Sp p e below T3 (mkF m 14 #[.val (.ref a1), .val (.ref a2), .val (.ref a3)] [(.ref b3), (.ref a1)]) _
    refine st4 _ ?_
    show Sp p e below T4 (mkF m 17 #[.val (.ref a1), .val (.ref a2), .val (.ref a3)] [(.ref b3), (.ref a1)]) _
    refine st5 _ ?_
    show Sp p e below T5 (mkF m 20 #[.val (.ref a1), .val (.ref a2), .val (.ref a3)] []) _
    exact X5.returnOut hx Bd.returns (hb hby d3_20) hr
  · show Q31 Z w_XML_INVALID w_STATUS_UNAVAILABLE w_IMPORTED w_IMPORTED_WITH_WARNINGS a1 a2 a3 k_a3 p5 p6 p7 h0 n0 _ T5.heap _
    rw [e5]
    exact ⟨b3, rfl, N5, K5, sz_b3, (((E_a1.wr W2).ext E3).wr W5), Fw5, ((Fw2.ext E3).other W5 (Or.inr (sn1 hw))), (EA3.wr W5), f_6⟩
def Q32 (Z : State) (w_XML_INVALID : Addr) (w_STATUS_UNAVAILABLE : Addr) (w_IMPORTED : Addr) (w_IMPORTED_WITH_WARNINGS : Addr) (a1 : Addr) (a2 : Addr) (k_a2 : ClassId) (p4 : Int32) (p5 : Int32) (p6 : Int32) (h0 : Heap) (n0 : Nat) (v : Option Value) (h : Heap) (L : List Loc) : Prop := v = some (.int (5 : Int32)) ∧ Fr n0 L ∧ h = h0
set_option maxRecDepth 65536 in
set_option maxHeartbeats 40000000 in
theorem rm32 (l : Launch) (Z : State) (a0 : Array Value) (hw : ∀ d ∈ tables_1, d.before a0 Z = true) (ws : List Jvm.Cond) (w_XML_INVALID w_STATUS_UNAVAILABLE w_IMPORTED w_IMPORTED_WITH_WARNINGS : Addr) (hp : Perm Z w_XML_INVALID w_STATUS_UNAVAILABLE w_IMPORTED w_IMPORTED_WITH_WARNINGS) (a1 : Addr) (a2 : Addr) (k_a2 : ClassId) (p4 : Int32) (p5 : Int32) (p6 : Int32) (h0 : Heap) (n0 : Nat) (O0 : Old Z n0 h0) (F_report_a1 : Fld Z h0 a1 "com/example/epcrtools/epcrtools/exchange/SubmissionStatus" "report" "[B" (.ref a2)) (V_a2 : Arv Z h0 a2 k_a2 .byte (5 : Int32) [(.int (0 : Int32)), (.int p4), (.int (0 : Int32)), (.int p5), (.int p6)] (.int (0 : Int32))) :
    MetFree l y3 (head1 (Jvm.Cond.code y3 prog_13_method_6_code 1 (some .int) :: ws) ({ frames := 0, cells := 0, slots := 0, locals := 0 } : Room)) (fun a U => a = #[(.ref a1)] ∧ Z.Warmed39 U.vm ∧ U.heap = h0) (fun _ _ _ _ _ => True) (fun _ U o U' => ∃ v L, o = .returned v ∧ Q32 Z w_XML_INVALID w_STATUS_UNAVAILABLE w_IMPORTED w_IMPORTED_WITH_WARNINGS a1 a2 k_a2 p4 p5 p6 h0 n0 v U'.heap L ∧ FrameEnd U o U' L ({ frames := 0, cells := 0, slots := 0, locals := 0 } : Room).cells ({ frames := 0, cells := 0, slots := 0, locals := 0 } : Room).slots) := by
  refine MetFree.of_bodySF (plainFor_of_name pn_3) hisR ?_
  intro p e s m args below meth c s₁ Bd hml0 hP hK
  obtain ⟨rfl, hZ, hh⟩ := hP
  have hx := Bd.exec
  have hby := Bd.bytes
  have hml : c.maxLocals = 1 := hml0
  have hown : s.vm.findClass "com/example/epcrtools/epcrtools/exchange/SubmissionStatus" = some m.cls := findClass_of_methodNamed Bd.named
  have hnm := (name_of_methodNamed Bd.named Bd.method).1
  have X0 : Stand p l e ({ frames := 0, cells := 0, slots := 0, locals := 0 } : Room) s m #[(.ref a1)] below meth c s₁ [] 0 0 := Stand.of_body Bd
  have e0 : s₁.heap = h0 := by rw [← hh, Bd.state]; rfl
  have N0 := Fr.nil n0
  have hp' := hp
  obtain ⟨S_w_XML_INVALID, E_w_XML_INVALID, S_w_STATUS_UNAVAILABLE, E_w_STATUS_UNAVAILABLE, S_w_IMPORTED, E_w_IMPORTED, S_w_IMPORTED_WITH_WARNINGS, E_w_IMPORTED_WITH_WARNINGS⟩ := hp'
  have pre0 : ∀ t, Steps p.tables e below (s₁.setTop (mkF m 0 #[.val (.ref a1)] [])) t → Steps p.tables e below (s₁.setTop (entryFrame m #[(.ref a1)] 1)) t := fun t k => castTop (ef_5_0 m a1) k
  obtain ⟨T1, X1, e1, st1⟩ := getF X0 hx hZ hown (host := "") (Or.inl (hw _ (List.mem_of_getElem? (i := 31) rfl))) Via.refl e0 F_report_a1 (g := (mkF m 1 #[.val (.ref a1)] [(.ref a1)])) rfl rfl (hb hby d5_1)
  obtain ⟨T2, X2, e2, st2⟩ := getF X1 hx hZ hown (host := "") (Or.inl (hw _ (List.mem_of_getElem? (i := 31) rfl))) Via.refl e1 F_report_a1 (g := (mkF m 12 #[.val (.ref a1)] [(.ref a1)])) rfl rfl (hb hby d5_12)
  obtain ⟨cl3, Ar3, -, S3, Nn3, -, -⟩ := id V_a2
  obtain ⟨fs, hr, hrun, hended, hW, hsame⟩ := X2.leave (v := some (.int (5 : Int32))) (fun h => by rw [Bd.returns] at h; cases h)
  refine ⟨_, _, pre0 _ ?_, hrun, hended, _, _, rfl, ?_, ⟨_, rfl⟩, hW, hsame.mono (by decide) (by decide)⟩
  · show Sp p e below s₁ (mkF m 0 #[.val (.ref a1)] []) _
    refine XS.aloadN X0.here hx rfl (hb hby d5_0) rfl rfl ?_
    show Sp p e below s₁ (mkF m 1 #[.val (.ref a1)] [(.ref a1)]) _
    refine st1 _ ?_
    show Sp p e below T1 (mkF m 4 #[.val (.ref a1)] [(.ref a2)]) _
    refine XS.ifnonnullYes X1.here hx rfl (pc0 := 4) (pc' := 11) rfl (hb hby d5_4) rfl (by decide) (by decide) ?_
    show Sp p e below T1 (mkF m 11 #[.val (.ref a1)] []) _
    refine XS.aloadN X1.here hx rfl (hb hby d5_11) rfl rfl ?_
    show Sp p e below T1 (mkF m 12 #[.val (.ref a1)] [(.ref a1)]) _
    refine st2 _ ?_
    show Sp p e below T2 (mkF m 15 #[.val (.ref a1)] [(.ref a2)]) _
    refine X2.arraylength hx (by rw [e2]; exact Ar3.1) (State.isArrayOf_alike hZ.alike Ar3.2.1) (g := (mkF m 15 #[.val (.ref a1)] [(.ref a2)])) rfl rfl (hb hby d5_15) _ ?_
    rw [len_of S3 Nn3]
    show Sp p e below T2 (mkF m 16 #[.val (.ref a1)] [(.int (5 : Int32))]) _
    exact retI X2 hx Bd.returns (hb hby d5_16) hr
  · show Q32 Z w_XML_INVALID w_STATUS_UNAVAILABLE w_IMPORTED w_IMPORTED_WITH_WARNINGS a1 a2 k_a2 p4 p5 p6 h0 n0 _ T2.heap _
    rw [e2]
    exact ⟨rfl, N0, rfl⟩
set_option maxRecDepth 65536 in
set_option maxHeartbeats 40000000 in
theorem rm33 (l : Launch) (Z : State) (a0 : Array Value) (hw : ∀ d ∈ tables_1, d.before a0 Z = true) (ws : List Jvm.Cond) (w_XML_INVALID w_STATUS_UNAVAILABLE w_IMPORTED w_IMPORTED_WITH_WARNINGS : Addr) (hp : Perm Z w_XML_INVALID w_STATUS_UNAVAILABLE w_IMPORTED w_IMPORTED_WITH_WARNINGS) (p0 : Int32) (p1 : Int32) (p2 : Int32) (p3 : Int32) (h0 : Heap) (n0 : Nat) (O0 : Old Z n0 h0) (hc1 : (p0 &&& (1 : Int32)) = (0 : Int32)) (hc2 : ¬ ((p1 &&& (7 : Int32)) = (0 : Int32))) (hc3 : ¬ ((p1 &&& (7 : Int32)) = (1 : Int32))) (hc4 : ¬ ((p1 &&& (7 : Int32)) = (2 : Int32))) (hc5 : ¬ ((p1 &&& (7 : Int32)) = (3 : Int32))) (hc6 : ¬ ((p1 &&& (7 : Int32)) = (4 : Int32))) (hc7 : (p1 &&& (7 : Int32)) = (5 : Int32)) :
    MetFree l x (head1 (Jvm.Cond.code x code maxLocals ret :: ws) room_1) (fun a U => a = #[(.int p0), (.int p1), (.int p2), (.int p3)] ∧ Z.Warmed39 U.vm ∧ U.heap = h0) (fun _ _ _ _ _ => True) (fun _ U o U' => ∃ v L, o = .returned v ∧ (v = some (.int (1 : Int32)) ∧ Fr n0 L) ∧ FrameEnd U o U' L 16 896) := by
  refine MetFree.of_bodySF (plainFor_of_name pn_1) hisR ?_
  intro p e s m args below meth c s₁ Bd hml0 hP hK
  obtain ⟨rfl, hZ, hh⟩ := hP
  have hx := Bd.exec
  have hby := Bd.bytes
  have hml : c.maxLocals = 8 := hml0
  have hown : s.vm.findClass "com/example/epcrtools/epcrtools/exchange/SubmissionStatusSizePinLaw" = some m.cls := findClass_of_methodNamed Bd.named
  have hnm := (name_of_methodNamed Bd.named Bd.method).1
  have X0 : Stand p l e room_1 s m #[(.int p0), (.int p1), (.int p2), (.int p3)] below meth c s₁ [] 0 0 := Stand.of_body Bd
  have e0 : s₁.heap = h0 := by rw [← hh, Bd.state]; rfl
  have N0 := Fr.nil n0
  have hp' := hp
  obtain ⟨S_w_XML_INVALID, E_w_XML_INVALID, S_w_STATUS_UNAVAILABLE, E_w_STATUS_UNAVAILABLE, S_w_IMPORTED, E_w_IMPORTED, S_w_IMPORTED_WITH_WARNINGS, E_w_IMPORTED_WITH_WARNINGS⟩ := hp'
  have pre0 : ∀ t, Steps p.tables e below (s₁.setTop (mkF m 0 #[.val (.int p0), .val (.int p1), .val (.int p2), .val (.int p3), .unset, .unset, .unset, .unset] [])) t → Steps p.tables e below (s₁.setTop (entryFrame m #[(.int p0), (.int p1), (.int p2), (.int p3)] maxLocals)) t := fun t k => castTop (ef_0_0 m p0 p1 p2 p3) k
  obtain ⟨_, _, ⟨T1, L1, k1, n1⟩, -, X1, ⟨Lc1, hQ1, l1, y1, z1⟩, st1⟩ := Jvm.LawKit.callS X0 hx (y := y0) hown (mvT hZ (hw _ (List.mem_of_getElem? (i := 0) rfl))) (mvT hZ (hw _ (List.mem_of_getElem? (i := 1) rfl))) (mvT hZ (hw _ (List.mem_of_getElem? (i := 2) rfl))) (mvT hZ (hw _ (List.mem_of_getElem? (i := 3) rfl))) (by decide) (backOf (W := 0) (rmM1 l Z a0 hw [] w_XML_INVALID w_STATUS_UNAVAILABLE w_IMPORTED w_IMPORTED_WITH_WARNINGS hp p3 h0 n0 O0) hZ (hw _ (List.mem_of_getElem? (i := 3) rfl)) (hw _ (List.mem_of_getElem? (i := 2) rfl)) (by decide) (by decide)) (g := (mkF m 1 #[.val (.int p0), .val (.int p1), .val (.int p2), .val (.int p3), .unset, .unset, .unset, .unset] [(.int p3)])) rfl (by rw [hml]; rfl) (argsL := [(.int p3)]) (rest := []) (lenOf pd_0 rfl) rfl (by show 2 * 0 + _ ≤ _; exact Nat.le_of_eq rfl) (hb hby at_1) (fun _ _ => ⟨rfl, e0, (by decide : 0 + 0 ≤ _), (by decide : 0 + 0 ≤ _)⟩)
  dsimp only [Pt.U, Pt.locs, Pt.cells, Pt.slots] at X1 l1 y1 z1 st1 hQ1
  subst l1 y1 z1
  obtain ⟨c1_0, rfl, Nq1, eq1, oq1_0⟩ := hQ1
  have N1 := Fr.app N0 Nq1
  obtain ⟨_, _, ⟨T2, L2, k2, n2⟩, -, X2, ⟨Lc2, hQ2, l2, y2, z2⟩, st2⟩ := Jvm.LawKit.callS X1 hx (y := y1) hown (mvT hZ (hw _ (List.mem_of_getElem? (i := 7) rfl))) (mvT hZ (hw _ (List.mem_of_getElem? (i := 8) rfl))) (mvT hZ (hw _ (List.mem_of_getElem? (i := 2) rfl))) (mvT hZ (hw _ (List.mem_of_getElem? (i := 9) rfl))) (by decide) (backOf (W := 0) (rm30 l Z a0 hw [] w_XML_INVALID w_STATUS_UNAVAILABLE w_IMPORTED w_IMPORTED_WITH_WARNINGS hp p1 p2 h0 n0 O0 hc2 hc3 hc4 hc5 hc6 hc7) hZ (hw _ (List.mem_of_getElem? (i := 9) rfl)) (hw _ (List.mem_of_getElem? (i := 2) rfl)) (by decide) (by decide)) (g := (mkF m 45 #[.val (.int p0), .val (.int p1), .val (.int p2), .val (.int p3), .val (.ref c1_0), .unset, .unset, .unset] [(.int p2), (.int p1)])) rfl (by rw [hml]; rfl) (argsL := [(.int p1), (.int p2)]) (rest := []) (lenOf pd_1 rfl) rfl (by show 2 * 0 + _ ≤ _; exact Nat.le_of_eq rfl) (hb hby at_45) (fun _ _ => ⟨rfl, eq1, (by decide : 0 + 1 ≤ _), (by decide : 0 + 5 ≤ _)⟩)
  dsimp only [Pt.U, Pt.locs, Pt.cells, Pt.slots] at X2 l2 y2 z2 st2 hQ2
  subst l2 y2 z2
  obtain ⟨b2_0, kc2_0, rfl, Nq2, Kq2, sq_b2_0, fq2_0, fq2_1⟩ := hQ2
  have N2 := Fr.app N1 Nq2
  have g_b2_0 : n0 ≤ b2_0 := Nat.le_trans (own_sz O0) sq_b2_0
  have sz_b2_0 : h0.size ≤ b2_0 := Nat.le_trans (Keep.refl h0 []).1 sq_b2_0
  have O2 := O0.keep Kq2 all0
  have K2 : Keep h0 T2.heap [] := (Keep.refl h0 []).trans Kq2 all0
  obtain ⟨cl3, Ar3, -, S3, Nn3, -, -⟩ := id fq2_1
  obtain ⟨T4, h4, X4, e4, E4, A4, D4, -, st4⟩ := newO X2 hx hZ hown (hw _ (List.mem_of_getElem? (i := 11) rfl)) (hw _ (List.mem_of_getElem? (i := 12) rfl)) (hw _ (List.mem_of_getElem? (i := 13) rfl)) rfl (g := (mkF m 55 #[.val (.int p0), .val (.int p1), .val (.int p2), .val (.int p3), .val (.ref c1_0), .val (.ref b2_0), .val (.int (5 : Int32)), .unset] [])) rfl (hb hby at_55) (by decide) (by decide)
  obtain ⟨b4, g4⟩ : ∃ z, z = T2.heap.size := ⟨_, rfl⟩
  rw [← g4] at A4 D4 st4
  have g_b4 : n0 ≤ b4 := Nat.le_trans (own_sz O2) (Nat.le_of_eq g4.symm)
  have sz_b4 : h0.size ≤ b4 := Nat.le_trans K2.1 (Nat.le_of_eq g4.symm)
  have O4 := O2.ext E4
  have K4 : Keep h0 h4 [] := K2.ext E4
  have F_statusCode_b4 : Fld Z h4 b4 "com/example/epcrtools/epcrtools/exchange/SubmissionStatus" "statusCode" "Lcom/example/epcrtools/epcrtools/exchange/StatusCode;" .null := D4 (Or.inr (hw _ (List.mem_of_getElem? (i := 21) rfl))) (ty := (.object "com/example/epcrtools/epcrtools/exchange/StatusCode")) (by decide)
  have F_report_b4 : Fld Z h4 b4 "com/example/epcrtools/epcrtools/exchange/SubmissionStatus" "report" "[B" .null := D4 (Or.inr (hw _ (List.mem_of_getElem? (i := 32) rfl))) (ty := (.array .byte)) (by decide)
  obtain ⟨_, _, ⟨T5, L5, k5, n5⟩, -, X5, ⟨Lc5, hQ5, l5, y5, z5⟩, st5⟩ := X4.specialBack hx (y := y2) rfl hown (mvT hZ (hw _ (List.mem_of_getElem? (i := 14) rfl))) (mvT hZ (hw _ (List.mem_of_getElem? (i := 15) rfl))) (mvT hZ (hw _ (List.mem_of_getElem? (i := 16) rfl))) (by decide) (backOf (W := 1) (rm31 l Z a0 hw [] w_XML_INVALID w_STATUS_UNAVAILABLE w_IMPORTED w_IMPORTED_WITH_WARNINGS hp b4 c1_0 b2_0 kc2_0 (nar .byte (((p2.toUInt32 >>> ((8 : Int32) &&& 31).toUInt32).toInt32).toInt8.toInt32)) (nar .byte (((p2.toUInt32 >>> ((24 : Int32) &&& 31).toUInt32).toInt32).toInt8.toInt32)) (nar .byte (p2.toInt8.toInt32)) h4 n0 O4 A4 F_statusCode_b4 F_report_b4 g_b4 (fq2_1.ext E4) (Ne.symm (Nat.ne_of_lt (Nat.lt_of_lt_of_le fq2_0.lt (Nat.le_of_eq g4.symm)))) (fq2_0.ext E4)) hZ (hw _ (List.mem_of_getElem? (i := 16) rfl)) (hw _ (List.mem_of_getElem? (i := 13) rfl)) (by decide) (by decide)) (g := (mkF m 63 #[.val (.int p0), .val (.int p1), .val (.int p2), .val (.int p3), .val (.ref c1_0), .val (.ref b2_0), .val (.int (5 : Int32)), .unset] [(.ref b2_0), (.ref c1_0), (.ref b4), (.ref b4)])) rfl (by rw [hml]; rfl) (Steps.refl _) (a := b4) (argsL := [(.ref c1_0), (.ref b2_0)]) (rest := [(.ref b4)]) (lenOf pd_2 rfl) rfl (by show 2 * 0 + _ ≤ _; exact Nat.le_of_eq rfl) (hb hby at_63) (fun _ _ => ⟨rfl, e4, (by decide : 2 + 1 ≤ _), (by decide : 7 + 5 ≤ _)⟩)
  dsimp only [Pt.U, Pt.locs, Pt.cells, Pt.slots] at X5 l5 y5 z5 st5 hQ5
  subst l5 y5 z5
  obtain ⟨b5_0, rfl, Nq5, Kq5, sq_b5_0, fq5_0, fq5_1, fq5_2, fq5_3, fq5_4⟩ := hQ5
  have N5 := Fr.app N2 Nq5
  have g_b5_0 : n0 ≤ b5_0 := Nat.le_trans (own_sz O4) sq_b5_0
  have sz_b5_0 : h0.size ≤ b5_0 := Nat.le_trans K4.1 sq_b5_0
  have O5 := O4.keep Kq5 (allS g_b4 all0)
  have K5 : Keep h0 T5.heap [] := K4.trans Kq5 (allS (Or.inr sz_b4) all0)
  have f_6 := ((fq2_1.ext E4).keep Kq5 (ninS (Nat.ne_of_lt (Nat.lt_of_lt_of_le fq2_0.lt (Nat.le_of_eq g4.symm))) nin0))
  obtain ⟨cl7, Ar7, -, S7, -, H7, -⟩ := id f_6
  have hin7 : ¬ ((0 : Int32) < 0 ∨ cl7.slots.size ≤ ((0 : Int32)).toNatClampNeg) := inb_of S7 ⟨by decide, by decide⟩
  have hat7 : cl7.slots[((0 : Int32)).toNatClampNeg]? = some (.int (0 : Int32)) := H7.at hin7 rfl
  obtain ⟨cl8, Ar8, q8, S8, Nn8, H8, G8⟩ := id f_6
  have hin8 : ¬ ((0 : Int32) < 0 ∨ cl8.slots.size ≤ ((0 : Int32)).toNatClampNeg) := inb_of S8 ⟨by decide, by decide⟩
  obtain ⟨T9, h9, X9, e9, W9, st9⟩ := stB X5 hx hZ rfl Ar8 (j := (0 : Int32)) hin8 (g := (mkF m 83 #[.val (.int p0), .val (.int p1), .val (.int p2), .val (.int p3), .val (.ref c1_0), .val (.ref b2_0), .val (.int (5 : Int32)), .val (.ref b4)] [(.int (((0 : Int32) + (1 : Int32)).toInt8.toInt32)), (.int (0 : Int32)), (.ref b2_0)])) rfl rfl (hb hby at_83)
  have N9 := Fr.snoc X9 N5 g_b2_0
  have O9 := O5.wr W9 g_b2_0
  have K9 : Keep h0 h9 [] := K5.wr W9 (Or.inr sz_b2_0)
  have V_b2_0_9 : Arv Z h9 b2_0 kc2_0 .byte (5 : Int32) [(.int (1 : Int32)), (.int (nar .byte (((p2.toUInt32 >>> ((8 : Int32) &&& 31).toUInt32).toInt32).toInt8.toInt32))), (.int (0 : Int32)), (.int (nar .byte (((p2.toUInt32 >>> ((24 : Int32) &&& 31).toUInt32).toInt32).toInt8.toInt32))), (.int (nar .byte (p2.toInt8.toInt32)))] (.int (0 : Int32)) := Arv.set Ar8 q8 S8 Nn8 H8 G8 (fits_nar_byte _) W9 0 rfl (Nat.le_of_ble_eq_true rfl)
  have f_10 := (fq5_1.other W9 (Or.inl (Ne.symm (Nat.ne_of_lt (Nat.lt_of_lt_of_le fq2_0.lt (Nat.le_of_eq g4.symm))))))
  have f_11 := (fq5_4.other W9 (Ne.symm (Nat.ne_of_lt (Nat.lt_of_lt_of_le (fq2_0.ext E4).lt sq_b5_0))))
  obtain ⟨cq12, kq12, q12a, q12b, q12c⟩ := isOf hZ e9 (fq5_0.wr W9)
  obtain ⟨_, _, ⟨T12, L12, k12, n12⟩, -, X12, ⟨Lc12, hQ12, l12, y12, z12⟩, st12⟩ := X9.virtualBack hx (y := y3) (z := y3) hown (mvT hZ (hw _ (List.mem_of_getElem? (i := 33) rfl))) (mvT hZ (hw _ (List.mem_of_getElem? (i := 34) rfl))) (notFace_of_selects (args := #[]) (mvT hZ (hw _ (List.mem_of_getElem? (i := 36) rfl)))) (mvT hZ (hw _ (List.mem_of_getElem? (i := 36) rfl))) (mvT hZ (hw _ (List.mem_of_getElem? (i := 35) rfl))) (by decide) (backOf (W := 0) (rm32 l Z a0 hw [] w_XML_INVALID w_STATUS_UNAVAILABLE w_IMPORTED w_IMPORTED_WITH_WARNINGS hp b4 b5_0 kc2_0 (nar .byte (((p2.toUInt32 >>> ((8 : Int32) &&& 31).toUInt32).toInt32).toInt8.toInt32)) (nar .byte (((p2.toUInt32 >>> ((24 : Int32) &&& 31).toUInt32).toInt32).toInt8.toInt32)) (nar .byte (p2.toInt8.toInt32)) h9 n0 O9 f_10 f_11) hZ (hw _ (List.mem_of_getElem? (i := 37) rfl)) (hw _ (List.mem_of_getElem? (i := 13) rfl)) (by decide) (by decide)) q12a q12c (g := (mkF m 86 #[.val (.int p0), .val (.int p1), .val (.int p2), .val (.int p3), .val (.ref c1_0), .val (.ref b2_0), .val (.int (5 : Int32)), .val (.ref b4)] [(.ref b4)])) rfl (by rw [hml]; rfl) (Steps.refl _) (argsL := []) (rest := []) (lenOf pd_3 rfl) rfl (by show 2 * 0 + _ ≤ _; exact Nat.le_of_eq rfl) (hb hby at_86) (fun _ _ => ⟨rfl, e9, (by decide : 3 + 0 ≤ _), (by decide : 12 + 0 ≤ _)⟩)
  dsimp only [Pt.U, Pt.locs, Pt.cells, Pt.slots] at X12 l12 y12 z12 st12 hQ12
  subst l12 y12 z12
  obtain ⟨rfl, Nq12, eq12⟩ := hQ12
  have N12 := Fr.app N9 Nq12
  have f_13 := (fq5_2.other W9 (Or.inl (Ne.symm (Nat.ne_of_lt (Nat.lt_of_lt_of_le fq2_0.lt (Nat.le_of_eq g4.symm))))))
  obtain ⟨cq14, kq14, q14a, q14b, q14c⟩ := isOf hZ eq12 (fq5_0.wr W9)
  obtain ⟨_, _, ⟨T14, L14, k14, n14⟩, -, X14, ⟨Lc14, hQ14, l14, y14, z14⟩, st14⟩ := X12.virtualBack hx (y := y4) (z := y4) hown (mvT hZ (hw _ (List.mem_of_getElem? (i := 38) rfl))) (mvT hZ (hw _ (List.mem_of_getElem? (i := 39) rfl))) (notFace_of_selects (args := #[]) (mvT hZ (hw _ (List.mem_of_getElem? (i := 41) rfl)))) (mvT hZ (hw _ (List.mem_of_getElem? (i := 41) rfl))) (mvT hZ (hw _ (List.mem_of_getElem? (i := 40) rfl))) (by decide) (backOf (W := 0) (rm8 l Z a0 hw [] w_XML_INVALID w_STATUS_UNAVAILABLE w_IMPORTED w_IMPORTED_WITH_WARNINGS hp b4 c1_0 h9 n0 O9 f_13) hZ (hw _ (List.mem_of_getElem? (i := 42) rfl)) (hw _ (List.mem_of_getElem? (i := 13) rfl)) (by decide) (by decide)) q14a q14c (g := (mkF m 96 #[.val (.int p0), .val (.int p1), .val (.int p2), .val (.int p3), .val (.ref c1_0), .val (.ref b2_0), .val (.int (5 : Int32)), .val (.ref b4)] [(.ref b4)])) rfl (by rw [hml]; rfl) (Steps.refl _) (argsL := []) (rest := []) (lenOf pd_4 rfl) rfl (by show 2 * 0 + _ ≤ _; exact Nat.le_of_eq rfl) (hb hby at_96) (fun _ _ => ⟨rfl, eq12, (by decide : 3 + 0 ≤ _), (by decide : 12 + 0 ≤ _)⟩)
  dsimp only [Pt.U, Pt.locs, Pt.cells, Pt.slots] at X14 l14 y14 z14 st14 hQ14
  subst l14 y14 z14
  obtain ⟨rfl, Nq14, eq14⟩ := hQ14
  have N14 := Fr.app N12 Nq14
  obtain ⟨fs, hr, hrun, hended, hW, hsame⟩ := X14.leave (v := some (.int (1 : Int32))) (fun h => by rw [Bd.returns] at h; cases h)
  refine ⟨_, _, pre0 _ ?_, hrun, hended, _, _, rfl, ?_, ⟨_, rfl⟩, hW, hsame.mono (by decide) (by decide)⟩
  · show Sp p e below s₁ (mkF m 0 #[.val (.int p0), .val (.int p1), .val (.int p2), .val (.int p3), .unset, .unset, .unset, .unset] []) _
    refine XS.iloadN X0.here hx rfl (hb hby at_0) rfl ?_
    show Sp p e below s₁ (mkF m 1 #[.val (.int p0), .val (.int p1), .val (.int p2), .val (.int p3), .unset, .unset, .unset, .unset] [(.int p3)]) _
    refine st1 _ ?_
    show Sp p e below T1 (mkF m 4 #[.val (.int p0), .val (.int p1), .val (.int p2), .val (.int p3), .unset, .unset, .unset, .unset] [(.ref c1_0)]) _
    refine XS.astore X1.here hx rfl (hb hby at_4) rfl rfl (l' := #[.val (.int p0), .val (.int p1), .val (.int p2), .val (.int p3), .val (.ref c1_0), .unset, .unset, .unset]) rfl ?_
    show Sp p e below T1 (mkF m 6 #[.val (.int p0), .val (.int p1), .val (.int p2), .val (.int p3), .val (.ref c1_0), .unset, .unset, .unset] []) _
    refine XS.iloadN X1.here hx rfl (hb hby at_6) rfl ?_
    show Sp p e below T1 (mkF m 7 #[.val (.int p0), .val (.int p1), .val (.int p2), .val (.int p3), .val (.ref c1_0), .unset, .unset, .unset] [(.int p0)]) _
    refine XS.iconst X1.here hx rfl (hb hby at_7) ?_
    show Sp p e below T1 (mkF m 8 #[.val (.int p0), .val (.int p1), .val (.int p2), .val (.int p3), .val (.ref c1_0), .unset, .unset, .unset] [(.int (1 : Int32)), (.int p0)]) _
    refine XS.iand X1.here hx rfl (hb hby at_8) rfl ?_
    show Sp p e below T1 (mkF m 9 #[.val (.int p0), .val (.int p1), .val (.int p2), .val (.int p3), .val (.ref c1_0), .unset, .unset, .unset] [(.int (p0 &&& (1 : Int32)))]) _
    refine XS.ifYes X1.here hx rfl (pc0 := 9) (pc' := 43) rfl (hb hby at_9) rfl ((if0 _ _).trans (teq hc1).1) (by decide) (by decide) ?_
    show Sp p e below T1 (mkF m 43 #[.val (.int p0), .val (.int p1), .val (.int p2), .val (.int p3), .val (.ref c1_0), .unset, .unset, .unset] []) _
    refine XS.iloadN X1.here hx rfl (hb hby at_43) rfl ?_
    show Sp p e below T1 (mkF m 44 #[.val (.int p0), .val (.int p1), .val (.int p2), .val (.int p3), .val (.ref c1_0), .unset, .unset, .unset] [(.int p1)]) _
    refine XS.iloadN X1.here hx rfl (hb hby at_44) rfl ?_
    show Sp p e below T1 (mkF m 45 #[.val (.int p0), .val (.int p1), .val (.int p2), .val (.int p3), .val (.ref c1_0), .unset, .unset, .unset] [(.int p2), (.int p1)]) _
    refine st2 _ ?_
    show Sp p e below T2 (mkF m 48 #[.val (.int p0), .val (.int p1), .val (.int p2), .val (.int p3), .val (.ref c1_0), .unset, .unset, .unset] [(.ref b2_0)]) _
    refine XS.astore X2.here hx rfl (hb hby at_48) rfl rfl (l' := #[.val (.int p0), .val (.int p1), .val (.int p2), .val (.int p3), .val (.ref c1_0), .val (.ref b2_0), .unset, .unset]) rfl ?_
    show Sp p e below T2 (mkF m 50 #[.val (.int p0), .val (.int p1), .val (.int p2), .val (.int p3), .val (.ref c1_0), .val (.ref b2_0), .unset, .unset] []) _
    refine XS.aload X2.here hx rfl (hb hby at_50) rfl rfl ?_
    show Sp p e below T2 (mkF m 52 #[.val (.int p0), .val (.int p1), .val (.int p2), .val (.int p3), .val (.ref c1_0), .val (.ref b2_0), .unset, .unset] [(.ref b2_0)]) _
    refine X2.arraylength hx (by exact Ar3.1) (State.isArrayOf_alike hZ.alike Ar3.2.1) (g := (mkF m 52 #[.val (.int p0), .val (.int p1), .val (.int p2), .val (.int p3), .val (.ref c1_0), .val (.ref b2_0), .unset, .unset] [(.ref b2_0)])) rfl rfl (hb hby at_52) _ ?_
    rw [len_of S3 Nn3]
    show Sp p e below T2 (mkF m 53 #[.val (.int p0), .val (.int p1), .val (.int p2), .val (.int p3), .val (.ref c1_0), .val (.ref b2_0), .unset, .unset] [(.int (5 : Int32))]) _
    refine XS.istore X2.here hx rfl (hb hby at_53) rfl (l' := #[.val (.int p0), .val (.int p1), .val (.int p2), .val (.int p3), .val (.ref c1_0), .val (.ref b2_0), .val (.int (5 : Int32)), .unset]) rfl ?_
    show Sp p e below T2 (mkF m 55 #[.val (.int p0), .val (.int p1), .val (.int p2), .val (.int p3), .val (.ref c1_0), .val (.ref b2_0), .val (.int (5 : Int32)), .unset] []) _
    refine st4 _ ?_
    show Sp p e below T4 (mkF m 58 #[.val (.int p0), .val (.int p1), .val (.int p2), .val (.int p3), .val (.ref c1_0), .val (.ref b2_0), .val (.int (5 : Int32)), .unset] [(.ref b4)]) _
    refine XS.dup X4.here hx rfl (hb hby at_58) rfl rfl ?_
    show Sp p e below T4 (mkF m 59 #[.val (.int p0), .val (.int p1), .val (.int p2), .val (.int p3), .val (.ref c1_0), .val (.ref b2_0), .val (.int (5 : Int32)), .unset] [(.ref b4), (.ref b4)]) _
    refine XS.aload X4.here hx rfl (hb hby at_59) rfl rfl ?_
    show Sp p e below T4 (mkF m 61 #[.val (.int p0), .val (.int p1), .val (.int p2), .val (.int p3), .val (.ref c1_0), .val (.ref b2_0), .val (.int (5 : Int32)), .unset] [(.ref c1_0), (.ref b4), (.ref b4)]) _
    refine XS.aload X4.here hx rfl (hb hby at_61) rfl rfl ?_
    show Sp p e below T4 (mkF m 63 #[.val (.int p0), .val (.int p1), .val (.int p2), .val (.int p3), .val (.ref c1_0), .val (.ref b2_0), .val (.int (5 : Int32)), .unset] [(.ref b2_0), (.ref c1_0), (.ref b4), (.ref b4)]) _
    refine st5.trans ?_
    show Sp p e below T5 (mkF m 66 #[.val (.int p0), .val (.int p1), .val (.int p2), .val (.int p3), .val (.ref c1_0), .val (.ref b2_0), .val (.int (5 : Int32)), .unset] [(.ref b4)]) _
    refine XS.astore X5.here hx rfl (hb hby at_66) rfl rfl (l' := #[.val (.int p0), .val (.int p1), .val (.int p2), .val (.int p3), .val (.ref c1_0), .val (.ref b2_0), .val (.int (5 : Int32)), .val (.ref b4)]) rfl ?_
    show Sp p e below T5 (mkF m 68 #[.val (.int p0), .val (.int p1), .val (.int p2), .val (.int p3), .val (.ref c1_0), .val (.ref b2_0), .val (.int (5 : Int32)), .val (.ref b4)] []) _
    refine XS.iload X5.here hx rfl (hb hby at_68) rfl ?_
    show Sp p e below T5 (mkF m 70 #[.val (.int p0), .val (.int p1), .val (.int p2), .val (.int p3), .val (.ref c1_0), .val (.ref b2_0), .val (.int (5 : Int32)), .val (.ref b4)] [(.int (5 : Int32))]) _
    refine XS.ifNo X5.here hx rfl (hb hby at_70) rfl ((if0 _ _).trans (tlt (by decide : (0 : Int32) < (5 : Int32))).2.2.2) ?_
    show Sp p e below T5 (mkF m 73 #[.val (.int p0), .val (.int p1), .val (.int p2), .val (.int p3), .val (.ref c1_0), .val (.ref b2_0), .val (.int (5 : Int32)), .val (.ref b4)] []) _
    refine XS.aload X5.here hx rfl (hb hby at_73) rfl rfl ?_
    show Sp p e below T5 (mkF m 75 #[.val (.int p0), .val (.int p1), .val (.int p2), .val (.int p3), .val (.ref c1_0), .val (.ref b2_0), .val (.int (5 : Int32)), .val (.ref b4)] [(.ref b2_0)]) _
    refine XS.iconst X5.here hx rfl (hb hby at_75) ?_
    show Sp p e below T5 (mkF m 76 #[.val (.int p0), .val (.int p1), .val (.int p2), .val (.int p3), .val (.ref c1_0), .val (.ref b2_0), .val (.int (5 : Int32)), .val (.ref b4)] [(.int (0 : Int32)), (.ref b2_0)]) _
    refine XS.aload X5.here hx rfl (hb hby at_76) rfl rfl ?_
    show Sp p e below T5 (mkF m 78 #[.val (.int p0), .val (.int p1), .val (.int p2), .val (.int p3), .val (.ref c1_0), .val (.ref b2_0), .val (.int (5 : Int32)), .val (.ref b4)] [(.ref b2_0), (.int (0 : Int32)), (.ref b2_0)]) _
    refine XS.iconst X5.here hx rfl (hb hby at_78) ?_
    show Sp p e below T5 (mkF m 79 #[.val (.int p0), .val (.int p1), .val (.int p2), .val (.int p3), .val (.ref c1_0), .val (.ref b2_0), .val (.int (5 : Int32)), .val (.ref b4)] [(.int (0 : Int32)), (.ref b2_0), (.int (0 : Int32)), (.ref b2_0)]) _
    refine X5.baloadBytes hx (j := (0 : Int32)) (v := (.int (0 : Int32))) (by exact Ar7.1) (State.isArrayOf_alike hZ.alike Ar7.2.1) Ar7.2.2 hin7 hat7 (g := (mkF m 79 #[.val (.int p0), .val (.int p1), .val (.int p2), .val (.int p3), .val (.ref c1_0), .val (.ref b2_0), .val (.int (5 : Int32)), .val (.ref b4)] [(.int (0 : Int32)), (.ref b2_0), (.int (0 : Int32)), (.ref b2_0)])) rfl rfl (hb hby at_79) _ ?_
    show Sp p e below T5 (mkF m 80 #[.val (.int p0), .val (.int p1), .val (.int p2), .val (.int p3), .val (.ref c1_0), .val (.ref b2_0), .val (.int (5 : Int32)), .val (.ref b4)] [(.int (0 : Int32)), (.int (0 : Int32)), (.ref b2_0)]) _
    refine XS.iconst X5.here hx rfl (hb hby at_80) ?_
    show Sp p e below T5 (mkF m 81 #[.val (.int p0), .val (.int p1), .val (.int p2), .val (.int p3), .val (.ref c1_0), .val (.ref b2_0), .val (.int (5 : Int32)), .val (.ref b4)] [(.int (1 : Int32)), (.int (0 : Int32)), (.int (0 : Int32)), (.ref b2_0)]) _
    refine XS.iadd X5.here hx rfl (hb hby at_81) rfl ?_
    show Sp p e below T5 (mkF m 82 #[.val (.int p0), .val (.int p1), .val (.int p2), .val (.int p3), .val (.ref c1_0), .val (.ref b2_0), .val (.int (5 : Int32)), .val (.ref b4)] [(.int ((0 : Int32) + (1 : Int32))), (.int (0 : Int32)), (.ref b2_0)]) _
    refine XS.i2b X5.here hx rfl (hb hby at_82) rfl ?_
    show Sp p e below T5 (mkF m 83 #[.val (.int p0), .val (.int p1), .val (.int p2), .val (.int p3), .val (.ref c1_0), .val (.ref b2_0), .val (.int (5 : Int32)), .val (.ref b4)] [(.int (((0 : Int32) + (1 : Int32)).toInt8.toInt32)), (.int (0 : Int32)), (.ref b2_0)]) _
    refine st9 _ ?_
    show Sp p e below T9 (mkF m 84 #[.val (.int p0), .val (.int p1), .val (.int p2), .val (.int p3), .val (.ref c1_0), .val (.ref b2_0), .val (.int (5 : Int32)), .val (.ref b4)] []) _
    refine XS.aload X9.here hx rfl (hb hby at_84) rfl rfl ?_
    show Sp p e below T9 (mkF m 86 #[.val (.int p0), .val (.int p1), .val (.int p2), .val (.int p3), .val (.ref c1_0), .val (.ref b2_0), .val (.int (5 : Int32)), .val (.ref b4)] [(.ref b4)]) _
    refine st12.trans ?_
    show Sp p e below T12 (mkF m 89 #[.val (.int p0), .val (.int p1), .val (.int p2), .val (.int p3), .val (.ref c1_0), .val (.ref b2_0), .val (.int (5 : Int32)), .val (.ref b4)] [(.int (5 : Int32))]) _
    refine XS.iload X12.here hx rfl (hb hby at_89) rfl ?_
    show Sp p e below T12 (mkF m 91 #[.val (.int p0), .val (.int p1), .val (.int p2), .val (.int p3), .val (.ref c1_0), .val (.ref b2_0), .val (.int (5 : Int32)), .val (.ref b4)] [(.int (5 : Int32)), (.int (5 : Int32))]) _
    refine XS.icmpNo X12.here hx rfl (hb hby at_91) rfl (teq (by decide : (5 : Int32) = (5 : Int32))).2 ?_
    show Sp p e below T12 (mkF m 94 #[.val (.int p0), .val (.int p1), .val (.int p2), .val (.int p3), .val (.ref c1_0), .val (.ref b2_0), .val (.int (5 : Int32)), .val (.ref b4)] []) _
    refine XS.aload X12.here hx rfl (hb hby at_94) rfl rfl ?_
    show Sp p e below T12 (mkF m 96 #[.val (.int p0), .val (.int p1), .val (.int p2), .val (.int p3), .val (.ref c1_0), .val (.ref b2_0), .val (.int (5 : Int32)), .val (.ref b4)] [(.ref b4)]) _
    refine st14.trans ?_
    show Sp p e below T14 (mkF m 99 #[.val (.int p0), .val (.int p1), .val (.int p2), .val (.int p3), .val (.ref c1_0), .val (.ref b2_0), .val (.int (5 : Int32)), .val (.ref b4)] [(.ref c1_0)]) _
    refine XS.aload X14.here hx rfl (hb hby at_99) rfl rfl ?_
    show Sp p e below T14 (mkF m 101 #[.val (.int p0), .val (.int p1), .val (.int p2), .val (.int p3), .val (.ref c1_0), .val (.ref b2_0), .val (.int (5 : Int32)), .val (.ref b4)] [(.ref c1_0), (.ref c1_0)]) _
    refine Jvm.RoadKit.acmp (g := (mkF m 101 #[.val (.int p0), .val (.int p1), .val (.int p2), .val (.int p3), .val (.ref c1_0), .val (.ref b2_0), .val (.int (5 : Int32)), .val (.ref b4)] [(.ref c1_0), (.ref c1_0)])) X14 hx rfl rfl rfl (pc0 := 101) (pc' := 104) (same := true) rfl (hb hby at_101) rfl (decide_eq_true rfl) (by decide) (by decide) ?_
    show Sp p e below T14 (mkF m 104 #[.val (.int p0), .val (.int p1), .val (.int p2), .val (.int p3), .val (.ref c1_0), .val (.ref b2_0), .val (.int (5 : Int32)), .val (.ref b4)] []) _
    refine XS.iconst X14.here hx rfl (hb hby at_104) ?_
    show Sp p e below T14 (mkF m 105 #[.val (.int p0), .val (.int p1), .val (.int p2), .val (.int p3), .val (.ref c1_0), .val (.ref b2_0), .val (.int (5 : Int32)), .val (.ref b4)] [(.int (1 : Int32))]) _
    refine XS.goto X14.here hx rfl (pc0 := 105) (pc' := 109) rfl (hb hby at_105) (by decide) (by decide) ?_
    show Sp p e below T14 (mkF m 109 #[.val (.int p0), .val (.int p1), .val (.int p2), .val (.int p3), .val (.ref c1_0), .val (.ref b2_0), .val (.int (5 : Int32)), .val (.ref b4)] [(.int (1 : Int32))]) _
    exact retN X14 hx (t := .boolean) Bd.returns (by simp) (hb hby at_109) hr
  · skip
    exact ⟨rfl, N14⟩
theorem d2_150 : decode method_3_code 150 = .ok (.iload_n 2, 1) := by decide +kernel
theorem d2_151 : decode method_3_code 151 = .ok (.bipush 6, 2) := by decide +kernel
theorem d2_153 : decode method_3_code 153 = .ok (.if_icmp .ne 9, 3) := by decide +kernel
theorem d2_156 : decode method_3_code 156 = .ok (.sipush 200, 3) := by decide +kernel
theorem d2_159 : decode method_3_code 159 = .ok (.newarray .byte, 2) := by decide +kernel
theorem d2_161 : decode method_3_code 161 = .ok (.areturn, 1) := by decide +kernel
def Q34 (Z : State) (w_XML_INVALID : Addr) (w_STATUS_UNAVAILABLE : Addr) (w_IMPORTED : Addr) (w_IMPORTED_WITH_WARNINGS : Addr) (p1 : Int32) (p2 : Int32) (h0 : Heap) (n0 : Nat) (v : Option Value) (h : Heap) (L : List Loc) : Prop := ∃ (b1 : Addr), ∃ (k1 : ClassId), v = some (.ref b1) ∧ Fr n0 L ∧ Keep h0 h [] ∧ h0.size ≤ b1 ∧ Exa Z h b1 "[B" ∧ Arv Z h b1 k1 .byte (200 : Int32) [] (.int (0 : Int32))
set_option maxRecDepth 65536 in
set_option maxHeartbeats 40000000 in
theorem rm34 (l : Launch) (Z : State) (a0 : Array Value) (hw : ∀ d ∈ tables_1, d.before a0 Z = true) (ws : List Jvm.Cond) (w_XML_INVALID w_STATUS_UNAVAILABLE w_IMPORTED w_IMPORTED_WITH_WARNINGS : Addr) (hp : Perm Z w_XML_INVALID w_STATUS_UNAVAILABLE w_IMPORTED w_IMPORTED_WITH_WARNINGS) (p1 : Int32) (p2 : Int32) (h0 : Heap) (n0 : Nat) (O0 : Old Z n0 h0) (hc1 : ¬ ((p1 &&& (7 : Int32)) = (0 : Int32))) (hc2 : ¬ ((p1 &&& (7 : Int32)) = (1 : Int32))) (hc3 : ¬ ((p1 &&& (7 : Int32)) = (2 : Int32))) (hc4 : ¬ ((p1 &&& (7 : Int32)) = (3 : Int32))) (hc5 : ¬ ((p1 &&& (7 : Int32)) = (4 : Int32))) (hc6 : ¬ ((p1 &&& (7 : Int32)) = (5 : Int32))) (hc7 : (p1 &&& (7 : Int32)) = (6 : Int32)) :
    MetFree l y1 (head1 (Jvm.Cond.code y1 method_3_code 7 (some (.array .byte)) :: ws) ({ frames := 0, cells := 1, slots := 200, locals := 0 } : Room)) (fun a U => a = #[(.int p1), (.int p2)] ∧ Z.Warmed39 U.vm ∧ U.heap = h0) (fun _ _ _ _ _ => True) (fun _ U o U' => ∃ v L, o = .returned v ∧ Q34 Z w_XML_INVALID w_STATUS_UNAVAILABLE w_IMPORTED w_IMPORTED_WITH_WARNINGS p1 p2 h0 n0 v U'.heap L ∧ FrameEnd U o U' L ({ frames := 0, cells := 1, slots := 200, locals := 0 } : Room).cells ({ frames := 0, cells := 1, slots := 200, locals := 0 } : Room).slots) := by
  refine MetFree.of_bodySF (plainFor_of_name pn_1) hisR ?_
  intro p e s m args below meth c s₁ Bd hml0 hP hK
  obtain ⟨rfl, hZ, hh⟩ := hP
  have hx := Bd.exec
  have hby := Bd.bytes
  have hml : c.maxLocals = 7 := hml0
  have hown : s.vm.findClass "com/example/epcrtools/epcrtools/exchange/SubmissionStatusSizePinLaw" = some m.cls := findClass_of_methodNamed Bd.named
  have hnm := (name_of_methodNamed Bd.named Bd.method).1
  have X0 : Stand p l e ({ frames := 0, cells := 1, slots := 200, locals := 0 } : Room) s m #[(.int p1), (.int p2)] below meth c s₁ [] 0 0 := Stand.of_body Bd
  have e0 : s₁.heap = h0 := by rw [← hh, Bd.state]; rfl
  have N0 := Fr.nil n0
  have hp' := hp
  obtain ⟨S_w_XML_INVALID, E_w_XML_INVALID, S_w_STATUS_UNAVAILABLE, E_w_STATUS_UNAVAILABLE, S_w_IMPORTED, E_w_IMPORTED, S_w_IMPORTED_WITH_WARNINGS, E_w_IMPORTED_WITH_WARNINGS⟩ := hp'
  have pre0 : ∀ t, Steps p.tables e below (s₁.setTop (mkF m 0 #[.val (.int p1), .val (.int p2), .unset, .unset, .unset, .unset, .unset] [])) t → Steps p.tables e below (s₁.setTop (entryFrame m #[(.int p1), (.int p2)] 7)) t := fun t k => castTop (ef_2_0 m p1 p2) k
  obtain ⟨T1, h1, k1, X1, e1, E1, A1, EA1, st1⟩ := newPE X0 hx hZ (hw _ (List.mem_of_getElem? (i := 10) rfl)) e0 (g := (mkF m 159 #[.val (.int p1), .val (.int p2), .val (.int (p1 &&& (7 : Int32))), .val (.int (p2.toInt8.toInt32)), .val (.int (((p2.toUInt32 >>> ((8 : Int32) &&& 31).toUInt32).toInt32).toInt8.toInt32)), .val (.int (((p2.toUInt32 >>> ((16 : Int32) &&& 31).toUInt32).toInt32).toInt8.toInt32)), .val (.int (((p2.toUInt32 >>> ((24 : Int32) &&& 31).toUInt32).toInt32).toInt8.toInt32))] [(.int (200 : Int32))])) rfl (hb hby d2_159) rfl (by decide) (cap := 200) (by decide) (by decide) (by decide) (by decide) (ad := "[B") (by decide)
  obtain ⟨b1, g1⟩ : ∃ z, z = h0.size := ⟨_, rfl⟩
  rw [← g1] at A1 EA1 st1
  have g_b1 : n0 ≤ b1 := Nat.le_trans (own_sz O0) (Nat.le_of_eq g1.symm)
  have sz_b1 : h0.size ≤ b1 := Nat.le_trans (Keep.refl h0 []).1 (Nat.le_of_eq g1.symm)
  have O1 := O0.ext E1
  have K1 : Keep h0 h1 [] := (Keep.refl h0 []).ext E1
  have V_b1 : Arv Z h1 b1 k1 .byte (200 : Int32) [] (.int (0 : Int32)) := (Arv.new A1 (by decide)).pad (pad_rep [] (.int (0 : Int32)) 0)
  obtain ⟨fs, hr, hrun, hended, hW, hsame⟩ := X1.leave (v := some (.ref b1)) (fun h => by rw [Bd.returns] at h; cases h)
  refine ⟨_, _, pre0 _ ?_, hrun, hended, _, _, rfl, ?_, ⟨_, rfl⟩, hW, hsame.mono (by decide) (by decide)⟩
  · show Sp p e below s₁ (mkF m 0 #[.val (.int p1), .val (.int p2), .unset, .unset, .unset, .unset, .unset] []) _
    refine XS.iloadN X0.here hx rfl (hb hby d2_0) rfl ?_
    show Sp p e below s₁ (mkF m 1 #[.val (.int p1), .val (.int p2), .unset, .unset, .unset, .unset, .unset] [(.int p1)]) _
    refine XS.bipush X0.here hx rfl (hb hby d2_1) ?_
    show Sp p e below s₁ (mkF m 3 #[.val (.int p1), .val (.int p2), .unset, .unset, .unset, .unset, .unset] [(.int (7 : Int32)), (.int p1)]) _
    refine XS.iand X0.here hx rfl (hb hby d2_3) rfl ?_
    show Sp p e below s₁ (mkF m 4 #[.val (.int p1), .val (.int p2), .unset, .unset, .unset, .unset, .unset] [(.int (p1 &&& (7 : Int32)))]) _
    refine XS.istoreN X0.here hx rfl (hb hby d2_4) rfl (l' := #[.val (.int p1), .val (.int p2), .val (.int (p1 &&& (7 : Int32))), .unset, .unset, .unset, .unset]) rfl ?_
    show Sp p e below s₁ (mkF m 5 #[.val (.int p1), .val (.int p2), .val (.int (p1 &&& (7 : Int32))), .unset, .unset, .unset, .unset] []) _
    refine XS.iloadN X0.here hx rfl (hb hby d2_5) rfl ?_
    show Sp p e below s₁ (mkF m 6 #[.val (.int p1), .val (.int p2), .val (.int (p1 &&& (7 : Int32))), .unset, .unset, .unset, .unset] [(.int p2)]) _
    refine XS.i2b X0.here hx rfl (hb hby d2_6) rfl ?_
    show Sp p e below s₁ (mkF m 7 #[.val (.int p1), .val (.int p2), .val (.int (p1 &&& (7 : Int32))), .unset, .unset, .unset, .unset] [(.int (p2.toInt8.toInt32))]) _
    refine XS.istoreN X0.here hx rfl (hb hby d2_7) rfl (l' := #[.val (.int p1), .val (.int p2), .val (.int (p1 &&& (7 : Int32))), .val (.int (p2.toInt8.toInt32)), .unset, .unset, .unset]) rfl ?_
    show Sp p e below s₁ (mkF m 8 #[.val (.int p1), .val (.int p2), .val (.int (p1 &&& (7 : Int32))), .val (.int (p2.toInt8.toInt32)), .unset, .unset, .unset] []) _
    refine XS.iloadN X0.here hx rfl (hb hby d2_8) rfl ?_
    show Sp p e below s₁ (mkF m 9 #[.val (.int p1), .val (.int p2), .val (.int (p1 &&& (7 : Int32))), .val (.int (p2.toInt8.toInt32)), .unset, .unset, .unset] [(.int p2)]) _
    refine XS.bipush X0.here hx rfl (hb hby d2_9) ?_
    show Sp p e below s₁ (mkF m 11 #[.val (.int p1), .val (.int p2), .val (.int (p1 &&& (7 : Int32))), .val (.int (p2.toInt8.toInt32)), .unset, .unset, .unset] [(.int (8 : Int32)), (.int p2)]) _
    refine XS.iushr X0.here hx rfl (hb hby d2_11) rfl ?_
    show Sp p e below s₁ (mkF m 12 #[.val (.int p1), .val (.int p2), .val (.int (p1 &&& (7 : Int32))), .val (.int (p2.toInt8.toInt32)), .unset, .unset, .unset] [(.int ((p2.toUInt32 >>> ((8 : Int32) &&& 31).toUInt32).toInt32))]) _
    refine XS.i2b X0.here hx rfl (hb hby d2_12) rfl ?_
    show Sp p e below s₁ (mkF m 13 #[.val (.int p1), .val (.int p2), .val (.int (p1 &&& (7 : Int32))), .val (.int (p2.toInt8.toInt32)), .unset, .unset, .unset] [(.int (((p2.toUInt32 >>> ((8 : Int32) &&& 31).toUInt32).toInt32).toInt8.toInt32))]) _
    refine XS.istore X0.here hx rfl (hb hby d2_13) rfl (l' := #[.val (.int p1), .val (.int p2), .val (.int (p1 &&& (7 : Int32))), .val (.int (p2.toInt8.toInt32)), .val (.int (((p2.toUInt32 >>> ((8 : Int32) &&& 31).toUInt32).toInt32).toInt8.toInt32)), .unset, .unset]) rfl ?_
    show Sp p e below s₁ (mkF m 15 #[.val (.int p1), .val (.int p2), .val (.int (p1 &&& (7 : Int32))), .val (.int (p2.toInt8.toInt32)), .val (.int (((p2.toUInt32 >>> ((8 : Int32) &&& 31).toUInt32).toInt32).toInt8.toInt32)), .unset, .unset] []) _
    refine XS.iloadN X0.here hx rfl (hb hby d2_15) rfl ?_
    show Sp p e below s₁ (mkF m 16 #[.val (.int p1), .val (.int p2), .val (.int (p1 &&& (7 : Int32))), .val (.int (p2.toInt8.toInt32)), .val (.int (((p2.toUInt32 >>> ((8 : Int32) &&& 31).toUInt32).toInt32).toInt8.toInt32)), .unset, .unset] [(.int p2)]) _
    refine XS.bipush X0.here hx rfl (hb hby d2_16) ?_
    show Sp p e below s₁ (mkF m 18 #[.val (.int p1), .val (.int p2), .val (.int (p1 &&& (7 : Int32))), .val (.int (p2.toInt8.toInt32)), .val (.int (((p2.toUInt32 >>> ((8 : Int32) &&& 31).toUInt32).toInt32).toInt8.toInt32)), .unset, .unset] [(.int (16 : Int32)), (.int p2)]) _
    refine XS.iushr X0.here hx rfl (hb hby d2_18) rfl ?_
    show Sp p e below s₁ (mkF m 19 #[.val (.int p1), .val (.int p2), .val (.int (p1 &&& (7 : Int32))), .val (.int (p2.toInt8.toInt32)), .val (.int (((p2.toUInt32 >>> ((8 : Int32) &&& 31).toUInt32).toInt32).toInt8.toInt32)), .unset, .unset] [(.int ((p2.toUInt32 >>> ((16 : Int32) &&& 31).toUInt32).toInt32))]) _
    refine XS.i2b X0.here hx rfl (hb hby d2_19) rfl ?_
    show Sp p e below s₁ (mkF m 20 #[.val (.int p1), .val (.int p2), .val (.int (p1 &&& (7 : Int32))), .val (.int (p2.toInt8.toInt32)), .val (.int (((p2.toUInt32 >>> ((8 : Int32) &&& 31).toUInt32).toInt32).toInt8.toInt32)), .unset, .unset] [(.int (((p2.toUInt32 >>> ((16 : Int32) &&& 31).toUInt32).toInt32).toInt8.toInt32))]) _
    refine XS.istore X0.here hx rfl (hb hby d2_20) rfl (l' := #[.val (.int p1), .val (.int p2), .val (.int (p1 &&& (7 : Int32))), .val (.int (p2.toInt8.toInt32)), .val (.int (((p2.toUInt32 >>> ((8 : Int32) &&& 31).toUInt32).toInt32).toInt8.toInt32)), .val (.int (((p2.toUInt32 >>> ((16 : Int32) &&& 31).toUInt32).toInt32).toInt8.toInt32)), .unset]) rfl ?_
    show Sp p e below s₁ (mkF m 22 #[.val (.int p1), .val (.int p2), .val (.int (p1 &&& (7 : Int32))), .val (.int (p2.toInt8.toInt32)), .val (.int (((p2.toUInt32 >>> ((8 : Int32) &&& 31).toUInt32).toInt32).toInt8.toInt32)), .val (.int (((p2.toUInt32 >>> ((16 : Int32) &&& 31).toUInt32).toInt32).toInt8.toInt32)), .unset] []) _
    refine XS.iloadN X0.here hx rfl (hb hby d2_22) rfl ?_
    show Sp p e below s₁ (mkF m 23 #[.val (.int p1), .val (.int p2), .val (.int (p1 &&& (7 : Int32))), .val (.int (p2.toInt8.toInt32)), .val (.int (((p2.toUInt32 >>> ((8 : Int32) &&& 31).toUInt32).toInt32).toInt8.toInt32)), .val (.int (((p2.toUInt32 >>> ((16 : Int32) &&& 31).toUInt32).toInt32).toInt8.toInt32)), .unset] [(.int p2)]) _
    refine XS.bipush X0.here hx rfl (hb hby d2_23) ?_
    show Sp p e below s₁ (mkF m 25 #[.val (.int p1), .val (.int p2), .val (.int (p1 &&& (7 : Int32))), .val (.int (p2.toInt8.toInt32)), .val (.int (((p2.toUInt32 >>> ((8 : Int32) &&& 31).toUInt32).toInt32).toInt8.toInt32)), .val (.int (((p2.toUInt32 >>> ((16 : Int32) &&& 31).toUInt32).toInt32).toInt8.toInt32)), .unset] [(.int (24 : Int32)), (.int p2)]) _
    refine XS.iushr X0.here hx rfl (hb hby d2_25) rfl ?_
    show Sp p e below s₁ (mkF m 26 #[.val (.int p1), .val (.int p2), .val (.int (p1 &&& (7 : Int32))), .val (.int (p2.toInt8.toInt32)), .val (.int (((p2.toUInt32 >>> ((8 : Int32) &&& 31).toUInt32).toInt32).toInt8.toInt32)), .val (.int (((p2.toUInt32 >>> ((16 : Int32) &&& 31).toUInt32).toInt32).toInt8.toInt32)), .unset] [(.int ((p2.toUInt32 >>> ((24 : Int32) &&& 31).toUInt32).toInt32))]) _
    refine XS.i2b X0.here hx rfl (hb hby d2_26) rfl ?_
    show Sp p e below s₁ (mkF m 27 #[.val (.int p1), .val (.int p2), .val (.int (p1 &&& (7 : Int32))), .val (.int (p2.toInt8.toInt32)), .val (.int (((p2.toUInt32 >>> ((8 : Int32) &&& 31).toUInt32).toInt32).toInt8.toInt32)), .val (.int (((p2.toUInt32 >>> ((16 : Int32) &&& 31).toUInt32).toInt32).toInt8.toInt32)), .unset] [(.int (((p2.toUInt32 >>> ((24 : Int32) &&& 31).toUInt32).toInt32).toInt8.toInt32))]) _
    refine XS.istore X0.here hx rfl (hb hby d2_27) rfl (l' := #[.val (.int p1), .val (.int p2), .val (.int (p1 &&& (7 : Int32))), .val (.int (p2.toInt8.toInt32)), .val (.int (((p2.toUInt32 >>> ((8 : Int32) &&& 31).toUInt32).toInt32).toInt8.toInt32)), .val (.int (((p2.toUInt32 >>> ((16 : Int32) &&& 31).toUInt32).toInt32).toInt8.toInt32)), .val (.int (((p2.toUInt32 >>> ((24 : Int32) &&& 31).toUInt32).toInt32).toInt8.toInt32))]) rfl ?_
    show Sp p e below s₁ (mkF m 29 #[.val (.int p1), .val (.int p2), .val (.int (p1 &&& (7 : Int32))), .val (.int (p2.toInt8.toInt32)), .val (.int (((p2.toUInt32 >>> ((8 : Int32) &&& 31).toUInt32).toInt32).toInt8.toInt32)), .val (.int (((p2.toUInt32 >>> ((16 : Int32) &&& 31).toUInt32).toInt32).toInt8.toInt32)), .val (.int (((p2.toUInt32 >>> ((24 : Int32) &&& 31).toUInt32).toInt32).toInt8.toInt32))] []) _
    refine XS.iloadN X0.here hx rfl (hb hby d2_29) rfl ?_
    show Sp p e below s₁ (mkF m 30 #[.val (.int p1), .val (.int p2), .val (.int (p1 &&& (7 : Int32))), .val (.int (p2.toInt8.toInt32)), .val (.int (((p2.toUInt32 >>> ((8 : Int32) &&& 31).toUInt32).toInt32).toInt8.toInt32)), .val (.int (((p2.toUInt32 >>> ((16 : Int32) &&& 31).toUInt32).toInt32).toInt8.toInt32)), .val (.int (((p2.toUInt32 >>> ((24 : Int32) &&& 31).toUInt32).toInt32).toInt8.toInt32))] [(.int (p1 &&& (7 : Int32)))]) _
    refine XS.ifYes X0.here hx rfl (pc0 := 30) (pc' := 37) rfl (hb hby d2_30) rfl ((if0 _ _).trans (feq hc1).2) (by decide) (by decide) ?_
    show Sp p e below s₁ (mkF m 37 #[.val (.int p1), .val (.int p2), .val (.int (p1 &&& (7 : Int32))), .val (.int (p2.toInt8.toInt32)), .val (.int (((p2.toUInt32 >>> ((8 : Int32) &&& 31).toUInt32).toInt32).toInt8.toInt32)), .val (.int (((p2.toUInt32 >>> ((16 : Int32) &&& 31).toUInt32).toInt32).toInt8.toInt32)), .val (.int (((p2.toUInt32 >>> ((24 : Int32) &&& 31).toUInt32).toInt32).toInt8.toInt32))] []) _
    refine XS.iloadN X0.here hx rfl (hb hby d2_37) rfl ?_
    show Sp p e below s₁ (mkF m 38 #[.val (.int p1), .val (.int p2), .val (.int (p1 &&& (7 : Int32))), .val (.int (p2.toInt8.toInt32)), .val (.int (((p2.toUInt32 >>> ((8 : Int32) &&& 31).toUInt32).toInt32).toInt8.toInt32)), .val (.int (((p2.toUInt32 >>> ((16 : Int32) &&& 31).toUInt32).toInt32).toInt8.toInt32)), .val (.int (((p2.toUInt32 >>> ((24 : Int32) &&& 31).toUInt32).toInt32).toInt8.toInt32))] [(.int (p1 &&& (7 : Int32)))]) _
    refine XS.iconst X0.here hx rfl (hb hby d2_38) ?_
    show Sp p e below s₁ (mkF m 39 #[.val (.int p1), .val (.int p2), .val (.int (p1 &&& (7 : Int32))), .val (.int (p2.toInt8.toInt32)), .val (.int (((p2.toUInt32 >>> ((8 : Int32) &&& 31).toUInt32).toInt32).toInt8.toInt32)), .val (.int (((p2.toUInt32 >>> ((16 : Int32) &&& 31).toUInt32).toInt32).toInt8.toInt32)), .val (.int (((p2.toUInt32 >>> ((24 : Int32) &&& 31).toUInt32).toInt32).toInt8.toInt32))] [(.int (1 : Int32)), (.int (p1 &&& (7 : Int32)))]) _
    refine XS.icmpYes X0.here hx rfl (pc0 := 39) (pc' := 50) rfl (hb hby d2_39) rfl (feq hc2).2 (by decide) (by decide) ?_
    show Sp p e below s₁ (mkF m 50 #[.val (.int p1), .val (.int p2), .val (.int (p1 &&& (7 : Int32))), .val (.int (p2.toInt8.toInt32)), .val (.int (((p2.toUInt32 >>> ((8 : Int32) &&& 31).toUInt32).toInt32).toInt8.toInt32)), .val (.int (((p2.toUInt32 >>> ((16 : Int32) &&& 31).toUInt32).toInt32).toInt8.toInt32)), .val (.int (((p2.toUInt32 >>> ((24 : Int32) &&& 31).toUInt32).toInt32).toInt8.toInt32))] []) _
    refine XS.iloadN X0.here hx rfl (hb hby d2_50) rfl ?_
    show Sp p e below s₁ (mkF m 51 #[.val (.int p1), .val (.int p2), .val (.int (p1 &&& (7 : Int32))), .val (.int (p2.toInt8.toInt32)), .val (.int (((p2.toUInt32 >>> ((8 : Int32) &&& 31).toUInt32).toInt32).toInt8.toInt32)), .val (.int (((p2.toUInt32 >>> ((16 : Int32) &&& 31).toUInt32).toInt32).toInt8.toInt32)), .val (.int (((p2.toUInt32 >>> ((24 : Int32) &&& 31).toUInt32).toInt32).toInt8.toInt32))] [(.int (p1 &&& (7 : Int32)))]) _
    refine XS.iconst X0.here hx rfl (hb hby d2_51) ?_
    show Sp p e below s₁ (mkF m 52 #[.val (.int p1), .val (.int p2), .val (.int (p1 &&& (7 : Int32))), .val (.int (p2.toInt8.toInt32)), .val (.int (((p2.toUInt32 >>> ((8 : Int32) &&& 31).toUInt32).toInt32).toInt8.toInt32)), .val (.int (((p2.toUInt32 >>> ((16 : Int32) &&& 31).toUInt32).toInt32).toInt8.toInt32)), .val (.int (((p2.toUInt32 >>> ((24 : Int32) &&& 31).toUInt32).toInt32).toInt8.toInt32))] [(.int (2 : Int32)), (.int (p1 &&& (7 : Int32)))]) _
    refine XS.icmpYes X0.here hx rfl (pc0 := 52) (pc' := 68) rfl (hb hby d2_52) rfl (feq hc3).2 (by decide) (by decide) ?_
    show Sp p e below s₁ (mkF m 68 #[.val (.int p1), .val (.int p2), .val (.int (p1 &&& (7 : Int32))), .val (.int (p2.toInt8.toInt32)), .val (.int (((p2.toUInt32 >>> ((8 : Int32) &&& 31).toUInt32).toInt32).toInt8.toInt32)), .val (.int (((p2.toUInt32 >>> ((16 : Int32) &&& 31).toUInt32).toInt32).toInt8.toInt32)), .val (.int (((p2.toUInt32 >>> ((24 : Int32) &&& 31).toUInt32).toInt32).toInt8.toInt32))] []) _
    refine XS.iloadN X0.here hx rfl (hb hby d2_68) rfl ?_
    show Sp p e below s₁ (mkF m 69 #[.val (.int p1), .val (.int p2), .val (.int (p1 &&& (7 : Int32))), .val (.int (p2.toInt8.toInt32)), .val (.int (((p2.toUInt32 >>> ((8 : Int32) &&& 31).toUInt32).toInt32).toInt8.toInt32)), .val (.int (((p2.toUInt32 >>> ((16 : Int32) &&& 31).toUInt32).toInt32).toInt8.toInt32)), .val (.int (((p2.toUInt32 >>> ((24 : Int32) &&& 31).toUInt32).toInt32).toInt8.toInt32))] [(.int (p1 &&& (7 : Int32)))]) _
    refine XS.iconst X0.here hx rfl (hb hby d2_69) ?_
    show Sp p e below s₁ (mkF m 70 #[.val (.int p1), .val (.int p2), .val (.int (p1 &&& (7 : Int32))), .val (.int (p2.toInt8.toInt32)), .val (.int (((p2.toUInt32 >>> ((8 : Int32) &&& 31).toUInt32).toInt32).toInt8.toInt32)), .val (.int (((p2.toUInt32 >>> ((16 : Int32) &&& 31).toUInt32).toInt32).toInt8.toInt32)), .val (.int (((p2.toUInt32 >>> ((24 : Int32) &&& 31).toUInt32).toInt32).toInt8.toInt32))] [(.int (3 : Int32)), (.int (p1 &&& (7 : Int32)))]) _
    refine XS.icmpYes X0.here hx rfl (pc0 := 70) (pc' := 91) rfl (hb hby d2_70) rfl (feq hc4).2 (by decide) (by decide) ?_
    show Sp p e below s₁ (mkF m 91 #[.val (.int p1), .val (.int p2), .val (.int (p1 &&& (7 : Int32))), .val (.int (p2.toInt8.toInt32)), .val (.int (((p2.toUInt32 >>> ((8 : Int32) &&& 31).toUInt32).toInt32).toInt8.toInt32)), .val (.int (((p2.toUInt32 >>> ((16 : Int32) &&& 31).toUInt32).toInt32).toInt8.toInt32)), .val (.int (((p2.toUInt32 >>> ((24 : Int32) &&& 31).toUInt32).toInt32).toInt8.toInt32))] []) _
    refine XS.iloadN X0.here hx rfl (hb hby d2_91) rfl ?_
    show Sp p e below s₁ (mkF m 92 #[.val (.int p1), .val (.int p2), .val (.int (p1 &&& (7 : Int32))), .val (.int (p2.toInt8.toInt32)), .val (.int (((p2.toUInt32 >>> ((8 : Int32) &&& 31).toUInt32).toInt32).toInt8.toInt32)), .val (.int (((p2.toUInt32 >>> ((16 : Int32) &&& 31).toUInt32).toInt32).toInt8.toInt32)), .val (.int (((p2.toUInt32 >>> ((24 : Int32) &&& 31).toUInt32).toInt32).toInt8.toInt32))] [(.int (p1 &&& (7 : Int32)))]) _
    refine XS.iconst X0.here hx rfl (hb hby d2_92) ?_
    show Sp p e below s₁ (mkF m 93 #[.val (.int p1), .val (.int p2), .val (.int (p1 &&& (7 : Int32))), .val (.int (p2.toInt8.toInt32)), .val (.int (((p2.toUInt32 >>> ((8 : Int32) &&& 31).toUInt32).toInt32).toInt8.toInt32)), .val (.int (((p2.toUInt32 >>> ((16 : Int32) &&& 31).toUInt32).toInt32).toInt8.toInt32)), .val (.int (((p2.toUInt32 >>> ((24 : Int32) &&& 31).toUInt32).toInt32).toInt8.toInt32))] [(.int (4 : Int32)), (.int (p1 &&& (7 : Int32)))]) _
    refine XS.icmpYes X0.here hx rfl (pc0 := 93) (pc' := 119) rfl (hb hby d2_93) rfl (feq hc5).2 (by decide) (by decide) ?_
    show Sp p e below s₁ (mkF m 119 #[.val (.int p1), .val (.int p2), .val (.int (p1 &&& (7 : Int32))), .val (.int (p2.toInt8.toInt32)), .val (.int (((p2.toUInt32 >>> ((8 : Int32) &&& 31).toUInt32).toInt32).toInt8.toInt32)), .val (.int (((p2.toUInt32 >>> ((16 : Int32) &&& 31).toUInt32).toInt32).toInt8.toInt32)), .val (.int (((p2.toUInt32 >>> ((24 : Int32) &&& 31).toUInt32).toInt32).toInt8.toInt32))] []) _
    refine XS.iloadN X0.here hx rfl (hb hby d2_119) rfl ?_
    show Sp p e below s₁ (mkF m 120 #[.val (.int p1), .val (.int p2), .val (.int (p1 &&& (7 : Int32))), .val (.int (p2.toInt8.toInt32)), .val (.int (((p2.toUInt32 >>> ((8 : Int32) &&& 31).toUInt32).toInt32).toInt8.toInt32)), .val (.int (((p2.toUInt32 >>> ((16 : Int32) &&& 31).toUInt32).toInt32).toInt8.toInt32)), .val (.int (((p2.toUInt32 >>> ((24 : Int32) &&& 31).toUInt32).toInt32).toInt8.toInt32))] [(.int (p1 &&& (7 : Int32)))]) _
    refine XS.iconst X0.here hx rfl (hb hby d2_120) ?_
    show Sp p e below s₁ (mkF m 121 #[.val (.int p1), .val (.int p2), .val (.int (p1 &&& (7 : Int32))), .val (.int (p2.toInt8.toInt32)), .val (.int (((p2.toUInt32 >>> ((8 : Int32) &&& 31).toUInt32).toInt32).toInt8.toInt32)), .val (.int (((p2.toUInt32 >>> ((16 : Int32) &&& 31).toUInt32).toInt32).toInt8.toInt32)), .val (.int (((p2.toUInt32 >>> ((24 : Int32) &&& 31).toUInt32).toInt32).toInt8.toInt32))] [(.int (5 : Int32)), (.int (p1 &&& (7 : Int32)))]) _
    refine XS.icmpYes X0.here hx rfl (pc0 := 121) (pc' := 150) rfl (hb hby d2_121) rfl (feq hc6).2 (by decide) (by decide) ?_
    show Sp p e below s₁ (mkF m 150 #[.val (.int p1), .val (.int p2), .val (.int (p1 &&& (7 : Int32))), .val (.int (p2.toInt8.toInt32)), .val (.int (((p2.toUInt32 >>> ((8 : Int32) &&& 31).toUInt32).toInt32).toInt8.toInt32)), .val (.int (((p2.toUInt32 >>> ((16 : Int32) &&& 31).toUInt32).toInt32).toInt8.toInt32)), .val (.int (((p2.toUInt32 >>> ((24 : Int32) &&& 31).toUInt32).toInt32).toInt8.toInt32))] []) _
    refine XS.iloadN X0.here hx rfl (hb hby d2_150) rfl ?_
    show Sp p e below s₁ (mkF m 151 #[.val (.int p1), .val (.int p2), .val (.int (p1 &&& (7 : Int32))), .val (.int (p2.toInt8.toInt32)), .val (.int (((p2.toUInt32 >>> ((8 : Int32) &&& 31).toUInt32).toInt32).toInt8.toInt32)), .val (.int (((p2.toUInt32 >>> ((16 : Int32) &&& 31).toUInt32).toInt32).toInt8.toInt32)), .val (.int (((p2.toUInt32 >>> ((24 : Int32) &&& 31).toUInt32).toInt32).toInt8.toInt32))] [(.int (p1 &&& (7 : Int32)))]) _
    refine XS.bipush X0.here hx rfl (hb hby d2_151) ?_
    show Sp p e below s₁ (mkF m 153 #[.val (.int p1), .val (.int p2), .val (.int (p1 &&& (7 : Int32))), .val (.int (p2.toInt8.toInt32)), .val (.int (((p2.toUInt32 >>> ((8 : Int32) &&& 31).toUInt32).toInt32).toInt8.toInt32)), .val (.int (((p2.toUInt32 >>> ((16 : Int32) &&& 31).toUInt32).toInt32).toInt8.toInt32)), .val (.int (((p2.toUInt32 >>> ((24 : Int32) &&& 31).toUInt32).toInt32).toInt8.toInt32))] [(.int (6 : Int32)), (.int (p1 &&& (7 : Int32)))]) _
    refine XS.icmpNo X0.here hx rfl (hb hby d2_153) rfl (teq hc7).2 ?_
    show Sp p e below s₁ (mkF m 156 #[.val (.int p1), .val (.int p2), .val (.int (p1 &&& (7 : Int32))), .val (.int (p2.toInt8.toInt32)), .val (.int (((p2.toUInt32 >>> ((8 : Int32) &&& 31).toUInt32).toInt32).toInt8.toInt32)), .val (.int (((p2.toUInt32 >>> ((16 : Int32) &&& 31).toUInt32).toInt32).toInt8.toInt32)), .val (.int (((p2.toUInt32 >>> ((24 : Int32) &&& 31).toUInt32).toInt32).toInt8.toInt32))] []) _
    refine XS.sipush X0.here hx rfl (hb hby d2_156) ?_
    show Sp p e below s₁ (mkF m 159 #[.val (.int p1), .val (.int p2), .val (.int (p1 &&& (7 : Int32))), .val (.int (p2.toInt8.toInt32)), .val (.int (((p2.toUInt32 >>> ((8 : Int32) &&& 31).toUInt32).toInt32).toInt8.toInt32)), .val (.int (((p2.toUInt32 >>> ((16 : Int32) &&& 31).toUInt32).toInt32).toInt8.toInt32)), .val (.int (((p2.toUInt32 >>> ((24 : Int32) &&& 31).toUInt32).toInt32).toInt8.toInt32))] [(.int (200 : Int32))]) _
    refine st1 _ ?_
    show Sp p e below T1 (mkF m 161 #[.val (.int p1), .val (.int p2), .val (.int (p1 &&& (7 : Int32))), .val (.int (p2.toInt8.toInt32)), .val (.int (((p2.toUInt32 >>> ((8 : Int32) &&& 31).toUInt32).toInt32).toInt8.toInt32)), .val (.int (((p2.toUInt32 >>> ((16 : Int32) &&& 31).toUInt32).toInt32).toInt8.toInt32)), .val (.int (((p2.toUInt32 >>> ((24 : Int32) &&& 31).toUInt32).toInt32).toInt8.toInt32))] [(.ref b1)]) _
    jvm_step X1.here [X1.here.top, hx, (hb hby d2_161), X1.method', Bd.returns, Value.isRef, FieldType.isReference]
    first | (intro acts; rw [hr _ acts rfl rfl rfl]) | rw [hr _ _ rfl rfl rfl]
    exact Steps.refl _
  · show Q34 Z w_XML_INVALID w_STATUS_UNAVAILABLE w_IMPORTED w_IMPORTED_WITH_WARNINGS p1 p2 h0 n0 _ T1.heap _
    rw [e1]
    exact ⟨b1, k1, rfl, N0, K1, sz_b1, EA1, V_b1⟩
def Q35 (Z : State) (w_XML_INVALID : Addr) (w_STATUS_UNAVAILABLE : Addr) (w_IMPORTED : Addr) (w_IMPORTED_WITH_WARNINGS : Addr) (a1 : Addr) (a2 : Addr) (a3 : Addr) (k_a3 : ClassId) (h0 : Heap) (n0 : Nat) (v : Option Value) (h : Heap) (L : List Loc) : Prop := ∃ (b3 : Addr), v = none ∧ Fr n0 L ∧ Keep h0 h [a1] ∧ h0.size ≤ b3 ∧ Exa Z h a1 "com/example/epcrtools/epcrtools/exchange/SubmissionStatus" ∧ Fld Z h a1 "com/example/epcrtools/epcrtools/exchange/SubmissionStatus" "report" "[B" (.ref b3) ∧ Fld Z h a1 "com/example/epcrtools/epcrtools/exchange/SubmissionStatus" "statusCode" "Lcom/example/epcrtools/epcrtools/exchange/StatusCode;" (.ref a2) ∧ Exa Z h b3 "[B" ∧ Arv Z h b3 k_a3 .byte (200 : Int32) [] (.int (0 : Int32))
set_option maxRecDepth 65536 in
set_option maxHeartbeats 40000000 in
theorem rm35 (l : Launch) (Z : State) (a0 : Array Value) (hw : ∀ d ∈ tables_1, d.before a0 Z = true) (ws : List Jvm.Cond) (w_XML_INVALID w_STATUS_UNAVAILABLE w_IMPORTED w_IMPORTED_WITH_WARNINGS : Addr) (hp : Perm Z w_XML_INVALID w_STATUS_UNAVAILABLE w_IMPORTED w_IMPORTED_WITH_WARNINGS) (a1 : Addr) (a2 : Addr) (a3 : Addr) (k_a3 : ClassId) (h0 : Heap) (n0 : Nat) (O0 : Old Z n0 h0) (E_a1 : Exa Z h0 a1 "com/example/epcrtools/epcrtools/exchange/SubmissionStatus") (F_statusCode_a1 : Fld Z h0 a1 "com/example/epcrtools/epcrtools/exchange/SubmissionStatus" "statusCode" "Lcom/example/epcrtools/epcrtools/exchange/StatusCode;" .null) (F_report_a1 : Fld Z h0 a1 "com/example/epcrtools/epcrtools/exchange/SubmissionStatus" "report" "[B" .null) (g_a1 : n0 ≤ a1) (V_a3 : Arv Z h0 a3 k_a3 .byte (200 : Int32) [] (.int (0 : Int32))) (ne_a1_a3 : a1 ≠ a3) (E_a3 : Exa Z h0 a3 "[B") :
    MetFree l y2 (head1 (Jvm.Cond.code y2 prog_13_method_1_code 3 none :: ws) ({ frames := 1, cells := 1, slots := 200, locals := 15 } : Room)) (fun a U => a = #[(.ref a1), (.ref a2), (.ref a3)] ∧ Z.Warmed39 U.vm ∧ U.heap = h0) (fun _ _ _ _ _ => True) (fun _ U o U' => ∃ v L, o = .returned v ∧ Q35 Z w_XML_INVALID w_STATUS_UNAVAILABLE w_IMPORTED w_IMPORTED_WITH_WARNINGS a1 a2 a3 k_a3 h0 n0 v U'.heap L ∧ FrameEnd U o U' L ({ frames := 1, cells := 1, slots := 200, locals := 15 } : Room).cells ({ frames := 1, cells := 1, slots := 200, locals := 15 } : Room).slots) := by
  refine MetFree.of_bodySF (plainFor_of_name pn_3) hisR ?_
  intro p e s m args below meth c s₁ Bd hml0 hP hK
  obtain ⟨rfl, hZ, hh⟩ := hP
  have hx := Bd.exec
  have hby := Bd.bytes
  have hml : c.maxLocals = 3 := hml0
  have hown : s.vm.findClass "com/example/epcrtools/epcrtools/exchange/SubmissionStatus" = some m.cls := findClass_of_methodNamed Bd.named
  have hnm := (name_of_methodNamed Bd.named Bd.method).1
  have X0 : Stand p l e ({ frames := 1, cells := 1, slots := 200, locals := 15 } : Room) s m #[(.ref a1), (.ref a2), (.ref a3)] below meth c s₁ [] 0 0 := Stand.of_body Bd
  have e0 : s₁.heap = h0 := by rw [← hh, Bd.state]; rfl
  have N0 := Fr.nil n0
  have hp' := hp
  obtain ⟨S_w_XML_INVALID, E_w_XML_INVALID, S_w_STATUS_UNAVAILABLE, E_w_STATUS_UNAVAILABLE, S_w_IMPORTED, E_w_IMPORTED, S_w_IMPORTED_WITH_WARNINGS, E_w_IMPORTED_WITH_WARNINGS⟩ := hp'
  have pre0 : ∀ t, Steps p.tables e below (s₁.setTop (mkF m 0 #[.val (.ref a1), .val (.ref a2), .val (.ref a3)] [])) t → Steps p.tables e below (s₁.setTop (entryFrame m #[(.ref a1), (.ref a2), (.ref a3)] 3)) t := fun t k => castTop (ef_3_0 m a1 a2 a3) k
  obtain ⟨T1, X1, e1, st1⟩ := initO X0 hx hZ hown (hw _ (List.mem_of_getElem? (i := 17) rfl)) (hw _ (List.mem_of_getElem? (i := 18) rfl)) (hw _ (List.mem_of_getElem? (i := 19) rfl)) e0 (g := (mkF m 1 #[.val (.ref a1), .val (.ref a2), .val (.ref a3)] [(.ref a1)])) rfl (by rw [hml]; rfl) rfl (hb hby d3_1) (by decide) (W := 0) (by show 2 * 0 + _ ≤ _; exact Nat.le_of_eq rfl) (by decide)
  obtain ⟨T2, h2, X2, e2, W2, st2⟩ := putF X1 hx hZ hown (host := "") (Or.inl (hw _ (List.mem_of_getElem? (i := 20) rfl))) Via.refl e1 F_statusCode_a1 E_a1 (Or.inr ⟨(hw _ (List.mem_of_getElem? (i := 21) rfl)), rfl, hnm⟩) (hw _ (List.mem_of_getElem? (i := 12) rfl)) (ty := (.object "com/example/epcrtools/epcrtools/exchange/StatusCode")) (by decide) rfl rfl (g := (mkF m 6 #[.val (.ref a1), .val (.ref a2), .val (.ref a3)] [(.ref a2), (.ref a1)])) rfl rfl (hb hby d3_6)
  have N2 := Fr.snoc X2 N0 g_a1
  have O2 := O0.wr W2 g_a1
  have K2 : Keep h0 h2 [a1] := (Keep.refl h0 [a1]).wr W2 (Or.inl (List.mem_of_getElem? (i := 0) rfl))
  have Fw2 := F_statusCode_a1.same W2
  obtain ⟨T3, h3, X3, e3, E3, A3, EA3, st3⟩ := cloneH X2 hx hZ hown (hw _ (List.mem_of_getElem? (i := 22) rfl)) (hw _ (List.mem_of_getElem? (i := 23) rfl)) (hw _ (List.mem_of_getElem? (i := 27) rfl)) (hw _ (List.mem_of_getElem? (i := 25) rfl)) (hw _ (List.mem_of_getElem? (i := 26) rfl)) (hw _ (List.mem_of_getElem? (i := 28) rfl)) e2 (Arv.arh (V_a3.other W2 (Ne.symm ne_a1_a3))) (E_a3.wr W2) (g := (mkF m 11 #[.val (.ref a1), .val (.ref a2), .val (.ref a3)] [(.ref a3), (.ref a1)])) rfl (by rw [hml]; rfl) rfl (hb hby d3_11) (by decide) (W := 1) (cap := 200) (by show 2 * 0 + _ ≤ _; exact Nat.le_of_eq rfl) (by decide) (by decide) (by decide) (by decide)
  obtain ⟨b3, g3⟩ : ∃ z, z = h2.size := ⟨_, rfl⟩
  rw [← g3] at A3 EA3 st3
  have g_b3 : n0 ≤ b3 := Nat.le_trans (own_sz O2) (Nat.le_of_eq g3.symm)
  have sz_b3 : h0.size ≤ b3 := Nat.le_trans K2.1 (Nat.le_of_eq g3.symm)
  have O3 := O2.ext E3
  have K3 : Keep h0 h3 [a1] := K2.ext E3
  have V_b3 : Arv Z h3 b3 k_a3 .byte (200 : Int32) [] (.int (0 : Int32)) := A3
  obtain ⟨T4, X4, e4, st4⟩ := castY X3 hx hZ hown (hw _ (List.mem_of_getElem? (i := 29) rfl)) e3 (Ins.self EA3) (g := (mkF m 14 #[.val (.ref a1), .val (.ref a2), .val (.ref a3)] [(.ref b3), (.ref a1)])) rfl rfl (hb hby d3_14)
  obtain ⟨T5, h5, X5, e5, W5, st5⟩ := putF X4 hx hZ hown (host := "") (Or.inl (hw _ (List.mem_of_getElem? (i := 31) rfl))) Via.refl e4 ((F_report_a1.other W2 (Or.inr (sn0 hw))).ext E3) ((E_a1.wr W2).ext E3) (Or.inr ⟨(hw _ (List.mem_of_getElem? (i := 32) rfl)), rfl, hnm⟩) (hw _ (List.mem_of_getElem? (i := 12) rfl)) (ty := (.array .byte)) (by decide) rfl rfl (g := (mkF m 17 #[.val (.ref a1), .val (.ref a2), .val (.ref a3)] [(.ref b3), (.ref a1)])) rfl rfl (hb hby d3_17)
  have N5 := Fr.snoc X5 N2 g_a1
  have O5 := O3.wr W5 g_a1
  have K5 : Keep h0 h5 [a1] := K3.wr W5 (Or.inl (List.mem_of_getElem? (i := 0) rfl))
  have Fw5 := ((F_report_a1.other W2 (Or.inr (sn0 hw))).ext E3).same W5
  have f_6 := (V_b3.other W5 (Ne.symm (Nat.ne_of_lt (Nat.lt_of_lt_of_le E_a1.lt sz_b3))))
  obtain ⟨fs, hr, hrun, hended, hW, hsame⟩ := X5.leave (v := none) (fun _ => rfl)
  refine ⟨_, _, pre0 _ ?_, hrun, hended, _, _, rfl, ?_, ⟨_, rfl⟩, hW, hsame.mono (by decide) (by decide)⟩
  · show Sp p e below s₁ (mkF m 0 #[.val (.ref a1), .val (.ref a2), .val (.ref a3)] []) _
    refine XS.aloadN X0.here hx rfl (hb hby d3_0) rfl rfl ?_
    show Sp p e below s₁ (mkF m 1 #[.val (.ref a1), .val (.ref a2), .val (.ref a3)] [(.ref a1)]) _
    refine st1 _ ?_
    show Sp p e below T1 (mkF m 4 #[.val (.ref a1), .val (.ref a2), .val (.ref a3)] []) _
    refine XS.aloadN X1.here hx rfl (hb hby d3_4) rfl rfl ?_
    show Sp p e below T1 (mkF m 5 #[.val (.ref a1), .val (.ref a2), .val (.ref a3)] [(.ref a1)]) _
    refine XS.aloadN X1.here hx rfl (hb hby d3_5) rfl rfl ?_
    show Sp p e below T1 (mkF m 6 #[.val (.ref a1), .val (.ref a2), .val (.ref a3)] [(.ref a2), (.ref a1)]) _
    refine st2 _ ?_
    show Sp p e below T2 (mkF m 9 #[.val (.ref a1), .val (.ref a2), .val (.ref a3)] []) _
    refine XS.aloadN X2.here hx rfl (hb hby d3_9) rfl rfl ?_
    show Sp p e below T2 (mkF m 10 #[.val (.ref a1), .val (.ref a2), .val (.ref a3)] [(.ref a1)]) _
    refine XS.aloadN X2.here hx rfl (hb hby d3_10) rfl rfl ?_
    show Sp p e below T2 (mkF m 11 #[.val (.ref a1), .val (.ref a2), .val (.ref a3)] [(.ref a3), (.ref a1)]) _
    refine st3 _ ?_
    show Sp p e below T3 (mkF m 14 #[.val (.ref a1), .val (.ref a2), .val (.ref a3)] [(.ref b3), (.ref a1)]) _
    refine st4 _ ?_
    show Sp p e below T4 (mkF m 17 #[.val (.ref a1), .val (.ref a2), .val (.ref a3)] [(.ref b3), (.ref a1)]) _
    refine st5 _ ?_
    show Sp p e below T5 (mkF m 20 #[.val (.ref a1), .val (.ref a2), .val (.ref a3)] []) _
    exact X5.returnOut hx Bd.returns (hb hby d3_20) hr
  · show Q35 Z w_XML_INVALID w_STATUS_UNAVAILABLE w_IMPORTED w_IMPORTED_WITH_WARNINGS a1 a2 a3 k_a3 h0 n0 _ T5.heap _
    rw [e5]
    exact ⟨b3, rfl, N5, K5, sz_b3, (((E_a1.wr W2).ext E3).wr W5), Fw5, ((Fw2.ext E3).other W5 (Or.inr (sn1 hw))), (EA3.wr W5), f_6⟩
def Q36 (Z : State) (w_XML_INVALID : Addr) (w_STATUS_UNAVAILABLE : Addr) (w_IMPORTED : Addr) (w_IMPORTED_WITH_WARNINGS : Addr) (a1 : Addr) (a2 : Addr) (k_a2 : ClassId) (h0 : Heap) (n0 : Nat) (v : Option Value) (h : Heap) (L : List Loc) : Prop := v = some (.int (200 : Int32)) ∧ Fr n0 L ∧ h = h0
set_option maxRecDepth 65536 in
set_option maxHeartbeats 40000000 in
theorem rm36 (l : Launch) (Z : State) (a0 : Array Value) (hw : ∀ d ∈ tables_1, d.before a0 Z = true) (ws : List Jvm.Cond) (w_XML_INVALID w_STATUS_UNAVAILABLE w_IMPORTED w_IMPORTED_WITH_WARNINGS : Addr) (hp : Perm Z w_XML_INVALID w_STATUS_UNAVAILABLE w_IMPORTED w_IMPORTED_WITH_WARNINGS) (a1 : Addr) (a2 : Addr) (k_a2 : ClassId) (h0 : Heap) (n0 : Nat) (O0 : Old Z n0 h0) (F_report_a1 : Fld Z h0 a1 "com/example/epcrtools/epcrtools/exchange/SubmissionStatus" "report" "[B" (.ref a2)) (V_a2 : Arv Z h0 a2 k_a2 .byte (200 : Int32) [] (.int (0 : Int32))) :
    MetFree l y3 (head1 (Jvm.Cond.code y3 prog_13_method_6_code 1 (some .int) :: ws) ({ frames := 0, cells := 0, slots := 0, locals := 0 } : Room)) (fun a U => a = #[(.ref a1)] ∧ Z.Warmed39 U.vm ∧ U.heap = h0) (fun _ _ _ _ _ => True) (fun _ U o U' => ∃ v L, o = .returned v ∧ Q36 Z w_XML_INVALID w_STATUS_UNAVAILABLE w_IMPORTED w_IMPORTED_WITH_WARNINGS a1 a2 k_a2 h0 n0 v U'.heap L ∧ FrameEnd U o U' L ({ frames := 0, cells := 0, slots := 0, locals := 0 } : Room).cells ({ frames := 0, cells := 0, slots := 0, locals := 0 } : Room).slots) := by
  refine MetFree.of_bodySF (plainFor_of_name pn_3) hisR ?_
  intro p e s m args below meth c s₁ Bd hml0 hP hK
  obtain ⟨rfl, hZ, hh⟩ := hP
  have hx := Bd.exec
  have hby := Bd.bytes
  have hml : c.maxLocals = 1 := hml0
  have hown : s.vm.findClass "com/example/epcrtools/epcrtools/exchange/SubmissionStatus" = some m.cls := findClass_of_methodNamed Bd.named
  have hnm := (name_of_methodNamed Bd.named Bd.method).1
  have X0 : Stand p l e ({ frames := 0, cells := 0, slots := 0, locals := 0 } : Room) s m #[(.ref a1)] below meth c s₁ [] 0 0 := Stand.of_body Bd
  have e0 : s₁.heap = h0 := by rw [← hh, Bd.state]; rfl
  have N0 := Fr.nil n0
  have hp' := hp
  obtain ⟨S_w_XML_INVALID, E_w_XML_INVALID, S_w_STATUS_UNAVAILABLE, E_w_STATUS_UNAVAILABLE, S_w_IMPORTED, E_w_IMPORTED, S_w_IMPORTED_WITH_WARNINGS, E_w_IMPORTED_WITH_WARNINGS⟩ := hp'
  have pre0 : ∀ t, Steps p.tables e below (s₁.setTop (mkF m 0 #[.val (.ref a1)] [])) t → Steps p.tables e below (s₁.setTop (entryFrame m #[(.ref a1)] 1)) t := fun t k => castTop (ef_5_0 m a1) k
  obtain ⟨T1, X1, e1, st1⟩ := getF X0 hx hZ hown (host := "") (Or.inl (hw _ (List.mem_of_getElem? (i := 31) rfl))) Via.refl e0 F_report_a1 (g := (mkF m 1 #[.val (.ref a1)] [(.ref a1)])) rfl rfl (hb hby d5_1)
  obtain ⟨T2, X2, e2, st2⟩ := getF X1 hx hZ hown (host := "") (Or.inl (hw _ (List.mem_of_getElem? (i := 31) rfl))) Via.refl e1 F_report_a1 (g := (mkF m 12 #[.val (.ref a1)] [(.ref a1)])) rfl rfl (hb hby d5_12)
  obtain ⟨cl3, Ar3, -, S3, Nn3, -, -⟩ := id V_a2
  obtain ⟨fs, hr, hrun, hended, hW, hsame⟩ := X2.leave (v := some (.int (200 : Int32))) (fun h => by rw [Bd.returns] at h; cases h)
  refine ⟨_, _, pre0 _ ?_, hrun, hended, _, _, rfl, ?_, ⟨_, rfl⟩, hW, hsame.mono (by decide) (by decide)⟩
  · show Sp p e below s₁ (mkF m 0 #[.val (.ref a1)] []) _
    refine XS.aloadN X0.here hx rfl (hb hby d5_0) rfl rfl ?_
    show Sp p e below s₁ (mkF m 1 #[.val (.ref a1)] [(.ref a1)]) _
    refine st1 _ ?_
    show Sp p e below T1 (mkF m 4 #[.val (.ref a1)] [(.ref a2)]) _
    refine XS.ifnonnullYes X1.here hx rfl (pc0 := 4) (pc' := 11) rfl (hb hby d5_4) rfl (by decide) (by decide) ?_
    show Sp p e below T1 (mkF m 11 #[.val (.ref a1)] []) _
    refine XS.aloadN X1.here hx rfl (hb hby d5_11) rfl rfl ?_
    show Sp p e below T1 (mkF m 12 #[.val (.ref a1)] [(.ref a1)]) _
    refine st2 _ ?_
    show Sp p e below T2 (mkF m 15 #[.val (.ref a1)] [(.ref a2)]) _
    refine X2.arraylength hx (by rw [e2]; exact Ar3.1) (State.isArrayOf_alike hZ.alike Ar3.2.1) (g := (mkF m 15 #[.val (.ref a1)] [(.ref a2)])) rfl rfl (hb hby d5_15) _ ?_
    rw [len_of S3 Nn3]
    show Sp p e below T2 (mkF m 16 #[.val (.ref a1)] [(.int (200 : Int32))]) _
    exact retI X2 hx Bd.returns (hb hby d5_16) hr
  · show Q36 Z w_XML_INVALID w_STATUS_UNAVAILABLE w_IMPORTED w_IMPORTED_WITH_WARNINGS a1 a2 k_a2 h0 n0 _ T2.heap _
    rw [e2]
    exact ⟨rfl, N0, rfl⟩
set_option maxRecDepth 65536 in
set_option maxHeartbeats 40000000 in
theorem rm37 (l : Launch) (Z : State) (a0 : Array Value) (hw : ∀ d ∈ tables_1, d.before a0 Z = true) (ws : List Jvm.Cond) (w_XML_INVALID w_STATUS_UNAVAILABLE w_IMPORTED w_IMPORTED_WITH_WARNINGS : Addr) (hp : Perm Z w_XML_INVALID w_STATUS_UNAVAILABLE w_IMPORTED w_IMPORTED_WITH_WARNINGS) (p0 : Int32) (p1 : Int32) (p2 : Int32) (p3 : Int32) (h0 : Heap) (n0 : Nat) (O0 : Old Z n0 h0) (hc1 : (p0 &&& (1 : Int32)) = (0 : Int32)) (hc2 : ¬ ((p1 &&& (7 : Int32)) = (0 : Int32))) (hc3 : ¬ ((p1 &&& (7 : Int32)) = (1 : Int32))) (hc4 : ¬ ((p1 &&& (7 : Int32)) = (2 : Int32))) (hc5 : ¬ ((p1 &&& (7 : Int32)) = (3 : Int32))) (hc6 : ¬ ((p1 &&& (7 : Int32)) = (4 : Int32))) (hc7 : ¬ ((p1 &&& (7 : Int32)) = (5 : Int32))) (hc8 : (p1 &&& (7 : Int32)) = (6 : Int32)) :
    MetFree l x (head1 (Jvm.Cond.code x code maxLocals ret :: ws) room_1) (fun a U => a = #[(.int p0), (.int p1), (.int p2), (.int p3)] ∧ Z.Warmed39 U.vm ∧ U.heap = h0) (fun _ _ _ _ _ => True) (fun _ U o U' => ∃ v L, o = .returned v ∧ (v = some (.int (1 : Int32)) ∧ Fr n0 L) ∧ FrameEnd U o U' L 16 896) := by
  refine MetFree.of_bodySF (plainFor_of_name pn_1) hisR ?_
  intro p e s m args below meth c s₁ Bd hml0 hP hK
  obtain ⟨rfl, hZ, hh⟩ := hP
  have hx := Bd.exec
  have hby := Bd.bytes
  have hml : c.maxLocals = 8 := hml0
  have hown : s.vm.findClass "com/example/epcrtools/epcrtools/exchange/SubmissionStatusSizePinLaw" = some m.cls := findClass_of_methodNamed Bd.named
  have hnm := (name_of_methodNamed Bd.named Bd.method).1
  have X0 : Stand p l e room_1 s m #[(.int p0), (.int p1), (.int p2), (.int p3)] below meth c s₁ [] 0 0 := Stand.of_body Bd
  have e0 : s₁.heap = h0 := by rw [← hh, Bd.state]; rfl
  have N0 := Fr.nil n0
  have hp' := hp
  obtain ⟨S_w_XML_INVALID, E_w_XML_INVALID, S_w_STATUS_UNAVAILABLE, E_w_STATUS_UNAVAILABLE, S_w_IMPORTED, E_w_IMPORTED, S_w_IMPORTED_WITH_WARNINGS, E_w_IMPORTED_WITH_WARNINGS⟩ := hp'
  have pre0 : ∀ t, Steps p.tables e below (s₁.setTop (mkF m 0 #[.val (.int p0), .val (.int p1), .val (.int p2), .val (.int p3), .unset, .unset, .unset, .unset] [])) t → Steps p.tables e below (s₁.setTop (entryFrame m #[(.int p0), (.int p1), (.int p2), (.int p3)] maxLocals)) t := fun t k => castTop (ef_0_0 m p0 p1 p2 p3) k
  obtain ⟨_, _, ⟨T1, L1, k1, n1⟩, -, X1, ⟨Lc1, hQ1, l1, y1, z1⟩, st1⟩ := Jvm.LawKit.callS X0 hx (y := y0) hown (mvT hZ (hw _ (List.mem_of_getElem? (i := 0) rfl))) (mvT hZ (hw _ (List.mem_of_getElem? (i := 1) rfl))) (mvT hZ (hw _ (List.mem_of_getElem? (i := 2) rfl))) (mvT hZ (hw _ (List.mem_of_getElem? (i := 3) rfl))) (by decide) (backOf (W := 0) (rmM1 l Z a0 hw [] w_XML_INVALID w_STATUS_UNAVAILABLE w_IMPORTED w_IMPORTED_WITH_WARNINGS hp p3 h0 n0 O0) hZ (hw _ (List.mem_of_getElem? (i := 3) rfl)) (hw _ (List.mem_of_getElem? (i := 2) rfl)) (by decide) (by decide)) (g := (mkF m 1 #[.val (.int p0), .val (.int p1), .val (.int p2), .val (.int p3), .unset, .unset, .unset, .unset] [(.int p3)])) rfl (by rw [hml]; rfl) (argsL := [(.int p3)]) (rest := []) (lenOf pd_0 rfl) rfl (by show 2 * 0 + _ ≤ _; exact Nat.le_of_eq rfl) (hb hby at_1) (fun _ _ => ⟨rfl, e0, (by decide : 0 + 0 ≤ _), (by decide : 0 + 0 ≤ _)⟩)
  dsimp only [Pt.U, Pt.locs, Pt.cells, Pt.slots] at X1 l1 y1 z1 st1 hQ1
  subst l1 y1 z1
  obtain ⟨c1_0, rfl, Nq1, eq1, oq1_0⟩ := hQ1
  have N1 := Fr.app N0 Nq1
  obtain ⟨_, _, ⟨T2, L2, k2, n2⟩, -, X2, ⟨Lc2, hQ2, l2, y2, z2⟩, st2⟩ := Jvm.LawKit.callS X1 hx (y := y1) hown (mvT hZ (hw _ (List.mem_of_getElem? (i := 7) rfl))) (mvT hZ (hw _ (List.mem_of_getElem? (i := 8) rfl))) (mvT hZ (hw _ (List.mem_of_getElem? (i := 2) rfl))) (mvT hZ (hw _ (List.mem_of_getElem? (i := 9) rfl))) (by decide) (backOf (W := 0) (rm34 l Z a0 hw [] w_XML_INVALID w_STATUS_UNAVAILABLE w_IMPORTED w_IMPORTED_WITH_WARNINGS hp p1 p2 h0 n0 O0 hc2 hc3 hc4 hc5 hc6 hc7 hc8) hZ (hw _ (List.mem_of_getElem? (i := 9) rfl)) (hw _ (List.mem_of_getElem? (i := 2) rfl)) (by decide) (by decide)) (g := (mkF m 45 #[.val (.int p0), .val (.int p1), .val (.int p2), .val (.int p3), .val (.ref c1_0), .unset, .unset, .unset] [(.int p2), (.int p1)])) rfl (by rw [hml]; rfl) (argsL := [(.int p1), (.int p2)]) (rest := []) (lenOf pd_1 rfl) rfl (by show 2 * 0 + _ ≤ _; exact Nat.le_of_eq rfl) (hb hby at_45) (fun _ _ => ⟨rfl, eq1, (by decide : 0 + 1 ≤ _), (by decide : 0 + 200 ≤ _)⟩)
  dsimp only [Pt.U, Pt.locs, Pt.cells, Pt.slots] at X2 l2 y2 z2 st2 hQ2
  subst l2 y2 z2
  obtain ⟨b2_0, kc2_0, rfl, Nq2, Kq2, sq_b2_0, fq2_0, fq2_1⟩ := hQ2
  have N2 := Fr.app N1 Nq2
  have g_b2_0 : n0 ≤ b2_0 := Nat.le_trans (own_sz O0) sq_b2_0
  have sz_b2_0 : h0.size ≤ b2_0 := Nat.le_trans (Keep.refl h0 []).1 sq_b2_0
  have O2 := O0.keep Kq2 all0
  have K2 : Keep h0 T2.heap [] := (Keep.refl h0 []).trans Kq2 all0
  obtain ⟨cl3, Ar3, -, S3, Nn3, -, -⟩ := id fq2_1
  obtain ⟨T4, h4, X4, e4, E4, A4, D4, -, st4⟩ := newO X2 hx hZ hown (hw _ (List.mem_of_getElem? (i := 11) rfl)) (hw _ (List.mem_of_getElem? (i := 12) rfl)) (hw _ (List.mem_of_getElem? (i := 13) rfl)) rfl (g := (mkF m 55 #[.val (.int p0), .val (.int p1), .val (.int p2), .val (.int p3), .val (.ref c1_0), .val (.ref b2_0), .val (.int (200 : Int32)), .unset] [])) rfl (hb hby at_55) (by decide) (by decide)
  obtain ⟨b4, g4⟩ : ∃ z, z = T2.heap.size := ⟨_, rfl⟩
  rw [← g4] at A4 D4 st4
  have g_b4 : n0 ≤ b4 := Nat.le_trans (own_sz O2) (Nat.le_of_eq g4.symm)
  have sz_b4 : h0.size ≤ b4 := Nat.le_trans K2.1 (Nat.le_of_eq g4.symm)
  have O4 := O2.ext E4
  have K4 : Keep h0 h4 [] := K2.ext E4
  have F_statusCode_b4 : Fld Z h4 b4 "com/example/epcrtools/epcrtools/exchange/SubmissionStatus" "statusCode" "Lcom/example/epcrtools/epcrtools/exchange/StatusCode;" .null := D4 (Or.inr (hw _ (List.mem_of_getElem? (i := 21) rfl))) (ty := (.object "com/example/epcrtools/epcrtools/exchange/StatusCode")) (by decide)
  have F_report_b4 : Fld Z h4 b4 "com/example/epcrtools/epcrtools/exchange/SubmissionStatus" "report" "[B" .null := D4 (Or.inr (hw _ (List.mem_of_getElem? (i := 32) rfl))) (ty := (.array .byte)) (by decide)
  obtain ⟨_, _, ⟨T5, L5, k5, n5⟩, -, X5, ⟨Lc5, hQ5, l5, y5, z5⟩, st5⟩ := X4.specialBack hx (y := y2) rfl hown (mvT hZ (hw _ (List.mem_of_getElem? (i := 14) rfl))) (mvT hZ (hw _ (List.mem_of_getElem? (i := 15) rfl))) (mvT hZ (hw _ (List.mem_of_getElem? (i := 16) rfl))) (by decide) (backOf (W := 1) (rm35 l Z a0 hw [] w_XML_INVALID w_STATUS_UNAVAILABLE w_IMPORTED w_IMPORTED_WITH_WARNINGS hp b4 c1_0 b2_0 kc2_0 h4 n0 O4 A4 F_statusCode_b4 F_report_b4 g_b4 (fq2_1.ext E4) (Ne.symm (Nat.ne_of_lt (Nat.lt_of_lt_of_le fq2_0.lt (Nat.le_of_eq g4.symm)))) (fq2_0.ext E4)) hZ (hw _ (List.mem_of_getElem? (i := 16) rfl)) (hw _ (List.mem_of_getElem? (i := 13) rfl)) (by decide) (by decide)) (g := (mkF m 63 #[.val (.int p0), .val (.int p1), .val (.int p2), .val (.int p3), .val (.ref c1_0), .val (.ref b2_0), .val (.int (200 : Int32)), .unset] [(.ref b2_0), (.ref c1_0), (.ref b4), (.ref b4)])) rfl (by rw [hml]; rfl) (Steps.refl _) (a := b4) (argsL := [(.ref c1_0), (.ref b2_0)]) (rest := [(.ref b4)]) (lenOf pd_2 rfl) rfl (by show 2 * 0 + _ ≤ _; exact Nat.le_of_eq rfl) (hb hby at_63) (fun _ _ => ⟨rfl, e4, (by decide : 2 + 1 ≤ _), (by decide : 202 + 200 ≤ _)⟩)
  dsimp only [Pt.U, Pt.locs, Pt.cells, Pt.slots] at X5 l5 y5 z5 st5 hQ5
  subst l5 y5 z5
  obtain ⟨b5_0, rfl, Nq5, Kq5, sq_b5_0, fq5_0, fq5_1, fq5_2, fq5_3, fq5_4⟩ := hQ5
  have N5 := Fr.app N2 Nq5
  have g_b5_0 : n0 ≤ b5_0 := Nat.le_trans (own_sz O4) sq_b5_0
  have sz_b5_0 : h0.size ≤ b5_0 := Nat.le_trans K4.1 sq_b5_0
  have O5 := O4.keep Kq5 (allS g_b4 all0)
  have K5 : Keep h0 T5.heap [] := K4.trans Kq5 (allS (Or.inr sz_b4) all0)
  have f_6 := ((fq2_1.ext E4).keep Kq5 (ninS (Nat.ne_of_lt (Nat.lt_of_lt_of_le fq2_0.lt (Nat.le_of_eq g4.symm))) nin0))
  obtain ⟨cl7, Ar7, -, S7, -, H7, -⟩ := id f_6
  have hin7 : ¬ ((0 : Int32) < 0 ∨ cl7.slots.size ≤ ((0 : Int32)).toNatClampNeg) := inb_of S7 ⟨by decide, by decide⟩
  have hat7 : cl7.slots[((0 : Int32)).toNatClampNeg]? = some (.int (0 : Int32)) := H7.at hin7 rfl
  obtain ⟨cl8, Ar8, q8, S8, Nn8, H8, G8⟩ := id (f_6.pad (pad_rep [] (.int (0 : Int32)) 1) : Arv Z T5.heap b2_0 kc2_0 .byte (200 : Int32) [(.int (0 : Int32))] (.int (0 : Int32)))
  have hin8 : ¬ ((0 : Int32) < 0 ∨ cl8.slots.size ≤ ((0 : Int32)).toNatClampNeg) := inb_of S8 ⟨by decide, by decide⟩
  obtain ⟨T9, h9, X9, e9, W9, st9⟩ := stB X5 hx hZ rfl Ar8 (j := (0 : Int32)) hin8 (g := (mkF m 83 #[.val (.int p0), .val (.int p1), .val (.int p2), .val (.int p3), .val (.ref c1_0), .val (.ref b2_0), .val (.int (200 : Int32)), .val (.ref b4)] [(.int (((0 : Int32) + (1 : Int32)).toInt8.toInt32)), (.int (0 : Int32)), (.ref b2_0)])) rfl rfl (hb hby at_83)
  have N9 := Fr.snoc X9 N5 g_b2_0
  have O9 := O5.wr W9 g_b2_0
  have K9 : Keep h0 h9 [] := K5.wr W9 (Or.inr sz_b2_0)
  have V_b2_0_9 : Arv Z h9 b2_0 kc2_0 .byte (200 : Int32) [(.int (1 : Int32))] (.int (0 : Int32)) := Arv.set Ar8 q8 S8 Nn8 H8 G8 (fits_nar_byte _) W9 0 rfl (Nat.le_of_ble_eq_true rfl)
  have f_10 := (fq5_1.other W9 (Or.inl (Ne.symm (Nat.ne_of_lt (Nat.lt_of_lt_of_le fq2_0.lt (Nat.le_of_eq g4.symm))))))
  have f_11 := (fq5_4.other W9 (Ne.symm (Nat.ne_of_lt (Nat.lt_of_lt_of_le (fq2_0.ext E4).lt sq_b5_0))))
  obtain ⟨cq12, kq12, q12a, q12b, q12c⟩ := isOf hZ e9 (fq5_0.wr W9)
  obtain ⟨_, _, ⟨T12, L12, k12, n12⟩, -, X12, ⟨Lc12, hQ12, l12, y12, z12⟩, st12⟩ := X9.virtualBack hx (y := y3) (z := y3) hown (mvT hZ (hw _ (List.mem_of_getElem? (i := 33) rfl))) (mvT hZ (hw _ (List.mem_of_getElem? (i := 34) rfl))) (notFace_of_selects (args := #[]) (mvT hZ (hw _ (List.mem_of_getElem? (i := 36) rfl)))) (mvT hZ (hw _ (List.mem_of_getElem? (i := 36) rfl))) (mvT hZ (hw _ (List.mem_of_getElem? (i := 35) rfl))) (by decide) (backOf (W := 0) (rm36 l Z a0 hw [] w_XML_INVALID w_STATUS_UNAVAILABLE w_IMPORTED w_IMPORTED_WITH_WARNINGS hp b4 b5_0 kc2_0 h9 n0 O9 f_10 f_11) hZ (hw _ (List.mem_of_getElem? (i := 37) rfl)) (hw _ (List.mem_of_getElem? (i := 13) rfl)) (by decide) (by decide)) q12a q12c (g := (mkF m 86 #[.val (.int p0), .val (.int p1), .val (.int p2), .val (.int p3), .val (.ref c1_0), .val (.ref b2_0), .val (.int (200 : Int32)), .val (.ref b4)] [(.ref b4)])) rfl (by rw [hml]; rfl) (Steps.refl _) (argsL := []) (rest := []) (lenOf pd_3 rfl) rfl (by show 2 * 0 + _ ≤ _; exact Nat.le_of_eq rfl) (hb hby at_86) (fun _ _ => ⟨rfl, e9, (by decide : 3 + 0 ≤ _), (by decide : 402 + 0 ≤ _)⟩)
  dsimp only [Pt.U, Pt.locs, Pt.cells, Pt.slots] at X12 l12 y12 z12 st12 hQ12
  subst l12 y12 z12
  obtain ⟨rfl, Nq12, eq12⟩ := hQ12
  have N12 := Fr.app N9 Nq12
  have f_13 := (fq5_2.other W9 (Or.inl (Ne.symm (Nat.ne_of_lt (Nat.lt_of_lt_of_le fq2_0.lt (Nat.le_of_eq g4.symm))))))
  obtain ⟨cq14, kq14, q14a, q14b, q14c⟩ := isOf hZ eq12 (fq5_0.wr W9)
  obtain ⟨_, _, ⟨T14, L14, k14, n14⟩, -, X14, ⟨Lc14, hQ14, l14, y14, z14⟩, st14⟩ := X12.virtualBack hx (y := y4) (z := y4) hown (mvT hZ (hw _ (List.mem_of_getElem? (i := 38) rfl))) (mvT hZ (hw _ (List.mem_of_getElem? (i := 39) rfl))) (notFace_of_selects (args := #[]) (mvT hZ (hw _ (List.mem_of_getElem? (i := 41) rfl)))) (mvT hZ (hw _ (List.mem_of_getElem? (i := 41) rfl))) (mvT hZ (hw _ (List.mem_of_getElem? (i := 40) rfl))) (by decide) (backOf (W := 0) (rm8 l Z a0 hw [] w_XML_INVALID w_STATUS_UNAVAILABLE w_IMPORTED w_IMPORTED_WITH_WARNINGS hp b4 c1_0 h9 n0 O9 f_13) hZ (hw _ (List.mem_of_getElem? (i := 42) rfl)) (hw _ (List.mem_of_getElem? (i := 13) rfl)) (by decide) (by decide)) q14a q14c (g := (mkF m 96 #[.val (.int p0), .val (.int p1), .val (.int p2), .val (.int p3), .val (.ref c1_0), .val (.ref b2_0), .val (.int (200 : Int32)), .val (.ref b4)] [(.ref b4)])) rfl (by rw [hml]; rfl) (Steps.refl _) (argsL := []) (rest := []) (lenOf pd_4 rfl) rfl (by show 2 * 0 + _ ≤ _; exact Nat.le_of_eq rfl) (hb hby at_96) (fun _ _ => ⟨rfl, eq12, (by decide : 3 + 0 ≤ _), (by decide : 402 + 0 ≤ _)⟩)
  dsimp only [Pt.U, Pt.locs, Pt.cells, Pt.slots] at X14 l14 y14 z14 st14 hQ14
  subst l14 y14 z14
  obtain ⟨rfl, Nq14, eq14⟩ := hQ14
  have N14 := Fr.app N12 Nq14
  obtain ⟨fs, hr, hrun, hended, hW, hsame⟩ := X14.leave (v := some (.int (1 : Int32))) (fun h => by rw [Bd.returns] at h; cases h)
  refine ⟨_, _, pre0 _ ?_, hrun, hended, _, _, rfl, ?_, ⟨_, rfl⟩, hW, hsame.mono (by decide) (by decide)⟩
  · show Sp p e below s₁ (mkF m 0 #[.val (.int p0), .val (.int p1), .val (.int p2), .val (.int p3), .unset, .unset, .unset, .unset] []) _
    refine XS.iloadN X0.here hx rfl (hb hby at_0) rfl ?_
    show Sp p e below s₁ (mkF m 1 #[.val (.int p0), .val (.int p1), .val (.int p2), .val (.int p3), .unset, .unset, .unset, .unset] [(.int p3)]) _
    refine st1 _ ?_
    show Sp p e below T1 (mkF m 4 #[.val (.int p0), .val (.int p1), .val (.int p2), .val (.int p3), .unset, .unset, .unset, .unset] [(.ref c1_0)]) _
    refine XS.astore X1.here hx rfl (hb hby at_4) rfl rfl (l' := #[.val (.int p0), .val (.int p1), .val (.int p2), .val (.int p3), .val (.ref c1_0), .unset, .unset, .unset]) rfl ?_
    show Sp p e below T1 (mkF m 6 #[.val (.int p0), .val (.int p1), .val (.int p2), .val (.int p3), .val (.ref c1_0), .unset, .unset, .unset] []) _
    refine XS.iloadN X1.here hx rfl (hb hby at_6) rfl ?_
    show Sp p e below T1 (mkF m 7 #[.val (.int p0), .val (.int p1), .val (.int p2), .val (.int p3), .val (.ref c1_0), .unset, .unset, .unset] [(.int p0)]) _
    refine XS.iconst X1.here hx rfl (hb hby at_7) ?_
    show Sp p e below T1 (mkF m 8 #[.val (.int p0), .val (.int p1), .val (.int p2), .val (.int p3), .val (.ref c1_0), .unset, .unset, .unset] [(.int (1 : Int32)), (.int p0)]) _
    refine XS.iand X1.here hx rfl (hb hby at_8) rfl ?_
    show Sp p e below T1 (mkF m 9 #[.val (.int p0), .val (.int p1), .val (.int p2), .val (.int p3), .val (.ref c1_0), .unset, .unset, .unset] [(.int (p0 &&& (1 : Int32)))]) _
    refine XS.ifYes X1.here hx rfl (pc0 := 9) (pc' := 43) rfl (hb hby at_9) rfl ((if0 _ _).trans (teq hc1).1) (by decide) (by decide) ?_
    show Sp p e below T1 (mkF m 43 #[.val (.int p0), .val (.int p1), .val (.int p2), .val (.int p3), .val (.ref c1_0), .unset, .unset, .unset] []) _
    refine XS.iloadN X1.here hx rfl (hb hby at_43) rfl ?_
    show Sp p e below T1 (mkF m 44 #[.val (.int p0), .val (.int p1), .val (.int p2), .val (.int p3), .val (.ref c1_0), .unset, .unset, .unset] [(.int p1)]) _
    refine XS.iloadN X1.here hx rfl (hb hby at_44) rfl ?_
    show Sp p e below T1 (mkF m 45 #[.val (.int p0), .val (.int p1), .val (.int p2), .val (.int p3), .val (.ref c1_0), .unset, .unset, .unset] [(.int p2), (.int p1)]) _
    refine st2 _ ?_
    show Sp p e below T2 (mkF m 48 #[.val (.int p0), .val (.int p1), .val (.int p2), .val (.int p3), .val (.ref c1_0), .unset, .unset, .unset] [(.ref b2_0)]) _
    refine XS.astore X2.here hx rfl (hb hby at_48) rfl rfl (l' := #[.val (.int p0), .val (.int p1), .val (.int p2), .val (.int p3), .val (.ref c1_0), .val (.ref b2_0), .unset, .unset]) rfl ?_
    show Sp p e below T2 (mkF m 50 #[.val (.int p0), .val (.int p1), .val (.int p2), .val (.int p3), .val (.ref c1_0), .val (.ref b2_0), .unset, .unset] []) _
    refine XS.aload X2.here hx rfl (hb hby at_50) rfl rfl ?_
    show Sp p e below T2 (mkF m 52 #[.val (.int p0), .val (.int p1), .val (.int p2), .val (.int p3), .val (.ref c1_0), .val (.ref b2_0), .unset, .unset] [(.ref b2_0)]) _
    refine X2.arraylength hx (by exact Ar3.1) (State.isArrayOf_alike hZ.alike Ar3.2.1) (g := (mkF m 52 #[.val (.int p0), .val (.int p1), .val (.int p2), .val (.int p3), .val (.ref c1_0), .val (.ref b2_0), .unset, .unset] [(.ref b2_0)])) rfl rfl (hb hby at_52) _ ?_
    rw [len_of S3 Nn3]
    show Sp p e below T2 (mkF m 53 #[.val (.int p0), .val (.int p1), .val (.int p2), .val (.int p3), .val (.ref c1_0), .val (.ref b2_0), .unset, .unset] [(.int (200 : Int32))]) _
    refine XS.istore X2.here hx rfl (hb hby at_53) rfl (l' := #[.val (.int p0), .val (.int p1), .val (.int p2), .val (.int p3), .val (.ref c1_0), .val (.ref b2_0), .val (.int (200 : Int32)), .unset]) rfl ?_
    show Sp p e below T2 (mkF m 55 #[.val (.int p0), .val (.int p1), .val (.int p2), .val (.int p3), .val (.ref c1_0), .val (.ref b2_0), .val (.int (200 : Int32)), .unset] []) _
    refine st4 _ ?_
    show Sp p e below T4 (mkF m 58 #[.val (.int p0), .val (.int p1), .val (.int p2), .val (.int p3), .val (.ref c1_0), .val (.ref b2_0), .val (.int (200 : Int32)), .unset] [(.ref b4)]) _
    refine XS.dup X4.here hx rfl (hb hby at_58) rfl rfl ?_
    show Sp p e below T4 (mkF m 59 #[.val (.int p0), .val (.int p1), .val (.int p2), .val (.int p3), .val (.ref c1_0), .val (.ref b2_0), .val (.int (200 : Int32)), .unset] [(.ref b4), (.ref b4)]) _
    refine XS.aload X4.here hx rfl (hb hby at_59) rfl rfl ?_
    show Sp p e below T4 (mkF m 61 #[.val (.int p0), .val (.int p1), .val (.int p2), .val (.int p3), .val (.ref c1_0), .val (.ref b2_0), .val (.int (200 : Int32)), .unset] [(.ref c1_0), (.ref b4), (.ref b4)]) _
    refine XS.aload X4.here hx rfl (hb hby at_61) rfl rfl ?_
    show Sp p e below T4 (mkF m 63 #[.val (.int p0), .val (.int p1), .val (.int p2), .val (.int p3), .val (.ref c1_0), .val (.ref b2_0), .val (.int (200 : Int32)), .unset] [(.ref b2_0), (.ref c1_0), (.ref b4), (.ref b4)]) _
    refine st5.trans ?_
    show Sp p e below T5 (mkF m 66 #[.val (.int p0), .val (.int p1), .val (.int p2), .val (.int p3), .val (.ref c1_0), .val (.ref b2_0), .val (.int (200 : Int32)), .unset] [(.ref b4)]) _
    refine XS.astore X5.here hx rfl (hb hby at_66) rfl rfl (l' := #[.val (.int p0), .val (.int p1), .val (.int p2), .val (.int p3), .val (.ref c1_0), .val (.ref b2_0), .val (.int (200 : Int32)), .val (.ref b4)]) rfl ?_
    show Sp p e below T5 (mkF m 68 #[.val (.int p0), .val (.int p1), .val (.int p2), .val (.int p3), .val (.ref c1_0), .val (.ref b2_0), .val (.int (200 : Int32)), .val (.ref b4)] []) _
    refine XS.iload X5.here hx rfl (hb hby at_68) rfl ?_
    show Sp p e below T5 (mkF m 70 #[.val (.int p0), .val (.int p1), .val (.int p2), .val (.int p3), .val (.ref c1_0), .val (.ref b2_0), .val (.int (200 : Int32)), .val (.ref b4)] [(.int (200 : Int32))]) _
    refine XS.ifNo X5.here hx rfl (hb hby at_70) rfl ((if0 _ _).trans (tlt (by decide : (0 : Int32) < (200 : Int32))).2.2.2) ?_
    show Sp p e below T5 (mkF m 73 #[.val (.int p0), .val (.int p1), .val (.int p2), .val (.int p3), .val (.ref c1_0), .val (.ref b2_0), .val (.int (200 : Int32)), .val (.ref b4)] []) _
    refine XS.aload X5.here hx rfl (hb hby at_73) rfl rfl ?_
    show Sp p e below T5 (mkF m 75 #[.val (.int p0), .val (.int p1), .val (.int p2), .val (.int p3), .val (.ref c1_0), .val (.ref b2_0), .val (.int (200 : Int32)), .val (.ref b4)] [(.ref b2_0)]) _
    refine XS.iconst X5.here hx rfl (hb hby at_75) ?_
    show Sp p e below T5 (mkF m 76 #[.val (.int p0), .val (.int p1), .val (.int p2), .val (.int p3), .val (.ref c1_0), .val (.ref b2_0), .val (.int (200 : Int32)), .val (.ref b4)] [(.int (0 : Int32)), (.ref b2_0)]) _
    refine XS.aload X5.here hx rfl (hb hby at_76) rfl rfl ?_
    show Sp p e below T5 (mkF m 78 #[.val (.int p0), .val (.int p1), .val (.int p2), .val (.int p3), .val (.ref c1_0), .val (.ref b2_0), .val (.int (200 : Int32)), .val (.ref b4)] [(.ref b2_0), (.int (0 : Int32)), (.ref b2_0)]) _
    refine XS.iconst X5.here hx rfl (hb hby at_78) ?_
    show Sp p e below T5 (mkF m 79 #[.val (.int p0), .val (.int p1), .val (.int p2), .val (.int p3), .val (.ref c1_0), .val (.ref b2_0), .val (.int (200 : Int32)), .val (.ref b4)] [(.int (0 : Int32)), (.ref b2_0), (.int (0 : Int32)), (.ref b2_0)]) _
    refine X5.baloadBytes hx (j := (0 : Int32)) (v := (.int (0 : Int32))) (by exact Ar7.1) (State.isArrayOf_alike hZ.alike Ar7.2.1) Ar7.2.2 hin7 hat7 (g := (mkF m 79 #[.val (.int p0), .val (.int p1), .val (.int p2), .val (.int p3), .val (.ref c1_0), .val (.ref b2_0), .val (.int (200 : Int32)), .val (.ref b4)] [(.int (0 : Int32)), (.ref b2_0), (.int (0 : Int32)), (.ref b2_0)])) rfl rfl (hb hby at_79) _ ?_
    show Sp p e below T5 (mkF m 80 #[.val (.int p0), .val (.int p1), .val (.int p2), .val (.int p3), .val (.ref c1_0), .val (.ref b2_0), .val (.int (200 : Int32)), .val (.ref b4)] [(.int (0 : Int32)), (.int (0 : Int32)), (.ref b2_0)]) _
    refine XS.iconst X5.here hx rfl (hb hby at_80) ?_
    show Sp p e below T5 (mkF m 81 #[.val (.int p0), .val (.int p1), .val (.int p2), .val (.int p3), .val (.ref c1_0), .val (.ref b2_0), .val (.int (200 : Int32)), .val (.ref b4)] [(.int (1 : Int32)), (.int (0 : Int32)), (.int (0 : Int32)), (.ref b2_0)]) _
    refine XS.iadd X5.here hx rfl (hb hby at_81) rfl ?_
    show Sp p e below T5 (mkF m 82 #[.val (.int p0), .val (.int p1), .val (.int p2), .val (.int p3), .val (.ref c1_0), .val (.ref b2_0), .val (.int (200 : Int32)), .val (.ref b4)] [(.int ((0 : Int32) + (1 : Int32))), (.int (0 : Int32)), (.ref b2_0)]) _
    refine XS.i2b X5.here hx rfl (hb hby at_82) rfl ?_
    show Sp p e below T5 (mkF m 83 #[.val (.int p0), .val (.int p1), .val (.int p2), .val (.int p3), .val (.ref c1_0), .val (.ref b2_0), .val (.int (200 : Int32)), .val (.ref b4)] [(.int (((0 : Int32) + (1 : Int32)).toInt8.toInt32)), (.int (0 : Int32)), (.ref b2_0)]) _
    refine st9 _ ?_
    show Sp p e below T9 (mkF m 84 #[.val (.int p0), .val (.int p1), .val (.int p2), .val (.int p3), .val (.ref c1_0), .val (.ref b2_0), .val (.int (200 : Int32)), .val (.ref b4)] []) _
    refine XS.aload X9.here hx rfl (hb hby at_84) rfl rfl ?_
    show Sp p e below T9 (mkF m 86 #[.val (.int p0), .val (.int p1), .val (.int p2), .val (.int p3), .val (.ref c1_0), .val (.ref b2_0), .val (.int (200 : Int32)), .val (.ref b4)] [(.ref b4)]) _
    refine st12.trans ?_
    show Sp p e below T12 (mkF m 89 #[.val (.int p0), .val (.int p1), .val (.int p2), .val (.int p3), .val (.ref c1_0), .val (.ref b2_0), .val (.int (200 : Int32)), .val (.ref b4)] [(.int (200 : Int32))]) _
    refine XS.iload X12.here hx rfl (hb hby at_89) rfl ?_
    show Sp p e below T12 (mkF m 91 #[.val (.int p0), .val (.int p1), .val (.int p2), .val (.int p3), .val (.ref c1_0), .val (.ref b2_0), .val (.int (200 : Int32)), .val (.ref b4)] [(.int (200 : Int32)), (.int (200 : Int32))]) _
    refine XS.icmpNo X12.here hx rfl (hb hby at_91) rfl (teq (by decide : (200 : Int32) = (200 : Int32))).2 ?_
    show Sp p e below T12 (mkF m 94 #[.val (.int p0), .val (.int p1), .val (.int p2), .val (.int p3), .val (.ref c1_0), .val (.ref b2_0), .val (.int (200 : Int32)), .val (.ref b4)] []) _
    refine XS.aload X12.here hx rfl (hb hby at_94) rfl rfl ?_
    show Sp p e below T12 (mkF m 96 #[.val (.int p0), .val (.int p1), .val (.int p2), .val (.int p3), .val (.ref c1_0), .val (.ref b2_0), .val (.int (200 : Int32)), .val (.ref b4)] [(.ref b4)]) _
    refine st14.trans ?_
    show Sp p e below T14 (mkF m 99 #[.val (.int p0), .val (.int p1), .val (.int p2), .val (.int p3), .val (.ref c1_0), .val (.ref b2_0), .val (.int (200 : Int32)), .val (.ref b4)] [(.ref c1_0)]) _
    refine XS.aload X14.here hx rfl (hb hby at_99) rfl rfl ?_
    show Sp p e below T14 (mkF m 101 #[.val (.int p0), .val (.int p1), .val (.int p2), .val (.int p3), .val (.ref c1_0), .val (.ref b2_0), .val (.int (200 : Int32)), .val (.ref b4)] [(.ref c1_0), (.ref c1_0)]) _
    refine Jvm.RoadKit.acmp (g := (mkF m 101 #[.val (.int p0), .val (.int p1), .val (.int p2), .val (.int p3), .val (.ref c1_0), .val (.ref b2_0), .val (.int (200 : Int32)), .val (.ref b4)] [(.ref c1_0), (.ref c1_0)])) X14 hx rfl rfl rfl (pc0 := 101) (pc' := 104) (same := true) rfl (hb hby at_101) rfl (decide_eq_true rfl) (by decide) (by decide) ?_
    show Sp p e below T14 (mkF m 104 #[.val (.int p0), .val (.int p1), .val (.int p2), .val (.int p3), .val (.ref c1_0), .val (.ref b2_0), .val (.int (200 : Int32)), .val (.ref b4)] []) _
    refine XS.iconst X14.here hx rfl (hb hby at_104) ?_
    show Sp p e below T14 (mkF m 105 #[.val (.int p0), .val (.int p1), .val (.int p2), .val (.int p3), .val (.ref c1_0), .val (.ref b2_0), .val (.int (200 : Int32)), .val (.ref b4)] [(.int (1 : Int32))]) _
    refine XS.goto X14.here hx rfl (pc0 := 105) (pc' := 109) rfl (hb hby at_105) (by decide) (by decide) ?_
    show Sp p e below T14 (mkF m 109 #[.val (.int p0), .val (.int p1), .val (.int p2), .val (.int p3), .val (.ref c1_0), .val (.ref b2_0), .val (.int (200 : Int32)), .val (.ref b4)] [(.int (1 : Int32))]) _
    exact retN X14 hx (t := .boolean) Bd.returns (by simp) (hb hby at_109) hr
  · skip
    exact ⟨rfl, N14⟩
theorem d2_162 : decode method_3_code 162 = .ok (.bipush 7, 2) := by decide +kernel
theorem d2_164 : decode method_3_code 164 = .ok (.newarray .byte, 2) := by decide +kernel
theorem d2_166 : decode method_3_code 166 = .ok (.dup, 1) := by decide +kernel
theorem d2_167 : decode method_3_code 167 = .ok (.iconst 0, 1) := by decide +kernel
theorem d2_168 : decode method_3_code 168 = .ok (.iload 6, 2) := by decide +kernel
theorem d2_170 : decode method_3_code 170 = .ok (.bastore, 1) := by decide +kernel
theorem d2_171 : decode method_3_code 171 = .ok (.dup, 1) := by decide +kernel
theorem d2_172 : decode method_3_code 172 = .ok (.iconst 1, 1) := by decide +kernel
theorem d2_173 : decode method_3_code 173 = .ok (.iload 5, 2) := by decide +kernel
theorem d2_175 : decode method_3_code 175 = .ok (.bastore, 1) := by decide +kernel
theorem d2_176 : decode method_3_code 176 = .ok (.dup, 1) := by decide +kernel
theorem d2_177 : decode method_3_code 177 = .ok (.iconst 2, 1) := by decide +kernel
theorem d2_178 : decode method_3_code 178 = .ok (.iload 4, 2) := by decide +kernel
theorem d2_180 : decode method_3_code 180 = .ok (.bastore, 1) := by decide +kernel
theorem d2_181 : decode method_3_code 181 = .ok (.dup, 1) := by decide +kernel
theorem d2_182 : decode method_3_code 182 = .ok (.iconst 3, 1) := by decide +kernel
theorem d2_183 : decode method_3_code 183 = .ok (.iload_n 3, 1) := by decide +kernel
theorem d2_184 : decode method_3_code 184 = .ok (.bastore, 1) := by decide +kernel
theorem d2_185 : decode method_3_code 185 = .ok (.dup, 1) := by decide +kernel
theorem d2_186 : decode method_3_code 186 = .ok (.iconst 4, 1) := by decide +kernel
theorem d2_187 : decode method_3_code 187 = .ok (.iconst 0, 1) := by decide +kernel
theorem d2_188 : decode method_3_code 188 = .ok (.bastore, 1) := by decide +kernel
theorem d2_189 : decode method_3_code 189 = .ok (.dup, 1) := by decide +kernel
theorem d2_190 : decode method_3_code 190 = .ok (.iconst 5, 1) := by decide +kernel
theorem d2_191 : decode method_3_code 191 = .ok (.iconst 0, 1) := by decide +kernel
theorem d2_192 : decode method_3_code 192 = .ok (.bastore, 1) := by decide +kernel
theorem d2_193 : decode method_3_code 193 = .ok (.dup, 1) := by decide +kernel
theorem d2_194 : decode method_3_code 194 = .ok (.bipush 6, 2) := by decide +kernel
theorem d2_196 : decode method_3_code 196 = .ok (.iload_n 3, 1) := by decide +kernel
theorem d2_197 : decode method_3_code 197 = .ok (.bastore, 1) := by decide +kernel
theorem d2_198 : decode method_3_code 198 = .ok (.areturn, 1) := by decide +kernel
def Q38 (Z : State) (w_XML_INVALID : Addr) (w_STATUS_UNAVAILABLE : Addr) (w_IMPORTED : Addr) (w_IMPORTED_WITH_WARNINGS : Addr) (p1 : Int32) (p2 : Int32) (h0 : Heap) (n0 : Nat) (v : Option Value) (h : Heap) (L : List Loc) : Prop := ∃ (b1 : Addr), ∃ (k1 : ClassId), v = some (.ref b1) ∧ Fr n0 L ∧ Keep h0 h [] ∧ h0.size ≤ b1 ∧ Exa Z h b1 "[B" ∧ Arv Z h b1 k1 .byte (7 : Int32) [(.int (nar .byte (((p2.toUInt32 >>> ((24 : Int32) &&& 31).toUInt32).toInt32).toInt8.toInt32))), (.int (nar .byte (((p2.toUInt32 >>> ((16 : Int32) &&& 31).toUInt32).toInt32).toInt8.toInt32))), (.int (nar .byte (((p2.toUInt32 >>> ((8 : Int32) &&& 31).toUInt32).toInt32).toInt8.toInt32))), (.int (nar .byte (p2.toInt8.toInt32))), (.int (0 : Int32)), (.int (0 : Int32)), (.int (nar .byte (p2.toInt8.toInt32)))] (.int (0 : Int32))
set_option maxRecDepth 65536 in
set_option maxHeartbeats 40000000 in
theorem rm38 (l : Launch) (Z : State) (a0 : Array Value) (hw : ∀ d ∈ tables_1, d.before a0 Z = true) (ws : List Jvm.Cond) (w_XML_INVALID w_STATUS_UNAVAILABLE w_IMPORTED w_IMPORTED_WITH_WARNINGS : Addr) (hp : Perm Z w_XML_INVALID w_STATUS_UNAVAILABLE w_IMPORTED w_IMPORTED_WITH_WARNINGS) (p1 : Int32) (p2 : Int32) (h0 : Heap) (n0 : Nat) (O0 : Old Z n0 h0) (hc1 : ¬ ((p1 &&& (7 : Int32)) = (0 : Int32))) (hc2 : ¬ ((p1 &&& (7 : Int32)) = (1 : Int32))) (hc3 : ¬ ((p1 &&& (7 : Int32)) = (2 : Int32))) (hc4 : ¬ ((p1 &&& (7 : Int32)) = (3 : Int32))) (hc5 : ¬ ((p1 &&& (7 : Int32)) = (4 : Int32))) (hc6 : ¬ ((p1 &&& (7 : Int32)) = (5 : Int32))) (hc7 : ¬ ((p1 &&& (7 : Int32)) = (6 : Int32))) :
    MetFree l y1 (head1 (Jvm.Cond.code y1 method_3_code 7 (some (.array .byte)) :: ws) ({ frames := 0, cells := 1, slots := 7, locals := 0 } : Room)) (fun a U => a = #[(.int p1), (.int p2)] ∧ Z.Warmed39 U.vm ∧ U.heap = h0) (fun _ _ _ _ _ => True) (fun _ U o U' => ∃ v L, o = .returned v ∧ Q38 Z w_XML_INVALID w_STATUS_UNAVAILABLE w_IMPORTED w_IMPORTED_WITH_WARNINGS p1 p2 h0 n0 v U'.heap L ∧ FrameEnd U o U' L ({ frames := 0, cells := 1, slots := 7, locals := 0 } : Room).cells ({ frames := 0, cells := 1, slots := 7, locals := 0 } : Room).slots) := by
  refine MetFree.of_bodySF (plainFor_of_name pn_1) hisR ?_
  intro p e s m args below meth c s₁ Bd hml0 hP hK
  obtain ⟨rfl, hZ, hh⟩ := hP
  have hx := Bd.exec
  have hby := Bd.bytes
  have hml : c.maxLocals = 7 := hml0
  have hown : s.vm.findClass "com/example/epcrtools/epcrtools/exchange/SubmissionStatusSizePinLaw" = some m.cls := findClass_of_methodNamed Bd.named
  have hnm := (name_of_methodNamed Bd.named Bd.method).1
  have X0 : Stand p l e ({ frames := 0, cells := 1, slots := 7, locals := 0 } : Room) s m #[(.int p1), (.int p2)] below meth c s₁ [] 0 0 := Stand.of_body Bd
  have e0 : s₁.heap = h0 := by rw [← hh, Bd.state]; rfl
  have N0 := Fr.nil n0
  have hp' := hp
  obtain ⟨S_w_XML_INVALID, E_w_XML_INVALID, S_w_STATUS_UNAVAILABLE, E_w_STATUS_UNAVAILABLE, S_w_IMPORTED, E_w_IMPORTED, S_w_IMPORTED_WITH_WARNINGS, E_w_IMPORTED_WITH_WARNINGS⟩ := hp'
  have pre0 : ∀ t, Steps p.tables e below (s₁.setTop (mkF m 0 #[.val (.int p1), .val (.int p2), .unset, .unset, .unset, .unset, .unset] [])) t → Steps p.tables e below (s₁.setTop (entryFrame m #[(.int p1), (.int p2)] 7)) t := fun t k => castTop (ef_2_0 m p1 p2) k
  obtain ⟨T1, h1, k1, X1, e1, E1, A1, EA1, st1⟩ := newPE X0 hx hZ (hw _ (List.mem_of_getElem? (i := 10) rfl)) e0 (g := (mkF m 164 #[.val (.int p1), .val (.int p2), .val (.int (p1 &&& (7 : Int32))), .val (.int (p2.toInt8.toInt32)), .val (.int (((p2.toUInt32 >>> ((8 : Int32) &&& 31).toUInt32).toInt32).toInt8.toInt32)), .val (.int (((p2.toUInt32 >>> ((16 : Int32) &&& 31).toUInt32).toInt32).toInt8.toInt32)), .val (.int (((p2.toUInt32 >>> ((24 : Int32) &&& 31).toUInt32).toInt32).toInt8.toInt32))] [(.int (7 : Int32))])) rfl (hb hby d2_164) rfl (by decide) (cap := 7) (by decide) (by decide) (by decide) (by decide) (ad := "[B") (by decide)
  obtain ⟨b1, g1⟩ : ∃ z, z = h0.size := ⟨_, rfl⟩
  rw [← g1] at A1 EA1 st1
  have g_b1 : n0 ≤ b1 := Nat.le_trans (own_sz O0) (Nat.le_of_eq g1.symm)
  have sz_b1 : h0.size ≤ b1 := Nat.le_trans (Keep.refl h0 []).1 (Nat.le_of_eq g1.symm)
  have O1 := O0.ext E1
  have K1 : Keep h0 h1 [] := (Keep.refl h0 []).ext E1
  have V_b1 : Arv Z h1 b1 k1 .byte (7 : Int32) [(.int (0 : Int32)), (.int (0 : Int32)), (.int (0 : Int32)), (.int (0 : Int32)), (.int (0 : Int32)), (.int (0 : Int32)), (.int (0 : Int32))] (.int (0 : Int32)) := (Arv.new A1 (by decide)).pad (pad_rep [] (.int (0 : Int32)) 7)
  obtain ⟨cl2, Ar2, q2, S2, Nn2, H2, G2⟩ := id V_b1
  have hin2 : ¬ ((0 : Int32) < 0 ∨ cl2.slots.size ≤ ((0 : Int32)).toNatClampNeg) := inb_of S2 ⟨by decide, by decide⟩
  obtain ⟨T3, h3, X3, e3, W3, st3⟩ := stB X1 hx hZ e1 Ar2 (j := (0 : Int32)) hin2 (g := (mkF m 170 #[.val (.int p1), .val (.int p2), .val (.int (p1 &&& (7 : Int32))), .val (.int (p2.toInt8.toInt32)), .val (.int (((p2.toUInt32 >>> ((8 : Int32) &&& 31).toUInt32).toInt32).toInt8.toInt32)), .val (.int (((p2.toUInt32 >>> ((16 : Int32) &&& 31).toUInt32).toInt32).toInt8.toInt32)), .val (.int (((p2.toUInt32 >>> ((24 : Int32) &&& 31).toUInt32).toInt32).toInt8.toInt32))] [(.int (((p2.toUInt32 >>> ((24 : Int32) &&& 31).toUInt32).toInt32).toInt8.toInt32)), (.int (0 : Int32)), (.ref b1), (.ref b1)])) rfl rfl (hb hby d2_170)
  have N3 := Fr.snoc X3 N0 g_b1
  have O3 := O1.wr W3 g_b1
  have K3 : Keep h0 h3 [] := K1.wr W3 (Or.inr sz_b1)
  have V_b1_3 : Arv Z h3 b1 k1 .byte (7 : Int32) [(.int (nar .byte (((p2.toUInt32 >>> ((24 : Int32) &&& 31).toUInt32).toInt32).toInt8.toInt32))), (.int (0 : Int32)), (.int (0 : Int32)), (.int (0 : Int32)), (.int (0 : Int32)), (.int (0 : Int32)), (.int (0 : Int32))] (.int (0 : Int32)) := Arv.set Ar2 q2 S2 Nn2 H2 G2 (fits_nar_byte _) W3 0 rfl (Nat.le_of_ble_eq_true rfl)
  obtain ⟨cl4, Ar4, q4, S4, Nn4, H4, G4⟩ := id V_b1_3
  have hin4 : ¬ ((1 : Int32) < 0 ∨ cl4.slots.size ≤ ((1 : Int32)).toNatClampNeg) := inb_of S4 ⟨by decide, by decide⟩
  obtain ⟨T5, h5, X5, e5, W5, st5⟩ := stB X3 hx hZ e3 Ar4 (j := (1 : Int32)) hin4 (g := (mkF m 175 #[.val (.int p1), .val (.int p2), .val (.int (p1 &&& (7 : Int32))), .val (.int (p2.toInt8.toInt32)), .val (.int (((p2.toUInt32 >>> ((8 : Int32) &&& 31).toUInt32).toInt32).toInt8.toInt32)), .val (.int (((p2.toUInt32 >>> ((16 : Int32) &&& 31).toUInt32).toInt32).toInt8.toInt32)), .val (.int (((p2.toUInt32 >>> ((24 : Int32) &&& 31).toUInt32).toInt32).toInt8.toInt32))] [(.int (((p2.toUInt32 >>> ((16 : Int32) &&& 31).toUInt32).toInt32).toInt8.toInt32)), (.int (1 : Int32)), (.ref b1), (.ref b1)])) rfl rfl (hb hby d2_175)
  have N5 := Fr.snoc X5 N3 g_b1
  have O5 := O3.wr W5 g_b1
  have K5 : Keep h0 h5 [] := K3.wr W5 (Or.inr sz_b1)
  have V_b1_5 : Arv Z h5 b1 k1 .byte (7 : Int32) [(.int (nar .byte (((p2.toUInt32 >>> ((24 : Int32) &&& 31).toUInt32).toInt32).toInt8.toInt32))), (.int (nar .byte (((p2.toUInt32 >>> ((16 : Int32) &&& 31).toUInt32).toInt32).toInt8.toInt32))), (.int (0 : Int32)), (.int (0 : Int32)), (.int (0 : Int32)), (.int (0 : Int32)), (.int (0 : Int32))] (.int (0 : Int32)) := Arv.set Ar4 q4 S4 Nn4 H4 G4 (fits_nar_byte _) W5 1 rfl (Nat.le_of_ble_eq_true rfl)
  obtain ⟨cl6, Ar6, q6, S6, Nn6, H6, G6⟩ := id V_b1_5
  have hin6 : ¬ ((2 : Int32) < 0 ∨ cl6.slots.size ≤ ((2 : Int32)).toNatClampNeg) := inb_of S6 ⟨by decide, by decide⟩
  obtain ⟨T7, h7, X7, e7, W7, st7⟩ := stB X5 hx hZ e5 Ar6 (j := (2 : Int32)) hin6 (g := (mkF m 180 #[.val (.int p1), .val (.int p2), .val (.int (p1 &&& (7 : Int32))), .val (.int (p2.toInt8.toInt32)), .val (.int (((p2.toUInt32 >>> ((8 : Int32) &&& 31).toUInt32).toInt32).toInt8.toInt32)), .val (.int (((p2.toUInt32 >>> ((16 : Int32) &&& 31).toUInt32).toInt32).toInt8.toInt32)), .val (.int (((p2.toUInt32 >>> ((24 : Int32) &&& 31).toUInt32).toInt32).toInt8.toInt32))] [(.int (((p2.toUInt32 >>> ((8 : Int32) &&& 31).toUInt32).toInt32).toInt8.toInt32)), (.int (2 : Int32)), (.ref b1), (.ref b1)])) rfl rfl (hb hby d2_180)
  have N7 := Fr.snoc X7 N5 g_b1
  have O7 := O5.wr W7 g_b1
  have K7 : Keep h0 h7 [] := K5.wr W7 (Or.inr sz_b1)
  have V_b1_7 : Arv Z h7 b1 k1 .byte (7 : Int32) [(.int (nar .byte (((p2.toUInt32 >>> ((24 : Int32) &&& 31).toUInt32).toInt32).toInt8.toInt32))), (.int (nar .byte (((p2.toUInt32 >>> ((16 : Int32) &&& 31).toUInt32).toInt32).toInt8.toInt32))), (.int (nar .byte (((p2.toUInt32 >>> ((8 : Int32) &&& 31).toUInt32).toInt32).toInt8.toInt32))), (.int (0 : Int32)), (.int (0 : Int32)), (.int (0 : Int32)), (.int (0 : Int32))] (.int (0 : Int32)) := Arv.set Ar6 q6 S6 Nn6 H6 G6 (fits_nar_byte _) W7 2 rfl (Nat.le_of_ble_eq_true rfl)
  obtain ⟨cl8, Ar8, q8, S8, Nn8, H8, G8⟩ := id V_b1_7
  have hin8 : ¬ ((3 : Int32) < 0 ∨ cl8.slots.size ≤ ((3 : Int32)).toNatClampNeg) := inb_of S8 ⟨by decide, by decide⟩
  obtain ⟨T9, h9, X9, e9, W9, st9⟩ := stB X7 hx hZ e7 Ar8 (j := (3 : Int32)) hin8 (g := (mkF m 184 #[.val (.int p1), .val (.int p2), .val (.int (p1 &&& (7 : Int32))), .val (.int (p2.toInt8.toInt32)), .val (.int (((p2.toUInt32 >>> ((8 : Int32) &&& 31).toUInt32).toInt32).toInt8.toInt32)), .val (.int (((p2.toUInt32 >>> ((16 : Int32) &&& 31).toUInt32).toInt32).toInt8.toInt32)), .val (.int (((p2.toUInt32 >>> ((24 : Int32) &&& 31).toUInt32).toInt32).toInt8.toInt32))] [(.int (p2.toInt8.toInt32)), (.int (3 : Int32)), (.ref b1), (.ref b1)])) rfl rfl (hb hby d2_184)
  have N9 := Fr.snoc X9 N7 g_b1
  have O9 := O7.wr W9 g_b1
  have K9 : Keep h0 h9 [] := K7.wr W9 (Or.inr sz_b1)
  have V_b1_9 : Arv Z h9 b1 k1 .byte (7 : Int32) [(.int (nar .byte (((p2.toUInt32 >>> ((24 : Int32) &&& 31).toUInt32).toInt32).toInt8.toInt32))), (.int (nar .byte (((p2.toUInt32 >>> ((16 : Int32) &&& 31).toUInt32).toInt32).toInt8.toInt32))), (.int (nar .byte (((p2.toUInt32 >>> ((8 : Int32) &&& 31).toUInt32).toInt32).toInt8.toInt32))), (.int (nar .byte (p2.toInt8.toInt32))), (.int (0 : Int32)), (.int (0 : Int32)), (.int (0 : Int32))] (.int (0 : Int32)) := Arv.set Ar8 q8 S8 Nn8 H8 G8 (fits_nar_byte _) W9 3 rfl (Nat.le_of_ble_eq_true rfl)
  obtain ⟨cl10, Ar10, q10, S10, Nn10, H10, G10⟩ := id V_b1_9
  have hin10 : ¬ ((4 : Int32) < 0 ∨ cl10.slots.size ≤ ((4 : Int32)).toNatClampNeg) := inb_of S10 ⟨by decide, by decide⟩
  obtain ⟨T11, h11, X11, e11, W11, st11⟩ := stB X9 hx hZ e9 Ar10 (j := (4 : Int32)) hin10 (g := (mkF m 188 #[.val (.int p1), .val (.int p2), .val (.int (p1 &&& (7 : Int32))), .val (.int (p2.toInt8.toInt32)), .val (.int (((p2.toUInt32 >>> ((8 : Int32) &&& 31).toUInt32).toInt32).toInt8.toInt32)), .val (.int (((p2.toUInt32 >>> ((16 : Int32) &&& 31).toUInt32).toInt32).toInt8.toInt32)), .val (.int (((p2.toUInt32 >>> ((24 : Int32) &&& 31).toUInt32).toInt32).toInt8.toInt32))] [(.int (0 : Int32)), (.int (4 : Int32)), (.ref b1), (.ref b1)])) rfl rfl (hb hby d2_188)
  have N11 := Fr.snoc X11 N9 g_b1
  have O11 := O9.wr W11 g_b1
  have K11 : Keep h0 h11 [] := K9.wr W11 (Or.inr sz_b1)
  have V_b1_11 : Arv Z h11 b1 k1 .byte (7 : Int32) [(.int (nar .byte (((p2.toUInt32 >>> ((24 : Int32) &&& 31).toUInt32).toInt32).toInt8.toInt32))), (.int (nar .byte (((p2.toUInt32 >>> ((16 : Int32) &&& 31).toUInt32).toInt32).toInt8.toInt32))), (.int (nar .byte (((p2.toUInt32 >>> ((8 : Int32) &&& 31).toUInt32).toInt32).toInt8.toInt32))), (.int (nar .byte (p2.toInt8.toInt32))), (.int (0 : Int32)), (.int (0 : Int32)), (.int (0 : Int32))] (.int (0 : Int32)) := Arv.set Ar10 q10 S10 Nn10 H10 G10 (fits_nar_byte _) W11 4 rfl (Nat.le_of_ble_eq_true rfl)
  obtain ⟨cl12, Ar12, q12, S12, Nn12, H12, G12⟩ := id V_b1_11
  have hin12 : ¬ ((5 : Int32) < 0 ∨ cl12.slots.size ≤ ((5 : Int32)).toNatClampNeg) := inb_of S12 ⟨by decide, by decide⟩
  obtain ⟨T13, h13, X13, e13, W13, st13⟩ := stB X11 hx hZ e11 Ar12 (j := (5 : Int32)) hin12 (g := (mkF m 192 #[.val (.int p1), .val (.int p2), .val (.int (p1 &&& (7 : Int32))), .val (.int (p2.toInt8.toInt32)), .val (.int (((p2.toUInt32 >>> ((8 : Int32) &&& 31).toUInt32).toInt32).toInt8.toInt32)), .val (.int (((p2.toUInt32 >>> ((16 : Int32) &&& 31).toUInt32).toInt32).toInt8.toInt32)), .val (.int (((p2.toUInt32 >>> ((24 : Int32) &&& 31).toUInt32).toInt32).toInt8.toInt32))] [(.int (0 : Int32)), (.int (5 : Int32)), (.ref b1), (.ref b1)])) rfl rfl (hb hby d2_192)
  have N13 := Fr.snoc X13 N11 g_b1
  have O13 := O11.wr W13 g_b1
  have K13 : Keep h0 h13 [] := K11.wr W13 (Or.inr sz_b1)
  have V_b1_13 : Arv Z h13 b1 k1 .byte (7 : Int32) [(.int (nar .byte (((p2.toUInt32 >>> ((24 : Int32) &&& 31).toUInt32).toInt32).toInt8.toInt32))), (.int (nar .byte (((p2.toUInt32 >>> ((16 : Int32) &&& 31).toUInt32).toInt32).toInt8.toInt32))), (.int (nar .byte (((p2.toUInt32 >>> ((8 : Int32) &&& 31).toUInt32).toInt32).toInt8.toInt32))), (.int (nar .byte (p2.toInt8.toInt32))), (.int (0 : Int32)), (.int (0 : Int32)), (.int (0 : Int32))] (.int (0 : Int32)) := Arv.set Ar12 q12 S12 Nn12 H12 G12 (fits_nar_byte _) W13 5 rfl (Nat.le_of_ble_eq_true rfl)
  obtain ⟨cl14, Ar14, q14, S14, Nn14, H14, G14⟩ := id V_b1_13
  have hin14 : ¬ ((6 : Int32) < 0 ∨ cl14.slots.size ≤ ((6 : Int32)).toNatClampNeg) := inb_of S14 ⟨by decide, by decide⟩
  obtain ⟨T15, h15, X15, e15, W15, st15⟩ := stB X13 hx hZ e13 Ar14 (j := (6 : Int32)) hin14 (g := (mkF m 197 #[.val (.int p1), .val (.int p2), .val (.int (p1 &&& (7 : Int32))), .val (.int (p2.toInt8.toInt32)), .val (.int (((p2.toUInt32 >>> ((8 : Int32) &&& 31).toUInt32).toInt32).toInt8.toInt32)), .val (.int (((p2.toUInt32 >>> ((16 : Int32) &&& 31).toUInt32).toInt32).toInt8.toInt32)), .val (.int (((p2.toUInt32 >>> ((24 : Int32) &&& 31).toUInt32).toInt32).toInt8.toInt32))] [(.int (p2.toInt8.toInt32)), (.int (6 : Int32)), (.ref b1), (.ref b1)])) rfl rfl (hb hby d2_197)
  have N15 := Fr.snoc X15 N13 g_b1
  have O15 := O13.wr W15 g_b1
  have K15 : Keep h0 h15 [] := K13.wr W15 (Or.inr sz_b1)
  have V_b1_15 : Arv Z h15 b1 k1 .byte (7 : Int32) [(.int (nar .byte (((p2.toUInt32 >>> ((24 : Int32) &&& 31).toUInt32).toInt32).toInt8.toInt32))), (.int (nar .byte (((p2.toUInt32 >>> ((16 : Int32) &&& 31).toUInt32).toInt32).toInt8.toInt32))), (.int (nar .byte (((p2.toUInt32 >>> ((8 : Int32) &&& 31).toUInt32).toInt32).toInt8.toInt32))), (.int (nar .byte (p2.toInt8.toInt32))), (.int (0 : Int32)), (.int (0 : Int32)), (.int (nar .byte (p2.toInt8.toInt32)))] (.int (0 : Int32)) := Arv.set Ar14 q14 S14 Nn14 H14 G14 (fits_nar_byte _) W15 6 rfl (Nat.le_of_ble_eq_true rfl)
  have f_16 := (((((((EA1.wr W3).wr W5).wr W7).wr W9).wr W11).wr W13).wr W15)
  obtain ⟨fs, hr, hrun, hended, hW, hsame⟩ := X15.leave (v := some (.ref b1)) (fun h => by rw [Bd.returns] at h; cases h)
  refine ⟨_, _, pre0 _ ?_, hrun, hended, _, _, rfl, ?_, ⟨_, rfl⟩, hW, hsame.mono (by decide) (by decide)⟩
  · show Sp p e below s₁ (mkF m 0 #[.val (.int p1), .val (.int p2), .unset, .unset, .unset, .unset, .unset] []) _
    refine XS.iloadN X0.here hx rfl (hb hby d2_0) rfl ?_
    show Sp p e below s₁ (mkF m 1 #[.val (.int p1), .val (.int p2), .unset, .unset, .unset, .unset, .unset] [(.int p1)]) _
    refine XS.bipush X0.here hx rfl (hb hby d2_1) ?_
    show Sp p e below s₁ (mkF m 3 #[.val (.int p1), .val (.int p2), .unset, .unset, .unset, .unset, .unset] [(.int (7 : Int32)), (.int p1)]) _
    refine XS.iand X0.here hx rfl (hb hby d2_3) rfl ?_
    show Sp p e below s₁ (mkF m 4 #[.val (.int p1), .val (.int p2), .unset, .unset, .unset, .unset, .unset] [(.int (p1 &&& (7 : Int32)))]) _
    refine XS.istoreN X0.here hx rfl (hb hby d2_4) rfl (l' := #[.val (.int p1), .val (.int p2), .val (.int (p1 &&& (7 : Int32))), .unset, .unset, .unset, .unset]) rfl ?_
    show Sp p e below s₁ (mkF m 5 #[.val (.int p1), .val (.int p2), .val (.int (p1 &&& (7 : Int32))), .unset, .unset, .unset, .unset] []) _
    refine XS.iloadN X0.here hx rfl (hb hby d2_5) rfl ?_
    show Sp p e below s₁ (mkF m 6 #[.val (.int p1), .val (.int p2), .val (.int (p1 &&& (7 : Int32))), .unset, .unset, .unset, .unset] [(.int p2)]) _
    refine XS.i2b X0.here hx rfl (hb hby d2_6) rfl ?_
    show Sp p e below s₁ (mkF m 7 #[.val (.int p1), .val (.int p2), .val (.int (p1 &&& (7 : Int32))), .unset, .unset, .unset, .unset] [(.int (p2.toInt8.toInt32))]) _
    refine XS.istoreN X0.here hx rfl (hb hby d2_7) rfl (l' := #[.val (.int p1), .val (.int p2), .val (.int (p1 &&& (7 : Int32))), .val (.int (p2.toInt8.toInt32)), .unset, .unset, .unset]) rfl ?_
    show Sp p e below s₁ (mkF m 8 #[.val (.int p1), .val (.int p2), .val (.int (p1 &&& (7 : Int32))), .val (.int (p2.toInt8.toInt32)), .unset, .unset, .unset] []) _
    refine XS.iloadN X0.here hx rfl (hb hby d2_8) rfl ?_
    show Sp p e below s₁ (mkF m 9 #[.val (.int p1), .val (.int p2), .val (.int (p1 &&& (7 : Int32))), .val (.int (p2.toInt8.toInt32)), .unset, .unset, .unset] [(.int p2)]) _
    refine XS.bipush X0.here hx rfl (hb hby d2_9) ?_
    show Sp p e below s₁ (mkF m 11 #[.val (.int p1), .val (.int p2), .val (.int (p1 &&& (7 : Int32))), .val (.int (p2.toInt8.toInt32)), .unset, .unset, .unset] [(.int (8 : Int32)), (.int p2)]) _
    refine XS.iushr X0.here hx rfl (hb hby d2_11) rfl ?_
    show Sp p e below s₁ (mkF m 12 #[.val (.int p1), .val (.int p2), .val (.int (p1 &&& (7 : Int32))), .val (.int (p2.toInt8.toInt32)), .unset, .unset, .unset] [(.int ((p2.toUInt32 >>> ((8 : Int32) &&& 31).toUInt32).toInt32))]) _
    refine XS.i2b X0.here hx rfl (hb hby d2_12) rfl ?_
    show Sp p e below s₁ (mkF m 13 #[.val (.int p1), .val (.int p2), .val (.int (p1 &&& (7 : Int32))), .val (.int (p2.toInt8.toInt32)), .unset, .unset, .unset] [(.int (((p2.toUInt32 >>> ((8 : Int32) &&& 31).toUInt32).toInt32).toInt8.toInt32))]) _
    refine XS.istore X0.here hx rfl (hb hby d2_13) rfl (l' := #[.val (.int p1), .val (.int p2), .val (.int (p1 &&& (7 : Int32))), .val (.int (p2.toInt8.toInt32)), .val (.int (((p2.toUInt32 >>> ((8 : Int32) &&& 31).toUInt32).toInt32).toInt8.toInt32)), .unset, .unset]) rfl ?_
    show Sp p e below s₁ (mkF m 15 #[.val (.int p1), .val (.int p2), .val (.int (p1 &&& (7 : Int32))), .val (.int (p2.toInt8.toInt32)), .val (.int (((p2.toUInt32 >>> ((8 : Int32) &&& 31).toUInt32).toInt32).toInt8.toInt32)), .unset, .unset] []) _
    refine XS.iloadN X0.here hx rfl (hb hby d2_15) rfl ?_
    show Sp p e below s₁ (mkF m 16 #[.val (.int p1), .val (.int p2), .val (.int (p1 &&& (7 : Int32))), .val (.int (p2.toInt8.toInt32)), .val (.int (((p2.toUInt32 >>> ((8 : Int32) &&& 31).toUInt32).toInt32).toInt8.toInt32)), .unset, .unset] [(.int p2)]) _
    refine XS.bipush X0.here hx rfl (hb hby d2_16) ?_
    show Sp p e below s₁ (mkF m 18 #[.val (.int p1), .val (.int p2), .val (.int (p1 &&& (7 : Int32))), .val (.int (p2.toInt8.toInt32)), .val (.int (((p2.toUInt32 >>> ((8 : Int32) &&& 31).toUInt32).toInt32).toInt8.toInt32)), .unset, .unset] [(.int (16 : Int32)), (.int p2)]) _
    refine XS.iushr X0.here hx rfl (hb hby d2_18) rfl ?_
    show Sp p e below s₁ (mkF m 19 #[.val (.int p1), .val (.int p2), .val (.int (p1 &&& (7 : Int32))), .val (.int (p2.toInt8.toInt32)), .val (.int (((p2.toUInt32 >>> ((8 : Int32) &&& 31).toUInt32).toInt32).toInt8.toInt32)), .unset, .unset] [(.int ((p2.toUInt32 >>> ((16 : Int32) &&& 31).toUInt32).toInt32))]) _
    refine XS.i2b X0.here hx rfl (hb hby d2_19) rfl ?_
    show Sp p e below s₁ (mkF m 20 #[.val (.int p1), .val (.int p2), .val (.int (p1 &&& (7 : Int32))), .val (.int (p2.toInt8.toInt32)), .val (.int (((p2.toUInt32 >>> ((8 : Int32) &&& 31).toUInt32).toInt32).toInt8.toInt32)), .unset, .unset] [(.int (((p2.toUInt32 >>> ((16 : Int32) &&& 31).toUInt32).toInt32).toInt8.toInt32))]) _
    refine XS.istore X0.here hx rfl (hb hby d2_20) rfl (l' := #[.val (.int p1), .val (.int p2), .val (.int (p1 &&& (7 : Int32))), .val (.int (p2.toInt8.toInt32)), .val (.int (((p2.toUInt32 >>> ((8 : Int32) &&& 31).toUInt32).toInt32).toInt8.toInt32)), .val (.int (((p2.toUInt32 >>> ((16 : Int32) &&& 31).toUInt32).toInt32).toInt8.toInt32)), .unset]) rfl ?_
    show Sp p e below s₁ (mkF m 22 #[.val (.int p1), .val (.int p2), .val (.int (p1 &&& (7 : Int32))), .val (.int (p2.toInt8.toInt32)), .val (.int (((p2.toUInt32 >>> ((8 : Int32) &&& 31).toUInt32).toInt32).toInt8.toInt32)), .val (.int (((p2.toUInt32 >>> ((16 : Int32) &&& 31).toUInt32).toInt32).toInt8.toInt32)), .unset] []) _
    refine XS.iloadN X0.here hx rfl (hb hby d2_22) rfl ?_
    show Sp p e below s₁ (mkF m 23 #[.val (.int p1), .val (.int p2), .val (.int (p1 &&& (7 : Int32))), .val (.int (p2.toInt8.toInt32)), .val (.int (((p2.toUInt32 >>> ((8 : Int32) &&& 31).toUInt32).toInt32).toInt8.toInt32)), .val (.int (((p2.toUInt32 >>> ((16 : Int32) &&& 31).toUInt32).toInt32).toInt8.toInt32)), .unset] [(.int p2)]) _
    refine XS.bipush X0.here hx rfl (hb hby d2_23) ?_
    show Sp p e below s₁ (mkF m 25 #[.val (.int p1), .val (.int p2), .val (.int (p1 &&& (7 : Int32))), .val (.int (p2.toInt8.toInt32)), .val (.int (((p2.toUInt32 >>> ((8 : Int32) &&& 31).toUInt32).toInt32).toInt8.toInt32)), .val (.int (((p2.toUInt32 >>> ((16 : Int32) &&& 31).toUInt32).toInt32).toInt8.toInt32)), .unset] [(.int (24 : Int32)), (.int p2)]) _
    refine XS.iushr X0.here hx rfl (hb hby d2_25) rfl ?_
    show Sp p e below s₁ (mkF m 26 #[.val (.int p1), .val (.int p2), .val (.int (p1 &&& (7 : Int32))), .val (.int (p2.toInt8.toInt32)), .val (.int (((p2.toUInt32 >>> ((8 : Int32) &&& 31).toUInt32).toInt32).toInt8.toInt32)), .val (.int (((p2.toUInt32 >>> ((16 : Int32) &&& 31).toUInt32).toInt32).toInt8.toInt32)), .unset] [(.int ((p2.toUInt32 >>> ((24 : Int32) &&& 31).toUInt32).toInt32))]) _
    refine XS.i2b X0.here hx rfl (hb hby d2_26) rfl ?_
    show Sp p e below s₁ (mkF m 27 #[.val (.int p1), .val (.int p2), .val (.int (p1 &&& (7 : Int32))), .val (.int (p2.toInt8.toInt32)), .val (.int (((p2.toUInt32 >>> ((8 : Int32) &&& 31).toUInt32).toInt32).toInt8.toInt32)), .val (.int (((p2.toUInt32 >>> ((16 : Int32) &&& 31).toUInt32).toInt32).toInt8.toInt32)), .unset] [(.int (((p2.toUInt32 >>> ((24 : Int32) &&& 31).toUInt32).toInt32).toInt8.toInt32))]) _
    refine XS.istore X0.here hx rfl (hb hby d2_27) rfl (l' := #[.val (.int p1), .val (.int p2), .val (.int (p1 &&& (7 : Int32))), .val (.int (p2.toInt8.toInt32)), .val (.int (((p2.toUInt32 >>> ((8 : Int32) &&& 31).toUInt32).toInt32).toInt8.toInt32)), .val (.int (((p2.toUInt32 >>> ((16 : Int32) &&& 31).toUInt32).toInt32).toInt8.toInt32)), .val (.int (((p2.toUInt32 >>> ((24 : Int32) &&& 31).toUInt32).toInt32).toInt8.toInt32))]) rfl ?_
    show Sp p e below s₁ (mkF m 29 #[.val (.int p1), .val (.int p2), .val (.int (p1 &&& (7 : Int32))), .val (.int (p2.toInt8.toInt32)), .val (.int (((p2.toUInt32 >>> ((8 : Int32) &&& 31).toUInt32).toInt32).toInt8.toInt32)), .val (.int (((p2.toUInt32 >>> ((16 : Int32) &&& 31).toUInt32).toInt32).toInt8.toInt32)), .val (.int (((p2.toUInt32 >>> ((24 : Int32) &&& 31).toUInt32).toInt32).toInt8.toInt32))] []) _
    refine XS.iloadN X0.here hx rfl (hb hby d2_29) rfl ?_
    show Sp p e below s₁ (mkF m 30 #[.val (.int p1), .val (.int p2), .val (.int (p1 &&& (7 : Int32))), .val (.int (p2.toInt8.toInt32)), .val (.int (((p2.toUInt32 >>> ((8 : Int32) &&& 31).toUInt32).toInt32).toInt8.toInt32)), .val (.int (((p2.toUInt32 >>> ((16 : Int32) &&& 31).toUInt32).toInt32).toInt8.toInt32)), .val (.int (((p2.toUInt32 >>> ((24 : Int32) &&& 31).toUInt32).toInt32).toInt8.toInt32))] [(.int (p1 &&& (7 : Int32)))]) _
    refine XS.ifYes X0.here hx rfl (pc0 := 30) (pc' := 37) rfl (hb hby d2_30) rfl ((if0 _ _).trans (feq hc1).2) (by decide) (by decide) ?_
    show Sp p e below s₁ (mkF m 37 #[.val (.int p1), .val (.int p2), .val (.int (p1 &&& (7 : Int32))), .val (.int (p2.toInt8.toInt32)), .val (.int (((p2.toUInt32 >>> ((8 : Int32) &&& 31).toUInt32).toInt32).toInt8.toInt32)), .val (.int (((p2.toUInt32 >>> ((16 : Int32) &&& 31).toUInt32).toInt32).toInt8.toInt32)), .val (.int (((p2.toUInt32 >>> ((24 : Int32) &&& 31).toUInt32).toInt32).toInt8.toInt32))] []) _
    refine XS.iloadN X0.here hx rfl (hb hby d2_37) rfl ?_
    show Sp p e below s₁ (mkF m 38 #[.val (.int p1), .val (.int p2), .val (.int (p1 &&& (7 : Int32))), .val (.int (p2.toInt8.toInt32)), .val (.int (((p2.toUInt32 >>> ((8 : Int32) &&& 31).toUInt32).toInt32).toInt8.toInt32)), .val (.int (((p2.toUInt32 >>> ((16 : Int32) &&& 31).toUInt32).toInt32).toInt8.toInt32)), .val (.int (((p2.toUInt32 >>> ((24 : Int32) &&& 31).toUInt32).toInt32).toInt8.toInt32))] [(.int (p1 &&& (7 : Int32)))]) _
    refine XS.iconst X0.here hx rfl (hb hby d2_38) ?_
    show Sp p e below s₁ (mkF m 39 #[.val (.int p1), .val (.int p2), .val (.int (p1 &&& (7 : Int32))), .val (.int (p2.toInt8.toInt32)), .val (.int (((p2.toUInt32 >>> ((8 : Int32) &&& 31).toUInt32).toInt32).toInt8.toInt32)), .val (.int (((p2.toUInt32 >>> ((16 : Int32) &&& 31).toUInt32).toInt32).toInt8.toInt32)), .val (.int (((p2.toUInt32 >>> ((24 : Int32) &&& 31).toUInt32).toInt32).toInt8.toInt32))] [(.int (1 : Int32)), (.int (p1 &&& (7 : Int32)))]) _
    refine XS.icmpYes X0.here hx rfl (pc0 := 39) (pc' := 50) rfl (hb hby d2_39) rfl (feq hc2).2 (by decide) (by decide) ?_
    show Sp p e below s₁ (mkF m 50 #[.val (.int p1), .val (.int p2), .val (.int (p1 &&& (7 : Int32))), .val (.int (p2.toInt8.toInt32)), .val (.int (((p2.toUInt32 >>> ((8 : Int32) &&& 31).toUInt32).toInt32).toInt8.toInt32)), .val (.int (((p2.toUInt32 >>> ((16 : Int32) &&& 31).toUInt32).toInt32).toInt8.toInt32)), .val (.int (((p2.toUInt32 >>> ((24 : Int32) &&& 31).toUInt32).toInt32).toInt8.toInt32))] []) _
    refine XS.iloadN X0.here hx rfl (hb hby d2_50) rfl ?_
    show Sp p e below s₁ (mkF m 51 #[.val (.int p1), .val (.int p2), .val (.int (p1 &&& (7 : Int32))), .val (.int (p2.toInt8.toInt32)), .val (.int (((p2.toUInt32 >>> ((8 : Int32) &&& 31).toUInt32).toInt32).toInt8.toInt32)), .val (.int (((p2.toUInt32 >>> ((16 : Int32) &&& 31).toUInt32).toInt32).toInt8.toInt32)), .val (.int (((p2.toUInt32 >>> ((24 : Int32) &&& 31).toUInt32).toInt32).toInt8.toInt32))] [(.int (p1 &&& (7 : Int32)))]) _
    refine XS.iconst X0.here hx rfl (hb hby d2_51) ?_
    show Sp p e below s₁ (mkF m 52 #[.val (.int p1), .val (.int p2), .val (.int (p1 &&& (7 : Int32))), .val (.int (p2.toInt8.toInt32)), .val (.int (((p2.toUInt32 >>> ((8 : Int32) &&& 31).toUInt32).toInt32).toInt8.toInt32)), .val (.int (((p2.toUInt32 >>> ((16 : Int32) &&& 31).toUInt32).toInt32).toInt8.toInt32)), .val (.int (((p2.toUInt32 >>> ((24 : Int32) &&& 31).toUInt32).toInt32).toInt8.toInt32))] [(.int (2 : Int32)), (.int (p1 &&& (7 : Int32)))]) _
    refine XS.icmpYes X0.here hx rfl (pc0 := 52) (pc' := 68) rfl (hb hby d2_52) rfl (feq hc3).2 (by decide) (by decide) ?_
    show Sp p e below s₁ (mkF m 68 #[.val (.int p1), .val (.int p2), .val (.int (p1 &&& (7 : Int32))), .val (.int (p2.toInt8.toInt32)), .val (.int (((p2.toUInt32 >>> ((8 : Int32) &&& 31).toUInt32).toInt32).toInt8.toInt32)), .val (.int (((p2.toUInt32 >>> ((16 : Int32) &&& 31).toUInt32).toInt32).toInt8.toInt32)), .val (.int (((p2.toUInt32 >>> ((24 : Int32) &&& 31).toUInt32).toInt32).toInt8.toInt32))] []) _
    refine XS.iloadN X0.here hx rfl (hb hby d2_68) rfl ?_
    show Sp p e below s₁ (mkF m 69 #[.val (.int p1), .val (.int p2), .val (.int (p1 &&& (7 : Int32))), .val (.int (p2.toInt8.toInt32)), .val (.int (((p2.toUInt32 >>> ((8 : Int32) &&& 31).toUInt32).toInt32).toInt8.toInt32)), .val (.int (((p2.toUInt32 >>> ((16 : Int32) &&& 31).toUInt32).toInt32).toInt8.toInt32)), .val (.int (((p2.toUInt32 >>> ((24 : Int32) &&& 31).toUInt32).toInt32).toInt8.toInt32))] [(.int (p1 &&& (7 : Int32)))]) _
    refine XS.iconst X0.here hx rfl (hb hby d2_69) ?_
    show Sp p e below s₁ (mkF m 70 #[.val (.int p1), .val (.int p2), .val (.int (p1 &&& (7 : Int32))), .val (.int (p2.toInt8.toInt32)), .val (.int (((p2.toUInt32 >>> ((8 : Int32) &&& 31).toUInt32).toInt32).toInt8.toInt32)), .val (.int (((p2.toUInt32 >>> ((16 : Int32) &&& 31).toUInt32).toInt32).toInt8.toInt32)), .val (.int (((p2.toUInt32 >>> ((24 : Int32) &&& 31).toUInt32).toInt32).toInt8.toInt32))] [(.int (3 : Int32)), (.int (p1 &&& (7 : Int32)))]) _
    refine XS.icmpYes X0.here hx rfl (pc0 := 70) (pc' := 91) rfl (hb hby d2_70) rfl (feq hc4).2 (by decide) (by decide) ?_
    show Sp p e below s₁ (mkF m 91 #[.val (.int p1), .val (.int p2), .val (.int (p1 &&& (7 : Int32))), .val (.int (p2.toInt8.toInt32)), .val (.int (((p2.toUInt32 >>> ((8 : Int32) &&& 31).toUInt32).toInt32).toInt8.toInt32)), .val (.int (((p2.toUInt32 >>> ((16 : Int32) &&& 31).toUInt32).toInt32).toInt8.toInt32)), .val (.int (((p2.toUInt32 >>> ((24 : Int32) &&& 31).toUInt32).toInt32).toInt8.toInt32))] []) _
    refine XS.iloadN X0.here hx rfl (hb hby d2_91) rfl ?_
    show Sp p e below s₁ (mkF m 92 #[.val (.int p1), .val (.int p2), .val (.int (p1 &&& (7 : Int32))), .val (.int (p2.toInt8.toInt32)), .val (.int (((p2.toUInt32 >>> ((8 : Int32) &&& 31).toUInt32).toInt32).toInt8.toInt32)), .val (.int (((p2.toUInt32 >>> ((16 : Int32) &&& 31).toUInt32).toInt32).toInt8.toInt32)), .val (.int (((p2.toUInt32 >>> ((24 : Int32) &&& 31).toUInt32).toInt32).toInt8.toInt32))] [(.int (p1 &&& (7 : Int32)))]) _
    refine XS.iconst X0.here hx rfl (hb hby d2_92) ?_
    show Sp p e below s₁ (mkF m 93 #[.val (.int p1), .val (.int p2), .val (.int (p1 &&& (7 : Int32))), .val (.int (p2.toInt8.toInt32)), .val (.int (((p2.toUInt32 >>> ((8 : Int32) &&& 31).toUInt32).toInt32).toInt8.toInt32)), .val (.int (((p2.toUInt32 >>> ((16 : Int32) &&& 31).toUInt32).toInt32).toInt8.toInt32)), .val (.int (((p2.toUInt32 >>> ((24 : Int32) &&& 31).toUInt32).toInt32).toInt8.toInt32))] [(.int (4 : Int32)), (.int (p1 &&& (7 : Int32)))]) _
    refine XS.icmpYes X0.here hx rfl (pc0 := 93) (pc' := 119) rfl (hb hby d2_93) rfl (feq hc5).2 (by decide) (by decide) ?_
    show Sp p e below s₁ (mkF m 119 #[.val (.int p1), .val (.int p2), .val (.int (p1 &&& (7 : Int32))), .val (.int (p2.toInt8.toInt32)), .val (.int (((p2.toUInt32 >>> ((8 : Int32) &&& 31).toUInt32).toInt32).toInt8.toInt32)), .val (.int (((p2.toUInt32 >>> ((16 : Int32) &&& 31).toUInt32).toInt32).toInt8.toInt32)), .val (.int (((p2.toUInt32 >>> ((24 : Int32) &&& 31).toUInt32).toInt32).toInt8.toInt32))] []) _
    refine XS.iloadN X0.here hx rfl (hb hby d2_119) rfl ?_
    show Sp p e below s₁ (mkF m 120 #[.val (.int p1), .val (.int p2), .val (.int (p1 &&& (7 : Int32))), .val (.int (p2.toInt8.toInt32)), .val (.int (((p2.toUInt32 >>> ((8 : Int32) &&& 31).toUInt32).toInt32).toInt8.toInt32)), .val (.int (((p2.toUInt32 >>> ((16 : Int32) &&& 31).toUInt32).toInt32).toInt8.toInt32)), .val (.int (((p2.toUInt32 >>> ((24 : Int32) &&& 31).toUInt32).toInt32).toInt8.toInt32))] [(.int (p1 &&& (7 : Int32)))]) _
    refine XS.iconst X0.here hx rfl (hb hby d2_120) ?_
    show Sp p e below s₁ (mkF m 121 #[.val (.int p1), .val (.int p2), .val (.int (p1 &&& (7 : Int32))), .val (.int (p2.toInt8.toInt32)), .val (.int (((p2.toUInt32 >>> ((8 : Int32) &&& 31).toUInt32).toInt32).toInt8.toInt32)), .val (.int (((p2.toUInt32 >>> ((16 : Int32) &&& 31).toUInt32).toInt32).toInt8.toInt32)), .val (.int (((p2.toUInt32 >>> ((24 : Int32) &&& 31).toUInt32).toInt32).toInt8.toInt32))] [(.int (5 : Int32)), (.int (p1 &&& (7 : Int32)))]) _
    refine XS.icmpYes X0.here hx rfl (pc0 := 121) (pc' := 150) rfl (hb hby d2_121) rfl (feq hc6).2 (by decide) (by decide) ?_
    show Sp p e below s₁ (mkF m 150 #[.val (.int p1), .val (.int p2), .val (.int (p1 &&& (7 : Int32))), .val (.int (p2.toInt8.toInt32)), .val (.int (((p2.toUInt32 >>> ((8 : Int32) &&& 31).toUInt32).toInt32).toInt8.toInt32)), .val (.int (((p2.toUInt32 >>> ((16 : Int32) &&& 31).toUInt32).toInt32).toInt8.toInt32)), .val (.int (((p2.toUInt32 >>> ((24 : Int32) &&& 31).toUInt32).toInt32).toInt8.toInt32))] []) _
    refine XS.iloadN X0.here hx rfl (hb hby d2_150) rfl ?_
    show Sp p e below s₁ (mkF m 151 #[.val (.int p1), .val (.int p2), .val (.int (p1 &&& (7 : Int32))), .val (.int (p2.toInt8.toInt32)), .val (.int (((p2.toUInt32 >>> ((8 : Int32) &&& 31).toUInt32).toInt32).toInt8.toInt32)), .val (.int (((p2.toUInt32 >>> ((16 : Int32) &&& 31).toUInt32).toInt32).toInt8.toInt32)), .val (.int (((p2.toUInt32 >>> ((24 : Int32) &&& 31).toUInt32).toInt32).toInt8.toInt32))] [(.int (p1 &&& (7 : Int32)))]) _
    refine XS.bipush X0.here hx rfl (hb hby d2_151) ?_
    show Sp p e below s₁ (mkF m 153 #[.val (.int p1), .val (.int p2), .val (.int (p1 &&& (7 : Int32))), .val (.int (p2.toInt8.toInt32)), .val (.int (((p2.toUInt32 >>> ((8 : Int32) &&& 31).toUInt32).toInt32).toInt8.toInt32)), .val (.int (((p2.toUInt32 >>> ((16 : Int32) &&& 31).toUInt32).toInt32).toInt8.toInt32)), .val (.int (((p2.toUInt32 >>> ((24 : Int32) &&& 31).toUInt32).toInt32).toInt8.toInt32))] [(.int (6 : Int32)), (.int (p1 &&& (7 : Int32)))]) _
    refine XS.icmpYes X0.here hx rfl (pc0 := 153) (pc' := 162) rfl (hb hby d2_153) rfl (feq hc7).2 (by decide) (by decide) ?_
    show Sp p e below s₁ (mkF m 162 #[.val (.int p1), .val (.int p2), .val (.int (p1 &&& (7 : Int32))), .val (.int (p2.toInt8.toInt32)), .val (.int (((p2.toUInt32 >>> ((8 : Int32) &&& 31).toUInt32).toInt32).toInt8.toInt32)), .val (.int (((p2.toUInt32 >>> ((16 : Int32) &&& 31).toUInt32).toInt32).toInt8.toInt32)), .val (.int (((p2.toUInt32 >>> ((24 : Int32) &&& 31).toUInt32).toInt32).toInt8.toInt32))] []) _
    refine XS.bipush X0.here hx rfl (hb hby d2_162) ?_
    show Sp p e below s₁ (mkF m 164 #[.val (.int p1), .val (.int p2), .val (.int (p1 &&& (7 : Int32))), .val (.int (p2.toInt8.toInt32)), .val (.int (((p2.toUInt32 >>> ((8 : Int32) &&& 31).toUInt32).toInt32).toInt8.toInt32)), .val (.int (((p2.toUInt32 >>> ((16 : Int32) &&& 31).toUInt32).toInt32).toInt8.toInt32)), .val (.int (((p2.toUInt32 >>> ((24 : Int32) &&& 31).toUInt32).toInt32).toInt8.toInt32))] [(.int (7 : Int32))]) _
    refine st1 _ ?_
    show Sp p e below T1 (mkF m 166 #[.val (.int p1), .val (.int p2), .val (.int (p1 &&& (7 : Int32))), .val (.int (p2.toInt8.toInt32)), .val (.int (((p2.toUInt32 >>> ((8 : Int32) &&& 31).toUInt32).toInt32).toInt8.toInt32)), .val (.int (((p2.toUInt32 >>> ((16 : Int32) &&& 31).toUInt32).toInt32).toInt8.toInt32)), .val (.int (((p2.toUInt32 >>> ((24 : Int32) &&& 31).toUInt32).toInt32).toInt8.toInt32))] [(.ref b1)]) _
    refine XS.dup X1.here hx rfl (hb hby d2_166) rfl rfl ?_
    show Sp p e below T1 (mkF m 167 #[.val (.int p1), .val (.int p2), .val (.int (p1 &&& (7 : Int32))), .val (.int (p2.toInt8.toInt32)), .val (.int (((p2.toUInt32 >>> ((8 : Int32) &&& 31).toUInt32).toInt32).toInt8.toInt32)), .val (.int (((p2.toUInt32 >>> ((16 : Int32) &&& 31).toUInt32).toInt32).toInt8.toInt32)), .val (.int (((p2.toUInt32 >>> ((24 : Int32) &&& 31).toUInt32).toInt32).toInt8.toInt32))] [(.ref b1), (.ref b1)]) _
    refine XS.iconst X1.here hx rfl (hb hby d2_167) ?_
    show Sp p e below T1 (mkF m 168 #[.val (.int p1), .val (.int p2), .val (.int (p1 &&& (7 : Int32))), .val (.int (p2.toInt8.toInt32)), .val (.int (((p2.toUInt32 >>> ((8 : Int32) &&& 31).toUInt32).toInt32).toInt8.toInt32)), .val (.int (((p2.toUInt32 >>> ((16 : Int32) &&& 31).toUInt32).toInt32).toInt8.toInt32)), .val (.int (((p2.toUInt32 >>> ((24 : Int32) &&& 31).toUInt32).toInt32).toInt8.toInt32))] [(.int (0 : Int32)), (.ref b1), (.ref b1)]) _
    refine XS.iload X1.here hx rfl (hb hby d2_168) rfl ?_
    show Sp p e below T1 (mkF m 170 #[.val (.int p1), .val (.int p2), .val (.int (p1 &&& (7 : Int32))), .val (.int (p2.toInt8.toInt32)), .val (.int (((p2.toUInt32 >>> ((8 : Int32) &&& 31).toUInt32).toInt32).toInt8.toInt32)), .val (.int (((p2.toUInt32 >>> ((16 : Int32) &&& 31).toUInt32).toInt32).toInt8.toInt32)), .val (.int (((p2.toUInt32 >>> ((24 : Int32) &&& 31).toUInt32).toInt32).toInt8.toInt32))] [(.int (((p2.toUInt32 >>> ((24 : Int32) &&& 31).toUInt32).toInt32).toInt8.toInt32)), (.int (0 : Int32)), (.ref b1), (.ref b1)]) _
    refine st3 _ ?_
    show Sp p e below T3 (mkF m 171 #[.val (.int p1), .val (.int p2), .val (.int (p1 &&& (7 : Int32))), .val (.int (p2.toInt8.toInt32)), .val (.int (((p2.toUInt32 >>> ((8 : Int32) &&& 31).toUInt32).toInt32).toInt8.toInt32)), .val (.int (((p2.toUInt32 >>> ((16 : Int32) &&& 31).toUInt32).toInt32).toInt8.toInt32)), .val (.int (((p2.toUInt32 >>> ((24 : Int32) &&& 31).toUInt32).toInt32).toInt8.toInt32))] [(.ref b1)]) _
    refine XS.dup X3.here hx rfl (hb hby d2_171) rfl rfl ?_
    show Sp p e below T3 (mkF m 172 #[.val (.int p1), .val (.int p2), .val (.int (p1 &&& (7 : Int32))), .val (.int (p2.toInt8.toInt32)), .val (.int (((p2.toUInt32 >>> ((8 : Int32) &&& 31).toUInt32).toInt32).toInt8.toInt32)), .val (.int (((p2.toUInt32 >>> ((16 : Int32) &&& 31).toUInt32).toInt32).toInt8.toInt32)), .val (.int (((p2.toUInt32 >>> ((24 : Int32) &&& 31).toUInt32).toInt32).toInt8.toInt32))] [(.ref b1), (.ref b1)]) _
    refine XS.iconst X3.here hx rfl (hb hby d2_172) ?_
    show Sp p e below T3 (mkF m 173 #[.val (.int p1), .val (.int p2), .val (.int (p1 &&& (7 : Int32))), .val (.int (p2.toInt8.toInt32)), .val (.int (((p2.toUInt32 >>> ((8 : Int32) &&& 31).toUInt32).toInt32).toInt8.toInt32)), .val (.int (((p2.toUInt32 >>> ((16 : Int32) &&& 31).toUInt32).toInt32).toInt8.toInt32)), .val (.int (((p2.toUInt32 >>> ((24 : Int32) &&& 31).toUInt32).toInt32).toInt8.toInt32))] [(.int (1 : Int32)), (.ref b1), (.ref b1)]) _
    refine XS.iload X3.here hx rfl (hb hby d2_173) rfl ?_
    show Sp p e below T3 (mkF m 175 #[.val (.int p1), .val (.int p2), .val (.int (p1 &&& (7 : Int32))), .val (.int (p2.toInt8.toInt32)), .val (.int (((p2.toUInt32 >>> ((8 : Int32) &&& 31).toUInt32).toInt32).toInt8.toInt32)), .val (.int (((p2.toUInt32 >>> ((16 : Int32) &&& 31).toUInt32).toInt32).toInt8.toInt32)), .val (.int (((p2.toUInt32 >>> ((24 : Int32) &&& 31).toUInt32).toInt32).toInt8.toInt32))] [(.int (((p2.toUInt32 >>> ((16 : Int32) &&& 31).toUInt32).toInt32).toInt8.toInt32)), (.int (1 : Int32)), (.ref b1), (.ref b1)]) _
    refine st5 _ ?_
    show Sp p e below T5 (mkF m 176 #[.val (.int p1), .val (.int p2), .val (.int (p1 &&& (7 : Int32))), .val (.int (p2.toInt8.toInt32)), .val (.int (((p2.toUInt32 >>> ((8 : Int32) &&& 31).toUInt32).toInt32).toInt8.toInt32)), .val (.int (((p2.toUInt32 >>> ((16 : Int32) &&& 31).toUInt32).toInt32).toInt8.toInt32)), .val (.int (((p2.toUInt32 >>> ((24 : Int32) &&& 31).toUInt32).toInt32).toInt8.toInt32))] [(.ref b1)]) _
    refine XS.dup X5.here hx rfl (hb hby d2_176) rfl rfl ?_
    show Sp p e below T5 (mkF m 177 #[.val (.int p1), .val (.int p2), .val (.int (p1 &&& (7 : Int32))), .val (.int (p2.toInt8.toInt32)), .val (.int (((p2.toUInt32 >>> ((8 : Int32) &&& 31).toUInt32).toInt32).toInt8.toInt32)), .val (.int (((p2.toUInt32 >>> ((16 : Int32) &&& 31).toUInt32).toInt32).toInt8.toInt32)), .val (.int (((p2.toUInt32 >>> ((24 : Int32) &&& 31).toUInt32).toInt32).toInt8.toInt32))] [(.ref b1), (.ref b1)]) _
    refine XS.iconst X5.here hx rfl (hb hby d2_177) ?_
    show Sp p e below T5 (mkF m 178 #[.val (.int p1), .val (.int p2), .val (.int (p1 &&& (7 : Int32))), .val (.int (p2.toInt8.toInt32)), .val (.int (((p2.toUInt32 >>> ((8 : Int32) &&& 31).toUInt32).toInt32).toInt8.toInt32)), .val (.int (((p2.toUInt32 >>> ((16 : Int32) &&& 31).toUInt32).toInt32).toInt8.toInt32)), .val (.int (((p2.toUInt32 >>> ((24 : Int32) &&& 31).toUInt32).toInt32).toInt8.toInt32))] [(.int (2 : Int32)), (.ref b1), (.ref b1)]) _
    refine XS.iload X5.here hx rfl (hb hby d2_178) rfl ?_
    show Sp p e below T5 (mkF m 180 #[.val (.int p1), .val (.int p2), .val (.int (p1 &&& (7 : Int32))), .val (.int (p2.toInt8.toInt32)), .val (.int (((p2.toUInt32 >>> ((8 : Int32) &&& 31).toUInt32).toInt32).toInt8.toInt32)), .val (.int (((p2.toUInt32 >>> ((16 : Int32) &&& 31).toUInt32).toInt32).toInt8.toInt32)), .val (.int (((p2.toUInt32 >>> ((24 : Int32) &&& 31).toUInt32).toInt32).toInt8.toInt32))] [(.int (((p2.toUInt32 >>> ((8 : Int32) &&& 31).toUInt32).toInt32).toInt8.toInt32)), (.int (2 : Int32)), (.ref b1), (.ref b1)]) _
    refine st7 _ ?_
    show Sp p e below T7 (mkF m 181 #[.val (.int p1), .val (.int p2), .val (.int (p1 &&& (7 : Int32))), .val (.int (p2.toInt8.toInt32)), .val (.int (((p2.toUInt32 >>> ((8 : Int32) &&& 31).toUInt32).toInt32).toInt8.toInt32)), .val (.int (((p2.toUInt32 >>> ((16 : Int32) &&& 31).toUInt32).toInt32).toInt8.toInt32)), .val (.int (((p2.toUInt32 >>> ((24 : Int32) &&& 31).toUInt32).toInt32).toInt8.toInt32))] [(.ref b1)]) _
    refine XS.dup X7.here hx rfl (hb hby d2_181) rfl rfl ?_
    show Sp p e below T7 (mkF m 182 #[.val (.int p1), .val (.int p2), .val (.int (p1 &&& (7 : Int32))), .val (.int (p2.toInt8.toInt32)), .val (.int (((p2.toUInt32 >>> ((8 : Int32) &&& 31).toUInt32).toInt32).toInt8.toInt32)), .val (.int (((p2.toUInt32 >>> ((16 : Int32) &&& 31).toUInt32).toInt32).toInt8.toInt32)), .val (.int (((p2.toUInt32 >>> ((24 : Int32) &&& 31).toUInt32).toInt32).toInt8.toInt32))] [(.ref b1), (.ref b1)]) _
    refine XS.iconst X7.here hx rfl (hb hby d2_182) ?_
    show Sp p e below T7 (mkF m 183 #[.val (.int p1), .val (.int p2), .val (.int (p1 &&& (7 : Int32))), .val (.int (p2.toInt8.toInt32)), .val (.int (((p2.toUInt32 >>> ((8 : Int32) &&& 31).toUInt32).toInt32).toInt8.toInt32)), .val (.int (((p2.toUInt32 >>> ((16 : Int32) &&& 31).toUInt32).toInt32).toInt8.toInt32)), .val (.int (((p2.toUInt32 >>> ((24 : Int32) &&& 31).toUInt32).toInt32).toInt8.toInt32))] [(.int (3 : Int32)), (.ref b1), (.ref b1)]) _
    refine XS.iloadN X7.here hx rfl (hb hby d2_183) rfl ?_
    show Sp p e below T7 (mkF m 184 #[.val (.int p1), .val (.int p2), .val (.int (p1 &&& (7 : Int32))), .val (.int (p2.toInt8.toInt32)), .val (.int (((p2.toUInt32 >>> ((8 : Int32) &&& 31).toUInt32).toInt32).toInt8.toInt32)), .val (.int (((p2.toUInt32 >>> ((16 : Int32) &&& 31).toUInt32).toInt32).toInt8.toInt32)), .val (.int (((p2.toUInt32 >>> ((24 : Int32) &&& 31).toUInt32).toInt32).toInt8.toInt32))] [(.int (p2.toInt8.toInt32)), (.int (3 : Int32)), (.ref b1), (.ref b1)]) _
    refine st9 _ ?_
    show Sp p e below T9 (mkF m 185 #[.val (.int p1), .val (.int p2), .val (.int (p1 &&& (7 : Int32))), .val (.int (p2.toInt8.toInt32)), .val (.int (((p2.toUInt32 >>> ((8 : Int32) &&& 31).toUInt32).toInt32).toInt8.toInt32)), .val (.int (((p2.toUInt32 >>> ((16 : Int32) &&& 31).toUInt32).toInt32).toInt8.toInt32)), .val (.int (((p2.toUInt32 >>> ((24 : Int32) &&& 31).toUInt32).toInt32).toInt8.toInt32))] [(.ref b1)]) _
    refine XS.dup X9.here hx rfl (hb hby d2_185) rfl rfl ?_
    show Sp p e below T9 (mkF m 186 #[.val (.int p1), .val (.int p2), .val (.int (p1 &&& (7 : Int32))), .val (.int (p2.toInt8.toInt32)), .val (.int (((p2.toUInt32 >>> ((8 : Int32) &&& 31).toUInt32).toInt32).toInt8.toInt32)), .val (.int (((p2.toUInt32 >>> ((16 : Int32) &&& 31).toUInt32).toInt32).toInt8.toInt32)), .val (.int (((p2.toUInt32 >>> ((24 : Int32) &&& 31).toUInt32).toInt32).toInt8.toInt32))] [(.ref b1), (.ref b1)]) _
    refine XS.iconst X9.here hx rfl (hb hby d2_186) ?_
    show Sp p e below T9 (mkF m 187 #[.val (.int p1), .val (.int p2), .val (.int (p1 &&& (7 : Int32))), .val (.int (p2.toInt8.toInt32)), .val (.int (((p2.toUInt32 >>> ((8 : Int32) &&& 31).toUInt32).toInt32).toInt8.toInt32)), .val (.int (((p2.toUInt32 >>> ((16 : Int32) &&& 31).toUInt32).toInt32).toInt8.toInt32)), .val (.int (((p2.toUInt32 >>> ((24 : Int32) &&& 31).toUInt32).toInt32).toInt8.toInt32))] [(.int (4 : Int32)), (.ref b1), (.ref b1)]) _
    refine XS.iconst X9.here hx rfl (hb hby d2_187) ?_
    show Sp p e below T9 (mkF m 188 #[.val (.int p1), .val (.int p2), .val (.int (p1 &&& (7 : Int32))), .val (.int (p2.toInt8.toInt32)), .val (.int (((p2.toUInt32 >>> ((8 : Int32) &&& 31).toUInt32).toInt32).toInt8.toInt32)), .val (.int (((p2.toUInt32 >>> ((16 : Int32) &&& 31).toUInt32).toInt32).toInt8.toInt32)), .val (.int (((p2.toUInt32 >>> ((24 : Int32) &&& 31).toUInt32).toInt32).toInt8.toInt32))] [(.int (0 : Int32)), (.int (4 : Int32)), (.ref b1), (.ref b1)]) _
    refine st11 _ ?_
    show Sp p e below T11 (mkF m 189 #[.val (.int p1), .val (.int p2), .val (.int (p1 &&& (7 : Int32))), .val (.int (p2.toInt8.toInt32)), .val (.int (((p2.toUInt32 >>> ((8 : Int32) &&& 31).toUInt32).toInt32).toInt8.toInt32)), .val (.int (((p2.toUInt32 >>> ((16 : Int32) &&& 31).toUInt32).toInt32).toInt8.toInt32)), .val (.int (((p2.toUInt32 >>> ((24 : Int32) &&& 31).toUInt32).toInt32).toInt8.toInt32))] [(.ref b1)]) _
    refine XS.dup X11.here hx rfl (hb hby d2_189) rfl rfl ?_
    show Sp p e below T11 (mkF m 190 #[.val (.int p1), .val (.int p2), .val (.int (p1 &&& (7 : Int32))), .val (.int (p2.toInt8.toInt32)), .val (.int (((p2.toUInt32 >>> ((8 : Int32) &&& 31).toUInt32).toInt32).toInt8.toInt32)), .val (.int (((p2.toUInt32 >>> ((16 : Int32) &&& 31).toUInt32).toInt32).toInt8.toInt32)), .val (.int (((p2.toUInt32 >>> ((24 : Int32) &&& 31).toUInt32).toInt32).toInt8.toInt32))] [(.ref b1), (.ref b1)]) _
    refine XS.iconst X11.here hx rfl (hb hby d2_190) ?_
    show Sp p e below T11 (mkF m 191 #[.val (.int p1), .val (.int p2), .val (.int (p1 &&& (7 : Int32))), .val (.int (p2.toInt8.toInt32)), .val (.int (((p2.toUInt32 >>> ((8 : Int32) &&& 31).toUInt32).toInt32).toInt8.toInt32)), .val (.int (((p2.toUInt32 >>> ((16 : Int32) &&& 31).toUInt32).toInt32).toInt8.toInt32)), .val (.int (((p2.toUInt32 >>> ((24 : Int32) &&& 31).toUInt32).toInt32).toInt8.toInt32))] [(.int (5 : Int32)), (.ref b1), (.ref b1)]) _
    refine XS.iconst X11.here hx rfl (hb hby d2_191) ?_
    show Sp p e below T11 (mkF m 192 #[.val (.int p1), .val (.int p2), .val (.int (p1 &&& (7 : Int32))), .val (.int (p2.toInt8.toInt32)), .val (.int (((p2.toUInt32 >>> ((8 : Int32) &&& 31).toUInt32).toInt32).toInt8.toInt32)), .val (.int (((p2.toUInt32 >>> ((16 : Int32) &&& 31).toUInt32).toInt32).toInt8.toInt32)), .val (.int (((p2.toUInt32 >>> ((24 : Int32) &&& 31).toUInt32).toInt32).toInt8.toInt32))] [(.int (0 : Int32)), (.int (5 : Int32)), (.ref b1), (.ref b1)]) _
    refine st13 _ ?_
    show Sp p e below T13 (mkF m 193 #[.val (.int p1), .val (.int p2), .val (.int (p1 &&& (7 : Int32))), .val (.int (p2.toInt8.toInt32)), .val (.int (((p2.toUInt32 >>> ((8 : Int32) &&& 31).toUInt32).toInt32).toInt8.toInt32)), .val (.int (((p2.toUInt32 >>> ((16 : Int32) &&& 31).toUInt32).toInt32).toInt8.toInt32)), .val (.int (((p2.toUInt32 >>> ((24 : Int32) &&& 31).toUInt32).toInt32).toInt8.toInt32))] [(.ref b1)]) _
    refine XS.dup X13.here hx rfl (hb hby d2_193) rfl rfl ?_
    show Sp p e below T13 (mkF m 194 #[.val (.int p1), .val (.int p2), .val (.int (p1 &&& (7 : Int32))), .val (.int (p2.toInt8.toInt32)), .val (.int (((p2.toUInt32 >>> ((8 : Int32) &&& 31).toUInt32).toInt32).toInt8.toInt32)), .val (.int (((p2.toUInt32 >>> ((16 : Int32) &&& 31).toUInt32).toInt32).toInt8.toInt32)), .val (.int (((p2.toUInt32 >>> ((24 : Int32) &&& 31).toUInt32).toInt32).toInt8.toInt32))] [(.ref b1), (.ref b1)]) _
    refine XS.bipush X13.here hx rfl (hb hby d2_194) ?_
    show Sp p e below T13 (mkF m 196 #[.val (.int p1), .val (.int p2), .val (.int (p1 &&& (7 : Int32))), .val (.int (p2.toInt8.toInt32)), .val (.int (((p2.toUInt32 >>> ((8 : Int32) &&& 31).toUInt32).toInt32).toInt8.toInt32)), .val (.int (((p2.toUInt32 >>> ((16 : Int32) &&& 31).toUInt32).toInt32).toInt8.toInt32)), .val (.int (((p2.toUInt32 >>> ((24 : Int32) &&& 31).toUInt32).toInt32).toInt8.toInt32))] [(.int (6 : Int32)), (.ref b1), (.ref b1)]) _
    refine XS.iloadN X13.here hx rfl (hb hby d2_196) rfl ?_
    show Sp p e below T13 (mkF m 197 #[.val (.int p1), .val (.int p2), .val (.int (p1 &&& (7 : Int32))), .val (.int (p2.toInt8.toInt32)), .val (.int (((p2.toUInt32 >>> ((8 : Int32) &&& 31).toUInt32).toInt32).toInt8.toInt32)), .val (.int (((p2.toUInt32 >>> ((16 : Int32) &&& 31).toUInt32).toInt32).toInt8.toInt32)), .val (.int (((p2.toUInt32 >>> ((24 : Int32) &&& 31).toUInt32).toInt32).toInt8.toInt32))] [(.int (p2.toInt8.toInt32)), (.int (6 : Int32)), (.ref b1), (.ref b1)]) _
    refine st15 _ ?_
    show Sp p e below T15 (mkF m 198 #[.val (.int p1), .val (.int p2), .val (.int (p1 &&& (7 : Int32))), .val (.int (p2.toInt8.toInt32)), .val (.int (((p2.toUInt32 >>> ((8 : Int32) &&& 31).toUInt32).toInt32).toInt8.toInt32)), .val (.int (((p2.toUInt32 >>> ((16 : Int32) &&& 31).toUInt32).toInt32).toInt8.toInt32)), .val (.int (((p2.toUInt32 >>> ((24 : Int32) &&& 31).toUInt32).toInt32).toInt8.toInt32))] [(.ref b1)]) _
    jvm_step X15.here [X15.here.top, hx, (hb hby d2_198), X15.method', Bd.returns, Value.isRef, FieldType.isReference]
    first | (intro acts; rw [hr _ acts rfl rfl rfl]) | rw [hr _ _ rfl rfl rfl]
    exact Steps.refl _
  · show Q38 Z w_XML_INVALID w_STATUS_UNAVAILABLE w_IMPORTED w_IMPORTED_WITH_WARNINGS p1 p2 h0 n0 _ T15.heap _
    rw [e15]
    exact ⟨b1, k1, rfl, N15, K15, sz_b1, f_16, V_b1_15⟩
def Q39 (Z : State) (w_XML_INVALID : Addr) (w_STATUS_UNAVAILABLE : Addr) (w_IMPORTED : Addr) (w_IMPORTED_WITH_WARNINGS : Addr) (a1 : Addr) (a2 : Addr) (a3 : Addr) (k_a3 : ClassId) (p5 : Int32) (p6 : Int32) (p7 : Int32) (p8 : Int32) (p9 : Int32) (h0 : Heap) (n0 : Nat) (v : Option Value) (h : Heap) (L : List Loc) : Prop := ∃ (b3 : Addr), v = none ∧ Fr n0 L ∧ Keep h0 h [a1] ∧ h0.size ≤ b3 ∧ Exa Z h a1 "com/example/epcrtools/epcrtools/exchange/SubmissionStatus" ∧ Fld Z h a1 "com/example/epcrtools/epcrtools/exchange/SubmissionStatus" "report" "[B" (.ref b3) ∧ Fld Z h a1 "com/example/epcrtools/epcrtools/exchange/SubmissionStatus" "statusCode" "Lcom/example/epcrtools/epcrtools/exchange/StatusCode;" (.ref a2) ∧ Exa Z h b3 "[B" ∧ Arv Z h b3 k_a3 .byte (7 : Int32) [(.int p5), (.int p6), (.int p7), (.int p8), (.int (0 : Int32)), (.int (0 : Int32)), (.int p9)] (.int (0 : Int32))
set_option maxRecDepth 65536 in
set_option maxHeartbeats 40000000 in
theorem rm39 (l : Launch) (Z : State) (a0 : Array Value) (hw : ∀ d ∈ tables_1, d.before a0 Z = true) (ws : List Jvm.Cond) (w_XML_INVALID w_STATUS_UNAVAILABLE w_IMPORTED w_IMPORTED_WITH_WARNINGS : Addr) (hp : Perm Z w_XML_INVALID w_STATUS_UNAVAILABLE w_IMPORTED w_IMPORTED_WITH_WARNINGS) (a1 : Addr) (a2 : Addr) (a3 : Addr) (k_a3 : ClassId) (p5 : Int32) (p6 : Int32) (p7 : Int32) (p8 : Int32) (p9 : Int32) (h0 : Heap) (n0 : Nat) (O0 : Old Z n0 h0) (E_a1 : Exa Z h0 a1 "com/example/epcrtools/epcrtools/exchange/SubmissionStatus") (F_statusCode_a1 : Fld Z h0 a1 "com/example/epcrtools/epcrtools/exchange/SubmissionStatus" "statusCode" "Lcom/example/epcrtools/epcrtools/exchange/StatusCode;" .null) (F_report_a1 : Fld Z h0 a1 "com/example/epcrtools/epcrtools/exchange/SubmissionStatus" "report" "[B" .null) (g_a1 : n0 ≤ a1) (V_a3 : Arv Z h0 a3 k_a3 .byte (7 : Int32) [(.int p5), (.int p6), (.int p7), (.int p8), (.int (0 : Int32)), (.int (0 : Int32)), (.int p9)] (.int (0 : Int32))) (ne_a1_a3 : a1 ≠ a3) (E_a3 : Exa Z h0 a3 "[B") :
    MetFree l y2 (head1 (Jvm.Cond.code y2 prog_13_method_1_code 3 none :: ws) ({ frames := 1, cells := 1, slots := 7, locals := 15 } : Room)) (fun a U => a = #[(.ref a1), (.ref a2), (.ref a3)] ∧ Z.Warmed39 U.vm ∧ U.heap = h0) (fun _ _ _ _ _ => True) (fun _ U o U' => ∃ v L, o = .returned v ∧ Q39 Z w_XML_INVALID w_STATUS_UNAVAILABLE w_IMPORTED w_IMPORTED_WITH_WARNINGS a1 a2 a3 k_a3 p5 p6 p7 p8 p9 h0 n0 v U'.heap L ∧ FrameEnd U o U' L ({ frames := 1, cells := 1, slots := 7, locals := 15 } : Room).cells ({ frames := 1, cells := 1, slots := 7, locals := 15 } : Room).slots) := by
  refine MetFree.of_bodySF (plainFor_of_name pn_3) hisR ?_
  intro p e s m args below meth c s₁ Bd hml0 hP hK
  obtain ⟨rfl, hZ, hh⟩ := hP
  have hx := Bd.exec
  have hby := Bd.bytes
  have hml : c.maxLocals = 3 := hml0
  have hown : s.vm.findClass "com/example/epcrtools/epcrtools/exchange/SubmissionStatus" = some m.cls := findClass_of_methodNamed Bd.named
  have hnm := (name_of_methodNamed Bd.named Bd.method).1
  have X0 : Stand p l e ({ frames := 1, cells := 1, slots := 7, locals := 15 } : Room) s m #[(.ref a1), (.ref a2), (.ref a3)] below meth c s₁ [] 0 0 := Stand.of_body Bd
  have e0 : s₁.heap = h0 := by rw [← hh, Bd.state]; rfl
  have N0 := Fr.nil n0
  have hp' := hp
  obtain ⟨S_w_XML_INVALID, E_w_XML_INVALID, S_w_STATUS_UNAVAILABLE, E_w_STATUS_UNAVAILABLE, S_w_IMPORTED, E_w_IMPORTED, S_w_IMPORTED_WITH_WARNINGS, E_w_IMPORTED_WITH_WARNINGS⟩ := hp'
  have pre0 : ∀ t, Steps p.tables e below (s₁.setTop (mkF m 0 #[.val (.ref a1), .val (.ref a2), .val (.ref a3)] [])) t → Steps p.tables e below (s₁.setTop (entryFrame m #[(.ref a1), (.ref a2), (.ref a3)] 3)) t := fun t k => castTop (ef_3_0 m a1 a2 a3) k
  obtain ⟨T1, X1, e1, st1⟩ := initO X0 hx hZ hown (hw _ (List.mem_of_getElem? (i := 17) rfl)) (hw _ (List.mem_of_getElem? (i := 18) rfl)) (hw _ (List.mem_of_getElem? (i := 19) rfl)) e0 (g := (mkF m 1 #[.val (.ref a1), .val (.ref a2), .val (.ref a3)] [(.ref a1)])) rfl (by rw [hml]; rfl) rfl (hb hby d3_1) (by decide) (W := 0) (by show 2 * 0 + _ ≤ _; exact Nat.le_of_eq rfl) (by decide)
  obtain ⟨T2, h2, X2, e2, W2, st2⟩ := putF X1 hx hZ hown (host := "") (Or.inl (hw _ (List.mem_of_getElem? (i := 20) rfl))) Via.refl e1 F_statusCode_a1 E_a1 (Or.inr ⟨(hw _ (List.mem_of_getElem? (i := 21) rfl)), rfl, hnm⟩) (hw _ (List.mem_of_getElem? (i := 12) rfl)) (ty := (.object "com/example/epcrtools/epcrtools/exchange/StatusCode")) (by decide) rfl rfl (g := (mkF m 6 #[.val (.ref a1), .val (.ref a2), .val (.ref a3)] [(.ref a2), (.ref a1)])) rfl rfl (hb hby d3_6)
  have N2 := Fr.snoc X2 N0 g_a1
  have O2 := O0.wr W2 g_a1
  have K2 : Keep h0 h2 [a1] := (Keep.refl h0 [a1]).wr W2 (Or.inl (List.mem_of_getElem? (i := 0) rfl))
  have Fw2 := F_statusCode_a1.same W2
  obtain ⟨T3, h3, X3, e3, E3, A3, EA3, st3⟩ := cloneH X2 hx hZ hown (hw _ (List.mem_of_getElem? (i := 22) rfl)) (hw _ (List.mem_of_getElem? (i := 23) rfl)) (hw _ (List.mem_of_getElem? (i := 27) rfl)) (hw _ (List.mem_of_getElem? (i := 25) rfl)) (hw _ (List.mem_of_getElem? (i := 26) rfl)) (hw _ (List.mem_of_getElem? (i := 28) rfl)) e2 (Arv.arh (V_a3.other W2 (Ne.symm ne_a1_a3))) (E_a3.wr W2) (g := (mkF m 11 #[.val (.ref a1), .val (.ref a2), .val (.ref a3)] [(.ref a3), (.ref a1)])) rfl (by rw [hml]; rfl) rfl (hb hby d3_11) (by decide) (W := 1) (cap := 7) (by show 2 * 0 + _ ≤ _; exact Nat.le_of_eq rfl) (by decide) (by decide) (by decide) (by decide)
  obtain ⟨b3, g3⟩ : ∃ z, z = h2.size := ⟨_, rfl⟩
  rw [← g3] at A3 EA3 st3
  have g_b3 : n0 ≤ b3 := Nat.le_trans (own_sz O2) (Nat.le_of_eq g3.symm)
  have sz_b3 : h0.size ≤ b3 := Nat.le_trans K2.1 (Nat.le_of_eq g3.symm)
  have O3 := O2.ext E3
  have K3 : Keep h0 h3 [a1] := K2.ext E3
  have V_b3 : Arv Z h3 b3 k_a3 .byte (7 : Int32) [(.int p5), (.int p6), (.int p7), (.int p8), (.int (0 : Int32)), (.int (0 : Int32)), (.int p9)] (.int (0 : Int32)) := A3
  obtain ⟨T4, X4, e4, st4⟩ := castY X3 hx hZ hown (hw _ (List.mem_of_getElem? (i := 29) rfl)) e3 (Ins.self EA3) (g := (mkF m 14 #[.val (.ref a1), .val (.ref a2), .val (.ref a3)] [(.ref b3), (.ref a1)])) rfl rfl (hb hby d3_14)
  obtain ⟨T5, h5, X5, e5, W5, st5⟩ := putF X4 hx hZ hown (host := "") (Or.inl (hw _ (List.mem_of_getElem? (i := 31) rfl))) Via.refl e4 ((F_report_a1.other W2 (Or.inr (sn0 hw))).ext E3) ((E_a1.wr W2).ext E3) (Or.inr ⟨(hw _ (List.mem_of_getElem? (i := 32) rfl)), rfl, hnm⟩) (hw _ (List.mem_of_getElem? (i := 12) rfl)) (ty := (.array .byte)) (by decide) rfl rfl (g := (mkF m 17 #[.val (.ref a1), .val (.ref a2), .val (.ref a3)] [(.ref b3), (.ref a1)])) rfl rfl (hb hby d3_17)
  have N5 := Fr.snoc X5 N2 g_a1
  have O5 := O3.wr W5 g_a1
  have K5 : Keep h0 h5 [a1] := K3.wr W5 (Or.inl (List.mem_of_getElem? (i := 0) rfl))
  have Fw5 := ((F_report_a1.other W2 (Or.inr (sn0 hw))).ext E3).same W5
  have f_6 := (V_b3.other W5 (Ne.symm (Nat.ne_of_lt (Nat.lt_of_lt_of_le E_a1.lt sz_b3))))
  obtain ⟨fs, hr, hrun, hended, hW, hsame⟩ := X5.leave (v := none) (fun _ => rfl)
  refine ⟨_, _, pre0 _ ?_, hrun, hended, _, _, rfl, ?_, ⟨_, rfl⟩, hW, hsame.mono (by decide) (by decide)⟩
  · show Sp p e below s₁ (mkF m 0 #[.val (.ref a1), .val (.ref a2), .val (.ref a3)] []) _
    refine XS.aloadN X0.here hx rfl (hb hby d3_0) rfl rfl ?_
    show Sp p e below s₁ (mkF m 1 #[.val (.ref a1), .val (.ref a2), .val (.ref a3)] [(.ref a1)]) _
    refine st1 _ ?_
    show Sp p e below T1 (mkF m 4 #[.val (.ref a1), .val (.ref a2), .val (.ref a3)] []) _
    refine XS.aloadN X1.here hx rfl (hb hby d3_4) rfl rfl ?_
    show Sp p e below T1 (mkF m 5 #[.val (.ref a1), .val (.ref a2), .val (.ref a3)] [(.ref a1)]) _
    refine XS.aloadN X1.here hx rfl (hb hby d3_5) rfl rfl ?_
    show Sp p e below T1 (mkF m 6 #[.val (.ref a1), .val (.ref a2), .val (.ref a3)] [(.ref a2), (.ref a1)]) _
    refine st2 _ ?_
    show Sp p e below T2 (mkF m 9 #[.val (.ref a1), .val (.ref a2), .val (.ref a3)] []) _
    refine XS.aloadN X2.here hx rfl (hb hby d3_9) rfl rfl ?_
    show Sp p e below T2 (mkF m 10 #[.val (.ref a1), .val (.ref a2), .val (.ref a3)] [(.ref a1)]) _
    refine XS.aloadN X2.here hx rfl (hb hby d3_10) rfl rfl ?_
    show Sp p e below T2 (mkF m 11 #[.val (.ref a1), .val (.ref a2), .val (.ref a3)] [(.ref a3), (.ref a1)]) _
    refine st3 _ ?_
    show Sp p e below T3 (mkF m 14 #[.val (.ref a1), .val (.ref a2), .val (.ref a3)] [(.ref b3), (.ref a1)]) _
    refine st4 _ ?_
    show Sp p e below T4 (mkF m 17 #[.val (.ref a1), .val (.ref a2), .val (.ref a3)] [(.ref b3), (.ref a1)]) _
    refine st5 _ ?_
    show Sp p e below T5 (mkF m 20 #[.val (.ref a1), .val (.ref a2), .val (.ref a3)] []) _
    exact X5.returnOut hx Bd.returns (hb hby d3_20) hr
  · show Q39 Z w_XML_INVALID w_STATUS_UNAVAILABLE w_IMPORTED w_IMPORTED_WITH_WARNINGS a1 a2 a3 k_a3 p5 p6 p7 p8 p9 h0 n0 _ T5.heap _
    rw [e5]
    exact ⟨b3, rfl, N5, K5, sz_b3, (((E_a1.wr W2).ext E3).wr W5), Fw5, ((Fw2.ext E3).other W5 (Or.inr (sn1 hw))), (EA3.wr W5), f_6⟩
def Q40 (Z : State) (w_XML_INVALID : Addr) (w_STATUS_UNAVAILABLE : Addr) (w_IMPORTED : Addr) (w_IMPORTED_WITH_WARNINGS : Addr) (a1 : Addr) (a2 : Addr) (k_a2 : ClassId) (p4 : Int32) (p5 : Int32) (p6 : Int32) (p7 : Int32) (p8 : Int32) (h0 : Heap) (n0 : Nat) (v : Option Value) (h : Heap) (L : List Loc) : Prop := v = some (.int (7 : Int32)) ∧ Fr n0 L ∧ h = h0
set_option maxRecDepth 65536 in
set_option maxHeartbeats 40000000 in
theorem rm40 (l : Launch) (Z : State) (a0 : Array Value) (hw : ∀ d ∈ tables_1, d.before a0 Z = true) (ws : List Jvm.Cond) (w_XML_INVALID w_STATUS_UNAVAILABLE w_IMPORTED w_IMPORTED_WITH_WARNINGS : Addr) (hp : Perm Z w_XML_INVALID w_STATUS_UNAVAILABLE w_IMPORTED w_IMPORTED_WITH_WARNINGS) (a1 : Addr) (a2 : Addr) (k_a2 : ClassId) (p4 : Int32) (p5 : Int32) (p6 : Int32) (p7 : Int32) (p8 : Int32) (h0 : Heap) (n0 : Nat) (O0 : Old Z n0 h0) (F_report_a1 : Fld Z h0 a1 "com/example/epcrtools/epcrtools/exchange/SubmissionStatus" "report" "[B" (.ref a2)) (V_a2 : Arv Z h0 a2 k_a2 .byte (7 : Int32) [(.int p4), (.int p5), (.int p6), (.int p7), (.int (0 : Int32)), (.int (0 : Int32)), (.int p8)] (.int (0 : Int32))) :
    MetFree l y3 (head1 (Jvm.Cond.code y3 prog_13_method_6_code 1 (some .int) :: ws) ({ frames := 0, cells := 0, slots := 0, locals := 0 } : Room)) (fun a U => a = #[(.ref a1)] ∧ Z.Warmed39 U.vm ∧ U.heap = h0) (fun _ _ _ _ _ => True) (fun _ U o U' => ∃ v L, o = .returned v ∧ Q40 Z w_XML_INVALID w_STATUS_UNAVAILABLE w_IMPORTED w_IMPORTED_WITH_WARNINGS a1 a2 k_a2 p4 p5 p6 p7 p8 h0 n0 v U'.heap L ∧ FrameEnd U o U' L ({ frames := 0, cells := 0, slots := 0, locals := 0 } : Room).cells ({ frames := 0, cells := 0, slots := 0, locals := 0 } : Room).slots) := by
  refine MetFree.of_bodySF (plainFor_of_name pn_3) hisR ?_
  intro p e s m args below meth c s₁ Bd hml0 hP hK
  obtain ⟨rfl, hZ, hh⟩ := hP
  have hx := Bd.exec
  have hby := Bd.bytes
  have hml : c.maxLocals = 1 := hml0
  have hown : s.vm.findClass "com/example/epcrtools/epcrtools/exchange/SubmissionStatus" = some m.cls := findClass_of_methodNamed Bd.named
  have hnm := (name_of_methodNamed Bd.named Bd.method).1
  have X0 : Stand p l e ({ frames := 0, cells := 0, slots := 0, locals := 0 } : Room) s m #[(.ref a1)] below meth c s₁ [] 0 0 := Stand.of_body Bd
  have e0 : s₁.heap = h0 := by rw [← hh, Bd.state]; rfl
  have N0 := Fr.nil n0
  have hp' := hp
  obtain ⟨S_w_XML_INVALID, E_w_XML_INVALID, S_w_STATUS_UNAVAILABLE, E_w_STATUS_UNAVAILABLE, S_w_IMPORTED, E_w_IMPORTED, S_w_IMPORTED_WITH_WARNINGS, E_w_IMPORTED_WITH_WARNINGS⟩ := hp'
  have pre0 : ∀ t, Steps p.tables e below (s₁.setTop (mkF m 0 #[.val (.ref a1)] [])) t → Steps p.tables e below (s₁.setTop (entryFrame m #[(.ref a1)] 1)) t := fun t k => castTop (ef_5_0 m a1) k
  obtain ⟨T1, X1, e1, st1⟩ := getF X0 hx hZ hown (host := "") (Or.inl (hw _ (List.mem_of_getElem? (i := 31) rfl))) Via.refl e0 F_report_a1 (g := (mkF m 1 #[.val (.ref a1)] [(.ref a1)])) rfl rfl (hb hby d5_1)
  obtain ⟨T2, X2, e2, st2⟩ := getF X1 hx hZ hown (host := "") (Or.inl (hw _ (List.mem_of_getElem? (i := 31) rfl))) Via.refl e1 F_report_a1 (g := (mkF m 12 #[.val (.ref a1)] [(.ref a1)])) rfl rfl (hb hby d5_12)
  obtain ⟨cl3, Ar3, -, S3, Nn3, -, -⟩ := id V_a2
  obtain ⟨fs, hr, hrun, hended, hW, hsame⟩ := X2.leave (v := some (.int (7 : Int32))) (fun h => by rw [Bd.returns] at h; cases h)
  refine ⟨_, _, pre0 _ ?_, hrun, hended, _, _, rfl, ?_, ⟨_, rfl⟩, hW, hsame.mono (by decide) (by decide)⟩
  · show Sp p e below s₁ (mkF m 0 #[.val (.ref a1)] []) _
    refine XS.aloadN X0.here hx rfl (hb hby d5_0) rfl rfl ?_
    show Sp p e below s₁ (mkF m 1 #[.val (.ref a1)] [(.ref a1)]) _
    refine st1 _ ?_
    show Sp p e below T1 (mkF m 4 #[.val (.ref a1)] [(.ref a2)]) _
    refine XS.ifnonnullYes X1.here hx rfl (pc0 := 4) (pc' := 11) rfl (hb hby d5_4) rfl (by decide) (by decide) ?_
    show Sp p e below T1 (mkF m 11 #[.val (.ref a1)] []) _
    refine XS.aloadN X1.here hx rfl (hb hby d5_11) rfl rfl ?_
    show Sp p e below T1 (mkF m 12 #[.val (.ref a1)] [(.ref a1)]) _
    refine st2 _ ?_
    show Sp p e below T2 (mkF m 15 #[.val (.ref a1)] [(.ref a2)]) _
    refine X2.arraylength hx (by rw [e2]; exact Ar3.1) (State.isArrayOf_alike hZ.alike Ar3.2.1) (g := (mkF m 15 #[.val (.ref a1)] [(.ref a2)])) rfl rfl (hb hby d5_15) _ ?_
    rw [len_of S3 Nn3]
    show Sp p e below T2 (mkF m 16 #[.val (.ref a1)] [(.int (7 : Int32))]) _
    exact retI X2 hx Bd.returns (hb hby d5_16) hr
  · show Q40 Z w_XML_INVALID w_STATUS_UNAVAILABLE w_IMPORTED w_IMPORTED_WITH_WARNINGS a1 a2 k_a2 p4 p5 p6 p7 p8 h0 n0 _ T2.heap _
    rw [e2]
    exact ⟨rfl, N0, rfl⟩
set_option maxRecDepth 65536 in
set_option maxHeartbeats 40000000 in
theorem rm41 (l : Launch) (Z : State) (a0 : Array Value) (hw : ∀ d ∈ tables_1, d.before a0 Z = true) (ws : List Jvm.Cond) (w_XML_INVALID w_STATUS_UNAVAILABLE w_IMPORTED w_IMPORTED_WITH_WARNINGS : Addr) (hp : Perm Z w_XML_INVALID w_STATUS_UNAVAILABLE w_IMPORTED w_IMPORTED_WITH_WARNINGS) (p0 : Int32) (p1 : Int32) (p2 : Int32) (p3 : Int32) (h0 : Heap) (n0 : Nat) (O0 : Old Z n0 h0) (hc1 : (p0 &&& (1 : Int32)) = (0 : Int32)) (hc2 : ¬ ((p1 &&& (7 : Int32)) = (0 : Int32))) (hc3 : ¬ ((p1 &&& (7 : Int32)) = (1 : Int32))) (hc4 : ¬ ((p1 &&& (7 : Int32)) = (2 : Int32))) (hc5 : ¬ ((p1 &&& (7 : Int32)) = (3 : Int32))) (hc6 : ¬ ((p1 &&& (7 : Int32)) = (4 : Int32))) (hc7 : ¬ ((p1 &&& (7 : Int32)) = (5 : Int32))) (hc8 : ¬ ((p1 &&& (7 : Int32)) = (6 : Int32))) :
    MetFree l x (head1 (Jvm.Cond.code x code maxLocals ret :: ws) room_1) (fun a U => a = #[(.int p0), (.int p1), (.int p2), (.int p3)] ∧ Z.Warmed39 U.vm ∧ U.heap = h0) (fun _ _ _ _ _ => True) (fun _ U o U' => ∃ v L, o = .returned v ∧ (v = some (.int (1 : Int32)) ∧ Fr n0 L) ∧ FrameEnd U o U' L 16 896) := by
  refine MetFree.of_bodySF (plainFor_of_name pn_1) hisR ?_
  intro p e s m args below meth c s₁ Bd hml0 hP hK
  obtain ⟨rfl, hZ, hh⟩ := hP
  have hx := Bd.exec
  have hby := Bd.bytes
  have hml : c.maxLocals = 8 := hml0
  have hown : s.vm.findClass "com/example/epcrtools/epcrtools/exchange/SubmissionStatusSizePinLaw" = some m.cls := findClass_of_methodNamed Bd.named
  have hnm := (name_of_methodNamed Bd.named Bd.method).1
  have X0 : Stand p l e room_1 s m #[(.int p0), (.int p1), (.int p2), (.int p3)] below meth c s₁ [] 0 0 := Stand.of_body Bd
  have e0 : s₁.heap = h0 := by rw [← hh, Bd.state]; rfl
  have N0 := Fr.nil n0
  have hp' := hp
  obtain ⟨S_w_XML_INVALID, E_w_XML_INVALID, S_w_STATUS_UNAVAILABLE, E_w_STATUS_UNAVAILABLE, S_w_IMPORTED, E_w_IMPORTED, S_w_IMPORTED_WITH_WARNINGS, E_w_IMPORTED_WITH_WARNINGS⟩ := hp'
  have pre0 : ∀ t, Steps p.tables e below (s₁.setTop (mkF m 0 #[.val (.int p0), .val (.int p1), .val (.int p2), .val (.int p3), .unset, .unset, .unset, .unset] [])) t → Steps p.tables e below (s₁.setTop (entryFrame m #[(.int p0), (.int p1), (.int p2), (.int p3)] maxLocals)) t := fun t k => castTop (ef_0_0 m p0 p1 p2 p3) k
  obtain ⟨_, _, ⟨T1, L1, k1, n1⟩, -, X1, ⟨Lc1, hQ1, l1, y1, z1⟩, st1⟩ := Jvm.LawKit.callS X0 hx (y := y0) hown (mvT hZ (hw _ (List.mem_of_getElem? (i := 0) rfl))) (mvT hZ (hw _ (List.mem_of_getElem? (i := 1) rfl))) (mvT hZ (hw _ (List.mem_of_getElem? (i := 2) rfl))) (mvT hZ (hw _ (List.mem_of_getElem? (i := 3) rfl))) (by decide) (backOf (W := 0) (rmM1 l Z a0 hw [] w_XML_INVALID w_STATUS_UNAVAILABLE w_IMPORTED w_IMPORTED_WITH_WARNINGS hp p3 h0 n0 O0) hZ (hw _ (List.mem_of_getElem? (i := 3) rfl)) (hw _ (List.mem_of_getElem? (i := 2) rfl)) (by decide) (by decide)) (g := (mkF m 1 #[.val (.int p0), .val (.int p1), .val (.int p2), .val (.int p3), .unset, .unset, .unset, .unset] [(.int p3)])) rfl (by rw [hml]; rfl) (argsL := [(.int p3)]) (rest := []) (lenOf pd_0 rfl) rfl (by show 2 * 0 + _ ≤ _; exact Nat.le_of_eq rfl) (hb hby at_1) (fun _ _ => ⟨rfl, e0, (by decide : 0 + 0 ≤ _), (by decide : 0 + 0 ≤ _)⟩)
  dsimp only [Pt.U, Pt.locs, Pt.cells, Pt.slots] at X1 l1 y1 z1 st1 hQ1
  subst l1 y1 z1
  obtain ⟨c1_0, rfl, Nq1, eq1, oq1_0⟩ := hQ1
  have N1 := Fr.app N0 Nq1
  obtain ⟨_, _, ⟨T2, L2, k2, n2⟩, -, X2, ⟨Lc2, hQ2, l2, y2, z2⟩, st2⟩ := Jvm.LawKit.callS X1 hx (y := y1) hown (mvT hZ (hw _ (List.mem_of_getElem? (i := 7) rfl))) (mvT hZ (hw _ (List.mem_of_getElem? (i := 8) rfl))) (mvT hZ (hw _ (List.mem_of_getElem? (i := 2) rfl))) (mvT hZ (hw _ (List.mem_of_getElem? (i := 9) rfl))) (by decide) (backOf (W := 0) (rm38 l Z a0 hw [] w_XML_INVALID w_STATUS_UNAVAILABLE w_IMPORTED w_IMPORTED_WITH_WARNINGS hp p1 p2 h0 n0 O0 hc2 hc3 hc4 hc5 hc6 hc7 hc8) hZ (hw _ (List.mem_of_getElem? (i := 9) rfl)) (hw _ (List.mem_of_getElem? (i := 2) rfl)) (by decide) (by decide)) (g := (mkF m 45 #[.val (.int p0), .val (.int p1), .val (.int p2), .val (.int p3), .val (.ref c1_0), .unset, .unset, .unset] [(.int p2), (.int p1)])) rfl (by rw [hml]; rfl) (argsL := [(.int p1), (.int p2)]) (rest := []) (lenOf pd_1 rfl) rfl (by show 2 * 0 + _ ≤ _; exact Nat.le_of_eq rfl) (hb hby at_45) (fun _ _ => ⟨rfl, eq1, (by decide : 0 + 1 ≤ _), (by decide : 0 + 7 ≤ _)⟩)
  dsimp only [Pt.U, Pt.locs, Pt.cells, Pt.slots] at X2 l2 y2 z2 st2 hQ2
  subst l2 y2 z2
  obtain ⟨b2_0, kc2_0, rfl, Nq2, Kq2, sq_b2_0, fq2_0, fq2_1⟩ := hQ2
  have N2 := Fr.app N1 Nq2
  have g_b2_0 : n0 ≤ b2_0 := Nat.le_trans (own_sz O0) sq_b2_0
  have sz_b2_0 : h0.size ≤ b2_0 := Nat.le_trans (Keep.refl h0 []).1 sq_b2_0
  have O2 := O0.keep Kq2 all0
  have K2 : Keep h0 T2.heap [] := (Keep.refl h0 []).trans Kq2 all0
  obtain ⟨cl3, Ar3, -, S3, Nn3, -, -⟩ := id fq2_1
  obtain ⟨T4, h4, X4, e4, E4, A4, D4, -, st4⟩ := newO X2 hx hZ hown (hw _ (List.mem_of_getElem? (i := 11) rfl)) (hw _ (List.mem_of_getElem? (i := 12) rfl)) (hw _ (List.mem_of_getElem? (i := 13) rfl)) rfl (g := (mkF m 55 #[.val (.int p0), .val (.int p1), .val (.int p2), .val (.int p3), .val (.ref c1_0), .val (.ref b2_0), .val (.int (7 : Int32)), .unset] [])) rfl (hb hby at_55) (by decide) (by decide)
  obtain ⟨b4, g4⟩ : ∃ z, z = T2.heap.size := ⟨_, rfl⟩
  rw [← g4] at A4 D4 st4
  have g_b4 : n0 ≤ b4 := Nat.le_trans (own_sz O2) (Nat.le_of_eq g4.symm)
  have sz_b4 : h0.size ≤ b4 := Nat.le_trans K2.1 (Nat.le_of_eq g4.symm)
  have O4 := O2.ext E4
  have K4 : Keep h0 h4 [] := K2.ext E4
  have F_statusCode_b4 : Fld Z h4 b4 "com/example/epcrtools/epcrtools/exchange/SubmissionStatus" "statusCode" "Lcom/example/epcrtools/epcrtools/exchange/StatusCode;" .null := D4 (Or.inr (hw _ (List.mem_of_getElem? (i := 21) rfl))) (ty := (.object "com/example/epcrtools/epcrtools/exchange/StatusCode")) (by decide)
  have F_report_b4 : Fld Z h4 b4 "com/example/epcrtools/epcrtools/exchange/SubmissionStatus" "report" "[B" .null := D4 (Or.inr (hw _ (List.mem_of_getElem? (i := 32) rfl))) (ty := (.array .byte)) (by decide)
  obtain ⟨_, _, ⟨T5, L5, k5, n5⟩, -, X5, ⟨Lc5, hQ5, l5, y5, z5⟩, st5⟩ := X4.specialBack hx (y := y2) rfl hown (mvT hZ (hw _ (List.mem_of_getElem? (i := 14) rfl))) (mvT hZ (hw _ (List.mem_of_getElem? (i := 15) rfl))) (mvT hZ (hw _ (List.mem_of_getElem? (i := 16) rfl))) (by decide) (backOf (W := 1) (rm39 l Z a0 hw [] w_XML_INVALID w_STATUS_UNAVAILABLE w_IMPORTED w_IMPORTED_WITH_WARNINGS hp b4 c1_0 b2_0 kc2_0 (nar .byte (((p2.toUInt32 >>> ((24 : Int32) &&& 31).toUInt32).toInt32).toInt8.toInt32)) (nar .byte (((p2.toUInt32 >>> ((16 : Int32) &&& 31).toUInt32).toInt32).toInt8.toInt32)) (nar .byte (((p2.toUInt32 >>> ((8 : Int32) &&& 31).toUInt32).toInt32).toInt8.toInt32)) (nar .byte (p2.toInt8.toInt32)) (nar .byte (p2.toInt8.toInt32)) h4 n0 O4 A4 F_statusCode_b4 F_report_b4 g_b4 (fq2_1.ext E4) (Ne.symm (Nat.ne_of_lt (Nat.lt_of_lt_of_le fq2_0.lt (Nat.le_of_eq g4.symm)))) (fq2_0.ext E4)) hZ (hw _ (List.mem_of_getElem? (i := 16) rfl)) (hw _ (List.mem_of_getElem? (i := 13) rfl)) (by decide) (by decide)) (g := (mkF m 63 #[.val (.int p0), .val (.int p1), .val (.int p2), .val (.int p3), .val (.ref c1_0), .val (.ref b2_0), .val (.int (7 : Int32)), .unset] [(.ref b2_0), (.ref c1_0), (.ref b4), (.ref b4)])) rfl (by rw [hml]; rfl) (Steps.refl _) (a := b4) (argsL := [(.ref c1_0), (.ref b2_0)]) (rest := [(.ref b4)]) (lenOf pd_2 rfl) rfl (by show 2 * 0 + _ ≤ _; exact Nat.le_of_eq rfl) (hb hby at_63) (fun _ _ => ⟨rfl, e4, (by decide : 2 + 1 ≤ _), (by decide : 9 + 7 ≤ _)⟩)
  dsimp only [Pt.U, Pt.locs, Pt.cells, Pt.slots] at X5 l5 y5 z5 st5 hQ5
  subst l5 y5 z5
  obtain ⟨b5_0, rfl, Nq5, Kq5, sq_b5_0, fq5_0, fq5_1, fq5_2, fq5_3, fq5_4⟩ := hQ5
  have N5 := Fr.app N2 Nq5
  have g_b5_0 : n0 ≤ b5_0 := Nat.le_trans (own_sz O4) sq_b5_0
  have sz_b5_0 : h0.size ≤ b5_0 := Nat.le_trans K4.1 sq_b5_0
  have O5 := O4.keep Kq5 (allS g_b4 all0)
  have K5 : Keep h0 T5.heap [] := K4.trans Kq5 (allS (Or.inr sz_b4) all0)
  have f_6 := ((fq2_1.ext E4).keep Kq5 (ninS (Nat.ne_of_lt (Nat.lt_of_lt_of_le fq2_0.lt (Nat.le_of_eq g4.symm))) nin0))
  obtain ⟨cl7, Ar7, -, S7, -, H7, -⟩ := id f_6
  have hin7 : ¬ ((0 : Int32) < 0 ∨ cl7.slots.size ≤ ((0 : Int32)).toNatClampNeg) := inb_of S7 ⟨by decide, by decide⟩
  have hat7 : cl7.slots[((0 : Int32)).toNatClampNeg]? = some (.int (nar .byte (((p2.toUInt32 >>> ((24 : Int32) &&& 31).toUInt32).toInt32).toInt8.toInt32))) := H7.at hin7 rfl
  obtain ⟨cl8, Ar8, q8, S8, Nn8, H8, G8⟩ := id f_6
  have hin8 : ¬ ((0 : Int32) < 0 ∨ cl8.slots.size ≤ ((0 : Int32)).toNatClampNeg) := inb_of S8 ⟨by decide, by decide⟩
  obtain ⟨T9, h9, X9, e9, W9, st9⟩ := stB X5 hx hZ rfl Ar8 (j := (0 : Int32)) hin8 (g := (mkF m 83 #[.val (.int p0), .val (.int p1), .val (.int p2), .val (.int p3), .val (.ref c1_0), .val (.ref b2_0), .val (.int (7 : Int32)), .val (.ref b4)] [(.int (((nar .byte (((p2.toUInt32 >>> ((24 : Int32) &&& 31).toUInt32).toInt32).toInt8.toInt32)) + (1 : Int32)).toInt8.toInt32)), (.int (0 : Int32)), (.ref b2_0)])) rfl rfl (hb hby at_83)
  have N9 := Fr.snoc X9 N5 g_b2_0
  have O9 := O5.wr W9 g_b2_0
  have K9 : Keep h0 h9 [] := K5.wr W9 (Or.inr sz_b2_0)
  have V_b2_0_9 : Arv Z h9 b2_0 kc2_0 .byte (7 : Int32) [(.int (nar .byte (((nar .byte (((p2.toUInt32 >>> ((24 : Int32) &&& 31).toUInt32).toInt32).toInt8.toInt32)) + (1 : Int32)).toInt8.toInt32))), (.int (nar .byte (((p2.toUInt32 >>> ((16 : Int32) &&& 31).toUInt32).toInt32).toInt8.toInt32))), (.int (nar .byte (((p2.toUInt32 >>> ((8 : Int32) &&& 31).toUInt32).toInt32).toInt8.toInt32))), (.int (nar .byte (p2.toInt8.toInt32))), (.int (0 : Int32)), (.int (0 : Int32)), (.int (nar .byte (p2.toInt8.toInt32)))] (.int (0 : Int32)) := Arv.set Ar8 q8 S8 Nn8 H8 G8 (fits_nar_byte _) W9 0 rfl (Nat.le_of_ble_eq_true rfl)
  have f_10 := (fq5_1.other W9 (Or.inl (Ne.symm (Nat.ne_of_lt (Nat.lt_of_lt_of_le fq2_0.lt (Nat.le_of_eq g4.symm))))))
  have f_11 := (fq5_4.other W9 (Ne.symm (Nat.ne_of_lt (Nat.lt_of_lt_of_le (fq2_0.ext E4).lt sq_b5_0))))
  obtain ⟨cq12, kq12, q12a, q12b, q12c⟩ := isOf hZ e9 (fq5_0.wr W9)
  obtain ⟨_, _, ⟨T12, L12, k12, n12⟩, -, X12, ⟨Lc12, hQ12, l12, y12, z12⟩, st12⟩ := X9.virtualBack hx (y := y3) (z := y3) hown (mvT hZ (hw _ (List.mem_of_getElem? (i := 33) rfl))) (mvT hZ (hw _ (List.mem_of_getElem? (i := 34) rfl))) (notFace_of_selects (args := #[]) (mvT hZ (hw _ (List.mem_of_getElem? (i := 36) rfl)))) (mvT hZ (hw _ (List.mem_of_getElem? (i := 36) rfl))) (mvT hZ (hw _ (List.mem_of_getElem? (i := 35) rfl))) (by decide) (backOf (W := 0) (rm40 l Z a0 hw [] w_XML_INVALID w_STATUS_UNAVAILABLE w_IMPORTED w_IMPORTED_WITH_WARNINGS hp b4 b5_0 kc2_0 (nar .byte (((p2.toUInt32 >>> ((24 : Int32) &&& 31).toUInt32).toInt32).toInt8.toInt32)) (nar .byte (((p2.toUInt32 >>> ((16 : Int32) &&& 31).toUInt32).toInt32).toInt8.toInt32)) (nar .byte (((p2.toUInt32 >>> ((8 : Int32) &&& 31).toUInt32).toInt32).toInt8.toInt32)) (nar .byte (p2.toInt8.toInt32)) (nar .byte (p2.toInt8.toInt32)) h9 n0 O9 f_10 f_11) hZ (hw _ (List.mem_of_getElem? (i := 37) rfl)) (hw _ (List.mem_of_getElem? (i := 13) rfl)) (by decide) (by decide)) q12a q12c (g := (mkF m 86 #[.val (.int p0), .val (.int p1), .val (.int p2), .val (.int p3), .val (.ref c1_0), .val (.ref b2_0), .val (.int (7 : Int32)), .val (.ref b4)] [(.ref b4)])) rfl (by rw [hml]; rfl) (Steps.refl _) (argsL := []) (rest := []) (lenOf pd_3 rfl) rfl (by show 2 * 0 + _ ≤ _; exact Nat.le_of_eq rfl) (hb hby at_86) (fun _ _ => ⟨rfl, e9, (by decide : 3 + 0 ≤ _), (by decide : 16 + 0 ≤ _)⟩)
  dsimp only [Pt.U, Pt.locs, Pt.cells, Pt.slots] at X12 l12 y12 z12 st12 hQ12
  subst l12 y12 z12
  obtain ⟨rfl, Nq12, eq12⟩ := hQ12
  have N12 := Fr.app N9 Nq12
  have f_13 := (fq5_2.other W9 (Or.inl (Ne.symm (Nat.ne_of_lt (Nat.lt_of_lt_of_le fq2_0.lt (Nat.le_of_eq g4.symm))))))
  obtain ⟨cq14, kq14, q14a, q14b, q14c⟩ := isOf hZ eq12 (fq5_0.wr W9)
  obtain ⟨_, _, ⟨T14, L14, k14, n14⟩, -, X14, ⟨Lc14, hQ14, l14, y14, z14⟩, st14⟩ := X12.virtualBack hx (y := y4) (z := y4) hown (mvT hZ (hw _ (List.mem_of_getElem? (i := 38) rfl))) (mvT hZ (hw _ (List.mem_of_getElem? (i := 39) rfl))) (notFace_of_selects (args := #[]) (mvT hZ (hw _ (List.mem_of_getElem? (i := 41) rfl)))) (mvT hZ (hw _ (List.mem_of_getElem? (i := 41) rfl))) (mvT hZ (hw _ (List.mem_of_getElem? (i := 40) rfl))) (by decide) (backOf (W := 0) (rm8 l Z a0 hw [] w_XML_INVALID w_STATUS_UNAVAILABLE w_IMPORTED w_IMPORTED_WITH_WARNINGS hp b4 c1_0 h9 n0 O9 f_13) hZ (hw _ (List.mem_of_getElem? (i := 42) rfl)) (hw _ (List.mem_of_getElem? (i := 13) rfl)) (by decide) (by decide)) q14a q14c (g := (mkF m 96 #[.val (.int p0), .val (.int p1), .val (.int p2), .val (.int p3), .val (.ref c1_0), .val (.ref b2_0), .val (.int (7 : Int32)), .val (.ref b4)] [(.ref b4)])) rfl (by rw [hml]; rfl) (Steps.refl _) (argsL := []) (rest := []) (lenOf pd_4 rfl) rfl (by show 2 * 0 + _ ≤ _; exact Nat.le_of_eq rfl) (hb hby at_96) (fun _ _ => ⟨rfl, eq12, (by decide : 3 + 0 ≤ _), (by decide : 16 + 0 ≤ _)⟩)
  dsimp only [Pt.U, Pt.locs, Pt.cells, Pt.slots] at X14 l14 y14 z14 st14 hQ14
  subst l14 y14 z14
  obtain ⟨rfl, Nq14, eq14⟩ := hQ14
  have N14 := Fr.app N12 Nq14
  obtain ⟨fs, hr, hrun, hended, hW, hsame⟩ := X14.leave (v := some (.int (1 : Int32))) (fun h => by rw [Bd.returns] at h; cases h)
  refine ⟨_, _, pre0 _ ?_, hrun, hended, _, _, rfl, ?_, ⟨_, rfl⟩, hW, hsame.mono (by decide) (by decide)⟩
  · show Sp p e below s₁ (mkF m 0 #[.val (.int p0), .val (.int p1), .val (.int p2), .val (.int p3), .unset, .unset, .unset, .unset] []) _
    refine XS.iloadN X0.here hx rfl (hb hby at_0) rfl ?_
    show Sp p e below s₁ (mkF m 1 #[.val (.int p0), .val (.int p1), .val (.int p2), .val (.int p3), .unset, .unset, .unset, .unset] [(.int p3)]) _
    refine st1 _ ?_
    show Sp p e below T1 (mkF m 4 #[.val (.int p0), .val (.int p1), .val (.int p2), .val (.int p3), .unset, .unset, .unset, .unset] [(.ref c1_0)]) _
    refine XS.astore X1.here hx rfl (hb hby at_4) rfl rfl (l' := #[.val (.int p0), .val (.int p1), .val (.int p2), .val (.int p3), .val (.ref c1_0), .unset, .unset, .unset]) rfl ?_
    show Sp p e below T1 (mkF m 6 #[.val (.int p0), .val (.int p1), .val (.int p2), .val (.int p3), .val (.ref c1_0), .unset, .unset, .unset] []) _
    refine XS.iloadN X1.here hx rfl (hb hby at_6) rfl ?_
    show Sp p e below T1 (mkF m 7 #[.val (.int p0), .val (.int p1), .val (.int p2), .val (.int p3), .val (.ref c1_0), .unset, .unset, .unset] [(.int p0)]) _
    refine XS.iconst X1.here hx rfl (hb hby at_7) ?_
    show Sp p e below T1 (mkF m 8 #[.val (.int p0), .val (.int p1), .val (.int p2), .val (.int p3), .val (.ref c1_0), .unset, .unset, .unset] [(.int (1 : Int32)), (.int p0)]) _
    refine XS.iand X1.here hx rfl (hb hby at_8) rfl ?_
    show Sp p e below T1 (mkF m 9 #[.val (.int p0), .val (.int p1), .val (.int p2), .val (.int p3), .val (.ref c1_0), .unset, .unset, .unset] [(.int (p0 &&& (1 : Int32)))]) _
    refine XS.ifYes X1.here hx rfl (pc0 := 9) (pc' := 43) rfl (hb hby at_9) rfl ((if0 _ _).trans (teq hc1).1) (by decide) (by decide) ?_
    show Sp p e below T1 (mkF m 43 #[.val (.int p0), .val (.int p1), .val (.int p2), .val (.int p3), .val (.ref c1_0), .unset, .unset, .unset] []) _
    refine XS.iloadN X1.here hx rfl (hb hby at_43) rfl ?_
    show Sp p e below T1 (mkF m 44 #[.val (.int p0), .val (.int p1), .val (.int p2), .val (.int p3), .val (.ref c1_0), .unset, .unset, .unset] [(.int p1)]) _
    refine XS.iloadN X1.here hx rfl (hb hby at_44) rfl ?_
    show Sp p e below T1 (mkF m 45 #[.val (.int p0), .val (.int p1), .val (.int p2), .val (.int p3), .val (.ref c1_0), .unset, .unset, .unset] [(.int p2), (.int p1)]) _
    refine st2 _ ?_
    show Sp p e below T2 (mkF m 48 #[.val (.int p0), .val (.int p1), .val (.int p2), .val (.int p3), .val (.ref c1_0), .unset, .unset, .unset] [(.ref b2_0)]) _
    refine XS.astore X2.here hx rfl (hb hby at_48) rfl rfl (l' := #[.val (.int p0), .val (.int p1), .val (.int p2), .val (.int p3), .val (.ref c1_0), .val (.ref b2_0), .unset, .unset]) rfl ?_
    show Sp p e below T2 (mkF m 50 #[.val (.int p0), .val (.int p1), .val (.int p2), .val (.int p3), .val (.ref c1_0), .val (.ref b2_0), .unset, .unset] []) _
    refine XS.aload X2.here hx rfl (hb hby at_50) rfl rfl ?_
    show Sp p e below T2 (mkF m 52 #[.val (.int p0), .val (.int p1), .val (.int p2), .val (.int p3), .val (.ref c1_0), .val (.ref b2_0), .unset, .unset] [(.ref b2_0)]) _
    refine X2.arraylength hx (by exact Ar3.1) (State.isArrayOf_alike hZ.alike Ar3.2.1) (g := (mkF m 52 #[.val (.int p0), .val (.int p1), .val (.int p2), .val (.int p3), .val (.ref c1_0), .val (.ref b2_0), .unset, .unset] [(.ref b2_0)])) rfl rfl (hb hby at_52) _ ?_
    rw [len_of S3 Nn3]
    show Sp p e below T2 (mkF m 53 #[.val (.int p0), .val (.int p1), .val (.int p2), .val (.int p3), .val (.ref c1_0), .val (.ref b2_0), .unset, .unset] [(.int (7 : Int32))]) _
    refine XS.istore X2.here hx rfl (hb hby at_53) rfl (l' := #[.val (.int p0), .val (.int p1), .val (.int p2), .val (.int p3), .val (.ref c1_0), .val (.ref b2_0), .val (.int (7 : Int32)), .unset]) rfl ?_
    show Sp p e below T2 (mkF m 55 #[.val (.int p0), .val (.int p1), .val (.int p2), .val (.int p3), .val (.ref c1_0), .val (.ref b2_0), .val (.int (7 : Int32)), .unset] []) _
    refine st4 _ ?_
    show Sp p e below T4 (mkF m 58 #[.val (.int p0), .val (.int p1), .val (.int p2), .val (.int p3), .val (.ref c1_0), .val (.ref b2_0), .val (.int (7 : Int32)), .unset] [(.ref b4)]) _
    refine XS.dup X4.here hx rfl (hb hby at_58) rfl rfl ?_
    show Sp p e below T4 (mkF m 59 #[.val (.int p0), .val (.int p1), .val (.int p2), .val (.int p3), .val (.ref c1_0), .val (.ref b2_0), .val (.int (7 : Int32)), .unset] [(.ref b4), (.ref b4)]) _
    refine XS.aload X4.here hx rfl (hb hby at_59) rfl rfl ?_
    show Sp p e below T4 (mkF m 61 #[.val (.int p0), .val (.int p1), .val (.int p2), .val (.int p3), .val (.ref c1_0), .val (.ref b2_0), .val (.int (7 : Int32)), .unset] [(.ref c1_0), (.ref b4), (.ref b4)]) _
    refine XS.aload X4.here hx rfl (hb hby at_61) rfl rfl ?_
    show Sp p e below T4 (mkF m 63 #[.val (.int p0), .val (.int p1), .val (.int p2), .val (.int p3), .val (.ref c1_0), .val (.ref b2_0), .val (.int (7 : Int32)), .unset] [(.ref b2_0), (.ref c1_0), (.ref b4), (.ref b4)]) _
    refine st5.trans ?_
    show Sp p e below T5 (mkF m 66 #[.val (.int p0), .val (.int p1), .val (.int p2), .val (.int p3), .val (.ref c1_0), .val (.ref b2_0), .val (.int (7 : Int32)), .unset] [(.ref b4)]) _
    refine XS.astore X5.here hx rfl (hb hby at_66) rfl rfl (l' := #[.val (.int p0), .val (.int p1), .val (.int p2), .val (.int p3), .val (.ref c1_0), .val (.ref b2_0), .val (.int (7 : Int32)), .val (.ref b4)]) rfl ?_
    show Sp p e below T5 (mkF m 68 #[.val (.int p0), .val (.int p1), .val (.int p2), .val (.int p3), .val (.ref c1_0), .val (.ref b2_0), .val (.int (7 : Int32)), .val (.ref b4)] []) _
    refine XS.iload X5.here hx rfl (hb hby at_68) rfl ?_
    show Sp p e below T5 (mkF m 70 #[.val (.int p0), .val (.int p1), .val (.int p2), .val (.int p3), .val (.ref c1_0), .val (.ref b2_0), .val (.int (7 : Int32)), .val (.ref b4)] [(.int (7 : Int32))]) _
    refine XS.ifNo X5.here hx rfl (hb hby at_70) rfl ((if0 _ _).trans (tlt (by decide : (0 : Int32) < (7 : Int32))).2.2.2) ?_
    show Sp p e below T5 (mkF m 73 #[.val (.int p0), .val (.int p1), .val (.int p2), .val (.int p3), .val (.ref c1_0), .val (.ref b2_0), .val (.int (7 : Int32)), .val (.ref b4)] []) _
    refine XS.aload X5.here hx rfl (hb hby at_73) rfl rfl ?_
    show Sp p e below T5 (mkF m 75 #[.val (.int p0), .val (.int p1), .val (.int p2), .val (.int p3), .val (.ref c1_0), .val (.ref b2_0), .val (.int (7 : Int32)), .val (.ref b4)] [(.ref b2_0)]) _
    refine XS.iconst X5.here hx rfl (hb hby at_75) ?_
    show Sp p e below T5 (mkF m 76 #[.val (.int p0), .val (.int p1), .val (.int p2), .val (.int p3), .val (.ref c1_0), .val (.ref b2_0), .val (.int (7 : Int32)), .val (.ref b4)] [(.int (0 : Int32)), (.ref b2_0)]) _
    refine XS.aload X5.here hx rfl (hb hby at_76) rfl rfl ?_
    show Sp p e below T5 (mkF m 78 #[.val (.int p0), .val (.int p1), .val (.int p2), .val (.int p3), .val (.ref c1_0), .val (.ref b2_0), .val (.int (7 : Int32)), .val (.ref b4)] [(.ref b2_0), (.int (0 : Int32)), (.ref b2_0)]) _
    refine XS.iconst X5.here hx rfl (hb hby at_78) ?_
    show Sp p e below T5 (mkF m 79 #[.val (.int p0), .val (.int p1), .val (.int p2), .val (.int p3), .val (.ref c1_0), .val (.ref b2_0), .val (.int (7 : Int32)), .val (.ref b4)] [(.int (0 : Int32)), (.ref b2_0), (.int (0 : Int32)), (.ref b2_0)]) _
    refine X5.baloadBytes hx (j := (0 : Int32)) (v := (.int (nar .byte (((p2.toUInt32 >>> ((24 : Int32) &&& 31).toUInt32).toInt32).toInt8.toInt32)))) (by exact Ar7.1) (State.isArrayOf_alike hZ.alike Ar7.2.1) Ar7.2.2 hin7 hat7 (g := (mkF m 79 #[.val (.int p0), .val (.int p1), .val (.int p2), .val (.int p3), .val (.ref c1_0), .val (.ref b2_0), .val (.int (7 : Int32)), .val (.ref b4)] [(.int (0 : Int32)), (.ref b2_0), (.int (0 : Int32)), (.ref b2_0)])) rfl rfl (hb hby at_79) _ ?_
    show Sp p e below T5 (mkF m 80 #[.val (.int p0), .val (.int p1), .val (.int p2), .val (.int p3), .val (.ref c1_0), .val (.ref b2_0), .val (.int (7 : Int32)), .val (.ref b4)] [(.int (nar .byte (((p2.toUInt32 >>> ((24 : Int32) &&& 31).toUInt32).toInt32).toInt8.toInt32))), (.int (0 : Int32)), (.ref b2_0)]) _
    refine XS.iconst X5.here hx rfl (hb hby at_80) ?_
    show Sp p e below T5 (mkF m 81 #[.val (.int p0), .val (.int p1), .val (.int p2), .val (.int p3), .val (.ref c1_0), .val (.ref b2_0), .val (.int (7 : Int32)), .val (.ref b4)] [(.int (1 : Int32)), (.int (nar .byte (((p2.toUInt32 >>> ((24 : Int32) &&& 31).toUInt32).toInt32).toInt8.toInt32))), (.int (0 : Int32)), (.ref b2_0)]) _
    refine XS.iadd X5.here hx rfl (hb hby at_81) rfl ?_
    show Sp p e below T5 (mkF m 82 #[.val (.int p0), .val (.int p1), .val (.int p2), .val (.int p3), .val (.ref c1_0), .val (.ref b2_0), .val (.int (7 : Int32)), .val (.ref b4)] [(.int ((nar .byte (((p2.toUInt32 >>> ((24 : Int32) &&& 31).toUInt32).toInt32).toInt8.toInt32)) + (1 : Int32))), (.int (0 : Int32)), (.ref b2_0)]) _
    refine XS.i2b X5.here hx rfl (hb hby at_82) rfl ?_
    show Sp p e below T5 (mkF m 83 #[.val (.int p0), .val (.int p1), .val (.int p2), .val (.int p3), .val (.ref c1_0), .val (.ref b2_0), .val (.int (7 : Int32)), .val (.ref b4)] [(.int (((nar .byte (((p2.toUInt32 >>> ((24 : Int32) &&& 31).toUInt32).toInt32).toInt8.toInt32)) + (1 : Int32)).toInt8.toInt32)), (.int (0 : Int32)), (.ref b2_0)]) _
    refine st9 _ ?_
    show Sp p e below T9 (mkF m 84 #[.val (.int p0), .val (.int p1), .val (.int p2), .val (.int p3), .val (.ref c1_0), .val (.ref b2_0), .val (.int (7 : Int32)), .val (.ref b4)] []) _
    refine XS.aload X9.here hx rfl (hb hby at_84) rfl rfl ?_
    show Sp p e below T9 (mkF m 86 #[.val (.int p0), .val (.int p1), .val (.int p2), .val (.int p3), .val (.ref c1_0), .val (.ref b2_0), .val (.int (7 : Int32)), .val (.ref b4)] [(.ref b4)]) _
    refine st12.trans ?_
    show Sp p e below T12 (mkF m 89 #[.val (.int p0), .val (.int p1), .val (.int p2), .val (.int p3), .val (.ref c1_0), .val (.ref b2_0), .val (.int (7 : Int32)), .val (.ref b4)] [(.int (7 : Int32))]) _
    refine XS.iload X12.here hx rfl (hb hby at_89) rfl ?_
    show Sp p e below T12 (mkF m 91 #[.val (.int p0), .val (.int p1), .val (.int p2), .val (.int p3), .val (.ref c1_0), .val (.ref b2_0), .val (.int (7 : Int32)), .val (.ref b4)] [(.int (7 : Int32)), (.int (7 : Int32))]) _
    refine XS.icmpNo X12.here hx rfl (hb hby at_91) rfl (teq (by decide : (7 : Int32) = (7 : Int32))).2 ?_
    show Sp p e below T12 (mkF m 94 #[.val (.int p0), .val (.int p1), .val (.int p2), .val (.int p3), .val (.ref c1_0), .val (.ref b2_0), .val (.int (7 : Int32)), .val (.ref b4)] []) _
    refine XS.aload X12.here hx rfl (hb hby at_94) rfl rfl ?_
    show Sp p e below T12 (mkF m 96 #[.val (.int p0), .val (.int p1), .val (.int p2), .val (.int p3), .val (.ref c1_0), .val (.ref b2_0), .val (.int (7 : Int32)), .val (.ref b4)] [(.ref b4)]) _
    refine st14.trans ?_
    show Sp p e below T14 (mkF m 99 #[.val (.int p0), .val (.int p1), .val (.int p2), .val (.int p3), .val (.ref c1_0), .val (.ref b2_0), .val (.int (7 : Int32)), .val (.ref b4)] [(.ref c1_0)]) _
    refine XS.aload X14.here hx rfl (hb hby at_99) rfl rfl ?_
    show Sp p e below T14 (mkF m 101 #[.val (.int p0), .val (.int p1), .val (.int p2), .val (.int p3), .val (.ref c1_0), .val (.ref b2_0), .val (.int (7 : Int32)), .val (.ref b4)] [(.ref c1_0), (.ref c1_0)]) _
    refine Jvm.RoadKit.acmp (g := (mkF m 101 #[.val (.int p0), .val (.int p1), .val (.int p2), .val (.int p3), .val (.ref c1_0), .val (.ref b2_0), .val (.int (7 : Int32)), .val (.ref b4)] [(.ref c1_0), (.ref c1_0)])) X14 hx rfl rfl rfl (pc0 := 101) (pc' := 104) (same := true) rfl (hb hby at_101) rfl (decide_eq_true rfl) (by decide) (by decide) ?_
    show Sp p e below T14 (mkF m 104 #[.val (.int p0), .val (.int p1), .val (.int p2), .val (.int p3), .val (.ref c1_0), .val (.ref b2_0), .val (.int (7 : Int32)), .val (.ref b4)] []) _
    refine XS.iconst X14.here hx rfl (hb hby at_104) ?_
    show Sp p e below T14 (mkF m 105 #[.val (.int p0), .val (.int p1), .val (.int p2), .val (.int p3), .val (.ref c1_0), .val (.ref b2_0), .val (.int (7 : Int32)), .val (.ref b4)] [(.int (1 : Int32))]) _
    refine XS.goto X14.here hx rfl (pc0 := 105) (pc' := 109) rfl (hb hby at_105) (by decide) (by decide) ?_
    show Sp p e below T14 (mkF m 109 #[.val (.int p0), .val (.int p1), .val (.int p2), .val (.int p3), .val (.ref c1_0), .val (.ref b2_0), .val (.int (7 : Int32)), .val (.ref b4)] [(.int (1 : Int32))]) _
    exact retN X14 hx (t := .boolean) Bd.returns (by simp) (hb hby at_109) hr
  · skip
    exact ⟨rfl, N14⟩
set_option maxRecDepth 65536 in
set_option maxHeartbeats 4000000 in
theorem rm_law (l : Launch) (Z : State) (a0 : Array Value) (hw : ∀ d ∈ tables_1, d.before a0 Z = true) (ws : List Jvm.Cond) (w_XML_INVALID w_STATUS_UNAVAILABLE w_IMPORTED w_IMPORTED_WITH_WARNINGS : Addr) (hp : Perm Z w_XML_INVALID w_STATUS_UNAVAILABLE w_IMPORTED w_IMPORTED_WITH_WARNINGS) (p0 : Int32) (p1 : Int32) (p2 : Int32) (p3 : Int32) (h0 : Heap) (n0 : Nat) (O0 : Old Z n0 h0) :
    MetFree l x (head1 (Jvm.Cond.code x code maxLocals ret :: ws) room_1) (fun a U => a = #[(.int p0), (.int p1), (.int p2), (.int p3)] ∧ Z.Warmed39 U.vm ∧ U.heap = h0) (fun _ _ _ _ _ => True) (fun _ U o U' => ∃ v L, o = .returned v ∧ (v = some (.int (1 : Int32)) ∧ Fr n0 L) ∧ FrameEnd U o U' L 16 896) := by
  by_cases d0 : (p0 &&& (1 : Int32)) = (0 : Int32)
  · skip
    by_cases d1 : (p1 &&& (7 : Int32)) = (0 : Int32)
    · skip
      exact rm9 l Z a0 hw ws w_XML_INVALID w_STATUS_UNAVAILABLE w_IMPORTED w_IMPORTED_WITH_WARNINGS hp p0 p1 p2 p3 h0 n0 O0 d0 d1
    · skip
      by_cases d2 : (p1 &&& (7 : Int32)) = (1 : Int32)
      · skip
        exact rm17 l Z a0 hw ws w_XML_INVALID w_STATUS_UNAVAILABLE w_IMPORTED w_IMPORTED_WITH_WARNINGS hp p0 p1 p2 p3 h0 n0 O0 d0 d1 d2
      · skip
        by_cases d3 : (p1 &&& (7 : Int32)) = (2 : Int32)
        · skip
          exact rm21 l Z a0 hw ws w_XML_INVALID w_STATUS_UNAVAILABLE w_IMPORTED w_IMPORTED_WITH_WARNINGS hp p0 p1 p2 p3 h0 n0 O0 d0 d1 d2 d3
        · skip
          by_cases d4 : (p1 &&& (7 : Int32)) = (3 : Int32)
          · skip
            exact rm25 l Z a0 hw ws w_XML_INVALID w_STATUS_UNAVAILABLE w_IMPORTED w_IMPORTED_WITH_WARNINGS hp p0 p1 p2 p3 h0 n0 O0 d0 d1 d2 d3 d4
          · skip
            by_cases d5 : (p1 &&& (7 : Int32)) = (4 : Int32)
            · skip
              exact rm29 l Z a0 hw ws w_XML_INVALID w_STATUS_UNAVAILABLE w_IMPORTED w_IMPORTED_WITH_WARNINGS hp p0 p1 p2 p3 h0 n0 O0 d0 d1 d2 d3 d4 d5
            · skip
              by_cases d6 : (p1 &&& (7 : Int32)) = (5 : Int32)
              · skip
                exact rm33 l Z a0 hw ws w_XML_INVALID w_STATUS_UNAVAILABLE w_IMPORTED w_IMPORTED_WITH_WARNINGS hp p0 p1 p2 p3 h0 n0 O0 d0 d1 d2 d3 d4 d5 d6
              · skip
                by_cases d7 : (p1 &&& (7 : Int32)) = (6 : Int32)
                · skip
                  exact rm37 l Z a0 hw ws w_XML_INVALID w_STATUS_UNAVAILABLE w_IMPORTED w_IMPORTED_WITH_WARNINGS hp p0 p1 p2 p3 h0 n0 O0 d0 d1 d2 d3 d4 d5 d6 d7
                · skip
                  exact rm41 l Z a0 hw ws w_XML_INVALID w_STATUS_UNAVAILABLE w_IMPORTED w_IMPORTED_WITH_WARNINGS hp p0 p1 p2 p3 h0 n0 O0 d0 d1 d2 d3 d4 d5 d6 d7
  · skip
    exact rm13 l Z a0 hw ws w_XML_INVALID w_STATUS_UNAVAILABLE w_IMPORTED w_IMPORTED_WITH_WARNINGS hp p0 p1 p2 p3 h0 n0 O0 d0
set_option maxRecDepth 65536 in
set_option maxHeartbeats 40000000 in
theorem comes_1 {Post : Tables → Env → Array Value → State → Outcome → State → Prop} (hpost : ∀ tb e args s v u, (limb_1_1.after args s (.returned v) u = true ∧ limb_1_2.after args s (.returned v) u = true ∧ True) → FrameEnd s (.returned v) u (Jvm.fieldLocs frame_1_writes args s ++ Jvm.arrayLocs frame_1_arrays args s ++ Jvm.staticLocs frame_1_statics s) 16 896 → Post tb e args s (.returned v) u) :
    ArmFor flags0 classFile x code maxLocals ret World_1 tables_1 room_1 Calls_1 rest_1 Pre_1 Post := by
  intro l hfl _ _ p e ha hc hk s m args below hf hA hF happ hP
  obtain ⟨hcalls, hrest, hpre⟩ := hP
  obtain ⟨-, -, -, hnamed, -, -, -, hat⟩ := (Spec.applies_iff hf).mp happ
  obtain ⟨hg, hn⟩ := and_e (Cond.before_iff.mp (show (Jvm.Cond.and given_1 narrow_1).before args s = true from hpre))
  obtain ⟨h1, hg⟩ := and_e hg
  obtain ⟨ga0, hg⟩ := and_e hg
  obtain ⟨ga1, hg⟩ := and_e hg
  obtain ⟨ga2, hg⟩ := and_e hg
  have ga3 := hg
  obtain ⟨w0, w1, w2, w3, rfl⟩ : ∃ w0 w1 w2 w3 : Value, args = #[w0, w1, w2, w3] := by
    have hs : args.size = 4 := by simpa [Cond.value, given_1] using h1
    obtain ⟨L⟩ := args
    match L, hs with
    | [w0, w1, w2, w3], _ => exact ⟨w0, w1, w2, w3, rfl⟩
  have hw := fun d (hd : d ∈ tables_1) => atoms_spec (ws := Jvm.Cond.code x code maxLocals ret :: tables_1) hat d (List.mem_cons_of_mem _ hd)
  have hfit : Fit s := fun {y c} hc i hi => by
    obtain ⟨ha, rfl⟩ := Array.getElem?_eq_some_iff.mp hc
    have q := List.all_eq_true.mp ((Array.all_eq_true_iff_forall_mem.mp hF) _ (Array.getElem_mem ha)) i (List.mem_range.mpr hi)
    simpa [Array.getElem?_eq_getElem hi] using q
  obtain ⟨i0, ei0⟩ := is_v ga0
  obtain rfl : w0 = (.int i0) := Option.some.inj ei0
  obtain ⟨i1, ei1⟩ := is_v ga1
  obtain rfl : w1 = (.int i1) := Option.some.inj ei1
  obtain ⟨i2, ei2⟩ := is_v ga2
  obtain rfl : w2 = (.int i2) := Option.some.inj ei2
  obtain ⟨i3, ei3⟩ := is_v ga3
  obtain rfl : w3 = (.int i3) := Option.some.inj ei3
  obtain ⟨nn0, hn⟩ := and_e hn
  obtain ⟨nn1, hn⟩ := and_e hn
  obtain ⟨nn2, hn⟩ := and_e hn
  have nn3 := hn
  obtain ⟨w_XML_INVALID, ev_w_XML_INVALID⟩ := exa_v nn0
  have E_w_XML_INVALID := Exa.start ev_w_XML_INVALID nn0
  have S_w_XML_INVALID := Sta.start ev_w_XML_INVALID (Or.inr ⟨(hw _ (List.mem_of_getElem? (i := 5) rfl)), (hw _ (List.mem_of_getElem? (i := 6) rfl))⟩)
  obtain ⟨w_STATUS_UNAVAILABLE, ev_w_STATUS_UNAVAILABLE⟩ := exa_v nn1
  have E_w_STATUS_UNAVAILABLE := Exa.start ev_w_STATUS_UNAVAILABLE nn1
  have S_w_STATUS_UNAVAILABLE := Sta.start ev_w_STATUS_UNAVAILABLE (Or.inr ⟨(hw _ (List.mem_of_getElem? (i := 5) rfl)), (hw _ (List.mem_of_getElem? (i := 44) rfl))⟩)
  obtain ⟨w_IMPORTED, ev_w_IMPORTED⟩ := exa_v nn2
  have E_w_IMPORTED := Exa.start ev_w_IMPORTED nn2
  have S_w_IMPORTED := Sta.start ev_w_IMPORTED (Or.inr ⟨(hw _ (List.mem_of_getElem? (i := 5) rfl)), (hw _ (List.mem_of_getElem? (i := 53) rfl))⟩)
  obtain ⟨w_IMPORTED_WITH_WARNINGS, ev_w_IMPORTED_WITH_WARNINGS⟩ := exa_v nn3
  have E_w_IMPORTED_WITH_WARNINGS := Exa.start ev_w_IMPORTED_WITH_WARNINGS nn3
  have S_w_IMPORTED_WITH_WARNINGS := Sta.start ev_w_IMPORTED_WITH_WARNINGS (Or.inr ⟨(hw _ (List.mem_of_getElem? (i := 5) rfl)), (hw _ (List.mem_of_getElem? (i := 55) rfl))⟩)
  obtain ⟨n, o, h1, h2, h3, _, L, rfl, ⟨rfl, N⟩, hq⟩ := rm_law l s _ hw tables_1 w_XML_INVALID w_STATUS_UNAVAILABLE w_IMPORTED w_IMPORTED_WITH_WARNINGS ⟨S_w_XML_INVALID, E_w_XML_INVALID, S_w_STATUS_UNAVAILABLE, E_w_STATUS_UNAVAILABLE, S_w_IMPORTED, E_w_IMPORTED, S_w_IMPORTED_WITH_WARNINGS, E_w_IMPORTED_WITH_WARNINGS⟩ i0 i1 i2 i3 s.heap s.heap.size (Old.start s) p e ha hc hk s m _ below hf ((Spec.applies_iff_loose hf).mp happ).1 ⟨rfl, State.Warmed39.refl s, rfl⟩ trivial
  refine ⟨n, _, h1, h2, h3, hpost _ _ _ _ _ _ ⟨Cond.after_iff.mpr rfl, Cond.after_iff.mpr (eq_i res_at (Term.int_eval (1)) rfl), trivial⟩ ⟨hq.1, hq.2.1, (hq.2.2.sift fun y hy => Or.inr (N y hy)).mono (by decide) (by decide)⟩⟩
theorem main_1_1 : Claimed_1_1 := comes_1 fun _ _ _ _ _ _ h hF => ⟨h.1, hF⟩
theorem main_1_2 : Claimed_1_2 := comes_1 fun _ _ _ _ _ _ h hF => ⟨h.2.1, hF⟩
end Jvm.Pilot.@@N@@
namespace Jvm.Pilot.@@N@@
open Jvm Jvm.ClassFile Sem Op Lib Jvm.Free Jvm.Stand Jvm.Pilot.@@N@@.Jvm.D
/-! MADE BY PROGRAM (witnessworld.py) out of the Statement's table words and the real class files: 13 classes; the members and pool entries that the words name. The judged class is class 1, her method 3. -/
namespace start1
open Jvm.ClassFile
def u (s : String) : CpInfo := .utf8 (stringToUtf16 s)
/-- a pool by its gaps: so many unusable entries, then the entry; so many at the end -/
def gap : Nat → List CpInfo → List CpInfo
  | 0, r => r
  | n + 1, r => .unusable :: gap n r
def poolList (es : List (Nat × CpInfo)) (last : Nat) : List CpInfo := es.foldr (fun e r => gap e.1 (e.2 :: r)) (gap last [])
def pool (es : List (Nat × CpInfo)) (last : Nat) : Array CpInfo := ⟨poolList es last⟩
def fileOf (pool : Array CpInfo) (this : Nat) (attrs : Array Attribute := #[]) (ms : Array MethodInfo := #[]) (fl : Nat := 33) (sup : Nat := 0) (ifs : Array Nat := #[]) (fds : Array FieldInfo := #[]) : ClassFile where
  minorVersion := 0
  majorVersion := 65
  constantPool := pool
  accessFlags := fl
  thisClass := this
  superClass := sup
  interfaces := ifs
  fields := fds
  methods := ms
  attributes := attrs
def plain (name : String) (sup : Option ClassId) : Class where
  name := name
  kind := .ordinary
  loader := none
  accessFlags := 33
  super := sup
  interfaces := #[]
  cf := none
  fields := #[]
  methods := #[]
  instanceTypes := #[]
  staticTypes := #[]
  resolved := #[]
  callSites := []
  init := .initialized
  statics := none
  mirror := none

def pool0 : Array CpInfo := pool [(5, u "<init>"), (0, u "()V"), (1, .class_ 10), (1, u "java/lang/Object"), (85, u "clone"), (0, u "()Ljava/lang/Object;")] 26

def k0c0 : Code := { maxStack := 0, maxLocals := 1, code := object_method_1_code, exceptionTable := #[], attributes := #[] }
def k0m0 : Method := { name := "<init>", desc := "()V", sig := { parameters := [], returnType := none }, accessFlags := 1, code := some k0c0 }
def k0m1 : Method := { name := "clone", desc := "()Ljava/lang/Object;", sig := { parameters := [], returnType := some (.object "java/lang/Object") }, accessFlags := 260, code := none }
/-- java/lang/Object -/
def k0 : Class := { plain "java/lang/Object" none with
  accessFlags := 33
  interfaces := #[]
  cf := some (fileOf pool0 8 #[] #[{ accessFlags := 1, nameIndex := 5, descriptorIndex := 6, attributes := #[] }, { accessFlags := 260, nameIndex := 96, descriptorIndex := 97, attributes := #[] }] 33 0 #[] #[])
  fields := #[]
  methods := #[k0m0, k0m1]
  instanceTypes := #[]
  staticTypes := #[]
  resolved := Array.replicate 124 none
  statics := none }

def pool1 : Array CpInfo := pool [(2, .class_ 4), (1, u "java/lang/Object"), (0, u "<init>"), (0, u "()V"), (0, .fieldref 8 9), (0, .class_ 10), (0, .nameAndType 11 12), (0, u "com/example/epcrtools/epcrtools/exchange/StatusCode"), (0, u "IMPORTED"), (0, u "Lcom/example/epcrtools/epcrtools/exchange/StatusCode;"), (0, .fieldref 8 14), (0, .nameAndType 15 12), (0, u "XML_INVALID"), (0, .fieldref 8 17), (0, .nameAndType 18 12), (0, u "STATUS_UNAVAILABLE"), (0, .fieldref 8 20), (0, .nameAndType 21 12), (0, u "IMPORTED_WITH_WARNINGS"), (0, .methodref 23 24), (0, .class_ 25), (0, .nameAndType 26 27), (0, u "com/example/epcrtools/epcrtools/exchange/SubmissionStatusSizePinLaw"), (0, u "code"), (0, u "(I)Lcom/example/epcrtools/epcrtools/exchange/StatusCode;"), (0, .methodref 29 30), (0, .class_ 31), (0, .nameAndType 32 33), (0, u "com/example/epcrtools/epcrtools/exchange/SubmissionStatus"), (0, u "refused"), (0, u "(Lcom/example/epcrtools/epcrtools/exchange/StatusCode;)Lcom/example/epcrtools/epcrtools/exchange/SubmissionStatus;"), (0, .methodref 29 35), (0, .nameAndType 36 37), (0, u "size"), (0, u "()I"), (0, .methodref 29 39), (0, .nameAndType 40 41), (0, u "statusCode"), (0, u "()Lcom/example/epcrtools/epcrtools/exchange/StatusCode;"), (0, .methodref 23 43), (0, .nameAndType 44 45), (0, u "bytes"), (0, u "(II)[B"), (0, .methodref 29 47), (0, .nameAndType 5 48), (0, u "(Lcom/example/epcrtools/epcrtools/exchange/StatusCode;[B)V"), (3, u "law"), (0, u "(IIII)Z")] 4

def k1m0 : Method := { name := "<init>", desc := "()V", sig := { parameters := [], returnType := none }, accessFlags := 1, code := none }
def k1c1 : Code := { maxStack := 2, maxLocals := 2, code := method_2_code, exceptionTable := #[], attributes := #[] }
def k1m1 : Method := { name := "code", desc := "(I)Lcom/example/epcrtools/epcrtools/exchange/StatusCode;", sig := { parameters := [.int], returnType := some (.object "com/example/epcrtools/epcrtools/exchange/StatusCode") }, accessFlags := 10, code := some k1c1 }
def k1c2 : Code := { maxStack := 4, maxLocals := 7, code := method_3_code, exceptionTable := #[], attributes := #[] }
def k1m2 : Method := { name := "bytes", desc := "(II)[B", sig := { parameters := [.int, .int], returnType := some (.array .byte) }, accessFlags := 10, code := some k1c2 }
def k1c3 : Code := { maxStack := 4, maxLocals := 8, code := code, exceptionTable := #[], attributes := #[] }
def k1m3 : Method := { name := "law", desc := "(IIII)Z", sig := { parameters := [.int, .int, .int, .int], returnType := some .boolean }, accessFlags := 9, code := some k1c3 }
/-- com/example/epcrtools/epcrtools/exchange/SubmissionStatusSizePinLaw -/
def k1 : Class := { plain "com/example/epcrtools/epcrtools/exchange/SubmissionStatusSizePinLaw" (some 0) with
  accessFlags := 49
  interfaces := #[]
  cf := some (fileOf pool1 23 #[] #[{ accessFlags := 1, nameIndex := 5, descriptorIndex := 6, attributes := #[] }, { accessFlags := 10, nameIndex := 26, descriptorIndex := 27, attributes := #[] }, { accessFlags := 10, nameIndex := 44, descriptorIndex := 45, attributes := #[] }, { accessFlags := 9, nameIndex := 52, descriptorIndex := 53, attributes := #[] }] 49 2 #[] #[])
  fields := #[]
  methods := #[k1m0, k1m1, k1m2, k1m3]
  instanceTypes := #[]
  staticTypes := #[]
  resolved := Array.replicate 58 none
  statics := none }

def pool2 : Array CpInfo := pool [(1, .class_ 2), (0, u "java/lang/constant/Constable"), (0, .class_ 4), (0, u "java/lang/Object")] 6

/-- java/lang/constant/Constable -/
def k2 : Class := { plain "java/lang/constant/Constable" (some 0) with
  accessFlags := 1537
  interfaces := #[]
  cf := some (fileOf pool2 1 #[] #[] 1537 3 #[] #[])
  fields := #[]
  methods := #[]
  instanceTypes := #[]
  staticTypes := #[]
  resolved := Array.replicate 11 none
  statics := none }

def pool3 : Array CpInfo := pool [(1, .class_ 2), (0, u "java/lang/Comparable"), (0, .class_ 4), (0, u "java/lang/Object")] 7

/-- java/lang/Comparable -/
def k3 : Class := { plain "java/lang/Comparable" (some 0) with
  accessFlags := 1537
  interfaces := #[]
  cf := some (fileOf pool3 1 #[] #[] 1537 3 #[] #[])
  fields := #[]
  methods := #[]
  instanceTypes := #[]
  staticTypes := #[]
  resolved := Array.replicate 12 none
  statics := none }

def pool4 : Array CpInfo := pool [(1, .class_ 2), (0, u "java/io/Serializable"), (0, .class_ 4), (0, u "java/lang/Object")] 2

/-- java/io/Serializable -/
def k4 : Class := { plain "java/io/Serializable" (some 0) with
  accessFlags := 1537
  interfaces := #[]
  cf := some (fileOf pool4 1 #[] #[] 1537 3 #[] #[])
  fields := #[]
  methods := #[]
  instanceTypes := #[]
  staticTypes := #[]
  resolved := Array.replicate 7 none
  statics := none }

def pool5 : Array CpInfo := pool [(2, .class_ 4), (1, u "java/lang/Enum"), (0, u "name"), (0, u "Ljava/lang/String;"), (2, u "ordinal"), (0, u "I"), (1, .class_ 14), (1, u "java/lang/Object"), (4, u "hash"), (86, .class_ 108), (1, u "java/lang/Enum$EnumDesc"), (2, .class_ 112), (0, u "java/lang/constant/Constable"), (0, .class_ 114), (0, u "java/lang/Comparable"), (0, .class_ 116), (0, u "java/io/Serializable")] 87

/-- java/lang/Enum -/
def k5 : Class := { plain "java/lang/Enum" (some 0) with
  accessFlags := 1057
  interfaces := #[2, 3, 4]
  cf := some (fileOf pool5 2 #[.nestMembers #[106]] #[] 1057 12 #[111, 113, 115] #[{ accessFlags := 18, nameIndex := 5, descriptorIndex := 6, attributes := #[] }, { accessFlags := 18, nameIndex := 9, descriptorIndex := 10, attributes := #[] }, { accessFlags := 2, nameIndex := 19, descriptorIndex := 10, attributes := #[] }])
  fields := #[{ name := "name", type := (.object "java/lang/String"), accessFlags := 18, slot := 0, constantValue := 0 }, { name := "ordinal", type := .int, accessFlags := 18, slot := 1, constantValue := 0 }, { name := "hash", type := .int, accessFlags := 2, slot := 2, constantValue := 0 }]
  methods := #[]
  instanceTypes := #[(.object "java/lang/String"), .int, .int]
  staticTypes := #[]
  resolved := Array.replicate 204 none
  statics := none }

def pool6 : Array CpInfo := pool [(1, .class_ 2), (0, u "com/example/epcrtools/epcrtools/exchange/StatusCode"), (2, u "INVALID_CREDENTIALS"), (0, u "Lcom/example/epcrtools/epcrtools/exchange/StatusCode;"), (2, u "ORGANIZATION_DENIED"), (2, u "INVALID_PARAMETER"), (2, u "INVALID_COMBINATION"), (2, u "XML_INVALID"), (2, u "FATAL_RULE"), (2, u "ERROR_RULE"), (2, u "SERVER_ERROR"), (2, u "MESSAGE_TOO_LARGE"), (2, u "STATUS_UNAVAILABLE"), (2, u "IMPORTED"), (2, u "IMPORTED_WITH_WARNINGS"), (2, u "LIMIT_GIVEN"), (2, u "$VALUES"), (0, u "[Lcom/example/epcrtools/epcrtools/exchange/StatusCode;"), (6, .class_ 55), (1, u "java/lang/Enum"), (8, u "code"), (0, u "I")] 33

/-- com/example/epcrtools/epcrtools/exchange/StatusCode -/
def k6 : Class := { plain "com/example/epcrtools/epcrtools/exchange/StatusCode" (some 5) with
  accessFlags := 16432
  interfaces := #[]
  cf := some (fileOf pool6 1 #[] #[] 16432 53 #[] #[{ accessFlags := 16409, nameIndex := 5, descriptorIndex := 6, attributes := #[] }, { accessFlags := 16409, nameIndex := 9, descriptorIndex := 6, attributes := #[] }, { accessFlags := 16409, nameIndex := 12, descriptorIndex := 6, attributes := #[] }, { accessFlags := 16409, nameIndex := 15, descriptorIndex := 6, attributes := #[] }, { accessFlags := 16409, nameIndex := 18, descriptorIndex := 6, attributes := #[] }, { accessFlags := 16409, nameIndex := 21, descriptorIndex := 6, attributes := #[] }, { accessFlags := 16409, nameIndex := 24, descriptorIndex := 6, attributes := #[] }, { accessFlags := 16409, nameIndex := 27, descriptorIndex := 6, attributes := #[] }, { accessFlags := 16409, nameIndex := 30, descriptorIndex := 6, attributes := #[] }, { accessFlags := 16409, nameIndex := 33, descriptorIndex := 6, attributes := #[] }, { accessFlags := 16409, nameIndex := 36, descriptorIndex := 6, attributes := #[] }, { accessFlags := 16409, nameIndex := 39, descriptorIndex := 6, attributes := #[] }, { accessFlags := 16409, nameIndex := 42, descriptorIndex := 6, attributes := #[] }, { accessFlags := 18, nameIndex := 64, descriptorIndex := 65, attributes := #[] }, { accessFlags := 4122, nameIndex := 45, descriptorIndex := 46, attributes := #[] }])
  fields := #[{ name := "INVALID_CREDENTIALS", type := (.object "com/example/epcrtools/epcrtools/exchange/StatusCode"), accessFlags := 16409, slot := 0, constantValue := 0 }, { name := "ORGANIZATION_DENIED", type := (.object "com/example/epcrtools/epcrtools/exchange/StatusCode"), accessFlags := 16409, slot := 1, constantValue := 0 }, { name := "INVALID_PARAMETER", type := (.object "com/example/epcrtools/epcrtools/exchange/StatusCode"), accessFlags := 16409, slot := 2, constantValue := 0 }, { name := "INVALID_COMBINATION", type := (.object "com/example/epcrtools/epcrtools/exchange/StatusCode"), accessFlags := 16409, slot := 3, constantValue := 0 }, { name := "XML_INVALID", type := (.object "com/example/epcrtools/epcrtools/exchange/StatusCode"), accessFlags := 16409, slot := 4, constantValue := 0 }, { name := "FATAL_RULE", type := (.object "com/example/epcrtools/epcrtools/exchange/StatusCode"), accessFlags := 16409, slot := 5, constantValue := 0 }, { name := "ERROR_RULE", type := (.object "com/example/epcrtools/epcrtools/exchange/StatusCode"), accessFlags := 16409, slot := 6, constantValue := 0 }, { name := "SERVER_ERROR", type := (.object "com/example/epcrtools/epcrtools/exchange/StatusCode"), accessFlags := 16409, slot := 7, constantValue := 0 }, { name := "MESSAGE_TOO_LARGE", type := (.object "com/example/epcrtools/epcrtools/exchange/StatusCode"), accessFlags := 16409, slot := 8, constantValue := 0 }, { name := "STATUS_UNAVAILABLE", type := (.object "com/example/epcrtools/epcrtools/exchange/StatusCode"), accessFlags := 16409, slot := 9, constantValue := 0 }, { name := "IMPORTED", type := (.object "com/example/epcrtools/epcrtools/exchange/StatusCode"), accessFlags := 16409, slot := 10, constantValue := 0 }, { name := "IMPORTED_WITH_WARNINGS", type := (.object "com/example/epcrtools/epcrtools/exchange/StatusCode"), accessFlags := 16409, slot := 11, constantValue := 0 }, { name := "LIMIT_GIVEN", type := (.object "com/example/epcrtools/epcrtools/exchange/StatusCode"), accessFlags := 16409, slot := 12, constantValue := 0 }, { name := "code", type := .int, accessFlags := 18, slot := 3, constantValue := 0 }, { name := "$VALUES", type := (.array (.object "com/example/epcrtools/epcrtools/exchange/StatusCode")), accessFlags := 4122, slot := 13, constantValue := 0 }]
  methods := #[]
  instanceTypes := #[(.object "java/lang/String"), .int, .int, .int]
  staticTypes := #[(.object "com/example/epcrtools/epcrtools/exchange/StatusCode"), (.object "com/example/epcrtools/epcrtools/exchange/StatusCode"), (.object "com/example/epcrtools/epcrtools/exchange/StatusCode"), (.object "com/example/epcrtools/epcrtools/exchange/StatusCode"), (.object "com/example/epcrtools/epcrtools/exchange/StatusCode"), (.object "com/example/epcrtools/epcrtools/exchange/StatusCode"), (.object "com/example/epcrtools/epcrtools/exchange/StatusCode"), (.object "com/example/epcrtools/epcrtools/exchange/StatusCode"), (.object "com/example/epcrtools/epcrtools/exchange/StatusCode"), (.object "com/example/epcrtools/epcrtools/exchange/StatusCode"), (.object "com/example/epcrtools/epcrtools/exchange/StatusCode"), (.object "com/example/epcrtools/epcrtools/exchange/StatusCode"), (.object "com/example/epcrtools/epcrtools/exchange/StatusCode"), (.array (.object "com/example/epcrtools/epcrtools/exchange/StatusCode"))]
  resolved := Array.replicate 99 none
  statics := some 0 }

def pool7 : Array CpInfo := pool [(1, .methodref 2 3), (0, .class_ 4), (0, .nameAndType 5 6), (0, u "java/lang/Object"), (0, u "<init>"), (0, u "()V"), (0, .fieldref 8 9), (0, .class_ 10), (0, .nameAndType 11 12), (0, u "com/example/epcrtools/epcrtools/exchange/SubmissionStatus"), (0, u "statusCode"), (0, u "Lcom/example/epcrtools/epcrtools/exchange/StatusCode;"), (0, .methodref 14 15), (0, .class_ 16), (0, .nameAndType 17 18), (0, u "[B"), (0, u "clone"), (0, u "()Ljava/lang/Object;"), (0, .fieldref 8 20), (0, .nameAndType 21 16), (0, u "report"), (0, .methodref 8 23), (0, .nameAndType 5 24), (0, u "(Lcom/example/epcrtools/epcrtools/exchange/StatusCode;)V"), (10, u "(Lcom/example/epcrtools/epcrtools/exchange/StatusCode;[B)V"), (2, u "refused"), (0, u "(Lcom/example/epcrtools/epcrtools/exchange/StatusCode;)Lcom/example/epcrtools/epcrtools/exchange/SubmissionStatus;"), (0, u "()Lcom/example/epcrtools/epcrtools/exchange/StatusCode;"), (3, u "size"), (0, u "()I")] 2

def k7c0 : Code := { maxStack := 2, maxLocals := 3, code := prog_13_method_1_code, exceptionTable := #[], attributes := #[] }
def k7m0 : Method := { name := "<init>", desc := "(Lcom/example/epcrtools/epcrtools/exchange/StatusCode;[B)V", sig := { parameters := [(.object "com/example/epcrtools/epcrtools/exchange/StatusCode"), (.array .byte)], returnType := none }, accessFlags := 0, code := some k7c0 }
def k7c1 : Code := { maxStack := 2, maxLocals := 2, code := prog_13_method_2_code, exceptionTable := #[], attributes := #[] }
def k7m1 : Method := { name := "<init>", desc := "(Lcom/example/epcrtools/epcrtools/exchange/StatusCode;)V", sig := { parameters := [(.object "com/example/epcrtools/epcrtools/exchange/StatusCode")], returnType := none }, accessFlags := 2, code := some k7c1 }
def k7c2 : Code := { maxStack := 3, maxLocals := 1, code := prog_13_method_3_code, exceptionTable := #[], attributes := #[] }
def k7m2 : Method := { name := "refused", desc := "(Lcom/example/epcrtools/epcrtools/exchange/StatusCode;)Lcom/example/epcrtools/epcrtools/exchange/SubmissionStatus;", sig := { parameters := [(.object "com/example/epcrtools/epcrtools/exchange/StatusCode")], returnType := some (.object "com/example/epcrtools/epcrtools/exchange/SubmissionStatus") }, accessFlags := 8, code := some k7c2 }
def k7c3 : Code := { maxStack := 1, maxLocals := 1, code := prog_13_method_4_code, exceptionTable := #[], attributes := #[] }
def k7m3 : Method := { name := "statusCode", desc := "()Lcom/example/epcrtools/epcrtools/exchange/StatusCode;", sig := { parameters := [], returnType := some (.object "com/example/epcrtools/epcrtools/exchange/StatusCode") }, accessFlags := 0, code := some k7c3 }
def k7c4 : Code := { maxStack := 1, maxLocals := 1, code := prog_13_method_6_code, exceptionTable := #[], attributes := #[] }
def k7m4 : Method := { name := "size", desc := "()I", sig := { parameters := [], returnType := some .int }, accessFlags := 0, code := some k7c4 }
/-- com/example/epcrtools/epcrtools/exchange/SubmissionStatus -/
def k7 : Class := { plain "com/example/epcrtools/epcrtools/exchange/SubmissionStatus" (some 0) with
  accessFlags := 32
  interfaces := #[]
  cf := some (fileOf pool7 8 #[] #[{ accessFlags := 0, nameIndex := 5, descriptorIndex := 35, attributes := #[] }, { accessFlags := 2, nameIndex := 5, descriptorIndex := 24, attributes := #[] }, { accessFlags := 8, nameIndex := 38, descriptorIndex := 39, attributes := #[] }, { accessFlags := 0, nameIndex := 11, descriptorIndex := 40, attributes := #[] }, { accessFlags := 0, nameIndex := 44, descriptorIndex := 45, attributes := #[] }] 32 2 #[] #[{ accessFlags := 18, nameIndex := 11, descriptorIndex := 12, attributes := #[] }, { accessFlags := 18, nameIndex := 21, descriptorIndex := 16, attributes := #[] }])
  fields := #[{ name := "statusCode", type := (.object "com/example/epcrtools/epcrtools/exchange/StatusCode"), accessFlags := 18, slot := 0, constantValue := 0 }, { name := "report", type := (.array .byte), accessFlags := 18, slot := 1, constantValue := 0 }]
  methods := #[k7m0, k7m1, k7m2, k7m3, k7m4]
  instanceTypes := #[(.object "com/example/epcrtools/epcrtools/exchange/StatusCode"), (.array .byte)]
  staticTypes := #[]
  resolved := Array.replicate 48 none
  statics := none }

def pool8 : Array CpInfo := pool [(1, .class_ 2), (0, u "java/lang/Cloneable"), (0, .class_ 4), (0, u "java/lang/Object")] 2

/-- java/lang/Cloneable -/
def k8 : Class := { plain "java/lang/Cloneable" (some 0) with
  accessFlags := 1537
  interfaces := #[]
  cf := some (fileOf pool8 1 #[] #[] 1537 3 #[] #[])
  fields := #[]
  methods := #[]
  instanceTypes := #[]
  staticTypes := #[]
  resolved := Array.replicate 7 none
  statics := none }

/-- the primitive byte -/
def k9 : Class := { plain "byte" none with kind := .primitive 'B', accessFlags := 0x411 }
/-- [B -/
def k10 : Class := { plain "[B" (some 0) with kind := .array 9 .byte, interfaces := #[8, 4], accessFlags := 1041 }

/-- the primitive int -/
def k11 : Class := { plain "int" none with kind := .primitive 'I', accessFlags := 0x411 }
/-- [I -/
def k12 : Class := { plain "[I" (some 0) with kind := .array 11 .int, interfaces := #[8, 4], accessFlags := 1041 }

def heap : Heap := #[{ cls := 6, slots := #[.null, .null, .null, .null, .ref 1, .null, .null, .null, .null, .ref 2, .ref 3, .ref 4, .null, .null], vm := .statics 6 },
  { cls := 6, slots := #[.null, .int 0, .int 0, .int 0], vm := .none },
  { cls := 6, slots := #[.null, .int 0, .int 0, .int 0], vm := .none },
  { cls := 6, slots := #[.null, .int 0, .int 0, .int 0], vm := .none },
  { cls := 6, slots := #[.null, .int 0, .int 0, .int 0], vm := .none }]
def classes : Array Class := #[k0, k1, k2, k3, k4, k5, k6, k7, k8, k9, k10, k11, k12]
def interned : List (Array UInt16 × Addr) := []
def slotsUsed : Nat := 30
def theMethod : MethodId := ⟨1, 3⟩
def args0 : Array Value := #[.int 2, .int 1, .int 7, .int 5]
def aboutOver (below : List Frame) : State where
  vm := { classes := classes, interned := interned.toArray }
  heap := heap
  slotsUsed := slotsUsed
  threads := #[{ frames := .invoking theMethod args0 :: below }]
def below0 : List Frame := [.native { method := ⟨0, 0⟩, args := #[] }]
def about1 : State := aboutOver below0
def p0 : Program := .bare "" "" ""
def e0 : Env := launch0.env 0 0 0
theorem w_frames : about1.frames = Frame.invoking theMethod args0 :: below0 := rfl
set_option maxRecDepth 65536 in
theorem w_args : argsFit about1.vm theMethod args0 = true := by decide +kernel
set_option maxRecDepth 65536 in
theorem w_heap : heapFits about1 = true := by decide +kernel
set_option maxRecDepth 65536 in
theorem w_runnable : about1.curStatus? = some .runnable := by decide +kernel
set_option maxRecDepth 65536 in
theorem w_alone : about1.alone = true := by decide +kernel
set_option maxRecDepth 65536 in
theorem w_named : about1.methodNamed? x = some theMethod := by decide +kernel
set_option maxRecDepth 65536 in
theorem w_hears : about1.hears theMethod below0 = true := by decide +kernel
set_option maxRecDepth 65536 in
theorem w_ripe : about1.ripe theMethod args0 below0 = true := by decide +kernel
theorem w_running : about1.status = .running := rfl
set_option maxRecDepth 65536 in
theorem w_room : about1.hasRoom e0.platform room_1 = true :=
  launch0.hasRoom_least _ room_1 (by decide +kernel) (by decide +kernel) (by decide +kernel) (by decide +kernel) (by decide +kernel) (by decide +kernel)
theorem allAtoms_all (ts : List Jvm.Cond) (a : Array Jvm.Value) (st : Jvm.State) : (allAtoms ts).before a st = ts.all (fun c => c.before a st) := by
  induction ts with
  | nil => rfl
  | cons c t ih =>
    show (Jvm.Cond.and c (allAtoms t)).before a st = _
    rw [Jvm.Cond.before_and, ih, List.all_cons]
def words1 : List Jvm.Cond := Jvm.Cond.code x code maxLocals ret :: tables_1
/-- a 'code' word, met by the world's own term for the bytes: nothing is compared byte by byte -/
theorem code_word {y : MethodName} {bytes : ByteArray} {mx : Nat} {rt : Option FieldType} {a : Array Value} {s : State} {m : MethodId} {meth : Method} {c : Code} (h1 : s.methodNamed? y = some m) (h2 : s.vm.method? m = some meth) (h3 : meth.code = some c) (h4 : c.code = bytes)
    (h5 : (c.maxLocals == mx && c.exceptionTable.isEmpty && decide (c.maxStack ≤ mostOperands) && decide (meth.sig.returnType = rt) && !meth.locks && decide (parseMethodDescriptor y.desc = some meth.sig)) = true) : (Jvm.Cond.code y bytes mx rt).before a s = true := by
  simp only [Bool.and_eq_true, beq_iff_eq, Bool.not_eq_true', decide_eq_true_eq] at h5
  obtain ⟨⟨⟨⟨⟨g1, g2⟩, g3⟩, g4⟩, g5⟩, g6⟩ := h5
  simp [Cond.before, Cond.holds, Cond.value, h1, h2, h3, h4, g1, g2, g3, g4, g5, g6]
def isCode : Jvm.Cond → Bool
  | .code _ _ _ _ => true
  | _ => false
theorem all_split {L : List Jvm.Cond} {P : Jvm.Cond → Bool} (h1 : L.all (fun c => isCode c || P c) = true) (h2 : ∀ c ∈ L.filter isCode, P c = true) : L.all P = true := by
  refine List.all_eq_true.mpr fun c hc => ?_
  have h := List.all_eq_true.mp h1 c hc
  rcases Bool.eq_false_or_eq_true (isCode c) with hi | hi
  · exact h2 c (List.mem_filter.mpr ⟨hc, hi⟩)
  · simpa [hi] using h
set_option maxRecDepth 65536 in
theorem w_c0 : (Jvm.Cond.code x code maxLocals ret).before args0 about1 = true := code_word (m := ⟨1, 3⟩) (meth := k1m3) (c := k1c3) (by decide +kernel) rfl rfl rfl (by decide +kernel)
set_option maxRecDepth 65536 in
theorem w_c1 : (Jvm.Cond.code ({ cls := "com/example/epcrtools/epcrtools/exchange/SubmissionStatusSizePinLaw", name := "code", desc := "(I)Lcom/example/epcrtools/epcrtools/exchange/StatusCode;" } : Jvm.MethodName) method_2_code (2 : Nat) (Option.some (Jvm.ClassFile.FieldType.object "com/example/epcrtools/epcrtools/exchange/StatusCode"))).before args0 about1 = true := code_word (m := ⟨1, 1⟩) (meth := k1m1) (c := k1c1) (by decide +kernel) rfl rfl rfl (by decide +kernel)
set_option maxRecDepth 65536 in
theorem w_c2 : (Jvm.Cond.code ({ cls := "com/example/epcrtools/epcrtools/exchange/SubmissionStatusSizePinLaw", name := "bytes", desc := "(II)[B" } : Jvm.MethodName) method_3_code (7 : Nat) (Option.some (Jvm.ClassFile.FieldType.array Jvm.ClassFile.FieldType.byte))).before args0 about1 = true := code_word (m := ⟨1, 2⟩) (meth := k1m2) (c := k1c2) (by decide +kernel) rfl rfl rfl (by decide +kernel)
set_option maxRecDepth 65536 in
theorem w_c3 : (Jvm.Cond.code ({ cls := "com/example/epcrtools/epcrtools/exchange/SubmissionStatus", name := "<init>", desc := "(Lcom/example/epcrtools/epcrtools/exchange/StatusCode;[B)V" } : Jvm.MethodName) prog_13_method_1_code (3 : Nat) (Option.none : Option Jvm.ClassFile.FieldType)).before args0 about1 = true := code_word (m := ⟨7, 0⟩) (meth := k7m0) (c := k7c0) (by decide +kernel) rfl rfl rfl (by decide +kernel)
set_option maxRecDepth 65536 in
theorem w_c4 : (Jvm.Cond.code ({ cls := "java/lang/Object", name := "<init>", desc := "()V" } : Jvm.MethodName) object_method_1_code (1 : Nat) (Option.none : Option Jvm.ClassFile.FieldType)).before args0 about1 = true := code_word (m := ⟨0, 0⟩) (meth := k0m0) (c := k0c0) (by decide +kernel) rfl rfl rfl (by decide +kernel)
set_option maxRecDepth 65536 in
theorem w_c5 : (Jvm.Cond.code ({ cls := "com/example/epcrtools/epcrtools/exchange/SubmissionStatus", name := "size", desc := "()I" } : Jvm.MethodName) prog_13_method_6_code (1 : Nat) (Option.some Jvm.ClassFile.FieldType.int)).before args0 about1 = true := code_word (m := ⟨7, 4⟩) (meth := k7m4) (c := k7c4) (by decide +kernel) rfl rfl rfl (by decide +kernel)
set_option maxRecDepth 65536 in
theorem w_c6 : (Jvm.Cond.code ({ cls := "com/example/epcrtools/epcrtools/exchange/SubmissionStatus", name := "statusCode", desc := "()Lcom/example/epcrtools/epcrtools/exchange/StatusCode;" } : Jvm.MethodName) prog_13_method_4_code (1 : Nat) (Option.some (Jvm.ClassFile.FieldType.object "com/example/epcrtools/epcrtools/exchange/StatusCode"))).before args0 about1 = true := code_word (m := ⟨7, 3⟩) (meth := k7m3) (c := k7c3) (by decide +kernel) rfl rfl rfl (by decide +kernel)
set_option maxRecDepth 65536 in
theorem w_c7 : (Jvm.Cond.code ({ cls := "com/example/epcrtools/epcrtools/exchange/SubmissionStatus", name := "refused", desc := "(Lcom/example/epcrtools/epcrtools/exchange/StatusCode;)Lcom/example/epcrtools/epcrtools/exchange/SubmissionStatus;" } : Jvm.MethodName) prog_13_method_3_code (1 : Nat) (Option.some (Jvm.ClassFile.FieldType.object "com/example/epcrtools/epcrtools/exchange/SubmissionStatus"))).before args0 about1 = true := code_word (m := ⟨7, 2⟩) (meth := k7m2) (c := k7c2) (by decide +kernel) rfl rfl rfl (by decide +kernel)
set_option maxRecDepth 65536 in
theorem w_c8 : (Jvm.Cond.code ({ cls := "com/example/epcrtools/epcrtools/exchange/SubmissionStatus", name := "<init>", desc := "(Lcom/example/epcrtools/epcrtools/exchange/StatusCode;)V" } : Jvm.MethodName) prog_13_method_2_code (2 : Nat) (Option.none : Option Jvm.ClassFile.FieldType)).before args0 about1 = true := code_word (m := ⟨7, 1⟩) (meth := k7m1) (c := k7c1) (by decide +kernel) rfl rfl rfl (by decide +kernel)
def codes1 : List Jvm.Cond := [Jvm.Cond.code x code maxLocals ret, Jvm.Cond.code ({ cls := "com/example/epcrtools/epcrtools/exchange/SubmissionStatusSizePinLaw", name := "code", desc := "(I)Lcom/example/epcrtools/epcrtools/exchange/StatusCode;" } : Jvm.MethodName) method_2_code (2 : Nat) (Option.some (Jvm.ClassFile.FieldType.object "com/example/epcrtools/epcrtools/exchange/StatusCode")), Jvm.Cond.code ({ cls := "com/example/epcrtools/epcrtools/exchange/SubmissionStatusSizePinLaw", name := "bytes", desc := "(II)[B" } : Jvm.MethodName) method_3_code (7 : Nat) (Option.some (Jvm.ClassFile.FieldType.array Jvm.ClassFile.FieldType.byte)), Jvm.Cond.code ({ cls := "com/example/epcrtools/epcrtools/exchange/SubmissionStatus", name := "<init>", desc := "(Lcom/example/epcrtools/epcrtools/exchange/StatusCode;[B)V" } : Jvm.MethodName) prog_13_method_1_code (3 : Nat) (Option.none : Option Jvm.ClassFile.FieldType), Jvm.Cond.code ({ cls := "java/lang/Object", name := "<init>", desc := "()V" } : Jvm.MethodName) object_method_1_code (1 : Nat) (Option.none : Option Jvm.ClassFile.FieldType), Jvm.Cond.code ({ cls := "com/example/epcrtools/epcrtools/exchange/SubmissionStatus", name := "size", desc := "()I" } : Jvm.MethodName) prog_13_method_6_code (1 : Nat) (Option.some Jvm.ClassFile.FieldType.int), Jvm.Cond.code ({ cls := "com/example/epcrtools/epcrtools/exchange/SubmissionStatus", name := "statusCode", desc := "()Lcom/example/epcrtools/epcrtools/exchange/StatusCode;" } : Jvm.MethodName) prog_13_method_4_code (1 : Nat) (Option.some (Jvm.ClassFile.FieldType.object "com/example/epcrtools/epcrtools/exchange/StatusCode")), Jvm.Cond.code ({ cls := "com/example/epcrtools/epcrtools/exchange/SubmissionStatus", name := "refused", desc := "(Lcom/example/epcrtools/epcrtools/exchange/StatusCode;)Lcom/example/epcrtools/epcrtools/exchange/SubmissionStatus;" } : Jvm.MethodName) prog_13_method_3_code (1 : Nat) (Option.some (Jvm.ClassFile.FieldType.object "com/example/epcrtools/epcrtools/exchange/SubmissionStatus")), Jvm.Cond.code ({ cls := "com/example/epcrtools/epcrtools/exchange/SubmissionStatus", name := "<init>", desc := "(Lcom/example/epcrtools/epcrtools/exchange/StatusCode;)V" } : Jvm.MethodName) prog_13_method_2_code (2 : Nat) (Option.none : Option Jvm.ClassFile.FieldType)]
set_option maxRecDepth 65536 in
theorem codes_eq : words1.filter isCode = codes1 := rfl
theorem w_codes : ∀ c ∈ words1.filter isCode, c.before args0 about1 = true := by
  rw [codes_eq]
  intro c hc
  simp only [codes1, List.mem_cons, List.not_mem_nil, or_false] at hc
  rcases hc with rfl | rfl | rfl | rfl | rfl | rfl | rfl | rfl | rfl
  · exact w_c0
  · exact w_c1
  · exact w_c2
  · exact w_c3
  · exact w_c4
  · exact w_c5
  · exact w_c6
  · exact w_c7
  · exact w_c8
set_option maxRecDepth 65536 in
theorem w_t1 : (words1.take 24).all (fun c => isCode c || c.before args0 about1) = true := by decide +kernel
set_option maxRecDepth 65536 in
theorem w_t2 : ((words1.drop 24).take 24).all (fun c => isCode c || c.before args0 about1) = true := by decide +kernel
set_option maxRecDepth 65536 in
theorem w_t3 : ((words1.drop 24).drop 24).all (fun c => isCode c || c.before args0 about1) = true := by decide +kernel
theorem w_tables : (allAtoms (Jvm.Cond.code x code maxLocals ret :: tables_1)).before args0 about1 = true := by
  rw [allAtoms_all]
  show words1.all (fun c => c.before args0 about1) = true
  refine all_split ?_ w_codes
  rw [← List.take_append_drop 24 words1, List.all_append, w_t1, ← List.take_append_drop 24 (words1.drop 24), List.all_append, w_t2, w_t3]
  rfl
set_option maxRecDepth 65536 in
theorem w_case : (Jvm.Cond.and given_1 narrow_1).before args0 about1 = true := by decide +kernel
theorem w_applies : (headSpec (Jvm.Cond.code x code maxLocals ret :: tables_1) room_1).applies x e0.platform about1 = true :=
  (Spec.applies_iff w_frames).mpr ⟨w_running, w_runnable, w_alone, w_named, w_hears, w_ripe, w_room, w_tables⟩
theorem atStart : AtStart classFile x code maxLocals ret World_1 tables_1 room_1 Calls_1 rest_1 Pre_1 launch0 p0 e0 about1 theMethod args0 below0 :=
  ⟨lists_1, trivial, launch0.admits_env _ _ _, launch0.least_env, fairChoices_fair.cas, fairChoices_fair.clock, w_frames, w_args, w_heap, w_applies, trivial, trivial, w_case⟩
end start1
theorem witness_1 : WitnessClaimed_1 := ⟨start1.p0, start1.e0, start1.about1, start1.theMethod, start1.args0, start1.below0, start1.atStart⟩
end Jvm.Pilot.@@N@@
