import JvmDerived
import JvmDerived.Pilot.@@N@@Statement
import JvmDerived.Pilot.@@N@@Code
set_option linter.unusedVariables false
set_option linter.unusedSimpArgs false
namespace Jvm.RoadKit
open Sem ClassFile Op Lib Jvm.Stand Jvm.Free Jvm.LawKit
section New
variable {p : Program} {l : Launch} {e : Env} {R : Room} {s : State} {m : MethodId} {args : Array Value} {below : List Frame} {meth : Method} {c : Code} {T : State} {locs : List Loc} {cells slots : Nat}
theorem retI (X : Stand p l e R s m args below meth c T locs cells slots) (hx : p.tables.exec = Jvm.exec) {pc : Nat} {Ls : Array Slot} {z : Int32} {rest : List Value} (hret : meth.sig.returnType = some .int) (hd : decode c.code pc = .ok (.ireturn, 1)) {fs : List Frame}
    (hl : ∀ (f : JFrame) (acts : List Action), f.method = m → f.locked = none → f.entered = [] → (doReturn e (T.setTop f) acts (some (.int z))).1 = T.setFrames fs) : Steps p.tables e below (T.setTop (mkF m pc Ls (.int z :: rest))) (T.setFrames fs) := by
  have hm' : T.vm.method? m = some meth := X.method'
  have hn : narrow .int (.int z) = .int z := rfl
  show Steps p.tables e below (T.setTop { method := m, pc := pc, locals := Ls, stack := _ :: rest, locked := none }) _
  jvm_step X.here [X.here.top, hx, hd, hm', hret, hn]
  first | (intro acts; rw [hl _ acts rfl rfl rfl]) | rw [hl _ _ rfl rfl rfl]
  exact Steps.refl _
end New
end Jvm.RoadKit
namespace Jvm.Pilot.@@N@@
open Jvm Jvm.ClassFile Sem Op Lib Jvm.Free Jvm.Stand Jvm.LawKit Jvm.RoadKit Bundle Jvm.Pilot.@@N@@.Jvm.D
abbrev Sp (p : Program) (e : Env) (below : List Frame) (T : State) (f : JFrame) (t : State) : Prop := Steps p.tables e below (T.setTop f) t
theorem own_sz {Z : State} {n0 : Nat} {h : Heap} (O : Old Z n0 h) : n0 ≤ h.size := O.1 ▸ O.2.1
theorem own_nei {x c : Int32} {n : Int} (h : ¬ x = c) (e : c.toInt = n) : x.toInt ≠ n := fun q => h (Int32.toInt_inj.mp (q.trans e.symm))
theorem own_eq {x c : Int32} {n : Int} (e : c.toInt = n) (h : x.toInt = n) : x = c := Int32.toInt_inj.mp (h.trans e.symm)
theorem own_eqi {x c : Int32} {n : Int} (h : x = c) (e : c.toInt = n) : x.toInt = n := by rw [h]; exact e
theorem own_fldi {args : Array Value} {s : State} {t : Term} {a : Addr} {C n d : String} {c : Int32} (ev : t.eval args s none [] s = some (.ref a)) (h : (Cond.eq (.field t C n d) (.int c)).value args s none s [] = some true) : Fld s s.heap a C n d (.int c) := by
  apply Fld.start
  cases hf : s.fieldOf? a C n d with
  | none => simp [Cond.value, Term.eval, ev, hf] at h
  | some x => cases x <;> simp [Cond.value, Term.eval, ev, hf] at h ⊢; exact h
theorem own_fldr {args : Array Value} {s : State} {t u : Term} {a b : Addr} {C n d : String} (ev : t.eval args s none [] s = some (.ref a)) (eu : u.eval args s none [] s = some (.ref b)) (h : (Cond.eq (.field t C n d) u).value args s none s [] = some true) : Fld s s.heap a C n d (.ref b) := by
  apply Fld.start
  cases hf : s.fieldOf? a C n d with
  | none => simp [Cond.value, Term.eval, ev, eu, hf] at h
  | some x => cases x <;> simp [Cond.value, Term.eval, ev, eu, hf] at h ⊢; exact h
theorem own_rem {x m : Int32} {M d : Int} (hm : m.toInt = M) (h0 : 0 ≤ M) {y : Int32} (hy : y.toInt = d) (hd : 0 < d) : 0 ≤ ((x &&& m) % y).toInt ∧ ((x &&& m) % y).toInt < d := by
  have a := c_and x m (by rw [hm]; exact h0)
  have b := (c_irem (x &&& m) y d hy).1 a.1
  rw [b]; exact ⟨Int.emod_nonneg _ (by omega), Int.emod_lt_of_pos _ hd⟩
def Perm (Z : State) (w_WAIT : Addr) (w_SUCCESS : Addr) (w_ERROR : Addr) (w_READY : Addr) (w_RUNNING : Addr) (w_PENDING : Addr) : Prop := Sta Z Z.heap "com/example/graph_job_runner/graphjobrunner/NodeStatus" "WAIT" "Lcom/example/graph_job_runner/graphjobrunner/NodeStatus;" (.ref w_WAIT) ∧ Exa Z Z.heap w_WAIT "com/example/graph_job_runner/graphjobrunner/NodeStatus" ∧ Sta Z Z.heap "com/example/graph_job_runner/graphjobrunner/NodeStatus" "SUCCESS" "Lcom/example/graph_job_runner/graphjobrunner/NodeStatus;" (.ref w_SUCCESS) ∧ Exa Z Z.heap w_SUCCESS "com/example/graph_job_runner/graphjobrunner/NodeStatus" ∧ Sta Z Z.heap "com/example/graph_job_runner/graphjobrunner/NodeStatus" "ERROR" "Lcom/example/graph_job_runner/graphjobrunner/NodeStatus;" (.ref w_ERROR) ∧ Exa Z Z.heap w_ERROR "com/example/graph_job_runner/graphjobrunner/NodeStatus" ∧ Sta Z Z.heap "com/example/graph_job_runner/graphjobrunner/NodeStatus" "READY" "Lcom/example/graph_job_runner/graphjobrunner/NodeStatus;" (.ref w_READY) ∧ Exa Z Z.heap w_READY "com/example/graph_job_runner/graphjobrunner/NodeStatus" ∧ Sta Z Z.heap "com/example/graph_job_runner/graphjobrunner/NodeStatus" "RUNNING" "Lcom/example/graph_job_runner/graphjobrunner/NodeStatus;" (.ref w_RUNNING) ∧ Exa Z Z.heap w_RUNNING "com/example/graph_job_runner/graphjobrunner/NodeStatus" ∧ Sta Z Z.heap "com/example/graph_job_runner/graphjobrunner/NodeStatus" "PENDING" "Lcom/example/graph_job_runner/graphjobrunner/NodeStatus;" (.ref w_PENDING) ∧ Exa Z Z.heap w_PENDING "com/example/graph_job_runner/graphjobrunner/NodeStatus" ∧ Fld Z Z.heap w_WAIT "java/lang/Enum" "ordinal" "I" (.int (0 : Int32)) ∧ Fld Z Z.heap w_SUCCESS "java/lang/Enum" "ordinal" "I" (.int (3 : Int32)) ∧ Fld Z Z.heap w_ERROR "java/lang/Enum" "ordinal" "I" (.int (4 : Int32)) ∧ Fld Z Z.heap w_READY "java/lang/Enum" "ordinal" "I" (.int (1 : Int32)) ∧ Fld Z Z.heap w_RUNNING "java/lang/Enum" "ordinal" "I" (.int (2 : Int32)) ∧ Fld Z Z.heap w_PENDING "java/lang/Enum" "ordinal" "I" (.int (5 : Int32))
theorem ne_w_WAIT_w_SUCCESS {Z : State} {w_WAIT : Addr} {w_SUCCESS : Addr} {w_ERROR : Addr} {w_READY : Addr} {w_RUNNING : Addr} {w_PENDING : Addr} (hp : Perm Z w_WAIT w_SUCCESS w_ERROR w_READY w_RUNNING w_PENDING) : w_WAIT ≠ w_SUCCESS := by
  obtain ⟨_, _, _, _, _, _, _, _, _, _, _, _, F_ordinal_w_WAIT, F_ordinal_w_SUCCESS, _, _, _, _⟩ := hp
  exact Fld.ne F_ordinal_w_WAIT F_ordinal_w_SUCCESS (by decide)
theorem ne_w_WAIT_w_ERROR {Z : State} {w_WAIT : Addr} {w_SUCCESS : Addr} {w_ERROR : Addr} {w_READY : Addr} {w_RUNNING : Addr} {w_PENDING : Addr} (hp : Perm Z w_WAIT w_SUCCESS w_ERROR w_READY w_RUNNING w_PENDING) : w_WAIT ≠ w_ERROR := by
  obtain ⟨_, _, _, _, _, _, _, _, _, _, _, _, F_ordinal_w_WAIT, _, F_ordinal_w_ERROR, _, _, _⟩ := hp
  exact Fld.ne F_ordinal_w_WAIT F_ordinal_w_ERROR (by decide)
theorem ne_w_WAIT_w_READY {Z : State} {w_WAIT : Addr} {w_SUCCESS : Addr} {w_ERROR : Addr} {w_READY : Addr} {w_RUNNING : Addr} {w_PENDING : Addr} (hp : Perm Z w_WAIT w_SUCCESS w_ERROR w_READY w_RUNNING w_PENDING) : w_WAIT ≠ w_READY := by
  obtain ⟨_, _, _, _, _, _, _, _, _, _, _, _, F_ordinal_w_WAIT, _, _, F_ordinal_w_READY, _, _⟩ := hp
  exact Fld.ne F_ordinal_w_WAIT F_ordinal_w_READY (by decide)
theorem ne_w_WAIT_w_RUNNING {Z : State} {w_WAIT : Addr} {w_SUCCESS : Addr} {w_ERROR : Addr} {w_READY : Addr} {w_RUNNING : Addr} {w_PENDING : Addr} (hp : Perm Z w_WAIT w_SUCCESS w_ERROR w_READY w_RUNNING w_PENDING) : w_WAIT ≠ w_RUNNING := by
  obtain ⟨_, _, _, _, _, _, _, _, _, _, _, _, F_ordinal_w_WAIT, _, _, _, F_ordinal_w_RUNNING, _⟩ := hp
  exact Fld.ne F_ordinal_w_WAIT F_ordinal_w_RUNNING (by decide)
theorem ne_w_WAIT_w_PENDING {Z : State} {w_WAIT : Addr} {w_SUCCESS : Addr} {w_ERROR : Addr} {w_READY : Addr} {w_RUNNING : Addr} {w_PENDING : Addr} (hp : Perm Z w_WAIT w_SUCCESS w_ERROR w_READY w_RUNNING w_PENDING) : w_WAIT ≠ w_PENDING := by
  obtain ⟨_, _, _, _, _, _, _, _, _, _, _, _, F_ordinal_w_WAIT, _, _, _, _, F_ordinal_w_PENDING⟩ := hp
  exact Fld.ne F_ordinal_w_WAIT F_ordinal_w_PENDING (by decide)
theorem ne_w_SUCCESS_w_ERROR {Z : State} {w_WAIT : Addr} {w_SUCCESS : Addr} {w_ERROR : Addr} {w_READY : Addr} {w_RUNNING : Addr} {w_PENDING : Addr} (hp : Perm Z w_WAIT w_SUCCESS w_ERROR w_READY w_RUNNING w_PENDING) : w_SUCCESS ≠ w_ERROR := by
  obtain ⟨_, _, _, _, _, _, _, _, _, _, _, _, _, F_ordinal_w_SUCCESS, F_ordinal_w_ERROR, _, _, _⟩ := hp
  exact Fld.ne F_ordinal_w_SUCCESS F_ordinal_w_ERROR (by decide)
theorem ne_w_SUCCESS_w_READY {Z : State} {w_WAIT : Addr} {w_SUCCESS : Addr} {w_ERROR : Addr} {w_READY : Addr} {w_RUNNING : Addr} {w_PENDING : Addr} (hp : Perm Z w_WAIT w_SUCCESS w_ERROR w_READY w_RUNNING w_PENDING) : w_SUCCESS ≠ w_READY := by
  obtain ⟨_, _, _, _, _, _, _, _, _, _, _, _, _, F_ordinal_w_SUCCESS, _, F_ordinal_w_READY, _, _⟩ := hp
  exact Fld.ne F_ordinal_w_SUCCESS F_ordinal_w_READY (by decide)
theorem ne_w_SUCCESS_w_RUNNING {Z : State} {w_WAIT : Addr} {w_SUCCESS : Addr} {w_ERROR : Addr} {w_READY : Addr} {w_RUNNING : Addr} {w_PENDING : Addr} (hp : Perm Z w_WAIT w_SUCCESS w_ERROR w_READY w_RUNNING w_PENDING) : w_SUCCESS ≠ w_RUNNING := by
  obtain ⟨_, _, _, _, _, _, _, _, _, _, _, _, _, F_ordinal_w_SUCCESS, _, _, F_ordinal_w_RUNNING, _⟩ := hp
  exact Fld.ne F_ordinal_w_SUCCESS F_ordinal_w_RUNNING (by decide)
theorem ne_w_SUCCESS_w_PENDING {Z : State} {w_WAIT : Addr} {w_SUCCESS : Addr} {w_ERROR : Addr} {w_READY : Addr} {w_RUNNING : Addr} {w_PENDING : Addr} (hp : Perm Z w_WAIT w_SUCCESS w_ERROR w_READY w_RUNNING w_PENDING) : w_SUCCESS ≠ w_PENDING := by
  obtain ⟨_, _, _, _, _, _, _, _, _, _, _, _, _, F_ordinal_w_SUCCESS, _, _, _, F_ordinal_w_PENDING⟩ := hp
  exact Fld.ne F_ordinal_w_SUCCESS F_ordinal_w_PENDING (by decide)
theorem ne_w_ERROR_w_READY {Z : State} {w_WAIT : Addr} {w_SUCCESS : Addr} {w_ERROR : Addr} {w_READY : Addr} {w_RUNNING : Addr} {w_PENDING : Addr} (hp : Perm Z w_WAIT w_SUCCESS w_ERROR w_READY w_RUNNING w_PENDING) : w_ERROR ≠ w_READY := by
  obtain ⟨_, _, _, _, _, _, _, _, _, _, _, _, _, _, F_ordinal_w_ERROR, F_ordinal_w_READY, _, _⟩ := hp
  exact Fld.ne F_ordinal_w_ERROR F_ordinal_w_READY (by decide)
theorem ne_w_ERROR_w_RUNNING {Z : State} {w_WAIT : Addr} {w_SUCCESS : Addr} {w_ERROR : Addr} {w_READY : Addr} {w_RUNNING : Addr} {w_PENDING : Addr} (hp : Perm Z w_WAIT w_SUCCESS w_ERROR w_READY w_RUNNING w_PENDING) : w_ERROR ≠ w_RUNNING := by
  obtain ⟨_, _, _, _, _, _, _, _, _, _, _, _, _, _, F_ordinal_w_ERROR, _, F_ordinal_w_RUNNING, _⟩ := hp
  exact Fld.ne F_ordinal_w_ERROR F_ordinal_w_RUNNING (by decide)
theorem ne_w_ERROR_w_PENDING {Z : State} {w_WAIT : Addr} {w_SUCCESS : Addr} {w_ERROR : Addr} {w_READY : Addr} {w_RUNNING : Addr} {w_PENDING : Addr} (hp : Perm Z w_WAIT w_SUCCESS w_ERROR w_READY w_RUNNING w_PENDING) : w_ERROR ≠ w_PENDING := by
  obtain ⟨_, _, _, _, _, _, _, _, _, _, _, _, _, _, F_ordinal_w_ERROR, _, _, F_ordinal_w_PENDING⟩ := hp
  exact Fld.ne F_ordinal_w_ERROR F_ordinal_w_PENDING (by decide)
theorem ne_w_READY_w_RUNNING {Z : State} {w_WAIT : Addr} {w_SUCCESS : Addr} {w_ERROR : Addr} {w_READY : Addr} {w_RUNNING : Addr} {w_PENDING : Addr} (hp : Perm Z w_WAIT w_SUCCESS w_ERROR w_READY w_RUNNING w_PENDING) : w_READY ≠ w_RUNNING := by
  obtain ⟨_, _, _, _, _, _, _, _, _, _, _, _, _, _, _, F_ordinal_w_READY, F_ordinal_w_RUNNING, _⟩ := hp
  exact Fld.ne F_ordinal_w_READY F_ordinal_w_RUNNING (by decide)
theorem ne_w_READY_w_PENDING {Z : State} {w_WAIT : Addr} {w_SUCCESS : Addr} {w_ERROR : Addr} {w_READY : Addr} {w_RUNNING : Addr} {w_PENDING : Addr} (hp : Perm Z w_WAIT w_SUCCESS w_ERROR w_READY w_RUNNING w_PENDING) : w_READY ≠ w_PENDING := by
  obtain ⟨_, _, _, _, _, _, _, _, _, _, _, _, _, _, _, F_ordinal_w_READY, _, F_ordinal_w_PENDING⟩ := hp
  exact Fld.ne F_ordinal_w_READY F_ordinal_w_PENDING (by decide)
theorem ne_w_RUNNING_w_PENDING {Z : State} {w_WAIT : Addr} {w_SUCCESS : Addr} {w_ERROR : Addr} {w_READY : Addr} {w_RUNNING : Addr} {w_PENDING : Addr} (hp : Perm Z w_WAIT w_SUCCESS w_ERROR w_READY w_RUNNING w_PENDING) : w_RUNNING ≠ w_PENDING := by
  obtain ⟨_, _, _, _, _, _, _, _, _, _, _, _, _, _, _, _, F_ordinal_w_RUNNING, F_ordinal_w_PENDING⟩ := hp
  exact Fld.ne F_ordinal_w_RUNNING F_ordinal_w_PENDING (by decide)
theorem d1_0 : decode method_3_code 0 = .ok (.iload_n 0, 1) := by decide +kernel
theorem d1_1 : decode method_3_code 1 = .ok (.ifCond .ne 7, 3) := by decide +kernel
theorem d1_4 : decode method_3_code 4 = .ok (.getstatic 23, 3) := by decide +kernel
theorem d1_7 : decode method_3_code 7 = .ok (.areturn, 1) := by decide +kernel
abbrev y0 : MethodName := (⟨"com/example/graph_job_runner/graphjobrunner/NodeStatusHasFinishedPinLaw", "pick", "(I)Lcom/example/graph_job_runner/graphjobrunner/NodeStatus;"⟩ : MethodName)
theorem ef_1_0 (m : MethodId) (x0 : Int32) : entryFrame m #[(.int x0)] 1 = mkF m 0 #[.val (.int x0)] [] := by first | (simp [entryFrame, mkF, argsToLocals, Value.category]; done) | rfl
theorem pn_1 : plainName "com/example/graph_job_runner/graphjobrunner/NodeStatusHasFinishedPinLaw" = true := by first | (simp [plainName, overriddenIn]; done) | decide +kernel
def Q1 (Z : State) (w_WAIT : Addr) (w_SUCCESS : Addr) (w_ERROR : Addr) (w_READY : Addr) (w_RUNNING : Addr) (w_PENDING : Addr) (p1 : Int32) (h0 : Heap) (n0 : Nat) (v : Option Value) (h : Heap) (L : List Loc) : Prop := v = some (.ref w_WAIT) ∧ Fr n0 L ∧ h = h0
set_option maxRecDepth 65536 in
set_option maxHeartbeats 40000000 in
theorem rm1 (l : Launch) (Z : State) (a0 : Array Value) (hw : ∀ d ∈ tables_1, d.before a0 Z = true) (ws : List Jvm.Cond) (w_WAIT w_SUCCESS w_ERROR w_READY w_RUNNING w_PENDING : Addr) (hp : Perm Z w_WAIT w_SUCCESS w_ERROR w_READY w_RUNNING w_PENDING) (p1 : Int32) (h0 : Heap) (n0 : Nat) (O0 : Old Z n0 h0) (hc1 : p1 = (0 : Int32)) :
    MetFree l y0 (head1 (Jvm.Cond.code y0 method_3_code 1 (some (.object "com/example/graph_job_runner/graphjobrunner/NodeStatus")) :: ws) ({ frames := 0, cells := 0, slots := 0, locals := 0 } : Room)) (fun a U => a = #[(.int p1)] ∧ Z.Warmed39 U.vm ∧ U.heap = h0) (fun _ _ _ _ _ => True) (fun _ U o U' => ∃ v L, o = .returned v ∧ Q1 Z w_WAIT w_SUCCESS w_ERROR w_READY w_RUNNING w_PENDING p1 h0 n0 v U'.heap L ∧ FrameEnd U o U' L ({ frames := 0, cells := 0, slots := 0, locals := 0 } : Room).cells ({ frames := 0, cells := 0, slots := 0, locals := 0 } : Room).slots) := by
  refine MetFree.of_bodySF (plainFor_of_name pn_1) hisR ?_
  intro p e s m args below meth c s₁ Bd hml0 hP hK
  obtain ⟨rfl, hZ, hh⟩ := hP
  have hx := Bd.exec
  have hby := Bd.bytes
  have hml : c.maxLocals = 1 := hml0
  have hown : s.vm.findClass "com/example/graph_job_runner/graphjobrunner/NodeStatusHasFinishedPinLaw" = some m.cls := findClass_of_methodNamed Bd.named
  have hnm := (name_of_methodNamed Bd.named Bd.method).1
  have X0 : Stand p l e ({ frames := 0, cells := 0, slots := 0, locals := 0 } : Room) s m #[(.int p1)] below meth c s₁ [] 0 0 := Stand.of_body Bd
  have e0 : s₁.heap = h0 := by rw [← hh, Bd.state]; rfl
  have N0 := Fr.nil n0
  have hp' := hp
  obtain ⟨S_w_WAIT, E_w_WAIT, S_w_SUCCESS, E_w_SUCCESS, S_w_ERROR, E_w_ERROR, S_w_READY, E_w_READY, S_w_RUNNING, E_w_RUNNING, S_w_PENDING, E_w_PENDING, F_ordinal_w_WAIT, F_ordinal_w_SUCCESS, F_ordinal_w_ERROR, F_ordinal_w_READY, F_ordinal_w_RUNNING, F_ordinal_w_PENDING⟩ := hp'
  have pre0 : ∀ t, Steps p.tables e below (s₁.setTop (mkF m 0 #[.val (.int p1)] [])) t → Steps p.tables e below (s₁.setTop (entryFrame m #[(.int p1)] 1)) t := fun t k => castTop (ef_1_0 m p1) k
  obtain ⟨T1, X1, e1, st1⟩ := getS2 X0 hx hZ hown (host := "") (Or.inl (hw _ (List.mem_of_getElem? (i := 5) rfl))) Via.refl e0 (S_w_WAIT.ext O0.2) (g := (mkF m 4 #[.val (.int p1)] [])) rfl (hb hby d1_4)
  obtain ⟨fs, hr, hrun, hended, hW, hsame⟩ := X1.leave (v := some (.ref w_WAIT)) (fun h => by rw [Bd.returns] at h; cases h)
  refine ⟨_, _, pre0 _ ?_, hrun, hended, _, _, rfl, ?_, ⟨_, rfl⟩, hW, hsame.mono (by decide) (by decide)⟩
  · show Sp p e below s₁ (mkF m 0 #[.val (.int p1)] []) _
    refine XS.iloadN X0.here hx rfl (hb hby d1_0) rfl ?_
    show Sp p e below s₁ (mkF m 1 #[.val (.int p1)] [(.int p1)]) _
    refine XS.ifNo X0.here hx rfl (hb hby d1_1) rfl ((if0 _ _).trans (teq hc1).2) ?_
    show Sp p e below s₁ (mkF m 4 #[.val (.int p1)] []) _
    refine st1 _ ?_
    show Sp p e below T1 (mkF m 7 #[.val (.int p1)] [(.ref w_WAIT)]) _
    jvm_step X1.here [X1.here.top, hx, (hb hby d1_7), X1.method', Bd.returns, Value.isRef, FieldType.isReference]
    first | (intro acts; rw [hr _ acts rfl rfl rfl]) | rw [hr _ _ rfl rfl rfl]
    exact Steps.refl _
  · show Q1 Z w_WAIT w_SUCCESS w_ERROR w_READY w_RUNNING w_PENDING p1 h0 n0 _ T1.heap _
    rw [e1]
    exact ⟨rfl, N0, rfl⟩
theorem pd_0 : parseMethodDescriptor "(I)Lcom/example/graph_job_runner/graphjobrunner/NodeStatus;" = some ⟨[.int], some (.object "com/example/graph_job_runner/graphjobrunner/NodeStatus")⟩ := by decide +kernel
theorem d2_0 : decode prog_20_method_5_code 0 = .ok (.aload_n 0, 1) := by decide +kernel
theorem d2_1 : decode prog_20_method_5_code 1 = .ok (.getstatic 13, 3) := by decide +kernel
theorem d2_4 : decode prog_20_method_5_code 4 = .ok (.if_acmp .eq 10, 3) := by decide +kernel
theorem d2_7 : decode prog_20_method_5_code 7 = .ok (.aload_n 0, 1) := by decide +kernel
theorem d2_8 : decode prog_20_method_5_code 8 = .ok (.getstatic 16, 3) := by decide +kernel
theorem d2_11 : decode prog_20_method_5_code 11 = .ok (.if_acmp .ne 7, 3) := by decide +kernel
theorem d2_18 : decode prog_20_method_5_code 18 = .ok (.iconst 0, 1) := by decide +kernel
theorem d2_19 : decode prog_20_method_5_code 19 = .ok (.ireturn, 1) := by decide +kernel
abbrev y1 : MethodName := (⟨"com/example/graph_job_runner/graphjobrunner/NodeStatus", "hasFinished", "()Z"⟩ : MethodName)
theorem ef_2_0 (m : MethodId) (x0 : Addr) : entryFrame m #[(.ref x0)] 1 = mkF m 0 #[.val (.ref x0)] [] := by first | (simp [entryFrame, mkF, argsToLocals, Value.category]; done) | rfl
theorem pn_2 : plainName "com/example/graph_job_runner/graphjobrunner/NodeStatus" = true := by first | (simp [plainName, overriddenIn]; done) | decide +kernel
def Q2 (Z : State) (w_WAIT : Addr) (w_SUCCESS : Addr) (w_ERROR : Addr) (w_READY : Addr) (w_RUNNING : Addr) (w_PENDING : Addr) (h0 : Heap) (n0 : Nat) (v : Option Value) (h : Heap) (L : List Loc) : Prop := v = some (.int (0 : Int32)) ∧ Fr n0 L ∧ h = h0
set_option maxRecDepth 65536 in
set_option maxHeartbeats 40000000 in
theorem rm2 (l : Launch) (Z : State) (a0 : Array Value) (hw : ∀ d ∈ tables_1, d.before a0 Z = true) (ws : List Jvm.Cond) (w_WAIT w_SUCCESS w_ERROR w_READY w_RUNNING w_PENDING : Addr) (hp : Perm Z w_WAIT w_SUCCESS w_ERROR w_READY w_RUNNING w_PENDING) (h0 : Heap) (n0 : Nat) (O0 : Old Z n0 h0) :
    MetFree l y1 (head1 (Jvm.Cond.code y1 prog_20_method_5_code 1 (some .boolean) :: ws) ({ frames := 0, cells := 0, slots := 0, locals := 0 } : Room)) (fun a U => a = #[(.ref w_WAIT)] ∧ Z.Warmed39 U.vm ∧ U.heap = h0) (fun _ _ _ _ _ => True) (fun _ U o U' => ∃ v L, o = .returned v ∧ Q2 Z w_WAIT w_SUCCESS w_ERROR w_READY w_RUNNING w_PENDING  h0 n0 v U'.heap L ∧ FrameEnd U o U' L ({ frames := 0, cells := 0, slots := 0, locals := 0 } : Room).cells ({ frames := 0, cells := 0, slots := 0, locals := 0 } : Room).slots) := by
  refine MetFree.of_bodySF (plainFor_of_name pn_2) hisR ?_
  intro p e s m args below meth c s₁ Bd hml0 hP hK
  obtain ⟨rfl, hZ, hh⟩ := hP
  have hx := Bd.exec
  have hby := Bd.bytes
  have hml : c.maxLocals = 1 := hml0
  have hown : s.vm.findClass "com/example/graph_job_runner/graphjobrunner/NodeStatus" = some m.cls := findClass_of_methodNamed Bd.named
  have hnm := (name_of_methodNamed Bd.named Bd.method).1
  have X0 : Stand p l e ({ frames := 0, cells := 0, slots := 0, locals := 0 } : Room) s m #[(.ref w_WAIT)] below meth c s₁ [] 0 0 := Stand.of_body Bd
  have e0 : s₁.heap = h0 := by rw [← hh, Bd.state]; rfl
  have N0 := Fr.nil n0
  have hp' := hp
  obtain ⟨S_w_WAIT, E_w_WAIT, S_w_SUCCESS, E_w_SUCCESS, S_w_ERROR, E_w_ERROR, S_w_READY, E_w_READY, S_w_RUNNING, E_w_RUNNING, S_w_PENDING, E_w_PENDING, F_ordinal_w_WAIT, F_ordinal_w_SUCCESS, F_ordinal_w_ERROR, F_ordinal_w_READY, F_ordinal_w_RUNNING, F_ordinal_w_PENDING⟩ := hp'
  have pre0 : ∀ t, Steps p.tables e below (s₁.setTop (mkF m 0 #[.val (.ref w_WAIT)] [])) t → Steps p.tables e below (s₁.setTop (entryFrame m #[(.ref w_WAIT)] 1)) t := fun t k => castTop (ef_2_0 m w_WAIT) k
  obtain ⟨T1, X1, e1, st1⟩ := getS2 X0 hx hZ hown (host := "") (Or.inl (hw _ (List.mem_of_getElem? (i := 13) rfl))) Via.refl e0 (S_w_SUCCESS.ext O0.2) (g := (mkF m 1 #[.val (.ref w_WAIT)] [(.ref w_WAIT)])) rfl (hb hby d2_1)
  obtain ⟨T2, X2, e2, st2⟩ := getS2 X1 hx hZ hown (host := "") (Or.inl (hw _ (List.mem_of_getElem? (i := 15) rfl))) Via.refl e1 (S_w_ERROR.ext O0.2) (g := (mkF m 8 #[.val (.ref w_WAIT)] [(.ref w_WAIT)])) rfl (hb hby d2_8)
  obtain ⟨fs, hr, hrun, hended, hW, hsame⟩ := X2.leave (v := some (.int (0 : Int32))) (fun h => by rw [Bd.returns] at h; cases h)
  refine ⟨_, _, pre0 _ ?_, hrun, hended, _, _, rfl, ?_, ⟨_, rfl⟩, hW, hsame.mono (by decide) (by decide)⟩
  · show Sp p e below s₁ (mkF m 0 #[.val (.ref w_WAIT)] []) _
    refine XS.aloadN X0.here hx rfl (hb hby d2_0) rfl rfl ?_
    show Sp p e below s₁ (mkF m 1 #[.val (.ref w_WAIT)] [(.ref w_WAIT)]) _
    refine st1 _ ?_
    show Sp p e below T1 (mkF m 4 #[.val (.ref w_WAIT)] [(.ref w_SUCCESS), (.ref w_WAIT)]) _
    refine Jvm.RoadKit.acmp (g := (mkF m 4 #[.val (.ref w_WAIT)] [(.ref w_SUCCESS), (.ref w_WAIT)])) X1 hx rfl rfl rfl (pc0 := 4) (pc' := 7) (same := false) rfl (hb hby d2_4) rfl (decide_eq_false fun q => (ne_w_WAIT_w_SUCCESS hp) (Value.ref.inj q)) (by decide) (by decide) ?_
    show Sp p e below T1 (mkF m 7 #[.val (.ref w_WAIT)] []) _
    refine XS.aloadN X1.here hx rfl (hb hby d2_7) rfl rfl ?_
    show Sp p e below T1 (mkF m 8 #[.val (.ref w_WAIT)] [(.ref w_WAIT)]) _
    refine st2 _ ?_
    show Sp p e below T2 (mkF m 11 #[.val (.ref w_WAIT)] [(.ref w_ERROR), (.ref w_WAIT)]) _
    refine Jvm.RoadKit.acmp (g := (mkF m 11 #[.val (.ref w_WAIT)] [(.ref w_ERROR), (.ref w_WAIT)])) X2 hx rfl rfl rfl (pc0 := 11) (pc' := 18) (same := false) rfl (hb hby d2_11) rfl (decide_eq_false fun q => (ne_w_WAIT_w_ERROR hp) (Value.ref.inj q)) (by decide) (by decide) ?_
    show Sp p e below T2 (mkF m 18 #[.val (.ref w_WAIT)] []) _
    refine XS.iconst X2.here hx rfl (hb hby d2_18) ?_
    show Sp p e below T2 (mkF m 19 #[.val (.ref w_WAIT)] [(.int (0 : Int32))]) _
    exact retN X2 hx (t := .boolean) Bd.returns (by simp) (hb hby d2_19) hr
  · show Q2 Z w_WAIT w_SUCCESS w_ERROR w_READY w_RUNNING w_PENDING  h0 n0 _ T2.heap _
    rw [e2]
    exact ⟨rfl, N0, rfl⟩
theorem pd_1 : parseMethodDescriptor "()Z" = some ⟨[], some .boolean⟩ := by decide +kernel
theorem ef_0_0 (m : MethodId) (x0 : Int32) : entryFrame m #[(.int x0)] maxLocals = mkF m 0 #[.val (.int x0), .unset, .unset, .unset, .unset] [] := by first | (simp [entryFrame, mkF, argsToLocals, Value.category, maxLocals]; done) | rfl
set_option maxRecDepth 65536 in
set_option maxHeartbeats 40000000 in
theorem rm3 (l : Launch) (Z : State) (a0 : Array Value) (hw : ∀ d ∈ tables_1, d.before a0 Z = true) (ws : List Jvm.Cond) (w_WAIT w_SUCCESS w_ERROR w_READY w_RUNNING w_PENDING : Addr) (hp : Perm Z w_WAIT w_SUCCESS w_ERROR w_READY w_RUNNING w_PENDING) (p0 : Int32) (h0 : Heap) (n0 : Nat) (O0 : Old Z n0 h0) (hc1 : ((p0 &&& (2147483647 : Int32)) % (6 : Int32)) = (0 : Int32)) :
    MetFree l x (head1 (Jvm.Cond.code x code maxLocals ret :: ws) room_1) (fun a U => a = #[(.int p0)] ∧ Z.Warmed39 U.vm ∧ U.heap = h0) (fun _ _ _ _ _ => True) (fun _ U o U' => ∃ v L, o = .returned v ∧ (v = some (.int (1 : Int32)) ∧ Fr n0 L) ∧ FrameEnd U o U' L 0 0) := by
  refine MetFree.of_bodySF (plainFor_of_name pn_1) hisR ?_
  intro p e s m args below meth c s₁ Bd hml0 hP hK
  obtain ⟨rfl, hZ, hh⟩ := hP
  have hx := Bd.exec
  have hby := Bd.bytes
  have hml : c.maxLocals = 5 := hml0
  have hown : s.vm.findClass "com/example/graph_job_runner/graphjobrunner/NodeStatusHasFinishedPinLaw" = some m.cls := findClass_of_methodNamed Bd.named
  have hnm := (name_of_methodNamed Bd.named Bd.method).1
  have X0 : Stand p l e room_1 s m #[(.int p0)] below meth c s₁ [] 0 0 := Stand.of_body Bd
  have e0 : s₁.heap = h0 := by rw [← hh, Bd.state]; rfl
  have N0 := Fr.nil n0
  have hp' := hp
  obtain ⟨S_w_WAIT, E_w_WAIT, S_w_SUCCESS, E_w_SUCCESS, S_w_ERROR, E_w_ERROR, S_w_READY, E_w_READY, S_w_RUNNING, E_w_RUNNING, S_w_PENDING, E_w_PENDING, F_ordinal_w_WAIT, F_ordinal_w_SUCCESS, F_ordinal_w_ERROR, F_ordinal_w_READY, F_ordinal_w_RUNNING, F_ordinal_w_PENDING⟩ := hp'
  have pre0 : ∀ t, Steps p.tables e below (s₁.setTop (mkF m 0 #[.val (.int p0), .unset, .unset, .unset, .unset] [])) t → Steps p.tables e below (s₁.setTop (entryFrame m #[(.int p0)] maxLocals)) t := fun t k => castTop (ef_0_0 m p0) k
  obtain ⟨_, _, ⟨T1, L1, k1, n1⟩, -, X1, ⟨Lc1, hQ1, l1, y1, z1⟩, st1⟩ := Jvm.LawKit.callS X0 hx (y := y0) hown (mvT hZ (hw _ (List.mem_of_getElem? (i := 1) rfl))) (mvT hZ (hw _ (List.mem_of_getElem? (i := 2) rfl))) (mvT hZ (hw _ (List.mem_of_getElem? (i := 3) rfl))) (mvT hZ (hw _ (List.mem_of_getElem? (i := 4) rfl))) (by decide) (backOf (W := 0) (rm1 l Z a0 hw [] w_WAIT w_SUCCESS w_ERROR w_READY w_RUNNING w_PENDING hp ((p0 &&& (2147483647 : Int32)) % (6 : Int32)) h0 n0 O0 hc1) hZ (hw _ (List.mem_of_getElem? (i := 4) rfl)) (hw _ (List.mem_of_getElem? (i := 3) rfl)) (by decide) (by decide)) (g := (mkF m 9 #[.val (.int p0), .val (.int ((p0 &&& (2147483647 : Int32)) % (6 : Int32))), .unset, .unset, .unset] [(.int ((p0 &&& (2147483647 : Int32)) % (6 : Int32)))])) rfl (by rw [hml]; rfl) (argsL := [(.int ((p0 &&& (2147483647 : Int32)) % (6 : Int32)))]) (rest := []) (lenOf pd_0 rfl) rfl (by show 2 * 0 + _ ≤ _; exact Nat.le_of_eq rfl) (hb hby at_9) (fun _ _ => ⟨rfl, e0, (by decide : 0 + 0 ≤ _), (by decide : 0 + 0 ≤ _)⟩)
  dsimp only [Pt.U, Pt.locs, Pt.cells, Pt.slots] at X1 l1 y1 z1 st1 hQ1
  subst l1 y1 z1
  obtain ⟨rfl, Nq1, eq1⟩ := hQ1
  have N1 := Fr.app N0 Nq1
  obtain ⟨cq2, kq2, q2a, q2b, q2c⟩ := isOf hZ eq1 (E_w_WAIT.ext O0.2)
  obtain ⟨_, _, ⟨T2, L2, k2, n2⟩, -, X2, ⟨Lc2, hQ2, l2, y2, z2⟩, st2⟩ := X1.virtualBack hx (y := y1) (z := y1) hown (mvT hZ (hw _ (List.mem_of_getElem? (i := 8) rfl))) (mvT hZ (hw _ (List.mem_of_getElem? (i := 9) rfl))) (notFace_of_selects (args := #[]) (mvT hZ (hw _ (List.mem_of_getElem? (i := 11) rfl)))) (mvT hZ (hw _ (List.mem_of_getElem? (i := 11) rfl))) (mvT hZ (hw _ (List.mem_of_getElem? (i := 10) rfl))) (by decide) (backOf (W := 0) (rm2 l Z a0 hw [] w_WAIT w_SUCCESS w_ERROR w_READY w_RUNNING w_PENDING hp h0 n0 O0) hZ (hw _ (List.mem_of_getElem? (i := 12) rfl)) (hw _ (List.mem_of_getElem? (i := 6) rfl)) (by decide) (by decide)) q2a q2c (g := (mkF m 30 #[.val (.int p0), .val (.int ((p0 &&& (2147483647 : Int32)) % (6 : Int32))), .val (.ref w_WAIT), .val (.int (0 : Int32)), .unset] [(.ref w_WAIT)])) rfl (by rw [hml]; rfl) (Steps.refl _) (argsL := []) (rest := []) (lenOf pd_1 rfl) rfl (by show 2 * 0 + _ ≤ _; exact Nat.le_of_eq rfl) (hb hby at_30) (fun _ _ => ⟨rfl, eq1, (by decide : 0 + 0 ≤ _), (by decide : 0 + 0 ≤ _)⟩)
  dsimp only [Pt.U, Pt.locs, Pt.cells, Pt.slots] at X2 l2 y2 z2 st2 hQ2
  subst l2 y2 z2
  obtain ⟨rfl, Nq2, eq2⟩ := hQ2
  have N2 := Fr.app N1 Nq2
  obtain ⟨fs, hr, hrun, hended, hW, hsame⟩ := X2.leave (v := some (.int (1 : Int32))) (fun h => by rw [Bd.returns] at h; cases h)
  refine ⟨_, _, pre0 _ ?_, hrun, hended, _, _, rfl, ?_, ⟨_, rfl⟩, hW, hsame.mono (by decide) (by decide)⟩
  · show Sp p e below s₁ (mkF m 0 #[.val (.int p0), .unset, .unset, .unset, .unset] []) _
    refine XS.iloadN X0.here hx rfl (hb hby at_0) rfl ?_
    show Sp p e below s₁ (mkF m 1 #[.val (.int p0), .unset, .unset, .unset, .unset] [(.int p0)]) _
    refine X0.ldcI hx hown (mvT hZ (hw _ (List.mem_of_getElem? (i := 0) rfl))) rfl (hb hby at_1) ?_
    show Sp p e below s₁ (mkF m 3 #[.val (.int p0), .unset, .unset, .unset, .unset] [(.int (2147483647 : Int32)), (.int p0)]) _
    refine XS.iand X0.here hx rfl (hb hby at_3) rfl ?_
    show Sp p e below s₁ (mkF m 4 #[.val (.int p0), .unset, .unset, .unset, .unset] [(.int (p0 &&& (2147483647 : Int32)))]) _
    refine XS.bipush X0.here hx rfl (hb hby at_4) ?_
    show Sp p e below s₁ (mkF m 6 #[.val (.int p0), .unset, .unset, .unset, .unset] [(.int (6 : Int32)), (.int (p0 &&& (2147483647 : Int32)))]) _
    refine iremM X0 hx rfl (hb hby at_6) rfl (by decide) ?_
    show Sp p e below s₁ (mkF m 7 #[.val (.int p0), .unset, .unset, .unset, .unset] [(.int ((p0 &&& (2147483647 : Int32)) % (6 : Int32)))]) _
    refine XS.istoreN X0.here hx rfl (hb hby at_7) rfl (l' := #[.val (.int p0), .val (.int ((p0 &&& (2147483647 : Int32)) % (6 : Int32))), .unset, .unset, .unset]) rfl ?_
    show Sp p e below s₁ (mkF m 8 #[.val (.int p0), .val (.int ((p0 &&& (2147483647 : Int32)) % (6 : Int32))), .unset, .unset, .unset] []) _
    refine XS.iloadN X0.here hx rfl (hb hby at_8) rfl ?_
    show Sp p e below s₁ (mkF m 9 #[.val (.int p0), .val (.int ((p0 &&& (2147483647 : Int32)) % (6 : Int32))), .unset, .unset, .unset] [(.int ((p0 &&& (2147483647 : Int32)) % (6 : Int32)))]) _
    refine st1 _ ?_
    show Sp p e below T1 (mkF m 12 #[.val (.int p0), .val (.int ((p0 &&& (2147483647 : Int32)) % (6 : Int32))), .unset, .unset, .unset] [(.ref w_WAIT)]) _
    refine XS.astoreN X1.here hx rfl (hb hby at_12) rfl rfl (l' := #[.val (.int p0), .val (.int ((p0 &&& (2147483647 : Int32)) % (6 : Int32))), .val (.ref w_WAIT), .unset, .unset]) rfl ?_
    show Sp p e below T1 (mkF m 13 #[.val (.int p0), .val (.int ((p0 &&& (2147483647 : Int32)) % (6 : Int32))), .val (.ref w_WAIT), .unset, .unset] []) _
    refine XS.iloadN X1.here hx rfl (hb hby at_13) rfl ?_
    show Sp p e below T1 (mkF m 14 #[.val (.int p0), .val (.int ((p0 &&& (2147483647 : Int32)) % (6 : Int32))), .val (.ref w_WAIT), .unset, .unset] [(.int ((p0 &&& (2147483647 : Int32)) % (6 : Int32)))]) _
    refine XS.iconst X1.here hx rfl (hb hby at_14) ?_
    show Sp p e below T1 (mkF m 15 #[.val (.int p0), .val (.int ((p0 &&& (2147483647 : Int32)) % (6 : Int32))), .val (.ref w_WAIT), .unset, .unset] [(.int (3 : Int32)), (.int ((p0 &&& (2147483647 : Int32)) % (6 : Int32)))]) _
    refine XS.icmpNo X1.here hx rfl (hb hby at_15) rfl (feq (by rw [hc1]; decide : ¬ (((p0 &&& (2147483647 : Int32)) % (6 : Int32)) = (3 : Int32)))).1 ?_
    show Sp p e below T1 (mkF m 18 #[.val (.int p0), .val (.int ((p0 &&& (2147483647 : Int32)) % (6 : Int32))), .val (.ref w_WAIT), .unset, .unset] []) _
    refine XS.iloadN X1.here hx rfl (hb hby at_18) rfl ?_
    show Sp p e below T1 (mkF m 19 #[.val (.int p0), .val (.int ((p0 &&& (2147483647 : Int32)) % (6 : Int32))), .val (.ref w_WAIT), .unset, .unset] [(.int ((p0 &&& (2147483647 : Int32)) % (6 : Int32)))]) _
    refine XS.iconst X1.here hx rfl (hb hby at_19) ?_
    show Sp p e below T1 (mkF m 20 #[.val (.int p0), .val (.int ((p0 &&& (2147483647 : Int32)) % (6 : Int32))), .val (.ref w_WAIT), .unset, .unset] [(.int (4 : Int32)), (.int ((p0 &&& (2147483647 : Int32)) % (6 : Int32)))]) _
    refine XS.icmpYes X1.here hx rfl (pc0 := 20) (pc' := 27) rfl (hb hby at_20) rfl (feq (by rw [hc1]; decide : ¬ (((p0 &&& (2147483647 : Int32)) % (6 : Int32)) = (4 : Int32)))).2 (by decide) (by decide) ?_
    show Sp p e below T1 (mkF m 27 #[.val (.int p0), .val (.int ((p0 &&& (2147483647 : Int32)) % (6 : Int32))), .val (.ref w_WAIT), .unset, .unset] []) _
    refine XS.iconst X1.here hx rfl (hb hby at_27) ?_
    show Sp p e below T1 (mkF m 28 #[.val (.int p0), .val (.int ((p0 &&& (2147483647 : Int32)) % (6 : Int32))), .val (.ref w_WAIT), .unset, .unset] [(.int (0 : Int32))]) _
    refine XS.istoreN X1.here hx rfl (hb hby at_28) rfl (l' := #[.val (.int p0), .val (.int ((p0 &&& (2147483647 : Int32)) % (6 : Int32))), .val (.ref w_WAIT), .val (.int (0 : Int32)), .unset]) rfl ?_
    show Sp p e below T1 (mkF m 29 #[.val (.int p0), .val (.int ((p0 &&& (2147483647 : Int32)) % (6 : Int32))), .val (.ref w_WAIT), .val (.int (0 : Int32)), .unset] []) _
    refine XS.aloadN X1.here hx rfl (hb hby at_29) rfl rfl ?_
    show Sp p e below T1 (mkF m 30 #[.val (.int p0), .val (.int ((p0 &&& (2147483647 : Int32)) % (6 : Int32))), .val (.ref w_WAIT), .val (.int (0 : Int32)), .unset] [(.ref w_WAIT)]) _
    refine st2.trans ?_
    show Sp p e below T2 (mkF m 33 #[.val (.int p0), .val (.int ((p0 &&& (2147483647 : Int32)) % (6 : Int32))), .val (.ref w_WAIT), .val (.int (0 : Int32)), .unset] [(.int (0 : Int32))]) _
    refine XS.istore X2.here hx rfl (hb hby at_33) rfl (l' := #[.val (.int p0), .val (.int ((p0 &&& (2147483647 : Int32)) % (6 : Int32))), .val (.ref w_WAIT), .val (.int (0 : Int32)), .val (.int (0 : Int32))]) rfl ?_
    show Sp p e below T2 (mkF m 35 #[.val (.int p0), .val (.int ((p0 &&& (2147483647 : Int32)) % (6 : Int32))), .val (.ref w_WAIT), .val (.int (0 : Int32)), .val (.int (0 : Int32))] []) _
    refine XS.iload X2.here hx rfl (hb hby at_35) rfl ?_
    show Sp p e below T2 (mkF m 37 #[.val (.int p0), .val (.int ((p0 &&& (2147483647 : Int32)) % (6 : Int32))), .val (.ref w_WAIT), .val (.int (0 : Int32)), .val (.int (0 : Int32))] [(.int (0 : Int32))]) _
    refine XS.iloadN X2.here hx rfl (hb hby at_37) rfl ?_
    show Sp p e below T2 (mkF m 38 #[.val (.int p0), .val (.int ((p0 &&& (2147483647 : Int32)) % (6 : Int32))), .val (.ref w_WAIT), .val (.int (0 : Int32)), .val (.int (0 : Int32))] [(.int (0 : Int32)), (.int (0 : Int32))]) _
    refine XS.icmpYes X2.here hx rfl (pc0 := 38) (pc' := 43) rfl (hb hby at_38) rfl (teq (by decide : (0 : Int32) = (0 : Int32))).1 (by decide) (by decide) ?_
    show Sp p e below T2 (mkF m 43 #[.val (.int p0), .val (.int ((p0 &&& (2147483647 : Int32)) % (6 : Int32))), .val (.ref w_WAIT), .val (.int (0 : Int32)), .val (.int (0 : Int32))] []) _
    refine XS.iload X2.here hx rfl (hb hby at_43) rfl ?_
    show Sp p e below T2 (mkF m 45 #[.val (.int p0), .val (.int ((p0 &&& (2147483647 : Int32)) % (6 : Int32))), .val (.ref w_WAIT), .val (.int (0 : Int32)), .val (.int (0 : Int32))] [(.int (0 : Int32))]) _
    refine XS.ifYes X2.here hx rfl (pc0 := 45) (pc' := 57) rfl (hb hby at_45) rfl ((if0 _ _).trans (teq (by decide : (0 : Int32) = (0 : Int32))).1) (by decide) (by decide) ?_
    show Sp p e below T2 (mkF m 57 #[.val (.int p0), .val (.int ((p0 &&& (2147483647 : Int32)) % (6 : Int32))), .val (.ref w_WAIT), .val (.int (0 : Int32)), .val (.int (0 : Int32))] []) _
    refine XS.iconst X2.here hx rfl (hb hby at_57) ?_
    show Sp p e below T2 (mkF m 58 #[.val (.int p0), .val (.int ((p0 &&& (2147483647 : Int32)) % (6 : Int32))), .val (.ref w_WAIT), .val (.int (0 : Int32)), .val (.int (0 : Int32))] [(.int (1 : Int32))]) _
    exact retN X2 hx (t := .boolean) Bd.returns (by simp) (hb hby at_58) hr
  · skip
    exact ⟨rfl, N2⟩
theorem d1_8 : decode method_3_code 8 = .ok (.iload_n 0, 1) := by decide +kernel
theorem d1_9 : decode method_3_code 9 = .ok (.iconst 1, 1) := by decide +kernel
theorem d1_10 : decode method_3_code 10 = .ok (.if_icmp .ne 7, 3) := by decide +kernel
theorem d1_13 : decode method_3_code 13 = .ok (.getstatic 27, 3) := by decide +kernel
theorem d1_16 : decode method_3_code 16 = .ok (.areturn, 1) := by decide +kernel
def Q4 (Z : State) (w_WAIT : Addr) (w_SUCCESS : Addr) (w_ERROR : Addr) (w_READY : Addr) (w_RUNNING : Addr) (w_PENDING : Addr) (p1 : Int32) (h0 : Heap) (n0 : Nat) (v : Option Value) (h : Heap) (L : List Loc) : Prop := v = some (.ref w_READY) ∧ Fr n0 L ∧ h = h0
set_option maxRecDepth 65536 in
set_option maxHeartbeats 40000000 in
theorem rm4 (l : Launch) (Z : State) (a0 : Array Value) (hw : ∀ d ∈ tables_1, d.before a0 Z = true) (ws : List Jvm.Cond) (w_WAIT w_SUCCESS w_ERROR w_READY w_RUNNING w_PENDING : Addr) (hp : Perm Z w_WAIT w_SUCCESS w_ERROR w_READY w_RUNNING w_PENDING) (p1 : Int32) (h0 : Heap) (n0 : Nat) (O0 : Old Z n0 h0) (hc1 : ¬ (p1 = (0 : Int32))) (hc2 : p1 = (1 : Int32)) :
    MetFree l y0 (head1 (Jvm.Cond.code y0 method_3_code 1 (some (.object "com/example/graph_job_runner/graphjobrunner/NodeStatus")) :: ws) ({ frames := 0, cells := 0, slots := 0, locals := 0 } : Room)) (fun a U => a = #[(.int p1)] ∧ Z.Warmed39 U.vm ∧ U.heap = h0) (fun _ _ _ _ _ => True) (fun _ U o U' => ∃ v L, o = .returned v ∧ Q4 Z w_WAIT w_SUCCESS w_ERROR w_READY w_RUNNING w_PENDING p1 h0 n0 v U'.heap L ∧ FrameEnd U o U' L ({ frames := 0, cells := 0, slots := 0, locals := 0 } : Room).cells ({ frames := 0, cells := 0, slots := 0, locals := 0 } : Room).slots) := by
  refine MetFree.of_bodySF (plainFor_of_name pn_1) hisR ?_
  intro p e s m args below meth c s₁ Bd hml0 hP hK
  obtain ⟨rfl, hZ, hh⟩ := hP
  have hx := Bd.exec
  have hby := Bd.bytes
  have hml : c.maxLocals = 1 := hml0
  have hown : s.vm.findClass "com/example/graph_job_runner/graphjobrunner/NodeStatusHasFinishedPinLaw" = some m.cls := findClass_of_methodNamed Bd.named
  have hnm := (name_of_methodNamed Bd.named Bd.method).1
  have X0 : Stand p l e ({ frames := 0, cells := 0, slots := 0, locals := 0 } : Room) s m #[(.int p1)] below meth c s₁ [] 0 0 := Stand.of_body Bd
  have e0 : s₁.heap = h0 := by rw [← hh, Bd.state]; rfl
  have N0 := Fr.nil n0
  have hp' := hp
  obtain ⟨S_w_WAIT, E_w_WAIT, S_w_SUCCESS, E_w_SUCCESS, S_w_ERROR, E_w_ERROR, S_w_READY, E_w_READY, S_w_RUNNING, E_w_RUNNING, S_w_PENDING, E_w_PENDING, F_ordinal_w_WAIT, F_ordinal_w_SUCCESS, F_ordinal_w_ERROR, F_ordinal_w_READY, F_ordinal_w_RUNNING, F_ordinal_w_PENDING⟩ := hp'
  have pre0 : ∀ t, Steps p.tables e below (s₁.setTop (mkF m 0 #[.val (.int p1)] [])) t → Steps p.tables e below (s₁.setTop (entryFrame m #[(.int p1)] 1)) t := fun t k => castTop (ef_1_0 m p1) k
  obtain ⟨T1, X1, e1, st1⟩ := getS2 X0 hx hZ hown (host := "") (Or.inl (hw _ (List.mem_of_getElem? (i := 29) rfl))) Via.refl e0 (S_w_READY.ext O0.2) (g := (mkF m 13 #[.val (.int p1)] [])) rfl (hb hby d1_13)
  obtain ⟨fs, hr, hrun, hended, hW, hsame⟩ := X1.leave (v := some (.ref w_READY)) (fun h => by rw [Bd.returns] at h; cases h)
  refine ⟨_, _, pre0 _ ?_, hrun, hended, _, _, rfl, ?_, ⟨_, rfl⟩, hW, hsame.mono (by decide) (by decide)⟩
  · show Sp p e below s₁ (mkF m 0 #[.val (.int p1)] []) _
    refine XS.iloadN X0.here hx rfl (hb hby d1_0) rfl ?_
    show Sp p e below s₁ (mkF m 1 #[.val (.int p1)] [(.int p1)]) _
    refine XS.ifYes X0.here hx rfl (pc0 := 1) (pc' := 8) rfl (hb hby d1_1) rfl ((if0 _ _).trans (feq hc1).2) (by decide) (by decide) ?_
    show Sp p e below s₁ (mkF m 8 #[.val (.int p1)] []) _
    refine XS.iloadN X0.here hx rfl (hb hby d1_8) rfl ?_
    show Sp p e below s₁ (mkF m 9 #[.val (.int p1)] [(.int p1)]) _
    refine XS.iconst X0.here hx rfl (hb hby d1_9) ?_
    show Sp p e below s₁ (mkF m 10 #[.val (.int p1)] [(.int (1 : Int32)), (.int p1)]) _
    refine XS.icmpNo X0.here hx rfl (hb hby d1_10) rfl (teq hc2).2 ?_
    show Sp p e below s₁ (mkF m 13 #[.val (.int p1)] []) _
    refine st1 _ ?_
    show Sp p e below T1 (mkF m 16 #[.val (.int p1)] [(.ref w_READY)]) _
    jvm_step X1.here [X1.here.top, hx, (hb hby d1_16), X1.method', Bd.returns, Value.isRef, FieldType.isReference]
    first | (intro acts; rw [hr _ acts rfl rfl rfl]) | rw [hr _ _ rfl rfl rfl]
    exact Steps.refl _
  · show Q4 Z w_WAIT w_SUCCESS w_ERROR w_READY w_RUNNING w_PENDING p1 h0 n0 _ T1.heap _
    rw [e1]
    exact ⟨rfl, N0, rfl⟩
def Q5 (Z : State) (w_WAIT : Addr) (w_SUCCESS : Addr) (w_ERROR : Addr) (w_READY : Addr) (w_RUNNING : Addr) (w_PENDING : Addr) (h0 : Heap) (n0 : Nat) (v : Option Value) (h : Heap) (L : List Loc) : Prop := v = some (.int (0 : Int32)) ∧ Fr n0 L ∧ h = h0
set_option maxRecDepth 65536 in
set_option maxHeartbeats 40000000 in
theorem rm5 (l : Launch) (Z : State) (a0 : Array Value) (hw : ∀ d ∈ tables_1, d.before a0 Z = true) (ws : List Jvm.Cond) (w_WAIT w_SUCCESS w_ERROR w_READY w_RUNNING w_PENDING : Addr) (hp : Perm Z w_WAIT w_SUCCESS w_ERROR w_READY w_RUNNING w_PENDING) (h0 : Heap) (n0 : Nat) (O0 : Old Z n0 h0) :
    MetFree l y1 (head1 (Jvm.Cond.code y1 prog_20_method_5_code 1 (some .boolean) :: ws) ({ frames := 0, cells := 0, slots := 0, locals := 0 } : Room)) (fun a U => a = #[(.ref w_READY)] ∧ Z.Warmed39 U.vm ∧ U.heap = h0) (fun _ _ _ _ _ => True) (fun _ U o U' => ∃ v L, o = .returned v ∧ Q5 Z w_WAIT w_SUCCESS w_ERROR w_READY w_RUNNING w_PENDING  h0 n0 v U'.heap L ∧ FrameEnd U o U' L ({ frames := 0, cells := 0, slots := 0, locals := 0 } : Room).cells ({ frames := 0, cells := 0, slots := 0, locals := 0 } : Room).slots) := by
  refine MetFree.of_bodySF (plainFor_of_name pn_2) hisR ?_
  intro p e s m args below meth c s₁ Bd hml0 hP hK
  obtain ⟨rfl, hZ, hh⟩ := hP
  have hx := Bd.exec
  have hby := Bd.bytes
  have hml : c.maxLocals = 1 := hml0
  have hown : s.vm.findClass "com/example/graph_job_runner/graphjobrunner/NodeStatus" = some m.cls := findClass_of_methodNamed Bd.named
  have hnm := (name_of_methodNamed Bd.named Bd.method).1
  have X0 : Stand p l e ({ frames := 0, cells := 0, slots := 0, locals := 0 } : Room) s m #[(.ref w_READY)] below meth c s₁ [] 0 0 := Stand.of_body Bd
  have e0 : s₁.heap = h0 := by rw [← hh, Bd.state]; rfl
  have N0 := Fr.nil n0
  have hp' := hp
  obtain ⟨S_w_WAIT, E_w_WAIT, S_w_SUCCESS, E_w_SUCCESS, S_w_ERROR, E_w_ERROR, S_w_READY, E_w_READY, S_w_RUNNING, E_w_RUNNING, S_w_PENDING, E_w_PENDING, F_ordinal_w_WAIT, F_ordinal_w_SUCCESS, F_ordinal_w_ERROR, F_ordinal_w_READY, F_ordinal_w_RUNNING, F_ordinal_w_PENDING⟩ := hp'
  have pre0 : ∀ t, Steps p.tables e below (s₁.setTop (mkF m 0 #[.val (.ref w_READY)] [])) t → Steps p.tables e below (s₁.setTop (entryFrame m #[(.ref w_READY)] 1)) t := fun t k => castTop (ef_2_0 m w_READY) k
  obtain ⟨T1, X1, e1, st1⟩ := getS2 X0 hx hZ hown (host := "") (Or.inl (hw _ (List.mem_of_getElem? (i := 13) rfl))) Via.refl e0 (S_w_SUCCESS.ext O0.2) (g := (mkF m 1 #[.val (.ref w_READY)] [(.ref w_READY)])) rfl (hb hby d2_1)
  obtain ⟨T2, X2, e2, st2⟩ := getS2 X1 hx hZ hown (host := "") (Or.inl (hw _ (List.mem_of_getElem? (i := 15) rfl))) Via.refl e1 (S_w_ERROR.ext O0.2) (g := (mkF m 8 #[.val (.ref w_READY)] [(.ref w_READY)])) rfl (hb hby d2_8)
  obtain ⟨fs, hr, hrun, hended, hW, hsame⟩ := X2.leave (v := some (.int (0 : Int32))) (fun h => by rw [Bd.returns] at h; cases h)
  refine ⟨_, _, pre0 _ ?_, hrun, hended, _, _, rfl, ?_, ⟨_, rfl⟩, hW, hsame.mono (by decide) (by decide)⟩
  · show Sp p e below s₁ (mkF m 0 #[.val (.ref w_READY)] []) _
    refine XS.aloadN X0.here hx rfl (hb hby d2_0) rfl rfl ?_
    show Sp p e below s₁ (mkF m 1 #[.val (.ref w_READY)] [(.ref w_READY)]) _
    refine st1 _ ?_
    show Sp p e below T1 (mkF m 4 #[.val (.ref w_READY)] [(.ref w_SUCCESS), (.ref w_READY)]) _
    refine Jvm.RoadKit.acmp (g := (mkF m 4 #[.val (.ref w_READY)] [(.ref w_SUCCESS), (.ref w_READY)])) X1 hx rfl rfl rfl (pc0 := 4) (pc' := 7) (same := false) rfl (hb hby d2_4) rfl (decide_eq_false fun q => (Ne.symm (ne_w_SUCCESS_w_READY hp)) (Value.ref.inj q)) (by decide) (by decide) ?_
    show Sp p e below T1 (mkF m 7 #[.val (.ref w_READY)] []) _
    refine XS.aloadN X1.here hx rfl (hb hby d2_7) rfl rfl ?_
    show Sp p e below T1 (mkF m 8 #[.val (.ref w_READY)] [(.ref w_READY)]) _
    refine st2 _ ?_
    show Sp p e below T2 (mkF m 11 #[.val (.ref w_READY)] [(.ref w_ERROR), (.ref w_READY)]) _
    refine Jvm.RoadKit.acmp (g := (mkF m 11 #[.val (.ref w_READY)] [(.ref w_ERROR), (.ref w_READY)])) X2 hx rfl rfl rfl (pc0 := 11) (pc' := 18) (same := false) rfl (hb hby d2_11) rfl (decide_eq_false fun q => (Ne.symm (ne_w_ERROR_w_READY hp)) (Value.ref.inj q)) (by decide) (by decide) ?_
    show Sp p e below T2 (mkF m 18 #[.val (.ref w_READY)] []) _
    refine XS.iconst X2.here hx rfl (hb hby d2_18) ?_
    show Sp p e below T2 (mkF m 19 #[.val (.ref w_READY)] [(.int (0 : Int32))]) _
    exact retN X2 hx (t := .boolean) Bd.returns (by simp) (hb hby d2_19) hr
  · show Q5 Z w_WAIT w_SUCCESS w_ERROR w_READY w_RUNNING w_PENDING  h0 n0 _ T2.heap _
    rw [e2]
    exact ⟨rfl, N0, rfl⟩
set_option maxRecDepth 65536 in
set_option maxHeartbeats 40000000 in
theorem rm6 (l : Launch) (Z : State) (a0 : Array Value) (hw : ∀ d ∈ tables_1, d.before a0 Z = true) (ws : List Jvm.Cond) (w_WAIT w_SUCCESS w_ERROR w_READY w_RUNNING w_PENDING : Addr) (hp : Perm Z w_WAIT w_SUCCESS w_ERROR w_READY w_RUNNING w_PENDING) (p0 : Int32) (h0 : Heap) (n0 : Nat) (O0 : Old Z n0 h0) (hc1 : ¬ (((p0 &&& (2147483647 : Int32)) % (6 : Int32)) = (0 : Int32))) (hc2 : ((p0 &&& (2147483647 : Int32)) % (6 : Int32)) = (1 : Int32)) :
    MetFree l x (head1 (Jvm.Cond.code x code maxLocals ret :: ws) room_1) (fun a U => a = #[(.int p0)] ∧ Z.Warmed39 U.vm ∧ U.heap = h0) (fun _ _ _ _ _ => True) (fun _ U o U' => ∃ v L, o = .returned v ∧ (v = some (.int (1 : Int32)) ∧ Fr n0 L) ∧ FrameEnd U o U' L 0 0) := by
  refine MetFree.of_bodySF (plainFor_of_name pn_1) hisR ?_
  intro p e s m args below meth c s₁ Bd hml0 hP hK
  obtain ⟨rfl, hZ, hh⟩ := hP
  have hx := Bd.exec
  have hby := Bd.bytes
  have hml : c.maxLocals = 5 := hml0
  have hown : s.vm.findClass "com/example/graph_job_runner/graphjobrunner/NodeStatusHasFinishedPinLaw" = some m.cls := findClass_of_methodNamed Bd.named
  have hnm := (name_of_methodNamed Bd.named Bd.method).1
  have X0 : Stand p l e room_1 s m #[(.int p0)] below meth c s₁ [] 0 0 := Stand.of_body Bd
  have e0 : s₁.heap = h0 := by rw [← hh, Bd.state]; rfl
  have N0 := Fr.nil n0
  have hp' := hp
  obtain ⟨S_w_WAIT, E_w_WAIT, S_w_SUCCESS, E_w_SUCCESS, S_w_ERROR, E_w_ERROR, S_w_READY, E_w_READY, S_w_RUNNING, E_w_RUNNING, S_w_PENDING, E_w_PENDING, F_ordinal_w_WAIT, F_ordinal_w_SUCCESS, F_ordinal_w_ERROR, F_ordinal_w_READY, F_ordinal_w_RUNNING, F_ordinal_w_PENDING⟩ := hp'
  have pre0 : ∀ t, Steps p.tables e below (s₁.setTop (mkF m 0 #[.val (.int p0), .unset, .unset, .unset, .unset] [])) t → Steps p.tables e below (s₁.setTop (entryFrame m #[(.int p0)] maxLocals)) t := fun t k => castTop (ef_0_0 m p0) k
  obtain ⟨_, _, ⟨T1, L1, k1, n1⟩, -, X1, ⟨Lc1, hQ1, l1, y1, z1⟩, st1⟩ := Jvm.LawKit.callS X0 hx (y := y0) hown (mvT hZ (hw _ (List.mem_of_getElem? (i := 1) rfl))) (mvT hZ (hw _ (List.mem_of_getElem? (i := 2) rfl))) (mvT hZ (hw _ (List.mem_of_getElem? (i := 3) rfl))) (mvT hZ (hw _ (List.mem_of_getElem? (i := 4) rfl))) (by decide) (backOf (W := 0) (rm4 l Z a0 hw [] w_WAIT w_SUCCESS w_ERROR w_READY w_RUNNING w_PENDING hp ((p0 &&& (2147483647 : Int32)) % (6 : Int32)) h0 n0 O0 hc1 hc2) hZ (hw _ (List.mem_of_getElem? (i := 4) rfl)) (hw _ (List.mem_of_getElem? (i := 3) rfl)) (by decide) (by decide)) (g := (mkF m 9 #[.val (.int p0), .val (.int ((p0 &&& (2147483647 : Int32)) % (6 : Int32))), .unset, .unset, .unset] [(.int ((p0 &&& (2147483647 : Int32)) % (6 : Int32)))])) rfl (by rw [hml]; rfl) (argsL := [(.int ((p0 &&& (2147483647 : Int32)) % (6 : Int32)))]) (rest := []) (lenOf pd_0 rfl) rfl (by show 2 * 0 + _ ≤ _; exact Nat.le_of_eq rfl) (hb hby at_9) (fun _ _ => ⟨rfl, e0, (by decide : 0 + 0 ≤ _), (by decide : 0 + 0 ≤ _)⟩)
  dsimp only [Pt.U, Pt.locs, Pt.cells, Pt.slots] at X1 l1 y1 z1 st1 hQ1
  subst l1 y1 z1
  obtain ⟨rfl, Nq1, eq1⟩ := hQ1
  have N1 := Fr.app N0 Nq1
  obtain ⟨cq2, kq2, q2a, q2b, q2c⟩ := isOf hZ eq1 (E_w_READY.ext O0.2)
  obtain ⟨_, _, ⟨T2, L2, k2, n2⟩, -, X2, ⟨Lc2, hQ2, l2, y2, z2⟩, st2⟩ := X1.virtualBack hx (y := y1) (z := y1) hown (mvT hZ (hw _ (List.mem_of_getElem? (i := 8) rfl))) (mvT hZ (hw _ (List.mem_of_getElem? (i := 9) rfl))) (notFace_of_selects (args := #[]) (mvT hZ (hw _ (List.mem_of_getElem? (i := 11) rfl)))) (mvT hZ (hw _ (List.mem_of_getElem? (i := 11) rfl))) (mvT hZ (hw _ (List.mem_of_getElem? (i := 10) rfl))) (by decide) (backOf (W := 0) (rm5 l Z a0 hw [] w_WAIT w_SUCCESS w_ERROR w_READY w_RUNNING w_PENDING hp h0 n0 O0) hZ (hw _ (List.mem_of_getElem? (i := 12) rfl)) (hw _ (List.mem_of_getElem? (i := 6) rfl)) (by decide) (by decide)) q2a q2c (g := (mkF m 30 #[.val (.int p0), .val (.int ((p0 &&& (2147483647 : Int32)) % (6 : Int32))), .val (.ref w_READY), .val (.int (0 : Int32)), .unset] [(.ref w_READY)])) rfl (by rw [hml]; rfl) (Steps.refl _) (argsL := []) (rest := []) (lenOf pd_1 rfl) rfl (by show 2 * 0 + _ ≤ _; exact Nat.le_of_eq rfl) (hb hby at_30) (fun _ _ => ⟨rfl, eq1, (by decide : 0 + 0 ≤ _), (by decide : 0 + 0 ≤ _)⟩)
  dsimp only [Pt.U, Pt.locs, Pt.cells, Pt.slots] at X2 l2 y2 z2 st2 hQ2
  subst l2 y2 z2
  obtain ⟨rfl, Nq2, eq2⟩ := hQ2
  have N2 := Fr.app N1 Nq2
  obtain ⟨fs, hr, hrun, hended, hW, hsame⟩ := X2.leave (v := some (.int (1 : Int32))) (fun h => by rw [Bd.returns] at h; cases h)
  refine ⟨_, _, pre0 _ ?_, hrun, hended, _, _, rfl, ?_, ⟨_, rfl⟩, hW, hsame.mono (by decide) (by decide)⟩
  · show Sp p e below s₁ (mkF m 0 #[.val (.int p0), .unset, .unset, .unset, .unset] []) _
    refine XS.iloadN X0.here hx rfl (hb hby at_0) rfl ?_
    show Sp p e below s₁ (mkF m 1 #[.val (.int p0), .unset, .unset, .unset, .unset] [(.int p0)]) _
    refine X0.ldcI hx hown (mvT hZ (hw _ (List.mem_of_getElem? (i := 0) rfl))) rfl (hb hby at_1) ?_
    show Sp p e below s₁ (mkF m 3 #[.val (.int p0), .unset, .unset, .unset, .unset] [(.int (2147483647 : Int32)), (.int p0)]) _
    refine XS.iand X0.here hx rfl (hb hby at_3) rfl ?_
    show Sp p e below s₁ (mkF m 4 #[.val (.int p0), .unset, .unset, .unset, .unset] [(.int (p0 &&& (2147483647 : Int32)))]) _
    refine XS.bipush X0.here hx rfl (hb hby at_4) ?_
    show Sp p e below s₁ (mkF m 6 #[.val (.int p0), .unset, .unset, .unset, .unset] [(.int (6 : Int32)), (.int (p0 &&& (2147483647 : Int32)))]) _
    refine iremM X0 hx rfl (hb hby at_6) rfl (by decide) ?_
    show Sp p e below s₁ (mkF m 7 #[.val (.int p0), .unset, .unset, .unset, .unset] [(.int ((p0 &&& (2147483647 : Int32)) % (6 : Int32)))]) _
    refine XS.istoreN X0.here hx rfl (hb hby at_7) rfl (l' := #[.val (.int p0), .val (.int ((p0 &&& (2147483647 : Int32)) % (6 : Int32))), .unset, .unset, .unset]) rfl ?_
    show Sp p e below s₁ (mkF m 8 #[.val (.int p0), .val (.int ((p0 &&& (2147483647 : Int32)) % (6 : Int32))), .unset, .unset, .unset] []) _
    refine XS.iloadN X0.here hx rfl (hb hby at_8) rfl ?_
    show Sp p e below s₁ (mkF m 9 #[.val (.int p0), .val (.int ((p0 &&& (2147483647 : Int32)) % (6 : Int32))), .unset, .unset, .unset] [(.int ((p0 &&& (2147483647 : Int32)) % (6 : Int32)))]) _
    refine st1 _ ?_
    show Sp p e below T1 (mkF m 12 #[.val (.int p0), .val (.int ((p0 &&& (2147483647 : Int32)) % (6 : Int32))), .unset, .unset, .unset] [(.ref w_READY)]) _
    refine XS.astoreN X1.here hx rfl (hb hby at_12) rfl rfl (l' := #[.val (.int p0), .val (.int ((p0 &&& (2147483647 : Int32)) % (6 : Int32))), .val (.ref w_READY), .unset, .unset]) rfl ?_
    show Sp p e below T1 (mkF m 13 #[.val (.int p0), .val (.int ((p0 &&& (2147483647 : Int32)) % (6 : Int32))), .val (.ref w_READY), .unset, .unset] []) _
    refine XS.iloadN X1.here hx rfl (hb hby at_13) rfl ?_
    show Sp p e below T1 (mkF m 14 #[.val (.int p0), .val (.int ((p0 &&& (2147483647 : Int32)) % (6 : Int32))), .val (.ref w_READY), .unset, .unset] [(.int ((p0 &&& (2147483647 : Int32)) % (6 : Int32)))]) _
    refine XS.iconst X1.here hx rfl (hb hby at_14) ?_
    show Sp p e below T1 (mkF m 15 #[.val (.int p0), .val (.int ((p0 &&& (2147483647 : Int32)) % (6 : Int32))), .val (.ref w_READY), .unset, .unset] [(.int (3 : Int32)), (.int ((p0 &&& (2147483647 : Int32)) % (6 : Int32)))]) _
    refine XS.icmpNo X1.here hx rfl (hb hby at_15) rfl (feq (by rw [hc2]; decide : ¬ (((p0 &&& (2147483647 : Int32)) % (6 : Int32)) = (3 : Int32)))).1 ?_
    show Sp p e below T1 (mkF m 18 #[.val (.int p0), .val (.int ((p0 &&& (2147483647 : Int32)) % (6 : Int32))), .val (.ref w_READY), .unset, .unset] []) _
    refine XS.iloadN X1.here hx rfl (hb hby at_18) rfl ?_
    show Sp p e below T1 (mkF m 19 #[.val (.int p0), .val (.int ((p0 &&& (2147483647 : Int32)) % (6 : Int32))), .val (.ref w_READY), .unset, .unset] [(.int ((p0 &&& (2147483647 : Int32)) % (6 : Int32)))]) _
    refine XS.iconst X1.here hx rfl (hb hby at_19) ?_
    show Sp p e below T1 (mkF m 20 #[.val (.int p0), .val (.int ((p0 &&& (2147483647 : Int32)) % (6 : Int32))), .val (.ref w_READY), .unset, .unset] [(.int (4 : Int32)), (.int ((p0 &&& (2147483647 : Int32)) % (6 : Int32)))]) _
    refine XS.icmpYes X1.here hx rfl (pc0 := 20) (pc' := 27) rfl (hb hby at_20) rfl (feq (by rw [hc2]; decide : ¬ (((p0 &&& (2147483647 : Int32)) % (6 : Int32)) = (4 : Int32)))).2 (by decide) (by decide) ?_
    show Sp p e below T1 (mkF m 27 #[.val (.int p0), .val (.int ((p0 &&& (2147483647 : Int32)) % (6 : Int32))), .val (.ref w_READY), .unset, .unset] []) _
    refine XS.iconst X1.here hx rfl (hb hby at_27) ?_
    show Sp p e below T1 (mkF m 28 #[.val (.int p0), .val (.int ((p0 &&& (2147483647 : Int32)) % (6 : Int32))), .val (.ref w_READY), .unset, .unset] [(.int (0 : Int32))]) _
    refine XS.istoreN X1.here hx rfl (hb hby at_28) rfl (l' := #[.val (.int p0), .val (.int ((p0 &&& (2147483647 : Int32)) % (6 : Int32))), .val (.ref w_READY), .val (.int (0 : Int32)), .unset]) rfl ?_
    show Sp p e below T1 (mkF m 29 #[.val (.int p0), .val (.int ((p0 &&& (2147483647 : Int32)) % (6 : Int32))), .val (.ref w_READY), .val (.int (0 : Int32)), .unset] []) _
    refine XS.aloadN X1.here hx rfl (hb hby at_29) rfl rfl ?_
    show Sp p e below T1 (mkF m 30 #[.val (.int p0), .val (.int ((p0 &&& (2147483647 : Int32)) % (6 : Int32))), .val (.ref w_READY), .val (.int (0 : Int32)), .unset] [(.ref w_READY)]) _
    refine st2.trans ?_
    show Sp p e below T2 (mkF m 33 #[.val (.int p0), .val (.int ((p0 &&& (2147483647 : Int32)) % (6 : Int32))), .val (.ref w_READY), .val (.int (0 : Int32)), .unset] [(.int (0 : Int32))]) _
    refine XS.istore X2.here hx rfl (hb hby at_33) rfl (l' := #[.val (.int p0), .val (.int ((p0 &&& (2147483647 : Int32)) % (6 : Int32))), .val (.ref w_READY), .val (.int (0 : Int32)), .val (.int (0 : Int32))]) rfl ?_
    show Sp p e below T2 (mkF m 35 #[.val (.int p0), .val (.int ((p0 &&& (2147483647 : Int32)) % (6 : Int32))), .val (.ref w_READY), .val (.int (0 : Int32)), .val (.int (0 : Int32))] []) _
    refine XS.iload X2.here hx rfl (hb hby at_35) rfl ?_
    show Sp p e below T2 (mkF m 37 #[.val (.int p0), .val (.int ((p0 &&& (2147483647 : Int32)) % (6 : Int32))), .val (.ref w_READY), .val (.int (0 : Int32)), .val (.int (0 : Int32))] [(.int (0 : Int32))]) _
    refine XS.iloadN X2.here hx rfl (hb hby at_37) rfl ?_
    show Sp p e below T2 (mkF m 38 #[.val (.int p0), .val (.int ((p0 &&& (2147483647 : Int32)) % (6 : Int32))), .val (.ref w_READY), .val (.int (0 : Int32)), .val (.int (0 : Int32))] [(.int (0 : Int32)), (.int (0 : Int32))]) _
    refine XS.icmpYes X2.here hx rfl (pc0 := 38) (pc' := 43) rfl (hb hby at_38) rfl (teq (by decide : (0 : Int32) = (0 : Int32))).1 (by decide) (by decide) ?_
    show Sp p e below T2 (mkF m 43 #[.val (.int p0), .val (.int ((p0 &&& (2147483647 : Int32)) % (6 : Int32))), .val (.ref w_READY), .val (.int (0 : Int32)), .val (.int (0 : Int32))] []) _
    refine XS.iload X2.here hx rfl (hb hby at_43) rfl ?_
    show Sp p e below T2 (mkF m 45 #[.val (.int p0), .val (.int ((p0 &&& (2147483647 : Int32)) % (6 : Int32))), .val (.ref w_READY), .val (.int (0 : Int32)), .val (.int (0 : Int32))] [(.int (0 : Int32))]) _
    refine XS.ifYes X2.here hx rfl (pc0 := 45) (pc' := 57) rfl (hb hby at_45) rfl ((if0 _ _).trans (teq (by decide : (0 : Int32) = (0 : Int32))).1) (by decide) (by decide) ?_
    show Sp p e below T2 (mkF m 57 #[.val (.int p0), .val (.int ((p0 &&& (2147483647 : Int32)) % (6 : Int32))), .val (.ref w_READY), .val (.int (0 : Int32)), .val (.int (0 : Int32))] []) _
    refine XS.iconst X2.here hx rfl (hb hby at_57) ?_
    show Sp p e below T2 (mkF m 58 #[.val (.int p0), .val (.int ((p0 &&& (2147483647 : Int32)) % (6 : Int32))), .val (.ref w_READY), .val (.int (0 : Int32)), .val (.int (0 : Int32))] [(.int (1 : Int32))]) _
    exact retN X2 hx (t := .boolean) Bd.returns (by simp) (hb hby at_58) hr
  · skip
    exact ⟨rfl, N2⟩
theorem d1_17 : decode method_3_code 17 = .ok (.iload_n 0, 1) := by decide +kernel
theorem d1_18 : decode method_3_code 18 = .ok (.iconst 2, 1) := by decide +kernel
theorem d1_19 : decode method_3_code 19 = .ok (.if_icmp .ne 7, 3) := by decide +kernel
theorem d1_22 : decode method_3_code 22 = .ok (.getstatic 30, 3) := by decide +kernel
theorem d1_25 : decode method_3_code 25 = .ok (.areturn, 1) := by decide +kernel
def Q7 (Z : State) (w_WAIT : Addr) (w_SUCCESS : Addr) (w_ERROR : Addr) (w_READY : Addr) (w_RUNNING : Addr) (w_PENDING : Addr) (p1 : Int32) (h0 : Heap) (n0 : Nat) (v : Option Value) (h : Heap) (L : List Loc) : Prop := v = some (.ref w_RUNNING) ∧ Fr n0 L ∧ h = h0
set_option maxRecDepth 65536 in
set_option maxHeartbeats 40000000 in
theorem rm7 (l : Launch) (Z : State) (a0 : Array Value) (hw : ∀ d ∈ tables_1, d.before a0 Z = true) (ws : List Jvm.Cond) (w_WAIT w_SUCCESS w_ERROR w_READY w_RUNNING w_PENDING : Addr) (hp : Perm Z w_WAIT w_SUCCESS w_ERROR w_READY w_RUNNING w_PENDING) (p1 : Int32) (h0 : Heap) (n0 : Nat) (O0 : Old Z n0 h0) (hc1 : ¬ (p1 = (0 : Int32))) (hc2 : ¬ (p1 = (1 : Int32))) (hc3 : p1 = (2 : Int32)) :
    MetFree l y0 (head1 (Jvm.Cond.code y0 method_3_code 1 (some (.object "com/example/graph_job_runner/graphjobrunner/NodeStatus")) :: ws) ({ frames := 0, cells := 0, slots := 0, locals := 0 } : Room)) (fun a U => a = #[(.int p1)] ∧ Z.Warmed39 U.vm ∧ U.heap = h0) (fun _ _ _ _ _ => True) (fun _ U o U' => ∃ v L, o = .returned v ∧ Q7 Z w_WAIT w_SUCCESS w_ERROR w_READY w_RUNNING w_PENDING p1 h0 n0 v U'.heap L ∧ FrameEnd U o U' L ({ frames := 0, cells := 0, slots := 0, locals := 0 } : Room).cells ({ frames := 0, cells := 0, slots := 0, locals := 0 } : Room).slots) := by
  refine MetFree.of_bodySF (plainFor_of_name pn_1) hisR ?_
  intro p e s m args below meth c s₁ Bd hml0 hP hK
  obtain ⟨rfl, hZ, hh⟩ := hP
  have hx := Bd.exec
  have hby := Bd.bytes
  have hml : c.maxLocals = 1 := hml0
  have hown : s.vm.findClass "com/example/graph_job_runner/graphjobrunner/NodeStatusHasFinishedPinLaw" = some m.cls := findClass_of_methodNamed Bd.named
  have hnm := (name_of_methodNamed Bd.named Bd.method).1
  have X0 : Stand p l e ({ frames := 0, cells := 0, slots := 0, locals := 0 } : Room) s m #[(.int p1)] below meth c s₁ [] 0 0 := Stand.of_body Bd
  have e0 : s₁.heap = h0 := by rw [← hh, Bd.state]; rfl
  have N0 := Fr.nil n0
  have hp' := hp
  obtain ⟨S_w_WAIT, E_w_WAIT, S_w_SUCCESS, E_w_SUCCESS, S_w_ERROR, E_w_ERROR, S_w_READY, E_w_READY, S_w_RUNNING, E_w_RUNNING, S_w_PENDING, E_w_PENDING, F_ordinal_w_WAIT, F_ordinal_w_SUCCESS, F_ordinal_w_ERROR, F_ordinal_w_READY, F_ordinal_w_RUNNING, F_ordinal_w_PENDING⟩ := hp'
  have pre0 : ∀ t, Steps p.tables e below (s₁.setTop (mkF m 0 #[.val (.int p1)] [])) t → Steps p.tables e below (s₁.setTop (entryFrame m #[(.int p1)] 1)) t := fun t k => castTop (ef_1_0 m p1) k
  obtain ⟨T1, X1, e1, st1⟩ := getS2 X0 hx hZ hown (host := "") (Or.inl (hw _ (List.mem_of_getElem? (i := 28) rfl))) Via.refl e0 (S_w_RUNNING.ext O0.2) (g := (mkF m 22 #[.val (.int p1)] [])) rfl (hb hby d1_22)
  obtain ⟨fs, hr, hrun, hended, hW, hsame⟩ := X1.leave (v := some (.ref w_RUNNING)) (fun h => by rw [Bd.returns] at h; cases h)
  refine ⟨_, _, pre0 _ ?_, hrun, hended, _, _, rfl, ?_, ⟨_, rfl⟩, hW, hsame.mono (by decide) (by decide)⟩
  · show Sp p e below s₁ (mkF m 0 #[.val (.int p1)] []) _
    refine XS.iloadN X0.here hx rfl (hb hby d1_0) rfl ?_
    show Sp p e below s₁ (mkF m 1 #[.val (.int p1)] [(.int p1)]) _
    refine XS.ifYes X0.here hx rfl (pc0 := 1) (pc' := 8) rfl (hb hby d1_1) rfl ((if0 _ _).trans (feq hc1).2) (by decide) (by decide) ?_
    show Sp p e below s₁ (mkF m 8 #[.val (.int p1)] []) _
    refine XS.iloadN X0.here hx rfl (hb hby d1_8) rfl ?_
    show Sp p e below s₁ (mkF m 9 #[.val (.int p1)] [(.int p1)]) _
    refine XS.iconst X0.here hx rfl (hb hby d1_9) ?_
    show Sp p e below s₁ (mkF m 10 #[.val (.int p1)] [(.int (1 : Int32)), (.int p1)]) _
    refine XS.icmpYes X0.here hx rfl (pc0 := 10) (pc' := 17) rfl (hb hby d1_10) rfl (feq hc2).2 (by decide) (by decide) ?_
    show Sp p e below s₁ (mkF m 17 #[.val (.int p1)] []) _
    refine XS.iloadN X0.here hx rfl (hb hby d1_17) rfl ?_
    show Sp p e below s₁ (mkF m 18 #[.val (.int p1)] [(.int p1)]) _
    refine XS.iconst X0.here hx rfl (hb hby d1_18) ?_
    show Sp p e below s₁ (mkF m 19 #[.val (.int p1)] [(.int (2 : Int32)), (.int p1)]) _
    refine XS.icmpNo X0.here hx rfl (hb hby d1_19) rfl (teq hc3).2 ?_
    show Sp p e below s₁ (mkF m 22 #[.val (.int p1)] []) _
    refine st1 _ ?_
    show Sp p e below T1 (mkF m 25 #[.val (.int p1)] [(.ref w_RUNNING)]) _
    jvm_step X1.here [X1.here.top, hx, (hb hby d1_25), X1.method', Bd.returns, Value.isRef, FieldType.isReference]
    first | (intro acts; rw [hr _ acts rfl rfl rfl]) | rw [hr _ _ rfl rfl rfl]
    exact Steps.refl _
  · show Q7 Z w_WAIT w_SUCCESS w_ERROR w_READY w_RUNNING w_PENDING p1 h0 n0 _ T1.heap _
    rw [e1]
    exact ⟨rfl, N0, rfl⟩
def Q8 (Z : State) (w_WAIT : Addr) (w_SUCCESS : Addr) (w_ERROR : Addr) (w_READY : Addr) (w_RUNNING : Addr) (w_PENDING : Addr) (h0 : Heap) (n0 : Nat) (v : Option Value) (h : Heap) (L : List Loc) : Prop := v = some (.int (0 : Int32)) ∧ Fr n0 L ∧ h = h0
set_option maxRecDepth 65536 in
set_option maxHeartbeats 40000000 in
theorem rm8 (l : Launch) (Z : State) (a0 : Array Value) (hw : ∀ d ∈ tables_1, d.before a0 Z = true) (ws : List Jvm.Cond) (w_WAIT w_SUCCESS w_ERROR w_READY w_RUNNING w_PENDING : Addr) (hp : Perm Z w_WAIT w_SUCCESS w_ERROR w_READY w_RUNNING w_PENDING) (h0 : Heap) (n0 : Nat) (O0 : Old Z n0 h0) :
    MetFree l y1 (head1 (Jvm.Cond.code y1 prog_20_method_5_code 1 (some .boolean) :: ws) ({ frames := 0, cells := 0, slots := 0, locals := 0 } : Room)) (fun a U => a = #[(.ref w_RUNNING)] ∧ Z.Warmed39 U.vm ∧ U.heap = h0) (fun _ _ _ _ _ => True) (fun _ U o U' => ∃ v L, o = .returned v ∧ Q8 Z w_WAIT w_SUCCESS w_ERROR w_READY w_RUNNING w_PENDING  h0 n0 v U'.heap L ∧ FrameEnd U o U' L ({ frames := 0, cells := 0, slots := 0, locals := 0 } : Room).cells ({ frames := 0, cells := 0, slots := 0, locals := 0 } : Room).slots) := by
  refine MetFree.of_bodySF (plainFor_of_name pn_2) hisR ?_
  intro p e s m args below meth c s₁ Bd hml0 hP hK
  obtain ⟨rfl, hZ, hh⟩ := hP
  have hx := Bd.exec
  have hby := Bd.bytes
  have hml : c.maxLocals = 1 := hml0
  have hown : s.vm.findClass "com/example/graph_job_runner/graphjobrunner/NodeStatus" = some m.cls := findClass_of_methodNamed Bd.named
  have hnm := (name_of_methodNamed Bd.named Bd.method).1
  have X0 : Stand p l e ({ frames := 0, cells := 0, slots := 0, locals := 0 } : Room) s m #[(.ref w_RUNNING)] below meth c s₁ [] 0 0 := Stand.of_body Bd
  have e0 : s₁.heap = h0 := by rw [← hh, Bd.state]; rfl
  have N0 := Fr.nil n0
  have hp' := hp
  obtain ⟨S_w_WAIT, E_w_WAIT, S_w_SUCCESS, E_w_SUCCESS, S_w_ERROR, E_w_ERROR, S_w_READY, E_w_READY, S_w_RUNNING, E_w_RUNNING, S_w_PENDING, E_w_PENDING, F_ordinal_w_WAIT, F_ordinal_w_SUCCESS, F_ordinal_w_ERROR, F_ordinal_w_READY, F_ordinal_w_RUNNING, F_ordinal_w_PENDING⟩ := hp'
  have pre0 : ∀ t, Steps p.tables e below (s₁.setTop (mkF m 0 #[.val (.ref w_RUNNING)] [])) t → Steps p.tables e below (s₁.setTop (entryFrame m #[(.ref w_RUNNING)] 1)) t := fun t k => castTop (ef_2_0 m w_RUNNING) k
  obtain ⟨T1, X1, e1, st1⟩ := getS2 X0 hx hZ hown (host := "") (Or.inl (hw _ (List.mem_of_getElem? (i := 13) rfl))) Via.refl e0 (S_w_SUCCESS.ext O0.2) (g := (mkF m 1 #[.val (.ref w_RUNNING)] [(.ref w_RUNNING)])) rfl (hb hby d2_1)
  obtain ⟨T2, X2, e2, st2⟩ := getS2 X1 hx hZ hown (host := "") (Or.inl (hw _ (List.mem_of_getElem? (i := 15) rfl))) Via.refl e1 (S_w_ERROR.ext O0.2) (g := (mkF m 8 #[.val (.ref w_RUNNING)] [(.ref w_RUNNING)])) rfl (hb hby d2_8)
  obtain ⟨fs, hr, hrun, hended, hW, hsame⟩ := X2.leave (v := some (.int (0 : Int32))) (fun h => by rw [Bd.returns] at h; cases h)
  refine ⟨_, _, pre0 _ ?_, hrun, hended, _, _, rfl, ?_, ⟨_, rfl⟩, hW, hsame.mono (by decide) (by decide)⟩
  · show Sp p e below s₁ (mkF m 0 #[.val (.ref w_RUNNING)] []) _
    refine XS.aloadN X0.here hx rfl (hb hby d2_0) rfl rfl ?_
    show Sp p e below s₁ (mkF m 1 #[.val (.ref w_RUNNING)] [(.ref w_RUNNING)]) _
    refine st1 _ ?_
    show Sp p e below T1 (mkF m 4 #[.val (.ref w_RUNNING)] [(.ref w_SUCCESS), (.ref w_RUNNING)]) _
    refine Jvm.RoadKit.acmp (g := (mkF m 4 #[.val (.ref w_RUNNING)] [(.ref w_SUCCESS), (.ref w_RUNNING)])) X1 hx rfl rfl rfl (pc0 := 4) (pc' := 7) (same := false) rfl (hb hby d2_4) rfl (decide_eq_false fun q => (Ne.symm (ne_w_SUCCESS_w_RUNNING hp)) (Value.ref.inj q)) (by decide) (by decide) ?_
    show Sp p e below T1 (mkF m 7 #[.val (.ref w_RUNNING)] []) _
    refine XS.aloadN X1.here hx rfl (hb hby d2_7) rfl rfl ?_
    show Sp p e below T1 (mkF m 8 #[.val (.ref w_RUNNING)] [(.ref w_RUNNING)]) _
    refine st2 _ ?_
    show Sp p e below T2 (mkF m 11 #[.val (.ref w_RUNNING)] [(.ref w_ERROR), (.ref w_RUNNING)]) _
    refine Jvm.RoadKit.acmp (g := (mkF m 11 #[.val (.ref w_RUNNING)] [(.ref w_ERROR), (.ref w_RUNNING)])) X2 hx rfl rfl rfl (pc0 := 11) (pc' := 18) (same := false) rfl (hb hby d2_11) rfl (decide_eq_false fun q => (Ne.symm (ne_w_ERROR_w_RUNNING hp)) (Value.ref.inj q)) (by decide) (by decide) ?_
    show Sp p e below T2 (mkF m 18 #[.val (.ref w_RUNNING)] []) _
    refine XS.iconst X2.here hx rfl (hb hby d2_18) ?_
    show Sp p e below T2 (mkF m 19 #[.val (.ref w_RUNNING)] [(.int (0 : Int32))]) _
    exact retN X2 hx (t := .boolean) Bd.returns (by simp) (hb hby d2_19) hr
  · show Q8 Z w_WAIT w_SUCCESS w_ERROR w_READY w_RUNNING w_PENDING  h0 n0 _ T2.heap _
    rw [e2]
    exact ⟨rfl, N0, rfl⟩
set_option maxRecDepth 65536 in
set_option maxHeartbeats 40000000 in
theorem rm9 (l : Launch) (Z : State) (a0 : Array Value) (hw : ∀ d ∈ tables_1, d.before a0 Z = true) (ws : List Jvm.Cond) (w_WAIT w_SUCCESS w_ERROR w_READY w_RUNNING w_PENDING : Addr) (hp : Perm Z w_WAIT w_SUCCESS w_ERROR w_READY w_RUNNING w_PENDING) (p0 : Int32) (h0 : Heap) (n0 : Nat) (O0 : Old Z n0 h0) (hc1 : ¬ (((p0 &&& (2147483647 : Int32)) % (6 : Int32)) = (0 : Int32))) (hc2 : ¬ (((p0 &&& (2147483647 : Int32)) % (6 : Int32)) = (1 : Int32))) (hc3 : ((p0 &&& (2147483647 : Int32)) % (6 : Int32)) = (2 : Int32)) :
    MetFree l x (head1 (Jvm.Cond.code x code maxLocals ret :: ws) room_1) (fun a U => a = #[(.int p0)] ∧ Z.Warmed39 U.vm ∧ U.heap = h0) (fun _ _ _ _ _ => True) (fun _ U o U' => ∃ v L, o = .returned v ∧ (v = some (.int (1 : Int32)) ∧ Fr n0 L) ∧ FrameEnd U o U' L 0 0) := by
  refine MetFree.of_bodySF (plainFor_of_name pn_1) hisR ?_
  intro p e s m args below meth c s₁ Bd hml0 hP hK
  obtain ⟨rfl, hZ, hh⟩ := hP
  have hx := Bd.exec
  have hby := Bd.bytes
  have hml : c.maxLocals = 5 := hml0
  have hown : s.vm.findClass "com/example/graph_job_runner/graphjobrunner/NodeStatusHasFinishedPinLaw" = some m.cls := findClass_of_methodNamed Bd.named
  have hnm := (name_of_methodNamed Bd.named Bd.method).1
  have X0 : Stand p l e room_1 s m #[(.int p0)] below meth c s₁ [] 0 0 := Stand.of_body Bd
  have e0 : s₁.heap = h0 := by rw [← hh, Bd.state]; rfl
  have N0 := Fr.nil n0
  have hp' := hp
  obtain ⟨S_w_WAIT, E_w_WAIT, S_w_SUCCESS, E_w_SUCCESS, S_w_ERROR, E_w_ERROR, S_w_READY, E_w_READY, S_w_RUNNING, E_w_RUNNING, S_w_PENDING, E_w_PENDING, F_ordinal_w_WAIT, F_ordinal_w_SUCCESS, F_ordinal_w_ERROR, F_ordinal_w_READY, F_ordinal_w_RUNNING, F_ordinal_w_PENDING⟩ := hp'
  have pre0 : ∀ t, Steps p.tables e below (s₁.setTop (mkF m 0 #[.val (.int p0), .unset, .unset, .unset, .unset] [])) t → Steps p.tables e below (s₁.setTop (entryFrame m #[(.int p0)] maxLocals)) t := fun t k => castTop (ef_0_0 m p0) k
  obtain ⟨_, _, ⟨T1, L1, k1, n1⟩, -, X1, ⟨Lc1, hQ1, l1, y1, z1⟩, st1⟩ := Jvm.LawKit.callS X0 hx (y := y0) hown (mvT hZ (hw _ (List.mem_of_getElem? (i := 1) rfl))) (mvT hZ (hw _ (List.mem_of_getElem? (i := 2) rfl))) (mvT hZ (hw _ (List.mem_of_getElem? (i := 3) rfl))) (mvT hZ (hw _ (List.mem_of_getElem? (i := 4) rfl))) (by decide) (backOf (W := 0) (rm7 l Z a0 hw [] w_WAIT w_SUCCESS w_ERROR w_READY w_RUNNING w_PENDING hp ((p0 &&& (2147483647 : Int32)) % (6 : Int32)) h0 n0 O0 hc1 hc2 hc3) hZ (hw _ (List.mem_of_getElem? (i := 4) rfl)) (hw _ (List.mem_of_getElem? (i := 3) rfl)) (by decide) (by decide)) (g := (mkF m 9 #[.val (.int p0), .val (.int ((p0 &&& (2147483647 : Int32)) % (6 : Int32))), .unset, .unset, .unset] [(.int ((p0 &&& (2147483647 : Int32)) % (6 : Int32)))])) rfl (by rw [hml]; rfl) (argsL := [(.int ((p0 &&& (2147483647 : Int32)) % (6 : Int32)))]) (rest := []) (lenOf pd_0 rfl) rfl (by show 2 * 0 + _ ≤ _; exact Nat.le_of_eq rfl) (hb hby at_9) (fun _ _ => ⟨rfl, e0, (by decide : 0 + 0 ≤ _), (by decide : 0 + 0 ≤ _)⟩)
  dsimp only [Pt.U, Pt.locs, Pt.cells, Pt.slots] at X1 l1 y1 z1 st1 hQ1
  subst l1 y1 z1
  obtain ⟨rfl, Nq1, eq1⟩ := hQ1
  have N1 := Fr.app N0 Nq1
  obtain ⟨cq2, kq2, q2a, q2b, q2c⟩ := isOf hZ eq1 (E_w_RUNNING.ext O0.2)
  obtain ⟨_, _, ⟨T2, L2, k2, n2⟩, -, X2, ⟨Lc2, hQ2, l2, y2, z2⟩, st2⟩ := X1.virtualBack hx (y := y1) (z := y1) hown (mvT hZ (hw _ (List.mem_of_getElem? (i := 8) rfl))) (mvT hZ (hw _ (List.mem_of_getElem? (i := 9) rfl))) (notFace_of_selects (args := #[]) (mvT hZ (hw _ (List.mem_of_getElem? (i := 11) rfl)))) (mvT hZ (hw _ (List.mem_of_getElem? (i := 11) rfl))) (mvT hZ (hw _ (List.mem_of_getElem? (i := 10) rfl))) (by decide) (backOf (W := 0) (rm8 l Z a0 hw [] w_WAIT w_SUCCESS w_ERROR w_READY w_RUNNING w_PENDING hp h0 n0 O0) hZ (hw _ (List.mem_of_getElem? (i := 12) rfl)) (hw _ (List.mem_of_getElem? (i := 6) rfl)) (by decide) (by decide)) q2a q2c (g := (mkF m 30 #[.val (.int p0), .val (.int ((p0 &&& (2147483647 : Int32)) % (6 : Int32))), .val (.ref w_RUNNING), .val (.int (0 : Int32)), .unset] [(.ref w_RUNNING)])) rfl (by rw [hml]; rfl) (Steps.refl _) (argsL := []) (rest := []) (lenOf pd_1 rfl) rfl (by show 2 * 0 + _ ≤ _; exact Nat.le_of_eq rfl) (hb hby at_30) (fun _ _ => ⟨rfl, eq1, (by decide : 0 + 0 ≤ _), (by decide : 0 + 0 ≤ _)⟩)
  dsimp only [Pt.U, Pt.locs, Pt.cells, Pt.slots] at X2 l2 y2 z2 st2 hQ2
  subst l2 y2 z2
  obtain ⟨rfl, Nq2, eq2⟩ := hQ2
  have N2 := Fr.app N1 Nq2
  obtain ⟨fs, hr, hrun, hended, hW, hsame⟩ := X2.leave (v := some (.int (1 : Int32))) (fun h => by rw [Bd.returns] at h; cases h)
  refine ⟨_, _, pre0 _ ?_, hrun, hended, _, _, rfl, ?_, ⟨_, rfl⟩, hW, hsame.mono (by decide) (by decide)⟩
  · show Sp p e below s₁ (mkF m 0 #[.val (.int p0), .unset, .unset, .unset, .unset] []) _
    refine XS.iloadN X0.here hx rfl (hb hby at_0) rfl ?_
    show Sp p e below s₁ (mkF m 1 #[.val (.int p0), .unset, .unset, .unset, .unset] [(.int p0)]) _
    refine X0.ldcI hx hown (mvT hZ (hw _ (List.mem_of_getElem? (i := 0) rfl))) rfl (hb hby at_1) ?_
    show Sp p e below s₁ (mkF m 3 #[.val (.int p0), .unset, .unset, .unset, .unset] [(.int (2147483647 : Int32)), (.int p0)]) _
    refine XS.iand X0.here hx rfl (hb hby at_3) rfl ?_
    show Sp p e below s₁ (mkF m 4 #[.val (.int p0), .unset, .unset, .unset, .unset] [(.int (p0 &&& (2147483647 : Int32)))]) _
    refine XS.bipush X0.here hx rfl (hb hby at_4) ?_
    show Sp p e below s₁ (mkF m 6 #[.val (.int p0), .unset, .unset, .unset, .unset] [(.int (6 : Int32)), (.int (p0 &&& (2147483647 : Int32)))]) _
    refine iremM X0 hx rfl (hb hby at_6) rfl (by decide) ?_
    show Sp p e below s₁ (mkF m 7 #[.val (.int p0), .unset, .unset, .unset, .unset] [(.int ((p0 &&& (2147483647 : Int32)) % (6 : Int32)))]) _
    refine XS.istoreN X0.here hx rfl (hb hby at_7) rfl (l' := #[.val (.int p0), .val (.int ((p0 &&& (2147483647 : Int32)) % (6 : Int32))), .unset, .unset, .unset]) rfl ?_
    show Sp p e below s₁ (mkF m 8 #[.val (.int p0), .val (.int ((p0 &&& (2147483647 : Int32)) % (6 : Int32))), .unset, .unset, .unset] []) _
    refine XS.iloadN X0.here hx rfl (hb hby at_8) rfl ?_
    show Sp p e below s₁ (mkF m 9 #[.val (.int p0), .val (.int ((p0 &&& (2147483647 : Int32)) % (6 : Int32))), .unset, .unset, .unset] [(.int ((p0 &&& (2147483647 : Int32)) % (6 : Int32)))]) _
    refine st1 _ ?_
    show Sp p e below T1 (mkF m 12 #[.val (.int p0), .val (.int ((p0 &&& (2147483647 : Int32)) % (6 : Int32))), .unset, .unset, .unset] [(.ref w_RUNNING)]) _
    refine XS.astoreN X1.here hx rfl (hb hby at_12) rfl rfl (l' := #[.val (.int p0), .val (.int ((p0 &&& (2147483647 : Int32)) % (6 : Int32))), .val (.ref w_RUNNING), .unset, .unset]) rfl ?_
    show Sp p e below T1 (mkF m 13 #[.val (.int p0), .val (.int ((p0 &&& (2147483647 : Int32)) % (6 : Int32))), .val (.ref w_RUNNING), .unset, .unset] []) _
    refine XS.iloadN X1.here hx rfl (hb hby at_13) rfl ?_
    show Sp p e below T1 (mkF m 14 #[.val (.int p0), .val (.int ((p0 &&& (2147483647 : Int32)) % (6 : Int32))), .val (.ref w_RUNNING), .unset, .unset] [(.int ((p0 &&& (2147483647 : Int32)) % (6 : Int32)))]) _
    refine XS.iconst X1.here hx rfl (hb hby at_14) ?_
    show Sp p e below T1 (mkF m 15 #[.val (.int p0), .val (.int ((p0 &&& (2147483647 : Int32)) % (6 : Int32))), .val (.ref w_RUNNING), .unset, .unset] [(.int (3 : Int32)), (.int ((p0 &&& (2147483647 : Int32)) % (6 : Int32)))]) _
    refine XS.icmpNo X1.here hx rfl (hb hby at_15) rfl (feq (by rw [hc3]; decide : ¬ (((p0 &&& (2147483647 : Int32)) % (6 : Int32)) = (3 : Int32)))).1 ?_
    show Sp p e below T1 (mkF m 18 #[.val (.int p0), .val (.int ((p0 &&& (2147483647 : Int32)) % (6 : Int32))), .val (.ref w_RUNNING), .unset, .unset] []) _
    refine XS.iloadN X1.here hx rfl (hb hby at_18) rfl ?_
    show Sp p e below T1 (mkF m 19 #[.val (.int p0), .val (.int ((p0 &&& (2147483647 : Int32)) % (6 : Int32))), .val (.ref w_RUNNING), .unset, .unset] [(.int ((p0 &&& (2147483647 : Int32)) % (6 : Int32)))]) _
    refine XS.iconst X1.here hx rfl (hb hby at_19) ?_
    show Sp p e below T1 (mkF m 20 #[.val (.int p0), .val (.int ((p0 &&& (2147483647 : Int32)) % (6 : Int32))), .val (.ref w_RUNNING), .unset, .unset] [(.int (4 : Int32)), (.int ((p0 &&& (2147483647 : Int32)) % (6 : Int32)))]) _
    refine XS.icmpYes X1.here hx rfl (pc0 := 20) (pc' := 27) rfl (hb hby at_20) rfl (feq (by rw [hc3]; decide : ¬ (((p0 &&& (2147483647 : Int32)) % (6 : Int32)) = (4 : Int32)))).2 (by decide) (by decide) ?_
    show Sp p e below T1 (mkF m 27 #[.val (.int p0), .val (.int ((p0 &&& (2147483647 : Int32)) % (6 : Int32))), .val (.ref w_RUNNING), .unset, .unset] []) _
    refine XS.iconst X1.here hx rfl (hb hby at_27) ?_
    show Sp p e below T1 (mkF m 28 #[.val (.int p0), .val (.int ((p0 &&& (2147483647 : Int32)) % (6 : Int32))), .val (.ref w_RUNNING), .unset, .unset] [(.int (0 : Int32))]) _
    refine XS.istoreN X1.here hx rfl (hb hby at_28) rfl (l' := #[.val (.int p0), .val (.int ((p0 &&& (2147483647 : Int32)) % (6 : Int32))), .val (.ref w_RUNNING), .val (.int (0 : Int32)), .unset]) rfl ?_
    show Sp p e below T1 (mkF m 29 #[.val (.int p0), .val (.int ((p0 &&& (2147483647 : Int32)) % (6 : Int32))), .val (.ref w_RUNNING), .val (.int (0 : Int32)), .unset] []) _
    refine XS.aloadN X1.here hx rfl (hb hby at_29) rfl rfl ?_
    show Sp p e below T1 (mkF m 30 #[.val (.int p0), .val (.int ((p0 &&& (2147483647 : Int32)) % (6 : Int32))), .val (.ref w_RUNNING), .val (.int (0 : Int32)), .unset] [(.ref w_RUNNING)]) _
    refine st2.trans ?_
    show Sp p e below T2 (mkF m 33 #[.val (.int p0), .val (.int ((p0 &&& (2147483647 : Int32)) % (6 : Int32))), .val (.ref w_RUNNING), .val (.int (0 : Int32)), .unset] [(.int (0 : Int32))]) _
    refine XS.istore X2.here hx rfl (hb hby at_33) rfl (l' := #[.val (.int p0), .val (.int ((p0 &&& (2147483647 : Int32)) % (6 : Int32))), .val (.ref w_RUNNING), .val (.int (0 : Int32)), .val (.int (0 : Int32))]) rfl ?_
    show Sp p e below T2 (mkF m 35 #[.val (.int p0), .val (.int ((p0 &&& (2147483647 : Int32)) % (6 : Int32))), .val (.ref w_RUNNING), .val (.int (0 : Int32)), .val (.int (0 : Int32))] []) _
    refine XS.iload X2.here hx rfl (hb hby at_35) rfl ?_
    show Sp p e below T2 (mkF m 37 #[.val (.int p0), .val (.int ((p0 &&& (2147483647 : Int32)) % (6 : Int32))), .val (.ref w_RUNNING), .val (.int (0 : Int32)), .val (.int (0 : Int32))] [(.int (0 : Int32))]) _
    refine XS.iloadN X2.here hx rfl (hb hby at_37) rfl ?_
    show Sp p e below T2 (mkF m 38 #[.val (.int p0), .val (.int ((p0 &&& (2147483647 : Int32)) % (6 : Int32))), .val (.ref w_RUNNING), .val (.int (0 : Int32)), .val (.int (0 : Int32))] [(.int (0 : Int32)), (.int (0 : Int32))]) _
    refine XS.icmpYes X2.here hx rfl (pc0 := 38) (pc' := 43) rfl (hb hby at_38) rfl (teq (by decide : (0 : Int32) = (0 : Int32))).1 (by decide) (by decide) ?_
    show Sp p e below T2 (mkF m 43 #[.val (.int p0), .val (.int ((p0 &&& (2147483647 : Int32)) % (6 : Int32))), .val (.ref w_RUNNING), .val (.int (0 : Int32)), .val (.int (0 : Int32))] []) _
    refine XS.iload X2.here hx rfl (hb hby at_43) rfl ?_
    show Sp p e below T2 (mkF m 45 #[.val (.int p0), .val (.int ((p0 &&& (2147483647 : Int32)) % (6 : Int32))), .val (.ref w_RUNNING), .val (.int (0 : Int32)), .val (.int (0 : Int32))] [(.int (0 : Int32))]) _
    refine XS.ifYes X2.here hx rfl (pc0 := 45) (pc' := 57) rfl (hb hby at_45) rfl ((if0 _ _).trans (teq (by decide : (0 : Int32) = (0 : Int32))).1) (by decide) (by decide) ?_
    show Sp p e below T2 (mkF m 57 #[.val (.int p0), .val (.int ((p0 &&& (2147483647 : Int32)) % (6 : Int32))), .val (.ref w_RUNNING), .val (.int (0 : Int32)), .val (.int (0 : Int32))] []) _
    refine XS.iconst X2.here hx rfl (hb hby at_57) ?_
    show Sp p e below T2 (mkF m 58 #[.val (.int p0), .val (.int ((p0 &&& (2147483647 : Int32)) % (6 : Int32))), .val (.ref w_RUNNING), .val (.int (0 : Int32)), .val (.int (0 : Int32))] [(.int (1 : Int32))]) _
    exact retN X2 hx (t := .boolean) Bd.returns (by simp) (hb hby at_58) hr
  · skip
    exact ⟨rfl, N2⟩
theorem d1_26 : decode method_3_code 26 = .ok (.iload_n 0, 1) := by decide +kernel
theorem d1_27 : decode method_3_code 27 = .ok (.iconst 3, 1) := by decide +kernel
theorem d1_28 : decode method_3_code 28 = .ok (.if_icmp .ne 7, 3) := by decide +kernel
theorem d1_31 : decode method_3_code 31 = .ok (.getstatic 33, 3) := by decide +kernel
theorem d1_34 : decode method_3_code 34 = .ok (.areturn, 1) := by decide +kernel
def Q10 (Z : State) (w_WAIT : Addr) (w_SUCCESS : Addr) (w_ERROR : Addr) (w_READY : Addr) (w_RUNNING : Addr) (w_PENDING : Addr) (p1 : Int32) (h0 : Heap) (n0 : Nat) (v : Option Value) (h : Heap) (L : List Loc) : Prop := v = some (.ref w_SUCCESS) ∧ Fr n0 L ∧ h = h0
set_option maxRecDepth 65536 in
set_option maxHeartbeats 40000000 in
theorem rm10 (l : Launch) (Z : State) (a0 : Array Value) (hw : ∀ d ∈ tables_1, d.before a0 Z = true) (ws : List Jvm.Cond) (w_WAIT w_SUCCESS w_ERROR w_READY w_RUNNING w_PENDING : Addr) (hp : Perm Z w_WAIT w_SUCCESS w_ERROR w_READY w_RUNNING w_PENDING) (p1 : Int32) (h0 : Heap) (n0 : Nat) (O0 : Old Z n0 h0) (hc1 : ¬ (p1 = (0 : Int32))) (hc2 : ¬ (p1 = (1 : Int32))) (hc3 : ¬ (p1 = (2 : Int32))) (hc4 : p1 = (3 : Int32)) :
    MetFree l y0 (head1 (Jvm.Cond.code y0 method_3_code 1 (some (.object "com/example/graph_job_runner/graphjobrunner/NodeStatus")) :: ws) ({ frames := 0, cells := 0, slots := 0, locals := 0 } : Room)) (fun a U => a = #[(.int p1)] ∧ Z.Warmed39 U.vm ∧ U.heap = h0) (fun _ _ _ _ _ => True) (fun _ U o U' => ∃ v L, o = .returned v ∧ Q10 Z w_WAIT w_SUCCESS w_ERROR w_READY w_RUNNING w_PENDING p1 h0 n0 v U'.heap L ∧ FrameEnd U o U' L ({ frames := 0, cells := 0, slots := 0, locals := 0 } : Room).cells ({ frames := 0, cells := 0, slots := 0, locals := 0 } : Room).slots) := by
  refine MetFree.of_bodySF (plainFor_of_name pn_1) hisR ?_
  intro p e s m args below meth c s₁ Bd hml0 hP hK
  obtain ⟨rfl, hZ, hh⟩ := hP
  have hx := Bd.exec
  have hby := Bd.bytes
  have hml : c.maxLocals = 1 := hml0
  have hown : s.vm.findClass "com/example/graph_job_runner/graphjobrunner/NodeStatusHasFinishedPinLaw" = some m.cls := findClass_of_methodNamed Bd.named
  have hnm := (name_of_methodNamed Bd.named Bd.method).1
  have X0 : Stand p l e ({ frames := 0, cells := 0, slots := 0, locals := 0 } : Room) s m #[(.int p1)] below meth c s₁ [] 0 0 := Stand.of_body Bd
  have e0 : s₁.heap = h0 := by rw [← hh, Bd.state]; rfl
  have N0 := Fr.nil n0
  have hp' := hp
  obtain ⟨S_w_WAIT, E_w_WAIT, S_w_SUCCESS, E_w_SUCCESS, S_w_ERROR, E_w_ERROR, S_w_READY, E_w_READY, S_w_RUNNING, E_w_RUNNING, S_w_PENDING, E_w_PENDING, F_ordinal_w_WAIT, F_ordinal_w_SUCCESS, F_ordinal_w_ERROR, F_ordinal_w_READY, F_ordinal_w_RUNNING, F_ordinal_w_PENDING⟩ := hp'
  have pre0 : ∀ t, Steps p.tables e below (s₁.setTop (mkF m 0 #[.val (.int p1)] [])) t → Steps p.tables e below (s₁.setTop (entryFrame m #[(.int p1)] 1)) t := fun t k => castTop (ef_1_0 m p1) k
  obtain ⟨T1, X1, e1, st1⟩ := getS2 X0 hx hZ hown (host := "") (Or.inl (hw _ (List.mem_of_getElem? (i := 17) rfl))) Via.refl e0 (S_w_SUCCESS.ext O0.2) (g := (mkF m 31 #[.val (.int p1)] [])) rfl (hb hby d1_31)
  obtain ⟨fs, hr, hrun, hended, hW, hsame⟩ := X1.leave (v := some (.ref w_SUCCESS)) (fun h => by rw [Bd.returns] at h; cases h)
  refine ⟨_, _, pre0 _ ?_, hrun, hended, _, _, rfl, ?_, ⟨_, rfl⟩, hW, hsame.mono (by decide) (by decide)⟩
  · show Sp p e below s₁ (mkF m 0 #[.val (.int p1)] []) _
    refine XS.iloadN X0.here hx rfl (hb hby d1_0) rfl ?_
    show Sp p e below s₁ (mkF m 1 #[.val (.int p1)] [(.int p1)]) _
    refine XS.ifYes X0.here hx rfl (pc0 := 1) (pc' := 8) rfl (hb hby d1_1) rfl ((if0 _ _).trans (feq hc1).2) (by decide) (by decide) ?_
    show Sp p e below s₁ (mkF m 8 #[.val (.int p1)] []) _
    refine XS.iloadN X0.here hx rfl (hb hby d1_8) rfl ?_
    show Sp p e below s₁ (mkF m 9 #[.val (.int p1)] [(.int p1)]) _
    refine XS.iconst X0.here hx rfl (hb hby d1_9) ?_
    show Sp p e below s₁ (mkF m 10 #[.val (.int p1)] [(.int (1 : Int32)), (.int p1)]) _
    refine XS.icmpYes X0.here hx rfl (pc0 := 10) (pc' := 17) rfl (hb hby d1_10) rfl (feq hc2).2 (by decide) (by decide) ?_
    show Sp p e below s₁ (mkF m 17 #[.val (.int p1)] []) _
    refine XS.iloadN X0.here hx rfl (hb hby d1_17) rfl ?_
    show Sp p e below s₁ (mkF m 18 #[.val (.int p1)] [(.int p1)]) _
    refine XS.iconst X0.here hx rfl (hb hby d1_18) ?_
    show Sp p e below s₁ (mkF m 19 #[.val (.int p1)] [(.int (2 : Int32)), (.int p1)]) _
    refine XS.icmpYes X0.here hx rfl (pc0 := 19) (pc' := 26) rfl (hb hby d1_19) rfl (feq hc3).2 (by decide) (by decide) ?_
    show Sp p e below s₁ (mkF m 26 #[.val (.int p1)] []) _
    refine XS.iloadN X0.here hx rfl (hb hby d1_26) rfl ?_
    show Sp p e below s₁ (mkF m 27 #[.val (.int p1)] [(.int p1)]) _
    refine XS.iconst X0.here hx rfl (hb hby d1_27) ?_
    show Sp p e below s₁ (mkF m 28 #[.val (.int p1)] [(.int (3 : Int32)), (.int p1)]) _
    refine XS.icmpNo X0.here hx rfl (hb hby d1_28) rfl (teq hc4).2 ?_
    show Sp p e below s₁ (mkF m 31 #[.val (.int p1)] []) _
    refine st1 _ ?_
    show Sp p e below T1 (mkF m 34 #[.val (.int p1)] [(.ref w_SUCCESS)]) _
    jvm_step X1.here [X1.here.top, hx, (hb hby d1_34), X1.method', Bd.returns, Value.isRef, FieldType.isReference]
    first | (intro acts; rw [hr _ acts rfl rfl rfl]) | rw [hr _ _ rfl rfl rfl]
    exact Steps.refl _
  · show Q10 Z w_WAIT w_SUCCESS w_ERROR w_READY w_RUNNING w_PENDING p1 h0 n0 _ T1.heap _
    rw [e1]
    exact ⟨rfl, N0, rfl⟩
theorem d2_14 : decode prog_20_method_5_code 14 = .ok (.iconst 1, 1) := by decide +kernel
theorem d2_15 : decode prog_20_method_5_code 15 = .ok (.goto 4, 3) := by decide +kernel
def Q11 (Z : State) (w_WAIT : Addr) (w_SUCCESS : Addr) (w_ERROR : Addr) (w_READY : Addr) (w_RUNNING : Addr) (w_PENDING : Addr) (h0 : Heap) (n0 : Nat) (v : Option Value) (h : Heap) (L : List Loc) : Prop := v = some (.int (1 : Int32)) ∧ Fr n0 L ∧ h = h0
set_option maxRecDepth 65536 in
set_option maxHeartbeats 40000000 in
theorem rm11 (l : Launch) (Z : State) (a0 : Array Value) (hw : ∀ d ∈ tables_1, d.before a0 Z = true) (ws : List Jvm.Cond) (w_WAIT w_SUCCESS w_ERROR w_READY w_RUNNING w_PENDING : Addr) (hp : Perm Z w_WAIT w_SUCCESS w_ERROR w_READY w_RUNNING w_PENDING) (h0 : Heap) (n0 : Nat) (O0 : Old Z n0 h0) :
    MetFree l y1 (head1 (Jvm.Cond.code y1 prog_20_method_5_code 1 (some .boolean) :: ws) ({ frames := 0, cells := 0, slots := 0, locals := 0 } : Room)) (fun a U => a = #[(.ref w_SUCCESS)] ∧ Z.Warmed39 U.vm ∧ U.heap = h0) (fun _ _ _ _ _ => True) (fun _ U o U' => ∃ v L, o = .returned v ∧ Q11 Z w_WAIT w_SUCCESS w_ERROR w_READY w_RUNNING w_PENDING  h0 n0 v U'.heap L ∧ FrameEnd U o U' L ({ frames := 0, cells := 0, slots := 0, locals := 0 } : Room).cells ({ frames := 0, cells := 0, slots := 0, locals := 0 } : Room).slots) := by
  refine MetFree.of_bodySF (plainFor_of_name pn_2) hisR ?_
  intro p e s m args below meth c s₁ Bd hml0 hP hK
  obtain ⟨rfl, hZ, hh⟩ := hP
  have hx := Bd.exec
  have hby := Bd.bytes
  have hml : c.maxLocals = 1 := hml0
  have hown : s.vm.findClass "com/example/graph_job_runner/graphjobrunner/NodeStatus" = some m.cls := findClass_of_methodNamed Bd.named
  have hnm := (name_of_methodNamed Bd.named Bd.method).1
  have X0 : Stand p l e ({ frames := 0, cells := 0, slots := 0, locals := 0 } : Room) s m #[(.ref w_SUCCESS)] below meth c s₁ [] 0 0 := Stand.of_body Bd
  have e0 : s₁.heap = h0 := by rw [← hh, Bd.state]; rfl
  have N0 := Fr.nil n0
  have hp' := hp
  obtain ⟨S_w_WAIT, E_w_WAIT, S_w_SUCCESS, E_w_SUCCESS, S_w_ERROR, E_w_ERROR, S_w_READY, E_w_READY, S_w_RUNNING, E_w_RUNNING, S_w_PENDING, E_w_PENDING, F_ordinal_w_WAIT, F_ordinal_w_SUCCESS, F_ordinal_w_ERROR, F_ordinal_w_READY, F_ordinal_w_RUNNING, F_ordinal_w_PENDING⟩ := hp'
  have pre0 : ∀ t, Steps p.tables e below (s₁.setTop (mkF m 0 #[.val (.ref w_SUCCESS)] [])) t → Steps p.tables e below (s₁.setTop (entryFrame m #[(.ref w_SUCCESS)] 1)) t := fun t k => castTop (ef_2_0 m w_SUCCESS) k
  obtain ⟨T1, X1, e1, st1⟩ := getS2 X0 hx hZ hown (host := "") (Or.inl (hw _ (List.mem_of_getElem? (i := 13) rfl))) Via.refl e0 (S_w_SUCCESS.ext O0.2) (g := (mkF m 1 #[.val (.ref w_SUCCESS)] [(.ref w_SUCCESS)])) rfl (hb hby d2_1)
  obtain ⟨fs, hr, hrun, hended, hW, hsame⟩ := X1.leave (v := some (.int (1 : Int32))) (fun h => by rw [Bd.returns] at h; cases h)
  refine ⟨_, _, pre0 _ ?_, hrun, hended, _, _, rfl, ?_, ⟨_, rfl⟩, hW, hsame.mono (by decide) (by decide)⟩
  · show Sp p e below s₁ (mkF m 0 #[.val (.ref w_SUCCESS)] []) _
    refine XS.aloadN X0.here hx rfl (hb hby d2_0) rfl rfl ?_
    show Sp p e below s₁ (mkF m 1 #[.val (.ref w_SUCCESS)] [(.ref w_SUCCESS)]) _
    refine st1 _ ?_
    show Sp p e below T1 (mkF m 4 #[.val (.ref w_SUCCESS)] [(.ref w_SUCCESS), (.ref w_SUCCESS)]) _
    refine Jvm.RoadKit.acmp (g := (mkF m 4 #[.val (.ref w_SUCCESS)] [(.ref w_SUCCESS), (.ref w_SUCCESS)])) X1 hx rfl rfl rfl (pc0 := 4) (pc' := 14) (same := true) rfl (hb hby d2_4) rfl (decide_eq_true rfl) (by decide) (by decide) ?_
    show Sp p e below T1 (mkF m 14 #[.val (.ref w_SUCCESS)] []) _
    refine XS.iconst X1.here hx rfl (hb hby d2_14) ?_
    show Sp p e below T1 (mkF m 15 #[.val (.ref w_SUCCESS)] [(.int (1 : Int32))]) _
    refine XS.goto X1.here hx rfl (pc0 := 15) (pc' := 19) rfl (hb hby d2_15) (by decide) (by decide) ?_
    show Sp p e below T1 (mkF m 19 #[.val (.ref w_SUCCESS)] [(.int (1 : Int32))]) _
    exact retN X1 hx (t := .boolean) Bd.returns (by simp) (hb hby d2_19) hr
  · show Q11 Z w_WAIT w_SUCCESS w_ERROR w_READY w_RUNNING w_PENDING  h0 n0 _ T1.heap _
    rw [e1]
    exact ⟨rfl, N0, rfl⟩
theorem d3_0 : decode prog_20_method_4_code 0 = .ok (.aload_n 0, 1) := by decide +kernel
theorem d3_1 : decode prog_20_method_4_code 1 = .ok (.getstatic 3, 3) := by decide +kernel
theorem d3_4 : decode prog_20_method_4_code 4 = .ok (.if_acmp .eq 17, 3) := by decide +kernel
theorem d3_7 : decode prog_20_method_4_code 7 = .ok (.aload_n 0, 1) := by decide +kernel
theorem d3_8 : decode prog_20_method_4_code 8 = .ok (.getstatic 7, 3) := by decide +kernel
theorem d3_11 : decode prog_20_method_4_code 11 = .ok (.if_acmp .eq 10, 3) := by decide +kernel
theorem d3_14 : decode prog_20_method_4_code 14 = .ok (.aload_n 0, 1) := by decide +kernel
theorem d3_15 : decode prog_20_method_4_code 15 = .ok (.getstatic 10, 3) := by decide +kernel
theorem d3_18 : decode prog_20_method_4_code 18 = .ok (.if_acmp .ne 7, 3) := by decide +kernel
theorem d3_25 : decode prog_20_method_4_code 25 = .ok (.iconst 0, 1) := by decide +kernel
theorem d3_26 : decode prog_20_method_4_code 26 = .ok (.ireturn, 1) := by decide +kernel
abbrev y2 : MethodName := (⟨"com/example/graph_job_runner/graphjobrunner/NodeStatus", "canStillRun", "()Z"⟩ : MethodName)
theorem ef_3_0 (m : MethodId) (x0 : Addr) : entryFrame m #[(.ref x0)] 1 = mkF m 0 #[.val (.ref x0)] [] := by first | (simp [entryFrame, mkF, argsToLocals, Value.category]; done) | rfl
def Q12 (Z : State) (w_WAIT : Addr) (w_SUCCESS : Addr) (w_ERROR : Addr) (w_READY : Addr) (w_RUNNING : Addr) (w_PENDING : Addr) (h0 : Heap) (n0 : Nat) (v : Option Value) (h : Heap) (L : List Loc) : Prop := v = some (.int (0 : Int32)) ∧ Fr n0 L ∧ h = h0
set_option maxRecDepth 65536 in
set_option maxHeartbeats 40000000 in
theorem rm12 (l : Launch) (Z : State) (a0 : Array Value) (hw : ∀ d ∈ tables_1, d.before a0 Z = true) (ws : List Jvm.Cond) (w_WAIT w_SUCCESS w_ERROR w_READY w_RUNNING w_PENDING : Addr) (hp : Perm Z w_WAIT w_SUCCESS w_ERROR w_READY w_RUNNING w_PENDING) (h0 : Heap) (n0 : Nat) (O0 : Old Z n0 h0) :
    MetFree l y2 (head1 (Jvm.Cond.code y2 prog_20_method_4_code 1 (some .boolean) :: ws) ({ frames := 0, cells := 0, slots := 0, locals := 0 } : Room)) (fun a U => a = #[(.ref w_SUCCESS)] ∧ Z.Warmed39 U.vm ∧ U.heap = h0) (fun _ _ _ _ _ => True) (fun _ U o U' => ∃ v L, o = .returned v ∧ Q12 Z w_WAIT w_SUCCESS w_ERROR w_READY w_RUNNING w_PENDING  h0 n0 v U'.heap L ∧ FrameEnd U o U' L ({ frames := 0, cells := 0, slots := 0, locals := 0 } : Room).cells ({ frames := 0, cells := 0, slots := 0, locals := 0 } : Room).slots) := by
  refine MetFree.of_bodySF (plainFor_of_name pn_2) hisR ?_
  intro p e s m args below meth c s₁ Bd hml0 hP hK
  obtain ⟨rfl, hZ, hh⟩ := hP
  have hx := Bd.exec
  have hby := Bd.bytes
  have hml : c.maxLocals = 1 := hml0
  have hown : s.vm.findClass "com/example/graph_job_runner/graphjobrunner/NodeStatus" = some m.cls := findClass_of_methodNamed Bd.named
  have hnm := (name_of_methodNamed Bd.named Bd.method).1
  have X0 : Stand p l e ({ frames := 0, cells := 0, slots := 0, locals := 0 } : Room) s m #[(.ref w_SUCCESS)] below meth c s₁ [] 0 0 := Stand.of_body Bd
  have e0 : s₁.heap = h0 := by rw [← hh, Bd.state]; rfl
  have N0 := Fr.nil n0
  have hp' := hp
  obtain ⟨S_w_WAIT, E_w_WAIT, S_w_SUCCESS, E_w_SUCCESS, S_w_ERROR, E_w_ERROR, S_w_READY, E_w_READY, S_w_RUNNING, E_w_RUNNING, S_w_PENDING, E_w_PENDING, F_ordinal_w_WAIT, F_ordinal_w_SUCCESS, F_ordinal_w_ERROR, F_ordinal_w_READY, F_ordinal_w_RUNNING, F_ordinal_w_PENDING⟩ := hp'
  have pre0 : ∀ t, Steps p.tables e below (s₁.setTop (mkF m 0 #[.val (.ref w_SUCCESS)] [])) t → Steps p.tables e below (s₁.setTop (entryFrame m #[(.ref w_SUCCESS)] 1)) t := fun t k => castTop (ef_3_0 m w_SUCCESS) k
  obtain ⟨T1, X1, e1, st1⟩ := getS2 X0 hx hZ hown (host := "") (Or.inl (hw _ (List.mem_of_getElem? (i := 23) rfl))) Via.refl e0 (S_w_WAIT.ext O0.2) (g := (mkF m 1 #[.val (.ref w_SUCCESS)] [(.ref w_SUCCESS)])) rfl (hb hby d3_1)
  obtain ⟨T2, X2, e2, st2⟩ := getS2 X1 hx hZ hown (host := "") (Or.inl (hw _ (List.mem_of_getElem? (i := 24) rfl))) Via.refl e1 (S_w_READY.ext O0.2) (g := (mkF m 8 #[.val (.ref w_SUCCESS)] [(.ref w_SUCCESS)])) rfl (hb hby d3_8)
  obtain ⟨T3, X3, e3, st3⟩ := getS2 X2 hx hZ hown (host := "") (Or.inl (hw _ (List.mem_of_getElem? (i := 26) rfl))) Via.refl e2 (S_w_RUNNING.ext O0.2) (g := (mkF m 15 #[.val (.ref w_SUCCESS)] [(.ref w_SUCCESS)])) rfl (hb hby d3_15)
  obtain ⟨fs, hr, hrun, hended, hW, hsame⟩ := X3.leave (v := some (.int (0 : Int32))) (fun h => by rw [Bd.returns] at h; cases h)
  refine ⟨_, _, pre0 _ ?_, hrun, hended, _, _, rfl, ?_, ⟨_, rfl⟩, hW, hsame.mono (by decide) (by decide)⟩
  · show Sp p e below s₁ (mkF m 0 #[.val (.ref w_SUCCESS)] []) _
    refine XS.aloadN X0.here hx rfl (hb hby d3_0) rfl rfl ?_
    show Sp p e below s₁ (mkF m 1 #[.val (.ref w_SUCCESS)] [(.ref w_SUCCESS)]) _
    refine st1 _ ?_
    show Sp p e below T1 (mkF m 4 #[.val (.ref w_SUCCESS)] [(.ref w_WAIT), (.ref w_SUCCESS)]) _
    refine Jvm.RoadKit.acmp (g := (mkF m 4 #[.val (.ref w_SUCCESS)] [(.ref w_WAIT), (.ref w_SUCCESS)])) X1 hx rfl rfl rfl (pc0 := 4) (pc' := 7) (same := false) rfl (hb hby d3_4) rfl (decide_eq_false fun q => (Ne.symm (ne_w_WAIT_w_SUCCESS hp)) (Value.ref.inj q)) (by decide) (by decide) ?_
    show Sp p e below T1 (mkF m 7 #[.val (.ref w_SUCCESS)] []) _
    refine XS.aloadN X1.here hx rfl (hb hby d3_7) rfl rfl ?_
    show Sp p e below T1 (mkF m 8 #[.val (.ref w_SUCCESS)] [(.ref w_SUCCESS)]) _
    refine st2 _ ?_
    show Sp p e below T2 (mkF m 11 #[.val (.ref w_SUCCESS)] [(.ref w_READY), (.ref w_SUCCESS)]) _
    refine Jvm.RoadKit.acmp (g := (mkF m 11 #[.val (.ref w_SUCCESS)] [(.ref w_READY), (.ref w_SUCCESS)])) X2 hx rfl rfl rfl (pc0 := 11) (pc' := 14) (same := false) rfl (hb hby d3_11) rfl (decide_eq_false fun q => (ne_w_SUCCESS_w_READY hp) (Value.ref.inj q)) (by decide) (by decide) ?_
    show Sp p e below T2 (mkF m 14 #[.val (.ref w_SUCCESS)] []) _
    refine XS.aloadN X2.here hx rfl (hb hby d3_14) rfl rfl ?_
    show Sp p e below T2 (mkF m 15 #[.val (.ref w_SUCCESS)] [(.ref w_SUCCESS)]) _
    refine st3 _ ?_
    show Sp p e below T3 (mkF m 18 #[.val (.ref w_SUCCESS)] [(.ref w_RUNNING), (.ref w_SUCCESS)]) _
    refine Jvm.RoadKit.acmp (g := (mkF m 18 #[.val (.ref w_SUCCESS)] [(.ref w_RUNNING), (.ref w_SUCCESS)])) X3 hx rfl rfl rfl (pc0 := 18) (pc' := 25) (same := false) rfl (hb hby d3_18) rfl (decide_eq_false fun q => (ne_w_SUCCESS_w_RUNNING hp) (Value.ref.inj q)) (by decide) (by decide) ?_
    show Sp p e below T3 (mkF m 25 #[.val (.ref w_SUCCESS)] []) _
    refine XS.iconst X3.here hx rfl (hb hby d3_25) ?_
    show Sp p e below T3 (mkF m 26 #[.val (.ref w_SUCCESS)] [(.int (0 : Int32))]) _
    exact retN X3 hx (t := .boolean) Bd.returns (by simp) (hb hby d3_26) hr
  · show Q12 Z w_WAIT w_SUCCESS w_ERROR w_READY w_RUNNING w_PENDING  h0 n0 _ T3.heap _
    rw [e3]
    exact ⟨rfl, N0, rfl⟩
set_option maxRecDepth 65536 in
set_option maxHeartbeats 40000000 in
theorem rm13 (l : Launch) (Z : State) (a0 : Array Value) (hw : ∀ d ∈ tables_1, d.before a0 Z = true) (ws : List Jvm.Cond) (w_WAIT w_SUCCESS w_ERROR w_READY w_RUNNING w_PENDING : Addr) (hp : Perm Z w_WAIT w_SUCCESS w_ERROR w_READY w_RUNNING w_PENDING) (p0 : Int32) (h0 : Heap) (n0 : Nat) (O0 : Old Z n0 h0) (hc1 : ¬ (((p0 &&& (2147483647 : Int32)) % (6 : Int32)) = (0 : Int32))) (hc2 : ¬ (((p0 &&& (2147483647 : Int32)) % (6 : Int32)) = (1 : Int32))) (hc3 : ¬ (((p0 &&& (2147483647 : Int32)) % (6 : Int32)) = (2 : Int32))) (hc4 : ((p0 &&& (2147483647 : Int32)) % (6 : Int32)) = (3 : Int32)) :
    MetFree l x (head1 (Jvm.Cond.code x code maxLocals ret :: ws) room_1) (fun a U => a = #[(.int p0)] ∧ Z.Warmed39 U.vm ∧ U.heap = h0) (fun _ _ _ _ _ => True) (fun _ U o U' => ∃ v L, o = .returned v ∧ (v = some (.int (1 : Int32)) ∧ Fr n0 L) ∧ FrameEnd U o U' L 0 0) := by
  refine MetFree.of_bodySF (plainFor_of_name pn_1) hisR ?_
  intro p e s m args below meth c s₁ Bd hml0 hP hK
  obtain ⟨rfl, hZ, hh⟩ := hP
  have hx := Bd.exec
  have hby := Bd.bytes
  have hml : c.maxLocals = 5 := hml0
  have hown : s.vm.findClass "com/example/graph_job_runner/graphjobrunner/NodeStatusHasFinishedPinLaw" = some m.cls := findClass_of_methodNamed Bd.named
  have hnm := (name_of_methodNamed Bd.named Bd.method).1
  have X0 : Stand p l e room_1 s m #[(.int p0)] below meth c s₁ [] 0 0 := Stand.of_body Bd
  have e0 : s₁.heap = h0 := by rw [← hh, Bd.state]; rfl
  have N0 := Fr.nil n0
  have hp' := hp
  obtain ⟨S_w_WAIT, E_w_WAIT, S_w_SUCCESS, E_w_SUCCESS, S_w_ERROR, E_w_ERROR, S_w_READY, E_w_READY, S_w_RUNNING, E_w_RUNNING, S_w_PENDING, E_w_PENDING, F_ordinal_w_WAIT, F_ordinal_w_SUCCESS, F_ordinal_w_ERROR, F_ordinal_w_READY, F_ordinal_w_RUNNING, F_ordinal_w_PENDING⟩ := hp'
  have pre0 : ∀ t, Steps p.tables e below (s₁.setTop (mkF m 0 #[.val (.int p0), .unset, .unset, .unset, .unset] [])) t → Steps p.tables e below (s₁.setTop (entryFrame m #[(.int p0)] maxLocals)) t := fun t k => castTop (ef_0_0 m p0) k
  obtain ⟨_, _, ⟨T1, L1, k1, n1⟩, -, X1, ⟨Lc1, hQ1, l1, y1, z1⟩, st1⟩ := Jvm.LawKit.callS X0 hx (y := y0) hown (mvT hZ (hw _ (List.mem_of_getElem? (i := 1) rfl))) (mvT hZ (hw _ (List.mem_of_getElem? (i := 2) rfl))) (mvT hZ (hw _ (List.mem_of_getElem? (i := 3) rfl))) (mvT hZ (hw _ (List.mem_of_getElem? (i := 4) rfl))) (by decide) (backOf (W := 0) (rm10 l Z a0 hw [] w_WAIT w_SUCCESS w_ERROR w_READY w_RUNNING w_PENDING hp ((p0 &&& (2147483647 : Int32)) % (6 : Int32)) h0 n0 O0 hc1 hc2 hc3 hc4) hZ (hw _ (List.mem_of_getElem? (i := 4) rfl)) (hw _ (List.mem_of_getElem? (i := 3) rfl)) (by decide) (by decide)) (g := (mkF m 9 #[.val (.int p0), .val (.int ((p0 &&& (2147483647 : Int32)) % (6 : Int32))), .unset, .unset, .unset] [(.int ((p0 &&& (2147483647 : Int32)) % (6 : Int32)))])) rfl (by rw [hml]; rfl) (argsL := [(.int ((p0 &&& (2147483647 : Int32)) % (6 : Int32)))]) (rest := []) (lenOf pd_0 rfl) rfl (by show 2 * 0 + _ ≤ _; exact Nat.le_of_eq rfl) (hb hby at_9) (fun _ _ => ⟨rfl, e0, (by decide : 0 + 0 ≤ _), (by decide : 0 + 0 ≤ _)⟩)
  dsimp only [Pt.U, Pt.locs, Pt.cells, Pt.slots] at X1 l1 y1 z1 st1 hQ1
  subst l1 y1 z1
  obtain ⟨rfl, Nq1, eq1⟩ := hQ1
  have N1 := Fr.app N0 Nq1
  obtain ⟨cq2, kq2, q2a, q2b, q2c⟩ := isOf hZ eq1 (E_w_SUCCESS.ext O0.2)
  obtain ⟨_, _, ⟨T2, L2, k2, n2⟩, -, X2, ⟨Lc2, hQ2, l2, y2, z2⟩, st2⟩ := X1.virtualBack hx (y := y1) (z := y1) hown (mvT hZ (hw _ (List.mem_of_getElem? (i := 8) rfl))) (mvT hZ (hw _ (List.mem_of_getElem? (i := 9) rfl))) (notFace_of_selects (args := #[]) (mvT hZ (hw _ (List.mem_of_getElem? (i := 11) rfl)))) (mvT hZ (hw _ (List.mem_of_getElem? (i := 11) rfl))) (mvT hZ (hw _ (List.mem_of_getElem? (i := 10) rfl))) (by decide) (backOf (W := 0) (rm11 l Z a0 hw [] w_WAIT w_SUCCESS w_ERROR w_READY w_RUNNING w_PENDING hp h0 n0 O0) hZ (hw _ (List.mem_of_getElem? (i := 12) rfl)) (hw _ (List.mem_of_getElem? (i := 6) rfl)) (by decide) (by decide)) q2a q2c (g := (mkF m 30 #[.val (.int p0), .val (.int ((p0 &&& (2147483647 : Int32)) % (6 : Int32))), .val (.ref w_SUCCESS), .val (.int (1 : Int32)), .unset] [(.ref w_SUCCESS)])) rfl (by rw [hml]; rfl) (Steps.refl _) (argsL := []) (rest := []) (lenOf pd_1 rfl) rfl (by show 2 * 0 + _ ≤ _; exact Nat.le_of_eq rfl) (hb hby at_30) (fun _ _ => ⟨rfl, eq1, (by decide : 0 + 0 ≤ _), (by decide : 0 + 0 ≤ _)⟩)
  dsimp only [Pt.U, Pt.locs, Pt.cells, Pt.slots] at X2 l2 y2 z2 st2 hQ2
  subst l2 y2 z2
  obtain ⟨rfl, Nq2, eq2⟩ := hQ2
  have N2 := Fr.app N1 Nq2
  obtain ⟨cq3, kq3, q3a, q3b, q3c⟩ := isOf hZ eq2 (E_w_SUCCESS.ext O0.2)
  obtain ⟨_, _, ⟨T3, L3, k3, n3⟩, -, X3, ⟨Lc3, hQ3, l3, y3, z3⟩, st3⟩ := X2.virtualBack hx (y := y2) (z := y2) hown (mvT hZ (hw _ (List.mem_of_getElem? (i := 18) rfl))) (mvT hZ (hw _ (List.mem_of_getElem? (i := 19) rfl))) (notFace_of_selects (args := #[]) (mvT hZ (hw _ (List.mem_of_getElem? (i := 21) rfl)))) (mvT hZ (hw _ (List.mem_of_getElem? (i := 21) rfl))) (mvT hZ (hw _ (List.mem_of_getElem? (i := 20) rfl))) (by decide) (backOf (W := 0) (rm12 l Z a0 hw [] w_WAIT w_SUCCESS w_ERROR w_READY w_RUNNING w_PENDING hp h0 n0 O0) hZ (hw _ (List.mem_of_getElem? (i := 22) rfl)) (hw _ (List.mem_of_getElem? (i := 6) rfl)) (by decide) (by decide)) q3a q3c (g := (mkF m 49 #[.val (.int p0), .val (.int ((p0 &&& (2147483647 : Int32)) % (6 : Int32))), .val (.ref w_SUCCESS), .val (.int (1 : Int32)), .val (.int (1 : Int32))] [(.ref w_SUCCESS)])) rfl (by rw [hml]; rfl) (Steps.refl _) (argsL := []) (rest := []) (lenOf pd_1 rfl) rfl (by show 2 * 0 + _ ≤ _; exact Nat.le_of_eq rfl) (hb hby at_49) (fun _ _ => ⟨rfl, eq2, (by decide : 0 + 0 ≤ _), (by decide : 0 + 0 ≤ _)⟩)
  dsimp only [Pt.U, Pt.locs, Pt.cells, Pt.slots] at X3 l3 y3 z3 st3 hQ3
  subst l3 y3 z3
  obtain ⟨rfl, Nq3, eq3⟩ := hQ3
  have N3 := Fr.app N2 Nq3
  obtain ⟨fs, hr, hrun, hended, hW, hsame⟩ := X3.leave (v := some (.int (1 : Int32))) (fun h => by rw [Bd.returns] at h; cases h)
  refine ⟨_, _, pre0 _ ?_, hrun, hended, _, _, rfl, ?_, ⟨_, rfl⟩, hW, hsame.mono (by decide) (by decide)⟩
  · show Sp p e below s₁ (mkF m 0 #[.val (.int p0), .unset, .unset, .unset, .unset] []) _
    refine XS.iloadN X0.here hx rfl (hb hby at_0) rfl ?_
    show Sp p e below s₁ (mkF m 1 #[.val (.int p0), .unset, .unset, .unset, .unset] [(.int p0)]) _
    refine X0.ldcI hx hown (mvT hZ (hw _ (List.mem_of_getElem? (i := 0) rfl))) rfl (hb hby at_1) ?_
    show Sp p e below s₁ (mkF m 3 #[.val (.int p0), .unset, .unset, .unset, .unset] [(.int (2147483647 : Int32)), (.int p0)]) _
    refine XS.iand X0.here hx rfl (hb hby at_3) rfl ?_
    show Sp p e below s₁ (mkF m 4 #[.val (.int p0), .unset, .unset, .unset, .unset] [(.int (p0 &&& (2147483647 : Int32)))]) _
    refine XS.bipush X0.here hx rfl (hb hby at_4) ?_
    show Sp p e below s₁ (mkF m 6 #[.val (.int p0), .unset, .unset, .unset, .unset] [(.int (6 : Int32)), (.int (p0 &&& (2147483647 : Int32)))]) _
    refine iremM X0 hx rfl (hb hby at_6) rfl (by decide) ?_
    show Sp p e below s₁ (mkF m 7 #[.val (.int p0), .unset, .unset, .unset, .unset] [(.int ((p0 &&& (2147483647 : Int32)) % (6 : Int32)))]) _
    refine XS.istoreN X0.here hx rfl (hb hby at_7) rfl (l' := #[.val (.int p0), .val (.int ((p0 &&& (2147483647 : Int32)) % (6 : Int32))), .unset, .unset, .unset]) rfl ?_
    show Sp p e below s₁ (mkF m 8 #[.val (.int p0), .val (.int ((p0 &&& (2147483647 : Int32)) % (6 : Int32))), .unset, .unset, .unset] []) _
    refine XS.iloadN X0.here hx rfl (hb hby at_8) rfl ?_
    show Sp p e below s₁ (mkF m 9 #[.val (.int p0), .val (.int ((p0 &&& (2147483647 : Int32)) % (6 : Int32))), .unset, .unset, .unset] [(.int ((p0 &&& (2147483647 : Int32)) % (6 : Int32)))]) _
    refine st1 _ ?_
    show Sp p e below T1 (mkF m 12 #[.val (.int p0), .val (.int ((p0 &&& (2147483647 : Int32)) % (6 : Int32))), .unset, .unset, .unset] [(.ref w_SUCCESS)]) _
    refine XS.astoreN X1.here hx rfl (hb hby at_12) rfl rfl (l' := #[.val (.int p0), .val (.int ((p0 &&& (2147483647 : Int32)) % (6 : Int32))), .val (.ref w_SUCCESS), .unset, .unset]) rfl ?_
    show Sp p e below T1 (mkF m 13 #[.val (.int p0), .val (.int ((p0 &&& (2147483647 : Int32)) % (6 : Int32))), .val (.ref w_SUCCESS), .unset, .unset] []) _
    refine XS.iloadN X1.here hx rfl (hb hby at_13) rfl ?_
    show Sp p e below T1 (mkF m 14 #[.val (.int p0), .val (.int ((p0 &&& (2147483647 : Int32)) % (6 : Int32))), .val (.ref w_SUCCESS), .unset, .unset] [(.int ((p0 &&& (2147483647 : Int32)) % (6 : Int32)))]) _
    refine XS.iconst X1.here hx rfl (hb hby at_14) ?_
    show Sp p e below T1 (mkF m 15 #[.val (.int p0), .val (.int ((p0 &&& (2147483647 : Int32)) % (6 : Int32))), .val (.ref w_SUCCESS), .unset, .unset] [(.int (3 : Int32)), (.int ((p0 &&& (2147483647 : Int32)) % (6 : Int32)))]) _
    refine XS.icmpYes X1.here hx rfl (pc0 := 15) (pc' := 23) rfl (hb hby at_15) rfl (teq hc4).1 (by decide) (by decide) ?_
    show Sp p e below T1 (mkF m 23 #[.val (.int p0), .val (.int ((p0 &&& (2147483647 : Int32)) % (6 : Int32))), .val (.ref w_SUCCESS), .unset, .unset] []) _
    refine XS.iconst X1.here hx rfl (hb hby at_23) ?_
    show Sp p e below T1 (mkF m 24 #[.val (.int p0), .val (.int ((p0 &&& (2147483647 : Int32)) % (6 : Int32))), .val (.ref w_SUCCESS), .unset, .unset] [(.int (1 : Int32))]) _
    refine XS.goto X1.here hx rfl (pc0 := 24) (pc' := 28) rfl (hb hby at_24) (by decide) (by decide) ?_
    show Sp p e below T1 (mkF m 28 #[.val (.int p0), .val (.int ((p0 &&& (2147483647 : Int32)) % (6 : Int32))), .val (.ref w_SUCCESS), .unset, .unset] [(.int (1 : Int32))]) _
    refine XS.istoreN X1.here hx rfl (hb hby at_28) rfl (l' := #[.val (.int p0), .val (.int ((p0 &&& (2147483647 : Int32)) % (6 : Int32))), .val (.ref w_SUCCESS), .val (.int (1 : Int32)), .unset]) rfl ?_
    show Sp p e below T1 (mkF m 29 #[.val (.int p0), .val (.int ((p0 &&& (2147483647 : Int32)) % (6 : Int32))), .val (.ref w_SUCCESS), .val (.int (1 : Int32)), .unset] []) _
    refine XS.aloadN X1.here hx rfl (hb hby at_29) rfl rfl ?_
    show Sp p e below T1 (mkF m 30 #[.val (.int p0), .val (.int ((p0 &&& (2147483647 : Int32)) % (6 : Int32))), .val (.ref w_SUCCESS), .val (.int (1 : Int32)), .unset] [(.ref w_SUCCESS)]) _
    refine st2.trans ?_
    show Sp p e below T2 (mkF m 33 #[.val (.int p0), .val (.int ((p0 &&& (2147483647 : Int32)) % (6 : Int32))), .val (.ref w_SUCCESS), .val (.int (1 : Int32)), .unset] [(.int (1 : Int32))]) _
    refine XS.istore X2.here hx rfl (hb hby at_33) rfl (l' := #[.val (.int p0), .val (.int ((p0 &&& (2147483647 : Int32)) % (6 : Int32))), .val (.ref w_SUCCESS), .val (.int (1 : Int32)), .val (.int (1 : Int32))]) rfl ?_
    show Sp p e below T2 (mkF m 35 #[.val (.int p0), .val (.int ((p0 &&& (2147483647 : Int32)) % (6 : Int32))), .val (.ref w_SUCCESS), .val (.int (1 : Int32)), .val (.int (1 : Int32))] []) _
    refine XS.iload X2.here hx rfl (hb hby at_35) rfl ?_
    show Sp p e below T2 (mkF m 37 #[.val (.int p0), .val (.int ((p0 &&& (2147483647 : Int32)) % (6 : Int32))), .val (.ref w_SUCCESS), .val (.int (1 : Int32)), .val (.int (1 : Int32))] [(.int (1 : Int32))]) _
    refine XS.iloadN X2.here hx rfl (hb hby at_37) rfl ?_
    show Sp p e below T2 (mkF m 38 #[.val (.int p0), .val (.int ((p0 &&& (2147483647 : Int32)) % (6 : Int32))), .val (.ref w_SUCCESS), .val (.int (1 : Int32)), .val (.int (1 : Int32))] [(.int (1 : Int32)), (.int (1 : Int32))]) _
    refine XS.icmpYes X2.here hx rfl (pc0 := 38) (pc' := 43) rfl (hb hby at_38) rfl (teq (by decide : (1 : Int32) = (1 : Int32))).1 (by decide) (by decide) ?_
    show Sp p e below T2 (mkF m 43 #[.val (.int p0), .val (.int ((p0 &&& (2147483647 : Int32)) % (6 : Int32))), .val (.ref w_SUCCESS), .val (.int (1 : Int32)), .val (.int (1 : Int32))] []) _
    refine XS.iload X2.here hx rfl (hb hby at_43) rfl ?_
    show Sp p e below T2 (mkF m 45 #[.val (.int p0), .val (.int ((p0 &&& (2147483647 : Int32)) % (6 : Int32))), .val (.ref w_SUCCESS), .val (.int (1 : Int32)), .val (.int (1 : Int32))] [(.int (1 : Int32))]) _
    refine XS.ifNo X2.here hx rfl (hb hby at_45) rfl ((if0 _ _).trans (feq (by decide : ¬ ((1 : Int32) = (0 : Int32)))).1) ?_
    show Sp p e below T2 (mkF m 48 #[.val (.int p0), .val (.int ((p0 &&& (2147483647 : Int32)) % (6 : Int32))), .val (.ref w_SUCCESS), .val (.int (1 : Int32)), .val (.int (1 : Int32))] []) _
    refine XS.aloadN X2.here hx rfl (hb hby at_48) rfl rfl ?_
    show Sp p e below T2 (mkF m 49 #[.val (.int p0), .val (.int ((p0 &&& (2147483647 : Int32)) % (6 : Int32))), .val (.ref w_SUCCESS), .val (.int (1 : Int32)), .val (.int (1 : Int32))] [(.ref w_SUCCESS)]) _
    refine st3.trans ?_
    show Sp p e below T3 (mkF m 52 #[.val (.int p0), .val (.int ((p0 &&& (2147483647 : Int32)) % (6 : Int32))), .val (.ref w_SUCCESS), .val (.int (1 : Int32)), .val (.int (1 : Int32))] [(.int (0 : Int32))]) _
    refine XS.ifYes X3.here hx rfl (pc0 := 52) (pc' := 57) rfl (hb hby at_52) rfl ((if0 _ _).trans (teq (by decide : (0 : Int32) = (0 : Int32))).1) (by decide) (by decide) ?_
    show Sp p e below T3 (mkF m 57 #[.val (.int p0), .val (.int ((p0 &&& (2147483647 : Int32)) % (6 : Int32))), .val (.ref w_SUCCESS), .val (.int (1 : Int32)), .val (.int (1 : Int32))] []) _
    refine XS.iconst X3.here hx rfl (hb hby at_57) ?_
    show Sp p e below T3 (mkF m 58 #[.val (.int p0), .val (.int ((p0 &&& (2147483647 : Int32)) % (6 : Int32))), .val (.ref w_SUCCESS), .val (.int (1 : Int32)), .val (.int (1 : Int32))] [(.int (1 : Int32))]) _
    exact retN X3 hx (t := .boolean) Bd.returns (by simp) (hb hby at_58) hr
  · skip
    exact ⟨rfl, N3⟩
theorem d1_35 : decode method_3_code 35 = .ok (.iload_n 0, 1) := by decide +kernel
theorem d1_36 : decode method_3_code 36 = .ok (.iconst 4, 1) := by decide +kernel
theorem d1_37 : decode method_3_code 37 = .ok (.if_icmp .ne 7, 3) := by decide +kernel
theorem d1_40 : decode method_3_code 40 = .ok (.getstatic 36, 3) := by decide +kernel
theorem d1_43 : decode method_3_code 43 = .ok (.areturn, 1) := by decide +kernel
def Q14 (Z : State) (w_WAIT : Addr) (w_SUCCESS : Addr) (w_ERROR : Addr) (w_READY : Addr) (w_RUNNING : Addr) (w_PENDING : Addr) (p1 : Int32) (h0 : Heap) (n0 : Nat) (v : Option Value) (h : Heap) (L : List Loc) : Prop := v = some (.ref w_ERROR) ∧ Fr n0 L ∧ h = h0
set_option maxRecDepth 65536 in
set_option maxHeartbeats 40000000 in
theorem rm14 (l : Launch) (Z : State) (a0 : Array Value) (hw : ∀ d ∈ tables_1, d.before a0 Z = true) (ws : List Jvm.Cond) (w_WAIT w_SUCCESS w_ERROR w_READY w_RUNNING w_PENDING : Addr) (hp : Perm Z w_WAIT w_SUCCESS w_ERROR w_READY w_RUNNING w_PENDING) (p1 : Int32) (h0 : Heap) (n0 : Nat) (O0 : Old Z n0 h0) (hc1 : ¬ (p1 = (0 : Int32))) (hc2 : ¬ (p1 = (1 : Int32))) (hc3 : ¬ (p1 = (2 : Int32))) (hc4 : ¬ (p1 = (3 : Int32))) (hc5 : p1 = (4 : Int32)) :
    MetFree l y0 (head1 (Jvm.Cond.code y0 method_3_code 1 (some (.object "com/example/graph_job_runner/graphjobrunner/NodeStatus")) :: ws) ({ frames := 0, cells := 0, slots := 0, locals := 0 } : Room)) (fun a U => a = #[(.int p1)] ∧ Z.Warmed39 U.vm ∧ U.heap = h0) (fun _ _ _ _ _ => True) (fun _ U o U' => ∃ v L, o = .returned v ∧ Q14 Z w_WAIT w_SUCCESS w_ERROR w_READY w_RUNNING w_PENDING p1 h0 n0 v U'.heap L ∧ FrameEnd U o U' L ({ frames := 0, cells := 0, slots := 0, locals := 0 } : Room).cells ({ frames := 0, cells := 0, slots := 0, locals := 0 } : Room).slots) := by
  refine MetFree.of_bodySF (plainFor_of_name pn_1) hisR ?_
  intro p e s m args below meth c s₁ Bd hml0 hP hK
  obtain ⟨rfl, hZ, hh⟩ := hP
  have hx := Bd.exec
  have hby := Bd.bytes
  have hml : c.maxLocals = 1 := hml0
  have hown : s.vm.findClass "com/example/graph_job_runner/graphjobrunner/NodeStatusHasFinishedPinLaw" = some m.cls := findClass_of_methodNamed Bd.named
  have hnm := (name_of_methodNamed Bd.named Bd.method).1
  have X0 : Stand p l e ({ frames := 0, cells := 0, slots := 0, locals := 0 } : Room) s m #[(.int p1)] below meth c s₁ [] 0 0 := Stand.of_body Bd
  have e0 : s₁.heap = h0 := by rw [← hh, Bd.state]; rfl
  have N0 := Fr.nil n0
  have hp' := hp
  obtain ⟨S_w_WAIT, E_w_WAIT, S_w_SUCCESS, E_w_SUCCESS, S_w_ERROR, E_w_ERROR, S_w_READY, E_w_READY, S_w_RUNNING, E_w_RUNNING, S_w_PENDING, E_w_PENDING, F_ordinal_w_WAIT, F_ordinal_w_SUCCESS, F_ordinal_w_ERROR, F_ordinal_w_READY, F_ordinal_w_RUNNING, F_ordinal_w_PENDING⟩ := hp'
  have pre0 : ∀ t, Steps p.tables e below (s₁.setTop (mkF m 0 #[.val (.int p1)] [])) t → Steps p.tables e below (s₁.setTop (entryFrame m #[(.int p1)] 1)) t := fun t k => castTop (ef_1_0 m p1) k
  obtain ⟨T1, X1, e1, st1⟩ := getS2 X0 hx hZ hown (host := "") (Or.inl (hw _ (List.mem_of_getElem? (i := 32) rfl))) Via.refl e0 (S_w_ERROR.ext O0.2) (g := (mkF m 40 #[.val (.int p1)] [])) rfl (hb hby d1_40)
  obtain ⟨fs, hr, hrun, hended, hW, hsame⟩ := X1.leave (v := some (.ref w_ERROR)) (fun h => by rw [Bd.returns] at h; cases h)
  refine ⟨_, _, pre0 _ ?_, hrun, hended, _, _, rfl, ?_, ⟨_, rfl⟩, hW, hsame.mono (by decide) (by decide)⟩
  · show Sp p e below s₁ (mkF m 0 #[.val (.int p1)] []) _
    refine XS.iloadN X0.here hx rfl (hb hby d1_0) rfl ?_
    show Sp p e below s₁ (mkF m 1 #[.val (.int p1)] [(.int p1)]) _
    refine XS.ifYes X0.here hx rfl (pc0 := 1) (pc' := 8) rfl (hb hby d1_1) rfl ((if0 _ _).trans (feq hc1).2) (by decide) (by decide) ?_
    show Sp p e below s₁ (mkF m 8 #[.val (.int p1)] []) _
    refine XS.iloadN X0.here hx rfl (hb hby d1_8) rfl ?_
    show Sp p e below s₁ (mkF m 9 #[.val (.int p1)] [(.int p1)]) _
    refine XS.iconst X0.here hx rfl (hb hby d1_9) ?_
    show Sp p e below s₁ (mkF m 10 #[.val (.int p1)] [(.int (1 : Int32)), (.int p1)]) _
    refine XS.icmpYes X0.here hx rfl (pc0 := 10) (pc' := 17) rfl (hb hby d1_10) rfl (feq hc2).2 (by decide) (by decide) ?_
    show Sp p e below s₁ (mkF m 17 #[.val (.int p1)] []) _
    refine XS.iloadN X0.here hx rfl (hb hby d1_17) rfl ?_
    show Sp p e below s₁ (mkF m 18 #[.val (.int p1)] [(.int p1)]) _
    refine XS.iconst X0.here hx rfl (hb hby d1_18) ?_
    show Sp p e below s₁ (mkF m 19 #[.val (.int p1)] [(.int (2 : Int32)), (.int p1)]) _
    refine XS.icmpYes X0.here hx rfl (pc0 := 19) (pc' := 26) rfl (hb hby d1_19) rfl (feq hc3).2 (by decide) (by decide) ?_
    show Sp p e below s₁ (mkF m 26 #[.val (.int p1)] []) _
    refine XS.iloadN X0.here hx rfl (hb hby d1_26) rfl ?_
    show Sp p e below s₁ (mkF m 27 #[.val (.int p1)] [(.int p1)]) _
    refine XS.iconst X0.here hx rfl (hb hby d1_27) ?_
    show Sp p e below s₁ (mkF m 28 #[.val (.int p1)] [(.int (3 : Int32)), (.int p1)]) _
    refine XS.icmpYes X0.here hx rfl (pc0 := 28) (pc' := 35) rfl (hb hby d1_28) rfl (feq hc4).2 (by decide) (by decide) ?_
    show Sp p e below s₁ (mkF m 35 #[.val (.int p1)] []) _
    refine XS.iloadN X0.here hx rfl (hb hby d1_35) rfl ?_
    show Sp p e below s₁ (mkF m 36 #[.val (.int p1)] [(.int p1)]) _
    refine XS.iconst X0.here hx rfl (hb hby d1_36) ?_
    show Sp p e below s₁ (mkF m 37 #[.val (.int p1)] [(.int (4 : Int32)), (.int p1)]) _
    refine XS.icmpNo X0.here hx rfl (hb hby d1_37) rfl (teq hc5).2 ?_
    show Sp p e below s₁ (mkF m 40 #[.val (.int p1)] []) _
    refine st1 _ ?_
    show Sp p e below T1 (mkF m 43 #[.val (.int p1)] [(.ref w_ERROR)]) _
    jvm_step X1.here [X1.here.top, hx, (hb hby d1_43), X1.method', Bd.returns, Value.isRef, FieldType.isReference]
    first | (intro acts; rw [hr _ acts rfl rfl rfl]) | rw [hr _ _ rfl rfl rfl]
    exact Steps.refl _
  · show Q14 Z w_WAIT w_SUCCESS w_ERROR w_READY w_RUNNING w_PENDING p1 h0 n0 _ T1.heap _
    rw [e1]
    exact ⟨rfl, N0, rfl⟩
def Q15 (Z : State) (w_WAIT : Addr) (w_SUCCESS : Addr) (w_ERROR : Addr) (w_READY : Addr) (w_RUNNING : Addr) (w_PENDING : Addr) (h0 : Heap) (n0 : Nat) (v : Option Value) (h : Heap) (L : List Loc) : Prop := v = some (.int (1 : Int32)) ∧ Fr n0 L ∧ h = h0
set_option maxRecDepth 65536 in
set_option maxHeartbeats 40000000 in
theorem rm15 (l : Launch) (Z : State) (a0 : Array Value) (hw : ∀ d ∈ tables_1, d.before a0 Z = true) (ws : List Jvm.Cond) (w_WAIT w_SUCCESS w_ERROR w_READY w_RUNNING w_PENDING : Addr) (hp : Perm Z w_WAIT w_SUCCESS w_ERROR w_READY w_RUNNING w_PENDING) (h0 : Heap) (n0 : Nat) (O0 : Old Z n0 h0) :
    MetFree l y1 (head1 (Jvm.Cond.code y1 prog_20_method_5_code 1 (some .boolean) :: ws) ({ frames := 0, cells := 0, slots := 0, locals := 0 } : Room)) (fun a U => a = #[(.ref w_ERROR)] ∧ Z.Warmed39 U.vm ∧ U.heap = h0) (fun _ _ _ _ _ => True) (fun _ U o U' => ∃ v L, o = .returned v ∧ Q15 Z w_WAIT w_SUCCESS w_ERROR w_READY w_RUNNING w_PENDING  h0 n0 v U'.heap L ∧ FrameEnd U o U' L ({ frames := 0, cells := 0, slots := 0, locals := 0 } : Room).cells ({ frames := 0, cells := 0, slots := 0, locals := 0 } : Room).slots) := by
  refine MetFree.of_bodySF (plainFor_of_name pn_2) hisR ?_
  intro p e s m args below meth c s₁ Bd hml0 hP hK
  obtain ⟨rfl, hZ, hh⟩ := hP
  have hx := Bd.exec
  have hby := Bd.bytes
  have hml : c.maxLocals = 1 := hml0
  have hown : s.vm.findClass "com/example/graph_job_runner/graphjobrunner/NodeStatus" = some m.cls := findClass_of_methodNamed Bd.named
  have hnm := (name_of_methodNamed Bd.named Bd.method).1
  have X0 : Stand p l e ({ frames := 0, cells := 0, slots := 0, locals := 0 } : Room) s m #[(.ref w_ERROR)] below meth c s₁ [] 0 0 := Stand.of_body Bd
  have e0 : s₁.heap = h0 := by rw [← hh, Bd.state]; rfl
  have N0 := Fr.nil n0
  have hp' := hp
  obtain ⟨S_w_WAIT, E_w_WAIT, S_w_SUCCESS, E_w_SUCCESS, S_w_ERROR, E_w_ERROR, S_w_READY, E_w_READY, S_w_RUNNING, E_w_RUNNING, S_w_PENDING, E_w_PENDING, F_ordinal_w_WAIT, F_ordinal_w_SUCCESS, F_ordinal_w_ERROR, F_ordinal_w_READY, F_ordinal_w_RUNNING, F_ordinal_w_PENDING⟩ := hp'
  have pre0 : ∀ t, Steps p.tables e below (s₁.setTop (mkF m 0 #[.val (.ref w_ERROR)] [])) t → Steps p.tables e below (s₁.setTop (entryFrame m #[(.ref w_ERROR)] 1)) t := fun t k => castTop (ef_2_0 m w_ERROR) k
  obtain ⟨T1, X1, e1, st1⟩ := getS2 X0 hx hZ hown (host := "") (Or.inl (hw _ (List.mem_of_getElem? (i := 13) rfl))) Via.refl e0 (S_w_SUCCESS.ext O0.2) (g := (mkF m 1 #[.val (.ref w_ERROR)] [(.ref w_ERROR)])) rfl (hb hby d2_1)
  obtain ⟨T2, X2, e2, st2⟩ := getS2 X1 hx hZ hown (host := "") (Or.inl (hw _ (List.mem_of_getElem? (i := 15) rfl))) Via.refl e1 (S_w_ERROR.ext O0.2) (g := (mkF m 8 #[.val (.ref w_ERROR)] [(.ref w_ERROR)])) rfl (hb hby d2_8)
  obtain ⟨fs, hr, hrun, hended, hW, hsame⟩ := X2.leave (v := some (.int (1 : Int32))) (fun h => by rw [Bd.returns] at h; cases h)
  refine ⟨_, _, pre0 _ ?_, hrun, hended, _, _, rfl, ?_, ⟨_, rfl⟩, hW, hsame.mono (by decide) (by decide)⟩
  · show Sp p e below s₁ (mkF m 0 #[.val (.ref w_ERROR)] []) _
    refine XS.aloadN X0.here hx rfl (hb hby d2_0) rfl rfl ?_
    show Sp p e below s₁ (mkF m 1 #[.val (.ref w_ERROR)] [(.ref w_ERROR)]) _
    refine st1 _ ?_
    show Sp p e below T1 (mkF m 4 #[.val (.ref w_ERROR)] [(.ref w_SUCCESS), (.ref w_ERROR)]) _
    refine Jvm.RoadKit.acmp (g := (mkF m 4 #[.val (.ref w_ERROR)] [(.ref w_SUCCESS), (.ref w_ERROR)])) X1 hx rfl rfl rfl (pc0 := 4) (pc' := 7) (same := false) rfl (hb hby d2_4) rfl (decide_eq_false fun q => (Ne.symm (ne_w_SUCCESS_w_ERROR hp)) (Value.ref.inj q)) (by decide) (by decide) ?_
    show Sp p e below T1 (mkF m 7 #[.val (.ref w_ERROR)] []) _
    refine XS.aloadN X1.here hx rfl (hb hby d2_7) rfl rfl ?_
    show Sp p e below T1 (mkF m 8 #[.val (.ref w_ERROR)] [(.ref w_ERROR)]) _
    refine st2 _ ?_
    show Sp p e below T2 (mkF m 11 #[.val (.ref w_ERROR)] [(.ref w_ERROR), (.ref w_ERROR)]) _
    refine Jvm.RoadKit.acmp (g := (mkF m 11 #[.val (.ref w_ERROR)] [(.ref w_ERROR), (.ref w_ERROR)])) X2 hx rfl rfl rfl (pc0 := 11) (pc' := 14) (same := true) rfl (hb hby d2_11) rfl (decide_eq_true rfl) (by decide) (by decide) ?_
    show Sp p e below T2 (mkF m 14 #[.val (.ref w_ERROR)] []) _
    refine XS.iconst X2.here hx rfl (hb hby d2_14) ?_
    show Sp p e below T2 (mkF m 15 #[.val (.ref w_ERROR)] [(.int (1 : Int32))]) _
    refine XS.goto X2.here hx rfl (pc0 := 15) (pc' := 19) rfl (hb hby d2_15) (by decide) (by decide) ?_
    show Sp p e below T2 (mkF m 19 #[.val (.ref w_ERROR)] [(.int (1 : Int32))]) _
    exact retN X2 hx (t := .boolean) Bd.returns (by simp) (hb hby d2_19) hr
  · show Q15 Z w_WAIT w_SUCCESS w_ERROR w_READY w_RUNNING w_PENDING  h0 n0 _ T2.heap _
    rw [e2]
    exact ⟨rfl, N0, rfl⟩
def Q16 (Z : State) (w_WAIT : Addr) (w_SUCCESS : Addr) (w_ERROR : Addr) (w_READY : Addr) (w_RUNNING : Addr) (w_PENDING : Addr) (h0 : Heap) (n0 : Nat) (v : Option Value) (h : Heap) (L : List Loc) : Prop := v = some (.int (0 : Int32)) ∧ Fr n0 L ∧ h = h0
set_option maxRecDepth 65536 in
set_option maxHeartbeats 40000000 in
theorem rm16 (l : Launch) (Z : State) (a0 : Array Value) (hw : ∀ d ∈ tables_1, d.before a0 Z = true) (ws : List Jvm.Cond) (w_WAIT w_SUCCESS w_ERROR w_READY w_RUNNING w_PENDING : Addr) (hp : Perm Z w_WAIT w_SUCCESS w_ERROR w_READY w_RUNNING w_PENDING) (h0 : Heap) (n0 : Nat) (O0 : Old Z n0 h0) :
    MetFree l y2 (head1 (Jvm.Cond.code y2 prog_20_method_4_code 1 (some .boolean) :: ws) ({ frames := 0, cells := 0, slots := 0, locals := 0 } : Room)) (fun a U => a = #[(.ref w_ERROR)] ∧ Z.Warmed39 U.vm ∧ U.heap = h0) (fun _ _ _ _ _ => True) (fun _ U o U' => ∃ v L, o = .returned v ∧ Q16 Z w_WAIT w_SUCCESS w_ERROR w_READY w_RUNNING w_PENDING  h0 n0 v U'.heap L ∧ FrameEnd U o U' L ({ frames := 0, cells := 0, slots := 0, locals := 0 } : Room).cells ({ frames := 0, cells := 0, slots := 0, locals := 0 } : Room).slots) := by
  refine MetFree.of_bodySF (plainFor_of_name pn_2) hisR ?_
  intro p e s m args below meth c s₁ Bd hml0 hP hK
  obtain ⟨rfl, hZ, hh⟩ := hP
  have hx := Bd.exec
  have hby := Bd.bytes
  have hml : c.maxLocals = 1 := hml0
  have hown : s.vm.findClass "com/example/graph_job_runner/graphjobrunner/NodeStatus" = some m.cls := findClass_of_methodNamed Bd.named
  have hnm := (name_of_methodNamed Bd.named Bd.method).1
  have X0 : Stand p l e ({ frames := 0, cells := 0, slots := 0, locals := 0 } : Room) s m #[(.ref w_ERROR)] below meth c s₁ [] 0 0 := Stand.of_body Bd
  have e0 : s₁.heap = h0 := by rw [← hh, Bd.state]; rfl
  have N0 := Fr.nil n0
  have hp' := hp
  obtain ⟨S_w_WAIT, E_w_WAIT, S_w_SUCCESS, E_w_SUCCESS, S_w_ERROR, E_w_ERROR, S_w_READY, E_w_READY, S_w_RUNNING, E_w_RUNNING, S_w_PENDING, E_w_PENDING, F_ordinal_w_WAIT, F_ordinal_w_SUCCESS, F_ordinal_w_ERROR, F_ordinal_w_READY, F_ordinal_w_RUNNING, F_ordinal_w_PENDING⟩ := hp'
  have pre0 : ∀ t, Steps p.tables e below (s₁.setTop (mkF m 0 #[.val (.ref w_ERROR)] [])) t → Steps p.tables e below (s₁.setTop (entryFrame m #[(.ref w_ERROR)] 1)) t := fun t k => castTop (ef_3_0 m w_ERROR) k
  obtain ⟨T1, X1, e1, st1⟩ := getS2 X0 hx hZ hown (host := "") (Or.inl (hw _ (List.mem_of_getElem? (i := 23) rfl))) Via.refl e0 (S_w_WAIT.ext O0.2) (g := (mkF m 1 #[.val (.ref w_ERROR)] [(.ref w_ERROR)])) rfl (hb hby d3_1)
  obtain ⟨T2, X2, e2, st2⟩ := getS2 X1 hx hZ hown (host := "") (Or.inl (hw _ (List.mem_of_getElem? (i := 24) rfl))) Via.refl e1 (S_w_READY.ext O0.2) (g := (mkF m 8 #[.val (.ref w_ERROR)] [(.ref w_ERROR)])) rfl (hb hby d3_8)
  obtain ⟨T3, X3, e3, st3⟩ := getS2 X2 hx hZ hown (host := "") (Or.inl (hw _ (List.mem_of_getElem? (i := 26) rfl))) Via.refl e2 (S_w_RUNNING.ext O0.2) (g := (mkF m 15 #[.val (.ref w_ERROR)] [(.ref w_ERROR)])) rfl (hb hby d3_15)
  obtain ⟨fs, hr, hrun, hended, hW, hsame⟩ := X3.leave (v := some (.int (0 : Int32))) (fun h => by rw [Bd.returns] at h; cases h)
  refine ⟨_, _, pre0 _ ?_, hrun, hended, _, _, rfl, ?_, ⟨_, rfl⟩, hW, hsame.mono (by decide) (by decide)⟩
  · show Sp p e below s₁ (mkF m 0 #[.val (.ref w_ERROR)] []) _
    refine XS.aloadN X0.here hx rfl (hb hby d3_0) rfl rfl ?_
    show Sp p e below s₁ (mkF m 1 #[.val (.ref w_ERROR)] [(.ref w_ERROR)]) _
    refine st1 _ ?_
    show Sp p e below T1 (mkF m 4 #[.val (.ref w_ERROR)] [(.ref w_WAIT), (.ref w_ERROR)]) _
    refine Jvm.RoadKit.acmp (g := (mkF m 4 #[.val (.ref w_ERROR)] [(.ref w_WAIT), (.ref w_ERROR)])) X1 hx rfl rfl rfl (pc0 := 4) (pc' := 7) (same := false) rfl (hb hby d3_4) rfl (decide_eq_false fun q => (Ne.symm (ne_w_WAIT_w_ERROR hp)) (Value.ref.inj q)) (by decide) (by decide) ?_
    show Sp p e below T1 (mkF m 7 #[.val (.ref w_ERROR)] []) _
    refine XS.aloadN X1.here hx rfl (hb hby d3_7) rfl rfl ?_
    show Sp p e below T1 (mkF m 8 #[.val (.ref w_ERROR)] [(.ref w_ERROR)]) _
    refine st2 _ ?_
    show Sp p e below T2 (mkF m 11 #[.val (.ref w_ERROR)] [(.ref w_READY), (.ref w_ERROR)]) _
    refine Jvm.RoadKit.acmp (g := (mkF m 11 #[.val (.ref w_ERROR)] [(.ref w_READY), (.ref w_ERROR)])) X2 hx rfl rfl rfl (pc0 := 11) (pc' := 14) (same := false) rfl (hb hby d3_11) rfl (decide_eq_false fun q => (ne_w_ERROR_w_READY hp) (Value.ref.inj q)) (by decide) (by decide) ?_
    show Sp p e below T2 (mkF m 14 #[.val (.ref w_ERROR)] []) _
    refine XS.aloadN X2.here hx rfl (hb hby d3_14) rfl rfl ?_
    show Sp p e below T2 (mkF m 15 #[.val (.ref w_ERROR)] [(.ref w_ERROR)]) _
    refine st3 _ ?_
    show Sp p e below T3 (mkF m 18 #[.val (.ref w_ERROR)] [(.ref w_RUNNING), (.ref w_ERROR)]) _
    refine Jvm.RoadKit.acmp (g := (mkF m 18 #[.val (.ref w_ERROR)] [(.ref w_RUNNING), (.ref w_ERROR)])) X3 hx rfl rfl rfl (pc0 := 18) (pc' := 25) (same := false) rfl (hb hby d3_18) rfl (decide_eq_false fun q => (ne_w_ERROR_w_RUNNING hp) (Value.ref.inj q)) (by decide) (by decide) ?_
    show Sp p e below T3 (mkF m 25 #[.val (.ref w_ERROR)] []) _
    refine XS.iconst X3.here hx rfl (hb hby d3_25) ?_
    show Sp p e below T3 (mkF m 26 #[.val (.ref w_ERROR)] [(.int (0 : Int32))]) _
    exact retN X3 hx (t := .boolean) Bd.returns (by simp) (hb hby d3_26) hr
  · show Q16 Z w_WAIT w_SUCCESS w_ERROR w_READY w_RUNNING w_PENDING  h0 n0 _ T3.heap _
    rw [e3]
    exact ⟨rfl, N0, rfl⟩
set_option maxRecDepth 65536 in
set_option maxHeartbeats 40000000 in
theorem rm17 (l : Launch) (Z : State) (a0 : Array Value) (hw : ∀ d ∈ tables_1, d.before a0 Z = true) (ws : List Jvm.Cond) (w_WAIT w_SUCCESS w_ERROR w_READY w_RUNNING w_PENDING : Addr) (hp : Perm Z w_WAIT w_SUCCESS w_ERROR w_READY w_RUNNING w_PENDING) (p0 : Int32) (h0 : Heap) (n0 : Nat) (O0 : Old Z n0 h0) (hc1 : ¬ (((p0 &&& (2147483647 : Int32)) % (6 : Int32)) = (0 : Int32))) (hc2 : ¬ (((p0 &&& (2147483647 : Int32)) % (6 : Int32)) = (1 : Int32))) (hc3 : ¬ (((p0 &&& (2147483647 : Int32)) % (6 : Int32)) = (2 : Int32))) (hc4 : ¬ (((p0 &&& (2147483647 : Int32)) % (6 : Int32)) = (3 : Int32))) (hc5 : ((p0 &&& (2147483647 : Int32)) % (6 : Int32)) = (4 : Int32)) :
    MetFree l x (head1 (Jvm.Cond.code x code maxLocals ret :: ws) room_1) (fun a U => a = #[(.int p0)] ∧ Z.Warmed39 U.vm ∧ U.heap = h0) (fun _ _ _ _ _ => True) (fun _ U o U' => ∃ v L, o = .returned v ∧ (v = some (.int (1 : Int32)) ∧ Fr n0 L) ∧ FrameEnd U o U' L 0 0) := by
  refine MetFree.of_bodySF (plainFor_of_name pn_1) hisR ?_
  intro p e s m args below meth c s₁ Bd hml0 hP hK
  obtain ⟨rfl, hZ, hh⟩ := hP
  have hx := Bd.exec
  have hby := Bd.bytes
  have hml : c.maxLocals = 5 := hml0
  have hown : s.vm.findClass "com/example/graph_job_runner/graphjobrunner/NodeStatusHasFinishedPinLaw" = some m.cls := findClass_of_methodNamed Bd.named
  have hnm := (name_of_methodNamed Bd.named Bd.method).1
  have X0 : Stand p l e room_1 s m #[(.int p0)] below meth c s₁ [] 0 0 := Stand.of_body Bd
  have e0 : s₁.heap = h0 := by rw [← hh, Bd.state]; rfl
  have N0 := Fr.nil n0
  have hp' := hp
  obtain ⟨S_w_WAIT, E_w_WAIT, S_w_SUCCESS, E_w_SUCCESS, S_w_ERROR, E_w_ERROR, S_w_READY, E_w_READY, S_w_RUNNING, E_w_RUNNING, S_w_PENDING, E_w_PENDING, F_ordinal_w_WAIT, F_ordinal_w_SUCCESS, F_ordinal_w_ERROR, F_ordinal_w_READY, F_ordinal_w_RUNNING, F_ordinal_w_PENDING⟩ := hp'
  have pre0 : ∀ t, Steps p.tables e below (s₁.setTop (mkF m 0 #[.val (.int p0), .unset, .unset, .unset, .unset] [])) t → Steps p.tables e below (s₁.setTop (entryFrame m #[(.int p0)] maxLocals)) t := fun t k => castTop (ef_0_0 m p0) k
  obtain ⟨_, _, ⟨T1, L1, k1, n1⟩, -, X1, ⟨Lc1, hQ1, l1, y1, z1⟩, st1⟩ := Jvm.LawKit.callS X0 hx (y := y0) hown (mvT hZ (hw _ (List.mem_of_getElem? (i := 1) rfl))) (mvT hZ (hw _ (List.mem_of_getElem? (i := 2) rfl))) (mvT hZ (hw _ (List.mem_of_getElem? (i := 3) rfl))) (mvT hZ (hw _ (List.mem_of_getElem? (i := 4) rfl))) (by decide) (backOf (W := 0) (rm14 l Z a0 hw [] w_WAIT w_SUCCESS w_ERROR w_READY w_RUNNING w_PENDING hp ((p0 &&& (2147483647 : Int32)) % (6 : Int32)) h0 n0 O0 hc1 hc2 hc3 hc4 hc5) hZ (hw _ (List.mem_of_getElem? (i := 4) rfl)) (hw _ (List.mem_of_getElem? (i := 3) rfl)) (by decide) (by decide)) (g := (mkF m 9 #[.val (.int p0), .val (.int ((p0 &&& (2147483647 : Int32)) % (6 : Int32))), .unset, .unset, .unset] [(.int ((p0 &&& (2147483647 : Int32)) % (6 : Int32)))])) rfl (by rw [hml]; rfl) (argsL := [(.int ((p0 &&& (2147483647 : Int32)) % (6 : Int32)))]) (rest := []) (lenOf pd_0 rfl) rfl (by show 2 * 0 + _ ≤ _; exact Nat.le_of_eq rfl) (hb hby at_9) (fun _ _ => ⟨rfl, e0, (by decide : 0 + 0 ≤ _), (by decide : 0 + 0 ≤ _)⟩)
  dsimp only [Pt.U, Pt.locs, Pt.cells, Pt.slots] at X1 l1 y1 z1 st1 hQ1
  subst l1 y1 z1
  obtain ⟨rfl, Nq1, eq1⟩ := hQ1
  have N1 := Fr.app N0 Nq1
  obtain ⟨cq2, kq2, q2a, q2b, q2c⟩ := isOf hZ eq1 (E_w_ERROR.ext O0.2)
  obtain ⟨_, _, ⟨T2, L2, k2, n2⟩, -, X2, ⟨Lc2, hQ2, l2, y2, z2⟩, st2⟩ := X1.virtualBack hx (y := y1) (z := y1) hown (mvT hZ (hw _ (List.mem_of_getElem? (i := 8) rfl))) (mvT hZ (hw _ (List.mem_of_getElem? (i := 9) rfl))) (notFace_of_selects (args := #[]) (mvT hZ (hw _ (List.mem_of_getElem? (i := 11) rfl)))) (mvT hZ (hw _ (List.mem_of_getElem? (i := 11) rfl))) (mvT hZ (hw _ (List.mem_of_getElem? (i := 10) rfl))) (by decide) (backOf (W := 0) (rm15 l Z a0 hw [] w_WAIT w_SUCCESS w_ERROR w_READY w_RUNNING w_PENDING hp h0 n0 O0) hZ (hw _ (List.mem_of_getElem? (i := 12) rfl)) (hw _ (List.mem_of_getElem? (i := 6) rfl)) (by decide) (by decide)) q2a q2c (g := (mkF m 30 #[.val (.int p0), .val (.int ((p0 &&& (2147483647 : Int32)) % (6 : Int32))), .val (.ref w_ERROR), .val (.int (1 : Int32)), .unset] [(.ref w_ERROR)])) rfl (by rw [hml]; rfl) (Steps.refl _) (argsL := []) (rest := []) (lenOf pd_1 rfl) rfl (by show 2 * 0 + _ ≤ _; exact Nat.le_of_eq rfl) (hb hby at_30) (fun _ _ => ⟨rfl, eq1, (by decide : 0 + 0 ≤ _), (by decide : 0 + 0 ≤ _)⟩)
  dsimp only [Pt.U, Pt.locs, Pt.cells, Pt.slots] at X2 l2 y2 z2 st2 hQ2
  subst l2 y2 z2
  obtain ⟨rfl, Nq2, eq2⟩ := hQ2
  have N2 := Fr.app N1 Nq2
  obtain ⟨cq3, kq3, q3a, q3b, q3c⟩ := isOf hZ eq2 (E_w_ERROR.ext O0.2)
  obtain ⟨_, _, ⟨T3, L3, k3, n3⟩, -, X3, ⟨Lc3, hQ3, l3, y3, z3⟩, st3⟩ := X2.virtualBack hx (y := y2) (z := y2) hown (mvT hZ (hw _ (List.mem_of_getElem? (i := 18) rfl))) (mvT hZ (hw _ (List.mem_of_getElem? (i := 19) rfl))) (notFace_of_selects (args := #[]) (mvT hZ (hw _ (List.mem_of_getElem? (i := 21) rfl)))) (mvT hZ (hw _ (List.mem_of_getElem? (i := 21) rfl))) (mvT hZ (hw _ (List.mem_of_getElem? (i := 20) rfl))) (by decide) (backOf (W := 0) (rm16 l Z a0 hw [] w_WAIT w_SUCCESS w_ERROR w_READY w_RUNNING w_PENDING hp h0 n0 O0) hZ (hw _ (List.mem_of_getElem? (i := 22) rfl)) (hw _ (List.mem_of_getElem? (i := 6) rfl)) (by decide) (by decide)) q3a q3c (g := (mkF m 49 #[.val (.int p0), .val (.int ((p0 &&& (2147483647 : Int32)) % (6 : Int32))), .val (.ref w_ERROR), .val (.int (1 : Int32)), .val (.int (1 : Int32))] [(.ref w_ERROR)])) rfl (by rw [hml]; rfl) (Steps.refl _) (argsL := []) (rest := []) (lenOf pd_1 rfl) rfl (by show 2 * 0 + _ ≤ _; exact Nat.le_of_eq rfl) (hb hby at_49) (fun _ _ => ⟨rfl, eq2, (by decide : 0 + 0 ≤ _), (by decide : 0 + 0 ≤ _)⟩)
  dsimp only [Pt.U, Pt.locs, Pt.cells, Pt.slots] at X3 l3 y3 z3 st3 hQ3
  subst l3 y3 z3
  obtain ⟨rfl, Nq3, eq3⟩ := hQ3
  have N3 := Fr.app N2 Nq3
  obtain ⟨fs, hr, hrun, hended, hW, hsame⟩ := X3.leave (v := some (.int (1 : Int32))) (fun h => by rw [Bd.returns] at h; cases h)
  refine ⟨_, _, pre0 _ ?_, hrun, hended, _, _, rfl, ?_, ⟨_, rfl⟩, hW, hsame.mono (by decide) (by decide)⟩
  · show Sp p e below s₁ (mkF m 0 #[.val (.int p0), .unset, .unset, .unset, .unset] []) _
    refine XS.iloadN X0.here hx rfl (hb hby at_0) rfl ?_
    show Sp p e below s₁ (mkF m 1 #[.val (.int p0), .unset, .unset, .unset, .unset] [(.int p0)]) _
    refine X0.ldcI hx hown (mvT hZ (hw _ (List.mem_of_getElem? (i := 0) rfl))) rfl (hb hby at_1) ?_
    show Sp p e below s₁ (mkF m 3 #[.val (.int p0), .unset, .unset, .unset, .unset] [(.int (2147483647 : Int32)), (.int p0)]) _
    refine XS.iand X0.here hx rfl (hb hby at_3) rfl ?_
    show Sp p e below s₁ (mkF m 4 #[.val (.int p0), .unset, .unset, .unset, .unset] [(.int (p0 &&& (2147483647 : Int32)))]) _
    refine XS.bipush X0.here hx rfl (hb hby at_4) ?_
    show Sp p e below s₁ (mkF m 6 #[.val (.int p0), .unset, .unset, .unset, .unset] [(.int (6 : Int32)), (.int (p0 &&& (2147483647 : Int32)))]) _
    refine iremM X0 hx rfl (hb hby at_6) rfl (by decide) ?_
    show Sp p e below s₁ (mkF m 7 #[.val (.int p0), .unset, .unset, .unset, .unset] [(.int ((p0 &&& (2147483647 : Int32)) % (6 : Int32)))]) _
    refine XS.istoreN X0.here hx rfl (hb hby at_7) rfl (l' := #[.val (.int p0), .val (.int ((p0 &&& (2147483647 : Int32)) % (6 : Int32))), .unset, .unset, .unset]) rfl ?_
    show Sp p e below s₁ (mkF m 8 #[.val (.int p0), .val (.int ((p0 &&& (2147483647 : Int32)) % (6 : Int32))), .unset, .unset, .unset] []) _
    refine XS.iloadN X0.here hx rfl (hb hby at_8) rfl ?_
    show Sp p e below s₁ (mkF m 9 #[.val (.int p0), .val (.int ((p0 &&& (2147483647 : Int32)) % (6 : Int32))), .unset, .unset, .unset] [(.int ((p0 &&& (2147483647 : Int32)) % (6 : Int32)))]) _
    refine st1 _ ?_
    show Sp p e below T1 (mkF m 12 #[.val (.int p0), .val (.int ((p0 &&& (2147483647 : Int32)) % (6 : Int32))), .unset, .unset, .unset] [(.ref w_ERROR)]) _
    refine XS.astoreN X1.here hx rfl (hb hby at_12) rfl rfl (l' := #[.val (.int p0), .val (.int ((p0 &&& (2147483647 : Int32)) % (6 : Int32))), .val (.ref w_ERROR), .unset, .unset]) rfl ?_
    show Sp p e below T1 (mkF m 13 #[.val (.int p0), .val (.int ((p0 &&& (2147483647 : Int32)) % (6 : Int32))), .val (.ref w_ERROR), .unset, .unset] []) _
    refine XS.iloadN X1.here hx rfl (hb hby at_13) rfl ?_
    show Sp p e below T1 (mkF m 14 #[.val (.int p0), .val (.int ((p0 &&& (2147483647 : Int32)) % (6 : Int32))), .val (.ref w_ERROR), .unset, .unset] [(.int ((p0 &&& (2147483647 : Int32)) % (6 : Int32)))]) _
    refine XS.iconst X1.here hx rfl (hb hby at_14) ?_
    show Sp p e below T1 (mkF m 15 #[.val (.int p0), .val (.int ((p0 &&& (2147483647 : Int32)) % (6 : Int32))), .val (.ref w_ERROR), .unset, .unset] [(.int (3 : Int32)), (.int ((p0 &&& (2147483647 : Int32)) % (6 : Int32)))]) _
    refine XS.icmpNo X1.here hx rfl (hb hby at_15) rfl (feq hc4).1 ?_
    show Sp p e below T1 (mkF m 18 #[.val (.int p0), .val (.int ((p0 &&& (2147483647 : Int32)) % (6 : Int32))), .val (.ref w_ERROR), .unset, .unset] []) _
    refine XS.iloadN X1.here hx rfl (hb hby at_18) rfl ?_
    show Sp p e below T1 (mkF m 19 #[.val (.int p0), .val (.int ((p0 &&& (2147483647 : Int32)) % (6 : Int32))), .val (.ref w_ERROR), .unset, .unset] [(.int ((p0 &&& (2147483647 : Int32)) % (6 : Int32)))]) _
    refine XS.iconst X1.here hx rfl (hb hby at_19) ?_
    show Sp p e below T1 (mkF m 20 #[.val (.int p0), .val (.int ((p0 &&& (2147483647 : Int32)) % (6 : Int32))), .val (.ref w_ERROR), .unset, .unset] [(.int (4 : Int32)), (.int ((p0 &&& (2147483647 : Int32)) % (6 : Int32)))]) _
    refine XS.icmpNo X1.here hx rfl (hb hby at_20) rfl (teq hc5).2 ?_
    show Sp p e below T1 (mkF m 23 #[.val (.int p0), .val (.int ((p0 &&& (2147483647 : Int32)) % (6 : Int32))), .val (.ref w_ERROR), .unset, .unset] []) _
    refine XS.iconst X1.here hx rfl (hb hby at_23) ?_
    show Sp p e below T1 (mkF m 24 #[.val (.int p0), .val (.int ((p0 &&& (2147483647 : Int32)) % (6 : Int32))), .val (.ref w_ERROR), .unset, .unset] [(.int (1 : Int32))]) _
    refine XS.goto X1.here hx rfl (pc0 := 24) (pc' := 28) rfl (hb hby at_24) (by decide) (by decide) ?_
    show Sp p e below T1 (mkF m 28 #[.val (.int p0), .val (.int ((p0 &&& (2147483647 : Int32)) % (6 : Int32))), .val (.ref w_ERROR), .unset, .unset] [(.int (1 : Int32))]) _
    refine XS.istoreN X1.here hx rfl (hb hby at_28) rfl (l' := #[.val (.int p0), .val (.int ((p0 &&& (2147483647 : Int32)) % (6 : Int32))), .val (.ref w_ERROR), .val (.int (1 : Int32)), .unset]) rfl ?_
    show Sp p e below T1 (mkF m 29 #[.val (.int p0), .val (.int ((p0 &&& (2147483647 : Int32)) % (6 : Int32))), .val (.ref w_ERROR), .val (.int (1 : Int32)), .unset] []) _
    refine XS.aloadN X1.here hx rfl (hb hby at_29) rfl rfl ?_
    show Sp p e below T1 (mkF m 30 #[.val (.int p0), .val (.int ((p0 &&& (2147483647 : Int32)) % (6 : Int32))), .val (.ref w_ERROR), .val (.int (1 : Int32)), .unset] [(.ref w_ERROR)]) _
    refine st2.trans ?_
    show Sp p e below T2 (mkF m 33 #[.val (.int p0), .val (.int ((p0 &&& (2147483647 : Int32)) % (6 : Int32))), .val (.ref w_ERROR), .val (.int (1 : Int32)), .unset] [(.int (1 : Int32))]) _
    refine XS.istore X2.here hx rfl (hb hby at_33) rfl (l' := #[.val (.int p0), .val (.int ((p0 &&& (2147483647 : Int32)) % (6 : Int32))), .val (.ref w_ERROR), .val (.int (1 : Int32)), .val (.int (1 : Int32))]) rfl ?_
    show Sp p e below T2 (mkF m 35 #[.val (.int p0), .val (.int ((p0 &&& (2147483647 : Int32)) % (6 : Int32))), .val (.ref w_ERROR), .val (.int (1 : Int32)), .val (.int (1 : Int32))] []) _
    refine XS.iload X2.here hx rfl (hb hby at_35) rfl ?_
    show Sp p e below T2 (mkF m 37 #[.val (.int p0), .val (.int ((p0 &&& (2147483647 : Int32)) % (6 : Int32))), .val (.ref w_ERROR), .val (.int (1 : Int32)), .val (.int (1 : Int32))] [(.int (1 : Int32))]) _
    refine XS.iloadN X2.here hx rfl (hb hby at_37) rfl ?_
    show Sp p e below T2 (mkF m 38 #[.val (.int p0), .val (.int ((p0 &&& (2147483647 : Int32)) % (6 : Int32))), .val (.ref w_ERROR), .val (.int (1 : Int32)), .val (.int (1 : Int32))] [(.int (1 : Int32)), (.int (1 : Int32))]) _
    refine XS.icmpYes X2.here hx rfl (pc0 := 38) (pc' := 43) rfl (hb hby at_38) rfl (teq (by decide : (1 : Int32) = (1 : Int32))).1 (by decide) (by decide) ?_
    show Sp p e below T2 (mkF m 43 #[.val (.int p0), .val (.int ((p0 &&& (2147483647 : Int32)) % (6 : Int32))), .val (.ref w_ERROR), .val (.int (1 : Int32)), .val (.int (1 : Int32))] []) _
    refine XS.iload X2.here hx rfl (hb hby at_43) rfl ?_
    show Sp p e below T2 (mkF m 45 #[.val (.int p0), .val (.int ((p0 &&& (2147483647 : Int32)) % (6 : Int32))), .val (.ref w_ERROR), .val (.int (1 : Int32)), .val (.int (1 : Int32))] [(.int (1 : Int32))]) _
    refine XS.ifNo X2.here hx rfl (hb hby at_45) rfl ((if0 _ _).trans (feq (by decide : ¬ ((1 : Int32) = (0 : Int32)))).1) ?_
    show Sp p e below T2 (mkF m 48 #[.val (.int p0), .val (.int ((p0 &&& (2147483647 : Int32)) % (6 : Int32))), .val (.ref w_ERROR), .val (.int (1 : Int32)), .val (.int (1 : Int32))] []) _
    refine XS.aloadN X2.here hx rfl (hb hby at_48) rfl rfl ?_
    show Sp p e below T2 (mkF m 49 #[.val (.int p0), .val (.int ((p0 &&& (2147483647 : Int32)) % (6 : Int32))), .val (.ref w_ERROR), .val (.int (1 : Int32)), .val (.int (1 : Int32))] [(.ref w_ERROR)]) _
    refine st3.trans ?_
    show Sp p e below T3 (mkF m 52 #[.val (.int p0), .val (.int ((p0 &&& (2147483647 : Int32)) % (6 : Int32))), .val (.ref w_ERROR), .val (.int (1 : Int32)), .val (.int (1 : Int32))] [(.int (0 : Int32))]) _
    refine XS.ifYes X3.here hx rfl (pc0 := 52) (pc' := 57) rfl (hb hby at_52) rfl ((if0 _ _).trans (teq (by decide : (0 : Int32) = (0 : Int32))).1) (by decide) (by decide) ?_
    show Sp p e below T3 (mkF m 57 #[.val (.int p0), .val (.int ((p0 &&& (2147483647 : Int32)) % (6 : Int32))), .val (.ref w_ERROR), .val (.int (1 : Int32)), .val (.int (1 : Int32))] []) _
    refine XS.iconst X3.here hx rfl (hb hby at_57) ?_
    show Sp p e below T3 (mkF m 58 #[.val (.int p0), .val (.int ((p0 &&& (2147483647 : Int32)) % (6 : Int32))), .val (.ref w_ERROR), .val (.int (1 : Int32)), .val (.int (1 : Int32))] [(.int (1 : Int32))]) _
    exact retN X3 hx (t := .boolean) Bd.returns (by simp) (hb hby at_58) hr
  · skip
    exact ⟨rfl, N3⟩
theorem d1_44 : decode method_3_code 44 = .ok (.getstatic 39, 3) := by decide +kernel
theorem d1_47 : decode method_3_code 47 = .ok (.areturn, 1) := by decide +kernel
def Q18 (Z : State) (w_WAIT : Addr) (w_SUCCESS : Addr) (w_ERROR : Addr) (w_READY : Addr) (w_RUNNING : Addr) (w_PENDING : Addr) (p1 : Int32) (h0 : Heap) (n0 : Nat) (v : Option Value) (h : Heap) (L : List Loc) : Prop := v = some (.ref w_PENDING) ∧ Fr n0 L ∧ h = h0
set_option maxRecDepth 65536 in
set_option maxHeartbeats 40000000 in
theorem rm18 (l : Launch) (Z : State) (a0 : Array Value) (hw : ∀ d ∈ tables_1, d.before a0 Z = true) (ws : List Jvm.Cond) (w_WAIT w_SUCCESS w_ERROR w_READY w_RUNNING w_PENDING : Addr) (hp : Perm Z w_WAIT w_SUCCESS w_ERROR w_READY w_RUNNING w_PENDING) (p1 : Int32) (h0 : Heap) (n0 : Nat) (O0 : Old Z n0 h0) (hc1 : ¬ (p1 = (0 : Int32))) (hc2 : ¬ (p1 = (1 : Int32))) (hc3 : ¬ (p1 = (2 : Int32))) (hc4 : ¬ (p1 = (3 : Int32))) (hc5 : ¬ (p1 = (4 : Int32))) :
    MetFree l y0 (head1 (Jvm.Cond.code y0 method_3_code 1 (some (.object "com/example/graph_job_runner/graphjobrunner/NodeStatus")) :: ws) ({ frames := 0, cells := 0, slots := 0, locals := 0 } : Room)) (fun a U => a = #[(.int p1)] ∧ Z.Warmed39 U.vm ∧ U.heap = h0) (fun _ _ _ _ _ => True) (fun _ U o U' => ∃ v L, o = .returned v ∧ Q18 Z w_WAIT w_SUCCESS w_ERROR w_READY w_RUNNING w_PENDING p1 h0 n0 v U'.heap L ∧ FrameEnd U o U' L ({ frames := 0, cells := 0, slots := 0, locals := 0 } : Room).cells ({ frames := 0, cells := 0, slots := 0, locals := 0 } : Room).slots) := by
  refine MetFree.of_bodySF (plainFor_of_name pn_1) hisR ?_
  intro p e s m args below meth c s₁ Bd hml0 hP hK
  obtain ⟨rfl, hZ, hh⟩ := hP
  have hx := Bd.exec
  have hby := Bd.bytes
  have hml : c.maxLocals = 1 := hml0
  have hown : s.vm.findClass "com/example/graph_job_runner/graphjobrunner/NodeStatusHasFinishedPinLaw" = some m.cls := findClass_of_methodNamed Bd.named
  have hnm := (name_of_methodNamed Bd.named Bd.method).1
  have X0 : Stand p l e ({ frames := 0, cells := 0, slots := 0, locals := 0 } : Room) s m #[(.int p1)] below meth c s₁ [] 0 0 := Stand.of_body Bd
  have e0 : s₁.heap = h0 := by rw [← hh, Bd.state]; rfl
  have N0 := Fr.nil n0
  have hp' := hp
  obtain ⟨S_w_WAIT, E_w_WAIT, S_w_SUCCESS, E_w_SUCCESS, S_w_ERROR, E_w_ERROR, S_w_READY, E_w_READY, S_w_RUNNING, E_w_RUNNING, S_w_PENDING, E_w_PENDING, F_ordinal_w_WAIT, F_ordinal_w_SUCCESS, F_ordinal_w_ERROR, F_ordinal_w_READY, F_ordinal_w_RUNNING, F_ordinal_w_PENDING⟩ := hp'
  have pre0 : ∀ t, Steps p.tables e below (s₁.setTop (mkF m 0 #[.val (.int p1)] [])) t → Steps p.tables e below (s₁.setTop (entryFrame m #[(.int p1)] 1)) t := fun t k => castTop (ef_1_0 m p1) k
  obtain ⟨T1, X1, e1, st1⟩ := getS2 X0 hx hZ hown (host := "") (Or.inl (hw _ (List.mem_of_getElem? (i := 30) rfl))) Via.refl e0 (S_w_PENDING.ext O0.2) (g := (mkF m 44 #[.val (.int p1)] [])) rfl (hb hby d1_44)
  obtain ⟨fs, hr, hrun, hended, hW, hsame⟩ := X1.leave (v := some (.ref w_PENDING)) (fun h => by rw [Bd.returns] at h; cases h)
  refine ⟨_, _, pre0 _ ?_, hrun, hended, _, _, rfl, ?_, ⟨_, rfl⟩, hW, hsame.mono (by decide) (by decide)⟩
  · show Sp p e below s₁ (mkF m 0 #[.val (.int p1)] []) _
    refine XS.iloadN X0.here hx rfl (hb hby d1_0) rfl ?_
    show Sp p e below s₁ (mkF m 1 #[.val (.int p1)] [(.int p1)]) _
    refine XS.ifYes X0.here hx rfl (pc0 := 1) (pc' := 8) rfl (hb hby d1_1) rfl ((if0 _ _).trans (feq hc1).2) (by decide) (by decide) ?_
    show Sp p e below s₁ (mkF m 8 #[.val (.int p1)] []) _
    refine XS.iloadN X0.here hx rfl (hb hby d1_8) rfl ?_
    show Sp p e below s₁ (mkF m 9 #[.val (.int p1)] [(.int p1)]) _
    refine XS.iconst X0.here hx rfl (hb hby d1_9) ?_
    show Sp p e below s₁ (mkF m 10 #[.val (.int p1)] [(.int (1 : Int32)), (.int p1)]) _
    refine XS.icmpYes X0.here hx rfl (pc0 := 10) (pc' := 17) rfl (hb hby d1_10) rfl (feq hc2).2 (by decide) (by decide) ?_
    show Sp p e below s₁ (mkF m 17 #[.val (.int p1)] []) _
    refine XS.iloadN X0.here hx rfl (hb hby d1_17) rfl ?_
    show Sp p e below s₁ (mkF m 18 #[.val (.int p1)] [(.int p1)]) _
    refine XS.iconst X0.here hx rfl (hb hby d1_18) ?_
    show Sp p e below s₁ (mkF m 19 #[.val (.int p1)] [(.int (2 : Int32)), (.int p1)]) _
    refine XS.icmpYes X0.here hx rfl (pc0 := 19) (pc' := 26) rfl (hb hby d1_19) rfl (feq hc3).2 (by decide) (by decide) ?_
    show Sp p e below s₁ (mkF m 26 #[.val (.int p1)] []) _
    refine XS.iloadN X0.here hx rfl (hb hby d1_26) rfl ?_
    show Sp p e below s₁ (mkF m 27 #[.val (.int p1)] [(.int p1)]) _
    refine XS.iconst X0.here hx rfl (hb hby d1_27) ?_
    show Sp p e below s₁ (mkF m 28 #[.val (.int p1)] [(.int (3 : Int32)), (.int p1)]) _
    refine XS.icmpYes X0.here hx rfl (pc0 := 28) (pc' := 35) rfl (hb hby d1_28) rfl (feq hc4).2 (by decide) (by decide) ?_
    show Sp p e below s₁ (mkF m 35 #[.val (.int p1)] []) _
    refine XS.iloadN X0.here hx rfl (hb hby d1_35) rfl ?_
    show Sp p e below s₁ (mkF m 36 #[.val (.int p1)] [(.int p1)]) _
    refine XS.iconst X0.here hx rfl (hb hby d1_36) ?_
    show Sp p e below s₁ (mkF m 37 #[.val (.int p1)] [(.int (4 : Int32)), (.int p1)]) _
    refine XS.icmpYes X0.here hx rfl (pc0 := 37) (pc' := 44) rfl (hb hby d1_37) rfl (feq hc5).2 (by decide) (by decide) ?_
    show Sp p e below s₁ (mkF m 44 #[.val (.int p1)] []) _
    refine st1 _ ?_
    show Sp p e below T1 (mkF m 47 #[.val (.int p1)] [(.ref w_PENDING)]) _
    jvm_step X1.here [X1.here.top, hx, (hb hby d1_47), X1.method', Bd.returns, Value.isRef, FieldType.isReference]
    first | (intro acts; rw [hr _ acts rfl rfl rfl]) | rw [hr _ _ rfl rfl rfl]
    exact Steps.refl _
  · show Q18 Z w_WAIT w_SUCCESS w_ERROR w_READY w_RUNNING w_PENDING p1 h0 n0 _ T1.heap _
    rw [e1]
    exact ⟨rfl, N0, rfl⟩
def Q19 (Z : State) (w_WAIT : Addr) (w_SUCCESS : Addr) (w_ERROR : Addr) (w_READY : Addr) (w_RUNNING : Addr) (w_PENDING : Addr) (h0 : Heap) (n0 : Nat) (v : Option Value) (h : Heap) (L : List Loc) : Prop := v = some (.int (0 : Int32)) ∧ Fr n0 L ∧ h = h0
set_option maxRecDepth 65536 in
set_option maxHeartbeats 40000000 in
theorem rm19 (l : Launch) (Z : State) (a0 : Array Value) (hw : ∀ d ∈ tables_1, d.before a0 Z = true) (ws : List Jvm.Cond) (w_WAIT w_SUCCESS w_ERROR w_READY w_RUNNING w_PENDING : Addr) (hp : Perm Z w_WAIT w_SUCCESS w_ERROR w_READY w_RUNNING w_PENDING) (h0 : Heap) (n0 : Nat) (O0 : Old Z n0 h0) :
    MetFree l y1 (head1 (Jvm.Cond.code y1 prog_20_method_5_code 1 (some .boolean) :: ws) ({ frames := 0, cells := 0, slots := 0, locals := 0 } : Room)) (fun a U => a = #[(.ref w_PENDING)] ∧ Z.Warmed39 U.vm ∧ U.heap = h0) (fun _ _ _ _ _ => True) (fun _ U o U' => ∃ v L, o = .returned v ∧ Q19 Z w_WAIT w_SUCCESS w_ERROR w_READY w_RUNNING w_PENDING  h0 n0 v U'.heap L ∧ FrameEnd U o U' L ({ frames := 0, cells := 0, slots := 0, locals := 0 } : Room).cells ({ frames := 0, cells := 0, slots := 0, locals := 0 } : Room).slots) := by
  refine MetFree.of_bodySF (plainFor_of_name pn_2) hisR ?_
  intro p e s m args below meth c s₁ Bd hml0 hP hK
  obtain ⟨rfl, hZ, hh⟩ := hP
  have hx := Bd.exec
  have hby := Bd.bytes
  have hml : c.maxLocals = 1 := hml0
  have hown : s.vm.findClass "com/example/graph_job_runner/graphjobrunner/NodeStatus" = some m.cls := findClass_of_methodNamed Bd.named
  have hnm := (name_of_methodNamed Bd.named Bd.method).1
  have X0 : Stand p l e ({ frames := 0, cells := 0, slots := 0, locals := 0 } : Room) s m #[(.ref w_PENDING)] below meth c s₁ [] 0 0 := Stand.of_body Bd
  have e0 : s₁.heap = h0 := by rw [← hh, Bd.state]; rfl
  have N0 := Fr.nil n0
  have hp' := hp
  obtain ⟨S_w_WAIT, E_w_WAIT, S_w_SUCCESS, E_w_SUCCESS, S_w_ERROR, E_w_ERROR, S_w_READY, E_w_READY, S_w_RUNNING, E_w_RUNNING, S_w_PENDING, E_w_PENDING, F_ordinal_w_WAIT, F_ordinal_w_SUCCESS, F_ordinal_w_ERROR, F_ordinal_w_READY, F_ordinal_w_RUNNING, F_ordinal_w_PENDING⟩ := hp'
  have pre0 : ∀ t, Steps p.tables e below (s₁.setTop (mkF m 0 #[.val (.ref w_PENDING)] [])) t → Steps p.tables e below (s₁.setTop (entryFrame m #[(.ref w_PENDING)] 1)) t := fun t k => castTop (ef_2_0 m w_PENDING) k
  obtain ⟨T1, X1, e1, st1⟩ := getS2 X0 hx hZ hown (host := "") (Or.inl (hw _ (List.mem_of_getElem? (i := 13) rfl))) Via.refl e0 (S_w_SUCCESS.ext O0.2) (g := (mkF m 1 #[.val (.ref w_PENDING)] [(.ref w_PENDING)])) rfl (hb hby d2_1)
  obtain ⟨T2, X2, e2, st2⟩ := getS2 X1 hx hZ hown (host := "") (Or.inl (hw _ (List.mem_of_getElem? (i := 15) rfl))) Via.refl e1 (S_w_ERROR.ext O0.2) (g := (mkF m 8 #[.val (.ref w_PENDING)] [(.ref w_PENDING)])) rfl (hb hby d2_8)
  obtain ⟨fs, hr, hrun, hended, hW, hsame⟩ := X2.leave (v := some (.int (0 : Int32))) (fun h => by rw [Bd.returns] at h; cases h)
  refine ⟨_, _, pre0 _ ?_, hrun, hended, _, _, rfl, ?_, ⟨_, rfl⟩, hW, hsame.mono (by decide) (by decide)⟩
  · show Sp p e below s₁ (mkF m 0 #[.val (.ref w_PENDING)] []) _
    refine XS.aloadN X0.here hx rfl (hb hby d2_0) rfl rfl ?_
    show Sp p e below s₁ (mkF m 1 #[.val (.ref w_PENDING)] [(.ref w_PENDING)]) _
    refine st1 _ ?_
    show Sp p e below T1 (mkF m 4 #[.val (.ref w_PENDING)] [(.ref w_SUCCESS), (.ref w_PENDING)]) _
    refine Jvm.RoadKit.acmp (g := (mkF m 4 #[.val (.ref w_PENDING)] [(.ref w_SUCCESS), (.ref w_PENDING)])) X1 hx rfl rfl rfl (pc0 := 4) (pc' := 7) (same := false) rfl (hb hby d2_4) rfl (decide_eq_false fun q => (Ne.symm (ne_w_SUCCESS_w_PENDING hp)) (Value.ref.inj q)) (by decide) (by decide) ?_
    show Sp p e below T1 (mkF m 7 #[.val (.ref w_PENDING)] []) _
    refine XS.aloadN X1.here hx rfl (hb hby d2_7) rfl rfl ?_
    show Sp p e below T1 (mkF m 8 #[.val (.ref w_PENDING)] [(.ref w_PENDING)]) _
    refine st2 _ ?_
    show Sp p e below T2 (mkF m 11 #[.val (.ref w_PENDING)] [(.ref w_ERROR), (.ref w_PENDING)]) _
    refine Jvm.RoadKit.acmp (g := (mkF m 11 #[.val (.ref w_PENDING)] [(.ref w_ERROR), (.ref w_PENDING)])) X2 hx rfl rfl rfl (pc0 := 11) (pc' := 18) (same := false) rfl (hb hby d2_11) rfl (decide_eq_false fun q => (Ne.symm (ne_w_ERROR_w_PENDING hp)) (Value.ref.inj q)) (by decide) (by decide) ?_
    show Sp p e below T2 (mkF m 18 #[.val (.ref w_PENDING)] []) _
    refine XS.iconst X2.here hx rfl (hb hby d2_18) ?_
    show Sp p e below T2 (mkF m 19 #[.val (.ref w_PENDING)] [(.int (0 : Int32))]) _
    exact retN X2 hx (t := .boolean) Bd.returns (by simp) (hb hby d2_19) hr
  · show Q19 Z w_WAIT w_SUCCESS w_ERROR w_READY w_RUNNING w_PENDING  h0 n0 _ T2.heap _
    rw [e2]
    exact ⟨rfl, N0, rfl⟩
set_option maxRecDepth 65536 in
set_option maxHeartbeats 40000000 in
theorem rm20 (l : Launch) (Z : State) (a0 : Array Value) (hw : ∀ d ∈ tables_1, d.before a0 Z = true) (ws : List Jvm.Cond) (w_WAIT w_SUCCESS w_ERROR w_READY w_RUNNING w_PENDING : Addr) (hp : Perm Z w_WAIT w_SUCCESS w_ERROR w_READY w_RUNNING w_PENDING) (p0 : Int32) (h0 : Heap) (n0 : Nat) (O0 : Old Z n0 h0) (hc1 : ¬ (((p0 &&& (2147483647 : Int32)) % (6 : Int32)) = (0 : Int32))) (hc2 : ¬ (((p0 &&& (2147483647 : Int32)) % (6 : Int32)) = (1 : Int32))) (hc3 : ¬ (((p0 &&& (2147483647 : Int32)) % (6 : Int32)) = (2 : Int32))) (hc4 : ¬ (((p0 &&& (2147483647 : Int32)) % (6 : Int32)) = (3 : Int32))) (hc5 : ¬ (((p0 &&& (2147483647 : Int32)) % (6 : Int32)) = (4 : Int32))) :
    MetFree l x (head1 (Jvm.Cond.code x code maxLocals ret :: ws) room_1) (fun a U => a = #[(.int p0)] ∧ Z.Warmed39 U.vm ∧ U.heap = h0) (fun _ _ _ _ _ => True) (fun _ U o U' => ∃ v L, o = .returned v ∧ (v = some (.int (1 : Int32)) ∧ Fr n0 L) ∧ FrameEnd U o U' L 0 0) := by
  refine MetFree.of_bodySF (plainFor_of_name pn_1) hisR ?_
  intro p e s m args below meth c s₁ Bd hml0 hP hK
  obtain ⟨rfl, hZ, hh⟩ := hP
  have hx := Bd.exec
  have hby := Bd.bytes
  have hml : c.maxLocals = 5 := hml0
  have hown : s.vm.findClass "com/example/graph_job_runner/graphjobrunner/NodeStatusHasFinishedPinLaw" = some m.cls := findClass_of_methodNamed Bd.named
  have hnm := (name_of_methodNamed Bd.named Bd.method).1
  have X0 : Stand p l e room_1 s m #[(.int p0)] below meth c s₁ [] 0 0 := Stand.of_body Bd
  have e0 : s₁.heap = h0 := by rw [← hh, Bd.state]; rfl
  have N0 := Fr.nil n0
  have hp' := hp
  obtain ⟨S_w_WAIT, E_w_WAIT, S_w_SUCCESS, E_w_SUCCESS, S_w_ERROR, E_w_ERROR, S_w_READY, E_w_READY, S_w_RUNNING, E_w_RUNNING, S_w_PENDING, E_w_PENDING, F_ordinal_w_WAIT, F_ordinal_w_SUCCESS, F_ordinal_w_ERROR, F_ordinal_w_READY, F_ordinal_w_RUNNING, F_ordinal_w_PENDING⟩ := hp'
  have pre0 : ∀ t, Steps p.tables e below (s₁.setTop (mkF m 0 #[.val (.int p0), .unset, .unset, .unset, .unset] [])) t → Steps p.tables e below (s₁.setTop (entryFrame m #[(.int p0)] maxLocals)) t := fun t k => castTop (ef_0_0 m p0) k
  obtain ⟨_, _, ⟨T1, L1, k1, n1⟩, -, X1, ⟨Lc1, hQ1, l1, y1, z1⟩, st1⟩ := Jvm.LawKit.callS X0 hx (y := y0) hown (mvT hZ (hw _ (List.mem_of_getElem? (i := 1) rfl))) (mvT hZ (hw _ (List.mem_of_getElem? (i := 2) rfl))) (mvT hZ (hw _ (List.mem_of_getElem? (i := 3) rfl))) (mvT hZ (hw _ (List.mem_of_getElem? (i := 4) rfl))) (by decide) (backOf (W := 0) (rm18 l Z a0 hw [] w_WAIT w_SUCCESS w_ERROR w_READY w_RUNNING w_PENDING hp ((p0 &&& (2147483647 : Int32)) % (6 : Int32)) h0 n0 O0 hc1 hc2 hc3 hc4 hc5) hZ (hw _ (List.mem_of_getElem? (i := 4) rfl)) (hw _ (List.mem_of_getElem? (i := 3) rfl)) (by decide) (by decide)) (g := (mkF m 9 #[.val (.int p0), .val (.int ((p0 &&& (2147483647 : Int32)) % (6 : Int32))), .unset, .unset, .unset] [(.int ((p0 &&& (2147483647 : Int32)) % (6 : Int32)))])) rfl (by rw [hml]; rfl) (argsL := [(.int ((p0 &&& (2147483647 : Int32)) % (6 : Int32)))]) (rest := []) (lenOf pd_0 rfl) rfl (by show 2 * 0 + _ ≤ _; exact Nat.le_of_eq rfl) (hb hby at_9) (fun _ _ => ⟨rfl, e0, (by decide : 0 + 0 ≤ _), (by decide : 0 + 0 ≤ _)⟩)
  dsimp only [Pt.U, Pt.locs, Pt.cells, Pt.slots] at X1 l1 y1 z1 st1 hQ1
  subst l1 y1 z1
  obtain ⟨rfl, Nq1, eq1⟩ := hQ1
  have N1 := Fr.app N0 Nq1
  obtain ⟨cq2, kq2, q2a, q2b, q2c⟩ := isOf hZ eq1 (E_w_PENDING.ext O0.2)
  obtain ⟨_, _, ⟨T2, L2, k2, n2⟩, -, X2, ⟨Lc2, hQ2, l2, y2, z2⟩, st2⟩ := X1.virtualBack hx (y := y1) (z := y1) hown (mvT hZ (hw _ (List.mem_of_getElem? (i := 8) rfl))) (mvT hZ (hw _ (List.mem_of_getElem? (i := 9) rfl))) (notFace_of_selects (args := #[]) (mvT hZ (hw _ (List.mem_of_getElem? (i := 11) rfl)))) (mvT hZ (hw _ (List.mem_of_getElem? (i := 11) rfl))) (mvT hZ (hw _ (List.mem_of_getElem? (i := 10) rfl))) (by decide) (backOf (W := 0) (rm19 l Z a0 hw [] w_WAIT w_SUCCESS w_ERROR w_READY w_RUNNING w_PENDING hp h0 n0 O0) hZ (hw _ (List.mem_of_getElem? (i := 12) rfl)) (hw _ (List.mem_of_getElem? (i := 6) rfl)) (by decide) (by decide)) q2a q2c (g := (mkF m 30 #[.val (.int p0), .val (.int ((p0 &&& (2147483647 : Int32)) % (6 : Int32))), .val (.ref w_PENDING), .val (.int (0 : Int32)), .unset] [(.ref w_PENDING)])) rfl (by rw [hml]; rfl) (Steps.refl _) (argsL := []) (rest := []) (lenOf pd_1 rfl) rfl (by show 2 * 0 + _ ≤ _; exact Nat.le_of_eq rfl) (hb hby at_30) (fun _ _ => ⟨rfl, eq1, (by decide : 0 + 0 ≤ _), (by decide : 0 + 0 ≤ _)⟩)
  dsimp only [Pt.U, Pt.locs, Pt.cells, Pt.slots] at X2 l2 y2 z2 st2 hQ2
  subst l2 y2 z2
  obtain ⟨rfl, Nq2, eq2⟩ := hQ2
  have N2 := Fr.app N1 Nq2
  obtain ⟨fs, hr, hrun, hended, hW, hsame⟩ := X2.leave (v := some (.int (1 : Int32))) (fun h => by rw [Bd.returns] at h; cases h)
  refine ⟨_, _, pre0 _ ?_, hrun, hended, _, _, rfl, ?_, ⟨_, rfl⟩, hW, hsame.mono (by decide) (by decide)⟩
  · show Sp p e below s₁ (mkF m 0 #[.val (.int p0), .unset, .unset, .unset, .unset] []) _
    refine XS.iloadN X0.here hx rfl (hb hby at_0) rfl ?_
    show Sp p e below s₁ (mkF m 1 #[.val (.int p0), .unset, .unset, .unset, .unset] [(.int p0)]) _
    refine X0.ldcI hx hown (mvT hZ (hw _ (List.mem_of_getElem? (i := 0) rfl))) rfl (hb hby at_1) ?_
    show Sp p e below s₁ (mkF m 3 #[.val (.int p0), .unset, .unset, .unset, .unset] [(.int (2147483647 : Int32)), (.int p0)]) _
    refine XS.iand X0.here hx rfl (hb hby at_3) rfl ?_
    show Sp p e below s₁ (mkF m 4 #[.val (.int p0), .unset, .unset, .unset, .unset] [(.int (p0 &&& (2147483647 : Int32)))]) _
    refine XS.bipush X0.here hx rfl (hb hby at_4) ?_
    show Sp p e below s₁ (mkF m 6 #[.val (.int p0), .unset, .unset, .unset, .unset] [(.int (6 : Int32)), (.int (p0 &&& (2147483647 : Int32)))]) _
    refine iremM X0 hx rfl (hb hby at_6) rfl (by decide) ?_
    show Sp p e below s₁ (mkF m 7 #[.val (.int p0), .unset, .unset, .unset, .unset] [(.int ((p0 &&& (2147483647 : Int32)) % (6 : Int32)))]) _
    refine XS.istoreN X0.here hx rfl (hb hby at_7) rfl (l' := #[.val (.int p0), .val (.int ((p0 &&& (2147483647 : Int32)) % (6 : Int32))), .unset, .unset, .unset]) rfl ?_
    show Sp p e below s₁ (mkF m 8 #[.val (.int p0), .val (.int ((p0 &&& (2147483647 : Int32)) % (6 : Int32))), .unset, .unset, .unset] []) _
    refine XS.iloadN X0.here hx rfl (hb hby at_8) rfl ?_
    show Sp p e below s₁ (mkF m 9 #[.val (.int p0), .val (.int ((p0 &&& (2147483647 : Int32)) % (6 : Int32))), .unset, .unset, .unset] [(.int ((p0 &&& (2147483647 : Int32)) % (6 : Int32)))]) _
    refine st1 _ ?_
    show Sp p e below T1 (mkF m 12 #[.val (.int p0), .val (.int ((p0 &&& (2147483647 : Int32)) % (6 : Int32))), .unset, .unset, .unset] [(.ref w_PENDING)]) _
    refine XS.astoreN X1.here hx rfl (hb hby at_12) rfl rfl (l' := #[.val (.int p0), .val (.int ((p0 &&& (2147483647 : Int32)) % (6 : Int32))), .val (.ref w_PENDING), .unset, .unset]) rfl ?_
    show Sp p e below T1 (mkF m 13 #[.val (.int p0), .val (.int ((p0 &&& (2147483647 : Int32)) % (6 : Int32))), .val (.ref w_PENDING), .unset, .unset] []) _
    refine XS.iloadN X1.here hx rfl (hb hby at_13) rfl ?_
    show Sp p e below T1 (mkF m 14 #[.val (.int p0), .val (.int ((p0 &&& (2147483647 : Int32)) % (6 : Int32))), .val (.ref w_PENDING), .unset, .unset] [(.int ((p0 &&& (2147483647 : Int32)) % (6 : Int32)))]) _
    refine XS.iconst X1.here hx rfl (hb hby at_14) ?_
    show Sp p e below T1 (mkF m 15 #[.val (.int p0), .val (.int ((p0 &&& (2147483647 : Int32)) % (6 : Int32))), .val (.ref w_PENDING), .unset, .unset] [(.int (3 : Int32)), (.int ((p0 &&& (2147483647 : Int32)) % (6 : Int32)))]) _
    refine XS.icmpNo X1.here hx rfl (hb hby at_15) rfl (feq hc4).1 ?_
    show Sp p e below T1 (mkF m 18 #[.val (.int p0), .val (.int ((p0 &&& (2147483647 : Int32)) % (6 : Int32))), .val (.ref w_PENDING), .unset, .unset] []) _
    refine XS.iloadN X1.here hx rfl (hb hby at_18) rfl ?_
    show Sp p e below T1 (mkF m 19 #[.val (.int p0), .val (.int ((p0 &&& (2147483647 : Int32)) % (6 : Int32))), .val (.ref w_PENDING), .unset, .unset] [(.int ((p0 &&& (2147483647 : Int32)) % (6 : Int32)))]) _
    refine XS.iconst X1.here hx rfl (hb hby at_19) ?_
    show Sp p e below T1 (mkF m 20 #[.val (.int p0), .val (.int ((p0 &&& (2147483647 : Int32)) % (6 : Int32))), .val (.ref w_PENDING), .unset, .unset] [(.int (4 : Int32)), (.int ((p0 &&& (2147483647 : Int32)) % (6 : Int32)))]) _
    refine XS.icmpYes X1.here hx rfl (pc0 := 20) (pc' := 27) rfl (hb hby at_20) rfl (feq hc5).2 (by decide) (by decide) ?_
    show Sp p e below T1 (mkF m 27 #[.val (.int p0), .val (.int ((p0 &&& (2147483647 : Int32)) % (6 : Int32))), .val (.ref w_PENDING), .unset, .unset] []) _
    refine XS.iconst X1.here hx rfl (hb hby at_27) ?_
    show Sp p e below T1 (mkF m 28 #[.val (.int p0), .val (.int ((p0 &&& (2147483647 : Int32)) % (6 : Int32))), .val (.ref w_PENDING), .unset, .unset] [(.int (0 : Int32))]) _
    refine XS.istoreN X1.here hx rfl (hb hby at_28) rfl (l' := #[.val (.int p0), .val (.int ((p0 &&& (2147483647 : Int32)) % (6 : Int32))), .val (.ref w_PENDING), .val (.int (0 : Int32)), .unset]) rfl ?_
    show Sp p e below T1 (mkF m 29 #[.val (.int p0), .val (.int ((p0 &&& (2147483647 : Int32)) % (6 : Int32))), .val (.ref w_PENDING), .val (.int (0 : Int32)), .unset] []) _
    refine XS.aloadN X1.here hx rfl (hb hby at_29) rfl rfl ?_
    show Sp p e below T1 (mkF m 30 #[.val (.int p0), .val (.int ((p0 &&& (2147483647 : Int32)) % (6 : Int32))), .val (.ref w_PENDING), .val (.int (0 : Int32)), .unset] [(.ref w_PENDING)]) _
    refine st2.trans ?_
    show Sp p e below T2 (mkF m 33 #[.val (.int p0), .val (.int ((p0 &&& (2147483647 : Int32)) % (6 : Int32))), .val (.ref w_PENDING), .val (.int (0 : Int32)), .unset] [(.int (0 : Int32))]) _
    refine XS.istore X2.here hx rfl (hb hby at_33) rfl (l' := #[.val (.int p0), .val (.int ((p0 &&& (2147483647 : Int32)) % (6 : Int32))), .val (.ref w_PENDING), .val (.int (0 : Int32)), .val (.int (0 : Int32))]) rfl ?_
    show Sp p e below T2 (mkF m 35 #[.val (.int p0), .val (.int ((p0 &&& (2147483647 : Int32)) % (6 : Int32))), .val (.ref w_PENDING), .val (.int (0 : Int32)), .val (.int (0 : Int32))] []) _
    refine XS.iload X2.here hx rfl (hb hby at_35) rfl ?_
    show Sp p e below T2 (mkF m 37 #[.val (.int p0), .val (.int ((p0 &&& (2147483647 : Int32)) % (6 : Int32))), .val (.ref w_PENDING), .val (.int (0 : Int32)), .val (.int (0 : Int32))] [(.int (0 : Int32))]) _
    refine XS.iloadN X2.here hx rfl (hb hby at_37) rfl ?_
    show Sp p e below T2 (mkF m 38 #[.val (.int p0), .val (.int ((p0 &&& (2147483647 : Int32)) % (6 : Int32))), .val (.ref w_PENDING), .val (.int (0 : Int32)), .val (.int (0 : Int32))] [(.int (0 : Int32)), (.int (0 : Int32))]) _
    refine XS.icmpYes X2.here hx rfl (pc0 := 38) (pc' := 43) rfl (hb hby at_38) rfl (teq (by decide : (0 : Int32) = (0 : Int32))).1 (by decide) (by decide) ?_
    show Sp p e below T2 (mkF m 43 #[.val (.int p0), .val (.int ((p0 &&& (2147483647 : Int32)) % (6 : Int32))), .val (.ref w_PENDING), .val (.int (0 : Int32)), .val (.int (0 : Int32))] []) _
    refine XS.iload X2.here hx rfl (hb hby at_43) rfl ?_
    show Sp p e below T2 (mkF m 45 #[.val (.int p0), .val (.int ((p0 &&& (2147483647 : Int32)) % (6 : Int32))), .val (.ref w_PENDING), .val (.int (0 : Int32)), .val (.int (0 : Int32))] [(.int (0 : Int32))]) _
    refine XS.ifYes X2.here hx rfl (pc0 := 45) (pc' := 57) rfl (hb hby at_45) rfl ((if0 _ _).trans (teq (by decide : (0 : Int32) = (0 : Int32))).1) (by decide) (by decide) ?_
    show Sp p e below T2 (mkF m 57 #[.val (.int p0), .val (.int ((p0 &&& (2147483647 : Int32)) % (6 : Int32))), .val (.ref w_PENDING), .val (.int (0 : Int32)), .val (.int (0 : Int32))] []) _
    refine XS.iconst X2.here hx rfl (hb hby at_57) ?_
    show Sp p e below T2 (mkF m 58 #[.val (.int p0), .val (.int ((p0 &&& (2147483647 : Int32)) % (6 : Int32))), .val (.ref w_PENDING), .val (.int (0 : Int32)), .val (.int (0 : Int32))] [(.int (1 : Int32))]) _
    exact retN X2 hx (t := .boolean) Bd.returns (by simp) (hb hby at_58) hr
  · skip
    exact ⟨rfl, N2⟩
set_option maxRecDepth 65536 in
set_option maxHeartbeats 4000000 in
theorem rm_law (l : Launch) (Z : State) (a0 : Array Value) (hw : ∀ d ∈ tables_1, d.before a0 Z = true) (ws : List Jvm.Cond) (w_WAIT w_SUCCESS w_ERROR w_READY w_RUNNING w_PENDING : Addr) (hp : Perm Z w_WAIT w_SUCCESS w_ERROR w_READY w_RUNNING w_PENDING) (p0 : Int32) (h0 : Heap) (n0 : Nat) (O0 : Old Z n0 h0) :
    MetFree l x (head1 (Jvm.Cond.code x code maxLocals ret :: ws) room_1) (fun a U => a = #[(.int p0)] ∧ Z.Warmed39 U.vm ∧ U.heap = h0) (fun _ _ _ _ _ => True) (fun _ U o U' => ∃ v L, o = .returned v ∧ (v = some (.int (1 : Int32)) ∧ Fr n0 L) ∧ FrameEnd U o U' L 0 0) := by
  by_cases d0 : ((p0 &&& (2147483647 : Int32)) % (6 : Int32)) = (0 : Int32)
  · skip
    exact rm3 l Z a0 hw ws w_WAIT w_SUCCESS w_ERROR w_READY w_RUNNING w_PENDING hp p0 h0 n0 O0 d0
  · skip
    by_cases d1 : ((p0 &&& (2147483647 : Int32)) % (6 : Int32)) = (1 : Int32)
    · skip
      exact rm6 l Z a0 hw ws w_WAIT w_SUCCESS w_ERROR w_READY w_RUNNING w_PENDING hp p0 h0 n0 O0 d0 d1
    · skip
      by_cases d2 : ((p0 &&& (2147483647 : Int32)) % (6 : Int32)) = (2 : Int32)
      · skip
        exact rm9 l Z a0 hw ws w_WAIT w_SUCCESS w_ERROR w_READY w_RUNNING w_PENDING hp p0 h0 n0 O0 d0 d1 d2
      · skip
        by_cases d3 : ((p0 &&& (2147483647 : Int32)) % (6 : Int32)) = (3 : Int32)
        · skip
          exact rm13 l Z a0 hw ws w_WAIT w_SUCCESS w_ERROR w_READY w_RUNNING w_PENDING hp p0 h0 n0 O0 d0 d1 d2 d3
        · skip
          by_cases d4 : ((p0 &&& (2147483647 : Int32)) % (6 : Int32)) = (4 : Int32)
          · skip
            exact rm17 l Z a0 hw ws w_WAIT w_SUCCESS w_ERROR w_READY w_RUNNING w_PENDING hp p0 h0 n0 O0 d0 d1 d2 d3 d4
          · skip
            exact rm20 l Z a0 hw ws w_WAIT w_SUCCESS w_ERROR w_READY w_RUNNING w_PENDING hp p0 h0 n0 O0 d0 d1 d2 d3 d4
set_option maxRecDepth 65536 in
set_option maxHeartbeats 40000000 in
theorem comes_1 {Post : Tables → Env → Array Value → State → Outcome → State → Prop} (hpost : ∀ tb e args s v u, (limb_1_1.after args s (.returned v) u = true ∧ limb_1_2.after args s (.returned v) u = true ∧ True) → FrameEnd s (.returned v) u (Jvm.fieldLocs frame_1_writes args s ++ Jvm.arrayLocs frame_1_arrays args s ++ Jvm.staticLocs frame_1_statics s) 0 0 → Post tb e args s (.returned v) u) :
    ArmFor flags0 classFile x code maxLocals ret World_1 tables_1 room_1 Calls_1 rest_1 Pre_1 Post := by
  intro l hfl _ _ p e ha hc hk s m args below hf hA hF happ hP
  obtain ⟨hcalls, hrest, hpre⟩ := hP
  obtain ⟨-, -, -, hnamed, -, -, -, hat⟩ := (Spec.applies_iff hf).mp happ
  obtain ⟨hg, hn⟩ := and_e (Cond.before_iff.mp (show (Jvm.Cond.and given_1 narrow_1).before args s = true from hpre))
  obtain ⟨h1, hg⟩ := and_e hg
  have ga0 := hg
  obtain ⟨w0, rfl⟩ : ∃ w0 : Value, args = #[w0] := by
    have hs : args.size = 1 := by simpa [Cond.value, given_1] using h1
    obtain ⟨L⟩ := args
    match L, hs with
    | [w0], _ => exact ⟨w0, rfl⟩
  have hw := fun d (hd : d ∈ tables_1) => atoms_spec (ws := Jvm.Cond.code x code maxLocals ret :: tables_1) hat d (List.mem_cons_of_mem _ hd)
  have hfit : Fit s := fun {y c} hc i hi => by
    obtain ⟨ha, rfl⟩ := Array.getElem?_eq_some_iff.mp hc
    have q := List.all_eq_true.mp ((Array.all_eq_true_iff_forall_mem.mp hF) _ (Array.getElem_mem ha)) i (List.mem_range.mpr hi)
    simpa [Array.getElem?_eq_getElem hi] using q
  obtain ⟨i0, ei0⟩ := is_v ga0
  obtain rfl : w0 = (.int i0) := Option.some.inj ei0
  obtain ⟨nn0, hn⟩ := and_e hn
  obtain ⟨nn1, hn⟩ := and_e hn
  obtain ⟨nn2, hn⟩ := and_e hn
  obtain ⟨nn3, hn⟩ := and_e hn
  obtain ⟨nn4, hn⟩ := and_e hn
  obtain ⟨nn5, hn⟩ := and_e hn
  obtain ⟨nn6, hn⟩ := and_e hn
  obtain ⟨nn7, hn⟩ := and_e hn
  obtain ⟨nn8, hn⟩ := and_e hn
  obtain ⟨nn9, hn⟩ := and_e hn
  obtain ⟨nn10, hn⟩ := and_e hn
  have nn11 := hn
  obtain ⟨w_WAIT, ev_w_WAIT⟩ := exa_v nn0
  have E_w_WAIT := Exa.start ev_w_WAIT nn0
  have S_w_WAIT := Sta.start ev_w_WAIT (Or.inr ⟨(hw _ (List.mem_of_getElem? (i := 6) rfl)), (hw _ (List.mem_of_getElem? (i := 7) rfl))⟩)
  obtain ⟨w_SUCCESS, ev_w_SUCCESS⟩ := exa_v nn1
  have E_w_SUCCESS := Exa.start ev_w_SUCCESS nn1
  have S_w_SUCCESS := Sta.start ev_w_SUCCESS (Or.inr ⟨(hw _ (List.mem_of_getElem? (i := 6) rfl)), (hw _ (List.mem_of_getElem? (i := 14) rfl))⟩)
  obtain ⟨w_ERROR, ev_w_ERROR⟩ := exa_v nn4
  have E_w_ERROR := Exa.start ev_w_ERROR nn4
  have S_w_ERROR := Sta.start ev_w_ERROR (Or.inr ⟨(hw _ (List.mem_of_getElem? (i := 6) rfl)), (hw _ (List.mem_of_getElem? (i := 16) rfl))⟩)
  obtain ⟨w_READY, ev_w_READY⟩ := exa_v nn6
  have E_w_READY := Exa.start ev_w_READY nn6
  have S_w_READY := Sta.start ev_w_READY (Or.inr ⟨(hw _ (List.mem_of_getElem? (i := 6) rfl)), (hw _ (List.mem_of_getElem? (i := 25) rfl))⟩)
  obtain ⟨w_RUNNING, ev_w_RUNNING⟩ := exa_v nn8
  have E_w_RUNNING := Exa.start ev_w_RUNNING nn8
  have S_w_RUNNING := Sta.start ev_w_RUNNING (Or.inr ⟨(hw _ (List.mem_of_getElem? (i := 6) rfl)), (hw _ (List.mem_of_getElem? (i := 27) rfl))⟩)
  obtain ⟨w_PENDING, ev_w_PENDING⟩ := exa_v nn10
  have E_w_PENDING := Exa.start ev_w_PENDING nn10
  have S_w_PENDING := Sta.start ev_w_PENDING (Or.inr ⟨(hw _ (List.mem_of_getElem? (i := 6) rfl)), (hw _ (List.mem_of_getElem? (i := 31) rfl))⟩)
  have F_ordinal_w_WAIT := own_fldi ev_w_WAIT nn2
  have F_ordinal_w_SUCCESS := own_fldi ev_w_SUCCESS nn3
  have F_ordinal_w_ERROR := own_fldi ev_w_ERROR nn5
  have F_ordinal_w_READY := own_fldi ev_w_READY nn7
  have F_ordinal_w_RUNNING := own_fldi ev_w_RUNNING nn9
  have F_ordinal_w_PENDING := own_fldi ev_w_PENDING nn11
  obtain ⟨n, o, h1, h2, h3, _, L, rfl, ⟨rfl, N⟩, hq⟩ := rm_law l s _ hw tables_1 w_WAIT w_SUCCESS w_ERROR w_READY w_RUNNING w_PENDING ⟨S_w_WAIT, E_w_WAIT, S_w_SUCCESS, E_w_SUCCESS, S_w_ERROR, E_w_ERROR, S_w_READY, E_w_READY, S_w_RUNNING, E_w_RUNNING, S_w_PENDING, E_w_PENDING, F_ordinal_w_WAIT, F_ordinal_w_SUCCESS, F_ordinal_w_ERROR, F_ordinal_w_READY, F_ordinal_w_RUNNING, F_ordinal_w_PENDING⟩ i0 s.heap s.heap.size (Old.start s) p e ha hc hk s m _ below hf ((Spec.applies_iff_loose hf).mp happ).1 ⟨rfl, State.Warmed39.refl s, rfl⟩ trivial
  refine ⟨n, _, h1, h2, h3, hpost _ _ _ _ _ _ ⟨Cond.after_iff.mpr rfl, Cond.after_iff.mpr (eq_i res_at (Term.int_eval (1)) rfl), trivial⟩ ⟨hq.1, hq.2.1, (hq.2.2.sift fun y hy => Or.inr (N y hy)).mono (by decide) (by decide)⟩⟩
theorem main_1_1 : Claimed_1_1 := comes_1 fun _ _ _ _ _ _ h hF => ⟨h.1, hF⟩
theorem main_1_2 : Claimed_1_2 := comes_1 fun _ _ _ _ _ _ h hF => ⟨h.2.1, hF⟩
end Jvm.Pilot.@@N@@
namespace Jvm.Pilot.@@N@@
open Jvm Jvm.ClassFile Sem Op Lib Jvm.Free Jvm.Stand Jvm.Pilot.@@N@@.Jvm.D
/-! MADE BY PROGRAM (witnessworld.py) out of the Statement's table words and the real class files: 12 classes; the members and pool entries that the words name. The judged class is class 1, her method 1. -/
namespace start1
open Jvm.ClassFile
def u (s : String) : CpInfo := .utf8 (stringToUtf16 s)
/-- a pool by its gaps: so many unusable entries, then the entry; so many at the end -/
def gap : Nat → List CpInfo → List CpInfo
  | 0, r => r
  | n + 1, r => .unusable :: gap n r
def poolList (es : List (Nat × CpInfo)) (last : Nat) : List CpInfo := es.foldr (fun e r => gap e.1 (e.2 :: r)) (gap last [])
def pool (es : List (Nat × CpInfo)) (last : Nat) : Array CpInfo := ⟨poolList es last⟩
def fileOf (pool : Array CpInfo) (this : Nat) (attrs : Array Attribute := #[]) (ms : Array MethodInfo := #[]) (fl : Nat := 33) (sup : Nat := 0) (ifs : Array Nat := #[]) (fds : Array FieldInfo := #[]) : ClassFile where
  minorVersion := 0
  majorVersion := 65
  constantPool := pool
  accessFlags := fl
  thisClass := this
  superClass := sup
  interfaces := ifs
  fields := fds
  methods := ms
  attributes := attrs
def plain (name : String) (sup : Option ClassId) : Class where
  name := name
  kind := .ordinary
  loader := none
  accessFlags := 33
  super := sup
  interfaces := #[]
  cf := none
  fields := #[]
  methods := #[]
  instanceTypes := #[]
  staticTypes := #[]
  resolved := #[]
  callSites := []
  init := .initialized
  statics := none
  mirror := none

def pool0 : Array CpInfo := pool [(5, u "<init>"), (0, u "()V"), (1, .class_ 10), (1, u "java/lang/Object")] 113

def k0m0 : Method := { name := "<init>", desc := "()V", sig := { parameters := [], returnType := none }, accessFlags := 1, code := none }
/-- java/lang/Object -/
def k0 : Class := { plain "java/lang/Object" none with
  accessFlags := 33
  interfaces := #[]
  cf := some (fileOf pool0 8 #[] #[{ accessFlags := 1, nameIndex := 5, descriptorIndex := 6, attributes := #[] }] 33 0 #[] #[])
  fields := #[]
  methods := #[k0m0]
  instanceTypes := #[]
  staticTypes := #[]
  resolved := Array.replicate 124 none
  statics := none }

def pool1 : Array CpInfo := pool [(2, .class_ 4), (1, u "java/lang/Object"), (0, u "<init>"), (0, u "()V"), (0, .integer 2147483647), (0, .methodref 9 10), (0, .class_ 11), (0, .nameAndType 12 13), (0, u "com/example/graph_job_runner/graphjobrunner/NodeStatusHasFinishedPinLaw"), (0, u "pick"), (0, u "(I)Lcom/example/graph_job_runner/graphjobrunner/NodeStatus;"), (0, .methodref 15 16), (0, .class_ 17), (0, .nameAndType 18 19), (0, u "com/example/graph_job_runner/graphjobrunner/NodeStatus"), (0, u "hasFinished"), (0, u "()Z"), (0, .methodref 15 21), (0, .nameAndType 22 19), (0, u "canStillRun"), (0, .fieldref 15 24), (0, .nameAndType 25 26), (0, u "WAIT"), (0, u "Lcom/example/graph_job_runner/graphjobrunner/NodeStatus;"), (0, .fieldref 15 28), (0, .nameAndType 29 26), (0, u "READY"), (0, .fieldref 15 31), (0, .nameAndType 32 26), (0, u "RUNNING"), (0, .fieldref 15 34), (0, .nameAndType 35 26), (0, u "SUCCESS"), (0, .fieldref 15 37), (0, .nameAndType 38 26), (0, u "ERROR"), (0, .fieldref 15 40), (0, .nameAndType 41 26), (0, u "PENDING"), (2, u "law"), (0, u "(I)Z")] 3

def k1m0 : Method := { name := "<init>", desc := "()V", sig := { parameters := [], returnType := none }, accessFlags := 1, code := none }
def k1c1 : Code := { maxStack := 2, maxLocals := 5, code := code, exceptionTable := #[], attributes := #[] }
def k1m1 : Method := { name := "law", desc := "(I)Z", sig := { parameters := [.int], returnType := some .boolean }, accessFlags := 9, code := some k1c1 }
def k1c2 : Code := { maxStack := 2, maxLocals := 1, code := method_3_code, exceptionTable := #[], attributes := #[] }
def k1m2 : Method := { name := "pick", desc := "(I)Lcom/example/graph_job_runner/graphjobrunner/NodeStatus;", sig := { parameters := [.int], returnType := some (.object "com/example/graph_job_runner/graphjobrunner/NodeStatus") }, accessFlags := 10, code := some k1c2 }
/-- com/example/graph_job_runner/graphjobrunner/NodeStatusHasFinishedPinLaw -/
def k1 : Class := { plain "com/example/graph_job_runner/graphjobrunner/NodeStatusHasFinishedPinLaw" (some 0) with
  accessFlags := 49
  interfaces := #[]
  cf := some (fileOf pool1 9 #[] #[{ accessFlags := 1, nameIndex := 5, descriptorIndex := 6, attributes := #[] }, { accessFlags := 9, nameIndex := 44, descriptorIndex := 45, attributes := #[] }, { accessFlags := 10, nameIndex := 12, descriptorIndex := 13, attributes := #[] }] 49 2 #[] #[])
  fields := #[]
  methods := #[k1m0, k1m1, k1m2]
  instanceTypes := #[]
  staticTypes := #[]
  resolved := Array.replicate 49 none
  statics := none }

def pool2 : Array CpInfo := pool [(1, .class_ 2), (0, u "java/lang/constant/Constable"), (0, .class_ 4), (0, u "java/lang/Object")] 6

/-- java/lang/constant/Constable -/
def k2 : Class := { plain "java/lang/constant/Constable" (some 0) with
  accessFlags := 1537
  interfaces := #[]
  cf := some (fileOf pool2 1 #[] #[] 1537 3 #[] #[])
  fields := #[]
  methods := #[]
  instanceTypes := #[]
  staticTypes := #[]
  resolved := Array.replicate 11 none
  statics := none }

def pool3 : Array CpInfo := pool [(1, .class_ 2), (0, u "java/lang/Comparable"), (0, .class_ 4), (0, u "java/lang/Object")] 7

/-- java/lang/Comparable -/
def k3 : Class := { plain "java/lang/Comparable" (some 0) with
  accessFlags := 1537
  interfaces := #[]
  cf := some (fileOf pool3 1 #[] #[] 1537 3 #[] #[])
  fields := #[]
  methods := #[]
  instanceTypes := #[]
  staticTypes := #[]
  resolved := Array.replicate 12 none
  statics := none }

def pool4 : Array CpInfo := pool [(1, .class_ 2), (0, u "java/io/Serializable"), (0, .class_ 4), (0, u "java/lang/Object")] 2

/-- java/io/Serializable -/
def k4 : Class := { plain "java/io/Serializable" (some 0) with
  accessFlags := 1537
  interfaces := #[]
  cf := some (fileOf pool4 1 #[] #[] 1537 3 #[] #[])
  fields := #[]
  methods := #[]
  instanceTypes := #[]
  staticTypes := #[]
  resolved := Array.replicate 7 none
  statics := none }

def pool5 : Array CpInfo := pool [(2, .class_ 4), (1, u "java/lang/Enum"), (0, u "name"), (0, u "Ljava/lang/String;"), (2, u "ordinal"), (0, u "I"), (1, .class_ 14), (1, u "java/lang/Object"), (4, u "hash"), (86, .class_ 108), (1, u "java/lang/Enum$EnumDesc"), (2, .class_ 112), (0, u "java/lang/constant/Constable"), (0, .class_ 114), (0, u "java/lang/Comparable"), (0, .class_ 116), (0, u "java/io/Serializable")] 87

/-- java/lang/Enum -/
def k5 : Class := { plain "java/lang/Enum" (some 0) with
  accessFlags := 1057
  interfaces := #[2, 3, 4]
  cf := some (fileOf pool5 2 #[.nestMembers #[106]] #[] 1057 12 #[111, 113, 115] #[{ accessFlags := 18, nameIndex := 5, descriptorIndex := 6, attributes := #[] }, { accessFlags := 18, nameIndex := 9, descriptorIndex := 10, attributes := #[] }, { accessFlags := 2, nameIndex := 19, descriptorIndex := 10, attributes := #[] }])
  fields := #[{ name := "name", type := (.object "java/lang/String"), accessFlags := 18, slot := 0, constantValue := 0 }, { name := "ordinal", type := .int, accessFlags := 18, slot := 1, constantValue := 0 }, { name := "hash", type := .int, accessFlags := 2, slot := 2, constantValue := 0 }]
  methods := #[]
  instanceTypes := #[(.object "java/lang/String"), .int, .int]
  staticTypes := #[]
  resolved := Array.replicate 204 none
  statics := none }

def pool6 : Array CpInfo := pool [(1, .class_ 2), (0, u "com/example/graph_job_runner/graphjobrunner/NodeStatus"), (0, .fieldref 1 4), (0, .nameAndType 5 6), (0, u "WAIT"), (0, u "Lcom/example/graph_job_runner/graphjobrunner/NodeStatus;"), (0, .fieldref 1 8), (0, .nameAndType 9 6), (0, u "READY"), (0, .fieldref 1 11), (0, .nameAndType 12 6), (0, u "RUNNING"), (0, .fieldref 1 14), (0, .nameAndType 15 6), (0, u "SUCCESS"), (0, .fieldref 1 17), (0, .nameAndType 18 6), (0, u "ERROR"), (2, u "PENDING"), (2, u "$VALUES"), (0, u "[Lcom/example/graph_job_runner/graphjobrunner/NodeStatus;"), (6, .class_ 34), (1, u "java/lang/Enum"), (24, u "canStillRun"), (0, u "()Z"), (1, u "hasFinished")] 4

def k6c0 : Code := { maxStack := 2, maxLocals := 1, code := prog_20_method_4_code, exceptionTable := #[], attributes := #[] }
def k6m0 : Method := { name := "canStillRun", desc := "()Z", sig := { parameters := [], returnType := some .boolean }, accessFlags := 1, code := some k6c0 }
def k6c1 : Code := { maxStack := 2, maxLocals := 1, code := prog_20_method_5_code, exceptionTable := #[], attributes := #[] }
def k6m1 : Method := { name := "hasFinished", desc := "()Z", sig := { parameters := [], returnType := some .boolean }, accessFlags := 0, code := some k6c1 }
/-- com/example/graph_job_runner/graphjobrunner/NodeStatus -/
def k6 : Class := { plain "com/example/graph_job_runner/graphjobrunner/NodeStatus" (some 5) with
  accessFlags := 16433
  interfaces := #[]
  cf := some (fileOf pool6 1 #[] #[{ accessFlags := 1, nameIndex := 59, descriptorIndex := 60, attributes := #[] }, { accessFlags := 0, nameIndex := 62, descriptorIndex := 60, attributes := #[] }] 16433 32 #[] #[{ accessFlags := 16409, nameIndex := 5, descriptorIndex := 6, attributes := #[] }, { accessFlags := 16409, nameIndex := 9, descriptorIndex := 6, attributes := #[] }, { accessFlags := 16409, nameIndex := 12, descriptorIndex := 6, attributes := #[] }, { accessFlags := 16409, nameIndex := 15, descriptorIndex := 6, attributes := #[] }, { accessFlags := 16409, nameIndex := 18, descriptorIndex := 6, attributes := #[] }, { accessFlags := 16409, nameIndex := 21, descriptorIndex := 6, attributes := #[] }, { accessFlags := 4122, nameIndex := 24, descriptorIndex := 25, attributes := #[] }])
  fields := #[{ name := "WAIT", type := (.object "com/example/graph_job_runner/graphjobrunner/NodeStatus"), accessFlags := 16409, slot := 0, constantValue := 0 }, { name := "READY", type := (.object "com/example/graph_job_runner/graphjobrunner/NodeStatus"), accessFlags := 16409, slot := 1, constantValue := 0 }, { name := "RUNNING", type := (.object "com/example/graph_job_runner/graphjobrunner/NodeStatus"), accessFlags := 16409, slot := 2, constantValue := 0 }, { name := "SUCCESS", type := (.object "com/example/graph_job_runner/graphjobrunner/NodeStatus"), accessFlags := 16409, slot := 3, constantValue := 0 }, { name := "ERROR", type := (.object "com/example/graph_job_runner/graphjobrunner/NodeStatus"), accessFlags := 16409, slot := 4, constantValue := 0 }, { name := "PENDING", type := (.object "com/example/graph_job_runner/graphjobrunner/NodeStatus"), accessFlags := 16409, slot := 5, constantValue := 0 }, { name := "$VALUES", type := (.array (.object "com/example/graph_job_runner/graphjobrunner/NodeStatus")), accessFlags := 4122, slot := 6, constantValue := 0 }]
  methods := #[k6m0, k6m1]
  instanceTypes := #[(.object "java/lang/String"), .int, .int]
  staticTypes := #[(.object "com/example/graph_job_runner/graphjobrunner/NodeStatus"), (.object "com/example/graph_job_runner/graphjobrunner/NodeStatus"), (.object "com/example/graph_job_runner/graphjobrunner/NodeStatus"), (.object "com/example/graph_job_runner/graphjobrunner/NodeStatus"), (.object "com/example/graph_job_runner/graphjobrunner/NodeStatus"), (.object "com/example/graph_job_runner/graphjobrunner/NodeStatus"), (.array (.object "com/example/graph_job_runner/graphjobrunner/NodeStatus"))]
  resolved := Array.replicate 67 none
  statics := some 0 }

def pool7 : Array CpInfo := pool [(1, u "java/lang/Cloneable"), (0, .class_ 1), (0, u "java/lang/Object"), (0, .class_ 3)] 3

/-- java/lang/Cloneable -/
def k7 : Class := { plain "java/lang/Cloneable" (some 0) with
  accessFlags := 1537
  interfaces := #[]
  cf := some (fileOf pool7 2 #[] #[] 1537 4 #[] #[])
  fields := #[]
  methods := #[]
  instanceTypes := #[]
  staticTypes := #[]
  resolved := Array.replicate 8 none
  statics := none }

/-- the primitive byte -/
def k8 : Class := { plain "byte" none with kind := .primitive 'B', accessFlags := 0x411 }
/-- [B -/
def k9 : Class := { plain "[B" (some 0) with kind := .array 8 .byte, interfaces := #[7, 4], accessFlags := 1041 }

/-- the primitive int -/
def k10 : Class := { plain "int" none with kind := .primitive 'I', accessFlags := 0x411 }
/-- [I -/
def k11 : Class := { plain "[I" (some 0) with kind := .array 10 .int, interfaces := #[7, 4], accessFlags := 1041 }

def heap : Heap := #[{ cls := 6, slots := #[.ref 1, .ref 4, .ref 5, .ref 2, .ref 3, .ref 6, .null], vm := .statics 6 },
  { cls := 6, slots := #[.null, .int 0, .int 0], vm := .none },
  { cls := 6, slots := #[.null, .int 3, .int 0], vm := .none },
  { cls := 6, slots := #[.null, .int 4, .int 0], vm := .none },
  { cls := 6, slots := #[.null, .int 1, .int 0], vm := .none },
  { cls := 6, slots := #[.null, .int 2, .int 0], vm := .none },
  { cls := 6, slots := #[.null, .int 5, .int 0], vm := .none }]
def classes : Array Class := #[k0, k1, k2, k3, k4, k5, k6, k7, k8, k9, k10, k11]
def interned : List (Array UInt16 × Addr) := []
def slotsUsed : Nat := 25
def theMethod : MethodId := ⟨1, 1⟩
def args0 : Array Value := #[.int 5]
def aboutOver (below : List Frame) : State where
  vm := { classes := classes, interned := interned.toArray }
  heap := heap
  slotsUsed := slotsUsed
  threads := #[{ frames := .invoking theMethod args0 :: below }]
def below0 : List Frame := [.native { method := ⟨0, 0⟩, args := #[] }]
def about1 : State := aboutOver below0
def p0 : Program := .bare "" "" ""
def e0 : Env := launch0.env 0 0 0
theorem w_frames : about1.frames = Frame.invoking theMethod args0 :: below0 := rfl
set_option maxRecDepth 65536 in
theorem w_args : argsFit about1.vm theMethod args0 = true := by decide +kernel
set_option maxRecDepth 65536 in
theorem w_heap : heapFits about1 = true := by decide +kernel
set_option maxRecDepth 65536 in
theorem w_runnable : about1.curStatus? = some .runnable := by decide +kernel
set_option maxRecDepth 65536 in
theorem w_alone : about1.alone = true := by decide +kernel
set_option maxRecDepth 65536 in
theorem w_named : about1.methodNamed? x = some theMethod := by decide +kernel
set_option maxRecDepth 65536 in
theorem w_hears : about1.hears theMethod below0 = true := by decide +kernel
set_option maxRecDepth 65536 in
theorem w_ripe : about1.ripe theMethod args0 below0 = true := by decide +kernel
theorem w_running : about1.status = .running := rfl
set_option maxRecDepth 65536 in
theorem w_room : about1.hasRoom e0.platform room_1 = true :=
  launch0.hasRoom_least _ room_1 (by decide +kernel) (by decide +kernel) (by decide +kernel) (by decide +kernel) (by decide +kernel) (by decide +kernel)
theorem allAtoms_all (ts : List Jvm.Cond) (a : Array Jvm.Value) (st : Jvm.State) : (allAtoms ts).before a st = ts.all (fun c => c.before a st) := by
  induction ts with
  | nil => rfl
  | cons c t ih =>
    show (Jvm.Cond.and c (allAtoms t)).before a st = _
    rw [Jvm.Cond.before_and, ih, List.all_cons]
def words1 : List Jvm.Cond := Jvm.Cond.code x code maxLocals ret :: tables_1
/-- a 'code' word, met by the world's own term for the bytes: nothing is compared byte by byte -/
theorem code_word {y : MethodName} {bytes : ByteArray} {mx : Nat} {rt : Option FieldType} {a : Array Value} {s : State} {m : MethodId} {meth : Method} {c : Code} (h1 : s.methodNamed? y = some m) (h2 : s.vm.method? m = some meth) (h3 : meth.code = some c) (h4 : c.code = bytes)
    (h5 : (c.maxLocals == mx && c.exceptionTable.isEmpty && decide (c.maxStack ≤ mostOperands) && decide (meth.sig.returnType = rt) && !meth.locks && decide (parseMethodDescriptor y.desc = some meth.sig)) = true) : (Jvm.Cond.code y bytes mx rt).before a s = true := by
  simp only [Bool.and_eq_true, beq_iff_eq, Bool.not_eq_true', decide_eq_true_eq] at h5
  obtain ⟨⟨⟨⟨⟨g1, g2⟩, g3⟩, g4⟩, g5⟩, g6⟩ := h5
  simp [Cond.before, Cond.holds, Cond.value, h1, h2, h3, h4, g1, g2, g3, g4, g5, g6]
def isCode : Jvm.Cond → Bool
  | .code _ _ _ _ => true
  | _ => false
theorem all_split {L : List Jvm.Cond} {P : Jvm.Cond → Bool} (h1 : L.all (fun c => isCode c || P c) = true) (h2 : ∀ c ∈ L.filter isCode, P c = true) : L.all P = true := by
  refine List.all_eq_true.mpr fun c hc => ?_
  have h := List.all_eq_true.mp h1 c hc
  rcases Bool.eq_false_or_eq_true (isCode c) with hi | hi
  · exact h2 c (List.mem_filter.mpr ⟨hc, hi⟩)
  · simpa [hi] using h
set_option maxRecDepth 65536 in
theorem w_c0 : (Jvm.Cond.code x code maxLocals ret).before args0 about1 = true := code_word (m := ⟨1, 1⟩) (meth := k1m1) (c := k1c1) (by decide +kernel) rfl rfl rfl (by decide +kernel)
set_option maxRecDepth 65536 in
theorem w_c1 : (Jvm.Cond.code ({ cls := "com/example/graph_job_runner/graphjobrunner/NodeStatusHasFinishedPinLaw", name := "pick", desc := "(I)Lcom/example/graph_job_runner/graphjobrunner/NodeStatus;" } : Jvm.MethodName) method_3_code (1 : Nat) (Option.some (Jvm.ClassFile.FieldType.object "com/example/graph_job_runner/graphjobrunner/NodeStatus"))).before args0 about1 = true := code_word (m := ⟨1, 2⟩) (meth := k1m2) (c := k1c2) (by decide +kernel) rfl rfl rfl (by decide +kernel)
set_option maxRecDepth 65536 in
theorem w_c2 : (Jvm.Cond.code ({ cls := "com/example/graph_job_runner/graphjobrunner/NodeStatus", name := "hasFinished", desc := "()Z" } : Jvm.MethodName) prog_20_method_5_code (1 : Nat) (Option.some Jvm.ClassFile.FieldType.boolean)).before args0 about1 = true := code_word (m := ⟨6, 1⟩) (meth := k6m1) (c := k6c1) (by decide +kernel) rfl rfl rfl (by decide +kernel)
set_option maxRecDepth 65536 in
theorem w_c3 : (Jvm.Cond.code ({ cls := "com/example/graph_job_runner/graphjobrunner/NodeStatus", name := "canStillRun", desc := "()Z" } : Jvm.MethodName) prog_20_method_4_code (1 : Nat) (Option.some Jvm.ClassFile.FieldType.boolean)).before args0 about1 = true := code_word (m := ⟨6, 0⟩) (meth := k6m0) (c := k6c0) (by decide +kernel) rfl rfl rfl (by decide +kernel)
def codes1 : List Jvm.Cond := [Jvm.Cond.code x code maxLocals ret, Jvm.Cond.code ({ cls := "com/example/graph_job_runner/graphjobrunner/NodeStatusHasFinishedPinLaw", name := "pick", desc := "(I)Lcom/example/graph_job_runner/graphjobrunner/NodeStatus;" } : Jvm.MethodName) method_3_code (1 : Nat) (Option.some (Jvm.ClassFile.FieldType.object "com/example/graph_job_runner/graphjobrunner/NodeStatus")), Jvm.Cond.code ({ cls := "com/example/graph_job_runner/graphjobrunner/NodeStatus", name := "hasFinished", desc := "()Z" } : Jvm.MethodName) prog_20_method_5_code (1 : Nat) (Option.some Jvm.ClassFile.FieldType.boolean), Jvm.Cond.code ({ cls := "com/example/graph_job_runner/graphjobrunner/NodeStatus", name := "canStillRun", desc := "()Z" } : Jvm.MethodName) prog_20_method_4_code (1 : Nat) (Option.some Jvm.ClassFile.FieldType.boolean)]
set_option maxRecDepth 65536 in
theorem codes_eq : words1.filter isCode = codes1 := rfl
theorem w_codes : ∀ c ∈ words1.filter isCode, c.before args0 about1 = true := by
  rw [codes_eq]
  intro c hc
  simp only [codes1, List.mem_cons, List.not_mem_nil, or_false] at hc
  rcases hc with rfl | rfl | rfl | rfl
  · exact w_c0
  · exact w_c1
  · exact w_c2
  · exact w_c3
set_option maxRecDepth 65536 in
theorem w_t1 : (words1.take 24).all (fun c => isCode c || c.before args0 about1) = true := by decide +kernel
set_option maxRecDepth 65536 in
theorem w_t2 : (words1.drop 24).all (fun c => isCode c || c.before args0 about1) = true := by decide +kernel
theorem w_tables : (allAtoms (Jvm.Cond.code x code maxLocals ret :: tables_1)).before args0 about1 = true := by
  rw [allAtoms_all]
  show words1.all (fun c => c.before args0 about1) = true
  refine all_split ?_ w_codes
  rw [← List.take_append_drop 24 words1, List.all_append, w_t1, w_t2]
  rfl
set_option maxRecDepth 65536 in
theorem w_case : (Jvm.Cond.and given_1 narrow_1).before args0 about1 = true := by decide +kernel
theorem w_applies : (headSpec (Jvm.Cond.code x code maxLocals ret :: tables_1) room_1).applies x e0.platform about1 = true :=
  (Spec.applies_iff w_frames).mpr ⟨w_running, w_runnable, w_alone, w_named, w_hears, w_ripe, w_room, w_tables⟩
theorem atStart : AtStart classFile x code maxLocals ret World_1 tables_1 room_1 Calls_1 rest_1 Pre_1 launch0 p0 e0 about1 theMethod args0 below0 :=
  ⟨lists_1, trivial, launch0.admits_env _ _ _, launch0.least_env, fairChoices_fair.cas, fairChoices_fair.clock, w_frames, w_args, w_heap, w_applies, trivial, trivial, w_case⟩
end start1
theorem witness_1 : WitnessClaimed_1 := ⟨start1.p0, start1.e0, start1.about1, start1.theMethod, start1.args0, start1.below0, start1.atStart⟩
end Jvm.Pilot.@@N@@
