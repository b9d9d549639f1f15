import JvmDerived
import JvmDerived.Pilot.@@N@@Statement
import JvmDerived.Pilot.@@N@@Code
set_option linter.unusedVariables false
set_option linter.unusedSimpArgs false
namespace Jvm.RoadKit
open Sem ClassFile Op Lib Jvm.Stand Jvm.Free Jvm.LawKit
section New
variable {p : Program} {l : Launch} {e : Env} {R : Room} {s : State} {m : MethodId} {args : Array Value} {below : List Frame} {meth : Method} {c : Code} {T : State} {locs : List Loc} {cells slots : Nat}
theorem retI (X : Stand p l e R s m args below meth c T locs cells slots) (hx : p.tables.exec = Jvm.exec) {pc : Nat} {Ls : Array Slot} {z : Int32} {rest : List Value} (hret : meth.sig.returnType = some .int) (hd : decode c.code pc = .ok (.ireturn, 1)) {fs : List Frame}
    (hl : ∀ (f : JFrame) (acts : List Action), f.method = m → f.locked = none → f.entered = [] → (doReturn e (T.setTop f) acts (some (.int z))).1 = T.setFrames fs) : Steps p.tables e below (T.setTop (mkF m pc Ls (.int z :: rest))) (T.setFrames fs) := by
  have hm' : T.vm.method? m = some meth := X.method'
  have hn : narrow .int (.int z) = .int z := rfl
  show Steps p.tables e below (T.setTop { method := m, pc := pc, locals := Ls, stack := _ :: rest, locked := none }) _
  jvm_step X.here [X.here.top, hx, hd, hm', hret, hn]
  first | (intro acts; rw [hl _ acts rfl rfl rfl]) | rw [hl _ _ rfl rfl rfl]
  exact Steps.refl _
end New
end Jvm.RoadKit
namespace Jvm.Pilot.@@N@@
open Jvm Jvm.ClassFile Sem Op Lib Jvm.Free Jvm.Stand Jvm.LawKit Jvm.RoadKit Bundle Jvm.Pilot.@@N@@.Jvm.D
abbrev Sp (p : Program) (e : Env) (below : List Frame) (T : State) (f : JFrame) (t : State) : Prop := Steps p.tables e below (T.setTop f) t
theorem own_sz {Z : State} {n0 : Nat} {h : Heap} (O : Old Z n0 h) : n0 ≤ h.size := O.1 ▸ O.2.1
theorem own_nei {x c : Int32} {n : Int} (h : ¬ x = c) (e : c.toInt = n) : x.toInt ≠ n := fun q => h (Int32.toInt_inj.mp (q.trans e.symm))
theorem own_eq {x c : Int32} {n : Int} (e : c.toInt = n) (h : x.toInt = n) : x = c := Int32.toInt_inj.mp (h.trans e.symm)
theorem own_eqi {x c : Int32} {n : Int} (h : x = c) (e : c.toInt = n) : x.toInt = n := by rw [h]; exact e
theorem own_fldi {args : Array Value} {s : State} {t : Term} {a : Addr} {C n d : String} {c : Int32} (ev : t.eval args s none [] s = some (.ref a)) (h : (Cond.eq (.field t C n d) (.int c)).value args s none s [] = some true) : Fld s s.heap a C n d (.int c) := by
  apply Fld.start
  cases hf : s.fieldOf? a C n d with
  | none => simp [Cond.value, Term.eval, ev, hf] at h
  | some x => cases x <;> simp [Cond.value, Term.eval, ev, hf] at h ⊢; exact h
theorem own_fldr {args : Array Value} {s : State} {t u : Term} {a b : Addr} {C n d : String} (ev : t.eval args s none [] s = some (.ref a)) (eu : u.eval args s none [] s = some (.ref b)) (h : (Cond.eq (.field t C n d) u).value args s none s [] = some true) : Fld s s.heap a C n d (.ref b) := by
  apply Fld.start
  cases hf : s.fieldOf? a C n d with
  | none => simp [Cond.value, Term.eval, ev, eu, hf] at h
  | some x => cases x <;> simp [Cond.value, Term.eval, ev, eu, hf] at h ⊢; exact h
theorem own_rem {x m : Int32} {M d : Int} (hm : m.toInt = M) (h0 : 0 ≤ M) {y : Int32} (hy : y.toInt = d) (hd : 0 < d) : 0 ≤ ((x &&& m) % y).toInt ∧ ((x &&& m) % y).toInt < d := by
  have a := c_and x m (by rw [hm]; exact h0)
  have b := (c_irem (x &&& m) y d hy).1 a.1
  rw [b]; exact ⟨Int.emod_nonneg _ (by omega), Int.emod_lt_of_pos _ hd⟩
def Perm (Z : State) (w_PLATFORM_DEPLOY : Addr) (w_PLATFORM_DELETE : Addr) (w_SERVER_DEPLOY : Addr) (w_SERVER_START : Addr) (w_SERVER_STOP : Addr) (w_SERVER_DELETE : Addr) (w_DISK_ATTACH : Addr) (w_DISK_DETACH : Addr) (w_SNAPSHOT_CREATE : Addr) (w_SNAPSHOT_DELETE : Addr) (w_NIC_ATTACH : Addr) (w_NIC_DETACH : Addr) : Prop := Sta Z Z.heap "com/example/ratebook/ratebook/model/EventType" "PLATFORM_DEPLOY" "Lcom/example/ratebook/ratebook/model/EventType;" (.ref w_PLATFORM_DEPLOY) ∧ Exa Z Z.heap w_PLATFORM_DEPLOY "com/example/ratebook/ratebook/model/EventType" ∧ Sta Z Z.heap "com/example/ratebook/ratebook/model/EventType" "PLATFORM_DELETE" "Lcom/example/ratebook/ratebook/model/EventType;" (.ref w_PLATFORM_DELETE) ∧ Exa Z Z.heap w_PLATFORM_DELETE "com/example/ratebook/ratebook/model/EventType" ∧ Sta Z Z.heap "com/example/ratebook/ratebook/model/EventType" "SERVER_DEPLOY" "Lcom/example/ratebook/ratebook/model/EventType;" (.ref w_SERVER_DEPLOY) ∧ Exa Z Z.heap w_SERVER_DEPLOY "com/example/ratebook/ratebook/model/EventType" ∧ Sta Z Z.heap "com/example/ratebook/ratebook/model/EventType" "SERVER_START" "Lcom/example/ratebook/ratebook/model/EventType;" (.ref w_SERVER_START) ∧ Exa Z Z.heap w_SERVER_START "com/example/ratebook/ratebook/model/EventType" ∧ Sta Z Z.heap "com/example/ratebook/ratebook/model/EventType" "SERVER_STOP" "Lcom/example/ratebook/ratebook/model/EventType;" (.ref w_SERVER_STOP) ∧ Exa Z Z.heap w_SERVER_STOP "com/example/ratebook/ratebook/model/EventType" ∧ Sta Z Z.heap "com/example/ratebook/ratebook/model/EventType" "SERVER_DELETE" "Lcom/example/ratebook/ratebook/model/EventType;" (.ref w_SERVER_DELETE) ∧ Exa Z Z.heap w_SERVER_DELETE "com/example/ratebook/ratebook/model/EventType" ∧ Sta Z Z.heap "com/example/ratebook/ratebook/model/EventType" "DISK_ATTACH" "Lcom/example/ratebook/ratebook/model/EventType;" (.ref w_DISK_ATTACH) ∧ Exa Z Z.heap w_DISK_ATTACH "com/example/ratebook/ratebook/model/EventType" ∧ Sta Z Z.heap "com/example/ratebook/ratebook/model/EventType" "DISK_DETACH" "Lcom/example/ratebook/ratebook/model/EventType;" (.ref w_DISK_DETACH) ∧ Exa Z Z.heap w_DISK_DETACH "com/example/ratebook/ratebook/model/EventType" ∧ Sta Z Z.heap "com/example/ratebook/ratebook/model/EventType" "SNAPSHOT_CREATE" "Lcom/example/ratebook/ratebook/model/EventType;" (.ref w_SNAPSHOT_CREATE) ∧ Exa Z Z.heap w_SNAPSHOT_CREATE "com/example/ratebook/ratebook/model/EventType" ∧ Sta Z Z.heap "com/example/ratebook/ratebook/model/EventType" "SNAPSHOT_DELETE" "Lcom/example/ratebook/ratebook/model/EventType;" (.ref w_SNAPSHOT_DELETE) ∧ Exa Z Z.heap w_SNAPSHOT_DELETE "com/example/ratebook/ratebook/model/EventType" ∧ Sta Z Z.heap "com/example/ratebook/ratebook/model/EventType" "NIC_ATTACH" "Lcom/example/ratebook/ratebook/model/EventType;" (.ref w_NIC_ATTACH) ∧ Exa Z Z.heap w_NIC_ATTACH "com/example/ratebook/ratebook/model/EventType" ∧ Sta Z Z.heap "com/example/ratebook/ratebook/model/EventType" "NIC_DETACH" "Lcom/example/ratebook/ratebook/model/EventType;" (.ref w_NIC_DETACH) ∧ Exa Z Z.heap w_NIC_DETACH "com/example/ratebook/ratebook/model/EventType" ∧ Fld Z Z.heap w_PLATFORM_DEPLOY "java/lang/Enum" "ordinal" "I" (.int (0 : Int32)) ∧ Fld Z Z.heap w_DISK_ATTACH "java/lang/Enum" "ordinal" "I" (.int (6 : Int32)) ∧ Fld Z Z.heap w_DISK_DETACH "java/lang/Enum" "ordinal" "I" (.int (7 : Int32)) ∧ Fld Z Z.heap w_NIC_ATTACH "java/lang/Enum" "ordinal" "I" (.int (10 : Int32)) ∧ Fld Z Z.heap w_NIC_DETACH "java/lang/Enum" "ordinal" "I" (.int (11 : Int32)) ∧ Fld Z Z.heap w_SERVER_START "java/lang/Enum" "ordinal" "I" (.int (3 : Int32)) ∧ Fld Z Z.heap w_SERVER_DEPLOY "java/lang/Enum" "ordinal" "I" (.int (2 : Int32)) ∧ Fld Z Z.heap w_SERVER_STOP "java/lang/Enum" "ordinal" "I" (.int (4 : Int32)) ∧ Fld Z Z.heap w_SNAPSHOT_CREATE "java/lang/Enum" "ordinal" "I" (.int (8 : Int32)) ∧ Fld Z Z.heap w_PLATFORM_DELETE "java/lang/Enum" "ordinal" "I" (.int (1 : Int32)) ∧ Fld Z Z.heap w_SNAPSHOT_DELETE "java/lang/Enum" "ordinal" "I" (.int (9 : Int32)) ∧ Fld Z Z.heap w_SERVER_DELETE "java/lang/Enum" "ordinal" "I" (.int (5 : Int32))
theorem ne_w_PLATFORM_DEPLOY_w_DISK_ATTACH {Z : State} {w_PLATFORM_DEPLOY : Addr} {w_PLATFORM_DELETE : Addr} {w_SERVER_DEPLOY : Addr} {w_SERVER_START : Addr} {w_SERVER_STOP : Addr} {w_SERVER_DELETE : Addr} {w_DISK_ATTACH : Addr} {w_DISK_DETACH : Addr} {w_SNAPSHOT_CREATE : Addr} {w_SNAPSHOT_DELETE : Addr} {w_NIC_ATTACH : Addr} {w_NIC_DETACH : Addr} (hp : Perm Z w_PLATFORM_DEPLOY w_PLATFORM_DELETE w_SERVER_DEPLOY w_SERVER_START w_SERVER_STOP w_SERVER_DELETE w_DISK_ATTACH w_DISK_DETACH w_SNAPSHOT_CREATE w_SNAPSHOT_DELETE w_NIC_ATTACH w_NIC_DETACH) : w_PLATFORM_DEPLOY ≠ w_DISK_ATTACH := by
  obtain ⟨_, _, _, _, _, _, _, _, _, _, _, _, _, _, _, _, _, _, _, _, _, _, _, _, F_ordinal_w_PLATFORM_DEPLOY, F_ordinal_w_DISK_ATTACH, _, _, _, _, _, _, _, _, _, _⟩ := hp
  exact Fld.ne F_ordinal_w_PLATFORM_DEPLOY F_ordinal_w_DISK_ATTACH (by decide)
theorem ne_w_PLATFORM_DEPLOY_w_DISK_DETACH {Z : State} {w_PLATFORM_DEPLOY : Addr} {w_PLATFORM_DELETE : Addr} {w_SERVER_DEPLOY : Addr} {w_SERVER_START : Addr} {w_SERVER_STOP : Addr} {w_SERVER_DELETE : Addr} {w_DISK_ATTACH : Addr} {w_DISK_DETACH : Addr} {w_SNAPSHOT_CREATE : Addr} {w_SNAPSHOT_DELETE : Addr} {w_NIC_ATTACH : Addr} {w_NIC_DETACH : Addr} (hp : Perm Z w_PLATFORM_DEPLOY w_PLATFORM_DELETE w_SERVER_DEPLOY w_SERVER_START w_SERVER_STOP w_SERVER_DELETE w_DISK_ATTACH w_DISK_DETACH w_SNAPSHOT_CREATE w_SNAPSHOT_DELETE w_NIC_ATTACH w_NIC_DETACH) : w_PLATFORM_DEPLOY ≠ w_DISK_DETACH := by
  obtain ⟨_, _, _, _, _, _, _, _, _, _, _, _, _, _, _, _, _, _, _, _, _, _, _, _, F_ordinal_w_PLATFORM_DEPLOY, _, F_ordinal_w_DISK_DETACH, _, _, _, _, _, _, _, _, _⟩ := hp
  exact Fld.ne F_ordinal_w_PLATFORM_DEPLOY F_ordinal_w_DISK_DETACH (by decide)
theorem ne_w_PLATFORM_DEPLOY_w_NIC_ATTACH {Z : State} {w_PLATFORM_DEPLOY : Addr} {w_PLATFORM_DELETE : Addr} {w_SERVER_DEPLOY : Addr} {w_SERVER_START : Addr} {w_SERVER_STOP : Addr} {w_SERVER_DELETE : Addr} {w_DISK_ATTACH : Addr} {w_DISK_DETACH : Addr} {w_SNAPSHOT_CREATE : Addr} {w_SNAPSHOT_DELETE : Addr} {w_NIC_ATTACH : Addr} {w_NIC_DETACH : Addr} (hp : Perm Z w_PLATFORM_DEPLOY w_PLATFORM_DELETE w_SERVER_DEPLOY w_SERVER_START w_SERVER_STOP w_SERVER_DELETE w_DISK_ATTACH w_DISK_DETACH w_SNAPSHOT_CREATE w_SNAPSHOT_DELETE w_NIC_ATTACH w_NIC_DETACH) : w_PLATFORM_DEPLOY ≠ w_NIC_ATTACH := by
  obtain ⟨_, _, _, _, _, _, _, _, _, _, _, _, _, _, _, _, _, _, _, _, _, _, _, _, F_ordinal_w_PLATFORM_DEPLOY, _, _, F_ordinal_w_NIC_ATTACH, _, _, _, _, _, _, _, _⟩ := hp
  exact Fld.ne F_ordinal_w_PLATFORM_DEPLOY F_ordinal_w_NIC_ATTACH (by decide)
theorem ne_w_PLATFORM_DEPLOY_w_NIC_DETACH {Z : State} {w_PLATFORM_DEPLOY : Addr} {w_PLATFORM_DELETE : Addr} {w_SERVER_DEPLOY : Addr} {w_SERVER_START : Addr} {w_SERVER_STOP : Addr} {w_SERVER_DELETE : Addr} {w_DISK_ATTACH : Addr} {w_DISK_DETACH : Addr} {w_SNAPSHOT_CREATE : Addr} {w_SNAPSHOT_DELETE : Addr} {w_NIC_ATTACH : Addr} {w_NIC_DETACH : Addr} (hp : Perm Z w_PLATFORM_DEPLOY w_PLATFORM_DELETE w_SERVER_DEPLOY w_SERVER_START w_SERVER_STOP w_SERVER_DELETE w_DISK_ATTACH w_DISK_DETACH w_SNAPSHOT_CREATE w_SNAPSHOT_DELETE w_NIC_ATTACH w_NIC_DETACH) : w_PLATFORM_DEPLOY ≠ w_NIC_DETACH := by
  obtain ⟨_, _, _, _, _, _, _, _, _, _, _, _, _, _, _, _, _, _, _, _, _, _, _, _, F_ordinal_w_PLATFORM_DEPLOY, _, _, _, F_ordinal_w_NIC_DETACH, _, _, _, _, _, _, _⟩ := hp
  exact Fld.ne F_ordinal_w_PLATFORM_DEPLOY F_ordinal_w_NIC_DETACH (by decide)
theorem ne_w_PLATFORM_DEPLOY_w_SERVER_START {Z : State} {w_PLATFORM_DEPLOY : Addr} {w_PLATFORM_DELETE : Addr} {w_SERVER_DEPLOY : Addr} {w_SERVER_START : Addr} {w_SERVER_STOP : Addr} {w_SERVER_DELETE : Addr} {w_DISK_ATTACH : Addr} {w_DISK_DETACH : Addr} {w_SNAPSHOT_CREATE : Addr} {w_SNAPSHOT_DELETE : Addr} {w_NIC_ATTACH : Addr} {w_NIC_DETACH : Addr} (hp : Perm Z w_PLATFORM_DEPLOY w_PLATFORM_DELETE w_SERVER_DEPLOY w_SERVER_START w_SERVER_STOP w_SERVER_DELETE w_DISK_ATTACH w_DISK_DETACH w_SNAPSHOT_CREATE w_SNAPSHOT_DELETE w_NIC_ATTACH w_NIC_DETACH) : w_PLATFORM_DEPLOY ≠ w_SERVER_START := by
  obtain ⟨_, _, _, _, _, _, _, _, _, _, _, _, _, _, _, _, _, _, _, _, _, _, _, _, F_ordinal_w_PLATFORM_DEPLOY, _, _, _, _, F_ordinal_w_SERVER_START, _, _, _, _, _, _⟩ := hp
  exact Fld.ne F_ordinal_w_PLATFORM_DEPLOY F_ordinal_w_SERVER_START (by decide)
theorem ne_w_PLATFORM_DEPLOY_w_SERVER_DEPLOY {Z : State} {w_PLATFORM_DEPLOY : Addr} {w_PLATFORM_DELETE : Addr} {w_SERVER_DEPLOY : Addr} {w_SERVER_START : Addr} {w_SERVER_STOP : Addr} {w_SERVER_DELETE : Addr} {w_DISK_ATTACH : Addr} {w_DISK_DETACH : Addr} {w_SNAPSHOT_CREATE : Addr} {w_SNAPSHOT_DELETE : Addr} {w_NIC_ATTACH : Addr} {w_NIC_DETACH : Addr} (hp : Perm Z w_PLATFORM_DEPLOY w_PLATFORM_DELETE w_SERVER_DEPLOY w_SERVER_START w_SERVER_STOP w_SERVER_DELETE w_DISK_ATTACH w_DISK_DETACH w_SNAPSHOT_CREATE w_SNAPSHOT_DELETE w_NIC_ATTACH w_NIC_DETACH) : w_PLATFORM_DEPLOY ≠ w_SERVER_DEPLOY := by
  obtain ⟨_, _, _, _, _, _, _, _, _, _, _, _, _, _, _, _, _, _, _, _, _, _, _, _, F_ordinal_w_PLATFORM_DEPLOY, _, _, _, _, _, F_ordinal_w_SERVER_DEPLOY, _, _, _, _, _⟩ := hp
  exact Fld.ne F_ordinal_w_PLATFORM_DEPLOY F_ordinal_w_SERVER_DEPLOY (by decide)
theorem ne_w_PLATFORM_DEPLOY_w_SERVER_STOP {Z : State} {w_PLATFORM_DEPLOY : Addr} {w_PLATFORM_DELETE : Addr} {w_SERVER_DEPLOY : Addr} {w_SERVER_START : Addr} {w_SERVER_STOP : Addr} {w_SERVER_DELETE : Addr} {w_DISK_ATTACH : Addr} {w_DISK_DETACH : Addr} {w_SNAPSHOT_CREATE : Addr} {w_SNAPSHOT_DELETE : Addr} {w_NIC_ATTACH : Addr} {w_NIC_DETACH : Addr} (hp : Perm Z w_PLATFORM_DEPLOY w_PLATFORM_DELETE w_SERVER_DEPLOY w_SERVER_START w_SERVER_STOP w_SERVER_DELETE w_DISK_ATTACH w_DISK_DETACH w_SNAPSHOT_CREATE w_SNAPSHOT_DELETE w_NIC_ATTACH w_NIC_DETACH) : w_PLATFORM_DEPLOY ≠ w_SERVER_STOP := by
  obtain ⟨_, _, _, _, _, _, _, _, _, _, _, _, _, _, _, _, _, _, _, _, _, _, _, _, F_ordinal_w_PLATFORM_DEPLOY, _, _, _, _, _, _, F_ordinal_w_SERVER_STOP, _, _, _, _⟩ := hp
  exact Fld.ne F_ordinal_w_PLATFORM_DEPLOY F_ordinal_w_SERVER_STOP (by decide)
theorem ne_w_PLATFORM_DEPLOY_w_SNAPSHOT_CREATE {Z : State} {w_PLATFORM_DEPLOY : Addr} {w_PLATFORM_DELETE : Addr} {w_SERVER_DEPLOY : Addr} {w_SERVER_START : Addr} {w_SERVER_STOP : Addr} {w_SERVER_DELETE : Addr} {w_DISK_ATTACH : Addr} {w_DISK_DETACH : Addr} {w_SNAPSHOT_CREATE : Addr} {w_SNAPSHOT_DELETE : Addr} {w_NIC_ATTACH : Addr} {w_NIC_DETACH : Addr} (hp : Perm Z w_PLATFORM_DEPLOY w_PLATFORM_DELETE w_SERVER_DEPLOY w_SERVER_START w_SERVER_STOP w_SERVER_DELETE w_DISK_ATTACH w_DISK_DETACH w_SNAPSHOT_CREATE w_SNAPSHOT_DELETE w_NIC_ATTACH w_NIC_DETACH) : w_PLATFORM_DEPLOY ≠ w_SNAPSHOT_CREATE := by
  obtain ⟨_, _, _, _, _, _, _, _, _, _, _, _, _, _, _, _, _, _, _, _, _, _, _, _, F_ordinal_w_PLATFORM_DEPLOY, _, _, _, _, _, _, _, F_ordinal_w_SNAPSHOT_CREATE, _, _, _⟩ := hp
  exact Fld.ne F_ordinal_w_PLATFORM_DEPLOY F_ordinal_w_SNAPSHOT_CREATE (by decide)
theorem ne_w_PLATFORM_DEPLOY_w_PLATFORM_DELETE {Z : State} {w_PLATFORM_DEPLOY : Addr} {w_PLATFORM_DELETE : Addr} {w_SERVER_DEPLOY : Addr} {w_SERVER_START : Addr} {w_SERVER_STOP : Addr} {w_SERVER_DELETE : Addr} {w_DISK_ATTACH : Addr} {w_DISK_DETACH : Addr} {w_SNAPSHOT_CREATE : Addr} {w_SNAPSHOT_DELETE : Addr} {w_NIC_ATTACH : Addr} {w_NIC_DETACH : Addr} (hp : Perm Z w_PLATFORM_DEPLOY w_PLATFORM_DELETE w_SERVER_DEPLOY w_SERVER_START w_SERVER_STOP w_SERVER_DELETE w_DISK_ATTACH w_DISK_DETACH w_SNAPSHOT_CREATE w_SNAPSHOT_DELETE w_NIC_ATTACH w_NIC_DETACH) : w_PLATFORM_DEPLOY ≠ w_PLATFORM_DELETE := by
  obtain ⟨_, _, _, _, _, _, _, _, _, _, _, _, _, _, _, _, _, _, _, _, _, _, _, _, F_ordinal_w_PLATFORM_DEPLOY, _, _, _, _, _, _, _, _, F_ordinal_w_PLATFORM_DELETE, _, _⟩ := hp
  exact Fld.ne F_ordinal_w_PLATFORM_DEPLOY F_ordinal_w_PLATFORM_DELETE (by decide)
theorem ne_w_PLATFORM_DEPLOY_w_SNAPSHOT_DELETE {Z : State} {w_PLATFORM_DEPLOY : Addr} {w_PLATFORM_DELETE : Addr} {w_SERVER_DEPLOY : Addr} {w_SERVER_START : Addr} {w_SERVER_STOP : Addr} {w_SERVER_DELETE : Addr} {w_DISK_ATTACH : Addr} {w_DISK_DETACH : Addr} {w_SNAPSHOT_CREATE : Addr} {w_SNAPSHOT_DELETE : Addr} {w_NIC_ATTACH : Addr} {w_NIC_DETACH : Addr} (hp : Perm Z w_PLATFORM_DEPLOY w_PLATFORM_DELETE w_SERVER_DEPLOY w_SERVER_START w_SERVER_STOP w_SERVER_DELETE w_DISK_ATTACH w_DISK_DETACH w_SNAPSHOT_CREATE w_SNAPSHOT_DELETE w_NIC_ATTACH w_NIC_DETACH) : w_PLATFORM_DEPLOY ≠ w_SNAPSHOT_DELETE := by
  obtain ⟨_, _, _, _, _, _, _, _, _, _, _, _, _, _, _, _, _, _, _, _, _, _, _, _, F_ordinal_w_PLATFORM_DEPLOY, _, _, _, _, _, _, _, _, _, F_ordinal_w_SNAPSHOT_DELETE, _⟩ := hp
  exact Fld.ne F_ordinal_w_PLATFORM_DEPLOY F_ordinal_w_SNAPSHOT_DELETE (by decide)
theorem ne_w_PLATFORM_DEPLOY_w_SERVER_DELETE {Z : State} {w_PLATFORM_DEPLOY : Addr} {w_PLATFORM_DELETE : Addr} {w_SERVER_DEPLOY : Addr} {w_SERVER_START : Addr} {w_SERVER_STOP : Addr} {w_SERVER_DELETE : Addr} {w_DISK_ATTACH : Addr} {w_DISK_DETACH : Addr} {w_SNAPSHOT_CREATE : Addr} {w_SNAPSHOT_DELETE : Addr} {w_NIC_ATTACH : Addr} {w_NIC_DETACH : Addr} (hp : Perm Z w_PLATFORM_DEPLOY w_PLATFORM_DELETE w_SERVER_DEPLOY w_SERVER_START w_SERVER_STOP w_SERVER_DELETE w_DISK_ATTACH w_DISK_DETACH w_SNAPSHOT_CREATE w_SNAPSHOT_DELETE w_NIC_ATTACH w_NIC_DETACH) : w_PLATFORM_DEPLOY ≠ w_SERVER_DELETE := by
  obtain ⟨_, _, _, _, _, _, _, _, _, _, _, _, _, _, _, _, _, _, _, _, _, _, _, _, F_ordinal_w_PLATFORM_DEPLOY, _, _, _, _, _, _, _, _, _, _, F_ordinal_w_SERVER_DELETE⟩ := hp
  exact Fld.ne F_ordinal_w_PLATFORM_DEPLOY F_ordinal_w_SERVER_DELETE (by decide)
theorem ne_w_DISK_ATTACH_w_DISK_DETACH {Z : State} {w_PLATFORM_DEPLOY : Addr} {w_PLATFORM_DELETE : Addr} {w_SERVER_DEPLOY : Addr} {w_SERVER_START : Addr} {w_SERVER_STOP : Addr} {w_SERVER_DELETE : Addr} {w_DISK_ATTACH : Addr} {w_DISK_DETACH : Addr} {w_SNAPSHOT_CREATE : Addr} {w_SNAPSHOT_DELETE : Addr} {w_NIC_ATTACH : Addr} {w_NIC_DETACH : Addr} (hp : Perm Z w_PLATFORM_DEPLOY w_PLATFORM_DELETE w_SERVER_DEPLOY w_SERVER_START w_SERVER_STOP w_SERVER_DELETE w_DISK_ATTACH w_DISK_DETACH w_SNAPSHOT_CREATE w_SNAPSHOT_DELETE w_NIC_ATTACH w_NIC_DETACH) : w_DISK_ATTACH ≠ w_DISK_DETACH := by
  obtain ⟨_, _, _, _, _, _, _, _, _, _, _, _, _, _, _, _, _, _, _, _, _, _, _, _, _, F_ordinal_w_DISK_ATTACH, F_ordinal_w_DISK_DETACH, _, _, _, _, _, _, _, _, _⟩ := hp
  exact Fld.ne F_ordinal_w_DISK_ATTACH F_ordinal_w_DISK_DETACH (by decide)
theorem ne_w_DISK_ATTACH_w_NIC_ATTACH {Z : State} {w_PLATFORM_DEPLOY : Addr} {w_PLATFORM_DELETE : Addr} {w_SERVER_DEPLOY : Addr} {w_SERVER_START : Addr} {w_SERVER_STOP : Addr} {w_SERVER_DELETE : Addr} {w_DISK_ATTACH : Addr} {w_DISK_DETACH : Addr} {w_SNAPSHOT_CREATE : Addr} {w_SNAPSHOT_DELETE : Addr} {w_NIC_ATTACH : Addr} {w_NIC_DETACH : Addr} (hp : Perm Z w_PLATFORM_DEPLOY w_PLATFORM_DELETE w_SERVER_DEPLOY w_SERVER_START w_SERVER_STOP w_SERVER_DELETE w_DISK_ATTACH w_DISK_DETACH w_SNAPSHOT_CREATE w_SNAPSHOT_DELETE w_NIC_ATTACH w_NIC_DETACH) : w_DISK_ATTACH ≠ w_NIC_ATTACH := by
  obtain ⟨_, _, _, _, _, _, _, _, _, _, _, _, _, _, _, _, _, _, _, _, _, _, _, _, _, F_ordinal_w_DISK_ATTACH, _, F_ordinal_w_NIC_ATTACH, _, _, _, _, _, _, _, _⟩ := hp
  exact Fld.ne F_ordinal_w_DISK_ATTACH F_ordinal_w_NIC_ATTACH (by decide)
theorem ne_w_DISK_ATTACH_w_NIC_DETACH {Z : State} {w_PLATFORM_DEPLOY : Addr} {w_PLATFORM_DELETE : Addr} {w_SERVER_DEPLOY : Addr} {w_SERVER_START : Addr} {w_SERVER_STOP : Addr} {w_SERVER_DELETE : Addr} {w_DISK_ATTACH : Addr} {w_DISK_DETACH : Addr} {w_SNAPSHOT_CREATE : Addr} {w_SNAPSHOT_DELETE : Addr} {w_NIC_ATTACH : Addr} {w_NIC_DETACH : Addr} (hp : Perm Z w_PLATFORM_DEPLOY w_PLATFORM_DELETE w_SERVER_DEPLOY w_SERVER_START w_SERVER_STOP w_SERVER_DELETE w_DISK_ATTACH w_DISK_DETACH w_SNAPSHOT_CREATE w_SNAPSHOT_DELETE w_NIC_ATTACH w_NIC_DETACH) : w_DISK_ATTACH ≠ w_NIC_DETACH := by
  obtain ⟨_, _, _, _, _, _, _, _, _, _, _, _, _, _, _, _, _, _, _, _, _, _, _, _, _, F_ordinal_w_DISK_ATTACH, _, _, F_ordinal_w_NIC_DETACH, _, _, _, _, _, _, _⟩ := hp
  exact Fld.ne F_ordinal_w_DISK_ATTACH F_ordinal_w_NIC_DETACH (by decide)
theorem ne_w_DISK_ATTACH_w_SERVER_START {Z : State} {w_PLATFORM_DEPLOY : Addr} {w_PLATFORM_DELETE : Addr} {w_SERVER_DEPLOY : Addr} {w_SERVER_START : Addr} {w_SERVER_STOP : Addr} {w_SERVER_DELETE : Addr} {w_DISK_ATTACH : Addr} {w_DISK_DETACH : Addr} {w_SNAPSHOT_CREATE : Addr} {w_SNAPSHOT_DELETE : Addr} {w_NIC_ATTACH : Addr} {w_NIC_DETACH : Addr} (hp : Perm Z w_PLATFORM_DEPLOY w_PLATFORM_DELETE w_SERVER_DEPLOY w_SERVER_START w_SERVER_STOP w_SERVER_DELETE w_DISK_ATTACH w_DISK_DETACH w_SNAPSHOT_CREATE w_SNAPSHOT_DELETE w_NIC_ATTACH w_NIC_DETACH) : w_DISK_ATTACH ≠ w_SERVER_START := by
  obtain ⟨_, _, _, _, _, _, _, _, _, _, _, _, _, _, _, _, _, _, _, _, _, _, _, _, _, F_ordinal_w_DISK_ATTACH, _, _, _, F_ordinal_w_SERVER_START, _, _, _, _, _, _⟩ := hp
  exact Fld.ne F_ordinal_w_DISK_ATTACH F_ordinal_w_SERVER_START (by decide)
theorem ne_w_DISK_ATTACH_w_SERVER_DEPLOY {Z : State} {w_PLATFORM_DEPLOY : Addr} {w_PLATFORM_DELETE : Addr} {w_SERVER_DEPLOY : Addr} {w_SERVER_START : Addr} {w_SERVER_STOP : Addr} {w_SERVER_DELETE : Addr} {w_DISK_ATTACH : Addr} {w_DISK_DETACH : Addr} {w_SNAPSHOT_CREATE : Addr} {w_SNAPSHOT_DELETE : Addr} {w_NIC_ATTACH : Addr} {w_NIC_DETACH : Addr} (hp : Perm Z w_PLATFORM_DEPLOY w_PLATFORM_DELETE w_SERVER_DEPLOY w_SERVER_START w_SERVER_STOP w_SERVER_DELETE w_DISK_ATTACH w_DISK_DETACH w_SNAPSHOT_CREATE w_SNAPSHOT_DELETE w_NIC_ATTACH w_NIC_DETACH) : w_DISK_ATTACH ≠ w_SERVER_DEPLOY := by
  obtain ⟨_, _, _, _, _, _, _, _, _, _, _, _, _, _, _, _, _, _, _, _, _, _, _, _, _, F_ordinal_w_DISK_ATTACH, _, _, _, _, F_ordinal_w_SERVER_DEPLOY, _, _, _, _, _⟩ := hp
  exact Fld.ne F_ordinal_w_DISK_ATTACH F_ordinal_w_SERVER_DEPLOY (by decide)
theorem ne_w_DISK_ATTACH_w_SERVER_STOP {Z : State} {w_PLATFORM_DEPLOY : Addr} {w_PLATFORM_DELETE : Addr} {w_SERVER_DEPLOY : Addr} {w_SERVER_START : Addr} {w_SERVER_STOP : Addr} {w_SERVER_DELETE : Addr} {w_DISK_ATTACH : Addr} {w_DISK_DETACH : Addr} {w_SNAPSHOT_CREATE : Addr} {w_SNAPSHOT_DELETE : Addr} {w_NIC_ATTACH : Addr} {w_NIC_DETACH : Addr} (hp : Perm Z w_PLATFORM_DEPLOY w_PLATFORM_DELETE w_SERVER_DEPLOY w_SERVER_START w_SERVER_STOP w_SERVER_DELETE w_DISK_ATTACH w_DISK_DETACH w_SNAPSHOT_CREATE w_SNAPSHOT_DELETE w_NIC_ATTACH w_NIC_DETACH) : w_DISK_ATTACH ≠ w_SERVER_STOP := by
  obtain ⟨_, _, _, _, _, _, _, _, _, _, _, _, _, _, _, _, _, _, _, _, _, _, _, _, _, F_ordinal_w_DISK_ATTACH, _, _, _, _, _, F_ordinal_w_SERVER_STOP, _, _, _, _⟩ := hp
  exact Fld.ne F_ordinal_w_DISK_ATTACH F_ordinal_w_SERVER_STOP (by decide)
theorem ne_w_DISK_ATTACH_w_SNAPSHOT_CREATE {Z : State} {w_PLATFORM_DEPLOY : Addr} {w_PLATFORM_DELETE : Addr} {w_SERVER_DEPLOY : Addr} {w_SERVER_START : Addr} {w_SERVER_STOP : Addr} {w_SERVER_DELETE : Addr} {w_DISK_ATTACH : Addr} {w_DISK_DETACH : Addr} {w_SNAPSHOT_CREATE : Addr} {w_SNAPSHOT_DELETE : Addr} {w_NIC_ATTACH : Addr} {w_NIC_DETACH : Addr} (hp : Perm Z w_PLATFORM_DEPLOY w_PLATFORM_DELETE w_SERVER_DEPLOY w_SERVER_START w_SERVER_STOP w_SERVER_DELETE w_DISK_ATTACH w_DISK_DETACH w_SNAPSHOT_CREATE w_SNAPSHOT_DELETE w_NIC_ATTACH w_NIC_DETACH) : w_DISK_ATTACH ≠ w_SNAPSHOT_CREATE := by
  obtain ⟨_, _, _, _, _, _, _, _, _, _, _, _, _, _, _, _, _, _, _, _, _, _, _, _, _, F_ordinal_w_DISK_ATTACH, _, _, _, _, _, _, F_ordinal_w_SNAPSHOT_CREATE, _, _, _⟩ := hp
  exact Fld.ne F_ordinal_w_DISK_ATTACH F_ordinal_w_SNAPSHOT_CREATE (by decide)
theorem ne_w_DISK_ATTACH_w_PLATFORM_DELETE {Z : State} {w_PLATFORM_DEPLOY : Addr} {w_PLATFORM_DELETE : Addr} {w_SERVER_DEPLOY : Addr} {w_SERVER_START : Addr} {w_SERVER_STOP : Addr} {w_SERVER_DELETE : Addr} {w_DISK_ATTACH : Addr} {w_DISK_DETACH : Addr} {w_SNAPSHOT_CREATE : Addr} {w_SNAPSHOT_DELETE : Addr} {w_NIC_ATTACH : Addr} {w_NIC_DETACH : Addr} (hp : Perm Z w_PLATFORM_DEPLOY w_PLATFORM_DELETE w_SERVER_DEPLOY w_SERVER_START w_SERVER_STOP w_SERVER_DELETE w_DISK_ATTACH w_DISK_DETACH w_SNAPSHOT_CREATE w_SNAPSHOT_DELETE w_NIC_ATTACH w_NIC_DETACH) : w_DISK_ATTACH ≠ w_PLATFORM_DELETE := by
  obtain ⟨_, _, _, _, _, _, _, _, _, _, _, _, _, _, _, _, _, _, _, _, _, _, _, _, _, F_ordinal_w_DISK_ATTACH, _, _, _, _, _, _, _, F_ordinal_w_PLATFORM_DELETE, _, _⟩ := hp
  exact Fld.ne F_ordinal_w_DISK_ATTACH F_ordinal_w_PLATFORM_DELETE (by decide)
theorem ne_w_DISK_ATTACH_w_SNAPSHOT_DELETE {Z : State} {w_PLATFORM_DEPLOY : Addr} {w_PLATFORM_DELETE : Addr} {w_SERVER_DEPLOY : Addr} {w_SERVER_START : Addr} {w_SERVER_STOP : Addr} {w_SERVER_DELETE : Addr} {w_DISK_ATTACH : Addr} {w_DISK_DETACH : Addr} {w_SNAPSHOT_CREATE : Addr} {w_SNAPSHOT_DELETE : Addr} {w_NIC_ATTACH : Addr} {w_NIC_DETACH : Addr} (hp : Perm Z w_PLATFORM_DEPLOY w_PLATFORM_DELETE w_SERVER_DEPLOY w_SERVER_START w_SERVER_STOP w_SERVER_DELETE w_DISK_ATTACH w_DISK_DETACH w_SNAPSHOT_CREATE w_SNAPSHOT_DELETE w_NIC_ATTACH w_NIC_DETACH) : w_DISK_ATTACH ≠ w_SNAPSHOT_DELETE := by
  obtain ⟨_, _, _, _, _, _, _, _, _, _, _, _, _, _, _, _, _, _, _, _, _, _, _, _, _, F_ordinal_w_DISK_ATTACH, _, _, _, _, _, _, _, _, F_ordinal_w_SNAPSHOT_DELETE, _⟩ := hp
  exact Fld.ne F_ordinal_w_DISK_ATTACH F_ordinal_w_SNAPSHOT_DELETE (by decide)
theorem ne_w_DISK_ATTACH_w_SERVER_DELETE {Z : State} {w_PLATFORM_DEPLOY : Addr} {w_PLATFORM_DELETE : Addr} {w_SERVER_DEPLOY : Addr} {w_SERVER_START : Addr} {w_SERVER_STOP : Addr} {w_SERVER_DELETE : Addr} {w_DISK_ATTACH : Addr} {w_DISK_DETACH : Addr} {w_SNAPSHOT_CREATE : Addr} {w_SNAPSHOT_DELETE : Addr} {w_NIC_ATTACH : Addr} {w_NIC_DETACH : Addr} (hp : Perm Z w_PLATFORM_DEPLOY w_PLATFORM_DELETE w_SERVER_DEPLOY w_SERVER_START w_SERVER_STOP w_SERVER_DELETE w_DISK_ATTACH w_DISK_DETACH w_SNAPSHOT_CREATE w_SNAPSHOT_DELETE w_NIC_ATTACH w_NIC_DETACH) : w_DISK_ATTACH ≠ w_SERVER_DELETE := by
  obtain ⟨_, _, _, _, _, _, _, _, _, _, _, _, _, _, _, _, _, _, _, _, _, _, _, _, _, F_ordinal_w_DISK_ATTACH, _, _, _, _, _, _, _, _, _, F_ordinal_w_SERVER_DELETE⟩ := hp
  exact Fld.ne F_ordinal_w_DISK_ATTACH F_ordinal_w_SERVER_DELETE (by decide)
theorem ne_w_DISK_DETACH_w_NIC_ATTACH {Z : State} {w_PLATFORM_DEPLOY : Addr} {w_PLATFORM_DELETE : Addr} {w_SERVER_DEPLOY : Addr} {w_SERVER_START : Addr} {w_SERVER_STOP : Addr} {w_SERVER_DELETE : Addr} {w_DISK_ATTACH : Addr} {w_DISK_DETACH : Addr} {w_SNAPSHOT_CREATE : Addr} {w_SNAPSHOT_DELETE : Addr} {w_NIC_ATTACH : Addr} {w_NIC_DETACH : Addr} (hp : Perm Z w_PLATFORM_DEPLOY w_PLATFORM_DELETE w_SERVER_DEPLOY w_SERVER_START w_SERVER_STOP w_SERVER_DELETE w_DISK_ATTACH w_DISK_DETACH w_SNAPSHOT_CREATE w_SNAPSHOT_DELETE w_NIC_ATTACH w_NIC_DETACH) : w_DISK_DETACH ≠ w_NIC_ATTACH := by
  obtain ⟨_, _, _, _, _, _, _, _, _, _, _, _, _, _, _, _, _, _, _, _, _, _, _, _, _, _, F_ordinal_w_DISK_DETACH, F_ordinal_w_NIC_ATTACH, _, _, _, _, _, _, _, _⟩ := hp
  exact Fld.ne F_ordinal_w_DISK_DETACH F_ordinal_w_NIC_ATTACH (by decide)
theorem ne_w_DISK_DETACH_w_NIC_DETACH {Z : State} {w_PLATFORM_DEPLOY : Addr} {w_PLATFORM_DELETE : Addr} {w_SERVER_DEPLOY : Addr} {w_SERVER_START : Addr} {w_SERVER_STOP : Addr} {w_SERVER_DELETE : Addr} {w_DISK_ATTACH : Addr} {w_DISK_DETACH : Addr} {w_SNAPSHOT_CREATE : Addr} {w_SNAPSHOT_DELETE : Addr} {w_NIC_ATTACH : Addr} {w_NIC_DETACH : Addr} (hp : Perm Z w_PLATFORM_DEPLOY w_PLATFORM_DELETE w_SERVER_DEPLOY w_SERVER_START w_SERVER_STOP w_SERVER_DELETE w_DISK_ATTACH w_DISK_DETACH w_SNAPSHOT_CREATE w_SNAPSHOT_DELETE w_NIC_ATTACH w_NIC_DETACH) : w_DISK_DETACH ≠ w_NIC_DETACH := by
  obtain ⟨_, _, _, _, _, _, _, _, _, _, _, _, _, _, _, _, _, _, _, _, _, _, _, _, _, _, F_ordinal_w_DISK_DETACH, _, F_ordinal_w_NIC_DETACH, _, _, _, _, _, _, _⟩ := hp
  exact Fld.ne F_ordinal_w_DISK_DETACH F_ordinal_w_NIC_DETACH (by decide)
theorem ne_w_DISK_DETACH_w_SERVER_START {Z : State} {w_PLATFORM_DEPLOY : Addr} {w_PLATFORM_DELETE : Addr} {w_SERVER_DEPLOY : Addr} {w_SERVER_START : Addr} {w_SERVER_STOP : Addr} {w_SERVER_DELETE : Addr} {w_DISK_ATTACH : Addr} {w_DISK_DETACH : Addr} {w_SNAPSHOT_CREATE : Addr} {w_SNAPSHOT_DELETE : Addr} {w_NIC_ATTACH : Addr} {w_NIC_DETACH : Addr} (hp : Perm Z w_PLATFORM_DEPLOY w_PLATFORM_DELETE w_SERVER_DEPLOY w_SERVER_START w_SERVER_STOP w_SERVER_DELETE w_DISK_ATTACH w_DISK_DETACH w_SNAPSHOT_CREATE w_SNAPSHOT_DELETE w_NIC_ATTACH w_NIC_DETACH) : w_DISK_DETACH ≠ w_SERVER_START := by
  obtain ⟨_, _, _, _, _, _, _, _, _, _, _, _, _, _, _, _, _, _, _, _, _, _, _, _, _, _, F_ordinal_w_DISK_DETACH, _, _, F_ordinal_w_SERVER_START, _, _, _, _, _, _⟩ := hp
  exact Fld.ne F_ordinal_w_DISK_DETACH F_ordinal_w_SERVER_START (by decide)
theorem ne_w_DISK_DETACH_w_SERVER_DEPLOY {Z : State} {w_PLATFORM_DEPLOY : Addr} {w_PLATFORM_DELETE : Addr} {w_SERVER_DEPLOY : Addr} {w_SERVER_START : Addr} {w_SERVER_STOP : Addr} {w_SERVER_DELETE : Addr} {w_DISK_ATTACH : Addr} {w_DISK_DETACH : Addr} {w_SNAPSHOT_CREATE : Addr} {w_SNAPSHOT_DELETE : Addr} {w_NIC_ATTACH : Addr} {w_NIC_DETACH : Addr} (hp : Perm Z w_PLATFORM_DEPLOY w_PLATFORM_DELETE w_SERVER_DEPLOY w_SERVER_START w_SERVER_STOP w_SERVER_DELETE w_DISK_ATTACH w_DISK_DETACH w_SNAPSHOT_CREATE w_SNAPSHOT_DELETE w_NIC_ATTACH w_NIC_DETACH) : w_DISK_DETACH ≠ w_SERVER_DEPLOY := by
  obtain ⟨_, _, _, _, _, _, _, _, _, _, _, _, _, _, _, _, _, _, _, _, _, _, _, _, _, _, F_ordinal_w_DISK_DETACH, _, _, _, F_ordinal_w_SERVER_DEPLOY, _, _, _, _, _⟩ := hp
  exact Fld.ne F_ordinal_w_DISK_DETACH F_ordinal_w_SERVER_DEPLOY (by decide)
theorem ne_w_DISK_DETACH_w_SERVER_STOP {Z : State} {w_PLATFORM_DEPLOY : Addr} {w_PLATFORM_DELETE : Addr} {w_SERVER_DEPLOY : Addr} {w_SERVER_START : Addr} {w_SERVER_STOP : Addr} {w_SERVER_DELETE : Addr} {w_DISK_ATTACH : Addr} {w_DISK_DETACH : Addr} {w_SNAPSHOT_CREATE : Addr} {w_SNAPSHOT_DELETE : Addr} {w_NIC_ATTACH : Addr} {w_NIC_DETACH : Addr} (hp : Perm Z w_PLATFORM_DEPLOY w_PLATFORM_DELETE w_SERVER_DEPLOY w_SERVER_START w_SERVER_STOP w_SERVER_DELETE w_DISK_ATTACH w_DISK_DETACH w_SNAPSHOT_CREATE w_SNAPSHOT_DELETE w_NIC_ATTACH w_NIC_DETACH) : w_DISK_DETACH ≠ w_SERVER_STOP := by
  obtain ⟨_, _, _, _, _, _, _, _, _, _, _, _, _, _, _, _, _, _, _, _, _, _, _, _, _, _, F_ordinal_w_DISK_DETACH, _, _, _, _, F_ordinal_w_SERVER_STOP, _, _, _, _⟩ := hp
  exact Fld.ne F_ordinal_w_DISK_DETACH F_ordinal_w_SERVER_STOP (by decide)
theorem ne_w_DISK_DETACH_w_SNAPSHOT_CREATE {Z : State} {w_PLATFORM_DEPLOY : Addr} {w_PLATFORM_DELETE : Addr} {w_SERVER_DEPLOY : Addr} {w_SERVER_START : Addr} {w_SERVER_STOP : Addr} {w_SERVER_DELETE : Addr} {w_DISK_ATTACH : Addr} {w_DISK_DETACH : Addr} {w_SNAPSHOT_CREATE : Addr} {w_SNAPSHOT_DELETE : Addr} {w_NIC_ATTACH : Addr} {w_NIC_DETACH : Addr} (hp : Perm Z w_PLATFORM_DEPLOY w_PLATFORM_DELETE w_SERVER_DEPLOY w_SERVER_START w_SERVER_STOP w_SERVER_DELETE w_DISK_ATTACH w_DISK_DETACH w_SNAPSHOT_CREATE w_SNAPSHOT_DELETE w_NIC_ATTACH w_NIC_DETACH) : w_DISK_DETACH ≠ w_SNAPSHOT_CREATE := by
  obtain ⟨_, _, _, _, _, _, _, _, _, _, _, _, _, _, _, _, _, _, _, _, _, _, _, _, _, _, F_ordinal_w_DISK_DETACH, _, _, _, _, _, F_ordinal_w_SNAPSHOT_CREATE, _, _, _⟩ := hp
  exact Fld.ne F_ordinal_w_DISK_DETACH F_ordinal_w_SNAPSHOT_CREATE (by decide)
theorem ne_w_DISK_DETACH_w_PLATFORM_DELETE {Z : State} {w_PLATFORM_DEPLOY : Addr} {w_PLATFORM_DELETE : Addr} {w_SERVER_DEPLOY : Addr} {w_SERVER_START : Addr} {w_SERVER_STOP : Addr} {w_SERVER_DELETE : Addr} {w_DISK_ATTACH : Addr} {w_DISK_DETACH : Addr} {w_SNAPSHOT_CREATE : Addr} {w_SNAPSHOT_DELETE : Addr} {w_NIC_ATTACH : Addr} {w_NIC_DETACH : Addr} (hp : Perm Z w_PLATFORM_DEPLOY w_PLATFORM_DELETE w_SERVER_DEPLOY w_SERVER_START w_SERVER_STOP w_SERVER_DELETE w_DISK_ATTACH w_DISK_DETACH w_SNAPSHOT_CREATE w_SNAPSHOT_DELETE w_NIC_ATTACH w_NIC_DETACH) : w_DISK_DETACH ≠ w_PLATFORM_DELETE := by
  obtain ⟨_, _, _, _, _, _, _, _, _, _, _, _, _, _, _, _, _, _, _, _, _, _, _, _, _, _, F_ordinal_w_DISK_DETACH, _, _, _, _, _, _, F_ordinal_w_PLATFORM_DELETE, _, _⟩ := hp
  exact Fld.ne F_ordinal_w_DISK_DETACH F_ordinal_w_PLATFORM_DELETE (by decide)
theorem ne_w_DISK_DETACH_w_SNAPSHOT_DELETE {Z : State} {w_PLATFORM_DEPLOY : Addr} {w_PLATFORM_DELETE : Addr} {w_SERVER_DEPLOY : Addr} {w_SERVER_START : Addr} {w_SERVER_STOP : Addr} {w_SERVER_DELETE : Addr} {w_DISK_ATTACH : Addr} {w_DISK_DETACH : Addr} {w_SNAPSHOT_CREATE : Addr} {w_SNAPSHOT_DELETE : Addr} {w_NIC_ATTACH : Addr} {w_NIC_DETACH : Addr} (hp : Perm Z w_PLATFORM_DEPLOY w_PLATFORM_DELETE w_SERVER_DEPLOY w_SERVER_START w_SERVER_STOP w_SERVER_DELETE w_DISK_ATTACH w_DISK_DETACH w_SNAPSHOT_CREATE w_SNAPSHOT_DELETE w_NIC_ATTACH w_NIC_DETACH) : w_DISK_DETACH ≠ w_SNAPSHOT_DELETE := by
  obtain ⟨_, _, _, _, _, _, _, _, _, _, _, _, _, _, _, _, _, _, _, _, _, _, _, _, _, _, F_ordinal_w_DISK_DETACH, _, _, _, _, _, _, _, F_ordinal_w_SNAPSHOT_DELETE, _⟩ := hp
  exact Fld.ne F_ordinal_w_DISK_DETACH F_ordinal_w_SNAPSHOT_DELETE (by decide)
theorem ne_w_DISK_DETACH_w_SERVER_DELETE {Z : State} {w_PLATFORM_DEPLOY : Addr} {w_PLATFORM_DELETE : Addr} {w_SERVER_DEPLOY : Addr} {w_SERVER_START : Addr} {w_SERVER_STOP : Addr} {w_SERVER_DELETE : Addr} {w_DISK_ATTACH : Addr} {w_DISK_DETACH : Addr} {w_SNAPSHOT_CREATE : Addr} {w_SNAPSHOT_DELETE : Addr} {w_NIC_ATTACH : Addr} {w_NIC_DETACH : Addr} (hp : Perm Z w_PLATFORM_DEPLOY w_PLATFORM_DELETE w_SERVER_DEPLOY w_SERVER_START w_SERVER_STOP w_SERVER_DELETE w_DISK_ATTACH w_DISK_DETACH w_SNAPSHOT_CREATE w_SNAPSHOT_DELETE w_NIC_ATTACH w_NIC_DETACH) : w_DISK_DETACH ≠ w_SERVER_DELETE := by
  obtain ⟨_, _, _, _, _, _, _, _, _, _, _, _, _, _, _, _, _, _, _, _, _, _, _, _, _, _, F_ordinal_w_DISK_DETACH, _, _, _, _, _, _, _, _, F_ordinal_w_SERVER_DELETE⟩ := hp
  exact Fld.ne F_ordinal_w_DISK_DETACH F_ordinal_w_SERVER_DELETE (by decide)
theorem ne_w_NIC_ATTACH_w_NIC_DETACH {Z : State} {w_PLATFORM_DEPLOY : Addr} {w_PLATFORM_DELETE : Addr} {w_SERVER_DEPLOY : Addr} {w_SERVER_START : Addr} {w_SERVER_STOP : Addr} {w_SERVER_DELETE : Addr} {w_DISK_ATTACH : Addr} {w_DISK_DETACH : Addr} {w_SNAPSHOT_CREATE : Addr} {w_SNAPSHOT_DELETE : Addr} {w_NIC_ATTACH : Addr} {w_NIC_DETACH : Addr} (hp : Perm Z w_PLATFORM_DEPLOY w_PLATFORM_DELETE w_SERVER_DEPLOY w_SERVER_START w_SERVER_STOP w_SERVER_DELETE w_DISK_ATTACH w_DISK_DETACH w_SNAPSHOT_CREATE w_SNAPSHOT_DELETE w_NIC_ATTACH w_NIC_DETACH) : w_NIC_ATTACH ≠ w_NIC_DETACH := by
  obtain ⟨_, _, _, _, _, _, _, _, _, _, _, _, _, _, _, _, _, _, _, _, _, _, _, _, _, _, _, F_ordinal_w_NIC_ATTACH, F_ordinal_w_NIC_DETACH, _, _, _, _, _, _, _⟩ := hp
  exact Fld.ne F_ordinal_w_NIC_ATTACH F_ordinal_w_NIC_DETACH (by decide)
theorem ne_w_NIC_ATTACH_w_SERVER_START {Z : State} {w_PLATFORM_DEPLOY : Addr} {w_PLATFORM_DELETE : Addr} {w_SERVER_DEPLOY : Addr} {w_SERVER_START : Addr} {w_SERVER_STOP : Addr} {w_SERVER_DELETE : Addr} {w_DISK_ATTACH : Addr} {w_DISK_DETACH : Addr} {w_SNAPSHOT_CREATE : Addr} {w_SNAPSHOT_DELETE : Addr} {w_NIC_ATTACH : Addr} {w_NIC_DETACH : Addr} (hp : Perm Z w_PLATFORM_DEPLOY w_PLATFORM_DELETE w_SERVER_DEPLOY w_SERVER_START w_SERVER_STOP w_SERVER_DELETE w_DISK_ATTACH w_DISK_DETACH w_SNAPSHOT_CREATE w_SNAPSHOT_DELETE w_NIC_ATTACH w_NIC_DETACH) : w_NIC_ATTACH ≠ w_SERVER_START := by
  obtain ⟨_, _, _, _, _, _, _, _, _, _, _, _, _, _, _, _, _, _, _, _, _, _, _, _, _, _, _, F_ordinal_w_NIC_ATTACH, _, F_ordinal_w_SERVER_START, _, _, _, _, _, _⟩ := hp
  exact Fld.ne F_ordinal_w_NIC_ATTACH F_ordinal_w_SERVER_START (by decide)
theorem ne_w_NIC_ATTACH_w_SERVER_DEPLOY {Z : State} {w_PLATFORM_DEPLOY : Addr} {w_PLATFORM_DELETE : Addr} {w_SERVER_DEPLOY : Addr} {w_SERVER_START : Addr} {w_SERVER_STOP : Addr} {w_SERVER_DELETE : Addr} {w_DISK_ATTACH : Addr} {w_DISK_DETACH : Addr} {w_SNAPSHOT_CREATE : Addr} {w_SNAPSHOT_DELETE : Addr} {w_NIC_ATTACH : Addr} {w_NIC_DETACH : Addr} (hp : Perm Z w_PLATFORM_DEPLOY w_PLATFORM_DELETE w_SERVER_DEPLOY w_SERVER_START w_SERVER_STOP w_SERVER_DELETE w_DISK_ATTACH w_DISK_DETACH w_SNAPSHOT_CREATE w_SNAPSHOT_DELETE w_NIC_ATTACH w_NIC_DETACH) : w_NIC_ATTACH ≠ w_SERVER_DEPLOY := by
  obtain ⟨_, _, _, _, _, _, _, _, _, _, _, _, _, _, _, _, _, _, _, _, _, _, _, _, _, _, _, F_ordinal_w_NIC_ATTACH, _, _, F_ordinal_w_SERVER_DEPLOY, _, _, _, _, _⟩ := hp
  exact Fld.ne F_ordinal_w_NIC_ATTACH F_ordinal_w_SERVER_DEPLOY (by decide)
theorem ne_w_NIC_ATTACH_w_SERVER_STOP {Z : State} {w_PLATFORM_DEPLOY : Addr} {w_PLATFORM_DELETE : Addr} {w_SERVER_DEPLOY : Addr} {w_SERVER_START : Addr} {w_SERVER_STOP : Addr} {w_SERVER_DELETE : Addr} {w_DISK_ATTACH : Addr} {w_DISK_DETACH : Addr} {w_SNAPSHOT_CREATE : Addr} {w_SNAPSHOT_DELETE : Addr} {w_NIC_ATTACH : Addr} {w_NIC_DETACH : Addr} (hp : Perm Z w_PLATFORM_DEPLOY w_PLATFORM_DELETE w_SERVER_DEPLOY w_SERVER_START w_SERVER_STOP w_SERVER_DELETE w_DISK_ATTACH w_DISK_DETACH w_SNAPSHOT_CREATE w_SNAPSHOT_DELETE w_NIC_ATTACH w_NIC_DETACH) : w_NIC_ATTACH ≠ w_SERVER_STOP := by
  obtain ⟨_, _, _, _, _, _, _, _, _, _, _, _, _, _, _, _, _, _, _, _, _, _, _, _, _, _, _, F_ordinal_w_NIC_ATTACH, _, _, _, F_ordinal_w_SERVER_STOP, _, _, _, _⟩ := hp
  exact Fld.ne F_ordinal_w_NIC_ATTACH F_ordinal_w_SERVER_STOP (by decide)
theorem ne_w_NIC_ATTACH_w_SNAPSHOT_CREATE {Z : State} {w_PLATFORM_DEPLOY : Addr} {w_PLATFORM_DELETE : Addr} {w_SERVER_DEPLOY : Addr} {w_SERVER_START : Addr} {w_SERVER_STOP : Addr} {w_SERVER_DELETE : Addr} {w_DISK_ATTACH : Addr} {w_DISK_DETACH : Addr} {w_SNAPSHOT_CREATE : Addr} {w_SNAPSHOT_DELETE : Addr} {w_NIC_ATTACH : Addr} {w_NIC_DETACH : Addr} (hp : Perm Z w_PLATFORM_DEPLOY w_PLATFORM_DELETE w_SERVER_DEPLOY w_SERVER_START w_SERVER_STOP w_SERVER_DELETE w_DISK_ATTACH w_DISK_DETACH w_SNAPSHOT_CREATE w_SNAPSHOT_DELETE w_NIC_ATTACH w_NIC_DETACH) : w_NIC_ATTACH ≠ w_SNAPSHOT_CREATE := by
  obtain ⟨_, _, _, _, _, _, _, _, _, _, _, _, _, _, _, _, _, _, _, _, _, _, _, _, _, _, _, F_ordinal_w_NIC_ATTACH, _, _, _, _, F_ordinal_w_SNAPSHOT_CREATE, _, _, _⟩ := hp
  exact Fld.ne F_ordinal_w_NIC_ATTACH F_ordinal_w_SNAPSHOT_CREATE (by decide)
theorem ne_w_NIC_ATTACH_w_PLATFORM_DELETE {Z : State} {w_PLATFORM_DEPLOY : Addr} {w_PLATFORM_DELETE : Addr} {w_SERVER_DEPLOY : Addr} {w_SERVER_START : Addr} {w_SERVER_STOP : Addr} {w_SERVER_DELETE : Addr} {w_DISK_ATTACH : Addr} {w_DISK_DETACH : Addr} {w_SNAPSHOT_CREATE : Addr} {w_SNAPSHOT_DELETE : Addr} {w_NIC_ATTACH : Addr} {w_NIC_DETACH : Addr} (hp : Perm Z w_PLATFORM_DEPLOY w_PLATFORM_DELETE w_SERVER_DEPLOY w_SERVER_START w_SERVER_STOP w_SERVER_DELETE w_DISK_ATTACH w_DISK_DETACH w_SNAPSHOT_CREATE w_SNAPSHOT_DELETE w_NIC_ATTACH w_NIC_DETACH) : w_NIC_ATTACH ≠ w_PLATFORM_DELETE := by
  obtain ⟨_, _, _, _, _, _, _, _, _, _, _, _, _, _, _, _, _, _, _, _, _, _, _, _, _, _, _, F_ordinal_w_NIC_ATTACH, _, _, _, _, _, F_ordinal_w_PLATFORM_DELETE, _, _⟩ := hp
  exact Fld.ne F_ordinal_w_NIC_ATTACH F_ordinal_w_PLATFORM_DELETE (by decide)
theorem ne_w_NIC_ATTACH_w_SNAPSHOT_DELETE {Z : State} {w_PLATFORM_DEPLOY : Addr} {w_PLATFORM_DELETE : Addr} {w_SERVER_DEPLOY : Addr} {w_SERVER_START : Addr} {w_SERVER_STOP : Addr} {w_SERVER_DELETE : Addr} {w_DISK_ATTACH : Addr} {w_DISK_DETACH : Addr} {w_SNAPSHOT_CREATE : Addr} {w_SNAPSHOT_DELETE : Addr} {w_NIC_ATTACH : Addr} {w_NIC_DETACH : Addr} (hp : Perm Z w_PLATFORM_DEPLOY w_PLATFORM_DELETE w_SERVER_DEPLOY w_SERVER_START w_SERVER_STOP w_SERVER_DELETE w_DISK_ATTACH w_DISK_DETACH w_SNAPSHOT_CREATE w_SNAPSHOT_DELETE w_NIC_ATTACH w_NIC_DETACH) : w_NIC_ATTACH ≠ w_SNAPSHOT_DELETE := by
  obtain ⟨_, _, _, _, _, _, _, _, _, _, _, _, _, _, _, _, _, _, _, _, _, _, _, _, _, _, _, F_ordinal_w_NIC_ATTACH, _, _, _, _, _, _, F_ordinal_w_SNAPSHOT_DELETE, _⟩ := hp
  exact Fld.ne F_ordinal_w_NIC_ATTACH F_ordinal_w_SNAPSHOT_DELETE (by decide)
theorem ne_w_NIC_ATTACH_w_SERVER_DELETE {Z : State} {w_PLATFORM_DEPLOY : Addr} {w_PLATFORM_DELETE : Addr} {w_SERVER_DEPLOY : Addr} {w_SERVER_START : Addr} {w_SERVER_STOP : Addr} {w_SERVER_DELETE : Addr} {w_DISK_ATTACH : Addr} {w_DISK_DETACH : Addr} {w_SNAPSHOT_CREATE : Addr} {w_SNAPSHOT_DELETE : Addr} {w_NIC_ATTACH : Addr} {w_NIC_DETACH : Addr} (hp : Perm Z w_PLATFORM_DEPLOY w_PLATFORM_DELETE w_SERVER_DEPLOY w_SERVER_START w_SERVER_STOP w_SERVER_DELETE w_DISK_ATTACH w_DISK_DETACH w_SNAPSHOT_CREATE w_SNAPSHOT_DELETE w_NIC_ATTACH w_NIC_DETACH) : w_NIC_ATTACH ≠ w_SERVER_DELETE := by
  obtain ⟨_, _, _, _, _, _, _, _, _, _, _, _, _, _, _, _, _, _, _, _, _, _, _, _, _, _, _, F_ordinal_w_NIC_ATTACH, _, _, _, _, _, _, _, F_ordinal_w_SERVER_DELETE⟩ := hp
  exact Fld.ne F_ordinal_w_NIC_ATTACH F_ordinal_w_SERVER_DELETE (by decide)
theorem ne_w_NIC_DETACH_w_SERVER_START {Z : State} {w_PLATFORM_DEPLOY : Addr} {w_PLATFORM_DELETE : Addr} {w_SERVER_DEPLOY : Addr} {w_SERVER_START : Addr} {w_SERVER_STOP : Addr} {w_SERVER_DELETE : Addr} {w_DISK_ATTACH : Addr} {w_DISK_DETACH : Addr} {w_SNAPSHOT_CREATE : Addr} {w_SNAPSHOT_DELETE : Addr} {w_NIC_ATTACH : Addr} {w_NIC_DETACH : Addr} (hp : Perm Z w_PLATFORM_DEPLOY w_PLATFORM_DELETE w_SERVER_DEPLOY w_SERVER_START w_SERVER_STOP w_SERVER_DELETE w_DISK_ATTACH w_DISK_DETACH w_SNAPSHOT_CREATE w_SNAPSHOT_DELETE w_NIC_ATTACH w_NIC_DETACH) : w_NIC_DETACH ≠ w_SERVER_START := by
  obtain ⟨_, _, _, _, _, _, _, _, _, _, _, _, _, _, _, _, _, _, _, _, _, _, _, _, _, _, _, _, F_ordinal_w_NIC_DETACH, F_ordinal_w_SERVER_START, _, _, _, _, _, _⟩ := hp
  exact Fld.ne F_ordinal_w_NIC_DETACH F_ordinal_w_SERVER_START (by decide)
theorem ne_w_NIC_DETACH_w_SERVER_DEPLOY {Z : State} {w_PLATFORM_DEPLOY : Addr} {w_PLATFORM_DELETE : Addr} {w_SERVER_DEPLOY : Addr} {w_SERVER_START : Addr} {w_SERVER_STOP : Addr} {w_SERVER_DELETE : Addr} {w_DISK_ATTACH : Addr} {w_DISK_DETACH : Addr} {w_SNAPSHOT_CREATE : Addr} {w_SNAPSHOT_DELETE : Addr} {w_NIC_ATTACH : Addr} {w_NIC_DETACH : Addr} (hp : Perm Z w_PLATFORM_DEPLOY w_PLATFORM_DELETE w_SERVER_DEPLOY w_SERVER_START w_SERVER_STOP w_SERVER_DELETE w_DISK_ATTACH w_DISK_DETACH w_SNAPSHOT_CREATE w_SNAPSHOT_DELETE w_NIC_ATTACH w_NIC_DETACH) : w_NIC_DETACH ≠ w_SERVER_DEPLOY := by
  obtain ⟨_, _, _, _, _, _, _, _, _, _, _, _, _, _, _, _, _, _, _, _, _, _, _, _, _, _, _, _, F_ordinal_w_NIC_DETACH, _, F_ordinal_w_SERVER_DEPLOY, _, _, _, _, _⟩ := hp
  exact Fld.ne F_ordinal_w_NIC_DETACH F_ordinal_w_SERVER_DEPLOY (by decide)
theorem ne_w_NIC_DETACH_w_SERVER_STOP {Z : State} {w_PLATFORM_DEPLOY : Addr} {w_PLATFORM_DELETE : Addr} {w_SERVER_DEPLOY : Addr} {w_SERVER_START : Addr} {w_SERVER_STOP : Addr} {w_SERVER_DELETE : Addr} {w_DISK_ATTACH : Addr} {w_DISK_DETACH : Addr} {w_SNAPSHOT_CREATE : Addr} {w_SNAPSHOT_DELETE : Addr} {w_NIC_ATTACH : Addr} {w_NIC_DETACH : Addr} (hp : Perm Z w_PLATFORM_DEPLOY w_PLATFORM_DELETE w_SERVER_DEPLOY w_SERVER_START w_SERVER_STOP w_SERVER_DELETE w_DISK_ATTACH w_DISK_DETACH w_SNAPSHOT_CREATE w_SNAPSHOT_DELETE w_NIC_ATTACH w_NIC_DETACH) : w_NIC_DETACH ≠ w_SERVER_STOP := by
  obtain ⟨_, _, _, _, _, _, _, _, _, _, _, _, _, _, _, _, _, _, _, _, _, _, _, _, _, _, _, _, F_ordinal_w_NIC_DETACH, _, _, F_ordinal_w_SERVER_STOP, _, _, _, _⟩ := hp
  exact Fld.ne F_ordinal_w_NIC_DETACH F_ordinal_w_SERVER_STOP (by decide)
theorem ne_w_NIC_DETACH_w_SNAPSHOT_CREATE {Z : State} {w_PLATFORM_DEPLOY : Addr} {w_PLATFORM_DELETE : Addr} {w_SERVER_DEPLOY : Addr} {w_SERVER_START : Addr} {w_SERVER_STOP : Addr} {w_SERVER_DELETE : Addr} {w_DISK_ATTACH : Addr} {w_DISK_DETACH : Addr} {w_SNAPSHOT_CREATE : Addr} {w_SNAPSHOT_DELETE : Addr} {w_NIC_ATTACH : Addr} {w_NIC_DETACH : Addr} (hp : Perm Z w_PLATFORM_DEPLOY w_PLATFORM_DELETE w_SERVER_DEPLOY w_SERVER_START w_SERVER_STOP w_SERVER_DELETE w_DISK_ATTACH w_DISK_DETACH w_SNAPSHOT_CREATE w_SNAPSHOT_DELETE w_NIC_ATTACH w_NIC_DETACH) : w_NIC_DETACH ≠ w_SNAPSHOT_CREATE := by
  obtain ⟨_, _, _, _, _, _, _, _, _, _, _, _, _, _, _, _, _, _, _, _, _, _, _, _, _, _, _, _, F_ordinal_w_NIC_DETACH, _, _, _, F_ordinal_w_SNAPSHOT_CREATE, _, _, _⟩ := hp
  exact Fld.ne F_ordinal_w_NIC_DETACH F_ordinal_w_SNAPSHOT_CREATE (by decide)
theorem ne_w_NIC_DETACH_w_PLATFORM_DELETE {Z : State} {w_PLATFORM_DEPLOY : Addr} {w_PLATFORM_DELETE : Addr} {w_SERVER_DEPLOY : Addr} {w_SERVER_START : Addr} {w_SERVER_STOP : Addr} {w_SERVER_DELETE : Addr} {w_DISK_ATTACH : Addr} {w_DISK_DETACH : Addr} {w_SNAPSHOT_CREATE : Addr} {w_SNAPSHOT_DELETE : Addr} {w_NIC_ATTACH : Addr} {w_NIC_DETACH : Addr} (hp : Perm Z w_PLATFORM_DEPLOY w_PLATFORM_DELETE w_SERVER_DEPLOY w_SERVER_START w_SERVER_STOP w_SERVER_DELETE w_DISK_ATTACH w_DISK_DETACH w_SNAPSHOT_CREATE w_SNAPSHOT_DELETE w_NIC_ATTACH w_NIC_DETACH) : w_NIC_DETACH ≠ w_PLATFORM_DELETE := by
  obtain ⟨_, _, _, _, _, _, _, _, _, _, _, _, _, _, _, _, _, _, _, _, _, _, _, _, _, _, _, _, F_ordinal_w_NIC_DETACH, _, _, _, _, F_ordinal_w_PLATFORM_DELETE, _, _⟩ := hp
  exact Fld.ne F_ordinal_w_NIC_DETACH F_ordinal_w_PLATFORM_DELETE (by decide)
theorem ne_w_NIC_DETACH_w_SNAPSHOT_DELETE {Z : State} {w_PLATFORM_DEPLOY : Addr} {w_PLATFORM_DELETE : Addr} {w_SERVER_DEPLOY : Addr} {w_SERVER_START : Addr} {w_SERVER_STOP : Addr} {w_SERVER_DELETE : Addr} {w_DISK_ATTACH : Addr} {w_DISK_DETACH : Addr} {w_SNAPSHOT_CREATE : Addr} {w_SNAPSHOT_DELETE : Addr} {w_NIC_ATTACH : Addr} {w_NIC_DETACH : Addr} (hp : Perm Z w_PLATFORM_DEPLOY w_PLATFORM_DELETE w_SERVER_DEPLOY w_SERVER_START w_SERVER_STOP w_SERVER_DELETE w_DISK_ATTACH w_DISK_DETACH w_SNAPSHOT_CREATE w_SNAPSHOT_DELETE w_NIC_ATTACH w_NIC_DETACH) : w_NIC_DETACH ≠ w_SNAPSHOT_DELETE := by
  obtain ⟨_, _, _, _, _, _, _, _, _, _, _, _, _, _, _, _, _, _, _, _, _, _, _, _, _, _, _, _, F_ordinal_w_NIC_DETACH, _, _, _, _, _, F_ordinal_w_SNAPSHOT_DELETE, _⟩ := hp
  exact Fld.ne F_ordinal_w_NIC_DETACH F_ordinal_w_SNAPSHOT_DELETE (by decide)
theorem ne_w_NIC_DETACH_w_SERVER_DELETE {Z : State} {w_PLATFORM_DEPLOY : Addr} {w_PLATFORM_DELETE : Addr} {w_SERVER_DEPLOY : Addr} {w_SERVER_START : Addr} {w_SERVER_STOP : Addr} {w_SERVER_DELETE : Addr} {w_DISK_ATTACH : Addr} {w_DISK_DETACH : Addr} {w_SNAPSHOT_CREATE : Addr} {w_SNAPSHOT_DELETE : Addr} {w_NIC_ATTACH : Addr} {w_NIC_DETACH : Addr} (hp : Perm Z w_PLATFORM_DEPLOY w_PLATFORM_DELETE w_SERVER_DEPLOY w_SERVER_START w_SERVER_STOP w_SERVER_DELETE w_DISK_ATTACH w_DISK_DETACH w_SNAPSHOT_CREATE w_SNAPSHOT_DELETE w_NIC_ATTACH w_NIC_DETACH) : w_NIC_DETACH ≠ w_SERVER_DELETE := by
  obtain ⟨_, _, _, _, _, _, _, _, _, _, _, _, _, _, _, _, _, _, _, _, _, _, _, _, _, _, _, _, F_ordinal_w_NIC_DETACH, _, _, _, _, _, _, F_ordinal_w_SERVER_DELETE⟩ := hp
  exact Fld.ne F_ordinal_w_NIC_DETACH F_ordinal_w_SERVER_DELETE (by decide)
theorem ne_w_SERVER_START_w_SERVER_DEPLOY {Z : State} {w_PLATFORM_DEPLOY : Addr} {w_PLATFORM_DELETE : Addr} {w_SERVER_DEPLOY : Addr} {w_SERVER_START : Addr} {w_SERVER_STOP : Addr} {w_SERVER_DELETE : Addr} {w_DISK_ATTACH : Addr} {w_DISK_DETACH : Addr} {w_SNAPSHOT_CREATE : Addr} {w_SNAPSHOT_DELETE : Addr} {w_NIC_ATTACH : Addr} {w_NIC_DETACH : Addr} (hp : Perm Z w_PLATFORM_DEPLOY w_PLATFORM_DELETE w_SERVER_DEPLOY w_SERVER_START w_SERVER_STOP w_SERVER_DELETE w_DISK_ATTACH w_DISK_DETACH w_SNAPSHOT_CREATE w_SNAPSHOT_DELETE w_NIC_ATTACH w_NIC_DETACH) : w_SERVER_START ≠ w_SERVER_DEPLOY := by
  obtain ⟨_, _, _, _, _, _, _, _, _, _, _, _, _, _, _, _, _, _, _, _, _, _, _, _, _, _, _, _, _, F_ordinal_w_SERVER_START, F_ordinal_w_SERVER_DEPLOY, _, _, _, _, _⟩ := hp
  exact Fld.ne F_ordinal_w_SERVER_START F_ordinal_w_SERVER_DEPLOY (by decide)
theorem ne_w_SERVER_START_w_SERVER_STOP {Z : State} {w_PLATFORM_DEPLOY : Addr} {w_PLATFORM_DELETE : Addr} {w_SERVER_DEPLOY : Addr} {w_SERVER_START : Addr} {w_SERVER_STOP : Addr} {w_SERVER_DELETE : Addr} {w_DISK_ATTACH : Addr} {w_DISK_DETACH : Addr} {w_SNAPSHOT_CREATE : Addr} {w_SNAPSHOT_DELETE : Addr} {w_NIC_ATTACH : Addr} {w_NIC_DETACH : Addr} (hp : Perm Z w_PLATFORM_DEPLOY w_PLATFORM_DELETE w_SERVER_DEPLOY w_SERVER_START w_SERVER_STOP w_SERVER_DELETE w_DISK_ATTACH w_DISK_DETACH w_SNAPSHOT_CREATE w_SNAPSHOT_DELETE w_NIC_ATTACH w_NIC_DETACH) : w_SERVER_START ≠ w_SERVER_STOP := by
  obtain ⟨_, _, _, _, _, _, _, _, _, _, _, _, _, _, _, _, _, _, _, _, _, _, _, _, _, _, _, _, _, F_ordinal_w_SERVER_START, _, F_ordinal_w_SERVER_STOP, _, _, _, _⟩ := hp
  exact Fld.ne F_ordinal_w_SERVER_START F_ordinal_w_SERVER_STOP (by decide)
theorem ne_w_SERVER_START_w_SNAPSHOT_CREATE {Z : State} {w_PLATFORM_DEPLOY : Addr} {w_PLATFORM_DELETE : Addr} {w_SERVER_DEPLOY : Addr} {w_SERVER_START : Addr} {w_SERVER_STOP : Addr} {w_SERVER_DELETE : Addr} {w_DISK_ATTACH : Addr} {w_DISK_DETACH : Addr} {w_SNAPSHOT_CREATE : Addr} {w_SNAPSHOT_DELETE : Addr} {w_NIC_ATTACH : Addr} {w_NIC_DETACH : Addr} (hp : Perm Z w_PLATFORM_DEPLOY w_PLATFORM_DELETE w_SERVER_DEPLOY w_SERVER_START w_SERVER_STOP w_SERVER_DELETE w_DISK_ATTACH w_DISK_DETACH w_SNAPSHOT_CREATE w_SNAPSHOT_DELETE w_NIC_ATTACH w_NIC_DETACH) : w_SERVER_START ≠ w_SNAPSHOT_CREATE := by
  obtain ⟨_, _, _, _, _, _, _, _, _, _, _, _, _, _, _, _, _, _, _, _, _, _, _, _, _, _, _, _, _, F_ordinal_w_SERVER_START, _, _, F_ordinal_w_SNAPSHOT_CREATE, _, _, _⟩ := hp
  exact Fld.ne F_ordinal_w_SERVER_START F_ordinal_w_SNAPSHOT_CREATE (by decide)
theorem ne_w_SERVER_START_w_PLATFORM_DELETE {Z : State} {w_PLATFORM_DEPLOY : Addr} {w_PLATFORM_DELETE : Addr} {w_SERVER_DEPLOY : Addr} {w_SERVER_START : Addr} {w_SERVER_STOP : Addr} {w_SERVER_DELETE : Addr} {w_DISK_ATTACH : Addr} {w_DISK_DETACH : Addr} {w_SNAPSHOT_CREATE : Addr} {w_SNAPSHOT_DELETE : Addr} {w_NIC_ATTACH : Addr} {w_NIC_DETACH : Addr} (hp : Perm Z w_PLATFORM_DEPLOY w_PLATFORM_DELETE w_SERVER_DEPLOY w_SERVER_START w_SERVER_STOP w_SERVER_DELETE w_DISK_ATTACH w_DISK_DETACH w_SNAPSHOT_CREATE w_SNAPSHOT_DELETE w_NIC_ATTACH w_NIC_DETACH) : w_SERVER_START ≠ w_PLATFORM_DELETE := by
  obtain ⟨_, _, _, _, _, _, _, _, _, _, _, _, _, _, _, _, _, _, _, _, _, _, _, _, _, _, _, _, _, F_ordinal_w_SERVER_START, _, _, _, F_ordinal_w_PLATFORM_DELETE, _, _⟩ := hp
  exact Fld.ne F_ordinal_w_SERVER_START F_ordinal_w_PLATFORM_DELETE (by decide)
theorem ne_w_SERVER_START_w_SNAPSHOT_DELETE {Z : State} {w_PLATFORM_DEPLOY : Addr} {w_PLATFORM_DELETE : Addr} {w_SERVER_DEPLOY : Addr} {w_SERVER_START : Addr} {w_SERVER_STOP : Addr} {w_SERVER_DELETE : Addr} {w_DISK_ATTACH : Addr} {w_DISK_DETACH : Addr} {w_SNAPSHOT_CREATE : Addr} {w_SNAPSHOT_DELETE : Addr} {w_NIC_ATTACH : Addr} {w_NIC_DETACH : Addr} (hp : Perm Z w_PLATFORM_DEPLOY w_PLATFORM_DELETE w_SERVER_DEPLOY w_SERVER_START w_SERVER_STOP w_SERVER_DELETE w_DISK_ATTACH w_DISK_DETACH w_SNAPSHOT_CREATE w_SNAPSHOT_DELETE w_NIC_ATTACH w_NIC_DETACH) : w_SERVER_START ≠ w_SNAPSHOT_DELETE := by
  obtain ⟨_, _, _, _, _, _, _, _, _, _, _, _, _, _, _, _, _, _, _, _, _, _, _, _, _, _, _, _, _, F_ordinal_w_SERVER_START, _, _, _, _, F_ordinal_w_SNAPSHOT_DELETE, _⟩ := hp
  exact Fld.ne F_ordinal_w_SERVER_START F_ordinal_w_SNAPSHOT_DELETE (by decide)
theorem ne_w_SERVER_START_w_SERVER_DELETE {Z : State} {w_PLATFORM_DEPLOY : Addr} {w_PLATFORM_DELETE : Addr} {w_SERVER_DEPLOY : Addr} {w_SERVER_START : Addr} {w_SERVER_STOP : Addr} {w_SERVER_DELETE : Addr} {w_DISK_ATTACH : Addr} {w_DISK_DETACH : Addr} {w_SNAPSHOT_CREATE : Addr} {w_SNAPSHOT_DELETE : Addr} {w_NIC_ATTACH : Addr} {w_NIC_DETACH : Addr} (hp : Perm Z w_PLATFORM_DEPLOY w_PLATFORM_DELETE w_SERVER_DEPLOY w_SERVER_START w_SERVER_STOP w_SERVER_DELETE w_DISK_ATTACH w_DISK_DETACH w_SNAPSHOT_CREATE w_SNAPSHOT_DELETE w_NIC_ATTACH w_NIC_DETACH) : w_SERVER_START ≠ w_SERVER_DELETE := by
  obtain ⟨_, _, _, _, _, _, _, _, _, _, _, _, _, _, _, _, _, _, _, _, _, _, _, _, _, _, _, _, _, F_ordinal_w_SERVER_START, _, _, _, _, _, F_ordinal_w_SERVER_DELETE⟩ := hp
  exact Fld.ne F_ordinal_w_SERVER_START F_ordinal_w_SERVER_DELETE (by decide)
theorem ne_w_SERVER_DEPLOY_w_SERVER_STOP {Z : State} {w_PLATFORM_DEPLOY : Addr} {w_PLATFORM_DELETE : Addr} {w_SERVER_DEPLOY : Addr} {w_SERVER_START : Addr} {w_SERVER_STOP : Addr} {w_SERVER_DELETE : Addr} {w_DISK_ATTACH : Addr} {w_DISK_DETACH : Addr} {w_SNAPSHOT_CREATE : Addr} {w_SNAPSHOT_DELETE : Addr} {w_NIC_ATTACH : Addr} {w_NIC_DETACH : Addr} (hp : Perm Z w_PLATFORM_DEPLOY w_PLATFORM_DELETE w_SERVER_DEPLOY w_SERVER_START w_SERVER_STOP w_SERVER_DELETE w_DISK_ATTACH w_DISK_DETACH w_SNAPSHOT_CREATE w_SNAPSHOT_DELETE w_NIC_ATTACH w_NIC_DETACH) : w_SERVER_DEPLOY ≠ w_SERVER_STOP := by
  obtain ⟨_, _, _, _, _, _, _, _, _, _, _, _, _, _, _, _, _, _, _, _, _, _, _, _, _, _, _, _, _, _, F_ordinal_w_SERVER_DEPLOY, F_ordinal_w_SERVER_STOP, _, _, _, _⟩ := hp
  exact Fld.ne F_ordinal_w_SERVER_DEPLOY F_ordinal_w_SERVER_STOP (by decide)
theorem ne_w_SERVER_DEPLOY_w_SNAPSHOT_CREATE {Z : State} {w_PLATFORM_DEPLOY : Addr} {w_PLATFORM_DELETE : Addr} {w_SERVER_DEPLOY : Addr} {w_SERVER_START : Addr} {w_SERVER_STOP : Addr} {w_SERVER_DELETE : Addr} {w_DISK_ATTACH : Addr} {w_DISK_DETACH : Addr} {w_SNAPSHOT_CREATE : Addr} {w_SNAPSHOT_DELETE : Addr} {w_NIC_ATTACH : Addr} {w_NIC_DETACH : Addr} (hp : Perm Z w_PLATFORM_DEPLOY w_PLATFORM_DELETE w_SERVER_DEPLOY w_SERVER_START w_SERVER_STOP w_SERVER_DELETE w_DISK_ATTACH w_DISK_DETACH w_SNAPSHOT_CREATE w_SNAPSHOT_DELETE w_NIC_ATTACH w_NIC_DETACH) : w_SERVER_DEPLOY ≠ w_SNAPSHOT_CREATE := by
  obtain ⟨_, _, _, _, _, _, _, _, _, _, _, _, _, _, _, _, _, _, _, _, _, _, _, _, _, _, _, _, _, _, F_ordinal_w_SERVER_DEPLOY, _, F_ordinal_w_SNAPSHOT_CREATE, _, _, _⟩ := hp
  exact Fld.ne F_ordinal_w_SERVER_DEPLOY F_ordinal_w_SNAPSHOT_CREATE (by decide)
theorem ne_w_SERVER_DEPLOY_w_PLATFORM_DELETE {Z : State} {w_PLATFORM_DEPLOY : Addr} {w_PLATFORM_DELETE : Addr} {w_SERVER_DEPLOY : Addr} {w_SERVER_START : Addr} {w_SERVER_STOP : Addr} {w_SERVER_DELETE : Addr} {w_DISK_ATTACH : Addr} {w_DISK_DETACH : Addr} {w_SNAPSHOT_CREATE : Addr} {w_SNAPSHOT_DELETE : Addr} {w_NIC_ATTACH : Addr} {w_NIC_DETACH : Addr} (hp : Perm Z w_PLATFORM_DEPLOY w_PLATFORM_DELETE w_SERVER_DEPLOY w_SERVER_START w_SERVER_STOP w_SERVER_DELETE w_DISK_ATTACH w_DISK_DETACH w_SNAPSHOT_CREATE w_SNAPSHOT_DELETE w_NIC_ATTACH w_NIC_DETACH) : w_SERVER_DEPLOY ≠ w_PLATFORM_DELETE := by
  obtain ⟨_, _, _, _, _, _, _, _, _, _, _, _, _, _, _, _, _, _, _, _, _, _, _, _, _, _, _, _, _, _, F_ordinal_w_SERVER_DEPLOY, _, _, F_ordinal_w_PLATFORM_DELETE, _, _⟩ := hp
  exact Fld.ne F_ordinal_w_SERVER_DEPLOY F_ordinal_w_PLATFORM_DELETE (by decide)
theorem ne_w_SERVER_DEPLOY_w_SNAPSHOT_DELETE {Z : State} {w_PLATFORM_DEPLOY : Addr} {w_PLATFORM_DELETE : Addr} {w_SERVER_DEPLOY : Addr} {w_SERVER_START : Addr} {w_SERVER_STOP : Addr} {w_SERVER_DELETE : Addr} {w_DISK_ATTACH : Addr} {w_DISK_DETACH : Addr} {w_SNAPSHOT_CREATE : Addr} {w_SNAPSHOT_DELETE : Addr} {w_NIC_ATTACH : Addr} {w_NIC_DETACH : Addr} (hp : Perm Z w_PLATFORM_DEPLOY w_PLATFORM_DELETE w_SERVER_DEPLOY w_SERVER_START w_SERVER_STOP w_SERVER_DELETE w_DISK_ATTACH w_DISK_DETACH w_SNAPSHOT_CREATE w_SNAPSHOT_DELETE w_NIC_ATTACH w_NIC_DETACH) : w_SERVER_DEPLOY ≠ w_SNAPSHOT_DELETE := by
  obtain ⟨_, _, _, _, _, _, _, _, _, _, _, _, _, _, _, _, _, _, _, _, _, _, _, _, _, _, _, _, _, _, F_ordinal_w_SERVER_DEPLOY, _, _, _, F_ordinal_w_SNAPSHOT_DELETE, _⟩ := hp
  exact Fld.ne F_ordinal_w_SERVER_DEPLOY F_ordinal_w_SNAPSHOT_DELETE (by decide)
theorem ne_w_SERVER_DEPLOY_w_SERVER_DELETE {Z : State} {w_PLATFORM_DEPLOY : Addr} {w_PLATFORM_DELETE : Addr} {w_SERVER_DEPLOY : Addr} {w_SERVER_START : Addr} {w_SERVER_STOP : Addr} {w_SERVER_DELETE : Addr} {w_DISK_ATTACH : Addr} {w_DISK_DETACH : Addr} {w_SNAPSHOT_CREATE : Addr} {w_SNAPSHOT_DELETE : Addr} {w_NIC_ATTACH : Addr} {w_NIC_DETACH : Addr} (hp : Perm Z w_PLATFORM_DEPLOY w_PLATFORM_DELETE w_SERVER_DEPLOY w_SERVER_START w_SERVER_STOP w_SERVER_DELETE w_DISK_ATTACH w_DISK_DETACH w_SNAPSHOT_CREATE w_SNAPSHOT_DELETE w_NIC_ATTACH w_NIC_DETACH) : w_SERVER_DEPLOY ≠ w_SERVER_DELETE := by
  obtain ⟨_, _, _, _, _, _, _, _, _, _, _, _, _, _, _, _, _, _, _, _, _, _, _, _, _, _, _, _, _, _, F_ordinal_w_SERVER_DEPLOY, _, _, _, _, F_ordinal_w_SERVER_DELETE⟩ := hp
  exact Fld.ne F_ordinal_w_SERVER_DEPLOY F_ordinal_w_SERVER_DELETE (by decide)
theorem ne_w_SERVER_STOP_w_SNAPSHOT_CREATE {Z : State} {w_PLATFORM_DEPLOY : Addr} {w_PLATFORM_DELETE : Addr} {w_SERVER_DEPLOY : Addr} {w_SERVER_START : Addr} {w_SERVER_STOP : Addr} {w_SERVER_DELETE : Addr} {w_DISK_ATTACH : Addr} {w_DISK_DETACH : Addr} {w_SNAPSHOT_CREATE : Addr} {w_SNAPSHOT_DELETE : Addr} {w_NIC_ATTACH : Addr} {w_NIC_DETACH : Addr} (hp : Perm Z w_PLATFORM_DEPLOY w_PLATFORM_DELETE w_SERVER_DEPLOY w_SERVER_START w_SERVER_STOP w_SERVER_DELETE w_DISK_ATTACH w_DISK_DETACH w_SNAPSHOT_CREATE w_SNAPSHOT_DELETE w_NIC_ATTACH w_NIC_DETACH) : w_SERVER_STOP ≠ w_SNAPSHOT_CREATE := by
  obtain ⟨_, _, _, _, _, _, _, _, _, _, _, _, _, _, _, _, _, _, _, _, _, _, _, _, _, _, _, _, _, _, _, F_ordinal_w_SERVER_STOP, F_ordinal_w_SNAPSHOT_CREATE, _, _, _⟩ := hp
  exact Fld.ne F_ordinal_w_SERVER_STOP F_ordinal_w_SNAPSHOT_CREATE (by decide)
theorem ne_w_SERVER_STOP_w_PLATFORM_DELETE {Z : State} {w_PLATFORM_DEPLOY : Addr} {w_PLATFORM_DELETE : Addr} {w_SERVER_DEPLOY : Addr} {w_SERVER_START : Addr} {w_SERVER_STOP : Addr} {w_SERVER_DELETE : Addr} {w_DISK_ATTACH : Addr} {w_DISK_DETACH : Addr} {w_SNAPSHOT_CREATE : Addr} {w_SNAPSHOT_DELETE : Addr} {w_NIC_ATTACH : Addr} {w_NIC_DETACH : Addr} (hp : Perm Z w_PLATFORM_DEPLOY w_PLATFORM_DELETE w_SERVER_DEPLOY w_SERVER_START w_SERVER_STOP w_SERVER_DELETE w_DISK_ATTACH w_DISK_DETACH w_SNAPSHOT_CREATE w_SNAPSHOT_DELETE w_NIC_ATTACH w_NIC_DETACH) : w_SERVER_STOP ≠ w_PLATFORM_DELETE := by
  obtain ⟨_, _, _, _, _, _, _, _, _, _, _, _, _, _, _, _, _, _, _, _, _, _, _, _, _, _, _, _, _, _, _, F_ordinal_w_SERVER_STOP, _, F_ordinal_w_PLATFORM_DELETE, _, _⟩ := hp
  exact Fld.ne F_ordinal_w_SERVER_STOP F_ordinal_w_PLATFORM_DELETE (by decide)
theorem ne_w_SERVER_STOP_w_SNAPSHOT_DELETE {Z : State} {w_PLATFORM_DEPLOY : Addr} {w_PLATFORM_DELETE : Addr} {w_SERVER_DEPLOY : Addr} {w_SERVER_START : Addr} {w_SERVER_STOP : Addr} {w_SERVER_DELETE : Addr} {w_DISK_ATTACH : Addr} {w_DISK_DETACH : Addr} {w_SNAPSHOT_CREATE : Addr} {w_SNAPSHOT_DELETE : Addr} {w_NIC_ATTACH : Addr} {w_NIC_DETACH : Addr} (hp : Perm Z w_PLATFORM_DEPLOY w_PLATFORM_DELETE w_SERVER_DEPLOY w_SERVER_START w_SERVER_STOP w_SERVER_DELETE w_DISK_ATTACH w_DISK_DETACH w_SNAPSHOT_CREATE w_SNAPSHOT_DELETE w_NIC_ATTACH w_NIC_DETACH) : w_SERVER_STOP ≠ w_SNAPSHOT_DELETE := by
  obtain ⟨_, _, _, _, _, _, _, _, _, _, _, _, _, _, _, _, _, _, _, _, _, _, _, _, _, _, _, _, _, _, _, F_ordinal_w_SERVER_STOP, _, _, F_ordinal_w_SNAPSHOT_DELETE, _⟩ := hp
  exact Fld.ne F_ordinal_w_SERVER_STOP F_ordinal_w_SNAPSHOT_DELETE (by decide)
theorem ne_w_SERVER_STOP_w_SERVER_DELETE {Z : State} {w_PLATFORM_DEPLOY : Addr} {w_PLATFORM_DELETE : Addr} {w_SERVER_DEPLOY : Addr} {w_SERVER_START : Addr} {w_SERVER_STOP : Addr} {w_SERVER_DELETE : Addr} {w_DISK_ATTACH : Addr} {w_DISK_DETACH : Addr} {w_SNAPSHOT_CREATE : Addr} {w_SNAPSHOT_DELETE : Addr} {w_NIC_ATTACH : Addr} {w_NIC_DETACH : Addr} (hp : Perm Z w_PLATFORM_DEPLOY w_PLATFORM_DELETE w_SERVER_DEPLOY w_SERVER_START w_SERVER_STOP w_SERVER_DELETE w_DISK_ATTACH w_DISK_DETACH w_SNAPSHOT_CREATE w_SNAPSHOT_DELETE w_NIC_ATTACH w_NIC_DETACH) : w_SERVER_STOP ≠ w_SERVER_DELETE := by
  obtain ⟨_, _, _, _, _, _, _, _, _, _, _, _, _, _, _, _, _, _, _, _, _, _, _, _, _, _, _, _, _, _, _, F_ordinal_w_SERVER_STOP, _, _, _, F_ordinal_w_SERVER_DELETE⟩ := hp
  exact Fld.ne F_ordinal_w_SERVER_STOP F_ordinal_w_SERVER_DELETE (by decide)
theorem ne_w_SNAPSHOT_CREATE_w_PLATFORM_DELETE {Z : State} {w_PLATFORM_DEPLOY : Addr} {w_PLATFORM_DELETE : Addr} {w_SERVER_DEPLOY : Addr} {w_SERVER_START : Addr} {w_SERVER_STOP : Addr} {w_SERVER_DELETE : Addr} {w_DISK_ATTACH : Addr} {w_DISK_DETACH : Addr} {w_SNAPSHOT_CREATE : Addr} {w_SNAPSHOT_DELETE : Addr} {w_NIC_ATTACH : Addr} {w_NIC_DETACH : Addr} (hp : Perm Z w_PLATFORM_DEPLOY w_PLATFORM_DELETE w_SERVER_DEPLOY w_SERVER_START w_SERVER_STOP w_SERVER_DELETE w_DISK_ATTACH w_DISK_DETACH w_SNAPSHOT_CREATE w_SNAPSHOT_DELETE w_NIC_ATTACH w_NIC_DETACH) : w_SNAPSHOT_CREATE ≠ w_PLATFORM_DELETE := by
  obtain ⟨_, _, _, _, _, _, _, _, _, _, _, _, _, _, _, _, _, _, _, _, _, _, _, _, _, _, _, _, _, _, _, _, F_ordinal_w_SNAPSHOT_CREATE, F_ordinal_w_PLATFORM_DELETE, _, _⟩ := hp
  exact Fld.ne F_ordinal_w_SNAPSHOT_CREATE F_ordinal_w_PLATFORM_DELETE (by decide)
theorem ne_w_SNAPSHOT_CREATE_w_SNAPSHOT_DELETE {Z : State} {w_PLATFORM_DEPLOY : Addr} {w_PLATFORM_DELETE : Addr} {w_SERVER_DEPLOY : Addr} {w_SERVER_START : Addr} {w_SERVER_STOP : Addr} {w_SERVER_DELETE : Addr} {w_DISK_ATTACH : Addr} {w_DISK_DETACH : Addr} {w_SNAPSHOT_CREATE : Addr} {w_SNAPSHOT_DELETE : Addr} {w_NIC_ATTACH : Addr} {w_NIC_DETACH : Addr} (hp : Perm Z w_PLATFORM_DEPLOY w_PLATFORM_DELETE w_SERVER_DEPLOY w_SERVER_START w_SERVER_STOP w_SERVER_DELETE w_DISK_ATTACH w_DISK_DETACH w_SNAPSHOT_CREATE w_SNAPSHOT_DELETE w_NIC_ATTACH w_NIC_DETACH) : w_SNAPSHOT_CREATE ≠ w_SNAPSHOT_DELETE := by
  obtain ⟨_, _, _, _, _, _, _, _, _, _, _, _, _, _, _, _, _, _, _, _, _, _, _, _, _, _, _, _, _, _, _, _, F_ordinal_w_SNAPSHOT_CREATE, _, F_ordinal_w_SNAPSHOT_DELETE, _⟩ := hp
  exact Fld.ne F_ordinal_w_SNAPSHOT_CREATE F_ordinal_w_SNAPSHOT_DELETE (by decide)
theorem ne_w_SNAPSHOT_CREATE_w_SERVER_DELETE {Z : State} {w_PLATFORM_DEPLOY : Addr} {w_PLATFORM_DELETE : Addr} {w_SERVER_DEPLOY : Addr} {w_SERVER_START : Addr} {w_SERVER_STOP : Addr} {w_SERVER_DELETE : Addr} {w_DISK_ATTACH : Addr} {w_DISK_DETACH : Addr} {w_SNAPSHOT_CREATE : Addr} {w_SNAPSHOT_DELETE : Addr} {w_NIC_ATTACH : Addr} {w_NIC_DETACH : Addr} (hp : Perm Z w_PLATFORM_DEPLOY w_PLATFORM_DELETE w_SERVER_DEPLOY w_SERVER_START w_SERVER_STOP w_SERVER_DELETE w_DISK_ATTACH w_DISK_DETACH w_SNAPSHOT_CREATE w_SNAPSHOT_DELETE w_NIC_ATTACH w_NIC_DETACH) : w_SNAPSHOT_CREATE ≠ w_SERVER_DELETE := by
  obtain ⟨_, _, _, _, _, _, _, _, _, _, _, _, _, _, _, _, _, _, _, _, _, _, _, _, _, _, _, _, _, _, _, _, F_ordinal_w_SNAPSHOT_CREATE, _, _, F_ordinal_w_SERVER_DELETE⟩ := hp
  exact Fld.ne F_ordinal_w_SNAPSHOT_CREATE F_ordinal_w_SERVER_DELETE (by decide)
theorem ne_w_PLATFORM_DELETE_w_SNAPSHOT_DELETE {Z : State} {w_PLATFORM_DEPLOY : Addr} {w_PLATFORM_DELETE : Addr} {w_SERVER_DEPLOY : Addr} {w_SERVER_START : Addr} {w_SERVER_STOP : Addr} {w_SERVER_DELETE : Addr} {w_DISK_ATTACH : Addr} {w_DISK_DETACH : Addr} {w_SNAPSHOT_CREATE : Addr} {w_SNAPSHOT_DELETE : Addr} {w_NIC_ATTACH : Addr} {w_NIC_DETACH : Addr} (hp : Perm Z w_PLATFORM_DEPLOY w_PLATFORM_DELETE w_SERVER_DEPLOY w_SERVER_START w_SERVER_STOP w_SERVER_DELETE w_DISK_ATTACH w_DISK_DETACH w_SNAPSHOT_CREATE w_SNAPSHOT_DELETE w_NIC_ATTACH w_NIC_DETACH) : w_PLATFORM_DELETE ≠ w_SNAPSHOT_DELETE := by
  obtain ⟨_, _, _, _, _, _, _, _, _, _, _, _, _, _, _, _, _, _, _, _, _, _, _, _, _, _, _, _, _, _, _, _, _, F_ordinal_w_PLATFORM_DELETE, F_ordinal_w_SNAPSHOT_DELETE, _⟩ := hp
  exact Fld.ne F_ordinal_w_PLATFORM_DELETE F_ordinal_w_SNAPSHOT_DELETE (by decide)
theorem ne_w_PLATFORM_DELETE_w_SERVER_DELETE {Z : State} {w_PLATFORM_DEPLOY : Addr} {w_PLATFORM_DELETE : Addr} {w_SERVER_DEPLOY : Addr} {w_SERVER_START : Addr} {w_SERVER_STOP : Addr} {w_SERVER_DELETE : Addr} {w_DISK_ATTACH : Addr} {w_DISK_DETACH : Addr} {w_SNAPSHOT_CREATE : Addr} {w_SNAPSHOT_DELETE : Addr} {w_NIC_ATTACH : Addr} {w_NIC_DETACH : Addr} (hp : Perm Z w_PLATFORM_DEPLOY w_PLATFORM_DELETE w_SERVER_DEPLOY w_SERVER_START w_SERVER_STOP w_SERVER_DELETE w_DISK_ATTACH w_DISK_DETACH w_SNAPSHOT_CREATE w_SNAPSHOT_DELETE w_NIC_ATTACH w_NIC_DETACH) : w_PLATFORM_DELETE ≠ w_SERVER_DELETE := by
  obtain ⟨_, _, _, _, _, _, _, _, _, _, _, _, _, _, _, _, _, _, _, _, _, _, _, _, _, _, _, _, _, _, _, _, _, F_ordinal_w_PLATFORM_DELETE, _, F_ordinal_w_SERVER_DELETE⟩ := hp
  exact Fld.ne F_ordinal_w_PLATFORM_DELETE F_ordinal_w_SERVER_DELETE (by decide)
theorem ne_w_SNAPSHOT_DELETE_w_SERVER_DELETE {Z : State} {w_PLATFORM_DEPLOY : Addr} {w_PLATFORM_DELETE : Addr} {w_SERVER_DEPLOY : Addr} {w_SERVER_START : Addr} {w_SERVER_STOP : Addr} {w_SERVER_DELETE : Addr} {w_DISK_ATTACH : Addr} {w_DISK_DETACH : Addr} {w_SNAPSHOT_CREATE : Addr} {w_SNAPSHOT_DELETE : Addr} {w_NIC_ATTACH : Addr} {w_NIC_DETACH : Addr} (hp : Perm Z w_PLATFORM_DEPLOY w_PLATFORM_DELETE w_SERVER_DEPLOY w_SERVER_START w_SERVER_STOP w_SERVER_DELETE w_DISK_ATTACH w_DISK_DETACH w_SNAPSHOT_CREATE w_SNAPSHOT_DELETE w_NIC_ATTACH w_NIC_DETACH) : w_SNAPSHOT_DELETE ≠ w_SERVER_DELETE := by
  obtain ⟨_, _, _, _, _, _, _, _, _, _, _, _, _, _, _, _, _, _, _, _, _, _, _, _, _, _, _, _, _, _, _, _, _, _, F_ordinal_w_SNAPSHOT_DELETE, F_ordinal_w_SERVER_DELETE⟩ := hp
  exact Fld.ne F_ordinal_w_SNAPSHOT_DELETE F_ordinal_w_SERVER_DELETE (by decide)
theorem d1_0 : decode prog_20_method_6_code 0 = .ok (.aload_n 0, 1) := by decide +kernel
theorem d1_1 : decode prog_20_method_6_code 1 = .ok (.getstatic 22, 3) := by decide +kernel
theorem d1_4 : decode prog_20_method_6_code 4 = .ok (.if_acmp .eq 24, 3) := by decide +kernel
theorem d1_7 : decode prog_20_method_6_code 7 = .ok (.aload_n 0, 1) := by decide +kernel
theorem d1_8 : decode prog_20_method_6_code 8 = .ok (.getstatic 25, 3) := by decide +kernel
theorem d1_11 : decode prog_20_method_6_code 11 = .ok (.if_acmp .eq 17, 3) := by decide +kernel
theorem d1_14 : decode prog_20_method_6_code 14 = .ok (.aload_n 0, 1) := by decide +kernel
theorem d1_15 : decode prog_20_method_6_code 15 = .ok (.getstatic 34, 3) := by decide +kernel
theorem d1_18 : decode prog_20_method_6_code 18 = .ok (.if_acmp .eq 10, 3) := by decide +kernel
theorem d1_21 : decode prog_20_method_6_code 21 = .ok (.aload_n 0, 1) := by decide +kernel
theorem d1_22 : decode prog_20_method_6_code 22 = .ok (.getstatic 37, 3) := by decide +kernel
theorem d1_25 : decode prog_20_method_6_code 25 = .ok (.if_acmp .ne 7, 3) := by decide +kernel
theorem d1_32 : decode prog_20_method_6_code 32 = .ok (.iconst 0, 1) := by decide +kernel
theorem d1_33 : decode prog_20_method_6_code 33 = .ok (.ireturn, 1) := by decide +kernel
abbrev y0 : MethodName := (⟨"com/example/ratebook/ratebook/model/EventType", "isAttachmentEvent", "()Z"⟩ : MethodName)
theorem ef_1_0 (m : MethodId) (x0 : Addr) : entryFrame m #[(.ref x0)] 1 = mkF m 0 #[.val (.ref x0)] [] := by first | (simp [entryFrame, mkF, argsToLocals, Value.category]; done) | rfl
theorem pn_1 : plainName "com/example/ratebook/ratebook/model/EventType" = true := by first | (simp [plainName, overriddenIn]; done) | decide +kernel
def Q1 (Z : State) (w_PLATFORM_DEPLOY : Addr) (w_PLATFORM_DELETE : Addr) (w_SERVER_DEPLOY : Addr) (w_SERVER_START : Addr) (w_SERVER_STOP : Addr) (w_SERVER_DELETE : Addr) (w_DISK_ATTACH : Addr) (w_DISK_DETACH : Addr) (w_SNAPSHOT_CREATE : Addr) (w_SNAPSHOT_DELETE : Addr) (w_NIC_ATTACH : Addr) (w_NIC_DETACH : Addr) (h0 : Heap) (n0 : Nat) (v : Option Value) (h : Heap) (L : List Loc) : Prop := v = some (.int (0 : Int32)) ∧ Fr n0 L ∧ h = h0
set_option maxRecDepth 65536 in
set_option maxHeartbeats 40000000 in
theorem rm1 (l : Launch) (Z : State) (a0 : Array Value) (hw : ∀ d ∈ tables_1, d.before a0 Z = true) (ws : List Jvm.Cond) (w_PLATFORM_DEPLOY w_PLATFORM_DELETE w_SERVER_DEPLOY w_SERVER_START w_SERVER_STOP w_SERVER_DELETE w_DISK_ATTACH w_DISK_DETACH w_SNAPSHOT_CREATE w_SNAPSHOT_DELETE w_NIC_ATTACH w_NIC_DETACH : Addr) (hp : Perm Z w_PLATFORM_DEPLOY w_PLATFORM_DELETE w_SERVER_DEPLOY w_SERVER_START w_SERVER_STOP w_SERVER_DELETE w_DISK_ATTACH w_DISK_DETACH w_SNAPSHOT_CREATE w_SNAPSHOT_DELETE w_NIC_ATTACH w_NIC_DETACH) (h0 : Heap) (n0 : Nat) (O0 : Old Z n0 h0) :
    MetFree l y0 (head1 (Jvm.Cond.code y0 prog_20_method_6_code 1 (some .boolean) :: ws) ({ frames := 0, cells := 0, slots := 0, locals := 0 } : Room)) (fun a U => a = #[(.ref w_PLATFORM_DEPLOY)] ∧ Z.Warmed39 U.vm ∧ U.heap = h0) (fun _ _ _ _ _ => True) (fun _ U o U' => ∃ v L, o = .returned v ∧ Q1 Z w_PLATFORM_DEPLOY w_PLATFORM_DELETE w_SERVER_DEPLOY w_SERVER_START w_SERVER_STOP w_SERVER_DELETE w_DISK_ATTACH w_DISK_DETACH w_SNAPSHOT_CREATE w_SNAPSHOT_DELETE w_NIC_ATTACH w_NIC_DETACH  h0 n0 v U'.heap L ∧ FrameEnd U o U' L ({ frames := 0, cells := 0, slots := 0, locals := 0 } : Room).cells ({ frames := 0, cells := 0, slots := 0, locals := 0 } : Room).slots) := by
  refine MetFree.of_bodySF (plainFor_of_name pn_1) hisR ?_
  intro p e s m args below meth c s₁ Bd hml0 hP hK
  obtain ⟨rfl, hZ, hh⟩ := hP
  have hx := Bd.exec
  have hby := Bd.bytes
  have hml : c.maxLocals = 1 := hml0
  have hown : s.vm.findClass "com/example/ratebook/ratebook/model/EventType" = some m.cls := findClass_of_methodNamed Bd.named
  have hnm := (name_of_methodNamed Bd.named Bd.method).1
  have X0 : Stand p l e ({ frames := 0, cells := 0, slots := 0, locals := 0 } : Room) s m #[(.ref w_PLATFORM_DEPLOY)] below meth c s₁ [] 0 0 := Stand.of_body Bd
  have e0 : s₁.heap = h0 := by rw [← hh, Bd.state]; rfl
  have N0 := Fr.nil n0
  have hp' := hp
  obtain ⟨S_w_PLATFORM_DEPLOY, E_w_PLATFORM_DEPLOY, S_w_PLATFORM_DELETE, E_w_PLATFORM_DELETE, S_w_SERVER_DEPLOY, E_w_SERVER_DEPLOY, S_w_SERVER_START, E_w_SERVER_START, S_w_SERVER_STOP, E_w_SERVER_STOP, S_w_SERVER_DELETE, E_w_SERVER_DELETE, S_w_DISK_ATTACH, E_w_DISK_ATTACH, S_w_DISK_DETACH, E_w_DISK_DETACH, S_w_SNAPSHOT_CREATE, E_w_SNAPSHOT_CREATE, S_w_SNAPSHOT_DELETE, E_w_SNAPSHOT_DELETE, S_w_NIC_ATTACH, E_w_NIC_ATTACH, S_w_NIC_DETACH, E_w_NIC_DETACH, F_ordinal_w_PLATFORM_DEPLOY, F_ordinal_w_DISK_ATTACH, F_ordinal_w_DISK_DETACH, F_ordinal_w_NIC_ATTACH, F_ordinal_w_NIC_DETACH, F_ordinal_w_SERVER_START, F_ordinal_w_SERVER_DEPLOY, F_ordinal_w_SERVER_STOP, F_ordinal_w_SNAPSHOT_CREATE, F_ordinal_w_PLATFORM_DELETE, F_ordinal_w_SNAPSHOT_DELETE, F_ordinal_w_SERVER_DELETE⟩ := hp'
  have pre0 : ∀ t, Steps p.tables e below (s₁.setTop (mkF m 0 #[.val (.ref w_PLATFORM_DEPLOY)] [])) t → Steps p.tables e below (s₁.setTop (entryFrame m #[(.ref w_PLATFORM_DEPLOY)] 1)) t := fun t k => castTop (ef_1_0 m w_PLATFORM_DEPLOY) k
  obtain ⟨T1, X1, e1, st1⟩ := getS2 X0 hx hZ hown (host := "") (Or.inl (hw _ (List.mem_of_getElem? (i := 34) rfl))) Via.refl e0 (S_w_DISK_ATTACH.ext O0.2) (g := (mkF m 1 #[.val (.ref w_PLATFORM_DEPLOY)] [(.ref w_PLATFORM_DEPLOY)])) rfl (hb hby d1_1)
  obtain ⟨T2, X2, e2, st2⟩ := getS2 X1 hx hZ hown (host := "") (Or.inl (hw _ (List.mem_of_getElem? (i := 35) rfl))) Via.refl e1 (S_w_DISK_DETACH.ext O0.2) (g := (mkF m 8 #[.val (.ref w_PLATFORM_DEPLOY)] [(.ref w_PLATFORM_DEPLOY)])) rfl (hb hby d1_8)
  obtain ⟨T3, X3, e3, st3⟩ := getS2 X2 hx hZ hown (host := "") (Or.inl (hw _ (List.mem_of_getElem? (i := 36) rfl))) Via.refl e2 (S_w_NIC_ATTACH.ext O0.2) (g := (mkF m 15 #[.val (.ref w_PLATFORM_DEPLOY)] [(.ref w_PLATFORM_DEPLOY)])) rfl (hb hby d1_15)
  obtain ⟨T4, X4, e4, st4⟩ := getS2 X3 hx hZ hown (host := "") (Or.inl (hw _ (List.mem_of_getElem? (i := 37) rfl))) Via.refl e3 (S_w_NIC_DETACH.ext O0.2) (g := (mkF m 22 #[.val (.ref w_PLATFORM_DEPLOY)] [(.ref w_PLATFORM_DEPLOY)])) rfl (hb hby d1_22)
  obtain ⟨fs, hr, hrun, hended, hW, hsame⟩ := X4.leave (v := some (.int (0 : Int32))) (fun h => by rw [Bd.returns] at h; cases h)
  refine ⟨_, _, pre0 _ ?_, hrun, hended, _, _, rfl, ?_, ⟨_, rfl⟩, hW, hsame.mono (by decide) (by decide)⟩
  · show Sp p e below s₁ (mkF m 0 #[.val (.ref w_PLATFORM_DEPLOY)] []) _
    refine XS.aloadN X0.here hx rfl (hb hby d1_0) rfl rfl ?_
    show Sp p e below s₁ (mkF m 1 #[.val (.ref w_PLATFORM_DEPLOY)] [(.ref w_PLATFORM_DEPLOY)]) _
    refine st1 _ ?_
    show Sp p e below T1 (mkF m 4 #[.val (.ref w_PLATFORM_DEPLOY)] [(.ref w_DISK_ATTACH), (.ref w_PLATFORM_DEPLOY)]) _
    refine Jvm.RoadKit.acmp (g := (mkF m 4 #[.val (.ref w_PLATFORM_DEPLOY)] [(.ref w_DISK_ATTACH), (.ref w_PLATFORM_DEPLOY)])) X1 hx rfl rfl rfl (pc0 := 4) (pc' := 7) (same := false) rfl (hb hby d1_4) rfl (decide_eq_false fun q => (ne_w_PLATFORM_DEPLOY_w_DISK_ATTACH hp) (Value.ref.inj q)) (by decide) (by decide) ?_
    show Sp p e below T1 (mkF m 7 #[.val (.ref w_PLATFORM_DEPLOY)] []) _
    refine XS.aloadN X1.here hx rfl (hb hby d1_7) rfl rfl ?_
    show Sp p e below T1 (mkF m 8 #[.val (.ref w_PLATFORM_DEPLOY)] [(.ref w_PLATFORM_DEPLOY)]) _
    refine st2 _ ?_
    show Sp p e below T2 (mkF m 11 #[.val (.ref w_PLATFORM_DEPLOY)] [(.ref w_DISK_DETACH), (.ref w_PLATFORM_DEPLOY)]) _
    refine Jvm.RoadKit.acmp (g := (mkF m 11 #[.val (.ref w_PLATFORM_DEPLOY)] [(.ref w_DISK_DETACH), (.ref w_PLATFORM_DEPLOY)])) X2 hx rfl rfl rfl (pc0 := 11) (pc' := 14) (same := false) rfl (hb hby d1_11) rfl (decide_eq_false fun q => (ne_w_PLATFORM_DEPLOY_w_DISK_DETACH hp) (Value.ref.inj q)) (by decide) (by decide) ?_
    show Sp p e below T2 (mkF m 14 #[.val (.ref w_PLATFORM_DEPLOY)] []) _
    refine XS.aloadN X2.here hx rfl (hb hby d1_14) rfl rfl ?_
    show Sp p e below T2 (mkF m 15 #[.val (.ref w_PLATFORM_DEPLOY)] [(.ref w_PLATFORM_DEPLOY)]) _
    refine st3 _ ?_
    show Sp p e below T3 (mkF m 18 #[.val (.ref w_PLATFORM_DEPLOY)] [(.ref w_NIC_ATTACH), (.ref w_PLATFORM_DEPLOY)]) _
    refine Jvm.RoadKit.acmp (g := (mkF m 18 #[.val (.ref w_PLATFORM_DEPLOY)] [(.ref w_NIC_ATTACH), (.ref w_PLATFORM_DEPLOY)])) X3 hx rfl rfl rfl (pc0 := 18) (pc' := 21) (same := false) rfl (hb hby d1_18) rfl (decide_eq_false fun q => (ne_w_PLATFORM_DEPLOY_w_NIC_ATTACH hp) (Value.ref.inj q)) (by decide) (by decide) ?_
    show Sp p e below T3 (mkF m 21 #[.val (.ref w_PLATFORM_DEPLOY)] []) _
    refine XS.aloadN X3.here hx rfl (hb hby d1_21) rfl rfl ?_
    show Sp p e below T3 (mkF m 22 #[.val (.ref w_PLATFORM_DEPLOY)] [(.ref w_PLATFORM_DEPLOY)]) _
    refine st4 _ ?_
    show Sp p e below T4 (mkF m 25 #[.val (.ref w_PLATFORM_DEPLOY)] [(.ref w_NIC_DETACH), (.ref w_PLATFORM_DEPLOY)]) _
    refine Jvm.RoadKit.acmp (g := (mkF m 25 #[.val (.ref w_PLATFORM_DEPLOY)] [(.ref w_NIC_DETACH), (.ref w_PLATFORM_DEPLOY)])) X4 hx rfl rfl rfl (pc0 := 25) (pc' := 32) (same := false) rfl (hb hby d1_25) rfl (decide_eq_false fun q => (ne_w_PLATFORM_DEPLOY_w_NIC_DETACH hp) (Value.ref.inj q)) (by decide) (by decide) ?_
    show Sp p e below T4 (mkF m 32 #[.val (.ref w_PLATFORM_DEPLOY)] []) _
    refine XS.iconst X4.here hx rfl (hb hby d1_32) ?_
    show Sp p e below T4 (mkF m 33 #[.val (.ref w_PLATFORM_DEPLOY)] [(.int (0 : Int32))]) _
    exact retN X4 hx (t := .boolean) Bd.returns (by simp) (hb hby d1_33) hr
  · show Q1 Z w_PLATFORM_DEPLOY w_PLATFORM_DELETE w_SERVER_DEPLOY w_SERVER_START w_SERVER_STOP w_SERVER_DELETE w_DISK_ATTACH w_DISK_DETACH w_SNAPSHOT_CREATE w_SNAPSHOT_DELETE w_NIC_ATTACH w_NIC_DETACH  h0 n0 _ T4.heap _
    rw [e4]
    exact ⟨rfl, N0, rfl⟩
theorem pd_0 : parseMethodDescriptor "()Z" = some ⟨[], some .boolean⟩ := by decide +kernel
theorem ef_0_0 (m : MethodId) (x0 : Int32) : entryFrame m #[(.int x0)] maxLocals = mkF m 0 #[.val (.int x0), .unset, .unset, .unset, .unset] [] := by first | (simp [entryFrame, mkF, argsToLocals, Value.category, maxLocals]; done) | rfl
theorem pn_0 : plainName "com/example/ratebook/ratebook/model/EventTypeIsAttachmentEventPinLaw" = true := by first | (simp [plainName, overriddenIn]; done) | decide +kernel
set_option maxRecDepth 65536 in
set_option maxHeartbeats 40000000 in
theorem rm2 (l : Launch) (Z : State) (a0 : Array Value) (hw : ∀ d ∈ tables_1, d.before a0 Z = true) (ws : List Jvm.Cond) (w_PLATFORM_DEPLOY w_PLATFORM_DELETE w_SERVER_DEPLOY w_SERVER_START w_SERVER_STOP w_SERVER_DELETE w_DISK_ATTACH w_DISK_DETACH w_SNAPSHOT_CREATE w_SNAPSHOT_DELETE w_NIC_ATTACH w_NIC_DETACH : Addr) (hp : Perm Z w_PLATFORM_DEPLOY w_PLATFORM_DELETE w_SERVER_DEPLOY w_SERVER_START w_SERVER_STOP w_SERVER_DELETE w_DISK_ATTACH w_DISK_DETACH w_SNAPSHOT_CREATE w_SNAPSHOT_DELETE w_NIC_ATTACH w_NIC_DETACH) (p0 : Int32) (h0 : Heap) (n0 : Nat) (O0 : Old Z n0 h0) (hc1 : ((p0 &&& (2147483647 : Int32)) % (12 : Int32)) = (0 : Int32)) :
    MetFree l x (head1 (Jvm.Cond.code x code maxLocals ret :: ws) room_1) (fun a U => a = #[(.int p0)] ∧ Z.Warmed39 U.vm ∧ U.heap = h0) (fun _ _ _ _ _ => True) (fun _ U o U' => ∃ v L, o = .returned v ∧ (v = some (.int (1 : Int32)) ∧ Fr n0 L) ∧ FrameEnd U o U' L 16 128) := by
  refine MetFree.of_bodySF (plainFor_of_name pn_0) hisR ?_
  intro p e s m args below meth c s₁ Bd hml0 hP hK
  obtain ⟨rfl, hZ, hh⟩ := hP
  have hx := Bd.exec
  have hby := Bd.bytes
  have hml : c.maxLocals = 5 := hml0
  have hown : s.vm.findClass "com/example/ratebook/ratebook/model/EventTypeIsAttachmentEventPinLaw" = some m.cls := findClass_of_methodNamed Bd.named
  have hnm := (name_of_methodNamed Bd.named Bd.method).1
  have X0 : Stand p l e room_1 s m #[(.int p0)] below meth c s₁ [] 0 0 := Stand.of_body Bd
  have e0 : s₁.heap = h0 := by rw [← hh, Bd.state]; rfl
  have N0 := Fr.nil n0
  have hp' := hp
  obtain ⟨S_w_PLATFORM_DEPLOY, E_w_PLATFORM_DEPLOY, S_w_PLATFORM_DELETE, E_w_PLATFORM_DELETE, S_w_SERVER_DEPLOY, E_w_SERVER_DEPLOY, S_w_SERVER_START, E_w_SERVER_START, S_w_SERVER_STOP, E_w_SERVER_STOP, S_w_SERVER_DELETE, E_w_SERVER_DELETE, S_w_DISK_ATTACH, E_w_DISK_ATTACH, S_w_DISK_DETACH, E_w_DISK_DETACH, S_w_SNAPSHOT_CREATE, E_w_SNAPSHOT_CREATE, S_w_SNAPSHOT_DELETE, E_w_SNAPSHOT_DELETE, S_w_NIC_ATTACH, E_w_NIC_ATTACH, S_w_NIC_DETACH, E_w_NIC_DETACH, F_ordinal_w_PLATFORM_DEPLOY, F_ordinal_w_DISK_ATTACH, F_ordinal_w_DISK_DETACH, F_ordinal_w_NIC_ATTACH, F_ordinal_w_NIC_DETACH, F_ordinal_w_SERVER_START, F_ordinal_w_SERVER_DEPLOY, F_ordinal_w_SERVER_STOP, F_ordinal_w_SNAPSHOT_CREATE, F_ordinal_w_PLATFORM_DELETE, F_ordinal_w_SNAPSHOT_DELETE, F_ordinal_w_SERVER_DELETE⟩ := hp'
  have pre0 : ∀ t, Steps p.tables e below (s₁.setTop (mkF m 0 #[.val (.int p0), .unset, .unset, .unset, .unset] [])) t → Steps p.tables e below (s₁.setTop (entryFrame m #[(.int p0)] maxLocals)) t := fun t k => castTop (ef_0_0 m p0) k
  obtain ⟨T1, h1, k1, X1, e1, E1, A1, EA1, Ov1, st1⟩ := newRE X0 hx hZ hown (hw _ (List.mem_of_getElem? (i := 0) rfl)) (hw _ (List.mem_of_getElem? (i := 1) rfl)) e0 (g := (mkF m 2 #[.val (.int p0), .unset, .unset, .unset, .unset] [(.int (12 : Int32))])) rfl (hb hby at_2) rfl (by decide) (cap := 12) (by decide) (by decide) (by decide) (by decide) (ad := "[Lcom/example/ratebook/ratebook/model/EventType;") (by decide)
  obtain ⟨b1, g1⟩ : ∃ z, z = h0.size := ⟨_, rfl⟩
  rw [← g1] at A1 EA1 st1
  have g_b1 : n0 ≤ b1 := Nat.le_trans (own_sz O0) (Nat.le_of_eq g1.symm)
  have sz_b1 : h0.size ≤ b1 := Nat.le_trans (Keep.refl h0 []).1 (Nat.le_of_eq g1.symm)
  have O1 := O0.ext E1
  have K1 : Keep h0 h1 [] := (Keep.refl h0 []).ext E1
  have V_b1 : Arv Z h1 b1 k1 (.object "com/example/ratebook/ratebook/model/EventType") (12 : Int32) [.null, .null, .null, .null, .null, .null, .null, .null, .null, .null, .null, .null] .null := (Arv.new A1 (by decide)).pad (pad_rep [] .null 12)
  obtain ⟨T2, X2, e2, st2⟩ := getS2 X1 hx hZ hown (host := "") (Or.inl (hw _ (List.mem_of_getElem? (i := 2) rfl))) Via.refl e1 (S_w_PLATFORM_DEPLOY.ext O1.2) (g := (mkF m 7 #[.val (.int p0), .unset, .unset, .unset, .unset] [(.int (0 : Int32)), (.ref b1), (.ref b1)])) rfl (hb hby at_7)
  obtain ⟨cl3, Ar3, q3, S3, Nn3, H3, G3⟩ := V_b1
  have hin3 : ¬ ((0 : Int32) < 0 ∨ cl3.slots.size ≤ ((0 : Int32)).toNatClampNeg) := inb_of S3 ⟨by decide, by decide⟩
  obtain ⟨T4, h4, X4, e4, W4, st4⟩ := stR X2 hx hZ e2 Ar3 (j := (0 : Int32)) hin3 rfl (Sto.ofV Ar3 q3 Ov1 (Ins.self (E_w_PLATFORM_DEPLOY.ext O1.2))) (g := (mkF m 10 #[.val (.int p0), .unset, .unset, .unset, .unset] [(.ref w_PLATFORM_DEPLOY), (.int (0 : Int32)), (.ref b1), (.ref b1)])) rfl rfl (hb hby at_10)
  have N4 := Fr.snoc X4 N0 g_b1
  have O4 := O1.wr W4 g_b1
  have K4 : Keep h0 h4 [] := K1.wr W4 (Or.inr sz_b1)
  have V_b1_4 : Arv Z h4 b1 k1 (.object "com/example/ratebook/ratebook/model/EventType") (12 : Int32) [(.ref w_PLATFORM_DEPLOY), .null, .null, .null, .null, .null, .null, .null, .null, .null, .null, .null] .null := Arv.set Ar3 q3 S3 Nn3 H3 G3 rfl W4 0 rfl (Nat.le_of_ble_eq_true rfl)
  obtain ⟨T5, X5, e5, st5⟩ := getS2 X4 hx hZ hown (host := "") (Or.inl (hw _ (List.mem_of_getElem? (i := 6) rfl))) Via.refl e4 (S_w_PLATFORM_DELETE.ext O4.2) (g := (mkF m 13 #[.val (.int p0), .unset, .unset, .unset, .unset] [(.int (1 : Int32)), (.ref b1), (.ref b1)])) rfl (hb hby at_13)
  obtain ⟨cl6, Ar6, q6, S6, Nn6, H6, G6⟩ := V_b1_4
  have hin6 : ¬ ((1 : Int32) < 0 ∨ cl6.slots.size ≤ ((1 : Int32)).toNatClampNeg) := inb_of S6 ⟨by decide, by decide⟩
  obtain ⟨T7, h7, X7, e7, W7, st7⟩ := stR X5 hx hZ e5 Ar6 (j := (1 : Int32)) hin6 rfl (Sto.ofV Ar6 q6 Ov1 (Ins.self (E_w_PLATFORM_DELETE.ext O4.2))) (g := (mkF m 16 #[.val (.int p0), .unset, .unset, .unset, .unset] [(.ref w_PLATFORM_DELETE), (.int (1 : Int32)), (.ref b1), (.ref b1)])) rfl rfl (hb hby at_16)
  have N7 := Fr.snoc X7 N4 g_b1
  have O7 := O4.wr W7 g_b1
  have K7 : Keep h0 h7 [] := K4.wr W7 (Or.inr sz_b1)
  have V_b1_7 : Arv Z h7 b1 k1 (.object "com/example/ratebook/ratebook/model/EventType") (12 : Int32) [(.ref w_PLATFORM_DEPLOY), (.ref w_PLATFORM_DELETE), .null, .null, .null, .null, .null, .null, .null, .null, .null, .null] .null := Arv.set Ar6 q6 S6 Nn6 H6 G6 rfl W7 1 rfl (Nat.le_of_ble_eq_true rfl)
  obtain ⟨T8, X8, e8, st8⟩ := getS2 X7 hx hZ hown (host := "") (Or.inl (hw _ (List.mem_of_getElem? (i := 8) rfl))) Via.refl e7 (S_w_SERVER_DEPLOY.ext O7.2) (g := (mkF m 19 #[.val (.int p0), .unset, .unset, .unset, .unset] [(.int (2 : Int32)), (.ref b1), (.ref b1)])) rfl (hb hby at_19)
  obtain ⟨cl9, Ar9, q9, S9, Nn9, H9, G9⟩ := V_b1_7
  have hin9 : ¬ ((2 : Int32) < 0 ∨ cl9.slots.size ≤ ((2 : Int32)).toNatClampNeg) := inb_of S9 ⟨by decide, by decide⟩
  obtain ⟨T10, h10, X10, e10, W10, st10⟩ := stR X8 hx hZ e8 Ar9 (j := (2 : Int32)) hin9 rfl (Sto.ofV Ar9 q9 Ov1 (Ins.self (E_w_SERVER_DEPLOY.ext O7.2))) (g := (mkF m 22 #[.val (.int p0), .unset, .unset, .unset, .unset] [(.ref w_SERVER_DEPLOY), (.int (2 : Int32)), (.ref b1), (.ref b1)])) rfl rfl (hb hby at_22)
  have N10 := Fr.snoc X10 N7 g_b1
  have O10 := O7.wr W10 g_b1
  have K10 : Keep h0 h10 [] := K7.wr W10 (Or.inr sz_b1)
  have V_b1_10 : Arv Z h10 b1 k1 (.object "com/example/ratebook/ratebook/model/EventType") (12 : Int32) [(.ref w_PLATFORM_DEPLOY), (.ref w_PLATFORM_DELETE), (.ref w_SERVER_DEPLOY), .null, .null, .null, .null, .null, .null, .null, .null, .null] .null := Arv.set Ar9 q9 S9 Nn9 H9 G9 rfl W10 2 rfl (Nat.le_of_ble_eq_true rfl)
  obtain ⟨T11, X11, e11, st11⟩ := getS2 X10 hx hZ hown (host := "") (Or.inl (hw _ (List.mem_of_getElem? (i := 10) rfl))) Via.refl e10 (S_w_SERVER_START.ext O10.2) (g := (mkF m 25 #[.val (.int p0), .unset, .unset, .unset, .unset] [(.int (3 : Int32)), (.ref b1), (.ref b1)])) rfl (hb hby at_25)
  obtain ⟨cl12, Ar12, q12, S12, Nn12, H12, G12⟩ := V_b1_10
  have hin12 : ¬ ((3 : Int32) < 0 ∨ cl12.slots.size ≤ ((3 : Int32)).toNatClampNeg) := inb_of S12 ⟨by decide, by decide⟩
  obtain ⟨T13, h13, X13, e13, W13, st13⟩ := stR X11 hx hZ e11 Ar12 (j := (3 : Int32)) hin12 rfl (Sto.ofV Ar12 q12 Ov1 (Ins.self (E_w_SERVER_START.ext O10.2))) (g := (mkF m 28 #[.val (.int p0), .unset, .unset, .unset, .unset] [(.ref w_SERVER_START), (.int (3 : Int32)), (.ref b1), (.ref b1)])) rfl rfl (hb hby at_28)
  have N13 := Fr.snoc X13 N10 g_b1
  have O13 := O10.wr W13 g_b1
  have K13 : Keep h0 h13 [] := K10.wr W13 (Or.inr sz_b1)
  have V_b1_13 : Arv Z h13 b1 k1 (.object "com/example/ratebook/ratebook/model/EventType") (12 : Int32) [(.ref w_PLATFORM_DEPLOY), (.ref w_PLATFORM_DELETE), (.ref w_SERVER_DEPLOY), (.ref w_SERVER_START), .null, .null, .null, .null, .null, .null, .null, .null] .null := Arv.set Ar12 q12 S12 Nn12 H12 G12 rfl W13 3 rfl (Nat.le_of_ble_eq_true rfl)
  obtain ⟨T14, X14, e14, st14⟩ := getS2 X13 hx hZ hown (host := "") (Or.inl (hw _ (List.mem_of_getElem? (i := 12) rfl))) Via.refl e13 (S_w_SERVER_STOP.ext O13.2) (g := (mkF m 31 #[.val (.int p0), .unset, .unset, .unset, .unset] [(.int (4 : Int32)), (.ref b1), (.ref b1)])) rfl (hb hby at_31)
  obtain ⟨cl15, Ar15, q15, S15, Nn15, H15, G15⟩ := V_b1_13
  have hin15 : ¬ ((4 : Int32) < 0 ∨ cl15.slots.size ≤ ((4 : Int32)).toNatClampNeg) := inb_of S15 ⟨by decide, by decide⟩
  obtain ⟨T16, h16, X16, e16, W16, st16⟩ := stR X14 hx hZ e14 Ar15 (j := (4 : Int32)) hin15 rfl (Sto.ofV Ar15 q15 Ov1 (Ins.self (E_w_SERVER_STOP.ext O13.2))) (g := (mkF m 34 #[.val (.int p0), .unset, .unset, .unset, .unset] [(.ref w_SERVER_STOP), (.int (4 : Int32)), (.ref b1), (.ref b1)])) rfl rfl (hb hby at_34)
  have N16 := Fr.snoc X16 N13 g_b1
  have O16 := O13.wr W16 g_b1
  have K16 : Keep h0 h16 [] := K13.wr W16 (Or.inr sz_b1)
  have V_b1_16 : Arv Z h16 b1 k1 (.object "com/example/ratebook/ratebook/model/EventType") (12 : Int32) [(.ref w_PLATFORM_DEPLOY), (.ref w_PLATFORM_DELETE), (.ref w_SERVER_DEPLOY), (.ref w_SERVER_START), (.ref w_SERVER_STOP), .null, .null, .null, .null, .null, .null, .null] .null := Arv.set Ar15 q15 S15 Nn15 H15 G15 rfl W16 4 rfl (Nat.le_of_ble_eq_true rfl)
  obtain ⟨T17, X17, e17, st17⟩ := getS2 X16 hx hZ hown (host := "") (Or.inl (hw _ (List.mem_of_getElem? (i := 14) rfl))) Via.refl e16 (S_w_SERVER_DELETE.ext O16.2) (g := (mkF m 37 #[.val (.int p0), .unset, .unset, .unset, .unset] [(.int (5 : Int32)), (.ref b1), (.ref b1)])) rfl (hb hby at_37)
  obtain ⟨cl18, Ar18, q18, S18, Nn18, H18, G18⟩ := V_b1_16
  have hin18 : ¬ ((5 : Int32) < 0 ∨ cl18.slots.size ≤ ((5 : Int32)).toNatClampNeg) := inb_of S18 ⟨by decide, by decide⟩
  obtain ⟨T19, h19, X19, e19, W19, st19⟩ := stR X17 hx hZ e17 Ar18 (j := (5 : Int32)) hin18 rfl (Sto.ofV Ar18 q18 Ov1 (Ins.self (E_w_SERVER_DELETE.ext O16.2))) (g := (mkF m 40 #[.val (.int p0), .unset, .unset, .unset, .unset] [(.ref w_SERVER_DELETE), (.int (5 : Int32)), (.ref b1), (.ref b1)])) rfl rfl (hb hby at_40)
  have N19 := Fr.snoc X19 N16 g_b1
  have O19 := O16.wr W19 g_b1
  have K19 : Keep h0 h19 [] := K16.wr W19 (Or.inr sz_b1)
  have V_b1_19 : Arv Z h19 b1 k1 (.object "com/example/ratebook/ratebook/model/EventType") (12 : Int32) [(.ref w_PLATFORM_DEPLOY), (.ref w_PLATFORM_DELETE), (.ref w_SERVER_DEPLOY), (.ref w_SERVER_START), (.ref w_SERVER_STOP), (.ref w_SERVER_DELETE), .null, .null, .null, .null, .null, .null] .null := Arv.set Ar18 q18 S18 Nn18 H18 G18 rfl W19 5 rfl (Nat.le_of_ble_eq_true rfl)
  obtain ⟨T20, X20, e20, st20⟩ := getS2 X19 hx hZ hown (host := "") (Or.inl (hw _ (List.mem_of_getElem? (i := 16) rfl))) Via.refl e19 (S_w_DISK_ATTACH.ext O19.2) (g := (mkF m 44 #[.val (.int p0), .unset, .unset, .unset, .unset] [(.int (6 : Int32)), (.ref b1), (.ref b1)])) rfl (hb hby at_44)
  obtain ⟨cl21, Ar21, q21, S21, Nn21, H21, G21⟩ := V_b1_19
  have hin21 : ¬ ((6 : Int32) < 0 ∨ cl21.slots.size ≤ ((6 : Int32)).toNatClampNeg) := inb_of S21 ⟨by decide, by decide⟩
  obtain ⟨T22, h22, X22, e22, W22, st22⟩ := stR X20 hx hZ e20 Ar21 (j := (6 : Int32)) hin21 rfl (Sto.ofV Ar21 q21 Ov1 (Ins.self (E_w_DISK_ATTACH.ext O19.2))) (g := (mkF m 47 #[.val (.int p0), .unset, .unset, .unset, .unset] [(.ref w_DISK_ATTACH), (.int (6 : Int32)), (.ref b1), (.ref b1)])) rfl rfl (hb hby at_47)
  have N22 := Fr.snoc X22 N19 g_b1
  have O22 := O19.wr W22 g_b1
  have K22 : Keep h0 h22 [] := K19.wr W22 (Or.inr sz_b1)
  have V_b1_22 : Arv Z h22 b1 k1 (.object "com/example/ratebook/ratebook/model/EventType") (12 : Int32) [(.ref w_PLATFORM_DEPLOY), (.ref w_PLATFORM_DELETE), (.ref w_SERVER_DEPLOY), (.ref w_SERVER_START), (.ref w_SERVER_STOP), (.ref w_SERVER_DELETE), (.ref w_DISK_ATTACH), .null, .null, .null, .null, .null] .null := Arv.set Ar21 q21 S21 Nn21 H21 G21 rfl W22 6 rfl (Nat.le_of_ble_eq_true rfl)
  obtain ⟨T23, X23, e23, st23⟩ := getS2 X22 hx hZ hown (host := "") (Or.inl (hw _ (List.mem_of_getElem? (i := 18) rfl))) Via.refl e22 (S_w_DISK_DETACH.ext O22.2) (g := (mkF m 51 #[.val (.int p0), .unset, .unset, .unset, .unset] [(.int (7 : Int32)), (.ref b1), (.ref b1)])) rfl (hb hby at_51)
  obtain ⟨cl24, Ar24, q24, S24, Nn24, H24, G24⟩ := V_b1_22
  have hin24 : ¬ ((7 : Int32) < 0 ∨ cl24.slots.size ≤ ((7 : Int32)).toNatClampNeg) := inb_of S24 ⟨by decide, by decide⟩
  obtain ⟨T25, h25, X25, e25, W25, st25⟩ := stR X23 hx hZ e23 Ar24 (j := (7 : Int32)) hin24 rfl (Sto.ofV Ar24 q24 Ov1 (Ins.self (E_w_DISK_DETACH.ext O22.2))) (g := (mkF m 54 #[.val (.int p0), .unset, .unset, .unset, .unset] [(.ref w_DISK_DETACH), (.int (7 : Int32)), (.ref b1), (.ref b1)])) rfl rfl (hb hby at_54)
  have N25 := Fr.snoc X25 N22 g_b1
  have O25 := O22.wr W25 g_b1
  have K25 : Keep h0 h25 [] := K22.wr W25 (Or.inr sz_b1)
  have V_b1_25 : Arv Z h25 b1 k1 (.object "com/example/ratebook/ratebook/model/EventType") (12 : Int32) [(.ref w_PLATFORM_DEPLOY), (.ref w_PLATFORM_DELETE), (.ref w_SERVER_DEPLOY), (.ref w_SERVER_START), (.ref w_SERVER_STOP), (.ref w_SERVER_DELETE), (.ref w_DISK_ATTACH), (.ref w_DISK_DETACH), .null, .null, .null, .null] .null := Arv.set Ar24 q24 S24 Nn24 H24 G24 rfl W25 7 rfl (Nat.le_of_ble_eq_true rfl)
  obtain ⟨T26, X26, e26, st26⟩ := getS2 X25 hx hZ hown (host := "") (Or.inl (hw _ (List.mem_of_getElem? (i := 20) rfl))) Via.refl e25 (S_w_SNAPSHOT_CREATE.ext O25.2) (g := (mkF m 58 #[.val (.int p0), .unset, .unset, .unset, .unset] [(.int (8 : Int32)), (.ref b1), (.ref b1)])) rfl (hb hby at_58)
  obtain ⟨cl27, Ar27, q27, S27, Nn27, H27, G27⟩ := V_b1_25
  have hin27 : ¬ ((8 : Int32) < 0 ∨ cl27.slots.size ≤ ((8 : Int32)).toNatClampNeg) := inb_of S27 ⟨by decide, by decide⟩
  obtain ⟨T28, h28, X28, e28, W28, st28⟩ := stR X26 hx hZ e26 Ar27 (j := (8 : Int32)) hin27 rfl (Sto.ofV Ar27 q27 Ov1 (Ins.self (E_w_SNAPSHOT_CREATE.ext O25.2))) (g := (mkF m 61 #[.val (.int p0), .unset, .unset, .unset, .unset] [(.ref w_SNAPSHOT_CREATE), (.int (8 : Int32)), (.ref b1), (.ref b1)])) rfl rfl (hb hby at_61)
  have N28 := Fr.snoc X28 N25 g_b1
  have O28 := O25.wr W28 g_b1
  have K28 : Keep h0 h28 [] := K25.wr W28 (Or.inr sz_b1)
  have V_b1_28 : Arv Z h28 b1 k1 (.object "com/example/ratebook/ratebook/model/EventType") (12 : Int32) [(.ref w_PLATFORM_DEPLOY), (.ref w_PLATFORM_DELETE), (.ref w_SERVER_DEPLOY), (.ref w_SERVER_START), (.ref w_SERVER_STOP), (.ref w_SERVER_DELETE), (.ref w_DISK_ATTACH), (.ref w_DISK_DETACH), (.ref w_SNAPSHOT_CREATE), .null, .null, .null] .null := Arv.set Ar27 q27 S27 Nn27 H27 G27 rfl W28 8 rfl (Nat.le_of_ble_eq_true rfl)
  obtain ⟨T29, X29, e29, st29⟩ := getS2 X28 hx hZ hown (host := "") (Or.inl (hw _ (List.mem_of_getElem? (i := 22) rfl))) Via.refl e28 (S_w_SNAPSHOT_DELETE.ext O28.2) (g := (mkF m 65 #[.val (.int p0), .unset, .unset, .unset, .unset] [(.int (9 : Int32)), (.ref b1), (.ref b1)])) rfl (hb hby at_65)
  obtain ⟨cl30, Ar30, q30, S30, Nn30, H30, G30⟩ := V_b1_28
  have hin30 : ¬ ((9 : Int32) < 0 ∨ cl30.slots.size ≤ ((9 : Int32)).toNatClampNeg) := inb_of S30 ⟨by decide, by decide⟩
  obtain ⟨T31, h31, X31, e31, W31, st31⟩ := stR X29 hx hZ e29 Ar30 (j := (9 : Int32)) hin30 rfl (Sto.ofV Ar30 q30 Ov1 (Ins.self (E_w_SNAPSHOT_DELETE.ext O28.2))) (g := (mkF m 68 #[.val (.int p0), .unset, .unset, .unset, .unset] [(.ref w_SNAPSHOT_DELETE), (.int (9 : Int32)), (.ref b1), (.ref b1)])) rfl rfl (hb hby at_68)
  have N31 := Fr.snoc X31 N28 g_b1
  have O31 := O28.wr W31 g_b1
  have K31 : Keep h0 h31 [] := K28.wr W31 (Or.inr sz_b1)
  have V_b1_31 : Arv Z h31 b1 k1 (.object "com/example/ratebook/ratebook/model/EventType") (12 : Int32) [(.ref w_PLATFORM_DEPLOY), (.ref w_PLATFORM_DELETE), (.ref w_SERVER_DEPLOY), (.ref w_SERVER_START), (.ref w_SERVER_STOP), (.ref w_SERVER_DELETE), (.ref w_DISK_ATTACH), (.ref w_DISK_DETACH), (.ref w_SNAPSHOT_CREATE), (.ref w_SNAPSHOT_DELETE), .null, .null] .null := Arv.set Ar30 q30 S30 Nn30 H30 G30 rfl W31 9 rfl (Nat.le_of_ble_eq_true rfl)
  obtain ⟨T32, X32, e32, st32⟩ := getS2 X31 hx hZ hown (host := "") (Or.inl (hw _ (List.mem_of_getElem? (i := 24) rfl))) Via.refl e31 (S_w_NIC_ATTACH.ext O31.2) (g := (mkF m 72 #[.val (.int p0), .unset, .unset, .unset, .unset] [(.int (10 : Int32)), (.ref b1), (.ref b1)])) rfl (hb hby at_72)
  obtain ⟨cl33, Ar33, q33, S33, Nn33, H33, G33⟩ := V_b1_31
  have hin33 : ¬ ((10 : Int32) < 0 ∨ cl33.slots.size ≤ ((10 : Int32)).toNatClampNeg) := inb_of S33 ⟨by decide, by decide⟩
  obtain ⟨T34, h34, X34, e34, W34, st34⟩ := stR X32 hx hZ e32 Ar33 (j := (10 : Int32)) hin33 rfl (Sto.ofV Ar33 q33 Ov1 (Ins.self (E_w_NIC_ATTACH.ext O31.2))) (g := (mkF m 75 #[.val (.int p0), .unset, .unset, .unset, .unset] [(.ref w_NIC_ATTACH), (.int (10 : Int32)), (.ref b1), (.ref b1)])) rfl rfl (hb hby at_75)
  have N34 := Fr.snoc X34 N31 g_b1
  have O34 := O31.wr W34 g_b1
  have K34 : Keep h0 h34 [] := K31.wr W34 (Or.inr sz_b1)
  have V_b1_34 : Arv Z h34 b1 k1 (.object "com/example/ratebook/ratebook/model/EventType") (12 : Int32) [(.ref w_PLATFORM_DEPLOY), (.ref w_PLATFORM_DELETE), (.ref w_SERVER_DEPLOY), (.ref w_SERVER_START), (.ref w_SERVER_STOP), (.ref w_SERVER_DELETE), (.ref w_DISK_ATTACH), (.ref w_DISK_DETACH), (.ref w_SNAPSHOT_CREATE), (.ref w_SNAPSHOT_DELETE), (.ref w_NIC_ATTACH), .null] .null := Arv.set Ar33 q33 S33 Nn33 H33 G33 rfl W34 10 rfl (Nat.le_of_ble_eq_true rfl)
  obtain ⟨T35, X35, e35, st35⟩ := getS2 X34 hx hZ hown (host := "") (Or.inl (hw _ (List.mem_of_getElem? (i := 26) rfl))) Via.refl e34 (S_w_NIC_DETACH.ext O34.2) (g := (mkF m 79 #[.val (.int p0), .unset, .unset, .unset, .unset] [(.int (11 : Int32)), (.ref b1), (.ref b1)])) rfl (hb hby at_79)
  obtain ⟨cl36, Ar36, q36, S36, Nn36, H36, G36⟩ := V_b1_34
  have hin36 : ¬ ((11 : Int32) < 0 ∨ cl36.slots.size ≤ ((11 : Int32)).toNatClampNeg) := inb_of S36 ⟨by decide, by decide⟩
  obtain ⟨T37, h37, X37, e37, W37, st37⟩ := stR X35 hx hZ e35 Ar36 (j := (11 : Int32)) hin36 rfl (Sto.ofV Ar36 q36 Ov1 (Ins.self (E_w_NIC_DETACH.ext O34.2))) (g := (mkF m 82 #[.val (.int p0), .unset, .unset, .unset, .unset] [(.ref w_NIC_DETACH), (.int (11 : Int32)), (.ref b1), (.ref b1)])) rfl rfl (hb hby at_82)
  have N37 := Fr.snoc X37 N34 g_b1
  have O37 := O34.wr W37 g_b1
  have K37 : Keep h0 h37 [] := K34.wr W37 (Or.inr sz_b1)
  have V_b1_37 : Arv Z h37 b1 k1 (.object "com/example/ratebook/ratebook/model/EventType") (12 : Int32) [(.ref w_PLATFORM_DEPLOY), (.ref w_PLATFORM_DELETE), (.ref w_SERVER_DEPLOY), (.ref w_SERVER_START), (.ref w_SERVER_STOP), (.ref w_SERVER_DELETE), (.ref w_DISK_ATTACH), (.ref w_DISK_DETACH), (.ref w_SNAPSHOT_CREATE), (.ref w_SNAPSHOT_DELETE), (.ref w_NIC_ATTACH), (.ref w_NIC_DETACH)] .null := Arv.set Ar36 q36 S36 Nn36 H36 G36 rfl W37 11 rfl (Nat.le_of_ble_eq_true rfl)
  obtain ⟨cl38, Ar38, -, S38, -, H38, -⟩ := V_b1_37
  have hin38 : ¬ (((p0 &&& (2147483647 : Int32)) % (12 : Int32)) < 0 ∨ cl38.slots.size ≤ (((p0 &&& (2147483647 : Int32)) % (12 : Int32))).toNatClampNeg) := inb_of S38 (by rw [hc1]; decide)
  have hat38 : cl38.slots[(((p0 &&& (2147483647 : Int32)) % (12 : Int32))).toNatClampNeg]? = some (.ref w_PLATFORM_DEPLOY) := H38.at hin38 (by rw [hc1]; rfl)
  obtain ⟨cq39, kq39, q39a, q39b, q39c⟩ := isOf hZ e37 (E_w_PLATFORM_DEPLOY.ext O37.2)
  obtain ⟨_, _, ⟨T39, L39, k39, n39⟩, -, X39, ⟨Lc39, hQ39, l39, y39, z39⟩, st39⟩ := X37.virtualBack hx (y := y0) (z := y0) hown (mvT hZ (hw _ (List.mem_of_getElem? (i := 29) rfl))) (mvT hZ (hw _ (List.mem_of_getElem? (i := 30) rfl))) (notFace_of_selects (args := #[]) (mvT hZ (hw _ (List.mem_of_getElem? (i := 32) rfl)))) (mvT hZ (hw _ (List.mem_of_getElem? (i := 32) rfl))) (mvT hZ (hw _ (List.mem_of_getElem? (i := 31) rfl))) (by decide) (backOf (W := 0) (rm1 l Z a0 hw [] w_PLATFORM_DEPLOY w_PLATFORM_DELETE w_SERVER_DEPLOY w_SERVER_START w_SERVER_STOP w_SERVER_DELETE w_DISK_ATTACH w_DISK_DETACH w_SNAPSHOT_CREATE w_SNAPSHOT_DELETE w_NIC_ATTACH w_NIC_DETACH hp h37 n0 O37) hZ (hw _ (List.mem_of_getElem? (i := 33) rfl)) (hw _ (List.mem_of_getElem? (i := 3) rfl)) (by decide) (by decide)) q39a q39c (g := (mkF m 145 #[.val (.int p0), .val (.ref b1), .val (.int ((p0 &&& (2147483647 : Int32)) % (12 : Int32))), .val (.ref w_PLATFORM_DEPLOY), .val (.int (0 : Int32))] [(.ref w_PLATFORM_DEPLOY)])) rfl (by rw [hml]; rfl) (Steps.refl _) (argsL := []) (rest := []) (lenOf pd_0 rfl) rfl (by show 2 * 0 + _ ≤ _; exact Nat.le_of_eq rfl) (hb hby at_145) (fun _ _ => ⟨rfl, e37, (by decide : 1 + 0 ≤ _), (by decide : 12 + 0 ≤ _)⟩)
  dsimp only [Pt.U, Pt.locs, Pt.cells, Pt.slots] at X39 l39 y39 z39 st39 hQ39
  subst l39 y39 z39
  obtain ⟨rfl, Nq39, eq39⟩ := hQ39
  have N39 := Fr.app N37 Nq39
  obtain ⟨fs, hr, hrun, hended, hW, hsame⟩ := X39.leave (v := some (.int (1 : Int32))) (fun h => by rw [Bd.returns] at h; cases h)
  refine ⟨_, _, pre0 _ ?_, hrun, hended, _, _, rfl, ?_, ⟨_, rfl⟩, hW, hsame.mono (by decide) (by decide)⟩
  · show Sp p e below s₁ (mkF m 0 #[.val (.int p0), .unset, .unset, .unset, .unset] []) _
    refine XS.bipush X0.here hx rfl (hb hby at_0) ?_
    show Sp p e below s₁ (mkF m 2 #[.val (.int p0), .unset, .unset, .unset, .unset] [(.int (12 : Int32))]) _
    refine st1 _ ?_
    show Sp p e below T1 (mkF m 5 #[.val (.int p0), .unset, .unset, .unset, .unset] [(.ref b1)]) _
    refine XS.dup X1.here hx rfl (hb hby at_5) rfl rfl ?_
    show Sp p e below T1 (mkF m 6 #[.val (.int p0), .unset, .unset, .unset, .unset] [(.ref b1), (.ref b1)]) _
    refine XS.iconst X1.here hx rfl (hb hby at_6) ?_
    show Sp p e below T1 (mkF m 7 #[.val (.int p0), .unset, .unset, .unset, .unset] [(.int (0 : Int32)), (.ref b1), (.ref b1)]) _
    refine st2 _ ?_
    show Sp p e below T2 (mkF m 10 #[.val (.int p0), .unset, .unset, .unset, .unset] [(.ref w_PLATFORM_DEPLOY), (.int (0 : Int32)), (.ref b1), (.ref b1)]) _
    refine st4 _ ?_
    show Sp p e below T4 (mkF m 11 #[.val (.int p0), .unset, .unset, .unset, .unset] [(.ref b1)]) _
    refine XS.dup X4.here hx rfl (hb hby at_11) rfl rfl ?_
    show Sp p e below T4 (mkF m 12 #[.val (.int p0), .unset, .unset, .unset, .unset] [(.ref b1), (.ref b1)]) _
    refine XS.iconst X4.here hx rfl (hb hby at_12) ?_
    show Sp p e below T4 (mkF m 13 #[.val (.int p0), .unset, .unset, .unset, .unset] [(.int (1 : Int32)), (.ref b1), (.ref b1)]) _
    refine st5 _ ?_
    show Sp p e below T5 (mkF m 16 #[.val (.int p0), .unset, .unset, .unset, .unset] [(.ref w_PLATFORM_DELETE), (.int (1 : Int32)), (.ref b1), (.ref b1)]) _
    refine st7 _ ?_
    show Sp p e below T7 (mkF m 17 #[.val (.int p0), .unset, .unset, .unset, .unset] [(.ref b1)]) _
    refine XS.dup X7.here hx rfl (hb hby at_17) rfl rfl ?_
    show Sp p e below T7 (mkF m 18 #[.val (.int p0), .unset, .unset, .unset, .unset] [(.ref b1), (.ref b1)]) _
    refine XS.iconst X7.here hx rfl (hb hby at_18) ?_
    show Sp p e below T7 (mkF m 19 #[.val (.int p0), .unset, .unset, .unset, .unset] [(.int (2 : Int32)), (.ref b1), (.ref b1)]) _
    refine st8 _ ?_
    show Sp p e below T8 (mkF m 22 #[.val (.int p0), .unset, .unset, .unset, .unset] [(.ref w_SERVER_DEPLOY), (.int (2 : Int32)), (.ref b1), (.ref b1)]) _
    refine st10 _ ?_
    show Sp p e below T10 (mkF m 23 #[.val (.int p0), .unset, .unset, .unset, .unset] [(.ref b1)]) _
    refine XS.dup X10.here hx rfl (hb hby at_23) rfl rfl ?_
    show Sp p e below T10 (mkF m 24 #[.val (.int p0), .unset, .unset, .unset, .unset] [(.ref b1), (.ref b1)]) _
    refine XS.iconst X10.here hx rfl (hb hby at_24) ?_
    show Sp p e below T10 (mkF m 25 #[.val (.int p0), .unset, .unset, .unset, .unset] [(.int (3 : Int32)), (.ref b1), (.ref b1)]) _
    refine st11 _ ?_
    show Sp p e below T11 (mkF m 28 #[.val (.int p0), .unset, .unset, .unset, .unset] [(.ref w_SERVER_START), (.int (3 : Int32)), (.ref b1), (.ref b1)]) _
    refine st13 _ ?_
    show Sp p e below T13 (mkF m 29 #[.val (.int p0), .unset, .unset, .unset, .unset] [(.ref b1)]) _
    refine XS.dup X13.here hx rfl (hb hby at_29) rfl rfl ?_
    show Sp p e below T13 (mkF m 30 #[.val (.int p0), .unset, .unset, .unset, .unset] [(.ref b1), (.ref b1)]) _
    refine XS.iconst X13.here hx rfl (hb hby at_30) ?_
    show Sp p e below T13 (mkF m 31 #[.val (.int p0), .unset, .unset, .unset, .unset] [(.int (4 : Int32)), (.ref b1), (.ref b1)]) _
    refine st14 _ ?_
    show Sp p e below T14 (mkF m 34 #[.val (.int p0), .unset, .unset, .unset, .unset] [(.ref w_SERVER_STOP), (.int (4 : Int32)), (.ref b1), (.ref b1)]) _
    refine st16 _ ?_
    show Sp p e below T16 (mkF m 35 #[.val (.int p0), .unset, .unset, .unset, .unset] [(.ref b1)]) _
    refine XS.dup X16.here hx rfl (hb hby at_35) rfl rfl ?_
    show Sp p e below T16 (mkF m 36 #[.val (.int p0), .unset, .unset, .unset, .unset] [(.ref b1), (.ref b1)]) _
    refine XS.iconst X16.here hx rfl (hb hby at_36) ?_
    show Sp p e below T16 (mkF m 37 #[.val (.int p0), .unset, .unset, .unset, .unset] [(.int (5 : Int32)), (.ref b1), (.ref b1)]) _
    refine st17 _ ?_
    show Sp p e below T17 (mkF m 40 #[.val (.int p0), .unset, .unset, .unset, .unset] [(.ref w_SERVER_DELETE), (.int (5 : Int32)), (.ref b1), (.ref b1)]) _
    refine st19 _ ?_
    show Sp p e below T19 (mkF m 41 #[.val (.int p0), .unset, .unset, .unset, .unset] [(.ref b1)]) _
    refine XS.dup X19.here hx rfl (hb hby at_41) rfl rfl ?_
    show Sp p e below T19 (mkF m 42 #[.val (.int p0), .unset, .unset, .unset, .unset] [(.ref b1), (.ref b1)]) _
    refine XS.bipush X19.here hx rfl (hb hby at_42) ?_
    show Sp p e below T19 (mkF m 44 #[.val (.int p0), .unset, .unset, .unset, .unset] [(.int (6 : Int32)), (.ref b1), (.ref b1)]) _
    refine st20 _ ?_
    show Sp p e below T20 (mkF m 47 #[.val (.int p0), .unset, .unset, .unset, .unset] [(.ref w_DISK_ATTACH), (.int (6 : Int32)), (.ref b1), (.ref b1)]) _
    refine st22 _ ?_
    show Sp p e below T22 (mkF m 48 #[.val (.int p0), .unset, .unset, .unset, .unset] [(.ref b1)]) _
    refine XS.dup X22.here hx rfl (hb hby at_48) rfl rfl ?_
    show Sp p e below T22 (mkF m 49 #[.val (.int p0), .unset, .unset, .unset, .unset] [(.ref b1), (.ref b1)]) _
    refine XS.bipush X22.here hx rfl (hb hby at_49) ?_
    show Sp p e below T22 (mkF m 51 #[.val (.int p0), .unset, .unset, .unset, .unset] [(.int (7 : Int32)), (.ref b1), (.ref b1)]) _
    refine st23 _ ?_
    show Sp p e below T23 (mkF m 54 #[.val (.int p0), .unset, .unset, .unset, .unset] [(.ref w_DISK_DETACH), (.int (7 : Int32)), (.ref b1), (.ref b1)]) _
    refine st25 _ ?_
    show Sp p e below T25 (mkF m 55 #[.val (.int p0), .unset, .unset, .unset, .unset] [(.ref b1)]) _
    refine XS.dup X25.here hx rfl (hb hby at_55) rfl rfl ?_
    show Sp p e below T25 (mkF m 56 #[.val (.int p0), .unset, .unset, .unset, .unset] [(.ref b1), (.ref b1)]) _
    refine XS.bipush X25.here hx rfl (hb hby at_56) ?_
    show Sp p e below T25 (mkF m 58 #[.val (.int p0), .unset, .unset, .unset, .unset] [(.int (8 : Int32)), (.ref b1), (.ref b1)]) _
    refine st26 _ ?_
    show Sp p e below T26 (mkF m 61 #[.val (.int p0), .unset, .unset, .unset, .unset] [(.ref w_SNAPSHOT_CREATE), (.int (8 : Int32)), (.ref b1), (.ref b1)]) _
    refine st28 _ ?_
    show Sp p e below T28 (mkF m 62 #[.val (.int p0), .unset, .unset, .unset, .unset] [(.ref b1)]) _
    refine XS.dup X28.here hx rfl (hb hby at_62) rfl rfl ?_
    show Sp p e below T28 (mkF m 63 #[.val (.int p0), .unset, .unset, .unset, .unset] [(.ref b1), (.ref b1)]) _
    refine XS.bipush X28.here hx rfl (hb hby at_63) ?_
    show Sp p e below T28 (mkF m 65 #[.val (.int p0), .unset, .unset, .unset, .unset] [(.int (9 : Int32)), (.ref b1), (.ref b1)]) _
    refine st29 _ ?_
    show Sp p e below T29 (mkF m 68 #[.val (.int p0), .unset, .unset, .unset, .unset] [(.ref w_SNAPSHOT_DELETE), (.int (9 : Int32)), (.ref b1), (.ref b1)]) _
    refine st31 _ ?_
    show Sp p e below T31 (mkF m 69 #[.val (.int p0), .unset, .unset, .unset, .unset] [(.ref b1)]) _
    refine XS.dup X31.here hx rfl (hb hby at_69) rfl rfl ?_
    show Sp p e below T31 (mkF m 70 #[.val (.int p0), .unset, .unset, .unset, .unset] [(.ref b1), (.ref b1)]) _
    refine XS.bipush X31.here hx rfl (hb hby at_70) ?_
    show Sp p e below T31 (mkF m 72 #[.val (.int p0), .unset, .unset, .unset, .unset] [(.int (10 : Int32)), (.ref b1), (.ref b1)]) _
    refine st32 _ ?_
    show Sp p e below T32 (mkF m 75 #[.val (.int p0), .unset, .unset, .unset, .unset] [(.ref w_NIC_ATTACH), (.int (10 : Int32)), (.ref b1), (.ref b1)]) _
    refine st34 _ ?_
    show Sp p e below T34 (mkF m 76 #[.val (.int p0), .unset, .unset, .unset, .unset] [(.ref b1)]) _
    refine XS.dup X34.here hx rfl (hb hby at_76) rfl rfl ?_
    show Sp p e below T34 (mkF m 77 #[.val (.int p0), .unset, .unset, .unset, .unset] [(.ref b1), (.ref b1)]) _
    refine XS.bipush X34.here hx rfl (hb hby at_77) ?_
    show Sp p e below T34 (mkF m 79 #[.val (.int p0), .unset, .unset, .unset, .unset] [(.int (11 : Int32)), (.ref b1), (.ref b1)]) _
    refine st35 _ ?_
    show Sp p e below T35 (mkF m 82 #[.val (.int p0), .unset, .unset, .unset, .unset] [(.ref w_NIC_DETACH), (.int (11 : Int32)), (.ref b1), (.ref b1)]) _
    refine st37 _ ?_
    show Sp p e below T37 (mkF m 83 #[.val (.int p0), .unset, .unset, .unset, .unset] [(.ref b1)]) _
    refine XS.astoreN X37.here hx rfl (hb hby at_83) rfl rfl (l' := #[.val (.int p0), .val (.ref b1), .unset, .unset, .unset]) rfl ?_
    show Sp p e below T37 (mkF m 84 #[.val (.int p0), .val (.ref b1), .unset, .unset, .unset] []) _
    refine XS.iloadN X37.here hx rfl (hb hby at_84) rfl ?_
    show Sp p e below T37 (mkF m 85 #[.val (.int p0), .val (.ref b1), .unset, .unset, .unset] [(.int p0)]) _
    refine X37.ldcI hx hown (mvT hZ (hw _ (List.mem_of_getElem? (i := 28) rfl))) rfl (hb hby at_85) ?_
    show Sp p e below T37 (mkF m 87 #[.val (.int p0), .val (.ref b1), .unset, .unset, .unset] [(.int (2147483647 : Int32)), (.int p0)]) _
    refine XS.iand X37.here hx rfl (hb hby at_87) rfl ?_
    show Sp p e below T37 (mkF m 88 #[.val (.int p0), .val (.ref b1), .unset, .unset, .unset] [(.int (p0 &&& (2147483647 : Int32)))]) _
    refine XS.bipush X37.here hx rfl (hb hby at_88) ?_
    show Sp p e below T37 (mkF m 90 #[.val (.int p0), .val (.ref b1), .unset, .unset, .unset] [(.int (12 : Int32)), (.int (p0 &&& (2147483647 : Int32)))]) _
    refine iremM X37 hx rfl (hb hby at_90) rfl (by decide) ?_
    show Sp p e below T37 (mkF m 91 #[.val (.int p0), .val (.ref b1), .unset, .unset, .unset] [(.int ((p0 &&& (2147483647 : Int32)) % (12 : Int32)))]) _
    refine XS.istoreN X37.here hx rfl (hb hby at_91) rfl (l' := #[.val (.int p0), .val (.ref b1), .val (.int ((p0 &&& (2147483647 : Int32)) % (12 : Int32))), .unset, .unset]) rfl ?_
    show Sp p e below T37 (mkF m 92 #[.val (.int p0), .val (.ref b1), .val (.int ((p0 &&& (2147483647 : Int32)) % (12 : Int32))), .unset, .unset] []) _
    refine XS.aloadN X37.here hx rfl (hb hby at_92) rfl rfl ?_
    show Sp p e below T37 (mkF m 93 #[.val (.int p0), .val (.ref b1), .val (.int ((p0 &&& (2147483647 : Int32)) % (12 : Int32))), .unset, .unset] [(.ref b1)]) _
    refine XS.iloadN X37.here hx rfl (hb hby at_93) rfl ?_
    show Sp p e below T37 (mkF m 94 #[.val (.int p0), .val (.ref b1), .val (.int ((p0 &&& (2147483647 : Int32)) % (12 : Int32))), .unset, .unset] [(.int ((p0 &&& (2147483647 : Int32)) % (12 : Int32))), (.ref b1)]) _
    refine X37.aaload hx (j := ((p0 &&& (2147483647 : Int32)) % (12 : Int32))) (v := (.ref w_PLATFORM_DEPLOY)) (by rw [e37]; exact Ar38.1) (State.isArrayOf_alike hZ.alike Ar38.2.1) rfl Ar38.2.2 hin38 hat38 (g := (mkF m 94 #[.val (.int p0), .val (.ref b1), .val (.int ((p0 &&& (2147483647 : Int32)) % (12 : Int32))), .unset, .unset] [(.int ((p0 &&& (2147483647 : Int32)) % (12 : Int32))), (.ref b1)])) rfl rfl (hb hby at_94) _ ?_
    show Sp p e below T37 (mkF m 95 #[.val (.int p0), .val (.ref b1), .val (.int ((p0 &&& (2147483647 : Int32)) % (12 : Int32))), .unset, .unset] [(.ref w_PLATFORM_DEPLOY)]) _
    refine XS.astoreN X37.here hx rfl (hb hby at_95) rfl rfl (l' := #[.val (.int p0), .val (.ref b1), .val (.int ((p0 &&& (2147483647 : Int32)) % (12 : Int32))), .val (.ref w_PLATFORM_DEPLOY), .unset]) rfl ?_
    show Sp p e below T37 (mkF m 96 #[.val (.int p0), .val (.ref b1), .val (.int ((p0 &&& (2147483647 : Int32)) % (12 : Int32))), .val (.ref w_PLATFORM_DEPLOY), .unset] []) _
    refine XS.iconst X37.here hx rfl (hb hby at_96) ?_
    show Sp p e below T37 (mkF m 97 #[.val (.int p0), .val (.ref b1), .val (.int ((p0 &&& (2147483647 : Int32)) % (12 : Int32))), .val (.ref w_PLATFORM_DEPLOY), .unset] [(.int (0 : Int32))]) _
    refine XS.istore X37.here hx rfl (hb hby at_97) rfl (l' := #[.val (.int p0), .val (.ref b1), .val (.int ((p0 &&& (2147483647 : Int32)) % (12 : Int32))), .val (.ref w_PLATFORM_DEPLOY), .val (.int (0 : Int32))]) rfl ?_
    show Sp p e below T37 (mkF m 99 #[.val (.int p0), .val (.ref b1), .val (.int ((p0 &&& (2147483647 : Int32)) % (12 : Int32))), .val (.ref w_PLATFORM_DEPLOY), .val (.int (0 : Int32))] []) _
    refine XS.iloadN X37.here hx rfl (hb hby at_99) rfl ?_
    show Sp p e below T37 (mkF m 100 #[.val (.int p0), .val (.ref b1), .val (.int ((p0 &&& (2147483647 : Int32)) % (12 : Int32))), .val (.ref w_PLATFORM_DEPLOY), .val (.int (0 : Int32))] [(.int ((p0 &&& (2147483647 : Int32)) % (12 : Int32)))]) _
    refine XS.bipush X37.here hx rfl (hb hby at_100) ?_
    show Sp p e below T37 (mkF m 102 #[.val (.int p0), .val (.ref b1), .val (.int ((p0 &&& (2147483647 : Int32)) % (12 : Int32))), .val (.ref w_PLATFORM_DEPLOY), .val (.int (0 : Int32))] [(.int (6 : Int32)), (.int ((p0 &&& (2147483647 : Int32)) % (12 : Int32)))]) _
    refine XS.icmpYes X37.here hx rfl (pc0 := 102) (pc' := 111) rfl (hb hby at_102) rfl (feq (by rw [hc1]; decide : ¬ (((p0 &&& (2147483647 : Int32)) % (12 : Int32)) = (6 : Int32)))).2 (by decide) (by decide) ?_
    show Sp p e below T37 (mkF m 111 #[.val (.int p0), .val (.ref b1), .val (.int ((p0 &&& (2147483647 : Int32)) % (12 : Int32))), .val (.ref w_PLATFORM_DEPLOY), .val (.int (0 : Int32))] []) _
    refine XS.iloadN X37.here hx rfl (hb hby at_111) rfl ?_
    show Sp p e below T37 (mkF m 112 #[.val (.int p0), .val (.ref b1), .val (.int ((p0 &&& (2147483647 : Int32)) % (12 : Int32))), .val (.ref w_PLATFORM_DEPLOY), .val (.int (0 : Int32))] [(.int ((p0 &&& (2147483647 : Int32)) % (12 : Int32)))]) _
    refine XS.bipush X37.here hx rfl (hb hby at_112) ?_
    show Sp p e below T37 (mkF m 114 #[.val (.int p0), .val (.ref b1), .val (.int ((p0 &&& (2147483647 : Int32)) % (12 : Int32))), .val (.ref w_PLATFORM_DEPLOY), .val (.int (0 : Int32))] [(.int (7 : Int32)), (.int ((p0 &&& (2147483647 : Int32)) % (12 : Int32)))]) _
    refine XS.icmpYes X37.here hx rfl (pc0 := 114) (pc' := 123) rfl (hb hby at_114) rfl (feq (by rw [hc1]; decide : ¬ (((p0 &&& (2147483647 : Int32)) % (12 : Int32)) = (7 : Int32)))).2 (by decide) (by decide) ?_
    show Sp p e below T37 (mkF m 123 #[.val (.int p0), .val (.ref b1), .val (.int ((p0 &&& (2147483647 : Int32)) % (12 : Int32))), .val (.ref w_PLATFORM_DEPLOY), .val (.int (0 : Int32))] []) _
    refine XS.iloadN X37.here hx rfl (hb hby at_123) rfl ?_
    show Sp p e below T37 (mkF m 124 #[.val (.int p0), .val (.ref b1), .val (.int ((p0 &&& (2147483647 : Int32)) % (12 : Int32))), .val (.ref w_PLATFORM_DEPLOY), .val (.int (0 : Int32))] [(.int ((p0 &&& (2147483647 : Int32)) % (12 : Int32)))]) _
    refine XS.bipush X37.here hx rfl (hb hby at_124) ?_
    show Sp p e below T37 (mkF m 126 #[.val (.int p0), .val (.ref b1), .val (.int ((p0 &&& (2147483647 : Int32)) % (12 : Int32))), .val (.ref w_PLATFORM_DEPLOY), .val (.int (0 : Int32))] [(.int (10 : Int32)), (.int ((p0 &&& (2147483647 : Int32)) % (12 : Int32)))]) _
    refine XS.icmpYes X37.here hx rfl (pc0 := 126) (pc' := 135) rfl (hb hby at_126) rfl (feq (by rw [hc1]; decide : ¬ (((p0 &&& (2147483647 : Int32)) % (12 : Int32)) = (10 : Int32)))).2 (by decide) (by decide) ?_
    show Sp p e below T37 (mkF m 135 #[.val (.int p0), .val (.ref b1), .val (.int ((p0 &&& (2147483647 : Int32)) % (12 : Int32))), .val (.ref w_PLATFORM_DEPLOY), .val (.int (0 : Int32))] []) _
    refine XS.iloadN X37.here hx rfl (hb hby at_135) rfl ?_
    show Sp p e below T37 (mkF m 136 #[.val (.int p0), .val (.ref b1), .val (.int ((p0 &&& (2147483647 : Int32)) % (12 : Int32))), .val (.ref w_PLATFORM_DEPLOY), .val (.int (0 : Int32))] [(.int ((p0 &&& (2147483647 : Int32)) % (12 : Int32)))]) _
    refine XS.bipush X37.here hx rfl (hb hby at_136) ?_
    show Sp p e below T37 (mkF m 138 #[.val (.int p0), .val (.ref b1), .val (.int ((p0 &&& (2147483647 : Int32)) % (12 : Int32))), .val (.ref w_PLATFORM_DEPLOY), .val (.int (0 : Int32))] [(.int (11 : Int32)), (.int ((p0 &&& (2147483647 : Int32)) % (12 : Int32)))]) _
    refine XS.icmpYes X37.here hx rfl (pc0 := 138) (pc' := 144) rfl (hb hby at_138) rfl (feq (by rw [hc1]; decide : ¬ (((p0 &&& (2147483647 : Int32)) % (12 : Int32)) = (11 : Int32)))).2 (by decide) (by decide) ?_
    show Sp p e below T37 (mkF m 144 #[.val (.int p0), .val (.ref b1), .val (.int ((p0 &&& (2147483647 : Int32)) % (12 : Int32))), .val (.ref w_PLATFORM_DEPLOY), .val (.int (0 : Int32))] []) _
    refine XS.aloadN X37.here hx rfl (hb hby at_144) rfl rfl ?_
    show Sp p e below T37 (mkF m 145 #[.val (.int p0), .val (.ref b1), .val (.int ((p0 &&& (2147483647 : Int32)) % (12 : Int32))), .val (.ref w_PLATFORM_DEPLOY), .val (.int (0 : Int32))] [(.ref w_PLATFORM_DEPLOY)]) _
    refine st39.trans ?_
    show Sp p e below T39 (mkF m 148 #[.val (.int p0), .val (.ref b1), .val (.int ((p0 &&& (2147483647 : Int32)) % (12 : Int32))), .val (.ref w_PLATFORM_DEPLOY), .val (.int (0 : Int32))] [(.int (0 : Int32))]) _
    refine XS.iload X39.here hx rfl (hb hby at_148) rfl ?_
    show Sp p e below T39 (mkF m 150 #[.val (.int p0), .val (.ref b1), .val (.int ((p0 &&& (2147483647 : Int32)) % (12 : Int32))), .val (.ref w_PLATFORM_DEPLOY), .val (.int (0 : Int32))] [(.int (0 : Int32)), (.int (0 : Int32))]) _
    refine XS.icmpNo X39.here hx rfl (hb hby at_150) rfl (teq (by decide : (0 : Int32) = (0 : Int32))).2 ?_
    show Sp p e below T39 (mkF m 153 #[.val (.int p0), .val (.ref b1), .val (.int ((p0 &&& (2147483647 : Int32)) % (12 : Int32))), .val (.ref w_PLATFORM_DEPLOY), .val (.int (0 : Int32))] []) _
    refine XS.iconst X39.here hx rfl (hb hby at_153) ?_
    show Sp p e below T39 (mkF m 154 #[.val (.int p0), .val (.ref b1), .val (.int ((p0 &&& (2147483647 : Int32)) % (12 : Int32))), .val (.ref w_PLATFORM_DEPLOY), .val (.int (0 : Int32))] [(.int (1 : Int32))]) _
    refine XS.goto X39.here hx rfl (pc0 := 154) (pc' := 158) rfl (hb hby at_154) (by decide) (by decide) ?_
    show Sp p e below T39 (mkF m 158 #[.val (.int p0), .val (.ref b1), .val (.int ((p0 &&& (2147483647 : Int32)) % (12 : Int32))), .val (.ref w_PLATFORM_DEPLOY), .val (.int (0 : Int32))] [(.int (1 : Int32))]) _
    exact retN X39 hx (t := .boolean) Bd.returns (by simp) (hb hby at_158) hr
  · skip
    exact ⟨rfl, N39⟩
def Q3 (Z : State) (w_PLATFORM_DEPLOY : Addr) (w_PLATFORM_DELETE : Addr) (w_SERVER_DEPLOY : Addr) (w_SERVER_START : Addr) (w_SERVER_STOP : Addr) (w_SERVER_DELETE : Addr) (w_DISK_ATTACH : Addr) (w_DISK_DETACH : Addr) (w_SNAPSHOT_CREATE : Addr) (w_SNAPSHOT_DELETE : Addr) (w_NIC_ATTACH : Addr) (w_NIC_DETACH : Addr) (h0 : Heap) (n0 : Nat) (v : Option Value) (h : Heap) (L : List Loc) : Prop := v = some (.int (0 : Int32)) ∧ Fr n0 L ∧ h = h0
set_option maxRecDepth 65536 in
set_option maxHeartbeats 40000000 in
theorem rm3 (l : Launch) (Z : State) (a0 : Array Value) (hw : ∀ d ∈ tables_1, d.before a0 Z = true) (ws : List Jvm.Cond) (w_PLATFORM_DEPLOY w_PLATFORM_DELETE w_SERVER_DEPLOY w_SERVER_START w_SERVER_STOP w_SERVER_DELETE w_DISK_ATTACH w_DISK_DETACH w_SNAPSHOT_CREATE w_SNAPSHOT_DELETE w_NIC_ATTACH w_NIC_DETACH : Addr) (hp : Perm Z w_PLATFORM_DEPLOY w_PLATFORM_DELETE w_SERVER_DEPLOY w_SERVER_START w_SERVER_STOP w_SERVER_DELETE w_DISK_ATTACH w_DISK_DETACH w_SNAPSHOT_CREATE w_SNAPSHOT_DELETE w_NIC_ATTACH w_NIC_DETACH) (h0 : Heap) (n0 : Nat) (O0 : Old Z n0 h0) :
    MetFree l y0 (head1 (Jvm.Cond.code y0 prog_20_method_6_code 1 (some .boolean) :: ws) ({ frames := 0, cells := 0, slots := 0, locals := 0 } : Room)) (fun a U => a = #[(.ref w_PLATFORM_DELETE)] ∧ Z.Warmed39 U.vm ∧ U.heap = h0) (fun _ _ _ _ _ => True) (fun _ U o U' => ∃ v L, o = .returned v ∧ Q3 Z w_PLATFORM_DEPLOY w_PLATFORM_DELETE w_SERVER_DEPLOY w_SERVER_START w_SERVER_STOP w_SERVER_DELETE w_DISK_ATTACH w_DISK_DETACH w_SNAPSHOT_CREATE w_SNAPSHOT_DELETE w_NIC_ATTACH w_NIC_DETACH  h0 n0 v U'.heap L ∧ FrameEnd U o U' L ({ frames := 0, cells := 0, slots := 0, locals := 0 } : Room).cells ({ frames := 0, cells := 0, slots := 0, locals := 0 } : Room).slots) := by
  refine MetFree.of_bodySF (plainFor_of_name pn_1) hisR ?_
  intro p e s m args below meth c s₁ Bd hml0 hP hK
  obtain ⟨rfl, hZ, hh⟩ := hP
  have hx := Bd.exec
  have hby := Bd.bytes
  have hml : c.maxLocals = 1 := hml0
  have hown : s.vm.findClass "com/example/ratebook/ratebook/model/EventType" = some m.cls := findClass_of_methodNamed Bd.named
  have hnm := (name_of_methodNamed Bd.named Bd.method).1
  have X0 : Stand p l e ({ frames := 0, cells := 0, slots := 0, locals := 0 } : Room) s m #[(.ref w_PLATFORM_DELETE)] below meth c s₁ [] 0 0 := Stand.of_body Bd
  have e0 : s₁.heap = h0 := by rw [← hh, Bd.state]; rfl
  have N0 := Fr.nil n0
  have hp' := hp
  obtain ⟨S_w_PLATFORM_DEPLOY, E_w_PLATFORM_DEPLOY, S_w_PLATFORM_DELETE, E_w_PLATFORM_DELETE, S_w_SERVER_DEPLOY, E_w_SERVER_DEPLOY, S_w_SERVER_START, E_w_SERVER_START, S_w_SERVER_STOP, E_w_SERVER_STOP, S_w_SERVER_DELETE, E_w_SERVER_DELETE, S_w_DISK_ATTACH, E_w_DISK_ATTACH, S_w_DISK_DETACH, E_w_DISK_DETACH, S_w_SNAPSHOT_CREATE, E_w_SNAPSHOT_CREATE, S_w_SNAPSHOT_DELETE, E_w_SNAPSHOT_DELETE, S_w_NIC_ATTACH, E_w_NIC_ATTACH, S_w_NIC_DETACH, E_w_NIC_DETACH, F_ordinal_w_PLATFORM_DEPLOY, F_ordinal_w_DISK_ATTACH, F_ordinal_w_DISK_DETACH, F_ordinal_w_NIC_ATTACH, F_ordinal_w_NIC_DETACH, F_ordinal_w_SERVER_START, F_ordinal_w_SERVER_DEPLOY, F_ordinal_w_SERVER_STOP, F_ordinal_w_SNAPSHOT_CREATE, F_ordinal_w_PLATFORM_DELETE, F_ordinal_w_SNAPSHOT_DELETE, F_ordinal_w_SERVER_DELETE⟩ := hp'
  have pre0 : ∀ t, Steps p.tables e below (s₁.setTop (mkF m 0 #[.val (.ref w_PLATFORM_DELETE)] [])) t → Steps p.tables e below (s₁.setTop (entryFrame m #[(.ref w_PLATFORM_DELETE)] 1)) t := fun t k => castTop (ef_1_0 m w_PLATFORM_DELETE) k
  obtain ⟨T1, X1, e1, st1⟩ := getS2 X0 hx hZ hown (host := "") (Or.inl (hw _ (List.mem_of_getElem? (i := 34) rfl))) Via.refl e0 (S_w_DISK_ATTACH.ext O0.2) (g := (mkF m 1 #[.val (.ref w_PLATFORM_DELETE)] [(.ref w_PLATFORM_DELETE)])) rfl (hb hby d1_1)
  obtain ⟨T2, X2, e2, st2⟩ := getS2 X1 hx hZ hown (host := "") (Or.inl (hw _ (List.mem_of_getElem? (i := 35) rfl))) Via.refl e1 (S_w_DISK_DETACH.ext O0.2) (g := (mkF m 8 #[.val (.ref w_PLATFORM_DELETE)] [(.ref w_PLATFORM_DELETE)])) rfl (hb hby d1_8)
  obtain ⟨T3, X3, e3, st3⟩ := getS2 X2 hx hZ hown (host := "") (Or.inl (hw _ (List.mem_of_getElem? (i := 36) rfl))) Via.refl e2 (S_w_NIC_ATTACH.ext O0.2) (g := (mkF m 15 #[.val (.ref w_PLATFORM_DELETE)] [(.ref w_PLATFORM_DELETE)])) rfl (hb hby d1_15)
  obtain ⟨T4, X4, e4, st4⟩ := getS2 X3 hx hZ hown (host := "") (Or.inl (hw _ (List.mem_of_getElem? (i := 37) rfl))) Via.refl e3 (S_w_NIC_DETACH.ext O0.2) (g := (mkF m 22 #[.val (.ref w_PLATFORM_DELETE)] [(.ref w_PLATFORM_DELETE)])) rfl (hb hby d1_22)
  obtain ⟨fs, hr, hrun, hended, hW, hsame⟩ := X4.leave (v := some (.int (0 : Int32))) (fun h => by rw [Bd.returns] at h; cases h)
  refine ⟨_, _, pre0 _ ?_, hrun, hended, _, _, rfl, ?_, ⟨_, rfl⟩, hW, hsame.mono (by decide) (by decide)⟩
  · show Sp p e below s₁ (mkF m 0 #[.val (.ref w_PLATFORM_DELETE)] []) _
    refine XS.aloadN X0.here hx rfl (hb hby d1_0) rfl rfl ?_
    show Sp p e below s₁ (mkF m 1 #[.val (.ref w_PLATFORM_DELETE)] [(.ref w_PLATFORM_DELETE)]) _
    refine st1 _ ?_
    show Sp p e below T1 (mkF m 4 #[.val (.ref w_PLATFORM_DELETE)] [(.ref w_DISK_ATTACH), (.ref w_PLATFORM_DELETE)]) _
    refine Jvm.RoadKit.acmp (g := (mkF m 4 #[.val (.ref w_PLATFORM_DELETE)] [(.ref w_DISK_ATTACH), (.ref w_PLATFORM_DELETE)])) X1 hx rfl rfl rfl (pc0 := 4) (pc' := 7) (same := false) rfl (hb hby d1_4) rfl (decide_eq_false fun q => (Ne.symm (ne_w_DISK_ATTACH_w_PLATFORM_DELETE hp)) (Value.ref.inj q)) (by decide) (by decide) ?_
    show Sp p e below T1 (mkF m 7 #[.val (.ref w_PLATFORM_DELETE)] []) _
    refine XS.aloadN X1.here hx rfl (hb hby d1_7) rfl rfl ?_
    show Sp p e below T1 (mkF m 8 #[.val (.ref w_PLATFORM_DELETE)] [(.ref w_PLATFORM_DELETE)]) _
    refine st2 _ ?_
    show Sp p e below T2 (mkF m 11 #[.val (.ref w_PLATFORM_DELETE)] [(.ref w_DISK_DETACH), (.ref w_PLATFORM_DELETE)]) _
    refine Jvm.RoadKit.acmp (g := (mkF m 11 #[.val (.ref w_PLATFORM_DELETE)] [(.ref w_DISK_DETACH), (.ref w_PLATFORM_DELETE)])) X2 hx rfl rfl rfl (pc0 := 11) (pc' := 14) (same := false) rfl (hb hby d1_11) rfl (decide_eq_false fun q => (Ne.symm (ne_w_DISK_DETACH_w_PLATFORM_DELETE hp)) (Value.ref.inj q)) (by decide) (by decide) ?_
    show Sp p e below T2 (mkF m 14 #[.val (.ref w_PLATFORM_DELETE)] []) _
    refine XS.aloadN X2.here hx rfl (hb hby d1_14) rfl rfl ?_
    show Sp p e below T2 (mkF m 15 #[.val (.ref w_PLATFORM_DELETE)] [(.ref w_PLATFORM_DELETE)]) _
    refine st3 _ ?_
    show Sp p e below T3 (mkF m 18 #[.val (.ref w_PLATFORM_DELETE)] [(.ref w_NIC_ATTACH), (.ref w_PLATFORM_DELETE)]) _
    refine Jvm.RoadKit.acmp (g := (mkF m 18 #[.val (.ref w_PLATFORM_DELETE)] [(.ref w_NIC_ATTACH), (.ref w_PLATFORM_DELETE)])) X3 hx rfl rfl rfl (pc0 := 18) (pc' := 21) (same := false) rfl (hb hby d1_18) rfl (decide_eq_false fun q => (Ne.symm (ne_w_NIC_ATTACH_w_PLATFORM_DELETE hp)) (Value.ref.inj q)) (by decide) (by decide) ?_
    show Sp p e below T3 (mkF m 21 #[.val (.ref w_PLATFORM_DELETE)] []) _
    refine XS.aloadN X3.here hx rfl (hb hby d1_21) rfl rfl ?_
    show Sp p e below T3 (mkF m 22 #[.val (.ref w_PLATFORM_DELETE)] [(.ref w_PLATFORM_DELETE)]) _
    refine st4 _ ?_
    show Sp p e below T4 (mkF m 25 #[.val (.ref w_PLATFORM_DELETE)] [(.ref w_NIC_DETACH), (.ref w_PLATFORM_DELETE)]) _
    refine Jvm.RoadKit.acmp (g := (mkF m 25 #[.val (.ref w_PLATFORM_DELETE)] [(.ref w_NIC_DETACH), (.ref w_PLATFORM_DELETE)])) X4 hx rfl rfl rfl (pc0 := 25) (pc' := 32) (same := false) rfl (hb hby d1_25) rfl (decide_eq_false fun q => (Ne.symm (ne_w_NIC_DETACH_w_PLATFORM_DELETE hp)) (Value.ref.inj q)) (by decide) (by decide) ?_
    show Sp p e below T4 (mkF m 32 #[.val (.ref w_PLATFORM_DELETE)] []) _
    refine XS.iconst X4.here hx rfl (hb hby d1_32) ?_
    show Sp p e below T4 (mkF m 33 #[.val (.ref w_PLATFORM_DELETE)] [(.int (0 : Int32))]) _
    exact retN X4 hx (t := .boolean) Bd.returns (by simp) (hb hby d1_33) hr
  · show Q3 Z w_PLATFORM_DEPLOY w_PLATFORM_DELETE w_SERVER_DEPLOY w_SERVER_START w_SERVER_STOP w_SERVER_DELETE w_DISK_ATTACH w_DISK_DETACH w_SNAPSHOT_CREATE w_SNAPSHOT_DELETE w_NIC_ATTACH w_NIC_DETACH  h0 n0 _ T4.heap _
    rw [e4]
    exact ⟨rfl, N0, rfl⟩
set_option maxRecDepth 65536 in
set_option maxHeartbeats 40000000 in
theorem rm4 (l : Launch) (Z : State) (a0 : Array Value) (hw : ∀ d ∈ tables_1, d.before a0 Z = true) (ws : List Jvm.Cond) (w_PLATFORM_DEPLOY w_PLATFORM_DELETE w_SERVER_DEPLOY w_SERVER_START w_SERVER_STOP w_SERVER_DELETE w_DISK_ATTACH w_DISK_DETACH w_SNAPSHOT_CREATE w_SNAPSHOT_DELETE w_NIC_ATTACH w_NIC_DETACH : Addr) (hp : Perm Z w_PLATFORM_DEPLOY w_PLATFORM_DELETE w_SERVER_DEPLOY w_SERVER_START w_SERVER_STOP w_SERVER_DELETE w_DISK_ATTACH w_DISK_DETACH w_SNAPSHOT_CREATE w_SNAPSHOT_DELETE w_NIC_ATTACH w_NIC_DETACH) (p0 : Int32) (h0 : Heap) (n0 : Nat) (O0 : Old Z n0 h0) (hc1 : ¬ (((p0 &&& (2147483647 : Int32)) % (12 : Int32)) = (0 : Int32))) (hc2 : ((p0 &&& (2147483647 : Int32)) % (12 : Int32)) = (1 : Int32)) :
    MetFree l x (head1 (Jvm.Cond.code x code maxLocals ret :: ws) room_1) (fun a U => a = #[(.int p0)] ∧ Z.Warmed39 U.vm ∧ U.heap = h0) (fun _ _ _ _ _ => True) (fun _ U o U' => ∃ v L, o = .returned v ∧ (v = some (.int (1 : Int32)) ∧ Fr n0 L) ∧ FrameEnd U o U' L 16 128) := by
  refine MetFree.of_bodySF (plainFor_of_name pn_0) hisR ?_
  intro p e s m args below meth c s₁ Bd hml0 hP hK
  obtain ⟨rfl, hZ, hh⟩ := hP
  have hx := Bd.exec
  have hby := Bd.bytes
  have hml : c.maxLocals = 5 := hml0
  have hown : s.vm.findClass "com/example/ratebook/ratebook/model/EventTypeIsAttachmentEventPinLaw" = some m.cls := findClass_of_methodNamed Bd.named
  have hnm := (name_of_methodNamed Bd.named Bd.method).1
  have X0 : Stand p l e room_1 s m #[(.int p0)] below meth c s₁ [] 0 0 := Stand.of_body Bd
  have e0 : s₁.heap = h0 := by rw [← hh, Bd.state]; rfl
  have N0 := Fr.nil n0
  have hp' := hp
  obtain ⟨S_w_PLATFORM_DEPLOY, E_w_PLATFORM_DEPLOY, S_w_PLATFORM_DELETE, E_w_PLATFORM_DELETE, S_w_SERVER_DEPLOY, E_w_SERVER_DEPLOY, S_w_SERVER_START, E_w_SERVER_START, S_w_SERVER_STOP, E_w_SERVER_STOP, S_w_SERVER_DELETE, E_w_SERVER_DELETE, S_w_DISK_ATTACH, E_w_DISK_ATTACH, S_w_DISK_DETACH, E_w_DISK_DETACH, S_w_SNAPSHOT_CREATE, E_w_SNAPSHOT_CREATE, S_w_SNAPSHOT_DELETE, E_w_SNAPSHOT_DELETE, S_w_NIC_ATTACH, E_w_NIC_ATTACH, S_w_NIC_DETACH, E_w_NIC_DETACH, F_ordinal_w_PLATFORM_DEPLOY, F_ordinal_w_DISK_ATTACH, F_ordinal_w_DISK_DETACH, F_ordinal_w_NIC_ATTACH, F_ordinal_w_NIC_DETACH, F_ordinal_w_SERVER_START, F_ordinal_w_SERVER_DEPLOY, F_ordinal_w_SERVER_STOP, F_ordinal_w_SNAPSHOT_CREATE, F_ordinal_w_PLATFORM_DELETE, F_ordinal_w_SNAPSHOT_DELETE, F_ordinal_w_SERVER_DELETE⟩ := hp'
  have pre0 : ∀ t, Steps p.tables e below (s₁.setTop (mkF m 0 #[.val (.int p0), .unset, .unset, .unset, .unset] [])) t → Steps p.tables e below (s₁.setTop (entryFrame m #[(.int p0)] maxLocals)) t := fun t k => castTop (ef_0_0 m p0) k
  obtain ⟨T1, h1, k1, X1, e1, E1, A1, EA1, Ov1, st1⟩ := newRE X0 hx hZ hown (hw _ (List.mem_of_getElem? (i := 0) rfl)) (hw _ (List.mem_of_getElem? (i := 1) rfl)) e0 (g := (mkF m 2 #[.val (.int p0), .unset, .unset, .unset, .unset] [(.int (12 : Int32))])) rfl (hb hby at_2) rfl (by decide) (cap := 12) (by decide) (by decide) (by decide) (by decide) (ad := "[Lcom/example/ratebook/ratebook/model/EventType;") (by decide)
  obtain ⟨b1, g1⟩ : ∃ z, z = h0.size := ⟨_, rfl⟩
  rw [← g1] at A1 EA1 st1
  have g_b1 : n0 ≤ b1 := Nat.le_trans (own_sz O0) (Nat.le_of_eq g1.symm)
  have sz_b1 : h0.size ≤ b1 := Nat.le_trans (Keep.refl h0 []).1 (Nat.le_of_eq g1.symm)
  have O1 := O0.ext E1
  have K1 : Keep h0 h1 [] := (Keep.refl h0 []).ext E1
  have V_b1 : Arv Z h1 b1 k1 (.object "com/example/ratebook/ratebook/model/EventType") (12 : Int32) [.null, .null, .null, .null, .null, .null, .null, .null, .null, .null, .null, .null] .null := (Arv.new A1 (by decide)).pad (pad_rep [] .null 12)
  obtain ⟨T2, X2, e2, st2⟩ := getS2 X1 hx hZ hown (host := "") (Or.inl (hw _ (List.mem_of_getElem? (i := 2) rfl))) Via.refl e1 (S_w_PLATFORM_DEPLOY.ext O1.2) (g := (mkF m 7 #[.val (.int p0), .unset, .unset, .unset, .unset] [(.int (0 : Int32)), (.ref b1), (.ref b1)])) rfl (hb hby at_7)
  obtain ⟨cl3, Ar3, q3, S3, Nn3, H3, G3⟩ := V_b1
  have hin3 : ¬ ((0 : Int32) < 0 ∨ cl3.slots.size ≤ ((0 : Int32)).toNatClampNeg) := inb_of S3 ⟨by decide, by decide⟩
  obtain ⟨T4, h4, X4, e4, W4, st4⟩ := stR X2 hx hZ e2 Ar3 (j := (0 : Int32)) hin3 rfl (Sto.ofV Ar3 q3 Ov1 (Ins.self (E_w_PLATFORM_DEPLOY.ext O1.2))) (g := (mkF m 10 #[.val (.int p0), .unset, .unset, .unset, .unset] [(.ref w_PLATFORM_DEPLOY), (.int (0 : Int32)), (.ref b1), (.ref b1)])) rfl rfl (hb hby at_10)
  have N4 := Fr.snoc X4 N0 g_b1
  have O4 := O1.wr W4 g_b1
  have K4 : Keep h0 h4 [] := K1.wr W4 (Or.inr sz_b1)
  have V_b1_4 : Arv Z h4 b1 k1 (.object "com/example/ratebook/ratebook/model/EventType") (12 : Int32) [(.ref w_PLATFORM_DEPLOY), .null, .null, .null, .null, .null, .null, .null, .null, .null, .null, .null] .null := Arv.set Ar3 q3 S3 Nn3 H3 G3 rfl W4 0 rfl (Nat.le_of_ble_eq_true rfl)
  obtain ⟨T5, X5, e5, st5⟩ := getS2 X4 hx hZ hown (host := "") (Or.inl (hw _ (List.mem_of_getElem? (i := 6) rfl))) Via.refl e4 (S_w_PLATFORM_DELETE.ext O4.2) (g := (mkF m 13 #[.val (.int p0), .unset, .unset, .unset, .unset] [(.int (1 : Int32)), (.ref b1), (.ref b1)])) rfl (hb hby at_13)
  obtain ⟨cl6, Ar6, q6, S6, Nn6, H6, G6⟩ := V_b1_4
  have hin6 : ¬ ((1 : Int32) < 0 ∨ cl6.slots.size ≤ ((1 : Int32)).toNatClampNeg) := inb_of S6 ⟨by decide, by decide⟩
  obtain ⟨T7, h7, X7, e7, W7, st7⟩ := stR X5 hx hZ e5 Ar6 (j := (1 : Int32)) hin6 rfl (Sto.ofV Ar6 q6 Ov1 (Ins.self (E_w_PLATFORM_DELETE.ext O4.2))) (g := (mkF m 16 #[.val (.int p0), .unset, .unset, .unset, .unset] [(.ref w_PLATFORM_DELETE), (.int (1 : Int32)), (.ref b1), (.ref b1)])) rfl rfl (hb hby at_16)
  have N7 := Fr.snoc X7 N4 g_b1
  have O7 := O4.wr W7 g_b1
  have K7 : Keep h0 h7 [] := K4.wr W7 (Or.inr sz_b1)
  have V_b1_7 : Arv Z h7 b1 k1 (.object "com/example/ratebook/ratebook/model/EventType") (12 : Int32) [(.ref w_PLATFORM_DEPLOY), (.ref w_PLATFORM_DELETE), .null, .null, .null, .null, .null, .null, .null, .null, .null, .null] .null := Arv.set Ar6 q6 S6 Nn6 H6 G6 rfl W7 1 rfl (Nat.le_of_ble_eq_true rfl)
  obtain ⟨T8, X8, e8, st8⟩ := getS2 X7 hx hZ hown (host := "") (Or.inl (hw _ (List.mem_of_getElem? (i := 8) rfl))) Via.refl e7 (S_w_SERVER_DEPLOY.ext O7.2) (g := (mkF m 19 #[.val (.int p0), .unset, .unset, .unset, .unset] [(.int (2 : Int32)), (.ref b1), (.ref b1)])) rfl (hb hby at_19)
  obtain ⟨cl9, Ar9, q9, S9, Nn9, H9, G9⟩ := V_b1_7
  have hin9 : ¬ ((2 : Int32) < 0 ∨ cl9.slots.size ≤ ((2 : Int32)).toNatClampNeg) := inb_of S9 ⟨by decide, by decide⟩
  obtain ⟨T10, h10, X10, e10, W10, st10⟩ := stR X8 hx hZ e8 Ar9 (j := (2 : Int32)) hin9 rfl (Sto.ofV Ar9 q9 Ov1 (Ins.self (E_w_SERVER_DEPLOY.ext O7.2))) (g := (mkF m 22 #[.val (.int p0), .unset, .unset, .unset, .unset] [(.ref w_SERVER_DEPLOY), (.int (2 : Int32)), (.ref b1), (.ref b1)])) rfl rfl (hb hby at_22)
  have N10 := Fr.snoc X10 N7 g_b1
  have O10 := O7.wr W10 g_b1
  have K10 : Keep h0 h10 [] := K7.wr W10 (Or.inr sz_b1)
  have V_b1_10 : Arv Z h10 b1 k1 (.object "com/example/ratebook/ratebook/model/EventType") (12 : Int32) [(.ref w_PLATFORM_DEPLOY), (.ref w_PLATFORM_DELETE), (.ref w_SERVER_DEPLOY), .null, .null, .null, .null, .null, .null, .null, .null, .null] .null := Arv.set Ar9 q9 S9 Nn9 H9 G9 rfl W10 2 rfl (Nat.le_of_ble_eq_true rfl)
  obtain ⟨T11, X11, e11, st11⟩ := getS2 X10 hx hZ hown (host := "") (Or.inl (hw _ (List.mem_of_getElem? (i := 10) rfl))) Via.refl e10 (S_w_SERVER_START.ext O10.2) (g := (mkF m 25 #[.val (.int p0), .unset, .unset, .unset, .unset] [(.int (3 : Int32)), (.ref b1), (.ref b1)])) rfl (hb hby at_25)
  obtain ⟨cl12, Ar12, q12, S12, Nn12, H12, G12⟩ := V_b1_10
  have hin12 : ¬ ((3 : Int32) < 0 ∨ cl12.slots.size ≤ ((3 : Int32)).toNatClampNeg) := inb_of S12 ⟨by decide, by decide⟩
  obtain ⟨T13, h13, X13, e13, W13, st13⟩ := stR X11 hx hZ e11 Ar12 (j := (3 : Int32)) hin12 rfl (Sto.ofV Ar12 q12 Ov1 (Ins.self (E_w_SERVER_START.ext O10.2))) (g := (mkF m 28 #[.val (.int p0), .unset, .unset, .unset, .unset] [(.ref w_SERVER_START), (.int (3 : Int32)), (.ref b1), (.ref b1)])) rfl rfl (hb hby at_28)
  have N13 := Fr.snoc X13 N10 g_b1
  have O13 := O10.wr W13 g_b1
  have K13 : Keep h0 h13 [] := K10.wr W13 (Or.inr sz_b1)
  have V_b1_13 : Arv Z h13 b1 k1 (.object "com/example/ratebook/ratebook/model/EventType") (12 : Int32) [(.ref w_PLATFORM_DEPLOY), (.ref w_PLATFORM_DELETE), (.ref w_SERVER_DEPLOY), (.ref w_SERVER_START), .null, .null, .null, .null, .null, .null, .null, .null] .null := Arv.set Ar12 q12 S12 Nn12 H12 G12 rfl W13 3 rfl (Nat.le_of_ble_eq_true rfl)
  obtain ⟨T14, X14, e14, st14⟩ := getS2 X13 hx hZ hown (host := "") (Or.inl (hw _ (List.mem_of_getElem? (i := 12) rfl))) Via.refl e13 (S_w_SERVER_STOP.ext O13.2) (g := (mkF m 31 #[.val (.int p0), .unset, .unset, .unset, .unset] [(.int (4 : Int32)), (.ref b1), (.ref b1)])) rfl (hb hby at_31)
  obtain ⟨cl15, Ar15, q15, S15, Nn15, H15, G15⟩ := V_b1_13
  have hin15 : ¬ ((4 : Int32) < 0 ∨ cl15.slots.size ≤ ((4 : Int32)).toNatClampNeg) := inb_of S15 ⟨by decide, by decide⟩
  obtain ⟨T16, h16, X16, e16, W16, st16⟩ := stR X14 hx hZ e14 Ar15 (j := (4 : Int32)) hin15 rfl (Sto.ofV Ar15 q15 Ov1 (Ins.self (E_w_SERVER_STOP.ext O13.2))) (g := (mkF m 34 #[.val (.int p0), .unset, .unset, .unset, .unset] [(.ref w_SERVER_STOP), (.int (4 : Int32)), (.ref b1), (.ref b1)])) rfl rfl (hb hby at_34)
  have N16 := Fr.snoc X16 N13 g_b1
  have O16 := O13.wr W16 g_b1
  have K16 : Keep h0 h16 [] := K13.wr W16 (Or.inr sz_b1)
  have V_b1_16 : Arv Z h16 b1 k1 (.object "com/example/ratebook/ratebook/model/EventType") (12 : Int32) [(.ref w_PLATFORM_DEPLOY), (.ref w_PLATFORM_DELETE), (.ref w_SERVER_DEPLOY), (.ref w_SERVER_START), (.ref w_SERVER_STOP), .null, .null, .null, .null, .null, .null, .null] .null := Arv.set Ar15 q15 S15 Nn15 H15 G15 rfl W16 4 rfl (Nat.le_of_ble_eq_true rfl)
  obtain ⟨T17, X17, e17, st17⟩ := getS2 X16 hx hZ hown (host := "") (Or.inl (hw _ (List.mem_of_getElem? (i := 14) rfl))) Via.refl e16 (S_w_SERVER_DELETE.ext O16.2) (g := (mkF m 37 #[.val (.int p0), .unset, .unset, .unset, .unset] [(.int (5 : Int32)), (.ref b1), (.ref b1)])) rfl (hb hby at_37)
  obtain ⟨cl18, Ar18, q18, S18, Nn18, H18, G18⟩ := V_b1_16
  have hin18 : ¬ ((5 : Int32) < 0 ∨ cl18.slots.size ≤ ((5 : Int32)).toNatClampNeg) := inb_of S18 ⟨by decide, by decide⟩
  obtain ⟨T19, h19, X19, e19, W19, st19⟩ := stR X17 hx hZ e17 Ar18 (j := (5 : Int32)) hin18 rfl (Sto.ofV Ar18 q18 Ov1 (Ins.self (E_w_SERVER_DELETE.ext O16.2))) (g := (mkF m 40 #[.val (.int p0), .unset, .unset, .unset, .unset] [(.ref w_SERVER_DELETE), (.int (5 : Int32)), (.ref b1), (.ref b1)])) rfl rfl (hb hby at_40)
  have N19 := Fr.snoc X19 N16 g_b1
  have O19 := O16.wr W19 g_b1
  have K19 : Keep h0 h19 [] := K16.wr W19 (Or.inr sz_b1)
  have V_b1_19 : Arv Z h19 b1 k1 (.object "com/example/ratebook/ratebook/model/EventType") (12 : Int32) [(.ref w_PLATFORM_DEPLOY), (.ref w_PLATFORM_DELETE), (.ref w_SERVER_DEPLOY), (.ref w_SERVER_START), (.ref w_SERVER_STOP), (.ref w_SERVER_DELETE), .null, .null, .null, .null, .null, .null] .null := Arv.set Ar18 q18 S18 Nn18 H18 G18 rfl W19 5 rfl (Nat.le_of_ble_eq_true rfl)
  obtain ⟨T20, X20, e20, st20⟩ := getS2 X19 hx hZ hown (host := "") (Or.inl (hw _ (List.mem_of_getElem? (i := 16) rfl))) Via.refl e19 (S_w_DISK_ATTACH.ext O19.2) (g := (mkF m 44 #[.val (.int p0), .unset, .unset, .unset, .unset] [(.int (6 : Int32)), (.ref b1), (.ref b1)])) rfl (hb hby at_44)
  obtain ⟨cl21, Ar21, q21, S21, Nn21, H21, G21⟩ := V_b1_19
  have hin21 : ¬ ((6 : Int32) < 0 ∨ cl21.slots.size ≤ ((6 : Int32)).toNatClampNeg) := inb_of S21 ⟨by decide, by decide⟩
  obtain ⟨T22, h22, X22, e22, W22, st22⟩ := stR X20 hx hZ e20 Ar21 (j := (6 : Int32)) hin21 rfl (Sto.ofV Ar21 q21 Ov1 (Ins.self (E_w_DISK_ATTACH.ext O19.2))) (g := (mkF m 47 #[.val (.int p0), .unset, .unset, .unset, .unset] [(.ref w_DISK_ATTACH), (.int (6 : Int32)), (.ref b1), (.ref b1)])) rfl rfl (hb hby at_47)
  have N22 := Fr.snoc X22 N19 g_b1
  have O22 := O19.wr W22 g_b1
  have K22 : Keep h0 h22 [] := K19.wr W22 (Or.inr sz_b1)
  have V_b1_22 : Arv Z h22 b1 k1 (.object "com/example/ratebook/ratebook/model/EventType") (12 : Int32) [(.ref w_PLATFORM_DEPLOY), (.ref w_PLATFORM_DELETE), (.ref w_SERVER_DEPLOY), (.ref w_SERVER_START), (.ref w_SERVER_STOP), (.ref w_SERVER_DELETE), (.ref w_DISK_ATTACH), .null, .null, .null, .null, .null] .null := Arv.set Ar21 q21 S21 Nn21 H21 G21 rfl W22 6 rfl (Nat.le_of_ble_eq_true rfl)
  obtain ⟨T23, X23, e23, st23⟩ := getS2 X22 hx hZ hown (host := "") (Or.inl (hw _ (List.mem_of_getElem? (i := 18) rfl))) Via.refl e22 (S_w_DISK_DETACH.ext O22.2) (g := (mkF m 51 #[.val (.int p0), .unset, .unset, .unset, .unset] [(.int (7 : Int32)), (.ref b1), (.ref b1)])) rfl (hb hby at_51)
  obtain ⟨cl24, Ar24, q24, S24, Nn24, H24, G24⟩ := V_b1_22
  have hin24 : ¬ ((7 : Int32) < 0 ∨ cl24.slots.size ≤ ((7 : Int32)).toNatClampNeg) := inb_of S24 ⟨by decide, by decide⟩
  obtain ⟨T25, h25, X25, e25, W25, st25⟩ := stR X23 hx hZ e23 Ar24 (j := (7 : Int32)) hin24 rfl (Sto.ofV Ar24 q24 Ov1 (Ins.self (E_w_DISK_DETACH.ext O22.2))) (g := (mkF m 54 #[.val (.int p0), .unset, .unset, .unset, .unset] [(.ref w_DISK_DETACH), (.int (7 : Int32)), (.ref b1), (.ref b1)])) rfl rfl (hb hby at_54)
  have N25 := Fr.snoc X25 N22 g_b1
  have O25 := O22.wr W25 g_b1
  have K25 : Keep h0 h25 [] := K22.wr W25 (Or.inr sz_b1)
  have V_b1_25 : Arv Z h25 b1 k1 (.object "com/example/ratebook/ratebook/model/EventType") (12 : Int32) [(.ref w_PLATFORM_DEPLOY), (.ref w_PLATFORM_DELETE), (.ref w_SERVER_DEPLOY), (.ref w_SERVER_START), (.ref w_SERVER_STOP), (.ref w_SERVER_DELETE), (.ref w_DISK_ATTACH), (.ref w_DISK_DETACH), .null, .null, .null, .null] .null := Arv.set Ar24 q24 S24 Nn24 H24 G24 rfl W25 7 rfl (Nat.le_of_ble_eq_true rfl)
  obtain ⟨T26, X26, e26, st26⟩ := getS2 X25 hx hZ hown (host := "") (Or.inl (hw _ (List.mem_of_getElem? (i := 20) rfl))) Via.refl e25 (S_w_SNAPSHOT_CREATE.ext O25.2) (g := (mkF m 58 #[.val (.int p0), .unset, .unset, .unset, .unset] [(.int (8 : Int32)), (.ref b1), (.ref b1)])) rfl (hb hby at_58)
  obtain ⟨cl27, Ar27, q27, S27, Nn27, H27, G27⟩ := V_b1_25
  have hin27 : ¬ ((8 : Int32) < 0 ∨ cl27.slots.size ≤ ((8 : Int32)).toNatClampNeg) := inb_of S27 ⟨by decide, by decide⟩
  obtain ⟨T28, h28, X28, e28, W28, st28⟩ := stR X26 hx hZ e26 Ar27 (j := (8 : Int32)) hin27 rfl (Sto.ofV Ar27 q27 Ov1 (Ins.self (E_w_SNAPSHOT_CREATE.ext O25.2))) (g := (mkF m 61 #[.val (.int p0), .unset, .unset, .unset, .unset] [(.ref w_SNAPSHOT_CREATE), (.int (8 : Int32)), (.ref b1), (.ref b1)])) rfl rfl (hb hby at_61)
  have N28 := Fr.snoc X28 N25 g_b1
  have O28 := O25.wr W28 g_b1
  have K28 : Keep h0 h28 [] := K25.wr W28 (Or.inr sz_b1)
  have V_b1_28 : Arv Z h28 b1 k1 (.object "com/example/ratebook/ratebook/model/EventType") (12 : Int32) [(.ref w_PLATFORM_DEPLOY), (.ref w_PLATFORM_DELETE), (.ref w_SERVER_DEPLOY), (.ref w_SERVER_START), (.ref w_SERVER_STOP), (.ref w_SERVER_DELETE), (.ref w_DISK_ATTACH), (.ref w_DISK_DETACH), (.ref w_SNAPSHOT_CREATE), .null, .null, .null] .null := Arv.set Ar27 q27 S27 Nn27 H27 G27 rfl W28 8 rfl (Nat.le_of_ble_eq_true rfl)
  obtain ⟨T29, X29, e29, st29⟩ := getS2 X28 hx hZ hown (host := "") (Or.inl (hw _ (List.mem_of_getElem? (i := 22) rfl))) Via.refl e28 (S_w_SNAPSHOT_DELETE.ext O28.2) (g := (mkF m 65 #[.val (.int p0), .unset, .unset, .unset, .unset] [(.int (9 : Int32)), (.ref b1), (.ref b1)])) rfl (hb hby at_65)
  obtain ⟨cl30, Ar30, q30, S30, Nn30, H30, G30⟩ := V_b1_28
  have hin30 : ¬ ((9 : Int32) < 0 ∨ cl30.slots.size ≤ ((9 : Int32)).toNatClampNeg) := inb_of S30 ⟨by decide, by decide⟩
  obtain ⟨T31, h31, X31, e31, W31, st31⟩ := stR X29 hx hZ e29 Ar30 (j := (9 : Int32)) hin30 rfl (Sto.ofV Ar30 q30 Ov1 (Ins.self (E_w_SNAPSHOT_DELETE.ext O28.2))) (g := (mkF m 68 #[.val (.int p0), .unset, .unset, .unset, .unset] [(.ref w_SNAPSHOT_DELETE), (.int (9 : Int32)), (.ref b1), (.ref b1)])) rfl rfl (hb hby at_68)
  have N31 := Fr.snoc X31 N28 g_b1
  have O31 := O28.wr W31 g_b1
  have K31 : Keep h0 h31 [] := K28.wr W31 (Or.inr sz_b1)
  have V_b1_31 : Arv Z h31 b1 k1 (.object "com/example/ratebook/ratebook/model/EventType") (12 : Int32) [(.ref w_PLATFORM_DEPLOY), (.ref w_PLATFORM_DELETE), (.ref w_SERVER_DEPLOY), (.ref w_SERVER_START), (.ref w_SERVER_STOP), (.ref w_SERVER_DELETE), (.ref w_DISK_ATTACH), (.ref w_DISK_DETACH), (.ref w_SNAPSHOT_CREATE), (.ref w_SNAPSHOT_DELETE), .null, .null] .null := Arv.set Ar30 q30 S30 Nn30 H30 G30 rfl W31 9 rfl (Nat.le_of_ble_eq_true rfl)
  obtain ⟨T32, X32, e32, st32⟩ := getS2 X31 hx hZ hown (host := "") (Or.inl (hw _ (List.mem_of_getElem? (i := 24) rfl))) Via.refl e31 (S_w_NIC_ATTACH.ext O31.2) (g := (mkF m 72 #[.val (.int p0), .unset, .unset, .unset, .unset] [(.int (10 : Int32)), (.ref b1), (.ref b1)])) rfl (hb hby at_72)
  obtain ⟨cl33, Ar33, q33, S33, Nn33, H33, G33⟩ := V_b1_31
  have hin33 : ¬ ((10 : Int32) < 0 ∨ cl33.slots.size ≤ ((10 : Int32)).toNatClampNeg) := inb_of S33 ⟨by decide, by decide⟩
  obtain ⟨T34, h34, X34, e34, W34, st34⟩ := stR X32 hx hZ e32 Ar33 (j := (10 : Int32)) hin33 rfl (Sto.ofV Ar33 q33 Ov1 (Ins.self (E_w_NIC_ATTACH.ext O31.2))) (g := (mkF m 75 #[.val (.int p0), .unset, .unset, .unset, .unset] [(.ref w_NIC_ATTACH), (.int (10 : Int32)), (.ref b1), (.ref b1)])) rfl rfl (hb hby at_75)
  have N34 := Fr.snoc X34 N31 g_b1
  have O34 := O31.wr W34 g_b1
  have K34 : Keep h0 h34 [] := K31.wr W34 (Or.inr sz_b1)
  have V_b1_34 : Arv Z h34 b1 k1 (.object "com/example/ratebook/ratebook/model/EventType") (12 : Int32) [(.ref w_PLATFORM_DEPLOY), (.ref w_PLATFORM_DELETE), (.ref w_SERVER_DEPLOY), (.ref w_SERVER_START), (.ref w_SERVER_STOP), (.ref w_SERVER_DELETE), (.ref w_DISK_ATTACH), (.ref w_DISK_DETACH), (.ref w_SNAPSHOT_CREATE), (.ref w_SNAPSHOT_DELETE), (.ref w_NIC_ATTACH), .null] .null := Arv.set Ar33 q33 S33 Nn33 H33 G33 rfl W34 10 rfl (Nat.le_of_ble_eq_true rfl)
  obtain ⟨T35, X35, e35, st35⟩ := getS2 X34 hx hZ hown (host := "") (Or.inl (hw _ (List.mem_of_getElem? (i := 26) rfl))) Via.refl e34 (S_w_NIC_DETACH.ext O34.2) (g := (mkF m 79 #[.val (.int p0), .unset, .unset, .unset, .unset] [(.int (11 : Int32)), (.ref b1), (.ref b1)])) rfl (hb hby at_79)
  obtain ⟨cl36, Ar36, q36, S36, Nn36, H36, G36⟩ := V_b1_34
  have hin36 : ¬ ((11 : Int32) < 0 ∨ cl36.slots.size ≤ ((11 : Int32)).toNatClampNeg) := inb_of S36 ⟨by decide, by decide⟩
  obtain ⟨T37, h37, X37, e37, W37, st37⟩ := stR X35 hx hZ e35 Ar36 (j := (11 : Int32)) hin36 rfl (Sto.ofV Ar36 q36 Ov1 (Ins.self (E_w_NIC_DETACH.ext O34.2))) (g := (mkF m 82 #[.val (.int p0), .unset, .unset, .unset, .unset] [(.ref w_NIC_DETACH), (.int (11 : Int32)), (.ref b1), (.ref b1)])) rfl rfl (hb hby at_82)
  have N37 := Fr.snoc X37 N34 g_b1
  have O37 := O34.wr W37 g_b1
  have K37 : Keep h0 h37 [] := K34.wr W37 (Or.inr sz_b1)
  have V_b1_37 : Arv Z h37 b1 k1 (.object "com/example/ratebook/ratebook/model/EventType") (12 : Int32) [(.ref w_PLATFORM_DEPLOY), (.ref w_PLATFORM_DELETE), (.ref w_SERVER_DEPLOY), (.ref w_SERVER_START), (.ref w_SERVER_STOP), (.ref w_SERVER_DELETE), (.ref w_DISK_ATTACH), (.ref w_DISK_DETACH), (.ref w_SNAPSHOT_CREATE), (.ref w_SNAPSHOT_DELETE), (.ref w_NIC_ATTACH), (.ref w_NIC_DETACH)] .null := Arv.set Ar36 q36 S36 Nn36 H36 G36 rfl W37 11 rfl (Nat.le_of_ble_eq_true rfl)
  obtain ⟨cl38, Ar38, -, S38, -, H38, -⟩ := V_b1_37
  have hin38 : ¬ (((p0 &&& (2147483647 : Int32)) % (12 : Int32)) < 0 ∨ cl38.slots.size ≤ (((p0 &&& (2147483647 : Int32)) % (12 : Int32))).toNatClampNeg) := inb_of S38 (by rw [hc2]; decide)
  have hat38 : cl38.slots[(((p0 &&& (2147483647 : Int32)) % (12 : Int32))).toNatClampNeg]? = some (.ref w_PLATFORM_DELETE) := H38.at hin38 (by rw [hc2]; rfl)
  obtain ⟨cq39, kq39, q39a, q39b, q39c⟩ := isOf hZ e37 (E_w_PLATFORM_DELETE.ext O37.2)
  obtain ⟨_, _, ⟨T39, L39, k39, n39⟩, -, X39, ⟨Lc39, hQ39, l39, y39, z39⟩, st39⟩ := X37.virtualBack hx (y := y0) (z := y0) hown (mvT hZ (hw _ (List.mem_of_getElem? (i := 29) rfl))) (mvT hZ (hw _ (List.mem_of_getElem? (i := 30) rfl))) (notFace_of_selects (args := #[]) (mvT hZ (hw _ (List.mem_of_getElem? (i := 32) rfl)))) (mvT hZ (hw _ (List.mem_of_getElem? (i := 32) rfl))) (mvT hZ (hw _ (List.mem_of_getElem? (i := 31) rfl))) (by decide) (backOf (W := 0) (rm3 l Z a0 hw [] w_PLATFORM_DEPLOY w_PLATFORM_DELETE w_SERVER_DEPLOY w_SERVER_START w_SERVER_STOP w_SERVER_DELETE w_DISK_ATTACH w_DISK_DETACH w_SNAPSHOT_CREATE w_SNAPSHOT_DELETE w_NIC_ATTACH w_NIC_DETACH hp h37 n0 O37) hZ (hw _ (List.mem_of_getElem? (i := 33) rfl)) (hw _ (List.mem_of_getElem? (i := 3) rfl)) (by decide) (by decide)) q39a q39c (g := (mkF m 145 #[.val (.int p0), .val (.ref b1), .val (.int ((p0 &&& (2147483647 : Int32)) % (12 : Int32))), .val (.ref w_PLATFORM_DELETE), .val (.int (0 : Int32))] [(.ref w_PLATFORM_DELETE)])) rfl (by rw [hml]; rfl) (Steps.refl _) (argsL := []) (rest := []) (lenOf pd_0 rfl) rfl (by show 2 * 0 + _ ≤ _; exact Nat.le_of_eq rfl) (hb hby at_145) (fun _ _ => ⟨rfl, e37, (by decide : 1 + 0 ≤ _), (by decide : 12 + 0 ≤ _)⟩)
  dsimp only [Pt.U, Pt.locs, Pt.cells, Pt.slots] at X39 l39 y39 z39 st39 hQ39
  subst l39 y39 z39
  obtain ⟨rfl, Nq39, eq39⟩ := hQ39
  have N39 := Fr.app N37 Nq39
  obtain ⟨fs, hr, hrun, hended, hW, hsame⟩ := X39.leave (v := some (.int (1 : Int32))) (fun h => by rw [Bd.returns] at h; cases h)
  refine ⟨_, _, pre0 _ ?_, hrun, hended, _, _, rfl, ?_, ⟨_, rfl⟩, hW, hsame.mono (by decide) (by decide)⟩
  · show Sp p e below s₁ (mkF m 0 #[.val (.int p0), .unset, .unset, .unset, .unset] []) _
    refine XS.bipush X0.here hx rfl (hb hby at_0) ?_
    show Sp p e below s₁ (mkF m 2 #[.val (.int p0), .unset, .unset, .unset, .unset] [(.int (12 : Int32))]) _
    refine st1 _ ?_
    show Sp p e below T1 (mkF m 5 #[.val (.int p0), .unset, .unset, .unset, .unset] [(.ref b1)]) _
    refine XS.dup X1.here hx rfl (hb hby at_5) rfl rfl ?_
    show Sp p e below T1 (mkF m 6 #[.val (.int p0), .unset, .unset, .unset, .unset] [(.ref b1), (.ref b1)]) _
    refine XS.iconst X1.here hx rfl (hb hby at_6) ?_
    show Sp p e below T1 (mkF m 7 #[.val (.int p0), .unset, .unset, .unset, .unset] [(.int (0 : Int32)), (.ref b1), (.ref b1)]) _
    refine st2 _ ?_
    show Sp p e below T2 (mkF m 10 #[.val (.int p0), .unset, .unset, .unset, .unset] [(.ref w_PLATFORM_DEPLOY), (.int (0 : Int32)), (.ref b1), (.ref b1)]) _
    refine st4 _ ?_
    show Sp p e below T4 (mkF m 11 #[.val (.int p0), .unset, .unset, .unset, .unset] [(.ref b1)]) _
    refine XS.dup X4.here hx rfl (hb hby at_11) rfl rfl ?_
    show Sp p e below T4 (mkF m 12 #[.val (.int p0), .unset, .unset, .unset, .unset] [(.ref b1), (.ref b1)]) _
    refine XS.iconst X4.here hx rfl (hb hby at_12) ?_
    show Sp p e below T4 (mkF m 13 #[.val (.int p0), .unset, .unset, .unset, .unset] [(.int (1 : Int32)), (.ref b1), (.ref b1)]) _
    refine st5 _ ?_
    show Sp p e below T5 (mkF m 16 #[.val (.int p0), .unset, .unset, .unset, .unset] [(.ref w_PLATFORM_DELETE), (.int (1 : Int32)), (.ref b1), (.ref b1)]) _
    refine st7 _ ?_
    show Sp p e below T7 (mkF m 17 #[.val (.int p0), .unset, .unset, .unset, .unset] [(.ref b1)]) _
    refine XS.dup X7.here hx rfl (hb hby at_17) rfl rfl ?_
    show Sp p e below T7 (mkF m 18 #[.val (.int p0), .unset, .unset, .unset, .unset] [(.ref b1), (.ref b1)]) _
    refine XS.iconst X7.here hx rfl (hb hby at_18) ?_
    show Sp p e below T7 (mkF m 19 #[.val (.int p0), .unset, .unset, .unset, .unset] [(.int (2 : Int32)), (.ref b1), (.ref b1)]) _
    refine st8 _ ?_
    show Sp p e below T8 (mkF m 22 #[.val (.int p0), .unset, .unset, .unset, .unset] [(.ref w_SERVER_DEPLOY), (.int (2 : Int32)), (.ref b1), (.ref b1)]) _
    refine st10 _ ?_
    show Sp p e below T10 (mkF m 23 #[.val (.int p0), .unset, .unset, .unset, .unset] [(.ref b1)]) _
    refine XS.dup X10.here hx rfl (hb hby at_23) rfl rfl ?_
    show Sp p e below T10 (mkF m 24 #[.val (.int p0), .unset, .unset, .unset, .unset] [(.ref b1), (.ref b1)]) _
    refine XS.iconst X10.here hx rfl (hb hby at_24) ?_
    show Sp p e below T10 (mkF m 25 #[.val (.int p0), .unset, .unset, .unset, .unset] [(.int (3 : Int32)), (.ref b1), (.ref b1)]) _
    refine st11 _ ?_
    show Sp p e below T11 (mkF m 28 #[.val (.int p0), .unset, .unset, .unset, .unset] [(.ref w_SERVER_START), (.int (3 : Int32)), (.ref b1), (.ref b1)]) _
    refine st13 _ ?_
    show Sp p e below T13 (mkF m 29 #[.val (.int p0), .unset, .unset, .unset, .unset] [(.ref b1)]) _
    refine XS.dup X13.here hx rfl (hb hby at_29) rfl rfl ?_
    show Sp p e below T13 (mkF m 30 #[.val (.int p0), .unset, .unset, .unset, .unset] [(.ref b1), (.ref b1)]) _
    refine XS.iconst X13.here hx rfl (hb hby at_30) ?_
    show Sp p e below T13 (mkF m 31 #[.val (.int p0), .unset, .unset, .unset, .unset] [(.int (4 : Int32)), (.ref b1), (.ref b1)]) _
    refine st14 _ ?_
    show Sp p e below T14 (mkF m 34 #[.val (.int p0), .unset, .unset, .unset, .unset] [(.ref w_SERVER_STOP), (.int (4 : Int32)), (.ref b1), (.ref b1)]) _
    refine st16 _ ?_
    show Sp p e below T16 (mkF m 35 #[.val (.int p0), .unset, .unset, .unset, .unset] [(.ref b1)]) _
    refine XS.dup X16.here hx rfl (hb hby at_35) rfl rfl ?_
    show Sp p e below T16 (mkF m 36 #[.val (.int p0), .unset, .unset, .unset, .unset] [(.ref b1), (.ref b1)]) _
    refine XS.iconst X16.here hx rfl (hb hby at_36) ?_
    show Sp p e below T16 (mkF m 37 #[.val (.int p0), .unset, .unset, .unset, .unset] [(.int (5 : Int32)), (.ref b1), (.ref b1)]) _
    refine st17 _ ?_
    show Sp p e below T17 (mkF m 40 #[.val (.int p0), .unset, .unset, .unset, .unset] [(.ref w_SERVER_DELETE), (.int (5 : Int32)), (.ref b1), (.ref b1)]) _
    refine st19 _ ?_
    show Sp p e below T19 (mkF m 41 #[.val (.int p0), .unset, .unset, .unset, .unset] [(.ref b1)]) _
    refine XS.dup X19.here hx rfl (hb hby at_41) rfl rfl ?_
    show Sp p e below T19 (mkF m 42 #[.val (.int p0), .unset, .unset, .unset, .unset] [(.ref b1), (.ref b1)]) _
    refine XS.bipush X19.here hx rfl (hb hby at_42) ?_
    show Sp p e below T19 (mkF m 44 #[.val (.int p0), .unset, .unset, .unset, .unset] [(.int (6 : Int32)), (.ref b1), (.ref b1)]) _
    refine st20 _ ?_
    show Sp p e below T20 (mkF m 47 #[.val (.int p0), .unset, .unset, .unset, .unset] [(.ref w_DISK_ATTACH), (.int (6 : Int32)), (.ref b1), (.ref b1)]) _
    refine st22 _ ?_
    show Sp p e below T22 (mkF m 48 #[.val (.int p0), .unset, .unset, .unset, .unset] [(.ref b1)]) _
    refine XS.dup X22.here hx rfl (hb hby at_48) rfl rfl ?_
    show Sp p e below T22 (mkF m 49 #[.val (.int p0), .unset, .unset, .unset, .unset] [(.ref b1), (.ref b1)]) _
    refine XS.bipush X22.here hx rfl (hb hby at_49) ?_
    show Sp p e below T22 (mkF m 51 #[.val (.int p0), .unset, .unset, .unset, .unset] [(.int (7 : Int32)), (.ref b1), (.ref b1)]) _
    refine st23 _ ?_
    show Sp p e below T23 (mkF m 54 #[.val (.int p0), .unset, .unset, .unset, .unset] [(.ref w_DISK_DETACH), (.int (7 : Int32)), (.ref b1), (.ref b1)]) _
    refine st25 _ ?_
    show Sp p e below T25 (mkF m 55 #[.val (.int p0), .unset, .unset, .unset, .unset] [(.ref b1)]) _
    refine XS.dup X25.here hx rfl (hb hby at_55) rfl rfl ?_
    show Sp p e below T25 (mkF m 56 #[.val (.int p0), .unset, .unset, .unset, .unset] [(.ref b1), (.ref b1)]) _
    refine XS.bipush X25.here hx rfl (hb hby at_56) ?_
    show Sp p e below T25 (mkF m 58 #[.val (.int p0), .unset, .unset, .unset, .unset] [(.int (8 : Int32)), (.ref b1), (.ref b1)]) _
    refine st26 _ ?_
    show Sp p e below T26 (mkF m 61 #[.val (.int p0), .unset, .unset, .unset, .unset] [(.ref w_SNAPSHOT_CREATE), (.int (8 : Int32)), (.ref b1), (.ref b1)]) _
    refine st28 _ ?_
    show Sp p e below T28 (mkF m 62 #[.val (.int p0), .unset, .unset, .unset, .unset] [(.ref b1)]) _
    refine XS.dup X28.here hx rfl (hb hby at_62) rfl rfl ?_
    show Sp p e below T28 (mkF m 63 #[.val (.int p0), .unset, .unset, .unset, .unset] [(.ref b1), (.ref b1)]) _
    refine XS.bipush X28.here hx rfl (hb hby at_63) ?_
    show Sp p e below T28 (mkF m 65 #[.val (.int p0), .unset, .unset, .unset, .unset] [(.int (9 : Int32)), (.ref b1), (.ref b1)]) _
    refine st29 _ ?_
    show Sp p e below T29 (mkF m 68 #[.val (.int p0), .unset, .unset, .unset, .unset] [(.ref w_SNAPSHOT_DELETE), (.int (9 : Int32)), (.ref b1), (.ref b1)]) _
    refine st31 _ ?_
    show Sp p e below T31 (mkF m 69 #[.val (.int p0), .unset, .unset, .unset, .unset] [(.ref b1)]) _
    refine XS.dup X31.here hx rfl (hb hby at_69) rfl rfl ?_
    show Sp p e below T31 (mkF m 70 #[.val (.int p0), .unset, .unset, .unset, .unset] [(.ref b1), (.ref b1)]) _
    refine XS.bipush X31.here hx rfl (hb hby at_70) ?_
    show Sp p e below T31 (mkF m 72 #[.val (.int p0), .unset, .unset, .unset, .unset] [(.int (10 : Int32)), (.ref b1), (.ref b1)]) _
    refine st32 _ ?_
    show Sp p e below T32 (mkF m 75 #[.val (.int p0), .unset, .unset, .unset, .unset] [(.ref w_NIC_ATTACH), (.int (10 : Int32)), (.ref b1), (.ref b1)]) _
    refine st34 _ ?_
    show Sp p e below T34 (mkF m 76 #[.val (.int p0), .unset, .unset, .unset, .unset] [(.ref b1)]) _
    refine XS.dup X34.here hx rfl (hb hby at_76) rfl rfl ?_
    show Sp p e below T34 (mkF m 77 #[.val (.int p0), .unset, .unset, .unset, .unset] [(.ref b1), (.ref b1)]) _
    refine XS.bipush X34.here hx rfl (hb hby at_77) ?_
    show Sp p e below T34 (mkF m 79 #[.val (.int p0), .unset, .unset, .unset, .unset] [(.int (11 : Int32)), (.ref b1), (.ref b1)]) _
    refine st35 _ ?_
    show Sp p e below T35 (mkF m 82 #[.val (.int p0), .unset, .unset, .unset, .unset] [(.ref w_NIC_DETACH), (.int (11 : Int32)), (.ref b1), (.ref b1)]) _
    refine st37 _ ?_
    show Sp p e below T37 (mkF m 83 #[.val (.int p0), .unset, .unset, .unset, .unset] [(.ref b1)]) _
    refine XS.astoreN X37.here hx rfl (hb hby at_83) rfl rfl (l' := #[.val (.int p0), .val (.ref b1), .unset, .unset, .unset]) rfl ?_
    show Sp p e below T37 (mkF m 84 #[.val (.int p0), .val (.ref b1), .unset, .unset, .unset] []) _
    refine XS.iloadN X37.here hx rfl (hb hby at_84) rfl ?_
    show Sp p e below T37 (mkF m 85 #[.val (.int p0), .val (.ref b1), .unset, .unset, .unset] [(.int p0)]) _
    refine X37.ldcI hx hown (mvT hZ (hw _ (List.mem_of_getElem? (i := 28) rfl))) rfl (hb hby at_85) ?_
    show Sp p e below T37 (mkF m 87 #[.val (.int p0), .val (.ref b1), .unset, .unset, .unset] [(.int (2147483647 : Int32)), (.int p0)]) _
    refine XS.iand X37.here hx rfl (hb hby at_87) rfl ?_
    show Sp p e below T37 (mkF m 88 #[.val (.int p0), .val (.ref b1), .unset, .unset, .unset] [(.int (p0 &&& (2147483647 : Int32)))]) _
    refine XS.bipush X37.here hx rfl (hb hby at_88) ?_
    show Sp p e below T37 (mkF m 90 #[.val (.int p0), .val (.ref b1), .unset, .unset, .unset] [(.int (12 : Int32)), (.int (p0 &&& (2147483647 : Int32)))]) _
    refine iremM X37 hx rfl (hb hby at_90) rfl (by decide) ?_
    show Sp p e below T37 (mkF m 91 #[.val (.int p0), .val (.ref b1), .unset, .unset, .unset] [(.int ((p0 &&& (2147483647 : Int32)) % (12 : Int32)))]) _
    refine XS.istoreN X37.here hx rfl (hb hby at_91) rfl (l' := #[.val (.int p0), .val (.ref b1), .val (.int ((p0 &&& (2147483647 : Int32)) % (12 : Int32))), .unset, .unset]) rfl ?_
    show Sp p e below T37 (mkF m 92 #[.val (.int p0), .val (.ref b1), .val (.int ((p0 &&& (2147483647 : Int32)) % (12 : Int32))), .unset, .unset] []) _
    refine XS.aloadN X37.here hx rfl (hb hby at_92) rfl rfl ?_
    show Sp p e below T37 (mkF m 93 #[.val (.int p0), .val (.ref b1), .val (.int ((p0 &&& (2147483647 : Int32)) % (12 : Int32))), .unset, .unset] [(.ref b1)]) _
    refine XS.iloadN X37.here hx rfl (hb hby at_93) rfl ?_
    show Sp p e below T37 (mkF m 94 #[.val (.int p0), .val (.ref b1), .val (.int ((p0 &&& (2147483647 : Int32)) % (12 : Int32))), .unset, .unset] [(.int ((p0 &&& (2147483647 : Int32)) % (12 : Int32))), (.ref b1)]) _
    refine X37.aaload hx (j := ((p0 &&& (2147483647 : Int32)) % (12 : Int32))) (v := (.ref w_PLATFORM_DELETE)) (by rw [e37]; exact Ar38.1) (State.isArrayOf_alike hZ.alike Ar38.2.1) rfl Ar38.2.2 hin38 hat38 (g := (mkF m 94 #[.val (.int p0), .val (.ref b1), .val (.int ((p0 &&& (2147483647 : Int32)) % (12 : Int32))), .unset, .unset] [(.int ((p0 &&& (2147483647 : Int32)) % (12 : Int32))), (.ref b1)])) rfl rfl (hb hby at_94) _ ?_
    show Sp p e below T37 (mkF m 95 #[.val (.int p0), .val (.ref b1), .val (.int ((p0 &&& (2147483647 : Int32)) % (12 : Int32))), .unset, .unset] [(.ref w_PLATFORM_DELETE)]) _
    refine XS.astoreN X37.here hx rfl (hb hby at_95) rfl rfl (l' := #[.val (.int p0), .val (.ref b1), .val (.int ((p0 &&& (2147483647 : Int32)) % (12 : Int32))), .val (.ref w_PLATFORM_DELETE), .unset]) rfl ?_
    show Sp p e below T37 (mkF m 96 #[.val (.int p0), .val (.ref b1), .val (.int ((p0 &&& (2147483647 : Int32)) % (12 : Int32))), .val (.ref w_PLATFORM_DELETE), .unset] []) _
    refine XS.iconst X37.here hx rfl (hb hby at_96) ?_
    show Sp p e below T37 (mkF m 97 #[.val (.int p0), .val (.ref b1), .val (.int ((p0 &&& (2147483647 : Int32)) % (12 : Int32))), .val (.ref w_PLATFORM_DELETE), .unset] [(.int (0 : Int32))]) _
    refine XS.istore X37.here hx rfl (hb hby at_97) rfl (l' := #[.val (.int p0), .val (.ref b1), .val (.int ((p0 &&& (2147483647 : Int32)) % (12 : Int32))), .val (.ref w_PLATFORM_DELETE), .val (.int (0 : Int32))]) rfl ?_
    show Sp p e below T37 (mkF m 99 #[.val (.int p0), .val (.ref b1), .val (.int ((p0 &&& (2147483647 : Int32)) % (12 : Int32))), .val (.ref w_PLATFORM_DELETE), .val (.int (0 : Int32))] []) _
    refine XS.iloadN X37.here hx rfl (hb hby at_99) rfl ?_
    show Sp p e below T37 (mkF m 100 #[.val (.int p0), .val (.ref b1), .val (.int ((p0 &&& (2147483647 : Int32)) % (12 : Int32))), .val (.ref w_PLATFORM_DELETE), .val (.int (0 : Int32))] [(.int ((p0 &&& (2147483647 : Int32)) % (12 : Int32)))]) _
    refine XS.bipush X37.here hx rfl (hb hby at_100) ?_
    show Sp p e below T37 (mkF m 102 #[.val (.int p0), .val (.ref b1), .val (.int ((p0 &&& (2147483647 : Int32)) % (12 : Int32))), .val (.ref w_PLATFORM_DELETE), .val (.int (0 : Int32))] [(.int (6 : Int32)), (.int ((p0 &&& (2147483647 : Int32)) % (12 : Int32)))]) _
    refine XS.icmpYes X37.here hx rfl (pc0 := 102) (pc' := 111) rfl (hb hby at_102) rfl (feq (by rw [hc2]; decide : ¬ (((p0 &&& (2147483647 : Int32)) % (12 : Int32)) = (6 : Int32)))).2 (by decide) (by decide) ?_
    show Sp p e below T37 (mkF m 111 #[.val (.int p0), .val (.ref b1), .val (.int ((p0 &&& (2147483647 : Int32)) % (12 : Int32))), .val (.ref w_PLATFORM_DELETE), .val (.int (0 : Int32))] []) _
    refine XS.iloadN X37.here hx rfl (hb hby at_111) rfl ?_
    show Sp p e below T37 (mkF m 112 #[.val (.int p0), .val (.ref b1), .val (.int ((p0 &&& (2147483647 : Int32)) % (12 : Int32))), .val (.ref w_PLATFORM_DELETE), .val (.int (0 : Int32))] [(.int ((p0 &&& (2147483647 : Int32)) % (12 : Int32)))]) _
    refine XS.bipush X37.here hx rfl (hb hby at_112) ?_
    show Sp p e below T37 (mkF m 114 #[.val (.int p0), .val (.ref b1), .val (.int ((p0 &&& (2147483647 : Int32)) % (12 : Int32))), .val (.ref w_PLATFORM_DELETE), .val (.int (0 : Int32))] [(.int (7 : Int32)), (.int ((p0 &&& (2147483647 : Int32)) % (12 : Int32)))]) _
    refine XS.icmpYes X37.here hx rfl (pc0 := 114) (pc' := 123) rfl (hb hby at_114) rfl (feq (by rw [hc2]; decide : ¬ (((p0 &&& (2147483647 : Int32)) % (12 : Int32)) = (7 : Int32)))).2 (by decide) (by decide) ?_
    show Sp p e below T37 (mkF m 123 #[.val (.int p0), .val (.ref b1), .val (.int ((p0 &&& (2147483647 : Int32)) % (12 : Int32))), .val (.ref w_PLATFORM_DELETE), .val (.int (0 : Int32))] []) _
    refine XS.iloadN X37.here hx rfl (hb hby at_123) rfl ?_
    show Sp p e below T37 (mkF m 124 #[.val (.int p0), .val (.ref b1), .val (.int ((p0 &&& (2147483647 : Int32)) % (12 : Int32))), .val (.ref w_PLATFORM_DELETE), .val (.int (0 : Int32))] [(.int ((p0 &&& (2147483647 : Int32)) % (12 : Int32)))]) _
    refine XS.bipush X37.here hx rfl (hb hby at_124) ?_
    show Sp p e below T37 (mkF m 126 #[.val (.int p0), .val (.ref b1), .val (.int ((p0 &&& (2147483647 : Int32)) % (12 : Int32))), .val (.ref w_PLATFORM_DELETE), .val (.int (0 : Int32))] [(.int (10 : Int32)), (.int ((p0 &&& (2147483647 : Int32)) % (12 : Int32)))]) _
    refine XS.icmpYes X37.here hx rfl (pc0 := 126) (pc' := 135) rfl (hb hby at_126) rfl (feq (by rw [hc2]; decide : ¬ (((p0 &&& (2147483647 : Int32)) % (12 : Int32)) = (10 : Int32)))).2 (by decide) (by decide) ?_
    show Sp p e below T37 (mkF m 135 #[.val (.int p0), .val (.ref b1), .val (.int ((p0 &&& (2147483647 : Int32)) % (12 : Int32))), .val (.ref w_PLATFORM_DELETE), .val (.int (0 : Int32))] []) _
    refine XS.iloadN X37.here hx rfl (hb hby at_135) rfl ?_
    show Sp p e below T37 (mkF m 136 #[.val (.int p0), .val (.ref b1), .val (.int ((p0 &&& (2147483647 : Int32)) % (12 : Int32))), .val (.ref w_PLATFORM_DELETE), .val (.int (0 : Int32))] [(.int ((p0 &&& (2147483647 : Int32)) % (12 : Int32)))]) _
    refine XS.bipush X37.here hx rfl (hb hby at_136) ?_
    show Sp p e below T37 (mkF m 138 #[.val (.int p0), .val (.ref b1), .val (.int ((p0 &&& (2147483647 : Int32)) % (12 : Int32))), .val (.ref w_PLATFORM_DELETE), .val (.int (0 : Int32))] [(.int (11 : Int32)), (.int ((p0 &&& (2147483647 : Int32)) % (12 : Int32)))]) _
    refine XS.icmpYes X37.here hx rfl (pc0 := 138) (pc' := 144) rfl (hb hby at_138) rfl (feq (by rw [hc2]; decide : ¬ (((p0 &&& (2147483647 : Int32)) % (12 : Int32)) = (11 : Int32)))).2 (by decide) (by decide) ?_
    show Sp p e below T37 (mkF m 144 #[.val (.int p0), .val (.ref b1), .val (.int ((p0 &&& (2147483647 : Int32)) % (12 : Int32))), .val (.ref w_PLATFORM_DELETE), .val (.int (0 : Int32))] []) _
    refine XS.aloadN X37.here hx rfl (hb hby at_144) rfl rfl ?_
    show Sp p e below T37 (mkF m 145 #[.val (.int p0), .val (.ref b1), .val (.int ((p0 &&& (2147483647 : Int32)) % (12 : Int32))), .val (.ref w_PLATFORM_DELETE), .val (.int (0 : Int32))] [(.ref w_PLATFORM_DELETE)]) _
    refine st39.trans ?_
    show Sp p e below T39 (mkF m 148 #[.val (.int p0), .val (.ref b1), .val (.int ((p0 &&& (2147483647 : Int32)) % (12 : Int32))), .val (.ref w_PLATFORM_DELETE), .val (.int (0 : Int32))] [(.int (0 : Int32))]) _
    refine XS.iload X39.here hx rfl (hb hby at_148) rfl ?_
    show Sp p e below T39 (mkF m 150 #[.val (.int p0), .val (.ref b1), .val (.int ((p0 &&& (2147483647 : Int32)) % (12 : Int32))), .val (.ref w_PLATFORM_DELETE), .val (.int (0 : Int32))] [(.int (0 : Int32)), (.int (0 : Int32))]) _
    refine XS.icmpNo X39.here hx rfl (hb hby at_150) rfl (teq (by decide : (0 : Int32) = (0 : Int32))).2 ?_
    show Sp p e below T39 (mkF m 153 #[.val (.int p0), .val (.ref b1), .val (.int ((p0 &&& (2147483647 : Int32)) % (12 : Int32))), .val (.ref w_PLATFORM_DELETE), .val (.int (0 : Int32))] []) _
    refine XS.iconst X39.here hx rfl (hb hby at_153) ?_
    show Sp p e below T39 (mkF m 154 #[.val (.int p0), .val (.ref b1), .val (.int ((p0 &&& (2147483647 : Int32)) % (12 : Int32))), .val (.ref w_PLATFORM_DELETE), .val (.int (0 : Int32))] [(.int (1 : Int32))]) _
    refine XS.goto X39.here hx rfl (pc0 := 154) (pc' := 158) rfl (hb hby at_154) (by decide) (by decide) ?_
    show Sp p e below T39 (mkF m 158 #[.val (.int p0), .val (.ref b1), .val (.int ((p0 &&& (2147483647 : Int32)) % (12 : Int32))), .val (.ref w_PLATFORM_DELETE), .val (.int (0 : Int32))] [(.int (1 : Int32))]) _
    exact retN X39 hx (t := .boolean) Bd.returns (by simp) (hb hby at_158) hr
  · skip
    exact ⟨rfl, N39⟩
def Q5 (Z : State) (w_PLATFORM_DEPLOY : Addr) (w_PLATFORM_DELETE : Addr) (w_SERVER_DEPLOY : Addr) (w_SERVER_START : Addr) (w_SERVER_STOP : Addr) (w_SERVER_DELETE : Addr) (w_DISK_ATTACH : Addr) (w_DISK_DETACH : Addr) (w_SNAPSHOT_CREATE : Addr) (w_SNAPSHOT_DELETE : Addr) (w_NIC_ATTACH : Addr) (w_NIC_DETACH : Addr) (h0 : Heap) (n0 : Nat) (v : Option Value) (h : Heap) (L : List Loc) : Prop := v = some (.int (0 : Int32)) ∧ Fr n0 L ∧ h = h0
set_option maxRecDepth 65536 in
set_option maxHeartbeats 40000000 in
theorem rm5 (l : Launch) (Z : State) (a0 : Array Value) (hw : ∀ d ∈ tables_1, d.before a0 Z = true) (ws : List Jvm.Cond) (w_PLATFORM_DEPLOY w_PLATFORM_DELETE w_SERVER_DEPLOY w_SERVER_START w_SERVER_STOP w_SERVER_DELETE w_DISK_ATTACH w_DISK_DETACH w_SNAPSHOT_CREATE w_SNAPSHOT_DELETE w_NIC_ATTACH w_NIC_DETACH : Addr) (hp : Perm Z w_PLATFORM_DEPLOY w_PLATFORM_DELETE w_SERVER_DEPLOY w_SERVER_START w_SERVER_STOP w_SERVER_DELETE w_DISK_ATTACH w_DISK_DETACH w_SNAPSHOT_CREATE w_SNAPSHOT_DELETE w_NIC_ATTACH w_NIC_DETACH) (h0 : Heap) (n0 : Nat) (O0 : Old Z n0 h0) :
    MetFree l y0 (head1 (Jvm.Cond.code y0 prog_20_method_6_code 1 (some .boolean) :: ws) ({ frames := 0, cells := 0, slots := 0, locals := 0 } : Room)) (fun a U => a = #[(.ref w_SERVER_DEPLOY)] ∧ Z.Warmed39 U.vm ∧ U.heap = h0) (fun _ _ _ _ _ => True) (fun _ U o U' => ∃ v L, o = .returned v ∧ Q5 Z w_PLATFORM_DEPLOY w_PLATFORM_DELETE w_SERVER_DEPLOY w_SERVER_START w_SERVER_STOP w_SERVER_DELETE w_DISK_ATTACH w_DISK_DETACH w_SNAPSHOT_CREATE w_SNAPSHOT_DELETE w_NIC_ATTACH w_NIC_DETACH  h0 n0 v U'.heap L ∧ FrameEnd U o U' L ({ frames := 0, cells := 0, slots := 0, locals := 0 } : Room).cells ({ frames := 0, cells := 0, slots := 0, locals := 0 } : Room).slots) := by
  refine MetFree.of_bodySF (plainFor_of_name pn_1) hisR ?_
  intro p e s m args below meth c s₁ Bd hml0 hP hK
  obtain ⟨rfl, hZ, hh⟩ := hP
  have hx := Bd.exec
  have hby := Bd.bytes
  have hml : c.maxLocals = 1 := hml0
  have hown : s.vm.findClass "com/example/ratebook/ratebook/model/EventType" = some m.cls := findClass_of_methodNamed Bd.named
  have hnm := (name_of_methodNamed Bd.named Bd.method).1
  have X0 : Stand p l e ({ frames := 0, cells := 0, slots := 0, locals := 0 } : Room) s m #[(.ref w_SERVER_DEPLOY)] below meth c s₁ [] 0 0 := Stand.of_body Bd
  have e0 : s₁.heap = h0 := by rw [← hh, Bd.state]; rfl
  have N0 := Fr.nil n0
  have hp' := hp
  obtain ⟨S_w_PLATFORM_DEPLOY, E_w_PLATFORM_DEPLOY, S_w_PLATFORM_DELETE, E_w_PLATFORM_DELETE, S_w_SERVER_DEPLOY, E_w_SERVER_DEPLOY, S_w_SERVER_START, E_w_SERVER_START, S_w_SERVER_STOP, E_w_SERVER_STOP, S_w_SERVER_DELETE, E_w_SERVER_DELETE, S_w_DISK_ATTACH, E_w_DISK_ATTACH, S_w_DISK_DETACH, E_w_DISK_DETACH, S_w_SNAPSHOT_CREATE, E_w_SNAPSHOT_CREATE, S_w_SNAPSHOT_DELETE, E_w_SNAPSHOT_DELETE, S_w_NIC_ATTACH, E_w_NIC_ATTACH, S_w_NIC_DETACH, E_w_NIC_DETACH, F_ordinal_w_PLATFORM_DEPLOY, F_ordinal_w_DISK_ATTACH, F_ordinal_w_DISK_DETACH, F_ordinal_w_NIC_ATTACH, F_ordinal_w_NIC_DETACH, F_ordinal_w_SERVER_START, F_ordinal_w_SERVER_DEPLOY, F_ordinal_w_SERVER_STOP, F_ordinal_w_SNAPSHOT_CREATE, F_ordinal_w_PLATFORM_DELETE, F_ordinal_w_SNAPSHOT_DELETE, F_ordinal_w_SERVER_DELETE⟩ := hp'
  have pre0 : ∀ t, Steps p.tables e below (s₁.setTop (mkF m 0 #[.val (.ref w_SERVER_DEPLOY)] [])) t → Steps p.tables e below (s₁.setTop (entryFrame m #[(.ref w_SERVER_DEPLOY)] 1)) t := fun t k => castTop (ef_1_0 m w_SERVER_DEPLOY) k
  obtain ⟨T1, X1, e1, st1⟩ := getS2 X0 hx hZ hown (host := "") (Or.inl (hw _ (List.mem_of_getElem? (i := 34) rfl))) Via.refl e0 (S_w_DISK_ATTACH.ext O0.2) (g := (mkF m 1 #[.val (.ref w_SERVER_DEPLOY)] [(.ref w_SERVER_DEPLOY)])) rfl (hb hby d1_1)
  obtain ⟨T2, X2, e2, st2⟩ := getS2 X1 hx hZ hown (host := "") (Or.inl (hw _ (List.mem_of_getElem? (i := 35) rfl))) Via.refl e1 (S_w_DISK_DETACH.ext O0.2) (g := (mkF m 8 #[.val (.ref w_SERVER_DEPLOY)] [(.ref w_SERVER_DEPLOY)])) rfl (hb hby d1_8)
  obtain ⟨T3, X3, e3, st3⟩ := getS2 X2 hx hZ hown (host := "") (Or.inl (hw _ (List.mem_of_getElem? (i := 36) rfl))) Via.refl e2 (S_w_NIC_ATTACH.ext O0.2) (g := (mkF m 15 #[.val (.ref w_SERVER_DEPLOY)] [(.ref w_SERVER_DEPLOY)])) rfl (hb hby d1_15)
  obtain ⟨T4, X4, e4, st4⟩ := getS2 X3 hx hZ hown (host := "") (Or.inl (hw _ (List.mem_of_getElem? (i := 37) rfl))) Via.refl e3 (S_w_NIC_DETACH.ext O0.2) (g := (mkF m 22 #[.val (.ref w_SERVER_DEPLOY)] [(.ref w_SERVER_DEPLOY)])) rfl (hb hby d1_22)
  obtain ⟨fs, hr, hrun, hended, hW, hsame⟩ := X4.leave (v := some (.int (0 : Int32))) (fun h => by rw [Bd.returns] at h; cases h)
  refine ⟨_, _, pre0 _ ?_, hrun, hended, _, _, rfl, ?_, ⟨_, rfl⟩, hW, hsame.mono (by decide) (by decide)⟩
  · show Sp p e below s₁ (mkF m 0 #[.val (.ref w_SERVER_DEPLOY)] []) _
    refine XS.aloadN X0.here hx rfl (hb hby d1_0) rfl rfl ?_
    show Sp p e below s₁ (mkF m 1 #[.val (.ref w_SERVER_DEPLOY)] [(.ref w_SERVER_DEPLOY)]) _
    refine st1 _ ?_
    show Sp p e below T1 (mkF m 4 #[.val (.ref w_SERVER_DEPLOY)] [(.ref w_DISK_ATTACH), (.ref w_SERVER_DEPLOY)]) _
    refine Jvm.RoadKit.acmp (g := (mkF m 4 #[.val (.ref w_SERVER_DEPLOY)] [(.ref w_DISK_ATTACH), (.ref w_SERVER_DEPLOY)])) X1 hx rfl rfl rfl (pc0 := 4) (pc' := 7) (same := false) rfl (hb hby d1_4) rfl (decide_eq_false fun q => (Ne.symm (ne_w_DISK_ATTACH_w_SERVER_DEPLOY hp)) (Value.ref.inj q)) (by decide) (by decide) ?_
    show Sp p e below T1 (mkF m 7 #[.val (.ref w_SERVER_DEPLOY)] []) _
    refine XS.aloadN X1.here hx rfl (hb hby d1_7) rfl rfl ?_
    show Sp p e below T1 (mkF m 8 #[.val (.ref w_SERVER_DEPLOY)] [(.ref w_SERVER_DEPLOY)]) _
    refine st2 _ ?_
    show Sp p e below T2 (mkF m 11 #[.val (.ref w_SERVER_DEPLOY)] [(.ref w_DISK_DETACH), (.ref w_SERVER_DEPLOY)]) _
    refine Jvm.RoadKit.acmp (g := (mkF m 11 #[.val (.ref w_SERVER_DEPLOY)] [(.ref w_DISK_DETACH), (.ref w_SERVER_DEPLOY)])) X2 hx rfl rfl rfl (pc0 := 11) (pc' := 14) (same := false) rfl (hb hby d1_11) rfl (decide_eq_false fun q => (Ne.symm (ne_w_DISK_DETACH_w_SERVER_DEPLOY hp)) (Value.ref.inj q)) (by decide) (by decide) ?_
    show Sp p e below T2 (mkF m 14 #[.val (.ref w_SERVER_DEPLOY)] []) _
    refine XS.aloadN X2.here hx rfl (hb hby d1_14) rfl rfl ?_
    show Sp p e below T2 (mkF m 15 #[.val (.ref w_SERVER_DEPLOY)] [(.ref w_SERVER_DEPLOY)]) _
    refine st3 _ ?_
    show Sp p e below T3 (mkF m 18 #[.val (.ref w_SERVER_DEPLOY)] [(.ref w_NIC_ATTACH), (.ref w_SERVER_DEPLOY)]) _
    refine Jvm.RoadKit.acmp (g := (mkF m 18 #[.val (.ref w_SERVER_DEPLOY)] [(.ref w_NIC_ATTACH), (.ref w_SERVER_DEPLOY)])) X3 hx rfl rfl rfl (pc0 := 18) (pc' := 21) (same := false) rfl (hb hby d1_18) rfl (decide_eq_false fun q => (Ne.symm (ne_w_NIC_ATTACH_w_SERVER_DEPLOY hp)) (Value.ref.inj q)) (by decide) (by decide) ?_
    show Sp p e below T3 (mkF m 21 #[.val (.ref w_SERVER_DEPLOY)] []) _
    refine XS.aloadN X3.here hx rfl (hb hby d1_21) rfl rfl ?_
    show Sp p e below T3 (mkF m 22 #[.val (.ref w_SERVER_DEPLOY)] [(.ref w_SERVER_DEPLOY)]) _
    refine st4 _ ?_
    show Sp p e below T4 (mkF m 25 #[.val (.ref w_SERVER_DEPLOY)] [(.ref w_NIC_DETACH), (.ref w_SERVER_DEPLOY)]) _
    refine Jvm.RoadKit.acmp (g := (mkF m 25 #[.val (.ref w_SERVER_DEPLOY)] [(.ref w_NIC_DETACH), (.ref w_SERVER_DEPLOY)])) X4 hx rfl rfl rfl (pc0 := 25) (pc' := 32) (same := false) rfl (hb hby d1_25) rfl (decide_eq_false fun q => (Ne.symm (ne_w_NIC_DETACH_w_SERVER_DEPLOY hp)) (Value.ref.inj q)) (by decide) (by decide) ?_
    show Sp p e below T4 (mkF m 32 #[.val (.ref w_SERVER_DEPLOY)] []) _
    refine XS.iconst X4.here hx rfl (hb hby d1_32) ?_
    show Sp p e below T4 (mkF m 33 #[.val (.ref w_SERVER_DEPLOY)] [(.int (0 : Int32))]) _
    exact retN X4 hx (t := .boolean) Bd.returns (by simp) (hb hby d1_33) hr
  · show Q5 Z w_PLATFORM_DEPLOY w_PLATFORM_DELETE w_SERVER_DEPLOY w_SERVER_START w_SERVER_STOP w_SERVER_DELETE w_DISK_ATTACH w_DISK_DETACH w_SNAPSHOT_CREATE w_SNAPSHOT_DELETE w_NIC_ATTACH w_NIC_DETACH  h0 n0 _ T4.heap _
    rw [e4]
    exact ⟨rfl, N0, rfl⟩
set_option maxRecDepth 65536 in
set_option maxHeartbeats 40000000 in
theorem rm6 (l : Launch) (Z : State) (a0 : Array Value) (hw : ∀ d ∈ tables_1, d.before a0 Z = true) (ws : List Jvm.Cond) (w_PLATFORM_DEPLOY w_PLATFORM_DELETE w_SERVER_DEPLOY w_SERVER_START w_SERVER_STOP w_SERVER_DELETE w_DISK_ATTACH w_DISK_DETACH w_SNAPSHOT_CREATE w_SNAPSHOT_DELETE w_NIC_ATTACH w_NIC_DETACH : Addr) (hp : Perm Z w_PLATFORM_DEPLOY w_PLATFORM_DELETE w_SERVER_DEPLOY w_SERVER_START w_SERVER_STOP w_SERVER_DELETE w_DISK_ATTACH w_DISK_DETACH w_SNAPSHOT_CREATE w_SNAPSHOT_DELETE w_NIC_ATTACH w_NIC_DETACH) (p0 : Int32) (h0 : Heap) (n0 : Nat) (O0 : Old Z n0 h0) (hc1 : ¬ (((p0 &&& (2147483647 : Int32)) % (12 : Int32)) = (0 : Int32))) (hc2 : ¬ (((p0 &&& (2147483647 : Int32)) % (12 : Int32)) = (1 : Int32))) (hc3 : ((p0 &&& (2147483647 : Int32)) % (12 : Int32)) = (2 : Int32)) :
    MetFree l x (head1 (Jvm.Cond.code x code maxLocals ret :: ws) room_1) (fun a U => a = #[(.int p0)] ∧ Z.Warmed39 U.vm ∧ U.heap = h0) (fun _ _ _ _ _ => True) (fun _ U o U' => ∃ v L, o = .returned v ∧ (v = some (.int (1 : Int32)) ∧ Fr n0 L) ∧ FrameEnd U o U' L 16 128) := by
  refine MetFree.of_bodySF (plainFor_of_name pn_0) hisR ?_
  intro p e s m args below meth c s₁ Bd hml0 hP hK
  obtain ⟨rfl, hZ, hh⟩ := hP
  have hx := Bd.exec
  have hby := Bd.bytes
  have hml : c.maxLocals = 5 := hml0
  have hown : s.vm.findClass "com/example/ratebook/ratebook/model/EventTypeIsAttachmentEventPinLaw" = some m.cls := findClass_of_methodNamed Bd.named
  have hnm := (name_of_methodNamed Bd.named Bd.method).1
  have X0 : Stand p l e room_1 s m #[(.int p0)] below meth c s₁ [] 0 0 := Stand.of_body Bd
  have e0 : s₁.heap = h0 := by rw [← hh, Bd.state]; rfl
  have N0 := Fr.nil n0
  have hp' := hp
  obtain ⟨S_w_PLATFORM_DEPLOY, E_w_PLATFORM_DEPLOY, S_w_PLATFORM_DELETE, E_w_PLATFORM_DELETE, S_w_SERVER_DEPLOY, E_w_SERVER_DEPLOY, S_w_SERVER_START, E_w_SERVER_START, S_w_SERVER_STOP, E_w_SERVER_STOP, S_w_SERVER_DELETE, E_w_SERVER_DELETE, S_w_DISK_ATTACH, E_w_DISK_ATTACH, S_w_DISK_DETACH, E_w_DISK_DETACH, S_w_SNAPSHOT_CREATE, E_w_SNAPSHOT_CREATE, S_w_SNAPSHOT_DELETE, E_w_SNAPSHOT_DELETE, S_w_NIC_ATTACH, E_w_NIC_ATTACH, S_w_NIC_DETACH, E_w_NIC_DETACH, F_ordinal_w_PLATFORM_DEPLOY, F_ordinal_w_DISK_ATTACH, F_ordinal_w_DISK_DETACH, F_ordinal_w_NIC_ATTACH, F_ordinal_w_NIC_DETACH, F_ordinal_w_SERVER_START, F_ordinal_w_SERVER_DEPLOY, F_ordinal_w_SERVER_STOP, F_ordinal_w_SNAPSHOT_CREATE, F_ordinal_w_PLATFORM_DELETE, F_ordinal_w_SNAPSHOT_DELETE, F_ordinal_w_SERVER_DELETE⟩ := hp'
  have pre0 : ∀ t, Steps p.tables e below (s₁.setTop (mkF m 0 #[.val (.int p0), .unset, .unset, .unset, .unset] [])) t → Steps p.tables e below (s₁.setTop (entryFrame m #[(.int p0)] maxLocals)) t := fun t k => castTop (ef_0_0 m p0) k
  obtain ⟨T1, h1, k1, X1, e1, E1, A1, EA1, Ov1, st1⟩ := newRE X0 hx hZ hown (hw _ (List.mem_of_getElem? (i := 0) rfl)) (hw _ (List.mem_of_getElem? (i := 1) rfl)) e0 (g := (mkF m 2 #[.val (.int p0), .unset, .unset, .unset, .unset] [(.int (12 : Int32))])) rfl (hb hby at_2) rfl (by decide) (cap := 12) (by decide) (by decide) (by decide) (by decide) (ad := "[Lcom/example/ratebook/ratebook/model/EventType;") (by decide)
  obtain ⟨b1, g1⟩ : ∃ z, z = h0.size := ⟨_, rfl⟩
  rw [← g1] at A1 EA1 st1
  have g_b1 : n0 ≤ b1 := Nat.le_trans (own_sz O0) (Nat.le_of_eq g1.symm)
  have sz_b1 : h0.size ≤ b1 := Nat.le_trans (Keep.refl h0 []).1 (Nat.le_of_eq g1.symm)
  have O1 := O0.ext E1
  have K1 : Keep h0 h1 [] := (Keep.refl h0 []).ext E1
  have V_b1 : Arv Z h1 b1 k1 (.object "com/example/ratebook/ratebook/model/EventType") (12 : Int32) [.null, .null, .null, .null, .null, .null, .null, .null, .null, .null, .null, .null] .null := (Arv.new A1 (by decide)).pad (pad_rep [] .null 12)
  obtain ⟨T2, X2, e2, st2⟩ := getS2 X1 hx hZ hown (host := "") (Or.inl (hw _ (List.mem_of_getElem? (i := 2) rfl))) Via.refl e1 (S_w_PLATFORM_DEPLOY.ext O1.2) (g := (mkF m 7 #[.val (.int p0), .unset, .unset, .unset, .unset] [(.int (0 : Int32)), (.ref b1), (.ref b1)])) rfl (hb hby at_7)
  obtain ⟨cl3, Ar3, q3, S3, Nn3, H3, G3⟩ := V_b1
  have hin3 : ¬ ((0 : Int32) < 0 ∨ cl3.slots.size ≤ ((0 : Int32)).toNatClampNeg) := inb_of S3 ⟨by decide, by decide⟩
  obtain ⟨T4, h4, X4, e4, W4, st4⟩ := stR X2 hx hZ e2 Ar3 (j := (0 : Int32)) hin3 rfl (Sto.ofV Ar3 q3 Ov1 (Ins.self (E_w_PLATFORM_DEPLOY.ext O1.2))) (g := (mkF m 10 #[.val (.int p0), .unset, .unset, .unset, .unset] [(.ref w_PLATFORM_DEPLOY), (.int (0 : Int32)), (.ref b1), (.ref b1)])) rfl rfl (hb hby at_10)
  have N4 := Fr.snoc X4 N0 g_b1
  have O4 := O1.wr W4 g_b1
  have K4 : Keep h0 h4 [] := K1.wr W4 (Or.inr sz_b1)
  have V_b1_4 : Arv Z h4 b1 k1 (.object "com/example/ratebook/ratebook/model/EventType") (12 : Int32) [(.ref w_PLATFORM_DEPLOY), .null, .null, .null, .null, .null, .null, .null, .null, .null, .null, .null] .null := Arv.set Ar3 q3 S3 Nn3 H3 G3 rfl W4 0 rfl (Nat.le_of_ble_eq_true rfl)
  obtain ⟨T5, X5, e5, st5⟩ := getS2 X4 hx hZ hown (host := "") (Or.inl (hw _ (List.mem_of_getElem? (i := 6) rfl))) Via.refl e4 (S_w_PLATFORM_DELETE.ext O4.2) (g := (mkF m 13 #[.val (.int p0), .unset, .unset, .unset, .unset] [(.int (1 : Int32)), (.ref b1), (.ref b1)])) rfl (hb hby at_13)
  obtain ⟨cl6, Ar6, q6, S6, Nn6, H6, G6⟩ := V_b1_4
  have hin6 : ¬ ((1 : Int32) < 0 ∨ cl6.slots.size ≤ ((1 : Int32)).toNatClampNeg) := inb_of S6 ⟨by decide, by decide⟩
  obtain ⟨T7, h7, X7, e7, W7, st7⟩ := stR X5 hx hZ e5 Ar6 (j := (1 : Int32)) hin6 rfl (Sto.ofV Ar6 q6 Ov1 (Ins.self (E_w_PLATFORM_DELETE.ext O4.2))) (g := (mkF m 16 #[.val (.int p0), .unset, .unset, .unset, .unset] [(.ref w_PLATFORM_DELETE), (.int (1 : Int32)), (.ref b1), (.ref b1)])) rfl rfl (hb hby at_16)
  have N7 := Fr.snoc X7 N4 g_b1
  have O7 := O4.wr W7 g_b1
  have K7 : Keep h0 h7 [] := K4.wr W7 (Or.inr sz_b1)
  have V_b1_7 : Arv Z h7 b1 k1 (.object "com/example/ratebook/ratebook/model/EventType") (12 : Int32) [(.ref w_PLATFORM_DEPLOY), (.ref w_PLATFORM_DELETE), .null, .null, .null, .null, .null, .null, .null, .null, .null, .null] .null := Arv.set Ar6 q6 S6 Nn6 H6 G6 rfl W7 1 rfl (Nat.le_of_ble_eq_true rfl)
  obtain ⟨T8, X8, e8, st8⟩ := getS2 X7 hx hZ hown (host := "") (Or.inl (hw _ (List.mem_of_getElem? (i := 8) rfl))) Via.refl e7 (S_w_SERVER_DEPLOY.ext O7.2) (g := (mkF m 19 #[.val (.int p0), .unset, .unset, .unset, .unset] [(.int (2 : Int32)), (.ref b1), (.ref b1)])) rfl (hb hby at_19)
  obtain ⟨cl9, Ar9, q9, S9, Nn9, H9, G9⟩ := V_b1_7
  have hin9 : ¬ ((2 : Int32) < 0 ∨ cl9.slots.size ≤ ((2 : Int32)).toNatClampNeg) := inb_of S9 ⟨by decide, by decide⟩
  obtain ⟨T10, h10, X10, e10, W10, st10⟩ := stR X8 hx hZ e8 Ar9 (j := (2 : Int32)) hin9 rfl (Sto.ofV Ar9 q9 Ov1 (Ins.self (E_w_SERVER_DEPLOY.ext O7.2))) (g := (mkF m 22 #[.val (.int p0), .unset, .unset, .unset, .unset] [(.ref w_SERVER_DEPLOY), (.int (2 : Int32)), (.ref b1), (.ref b1)])) rfl rfl (hb hby at_22)
  have N10 := Fr.snoc X10 N7 g_b1
  have O10 := O7.wr W10 g_b1
  have K10 : Keep h0 h10 [] := K7.wr W10 (Or.inr sz_b1)
  have V_b1_10 : Arv Z h10 b1 k1 (.object "com/example/ratebook/ratebook/model/EventType") (12 : Int32) [(.ref w_PLATFORM_DEPLOY), (.ref w_PLATFORM_DELETE), (.ref w_SERVER_DEPLOY), .null, .null, .null, .null, .null, .null, .null, .null, .null] .null := Arv.set Ar9 q9 S9 Nn9 H9 G9 rfl W10 2 rfl (Nat.le_of_ble_eq_true rfl)
  obtain ⟨T11, X11, e11, st11⟩ := getS2 X10 hx hZ hown (host := "") (Or.inl (hw _ (List.mem_of_getElem? (i := 10) rfl))) Via.refl e10 (S_w_SERVER_START.ext O10.2) (g := (mkF m 25 #[.val (.int p0), .unset, .unset, .unset, .unset] [(.int (3 : Int32)), (.ref b1), (.ref b1)])) rfl (hb hby at_25)
  obtain ⟨cl12, Ar12, q12, S12, Nn12, H12, G12⟩ := V_b1_10
  have hin12 : ¬ ((3 : Int32) < 0 ∨ cl12.slots.size ≤ ((3 : Int32)).toNatClampNeg) := inb_of S12 ⟨by decide, by decide⟩
  obtain ⟨T13, h13, X13, e13, W13, st13⟩ := stR X11 hx hZ e11 Ar12 (j := (3 : Int32)) hin12 rfl (Sto.ofV Ar12 q12 Ov1 (Ins.self (E_w_SERVER_START.ext O10.2))) (g := (mkF m 28 #[.val (.int p0), .unset, .unset, .unset, .unset] [(.ref w_SERVER_START), (.int (3 : Int32)), (.ref b1), (.ref b1)])) rfl rfl (hb hby at_28)
  have N13 := Fr.snoc X13 N10 g_b1
  have O13 := O10.wr W13 g_b1
  have K13 : Keep h0 h13 [] := K10.wr W13 (Or.inr sz_b1)
  have V_b1_13 : Arv Z h13 b1 k1 (.object "com/example/ratebook/ratebook/model/EventType") (12 : Int32) [(.ref w_PLATFORM_DEPLOY), (.ref w_PLATFORM_DELETE), (.ref w_SERVER_DEPLOY), (.ref w_SERVER_START), .null, .null, .null, .null, .null, .null, .null, .null] .null := Arv.set Ar12 q12 S12 Nn12 H12 G12 rfl W13 3 rfl (Nat.le_of_ble_eq_true rfl)
  obtain ⟨T14, X14, e14, st14⟩ := getS2 X13 hx hZ hown (host := "") (Or.inl (hw _ (List.mem_of_getElem? (i := 12) rfl))) Via.refl e13 (S_w_SERVER_STOP.ext O13.2) (g := (mkF m 31 #[.val (.int p0), .unset, .unset, .unset, .unset] [(.int (4 : Int32)), (.ref b1), (.ref b1)])) rfl (hb hby at_31)
  obtain ⟨cl15, Ar15, q15, S15, Nn15, H15, G15⟩ := V_b1_13
  have hin15 : ¬ ((4 : Int32) < 0 ∨ cl15.slots.size ≤ ((4 : Int32)).toNatClampNeg) := inb_of S15 ⟨by decide, by decide⟩
  obtain ⟨T16, h16, X16, e16, W16, st16⟩ := stR X14 hx hZ e14 Ar15 (j := (4 : Int32)) hin15 rfl (Sto.ofV Ar15 q15 Ov1 (Ins.self (E_w_SERVER_STOP.ext O13.2))) (g := (mkF m 34 #[.val (.int p0), .unset, .unset, .unset, .unset] [(.ref w_SERVER_STOP), (.int (4 : Int32)), (.ref b1), (.ref b1)])) rfl rfl (hb hby at_34)
  have N16 := Fr.snoc X16 N13 g_b1
  have O16 := O13.wr W16 g_b1
  have K16 : Keep h0 h16 [] := K13.wr W16 (Or.inr sz_b1)
  have V_b1_16 : Arv Z h16 b1 k1 (.object "com/example/ratebook/ratebook/model/EventType") (12 : Int32) [(.ref w_PLATFORM_DEPLOY), (.ref w_PLATFORM_DELETE), (.ref w_SERVER_DEPLOY), (.ref w_SERVER_START), (.ref w_SERVER_STOP), .null, .null, .null, .null, .null, .null, .null] .null := Arv.set Ar15 q15 S15 Nn15 H15 G15 rfl W16 4 rfl (Nat.le_of_ble_eq_true rfl)
  obtain ⟨T17, X17, e17, st17⟩ := getS2 X16 hx hZ hown (host := "") (Or.inl (hw _ (List.mem_of_getElem? (i := 14) rfl))) Via.refl e16 (S_w_SERVER_DELETE.ext O16.2) (g := (mkF m 37 #[.val (.int p0), .unset, .unset, .unset, .unset] [(.int (5 : Int32)), (.ref b1), (.ref b1)])) rfl (hb hby at_37)
  obtain ⟨cl18, Ar18, q18, S18, Nn18, H18, G18⟩ := V_b1_16
  have hin18 : ¬ ((5 : Int32) < 0 ∨ cl18.slots.size ≤ ((5 : Int32)).toNatClampNeg) := inb_of S18 ⟨by decide, by decide⟩
  obtain ⟨T19, h19, X19, e19, W19, st19⟩ := stR X17 hx hZ e17 Ar18 (j := (5 : Int32)) hin18 rfl (Sto.ofV Ar18 q18 Ov1 (Ins.self (E_w_SERVER_DELETE.ext O16.2))) (g := (mkF m 40 #[.val (.int p0), .unset, .unset, .unset, .unset] [(.ref w_SERVER_DELETE), (.int (5 : Int32)), (.ref b1), (.ref b1)])) rfl rfl (hb hby at_40)
  have N19 := Fr.snoc X19 N16 g_b1
  have O19 := O16.wr W19 g_b1
  have K19 : Keep h0 h19 [] := K16.wr W19 (Or.inr sz_b1)
  have V_b1_19 : Arv Z h19 b1 k1 (.object "com/example/ratebook/ratebook/model/EventType") (12 : Int32) [(.ref w_PLATFORM_DEPLOY), (.ref w_PLATFORM_DELETE), (.ref w_SERVER_DEPLOY), (.ref w_SERVER_START), (.ref w_SERVER_STOP), (.ref w_SERVER_DELETE), .null, .null, .null, .null, .null, .null] .null := Arv.set Ar18 q18 S18 Nn18 H18 G18 rfl W19 5 rfl (Nat.le_of_ble_eq_true rfl)
  obtain ⟨T20, X20, e20, st20⟩ := getS2 X19 hx hZ hown (host := "") (Or.inl (hw _ (List.mem_of_getElem? (i := 16) rfl))) Via.refl e19 (S_w_DISK_ATTACH.ext O19.2) (g := (mkF m 44 #[.val (.int p0), .unset, .unset, .unset, .unset] [(.int (6 : Int32)), (.ref b1), (.ref b1)])) rfl (hb hby at_44)
  obtain ⟨cl21, Ar21, q21, S21, Nn21, H21, G21⟩ := V_b1_19
  have hin21 : ¬ ((6 : Int32) < 0 ∨ cl21.slots.size ≤ ((6 : Int32)).toNatClampNeg) := inb_of S21 ⟨by decide, by decide⟩
  obtain ⟨T22, h22, X22, e22, W22, st22⟩ := stR X20 hx hZ e20 Ar21 (j := (6 : Int32)) hin21 rfl (Sto.ofV Ar21 q21 Ov1 (Ins.self (E_w_DISK_ATTACH.ext O19.2))) (g := (mkF m 47 #[.val (.int p0), .unset, .unset, .unset, .unset] [(.ref w_DISK_ATTACH), (.int (6 : Int32)), (.ref b1), (.ref b1)])) rfl rfl (hb hby at_47)
  have N22 := Fr.snoc X22 N19 g_b1
  have O22 := O19.wr W22 g_b1
  have K22 : Keep h0 h22 [] := K19.wr W22 (Or.inr sz_b1)
  have V_b1_22 : Arv Z h22 b1 k1 (.object "com/example/ratebook/ratebook/model/EventType") (12 : Int32) [(.ref w_PLATFORM_DEPLOY), (.ref w_PLATFORM_DELETE), (.ref w_SERVER_DEPLOY), (.ref w_SERVER_START), (.ref w_SERVER_STOP), (.ref w_SERVER_DELETE), (.ref w_DISK_ATTACH), .null, .null, .null, .null, .null] .null := Arv.set Ar21 q21 S21 Nn21 H21 G21 rfl W22 6 rfl (Nat.le_of_ble_eq_true rfl)
  obtain ⟨T23, X23, e23, st23⟩ := getS2 X22 hx hZ hown (host := "") (Or.inl (hw _ (List.mem_of_getElem? (i := 18) rfl))) Via.refl e22 (S_w_DISK_DETACH.ext O22.2) (g := (mkF m 51 #[.val (.int p0), .unset, .unset, .unset, .unset] [(.int (7 : Int32)), (.ref b1), (.ref b1)])) rfl (hb hby at_51)
  obtain ⟨cl24, Ar24, q24, S24, Nn24, H24, G24⟩ := V_b1_22
  have hin24 : ¬ ((7 : Int32) < 0 ∨ cl24.slots.size ≤ ((7 : Int32)).toNatClampNeg) := inb_of S24 ⟨by decide, by decide⟩
  obtain ⟨T25, h25, X25, e25, W25, st25⟩ := stR X23 hx hZ e23 Ar24 (j := (7 : Int32)) hin24 rfl (Sto.ofV Ar24 q24 Ov1 (Ins.self (E_w_DISK_DETACH.ext O22.2))) (g := (mkF m 54 #[.val (.int p0), .unset, .unset, .unset, .unset] [(.ref w_DISK_DETACH), (.int (7 : Int32)), (.ref b1), (.ref b1)])) rfl rfl (hb hby at_54)
  have N25 := Fr.snoc X25 N22 g_b1
  have O25 := O22.wr W25 g_b1
  have K25 : Keep h0 h25 [] := K22.wr W25 (Or.inr sz_b1)
  have V_b1_25 : Arv Z h25 b1 k1 (.object "com/example/ratebook/ratebook/model/EventType") (12 : Int32) [(.ref w_PLATFORM_DEPLOY), (.ref w_PLATFORM_DELETE), (.ref w_SERVER_DEPLOY), (.ref w_SERVER_START), (.ref w_SERVER_STOP), (.ref w_SERVER_DELETE), (.ref w_DISK_ATTACH), (.ref w_DISK_DETACH), .null, .null, .null, .null] .null := Arv.set Ar24 q24 S24 Nn24 H24 G24 rfl W25 7 rfl (Nat.le_of_ble_eq_true rfl)
  obtain ⟨T26, X26, e26, st26⟩ := getS2 X25 hx hZ hown (host := "") (Or.inl (hw _ (List.mem_of_getElem? (i := 20) rfl))) Via.refl e25 (S_w_SNAPSHOT_CREATE.ext O25.2) (g := (mkF m 58 #[.val (.int p0), .unset, .unset, .unset, .unset] [(.int (8 : Int32)), (.ref b1), (.ref b1)])) rfl (hb hby at_58)
  obtain ⟨cl27, Ar27, q27, S27, Nn27, H27, G27⟩ := V_b1_25
  have hin27 : ¬ ((8 : Int32) < 0 ∨ cl27.slots.size ≤ ((8 : Int32)).toNatClampNeg) := inb_of S27 ⟨by decide, by decide⟩
  obtain ⟨T28, h28, X28, e28, W28, st28⟩ := stR X26 hx hZ e26 Ar27 (j := (8 : Int32)) hin27 rfl (Sto.ofV Ar27 q27 Ov1 (Ins.self (E_w_SNAPSHOT_CREATE.ext O25.2))) (g := (mkF m 61 #[.val (.int p0), .unset, .unset, .unset, .unset] [(.ref w_SNAPSHOT_CREATE), (.int (8 : Int32)), (.ref b1), (.ref b1)])) rfl rfl (hb hby at_61)
  have N28 := Fr.snoc X28 N25 g_b1
  have O28 := O25.wr W28 g_b1
  have K28 : Keep h0 h28 [] := K25.wr W28 (Or.inr sz_b1)
  have V_b1_28 : Arv Z h28 b1 k1 (.object "com/example/ratebook/ratebook/model/EventType") (12 : Int32) [(.ref w_PLATFORM_DEPLOY), (.ref w_PLATFORM_DELETE), (.ref w_SERVER_DEPLOY), (.ref w_SERVER_START), (.ref w_SERVER_STOP), (.ref w_SERVER_DELETE), (.ref w_DISK_ATTACH), (.ref w_DISK_DETACH), (.ref w_SNAPSHOT_CREATE), .null, .null, .null] .null := Arv.set Ar27 q27 S27 Nn27 H27 G27 rfl W28 8 rfl (Nat.le_of_ble_eq_true rfl)
  obtain ⟨T29, X29, e29, st29⟩ := getS2 X28 hx hZ hown (host := "") (Or.inl (hw _ (List.mem_of_getElem? (i := 22) rfl))) Via.refl e28 (S_w_SNAPSHOT_DELETE.ext O28.2) (g := (mkF m 65 #[.val (.int p0), .unset, .unset, .unset, .unset] [(.int (9 : Int32)), (.ref b1), (.ref b1)])) rfl (hb hby at_65)
  obtain ⟨cl30, Ar30, q30, S30, Nn30, H30, G30⟩ := V_b1_28
  have hin30 : ¬ ((9 : Int32) < 0 ∨ cl30.slots.size ≤ ((9 : Int32)).toNatClampNeg) := inb_of S30 ⟨by decide, by decide⟩
  obtain ⟨T31, h31, X31, e31, W31, st31⟩ := stR X29 hx hZ e29 Ar30 (j := (9 : Int32)) hin30 rfl (Sto.ofV Ar30 q30 Ov1 (Ins.self (E_w_SNAPSHOT_DELETE.ext O28.2))) (g := (mkF m 68 #[.val (.int p0), .unset, .unset, .unset, .unset] [(.ref w_SNAPSHOT_DELETE), (.int (9 : Int32)), (.ref b1), (.ref b1)])) rfl rfl (hb hby at_68)
  have N31 := Fr.snoc X31 N28 g_b1
  have O31 := O28.wr W31 g_b1
  have K31 : Keep h0 h31 [] := K28.wr W31 (Or.inr sz_b1)
  have V_b1_31 : Arv Z h31 b1 k1 (.object "com/example/ratebook/ratebook/model/EventType") (12 : Int32) [(.ref w_PLATFORM_DEPLOY), (.ref w_PLATFORM_DELETE), (.ref w_SERVER_DEPLOY), (.ref w_SERVER_START), (.ref w_SERVER_STOP), (.ref w_SERVER_DELETE), (.ref w_DISK_ATTACH), (.ref w_DISK_DETACH), (.ref w_SNAPSHOT_CREATE), (.ref w_SNAPSHOT_DELETE), .null, .null] .null := Arv.set Ar30 q30 S30 Nn30 H30 G30 rfl W31 9 rfl (Nat.le_of_ble_eq_true rfl)
  obtain ⟨T32, X32, e32, st32⟩ := getS2 X31 hx hZ hown (host := "") (Or.inl (hw _ (List.mem_of_getElem? (i := 24) rfl))) Via.refl e31 (S_w_NIC_ATTACH.ext O31.2) (g := (mkF m 72 #[.val (.int p0), .unset, .unset, .unset, .unset] [(.int (10 : Int32)), (.ref b1), (.ref b1)])) rfl (hb hby at_72)
  obtain ⟨cl33, Ar33, q33, S33, Nn33, H33, G33⟩ := V_b1_31
  have hin33 : ¬ ((10 : Int32) < 0 ∨ cl33.slots.size ≤ ((10 : Int32)).toNatClampNeg) := inb_of S33 ⟨by decide, by decide⟩
  obtain ⟨T34, h34, X34, e34, W34, st34⟩ := stR X32 hx hZ e32 Ar33 (j := (10 : Int32)) hin33 rfl (Sto.ofV Ar33 q33 Ov1 (Ins.self (E_w_NIC_ATTACH.ext O31.2))) (g := (mkF m 75 #[.val (.int p0), .unset, .unset, .unset, .unset] [(.ref w_NIC_ATTACH), (.int (10 : Int32)), (.ref b1), (.ref b1)])) rfl rfl (hb hby at_75)
  have N34 := Fr.snoc X34 N31 g_b1
  have O34 := O31.wr W34 g_b1
  have K34 : Keep h0 h34 [] := K31.wr W34 (Or.inr sz_b1)
  have V_b1_34 : Arv Z h34 b1 k1 (.object "com/example/ratebook/ratebook/model/EventType") (12 : Int32) [(.ref w_PLATFORM_DEPLOY), (.ref w_PLATFORM_DELETE), (.ref w_SERVER_DEPLOY), (.ref w_SERVER_START), (.ref w_SERVER_STOP), (.ref w_SERVER_DELETE), (.ref w_DISK_ATTACH), (.ref w_DISK_DETACH), (.ref w_SNAPSHOT_CREATE), (.ref w_SNAPSHOT_DELETE), (.ref w_NIC_ATTACH), .null] .null := Arv.set Ar33 q33 S33 Nn33 H33 G33 rfl W34 10 rfl (Nat.le_of_ble_eq_true rfl)
  obtain ⟨T35, X35, e35, st35⟩ := getS2 X34 hx hZ hown (host := "") (Or.inl (hw _ (List.mem_of_getElem? (i := 26) rfl))) Via.refl e34 (S_w_NIC_DETACH.ext O34.2) (g := (mkF m 79 #[.val (.int p0), .unset, .unset, .unset, .unset] [(.int (11 : Int32)), (.ref b1), (.ref b1)])) rfl (hb hby at_79)
  obtain ⟨cl36, Ar36, q36, S36, Nn36, H36, G36⟩ := V_b1_34
  have hin36 : ¬ ((11 : Int32) < 0 ∨ cl36.slots.size ≤ ((11 : Int32)).toNatClampNeg) := inb_of S36 ⟨by decide, by decide⟩
  obtain ⟨T37, h37, X37, e37, W37, st37⟩ := stR X35 hx hZ e35 Ar36 (j := (11 : Int32)) hin36 rfl (Sto.ofV Ar36 q36 Ov1 (Ins.self (E_w_NIC_DETACH.ext O34.2))) (g := (mkF m 82 #[.val (.int p0), .unset, .unset, .unset, .unset] [(.ref w_NIC_DETACH), (.int (11 : Int32)), (.ref b1), (.ref b1)])) rfl rfl (hb hby at_82)
  have N37 := Fr.snoc X37 N34 g_b1
  have O37 := O34.wr W37 g_b1
  have K37 : Keep h0 h37 [] := K34.wr W37 (Or.inr sz_b1)
  have V_b1_37 : Arv Z h37 b1 k1 (.object "com/example/ratebook/ratebook/model/EventType") (12 : Int32) [(.ref w_PLATFORM_DEPLOY), (.ref w_PLATFORM_DELETE), (.ref w_SERVER_DEPLOY), (.ref w_SERVER_START), (.ref w_SERVER_STOP), (.ref w_SERVER_DELETE), (.ref w_DISK_ATTACH), (.ref w_DISK_DETACH), (.ref w_SNAPSHOT_CREATE), (.ref w_SNAPSHOT_DELETE), (.ref w_NIC_ATTACH), (.ref w_NIC_DETACH)] .null := Arv.set Ar36 q36 S36 Nn36 H36 G36 rfl W37 11 rfl (Nat.le_of_ble_eq_true rfl)
  obtain ⟨cl38, Ar38, -, S38, -, H38, -⟩ := V_b1_37
  have hin38 : ¬ (((p0 &&& (2147483647 : Int32)) % (12 : Int32)) < 0 ∨ cl38.slots.size ≤ (((p0 &&& (2147483647 : Int32)) % (12 : Int32))).toNatClampNeg) := inb_of S38 (by rw [hc3]; decide)
  have hat38 : cl38.slots[(((p0 &&& (2147483647 : Int32)) % (12 : Int32))).toNatClampNeg]? = some (.ref w_SERVER_DEPLOY) := H38.at hin38 (by rw [hc3]; rfl)
  obtain ⟨cq39, kq39, q39a, q39b, q39c⟩ := isOf hZ e37 (E_w_SERVER_DEPLOY.ext O37.2)
  obtain ⟨_, _, ⟨T39, L39, k39, n39⟩, -, X39, ⟨Lc39, hQ39, l39, y39, z39⟩, st39⟩ := X37.virtualBack hx (y := y0) (z := y0) hown (mvT hZ (hw _ (List.mem_of_getElem? (i := 29) rfl))) (mvT hZ (hw _ (List.mem_of_getElem? (i := 30) rfl))) (notFace_of_selects (args := #[]) (mvT hZ (hw _ (List.mem_of_getElem? (i := 32) rfl)))) (mvT hZ (hw _ (List.mem_of_getElem? (i := 32) rfl))) (mvT hZ (hw _ (List.mem_of_getElem? (i := 31) rfl))) (by decide) (backOf (W := 0) (rm5 l Z a0 hw [] w_PLATFORM_DEPLOY w_PLATFORM_DELETE w_SERVER_DEPLOY w_SERVER_START w_SERVER_STOP w_SERVER_DELETE w_DISK_ATTACH w_DISK_DETACH w_SNAPSHOT_CREATE w_SNAPSHOT_DELETE w_NIC_ATTACH w_NIC_DETACH hp h37 n0 O37) hZ (hw _ (List.mem_of_getElem? (i := 33) rfl)) (hw _ (List.mem_of_getElem? (i := 3) rfl)) (by decide) (by decide)) q39a q39c (g := (mkF m 145 #[.val (.int p0), .val (.ref b1), .val (.int ((p0 &&& (2147483647 : Int32)) % (12 : Int32))), .val (.ref w_SERVER_DEPLOY), .val (.int (0 : Int32))] [(.ref w_SERVER_DEPLOY)])) rfl (by rw [hml]; rfl) (Steps.refl _) (argsL := []) (rest := []) (lenOf pd_0 rfl) rfl (by show 2 * 0 + _ ≤ _; exact Nat.le_of_eq rfl) (hb hby at_145) (fun _ _ => ⟨rfl, e37, (by decide : 1 + 0 ≤ _), (by decide : 12 + 0 ≤ _)⟩)
  dsimp only [Pt.U, Pt.locs, Pt.cells, Pt.slots] at X39 l39 y39 z39 st39 hQ39
  subst l39 y39 z39
  obtain ⟨rfl, Nq39, eq39⟩ := hQ39
  have N39 := Fr.app N37 Nq39
  obtain ⟨fs, hr, hrun, hended, hW, hsame⟩ := X39.leave (v := some (.int (1 : Int32))) (fun h => by rw [Bd.returns] at h; cases h)
  refine ⟨_, _, pre0 _ ?_, hrun, hended, _, _, rfl, ?_, ⟨_, rfl⟩, hW, hsame.mono (by decide) (by decide)⟩
  · show Sp p e below s₁ (mkF m 0 #[.val (.int p0), .unset, .unset, .unset, .unset] []) _
    refine XS.bipush X0.here hx rfl (hb hby at_0) ?_
    show Sp p e below s₁ (mkF m 2 #[.val (.int p0), .unset, .unset, .unset, .unset] [(.int (12 : Int32))]) _
    refine st1 _ ?_
    show Sp p e below T1 (mkF m 5 #[.val (.int p0), .unset, .unset, .unset, .unset] [(.ref b1)]) _
    refine XS.dup X1.here hx rfl (hb hby at_5) rfl rfl ?_
    show Sp p e below T1 (mkF m 6 #[.val (.int p0), .unset, .unset, .unset, .unset] [(.ref b1), (.ref b1)]) _
    refine XS.iconst X1.here hx rfl (hb hby at_6) ?_
    show Sp p e below T1 (mkF m 7 #[.val (.int p0), .unset, .unset, .unset, .unset] [(.int (0 : Int32)), (.ref b1), (.ref b1)]) _
    refine st2 _ ?_
    show Sp p e below T2 (mkF m 10 #[.val (.int p0), .unset, .unset, .unset, .unset] [(.ref w_PLATFORM_DEPLOY), (.int (0 : Int32)), (.ref b1), (.ref b1)]) _
    refine st4 _ ?_
    show Sp p e below T4 (mkF m 11 #[.val (.int p0), .unset, .unset, .unset, .unset] [(.ref b1)]) _
    refine XS.dup X4.here hx rfl (hb hby at_11) rfl rfl ?_
    show Sp p e below T4 (mkF m 12 #[.val (.int p0), .unset, .unset, .unset, .unset] [(.ref b1), (.ref b1)]) _
    refine XS.iconst X4.here hx rfl (hb hby at_12) ?_
    show Sp p e below T4 (mkF m 13 #[.val (.int p0), .unset, .unset, .unset, .unset] [(.int (1 : Int32)), (.ref b1), (.ref b1)]) _
    refine st5 _ ?_
    show Sp p e below T5 (mkF m 16 #[.val (.int p0), .unset, .unset, .unset, .unset] [(.ref w_PLATFORM_DELETE), (.int (1 : Int32)), (.ref b1), (.ref b1)]) _
    refine st7 _ ?_
    show Sp p e below T7 (mkF m 17 #[.val (.int p0), .unset, .unset, .unset, .unset] [(.ref b1)]) _
    refine XS.dup X7.here hx rfl (hb hby at_17) rfl rfl ?_
    show Sp p e below T7 (mkF m 18 #[.val (.int p0), .unset, .unset, .unset, .unset] [(.ref b1), (.ref b1)]) _
    refine XS.iconst X7.here hx rfl (hb hby at_18) ?_
    show Sp p e below T7 (mkF m 19 #[.val (.int p0), .unset, .unset, .unset, .unset] [(.int (2 : Int32)), (.ref b1), (.ref b1)]) _
    refine st8 _ ?_
    show Sp p e below T8 (mkF m 22 #[.val (.int p0), .unset, .unset, .unset, .unset] [(.ref w_SERVER_DEPLOY), (.int (2 : Int32)), (.ref b1), (.ref b1)]) _
    refine st10 _ ?_
    show Sp p e below T10 (mkF m 23 #[.val (.int p0), .unset, .unset, .unset, .unset] [(.ref b1)]) _
    refine XS.dup X10.here hx rfl (hb hby at_23) rfl rfl ?_
    show Sp p e below T10 (mkF m 24 #[.val (.int p0), .unset, .unset, .unset, .unset] [(.ref b1), (.ref b1)]) _
    refine XS.iconst X10.here hx rfl (hb hby at_24) ?_
    show Sp p e below T10 (mkF m 25 #[.val (.int p0), .unset, .unset, .unset, .unset] [(.int (3 : Int32)), (.ref b1), (.ref b1)]) _
    refine st11 _ ?_
    show Sp p e below T11 (mkF m 28 #[.val (.int p0), .unset, .unset, .unset, .unset] [(.ref w_SERVER_START), (.int (3 : Int32)), (.ref b1), (.ref b1)]) _
    refine st13 _ ?_
    show Sp p e below T13 (mkF m 29 #[.val (.int p0), .unset, .unset, .unset, .unset] [(.ref b1)]) _
    refine XS.dup X13.here hx rfl (hb hby at_29) rfl rfl ?_
    show Sp p e below T13 (mkF m 30 #[.val (.int p0), .unset, .unset, .unset, .unset] [(.ref b1), (.ref b1)]) _
    refine XS.iconst X13.here hx rfl (hb hby at_30) ?_
    show Sp p e below T13 (mkF m 31 #[.val (.int p0), .unset, .unset, .unset, .unset] [(.int (4 : Int32)), (.ref b1), (.ref b1)]) _
    refine st14 _ ?_
    show Sp p e below T14 (mkF m 34 #[.val (.int p0), .unset, .unset, .unset, .unset] [(.ref w_SERVER_STOP), (.int (4 : Int32)), (.ref b1), (.ref b1)]) _
    refine st16 _ ?_
    show Sp p e below T16 (mkF m 35 #[.val (.int p0), .unset, .unset, .unset, .unset] [(.ref b1)]) _
    refine XS.dup X16.here hx rfl (hb hby at_35) rfl rfl ?_
    show Sp p e below T16 (mkF m 36 #[.val (.int p0), .unset, .unset, .unset, .unset] [(.ref b1), (.ref b1)]) _
    refine XS.iconst X16.here hx rfl (hb hby at_36) ?_
    show Sp p e below T16 (mkF m 37 #[.val (.int p0), .unset, .unset, .unset, .unset] [(.int (5 : Int32)), (.ref b1), (.ref b1)]) _
    refine st17 _ ?_
    show Sp p e below T17 (mkF m 40 #[.val (.int p0), .unset, .unset, .unset, .unset] [(.ref w_SERVER_DELETE), (.int (5 : Int32)), (.ref b1), (.ref b1)]) _
    refine st19 _ ?_
    show Sp p e below T19 (mkF m 41 #[.val (.int p0), .unset, .unset, .unset, .unset] [(.ref b1)]) _
    refine XS.dup X19.here hx rfl (hb hby at_41) rfl rfl ?_
    show Sp p e below T19 (mkF m 42 #[.val (.int p0), .unset, .unset, .unset, .unset] [(.ref b1), (.ref b1)]) _
    refine XS.bipush X19.here hx rfl (hb hby at_42) ?_
    show Sp p e below T19 (mkF m 44 #[.val (.int p0), .unset, .unset, .unset, .unset] [(.int (6 : Int32)), (.ref b1), (.ref b1)]) _
    refine st20 _ ?_
    show Sp p e below T20 (mkF m 47 #[.val (.int p0), .unset, .unset, .unset, .unset] [(.ref w_DISK_ATTACH), (.int (6 : Int32)), (.ref b1), (.ref b1)]) _
    refine st22 _ ?_
    show Sp p e below T22 (mkF m 48 #[.val (.int p0), .unset, .unset, .unset, .unset] [(.ref b1)]) _
    refine XS.dup X22.here hx rfl (hb hby at_48) rfl rfl ?_
    show Sp p e below T22 (mkF m 49 #[.val (.int p0), .unset, .unset, .unset, .unset] [(.ref b1), (.ref b1)]) _
    refine XS.bipush X22.here hx rfl (hb hby at_49) ?_
    show Sp p e below T22 (mkF m 51 #[.val (.int p0), .unset, .unset, .unset, .unset] [(.int (7 : Int32)), (.ref b1), (.ref b1)]) _
    refine st23 _ ?_
    show Sp p e below T23 (mkF m 54 #[.val (.int p0), .unset, .unset, .unset, .unset] [(.ref w_DISK_DETACH), (.int (7 : Int32)), (.ref b1), (.ref b1)]) _
    refine st25 _ ?_
    show Sp p e below T25 (mkF m 55 #[.val (.int p0), .unset, .unset, .unset, .unset] [(.ref b1)]) _
    refine XS.dup X25.here hx rfl (hb hby at_55) rfl rfl ?_
    show Sp p e below T25 (mkF m 56 #[.val (.int p0), .unset, .unset, .unset, .unset] [(.ref b1), (.ref b1)]) _
    refine XS.bipush X25.here hx rfl (hb hby at_56) ?_
    show Sp p e below T25 (mkF m 58 #[.val (.int p0), .unset, .unset, .unset, .unset] [(.int (8 : Int32)), (.ref b1), (.ref b1)]) _
    refine st26 _ ?_
    show Sp p e below T26 (mkF m 61 #[.val (.int p0), .unset, .unset, .unset, .unset] [(.ref w_SNAPSHOT_CREATE), (.int (8 : Int32)), (.ref b1), (.ref b1)]) _
    refine st28 _ ?_
    show Sp p e below T28 (mkF m 62 #[.val (.int p0), .unset, .unset, .unset, .unset] [(.ref b1)]) _
    refine XS.dup X28.here hx rfl (hb hby at_62) rfl rfl ?_
    show Sp p e below T28 (mkF m 63 #[.val (.int p0), .unset, .unset, .unset, .unset] [(.ref b1), (.ref b1)]) _
    refine XS.bipush X28.here hx rfl (hb hby at_63) ?_
    show Sp p e below T28 (mkF m 65 #[.val (.int p0), .unset, .unset, .unset, .unset] [(.int (9 : Int32)), (.ref b1), (.ref b1)]) _
    refine st29 _ ?_
    show Sp p e below T29 (mkF m 68 #[.val (.int p0), .unset, .unset, .unset, .unset] [(.ref w_SNAPSHOT_DELETE), (.int (9 : Int32)), (.ref b1), (.ref b1)]) _
    refine st31 _ ?_
    show Sp p e below T31 (mkF m 69 #[.val (.int p0), .unset, .unset, .unset, .unset] [(.ref b1)]) _
    refine XS.dup X31.here hx rfl (hb hby at_69) rfl rfl ?_
    show Sp p e below T31 (mkF m 70 #[.val (.int p0), .unset, .unset, .unset, .unset] [(.ref b1), (.ref b1)]) _
    refine XS.bipush X31.here hx rfl (hb hby at_70) ?_
    show Sp p e below T31 (mkF m 72 #[.val (.int p0), .unset, .unset, .unset, .unset] [(.int (10 : Int32)), (.ref b1), (.ref b1)]) _
    refine st32 _ ?_
    show Sp p e below T32 (mkF m 75 #[.val (.int p0), .unset, .unset, .unset, .unset] [(.ref w_NIC_ATTACH), (.int (10 : Int32)), (.ref b1), (.ref b1)]) _
    refine st34 _ ?_
    show Sp p e below T34 (mkF m 76 #[.val (.int p0), .unset, .unset, .unset, .unset] [(.ref b1)]) _
    refine XS.dup X34.here hx rfl (hb hby at_76) rfl rfl ?_
    show Sp p e below T34 (mkF m 77 #[.val (.int p0), .unset, .unset, .unset, .unset] [(.ref b1), (.ref b1)]) _
    refine XS.bipush X34.here hx rfl (hb hby at_77) ?_
    show Sp p e below T34 (mkF m 79 #[.val (.int p0), .unset, .unset, .unset, .unset] [(.int (11 : Int32)), (.ref b1), (.ref b1)]) _
    refine st35 _ ?_
    show Sp p e below T35 (mkF m 82 #[.val (.int p0), .unset, .unset, .unset, .unset] [(.ref w_NIC_DETACH), (.int (11 : Int32)), (.ref b1), (.ref b1)]) _
    refine st37 _ ?_
    show Sp p e below T37 (mkF m 83 #[.val (.int p0), .unset, .unset, .unset, .unset] [(.ref b1)]) _
    refine XS.astoreN X37.here hx rfl (hb hby at_83) rfl rfl (l' := #[.val (.int p0), .val (.ref b1), .unset, .unset, .unset]) rfl ?_
    show Sp p e below T37 (mkF m 84 #[.val (.int p0), .val (.ref b1), .unset, .unset, .unset] []) _
    refine XS.iloadN X37.here hx rfl (hb hby at_84) rfl ?_
    show Sp p e below T37 (mkF m 85 #[.val (.int p0), .val (.ref b1), .unset, .unset, .unset] [(.int p0)]) _
    refine X37.ldcI hx hown (mvT hZ (hw _ (List.mem_of_getElem? (i := 28) rfl))) rfl (hb hby at_85) ?_
    show Sp p e below T37 (mkF m 87 #[.val (.int p0), .val (.ref b1), .unset, .unset, .unset] [(.int (2147483647 : Int32)), (.int p0)]) _
    refine XS.iand X37.here hx rfl (hb hby at_87) rfl ?_
    show Sp p e below T37 (mkF m 88 #[.val (.int p0), .val (.ref b1), .unset, .unset, .unset] [(.int (p0 &&& (2147483647 : Int32)))]) _
    refine XS.bipush X37.here hx rfl (hb hby at_88) ?_
    show Sp p e below T37 (mkF m 90 #[.val (.int p0), .val (.ref b1), .unset, .unset, .unset] [(.int (12 : Int32)), (.int (p0 &&& (2147483647 : Int32)))]) _
    refine iremM X37 hx rfl (hb hby at_90) rfl (by decide) ?_
    show Sp p e below T37 (mkF m 91 #[.val (.int p0), .val (.ref b1), .unset, .unset, .unset] [(.int ((p0 &&& (2147483647 : Int32)) % (12 : Int32)))]) _
    refine XS.istoreN X37.here hx rfl (hb hby at_91) rfl (l' := #[.val (.int p0), .val (.ref b1), .val (.int ((p0 &&& (2147483647 : Int32)) % (12 : Int32))), .unset, .unset]) rfl ?_
    show Sp p e below T37 (mkF m 92 #[.val (.int p0), .val (.ref b1), .val (.int ((p0 &&& (2147483647 : Int32)) % (12 : Int32))), .unset, .unset] []) _
    refine XS.aloadN X37.here hx rfl (hb hby at_92) rfl rfl ?_
    show Sp p e below T37 (mkF m 93 #[.val (.int p0), .val (.ref b1), .val (.int ((p0 &&& (2147483647 : Int32)) % (12 : Int32))), .unset, .unset] [(.ref b1)]) _
    refine XS.iloadN X37.here hx rfl (hb hby at_93) rfl ?_
    show Sp p e below T37 (mkF m 94 #[.val (.int p0), .val (.ref b1), .val (.int ((p0 &&& (2147483647 : Int32)) % (12 : Int32))), .unset, .unset] [(.int ((p0 &&& (2147483647 : Int32)) % (12 : Int32))), (.ref b1)]) _
    refine X37.aaload hx (j := ((p0 &&& (2147483647 : Int32)) % (12 : Int32))) (v := (.ref w_SERVER_DEPLOY)) (by rw [e37]; exact Ar38.1) (State.isArrayOf_alike hZ.alike Ar38.2.1) rfl Ar38.2.2 hin38 hat38 (g := (mkF m 94 #[.val (.int p0), .val (.ref b1), .val (.int ((p0 &&& (2147483647 : Int32)) % (12 : Int32))), .unset, .unset] [(.int ((p0 &&& (2147483647 : Int32)) % (12 : Int32))), (.ref b1)])) rfl rfl (hb hby at_94) _ ?_
    show Sp p e below T37 (mkF m 95 #[.val (.int p0), .val (.ref b1), .val (.int ((p0 &&& (2147483647 : Int32)) % (12 : Int32))), .unset, .unset] [(.ref w_SERVER_DEPLOY)]) _
    refine XS.astoreN X37.here hx rfl (hb hby at_95) rfl rfl (l' := #[.val (.int p0), .val (.ref b1), .val (.int ((p0 &&& (2147483647 : Int32)) % (12 : Int32))), .val (.ref w_SERVER_DEPLOY), .unset]) rfl ?_
    show Sp p e below T37 (mkF m 96 #[.val (.int p0), .val (.ref b1), .val (.int ((p0 &&& (2147483647 : Int32)) % (12 : Int32))), .val (.ref w_SERVER_DEPLOY), .unset] []) _
    refine XS.iconst X37.here hx rfl (hb hby at_96) ?_
    show Sp p e below T37 (mkF m 97 #[.val (.int p0), .val (.ref b1), .val (.int ((p0 &&& (2147483647 : Int32)) % (12 : Int32))), .val (.ref w_SERVER_DEPLOY), .unset] [(.int (0 : Int32))]) _
    refine XS.istore X37.here hx rfl (hb hby at_97) rfl (l' := #[.val (.int p0), .val (.ref b1), .val (.int ((p0 &&& (2147483647 : Int32)) % (12 : Int32))), .val (.ref w_SERVER_DEPLOY), .val (.int (0 : Int32))]) rfl ?_
    show Sp p e below T37 (mkF m 99 #[.val (.int p0), .val (.ref b1), .val (.int ((p0 &&& (2147483647 : Int32)) % (12 : Int32))), .val (.ref w_SERVER_DEPLOY), .val (.int (0 : Int32))] []) _
    refine XS.iloadN X37.here hx rfl (hb hby at_99) rfl ?_
    show Sp p e below T37 (mkF m 100 #[.val (.int p0), .val (.ref b1), .val (.int ((p0 &&& (2147483647 : Int32)) % (12 : Int32))), .val (.ref w_SERVER_DEPLOY), .val (.int (0 : Int32))] [(.int ((p0 &&& (2147483647 : Int32)) % (12 : Int32)))]) _
    refine XS.bipush X37.here hx rfl (hb hby at_100) ?_
    show Sp p e below T37 (mkF m 102 #[.val (.int p0), .val (.ref b1), .val (.int ((p0 &&& (2147483647 : Int32)) % (12 : Int32))), .val (.ref w_SERVER_DEPLOY), .val (.int (0 : Int32))] [(.int (6 : Int32)), (.int ((p0 &&& (2147483647 : Int32)) % (12 : Int32)))]) _
    refine XS.icmpYes X37.here hx rfl (pc0 := 102) (pc' := 111) rfl (hb hby at_102) rfl (feq (by rw [hc3]; decide : ¬ (((p0 &&& (2147483647 : Int32)) % (12 : Int32)) = (6 : Int32)))).2 (by decide) (by decide) ?_
    show Sp p e below T37 (mkF m 111 #[.val (.int p0), .val (.ref b1), .val (.int ((p0 &&& (2147483647 : Int32)) % (12 : Int32))), .val (.ref w_SERVER_DEPLOY), .val (.int (0 : Int32))] []) _
    refine XS.iloadN X37.here hx rfl (hb hby at_111) rfl ?_
    show Sp p e below T37 (mkF m 112 #[.val (.int p0), .val (.ref b1), .val (.int ((p0 &&& (2147483647 : Int32)) % (12 : Int32))), .val (.ref w_SERVER_DEPLOY), .val (.int (0 : Int32))] [(.int ((p0 &&& (2147483647 : Int32)) % (12 : Int32)))]) _
    refine XS.bipush X37.here hx rfl (hb hby at_112) ?_
    show Sp p e below T37 (mkF m 114 #[.val (.int p0), .val (.ref b1), .val (.int ((p0 &&& (2147483647 : Int32)) % (12 : Int32))), .val (.ref w_SERVER_DEPLOY), .val (.int (0 : Int32))] [(.int (7 : Int32)), (.int ((p0 &&& (2147483647 : Int32)) % (12 : Int32)))]) _
    refine XS.icmpYes X37.here hx rfl (pc0 := 114) (pc' := 123) rfl (hb hby at_114) rfl (feq (by rw [hc3]; decide : ¬ (((p0 &&& (2147483647 : Int32)) % (12 : Int32)) = (7 : Int32)))).2 (by decide) (by decide) ?_
    show Sp p e below T37 (mkF m 123 #[.val (.int p0), .val (.ref b1), .val (.int ((p0 &&& (2147483647 : Int32)) % (12 : Int32))), .val (.ref w_SERVER_DEPLOY), .val (.int (0 : Int32))] []) _
    refine XS.iloadN X37.here hx rfl (hb hby at_123) rfl ?_
    show Sp p e below T37 (mkF m 124 #[.val (.int p0), .val (.ref b1), .val (.int ((p0 &&& (2147483647 : Int32)) % (12 : Int32))), .val (.ref w_SERVER_DEPLOY), .val (.int (0 : Int32))] [(.int ((p0 &&& (2147483647 : Int32)) % (12 : Int32)))]) _
    refine XS.bipush X37.here hx rfl (hb hby at_124) ?_
    show Sp p e below T37 (mkF m 126 #[.val (.int p0), .val (.ref b1), .val (.int ((p0 &&& (2147483647 : Int32)) % (12 : Int32))), .val (.ref w_SERVER_DEPLOY), .val (.int (0 : Int32))] [(.int (10 : Int32)), (.int ((p0 &&& (2147483647 : Int32)) % (12 : Int32)))]) _
    refine XS.icmpYes X37.here hx rfl (pc0 := 126) (pc' := 135) rfl (hb hby at_126) rfl (feq (by rw [hc3]; decide : ¬ (((p0 &&& (2147483647 : Int32)) % (12 : Int32)) = (10 : Int32)))).2 (by decide) (by decide) ?_
    show Sp p e below T37 (mkF m 135 #[.val (.int p0), .val (.ref b1), .val (.int ((p0 &&& (2147483647 : Int32)) % (12 : Int32))), .val (.ref w_SERVER_DEPLOY), .val (.int (0 : Int32))] []) _
    refine XS.iloadN X37.here hx rfl (hb hby at_135) rfl ?_
    show Sp p e below T37 (mkF m 136 #[.val (.int p0), .val (.ref b1), .val (.int ((p0 &&& (2147483647 : Int32)) % (12 : Int32))), .val (.ref w_SERVER_DEPLOY), .val (.int (0 : Int32))] [(.int ((p0 &&& (2147483647 : Int32)) % (12 : Int32)))]) _
    refine XS.bipush X37.here hx rfl (hb hby at_136) ?_
    show Sp p e below T37 (mkF m 138 #[.val (.int p0), .val (.ref b1), .val (.int ((p0 &&& (2147483647 : Int32)) % (12 : Int32))), .val (.ref w_SERVER_DEPLOY), .val (.int (0 : Int32))] [(.int (11 : Int32)), (.int ((p0 &&& (2147483647 : Int32)) % (12 : Int32)))]) _
    refine XS.icmpYes X37.here hx rfl (pc0 := 138) (pc' := 144) rfl (hb hby at_138) rfl (feq (by rw [hc3]; decide : ¬ (((p0 &&& (2147483647 : Int32)) % (12 : Int32)) = (11 : Int32)))).2 (by decide) (by decide) ?_
    show Sp p e below T37 (mkF m 144 #[.val (.int p0), .val (.ref b1), .val (.int ((p0 &&& (2147483647 : Int32)) % (12 : Int32))), .val (.ref w_SERVER_DEPLOY), .val (.int (0 : Int32))] []) _
    refine XS.aloadN X37.here hx rfl (hb hby at_144) rfl rfl ?_
    show Sp p e below T37 (mkF m 145 #[.val (.int p0), .val (.ref b1), .val (.int ((p0 &&& (2147483647 : Int32)) % (12 : Int32))), .val (.ref w_SERVER_DEPLOY), .val (.int (0 : Int32))] [(.ref w_SERVER_DEPLOY)]) _
    refine st39.trans ?_
    show Sp p e below T39 (mkF m 148 #[.val (.int p0), .val (.ref b1), .val (.int ((p0 &&& (2147483647 : Int32)) % (12 : Int32))), .val (.ref w_SERVER_DEPLOY), .val (.int (0 : Int32))] [(.int (0 : Int32))]) _
    refine XS.iload X39.here hx rfl (hb hby at_148) rfl ?_
    show Sp p e below T39 (mkF m 150 #[.val (.int p0), .val (.ref b1), .val (.int ((p0 &&& (2147483647 : Int32)) % (12 : Int32))), .val (.ref w_SERVER_DEPLOY), .val (.int (0 : Int32))] [(.int (0 : Int32)), (.int (0 : Int32))]) _
    refine XS.icmpNo X39.here hx rfl (hb hby at_150) rfl (teq (by decide : (0 : Int32) = (0 : Int32))).2 ?_
    show Sp p e below T39 (mkF m 153 #[.val (.int p0), .val (.ref b1), .val (.int ((p0 &&& (2147483647 : Int32)) % (12 : Int32))), .val (.ref w_SERVER_DEPLOY), .val (.int (0 : Int32))] []) _
    refine XS.iconst X39.here hx rfl (hb hby at_153) ?_
    show Sp p e below T39 (mkF m 154 #[.val (.int p0), .val (.ref b1), .val (.int ((p0 &&& (2147483647 : Int32)) % (12 : Int32))), .val (.ref w_SERVER_DEPLOY), .val (.int (0 : Int32))] [(.int (1 : Int32))]) _
    refine XS.goto X39.here hx rfl (pc0 := 154) (pc' := 158) rfl (hb hby at_154) (by decide) (by decide) ?_
    show Sp p e below T39 (mkF m 158 #[.val (.int p0), .val (.ref b1), .val (.int ((p0 &&& (2147483647 : Int32)) % (12 : Int32))), .val (.ref w_SERVER_DEPLOY), .val (.int (0 : Int32))] [(.int (1 : Int32))]) _
    exact retN X39 hx (t := .boolean) Bd.returns (by simp) (hb hby at_158) hr
  · skip
    exact ⟨rfl, N39⟩
def Q7 (Z : State) (w_PLATFORM_DEPLOY : Addr) (w_PLATFORM_DELETE : Addr) (w_SERVER_DEPLOY : Addr) (w_SERVER_START : Addr) (w_SERVER_STOP : Addr) (w_SERVER_DELETE : Addr) (w_DISK_ATTACH : Addr) (w_DISK_DETACH : Addr) (w_SNAPSHOT_CREATE : Addr) (w_SNAPSHOT_DELETE : Addr) (w_NIC_ATTACH : Addr) (w_NIC_DETACH : Addr) (h0 : Heap) (n0 : Nat) (v : Option Value) (h : Heap) (L : List Loc) : Prop := v = some (.int (0 : Int32)) ∧ Fr n0 L ∧ h = h0
set_option maxRecDepth 65536 in
set_option maxHeartbeats 40000000 in
theorem rm7 (l : Launch) (Z : State) (a0 : Array Value) (hw : ∀ d ∈ tables_1, d.before a0 Z = true) (ws : List Jvm.Cond) (w_PLATFORM_DEPLOY w_PLATFORM_DELETE w_SERVER_DEPLOY w_SERVER_START w_SERVER_STOP w_SERVER_DELETE w_DISK_ATTACH w_DISK_DETACH w_SNAPSHOT_CREATE w_SNAPSHOT_DELETE w_NIC_ATTACH w_NIC_DETACH : Addr) (hp : Perm Z w_PLATFORM_DEPLOY w_PLATFORM_DELETE w_SERVER_DEPLOY w_SERVER_START w_SERVER_STOP w_SERVER_DELETE w_DISK_ATTACH w_DISK_DETACH w_SNAPSHOT_CREATE w_SNAPSHOT_DELETE w_NIC_ATTACH w_NIC_DETACH) (h0 : Heap) (n0 : Nat) (O0 : Old Z n0 h0) :
    MetFree l y0 (head1 (Jvm.Cond.code y0 prog_20_method_6_code 1 (some .boolean) :: ws) ({ frames := 0, cells := 0, slots := 0, locals := 0 } : Room)) (fun a U => a = #[(.ref w_SERVER_START)] ∧ Z.Warmed39 U.vm ∧ U.heap = h0) (fun _ _ _ _ _ => True) (fun _ U o U' => ∃ v L, o = .returned v ∧ Q7 Z w_PLATFORM_DEPLOY w_PLATFORM_DELETE w_SERVER_DEPLOY w_SERVER_START w_SERVER_STOP w_SERVER_DELETE w_DISK_ATTACH w_DISK_DETACH w_SNAPSHOT_CREATE w_SNAPSHOT_DELETE w_NIC_ATTACH w_NIC_DETACH  h0 n0 v U'.heap L ∧ FrameEnd U o U' L ({ frames := 0, cells := 0, slots := 0, locals := 0 } : Room).cells ({ frames := 0, cells := 0, slots := 0, locals := 0 } : Room).slots) := by
  refine MetFree.of_bodySF (plainFor_of_name pn_1) hisR ?_
  intro p e s m args below meth c s₁ Bd hml0 hP hK
  obtain ⟨rfl, hZ, hh⟩ := hP
  have hx := Bd.exec
  have hby := Bd.bytes
  have hml : c.maxLocals = 1 := hml0
  have hown : s.vm.findClass "com/example/ratebook/ratebook/model/EventType" = some m.cls := findClass_of_methodNamed Bd.named
  have hnm := (name_of_methodNamed Bd.named Bd.method).1
  have X0 : Stand p l e ({ frames := 0, cells := 0, slots := 0, locals := 0 } : Room) s m #[(.ref w_SERVER_START)] below meth c s₁ [] 0 0 := Stand.of_body Bd
  have e0 : s₁.heap = h0 := by rw [← hh, Bd.state]; rfl
  have N0 := Fr.nil n0
  have hp' := hp
  obtain ⟨S_w_PLATFORM_DEPLOY, E_w_PLATFORM_DEPLOY, S_w_PLATFORM_DELETE, E_w_PLATFORM_DELETE, S_w_SERVER_DEPLOY, E_w_SERVER_DEPLOY, S_w_SERVER_START, E_w_SERVER_START, S_w_SERVER_STOP, E_w_SERVER_STOP, S_w_SERVER_DELETE, E_w_SERVER_DELETE, S_w_DISK_ATTACH, E_w_DISK_ATTACH, S_w_DISK_DETACH, E_w_DISK_DETACH, S_w_SNAPSHOT_CREATE, E_w_SNAPSHOT_CREATE, S_w_SNAPSHOT_DELETE, E_w_SNAPSHOT_DELETE, S_w_NIC_ATTACH, E_w_NIC_ATTACH, S_w_NIC_DETACH, E_w_NIC_DETACH, F_ordinal_w_PLATFORM_DEPLOY, F_ordinal_w_DISK_ATTACH, F_ordinal_w_DISK_DETACH, F_ordinal_w_NIC_ATTACH, F_ordinal_w_NIC_DETACH, F_ordinal_w_SERVER_START, F_ordinal_w_SERVER_DEPLOY, F_ordinal_w_SERVER_STOP, F_ordinal_w_SNAPSHOT_CREATE, F_ordinal_w_PLATFORM_DELETE, F_ordinal_w_SNAPSHOT_DELETE, F_ordinal_w_SERVER_DELETE⟩ := hp'
  have pre0 : ∀ t, Steps p.tables e below (s₁.setTop (mkF m 0 #[.val (.ref w_SERVER_START)] [])) t → Steps p.tables e below (s₁.setTop (entryFrame m #[(.ref w_SERVER_START)] 1)) t := fun t k => castTop (ef_1_0 m w_SERVER_START) k
  obtain ⟨T1, X1, e1, st1⟩ := getS2 X0 hx hZ hown (host := "") (Or.inl (hw _ (List.mem_of_getElem? (i := 34) rfl))) Via.refl e0 (S_w_DISK_ATTACH.ext O0.2) (g := (mkF m 1 #[.val (.ref w_SERVER_START)] [(.ref w_SERVER_START)])) rfl (hb hby d1_1)
  obtain ⟨T2, X2, e2, st2⟩ := getS2 X1 hx hZ hown (host := "") (Or.inl (hw _ (List.mem_of_getElem? (i := 35) rfl))) Via.refl e1 (S_w_DISK_DETACH.ext O0.2) (g := (mkF m 8 #[.val (.ref w_SERVER_START)] [(.ref w_SERVER_START)])) rfl (hb hby d1_8)
  obtain ⟨T3, X3, e3, st3⟩ := getS2 X2 hx hZ hown (host := "") (Or.inl (hw _ (List.mem_of_getElem? (i := 36) rfl))) Via.refl e2 (S_w_NIC_ATTACH.ext O0.2) (g := (mkF m 15 #[.val (.ref w_SERVER_START)] [(.ref w_SERVER_START)])) rfl (hb hby d1_15)
  obtain ⟨T4, X4, e4, st4⟩ := getS2 X3 hx hZ hown (host := "") (Or.inl (hw _ (List.mem_of_getElem? (i := 37) rfl))) Via.refl e3 (S_w_NIC_DETACH.ext O0.2) (g := (mkF m 22 #[.val (.ref w_SERVER_START)] [(.ref w_SERVER_START)])) rfl (hb hby d1_22)
  obtain ⟨fs, hr, hrun, hended, hW, hsame⟩ := X4.leave (v := some (.int (0 : Int32))) (fun h => by rw [Bd.returns] at h; cases h)
  refine ⟨_, _, pre0 _ ?_, hrun, hended, _, _, rfl, ?_, ⟨_, rfl⟩, hW, hsame.mono (by decide) (by decide)⟩
  · show Sp p e below s₁ (mkF m 0 #[.val (.ref w_SERVER_START)] []) _
    refine XS.aloadN X0.here hx rfl (hb hby d1_0) rfl rfl ?_
    show Sp p e below s₁ (mkF m 1 #[.val (.ref w_SERVER_START)] [(.ref w_SERVER_START)]) _
    refine st1 _ ?_
    show Sp p e below T1 (mkF m 4 #[.val (.ref w_SERVER_START)] [(.ref w_DISK_ATTACH), (.ref w_SERVER_START)]) _
    refine Jvm.RoadKit.acmp (g := (mkF m 4 #[.val (.ref w_SERVER_START)] [(.ref w_DISK_ATTACH), (.ref w_SERVER_START)])) X1 hx rfl rfl rfl (pc0 := 4) (pc' := 7) (same := false) rfl (hb hby d1_4) rfl (decide_eq_false fun q => (Ne.symm (ne_w_DISK_ATTACH_w_SERVER_START hp)) (Value.ref.inj q)) (by decide) (by decide) ?_
    show Sp p e below T1 (mkF m 7 #[.val (.ref w_SERVER_START)] []) _
    refine XS.aloadN X1.here hx rfl (hb hby d1_7) rfl rfl ?_
    show Sp p e below T1 (mkF m 8 #[.val (.ref w_SERVER_START)] [(.ref w_SERVER_START)]) _
    refine st2 _ ?_
    show Sp p e below T2 (mkF m 11 #[.val (.ref w_SERVER_START)] [(.ref w_DISK_DETACH), (.ref w_SERVER_START)]) _
    refine Jvm.RoadKit.acmp (g := (mkF m 11 #[.val (.ref w_SERVER_START)] [(.ref w_DISK_DETACH), (.ref w_SERVER_START)])) X2 hx rfl rfl rfl (pc0 := 11) (pc' := 14) (same := false) rfl (hb hby d1_11) rfl (decide_eq_false fun q => (Ne.symm (ne_w_DISK_DETACH_w_SERVER_START hp)) (Value.ref.inj q)) (by decide) (by decide) ?_
    show Sp p e below T2 (mkF m 14 #[.val (.ref w_SERVER_START)] []) _
    refine XS.aloadN X2.here hx rfl (hb hby d1_14) rfl rfl ?_
    show Sp p e below T2 (mkF m 15 #[.val (.ref w_SERVER_START)] [(.ref w_SERVER_START)]) _
    refine st3 _ ?_
    show Sp p e below T3 (mkF m 18 #[.val (.ref w_SERVER_START)] [(.ref w_NIC_ATTACH), (.ref w_SERVER_START)]) _
    refine Jvm.RoadKit.acmp (g := (mkF m 18 #[.val (.ref w_SERVER_START)] [(.ref w_NIC_ATTACH), (.ref w_SERVER_START)])) X3 hx rfl rfl rfl (pc0 := 18) (pc' := 21) (same := false) rfl (hb hby d1_18) rfl (decide_eq_false fun q => (Ne.symm (ne_w_NIC_ATTACH_w_SERVER_START hp)) (Value.ref.inj q)) (by decide) (by decide) ?_
    show Sp p e below T3 (mkF m 21 #[.val (.ref w_SERVER_START)] []) _
    refine XS.aloadN X3.here hx rfl (hb hby d1_21) rfl rfl ?_
    show Sp p e below T3 (mkF m 22 #[.val (.ref w_SERVER_START)] [(.ref w_SERVER_START)]) _
    refine st4 _ ?_
    show Sp p e below T4 (mkF m 25 #[.val (.ref w_SERVER_START)] [(.ref w_NIC_DETACH), (.ref w_SERVER_START)]) _
    refine Jvm.RoadKit.acmp (g := (mkF m 25 #[.val (.ref w_SERVER_START)] [(.ref w_NIC_DETACH), (.ref w_SERVER_START)])) X4 hx rfl rfl rfl (pc0 := 25) (pc' := 32) (same := false) rfl (hb hby d1_25) rfl (decide_eq_false fun q => (Ne.symm (ne_w_NIC_DETACH_w_SERVER_START hp)) (Value.ref.inj q)) (by decide) (by decide) ?_
    show Sp p e below T4 (mkF m 32 #[.val (.ref w_SERVER_START)] []) _
    refine XS.iconst X4.here hx rfl (hb hby d1_32) ?_
    show Sp p e below T4 (mkF m 33 #[.val (.ref w_SERVER_START)] [(.int (0 : Int32))]) _
    exact retN X4 hx (t := .boolean) Bd.returns (by simp) (hb hby d1_33) hr
  · show Q7 Z w_PLATFORM_DEPLOY w_PLATFORM_DELETE w_SERVER_DEPLOY w_SERVER_START w_SERVER_STOP w_SERVER_DELETE w_DISK_ATTACH w_DISK_DETACH w_SNAPSHOT_CREATE w_SNAPSHOT_DELETE w_NIC_ATTACH w_NIC_DETACH  h0 n0 _ T4.heap _
    rw [e4]
    exact ⟨rfl, N0, rfl⟩
set_option maxRecDepth 65536 in
set_option maxHeartbeats 40000000 in
theorem rm8 (l : Launch) (Z : State) (a0 : Array Value) (hw : ∀ d ∈ tables_1, d.before a0 Z = true) (ws : List Jvm.Cond) (w_PLATFORM_DEPLOY w_PLATFORM_DELETE w_SERVER_DEPLOY w_SERVER_START w_SERVER_STOP w_SERVER_DELETE w_DISK_ATTACH w_DISK_DETACH w_SNAPSHOT_CREATE w_SNAPSHOT_DELETE w_NIC_ATTACH w_NIC_DETACH : Addr) (hp : Perm Z w_PLATFORM_DEPLOY w_PLATFORM_DELETE w_SERVER_DEPLOY w_SERVER_START w_SERVER_STOP w_SERVER_DELETE w_DISK_ATTACH w_DISK_DETACH w_SNAPSHOT_CREATE w_SNAPSHOT_DELETE w_NIC_ATTACH w_NIC_DETACH) (p0 : Int32) (h0 : Heap) (n0 : Nat) (O0 : Old Z n0 h0) (hc1 : ¬ (((p0 &&& (2147483647 : Int32)) % (12 : Int32)) = (0 : Int32))) (hc2 : ¬ (((p0 &&& (2147483647 : Int32)) % (12 : Int32)) = (1 : Int32))) (hc3 : ¬ (((p0 &&& (2147483647 : Int32)) % (12 : Int32)) = (2 : Int32))) (hc4 : ((p0 &&& (2147483647 : Int32)) % (12 : Int32)) = (3 : Int32)) :
    MetFree l x (head1 (Jvm.Cond.code x code maxLocals ret :: ws) room_1) (fun a U => a = #[(.int p0)] ∧ Z.Warmed39 U.vm ∧ U.heap = h0) (fun _ _ _ _ _ => True) (fun _ U o U' => ∃ v L, o = .returned v ∧ (v = some (.int (1 : Int32)) ∧ Fr n0 L) ∧ FrameEnd U o U' L 16 128) := by
  refine MetFree.of_bodySF (plainFor_of_name pn_0) hisR ?_
  intro p e s m args below meth c s₁ Bd hml0 hP hK
  obtain ⟨rfl, hZ, hh⟩ := hP
  have hx := Bd.exec
  have hby := Bd.bytes
  have hml : c.maxLocals = 5 := hml0
  have hown : s.vm.findClass "com/example/ratebook/ratebook/model/EventTypeIsAttachmentEventPinLaw" = some m.cls := findClass_of_methodNamed Bd.named
  have hnm := (name_of_methodNamed Bd.named Bd.method).1
  have X0 : Stand p l e room_1 s m #[(.int p0)] below meth c s₁ [] 0 0 := Stand.of_body Bd
  have e0 : s₁.heap = h0 := by rw [← hh, Bd.state]; rfl
  have N0 := Fr.nil n0
  have hp' := hp
  obtain ⟨S_w_PLATFORM_DEPLOY, E_w_PLATFORM_DEPLOY, S_w_PLATFORM_DELETE, E_w_PLATFORM_DELETE, S_w_SERVER_DEPLOY, E_w_SERVER_DEPLOY, S_w_SERVER_START, E_w_SERVER_START, S_w_SERVER_STOP, E_w_SERVER_STOP, S_w_SERVER_DELETE, E_w_SERVER_DELETE, S_w_DISK_ATTACH, E_w_DISK_ATTACH, S_w_DISK_DETACH, E_w_DISK_DETACH, S_w_SNAPSHOT_CREATE, E_w_SNAPSHOT_CREATE, S_w_SNAPSHOT_DELETE, E_w_SNAPSHOT_DELETE, S_w_NIC_ATTACH, E_w_NIC_ATTACH, S_w_NIC_DETACH, E_w_NIC_DETACH, F_ordinal_w_PLATFORM_DEPLOY, F_ordinal_w_DISK_ATTACH, F_ordinal_w_DISK_DETACH, F_ordinal_w_NIC_ATTACH, F_ordinal_w_NIC_DETACH, F_ordinal_w_SERVER_START, F_ordinal_w_SERVER_DEPLOY, F_ordinal_w_SERVER_STOP, F_ordinal_w_SNAPSHOT_CREATE, F_ordinal_w_PLATFORM_DELETE, F_ordinal_w_SNAPSHOT_DELETE, F_ordinal_w_SERVER_DELETE⟩ := hp'
  have pre0 : ∀ t, Steps p.tables e below (s₁.setTop (mkF m 0 #[.val (.int p0), .unset, .unset, .unset, .unset] [])) t → Steps p.tables e below (s₁.setTop (entryFrame m #[(.int p0)] maxLocals)) t := fun t k => castTop (ef_0_0 m p0) k
  obtain ⟨T1, h1, k1, X1, e1, E1, A1, EA1, Ov1, st1⟩ := newRE X0 hx hZ hown (hw _ (List.mem_of_getElem? (i := 0) rfl)) (hw _ (List.mem_of_getElem? (i := 1) rfl)) e0 (g := (mkF m 2 #[.val (.int p0), .unset, .unset, .unset, .unset] [(.int (12 : Int32))])) rfl (hb hby at_2) rfl (by decide) (cap := 12) (by decide) (by decide) (by decide) (by decide) (ad := "[Lcom/example/ratebook/ratebook/model/EventType;") (by decide)
  obtain ⟨b1, g1⟩ : ∃ z, z = h0.size := ⟨_, rfl⟩
  rw [← g1] at A1 EA1 st1
  have g_b1 : n0 ≤ b1 := Nat.le_trans (own_sz O0) (Nat.le_of_eq g1.symm)
  have sz_b1 : h0.size ≤ b1 := Nat.le_trans (Keep.refl h0 []).1 (Nat.le_of_eq g1.symm)
  have O1 := O0.ext E1
  have K1 : Keep h0 h1 [] := (Keep.refl h0 []).ext E1
  have V_b1 : Arv Z h1 b1 k1 (.object "com/example/ratebook/ratebook/model/EventType") (12 : Int32) [.null, .null, .null, .null, .null, .null, .null, .null, .null, .null, .null, .null] .null := (Arv.new A1 (by decide)).pad (pad_rep [] .null 12)
  obtain ⟨T2, X2, e2, st2⟩ := getS2 X1 hx hZ hown (host := "") (Or.inl (hw _ (List.mem_of_getElem? (i := 2) rfl))) Via.refl e1 (S_w_PLATFORM_DEPLOY.ext O1.2) (g := (mkF m 7 #[.val (.int p0), .unset, .unset, .unset, .unset] [(.int (0 : Int32)), (.ref b1), (.ref b1)])) rfl (hb hby at_7)
  obtain ⟨cl3, Ar3, q3, S3, Nn3, H3, G3⟩ := V_b1
  have hin3 : ¬ ((0 : Int32) < 0 ∨ cl3.slots.size ≤ ((0 : Int32)).toNatClampNeg) := inb_of S3 ⟨by decide, by decide⟩
  obtain ⟨T4, h4, X4, e4, W4, st4⟩ := stR X2 hx hZ e2 Ar3 (j := (0 : Int32)) hin3 rfl (Sto.ofV Ar3 q3 Ov1 (Ins.self (E_w_PLATFORM_DEPLOY.ext O1.2))) (g := (mkF m 10 #[.val (.int p0), .unset, .unset, .unset, .unset] [(.ref w_PLATFORM_DEPLOY), (.int (0 : Int32)), (.ref b1), (.ref b1)])) rfl rfl (hb hby at_10)
  have N4 := Fr.snoc X4 N0 g_b1
  have O4 := O1.wr W4 g_b1
  have K4 : Keep h0 h4 [] := K1.wr W4 (Or.inr sz_b1)
  have V_b1_4 : Arv Z h4 b1 k1 (.object "com/example/ratebook/ratebook/model/EventType") (12 : Int32) [(.ref w_PLATFORM_DEPLOY), .null, .null, .null, .null, .null, .null, .null, .null, .null, .null, .null] .null := Arv.set Ar3 q3 S3 Nn3 H3 G3 rfl W4 0 rfl (Nat.le_of_ble_eq_true rfl)
  obtain ⟨T5, X5, e5, st5⟩ := getS2 X4 hx hZ hown (host := "") (Or.inl (hw _ (List.mem_of_getElem? (i := 6) rfl))) Via.refl e4 (S_w_PLATFORM_DELETE.ext O4.2) (g := (mkF m 13 #[.val (.int p0), .unset, .unset, .unset, .unset] [(.int (1 : Int32)), (.ref b1), (.ref b1)])) rfl (hb hby at_13)
  obtain ⟨cl6, Ar6, q6, S6, Nn6, H6, G6⟩ := V_b1_4
  have hin6 : ¬ ((1 : Int32) < 0 ∨ cl6.slots.size ≤ ((1 : Int32)).toNatClampNeg) := inb_of S6 ⟨by decide, by decide⟩
  obtain ⟨T7, h7, X7, e7, W7, st7⟩ := stR X5 hx hZ e5 Ar6 (j := (1 : Int32)) hin6 rfl (Sto.ofV Ar6 q6 Ov1 (Ins.self (E_w_PLATFORM_DELETE.ext O4.2))) (g := (mkF m 16 #[.val (.int p0), .unset, .unset, .unset, .unset] [(.ref w_PLATFORM_DELETE), (.int (1 : Int32)), (.ref b1), (.ref b1)])) rfl rfl (hb hby at_16)
  have N7 := Fr.snoc X7 N4 g_b1
  have O7 := O4.wr W7 g_b1
  have K7 : Keep h0 h7 [] := K4.wr W7 (Or.inr sz_b1)
  have V_b1_7 : Arv Z h7 b1 k1 (.object "com/example/ratebook/ratebook/model/EventType") (12 : Int32) [(.ref w_PLATFORM_DEPLOY), (.ref w_PLATFORM_DELETE), .null, .null, .null, .null, .null, .null, .null, .null, .null, .null] .null := Arv.set Ar6 q6 S6 Nn6 H6 G6 rfl W7 1 rfl (Nat.le_of_ble_eq_true rfl)
  obtain ⟨T8, X8, e8, st8⟩ := getS2 X7 hx hZ hown (host := "") (Or.inl (hw _ (List.mem_of_getElem? (i := 8) rfl))) Via.refl e7 (S_w_SERVER_DEPLOY.ext O7.2) (g := (mkF m 19 #[.val (.int p0), .unset, .unset, .unset, .unset] [(.int (2 : Int32)), (.ref b1), (.ref b1)])) rfl (hb hby at_19)
  obtain ⟨cl9, Ar9, q9, S9, Nn9, H9, G9⟩ := V_b1_7
  have hin9 : ¬ ((2 : Int32) < 0 ∨ cl9.slots.size ≤ ((2 : Int32)).toNatClampNeg) := inb_of S9 ⟨by decide, by decide⟩
  obtain ⟨T10, h10, X10, e10, W10, st10⟩ := stR X8 hx hZ e8 Ar9 (j := (2 : Int32)) hin9 rfl (Sto.ofV Ar9 q9 Ov1 (Ins.self (E_w_SERVER_DEPLOY.ext O7.2))) (g := (mkF m 22 #[.val (.int p0), .unset, .unset, .unset, .unset] [(.ref w_SERVER_DEPLOY), (.int (2 : Int32)), (.ref b1), (.ref b1)])) rfl rfl (hb hby at_22)
  have N10 := Fr.snoc X10 N7 g_b1
  have O10 := O7.wr W10 g_b1
  have K10 : Keep h0 h10 [] := K7.wr W10 (Or.inr sz_b1)
  have V_b1_10 : Arv Z h10 b1 k1 (.object "com/example/ratebook/ratebook/model/EventType") (12 : Int32) [(.ref w_PLATFORM_DEPLOY), (.ref w_PLATFORM_DELETE), (.ref w_SERVER_DEPLOY), .null, .null, .null, .null, .null, .null, .null, .null, .null] .null := Arv.set Ar9 q9 S9 Nn9 H9 G9 rfl W10 2 rfl (Nat.le_of_ble_eq_true rfl)
  obtain ⟨T11, X11, e11, st11⟩ := getS2 X10 hx hZ hown (host := "") (Or.inl (hw _ (List.mem_of_getElem? (i := 10) rfl))) Via.refl e10 (S_w_SERVER_START.ext O10.2) (g := (mkF m 25 #[.val (.int p0), .unset, .unset, .unset, .unset] [(.int (3 : Int32)), (.ref b1), (.ref b1)])) rfl (hb hby at_25)
  obtain ⟨cl12, Ar12, q12, S12, Nn12, H12, G12⟩ := V_b1_10
  have hin12 : ¬ ((3 : Int32) < 0 ∨ cl12.slots.size ≤ ((3 : Int32)).toNatClampNeg) := inb_of S12 ⟨by decide, by decide⟩
  obtain ⟨T13, h13, X13, e13, W13, st13⟩ := stR X11 hx hZ e11 Ar12 (j := (3 : Int32)) hin12 rfl (Sto.ofV Ar12 q12 Ov1 (Ins.self (E_w_SERVER_START.ext O10.2))) (g := (mkF m 28 #[.val (.int p0), .unset, .unset, .unset, .unset] [(.ref w_SERVER_START), (.int (3 : Int32)), (.ref b1), (.ref b1)])) rfl rfl (hb hby at_28)
  have N13 := Fr.snoc X13 N10 g_b1
  have O13 := O10.wr W13 g_b1
  have K13 : Keep h0 h13 [] := K10.wr W13 (Or.inr sz_b1)
  have V_b1_13 : Arv Z h13 b1 k1 (.object "com/example/ratebook/ratebook/model/EventType") (12 : Int32) [(.ref w_PLATFORM_DEPLOY), (.ref w_PLATFORM_DELETE), (.ref w_SERVER_DEPLOY), (.ref w_SERVER_START), .null, .null, .null, .null, .null, .null, .null, .null] .null := Arv.set Ar12 q12 S12 Nn12 H12 G12 rfl W13 3 rfl (Nat.le_of_ble_eq_true rfl)
  obtain ⟨T14, X14, e14, st14⟩ := getS2 X13 hx hZ hown (host := "") (Or.inl (hw _ (List.mem_of_getElem? (i := 12) rfl))) Via.refl e13 (S_w_SERVER_STOP.ext O13.2) (g := (mkF m 31 #[.val (.int p0), .unset, .unset, .unset, .unset] [(.int (4 : Int32)), (.ref b1), (.ref b1)])) rfl (hb hby at_31)
  obtain ⟨cl15, Ar15, q15, S15, Nn15, H15, G15⟩ := V_b1_13
  have hin15 : ¬ ((4 : Int32) < 0 ∨ cl15.slots.size ≤ ((4 : Int32)).toNatClampNeg) := inb_of S15 ⟨by decide, by decide⟩
  obtain ⟨T16, h16, X16, e16, W16, st16⟩ := stR X14 hx hZ e14 Ar15 (j := (4 : Int32)) hin15 rfl (Sto.ofV Ar15 q15 Ov1 (Ins.self (E_w_SERVER_STOP.ext O13.2))) (g := (mkF m 34 #[.val (.int p0), .unset, .unset, .unset, .unset] [(.ref w_SERVER_STOP), (.int (4 : Int32)), (.ref b1), (.ref b1)])) rfl rfl (hb hby at_34)
  have N16 := Fr.snoc X16 N13 g_b1
  have O16 := O13.wr W16 g_b1
  have K16 : Keep h0 h16 [] := K13.wr W16 (Or.inr sz_b1)
  have V_b1_16 : Arv Z h16 b1 k1 (.object "com/example/ratebook/ratebook/model/EventType") (12 : Int32) [(.ref w_PLATFORM_DEPLOY), (.ref w_PLATFORM_DELETE), (.ref w_SERVER_DEPLOY), (.ref w_SERVER_START), (.ref w_SERVER_STOP), .null, .null, .null, .null, .null, .null, .null] .null := Arv.set Ar15 q15 S15 Nn15 H15 G15 rfl W16 4 rfl (Nat.le_of_ble_eq_true rfl)
  obtain ⟨T17, X17, e17, st17⟩ := getS2 X16 hx hZ hown (host := "") (Or.inl (hw _ (List.mem_of_getElem? (i := 14) rfl))) Via.refl e16 (S_w_SERVER_DELETE.ext O16.2) (g := (mkF m 37 #[.val (.int p0), .unset, .unset, .unset, .unset] [(.int (5 : Int32)), (.ref b1), (.ref b1)])) rfl (hb hby at_37)
  obtain ⟨cl18, Ar18, q18, S18, Nn18, H18, G18⟩ := V_b1_16
  have hin18 : ¬ ((5 : Int32) < 0 ∨ cl18.slots.size ≤ ((5 : Int32)).toNatClampNeg) := inb_of S18 ⟨by decide, by decide⟩
  obtain ⟨T19, h19, X19, e19, W19, st19⟩ := stR X17 hx hZ e17 Ar18 (j := (5 : Int32)) hin18 rfl (Sto.ofV Ar18 q18 Ov1 (Ins.self (E_w_SERVER_DELETE.ext O16.2))) (g := (mkF m 40 #[.val (.int p0), .unset, .unset, .unset, .unset] [(.ref w_SERVER_DELETE), (.int (5 : Int32)), (.ref b1), (.ref b1)])) rfl rfl (hb hby at_40)
  have N19 := Fr.snoc X19 N16 g_b1
  have O19 := O16.wr W19 g_b1
  have K19 : Keep h0 h19 [] := K16.wr W19 (Or.inr sz_b1)
  have V_b1_19 : Arv Z h19 b1 k1 (.object "com/example/ratebook/ratebook/model/EventType") (12 : Int32) [(.ref w_PLATFORM_DEPLOY), (.ref w_PLATFORM_DELETE), (.ref w_SERVER_DEPLOY), (.ref w_SERVER_START), (.ref w_SERVER_STOP), (.ref w_SERVER_DELETE), .null, .null, .null, .null, .null, .null] .null := Arv.set Ar18 q18 S18 Nn18 H18 G18 rfl W19 5 rfl (Nat.le_of_ble_eq_true rfl)
  obtain ⟨T20, X20, e20, st20⟩ := getS2 X19 hx hZ hown (host := "") (Or.inl (hw _ (List.mem_of_getElem? (i := 16) rfl))) Via.refl e19 (S_w_DISK_ATTACH.ext O19.2) (g := (mkF m 44 #[.val (.int p0), .unset, .unset, .unset, .unset] [(.int (6 : Int32)), (.ref b1), (.ref b1)])) rfl (hb hby at_44)
  obtain ⟨cl21, Ar21, q21, S21, Nn21, H21, G21⟩ := V_b1_19
  have hin21 : ¬ ((6 : Int32) < 0 ∨ cl21.slots.size ≤ ((6 : Int32)).toNatClampNeg) := inb_of S21 ⟨by decide, by decide⟩
  obtain ⟨T22, h22, X22, e22, W22, st22⟩ := stR X20 hx hZ e20 Ar21 (j := (6 : Int32)) hin21 rfl (Sto.ofV Ar21 q21 Ov1 (Ins.self (E_w_DISK_ATTACH.ext O19.2))) (g := (mkF m 47 #[.val (.int p0), .unset, .unset, .unset, .unset] [(.ref w_DISK_ATTACH), (.int (6 : Int32)), (.ref b1), (.ref b1)])) rfl rfl (hb hby at_47)
  have N22 := Fr.snoc X22 N19 g_b1
  have O22 := O19.wr W22 g_b1
  have K22 : Keep h0 h22 [] := K19.wr W22 (Or.inr sz_b1)
  have V_b1_22 : Arv Z h22 b1 k1 (.object "com/example/ratebook/ratebook/model/EventType") (12 : Int32) [(.ref w_PLATFORM_DEPLOY), (.ref w_PLATFORM_DELETE), (.ref w_SERVER_DEPLOY), (.ref w_SERVER_START), (.ref w_SERVER_STOP), (.ref w_SERVER_DELETE), (.ref w_DISK_ATTACH), .null, .null, .null, .null, .null] .null := Arv.set Ar21 q21 S21 Nn21 H21 G21 rfl W22 6 rfl (Nat.le_of_ble_eq_true rfl)
  obtain ⟨T23, X23, e23, st23⟩ := getS2 X22 hx hZ hown (host := "") (Or.inl (hw _ (List.mem_of_getElem? (i := 18) rfl))) Via.refl e22 (S_w_DISK_DETACH.ext O22.2) (g := (mkF m 51 #[.val (.int p0), .unset, .unset, .unset, .unset] [(.int (7 : Int32)), (.ref b1), (.ref b1)])) rfl (hb hby at_51)
  obtain ⟨cl24, Ar24, q24, S24, Nn24, H24, G24⟩ := V_b1_22
  have hin24 : ¬ ((7 : Int32) < 0 ∨ cl24.slots.size ≤ ((7 : Int32)).toNatClampNeg) := inb_of S24 ⟨by decide, by decide⟩
  obtain ⟨T25, h25, X25, e25, W25, st25⟩ := stR X23 hx hZ e23 Ar24 (j := (7 : Int32)) hin24 rfl (Sto.ofV Ar24 q24 Ov1 (Ins.self (E_w_DISK_DETACH.ext O22.2))) (g := (mkF m 54 #[.val (.int p0), .unset, .unset, .unset, .unset] [(.ref w_DISK_DETACH), (.int (7 : Int32)), (.ref b1), (.ref b1)])) rfl rfl (hb hby at_54)
  have N25 := Fr.snoc X25 N22 g_b1
  have O25 := O22.wr W25 g_b1
  have K25 : Keep h0 h25 [] := K22.wr W25 (Or.inr sz_b1)
  have V_b1_25 : Arv Z h25 b1 k1 (.object "com/example/ratebook/ratebook/model/EventType") (12 : Int32) [(.ref w_PLATFORM_DEPLOY), (.ref w_PLATFORM_DELETE), (.ref w_SERVER_DEPLOY), (.ref w_SERVER_START), (.ref w_SERVER_STOP), (.ref w_SERVER_DELETE), (.ref w_DISK_ATTACH), (.ref w_DISK_DETACH), .null, .null, .null, .null] .null := Arv.set Ar24 q24 S24 Nn24 H24 G24 rfl W25 7 rfl (Nat.le_of_ble_eq_true rfl)
  obtain ⟨T26, X26, e26, st26⟩ := getS2 X25 hx hZ hown (host := "") (Or.inl (hw _ (List.mem_of_getElem? (i := 20) rfl))) Via.refl e25 (S_w_SNAPSHOT_CREATE.ext O25.2) (g := (mkF m 58 #[.val (.int p0), .unset, .unset, .unset, .unset] [(.int (8 : Int32)), (.ref b1), (.ref b1)])) rfl (hb hby at_58)
  obtain ⟨cl27, Ar27, q27, S27, Nn27, H27, G27⟩ := V_b1_25
  have hin27 : ¬ ((8 : Int32) < 0 ∨ cl27.slots.size ≤ ((8 : Int32)).toNatClampNeg) := inb_of S27 ⟨by decide, by decide⟩
  obtain ⟨T28, h28, X28, e28, W28, st28⟩ := stR X26 hx hZ e26 Ar27 (j := (8 : Int32)) hin27 rfl (Sto.ofV Ar27 q27 Ov1 (Ins.self (E_w_SNAPSHOT_CREATE.ext O25.2))) (g := (mkF m 61 #[.val (.int p0), .unset, .unset, .unset, .unset] [(.ref w_SNAPSHOT_CREATE), (.int (8 : Int32)), (.ref b1), (.ref b1)])) rfl rfl (hb hby at_61)
  have N28 := Fr.snoc X28 N25 g_b1
  have O28 := O25.wr W28 g_b1
  have K28 : Keep h0 h28 [] := K25.wr W28 (Or.inr sz_b1)
  have V_b1_28 : Arv Z h28 b1 k1 (.object "com/example/ratebook/ratebook/model/EventType") (12 : Int32) [(.ref w_PLATFORM_DEPLOY), (.ref w_PLATFORM_DELETE), (.ref w_SERVER_DEPLOY), (.ref w_SERVER_START), (.ref w_SERVER_STOP), (.ref w_SERVER_DELETE), (.ref w_DISK_ATTACH), (.ref w_DISK_DETACH), (.ref w_SNAPSHOT_CREATE), .null, .null, .null] .null := Arv.set Ar27 q27 S27 Nn27 H27 G27 rfl W28 8 rfl (Nat.le_of_ble_eq_true rfl)
  obtain ⟨T29, X29, e29, st29⟩ := getS2 X28 hx hZ hown (host := "") (Or.inl (hw _ (List.mem_of_getElem? (i := 22) rfl))) Via.refl e28 (S_w_SNAPSHOT_DELETE.ext O28.2) (g := (mkF m 65 #[.val (.int p0), .unset, .unset, .unset, .unset] [(.int (9 : Int32)), (.ref b1), (.ref b1)])) rfl (hb hby at_65)
  obtain ⟨cl30, Ar30, q30, S30, Nn30, H30, G30⟩ := V_b1_28
  have hin30 : ¬ ((9 : Int32) < 0 ∨ cl30.slots.size ≤ ((9 : Int32)).toNatClampNeg) := inb_of S30 ⟨by decide, by decide⟩
  obtain ⟨T31, h31, X31, e31, W31, st31⟩ := stR X29 hx hZ e29 Ar30 (j := (9 : Int32)) hin30 rfl (Sto.ofV Ar30 q30 Ov1 (Ins.self (E_w_SNAPSHOT_DELETE.ext O28.2))) (g := (mkF m 68 #[.val (.int p0), .unset, .unset, .unset, .unset] [(.ref w_SNAPSHOT_DELETE), (.int (9 : Int32)), (.ref b1), (.ref b1)])) rfl rfl (hb hby at_68)
  have N31 := Fr.snoc X31 N28 g_b1
  have O31 := O28.wr W31 g_b1
  have K31 : Keep h0 h31 [] := K28.wr W31 (Or.inr sz_b1)
  have V_b1_31 : Arv Z h31 b1 k1 (.object "com/example/ratebook/ratebook/model/EventType") (12 : Int32) [(.ref w_PLATFORM_DEPLOY), (.ref w_PLATFORM_DELETE), (.ref w_SERVER_DEPLOY), (.ref w_SERVER_START), (.ref w_SERVER_STOP), (.ref w_SERVER_DELETE), (.ref w_DISK_ATTACH), (.ref w_DISK_DETACH), (.ref w_SNAPSHOT_CREATE), (.ref w_SNAPSHOT_DELETE), .null, .null] .null := Arv.set Ar30 q30 S30 Nn30 H30 G30 rfl W31 9 rfl (Nat.le_of_ble_eq_true rfl)
  obtain ⟨T32, X32, e32, st32⟩ := getS2 X31 hx hZ hown (host := "") (Or.inl (hw _ (List.mem_of_getElem? (i := 24) rfl))) Via.refl e31 (S_w_NIC_ATTACH.ext O31.2) (g := (mkF m 72 #[.val (.int p0), .unset, .unset, .unset, .unset] [(.int (10 : Int32)), (.ref b1), (.ref b1)])) rfl (hb hby at_72)
  obtain ⟨cl33, Ar33, q33, S33, Nn33, H33, G33⟩ := V_b1_31
  have hin33 : ¬ ((10 : Int32) < 0 ∨ cl33.slots.size ≤ ((10 : Int32)).toNatClampNeg) := inb_of S33 ⟨by decide, by decide⟩
  obtain ⟨T34, h34, X34, e34, W34, st34⟩ := stR X32 hx hZ e32 Ar33 (j := (10 : Int32)) hin33 rfl (Sto.ofV Ar33 q33 Ov1 (Ins.self (E_w_NIC_ATTACH.ext O31.2))) (g := (mkF m 75 #[.val (.int p0), .unset, .unset, .unset, .unset] [(.ref w_NIC_ATTACH), (.int (10 : Int32)), (.ref b1), (.ref b1)])) rfl rfl (hb hby at_75)
  have N34 := Fr.snoc X34 N31 g_b1
  have O34 := O31.wr W34 g_b1
  have K34 : Keep h0 h34 [] := K31.wr W34 (Or.inr sz_b1)
  have V_b1_34 : Arv Z h34 b1 k1 (.object "com/example/ratebook/ratebook/model/EventType") (12 : Int32) [(.ref w_PLATFORM_DEPLOY), (.ref w_PLATFORM_DELETE), (.ref w_SERVER_DEPLOY), (.ref w_SERVER_START), (.ref w_SERVER_STOP), (.ref w_SERVER_DELETE), (.ref w_DISK_ATTACH), (.ref w_DISK_DETACH), (.ref w_SNAPSHOT_CREATE), (.ref w_SNAPSHOT_DELETE), (.ref w_NIC_ATTACH), .null] .null := Arv.set Ar33 q33 S33 Nn33 H33 G33 rfl W34 10 rfl (Nat.le_of_ble_eq_true rfl)
  obtain ⟨T35, X35, e35, st35⟩ := getS2 X34 hx hZ hown (host := "") (Or.inl (hw _ (List.mem_of_getElem? (i := 26) rfl))) Via.refl e34 (S_w_NIC_DETACH.ext O34.2) (g := (mkF m 79 #[.val (.int p0), .unset, .unset, .unset, .unset] [(.int (11 : Int32)), (.ref b1), (.ref b1)])) rfl (hb hby at_79)
  obtain ⟨cl36, Ar36, q36, S36, Nn36, H36, G36⟩ := V_b1_34
  have hin36 : ¬ ((11 : Int32) < 0 ∨ cl36.slots.size ≤ ((11 : Int32)).toNatClampNeg) := inb_of S36 ⟨by decide, by decide⟩
  obtain ⟨T37, h37, X37, e37, W37, st37⟩ := stR X35 hx hZ e35 Ar36 (j := (11 : Int32)) hin36 rfl (Sto.ofV Ar36 q36 Ov1 (Ins.self (E_w_NIC_DETACH.ext O34.2))) (g := (mkF m 82 #[.val (.int p0), .unset, .unset, .unset, .unset] [(.ref w_NIC_DETACH), (.int (11 : Int32)), (.ref b1), (.ref b1)])) rfl rfl (hb hby at_82)
  have N37 := Fr.snoc X37 N34 g_b1
  have O37 := O34.wr W37 g_b1
  have K37 : Keep h0 h37 [] := K34.wr W37 (Or.inr sz_b1)
  have V_b1_37 : Arv Z h37 b1 k1 (.object "com/example/ratebook/ratebook/model/EventType") (12 : Int32) [(.ref w_PLATFORM_DEPLOY), (.ref w_PLATFORM_DELETE), (.ref w_SERVER_DEPLOY), (.ref w_SERVER_START), (.ref w_SERVER_STOP), (.ref w_SERVER_DELETE), (.ref w_DISK_ATTACH), (.ref w_DISK_DETACH), (.ref w_SNAPSHOT_CREATE), (.ref w_SNAPSHOT_DELETE), (.ref w_NIC_ATTACH), (.ref w_NIC_DETACH)] .null := Arv.set Ar36 q36 S36 Nn36 H36 G36 rfl W37 11 rfl (Nat.le_of_ble_eq_true rfl)
  obtain ⟨cl38, Ar38, -, S38, -, H38, -⟩ := V_b1_37
  have hin38 : ¬ (((p0 &&& (2147483647 : Int32)) % (12 : Int32)) < 0 ∨ cl38.slots.size ≤ (((p0 &&& (2147483647 : Int32)) % (12 : Int32))).toNatClampNeg) := inb_of S38 (by rw [hc4]; decide)
  have hat38 : cl38.slots[(((p0 &&& (2147483647 : Int32)) % (12 : Int32))).toNatClampNeg]? = some (.ref w_SERVER_START) := H38.at hin38 (by rw [hc4]; rfl)
  obtain ⟨cq39, kq39, q39a, q39b, q39c⟩ := isOf hZ e37 (E_w_SERVER_START.ext O37.2)
  obtain ⟨_, _, ⟨T39, L39, k39, n39⟩, -, X39, ⟨Lc39, hQ39, l39, y39, z39⟩, st39⟩ := X37.virtualBack hx (y := y0) (z := y0) hown (mvT hZ (hw _ (List.mem_of_getElem? (i := 29) rfl))) (mvT hZ (hw _ (List.mem_of_getElem? (i := 30) rfl))) (notFace_of_selects (args := #[]) (mvT hZ (hw _ (List.mem_of_getElem? (i := 32) rfl)))) (mvT hZ (hw _ (List.mem_of_getElem? (i := 32) rfl))) (mvT hZ (hw _ (List.mem_of_getElem? (i := 31) rfl))) (by decide) (backOf (W := 0) (rm7 l Z a0 hw [] w_PLATFORM_DEPLOY w_PLATFORM_DELETE w_SERVER_DEPLOY w_SERVER_START w_SERVER_STOP w_SERVER_DELETE w_DISK_ATTACH w_DISK_DETACH w_SNAPSHOT_CREATE w_SNAPSHOT_DELETE w_NIC_ATTACH w_NIC_DETACH hp h37 n0 O37) hZ (hw _ (List.mem_of_getElem? (i := 33) rfl)) (hw _ (List.mem_of_getElem? (i := 3) rfl)) (by decide) (by decide)) q39a q39c (g := (mkF m 145 #[.val (.int p0), .val (.ref b1), .val (.int ((p0 &&& (2147483647 : Int32)) % (12 : Int32))), .val (.ref w_SERVER_START), .val (.int (0 : Int32))] [(.ref w_SERVER_START)])) rfl (by rw [hml]; rfl) (Steps.refl _) (argsL := []) (rest := []) (lenOf pd_0 rfl) rfl (by show 2 * 0 + _ ≤ _; exact Nat.le_of_eq rfl) (hb hby at_145) (fun _ _ => ⟨rfl, e37, (by decide : 1 + 0 ≤ _), (by decide : 12 + 0 ≤ _)⟩)
  dsimp only [Pt.U, Pt.locs, Pt.cells, Pt.slots] at X39 l39 y39 z39 st39 hQ39
  subst l39 y39 z39
  obtain ⟨rfl, Nq39, eq39⟩ := hQ39
  have N39 := Fr.app N37 Nq39
  obtain ⟨fs, hr, hrun, hended, hW, hsame⟩ := X39.leave (v := some (.int (1 : Int32))) (fun h => by rw [Bd.returns] at h; cases h)
  refine ⟨_, _, pre0 _ ?_, hrun, hended, _, _, rfl, ?_, ⟨_, rfl⟩, hW, hsame.mono (by decide) (by decide)⟩
  · show Sp p e below s₁ (mkF m 0 #[.val (.int p0), .unset, .unset, .unset, .unset] []) _
    refine XS.bipush X0.here hx rfl (hb hby at_0) ?_
    show Sp p e below s₁ (mkF m 2 #[.val (.int p0), .unset, .unset, .unset, .unset] [(.int (12 : Int32))]) _
    refine st1 _ ?_
    show Sp p e below T1 (mkF m 5 #[.val (.int p0), .unset, .unset, .unset, .unset] [(.ref b1)]) _
    refine XS.dup X1.here hx rfl (hb hby at_5) rfl rfl ?_
    show Sp p e below T1 (mkF m 6 #[.val (.int p0), .unset, .unset, .unset, .unset] [(.ref b1), (.ref b1)]) _
    refine XS.iconst X1.here hx rfl (hb hby at_6) ?_
    show Sp p e below T1 (mkF m 7 #[.val (.int p0), .unset, .unset, .unset, .unset] [(.int (0 : Int32)), (.ref b1), (.ref b1)]) _
    refine st2 _ ?_
    show Sp p e below T2 (mkF m 10 #[.val (.int p0), .unset, .unset, .unset, .unset] [(.ref w_PLATFORM_DEPLOY), (.int (0 : Int32)), (.ref b1), (.ref b1)]) _
    refine st4 _ ?_
    show Sp p e below T4 (mkF m 11 #[.val (.int p0), .unset, .unset, .unset, .unset] [(.ref b1)]) _
    refine XS.dup X4.here hx rfl (hb hby at_11) rfl rfl ?_
    show Sp p e below T4 (mkF m 12 #[.val (.int p0), .unset, .unset, .unset, .unset] [(.ref b1), (.ref b1)]) _
    refine XS.iconst X4.here hx rfl (hb hby at_12) ?_
    show Sp p e below T4 (mkF m 13 #[.val (.int p0), .unset, .unset, .unset, .unset] [(.int (1 : Int32)), (.ref b1), (.ref b1)]) _
    refine st5 _ ?_
    show Sp p e below T5 (mkF m 16 #[.val (.int p0), .unset, .unset, .unset, .unset] [(.ref w_PLATFORM_DELETE), (.int (1 : Int32)), (.ref b1), (.ref b1)]) _
    refine st7 _ ?_
    show Sp p e below T7 (mkF m 17 #[.val (.int p0), .unset, .unset, .unset, .unset] [(.ref b1)]) _
    refine XS.dup X7.here hx rfl (hb hby at_17) rfl rfl ?_
    show Sp p e below T7 (mkF m 18 #[.val (.int p0), .unset, .unset, .unset, .unset] [(.ref b1), (.ref b1)]) _
    refine XS.iconst X7.here hx rfl (hb hby at_18) ?_
    show Sp p e below T7 (mkF m 19 #[.val (.int p0), .unset, .unset, .unset, .unset] [(.int (2 : Int32)), (.ref b1), (.ref b1)]) _
    refine st8 _ ?_
    show Sp p e below T8 (mkF m 22 #[.val (.int p0), .unset, .unset, .unset, .unset] [(.ref w_SERVER_DEPLOY), (.int (2 : Int32)), (.ref b1), (.ref b1)]) _
    refine st10 _ ?_
    show Sp p e below T10 (mkF m 23 #[.val (.int p0), .unset, .unset, .unset, .unset] [(.ref b1)]) _
    refine XS.dup X10.here hx rfl (hb hby at_23) rfl rfl ?_
    show Sp p e below T10 (mkF m 24 #[.val (.int p0), .unset, .unset, .unset, .unset] [(.ref b1), (.ref b1)]) _
    refine XS.iconst X10.here hx rfl (hb hby at_24) ?_
    show Sp p e below T10 (mkF m 25 #[.val (.int p0), .unset, .unset, .unset, .unset] [(.int (3 : Int32)), (.ref b1), (.ref b1)]) _
    refine st11 _ ?_
    show Sp p e below T11 (mkF m 28 #[.val (.int p0), .unset, .unset, .unset, .unset] [(.ref w_SERVER_START), (.int (3 : Int32)), (.ref b1), (.ref b1)]) _
    refine st13 _ ?_
    show Sp p e below T13 (mkF m 29 #[.val (.int p0), .unset, .unset, .unset, .unset] [(.ref b1)]) _
    refine XS.dup X13.here hx rfl (hb hby at_29) rfl rfl ?_
    show Sp p e below T13 (mkF m 30 #[.val (.int p0), .unset, .unset, .unset, .unset] [(.ref b1), (.ref b1)]) _
    refine XS.iconst X13.here hx rfl (hb hby at_30) ?_
    show Sp p e below T13 (mkF m 31 #[.val (.int p0), .unset, .unset, .unset, .unset] [(.int (4 : Int32)), (.ref b1), (.ref b1)]) _
    refine st14 _ ?_
    show Sp p e below T14 (mkF m 34 #[.val (.int p0), .unset, .unset, .unset, .unset] [(.ref w_SERVER_STOP), (.int (4 : Int32)), (.ref b1), (.ref b1)]) _
    refine st16 _ ?_
    show Sp p e below T16 (mkF m 35 #[.val (.int p0), .unset, .unset, .unset, .unset] [(.ref b1)]) _
    refine XS.dup X16.here hx rfl (hb hby at_35) rfl rfl ?_
    show Sp p e below T16 (mkF m 36 #[.val (.int p0), .unset, .unset, .unset, .unset] [(.ref b1), (.ref b1)]) _
    refine XS.iconst X16.here hx rfl (hb hby at_36) ?_
    show Sp p e below T16 (mkF m 37 #[.val (.int p0), .unset, .unset, .unset, .unset] [(.int (5 : Int32)), (.ref b1), (.ref b1)]) _
    refine st17 _ ?_
    show Sp p e below T17 (mkF m 40 #[.val (.int p0), .unset, .unset, .unset, .unset] [(.ref w_SERVER_DELETE), (.int (5 : Int32)), (.ref b1), (.ref b1)]) _
    refine st19 _ ?_
    show Sp p e below T19 (mkF m 41 #[.val (.int p0), .unset, .unset, .unset, .unset] [(.ref b1)]) _
    refine XS.dup X19.here hx rfl (hb hby at_41) rfl rfl ?_
    show Sp p e below T19 (mkF m 42 #[.val (.int p0), .unset, .unset, .unset, .unset] [(.ref b1), (.ref b1)]) _
    refine XS.bipush X19.here hx rfl (hb hby at_42) ?_
    show Sp p e below T19 (mkF m 44 #[.val (.int p0), .unset, .unset, .unset, .unset] [(.int (6 : Int32)), (.ref b1), (.ref b1)]) _
    refine st20 _ ?_
    show Sp p e below T20 (mkF m 47 #[.val (.int p0), .unset, .unset, .unset, .unset] [(.ref w_DISK_ATTACH), (.int (6 : Int32)), (.ref b1), (.ref b1)]) _
    refine st22 _ ?_
    show Sp p e below T22 (mkF m 48 #[.val (.int p0), .unset, .unset, .unset, .unset] [(.ref b1)]) _
    refine XS.dup X22.here hx rfl (hb hby at_48) rfl rfl ?_
    show Sp p e below T22 (mkF m 49 #[.val (.int p0), .unset, .unset, .unset, .unset] [(.ref b1), (.ref b1)]) _
    refine XS.bipush X22.here hx rfl (hb hby at_49) ?_
    show Sp p e below T22 (mkF m 51 #[.val (.int p0), .unset, .unset, .unset, .unset] [(.int (7 : Int32)), (.ref b1), (.ref b1)]) _
    refine st23 _ ?_
    show Sp p e below T23 (mkF m 54 #[.val (.int p0), .unset, .unset, .unset, .unset] [(.ref w_DISK_DETACH), (.int (7 : Int32)), (.ref b1), (.ref b1)]) _
    refine st25 _ ?_
    show Sp p e below T25 (mkF m 55 #[.val (.int p0), .unset, .unset, .unset, .unset] [(.ref b1)]) _
    refine XS.dup X25.here hx rfl (hb hby at_55) rfl rfl ?_
    show Sp p e below T25 (mkF m 56 #[.val (.int p0), .unset, .unset, .unset, .unset] [(.ref b1), (.ref b1)]) _
    refine XS.bipush X25.here hx rfl (hb hby at_56) ?_
    show Sp p e below T25 (mkF m 58 #[.val (.int p0), .unset, .unset, .unset, .unset] [(.int (8 : Int32)), (.ref b1), (.ref b1)]) _
    refine st26 _ ?_
    show Sp p e below T26 (mkF m 61 #[.val (.int p0), .unset, .unset, .unset, .unset] [(.ref w_SNAPSHOT_CREATE), (.int (8 : Int32)), (.ref b1), (.ref b1)]) _
    refine st28 _ ?_
    show Sp p e below T28 (mkF m 62 #[.val (.int p0), .unset, .unset, .unset, .unset] [(.ref b1)]) _
    refine XS.dup X28.here hx rfl (hb hby at_62) rfl rfl ?_
    show Sp p e below T28 (mkF m 63 #[.val (.int p0), .unset, .unset, .unset, .unset] [(.ref b1), (.ref b1)]) _
    refine XS.bipush X28.here hx rfl (hb hby at_63) ?_
    show Sp p e below T28 (mkF m 65 #[.val (.int p0), .unset, .unset, .unset, .unset] [(.int (9 : Int32)), (.ref b1), (.ref b1)]) _
    refine st29 _ ?_
    show Sp p e below T29 (mkF m 68 #[.val (.int p0), .unset, .unset, .unset, .unset] [(.ref w_SNAPSHOT_DELETE), (.int (9 : Int32)), (.ref b1), (.ref b1)]) _
    refine st31 _ ?_
    show Sp p e below T31 (mkF m 69 #[.val (.int p0), .unset, .unset, .unset, .unset] [(.ref b1)]) _
    refine XS.dup X31.here hx rfl (hb hby at_69) rfl rfl ?_
    show Sp p e below T31 (mkF m 70 #[.val (.int p0), .unset, .unset, .unset, .unset] [(.ref b1), (.ref b1)]) _
    refine XS.bipush X31.here hx rfl (hb hby at_70) ?_
    show Sp p e below T31 (mkF m 72 #[.val (.int p0), .unset, .unset, .unset, .unset] [(.int (10 : Int32)), (.ref b1), (.ref b1)]) _
    refine st32 _ ?_
    show Sp p e below T32 (mkF m 75 #[.val (.int p0), .unset, .unset, .unset, .unset] [(.ref w_NIC_ATTACH), (.int (10 : Int32)), (.ref b1), (.ref b1)]) _
    refine st34 _ ?_
    show Sp p e below T34 (mkF m 76 #[.val (.int p0), .unset, .unset, .unset, .unset] [(.ref b1)]) _
    refine XS.dup X34.here hx rfl (hb hby at_76) rfl rfl ?_
    show Sp p e below T34 (mkF m 77 #[.val (.int p0), .unset, .unset, .unset, .unset] [(.ref b1), (.ref b1)]) _
    refine XS.bipush X34.here hx rfl (hb hby at_77) ?_
    show Sp p e below T34 (mkF m 79 #[.val (.int p0), .unset, .unset, .unset, .unset] [(.int (11 : Int32)), (.ref b1), (.ref b1)]) _
    refine st35 _ ?_
    show Sp p e below T35 (mkF m 82 #[.val (.int p0), .unset, .unset, .unset, .unset] [(.ref w_NIC_DETACH), (.int (11 : Int32)), (.ref b1), (.ref b1)]) _
    refine st37 _ ?_
    show Sp p e below T37 (mkF m 83 #[.val (.int p0), .unset, .unset, .unset, .unset] [(.ref b1)]) _
    refine XS.astoreN X37.here hx rfl (hb hby at_83) rfl rfl (l' := #[.val (.int p0), .val (.ref b1), .unset, .unset, .unset]) rfl ?_
    show Sp p e below T37 (mkF m 84 #[.val (.int p0), .val (.ref b1), .unset, .unset, .unset] []) _
    refine XS.iloadN X37.here hx rfl (hb hby at_84) rfl ?_
    show Sp p e below T37 (mkF m 85 #[.val (.int p0), .val (.ref b1), .unset, .unset, .unset] [(.int p0)]) _
    refine X37.ldcI hx hown (mvT hZ (hw _ (List.mem_of_getElem? (i := 28) rfl))) rfl (hb hby at_85) ?_
    show Sp p e below T37 (mkF m 87 #[.val (.int p0), .val (.ref b1), .unset, .unset, .unset] [(.int (2147483647 : Int32)), (.int p0)]) _
    refine XS.iand X37.here hx rfl (hb hby at_87) rfl ?_
    show Sp p e below T37 (mkF m 88 #[.val (.int p0), .val (.ref b1), .unset, .unset, .unset] [(.int (p0 &&& (2147483647 : Int32)))]) _
    refine XS.bipush X37.here hx rfl (hb hby at_88) ?_
    show Sp p e below T37 (mkF m 90 #[.val (.int p0), .val (.ref b1), .unset, .unset, .unset] [(.int (12 : Int32)), (.int (p0 &&& (2147483647 : Int32)))]) _
    refine iremM X37 hx rfl (hb hby at_90) rfl (by decide) ?_
    show Sp p e below T37 (mkF m 91 #[.val (.int p0), .val (.ref b1), .unset, .unset, .unset] [(.int ((p0 &&& (2147483647 : Int32)) % (12 : Int32)))]) _
    refine XS.istoreN X37.here hx rfl (hb hby at_91) rfl (l' := #[.val (.int p0), .val (.ref b1), .val (.int ((p0 &&& (2147483647 : Int32)) % (12 : Int32))), .unset, .unset]) rfl ?_
    show Sp p e below T37 (mkF m 92 #[.val (.int p0), .val (.ref b1), .val (.int ((p0 &&& (2147483647 : Int32)) % (12 : Int32))), .unset, .unset] []) _
    refine XS.aloadN X37.here hx rfl (hb hby at_92) rfl rfl ?_
    show Sp p e below T37 (mkF m 93 #[.val (.int p0), .val (.ref b1), .val (.int ((p0 &&& (2147483647 : Int32)) % (12 : Int32))), .unset, .unset] [(.ref b1)]) _
    refine XS.iloadN X37.here hx rfl (hb hby at_93) rfl ?_
    show Sp p e below T37 (mkF m 94 #[.val (.int p0), .val (.ref b1), .val (.int ((p0 &&& (2147483647 : Int32)) % (12 : Int32))), .unset, .unset] [(.int ((p0 &&& (2147483647 : Int32)) % (12 : Int32))), (.ref b1)]) _
    refine X37.aaload hx (j := ((p0 &&& (2147483647 : Int32)) % (12 : Int32))) (v := (.ref w_SERVER_START)) (by rw [e37]; exact Ar38.1) (State.isArrayOf_alike hZ.alike Ar38.2.1) rfl Ar38.2.2 hin38 hat38 (g := (mkF m 94 #[.val (.int p0), .val (.ref b1), .val (.int ((p0 &&& (2147483647 : Int32)) % (12 : Int32))), .unset, .unset] [(.int ((p0 &&& (2147483647 : Int32)) % (12 : Int32))), (.ref b1)])) rfl rfl (hb hby at_94) _ ?_
    show Sp p e below T37 (mkF m 95 #[.val (.int p0), .val (.ref b1), .val (.int ((p0 &&& (2147483647 : Int32)) % (12 : Int32))), .unset, .unset] [(.ref w_SERVER_START)]) _
    refine XS.astoreN X37.here hx rfl (hb hby at_95) rfl rfl (l' := #[.val (.int p0), .val (.ref b1), .val (.int ((p0 &&& (2147483647 : Int32)) % (12 : Int32))), .val (.ref w_SERVER_START), .unset]) rfl ?_
    show Sp p e below T37 (mkF m 96 #[.val (.int p0), .val (.ref b1), .val (.int ((p0 &&& (2147483647 : Int32)) % (12 : Int32))), .val (.ref w_SERVER_START), .unset] []) _
    refine XS.iconst X37.here hx rfl (hb hby at_96) ?_
    show Sp p e below T37 (mkF m 97 #[.val (.int p0), .val (.ref b1), .val (.int ((p0 &&& (2147483647 : Int32)) % (12 : Int32))), .val (.ref w_SERVER_START), .unset] [(.int (0 : Int32))]) _
    refine XS.istore X37.here hx rfl (hb hby at_97) rfl (l' := #[.val (.int p0), .val (.ref b1), .val (.int ((p0 &&& (2147483647 : Int32)) % (12 : Int32))), .val (.ref w_SERVER_START), .val (.int (0 : Int32))]) rfl ?_
    show Sp p e below T37 (mkF m 99 #[.val (.int p0), .val (.ref b1), .val (.int ((p0 &&& (2147483647 : Int32)) % (12 : Int32))), .val (.ref w_SERVER_START), .val (.int (0 : Int32))] []) _
    refine XS.iloadN X37.here hx rfl (hb hby at_99) rfl ?_
    show Sp p e below T37 (mkF m 100 #[.val (.int p0), .val (.ref b1), .val (.int ((p0 &&& (2147483647 : Int32)) % (12 : Int32))), .val (.ref w_SERVER_START), .val (.int (0 : Int32))] [(.int ((p0 &&& (2147483647 : Int32)) % (12 : Int32)))]) _
    refine XS.bipush X37.here hx rfl (hb hby at_100) ?_
    show Sp p e below T37 (mkF m 102 #[.val (.int p0), .val (.ref b1), .val (.int ((p0 &&& (2147483647 : Int32)) % (12 : Int32))), .val (.ref w_SERVER_START), .val (.int (0 : Int32))] [(.int (6 : Int32)), (.int ((p0 &&& (2147483647 : Int32)) % (12 : Int32)))]) _
    refine XS.icmpYes X37.here hx rfl (pc0 := 102) (pc' := 111) rfl (hb hby at_102) rfl (feq (by rw [hc4]; decide : ¬ (((p0 &&& (2147483647 : Int32)) % (12 : Int32)) = (6 : Int32)))).2 (by decide) (by decide) ?_
    show Sp p e below T37 (mkF m 111 #[.val (.int p0), .val (.ref b1), .val (.int ((p0 &&& (2147483647 : Int32)) % (12 : Int32))), .val (.ref w_SERVER_START), .val (.int (0 : Int32))] []) _
    refine XS.iloadN X37.here hx rfl (hb hby at_111) rfl ?_
    show Sp p e below T37 (mkF m 112 #[.val (.int p0), .val (.ref b1), .val (.int ((p0 &&& (2147483647 : Int32)) % (12 : Int32))), .val (.ref w_SERVER_START), .val (.int (0 : Int32))] [(.int ((p0 &&& (2147483647 : Int32)) % (12 : Int32)))]) _
    refine XS.bipush X37.here hx rfl (hb hby at_112) ?_
    show Sp p e below T37 (mkF m 114 #[.val (.int p0), .val (.ref b1), .val (.int ((p0 &&& (2147483647 : Int32)) % (12 : Int32))), .val (.ref w_SERVER_START), .val (.int (0 : Int32))] [(.int (7 : Int32)), (.int ((p0 &&& (2147483647 : Int32)) % (12 : Int32)))]) _
    refine XS.icmpYes X37.here hx rfl (pc0 := 114) (pc' := 123) rfl (hb hby at_114) rfl (feq (by rw [hc4]; decide : ¬ (((p0 &&& (2147483647 : Int32)) % (12 : Int32)) = (7 : Int32)))).2 (by decide) (by decide) ?_
    show Sp p e below T37 (mkF m 123 #[.val (.int p0), .val (.ref b1), .val (.int ((p0 &&& (2147483647 : Int32)) % (12 : Int32))), .val (.ref w_SERVER_START), .val (.int (0 : Int32))] []) _
    refine XS.iloadN X37.here hx rfl (hb hby at_123) rfl ?_
    show Sp p e below T37 (mkF m 124 #[.val (.int p0), .val (.ref b1), .val (.int ((p0 &&& (2147483647 : Int32)) % (12 : Int32))), .val (.ref w_SERVER_START), .val (.int (0 : Int32))] [(.int ((p0 &&& (2147483647 : Int32)) % (12 : Int32)))]) _
    refine XS.bipush X37.here hx rfl (hb hby at_124) ?_
    show Sp p e below T37 (mkF m 126 #[.val (.int p0), .val (.ref b1), .val (.int ((p0 &&& (2147483647 : Int32)) % (12 : Int32))), .val (.ref w_SERVER_START), .val (.int (0 : Int32))] [(.int (10 : Int32)), (.int ((p0 &&& (2147483647 : Int32)) % (12 : Int32)))]) _
    refine XS.icmpYes X37.here hx rfl (pc0 := 126) (pc' := 135) rfl (hb hby at_126) rfl (feq (by rw [hc4]; decide : ¬ (((p0 &&& (2147483647 : Int32)) % (12 : Int32)) = (10 : Int32)))).2 (by decide) (by decide) ?_
    show Sp p e below T37 (mkF m 135 #[.val (.int p0), .val (.ref b1), .val (.int ((p0 &&& (2147483647 : Int32)) % (12 : Int32))), .val (.ref w_SERVER_START), .val (.int (0 : Int32))] []) _
    refine XS.iloadN X37.here hx rfl (hb hby at_135) rfl ?_
    show Sp p e below T37 (mkF m 136 #[.val (.int p0), .val (.ref b1), .val (.int ((p0 &&& (2147483647 : Int32)) % (12 : Int32))), .val (.ref w_SERVER_START), .val (.int (0 : Int32))] [(.int ((p0 &&& (2147483647 : Int32)) % (12 : Int32)))]) _
    refine XS.bipush X37.here hx rfl (hb hby at_136) ?_
    show Sp p e below T37 (mkF m 138 #[.val (.int p0), .val (.ref b1), .val (.int ((p0 &&& (2147483647 : Int32)) % (12 : Int32))), .val (.ref w_SERVER_START), .val (.int (0 : Int32))] [(.int (11 : Int32)), (.int ((p0 &&& (2147483647 : Int32)) % (12 : Int32)))]) _
    refine XS.icmpYes X37.here hx rfl (pc0 := 138) (pc' := 144) rfl (hb hby at_138) rfl (feq (by rw [hc4]; decide : ¬ (((p0 &&& (2147483647 : Int32)) % (12 : Int32)) = (11 : Int32)))).2 (by decide) (by decide) ?_
    show Sp p e below T37 (mkF m 144 #[.val (.int p0), .val (.ref b1), .val (.int ((p0 &&& (2147483647 : Int32)) % (12 : Int32))), .val (.ref w_SERVER_START), .val (.int (0 : Int32))] []) _
    refine XS.aloadN X37.here hx rfl (hb hby at_144) rfl rfl ?_
    show Sp p e below T37 (mkF m 145 #[.val (.int p0), .val (.ref b1), .val (.int ((p0 &&& (2147483647 : Int32)) % (12 : Int32))), .val (.ref w_SERVER_START), .val (.int (0 : Int32))] [(.ref w_SERVER_START)]) _
    refine st39.trans ?_
    show Sp p e below T39 (mkF m 148 #[.val (.int p0), .val (.ref b1), .val (.int ((p0 &&& (2147483647 : Int32)) % (12 : Int32))), .val (.ref w_SERVER_START), .val (.int (0 : Int32))] [(.int (0 : Int32))]) _
    refine XS.iload X39.here hx rfl (hb hby at_148) rfl ?_
    show Sp p e below T39 (mkF m 150 #[.val (.int p0), .val (.ref b1), .val (.int ((p0 &&& (2147483647 : Int32)) % (12 : Int32))), .val (.ref w_SERVER_START), .val (.int (0 : Int32))] [(.int (0 : Int32)), (.int (0 : Int32))]) _
    refine XS.icmpNo X39.here hx rfl (hb hby at_150) rfl (teq (by decide : (0 : Int32) = (0 : Int32))).2 ?_
    show Sp p e below T39 (mkF m 153 #[.val (.int p0), .val (.ref b1), .val (.int ((p0 &&& (2147483647 : Int32)) % (12 : Int32))), .val (.ref w_SERVER_START), .val (.int (0 : Int32))] []) _
    refine XS.iconst X39.here hx rfl (hb hby at_153) ?_
    show Sp p e below T39 (mkF m 154 #[.val (.int p0), .val (.ref b1), .val (.int ((p0 &&& (2147483647 : Int32)) % (12 : Int32))), .val (.ref w_SERVER_START), .val (.int (0 : Int32))] [(.int (1 : Int32))]) _
    refine XS.goto X39.here hx rfl (pc0 := 154) (pc' := 158) rfl (hb hby at_154) (by decide) (by decide) ?_
    show Sp p e below T39 (mkF m 158 #[.val (.int p0), .val (.ref b1), .val (.int ((p0 &&& (2147483647 : Int32)) % (12 : Int32))), .val (.ref w_SERVER_START), .val (.int (0 : Int32))] [(.int (1 : Int32))]) _
    exact retN X39 hx (t := .boolean) Bd.returns (by simp) (hb hby at_158) hr
  · skip
    exact ⟨rfl, N39⟩
def Q9 (Z : State) (w_PLATFORM_DEPLOY : Addr) (w_PLATFORM_DELETE : Addr) (w_SERVER_DEPLOY : Addr) (w_SERVER_START : Addr) (w_SERVER_STOP : Addr) (w_SERVER_DELETE : Addr) (w_DISK_ATTACH : Addr) (w_DISK_DETACH : Addr) (w_SNAPSHOT_CREATE : Addr) (w_SNAPSHOT_DELETE : Addr) (w_NIC_ATTACH : Addr) (w_NIC_DETACH : Addr) (h0 : Heap) (n0 : Nat) (v : Option Value) (h : Heap) (L : List Loc) : Prop := v = some (.int (0 : Int32)) ∧ Fr n0 L ∧ h = h0
set_option maxRecDepth 65536 in
set_option maxHeartbeats 40000000 in
theorem rm9 (l : Launch) (Z : State) (a0 : Array Value) (hw : ∀ d ∈ tables_1, d.before a0 Z = true) (ws : List Jvm.Cond) (w_PLATFORM_DEPLOY w_PLATFORM_DELETE w_SERVER_DEPLOY w_SERVER_START w_SERVER_STOP w_SERVER_DELETE w_DISK_ATTACH w_DISK_DETACH w_SNAPSHOT_CREATE w_SNAPSHOT_DELETE w_NIC_ATTACH w_NIC_DETACH : Addr) (hp : Perm Z w_PLATFORM_DEPLOY w_PLATFORM_DELETE w_SERVER_DEPLOY w_SERVER_START w_SERVER_STOP w_SERVER_DELETE w_DISK_ATTACH w_DISK_DETACH w_SNAPSHOT_CREATE w_SNAPSHOT_DELETE w_NIC_ATTACH w_NIC_DETACH) (h0 : Heap) (n0 : Nat) (O0 : Old Z n0 h0) :
    MetFree l y0 (head1 (Jvm.Cond.code y0 prog_20_method_6_code 1 (some .boolean) :: ws) ({ frames := 0, cells := 0, slots := 0, locals := 0 } : Room)) (fun a U => a = #[(.ref w_SERVER_STOP)] ∧ Z.Warmed39 U.vm ∧ U.heap = h0) (fun _ _ _ _ _ => True) (fun _ U o U' => ∃ v L, o = .returned v ∧ Q9 Z w_PLATFORM_DEPLOY w_PLATFORM_DELETE w_SERVER_DEPLOY w_SERVER_START w_SERVER_STOP w_SERVER_DELETE w_DISK_ATTACH w_DISK_DETACH w_SNAPSHOT_CREATE w_SNAPSHOT_DELETE w_NIC_ATTACH w_NIC_DETACH  h0 n0 v U'.heap L ∧ FrameEnd U o U' L ({ frames := 0, cells := 0, slots := 0, locals := 0 } : Room).cells ({ frames := 0, cells := 0, slots := 0, locals := 0 } : Room).slots) := by
  refine MetFree.of_bodySF (plainFor_of_name pn_1) hisR ?_
  intro p e s m args below meth c s₁ Bd hml0 hP hK
  obtain ⟨rfl, hZ, hh⟩ := hP
  have hx := Bd.exec
  have hby := Bd.bytes
  have hml : c.maxLocals = 1 := hml0
  have hown : s.vm.findClass "com/example/ratebook/ratebook/model/EventType" = some m.cls := findClass_of_methodNamed Bd.named
  have hnm := (name_of_methodNamed Bd.named Bd.method).1
  have X0 : Stand p l e ({ frames := 0, cells := 0, slots := 0, locals := 0 } : Room) s m #[(.ref w_SERVER_STOP)] below meth c s₁ [] 0 0 := Stand.of_body Bd
  have e0 : s₁.heap = h0 := by rw [← hh, Bd.state]; rfl
  have N0 := Fr.nil n0
  have hp' := hp
  obtain ⟨S_w_PLATFORM_DEPLOY, E_w_PLATFORM_DEPLOY, S_w_PLATFORM_DELETE, E_w_PLATFORM_DELETE, S_w_SERVER_DEPLOY, E_w_SERVER_DEPLOY, S_w_SERVER_START, E_w_SERVER_START, S_w_SERVER_STOP, E_w_SERVER_STOP, S_w_SERVER_DELETE, E_w_SERVER_DELETE, S_w_DISK_ATTACH, E_w_DISK_ATTACH, S_w_DISK_DETACH, E_w_DISK_DETACH, S_w_SNAPSHOT_CREATE, E_w_SNAPSHOT_CREATE, S_w_SNAPSHOT_DELETE, E_w_SNAPSHOT_DELETE, S_w_NIC_ATTACH, E_w_NIC_ATTACH, S_w_NIC_DETACH, E_w_NIC_DETACH, F_ordinal_w_PLATFORM_DEPLOY, F_ordinal_w_DISK_ATTACH, F_ordinal_w_DISK_DETACH, F_ordinal_w_NIC_ATTACH, F_ordinal_w_NIC_DETACH, F_ordinal_w_SERVER_START, F_ordinal_w_SERVER_DEPLOY, F_ordinal_w_SERVER_STOP, F_ordinal_w_SNAPSHOT_CREATE, F_ordinal_w_PLATFORM_DELETE, F_ordinal_w_SNAPSHOT_DELETE, F_ordinal_w_SERVER_DELETE⟩ := hp'
  have pre0 : ∀ t, Steps p.tables e below (s₁.setTop (mkF m 0 #[.val (.ref w_SERVER_STOP)] [])) t → Steps p.tables e below (s₁.setTop (entryFrame m #[(.ref w_SERVER_STOP)] 1)) t := fun t k => castTop (ef_1_0 m w_SERVER_STOP) k
  obtain ⟨T1, X1, e1, st1⟩ := getS2 X0 hx hZ hown (host := "") (Or.inl (hw _ (List.mem_of_getElem? (i := 34) rfl))) Via.refl e0 (S_w_DISK_ATTACH.ext O0.2) (g := (mkF m 1 #[.val (.ref w_SERVER_STOP)] [(.ref w_SERVER_STOP)])) rfl (hb hby d1_1)
  obtain ⟨T2, X2, e2, st2⟩ := getS2 X1 hx hZ hown (host := "") (Or.inl (hw _ (List.mem_of_getElem? (i := 35) rfl))) Via.refl e1 (S_w_DISK_DETACH.ext O0.2) (g := (mkF m 8 #[.val (.ref w_SERVER_STOP)] [(.ref w_SERVER_STOP)])) rfl (hb hby d1_8)
  obtain ⟨T3, X3, e3, st3⟩ := getS2 X2 hx hZ hown (host := "") (Or.inl (hw _ (List.mem_of_getElem? (i := 36) rfl))) Via.refl e2 (S_w_NIC_ATTACH.ext O0.2) (g := (mkF m 15 #[.val (.ref w_SERVER_STOP)] [(.ref w_SERVER_STOP)])) rfl (hb hby d1_15)
  obtain ⟨T4, X4, e4, st4⟩ := getS2 X3 hx hZ hown (host := "") (Or.inl (hw _ (List.mem_of_getElem? (i := 37) rfl))) Via.refl e3 (S_w_NIC_DETACH.ext O0.2) (g := (mkF m 22 #[.val (.ref w_SERVER_STOP)] [(.ref w_SERVER_STOP)])) rfl (hb hby d1_22)
  obtain ⟨fs, hr, hrun, hended, hW, hsame⟩ := X4.leave (v := some (.int (0 : Int32))) (fun h => by rw [Bd.returns] at h; cases h)
  refine ⟨_, _, pre0 _ ?_, hrun, hended, _, _, rfl, ?_, ⟨_, rfl⟩, hW, hsame.mono (by decide) (by decide)⟩
  · show Sp p e below s₁ (mkF m 0 #[.val (.ref w_SERVER_STOP)] []) _
    refine XS.aloadN X0.here hx rfl (hb hby d1_0) rfl rfl ?_
    show Sp p e below s₁ (mkF m 1 #[.val (.ref w_SERVER_STOP)] [(.ref w_SERVER_STOP)]) _
    refine st1 _ ?_
    show Sp p e below T1 (mkF m 4 #[.val (.ref w_SERVER_STOP)] [(.ref w_DISK_ATTACH), (.ref w_SERVER_STOP)]) _
    refine Jvm.RoadKit.acmp (g := (mkF m 4 #[.val (.ref w_SERVER_STOP)] [(.ref w_DISK_ATTACH), (.ref w_SERVER_STOP)])) X1 hx rfl rfl rfl (pc0 := 4) (pc' := 7) (same := false) rfl (hb hby d1_4) rfl (decide_eq_false fun q => (Ne.symm (ne_w_DISK_ATTACH_w_SERVER_STOP hp)) (Value.ref.inj q)) (by decide) (by decide) ?_
    show Sp p e below T1 (mkF m 7 #[.val (.ref w_SERVER_STOP)] []) _
    refine XS.aloadN X1.here hx rfl (hb hby d1_7) rfl rfl ?_
    show Sp p e below T1 (mkF m 8 #[.val (.ref w_SERVER_STOP)] [(.ref w_SERVER_STOP)]) _
    refine st2 _ ?_
    show Sp p e below T2 (mkF m 11 #[.val (.ref w_SERVER_STOP)] [(.ref w_DISK_DETACH), (.ref w_SERVER_STOP)]) _
    refine Jvm.RoadKit.acmp (g := (mkF m 11 #[.val (.ref w_SERVER_STOP)] [(.ref w_DISK_DETACH), (.ref w_SERVER_STOP)])) X2 hx rfl rfl rfl (pc0 := 11) (pc' := 14) (same := false) rfl (hb hby d1_11) rfl (decide_eq_false fun q => (Ne.symm (ne_w_DISK_DETACH_w_SERVER_STOP hp)) (Value.ref.inj q)) (by decide) (by decide) ?_
    show Sp p e below T2 (mkF m 14 #[.val (.ref w_SERVER_STOP)] []) _
    refine XS.aloadN X2.here hx rfl (hb hby d1_14) rfl rfl ?_
    show Sp p e below T2 (mkF m 15 #[.val (.ref w_SERVER_STOP)] [(.ref w_SERVER_STOP)]) _
    refine st3 _ ?_
    show Sp p e below T3 (mkF m 18 #[.val (.ref w_SERVER_STOP)] [(.ref w_NIC_ATTACH), (.ref w_SERVER_STOP)]) _
    refine Jvm.RoadKit.acmp (g := (mkF m 18 #[.val (.ref w_SERVER_STOP)] [(.ref w_NIC_ATTACH), (.ref w_SERVER_STOP)])) X3 hx rfl rfl rfl (pc0 := 18) (pc' := 21) (same := false) rfl (hb hby d1_18) rfl (decide_eq_false fun q => (Ne.symm (ne_w_NIC_ATTACH_w_SERVER_STOP hp)) (Value.ref.inj q)) (by decide) (by decide) ?_
    show Sp p e below T3 (mkF m 21 #[.val (.ref w_SERVER_STOP)] []) _
    refine XS.aloadN X3.here hx rfl (hb hby d1_21) rfl rfl ?_
    show Sp p e below T3 (mkF m 22 #[.val (.ref w_SERVER_STOP)] [(.ref w_SERVER_STOP)]) _
    refine st4 _ ?_
    show Sp p e below T4 (mkF m 25 #[.val (.ref w_SERVER_STOP)] [(.ref w_NIC_DETACH), (.ref w_SERVER_STOP)]) _
    refine Jvm.RoadKit.acmp (g := (mkF m 25 #[.val (.ref w_SERVER_STOP)] [(.ref w_NIC_DETACH), (.ref w_SERVER_STOP)])) X4 hx rfl rfl rfl (pc0 := 25) (pc' := 32) (same := false) rfl (hb hby d1_25) rfl (decide_eq_false fun q => (Ne.symm (ne_w_NIC_DETACH_w_SERVER_STOP hp)) (Value.ref.inj q)) (by decide) (by decide) ?_
    show Sp p e below T4 (mkF m 32 #[.val (.ref w_SERVER_STOP)] []) _
    refine XS.iconst X4.here hx rfl (hb hby d1_32) ?_
    show Sp p e below T4 (mkF m 33 #[.val (.ref w_SERVER_STOP)] [(.int (0 : Int32))]) _
    exact retN X4 hx (t := .boolean) Bd.returns (by simp) (hb hby d1_33) hr
  · show Q9 Z w_PLATFORM_DEPLOY w_PLATFORM_DELETE w_SERVER_DEPLOY w_SERVER_START w_SERVER_STOP w_SERVER_DELETE w_DISK_ATTACH w_DISK_DETACH w_SNAPSHOT_CREATE w_SNAPSHOT_DELETE w_NIC_ATTACH w_NIC_DETACH  h0 n0 _ T4.heap _
    rw [e4]
    exact ⟨rfl, N0, rfl⟩
set_option maxRecDepth 65536 in
set_option maxHeartbeats 40000000 in
theorem rm10 (l : Launch) (Z : State) (a0 : Array Value) (hw : ∀ d ∈ tables_1, d.before a0 Z = true) (ws : List Jvm.Cond) (w_PLATFORM_DEPLOY w_PLATFORM_DELETE w_SERVER_DEPLOY w_SERVER_START w_SERVER_STOP w_SERVER_DELETE w_DISK_ATTACH w_DISK_DETACH w_SNAPSHOT_CREATE w_SNAPSHOT_DELETE w_NIC_ATTACH w_NIC_DETACH : Addr) (hp : Perm Z w_PLATFORM_DEPLOY w_PLATFORM_DELETE w_SERVER_DEPLOY w_SERVER_START w_SERVER_STOP w_SERVER_DELETE w_DISK_ATTACH w_DISK_DETACH w_SNAPSHOT_CREATE w_SNAPSHOT_DELETE w_NIC_ATTACH w_NIC_DETACH) (p0 : Int32) (h0 : Heap) (n0 : Nat) (O0 : Old Z n0 h0) (hc1 : ¬ (((p0 &&& (2147483647 : Int32)) % (12 : Int32)) = (0 : Int32))) (hc2 : ¬ (((p0 &&& (2147483647 : Int32)) % (12 : Int32)) = (1 : Int32))) (hc3 : ¬ (((p0 &&& (2147483647 : Int32)) % (12 : Int32)) = (2 : Int32))) (hc4 : ¬ (((p0 &&& (2147483647 : Int32)) % (12 : Int32)) = (3 : Int32))) (hc5 : ((p0 &&& (2147483647 : Int32)) % (12 : Int32)) = (4 : Int32)) :
    MetFree l x (head1 (Jvm.Cond.code x code maxLocals ret :: ws) room_1) (fun a U => a = #[(.int p0)] ∧ Z.Warmed39 U.vm ∧ U.heap = h0) (fun _ _ _ _ _ => True) (fun _ U o U' => ∃ v L, o = .returned v ∧ (v = some (.int (1 : Int32)) ∧ Fr n0 L) ∧ FrameEnd U o U' L 16 128) := by
  refine MetFree.of_bodySF (plainFor_of_name pn_0) hisR ?_
  intro p e s m args below meth c s₁ Bd hml0 hP hK
  obtain ⟨rfl, hZ, hh⟩ := hP
  have hx := Bd.exec
  have hby := Bd.bytes
  have hml : c.maxLocals = 5 := hml0
  have hown : s.vm.findClass "com/example/ratebook/ratebook/model/EventTypeIsAttachmentEventPinLaw" = some m.cls := findClass_of_methodNamed Bd.named
  have hnm := (name_of_methodNamed Bd.named Bd.method).1
  have X0 : Stand p l e room_1 s m #[(.int p0)] below meth c s₁ [] 0 0 := Stand.of_body Bd
  have e0 : s₁.heap = h0 := by rw [← hh, Bd.state]; rfl
  have N0 := Fr.nil n0
  have hp' := hp
  obtain ⟨S_w_PLATFORM_DEPLOY, E_w_PLATFORM_DEPLOY, S_w_PLATFORM_DELETE, E_w_PLATFORM_DELETE, S_w_SERVER_DEPLOY, E_w_SERVER_DEPLOY, S_w_SERVER_START, E_w_SERVER_START, S_w_SERVER_STOP, E_w_SERVER_STOP, S_w_SERVER_DELETE, E_w_SERVER_DELETE, S_w_DISK_ATTACH, E_w_DISK_ATTACH, S_w_DISK_DETACH, E_w_DISK_DETACH, S_w_SNAPSHOT_CREATE, E_w_SNAPSHOT_CREATE, S_w_SNAPSHOT_DELETE, E_w_SNAPSHOT_DELETE, S_w_NIC_ATTACH, E_w_NIC_ATTACH, S_w_NIC_DETACH, E_w_NIC_DETACH, F_ordinal_w_PLATFORM_DEPLOY, F_ordinal_w_DISK_ATTACH, F_ordinal_w_DISK_DETACH, F_ordinal_w_NIC_ATTACH, F_ordinal_w_NIC_DETACH, F_ordinal_w_SERVER_START, F_ordinal_w_SERVER_DEPLOY, F_ordinal_w_SERVER_STOP, F_ordinal_w_SNAPSHOT_CREATE, F_ordinal_w_PLATFORM_DELETE, F_ordinal_w_SNAPSHOT_DELETE, F_ordinal_w_SERVER_DELETE⟩ := hp'
  have pre0 : ∀ t, Steps p.tables e below (s₁.setTop (mkF m 0 #[.val (.int p0), .unset, .unset, .unset, .unset] [])) t → Steps p.tables e below (s₁.setTop (entryFrame m #[(.int p0)] maxLocals)) t := fun t k => castTop (ef_0_0 m p0) k
  obtain ⟨T1, h1, k1, X1, e1, E1, A1, EA1, Ov1, st1⟩ := newRE X0 hx hZ hown (hw _ (List.mem_of_getElem? (i := 0) rfl)) (hw _ (List.mem_of_getElem? (i := 1) rfl)) e0 (g := (mkF m 2 #[.val (.int p0), .unset, .unset, .unset, .unset] [(.int (12 : Int32))])) rfl (hb hby at_2) rfl (by decide) (cap := 12) (by decide) (by decide) (by decide) (by decide) (ad := "[Lcom/example/ratebook/ratebook/model/EventType;") (by decide)
  obtain ⟨b1, g1⟩ : ∃ z, z = h0.size := ⟨_, rfl⟩
  rw [← g1] at A1 EA1 st1
  have g_b1 : n0 ≤ b1 := Nat.le_trans (own_sz O0) (Nat.le_of_eq g1.symm)
  have sz_b1 : h0.size ≤ b1 := Nat.le_trans (Keep.refl h0 []).1 (Nat.le_of_eq g1.symm)
  have O1 := O0.ext E1
  have K1 : Keep h0 h1 [] := (Keep.refl h0 []).ext E1
  have V_b1 : Arv Z h1 b1 k1 (.object "com/example/ratebook/ratebook/model/EventType") (12 : Int32) [.null, .null, .null, .null, .null, .null, .null, .null, .null, .null, .null, .null] .null := (Arv.new A1 (by decide)).pad (pad_rep [] .null 12)
  obtain ⟨T2, X2, e2, st2⟩ := getS2 X1 hx hZ hown (host := "") (Or.inl (hw _ (List.mem_of_getElem? (i := 2) rfl))) Via.refl e1 (S_w_PLATFORM_DEPLOY.ext O1.2) (g := (mkF m 7 #[.val (.int p0), .unset, .unset, .unset, .unset] [(.int (0 : Int32)), (.ref b1), (.ref b1)])) rfl (hb hby at_7)
  obtain ⟨cl3, Ar3, q3, S3, Nn3, H3, G3⟩ := V_b1
  have hin3 : ¬ ((0 : Int32) < 0 ∨ cl3.slots.size ≤ ((0 : Int32)).toNatClampNeg) := inb_of S3 ⟨by decide, by decide⟩
  obtain ⟨T4, h4, X4, e4, W4, st4⟩ := stR X2 hx hZ e2 Ar3 (j := (0 : Int32)) hin3 rfl (Sto.ofV Ar3 q3 Ov1 (Ins.self (E_w_PLATFORM_DEPLOY.ext O1.2))) (g := (mkF m 10 #[.val (.int p0), .unset, .unset, .unset, .unset] [(.ref w_PLATFORM_DEPLOY), (.int (0 : Int32)), (.ref b1), (.ref b1)])) rfl rfl (hb hby at_10)
  have N4 := Fr.snoc X4 N0 g_b1
  have O4 := O1.wr W4 g_b1
  have K4 : Keep h0 h4 [] := K1.wr W4 (Or.inr sz_b1)
  have V_b1_4 : Arv Z h4 b1 k1 (.object "com/example/ratebook/ratebook/model/EventType") (12 : Int32) [(.ref w_PLATFORM_DEPLOY), .null, .null, .null, .null, .null, .null, .null, .null, .null, .null, .null] .null := Arv.set Ar3 q3 S3 Nn3 H3 G3 rfl W4 0 rfl (Nat.le_of_ble_eq_true rfl)
  obtain ⟨T5, X5, e5, st5⟩ := getS2 X4 hx hZ hown (host := "") (Or.inl (hw _ (List.mem_of_getElem? (i := 6) rfl))) Via.refl e4 (S_w_PLATFORM_DELETE.ext O4.2) (g := (mkF m 13 #[.val (.int p0), .unset, .unset, .unset, .unset] [(.int (1 : Int32)), (.ref b1), (.ref b1)])) rfl (hb hby at_13)
  obtain ⟨cl6, Ar6, q6, S6, Nn6, H6, G6⟩ := V_b1_4
  have hin6 : ¬ ((1 : Int32) < 0 ∨ cl6.slots.size ≤ ((1 : Int32)).toNatClampNeg) := inb_of S6 ⟨by decide, by decide⟩
  obtain ⟨T7, h7, X7, e7, W7, st7⟩ := stR X5 hx hZ e5 Ar6 (j := (1 : Int32)) hin6 rfl (Sto.ofV Ar6 q6 Ov1 (Ins.self (E_w_PLATFORM_DELETE.ext O4.2))) (g := (mkF m 16 #[.val (.int p0), .unset, .unset, .unset, .unset] [(.ref w_PLATFORM_DELETE), (.int (1 : Int32)), (.ref b1), (.ref b1)])) rfl rfl (hb hby at_16)
  have N7 := Fr.snoc X7 N4 g_b1
  have O7 := O4.wr W7 g_b1
  have K7 : Keep h0 h7 [] := K4.wr W7 (Or.inr sz_b1)
  have V_b1_7 : Arv Z h7 b1 k1 (.object "com/example/ratebook/ratebook/model/EventType") (12 : Int32) [(.ref w_PLATFORM_DEPLOY), (.ref w_PLATFORM_DELETE), .null, .null, .null, .null, .null, .null, .null, .null, .null, .null] .null := Arv.set Ar6 q6 S6 Nn6 H6 G6 rfl W7 1 rfl (Nat.le_of_ble_eq_true rfl)
  obtain ⟨T8, X8, e8, st8⟩ := getS2 X7 hx hZ hown (host := "") (Or.inl (hw _ (List.mem_of_getElem? (i := 8) rfl))) Via.refl e7 (S_w_SERVER_DEPLOY.ext O7.2) (g := (mkF m 19 #[.val (.int p0), .unset, .unset, .unset, .unset] [(.int (2 : Int32)), (.ref b1), (.ref b1)])) rfl (hb hby at_19)
  obtain ⟨cl9, Ar9, q9, S9, Nn9, H9, G9⟩ := V_b1_7
  have hin9 : ¬ ((2 : Int32) < 0 ∨ cl9.slots.size ≤ ((2 : Int32)).toNatClampNeg) := inb_of S9 ⟨by decide, by decide⟩
  obtain ⟨T10, h10, X10, e10, W10, st10⟩ := stR X8 hx hZ e8 Ar9 (j := (2 : Int32)) hin9 rfl (Sto.ofV Ar9 q9 Ov1 (Ins.self (E_w_SERVER_DEPLOY.ext O7.2))) (g := (mkF m 22 #[.val (.int p0), .unset, .unset, .unset, .unset] [(.ref w_SERVER_DEPLOY), (.int (2 : Int32)), (.ref b1), (.ref b1)])) rfl rfl (hb hby at_22)
  have N10 := Fr.snoc X10 N7 g_b1
  have O10 := O7.wr W10 g_b1
  have K10 : Keep h0 h10 [] := K7.wr W10 (Or.inr sz_b1)
  have V_b1_10 : Arv Z h10 b1 k1 (.object "com/example/ratebook/ratebook/model/EventType") (12 : Int32) [(.ref w_PLATFORM_DEPLOY), (.ref w_PLATFORM_DELETE), (.ref w_SERVER_DEPLOY), .null, .null, .null, .null, .null, .null, .null, .null, .null] .null := Arv.set Ar9 q9 S9 Nn9 H9 G9 rfl W10 2 rfl (Nat.le_of_ble_eq_true rfl)
  obtain ⟨T11, X11, e11, st11⟩ := getS2 X10 hx hZ hown (host := "") (Or.inl (hw _ (List.mem_of_getElem? (i := 10) rfl))) Via.refl e10 (S_w_SERVER_START.ext O10.2) (g := (mkF m 25 #[.val (.int p0), .unset, .unset, .unset, .unset] [(.int (3 : Int32)), (.ref b1), (.ref b1)])) rfl (hb hby at_25)
  obtain ⟨cl12, Ar12, q12, S12, Nn12, H12, G12⟩ := V_b1_10
  have hin12 : ¬ ((3 : Int32) < 0 ∨ cl12.slots.size ≤ ((3 : Int32)).toNatClampNeg) := inb_of S12 ⟨by decide, by decide⟩
  obtain ⟨T13, h13, X13, e13, W13, st13⟩ := stR X11 hx hZ e11 Ar12 (j := (3 : Int32)) hin12 rfl (Sto.ofV Ar12 q12 Ov1 (Ins.self (E_w_SERVER_START.ext O10.2))) (g := (mkF m 28 #[.val (.int p0), .unset, .unset, .unset, .unset] [(.ref w_SERVER_START), (.int (3 : Int32)), (.ref b1), (.ref b1)])) rfl rfl (hb hby at_28)
  have N13 := Fr.snoc X13 N10 g_b1
  have O13 := O10.wr W13 g_b1
  have K13 : Keep h0 h13 [] := K10.wr W13 (Or.inr sz_b1)
  have V_b1_13 : Arv Z h13 b1 k1 (.object "com/example/ratebook/ratebook/model/EventType") (12 : Int32) [(.ref w_PLATFORM_DEPLOY), (.ref w_PLATFORM_DELETE), (.ref w_SERVER_DEPLOY), (.ref w_SERVER_START), .null, .null, .null, .null, .null, .null, .null, .null] .null := Arv.set Ar12 q12 S12 Nn12 H12 G12 rfl W13 3 rfl (Nat.le_of_ble_eq_true rfl)
  obtain ⟨T14, X14, e14, st14⟩ := getS2 X13 hx hZ hown (host := "") (Or.inl (hw _ (List.mem_of_getElem? (i := 12) rfl))) Via.refl e13 (S_w_SERVER_STOP.ext O13.2) (g := (mkF m 31 #[.val (.int p0), .unset, .unset, .unset, .unset] [(.int (4 : Int32)), (.ref b1), (.ref b1)])) rfl (hb hby at_31)
  obtain ⟨cl15, Ar15, q15, S15, Nn15, H15, G15⟩ := V_b1_13
  have hin15 : ¬ ((4 : Int32) < 0 ∨ cl15.slots.size ≤ ((4 : Int32)).toNatClampNeg) := inb_of S15 ⟨by decide, by decide⟩
  obtain ⟨T16, h16, X16, e16, W16, st16⟩ := stR X14 hx hZ e14 Ar15 (j := (4 : Int32)) hin15 rfl (Sto.ofV Ar15 q15 Ov1 (Ins.self (E_w_SERVER_STOP.ext O13.2))) (g := (mkF m 34 #[.val (.int p0), .unset, .unset, .unset, .unset] [(.ref w_SERVER_STOP), (.int (4 : Int32)), (.ref b1), (.ref b1)])) rfl rfl (hb hby at_34)
  have N16 := Fr.snoc X16 N13 g_b1
  have O16 := O13.wr W16 g_b1
  have K16 : Keep h0 h16 [] := K13.wr W16 (Or.inr sz_b1)
  have V_b1_16 : Arv Z h16 b1 k1 (.object "com/example/ratebook/ratebook/model/EventType") (12 : Int32) [(.ref w_PLATFORM_DEPLOY), (.ref w_PLATFORM_DELETE), (.ref w_SERVER_DEPLOY), (.ref w_SERVER_START), (.ref w_SERVER_STOP), .null, .null, .null, .null, .null, .null, .null] .null := Arv.set Ar15 q15 S15 Nn15 H15 G15 rfl W16 4 rfl (Nat.le_of_ble_eq_true rfl)
  obtain ⟨T17, X17, e17, st17⟩ := getS2 X16 hx hZ hown (host := "") (Or.inl (hw _ (List.mem_of_getElem? (i := 14) rfl))) Via.refl e16 (S_w_SERVER_DELETE.ext O16.2) (g := (mkF m 37 #[.val (.int p0), .unset, .unset, .unset, .unset] [(.int (5 : Int32)), (.ref b1), (.ref b1)])) rfl (hb hby at_37)
  obtain ⟨cl18, Ar18, q18, S18, Nn18, H18, G18⟩ := V_b1_16
  have hin18 : ¬ ((5 : Int32) < 0 ∨ cl18.slots.size ≤ ((5 : Int32)).toNatClampNeg) := inb_of S18 ⟨by decide, by decide⟩
  obtain ⟨T19, h19, X19, e19, W19, st19⟩ := stR X17 hx hZ e17 Ar18 (j := (5 : Int32)) hin18 rfl (Sto.ofV Ar18 q18 Ov1 (Ins.self (E_w_SERVER_DELETE.ext O16.2))) (g := (mkF m 40 #[.val (.int p0), .unset, .unset, .unset, .unset] [(.ref w_SERVER_DELETE), (.int (5 : Int32)), (.ref b1), (.ref b1)])) rfl rfl (hb hby at_40)
  have N19 := Fr.snoc X19 N16 g_b1
  have O19 := O16.wr W19 g_b1
  have K19 : Keep h0 h19 [] := K16.wr W19 (Or.inr sz_b1)
  have V_b1_19 : Arv Z h19 b1 k1 (.object "com/example/ratebook/ratebook/model/EventType") (12 : Int32) [(.ref w_PLATFORM_DEPLOY), (.ref w_PLATFORM_DELETE), (.ref w_SERVER_DEPLOY), (.ref w_SERVER_START), (.ref w_SERVER_STOP), (.ref w_SERVER_DELETE), .null, .null, .null, .null, .null, .null] .null := Arv.set Ar18 q18 S18 Nn18 H18 G18 rfl W19 5 rfl (Nat.le_of_ble_eq_true rfl)
  obtain ⟨T20, X20, e20, st20⟩ := getS2 X19 hx hZ hown (host := "") (Or.inl (hw _ (List.mem_of_getElem? (i := 16) rfl))) Via.refl e19 (S_w_DISK_ATTACH.ext O19.2) (g := (mkF m 44 #[.val (.int p0), .unset, .unset, .unset, .unset] [(.int (6 : Int32)), (.ref b1), (.ref b1)])) rfl (hb hby at_44)
  obtain ⟨cl21, Ar21, q21, S21, Nn21, H21, G21⟩ := V_b1_19
  have hin21 : ¬ ((6 : Int32) < 0 ∨ cl21.slots.size ≤ ((6 : Int32)).toNatClampNeg) := inb_of S21 ⟨by decide, by decide⟩
  obtain ⟨T22, h22, X22, e22, W22, st22⟩ := stR X20 hx hZ e20 Ar21 (j := (6 : Int32)) hin21 rfl (Sto.ofV Ar21 q21 Ov1 (Ins.self (E_w_DISK_ATTACH.ext O19.2))) (g := (mkF m 47 #[.val (.int p0), .unset, .unset, .unset, .unset] [(.ref w_DISK_ATTACH), (.int (6 : Int32)), (.ref b1), (.ref b1)])) rfl rfl (hb hby at_47)
  have N22 := Fr.snoc X22 N19 g_b1
  have O22 := O19.wr W22 g_b1
  have K22 : Keep h0 h22 [] := K19.wr W22 (Or.inr sz_b1)
  have V_b1_22 : Arv Z h22 b1 k1 (.object "com/example/ratebook/ratebook/model/EventType") (12 : Int32) [(.ref w_PLATFORM_DEPLOY), (.ref w_PLATFORM_DELETE), (.ref w_SERVER_DEPLOY), (.ref w_SERVER_START), (.ref w_SERVER_STOP), (.ref w_SERVER_DELETE), (.ref w_DISK_ATTACH), .null, .null, .null, .null, .null] .null := Arv.set Ar21 q21 S21 Nn21 H21 G21 rfl W22 6 rfl (Nat.le_of_ble_eq_true rfl)
  obtain ⟨T23, X23, e23, st23⟩ := getS2 X22 hx hZ hown (host := "") (Or.inl (hw _ (List.mem_of_getElem? (i := 18) rfl))) Via.refl e22 (S_w_DISK_DETACH.ext O22.2) (g := (mkF m 51 #[.val (.int p0), .unset, .unset, .unset, .unset] [(.int (7 : Int32)), (.ref b1), (.ref b1)])) rfl (hb hby at_51)
  obtain ⟨cl24, Ar24, q24, S24, Nn24, H24, G24⟩ := V_b1_22
  have hin24 : ¬ ((7 : Int32) < 0 ∨ cl24.slots.size ≤ ((7 : Int32)).toNatClampNeg) := inb_of S24 ⟨by decide, by decide⟩
  obtain ⟨T25, h25, X25, e25, W25, st25⟩ := stR X23 hx hZ e23 Ar24 (j := (7 : Int32)) hin24 rfl (Sto.ofV Ar24 q24 Ov1 (Ins.self (E_w_DISK_DETACH.ext O22.2))) (g := (mkF m 54 #[.val (.int p0), .unset, .unset, .unset, .unset] [(.ref w_DISK_DETACH), (.int (7 : Int32)), (.ref b1), (.ref b1)])) rfl rfl (hb hby at_54)
  have N25 := Fr.snoc X25 N22 g_b1
  have O25 := O22.wr W25 g_b1
  have K25 : Keep h0 h25 [] := K22.wr W25 (Or.inr sz_b1)
  have V_b1_25 : Arv Z h25 b1 k1 (.object "com/example/ratebook/ratebook/model/EventType") (12 : Int32) [(.ref w_PLATFORM_DEPLOY), (.ref w_PLATFORM_DELETE), (.ref w_SERVER_DEPLOY), (.ref w_SERVER_START), (.ref w_SERVER_STOP), (.ref w_SERVER_DELETE), (.ref w_DISK_ATTACH), (.ref w_DISK_DETACH), .null, .null, .null, .null] .null := Arv.set Ar24 q24 S24 Nn24 H24 G24 rfl W25 7 rfl (Nat.le_of_ble_eq_true rfl)
  obtain ⟨T26, X26, e26, st26⟩ := getS2 X25 hx hZ hown (host := "") (Or.inl (hw _ (List.mem_of_getElem? (i := 20) rfl))) Via.refl e25 (S_w_SNAPSHOT_CREATE.ext O25.2) (g := (mkF m 58 #[.val (.int p0), .unset, .unset, .unset, .unset] [(.int (8 : Int32)), (.ref b1), (.ref b1)])) rfl (hb hby at_58)
  obtain ⟨cl27, Ar27, q27, S27, Nn27, H27, G27⟩ := V_b1_25
  have hin27 : ¬ ((8 : Int32) < 0 ∨ cl27.slots.size ≤ ((8 : Int32)).toNatClampNeg) := inb_of S27 ⟨by decide, by decide⟩
  obtain ⟨T28, h28, X28, e28, W28, st28⟩ := stR X26 hx hZ e26 Ar27 (j := (8 : Int32)) hin27 rfl (Sto.ofV Ar27 q27 Ov1 (Ins.self (E_w_SNAPSHOT_CREATE.ext O25.2))) (g := (mkF m 61 #[.val (.int p0), .unset, .unset, .unset, .unset] [(.ref w_SNAPSHOT_CREATE), (.int (8 : Int32)), (.ref b1), (.ref b1)])) rfl rfl (hb hby at_61)
  have N28 := Fr.snoc X28 N25 g_b1
  have O28 := O25.wr W28 g_b1
  have K28 : Keep h0 h28 [] := K25.wr W28 (Or.inr sz_b1)
  have V_b1_28 : Arv Z h28 b1 k1 (.object "com/example/ratebook/ratebook/model/EventType") (12 : Int32) [(.ref w_PLATFORM_DEPLOY), (.ref w_PLATFORM_DELETE), (.ref w_SERVER_DEPLOY), (.ref w_SERVER_START), (.ref w_SERVER_STOP), (.ref w_SERVER_DELETE), (.ref w_DISK_ATTACH), (.ref w_DISK_DETACH), (.ref w_SNAPSHOT_CREATE), .null, .null, .null] .null := Arv.set Ar27 q27 S27 Nn27 H27 G27 rfl W28 8 rfl (Nat.le_of_ble_eq_true rfl)
  obtain ⟨T29, X29, e29, st29⟩ := getS2 X28 hx hZ hown (host := "") (Or.inl (hw _ (List.mem_of_getElem? (i := 22) rfl))) Via.refl e28 (S_w_SNAPSHOT_DELETE.ext O28.2) (g := (mkF m 65 #[.val (.int p0), .unset, .unset, .unset, .unset] [(.int (9 : Int32)), (.ref b1), (.ref b1)])) rfl (hb hby at_65)
  obtain ⟨cl30, Ar30, q30, S30, Nn30, H30, G30⟩ := V_b1_28
  have hin30 : ¬ ((9 : Int32) < 0 ∨ cl30.slots.size ≤ ((9 : Int32)).toNatClampNeg) := inb_of S30 ⟨by decide, by decide⟩
  obtain ⟨T31, h31, X31, e31, W31, st31⟩ := stR X29 hx hZ e29 Ar30 (j := (9 : Int32)) hin30 rfl (Sto.ofV Ar30 q30 Ov1 (Ins.self (E_w_SNAPSHOT_DELETE.ext O28.2))) (g := (mkF m 68 #[.val (.int p0), .unset, .unset, .unset, .unset] [(.ref w_SNAPSHOT_DELETE), (.int (9 : Int32)), (.ref b1), (.ref b1)])) rfl rfl (hb hby at_68)
  have N31 := Fr.snoc X31 N28 g_b1
  have O31 := O28.wr W31 g_b1
  have K31 : Keep h0 h31 [] := K28.wr W31 (Or.inr sz_b1)
  have V_b1_31 : Arv Z h31 b1 k1 (.object "com/example/ratebook/ratebook/model/EventType") (12 : Int32) [(.ref w_PLATFORM_DEPLOY), (.ref w_PLATFORM_DELETE), (.ref w_SERVER_DEPLOY), (.ref w_SERVER_START), (.ref w_SERVER_STOP), (.ref w_SERVER_DELETE), (.ref w_DISK_ATTACH), (.ref w_DISK_DETACH), (.ref w_SNAPSHOT_CREATE), (.ref w_SNAPSHOT_DELETE), .null, .null] .null := Arv.set Ar30 q30 S30 Nn30 H30 G30 rfl W31 9 rfl (Nat.le_of_ble_eq_true rfl)
  obtain ⟨T32, X32, e32, st32⟩ := getS2 X31 hx hZ hown (host := "") (Or.inl (hw _ (List.mem_of_getElem? (i := 24) rfl))) Via.refl e31 (S_w_NIC_ATTACH.ext O31.2) (g := (mkF m 72 #[.val (.int p0), .unset, .unset, .unset, .unset] [(.int (10 : Int32)), (.ref b1), (.ref b1)])) rfl (hb hby at_72)
  obtain ⟨cl33, Ar33, q33, S33, Nn33, H33, G33⟩ := V_b1_31
  have hin33 : ¬ ((10 : Int32) < 0 ∨ cl33.slots.size ≤ ((10 : Int32)).toNatClampNeg) := inb_of S33 ⟨by decide, by decide⟩
  obtain ⟨T34, h34, X34, e34, W34, st34⟩ := stR X32 hx hZ e32 Ar33 (j := (10 : Int32)) hin33 rfl (Sto.ofV Ar33 q33 Ov1 (Ins.self (E_w_NIC_ATTACH.ext O31.2))) (g := (mkF m 75 #[.val (.int p0), .unset, .unset, .unset, .unset] [(.ref w_NIC_ATTACH), (.int (10 : Int32)), (.ref b1), (.ref b1)])) rfl rfl (hb hby at_75)
  have N34 := Fr.snoc X34 N31 g_b1
  have O34 := O31.wr W34 g_b1
  have K34 : Keep h0 h34 [] := K31.wr W34 (Or.inr sz_b1)
  have V_b1_34 : Arv Z h34 b1 k1 (.object "com/example/ratebook/ratebook/model/EventType") (12 : Int32) [(.ref w_PLATFORM_DEPLOY), (.ref w_PLATFORM_DELETE), (.ref w_SERVER_DEPLOY), (.ref w_SERVER_START), (.ref w_SERVER_STOP), (.ref w_SERVER_DELETE), (.ref w_DISK_ATTACH), (.ref w_DISK_DETACH), (.ref w_SNAPSHOT_CREATE), (.ref w_SNAPSHOT_DELETE), (.ref w_NIC_ATTACH), .null] .null := Arv.set Ar33 q33 S33 Nn33 H33 G33 rfl W34 10 rfl (Nat.le_of_ble_eq_true rfl)
  obtain ⟨T35, X35, e35, st35⟩ := getS2 X34 hx hZ hown (host := "") (Or.inl (hw _ (List.mem_of_getElem? (i := 26) rfl))) Via.refl e34 (S_w_NIC_DETACH.ext O34.2) (g := (mkF m 79 #[.val (.int p0), .unset, .unset, .unset, .unset] [(.int (11 : Int32)), (.ref b1), (.ref b1)])) rfl (hb hby at_79)
  obtain ⟨cl36, Ar36, q36, S36, Nn36, H36, G36⟩ := V_b1_34
  have hin36 : ¬ ((11 : Int32) < 0 ∨ cl36.slots.size ≤ ((11 : Int32)).toNatClampNeg) := inb_of S36 ⟨by decide, by decide⟩
  obtain ⟨T37, h37, X37, e37, W37, st37⟩ := stR X35 hx hZ e35 Ar36 (j := (11 : Int32)) hin36 rfl (Sto.ofV Ar36 q36 Ov1 (Ins.self (E_w_NIC_DETACH.ext O34.2))) (g := (mkF m 82 #[.val (.int p0), .unset, .unset, .unset, .unset] [(.ref w_NIC_DETACH), (.int (11 : Int32)), (.ref b1), (.ref b1)])) rfl rfl (hb hby at_82)
  have N37 := Fr.snoc X37 N34 g_b1
  have O37 := O34.wr W37 g_b1
  have K37 : Keep h0 h37 [] := K34.wr W37 (Or.inr sz_b1)
  have V_b1_37 : Arv Z h37 b1 k1 (.object "com/example/ratebook/ratebook/model/EventType") (12 : Int32) [(.ref w_PLATFORM_DEPLOY), (.ref w_PLATFORM_DELETE), (.ref w_SERVER_DEPLOY), (.ref w_SERVER_START), (.ref w_SERVER_STOP), (.ref w_SERVER_DELETE), (.ref w_DISK_ATTACH), (.ref w_DISK_DETACH), (.ref w_SNAPSHOT_CREATE), (.ref w_SNAPSHOT_DELETE), (.ref w_NIC_ATTACH), (.ref w_NIC_DETACH)] .null := Arv.set Ar36 q36 S36 Nn36 H36 G36 rfl W37 11 rfl (Nat.le_of_ble_eq_true rfl)
  obtain ⟨cl38, Ar38, -, S38, -, H38, -⟩ := V_b1_37
  have hin38 : ¬ (((p0 &&& (2147483647 : Int32)) % (12 : Int32)) < 0 ∨ cl38.slots.size ≤ (((p0 &&& (2147483647 : Int32)) % (12 : Int32))).toNatClampNeg) := inb_of S38 (by rw [hc5]; decide)
  have hat38 : cl38.slots[(((p0 &&& (2147483647 : Int32)) % (12 : Int32))).toNatClampNeg]? = some (.ref w_SERVER_STOP) := H38.at hin38 (by rw [hc5]; rfl)
  obtain ⟨cq39, kq39, q39a, q39b, q39c⟩ := isOf hZ e37 (E_w_SERVER_STOP.ext O37.2)
  obtain ⟨_, _, ⟨T39, L39, k39, n39⟩, -, X39, ⟨Lc39, hQ39, l39, y39, z39⟩, st39⟩ := X37.virtualBack hx (y := y0) (z := y0) hown (mvT hZ (hw _ (List.mem_of_getElem? (i := 29) rfl))) (mvT hZ (hw _ (List.mem_of_getElem? (i := 30) rfl))) (notFace_of_selects (args := #[]) (mvT hZ (hw _ (List.mem_of_getElem? (i := 32) rfl)))) (mvT hZ (hw _ (List.mem_of_getElem? (i := 32) rfl))) (mvT hZ (hw _ (List.mem_of_getElem? (i := 31) rfl))) (by decide) (backOf (W := 0) (rm9 l Z a0 hw [] w_PLATFORM_DEPLOY w_PLATFORM_DELETE w_SERVER_DEPLOY w_SERVER_START w_SERVER_STOP w_SERVER_DELETE w_DISK_ATTACH w_DISK_DETACH w_SNAPSHOT_CREATE w_SNAPSHOT_DELETE w_NIC_ATTACH w_NIC_DETACH hp h37 n0 O37) hZ (hw _ (List.mem_of_getElem? (i := 33) rfl)) (hw _ (List.mem_of_getElem? (i := 3) rfl)) (by decide) (by decide)) q39a q39c (g := (mkF m 145 #[.val (.int p0), .val (.ref b1), .val (.int ((p0 &&& (2147483647 : Int32)) % (12 : Int32))), .val (.ref w_SERVER_STOP), .val (.int (0 : Int32))] [(.ref w_SERVER_STOP)])) rfl (by rw [hml]; rfl) (Steps.refl _) (argsL := []) (rest := []) (lenOf pd_0 rfl) rfl (by show 2 * 0 + _ ≤ _; exact Nat.le_of_eq rfl) (hb hby at_145) (fun _ _ => ⟨rfl, e37, (by decide : 1 + 0 ≤ _), (by decide : 12 + 0 ≤ _)⟩)
  dsimp only [Pt.U, Pt.locs, Pt.cells, Pt.slots] at X39 l39 y39 z39 st39 hQ39
  subst l39 y39 z39
  obtain ⟨rfl, Nq39, eq39⟩ := hQ39
  have N39 := Fr.app N37 Nq39
  obtain ⟨fs, hr, hrun, hended, hW, hsame⟩ := X39.leave (v := some (.int (1 : Int32))) (fun h => by rw [Bd.returns] at h; cases h)
  refine ⟨_, _, pre0 _ ?_, hrun, hended, _, _, rfl, ?_, ⟨_, rfl⟩, hW, hsame.mono (by decide) (by decide)⟩
  · show Sp p e below s₁ (mkF m 0 #[.val (.int p0), .unset, .unset, .unset, .unset] []) _
    refine XS.bipush X0.here hx rfl (hb hby at_0) ?_
    show Sp p e below s₁ (mkF m 2 #[.val (.int p0), .unset, .unset, .unset, .unset] [(.int (12 : Int32))]) _
    refine st1 _ ?_
    show Sp p e below T1 (mkF m 5 #[.val (.int p0), .unset, .unset, .unset, .unset] [(.ref b1)]) _
    refine XS.dup X1.here hx rfl (hb hby at_5) rfl rfl ?_
    show Sp p e below T1 (mkF m 6 #[.val (.int p0), .unset, .unset, .unset, .unset] [(.ref b1), (.ref b1)]) _
    refine XS.iconst X1.here hx rfl (hb hby at_6) ?_
    show Sp p e below T1 (mkF m 7 #[.val (.int p0), .unset, .unset, .unset, .unset] [(.int (0 : Int32)), (.ref b1), (.ref b1)]) _
    refine st2 _ ?_
    show Sp p e below T2 (mkF m 10 #[.val (.int p0), .unset, .unset, .unset, .unset] [(.ref w_PLATFORM_DEPLOY), (.int (0 : Int32)), (.ref b1), (.ref b1)]) _
    refine st4 _ ?_
    show Sp p e below T4 (mkF m 11 #[.val (.int p0), .unset, .unset, .unset, .unset] [(.ref b1)]) _
    refine XS.dup X4.here hx rfl (hb hby at_11) rfl rfl ?_
    show Sp p e below T4 (mkF m 12 #[.val (.int p0), .unset, .unset, .unset, .unset] [(.ref b1), (.ref b1)]) _
    refine XS.iconst X4.here hx rfl (hb hby at_12) ?_
    show Sp p e below T4 (mkF m 13 #[.val (.int p0), .unset, .unset, .unset, .unset] [(.int (1 : Int32)), (.ref b1), (.ref b1)]) _
    refine st5 _ ?_
    show Sp p e below T5 (mkF m 16 #[.val (.int p0), .unset, .unset, .unset, .unset] [(.ref w_PLATFORM_DELETE), (.int (1 : Int32)), (.ref b1), (.ref b1)]) _
    refine st7 _ ?_
    show Sp p e below T7 (mkF m 17 #[.val (.int p0), .unset, .unset, .unset, .unset] [(.ref b1)]) _
    refine XS.dup X7.here hx rfl (hb hby at_17) rfl rfl ?_
    show Sp p e below T7 (mkF m 18 #[.val (.int p0), .unset, .unset, .unset, .unset] [(.ref b1), (.ref b1)]) _
    refine XS.iconst X7.here hx rfl (hb hby at_18) ?_
    show Sp p e below T7 (mkF m 19 #[.val (.int p0), .unset, .unset, .unset, .unset] [(.int (2 : Int32)), (.ref b1), (.ref b1)]) _
    refine st8 _ ?_
    show Sp p e below T8 (mkF m 22 #[.val (.int p0), .unset, .unset, .unset, .unset] [(.ref w_SERVER_DEPLOY), (.int (2 : Int32)), (.ref b1), (.ref b1)]) _
    refine st10 _ ?_
    show Sp p e below T10 (mkF m 23 #[.val (.int p0), .unset, .unset, .unset, .unset] [(.ref b1)]) _
    refine XS.dup X10.here hx rfl (hb hby at_23) rfl rfl ?_
    show Sp p e below T10 (mkF m 24 #[.val (.int p0), .unset, .unset, .unset, .unset] [(.ref b1), (.ref b1)]) _
    refine XS.iconst X10.here hx rfl (hb hby at_24) ?_
    show Sp p e below T10 (mkF m 25 #[.val (.int p0), .unset, .unset, .unset, .unset] [(.int (3 : Int32)), (.ref b1), (.ref b1)]) _
    refine st11 _ ?_
    show Sp p e below T11 (mkF m 28 #[.val (.int p0), .unset, .unset, .unset, .unset] [(.ref w_SERVER_START), (.int (3 : Int32)), (.ref b1), (.ref b1)]) _
    refine st13 _ ?_
    show Sp p e below T13 (mkF m 29 #[.val (.int p0), .unset, .unset, .unset, .unset] [(.ref b1)]) _
    refine XS.dup X13.here hx rfl (hb hby at_29) rfl rfl ?_
    show Sp p e below T13 (mkF m 30 #[.val (.int p0), .unset, .unset, .unset, .unset] [(.ref b1), (.ref b1)]) _
    refine XS.iconst X13.here hx rfl (hb hby at_30) ?_
    show Sp p e below T13 (mkF m 31 #[.val (.int p0), .unset, .unset, .unset, .unset] [(.int (4 : Int32)), (.ref b1), (.ref b1)]) _
    refine st14 _ ?_
    show Sp p e below T14 (mkF m 34 #[.val (.int p0), .unset, .unset, .unset, .unset] [(.ref w_SERVER_STOP), (.int (4 : Int32)), (.ref b1), (.ref b1)]) _
    refine st16 _ ?_
    show Sp p e below T16 (mkF m 35 #[.val (.int p0), .unset, .unset, .unset, .unset] [(.ref b1)]) _
    refine XS.dup X16.here hx rfl (hb hby at_35) rfl rfl ?_
    show Sp p e below T16 (mkF m 36 #[.val (.int p0), .unset, .unset, .unset, .unset] [(.ref b1), (.ref b1)]) _
    refine XS.iconst X16.here hx rfl (hb hby at_36) ?_
    show Sp p e below T16 (mkF m 37 #[.val (.int p0), .unset, .unset, .unset, .unset] [(.int (5 : Int32)), (.ref b1), (.ref b1)]) _
    refine st17 _ ?_
    show Sp p e below T17 (mkF m 40 #[.val (.int p0), .unset, .unset, .unset, .unset] [(.ref w_SERVER_DELETE), (.int (5 : Int32)), (.ref b1), (.ref b1)]) _
    refine st19 _ ?_
    show Sp p e below T19 (mkF m 41 #[.val (.int p0), .unset, .unset, .unset, .unset] [(.ref b1)]) _
    refine XS.dup X19.here hx rfl (hb hby at_41) rfl rfl ?_
    show Sp p e below T19 (mkF m 42 #[.val (.int p0), .unset, .unset, .unset, .unset] [(.ref b1), (.ref b1)]) _
    refine XS.bipush X19.here hx rfl (hb hby at_42) ?_
    show Sp p e below T19 (mkF m 44 #[.val (.int p0), .unset, .unset, .unset, .unset] [(.int (6 : Int32)), (.ref b1), (.ref b1)]) _
    refine st20 _ ?_
    show Sp p e below T20 (mkF m 47 #[.val (.int p0), .unset, .unset, .unset, .unset] [(.ref w_DISK_ATTACH), (.int (6 : Int32)), (.ref b1), (.ref b1)]) _
    refine st22 _ ?_
    show Sp p e below T22 (mkF m 48 #[.val (.int p0), .unset, .unset, .unset, .unset] [(.ref b1)]) _
    refine XS.dup X22.here hx rfl (hb hby at_48) rfl rfl ?_
    show Sp p e below T22 (mkF m 49 #[.val (.int p0), .unset, .unset, .unset, .unset] [(.ref b1), (.ref b1)]) _
    refine XS.bipush X22.here hx rfl (hb hby at_49) ?_
    show Sp p e below T22 (mkF m 51 #[.val (.int p0), .unset, .unset, .unset, .unset] [(.int (7 : Int32)), (.ref b1), (.ref b1)]) _
    refine st23 _ ?_
    show Sp p e below T23 (mkF m 54 #[.val (.int p0), .unset, .unset, .unset, .unset] [(.ref w_DISK_DETACH), (.int (7 : Int32)), (.ref b1), (.ref b1)]) _
    refine st25 _ ?_
    show Sp p e below T25 (mkF m 55 #[.val (.int p0), .unset, .unset, .unset, .unset] [(.ref b1)]) _
    refine XS.dup X25.here hx rfl (hb hby at_55) rfl rfl ?_
    show Sp p e below T25 (mkF m 56 #[.val (.int p0), .unset, .unset, .unset, .unset] [(.ref b1), (.ref b1)]) _
    refine XS.bipush X25.here hx rfl (hb hby at_56) ?_
    show Sp p e below T25 (mkF m 58 #[.val (.int p0), .unset, .unset, .unset, .unset] [(.int (8 : Int32)), (.ref b1), (.ref b1)]) _
    refine st26 _ ?_
    show Sp p e below T26 (mkF m 61 #[.val (.int p0), .unset, .unset, .unset, .unset] [(.ref w_SNAPSHOT_CREATE), (.int (8 : Int32)), (.ref b1), (.ref b1)]) _
    refine st28 _ ?_
    show Sp p e below T28 (mkF m 62 #[.val (.int p0), .unset, .unset, .unset, .unset] [(.ref b1)]) _
    refine XS.dup X28.here hx rfl (hb hby at_62) rfl rfl ?_
    show Sp p e below T28 (mkF m 63 #[.val (.int p0), .unset, .unset, .unset, .unset] [(.ref b1), (.ref b1)]) _
    refine XS.bipush X28.here hx rfl (hb hby at_63) ?_
    show Sp p e below T28 (mkF m 65 #[.val (.int p0), .unset, .unset, .unset, .unset] [(.int (9 : Int32)), (.ref b1), (.ref b1)]) _
    refine st29 _ ?_
    show Sp p e below T29 (mkF m 68 #[.val (.int p0), .unset, .unset, .unset, .unset] [(.ref w_SNAPSHOT_DELETE), (.int (9 : Int32)), (.ref b1), (.ref b1)]) _
    refine st31 _ ?_
    show Sp p e below T31 (mkF m 69 #[.val (.int p0), .unset, .unset, .unset, .unset] [(.ref b1)]) _
    refine XS.dup X31.here hx rfl (hb hby at_69) rfl rfl ?_
    show Sp p e below T31 (mkF m 70 #[.val (.int p0), .unset, .unset, .unset, .unset] [(.ref b1), (.ref b1)]) _
    refine XS.bipush X31.here hx rfl (hb hby at_70) ?_
    show Sp p e below T31 (mkF m 72 #[.val (.int p0), .unset, .unset, .unset, .unset] [(.int (10 : Int32)), (.ref b1), (.ref b1)]) _
    refine st32 _ ?_
    show Sp p e below T32 (mkF m 75 #[.val (.int p0), .unset, .unset, .unset, .unset] [(.ref w_NIC_ATTACH), (.int (10 : Int32)), (.ref b1), (.ref b1)]) _
    refine st34 _ ?_
    show Sp p e below T34 (mkF m 76 #[.val (.int p0), .unset, .unset, .unset, .unset] [(.ref b1)]) _
    refine XS.dup X34.here hx rfl (hb hby at_76) rfl rfl ?_
    show Sp p e below T34 (mkF m 77 #[.val (.int p0), .unset, .unset, .unset, .unset] [(.ref b1), (.ref b1)]) _
    refine XS.bipush X34.here hx rfl (hb hby at_77) ?_
    show Sp p e below T34 (mkF m 79 #[.val (.int p0), .unset, .unset, .unset, .unset] [(.int (11 : Int32)), (.ref b1), (.ref b1)]) _
    refine st35 _ ?_
    show Sp p e below T35 (mkF m 82 #[.val (.int p0), .unset, .unset, .unset, .unset] [(.ref w_NIC_DETACH), (.int (11 : Int32)), (.ref b1), (.ref b1)]) _
    refine st37 _ ?_
    show Sp p e below T37 (mkF m 83 #[.val (.int p0), .unset, .unset, .unset, .unset] [(.ref b1)]) _
    refine XS.astoreN X37.here hx rfl (hb hby at_83) rfl rfl (l' := #[.val (.int p0), .val (.ref b1), .unset, .unset, .unset]) rfl ?_
    show Sp p e below T37 (mkF m 84 #[.val (.int p0), .val (.ref b1), .unset, .unset, .unset] []) _
    refine XS.iloadN X37.here hx rfl (hb hby at_84) rfl ?_
    show Sp p e below T37 (mkF m 85 #[.val (.int p0), .val (.ref b1), .unset, .unset, .unset] [(.int p0)]) _
    refine X37.ldcI hx hown (mvT hZ (hw _ (List.mem_of_getElem? (i := 28) rfl))) rfl (hb hby at_85) ?_
    show Sp p e below T37 (mkF m 87 #[.val (.int p0), .val (.ref b1), .unset, .unset, .unset] [(.int (2147483647 : Int32)), (.int p0)]) _
    refine XS.iand X37.here hx rfl (hb hby at_87) rfl ?_
    show Sp p e below T37 (mkF m 88 #[.val (.int p0), .val (.ref b1), .unset, .unset, .unset] [(.int (p0 &&& (2147483647 : Int32)))]) _
    refine XS.bipush X37.here hx rfl (hb hby at_88) ?_
    show Sp p e below T37 (mkF m 90 #[.val (.int p0), .val (.ref b1), .unset, .unset, .unset] [(.int (12 : Int32)), (.int (p0 &&& (2147483647 : Int32)))]) _
    refine iremM X37 hx rfl (hb hby at_90) rfl (by decide) ?_
    show Sp p e below T37 (mkF m 91 #[.val (.int p0), .val (.ref b1), .unset, .unset, .unset] [(.int ((p0 &&& (2147483647 : Int32)) % (12 : Int32)))]) _
    refine XS.istoreN X37.here hx rfl (hb hby at_91) rfl (l' := #[.val (.int p0), .val (.ref b1), .val (.int ((p0 &&& (2147483647 : Int32)) % (12 : Int32))), .unset, .unset]) rfl ?_
    show Sp p e below T37 (mkF m 92 #[.val (.int p0), .val (.ref b1), .val (.int ((p0 &&& (2147483647 : Int32)) % (12 : Int32))), .unset, .unset] []) _
    refine XS.aloadN X37.here hx rfl (hb hby at_92) rfl rfl ?_
    show Sp p e below T37 (mkF m 93 #[.val (.int p0), .val (.ref b1), .val (.int ((p0 &&& (2147483647 : Int32)) % (12 : Int32))), .unset, .unset] [(.ref b1)]) _
    refine XS.iloadN X37.here hx rfl (hb hby at_93) rfl ?_
    show Sp p e below T37 (mkF m 94 #[.val (.int p0), .val (.ref b1), .val (.int ((p0 &&& (2147483647 : Int32)) % (12 : Int32))), .unset, .unset] [(.int ((p0 &&& (2147483647 : Int32)) % (12 : Int32))), (.ref b1)]) _
    refine X37.aaload hx (j := ((p0 &&& (2147483647 : Int32)) % (12 : Int32))) (v := (.ref w_SERVER_STOP)) (by rw [e37]; exact Ar38.1) (State.isArrayOf_alike hZ.alike Ar38.2.1) rfl Ar38.2.2 hin38 hat38 (g := (mkF m 94 #[.val (.int p0), .val (.ref b1), .val (.int ((p0 &&& (2147483647 : Int32)) % (12 : Int32))), .unset, .unset] [(.int ((p0 &&& (2147483647 : Int32)) % (12 : Int32))), (.ref b1)])) rfl rfl (hb hby at_94) _ ?_
    show Sp p e below T37 (mkF m 95 #[.val (.int p0), .val (.ref b1), .val (.int ((p0 &&& (2147483647 : Int32)) % (12 : Int32))), .unset, .unset] [(.ref w_SERVER_STOP)]) _
    refine XS.astoreN X37.here hx rfl (hb hby at_95) rfl rfl (l' := #[.val (.int p0), .val (.ref b1), .val (.int ((p0 &&& (2147483647 : Int32)) % (12 : Int32))), .val (.ref w_SERVER_STOP), .unset]) rfl ?_
    show Sp p e below T37 (mkF m 96 #[.val (.int p0), .val (.ref b1), .val (.int ((p0 &&& (2147483647 : Int32)) % (12 : Int32))), .val (.ref w_SERVER_STOP), .unset] []) _
    refine XS.iconst X37.here hx rfl (hb hby at_96) ?_
    show Sp p e below T37 (mkF m 97 #[.val (.int p0), .val (.ref b1), .val (.int ((p0 &&& (2147483647 : Int32)) % (12 : Int32))), .val (.ref w_SERVER_STOP), .unset] [(.int (0 : Int32))]) _
    refine XS.istore X37.here hx rfl (hb hby at_97) rfl (l' := #[.val (.int p0), .val (.ref b1), .val (.int ((p0 &&& (2147483647 : Int32)) % (12 : Int32))), .val (.ref w_SERVER_STOP), .val (.int (0 : Int32))]) rfl ?_
    show Sp p e below T37 (mkF m 99 #[.val (.int p0), .val (.ref b1), .val (.int ((p0 &&& (2147483647 : Int32)) % (12 : Int32))), .val (.ref w_SERVER_STOP), .val (.int (0 : Int32))] []) _
    refine XS.iloadN X37.here hx rfl (hb hby at_99) rfl ?_
    show Sp p e below T37 (mkF m 100 #[.val (.int p0), .val (.ref b1), .val (.int ((p0 &&& (2147483647 : Int32)) % (12 : Int32))), .val (.ref w_SERVER_STOP), .val (.int (0 : Int32))] [(.int ((p0 &&& (2147483647 : Int32)) % (12 : Int32)))]) _
    refine XS.bipush X37.here hx rfl (hb hby at_100) ?_
    show Sp p e below T37 (mkF m 102 #[.val (.int p0), .val (.ref b1), .val (.int ((p0 &&& (2147483647 : Int32)) % (12 : Int32))), .val (.ref w_SERVER_STOP), .val (.int (0 : Int32))] [(.int (6 : Int32)), (.int ((p0 &&& (2147483647 : Int32)) % (12 : Int32)))]) _
    refine XS.icmpYes X37.here hx rfl (pc0 := 102) (pc' := 111) rfl (hb hby at_102) rfl (feq (by rw [hc5]; decide : ¬ (((p0 &&& (2147483647 : Int32)) % (12 : Int32)) = (6 : Int32)))).2 (by decide) (by decide) ?_
    show Sp p e below T37 (mkF m 111 #[.val (.int p0), .val (.ref b1), .val (.int ((p0 &&& (2147483647 : Int32)) % (12 : Int32))), .val (.ref w_SERVER_STOP), .val (.int (0 : Int32))] []) _
    refine XS.iloadN X37.here hx rfl (hb hby at_111) rfl ?_
    show Sp p e below T37 (mkF m 112 #[.val (.int p0), .val (.ref b1), .val (.int ((p0 &&& (2147483647 : Int32)) % (12 : Int32))), .val (.ref w_SERVER_STOP), .val (.int (0 : Int32))] [(.int ((p0 &&& (2147483647 : Int32)) % (12 : Int32)))]) _
    refine XS.bipush X37.here hx rfl (hb hby at_112) ?_
    show Sp p e below T37 (mkF m 114 #[.val (.int p0), .val (.ref b1), .val (.int ((p0 &&& (2147483647 : Int32)) % (12 : Int32))), .val (.ref w_SERVER_STOP), .val (.int (0 : Int32))] [(.int (7 : Int32)), (.int ((p0 &&& (2147483647 : Int32)) % (12 : Int32)))]) _
    refine XS.icmpYes X37.here hx rfl (pc0 := 114) (pc' := 123) rfl (hb hby at_114) rfl (feq (by rw [hc5]; decide : ¬ (((p0 &&& (2147483647 : Int32)) % (12 : Int32)) = (7 : Int32)))).2 (by decide) (by decide) ?_
    show Sp p e below T37 (mkF m 123 #[.val (.int p0), .val (.ref b1), .val (.int ((p0 &&& (2147483647 : Int32)) % (12 : Int32))), .val (.ref w_SERVER_STOP), .val (.int (0 : Int32))] []) _
    refine XS.iloadN X37.here hx rfl (hb hby at_123) rfl ?_
    show Sp p e below T37 (mkF m 124 #[.val (.int p0), .val (.ref b1), .val (.int ((p0 &&& (2147483647 : Int32)) % (12 : Int32))), .val (.ref w_SERVER_STOP), .val (.int (0 : Int32))] [(.int ((p0 &&& (2147483647 : Int32)) % (12 : Int32)))]) _
    refine XS.bipush X37.here hx rfl (hb hby at_124) ?_
    show Sp p e below T37 (mkF m 126 #[.val (.int p0), .val (.ref b1), .val (.int ((p0 &&& (2147483647 : Int32)) % (12 : Int32))), .val (.ref w_SERVER_STOP), .val (.int (0 : Int32))] [(.int (10 : Int32)), (.int ((p0 &&& (2147483647 : Int32)) % (12 : Int32)))]) _
    refine XS.icmpYes X37.here hx rfl (pc0 := 126) (pc' := 135) rfl (hb hby at_126) rfl (feq (by rw [hc5]; decide : ¬ (((p0 &&& (2147483647 : Int32)) % (12 : Int32)) = (10 : Int32)))).2 (by decide) (by decide) ?_
    show Sp p e below T37 (mkF m 135 #[.val (.int p0), .val (.ref b1), .val (.int ((p0 &&& (2147483647 : Int32)) % (12 : Int32))), .val (.ref w_SERVER_STOP), .val (.int (0 : Int32))] []) _
    refine XS.iloadN X37.here hx rfl (hb hby at_135) rfl ?_
    show Sp p e below T37 (mkF m 136 #[.val (.int p0), .val (.ref b1), .val (.int ((p0 &&& (2147483647 : Int32)) % (12 : Int32))), .val (.ref w_SERVER_STOP), .val (.int (0 : Int32))] [(.int ((p0 &&& (2147483647 : Int32)) % (12 : Int32)))]) _
    refine XS.bipush X37.here hx rfl (hb hby at_136) ?_
    show Sp p e below T37 (mkF m 138 #[.val (.int p0), .val (.ref b1), .val (.int ((p0 &&& (2147483647 : Int32)) % (12 : Int32))), .val (.ref w_SERVER_STOP), .val (.int (0 : Int32))] [(.int (11 : Int32)), (.int ((p0 &&& (2147483647 : Int32)) % (12 : Int32)))]) _
    refine XS.icmpYes X37.here hx rfl (pc0 := 138) (pc' := 144) rfl (hb hby at_138) rfl (feq (by rw [hc5]; decide : ¬ (((p0 &&& (2147483647 : Int32)) % (12 : Int32)) = (11 : Int32)))).2 (by decide) (by decide) ?_
    show Sp p e below T37 (mkF m 144 #[.val (.int p0), .val (.ref b1), .val (.int ((p0 &&& (2147483647 : Int32)) % (12 : Int32))), .val (.ref w_SERVER_STOP), .val (.int (0 : Int32))] []) _
    refine XS.aloadN X37.here hx rfl (hb hby at_144) rfl rfl ?_
    show Sp p e below T37 (mkF m 145 #[.val (.int p0), .val (.ref b1), .val (.int ((p0 &&& (2147483647 : Int32)) % (12 : Int32))), .val (.ref w_SERVER_STOP), .val (.int (0 : Int32))] [(.ref w_SERVER_STOP)]) _
    refine st39.trans ?_
    show Sp p e below T39 (mkF m 148 #[.val (.int p0), .val (.ref b1), .val (.int ((p0 &&& (2147483647 : Int32)) % (12 : Int32))), .val (.ref w_SERVER_STOP), .val (.int (0 : Int32))] [(.int (0 : Int32))]) _
    refine XS.iload X39.here hx rfl (hb hby at_148) rfl ?_
    show Sp p e below T39 (mkF m 150 #[.val (.int p0), .val (.ref b1), .val (.int ((p0 &&& (2147483647 : Int32)) % (12 : Int32))), .val (.ref w_SERVER_STOP), .val (.int (0 : Int32))] [(.int (0 : Int32)), (.int (0 : Int32))]) _
    refine XS.icmpNo X39.here hx rfl (hb hby at_150) rfl (teq (by decide : (0 : Int32) = (0 : Int32))).2 ?_
    show Sp p e below T39 (mkF m 153 #[.val (.int p0), .val (.ref b1), .val (.int ((p0 &&& (2147483647 : Int32)) % (12 : Int32))), .val (.ref w_SERVER_STOP), .val (.int (0 : Int32))] []) _
    refine XS.iconst X39.here hx rfl (hb hby at_153) ?_
    show Sp p e below T39 (mkF m 154 #[.val (.int p0), .val (.ref b1), .val (.int ((p0 &&& (2147483647 : Int32)) % (12 : Int32))), .val (.ref w_SERVER_STOP), .val (.int (0 : Int32))] [(.int (1 : Int32))]) _
    refine XS.goto X39.here hx rfl (pc0 := 154) (pc' := 158) rfl (hb hby at_154) (by decide) (by decide) ?_
    show Sp p e below T39 (mkF m 158 #[.val (.int p0), .val (.ref b1), .val (.int ((p0 &&& (2147483647 : Int32)) % (12 : Int32))), .val (.ref w_SERVER_STOP), .val (.int (0 : Int32))] [(.int (1 : Int32))]) _
    exact retN X39 hx (t := .boolean) Bd.returns (by simp) (hb hby at_158) hr
  · skip
    exact ⟨rfl, N39⟩
def Q11 (Z : State) (w_PLATFORM_DEPLOY : Addr) (w_PLATFORM_DELETE : Addr) (w_SERVER_DEPLOY : Addr) (w_SERVER_START : Addr) (w_SERVER_STOP : Addr) (w_SERVER_DELETE : Addr) (w_DISK_ATTACH : Addr) (w_DISK_DETACH : Addr) (w_SNAPSHOT_CREATE : Addr) (w_SNAPSHOT_DELETE : Addr) (w_NIC_ATTACH : Addr) (w_NIC_DETACH : Addr) (h0 : Heap) (n0 : Nat) (v : Option Value) (h : Heap) (L : List Loc) : Prop := v = some (.int (0 : Int32)) ∧ Fr n0 L ∧ h = h0
set_option maxRecDepth 65536 in
set_option maxHeartbeats 40000000 in
theorem rm11 (l : Launch) (Z : State) (a0 : Array Value) (hw : ∀ d ∈ tables_1, d.before a0 Z = true) (ws : List Jvm.Cond) (w_PLATFORM_DEPLOY w_PLATFORM_DELETE w_SERVER_DEPLOY w_SERVER_START w_SERVER_STOP w_SERVER_DELETE w_DISK_ATTACH w_DISK_DETACH w_SNAPSHOT_CREATE w_SNAPSHOT_DELETE w_NIC_ATTACH w_NIC_DETACH : Addr) (hp : Perm Z w_PLATFORM_DEPLOY w_PLATFORM_DELETE w_SERVER_DEPLOY w_SERVER_START w_SERVER_STOP w_SERVER_DELETE w_DISK_ATTACH w_DISK_DETACH w_SNAPSHOT_CREATE w_SNAPSHOT_DELETE w_NIC_ATTACH w_NIC_DETACH) (h0 : Heap) (n0 : Nat) (O0 : Old Z n0 h0) :
    MetFree l y0 (head1 (Jvm.Cond.code y0 prog_20_method_6_code 1 (some .boolean) :: ws) ({ frames := 0, cells := 0, slots := 0, locals := 0 } : Room)) (fun a U => a = #[(.ref w_SERVER_DELETE)] ∧ Z.Warmed39 U.vm ∧ U.heap = h0) (fun _ _ _ _ _ => True) (fun _ U o U' => ∃ v L, o = .returned v ∧ Q11 Z w_PLATFORM_DEPLOY w_PLATFORM_DELETE w_SERVER_DEPLOY w_SERVER_START w_SERVER_STOP w_SERVER_DELETE w_DISK_ATTACH w_DISK_DETACH w_SNAPSHOT_CREATE w_SNAPSHOT_DELETE w_NIC_ATTACH w_NIC_DETACH  h0 n0 v U'.heap L ∧ FrameEnd U o U' L ({ frames := 0, cells := 0, slots := 0, locals := 0 } : Room).cells ({ frames := 0, cells := 0, slots := 0, locals := 0 } : Room).slots) := by
  refine MetFree.of_bodySF (plainFor_of_name pn_1) hisR ?_
  intro p e s m args below meth c s₁ Bd hml0 hP hK
  obtain ⟨rfl, hZ, hh⟩ := hP
  have hx := Bd.exec
  have hby := Bd.bytes
  have hml : c.maxLocals = 1 := hml0
  have hown : s.vm.findClass "com/example/ratebook/ratebook/model/EventType" = some m.cls := findClass_of_methodNamed Bd.named
  have hnm := (name_of_methodNamed Bd.named Bd.method).1
  have X0 : Stand p l e ({ frames := 0, cells := 0, slots := 0, locals := 0 } : Room) s m #[(.ref w_SERVER_DELETE)] below meth c s₁ [] 0 0 := Stand.of_body Bd
  have e0 : s₁.heap = h0 := by rw [← hh, Bd.state]; rfl
  have N0 := Fr.nil n0
  have hp' := hp
  obtain ⟨S_w_PLATFORM_DEPLOY, E_w_PLATFORM_DEPLOY, S_w_PLATFORM_DELETE, E_w_PLATFORM_DELETE, S_w_SERVER_DEPLOY, E_w_SERVER_DEPLOY, S_w_SERVER_START, E_w_SERVER_START, S_w_SERVER_STOP, E_w_SERVER_STOP, S_w_SERVER_DELETE, E_w_SERVER_DELETE, S_w_DISK_ATTACH, E_w_DISK_ATTACH, S_w_DISK_DETACH, E_w_DISK_DETACH, S_w_SNAPSHOT_CREATE, E_w_SNAPSHOT_CREATE, S_w_SNAPSHOT_DELETE, E_w_SNAPSHOT_DELETE, S_w_NIC_ATTACH, E_w_NIC_ATTACH, S_w_NIC_DETACH, E_w_NIC_DETACH, F_ordinal_w_PLATFORM_DEPLOY, F_ordinal_w_DISK_ATTACH, F_ordinal_w_DISK_DETACH, F_ordinal_w_NIC_ATTACH, F_ordinal_w_NIC_DETACH, F_ordinal_w_SERVER_START, F_ordinal_w_SERVER_DEPLOY, F_ordinal_w_SERVER_STOP, F_ordinal_w_SNAPSHOT_CREATE, F_ordinal_w_PLATFORM_DELETE, F_ordinal_w_SNAPSHOT_DELETE, F_ordinal_w_SERVER_DELETE⟩ := hp'
  have pre0 : ∀ t, Steps p.tables e below (s₁.setTop (mkF m 0 #[.val (.ref w_SERVER_DELETE)] [])) t → Steps p.tables e below (s₁.setTop (entryFrame m #[(.ref w_SERVER_DELETE)] 1)) t := fun t k => castTop (ef_1_0 m w_SERVER_DELETE) k
  obtain ⟨T1, X1, e1, st1⟩ := getS2 X0 hx hZ hown (host := "") (Or.inl (hw _ (List.mem_of_getElem? (i := 34) rfl))) Via.refl e0 (S_w_DISK_ATTACH.ext O0.2) (g := (mkF m 1 #[.val (.ref w_SERVER_DELETE)] [(.ref w_SERVER_DELETE)])) rfl (hb hby d1_1)
  obtain ⟨T2, X2, e2, st2⟩ := getS2 X1 hx hZ hown (host := "") (Or.inl (hw _ (List.mem_of_getElem? (i := 35) rfl))) Via.refl e1 (S_w_DISK_DETACH.ext O0.2) (g := (mkF m 8 #[.val (.ref w_SERVER_DELETE)] [(.ref w_SERVER_DELETE)])) rfl (hb hby d1_8)
  obtain ⟨T3, X3, e3, st3⟩ := getS2 X2 hx hZ hown (host := "") (Or.inl (hw _ (List.mem_of_getElem? (i := 36) rfl))) Via.refl e2 (S_w_NIC_ATTACH.ext O0.2) (g := (mkF m 15 #[.val (.ref w_SERVER_DELETE)] [(.ref w_SERVER_DELETE)])) rfl (hb hby d1_15)
  obtain ⟨T4, X4, e4, st4⟩ := getS2 X3 hx hZ hown (host := "") (Or.inl (hw _ (List.mem_of_getElem? (i := 37) rfl))) Via.refl e3 (S_w_NIC_DETACH.ext O0.2) (g := (mkF m 22 #[.val (.ref w_SERVER_DELETE)] [(.ref w_SERVER_DELETE)])) rfl (hb hby d1_22)
  obtain ⟨fs, hr, hrun, hended, hW, hsame⟩ := X4.leave (v := some (.int (0 : Int32))) (fun h => by rw [Bd.returns] at h; cases h)
  refine ⟨_, _, pre0 _ ?_, hrun, hended, _, _, rfl, ?_, ⟨_, rfl⟩, hW, hsame.mono (by decide) (by decide)⟩
  · show Sp p e below s₁ (mkF m 0 #[.val (.ref w_SERVER_DELETE)] []) _
    refine XS.aloadN X0.here hx rfl (hb hby d1_0) rfl rfl ?_
    show Sp p e below s₁ (mkF m 1 #[.val (.ref w_SERVER_DELETE)] [(.ref w_SERVER_DELETE)]) _
    refine st1 _ ?_
    show Sp p e below T1 (mkF m 4 #[.val (.ref w_SERVER_DELETE)] [(.ref w_DISK_ATTACH), (.ref w_SERVER_DELETE)]) _
    refine Jvm.RoadKit.acmp (g := (mkF m 4 #[.val (.ref w_SERVER_DELETE)] [(.ref w_DISK_ATTACH), (.ref w_SERVER_DELETE)])) X1 hx rfl rfl rfl (pc0 := 4) (pc' := 7) (same := false) rfl (hb hby d1_4) rfl (decide_eq_false fun q => (Ne.symm (ne_w_DISK_ATTACH_w_SERVER_DELETE hp)) (Value.ref.inj q)) (by decide) (by decide) ?_
    show Sp p e below T1 (mkF m 7 #[.val (.ref w_SERVER_DELETE)] []) _
    refine XS.aloadN X1.here hx rfl (hb hby d1_7) rfl rfl ?_
    show Sp p e below T1 (mkF m 8 #[.val (.ref w_SERVER_DELETE)] [(.ref w_SERVER_DELETE)]) _
    refine st2 _ ?_
    show Sp p e below T2 (mkF m 11 #[.val (.ref w_SERVER_DELETE)] [(.ref w_DISK_DETACH), (.ref w_SERVER_DELETE)]) _
    refine Jvm.RoadKit.acmp (g := (mkF m 11 #[.val (.ref w_SERVER_DELETE)] [(.ref w_DISK_DETACH), (.ref w_SERVER_DELETE)])) X2 hx rfl rfl rfl (pc0 := 11) (pc' := 14) (same := false) rfl (hb hby d1_11) rfl (decide_eq_false fun q => (Ne.symm (ne_w_DISK_DETACH_w_SERVER_DELETE hp)) (Value.ref.inj q)) (by decide) (by decide) ?_
    show Sp p e below T2 (mkF m 14 #[.val (.ref w_SERVER_DELETE)] []) _
    refine XS.aloadN X2.here hx rfl (hb hby d1_14) rfl rfl ?_
    show Sp p e below T2 (mkF m 15 #[.val (.ref w_SERVER_DELETE)] [(.ref w_SERVER_DELETE)]) _
    refine st3 _ ?_
    show Sp p e below T3 (mkF m 18 #[.val (.ref w_SERVER_DELETE)] [(.ref w_NIC_ATTACH), (.ref w_SERVER_DELETE)]) _
    refine Jvm.RoadKit.acmp (g := (mkF m 18 #[.val (.ref w_SERVER_DELETE)] [(.ref w_NIC_ATTACH), (.ref w_SERVER_DELETE)])) X3 hx rfl rfl rfl (pc0 := 18) (pc' := 21) (same := false) rfl (hb hby d1_18) rfl (decide_eq_false fun q => (Ne.symm (ne_w_NIC_ATTACH_w_SERVER_DELETE hp)) (Value.ref.inj q)) (by decide) (by decide) ?_
    show Sp p e below T3 (mkF m 21 #[.val (.ref w_SERVER_DELETE)] []) _
    refine XS.aloadN X3.here hx rfl (hb hby d1_21) rfl rfl ?_
    show Sp p e below T3 (mkF m 22 #[.val (.ref w_SERVER_DELETE)] [(.ref w_SERVER_DELETE)]) _
    refine st4 _ ?_
    show Sp p e below T4 (mkF m 25 #[.val (.ref w_SERVER_DELETE)] [(.ref w_NIC_DETACH), (.ref w_SERVER_DELETE)]) _
    refine Jvm.RoadKit.acmp (g := (mkF m 25 #[.val (.ref w_SERVER_DELETE)] [(.ref w_NIC_DETACH), (.ref w_SERVER_DELETE)])) X4 hx rfl rfl rfl (pc0 := 25) (pc' := 32) (same := false) rfl (hb hby d1_25) rfl (decide_eq_false fun q => (Ne.symm (ne_w_NIC_DETACH_w_SERVER_DELETE hp)) (Value.ref.inj q)) (by decide) (by decide) ?_
    show Sp p e below T4 (mkF m 32 #[.val (.ref w_SERVER_DELETE)] []) _
    refine XS.iconst X4.here hx rfl (hb hby d1_32) ?_
    show Sp p e below T4 (mkF m 33 #[.val (.ref w_SERVER_DELETE)] [(.int (0 : Int32))]) _
    exact retN X4 hx (t := .boolean) Bd.returns (by simp) (hb hby d1_33) hr
  · show Q11 Z w_PLATFORM_DEPLOY w_PLATFORM_DELETE w_SERVER_DEPLOY w_SERVER_START w_SERVER_STOP w_SERVER_DELETE w_DISK_ATTACH w_DISK_DETACH w_SNAPSHOT_CREATE w_SNAPSHOT_DELETE w_NIC_ATTACH w_NIC_DETACH  h0 n0 _ T4.heap _
    rw [e4]
    exact ⟨rfl, N0, rfl⟩
set_option maxRecDepth 65536 in
set_option maxHeartbeats 40000000 in
theorem rm12 (l : Launch) (Z : State) (a0 : Array Value) (hw : ∀ d ∈ tables_1, d.before a0 Z = true) (ws : List Jvm.Cond) (w_PLATFORM_DEPLOY w_PLATFORM_DELETE w_SERVER_DEPLOY w_SERVER_START w_SERVER_STOP w_SERVER_DELETE w_DISK_ATTACH w_DISK_DETACH w_SNAPSHOT_CREATE w_SNAPSHOT_DELETE w_NIC_ATTACH w_NIC_DETACH : Addr) (hp : Perm Z w_PLATFORM_DEPLOY w_PLATFORM_DELETE w_SERVER_DEPLOY w_SERVER_START w_SERVER_STOP w_SERVER_DELETE w_DISK_ATTACH w_DISK_DETACH w_SNAPSHOT_CREATE w_SNAPSHOT_DELETE w_NIC_ATTACH w_NIC_DETACH) (p0 : Int32) (h0 : Heap) (n0 : Nat) (O0 : Old Z n0 h0) (hc1 : ¬ (((p0 &&& (2147483647 : Int32)) % (12 : Int32)) = (0 : Int32))) (hc2 : ¬ (((p0 &&& (2147483647 : Int32)) % (12 : Int32)) = (1 : Int32))) (hc3 : ¬ (((p0 &&& (2147483647 : Int32)) % (12 : Int32)) = (2 : Int32))) (hc4 : ¬ (((p0 &&& (2147483647 : Int32)) % (12 : Int32)) = (3 : Int32))) (hc5 : ¬ (((p0 &&& (2147483647 : Int32)) % (12 : Int32)) = (4 : Int32))) (hc6 : ((p0 &&& (2147483647 : Int32)) % (12 : Int32)) = (5 : Int32)) :
    MetFree l x (head1 (Jvm.Cond.code x code maxLocals ret :: ws) room_1) (fun a U => a = #[(.int p0)] ∧ Z.Warmed39 U.vm ∧ U.heap = h0) (fun _ _ _ _ _ => True) (fun _ U o U' => ∃ v L, o = .returned v ∧ (v = some (.int (1 : Int32)) ∧ Fr n0 L) ∧ FrameEnd U o U' L 16 128) := by
  refine MetFree.of_bodySF (plainFor_of_name pn_0) hisR ?_
  intro p e s m args below meth c s₁ Bd hml0 hP hK
  obtain ⟨rfl, hZ, hh⟩ := hP
  have hx := Bd.exec
  have hby := Bd.bytes
  have hml : c.maxLocals = 5 := hml0
  have hown : s.vm.findClass "com/example/ratebook/ratebook/model/EventTypeIsAttachmentEventPinLaw" = some m.cls := findClass_of_methodNamed Bd.named
  have hnm := (name_of_methodNamed Bd.named Bd.method).1
  have X0 : Stand p l e room_1 s m #[(.int p0)] below meth c s₁ [] 0 0 := Stand.of_body Bd
  have e0 : s₁.heap = h0 := by rw [← hh, Bd.state]; rfl
  have N0 := Fr.nil n0
  have hp' := hp
  obtain ⟨S_w_PLATFORM_DEPLOY, E_w_PLATFORM_DEPLOY, S_w_PLATFORM_DELETE, E_w_PLATFORM_DELETE, S_w_SERVER_DEPLOY, E_w_SERVER_DEPLOY, S_w_SERVER_START, E_w_SERVER_START, S_w_SERVER_STOP, E_w_SERVER_STOP, S_w_SERVER_DELETE, E_w_SERVER_DELETE, S_w_DISK_ATTACH, E_w_DISK_ATTACH, S_w_DISK_DETACH, E_w_DISK_DETACH, S_w_SNAPSHOT_CREATE, E_w_SNAPSHOT_CREATE, S_w_SNAPSHOT_DELETE, E_w_SNAPSHOT_DELETE, S_w_NIC_ATTACH, E_w_NIC_ATTACH, S_w_NIC_DETACH, E_w_NIC_DETACH, F_ordinal_w_PLATFORM_DEPLOY, F_ordinal_w_DISK_ATTACH, F_ordinal_w_DISK_DETACH, F_ordinal_w_NIC_ATTACH, F_ordinal_w_NIC_DETACH, F_ordinal_w_SERVER_START, F_ordinal_w_SERVER_DEPLOY, F_ordinal_w_SERVER_STOP, F_ordinal_w_SNAPSHOT_CREATE, F_ordinal_w_PLATFORM_DELETE, F_ordinal_w_SNAPSHOT_DELETE, F_ordinal_w_SERVER_DELETE⟩ := hp'
  have pre0 : ∀ t, Steps p.tables e below (s₁.setTop (mkF m 0 #[.val (.int p0), .unset, .unset, .unset, .unset] [])) t → Steps p.tables e below (s₁.setTop (entryFrame m #[(.int p0)] maxLocals)) t := fun t k => castTop (ef_0_0 m p0) k
  obtain ⟨T1, h1, k1, X1, e1, E1, A1, EA1, Ov1, st1⟩ := newRE X0 hx hZ hown (hw _ (List.mem_of_getElem? (i := 0) rfl)) (hw _ (List.mem_of_getElem? (i := 1) rfl)) e0 (g := (mkF m 2 #[.val (.int p0), .unset, .unset, .unset, .unset] [(.int (12 : Int32))])) rfl (hb hby at_2) rfl (by decide) (cap := 12) (by decide) (by decide) (by decide) (by decide) (ad := "[Lcom/example/ratebook/ratebook/model/EventType;") (by decide)
  obtain ⟨b1, g1⟩ : ∃ z, z = h0.size := ⟨_, rfl⟩
  rw [← g1] at A1 EA1 st1
  have g_b1 : n0 ≤ b1 := Nat.le_trans (own_sz O0) (Nat.le_of_eq g1.symm)
  have sz_b1 : h0.size ≤ b1 := Nat.le_trans (Keep.refl h0 []).1 (Nat.le_of_eq g1.symm)
  have O1 := O0.ext E1
  have K1 : Keep h0 h1 [] := (Keep.refl h0 []).ext E1
  have V_b1 : Arv Z h1 b1 k1 (.object "com/example/ratebook/ratebook/model/EventType") (12 : Int32) [.null, .null, .null, .null, .null, .null, .null, .null, .null, .null, .null, .null] .null := (Arv.new A1 (by decide)).pad (pad_rep [] .null 12)
  obtain ⟨T2, X2, e2, st2⟩ := getS2 X1 hx hZ hown (host := "") (Or.inl (hw _ (List.mem_of_getElem? (i := 2) rfl))) Via.refl e1 (S_w_PLATFORM_DEPLOY.ext O1.2) (g := (mkF m 7 #[.val (.int p0), .unset, .unset, .unset, .unset] [(.int (0 : Int32)), (.ref b1), (.ref b1)])) rfl (hb hby at_7)
  obtain ⟨cl3, Ar3, q3, S3, Nn3, H3, G3⟩ := V_b1
  have hin3 : ¬ ((0 : Int32) < 0 ∨ cl3.slots.size ≤ ((0 : Int32)).toNatClampNeg) := inb_of S3 ⟨by decide, by decide⟩
  obtain ⟨T4, h4, X4, e4, W4, st4⟩ := stR X2 hx hZ e2 Ar3 (j := (0 : Int32)) hin3 rfl (Sto.ofV Ar3 q3 Ov1 (Ins.self (E_w_PLATFORM_DEPLOY.ext O1.2))) (g := (mkF m 10 #[.val (.int p0), .unset, .unset, .unset, .unset] [(.ref w_PLATFORM_DEPLOY), (.int (0 : Int32)), (.ref b1), (.ref b1)])) rfl rfl (hb hby at_10)
  have N4 := Fr.snoc X4 N0 g_b1
  have O4 := O1.wr W4 g_b1
  have K4 : Keep h0 h4 [] := K1.wr W4 (Or.inr sz_b1)
  have V_b1_4 : Arv Z h4 b1 k1 (.object "com/example/ratebook/ratebook/model/EventType") (12 : Int32) [(.ref w_PLATFORM_DEPLOY), .null, .null, .null, .null, .null, .null, .null, .null, .null, .null, .null] .null := Arv.set Ar3 q3 S3 Nn3 H3 G3 rfl W4 0 rfl (Nat.le_of_ble_eq_true rfl)
  obtain ⟨T5, X5, e5, st5⟩ := getS2 X4 hx hZ hown (host := "") (Or.inl (hw _ (List.mem_of_getElem? (i := 6) rfl))) Via.refl e4 (S_w_PLATFORM_DELETE.ext O4.2) (g := (mkF m 13 #[.val (.int p0), .unset, .unset, .unset, .unset] [(.int (1 : Int32)), (.ref b1), (.ref b1)])) rfl (hb hby at_13)
  obtain ⟨cl6, Ar6, q6, S6, Nn6, H6, G6⟩ := V_b1_4
  have hin6 : ¬ ((1 : Int32) < 0 ∨ cl6.slots.size ≤ ((1 : Int32)).toNatClampNeg) := inb_of S6 ⟨by decide, by decide⟩
  obtain ⟨T7, h7, X7, e7, W7, st7⟩ := stR X5 hx hZ e5 Ar6 (j := (1 : Int32)) hin6 rfl (Sto.ofV Ar6 q6 Ov1 (Ins.self (E_w_PLATFORM_DELETE.ext O4.2))) (g := (mkF m 16 #[.val (.int p0), .unset, .unset, .unset, .unset] [(.ref w_PLATFORM_DELETE), (.int (1 : Int32)), (.ref b1), (.ref b1)])) rfl rfl (hb hby at_16)
  have N7 := Fr.snoc X7 N4 g_b1
  have O7 := O4.wr W7 g_b1
  have K7 : Keep h0 h7 [] := K4.wr W7 (Or.inr sz_b1)
  have V_b1_7 : Arv Z h7 b1 k1 (.object "com/example/ratebook/ratebook/model/EventType") (12 : Int32) [(.ref w_PLATFORM_DEPLOY), (.ref w_PLATFORM_DELETE), .null, .null, .null, .null, .null, .null, .null, .null, .null, .null] .null := Arv.set Ar6 q6 S6 Nn6 H6 G6 rfl W7 1 rfl (Nat.le_of_ble_eq_true rfl)
  obtain ⟨T8, X8, e8, st8⟩ := getS2 X7 hx hZ hown (host := "") (Or.inl (hw _ (List.mem_of_getElem? (i := 8) rfl))) Via.refl e7 (S_w_SERVER_DEPLOY.ext O7.2) (g := (mkF m 19 #[.val (.int p0), .unset, .unset, .unset, .unset] [(.int (2 : Int32)), (.ref b1), (.ref b1)])) rfl (hb hby at_19)
  obtain ⟨cl9, Ar9, q9, S9, Nn9, H9, G9⟩ := V_b1_7
  have hin9 : ¬ ((2 : Int32) < 0 ∨ cl9.slots.size ≤ ((2 : Int32)).toNatClampNeg) := inb_of S9 ⟨by decide, by decide⟩
  obtain ⟨T10, h10, X10, e10, W10, st10⟩ := stR X8 hx hZ e8 Ar9 (j := (2 : Int32)) hin9 rfl (Sto.ofV Ar9 q9 Ov1 (Ins.self (E_w_SERVER_DEPLOY.ext O7.2))) (g := (mkF m 22 #[.val (.int p0), .unset, .unset, .unset, .unset] [(.ref w_SERVER_DEPLOY), (.int (2 : Int32)), (.ref b1), (.ref b1)])) rfl rfl (hb hby at_22)
  have N10 := Fr.snoc X10 N7 g_b1
  have O10 := O7.wr W10 g_b1
  have K10 : Keep h0 h10 [] := K7.wr W10 (Or.inr sz_b1)
  have V_b1_10 : Arv Z h10 b1 k1 (.object "com/example/ratebook/ratebook/model/EventType") (12 : Int32) [(.ref w_PLATFORM_DEPLOY), (.ref w_PLATFORM_DELETE), (.ref w_SERVER_DEPLOY), .null, .null, .null, .null, .null, .null, .null, .null, .null] .null := Arv.set Ar9 q9 S9 Nn9 H9 G9 rfl W10 2 rfl (Nat.le_of_ble_eq_true rfl)
  obtain ⟨T11, X11, e11, st11⟩ := getS2 X10 hx hZ hown (host := "") (Or.inl (hw _ (List.mem_of_getElem? (i := 10) rfl))) Via.refl e10 (S_w_SERVER_START.ext O10.2) (g := (mkF m 25 #[.val (.int p0), .unset, .unset, .unset, .unset] [(.int (3 : Int32)), (.ref b1), (.ref b1)])) rfl (hb hby at_25)
  obtain ⟨cl12, Ar12, q12, S12, Nn12, H12, G12⟩ := V_b1_10
  have hin12 : ¬ ((3 : Int32) < 0 ∨ cl12.slots.size ≤ ((3 : Int32)).toNatClampNeg) := inb_of S12 ⟨by decide, by decide⟩
  obtain ⟨T13, h13, X13, e13, W13, st13⟩ := stR X11 hx hZ e11 Ar12 (j := (3 : Int32)) hin12 rfl (Sto.ofV Ar12 q12 Ov1 (Ins.self (E_w_SERVER_START.ext O10.2))) (g := (mkF m 28 #[.val (.int p0), .unset, .unset, .unset, .unset] [(.ref w_SERVER_START), (.int (3 : Int32)), (.ref b1), (.ref b1)])) rfl rfl (hb hby at_28)
  have N13 := Fr.snoc X13 N10 g_b1
  have O13 := O10.wr W13 g_b1
  have K13 : Keep h0 h13 [] := K10.wr W13 (Or.inr sz_b1)
  have V_b1_13 : Arv Z h13 b1 k1 (.object "com/example/ratebook/ratebook/model/EventType") (12 : Int32) [(.ref w_PLATFORM_DEPLOY), (.ref w_PLATFORM_DELETE), (.ref w_SERVER_DEPLOY), (.ref w_SERVER_START), .null, .null, .null, .null, .null, .null, .null, .null] .null := Arv.set Ar12 q12 S12 Nn12 H12 G12 rfl W13 3 rfl (Nat.le_of_ble_eq_true rfl)
  obtain ⟨T14, X14, e14, st14⟩ := getS2 X13 hx hZ hown (host := "") (Or.inl (hw _ (List.mem_of_getElem? (i := 12) rfl))) Via.refl e13 (S_w_SERVER_STOP.ext O13.2) (g := (mkF m 31 #[.val (.int p0), .unset, .unset, .unset, .unset] [(.int (4 : Int32)), (.ref b1), (.ref b1)])) rfl (hb hby at_31)
  obtain ⟨cl15, Ar15, q15, S15, Nn15, H15, G15⟩ := V_b1_13
  have hin15 : ¬ ((4 : Int32) < 0 ∨ cl15.slots.size ≤ ((4 : Int32)).toNatClampNeg) := inb_of S15 ⟨by decide, by decide⟩
  obtain ⟨T16, h16, X16, e16, W16, st16⟩ := stR X14 hx hZ e14 Ar15 (j := (4 : Int32)) hin15 rfl (Sto.ofV Ar15 q15 Ov1 (Ins.self (E_w_SERVER_STOP.ext O13.2))) (g := (mkF m 34 #[.val (.int p0), .unset, .unset, .unset, .unset] [(.ref w_SERVER_STOP), (.int (4 : Int32)), (.ref b1), (.ref b1)])) rfl rfl (hb hby at_34)
  have N16 := Fr.snoc X16 N13 g_b1
  have O16 := O13.wr W16 g_b1
  have K16 : Keep h0 h16 [] := K13.wr W16 (Or.inr sz_b1)
  have V_b1_16 : Arv Z h16 b1 k1 (.object "com/example/ratebook/ratebook/model/EventType") (12 : Int32) [(.ref w_PLATFORM_DEPLOY), (.ref w_PLATFORM_DELETE), (.ref w_SERVER_DEPLOY), (.ref w_SERVER_START), (.ref w_SERVER_STOP), .null, .null, .null, .null, .null, .null, .null] .null := Arv.set Ar15 q15 S15 Nn15 H15 G15 rfl W16 4 rfl (Nat.le_of_ble_eq_true rfl)
  obtain ⟨T17, X17, e17, st17⟩ := getS2 X16 hx hZ hown (host := "") (Or.inl (hw _ (List.mem_of_getElem? (i := 14) rfl))) Via.refl e16 (S_w_SERVER_DELETE.ext O16.2) (g := (mkF m 37 #[.val (.int p0), .unset, .unset, .unset, .unset] [(.int (5 : Int32)), (.ref b1), (.ref b1)])) rfl (hb hby at_37)
  obtain ⟨cl18, Ar18, q18, S18, Nn18, H18, G18⟩ := V_b1_16
  have hin18 : ¬ ((5 : Int32) < 0 ∨ cl18.slots.size ≤ ((5 : Int32)).toNatClampNeg) := inb_of S18 ⟨by decide, by decide⟩
  obtain ⟨T19, h19, X19, e19, W19, st19⟩ := stR X17 hx hZ e17 Ar18 (j := (5 : Int32)) hin18 rfl (Sto.ofV Ar18 q18 Ov1 (Ins.self (E_w_SERVER_DELETE.ext O16.2))) (g := (mkF m 40 #[.val (.int p0), .unset, .unset, .unset, .unset] [(.ref w_SERVER_DELETE), (.int (5 : Int32)), (.ref b1), (.ref b1)])) rfl rfl (hb hby at_40)
  have N19 := Fr.snoc X19 N16 g_b1
  have O19 := O16.wr W19 g_b1
  have K19 : Keep h0 h19 [] := K16.wr W19 (Or.inr sz_b1)
  have V_b1_19 : Arv Z h19 b1 k1 (.object "com/example/ratebook/ratebook/model/EventType") (12 : Int32) [(.ref w_PLATFORM_DEPLOY), (.ref w_PLATFORM_DELETE), (.ref w_SERVER_DEPLOY), (.ref w_SERVER_START), (.ref w_SERVER_STOP), (.ref w_SERVER_DELETE), .null, .null, .null, .null, .null, .null] .null := Arv.set Ar18 q18 S18 Nn18 H18 G18 rfl W19 5 rfl (Nat.le_of_ble_eq_true rfl)
  obtain ⟨T20, X20, e20, st20⟩ := getS2 X19 hx hZ hown (host := "") (Or.inl (hw _ (List.mem_of_getElem? (i := 16) rfl))) Via.refl e19 (S_w_DISK_ATTACH.ext O19.2) (g := (mkF m 44 #[.val (.int p0), .unset, .unset, .unset, .unset] [(.int (6 : Int32)), (.ref b1), (.ref b1)])) rfl (hb hby at_44)
  obtain ⟨cl21, Ar21, q21, S21, Nn21, H21, G21⟩ := V_b1_19
  have hin21 : ¬ ((6 : Int32) < 0 ∨ cl21.slots.size ≤ ((6 : Int32)).toNatClampNeg) := inb_of S21 ⟨by decide, by decide⟩
  obtain ⟨T22, h22, X22, e22, W22, st22⟩ := stR X20 hx hZ e20 Ar21 (j := (6 : Int32)) hin21 rfl (Sto.ofV Ar21 q21 Ov1 (Ins.self (E_w_DISK_ATTACH.ext O19.2))) (g := (mkF m 47 #[.val (.int p0), .unset, .unset, .unset, .unset] [(.ref w_DISK_ATTACH), (.int (6 : Int32)), (.ref b1), (.ref b1)])) rfl rfl (hb hby at_47)
  have N22 := Fr.snoc X22 N19 g_b1
  have O22 := O19.wr W22 g_b1
  have K22 : Keep h0 h22 [] := K19.wr W22 (Or.inr sz_b1)
  have V_b1_22 : Arv Z h22 b1 k1 (.object "com/example/ratebook/ratebook/model/EventType") (12 : Int32) [(.ref w_PLATFORM_DEPLOY), (.ref w_PLATFORM_DELETE), (.ref w_SERVER_DEPLOY), (.ref w_SERVER_START), (.ref w_SERVER_STOP), (.ref w_SERVER_DELETE), (.ref w_DISK_ATTACH), .null, .null, .null, .null, .null] .null := Arv.set Ar21 q21 S21 Nn21 H21 G21 rfl W22 6 rfl (Nat.le_of_ble_eq_true rfl)
  obtain ⟨T23, X23, e23, st23⟩ := getS2 X22 hx hZ hown (host := "") (Or.inl (hw _ (List.mem_of_getElem? (i := 18) rfl))) Via.refl e22 (S_w_DISK_DETACH.ext O22.2) (g := (mkF m 51 #[.val (.int p0), .unset, .unset, .unset, .unset] [(.int (7 : Int32)), (.ref b1), (.ref b1)])) rfl (hb hby at_51)
  obtain ⟨cl24, Ar24, q24, S24, Nn24, H24, G24⟩ := V_b1_22
  have hin24 : ¬ ((7 : Int32) < 0 ∨ cl24.slots.size ≤ ((7 : Int32)).toNatClampNeg) := inb_of S24 ⟨by decide, by decide⟩
  obtain ⟨T25, h25, X25, e25, W25, st25⟩ := stR X23 hx hZ e23 Ar24 (j := (7 : Int32)) hin24 rfl (Sto.ofV Ar24 q24 Ov1 (Ins.self (E_w_DISK_DETACH.ext O22.2))) (g := (mkF m 54 #[.val (.int p0), .unset, .unset, .unset, .unset] [(.ref w_DISK_DETACH), (.int (7 : Int32)), (.ref b1), (.ref b1)])) rfl rfl (hb hby at_54)
  have N25 := Fr.snoc X25 N22 g_b1
  have O25 := O22.wr W25 g_b1
  have K25 : Keep h0 h25 [] := K22.wr W25 (Or.inr sz_b1)
  have V_b1_25 : Arv Z h25 b1 k1 (.object "com/example/ratebook/ratebook/model/EventType") (12 : Int32) [(.ref w_PLATFORM_DEPLOY), (.ref w_PLATFORM_DELETE), (.ref w_SERVER_DEPLOY), (.ref w_SERVER_START), (.ref w_SERVER_STOP), (.ref w_SERVER_DELETE), (.ref w_DISK_ATTACH), (.ref w_DISK_DETACH), .null, .null, .null, .null] .null := Arv.set Ar24 q24 S24 Nn24 H24 G24 rfl W25 7 rfl (Nat.le_of_ble_eq_true rfl)
  obtain ⟨T26, X26, e26, st26⟩ := getS2 X25 hx hZ hown (host := "") (Or.inl (hw _ (List.mem_of_getElem? (i := 20) rfl))) Via.refl e25 (S_w_SNAPSHOT_CREATE.ext O25.2) (g := (mkF m 58 #[.val (.int p0), .unset, .unset, .unset, .unset] [(.int (8 : Int32)), (.ref b1), (.ref b1)])) rfl (hb hby at_58)
  obtain ⟨cl27, Ar27, q27, S27, Nn27, H27, G27⟩ := V_b1_25
  have hin27 : ¬ ((8 : Int32) < 0 ∨ cl27.slots.size ≤ ((8 : Int32)).toNatClampNeg) := inb_of S27 ⟨by decide, by decide⟩
  obtain ⟨T28, h28, X28, e28, W28, st28⟩ := stR X26 hx hZ e26 Ar27 (j := (8 : Int32)) hin27 rfl (Sto.ofV Ar27 q27 Ov1 (Ins.self (E_w_SNAPSHOT_CREATE.ext O25.2))) (g := (mkF m 61 #[.val (.int p0), .unset, .unset, .unset, .unset] [(.ref w_SNAPSHOT_CREATE), (.int (8 : Int32)), (.ref b1), (.ref b1)])) rfl rfl (hb hby at_61)
  have N28 := Fr.snoc X28 N25 g_b1
  have O28 := O25.wr W28 g_b1
  have K28 : Keep h0 h28 [] := K25.wr W28 (Or.inr sz_b1)
  have V_b1_28 : Arv Z h28 b1 k1 (.object "com/example/ratebook/ratebook/model/EventType") (12 : Int32) [(.ref w_PLATFORM_DEPLOY), (.ref w_PLATFORM_DELETE), (.ref w_SERVER_DEPLOY), (.ref w_SERVER_START), (.ref w_SERVER_STOP), (.ref w_SERVER_DELETE), (.ref w_DISK_ATTACH), (.ref w_DISK_DETACH), (.ref w_SNAPSHOT_CREATE), .null, .null, .null] .null := Arv.set Ar27 q27 S27 Nn27 H27 G27 rfl W28 8 rfl (Nat.le_of_ble_eq_true rfl)
  obtain ⟨T29, X29, e29, st29⟩ := getS2 X28 hx hZ hown (host := "") (Or.inl (hw _ (List.mem_of_getElem? (i := 22) rfl))) Via.refl e28 (S_w_SNAPSHOT_DELETE.ext O28.2) (g := (mkF m 65 #[.val (.int p0), .unset, .unset, .unset, .unset] [(.int (9 : Int32)), (.ref b1), (.ref b1)])) rfl (hb hby at_65)
  obtain ⟨cl30, Ar30, q30, S30, Nn30, H30, G30⟩ := V_b1_28
  have hin30 : ¬ ((9 : Int32) < 0 ∨ cl30.slots.size ≤ ((9 : Int32)).toNatClampNeg) := inb_of S30 ⟨by decide, by decide⟩
  obtain ⟨T31, h31, X31, e31, W31, st31⟩ := stR X29 hx hZ e29 Ar30 (j := (9 : Int32)) hin30 rfl (Sto.ofV Ar30 q30 Ov1 (Ins.self (E_w_SNAPSHOT_DELETE.ext O28.2))) (g := (mkF m 68 #[.val (.int p0), .unset, .unset, .unset, .unset] [(.ref w_SNAPSHOT_DELETE), (.int (9 : Int32)), (.ref b1), (.ref b1)])) rfl rfl (hb hby at_68)
  have N31 := Fr.snoc X31 N28 g_b1
  have O31 := O28.wr W31 g_b1
  have K31 : Keep h0 h31 [] := K28.wr W31 (Or.inr sz_b1)
  have V_b1_31 : Arv Z h31 b1 k1 (.object "com/example/ratebook/ratebook/model/EventType") (12 : Int32) [(.ref w_PLATFORM_DEPLOY), (.ref w_PLATFORM_DELETE), (.ref w_SERVER_DEPLOY), (.ref w_SERVER_START), (.ref w_SERVER_STOP), (.ref w_SERVER_DELETE), (.ref w_DISK_ATTACH), (.ref w_DISK_DETACH), (.ref w_SNAPSHOT_CREATE), (.ref w_SNAPSHOT_DELETE), .null, .null] .null := Arv.set Ar30 q30 S30 Nn30 H30 G30 rfl W31 9 rfl (Nat.le_of_ble_eq_true rfl)
  obtain ⟨T32, X32, e32, st32⟩ := getS2 X31 hx hZ hown (host := "") (Or.inl (hw _ (List.mem_of_getElem? (i := 24) rfl))) Via.refl e31 (S_w_NIC_ATTACH.ext O31.2) (g := (mkF m 72 #[.val (.int p0), .unset, .unset, .unset, .unset] [(.int (10 : Int32)), (.ref b1), (.ref b1)])) rfl (hb hby at_72)
  obtain ⟨cl33, Ar33, q33, S33, Nn33, H33, G33⟩ := V_b1_31
  have hin33 : ¬ ((10 : Int32) < 0 ∨ cl33.slots.size ≤ ((10 : Int32)).toNatClampNeg) := inb_of S33 ⟨by decide, by decide⟩
  obtain ⟨T34, h34, X34, e34, W34, st34⟩ := stR X32 hx hZ e32 Ar33 (j := (10 : Int32)) hin33 rfl (Sto.ofV Ar33 q33 Ov1 (Ins.self (E_w_NIC_ATTACH.ext O31.2))) (g := (mkF m 75 #[.val (.int p0), .unset, .unset, .unset, .unset] [(.ref w_NIC_ATTACH), (.int (10 : Int32)), (.ref b1), (.ref b1)])) rfl rfl (hb hby at_75)
  have N34 := Fr.snoc X34 N31 g_b1
  have O34 := O31.wr W34 g_b1
  have K34 : Keep h0 h34 [] := K31.wr W34 (Or.inr sz_b1)
  have V_b1_34 : Arv Z h34 b1 k1 (.object "com/example/ratebook/ratebook/model/EventType") (12 : Int32) [(.ref w_PLATFORM_DEPLOY), (.ref w_PLATFORM_DELETE), (.ref w_SERVER_DEPLOY), (.ref w_SERVER_START), (.ref w_SERVER_STOP), (.ref w_SERVER_DELETE), (.ref w_DISK_ATTACH), (.ref w_DISK_DETACH), (.ref w_SNAPSHOT_CREATE), (.ref w_SNAPSHOT_DELETE), (.ref w_NIC_ATTACH), .null] .null := Arv.set Ar33 q33 S33 Nn33 H33 G33 rfl W34 10 rfl (Nat.le_of_ble_eq_true rfl)
  obtain ⟨T35, X35, e35, st35⟩ := getS2 X34 hx hZ hown (host := "") (Or.inl (hw _ (List.mem_of_getElem? (i := 26) rfl))) Via.refl e34 (S_w_NIC_DETACH.ext O34.2) (g := (mkF m 79 #[.val (.int p0), .unset, .unset, .unset, .unset] [(.int (11 : Int32)), (.ref b1), (.ref b1)])) rfl (hb hby at_79)
  obtain ⟨cl36, Ar36, q36, S36, Nn36, H36, G36⟩ := V_b1_34
  have hin36 : ¬ ((11 : Int32) < 0 ∨ cl36.slots.size ≤ ((11 : Int32)).toNatClampNeg) := inb_of S36 ⟨by decide, by decide⟩
  obtain ⟨T37, h37, X37, e37, W37, st37⟩ := stR X35 hx hZ e35 Ar36 (j := (11 : Int32)) hin36 rfl (Sto.ofV Ar36 q36 Ov1 (Ins.self (E_w_NIC_DETACH.ext O34.2))) (g := (mkF m 82 #[.val (.int p0), .unset, .unset, .unset, .unset] [(.ref w_NIC_DETACH), (.int (11 : Int32)), (.ref b1), (.ref b1)])) rfl rfl (hb hby at_82)
  have N37 := Fr.snoc X37 N34 g_b1
  have O37 := O34.wr W37 g_b1
  have K37 : Keep h0 h37 [] := K34.wr W37 (Or.inr sz_b1)
  have V_b1_37 : Arv Z h37 b1 k1 (.object "com/example/ratebook/ratebook/model/EventType") (12 : Int32) [(.ref w_PLATFORM_DEPLOY), (.ref w_PLATFORM_DELETE), (.ref w_SERVER_DEPLOY), (.ref w_SERVER_START), (.ref w_SERVER_STOP), (.ref w_SERVER_DELETE), (.ref w_DISK_ATTACH), (.ref w_DISK_DETACH), (.ref w_SNAPSHOT_CREATE), (.ref w_SNAPSHOT_DELETE), (.ref w_NIC_ATTACH), (.ref w_NIC_DETACH)] .null := Arv.set Ar36 q36 S36 Nn36 H36 G36 rfl W37 11 rfl (Nat.le_of_ble_eq_true rfl)
  obtain ⟨cl38, Ar38, -, S38, -, H38, -⟩ := V_b1_37
  have hin38 : ¬ (((p0 &&& (2147483647 : Int32)) % (12 : Int32)) < 0 ∨ cl38.slots.size ≤ (((p0 &&& (2147483647 : Int32)) % (12 : Int32))).toNatClampNeg) := inb_of S38 (by rw [hc6]; decide)
  have hat38 : cl38.slots[(((p0 &&& (2147483647 : Int32)) % (12 : Int32))).toNatClampNeg]? = some (.ref w_SERVER_DELETE) := H38.at hin38 (by rw [hc6]; rfl)
  obtain ⟨cq39, kq39, q39a, q39b, q39c⟩ := isOf hZ e37 (E_w_SERVER_DELETE.ext O37.2)
  obtain ⟨_, _, ⟨T39, L39, k39, n39⟩, -, X39, ⟨Lc39, hQ39, l39, y39, z39⟩, st39⟩ := X37.virtualBack hx (y := y0) (z := y0) hown (mvT hZ (hw _ (List.mem_of_getElem? (i := 29) rfl))) (mvT hZ (hw _ (List.mem_of_getElem? (i := 30) rfl))) (notFace_of_selects (args := #[]) (mvT hZ (hw _ (List.mem_of_getElem? (i := 32) rfl)))) (mvT hZ (hw _ (List.mem_of_getElem? (i := 32) rfl))) (mvT hZ (hw _ (List.mem_of_getElem? (i := 31) rfl))) (by decide) (backOf (W := 0) (rm11 l Z a0 hw [] w_PLATFORM_DEPLOY w_PLATFORM_DELETE w_SERVER_DEPLOY w_SERVER_START w_SERVER_STOP w_SERVER_DELETE w_DISK_ATTACH w_DISK_DETACH w_SNAPSHOT_CREATE w_SNAPSHOT_DELETE w_NIC_ATTACH w_NIC_DETACH hp h37 n0 O37) hZ (hw _ (List.mem_of_getElem? (i := 33) rfl)) (hw _ (List.mem_of_getElem? (i := 3) rfl)) (by decide) (by decide)) q39a q39c (g := (mkF m 145 #[.val (.int p0), .val (.ref b1), .val (.int ((p0 &&& (2147483647 : Int32)) % (12 : Int32))), .val (.ref w_SERVER_DELETE), .val (.int (0 : Int32))] [(.ref w_SERVER_DELETE)])) rfl (by rw [hml]; rfl) (Steps.refl _) (argsL := []) (rest := []) (lenOf pd_0 rfl) rfl (by show 2 * 0 + _ ≤ _; exact Nat.le_of_eq rfl) (hb hby at_145) (fun _ _ => ⟨rfl, e37, (by decide : 1 + 0 ≤ _), (by decide : 12 + 0 ≤ _)⟩)
  dsimp only [Pt.U, Pt.locs, Pt.cells, Pt.slots] at X39 l39 y39 z39 st39 hQ39
  subst l39 y39 z39
  obtain ⟨rfl, Nq39, eq39⟩ := hQ39
  have N39 := Fr.app N37 Nq39
  obtain ⟨fs, hr, hrun, hended, hW, hsame⟩ := X39.leave (v := some (.int (1 : Int32))) (fun h => by rw [Bd.returns] at h; cases h)
  refine ⟨_, _, pre0 _ ?_, hrun, hended, _, _, rfl, ?_, ⟨_, rfl⟩, hW, hsame.mono (by decide) (by decide)⟩
  · show Sp p e below s₁ (mkF m 0 #[.val (.int p0), .unset, .unset, .unset, .unset] []) _
    refine XS.bipush X0.here hx rfl (hb hby at_0) ?_
    show Sp p e below s₁ (mkF m 2 #[.val (.int p0), .unset, .unset, .unset, .unset] [(.int (12 : Int32))]) _
    refine st1 _ ?_
    show Sp p e below T1 (mkF m 5 #[.val (.int p0), .unset, .unset, .unset, .unset] [(.ref b1)]) _
    refine XS.dup X1.here hx rfl (hb hby at_5) rfl rfl ?_
    show Sp p e below T1 (mkF m 6 #[.val (.int p0), .unset, .unset, .unset, .unset] [(.ref b1), (.ref b1)]) _
    refine XS.iconst X1.here hx rfl (hb hby at_6) ?_
    show Sp p e below T1 (mkF m 7 #[.val (.int p0), .unset, .unset, .unset, .unset] [(.int (0 : Int32)), (.ref b1), (.ref b1)]) _
    refine st2 _ ?_
    show Sp p e below T2 (mkF m 10 #[.val (.int p0), .unset, .unset, .unset, .unset] [(.ref w_PLATFORM_DEPLOY), (.int (0 : Int32)), (.ref b1), (.ref b1)]) _
    refine st4 _ ?_
    show Sp p e below T4 (mkF m 11 #[.val (.int p0), .unset, .unset, .unset, .unset] [(.ref b1)]) _
    refine XS.dup X4.here hx rfl (hb hby at_11) rfl rfl ?_
    show Sp p e below T4 (mkF m 12 #[.val (.int p0), .unset, .unset, .unset, .unset] [(.ref b1), (.ref b1)]) _
    refine XS.iconst X4.here hx rfl (hb hby at_12) ?_
    show Sp p e below T4 (mkF m 13 #[.val (.int p0), .unset, .unset, .unset, .unset] [(.int (1 : Int32)), (.ref b1), (.ref b1)]) _
    refine st5 _ ?_
    show Sp p e below T5 (mkF m 16 #[.val (.int p0), .unset, .unset, .unset, .unset] [(.ref w_PLATFORM_DELETE), (.int (1 : Int32)), (.ref b1), (.ref b1)]) _
    refine st7 _ ?_
    show Sp p e below T7 (mkF m 17 #[.val (.int p0), .unset, .unset, .unset, .unset] [(.ref b1)]) _
    refine XS.dup X7.here hx rfl (hb hby at_17) rfl rfl ?_
    show Sp p e below T7 (mkF m 18 #[.val (.int p0), .unset, .unset, .unset, .unset] [(.ref b1), (.ref b1)]) _
    refine XS.iconst X7.here hx rfl (hb hby at_18) ?_
    show Sp p e below T7 (mkF m 19 #[.val (.int p0), .unset, .unset, .unset, .unset] [(.int (2 : Int32)), (.ref b1), (.ref b1)]) _
    refine st8 _ ?_
    show Sp p e below T8 (mkF m 22 #[.val (.int p0), .unset, .unset, .unset, .unset] [(.ref w_SERVER_DEPLOY), (.int (2 : Int32)), (.ref b1), (.ref b1)]) _
    refine st10 _ ?_
    show Sp p e below T10 (mkF m 23 #[.val (.int p0), .unset, .unset, .unset, .unset] [(.ref b1)]) _
    refine XS.dup X10.here hx rfl (hb hby at_23) rfl rfl ?_
    show Sp p e below T10 (mkF m 24 #[.val (.int p0), .unset, .unset, .unset, .unset] [(.ref b1), (.ref b1)]) _
    refine XS.iconst X10.here hx rfl (hb hby at_24) ?_
    show Sp p e below T10 (mkF m 25 #[.val (.int p0), .unset, .unset, .unset, .unset] [(.int (3 : Int32)), (.ref b1), (.ref b1)]) _
    refine st11 _ ?_
    show Sp p e below T11 (mkF m 28 #[.val (.int p0), .unset, .unset, .unset, .unset] [(.ref w_SERVER_START), (.int (3 : Int32)), (.ref b1), (.ref b1)]) _
    refine st13 _ ?_
    show Sp p e below T13 (mkF m 29 #[.val (.int p0), .unset, .unset, .unset, .unset] [(.ref b1)]) _
    refine XS.dup X13.here hx rfl (hb hby at_29) rfl rfl ?_
    show Sp p e below T13 (mkF m 30 #[.val (.int p0), .unset, .unset, .unset, .unset] [(.ref b1), (.ref b1)]) _
    refine XS.iconst X13.here hx rfl (hb hby at_30) ?_
    show Sp p e below T13 (mkF m 31 #[.val (.int p0), .unset, .unset, .unset, .unset] [(.int (4 : Int32)), (.ref b1), (.ref b1)]) _
    refine st14 _ ?_
    show Sp p e below T14 (mkF m 34 #[.val (.int p0), .unset, .unset, .unset, .unset] [(.ref w_SERVER_STOP), (.int (4 : Int32)), (.ref b1), (.ref b1)]) _
    refine st16 _ ?_
    show Sp p e below T16 (mkF m 35 #[.val (.int p0), .unset, .unset, .unset, .unset] [(.ref b1)]) _
    refine XS.dup X16.here hx rfl (hb hby at_35) rfl rfl ?_
    show Sp p e below T16 (mkF m 36 #[.val (.int p0), .unset, .unset, .unset, .unset] [(.ref b1), (.ref b1)]) _
    refine XS.iconst X16.here hx rfl (hb hby at_36) ?_
    show Sp p e below T16 (mkF m 37 #[.val (.int p0), .unset, .unset, .unset, .unset] [(.int (5 : Int32)), (.ref b1), (.ref b1)]) _
    refine st17 _ ?_
    show Sp p e below T17 (mkF m 40 #[.val (.int p0), .unset, .unset, .unset, .unset] [(.ref w_SERVER_DELETE), (.int (5 : Int32)), (.ref b1), (.ref b1)]) _
    refine st19 _ ?_
    show Sp p e below T19 (mkF m 41 #[.val (.int p0), .unset, .unset, .unset, .unset] [(.ref b1)]) _
    refine XS.dup X19.here hx rfl (hb hby at_41) rfl rfl ?_
    show Sp p e below T19 (mkF m 42 #[.val (.int p0), .unset, .unset, .unset, .unset] [(.ref b1), (.ref b1)]) _
    refine XS.bipush X19.here hx rfl (hb hby at_42) ?_
    show Sp p e below T19 (mkF m 44 #[.val (.int p0), .unset, .unset, .unset, .unset] [(.int (6 : Int32)), (.ref b1), (.ref b1)]) _
    refine st20 _ ?_
    show Sp p e below T20 (mkF m 47 #[.val (.int p0), .unset, .unset, .unset, .unset] [(.ref w_DISK_ATTACH), (.int (6 : Int32)), (.ref b1), (.ref b1)]) _
    refine st22 _ ?_
    show Sp p e below T22 (mkF m 48 #[.val (.int p0), .unset, .unset, .unset, .unset] [(.ref b1)]) _
    refine XS.dup X22.here hx rfl (hb hby at_48) rfl rfl ?_
    show Sp p e below T22 (mkF m 49 #[.val (.int p0), .unset, .unset, .unset, .unset] [(.ref b1), (.ref b1)]) _
    refine XS.bipush X22.here hx rfl (hb hby at_49) ?_
    show Sp p e below T22 (mkF m 51 #[.val (.int p0), .unset, .unset, .unset, .unset] [(.int (7 : Int32)), (.ref b1), (.ref b1)]) _
    refine st23 _ ?_
    show Sp p e below T23 (mkF m 54 #[.val (.int p0), .unset, .unset, .unset, .unset] [(.ref w_DISK_DETACH), (.int (7 : Int32)), (.ref b1), (.ref b1)]) _
    refine st25 _ ?_
    show Sp p e below T25 (mkF m 55 #[.val (.int p0), .unset, .unset, .unset, .unset] [(.ref b1)]) _
    refine XS.dup X25.here hx rfl (hb hby at_55) rfl rfl ?_
    show Sp p e below T25 (mkF m 56 #[.val (.int p0), .unset, .unset, .unset, .unset] [(.ref b1), (.ref b1)]) _
    refine XS.bipush X25.here hx rfl (hb hby at_56) ?_
    show Sp p e below T25 (mkF m 58 #[.val (.int p0), .unset, .unset, .unset, .unset] [(.int (8 : Int32)), (.ref b1), (.ref b1)]) _
    refine st26 _ ?_
    show Sp p e below T26 (mkF m 61 #[.val (.int p0), .unset, .unset, .unset, .unset] [(.ref w_SNAPSHOT_CREATE), (.int (8 : Int32)), (.ref b1), (.ref b1)]) _
    refine st28 _ ?_
    show Sp p e below T28 (mkF m 62 #[.val (.int p0), .unset, .unset, .unset, .unset] [(.ref b1)]) _
    refine XS.dup X28.here hx rfl (hb hby at_62) rfl rfl ?_
    show Sp p e below T28 (mkF m 63 #[.val (.int p0), .unset, .unset, .unset, .unset] [(.ref b1), (.ref b1)]) _
    refine XS.bipush X28.here hx rfl (hb hby at_63) ?_
    show Sp p e below T28 (mkF m 65 #[.val (.int p0), .unset, .unset, .unset, .unset] [(.int (9 : Int32)), (.ref b1), (.ref b1)]) _
    refine st29 _ ?_
    show Sp p e below T29 (mkF m 68 #[.val (.int p0), .unset, .unset, .unset, .unset] [(.ref w_SNAPSHOT_DELETE), (.int (9 : Int32)), (.ref b1), (.ref b1)]) _
    refine st31 _ ?_
    show Sp p e below T31 (mkF m 69 #[.val (.int p0), .unset, .unset, .unset, .unset] [(.ref b1)]) _
    refine XS.dup X31.here hx rfl (hb hby at_69) rfl rfl ?_
    show Sp p e below T31 (mkF m 70 #[.val (.int p0), .unset, .unset, .unset, .unset] [(.ref b1), (.ref b1)]) _
    refine XS.bipush X31.here hx rfl (hb hby at_70) ?_
    show Sp p e below T31 (mkF m 72 #[.val (.int p0), .unset, .unset, .unset, .unset] [(.int (10 : Int32)), (.ref b1), (.ref b1)]) _
    refine st32 _ ?_
    show Sp p e below T32 (mkF m 75 #[.val (.int p0), .unset, .unset, .unset, .unset] [(.ref w_NIC_ATTACH), (.int (10 : Int32)), (.ref b1), (.ref b1)]) _
    refine st34 _ ?_
    show Sp p e below T34 (mkF m 76 #[.val (.int p0), .unset, .unset, .unset, .unset] [(.ref b1)]) _
    refine XS.dup X34.here hx rfl (hb hby at_76) rfl rfl ?_
    show Sp p e below T34 (mkF m 77 #[.val (.int p0), .unset, .unset, .unset, .unset] [(.ref b1), (.ref b1)]) _
    refine XS.bipush X34.here hx rfl (hb hby at_77) ?_
    show Sp p e below T34 (mkF m 79 #[.val (.int p0), .unset, .unset, .unset, .unset] [(.int (11 : Int32)), (.ref b1), (.ref b1)]) _
    refine st35 _ ?_
    show Sp p e below T35 (mkF m 82 #[.val (.int p0), .unset, .unset, .unset, .unset] [(.ref w_NIC_DETACH), (.int (11 : Int32)), (.ref b1), (.ref b1)]) _
    refine st37 _ ?_
    show Sp p e below T37 (mkF m 83 #[.val (.int p0), .unset, .unset, .unset, .unset] [(.ref b1)]) _
    refine XS.astoreN X37.here hx rfl (hb hby at_83) rfl rfl (l' := #[.val (.int p0), .val (.ref b1), .unset, .unset, .unset]) rfl ?_
    show Sp p e below T37 (mkF m 84 #[.val (.int p0), .val (.ref b1), .unset, .unset, .unset] []) _
    refine XS.iloadN X37.here hx rfl (hb hby at_84) rfl ?_
    show Sp p e below T37 (mkF m 85 #[.val (.int p0), .val (.ref b1), .unset, .unset, .unset] [(.int p0)]) _
    refine X37.ldcI hx hown (mvT hZ (hw _ (List.mem_of_getElem? (i := 28) rfl))) rfl (hb hby at_85) ?_
    show Sp p e below T37 (mkF m 87 #[.val (.int p0), .val (.ref b1), .unset, .unset, .unset] [(.int (2147483647 : Int32)), (.int p0)]) _
    refine XS.iand X37.here hx rfl (hb hby at_87) rfl ?_
    show Sp p e below T37 (mkF m 88 #[.val (.int p0), .val (.ref b1), .unset, .unset, .unset] [(.int (p0 &&& (2147483647 : Int32)))]) _
    refine XS.bipush X37.here hx rfl (hb hby at_88) ?_
    show Sp p e below T37 (mkF m 90 #[.val (.int p0), .val (.ref b1), .unset, .unset, .unset] [(.int (12 : Int32)), (.int (p0 &&& (2147483647 : Int32)))]) _
    refine iremM X37 hx rfl (hb hby at_90) rfl (by decide) ?_
    show Sp p e below T37 (mkF m 91 #[.val (.int p0), .val (.ref b1), .unset, .unset, .unset] [(.int ((p0 &&& (2147483647 : Int32)) % (12 : Int32)))]) _
    refine XS.istoreN X37.here hx rfl (hb hby at_91) rfl (l' := #[.val (.int p0), .val (.ref b1), .val (.int ((p0 &&& (2147483647 : Int32)) % (12 : Int32))), .unset, .unset]) rfl ?_
    show Sp p e below T37 (mkF m 92 #[.val (.int p0), .val (.ref b1), .val (.int ((p0 &&& (2147483647 : Int32)) % (12 : Int32))), .unset, .unset] []) _
    refine XS.aloadN X37.here hx rfl (hb hby at_92) rfl rfl ?_
    show Sp p e below T37 (mkF m 93 #[.val (.int p0), .val (.ref b1), .val (.int ((p0 &&& (2147483647 : Int32)) % (12 : Int32))), .unset, .unset] [(.ref b1)]) _
    refine XS.iloadN X37.here hx rfl (hb hby at_93) rfl ?_
    show Sp p e below T37 (mkF m 94 #[.val (.int p0), .val (.ref b1), .val (.int ((p0 &&& (2147483647 : Int32)) % (12 : Int32))), .unset, .unset] [(.int ((p0 &&& (2147483647 : Int32)) % (12 : Int32))), (.ref b1)]) _
    refine X37.aaload hx (j := ((p0 &&& (2147483647 : Int32)) % (12 : Int32))) (v := (.ref w_SERVER_DELETE)) (by rw [e37]; exact Ar38.1) (State.isArrayOf_alike hZ.alike Ar38.2.1) rfl Ar38.2.2 hin38 hat38 (g := (mkF m 94 #[.val (.int p0), .val (.ref b1), .val (.int ((p0 &&& (2147483647 : Int32)) % (12 : Int32))), .unset, .unset] [(.int ((p0 &&& (2147483647 : Int32)) % (12 : Int32))), (.ref b1)])) rfl rfl (hb hby at_94) _ ?_
    show Sp p e below T37 (mkF m 95 #[.val (.int p0), .val (.ref b1), .val (.int ((p0 &&& (2147483647 : Int32)) % (12 : Int32))), .unset, .unset] [(.ref w_SERVER_DELETE)]) _
    refine XS.astoreN X37.here hx rfl (hb hby at_95) rfl rfl (l' := #[.val (.int p0), .val (.ref b1), .val (.int ((p0 &&& (2147483647 : Int32)) % (12 : Int32))), .val (.ref w_SERVER_DELETE), .unset]) rfl ?_
    show Sp p e below T37 (mkF m 96 #[.val (.int p0), .val (.ref b1), .val (.int ((p0 &&& (2147483647 : Int32)) % (12 : Int32))), .val (.ref w_SERVER_DELETE), .unset] []) _
    refine XS.iconst X37.here hx rfl (hb hby at_96) ?_
    show Sp p e below T37 (mkF m 97 #[.val (.int p0), .val (.ref b1), .val (.int ((p0 &&& (2147483647 : Int32)) % (12 : Int32))), .val (.ref w_SERVER_DELETE), .unset] [(.int (0 : Int32))]) _
    refine XS.istore X37.here hx rfl (hb hby at_97) rfl (l' := #[.val (.int p0), .val (.ref b1), .val (.int ((p0 &&& (2147483647 : Int32)) % (12 : Int32))), .val (.ref w_SERVER_DELETE), .val (.int (0 : Int32))]) rfl ?_
    show Sp p e below T37 (mkF m 99 #[.val (.int p0), .val (.ref b1), .val (.int ((p0 &&& (2147483647 : Int32)) % (12 : Int32))), .val (.ref w_SERVER_DELETE), .val (.int (0 : Int32))] []) _
    refine XS.iloadN X37.here hx rfl (hb hby at_99) rfl ?_
    show Sp p e below T37 (mkF m 100 #[.val (.int p0), .val (.ref b1), .val (.int ((p0 &&& (2147483647 : Int32)) % (12 : Int32))), .val (.ref w_SERVER_DELETE), .val (.int (0 : Int32))] [(.int ((p0 &&& (2147483647 : Int32)) % (12 : Int32)))]) _
    refine XS.bipush X37.here hx rfl (hb hby at_100) ?_
    show Sp p e below T37 (mkF m 102 #[.val (.int p0), .val (.ref b1), .val (.int ((p0 &&& (2147483647 : Int32)) % (12 : Int32))), .val (.ref w_SERVER_DELETE), .val (.int (0 : Int32))] [(.int (6 : Int32)), (.int ((p0 &&& (2147483647 : Int32)) % (12 : Int32)))]) _
    refine XS.icmpYes X37.here hx rfl (pc0 := 102) (pc' := 111) rfl (hb hby at_102) rfl (feq (by rw [hc6]; decide : ¬ (((p0 &&& (2147483647 : Int32)) % (12 : Int32)) = (6 : Int32)))).2 (by decide) (by decide) ?_
    show Sp p e below T37 (mkF m 111 #[.val (.int p0), .val (.ref b1), .val (.int ((p0 &&& (2147483647 : Int32)) % (12 : Int32))), .val (.ref w_SERVER_DELETE), .val (.int (0 : Int32))] []) _
    refine XS.iloadN X37.here hx rfl (hb hby at_111) rfl ?_
    show Sp p e below T37 (mkF m 112 #[.val (.int p0), .val (.ref b1), .val (.int ((p0 &&& (2147483647 : Int32)) % (12 : Int32))), .val (.ref w_SERVER_DELETE), .val (.int (0 : Int32))] [(.int ((p0 &&& (2147483647 : Int32)) % (12 : Int32)))]) _
    refine XS.bipush X37.here hx rfl (hb hby at_112) ?_
    show Sp p e below T37 (mkF m 114 #[.val (.int p0), .val (.ref b1), .val (.int ((p0 &&& (2147483647 : Int32)) % (12 : Int32))), .val (.ref w_SERVER_DELETE), .val (.int (0 : Int32))] [(.int (7 : Int32)), (.int ((p0 &&& (2147483647 : Int32)) % (12 : Int32)))]) _
    refine XS.icmpYes X37.here hx rfl (pc0 := 114) (pc' := 123) rfl (hb hby at_114) rfl (feq (by rw [hc6]; decide : ¬ (((p0 &&& (2147483647 : Int32)) % (12 : Int32)) = (7 : Int32)))).2 (by decide) (by decide) ?_
    show Sp p e below T37 (mkF m 123 #[.val (.int p0), .val (.ref b1), .val (.int ((p0 &&& (2147483647 : Int32)) % (12 : Int32))), .val (.ref w_SERVER_DELETE), .val (.int (0 : Int32))] []) _
    refine XS.iloadN X37.here hx rfl (hb hby at_123) rfl ?_
    show Sp p e below T37 (mkF m 124 #[.val (.int p0), .val (.ref b1), .val (.int ((p0 &&& (2147483647 : Int32)) % (12 : Int32))), .val (.ref w_SERVER_DELETE), .val (.int (0 : Int32))] [(.int ((p0 &&& (2147483647 : Int32)) % (12 : Int32)))]) _
    refine XS.bipush X37.here hx rfl (hb hby at_124) ?_
    show Sp p e below T37 (mkF m 126 #[.val (.int p0), .val (.ref b1), .val (.int ((p0 &&& (2147483647 : Int32)) % (12 : Int32))), .val (.ref w_SERVER_DELETE), .val (.int (0 : Int32))] [(.int (10 : Int32)), (.int ((p0 &&& (2147483647 : Int32)) % (12 : Int32)))]) _
    refine XS.icmpYes X37.here hx rfl (pc0 := 126) (pc' := 135) rfl (hb hby at_126) rfl (feq (by rw [hc6]; decide : ¬ (((p0 &&& (2147483647 : Int32)) % (12 : Int32)) = (10 : Int32)))).2 (by decide) (by decide) ?_
    show Sp p e below T37 (mkF m 135 #[.val (.int p0), .val (.ref b1), .val (.int ((p0 &&& (2147483647 : Int32)) % (12 : Int32))), .val (.ref w_SERVER_DELETE), .val (.int (0 : Int32))] []) _
    refine XS.iloadN X37.here hx rfl (hb hby at_135) rfl ?_
    show Sp p e below T37 (mkF m 136 #[.val (.int p0), .val (.ref b1), .val (.int ((p0 &&& (2147483647 : Int32)) % (12 : Int32))), .val (.ref w_SERVER_DELETE), .val (.int (0 : Int32))] [(.int ((p0 &&& (2147483647 : Int32)) % (12 : Int32)))]) _
    refine XS.bipush X37.here hx rfl (hb hby at_136) ?_
    show Sp p e below T37 (mkF m 138 #[.val (.int p0), .val (.ref b1), .val (.int ((p0 &&& (2147483647 : Int32)) % (12 : Int32))), .val (.ref w_SERVER_DELETE), .val (.int (0 : Int32))] [(.int (11 : Int32)), (.int ((p0 &&& (2147483647 : Int32)) % (12 : Int32)))]) _
    refine XS.icmpYes X37.here hx rfl (pc0 := 138) (pc' := 144) rfl (hb hby at_138) rfl (feq (by rw [hc6]; decide : ¬ (((p0 &&& (2147483647 : Int32)) % (12 : Int32)) = (11 : Int32)))).2 (by decide) (by decide) ?_
    show Sp p e below T37 (mkF m 144 #[.val (.int p0), .val (.ref b1), .val (.int ((p0 &&& (2147483647 : Int32)) % (12 : Int32))), .val (.ref w_SERVER_DELETE), .val (.int (0 : Int32))] []) _
    refine XS.aloadN X37.here hx rfl (hb hby at_144) rfl rfl ?_
    show Sp p e below T37 (mkF m 145 #[.val (.int p0), .val (.ref b1), .val (.int ((p0 &&& (2147483647 : Int32)) % (12 : Int32))), .val (.ref w_SERVER_DELETE), .val (.int (0 : Int32))] [(.ref w_SERVER_DELETE)]) _
    refine st39.trans ?_
    show Sp p e below T39 (mkF m 148 #[.val (.int p0), .val (.ref b1), .val (.int ((p0 &&& (2147483647 : Int32)) % (12 : Int32))), .val (.ref w_SERVER_DELETE), .val (.int (0 : Int32))] [(.int (0 : Int32))]) _
    refine XS.iload X39.here hx rfl (hb hby at_148) rfl ?_
    show Sp p e below T39 (mkF m 150 #[.val (.int p0), .val (.ref b1), .val (.int ((p0 &&& (2147483647 : Int32)) % (12 : Int32))), .val (.ref w_SERVER_DELETE), .val (.int (0 : Int32))] [(.int (0 : Int32)), (.int (0 : Int32))]) _
    refine XS.icmpNo X39.here hx rfl (hb hby at_150) rfl (teq (by decide : (0 : Int32) = (0 : Int32))).2 ?_
    show Sp p e below T39 (mkF m 153 #[.val (.int p0), .val (.ref b1), .val (.int ((p0 &&& (2147483647 : Int32)) % (12 : Int32))), .val (.ref w_SERVER_DELETE), .val (.int (0 : Int32))] []) _
    refine XS.iconst X39.here hx rfl (hb hby at_153) ?_
    show Sp p e below T39 (mkF m 154 #[.val (.int p0), .val (.ref b1), .val (.int ((p0 &&& (2147483647 : Int32)) % (12 : Int32))), .val (.ref w_SERVER_DELETE), .val (.int (0 : Int32))] [(.int (1 : Int32))]) _
    refine XS.goto X39.here hx rfl (pc0 := 154) (pc' := 158) rfl (hb hby at_154) (by decide) (by decide) ?_
    show Sp p e below T39 (mkF m 158 #[.val (.int p0), .val (.ref b1), .val (.int ((p0 &&& (2147483647 : Int32)) % (12 : Int32))), .val (.ref w_SERVER_DELETE), .val (.int (0 : Int32))] [(.int (1 : Int32))]) _
    exact retN X39 hx (t := .boolean) Bd.returns (by simp) (hb hby at_158) hr
  · skip
    exact ⟨rfl, N39⟩
theorem d1_28 : decode prog_20_method_6_code 28 = .ok (.iconst 1, 1) := by decide +kernel
theorem d1_29 : decode prog_20_method_6_code 29 = .ok (.goto 4, 3) := by decide +kernel
def Q13 (Z : State) (w_PLATFORM_DEPLOY : Addr) (w_PLATFORM_DELETE : Addr) (w_SERVER_DEPLOY : Addr) (w_SERVER_START : Addr) (w_SERVER_STOP : Addr) (w_SERVER_DELETE : Addr) (w_DISK_ATTACH : Addr) (w_DISK_DETACH : Addr) (w_SNAPSHOT_CREATE : Addr) (w_SNAPSHOT_DELETE : Addr) (w_NIC_ATTACH : Addr) (w_NIC_DETACH : Addr) (h0 : Heap) (n0 : Nat) (v : Option Value) (h : Heap) (L : List Loc) : Prop := v = some (.int (1 : Int32)) ∧ Fr n0 L ∧ h = h0
set_option maxRecDepth 65536 in
set_option maxHeartbeats 40000000 in
theorem rm13 (l : Launch) (Z : State) (a0 : Array Value) (hw : ∀ d ∈ tables_1, d.before a0 Z = true) (ws : List Jvm.Cond) (w_PLATFORM_DEPLOY w_PLATFORM_DELETE w_SERVER_DEPLOY w_SERVER_START w_SERVER_STOP w_SERVER_DELETE w_DISK_ATTACH w_DISK_DETACH w_SNAPSHOT_CREATE w_SNAPSHOT_DELETE w_NIC_ATTACH w_NIC_DETACH : Addr) (hp : Perm Z w_PLATFORM_DEPLOY w_PLATFORM_DELETE w_SERVER_DEPLOY w_SERVER_START w_SERVER_STOP w_SERVER_DELETE w_DISK_ATTACH w_DISK_DETACH w_SNAPSHOT_CREATE w_SNAPSHOT_DELETE w_NIC_ATTACH w_NIC_DETACH) (h0 : Heap) (n0 : Nat) (O0 : Old Z n0 h0) :
    MetFree l y0 (head1 (Jvm.Cond.code y0 prog_20_method_6_code 1 (some .boolean) :: ws) ({ frames := 0, cells := 0, slots := 0, locals := 0 } : Room)) (fun a U => a = #[(.ref w_DISK_ATTACH)] ∧ Z.Warmed39 U.vm ∧ U.heap = h0) (fun _ _ _ _ _ => True) (fun _ U o U' => ∃ v L, o = .returned v ∧ Q13 Z w_PLATFORM_DEPLOY w_PLATFORM_DELETE w_SERVER_DEPLOY w_SERVER_START w_SERVER_STOP w_SERVER_DELETE w_DISK_ATTACH w_DISK_DETACH w_SNAPSHOT_CREATE w_SNAPSHOT_DELETE w_NIC_ATTACH w_NIC_DETACH  h0 n0 v U'.heap L ∧ FrameEnd U o U' L ({ frames := 0, cells := 0, slots := 0, locals := 0 } : Room).cells ({ frames := 0, cells := 0, slots := 0, locals := 0 } : Room).slots) := by
  refine MetFree.of_bodySF (plainFor_of_name pn_1) hisR ?_
  intro p e s m args below meth c s₁ Bd hml0 hP hK
  obtain ⟨rfl, hZ, hh⟩ := hP
  have hx := Bd.exec
  have hby := Bd.bytes
  have hml : c.maxLocals = 1 := hml0
  have hown : s.vm.findClass "com/example/ratebook/ratebook/model/EventType" = some m.cls := findClass_of_methodNamed Bd.named
  have hnm := (name_of_methodNamed Bd.named Bd.method).1
  have X0 : Stand p l e ({ frames := 0, cells := 0, slots := 0, locals := 0 } : Room) s m #[(.ref w_DISK_ATTACH)] below meth c s₁ [] 0 0 := Stand.of_body Bd
  have e0 : s₁.heap = h0 := by rw [← hh, Bd.state]; rfl
  have N0 := Fr.nil n0
  have hp' := hp
  obtain ⟨S_w_PLATFORM_DEPLOY, E_w_PLATFORM_DEPLOY, S_w_PLATFORM_DELETE, E_w_PLATFORM_DELETE, S_w_SERVER_DEPLOY, E_w_SERVER_DEPLOY, S_w_SERVER_START, E_w_SERVER_START, S_w_SERVER_STOP, E_w_SERVER_STOP, S_w_SERVER_DELETE, E_w_SERVER_DELETE, S_w_DISK_ATTACH, E_w_DISK_ATTACH, S_w_DISK_DETACH, E_w_DISK_DETACH, S_w_SNAPSHOT_CREATE, E_w_SNAPSHOT_CREATE, S_w_SNAPSHOT_DELETE, E_w_SNAPSHOT_DELETE, S_w_NIC_ATTACH, E_w_NIC_ATTACH, S_w_NIC_DETACH, E_w_NIC_DETACH, F_ordinal_w_PLATFORM_DEPLOY, F_ordinal_w_DISK_ATTACH, F_ordinal_w_DISK_DETACH, F_ordinal_w_NIC_ATTACH, F_ordinal_w_NIC_DETACH, F_ordinal_w_SERVER_START, F_ordinal_w_SERVER_DEPLOY, F_ordinal_w_SERVER_STOP, F_ordinal_w_SNAPSHOT_CREATE, F_ordinal_w_PLATFORM_DELETE, F_ordinal_w_SNAPSHOT_DELETE, F_ordinal_w_SERVER_DELETE⟩ := hp'
  have pre0 : ∀ t, Steps p.tables e below (s₁.setTop (mkF m 0 #[.val (.ref w_DISK_ATTACH)] [])) t → Steps p.tables e below (s₁.setTop (entryFrame m #[(.ref w_DISK_ATTACH)] 1)) t := fun t k => castTop (ef_1_0 m w_DISK_ATTACH) k
  obtain ⟨T1, X1, e1, st1⟩ := getS2 X0 hx hZ hown (host := "") (Or.inl (hw _ (List.mem_of_getElem? (i := 34) rfl))) Via.refl e0 (S_w_DISK_ATTACH.ext O0.2) (g := (mkF m 1 #[.val (.ref w_DISK_ATTACH)] [(.ref w_DISK_ATTACH)])) rfl (hb hby d1_1)
  obtain ⟨fs, hr, hrun, hended, hW, hsame⟩ := X1.leave (v := some (.int (1 : Int32))) (fun h => by rw [Bd.returns] at h; cases h)
  refine ⟨_, _, pre0 _ ?_, hrun, hended, _, _, rfl, ?_, ⟨_, rfl⟩, hW, hsame.mono (by decide) (by decide)⟩
  · show Sp p e below s₁ (mkF m 0 #[.val (.ref w_DISK_ATTACH)] []) _
    refine XS.aloadN X0.here hx rfl (hb hby d1_0) rfl rfl ?_
    show Sp p e below s₁ (mkF m 1 #[.val (.ref w_DISK_ATTACH)] [(.ref w_DISK_ATTACH)]) _
    refine st1 _ ?_
    show Sp p e below T1 (mkF m 4 #[.val (.ref w_DISK_ATTACH)] [(.ref w_DISK_ATTACH), (.ref w_DISK_ATTACH)]) _
    refine Jvm.RoadKit.acmp (g := (mkF m 4 #[.val (.ref w_DISK_ATTACH)] [(.ref w_DISK_ATTACH), (.ref w_DISK_ATTACH)])) X1 hx rfl rfl rfl (pc0 := 4) (pc' := 28) (same := true) rfl (hb hby d1_4) rfl (decide_eq_true rfl) (by decide) (by decide) ?_
    show Sp p e below T1 (mkF m 28 #[.val (.ref w_DISK_ATTACH)] []) _
    refine XS.iconst X1.here hx rfl (hb hby d1_28) ?_
    show Sp p e below T1 (mkF m 29 #[.val (.ref w_DISK_ATTACH)] [(.int (1 : Int32))]) _
    refine XS.goto X1.here hx rfl (pc0 := 29) (pc' := 33) rfl (hb hby d1_29) (by decide) (by decide) ?_
    show Sp p e below T1 (mkF m 33 #[.val (.ref w_DISK_ATTACH)] [(.int (1 : Int32))]) _
    exact retN X1 hx (t := .boolean) Bd.returns (by simp) (hb hby d1_33) hr
  · show Q13 Z w_PLATFORM_DEPLOY w_PLATFORM_DELETE w_SERVER_DEPLOY w_SERVER_START w_SERVER_STOP w_SERVER_DELETE w_DISK_ATTACH w_DISK_DETACH w_SNAPSHOT_CREATE w_SNAPSHOT_DELETE w_NIC_ATTACH w_NIC_DETACH  h0 n0 _ T1.heap _
    rw [e1]
    exact ⟨rfl, N0, rfl⟩
set_option maxRecDepth 65536 in
set_option maxHeartbeats 40000000 in
theorem rm14 (l : Launch) (Z : State) (a0 : Array Value) (hw : ∀ d ∈ tables_1, d.before a0 Z = true) (ws : List Jvm.Cond) (w_PLATFORM_DEPLOY w_PLATFORM_DELETE w_SERVER_DEPLOY w_SERVER_START w_SERVER_STOP w_SERVER_DELETE w_DISK_ATTACH w_DISK_DETACH w_SNAPSHOT_CREATE w_SNAPSHOT_DELETE w_NIC_ATTACH w_NIC_DETACH : Addr) (hp : Perm Z w_PLATFORM_DEPLOY w_PLATFORM_DELETE w_SERVER_DEPLOY w_SERVER_START w_SERVER_STOP w_SERVER_DELETE w_DISK_ATTACH w_DISK_DETACH w_SNAPSHOT_CREATE w_SNAPSHOT_DELETE w_NIC_ATTACH w_NIC_DETACH) (p0 : Int32) (h0 : Heap) (n0 : Nat) (O0 : Old Z n0 h0) (hc1 : ¬ (((p0 &&& (2147483647 : Int32)) % (12 : Int32)) = (0 : Int32))) (hc2 : ¬ (((p0 &&& (2147483647 : Int32)) % (12 : Int32)) = (1 : Int32))) (hc3 : ¬ (((p0 &&& (2147483647 : Int32)) % (12 : Int32)) = (2 : Int32))) (hc4 : ¬ (((p0 &&& (2147483647 : Int32)) % (12 : Int32)) = (3 : Int32))) (hc5 : ¬ (((p0 &&& (2147483647 : Int32)) % (12 : Int32)) = (4 : Int32))) (hc6 : ¬ (((p0 &&& (2147483647 : Int32)) % (12 : Int32)) = (5 : Int32))) (hc7 : ((p0 &&& (2147483647 : Int32)) % (12 : Int32)) = (6 : Int32)) :
    MetFree l x (head1 (Jvm.Cond.code x code maxLocals ret :: ws) room_1) (fun a U => a = #[(.int p0)] ∧ Z.Warmed39 U.vm ∧ U.heap = h0) (fun _ _ _ _ _ => True) (fun _ U o U' => ∃ v L, o = .returned v ∧ (v = some (.int (1 : Int32)) ∧ Fr n0 L) ∧ FrameEnd U o U' L 16 128) := by
  refine MetFree.of_bodySF (plainFor_of_name pn_0) hisR ?_
  intro p e s m args below meth c s₁ Bd hml0 hP hK
  obtain ⟨rfl, hZ, hh⟩ := hP
  have hx := Bd.exec
  have hby := Bd.bytes
  have hml : c.maxLocals = 5 := hml0
  have hown : s.vm.findClass "com/example/ratebook/ratebook/model/EventTypeIsAttachmentEventPinLaw" = some m.cls := findClass_of_methodNamed Bd.named
  have hnm := (name_of_methodNamed Bd.named Bd.method).1
  have X0 : Stand p l e room_1 s m #[(.int p0)] below meth c s₁ [] 0 0 := Stand.of_body Bd
  have e0 : s₁.heap = h0 := by rw [← hh, Bd.state]; rfl
  have N0 := Fr.nil n0
  have hp' := hp
  obtain ⟨S_w_PLATFORM_DEPLOY, E_w_PLATFORM_DEPLOY, S_w_PLATFORM_DELETE, E_w_PLATFORM_DELETE, S_w_SERVER_DEPLOY, E_w_SERVER_DEPLOY, S_w_SERVER_START, E_w_SERVER_START, S_w_SERVER_STOP, E_w_SERVER_STOP, S_w_SERVER_DELETE, E_w_SERVER_DELETE, S_w_DISK_ATTACH, E_w_DISK_ATTACH, S_w_DISK_DETACH, E_w_DISK_DETACH, S_w_SNAPSHOT_CREATE, E_w_SNAPSHOT_CREATE, S_w_SNAPSHOT_DELETE, E_w_SNAPSHOT_DELETE, S_w_NIC_ATTACH, E_w_NIC_ATTACH, S_w_NIC_DETACH, E_w_NIC_DETACH, F_ordinal_w_PLATFORM_DEPLOY, F_ordinal_w_DISK_ATTACH, F_ordinal_w_DISK_DETACH, F_ordinal_w_NIC_ATTACH, F_ordinal_w_NIC_DETACH, F_ordinal_w_SERVER_START, F_ordinal_w_SERVER_DEPLOY, F_ordinal_w_SERVER_STOP, F_ordinal_w_SNAPSHOT_CREATE, F_ordinal_w_PLATFORM_DELETE, F_ordinal_w_SNAPSHOT_DELETE, F_ordinal_w_SERVER_DELETE⟩ := hp'
  have pre0 : ∀ t, Steps p.tables e below (s₁.setTop (mkF m 0 #[.val (.int p0), .unset, .unset, .unset, .unset] [])) t → Steps p.tables e below (s₁.setTop (entryFrame m #[(.int p0)] maxLocals)) t := fun t k => castTop (ef_0_0 m p0) k
  obtain ⟨T1, h1, k1, X1, e1, E1, A1, EA1, Ov1, st1⟩ := newRE X0 hx hZ hown (hw _ (List.mem_of_getElem? (i := 0) rfl)) (hw _ (List.mem_of_getElem? (i := 1) rfl)) e0 (g := (mkF m 2 #[.val (.int p0), .unset, .unset, .unset, .unset] [(.int (12 : Int32))])) rfl (hb hby at_2) rfl (by decide) (cap := 12) (by decide) (by decide) (by decide) (by decide) (ad := "[Lcom/example/ratebook/ratebook/model/EventType;") (by decide)
  obtain ⟨b1, g1⟩ : ∃ z, z = h0.size := ⟨_, rfl⟩
  rw [← g1] at A1 EA1 st1
  have g_b1 : n0 ≤ b1 := Nat.le_trans (own_sz O0) (Nat.le_of_eq g1.symm)
  have sz_b1 : h0.size ≤ b1 := Nat.le_trans (Keep.refl h0 []).1 (Nat.le_of_eq g1.symm)
  have O1 := O0.ext E1
  have K1 : Keep h0 h1 [] := (Keep.refl h0 []).ext E1
  have V_b1 : Arv Z h1 b1 k1 (.object "com/example/ratebook/ratebook/model/EventType") (12 : Int32) [.null, .null, .null, .null, .null, .null, .null, .null, .null, .null, .null, .null] .null := (Arv.new A1 (by decide)).pad (pad_rep [] .null 12)
  obtain ⟨T2, X2, e2, st2⟩ := getS2 X1 hx hZ hown (host := "") (Or.inl (hw _ (List.mem_of_getElem? (i := 2) rfl))) Via.refl e1 (S_w_PLATFORM_DEPLOY.ext O1.2) (g := (mkF m 7 #[.val (.int p0), .unset, .unset, .unset, .unset] [(.int (0 : Int32)), (.ref b1), (.ref b1)])) rfl (hb hby at_7)
  obtain ⟨cl3, Ar3, q3, S3, Nn3, H3, G3⟩ := V_b1
  have hin3 : ¬ ((0 : Int32) < 0 ∨ cl3.slots.size ≤ ((0 : Int32)).toNatClampNeg) := inb_of S3 ⟨by decide, by decide⟩
  obtain ⟨T4, h4, X4, e4, W4, st4⟩ := stR X2 hx hZ e2 Ar3 (j := (0 : Int32)) hin3 rfl (Sto.ofV Ar3 q3 Ov1 (Ins.self (E_w_PLATFORM_DEPLOY.ext O1.2))) (g := (mkF m 10 #[.val (.int p0), .unset, .unset, .unset, .unset] [(.ref w_PLATFORM_DEPLOY), (.int (0 : Int32)), (.ref b1), (.ref b1)])) rfl rfl (hb hby at_10)
  have N4 := Fr.snoc X4 N0 g_b1
  have O4 := O1.wr W4 g_b1
  have K4 : Keep h0 h4 [] := K1.wr W4 (Or.inr sz_b1)
  have V_b1_4 : Arv Z h4 b1 k1 (.object "com/example/ratebook/ratebook/model/EventType") (12 : Int32) [(.ref w_PLATFORM_DEPLOY), .null, .null, .null, .null, .null, .null, .null, .null, .null, .null, .null] .null := Arv.set Ar3 q3 S3 Nn3 H3 G3 rfl W4 0 rfl (Nat.le_of_ble_eq_true rfl)
  obtain ⟨T5, X5, e5, st5⟩ := getS2 X4 hx hZ hown (host := "") (Or.inl (hw _ (List.mem_of_getElem? (i := 6) rfl))) Via.refl e4 (S_w_PLATFORM_DELETE.ext O4.2) (g := (mkF m 13 #[.val (.int p0), .unset, .unset, .unset, .unset] [(.int (1 : Int32)), (.ref b1), (.ref b1)])) rfl (hb hby at_13)
  obtain ⟨cl6, Ar6, q6, S6, Nn6, H6, G6⟩ := V_b1_4
  have hin6 : ¬ ((1 : Int32) < 0 ∨ cl6.slots.size ≤ ((1 : Int32)).toNatClampNeg) := inb_of S6 ⟨by decide, by decide⟩
  obtain ⟨T7, h7, X7, e7, W7, st7⟩ := stR X5 hx hZ e5 Ar6 (j := (1 : Int32)) hin6 rfl (Sto.ofV Ar6 q6 Ov1 (Ins.self (E_w_PLATFORM_DELETE.ext O4.2))) (g := (mkF m 16 #[.val (.int p0), .unset, .unset, .unset, .unset] [(.ref w_PLATFORM_DELETE), (.int (1 : Int32)), (.ref b1), (.ref b1)])) rfl rfl (hb hby at_16)
  have N7 := Fr.snoc X7 N4 g_b1
  have O7 := O4.wr W7 g_b1
  have K7 : Keep h0 h7 [] := K4.wr W7 (Or.inr sz_b1)
  have V_b1_7 : Arv Z h7 b1 k1 (.object "com/example/ratebook/ratebook/model/EventType") (12 : Int32) [(.ref w_PLATFORM_DEPLOY), (.ref w_PLATFORM_DELETE), .null, .null, .null, .null, .null, .null, .null, .null, .null, .null] .null := Arv.set Ar6 q6 S6 Nn6 H6 G6 rfl W7 1 rfl (Nat.le_of_ble_eq_true rfl)
  obtain ⟨T8, X8, e8, st8⟩ := getS2 X7 hx hZ hown (host := "") (Or.inl (hw _ (List.mem_of_getElem? (i := 8) rfl))) Via.refl e7 (S_w_SERVER_DEPLOY.ext O7.2) (g := (mkF m 19 #[.val (.int p0), .unset, .unset, .unset, .unset] [(.int (2 : Int32)), (.ref b1), (.ref b1)])) rfl (hb hby at_19)
  obtain ⟨cl9, Ar9, q9, S9, Nn9, H9, G9⟩ := V_b1_7
  have hin9 : ¬ ((2 : Int32) < 0 ∨ cl9.slots.size ≤ ((2 : Int32)).toNatClampNeg) := inb_of S9 ⟨by decide, by decide⟩
  obtain ⟨T10, h10, X10, e10, W10, st10⟩ := stR X8 hx hZ e8 Ar9 (j := (2 : Int32)) hin9 rfl (Sto.ofV Ar9 q9 Ov1 (Ins.self (E_w_SERVER_DEPLOY.ext O7.2))) (g := (mkF m 22 #[.val (.int p0), .unset, .unset, .unset, .unset] [(.ref w_SERVER_DEPLOY), (.int (2 : Int32)), (.ref b1), (.ref b1)])) rfl rfl (hb hby at_22)
  have N10 := Fr.snoc X10 N7 g_b1
  have O10 := O7.wr W10 g_b1
  have K10 : Keep h0 h10 [] := K7.wr W10 (Or.inr sz_b1)
  have V_b1_10 : Arv Z h10 b1 k1 (.object "com/example/ratebook/ratebook/model/EventType") (12 : Int32) [(.ref w_PLATFORM_DEPLOY), (.ref w_PLATFORM_DELETE), (.ref w_SERVER_DEPLOY), .null, .null, .null, .null, .null, .null, .null, .null, .null] .null := Arv.set Ar9 q9 S9 Nn9 H9 G9 rfl W10 2 rfl (Nat.le_of_ble_eq_true rfl)
  obtain ⟨T11, X11, e11, st11⟩ := getS2 X10 hx hZ hown (host := "") (Or.inl (hw _ (List.mem_of_getElem? (i := 10) rfl))) Via.refl e10 (S_w_SERVER_START.ext O10.2) (g := (mkF m 25 #[.val (.int p0), .unset, .unset, .unset, .unset] [(.int (3 : Int32)), (.ref b1), (.ref b1)])) rfl (hb hby at_25)
  obtain ⟨cl12, Ar12, q12, S12, Nn12, H12, G12⟩ := V_b1_10
  have hin12 : ¬ ((3 : Int32) < 0 ∨ cl12.slots.size ≤ ((3 : Int32)).toNatClampNeg) := inb_of S12 ⟨by decide, by decide⟩
  obtain ⟨T13, h13, X13, e13, W13, st13⟩ := stR X11 hx hZ e11 Ar12 (j := (3 : Int32)) hin12 rfl (Sto.ofV Ar12 q12 Ov1 (Ins.self (E_w_SERVER_START.ext O10.2))) (g := (mkF m 28 #[.val (.int p0), .unset, .unset, .unset, .unset] [(.ref w_SERVER_START), (.int (3 : Int32)), (.ref b1), (.ref b1)])) rfl rfl (hb hby at_28)
  have N13 := Fr.snoc X13 N10 g_b1
  have O13 := O10.wr W13 g_b1
  have K13 : Keep h0 h13 [] := K10.wr W13 (Or.inr sz_b1)
  have V_b1_13 : Arv Z h13 b1 k1 (.object "com/example/ratebook/ratebook/model/EventType") (12 : Int32) [(.ref w_PLATFORM_DEPLOY), (.ref w_PLATFORM_DELETE), (.ref w_SERVER_DEPLOY), (.ref w_SERVER_START), .null, .null, .null, .null, .null, .null, .null, .null] .null := Arv.set Ar12 q12 S12 Nn12 H12 G12 rfl W13 3 rfl (Nat.le_of_ble_eq_true rfl)
  obtain ⟨T14, X14, e14, st14⟩ := getS2 X13 hx hZ hown (host := "") (Or.inl (hw _ (List.mem_of_getElem? (i := 12) rfl))) Via.refl e13 (S_w_SERVER_STOP.ext O13.2) (g := (mkF m 31 #[.val (.int p0), .unset, .unset, .unset, .unset] [(.int (4 : Int32)), (.ref b1), (.ref b1)])) rfl (hb hby at_31)
  obtain ⟨cl15, Ar15, q15, S15, Nn15, H15, G15⟩ := V_b1_13
  have hin15 : ¬ ((4 : Int32) < 0 ∨ cl15.slots.size ≤ ((4 : Int32)).toNatClampNeg) := inb_of S15 ⟨by decide, by decide⟩
  obtain ⟨T16, h16, X16, e16, W16, st16⟩ := stR X14 hx hZ e14 Ar15 (j := (4 : Int32)) hin15 rfl (Sto.ofV Ar15 q15 Ov1 (Ins.self (E_w_SERVER_STOP.ext O13.2))) (g := (mkF m 34 #[.val (.int p0), .unset, .unset, .unset, .unset] [(.ref w_SERVER_STOP), (.int (4 : Int32)), (.ref b1), (.ref b1)])) rfl rfl (hb hby at_34)
  have N16 := Fr.snoc X16 N13 g_b1
  have O16 := O13.wr W16 g_b1
  have K16 : Keep h0 h16 [] := K13.wr W16 (Or.inr sz_b1)
  have V_b1_16 : Arv Z h16 b1 k1 (.object "com/example/ratebook/ratebook/model/EventType") (12 : Int32) [(.ref w_PLATFORM_DEPLOY), (.ref w_PLATFORM_DELETE), (.ref w_SERVER_DEPLOY), (.ref w_SERVER_START), (.ref w_SERVER_STOP), .null, .null, .null, .null, .null, .null, .null] .null := Arv.set Ar15 q15 S15 Nn15 H15 G15 rfl W16 4 rfl (Nat.le_of_ble_eq_true rfl)
  obtain ⟨T17, X17, e17, st17⟩ := getS2 X16 hx hZ hown (host := "") (Or.inl (hw _ (List.mem_of_getElem? (i := 14) rfl))) Via.refl e16 (S_w_SERVER_DELETE.ext O16.2) (g := (mkF m 37 #[.val (.int p0), .unset, .unset, .unset, .unset] [(.int (5 : Int32)), (.ref b1), (.ref b1)])) rfl (hb hby at_37)
  obtain ⟨cl18, Ar18, q18, S18, Nn18, H18, G18⟩ := V_b1_16
  have hin18 : ¬ ((5 : Int32) < 0 ∨ cl18.slots.size ≤ ((5 : Int32)).toNatClampNeg) := inb_of S18 ⟨by decide, by decide⟩
  obtain ⟨T19, h19, X19, e19, W19, st19⟩ := stR X17 hx hZ e17 Ar18 (j := (5 : Int32)) hin18 rfl (Sto.ofV Ar18 q18 Ov1 (Ins.self (E_w_SERVER_DELETE.ext O16.2))) (g := (mkF m 40 #[.val (.int p0), .unset, .unset, .unset, .unset] [(.ref w_SERVER_DELETE), (.int (5 : Int32)), (.ref b1), (.ref b1)])) rfl rfl (hb hby at_40)
  have N19 := Fr.snoc X19 N16 g_b1
  have O19 := O16.wr W19 g_b1
  have K19 : Keep h0 h19 [] := K16.wr W19 (Or.inr sz_b1)
  have V_b1_19 : Arv Z h19 b1 k1 (.object "com/example/ratebook/ratebook/model/EventType") (12 : Int32) [(.ref w_PLATFORM_DEPLOY), (.ref w_PLATFORM_DELETE), (.ref w_SERVER_DEPLOY), (.ref w_SERVER_START), (.ref w_SERVER_STOP), (.ref w_SERVER_DELETE), .null, .null, .null, .null, .null, .null] .null := Arv.set Ar18 q18 S18 Nn18 H18 G18 rfl W19 5 rfl (Nat.le_of_ble_eq_true rfl)
  obtain ⟨T20, X20, e20, st20⟩ := getS2 X19 hx hZ hown (host := "") (Or.inl (hw _ (List.mem_of_getElem? (i := 16) rfl))) Via.refl e19 (S_w_DISK_ATTACH.ext O19.2) (g := (mkF m 44 #[.val (.int p0), .unset, .unset, .unset, .unset] [(.int (6 : Int32)), (.ref b1), (.ref b1)])) rfl (hb hby at_44)
  obtain ⟨cl21, Ar21, q21, S21, Nn21, H21, G21⟩ := V_b1_19
  have hin21 : ¬ ((6 : Int32) < 0 ∨ cl21.slots.size ≤ ((6 : Int32)).toNatClampNeg) := inb_of S21 ⟨by decide, by decide⟩
  obtain ⟨T22, h22, X22, e22, W22, st22⟩ := stR X20 hx hZ e20 Ar21 (j := (6 : Int32)) hin21 rfl (Sto.ofV Ar21 q21 Ov1 (Ins.self (E_w_DISK_ATTACH.ext O19.2))) (g := (mkF m 47 #[.val (.int p0), .unset, .unset, .unset, .unset] [(.ref w_DISK_ATTACH), (.int (6 : Int32)), (.ref b1), (.ref b1)])) rfl rfl (hb hby at_47)
  have N22 := Fr.snoc X22 N19 g_b1
  have O22 := O19.wr W22 g_b1
  have K22 : Keep h0 h22 [] := K19.wr W22 (Or.inr sz_b1)
  have V_b1_22 : Arv Z h22 b1 k1 (.object "com/example/ratebook/ratebook/model/EventType") (12 : Int32) [(.ref w_PLATFORM_DEPLOY), (.ref w_PLATFORM_DELETE), (.ref w_SERVER_DEPLOY), (.ref w_SERVER_START), (.ref w_SERVER_STOP), (.ref w_SERVER_DELETE), (.ref w_DISK_ATTACH), .null, .null, .null, .null, .null] .null := Arv.set Ar21 q21 S21 Nn21 H21 G21 rfl W22 6 rfl (Nat.le_of_ble_eq_true rfl)
  obtain ⟨T23, X23, e23, st23⟩ := getS2 X22 hx hZ hown (host := "") (Or.inl (hw _ (List.mem_of_getElem? (i := 18) rfl))) Via.refl e22 (S_w_DISK_DETACH.ext O22.2) (g := (mkF m 51 #[.val (.int p0), .unset, .unset, .unset, .unset] [(.int (7 : Int32)), (.ref b1), (.ref b1)])) rfl (hb hby at_51)
  obtain ⟨cl24, Ar24, q24, S24, Nn24, H24, G24⟩ := V_b1_22
  have hin24 : ¬ ((7 : Int32) < 0 ∨ cl24.slots.size ≤ ((7 : Int32)).toNatClampNeg) := inb_of S24 ⟨by decide, by decide⟩
  obtain ⟨T25, h25, X25, e25, W25, st25⟩ := stR X23 hx hZ e23 Ar24 (j := (7 : Int32)) hin24 rfl (Sto.ofV Ar24 q24 Ov1 (Ins.self (E_w_DISK_DETACH.ext O22.2))) (g := (mkF m 54 #[.val (.int p0), .unset, .unset, .unset, .unset] [(.ref w_DISK_DETACH), (.int (7 : Int32)), (.ref b1), (.ref b1)])) rfl rfl (hb hby at_54)
  have N25 := Fr.snoc X25 N22 g_b1
  have O25 := O22.wr W25 g_b1
  have K25 : Keep h0 h25 [] := K22.wr W25 (Or.inr sz_b1)
  have V_b1_25 : Arv Z h25 b1 k1 (.object "com/example/ratebook/ratebook/model/EventType") (12 : Int32) [(.ref w_PLATFORM_DEPLOY), (.ref w_PLATFORM_DELETE), (.ref w_SERVER_DEPLOY), (.ref w_SERVER_START), (.ref w_SERVER_STOP), (.ref w_SERVER_DELETE), (.ref w_DISK_ATTACH), (.ref w_DISK_DETACH), .null, .null, .null, .null] .null := Arv.set Ar24 q24 S24 Nn24 H24 G24 rfl W25 7 rfl (Nat.le_of_ble_eq_true rfl)
  obtain ⟨T26, X26, e26, st26⟩ := getS2 X25 hx hZ hown (host := "") (Or.inl (hw _ (List.mem_of_getElem? (i := 20) rfl))) Via.refl e25 (S_w_SNAPSHOT_CREATE.ext O25.2) (g := (mkF m 58 #[.val (.int p0), .unset, .unset, .unset, .unset] [(.int (8 : Int32)), (.ref b1), (.ref b1)])) rfl (hb hby at_58)
  obtain ⟨cl27, Ar27, q27, S27, Nn27, H27, G27⟩ := V_b1_25
  have hin27 : ¬ ((8 : Int32) < 0 ∨ cl27.slots.size ≤ ((8 : Int32)).toNatClampNeg) := inb_of S27 ⟨by decide, by decide⟩
  obtain ⟨T28, h28, X28, e28, W28, st28⟩ := stR X26 hx hZ e26 Ar27 (j := (8 : Int32)) hin27 rfl (Sto.ofV Ar27 q27 Ov1 (Ins.self (E_w_SNAPSHOT_CREATE.ext O25.2))) (g := (mkF m 61 #[.val (.int p0), .unset, .unset, .unset, .unset] [(.ref w_SNAPSHOT_CREATE), (.int (8 : Int32)), (.ref b1), (.ref b1)])) rfl rfl (hb hby at_61)
  have N28 := Fr.snoc X28 N25 g_b1
  have O28 := O25.wr W28 g_b1
  have K28 : Keep h0 h28 [] := K25.wr W28 (Or.inr sz_b1)
  have V_b1_28 : Arv Z h28 b1 k1 (.object "com/example/ratebook/ratebook/model/EventType") (12 : Int32) [(.ref w_PLATFORM_DEPLOY), (.ref w_PLATFORM_DELETE), (.ref w_SERVER_DEPLOY), (.ref w_SERVER_START), (.ref w_SERVER_STOP), (.ref w_SERVER_DELETE), (.ref w_DISK_ATTACH), (.ref w_DISK_DETACH), (.ref w_SNAPSHOT_CREATE), .null, .null, .null] .null := Arv.set Ar27 q27 S27 Nn27 H27 G27 rfl W28 8 rfl (Nat.le_of_ble_eq_true rfl)
  obtain ⟨T29, X29, e29, st29⟩ := getS2 X28 hx hZ hown (host := "") (Or.inl (hw _ (List.mem_of_getElem? (i := 22) rfl))) Via.refl e28 (S_w_SNAPSHOT_DELETE.ext O28.2) (g := (mkF m 65 #[.val (.int p0), .unset, .unset, .unset, .unset] [(.int (9 : Int32)), (.ref b1), (.ref b1)])) rfl (hb hby at_65)
  obtain ⟨cl30, Ar30, q30, S30, Nn30, H30, G30⟩ := V_b1_28
  have hin30 : ¬ ((9 : Int32) < 0 ∨ cl30.slots.size ≤ ((9 : Int32)).toNatClampNeg) := inb_of S30 ⟨by decide, by decide⟩
  obtain ⟨T31, h31, X31, e31, W31, st31⟩ := stR X29 hx hZ e29 Ar30 (j := (9 : Int32)) hin30 rfl (Sto.ofV Ar30 q30 Ov1 (Ins.self (E_w_SNAPSHOT_DELETE.ext O28.2))) (g := (mkF m 68 #[.val (.int p0), .unset, .unset, .unset, .unset] [(.ref w_SNAPSHOT_DELETE), (.int (9 : Int32)), (.ref b1), (.ref b1)])) rfl rfl (hb hby at_68)
  have N31 := Fr.snoc X31 N28 g_b1
  have O31 := O28.wr W31 g_b1
  have K31 : Keep h0 h31 [] := K28.wr W31 (Or.inr sz_b1)
  have V_b1_31 : Arv Z h31 b1 k1 (.object "com/example/ratebook/ratebook/model/EventType") (12 : Int32) [(.ref w_PLATFORM_DEPLOY), (.ref w_PLATFORM_DELETE), (.ref w_SERVER_DEPLOY), (.ref w_SERVER_START), (.ref w_SERVER_STOP), (.ref w_SERVER_DELETE), (.ref w_DISK_ATTACH), (.ref w_DISK_DETACH), (.ref w_SNAPSHOT_CREATE), (.ref w_SNAPSHOT_DELETE), .null, .null] .null := Arv.set Ar30 q30 S30 Nn30 H30 G30 rfl W31 9 rfl (Nat.le_of_ble_eq_true rfl)
  obtain ⟨T32, X32, e32, st32⟩ := getS2 X31 hx hZ hown (host := "") (Or.inl (hw _ (List.mem_of_getElem? (i := 24) rfl))) Via.refl e31 (S_w_NIC_ATTACH.ext O31.2) (g := (mkF m 72 #[.val (.int p0), .unset, .unset, .unset, .unset] [(.int (10 : Int32)), (.ref b1), (.ref b1)])) rfl (hb hby at_72)
  obtain ⟨cl33, Ar33, q33, S33, Nn33, H33, G33⟩ := V_b1_31
  have hin33 : ¬ ((10 : Int32) < 0 ∨ cl33.slots.size ≤ ((10 : Int32)).toNatClampNeg) := inb_of S33 ⟨by decide, by decide⟩
  obtain ⟨T34, h34, X34, e34, W34, st34⟩ := stR X32 hx hZ e32 Ar33 (j := (10 : Int32)) hin33 rfl (Sto.ofV Ar33 q33 Ov1 (Ins.self (E_w_NIC_ATTACH.ext O31.2))) (g := (mkF m 75 #[.val (.int p0), .unset, .unset, .unset, .unset] [(.ref w_NIC_ATTACH), (.int (10 : Int32)), (.ref b1), (.ref b1)])) rfl rfl (hb hby at_75)
  have N34 := Fr.snoc X34 N31 g_b1
  have O34 := O31.wr W34 g_b1
  have K34 : Keep h0 h34 [] := K31.wr W34 (Or.inr sz_b1)
  have V_b1_34 : Arv Z h34 b1 k1 (.object "com/example/ratebook/ratebook/model/EventType") (12 : Int32) [(.ref w_PLATFORM_DEPLOY), (.ref w_PLATFORM_DELETE), (.ref w_SERVER_DEPLOY), (.ref w_SERVER_START), (.ref w_SERVER_STOP), (.ref w_SERVER_DELETE), (.ref w_DISK_ATTACH), (.ref w_DISK_DETACH), (.ref w_SNAPSHOT_CREATE), (.ref w_SNAPSHOT_DELETE), (.ref w_NIC_ATTACH), .null] .null := Arv.set Ar33 q33 S33 Nn33 H33 G33 rfl W34 10 rfl (Nat.le_of_ble_eq_true rfl)
  obtain ⟨T35, X35, e35, st35⟩ := getS2 X34 hx hZ hown (host := "") (Or.inl (hw _ (List.mem_of_getElem? (i := 26) rfl))) Via.refl e34 (S_w_NIC_DETACH.ext O34.2) (g := (mkF m 79 #[.val (.int p0), .unset, .unset, .unset, .unset] [(.int (11 : Int32)), (.ref b1), (.ref b1)])) rfl (hb hby at_79)
  obtain ⟨cl36, Ar36, q36, S36, Nn36, H36, G36⟩ := V_b1_34
  have hin36 : ¬ ((11 : Int32) < 0 ∨ cl36.slots.size ≤ ((11 : Int32)).toNatClampNeg) := inb_of S36 ⟨by decide, by decide⟩
  obtain ⟨T37, h37, X37, e37, W37, st37⟩ := stR X35 hx hZ e35 Ar36 (j := (11 : Int32)) hin36 rfl (Sto.ofV Ar36 q36 Ov1 (Ins.self (E_w_NIC_DETACH.ext O34.2))) (g := (mkF m 82 #[.val (.int p0), .unset, .unset, .unset, .unset] [(.ref w_NIC_DETACH), (.int (11 : Int32)), (.ref b1), (.ref b1)])) rfl rfl (hb hby at_82)
  have N37 := Fr.snoc X37 N34 g_b1
  have O37 := O34.wr W37 g_b1
  have K37 : Keep h0 h37 [] := K34.wr W37 (Or.inr sz_b1)
  have V_b1_37 : Arv Z h37 b1 k1 (.object "com/example/ratebook/ratebook/model/EventType") (12 : Int32) [(.ref w_PLATFORM_DEPLOY), (.ref w_PLATFORM_DELETE), (.ref w_SERVER_DEPLOY), (.ref w_SERVER_START), (.ref w_SERVER_STOP), (.ref w_SERVER_DELETE), (.ref w_DISK_ATTACH), (.ref w_DISK_DETACH), (.ref w_SNAPSHOT_CREATE), (.ref w_SNAPSHOT_DELETE), (.ref w_NIC_ATTACH), (.ref w_NIC_DETACH)] .null := Arv.set Ar36 q36 S36 Nn36 H36 G36 rfl W37 11 rfl (Nat.le_of_ble_eq_true rfl)
  obtain ⟨cl38, Ar38, -, S38, -, H38, -⟩ := V_b1_37
  have hin38 : ¬ (((p0 &&& (2147483647 : Int32)) % (12 : Int32)) < 0 ∨ cl38.slots.size ≤ (((p0 &&& (2147483647 : Int32)) % (12 : Int32))).toNatClampNeg) := inb_of S38 (by rw [hc7]; decide)
  have hat38 : cl38.slots[(((p0 &&& (2147483647 : Int32)) % (12 : Int32))).toNatClampNeg]? = some (.ref w_DISK_ATTACH) := H38.at hin38 (by rw [hc7]; rfl)
  obtain ⟨cq39, kq39, q39a, q39b, q39c⟩ := isOf hZ e37 (E_w_DISK_ATTACH.ext O37.2)
  obtain ⟨_, _, ⟨T39, L39, k39, n39⟩, -, X39, ⟨Lc39, hQ39, l39, y39, z39⟩, st39⟩ := X37.virtualBack hx (y := y0) (z := y0) hown (mvT hZ (hw _ (List.mem_of_getElem? (i := 29) rfl))) (mvT hZ (hw _ (List.mem_of_getElem? (i := 30) rfl))) (notFace_of_selects (args := #[]) (mvT hZ (hw _ (List.mem_of_getElem? (i := 32) rfl)))) (mvT hZ (hw _ (List.mem_of_getElem? (i := 32) rfl))) (mvT hZ (hw _ (List.mem_of_getElem? (i := 31) rfl))) (by decide) (backOf (W := 0) (rm13 l Z a0 hw [] w_PLATFORM_DEPLOY w_PLATFORM_DELETE w_SERVER_DEPLOY w_SERVER_START w_SERVER_STOP w_SERVER_DELETE w_DISK_ATTACH w_DISK_DETACH w_SNAPSHOT_CREATE w_SNAPSHOT_DELETE w_NIC_ATTACH w_NIC_DETACH hp h37 n0 O37) hZ (hw _ (List.mem_of_getElem? (i := 33) rfl)) (hw _ (List.mem_of_getElem? (i := 3) rfl)) (by decide) (by decide)) q39a q39c (g := (mkF m 145 #[.val (.int p0), .val (.ref b1), .val (.int ((p0 &&& (2147483647 : Int32)) % (12 : Int32))), .val (.ref w_DISK_ATTACH), .val (.int (1 : Int32))] [(.ref w_DISK_ATTACH)])) rfl (by rw [hml]; rfl) (Steps.refl _) (argsL := []) (rest := []) (lenOf pd_0 rfl) rfl (by show 2 * 0 + _ ≤ _; exact Nat.le_of_eq rfl) (hb hby at_145) (fun _ _ => ⟨rfl, e37, (by decide : 1 + 0 ≤ _), (by decide : 12 + 0 ≤ _)⟩)
  dsimp only [Pt.U, Pt.locs, Pt.cells, Pt.slots] at X39 l39 y39 z39 st39 hQ39
  subst l39 y39 z39
  obtain ⟨rfl, Nq39, eq39⟩ := hQ39
  have N39 := Fr.app N37 Nq39
  obtain ⟨fs, hr, hrun, hended, hW, hsame⟩ := X39.leave (v := some (.int (1 : Int32))) (fun h => by rw [Bd.returns] at h; cases h)
  refine ⟨_, _, pre0 _ ?_, hrun, hended, _, _, rfl, ?_, ⟨_, rfl⟩, hW, hsame.mono (by decide) (by decide)⟩
  · show Sp p e below s₁ (mkF m 0 #[.val (.int p0), .unset, .unset, .unset, .unset] []) _
    refine XS.bipush X0.here hx rfl (hb hby at_0) ?_
    show Sp p e below s₁ (mkF m 2 #[.val (.int p0), .unset, .unset, .unset, .unset] [(.int (12 : Int32))]) _
    refine st1 _ ?_
    show Sp p e below T1 (mkF m 5 #[.val (.int p0), .unset, .unset, .unset, .unset] [(.ref b1)]) _
    refine XS.dup X1.here hx rfl (hb hby at_5) rfl rfl ?_
    show Sp p e below T1 (mkF m 6 #[.val (.int p0), .unset, .unset, .unset, .unset] [(.ref b1), (.ref b1)]) _
    refine XS.iconst X1.here hx rfl (hb hby at_6) ?_
    show Sp p e below T1 (mkF m 7 #[.val (.int p0), .unset, .unset, .unset, .unset] [(.int (0 : Int32)), (.ref b1), (.ref b1)]) _
    refine st2 _ ?_
    show Sp p e below T2 (mkF m 10 #[.val (.int p0), .unset, .unset, .unset, .unset] [(.ref w_PLATFORM_DEPLOY), (.int (0 : Int32)), (.ref b1), (.ref b1)]) _
    refine st4 _ ?_
    show Sp p e below T4 (mkF m 11 #[.val (.int p0), .unset, .unset, .unset, .unset] [(.ref b1)]) _
    refine XS.dup X4.here hx rfl (hb hby at_11) rfl rfl ?_
    show Sp p e below T4 (mkF m 12 #[.val (.int p0), .unset, .unset, .unset, .unset] [(.ref b1), (.ref b1)]) _
    refine XS.iconst X4.here hx rfl (hb hby at_12) ?_
    show Sp p e below T4 (mkF m 13 #[.val (.int p0), .unset, .unset, .unset, .unset] [(.int (1 : Int32)), (.ref b1), (.ref b1)]) _
    refine st5 _ ?_
    show Sp p e below T5 (mkF m 16 #[.val (.int p0), .unset, .unset, .unset, .unset] [(.ref w_PLATFORM_DELETE), (.int (1 : Int32)), (.ref b1), (.ref b1)]) _
    refine st7 _ ?_
    show Sp p e below T7 (mkF m 17 #[.val (.int p0), .unset, .unset, .unset, .unset] [(.ref b1)]) _
    refine XS.dup X7.here hx rfl (hb hby at_17) rfl rfl ?_
    show Sp p e below T7 (mkF m 18 #[.val (.int p0), .unset, .unset, .unset, .unset] [(.ref b1), (.ref b1)]) _
    refine XS.iconst X7.here hx rfl (hb hby at_18) ?_
    show Sp p e below T7 (mkF m 19 #[.val (.int p0), .unset, .unset, .unset, .unset] [(.int (2 : Int32)), (.ref b1), (.ref b1)]) _
    refine st8 _ ?_
    show Sp p e below T8 (mkF m 22 #[.val (.int p0), .unset, .unset, .unset, .unset] [(.ref w_SERVER_DEPLOY), (.int (2 : Int32)), (.ref b1), (.ref b1)]) _
    refine st10 _ ?_
    show Sp p e below T10 (mkF m 23 #[.val (.int p0), .unset, .unset, .unset, .unset] [(.ref b1)]) _
    refine XS.dup X10.here hx rfl (hb hby at_23) rfl rfl ?_
    show Sp p e below T10 (mkF m 24 #[.val (.int p0), .unset, .unset, .unset, .unset] [(.ref b1), (.ref b1)]) _
    refine XS.iconst X10.here hx rfl (hb hby at_24) ?_
    show Sp p e below T10 (mkF m 25 #[.val (.int p0), .unset, .unset, .unset, .unset] [(.int (3 : Int32)), (.ref b1), (.ref b1)]) _
    refine st11 _ ?_
    show Sp p e below T11 (mkF m 28 #[.val (.int p0), .unset, .unset, .unset, .unset] [(.ref w_SERVER_START), (.int (3 : Int32)), (.ref b1), (.ref b1)]) _
    refine st13 _ ?_
    show Sp p e below T13 (mkF m 29 #[.val (.int p0), .unset, .unset, .unset, .unset] [(.ref b1)]) _
    refine XS.dup X13.here hx rfl (hb hby at_29) rfl rfl ?_
    show Sp p e below T13 (mkF m 30 #[.val (.int p0), .unset, .unset, .unset, .unset] [(.ref b1), (.ref b1)]) _
    refine XS.iconst X13.here hx rfl (hb hby at_30) ?_
    show Sp p e below T13 (mkF m 31 #[.val (.int p0), .unset, .unset, .unset, .unset] [(.int (4 : Int32)), (.ref b1), (.ref b1)]) _
    refine st14 _ ?_
    show Sp p e below T14 (mkF m 34 #[.val (.int p0), .unset, .unset, .unset, .unset] [(.ref w_SERVER_STOP), (.int (4 : Int32)), (.ref b1), (.ref b1)]) _
    refine st16 _ ?_
    show Sp p e below T16 (mkF m 35 #[.val (.int p0), .unset, .unset, .unset, .unset] [(.ref b1)]) _
    refine XS.dup X16.here hx rfl (hb hby at_35) rfl rfl ?_
    show Sp p e below T16 (mkF m 36 #[.val (.int p0), .unset, .unset, .unset, .unset] [(.ref b1), (.ref b1)]) _
    refine XS.iconst X16.here hx rfl (hb hby at_36) ?_
    show Sp p e below T16 (mkF m 37 #[.val (.int p0), .unset, .unset, .unset, .unset] [(.int (5 : Int32)), (.ref b1), (.ref b1)]) _
    refine st17 _ ?_
    show Sp p e below T17 (mkF m 40 #[.val (.int p0), .unset, .unset, .unset, .unset] [(.ref w_SERVER_DELETE), (.int (5 : Int32)), (.ref b1), (.ref b1)]) _
    refine st19 _ ?_
    show Sp p e below T19 (mkF m 41 #[.val (.int p0), .unset, .unset, .unset, .unset] [(.ref b1)]) _
    refine XS.dup X19.here hx rfl (hb hby at_41) rfl rfl ?_
    show Sp p e below T19 (mkF m 42 #[.val (.int p0), .unset, .unset, .unset, .unset] [(.ref b1), (.ref b1)]) _
    refine XS.bipush X19.here hx rfl (hb hby at_42) ?_
    show Sp p e below T19 (mkF m 44 #[.val (.int p0), .unset, .unset, .unset, .unset] [(.int (6 : Int32)), (.ref b1), (.ref b1)]) _
    refine st20 _ ?_
    show Sp p e below T20 (mkF m 47 #[.val (.int p0), .unset, .unset, .unset, .unset] [(.ref w_DISK_ATTACH), (.int (6 : Int32)), (.ref b1), (.ref b1)]) _
    refine st22 _ ?_
    show Sp p e below T22 (mkF m 48 #[.val (.int p0), .unset, .unset, .unset, .unset] [(.ref b1)]) _
    refine XS.dup X22.here hx rfl (hb hby at_48) rfl rfl ?_
    show Sp p e below T22 (mkF m 49 #[.val (.int p0), .unset, .unset, .unset, .unset] [(.ref b1), (.ref b1)]) _
    refine XS.bipush X22.here hx rfl (hb hby at_49) ?_
    show Sp p e below T22 (mkF m 51 #[.val (.int p0), .unset, .unset, .unset, .unset] [(.int (7 : Int32)), (.ref b1), (.ref b1)]) _
    refine st23 _ ?_
    show Sp p e below T23 (mkF m 54 #[.val (.int p0), .unset, .unset, .unset, .unset] [(.ref w_DISK_DETACH), (.int (7 : Int32)), (.ref b1), (.ref b1)]) _
    refine st25 _ ?_
    show Sp p e below T25 (mkF m 55 #[.val (.int p0), .unset, .unset, .unset, .unset] [(.ref b1)]) _
    refine XS.dup X25.here hx rfl (hb hby at_55) rfl rfl ?_
    show Sp p e below T25 (mkF m 56 #[.val (.int p0), .unset, .unset, .unset, .unset] [(.ref b1), (.ref b1)]) _
    refine XS.bipush X25.here hx rfl (hb hby at_56) ?_
    show Sp p e below T25 (mkF m 58 #[.val (.int p0), .unset, .unset, .unset, .unset] [(.int (8 : Int32)), (.ref b1), (.ref b1)]) _
    refine st26 _ ?_
    show Sp p e below T26 (mkF m 61 #[.val (.int p0), .unset, .unset, .unset, .unset] [(.ref w_SNAPSHOT_CREATE), (.int (8 : Int32)), (.ref b1), (.ref b1)]) _
    refine st28 _ ?_
    show Sp p e below T28 (mkF m 62 #[.val (.int p0), .unset, .unset, .unset, .unset] [(.ref b1)]) _
    refine XS.dup X28.here hx rfl (hb hby at_62) rfl rfl ?_
    show Sp p e below T28 (mkF m 63 #[.val (.int p0), .unset, .unset, .unset, .unset] [(.ref b1), (.ref b1)]) _
    refine XS.bipush X28.here hx rfl (hb hby at_63) ?_
    show Sp p e below T28 (mkF m 65 #[.val (.int p0), .unset, .unset, .unset, .unset] [(.int (9 : Int32)), (.ref b1), (.ref b1)]) _
    refine st29 _ ?_
    show Sp p e below T29 (mkF m 68 #[.val (.int p0), .unset, .unset, .unset, .unset] [(.ref w_SNAPSHOT_DELETE), (.int (9 : Int32)), (.ref b1), (.ref b1)]) _
    refine st31 _ ?_
    show Sp p e below T31 (mkF m 69 #[.val (.int p0), .unset, .unset, .unset, .unset] [(.ref b1)]) _
    refine XS.dup X31.here hx rfl (hb hby at_69) rfl rfl ?_
    show Sp p e below T31 (mkF m 70 #[.val (.int p0), .unset, .unset, .unset, .unset] [(.ref b1), (.ref b1)]) _
    refine XS.bipush X31.here hx rfl (hb hby at_70) ?_
    show Sp p e below T31 (mkF m 72 #[.val (.int p0), .unset, .unset, .unset, .unset] [(.int (10 : Int32)), (.ref b1), (.ref b1)]) _
    refine st32 _ ?_
    show Sp p e below T32 (mkF m 75 #[.val (.int p0), .unset, .unset, .unset, .unset] [(.ref w_NIC_ATTACH), (.int (10 : Int32)), (.ref b1), (.ref b1)]) _
    refine st34 _ ?_
    show Sp p e below T34 (mkF m 76 #[.val (.int p0), .unset, .unset, .unset, .unset] [(.ref b1)]) _
    refine XS.dup X34.here hx rfl (hb hby at_76) rfl rfl ?_
    show Sp p e below T34 (mkF m 77 #[.val (.int p0), .unset, .unset, .unset, .unset] [(.ref b1), (.ref b1)]) _
    refine XS.bipush X34.here hx rfl (hb hby at_77) ?_
    show Sp p e below T34 (mkF m 79 #[.val (.int p0), .unset, .unset, .unset, .unset] [(.int (11 : Int32)), (.ref b1), (.ref b1)]) _
    refine st35 _ ?_
    show Sp p e below T35 (mkF m 82 #[.val (.int p0), .unset, .unset, .unset, .unset] [(.ref w_NIC_DETACH), (.int (11 : Int32)), (.ref b1), (.ref b1)]) _
    refine st37 _ ?_
    show Sp p e below T37 (mkF m 83 #[.val (.int p0), .unset, .unset, .unset, .unset] [(.ref b1)]) _
    refine XS.astoreN X37.here hx rfl (hb hby at_83) rfl rfl (l' := #[.val (.int p0), .val (.ref b1), .unset, .unset, .unset]) rfl ?_
    show Sp p e below T37 (mkF m 84 #[.val (.int p0), .val (.ref b1), .unset, .unset, .unset] []) _
    refine XS.iloadN X37.here hx rfl (hb hby at_84) rfl ?_
    show Sp p e below T37 (mkF m 85 #[.val (.int p0), .val (.ref b1), .unset, .unset, .unset] [(.int p0)]) _
    refine X37.ldcI hx hown (mvT hZ (hw _ (List.mem_of_getElem? (i := 28) rfl))) rfl (hb hby at_85) ?_
    show Sp p e below T37 (mkF m 87 #[.val (.int p0), .val (.ref b1), .unset, .unset, .unset] [(.int (2147483647 : Int32)), (.int p0)]) _
    refine XS.iand X37.here hx rfl (hb hby at_87) rfl ?_
    show Sp p e below T37 (mkF m 88 #[.val (.int p0), .val (.ref b1), .unset, .unset, .unset] [(.int (p0 &&& (2147483647 : Int32)))]) _
    refine XS.bipush X37.here hx rfl (hb hby at_88) ?_
    show Sp p e below T37 (mkF m 90 #[.val (.int p0), .val (.ref b1), .unset, .unset, .unset] [(.int (12 : Int32)), (.int (p0 &&& (2147483647 : Int32)))]) _
    refine iremM X37 hx rfl (hb hby at_90) rfl (by decide) ?_
    show Sp p e below T37 (mkF m 91 #[.val (.int p0), .val (.ref b1), .unset, .unset, .unset] [(.int ((p0 &&& (2147483647 : Int32)) % (12 : Int32)))]) _
    refine XS.istoreN X37.here hx rfl (hb hby at_91) rfl (l' := #[.val (.int p0), .val (.ref b1), .val (.int ((p0 &&& (2147483647 : Int32)) % (12 : Int32))), .unset, .unset]) rfl ?_
    show Sp p e below T37 (mkF m 92 #[.val (.int p0), .val (.ref b1), .val (.int ((p0 &&& (2147483647 : Int32)) % (12 : Int32))), .unset, .unset] []) _
    refine XS.aloadN X37.here hx rfl (hb hby at_92) rfl rfl ?_
    show Sp p e below T37 (mkF m 93 #[.val (.int p0), .val (.ref b1), .val (.int ((p0 &&& (2147483647 : Int32)) % (12 : Int32))), .unset, .unset] [(.ref b1)]) _
    refine XS.iloadN X37.here hx rfl (hb hby at_93) rfl ?_
    show Sp p e below T37 (mkF m 94 #[.val (.int p0), .val (.ref b1), .val (.int ((p0 &&& (2147483647 : Int32)) % (12 : Int32))), .unset, .unset] [(.int ((p0 &&& (2147483647 : Int32)) % (12 : Int32))), (.ref b1)]) _
    refine X37.aaload hx (j := ((p0 &&& (2147483647 : Int32)) % (12 : Int32))) (v := (.ref w_DISK_ATTACH)) (by rw [e37]; exact Ar38.1) (State.isArrayOf_alike hZ.alike Ar38.2.1) rfl Ar38.2.2 hin38 hat38 (g := (mkF m 94 #[.val (.int p0), .val (.ref b1), .val (.int ((p0 &&& (2147483647 : Int32)) % (12 : Int32))), .unset, .unset] [(.int ((p0 &&& (2147483647 : Int32)) % (12 : Int32))), (.ref b1)])) rfl rfl (hb hby at_94) _ ?_
    show Sp p e below T37 (mkF m 95 #[.val (.int p0), .val (.ref b1), .val (.int ((p0 &&& (2147483647 : Int32)) % (12 : Int32))), .unset, .unset] [(.ref w_DISK_ATTACH)]) _
    refine XS.astoreN X37.here hx rfl (hb hby at_95) rfl rfl (l' := #[.val (.int p0), .val (.ref b1), .val (.int ((p0 &&& (2147483647 : Int32)) % (12 : Int32))), .val (.ref w_DISK_ATTACH), .unset]) rfl ?_
    show Sp p e below T37 (mkF m 96 #[.val (.int p0), .val (.ref b1), .val (.int ((p0 &&& (2147483647 : Int32)) % (12 : Int32))), .val (.ref w_DISK_ATTACH), .unset] []) _
    refine XS.iconst X37.here hx rfl (hb hby at_96) ?_
    show Sp p e below T37 (mkF m 97 #[.val (.int p0), .val (.ref b1), .val (.int ((p0 &&& (2147483647 : Int32)) % (12 : Int32))), .val (.ref w_DISK_ATTACH), .unset] [(.int (0 : Int32))]) _
    refine XS.istore X37.here hx rfl (hb hby at_97) rfl (l' := #[.val (.int p0), .val (.ref b1), .val (.int ((p0 &&& (2147483647 : Int32)) % (12 : Int32))), .val (.ref w_DISK_ATTACH), .val (.int (0 : Int32))]) rfl ?_
    show Sp p e below T37 (mkF m 99 #[.val (.int p0), .val (.ref b1), .val (.int ((p0 &&& (2147483647 : Int32)) % (12 : Int32))), .val (.ref w_DISK_ATTACH), .val (.int (0 : Int32))] []) _
    refine XS.iloadN X37.here hx rfl (hb hby at_99) rfl ?_
    show Sp p e below T37 (mkF m 100 #[.val (.int p0), .val (.ref b1), .val (.int ((p0 &&& (2147483647 : Int32)) % (12 : Int32))), .val (.ref w_DISK_ATTACH), .val (.int (0 : Int32))] [(.int ((p0 &&& (2147483647 : Int32)) % (12 : Int32)))]) _
    refine XS.bipush X37.here hx rfl (hb hby at_100) ?_
    show Sp p e below T37 (mkF m 102 #[.val (.int p0), .val (.ref b1), .val (.int ((p0 &&& (2147483647 : Int32)) % (12 : Int32))), .val (.ref w_DISK_ATTACH), .val (.int (0 : Int32))] [(.int (6 : Int32)), (.int ((p0 &&& (2147483647 : Int32)) % (12 : Int32)))]) _
    refine XS.icmpNo X37.here hx rfl (hb hby at_102) rfl (teq hc7).2 ?_
    show Sp p e below T37 (mkF m 105 #[.val (.int p0), .val (.ref b1), .val (.int ((p0 &&& (2147483647 : Int32)) % (12 : Int32))), .val (.ref w_DISK_ATTACH), .val (.int (0 : Int32))] []) _
    refine XS.iconst X37.here hx rfl (hb hby at_105) ?_
    show Sp p e below T37 (mkF m 106 #[.val (.int p0), .val (.ref b1), .val (.int ((p0 &&& (2147483647 : Int32)) % (12 : Int32))), .val (.ref w_DISK_ATTACH), .val (.int (0 : Int32))] [(.int (1 : Int32))]) _
    refine XS.istore X37.here hx rfl (hb hby at_106) rfl (l' := #[.val (.int p0), .val (.ref b1), .val (.int ((p0 &&& (2147483647 : Int32)) % (12 : Int32))), .val (.ref w_DISK_ATTACH), .val (.int (1 : Int32))]) rfl ?_
    show Sp p e below T37 (mkF m 108 #[.val (.int p0), .val (.ref b1), .val (.int ((p0 &&& (2147483647 : Int32)) % (12 : Int32))), .val (.ref w_DISK_ATTACH), .val (.int (1 : Int32))] []) _
    refine XS.goto X37.here hx rfl (pc0 := 108) (pc' := 144) rfl (hb hby at_108) (by decide) (by decide) ?_
    show Sp p e below T37 (mkF m 144 #[.val (.int p0), .val (.ref b1), .val (.int ((p0 &&& (2147483647 : Int32)) % (12 : Int32))), .val (.ref w_DISK_ATTACH), .val (.int (1 : Int32))] []) _
    refine XS.aloadN X37.here hx rfl (hb hby at_144) rfl rfl ?_
    show Sp p e below T37 (mkF m 145 #[.val (.int p0), .val (.ref b1), .val (.int ((p0 &&& (2147483647 : Int32)) % (12 : Int32))), .val (.ref w_DISK_ATTACH), .val (.int (1 : Int32))] [(.ref w_DISK_ATTACH)]) _
    refine st39.trans ?_
    show Sp p e below T39 (mkF m 148 #[.val (.int p0), .val (.ref b1), .val (.int ((p0 &&& (2147483647 : Int32)) % (12 : Int32))), .val (.ref w_DISK_ATTACH), .val (.int (1 : Int32))] [(.int (1 : Int32))]) _
    refine XS.iload X39.here hx rfl (hb hby at_148) rfl ?_
    show Sp p e below T39 (mkF m 150 #[.val (.int p0), .val (.ref b1), .val (.int ((p0 &&& (2147483647 : Int32)) % (12 : Int32))), .val (.ref w_DISK_ATTACH), .val (.int (1 : Int32))] [(.int (1 : Int32)), (.int (1 : Int32))]) _
    refine XS.icmpNo X39.here hx rfl (hb hby at_150) rfl (teq (by decide : (1 : Int32) = (1 : Int32))).2 ?_
    show Sp p e below T39 (mkF m 153 #[.val (.int p0), .val (.ref b1), .val (.int ((p0 &&& (2147483647 : Int32)) % (12 : Int32))), .val (.ref w_DISK_ATTACH), .val (.int (1 : Int32))] []) _
    refine XS.iconst X39.here hx rfl (hb hby at_153) ?_
    show Sp p e below T39 (mkF m 154 #[.val (.int p0), .val (.ref b1), .val (.int ((p0 &&& (2147483647 : Int32)) % (12 : Int32))), .val (.ref w_DISK_ATTACH), .val (.int (1 : Int32))] [(.int (1 : Int32))]) _
    refine XS.goto X39.here hx rfl (pc0 := 154) (pc' := 158) rfl (hb hby at_154) (by decide) (by decide) ?_
    show Sp p e below T39 (mkF m 158 #[.val (.int p0), .val (.ref b1), .val (.int ((p0 &&& (2147483647 : Int32)) % (12 : Int32))), .val (.ref w_DISK_ATTACH), .val (.int (1 : Int32))] [(.int (1 : Int32))]) _
    exact retN X39 hx (t := .boolean) Bd.returns (by simp) (hb hby at_158) hr
  · skip
    exact ⟨rfl, N39⟩
def Q15 (Z : State) (w_PLATFORM_DEPLOY : Addr) (w_PLATFORM_DELETE : Addr) (w_SERVER_DEPLOY : Addr) (w_SERVER_START : Addr) (w_SERVER_STOP : Addr) (w_SERVER_DELETE : Addr) (w_DISK_ATTACH : Addr) (w_DISK_DETACH : Addr) (w_SNAPSHOT_CREATE : Addr) (w_SNAPSHOT_DELETE : Addr) (w_NIC_ATTACH : Addr) (w_NIC_DETACH : Addr) (h0 : Heap) (n0 : Nat) (v : Option Value) (h : Heap) (L : List Loc) : Prop := v = some (.int (1 : Int32)) ∧ Fr n0 L ∧ h = h0
set_option maxRecDepth 65536 in
set_option maxHeartbeats 40000000 in
theorem rm15 (l : Launch) (Z : State) (a0 : Array Value) (hw : ∀ d ∈ tables_1, d.before a0 Z = true) (ws : List Jvm.Cond) (w_PLATFORM_DEPLOY w_PLATFORM_DELETE w_SERVER_DEPLOY w_SERVER_START w_SERVER_STOP w_SERVER_DELETE w_DISK_ATTACH w_DISK_DETACH w_SNAPSHOT_CREATE w_SNAPSHOT_DELETE w_NIC_ATTACH w_NIC_DETACH : Addr) (hp : Perm Z w_PLATFORM_DEPLOY w_PLATFORM_DELETE w_SERVER_DEPLOY w_SERVER_START w_SERVER_STOP w_SERVER_DELETE w_DISK_ATTACH w_DISK_DETACH w_SNAPSHOT_CREATE w_SNAPSHOT_DELETE w_NIC_ATTACH w_NIC_DETACH) (h0 : Heap) (n0 : Nat) (O0 : Old Z n0 h0) :
    MetFree l y0 (head1 (Jvm.Cond.code y0 prog_20_method_6_code 1 (some .boolean) :: ws) ({ frames := 0, cells := 0, slots := 0, locals := 0 } : Room)) (fun a U => a = #[(.ref w_DISK_DETACH)] ∧ Z.Warmed39 U.vm ∧ U.heap = h0) (fun _ _ _ _ _ => True) (fun _ U o U' => ∃ v L, o = .returned v ∧ Q15 Z w_PLATFORM_DEPLOY w_PLATFORM_DELETE w_SERVER_DEPLOY w_SERVER_START w_SERVER_STOP w_SERVER_DELETE w_DISK_ATTACH w_DISK_DETACH w_SNAPSHOT_CREATE w_SNAPSHOT_DELETE w_NIC_ATTACH w_NIC_DETACH  h0 n0 v U'.heap L ∧ FrameEnd U o U' L ({ frames := 0, cells := 0, slots := 0, locals := 0 } : Room).cells ({ frames := 0, cells := 0, slots := 0, locals := 0 } : Room).slots) := by
  refine MetFree.of_bodySF (plainFor_of_name pn_1) hisR ?_
  intro p e s m args below meth c s₁ Bd hml0 hP hK
  obtain ⟨rfl, hZ, hh⟩ := hP
  have hx := Bd.exec
  have hby := Bd.bytes
  have hml : c.maxLocals = 1 := hml0
  have hown : s.vm.findClass "com/example/ratebook/ratebook/model/EventType" = some m.cls := findClass_of_methodNamed Bd.named
  have hnm := (name_of_methodNamed Bd.named Bd.method).1
  have X0 : Stand p l e ({ frames := 0, cells := 0, slots := 0, locals := 0 } : Room) s m #[(.ref w_DISK_DETACH)] below meth c s₁ [] 0 0 := Stand.of_body Bd
  have e0 : s₁.heap = h0 := by rw [← hh, Bd.state]; rfl
  have N0 := Fr.nil n0
  have hp' := hp
  obtain ⟨S_w_PLATFORM_DEPLOY, E_w_PLATFORM_DEPLOY, S_w_PLATFORM_DELETE, E_w_PLATFORM_DELETE, S_w_SERVER_DEPLOY, E_w_SERVER_DEPLOY, S_w_SERVER_START, E_w_SERVER_START, S_w_SERVER_STOP, E_w_SERVER_STOP, S_w_SERVER_DELETE, E_w_SERVER_DELETE, S_w_DISK_ATTACH, E_w_DISK_ATTACH, S_w_DISK_DETACH, E_w_DISK_DETACH, S_w_SNAPSHOT_CREATE, E_w_SNAPSHOT_CREATE, S_w_SNAPSHOT_DELETE, E_w_SNAPSHOT_DELETE, S_w_NIC_ATTACH, E_w_NIC_ATTACH, S_w_NIC_DETACH, E_w_NIC_DETACH, F_ordinal_w_PLATFORM_DEPLOY, F_ordinal_w_DISK_ATTACH, F_ordinal_w_DISK_DETACH, F_ordinal_w_NIC_ATTACH, F_ordinal_w_NIC_DETACH, F_ordinal_w_SERVER_START, F_ordinal_w_SERVER_DEPLOY, F_ordinal_w_SERVER_STOP, F_ordinal_w_SNAPSHOT_CREATE, F_ordinal_w_PLATFORM_DELETE, F_ordinal_w_SNAPSHOT_DELETE, F_ordinal_w_SERVER_DELETE⟩ := hp'
  have pre0 : ∀ t, Steps p.tables e below (s₁.setTop (mkF m 0 #[.val (.ref w_DISK_DETACH)] [])) t → Steps p.tables e below (s₁.setTop (entryFrame m #[(.ref w_DISK_DETACH)] 1)) t := fun t k => castTop (ef_1_0 m w_DISK_DETACH) k
  obtain ⟨T1, X1, e1, st1⟩ := getS2 X0 hx hZ hown (host := "") (Or.inl (hw _ (List.mem_of_getElem? (i := 34) rfl))) Via.refl e0 (S_w_DISK_ATTACH.ext O0.2) (g := (mkF m 1 #[.val (.ref w_DISK_DETACH)] [(.ref w_DISK_DETACH)])) rfl (hb hby d1_1)
  obtain ⟨T2, X2, e2, st2⟩ := getS2 X1 hx hZ hown (host := "") (Or.inl (hw _ (List.mem_of_getElem? (i := 35) rfl))) Via.refl e1 (S_w_DISK_DETACH.ext O0.2) (g := (mkF m 8 #[.val (.ref w_DISK_DETACH)] [(.ref w_DISK_DETACH)])) rfl (hb hby d1_8)
  obtain ⟨fs, hr, hrun, hended, hW, hsame⟩ := X2.leave (v := some (.int (1 : Int32))) (fun h => by rw [Bd.returns] at h; cases h)
  refine ⟨_, _, pre0 _ ?_, hrun, hended, _, _, rfl, ?_, ⟨_, rfl⟩, hW, hsame.mono (by decide) (by decide)⟩
  · show Sp p e below s₁ (mkF m 0 #[.val (.ref w_DISK_DETACH)] []) _
    refine XS.aloadN X0.here hx rfl (hb hby d1_0) rfl rfl ?_
    show Sp p e below s₁ (mkF m 1 #[.val (.ref w_DISK_DETACH)] [(.ref w_DISK_DETACH)]) _
    refine st1 _ ?_
    show Sp p e below T1 (mkF m 4 #[.val (.ref w_DISK_DETACH)] [(.ref w_DISK_ATTACH), (.ref w_DISK_DETACH)]) _
    refine Jvm.RoadKit.acmp (g := (mkF m 4 #[.val (.ref w_DISK_DETACH)] [(.ref w_DISK_ATTACH), (.ref w_DISK_DETACH)])) X1 hx rfl rfl rfl (pc0 := 4) (pc' := 7) (same := false) rfl (hb hby d1_4) rfl (decide_eq_false fun q => (Ne.symm (ne_w_DISK_ATTACH_w_DISK_DETACH hp)) (Value.ref.inj q)) (by decide) (by decide) ?_
    show Sp p e below T1 (mkF m 7 #[.val (.ref w_DISK_DETACH)] []) _
    refine XS.aloadN X1.here hx rfl (hb hby d1_7) rfl rfl ?_
    show Sp p e below T1 (mkF m 8 #[.val (.ref w_DISK_DETACH)] [(.ref w_DISK_DETACH)]) _
    refine st2 _ ?_
    show Sp p e below T2 (mkF m 11 #[.val (.ref w_DISK_DETACH)] [(.ref w_DISK_DETACH), (.ref w_DISK_DETACH)]) _
    refine Jvm.RoadKit.acmp (g := (mkF m 11 #[.val (.ref w_DISK_DETACH)] [(.ref w_DISK_DETACH), (.ref w_DISK_DETACH)])) X2 hx rfl rfl rfl (pc0 := 11) (pc' := 28) (same := true) rfl (hb hby d1_11) rfl (decide_eq_true rfl) (by decide) (by decide) ?_
    show Sp p e below T2 (mkF m 28 #[.val (.ref w_DISK_DETACH)] []) _
    refine XS.iconst X2.here hx rfl (hb hby d1_28) ?_
    show Sp p e below T2 (mkF m 29 #[.val (.ref w_DISK_DETACH)] [(.int (1 : Int32))]) _
    refine XS.goto X2.here hx rfl (pc0 := 29) (pc' := 33) rfl (hb hby d1_29) (by decide) (by decide) ?_
    show Sp p e below T2 (mkF m 33 #[.val (.ref w_DISK_DETACH)] [(.int (1 : Int32))]) _
    exact retN X2 hx (t := .boolean) Bd.returns (by simp) (hb hby d1_33) hr
  · show Q15 Z w_PLATFORM_DEPLOY w_PLATFORM_DELETE w_SERVER_DEPLOY w_SERVER_START w_SERVER_STOP w_SERVER_DELETE w_DISK_ATTACH w_DISK_DETACH w_SNAPSHOT_CREATE w_SNAPSHOT_DELETE w_NIC_ATTACH w_NIC_DETACH  h0 n0 _ T2.heap _
    rw [e2]
    exact ⟨rfl, N0, rfl⟩
set_option maxRecDepth 65536 in
set_option maxHeartbeats 40000000 in
theorem rm16 (l : Launch) (Z : State) (a0 : Array Value) (hw : ∀ d ∈ tables_1, d.before a0 Z = true) (ws : List Jvm.Cond) (w_PLATFORM_DEPLOY w_PLATFORM_DELETE w_SERVER_DEPLOY w_SERVER_START w_SERVER_STOP w_SERVER_DELETE w_DISK_ATTACH w_DISK_DETACH w_SNAPSHOT_CREATE w_SNAPSHOT_DELETE w_NIC_ATTACH w_NIC_DETACH : Addr) (hp : Perm Z w_PLATFORM_DEPLOY w_PLATFORM_DELETE w_SERVER_DEPLOY w_SERVER_START w_SERVER_STOP w_SERVER_DELETE w_DISK_ATTACH w_DISK_DETACH w_SNAPSHOT_CREATE w_SNAPSHOT_DELETE w_NIC_ATTACH w_NIC_DETACH) (p0 : Int32) (h0 : Heap) (n0 : Nat) (O0 : Old Z n0 h0) (hc1 : ¬ (((p0 &&& (2147483647 : Int32)) % (12 : Int32)) = (0 : Int32))) (hc2 : ¬ (((p0 &&& (2147483647 : Int32)) % (12 : Int32)) = (1 : Int32))) (hc3 : ¬ (((p0 &&& (2147483647 : Int32)) % (12 : Int32)) = (2 : Int32))) (hc4 : ¬ (((p0 &&& (2147483647 : Int32)) % (12 : Int32)) = (3 : Int32))) (hc5 : ¬ (((p0 &&& (2147483647 : Int32)) % (12 : Int32)) = (4 : Int32))) (hc6 : ¬ (((p0 &&& (2147483647 : Int32)) % (12 : Int32)) = (5 : Int32))) (hc7 : ¬ (((p0 &&& (2147483647 : Int32)) % (12 : Int32)) = (6 : Int32))) (hc8 : ((p0 &&& (2147483647 : Int32)) % (12 : Int32)) = (7 : Int32)) :
    MetFree l x (head1 (Jvm.Cond.code x code maxLocals ret :: ws) room_1) (fun a U => a = #[(.int p0)] ∧ Z.Warmed39 U.vm ∧ U.heap = h0) (fun _ _ _ _ _ => True) (fun _ U o U' => ∃ v L, o = .returned v ∧ (v = some (.int (1 : Int32)) ∧ Fr n0 L) ∧ FrameEnd U o U' L 16 128) := by
  refine MetFree.of_bodySF (plainFor_of_name pn_0) hisR ?_
  intro p e s m args below meth c s₁ Bd hml0 hP hK
  obtain ⟨rfl, hZ, hh⟩ := hP
  have hx := Bd.exec
  have hby := Bd.bytes
  have hml : c.maxLocals = 5 := hml0
  have hown : s.vm.findClass "com/example/ratebook/ratebook/model/EventTypeIsAttachmentEventPinLaw" = some m.cls := findClass_of_methodNamed Bd.named
  have hnm := (name_of_methodNamed Bd.named Bd.method).1
  have X0 : Stand p l e room_1 s m #[(.int p0)] below meth c s₁ [] 0 0 := Stand.of_body Bd
  have e0 : s₁.heap = h0 := by rw [← hh, Bd.state]; rfl
  have N0 := Fr.nil n0
  have hp' := hp
  obtain ⟨S_w_PLATFORM_DEPLOY, E_w_PLATFORM_DEPLOY, S_w_PLATFORM_DELETE, E_w_PLATFORM_DELETE, S_w_SERVER_DEPLOY, E_w_SERVER_DEPLOY, S_w_SERVER_START, E_w_SERVER_START, S_w_SERVER_STOP, E_w_SERVER_STOP, S_w_SERVER_DELETE, E_w_SERVER_DELETE, S_w_DISK_ATTACH, E_w_DISK_ATTACH, S_w_DISK_DETACH, E_w_DISK_DETACH, S_w_SNAPSHOT_CREATE, E_w_SNAPSHOT_CREATE, S_w_SNAPSHOT_DELETE, E_w_SNAPSHOT_DELETE, S_w_NIC_ATTACH, E_w_NIC_ATTACH, S_w_NIC_DETACH, E_w_NIC_DETACH, F_ordinal_w_PLATFORM_DEPLOY, F_ordinal_w_DISK_ATTACH, F_ordinal_w_DISK_DETACH, F_ordinal_w_NIC_ATTACH, F_ordinal_w_NIC_DETACH, F_ordinal_w_SERVER_START, F_ordinal_w_SERVER_DEPLOY, F_ordinal_w_SERVER_STOP, F_ordinal_w_SNAPSHOT_CREATE, F_ordinal_w_PLATFORM_DELETE, F_ordinal_w_SNAPSHOT_DELETE, F_ordinal_w_SERVER_DELETE⟩ := hp'
  have pre0 : ∀ t, Steps p.tables e below (s₁.setTop (mkF m 0 #[.val (.int p0), .unset, .unset, .unset, .unset] [])) t → Steps p.tables e below (s₁.setTop (entryFrame m #[(.int p0)] maxLocals)) t := fun t k => castTop (ef_0_0 m p0) k
  obtain ⟨T1, h1, k1, X1, e1, E1, A1, EA1, Ov1, st1⟩ := newRE X0 hx hZ hown (hw _ (List.mem_of_getElem? (i := 0) rfl)) (hw _ (List.mem_of_getElem? (i := 1) rfl)) e0 (g := (mkF m 2 #[.val (.int p0), .unset, .unset, .unset, .unset] [(.int (12 : Int32))])) rfl (hb hby at_2) rfl (by decide) (cap := 12) (by decide) (by decide) (by decide) (by decide) (ad := "[Lcom/example/ratebook/ratebook/model/EventType;") (by decide)
  obtain ⟨b1, g1⟩ : ∃ z, z = h0.size := ⟨_, rfl⟩
  rw [← g1] at A1 EA1 st1
  have g_b1 : n0 ≤ b1 := Nat.le_trans (own_sz O0) (Nat.le_of_eq g1.symm)
  have sz_b1 : h0.size ≤ b1 := Nat.le_trans (Keep.refl h0 []).1 (Nat.le_of_eq g1.symm)
  have O1 := O0.ext E1
  have K1 : Keep h0 h1 [] := (Keep.refl h0 []).ext E1
  have V_b1 : Arv Z h1 b1 k1 (.object "com/example/ratebook/ratebook/model/EventType") (12 : Int32) [.null, .null, .null, .null, .null, .null, .null, .null, .null, .null, .null, .null] .null := (Arv.new A1 (by decide)).pad (pad_rep [] .null 12)
  obtain ⟨T2, X2, e2, st2⟩ := getS2 X1 hx hZ hown (host := "") (Or.inl (hw _ (List.mem_of_getElem? (i := 2) rfl))) Via.refl e1 (S_w_PLATFORM_DEPLOY.ext O1.2) (g := (mkF m 7 #[.val (.int p0), .unset, .unset, .unset, .unset] [(.int (0 : Int32)), (.ref b1), (.ref b1)])) rfl (hb hby at_7)
  obtain ⟨cl3, Ar3, q3, S3, Nn3, H3, G3⟩ := V_b1
  have hin3 : ¬ ((0 : Int32) < 0 ∨ cl3.slots.size ≤ ((0 : Int32)).toNatClampNeg) := inb_of S3 ⟨by decide, by decide⟩
  obtain ⟨T4, h4, X4, e4, W4, st4⟩ := stR X2 hx hZ e2 Ar3 (j := (0 : Int32)) hin3 rfl (Sto.ofV Ar3 q3 Ov1 (Ins.self (E_w_PLATFORM_DEPLOY.ext O1.2))) (g := (mkF m 10 #[.val (.int p0), .unset, .unset, .unset, .unset] [(.ref w_PLATFORM_DEPLOY), (.int (0 : Int32)), (.ref b1), (.ref b1)])) rfl rfl (hb hby at_10)
  have N4 := Fr.snoc X4 N0 g_b1
  have O4 := O1.wr W4 g_b1
  have K4 : Keep h0 h4 [] := K1.wr W4 (Or.inr sz_b1)
  have V_b1_4 : Arv Z h4 b1 k1 (.object "com/example/ratebook/ratebook/model/EventType") (12 : Int32) [(.ref w_PLATFORM_DEPLOY), .null, .null, .null, .null, .null, .null, .null, .null, .null, .null, .null] .null := Arv.set Ar3 q3 S3 Nn3 H3 G3 rfl W4 0 rfl (Nat.le_of_ble_eq_true rfl)
  obtain ⟨T5, X5, e5, st5⟩ := getS2 X4 hx hZ hown (host := "") (Or.inl (hw _ (List.mem_of_getElem? (i := 6) rfl))) Via.refl e4 (S_w_PLATFORM_DELETE.ext O4.2) (g := (mkF m 13 #[.val (.int p0), .unset, .unset, .unset, .unset] [(.int (1 : Int32)), (.ref b1), (.ref b1)])) rfl (hb hby at_13)
  obtain ⟨cl6, Ar6, q6, S6, Nn6, H6, G6⟩ := V_b1_4
  have hin6 : ¬ ((1 : Int32) < 0 ∨ cl6.slots.size ≤ ((1 : Int32)).toNatClampNeg) := inb_of S6 ⟨by decide, by decide⟩
  obtain ⟨T7, h7, X7, e7, W7, st7⟩ := stR X5 hx hZ e5 Ar6 (j := (1 : Int32)) hin6 rfl (Sto.ofV Ar6 q6 Ov1 (Ins.self (E_w_PLATFORM_DELETE.ext O4.2))) (g := (mkF m 16 #[.val (.int p0), .unset, .unset, .unset, .unset] [(.ref w_PLATFORM_DELETE), (.int (1 : Int32)), (.ref b1), (.ref b1)])) rfl rfl (hb hby at_16)
  have N7 := Fr.snoc X7 N4 g_b1
  have O7 := O4.wr W7 g_b1
  have K7 : Keep h0 h7 [] := K4.wr W7 (Or.inr sz_b1)
  have V_b1_7 : Arv Z h7 b1 k1 (.object "com/example/ratebook/ratebook/model/EventType") (12 : Int32) [(.ref w_PLATFORM_DEPLOY), (.ref w_PLATFORM_DELETE), .null, .null, .null, .null, .null, .null, .null, .null, .null, .null] .null := Arv.set Ar6 q6 S6 Nn6 H6 G6 rfl W7 1 rfl (Nat.le_of_ble_eq_true rfl)
  obtain ⟨T8, X8, e8, st8⟩ := getS2 X7 hx hZ hown (host := "") (Or.inl (hw _ (List.mem_of_getElem? (i := 8) rfl))) Via.refl e7 (S_w_SERVER_DEPLOY.ext O7.2) (g := (mkF m 19 #[.val (.int p0), .unset, .unset, .unset, .unset] [(.int (2 : Int32)), (.ref b1), (.ref b1)])) rfl (hb hby at_19)
  obtain ⟨cl9, Ar9, q9, S9, Nn9, H9, G9⟩ := V_b1_7
  have hin9 : ¬ ((2 : Int32) < 0 ∨ cl9.slots.size ≤ ((2 : Int32)).toNatClampNeg) := inb_of S9 ⟨by decide, by decide⟩
  obtain ⟨T10, h10, X10, e10, W10, st10⟩ := stR X8 hx hZ e8 Ar9 (j := (2 : Int32)) hin9 rfl (Sto.ofV Ar9 q9 Ov1 (Ins.self (E_w_SERVER_DEPLOY.ext O7.2))) (g := (mkF m 22 #[.val (.int p0), .unset, .unset, .unset, .unset] [(.ref w_SERVER_DEPLOY), (.int (2 : Int32)), (.ref b1), (.ref b1)])) rfl rfl (hb hby at_22)
  have N10 := Fr.snoc X10 N7 g_b1
  have O10 := O7.wr W10 g_b1
  have K10 : Keep h0 h10 [] := K7.wr W10 (Or.inr sz_b1)
  have V_b1_10 : Arv Z h10 b1 k1 (.object "com/example/ratebook/ratebook/model/EventType") (12 : Int32) [(.ref w_PLATFORM_DEPLOY), (.ref w_PLATFORM_DELETE), (.ref w_SERVER_DEPLOY), .null, .null, .null, .null, .null, .null, .null, .null, .null] .null := Arv.set Ar9 q9 S9 Nn9 H9 G9 rfl W10 2 rfl (Nat.le_of_ble_eq_true rfl)
  obtain ⟨T11, X11, e11, st11⟩ := getS2 X10 hx hZ hown (host := "") (Or.inl (hw _ (List.mem_of_getElem? (i := 10) rfl))) Via.refl e10 (S_w_SERVER_START.ext O10.2) (g := (mkF m 25 #[.val (.int p0), .unset, .unset, .unset, .unset] [(.int (3 : Int32)), (.ref b1), (.ref b1)])) rfl (hb hby at_25)
  obtain ⟨cl12, Ar12, q12, S12, Nn12, H12, G12⟩ := V_b1_10
  have hin12 : ¬ ((3 : Int32) < 0 ∨ cl12.slots.size ≤ ((3 : Int32)).toNatClampNeg) := inb_of S12 ⟨by decide, by decide⟩
  obtain ⟨T13, h13, X13, e13, W13, st13⟩ := stR X11 hx hZ e11 Ar12 (j := (3 : Int32)) hin12 rfl (Sto.ofV Ar12 q12 Ov1 (Ins.self (E_w_SERVER_START.ext O10.2))) (g := (mkF m 28 #[.val (.int p0), .unset, .unset, .unset, .unset] [(.ref w_SERVER_START), (.int (3 : Int32)), (.ref b1), (.ref b1)])) rfl rfl (hb hby at_28)
  have N13 := Fr.snoc X13 N10 g_b1
  have O13 := O10.wr W13 g_b1
  have K13 : Keep h0 h13 [] := K10.wr W13 (Or.inr sz_b1)
  have V_b1_13 : Arv Z h13 b1 k1 (.object "com/example/ratebook/ratebook/model/EventType") (12 : Int32) [(.ref w_PLATFORM_DEPLOY), (.ref w_PLATFORM_DELETE), (.ref w_SERVER_DEPLOY), (.ref w_SERVER_START), .null, .null, .null, .null, .null, .null, .null, .null] .null := Arv.set Ar12 q12 S12 Nn12 H12 G12 rfl W13 3 rfl (Nat.le_of_ble_eq_true rfl)
  obtain ⟨T14, X14, e14, st14⟩ := getS2 X13 hx hZ hown (host := "") (Or.inl (hw _ (List.mem_of_getElem? (i := 12) rfl))) Via.refl e13 (S_w_SERVER_STOP.ext O13.2) (g := (mkF m 31 #[.val (.int p0), .unset, .unset, .unset, .unset] [(.int (4 : Int32)), (.ref b1), (.ref b1)])) rfl (hb hby at_31)
  obtain ⟨cl15, Ar15, q15, S15, Nn15, H15, G15⟩ := V_b1_13
  have hin15 : ¬ ((4 : Int32) < 0 ∨ cl15.slots.size ≤ ((4 : Int32)).toNatClampNeg) := inb_of S15 ⟨by decide, by decide⟩
  obtain ⟨T16, h16, X16, e16, W16, st16⟩ := stR X14 hx hZ e14 Ar15 (j := (4 : Int32)) hin15 rfl (Sto.ofV Ar15 q15 Ov1 (Ins.self (E_w_SERVER_STOP.ext O13.2))) (g := (mkF m 34 #[.val (.int p0), .unset, .unset, .unset, .unset] [(.ref w_SERVER_STOP), (.int (4 : Int32)), (.ref b1), (.ref b1)])) rfl rfl (hb hby at_34)
  have N16 := Fr.snoc X16 N13 g_b1
  have O16 := O13.wr W16 g_b1
  have K16 : Keep h0 h16 [] := K13.wr W16 (Or.inr sz_b1)
  have V_b1_16 : Arv Z h16 b1 k1 (.object "com/example/ratebook/ratebook/model/EventType") (12 : Int32) [(.ref w_PLATFORM_DEPLOY), (.ref w_PLATFORM_DELETE), (.ref w_SERVER_DEPLOY), (.ref w_SERVER_START), (.ref w_SERVER_STOP), .null, .null, .null, .null, .null, .null, .null] .null := Arv.set Ar15 q15 S15 Nn15 H15 G15 rfl W16 4 rfl (Nat.le_of_ble_eq_true rfl)
  obtain ⟨T17, X17, e17, st17⟩ := getS2 X16 hx hZ hown (host := "") (Or.inl (hw _ (List.mem_of_getElem? (i := 14) rfl))) Via.refl e16 (S_w_SERVER_DELETE.ext O16.2) (g := (mkF m 37 #[.val (.int p0), .unset, .unset, .unset, .unset] [(.int (5 : Int32)), (.ref b1), (.ref b1)])) rfl (hb hby at_37)
  obtain ⟨cl18, Ar18, q18, S18, Nn18, H18, G18⟩ := V_b1_16
  have hin18 : ¬ ((5 : Int32) < 0 ∨ cl18.slots.size ≤ ((5 : Int32)).toNatClampNeg) := inb_of S18 ⟨by decide, by decide⟩
  obtain ⟨T19, h19, X19, e19, W19, st19⟩ := stR X17 hx hZ e17 Ar18 (j := (5 : Int32)) hin18 rfl (Sto.ofV Ar18 q18 Ov1 (Ins.self (E_w_SERVER_DELETE.ext O16.2))) (g := (mkF m 40 #[.val (.int p0), .unset, .unset, .unset, .unset] [(.ref w_SERVER_DELETE), (.int (5 : Int32)), (.ref b1), (.ref b1)])) rfl rfl (hb hby at_40)
  have N19 := Fr.snoc X19 N16 g_b1
  have O19 := O16.wr W19 g_b1
  have K19 : Keep h0 h19 [] := K16.wr W19 (Or.inr sz_b1)
  have V_b1_19 : Arv Z h19 b1 k1 (.object "com/example/ratebook/ratebook/model/EventType") (12 : Int32) [(.ref w_PLATFORM_DEPLOY), (.ref w_PLATFORM_DELETE), (.ref w_SERVER_DEPLOY), (.ref w_SERVER_START), (.ref w_SERVER_STOP), (.ref w_SERVER_DELETE), .null, .null, .null, .null, .null, .null] .null := Arv.set Ar18 q18 S18 Nn18 H18 G18 rfl W19 5 rfl (Nat.le_of_ble_eq_true rfl)
  obtain ⟨T20, X20, e20, st20⟩ := getS2 X19 hx hZ hown (host := "") (Or.inl (hw _ (List.mem_of_getElem? (i := 16) rfl))) Via.refl e19 (S_w_DISK_ATTACH.ext O19.2) (g := (mkF m 44 #[.val (.int p0), .unset, .unset, .unset, .unset] [(.int (6 : Int32)), (.ref b1), (.ref b1)])) rfl (hb hby at_44)
  obtain ⟨cl21, Ar21, q21, S21, Nn21, H21, G21⟩ := V_b1_19
  have hin21 : ¬ ((6 : Int32) < 0 ∨ cl21.slots.size ≤ ((6 : Int32)).toNatClampNeg) := inb_of S21 ⟨by decide, by decide⟩
  obtain ⟨T22, h22, X22, e22, W22, st22⟩ := stR X20 hx hZ e20 Ar21 (j := (6 : Int32)) hin21 rfl (Sto.ofV Ar21 q21 Ov1 (Ins.self (E_w_DISK_ATTACH.ext O19.2))) (g := (mkF m 47 #[.val (.int p0), .unset, .unset, .unset, .unset] [(.ref w_DISK_ATTACH), (.int (6 : Int32)), (.ref b1), (.ref b1)])) rfl rfl (hb hby at_47)
  have N22 := Fr.snoc X22 N19 g_b1
  have O22 := O19.wr W22 g_b1
  have K22 : Keep h0 h22 [] := K19.wr W22 (Or.inr sz_b1)
  have V_b1_22 : Arv Z h22 b1 k1 (.object "com/example/ratebook/ratebook/model/EventType") (12 : Int32) [(.ref w_PLATFORM_DEPLOY), (.ref w_PLATFORM_DELETE), (.ref w_SERVER_DEPLOY), (.ref w_SERVER_START), (.ref w_SERVER_STOP), (.ref w_SERVER_DELETE), (.ref w_DISK_ATTACH), .null, .null, .null, .null, .null] .null := Arv.set Ar21 q21 S21 Nn21 H21 G21 rfl W22 6 rfl (Nat.le_of_ble_eq_true rfl)
  obtain ⟨T23, X23, e23, st23⟩ := getS2 X22 hx hZ hown (host := "") (Or.inl (hw _ (List.mem_of_getElem? (i := 18) rfl))) Via.refl e22 (S_w_DISK_DETACH.ext O22.2) (g := (mkF m 51 #[.val (.int p0), .unset, .unset, .unset, .unset] [(.int (7 : Int32)), (.ref b1), (.ref b1)])) rfl (hb hby at_51)
  obtain ⟨cl24, Ar24, q24, S24, Nn24, H24, G24⟩ := V_b1_22
  have hin24 : ¬ ((7 : Int32) < 0 ∨ cl24.slots.size ≤ ((7 : Int32)).toNatClampNeg) := inb_of S24 ⟨by decide, by decide⟩
  obtain ⟨T25, h25, X25, e25, W25, st25⟩ := stR X23 hx hZ e23 Ar24 (j := (7 : Int32)) hin24 rfl (Sto.ofV Ar24 q24 Ov1 (Ins.self (E_w_DISK_DETACH.ext O22.2))) (g := (mkF m 54 #[.val (.int p0), .unset, .unset, .unset, .unset] [(.ref w_DISK_DETACH), (.int (7 : Int32)), (.ref b1), (.ref b1)])) rfl rfl (hb hby at_54)
  have N25 := Fr.snoc X25 N22 g_b1
  have O25 := O22.wr W25 g_b1
  have K25 : Keep h0 h25 [] := K22.wr W25 (Or.inr sz_b1)
  have V_b1_25 : Arv Z h25 b1 k1 (.object "com/example/ratebook/ratebook/model/EventType") (12 : Int32) [(.ref w_PLATFORM_DEPLOY), (.ref w_PLATFORM_DELETE), (.ref w_SERVER_DEPLOY), (.ref w_SERVER_START), (.ref w_SERVER_STOP), (.ref w_SERVER_DELETE), (.ref w_DISK_ATTACH), (.ref w_DISK_DETACH), .null, .null, .null, .null] .null := Arv.set Ar24 q24 S24 Nn24 H24 G24 rfl W25 7 rfl (Nat.le_of_ble_eq_true rfl)
  obtain ⟨T26, X26, e26, st26⟩ := getS2 X25 hx hZ hown (host := "") (Or.inl (hw _ (List.mem_of_getElem? (i := 20) rfl))) Via.refl e25 (S_w_SNAPSHOT_CREATE.ext O25.2) (g := (mkF m 58 #[.val (.int p0), .unset, .unset, .unset, .unset] [(.int (8 : Int32)), (.ref b1), (.ref b1)])) rfl (hb hby at_58)
  obtain ⟨cl27, Ar27, q27, S27, Nn27, H27, G27⟩ := V_b1_25
  have hin27 : ¬ ((8 : Int32) < 0 ∨ cl27.slots.size ≤ ((8 : Int32)).toNatClampNeg) := inb_of S27 ⟨by decide, by decide⟩
  obtain ⟨T28, h28, X28, e28, W28, st28⟩ := stR X26 hx hZ e26 Ar27 (j := (8 : Int32)) hin27 rfl (Sto.ofV Ar27 q27 Ov1 (Ins.self (E_w_SNAPSHOT_CREATE.ext O25.2))) (g := (mkF m 61 #[.val (.int p0), .unset, .unset, .unset, .unset] [(.ref w_SNAPSHOT_CREATE), (.int (8 : Int32)), (.ref b1), (.ref b1)])) rfl rfl (hb hby at_61)
  have N28 := Fr.snoc X28 N25 g_b1
  have O28 := O25.wr W28 g_b1
  have K28 : Keep h0 h28 [] := K25.wr W28 (Or.inr sz_b1)
  have V_b1_28 : Arv Z h28 b1 k1 (.object "com/example/ratebook/ratebook/model/EventType") (12 : Int32) [(.ref w_PLATFORM_DEPLOY), (.ref w_PLATFORM_DELETE), (.ref w_SERVER_DEPLOY), (.ref w_SERVER_START), (.ref w_SERVER_STOP), (.ref w_SERVER_DELETE), (.ref w_DISK_ATTACH), (.ref w_DISK_DETACH), (.ref w_SNAPSHOT_CREATE), .null, .null, .null] .null := Arv.set Ar27 q27 S27 Nn27 H27 G27 rfl W28 8 rfl (Nat.le_of_ble_eq_true rfl)
  obtain ⟨T29, X29, e29, st29⟩ := getS2 X28 hx hZ hown (host := "") (Or.inl (hw _ (List.mem_of_getElem? (i := 22) rfl))) Via.refl e28 (S_w_SNAPSHOT_DELETE.ext O28.2) (g := (mkF m 65 #[.val (.int p0), .unset, .unset, .unset, .unset] [(.int (9 : Int32)), (.ref b1), (.ref b1)])) rfl (hb hby at_65)
  obtain ⟨cl30, Ar30, q30, S30, Nn30, H30, G30⟩ := V_b1_28
  have hin30 : ¬ ((9 : Int32) < 0 ∨ cl30.slots.size ≤ ((9 : Int32)).toNatClampNeg) := inb_of S30 ⟨by decide, by decide⟩
  obtain ⟨T31, h31, X31, e31, W31, st31⟩ := stR X29 hx hZ e29 Ar30 (j := (9 : Int32)) hin30 rfl (Sto.ofV Ar30 q30 Ov1 (Ins.self (E_w_SNAPSHOT_DELETE.ext O28.2))) (g := (mkF m 68 #[.val (.int p0), .unset, .unset, .unset, .unset] [(.ref w_SNAPSHOT_DELETE), (.int (9 : Int32)), (.ref b1), (.ref b1)])) rfl rfl (hb hby at_68)
  have N31 := Fr.snoc X31 N28 g_b1
  have O31 := O28.wr W31 g_b1
  have K31 : Keep h0 h31 [] := K28.wr W31 (Or.inr sz_b1)
  have V_b1_31 : Arv Z h31 b1 k1 (.object "com/example/ratebook/ratebook/model/EventType") (12 : Int32) [(.ref w_PLATFORM_DEPLOY), (.ref w_PLATFORM_DELETE), (.ref w_SERVER_DEPLOY), (.ref w_SERVER_START), (.ref w_SERVER_STOP), (.ref w_SERVER_DELETE), (.ref w_DISK_ATTACH), (.ref w_DISK_DETACH), (.ref w_SNAPSHOT_CREATE), (.ref w_SNAPSHOT_DELETE), .null, .null] .null := Arv.set Ar30 q30 S30 Nn30 H30 G30 rfl W31 9 rfl (Nat.le_of_ble_eq_true rfl)
  obtain ⟨T32, X32, e32, st32⟩ := getS2 X31 hx hZ hown (host := "") (Or.inl (hw _ (List.mem_of_getElem? (i := 24) rfl))) Via.refl e31 (S_w_NIC_ATTACH.ext O31.2) (g := (mkF m 72 #[.val (.int p0), .unset, .unset, .unset, .unset] [(.int (10 : Int32)), (.ref b1), (.ref b1)])) rfl (hb hby at_72)
  obtain ⟨cl33, Ar33, q33, S33, Nn33, H33, G33⟩ := V_b1_31
  have hin33 : ¬ ((10 : Int32) < 0 ∨ cl33.slots.size ≤ ((10 : Int32)).toNatClampNeg) := inb_of S33 ⟨by decide, by decide⟩
  obtain ⟨T34, h34, X34, e34, W34, st34⟩ := stR X32 hx hZ e32 Ar33 (j := (10 : Int32)) hin33 rfl (Sto.ofV Ar33 q33 Ov1 (Ins.self (E_w_NIC_ATTACH.ext O31.2))) (g := (mkF m 75 #[.val (.int p0), .unset, .unset, .unset, .unset] [(.ref w_NIC_ATTACH), (.int (10 : Int32)), (.ref b1), (.ref b1)])) rfl rfl (hb hby at_75)
  have N34 := Fr.snoc X34 N31 g_b1
  have O34 := O31.wr W34 g_b1
  have K34 : Keep h0 h34 [] := K31.wr W34 (Or.inr sz_b1)
  have V_b1_34 : Arv Z h34 b1 k1 (.object "com/example/ratebook/ratebook/model/EventType") (12 : Int32) [(.ref w_PLATFORM_DEPLOY), (.ref w_PLATFORM_DELETE), (.ref w_SERVER_DEPLOY), (.ref w_SERVER_START), (.ref w_SERVER_STOP), (.ref w_SERVER_DELETE), (.ref w_DISK_ATTACH), (.ref w_DISK_DETACH), (.ref w_SNAPSHOT_CREATE), (.ref w_SNAPSHOT_DELETE), (.ref w_NIC_ATTACH), .null] .null := Arv.set Ar33 q33 S33 Nn33 H33 G33 rfl W34 10 rfl (Nat.le_of_ble_eq_true rfl)
  obtain ⟨T35, X35, e35, st35⟩ := getS2 X34 hx hZ hown (host := "") (Or.inl (hw _ (List.mem_of_getElem? (i := 26) rfl))) Via.refl e34 (S_w_NIC_DETACH.ext O34.2) (g := (mkF m 79 #[.val (.int p0), .unset, .unset, .unset, .unset] [(.int (11 : Int32)), (.ref b1), (.ref b1)])) rfl (hb hby at_79)
  obtain ⟨cl36, Ar36, q36, S36, Nn36, H36, G36⟩ := V_b1_34
  have hin36 : ¬ ((11 : Int32) < 0 ∨ cl36.slots.size ≤ ((11 : Int32)).toNatClampNeg) := inb_of S36 ⟨by decide, by decide⟩
  obtain ⟨T37, h37, X37, e37, W37, st37⟩ := stR X35 hx hZ e35 Ar36 (j := (11 : Int32)) hin36 rfl (Sto.ofV Ar36 q36 Ov1 (Ins.self (E_w_NIC_DETACH.ext O34.2))) (g := (mkF m 82 #[.val (.int p0), .unset, .unset, .unset, .unset] [(.ref w_NIC_DETACH), (.int (11 : Int32)), (.ref b1), (.ref b1)])) rfl rfl (hb hby at_82)
  have N37 := Fr.snoc X37 N34 g_b1
  have O37 := O34.wr W37 g_b1
  have K37 : Keep h0 h37 [] := K34.wr W37 (Or.inr sz_b1)
  have V_b1_37 : Arv Z h37 b1 k1 (.object "com/example/ratebook/ratebook/model/EventType") (12 : Int32) [(.ref w_PLATFORM_DEPLOY), (.ref w_PLATFORM_DELETE), (.ref w_SERVER_DEPLOY), (.ref w_SERVER_START), (.ref w_SERVER_STOP), (.ref w_SERVER_DELETE), (.ref w_DISK_ATTACH), (.ref w_DISK_DETACH), (.ref w_SNAPSHOT_CREATE), (.ref w_SNAPSHOT_DELETE), (.ref w_NIC_ATTACH), (.ref w_NIC_DETACH)] .null := Arv.set Ar36 q36 S36 Nn36 H36 G36 rfl W37 11 rfl (Nat.le_of_ble_eq_true rfl)
  obtain ⟨cl38, Ar38, -, S38, -, H38, -⟩ := V_b1_37
  have hin38 : ¬ (((p0 &&& (2147483647 : Int32)) % (12 : Int32)) < 0 ∨ cl38.slots.size ≤ (((p0 &&& (2147483647 : Int32)) % (12 : Int32))).toNatClampNeg) := inb_of S38 (by rw [hc8]; decide)
  have hat38 : cl38.slots[(((p0 &&& (2147483647 : Int32)) % (12 : Int32))).toNatClampNeg]? = some (.ref w_DISK_DETACH) := H38.at hin38 (by rw [hc8]; rfl)
  obtain ⟨cq39, kq39, q39a, q39b, q39c⟩ := isOf hZ e37 (E_w_DISK_DETACH.ext O37.2)
  obtain ⟨_, _, ⟨T39, L39, k39, n39⟩, -, X39, ⟨Lc39, hQ39, l39, y39, z39⟩, st39⟩ := X37.virtualBack hx (y := y0) (z := y0) hown (mvT hZ (hw _ (List.mem_of_getElem? (i := 29) rfl))) (mvT hZ (hw _ (List.mem_of_getElem? (i := 30) rfl))) (notFace_of_selects (args := #[]) (mvT hZ (hw _ (List.mem_of_getElem? (i := 32) rfl)))) (mvT hZ (hw _ (List.mem_of_getElem? (i := 32) rfl))) (mvT hZ (hw _ (List.mem_of_getElem? (i := 31) rfl))) (by decide) (backOf (W := 0) (rm15 l Z a0 hw [] w_PLATFORM_DEPLOY w_PLATFORM_DELETE w_SERVER_DEPLOY w_SERVER_START w_SERVER_STOP w_SERVER_DELETE w_DISK_ATTACH w_DISK_DETACH w_SNAPSHOT_CREATE w_SNAPSHOT_DELETE w_NIC_ATTACH w_NIC_DETACH hp h37 n0 O37) hZ (hw _ (List.mem_of_getElem? (i := 33) rfl)) (hw _ (List.mem_of_getElem? (i := 3) rfl)) (by decide) (by decide)) q39a q39c (g := (mkF m 145 #[.val (.int p0), .val (.ref b1), .val (.int ((p0 &&& (2147483647 : Int32)) % (12 : Int32))), .val (.ref w_DISK_DETACH), .val (.int (1 : Int32))] [(.ref w_DISK_DETACH)])) rfl (by rw [hml]; rfl) (Steps.refl _) (argsL := []) (rest := []) (lenOf pd_0 rfl) rfl (by show 2 * 0 + _ ≤ _; exact Nat.le_of_eq rfl) (hb hby at_145) (fun _ _ => ⟨rfl, e37, (by decide : 1 + 0 ≤ _), (by decide : 12 + 0 ≤ _)⟩)
  dsimp only [Pt.U, Pt.locs, Pt.cells, Pt.slots] at X39 l39 y39 z39 st39 hQ39
  subst l39 y39 z39
  obtain ⟨rfl, Nq39, eq39⟩ := hQ39
  have N39 := Fr.app N37 Nq39
  obtain ⟨fs, hr, hrun, hended, hW, hsame⟩ := X39.leave (v := some (.int (1 : Int32))) (fun h => by rw [Bd.returns] at h; cases h)
  refine ⟨_, _, pre0 _ ?_, hrun, hended, _, _, rfl, ?_, ⟨_, rfl⟩, hW, hsame.mono (by decide) (by decide)⟩
  · show Sp p e below s₁ (mkF m 0 #[.val (.int p0), .unset, .unset, .unset, .unset] []) _
    refine XS.bipush X0.here hx rfl (hb hby at_0) ?_
    show Sp p e below s₁ (mkF m 2 #[.val (.int p0), .unset, .unset, .unset, .unset] [(.int (12 : Int32))]) _
    refine st1 _ ?_
    show Sp p e below T1 (mkF m 5 #[.val (.int p0), .unset, .unset, .unset, .unset] [(.ref b1)]) _
    refine XS.dup X1.here hx rfl (hb hby at_5) rfl rfl ?_
    show Sp p e below T1 (mkF m 6 #[.val (.int p0), .unset, .unset, .unset, .unset] [(.ref b1), (.ref b1)]) _
    refine XS.iconst X1.here hx rfl (hb hby at_6) ?_
    show Sp p e below T1 (mkF m 7 #[.val (.int p0), .unset, .unset, .unset, .unset] [(.int (0 : Int32)), (.ref b1), (.ref b1)]) _
    refine st2 _ ?_
    show Sp p e below T2 (mkF m 10 #[.val (.int p0), .unset, .unset, .unset, .unset] [(.ref w_PLATFORM_DEPLOY), (.int (0 : Int32)), (.ref b1), (.ref b1)]) _
    refine st4 _ ?_
    show Sp p e below T4 (mkF m 11 #[.val (.int p0), .unset, .unset, .unset, .unset] [(.ref b1)]) _
    refine XS.dup X4.here hx rfl (hb hby at_11) rfl rfl ?_
    show Sp p e below T4 (mkF m 12 #[.val (.int p0), .unset, .unset, .unset, .unset] [(.ref b1), (.ref b1)]) _
    refine XS.iconst X4.here hx rfl (hb hby at_12) ?_
    show Sp p e below T4 (mkF m 13 #[.val (.int p0), .unset, .unset, .unset, .unset] [(.int (1 : Int32)), (.ref b1), (.ref b1)]) _
    refine st5 _ ?_
    show Sp p e below T5 (mkF m 16 #[.val (.int p0), .unset, .unset, .unset, .unset] [(.ref w_PLATFORM_DELETE), (.int (1 : Int32)), (.ref b1), (.ref b1)]) _
    refine st7 _ ?_
    show Sp p e below T7 (mkF m 17 #[.val (.int p0), .unset, .unset, .unset, .unset] [(.ref b1)]) _
    refine XS.dup X7.here hx rfl (hb hby at_17) rfl rfl ?_
    show Sp p e below T7 (mkF m 18 #[.val (.int p0), .unset, .unset, .unset, .unset] [(.ref b1), (.ref b1)]) _
    refine XS.iconst X7.here hx rfl (hb hby at_18) ?_
    show Sp p e below T7 (mkF m 19 #[.val (.int p0), .unset, .unset, .unset, .unset] [(.int (2 : Int32)), (.ref b1), (.ref b1)]) _
    refine st8 _ ?_
    show Sp p e below T8 (mkF m 22 #[.val (.int p0), .unset, .unset, .unset, .unset] [(.ref w_SERVER_DEPLOY), (.int (2 : Int32)), (.ref b1), (.ref b1)]) _
    refine st10 _ ?_
    show Sp p e below T10 (mkF m 23 #[.val (.int p0), .unset, .unset, .unset, .unset] [(.ref b1)]) _
    refine XS.dup X10.here hx rfl (hb hby at_23) rfl rfl ?_
    show Sp p e below T10 (mkF m 24 #[.val (.int p0), .unset, .unset, .unset, .unset] [(.ref b1), (.ref b1)]) _
    refine XS.iconst X10.here hx rfl (hb hby at_24) ?_
    show Sp p e below T10 (mkF m 25 #[.val (.int p0), .unset, .unset, .unset, .unset] [(.int (3 : Int32)), (.ref b1), (.ref b1)]) _
    refine st11 _ ?_
    show Sp p e below T11 (mkF m 28 #[.val (.int p0), .unset, .unset, .unset, .unset] [(.ref w_SERVER_START), (.int (3 : Int32)), (.ref b1), (.ref b1)]) _
    refine st13 _ ?_
    show Sp p e below T13 (mkF m 29 #[.val (.int p0), .unset, .unset, .unset, .unset] [(.ref b1)]) _
    refine XS.dup X13.here hx rfl (hb hby at_29) rfl rfl ?_
    show Sp p e below T13 (mkF m 30 #[.val (.int p0), .unset, .unset, .unset, .unset] [(.ref b1), (.ref b1)]) _
    refine XS.iconst X13.here hx rfl (hb hby at_30) ?_
    show Sp p e below T13 (mkF m 31 #[.val (.int p0), .unset, .unset, .unset, .unset] [(.int (4 : Int32)), (.ref b1), (.ref b1)]) _
    refine st14 _ ?_
    show Sp p e below T14 (mkF m 34 #[.val (.int p0), .unset, .unset, .unset, .unset] [(.ref w_SERVER_STOP), (.int (4 : Int32)), (.ref b1), (.ref b1)]) _
    refine st16 _ ?_
    show Sp p e below T16 (mkF m 35 #[.val (.int p0), .unset, .unset, .unset, .unset] [(.ref b1)]) _
    refine XS.dup X16.here hx rfl (hb hby at_35) rfl rfl ?_
    show Sp p e below T16 (mkF m 36 #[.val (.int p0), .unset, .unset, .unset, .unset] [(.ref b1), (.ref b1)]) _
    refine XS.iconst X16.here hx rfl (hb hby at_36) ?_
    show Sp p e below T16 (mkF m 37 #[.val (.int p0), .unset, .unset, .unset, .unset] [(.int (5 : Int32)), (.ref b1), (.ref b1)]) _
    refine st17 _ ?_
    show Sp p e below T17 (mkF m 40 #[.val (.int p0), .unset, .unset, .unset, .unset] [(.ref w_SERVER_DELETE), (.int (5 : Int32)), (.ref b1), (.ref b1)]) _
    refine st19 _ ?_
    show Sp p e below T19 (mkF m 41 #[.val (.int p0), .unset, .unset, .unset, .unset] [(.ref b1)]) _
    refine XS.dup X19.here hx rfl (hb hby at_41) rfl rfl ?_
    show Sp p e below T19 (mkF m 42 #[.val (.int p0), .unset, .unset, .unset, .unset] [(.ref b1), (.ref b1)]) _
    refine XS.bipush X19.here hx rfl (hb hby at_42) ?_
    show Sp p e below T19 (mkF m 44 #[.val (.int p0), .unset, .unset, .unset, .unset] [(.int (6 : Int32)), (.ref b1), (.ref b1)]) _
    refine st20 _ ?_
    show Sp p e below T20 (mkF m 47 #[.val (.int p0), .unset, .unset, .unset, .unset] [(.ref w_DISK_ATTACH), (.int (6 : Int32)), (.ref b1), (.ref b1)]) _
    refine st22 _ ?_
    show Sp p e below T22 (mkF m 48 #[.val (.int p0), .unset, .unset, .unset, .unset] [(.ref b1)]) _
    refine XS.dup X22.here hx rfl (hb hby at_48) rfl rfl ?_
    show Sp p e below T22 (mkF m 49 #[.val (.int p0), .unset, .unset, .unset, .unset] [(.ref b1), (.ref b1)]) _
    refine XS.bipush X22.here hx rfl (hb hby at_49) ?_
    show Sp p e below T22 (mkF m 51 #[.val (.int p0), .unset, .unset, .unset, .unset] [(.int (7 : Int32)), (.ref b1), (.ref b1)]) _
    refine st23 _ ?_
    show Sp p e below T23 (mkF m 54 #[.val (.int p0), .unset, .unset, .unset, .unset] [(.ref w_DISK_DETACH), (.int (7 : Int32)), (.ref b1), (.ref b1)]) _
    refine st25 _ ?_
    show Sp p e below T25 (mkF m 55 #[.val (.int p0), .unset, .unset, .unset, .unset] [(.ref b1)]) _
    refine XS.dup X25.here hx rfl (hb hby at_55) rfl rfl ?_
    show Sp p e below T25 (mkF m 56 #[.val (.int p0), .unset, .unset, .unset, .unset] [(.ref b1), (.ref b1)]) _
    refine XS.bipush X25.here hx rfl (hb hby at_56) ?_
    show Sp p e below T25 (mkF m 58 #[.val (.int p0), .unset, .unset, .unset, .unset] [(.int (8 : Int32)), (.ref b1), (.ref b1)]) _
    refine st26 _ ?_
    show Sp p e below T26 (mkF m 61 #[.val (.int p0), .unset, .unset, .unset, .unset] [(.ref w_SNAPSHOT_CREATE), (.int (8 : Int32)), (.ref b1), (.ref b1)]) _
    refine st28 _ ?_
    show Sp p e below T28 (mkF m 62 #[.val (.int p0), .unset, .unset, .unset, .unset] [(.ref b1)]) _
    refine XS.dup X28.here hx rfl (hb hby at_62) rfl rfl ?_
    show Sp p e below T28 (mkF m 63 #[.val (.int p0), .unset, .unset, .unset, .unset] [(.ref b1), (.ref b1)]) _
    refine XS.bipush X28.here hx rfl (hb hby at_63) ?_
    show Sp p e below T28 (mkF m 65 #[.val (.int p0), .unset, .unset, .unset, .unset] [(.int (9 : Int32)), (.ref b1), (.ref b1)]) _
    refine st29 _ ?_
    show Sp p e below T29 (mkF m 68 #[.val (.int p0), .unset, .unset, .unset, .unset] [(.ref w_SNAPSHOT_DELETE), (.int (9 : Int32)), (.ref b1), (.ref b1)]) _
    refine st31 _ ?_
    show Sp p e below T31 (mkF m 69 #[.val (.int p0), .unset, .unset, .unset, .unset] [(.ref b1)]) _
    refine XS.dup X31.here hx rfl (hb hby at_69) rfl rfl ?_
    show Sp p e below T31 (mkF m 70 #[.val (.int p0), .unset, .unset, .unset, .unset] [(.ref b1), (.ref b1)]) _
    refine XS.bipush X31.here hx rfl (hb hby at_70) ?_
    show Sp p e below T31 (mkF m 72 #[.val (.int p0), .unset, .unset, .unset, .unset] [(.int (10 : Int32)), (.ref b1), (.ref b1)]) _
    refine st32 _ ?_
    show Sp p e below T32 (mkF m 75 #[.val (.int p0), .unset, .unset, .unset, .unset] [(.ref w_NIC_ATTACH), (.int (10 : Int32)), (.ref b1), (.ref b1)]) _
    refine st34 _ ?_
    show Sp p e below T34 (mkF m 76 #[.val (.int p0), .unset, .unset, .unset, .unset] [(.ref b1)]) _
    refine XS.dup X34.here hx rfl (hb hby at_76) rfl rfl ?_
    show Sp p e below T34 (mkF m 77 #[.val (.int p0), .unset, .unset, .unset, .unset] [(.ref b1), (.ref b1)]) _
    refine XS.bipush X34.here hx rfl (hb hby at_77) ?_
    show Sp p e below T34 (mkF m 79 #[.val (.int p0), .unset, .unset, .unset, .unset] [(.int (11 : Int32)), (.ref b1), (.ref b1)]) _
    refine st35 _ ?_
    show Sp p e below T35 (mkF m 82 #[.val (.int p0), .unset, .unset, .unset, .unset] [(.ref w_NIC_DETACH), (.int (11 : Int32)), (.ref b1), (.ref b1)]) _
    refine st37 _ ?_
    show Sp p e below T37 (mkF m 83 #[.val (.int p0), .unset, .unset, .unset, .unset] [(.ref b1)]) _
    refine XS.astoreN X37.here hx rfl (hb hby at_83) rfl rfl (l' := #[.val (.int p0), .val (.ref b1), .unset, .unset, .unset]) rfl ?_
    show Sp p e below T37 (mkF m 84 #[.val (.int p0), .val (.ref b1), .unset, .unset, .unset] []) _
    refine XS.iloadN X37.here hx rfl (hb hby at_84) rfl ?_
    show Sp p e below T37 (mkF m 85 #[.val (.int p0), .val (.ref b1), .unset, .unset, .unset] [(.int p0)]) _
    refine X37.ldcI hx hown (mvT hZ (hw _ (List.mem_of_getElem? (i := 28) rfl))) rfl (hb hby at_85) ?_
    show Sp p e below T37 (mkF m 87 #[.val (.int p0), .val (.ref b1), .unset, .unset, .unset] [(.int (2147483647 : Int32)), (.int p0)]) _
    refine XS.iand X37.here hx rfl (hb hby at_87) rfl ?_
    show Sp p e below T37 (mkF m 88 #[.val (.int p0), .val (.ref b1), .unset, .unset, .unset] [(.int (p0 &&& (2147483647 : Int32)))]) _
    refine XS.bipush X37.here hx rfl (hb hby at_88) ?_
    show Sp p e below T37 (mkF m 90 #[.val (.int p0), .val (.ref b1), .unset, .unset, .unset] [(.int (12 : Int32)), (.int (p0 &&& (2147483647 : Int32)))]) _
    refine iremM X37 hx rfl (hb hby at_90) rfl (by decide) ?_
    show Sp p e below T37 (mkF m 91 #[.val (.int p0), .val (.ref b1), .unset, .unset, .unset] [(.int ((p0 &&& (2147483647 : Int32)) % (12 : Int32)))]) _
    refine XS.istoreN X37.here hx rfl (hb hby at_91) rfl (l' := #[.val (.int p0), .val (.ref b1), .val (.int ((p0 &&& (2147483647 : Int32)) % (12 : Int32))), .unset, .unset]) rfl ?_
    show Sp p e below T37 (mkF m 92 #[.val (.int p0), .val (.ref b1), .val (.int ((p0 &&& (2147483647 : Int32)) % (12 : Int32))), .unset, .unset] []) _
    refine XS.aloadN X37.here hx rfl (hb hby at_92) rfl rfl ?_
    show Sp p e below T37 (mkF m 93 #[.val (.int p0), .val (.ref b1), .val (.int ((p0 &&& (2147483647 : Int32)) % (12 : Int32))), .unset, .unset] [(.ref b1)]) _
    refine XS.iloadN X37.here hx rfl (hb hby at_93) rfl ?_
    show Sp p e below T37 (mkF m 94 #[.val (.int p0), .val (.ref b1), .val (.int ((p0 &&& (2147483647 : Int32)) % (12 : Int32))), .unset, .unset] [(.int ((p0 &&& (2147483647 : Int32)) % (12 : Int32))), (.ref b1)]) _
    refine X37.aaload hx (j := ((p0 &&& (2147483647 : Int32)) % (12 : Int32))) (v := (.ref w_DISK_DETACH)) (by rw [e37]; exact Ar38.1) (State.isArrayOf_alike hZ.alike Ar38.2.1) rfl Ar38.2.2 hin38 hat38 (g := (mkF m 94 #[.val (.int p0), .val (.ref b1), .val (.int ((p0 &&& (2147483647 : Int32)) % (12 : Int32))), .unset, .unset] [(.int ((p0 &&& (2147483647 : Int32)) % (12 : Int32))), (.ref b1)])) rfl rfl (hb hby at_94) _ ?_
    show Sp p e below T37 (mkF m 95 #[.val (.int p0), .val (.ref b1), .val (.int ((p0 &&& (2147483647 : Int32)) % (12 : Int32))), .unset, .unset] [(.ref w_DISK_DETACH)]) _
    refine XS.astoreN X37.here hx rfl (hb hby at_95) rfl rfl (l' := #[.val (.int p0), .val (.ref b1), .val (.int ((p0 &&& (2147483647 : Int32)) % (12 : Int32))), .val (.ref w_DISK_DETACH), .unset]) rfl ?_
    show Sp p e below T37 (mkF m 96 #[.val (.int p0), .val (.ref b1), .val (.int ((p0 &&& (2147483647 : Int32)) % (12 : Int32))), .val (.ref w_DISK_DETACH), .unset] []) _
    refine XS.iconst X37.here hx rfl (hb hby at_96) ?_
    show Sp p e below T37 (mkF m 97 #[.val (.int p0), .val (.ref b1), .val (.int ((p0 &&& (2147483647 : Int32)) % (12 : Int32))), .val (.ref w_DISK_DETACH), .unset] [(.int (0 : Int32))]) _
    refine XS.istore X37.here hx rfl (hb hby at_97) rfl (l' := #[.val (.int p0), .val (.ref b1), .val (.int ((p0 &&& (2147483647 : Int32)) % (12 : Int32))), .val (.ref w_DISK_DETACH), .val (.int (0 : Int32))]) rfl ?_
    show Sp p e below T37 (mkF m 99 #[.val (.int p0), .val (.ref b1), .val (.int ((p0 &&& (2147483647 : Int32)) % (12 : Int32))), .val (.ref w_DISK_DETACH), .val (.int (0 : Int32))] []) _
    refine XS.iloadN X37.here hx rfl (hb hby at_99) rfl ?_
    show Sp p e below T37 (mkF m 100 #[.val (.int p0), .val (.ref b1), .val (.int ((p0 &&& (2147483647 : Int32)) % (12 : Int32))), .val (.ref w_DISK_DETACH), .val (.int (0 : Int32))] [(.int ((p0 &&& (2147483647 : Int32)) % (12 : Int32)))]) _
    refine XS.bipush X37.here hx rfl (hb hby at_100) ?_
    show Sp p e below T37 (mkF m 102 #[.val (.int p0), .val (.ref b1), .val (.int ((p0 &&& (2147483647 : Int32)) % (12 : Int32))), .val (.ref w_DISK_DETACH), .val (.int (0 : Int32))] [(.int (6 : Int32)), (.int ((p0 &&& (2147483647 : Int32)) % (12 : Int32)))]) _
    refine XS.icmpYes X37.here hx rfl (pc0 := 102) (pc' := 111) rfl (hb hby at_102) rfl (feq hc7).2 (by decide) (by decide) ?_
    show Sp p e below T37 (mkF m 111 #[.val (.int p0), .val (.ref b1), .val (.int ((p0 &&& (2147483647 : Int32)) % (12 : Int32))), .val (.ref w_DISK_DETACH), .val (.int (0 : Int32))] []) _
    refine XS.iloadN X37.here hx rfl (hb hby at_111) rfl ?_
    show Sp p e below T37 (mkF m 112 #[.val (.int p0), .val (.ref b1), .val (.int ((p0 &&& (2147483647 : Int32)) % (12 : Int32))), .val (.ref w_DISK_DETACH), .val (.int (0 : Int32))] [(.int ((p0 &&& (2147483647 : Int32)) % (12 : Int32)))]) _
    refine XS.bipush X37.here hx rfl (hb hby at_112) ?_
    show Sp p e below T37 (mkF m 114 #[.val (.int p0), .val (.ref b1), .val (.int ((p0 &&& (2147483647 : Int32)) % (12 : Int32))), .val (.ref w_DISK_DETACH), .val (.int (0 : Int32))] [(.int (7 : Int32)), (.int ((p0 &&& (2147483647 : Int32)) % (12 : Int32)))]) _
    refine XS.icmpNo X37.here hx rfl (hb hby at_114) rfl (teq hc8).2 ?_
    show Sp p e below T37 (mkF m 117 #[.val (.int p0), .val (.ref b1), .val (.int ((p0 &&& (2147483647 : Int32)) % (12 : Int32))), .val (.ref w_DISK_DETACH), .val (.int (0 : Int32))] []) _
    refine XS.iconst X37.here hx rfl (hb hby at_117) ?_
    show Sp p e below T37 (mkF m 118 #[.val (.int p0), .val (.ref b1), .val (.int ((p0 &&& (2147483647 : Int32)) % (12 : Int32))), .val (.ref w_DISK_DETACH), .val (.int (0 : Int32))] [(.int (1 : Int32))]) _
    refine XS.istore X37.here hx rfl (hb hby at_118) rfl (l' := #[.val (.int p0), .val (.ref b1), .val (.int ((p0 &&& (2147483647 : Int32)) % (12 : Int32))), .val (.ref w_DISK_DETACH), .val (.int (1 : Int32))]) rfl ?_
    show Sp p e below T37 (mkF m 120 #[.val (.int p0), .val (.ref b1), .val (.int ((p0 &&& (2147483647 : Int32)) % (12 : Int32))), .val (.ref w_DISK_DETACH), .val (.int (1 : Int32))] []) _
    refine XS.goto X37.here hx rfl (pc0 := 120) (pc' := 144) rfl (hb hby at_120) (by decide) (by decide) ?_
    show Sp p e below T37 (mkF m 144 #[.val (.int p0), .val (.ref b1), .val (.int ((p0 &&& (2147483647 : Int32)) % (12 : Int32))), .val (.ref w_DISK_DETACH), .val (.int (1 : Int32))] []) _
    refine XS.aloadN X37.here hx rfl (hb hby at_144) rfl rfl ?_
    show Sp p e below T37 (mkF m 145 #[.val (.int p0), .val (.ref b1), .val (.int ((p0 &&& (2147483647 : Int32)) % (12 : Int32))), .val (.ref w_DISK_DETACH), .val (.int (1 : Int32))] [(.ref w_DISK_DETACH)]) _
    refine st39.trans ?_
    show Sp p e below T39 (mkF m 148 #[.val (.int p0), .val (.ref b1), .val (.int ((p0 &&& (2147483647 : Int32)) % (12 : Int32))), .val (.ref w_DISK_DETACH), .val (.int (1 : Int32))] [(.int (1 : Int32))]) _
    refine XS.iload X39.here hx rfl (hb hby at_148) rfl ?_
    show Sp p e below T39 (mkF m 150 #[.val (.int p0), .val (.ref b1), .val (.int ((p0 &&& (2147483647 : Int32)) % (12 : Int32))), .val (.ref w_DISK_DETACH), .val (.int (1 : Int32))] [(.int (1 : Int32)), (.int (1 : Int32))]) _
    refine XS.icmpNo X39.here hx rfl (hb hby at_150) rfl (teq (by decide : (1 : Int32) = (1 : Int32))).2 ?_
    show Sp p e below T39 (mkF m 153 #[.val (.int p0), .val (.ref b1), .val (.int ((p0 &&& (2147483647 : Int32)) % (12 : Int32))), .val (.ref w_DISK_DETACH), .val (.int (1 : Int32))] []) _
    refine XS.iconst X39.here hx rfl (hb hby at_153) ?_
    show Sp p e below T39 (mkF m 154 #[.val (.int p0), .val (.ref b1), .val (.int ((p0 &&& (2147483647 : Int32)) % (12 : Int32))), .val (.ref w_DISK_DETACH), .val (.int (1 : Int32))] [(.int (1 : Int32))]) _
    refine XS.goto X39.here hx rfl (pc0 := 154) (pc' := 158) rfl (hb hby at_154) (by decide) (by decide) ?_
    show Sp p e below T39 (mkF m 158 #[.val (.int p0), .val (.ref b1), .val (.int ((p0 &&& (2147483647 : Int32)) % (12 : Int32))), .val (.ref w_DISK_DETACH), .val (.int (1 : Int32))] [(.int (1 : Int32))]) _
    exact retN X39 hx (t := .boolean) Bd.returns (by simp) (hb hby at_158) hr
  · skip
    exact ⟨rfl, N39⟩
def Q17 (Z : State) (w_PLATFORM_DEPLOY : Addr) (w_PLATFORM_DELETE : Addr) (w_SERVER_DEPLOY : Addr) (w_SERVER_START : Addr) (w_SERVER_STOP : Addr) (w_SERVER_DELETE : Addr) (w_DISK_ATTACH : Addr) (w_DISK_DETACH : Addr) (w_SNAPSHOT_CREATE : Addr) (w_SNAPSHOT_DELETE : Addr) (w_NIC_ATTACH : Addr) (w_NIC_DETACH : Addr) (h0 : Heap) (n0 : Nat) (v : Option Value) (h : Heap) (L : List Loc) : Prop := v = some (.int (0 : Int32)) ∧ Fr n0 L ∧ h = h0
set_option maxRecDepth 65536 in
set_option maxHeartbeats 40000000 in
theorem rm17 (l : Launch) (Z : State) (a0 : Array Value) (hw : ∀ d ∈ tables_1, d.before a0 Z = true) (ws : List Jvm.Cond) (w_PLATFORM_DEPLOY w_PLATFORM_DELETE w_SERVER_DEPLOY w_SERVER_START w_SERVER_STOP w_SERVER_DELETE w_DISK_ATTACH w_DISK_DETACH w_SNAPSHOT_CREATE w_SNAPSHOT_DELETE w_NIC_ATTACH w_NIC_DETACH : Addr) (hp : Perm Z w_PLATFORM_DEPLOY w_PLATFORM_DELETE w_SERVER_DEPLOY w_SERVER_START w_SERVER_STOP w_SERVER_DELETE w_DISK_ATTACH w_DISK_DETACH w_SNAPSHOT_CREATE w_SNAPSHOT_DELETE w_NIC_ATTACH w_NIC_DETACH) (h0 : Heap) (n0 : Nat) (O0 : Old Z n0 h0) :
    MetFree l y0 (head1 (Jvm.Cond.code y0 prog_20_method_6_code 1 (some .boolean) :: ws) ({ frames := 0, cells := 0, slots := 0, locals := 0 } : Room)) (fun a U => a = #[(.ref w_SNAPSHOT_CREATE)] ∧ Z.Warmed39 U.vm ∧ U.heap = h0) (fun _ _ _ _ _ => True) (fun _ U o U' => ∃ v L, o = .returned v ∧ Q17 Z w_PLATFORM_DEPLOY w_PLATFORM_DELETE w_SERVER_DEPLOY w_SERVER_START w_SERVER_STOP w_SERVER_DELETE w_DISK_ATTACH w_DISK_DETACH w_SNAPSHOT_CREATE w_SNAPSHOT_DELETE w_NIC_ATTACH w_NIC_DETACH  h0 n0 v U'.heap L ∧ FrameEnd U o U' L ({ frames := 0, cells := 0, slots := 0, locals := 0 } : Room).cells ({ frames := 0, cells := 0, slots := 0, locals := 0 } : Room).slots) := by
  refine MetFree.of_bodySF (plainFor_of_name pn_1) hisR ?_
  intro p e s m args below meth c s₁ Bd hml0 hP hK
  obtain ⟨rfl, hZ, hh⟩ := hP
  have hx := Bd.exec
  have hby := Bd.bytes
  have hml : c.maxLocals = 1 := hml0
  have hown : s.vm.findClass "com/example/ratebook/ratebook/model/EventType" = some m.cls := findClass_of_methodNamed Bd.named
  have hnm := (name_of_methodNamed Bd.named Bd.method).1
  have X0 : Stand p l e ({ frames := 0, cells := 0, slots := 0, locals := 0 } : Room) s m #[(.ref w_SNAPSHOT_CREATE)] below meth c s₁ [] 0 0 := Stand.of_body Bd
  have e0 : s₁.heap = h0 := by rw [← hh, Bd.state]; rfl
  have N0 := Fr.nil n0
  have hp' := hp
  obtain ⟨S_w_PLATFORM_DEPLOY, E_w_PLATFORM_DEPLOY, S_w_PLATFORM_DELETE, E_w_PLATFORM_DELETE, S_w_SERVER_DEPLOY, E_w_SERVER_DEPLOY, S_w_SERVER_START, E_w_SERVER_START, S_w_SERVER_STOP, E_w_SERVER_STOP, S_w_SERVER_DELETE, E_w_SERVER_DELETE, S_w_DISK_ATTACH, E_w_DISK_ATTACH, S_w_DISK_DETACH, E_w_DISK_DETACH, S_w_SNAPSHOT_CREATE, E_w_SNAPSHOT_CREATE, S_w_SNAPSHOT_DELETE, E_w_SNAPSHOT_DELETE, S_w_NIC_ATTACH, E_w_NIC_ATTACH, S_w_NIC_DETACH, E_w_NIC_DETACH, F_ordinal_w_PLATFORM_DEPLOY, F_ordinal_w_DISK_ATTACH, F_ordinal_w_DISK_DETACH, F_ordinal_w_NIC_ATTACH, F_ordinal_w_NIC_DETACH, F_ordinal_w_SERVER_START, F_ordinal_w_SERVER_DEPLOY, F_ordinal_w_SERVER_STOP, F_ordinal_w_SNAPSHOT_CREATE, F_ordinal_w_PLATFORM_DELETE, F_ordinal_w_SNAPSHOT_DELETE, F_ordinal_w_SERVER_DELETE⟩ := hp'
  have pre0 : ∀ t, Steps p.tables e below (s₁.setTop (mkF m 0 #[.val (.ref w_SNAPSHOT_CREATE)] [])) t → Steps p.tables e below (s₁.setTop (entryFrame m #[(.ref w_SNAPSHOT_CREATE)] 1)) t := fun t k => castTop (ef_1_0 m w_SNAPSHOT_CREATE) k
  obtain ⟨T1, X1, e1, st1⟩ := getS2 X0 hx hZ hown (host := "") (Or.inl (hw _ (List.mem_of_getElem? (i := 34) rfl))) Via.refl e0 (S_w_DISK_ATTACH.ext O0.2) (g := (mkF m 1 #[.val (.ref w_SNAPSHOT_CREATE)] [(.ref w_SNAPSHOT_CREATE)])) rfl (hb hby d1_1)
  obtain ⟨T2, X2, e2, st2⟩ := getS2 X1 hx hZ hown (host := "") (Or.inl (hw _ (List.mem_of_getElem? (i := 35) rfl))) Via.refl e1 (S_w_DISK_DETACH.ext O0.2) (g := (mkF m 8 #[.val (.ref w_SNAPSHOT_CREATE)] [(.ref w_SNAPSHOT_CREATE)])) rfl (hb hby d1_8)
  obtain ⟨T3, X3, e3, st3⟩ := getS2 X2 hx hZ hown (host := "") (Or.inl (hw _ (List.mem_of_getElem? (i := 36) rfl))) Via.refl e2 (S_w_NIC_ATTACH.ext O0.2) (g := (mkF m 15 #[.val (.ref w_SNAPSHOT_CREATE)] [(.ref w_SNAPSHOT_CREATE)])) rfl (hb hby d1_15)
  obtain ⟨T4, X4, e4, st4⟩ := getS2 X3 hx hZ hown (host := "") (Or.inl (hw _ (List.mem_of_getElem? (i := 37) rfl))) Via.refl e3 (S_w_NIC_DETACH.ext O0.2) (g := (mkF m 22 #[.val (.ref w_SNAPSHOT_CREATE)] [(.ref w_SNAPSHOT_CREATE)])) rfl (hb hby d1_22)
  obtain ⟨fs, hr, hrun, hended, hW, hsame⟩ := X4.leave (v := some (.int (0 : Int32))) (fun h => by rw [Bd.returns] at h; cases h)
  refine ⟨_, _, pre0 _ ?_, hrun, hended, _, _, rfl, ?_, ⟨_, rfl⟩, hW, hsame.mono (by decide) (by decide)⟩
  · show Sp p e below s₁ (mkF m 0 #[.val (.ref w_SNAPSHOT_CREATE)] []) _
    refine XS.aloadN X0.here hx rfl (hb hby d1_0) rfl rfl ?_
    show Sp p e below s₁ (mkF m 1 #[.val (.ref w_SNAPSHOT_CREATE)] [(.ref w_SNAPSHOT_CREATE)]) _
    refine st1 _ ?_
    show Sp p e below T1 (mkF m 4 #[.val (.ref w_SNAPSHOT_CREATE)] [(.ref w_DISK_ATTACH), (.ref w_SNAPSHOT_CREATE)]) _
    refine Jvm.RoadKit.acmp (g := (mkF m 4 #[.val (.ref w_SNAPSHOT_CREATE)] [(.ref w_DISK_ATTACH), (.ref w_SNAPSHOT_CREATE)])) X1 hx rfl rfl rfl (pc0 := 4) (pc' := 7) (same := false) rfl (hb hby d1_4) rfl (decide_eq_false fun q => (Ne.symm (ne_w_DISK_ATTACH_w_SNAPSHOT_CREATE hp)) (Value.ref.inj q)) (by decide) (by decide) ?_
    show Sp p e below T1 (mkF m 7 #[.val (.ref w_SNAPSHOT_CREATE)] []) _
    refine XS.aloadN X1.here hx rfl (hb hby d1_7) rfl rfl ?_
    show Sp p e below T1 (mkF m 8 #[.val (.ref w_SNAPSHOT_CREATE)] [(.ref w_SNAPSHOT_CREATE)]) _
    refine st2 _ ?_
    show Sp p e below T2 (mkF m 11 #[.val (.ref w_SNAPSHOT_CREATE)] [(.ref w_DISK_DETACH), (.ref w_SNAPSHOT_CREATE)]) _
    refine Jvm.RoadKit.acmp (g := (mkF m 11 #[.val (.ref w_SNAPSHOT_CREATE)] [(.ref w_DISK_DETACH), (.ref w_SNAPSHOT_CREATE)])) X2 hx rfl rfl rfl (pc0 := 11) (pc' := 14) (same := false) rfl (hb hby d1_11) rfl (decide_eq_false fun q => (Ne.symm (ne_w_DISK_DETACH_w_SNAPSHOT_CREATE hp)) (Value.ref.inj q)) (by decide) (by decide) ?_
    show Sp p e below T2 (mkF m 14 #[.val (.ref w_SNAPSHOT_CREATE)] []) _
    refine XS.aloadN X2.here hx rfl (hb hby d1_14) rfl rfl ?_
    show Sp p e below T2 (mkF m 15 #[.val (.ref w_SNAPSHOT_CREATE)] [(.ref w_SNAPSHOT_CREATE)]) _
    refine st3 _ ?_
    show Sp p e below T3 (mkF m 18 #[.val (.ref w_SNAPSHOT_CREATE)] [(.ref w_NIC_ATTACH), (.ref w_SNAPSHOT_CREATE)]) _
    refine Jvm.RoadKit.acmp (g := (mkF m 18 #[.val (.ref w_SNAPSHOT_CREATE)] [(.ref w_NIC_ATTACH), (.ref w_SNAPSHOT_CREATE)])) X3 hx rfl rfl rfl (pc0 := 18) (pc' := 21) (same := false) rfl (hb hby d1_18) rfl (decide_eq_false fun q => (Ne.symm (ne_w_NIC_ATTACH_w_SNAPSHOT_CREATE hp)) (Value.ref.inj q)) (by decide) (by decide) ?_
    show Sp p e below T3 (mkF m 21 #[.val (.ref w_SNAPSHOT_CREATE)] []) _
    refine XS.aloadN X3.here hx rfl (hb hby d1_21) rfl rfl ?_
    show Sp p e below T3 (mkF m 22 #[.val (.ref w_SNAPSHOT_CREATE)] [(.ref w_SNAPSHOT_CREATE)]) _
    refine st4 _ ?_
    show Sp p e below T4 (mkF m 25 #[.val (.ref w_SNAPSHOT_CREATE)] [(.ref w_NIC_DETACH), (.ref w_SNAPSHOT_CREATE)]) _
    refine Jvm.RoadKit.acmp (g := (mkF m 25 #[.val (.ref w_SNAPSHOT_CREATE)] [(.ref w_NIC_DETACH), (.ref w_SNAPSHOT_CREATE)])) X4 hx rfl rfl rfl (pc0 := 25) (pc' := 32) (same := false) rfl (hb hby d1_25) rfl (decide_eq_false fun q => (Ne.symm (ne_w_NIC_DETACH_w_SNAPSHOT_CREATE hp)) (Value.ref.inj q)) (by decide) (by decide) ?_
    show Sp p e below T4 (mkF m 32 #[.val (.ref w_SNAPSHOT_CREATE)] []) _
    refine XS.iconst X4.here hx rfl (hb hby d1_32) ?_
    show Sp p e below T4 (mkF m 33 #[.val (.ref w_SNAPSHOT_CREATE)] [(.int (0 : Int32))]) _
    exact retN X4 hx (t := .boolean) Bd.returns (by simp) (hb hby d1_33) hr
  · show Q17 Z w_PLATFORM_DEPLOY w_PLATFORM_DELETE w_SERVER_DEPLOY w_SERVER_START w_SERVER_STOP w_SERVER_DELETE w_DISK_ATTACH w_DISK_DETACH w_SNAPSHOT_CREATE w_SNAPSHOT_DELETE w_NIC_ATTACH w_NIC_DETACH  h0 n0 _ T4.heap _
    rw [e4]
    exact ⟨rfl, N0, rfl⟩
set_option maxRecDepth 65536 in
set_option maxHeartbeats 40000000 in
theorem rm18 (l : Launch) (Z : State) (a0 : Array Value) (hw : ∀ d ∈ tables_1, d.before a0 Z = true) (ws : List Jvm.Cond) (w_PLATFORM_DEPLOY w_PLATFORM_DELETE w_SERVER_DEPLOY w_SERVER_START w_SERVER_STOP w_SERVER_DELETE w_DISK_ATTACH w_DISK_DETACH w_SNAPSHOT_CREATE w_SNAPSHOT_DELETE w_NIC_ATTACH w_NIC_DETACH : Addr) (hp : Perm Z w_PLATFORM_DEPLOY w_PLATFORM_DELETE w_SERVER_DEPLOY w_SERVER_START w_SERVER_STOP w_SERVER_DELETE w_DISK_ATTACH w_DISK_DETACH w_SNAPSHOT_CREATE w_SNAPSHOT_DELETE w_NIC_ATTACH w_NIC_DETACH) (p0 : Int32) (h0 : Heap) (n0 : Nat) (O0 : Old Z n0 h0) (hc1 : ¬ (((p0 &&& (2147483647 : Int32)) % (12 : Int32)) = (0 : Int32))) (hc2 : ¬ (((p0 &&& (2147483647 : Int32)) % (12 : Int32)) = (1 : Int32))) (hc3 : ¬ (((p0 &&& (2147483647 : Int32)) % (12 : Int32)) = (2 : Int32))) (hc4 : ¬ (((p0 &&& (2147483647 : Int32)) % (12 : Int32)) = (3 : Int32))) (hc5 : ¬ (((p0 &&& (2147483647 : Int32)) % (12 : Int32)) = (4 : Int32))) (hc6 : ¬ (((p0 &&& (2147483647 : Int32)) % (12 : Int32)) = (5 : Int32))) (hc7 : ¬ (((p0 &&& (2147483647 : Int32)) % (12 : Int32)) = (6 : Int32))) (hc8 : ¬ (((p0 &&& (2147483647 : Int32)) % (12 : Int32)) = (7 : Int32))) (hc9 : ((p0 &&& (2147483647 : Int32)) % (12 : Int32)) = (8 : Int32)) :
    MetFree l x (head1 (Jvm.Cond.code x code maxLocals ret :: ws) room_1) (fun a U => a = #[(.int p0)] ∧ Z.Warmed39 U.vm ∧ U.heap = h0) (fun _ _ _ _ _ => True) (fun _ U o U' => ∃ v L, o = .returned v ∧ (v = some (.int (1 : Int32)) ∧ Fr n0 L) ∧ FrameEnd U o U' L 16 128) := by
  refine MetFree.of_bodySF (plainFor_of_name pn_0) hisR ?_
  intro p e s m args below meth c s₁ Bd hml0 hP hK
  obtain ⟨rfl, hZ, hh⟩ := hP
  have hx := Bd.exec
  have hby := Bd.bytes
  have hml : c.maxLocals = 5 := hml0
  have hown : s.vm.findClass "com/example/ratebook/ratebook/model/EventTypeIsAttachmentEventPinLaw" = some m.cls := findClass_of_methodNamed Bd.named
  have hnm := (name_of_methodNamed Bd.named Bd.method).1
  have X0 : Stand p l e room_1 s m #[(.int p0)] below meth c s₁ [] 0 0 := Stand.of_body Bd
  have e0 : s₁.heap = h0 := by rw [← hh, Bd.state]; rfl
  have N0 := Fr.nil n0
  have hp' := hp
  obtain ⟨S_w_PLATFORM_DEPLOY, E_w_PLATFORM_DEPLOY, S_w_PLATFORM_DELETE, E_w_PLATFORM_DELETE, S_w_SERVER_DEPLOY, E_w_SERVER_DEPLOY, S_w_SERVER_START, E_w_SERVER_START, S_w_SERVER_STOP, E_w_SERVER_STOP, S_w_SERVER_DELETE, E_w_SERVER_DELETE, S_w_DISK_ATTACH, E_w_DISK_ATTACH, S_w_DISK_DETACH, E_w_DISK_DETACH, S_w_SNAPSHOT_CREATE, E_w_SNAPSHOT_CREATE, S_w_SNAPSHOT_DELETE, E_w_SNAPSHOT_DELETE, S_w_NIC_ATTACH, E_w_NIC_ATTACH, S_w_NIC_DETACH, E_w_NIC_DETACH, F_ordinal_w_PLATFORM_DEPLOY, F_ordinal_w_DISK_ATTACH, F_ordinal_w_DISK_DETACH, F_ordinal_w_NIC_ATTACH, F_ordinal_w_NIC_DETACH, F_ordinal_w_SERVER_START, F_ordinal_w_SERVER_DEPLOY, F_ordinal_w_SERVER_STOP, F_ordinal_w_SNAPSHOT_CREATE, F_ordinal_w_PLATFORM_DELETE, F_ordinal_w_SNAPSHOT_DELETE, F_ordinal_w_SERVER_DELETE⟩ := hp'
  have pre0 : ∀ t, Steps p.tables e below (s₁.setTop (mkF m 0 #[.val (.int p0), .unset, .unset, .unset, .unset] [])) t → Steps p.tables e below (s₁.setTop (entryFrame m #[(.int p0)] maxLocals)) t := fun t k => castTop (ef_0_0 m p0) k
  obtain ⟨T1, h1, k1, X1, e1, E1, A1, EA1, Ov1, st1⟩ := newRE X0 hx hZ hown (hw _ (List.mem_of_getElem? (i := 0) rfl)) (hw _ (List.mem_of_getElem? (i := 1) rfl)) e0 (g := (mkF m 2 #[.val (.int p0), .unset, .unset, .unset, .unset] [(.int (12 : Int32))])) rfl (hb hby at_2) rfl (by decide) (cap := 12) (by decide) (by decide) (by decide) (by decide) (ad := "[Lcom/example/ratebook/ratebook/model/EventType;") (by decide)
  obtain ⟨b1, g1⟩ : ∃ z, z = h0.size := ⟨_, rfl⟩
  rw [← g1] at A1 EA1 st1
  have g_b1 : n0 ≤ b1 := Nat.le_trans (own_sz O0) (Nat.le_of_eq g1.symm)
  have sz_b1 : h0.size ≤ b1 := Nat.le_trans (Keep.refl h0 []).1 (Nat.le_of_eq g1.symm)
  have O1 := O0.ext E1
  have K1 : Keep h0 h1 [] := (Keep.refl h0 []).ext E1
  have V_b1 : Arv Z h1 b1 k1 (.object "com/example/ratebook/ratebook/model/EventType") (12 : Int32) [.null, .null, .null, .null, .null, .null, .null, .null, .null, .null, .null, .null] .null := (Arv.new A1 (by decide)).pad (pad_rep [] .null 12)
  obtain ⟨T2, X2, e2, st2⟩ := getS2 X1 hx hZ hown (host := "") (Or.inl (hw _ (List.mem_of_getElem? (i := 2) rfl))) Via.refl e1 (S_w_PLATFORM_DEPLOY.ext O1.2) (g := (mkF m 7 #[.val (.int p0), .unset, .unset, .unset, .unset] [(.int (0 : Int32)), (.ref b1), (.ref b1)])) rfl (hb hby at_7)
  obtain ⟨cl3, Ar3, q3, S3, Nn3, H3, G3⟩ := V_b1
  have hin3 : ¬ ((0 : Int32) < 0 ∨ cl3.slots.size ≤ ((0 : Int32)).toNatClampNeg) := inb_of S3 ⟨by decide, by decide⟩
  obtain ⟨T4, h4, X4, e4, W4, st4⟩ := stR X2 hx hZ e2 Ar3 (j := (0 : Int32)) hin3 rfl (Sto.ofV Ar3 q3 Ov1 (Ins.self (E_w_PLATFORM_DEPLOY.ext O1.2))) (g := (mkF m 10 #[.val (.int p0), .unset, .unset, .unset, .unset] [(.ref w_PLATFORM_DEPLOY), (.int (0 : Int32)), (.ref b1), (.ref b1)])) rfl rfl (hb hby at_10)
  have N4 := Fr.snoc X4 N0 g_b1
  have O4 := O1.wr W4 g_b1
  have K4 : Keep h0 h4 [] := K1.wr W4 (Or.inr sz_b1)
  have V_b1_4 : Arv Z h4 b1 k1 (.object "com/example/ratebook/ratebook/model/EventType") (12 : Int32) [(.ref w_PLATFORM_DEPLOY), .null, .null, .null, .null, .null, .null, .null, .null, .null, .null, .null] .null := Arv.set Ar3 q3 S3 Nn3 H3 G3 rfl W4 0 rfl (Nat.le_of_ble_eq_true rfl)
  obtain ⟨T5, X5, e5, st5⟩ := getS2 X4 hx hZ hown (host := "") (Or.inl (hw _ (List.mem_of_getElem? (i := 6) rfl))) Via.refl e4 (S_w_PLATFORM_DELETE.ext O4.2) (g := (mkF m 13 #[.val (.int p0), .unset, .unset, .unset, .unset] [(.int (1 : Int32)), (.ref b1), (.ref b1)])) rfl (hb hby at_13)
  obtain ⟨cl6, Ar6, q6, S6, Nn6, H6, G6⟩ := V_b1_4
  have hin6 : ¬ ((1 : Int32) < 0 ∨ cl6.slots.size ≤ ((1 : Int32)).toNatClampNeg) := inb_of S6 ⟨by decide, by decide⟩
  obtain ⟨T7, h7, X7, e7, W7, st7⟩ := stR X5 hx hZ e5 Ar6 (j := (1 : Int32)) hin6 rfl (Sto.ofV Ar6 q6 Ov1 (Ins.self (E_w_PLATFORM_DELETE.ext O4.2))) (g := (mkF m 16 #[.val (.int p0), .unset, .unset, .unset, .unset] [(.ref w_PLATFORM_DELETE), (.int (1 : Int32)), (.ref b1), (.ref b1)])) rfl rfl (hb hby at_16)
  have N7 := Fr.snoc X7 N4 g_b1
  have O7 := O4.wr W7 g_b1
  have K7 : Keep h0 h7 [] := K4.wr W7 (Or.inr sz_b1)
  have V_b1_7 : Arv Z h7 b1 k1 (.object "com/example/ratebook/ratebook/model/EventType") (12 : Int32) [(.ref w_PLATFORM_DEPLOY), (.ref w_PLATFORM_DELETE), .null, .null, .null, .null, .null, .null, .null, .null, .null, .null] .null := Arv.set Ar6 q6 S6 Nn6 H6 G6 rfl W7 1 rfl (Nat.le_of_ble_eq_true rfl)
  obtain ⟨T8, X8, e8, st8⟩ := getS2 X7 hx hZ hown (host := "") (Or.inl (hw _ (List.mem_of_getElem? (i := 8) rfl))) Via.refl e7 (S_w_SERVER_DEPLOY.ext O7.2) (g := (mkF m 19 #[.val (.int p0), .unset, .unset, .unset, .unset] [(.int (2 : Int32)), (.ref b1), (.ref b1)])) rfl (hb hby at_19)
  obtain ⟨cl9, Ar9, q9, S9, Nn9, H9, G9⟩ := V_b1_7
  have hin9 : ¬ ((2 : Int32) < 0 ∨ cl9.slots.size ≤ ((2 : Int32)).toNatClampNeg) := inb_of S9 ⟨by decide, by decide⟩
  obtain ⟨T10, h10, X10, e10, W10, st10⟩ := stR X8 hx hZ e8 Ar9 (j := (2 : Int32)) hin9 rfl (Sto.ofV Ar9 q9 Ov1 (Ins.self (E_w_SERVER_DEPLOY.ext O7.2))) (g := (mkF m 22 #[.val (.int p0), .unset, .unset, .unset, .unset] [(.ref w_SERVER_DEPLOY), (.int (2 : Int32)), (.ref b1), (.ref b1)])) rfl rfl (hb hby at_22)
  have N10 := Fr.snoc X10 N7 g_b1
  have O10 := O7.wr W10 g_b1
  have K10 : Keep h0 h10 [] := K7.wr W10 (Or.inr sz_b1)
  have V_b1_10 : Arv Z h10 b1 k1 (.object "com/example/ratebook/ratebook/model/EventType") (12 : Int32) [(.ref w_PLATFORM_DEPLOY), (.ref w_PLATFORM_DELETE), (.ref w_SERVER_DEPLOY), .null, .null, .null, .null, .null, .null, .null, .null, .null] .null := Arv.set Ar9 q9 S9 Nn9 H9 G9 rfl W10 2 rfl (Nat.le_of_ble_eq_true rfl)
  obtain ⟨T11, X11, e11, st11⟩ := getS2 X10 hx hZ hown (host := "") (Or.inl (hw _ (List.mem_of_getElem? (i := 10) rfl))) Via.refl e10 (S_w_SERVER_START.ext O10.2) (g := (mkF m 25 #[.val (.int p0), .unset, .unset, .unset, .unset] [(.int (3 : Int32)), (.ref b1), (.ref b1)])) rfl (hb hby at_25)
  obtain ⟨cl12, Ar12, q12, S12, Nn12, H12, G12⟩ := V_b1_10
  have hin12 : ¬ ((3 : Int32) < 0 ∨ cl12.slots.size ≤ ((3 : Int32)).toNatClampNeg) := inb_of S12 ⟨by decide, by decide⟩
  obtain ⟨T13, h13, X13, e13, W13, st13⟩ := stR X11 hx hZ e11 Ar12 (j := (3 : Int32)) hin12 rfl (Sto.ofV Ar12 q12 Ov1 (Ins.self (E_w_SERVER_START.ext O10.2))) (g := (mkF m 28 #[.val (.int p0), .unset, .unset, .unset, .unset] [(.ref w_SERVER_START), (.int (3 : Int32)), (.ref b1), (.ref b1)])) rfl rfl (hb hby at_28)
  have N13 := Fr.snoc X13 N10 g_b1
  have O13 := O10.wr W13 g_b1
  have K13 : Keep h0 h13 [] := K10.wr W13 (Or.inr sz_b1)
  have V_b1_13 : Arv Z h13 b1 k1 (.object "com/example/ratebook/ratebook/model/EventType") (12 : Int32) [(.ref w_PLATFORM_DEPLOY), (.ref w_PLATFORM_DELETE), (.ref w_SERVER_DEPLOY), (.ref w_SERVER_START), .null, .null, .null, .null, .null, .null, .null, .null] .null := Arv.set Ar12 q12 S12 Nn12 H12 G12 rfl W13 3 rfl (Nat.le_of_ble_eq_true rfl)
  obtain ⟨T14, X14, e14, st14⟩ := getS2 X13 hx hZ hown (host := "") (Or.inl (hw _ (List.mem_of_getElem? (i := 12) rfl))) Via.refl e13 (S_w_SERVER_STOP.ext O13.2) (g := (mkF m 31 #[.val (.int p0), .unset, .unset, .unset, .unset] [(.int (4 : Int32)), (.ref b1), (.ref b1)])) rfl (hb hby at_31)
  obtain ⟨cl15, Ar15, q15, S15, Nn15, H15, G15⟩ := V_b1_13
  have hin15 : ¬ ((4 : Int32) < 0 ∨ cl15.slots.size ≤ ((4 : Int32)).toNatClampNeg) := inb_of S15 ⟨by decide, by decide⟩
  obtain ⟨T16, h16, X16, e16, W16, st16⟩ := stR X14 hx hZ e14 Ar15 (j := (4 : Int32)) hin15 rfl (Sto.ofV Ar15 q15 Ov1 (Ins.self (E_w_SERVER_STOP.ext O13.2))) (g := (mkF m 34 #[.val (.int p0), .unset, .unset, .unset, .unset] [(.ref w_SERVER_STOP), (.int (4 : Int32)), (.ref b1), (.ref b1)])) rfl rfl (hb hby at_34)
  have N16 := Fr.snoc X16 N13 g_b1
  have O16 := O13.wr W16 g_b1
  have K16 : Keep h0 h16 [] := K13.wr W16 (Or.inr sz_b1)
  have V_b1_16 : Arv Z h16 b1 k1 (.object "com/example/ratebook/ratebook/model/EventType") (12 : Int32) [(.ref w_PLATFORM_DEPLOY), (.ref w_PLATFORM_DELETE), (.ref w_SERVER_DEPLOY), (.ref w_SERVER_START), (.ref w_SERVER_STOP), .null, .null, .null, .null, .null, .null, .null] .null := Arv.set Ar15 q15 S15 Nn15 H15 G15 rfl W16 4 rfl (Nat.le_of_ble_eq_true rfl)
  obtain ⟨T17, X17, e17, st17⟩ := getS2 X16 hx hZ hown (host := "") (Or.inl (hw _ (List.mem_of_getElem? (i := 14) rfl))) Via.refl e16 (S_w_SERVER_DELETE.ext O16.2) (g := (mkF m 37 #[.val (.int p0), .unset, .unset, .unset, .unset] [(.int (5 : Int32)), (.ref b1), (.ref b1)])) rfl (hb hby at_37)
  obtain ⟨cl18, Ar18, q18, S18, Nn18, H18, G18⟩ := V_b1_16
  have hin18 : ¬ ((5 : Int32) < 0 ∨ cl18.slots.size ≤ ((5 : Int32)).toNatClampNeg) := inb_of S18 ⟨by decide, by decide⟩
  obtain ⟨T19, h19, X19, e19, W19, st19⟩ := stR X17 hx hZ e17 Ar18 (j := (5 : Int32)) hin18 rfl (Sto.ofV Ar18 q18 Ov1 (Ins.self (E_w_SERVER_DELETE.ext O16.2))) (g := (mkF m 40 #[.val (.int p0), .unset, .unset, .unset, .unset] [(.ref w_SERVER_DELETE), (.int (5 : Int32)), (.ref b1), (.ref b1)])) rfl rfl (hb hby at_40)
  have N19 := Fr.snoc X19 N16 g_b1
  have O19 := O16.wr W19 g_b1
  have K19 : Keep h0 h19 [] := K16.wr W19 (Or.inr sz_b1)
  have V_b1_19 : Arv Z h19 b1 k1 (.object "com/example/ratebook/ratebook/model/EventType") (12 : Int32) [(.ref w_PLATFORM_DEPLOY), (.ref w_PLATFORM_DELETE), (.ref w_SERVER_DEPLOY), (.ref w_SERVER_START), (.ref w_SERVER_STOP), (.ref w_SERVER_DELETE), .null, .null, .null, .null, .null, .null] .null := Arv.set Ar18 q18 S18 Nn18 H18 G18 rfl W19 5 rfl (Nat.le_of_ble_eq_true rfl)
  obtain ⟨T20, X20, e20, st20⟩ := getS2 X19 hx hZ hown (host := "") (Or.inl (hw _ (List.mem_of_getElem? (i := 16) rfl))) Via.refl e19 (S_w_DISK_ATTACH.ext O19.2) (g := (mkF m 44 #[.val (.int p0), .unset, .unset, .unset, .unset] [(.int (6 : Int32)), (.ref b1), (.ref b1)])) rfl (hb hby at_44)
  obtain ⟨cl21, Ar21, q21, S21, Nn21, H21, G21⟩ := V_b1_19
  have hin21 : ¬ ((6 : Int32) < 0 ∨ cl21.slots.size ≤ ((6 : Int32)).toNatClampNeg) := inb_of S21 ⟨by decide, by decide⟩
  obtain ⟨T22, h22, X22, e22, W22, st22⟩ := stR X20 hx hZ e20 Ar21 (j := (6 : Int32)) hin21 rfl (Sto.ofV Ar21 q21 Ov1 (Ins.self (E_w_DISK_ATTACH.ext O19.2))) (g := (mkF m 47 #[.val (.int p0), .unset, .unset, .unset, .unset] [(.ref w_DISK_ATTACH), (.int (6 : Int32)), (.ref b1), (.ref b1)])) rfl rfl (hb hby at_47)
  have N22 := Fr.snoc X22 N19 g_b1
  have O22 := O19.wr W22 g_b1
  have K22 : Keep h0 h22 [] := K19.wr W22 (Or.inr sz_b1)
  have V_b1_22 : Arv Z h22 b1 k1 (.object "com/example/ratebook/ratebook/model/EventType") (12 : Int32) [(.ref w_PLATFORM_DEPLOY), (.ref w_PLATFORM_DELETE), (.ref w_SERVER_DEPLOY), (.ref w_SERVER_START), (.ref w_SERVER_STOP), (.ref w_SERVER_DELETE), (.ref w_DISK_ATTACH), .null, .null, .null, .null, .null] .null := Arv.set Ar21 q21 S21 Nn21 H21 G21 rfl W22 6 rfl (Nat.le_of_ble_eq_true rfl)
  obtain ⟨T23, X23, e23, st23⟩ := getS2 X22 hx hZ hown (host := "") (Or.inl (hw _ (List.mem_of_getElem? (i := 18) rfl))) Via.refl e22 (S_w_DISK_DETACH.ext O22.2) (g := (mkF m 51 #[.val (.int p0), .unset, .unset, .unset, .unset] [(.int (7 : Int32)), (.ref b1), (.ref b1)])) rfl (hb hby at_51)
  obtain ⟨cl24, Ar24, q24, S24, Nn24, H24, G24⟩ := V_b1_22
  have hin24 : ¬ ((7 : Int32) < 0 ∨ cl24.slots.size ≤ ((7 : Int32)).toNatClampNeg) := inb_of S24 ⟨by decide, by decide⟩
  obtain ⟨T25, h25, X25, e25, W25, st25⟩ := stR X23 hx hZ e23 Ar24 (j := (7 : Int32)) hin24 rfl (Sto.ofV Ar24 q24 Ov1 (Ins.self (E_w_DISK_DETACH.ext O22.2))) (g := (mkF m 54 #[.val (.int p0), .unset, .unset, .unset, .unset] [(.ref w_DISK_DETACH), (.int (7 : Int32)), (.ref b1), (.ref b1)])) rfl rfl (hb hby at_54)
  have N25 := Fr.snoc X25 N22 g_b1
  have O25 := O22.wr W25 g_b1
  have K25 : Keep h0 h25 [] := K22.wr W25 (Or.inr sz_b1)
  have V_b1_25 : Arv Z h25 b1 k1 (.object "com/example/ratebook/ratebook/model/EventType") (12 : Int32) [(.ref w_PLATFORM_DEPLOY), (.ref w_PLATFORM_DELETE), (.ref w_SERVER_DEPLOY), (.ref w_SERVER_START), (.ref w_SERVER_STOP), (.ref w_SERVER_DELETE), (.ref w_DISK_ATTACH), (.ref w_DISK_DETACH), .null, .null, .null, .null] .null := Arv.set Ar24 q24 S24 Nn24 H24 G24 rfl W25 7 rfl (Nat.le_of_ble_eq_true rfl)
  obtain ⟨T26, X26, e26, st26⟩ := getS2 X25 hx hZ hown (host := "") (Or.inl (hw _ (List.mem_of_getElem? (i := 20) rfl))) Via.refl e25 (S_w_SNAPSHOT_CREATE.ext O25.2) (g := (mkF m 58 #[.val (.int p0), .unset, .unset, .unset, .unset] [(.int (8 : Int32)), (.ref b1), (.ref b1)])) rfl (hb hby at_58)
  obtain ⟨cl27, Ar27, q27, S27, Nn27, H27, G27⟩ := V_b1_25
  have hin27 : ¬ ((8 : Int32) < 0 ∨ cl27.slots.size ≤ ((8 : Int32)).toNatClampNeg) := inb_of S27 ⟨by decide, by decide⟩
  obtain ⟨T28, h28, X28, e28, W28, st28⟩ := stR X26 hx hZ e26 Ar27 (j := (8 : Int32)) hin27 rfl (Sto.ofV Ar27 q27 Ov1 (Ins.self (E_w_SNAPSHOT_CREATE.ext O25.2))) (g := (mkF m 61 #[.val (.int p0), .unset, .unset, .unset, .unset] [(.ref w_SNAPSHOT_CREATE), (.int (8 : Int32)), (.ref b1), (.ref b1)])) rfl rfl (hb hby at_61)
  have N28 := Fr.snoc X28 N25 g_b1
  have O28 := O25.wr W28 g_b1
  have K28 : Keep h0 h28 [] := K25.wr W28 (Or.inr sz_b1)
  have V_b1_28 : Arv Z h28 b1 k1 (.object "com/example/ratebook/ratebook/model/EventType") (12 : Int32) [(.ref w_PLATFORM_DEPLOY), (.ref w_PLATFORM_DELETE), (.ref w_SERVER_DEPLOY), (.ref w_SERVER_START), (.ref w_SERVER_STOP), (.ref w_SERVER_DELETE), (.ref w_DISK_ATTACH), (.ref w_DISK_DETACH), (.ref w_SNAPSHOT_CREATE), .null, .null, .null] .null := Arv.set Ar27 q27 S27 Nn27 H27 G27 rfl W28 8 rfl (Nat.le_of_ble_eq_true rfl)
  obtain ⟨T29, X29, e29, st29⟩ := getS2 X28 hx hZ hown (host := "") (Or.inl (hw _ (List.mem_of_getElem? (i := 22) rfl))) Via.refl e28 (S_w_SNAPSHOT_DELETE.ext O28.2) (g := (mkF m 65 #[.val (.int p0), .unset, .unset, .unset, .unset] [(.int (9 : Int32)), (.ref b1), (.ref b1)])) rfl (hb hby at_65)
  obtain ⟨cl30, Ar30, q30, S30, Nn30, H30, G30⟩ := V_b1_28
  have hin30 : ¬ ((9 : Int32) < 0 ∨ cl30.slots.size ≤ ((9 : Int32)).toNatClampNeg) := inb_of S30 ⟨by decide, by decide⟩
  obtain ⟨T31, h31, X31, e31, W31, st31⟩ := stR X29 hx hZ e29 Ar30 (j := (9 : Int32)) hin30 rfl (Sto.ofV Ar30 q30 Ov1 (Ins.self (E_w_SNAPSHOT_DELETE.ext O28.2))) (g := (mkF m 68 #[.val (.int p0), .unset, .unset, .unset, .unset] [(.ref w_SNAPSHOT_DELETE), (.int (9 : Int32)), (.ref b1), (.ref b1)])) rfl rfl (hb hby at_68)
  have N31 := Fr.snoc X31 N28 g_b1
  have O31 := O28.wr W31 g_b1
  have K31 : Keep h0 h31 [] := K28.wr W31 (Or.inr sz_b1)
  have V_b1_31 : Arv Z h31 b1 k1 (.object "com/example/ratebook/ratebook/model/EventType") (12 : Int32) [(.ref w_PLATFORM_DEPLOY), (.ref w_PLATFORM_DELETE), (.ref w_SERVER_DEPLOY), (.ref w_SERVER_START), (.ref w_SERVER_STOP), (.ref w_SERVER_DELETE), (.ref w_DISK_ATTACH), (.ref w_DISK_DETACH), (.ref w_SNAPSHOT_CREATE), (.ref w_SNAPSHOT_DELETE), .null, .null] .null := Arv.set Ar30 q30 S30 Nn30 H30 G30 rfl W31 9 rfl (Nat.le_of_ble_eq_true rfl)
  obtain ⟨T32, X32, e32, st32⟩ := getS2 X31 hx hZ hown (host := "") (Or.inl (hw _ (List.mem_of_getElem? (i := 24) rfl))) Via.refl e31 (S_w_NIC_ATTACH.ext O31.2) (g := (mkF m 72 #[.val (.int p0), .unset, .unset, .unset, .unset] [(.int (10 : Int32)), (.ref b1), (.ref b1)])) rfl (hb hby at_72)
  obtain ⟨cl33, Ar33, q33, S33, Nn33, H33, G33⟩ := V_b1_31
  have hin33 : ¬ ((10 : Int32) < 0 ∨ cl33.slots.size ≤ ((10 : Int32)).toNatClampNeg) := inb_of S33 ⟨by decide, by decide⟩
  obtain ⟨T34, h34, X34, e34, W34, st34⟩ := stR X32 hx hZ e32 Ar33 (j := (10 : Int32)) hin33 rfl (Sto.ofV Ar33 q33 Ov1 (Ins.self (E_w_NIC_ATTACH.ext O31.2))) (g := (mkF m 75 #[.val (.int p0), .unset, .unset, .unset, .unset] [(.ref w_NIC_ATTACH), (.int (10 : Int32)), (.ref b1), (.ref b1)])) rfl rfl (hb hby at_75)
  have N34 := Fr.snoc X34 N31 g_b1
  have O34 := O31.wr W34 g_b1
  have K34 : Keep h0 h34 [] := K31.wr W34 (Or.inr sz_b1)
  have V_b1_34 : Arv Z h34 b1 k1 (.object "com/example/ratebook/ratebook/model/EventType") (12 : Int32) [(.ref w_PLATFORM_DEPLOY), (.ref w_PLATFORM_DELETE), (.ref w_SERVER_DEPLOY), (.ref w_SERVER_START), (.ref w_SERVER_STOP), (.ref w_SERVER_DELETE), (.ref w_DISK_ATTACH), (.ref w_DISK_DETACH), (.ref w_SNAPSHOT_CREATE), (.ref w_SNAPSHOT_DELETE), (.ref w_NIC_ATTACH), .null] .null := Arv.set Ar33 q33 S33 Nn33 H33 G33 rfl W34 10 rfl (Nat.le_of_ble_eq_true rfl)
  obtain ⟨T35, X35, e35, st35⟩ := getS2 X34 hx hZ hown (host := "") (Or.inl (hw _ (List.mem_of_getElem? (i := 26) rfl))) Via.refl e34 (S_w_NIC_DETACH.ext O34.2) (g := (mkF m 79 #[.val (.int p0), .unset, .unset, .unset, .unset] [(.int (11 : Int32)), (.ref b1), (.ref b1)])) rfl (hb hby at_79)
  obtain ⟨cl36, Ar36, q36, S36, Nn36, H36, G36⟩ := V_b1_34
  have hin36 : ¬ ((11 : Int32) < 0 ∨ cl36.slots.size ≤ ((11 : Int32)).toNatClampNeg) := inb_of S36 ⟨by decide, by decide⟩
  obtain ⟨T37, h37, X37, e37, W37, st37⟩ := stR X35 hx hZ e35 Ar36 (j := (11 : Int32)) hin36 rfl (Sto.ofV Ar36 q36 Ov1 (Ins.self (E_w_NIC_DETACH.ext O34.2))) (g := (mkF m 82 #[.val (.int p0), .unset, .unset, .unset, .unset] [(.ref w_NIC_DETACH), (.int (11 : Int32)), (.ref b1), (.ref b1)])) rfl rfl (hb hby at_82)
  have N37 := Fr.snoc X37 N34 g_b1
  have O37 := O34.wr W37 g_b1
  have K37 : Keep h0 h37 [] := K34.wr W37 (Or.inr sz_b1)
  have V_b1_37 : Arv Z h37 b1 k1 (.object "com/example/ratebook/ratebook/model/EventType") (12 : Int32) [(.ref w_PLATFORM_DEPLOY), (.ref w_PLATFORM_DELETE), (.ref w_SERVER_DEPLOY), (.ref w_SERVER_START), (.ref w_SERVER_STOP), (.ref w_SERVER_DELETE), (.ref w_DISK_ATTACH), (.ref w_DISK_DETACH), (.ref w_SNAPSHOT_CREATE), (.ref w_SNAPSHOT_DELETE), (.ref w_NIC_ATTACH), (.ref w_NIC_DETACH)] .null := Arv.set Ar36 q36 S36 Nn36 H36 G36 rfl W37 11 rfl (Nat.le_of_ble_eq_true rfl)
  obtain ⟨cl38, Ar38, -, S38, -, H38, -⟩ := V_b1_37
  have hin38 : ¬ (((p0 &&& (2147483647 : Int32)) % (12 : Int32)) < 0 ∨ cl38.slots.size ≤ (((p0 &&& (2147483647 : Int32)) % (12 : Int32))).toNatClampNeg) := inb_of S38 (by rw [hc9]; decide)
  have hat38 : cl38.slots[(((p0 &&& (2147483647 : Int32)) % (12 : Int32))).toNatClampNeg]? = some (.ref w_SNAPSHOT_CREATE) := H38.at hin38 (by rw [hc9]; rfl)
  obtain ⟨cq39, kq39, q39a, q39b, q39c⟩ := isOf hZ e37 (E_w_SNAPSHOT_CREATE.ext O37.2)
  obtain ⟨_, _, ⟨T39, L39, k39, n39⟩, -, X39, ⟨Lc39, hQ39, l39, y39, z39⟩, st39⟩ := X37.virtualBack hx (y := y0) (z := y0) hown (mvT hZ (hw _ (List.mem_of_getElem? (i := 29) rfl))) (mvT hZ (hw _ (List.mem_of_getElem? (i := 30) rfl))) (notFace_of_selects (args := #[]) (mvT hZ (hw _ (List.mem_of_getElem? (i := 32) rfl)))) (mvT hZ (hw _ (List.mem_of_getElem? (i := 32) rfl))) (mvT hZ (hw _ (List.mem_of_getElem? (i := 31) rfl))) (by decide) (backOf (W := 0) (rm17 l Z a0 hw [] w_PLATFORM_DEPLOY w_PLATFORM_DELETE w_SERVER_DEPLOY w_SERVER_START w_SERVER_STOP w_SERVER_DELETE w_DISK_ATTACH w_DISK_DETACH w_SNAPSHOT_CREATE w_SNAPSHOT_DELETE w_NIC_ATTACH w_NIC_DETACH hp h37 n0 O37) hZ (hw _ (List.mem_of_getElem? (i := 33) rfl)) (hw _ (List.mem_of_getElem? (i := 3) rfl)) (by decide) (by decide)) q39a q39c (g := (mkF m 145 #[.val (.int p0), .val (.ref b1), .val (.int ((p0 &&& (2147483647 : Int32)) % (12 : Int32))), .val (.ref w_SNAPSHOT_CREATE), .val (.int (0 : Int32))] [(.ref w_SNAPSHOT_CREATE)])) rfl (by rw [hml]; rfl) (Steps.refl _) (argsL := []) (rest := []) (lenOf pd_0 rfl) rfl (by show 2 * 0 + _ ≤ _; exact Nat.le_of_eq rfl) (hb hby at_145) (fun _ _ => ⟨rfl, e37, (by decide : 1 + 0 ≤ _), (by decide : 12 + 0 ≤ _)⟩)
  dsimp only [Pt.U, Pt.locs, Pt.cells, Pt.slots] at X39 l39 y39 z39 st39 hQ39
  subst l39 y39 z39
  obtain ⟨rfl, Nq39, eq39⟩ := hQ39
  have N39 := Fr.app N37 Nq39
  obtain ⟨fs, hr, hrun, hended, hW, hsame⟩ := X39.leave (v := some (.int (1 : Int32))) (fun h => by rw [Bd.returns] at h; cases h)
  refine ⟨_, _, pre0 _ ?_, hrun, hended, _, _, rfl, ?_, ⟨_, rfl⟩, hW, hsame.mono (by decide) (by decide)⟩
  · show Sp p e below s₁ (mkF m 0 #[.val (.int p0), .unset, .unset, .unset, .unset] []) _
    refine XS.bipush X0.here hx rfl (hb hby at_0) ?_
    show Sp p e below s₁ (mkF m 2 #[.val (.int p0), .unset, .unset, .unset, .unset] [(.int (12 : Int32))]) _
    refine st1 _ ?_
    show Sp p e below T1 (mkF m 5 #[.val (.int p0), .unset, .unset, .unset, .unset] [(.ref b1)]) _
    refine XS.dup X1.here hx rfl (hb hby at_5) rfl rfl ?_
    show Sp p e below T1 (mkF m 6 #[.val (.int p0), .unset, .unset, .unset, .unset] [(.ref b1), (.ref b1)]) _
    refine XS.iconst X1.here hx rfl (hb hby at_6) ?_
    show Sp p e below T1 (mkF m 7 #[.val (.int p0), .unset, .unset, .unset, .unset] [(.int (0 : Int32)), (.ref b1), (.ref b1)]) _
    refine st2 _ ?_
    show Sp p e below T2 (mkF m 10 #[.val (.int p0), .unset, .unset, .unset, .unset] [(.ref w_PLATFORM_DEPLOY), (.int (0 : Int32)), (.ref b1), (.ref b1)]) _
    refine st4 _ ?_
    show Sp p e below T4 (mkF m 11 #[.val (.int p0), .unset, .unset, .unset, .unset] [(.ref b1)]) _
    refine XS.dup X4.here hx rfl (hb hby at_11) rfl rfl ?_
    show Sp p e below T4 (mkF m 12 #[.val (.int p0), .unset, .unset, .unset, .unset] [(.ref b1), (.ref b1)]) _
    refine XS.iconst X4.here hx rfl (hb hby at_12) ?_
    show Sp p e below T4 (mkF m 13 #[.val (.int p0), .unset, .unset, .unset, .unset] [(.int (1 : Int32)), (.ref b1), (.ref b1)]) _
    refine st5 _ ?_
    show Sp p e below T5 (mkF m 16 #[.val (.int p0), .unset, .unset, .unset, .unset] [(.ref w_PLATFORM_DELETE), (.int (1 : Int32)), (.ref b1), (.ref b1)]) _
    refine st7 _ ?_
    show Sp p e below T7 (mkF m 17 #[.val (.int p0), .unset, .unset, .unset, .unset] [(.ref b1)]) _
    refine XS.dup X7.here hx rfl (hb hby at_17) rfl rfl ?_
    show Sp p e below T7 (mkF m 18 #[.val (.int p0), .unset, .unset, .unset, .unset] [(.ref b1), (.ref b1)]) _
    refine XS.iconst X7.here hx rfl (hb hby at_18) ?_
    show Sp p e below T7 (mkF m 19 #[.val (.int p0), .unset, .unset, .unset, .unset] [(.int (2 : Int32)), (.ref b1), (.ref b1)]) _
    refine st8 _ ?_
    show Sp p e below T8 (mkF m 22 #[.val (.int p0), .unset, .unset, .unset, .unset] [(.ref w_SERVER_DEPLOY), (.int (2 : Int32)), (.ref b1), (.ref b1)]) _
    refine st10 _ ?_
    show Sp p e below T10 (mkF m 23 #[.val (.int p0), .unset, .unset, .unset, .unset] [(.ref b1)]) _
    refine XS.dup X10.here hx rfl (hb hby at_23) rfl rfl ?_
    show Sp p e below T10 (mkF m 24 #[.val (.int p0), .unset, .unset, .unset, .unset] [(.ref b1), (.ref b1)]) _
    refine XS.iconst X10.here hx rfl (hb hby at_24) ?_
    show Sp p e below T10 (mkF m 25 #[.val (.int p0), .unset, .unset, .unset, .unset] [(.int (3 : Int32)), (.ref b1), (.ref b1)]) _
    refine st11 _ ?_
    show Sp p e below T11 (mkF m 28 #[.val (.int p0), .unset, .unset, .unset, .unset] [(.ref w_SERVER_START), (.int (3 : Int32)), (.ref b1), (.ref b1)]) _
    refine st13 _ ?_
    show Sp p e below T13 (mkF m 29 #[.val (.int p0), .unset, .unset, .unset, .unset] [(.ref b1)]) _
    refine XS.dup X13.here hx rfl (hb hby at_29) rfl rfl ?_
    show Sp p e below T13 (mkF m 30 #[.val (.int p0), .unset, .unset, .unset, .unset] [(.ref b1), (.ref b1)]) _
    refine XS.iconst X13.here hx rfl (hb hby at_30) ?_
    show Sp p e below T13 (mkF m 31 #[.val (.int p0), .unset, .unset, .unset, .unset] [(.int (4 : Int32)), (.ref b1), (.ref b1)]) _
    refine st14 _ ?_
    show Sp p e below T14 (mkF m 34 #[.val (.int p0), .unset, .unset, .unset, .unset] [(.ref w_SERVER_STOP), (.int (4 : Int32)), (.ref b1), (.ref b1)]) _
    refine st16 _ ?_
    show Sp p e below T16 (mkF m 35 #[.val (.int p0), .unset, .unset, .unset, .unset] [(.ref b1)]) _
    refine XS.dup X16.here hx rfl (hb hby at_35) rfl rfl ?_
    show Sp p e below T16 (mkF m 36 #[.val (.int p0), .unset, .unset, .unset, .unset] [(.ref b1), (.ref b1)]) _
    refine XS.iconst X16.here hx rfl (hb hby at_36) ?_
    show Sp p e below T16 (mkF m 37 #[.val (.int p0), .unset, .unset, .unset, .unset] [(.int (5 : Int32)), (.ref b1), (.ref b1)]) _
    refine st17 _ ?_
    show Sp p e below T17 (mkF m 40 #[.val (.int p0), .unset, .unset, .unset, .unset] [(.ref w_SERVER_DELETE), (.int (5 : Int32)), (.ref b1), (.ref b1)]) _
    refine st19 _ ?_
    show Sp p e below T19 (mkF m 41 #[.val (.int p0), .unset, .unset, .unset, .unset] [(.ref b1)]) _
    refine XS.dup X19.here hx rfl (hb hby at_41) rfl rfl ?_
    show Sp p e below T19 (mkF m 42 #[.val (.int p0), .unset, .unset, .unset, .unset] [(.ref b1), (.ref b1)]) _
    refine XS.bipush X19.here hx rfl (hb hby at_42) ?_
    show Sp p e below T19 (mkF m 44 #[.val (.int p0), .unset, .unset, .unset, .unset] [(.int (6 : Int32)), (.ref b1), (.ref b1)]) _
    refine st20 _ ?_
    show Sp p e below T20 (mkF m 47 #[.val (.int p0), .unset, .unset, .unset, .unset] [(.ref w_DISK_ATTACH), (.int (6 : Int32)), (.ref b1), (.ref b1)]) _
    refine st22 _ ?_
    show Sp p e below T22 (mkF m 48 #[.val (.int p0), .unset, .unset, .unset, .unset] [(.ref b1)]) _
    refine XS.dup X22.here hx rfl (hb hby at_48) rfl rfl ?_
    show Sp p e below T22 (mkF m 49 #[.val (.int p0), .unset, .unset, .unset, .unset] [(.ref b1), (.ref b1)]) _
    refine XS.bipush X22.here hx rfl (hb hby at_49) ?_
    show Sp p e below T22 (mkF m 51 #[.val (.int p0), .unset, .unset, .unset, .unset] [(.int (7 : Int32)), (.ref b1), (.ref b1)]) _
    refine st23 _ ?_
    show Sp p e below T23 (mkF m 54 #[.val (.int p0), .unset, .unset, .unset, .unset] [(.ref w_DISK_DETACH), (.int (7 : Int32)), (.ref b1), (.ref b1)]) _
    refine st25 _ ?_
    show Sp p e below T25 (mkF m 55 #[.val (.int p0), .unset, .unset, .unset, .unset] [(.ref b1)]) _
    refine XS.dup X25.here hx rfl (hb hby at_55) rfl rfl ?_
    show Sp p e below T25 (mkF m 56 #[.val (.int p0), .unset, .unset, .unset, .unset] [(.ref b1), (.ref b1)]) _
    refine XS.bipush X25.here hx rfl (hb hby at_56) ?_
    show Sp p e below T25 (mkF m 58 #[.val (.int p0), .unset, .unset, .unset, .unset] [(.int (8 : Int32)), (.ref b1), (.ref b1)]) _
    refine st26 _ ?_
    show Sp p e below T26 (mkF m 61 #[.val (.int p0), .unset, .unset, .unset, .unset] [(.ref w_SNAPSHOT_CREATE), (.int (8 : Int32)), (.ref b1), (.ref b1)]) _
    refine st28 _ ?_
    show Sp p e below T28 (mkF m 62 #[.val (.int p0), .unset, .unset, .unset, .unset] [(.ref b1)]) _
    refine XS.dup X28.here hx rfl (hb hby at_62) rfl rfl ?_
    show Sp p e below T28 (mkF m 63 #[.val (.int p0), .unset, .unset, .unset, .unset] [(.ref b1), (.ref b1)]) _
    refine XS.bipush X28.here hx rfl (hb hby at_63) ?_
    show Sp p e below T28 (mkF m 65 #[.val (.int p0), .unset, .unset, .unset, .unset] [(.int (9 : Int32)), (.ref b1), (.ref b1)]) _
    refine st29 _ ?_
    show Sp p e below T29 (mkF m 68 #[.val (.int p0), .unset, .unset, .unset, .unset] [(.ref w_SNAPSHOT_DELETE), (.int (9 : Int32)), (.ref b1), (.ref b1)]) _
    refine st31 _ ?_
    show Sp p e below T31 (mkF m 69 #[.val (.int p0), .unset, .unset, .unset, .unset] [(.ref b1)]) _
    refine XS.dup X31.here hx rfl (hb hby at_69) rfl rfl ?_
    show Sp p e below T31 (mkF m 70 #[.val (.int p0), .unset, .unset, .unset, .unset] [(.ref b1), (.ref b1)]) _
    refine XS.bipush X31.here hx rfl (hb hby at_70) ?_
    show Sp p e below T31 (mkF m 72 #[.val (.int p0), .unset, .unset, .unset, .unset] [(.int (10 : Int32)), (.ref b1), (.ref b1)]) _
    refine st32 _ ?_
    show Sp p e below T32 (mkF m 75 #[.val (.int p0), .unset, .unset, .unset, .unset] [(.ref w_NIC_ATTACH), (.int (10 : Int32)), (.ref b1), (.ref b1)]) _
    refine st34 _ ?_
    show Sp p e below T34 (mkF m 76 #[.val (.int p0), .unset, .unset, .unset, .unset] [(.ref b1)]) _
    refine XS.dup X34.here hx rfl (hb hby at_76) rfl rfl ?_
    show Sp p e below T34 (mkF m 77 #[.val (.int p0), .unset, .unset, .unset, .unset] [(.ref b1), (.ref b1)]) _
    refine XS.bipush X34.here hx rfl (hb hby at_77) ?_
    show Sp p e below T34 (mkF m 79 #[.val (.int p0), .unset, .unset, .unset, .unset] [(.int (11 : Int32)), (.ref b1), (.ref b1)]) _
    refine st35 _ ?_
    show Sp p e below T35 (mkF m 82 #[.val (.int p0), .unset, .unset, .unset, .unset] [(.ref w_NIC_DETACH), (.int (11 : Int32)), (.ref b1), (.ref b1)]) _
    refine st37 _ ?_
    show Sp p e below T37 (mkF m 83 #[.val (.int p0), .unset, .unset, .unset, .unset] [(.ref b1)]) _
    refine XS.astoreN X37.here hx rfl (hb hby at_83) rfl rfl (l' := #[.val (.int p0), .val (.ref b1), .unset, .unset, .unset]) rfl ?_
    show Sp p e below T37 (mkF m 84 #[.val (.int p0), .val (.ref b1), .unset, .unset, .unset] []) _
    refine XS.iloadN X37.here hx rfl (hb hby at_84) rfl ?_
    show Sp p e below T37 (mkF m 85 #[.val (.int p0), .val (.ref b1), .unset, .unset, .unset] [(.int p0)]) _
    refine X37.ldcI hx hown (mvT hZ (hw _ (List.mem_of_getElem? (i := 28) rfl))) rfl (hb hby at_85) ?_
    show Sp p e below T37 (mkF m 87 #[.val (.int p0), .val (.ref b1), .unset, .unset, .unset] [(.int (2147483647 : Int32)), (.int p0)]) _
    refine XS.iand X37.here hx rfl (hb hby at_87) rfl ?_
    show Sp p e below T37 (mkF m 88 #[.val (.int p0), .val (.ref b1), .unset, .unset, .unset] [(.int (p0 &&& (2147483647 : Int32)))]) _
    refine XS.bipush X37.here hx rfl (hb hby at_88) ?_
    show Sp p e below T37 (mkF m 90 #[.val (.int p0), .val (.ref b1), .unset, .unset, .unset] [(.int (12 : Int32)), (.int (p0 &&& (2147483647 : Int32)))]) _
    refine iremM X37 hx rfl (hb hby at_90) rfl (by decide) ?_
    show Sp p e below T37 (mkF m 91 #[.val (.int p0), .val (.ref b1), .unset, .unset, .unset] [(.int ((p0 &&& (2147483647 : Int32)) % (12 : Int32)))]) _
    refine XS.istoreN X37.here hx rfl (hb hby at_91) rfl (l' := #[.val (.int p0), .val (.ref b1), .val (.int ((p0 &&& (2147483647 : Int32)) % (12 : Int32))), .unset, .unset]) rfl ?_
    show Sp p e below T37 (mkF m 92 #[.val (.int p0), .val (.ref b1), .val (.int ((p0 &&& (2147483647 : Int32)) % (12 : Int32))), .unset, .unset] []) _
    refine XS.aloadN X37.here hx rfl (hb hby at_92) rfl rfl ?_
    show Sp p e below T37 (mkF m 93 #[.val (.int p0), .val (.ref b1), .val (.int ((p0 &&& (2147483647 : Int32)) % (12 : Int32))), .unset, .unset] [(.ref b1)]) _
    refine XS.iloadN X37.here hx rfl (hb hby at_93) rfl ?_
    show Sp p e below T37 (mkF m 94 #[.val (.int p0), .val (.ref b1), .val (.int ((p0 &&& (2147483647 : Int32)) % (12 : Int32))), .unset, .unset] [(.int ((p0 &&& (2147483647 : Int32)) % (12 : Int32))), (.ref b1)]) _
    refine X37.aaload hx (j := ((p0 &&& (2147483647 : Int32)) % (12 : Int32))) (v := (.ref w_SNAPSHOT_CREATE)) (by rw [e37]; exact Ar38.1) (State.isArrayOf_alike hZ.alike Ar38.2.1) rfl Ar38.2.2 hin38 hat38 (g := (mkF m 94 #[.val (.int p0), .val (.ref b1), .val (.int ((p0 &&& (2147483647 : Int32)) % (12 : Int32))), .unset, .unset] [(.int ((p0 &&& (2147483647 : Int32)) % (12 : Int32))), (.ref b1)])) rfl rfl (hb hby at_94) _ ?_
    show Sp p e below T37 (mkF m 95 #[.val (.int p0), .val (.ref b1), .val (.int ((p0 &&& (2147483647 : Int32)) % (12 : Int32))), .unset, .unset] [(.ref w_SNAPSHOT_CREATE)]) _
    refine XS.astoreN X37.here hx rfl (hb hby at_95) rfl rfl (l' := #[.val (.int p0), .val (.ref b1), .val (.int ((p0 &&& (2147483647 : Int32)) % (12 : Int32))), .val (.ref w_SNAPSHOT_CREATE), .unset]) rfl ?_
    show Sp p e below T37 (mkF m 96 #[.val (.int p0), .val (.ref b1), .val (.int ((p0 &&& (2147483647 : Int32)) % (12 : Int32))), .val (.ref w_SNAPSHOT_CREATE), .unset] []) _
    refine XS.iconst X37.here hx rfl (hb hby at_96) ?_
    show Sp p e below T37 (mkF m 97 #[.val (.int p0), .val (.ref b1), .val (.int ((p0 &&& (2147483647 : Int32)) % (12 : Int32))), .val (.ref w_SNAPSHOT_CREATE), .unset] [(.int (0 : Int32))]) _
    refine XS.istore X37.here hx rfl (hb hby at_97) rfl (l' := #[.val (.int p0), .val (.ref b1), .val (.int ((p0 &&& (2147483647 : Int32)) % (12 : Int32))), .val (.ref w_SNAPSHOT_CREATE), .val (.int (0 : Int32))]) rfl ?_
    show Sp p e below T37 (mkF m 99 #[.val (.int p0), .val (.ref b1), .val (.int ((p0 &&& (2147483647 : Int32)) % (12 : Int32))), .val (.ref w_SNAPSHOT_CREATE), .val (.int (0 : Int32))] []) _
    refine XS.iloadN X37.here hx rfl (hb hby at_99) rfl ?_
    show Sp p e below T37 (mkF m 100 #[.val (.int p0), .val (.ref b1), .val (.int ((p0 &&& (2147483647 : Int32)) % (12 : Int32))), .val (.ref w_SNAPSHOT_CREATE), .val (.int (0 : Int32))] [(.int ((p0 &&& (2147483647 : Int32)) % (12 : Int32)))]) _
    refine XS.bipush X37.here hx rfl (hb hby at_100) ?_
    show Sp p e below T37 (mkF m 102 #[.val (.int p0), .val (.ref b1), .val (.int ((p0 &&& (2147483647 : Int32)) % (12 : Int32))), .val (.ref w_SNAPSHOT_CREATE), .val (.int (0 : Int32))] [(.int (6 : Int32)), (.int ((p0 &&& (2147483647 : Int32)) % (12 : Int32)))]) _
    refine XS.icmpYes X37.here hx rfl (pc0 := 102) (pc' := 111) rfl (hb hby at_102) rfl (feq hc7).2 (by decide) (by decide) ?_
    show Sp p e below T37 (mkF m 111 #[.val (.int p0), .val (.ref b1), .val (.int ((p0 &&& (2147483647 : Int32)) % (12 : Int32))), .val (.ref w_SNAPSHOT_CREATE), .val (.int (0 : Int32))] []) _
    refine XS.iloadN X37.here hx rfl (hb hby at_111) rfl ?_
    show Sp p e below T37 (mkF m 112 #[.val (.int p0), .val (.ref b1), .val (.int ((p0 &&& (2147483647 : Int32)) % (12 : Int32))), .val (.ref w_SNAPSHOT_CREATE), .val (.int (0 : Int32))] [(.int ((p0 &&& (2147483647 : Int32)) % (12 : Int32)))]) _
    refine XS.bipush X37.here hx rfl (hb hby at_112) ?_
    show Sp p e below T37 (mkF m 114 #[.val (.int p0), .val (.ref b1), .val (.int ((p0 &&& (2147483647 : Int32)) % (12 : Int32))), .val (.ref w_SNAPSHOT_CREATE), .val (.int (0 : Int32))] [(.int (7 : Int32)), (.int ((p0 &&& (2147483647 : Int32)) % (12 : Int32)))]) _
    refine XS.icmpYes X37.here hx rfl (pc0 := 114) (pc' := 123) rfl (hb hby at_114) rfl (feq hc8).2 (by decide) (by decide) ?_
    show Sp p e below T37 (mkF m 123 #[.val (.int p0), .val (.ref b1), .val (.int ((p0 &&& (2147483647 : Int32)) % (12 : Int32))), .val (.ref w_SNAPSHOT_CREATE), .val (.int (0 : Int32))] []) _
    refine XS.iloadN X37.here hx rfl (hb hby at_123) rfl ?_
    show Sp p e below T37 (mkF m 124 #[.val (.int p0), .val (.ref b1), .val (.int ((p0 &&& (2147483647 : Int32)) % (12 : Int32))), .val (.ref w_SNAPSHOT_CREATE), .val (.int (0 : Int32))] [(.int ((p0 &&& (2147483647 : Int32)) % (12 : Int32)))]) _
    refine XS.bipush X37.here hx rfl (hb hby at_124) ?_
    show Sp p e below T37 (mkF m 126 #[.val (.int p0), .val (.ref b1), .val (.int ((p0 &&& (2147483647 : Int32)) % (12 : Int32))), .val (.ref w_SNAPSHOT_CREATE), .val (.int (0 : Int32))] [(.int (10 : Int32)), (.int ((p0 &&& (2147483647 : Int32)) % (12 : Int32)))]) _
    refine XS.icmpYes X37.here hx rfl (pc0 := 126) (pc' := 135) rfl (hb hby at_126) rfl (feq (by rw [hc9]; decide : ¬ (((p0 &&& (2147483647 : Int32)) % (12 : Int32)) = (10 : Int32)))).2 (by decide) (by decide) ?_
    show Sp p e below T37 (mkF m 135 #[.val (.int p0), .val (.ref b1), .val (.int ((p0 &&& (2147483647 : Int32)) % (12 : Int32))), .val (.ref w_SNAPSHOT_CREATE), .val (.int (0 : Int32))] []) _
    refine XS.iloadN X37.here hx rfl (hb hby at_135) rfl ?_
    show Sp p e below T37 (mkF m 136 #[.val (.int p0), .val (.ref b1), .val (.int ((p0 &&& (2147483647 : Int32)) % (12 : Int32))), .val (.ref w_SNAPSHOT_CREATE), .val (.int (0 : Int32))] [(.int ((p0 &&& (2147483647 : Int32)) % (12 : Int32)))]) _
    refine XS.bipush X37.here hx rfl (hb hby at_136) ?_
    show Sp p e below T37 (mkF m 138 #[.val (.int p0), .val (.ref b1), .val (.int ((p0 &&& (2147483647 : Int32)) % (12 : Int32))), .val (.ref w_SNAPSHOT_CREATE), .val (.int (0 : Int32))] [(.int (11 : Int32)), (.int ((p0 &&& (2147483647 : Int32)) % (12 : Int32)))]) _
    refine XS.icmpYes X37.here hx rfl (pc0 := 138) (pc' := 144) rfl (hb hby at_138) rfl (feq (by rw [hc9]; decide : ¬ (((p0 &&& (2147483647 : Int32)) % (12 : Int32)) = (11 : Int32)))).2 (by decide) (by decide) ?_
    show Sp p e below T37 (mkF m 144 #[.val (.int p0), .val (.ref b1), .val (.int ((p0 &&& (2147483647 : Int32)) % (12 : Int32))), .val (.ref w_SNAPSHOT_CREATE), .val (.int (0 : Int32))] []) _
    refine XS.aloadN X37.here hx rfl (hb hby at_144) rfl rfl ?_
    show Sp p e below T37 (mkF m 145 #[.val (.int p0), .val (.ref b1), .val (.int ((p0 &&& (2147483647 : Int32)) % (12 : Int32))), .val (.ref w_SNAPSHOT_CREATE), .val (.int (0 : Int32))] [(.ref w_SNAPSHOT_CREATE)]) _
    refine st39.trans ?_
    show Sp p e below T39 (mkF m 148 #[.val (.int p0), .val (.ref b1), .val (.int ((p0 &&& (2147483647 : Int32)) % (12 : Int32))), .val (.ref w_SNAPSHOT_CREATE), .val (.int (0 : Int32))] [(.int (0 : Int32))]) _
    refine XS.iload X39.here hx rfl (hb hby at_148) rfl ?_
    show Sp p e below T39 (mkF m 150 #[.val (.int p0), .val (.ref b1), .val (.int ((p0 &&& (2147483647 : Int32)) % (12 : Int32))), .val (.ref w_SNAPSHOT_CREATE), .val (.int (0 : Int32))] [(.int (0 : Int32)), (.int (0 : Int32))]) _
    refine XS.icmpNo X39.here hx rfl (hb hby at_150) rfl (teq (by decide : (0 : Int32) = (0 : Int32))).2 ?_
    show Sp p e below T39 (mkF m 153 #[.val (.int p0), .val (.ref b1), .val (.int ((p0 &&& (2147483647 : Int32)) % (12 : Int32))), .val (.ref w_SNAPSHOT_CREATE), .val (.int (0 : Int32))] []) _
    refine XS.iconst X39.here hx rfl (hb hby at_153) ?_
    show Sp p e below T39 (mkF m 154 #[.val (.int p0), .val (.ref b1), .val (.int ((p0 &&& (2147483647 : Int32)) % (12 : Int32))), .val (.ref w_SNAPSHOT_CREATE), .val (.int (0 : Int32))] [(.int (1 : Int32))]) _
    refine XS.goto X39.here hx rfl (pc0 := 154) (pc' := 158) rfl (hb hby at_154) (by decide) (by decide) ?_
    show Sp p e below T39 (mkF m 158 #[.val (.int p0), .val (.ref b1), .val (.int ((p0 &&& (2147483647 : Int32)) % (12 : Int32))), .val (.ref w_SNAPSHOT_CREATE), .val (.int (0 : Int32))] [(.int (1 : Int32))]) _
    exact retN X39 hx (t := .boolean) Bd.returns (by simp) (hb hby at_158) hr
  · skip
    exact ⟨rfl, N39⟩
def Q19 (Z : State) (w_PLATFORM_DEPLOY : Addr) (w_PLATFORM_DELETE : Addr) (w_SERVER_DEPLOY : Addr) (w_SERVER_START : Addr) (w_SERVER_STOP : Addr) (w_SERVER_DELETE : Addr) (w_DISK_ATTACH : Addr) (w_DISK_DETACH : Addr) (w_SNAPSHOT_CREATE : Addr) (w_SNAPSHOT_DELETE : Addr) (w_NIC_ATTACH : Addr) (w_NIC_DETACH : Addr) (h0 : Heap) (n0 : Nat) (v : Option Value) (h : Heap) (L : List Loc) : Prop := v = some (.int (0 : Int32)) ∧ Fr n0 L ∧ h = h0
set_option maxRecDepth 65536 in
set_option maxHeartbeats 40000000 in
theorem rm19 (l : Launch) (Z : State) (a0 : Array Value) (hw : ∀ d ∈ tables_1, d.before a0 Z = true) (ws : List Jvm.Cond) (w_PLATFORM_DEPLOY w_PLATFORM_DELETE w_SERVER_DEPLOY w_SERVER_START w_SERVER_STOP w_SERVER_DELETE w_DISK_ATTACH w_DISK_DETACH w_SNAPSHOT_CREATE w_SNAPSHOT_DELETE w_NIC_ATTACH w_NIC_DETACH : Addr) (hp : Perm Z w_PLATFORM_DEPLOY w_PLATFORM_DELETE w_SERVER_DEPLOY w_SERVER_START w_SERVER_STOP w_SERVER_DELETE w_DISK_ATTACH w_DISK_DETACH w_SNAPSHOT_CREATE w_SNAPSHOT_DELETE w_NIC_ATTACH w_NIC_DETACH) (h0 : Heap) (n0 : Nat) (O0 : Old Z n0 h0) :
    MetFree l y0 (head1 (Jvm.Cond.code y0 prog_20_method_6_code 1 (some .boolean) :: ws) ({ frames := 0, cells := 0, slots := 0, locals := 0 } : Room)) (fun a U => a = #[(.ref w_SNAPSHOT_DELETE)] ∧ Z.Warmed39 U.vm ∧ U.heap = h0) (fun _ _ _ _ _ => True) (fun _ U o U' => ∃ v L, o = .returned v ∧ Q19 Z w_PLATFORM_DEPLOY w_PLATFORM_DELETE w_SERVER_DEPLOY w_SERVER_START w_SERVER_STOP w_SERVER_DELETE w_DISK_ATTACH w_DISK_DETACH w_SNAPSHOT_CREATE w_SNAPSHOT_DELETE w_NIC_ATTACH w_NIC_DETACH  h0 n0 v U'.heap L ∧ FrameEnd U o U' L ({ frames := 0, cells := 0, slots := 0, locals := 0 } : Room).cells ({ frames := 0, cells := 0, slots := 0, locals := 0 } : Room).slots) := by
  refine MetFree.of_bodySF (plainFor_of_name pn_1) hisR ?_
  intro p e s m args below meth c s₁ Bd hml0 hP hK
  obtain ⟨rfl, hZ, hh⟩ := hP
  have hx := Bd.exec
  have hby := Bd.bytes
  have hml : c.maxLocals = 1 := hml0
  have hown : s.vm.findClass "com/example/ratebook/ratebook/model/EventType" = some m.cls := findClass_of_methodNamed Bd.named
  have hnm := (name_of_methodNamed Bd.named Bd.method).1
  have X0 : Stand p l e ({ frames := 0, cells := 0, slots := 0, locals := 0 } : Room) s m #[(.ref w_SNAPSHOT_DELETE)] below meth c s₁ [] 0 0 := Stand.of_body Bd
  have e0 : s₁.heap = h0 := by rw [← hh, Bd.state]; rfl
  have N0 := Fr.nil n0
  have hp' := hp
  obtain ⟨S_w_PLATFORM_DEPLOY, E_w_PLATFORM_DEPLOY, S_w_PLATFORM_DELETE, E_w_PLATFORM_DELETE, S_w_SERVER_DEPLOY, E_w_SERVER_DEPLOY, S_w_SERVER_START, E_w_SERVER_START, S_w_SERVER_STOP, E_w_SERVER_STOP, S_w_SERVER_DELETE, E_w_SERVER_DELETE, S_w_DISK_ATTACH, E_w_DISK_ATTACH, S_w_DISK_DETACH, E_w_DISK_DETACH, S_w_SNAPSHOT_CREATE, E_w_SNAPSHOT_CREATE, S_w_SNAPSHOT_DELETE, E_w_SNAPSHOT_DELETE, S_w_NIC_ATTACH, E_w_NIC_ATTACH, S_w_NIC_DETACH, E_w_NIC_DETACH, F_ordinal_w_PLATFORM_DEPLOY, F_ordinal_w_DISK_ATTACH, F_ordinal_w_DISK_DETACH, F_ordinal_w_NIC_ATTACH, F_ordinal_w_NIC_DETACH, F_ordinal_w_SERVER_START, F_ordinal_w_SERVER_DEPLOY, F_ordinal_w_SERVER_STOP, F_ordinal_w_SNAPSHOT_CREATE, F_ordinal_w_PLATFORM_DELETE, F_ordinal_w_SNAPSHOT_DELETE, F_ordinal_w_SERVER_DELETE⟩ := hp'
  have pre0 : ∀ t, Steps p.tables e below (s₁.setTop (mkF m 0 #[.val (.ref w_SNAPSHOT_DELETE)] [])) t → Steps p.tables e below (s₁.setTop (entryFrame m #[(.ref w_SNAPSHOT_DELETE)] 1)) t := fun t k => castTop (ef_1_0 m w_SNAPSHOT_DELETE) k
  obtain ⟨T1, X1, e1, st1⟩ := getS2 X0 hx hZ hown (host := "") (Or.inl (hw _ (List.mem_of_getElem? (i := 34) rfl))) Via.refl e0 (S_w_DISK_ATTACH.ext O0.2) (g := (mkF m 1 #[.val (.ref w_SNAPSHOT_DELETE)] [(.ref w_SNAPSHOT_DELETE)])) rfl (hb hby d1_1)
  obtain ⟨T2, X2, e2, st2⟩ := getS2 X1 hx hZ hown (host := "") (Or.inl (hw _ (List.mem_of_getElem? (i := 35) rfl))) Via.refl e1 (S_w_DISK_DETACH.ext O0.2) (g := (mkF m 8 #[.val (.ref w_SNAPSHOT_DELETE)] [(.ref w_SNAPSHOT_DELETE)])) rfl (hb hby d1_8)
  obtain ⟨T3, X3, e3, st3⟩ := getS2 X2 hx hZ hown (host := "") (Or.inl (hw _ (List.mem_of_getElem? (i := 36) rfl))) Via.refl e2 (S_w_NIC_ATTACH.ext O0.2) (g := (mkF m 15 #[.val (.ref w_SNAPSHOT_DELETE)] [(.ref w_SNAPSHOT_DELETE)])) rfl (hb hby d1_15)
  obtain ⟨T4, X4, e4, st4⟩ := getS2 X3 hx hZ hown (host := "") (Or.inl (hw _ (List.mem_of_getElem? (i := 37) rfl))) Via.refl e3 (S_w_NIC_DETACH.ext O0.2) (g := (mkF m 22 #[.val (.ref w_SNAPSHOT_DELETE)] [(.ref w_SNAPSHOT_DELETE)])) rfl (hb hby d1_22)
  obtain ⟨fs, hr, hrun, hended, hW, hsame⟩ := X4.leave (v := some (.int (0 : Int32))) (fun h => by rw [Bd.returns] at h; cases h)
  refine ⟨_, _, pre0 _ ?_, hrun, hended, _, _, rfl, ?_, ⟨_, rfl⟩, hW, hsame.mono (by decide) (by decide)⟩
  · show Sp p e below s₁ (mkF m 0 #[.val (.ref w_SNAPSHOT_DELETE)] []) _
    refine XS.aloadN X0.here hx rfl (hb hby d1_0) rfl rfl ?_
    show Sp p e below s₁ (mkF m 1 #[.val (.ref w_SNAPSHOT_DELETE)] [(.ref w_SNAPSHOT_DELETE)]) _
    refine st1 _ ?_
    show Sp p e below T1 (mkF m 4 #[.val (.ref w_SNAPSHOT_DELETE)] [(.ref w_DISK_ATTACH), (.ref w_SNAPSHOT_DELETE)]) _
    refine Jvm.RoadKit.acmp (g := (mkF m 4 #[.val (.ref w_SNAPSHOT_DELETE)] [(.ref w_DISK_ATTACH), (.ref w_SNAPSHOT_DELETE)])) X1 hx rfl rfl rfl (pc0 := 4) (pc' := 7) (same := false) rfl (hb hby d1_4) rfl (decide_eq_false fun q => (Ne.symm (ne_w_DISK_ATTACH_w_SNAPSHOT_DELETE hp)) (Value.ref.inj q)) (by decide) (by decide) ?_
    show Sp p e below T1 (mkF m 7 #[.val (.ref w_SNAPSHOT_DELETE)] []) _
    refine XS.aloadN X1.here hx rfl (hb hby d1_7) rfl rfl ?_
    show Sp p e below T1 (mkF m 8 #[.val (.ref w_SNAPSHOT_DELETE)] [(.ref w_SNAPSHOT_DELETE)]) _
    refine st2 _ ?_
    show Sp p e below T2 (mkF m 11 #[.val (.ref w_SNAPSHOT_DELETE)] [(.ref w_DISK_DETACH), (.ref w_SNAPSHOT_DELETE)]) _
    refine Jvm.RoadKit.acmp (g := (mkF m 11 #[.val (.ref w_SNAPSHOT_DELETE)] [(.ref w_DISK_DETACH), (.ref w_SNAPSHOT_DELETE)])) X2 hx rfl rfl rfl (pc0 := 11) (pc' := 14) (same := false) rfl (hb hby d1_11) rfl (decide_eq_false fun q => (Ne.symm (ne_w_DISK_DETACH_w_SNAPSHOT_DELETE hp)) (Value.ref.inj q)) (by decide) (by decide) ?_
    show Sp p e below T2 (mkF m 14 #[.val (.ref w_SNAPSHOT_DELETE)] []) _
    refine XS.aloadN X2.here hx rfl (hb hby d1_14) rfl rfl ?_
    show Sp p e below T2 (mkF m 15 #[.val (.ref w_SNAPSHOT_DELETE)] [(.ref w_SNAPSHOT_DELETE)]) _
    refine st3 _ ?_
    show Sp p e below T3 (mkF m 18 #[.val (.ref w_SNAPSHOT_DELETE)] [(.ref w_NIC_ATTACH), (.ref w_SNAPSHOT_DELETE)]) _
    refine Jvm.RoadKit.acmp (g := (mkF m 18 #[.val (.ref w_SNAPSHOT_DELETE)] [(.ref w_NIC_ATTACH), (.ref w_SNAPSHOT_DELETE)])) X3 hx rfl rfl rfl (pc0 := 18) (pc' := 21) (same := false) rfl (hb hby d1_18) rfl (decide_eq_false fun q => (Ne.symm (ne_w_NIC_ATTACH_w_SNAPSHOT_DELETE hp)) (Value.ref.inj q)) (by decide) (by decide) ?_
    show Sp p e below T3 (mkF m 21 #[.val (.ref w_SNAPSHOT_DELETE)] []) _
    refine XS.aloadN X3.here hx rfl (hb hby d1_21) rfl rfl ?_
    show Sp p e below T3 (mkF m 22 #[.val (.ref w_SNAPSHOT_DELETE)] [(.ref w_SNAPSHOT_DELETE)]) _
    refine st4 _ ?_
    show Sp p e below T4 (mkF m 25 #[.val (.ref w_SNAPSHOT_DELETE)] [(.ref w_NIC_DETACH), (.ref w_SNAPSHOT_DELETE)]) _
    refine Jvm.RoadKit.acmp (g := (mkF m 25 #[.val (.ref w_SNAPSHOT_DELETE)] [(.ref w_NIC_DETACH), (.ref w_SNAPSHOT_DELETE)])) X4 hx rfl rfl rfl (pc0 := 25) (pc' := 32) (same := false) rfl (hb hby d1_25) rfl (decide_eq_false fun q => (Ne.symm (ne_w_NIC_DETACH_w_SNAPSHOT_DELETE hp)) (Value.ref.inj q)) (by decide) (by decide) ?_
    show Sp p e below T4 (mkF m 32 #[.val (.ref w_SNAPSHOT_DELETE)] []) _
    refine XS.iconst X4.here hx rfl (hb hby d1_32) ?_
    show Sp p e below T4 (mkF m 33 #[.val (.ref w_SNAPSHOT_DELETE)] [(.int (0 : Int32))]) _
    exact retN X4 hx (t := .boolean) Bd.returns (by simp) (hb hby d1_33) hr
  · show Q19 Z w_PLATFORM_DEPLOY w_PLATFORM_DELETE w_SERVER_DEPLOY w_SERVER_START w_SERVER_STOP w_SERVER_DELETE w_DISK_ATTACH w_DISK_DETACH w_SNAPSHOT_CREATE w_SNAPSHOT_DELETE w_NIC_ATTACH w_NIC_DETACH  h0 n0 _ T4.heap _
    rw [e4]
    exact ⟨rfl, N0, rfl⟩
set_option maxRecDepth 65536 in
set_option maxHeartbeats 40000000 in
theorem rm20 (l : Launch) (Z : State) (a0 : Array Value) (hw : ∀ d ∈ tables_1, d.before a0 Z = true) (ws : List Jvm.Cond) (w_PLATFORM_DEPLOY w_PLATFORM_DELETE w_SERVER_DEPLOY w_SERVER_START w_SERVER_STOP w_SERVER_DELETE w_DISK_ATTACH w_DISK_DETACH w_SNAPSHOT_CREATE w_SNAPSHOT_DELETE w_NIC_ATTACH w_NIC_DETACH : Addr) (hp : Perm Z w_PLATFORM_DEPLOY w_PLATFORM_DELETE w_SERVER_DEPLOY w_SERVER_START w_SERVER_STOP w_SERVER_DELETE w_DISK_ATTACH w_DISK_DETACH w_SNAPSHOT_CREATE w_SNAPSHOT_DELETE w_NIC_ATTACH w_NIC_DETACH) (p0 : Int32) (h0 : Heap) (n0 : Nat) (O0 : Old Z n0 h0) (hc1 : ¬ (((p0 &&& (2147483647 : Int32)) % (12 : Int32)) = (0 : Int32))) (hc2 : ¬ (((p0 &&& (2147483647 : Int32)) % (12 : Int32)) = (1 : Int32))) (hc3 : ¬ (((p0 &&& (2147483647 : Int32)) % (12 : Int32)) = (2 : Int32))) (hc4 : ¬ (((p0 &&& (2147483647 : Int32)) % (12 : Int32)) = (3 : Int32))) (hc5 : ¬ (((p0 &&& (2147483647 : Int32)) % (12 : Int32)) = (4 : Int32))) (hc6 : ¬ (((p0 &&& (2147483647 : Int32)) % (12 : Int32)) = (5 : Int32))) (hc7 : ¬ (((p0 &&& (2147483647 : Int32)) % (12 : Int32)) = (6 : Int32))) (hc8 : ¬ (((p0 &&& (2147483647 : Int32)) % (12 : Int32)) = (7 : Int32))) (hc9 : ¬ (((p0 &&& (2147483647 : Int32)) % (12 : Int32)) = (8 : Int32))) (hc10 : ((p0 &&& (2147483647 : Int32)) % (12 : Int32)) = (9 : Int32)) :
    MetFree l x (head1 (Jvm.Cond.code x code maxLocals ret :: ws) room_1) (fun a U => a = #[(.int p0)] ∧ Z.Warmed39 U.vm ∧ U.heap = h0) (fun _ _ _ _ _ => True) (fun _ U o U' => ∃ v L, o = .returned v ∧ (v = some (.int (1 : Int32)) ∧ Fr n0 L) ∧ FrameEnd U o U' L 16 128) := by
  refine MetFree.of_bodySF (plainFor_of_name pn_0) hisR ?_
  intro p e s m args below meth c s₁ Bd hml0 hP hK
  obtain ⟨rfl, hZ, hh⟩ := hP
  have hx := Bd.exec
  have hby := Bd.bytes
  have hml : c.maxLocals = 5 := hml0
  have hown : s.vm.findClass "com/example/ratebook/ratebook/model/EventTypeIsAttachmentEventPinLaw" = some m.cls := findClass_of_methodNamed Bd.named
  have hnm := (name_of_methodNamed Bd.named Bd.method).1
  have X0 : Stand p l e room_1 s m #[(.int p0)] below meth c s₁ [] 0 0 := Stand.of_body Bd
  have e0 : s₁.heap = h0 := by rw [← hh, Bd.state]; rfl
  have N0 := Fr.nil n0
  have hp' := hp
  obtain ⟨S_w_PLATFORM_DEPLOY, E_w_PLATFORM_DEPLOY, S_w_PLATFORM_DELETE, E_w_PLATFORM_DELETE, S_w_SERVER_DEPLOY, E_w_SERVER_DEPLOY, S_w_SERVER_START, E_w_SERVER_START, S_w_SERVER_STOP, E_w_SERVER_STOP, S_w_SERVER_DELETE, E_w_SERVER_DELETE, S_w_DISK_ATTACH, E_w_DISK_ATTACH, S_w_DISK_DETACH, E_w_DISK_DETACH, S_w_SNAPSHOT_CREATE, E_w_SNAPSHOT_CREATE, S_w_SNAPSHOT_DELETE, E_w_SNAPSHOT_DELETE, S_w_NIC_ATTACH, E_w_NIC_ATTACH, S_w_NIC_DETACH, E_w_NIC_DETACH, F_ordinal_w_PLATFORM_DEPLOY, F_ordinal_w_DISK_ATTACH, F_ordinal_w_DISK_DETACH, F_ordinal_w_NIC_ATTACH, F_ordinal_w_NIC_DETACH, F_ordinal_w_SERVER_START, F_ordinal_w_SERVER_DEPLOY, F_ordinal_w_SERVER_STOP, F_ordinal_w_SNAPSHOT_CREATE, F_ordinal_w_PLATFORM_DELETE, F_ordinal_w_SNAPSHOT_DELETE, F_ordinal_w_SERVER_DELETE⟩ := hp'
  have pre0 : ∀ t, Steps p.tables e below (s₁.setTop (mkF m 0 #[.val (.int p0), .unset, .unset, .unset, .unset] [])) t → Steps p.tables e below (s₁.setTop (entryFrame m #[(.int p0)] maxLocals)) t := fun t k => castTop (ef_0_0 m p0) k
  obtain ⟨T1, h1, k1, X1, e1, E1, A1, EA1, Ov1, st1⟩ := newRE X0 hx hZ hown (hw _ (List.mem_of_getElem? (i := 0) rfl)) (hw _ (List.mem_of_getElem? (i := 1) rfl)) e0 (g := (mkF m 2 #[.val (.int p0), .unset, .unset, .unset, .unset] [(.int (12 : Int32))])) rfl (hb hby at_2) rfl (by decide) (cap := 12) (by decide) (by decide) (by decide) (by decide) (ad := "[Lcom/example/ratebook/ratebook/model/EventType;") (by decide)
  obtain ⟨b1, g1⟩ : ∃ z, z = h0.size := ⟨_, rfl⟩
  rw [← g1] at A1 EA1 st1
  have g_b1 : n0 ≤ b1 := Nat.le_trans (own_sz O0) (Nat.le_of_eq g1.symm)
  have sz_b1 : h0.size ≤ b1 := Nat.le_trans (Keep.refl h0 []).1 (Nat.le_of_eq g1.symm)
  have O1 := O0.ext E1
  have K1 : Keep h0 h1 [] := (Keep.refl h0 []).ext E1
  have V_b1 : Arv Z h1 b1 k1 (.object "com/example/ratebook/ratebook/model/EventType") (12 : Int32) [.null, .null, .null, .null, .null, .null, .null, .null, .null, .null, .null, .null] .null := (Arv.new A1 (by decide)).pad (pad_rep [] .null 12)
  obtain ⟨T2, X2, e2, st2⟩ := getS2 X1 hx hZ hown (host := "") (Or.inl (hw _ (List.mem_of_getElem? (i := 2) rfl))) Via.refl e1 (S_w_PLATFORM_DEPLOY.ext O1.2) (g := (mkF m 7 #[.val (.int p0), .unset, .unset, .unset, .unset] [(.int (0 : Int32)), (.ref b1), (.ref b1)])) rfl (hb hby at_7)
  obtain ⟨cl3, Ar3, q3, S3, Nn3, H3, G3⟩ := V_b1
  have hin3 : ¬ ((0 : Int32) < 0 ∨ cl3.slots.size ≤ ((0 : Int32)).toNatClampNeg) := inb_of S3 ⟨by decide, by decide⟩
  obtain ⟨T4, h4, X4, e4, W4, st4⟩ := stR X2 hx hZ e2 Ar3 (j := (0 : Int32)) hin3 rfl (Sto.ofV Ar3 q3 Ov1 (Ins.self (E_w_PLATFORM_DEPLOY.ext O1.2))) (g := (mkF m 10 #[.val (.int p0), .unset, .unset, .unset, .unset] [(.ref w_PLATFORM_DEPLOY), (.int (0 : Int32)), (.ref b1), (.ref b1)])) rfl rfl (hb hby at_10)
  have N4 := Fr.snoc X4 N0 g_b1
  have O4 := O1.wr W4 g_b1
  have K4 : Keep h0 h4 [] := K1.wr W4 (Or.inr sz_b1)
  have V_b1_4 : Arv Z h4 b1 k1 (.object "com/example/ratebook/ratebook/model/EventType") (12 : Int32) [(.ref w_PLATFORM_DEPLOY), .null, .null, .null, .null, .null, .null, .null, .null, .null, .null, .null] .null := Arv.set Ar3 q3 S3 Nn3 H3 G3 rfl W4 0 rfl (Nat.le_of_ble_eq_true rfl)
  obtain ⟨T5, X5, e5, st5⟩ := getS2 X4 hx hZ hown (host := "") (Or.inl (hw _ (List.mem_of_getElem? (i := 6) rfl))) Via.refl e4 (S_w_PLATFORM_DELETE.ext O4.2) (g := (mkF m 13 #[.val (.int p0), .unset, .unset, .unset, .unset] [(.int (1 : Int32)), (.ref b1), (.ref b1)])) rfl (hb hby at_13)
  obtain ⟨cl6, Ar6, q6, S6, Nn6, H6, G6⟩ := V_b1_4
  have hin6 : ¬ ((1 : Int32) < 0 ∨ cl6.slots.size ≤ ((1 : Int32)).toNatClampNeg) := inb_of S6 ⟨by decide, by decide⟩
  obtain ⟨T7, h7, X7, e7, W7, st7⟩ := stR X5 hx hZ e5 Ar6 (j := (1 : Int32)) hin6 rfl (Sto.ofV Ar6 q6 Ov1 (Ins.self (E_w_PLATFORM_DELETE.ext O4.2))) (g := (mkF m 16 #[.val (.int p0), .unset, .unset, .unset, .unset] [(.ref w_PLATFORM_DELETE), (.int (1 : Int32)), (.ref b1), (.ref b1)])) rfl rfl (hb hby at_16)
  have N7 := Fr.snoc X7 N4 g_b1
  have O7 := O4.wr W7 g_b1
  have K7 : Keep h0 h7 [] := K4.wr W7 (Or.inr sz_b1)
  have V_b1_7 : Arv Z h7 b1 k1 (.object "com/example/ratebook/ratebook/model/EventType") (12 : Int32) [(.ref w_PLATFORM_DEPLOY), (.ref w_PLATFORM_DELETE), .null, .null, .null, .null, .null, .null, .null, .null, .null, .null] .null := Arv.set Ar6 q6 S6 Nn6 H6 G6 rfl W7 1 rfl (Nat.le_of_ble_eq_true rfl)
  obtain ⟨T8, X8, e8, st8⟩ := getS2 X7 hx hZ hown (host := "") (Or.inl (hw _ (List.mem_of_getElem? (i := 8) rfl))) Via.refl e7 (S_w_SERVER_DEPLOY.ext O7.2) (g := (mkF m 19 #[.val (.int p0), .unset, .unset, .unset, .unset] [(.int (2 : Int32)), (.ref b1), (.ref b1)])) rfl (hb hby at_19)
  obtain ⟨cl9, Ar9, q9, S9, Nn9, H9, G9⟩ := V_b1_7
  have hin9 : ¬ ((2 : Int32) < 0 ∨ cl9.slots.size ≤ ((2 : Int32)).toNatClampNeg) := inb_of S9 ⟨by decide, by decide⟩
  obtain ⟨T10, h10, X10, e10, W10, st10⟩ := stR X8 hx hZ e8 Ar9 (j := (2 : Int32)) hin9 rfl (Sto.ofV Ar9 q9 Ov1 (Ins.self (E_w_SERVER_DEPLOY.ext O7.2))) (g := (mkF m 22 #[.val (.int p0), .unset, .unset, .unset, .unset] [(.ref w_SERVER_DEPLOY), (.int (2 : Int32)), (.ref b1), (.ref b1)])) rfl rfl (hb hby at_22)
  have N10 := Fr.snoc X10 N7 g_b1
  have O10 := O7.wr W10 g_b1
  have K10 : Keep h0 h10 [] := K7.wr W10 (Or.inr sz_b1)
  have V_b1_10 : Arv Z h10 b1 k1 (.object "com/example/ratebook/ratebook/model/EventType") (12 : Int32) [(.ref w_PLATFORM_DEPLOY), (.ref w_PLATFORM_DELETE), (.ref w_SERVER_DEPLOY), .null, .null, .null, .null, .null, .null, .null, .null, .null] .null := Arv.set Ar9 q9 S9 Nn9 H9 G9 rfl W10 2 rfl (Nat.le_of_ble_eq_true rfl)
  obtain ⟨T11, X11, e11, st11⟩ := getS2 X10 hx hZ hown (host := "") (Or.inl (hw _ (List.mem_of_getElem? (i := 10) rfl))) Via.refl e10 (S_w_SERVER_START.ext O10.2) (g := (mkF m 25 #[.val (.int p0), .unset, .unset, .unset, .unset] [(.int (3 : Int32)), (.ref b1), (.ref b1)])) rfl (hb hby at_25)
  obtain ⟨cl12, Ar12, q12, S12, Nn12, H12, G12⟩ := V_b1_10
  have hin12 : ¬ ((3 : Int32) < 0 ∨ cl12.slots.size ≤ ((3 : Int32)).toNatClampNeg) := inb_of S12 ⟨by decide, by decide⟩
  obtain ⟨T13, h13, X13, e13, W13, st13⟩ := stR X11 hx hZ e11 Ar12 (j := (3 : Int32)) hin12 rfl (Sto.ofV Ar12 q12 Ov1 (Ins.self (E_w_SERVER_START.ext O10.2))) (g := (mkF m 28 #[.val (.int p0), .unset, .unset, .unset, .unset] [(.ref w_SERVER_START), (.int (3 : Int32)), (.ref b1), (.ref b1)])) rfl rfl (hb hby at_28)
  have N13 := Fr.snoc X13 N10 g_b1
  have O13 := O10.wr W13 g_b1
  have K13 : Keep h0 h13 [] := K10.wr W13 (Or.inr sz_b1)
  have V_b1_13 : Arv Z h13 b1 k1 (.object "com/example/ratebook/ratebook/model/EventType") (12 : Int32) [(.ref w_PLATFORM_DEPLOY), (.ref w_PLATFORM_DELETE), (.ref w_SERVER_DEPLOY), (.ref w_SERVER_START), .null, .null, .null, .null, .null, .null, .null, .null] .null := Arv.set Ar12 q12 S12 Nn12 H12 G12 rfl W13 3 rfl (Nat.le_of_ble_eq_true rfl)
  obtain ⟨T14, X14, e14, st14⟩ := getS2 X13 hx hZ hown (host := "") (Or.inl (hw _ (List.mem_of_getElem? (i := 12) rfl))) Via.refl e13 (S_w_SERVER_STOP.ext O13.2) (g := (mkF m 31 #[.val (.int p0), .unset, .unset, .unset, .unset] [(.int (4 : Int32)), (.ref b1), (.ref b1)])) rfl (hb hby at_31)
  obtain ⟨cl15, Ar15, q15, S15, Nn15, H15, G15⟩ := V_b1_13
  have hin15 : ¬ ((4 : Int32) < 0 ∨ cl15.slots.size ≤ ((4 : Int32)).toNatClampNeg) := inb_of S15 ⟨by decide, by decide⟩
  obtain ⟨T16, h16, X16, e16, W16, st16⟩ := stR X14 hx hZ e14 Ar15 (j := (4 : Int32)) hin15 rfl (Sto.ofV Ar15 q15 Ov1 (Ins.self (E_w_SERVER_STOP.ext O13.2))) (g := (mkF m 34 #[.val (.int p0), .unset, .unset, .unset, .unset] [(.ref w_SERVER_STOP), (.int (4 : Int32)), (.ref b1), (.ref b1)])) rfl rfl (hb hby at_34)
  have N16 := Fr.snoc X16 N13 g_b1
  have O16 := O13.wr W16 g_b1
  have K16 : Keep h0 h16 [] := K13.wr W16 (Or.inr sz_b1)
  have V_b1_16 : Arv Z h16 b1 k1 (.object "com/example/ratebook/ratebook/model/EventType") (12 : Int32) [(.ref w_PLATFORM_DEPLOY), (.ref w_PLATFORM_DELETE), (.ref w_SERVER_DEPLOY), (.ref w_SERVER_START), (.ref w_SERVER_STOP), .null, .null, .null, .null, .null, .null, .null] .null := Arv.set Ar15 q15 S15 Nn15 H15 G15 rfl W16 4 rfl (Nat.le_of_ble_eq_true rfl)
  obtain ⟨T17, X17, e17, st17⟩ := getS2 X16 hx hZ hown (host := "") (Or.inl (hw _ (List.mem_of_getElem? (i := 14) rfl))) Via.refl e16 (S_w_SERVER_DELETE.ext O16.2) (g := (mkF m 37 #[.val (.int p0), .unset, .unset, .unset, .unset] [(.int (5 : Int32)), (.ref b1), (.ref b1)])) rfl (hb hby at_37)
  obtain ⟨cl18, Ar18, q18, S18, Nn18, H18, G18⟩ := V_b1_16
  have hin18 : ¬ ((5 : Int32) < 0 ∨ cl18.slots.size ≤ ((5 : Int32)).toNatClampNeg) := inb_of S18 ⟨by decide, by decide⟩
  obtain ⟨T19, h19, X19, e19, W19, st19⟩ := stR X17 hx hZ e17 Ar18 (j := (5 : Int32)) hin18 rfl (Sto.ofV Ar18 q18 Ov1 (Ins.self (E_w_SERVER_DELETE.ext O16.2))) (g := (mkF m 40 #[.val (.int p0), .unset, .unset, .unset, .unset] [(.ref w_SERVER_DELETE), (.int (5 : Int32)), (.ref b1), (.ref b1)])) rfl rfl (hb hby at_40)
  have N19 := Fr.snoc X19 N16 g_b1
  have O19 := O16.wr W19 g_b1
  have K19 : Keep h0 h19 [] := K16.wr W19 (Or.inr sz_b1)
  have V_b1_19 : Arv Z h19 b1 k1 (.object "com/example/ratebook/ratebook/model/EventType") (12 : Int32) [(.ref w_PLATFORM_DEPLOY), (.ref w_PLATFORM_DELETE), (.ref w_SERVER_DEPLOY), (.ref w_SERVER_START), (.ref w_SERVER_STOP), (.ref w_SERVER_DELETE), .null, .null, .null, .null, .null, .null] .null := Arv.set Ar18 q18 S18 Nn18 H18 G18 rfl W19 5 rfl (Nat.le_of_ble_eq_true rfl)
  obtain ⟨T20, X20, e20, st20⟩ := getS2 X19 hx hZ hown (host := "") (Or.inl (hw _ (List.mem_of_getElem? (i := 16) rfl))) Via.refl e19 (S_w_DISK_ATTACH.ext O19.2) (g := (mkF m 44 #[.val (.int p0), .unset, .unset, .unset, .unset] [(.int (6 : Int32)), (.ref b1), (.ref b1)])) rfl (hb hby at_44)
  obtain ⟨cl21, Ar21, q21, S21, Nn21, H21, G21⟩ := V_b1_19
  have hin21 : ¬ ((6 : Int32) < 0 ∨ cl21.slots.size ≤ ((6 : Int32)).toNatClampNeg) := inb_of S21 ⟨by decide, by decide⟩
  obtain ⟨T22, h22, X22, e22, W22, st22⟩ := stR X20 hx hZ e20 Ar21 (j := (6 : Int32)) hin21 rfl (Sto.ofV Ar21 q21 Ov1 (Ins.self (E_w_DISK_ATTACH.ext O19.2))) (g := (mkF m 47 #[.val (.int p0), .unset, .unset, .unset, .unset] [(.ref w_DISK_ATTACH), (.int (6 : Int32)), (.ref b1), (.ref b1)])) rfl rfl (hb hby at_47)
  have N22 := Fr.snoc X22 N19 g_b1
  have O22 := O19.wr W22 g_b1
  have K22 : Keep h0 h22 [] := K19.wr W22 (Or.inr sz_b1)
  have V_b1_22 : Arv Z h22 b1 k1 (.object "com/example/ratebook/ratebook/model/EventType") (12 : Int32) [(.ref w_PLATFORM_DEPLOY), (.ref w_PLATFORM_DELETE), (.ref w_SERVER_DEPLOY), (.ref w_SERVER_START), (.ref w_SERVER_STOP), (.ref w_SERVER_DELETE), (.ref w_DISK_ATTACH), .null, .null, .null, .null, .null] .null := Arv.set Ar21 q21 S21 Nn21 H21 G21 rfl W22 6 rfl (Nat.le_of_ble_eq_true rfl)
  obtain ⟨T23, X23, e23, st23⟩ := getS2 X22 hx hZ hown (host := "") (Or.inl (hw _ (List.mem_of_getElem? (i := 18) rfl))) Via.refl e22 (S_w_DISK_DETACH.ext O22.2) (g := (mkF m 51 #[.val (.int p0), .unset, .unset, .unset, .unset] [(.int (7 : Int32)), (.ref b1), (.ref b1)])) rfl (hb hby at_51)
  obtain ⟨cl24, Ar24, q24, S24, Nn24, H24, G24⟩ := V_b1_22
  have hin24 : ¬ ((7 : Int32) < 0 ∨ cl24.slots.size ≤ ((7 : Int32)).toNatClampNeg) := inb_of S24 ⟨by decide, by decide⟩
  obtain ⟨T25, h25, X25, e25, W25, st25⟩ := stR X23 hx hZ e23 Ar24 (j := (7 : Int32)) hin24 rfl (Sto.ofV Ar24 q24 Ov1 (Ins.self (E_w_DISK_DETACH.ext O22.2))) (g := (mkF m 54 #[.val (.int p0), .unset, .unset, .unset, .unset] [(.ref w_DISK_DETACH), (.int (7 : Int32)), (.ref b1), (.ref b1)])) rfl rfl (hb hby at_54)
  have N25 := Fr.snoc X25 N22 g_b1
  have O25 := O22.wr W25 g_b1
  have K25 : Keep h0 h25 [] := K22.wr W25 (Or.inr sz_b1)
  have V_b1_25 : Arv Z h25 b1 k1 (.object "com/example/ratebook/ratebook/model/EventType") (12 : Int32) [(.ref w_PLATFORM_DEPLOY), (.ref w_PLATFORM_DELETE), (.ref w_SERVER_DEPLOY), (.ref w_SERVER_START), (.ref w_SERVER_STOP), (.ref w_SERVER_DELETE), (.ref w_DISK_ATTACH), (.ref w_DISK_DETACH), .null, .null, .null, .null] .null := Arv.set Ar24 q24 S24 Nn24 H24 G24 rfl W25 7 rfl (Nat.le_of_ble_eq_true rfl)
  obtain ⟨T26, X26, e26, st26⟩ := getS2 X25 hx hZ hown (host := "") (Or.inl (hw _ (List.mem_of_getElem? (i := 20) rfl))) Via.refl e25 (S_w_SNAPSHOT_CREATE.ext O25.2) (g := (mkF m 58 #[.val (.int p0), .unset, .unset, .unset, .unset] [(.int (8 : Int32)), (.ref b1), (.ref b1)])) rfl (hb hby at_58)
  obtain ⟨cl27, Ar27, q27, S27, Nn27, H27, G27⟩ := V_b1_25
  have hin27 : ¬ ((8 : Int32) < 0 ∨ cl27.slots.size ≤ ((8 : Int32)).toNatClampNeg) := inb_of S27 ⟨by decide, by decide⟩
  obtain ⟨T28, h28, X28, e28, W28, st28⟩ := stR X26 hx hZ e26 Ar27 (j := (8 : Int32)) hin27 rfl (Sto.ofV Ar27 q27 Ov1 (Ins.self (E_w_SNAPSHOT_CREATE.ext O25.2))) (g := (mkF m 61 #[.val (.int p0), .unset, .unset, .unset, .unset] [(.ref w_SNAPSHOT_CREATE), (.int (8 : Int32)), (.ref b1), (.ref b1)])) rfl rfl (hb hby at_61)
  have N28 := Fr.snoc X28 N25 g_b1
  have O28 := O25.wr W28 g_b1
  have K28 : Keep h0 h28 [] := K25.wr W28 (Or.inr sz_b1)
  have V_b1_28 : Arv Z h28 b1 k1 (.object "com/example/ratebook/ratebook/model/EventType") (12 : Int32) [(.ref w_PLATFORM_DEPLOY), (.ref w_PLATFORM_DELETE), (.ref w_SERVER_DEPLOY), (.ref w_SERVER_START), (.ref w_SERVER_STOP), (.ref w_SERVER_DELETE), (.ref w_DISK_ATTACH), (.ref w_DISK_DETACH), (.ref w_SNAPSHOT_CREATE), .null, .null, .null] .null := Arv.set Ar27 q27 S27 Nn27 H27 G27 rfl W28 8 rfl (Nat.le_of_ble_eq_true rfl)
  obtain ⟨T29, X29, e29, st29⟩ := getS2 X28 hx hZ hown (host := "") (Or.inl (hw _ (List.mem_of_getElem? (i := 22) rfl))) Via.refl e28 (S_w_SNAPSHOT_DELETE.ext O28.2) (g := (mkF m 65 #[.val (.int p0), .unset, .unset, .unset, .unset] [(.int (9 : Int32)), (.ref b1), (.ref b1)])) rfl (hb hby at_65)
  obtain ⟨cl30, Ar30, q30, S30, Nn30, H30, G30⟩ := V_b1_28
  have hin30 : ¬ ((9 : Int32) < 0 ∨ cl30.slots.size ≤ ((9 : Int32)).toNatClampNeg) := inb_of S30 ⟨by decide, by decide⟩
  obtain ⟨T31, h31, X31, e31, W31, st31⟩ := stR X29 hx hZ e29 Ar30 (j := (9 : Int32)) hin30 rfl (Sto.ofV Ar30 q30 Ov1 (Ins.self (E_w_SNAPSHOT_DELETE.ext O28.2))) (g := (mkF m 68 #[.val (.int p0), .unset, .unset, .unset, .unset] [(.ref w_SNAPSHOT_DELETE), (.int (9 : Int32)), (.ref b1), (.ref b1)])) rfl rfl (hb hby at_68)
  have N31 := Fr.snoc X31 N28 g_b1
  have O31 := O28.wr W31 g_b1
  have K31 : Keep h0 h31 [] := K28.wr W31 (Or.inr sz_b1)
  have V_b1_31 : Arv Z h31 b1 k1 (.object "com/example/ratebook/ratebook/model/EventType") (12 : Int32) [(.ref w_PLATFORM_DEPLOY), (.ref w_PLATFORM_DELETE), (.ref w_SERVER_DEPLOY), (.ref w_SERVER_START), (.ref w_SERVER_STOP), (.ref w_SERVER_DELETE), (.ref w_DISK_ATTACH), (.ref w_DISK_DETACH), (.ref w_SNAPSHOT_CREATE), (.ref w_SNAPSHOT_DELETE), .null, .null] .null := Arv.set Ar30 q30 S30 Nn30 H30 G30 rfl W31 9 rfl (Nat.le_of_ble_eq_true rfl)
  obtain ⟨T32, X32, e32, st32⟩ := getS2 X31 hx hZ hown (host := "") (Or.inl (hw _ (List.mem_of_getElem? (i := 24) rfl))) Via.refl e31 (S_w_NIC_ATTACH.ext O31.2) (g := (mkF m 72 #[.val (.int p0), .unset, .unset, .unset, .unset] [(.int (10 : Int32)), (.ref b1), (.ref b1)])) rfl (hb hby at_72)
  obtain ⟨cl33, Ar33, q33, S33, Nn33, H33, G33⟩ := V_b1_31
  have hin33 : ¬ ((10 : Int32) < 0 ∨ cl33.slots.size ≤ ((10 : Int32)).toNatClampNeg) := inb_of S33 ⟨by decide, by decide⟩
  obtain ⟨T34, h34, X34, e34, W34, st34⟩ := stR X32 hx hZ e32 Ar33 (j := (10 : Int32)) hin33 rfl (Sto.ofV Ar33 q33 Ov1 (Ins.self (E_w_NIC_ATTACH.ext O31.2))) (g := (mkF m 75 #[.val (.int p0), .unset, .unset, .unset, .unset] [(.ref w_NIC_ATTACH), (.int (10 : Int32)), (.ref b1), (.ref b1)])) rfl rfl (hb hby at_75)
  have N34 := Fr.snoc X34 N31 g_b1
  have O34 := O31.wr W34 g_b1
  have K34 : Keep h0 h34 [] := K31.wr W34 (Or.inr sz_b1)
  have V_b1_34 : Arv Z h34 b1 k1 (.object "com/example/ratebook/ratebook/model/EventType") (12 : Int32) [(.ref w_PLATFORM_DEPLOY), (.ref w_PLATFORM_DELETE), (.ref w_SERVER_DEPLOY), (.ref w_SERVER_START), (.ref w_SERVER_STOP), (.ref w_SERVER_DELETE), (.ref w_DISK_ATTACH), (.ref w_DISK_DETACH), (.ref w_SNAPSHOT_CREATE), (.ref w_SNAPSHOT_DELETE), (.ref w_NIC_ATTACH), .null] .null := Arv.set Ar33 q33 S33 Nn33 H33 G33 rfl W34 10 rfl (Nat.le_of_ble_eq_true rfl)
  obtain ⟨T35, X35, e35, st35⟩ := getS2 X34 hx hZ hown (host := "") (Or.inl (hw _ (List.mem_of_getElem? (i := 26) rfl))) Via.refl e34 (S_w_NIC_DETACH.ext O34.2) (g := (mkF m 79 #[.val (.int p0), .unset, .unset, .unset, .unset] [(.int (11 : Int32)), (.ref b1), (.ref b1)])) rfl (hb hby at_79)
  obtain ⟨cl36, Ar36, q36, S36, Nn36, H36, G36⟩ := V_b1_34
  have hin36 : ¬ ((11 : Int32) < 0 ∨ cl36.slots.size ≤ ((11 : Int32)).toNatClampNeg) := inb_of S36 ⟨by decide, by decide⟩
  obtain ⟨T37, h37, X37, e37, W37, st37⟩ := stR X35 hx hZ e35 Ar36 (j := (11 : Int32)) hin36 rfl (Sto.ofV Ar36 q36 Ov1 (Ins.self (E_w_NIC_DETACH.ext O34.2))) (g := (mkF m 82 #[.val (.int p0), .unset, .unset, .unset, .unset] [(.ref w_NIC_DETACH), (.int (11 : Int32)), (.ref b1), (.ref b1)])) rfl rfl (hb hby at_82)
  have N37 := Fr.snoc X37 N34 g_b1
  have O37 := O34.wr W37 g_b1
  have K37 : Keep h0 h37 [] := K34.wr W37 (Or.inr sz_b1)
  have V_b1_37 : Arv Z h37 b1 k1 (.object "com/example/ratebook/ratebook/model/EventType") (12 : Int32) [(.ref w_PLATFORM_DEPLOY), (.ref w_PLATFORM_DELETE), (.ref w_SERVER_DEPLOY), (.ref w_SERVER_START), (.ref w_SERVER_STOP), (.ref w_SERVER_DELETE), (.ref w_DISK_ATTACH), (.ref w_DISK_DETACH), (.ref w_SNAPSHOT_CREATE), (.ref w_SNAPSHOT_DELETE), (.ref w_NIC_ATTACH), (.ref w_NIC_DETACH)] .null := Arv.set Ar36 q36 S36 Nn36 H36 G36 rfl W37 11 rfl (Nat.le_of_ble_eq_true rfl)
  obtain ⟨cl38, Ar38, -, S38, -, H38, -⟩ := V_b1_37
  have hin38 : ¬ (((p0 &&& (2147483647 : Int32)) % (12 : Int32)) < 0 ∨ cl38.slots.size ≤ (((p0 &&& (2147483647 : Int32)) % (12 : Int32))).toNatClampNeg) := inb_of S38 (by rw [hc10]; decide)
  have hat38 : cl38.slots[(((p0 &&& (2147483647 : Int32)) % (12 : Int32))).toNatClampNeg]? = some (.ref w_SNAPSHOT_DELETE) := H38.at hin38 (by rw [hc10]; rfl)
  obtain ⟨cq39, kq39, q39a, q39b, q39c⟩ := isOf hZ e37 (E_w_SNAPSHOT_DELETE.ext O37.2)
  obtain ⟨_, _, ⟨T39, L39, k39, n39⟩, -, X39, ⟨Lc39, hQ39, l39, y39, z39⟩, st39⟩ := X37.virtualBack hx (y := y0) (z := y0) hown (mvT hZ (hw _ (List.mem_of_getElem? (i := 29) rfl))) (mvT hZ (hw _ (List.mem_of_getElem? (i := 30) rfl))) (notFace_of_selects (args := #[]) (mvT hZ (hw _ (List.mem_of_getElem? (i := 32) rfl)))) (mvT hZ (hw _ (List.mem_of_getElem? (i := 32) rfl))) (mvT hZ (hw _ (List.mem_of_getElem? (i := 31) rfl))) (by decide) (backOf (W := 0) (rm19 l Z a0 hw [] w_PLATFORM_DEPLOY w_PLATFORM_DELETE w_SERVER_DEPLOY w_SERVER_START w_SERVER_STOP w_SERVER_DELETE w_DISK_ATTACH w_DISK_DETACH w_SNAPSHOT_CREATE w_SNAPSHOT_DELETE w_NIC_ATTACH w_NIC_DETACH hp h37 n0 O37) hZ (hw _ (List.mem_of_getElem? (i := 33) rfl)) (hw _ (List.mem_of_getElem? (i := 3) rfl)) (by decide) (by decide)) q39a q39c (g := (mkF m 145 #[.val (.int p0), .val (.ref b1), .val (.int ((p0 &&& (2147483647 : Int32)) % (12 : Int32))), .val (.ref w_SNAPSHOT_DELETE), .val (.int (0 : Int32))] [(.ref w_SNAPSHOT_DELETE)])) rfl (by rw [hml]; rfl) (Steps.refl _) (argsL := []) (rest := []) (lenOf pd_0 rfl) rfl (by show 2 * 0 + _ ≤ _; exact Nat.le_of_eq rfl) (hb hby at_145) (fun _ _ => ⟨rfl, e37, (by decide : 1 + 0 ≤ _), (by decide : 12 + 0 ≤ _)⟩)
  dsimp only [Pt.U, Pt.locs, Pt.cells, Pt.slots] at X39 l39 y39 z39 st39 hQ39
  subst l39 y39 z39
  obtain ⟨rfl, Nq39, eq39⟩ := hQ39
  have N39 := Fr.app N37 Nq39
  obtain ⟨fs, hr, hrun, hended, hW, hsame⟩ := X39.leave (v := some (.int (1 : Int32))) (fun h => by rw [Bd.returns] at h; cases h)
  refine ⟨_, _, pre0 _ ?_, hrun, hended, _, _, rfl, ?_, ⟨_, rfl⟩, hW, hsame.mono (by decide) (by decide)⟩
  · show Sp p e below s₁ (mkF m 0 #[.val (.int p0), .unset, .unset, .unset, .unset] []) _
    refine XS.bipush X0.here hx rfl (hb hby at_0) ?_
    show Sp p e below s₁ (mkF m 2 #[.val (.int p0), .unset, .unset, .unset, .unset] [(.int (12 : Int32))]) _
    refine st1 _ ?_
    show Sp p e below T1 (mkF m 5 #[.val (.int p0), .unset, .unset, .unset, .unset] [(.ref b1)]) _
    refine XS.dup X1.here hx rfl (hb hby at_5) rfl rfl ?_
    show Sp p e below T1 (mkF m 6 #[.val (.int p0), .unset, .unset, .unset, .unset] [(.ref b1), (.ref b1)]) _
    refine XS.iconst X1.here hx rfl (hb hby at_6) ?_
    show Sp p e below T1 (mkF m 7 #[.val (.int p0), .unset, .unset, .unset, .unset] [(.int (0 : Int32)), (.ref b1), (.ref b1)]) _
    refine st2 _ ?_
    show Sp p e below T2 (mkF m 10 #[.val (.int p0), .unset, .unset, .unset, .unset] [(.ref w_PLATFORM_DEPLOY), (.int (0 : Int32)), (.ref b1), (.ref b1)]) _
    refine st4 _ ?_
    show Sp p e below T4 (mkF m 11 #[.val (.int p0), .unset, .unset, .unset, .unset] [(.ref b1)]) _
    refine XS.dup X4.here hx rfl (hb hby at_11) rfl rfl ?_
    show Sp p e below T4 (mkF m 12 #[.val (.int p0), .unset, .unset, .unset, .unset] [(.ref b1), (.ref b1)]) _
    refine XS.iconst X4.here hx rfl (hb hby at_12) ?_
    show Sp p e below T4 (mkF m 13 #[.val (.int p0), .unset, .unset, .unset, .unset] [(.int (1 : Int32)), (.ref b1), (.ref b1)]) _
    refine st5 _ ?_
    show Sp p e below T5 (mkF m 16 #[.val (.int p0), .unset, .unset, .unset, .unset] [(.ref w_PLATFORM_DELETE), (.int (1 : Int32)), (.ref b1), (.ref b1)]) _
    refine st7 _ ?_
    show Sp p e below T7 (mkF m 17 #[.val (.int p0), .unset, .unset, .unset, .unset] [(.ref b1)]) _
    refine XS.dup X7.here hx rfl (hb hby at_17) rfl rfl ?_
    show Sp p e below T7 (mkF m 18 #[.val (.int p0), .unset, .unset, .unset, .unset] [(.ref b1), (.ref b1)]) _
    refine XS.iconst X7.here hx rfl (hb hby at_18) ?_
    show Sp p e below T7 (mkF m 19 #[.val (.int p0), .unset, .unset, .unset, .unset] [(.int (2 : Int32)), (.ref b1), (.ref b1)]) _
    refine st8 _ ?_
    show Sp p e below T8 (mkF m 22 #[.val (.int p0), .unset, .unset, .unset, .unset] [(.ref w_SERVER_DEPLOY), (.int (2 : Int32)), (.ref b1), (.ref b1)]) _
    refine st10 _ ?_
    show Sp p e below T10 (mkF m 23 #[.val (.int p0), .unset, .unset, .unset, .unset] [(.ref b1)]) _
    refine XS.dup X10.here hx rfl (hb hby at_23) rfl rfl ?_
    show Sp p e below T10 (mkF m 24 #[.val (.int p0), .unset, .unset, .unset, .unset] [(.ref b1), (.ref b1)]) _
    refine XS.iconst X10.here hx rfl (hb hby at_24) ?_
    show Sp p e below T10 (mkF m 25 #[.val (.int p0), .unset, .unset, .unset, .unset] [(.int (3 : Int32)), (.ref b1), (.ref b1)]) _
    refine st11 _ ?_
    show Sp p e below T11 (mkF m 28 #[.val (.int p0), .unset, .unset, .unset, .unset] [(.ref w_SERVER_START), (.int (3 : Int32)), (.ref b1), (.ref b1)]) _
    refine st13 _ ?_
    show Sp p e below T13 (mkF m 29 #[.val (.int p0), .unset, .unset, .unset, .unset] [(.ref b1)]) _
    refine XS.dup X13.here hx rfl (hb hby at_29) rfl rfl ?_
    show Sp p e below T13 (mkF m 30 #[.val (.int p0), .unset, .unset, .unset, .unset] [(.ref b1), (.ref b1)]) _
    refine XS.iconst X13.here hx rfl (hb hby at_30) ?_
    show Sp p e below T13 (mkF m 31 #[.val (.int p0), .unset, .unset, .unset, .unset] [(.int (4 : Int32)), (.ref b1), (.ref b1)]) _
    refine st14 _ ?_
    show Sp p e below T14 (mkF m 34 #[.val (.int p0), .unset, .unset, .unset, .unset] [(.ref w_SERVER_STOP), (.int (4 : Int32)), (.ref b1), (.ref b1)]) _
    refine st16 _ ?_
    show Sp p e below T16 (mkF m 35 #[.val (.int p0), .unset, .unset, .unset, .unset] [(.ref b1)]) _
    refine XS.dup X16.here hx rfl (hb hby at_35) rfl rfl ?_
    show Sp p e below T16 (mkF m 36 #[.val (.int p0), .unset, .unset, .unset, .unset] [(.ref b1), (.ref b1)]) _
    refine XS.iconst X16.here hx rfl (hb hby at_36) ?_
    show Sp p e below T16 (mkF m 37 #[.val (.int p0), .unset, .unset, .unset, .unset] [(.int (5 : Int32)), (.ref b1), (.ref b1)]) _
    refine st17 _ ?_
    show Sp p e below T17 (mkF m 40 #[.val (.int p0), .unset, .unset, .unset, .unset] [(.ref w_SERVER_DELETE), (.int (5 : Int32)), (.ref b1), (.ref b1)]) _
    refine st19 _ ?_
    show Sp p e below T19 (mkF m 41 #[.val (.int p0), .unset, .unset, .unset, .unset] [(.ref b1)]) _
    refine XS.dup X19.here hx rfl (hb hby at_41) rfl rfl ?_
    show Sp p e below T19 (mkF m 42 #[.val (.int p0), .unset, .unset, .unset, .unset] [(.ref b1), (.ref b1)]) _
    refine XS.bipush X19.here hx rfl (hb hby at_42) ?_
    show Sp p e below T19 (mkF m 44 #[.val (.int p0), .unset, .unset, .unset, .unset] [(.int (6 : Int32)), (.ref b1), (.ref b1)]) _
    refine st20 _ ?_
    show Sp p e below T20 (mkF m 47 #[.val (.int p0), .unset, .unset, .unset, .unset] [(.ref w_DISK_ATTACH), (.int (6 : Int32)), (.ref b1), (.ref b1)]) _
    refine st22 _ ?_
    show Sp p e below T22 (mkF m 48 #[.val (.int p0), .unset, .unset, .unset, .unset] [(.ref b1)]) _
    refine XS.dup X22.here hx rfl (hb hby at_48) rfl rfl ?_
    show Sp p e below T22 (mkF m 49 #[.val (.int p0), .unset, .unset, .unset, .unset] [(.ref b1), (.ref b1)]) _
    refine XS.bipush X22.here hx rfl (hb hby at_49) ?_
    show Sp p e below T22 (mkF m 51 #[.val (.int p0), .unset, .unset, .unset, .unset] [(.int (7 : Int32)), (.ref b1), (.ref b1)]) _
    refine st23 _ ?_
    show Sp p e below T23 (mkF m 54 #[.val (.int p0), .unset, .unset, .unset, .unset] [(.ref w_DISK_DETACH), (.int (7 : Int32)), (.ref b1), (.ref b1)]) _
    refine st25 _ ?_
    show Sp p e below T25 (mkF m 55 #[.val (.int p0), .unset, .unset, .unset, .unset] [(.ref b1)]) _
    refine XS.dup X25.here hx rfl (hb hby at_55) rfl rfl ?_
    show Sp p e below T25 (mkF m 56 #[.val (.int p0), .unset, .unset, .unset, .unset] [(.ref b1), (.ref b1)]) _
    refine XS.bipush X25.here hx rfl (hb hby at_56) ?_
    show Sp p e below T25 (mkF m 58 #[.val (.int p0), .unset, .unset, .unset, .unset] [(.int (8 : Int32)), (.ref b1), (.ref b1)]) _
    refine st26 _ ?_
    show Sp p e below T26 (mkF m 61 #[.val (.int p0), .unset, .unset, .unset, .unset] [(.ref w_SNAPSHOT_CREATE), (.int (8 : Int32)), (.ref b1), (.ref b1)]) _
    refine st28 _ ?_
    show Sp p e below T28 (mkF m 62 #[.val (.int p0), .unset, .unset, .unset, .unset] [(.ref b1)]) _
    refine XS.dup X28.here hx rfl (hb hby at_62) rfl rfl ?_
    show Sp p e below T28 (mkF m 63 #[.val (.int p0), .unset, .unset, .unset, .unset] [(.ref b1), (.ref b1)]) _
    refine XS.bipush X28.here hx rfl (hb hby at_63) ?_
    show Sp p e below T28 (mkF m 65 #[.val (.int p0), .unset, .unset, .unset, .unset] [(.int (9 : Int32)), (.ref b1), (.ref b1)]) _
    refine st29 _ ?_
    show Sp p e below T29 (mkF m 68 #[.val (.int p0), .unset, .unset, .unset, .unset] [(.ref w_SNAPSHOT_DELETE), (.int (9 : Int32)), (.ref b1), (.ref b1)]) _
    refine st31 _ ?_
    show Sp p e below T31 (mkF m 69 #[.val (.int p0), .unset, .unset, .unset, .unset] [(.ref b1)]) _
    refine XS.dup X31.here hx rfl (hb hby at_69) rfl rfl ?_
    show Sp p e below T31 (mkF m 70 #[.val (.int p0), .unset, .unset, .unset, .unset] [(.ref b1), (.ref b1)]) _
    refine XS.bipush X31.here hx rfl (hb hby at_70) ?_
    show Sp p e below T31 (mkF m 72 #[.val (.int p0), .unset, .unset, .unset, .unset] [(.int (10 : Int32)), (.ref b1), (.ref b1)]) _
    refine st32 _ ?_
    show Sp p e below T32 (mkF m 75 #[.val (.int p0), .unset, .unset, .unset, .unset] [(.ref w_NIC_ATTACH), (.int (10 : Int32)), (.ref b1), (.ref b1)]) _
    refine st34 _ ?_
    show Sp p e below T34 (mkF m 76 #[.val (.int p0), .unset, .unset, .unset, .unset] [(.ref b1)]) _
    refine XS.dup X34.here hx rfl (hb hby at_76) rfl rfl ?_
    show Sp p e below T34 (mkF m 77 #[.val (.int p0), .unset, .unset, .unset, .unset] [(.ref b1), (.ref b1)]) _
    refine XS.bipush X34.here hx rfl (hb hby at_77) ?_
    show Sp p e below T34 (mkF m 79 #[.val (.int p0), .unset, .unset, .unset, .unset] [(.int (11 : Int32)), (.ref b1), (.ref b1)]) _
    refine st35 _ ?_
    show Sp p e below T35 (mkF m 82 #[.val (.int p0), .unset, .unset, .unset, .unset] [(.ref w_NIC_DETACH), (.int (11 : Int32)), (.ref b1), (.ref b1)]) _
    refine st37 _ ?_
    show Sp p e below T37 (mkF m 83 #[.val (.int p0), .unset, .unset, .unset, .unset] [(.ref b1)]) _
    refine XS.astoreN X37.here hx rfl (hb hby at_83) rfl rfl (l' := #[.val (.int p0), .val (.ref b1), .unset, .unset, .unset]) rfl ?_
    show Sp p e below T37 (mkF m 84 #[.val (.int p0), .val (.ref b1), .unset, .unset, .unset] []) _
    refine XS.iloadN X37.here hx rfl (hb hby at_84) rfl ?_
    show Sp p e below T37 (mkF m 85 #[.val (.int p0), .val (.ref b1), .unset, .unset, .unset] [(.int p0)]) _
    refine X37.ldcI hx hown (mvT hZ (hw _ (List.mem_of_getElem? (i := 28) rfl))) rfl (hb hby at_85) ?_
    show Sp p e below T37 (mkF m 87 #[.val (.int p0), .val (.ref b1), .unset, .unset, .unset] [(.int (2147483647 : Int32)), (.int p0)]) _
    refine XS.iand X37.here hx rfl (hb hby at_87) rfl ?_
    show Sp p e below T37 (mkF m 88 #[.val (.int p0), .val (.ref b1), .unset, .unset, .unset] [(.int (p0 &&& (2147483647 : Int32)))]) _
    refine XS.bipush X37.here hx rfl (hb hby at_88) ?_
    show Sp p e below T37 (mkF m 90 #[.val (.int p0), .val (.ref b1), .unset, .unset, .unset] [(.int (12 : Int32)), (.int (p0 &&& (2147483647 : Int32)))]) _
    refine iremM X37 hx rfl (hb hby at_90) rfl (by decide) ?_
    show Sp p e below T37 (mkF m 91 #[.val (.int p0), .val (.ref b1), .unset, .unset, .unset] [(.int ((p0 &&& (2147483647 : Int32)) % (12 : Int32)))]) _
    refine XS.istoreN X37.here hx rfl (hb hby at_91) rfl (l' := #[.val (.int p0), .val (.ref b1), .val (.int ((p0 &&& (2147483647 : Int32)) % (12 : Int32))), .unset, .unset]) rfl ?_
    show Sp p e below T37 (mkF m 92 #[.val (.int p0), .val (.ref b1), .val (.int ((p0 &&& (2147483647 : Int32)) % (12 : Int32))), .unset, .unset] []) _
    refine XS.aloadN X37.here hx rfl (hb hby at_92) rfl rfl ?_
    show Sp p e below T37 (mkF m 93 #[.val (.int p0), .val (.ref b1), .val (.int ((p0 &&& (2147483647 : Int32)) % (12 : Int32))), .unset, .unset] [(.ref b1)]) _
    refine XS.iloadN X37.here hx rfl (hb hby at_93) rfl ?_
    show Sp p e below T37 (mkF m 94 #[.val (.int p0), .val (.ref b1), .val (.int ((p0 &&& (2147483647 : Int32)) % (12 : Int32))), .unset, .unset] [(.int ((p0 &&& (2147483647 : Int32)) % (12 : Int32))), (.ref b1)]) _
    refine X37.aaload hx (j := ((p0 &&& (2147483647 : Int32)) % (12 : Int32))) (v := (.ref w_SNAPSHOT_DELETE)) (by rw [e37]; exact Ar38.1) (State.isArrayOf_alike hZ.alike Ar38.2.1) rfl Ar38.2.2 hin38 hat38 (g := (mkF m 94 #[.val (.int p0), .val (.ref b1), .val (.int ((p0 &&& (2147483647 : Int32)) % (12 : Int32))), .unset, .unset] [(.int ((p0 &&& (2147483647 : Int32)) % (12 : Int32))), (.ref b1)])) rfl rfl (hb hby at_94) _ ?_
    show Sp p e below T37 (mkF m 95 #[.val (.int p0), .val (.ref b1), .val (.int ((p0 &&& (2147483647 : Int32)) % (12 : Int32))), .unset, .unset] [(.ref w_SNAPSHOT_DELETE)]) _
    refine XS.astoreN X37.here hx rfl (hb hby at_95) rfl rfl (l' := #[.val (.int p0), .val (.ref b1), .val (.int ((p0 &&& (2147483647 : Int32)) % (12 : Int32))), .val (.ref w_SNAPSHOT_DELETE), .unset]) rfl ?_
    show Sp p e below T37 (mkF m 96 #[.val (.int p0), .val (.ref b1), .val (.int ((p0 &&& (2147483647 : Int32)) % (12 : Int32))), .val (.ref w_SNAPSHOT_DELETE), .unset] []) _
    refine XS.iconst X37.here hx rfl (hb hby at_96) ?_
    show Sp p e below T37 (mkF m 97 #[.val (.int p0), .val (.ref b1), .val (.int ((p0 &&& (2147483647 : Int32)) % (12 : Int32))), .val (.ref w_SNAPSHOT_DELETE), .unset] [(.int (0 : Int32))]) _
    refine XS.istore X37.here hx rfl (hb hby at_97) rfl (l' := #[.val (.int p0), .val (.ref b1), .val (.int ((p0 &&& (2147483647 : Int32)) % (12 : Int32))), .val (.ref w_SNAPSHOT_DELETE), .val (.int (0 : Int32))]) rfl ?_
    show Sp p e below T37 (mkF m 99 #[.val (.int p0), .val (.ref b1), .val (.int ((p0 &&& (2147483647 : Int32)) % (12 : Int32))), .val (.ref w_SNAPSHOT_DELETE), .val (.int (0 : Int32))] []) _
    refine XS.iloadN X37.here hx rfl (hb hby at_99) rfl ?_
    show Sp p e below T37 (mkF m 100 #[.val (.int p0), .val (.ref b1), .val (.int ((p0 &&& (2147483647 : Int32)) % (12 : Int32))), .val (.ref w_SNAPSHOT_DELETE), .val (.int (0 : Int32))] [(.int ((p0 &&& (2147483647 : Int32)) % (12 : Int32)))]) _
    refine XS.bipush X37.here hx rfl (hb hby at_100) ?_
    show Sp p e below T37 (mkF m 102 #[.val (.int p0), .val (.ref b1), .val (.int ((p0 &&& (2147483647 : Int32)) % (12 : Int32))), .val (.ref w_SNAPSHOT_DELETE), .val (.int (0 : Int32))] [(.int (6 : Int32)), (.int ((p0 &&& (2147483647 : Int32)) % (12 : Int32)))]) _
    refine XS.icmpYes X37.here hx rfl (pc0 := 102) (pc' := 111) rfl (hb hby at_102) rfl (feq hc7).2 (by decide) (by decide) ?_
    show Sp p e below T37 (mkF m 111 #[.val (.int p0), .val (.ref b1), .val (.int ((p0 &&& (2147483647 : Int32)) % (12 : Int32))), .val (.ref w_SNAPSHOT_DELETE), .val (.int (0 : Int32))] []) _
    refine XS.iloadN X37.here hx rfl (hb hby at_111) rfl ?_
    show Sp p e below T37 (mkF m 112 #[.val (.int p0), .val (.ref b1), .val (.int ((p0 &&& (2147483647 : Int32)) % (12 : Int32))), .val (.ref w_SNAPSHOT_DELETE), .val (.int (0 : Int32))] [(.int ((p0 &&& (2147483647 : Int32)) % (12 : Int32)))]) _
    refine XS.bipush X37.here hx rfl (hb hby at_112) ?_
    show Sp p e below T37 (mkF m 114 #[.val (.int p0), .val (.ref b1), .val (.int ((p0 &&& (2147483647 : Int32)) % (12 : Int32))), .val (.ref w_SNAPSHOT_DELETE), .val (.int (0 : Int32))] [(.int (7 : Int32)), (.int ((p0 &&& (2147483647 : Int32)) % (12 : Int32)))]) _
    refine XS.icmpYes X37.here hx rfl (pc0 := 114) (pc' := 123) rfl (hb hby at_114) rfl (feq hc8).2 (by decide) (by decide) ?_
    show Sp p e below T37 (mkF m 123 #[.val (.int p0), .val (.ref b1), .val (.int ((p0 &&& (2147483647 : Int32)) % (12 : Int32))), .val (.ref w_SNAPSHOT_DELETE), .val (.int (0 : Int32))] []) _
    refine XS.iloadN X37.here hx rfl (hb hby at_123) rfl ?_
    show Sp p e below T37 (mkF m 124 #[.val (.int p0), .val (.ref b1), .val (.int ((p0 &&& (2147483647 : Int32)) % (12 : Int32))), .val (.ref w_SNAPSHOT_DELETE), .val (.int (0 : Int32))] [(.int ((p0 &&& (2147483647 : Int32)) % (12 : Int32)))]) _
    refine XS.bipush X37.here hx rfl (hb hby at_124) ?_
    show Sp p e below T37 (mkF m 126 #[.val (.int p0), .val (.ref b1), .val (.int ((p0 &&& (2147483647 : Int32)) % (12 : Int32))), .val (.ref w_SNAPSHOT_DELETE), .val (.int (0 : Int32))] [(.int (10 : Int32)), (.int ((p0 &&& (2147483647 : Int32)) % (12 : Int32)))]) _
    refine XS.icmpYes X37.here hx rfl (pc0 := 126) (pc' := 135) rfl (hb hby at_126) rfl (feq (by rw [hc10]; decide : ¬ (((p0 &&& (2147483647 : Int32)) % (12 : Int32)) = (10 : Int32)))).2 (by decide) (by decide) ?_
    show Sp p e below T37 (mkF m 135 #[.val (.int p0), .val (.ref b1), .val (.int ((p0 &&& (2147483647 : Int32)) % (12 : Int32))), .val (.ref w_SNAPSHOT_DELETE), .val (.int (0 : Int32))] []) _
    refine XS.iloadN X37.here hx rfl (hb hby at_135) rfl ?_
    show Sp p e below T37 (mkF m 136 #[.val (.int p0), .val (.ref b1), .val (.int ((p0 &&& (2147483647 : Int32)) % (12 : Int32))), .val (.ref w_SNAPSHOT_DELETE), .val (.int (0 : Int32))] [(.int ((p0 &&& (2147483647 : Int32)) % (12 : Int32)))]) _
    refine XS.bipush X37.here hx rfl (hb hby at_136) ?_
    show Sp p e below T37 (mkF m 138 #[.val (.int p0), .val (.ref b1), .val (.int ((p0 &&& (2147483647 : Int32)) % (12 : Int32))), .val (.ref w_SNAPSHOT_DELETE), .val (.int (0 : Int32))] [(.int (11 : Int32)), (.int ((p0 &&& (2147483647 : Int32)) % (12 : Int32)))]) _
    refine XS.icmpYes X37.here hx rfl (pc0 := 138) (pc' := 144) rfl (hb hby at_138) rfl (feq (by rw [hc10]; decide : ¬ (((p0 &&& (2147483647 : Int32)) % (12 : Int32)) = (11 : Int32)))).2 (by decide) (by decide) ?_
    show Sp p e below T37 (mkF m 144 #[.val (.int p0), .val (.ref b1), .val (.int ((p0 &&& (2147483647 : Int32)) % (12 : Int32))), .val (.ref w_SNAPSHOT_DELETE), .val (.int (0 : Int32))] []) _
    refine XS.aloadN X37.here hx rfl (hb hby at_144) rfl rfl ?_
    show Sp p e below T37 (mkF m 145 #[.val (.int p0), .val (.ref b1), .val (.int ((p0 &&& (2147483647 : Int32)) % (12 : Int32))), .val (.ref w_SNAPSHOT_DELETE), .val (.int (0 : Int32))] [(.ref w_SNAPSHOT_DELETE)]) _
    refine st39.trans ?_
    show Sp p e below T39 (mkF m 148 #[.val (.int p0), .val (.ref b1), .val (.int ((p0 &&& (2147483647 : Int32)) % (12 : Int32))), .val (.ref w_SNAPSHOT_DELETE), .val (.int (0 : Int32))] [(.int (0 : Int32))]) _
    refine XS.iload X39.here hx rfl (hb hby at_148) rfl ?_
    show Sp p e below T39 (mkF m 150 #[.val (.int p0), .val (.ref b1), .val (.int ((p0 &&& (2147483647 : Int32)) % (12 : Int32))), .val (.ref w_SNAPSHOT_DELETE), .val (.int (0 : Int32))] [(.int (0 : Int32)), (.int (0 : Int32))]) _
    refine XS.icmpNo X39.here hx rfl (hb hby at_150) rfl (teq (by decide : (0 : Int32) = (0 : Int32))).2 ?_
    show Sp p e below T39 (mkF m 153 #[.val (.int p0), .val (.ref b1), .val (.int ((p0 &&& (2147483647 : Int32)) % (12 : Int32))), .val (.ref w_SNAPSHOT_DELETE), .val (.int (0 : Int32))] []) _
    refine XS.iconst X39.here hx rfl (hb hby at_153) ?_
    show Sp p e below T39 (mkF m 154 #[.val (.int p0), .val (.ref b1), .val (.int ((p0 &&& (2147483647 : Int32)) % (12 : Int32))), .val (.ref w_SNAPSHOT_DELETE), .val (.int (0 : Int32))] [(.int (1 : Int32))]) _
    refine XS.goto X39.here hx rfl (pc0 := 154) (pc' := 158) rfl (hb hby at_154) (by decide) (by decide) ?_
    show Sp p e below T39 (mkF m 158 #[.val (.int p0), .val (.ref b1), .val (.int ((p0 &&& (2147483647 : Int32)) % (12 : Int32))), .val (.ref w_SNAPSHOT_DELETE), .val (.int (0 : Int32))] [(.int (1 : Int32))]) _
    exact retN X39 hx (t := .boolean) Bd.returns (by simp) (hb hby at_158) hr
  · skip
    exact ⟨rfl, N39⟩
def Q21 (Z : State) (w_PLATFORM_DEPLOY : Addr) (w_PLATFORM_DELETE : Addr) (w_SERVER_DEPLOY : Addr) (w_SERVER_START : Addr) (w_SERVER_STOP : Addr) (w_SERVER_DELETE : Addr) (w_DISK_ATTACH : Addr) (w_DISK_DETACH : Addr) (w_SNAPSHOT_CREATE : Addr) (w_SNAPSHOT_DELETE : Addr) (w_NIC_ATTACH : Addr) (w_NIC_DETACH : Addr) (h0 : Heap) (n0 : Nat) (v : Option Value) (h : Heap) (L : List Loc) : Prop := v = some (.int (1 : Int32)) ∧ Fr n0 L ∧ h = h0
set_option maxRecDepth 65536 in
set_option maxHeartbeats 40000000 in
theorem rm21 (l : Launch) (Z : State) (a0 : Array Value) (hw : ∀ d ∈ tables_1, d.before a0 Z = true) (ws : List Jvm.Cond) (w_PLATFORM_DEPLOY w_PLATFORM_DELETE w_SERVER_DEPLOY w_SERVER_START w_SERVER_STOP w_SERVER_DELETE w_DISK_ATTACH w_DISK_DETACH w_SNAPSHOT_CREATE w_SNAPSHOT_DELETE w_NIC_ATTACH w_NIC_DETACH : Addr) (hp : Perm Z w_PLATFORM_DEPLOY w_PLATFORM_DELETE w_SERVER_DEPLOY w_SERVER_START w_SERVER_STOP w_SERVER_DELETE w_DISK_ATTACH w_DISK_DETACH w_SNAPSHOT_CREATE w_SNAPSHOT_DELETE w_NIC_ATTACH w_NIC_DETACH) (h0 : Heap) (n0 : Nat) (O0 : Old Z n0 h0) :
    MetFree l y0 (head1 (Jvm.Cond.code y0 prog_20_method_6_code 1 (some .boolean) :: ws) ({ frames := 0, cells := 0, slots := 0, locals := 0 } : Room)) (fun a U => a = #[(.ref w_NIC_ATTACH)] ∧ Z.Warmed39 U.vm ∧ U.heap = h0) (fun _ _ _ _ _ => True) (fun _ U o U' => ∃ v L, o = .returned v ∧ Q21 Z w_PLATFORM_DEPLOY w_PLATFORM_DELETE w_SERVER_DEPLOY w_SERVER_START w_SERVER_STOP w_SERVER_DELETE w_DISK_ATTACH w_DISK_DETACH w_SNAPSHOT_CREATE w_SNAPSHOT_DELETE w_NIC_ATTACH w_NIC_DETACH  h0 n0 v U'.heap L ∧ FrameEnd U o U' L ({ frames := 0, cells := 0, slots := 0, locals := 0 } : Room).cells ({ frames := 0, cells := 0, slots := 0, locals := 0 } : Room).slots) := by
  refine MetFree.of_bodySF (plainFor_of_name pn_1) hisR ?_
  intro p e s m args below meth c s₁ Bd hml0 hP hK
  obtain ⟨rfl, hZ, hh⟩ := hP
  have hx := Bd.exec
  have hby := Bd.bytes
  have hml : c.maxLocals = 1 := hml0
  have hown : s.vm.findClass "com/example/ratebook/ratebook/model/EventType" = some m.cls := findClass_of_methodNamed Bd.named
  have hnm := (name_of_methodNamed Bd.named Bd.method).1
  have X0 : Stand p l e ({ frames := 0, cells := 0, slots := 0, locals := 0 } : Room) s m #[(.ref w_NIC_ATTACH)] below meth c s₁ [] 0 0 := Stand.of_body Bd
  have e0 : s₁.heap = h0 := by rw [← hh, Bd.state]; rfl
  have N0 := Fr.nil n0
  have hp' := hp
  obtain ⟨S_w_PLATFORM_DEPLOY, E_w_PLATFORM_DEPLOY, S_w_PLATFORM_DELETE, E_w_PLATFORM_DELETE, S_w_SERVER_DEPLOY, E_w_SERVER_DEPLOY, S_w_SERVER_START, E_w_SERVER_START, S_w_SERVER_STOP, E_w_SERVER_STOP, S_w_SERVER_DELETE, E_w_SERVER_DELETE, S_w_DISK_ATTACH, E_w_DISK_ATTACH, S_w_DISK_DETACH, E_w_DISK_DETACH, S_w_SNAPSHOT_CREATE, E_w_SNAPSHOT_CREATE, S_w_SNAPSHOT_DELETE, E_w_SNAPSHOT_DELETE, S_w_NIC_ATTACH, E_w_NIC_ATTACH, S_w_NIC_DETACH, E_w_NIC_DETACH, F_ordinal_w_PLATFORM_DEPLOY, F_ordinal_w_DISK_ATTACH, F_ordinal_w_DISK_DETACH, F_ordinal_w_NIC_ATTACH, F_ordinal_w_NIC_DETACH, F_ordinal_w_SERVER_START, F_ordinal_w_SERVER_DEPLOY, F_ordinal_w_SERVER_STOP, F_ordinal_w_SNAPSHOT_CREATE, F_ordinal_w_PLATFORM_DELETE, F_ordinal_w_SNAPSHOT_DELETE, F_ordinal_w_SERVER_DELETE⟩ := hp'
  have pre0 : ∀ t, Steps p.tables e below (s₁.setTop (mkF m 0 #[.val (.ref w_NIC_ATTACH)] [])) t → Steps p.tables e below (s₁.setTop (entryFrame m #[(.ref w_NIC_ATTACH)] 1)) t := fun t k => castTop (ef_1_0 m w_NIC_ATTACH) k
  obtain ⟨T1, X1, e1, st1⟩ := getS2 X0 hx hZ hown (host := "") (Or.inl (hw _ (List.mem_of_getElem? (i := 34) rfl))) Via.refl e0 (S_w_DISK_ATTACH.ext O0.2) (g := (mkF m 1 #[.val (.ref w_NIC_ATTACH)] [(.ref w_NIC_ATTACH)])) rfl (hb hby d1_1)
  obtain ⟨T2, X2, e2, st2⟩ := getS2 X1 hx hZ hown (host := "") (Or.inl (hw _ (List.mem_of_getElem? (i := 35) rfl))) Via.refl e1 (S_w_DISK_DETACH.ext O0.2) (g := (mkF m 8 #[.val (.ref w_NIC_ATTACH)] [(.ref w_NIC_ATTACH)])) rfl (hb hby d1_8)
  obtain ⟨T3, X3, e3, st3⟩ := getS2 X2 hx hZ hown (host := "") (Or.inl (hw _ (List.mem_of_getElem? (i := 36) rfl))) Via.refl e2 (S_w_NIC_ATTACH.ext O0.2) (g := (mkF m 15 #[.val (.ref w_NIC_ATTACH)] [(.ref w_NIC_ATTACH)])) rfl (hb hby d1_15)
  obtain ⟨fs, hr, hrun, hended, hW, hsame⟩ := X3.leave (v := some (.int (1 : Int32))) (fun h => by rw [Bd.returns] at h; cases h)
  refine ⟨_, _, pre0 _ ?_, hrun, hended, _, _, rfl, ?_, ⟨_, rfl⟩, hW, hsame.mono (by decide) (by decide)⟩
  · show Sp p e below s₁ (mkF m 0 #[.val (.ref w_NIC_ATTACH)] []) _
    refine XS.aloadN X0.here hx rfl (hb hby d1_0) rfl rfl ?_
    show Sp p e below s₁ (mkF m 1 #[.val (.ref w_NIC_ATTACH)] [(.ref w_NIC_ATTACH)]) _
    refine st1 _ ?_
    show Sp p e below T1 (mkF m 4 #[.val (.ref w_NIC_ATTACH)] [(.ref w_DISK_ATTACH), (.ref w_NIC_ATTACH)]) _
    refine Jvm.RoadKit.acmp (g := (mkF m 4 #[.val (.ref w_NIC_ATTACH)] [(.ref w_DISK_ATTACH), (.ref w_NIC_ATTACH)])) X1 hx rfl rfl rfl (pc0 := 4) (pc' := 7) (same := false) rfl (hb hby d1_4) rfl (decide_eq_false fun q => (Ne.symm (ne_w_DISK_ATTACH_w_NIC_ATTACH hp)) (Value.ref.inj q)) (by decide) (by decide) ?_
    show Sp p e below T1 (mkF m 7 #[.val (.ref w_NIC_ATTACH)] []) _
    refine XS.aloadN X1.here hx rfl (hb hby d1_7) rfl rfl ?_
    show Sp p e below T1 (mkF m 8 #[.val (.ref w_NIC_ATTACH)] [(.ref w_NIC_ATTACH)]) _
    refine st2 _ ?_
    show Sp p e below T2 (mkF m 11 #[.val (.ref w_NIC_ATTACH)] [(.ref w_DISK_DETACH), (.ref w_NIC_ATTACH)]) _
    refine Jvm.RoadKit.acmp (g := (mkF m 11 #[.val (.ref w_NIC_ATTACH)] [(.ref w_DISK_DETACH), (.ref w_NIC_ATTACH)])) X2 hx rfl rfl rfl (pc0 := 11) (pc' := 14) (same := false) rfl (hb hby d1_11) rfl (decide_eq_false fun q => (Ne.symm (ne_w_DISK_DETACH_w_NIC_ATTACH hp)) (Value.ref.inj q)) (by decide) (by decide) ?_
    show Sp p e below T2 (mkF m 14 #[.val (.ref w_NIC_ATTACH)] []) _
    refine XS.aloadN X2.here hx rfl (hb hby d1_14) rfl rfl ?_
    show Sp p e below T2 (mkF m 15 #[.val (.ref w_NIC_ATTACH)] [(.ref w_NIC_ATTACH)]) _
    refine st3 _ ?_
    show Sp p e below T3 (mkF m 18 #[.val (.ref w_NIC_ATTACH)] [(.ref w_NIC_ATTACH), (.ref w_NIC_ATTACH)]) _
    refine Jvm.RoadKit.acmp (g := (mkF m 18 #[.val (.ref w_NIC_ATTACH)] [(.ref w_NIC_ATTACH), (.ref w_NIC_ATTACH)])) X3 hx rfl rfl rfl (pc0 := 18) (pc' := 28) (same := true) rfl (hb hby d1_18) rfl (decide_eq_true rfl) (by decide) (by decide) ?_
    show Sp p e below T3 (mkF m 28 #[.val (.ref w_NIC_ATTACH)] []) _
    refine XS.iconst X3.here hx rfl (hb hby d1_28) ?_
    show Sp p e below T3 (mkF m 29 #[.val (.ref w_NIC_ATTACH)] [(.int (1 : Int32))]) _
    refine XS.goto X3.here hx rfl (pc0 := 29) (pc' := 33) rfl (hb hby d1_29) (by decide) (by decide) ?_
    show Sp p e below T3 (mkF m 33 #[.val (.ref w_NIC_ATTACH)] [(.int (1 : Int32))]) _
    exact retN X3 hx (t := .boolean) Bd.returns (by simp) (hb hby d1_33) hr
  · show Q21 Z w_PLATFORM_DEPLOY w_PLATFORM_DELETE w_SERVER_DEPLOY w_SERVER_START w_SERVER_STOP w_SERVER_DELETE w_DISK_ATTACH w_DISK_DETACH w_SNAPSHOT_CREATE w_SNAPSHOT_DELETE w_NIC_ATTACH w_NIC_DETACH  h0 n0 _ T3.heap _
    rw [e3]
    exact ⟨rfl, N0, rfl⟩
set_option maxRecDepth 65536 in
set_option maxHeartbeats 40000000 in
theorem rm22 (l : Launch) (Z : State) (a0 : Array Value) (hw : ∀ d ∈ tables_1, d.before a0 Z = true) (ws : List Jvm.Cond) (w_PLATFORM_DEPLOY w_PLATFORM_DELETE w_SERVER_DEPLOY w_SERVER_START w_SERVER_STOP w_SERVER_DELETE w_DISK_ATTACH w_DISK_DETACH w_SNAPSHOT_CREATE w_SNAPSHOT_DELETE w_NIC_ATTACH w_NIC_DETACH : Addr) (hp : Perm Z w_PLATFORM_DEPLOY w_PLATFORM_DELETE w_SERVER_DEPLOY w_SERVER_START w_SERVER_STOP w_SERVER_DELETE w_DISK_ATTACH w_DISK_DETACH w_SNAPSHOT_CREATE w_SNAPSHOT_DELETE w_NIC_ATTACH w_NIC_DETACH) (p0 : Int32) (h0 : Heap) (n0 : Nat) (O0 : Old Z n0 h0) (hc1 : ¬ (((p0 &&& (2147483647 : Int32)) % (12 : Int32)) = (0 : Int32))) (hc2 : ¬ (((p0 &&& (2147483647 : Int32)) % (12 : Int32)) = (1 : Int32))) (hc3 : ¬ (((p0 &&& (2147483647 : Int32)) % (12 : Int32)) = (2 : Int32))) (hc4 : ¬ (((p0 &&& (2147483647 : Int32)) % (12 : Int32)) = (3 : Int32))) (hc5 : ¬ (((p0 &&& (2147483647 : Int32)) % (12 : Int32)) = (4 : Int32))) (hc6 : ¬ (((p0 &&& (2147483647 : Int32)) % (12 : Int32)) = (5 : Int32))) (hc7 : ¬ (((p0 &&& (2147483647 : Int32)) % (12 : Int32)) = (6 : Int32))) (hc8 : ¬ (((p0 &&& (2147483647 : Int32)) % (12 : Int32)) = (7 : Int32))) (hc9 : ¬ (((p0 &&& (2147483647 : Int32)) % (12 : Int32)) = (8 : Int32))) (hc10 : ¬ (((p0 &&& (2147483647 : Int32)) % (12 : Int32)) = (9 : Int32))) (hc11 : ((p0 &&& (2147483647 : Int32)) % (12 : Int32)) = (10 : Int32)) :
    MetFree l x (head1 (Jvm.Cond.code x code maxLocals ret :: ws) room_1) (fun a U => a = #[(.int p0)] ∧ Z.Warmed39 U.vm ∧ U.heap = h0) (fun _ _ _ _ _ => True) (fun _ U o U' => ∃ v L, o = .returned v ∧ (v = some (.int (1 : Int32)) ∧ Fr n0 L) ∧ FrameEnd U o U' L 16 128) := by
  refine MetFree.of_bodySF (plainFor_of_name pn_0) hisR ?_
  intro p e s m args below meth c s₁ Bd hml0 hP hK
  obtain ⟨rfl, hZ, hh⟩ := hP
  have hx := Bd.exec
  have hby := Bd.bytes
  have hml : c.maxLocals = 5 := hml0
  have hown : s.vm.findClass "com/example/ratebook/ratebook/model/EventTypeIsAttachmentEventPinLaw" = some m.cls := findClass_of_methodNamed Bd.named
  have hnm := (name_of_methodNamed Bd.named Bd.method).1
  have X0 : Stand p l e room_1 s m #[(.int p0)] below meth c s₁ [] 0 0 := Stand.of_body Bd
  have e0 : s₁.heap = h0 := by rw [← hh, Bd.state]; rfl
  have N0 := Fr.nil n0
  have hp' := hp
  obtain ⟨S_w_PLATFORM_DEPLOY, E_w_PLATFORM_DEPLOY, S_w_PLATFORM_DELETE, E_w_PLATFORM_DELETE, S_w_SERVER_DEPLOY, E_w_SERVER_DEPLOY, S_w_SERVER_START, E_w_SERVER_START, S_w_SERVER_STOP, E_w_SERVER_STOP, S_w_SERVER_DELETE, E_w_SERVER_DELETE, S_w_DISK_ATTACH, E_w_DISK_ATTACH, S_w_DISK_DETACH, E_w_DISK_DETACH, S_w_SNAPSHOT_CREATE, E_w_SNAPSHOT_CREATE, S_w_SNAPSHOT_DELETE, E_w_SNAPSHOT_DELETE, S_w_NIC_ATTACH, E_w_NIC_ATTACH, S_w_NIC_DETACH, E_w_NIC_DETACH, F_ordinal_w_PLATFORM_DEPLOY, F_ordinal_w_DISK_ATTACH, F_ordinal_w_DISK_DETACH, F_ordinal_w_NIC_ATTACH, F_ordinal_w_NIC_DETACH, F_ordinal_w_SERVER_START, F_ordinal_w_SERVER_DEPLOY, F_ordinal_w_SERVER_STOP, F_ordinal_w_SNAPSHOT_CREATE, F_ordinal_w_PLATFORM_DELETE, F_ordinal_w_SNAPSHOT_DELETE, F_ordinal_w_SERVER_DELETE⟩ := hp'
  have pre0 : ∀ t, Steps p.tables e below (s₁.setTop (mkF m 0 #[.val (.int p0), .unset, .unset, .unset, .unset] [])) t → Steps p.tables e below (s₁.setTop (entryFrame m #[(.int p0)] maxLocals)) t := fun t k => castTop (ef_0_0 m p0) k
  obtain ⟨T1, h1, k1, X1, e1, E1, A1, EA1, Ov1, st1⟩ := newRE X0 hx hZ hown (hw _ (List.mem_of_getElem? (i := 0) rfl)) (hw _ (List.mem_of_getElem? (i := 1) rfl)) e0 (g := (mkF m 2 #[.val (.int p0), .unset, .unset, .unset, .unset] [(.int (12 : Int32))])) rfl (hb hby at_2) rfl (by decide) (cap := 12) (by decide) (by decide) (by decide) (by decide) (ad := "[Lcom/example/ratebook/ratebook/model/EventType;") (by decide)
  obtain ⟨b1, g1⟩ : ∃ z, z = h0.size := ⟨_, rfl⟩
  rw [← g1] at A1 EA1 st1
  have g_b1 : n0 ≤ b1 := Nat.le_trans (own_sz O0) (Nat.le_of_eq g1.symm)
  have sz_b1 : h0.size ≤ b1 := Nat.le_trans (Keep.refl h0 []).1 (Nat.le_of_eq g1.symm)
  have O1 := O0.ext E1
  have K1 : Keep h0 h1 [] := (Keep.refl h0 []).ext E1
  have V_b1 : Arv Z h1 b1 k1 (.object "com/example/ratebook/ratebook/model/EventType") (12 : Int32) [.null, .null, .null, .null, .null, .null, .null, .null, .null, .null, .null, .null] .null := (Arv.new A1 (by decide)).pad (pad_rep [] .null 12)
  obtain ⟨T2, X2, e2, st2⟩ := getS2 X1 hx hZ hown (host := "") (Or.inl (hw _ (List.mem_of_getElem? (i := 2) rfl))) Via.refl e1 (S_w_PLATFORM_DEPLOY.ext O1.2) (g := (mkF m 7 #[.val (.int p0), .unset, .unset, .unset, .unset] [(.int (0 : Int32)), (.ref b1), (.ref b1)])) rfl (hb hby at_7)
  obtain ⟨cl3, Ar3, q3, S3, Nn3, H3, G3⟩ := V_b1
  have hin3 : ¬ ((0 : Int32) < 0 ∨ cl3.slots.size ≤ ((0 : Int32)).toNatClampNeg) := inb_of S3 ⟨by decide, by decide⟩
  obtain ⟨T4, h4, X4, e4, W4, st4⟩ := stR X2 hx hZ e2 Ar3 (j := (0 : Int32)) hin3 rfl (Sto.ofV Ar3 q3 Ov1 (Ins.self (E_w_PLATFORM_DEPLOY.ext O1.2))) (g := (mkF m 10 #[.val (.int p0), .unset, .unset, .unset, .unset] [(.ref w_PLATFORM_DEPLOY), (.int (0 : Int32)), (.ref b1), (.ref b1)])) rfl rfl (hb hby at_10)
  have N4 := Fr.snoc X4 N0 g_b1
  have O4 := O1.wr W4 g_b1
  have K4 : Keep h0 h4 [] := K1.wr W4 (Or.inr sz_b1)
  have V_b1_4 : Arv Z h4 b1 k1 (.object "com/example/ratebook/ratebook/model/EventType") (12 : Int32) [(.ref w_PLATFORM_DEPLOY), .null, .null, .null, .null, .null, .null, .null, .null, .null, .null, .null] .null := Arv.set Ar3 q3 S3 Nn3 H3 G3 rfl W4 0 rfl (Nat.le_of_ble_eq_true rfl)
  obtain ⟨T5, X5, e5, st5⟩ := getS2 X4 hx hZ hown (host := "") (Or.inl (hw _ (List.mem_of_getElem? (i := 6) rfl))) Via.refl e4 (S_w_PLATFORM_DELETE.ext O4.2) (g := (mkF m 13 #[.val (.int p0), .unset, .unset, .unset, .unset] [(.int (1 : Int32)), (.ref b1), (.ref b1)])) rfl (hb hby at_13)
  obtain ⟨cl6, Ar6, q6, S6, Nn6, H6, G6⟩ := V_b1_4
  have hin6 : ¬ ((1 : Int32) < 0 ∨ cl6.slots.size ≤ ((1 : Int32)).toNatClampNeg) := inb_of S6 ⟨by decide, by decide⟩
  obtain ⟨T7, h7, X7, e7, W7, st7⟩ := stR X5 hx hZ e5 Ar6 (j := (1 : Int32)) hin6 rfl (Sto.ofV Ar6 q6 Ov1 (Ins.self (E_w_PLATFORM_DELETE.ext O4.2))) (g := (mkF m 16 #[.val (.int p0), .unset, .unset, .unset, .unset] [(.ref w_PLATFORM_DELETE), (.int (1 : Int32)), (.ref b1), (.ref b1)])) rfl rfl (hb hby at_16)
  have N7 := Fr.snoc X7 N4 g_b1
  have O7 := O4.wr W7 g_b1
  have K7 : Keep h0 h7 [] := K4.wr W7 (Or.inr sz_b1)
  have V_b1_7 : Arv Z h7 b1 k1 (.object "com/example/ratebook/ratebook/model/EventType") (12 : Int32) [(.ref w_PLATFORM_DEPLOY), (.ref w_PLATFORM_DELETE), .null, .null, .null, .null, .null, .null, .null, .null, .null, .null] .null := Arv.set Ar6 q6 S6 Nn6 H6 G6 rfl W7 1 rfl (Nat.le_of_ble_eq_true rfl)
  obtain ⟨T8, X8, e8, st8⟩ := getS2 X7 hx hZ hown (host := "") (Or.inl (hw _ (List.mem_of_getElem? (i := 8) rfl))) Via.refl e7 (S_w_SERVER_DEPLOY.ext O7.2) (g := (mkF m 19 #[.val (.int p0), .unset, .unset, .unset, .unset] [(.int (2 : Int32)), (.ref b1), (.ref b1)])) rfl (hb hby at_19)
  obtain ⟨cl9, Ar9, q9, S9, Nn9, H9, G9⟩ := V_b1_7
  have hin9 : ¬ ((2 : Int32) < 0 ∨ cl9.slots.size ≤ ((2 : Int32)).toNatClampNeg) := inb_of S9 ⟨by decide, by decide⟩
  obtain ⟨T10, h10, X10, e10, W10, st10⟩ := stR X8 hx hZ e8 Ar9 (j := (2 : Int32)) hin9 rfl (Sto.ofV Ar9 q9 Ov1 (Ins.self (E_w_SERVER_DEPLOY.ext O7.2))) (g := (mkF m 22 #[.val (.int p0), .unset, .unset, .unset, .unset] [(.ref w_SERVER_DEPLOY), (.int (2 : Int32)), (.ref b1), (.ref b1)])) rfl rfl (hb hby at_22)
  have N10 := Fr.snoc X10 N7 g_b1
  have O10 := O7.wr W10 g_b1
  have K10 : Keep h0 h10 [] := K7.wr W10 (Or.inr sz_b1)
  have V_b1_10 : Arv Z h10 b1 k1 (.object "com/example/ratebook/ratebook/model/EventType") (12 : Int32) [(.ref w_PLATFORM_DEPLOY), (.ref w_PLATFORM_DELETE), (.ref w_SERVER_DEPLOY), .null, .null, .null, .null, .null, .null, .null, .null, .null] .null := Arv.set Ar9 q9 S9 Nn9 H9 G9 rfl W10 2 rfl (Nat.le_of_ble_eq_true rfl)
  obtain ⟨T11, X11, e11, st11⟩ := getS2 X10 hx hZ hown (host := "") (Or.inl (hw _ (List.mem_of_getElem? (i := 10) rfl))) Via.refl e10 (S_w_SERVER_START.ext O10.2) (g := (mkF m 25 #[.val (.int p0), .unset, .unset, .unset, .unset] [(.int (3 : Int32)), (.ref b1), (.ref b1)])) rfl (hb hby at_25)
  obtain ⟨cl12, Ar12, q12, S12, Nn12, H12, G12⟩ := V_b1_10
  have hin12 : ¬ ((3 : Int32) < 0 ∨ cl12.slots.size ≤ ((3 : Int32)).toNatClampNeg) := inb_of S12 ⟨by decide, by decide⟩
  obtain ⟨T13, h13, X13, e13, W13, st13⟩ := stR X11 hx hZ e11 Ar12 (j := (3 : Int32)) hin12 rfl (Sto.ofV Ar12 q12 Ov1 (Ins.self (E_w_SERVER_START.ext O10.2))) (g := (mkF m 28 #[.val (.int p0), .unset, .unset, .unset, .unset] [(.ref w_SERVER_START), (.int (3 : Int32)), (.ref b1), (.ref b1)])) rfl rfl (hb hby at_28)
  have N13 := Fr.snoc X13 N10 g_b1
  have O13 := O10.wr W13 g_b1
  have K13 : Keep h0 h13 [] := K10.wr W13 (Or.inr sz_b1)
  have V_b1_13 : Arv Z h13 b1 k1 (.object "com/example/ratebook/ratebook/model/EventType") (12 : Int32) [(.ref w_PLATFORM_DEPLOY), (.ref w_PLATFORM_DELETE), (.ref w_SERVER_DEPLOY), (.ref w_SERVER_START), .null, .null, .null, .null, .null, .null, .null, .null] .null := Arv.set Ar12 q12 S12 Nn12 H12 G12 rfl W13 3 rfl (Nat.le_of_ble_eq_true rfl)
  obtain ⟨T14, X14, e14, st14⟩ := getS2 X13 hx hZ hown (host := "") (Or.inl (hw _ (List.mem_of_getElem? (i := 12) rfl))) Via.refl e13 (S_w_SERVER_STOP.ext O13.2) (g := (mkF m 31 #[.val (.int p0), .unset, .unset, .unset, .unset] [(.int (4 : Int32)), (.ref b1), (.ref b1)])) rfl (hb hby at_31)
  obtain ⟨cl15, Ar15, q15, S15, Nn15, H15, G15⟩ := V_b1_13
  have hin15 : ¬ ((4 : Int32) < 0 ∨ cl15.slots.size ≤ ((4 : Int32)).toNatClampNeg) := inb_of S15 ⟨by decide, by decide⟩
  obtain ⟨T16, h16, X16, e16, W16, st16⟩ := stR X14 hx hZ e14 Ar15 (j := (4 : Int32)) hin15 rfl (Sto.ofV Ar15 q15 Ov1 (Ins.self (E_w_SERVER_STOP.ext O13.2))) (g := (mkF m 34 #[.val (.int p0), .unset, .unset, .unset, .unset] [(.ref w_SERVER_STOP), (.int (4 : Int32)), (.ref b1), (.ref b1)])) rfl rfl (hb hby at_34)
  have N16 := Fr.snoc X16 N13 g_b1
  have O16 := O13.wr W16 g_b1
  have K16 : Keep h0 h16 [] := K13.wr W16 (Or.inr sz_b1)
  have V_b1_16 : Arv Z h16 b1 k1 (.object "com/example/ratebook/ratebook/model/EventType") (12 : Int32) [(.ref w_PLATFORM_DEPLOY), (.ref w_PLATFORM_DELETE), (.ref w_SERVER_DEPLOY), (.ref w_SERVER_START), (.ref w_SERVER_STOP), .null, .null, .null, .null, .null, .null, .null] .null := Arv.set Ar15 q15 S15 Nn15 H15 G15 rfl W16 4 rfl (Nat.le_of_ble_eq_true rfl)
  obtain ⟨T17, X17, e17, st17⟩ := getS2 X16 hx hZ hown (host := "") (Or.inl (hw _ (List.mem_of_getElem? (i := 14) rfl))) Via.refl e16 (S_w_SERVER_DELETE.ext O16.2) (g := (mkF m 37 #[.val (.int p0), .unset, .unset, .unset, .unset] [(.int (5 : Int32)), (.ref b1), (.ref b1)])) rfl (hb hby at_37)
  obtain ⟨cl18, Ar18, q18, S18, Nn18, H18, G18⟩ := V_b1_16
  have hin18 : ¬ ((5 : Int32) < 0 ∨ cl18.slots.size ≤ ((5 : Int32)).toNatClampNeg) := inb_of S18 ⟨by decide, by decide⟩
  obtain ⟨T19, h19, X19, e19, W19, st19⟩ := stR X17 hx hZ e17 Ar18 (j := (5 : Int32)) hin18 rfl (Sto.ofV Ar18 q18 Ov1 (Ins.self (E_w_SERVER_DELETE.ext O16.2))) (g := (mkF m 40 #[.val (.int p0), .unset, .unset, .unset, .unset] [(.ref w_SERVER_DELETE), (.int (5 : Int32)), (.ref b1), (.ref b1)])) rfl rfl (hb hby at_40)
  have N19 := Fr.snoc X19 N16 g_b1
  have O19 := O16.wr W19 g_b1
  have K19 : Keep h0 h19 [] := K16.wr W19 (Or.inr sz_b1)
  have V_b1_19 : Arv Z h19 b1 k1 (.object "com/example/ratebook/ratebook/model/EventType") (12 : Int32) [(.ref w_PLATFORM_DEPLOY), (.ref w_PLATFORM_DELETE), (.ref w_SERVER_DEPLOY), (.ref w_SERVER_START), (.ref w_SERVER_STOP), (.ref w_SERVER_DELETE), .null, .null, .null, .null, .null, .null] .null := Arv.set Ar18 q18 S18 Nn18 H18 G18 rfl W19 5 rfl (Nat.le_of_ble_eq_true rfl)
  obtain ⟨T20, X20, e20, st20⟩ := getS2 X19 hx hZ hown (host := "") (Or.inl (hw _ (List.mem_of_getElem? (i := 16) rfl))) Via.refl e19 (S_w_DISK_ATTACH.ext O19.2) (g := (mkF m 44 #[.val (.int p0), .unset, .unset, .unset, .unset] [(.int (6 : Int32)), (.ref b1), (.ref b1)])) rfl (hb hby at_44)
  obtain ⟨cl21, Ar21, q21, S21, Nn21, H21, G21⟩ := V_b1_19
  have hin21 : ¬ ((6 : Int32) < 0 ∨ cl21.slots.size ≤ ((6 : Int32)).toNatClampNeg) := inb_of S21 ⟨by decide, by decide⟩
  obtain ⟨T22, h22, X22, e22, W22, st22⟩ := stR X20 hx hZ e20 Ar21 (j := (6 : Int32)) hin21 rfl (Sto.ofV Ar21 q21 Ov1 (Ins.self (E_w_DISK_ATTACH.ext O19.2))) (g := (mkF m 47 #[.val (.int p0), .unset, .unset, .unset, .unset] [(.ref w_DISK_ATTACH), (.int (6 : Int32)), (.ref b1), (.ref b1)])) rfl rfl (hb hby at_47)
  have N22 := Fr.snoc X22 N19 g_b1
  have O22 := O19.wr W22 g_b1
  have K22 : Keep h0 h22 [] := K19.wr W22 (Or.inr sz_b1)
  have V_b1_22 : Arv Z h22 b1 k1 (.object "com/example/ratebook/ratebook/model/EventType") (12 : Int32) [(.ref w_PLATFORM_DEPLOY), (.ref w_PLATFORM_DELETE), (.ref w_SERVER_DEPLOY), (.ref w_SERVER_START), (.ref w_SERVER_STOP), (.ref w_SERVER_DELETE), (.ref w_DISK_ATTACH), .null, .null, .null, .null, .null] .null := Arv.set Ar21 q21 S21 Nn21 H21 G21 rfl W22 6 rfl (Nat.le_of_ble_eq_true rfl)
  obtain ⟨T23, X23, e23, st23⟩ := getS2 X22 hx hZ hown (host := "") (Or.inl (hw _ (List.mem_of_getElem? (i := 18) rfl))) Via.refl e22 (S_w_DISK_DETACH.ext O22.2) (g := (mkF m 51 #[.val (.int p0), .unset, .unset, .unset, .unset] [(.int (7 : Int32)), (.ref b1), (.ref b1)])) rfl (hb hby at_51)
  obtain ⟨cl24, Ar24, q24, S24, Nn24, H24, G24⟩ := V_b1_22
  have hin24 : ¬ ((7 : Int32) < 0 ∨ cl24.slots.size ≤ ((7 : Int32)).toNatClampNeg) := inb_of S24 ⟨by decide, by decide⟩
  obtain ⟨T25, h25, X25, e25, W25, st25⟩ := stR X23 hx hZ e23 Ar24 (j := (7 : Int32)) hin24 rfl (Sto.ofV Ar24 q24 Ov1 (Ins.self (E_w_DISK_DETACH.ext O22.2))) (g := (mkF m 54 #[.val (.int p0), .unset, .unset, .unset, .unset] [(.ref w_DISK_DETACH), (.int (7 : Int32)), (.ref b1), (.ref b1)])) rfl rfl (hb hby at_54)
  have N25 := Fr.snoc X25 N22 g_b1
  have O25 := O22.wr W25 g_b1
  have K25 : Keep h0 h25 [] := K22.wr W25 (Or.inr sz_b1)
  have V_b1_25 : Arv Z h25 b1 k1 (.object "com/example/ratebook/ratebook/model/EventType") (12 : Int32) [(.ref w_PLATFORM_DEPLOY), (.ref w_PLATFORM_DELETE), (.ref w_SERVER_DEPLOY), (.ref w_SERVER_START), (.ref w_SERVER_STOP), (.ref w_SERVER_DELETE), (.ref w_DISK_ATTACH), (.ref w_DISK_DETACH), .null, .null, .null, .null] .null := Arv.set Ar24 q24 S24 Nn24 H24 G24 rfl W25 7 rfl (Nat.le_of_ble_eq_true rfl)
  obtain ⟨T26, X26, e26, st26⟩ := getS2 X25 hx hZ hown (host := "") (Or.inl (hw _ (List.mem_of_getElem? (i := 20) rfl))) Via.refl e25 (S_w_SNAPSHOT_CREATE.ext O25.2) (g := (mkF m 58 #[.val (.int p0), .unset, .unset, .unset, .unset] [(.int (8 : Int32)), (.ref b1), (.ref b1)])) rfl (hb hby at_58)
  obtain ⟨cl27, Ar27, q27, S27, Nn27, H27, G27⟩ := V_b1_25
  have hin27 : ¬ ((8 : Int32) < 0 ∨ cl27.slots.size ≤ ((8 : Int32)).toNatClampNeg) := inb_of S27 ⟨by decide, by decide⟩
  obtain ⟨T28, h28, X28, e28, W28, st28⟩ := stR X26 hx hZ e26 Ar27 (j := (8 : Int32)) hin27 rfl (Sto.ofV Ar27 q27 Ov1 (Ins.self (E_w_SNAPSHOT_CREATE.ext O25.2))) (g := (mkF m 61 #[.val (.int p0), .unset, .unset, .unset, .unset] [(.ref w_SNAPSHOT_CREATE), (.int (8 : Int32)), (.ref b1), (.ref b1)])) rfl rfl (hb hby at_61)
  have N28 := Fr.snoc X28 N25 g_b1
  have O28 := O25.wr W28 g_b1
  have K28 : Keep h0 h28 [] := K25.wr W28 (Or.inr sz_b1)
  have V_b1_28 : Arv Z h28 b1 k1 (.object "com/example/ratebook/ratebook/model/EventType") (12 : Int32) [(.ref w_PLATFORM_DEPLOY), (.ref w_PLATFORM_DELETE), (.ref w_SERVER_DEPLOY), (.ref w_SERVER_START), (.ref w_SERVER_STOP), (.ref w_SERVER_DELETE), (.ref w_DISK_ATTACH), (.ref w_DISK_DETACH), (.ref w_SNAPSHOT_CREATE), .null, .null, .null] .null := Arv.set Ar27 q27 S27 Nn27 H27 G27 rfl W28 8 rfl (Nat.le_of_ble_eq_true rfl)
  obtain ⟨T29, X29, e29, st29⟩ := getS2 X28 hx hZ hown (host := "") (Or.inl (hw _ (List.mem_of_getElem? (i := 22) rfl))) Via.refl e28 (S_w_SNAPSHOT_DELETE.ext O28.2) (g := (mkF m 65 #[.val (.int p0), .unset, .unset, .unset, .unset] [(.int (9 : Int32)), (.ref b1), (.ref b1)])) rfl (hb hby at_65)
  obtain ⟨cl30, Ar30, q30, S30, Nn30, H30, G30⟩ := V_b1_28
  have hin30 : ¬ ((9 : Int32) < 0 ∨ cl30.slots.size ≤ ((9 : Int32)).toNatClampNeg) := inb_of S30 ⟨by decide, by decide⟩
  obtain ⟨T31, h31, X31, e31, W31, st31⟩ := stR X29 hx hZ e29 Ar30 (j := (9 : Int32)) hin30 rfl (Sto.ofV Ar30 q30 Ov1 (Ins.self (E_w_SNAPSHOT_DELETE.ext O28.2))) (g := (mkF m 68 #[.val (.int p0), .unset, .unset, .unset, .unset] [(.ref w_SNAPSHOT_DELETE), (.int (9 : Int32)), (.ref b1), (.ref b1)])) rfl rfl (hb hby at_68)
  have N31 := Fr.snoc X31 N28 g_b1
  have O31 := O28.wr W31 g_b1
  have K31 : Keep h0 h31 [] := K28.wr W31 (Or.inr sz_b1)
  have V_b1_31 : Arv Z h31 b1 k1 (.object "com/example/ratebook/ratebook/model/EventType") (12 : Int32) [(.ref w_PLATFORM_DEPLOY), (.ref w_PLATFORM_DELETE), (.ref w_SERVER_DEPLOY), (.ref w_SERVER_START), (.ref w_SERVER_STOP), (.ref w_SERVER_DELETE), (.ref w_DISK_ATTACH), (.ref w_DISK_DETACH), (.ref w_SNAPSHOT_CREATE), (.ref w_SNAPSHOT_DELETE), .null, .null] .null := Arv.set Ar30 q30 S30 Nn30 H30 G30 rfl W31 9 rfl (Nat.le_of_ble_eq_true rfl)
  obtain ⟨T32, X32, e32, st32⟩ := getS2 X31 hx hZ hown (host := "") (Or.inl (hw _ (List.mem_of_getElem? (i := 24) rfl))) Via.refl e31 (S_w_NIC_ATTACH.ext O31.2) (g := (mkF m 72 #[.val (.int p0), .unset, .unset, .unset, .unset] [(.int (10 : Int32)), (.ref b1), (.ref b1)])) rfl (hb hby at_72)
  obtain ⟨cl33, Ar33, q33, S33, Nn33, H33, G33⟩ := V_b1_31
  have hin33 : ¬ ((10 : Int32) < 0 ∨ cl33.slots.size ≤ ((10 : Int32)).toNatClampNeg) := inb_of S33 ⟨by decide, by decide⟩
  obtain ⟨T34, h34, X34, e34, W34, st34⟩ := stR X32 hx hZ e32 Ar33 (j := (10 : Int32)) hin33 rfl (Sto.ofV Ar33 q33 Ov1 (Ins.self (E_w_NIC_ATTACH.ext O31.2))) (g := (mkF m 75 #[.val (.int p0), .unset, .unset, .unset, .unset] [(.ref w_NIC_ATTACH), (.int (10 : Int32)), (.ref b1), (.ref b1)])) rfl rfl (hb hby at_75)
  have N34 := Fr.snoc X34 N31 g_b1
  have O34 := O31.wr W34 g_b1
  have K34 : Keep h0 h34 [] := K31.wr W34 (Or.inr sz_b1)
  have V_b1_34 : Arv Z h34 b1 k1 (.object "com/example/ratebook/ratebook/model/EventType") (12 : Int32) [(.ref w_PLATFORM_DEPLOY), (.ref w_PLATFORM_DELETE), (.ref w_SERVER_DEPLOY), (.ref w_SERVER_START), (.ref w_SERVER_STOP), (.ref w_SERVER_DELETE), (.ref w_DISK_ATTACH), (.ref w_DISK_DETACH), (.ref w_SNAPSHOT_CREATE), (.ref w_SNAPSHOT_DELETE), (.ref w_NIC_ATTACH), .null] .null := Arv.set Ar33 q33 S33 Nn33 H33 G33 rfl W34 10 rfl (Nat.le_of_ble_eq_true rfl)
  obtain ⟨T35, X35, e35, st35⟩ := getS2 X34 hx hZ hown (host := "") (Or.inl (hw _ (List.mem_of_getElem? (i := 26) rfl))) Via.refl e34 (S_w_NIC_DETACH.ext O34.2) (g := (mkF m 79 #[.val (.int p0), .unset, .unset, .unset, .unset] [(.int (11 : Int32)), (.ref b1), (.ref b1)])) rfl (hb hby at_79)
  obtain ⟨cl36, Ar36, q36, S36, Nn36, H36, G36⟩ := V_b1_34
  have hin36 : ¬ ((11 : Int32) < 0 ∨ cl36.slots.size ≤ ((11 : Int32)).toNatClampNeg) := inb_of S36 ⟨by decide, by decide⟩
  obtain ⟨T37, h37, X37, e37, W37, st37⟩ := stR X35 hx hZ e35 Ar36 (j := (11 : Int32)) hin36 rfl (Sto.ofV Ar36 q36 Ov1 (Ins.self (E_w_NIC_DETACH.ext O34.2))) (g := (mkF m 82 #[.val (.int p0), .unset, .unset, .unset, .unset] [(.ref w_NIC_DETACH), (.int (11 : Int32)), (.ref b1), (.ref b1)])) rfl rfl (hb hby at_82)
  have N37 := Fr.snoc X37 N34 g_b1
  have O37 := O34.wr W37 g_b1
  have K37 : Keep h0 h37 [] := K34.wr W37 (Or.inr sz_b1)
  have V_b1_37 : Arv Z h37 b1 k1 (.object "com/example/ratebook/ratebook/model/EventType") (12 : Int32) [(.ref w_PLATFORM_DEPLOY), (.ref w_PLATFORM_DELETE), (.ref w_SERVER_DEPLOY), (.ref w_SERVER_START), (.ref w_SERVER_STOP), (.ref w_SERVER_DELETE), (.ref w_DISK_ATTACH), (.ref w_DISK_DETACH), (.ref w_SNAPSHOT_CREATE), (.ref w_SNAPSHOT_DELETE), (.ref w_NIC_ATTACH), (.ref w_NIC_DETACH)] .null := Arv.set Ar36 q36 S36 Nn36 H36 G36 rfl W37 11 rfl (Nat.le_of_ble_eq_true rfl)
  obtain ⟨cl38, Ar38, -, S38, -, H38, -⟩ := V_b1_37
  have hin38 : ¬ (((p0 &&& (2147483647 : Int32)) % (12 : Int32)) < 0 ∨ cl38.slots.size ≤ (((p0 &&& (2147483647 : Int32)) % (12 : Int32))).toNatClampNeg) := inb_of S38 (by rw [hc11]; decide)
  have hat38 : cl38.slots[(((p0 &&& (2147483647 : Int32)) % (12 : Int32))).toNatClampNeg]? = some (.ref w_NIC_ATTACH) := H38.at hin38 (by rw [hc11]; rfl)
  obtain ⟨cq39, kq39, q39a, q39b, q39c⟩ := isOf hZ e37 (E_w_NIC_ATTACH.ext O37.2)
  obtain ⟨_, _, ⟨T39, L39, k39, n39⟩, -, X39, ⟨Lc39, hQ39, l39, y39, z39⟩, st39⟩ := X37.virtualBack hx (y := y0) (z := y0) hown (mvT hZ (hw _ (List.mem_of_getElem? (i := 29) rfl))) (mvT hZ (hw _ (List.mem_of_getElem? (i := 30) rfl))) (notFace_of_selects (args := #[]) (mvT hZ (hw _ (List.mem_of_getElem? (i := 32) rfl)))) (mvT hZ (hw _ (List.mem_of_getElem? (i := 32) rfl))) (mvT hZ (hw _ (List.mem_of_getElem? (i := 31) rfl))) (by decide) (backOf (W := 0) (rm21 l Z a0 hw [] w_PLATFORM_DEPLOY w_PLATFORM_DELETE w_SERVER_DEPLOY w_SERVER_START w_SERVER_STOP w_SERVER_DELETE w_DISK_ATTACH w_DISK_DETACH w_SNAPSHOT_CREATE w_SNAPSHOT_DELETE w_NIC_ATTACH w_NIC_DETACH hp h37 n0 O37) hZ (hw _ (List.mem_of_getElem? (i := 33) rfl)) (hw _ (List.mem_of_getElem? (i := 3) rfl)) (by decide) (by decide)) q39a q39c (g := (mkF m 145 #[.val (.int p0), .val (.ref b1), .val (.int ((p0 &&& (2147483647 : Int32)) % (12 : Int32))), .val (.ref w_NIC_ATTACH), .val (.int (1 : Int32))] [(.ref w_NIC_ATTACH)])) rfl (by rw [hml]; rfl) (Steps.refl _) (argsL := []) (rest := []) (lenOf pd_0 rfl) rfl (by show 2 * 0 + _ ≤ _; exact Nat.le_of_eq rfl) (hb hby at_145) (fun _ _ => ⟨rfl, e37, (by decide : 1 + 0 ≤ _), (by decide : 12 + 0 ≤ _)⟩)
  dsimp only [Pt.U, Pt.locs, Pt.cells, Pt.slots] at X39 l39 y39 z39 st39 hQ39
  subst l39 y39 z39
  obtain ⟨rfl, Nq39, eq39⟩ := hQ39
  have N39 := Fr.app N37 Nq39
  obtain ⟨fs, hr, hrun, hended, hW, hsame⟩ := X39.leave (v := some (.int (1 : Int32))) (fun h => by rw [Bd.returns] at h; cases h)
  refine ⟨_, _, pre0 _ ?_, hrun, hended, _, _, rfl, ?_, ⟨_, rfl⟩, hW, hsame.mono (by decide) (by decide)⟩
  · show Sp p e below s₁ (mkF m 0 #[.val (.int p0), .unset, .unset, .unset, .unset] []) _
    refine XS.bipush X0.here hx rfl (hb hby at_0) ?_
    show Sp p e below s₁ (mkF m 2 #[.val (.int p0), .unset, .unset, .unset, .unset] [(.int (12 : Int32))]) _
    refine st1 _ ?_
    show Sp p e below T1 (mkF m 5 #[.val (.int p0), .unset, .unset, .unset, .unset] [(.ref b1)]) _
    refine XS.dup X1.here hx rfl (hb hby at_5) rfl rfl ?_
    show Sp p e below T1 (mkF m 6 #[.val (.int p0), .unset, .unset, .unset, .unset] [(.ref b1), (.ref b1)]) _
    refine XS.iconst X1.here hx rfl (hb hby at_6) ?_
    show Sp p e below T1 (mkF m 7 #[.val (.int p0), .unset, .unset, .unset, .unset] [(.int (0 : Int32)), (.ref b1), (.ref b1)]) _
    refine st2 _ ?_
    show Sp p e below T2 (mkF m 10 #[.val (.int p0), .unset, .unset, .unset, .unset] [(.ref w_PLATFORM_DEPLOY), (.int (0 : Int32)), (.ref b1), (.ref b1)]) _
    refine st4 _ ?_
    show Sp p e below T4 (mkF m 11 #[.val (.int p0), .unset, .unset, .unset, .unset] [(.ref b1)]) _
    refine XS.dup X4.here hx rfl (hb hby at_11) rfl rfl ?_
    show Sp p e below T4 (mkF m 12 #[.val (.int p0), .unset, .unset, .unset, .unset] [(.ref b1), (.ref b1)]) _
    refine XS.iconst X4.here hx rfl (hb hby at_12) ?_
    show Sp p e below T4 (mkF m 13 #[.val (.int p0), .unset, .unset, .unset, .unset] [(.int (1 : Int32)), (.ref b1), (.ref b1)]) _
    refine st5 _ ?_
    show Sp p e below T5 (mkF m 16 #[.val (.int p0), .unset, .unset, .unset, .unset] [(.ref w_PLATFORM_DELETE), (.int (1 : Int32)), (.ref b1), (.ref b1)]) _
    refine st7 _ ?_
    show Sp p e below T7 (mkF m 17 #[.val (.int p0), .unset, .unset, .unset, .unset] [(.ref b1)]) _
    refine XS.dup X7.here hx rfl (hb hby at_17) rfl rfl ?_
    show Sp p e below T7 (mkF m 18 #[.val (.int p0), .unset, .unset, .unset, .unset] [(.ref b1), (.ref b1)]) _
    refine XS.iconst X7.here hx rfl (hb hby at_18) ?_
    show Sp p e below T7 (mkF m 19 #[.val (.int p0), .unset, .unset, .unset, .unset] [(.int (2 : Int32)), (.ref b1), (.ref b1)]) _
    refine st8 _ ?_
    show Sp p e below T8 (mkF m 22 #[.val (.int p0), .unset, .unset, .unset, .unset] [(.ref w_SERVER_DEPLOY), (.int (2 : Int32)), (.ref b1), (.ref b1)]) _
    refine st10 _ ?_
    show Sp p e below T10 (mkF m 23 #[.val (.int p0), .unset, .unset, .unset, .unset] [(.ref b1)]) _
    refine XS.dup X10.here hx rfl (hb hby at_23) rfl rfl ?_
    show Sp p e below T10 (mkF m 24 #[.val (.int p0), .unset, .unset, .unset, .unset] [(.ref b1), (.ref b1)]) _
    refine XS.iconst X10.here hx rfl (hb hby at_24) ?_
    show Sp p e below T10 (mkF m 25 #[.val (.int p0), .unset, .unset, .unset, .unset] [(.int (3 : Int32)), (.ref b1), (.ref b1)]) _
    refine st11 _ ?_
    show Sp p e below T11 (mkF m 28 #[.val (.int p0), .unset, .unset, .unset, .unset] [(.ref w_SERVER_START), (.int (3 : Int32)), (.ref b1), (.ref b1)]) _
    refine st13 _ ?_
    show Sp p e below T13 (mkF m 29 #[.val (.int p0), .unset, .unset, .unset, .unset] [(.ref b1)]) _
    refine XS.dup X13.here hx rfl (hb hby at_29) rfl rfl ?_
    show Sp p e below T13 (mkF m 30 #[.val (.int p0), .unset, .unset, .unset, .unset] [(.ref b1), (.ref b1)]) _
    refine XS.iconst X13.here hx rfl (hb hby at_30) ?_
    show Sp p e below T13 (mkF m 31 #[.val (.int p0), .unset, .unset, .unset, .unset] [(.int (4 : Int32)), (.ref b1), (.ref b1)]) _
    refine st14 _ ?_
    show Sp p e below T14 (mkF m 34 #[.val (.int p0), .unset, .unset, .unset, .unset] [(.ref w_SERVER_STOP), (.int (4 : Int32)), (.ref b1), (.ref b1)]) _
    refine st16 _ ?_
    show Sp p e below T16 (mkF m 35 #[.val (.int p0), .unset, .unset, .unset, .unset] [(.ref b1)]) _
    refine XS.dup X16.here hx rfl (hb hby at_35) rfl rfl ?_
    show Sp p e below T16 (mkF m 36 #[.val (.int p0), .unset, .unset, .unset, .unset] [(.ref b1), (.ref b1)]) _
    refine XS.iconst X16.here hx rfl (hb hby at_36) ?_
    show Sp p e below T16 (mkF m 37 #[.val (.int p0), .unset, .unset, .unset, .unset] [(.int (5 : Int32)), (.ref b1), (.ref b1)]) _
    refine st17 _ ?_
    show Sp p e below T17 (mkF m 40 #[.val (.int p0), .unset, .unset, .unset, .unset] [(.ref w_SERVER_DELETE), (.int (5 : Int32)), (.ref b1), (.ref b1)]) _
    refine st19 _ ?_
    show Sp p e below T19 (mkF m 41 #[.val (.int p0), .unset, .unset, .unset, .unset] [(.ref b1)]) _
    refine XS.dup X19.here hx rfl (hb hby at_41) rfl rfl ?_
    show Sp p e below T19 (mkF m 42 #[.val (.int p0), .unset, .unset, .unset, .unset] [(.ref b1), (.ref b1)]) _
    refine XS.bipush X19.here hx rfl (hb hby at_42) ?_
    show Sp p e below T19 (mkF m 44 #[.val (.int p0), .unset, .unset, .unset, .unset] [(.int (6 : Int32)), (.ref b1), (.ref b1)]) _
    refine st20 _ ?_
    show Sp p e below T20 (mkF m 47 #[.val (.int p0), .unset, .unset, .unset, .unset] [(.ref w_DISK_ATTACH), (.int (6 : Int32)), (.ref b1), (.ref b1)]) _
    refine st22 _ ?_
    show Sp p e below T22 (mkF m 48 #[.val (.int p0), .unset, .unset, .unset, .unset] [(.ref b1)]) _
    refine XS.dup X22.here hx rfl (hb hby at_48) rfl rfl ?_
    show Sp p e below T22 (mkF m 49 #[.val (.int p0), .unset, .unset, .unset, .unset] [(.ref b1), (.ref b1)]) _
    refine XS.bipush X22.here hx rfl (hb hby at_49) ?_
    show Sp p e below T22 (mkF m 51 #[.val (.int p0), .unset, .unset, .unset, .unset] [(.int (7 : Int32)), (.ref b1), (.ref b1)]) _
    refine st23 _ ?_
    show Sp p e below T23 (mkF m 54 #[.val (.int p0), .unset, .unset, .unset, .unset] [(.ref w_DISK_DETACH), (.int (7 : Int32)), (.ref b1), (.ref b1)]) _
    refine st25 _ ?_
    show Sp p e below T25 (mkF m 55 #[.val (.int p0), .unset, .unset, .unset, .unset] [(.ref b1)]) _
    refine XS.dup X25.here hx rfl (hb hby at_55) rfl rfl ?_
    show Sp p e below T25 (mkF m 56 #[.val (.int p0), .unset, .unset, .unset, .unset] [(.ref b1), (.ref b1)]) _
    refine XS.bipush X25.here hx rfl (hb hby at_56) ?_
    show Sp p e below T25 (mkF m 58 #[.val (.int p0), .unset, .unset, .unset, .unset] [(.int (8 : Int32)), (.ref b1), (.ref b1)]) _
    refine st26 _ ?_
    show Sp p e below T26 (mkF m 61 #[.val (.int p0), .unset, .unset, .unset, .unset] [(.ref w_SNAPSHOT_CREATE), (.int (8 : Int32)), (.ref b1), (.ref b1)]) _
    refine st28 _ ?_
    show Sp p e below T28 (mkF m 62 #[.val (.int p0), .unset, .unset, .unset, .unset] [(.ref b1)]) _
    refine XS.dup X28.here hx rfl (hb hby at_62) rfl rfl ?_
    show Sp p e below T28 (mkF m 63 #[.val (.int p0), .unset, .unset, .unset, .unset] [(.ref b1), (.ref b1)]) _
    refine XS.bipush X28.here hx rfl (hb hby at_63) ?_
    show Sp p e below T28 (mkF m 65 #[.val (.int p0), .unset, .unset, .unset, .unset] [(.int (9 : Int32)), (.ref b1), (.ref b1)]) _
    refine st29 _ ?_
    show Sp p e below T29 (mkF m 68 #[.val (.int p0), .unset, .unset, .unset, .unset] [(.ref w_SNAPSHOT_DELETE), (.int (9 : Int32)), (.ref b1), (.ref b1)]) _
    refine st31 _ ?_
    show Sp p e below T31 (mkF m 69 #[.val (.int p0), .unset, .unset, .unset, .unset] [(.ref b1)]) _
    refine XS.dup X31.here hx rfl (hb hby at_69) rfl rfl ?_
    show Sp p e below T31 (mkF m 70 #[.val (.int p0), .unset, .unset, .unset, .unset] [(.ref b1), (.ref b1)]) _
    refine XS.bipush X31.here hx rfl (hb hby at_70) ?_
    show Sp p e below T31 (mkF m 72 #[.val (.int p0), .unset, .unset, .unset, .unset] [(.int (10 : Int32)), (.ref b1), (.ref b1)]) _
    refine st32 _ ?_
    show Sp p e below T32 (mkF m 75 #[.val (.int p0), .unset, .unset, .unset, .unset] [(.ref w_NIC_ATTACH), (.int (10 : Int32)), (.ref b1), (.ref b1)]) _
    refine st34 _ ?_
    show Sp p e below T34 (mkF m 76 #[.val (.int p0), .unset, .unset, .unset, .unset] [(.ref b1)]) _
    refine XS.dup X34.here hx rfl (hb hby at_76) rfl rfl ?_
    show Sp p e below T34 (mkF m 77 #[.val (.int p0), .unset, .unset, .unset, .unset] [(.ref b1), (.ref b1)]) _
    refine XS.bipush X34.here hx rfl (hb hby at_77) ?_
    show Sp p e below T34 (mkF m 79 #[.val (.int p0), .unset, .unset, .unset, .unset] [(.int (11 : Int32)), (.ref b1), (.ref b1)]) _
    refine st35 _ ?_
    show Sp p e below T35 (mkF m 82 #[.val (.int p0), .unset, .unset, .unset, .unset] [(.ref w_NIC_DETACH), (.int (11 : Int32)), (.ref b1), (.ref b1)]) _
    refine st37 _ ?_
    show Sp p e below T37 (mkF m 83 #[.val (.int p0), .unset, .unset, .unset, .unset] [(.ref b1)]) _
    refine XS.astoreN X37.here hx rfl (hb hby at_83) rfl rfl (l' := #[.val (.int p0), .val (.ref b1), .unset, .unset, .unset]) rfl ?_
    show Sp p e below T37 (mkF m 84 #[.val (.int p0), .val (.ref b1), .unset, .unset, .unset] []) _
    refine XS.iloadN X37.here hx rfl (hb hby at_84) rfl ?_
    show Sp p e below T37 (mkF m 85 #[.val (.int p0), .val (.ref b1), .unset, .unset, .unset] [(.int p0)]) _
    refine X37.ldcI hx hown (mvT hZ (hw _ (List.mem_of_getElem? (i := 28) rfl))) rfl (hb hby at_85) ?_
    show Sp p e below T37 (mkF m 87 #[.val (.int p0), .val (.ref b1), .unset, .unset, .unset] [(.int (2147483647 : Int32)), (.int p0)]) _
    refine XS.iand X37.here hx rfl (hb hby at_87) rfl ?_
    show Sp p e below T37 (mkF m 88 #[.val (.int p0), .val (.ref b1), .unset, .unset, .unset] [(.int (p0 &&& (2147483647 : Int32)))]) _
    refine XS.bipush X37.here hx rfl (hb hby at_88) ?_
    show Sp p e below T37 (mkF m 90 #[.val (.int p0), .val (.ref b1), .unset, .unset, .unset] [(.int (12 : Int32)), (.int (p0 &&& (2147483647 : Int32)))]) _
    refine iremM X37 hx rfl (hb hby at_90) rfl (by decide) ?_
    show Sp p e below T37 (mkF m 91 #[.val (.int p0), .val (.ref b1), .unset, .unset, .unset] [(.int ((p0 &&& (2147483647 : Int32)) % (12 : Int32)))]) _
    refine XS.istoreN X37.here hx rfl (hb hby at_91) rfl (l' := #[.val (.int p0), .val (.ref b1), .val (.int ((p0 &&& (2147483647 : Int32)) % (12 : Int32))), .unset, .unset]) rfl ?_
    show Sp p e below T37 (mkF m 92 #[.val (.int p0), .val (.ref b1), .val (.int ((p0 &&& (2147483647 : Int32)) % (12 : Int32))), .unset, .unset] []) _
    refine XS.aloadN X37.here hx rfl (hb hby at_92) rfl rfl ?_
    show Sp p e below T37 (mkF m 93 #[.val (.int p0), .val (.ref b1), .val (.int ((p0 &&& (2147483647 : Int32)) % (12 : Int32))), .unset, .unset] [(.ref b1)]) _
    refine XS.iloadN X37.here hx rfl (hb hby at_93) rfl ?_
    show Sp p e below T37 (mkF m 94 #[.val (.int p0), .val (.ref b1), .val (.int ((p0 &&& (2147483647 : Int32)) % (12 : Int32))), .unset, .unset] [(.int ((p0 &&& (2147483647 : Int32)) % (12 : Int32))), (.ref b1)]) _
    refine X37.aaload hx (j := ((p0 &&& (2147483647 : Int32)) % (12 : Int32))) (v := (.ref w_NIC_ATTACH)) (by rw [e37]; exact Ar38.1) (State.isArrayOf_alike hZ.alike Ar38.2.1) rfl Ar38.2.2 hin38 hat38 (g := (mkF m 94 #[.val (.int p0), .val (.ref b1), .val (.int ((p0 &&& (2147483647 : Int32)) % (12 : Int32))), .unset, .unset] [(.int ((p0 &&& (2147483647 : Int32)) % (12 : Int32))), (.ref b1)])) rfl rfl (hb hby at_94) _ ?_
    show Sp p e below T37 (mkF m 95 #[.val (.int p0), .val (.ref b1), .val (.int ((p0 &&& (2147483647 : Int32)) % (12 : Int32))), .unset, .unset] [(.ref w_NIC_ATTACH)]) _
    refine XS.astoreN X37.here hx rfl (hb hby at_95) rfl rfl (l' := #[.val (.int p0), .val (.ref b1), .val (.int ((p0 &&& (2147483647 : Int32)) % (12 : Int32))), .val (.ref w_NIC_ATTACH), .unset]) rfl ?_
    show Sp p e below T37 (mkF m 96 #[.val (.int p0), .val (.ref b1), .val (.int ((p0 &&& (2147483647 : Int32)) % (12 : Int32))), .val (.ref w_NIC_ATTACH), .unset] []) _
    refine XS.iconst X37.here hx rfl (hb hby at_96) ?_
    show Sp p e below T37 (mkF m 97 #[.val (.int p0), .val (.ref b1), .val (.int ((p0 &&& (2147483647 : Int32)) % (12 : Int32))), .val (.ref w_NIC_ATTACH), .unset] [(.int (0 : Int32))]) _
    refine XS.istore X37.here hx rfl (hb hby at_97) rfl (l' := #[.val (.int p0), .val (.ref b1), .val (.int ((p0 &&& (2147483647 : Int32)) % (12 : Int32))), .val (.ref w_NIC_ATTACH), .val (.int (0 : Int32))]) rfl ?_
    show Sp p e below T37 (mkF m 99 #[.val (.int p0), .val (.ref b1), .val (.int ((p0 &&& (2147483647 : Int32)) % (12 : Int32))), .val (.ref w_NIC_ATTACH), .val (.int (0 : Int32))] []) _
    refine XS.iloadN X37.here hx rfl (hb hby at_99) rfl ?_
    show Sp p e below T37 (mkF m 100 #[.val (.int p0), .val (.ref b1), .val (.int ((p0 &&& (2147483647 : Int32)) % (12 : Int32))), .val (.ref w_NIC_ATTACH), .val (.int (0 : Int32))] [(.int ((p0 &&& (2147483647 : Int32)) % (12 : Int32)))]) _
    refine XS.bipush X37.here hx rfl (hb hby at_100) ?_
    show Sp p e below T37 (mkF m 102 #[.val (.int p0), .val (.ref b1), .val (.int ((p0 &&& (2147483647 : Int32)) % (12 : Int32))), .val (.ref w_NIC_ATTACH), .val (.int (0 : Int32))] [(.int (6 : Int32)), (.int ((p0 &&& (2147483647 : Int32)) % (12 : Int32)))]) _
    refine XS.icmpYes X37.here hx rfl (pc0 := 102) (pc' := 111) rfl (hb hby at_102) rfl (feq hc7).2 (by decide) (by decide) ?_
    show Sp p e below T37 (mkF m 111 #[.val (.int p0), .val (.ref b1), .val (.int ((p0 &&& (2147483647 : Int32)) % (12 : Int32))), .val (.ref w_NIC_ATTACH), .val (.int (0 : Int32))] []) _
    refine XS.iloadN X37.here hx rfl (hb hby at_111) rfl ?_
    show Sp p e below T37 (mkF m 112 #[.val (.int p0), .val (.ref b1), .val (.int ((p0 &&& (2147483647 : Int32)) % (12 : Int32))), .val (.ref w_NIC_ATTACH), .val (.int (0 : Int32))] [(.int ((p0 &&& (2147483647 : Int32)) % (12 : Int32)))]) _
    refine XS.bipush X37.here hx rfl (hb hby at_112) ?_
    show Sp p e below T37 (mkF m 114 #[.val (.int p0), .val (.ref b1), .val (.int ((p0 &&& (2147483647 : Int32)) % (12 : Int32))), .val (.ref w_NIC_ATTACH), .val (.int (0 : Int32))] [(.int (7 : Int32)), (.int ((p0 &&& (2147483647 : Int32)) % (12 : Int32)))]) _
    refine XS.icmpYes X37.here hx rfl (pc0 := 114) (pc' := 123) rfl (hb hby at_114) rfl (feq hc8).2 (by decide) (by decide) ?_
    show Sp p e below T37 (mkF m 123 #[.val (.int p0), .val (.ref b1), .val (.int ((p0 &&& (2147483647 : Int32)) % (12 : Int32))), .val (.ref w_NIC_ATTACH), .val (.int (0 : Int32))] []) _
    refine XS.iloadN X37.here hx rfl (hb hby at_123) rfl ?_
    show Sp p e below T37 (mkF m 124 #[.val (.int p0), .val (.ref b1), .val (.int ((p0 &&& (2147483647 : Int32)) % (12 : Int32))), .val (.ref w_NIC_ATTACH), .val (.int (0 : Int32))] [(.int ((p0 &&& (2147483647 : Int32)) % (12 : Int32)))]) _
    refine XS.bipush X37.here hx rfl (hb hby at_124) ?_
    show Sp p e below T37 (mkF m 126 #[.val (.int p0), .val (.ref b1), .val (.int ((p0 &&& (2147483647 : Int32)) % (12 : Int32))), .val (.ref w_NIC_ATTACH), .val (.int (0 : Int32))] [(.int (10 : Int32)), (.int ((p0 &&& (2147483647 : Int32)) % (12 : Int32)))]) _
    refine XS.icmpNo X37.here hx rfl (hb hby at_126) rfl (teq hc11).2 ?_
    show Sp p e below T37 (mkF m 129 #[.val (.int p0), .val (.ref b1), .val (.int ((p0 &&& (2147483647 : Int32)) % (12 : Int32))), .val (.ref w_NIC_ATTACH), .val (.int (0 : Int32))] []) _
    refine XS.iconst X37.here hx rfl (hb hby at_129) ?_
    show Sp p e below T37 (mkF m 130 #[.val (.int p0), .val (.ref b1), .val (.int ((p0 &&& (2147483647 : Int32)) % (12 : Int32))), .val (.ref w_NIC_ATTACH), .val (.int (0 : Int32))] [(.int (1 : Int32))]) _
    refine XS.istore X37.here hx rfl (hb hby at_130) rfl (l' := #[.val (.int p0), .val (.ref b1), .val (.int ((p0 &&& (2147483647 : Int32)) % (12 : Int32))), .val (.ref w_NIC_ATTACH), .val (.int (1 : Int32))]) rfl ?_
    show Sp p e below T37 (mkF m 132 #[.val (.int p0), .val (.ref b1), .val (.int ((p0 &&& (2147483647 : Int32)) % (12 : Int32))), .val (.ref w_NIC_ATTACH), .val (.int (1 : Int32))] []) _
    refine XS.goto X37.here hx rfl (pc0 := 132) (pc' := 144) rfl (hb hby at_132) (by decide) (by decide) ?_
    show Sp p e below T37 (mkF m 144 #[.val (.int p0), .val (.ref b1), .val (.int ((p0 &&& (2147483647 : Int32)) % (12 : Int32))), .val (.ref w_NIC_ATTACH), .val (.int (1 : Int32))] []) _
    refine XS.aloadN X37.here hx rfl (hb hby at_144) rfl rfl ?_
    show Sp p e below T37 (mkF m 145 #[.val (.int p0), .val (.ref b1), .val (.int ((p0 &&& (2147483647 : Int32)) % (12 : Int32))), .val (.ref w_NIC_ATTACH), .val (.int (1 : Int32))] [(.ref w_NIC_ATTACH)]) _
    refine st39.trans ?_
    show Sp p e below T39 (mkF m 148 #[.val (.int p0), .val (.ref b1), .val (.int ((p0 &&& (2147483647 : Int32)) % (12 : Int32))), .val (.ref w_NIC_ATTACH), .val (.int (1 : Int32))] [(.int (1 : Int32))]) _
    refine XS.iload X39.here hx rfl (hb hby at_148) rfl ?_
    show Sp p e below T39 (mkF m 150 #[.val (.int p0), .val (.ref b1), .val (.int ((p0 &&& (2147483647 : Int32)) % (12 : Int32))), .val (.ref w_NIC_ATTACH), .val (.int (1 : Int32))] [(.int (1 : Int32)), (.int (1 : Int32))]) _
    refine XS.icmpNo X39.here hx rfl (hb hby at_150) rfl (teq (by decide : (1 : Int32) = (1 : Int32))).2 ?_
    show Sp p e below T39 (mkF m 153 #[.val (.int p0), .val (.ref b1), .val (.int ((p0 &&& (2147483647 : Int32)) % (12 : Int32))), .val (.ref w_NIC_ATTACH), .val (.int (1 : Int32))] []) _
    refine XS.iconst X39.here hx rfl (hb hby at_153) ?_
    show Sp p e below T39 (mkF m 154 #[.val (.int p0), .val (.ref b1), .val (.int ((p0 &&& (2147483647 : Int32)) % (12 : Int32))), .val (.ref w_NIC_ATTACH), .val (.int (1 : Int32))] [(.int (1 : Int32))]) _
    refine XS.goto X39.here hx rfl (pc0 := 154) (pc' := 158) rfl (hb hby at_154) (by decide) (by decide) ?_
    show Sp p e below T39 (mkF m 158 #[.val (.int p0), .val (.ref b1), .val (.int ((p0 &&& (2147483647 : Int32)) % (12 : Int32))), .val (.ref w_NIC_ATTACH), .val (.int (1 : Int32))] [(.int (1 : Int32))]) _
    exact retN X39 hx (t := .boolean) Bd.returns (by simp) (hb hby at_158) hr
  · skip
    exact ⟨rfl, N39⟩
def Q23 (Z : State) (w_PLATFORM_DEPLOY : Addr) (w_PLATFORM_DELETE : Addr) (w_SERVER_DEPLOY : Addr) (w_SERVER_START : Addr) (w_SERVER_STOP : Addr) (w_SERVER_DELETE : Addr) (w_DISK_ATTACH : Addr) (w_DISK_DETACH : Addr) (w_SNAPSHOT_CREATE : Addr) (w_SNAPSHOT_DELETE : Addr) (w_NIC_ATTACH : Addr) (w_NIC_DETACH : Addr) (h0 : Heap) (n0 : Nat) (v : Option Value) (h : Heap) (L : List Loc) : Prop := v = some (.int (1 : Int32)) ∧ Fr n0 L ∧ h = h0
set_option maxRecDepth 65536 in
set_option maxHeartbeats 40000000 in
theorem rm23 (l : Launch) (Z : State) (a0 : Array Value) (hw : ∀ d ∈ tables_1, d.before a0 Z = true) (ws : List Jvm.Cond) (w_PLATFORM_DEPLOY w_PLATFORM_DELETE w_SERVER_DEPLOY w_SERVER_START w_SERVER_STOP w_SERVER_DELETE w_DISK_ATTACH w_DISK_DETACH w_SNAPSHOT_CREATE w_SNAPSHOT_DELETE w_NIC_ATTACH w_NIC_DETACH : Addr) (hp : Perm Z w_PLATFORM_DEPLOY w_PLATFORM_DELETE w_SERVER_DEPLOY w_SERVER_START w_SERVER_STOP w_SERVER_DELETE w_DISK_ATTACH w_DISK_DETACH w_SNAPSHOT_CREATE w_SNAPSHOT_DELETE w_NIC_ATTACH w_NIC_DETACH) (h0 : Heap) (n0 : Nat) (O0 : Old Z n0 h0) :
    MetFree l y0 (head1 (Jvm.Cond.code y0 prog_20_method_6_code 1 (some .boolean) :: ws) ({ frames := 0, cells := 0, slots := 0, locals := 0 } : Room)) (fun a U => a = #[(.ref w_NIC_DETACH)] ∧ Z.Warmed39 U.vm ∧ U.heap = h0) (fun _ _ _ _ _ => True) (fun _ U o U' => ∃ v L, o = .returned v ∧ Q23 Z w_PLATFORM_DEPLOY w_PLATFORM_DELETE w_SERVER_DEPLOY w_SERVER_START w_SERVER_STOP w_SERVER_DELETE w_DISK_ATTACH w_DISK_DETACH w_SNAPSHOT_CREATE w_SNAPSHOT_DELETE w_NIC_ATTACH w_NIC_DETACH  h0 n0 v U'.heap L ∧ FrameEnd U o U' L ({ frames := 0, cells := 0, slots := 0, locals := 0 } : Room).cells ({ frames := 0, cells := 0, slots := 0, locals := 0 } : Room).slots) := by
  refine MetFree.of_bodySF (plainFor_of_name pn_1) hisR ?_
  intro p e s m args below meth c s₁ Bd hml0 hP hK
  obtain ⟨rfl, hZ, hh⟩ := hP
  have hx := Bd.exec
  have hby := Bd.bytes
  have hml : c.maxLocals = 1 := hml0
  have hown : s.vm.findClass "com/example/ratebook/ratebook/model/EventType" = some m.cls := findClass_of_methodNamed Bd.named
  have hnm := (name_of_methodNamed Bd.named Bd.method).1
  have X0 : Stand p l e ({ frames := 0, cells := 0, slots := 0, locals := 0 } : Room) s m #[(.ref w_NIC_DETACH)] below meth c s₁ [] 0 0 := Stand.of_body Bd
  have e0 : s₁.heap = h0 := by rw [← hh, Bd.state]; rfl
  have N0 := Fr.nil n0
  have hp' := hp
  obtain ⟨S_w_PLATFORM_DEPLOY, E_w_PLATFORM_DEPLOY, S_w_PLATFORM_DELETE, E_w_PLATFORM_DELETE, S_w_SERVER_DEPLOY, E_w_SERVER_DEPLOY, S_w_SERVER_START, E_w_SERVER_START, S_w_SERVER_STOP, E_w_SERVER_STOP, S_w_SERVER_DELETE, E_w_SERVER_DELETE, S_w_DISK_ATTACH, E_w_DISK_ATTACH, S_w_DISK_DETACH, E_w_DISK_DETACH, S_w_SNAPSHOT_CREATE, E_w_SNAPSHOT_CREATE, S_w_SNAPSHOT_DELETE, E_w_SNAPSHOT_DELETE, S_w_NIC_ATTACH, E_w_NIC_ATTACH, S_w_NIC_DETACH, E_w_NIC_DETACH, F_ordinal_w_PLATFORM_DEPLOY, F_ordinal_w_DISK_ATTACH, F_ordinal_w_DISK_DETACH, F_ordinal_w_NIC_ATTACH, F_ordinal_w_NIC_DETACH, F_ordinal_w_SERVER_START, F_ordinal_w_SERVER_DEPLOY, F_ordinal_w_SERVER_STOP, F_ordinal_w_SNAPSHOT_CREATE, F_ordinal_w_PLATFORM_DELETE, F_ordinal_w_SNAPSHOT_DELETE, F_ordinal_w_SERVER_DELETE⟩ := hp'
  have pre0 : ∀ t, Steps p.tables e below (s₁.setTop (mkF m 0 #[.val (.ref w_NIC_DETACH)] [])) t → Steps p.tables e below (s₁.setTop (entryFrame m #[(.ref w_NIC_DETACH)] 1)) t := fun t k => castTop (ef_1_0 m w_NIC_DETACH) k
  obtain ⟨T1, X1, e1, st1⟩ := getS2 X0 hx hZ hown (host := "") (Or.inl (hw _ (List.mem_of_getElem? (i := 34) rfl))) Via.refl e0 (S_w_DISK_ATTACH.ext O0.2) (g := (mkF m 1 #[.val (.ref w_NIC_DETACH)] [(.ref w_NIC_DETACH)])) rfl (hb hby d1_1)
  obtain ⟨T2, X2, e2, st2⟩ := getS2 X1 hx hZ hown (host := "") (Or.inl (hw _ (List.mem_of_getElem? (i := 35) rfl))) Via.refl e1 (S_w_DISK_DETACH.ext O0.2) (g := (mkF m 8 #[.val (.ref w_NIC_DETACH)] [(.ref w_NIC_DETACH)])) rfl (hb hby d1_8)
  obtain ⟨T3, X3, e3, st3⟩ := getS2 X2 hx hZ hown (host := "") (Or.inl (hw _ (List.mem_of_getElem? (i := 36) rfl))) Via.refl e2 (S_w_NIC_ATTACH.ext O0.2) (g := (mkF m 15 #[.val (.ref w_NIC_DETACH)] [(.ref w_NIC_DETACH)])) rfl (hb hby d1_15)
  obtain ⟨T4, X4, e4, st4⟩ := getS2 X3 hx hZ hown (host := "") (Or.inl (hw _ (List.mem_of_getElem? (i := 37) rfl))) Via.refl e3 (S_w_NIC_DETACH.ext O0.2) (g := (mkF m 22 #[.val (.ref w_NIC_DETACH)] [(.ref w_NIC_DETACH)])) rfl (hb hby d1_22)
  obtain ⟨fs, hr, hrun, hended, hW, hsame⟩ := X4.leave (v := some (.int (1 : Int32))) (fun h => by rw [Bd.returns] at h; cases h)
  refine ⟨_, _, pre0 _ ?_, hrun, hended, _, _, rfl, ?_, ⟨_, rfl⟩, hW, hsame.mono (by decide) (by decide)⟩
  · show Sp p e below s₁ (mkF m 0 #[.val (.ref w_NIC_DETACH)] []) _
    refine XS.aloadN X0.here hx rfl (hb hby d1_0) rfl rfl ?_
    show Sp p e below s₁ (mkF m 1 #[.val (.ref w_NIC_DETACH)] [(.ref w_NIC_DETACH)]) _
    refine st1 _ ?_
    show Sp p e below T1 (mkF m 4 #[.val (.ref w_NIC_DETACH)] [(.ref w_DISK_ATTACH), (.ref w_NIC_DETACH)]) _
    refine Jvm.RoadKit.acmp (g := (mkF m 4 #[.val (.ref w_NIC_DETACH)] [(.ref w_DISK_ATTACH), (.ref w_NIC_DETACH)])) X1 hx rfl rfl rfl (pc0 := 4) (pc' := 7) (same := false) rfl (hb hby d1_4) rfl (decide_eq_false fun q => (Ne.symm (ne_w_DISK_ATTACH_w_NIC_DETACH hp)) (Value.ref.inj q)) (by decide) (by decide) ?_
    show Sp p e below T1 (mkF m 7 #[.val (.ref w_NIC_DETACH)] []) _
    refine XS.aloadN X1.here hx rfl (hb hby d1_7) rfl rfl ?_
    show Sp p e below T1 (mkF m 8 #[.val (.ref w_NIC_DETACH)] [(.ref w_NIC_DETACH)]) _
    refine st2 _ ?_
    show Sp p e below T2 (mkF m 11 #[.val (.ref w_NIC_DETACH)] [(.ref w_DISK_DETACH), (.ref w_NIC_DETACH)]) _
    refine Jvm.RoadKit.acmp (g := (mkF m 11 #[.val (.ref w_NIC_DETACH)] [(.ref w_DISK_DETACH), (.ref w_NIC_DETACH)])) X2 hx rfl rfl rfl (pc0 := 11) (pc' := 14) (same := false) rfl (hb hby d1_11) rfl (decide_eq_false fun q => (Ne.symm (ne_w_DISK_DETACH_w_NIC_DETACH hp)) (Value.ref.inj q)) (by decide) (by decide) ?_
    show Sp p e below T2 (mkF m 14 #[.val (.ref w_NIC_DETACH)] []) _
    refine XS.aloadN X2.here hx rfl (hb hby d1_14) rfl rfl ?_
    show Sp p e below T2 (mkF m 15 #[.val (.ref w_NIC_DETACH)] [(.ref w_NIC_DETACH)]) _
    refine st3 _ ?_
    show Sp p e below T3 (mkF m 18 #[.val (.ref w_NIC_DETACH)] [(.ref w_NIC_ATTACH), (.ref w_NIC_DETACH)]) _
    refine Jvm.RoadKit.acmp (g := (mkF m 18 #[.val (.ref w_NIC_DETACH)] [(.ref w_NIC_ATTACH), (.ref w_NIC_DETACH)])) X3 hx rfl rfl rfl (pc0 := 18) (pc' := 21) (same := false) rfl (hb hby d1_18) rfl (decide_eq_false fun q => (Ne.symm (ne_w_NIC_ATTACH_w_NIC_DETACH hp)) (Value.ref.inj q)) (by decide) (by decide) ?_
    show Sp p e below T3 (mkF m 21 #[.val (.ref w_NIC_DETACH)] []) _
    refine XS.aloadN X3.here hx rfl (hb hby d1_21) rfl rfl ?_
    show Sp p e below T3 (mkF m 22 #[.val (.ref w_NIC_DETACH)] [(.ref w_NIC_DETACH)]) _
    refine st4 _ ?_
    show Sp p e below T4 (mkF m 25 #[.val (.ref w_NIC_DETACH)] [(.ref w_NIC_DETACH), (.ref w_NIC_DETACH)]) _
    refine Jvm.RoadKit.acmp (g := (mkF m 25 #[.val (.ref w_NIC_DETACH)] [(.ref w_NIC_DETACH), (.ref w_NIC_DETACH)])) X4 hx rfl rfl rfl (pc0 := 25) (pc' := 28) (same := true) rfl (hb hby d1_25) rfl (decide_eq_true rfl) (by decide) (by decide) ?_
    show Sp p e below T4 (mkF m 28 #[.val (.ref w_NIC_DETACH)] []) _
    refine XS.iconst X4.here hx rfl (hb hby d1_28) ?_
    show Sp p e below T4 (mkF m 29 #[.val (.ref w_NIC_DETACH)] [(.int (1 : Int32))]) _
    refine XS.goto X4.here hx rfl (pc0 := 29) (pc' := 33) rfl (hb hby d1_29) (by decide) (by decide) ?_
    show Sp p e below T4 (mkF m 33 #[.val (.ref w_NIC_DETACH)] [(.int (1 : Int32))]) _
    exact retN X4 hx (t := .boolean) Bd.returns (by simp) (hb hby d1_33) hr
  · show Q23 Z w_PLATFORM_DEPLOY w_PLATFORM_DELETE w_SERVER_DEPLOY w_SERVER_START w_SERVER_STOP w_SERVER_DELETE w_DISK_ATTACH w_DISK_DETACH w_SNAPSHOT_CREATE w_SNAPSHOT_DELETE w_NIC_ATTACH w_NIC_DETACH  h0 n0 _ T4.heap _
    rw [e4]
    exact ⟨rfl, N0, rfl⟩
set_option maxRecDepth 65536 in
set_option maxHeartbeats 40000000 in
theorem rm24 (l : Launch) (Z : State) (a0 : Array Value) (hw : ∀ d ∈ tables_1, d.before a0 Z = true) (ws : List Jvm.Cond) (w_PLATFORM_DEPLOY w_PLATFORM_DELETE w_SERVER_DEPLOY w_SERVER_START w_SERVER_STOP w_SERVER_DELETE w_DISK_ATTACH w_DISK_DETACH w_SNAPSHOT_CREATE w_SNAPSHOT_DELETE w_NIC_ATTACH w_NIC_DETACH : Addr) (hp : Perm Z w_PLATFORM_DEPLOY w_PLATFORM_DELETE w_SERVER_DEPLOY w_SERVER_START w_SERVER_STOP w_SERVER_DELETE w_DISK_ATTACH w_DISK_DETACH w_SNAPSHOT_CREATE w_SNAPSHOT_DELETE w_NIC_ATTACH w_NIC_DETACH) (p0 : Int32) (h0 : Heap) (n0 : Nat) (O0 : Old Z n0 h0) (hc1 : ¬ (((p0 &&& (2147483647 : Int32)) % (12 : Int32)) = (0 : Int32))) (hc2 : ¬ (((p0 &&& (2147483647 : Int32)) % (12 : Int32)) = (1 : Int32))) (hc3 : ¬ (((p0 &&& (2147483647 : Int32)) % (12 : Int32)) = (2 : Int32))) (hc4 : ¬ (((p0 &&& (2147483647 : Int32)) % (12 : Int32)) = (3 : Int32))) (hc5 : ¬ (((p0 &&& (2147483647 : Int32)) % (12 : Int32)) = (4 : Int32))) (hc6 : ¬ (((p0 &&& (2147483647 : Int32)) % (12 : Int32)) = (5 : Int32))) (hc7 : ¬ (((p0 &&& (2147483647 : Int32)) % (12 : Int32)) = (6 : Int32))) (hc8 : ¬ (((p0 &&& (2147483647 : Int32)) % (12 : Int32)) = (7 : Int32))) (hc9 : ¬ (((p0 &&& (2147483647 : Int32)) % (12 : Int32)) = (8 : Int32))) (hc10 : ¬ (((p0 &&& (2147483647 : Int32)) % (12 : Int32)) = (9 : Int32))) (hc11 : ¬ (((p0 &&& (2147483647 : Int32)) % (12 : Int32)) = (10 : Int32))) :
    MetFree l x (head1 (Jvm.Cond.code x code maxLocals ret :: ws) room_1) (fun a U => a = #[(.int p0)] ∧ Z.Warmed39 U.vm ∧ U.heap = h0) (fun _ _ _ _ _ => True) (fun _ U o U' => ∃ v L, o = .returned v ∧ (v = some (.int (1 : Int32)) ∧ Fr n0 L) ∧ FrameEnd U o U' L 16 128) := by
  refine MetFree.of_bodySF (plainFor_of_name pn_0) hisR ?_
  intro p e s m args below meth c s₁ Bd hml0 hP hK
  obtain ⟨rfl, hZ, hh⟩ := hP
  have hx := Bd.exec
  have hby := Bd.bytes
  have hml : c.maxLocals = 5 := hml0
  have hown : s.vm.findClass "com/example/ratebook/ratebook/model/EventTypeIsAttachmentEventPinLaw" = some m.cls := findClass_of_methodNamed Bd.named
  have hnm := (name_of_methodNamed Bd.named Bd.method).1
  have X0 : Stand p l e room_1 s m #[(.int p0)] below meth c s₁ [] 0 0 := Stand.of_body Bd
  have e0 : s₁.heap = h0 := by rw [← hh, Bd.state]; rfl
  have N0 := Fr.nil n0
  have hp' := hp
  obtain ⟨S_w_PLATFORM_DEPLOY, E_w_PLATFORM_DEPLOY, S_w_PLATFORM_DELETE, E_w_PLATFORM_DELETE, S_w_SERVER_DEPLOY, E_w_SERVER_DEPLOY, S_w_SERVER_START, E_w_SERVER_START, S_w_SERVER_STOP, E_w_SERVER_STOP, S_w_SERVER_DELETE, E_w_SERVER_DELETE, S_w_DISK_ATTACH, E_w_DISK_ATTACH, S_w_DISK_DETACH, E_w_DISK_DETACH, S_w_SNAPSHOT_CREATE, E_w_SNAPSHOT_CREATE, S_w_SNAPSHOT_DELETE, E_w_SNAPSHOT_DELETE, S_w_NIC_ATTACH, E_w_NIC_ATTACH, S_w_NIC_DETACH, E_w_NIC_DETACH, F_ordinal_w_PLATFORM_DEPLOY, F_ordinal_w_DISK_ATTACH, F_ordinal_w_DISK_DETACH, F_ordinal_w_NIC_ATTACH, F_ordinal_w_NIC_DETACH, F_ordinal_w_SERVER_START, F_ordinal_w_SERVER_DEPLOY, F_ordinal_w_SERVER_STOP, F_ordinal_w_SNAPSHOT_CREATE, F_ordinal_w_PLATFORM_DELETE, F_ordinal_w_SNAPSHOT_DELETE, F_ordinal_w_SERVER_DELETE⟩ := hp'
  have pre0 : ∀ t, Steps p.tables e below (s₁.setTop (mkF m 0 #[.val (.int p0), .unset, .unset, .unset, .unset] [])) t → Steps p.tables e below (s₁.setTop (entryFrame m #[(.int p0)] maxLocals)) t := fun t k => castTop (ef_0_0 m p0) k
  obtain ⟨T1, h1, k1, X1, e1, E1, A1, EA1, Ov1, st1⟩ := newRE X0 hx hZ hown (hw _ (List.mem_of_getElem? (i := 0) rfl)) (hw _ (List.mem_of_getElem? (i := 1) rfl)) e0 (g := (mkF m 2 #[.val (.int p0), .unset, .unset, .unset, .unset] [(.int (12 : Int32))])) rfl (hb hby at_2) rfl (by decide) (cap := 12) (by decide) (by decide) (by decide) (by decide) (ad := "[Lcom/example/ratebook/ratebook/model/EventType;") (by decide)
  obtain ⟨b1, g1⟩ : ∃ z, z = h0.size := ⟨_, rfl⟩
  rw [← g1] at A1 EA1 st1
  have g_b1 : n0 ≤ b1 := Nat.le_trans (own_sz O0) (Nat.le_of_eq g1.symm)
  have sz_b1 : h0.size ≤ b1 := Nat.le_trans (Keep.refl h0 []).1 (Nat.le_of_eq g1.symm)
  have O1 := O0.ext E1
  have K1 : Keep h0 h1 [] := (Keep.refl h0 []).ext E1
  have V_b1 : Arv Z h1 b1 k1 (.object "com/example/ratebook/ratebook/model/EventType") (12 : Int32) [.null, .null, .null, .null, .null, .null, .null, .null, .null, .null, .null, .null] .null := (Arv.new A1 (by decide)).pad (pad_rep [] .null 12)
  obtain ⟨T2, X2, e2, st2⟩ := getS2 X1 hx hZ hown (host := "") (Or.inl (hw _ (List.mem_of_getElem? (i := 2) rfl))) Via.refl e1 (S_w_PLATFORM_DEPLOY.ext O1.2) (g := (mkF m 7 #[.val (.int p0), .unset, .unset, .unset, .unset] [(.int (0 : Int32)), (.ref b1), (.ref b1)])) rfl (hb hby at_7)
  obtain ⟨cl3, Ar3, q3, S3, Nn3, H3, G3⟩ := V_b1
  have hin3 : ¬ ((0 : Int32) < 0 ∨ cl3.slots.size ≤ ((0 : Int32)).toNatClampNeg) := inb_of S3 ⟨by decide, by decide⟩
  obtain ⟨T4, h4, X4, e4, W4, st4⟩ := stR X2 hx hZ e2 Ar3 (j := (0 : Int32)) hin3 rfl (Sto.ofV Ar3 q3 Ov1 (Ins.self (E_w_PLATFORM_DEPLOY.ext O1.2))) (g := (mkF m 10 #[.val (.int p0), .unset, .unset, .unset, .unset] [(.ref w_PLATFORM_DEPLOY), (.int (0 : Int32)), (.ref b1), (.ref b1)])) rfl rfl (hb hby at_10)
  have N4 := Fr.snoc X4 N0 g_b1
  have O4 := O1.wr W4 g_b1
  have K4 : Keep h0 h4 [] := K1.wr W4 (Or.inr sz_b1)
  have V_b1_4 : Arv Z h4 b1 k1 (.object "com/example/ratebook/ratebook/model/EventType") (12 : Int32) [(.ref w_PLATFORM_DEPLOY), .null, .null, .null, .null, .null, .null, .null, .null, .null, .null, .null] .null := Arv.set Ar3 q3 S3 Nn3 H3 G3 rfl W4 0 rfl (Nat.le_of_ble_eq_true rfl)
  obtain ⟨T5, X5, e5, st5⟩ := getS2 X4 hx hZ hown (host := "") (Or.inl (hw _ (List.mem_of_getElem? (i := 6) rfl))) Via.refl e4 (S_w_PLATFORM_DELETE.ext O4.2) (g := (mkF m 13 #[.val (.int p0), .unset, .unset, .unset, .unset] [(.int (1 : Int32)), (.ref b1), (.ref b1)])) rfl (hb hby at_13)
  obtain ⟨cl6, Ar6, q6, S6, Nn6, H6, G6⟩ := V_b1_4
  have hin6 : ¬ ((1 : Int32) < 0 ∨ cl6.slots.size ≤ ((1 : Int32)).toNatClampNeg) := inb_of S6 ⟨by decide, by decide⟩
  obtain ⟨T7, h7, X7, e7, W7, st7⟩ := stR X5 hx hZ e5 Ar6 (j := (1 : Int32)) hin6 rfl (Sto.ofV Ar6 q6 Ov1 (Ins.self (E_w_PLATFORM_DELETE.ext O4.2))) (g := (mkF m 16 #[.val (.int p0), .unset, .unset, .unset, .unset] [(.ref w_PLATFORM_DELETE), (.int (1 : Int32)), (.ref b1), (.ref b1)])) rfl rfl (hb hby at_16)
  have N7 := Fr.snoc X7 N4 g_b1
  have O7 := O4.wr W7 g_b1
  have K7 : Keep h0 h7 [] := K4.wr W7 (Or.inr sz_b1)
  have V_b1_7 : Arv Z h7 b1 k1 (.object "com/example/ratebook/ratebook/model/EventType") (12 : Int32) [(.ref w_PLATFORM_DEPLOY), (.ref w_PLATFORM_DELETE), .null, .null, .null, .null, .null, .null, .null, .null, .null, .null] .null := Arv.set Ar6 q6 S6 Nn6 H6 G6 rfl W7 1 rfl (Nat.le_of_ble_eq_true rfl)
  obtain ⟨T8, X8, e8, st8⟩ := getS2 X7 hx hZ hown (host := "") (Or.inl (hw _ (List.mem_of_getElem? (i := 8) rfl))) Via.refl e7 (S_w_SERVER_DEPLOY.ext O7.2) (g := (mkF m 19 #[.val (.int p0), .unset, .unset, .unset, .unset] [(.int (2 : Int32)), (.ref b1), (.ref b1)])) rfl (hb hby at_19)
  obtain ⟨cl9, Ar9, q9, S9, Nn9, H9, G9⟩ := V_b1_7
  have hin9 : ¬ ((2 : Int32) < 0 ∨ cl9.slots.size ≤ ((2 : Int32)).toNatClampNeg) := inb_of S9 ⟨by decide, by decide⟩
  obtain ⟨T10, h10, X10, e10, W10, st10⟩ := stR X8 hx hZ e8 Ar9 (j := (2 : Int32)) hin9 rfl (Sto.ofV Ar9 q9 Ov1 (Ins.self (E_w_SERVER_DEPLOY.ext O7.2))) (g := (mkF m 22 #[.val (.int p0), .unset, .unset, .unset, .unset] [(.ref w_SERVER_DEPLOY), (.int (2 : Int32)), (.ref b1), (.ref b1)])) rfl rfl (hb hby at_22)
  have N10 := Fr.snoc X10 N7 g_b1
  have O10 := O7.wr W10 g_b1
  have K10 : Keep h0 h10 [] := K7.wr W10 (Or.inr sz_b1)
  have V_b1_10 : Arv Z h10 b1 k1 (.object "com/example/ratebook/ratebook/model/EventType") (12 : Int32) [(.ref w_PLATFORM_DEPLOY), (.ref w_PLATFORM_DELETE), (.ref w_SERVER_DEPLOY), .null, .null, .null, .null, .null, .null, .null, .null, .null] .null := Arv.set Ar9 q9 S9 Nn9 H9 G9 rfl W10 2 rfl (Nat.le_of_ble_eq_true rfl)
  obtain ⟨T11, X11, e11, st11⟩ := getS2 X10 hx hZ hown (host := "") (Or.inl (hw _ (List.mem_of_getElem? (i := 10) rfl))) Via.refl e10 (S_w_SERVER_START.ext O10.2) (g := (mkF m 25 #[.val (.int p0), .unset, .unset, .unset, .unset] [(.int (3 : Int32)), (.ref b1), (.ref b1)])) rfl (hb hby at_25)
  obtain ⟨cl12, Ar12, q12, S12, Nn12, H12, G12⟩ := V_b1_10
  have hin12 : ¬ ((3 : Int32) < 0 ∨ cl12.slots.size ≤ ((3 : Int32)).toNatClampNeg) := inb_of S12 ⟨by decide, by decide⟩
  obtain ⟨T13, h13, X13, e13, W13, st13⟩ := stR X11 hx hZ e11 Ar12 (j := (3 : Int32)) hin12 rfl (Sto.ofV Ar12 q12 Ov1 (Ins.self (E_w_SERVER_START.ext O10.2))) (g := (mkF m 28 #[.val (.int p0), .unset, .unset, .unset, .unset] [(.ref w_SERVER_START), (.int (3 : Int32)), (.ref b1), (.ref b1)])) rfl rfl (hb hby at_28)
  have N13 := Fr.snoc X13 N10 g_b1
  have O13 := O10.wr W13 g_b1
  have K13 : Keep h0 h13 [] := K10.wr W13 (Or.inr sz_b1)
  have V_b1_13 : Arv Z h13 b1 k1 (.object "com/example/ratebook/ratebook/model/EventType") (12 : Int32) [(.ref w_PLATFORM_DEPLOY), (.ref w_PLATFORM_DELETE), (.ref w_SERVER_DEPLOY), (.ref w_SERVER_START), .null, .null, .null, .null, .null, .null, .null, .null] .null := Arv.set Ar12 q12 S12 Nn12 H12 G12 rfl W13 3 rfl (Nat.le_of_ble_eq_true rfl)
  obtain ⟨T14, X14, e14, st14⟩ := getS2 X13 hx hZ hown (host := "") (Or.inl (hw _ (List.mem_of_getElem? (i := 12) rfl))) Via.refl e13 (S_w_SERVER_STOP.ext O13.2) (g := (mkF m 31 #[.val (.int p0), .unset, .unset, .unset, .unset] [(.int (4 : Int32)), (.ref b1), (.ref b1)])) rfl (hb hby at_31)
  obtain ⟨cl15, Ar15, q15, S15, Nn15, H15, G15⟩ := V_b1_13
  have hin15 : ¬ ((4 : Int32) < 0 ∨ cl15.slots.size ≤ ((4 : Int32)).toNatClampNeg) := inb_of S15 ⟨by decide, by decide⟩
  obtain ⟨T16, h16, X16, e16, W16, st16⟩ := stR X14 hx hZ e14 Ar15 (j := (4 : Int32)) hin15 rfl (Sto.ofV Ar15 q15 Ov1 (Ins.self (E_w_SERVER_STOP.ext O13.2))) (g := (mkF m 34 #[.val (.int p0), .unset, .unset, .unset, .unset] [(.ref w_SERVER_STOP), (.int (4 : Int32)), (.ref b1), (.ref b1)])) rfl rfl (hb hby at_34)
  have N16 := Fr.snoc X16 N13 g_b1
  have O16 := O13.wr W16 g_b1
  have K16 : Keep h0 h16 [] := K13.wr W16 (Or.inr sz_b1)
  have V_b1_16 : Arv Z h16 b1 k1 (.object "com/example/ratebook/ratebook/model/EventType") (12 : Int32) [(.ref w_PLATFORM_DEPLOY), (.ref w_PLATFORM_DELETE), (.ref w_SERVER_DEPLOY), (.ref w_SERVER_START), (.ref w_SERVER_STOP), .null, .null, .null, .null, .null, .null, .null] .null := Arv.set Ar15 q15 S15 Nn15 H15 G15 rfl W16 4 rfl (Nat.le_of_ble_eq_true rfl)
  obtain ⟨T17, X17, e17, st17⟩ := getS2 X16 hx hZ hown (host := "") (Or.inl (hw _ (List.mem_of_getElem? (i := 14) rfl))) Via.refl e16 (S_w_SERVER_DELETE.ext O16.2) (g := (mkF m 37 #[.val (.int p0), .unset, .unset, .unset, .unset] [(.int (5 : Int32)), (.ref b1), (.ref b1)])) rfl (hb hby at_37)
  obtain ⟨cl18, Ar18, q18, S18, Nn18, H18, G18⟩ := V_b1_16
  have hin18 : ¬ ((5 : Int32) < 0 ∨ cl18.slots.size ≤ ((5 : Int32)).toNatClampNeg) := inb_of S18 ⟨by decide, by decide⟩
  obtain ⟨T19, h19, X19, e19, W19, st19⟩ := stR X17 hx hZ e17 Ar18 (j := (5 : Int32)) hin18 rfl (Sto.ofV Ar18 q18 Ov1 (Ins.self (E_w_SERVER_DELETE.ext O16.2))) (g := (mkF m 40 #[.val (.int p0), .unset, .unset, .unset, .unset] [(.ref w_SERVER_DELETE), (.int (5 : Int32)), (.ref b1), (.ref b1)])) rfl rfl (hb hby at_40)
  have N19 := Fr.snoc X19 N16 g_b1
  have O19 := O16.wr W19 g_b1
  have K19 : Keep h0 h19 [] := K16.wr W19 (Or.inr sz_b1)
  have V_b1_19 : Arv Z h19 b1 k1 (.object "com/example/ratebook/ratebook/model/EventType") (12 : Int32) [(.ref w_PLATFORM_DEPLOY), (.ref w_PLATFORM_DELETE), (.ref w_SERVER_DEPLOY), (.ref w_SERVER_START), (.ref w_SERVER_STOP), (.ref w_SERVER_DELETE), .null, .null, .null, .null, .null, .null] .null := Arv.set Ar18 q18 S18 Nn18 H18 G18 rfl W19 5 rfl (Nat.le_of_ble_eq_true rfl)
  obtain ⟨T20, X20, e20, st20⟩ := getS2 X19 hx hZ hown (host := "") (Or.inl (hw _ (List.mem_of_getElem? (i := 16) rfl))) Via.refl e19 (S_w_DISK_ATTACH.ext O19.2) (g := (mkF m 44 #[.val (.int p0), .unset, .unset, .unset, .unset] [(.int (6 : Int32)), (.ref b1), (.ref b1)])) rfl (hb hby at_44)
  obtain ⟨cl21, Ar21, q21, S21, Nn21, H21, G21⟩ := V_b1_19
  have hin21 : ¬ ((6 : Int32) < 0 ∨ cl21.slots.size ≤ ((6 : Int32)).toNatClampNeg) := inb_of S21 ⟨by decide, by decide⟩
  obtain ⟨T22, h22, X22, e22, W22, st22⟩ := stR X20 hx hZ e20 Ar21 (j := (6 : Int32)) hin21 rfl (Sto.ofV Ar21 q21 Ov1 (Ins.self (E_w_DISK_ATTACH.ext O19.2))) (g := (mkF m 47 #[.val (.int p0), .unset, .unset, .unset, .unset] [(.ref w_DISK_ATTACH), (.int (6 : Int32)), (.ref b1), (.ref b1)])) rfl rfl (hb hby at_47)
  have N22 := Fr.snoc X22 N19 g_b1
  have O22 := O19.wr W22 g_b1
  have K22 : Keep h0 h22 [] := K19.wr W22 (Or.inr sz_b1)
  have V_b1_22 : Arv Z h22 b1 k1 (.object "com/example/ratebook/ratebook/model/EventType") (12 : Int32) [(.ref w_PLATFORM_DEPLOY), (.ref w_PLATFORM_DELETE), (.ref w_SERVER_DEPLOY), (.ref w_SERVER_START), (.ref w_SERVER_STOP), (.ref w_SERVER_DELETE), (.ref w_DISK_ATTACH), .null, .null, .null, .null, .null] .null := Arv.set Ar21 q21 S21 Nn21 H21 G21 rfl W22 6 rfl (Nat.le_of_ble_eq_true rfl)
  obtain ⟨T23, X23, e23, st23⟩ := getS2 X22 hx hZ hown (host := "") (Or.inl (hw _ (List.mem_of_getElem? (i := 18) rfl))) Via.refl e22 (S_w_DISK_DETACH.ext O22.2) (g := (mkF m 51 #[.val (.int p0), .unset, .unset, .unset, .unset] [(.int (7 : Int32)), (.ref b1), (.ref b1)])) rfl (hb hby at_51)
  obtain ⟨cl24, Ar24, q24, S24, Nn24, H24, G24⟩ := V_b1_22
  have hin24 : ¬ ((7 : Int32) < 0 ∨ cl24.slots.size ≤ ((7 : Int32)).toNatClampNeg) := inb_of S24 ⟨by decide, by decide⟩
  obtain ⟨T25, h25, X25, e25, W25, st25⟩ := stR X23 hx hZ e23 Ar24 (j := (7 : Int32)) hin24 rfl (Sto.ofV Ar24 q24 Ov1 (Ins.self (E_w_DISK_DETACH.ext O22.2))) (g := (mkF m 54 #[.val (.int p0), .unset, .unset, .unset, .unset] [(.ref w_DISK_DETACH), (.int (7 : Int32)), (.ref b1), (.ref b1)])) rfl rfl (hb hby at_54)
  have N25 := Fr.snoc X25 N22 g_b1
  have O25 := O22.wr W25 g_b1
  have K25 : Keep h0 h25 [] := K22.wr W25 (Or.inr sz_b1)
  have V_b1_25 : Arv Z h25 b1 k1 (.object "com/example/ratebook/ratebook/model/EventType") (12 : Int32) [(.ref w_PLATFORM_DEPLOY), (.ref w_PLATFORM_DELETE), (.ref w_SERVER_DEPLOY), (.ref w_SERVER_START), (.ref w_SERVER_STOP), (.ref w_SERVER_DELETE), (.ref w_DISK_ATTACH), (.ref w_DISK_DETACH), .null, .null, .null, .null] .null := Arv.set Ar24 q24 S24 Nn24 H24 G24 rfl W25 7 rfl (Nat.le_of_ble_eq_true rfl)
  obtain ⟨T26, X26, e26, st26⟩ := getS2 X25 hx hZ hown (host := "") (Or.inl (hw _ (List.mem_of_getElem? (i := 20) rfl))) Via.refl e25 (S_w_SNAPSHOT_CREATE.ext O25.2) (g := (mkF m 58 #[.val (.int p0), .unset, .unset, .unset, .unset] [(.int (8 : Int32)), (.ref b1), (.ref b1)])) rfl (hb hby at_58)
  obtain ⟨cl27, Ar27, q27, S27, Nn27, H27, G27⟩ := V_b1_25
  have hin27 : ¬ ((8 : Int32) < 0 ∨ cl27.slots.size ≤ ((8 : Int32)).toNatClampNeg) := inb_of S27 ⟨by decide, by decide⟩
  obtain ⟨T28, h28, X28, e28, W28, st28⟩ := stR X26 hx hZ e26 Ar27 (j := (8 : Int32)) hin27 rfl (Sto.ofV Ar27 q27 Ov1 (Ins.self (E_w_SNAPSHOT_CREATE.ext O25.2))) (g := (mkF m 61 #[.val (.int p0), .unset, .unset, .unset, .unset] [(.ref w_SNAPSHOT_CREATE), (.int (8 : Int32)), (.ref b1), (.ref b1)])) rfl rfl (hb hby at_61)
  have N28 := Fr.snoc X28 N25 g_b1
  have O28 := O25.wr W28 g_b1
  have K28 : Keep h0 h28 [] := K25.wr W28 (Or.inr sz_b1)
  have V_b1_28 : Arv Z h28 b1 k1 (.object "com/example/ratebook/ratebook/model/EventType") (12 : Int32) [(.ref w_PLATFORM_DEPLOY), (.ref w_PLATFORM_DELETE), (.ref w_SERVER_DEPLOY), (.ref w_SERVER_START), (.ref w_SERVER_STOP), (.ref w_SERVER_DELETE), (.ref w_DISK_ATTACH), (.ref w_DISK_DETACH), (.ref w_SNAPSHOT_CREATE), .null, .null, .null] .null := Arv.set Ar27 q27 S27 Nn27 H27 G27 rfl W28 8 rfl (Nat.le_of_ble_eq_true rfl)
  obtain ⟨T29, X29, e29, st29⟩ := getS2 X28 hx hZ hown (host := "") (Or.inl (hw _ (List.mem_of_getElem? (i := 22) rfl))) Via.refl e28 (S_w_SNAPSHOT_DELETE.ext O28.2) (g := (mkF m 65 #[.val (.int p0), .unset, .unset, .unset, .unset] [(.int (9 : Int32)), (.ref b1), (.ref b1)])) rfl (hb hby at_65)
  obtain ⟨cl30, Ar30, q30, S30, Nn30, H30, G30⟩ := V_b1_28
  have hin30 : ¬ ((9 : Int32) < 0 ∨ cl30.slots.size ≤ ((9 : Int32)).toNatClampNeg) := inb_of S30 ⟨by decide, by decide⟩
  obtain ⟨T31, h31, X31, e31, W31, st31⟩ := stR X29 hx hZ e29 Ar30 (j := (9 : Int32)) hin30 rfl (Sto.ofV Ar30 q30 Ov1 (Ins.self (E_w_SNAPSHOT_DELETE.ext O28.2))) (g := (mkF m 68 #[.val (.int p0), .unset, .unset, .unset, .unset] [(.ref w_SNAPSHOT_DELETE), (.int (9 : Int32)), (.ref b1), (.ref b1)])) rfl rfl (hb hby at_68)
  have N31 := Fr.snoc X31 N28 g_b1
  have O31 := O28.wr W31 g_b1
  have K31 : Keep h0 h31 [] := K28.wr W31 (Or.inr sz_b1)
  have V_b1_31 : Arv Z h31 b1 k1 (.object "com/example/ratebook/ratebook/model/EventType") (12 : Int32) [(.ref w_PLATFORM_DEPLOY), (.ref w_PLATFORM_DELETE), (.ref w_SERVER_DEPLOY), (.ref w_SERVER_START), (.ref w_SERVER_STOP), (.ref w_SERVER_DELETE), (.ref w_DISK_ATTACH), (.ref w_DISK_DETACH), (.ref w_SNAPSHOT_CREATE), (.ref w_SNAPSHOT_DELETE), .null, .null] .null := Arv.set Ar30 q30 S30 Nn30 H30 G30 rfl W31 9 rfl (Nat.le_of_ble_eq_true rfl)
  obtain ⟨T32, X32, e32, st32⟩ := getS2 X31 hx hZ hown (host := "") (Or.inl (hw _ (List.mem_of_getElem? (i := 24) rfl))) Via.refl e31 (S_w_NIC_ATTACH.ext O31.2) (g := (mkF m 72 #[.val (.int p0), .unset, .unset, .unset, .unset] [(.int (10 : Int32)), (.ref b1), (.ref b1)])) rfl (hb hby at_72)
  obtain ⟨cl33, Ar33, q33, S33, Nn33, H33, G33⟩ := V_b1_31
  have hin33 : ¬ ((10 : Int32) < 0 ∨ cl33.slots.size ≤ ((10 : Int32)).toNatClampNeg) := inb_of S33 ⟨by decide, by decide⟩
  obtain ⟨T34, h34, X34, e34, W34, st34⟩ := stR X32 hx hZ e32 Ar33 (j := (10 : Int32)) hin33 rfl (Sto.ofV Ar33 q33 Ov1 (Ins.self (E_w_NIC_ATTACH.ext O31.2))) (g := (mkF m 75 #[.val (.int p0), .unset, .unset, .unset, .unset] [(.ref w_NIC_ATTACH), (.int (10 : Int32)), (.ref b1), (.ref b1)])) rfl rfl (hb hby at_75)
  have N34 := Fr.snoc X34 N31 g_b1
  have O34 := O31.wr W34 g_b1
  have K34 : Keep h0 h34 [] := K31.wr W34 (Or.inr sz_b1)
  have V_b1_34 : Arv Z h34 b1 k1 (.object "com/example/ratebook/ratebook/model/EventType") (12 : Int32) [(.ref w_PLATFORM_DEPLOY), (.ref w_PLATFORM_DELETE), (.ref w_SERVER_DEPLOY), (.ref w_SERVER_START), (.ref w_SERVER_STOP), (.ref w_SERVER_DELETE), (.ref w_DISK_ATTACH), (.ref w_DISK_DETACH), (.ref w_SNAPSHOT_CREATE), (.ref w_SNAPSHOT_DELETE), (.ref w_NIC_ATTACH), .null] .null := Arv.set Ar33 q33 S33 Nn33 H33 G33 rfl W34 10 rfl (Nat.le_of_ble_eq_true rfl)
  obtain ⟨T35, X35, e35, st35⟩ := getS2 X34 hx hZ hown (host := "") (Or.inl (hw _ (List.mem_of_getElem? (i := 26) rfl))) Via.refl e34 (S_w_NIC_DETACH.ext O34.2) (g := (mkF m 79 #[.val (.int p0), .unset, .unset, .unset, .unset] [(.int (11 : Int32)), (.ref b1), (.ref b1)])) rfl (hb hby at_79)
  obtain ⟨cl36, Ar36, q36, S36, Nn36, H36, G36⟩ := V_b1_34
  have hin36 : ¬ ((11 : Int32) < 0 ∨ cl36.slots.size ≤ ((11 : Int32)).toNatClampNeg) := inb_of S36 ⟨by decide, by decide⟩
  obtain ⟨T37, h37, X37, e37, W37, st37⟩ := stR X35 hx hZ e35 Ar36 (j := (11 : Int32)) hin36 rfl (Sto.ofV Ar36 q36 Ov1 (Ins.self (E_w_NIC_DETACH.ext O34.2))) (g := (mkF m 82 #[.val (.int p0), .unset, .unset, .unset, .unset] [(.ref w_NIC_DETACH), (.int (11 : Int32)), (.ref b1), (.ref b1)])) rfl rfl (hb hby at_82)
  have N37 := Fr.snoc X37 N34 g_b1
  have O37 := O34.wr W37 g_b1
  have K37 : Keep h0 h37 [] := K34.wr W37 (Or.inr sz_b1)
  have V_b1_37 : Arv Z h37 b1 k1 (.object "com/example/ratebook/ratebook/model/EventType") (12 : Int32) [(.ref w_PLATFORM_DEPLOY), (.ref w_PLATFORM_DELETE), (.ref w_SERVER_DEPLOY), (.ref w_SERVER_START), (.ref w_SERVER_STOP), (.ref w_SERVER_DELETE), (.ref w_DISK_ATTACH), (.ref w_DISK_DETACH), (.ref w_SNAPSHOT_CREATE), (.ref w_SNAPSHOT_DELETE), (.ref w_NIC_ATTACH), (.ref w_NIC_DETACH)] .null := Arv.set Ar36 q36 S36 Nn36 H36 G36 rfl W37 11 rfl (Nat.le_of_ble_eq_true rfl)
  obtain ⟨cl38, Ar38, -, S38, -, H38, -⟩ := V_b1_37
  have hin38 : ¬ (((p0 &&& (2147483647 : Int32)) % (12 : Int32)) < 0 ∨ cl38.slots.size ≤ (((p0 &&& (2147483647 : Int32)) % (12 : Int32))).toNatClampNeg) := inb_of S38 (by rw [(own_eq (n := 11) rfl (by have r := (own_rem (x := p0) (m := (2147483647 : Int32)) (M := 2147483647) rfl (by decide) (y := (12 : Int32)) (d := 12) rfl (by decide)); have q0 := own_nei hc1 (n := 0) rfl; have q1 := own_nei hc2 (n := 1) rfl; have q2 := own_nei hc3 (n := 2) rfl; have q3 := own_nei hc4 (n := 3) rfl; have q4 := own_nei hc5 (n := 4) rfl; have q5 := own_nei hc6 (n := 5) rfl; have q6 := own_nei hc7 (n := 6) rfl; have q7 := own_nei hc8 (n := 7) rfl; have q8 := own_nei hc9 (n := 8) rfl; have q9 := own_nei hc10 (n := 9) rfl; have q10 := own_nei hc11 (n := 10) rfl; omega) : ((p0 &&& (2147483647 : Int32)) % (12 : Int32)) = (11 : Int32))]; decide)
  have hat38 : cl38.slots[(((p0 &&& (2147483647 : Int32)) % (12 : Int32))).toNatClampNeg]? = some (.ref w_NIC_DETACH) := H38.at hin38 (by rw [(own_eq (n := 11) rfl (by have r := (own_rem (x := p0) (m := (2147483647 : Int32)) (M := 2147483647) rfl (by decide) (y := (12 : Int32)) (d := 12) rfl (by decide)); have q0 := own_nei hc1 (n := 0) rfl; have q1 := own_nei hc2 (n := 1) rfl; have q2 := own_nei hc3 (n := 2) rfl; have q3 := own_nei hc4 (n := 3) rfl; have q4 := own_nei hc5 (n := 4) rfl; have q5 := own_nei hc6 (n := 5) rfl; have q6 := own_nei hc7 (n := 6) rfl; have q7 := own_nei hc8 (n := 7) rfl; have q8 := own_nei hc9 (n := 8) rfl; have q9 := own_nei hc10 (n := 9) rfl; have q10 := own_nei hc11 (n := 10) rfl; omega) : ((p0 &&& (2147483647 : Int32)) % (12 : Int32)) = (11 : Int32))]; rfl)
  obtain ⟨cq39, kq39, q39a, q39b, q39c⟩ := isOf hZ e37 (E_w_NIC_DETACH.ext O37.2)
  obtain ⟨_, _, ⟨T39, L39, k39, n39⟩, -, X39, ⟨Lc39, hQ39, l39, y39, z39⟩, st39⟩ := X37.virtualBack hx (y := y0) (z := y0) hown (mvT hZ (hw _ (List.mem_of_getElem? (i := 29) rfl))) (mvT hZ (hw _ (List.mem_of_getElem? (i := 30) rfl))) (notFace_of_selects (args := #[]) (mvT hZ (hw _ (List.mem_of_getElem? (i := 32) rfl)))) (mvT hZ (hw _ (List.mem_of_getElem? (i := 32) rfl))) (mvT hZ (hw _ (List.mem_of_getElem? (i := 31) rfl))) (by decide) (backOf (W := 0) (rm23 l Z a0 hw [] w_PLATFORM_DEPLOY w_PLATFORM_DELETE w_SERVER_DEPLOY w_SERVER_START w_SERVER_STOP w_SERVER_DELETE w_DISK_ATTACH w_DISK_DETACH w_SNAPSHOT_CREATE w_SNAPSHOT_DELETE w_NIC_ATTACH w_NIC_DETACH hp h37 n0 O37) hZ (hw _ (List.mem_of_getElem? (i := 33) rfl)) (hw _ (List.mem_of_getElem? (i := 3) rfl)) (by decide) (by decide)) q39a q39c (g := (mkF m 145 #[.val (.int p0), .val (.ref b1), .val (.int ((p0 &&& (2147483647 : Int32)) % (12 : Int32))), .val (.ref w_NIC_DETACH), .val (.int (1 : Int32))] [(.ref w_NIC_DETACH)])) rfl (by rw [hml]; rfl) (Steps.refl _) (argsL := []) (rest := []) (lenOf pd_0 rfl) rfl (by show 2 * 0 + _ ≤ _; exact Nat.le_of_eq rfl) (hb hby at_145) (fun _ _ => ⟨rfl, e37, (by decide : 1 + 0 ≤ _), (by decide : 12 + 0 ≤ _)⟩)
  dsimp only [Pt.U, Pt.locs, Pt.cells, Pt.slots] at X39 l39 y39 z39 st39 hQ39
  subst l39 y39 z39
  obtain ⟨rfl, Nq39, eq39⟩ := hQ39
  have N39 := Fr.app N37 Nq39
  obtain ⟨fs, hr, hrun, hended, hW, hsame⟩ := X39.leave (v := some (.int (1 : Int32))) (fun h => by rw [Bd.returns] at h; cases h)
  refine ⟨_, _, pre0 _ ?_, hrun, hended, _, _, rfl, ?_, ⟨_, rfl⟩, hW, hsame.mono (by decide) (by decide)⟩
  · show Sp p e below s₁ (mkF m 0 #[.val (.int p0), .unset, .unset, .unset, .unset] []) _
    refine XS.bipush X0.here hx rfl (hb hby at_0) ?_
    show Sp p e below s₁ (mkF m 2 #[.val (.int p0), .unset, .unset, .unset, .unset] [(.int (12 : Int32))]) _
    refine st1 _ ?_
    show Sp p e below T1 (mkF m 5 #[.val (.int p0), .unset, .unset, .unset, .unset] [(.ref b1)]) _
    refine XS.dup X1.here hx rfl (hb hby at_5) rfl rfl ?_
    show Sp p e below T1 (mkF m 6 #[.val (.int p0), .unset, .unset, .unset, .unset] [(.ref b1), (.ref b1)]) _
    refine XS.iconst X1.here hx rfl (hb hby at_6) ?_
    show Sp p e below T1 (mkF m 7 #[.val (.int p0), .unset, .unset, .unset, .unset] [(.int (0 : Int32)), (.ref b1), (.ref b1)]) _
    refine st2 _ ?_
    show Sp p e below T2 (mkF m 10 #[.val (.int p0), .unset, .unset, .unset, .unset] [(.ref w_PLATFORM_DEPLOY), (.int (0 : Int32)), (.ref b1), (.ref b1)]) _
    refine st4 _ ?_
    show Sp p e below T4 (mkF m 11 #[.val (.int p0), .unset, .unset, .unset, .unset] [(.ref b1)]) _
    refine XS.dup X4.here hx rfl (hb hby at_11) rfl rfl ?_
    show Sp p e below T4 (mkF m 12 #[.val (.int p0), .unset, .unset, .unset, .unset] [(.ref b1), (.ref b1)]) _
    refine XS.iconst X4.here hx rfl (hb hby at_12) ?_
    show Sp p e below T4 (mkF m 13 #[.val (.int p0), .unset, .unset, .unset, .unset] [(.int (1 : Int32)), (.ref b1), (.ref b1)]) _
    refine st5 _ ?_
    show Sp p e below T5 (mkF m 16 #[.val (.int p0), .unset, .unset, .unset, .unset] [(.ref w_PLATFORM_DELETE), (.int (1 : Int32)), (.ref b1), (.ref b1)]) _
    refine st7 _ ?_
    show Sp p e below T7 (mkF m 17 #[.val (.int p0), .unset, .unset, .unset, .unset] [(.ref b1)]) _
    refine XS.dup X7.here hx rfl (hb hby at_17) rfl rfl ?_
    show Sp p e below T7 (mkF m 18 #[.val (.int p0), .unset, .unset, .unset, .unset] [(.ref b1), (.ref b1)]) _
    refine XS.iconst X7.here hx rfl (hb hby at_18) ?_
    show Sp p e below T7 (mkF m 19 #[.val (.int p0), .unset, .unset, .unset, .unset] [(.int (2 : Int32)), (.ref b1), (.ref b1)]) _
    refine st8 _ ?_
    show Sp p e below T8 (mkF m 22 #[.val (.int p0), .unset, .unset, .unset, .unset] [(.ref w_SERVER_DEPLOY), (.int (2 : Int32)), (.ref b1), (.ref b1)]) _
    refine st10 _ ?_
    show Sp p e below T10 (mkF m 23 #[.val (.int p0), .unset, .unset, .unset, .unset] [(.ref b1)]) _
    refine XS.dup X10.here hx rfl (hb hby at_23) rfl rfl ?_
    show Sp p e below T10 (mkF m 24 #[.val (.int p0), .unset, .unset, .unset, .unset] [(.ref b1), (.ref b1)]) _
    refine XS.iconst X10.here hx rfl (hb hby at_24) ?_
    show Sp p e below T10 (mkF m 25 #[.val (.int p0), .unset, .unset, .unset, .unset] [(.int (3 : Int32)), (.ref b1), (.ref b1)]) _
    refine st11 _ ?_
    show Sp p e below T11 (mkF m 28 #[.val (.int p0), .unset, .unset, .unset, .unset] [(.ref w_SERVER_START), (.int (3 : Int32)), (.ref b1), (.ref b1)]) _
    refine st13 _ ?_
    show Sp p e below T13 (mkF m 29 #[.val (.int p0), .unset, .unset, .unset, .unset] [(.ref b1)]) _
    refine XS.dup X13.here hx rfl (hb hby at_29) rfl rfl ?_
    show Sp p e below T13 (mkF m 30 #[.val (.int p0), .unset, .unset, .unset, .unset] [(.ref b1), (.ref b1)]) _
    refine XS.iconst X13.here hx rfl (hb hby at_30) ?_
    show Sp p e below T13 (mkF m 31 #[.val (.int p0), .unset, .unset, .unset, .unset] [(.int (4 : Int32)), (.ref b1), (.ref b1)]) _
    refine st14 _ ?_
    show Sp p e below T14 (mkF m 34 #[.val (.int p0), .unset, .unset, .unset, .unset] [(.ref w_SERVER_STOP), (.int (4 : Int32)), (.ref b1), (.ref b1)]) _
    refine st16 _ ?_
    show Sp p e below T16 (mkF m 35 #[.val (.int p0), .unset, .unset, .unset, .unset] [(.ref b1)]) _
    refine XS.dup X16.here hx rfl (hb hby at_35) rfl rfl ?_
    show Sp p e below T16 (mkF m 36 #[.val (.int p0), .unset, .unset, .unset, .unset] [(.ref b1), (.ref b1)]) _
    refine XS.iconst X16.here hx rfl (hb hby at_36) ?_
    show Sp p e below T16 (mkF m 37 #[.val (.int p0), .unset, .unset, .unset, .unset] [(.int (5 : Int32)), (.ref b1), (.ref b1)]) _
    refine st17 _ ?_
    show Sp p e below T17 (mkF m 40 #[.val (.int p0), .unset, .unset, .unset, .unset] [(.ref w_SERVER_DELETE), (.int (5 : Int32)), (.ref b1), (.ref b1)]) _
    refine st19 _ ?_
    show Sp p e below T19 (mkF m 41 #[.val (.int p0), .unset, .unset, .unset, .unset] [(.ref b1)]) _
    refine XS.dup X19.here hx rfl (hb hby at_41) rfl rfl ?_
    show Sp p e below T19 (mkF m 42 #[.val (.int p0), .unset, .unset, .unset, .unset] [(.ref b1), (.ref b1)]) _
    refine XS.bipush X19.here hx rfl (hb hby at_42) ?_
    show Sp p e below T19 (mkF m 44 #[.val (.int p0), .unset, .unset, .unset, .unset] [(.int (6 : Int32)), (.ref b1), (.ref b1)]) _
    refine st20 _ ?_
    show Sp p e below T20 (mkF m 47 #[.val (.int p0), .unset, .unset, .unset, .unset] [(.ref w_DISK_ATTACH), (.int (6 : Int32)), (.ref b1), (.ref b1)]) _
    refine st22 _ ?_
    show Sp p e below T22 (mkF m 48 #[.val (.int p0), .unset, .unset, .unset, .unset] [(.ref b1)]) _
    refine XS.dup X22.here hx rfl (hb hby at_48) rfl rfl ?_
    show Sp p e below T22 (mkF m 49 #[.val (.int p0), .unset, .unset, .unset, .unset] [(.ref b1), (.ref b1)]) _
    refine XS.bipush X22.here hx rfl (hb hby at_49) ?_
    show Sp p e below T22 (mkF m 51 #[.val (.int p0), .unset, .unset, .unset, .unset] [(.int (7 : Int32)), (.ref b1), (.ref b1)]) _
    refine st23 _ ?_
    show Sp p e below T23 (mkF m 54 #[.val (.int p0), .unset, .unset, .unset, .unset] [(.ref w_DISK_DETACH), (.int (7 : Int32)), (.ref b1), (.ref b1)]) _
    refine st25 _ ?_
    show Sp p e below T25 (mkF m 55 #[.val (.int p0), .unset, .unset, .unset, .unset] [(.ref b1)]) _
    refine XS.dup X25.here hx rfl (hb hby at_55) rfl rfl ?_
    show Sp p e below T25 (mkF m 56 #[.val (.int p0), .unset, .unset, .unset, .unset] [(.ref b1), (.ref b1)]) _
    refine XS.bipush X25.here hx rfl (hb hby at_56) ?_
    show Sp p e below T25 (mkF m 58 #[.val (.int p0), .unset, .unset, .unset, .unset] [(.int (8 : Int32)), (.ref b1), (.ref b1)]) _
    refine st26 _ ?_
    show Sp p e below T26 (mkF m 61 #[.val (.int p0), .unset, .unset, .unset, .unset] [(.ref w_SNAPSHOT_CREATE), (.int (8 : Int32)), (.ref b1), (.ref b1)]) _
    refine st28 _ ?_
    show Sp p e below T28 (mkF m 62 #[.val (.int p0), .unset, .unset, .unset, .unset] [(.ref b1)]) _
    refine XS.dup X28.here hx rfl (hb hby at_62) rfl rfl ?_
    show Sp p e below T28 (mkF m 63 #[.val (.int p0), .unset, .unset, .unset, .unset] [(.ref b1), (.ref b1)]) _
    refine XS.bipush X28.here hx rfl (hb hby at_63) ?_
    show Sp p e below T28 (mkF m 65 #[.val (.int p0), .unset, .unset, .unset, .unset] [(.int (9 : Int32)), (.ref b1), (.ref b1)]) _
    refine st29 _ ?_
    show Sp p e below T29 (mkF m 68 #[.val (.int p0), .unset, .unset, .unset, .unset] [(.ref w_SNAPSHOT_DELETE), (.int (9 : Int32)), (.ref b1), (.ref b1)]) _
    refine st31 _ ?_
    show Sp p e below T31 (mkF m 69 #[.val (.int p0), .unset, .unset, .unset, .unset] [(.ref b1)]) _
    refine XS.dup X31.here hx rfl (hb hby at_69) rfl rfl ?_
    show Sp p e below T31 (mkF m 70 #[.val (.int p0), .unset, .unset, .unset, .unset] [(.ref b1), (.ref b1)]) _
    refine XS.bipush X31.here hx rfl (hb hby at_70) ?_
    show Sp p e below T31 (mkF m 72 #[.val (.int p0), .unset, .unset, .unset, .unset] [(.int (10 : Int32)), (.ref b1), (.ref b1)]) _
    refine st32 _ ?_
    show Sp p e below T32 (mkF m 75 #[.val (.int p0), .unset, .unset, .unset, .unset] [(.ref w_NIC_ATTACH), (.int (10 : Int32)), (.ref b1), (.ref b1)]) _
    refine st34 _ ?_
    show Sp p e below T34 (mkF m 76 #[.val (.int p0), .unset, .unset, .unset, .unset] [(.ref b1)]) _
    refine XS.dup X34.here hx rfl (hb hby at_76) rfl rfl ?_
    show Sp p e below T34 (mkF m 77 #[.val (.int p0), .unset, .unset, .unset, .unset] [(.ref b1), (.ref b1)]) _
    refine XS.bipush X34.here hx rfl (hb hby at_77) ?_
    show Sp p e below T34 (mkF m 79 #[.val (.int p0), .unset, .unset, .unset, .unset] [(.int (11 : Int32)), (.ref b1), (.ref b1)]) _
    refine st35 _ ?_
    show Sp p e below T35 (mkF m 82 #[.val (.int p0), .unset, .unset, .unset, .unset] [(.ref w_NIC_DETACH), (.int (11 : Int32)), (.ref b1), (.ref b1)]) _
    refine st37 _ ?_
    show Sp p e below T37 (mkF m 83 #[.val (.int p0), .unset, .unset, .unset, .unset] [(.ref b1)]) _
    refine XS.astoreN X37.here hx rfl (hb hby at_83) rfl rfl (l' := #[.val (.int p0), .val (.ref b1), .unset, .unset, .unset]) rfl ?_
    show Sp p e below T37 (mkF m 84 #[.val (.int p0), .val (.ref b1), .unset, .unset, .unset] []) _
    refine XS.iloadN X37.here hx rfl (hb hby at_84) rfl ?_
    show Sp p e below T37 (mkF m 85 #[.val (.int p0), .val (.ref b1), .unset, .unset, .unset] [(.int p0)]) _
    refine X37.ldcI hx hown (mvT hZ (hw _ (List.mem_of_getElem? (i := 28) rfl))) rfl (hb hby at_85) ?_
    show Sp p e below T37 (mkF m 87 #[.val (.int p0), .val (.ref b1), .unset, .unset, .unset] [(.int (2147483647 : Int32)), (.int p0)]) _
    refine XS.iand X37.here hx rfl (hb hby at_87) rfl ?_
    show Sp p e below T37 (mkF m 88 #[.val (.int p0), .val (.ref b1), .unset, .unset, .unset] [(.int (p0 &&& (2147483647 : Int32)))]) _
    refine XS.bipush X37.here hx rfl (hb hby at_88) ?_
    show Sp p e below T37 (mkF m 90 #[.val (.int p0), .val (.ref b1), .unset, .unset, .unset] [(.int (12 : Int32)), (.int (p0 &&& (2147483647 : Int32)))]) _
    refine iremM X37 hx rfl (hb hby at_90) rfl (by decide) ?_
    show Sp p e below T37 (mkF m 91 #[.val (.int p0), .val (.ref b1), .unset, .unset, .unset] [(.int ((p0 &&& (2147483647 : Int32)) % (12 : Int32)))]) _
    refine XS.istoreN X37.here hx rfl (hb hby at_91) rfl (l' := #[.val (.int p0), .val (.ref b1), .val (.int ((p0 &&& (2147483647 : Int32)) % (12 : Int32))), .unset, .unset]) rfl ?_
    show Sp p e below T37 (mkF m 92 #[.val (.int p0), .val (.ref b1), .val (.int ((p0 &&& (2147483647 : Int32)) % (12 : Int32))), .unset, .unset] []) _
    refine XS.aloadN X37.here hx rfl (hb hby at_92) rfl rfl ?_
    show Sp p e below T37 (mkF m 93 #[.val (.int p0), .val (.ref b1), .val (.int ((p0 &&& (2147483647 : Int32)) % (12 : Int32))), .unset, .unset] [(.ref b1)]) _
    refine XS.iloadN X37.here hx rfl (hb hby at_93) rfl ?_
    show Sp p e below T37 (mkF m 94 #[.val (.int p0), .val (.ref b1), .val (.int ((p0 &&& (2147483647 : Int32)) % (12 : Int32))), .unset, .unset] [(.int ((p0 &&& (2147483647 : Int32)) % (12 : Int32))), (.ref b1)]) _
    refine X37.aaload hx (j := ((p0 &&& (2147483647 : Int32)) % (12 : Int32))) (v := (.ref w_NIC_DETACH)) (by rw [e37]; exact Ar38.1) (State.isArrayOf_alike hZ.alike Ar38.2.1) rfl Ar38.2.2 hin38 hat38 (g := (mkF m 94 #[.val (.int p0), .val (.ref b1), .val (.int ((p0 &&& (2147483647 : Int32)) % (12 : Int32))), .unset, .unset] [(.int ((p0 &&& (2147483647 : Int32)) % (12 : Int32))), (.ref b1)])) rfl rfl (hb hby at_94) _ ?_
    show Sp p e below T37 (mkF m 95 #[.val (.int p0), .val (.ref b1), .val (.int ((p0 &&& (2147483647 : Int32)) % (12 : Int32))), .unset, .unset] [(.ref w_NIC_DETACH)]) _
    refine XS.astoreN X37.here hx rfl (hb hby at_95) rfl rfl (l' := #[.val (.int p0), .val (.ref b1), .val (.int ((p0 &&& (2147483647 : Int32)) % (12 : Int32))), .val (.ref w_NIC_DETACH), .unset]) rfl ?_
    show Sp p e below T37 (mkF m 96 #[.val (.int p0), .val (.ref b1), .val (.int ((p0 &&& (2147483647 : Int32)) % (12 : Int32))), .val (.ref w_NIC_DETACH), .unset] []) _
    refine XS.iconst X37.here hx rfl (hb hby at_96) ?_
    show Sp p e below T37 (mkF m 97 #[.val (.int p0), .val (.ref b1), .val (.int ((p0 &&& (2147483647 : Int32)) % (12 : Int32))), .val (.ref w_NIC_DETACH), .unset] [(.int (0 : Int32))]) _
    refine XS.istore X37.here hx rfl (hb hby at_97) rfl (l' := #[.val (.int p0), .val (.ref b1), .val (.int ((p0 &&& (2147483647 : Int32)) % (12 : Int32))), .val (.ref w_NIC_DETACH), .val (.int (0 : Int32))]) rfl ?_
    show Sp p e below T37 (mkF m 99 #[.val (.int p0), .val (.ref b1), .val (.int ((p0 &&& (2147483647 : Int32)) % (12 : Int32))), .val (.ref w_NIC_DETACH), .val (.int (0 : Int32))] []) _
    refine XS.iloadN X37.here hx rfl (hb hby at_99) rfl ?_
    show Sp p e below T37 (mkF m 100 #[.val (.int p0), .val (.ref b1), .val (.int ((p0 &&& (2147483647 : Int32)) % (12 : Int32))), .val (.ref w_NIC_DETACH), .val (.int (0 : Int32))] [(.int ((p0 &&& (2147483647 : Int32)) % (12 : Int32)))]) _
    refine XS.bipush X37.here hx rfl (hb hby at_100) ?_
    show Sp p e below T37 (mkF m 102 #[.val (.int p0), .val (.ref b1), .val (.int ((p0 &&& (2147483647 : Int32)) % (12 : Int32))), .val (.ref w_NIC_DETACH), .val (.int (0 : Int32))] [(.int (6 : Int32)), (.int ((p0 &&& (2147483647 : Int32)) % (12 : Int32)))]) _
    refine XS.icmpYes X37.here hx rfl (pc0 := 102) (pc' := 111) rfl (hb hby at_102) rfl (feq hc7).2 (by decide) (by decide) ?_
    show Sp p e below T37 (mkF m 111 #[.val (.int p0), .val (.ref b1), .val (.int ((p0 &&& (2147483647 : Int32)) % (12 : Int32))), .val (.ref w_NIC_DETACH), .val (.int (0 : Int32))] []) _
    refine XS.iloadN X37.here hx rfl (hb hby at_111) rfl ?_
    show Sp p e below T37 (mkF m 112 #[.val (.int p0), .val (.ref b1), .val (.int ((p0 &&& (2147483647 : Int32)) % (12 : Int32))), .val (.ref w_NIC_DETACH), .val (.int (0 : Int32))] [(.int ((p0 &&& (2147483647 : Int32)) % (12 : Int32)))]) _
    refine XS.bipush X37.here hx rfl (hb hby at_112) ?_
    show Sp p e below T37 (mkF m 114 #[.val (.int p0), .val (.ref b1), .val (.int ((p0 &&& (2147483647 : Int32)) % (12 : Int32))), .val (.ref w_NIC_DETACH), .val (.int (0 : Int32))] [(.int (7 : Int32)), (.int ((p0 &&& (2147483647 : Int32)) % (12 : Int32)))]) _
    refine XS.icmpYes X37.here hx rfl (pc0 := 114) (pc' := 123) rfl (hb hby at_114) rfl (feq hc8).2 (by decide) (by decide) ?_
    show Sp p e below T37 (mkF m 123 #[.val (.int p0), .val (.ref b1), .val (.int ((p0 &&& (2147483647 : Int32)) % (12 : Int32))), .val (.ref w_NIC_DETACH), .val (.int (0 : Int32))] []) _
    refine XS.iloadN X37.here hx rfl (hb hby at_123) rfl ?_
    show Sp p e below T37 (mkF m 124 #[.val (.int p0), .val (.ref b1), .val (.int ((p0 &&& (2147483647 : Int32)) % (12 : Int32))), .val (.ref w_NIC_DETACH), .val (.int (0 : Int32))] [(.int ((p0 &&& (2147483647 : Int32)) % (12 : Int32)))]) _
    refine XS.bipush X37.here hx rfl (hb hby at_124) ?_
    show Sp p e below T37 (mkF m 126 #[.val (.int p0), .val (.ref b1), .val (.int ((p0 &&& (2147483647 : Int32)) % (12 : Int32))), .val (.ref w_NIC_DETACH), .val (.int (0 : Int32))] [(.int (10 : Int32)), (.int ((p0 &&& (2147483647 : Int32)) % (12 : Int32)))]) _
    refine XS.icmpYes X37.here hx rfl (pc0 := 126) (pc' := 135) rfl (hb hby at_126) rfl (feq hc11).2 (by decide) (by decide) ?_
    show Sp p e below T37 (mkF m 135 #[.val (.int p0), .val (.ref b1), .val (.int ((p0 &&& (2147483647 : Int32)) % (12 : Int32))), .val (.ref w_NIC_DETACH), .val (.int (0 : Int32))] []) _
    refine XS.iloadN X37.here hx rfl (hb hby at_135) rfl ?_
    show Sp p e below T37 (mkF m 136 #[.val (.int p0), .val (.ref b1), .val (.int ((p0 &&& (2147483647 : Int32)) % (12 : Int32))), .val (.ref w_NIC_DETACH), .val (.int (0 : Int32))] [(.int ((p0 &&& (2147483647 : Int32)) % (12 : Int32)))]) _
    refine XS.bipush X37.here hx rfl (hb hby at_136) ?_
    show Sp p e below T37 (mkF m 138 #[.val (.int p0), .val (.ref b1), .val (.int ((p0 &&& (2147483647 : Int32)) % (12 : Int32))), .val (.ref w_NIC_DETACH), .val (.int (0 : Int32))] [(.int (11 : Int32)), (.int ((p0 &&& (2147483647 : Int32)) % (12 : Int32)))]) _
    refine XS.icmpNo X37.here hx rfl (hb hby at_138) rfl (teq (own_eq (n := 11) rfl (by have r := (own_rem (x := p0) (m := (2147483647 : Int32)) (M := 2147483647) rfl (by decide) (y := (12 : Int32)) (d := 12) rfl (by decide)); have q0 := own_nei hc1 (n := 0) rfl; have q1 := own_nei hc2 (n := 1) rfl; have q2 := own_nei hc3 (n := 2) rfl; have q3 := own_nei hc4 (n := 3) rfl; have q4 := own_nei hc5 (n := 4) rfl; have q5 := own_nei hc6 (n := 5) rfl; have q6 := own_nei hc7 (n := 6) rfl; have q7 := own_nei hc8 (n := 7) rfl; have q8 := own_nei hc9 (n := 8) rfl; have q9 := own_nei hc10 (n := 9) rfl; have q10 := own_nei hc11 (n := 10) rfl; omega) : ((p0 &&& (2147483647 : Int32)) % (12 : Int32)) = (11 : Int32))).2 ?_
    show Sp p e below T37 (mkF m 141 #[.val (.int p0), .val (.ref b1), .val (.int ((p0 &&& (2147483647 : Int32)) % (12 : Int32))), .val (.ref w_NIC_DETACH), .val (.int (0 : Int32))] []) _
    refine XS.iconst X37.here hx rfl (hb hby at_141) ?_
    show Sp p e below T37 (mkF m 142 #[.val (.int p0), .val (.ref b1), .val (.int ((p0 &&& (2147483647 : Int32)) % (12 : Int32))), .val (.ref w_NIC_DETACH), .val (.int (0 : Int32))] [(.int (1 : Int32))]) _
    refine XS.istore X37.here hx rfl (hb hby at_142) rfl (l' := #[.val (.int p0), .val (.ref b1), .val (.int ((p0 &&& (2147483647 : Int32)) % (12 : Int32))), .val (.ref w_NIC_DETACH), .val (.int (1 : Int32))]) rfl ?_
    show Sp p e below T37 (mkF m 144 #[.val (.int p0), .val (.ref b1), .val (.int ((p0 &&& (2147483647 : Int32)) % (12 : Int32))), .val (.ref w_NIC_DETACH), .val (.int (1 : Int32))] []) _
    refine XS.aloadN X37.here hx rfl (hb hby at_144) rfl rfl ?_
    show Sp p e below T37 (mkF m 145 #[.val (.int p0), .val (.ref b1), .val (.int ((p0 &&& (2147483647 : Int32)) % (12 : Int32))), .val (.ref w_NIC_DETACH), .val (.int (1 : Int32))] [(.ref w_NIC_DETACH)]) _
    refine st39.trans ?_
    show Sp p e below T39 (mkF m 148 #[.val (.int p0), .val (.ref b1), .val (.int ((p0 &&& (2147483647 : Int32)) % (12 : Int32))), .val (.ref w_NIC_DETACH), .val (.int (1 : Int32))] [(.int (1 : Int32))]) _
    refine XS.iload X39.here hx rfl (hb hby at_148) rfl ?_
    show Sp p e below T39 (mkF m 150 #[.val (.int p0), .val (.ref b1), .val (.int ((p0 &&& (2147483647 : Int32)) % (12 : Int32))), .val (.ref w_NIC_DETACH), .val (.int (1 : Int32))] [(.int (1 : Int32)), (.int (1 : Int32))]) _
    refine XS.icmpNo X39.here hx rfl (hb hby at_150) rfl (teq (by decide : (1 : Int32) = (1 : Int32))).2 ?_
    show Sp p e below T39 (mkF m 153 #[.val (.int p0), .val (.ref b1), .val (.int ((p0 &&& (2147483647 : Int32)) % (12 : Int32))), .val (.ref w_NIC_DETACH), .val (.int (1 : Int32))] []) _
    refine XS.iconst X39.here hx rfl (hb hby at_153) ?_
    show Sp p e below T39 (mkF m 154 #[.val (.int p0), .val (.ref b1), .val (.int ((p0 &&& (2147483647 : Int32)) % (12 : Int32))), .val (.ref w_NIC_DETACH), .val (.int (1 : Int32))] [(.int (1 : Int32))]) _
    refine XS.goto X39.here hx rfl (pc0 := 154) (pc' := 158) rfl (hb hby at_154) (by decide) (by decide) ?_
    show Sp p e below T39 (mkF m 158 #[.val (.int p0), .val (.ref b1), .val (.int ((p0 &&& (2147483647 : Int32)) % (12 : Int32))), .val (.ref w_NIC_DETACH), .val (.int (1 : Int32))] [(.int (1 : Int32))]) _
    exact retN X39 hx (t := .boolean) Bd.returns (by simp) (hb hby at_158) hr
  · skip
    exact ⟨rfl, N39⟩
set_option maxRecDepth 65536 in
set_option maxHeartbeats 4000000 in
theorem rm_law (l : Launch) (Z : State) (a0 : Array Value) (hw : ∀ d ∈ tables_1, d.before a0 Z = true) (ws : List Jvm.Cond) (w_PLATFORM_DEPLOY w_PLATFORM_DELETE w_SERVER_DEPLOY w_SERVER_START w_SERVER_STOP w_SERVER_DELETE w_DISK_ATTACH w_DISK_DETACH w_SNAPSHOT_CREATE w_SNAPSHOT_DELETE w_NIC_ATTACH w_NIC_DETACH : Addr) (hp : Perm Z w_PLATFORM_DEPLOY w_PLATFORM_DELETE w_SERVER_DEPLOY w_SERVER_START w_SERVER_STOP w_SERVER_DELETE w_DISK_ATTACH w_DISK_DETACH w_SNAPSHOT_CREATE w_SNAPSHOT_DELETE w_NIC_ATTACH w_NIC_DETACH) (p0 : Int32) (h0 : Heap) (n0 : Nat) (O0 : Old Z n0 h0) :
    MetFree l x (head1 (Jvm.Cond.code x code maxLocals ret :: ws) room_1) (fun a U => a = #[(.int p0)] ∧ Z.Warmed39 U.vm ∧ U.heap = h0) (fun _ _ _ _ _ => True) (fun _ U o U' => ∃ v L, o = .returned v ∧ (v = some (.int (1 : Int32)) ∧ Fr n0 L) ∧ FrameEnd U o U' L 16 128) := by
  by_cases d0 : ((p0 &&& (2147483647 : Int32)) % (12 : Int32)) = (0 : Int32)
  · skip
    exact rm2 l Z a0 hw ws w_PLATFORM_DEPLOY w_PLATFORM_DELETE w_SERVER_DEPLOY w_SERVER_START w_SERVER_STOP w_SERVER_DELETE w_DISK_ATTACH w_DISK_DETACH w_SNAPSHOT_CREATE w_SNAPSHOT_DELETE w_NIC_ATTACH w_NIC_DETACH hp p0 h0 n0 O0 d0
  · skip
    by_cases d1 : ((p0 &&& (2147483647 : Int32)) % (12 : Int32)) = (1 : Int32)
    · skip
      exact rm4 l Z a0 hw ws w_PLATFORM_DEPLOY w_PLATFORM_DELETE w_SERVER_DEPLOY w_SERVER_START w_SERVER_STOP w_SERVER_DELETE w_DISK_ATTACH w_DISK_DETACH w_SNAPSHOT_CREATE w_SNAPSHOT_DELETE w_NIC_ATTACH w_NIC_DETACH hp p0 h0 n0 O0 d0 d1
    · skip
      by_cases d2 : ((p0 &&& (2147483647 : Int32)) % (12 : Int32)) = (2 : Int32)
      · skip
        exact rm6 l Z a0 hw ws w_PLATFORM_DEPLOY w_PLATFORM_DELETE w_SERVER_DEPLOY w_SERVER_START w_SERVER_STOP w_SERVER_DELETE w_DISK_ATTACH w_DISK_DETACH w_SNAPSHOT_CREATE w_SNAPSHOT_DELETE w_NIC_ATTACH w_NIC_DETACH hp p0 h0 n0 O0 d0 d1 d2
      · skip
        by_cases d3 : ((p0 &&& (2147483647 : Int32)) % (12 : Int32)) = (3 : Int32)
        · skip
          exact rm8 l Z a0 hw ws w_PLATFORM_DEPLOY w_PLATFORM_DELETE w_SERVER_DEPLOY w_SERVER_START w_SERVER_STOP w_SERVER_DELETE w_DISK_ATTACH w_DISK_DETACH w_SNAPSHOT_CREATE w_SNAPSHOT_DELETE w_NIC_ATTACH w_NIC_DETACH hp p0 h0 n0 O0 d0 d1 d2 d3
        · skip
          by_cases d4 : ((p0 &&& (2147483647 : Int32)) % (12 : Int32)) = (4 : Int32)
          · skip
            exact rm10 l Z a0 hw ws w_PLATFORM_DEPLOY w_PLATFORM_DELETE w_SERVER_DEPLOY w_SERVER_START w_SERVER_STOP w_SERVER_DELETE w_DISK_ATTACH w_DISK_DETACH w_SNAPSHOT_CREATE w_SNAPSHOT_DELETE w_NIC_ATTACH w_NIC_DETACH hp p0 h0 n0 O0 d0 d1 d2 d3 d4
          · skip
            by_cases d5 : ((p0 &&& (2147483647 : Int32)) % (12 : Int32)) = (5 : Int32)
            · skip
              exact rm12 l Z a0 hw ws w_PLATFORM_DEPLOY w_PLATFORM_DELETE w_SERVER_DEPLOY w_SERVER_START w_SERVER_STOP w_SERVER_DELETE w_DISK_ATTACH w_DISK_DETACH w_SNAPSHOT_CREATE w_SNAPSHOT_DELETE w_NIC_ATTACH w_NIC_DETACH hp p0 h0 n0 O0 d0 d1 d2 d3 d4 d5
            · skip
              by_cases d6 : ((p0 &&& (2147483647 : Int32)) % (12 : Int32)) = (6 : Int32)
              · skip
                exact rm14 l Z a0 hw ws w_PLATFORM_DEPLOY w_PLATFORM_DELETE w_SERVER_DEPLOY w_SERVER_START w_SERVER_STOP w_SERVER_DELETE w_DISK_ATTACH w_DISK_DETACH w_SNAPSHOT_CREATE w_SNAPSHOT_DELETE w_NIC_ATTACH w_NIC_DETACH hp p0 h0 n0 O0 d0 d1 d2 d3 d4 d5 d6
              · skip
                by_cases d7 : ((p0 &&& (2147483647 : Int32)) % (12 : Int32)) = (7 : Int32)
                · skip
                  exact rm16 l Z a0 hw ws w_PLATFORM_DEPLOY w_PLATFORM_DELETE w_SERVER_DEPLOY w_SERVER_START w_SERVER_STOP w_SERVER_DELETE w_DISK_ATTACH w_DISK_DETACH w_SNAPSHOT_CREATE w_SNAPSHOT_DELETE w_NIC_ATTACH w_NIC_DETACH hp p0 h0 n0 O0 d0 d1 d2 d3 d4 d5 d6 d7
                · skip
                  by_cases d8 : ((p0 &&& (2147483647 : Int32)) % (12 : Int32)) = (8 : Int32)
                  · skip
                    exact rm18 l Z a0 hw ws w_PLATFORM_DEPLOY w_PLATFORM_DELETE w_SERVER_DEPLOY w_SERVER_START w_SERVER_STOP w_SERVER_DELETE w_DISK_ATTACH w_DISK_DETACH w_SNAPSHOT_CREATE w_SNAPSHOT_DELETE w_NIC_ATTACH w_NIC_DETACH hp p0 h0 n0 O0 d0 d1 d2 d3 d4 d5 d6 d7 d8
                  · skip
                    by_cases d9 : ((p0 &&& (2147483647 : Int32)) % (12 : Int32)) = (9 : Int32)
                    · skip
                      exact rm20 l Z a0 hw ws w_PLATFORM_DEPLOY w_PLATFORM_DELETE w_SERVER_DEPLOY w_SERVER_START w_SERVER_STOP w_SERVER_DELETE w_DISK_ATTACH w_DISK_DETACH w_SNAPSHOT_CREATE w_SNAPSHOT_DELETE w_NIC_ATTACH w_NIC_DETACH hp p0 h0 n0 O0 d0 d1 d2 d3 d4 d5 d6 d7 d8 d9
                    · skip
                      by_cases d10 : ((p0 &&& (2147483647 : Int32)) % (12 : Int32)) = (10 : Int32)
                      · skip
                        exact rm22 l Z a0 hw ws w_PLATFORM_DEPLOY w_PLATFORM_DELETE w_SERVER_DEPLOY w_SERVER_START w_SERVER_STOP w_SERVER_DELETE w_DISK_ATTACH w_DISK_DETACH w_SNAPSHOT_CREATE w_SNAPSHOT_DELETE w_NIC_ATTACH w_NIC_DETACH hp p0 h0 n0 O0 d0 d1 d2 d3 d4 d5 d6 d7 d8 d9 d10
                      · skip
                        exact rm24 l Z a0 hw ws w_PLATFORM_DEPLOY w_PLATFORM_DELETE w_SERVER_DEPLOY w_SERVER_START w_SERVER_STOP w_SERVER_DELETE w_DISK_ATTACH w_DISK_DETACH w_SNAPSHOT_CREATE w_SNAPSHOT_DELETE w_NIC_ATTACH w_NIC_DETACH hp p0 h0 n0 O0 d0 d1 d2 d3 d4 d5 d6 d7 d8 d9 d10
set_option maxRecDepth 65536 in
set_option maxHeartbeats 40000000 in
theorem comes_1 {Post : Tables → Env → Array Value → State → Outcome → State → Prop} (hpost : ∀ tb e args s v u, (limb_1_1.after args s (.returned v) u = true ∧ limb_1_2.after args s (.returned v) u = true ∧ True) → FrameEnd s (.returned v) u (Jvm.fieldLocs frame_1_writes args s ++ Jvm.arrayLocs frame_1_arrays args s ++ Jvm.staticLocs frame_1_statics s) 16 128 → Post tb e args s (.returned v) u) :
    ArmFor flags0 classFile x code maxLocals ret World_1 tables_1 room_1 Calls_1 rest_1 Pre_1 Post := by
  intro l hfl _ _ p e ha hc hk s m args below hf hA hF happ hP
  obtain ⟨hcalls, hrest, hpre⟩ := hP
  obtain ⟨-, -, -, hnamed, -, -, -, hat⟩ := (Spec.applies_iff hf).mp happ
  obtain ⟨hg, hn⟩ := and_e (Cond.before_iff.mp (show (Jvm.Cond.and given_1 narrow_1).before args s = true from hpre))
  obtain ⟨h1, hg⟩ := and_e hg
  have ga0 := hg
  obtain ⟨w0, rfl⟩ : ∃ w0 : Value, args = #[w0] := by
    have hs : args.size = 1 := by simpa [Cond.value, given_1] using h1
    obtain ⟨L⟩ := args
    match L, hs with
    | [w0], _ => exact ⟨w0, rfl⟩
  have hw := fun d (hd : d ∈ tables_1) => atoms_spec (ws := Jvm.Cond.code x code maxLocals ret :: tables_1) hat d (List.mem_cons_of_mem _ hd)
  have hfit : Fit s := fun {y c} hc i hi => by
    obtain ⟨ha, rfl⟩ := Array.getElem?_eq_some_iff.mp hc
    have q := List.all_eq_true.mp ((Array.all_eq_true_iff_forall_mem.mp hF) _ (Array.getElem_mem ha)) i (List.mem_range.mpr hi)
    simpa [Array.getElem?_eq_getElem hi] using q
  obtain ⟨i0, ei0⟩ := is_v ga0
  obtain rfl : w0 = (.int i0) := Option.some.inj ei0
  obtain ⟨nn0, hn⟩ := and_e hn
  obtain ⟨nn1, hn⟩ := and_e hn
  obtain ⟨nn2, hn⟩ := and_e hn
  obtain ⟨nn3, hn⟩ := and_e hn
  obtain ⟨nn4, hn⟩ := and_e hn
  obtain ⟨nn5, hn⟩ := and_e hn
  obtain ⟨nn6, hn⟩ := and_e hn
  obtain ⟨nn7, hn⟩ := and_e hn
  obtain ⟨nn8, hn⟩ := and_e hn
  obtain ⟨nn9, hn⟩ := and_e hn
  obtain ⟨nn10, hn⟩ := and_e hn
  obtain ⟨nn11, hn⟩ := and_e hn
  obtain ⟨nn12, hn⟩ := and_e hn
  obtain ⟨nn13, hn⟩ := and_e hn
  obtain ⟨nn14, hn⟩ := and_e hn
  obtain ⟨nn15, hn⟩ := and_e hn
  obtain ⟨nn16, hn⟩ := and_e hn
  obtain ⟨nn17, hn⟩ := and_e hn
  obtain ⟨nn18, hn⟩ := and_e hn
  obtain ⟨nn19, hn⟩ := and_e hn
  obtain ⟨nn20, hn⟩ := and_e hn
  obtain ⟨nn21, hn⟩ := and_e hn
  obtain ⟨nn22, hn⟩ := and_e hn
  have nn23 := hn
  obtain ⟨w_PLATFORM_DEPLOY, ev_w_PLATFORM_DEPLOY⟩ := exa_v nn0
  have E_w_PLATFORM_DEPLOY := Exa.start ev_w_PLATFORM_DEPLOY nn0
  have S_w_PLATFORM_DEPLOY := Sta.start ev_w_PLATFORM_DEPLOY (Or.inr ⟨(hw _ (List.mem_of_getElem? (i := 3) rfl)), (hw _ (List.mem_of_getElem? (i := 4) rfl))⟩)
  obtain ⟨w_PLATFORM_DELETE, ev_w_PLATFORM_DELETE⟩ := exa_v nn1
  have E_w_PLATFORM_DELETE := Exa.start ev_w_PLATFORM_DELETE nn1
  have S_w_PLATFORM_DELETE := Sta.start ev_w_PLATFORM_DELETE (Or.inr ⟨(hw _ (List.mem_of_getElem? (i := 3) rfl)), (hw _ (List.mem_of_getElem? (i := 7) rfl))⟩)
  obtain ⟨w_SERVER_DEPLOY, ev_w_SERVER_DEPLOY⟩ := exa_v nn2
  have E_w_SERVER_DEPLOY := Exa.start ev_w_SERVER_DEPLOY nn2
  have S_w_SERVER_DEPLOY := Sta.start ev_w_SERVER_DEPLOY (Or.inr ⟨(hw _ (List.mem_of_getElem? (i := 3) rfl)), (hw _ (List.mem_of_getElem? (i := 9) rfl))⟩)
  obtain ⟨w_SERVER_START, ev_w_SERVER_START⟩ := exa_v nn3
  have E_w_SERVER_START := Exa.start ev_w_SERVER_START nn3
  have S_w_SERVER_START := Sta.start ev_w_SERVER_START (Or.inr ⟨(hw _ (List.mem_of_getElem? (i := 3) rfl)), (hw _ (List.mem_of_getElem? (i := 11) rfl))⟩)
  obtain ⟨w_SERVER_STOP, ev_w_SERVER_STOP⟩ := exa_v nn4
  have E_w_SERVER_STOP := Exa.start ev_w_SERVER_STOP nn4
  have S_w_SERVER_STOP := Sta.start ev_w_SERVER_STOP (Or.inr ⟨(hw _ (List.mem_of_getElem? (i := 3) rfl)), (hw _ (List.mem_of_getElem? (i := 13) rfl))⟩)
  obtain ⟨w_SERVER_DELETE, ev_w_SERVER_DELETE⟩ := exa_v nn5
  have E_w_SERVER_DELETE := Exa.start ev_w_SERVER_DELETE nn5
  have S_w_SERVER_DELETE := Sta.start ev_w_SERVER_DELETE (Or.inr ⟨(hw _ (List.mem_of_getElem? (i := 3) rfl)), (hw _ (List.mem_of_getElem? (i := 15) rfl))⟩)
  obtain ⟨w_DISK_ATTACH, ev_w_DISK_ATTACH⟩ := exa_v nn6
  have E_w_DISK_ATTACH := Exa.start ev_w_DISK_ATTACH nn6
  have S_w_DISK_ATTACH := Sta.start ev_w_DISK_ATTACH (Or.inr ⟨(hw _ (List.mem_of_getElem? (i := 3) rfl)), (hw _ (List.mem_of_getElem? (i := 17) rfl))⟩)
  obtain ⟨w_DISK_DETACH, ev_w_DISK_DETACH⟩ := exa_v nn7
  have E_w_DISK_DETACH := Exa.start ev_w_DISK_DETACH nn7
  have S_w_DISK_DETACH := Sta.start ev_w_DISK_DETACH (Or.inr ⟨(hw _ (List.mem_of_getElem? (i := 3) rfl)), (hw _ (List.mem_of_getElem? (i := 19) rfl))⟩)
  obtain ⟨w_SNAPSHOT_CREATE, ev_w_SNAPSHOT_CREATE⟩ := exa_v nn8
  have E_w_SNAPSHOT_CREATE := Exa.start ev_w_SNAPSHOT_CREATE nn8
  have S_w_SNAPSHOT_CREATE := Sta.start ev_w_SNAPSHOT_CREATE (Or.inr ⟨(hw _ (List.mem_of_getElem? (i := 3) rfl)), (hw _ (List.mem_of_getElem? (i := 21) rfl))⟩)
  obtain ⟨w_SNAPSHOT_DELETE, ev_w_SNAPSHOT_DELETE⟩ := exa_v nn9
  have E_w_SNAPSHOT_DELETE := Exa.start ev_w_SNAPSHOT_DELETE nn9
  have S_w_SNAPSHOT_DELETE := Sta.start ev_w_SNAPSHOT_DELETE (Or.inr ⟨(hw _ (List.mem_of_getElem? (i := 3) rfl)), (hw _ (List.mem_of_getElem? (i := 23) rfl))⟩)
  obtain ⟨w_NIC_ATTACH, ev_w_NIC_ATTACH⟩ := exa_v nn10
  have E_w_NIC_ATTACH := Exa.start ev_w_NIC_ATTACH nn10
  have S_w_NIC_ATTACH := Sta.start ev_w_NIC_ATTACH (Or.inr ⟨(hw _ (List.mem_of_getElem? (i := 3) rfl)), (hw _ (List.mem_of_getElem? (i := 25) rfl))⟩)
  obtain ⟨w_NIC_DETACH, ev_w_NIC_DETACH⟩ := exa_v nn11
  have E_w_NIC_DETACH := Exa.start ev_w_NIC_DETACH nn11
  have S_w_NIC_DETACH := Sta.start ev_w_NIC_DETACH (Or.inr ⟨(hw _ (List.mem_of_getElem? (i := 3) rfl)), (hw _ (List.mem_of_getElem? (i := 27) rfl))⟩)
  have F_ordinal_w_PLATFORM_DEPLOY := own_fldi ev_w_PLATFORM_DEPLOY nn12
  have F_ordinal_w_DISK_ATTACH := own_fldi ev_w_DISK_ATTACH nn13
  have F_ordinal_w_DISK_DETACH := own_fldi ev_w_DISK_DETACH nn14
  have F_ordinal_w_NIC_ATTACH := own_fldi ev_w_NIC_ATTACH nn15
  have F_ordinal_w_NIC_DETACH := own_fldi ev_w_NIC_DETACH nn16
  have F_ordinal_w_SERVER_START := own_fldi ev_w_SERVER_START nn17
  have F_ordinal_w_SERVER_DEPLOY := own_fldi ev_w_SERVER_DEPLOY nn18
  have F_ordinal_w_SERVER_STOP := own_fldi ev_w_SERVER_STOP nn19
  have F_ordinal_w_SNAPSHOT_CREATE := own_fldi ev_w_SNAPSHOT_CREATE nn20
  have F_ordinal_w_PLATFORM_DELETE := own_fldi ev_w_PLATFORM_DELETE nn21
  have F_ordinal_w_SNAPSHOT_DELETE := own_fldi ev_w_SNAPSHOT_DELETE nn22
  have F_ordinal_w_SERVER_DELETE := own_fldi ev_w_SERVER_DELETE nn23
  obtain ⟨n, o, h1, h2, h3, _, L, rfl, ⟨rfl, N⟩, hq⟩ := rm_law l s _ hw tables_1 w_PLATFORM_DEPLOY w_PLATFORM_DELETE w_SERVER_DEPLOY w_SERVER_START w_SERVER_STOP w_SERVER_DELETE w_DISK_ATTACH w_DISK_DETACH w_SNAPSHOT_CREATE w_SNAPSHOT_DELETE w_NIC_ATTACH w_NIC_DETACH ⟨S_w_PLATFORM_DEPLOY, E_w_PLATFORM_DEPLOY, S_w_PLATFORM_DELETE, E_w_PLATFORM_DELETE, S_w_SERVER_DEPLOY, E_w_SERVER_DEPLOY, S_w_SERVER_START, E_w_SERVER_START, S_w_SERVER_STOP, E_w_SERVER_STOP, S_w_SERVER_DELETE, E_w_SERVER_DELETE, S_w_DISK_ATTACH, E_w_DISK_ATTACH, S_w_DISK_DETACH, E_w_DISK_DETACH, S_w_SNAPSHOT_CREATE, E_w_SNAPSHOT_CREATE, S_w_SNAPSHOT_DELETE, E_w_SNAPSHOT_DELETE, S_w_NIC_ATTACH, E_w_NIC_ATTACH, S_w_NIC_DETACH, E_w_NIC_DETACH, F_ordinal_w_PLATFORM_DEPLOY, F_ordinal_w_DISK_ATTACH, F_ordinal_w_DISK_DETACH, F_ordinal_w_NIC_ATTACH, F_ordinal_w_NIC_DETACH, F_ordinal_w_SERVER_START, F_ordinal_w_SERVER_DEPLOY, F_ordinal_w_SERVER_STOP, F_ordinal_w_SNAPSHOT_CREATE, F_ordinal_w_PLATFORM_DELETE, F_ordinal_w_SNAPSHOT_DELETE, F_ordinal_w_SERVER_DELETE⟩ i0 s.heap s.heap.size (Old.start s) p e ha hc hk s m _ below hf ((Spec.applies_iff_loose hf).mp happ).1 ⟨rfl, State.Warmed39.refl s, rfl⟩ trivial
  refine ⟨n, _, h1, h2, h3, hpost _ _ _ _ _ _ ⟨Cond.after_iff.mpr rfl, Cond.after_iff.mpr (eq_i res_at (Term.int_eval (1)) rfl), trivial⟩ ⟨hq.1, hq.2.1, (hq.2.2.sift fun y hy => Or.inr (N y hy)).mono (by decide) (by decide)⟩⟩
theorem main_1_1 : Claimed_1_1 := comes_1 fun _ _ _ _ _ _ h hF => ⟨h.1, hF⟩
theorem main_1_2 : Claimed_1_2 := comes_1 fun _ _ _ _ _ _ h hF => ⟨h.2.1, hF⟩
end Jvm.Pilot.@@N@@
namespace Jvm.Pilot.@@N@@
open Jvm Jvm.ClassFile Sem Op Lib Jvm.Free Jvm.Stand Jvm.Pilot.@@N@@.Jvm.D
/-! MADE BY PROGRAM (witnessworld.py) out of the Statement's table words and the real class files: 13 classes; the members and pool entries that the words name. The judged class is class 1, her method 1. -/
namespace start1
open Jvm.ClassFile
def u (s : String) : CpInfo := .utf8 (stringToUtf16 s)
/-- a pool by its gaps: so many unusable entries, then the entry; so many at the end -/
def gap : Nat → List CpInfo → List CpInfo
  | 0, r => r
  | n + 1, r => .unusable :: gap n r
def poolList (es : List (Nat × CpInfo)) (last : Nat) : List CpInfo := es.foldr (fun e r => gap e.1 (e.2 :: r)) (gap last [])
def pool (es : List (Nat × CpInfo)) (last : Nat) : Array CpInfo := ⟨poolList es last⟩
def fileOf (pool : Array CpInfo) (this : Nat) (attrs : Array Attribute := #[]) (ms : Array MethodInfo := #[]) (fl : Nat := 33) (sup : Nat := 0) (ifs : Array Nat := #[]) (fds : Array FieldInfo := #[]) : ClassFile where
  minorVersion := 0
  majorVersion := 65
  constantPool := pool
  accessFlags := fl
  thisClass := this
  superClass := sup
  interfaces := ifs
  fields := fds
  methods := ms
  attributes := attrs
def plain (name : String) (sup : Option ClassId) : Class where
  name := name
  kind := .ordinary
  loader := none
  accessFlags := 33
  super := sup
  interfaces := #[]
  cf := none
  fields := #[]
  methods := #[]
  instanceTypes := #[]
  staticTypes := #[]
  resolved := #[]
  callSites := []
  init := .initialized
  statics := none
  mirror := none

def pool0 : Array CpInfo := pool [(5, u "<init>"), (0, u "()V"), (1, .class_ 10), (1, u "java/lang/Object")] 113

def k0m0 : Method := { name := "<init>", desc := "()V", sig := { parameters := [], returnType := none }, accessFlags := 1, code := none }
/-- java/lang/Object -/
def k0 : Class := { plain "java/lang/Object" none with
  accessFlags := 33
  interfaces := #[]
  cf := some (fileOf pool0 8 #[] #[{ accessFlags := 1, nameIndex := 5, descriptorIndex := 6, attributes := #[] }] 33 0 #[] #[])
  fields := #[]
  methods := #[k0m0]
  instanceTypes := #[]
  staticTypes := #[]
  resolved := Array.replicate 124 none
  statics := none }

def pool1 : Array CpInfo := pool [(2, .class_ 4), (1, u "java/lang/Object"), (0, u "<init>"), (0, u "()V"), (0, .class_ 8), (0, u "com/example/ratebook/ratebook/model/EventType"), (0, .fieldref 7 10), (0, .nameAndType 11 12), (0, u "PLATFORM_DEPLOY"), (0, u "Lcom/example/ratebook/ratebook/model/EventType;"), (0, .fieldref 7 14), (0, .nameAndType 15 12), (0, u "PLATFORM_DELETE"), (0, .fieldref 7 17), (0, .nameAndType 18 12), (0, u "SERVER_DEPLOY"), (0, .fieldref 7 20), (0, .nameAndType 21 12), (0, u "SERVER_START"), (0, .fieldref 7 23), (0, .nameAndType 24 12), (0, u "SERVER_STOP"), (0, .fieldref 7 26), (0, .nameAndType 27 12), (0, u "SERVER_DELETE"), (0, .fieldref 7 29), (0, .nameAndType 30 12), (0, u "DISK_ATTACH"), (0, .fieldref 7 32), (0, .nameAndType 33 12), (0, u "DISK_DETACH"), (0, .fieldref 7 35), (0, .nameAndType 36 12), (0, u "SNAPSHOT_CREATE"), (0, .fieldref 7 38), (0, .nameAndType 39 12), (0, u "SNAPSHOT_DELETE"), (0, .fieldref 7 41), (0, .nameAndType 42 12), (0, u "NIC_ATTACH"), (0, .fieldref 7 44), (0, .nameAndType 45 12), (0, u "NIC_DETACH"), (0, .integer 2147483647), (0, .methodref 7 48), (0, .nameAndType 49 50), (0, u "isAttachmentEvent"), (0, u "()Z"), (0, .class_ 52), (0, u "com/example/ratebook/ratebook/model/EventTypeIsAttachmentEventPinLaw"), (2, u "law"), (0, u "(I)Z")] 5

def k1m0 : Method := { name := "<init>", desc := "()V", sig := { parameters := [], returnType := none }, accessFlags := 2, code := none }
def k1c1 : Code := { maxStack := 4, maxLocals := 5, code := code, exceptionTable := #[], attributes := #[] }
def k1m1 : Method := { name := "law", desc := "(I)Z", sig := { parameters := [.int], returnType := some .boolean }, accessFlags := 9, code := some k1c1 }
/-- com/example/ratebook/ratebook/model/EventTypeIsAttachmentEventPinLaw -/
def k1 : Class := { plain "com/example/ratebook/ratebook/model/EventTypeIsAttachmentEventPinLaw" (some 0) with
  accessFlags := 49
  interfaces := #[]
  cf := some (fileOf pool1 51 #[] #[{ accessFlags := 2, nameIndex := 5, descriptorIndex := 6, attributes := #[] }, { accessFlags := 9, nameIndex := 55, descriptorIndex := 56, attributes := #[] }] 49 2 #[] #[])
  fields := #[]
  methods := #[k1m0, k1m1]
  instanceTypes := #[]
  staticTypes := #[]
  resolved := Array.replicate 62 none
  statics := none }

def pool2 : Array CpInfo := pool [(1, .class_ 2), (0, u "java/lang/constant/Constable"), (0, .class_ 4), (0, u "java/lang/Object")] 6

/-- java/lang/constant/Constable -/
def k2 : Class := { plain "java/lang/constant/Constable" (some 0) with
  accessFlags := 1537
  interfaces := #[]
  cf := some (fileOf pool2 1 #[] #[] 1537 3 #[] #[])
  fields := #[]
  methods := #[]
  instanceTypes := #[]
  staticTypes := #[]
  resolved := Array.replicate 11 none
  statics := none }

def pool3 : Array CpInfo := pool [(1, .class_ 2), (0, u "java/lang/Comparable"), (0, .class_ 4), (0, u "java/lang/Object")] 7

/-- java/lang/Comparable -/
def k3 : Class := { plain "java/lang/Comparable" (some 0) with
  accessFlags := 1537
  interfaces := #[]
  cf := some (fileOf pool3 1 #[] #[] 1537 3 #[] #[])
  fields := #[]
  methods := #[]
  instanceTypes := #[]
  staticTypes := #[]
  resolved := Array.replicate 12 none
  statics := none }

def pool4 : Array CpInfo := pool [(1, .class_ 2), (0, u "java/io/Serializable"), (0, .class_ 4), (0, u "java/lang/Object")] 2

/-- java/io/Serializable -/
def k4 : Class := { plain "java/io/Serializable" (some 0) with
  accessFlags := 1537
  interfaces := #[]
  cf := some (fileOf pool4 1 #[] #[] 1537 3 #[] #[])
  fields := #[]
  methods := #[]
  instanceTypes := #[]
  staticTypes := #[]
  resolved := Array.replicate 7 none
  statics := none }

def pool5 : Array CpInfo := pool [(2, .class_ 4), (1, u "java/lang/Enum"), (0, u "name"), (0, u "Ljava/lang/String;"), (2, u "ordinal"), (0, u "I"), (1, .class_ 14), (1, u "java/lang/Object"), (4, u "hash"), (86, .class_ 108), (1, u "java/lang/Enum$EnumDesc"), (2, .class_ 112), (0, u "java/lang/constant/Constable"), (0, .class_ 114), (0, u "java/lang/Comparable"), (0, .class_ 116), (0, u "java/io/Serializable")] 87

/-- java/lang/Enum -/
def k5 : Class := { plain "java/lang/Enum" (some 0) with
  accessFlags := 1057
  interfaces := #[2, 3, 4]
  cf := some (fileOf pool5 2 #[.nestMembers #[106]] #[] 1057 12 #[111, 113, 115] #[{ accessFlags := 18, nameIndex := 5, descriptorIndex := 6, attributes := #[] }, { accessFlags := 18, nameIndex := 9, descriptorIndex := 10, attributes := #[] }, { accessFlags := 2, nameIndex := 19, descriptorIndex := 10, attributes := #[] }])
  fields := #[{ name := "name", type := (.object "java/lang/String"), accessFlags := 18, slot := 0, constantValue := 0 }, { name := "ordinal", type := .int, accessFlags := 18, slot := 1, constantValue := 0 }, { name := "hash", type := .int, accessFlags := 2, slot := 2, constantValue := 0 }]
  methods := #[]
  instanceTypes := #[(.object "java/lang/String"), .int, .int]
  staticTypes := #[]
  resolved := Array.replicate 204 none
  statics := none }

def pool6 : Array CpInfo := pool [(1, .class_ 2), (0, u "com/example/ratebook/ratebook/model/EventType"), (2, u "PLATFORM_DEPLOY"), (0, u "Lcom/example/ratebook/ratebook/model/EventType;"), (2, u "PLATFORM_DELETE"), (2, u "SERVER_DEPLOY"), (2, u "SERVER_START"), (2, u "SERVER_STOP"), (2, u "SERVER_DELETE"), (0, .fieldref 1 23), (0, .nameAndType 24 6), (0, u "DISK_ATTACH"), (0, .fieldref 1 26), (0, .nameAndType 27 6), (0, u "DISK_DETACH"), (2, u "SNAPSHOT_CREATE"), (2, u "SNAPSHOT_DELETE"), (0, .fieldref 1 35), (0, .nameAndType 36 6), (0, u "NIC_ATTACH"), (0, .fieldref 1 38), (0, .nameAndType 39 6), (0, u "NIC_DETACH"), (2, u "$VALUES"), (0, u "[Lcom/example/ratebook/ratebook/model/EventType;"), (6, .class_ 52), (1, u "java/lang/Enum"), (28, u "code"), (0, u "Ljava/lang/String;"), (2, u "BY_CODE"), (0, u "Ljava/util/Map;"), (67, u "()Z"), (1, u "isAttachmentEvent")] 27

def k6c0 : Code := { maxStack := 2, maxLocals := 1, code := prog_20_method_6_code, exceptionTable := #[], attributes := #[] }
def k6m0 : Method := { name := "isAttachmentEvent", desc := "()Z", sig := { parameters := [], returnType := some .boolean }, accessFlags := 1, code := some k6c0 }
/-- com/example/ratebook/ratebook/model/EventType -/
def k6 : Class := { plain "com/example/ratebook/ratebook/model/EventType" (some 5) with
  accessFlags := 16433
  interfaces := #[]
  cf := some (fileOf pool6 1 #[] #[{ accessFlags := 1, nameIndex := 156, descriptorIndex := 154, attributes := #[] }] 16433 50 #[] #[{ accessFlags := 16409, nameIndex := 5, descriptorIndex := 6, attributes := #[] }, { accessFlags := 16409, nameIndex := 9, descriptorIndex := 6, attributes := #[] }, { accessFlags := 16409, nameIndex := 12, descriptorIndex := 6, attributes := #[] }, { accessFlags := 16409, nameIndex := 15, descriptorIndex := 6, attributes := #[] }, { accessFlags := 16409, nameIndex := 18, descriptorIndex := 6, attributes := #[] }, { accessFlags := 16409, nameIndex := 21, descriptorIndex := 6, attributes := #[] }, { accessFlags := 16409, nameIndex := 24, descriptorIndex := 6, attributes := #[] }, { accessFlags := 16409, nameIndex := 27, descriptorIndex := 6, attributes := #[] }, { accessFlags := 16409, nameIndex := 30, descriptorIndex := 6, attributes := #[] }, { accessFlags := 16409, nameIndex := 33, descriptorIndex := 6, attributes := #[] }, { accessFlags := 16409, nameIndex := 36, descriptorIndex := 6, attributes := #[] }, { accessFlags := 16409, nameIndex := 39, descriptorIndex := 6, attributes := #[] }, { accessFlags := 26, nameIndex := 85, descriptorIndex := 86, attributes := #[] }, { accessFlags := 18, nameIndex := 81, descriptorIndex := 82, attributes := #[] }, { accessFlags := 4122, nameIndex := 42, descriptorIndex := 43, attributes := #[] }])
  fields := #[{ name := "PLATFORM_DEPLOY", type := (.object "com/example/ratebook/ratebook/model/EventType"), accessFlags := 16409, slot := 0, constantValue := 0 }, { name := "PLATFORM_DELETE", type := (.object "com/example/ratebook/ratebook/model/EventType"), accessFlags := 16409, slot := 1, constantValue := 0 }, { name := "SERVER_DEPLOY", type := (.object "com/example/ratebook/ratebook/model/EventType"), accessFlags := 16409, slot := 2, constantValue := 0 }, { name := "SERVER_START", type := (.object "com/example/ratebook/ratebook/model/EventType"), accessFlags := 16409, slot := 3, constantValue := 0 }, { name := "SERVER_STOP", type := (.object "com/example/ratebook/ratebook/model/EventType"), accessFlags := 16409, slot := 4, constantValue := 0 }, { name := "SERVER_DELETE", type := (.object "com/example/ratebook/ratebook/model/EventType"), accessFlags := 16409, slot := 5, constantValue := 0 }, { name := "DISK_ATTACH", type := (.object "com/example/ratebook/ratebook/model/EventType"), accessFlags := 16409, slot := 6, constantValue := 0 }, { name := "DISK_DETACH", type := (.object "com/example/ratebook/ratebook/model/EventType"), accessFlags := 16409, slot := 7, constantValue := 0 }, { name := "SNAPSHOT_CREATE", type := (.object "com/example/ratebook/ratebook/model/EventType"), accessFlags := 16409, slot := 8, constantValue := 0 }, { name := "SNAPSHOT_DELETE", type := (.object "com/example/ratebook/ratebook/model/EventType"), accessFlags := 16409, slot := 9, constantValue := 0 }, { name := "NIC_ATTACH", type := (.object "com/example/ratebook/ratebook/model/EventType"), accessFlags := 16409, slot := 10, constantValue := 0 }, { name := "NIC_DETACH", type := (.object "com/example/ratebook/ratebook/model/EventType"), accessFlags := 16409, slot := 11, constantValue := 0 }, { name := "BY_CODE", type := (.object "java/util/Map"), accessFlags := 26, slot := 12, constantValue := 0 }, { name := "code", type := (.object "java/lang/String"), accessFlags := 18, slot := 3, constantValue := 0 }, { name := "$VALUES", type := (.array (.object "com/example/ratebook/ratebook/model/EventType")), accessFlags := 4122, slot := 13, constantValue := 0 }]
  methods := #[k6m0]
  instanceTypes := #[(.object "java/lang/String"), .int, .int, (.object "java/lang/String")]
  staticTypes := #[(.object "com/example/ratebook/ratebook/model/EventType"), (.object "com/example/ratebook/ratebook/model/EventType"), (.object "com/example/ratebook/ratebook/model/EventType"), (.object "com/example/ratebook/ratebook/model/EventType"), (.object "com/example/ratebook/ratebook/model/EventType"), (.object "com/example/ratebook/ratebook/model/EventType"), (.object "com/example/ratebook/ratebook/model/EventType"), (.object "com/example/ratebook/ratebook/model/EventType"), (.object "com/example/ratebook/ratebook/model/EventType"), (.object "com/example/ratebook/ratebook/model/EventType"), (.object "com/example/ratebook/ratebook/model/EventType"), (.object "com/example/ratebook/ratebook/model/EventType"), (.object "java/util/Map"), (.array (.object "com/example/ratebook/ratebook/model/EventType"))]
  resolved := Array.replicate 184 none
  statics := some 0 }

def pool7 : Array CpInfo := pool [(1, u "java/lang/Cloneable"), (0, .class_ 1), (0, u "java/lang/Object"), (0, .class_ 3)] 3

/-- java/lang/Cloneable -/
def k7 : Class := { plain "java/lang/Cloneable" (some 0) with
  accessFlags := 1537
  interfaces := #[]
  cf := some (fileOf pool7 2 #[] #[] 1537 4 #[] #[])
  fields := #[]
  methods := #[]
  instanceTypes := #[]
  staticTypes := #[]
  resolved := Array.replicate 8 none
  statics := none }

/-- the primitive byte -/
def k8 : Class := { plain "byte" none with kind := .primitive 'B', accessFlags := 0x411 }
/-- [B -/
def k9 : Class := { plain "[B" (some 0) with kind := .array 8 .byte, interfaces := #[7, 4], accessFlags := 1041 }

/-- the primitive int -/
def k10 : Class := { plain "int" none with kind := .primitive 'I', accessFlags := 0x411 }
/-- [I -/
def k11 : Class := { plain "[I" (some 0) with kind := .array 10 .int, interfaces := #[7, 4], accessFlags := 1041 }

/-- [Lcom/example/ratebook/ratebook/model/EventType; -/
def k12 : Class := { plain "[Lcom/example/ratebook/ratebook/model/EventType;" (some 0) with kind := .array 6 (.object "com/example/ratebook/ratebook/model/EventType"), interfaces := #[7, 4], accessFlags := 1041 }

def heap : Heap := #[{ cls := 6, slots := #[.ref 1, .ref 2, .ref 3, .ref 4, .ref 5, .ref 6, .ref 7, .ref 8, .ref 9, .ref 10, .ref 11, .ref 12, .null, .null], vm := .statics 6 },
  { cls := 6, slots := #[.null, .int 0, .int 0, .null], vm := .none },
  { cls := 6, slots := #[.null, .int 1, .int 0, .null], vm := .none },
  { cls := 6, slots := #[.null, .int 2, .int 0, .null], vm := .none },
  { cls := 6, slots := #[.null, .int 3, .int 0, .null], vm := .none },
  { cls := 6, slots := #[.null, .int 4, .int 0, .null], vm := .none },
  { cls := 6, slots := #[.null, .int 5, .int 0, .null], vm := .none },
  { cls := 6, slots := #[.null, .int 6, .int 0, .null], vm := .none },
  { cls := 6, slots := #[.null, .int 7, .int 0, .null], vm := .none },
  { cls := 6, slots := #[.null, .int 8, .int 0, .null], vm := .none },
  { cls := 6, slots := #[.null, .int 9, .int 0, .null], vm := .none },
  { cls := 6, slots := #[.null, .int 10, .int 0, .null], vm := .none },
  { cls := 6, slots := #[.null, .int 11, .int 0, .null], vm := .none }]
def classes : Array Class := #[k0, k1, k2, k3, k4, k5, k6, k7, k8, k9, k10, k11, k12]
def interned : List (Array UInt16 × Addr) := []
def slotsUsed : Nat := 62
def theMethod : MethodId := ⟨1, 1⟩
def args0 : Array Value := #[.int 5]
def aboutOver (below : List Frame) : State where
  vm := { classes := classes, interned := interned.toArray }
  heap := heap
  slotsUsed := slotsUsed
  threads := #[{ frames := .invoking theMethod args0 :: below }]
def below0 : List Frame := [.native { method := ⟨0, 0⟩, args := #[] }]
def about1 : State := aboutOver below0
def p0 : Program := .bare "" "" ""
def e0 : Env := launch0.env 0 0 0
theorem w_frames : about1.frames = Frame.invoking theMethod args0 :: below0 := rfl
set_option maxRecDepth 65536 in
theorem w_args : argsFit about1.vm theMethod args0 = true := by decide +kernel
set_option maxRecDepth 65536 in
theorem w_heap : heapFits about1 = true := by decide +kernel
set_option maxRecDepth 65536 in
theorem w_runnable : about1.curStatus? = some .runnable := by decide +kernel
set_option maxRecDepth 65536 in
theorem w_alone : about1.alone = true := by decide +kernel
set_option maxRecDepth 65536 in
theorem w_named : about1.methodNamed? x = some theMethod := by decide +kernel
set_option maxRecDepth 65536 in
theorem w_hears : about1.hears theMethod below0 = true := by decide +kernel
set_option maxRecDepth 65536 in
theorem w_ripe : about1.ripe theMethod args0 below0 = true := by decide +kernel
theorem w_running : about1.status = .running := rfl
set_option maxRecDepth 65536 in
theorem w_room : about1.hasRoom e0.platform room_1 = true :=
  launch0.hasRoom_least _ room_1 (by decide +kernel) (by decide +kernel) (by decide +kernel) (by decide +kernel) (by decide +kernel) (by decide +kernel)
theorem allAtoms_all (ts : List Jvm.Cond) (a : Array Jvm.Value) (st : Jvm.State) : (allAtoms ts).before a st = ts.all (fun c => c.before a st) := by
  induction ts with
  | nil => rfl
  | cons c t ih =>
    show (Jvm.Cond.and c (allAtoms t)).before a st = _
    rw [Jvm.Cond.before_and, ih, List.all_cons]
def words1 : List Jvm.Cond := Jvm.Cond.code x code maxLocals ret :: tables_1
/-- a 'code' word, met by the world's own term for the bytes: nothing is compared byte by byte -/
theorem code_word {y : MethodName} {bytes : ByteArray} {mx : Nat} {rt : Option FieldType} {a : Array Value} {s : State} {m : MethodId} {meth : Method} {c : Code} (h1 : s.methodNamed? y = some m) (h2 : s.vm.method? m = some meth) (h3 : meth.code = some c) (h4 : c.code = bytes)
    (h5 : (c.maxLocals == mx && c.exceptionTable.isEmpty && decide (c.maxStack ≤ mostOperands) && decide (meth.sig.returnType = rt) && !meth.locks && decide (parseMethodDescriptor y.desc = some meth.sig)) = true) : (Jvm.Cond.code y bytes mx rt).before a s = true := by
  simp only [Bool.and_eq_true, beq_iff_eq, Bool.not_eq_true', decide_eq_true_eq] at h5
  obtain ⟨⟨⟨⟨⟨g1, g2⟩, g3⟩, g4⟩, g5⟩, g6⟩ := h5
  simp [Cond.before, Cond.holds, Cond.value, h1, h2, h3, h4, g1, g2, g3, g4, g5, g6]
def isCode : Jvm.Cond → Bool
  | .code _ _ _ _ => true
  | _ => false
theorem all_split {L : List Jvm.Cond} {P : Jvm.Cond → Bool} (h1 : L.all (fun c => isCode c || P c) = true) (h2 : ∀ c ∈ L.filter isCode, P c = true) : L.all P = true := by
  refine List.all_eq_true.mpr fun c hc => ?_
  have h := List.all_eq_true.mp h1 c hc
  rcases Bool.eq_false_or_eq_true (isCode c) with hi | hi
  · exact h2 c (List.mem_filter.mpr ⟨hc, hi⟩)
  · simpa [hi] using h
set_option maxRecDepth 65536 in
theorem w_c0 : (Jvm.Cond.code x code maxLocals ret).before args0 about1 = true := code_word (m := ⟨1, 1⟩) (meth := k1m1) (c := k1c1) (by decide +kernel) rfl rfl rfl (by decide +kernel)
set_option maxRecDepth 65536 in
theorem w_c1 : (Jvm.Cond.code ({ cls := "com/example/ratebook/ratebook/model/EventType", name := "isAttachmentEvent", desc := "()Z" } : Jvm.MethodName) prog_20_method_6_code (1 : Nat) (Option.some Jvm.ClassFile.FieldType.boolean)).before args0 about1 = true := code_word (m := ⟨6, 0⟩) (meth := k6m0) (c := k6c0) (by decide +kernel) rfl rfl rfl (by decide +kernel)
def codes1 : List Jvm.Cond := [Jvm.Cond.code x code maxLocals ret, Jvm.Cond.code ({ cls := "com/example/ratebook/ratebook/model/EventType", name := "isAttachmentEvent", desc := "()Z" } : Jvm.MethodName) prog_20_method_6_code (1 : Nat) (Option.some Jvm.ClassFile.FieldType.boolean)]
set_option maxRecDepth 65536 in
theorem codes_eq : words1.filter isCode = codes1 := rfl
theorem w_codes : ∀ c ∈ words1.filter isCode, c.before args0 about1 = true := by
  rw [codes_eq]
  intro c hc
  simp only [codes1, List.mem_cons, List.not_mem_nil, or_false] at hc
  rcases hc with rfl | rfl
  · exact w_c0
  · exact w_c1
set_option maxRecDepth 65536 in
theorem w_t1 : (words1.take 24).all (fun c => isCode c || c.before args0 about1) = true := by decide +kernel
set_option maxRecDepth 65536 in
theorem w_t2 : (words1.drop 24).all (fun c => isCode c || c.before args0 about1) = true := by decide +kernel
theorem w_tables : (allAtoms (Jvm.Cond.code x code maxLocals ret :: tables_1)).before args0 about1 = true := by
  rw [allAtoms_all]
  show words1.all (fun c => c.before args0 about1) = true
  refine all_split ?_ w_codes
  rw [← List.take_append_drop 24 words1, List.all_append, w_t1, w_t2]
  rfl
set_option maxRecDepth 65536 in
theorem w_case : (Jvm.Cond.and given_1 narrow_1).before args0 about1 = true := by decide +kernel
theorem w_applies : (headSpec (Jvm.Cond.code x code maxLocals ret :: tables_1) room_1).applies x e0.platform about1 = true :=
  (Spec.applies_iff w_frames).mpr ⟨w_running, w_runnable, w_alone, w_named, w_hears, w_ripe, w_room, w_tables⟩
theorem atStart : AtStart classFile x code maxLocals ret World_1 tables_1 room_1 Calls_1 rest_1 Pre_1 launch0 p0 e0 about1 theMethod args0 below0 :=
  ⟨lists_1, trivial, launch0.admits_env _ _ _, launch0.least_env, fairChoices_fair.cas, fairChoices_fair.clock, w_frames, w_args, w_heap, w_applies, trivial, trivial, w_case⟩
end start1
theorem witness_1 : WitnessClaimed_1 := ⟨start1.p0, start1.e0, start1.about1, start1.theMethod, start1.args0, start1.below0, start1.atStart⟩
end Jvm.Pilot.@@N@@
