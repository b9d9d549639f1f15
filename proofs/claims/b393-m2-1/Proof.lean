import JvmDerived
import JvmDerived.Pilot.@@N@@Statement
import JvmDerived.Pilot.@@N@@Code
set_option linter.unusedVariables false
set_option linter.unusedSimpArgs false
namespace Jvm.RoadKit
open Sem ClassFile Op Lib Jvm.Stand Jvm.Free Jvm.LawKit
section New
variable {p : Program} {l : Launch} {e : Env} {R : Room} {s : State} {m : MethodId} {args : Array Value} {below : List Frame} {meth : Method} {c : Code} {T : State} {locs : List Loc} {cells slots : Nat}
theorem retI (X : Stand p l e R s m args below meth c T locs cells slots) (hx : p.tables.exec = Jvm.exec) {pc : Nat} {Ls : Array Slot} {z : Int32} {rest : List Value} (hret : meth.sig.returnType = some .int) (hd : decode c.code pc = .ok (.ireturn, 1)) {fs : List Frame}
    (hl : ∀ (f : JFrame) (acts : List Action), f.method = m → f.locked = none → f.entered = [] → (doReturn e (T.setTop f) acts (some (.int z))).1 = T.setFrames fs) : Steps p.tables e below (T.setTop (mkF m pc Ls (.int z :: rest))) (T.setFrames fs) := by
  have hm' : T.vm.method? m = some meth := X.method'
  have hn : narrow .int (.int z) = .int z := rfl
  show Steps p.tables e below (T.setTop { method := m, pc := pc, locals := Ls, stack := _ :: rest, locked := none }) _
  jvm_step X.here [X.here.top, hx, hd, hm', hret, hn]
  first | (intro acts; rw [hl _ acts rfl rfl rfl]) | rw [hl _ _ rfl rfl rfl]
  exact Steps.refl _
end New
end Jvm.RoadKit
namespace Jvm.Pilot.@@N@@
open Jvm Jvm.ClassFile Sem Op Lib Jvm.Free Jvm.Stand Jvm.LawKit Jvm.RoadKit Bundle Jvm.Pilot.@@N@@.Jvm.D
abbrev Sp (p : Program) (e : Env) (below : List Frame) (T : State) (f : JFrame) (t : State) : Prop := Steps p.tables e below (T.setTop f) t
theorem own_sz {Z : State} {n0 : Nat} {h : Heap} (O : Old Z n0 h) : n0 ≤ h.size := O.1 ▸ O.2.1
theorem own_nei {x c : Int32} {n : Int} (h : ¬ x = c) (e : c.toInt = n) : x.toInt ≠ n := fun q => h (Int32.toInt_inj.mp (q.trans e.symm))
theorem own_eq {x c : Int32} {n : Int} (e : c.toInt = n) (h : x.toInt = n) : x = c := Int32.toInt_inj.mp (h.trans e.symm)
theorem own_eqi {x c : Int32} {n : Int} (h : x = c) (e : c.toInt = n) : x.toInt = n := by rw [h]; exact e
theorem own_fldi {args : Array Value} {s : State} {t : Term} {a : Addr} {C n d : String} {c : Int32} (ev : t.eval args s none [] s = some (.ref a)) (h : (Cond.eq (.field t C n d) (.int c)).value args s none s [] = some true) : Fld s s.heap a C n d (.int c) := by
  apply Fld.start
  cases hf : s.fieldOf? a C n d with
  | none => simp [Cond.value, Term.eval, ev, hf] at h
  | some x => cases x <;> simp [Cond.value, Term.eval, ev, hf] at h ⊢; exact h
theorem own_fldr {args : Array Value} {s : State} {t u : Term} {a b : Addr} {C n d : String} (ev : t.eval args s none [] s = some (.ref a)) (eu : u.eval args s none [] s = some (.ref b)) (h : (Cond.eq (.field t C n d) u).value args s none s [] = some true) : Fld s s.heap a C n d (.ref b) := by
  apply Fld.start
  cases hf : s.fieldOf? a C n d with
  | none => simp [Cond.value, Term.eval, ev, eu, hf] at h
  | some x => cases x <;> simp [Cond.value, Term.eval, ev, eu, hf] at h ⊢; exact h
theorem own_rem {x m : Int32} {M d : Int} (hm : m.toInt = M) (h0 : 0 ≤ M) {y : Int32} (hy : y.toInt = d) (hd : 0 < d) : 0 ≤ ((x &&& m) % y).toInt ∧ ((x &&& m) % y).toInt < d := by
  have a := c_and x m (by rw [hm]; exact h0)
  have b := (c_irem (x &&& m) y d hy).1 a.1
  rw [b]; exact ⟨Int.emod_nonneg _ (by omega), Int.emod_lt_of_pos _ hd⟩
def Perm (Z : State) (w_PLATFORM_DEPLOY : Addr) (w_SERVER_START : Addr) (w_PLATFORM_DELETE : Addr) (w_SERVER_DEPLOY : Addr) (w_DISK_DETACH : Addr) (w_NIC_DETACH : Addr) (w_SERVER_STOP : Addr) (w_SNAPSHOT_CREATE : Addr) (w_NIC_ATTACH : Addr) (w_SNAPSHOT_DELETE : Addr) (w_DISK_ATTACH : Addr) (w_SERVER_DELETE : Addr) : Prop := Sta Z Z.heap "com/example/ratebook/ratebook/model/EventType" "PLATFORM_DEPLOY" "Lcom/example/ratebook/ratebook/model/EventType;" (.ref w_PLATFORM_DEPLOY) ∧ Exa Z Z.heap w_PLATFORM_DEPLOY "com/example/ratebook/ratebook/model/EventType" ∧ Sta Z Z.heap "com/example/ratebook/ratebook/model/EventType" "SERVER_START" "Lcom/example/ratebook/ratebook/model/EventType;" (.ref w_SERVER_START) ∧ Exa Z Z.heap w_SERVER_START "com/example/ratebook/ratebook/model/EventType" ∧ Sta Z Z.heap "com/example/ratebook/ratebook/model/EventType" "PLATFORM_DELETE" "Lcom/example/ratebook/ratebook/model/EventType;" (.ref w_PLATFORM_DELETE) ∧ Exa Z Z.heap w_PLATFORM_DELETE "com/example/ratebook/ratebook/model/EventType" ∧ Sta Z Z.heap "com/example/ratebook/ratebook/model/EventType" "SERVER_DEPLOY" "Lcom/example/ratebook/ratebook/model/EventType;" (.ref w_SERVER_DEPLOY) ∧ Exa Z Z.heap w_SERVER_DEPLOY "com/example/ratebook/ratebook/model/EventType" ∧ Sta Z Z.heap "com/example/ratebook/ratebook/model/EventType" "DISK_DETACH" "Lcom/example/ratebook/ratebook/model/EventType;" (.ref w_DISK_DETACH) ∧ Exa Z Z.heap w_DISK_DETACH "com/example/ratebook/ratebook/model/EventType" ∧ Sta Z Z.heap "com/example/ratebook/ratebook/model/EventType" "NIC_DETACH" "Lcom/example/ratebook/ratebook/model/EventType;" (.ref w_NIC_DETACH) ∧ Exa Z Z.heap w_NIC_DETACH "com/example/ratebook/ratebook/model/EventType" ∧ Sta Z Z.heap "com/example/ratebook/ratebook/model/EventType" "SERVER_STOP" "Lcom/example/ratebook/ratebook/model/EventType;" (.ref w_SERVER_STOP) ∧ Exa Z Z.heap w_SERVER_STOP "com/example/ratebook/ratebook/model/EventType" ∧ Sta Z Z.heap "com/example/ratebook/ratebook/model/EventType" "SNAPSHOT_CREATE" "Lcom/example/ratebook/ratebook/model/EventType;" (.ref w_SNAPSHOT_CREATE) ∧ Exa Z Z.heap w_SNAPSHOT_CREATE "com/example/ratebook/ratebook/model/EventType" ∧ Sta Z Z.heap "com/example/ratebook/ratebook/model/EventType" "NIC_ATTACH" "Lcom/example/ratebook/ratebook/model/EventType;" (.ref w_NIC_ATTACH) ∧ Exa Z Z.heap w_NIC_ATTACH "com/example/ratebook/ratebook/model/EventType" ∧ Sta Z Z.heap "com/example/ratebook/ratebook/model/EventType" "SNAPSHOT_DELETE" "Lcom/example/ratebook/ratebook/model/EventType;" (.ref w_SNAPSHOT_DELETE) ∧ Exa Z Z.heap w_SNAPSHOT_DELETE "com/example/ratebook/ratebook/model/EventType" ∧ Sta Z Z.heap "com/example/ratebook/ratebook/model/EventType" "DISK_ATTACH" "Lcom/example/ratebook/ratebook/model/EventType;" (.ref w_DISK_ATTACH) ∧ Exa Z Z.heap w_DISK_ATTACH "com/example/ratebook/ratebook/model/EventType" ∧ Sta Z Z.heap "com/example/ratebook/ratebook/model/EventType" "SERVER_DELETE" "Lcom/example/ratebook/ratebook/model/EventType;" (.ref w_SERVER_DELETE) ∧ Exa Z Z.heap w_SERVER_DELETE "com/example/ratebook/ratebook/model/EventType" ∧ Fld Z Z.heap w_SERVER_START "java/lang/Enum" "ordinal" "I" (.int (3 : Int32)) ∧ Fld Z Z.heap w_PLATFORM_DEPLOY "java/lang/Enum" "ordinal" "I" (.int (0 : Int32)) ∧ Fld Z Z.heap w_PLATFORM_DELETE "java/lang/Enum" "ordinal" "I" (.int (1 : Int32)) ∧ Fld Z Z.heap w_SERVER_DEPLOY "java/lang/Enum" "ordinal" "I" (.int (2 : Int32)) ∧ Fld Z Z.heap w_DISK_DETACH "java/lang/Enum" "ordinal" "I" (.int (7 : Int32)) ∧ Fld Z Z.heap w_NIC_DETACH "java/lang/Enum" "ordinal" "I" (.int (11 : Int32)) ∧ Fld Z Z.heap w_SERVER_STOP "java/lang/Enum" "ordinal" "I" (.int (4 : Int32)) ∧ Fld Z Z.heap w_SNAPSHOT_CREATE "java/lang/Enum" "ordinal" "I" (.int (8 : Int32)) ∧ Fld Z Z.heap w_NIC_ATTACH "java/lang/Enum" "ordinal" "I" (.int (10 : Int32)) ∧ Fld Z Z.heap w_SNAPSHOT_DELETE "java/lang/Enum" "ordinal" "I" (.int (9 : Int32)) ∧ Fld Z Z.heap w_DISK_ATTACH "java/lang/Enum" "ordinal" "I" (.int (6 : Int32)) ∧ Fld Z Z.heap w_SERVER_DELETE "java/lang/Enum" "ordinal" "I" (.int (5 : Int32))
theorem ne_w_SERVER_START_w_PLATFORM_DEPLOY {Z : State} {w_PLATFORM_DEPLOY : Addr} {w_SERVER_START : Addr} {w_PLATFORM_DELETE : Addr} {w_SERVER_DEPLOY : Addr} {w_DISK_DETACH : Addr} {w_NIC_DETACH : Addr} {w_SERVER_STOP : Addr} {w_SNAPSHOT_CREATE : Addr} {w_NIC_ATTACH : Addr} {w_SNAPSHOT_DELETE : Addr} {w_DISK_ATTACH : Addr} {w_SERVER_DELETE : Addr} (hp : Perm Z w_PLATFORM_DEPLOY w_SERVER_START w_PLATFORM_DELETE w_SERVER_DEPLOY w_DISK_DETACH w_NIC_DETACH w_SERVER_STOP w_SNAPSHOT_CREATE w_NIC_ATTACH w_SNAPSHOT_DELETE w_DISK_ATTACH w_SERVER_DELETE) : w_SERVER_START ≠ w_PLATFORM_DEPLOY := by
  obtain ⟨_, _, _, _, _, _, _, _, _, _, _, _, _, _, _, _, _, _, _, _, _, _, _, _, F_ordinal_w_SERVER_START, F_ordinal_w_PLATFORM_DEPLOY, _, _, _, _, _, _, _, _, _, _⟩ := hp
  exact Fld.ne F_ordinal_w_SERVER_START F_ordinal_w_PLATFORM_DEPLOY (by decide)
theorem ne_w_SERVER_START_w_PLATFORM_DELETE {Z : State} {w_PLATFORM_DEPLOY : Addr} {w_SERVER_START : Addr} {w_PLATFORM_DELETE : Addr} {w_SERVER_DEPLOY : Addr} {w_DISK_DETACH : Addr} {w_NIC_DETACH : Addr} {w_SERVER_STOP : Addr} {w_SNAPSHOT_CREATE : Addr} {w_NIC_ATTACH : Addr} {w_SNAPSHOT_DELETE : Addr} {w_DISK_ATTACH : Addr} {w_SERVER_DELETE : Addr} (hp : Perm Z w_PLATFORM_DEPLOY w_SERVER_START w_PLATFORM_DELETE w_SERVER_DEPLOY w_DISK_DETACH w_NIC_DETACH w_SERVER_STOP w_SNAPSHOT_CREATE w_NIC_ATTACH w_SNAPSHOT_DELETE w_DISK_ATTACH w_SERVER_DELETE) : w_SERVER_START ≠ w_PLATFORM_DELETE := by
  obtain ⟨_, _, _, _, _, _, _, _, _, _, _, _, _, _, _, _, _, _, _, _, _, _, _, _, F_ordinal_w_SERVER_START, _, F_ordinal_w_PLATFORM_DELETE, _, _, _, _, _, _, _, _, _⟩ := hp
  exact Fld.ne F_ordinal_w_SERVER_START F_ordinal_w_PLATFORM_DELETE (by decide)
theorem ne_w_SERVER_START_w_SERVER_DEPLOY {Z : State} {w_PLATFORM_DEPLOY : Addr} {w_SERVER_START : Addr} {w_PLATFORM_DELETE : Addr} {w_SERVER_DEPLOY : Addr} {w_DISK_DETACH : Addr} {w_NIC_DETACH : Addr} {w_SERVER_STOP : Addr} {w_SNAPSHOT_CREATE : Addr} {w_NIC_ATTACH : Addr} {w_SNAPSHOT_DELETE : Addr} {w_DISK_ATTACH : Addr} {w_SERVER_DELETE : Addr} (hp : Perm Z w_PLATFORM_DEPLOY w_SERVER_START w_PLATFORM_DELETE w_SERVER_DEPLOY w_DISK_DETACH w_NIC_DETACH w_SERVER_STOP w_SNAPSHOT_CREATE w_NIC_ATTACH w_SNAPSHOT_DELETE w_DISK_ATTACH w_SERVER_DELETE) : w_SERVER_START ≠ w_SERVER_DEPLOY := by
  obtain ⟨_, _, _, _, _, _, _, _, _, _, _, _, _, _, _, _, _, _, _, _, _, _, _, _, F_ordinal_w_SERVER_START, _, _, F_ordinal_w_SERVER_DEPLOY, _, _, _, _, _, _, _, _⟩ := hp
  exact Fld.ne F_ordinal_w_SERVER_START F_ordinal_w_SERVER_DEPLOY (by decide)
theorem ne_w_SERVER_START_w_DISK_DETACH {Z : State} {w_PLATFORM_DEPLOY : Addr} {w_SERVER_START : Addr} {w_PLATFORM_DELETE : Addr} {w_SERVER_DEPLOY : Addr} {w_DISK_DETACH : Addr} {w_NIC_DETACH : Addr} {w_SERVER_STOP : Addr} {w_SNAPSHOT_CREATE : Addr} {w_NIC_ATTACH : Addr} {w_SNAPSHOT_DELETE : Addr} {w_DISK_ATTACH : Addr} {w_SERVER_DELETE : Addr} (hp : Perm Z w_PLATFORM_DEPLOY w_SERVER_START w_PLATFORM_DELETE w_SERVER_DEPLOY w_DISK_DETACH w_NIC_DETACH w_SERVER_STOP w_SNAPSHOT_CREATE w_NIC_ATTACH w_SNAPSHOT_DELETE w_DISK_ATTACH w_SERVER_DELETE) : w_SERVER_START ≠ w_DISK_DETACH := by
  obtain ⟨_, _, _, _, _, _, _, _, _, _, _, _, _, _, _, _, _, _, _, _, _, _, _, _, F_ordinal_w_SERVER_START, _, _, _, F_ordinal_w_DISK_DETACH, _, _, _, _, _, _, _⟩ := hp
  exact Fld.ne F_ordinal_w_SERVER_START F_ordinal_w_DISK_DETACH (by decide)
theorem ne_w_SERVER_START_w_NIC_DETACH {Z : State} {w_PLATFORM_DEPLOY : Addr} {w_SERVER_START : Addr} {w_PLATFORM_DELETE : Addr} {w_SERVER_DEPLOY : Addr} {w_DISK_DETACH : Addr} {w_NIC_DETACH : Addr} {w_SERVER_STOP : Addr} {w_SNAPSHOT_CREATE : Addr} {w_NIC_ATTACH : Addr} {w_SNAPSHOT_DELETE : Addr} {w_DISK_ATTACH : Addr} {w_SERVER_DELETE : Addr} (hp : Perm Z w_PLATFORM_DEPLOY w_SERVER_START w_PLATFORM_DELETE w_SERVER_DEPLOY w_DISK_DETACH w_NIC_DETACH w_SERVER_STOP w_SNAPSHOT_CREATE w_NIC_ATTACH w_SNAPSHOT_DELETE w_DISK_ATTACH w_SERVER_DELETE) : w_SERVER_START ≠ w_NIC_DETACH := by
  obtain ⟨_, _, _, _, _, _, _, _, _, _, _, _, _, _, _, _, _, _, _, _, _, _, _, _, F_ordinal_w_SERVER_START, _, _, _, _, F_ordinal_w_NIC_DETACH, _, _, _, _, _, _⟩ := hp
  exact Fld.ne F_ordinal_w_SERVER_START F_ordinal_w_NIC_DETACH (by decide)
theorem ne_w_SERVER_START_w_SERVER_STOP {Z : State} {w_PLATFORM_DEPLOY : Addr} {w_SERVER_START : Addr} {w_PLATFORM_DELETE : Addr} {w_SERVER_DEPLOY : Addr} {w_DISK_DETACH : Addr} {w_NIC_DETACH : Addr} {w_SERVER_STOP : Addr} {w_SNAPSHOT_CREATE : Addr} {w_NIC_ATTACH : Addr} {w_SNAPSHOT_DELETE : Addr} {w_DISK_ATTACH : Addr} {w_SERVER_DELETE : Addr} (hp : Perm Z w_PLATFORM_DEPLOY w_SERVER_START w_PLATFORM_DELETE w_SERVER_DEPLOY w_DISK_DETACH w_NIC_DETACH w_SERVER_STOP w_SNAPSHOT_CREATE w_NIC_ATTACH w_SNAPSHOT_DELETE w_DISK_ATTACH w_SERVER_DELETE) : w_SERVER_START ≠ w_SERVER_STOP := by
  obtain ⟨_, _, _, _, _, _, _, _, _, _, _, _, _, _, _, _, _, _, _, _, _, _, _, _, F_ordinal_w_SERVER_START, _, _, _, _, _, F_ordinal_w_SERVER_STOP, _, _, _, _, _⟩ := hp
  exact Fld.ne F_ordinal_w_SERVER_START F_ordinal_w_SERVER_STOP (by decide)
theorem ne_w_SERVER_START_w_SNAPSHOT_CREATE {Z : State} {w_PLATFORM_DEPLOY : Addr} {w_SERVER_START : Addr} {w_PLATFORM_DELETE : Addr} {w_SERVER_DEPLOY : Addr} {w_DISK_DETACH : Addr} {w_NIC_DETACH : Addr} {w_SERVER_STOP : Addr} {w_SNAPSHOT_CREATE : Addr} {w_NIC_ATTACH : Addr} {w_SNAPSHOT_DELETE : Addr} {w_DISK_ATTACH : Addr} {w_SERVER_DELETE : Addr} (hp : Perm Z w_PLATFORM_DEPLOY w_SERVER_START w_PLATFORM_DELETE w_SERVER_DEPLOY w_DISK_DETACH w_NIC_DETACH w_SERVER_STOP w_SNAPSHOT_CREATE w_NIC_ATTACH w_SNAPSHOT_DELETE w_DISK_ATTACH w_SERVER_DELETE) : w_SERVER_START ≠ w_SNAPSHOT_CREATE := by
  obtain ⟨_, _, _, _, _, _, _, _, _, _, _, _, _, _, _, _, _, _, _, _, _, _, _, _, F_ordinal_w_SERVER_START, _, _, _, _, _, _, F_ordinal_w_SNAPSHOT_CREATE, _, _, _, _⟩ := hp
  exact Fld.ne F_ordinal_w_SERVER_START F_ordinal_w_SNAPSHOT_CREATE (by decide)
theorem ne_w_SERVER_START_w_NIC_ATTACH {Z : State} {w_PLATFORM_DEPLOY : Addr} {w_SERVER_START : Addr} {w_PLATFORM_DELETE : Addr} {w_SERVER_DEPLOY : Addr} {w_DISK_DETACH : Addr} {w_NIC_DETACH : Addr} {w_SERVER_STOP : Addr} {w_SNAPSHOT_CREATE : Addr} {w_NIC_ATTACH : Addr} {w_SNAPSHOT_DELETE : Addr} {w_DISK_ATTACH : Addr} {w_SERVER_DELETE : Addr} (hp : Perm Z w_PLATFORM_DEPLOY w_SERVER_START w_PLATFORM_DELETE w_SERVER_DEPLOY w_DISK_DETACH w_NIC_DETACH w_SERVER_STOP w_SNAPSHOT_CREATE w_NIC_ATTACH w_SNAPSHOT_DELETE w_DISK_ATTACH w_SERVER_DELETE) : w_SERVER_START ≠ w_NIC_ATTACH := by
  obtain ⟨_, _, _, _, _, _, _, _, _, _, _, _, _, _, _, _, _, _, _, _, _, _, _, _, F_ordinal_w_SERVER_START, _, _, _, _, _, _, _, F_ordinal_w_NIC_ATTACH, _, _, _⟩ := hp
  exact Fld.ne F_ordinal_w_SERVER_START F_ordinal_w_NIC_ATTACH (by decide)
theorem ne_w_SERVER_START_w_SNAPSHOT_DELETE {Z : State} {w_PLATFORM_DEPLOY : Addr} {w_SERVER_START : Addr} {w_PLATFORM_DELETE : Addr} {w_SERVER_DEPLOY : Addr} {w_DISK_DETACH : Addr} {w_NIC_DETACH : Addr} {w_SERVER_STOP : Addr} {w_SNAPSHOT_CREATE : Addr} {w_NIC_ATTACH : Addr} {w_SNAPSHOT_DELETE : Addr} {w_DISK_ATTACH : Addr} {w_SERVER_DELETE : Addr} (hp : Perm Z w_PLATFORM_DEPLOY w_SERVER_START w_PLATFORM_DELETE w_SERVER_DEPLOY w_DISK_DETACH w_NIC_DETACH w_SERVER_STOP w_SNAPSHOT_CREATE w_NIC_ATTACH w_SNAPSHOT_DELETE w_DISK_ATTACH w_SERVER_DELETE) : w_SERVER_START ≠ w_SNAPSHOT_DELETE := by
  obtain ⟨_, _, _, _, _, _, _, _, _, _, _, _, _, _, _, _, _, _, _, _, _, _, _, _, F_ordinal_w_SERVER_START, _, _, _, _, _, _, _, _, F_ordinal_w_SNAPSHOT_DELETE, _, _⟩ := hp
  exact Fld.ne F_ordinal_w_SERVER_START F_ordinal_w_SNAPSHOT_DELETE (by decide)
theorem ne_w_SERVER_START_w_DISK_ATTACH {Z : State} {w_PLATFORM_DEPLOY : Addr} {w_SERVER_START : Addr} {w_PLATFORM_DELETE : Addr} {w_SERVER_DEPLOY : Addr} {w_DISK_DETACH : Addr} {w_NIC_DETACH : Addr} {w_SERVER_STOP : Addr} {w_SNAPSHOT_CREATE : Addr} {w_NIC_ATTACH : Addr} {w_SNAPSHOT_DELETE : Addr} {w_DISK_ATTACH : Addr} {w_SERVER_DELETE : Addr} (hp : Perm Z w_PLATFORM_DEPLOY w_SERVER_START w_PLATFORM_DELETE w_SERVER_DEPLOY w_DISK_DETACH w_NIC_DETACH w_SERVER_STOP w_SNAPSHOT_CREATE w_NIC_ATTACH w_SNAPSHOT_DELETE w_DISK_ATTACH w_SERVER_DELETE) : w_SERVER_START ≠ w_DISK_ATTACH := by
  obtain ⟨_, _, _, _, _, _, _, _, _, _, _, _, _, _, _, _, _, _, _, _, _, _, _, _, F_ordinal_w_SERVER_START, _, _, _, _, _, _, _, _, _, F_ordinal_w_DISK_ATTACH, _⟩ := hp
  exact Fld.ne F_ordinal_w_SERVER_START F_ordinal_w_DISK_ATTACH (by decide)
theorem ne_w_SERVER_START_w_SERVER_DELETE {Z : State} {w_PLATFORM_DEPLOY : Addr} {w_SERVER_START : Addr} {w_PLATFORM_DELETE : Addr} {w_SERVER_DEPLOY : Addr} {w_DISK_DETACH : Addr} {w_NIC_DETACH : Addr} {w_SERVER_STOP : Addr} {w_SNAPSHOT_CREATE : Addr} {w_NIC_ATTACH : Addr} {w_SNAPSHOT_DELETE : Addr} {w_DISK_ATTACH : Addr} {w_SERVER_DELETE : Addr} (hp : Perm Z w_PLATFORM_DEPLOY w_SERVER_START w_PLATFORM_DELETE w_SERVER_DEPLOY w_DISK_DETACH w_NIC_DETACH w_SERVER_STOP w_SNAPSHOT_CREATE w_NIC_ATTACH w_SNAPSHOT_DELETE w_DISK_ATTACH w_SERVER_DELETE) : w_SERVER_START ≠ w_SERVER_DELETE := by
  obtain ⟨_, _, _, _, _, _, _, _, _, _, _, _, _, _, _, _, _, _, _, _, _, _, _, _, F_ordinal_w_SERVER_START, _, _, _, _, _, _, _, _, _, _, F_ordinal_w_SERVER_DELETE⟩ := hp
  exact Fld.ne F_ordinal_w_SERVER_START F_ordinal_w_SERVER_DELETE (by decide)
theorem ne_w_PLATFORM_DEPLOY_w_PLATFORM_DELETE {Z : State} {w_PLATFORM_DEPLOY : Addr} {w_SERVER_START : Addr} {w_PLATFORM_DELETE : Addr} {w_SERVER_DEPLOY : Addr} {w_DISK_DETACH : Addr} {w_NIC_DETACH : Addr} {w_SERVER_STOP : Addr} {w_SNAPSHOT_CREATE : Addr} {w_NIC_ATTACH : Addr} {w_SNAPSHOT_DELETE : Addr} {w_DISK_ATTACH : Addr} {w_SERVER_DELETE : Addr} (hp : Perm Z w_PLATFORM_DEPLOY w_SERVER_START w_PLATFORM_DELETE w_SERVER_DEPLOY w_DISK_DETACH w_NIC_DETACH w_SERVER_STOP w_SNAPSHOT_CREATE w_NIC_ATTACH w_SNAPSHOT_DELETE w_DISK_ATTACH w_SERVER_DELETE) : w_PLATFORM_DEPLOY ≠ w_PLATFORM_DELETE := by
  obtain ⟨_, _, _, _, _, _, _, _, _, _, _, _, _, _, _, _, _, _, _, _, _, _, _, _, _, F_ordinal_w_PLATFORM_DEPLOY, F_ordinal_w_PLATFORM_DELETE, _, _, _, _, _, _, _, _, _⟩ := hp
  exact Fld.ne F_ordinal_w_PLATFORM_DEPLOY F_ordinal_w_PLATFORM_DELETE (by decide)
theorem ne_w_PLATFORM_DEPLOY_w_SERVER_DEPLOY {Z : State} {w_PLATFORM_DEPLOY : Addr} {w_SERVER_START : Addr} {w_PLATFORM_DELETE : Addr} {w_SERVER_DEPLOY : Addr} {w_DISK_DETACH : Addr} {w_NIC_DETACH : Addr} {w_SERVER_STOP : Addr} {w_SNAPSHOT_CREATE : Addr} {w_NIC_ATTACH : Addr} {w_SNAPSHOT_DELETE : Addr} {w_DISK_ATTACH : Addr} {w_SERVER_DELETE : Addr} (hp : Perm Z w_PLATFORM_DEPLOY w_SERVER_START w_PLATFORM_DELETE w_SERVER_DEPLOY w_DISK_DETACH w_NIC_DETACH w_SERVER_STOP w_SNAPSHOT_CREATE w_NIC_ATTACH w_SNAPSHOT_DELETE w_DISK_ATTACH w_SERVER_DELETE) : w_PLATFORM_DEPLOY ≠ w_SERVER_DEPLOY := by
  obtain ⟨_, _, _, _, _, _, _, _, _, _, _, _, _, _, _, _, _, _, _, _, _, _, _, _, _, F_ordinal_w_PLATFORM_DEPLOY, _, F_ordinal_w_SERVER_DEPLOY, _, _, _, _, _, _, _, _⟩ := hp
  exact Fld.ne F_ordinal_w_PLATFORM_DEPLOY F_ordinal_w_SERVER_DEPLOY (by decide)
theorem ne_w_PLATFORM_DEPLOY_w_DISK_DETACH {Z : State} {w_PLATFORM_DEPLOY : Addr} {w_SERVER_START : Addr} {w_PLATFORM_DELETE : Addr} {w_SERVER_DEPLOY : Addr} {w_DISK_DETACH : Addr} {w_NIC_DETACH : Addr} {w_SERVER_STOP : Addr} {w_SNAPSHOT_CREATE : Addr} {w_NIC_ATTACH : Addr} {w_SNAPSHOT_DELETE : Addr} {w_DISK_ATTACH : Addr} {w_SERVER_DELETE : Addr} (hp : Perm Z w_PLATFORM_DEPLOY w_SERVER_START w_PLATFORM_DELETE w_SERVER_DEPLOY w_DISK_DETACH w_NIC_DETACH w_SERVER_STOP w_SNAPSHOT_CREATE w_NIC_ATTACH w_SNAPSHOT_DELETE w_DISK_ATTACH w_SERVER_DELETE) : w_PLATFORM_DEPLOY ≠ w_DISK_DETACH := by
  obtain ⟨_, _, _, _, _, _, _, _, _, _, _, _, _, _, _, _, _, _, _, _, _, _, _, _, _, F_ordinal_w_PLATFORM_DEPLOY, _, _, F_ordinal_w_DISK_DETACH, _, _, _, _, _, _, _⟩ := hp
  exact Fld.ne F_ordinal_w_PLATFORM_DEPLOY F_ordinal_w_DISK_DETACH (by decide)
theorem ne_w_PLATFORM_DEPLOY_w_NIC_DETACH {Z : State} {w_PLATFORM_DEPLOY : Addr} {w_SERVER_START : Addr} {w_PLATFORM_DELETE : Addr} {w_SERVER_DEPLOY : Addr} {w_DISK_DETACH : Addr} {w_NIC_DETACH : Addr} {w_SERVER_STOP : Addr} {w_SNAPSHOT_CREATE : Addr} {w_NIC_ATTACH : Addr} {w_SNAPSHOT_DELETE : Addr} {w_DISK_ATTACH : Addr} {w_SERVER_DELETE : Addr} (hp : Perm Z w_PLATFORM_DEPLOY w_SERVER_START w_PLATFORM_DELETE w_SERVER_DEPLOY w_DISK_DETACH w_NIC_DETACH w_SERVER_STOP w_SNAPSHOT_CREATE w_NIC_ATTACH w_SNAPSHOT_DELETE w_DISK_ATTACH w_SERVER_DELETE) : w_PLATFORM_DEPLOY ≠ w_NIC_DETACH := by
  obtain ⟨_, _, _, _, _, _, _, _, _, _, _, _, _, _, _, _, _, _, _, _, _, _, _, _, _, F_ordinal_w_PLATFORM_DEPLOY, _, _, _, F_ordinal_w_NIC_DETACH, _, _, _, _, _, _⟩ := hp
  exact Fld.ne F_ordinal_w_PLATFORM_DEPLOY F_ordinal_w_NIC_DETACH (by decide)
theorem ne_w_PLATFORM_DEPLOY_w_SERVER_STOP {Z : State} {w_PLATFORM_DEPLOY : Addr} {w_SERVER_START : Addr} {w_PLATFORM_DELETE : Addr} {w_SERVER_DEPLOY : Addr} {w_DISK_DETACH : Addr} {w_NIC_DETACH : Addr} {w_SERVER_STOP : Addr} {w_SNAPSHOT_CREATE : Addr} {w_NIC_ATTACH : Addr} {w_SNAPSHOT_DELETE : Addr} {w_DISK_ATTACH : Addr} {w_SERVER_DELETE : Addr} (hp : Perm Z w_PLATFORM_DEPLOY w_SERVER_START w_PLATFORM_DELETE w_SERVER_DEPLOY w_DISK_DETACH w_NIC_DETACH w_SERVER_STOP w_SNAPSHOT_CREATE w_NIC_ATTACH w_SNAPSHOT_DELETE w_DISK_ATTACH w_SERVER_DELETE) : w_PLATFORM_DEPLOY ≠ w_SERVER_STOP := by
  obtain ⟨_, _, _, _, _, _, _, _, _, _, _, _, _, _, _, _, _, _, _, _, _, _, _, _, _, F_ordinal_w_PLATFORM_DEPLOY, _, _, _, _, F_ordinal_w_SERVER_STOP, _, _, _, _, _⟩ := hp
  exact Fld.ne F_ordinal_w_PLATFORM_DEPLOY F_ordinal_w_SERVER_STOP (by decide)
theorem ne_w_PLATFORM_DEPLOY_w_SNAPSHOT_CREATE {Z : State} {w_PLATFORM_DEPLOY : Addr} {w_SERVER_START : Addr} {w_PLATFORM_DELETE : Addr} {w_SERVER_DEPLOY : Addr} {w_DISK_DETACH : Addr} {w_NIC_DETACH : Addr} {w_SERVER_STOP : Addr} {w_SNAPSHOT_CREATE : Addr} {w_NIC_ATTACH : Addr} {w_SNAPSHOT_DELETE : Addr} {w_DISK_ATTACH : Addr} {w_SERVER_DELETE : Addr} (hp : Perm Z w_PLATFORM_DEPLOY w_SERVER_START w_PLATFORM_DELETE w_SERVER_DEPLOY w_DISK_DETACH w_NIC_DETACH w_SERVER_STOP w_SNAPSHOT_CREATE w_NIC_ATTACH w_SNAPSHOT_DELETE w_DISK_ATTACH w_SERVER_DELETE) : w_PLATFORM_DEPLOY ≠ w_SNAPSHOT_CREATE := by
  obtain ⟨_, _, _, _, _, _, _, _, _, _, _, _, _, _, _, _, _, _, _, _, _, _, _, _, _, F_ordinal_w_PLATFORM_DEPLOY, _, _, _, _, _, F_ordinal_w_SNAPSHOT_CREATE, _, _, _, _⟩ := hp
  exact Fld.ne F_ordinal_w_PLATFORM_DEPLOY F_ordinal_w_SNAPSHOT_CREATE (by decide)
theorem ne_w_PLATFORM_DEPLOY_w_NIC_ATTACH {Z : State} {w_PLATFORM_DEPLOY : Addr} {w_SERVER_START : Addr} {w_PLATFORM_DELETE : Addr} {w_SERVER_DEPLOY : Addr} {w_DISK_DETACH : Addr} {w_NIC_DETACH : Addr} {w_SERVER_STOP : Addr} {w_SNAPSHOT_CREATE : Addr} {w_NIC_ATTACH : Addr} {w_SNAPSHOT_DELETE : Addr} {w_DISK_ATTACH : Addr} {w_SERVER_DELETE : Addr} (hp : Perm Z w_PLATFORM_DEPLOY w_SERVER_START w_PLATFORM_DELETE w_SERVER_DEPLOY w_DISK_DETACH w_NIC_DETACH w_SERVER_STOP w_SNAPSHOT_CREATE w_NIC_ATTACH w_SNAPSHOT_DELETE w_DISK_ATTACH w_SERVER_DELETE) : w_PLATFORM_DEPLOY ≠ w_NIC_ATTACH := by
  obtain ⟨_, _, _, _, _, _, _, _, _, _, _, _, _, _, _, _, _, _, _, _, _, _, _, _, _, F_ordinal_w_PLATFORM_DEPLOY, _, _, _, _, _, _, F_ordinal_w_NIC_ATTACH, _, _, _⟩ := hp
  exact Fld.ne F_ordinal_w_PLATFORM_DEPLOY F_ordinal_w_NIC_ATTACH (by decide)
theorem ne_w_PLATFORM_DEPLOY_w_SNAPSHOT_DELETE {Z : State} {w_PLATFORM_DEPLOY : Addr} {w_SERVER_START : Addr} {w_PLATFORM_DELETE : Addr} {w_SERVER_DEPLOY : Addr} {w_DISK_DETACH : Addr} {w_NIC_DETACH : Addr} {w_SERVER_STOP : Addr} {w_SNAPSHOT_CREATE : Addr} {w_NIC_ATTACH : Addr} {w_SNAPSHOT_DELETE : Addr} {w_DISK_ATTACH : Addr} {w_SERVER_DELETE : Addr} (hp : Perm Z w_PLATFORM_DEPLOY w_SERVER_START w_PLATFORM_DELETE w_SERVER_DEPLOY w_DISK_DETACH w_NIC_DETACH w_SERVER_STOP w_SNAPSHOT_CREATE w_NIC_ATTACH w_SNAPSHOT_DELETE w_DISK_ATTACH w_SERVER_DELETE) : w_PLATFORM_DEPLOY ≠ w_SNAPSHOT_DELETE := by
  obtain ⟨_, _, _, _, _, _, _, _, _, _, _, _, _, _, _, _, _, _, _, _, _, _, _, _, _, F_ordinal_w_PLATFORM_DEPLOY, _, _, _, _, _, _, _, F_ordinal_w_SNAPSHOT_DELETE, _, _⟩ := hp
  exact Fld.ne F_ordinal_w_PLATFORM_DEPLOY F_ordinal_w_SNAPSHOT_DELETE (by decide)
theorem ne_w_PLATFORM_DEPLOY_w_DISK_ATTACH {Z : State} {w_PLATFORM_DEPLOY : Addr} {w_SERVER_START : Addr} {w_PLATFORM_DELETE : Addr} {w_SERVER_DEPLOY : Addr} {w_DISK_DETACH : Addr} {w_NIC_DETACH : Addr} {w_SERVER_STOP : Addr} {w_SNAPSHOT_CREATE : Addr} {w_NIC_ATTACH : Addr} {w_SNAPSHOT_DELETE : Addr} {w_DISK_ATTACH : Addr} {w_SERVER_DELETE : Addr} (hp : Perm Z w_PLATFORM_DEPLOY w_SERVER_START w_PLATFORM_DELETE w_SERVER_DEPLOY w_DISK_DETACH w_NIC_DETACH w_SERVER_STOP w_SNAPSHOT_CREATE w_NIC_ATTACH w_SNAPSHOT_DELETE w_DISK_ATTACH w_SERVER_DELETE) : w_PLATFORM_DEPLOY ≠ w_DISK_ATTACH := by
  obtain ⟨_, _, _, _, _, _, _, _, _, _, _, _, _, _, _, _, _, _, _, _, _, _, _, _, _, F_ordinal_w_PLATFORM_DEPLOY, _, _, _, _, _, _, _, _, F_ordinal_w_DISK_ATTACH, _⟩ := hp
  exact Fld.ne F_ordinal_w_PLATFORM_DEPLOY F_ordinal_w_DISK_ATTACH (by decide)
theorem ne_w_PLATFORM_DEPLOY_w_SERVER_DELETE {Z : State} {w_PLATFORM_DEPLOY : Addr} {w_SERVER_START : Addr} {w_PLATFORM_DELETE : Addr} {w_SERVER_DEPLOY : Addr} {w_DISK_DETACH : Addr} {w_NIC_DETACH : Addr} {w_SERVER_STOP : Addr} {w_SNAPSHOT_CREATE : Addr} {w_NIC_ATTACH : Addr} {w_SNAPSHOT_DELETE : Addr} {w_DISK_ATTACH : Addr} {w_SERVER_DELETE : Addr} (hp : Perm Z w_PLATFORM_DEPLOY w_SERVER_START w_PLATFORM_DELETE w_SERVER_DEPLOY w_DISK_DETACH w_NIC_DETACH w_SERVER_STOP w_SNAPSHOT_CREATE w_NIC_ATTACH w_SNAPSHOT_DELETE w_DISK_ATTACH w_SERVER_DELETE) : w_PLATFORM_DEPLOY ≠ w_SERVER_DELETE := by
  obtain ⟨_, _, _, _, _, _, _, _, _, _, _, _, _, _, _, _, _, _, _, _, _, _, _, _, _, F_ordinal_w_PLATFORM_DEPLOY, _, _, _, _, _, _, _, _, _, F_ordinal_w_SERVER_DELETE⟩ := hp
  exact Fld.ne F_ordinal_w_PLATFORM_DEPLOY F_ordinal_w_SERVER_DELETE (by decide)
theorem ne_w_PLATFORM_DELETE_w_SERVER_DEPLOY {Z : State} {w_PLATFORM_DEPLOY : Addr} {w_SERVER_START : Addr} {w_PLATFORM_DELETE : Addr} {w_SERVER_DEPLOY : Addr} {w_DISK_DETACH : Addr} {w_NIC_DETACH : Addr} {w_SERVER_STOP : Addr} {w_SNAPSHOT_CREATE : Addr} {w_NIC_ATTACH : Addr} {w_SNAPSHOT_DELETE : Addr} {w_DISK_ATTACH : Addr} {w_SERVER_DELETE : Addr} (hp : Perm Z w_PLATFORM_DEPLOY w_SERVER_START w_PLATFORM_DELETE w_SERVER_DEPLOY w_DISK_DETACH w_NIC_DETACH w_SERVER_STOP w_SNAPSHOT_CREATE w_NIC_ATTACH w_SNAPSHOT_DELETE w_DISK_ATTACH w_SERVER_DELETE) : w_PLATFORM_DELETE ≠ w_SERVER_DEPLOY := by
  obtain ⟨_, _, _, _, _, _, _, _, _, _, _, _, _, _, _, _, _, _, _, _, _, _, _, _, _, _, F_ordinal_w_PLATFORM_DELETE, F_ordinal_w_SERVER_DEPLOY, _, _, _, _, _, _, _, _⟩ := hp
  exact Fld.ne F_ordinal_w_PLATFORM_DELETE F_ordinal_w_SERVER_DEPLOY (by decide)
theorem ne_w_PLATFORM_DELETE_w_DISK_DETACH {Z : State} {w_PLATFORM_DEPLOY : Addr} {w_SERVER_START : Addr} {w_PLATFORM_DELETE : Addr} {w_SERVER_DEPLOY : Addr} {w_DISK_DETACH : Addr} {w_NIC_DETACH : Addr} {w_SERVER_STOP : Addr} {w_SNAPSHOT_CREATE : Addr} {w_NIC_ATTACH : Addr} {w_SNAPSHOT_DELETE : Addr} {w_DISK_ATTACH : Addr} {w_SERVER_DELETE : Addr} (hp : Perm Z w_PLATFORM_DEPLOY w_SERVER_START w_PLATFORM_DELETE w_SERVER_DEPLOY w_DISK_DETACH w_NIC_DETACH w_SERVER_STOP w_SNAPSHOT_CREATE w_NIC_ATTACH w_SNAPSHOT_DELETE w_DISK_ATTACH w_SERVER_DELETE) : w_PLATFORM_DELETE ≠ w_DISK_DETACH := by
  obtain ⟨_, _, _, _, _, _, _, _, _, _, _, _, _, _, _, _, _, _, _, _, _, _, _, _, _, _, F_ordinal_w_PLATFORM_DELETE, _, F_ordinal_w_DISK_DETACH, _, _, _, _, _, _, _⟩ := hp
  exact Fld.ne F_ordinal_w_PLATFORM_DELETE F_ordinal_w_DISK_DETACH (by decide)
theorem ne_w_PLATFORM_DELETE_w_NIC_DETACH {Z : State} {w_PLATFORM_DEPLOY : Addr} {w_SERVER_START : Addr} {w_PLATFORM_DELETE : Addr} {w_SERVER_DEPLOY : Addr} {w_DISK_DETACH : Addr} {w_NIC_DETACH : Addr} {w_SERVER_STOP : Addr} {w_SNAPSHOT_CREATE : Addr} {w_NIC_ATTACH : Addr} {w_SNAPSHOT_DELETE : Addr} {w_DISK_ATTACH : Addr} {w_SERVER_DELETE : Addr} (hp : Perm Z w_PLATFORM_DEPLOY w_SERVER_START w_PLATFORM_DELETE w_SERVER_DEPLOY w_DISK_DETACH w_NIC_DETACH w_SERVER_STOP w_SNAPSHOT_CREATE w_NIC_ATTACH w_SNAPSHOT_DELETE w_DISK_ATTACH w_SERVER_DELETE) : w_PLATFORM_DELETE ≠ w_NIC_DETACH := by
  obtain ⟨_, _, _, _, _, _, _, _, _, _, _, _, _, _, _, _, _, _, _, _, _, _, _, _, _, _, F_ordinal_w_PLATFORM_DELETE, _, _, F_ordinal_w_NIC_DETACH, _, _, _, _, _, _⟩ := hp
  exact Fld.ne F_ordinal_w_PLATFORM_DELETE F_ordinal_w_NIC_DETACH (by decide)
theorem ne_w_PLATFORM_DELETE_w_SERVER_STOP {Z : State} {w_PLATFORM_DEPLOY : Addr} {w_SERVER_START : Addr} {w_PLATFORM_DELETE : Addr} {w_SERVER_DEPLOY : Addr} {w_DISK_DETACH : Addr} {w_NIC_DETACH : Addr} {w_SERVER_STOP : Addr} {w_SNAPSHOT_CREATE : Addr} {w_NIC_ATTACH : Addr} {w_SNAPSHOT_DELETE : Addr} {w_DISK_ATTACH : Addr} {w_SERVER_DELETE : Addr} (hp : Perm Z w_PLATFORM_DEPLOY w_SERVER_START w_PLATFORM_DELETE w_SERVER_DEPLOY w_DISK_DETACH w_NIC_DETACH w_SERVER_STOP w_SNAPSHOT_CREATE w_NIC_ATTACH w_SNAPSHOT_DELETE w_DISK_ATTACH w_SERVER_DELETE) : w_PLATFORM_DELETE ≠ w_SERVER_STOP := by
  obtain ⟨_, _, _, _, _, _, _, _, _, _, _, _, _, _, _, _, _, _, _, _, _, _, _, _, _, _, F_ordinal_w_PLATFORM_DELETE, _, _, _, F_ordinal_w_SERVER_STOP, _, _, _, _, _⟩ := hp
  exact Fld.ne F_ordinal_w_PLATFORM_DELETE F_ordinal_w_SERVER_STOP (by decide)
theorem ne_w_PLATFORM_DELETE_w_SNAPSHOT_CREATE {Z : State} {w_PLATFORM_DEPLOY : Addr} {w_SERVER_START : Addr} {w_PLATFORM_DELETE : Addr} {w_SERVER_DEPLOY : Addr} {w_DISK_DETACH : Addr} {w_NIC_DETACH : Addr} {w_SERVER_STOP : Addr} {w_SNAPSHOT_CREATE : Addr} {w_NIC_ATTACH : Addr} {w_SNAPSHOT_DELETE : Addr} {w_DISK_ATTACH : Addr} {w_SERVER_DELETE : Addr} (hp : Perm Z w_PLATFORM_DEPLOY w_SERVER_START w_PLATFORM_DELETE w_SERVER_DEPLOY w_DISK_DETACH w_NIC_DETACH w_SERVER_STOP w_SNAPSHOT_CREATE w_NIC_ATTACH w_SNAPSHOT_DELETE w_DISK_ATTACH w_SERVER_DELETE) : w_PLATFORM_DELETE ≠ w_SNAPSHOT_CREATE := by
  obtain ⟨_, _, _, _, _, _, _, _, _, _, _, _, _, _, _, _, _, _, _, _, _, _, _, _, _, _, F_ordinal_w_PLATFORM_DELETE, _, _, _, _, F_ordinal_w_SNAPSHOT_CREATE, _, _, _, _⟩ := hp
  exact Fld.ne F_ordinal_w_PLATFORM_DELETE F_ordinal_w_SNAPSHOT_CREATE (by decide)
theorem ne_w_PLATFORM_DELETE_w_NIC_ATTACH {Z : State} {w_PLATFORM_DEPLOY : Addr} {w_SERVER_START : Addr} {w_PLATFORM_DELETE : Addr} {w_SERVER_DEPLOY : Addr} {w_DISK_DETACH : Addr} {w_NIC_DETACH : Addr} {w_SERVER_STOP : Addr} {w_SNAPSHOT_CREATE : Addr} {w_NIC_ATTACH : Addr} {w_SNAPSHOT_DELETE : Addr} {w_DISK_ATTACH : Addr} {w_SERVER_DELETE : Addr} (hp : Perm Z w_PLATFORM_DEPLOY w_SERVER_START w_PLATFORM_DELETE w_SERVER_DEPLOY w_DISK_DETACH w_NIC_DETACH w_SERVER_STOP w_SNAPSHOT_CREATE w_NIC_ATTACH w_SNAPSHOT_DELETE w_DISK_ATTACH w_SERVER_DELETE) : w_PLATFORM_DELETE ≠ w_NIC_ATTACH := by
  obtain ⟨_, _, _, _, _, _, _, _, _, _, _, _, _, _, _, _, _, _, _, _, _, _, _, _, _, _, F_ordinal_w_PLATFORM_DELETE, _, _, _, _, _, F_ordinal_w_NIC_ATTACH, _, _, _⟩ := hp
  exact Fld.ne F_ordinal_w_PLATFORM_DELETE F_ordinal_w_NIC_ATTACH (by decide)
theorem ne_w_PLATFORM_DELETE_w_SNAPSHOT_DELETE {Z : State} {w_PLATFORM_DEPLOY : Addr} {w_SERVER_START : Addr} {w_PLATFORM_DELETE : Addr} {w_SERVER_DEPLOY : Addr} {w_DISK_DETACH : Addr} {w_NIC_DETACH : Addr} {w_SERVER_STOP : Addr} {w_SNAPSHOT_CREATE : Addr} {w_NIC_ATTACH : Addr} {w_SNAPSHOT_DELETE : Addr} {w_DISK_ATTACH : Addr} {w_SERVER_DELETE : Addr} (hp : Perm Z w_PLATFORM_DEPLOY w_SERVER_START w_PLATFORM_DELETE w_SERVER_DEPLOY w_DISK_DETACH w_NIC_DETACH w_SERVER_STOP w_SNAPSHOT_CREATE w_NIC_ATTACH w_SNAPSHOT_DELETE w_DISK_ATTACH w_SERVER_DELETE) : w_PLATFORM_DELETE ≠ w_SNAPSHOT_DELETE := by
  obtain ⟨_, _, _, _, _, _, _, _, _, _, _, _, _, _, _, _, _, _, _, _, _, _, _, _, _, _, F_ordinal_w_PLATFORM_DELETE, _, _, _, _, _, _, F_ordinal_w_SNAPSHOT_DELETE, _, _⟩ := hp
  exact Fld.ne F_ordinal_w_PLATFORM_DELETE F_ordinal_w_SNAPSHOT_DELETE (by decide)
theorem ne_w_PLATFORM_DELETE_w_DISK_ATTACH {Z : State} {w_PLATFORM_DEPLOY : Addr} {w_SERVER_START : Addr} {w_PLATFORM_DELETE : Addr} {w_SERVER_DEPLOY : Addr} {w_DISK_DETACH : Addr} {w_NIC_DETACH : Addr} {w_SERVER_STOP : Addr} {w_SNAPSHOT_CREATE : Addr} {w_NIC_ATTACH : Addr} {w_SNAPSHOT_DELETE : Addr} {w_DISK_ATTACH : Addr} {w_SERVER_DELETE : Addr} (hp : Perm Z w_PLATFORM_DEPLOY w_SERVER_START w_PLATFORM_DELETE w_SERVER_DEPLOY w_DISK_DETACH w_NIC_DETACH w_SERVER_STOP w_SNAPSHOT_CREATE w_NIC_ATTACH w_SNAPSHOT_DELETE w_DISK_ATTACH w_SERVER_DELETE) : w_PLATFORM_DELETE ≠ w_DISK_ATTACH := by
  obtain ⟨_, _, _, _, _, _, _, _, _, _, _, _, _, _, _, _, _, _, _, _, _, _, _, _, _, _, F_ordinal_w_PLATFORM_DELETE, _, _, _, _, _, _, _, F_ordinal_w_DISK_ATTACH, _⟩ := hp
  exact Fld.ne F_ordinal_w_PLATFORM_DELETE F_ordinal_w_DISK_ATTACH (by decide)
theorem ne_w_PLATFORM_DELETE_w_SERVER_DELETE {Z : State} {w_PLATFORM_DEPLOY : Addr} {w_SERVER_START : Addr} {w_PLATFORM_DELETE : Addr} {w_SERVER_DEPLOY : Addr} {w_DISK_DETACH : Addr} {w_NIC_DETACH : Addr} {w_SERVER_STOP : Addr} {w_SNAPSHOT_CREATE : Addr} {w_NIC_ATTACH : Addr} {w_SNAPSHOT_DELETE : Addr} {w_DISK_ATTACH : Addr} {w_SERVER_DELETE : Addr} (hp : Perm Z w_PLATFORM_DEPLOY w_SERVER_START w_PLATFORM_DELETE w_SERVER_DEPLOY w_DISK_DETACH w_NIC_DETACH w_SERVER_STOP w_SNAPSHOT_CREATE w_NIC_ATTACH w_SNAPSHOT_DELETE w_DISK_ATTACH w_SERVER_DELETE) : w_PLATFORM_DELETE ≠ w_SERVER_DELETE := by
  obtain ⟨_, _, _, _, _, _, _, _, _, _, _, _, _, _, _, _, _, _, _, _, _, _, _, _, _, _, F_ordinal_w_PLATFORM_DELETE, _, _, _, _, _, _, _, _, F_ordinal_w_SERVER_DELETE⟩ := hp
  exact Fld.ne F_ordinal_w_PLATFORM_DELETE F_ordinal_w_SERVER_DELETE (by decide)
theorem ne_w_SERVER_DEPLOY_w_DISK_DETACH {Z : State} {w_PLATFORM_DEPLOY : Addr} {w_SERVER_START : Addr} {w_PLATFORM_DELETE : Addr} {w_SERVER_DEPLOY : Addr} {w_DISK_DETACH : Addr} {w_NIC_DETACH : Addr} {w_SERVER_STOP : Addr} {w_SNAPSHOT_CREATE : Addr} {w_NIC_ATTACH : Addr} {w_SNAPSHOT_DELETE : Addr} {w_DISK_ATTACH : Addr} {w_SERVER_DELETE : Addr} (hp : Perm Z w_PLATFORM_DEPLOY w_SERVER_START w_PLATFORM_DELETE w_SERVER_DEPLOY w_DISK_DETACH w_NIC_DETACH w_SERVER_STOP w_SNAPSHOT_CREATE w_NIC_ATTACH w_SNAPSHOT_DELETE w_DISK_ATTACH w_SERVER_DELETE) : w_SERVER_DEPLOY ≠ w_DISK_DETACH := by
  obtain ⟨_, _, _, _, _, _, _, _, _, _, _, _, _, _, _, _, _, _, _, _, _, _, _, _, _, _, _, F_ordinal_w_SERVER_DEPLOY, F_ordinal_w_DISK_DETACH, _, _, _, _, _, _, _⟩ := hp
  exact Fld.ne F_ordinal_w_SERVER_DEPLOY F_ordinal_w_DISK_DETACH (by decide)
theorem ne_w_SERVER_DEPLOY_w_NIC_DETACH {Z : State} {w_PLATFORM_DEPLOY : Addr} {w_SERVER_START : Addr} {w_PLATFORM_DELETE : Addr} {w_SERVER_DEPLOY : Addr} {w_DISK_DETACH : Addr} {w_NIC_DETACH : Addr} {w_SERVER_STOP : Addr} {w_SNAPSHOT_CREATE : Addr} {w_NIC_ATTACH : Addr} {w_SNAPSHOT_DELETE : Addr} {w_DISK_ATTACH : Addr} {w_SERVER_DELETE : Addr} (hp : Perm Z w_PLATFORM_DEPLOY w_SERVER_START w_PLATFORM_DELETE w_SERVER_DEPLOY w_DISK_DETACH w_NIC_DETACH w_SERVER_STOP w_SNAPSHOT_CREATE w_NIC_ATTACH w_SNAPSHOT_DELETE w_DISK_ATTACH w_SERVER_DELETE) : w_SERVER_DEPLOY ≠ w_NIC_DETACH := by
  obtain ⟨_, _, _, _, _, _, _, _, _, _, _, _, _, _, _, _, _, _, _, _, _, _, _, _, _, _, _, F_ordinal_w_SERVER_DEPLOY, _, F_ordinal_w_NIC_DETACH, _, _, _, _, _, _⟩ := hp
  exact Fld.ne F_ordinal_w_SERVER_DEPLOY F_ordinal_w_NIC_DETACH (by decide)
theorem ne_w_SERVER_DEPLOY_w_SERVER_STOP {Z : State} {w_PLATFORM_DEPLOY : Addr} {w_SERVER_START : Addr} {w_PLATFORM_DELETE : Addr} {w_SERVER_DEPLOY : Addr} {w_DISK_DETACH : Addr} {w_NIC_DETACH : Addr} {w_SERVER_STOP : Addr} {w_SNAPSHOT_CREATE : Addr} {w_NIC_ATTACH : Addr} {w_SNAPSHOT_DELETE : Addr} {w_DISK_ATTACH : Addr} {w_SERVER_DELETE : Addr} (hp : Perm Z w_PLATFORM_DEPLOY w_SERVER_START w_PLATFORM_DELETE w_SERVER_DEPLOY w_DISK_DETACH w_NIC_DETACH w_SERVER_STOP w_SNAPSHOT_CREATE w_NIC_ATTACH w_SNAPSHOT_DELETE w_DISK_ATTACH w_SERVER_DELETE) : w_SERVER_DEPLOY ≠ w_SERVER_STOP := by
  obtain ⟨_, _, _, _, _, _, _, _, _, _, _, _, _, _, _, _, _, _, _, _, _, _, _, _, _, _, _, F_ordinal_w_SERVER_DEPLOY, _, _, F_ordinal_w_SERVER_STOP, _, _, _, _, _⟩ := hp
  exact Fld.ne F_ordinal_w_SERVER_DEPLOY F_ordinal_w_SERVER_STOP (by decide)
theorem ne_w_SERVER_DEPLOY_w_SNAPSHOT_CREATE {Z : State} {w_PLATFORM_DEPLOY : Addr} {w_SERVER_START : Addr} {w_PLATFORM_DELETE : Addr} {w_SERVER_DEPLOY : Addr} {w_DISK_DETACH : Addr} {w_NIC_DETACH : Addr} {w_SERVER_STOP : Addr} {w_SNAPSHOT_CREATE : Addr} {w_NIC_ATTACH : Addr} {w_SNAPSHOT_DELETE : Addr} {w_DISK_ATTACH : Addr} {w_SERVER_DELETE : Addr} (hp : Perm Z w_PLATFORM_DEPLOY w_SERVER_START w_PLATFORM_DELETE w_SERVER_DEPLOY w_DISK_DETACH w_NIC_DETACH w_SERVER_STOP w_SNAPSHOT_CREATE w_NIC_ATTACH w_SNAPSHOT_DELETE w_DISK_ATTACH w_SERVER_DELETE) : w_SERVER_DEPLOY ≠ w_SNAPSHOT_CREATE := by
  obtain ⟨_, _, _, _, _, _, _, _, _, _, _, _, _, _, _, _, _, _, _, _, _, _, _, _, _, _, _, F_ordinal_w_SERVER_DEPLOY, _, _, _, F_ordinal_w_SNAPSHOT_CREATE, _, _, _, _⟩ := hp
  exact Fld.ne F_ordinal_w_SERVER_DEPLOY F_ordinal_w_SNAPSHOT_CREATE (by decide)
theorem ne_w_SERVER_DEPLOY_w_NIC_ATTACH {Z : State} {w_PLATFORM_DEPLOY : Addr} {w_SERVER_START : Addr} {w_PLATFORM_DELETE : Addr} {w_SERVER_DEPLOY : Addr} {w_DISK_DETACH : Addr} {w_NIC_DETACH : Addr} {w_SERVER_STOP : Addr} {w_SNAPSHOT_CREATE : Addr} {w_NIC_ATTACH : Addr} {w_SNAPSHOT_DELETE : Addr} {w_DISK_ATTACH : Addr} {w_SERVER_DELETE : Addr} (hp : Perm Z w_PLATFORM_DEPLOY w_SERVER_START w_PLATFORM_DELETE w_SERVER_DEPLOY w_DISK_DETACH w_NIC_DETACH w_SERVER_STOP w_SNAPSHOT_CREATE w_NIC_ATTACH w_SNAPSHOT_DELETE w_DISK_ATTACH w_SERVER_DELETE) : w_SERVER_DEPLOY ≠ w_NIC_ATTACH := by
  obtain ⟨_, _, _, _, _, _, _, _, _, _, _, _, _, _, _, _, _, _, _, _, _, _, _, _, _, _, _, F_ordinal_w_SERVER_DEPLOY, _, _, _, _, F_ordinal_w_NIC_ATTACH, _, _, _⟩ := hp
  exact Fld.ne F_ordinal_w_SERVER_DEPLOY F_ordinal_w_NIC_ATTACH (by decide)
theorem ne_w_SERVER_DEPLOY_w_SNAPSHOT_DELETE {Z : State} {w_PLATFORM_DEPLOY : Addr} {w_SERVER_START : Addr} {w_PLATFORM_DELETE : Addr} {w_SERVER_DEPLOY : Addr} {w_DISK_DETACH : Addr} {w_NIC_DETACH : Addr} {w_SERVER_STOP : Addr} {w_SNAPSHOT_CREATE : Addr} {w_NIC_ATTACH : Addr} {w_SNAPSHOT_DELETE : Addr} {w_DISK_ATTACH : Addr} {w_SERVER_DELETE : Addr} (hp : Perm Z w_PLATFORM_DEPLOY w_SERVER_START w_PLATFORM_DELETE w_SERVER_DEPLOY w_DISK_DETACH w_NIC_DETACH w_SERVER_STOP w_SNAPSHOT_CREATE w_NIC_ATTACH w_SNAPSHOT_DELETE w_DISK_ATTACH w_SERVER_DELETE) : w_SERVER_DEPLOY ≠ w_SNAPSHOT_DELETE := by
  obtain ⟨_, _, _, _, _, _, _, _, _, _, _, _, _, _, _, _, _, _, _, _, _, _, _, _, _, _, _, F_ordinal_w_SERVER_DEPLOY, _, _, _, _, _, F_ordinal_w_SNAPSHOT_DELETE, _, _⟩ := hp
  exact Fld.ne F_ordinal_w_SERVER_DEPLOY F_ordinal_w_SNAPSHOT_DELETE (by decide)
theorem ne_w_SERVER_DEPLOY_w_DISK_ATTACH {Z : State} {w_PLATFORM_DEPLOY : Addr} {w_SERVER_START : Addr} {w_PLATFORM_DELETE : Addr} {w_SERVER_DEPLOY : Addr} {w_DISK_DETACH : Addr} {w_NIC_DETACH : Addr} {w_SERVER_STOP : Addr} {w_SNAPSHOT_CREATE : Addr} {w_NIC_ATTACH : Addr} {w_SNAPSHOT_DELETE : Addr} {w_DISK_ATTACH : Addr} {w_SERVER_DELETE : Addr} (hp : Perm Z w_PLATFORM_DEPLOY w_SERVER_START w_PLATFORM_DELETE w_SERVER_DEPLOY w_DISK_DETACH w_NIC_DETACH w_SERVER_STOP w_SNAPSHOT_CREATE w_NIC_ATTACH w_SNAPSHOT_DELETE w_DISK_ATTACH w_SERVER_DELETE) : w_SERVER_DEPLOY ≠ w_DISK_ATTACH := by
  obtain ⟨_, _, _, _, _, _, _, _, _, _, _, _, _, _, _, _, _, _, _, _, _, _, _, _, _, _, _, F_ordinal_w_SERVER_DEPLOY, _, _, _, _, _, _, F_ordinal_w_DISK_ATTACH, _⟩ := hp
  exact Fld.ne F_ordinal_w_SERVER_DEPLOY F_ordinal_w_DISK_ATTACH (by decide)
theorem ne_w_SERVER_DEPLOY_w_SERVER_DELETE {Z : State} {w_PLATFORM_DEPLOY : Addr} {w_SERVER_START : Addr} {w_PLATFORM_DELETE : Addr} {w_SERVER_DEPLOY : Addr} {w_DISK_DETACH : Addr} {w_NIC_DETACH : Addr} {w_SERVER_STOP : Addr} {w_SNAPSHOT_CREATE : Addr} {w_NIC_ATTACH : Addr} {w_SNAPSHOT_DELETE : Addr} {w_DISK_ATTACH : Addr} {w_SERVER_DELETE : Addr} (hp : Perm Z w_PLATFORM_DEPLOY w_SERVER_START w_PLATFORM_DELETE w_SERVER_DEPLOY w_DISK_DETACH w_NIC_DETACH w_SERVER_STOP w_SNAPSHOT_CREATE w_NIC_ATTACH w_SNAPSHOT_DELETE w_DISK_ATTACH w_SERVER_DELETE) : w_SERVER_DEPLOY ≠ w_SERVER_DELETE := by
  obtain ⟨_, _, _, _, _, _, _, _, _, _, _, _, _, _, _, _, _, _, _, _, _, _, _, _, _, _, _, F_ordinal_w_SERVER_DEPLOY, _, _, _, _, _, _, _, F_ordinal_w_SERVER_DELETE⟩ := hp
  exact Fld.ne F_ordinal_w_SERVER_DEPLOY F_ordinal_w_SERVER_DELETE (by decide)
theorem ne_w_DISK_DETACH_w_NIC_DETACH {Z : State} {w_PLATFORM_DEPLOY : Addr} {w_SERVER_START : Addr} {w_PLATFORM_DELETE : Addr} {w_SERVER_DEPLOY : Addr} {w_DISK_DETACH : Addr} {w_NIC_DETACH : Addr} {w_SERVER_STOP : Addr} {w_SNAPSHOT_CREATE : Addr} {w_NIC_ATTACH : Addr} {w_SNAPSHOT_DELETE : Addr} {w_DISK_ATTACH : Addr} {w_SERVER_DELETE : Addr} (hp : Perm Z w_PLATFORM_DEPLOY w_SERVER_START w_PLATFORM_DELETE w_SERVER_DEPLOY w_DISK_DETACH w_NIC_DETACH w_SERVER_STOP w_SNAPSHOT_CREATE w_NIC_ATTACH w_SNAPSHOT_DELETE w_DISK_ATTACH w_SERVER_DELETE) : w_DISK_DETACH ≠ w_NIC_DETACH := by
  obtain ⟨_, _, _, _, _, _, _, _, _, _, _, _, _, _, _, _, _, _, _, _, _, _, _, _, _, _, _, _, F_ordinal_w_DISK_DETACH, F_ordinal_w_NIC_DETACH, _, _, _, _, _, _⟩ := hp
  exact Fld.ne F_ordinal_w_DISK_DETACH F_ordinal_w_NIC_DETACH (by decide)
theorem ne_w_DISK_DETACH_w_SERVER_STOP {Z : State} {w_PLATFORM_DEPLOY : Addr} {w_SERVER_START : Addr} {w_PLATFORM_DELETE : Addr} {w_SERVER_DEPLOY : Addr} {w_DISK_DETACH : Addr} {w_NIC_DETACH : Addr} {w_SERVER_STOP : Addr} {w_SNAPSHOT_CREATE : Addr} {w_NIC_ATTACH : Addr} {w_SNAPSHOT_DELETE : Addr} {w_DISK_ATTACH : Addr} {w_SERVER_DELETE : Addr} (hp : Perm Z w_PLATFORM_DEPLOY w_SERVER_START w_PLATFORM_DELETE w_SERVER_DEPLOY w_DISK_DETACH w_NIC_DETACH w_SERVER_STOP w_SNAPSHOT_CREATE w_NIC_ATTACH w_SNAPSHOT_DELETE w_DISK_ATTACH w_SERVER_DELETE) : w_DISK_DETACH ≠ w_SERVER_STOP := by
  obtain ⟨_, _, _, _, _, _, _, _, _, _, _, _, _, _, _, _, _, _, _, _, _, _, _, _, _, _, _, _, F_ordinal_w_DISK_DETACH, _, F_ordinal_w_SERVER_STOP, _, _, _, _, _⟩ := hp
  exact Fld.ne F_ordinal_w_DISK_DETACH F_ordinal_w_SERVER_STOP (by decide)
theorem ne_w_DISK_DETACH_w_SNAPSHOT_CREATE {Z : State} {w_PLATFORM_DEPLOY : Addr} {w_SERVER_START : Addr} {w_PLATFORM_DELETE : Addr} {w_SERVER_DEPLOY : Addr} {w_DISK_DETACH : Addr} {w_NIC_DETACH : Addr} {w_SERVER_STOP : Addr} {w_SNAPSHOT_CREATE : Addr} {w_NIC_ATTACH : Addr} {w_SNAPSHOT_DELETE : Addr} {w_DISK_ATTACH : Addr} {w_SERVER_DELETE : Addr} (hp : Perm Z w_PLATFORM_DEPLOY w_SERVER_START w_PLATFORM_DELETE w_SERVER_DEPLOY w_DISK_DETACH w_NIC_DETACH w_SERVER_STOP w_SNAPSHOT_CREATE w_NIC_ATTACH w_SNAPSHOT_DELETE w_DISK_ATTACH w_SERVER_DELETE) : w_DISK_DETACH ≠ w_SNAPSHOT_CREATE := by
  obtain ⟨_, _, _, _, _, _, _, _, _, _, _, _, _, _, _, _, _, _, _, _, _, _, _, _, _, _, _, _, F_ordinal_w_DISK_DETACH, _, _, F_ordinal_w_SNAPSHOT_CREATE, _, _, _, _⟩ := hp
  exact Fld.ne F_ordinal_w_DISK_DETACH F_ordinal_w_SNAPSHOT_CREATE (by decide)
theorem ne_w_DISK_DETACH_w_NIC_ATTACH {Z : State} {w_PLATFORM_DEPLOY : Addr} {w_SERVER_START : Addr} {w_PLATFORM_DELETE : Addr} {w_SERVER_DEPLOY : Addr} {w_DISK_DETACH : Addr} {w_NIC_DETACH : Addr} {w_SERVER_STOP : Addr} {w_SNAPSHOT_CREATE : Addr} {w_NIC_ATTACH : Addr} {w_SNAPSHOT_DELETE : Addr} {w_DISK_ATTACH : Addr} {w_SERVER_DELETE : Addr} (hp : Perm Z w_PLATFORM_DEPLOY w_SERVER_START w_PLATFORM_DELETE w_SERVER_DEPLOY w_DISK_DETACH w_NIC_DETACH w_SERVER_STOP w_SNAPSHOT_CREATE w_NIC_ATTACH w_SNAPSHOT_DELETE w_DISK_ATTACH w_SERVER_DELETE) : w_DISK_DETACH ≠ w_NIC_ATTACH := by
  obtain ⟨_, _, _, _, _, _, _, _, _, _, _, _, _, _, _, _, _, _, _, _, _, _, _, _, _, _, _, _, F_ordinal_w_DISK_DETACH, _, _, _, F_ordinal_w_NIC_ATTACH, _, _, _⟩ := hp
  exact Fld.ne F_ordinal_w_DISK_DETACH F_ordinal_w_NIC_ATTACH (by decide)
theorem ne_w_DISK_DETACH_w_SNAPSHOT_DELETE {Z : State} {w_PLATFORM_DEPLOY : Addr} {w_SERVER_START : Addr} {w_PLATFORM_DELETE : Addr} {w_SERVER_DEPLOY : Addr} {w_DISK_DETACH : Addr} {w_NIC_DETACH : Addr} {w_SERVER_STOP : Addr} {w_SNAPSHOT_CREATE : Addr} {w_NIC_ATTACH : Addr} {w_SNAPSHOT_DELETE : Addr} {w_DISK_ATTACH : Addr} {w_SERVER_DELETE : Addr} (hp : Perm Z w_PLATFORM_DEPLOY w_SERVER_START w_PLATFORM_DELETE w_SERVER_DEPLOY w_DISK_DETACH w_NIC_DETACH w_SERVER_STOP w_SNAPSHOT_CREATE w_NIC_ATTACH w_SNAPSHOT_DELETE w_DISK_ATTACH w_SERVER_DELETE) : w_DISK_DETACH ≠ w_SNAPSHOT_DELETE := by
  obtain ⟨_, _, _, _, _, _, _, _, _, _, _, _, _, _, _, _, _, _, _, _, _, _, _, _, _, _, _, _, F_ordinal_w_DISK_DETACH, _, _, _, _, F_ordinal_w_SNAPSHOT_DELETE, _, _⟩ := hp
  exact Fld.ne F_ordinal_w_DISK_DETACH F_ordinal_w_SNAPSHOT_DELETE (by decide)
theorem ne_w_DISK_DETACH_w_DISK_ATTACH {Z : State} {w_PLATFORM_DEPLOY : Addr} {w_SERVER_START : Addr} {w_PLATFORM_DELETE : Addr} {w_SERVER_DEPLOY : Addr} {w_DISK_DETACH : Addr} {w_NIC_DETACH : Addr} {w_SERVER_STOP : Addr} {w_SNAPSHOT_CREATE : Addr} {w_NIC_ATTACH : Addr} {w_SNAPSHOT_DELETE : Addr} {w_DISK_ATTACH : Addr} {w_SERVER_DELETE : Addr} (hp : Perm Z w_PLATFORM_DEPLOY w_SERVER_START w_PLATFORM_DELETE w_SERVER_DEPLOY w_DISK_DETACH w_NIC_DETACH w_SERVER_STOP w_SNAPSHOT_CREATE w_NIC_ATTACH w_SNAPSHOT_DELETE w_DISK_ATTACH w_SERVER_DELETE) : w_DISK_DETACH ≠ w_DISK_ATTACH := by
  obtain ⟨_, _, _, _, _, _, _, _, _, _, _, _, _, _, _, _, _, _, _, _, _, _, _, _, _, _, _, _, F_ordinal_w_DISK_DETACH, _, _, _, _, _, F_ordinal_w_DISK_ATTACH, _⟩ := hp
  exact Fld.ne F_ordinal_w_DISK_DETACH F_ordinal_w_DISK_ATTACH (by decide)
theorem ne_w_DISK_DETACH_w_SERVER_DELETE {Z : State} {w_PLATFORM_DEPLOY : Addr} {w_SERVER_START : Addr} {w_PLATFORM_DELETE : Addr} {w_SERVER_DEPLOY : Addr} {w_DISK_DETACH : Addr} {w_NIC_DETACH : Addr} {w_SERVER_STOP : Addr} {w_SNAPSHOT_CREATE : Addr} {w_NIC_ATTACH : Addr} {w_SNAPSHOT_DELETE : Addr} {w_DISK_ATTACH : Addr} {w_SERVER_DELETE : Addr} (hp : Perm Z w_PLATFORM_DEPLOY w_SERVER_START w_PLATFORM_DELETE w_SERVER_DEPLOY w_DISK_DETACH w_NIC_DETACH w_SERVER_STOP w_SNAPSHOT_CREATE w_NIC_ATTACH w_SNAPSHOT_DELETE w_DISK_ATTACH w_SERVER_DELETE) : w_DISK_DETACH ≠ w_SERVER_DELETE := by
  obtain ⟨_, _, _, _, _, _, _, _, _, _, _, _, _, _, _, _, _, _, _, _, _, _, _, _, _, _, _, _, F_ordinal_w_DISK_DETACH, _, _, _, _, _, _, F_ordinal_w_SERVER_DELETE⟩ := hp
  exact Fld.ne F_ordinal_w_DISK_DETACH F_ordinal_w_SERVER_DELETE (by decide)
theorem ne_w_NIC_DETACH_w_SERVER_STOP {Z : State} {w_PLATFORM_DEPLOY : Addr} {w_SERVER_START : Addr} {w_PLATFORM_DELETE : Addr} {w_SERVER_DEPLOY : Addr} {w_DISK_DETACH : Addr} {w_NIC_DETACH : Addr} {w_SERVER_STOP : Addr} {w_SNAPSHOT_CREATE : Addr} {w_NIC_ATTACH : Addr} {w_SNAPSHOT_DELETE : Addr} {w_DISK_ATTACH : Addr} {w_SERVER_DELETE : Addr} (hp : Perm Z w_PLATFORM_DEPLOY w_SERVER_START w_PLATFORM_DELETE w_SERVER_DEPLOY w_DISK_DETACH w_NIC_DETACH w_SERVER_STOP w_SNAPSHOT_CREATE w_NIC_ATTACH w_SNAPSHOT_DELETE w_DISK_ATTACH w_SERVER_DELETE) : w_NIC_DETACH ≠ w_SERVER_STOP := by
  obtain ⟨_, _, _, _, _, _, _, _, _, _, _, _, _, _, _, _, _, _, _, _, _, _, _, _, _, _, _, _, _, F_ordinal_w_NIC_DETACH, F_ordinal_w_SERVER_STOP, _, _, _, _, _⟩ := hp
  exact Fld.ne F_ordinal_w_NIC_DETACH F_ordinal_w_SERVER_STOP (by decide)
theorem ne_w_NIC_DETACH_w_SNAPSHOT_CREATE {Z : State} {w_PLATFORM_DEPLOY : Addr} {w_SERVER_START : Addr} {w_PLATFORM_DELETE : Addr} {w_SERVER_DEPLOY : Addr} {w_DISK_DETACH : Addr} {w_NIC_DETACH : Addr} {w_SERVER_STOP : Addr} {w_SNAPSHOT_CREATE : Addr} {w_NIC_ATTACH : Addr} {w_SNAPSHOT_DELETE : Addr} {w_DISK_ATTACH : Addr} {w_SERVER_DELETE : Addr} (hp : Perm Z w_PLATFORM_DEPLOY w_SERVER_START w_PLATFORM_DELETE w_SERVER_DEPLOY w_DISK_DETACH w_NIC_DETACH w_SERVER_STOP w_SNAPSHOT_CREATE w_NIC_ATTACH w_SNAPSHOT_DELETE w_DISK_ATTACH w_SERVER_DELETE) : w_NIC_DETACH ≠ w_SNAPSHOT_CREATE := by
  obtain ⟨_, _, _, _, _, _, _, _, _, _, _, _, _, _, _, _, _, _, _, _, _, _, _, _, _, _, _, _, _, F_ordinal_w_NIC_DETACH, _, F_ordinal_w_SNAPSHOT_CREATE, _, _, _, _⟩ := hp
  exact Fld.ne F_ordinal_w_NIC_DETACH F_ordinal_w_SNAPSHOT_CREATE (by decide)
theorem ne_w_NIC_DETACH_w_NIC_ATTACH {Z : State} {w_PLATFORM_DEPLOY : Addr} {w_SERVER_START : Addr} {w_PLATFORM_DELETE : Addr} {w_SERVER_DEPLOY : Addr} {w_DISK_DETACH : Addr} {w_NIC_DETACH : Addr} {w_SERVER_STOP : Addr} {w_SNAPSHOT_CREATE : Addr} {w_NIC_ATTACH : Addr} {w_SNAPSHOT_DELETE : Addr} {w_DISK_ATTACH : Addr} {w_SERVER_DELETE : Addr} (hp : Perm Z w_PLATFORM_DEPLOY w_SERVER_START w_PLATFORM_DELETE w_SERVER_DEPLOY w_DISK_DETACH w_NIC_DETACH w_SERVER_STOP w_SNAPSHOT_CREATE w_NIC_ATTACH w_SNAPSHOT_DELETE w_DISK_ATTACH w_SERVER_DELETE) : w_NIC_DETACH ≠ w_NIC_ATTACH := by
  obtain ⟨_, _, _, _, _, _, _, _, _, _, _, _, _, _, _, _, _, _, _, _, _, _, _, _, _, _, _, _, _, F_ordinal_w_NIC_DETACH, _, _, F_ordinal_w_NIC_ATTACH, _, _, _⟩ := hp
  exact Fld.ne F_ordinal_w_NIC_DETACH F_ordinal_w_NIC_ATTACH (by decide)
theorem ne_w_NIC_DETACH_w_SNAPSHOT_DELETE {Z : State} {w_PLATFORM_DEPLOY : Addr} {w_SERVER_START : Addr} {w_PLATFORM_DELETE : Addr} {w_SERVER_DEPLOY : Addr} {w_DISK_DETACH : Addr} {w_NIC_DETACH : Addr} {w_SERVER_STOP : Addr} {w_SNAPSHOT_CREATE : Addr} {w_NIC_ATTACH : Addr} {w_SNAPSHOT_DELETE : Addr} {w_DISK_ATTACH : Addr} {w_SERVER_DELETE : Addr} (hp : Perm Z w_PLATFORM_DEPLOY w_SERVER_START w_PLATFORM_DELETE w_SERVER_DEPLOY w_DISK_DETACH w_NIC_DETACH w_SERVER_STOP w_SNAPSHOT_CREATE w_NIC_ATTACH w_SNAPSHOT_DELETE w_DISK_ATTACH w_SERVER_DELETE) : w_NIC_DETACH ≠ w_SNAPSHOT_DELETE := by
  obtain ⟨_, _, _, _, _, _, _, _, _, _, _, _, _, _, _, _, _, _, _, _, _, _, _, _, _, _, _, _, _, F_ordinal_w_NIC_DETACH, _, _, _, F_ordinal_w_SNAPSHOT_DELETE, _, _⟩ := hp
  exact Fld.ne F_ordinal_w_NIC_DETACH F_ordinal_w_SNAPSHOT_DELETE (by decide)
theorem ne_w_NIC_DETACH_w_DISK_ATTACH {Z : State} {w_PLATFORM_DEPLOY : Addr} {w_SERVER_START : Addr} {w_PLATFORM_DELETE : Addr} {w_SERVER_DEPLOY : Addr} {w_DISK_DETACH : Addr} {w_NIC_DETACH : Addr} {w_SERVER_STOP : Addr} {w_SNAPSHOT_CREATE : Addr} {w_NIC_ATTACH : Addr} {w_SNAPSHOT_DELETE : Addr} {w_DISK_ATTACH : Addr} {w_SERVER_DELETE : Addr} (hp : Perm Z w_PLATFORM_DEPLOY w_SERVER_START w_PLATFORM_DELETE w_SERVER_DEPLOY w_DISK_DETACH w_NIC_DETACH w_SERVER_STOP w_SNAPSHOT_CREATE w_NIC_ATTACH w_SNAPSHOT_DELETE w_DISK_ATTACH w_SERVER_DELETE) : w_NIC_DETACH ≠ w_DISK_ATTACH := by
  obtain ⟨_, _, _, _, _, _, _, _, _, _, _, _, _, _, _, _, _, _, _, _, _, _, _, _, _, _, _, _, _, F_ordinal_w_NIC_DETACH, _, _, _, _, F_ordinal_w_DISK_ATTACH, _⟩ := hp
  exact Fld.ne F_ordinal_w_NIC_DETACH F_ordinal_w_DISK_ATTACH (by decide)
theorem ne_w_NIC_DETACH_w_SERVER_DELETE {Z : State} {w_PLATFORM_DEPLOY : Addr} {w_SERVER_START : Addr} {w_PLATFORM_DELETE : Addr} {w_SERVER_DEPLOY : Addr} {w_DISK_DETACH : Addr} {w_NIC_DETACH : Addr} {w_SERVER_STOP : Addr} {w_SNAPSHOT_CREATE : Addr} {w_NIC_ATTACH : Addr} {w_SNAPSHOT_DELETE : Addr} {w_DISK_ATTACH : Addr} {w_SERVER_DELETE : Addr} (hp : Perm Z w_PLATFORM_DEPLOY w_SERVER_START w_PLATFORM_DELETE w_SERVER_DEPLOY w_DISK_DETACH w_NIC_DETACH w_SERVER_STOP w_SNAPSHOT_CREATE w_NIC_ATTACH w_SNAPSHOT_DELETE w_DISK_ATTACH w_SERVER_DELETE) : w_NIC_DETACH ≠ w_SERVER_DELETE := by
  obtain ⟨_, _, _, _, _, _, _, _, _, _, _, _, _, _, _, _, _, _, _, _, _, _, _, _, _, _, _, _, _, F_ordinal_w_NIC_DETACH, _, _, _, _, _, F_ordinal_w_SERVER_DELETE⟩ := hp
  exact Fld.ne F_ordinal_w_NIC_DETACH F_ordinal_w_SERVER_DELETE (by decide)
theorem ne_w_SERVER_STOP_w_SNAPSHOT_CREATE {Z : State} {w_PLATFORM_DEPLOY : Addr} {w_SERVER_START : Addr} {w_PLATFORM_DELETE : Addr} {w_SERVER_DEPLOY : Addr} {w_DISK_DETACH : Addr} {w_NIC_DETACH : Addr} {w_SERVER_STOP : Addr} {w_SNAPSHOT_CREATE : Addr} {w_NIC_ATTACH : Addr} {w_SNAPSHOT_DELETE : Addr} {w_DISK_ATTACH : Addr} {w_SERVER_DELETE : Addr} (hp : Perm Z w_PLATFORM_DEPLOY w_SERVER_START w_PLATFORM_DELETE w_SERVER_DEPLOY w_DISK_DETACH w_NIC_DETACH w_SERVER_STOP w_SNAPSHOT_CREATE w_NIC_ATTACH w_SNAPSHOT_DELETE w_DISK_ATTACH w_SERVER_DELETE) : w_SERVER_STOP ≠ w_SNAPSHOT_CREATE := by
  obtain ⟨_, _, _, _, _, _, _, _, _, _, _, _, _, _, _, _, _, _, _, _, _, _, _, _, _, _, _, _, _, _, F_ordinal_w_SERVER_STOP, F_ordinal_w_SNAPSHOT_CREATE, _, _, _, _⟩ := hp
  exact Fld.ne F_ordinal_w_SERVER_STOP F_ordinal_w_SNAPSHOT_CREATE (by decide)
theorem ne_w_SERVER_STOP_w_NIC_ATTACH {Z : State} {w_PLATFORM_DEPLOY : Addr} {w_SERVER_START : Addr} {w_PLATFORM_DELETE : Addr} {w_SERVER_DEPLOY : Addr} {w_DISK_DETACH : Addr} {w_NIC_DETACH : Addr} {w_SERVER_STOP : Addr} {w_SNAPSHOT_CREATE : Addr} {w_NIC_ATTACH : Addr} {w_SNAPSHOT_DELETE : Addr} {w_DISK_ATTACH : Addr} {w_SERVER_DELETE : Addr} (hp : Perm Z w_PLATFORM_DEPLOY w_SERVER_START w_PLATFORM_DELETE w_SERVER_DEPLOY w_DISK_DETACH w_NIC_DETACH w_SERVER_STOP w_SNAPSHOT_CREATE w_NIC_ATTACH w_SNAPSHOT_DELETE w_DISK_ATTACH w_SERVER_DELETE) : w_SERVER_STOP ≠ w_NIC_ATTACH := by
  obtain ⟨_, _, _, _, _, _, _, _, _, _, _, _, _, _, _, _, _, _, _, _, _, _, _, _, _, _, _, _, _, _, F_ordinal_w_SERVER_STOP, _, F_ordinal_w_NIC_ATTACH, _, _, _⟩ := hp
  exact Fld.ne F_ordinal_w_SERVER_STOP F_ordinal_w_NIC_ATTACH (by decide)
theorem ne_w_SERVER_STOP_w_SNAPSHOT_DELETE {Z : State} {w_PLATFORM_DEPLOY : Addr} {w_SERVER_START : Addr} {w_PLATFORM_DELETE : Addr} {w_SERVER_DEPLOY : Addr} {w_DISK_DETACH : Addr} {w_NIC_DETACH : Addr} {w_SERVER_STOP : Addr} {w_SNAPSHOT_CREATE : Addr} {w_NIC_ATTACH : Addr} {w_SNAPSHOT_DELETE : Addr} {w_DISK_ATTACH : Addr} {w_SERVER_DELETE : Addr} (hp : Perm Z w_PLATFORM_DEPLOY w_SERVER_START w_PLATFORM_DELETE w_SERVER_DEPLOY w_DISK_DETACH w_NIC_DETACH w_SERVER_STOP w_SNAPSHOT_CREATE w_NIC_ATTACH w_SNAPSHOT_DELETE w_DISK_ATTACH w_SERVER_DELETE) : w_SERVER_STOP ≠ w_SNAPSHOT_DELETE := by
  obtain ⟨_, _, _, _, _, _, _, _, _, _, _, _, _, _, _, _, _, _, _, _, _, _, _, _, _, _, _, _, _, _, F_ordinal_w_SERVER_STOP, _, _, F_ordinal_w_SNAPSHOT_DELETE, _, _⟩ := hp
  exact Fld.ne F_ordinal_w_SERVER_STOP F_ordinal_w_SNAPSHOT_DELETE (by decide)
theorem ne_w_SERVER_STOP_w_DISK_ATTACH {Z : State} {w_PLATFORM_DEPLOY : Addr} {w_SERVER_START : Addr} {w_PLATFORM_DELETE : Addr} {w_SERVER_DEPLOY : Addr} {w_DISK_DETACH : Addr} {w_NIC_DETACH : Addr} {w_SERVER_STOP : Addr} {w_SNAPSHOT_CREATE : Addr} {w_NIC_ATTACH : Addr} {w_SNAPSHOT_DELETE : Addr} {w_DISK_ATTACH : Addr} {w_SERVER_DELETE : Addr} (hp : Perm Z w_PLATFORM_DEPLOY w_SERVER_START w_PLATFORM_DELETE w_SERVER_DEPLOY w_DISK_DETACH w_NIC_DETACH w_SERVER_STOP w_SNAPSHOT_CREATE w_NIC_ATTACH w_SNAPSHOT_DELETE w_DISK_ATTACH w_SERVER_DELETE) : w_SERVER_STOP ≠ w_DISK_ATTACH := by
  obtain ⟨_, _, _, _, _, _, _, _, _, _, _, _, _, _, _, _, _, _, _, _, _, _, _, _, _, _, _, _, _, _, F_ordinal_w_SERVER_STOP, _, _, _, F_ordinal_w_DISK_ATTACH, _⟩ := hp
  exact Fld.ne F_ordinal_w_SERVER_STOP F_ordinal_w_DISK_ATTACH (by decide)
theorem ne_w_SERVER_STOP_w_SERVER_DELETE {Z : State} {w_PLATFORM_DEPLOY : Addr} {w_SERVER_START : Addr} {w_PLATFORM_DELETE : Addr} {w_SERVER_DEPLOY : Addr} {w_DISK_DETACH : Addr} {w_NIC_DETACH : Addr} {w_SERVER_STOP : Addr} {w_SNAPSHOT_CREATE : Addr} {w_NIC_ATTACH : Addr} {w_SNAPSHOT_DELETE : Addr} {w_DISK_ATTACH : Addr} {w_SERVER_DELETE : Addr} (hp : Perm Z w_PLATFORM_DEPLOY w_SERVER_START w_PLATFORM_DELETE w_SERVER_DEPLOY w_DISK_DETACH w_NIC_DETACH w_SERVER_STOP w_SNAPSHOT_CREATE w_NIC_ATTACH w_SNAPSHOT_DELETE w_DISK_ATTACH w_SERVER_DELETE) : w_SERVER_STOP ≠ w_SERVER_DELETE := by
  obtain ⟨_, _, _, _, _, _, _, _, _, _, _, _, _, _, _, _, _, _, _, _, _, _, _, _, _, _, _, _, _, _, F_ordinal_w_SERVER_STOP, _, _, _, _, F_ordinal_w_SERVER_DELETE⟩ := hp
  exact Fld.ne F_ordinal_w_SERVER_STOP F_ordinal_w_SERVER_DELETE (by decide)
theorem ne_w_SNAPSHOT_CREATE_w_NIC_ATTACH {Z : State} {w_PLATFORM_DEPLOY : Addr} {w_SERVER_START : Addr} {w_PLATFORM_DELETE : Addr} {w_SERVER_DEPLOY : Addr} {w_DISK_DETACH : Addr} {w_NIC_DETACH : Addr} {w_SERVER_STOP : Addr} {w_SNAPSHOT_CREATE : Addr} {w_NIC_ATTACH : Addr} {w_SNAPSHOT_DELETE : Addr} {w_DISK_ATTACH : Addr} {w_SERVER_DELETE : Addr} (hp : Perm Z w_PLATFORM_DEPLOY w_SERVER_START w_PLATFORM_DELETE w_SERVER_DEPLOY w_DISK_DETACH w_NIC_DETACH w_SERVER_STOP w_SNAPSHOT_CREATE w_NIC_ATTACH w_SNAPSHOT_DELETE w_DISK_ATTACH w_SERVER_DELETE) : w_SNAPSHOT_CREATE ≠ w_NIC_ATTACH := by
  obtain ⟨_, _, _, _, _, _, _, _, _, _, _, _, _, _, _, _, _, _, _, _, _, _, _, _, _, _, _, _, _, _, _, F_ordinal_w_SNAPSHOT_CREATE, F_ordinal_w_NIC_ATTACH, _, _, _⟩ := hp
  exact Fld.ne F_ordinal_w_SNAPSHOT_CREATE F_ordinal_w_NIC_ATTACH (by decide)
theorem ne_w_SNAPSHOT_CREATE_w_SNAPSHOT_DELETE {Z : State} {w_PLATFORM_DEPLOY : Addr} {w_SERVER_START : Addr} {w_PLATFORM_DELETE : Addr} {w_SERVER_DEPLOY : Addr} {w_DISK_DETACH : Addr} {w_NIC_DETACH : Addr} {w_SERVER_STOP : Addr} {w_SNAPSHOT_CREATE : Addr} {w_NIC_ATTACH : Addr} {w_SNAPSHOT_DELETE : Addr} {w_DISK_ATTACH : Addr} {w_SERVER_DELETE : Addr} (hp : Perm Z w_PLATFORM_DEPLOY w_SERVER_START w_PLATFORM_DELETE w_SERVER_DEPLOY w_DISK_DETACH w_NIC_DETACH w_SERVER_STOP w_SNAPSHOT_CREATE w_NIC_ATTACH w_SNAPSHOT_DELETE w_DISK_ATTACH w_SERVER_DELETE) : w_SNAPSHOT_CREATE ≠ w_SNAPSHOT_DELETE := by
  obtain ⟨_, _, _, _, _, _, _, _, _, _, _, _, _, _, _, _, _, _, _, _, _, _, _, _, _, _, _, _, _, _, _, F_ordinal_w_SNAPSHOT_CREATE, _, F_ordinal_w_SNAPSHOT_DELETE, _, _⟩ := hp
  exact Fld.ne F_ordinal_w_SNAPSHOT_CREATE F_ordinal_w_SNAPSHOT_DELETE (by decide)
theorem ne_w_SNAPSHOT_CREATE_w_DISK_ATTACH {Z : State} {w_PLATFORM_DEPLOY : Addr} {w_SERVER_START : Addr} {w_PLATFORM_DELETE : Addr} {w_SERVER_DEPLOY : Addr} {w_DISK_DETACH : Addr} {w_NIC_DETACH : Addr} {w_SERVER_STOP : Addr} {w_SNAPSHOT_CREATE : Addr} {w_NIC_ATTACH : Addr} {w_SNAPSHOT_DELETE : Addr} {w_DISK_ATTACH : Addr} {w_SERVER_DELETE : Addr} (hp : Perm Z w_PLATFORM_DEPLOY w_SERVER_START w_PLATFORM_DELETE w_SERVER_DEPLOY w_DISK_DETACH w_NIC_DETACH w_SERVER_STOP w_SNAPSHOT_CREATE w_NIC_ATTACH w_SNAPSHOT_DELETE w_DISK_ATTACH w_SERVER_DELETE) : w_SNAPSHOT_CREATE ≠ w_DISK_ATTACH := by
  obtain ⟨_, _, _, _, _, _, _, _, _, _, _, _, _, _, _, _, _, _, _, _, _, _, _, _, _, _, _, _, _, _, _, F_ordinal_w_SNAPSHOT_CREATE, _, _, F_ordinal_w_DISK_ATTACH, _⟩ := hp
  exact Fld.ne F_ordinal_w_SNAPSHOT_CREATE F_ordinal_w_DISK_ATTACH (by decide)
theorem ne_w_SNAPSHOT_CREATE_w_SERVER_DELETE {Z : State} {w_PLATFORM_DEPLOY : Addr} {w_SERVER_START : Addr} {w_PLATFORM_DELETE : Addr} {w_SERVER_DEPLOY : Addr} {w_DISK_DETACH : Addr} {w_NIC_DETACH : Addr} {w_SERVER_STOP : Addr} {w_SNAPSHOT_CREATE : Addr} {w_NIC_ATTACH : Addr} {w_SNAPSHOT_DELETE : Addr} {w_DISK_ATTACH : Addr} {w_SERVER_DELETE : Addr} (hp : Perm Z w_PLATFORM_DEPLOY w_SERVER_START w_PLATFORM_DELETE w_SERVER_DEPLOY w_DISK_DETACH w_NIC_DETACH w_SERVER_STOP w_SNAPSHOT_CREATE w_NIC_ATTACH w_SNAPSHOT_DELETE w_DISK_ATTACH w_SERVER_DELETE) : w_SNAPSHOT_CREATE ≠ w_SERVER_DELETE := by
  obtain ⟨_, _, _, _, _, _, _, _, _, _, _, _, _, _, _, _, _, _, _, _, _, _, _, _, _, _, _, _, _, _, _, F_ordinal_w_SNAPSHOT_CREATE, _, _, _, F_ordinal_w_SERVER_DELETE⟩ := hp
  exact Fld.ne F_ordinal_w_SNAPSHOT_CREATE F_ordinal_w_SERVER_DELETE (by decide)
theorem ne_w_NIC_ATTACH_w_SNAPSHOT_DELETE {Z : State} {w_PLATFORM_DEPLOY : Addr} {w_SERVER_START : Addr} {w_PLATFORM_DELETE : Addr} {w_SERVER_DEPLOY : Addr} {w_DISK_DETACH : Addr} {w_NIC_DETACH : Addr} {w_SERVER_STOP : Addr} {w_SNAPSHOT_CREATE : Addr} {w_NIC_ATTACH : Addr} {w_SNAPSHOT_DELETE : Addr} {w_DISK_ATTACH : Addr} {w_SERVER_DELETE : Addr} (hp : Perm Z w_PLATFORM_DEPLOY w_SERVER_START w_PLATFORM_DELETE w_SERVER_DEPLOY w_DISK_DETACH w_NIC_DETACH w_SERVER_STOP w_SNAPSHOT_CREATE w_NIC_ATTACH w_SNAPSHOT_DELETE w_DISK_ATTACH w_SERVER_DELETE) : w_NIC_ATTACH ≠ w_SNAPSHOT_DELETE := by
  obtain ⟨_, _, _, _, _, _, _, _, _, _, _, _, _, _, _, _, _, _, _, _, _, _, _, _, _, _, _, _, _, _, _, _, F_ordinal_w_NIC_ATTACH, F_ordinal_w_SNAPSHOT_DELETE, _, _⟩ := hp
  exact Fld.ne F_ordinal_w_NIC_ATTACH F_ordinal_w_SNAPSHOT_DELETE (by decide)
theorem ne_w_NIC_ATTACH_w_DISK_ATTACH {Z : State} {w_PLATFORM_DEPLOY : Addr} {w_SERVER_START : Addr} {w_PLATFORM_DELETE : Addr} {w_SERVER_DEPLOY : Addr} {w_DISK_DETACH : Addr} {w_NIC_DETACH : Addr} {w_SERVER_STOP : Addr} {w_SNAPSHOT_CREATE : Addr} {w_NIC_ATTACH : Addr} {w_SNAPSHOT_DELETE : Addr} {w_DISK_ATTACH : Addr} {w_SERVER_DELETE : Addr} (hp : Perm Z w_PLATFORM_DEPLOY w_SERVER_START w_PLATFORM_DELETE w_SERVER_DEPLOY w_DISK_DETACH w_NIC_DETACH w_SERVER_STOP w_SNAPSHOT_CREATE w_NIC_ATTACH w_SNAPSHOT_DELETE w_DISK_ATTACH w_SERVER_DELETE) : w_NIC_ATTACH ≠ w_DISK_ATTACH := by
  obtain ⟨_, _, _, _, _, _, _, _, _, _, _, _, _, _, _, _, _, _, _, _, _, _, _, _, _, _, _, _, _, _, _, _, F_ordinal_w_NIC_ATTACH, _, F_ordinal_w_DISK_ATTACH, _⟩ := hp
  exact Fld.ne F_ordinal_w_NIC_ATTACH F_ordinal_w_DISK_ATTACH (by decide)
theorem ne_w_NIC_ATTACH_w_SERVER_DELETE {Z : State} {w_PLATFORM_DEPLOY : Addr} {w_SERVER_START : Addr} {w_PLATFORM_DELETE : Addr} {w_SERVER_DEPLOY : Addr} {w_DISK_DETACH : Addr} {w_NIC_DETACH : Addr} {w_SERVER_STOP : Addr} {w_SNAPSHOT_CREATE : Addr} {w_NIC_ATTACH : Addr} {w_SNAPSHOT_DELETE : Addr} {w_DISK_ATTACH : Addr} {w_SERVER_DELETE : Addr} (hp : Perm Z w_PLATFORM_DEPLOY w_SERVER_START w_PLATFORM_DELETE w_SERVER_DEPLOY w_DISK_DETACH w_NIC_DETACH w_SERVER_STOP w_SNAPSHOT_CREATE w_NIC_ATTACH w_SNAPSHOT_DELETE w_DISK_ATTACH w_SERVER_DELETE) : w_NIC_ATTACH ≠ w_SERVER_DELETE := by
  obtain ⟨_, _, _, _, _, _, _, _, _, _, _, _, _, _, _, _, _, _, _, _, _, _, _, _, _, _, _, _, _, _, _, _, F_ordinal_w_NIC_ATTACH, _, _, F_ordinal_w_SERVER_DELETE⟩ := hp
  exact Fld.ne F_ordinal_w_NIC_ATTACH F_ordinal_w_SERVER_DELETE (by decide)
theorem ne_w_SNAPSHOT_DELETE_w_DISK_ATTACH {Z : State} {w_PLATFORM_DEPLOY : Addr} {w_SERVER_START : Addr} {w_PLATFORM_DELETE : Addr} {w_SERVER_DEPLOY : Addr} {w_DISK_DETACH : Addr} {w_NIC_DETACH : Addr} {w_SERVER_STOP : Addr} {w_SNAPSHOT_CREATE : Addr} {w_NIC_ATTACH : Addr} {w_SNAPSHOT_DELETE : Addr} {w_DISK_ATTACH : Addr} {w_SERVER_DELETE : Addr} (hp : Perm Z w_PLATFORM_DEPLOY w_SERVER_START w_PLATFORM_DELETE w_SERVER_DEPLOY w_DISK_DETACH w_NIC_DETACH w_SERVER_STOP w_SNAPSHOT_CREATE w_NIC_ATTACH w_SNAPSHOT_DELETE w_DISK_ATTACH w_SERVER_DELETE) : w_SNAPSHOT_DELETE ≠ w_DISK_ATTACH := by
  obtain ⟨_, _, _, _, _, _, _, _, _, _, _, _, _, _, _, _, _, _, _, _, _, _, _, _, _, _, _, _, _, _, _, _, _, F_ordinal_w_SNAPSHOT_DELETE, F_ordinal_w_DISK_ATTACH, _⟩ := hp
  exact Fld.ne F_ordinal_w_SNAPSHOT_DELETE F_ordinal_w_DISK_ATTACH (by decide)
theorem ne_w_SNAPSHOT_DELETE_w_SERVER_DELETE {Z : State} {w_PLATFORM_DEPLOY : Addr} {w_SERVER_START : Addr} {w_PLATFORM_DELETE : Addr} {w_SERVER_DEPLOY : Addr} {w_DISK_DETACH : Addr} {w_NIC_DETACH : Addr} {w_SERVER_STOP : Addr} {w_SNAPSHOT_CREATE : Addr} {w_NIC_ATTACH : Addr} {w_SNAPSHOT_DELETE : Addr} {w_DISK_ATTACH : Addr} {w_SERVER_DELETE : Addr} (hp : Perm Z w_PLATFORM_DEPLOY w_SERVER_START w_PLATFORM_DELETE w_SERVER_DEPLOY w_DISK_DETACH w_NIC_DETACH w_SERVER_STOP w_SNAPSHOT_CREATE w_NIC_ATTACH w_SNAPSHOT_DELETE w_DISK_ATTACH w_SERVER_DELETE) : w_SNAPSHOT_DELETE ≠ w_SERVER_DELETE := by
  obtain ⟨_, _, _, _, _, _, _, _, _, _, _, _, _, _, _, _, _, _, _, _, _, _, _, _, _, _, _, _, _, _, _, _, _, F_ordinal_w_SNAPSHOT_DELETE, _, F_ordinal_w_SERVER_DELETE⟩ := hp
  exact Fld.ne F_ordinal_w_SNAPSHOT_DELETE F_ordinal_w_SERVER_DELETE (by decide)
theorem ne_w_DISK_ATTACH_w_SERVER_DELETE {Z : State} {w_PLATFORM_DEPLOY : Addr} {w_SERVER_START : Addr} {w_PLATFORM_DELETE : Addr} {w_SERVER_DEPLOY : Addr} {w_DISK_DETACH : Addr} {w_NIC_DETACH : Addr} {w_SERVER_STOP : Addr} {w_SNAPSHOT_CREATE : Addr} {w_NIC_ATTACH : Addr} {w_SNAPSHOT_DELETE : Addr} {w_DISK_ATTACH : Addr} {w_SERVER_DELETE : Addr} (hp : Perm Z w_PLATFORM_DEPLOY w_SERVER_START w_PLATFORM_DELETE w_SERVER_DEPLOY w_DISK_DETACH w_NIC_DETACH w_SERVER_STOP w_SNAPSHOT_CREATE w_NIC_ATTACH w_SNAPSHOT_DELETE w_DISK_ATTACH w_SERVER_DELETE) : w_DISK_ATTACH ≠ w_SERVER_DELETE := by
  obtain ⟨_, _, _, _, _, _, _, _, _, _, _, _, _, _, _, _, _, _, _, _, _, _, _, _, _, _, _, _, _, _, _, _, _, _, F_ordinal_w_DISK_ATTACH, F_ordinal_w_SERVER_DELETE⟩ := hp
  exact Fld.ne F_ordinal_w_DISK_ATTACH F_ordinal_w_SERVER_DELETE (by decide)
theorem d1_0 : decode method_2_code 0 = .ok (.iload_n 0, 1) := by decide +kernel
theorem d1_1 : decode method_2_code 1 = .ok (.ifCond .ne 7, 3) := by decide +kernel
theorem d1_4 : decode method_2_code 4 = .ok (.getstatic 7, 3) := by decide +kernel
theorem d1_7 : decode method_2_code 7 = .ok (.areturn, 1) := by decide +kernel
abbrev y0 : MethodName := (⟨"com/example/ratebook/ratebook/model/EventTypeIsPlatformEventPinLaw", "pick", "(I)Lcom/example/ratebook/ratebook/model/EventType;"⟩ : MethodName)
theorem ef_1_0 (m : MethodId) (x0 : Int32) : entryFrame m #[(.int x0)] 1 = mkF m 0 #[.val (.int x0)] [] := by first | (simp [entryFrame, mkF, argsToLocals, Value.category]; done) | rfl
theorem pn_1 : plainName "com/example/ratebook/ratebook/model/EventTypeIsPlatformEventPinLaw" = true := by first | (simp [plainName, overriddenIn]; done) | decide +kernel
def Q1 (Z : State) (w_PLATFORM_DEPLOY : Addr) (w_SERVER_START : Addr) (w_PLATFORM_DELETE : Addr) (w_SERVER_DEPLOY : Addr) (w_DISK_DETACH : Addr) (w_NIC_DETACH : Addr) (w_SERVER_STOP : Addr) (w_SNAPSHOT_CREATE : Addr) (w_NIC_ATTACH : Addr) (w_SNAPSHOT_DELETE : Addr) (w_DISK_ATTACH : Addr) (w_SERVER_DELETE : Addr) (p1 : Int32) (h0 : Heap) (n0 : Nat) (v : Option Value) (h : Heap) (L : List Loc) : Prop := v = some (.ref w_PLATFORM_DEPLOY) ∧ Fr n0 L ∧ h = h0
set_option maxRecDepth 65536 in
set_option maxHeartbeats 40000000 in
theorem rm1 (l : Launch) (Z : State) (a0 : Array Value) (hw : ∀ d ∈ tables_1, d.before a0 Z = true) (ws : List Jvm.Cond) (w_PLATFORM_DEPLOY w_SERVER_START w_PLATFORM_DELETE w_SERVER_DEPLOY w_DISK_DETACH w_NIC_DETACH w_SERVER_STOP w_SNAPSHOT_CREATE w_NIC_ATTACH w_SNAPSHOT_DELETE w_DISK_ATTACH w_SERVER_DELETE : Addr) (hp : Perm Z w_PLATFORM_DEPLOY w_SERVER_START w_PLATFORM_DELETE w_SERVER_DEPLOY w_DISK_DETACH w_NIC_DETACH w_SERVER_STOP w_SNAPSHOT_CREATE w_NIC_ATTACH w_SNAPSHOT_DELETE w_DISK_ATTACH w_SERVER_DELETE) (p1 : Int32) (h0 : Heap) (n0 : Nat) (O0 : Old Z n0 h0) (hc1 : p1 = (0 : Int32)) :
    MetFree l y0 (head1 (Jvm.Cond.code y0 method_2_code 1 (some (.object "com/example/ratebook/ratebook/model/EventType")) :: ws) ({ frames := 0, cells := 0, slots := 0, locals := 0 } : Room)) (fun a U => a = #[(.int p1)] ∧ Z.Warmed39 U.vm ∧ U.heap = h0) (fun _ _ _ _ _ => True) (fun _ U o U' => ∃ v L, o = .returned v ∧ Q1 Z w_PLATFORM_DEPLOY w_SERVER_START w_PLATFORM_DELETE w_SERVER_DEPLOY w_DISK_DETACH w_NIC_DETACH w_SERVER_STOP w_SNAPSHOT_CREATE w_NIC_ATTACH w_SNAPSHOT_DELETE w_DISK_ATTACH w_SERVER_DELETE p1 h0 n0 v U'.heap L ∧ FrameEnd U o U' L ({ frames := 0, cells := 0, slots := 0, locals := 0 } : Room).cells ({ frames := 0, cells := 0, slots := 0, locals := 0 } : Room).slots) := by
  refine MetFree.of_bodySF (plainFor_of_name pn_1) hisR ?_
  intro p e s m args below meth c s₁ Bd hml0 hP hK
  obtain ⟨rfl, hZ, hh⟩ := hP
  have hx := Bd.exec
  have hby := Bd.bytes
  have hml : c.maxLocals = 1 := hml0
  have hown : s.vm.findClass "com/example/ratebook/ratebook/model/EventTypeIsPlatformEventPinLaw" = some m.cls := findClass_of_methodNamed Bd.named
  have hnm := (name_of_methodNamed Bd.named Bd.method).1
  have X0 : Stand p l e ({ frames := 0, cells := 0, slots := 0, locals := 0 } : Room) s m #[(.int p1)] below meth c s₁ [] 0 0 := Stand.of_body Bd
  have e0 : s₁.heap = h0 := by rw [← hh, Bd.state]; rfl
  have N0 := Fr.nil n0
  have hp' := hp
  obtain ⟨S_w_PLATFORM_DEPLOY, E_w_PLATFORM_DEPLOY, S_w_SERVER_START, E_w_SERVER_START, S_w_PLATFORM_DELETE, E_w_PLATFORM_DELETE, S_w_SERVER_DEPLOY, E_w_SERVER_DEPLOY, S_w_DISK_DETACH, E_w_DISK_DETACH, S_w_NIC_DETACH, E_w_NIC_DETACH, S_w_SERVER_STOP, E_w_SERVER_STOP, S_w_SNAPSHOT_CREATE, E_w_SNAPSHOT_CREATE, S_w_NIC_ATTACH, E_w_NIC_ATTACH, S_w_SNAPSHOT_DELETE, E_w_SNAPSHOT_DELETE, S_w_DISK_ATTACH, E_w_DISK_ATTACH, S_w_SERVER_DELETE, E_w_SERVER_DELETE, F_ordinal_w_SERVER_START, F_ordinal_w_PLATFORM_DEPLOY, F_ordinal_w_PLATFORM_DELETE, F_ordinal_w_SERVER_DEPLOY, F_ordinal_w_DISK_DETACH, F_ordinal_w_NIC_DETACH, F_ordinal_w_SERVER_STOP, F_ordinal_w_SNAPSHOT_CREATE, F_ordinal_w_NIC_ATTACH, F_ordinal_w_SNAPSHOT_DELETE, F_ordinal_w_DISK_ATTACH, F_ordinal_w_SERVER_DELETE⟩ := hp'
  have pre0 : ∀ t, Steps p.tables e below (s₁.setTop (mkF m 0 #[.val (.int p1)] [])) t → Steps p.tables e below (s₁.setTop (entryFrame m #[(.int p1)] 1)) t := fun t k => castTop (ef_1_0 m p1) k
  obtain ⟨T1, X1, e1, st1⟩ := getS2 X0 hx hZ hown (host := "") (Or.inl (hw _ (List.mem_of_getElem? (i := 5) rfl))) Via.refl e0 (S_w_PLATFORM_DEPLOY.ext O0.2) (g := (mkF m 4 #[.val (.int p1)] [])) rfl (hb hby d1_4)
  obtain ⟨fs, hr, hrun, hended, hW, hsame⟩ := X1.leave (v := some (.ref w_PLATFORM_DEPLOY)) (fun h => by rw [Bd.returns] at h; cases h)
  refine ⟨_, _, pre0 _ ?_, hrun, hended, _, _, rfl, ?_, ⟨_, rfl⟩, hW, hsame.mono (by decide) (by decide)⟩
  · show Sp p e below s₁ (mkF m 0 #[.val (.int p1)] []) _
    refine XS.iloadN X0.here hx rfl (hb hby d1_0) rfl ?_
    show Sp p e below s₁ (mkF m 1 #[.val (.int p1)] [(.int p1)]) _
    refine XS.ifNo X0.here hx rfl (hb hby d1_1) rfl ((if0 _ _).trans (teq hc1).2) ?_
    show Sp p e below s₁ (mkF m 4 #[.val (.int p1)] []) _
    refine st1 _ ?_
    show Sp p e below T1 (mkF m 7 #[.val (.int p1)] [(.ref w_PLATFORM_DEPLOY)]) _
    jvm_step X1.here [X1.here.top, hx, (hb hby d1_7), X1.method', Bd.returns, Value.isRef, FieldType.isReference]
    first | (intro acts; rw [hr _ acts rfl rfl rfl]) | rw [hr _ _ rfl rfl rfl]
    exact Steps.refl _
  · show Q1 Z w_PLATFORM_DEPLOY w_SERVER_START w_PLATFORM_DELETE w_SERVER_DEPLOY w_DISK_DETACH w_NIC_DETACH w_SERVER_STOP w_SNAPSHOT_CREATE w_NIC_ATTACH w_SNAPSHOT_DELETE w_DISK_ATTACH w_SERVER_DELETE p1 h0 n0 _ T1.heap _
    rw [e1]
    exact ⟨rfl, N0, rfl⟩
theorem pd_0 : parseMethodDescriptor "(I)Lcom/example/ratebook/ratebook/model/EventType;" = some ⟨[.int], some (.object "com/example/ratebook/ratebook/model/EventType")⟩ := by decide +kernel
theorem d2_0 : decode prog_20_method_5_code 0 = .ok (.aload_n 0, 1) := by decide +kernel
theorem d2_1 : decode prog_20_method_5_code 1 = .ok (.getstatic 3, 3) := by decide +kernel
theorem d2_4 : decode prog_20_method_5_code 4 = .ok (.if_acmp .eq 10, 3) := by decide +kernel
theorem d2_14 : decode prog_20_method_5_code 14 = .ok (.iconst 1, 1) := by decide +kernel
theorem d2_15 : decode prog_20_method_5_code 15 = .ok (.goto 4, 3) := by decide +kernel
theorem d2_19 : decode prog_20_method_5_code 19 = .ok (.ireturn, 1) := by decide +kernel
abbrev y1 : MethodName := (⟨"com/example/ratebook/ratebook/model/EventType", "isPlatformEvent", "()Z"⟩ : MethodName)
theorem ef_2_0 (m : MethodId) (x0 : Addr) : entryFrame m #[(.ref x0)] 1 = mkF m 0 #[.val (.ref x0)] [] := by first | (simp [entryFrame, mkF, argsToLocals, Value.category]; done) | rfl
theorem pn_2 : plainName "com/example/ratebook/ratebook/model/EventType" = true := by first | (simp [plainName, overriddenIn]; done) | decide +kernel
def Q2 (Z : State) (w_PLATFORM_DEPLOY : Addr) (w_SERVER_START : Addr) (w_PLATFORM_DELETE : Addr) (w_SERVER_DEPLOY : Addr) (w_DISK_DETACH : Addr) (w_NIC_DETACH : Addr) (w_SERVER_STOP : Addr) (w_SNAPSHOT_CREATE : Addr) (w_NIC_ATTACH : Addr) (w_SNAPSHOT_DELETE : Addr) (w_DISK_ATTACH : Addr) (w_SERVER_DELETE : Addr) (h0 : Heap) (n0 : Nat) (v : Option Value) (h : Heap) (L : List Loc) : Prop := v = some (.int (1 : Int32)) ∧ Fr n0 L ∧ h = h0
set_option maxRecDepth 65536 in
set_option maxHeartbeats 40000000 in
theorem rm2 (l : Launch) (Z : State) (a0 : Array Value) (hw : ∀ d ∈ tables_1, d.before a0 Z = true) (ws : List Jvm.Cond) (w_PLATFORM_DEPLOY w_SERVER_START w_PLATFORM_DELETE w_SERVER_DEPLOY w_DISK_DETACH w_NIC_DETACH w_SERVER_STOP w_SNAPSHOT_CREATE w_NIC_ATTACH w_SNAPSHOT_DELETE w_DISK_ATTACH w_SERVER_DELETE : Addr) (hp : Perm Z w_PLATFORM_DEPLOY w_SERVER_START w_PLATFORM_DELETE w_SERVER_DEPLOY w_DISK_DETACH w_NIC_DETACH w_SERVER_STOP w_SNAPSHOT_CREATE w_NIC_ATTACH w_SNAPSHOT_DELETE w_DISK_ATTACH w_SERVER_DELETE) (h0 : Heap) (n0 : Nat) (O0 : Old Z n0 h0) :
    MetFree l y1 (head1 (Jvm.Cond.code y1 prog_20_method_5_code 1 (some .boolean) :: ws) ({ frames := 0, cells := 0, slots := 0, locals := 0 } : Room)) (fun a U => a = #[(.ref w_PLATFORM_DEPLOY)] ∧ Z.Warmed39 U.vm ∧ U.heap = h0) (fun _ _ _ _ _ => True) (fun _ U o U' => ∃ v L, o = .returned v ∧ Q2 Z w_PLATFORM_DEPLOY w_SERVER_START w_PLATFORM_DELETE w_SERVER_DEPLOY w_DISK_DETACH w_NIC_DETACH w_SERVER_STOP w_SNAPSHOT_CREATE w_NIC_ATTACH w_SNAPSHOT_DELETE w_DISK_ATTACH w_SERVER_DELETE  h0 n0 v U'.heap L ∧ FrameEnd U o U' L ({ frames := 0, cells := 0, slots := 0, locals := 0 } : Room).cells ({ frames := 0, cells := 0, slots := 0, locals := 0 } : Room).slots) := by
  refine MetFree.of_bodySF (plainFor_of_name pn_2) hisR ?_
  intro p e s m args below meth c s₁ Bd hml0 hP hK
  obtain ⟨rfl, hZ, hh⟩ := hP
  have hx := Bd.exec
  have hby := Bd.bytes
  have hml : c.maxLocals = 1 := hml0
  have hown : s.vm.findClass "com/example/ratebook/ratebook/model/EventType" = some m.cls := findClass_of_methodNamed Bd.named
  have hnm := (name_of_methodNamed Bd.named Bd.method).1
  have X0 : Stand p l e ({ frames := 0, cells := 0, slots := 0, locals := 0 } : Room) s m #[(.ref w_PLATFORM_DEPLOY)] below meth c s₁ [] 0 0 := Stand.of_body Bd
  have e0 : s₁.heap = h0 := by rw [← hh, Bd.state]; rfl
  have N0 := Fr.nil n0
  have hp' := hp
  obtain ⟨S_w_PLATFORM_DEPLOY, E_w_PLATFORM_DEPLOY, S_w_SERVER_START, E_w_SERVER_START, S_w_PLATFORM_DELETE, E_w_PLATFORM_DELETE, S_w_SERVER_DEPLOY, E_w_SERVER_DEPLOY, S_w_DISK_DETACH, E_w_DISK_DETACH, S_w_NIC_DETACH, E_w_NIC_DETACH, S_w_SERVER_STOP, E_w_SERVER_STOP, S_w_SNAPSHOT_CREATE, E_w_SNAPSHOT_CREATE, S_w_NIC_ATTACH, E_w_NIC_ATTACH, S_w_SNAPSHOT_DELETE, E_w_SNAPSHOT_DELETE, S_w_DISK_ATTACH, E_w_DISK_ATTACH, S_w_SERVER_DELETE, E_w_SERVER_DELETE, F_ordinal_w_SERVER_START, F_ordinal_w_PLATFORM_DEPLOY, F_ordinal_w_PLATFORM_DELETE, F_ordinal_w_SERVER_DEPLOY, F_ordinal_w_DISK_DETACH, F_ordinal_w_NIC_DETACH, F_ordinal_w_SERVER_STOP, F_ordinal_w_SNAPSHOT_CREATE, F_ordinal_w_NIC_ATTACH, F_ordinal_w_SNAPSHOT_DELETE, F_ordinal_w_DISK_ATTACH, F_ordinal_w_SERVER_DELETE⟩ := hp'
  have pre0 : ∀ t, Steps p.tables e below (s₁.setTop (mkF m 0 #[.val (.ref w_PLATFORM_DEPLOY)] [])) t → Steps p.tables e below (s₁.setTop (entryFrame m #[(.ref w_PLATFORM_DEPLOY)] 1)) t := fun t k => castTop (ef_2_0 m w_PLATFORM_DEPLOY) k
  obtain ⟨T1, X1, e1, st1⟩ := getS2 X0 hx hZ hown (host := "") (Or.inl (hw _ (List.mem_of_getElem? (i := 13) rfl))) Via.refl e0 (S_w_PLATFORM_DEPLOY.ext O0.2) (g := (mkF m 1 #[.val (.ref w_PLATFORM_DEPLOY)] [(.ref w_PLATFORM_DEPLOY)])) rfl (hb hby d2_1)
  obtain ⟨fs, hr, hrun, hended, hW, hsame⟩ := X1.leave (v := some (.int (1 : Int32))) (fun h => by rw [Bd.returns] at h; cases h)
  refine ⟨_, _, pre0 _ ?_, hrun, hended, _, _, rfl, ?_, ⟨_, rfl⟩, hW, hsame.mono (by decide) (by decide)⟩
  · show Sp p e below s₁ (mkF m 0 #[.val (.ref w_PLATFORM_DEPLOY)] []) _
    refine XS.aloadN X0.here hx rfl (hb hby d2_0) rfl rfl ?_
    show Sp p e below s₁ (mkF m 1 #[.val (.ref w_PLATFORM_DEPLOY)] [(.ref w_PLATFORM_DEPLOY)]) _
    refine st1 _ ?_
    show Sp p e below T1 (mkF m 4 #[.val (.ref w_PLATFORM_DEPLOY)] [(.ref w_PLATFORM_DEPLOY), (.ref w_PLATFORM_DEPLOY)]) _
    refine Jvm.RoadKit.acmp (g := (mkF m 4 #[.val (.ref w_PLATFORM_DEPLOY)] [(.ref w_PLATFORM_DEPLOY), (.ref w_PLATFORM_DEPLOY)])) X1 hx rfl rfl rfl (pc0 := 4) (pc' := 14) (same := true) rfl (hb hby d2_4) rfl (decide_eq_true rfl) (by decide) (by decide) ?_
    show Sp p e below T1 (mkF m 14 #[.val (.ref w_PLATFORM_DEPLOY)] []) _
    refine XS.iconst X1.here hx rfl (hb hby d2_14) ?_
    show Sp p e below T1 (mkF m 15 #[.val (.ref w_PLATFORM_DEPLOY)] [(.int (1 : Int32))]) _
    refine XS.goto X1.here hx rfl (pc0 := 15) (pc' := 19) rfl (hb hby d2_15) (by decide) (by decide) ?_
    show Sp p e below T1 (mkF m 19 #[.val (.ref w_PLATFORM_DEPLOY)] [(.int (1 : Int32))]) _
    exact retN X1 hx (t := .boolean) Bd.returns (by simp) (hb hby d2_19) hr
  · show Q2 Z w_PLATFORM_DEPLOY w_SERVER_START w_PLATFORM_DELETE w_SERVER_DEPLOY w_DISK_DETACH w_NIC_DETACH w_SERVER_STOP w_SNAPSHOT_CREATE w_NIC_ATTACH w_SNAPSHOT_DELETE w_DISK_ATTACH w_SERVER_DELETE  h0 n0 _ T1.heap _
    rw [e1]
    exact ⟨rfl, N0, rfl⟩
theorem pd_1 : parseMethodDescriptor "()Z" = some ⟨[], some .boolean⟩ := by decide +kernel
theorem d3_0 : decode method_3_code 0 = .ok (.iload_n 0, 1) := by decide +kernel
theorem d3_1 : decode method_3_code 1 = .ok (.ifCond .ne 5, 3) := by decide +kernel
theorem d3_4 : decode method_3_code 4 = .ok (.iconst 1, 1) := by decide +kernel
theorem d3_5 : decode method_3_code 5 = .ok (.ireturn, 1) := by decide +kernel
abbrev y2 : MethodName := (⟨"com/example/ratebook/ratebook/model/EventTypeIsPlatformEventPinLaw", "expected", "(I)Z"⟩ : MethodName)
theorem ef_3_0 (m : MethodId) (x0 : Int32) : entryFrame m #[(.int x0)] 1 = mkF m 0 #[.val (.int x0)] [] := by first | (simp [entryFrame, mkF, argsToLocals, Value.category]; done) | rfl
def Q3 (Z : State) (w_PLATFORM_DEPLOY : Addr) (w_SERVER_START : Addr) (w_PLATFORM_DELETE : Addr) (w_SERVER_DEPLOY : Addr) (w_DISK_DETACH : Addr) (w_NIC_DETACH : Addr) (w_SERVER_STOP : Addr) (w_SNAPSHOT_CREATE : Addr) (w_NIC_ATTACH : Addr) (w_SNAPSHOT_DELETE : Addr) (w_DISK_ATTACH : Addr) (w_SERVER_DELETE : Addr) (p1 : Int32) (h0 : Heap) (n0 : Nat) (v : Option Value) (h : Heap) (L : List Loc) : Prop := v = some (.int (1 : Int32)) ∧ Fr n0 L ∧ h = h0
set_option maxRecDepth 65536 in
set_option maxHeartbeats 40000000 in
theorem rm3 (l : Launch) (Z : State) (a0 : Array Value) (hw : ∀ d ∈ tables_1, d.before a0 Z = true) (ws : List Jvm.Cond) (w_PLATFORM_DEPLOY w_SERVER_START w_PLATFORM_DELETE w_SERVER_DEPLOY w_DISK_DETACH w_NIC_DETACH w_SERVER_STOP w_SNAPSHOT_CREATE w_NIC_ATTACH w_SNAPSHOT_DELETE w_DISK_ATTACH w_SERVER_DELETE : Addr) (hp : Perm Z w_PLATFORM_DEPLOY w_SERVER_START w_PLATFORM_DELETE w_SERVER_DEPLOY w_DISK_DETACH w_NIC_DETACH w_SERVER_STOP w_SNAPSHOT_CREATE w_NIC_ATTACH w_SNAPSHOT_DELETE w_DISK_ATTACH w_SERVER_DELETE) (p1 : Int32) (h0 : Heap) (n0 : Nat) (O0 : Old Z n0 h0) (hc1 : p1 = (0 : Int32)) :
    MetFree l y2 (head1 (Jvm.Cond.code y2 method_3_code 1 (some .boolean) :: ws) ({ frames := 0, cells := 0, slots := 0, locals := 0 } : Room)) (fun a U => a = #[(.int p1)] ∧ Z.Warmed39 U.vm ∧ U.heap = h0) (fun _ _ _ _ _ => True) (fun _ U o U' => ∃ v L, o = .returned v ∧ Q3 Z w_PLATFORM_DEPLOY w_SERVER_START w_PLATFORM_DELETE w_SERVER_DEPLOY w_DISK_DETACH w_NIC_DETACH w_SERVER_STOP w_SNAPSHOT_CREATE w_NIC_ATTACH w_SNAPSHOT_DELETE w_DISK_ATTACH w_SERVER_DELETE p1 h0 n0 v U'.heap L ∧ FrameEnd U o U' L ({ frames := 0, cells := 0, slots := 0, locals := 0 } : Room).cells ({ frames := 0, cells := 0, slots := 0, locals := 0 } : Room).slots) := by
  refine MetFree.of_bodySF (plainFor_of_name pn_1) hisR ?_
  intro p e s m args below meth c s₁ Bd hml0 hP hK
  obtain ⟨rfl, hZ, hh⟩ := hP
  have hx := Bd.exec
  have hby := Bd.bytes
  have hml : c.maxLocals = 1 := hml0
  have hown : s.vm.findClass "com/example/ratebook/ratebook/model/EventTypeIsPlatformEventPinLaw" = some m.cls := findClass_of_methodNamed Bd.named
  have hnm := (name_of_methodNamed Bd.named Bd.method).1
  have X0 : Stand p l e ({ frames := 0, cells := 0, slots := 0, locals := 0 } : Room) s m #[(.int p1)] below meth c s₁ [] 0 0 := Stand.of_body Bd
  have e0 : s₁.heap = h0 := by rw [← hh, Bd.state]; rfl
  have N0 := Fr.nil n0
  have hp' := hp
  obtain ⟨S_w_PLATFORM_DEPLOY, E_w_PLATFORM_DEPLOY, S_w_SERVER_START, E_w_SERVER_START, S_w_PLATFORM_DELETE, E_w_PLATFORM_DELETE, S_w_SERVER_DEPLOY, E_w_SERVER_DEPLOY, S_w_DISK_DETACH, E_w_DISK_DETACH, S_w_NIC_DETACH, E_w_NIC_DETACH, S_w_SERVER_STOP, E_w_SERVER_STOP, S_w_SNAPSHOT_CREATE, E_w_SNAPSHOT_CREATE, S_w_NIC_ATTACH, E_w_NIC_ATTACH, S_w_SNAPSHOT_DELETE, E_w_SNAPSHOT_DELETE, S_w_DISK_ATTACH, E_w_DISK_ATTACH, S_w_SERVER_DELETE, E_w_SERVER_DELETE, F_ordinal_w_SERVER_START, F_ordinal_w_PLATFORM_DEPLOY, F_ordinal_w_PLATFORM_DELETE, F_ordinal_w_SERVER_DEPLOY, F_ordinal_w_DISK_DETACH, F_ordinal_w_NIC_DETACH, F_ordinal_w_SERVER_STOP, F_ordinal_w_SNAPSHOT_CREATE, F_ordinal_w_NIC_ATTACH, F_ordinal_w_SNAPSHOT_DELETE, F_ordinal_w_DISK_ATTACH, F_ordinal_w_SERVER_DELETE⟩ := hp'
  have pre0 : ∀ t, Steps p.tables e below (s₁.setTop (mkF m 0 #[.val (.int p1)] [])) t → Steps p.tables e below (s₁.setTop (entryFrame m #[(.int p1)] 1)) t := fun t k => castTop (ef_3_0 m p1) k
  obtain ⟨fs, hr, hrun, hended, hW, hsame⟩ := X0.leave (v := some (.int (1 : Int32))) (fun h => by rw [Bd.returns] at h; cases h)
  refine ⟨_, _, pre0 _ ?_, hrun, hended, _, _, rfl, ?_, ⟨_, rfl⟩, hW, hsame.mono (by decide) (by decide)⟩
  · show Sp p e below s₁ (mkF m 0 #[.val (.int p1)] []) _
    refine XS.iloadN X0.here hx rfl (hb hby d3_0) rfl ?_
    show Sp p e below s₁ (mkF m 1 #[.val (.int p1)] [(.int p1)]) _
    refine XS.ifNo X0.here hx rfl (hb hby d3_1) rfl ((if0 _ _).trans (teq hc1).2) ?_
    show Sp p e below s₁ (mkF m 4 #[.val (.int p1)] []) _
    refine XS.iconst X0.here hx rfl (hb hby d3_4) ?_
    show Sp p e below s₁ (mkF m 5 #[.val (.int p1)] [(.int (1 : Int32))]) _
    exact retN X0 hx (t := .boolean) Bd.returns (by simp) (hb hby d3_5) hr
  · show Q3 Z w_PLATFORM_DEPLOY w_SERVER_START w_PLATFORM_DELETE w_SERVER_DEPLOY w_DISK_DETACH w_NIC_DETACH w_SERVER_STOP w_SNAPSHOT_CREATE w_NIC_ATTACH w_SNAPSHOT_DELETE w_DISK_ATTACH w_SERVER_DELETE p1 h0 n0 _ s₁.heap _
    rw [e0]
    exact ⟨rfl, N0, rfl⟩
theorem pd_2 : parseMethodDescriptor "(I)Z" = some ⟨[.int], some .boolean⟩ := by decide +kernel
theorem ef_0_0 (m : MethodId) (x0 : Int32) : entryFrame m #[(.int x0)] maxLocals = mkF m 0 #[.val (.int x0), .unset, .unset] [] := by first | (simp [entryFrame, mkF, argsToLocals, Value.category, maxLocals]; done) | rfl
set_option maxRecDepth 65536 in
set_option maxHeartbeats 40000000 in
theorem rm4 (l : Launch) (Z : State) (a0 : Array Value) (hw : ∀ d ∈ tables_1, d.before a0 Z = true) (ws : List Jvm.Cond) (w_PLATFORM_DEPLOY w_SERVER_START w_PLATFORM_DELETE w_SERVER_DEPLOY w_DISK_DETACH w_NIC_DETACH w_SERVER_STOP w_SNAPSHOT_CREATE w_NIC_ATTACH w_SNAPSHOT_DELETE w_DISK_ATTACH w_SERVER_DELETE : Addr) (hp : Perm Z w_PLATFORM_DEPLOY w_SERVER_START w_PLATFORM_DELETE w_SERVER_DEPLOY w_DISK_DETACH w_NIC_DETACH w_SERVER_STOP w_SNAPSHOT_CREATE w_NIC_ATTACH w_SNAPSHOT_DELETE w_DISK_ATTACH w_SERVER_DELETE) (p0 : Int32) (h0 : Heap) (n0 : Nat) (O0 : Old Z n0 h0) (hc1 : ((p0 &&& (2147483647 : Int32)) % (12 : Int32)) = (0 : Int32)) :
    MetFree l x (head1 (Jvm.Cond.code x code maxLocals ret :: ws) room_1) (fun a U => a = #[(.int p0)] ∧ Z.Warmed39 U.vm ∧ U.heap = h0) (fun _ _ _ _ _ => True) (fun _ U o U' => ∃ v L, o = .returned v ∧ (v = some (.int (1 : Int32)) ∧ Fr n0 L) ∧ FrameEnd U o U' L 0 0) := by
  refine MetFree.of_bodySF (plainFor_of_name pn_1) hisR ?_
  intro p e s m args below meth c s₁ Bd hml0 hP hK
  obtain ⟨rfl, hZ, hh⟩ := hP
  have hx := Bd.exec
  have hby := Bd.bytes
  have hml : c.maxLocals = 3 := hml0
  have hown : s.vm.findClass "com/example/ratebook/ratebook/model/EventTypeIsPlatformEventPinLaw" = some m.cls := findClass_of_methodNamed Bd.named
  have hnm := (name_of_methodNamed Bd.named Bd.method).1
  have X0 : Stand p l e room_1 s m #[(.int p0)] below meth c s₁ [] 0 0 := Stand.of_body Bd
  have e0 : s₁.heap = h0 := by rw [← hh, Bd.state]; rfl
  have N0 := Fr.nil n0
  have hp' := hp
  obtain ⟨S_w_PLATFORM_DEPLOY, E_w_PLATFORM_DEPLOY, S_w_SERVER_START, E_w_SERVER_START, S_w_PLATFORM_DELETE, E_w_PLATFORM_DELETE, S_w_SERVER_DEPLOY, E_w_SERVER_DEPLOY, S_w_DISK_DETACH, E_w_DISK_DETACH, S_w_NIC_DETACH, E_w_NIC_DETACH, S_w_SERVER_STOP, E_w_SERVER_STOP, S_w_SNAPSHOT_CREATE, E_w_SNAPSHOT_CREATE, S_w_NIC_ATTACH, E_w_NIC_ATTACH, S_w_SNAPSHOT_DELETE, E_w_SNAPSHOT_DELETE, S_w_DISK_ATTACH, E_w_DISK_ATTACH, S_w_SERVER_DELETE, E_w_SERVER_DELETE, F_ordinal_w_SERVER_START, F_ordinal_w_PLATFORM_DEPLOY, F_ordinal_w_PLATFORM_DELETE, F_ordinal_w_SERVER_DEPLOY, F_ordinal_w_DISK_DETACH, F_ordinal_w_NIC_DETACH, F_ordinal_w_SERVER_STOP, F_ordinal_w_SNAPSHOT_CREATE, F_ordinal_w_NIC_ATTACH, F_ordinal_w_SNAPSHOT_DELETE, F_ordinal_w_DISK_ATTACH, F_ordinal_w_SERVER_DELETE⟩ := hp'
  have pre0 : ∀ t, Steps p.tables e below (s₁.setTop (mkF m 0 #[.val (.int p0), .unset, .unset] [])) t → Steps p.tables e below (s₁.setTop (entryFrame m #[(.int p0)] maxLocals)) t := fun t k => castTop (ef_0_0 m p0) k
  obtain ⟨_, _, ⟨T1, L1, k1, n1⟩, -, X1, ⟨Lc1, hQ1, l1, y1, z1⟩, st1⟩ := Jvm.LawKit.callS X0 hx (y := y0) hown (mvT hZ (hw _ (List.mem_of_getElem? (i := 1) rfl))) (mvT hZ (hw _ (List.mem_of_getElem? (i := 2) rfl))) (mvT hZ (hw _ (List.mem_of_getElem? (i := 3) rfl))) (mvT hZ (hw _ (List.mem_of_getElem? (i := 4) rfl))) (by decide) (backOf (W := 0) (rm1 l Z a0 hw [] w_PLATFORM_DEPLOY w_SERVER_START w_PLATFORM_DELETE w_SERVER_DEPLOY w_DISK_DETACH w_NIC_DETACH w_SERVER_STOP w_SNAPSHOT_CREATE w_NIC_ATTACH w_SNAPSHOT_DELETE w_DISK_ATTACH w_SERVER_DELETE hp ((p0 &&& (2147483647 : Int32)) % (12 : Int32)) h0 n0 O0 hc1) hZ (hw _ (List.mem_of_getElem? (i := 4) rfl)) (hw _ (List.mem_of_getElem? (i := 3) rfl)) (by decide) (by decide)) (g := (mkF m 9 #[.val (.int p0), .val (.int ((p0 &&& (2147483647 : Int32)) % (12 : Int32))), .unset] [(.int ((p0 &&& (2147483647 : Int32)) % (12 : Int32)))])) rfl (by rw [hml]; rfl) (argsL := [(.int ((p0 &&& (2147483647 : Int32)) % (12 : Int32)))]) (rest := []) (lenOf pd_0 rfl) rfl (by show 2 * 0 + _ ≤ _; exact Nat.le_of_eq rfl) (hb hby at_9) (fun _ _ => ⟨rfl, e0, (by decide : 0 + 0 ≤ _), (by decide : 0 + 0 ≤ _)⟩)
  dsimp only [Pt.U, Pt.locs, Pt.cells, Pt.slots] at X1 l1 y1 z1 st1 hQ1
  subst l1 y1 z1
  obtain ⟨rfl, Nq1, eq1⟩ := hQ1
  have N1 := Fr.app N0 Nq1
  obtain ⟨cq2, kq2, q2a, q2b, q2c⟩ := isOf hZ eq1 (E_w_PLATFORM_DEPLOY.ext O0.2)
  obtain ⟨_, _, ⟨T2, L2, k2, n2⟩, -, X2, ⟨Lc2, hQ2, l2, y2, z2⟩, st2⟩ := X1.virtualBack hx (y := y1) (z := y1) hown (mvT hZ (hw _ (List.mem_of_getElem? (i := 8) rfl))) (mvT hZ (hw _ (List.mem_of_getElem? (i := 9) rfl))) (notFace_of_selects (args := #[]) (mvT hZ (hw _ (List.mem_of_getElem? (i := 11) rfl)))) (mvT hZ (hw _ (List.mem_of_getElem? (i := 11) rfl))) (mvT hZ (hw _ (List.mem_of_getElem? (i := 10) rfl))) (by decide) (backOf (W := 0) (rm2 l Z a0 hw [] w_PLATFORM_DEPLOY w_SERVER_START w_PLATFORM_DELETE w_SERVER_DEPLOY w_DISK_DETACH w_NIC_DETACH w_SERVER_STOP w_SNAPSHOT_CREATE w_NIC_ATTACH w_SNAPSHOT_DELETE w_DISK_ATTACH w_SERVER_DELETE hp h0 n0 O0) hZ (hw _ (List.mem_of_getElem? (i := 12) rfl)) (hw _ (List.mem_of_getElem? (i := 6) rfl)) (by decide) (by decide)) q2a q2c (g := (mkF m 14 #[.val (.int p0), .val (.int ((p0 &&& (2147483647 : Int32)) % (12 : Int32))), .val (.ref w_PLATFORM_DEPLOY)] [(.ref w_PLATFORM_DEPLOY)])) rfl (by rw [hml]; rfl) (Steps.refl _) (argsL := []) (rest := []) (lenOf pd_1 rfl) rfl (by show 2 * 0 + _ ≤ _; exact Nat.le_of_eq rfl) (hb hby at_14) (fun _ _ => ⟨rfl, eq1, (by decide : 0 + 0 ≤ _), (by decide : 0 + 0 ≤ _)⟩)
  dsimp only [Pt.U, Pt.locs, Pt.cells, Pt.slots] at X2 l2 y2 z2 st2 hQ2
  subst l2 y2 z2
  obtain ⟨rfl, Nq2, eq2⟩ := hQ2
  have N2 := Fr.app N1 Nq2
  obtain ⟨_, _, ⟨T3, L3, k3, n3⟩, -, X3, ⟨Lc3, hQ3, l3, y3, z3⟩, st3⟩ := Jvm.LawKit.callS X2 hx (y := y2) hown (mvT hZ (hw _ (List.mem_of_getElem? (i := 14) rfl))) (mvT hZ (hw _ (List.mem_of_getElem? (i := 15) rfl))) (mvT hZ (hw _ (List.mem_of_getElem? (i := 3) rfl))) (mvT hZ (hw _ (List.mem_of_getElem? (i := 16) rfl))) (by decide) (backOf (W := 1) (rm3 l Z a0 hw [] w_PLATFORM_DEPLOY w_SERVER_START w_PLATFORM_DELETE w_SERVER_DEPLOY w_DISK_DETACH w_NIC_DETACH w_SERVER_STOP w_SNAPSHOT_CREATE w_NIC_ATTACH w_SNAPSHOT_DELETE w_DISK_ATTACH w_SERVER_DELETE hp ((p0 &&& (2147483647 : Int32)) % (12 : Int32)) h0 n0 O0 hc1) hZ (hw _ (List.mem_of_getElem? (i := 16) rfl)) (hw _ (List.mem_of_getElem? (i := 3) rfl)) (by decide) (by decide)) (g := (mkF m 18 #[.val (.int p0), .val (.int ((p0 &&& (2147483647 : Int32)) % (12 : Int32))), .val (.ref w_PLATFORM_DEPLOY)] [(.int ((p0 &&& (2147483647 : Int32)) % (12 : Int32))), (.int (1 : Int32))])) rfl (by rw [hml]; rfl) (argsL := [(.int ((p0 &&& (2147483647 : Int32)) % (12 : Int32)))]) (rest := [(.int (1 : Int32))]) (lenOf pd_2 rfl) rfl (by show 2 * 0 + _ ≤ _; exact Nat.le_of_eq rfl) (hb hby at_18) (fun _ _ => ⟨rfl, eq2, (by decide : 0 + 0 ≤ _), (by decide : 0 + 0 ≤ _)⟩)
  dsimp only [Pt.U, Pt.locs, Pt.cells, Pt.slots] at X3 l3 y3 z3 st3 hQ3
  subst l3 y3 z3
  obtain ⟨rfl, Nq3, eq3⟩ := hQ3
  have N3 := Fr.app N2 Nq3
  obtain ⟨fs, hr, hrun, hended, hW, hsame⟩ := X3.leave (v := some (.int (1 : Int32))) (fun h => by rw [Bd.returns] at h; cases h)
  refine ⟨_, _, pre0 _ ?_, hrun, hended, _, _, rfl, ?_, ⟨_, rfl⟩, hW, hsame.mono (by decide) (by decide)⟩
  · show Sp p e below s₁ (mkF m 0 #[.val (.int p0), .unset, .unset] []) _
    refine XS.iloadN X0.here hx rfl (hb hby at_0) rfl ?_
    show Sp p e below s₁ (mkF m 1 #[.val (.int p0), .unset, .unset] [(.int p0)]) _
    refine X0.ldcI hx hown (mvT hZ (hw _ (List.mem_of_getElem? (i := 0) rfl))) rfl (hb hby at_1) ?_
    show Sp p e below s₁ (mkF m 3 #[.val (.int p0), .unset, .unset] [(.int (2147483647 : Int32)), (.int p0)]) _
    refine XS.iand X0.here hx rfl (hb hby at_3) rfl ?_
    show Sp p e below s₁ (mkF m 4 #[.val (.int p0), .unset, .unset] [(.int (p0 &&& (2147483647 : Int32)))]) _
    refine XS.bipush X0.here hx rfl (hb hby at_4) ?_
    show Sp p e below s₁ (mkF m 6 #[.val (.int p0), .unset, .unset] [(.int (12 : Int32)), (.int (p0 &&& (2147483647 : Int32)))]) _
    refine iremM X0 hx rfl (hb hby at_6) rfl (by decide) ?_
    show Sp p e below s₁ (mkF m 7 #[.val (.int p0), .unset, .unset] [(.int ((p0 &&& (2147483647 : Int32)) % (12 : Int32)))]) _
    refine XS.istoreN X0.here hx rfl (hb hby at_7) rfl (l' := #[.val (.int p0), .val (.int ((p0 &&& (2147483647 : Int32)) % (12 : Int32))), .unset]) rfl ?_
    show Sp p e below s₁ (mkF m 8 #[.val (.int p0), .val (.int ((p0 &&& (2147483647 : Int32)) % (12 : Int32))), .unset] []) _
    refine XS.iloadN X0.here hx rfl (hb hby at_8) rfl ?_
    show Sp p e below s₁ (mkF m 9 #[.val (.int p0), .val (.int ((p0 &&& (2147483647 : Int32)) % (12 : Int32))), .unset] [(.int ((p0 &&& (2147483647 : Int32)) % (12 : Int32)))]) _
    refine st1 _ ?_
    show Sp p e below T1 (mkF m 12 #[.val (.int p0), .val (.int ((p0 &&& (2147483647 : Int32)) % (12 : Int32))), .unset] [(.ref w_PLATFORM_DEPLOY)]) _
    refine XS.astoreN X1.here hx rfl (hb hby at_12) rfl rfl (l' := #[.val (.int p0), .val (.int ((p0 &&& (2147483647 : Int32)) % (12 : Int32))), .val (.ref w_PLATFORM_DEPLOY)]) rfl ?_
    show Sp p e below T1 (mkF m 13 #[.val (.int p0), .val (.int ((p0 &&& (2147483647 : Int32)) % (12 : Int32))), .val (.ref w_PLATFORM_DEPLOY)] []) _
    refine XS.aloadN X1.here hx rfl (hb hby at_13) rfl rfl ?_
    show Sp p e below T1 (mkF m 14 #[.val (.int p0), .val (.int ((p0 &&& (2147483647 : Int32)) % (12 : Int32))), .val (.ref w_PLATFORM_DEPLOY)] [(.ref w_PLATFORM_DEPLOY)]) _
    refine st2.trans ?_
    show Sp p e below T2 (mkF m 17 #[.val (.int p0), .val (.int ((p0 &&& (2147483647 : Int32)) % (12 : Int32))), .val (.ref w_PLATFORM_DEPLOY)] [(.int (1 : Int32))]) _
    refine XS.iloadN X2.here hx rfl (hb hby at_17) rfl ?_
    show Sp p e below T2 (mkF m 18 #[.val (.int p0), .val (.int ((p0 &&& (2147483647 : Int32)) % (12 : Int32))), .val (.ref w_PLATFORM_DEPLOY)] [(.int ((p0 &&& (2147483647 : Int32)) % (12 : Int32))), (.int (1 : Int32))]) _
    refine st3 _ ?_
    show Sp p e below T3 (mkF m 21 #[.val (.int p0), .val (.int ((p0 &&& (2147483647 : Int32)) % (12 : Int32))), .val (.ref w_PLATFORM_DEPLOY)] [(.int (1 : Int32)), (.int (1 : Int32))]) _
    refine XS.icmpNo X3.here hx rfl (hb hby at_21) rfl (teq (by decide : (1 : Int32) = (1 : Int32))).2 ?_
    show Sp p e below T3 (mkF m 24 #[.val (.int p0), .val (.int ((p0 &&& (2147483647 : Int32)) % (12 : Int32))), .val (.ref w_PLATFORM_DEPLOY)] []) _
    refine XS.iconst X3.here hx rfl (hb hby at_24) ?_
    show Sp p e below T3 (mkF m 25 #[.val (.int p0), .val (.int ((p0 &&& (2147483647 : Int32)) % (12 : Int32))), .val (.ref w_PLATFORM_DEPLOY)] [(.int (1 : Int32))]) _
    refine XS.goto X3.here hx rfl (pc0 := 25) (pc' := 29) rfl (hb hby at_25) (by decide) (by decide) ?_
    show Sp p e below T3 (mkF m 29 #[.val (.int p0), .val (.int ((p0 &&& (2147483647 : Int32)) % (12 : Int32))), .val (.ref w_PLATFORM_DEPLOY)] [(.int (1 : Int32))]) _
    exact retN X3 hx (t := .boolean) Bd.returns (by simp) (hb hby at_29) hr
  · skip
    exact ⟨rfl, N3⟩
theorem d1_8 : decode method_2_code 8 = .ok (.iload_n 0, 1) := by decide +kernel
theorem d1_9 : decode method_2_code 9 = .ok (.iconst 1, 1) := by decide +kernel
theorem d1_10 : decode method_2_code 10 = .ok (.if_icmp .ne 7, 3) := by decide +kernel
theorem d1_13 : decode method_2_code 13 = .ok (.getstatic 13, 3) := by decide +kernel
theorem d1_16 : decode method_2_code 16 = .ok (.areturn, 1) := by decide +kernel
def Q5 (Z : State) (w_PLATFORM_DEPLOY : Addr) (w_SERVER_START : Addr) (w_PLATFORM_DELETE : Addr) (w_SERVER_DEPLOY : Addr) (w_DISK_DETACH : Addr) (w_NIC_DETACH : Addr) (w_SERVER_STOP : Addr) (w_SNAPSHOT_CREATE : Addr) (w_NIC_ATTACH : Addr) (w_SNAPSHOT_DELETE : Addr) (w_DISK_ATTACH : Addr) (w_SERVER_DELETE : Addr) (p1 : Int32) (h0 : Heap) (n0 : Nat) (v : Option Value) (h : Heap) (L : List Loc) : Prop := v = some (.ref w_PLATFORM_DELETE) ∧ Fr n0 L ∧ h = h0
set_option maxRecDepth 65536 in
set_option maxHeartbeats 40000000 in
theorem rm5 (l : Launch) (Z : State) (a0 : Array Value) (hw : ∀ d ∈ tables_1, d.before a0 Z = true) (ws : List Jvm.Cond) (w_PLATFORM_DEPLOY w_SERVER_START w_PLATFORM_DELETE w_SERVER_DEPLOY w_DISK_DETACH w_NIC_DETACH w_SERVER_STOP w_SNAPSHOT_CREATE w_NIC_ATTACH w_SNAPSHOT_DELETE w_DISK_ATTACH w_SERVER_DELETE : Addr) (hp : Perm Z w_PLATFORM_DEPLOY w_SERVER_START w_PLATFORM_DELETE w_SERVER_DEPLOY w_DISK_DETACH w_NIC_DETACH w_SERVER_STOP w_SNAPSHOT_CREATE w_NIC_ATTACH w_SNAPSHOT_DELETE w_DISK_ATTACH w_SERVER_DELETE) (p1 : Int32) (h0 : Heap) (n0 : Nat) (O0 : Old Z n0 h0) (hc1 : ¬ (p1 = (0 : Int32))) (hc2 : p1 = (1 : Int32)) :
    MetFree l y0 (head1 (Jvm.Cond.code y0 method_2_code 1 (some (.object "com/example/ratebook/ratebook/model/EventType")) :: ws) ({ frames := 0, cells := 0, slots := 0, locals := 0 } : Room)) (fun a U => a = #[(.int p1)] ∧ Z.Warmed39 U.vm ∧ U.heap = h0) (fun _ _ _ _ _ => True) (fun _ U o U' => ∃ v L, o = .returned v ∧ Q5 Z w_PLATFORM_DEPLOY w_SERVER_START w_PLATFORM_DELETE w_SERVER_DEPLOY w_DISK_DETACH w_NIC_DETACH w_SERVER_STOP w_SNAPSHOT_CREATE w_NIC_ATTACH w_SNAPSHOT_DELETE w_DISK_ATTACH w_SERVER_DELETE p1 h0 n0 v U'.heap L ∧ FrameEnd U o U' L ({ frames := 0, cells := 0, slots := 0, locals := 0 } : Room).cells ({ frames := 0, cells := 0, slots := 0, locals := 0 } : Room).slots) := by
  refine MetFree.of_bodySF (plainFor_of_name pn_1) hisR ?_
  intro p e s m args below meth c s₁ Bd hml0 hP hK
  obtain ⟨rfl, hZ, hh⟩ := hP
  have hx := Bd.exec
  have hby := Bd.bytes
  have hml : c.maxLocals = 1 := hml0
  have hown : s.vm.findClass "com/example/ratebook/ratebook/model/EventTypeIsPlatformEventPinLaw" = some m.cls := findClass_of_methodNamed Bd.named
  have hnm := (name_of_methodNamed Bd.named Bd.method).1
  have X0 : Stand p l e ({ frames := 0, cells := 0, slots := 0, locals := 0 } : Room) s m #[(.int p1)] below meth c s₁ [] 0 0 := Stand.of_body Bd
  have e0 : s₁.heap = h0 := by rw [← hh, Bd.state]; rfl
  have N0 := Fr.nil n0
  have hp' := hp
  obtain ⟨S_w_PLATFORM_DEPLOY, E_w_PLATFORM_DEPLOY, S_w_SERVER_START, E_w_SERVER_START, S_w_PLATFORM_DELETE, E_w_PLATFORM_DELETE, S_w_SERVER_DEPLOY, E_w_SERVER_DEPLOY, S_w_DISK_DETACH, E_w_DISK_DETACH, S_w_NIC_DETACH, E_w_NIC_DETACH, S_w_SERVER_STOP, E_w_SERVER_STOP, S_w_SNAPSHOT_CREATE, E_w_SNAPSHOT_CREATE, S_w_NIC_ATTACH, E_w_NIC_ATTACH, S_w_SNAPSHOT_DELETE, E_w_SNAPSHOT_DELETE, S_w_DISK_ATTACH, E_w_DISK_ATTACH, S_w_SERVER_DELETE, E_w_SERVER_DELETE, F_ordinal_w_SERVER_START, F_ordinal_w_PLATFORM_DEPLOY, F_ordinal_w_PLATFORM_DELETE, F_ordinal_w_SERVER_DEPLOY, F_ordinal_w_DISK_DETACH, F_ordinal_w_NIC_DETACH, F_ordinal_w_SERVER_STOP, F_ordinal_w_SNAPSHOT_CREATE, F_ordinal_w_NIC_ATTACH, F_ordinal_w_SNAPSHOT_DELETE, F_ordinal_w_DISK_ATTACH, F_ordinal_w_SERVER_DELETE⟩ := hp'
  have pre0 : ∀ t, Steps p.tables e below (s₁.setTop (mkF m 0 #[.val (.int p1)] [])) t → Steps p.tables e below (s₁.setTop (entryFrame m #[(.int p1)] 1)) t := fun t k => castTop (ef_1_0 m p1) k
  obtain ⟨T1, X1, e1, st1⟩ := getS2 X0 hx hZ hown (host := "") (Or.inl (hw _ (List.mem_of_getElem? (i := 31) rfl))) Via.refl e0 (S_w_PLATFORM_DELETE.ext O0.2) (g := (mkF m 13 #[.val (.int p1)] [])) rfl (hb hby d1_13)
  obtain ⟨fs, hr, hrun, hended, hW, hsame⟩ := X1.leave (v := some (.ref w_PLATFORM_DELETE)) (fun h => by rw [Bd.returns] at h; cases h)
  refine ⟨_, _, pre0 _ ?_, hrun, hended, _, _, rfl, ?_, ⟨_, rfl⟩, hW, hsame.mono (by decide) (by decide)⟩
  · show Sp p e below s₁ (mkF m 0 #[.val (.int p1)] []) _
    refine XS.iloadN X0.here hx rfl (hb hby d1_0) rfl ?_
    show Sp p e below s₁ (mkF m 1 #[.val (.int p1)] [(.int p1)]) _
    refine XS.ifYes X0.here hx rfl (pc0 := 1) (pc' := 8) rfl (hb hby d1_1) rfl ((if0 _ _).trans (feq hc1).2) (by decide) (by decide) ?_
    show Sp p e below s₁ (mkF m 8 #[.val (.int p1)] []) _
    refine XS.iloadN X0.here hx rfl (hb hby d1_8) rfl ?_
    show Sp p e below s₁ (mkF m 9 #[.val (.int p1)] [(.int p1)]) _
    refine XS.iconst X0.here hx rfl (hb hby d1_9) ?_
    show Sp p e below s₁ (mkF m 10 #[.val (.int p1)] [(.int (1 : Int32)), (.int p1)]) _
    refine XS.icmpNo X0.here hx rfl (hb hby d1_10) rfl (teq hc2).2 ?_
    show Sp p e below s₁ (mkF m 13 #[.val (.int p1)] []) _
    refine st1 _ ?_
    show Sp p e below T1 (mkF m 16 #[.val (.int p1)] [(.ref w_PLATFORM_DELETE)]) _
    jvm_step X1.here [X1.here.top, hx, (hb hby d1_16), X1.method', Bd.returns, Value.isRef, FieldType.isReference]
    first | (intro acts; rw [hr _ acts rfl rfl rfl]) | rw [hr _ _ rfl rfl rfl]
    exact Steps.refl _
  · show Q5 Z w_PLATFORM_DEPLOY w_SERVER_START w_PLATFORM_DELETE w_SERVER_DEPLOY w_DISK_DETACH w_NIC_DETACH w_SERVER_STOP w_SNAPSHOT_CREATE w_NIC_ATTACH w_SNAPSHOT_DELETE w_DISK_ATTACH w_SERVER_DELETE p1 h0 n0 _ T1.heap _
    rw [e1]
    exact ⟨rfl, N0, rfl⟩
theorem d2_7 : decode prog_20_method_5_code 7 = .ok (.aload_n 0, 1) := by decide +kernel
theorem d2_8 : decode prog_20_method_5_code 8 = .ok (.getstatic 7, 3) := by decide +kernel
theorem d2_11 : decode prog_20_method_5_code 11 = .ok (.if_acmp .ne 7, 3) := by decide +kernel
def Q6 (Z : State) (w_PLATFORM_DEPLOY : Addr) (w_SERVER_START : Addr) (w_PLATFORM_DELETE : Addr) (w_SERVER_DEPLOY : Addr) (w_DISK_DETACH : Addr) (w_NIC_DETACH : Addr) (w_SERVER_STOP : Addr) (w_SNAPSHOT_CREATE : Addr) (w_NIC_ATTACH : Addr) (w_SNAPSHOT_DELETE : Addr) (w_DISK_ATTACH : Addr) (w_SERVER_DELETE : Addr) (h0 : Heap) (n0 : Nat) (v : Option Value) (h : Heap) (L : List Loc) : Prop := v = some (.int (1 : Int32)) ∧ Fr n0 L ∧ h = h0
set_option maxRecDepth 65536 in
set_option maxHeartbeats 40000000 in
theorem rm6 (l : Launch) (Z : State) (a0 : Array Value) (hw : ∀ d ∈ tables_1, d.before a0 Z = true) (ws : List Jvm.Cond) (w_PLATFORM_DEPLOY w_SERVER_START w_PLATFORM_DELETE w_SERVER_DEPLOY w_DISK_DETACH w_NIC_DETACH w_SERVER_STOP w_SNAPSHOT_CREATE w_NIC_ATTACH w_SNAPSHOT_DELETE w_DISK_ATTACH w_SERVER_DELETE : Addr) (hp : Perm Z w_PLATFORM_DEPLOY w_SERVER_START w_PLATFORM_DELETE w_SERVER_DEPLOY w_DISK_DETACH w_NIC_DETACH w_SERVER_STOP w_SNAPSHOT_CREATE w_NIC_ATTACH w_SNAPSHOT_DELETE w_DISK_ATTACH w_SERVER_DELETE) (h0 : Heap) (n0 : Nat) (O0 : Old Z n0 h0) :
    MetFree l y1 (head1 (Jvm.Cond.code y1 prog_20_method_5_code 1 (some .boolean) :: ws) ({ frames := 0, cells := 0, slots := 0, locals := 0 } : Room)) (fun a U => a = #[(.ref w_PLATFORM_DELETE)] ∧ Z.Warmed39 U.vm ∧ U.heap = h0) (fun _ _ _ _ _ => True) (fun _ U o U' => ∃ v L, o = .returned v ∧ Q6 Z w_PLATFORM_DEPLOY w_SERVER_START w_PLATFORM_DELETE w_SERVER_DEPLOY w_DISK_DETACH w_NIC_DETACH w_SERVER_STOP w_SNAPSHOT_CREATE w_NIC_ATTACH w_SNAPSHOT_DELETE w_DISK_ATTACH w_SERVER_DELETE  h0 n0 v U'.heap L ∧ FrameEnd U o U' L ({ frames := 0, cells := 0, slots := 0, locals := 0 } : Room).cells ({ frames := 0, cells := 0, slots := 0, locals := 0 } : Room).slots) := by
  refine MetFree.of_bodySF (plainFor_of_name pn_2) hisR ?_
  intro p e s m args below meth c s₁ Bd hml0 hP hK
  obtain ⟨rfl, hZ, hh⟩ := hP
  have hx := Bd.exec
  have hby := Bd.bytes
  have hml : c.maxLocals = 1 := hml0
  have hown : s.vm.findClass "com/example/ratebook/ratebook/model/EventType" = some m.cls := findClass_of_methodNamed Bd.named
  have hnm := (name_of_methodNamed Bd.named Bd.method).1
  have X0 : Stand p l e ({ frames := 0, cells := 0, slots := 0, locals := 0 } : Room) s m #[(.ref w_PLATFORM_DELETE)] below meth c s₁ [] 0 0 := Stand.of_body Bd
  have e0 : s₁.heap = h0 := by rw [← hh, Bd.state]; rfl
  have N0 := Fr.nil n0
  have hp' := hp
  obtain ⟨S_w_PLATFORM_DEPLOY, E_w_PLATFORM_DEPLOY, S_w_SERVER_START, E_w_SERVER_START, S_w_PLATFORM_DELETE, E_w_PLATFORM_DELETE, S_w_SERVER_DEPLOY, E_w_SERVER_DEPLOY, S_w_DISK_DETACH, E_w_DISK_DETACH, S_w_NIC_DETACH, E_w_NIC_DETACH, S_w_SERVER_STOP, E_w_SERVER_STOP, S_w_SNAPSHOT_CREATE, E_w_SNAPSHOT_CREATE, S_w_NIC_ATTACH, E_w_NIC_ATTACH, S_w_SNAPSHOT_DELETE, E_w_SNAPSHOT_DELETE, S_w_DISK_ATTACH, E_w_DISK_ATTACH, S_w_SERVER_DELETE, E_w_SERVER_DELETE, F_ordinal_w_SERVER_START, F_ordinal_w_PLATFORM_DEPLOY, F_ordinal_w_PLATFORM_DELETE, F_ordinal_w_SERVER_DEPLOY, F_ordinal_w_DISK_DETACH, F_ordinal_w_NIC_DETACH, F_ordinal_w_SERVER_STOP, F_ordinal_w_SNAPSHOT_CREATE, F_ordinal_w_NIC_ATTACH, F_ordinal_w_SNAPSHOT_DELETE, F_ordinal_w_DISK_ATTACH, F_ordinal_w_SERVER_DELETE⟩ := hp'
  have pre0 : ∀ t, Steps p.tables e below (s₁.setTop (mkF m 0 #[.val (.ref w_PLATFORM_DELETE)] [])) t → Steps p.tables e below (s₁.setTop (entryFrame m #[(.ref w_PLATFORM_DELETE)] 1)) t := fun t k => castTop (ef_2_0 m w_PLATFORM_DELETE) k
  obtain ⟨T1, X1, e1, st1⟩ := getS2 X0 hx hZ hown (host := "") (Or.inl (hw _ (List.mem_of_getElem? (i := 13) rfl))) Via.refl e0 (S_w_PLATFORM_DEPLOY.ext O0.2) (g := (mkF m 1 #[.val (.ref w_PLATFORM_DELETE)] [(.ref w_PLATFORM_DELETE)])) rfl (hb hby d2_1)
  obtain ⟨T2, X2, e2, st2⟩ := getS2 X1 hx hZ hown (host := "") (Or.inl (hw _ (List.mem_of_getElem? (i := 19) rfl))) Via.refl e1 (S_w_PLATFORM_DELETE.ext O0.2) (g := (mkF m 8 #[.val (.ref w_PLATFORM_DELETE)] [(.ref w_PLATFORM_DELETE)])) rfl (hb hby d2_8)
  obtain ⟨fs, hr, hrun, hended, hW, hsame⟩ := X2.leave (v := some (.int (1 : Int32))) (fun h => by rw [Bd.returns] at h; cases h)
  refine ⟨_, _, pre0 _ ?_, hrun, hended, _, _, rfl, ?_, ⟨_, rfl⟩, hW, hsame.mono (by decide) (by decide)⟩
  · show Sp p e below s₁ (mkF m 0 #[.val (.ref w_PLATFORM_DELETE)] []) _
    refine XS.aloadN X0.here hx rfl (hb hby d2_0) rfl rfl ?_
    show Sp p e below s₁ (mkF m 1 #[.val (.ref w_PLATFORM_DELETE)] [(.ref w_PLATFORM_DELETE)]) _
    refine st1 _ ?_
    show Sp p e below T1 (mkF m 4 #[.val (.ref w_PLATFORM_DELETE)] [(.ref w_PLATFORM_DEPLOY), (.ref w_PLATFORM_DELETE)]) _
    refine Jvm.RoadKit.acmp (g := (mkF m 4 #[.val (.ref w_PLATFORM_DELETE)] [(.ref w_PLATFORM_DEPLOY), (.ref w_PLATFORM_DELETE)])) X1 hx rfl rfl rfl (pc0 := 4) (pc' := 7) (same := false) rfl (hb hby d2_4) rfl (decide_eq_false fun q => (Ne.symm (ne_w_PLATFORM_DEPLOY_w_PLATFORM_DELETE hp)) (Value.ref.inj q)) (by decide) (by decide) ?_
    show Sp p e below T1 (mkF m 7 #[.val (.ref w_PLATFORM_DELETE)] []) _
    refine XS.aloadN X1.here hx rfl (hb hby d2_7) rfl rfl ?_
    show Sp p e below T1 (mkF m 8 #[.val (.ref w_PLATFORM_DELETE)] [(.ref w_PLATFORM_DELETE)]) _
    refine st2 _ ?_
    show Sp p e below T2 (mkF m 11 #[.val (.ref w_PLATFORM_DELETE)] [(.ref w_PLATFORM_DELETE), (.ref w_PLATFORM_DELETE)]) _
    refine Jvm.RoadKit.acmp (g := (mkF m 11 #[.val (.ref w_PLATFORM_DELETE)] [(.ref w_PLATFORM_DELETE), (.ref w_PLATFORM_DELETE)])) X2 hx rfl rfl rfl (pc0 := 11) (pc' := 14) (same := true) rfl (hb hby d2_11) rfl (decide_eq_true rfl) (by decide) (by decide) ?_
    show Sp p e below T2 (mkF m 14 #[.val (.ref w_PLATFORM_DELETE)] []) _
    refine XS.iconst X2.here hx rfl (hb hby d2_14) ?_
    show Sp p e below T2 (mkF m 15 #[.val (.ref w_PLATFORM_DELETE)] [(.int (1 : Int32))]) _
    refine XS.goto X2.here hx rfl (pc0 := 15) (pc' := 19) rfl (hb hby d2_15) (by decide) (by decide) ?_
    show Sp p e below T2 (mkF m 19 #[.val (.ref w_PLATFORM_DELETE)] [(.int (1 : Int32))]) _
    exact retN X2 hx (t := .boolean) Bd.returns (by simp) (hb hby d2_19) hr
  · show Q6 Z w_PLATFORM_DEPLOY w_SERVER_START w_PLATFORM_DELETE w_SERVER_DEPLOY w_DISK_DETACH w_NIC_DETACH w_SERVER_STOP w_SNAPSHOT_CREATE w_NIC_ATTACH w_SNAPSHOT_DELETE w_DISK_ATTACH w_SERVER_DELETE  h0 n0 _ T2.heap _
    rw [e2]
    exact ⟨rfl, N0, rfl⟩
theorem d3_6 : decode method_3_code 6 = .ok (.iload_n 0, 1) := by decide +kernel
theorem d3_7 : decode method_3_code 7 = .ok (.iconst 1, 1) := by decide +kernel
theorem d3_8 : decode method_3_code 8 = .ok (.if_icmp .ne 5, 3) := by decide +kernel
theorem d3_11 : decode method_3_code 11 = .ok (.iconst 1, 1) := by decide +kernel
theorem d3_12 : decode method_3_code 12 = .ok (.ireturn, 1) := by decide +kernel
def Q7 (Z : State) (w_PLATFORM_DEPLOY : Addr) (w_SERVER_START : Addr) (w_PLATFORM_DELETE : Addr) (w_SERVER_DEPLOY : Addr) (w_DISK_DETACH : Addr) (w_NIC_DETACH : Addr) (w_SERVER_STOP : Addr) (w_SNAPSHOT_CREATE : Addr) (w_NIC_ATTACH : Addr) (w_SNAPSHOT_DELETE : Addr) (w_DISK_ATTACH : Addr) (w_SERVER_DELETE : Addr) (p1 : Int32) (h0 : Heap) (n0 : Nat) (v : Option Value) (h : Heap) (L : List Loc) : Prop := v = some (.int (1 : Int32)) ∧ Fr n0 L ∧ h = h0
set_option maxRecDepth 65536 in
set_option maxHeartbeats 40000000 in
theorem rm7 (l : Launch) (Z : State) (a0 : Array Value) (hw : ∀ d ∈ tables_1, d.before a0 Z = true) (ws : List Jvm.Cond) (w_PLATFORM_DEPLOY w_SERVER_START w_PLATFORM_DELETE w_SERVER_DEPLOY w_DISK_DETACH w_NIC_DETACH w_SERVER_STOP w_SNAPSHOT_CREATE w_NIC_ATTACH w_SNAPSHOT_DELETE w_DISK_ATTACH w_SERVER_DELETE : Addr) (hp : Perm Z w_PLATFORM_DEPLOY w_SERVER_START w_PLATFORM_DELETE w_SERVER_DEPLOY w_DISK_DETACH w_NIC_DETACH w_SERVER_STOP w_SNAPSHOT_CREATE w_NIC_ATTACH w_SNAPSHOT_DELETE w_DISK_ATTACH w_SERVER_DELETE) (p1 : Int32) (h0 : Heap) (n0 : Nat) (O0 : Old Z n0 h0) (hc1 : ¬ (p1 = (0 : Int32))) (hc2 : p1 = (1 : Int32)) :
    MetFree l y2 (head1 (Jvm.Cond.code y2 method_3_code 1 (some .boolean) :: ws) ({ frames := 0, cells := 0, slots := 0, locals := 0 } : Room)) (fun a U => a = #[(.int p1)] ∧ Z.Warmed39 U.vm ∧ U.heap = h0) (fun _ _ _ _ _ => True) (fun _ U o U' => ∃ v L, o = .returned v ∧ Q7 Z w_PLATFORM_DEPLOY w_SERVER_START w_PLATFORM_DELETE w_SERVER_DEPLOY w_DISK_DETACH w_NIC_DETACH w_SERVER_STOP w_SNAPSHOT_CREATE w_NIC_ATTACH w_SNAPSHOT_DELETE w_DISK_ATTACH w_SERVER_DELETE p1 h0 n0 v U'.heap L ∧ FrameEnd U o U' L ({ frames := 0, cells := 0, slots := 0, locals := 0 } : Room).cells ({ frames := 0, cells := 0, slots := 0, locals := 0 } : Room).slots) := by
  refine MetFree.of_bodySF (plainFor_of_name pn_1) hisR ?_
  intro p e s m args below meth c s₁ Bd hml0 hP hK
  obtain ⟨rfl, hZ, hh⟩ := hP
  have hx := Bd.exec
  have hby := Bd.bytes
  have hml : c.maxLocals = 1 := hml0
  have hown : s.vm.findClass "com/example/ratebook/ratebook/model/EventTypeIsPlatformEventPinLaw" = some m.cls := findClass_of_methodNamed Bd.named
  have hnm := (name_of_methodNamed Bd.named Bd.method).1
  have X0 : Stand p l e ({ frames := 0, cells := 0, slots := 0, locals := 0 } : Room) s m #[(.int p1)] below meth c s₁ [] 0 0 := Stand.of_body Bd
  have e0 : s₁.heap = h0 := by rw [← hh, Bd.state]; rfl
  have N0 := Fr.nil n0
  have hp' := hp
  obtain ⟨S_w_PLATFORM_DEPLOY, E_w_PLATFORM_DEPLOY, S_w_SERVER_START, E_w_SERVER_START, S_w_PLATFORM_DELETE, E_w_PLATFORM_DELETE, S_w_SERVER_DEPLOY, E_w_SERVER_DEPLOY, S_w_DISK_DETACH, E_w_DISK_DETACH, S_w_NIC_DETACH, E_w_NIC_DETACH, S_w_SERVER_STOP, E_w_SERVER_STOP, S_w_SNAPSHOT_CREATE, E_w_SNAPSHOT_CREATE, S_w_NIC_ATTACH, E_w_NIC_ATTACH, S_w_SNAPSHOT_DELETE, E_w_SNAPSHOT_DELETE, S_w_DISK_ATTACH, E_w_DISK_ATTACH, S_w_SERVER_DELETE, E_w_SERVER_DELETE, F_ordinal_w_SERVER_START, F_ordinal_w_PLATFORM_DEPLOY, F_ordinal_w_PLATFORM_DELETE, F_ordinal_w_SERVER_DEPLOY, F_ordinal_w_DISK_DETACH, F_ordinal_w_NIC_DETACH, F_ordinal_w_SERVER_STOP, F_ordinal_w_SNAPSHOT_CREATE, F_ordinal_w_NIC_ATTACH, F_ordinal_w_SNAPSHOT_DELETE, F_ordinal_w_DISK_ATTACH, F_ordinal_w_SERVER_DELETE⟩ := hp'
  have pre0 : ∀ t, Steps p.tables e below (s₁.setTop (mkF m 0 #[.val (.int p1)] [])) t → Steps p.tables e below (s₁.setTop (entryFrame m #[(.int p1)] 1)) t := fun t k => castTop (ef_3_0 m p1) k
  obtain ⟨fs, hr, hrun, hended, hW, hsame⟩ := X0.leave (v := some (.int (1 : Int32))) (fun h => by rw [Bd.returns] at h; cases h)
  refine ⟨_, _, pre0 _ ?_, hrun, hended, _, _, rfl, ?_, ⟨_, rfl⟩, hW, hsame.mono (by decide) (by decide)⟩
  · show Sp p e below s₁ (mkF m 0 #[.val (.int p1)] []) _
    refine XS.iloadN X0.here hx rfl (hb hby d3_0) rfl ?_
    show Sp p e below s₁ (mkF m 1 #[.val (.int p1)] [(.int p1)]) _
    refine XS.ifYes X0.here hx rfl (pc0 := 1) (pc' := 6) rfl (hb hby d3_1) rfl ((if0 _ _).trans (feq hc1).2) (by decide) (by decide) ?_
    show Sp p e below s₁ (mkF m 6 #[.val (.int p1)] []) _
    refine XS.iloadN X0.here hx rfl (hb hby d3_6) rfl ?_
    show Sp p e below s₁ (mkF m 7 #[.val (.int p1)] [(.int p1)]) _
    refine XS.iconst X0.here hx rfl (hb hby d3_7) ?_
    show Sp p e below s₁ (mkF m 8 #[.val (.int p1)] [(.int (1 : Int32)), (.int p1)]) _
    refine XS.icmpNo X0.here hx rfl (hb hby d3_8) rfl (teq hc2).2 ?_
    show Sp p e below s₁ (mkF m 11 #[.val (.int p1)] []) _
    refine XS.iconst X0.here hx rfl (hb hby d3_11) ?_
    show Sp p e below s₁ (mkF m 12 #[.val (.int p1)] [(.int (1 : Int32))]) _
    exact retN X0 hx (t := .boolean) Bd.returns (by simp) (hb hby d3_12) hr
  · show Q7 Z w_PLATFORM_DEPLOY w_SERVER_START w_PLATFORM_DELETE w_SERVER_DEPLOY w_DISK_DETACH w_NIC_DETACH w_SERVER_STOP w_SNAPSHOT_CREATE w_NIC_ATTACH w_SNAPSHOT_DELETE w_DISK_ATTACH w_SERVER_DELETE p1 h0 n0 _ s₁.heap _
    rw [e0]
    exact ⟨rfl, N0, rfl⟩
set_option maxRecDepth 65536 in
set_option maxHeartbeats 40000000 in
theorem rm8 (l : Launch) (Z : State) (a0 : Array Value) (hw : ∀ d ∈ tables_1, d.before a0 Z = true) (ws : List Jvm.Cond) (w_PLATFORM_DEPLOY w_SERVER_START w_PLATFORM_DELETE w_SERVER_DEPLOY w_DISK_DETACH w_NIC_DETACH w_SERVER_STOP w_SNAPSHOT_CREATE w_NIC_ATTACH w_SNAPSHOT_DELETE w_DISK_ATTACH w_SERVER_DELETE : Addr) (hp : Perm Z w_PLATFORM_DEPLOY w_SERVER_START w_PLATFORM_DELETE w_SERVER_DEPLOY w_DISK_DETACH w_NIC_DETACH w_SERVER_STOP w_SNAPSHOT_CREATE w_NIC_ATTACH w_SNAPSHOT_DELETE w_DISK_ATTACH w_SERVER_DELETE) (p0 : Int32) (h0 : Heap) (n0 : Nat) (O0 : Old Z n0 h0) (hc1 : ¬ (((p0 &&& (2147483647 : Int32)) % (12 : Int32)) = (0 : Int32))) (hc2 : ((p0 &&& (2147483647 : Int32)) % (12 : Int32)) = (1 : Int32)) :
    MetFree l x (head1 (Jvm.Cond.code x code maxLocals ret :: ws) room_1) (fun a U => a = #[(.int p0)] ∧ Z.Warmed39 U.vm ∧ U.heap = h0) (fun _ _ _ _ _ => True) (fun _ U o U' => ∃ v L, o = .returned v ∧ (v = some (.int (1 : Int32)) ∧ Fr n0 L) ∧ FrameEnd U o U' L 0 0) := by
  refine MetFree.of_bodySF (plainFor_of_name pn_1) hisR ?_
  intro p e s m args below meth c s₁ Bd hml0 hP hK
  obtain ⟨rfl, hZ, hh⟩ := hP
  have hx := Bd.exec
  have hby := Bd.bytes
  have hml : c.maxLocals = 3 := hml0
  have hown : s.vm.findClass "com/example/ratebook/ratebook/model/EventTypeIsPlatformEventPinLaw" = some m.cls := findClass_of_methodNamed Bd.named
  have hnm := (name_of_methodNamed Bd.named Bd.method).1
  have X0 : Stand p l e room_1 s m #[(.int p0)] below meth c s₁ [] 0 0 := Stand.of_body Bd
  have e0 : s₁.heap = h0 := by rw [← hh, Bd.state]; rfl
  have N0 := Fr.nil n0
  have hp' := hp
  obtain ⟨S_w_PLATFORM_DEPLOY, E_w_PLATFORM_DEPLOY, S_w_SERVER_START, E_w_SERVER_START, S_w_PLATFORM_DELETE, E_w_PLATFORM_DELETE, S_w_SERVER_DEPLOY, E_w_SERVER_DEPLOY, S_w_DISK_DETACH, E_w_DISK_DETACH, S_w_NIC_DETACH, E_w_NIC_DETACH, S_w_SERVER_STOP, E_w_SERVER_STOP, S_w_SNAPSHOT_CREATE, E_w_SNAPSHOT_CREATE, S_w_NIC_ATTACH, E_w_NIC_ATTACH, S_w_SNAPSHOT_DELETE, E_w_SNAPSHOT_DELETE, S_w_DISK_ATTACH, E_w_DISK_ATTACH, S_w_SERVER_DELETE, E_w_SERVER_DELETE, F_ordinal_w_SERVER_START, F_ordinal_w_PLATFORM_DEPLOY, F_ordinal_w_PLATFORM_DELETE, F_ordinal_w_SERVER_DEPLOY, F_ordinal_w_DISK_DETACH, F_ordinal_w_NIC_DETACH, F_ordinal_w_SERVER_STOP, F_ordinal_w_SNAPSHOT_CREATE, F_ordinal_w_NIC_ATTACH, F_ordinal_w_SNAPSHOT_DELETE, F_ordinal_w_DISK_ATTACH, F_ordinal_w_SERVER_DELETE⟩ := hp'
  have pre0 : ∀ t, Steps p.tables e below (s₁.setTop (mkF m 0 #[.val (.int p0), .unset, .unset] [])) t → Steps p.tables e below (s₁.setTop (entryFrame m #[(.int p0)] maxLocals)) t := fun t k => castTop (ef_0_0 m p0) k
  obtain ⟨_, _, ⟨T1, L1, k1, n1⟩, -, X1, ⟨Lc1, hQ1, l1, y1, z1⟩, st1⟩ := Jvm.LawKit.callS X0 hx (y := y0) hown (mvT hZ (hw _ (List.mem_of_getElem? (i := 1) rfl))) (mvT hZ (hw _ (List.mem_of_getElem? (i := 2) rfl))) (mvT hZ (hw _ (List.mem_of_getElem? (i := 3) rfl))) (mvT hZ (hw _ (List.mem_of_getElem? (i := 4) rfl))) (by decide) (backOf (W := 0) (rm5 l Z a0 hw [] w_PLATFORM_DEPLOY w_SERVER_START w_PLATFORM_DELETE w_SERVER_DEPLOY w_DISK_DETACH w_NIC_DETACH w_SERVER_STOP w_SNAPSHOT_CREATE w_NIC_ATTACH w_SNAPSHOT_DELETE w_DISK_ATTACH w_SERVER_DELETE hp ((p0 &&& (2147483647 : Int32)) % (12 : Int32)) h0 n0 O0 hc1 hc2) hZ (hw _ (List.mem_of_getElem? (i := 4) rfl)) (hw _ (List.mem_of_getElem? (i := 3) rfl)) (by decide) (by decide)) (g := (mkF m 9 #[.val (.int p0), .val (.int ((p0 &&& (2147483647 : Int32)) % (12 : Int32))), .unset] [(.int ((p0 &&& (2147483647 : Int32)) % (12 : Int32)))])) rfl (by rw [hml]; rfl) (argsL := [(.int ((p0 &&& (2147483647 : Int32)) % (12 : Int32)))]) (rest := []) (lenOf pd_0 rfl) rfl (by show 2 * 0 + _ ≤ _; exact Nat.le_of_eq rfl) (hb hby at_9) (fun _ _ => ⟨rfl, e0, (by decide : 0 + 0 ≤ _), (by decide : 0 + 0 ≤ _)⟩)
  dsimp only [Pt.U, Pt.locs, Pt.cells, Pt.slots] at X1 l1 y1 z1 st1 hQ1
  subst l1 y1 z1
  obtain ⟨rfl, Nq1, eq1⟩ := hQ1
  have N1 := Fr.app N0 Nq1
  obtain ⟨cq2, kq2, q2a, q2b, q2c⟩ := isOf hZ eq1 (E_w_PLATFORM_DELETE.ext O0.2)
  obtain ⟨_, _, ⟨T2, L2, k2, n2⟩, -, X2, ⟨Lc2, hQ2, l2, y2, z2⟩, st2⟩ := X1.virtualBack hx (y := y1) (z := y1) hown (mvT hZ (hw _ (List.mem_of_getElem? (i := 8) rfl))) (mvT hZ (hw _ (List.mem_of_getElem? (i := 9) rfl))) (notFace_of_selects (args := #[]) (mvT hZ (hw _ (List.mem_of_getElem? (i := 11) rfl)))) (mvT hZ (hw _ (List.mem_of_getElem? (i := 11) rfl))) (mvT hZ (hw _ (List.mem_of_getElem? (i := 10) rfl))) (by decide) (backOf (W := 0) (rm6 l Z a0 hw [] w_PLATFORM_DEPLOY w_SERVER_START w_PLATFORM_DELETE w_SERVER_DEPLOY w_DISK_DETACH w_NIC_DETACH w_SERVER_STOP w_SNAPSHOT_CREATE w_NIC_ATTACH w_SNAPSHOT_DELETE w_DISK_ATTACH w_SERVER_DELETE hp h0 n0 O0) hZ (hw _ (List.mem_of_getElem? (i := 12) rfl)) (hw _ (List.mem_of_getElem? (i := 6) rfl)) (by decide) (by decide)) q2a q2c (g := (mkF m 14 #[.val (.int p0), .val (.int ((p0 &&& (2147483647 : Int32)) % (12 : Int32))), .val (.ref w_PLATFORM_DELETE)] [(.ref w_PLATFORM_DELETE)])) rfl (by rw [hml]; rfl) (Steps.refl _) (argsL := []) (rest := []) (lenOf pd_1 rfl) rfl (by show 2 * 0 + _ ≤ _; exact Nat.le_of_eq rfl) (hb hby at_14) (fun _ _ => ⟨rfl, eq1, (by decide : 0 + 0 ≤ _), (by decide : 0 + 0 ≤ _)⟩)
  dsimp only [Pt.U, Pt.locs, Pt.cells, Pt.slots] at X2 l2 y2 z2 st2 hQ2
  subst l2 y2 z2
  obtain ⟨rfl, Nq2, eq2⟩ := hQ2
  have N2 := Fr.app N1 Nq2
  obtain ⟨_, _, ⟨T3, L3, k3, n3⟩, -, X3, ⟨Lc3, hQ3, l3, y3, z3⟩, st3⟩ := Jvm.LawKit.callS X2 hx (y := y2) hown (mvT hZ (hw _ (List.mem_of_getElem? (i := 14) rfl))) (mvT hZ (hw _ (List.mem_of_getElem? (i := 15) rfl))) (mvT hZ (hw _ (List.mem_of_getElem? (i := 3) rfl))) (mvT hZ (hw _ (List.mem_of_getElem? (i := 16) rfl))) (by decide) (backOf (W := 1) (rm7 l Z a0 hw [] w_PLATFORM_DEPLOY w_SERVER_START w_PLATFORM_DELETE w_SERVER_DEPLOY w_DISK_DETACH w_NIC_DETACH w_SERVER_STOP w_SNAPSHOT_CREATE w_NIC_ATTACH w_SNAPSHOT_DELETE w_DISK_ATTACH w_SERVER_DELETE hp ((p0 &&& (2147483647 : Int32)) % (12 : Int32)) h0 n0 O0 hc1 hc2) hZ (hw _ (List.mem_of_getElem? (i := 16) rfl)) (hw _ (List.mem_of_getElem? (i := 3) rfl)) (by decide) (by decide)) (g := (mkF m 18 #[.val (.int p0), .val (.int ((p0 &&& (2147483647 : Int32)) % (12 : Int32))), .val (.ref w_PLATFORM_DELETE)] [(.int ((p0 &&& (2147483647 : Int32)) % (12 : Int32))), (.int (1 : Int32))])) rfl (by rw [hml]; rfl) (argsL := [(.int ((p0 &&& (2147483647 : Int32)) % (12 : Int32)))]) (rest := [(.int (1 : Int32))]) (lenOf pd_2 rfl) rfl (by show 2 * 0 + _ ≤ _; exact Nat.le_of_eq rfl) (hb hby at_18) (fun _ _ => ⟨rfl, eq2, (by decide : 0 + 0 ≤ _), (by decide : 0 + 0 ≤ _)⟩)
  dsimp only [Pt.U, Pt.locs, Pt.cells, Pt.slots] at X3 l3 y3 z3 st3 hQ3
  subst l3 y3 z3
  obtain ⟨rfl, Nq3, eq3⟩ := hQ3
  have N3 := Fr.app N2 Nq3
  obtain ⟨fs, hr, hrun, hended, hW, hsame⟩ := X3.leave (v := some (.int (1 : Int32))) (fun h => by rw [Bd.returns] at h; cases h)
  refine ⟨_, _, pre0 _ ?_, hrun, hended, _, _, rfl, ?_, ⟨_, rfl⟩, hW, hsame.mono (by decide) (by decide)⟩
  · show Sp p e below s₁ (mkF m 0 #[.val (.int p0), .unset, .unset] []) _
    refine XS.iloadN X0.here hx rfl (hb hby at_0) rfl ?_
    show Sp p e below s₁ (mkF m 1 #[.val (.int p0), .unset, .unset] [(.int p0)]) _
    refine X0.ldcI hx hown (mvT hZ (hw _ (List.mem_of_getElem? (i := 0) rfl))) rfl (hb hby at_1) ?_
    show Sp p e below s₁ (mkF m 3 #[.val (.int p0), .unset, .unset] [(.int (2147483647 : Int32)), (.int p0)]) _
    refine XS.iand X0.here hx rfl (hb hby at_3) rfl ?_
    show Sp p e below s₁ (mkF m 4 #[.val (.int p0), .unset, .unset] [(.int (p0 &&& (2147483647 : Int32)))]) _
    refine XS.bipush X0.here hx rfl (hb hby at_4) ?_
    show Sp p e below s₁ (mkF m 6 #[.val (.int p0), .unset, .unset] [(.int (12 : Int32)), (.int (p0 &&& (2147483647 : Int32)))]) _
    refine iremM X0 hx rfl (hb hby at_6) rfl (by decide) ?_
    show Sp p e below s₁ (mkF m 7 #[.val (.int p0), .unset, .unset] [(.int ((p0 &&& (2147483647 : Int32)) % (12 : Int32)))]) _
    refine XS.istoreN X0.here hx rfl (hb hby at_7) rfl (l' := #[.val (.int p0), .val (.int ((p0 &&& (2147483647 : Int32)) % (12 : Int32))), .unset]) rfl ?_
    show Sp p e below s₁ (mkF m 8 #[.val (.int p0), .val (.int ((p0 &&& (2147483647 : Int32)) % (12 : Int32))), .unset] []) _
    refine XS.iloadN X0.here hx rfl (hb hby at_8) rfl ?_
    show Sp p e below s₁ (mkF m 9 #[.val (.int p0), .val (.int ((p0 &&& (2147483647 : Int32)) % (12 : Int32))), .unset] [(.int ((p0 &&& (2147483647 : Int32)) % (12 : Int32)))]) _
    refine st1 _ ?_
    show Sp p e below T1 (mkF m 12 #[.val (.int p0), .val (.int ((p0 &&& (2147483647 : Int32)) % (12 : Int32))), .unset] [(.ref w_PLATFORM_DELETE)]) _
    refine XS.astoreN X1.here hx rfl (hb hby at_12) rfl rfl (l' := #[.val (.int p0), .val (.int ((p0 &&& (2147483647 : Int32)) % (12 : Int32))), .val (.ref w_PLATFORM_DELETE)]) rfl ?_
    show Sp p e below T1 (mkF m 13 #[.val (.int p0), .val (.int ((p0 &&& (2147483647 : Int32)) % (12 : Int32))), .val (.ref w_PLATFORM_DELETE)] []) _
    refine XS.aloadN X1.here hx rfl (hb hby at_13) rfl rfl ?_
    show Sp p e below T1 (mkF m 14 #[.val (.int p0), .val (.int ((p0 &&& (2147483647 : Int32)) % (12 : Int32))), .val (.ref w_PLATFORM_DELETE)] [(.ref w_PLATFORM_DELETE)]) _
    refine st2.trans ?_
    show Sp p e below T2 (mkF m 17 #[.val (.int p0), .val (.int ((p0 &&& (2147483647 : Int32)) % (12 : Int32))), .val (.ref w_PLATFORM_DELETE)] [(.int (1 : Int32))]) _
    refine XS.iloadN X2.here hx rfl (hb hby at_17) rfl ?_
    show Sp p e below T2 (mkF m 18 #[.val (.int p0), .val (.int ((p0 &&& (2147483647 : Int32)) % (12 : Int32))), .val (.ref w_PLATFORM_DELETE)] [(.int ((p0 &&& (2147483647 : Int32)) % (12 : Int32))), (.int (1 : Int32))]) _
    refine st3 _ ?_
    show Sp p e below T3 (mkF m 21 #[.val (.int p0), .val (.int ((p0 &&& (2147483647 : Int32)) % (12 : Int32))), .val (.ref w_PLATFORM_DELETE)] [(.int (1 : Int32)), (.int (1 : Int32))]) _
    refine XS.icmpNo X3.here hx rfl (hb hby at_21) rfl (teq (by decide : (1 : Int32) = (1 : Int32))).2 ?_
    show Sp p e below T3 (mkF m 24 #[.val (.int p0), .val (.int ((p0 &&& (2147483647 : Int32)) % (12 : Int32))), .val (.ref w_PLATFORM_DELETE)] []) _
    refine XS.iconst X3.here hx rfl (hb hby at_24) ?_
    show Sp p e below T3 (mkF m 25 #[.val (.int p0), .val (.int ((p0 &&& (2147483647 : Int32)) % (12 : Int32))), .val (.ref w_PLATFORM_DELETE)] [(.int (1 : Int32))]) _
    refine XS.goto X3.here hx rfl (pc0 := 25) (pc' := 29) rfl (hb hby at_25) (by decide) (by decide) ?_
    show Sp p e below T3 (mkF m 29 #[.val (.int p0), .val (.int ((p0 &&& (2147483647 : Int32)) % (12 : Int32))), .val (.ref w_PLATFORM_DELETE)] [(.int (1 : Int32))]) _
    exact retN X3 hx (t := .boolean) Bd.returns (by simp) (hb hby at_29) hr
  · skip
    exact ⟨rfl, N3⟩
theorem d1_17 : decode method_2_code 17 = .ok (.iload_n 0, 1) := by decide +kernel
theorem d1_18 : decode method_2_code 18 = .ok (.iconst 2, 1) := by decide +kernel
theorem d1_19 : decode method_2_code 19 = .ok (.if_icmp .ne 7, 3) := by decide +kernel
theorem d1_22 : decode method_2_code 22 = .ok (.getstatic 16, 3) := by decide +kernel
theorem d1_25 : decode method_2_code 25 = .ok (.areturn, 1) := by decide +kernel
def Q9 (Z : State) (w_PLATFORM_DEPLOY : Addr) (w_SERVER_START : Addr) (w_PLATFORM_DELETE : Addr) (w_SERVER_DEPLOY : Addr) (w_DISK_DETACH : Addr) (w_NIC_DETACH : Addr) (w_SERVER_STOP : Addr) (w_SNAPSHOT_CREATE : Addr) (w_NIC_ATTACH : Addr) (w_SNAPSHOT_DELETE : Addr) (w_DISK_ATTACH : Addr) (w_SERVER_DELETE : Addr) (p1 : Int32) (h0 : Heap) (n0 : Nat) (v : Option Value) (h : Heap) (L : List Loc) : Prop := v = some (.ref w_SERVER_DEPLOY) ∧ Fr n0 L ∧ h = h0
set_option maxRecDepth 65536 in
set_option maxHeartbeats 40000000 in
theorem rm9 (l : Launch) (Z : State) (a0 : Array Value) (hw : ∀ d ∈ tables_1, d.before a0 Z = true) (ws : List Jvm.Cond) (w_PLATFORM_DEPLOY w_SERVER_START w_PLATFORM_DELETE w_SERVER_DEPLOY w_DISK_DETACH w_NIC_DETACH w_SERVER_STOP w_SNAPSHOT_CREATE w_NIC_ATTACH w_SNAPSHOT_DELETE w_DISK_ATTACH w_SERVER_DELETE : Addr) (hp : Perm Z w_PLATFORM_DEPLOY w_SERVER_START w_PLATFORM_DELETE w_SERVER_DEPLOY w_DISK_DETACH w_NIC_DETACH w_SERVER_STOP w_SNAPSHOT_CREATE w_NIC_ATTACH w_SNAPSHOT_DELETE w_DISK_ATTACH w_SERVER_DELETE) (p1 : Int32) (h0 : Heap) (n0 : Nat) (O0 : Old Z n0 h0) (hc1 : ¬ (p1 = (0 : Int32))) (hc2 : ¬ (p1 = (1 : Int32))) (hc3 : p1 = (2 : Int32)) :
    MetFree l y0 (head1 (Jvm.Cond.code y0 method_2_code 1 (some (.object "com/example/ratebook/ratebook/model/EventType")) :: ws) ({ frames := 0, cells := 0, slots := 0, locals := 0 } : Room)) (fun a U => a = #[(.int p1)] ∧ Z.Warmed39 U.vm ∧ U.heap = h0) (fun _ _ _ _ _ => True) (fun _ U o U' => ∃ v L, o = .returned v ∧ Q9 Z w_PLATFORM_DEPLOY w_SERVER_START w_PLATFORM_DELETE w_SERVER_DEPLOY w_DISK_DETACH w_NIC_DETACH w_SERVER_STOP w_SNAPSHOT_CREATE w_NIC_ATTACH w_SNAPSHOT_DELETE w_DISK_ATTACH w_SERVER_DELETE p1 h0 n0 v U'.heap L ∧ FrameEnd U o U' L ({ frames := 0, cells := 0, slots := 0, locals := 0 } : Room).cells ({ frames := 0, cells := 0, slots := 0, locals := 0 } : Room).slots) := by
  refine MetFree.of_bodySF (plainFor_of_name pn_1) hisR ?_
  intro p e s m args below meth c s₁ Bd hml0 hP hK
  obtain ⟨rfl, hZ, hh⟩ := hP
  have hx := Bd.exec
  have hby := Bd.bytes
  have hml : c.maxLocals = 1 := hml0
  have hown : s.vm.findClass "com/example/ratebook/ratebook/model/EventTypeIsPlatformEventPinLaw" = some m.cls := findClass_of_methodNamed Bd.named
  have hnm := (name_of_methodNamed Bd.named Bd.method).1
  have X0 : Stand p l e ({ frames := 0, cells := 0, slots := 0, locals := 0 } : Room) s m #[(.int p1)] below meth c s₁ [] 0 0 := Stand.of_body Bd
  have e0 : s₁.heap = h0 := by rw [← hh, Bd.state]; rfl
  have N0 := Fr.nil n0
  have hp' := hp
  obtain ⟨S_w_PLATFORM_DEPLOY, E_w_PLATFORM_DEPLOY, S_w_SERVER_START, E_w_SERVER_START, S_w_PLATFORM_DELETE, E_w_PLATFORM_DELETE, S_w_SERVER_DEPLOY, E_w_SERVER_DEPLOY, S_w_DISK_DETACH, E_w_DISK_DETACH, S_w_NIC_DETACH, E_w_NIC_DETACH, S_w_SERVER_STOP, E_w_SERVER_STOP, S_w_SNAPSHOT_CREATE, E_w_SNAPSHOT_CREATE, S_w_NIC_ATTACH, E_w_NIC_ATTACH, S_w_SNAPSHOT_DELETE, E_w_SNAPSHOT_DELETE, S_w_DISK_ATTACH, E_w_DISK_ATTACH, S_w_SERVER_DELETE, E_w_SERVER_DELETE, F_ordinal_w_SERVER_START, F_ordinal_w_PLATFORM_DEPLOY, F_ordinal_w_PLATFORM_DELETE, F_ordinal_w_SERVER_DEPLOY, F_ordinal_w_DISK_DETACH, F_ordinal_w_NIC_DETACH, F_ordinal_w_SERVER_STOP, F_ordinal_w_SNAPSHOT_CREATE, F_ordinal_w_NIC_ATTACH, F_ordinal_w_SNAPSHOT_DELETE, F_ordinal_w_DISK_ATTACH, F_ordinal_w_SERVER_DELETE⟩ := hp'
  have pre0 : ∀ t, Steps p.tables e below (s₁.setTop (mkF m 0 #[.val (.int p1)] [])) t → Steps p.tables e below (s₁.setTop (entryFrame m #[(.int p1)] 1)) t := fun t k => castTop (ef_1_0 m p1) k
  obtain ⟨T1, X1, e1, st1⟩ := getS2 X0 hx hZ hown (host := "") (Or.inl (hw _ (List.mem_of_getElem? (i := 21) rfl))) Via.refl e0 (S_w_SERVER_DEPLOY.ext O0.2) (g := (mkF m 22 #[.val (.int p1)] [])) rfl (hb hby d1_22)
  obtain ⟨fs, hr, hrun, hended, hW, hsame⟩ := X1.leave (v := some (.ref w_SERVER_DEPLOY)) (fun h => by rw [Bd.returns] at h; cases h)
  refine ⟨_, _, pre0 _ ?_, hrun, hended, _, _, rfl, ?_, ⟨_, rfl⟩, hW, hsame.mono (by decide) (by decide)⟩
  · show Sp p e below s₁ (mkF m 0 #[.val (.int p1)] []) _
    refine XS.iloadN X0.here hx rfl (hb hby d1_0) rfl ?_
    show Sp p e below s₁ (mkF m 1 #[.val (.int p1)] [(.int p1)]) _
    refine XS.ifYes X0.here hx rfl (pc0 := 1) (pc' := 8) rfl (hb hby d1_1) rfl ((if0 _ _).trans (feq hc1).2) (by decide) (by decide) ?_
    show Sp p e below s₁ (mkF m 8 #[.val (.int p1)] []) _
    refine XS.iloadN X0.here hx rfl (hb hby d1_8) rfl ?_
    show Sp p e below s₁ (mkF m 9 #[.val (.int p1)] [(.int p1)]) _
    refine XS.iconst X0.here hx rfl (hb hby d1_9) ?_
    show Sp p e below s₁ (mkF m 10 #[.val (.int p1)] [(.int (1 : Int32)), (.int p1)]) _
    refine XS.icmpYes X0.here hx rfl (pc0 := 10) (pc' := 17) rfl (hb hby d1_10) rfl (feq hc2).2 (by decide) (by decide) ?_
    show Sp p e below s₁ (mkF m 17 #[.val (.int p1)] []) _
    refine XS.iloadN X0.here hx rfl (hb hby d1_17) rfl ?_
    show Sp p e below s₁ (mkF m 18 #[.val (.int p1)] [(.int p1)]) _
    refine XS.iconst X0.here hx rfl (hb hby d1_18) ?_
    show Sp p e below s₁ (mkF m 19 #[.val (.int p1)] [(.int (2 : Int32)), (.int p1)]) _
    refine XS.icmpNo X0.here hx rfl (hb hby d1_19) rfl (teq hc3).2 ?_
    show Sp p e below s₁ (mkF m 22 #[.val (.int p1)] []) _
    refine st1 _ ?_
    show Sp p e below T1 (mkF m 25 #[.val (.int p1)] [(.ref w_SERVER_DEPLOY)]) _
    jvm_step X1.here [X1.here.top, hx, (hb hby d1_25), X1.method', Bd.returns, Value.isRef, FieldType.isReference]
    first | (intro acts; rw [hr _ acts rfl rfl rfl]) | rw [hr _ _ rfl rfl rfl]
    exact Steps.refl _
  · show Q9 Z w_PLATFORM_DEPLOY w_SERVER_START w_PLATFORM_DELETE w_SERVER_DEPLOY w_DISK_DETACH w_NIC_DETACH w_SERVER_STOP w_SNAPSHOT_CREATE w_NIC_ATTACH w_SNAPSHOT_DELETE w_DISK_ATTACH w_SERVER_DELETE p1 h0 n0 _ T1.heap _
    rw [e1]
    exact ⟨rfl, N0, rfl⟩
theorem d2_18 : decode prog_20_method_5_code 18 = .ok (.iconst 0, 1) := by decide +kernel
def Q10 (Z : State) (w_PLATFORM_DEPLOY : Addr) (w_SERVER_START : Addr) (w_PLATFORM_DELETE : Addr) (w_SERVER_DEPLOY : Addr) (w_DISK_DETACH : Addr) (w_NIC_DETACH : Addr) (w_SERVER_STOP : Addr) (w_SNAPSHOT_CREATE : Addr) (w_NIC_ATTACH : Addr) (w_SNAPSHOT_DELETE : Addr) (w_DISK_ATTACH : Addr) (w_SERVER_DELETE : Addr) (h0 : Heap) (n0 : Nat) (v : Option Value) (h : Heap) (L : List Loc) : Prop := v = some (.int (0 : Int32)) ∧ Fr n0 L ∧ h = h0
set_option maxRecDepth 65536 in
set_option maxHeartbeats 40000000 in
theorem rm10 (l : Launch) (Z : State) (a0 : Array Value) (hw : ∀ d ∈ tables_1, d.before a0 Z = true) (ws : List Jvm.Cond) (w_PLATFORM_DEPLOY w_SERVER_START w_PLATFORM_DELETE w_SERVER_DEPLOY w_DISK_DETACH w_NIC_DETACH w_SERVER_STOP w_SNAPSHOT_CREATE w_NIC_ATTACH w_SNAPSHOT_DELETE w_DISK_ATTACH w_SERVER_DELETE : Addr) (hp : Perm Z w_PLATFORM_DEPLOY w_SERVER_START w_PLATFORM_DELETE w_SERVER_DEPLOY w_DISK_DETACH w_NIC_DETACH w_SERVER_STOP w_SNAPSHOT_CREATE w_NIC_ATTACH w_SNAPSHOT_DELETE w_DISK_ATTACH w_SERVER_DELETE) (h0 : Heap) (n0 : Nat) (O0 : Old Z n0 h0) :
    MetFree l y1 (head1 (Jvm.Cond.code y1 prog_20_method_5_code 1 (some .boolean) :: ws) ({ frames := 0, cells := 0, slots := 0, locals := 0 } : Room)) (fun a U => a = #[(.ref w_SERVER_DEPLOY)] ∧ Z.Warmed39 U.vm ∧ U.heap = h0) (fun _ _ _ _ _ => True) (fun _ U o U' => ∃ v L, o = .returned v ∧ Q10 Z w_PLATFORM_DEPLOY w_SERVER_START w_PLATFORM_DELETE w_SERVER_DEPLOY w_DISK_DETACH w_NIC_DETACH w_SERVER_STOP w_SNAPSHOT_CREATE w_NIC_ATTACH w_SNAPSHOT_DELETE w_DISK_ATTACH w_SERVER_DELETE  h0 n0 v U'.heap L ∧ FrameEnd U o U' L ({ frames := 0, cells := 0, slots := 0, locals := 0 } : Room).cells ({ frames := 0, cells := 0, slots := 0, locals := 0 } : Room).slots) := by
  refine MetFree.of_bodySF (plainFor_of_name pn_2) hisR ?_
  intro p e s m args below meth c s₁ Bd hml0 hP hK
  obtain ⟨rfl, hZ, hh⟩ := hP
  have hx := Bd.exec
  have hby := Bd.bytes
  have hml : c.maxLocals = 1 := hml0
  have hown : s.vm.findClass "com/example/ratebook/ratebook/model/EventType" = some m.cls := findClass_of_methodNamed Bd.named
  have hnm := (name_of_methodNamed Bd.named Bd.method).1
  have X0 : Stand p l e ({ frames := 0, cells := 0, slots := 0, locals := 0 } : Room) s m #[(.ref w_SERVER_DEPLOY)] below meth c s₁ [] 0 0 := Stand.of_body Bd
  have e0 : s₁.heap = h0 := by rw [← hh, Bd.state]; rfl
  have N0 := Fr.nil n0
  have hp' := hp
  obtain ⟨S_w_PLATFORM_DEPLOY, E_w_PLATFORM_DEPLOY, S_w_SERVER_START, E_w_SERVER_START, S_w_PLATFORM_DELETE, E_w_PLATFORM_DELETE, S_w_SERVER_DEPLOY, E_w_SERVER_DEPLOY, S_w_DISK_DETACH, E_w_DISK_DETACH, S_w_NIC_DETACH, E_w_NIC_DETACH, S_w_SERVER_STOP, E_w_SERVER_STOP, S_w_SNAPSHOT_CREATE, E_w_SNAPSHOT_CREATE, S_w_NIC_ATTACH, E_w_NIC_ATTACH, S_w_SNAPSHOT_DELETE, E_w_SNAPSHOT_DELETE, S_w_DISK_ATTACH, E_w_DISK_ATTACH, S_w_SERVER_DELETE, E_w_SERVER_DELETE, F_ordinal_w_SERVER_START, F_ordinal_w_PLATFORM_DEPLOY, F_ordinal_w_PLATFORM_DELETE, F_ordinal_w_SERVER_DEPLOY, F_ordinal_w_DISK_DETACH, F_ordinal_w_NIC_DETACH, F_ordinal_w_SERVER_STOP, F_ordinal_w_SNAPSHOT_CREATE, F_ordinal_w_NIC_ATTACH, F_ordinal_w_SNAPSHOT_DELETE, F_ordinal_w_DISK_ATTACH, F_ordinal_w_SERVER_DELETE⟩ := hp'
  have pre0 : ∀ t, Steps p.tables e below (s₁.setTop (mkF m 0 #[.val (.ref w_SERVER_DEPLOY)] [])) t → Steps p.tables e below (s₁.setTop (entryFrame m #[(.ref w_SERVER_DEPLOY)] 1)) t := fun t k => castTop (ef_2_0 m w_SERVER_DEPLOY) k
  obtain ⟨T1, X1, e1, st1⟩ := getS2 X0 hx hZ hown (host := "") (Or.inl (hw _ (List.mem_of_getElem? (i := 13) rfl))) Via.refl e0 (S_w_PLATFORM_DEPLOY.ext O0.2) (g := (mkF m 1 #[.val (.ref w_SERVER_DEPLOY)] [(.ref w_SERVER_DEPLOY)])) rfl (hb hby d2_1)
  obtain ⟨T2, X2, e2, st2⟩ := getS2 X1 hx hZ hown (host := "") (Or.inl (hw _ (List.mem_of_getElem? (i := 19) rfl))) Via.refl e1 (S_w_PLATFORM_DELETE.ext O0.2) (g := (mkF m 8 #[.val (.ref w_SERVER_DEPLOY)] [(.ref w_SERVER_DEPLOY)])) rfl (hb hby d2_8)
  obtain ⟨fs, hr, hrun, hended, hW, hsame⟩ := X2.leave (v := some (.int (0 : Int32))) (fun h => by rw [Bd.returns] at h; cases h)
  refine ⟨_, _, pre0 _ ?_, hrun, hended, _, _, rfl, ?_, ⟨_, rfl⟩, hW, hsame.mono (by decide) (by decide)⟩
  · show Sp p e below s₁ (mkF m 0 #[.val (.ref w_SERVER_DEPLOY)] []) _
    refine XS.aloadN X0.here hx rfl (hb hby d2_0) rfl rfl ?_
    show Sp p e below s₁ (mkF m 1 #[.val (.ref w_SERVER_DEPLOY)] [(.ref w_SERVER_DEPLOY)]) _
    refine st1 _ ?_
    show Sp p e below T1 (mkF m 4 #[.val (.ref w_SERVER_DEPLOY)] [(.ref w_PLATFORM_DEPLOY), (.ref w_SERVER_DEPLOY)]) _
    refine Jvm.RoadKit.acmp (g := (mkF m 4 #[.val (.ref w_SERVER_DEPLOY)] [(.ref w_PLATFORM_DEPLOY), (.ref w_SERVER_DEPLOY)])) X1 hx rfl rfl rfl (pc0 := 4) (pc' := 7) (same := false) rfl (hb hby d2_4) rfl (decide_eq_false fun q => (Ne.symm (ne_w_PLATFORM_DEPLOY_w_SERVER_DEPLOY hp)) (Value.ref.inj q)) (by decide) (by decide) ?_
    show Sp p e below T1 (mkF m 7 #[.val (.ref w_SERVER_DEPLOY)] []) _
    refine XS.aloadN X1.here hx rfl (hb hby d2_7) rfl rfl ?_
    show Sp p e below T1 (mkF m 8 #[.val (.ref w_SERVER_DEPLOY)] [(.ref w_SERVER_DEPLOY)]) _
    refine st2 _ ?_
    show Sp p e below T2 (mkF m 11 #[.val (.ref w_SERVER_DEPLOY)] [(.ref w_PLATFORM_DELETE), (.ref w_SERVER_DEPLOY)]) _
    refine Jvm.RoadKit.acmp (g := (mkF m 11 #[.val (.ref w_SERVER_DEPLOY)] [(.ref w_PLATFORM_DELETE), (.ref w_SERVER_DEPLOY)])) X2 hx rfl rfl rfl (pc0 := 11) (pc' := 18) (same := false) rfl (hb hby d2_11) rfl (decide_eq_false fun q => (Ne.symm (ne_w_PLATFORM_DELETE_w_SERVER_DEPLOY hp)) (Value.ref.inj q)) (by decide) (by decide) ?_
    show Sp p e below T2 (mkF m 18 #[.val (.ref w_SERVER_DEPLOY)] []) _
    refine XS.iconst X2.here hx rfl (hb hby d2_18) ?_
    show Sp p e below T2 (mkF m 19 #[.val (.ref w_SERVER_DEPLOY)] [(.int (0 : Int32))]) _
    exact retN X2 hx (t := .boolean) Bd.returns (by simp) (hb hby d2_19) hr
  · show Q10 Z w_PLATFORM_DEPLOY w_SERVER_START w_PLATFORM_DELETE w_SERVER_DEPLOY w_DISK_DETACH w_NIC_DETACH w_SERVER_STOP w_SNAPSHOT_CREATE w_NIC_ATTACH w_SNAPSHOT_DELETE w_DISK_ATTACH w_SERVER_DELETE  h0 n0 _ T2.heap _
    rw [e2]
    exact ⟨rfl, N0, rfl⟩
theorem d3_13 : decode method_3_code 13 = .ok (.iconst 0, 1) := by decide +kernel
theorem d3_14 : decode method_3_code 14 = .ok (.ireturn, 1) := by decide +kernel
def Q11 (Z : State) (w_PLATFORM_DEPLOY : Addr) (w_SERVER_START : Addr) (w_PLATFORM_DELETE : Addr) (w_SERVER_DEPLOY : Addr) (w_DISK_DETACH : Addr) (w_NIC_DETACH : Addr) (w_SERVER_STOP : Addr) (w_SNAPSHOT_CREATE : Addr) (w_NIC_ATTACH : Addr) (w_SNAPSHOT_DELETE : Addr) (w_DISK_ATTACH : Addr) (w_SERVER_DELETE : Addr) (p1 : Int32) (h0 : Heap) (n0 : Nat) (v : Option Value) (h : Heap) (L : List Loc) : Prop := v = some (.int (0 : Int32)) ∧ Fr n0 L ∧ h = h0
set_option maxRecDepth 65536 in
set_option maxHeartbeats 40000000 in
theorem rm11 (l : Launch) (Z : State) (a0 : Array Value) (hw : ∀ d ∈ tables_1, d.before a0 Z = true) (ws : List Jvm.Cond) (w_PLATFORM_DEPLOY w_SERVER_START w_PLATFORM_DELETE w_SERVER_DEPLOY w_DISK_DETACH w_NIC_DETACH w_SERVER_STOP w_SNAPSHOT_CREATE w_NIC_ATTACH w_SNAPSHOT_DELETE w_DISK_ATTACH w_SERVER_DELETE : Addr) (hp : Perm Z w_PLATFORM_DEPLOY w_SERVER_START w_PLATFORM_DELETE w_SERVER_DEPLOY w_DISK_DETACH w_NIC_DETACH w_SERVER_STOP w_SNAPSHOT_CREATE w_NIC_ATTACH w_SNAPSHOT_DELETE w_DISK_ATTACH w_SERVER_DELETE) (p1 : Int32) (h0 : Heap) (n0 : Nat) (O0 : Old Z n0 h0) (hc1 : ¬ (p1 = (0 : Int32))) (hc2 : ¬ (p1 = (1 : Int32))) :
    MetFree l y2 (head1 (Jvm.Cond.code y2 method_3_code 1 (some .boolean) :: ws) ({ frames := 0, cells := 0, slots := 0, locals := 0 } : Room)) (fun a U => a = #[(.int p1)] ∧ Z.Warmed39 U.vm ∧ U.heap = h0) (fun _ _ _ _ _ => True) (fun _ U o U' => ∃ v L, o = .returned v ∧ Q11 Z w_PLATFORM_DEPLOY w_SERVER_START w_PLATFORM_DELETE w_SERVER_DEPLOY w_DISK_DETACH w_NIC_DETACH w_SERVER_STOP w_SNAPSHOT_CREATE w_NIC_ATTACH w_SNAPSHOT_DELETE w_DISK_ATTACH w_SERVER_DELETE p1 h0 n0 v U'.heap L ∧ FrameEnd U o U' L ({ frames := 0, cells := 0, slots := 0, locals := 0 } : Room).cells ({ frames := 0, cells := 0, slots := 0, locals := 0 } : Room).slots) := by
  refine MetFree.of_bodySF (plainFor_of_name pn_1) hisR ?_
  intro p e s m args below meth c s₁ Bd hml0 hP hK
  obtain ⟨rfl, hZ, hh⟩ := hP
  have hx := Bd.exec
  have hby := Bd.bytes
  have hml : c.maxLocals = 1 := hml0
  have hown : s.vm.findClass "com/example/ratebook/ratebook/model/EventTypeIsPlatformEventPinLaw" = some m.cls := findClass_of_methodNamed Bd.named
  have hnm := (name_of_methodNamed Bd.named Bd.method).1
  have X0 : Stand p l e ({ frames := 0, cells := 0, slots := 0, locals := 0 } : Room) s m #[(.int p1)] below meth c s₁ [] 0 0 := Stand.of_body Bd
  have e0 : s₁.heap = h0 := by rw [← hh, Bd.state]; rfl
  have N0 := Fr.nil n0
  have hp' := hp
  obtain ⟨S_w_PLATFORM_DEPLOY, E_w_PLATFORM_DEPLOY, S_w_SERVER_START, E_w_SERVER_START, S_w_PLATFORM_DELETE, E_w_PLATFORM_DELETE, S_w_SERVER_DEPLOY, E_w_SERVER_DEPLOY, S_w_DISK_DETACH, E_w_DISK_DETACH, S_w_NIC_DETACH, E_w_NIC_DETACH, S_w_SERVER_STOP, E_w_SERVER_STOP, S_w_SNAPSHOT_CREATE, E_w_SNAPSHOT_CREATE, S_w_NIC_ATTACH, E_w_NIC_ATTACH, S_w_SNAPSHOT_DELETE, E_w_SNAPSHOT_DELETE, S_w_DISK_ATTACH, E_w_DISK_ATTACH, S_w_SERVER_DELETE, E_w_SERVER_DELETE, F_ordinal_w_SERVER_START, F_ordinal_w_PLATFORM_DEPLOY, F_ordinal_w_PLATFORM_DELETE, F_ordinal_w_SERVER_DEPLOY, F_ordinal_w_DISK_DETACH, F_ordinal_w_NIC_DETACH, F_ordinal_w_SERVER_STOP, F_ordinal_w_SNAPSHOT_CREATE, F_ordinal_w_NIC_ATTACH, F_ordinal_w_SNAPSHOT_DELETE, F_ordinal_w_DISK_ATTACH, F_ordinal_w_SERVER_DELETE⟩ := hp'
  have pre0 : ∀ t, Steps p.tables e below (s₁.setTop (mkF m 0 #[.val (.int p1)] [])) t → Steps p.tables e below (s₁.setTop (entryFrame m #[(.int p1)] 1)) t := fun t k => castTop (ef_3_0 m p1) k
  obtain ⟨fs, hr, hrun, hended, hW, hsame⟩ := X0.leave (v := some (.int (0 : Int32))) (fun h => by rw [Bd.returns] at h; cases h)
  refine ⟨_, _, pre0 _ ?_, hrun, hended, _, _, rfl, ?_, ⟨_, rfl⟩, hW, hsame.mono (by decide) (by decide)⟩
  · show Sp p e below s₁ (mkF m 0 #[.val (.int p1)] []) _
    refine XS.iloadN X0.here hx rfl (hb hby d3_0) rfl ?_
    show Sp p e below s₁ (mkF m 1 #[.val (.int p1)] [(.int p1)]) _
    refine XS.ifYes X0.here hx rfl (pc0 := 1) (pc' := 6) rfl (hb hby d3_1) rfl ((if0 _ _).trans (feq hc1).2) (by decide) (by decide) ?_
    show Sp p e below s₁ (mkF m 6 #[.val (.int p1)] []) _
    refine XS.iloadN X0.here hx rfl (hb hby d3_6) rfl ?_
    show Sp p e below s₁ (mkF m 7 #[.val (.int p1)] [(.int p1)]) _
    refine XS.iconst X0.here hx rfl (hb hby d3_7) ?_
    show Sp p e below s₁ (mkF m 8 #[.val (.int p1)] [(.int (1 : Int32)), (.int p1)]) _
    refine XS.icmpYes X0.here hx rfl (pc0 := 8) (pc' := 13) rfl (hb hby d3_8) rfl (feq hc2).2 (by decide) (by decide) ?_
    show Sp p e below s₁ (mkF m 13 #[.val (.int p1)] []) _
    refine XS.iconst X0.here hx rfl (hb hby d3_13) ?_
    show Sp p e below s₁ (mkF m 14 #[.val (.int p1)] [(.int (0 : Int32))]) _
    exact retN X0 hx (t := .boolean) Bd.returns (by simp) (hb hby d3_14) hr
  · show Q11 Z w_PLATFORM_DEPLOY w_SERVER_START w_PLATFORM_DELETE w_SERVER_DEPLOY w_DISK_DETACH w_NIC_DETACH w_SERVER_STOP w_SNAPSHOT_CREATE w_NIC_ATTACH w_SNAPSHOT_DELETE w_DISK_ATTACH w_SERVER_DELETE p1 h0 n0 _ s₁.heap _
    rw [e0]
    exact ⟨rfl, N0, rfl⟩
set_option maxRecDepth 65536 in
set_option maxHeartbeats 40000000 in
theorem rm12 (l : Launch) (Z : State) (a0 : Array Value) (hw : ∀ d ∈ tables_1, d.before a0 Z = true) (ws : List Jvm.Cond) (w_PLATFORM_DEPLOY w_SERVER_START w_PLATFORM_DELETE w_SERVER_DEPLOY w_DISK_DETACH w_NIC_DETACH w_SERVER_STOP w_SNAPSHOT_CREATE w_NIC_ATTACH w_SNAPSHOT_DELETE w_DISK_ATTACH w_SERVER_DELETE : Addr) (hp : Perm Z w_PLATFORM_DEPLOY w_SERVER_START w_PLATFORM_DELETE w_SERVER_DEPLOY w_DISK_DETACH w_NIC_DETACH w_SERVER_STOP w_SNAPSHOT_CREATE w_NIC_ATTACH w_SNAPSHOT_DELETE w_DISK_ATTACH w_SERVER_DELETE) (p0 : Int32) (h0 : Heap) (n0 : Nat) (O0 : Old Z n0 h0) (hc1 : ¬ (((p0 &&& (2147483647 : Int32)) % (12 : Int32)) = (0 : Int32))) (hc2 : ¬ (((p0 &&& (2147483647 : Int32)) % (12 : Int32)) = (1 : Int32))) (hc3 : ((p0 &&& (2147483647 : Int32)) % (12 : Int32)) = (2 : Int32)) :
    MetFree l x (head1 (Jvm.Cond.code x code maxLocals ret :: ws) room_1) (fun a U => a = #[(.int p0)] ∧ Z.Warmed39 U.vm ∧ U.heap = h0) (fun _ _ _ _ _ => True) (fun _ U o U' => ∃ v L, o = .returned v ∧ (v = some (.int (1 : Int32)) ∧ Fr n0 L) ∧ FrameEnd U o U' L 0 0) := by
  refine MetFree.of_bodySF (plainFor_of_name pn_1) hisR ?_
  intro p e s m args below meth c s₁ Bd hml0 hP hK
  obtain ⟨rfl, hZ, hh⟩ := hP
  have hx := Bd.exec
  have hby := Bd.bytes
  have hml : c.maxLocals = 3 := hml0
  have hown : s.vm.findClass "com/example/ratebook/ratebook/model/EventTypeIsPlatformEventPinLaw" = some m.cls := findClass_of_methodNamed Bd.named
  have hnm := (name_of_methodNamed Bd.named Bd.method).1
  have X0 : Stand p l e room_1 s m #[(.int p0)] below meth c s₁ [] 0 0 := Stand.of_body Bd
  have e0 : s₁.heap = h0 := by rw [← hh, Bd.state]; rfl
  have N0 := Fr.nil n0
  have hp' := hp
  obtain ⟨S_w_PLATFORM_DEPLOY, E_w_PLATFORM_DEPLOY, S_w_SERVER_START, E_w_SERVER_START, S_w_PLATFORM_DELETE, E_w_PLATFORM_DELETE, S_w_SERVER_DEPLOY, E_w_SERVER_DEPLOY, S_w_DISK_DETACH, E_w_DISK_DETACH, S_w_NIC_DETACH, E_w_NIC_DETACH, S_w_SERVER_STOP, E_w_SERVER_STOP, S_w_SNAPSHOT_CREATE, E_w_SNAPSHOT_CREATE, S_w_NIC_ATTACH, E_w_NIC_ATTACH, S_w_SNAPSHOT_DELETE, E_w_SNAPSHOT_DELETE, S_w_DISK_ATTACH, E_w_DISK_ATTACH, S_w_SERVER_DELETE, E_w_SERVER_DELETE, F_ordinal_w_SERVER_START, F_ordinal_w_PLATFORM_DEPLOY, F_ordinal_w_PLATFORM_DELETE, F_ordinal_w_SERVER_DEPLOY, F_ordinal_w_DISK_DETACH, F_ordinal_w_NIC_DETACH, F_ordinal_w_SERVER_STOP, F_ordinal_w_SNAPSHOT_CREATE, F_ordinal_w_NIC_ATTACH, F_ordinal_w_SNAPSHOT_DELETE, F_ordinal_w_DISK_ATTACH, F_ordinal_w_SERVER_DELETE⟩ := hp'
  have pre0 : ∀ t, Steps p.tables e below (s₁.setTop (mkF m 0 #[.val (.int p0), .unset, .unset] [])) t → Steps p.tables e below (s₁.setTop (entryFrame m #[(.int p0)] maxLocals)) t := fun t k => castTop (ef_0_0 m p0) k
  obtain ⟨_, _, ⟨T1, L1, k1, n1⟩, -, X1, ⟨Lc1, hQ1, l1, y1, z1⟩, st1⟩ := Jvm.LawKit.callS X0 hx (y := y0) hown (mvT hZ (hw _ (List.mem_of_getElem? (i := 1) rfl))) (mvT hZ (hw _ (List.mem_of_getElem? (i := 2) rfl))) (mvT hZ (hw _ (List.mem_of_getElem? (i := 3) rfl))) (mvT hZ (hw _ (List.mem_of_getElem? (i := 4) rfl))) (by decide) (backOf (W := 0) (rm9 l Z a0 hw [] w_PLATFORM_DEPLOY w_SERVER_START w_PLATFORM_DELETE w_SERVER_DEPLOY w_DISK_DETACH w_NIC_DETACH w_SERVER_STOP w_SNAPSHOT_CREATE w_NIC_ATTACH w_SNAPSHOT_DELETE w_DISK_ATTACH w_SERVER_DELETE hp ((p0 &&& (2147483647 : Int32)) % (12 : Int32)) h0 n0 O0 hc1 hc2 hc3) hZ (hw _ (List.mem_of_getElem? (i := 4) rfl)) (hw _ (List.mem_of_getElem? (i := 3) rfl)) (by decide) (by decide)) (g := (mkF m 9 #[.val (.int p0), .val (.int ((p0 &&& (2147483647 : Int32)) % (12 : Int32))), .unset] [(.int ((p0 &&& (2147483647 : Int32)) % (12 : Int32)))])) rfl (by rw [hml]; rfl) (argsL := [(.int ((p0 &&& (2147483647 : Int32)) % (12 : Int32)))]) (rest := []) (lenOf pd_0 rfl) rfl (by show 2 * 0 + _ ≤ _; exact Nat.le_of_eq rfl) (hb hby at_9) (fun _ _ => ⟨rfl, e0, (by decide : 0 + 0 ≤ _), (by decide : 0 + 0 ≤ _)⟩)
  dsimp only [Pt.U, Pt.locs, Pt.cells, Pt.slots] at X1 l1 y1 z1 st1 hQ1
  subst l1 y1 z1
  obtain ⟨rfl, Nq1, eq1⟩ := hQ1
  have N1 := Fr.app N0 Nq1
  obtain ⟨cq2, kq2, q2a, q2b, q2c⟩ := isOf hZ eq1 (E_w_SERVER_DEPLOY.ext O0.2)
  obtain ⟨_, _, ⟨T2, L2, k2, n2⟩, -, X2, ⟨Lc2, hQ2, l2, y2, z2⟩, st2⟩ := X1.virtualBack hx (y := y1) (z := y1) hown (mvT hZ (hw _ (List.mem_of_getElem? (i := 8) rfl))) (mvT hZ (hw _ (List.mem_of_getElem? (i := 9) rfl))) (notFace_of_selects (args := #[]) (mvT hZ (hw _ (List.mem_of_getElem? (i := 11) rfl)))) (mvT hZ (hw _ (List.mem_of_getElem? (i := 11) rfl))) (mvT hZ (hw _ (List.mem_of_getElem? (i := 10) rfl))) (by decide) (backOf (W := 0) (rm10 l Z a0 hw [] w_PLATFORM_DEPLOY w_SERVER_START w_PLATFORM_DELETE w_SERVER_DEPLOY w_DISK_DETACH w_NIC_DETACH w_SERVER_STOP w_SNAPSHOT_CREATE w_NIC_ATTACH w_SNAPSHOT_DELETE w_DISK_ATTACH w_SERVER_DELETE hp h0 n0 O0) hZ (hw _ (List.mem_of_getElem? (i := 12) rfl)) (hw _ (List.mem_of_getElem? (i := 6) rfl)) (by decide) (by decide)) q2a q2c (g := (mkF m 14 #[.val (.int p0), .val (.int ((p0 &&& (2147483647 : Int32)) % (12 : Int32))), .val (.ref w_SERVER_DEPLOY)] [(.ref w_SERVER_DEPLOY)])) rfl (by rw [hml]; rfl) (Steps.refl _) (argsL := []) (rest := []) (lenOf pd_1 rfl) rfl (by show 2 * 0 + _ ≤ _; exact Nat.le_of_eq rfl) (hb hby at_14) (fun _ _ => ⟨rfl, eq1, (by decide : 0 + 0 ≤ _), (by decide : 0 + 0 ≤ _)⟩)
  dsimp only [Pt.U, Pt.locs, Pt.cells, Pt.slots] at X2 l2 y2 z2 st2 hQ2
  subst l2 y2 z2
  obtain ⟨rfl, Nq2, eq2⟩ := hQ2
  have N2 := Fr.app N1 Nq2
  obtain ⟨_, _, ⟨T3, L3, k3, n3⟩, -, X3, ⟨Lc3, hQ3, l3, y3, z3⟩, st3⟩ := Jvm.LawKit.callS X2 hx (y := y2) hown (mvT hZ (hw _ (List.mem_of_getElem? (i := 14) rfl))) (mvT hZ (hw _ (List.mem_of_getElem? (i := 15) rfl))) (mvT hZ (hw _ (List.mem_of_getElem? (i := 3) rfl))) (mvT hZ (hw _ (List.mem_of_getElem? (i := 16) rfl))) (by decide) (backOf (W := 1) (rm11 l Z a0 hw [] w_PLATFORM_DEPLOY w_SERVER_START w_PLATFORM_DELETE w_SERVER_DEPLOY w_DISK_DETACH w_NIC_DETACH w_SERVER_STOP w_SNAPSHOT_CREATE w_NIC_ATTACH w_SNAPSHOT_DELETE w_DISK_ATTACH w_SERVER_DELETE hp ((p0 &&& (2147483647 : Int32)) % (12 : Int32)) h0 n0 O0 hc1 hc2) hZ (hw _ (List.mem_of_getElem? (i := 16) rfl)) (hw _ (List.mem_of_getElem? (i := 3) rfl)) (by decide) (by decide)) (g := (mkF m 18 #[.val (.int p0), .val (.int ((p0 &&& (2147483647 : Int32)) % (12 : Int32))), .val (.ref w_SERVER_DEPLOY)] [(.int ((p0 &&& (2147483647 : Int32)) % (12 : Int32))), (.int (0 : Int32))])) rfl (by rw [hml]; rfl) (argsL := [(.int ((p0 &&& (2147483647 : Int32)) % (12 : Int32)))]) (rest := [(.int (0 : Int32))]) (lenOf pd_2 rfl) rfl (by show 2 * 0 + _ ≤ _; exact Nat.le_of_eq rfl) (hb hby at_18) (fun _ _ => ⟨rfl, eq2, (by decide : 0 + 0 ≤ _), (by decide : 0 + 0 ≤ _)⟩)
  dsimp only [Pt.U, Pt.locs, Pt.cells, Pt.slots] at X3 l3 y3 z3 st3 hQ3
  subst l3 y3 z3
  obtain ⟨rfl, Nq3, eq3⟩ := hQ3
  have N3 := Fr.app N2 Nq3
  obtain ⟨fs, hr, hrun, hended, hW, hsame⟩ := X3.leave (v := some (.int (1 : Int32))) (fun h => by rw [Bd.returns] at h; cases h)
  refine ⟨_, _, pre0 _ ?_, hrun, hended, _, _, rfl, ?_, ⟨_, rfl⟩, hW, hsame.mono (by decide) (by decide)⟩
  · show Sp p e below s₁ (mkF m 0 #[.val (.int p0), .unset, .unset] []) _
    refine XS.iloadN X0.here hx rfl (hb hby at_0) rfl ?_
    show Sp p e below s₁ (mkF m 1 #[.val (.int p0), .unset, .unset] [(.int p0)]) _
    refine X0.ldcI hx hown (mvT hZ (hw _ (List.mem_of_getElem? (i := 0) rfl))) rfl (hb hby at_1) ?_
    show Sp p e below s₁ (mkF m 3 #[.val (.int p0), .unset, .unset] [(.int (2147483647 : Int32)), (.int p0)]) _
    refine XS.iand X0.here hx rfl (hb hby at_3) rfl ?_
    show Sp p e below s₁ (mkF m 4 #[.val (.int p0), .unset, .unset] [(.int (p0 &&& (2147483647 : Int32)))]) _
    refine XS.bipush X0.here hx rfl (hb hby at_4) ?_
    show Sp p e below s₁ (mkF m 6 #[.val (.int p0), .unset, .unset] [(.int (12 : Int32)), (.int (p0 &&& (2147483647 : Int32)))]) _
    refine iremM X0 hx rfl (hb hby at_6) rfl (by decide) ?_
    show Sp p e below s₁ (mkF m 7 #[.val (.int p0), .unset, .unset] [(.int ((p0 &&& (2147483647 : Int32)) % (12 : Int32)))]) _
    refine XS.istoreN X0.here hx rfl (hb hby at_7) rfl (l' := #[.val (.int p0), .val (.int ((p0 &&& (2147483647 : Int32)) % (12 : Int32))), .unset]) rfl ?_
    show Sp p e below s₁ (mkF m 8 #[.val (.int p0), .val (.int ((p0 &&& (2147483647 : Int32)) % (12 : Int32))), .unset] []) _
    refine XS.iloadN X0.here hx rfl (hb hby at_8) rfl ?_
    show Sp p e below s₁ (mkF m 9 #[.val (.int p0), .val (.int ((p0 &&& (2147483647 : Int32)) % (12 : Int32))), .unset] [(.int ((p0 &&& (2147483647 : Int32)) % (12 : Int32)))]) _
    refine st1 _ ?_
    show Sp p e below T1 (mkF m 12 #[.val (.int p0), .val (.int ((p0 &&& (2147483647 : Int32)) % (12 : Int32))), .unset] [(.ref w_SERVER_DEPLOY)]) _
    refine XS.astoreN X1.here hx rfl (hb hby at_12) rfl rfl (l' := #[.val (.int p0), .val (.int ((p0 &&& (2147483647 : Int32)) % (12 : Int32))), .val (.ref w_SERVER_DEPLOY)]) rfl ?_
    show Sp p e below T1 (mkF m 13 #[.val (.int p0), .val (.int ((p0 &&& (2147483647 : Int32)) % (12 : Int32))), .val (.ref w_SERVER_DEPLOY)] []) _
    refine XS.aloadN X1.here hx rfl (hb hby at_13) rfl rfl ?_
    show Sp p e below T1 (mkF m 14 #[.val (.int p0), .val (.int ((p0 &&& (2147483647 : Int32)) % (12 : Int32))), .val (.ref w_SERVER_DEPLOY)] [(.ref w_SERVER_DEPLOY)]) _
    refine st2.trans ?_
    show Sp p e below T2 (mkF m 17 #[.val (.int p0), .val (.int ((p0 &&& (2147483647 : Int32)) % (12 : Int32))), .val (.ref w_SERVER_DEPLOY)] [(.int (0 : Int32))]) _
    refine XS.iloadN X2.here hx rfl (hb hby at_17) rfl ?_
    show Sp p e below T2 (mkF m 18 #[.val (.int p0), .val (.int ((p0 &&& (2147483647 : Int32)) % (12 : Int32))), .val (.ref w_SERVER_DEPLOY)] [(.int ((p0 &&& (2147483647 : Int32)) % (12 : Int32))), (.int (0 : Int32))]) _
    refine st3 _ ?_
    show Sp p e below T3 (mkF m 21 #[.val (.int p0), .val (.int ((p0 &&& (2147483647 : Int32)) % (12 : Int32))), .val (.ref w_SERVER_DEPLOY)] [(.int (0 : Int32)), (.int (0 : Int32))]) _
    refine XS.icmpNo X3.here hx rfl (hb hby at_21) rfl (teq (by decide : (0 : Int32) = (0 : Int32))).2 ?_
    show Sp p e below T3 (mkF m 24 #[.val (.int p0), .val (.int ((p0 &&& (2147483647 : Int32)) % (12 : Int32))), .val (.ref w_SERVER_DEPLOY)] []) _
    refine XS.iconst X3.here hx rfl (hb hby at_24) ?_
    show Sp p e below T3 (mkF m 25 #[.val (.int p0), .val (.int ((p0 &&& (2147483647 : Int32)) % (12 : Int32))), .val (.ref w_SERVER_DEPLOY)] [(.int (1 : Int32))]) _
    refine XS.goto X3.here hx rfl (pc0 := 25) (pc' := 29) rfl (hb hby at_25) (by decide) (by decide) ?_
    show Sp p e below T3 (mkF m 29 #[.val (.int p0), .val (.int ((p0 &&& (2147483647 : Int32)) % (12 : Int32))), .val (.ref w_SERVER_DEPLOY)] [(.int (1 : Int32))]) _
    exact retN X3 hx (t := .boolean) Bd.returns (by simp) (hb hby at_29) hr
  · skip
    exact ⟨rfl, N3⟩
theorem d1_26 : decode method_2_code 26 = .ok (.iload_n 0, 1) := by decide +kernel
theorem d1_27 : decode method_2_code 27 = .ok (.iconst 3, 1) := by decide +kernel
theorem d1_28 : decode method_2_code 28 = .ok (.if_icmp .ne 7, 3) := by decide +kernel
theorem d1_31 : decode method_2_code 31 = .ok (.getstatic 19, 3) := by decide +kernel
theorem d1_34 : decode method_2_code 34 = .ok (.areturn, 1) := by decide +kernel
def Q13 (Z : State) (w_PLATFORM_DEPLOY : Addr) (w_SERVER_START : Addr) (w_PLATFORM_DELETE : Addr) (w_SERVER_DEPLOY : Addr) (w_DISK_DETACH : Addr) (w_NIC_DETACH : Addr) (w_SERVER_STOP : Addr) (w_SNAPSHOT_CREATE : Addr) (w_NIC_ATTACH : Addr) (w_SNAPSHOT_DELETE : Addr) (w_DISK_ATTACH : Addr) (w_SERVER_DELETE : Addr) (p1 : Int32) (h0 : Heap) (n0 : Nat) (v : Option Value) (h : Heap) (L : List Loc) : Prop := v = some (.ref w_SERVER_START) ∧ Fr n0 L ∧ h = h0
set_option maxRecDepth 65536 in
set_option maxHeartbeats 40000000 in
theorem rm13 (l : Launch) (Z : State) (a0 : Array Value) (hw : ∀ d ∈ tables_1, d.before a0 Z = true) (ws : List Jvm.Cond) (w_PLATFORM_DEPLOY w_SERVER_START w_PLATFORM_DELETE w_SERVER_DEPLOY w_DISK_DETACH w_NIC_DETACH w_SERVER_STOP w_SNAPSHOT_CREATE w_NIC_ATTACH w_SNAPSHOT_DELETE w_DISK_ATTACH w_SERVER_DELETE : Addr) (hp : Perm Z w_PLATFORM_DEPLOY w_SERVER_START w_PLATFORM_DELETE w_SERVER_DEPLOY w_DISK_DETACH w_NIC_DETACH w_SERVER_STOP w_SNAPSHOT_CREATE w_NIC_ATTACH w_SNAPSHOT_DELETE w_DISK_ATTACH w_SERVER_DELETE) (p1 : Int32) (h0 : Heap) (n0 : Nat) (O0 : Old Z n0 h0) (hc1 : ¬ (p1 = (0 : Int32))) (hc2 : ¬ (p1 = (1 : Int32))) (hc3 : ¬ (p1 = (2 : Int32))) (hc4 : p1 = (3 : Int32)) :
    MetFree l y0 (head1 (Jvm.Cond.code y0 method_2_code 1 (some (.object "com/example/ratebook/ratebook/model/EventType")) :: ws) ({ frames := 0, cells := 0, slots := 0, locals := 0 } : Room)) (fun a U => a = #[(.int p1)] ∧ Z.Warmed39 U.vm ∧ U.heap = h0) (fun _ _ _ _ _ => True) (fun _ U o U' => ∃ v L, o = .returned v ∧ Q13 Z w_PLATFORM_DEPLOY w_SERVER_START w_PLATFORM_DELETE w_SERVER_DEPLOY w_DISK_DETACH w_NIC_DETACH w_SERVER_STOP w_SNAPSHOT_CREATE w_NIC_ATTACH w_SNAPSHOT_DELETE w_DISK_ATTACH w_SERVER_DELETE p1 h0 n0 v U'.heap L ∧ FrameEnd U o U' L ({ frames := 0, cells := 0, slots := 0, locals := 0 } : Room).cells ({ frames := 0, cells := 0, slots := 0, locals := 0 } : Room).slots) := by
  refine MetFree.of_bodySF (plainFor_of_name pn_1) hisR ?_
  intro p e s m args below meth c s₁ Bd hml0 hP hK
  obtain ⟨rfl, hZ, hh⟩ := hP
  have hx := Bd.exec
  have hby := Bd.bytes
  have hml : c.maxLocals = 1 := hml0
  have hown : s.vm.findClass "com/example/ratebook/ratebook/model/EventTypeIsPlatformEventPinLaw" = some m.cls := findClass_of_methodNamed Bd.named
  have hnm := (name_of_methodNamed Bd.named Bd.method).1
  have X0 : Stand p l e ({ frames := 0, cells := 0, slots := 0, locals := 0 } : Room) s m #[(.int p1)] below meth c s₁ [] 0 0 := Stand.of_body Bd
  have e0 : s₁.heap = h0 := by rw [← hh, Bd.state]; rfl
  have N0 := Fr.nil n0
  have hp' := hp
  obtain ⟨S_w_PLATFORM_DEPLOY, E_w_PLATFORM_DEPLOY, S_w_SERVER_START, E_w_SERVER_START, S_w_PLATFORM_DELETE, E_w_PLATFORM_DELETE, S_w_SERVER_DEPLOY, E_w_SERVER_DEPLOY, S_w_DISK_DETACH, E_w_DISK_DETACH, S_w_NIC_DETACH, E_w_NIC_DETACH, S_w_SERVER_STOP, E_w_SERVER_STOP, S_w_SNAPSHOT_CREATE, E_w_SNAPSHOT_CREATE, S_w_NIC_ATTACH, E_w_NIC_ATTACH, S_w_SNAPSHOT_DELETE, E_w_SNAPSHOT_DELETE, S_w_DISK_ATTACH, E_w_DISK_ATTACH, S_w_SERVER_DELETE, E_w_SERVER_DELETE, F_ordinal_w_SERVER_START, F_ordinal_w_PLATFORM_DEPLOY, F_ordinal_w_PLATFORM_DELETE, F_ordinal_w_SERVER_DEPLOY, F_ordinal_w_DISK_DETACH, F_ordinal_w_NIC_DETACH, F_ordinal_w_SERVER_STOP, F_ordinal_w_SNAPSHOT_CREATE, F_ordinal_w_NIC_ATTACH, F_ordinal_w_SNAPSHOT_DELETE, F_ordinal_w_DISK_ATTACH, F_ordinal_w_SERVER_DELETE⟩ := hp'
  have pre0 : ∀ t, Steps p.tables e below (s₁.setTop (mkF m 0 #[.val (.int p1)] [])) t → Steps p.tables e below (s₁.setTop (entryFrame m #[(.int p1)] 1)) t := fun t k => castTop (ef_1_0 m p1) k
  obtain ⟨T1, X1, e1, st1⟩ := getS2 X0 hx hZ hown (host := "") (Or.inl (hw _ (List.mem_of_getElem? (i := 17) rfl))) Via.refl e0 (S_w_SERVER_START.ext O0.2) (g := (mkF m 31 #[.val (.int p1)] [])) rfl (hb hby d1_31)
  obtain ⟨fs, hr, hrun, hended, hW, hsame⟩ := X1.leave (v := some (.ref w_SERVER_START)) (fun h => by rw [Bd.returns] at h; cases h)
  refine ⟨_, _, pre0 _ ?_, hrun, hended, _, _, rfl, ?_, ⟨_, rfl⟩, hW, hsame.mono (by decide) (by decide)⟩
  · show Sp p e below s₁ (mkF m 0 #[.val (.int p1)] []) _
    refine XS.iloadN X0.here hx rfl (hb hby d1_0) rfl ?_
    show Sp p e below s₁ (mkF m 1 #[.val (.int p1)] [(.int p1)]) _
    refine XS.ifYes X0.here hx rfl (pc0 := 1) (pc' := 8) rfl (hb hby d1_1) rfl ((if0 _ _).trans (feq hc1).2) (by decide) (by decide) ?_
    show Sp p e below s₁ (mkF m 8 #[.val (.int p1)] []) _
    refine XS.iloadN X0.here hx rfl (hb hby d1_8) rfl ?_
    show Sp p e below s₁ (mkF m 9 #[.val (.int p1)] [(.int p1)]) _
    refine XS.iconst X0.here hx rfl (hb hby d1_9) ?_
    show Sp p e below s₁ (mkF m 10 #[.val (.int p1)] [(.int (1 : Int32)), (.int p1)]) _
    refine XS.icmpYes X0.here hx rfl (pc0 := 10) (pc' := 17) rfl (hb hby d1_10) rfl (feq hc2).2 (by decide) (by decide) ?_
    show Sp p e below s₁ (mkF m 17 #[.val (.int p1)] []) _
    refine XS.iloadN X0.here hx rfl (hb hby d1_17) rfl ?_
    show Sp p e below s₁ (mkF m 18 #[.val (.int p1)] [(.int p1)]) _
    refine XS.iconst X0.here hx rfl (hb hby d1_18) ?_
    show Sp p e below s₁ (mkF m 19 #[.val (.int p1)] [(.int (2 : Int32)), (.int p1)]) _
    refine XS.icmpYes X0.here hx rfl (pc0 := 19) (pc' := 26) rfl (hb hby d1_19) rfl (feq hc3).2 (by decide) (by decide) ?_
    show Sp p e below s₁ (mkF m 26 #[.val (.int p1)] []) _
    refine XS.iloadN X0.here hx rfl (hb hby d1_26) rfl ?_
    show Sp p e below s₁ (mkF m 27 #[.val (.int p1)] [(.int p1)]) _
    refine XS.iconst X0.here hx rfl (hb hby d1_27) ?_
    show Sp p e below s₁ (mkF m 28 #[.val (.int p1)] [(.int (3 : Int32)), (.int p1)]) _
    refine XS.icmpNo X0.here hx rfl (hb hby d1_28) rfl (teq hc4).2 ?_
    show Sp p e below s₁ (mkF m 31 #[.val (.int p1)] []) _
    refine st1 _ ?_
    show Sp p e below T1 (mkF m 34 #[.val (.int p1)] [(.ref w_SERVER_START)]) _
    jvm_step X1.here [X1.here.top, hx, (hb hby d1_34), X1.method', Bd.returns, Value.isRef, FieldType.isReference]
    first | (intro acts; rw [hr _ acts rfl rfl rfl]) | rw [hr _ _ rfl rfl rfl]
    exact Steps.refl _
  · show Q13 Z w_PLATFORM_DEPLOY w_SERVER_START w_PLATFORM_DELETE w_SERVER_DEPLOY w_DISK_DETACH w_NIC_DETACH w_SERVER_STOP w_SNAPSHOT_CREATE w_NIC_ATTACH w_SNAPSHOT_DELETE w_DISK_ATTACH w_SERVER_DELETE p1 h0 n0 _ T1.heap _
    rw [e1]
    exact ⟨rfl, N0, rfl⟩
def Q14 (Z : State) (w_PLATFORM_DEPLOY : Addr) (w_SERVER_START : Addr) (w_PLATFORM_DELETE : Addr) (w_SERVER_DEPLOY : Addr) (w_DISK_DETACH : Addr) (w_NIC_DETACH : Addr) (w_SERVER_STOP : Addr) (w_SNAPSHOT_CREATE : Addr) (w_NIC_ATTACH : Addr) (w_SNAPSHOT_DELETE : Addr) (w_DISK_ATTACH : Addr) (w_SERVER_DELETE : Addr) (h0 : Heap) (n0 : Nat) (v : Option Value) (h : Heap) (L : List Loc) : Prop := v = some (.int (0 : Int32)) ∧ Fr n0 L ∧ h = h0
set_option maxRecDepth 65536 in
set_option maxHeartbeats 40000000 in
theorem rm14 (l : Launch) (Z : State) (a0 : Array Value) (hw : ∀ d ∈ tables_1, d.before a0 Z = true) (ws : List Jvm.Cond) (w_PLATFORM_DEPLOY w_SERVER_START w_PLATFORM_DELETE w_SERVER_DEPLOY w_DISK_DETACH w_NIC_DETACH w_SERVER_STOP w_SNAPSHOT_CREATE w_NIC_ATTACH w_SNAPSHOT_DELETE w_DISK_ATTACH w_SERVER_DELETE : Addr) (hp : Perm Z w_PLATFORM_DEPLOY w_SERVER_START w_PLATFORM_DELETE w_SERVER_DEPLOY w_DISK_DETACH w_NIC_DETACH w_SERVER_STOP w_SNAPSHOT_CREATE w_NIC_ATTACH w_SNAPSHOT_DELETE w_DISK_ATTACH w_SERVER_DELETE) (h0 : Heap) (n0 : Nat) (O0 : Old Z n0 h0) :
    MetFree l y1 (head1 (Jvm.Cond.code y1 prog_20_method_5_code 1 (some .boolean) :: ws) ({ frames := 0, cells := 0, slots := 0, locals := 0 } : Room)) (fun a U => a = #[(.ref w_SERVER_START)] ∧ Z.Warmed39 U.vm ∧ U.heap = h0) (fun _ _ _ _ _ => True) (fun _ U o U' => ∃ v L, o = .returned v ∧ Q14 Z w_PLATFORM_DEPLOY w_SERVER_START w_PLATFORM_DELETE w_SERVER_DEPLOY w_DISK_DETACH w_NIC_DETACH w_SERVER_STOP w_SNAPSHOT_CREATE w_NIC_ATTACH w_SNAPSHOT_DELETE w_DISK_ATTACH w_SERVER_DELETE  h0 n0 v U'.heap L ∧ FrameEnd U o U' L ({ frames := 0, cells := 0, slots := 0, locals := 0 } : Room).cells ({ frames := 0, cells := 0, slots := 0, locals := 0 } : Room).slots) := by
  refine MetFree.of_bodySF (plainFor_of_name pn_2) hisR ?_
  intro p e s m args below meth c s₁ Bd hml0 hP hK
  obtain ⟨rfl, hZ, hh⟩ := hP
  have hx := Bd.exec
  have hby := Bd.bytes
  have hml : c.maxLocals = 1 := hml0
  have hown : s.vm.findClass "com/example/ratebook/ratebook/model/EventType" = some m.cls := findClass_of_methodNamed Bd.named
  have hnm := (name_of_methodNamed Bd.named Bd.method).1
  have X0 : Stand p l e ({ frames := 0, cells := 0, slots := 0, locals := 0 } : Room) s m #[(.ref w_SERVER_START)] below meth c s₁ [] 0 0 := Stand.of_body Bd
  have e0 : s₁.heap = h0 := by rw [← hh, Bd.state]; rfl
  have N0 := Fr.nil n0
  have hp' := hp
  obtain ⟨S_w_PLATFORM_DEPLOY, E_w_PLATFORM_DEPLOY, S_w_SERVER_START, E_w_SERVER_START, S_w_PLATFORM_DELETE, E_w_PLATFORM_DELETE, S_w_SERVER_DEPLOY, E_w_SERVER_DEPLOY, S_w_DISK_DETACH, E_w_DISK_DETACH, S_w_NIC_DETACH, E_w_NIC_DETACH, S_w_SERVER_STOP, E_w_SERVER_STOP, S_w_SNAPSHOT_CREATE, E_w_SNAPSHOT_CREATE, S_w_NIC_ATTACH, E_w_NIC_ATTACH, S_w_SNAPSHOT_DELETE, E_w_SNAPSHOT_DELETE, S_w_DISK_ATTACH, E_w_DISK_ATTACH, S_w_SERVER_DELETE, E_w_SERVER_DELETE, F_ordinal_w_SERVER_START, F_ordinal_w_PLATFORM_DEPLOY, F_ordinal_w_PLATFORM_DELETE, F_ordinal_w_SERVER_DEPLOY, F_ordinal_w_DISK_DETACH, F_ordinal_w_NIC_DETACH, F_ordinal_w_SERVER_STOP, F_ordinal_w_SNAPSHOT_CREATE, F_ordinal_w_NIC_ATTACH, F_ordinal_w_SNAPSHOT_DELETE, F_ordinal_w_DISK_ATTACH, F_ordinal_w_SERVER_DELETE⟩ := hp'
  have pre0 : ∀ t, Steps p.tables e below (s₁.setTop (mkF m 0 #[.val (.ref w_SERVER_START)] [])) t → Steps p.tables e below (s₁.setTop (entryFrame m #[(.ref w_SERVER_START)] 1)) t := fun t k => castTop (ef_2_0 m w_SERVER_START) k
  obtain ⟨T1, X1, e1, st1⟩ := getS2 X0 hx hZ hown (host := "") (Or.inl (hw _ (List.mem_of_getElem? (i := 13) rfl))) Via.refl e0 (S_w_PLATFORM_DEPLOY.ext O0.2) (g := (mkF m 1 #[.val (.ref w_SERVER_START)] [(.ref w_SERVER_START)])) rfl (hb hby d2_1)
  obtain ⟨T2, X2, e2, st2⟩ := getS2 X1 hx hZ hown (host := "") (Or.inl (hw _ (List.mem_of_getElem? (i := 19) rfl))) Via.refl e1 (S_w_PLATFORM_DELETE.ext O0.2) (g := (mkF m 8 #[.val (.ref w_SERVER_START)] [(.ref w_SERVER_START)])) rfl (hb hby d2_8)
  obtain ⟨fs, hr, hrun, hended, hW, hsame⟩ := X2.leave (v := some (.int (0 : Int32))) (fun h => by rw [Bd.returns] at h; cases h)
  refine ⟨_, _, pre0 _ ?_, hrun, hended, _, _, rfl, ?_, ⟨_, rfl⟩, hW, hsame.mono (by decide) (by decide)⟩
  · show Sp p e below s₁ (mkF m 0 #[.val (.ref w_SERVER_START)] []) _
    refine XS.aloadN X0.here hx rfl (hb hby d2_0) rfl rfl ?_
    show Sp p e below s₁ (mkF m 1 #[.val (.ref w_SERVER_START)] [(.ref w_SERVER_START)]) _
    refine st1 _ ?_
    show Sp p e below T1 (mkF m 4 #[.val (.ref w_SERVER_START)] [(.ref w_PLATFORM_DEPLOY), (.ref w_SERVER_START)]) _
    refine Jvm.RoadKit.acmp (g := (mkF m 4 #[.val (.ref w_SERVER_START)] [(.ref w_PLATFORM_DEPLOY), (.ref w_SERVER_START)])) X1 hx rfl rfl rfl (pc0 := 4) (pc' := 7) (same := false) rfl (hb hby d2_4) rfl (decide_eq_false fun q => (ne_w_SERVER_START_w_PLATFORM_DEPLOY hp) (Value.ref.inj q)) (by decide) (by decide) ?_
    show Sp p e below T1 (mkF m 7 #[.val (.ref w_SERVER_START)] []) _
    refine XS.aloadN X1.here hx rfl (hb hby d2_7) rfl rfl ?_
    show Sp p e below T1 (mkF m 8 #[.val (.ref w_SERVER_START)] [(.ref w_SERVER_START)]) _
    refine st2 _ ?_
    show Sp p e below T2 (mkF m 11 #[.val (.ref w_SERVER_START)] [(.ref w_PLATFORM_DELETE), (.ref w_SERVER_START)]) _
    refine Jvm.RoadKit.acmp (g := (mkF m 11 #[.val (.ref w_SERVER_START)] [(.ref w_PLATFORM_DELETE), (.ref w_SERVER_START)])) X2 hx rfl rfl rfl (pc0 := 11) (pc' := 18) (same := false) rfl (hb hby d2_11) rfl (decide_eq_false fun q => (ne_w_SERVER_START_w_PLATFORM_DELETE hp) (Value.ref.inj q)) (by decide) (by decide) ?_
    show Sp p e below T2 (mkF m 18 #[.val (.ref w_SERVER_START)] []) _
    refine XS.iconst X2.here hx rfl (hb hby d2_18) ?_
    show Sp p e below T2 (mkF m 19 #[.val (.ref w_SERVER_START)] [(.int (0 : Int32))]) _
    exact retN X2 hx (t := .boolean) Bd.returns (by simp) (hb hby d2_19) hr
  · show Q14 Z w_PLATFORM_DEPLOY w_SERVER_START w_PLATFORM_DELETE w_SERVER_DEPLOY w_DISK_DETACH w_NIC_DETACH w_SERVER_STOP w_SNAPSHOT_CREATE w_NIC_ATTACH w_SNAPSHOT_DELETE w_DISK_ATTACH w_SERVER_DELETE  h0 n0 _ T2.heap _
    rw [e2]
    exact ⟨rfl, N0, rfl⟩
set_option maxRecDepth 65536 in
set_option maxHeartbeats 40000000 in
theorem rm15 (l : Launch) (Z : State) (a0 : Array Value) (hw : ∀ d ∈ tables_1, d.before a0 Z = true) (ws : List Jvm.Cond) (w_PLATFORM_DEPLOY w_SERVER_START w_PLATFORM_DELETE w_SERVER_DEPLOY w_DISK_DETACH w_NIC_DETACH w_SERVER_STOP w_SNAPSHOT_CREATE w_NIC_ATTACH w_SNAPSHOT_DELETE w_DISK_ATTACH w_SERVER_DELETE : Addr) (hp : Perm Z w_PLATFORM_DEPLOY w_SERVER_START w_PLATFORM_DELETE w_SERVER_DEPLOY w_DISK_DETACH w_NIC_DETACH w_SERVER_STOP w_SNAPSHOT_CREATE w_NIC_ATTACH w_SNAPSHOT_DELETE w_DISK_ATTACH w_SERVER_DELETE) (p0 : Int32) (h0 : Heap) (n0 : Nat) (O0 : Old Z n0 h0) (hc1 : ¬ (((p0 &&& (2147483647 : Int32)) % (12 : Int32)) = (0 : Int32))) (hc2 : ¬ (((p0 &&& (2147483647 : Int32)) % (12 : Int32)) = (1 : Int32))) (hc3 : ¬ (((p0 &&& (2147483647 : Int32)) % (12 : Int32)) = (2 : Int32))) (hc4 : ((p0 &&& (2147483647 : Int32)) % (12 : Int32)) = (3 : Int32)) :
    MetFree l x (head1 (Jvm.Cond.code x code maxLocals ret :: ws) room_1) (fun a U => a = #[(.int p0)] ∧ Z.Warmed39 U.vm ∧ U.heap = h0) (fun _ _ _ _ _ => True) (fun _ U o U' => ∃ v L, o = .returned v ∧ (v = some (.int (1 : Int32)) ∧ Fr n0 L) ∧ FrameEnd U o U' L 0 0) := by
  refine MetFree.of_bodySF (plainFor_of_name pn_1) hisR ?_
  intro p e s m args below meth c s₁ Bd hml0 hP hK
  obtain ⟨rfl, hZ, hh⟩ := hP
  have hx := Bd.exec
  have hby := Bd.bytes
  have hml : c.maxLocals = 3 := hml0
  have hown : s.vm.findClass "com/example/ratebook/ratebook/model/EventTypeIsPlatformEventPinLaw" = some m.cls := findClass_of_methodNamed Bd.named
  have hnm := (name_of_methodNamed Bd.named Bd.method).1
  have X0 : Stand p l e room_1 s m #[(.int p0)] below meth c s₁ [] 0 0 := Stand.of_body Bd
  have e0 : s₁.heap = h0 := by rw [← hh, Bd.state]; rfl
  have N0 := Fr.nil n0
  have hp' := hp
  obtain ⟨S_w_PLATFORM_DEPLOY, E_w_PLATFORM_DEPLOY, S_w_SERVER_START, E_w_SERVER_START, S_w_PLATFORM_DELETE, E_w_PLATFORM_DELETE, S_w_SERVER_DEPLOY, E_w_SERVER_DEPLOY, S_w_DISK_DETACH, E_w_DISK_DETACH, S_w_NIC_DETACH, E_w_NIC_DETACH, S_w_SERVER_STOP, E_w_SERVER_STOP, S_w_SNAPSHOT_CREATE, E_w_SNAPSHOT_CREATE, S_w_NIC_ATTACH, E_w_NIC_ATTACH, S_w_SNAPSHOT_DELETE, E_w_SNAPSHOT_DELETE, S_w_DISK_ATTACH, E_w_DISK_ATTACH, S_w_SERVER_DELETE, E_w_SERVER_DELETE, F_ordinal_w_SERVER_START, F_ordinal_w_PLATFORM_DEPLOY, F_ordinal_w_PLATFORM_DELETE, F_ordinal_w_SERVER_DEPLOY, F_ordinal_w_DISK_DETACH, F_ordinal_w_NIC_DETACH, F_ordinal_w_SERVER_STOP, F_ordinal_w_SNAPSHOT_CREATE, F_ordinal_w_NIC_ATTACH, F_ordinal_w_SNAPSHOT_DELETE, F_ordinal_w_DISK_ATTACH, F_ordinal_w_SERVER_DELETE⟩ := hp'
  have pre0 : ∀ t, Steps p.tables e below (s₁.setTop (mkF m 0 #[.val (.int p0), .unset, .unset] [])) t → Steps p.tables e below (s₁.setTop (entryFrame m #[(.int p0)] maxLocals)) t := fun t k => castTop (ef_0_0 m p0) k
  obtain ⟨_, _, ⟨T1, L1, k1, n1⟩, -, X1, ⟨Lc1, hQ1, l1, y1, z1⟩, st1⟩ := Jvm.LawKit.callS X0 hx (y := y0) hown (mvT hZ (hw _ (List.mem_of_getElem? (i := 1) rfl))) (mvT hZ (hw _ (List.mem_of_getElem? (i := 2) rfl))) (mvT hZ (hw _ (List.mem_of_getElem? (i := 3) rfl))) (mvT hZ (hw _ (List.mem_of_getElem? (i := 4) rfl))) (by decide) (backOf (W := 0) (rm13 l Z a0 hw [] w_PLATFORM_DEPLOY w_SERVER_START w_PLATFORM_DELETE w_SERVER_DEPLOY w_DISK_DETACH w_NIC_DETACH w_SERVER_STOP w_SNAPSHOT_CREATE w_NIC_ATTACH w_SNAPSHOT_DELETE w_DISK_ATTACH w_SERVER_DELETE hp ((p0 &&& (2147483647 : Int32)) % (12 : Int32)) h0 n0 O0 hc1 hc2 hc3 hc4) hZ (hw _ (List.mem_of_getElem? (i := 4) rfl)) (hw _ (List.mem_of_getElem? (i := 3) rfl)) (by decide) (by decide)) (g := (mkF m 9 #[.val (.int p0), .val (.int ((p0 &&& (2147483647 : Int32)) % (12 : Int32))), .unset] [(.int ((p0 &&& (2147483647 : Int32)) % (12 : Int32)))])) rfl (by rw [hml]; rfl) (argsL := [(.int ((p0 &&& (2147483647 : Int32)) % (12 : Int32)))]) (rest := []) (lenOf pd_0 rfl) rfl (by show 2 * 0 + _ ≤ _; exact Nat.le_of_eq rfl) (hb hby at_9) (fun _ _ => ⟨rfl, e0, (by decide : 0 + 0 ≤ _), (by decide : 0 + 0 ≤ _)⟩)
  dsimp only [Pt.U, Pt.locs, Pt.cells, Pt.slots] at X1 l1 y1 z1 st1 hQ1
  subst l1 y1 z1
  obtain ⟨rfl, Nq1, eq1⟩ := hQ1
  have N1 := Fr.app N0 Nq1
  obtain ⟨cq2, kq2, q2a, q2b, q2c⟩ := isOf hZ eq1 (E_w_SERVER_START.ext O0.2)
  obtain ⟨_, _, ⟨T2, L2, k2, n2⟩, -, X2, ⟨Lc2, hQ2, l2, y2, z2⟩, st2⟩ := X1.virtualBack hx (y := y1) (z := y1) hown (mvT hZ (hw _ (List.mem_of_getElem? (i := 8) rfl))) (mvT hZ (hw _ (List.mem_of_getElem? (i := 9) rfl))) (notFace_of_selects (args := #[]) (mvT hZ (hw _ (List.mem_of_getElem? (i := 11) rfl)))) (mvT hZ (hw _ (List.mem_of_getElem? (i := 11) rfl))) (mvT hZ (hw _ (List.mem_of_getElem? (i := 10) rfl))) (by decide) (backOf (W := 0) (rm14 l Z a0 hw [] w_PLATFORM_DEPLOY w_SERVER_START w_PLATFORM_DELETE w_SERVER_DEPLOY w_DISK_DETACH w_NIC_DETACH w_SERVER_STOP w_SNAPSHOT_CREATE w_NIC_ATTACH w_SNAPSHOT_DELETE w_DISK_ATTACH w_SERVER_DELETE hp h0 n0 O0) hZ (hw _ (List.mem_of_getElem? (i := 12) rfl)) (hw _ (List.mem_of_getElem? (i := 6) rfl)) (by decide) (by decide)) q2a q2c (g := (mkF m 14 #[.val (.int p0), .val (.int ((p0 &&& (2147483647 : Int32)) % (12 : Int32))), .val (.ref w_SERVER_START)] [(.ref w_SERVER_START)])) rfl (by rw [hml]; rfl) (Steps.refl _) (argsL := []) (rest := []) (lenOf pd_1 rfl) rfl (by show 2 * 0 + _ ≤ _; exact Nat.le_of_eq rfl) (hb hby at_14) (fun _ _ => ⟨rfl, eq1, (by decide : 0 + 0 ≤ _), (by decide : 0 + 0 ≤ _)⟩)
  dsimp only [Pt.U, Pt.locs, Pt.cells, Pt.slots] at X2 l2 y2 z2 st2 hQ2
  subst l2 y2 z2
  obtain ⟨rfl, Nq2, eq2⟩ := hQ2
  have N2 := Fr.app N1 Nq2
  obtain ⟨_, _, ⟨T3, L3, k3, n3⟩, -, X3, ⟨Lc3, hQ3, l3, y3, z3⟩, st3⟩ := Jvm.LawKit.callS X2 hx (y := y2) hown (mvT hZ (hw _ (List.mem_of_getElem? (i := 14) rfl))) (mvT hZ (hw _ (List.mem_of_getElem? (i := 15) rfl))) (mvT hZ (hw _ (List.mem_of_getElem? (i := 3) rfl))) (mvT hZ (hw _ (List.mem_of_getElem? (i := 16) rfl))) (by decide) (backOf (W := 1) (rm11 l Z a0 hw [] w_PLATFORM_DEPLOY w_SERVER_START w_PLATFORM_DELETE w_SERVER_DEPLOY w_DISK_DETACH w_NIC_DETACH w_SERVER_STOP w_SNAPSHOT_CREATE w_NIC_ATTACH w_SNAPSHOT_DELETE w_DISK_ATTACH w_SERVER_DELETE hp ((p0 &&& (2147483647 : Int32)) % (12 : Int32)) h0 n0 O0 hc1 hc2) hZ (hw _ (List.mem_of_getElem? (i := 16) rfl)) (hw _ (List.mem_of_getElem? (i := 3) rfl)) (by decide) (by decide)) (g := (mkF m 18 #[.val (.int p0), .val (.int ((p0 &&& (2147483647 : Int32)) % (12 : Int32))), .val (.ref w_SERVER_START)] [(.int ((p0 &&& (2147483647 : Int32)) % (12 : Int32))), (.int (0 : Int32))])) rfl (by rw [hml]; rfl) (argsL := [(.int ((p0 &&& (2147483647 : Int32)) % (12 : Int32)))]) (rest := [(.int (0 : Int32))]) (lenOf pd_2 rfl) rfl (by show 2 * 0 + _ ≤ _; exact Nat.le_of_eq rfl) (hb hby at_18) (fun _ _ => ⟨rfl, eq2, (by decide : 0 + 0 ≤ _), (by decide : 0 + 0 ≤ _)⟩)
  dsimp only [Pt.U, Pt.locs, Pt.cells, Pt.slots] at X3 l3 y3 z3 st3 hQ3
  subst l3 y3 z3
  obtain ⟨rfl, Nq3, eq3⟩ := hQ3
  have N3 := Fr.app N2 Nq3
  obtain ⟨fs, hr, hrun, hended, hW, hsame⟩ := X3.leave (v := some (.int (1 : Int32))) (fun h => by rw [Bd.returns] at h; cases h)
  refine ⟨_, _, pre0 _ ?_, hrun, hended, _, _, rfl, ?_, ⟨_, rfl⟩, hW, hsame.mono (by decide) (by decide)⟩
  · show Sp p e below s₁ (mkF m 0 #[.val (.int p0), .unset, .unset] []) _
    refine XS.iloadN X0.here hx rfl (hb hby at_0) rfl ?_
    show Sp p e below s₁ (mkF m 1 #[.val (.int p0), .unset, .unset] [(.int p0)]) _
    refine X0.ldcI hx hown (mvT hZ (hw _ (List.mem_of_getElem? (i := 0) rfl))) rfl (hb hby at_1) ?_
    show Sp p e below s₁ (mkF m 3 #[.val (.int p0), .unset, .unset] [(.int (2147483647 : Int32)), (.int p0)]) _
    refine XS.iand X0.here hx rfl (hb hby at_3) rfl ?_
    show Sp p e below s₁ (mkF m 4 #[.val (.int p0), .unset, .unset] [(.int (p0 &&& (2147483647 : Int32)))]) _
    refine XS.bipush X0.here hx rfl (hb hby at_4) ?_
    show Sp p e below s₁ (mkF m 6 #[.val (.int p0), .unset, .unset] [(.int (12 : Int32)), (.int (p0 &&& (2147483647 : Int32)))]) _
    refine iremM X0 hx rfl (hb hby at_6) rfl (by decide) ?_
    show Sp p e below s₁ (mkF m 7 #[.val (.int p0), .unset, .unset] [(.int ((p0 &&& (2147483647 : Int32)) % (12 : Int32)))]) _
    refine XS.istoreN X0.here hx rfl (hb hby at_7) rfl (l' := #[.val (.int p0), .val (.int ((p0 &&& (2147483647 : Int32)) % (12 : Int32))), .unset]) rfl ?_
    show Sp p e below s₁ (mkF m 8 #[.val (.int p0), .val (.int ((p0 &&& (2147483647 : Int32)) % (12 : Int32))), .unset] []) _
    refine XS.iloadN X0.here hx rfl (hb hby at_8) rfl ?_
    show Sp p e below s₁ (mkF m 9 #[.val (.int p0), .val (.int ((p0 &&& (2147483647 : Int32)) % (12 : Int32))), .unset] [(.int ((p0 &&& (2147483647 : Int32)) % (12 : Int32)))]) _
    refine st1 _ ?_
    show Sp p e below T1 (mkF m 12 #[.val (.int p0), .val (.int ((p0 &&& (2147483647 : Int32)) % (12 : Int32))), .unset] [(.ref w_SERVER_START)]) _
    refine XS.astoreN X1.here hx rfl (hb hby at_12) rfl rfl (l' := #[.val (.int p0), .val (.int ((p0 &&& (2147483647 : Int32)) % (12 : Int32))), .val (.ref w_SERVER_START)]) rfl ?_
    show Sp p e below T1 (mkF m 13 #[.val (.int p0), .val (.int ((p0 &&& (2147483647 : Int32)) % (12 : Int32))), .val (.ref w_SERVER_START)] []) _
    refine XS.aloadN X1.here hx rfl (hb hby at_13) rfl rfl ?_
    show Sp p e below T1 (mkF m 14 #[.val (.int p0), .val (.int ((p0 &&& (2147483647 : Int32)) % (12 : Int32))), .val (.ref w_SERVER_START)] [(.ref w_SERVER_START)]) _
    refine st2.trans ?_
    show Sp p e below T2 (mkF m 17 #[.val (.int p0), .val (.int ((p0 &&& (2147483647 : Int32)) % (12 : Int32))), .val (.ref w_SERVER_START)] [(.int (0 : Int32))]) _
    refine XS.iloadN X2.here hx rfl (hb hby at_17) rfl ?_
    show Sp p e below T2 (mkF m 18 #[.val (.int p0), .val (.int ((p0 &&& (2147483647 : Int32)) % (12 : Int32))), .val (.ref w_SERVER_START)] [(.int ((p0 &&& (2147483647 : Int32)) % (12 : Int32))), (.int (0 : Int32))]) _
    refine st3 _ ?_
    show Sp p e below T3 (mkF m 21 #[.val (.int p0), .val (.int ((p0 &&& (2147483647 : Int32)) % (12 : Int32))), .val (.ref w_SERVER_START)] [(.int (0 : Int32)), (.int (0 : Int32))]) _
    refine XS.icmpNo X3.here hx rfl (hb hby at_21) rfl (teq (by decide : (0 : Int32) = (0 : Int32))).2 ?_
    show Sp p e below T3 (mkF m 24 #[.val (.int p0), .val (.int ((p0 &&& (2147483647 : Int32)) % (12 : Int32))), .val (.ref w_SERVER_START)] []) _
    refine XS.iconst X3.here hx rfl (hb hby at_24) ?_
    show Sp p e below T3 (mkF m 25 #[.val (.int p0), .val (.int ((p0 &&& (2147483647 : Int32)) % (12 : Int32))), .val (.ref w_SERVER_START)] [(.int (1 : Int32))]) _
    refine XS.goto X3.here hx rfl (pc0 := 25) (pc' := 29) rfl (hb hby at_25) (by decide) (by decide) ?_
    show Sp p e below T3 (mkF m 29 #[.val (.int p0), .val (.int ((p0 &&& (2147483647 : Int32)) % (12 : Int32))), .val (.ref w_SERVER_START)] [(.int (1 : Int32))]) _
    exact retN X3 hx (t := .boolean) Bd.returns (by simp) (hb hby at_29) hr
  · skip
    exact ⟨rfl, N3⟩
theorem d1_35 : decode method_2_code 35 = .ok (.iload_n 0, 1) := by decide +kernel
theorem d1_36 : decode method_2_code 36 = .ok (.iconst 4, 1) := by decide +kernel
theorem d1_37 : decode method_2_code 37 = .ok (.if_icmp .ne 7, 3) := by decide +kernel
theorem d1_40 : decode method_2_code 40 = .ok (.getstatic 22, 3) := by decide +kernel
theorem d1_43 : decode method_2_code 43 = .ok (.areturn, 1) := by decide +kernel
def Q16 (Z : State) (w_PLATFORM_DEPLOY : Addr) (w_SERVER_START : Addr) (w_PLATFORM_DELETE : Addr) (w_SERVER_DEPLOY : Addr) (w_DISK_DETACH : Addr) (w_NIC_DETACH : Addr) (w_SERVER_STOP : Addr) (w_SNAPSHOT_CREATE : Addr) (w_NIC_ATTACH : Addr) (w_SNAPSHOT_DELETE : Addr) (w_DISK_ATTACH : Addr) (w_SERVER_DELETE : Addr) (p1 : Int32) (h0 : Heap) (n0 : Nat) (v : Option Value) (h : Heap) (L : List Loc) : Prop := v = some (.ref w_SERVER_STOP) ∧ Fr n0 L ∧ h = h0
set_option maxRecDepth 65536 in
set_option maxHeartbeats 40000000 in
theorem rm16 (l : Launch) (Z : State) (a0 : Array Value) (hw : ∀ d ∈ tables_1, d.before a0 Z = true) (ws : List Jvm.Cond) (w_PLATFORM_DEPLOY w_SERVER_START w_PLATFORM_DELETE w_SERVER_DEPLOY w_DISK_DETACH w_NIC_DETACH w_SERVER_STOP w_SNAPSHOT_CREATE w_NIC_ATTACH w_SNAPSHOT_DELETE w_DISK_ATTACH w_SERVER_DELETE : Addr) (hp : Perm Z w_PLATFORM_DEPLOY w_SERVER_START w_PLATFORM_DELETE w_SERVER_DEPLOY w_DISK_DETACH w_NIC_DETACH w_SERVER_STOP w_SNAPSHOT_CREATE w_NIC_ATTACH w_SNAPSHOT_DELETE w_DISK_ATTACH w_SERVER_DELETE) (p1 : Int32) (h0 : Heap) (n0 : Nat) (O0 : Old Z n0 h0) (hc1 : ¬ (p1 = (0 : Int32))) (hc2 : ¬ (p1 = (1 : Int32))) (hc3 : ¬ (p1 = (2 : Int32))) (hc4 : ¬ (p1 = (3 : Int32))) (hc5 : p1 = (4 : Int32)) :
    MetFree l y0 (head1 (Jvm.Cond.code y0 method_2_code 1 (some (.object "com/example/ratebook/ratebook/model/EventType")) :: ws) ({ frames := 0, cells := 0, slots := 0, locals := 0 } : Room)) (fun a U => a = #[(.int p1)] ∧ Z.Warmed39 U.vm ∧ U.heap = h0) (fun _ _ _ _ _ => True) (fun _ U o U' => ∃ v L, o = .returned v ∧ Q16 Z w_PLATFORM_DEPLOY w_SERVER_START w_PLATFORM_DELETE w_SERVER_DEPLOY w_DISK_DETACH w_NIC_DETACH w_SERVER_STOP w_SNAPSHOT_CREATE w_NIC_ATTACH w_SNAPSHOT_DELETE w_DISK_ATTACH w_SERVER_DELETE p1 h0 n0 v U'.heap L ∧ FrameEnd U o U' L ({ frames := 0, cells := 0, slots := 0, locals := 0 } : Room).cells ({ frames := 0, cells := 0, slots := 0, locals := 0 } : Room).slots) := by
  refine MetFree.of_bodySF (plainFor_of_name pn_1) hisR ?_
  intro p e s m args below meth c s₁ Bd hml0 hP hK
  obtain ⟨rfl, hZ, hh⟩ := hP
  have hx := Bd.exec
  have hby := Bd.bytes
  have hml : c.maxLocals = 1 := hml0
  have hown : s.vm.findClass "com/example/ratebook/ratebook/model/EventTypeIsPlatformEventPinLaw" = some m.cls := findClass_of_methodNamed Bd.named
  have hnm := (name_of_methodNamed Bd.named Bd.method).1
  have X0 : Stand p l e ({ frames := 0, cells := 0, slots := 0, locals := 0 } : Room) s m #[(.int p1)] below meth c s₁ [] 0 0 := Stand.of_body Bd
  have e0 : s₁.heap = h0 := by rw [← hh, Bd.state]; rfl
  have N0 := Fr.nil n0
  have hp' := hp
  obtain ⟨S_w_PLATFORM_DEPLOY, E_w_PLATFORM_DEPLOY, S_w_SERVER_START, E_w_SERVER_START, S_w_PLATFORM_DELETE, E_w_PLATFORM_DELETE, S_w_SERVER_DEPLOY, E_w_SERVER_DEPLOY, S_w_DISK_DETACH, E_w_DISK_DETACH, S_w_NIC_DETACH, E_w_NIC_DETACH, S_w_SERVER_STOP, E_w_SERVER_STOP, S_w_SNAPSHOT_CREATE, E_w_SNAPSHOT_CREATE, S_w_NIC_ATTACH, E_w_NIC_ATTACH, S_w_SNAPSHOT_DELETE, E_w_SNAPSHOT_DELETE, S_w_DISK_ATTACH, E_w_DISK_ATTACH, S_w_SERVER_DELETE, E_w_SERVER_DELETE, F_ordinal_w_SERVER_START, F_ordinal_w_PLATFORM_DEPLOY, F_ordinal_w_PLATFORM_DELETE, F_ordinal_w_SERVER_DEPLOY, F_ordinal_w_DISK_DETACH, F_ordinal_w_NIC_DETACH, F_ordinal_w_SERVER_STOP, F_ordinal_w_SNAPSHOT_CREATE, F_ordinal_w_NIC_ATTACH, F_ordinal_w_SNAPSHOT_DELETE, F_ordinal_w_DISK_ATTACH, F_ordinal_w_SERVER_DELETE⟩ := hp'
  have pre0 : ∀ t, Steps p.tables e below (s₁.setTop (mkF m 0 #[.val (.int p1)] [])) t → Steps p.tables e below (s₁.setTop (entryFrame m #[(.int p1)] 1)) t := fun t k => castTop (ef_1_0 m p1) k
  obtain ⟨T1, X1, e1, st1⟩ := getS2 X0 hx hZ hown (host := "") (Or.inl (hw _ (List.mem_of_getElem? (i := 27) rfl))) Via.refl e0 (S_w_SERVER_STOP.ext O0.2) (g := (mkF m 40 #[.val (.int p1)] [])) rfl (hb hby d1_40)
  obtain ⟨fs, hr, hrun, hended, hW, hsame⟩ := X1.leave (v := some (.ref w_SERVER_STOP)) (fun h => by rw [Bd.returns] at h; cases h)
  refine ⟨_, _, pre0 _ ?_, hrun, hended, _, _, rfl, ?_, ⟨_, rfl⟩, hW, hsame.mono (by decide) (by decide)⟩
  · show Sp p e below s₁ (mkF m 0 #[.val (.int p1)] []) _
    refine XS.iloadN X0.here hx rfl (hb hby d1_0) rfl ?_
    show Sp p e below s₁ (mkF m 1 #[.val (.int p1)] [(.int p1)]) _
    refine XS.ifYes X0.here hx rfl (pc0 := 1) (pc' := 8) rfl (hb hby d1_1) rfl ((if0 _ _).trans (feq hc1).2) (by decide) (by decide) ?_
    show Sp p e below s₁ (mkF m 8 #[.val (.int p1)] []) _
    refine XS.iloadN X0.here hx rfl (hb hby d1_8) rfl ?_
    show Sp p e below s₁ (mkF m 9 #[.val (.int p1)] [(.int p1)]) _
    refine XS.iconst X0.here hx rfl (hb hby d1_9) ?_
    show Sp p e below s₁ (mkF m 10 #[.val (.int p1)] [(.int (1 : Int32)), (.int p1)]) _
    refine XS.icmpYes X0.here hx rfl (pc0 := 10) (pc' := 17) rfl (hb hby d1_10) rfl (feq hc2).2 (by decide) (by decide) ?_
    show Sp p e below s₁ (mkF m 17 #[.val (.int p1)] []) _
    refine XS.iloadN X0.here hx rfl (hb hby d1_17) rfl ?_
    show Sp p e below s₁ (mkF m 18 #[.val (.int p1)] [(.int p1)]) _
    refine XS.iconst X0.here hx rfl (hb hby d1_18) ?_
    show Sp p e below s₁ (mkF m 19 #[.val (.int p1)] [(.int (2 : Int32)), (.int p1)]) _
    refine XS.icmpYes X0.here hx rfl (pc0 := 19) (pc' := 26) rfl (hb hby d1_19) rfl (feq hc3).2 (by decide) (by decide) ?_
    show Sp p e below s₁ (mkF m 26 #[.val (.int p1)] []) _
    refine XS.iloadN X0.here hx rfl (hb hby d1_26) rfl ?_
    show Sp p e below s₁ (mkF m 27 #[.val (.int p1)] [(.int p1)]) _
    refine XS.iconst X0.here hx rfl (hb hby d1_27) ?_
    show Sp p e below s₁ (mkF m 28 #[.val (.int p1)] [(.int (3 : Int32)), (.int p1)]) _
    refine XS.icmpYes X0.here hx rfl (pc0 := 28) (pc' := 35) rfl (hb hby d1_28) rfl (feq hc4).2 (by decide) (by decide) ?_
    show Sp p e below s₁ (mkF m 35 #[.val (.int p1)] []) _
    refine XS.iloadN X0.here hx rfl (hb hby d1_35) rfl ?_
    show Sp p e below s₁ (mkF m 36 #[.val (.int p1)] [(.int p1)]) _
    refine XS.iconst X0.here hx rfl (hb hby d1_36) ?_
    show Sp p e below s₁ (mkF m 37 #[.val (.int p1)] [(.int (4 : Int32)), (.int p1)]) _
    refine XS.icmpNo X0.here hx rfl (hb hby d1_37) rfl (teq hc5).2 ?_
    show Sp p e below s₁ (mkF m 40 #[.val (.int p1)] []) _
    refine st1 _ ?_
    show Sp p e below T1 (mkF m 43 #[.val (.int p1)] [(.ref w_SERVER_STOP)]) _
    jvm_step X1.here [X1.here.top, hx, (hb hby d1_43), X1.method', Bd.returns, Value.isRef, FieldType.isReference]
    first | (intro acts; rw [hr _ acts rfl rfl rfl]) | rw [hr _ _ rfl rfl rfl]
    exact Steps.refl _
  · show Q16 Z w_PLATFORM_DEPLOY w_SERVER_START w_PLATFORM_DELETE w_SERVER_DEPLOY w_DISK_DETACH w_NIC_DETACH w_SERVER_STOP w_SNAPSHOT_CREATE w_NIC_ATTACH w_SNAPSHOT_DELETE w_DISK_ATTACH w_SERVER_DELETE p1 h0 n0 _ T1.heap _
    rw [e1]
    exact ⟨rfl, N0, rfl⟩
def Q17 (Z : State) (w_PLATFORM_DEPLOY : Addr) (w_SERVER_START : Addr) (w_PLATFORM_DELETE : Addr) (w_SERVER_DEPLOY : Addr) (w_DISK_DETACH : Addr) (w_NIC_DETACH : Addr) (w_SERVER_STOP : Addr) (w_SNAPSHOT_CREATE : Addr) (w_NIC_ATTACH : Addr) (w_SNAPSHOT_DELETE : Addr) (w_DISK_ATTACH : Addr) (w_SERVER_DELETE : Addr) (h0 : Heap) (n0 : Nat) (v : Option Value) (h : Heap) (L : List Loc) : Prop := v = some (.int (0 : Int32)) ∧ Fr n0 L ∧ h = h0
set_option maxRecDepth 65536 in
set_option maxHeartbeats 40000000 in
theorem rm17 (l : Launch) (Z : State) (a0 : Array Value) (hw : ∀ d ∈ tables_1, d.before a0 Z = true) (ws : List Jvm.Cond) (w_PLATFORM_DEPLOY w_SERVER_START w_PLATFORM_DELETE w_SERVER_DEPLOY w_DISK_DETACH w_NIC_DETACH w_SERVER_STOP w_SNAPSHOT_CREATE w_NIC_ATTACH w_SNAPSHOT_DELETE w_DISK_ATTACH w_SERVER_DELETE : Addr) (hp : Perm Z w_PLATFORM_DEPLOY w_SERVER_START w_PLATFORM_DELETE w_SERVER_DEPLOY w_DISK_DETACH w_NIC_DETACH w_SERVER_STOP w_SNAPSHOT_CREATE w_NIC_ATTACH w_SNAPSHOT_DELETE w_DISK_ATTACH w_SERVER_DELETE) (h0 : Heap) (n0 : Nat) (O0 : Old Z n0 h0) :
    MetFree l y1 (head1 (Jvm.Cond.code y1 prog_20_method_5_code 1 (some .boolean) :: ws) ({ frames := 0, cells := 0, slots := 0, locals := 0 } : Room)) (fun a U => a = #[(.ref w_SERVER_STOP)] ∧ Z.Warmed39 U.vm ∧ U.heap = h0) (fun _ _ _ _ _ => True) (fun _ U o U' => ∃ v L, o = .returned v ∧ Q17 Z w_PLATFORM_DEPLOY w_SERVER_START w_PLATFORM_DELETE w_SERVER_DEPLOY w_DISK_DETACH w_NIC_DETACH w_SERVER_STOP w_SNAPSHOT_CREATE w_NIC_ATTACH w_SNAPSHOT_DELETE w_DISK_ATTACH w_SERVER_DELETE  h0 n0 v U'.heap L ∧ FrameEnd U o U' L ({ frames := 0, cells := 0, slots := 0, locals := 0 } : Room).cells ({ frames := 0, cells := 0, slots := 0, locals := 0 } : Room).slots) := by
  refine MetFree.of_bodySF (plainFor_of_name pn_2) hisR ?_
  intro p e s m args below meth c s₁ Bd hml0 hP hK
  obtain ⟨rfl, hZ, hh⟩ := hP
  have hx := Bd.exec
  have hby := Bd.bytes
  have hml : c.maxLocals = 1 := hml0
  have hown : s.vm.findClass "com/example/ratebook/ratebook/model/EventType" = some m.cls := findClass_of_methodNamed Bd.named
  have hnm := (name_of_methodNamed Bd.named Bd.method).1
  have X0 : Stand p l e ({ frames := 0, cells := 0, slots := 0, locals := 0 } : Room) s m #[(.ref w_SERVER_STOP)] below meth c s₁ [] 0 0 := Stand.of_body Bd
  have e0 : s₁.heap = h0 := by rw [← hh, Bd.state]; rfl
  have N0 := Fr.nil n0
  have hp' := hp
  obtain ⟨S_w_PLATFORM_DEPLOY, E_w_PLATFORM_DEPLOY, S_w_SERVER_START, E_w_SERVER_START, S_w_PLATFORM_DELETE, E_w_PLATFORM_DELETE, S_w_SERVER_DEPLOY, E_w_SERVER_DEPLOY, S_w_DISK_DETACH, E_w_DISK_DETACH, S_w_NIC_DETACH, E_w_NIC_DETACH, S_w_SERVER_STOP, E_w_SERVER_STOP, S_w_SNAPSHOT_CREATE, E_w_SNAPSHOT_CREATE, S_w_NIC_ATTACH, E_w_NIC_ATTACH, S_w_SNAPSHOT_DELETE, E_w_SNAPSHOT_DELETE, S_w_DISK_ATTACH, E_w_DISK_ATTACH, S_w_SERVER_DELETE, E_w_SERVER_DELETE, F_ordinal_w_SERVER_START, F_ordinal_w_PLATFORM_DEPLOY, F_ordinal_w_PLATFORM_DELETE, F_ordinal_w_SERVER_DEPLOY, F_ordinal_w_DISK_DETACH, F_ordinal_w_NIC_DETACH, F_ordinal_w_SERVER_STOP, F_ordinal_w_SNAPSHOT_CREATE, F_ordinal_w_NIC_ATTACH, F_ordinal_w_SNAPSHOT_DELETE, F_ordinal_w_DISK_ATTACH, F_ordinal_w_SERVER_DELETE⟩ := hp'
  have pre0 : ∀ t, Steps p.tables e below (s₁.setTop (mkF m 0 #[.val (.ref w_SERVER_STOP)] [])) t → Steps p.tables e below (s₁.setTop (entryFrame m #[(.ref w_SERVER_STOP)] 1)) t := fun t k => castTop (ef_2_0 m w_SERVER_STOP) k
  obtain ⟨T1, X1, e1, st1⟩ := getS2 X0 hx hZ hown (host := "") (Or.inl (hw _ (List.mem_of_getElem? (i := 13) rfl))) Via.refl e0 (S_w_PLATFORM_DEPLOY.ext O0.2) (g := (mkF m 1 #[.val (.ref w_SERVER_STOP)] [(.ref w_SERVER_STOP)])) rfl (hb hby d2_1)
  obtain ⟨T2, X2, e2, st2⟩ := getS2 X1 hx hZ hown (host := "") (Or.inl (hw _ (List.mem_of_getElem? (i := 19) rfl))) Via.refl e1 (S_w_PLATFORM_DELETE.ext O0.2) (g := (mkF m 8 #[.val (.ref w_SERVER_STOP)] [(.ref w_SERVER_STOP)])) rfl (hb hby d2_8)
  obtain ⟨fs, hr, hrun, hended, hW, hsame⟩ := X2.leave (v := some (.int (0 : Int32))) (fun h => by rw [Bd.returns] at h; cases h)
  refine ⟨_, _, pre0 _ ?_, hrun, hended, _, _, rfl, ?_, ⟨_, rfl⟩, hW, hsame.mono (by decide) (by decide)⟩
  · show Sp p e below s₁ (mkF m 0 #[.val (.ref w_SERVER_STOP)] []) _
    refine XS.aloadN X0.here hx rfl (hb hby d2_0) rfl rfl ?_
    show Sp p e below s₁ (mkF m 1 #[.val (.ref w_SERVER_STOP)] [(.ref w_SERVER_STOP)]) _
    refine st1 _ ?_
    show Sp p e below T1 (mkF m 4 #[.val (.ref w_SERVER_STOP)] [(.ref w_PLATFORM_DEPLOY), (.ref w_SERVER_STOP)]) _
    refine Jvm.RoadKit.acmp (g := (mkF m 4 #[.val (.ref w_SERVER_STOP)] [(.ref w_PLATFORM_DEPLOY), (.ref w_SERVER_STOP)])) X1 hx rfl rfl rfl (pc0 := 4) (pc' := 7) (same := false) rfl (hb hby d2_4) rfl (decide_eq_false fun q => (Ne.symm (ne_w_PLATFORM_DEPLOY_w_SERVER_STOP hp)) (Value.ref.inj q)) (by decide) (by decide) ?_
    show Sp p e below T1 (mkF m 7 #[.val (.ref w_SERVER_STOP)] []) _
    refine XS.aloadN X1.here hx rfl (hb hby d2_7) rfl rfl ?_
    show Sp p e below T1 (mkF m 8 #[.val (.ref w_SERVER_STOP)] [(.ref w_SERVER_STOP)]) _
    refine st2 _ ?_
    show Sp p e below T2 (mkF m 11 #[.val (.ref w_SERVER_STOP)] [(.ref w_PLATFORM_DELETE), (.ref w_SERVER_STOP)]) _
    refine Jvm.RoadKit.acmp (g := (mkF m 11 #[.val (.ref w_SERVER_STOP)] [(.ref w_PLATFORM_DELETE), (.ref w_SERVER_STOP)])) X2 hx rfl rfl rfl (pc0 := 11) (pc' := 18) (same := false) rfl (hb hby d2_11) rfl (decide_eq_false fun q => (Ne.symm (ne_w_PLATFORM_DELETE_w_SERVER_STOP hp)) (Value.ref.inj q)) (by decide) (by decide) ?_
    show Sp p e below T2 (mkF m 18 #[.val (.ref w_SERVER_STOP)] []) _
    refine XS.iconst X2.here hx rfl (hb hby d2_18) ?_
    show Sp p e below T2 (mkF m 19 #[.val (.ref w_SERVER_STOP)] [(.int (0 : Int32))]) _
    exact retN X2 hx (t := .boolean) Bd.returns (by simp) (hb hby d2_19) hr
  · show Q17 Z w_PLATFORM_DEPLOY w_SERVER_START w_PLATFORM_DELETE w_SERVER_DEPLOY w_DISK_DETACH w_NIC_DETACH w_SERVER_STOP w_SNAPSHOT_CREATE w_NIC_ATTACH w_SNAPSHOT_DELETE w_DISK_ATTACH w_SERVER_DELETE  h0 n0 _ T2.heap _
    rw [e2]
    exact ⟨rfl, N0, rfl⟩
set_option maxRecDepth 65536 in
set_option maxHeartbeats 40000000 in
theorem rm18 (l : Launch) (Z : State) (a0 : Array Value) (hw : ∀ d ∈ tables_1, d.before a0 Z = true) (ws : List Jvm.Cond) (w_PLATFORM_DEPLOY w_SERVER_START w_PLATFORM_DELETE w_SERVER_DEPLOY w_DISK_DETACH w_NIC_DETACH w_SERVER_STOP w_SNAPSHOT_CREATE w_NIC_ATTACH w_SNAPSHOT_DELETE w_DISK_ATTACH w_SERVER_DELETE : Addr) (hp : Perm Z w_PLATFORM_DEPLOY w_SERVER_START w_PLATFORM_DELETE w_SERVER_DEPLOY w_DISK_DETACH w_NIC_DETACH w_SERVER_STOP w_SNAPSHOT_CREATE w_NIC_ATTACH w_SNAPSHOT_DELETE w_DISK_ATTACH w_SERVER_DELETE) (p0 : Int32) (h0 : Heap) (n0 : Nat) (O0 : Old Z n0 h0) (hc1 : ¬ (((p0 &&& (2147483647 : Int32)) % (12 : Int32)) = (0 : Int32))) (hc2 : ¬ (((p0 &&& (2147483647 : Int32)) % (12 : Int32)) = (1 : Int32))) (hc3 : ¬ (((p0 &&& (2147483647 : Int32)) % (12 : Int32)) = (2 : Int32))) (hc4 : ¬ (((p0 &&& (2147483647 : Int32)) % (12 : Int32)) = (3 : Int32))) (hc5 : ((p0 &&& (2147483647 : Int32)) % (12 : Int32)) = (4 : Int32)) :
    MetFree l x (head1 (Jvm.Cond.code x code maxLocals ret :: ws) room_1) (fun a U => a = #[(.int p0)] ∧ Z.Warmed39 U.vm ∧ U.heap = h0) (fun _ _ _ _ _ => True) (fun _ U o U' => ∃ v L, o = .returned v ∧ (v = some (.int (1 : Int32)) ∧ Fr n0 L) ∧ FrameEnd U o U' L 0 0) := by
  refine MetFree.of_bodySF (plainFor_of_name pn_1) hisR ?_
  intro p e s m args below meth c s₁ Bd hml0 hP hK
  obtain ⟨rfl, hZ, hh⟩ := hP
  have hx := Bd.exec
  have hby := Bd.bytes
  have hml : c.maxLocals = 3 := hml0
  have hown : s.vm.findClass "com/example/ratebook/ratebook/model/EventTypeIsPlatformEventPinLaw" = some m.cls := findClass_of_methodNamed Bd.named
  have hnm := (name_of_methodNamed Bd.named Bd.method).1
  have X0 : Stand p l e room_1 s m #[(.int p0)] below meth c s₁ [] 0 0 := Stand.of_body Bd
  have e0 : s₁.heap = h0 := by rw [← hh, Bd.state]; rfl
  have N0 := Fr.nil n0
  have hp' := hp
  obtain ⟨S_w_PLATFORM_DEPLOY, E_w_PLATFORM_DEPLOY, S_w_SERVER_START, E_w_SERVER_START, S_w_PLATFORM_DELETE, E_w_PLATFORM_DELETE, S_w_SERVER_DEPLOY, E_w_SERVER_DEPLOY, S_w_DISK_DETACH, E_w_DISK_DETACH, S_w_NIC_DETACH, E_w_NIC_DETACH, S_w_SERVER_STOP, E_w_SERVER_STOP, S_w_SNAPSHOT_CREATE, E_w_SNAPSHOT_CREATE, S_w_NIC_ATTACH, E_w_NIC_ATTACH, S_w_SNAPSHOT_DELETE, E_w_SNAPSHOT_DELETE, S_w_DISK_ATTACH, E_w_DISK_ATTACH, S_w_SERVER_DELETE, E_w_SERVER_DELETE, F_ordinal_w_SERVER_START, F_ordinal_w_PLATFORM_DEPLOY, F_ordinal_w_PLATFORM_DELETE, F_ordinal_w_SERVER_DEPLOY, F_ordinal_w_DISK_DETACH, F_ordinal_w_NIC_DETACH, F_ordinal_w_SERVER_STOP, F_ordinal_w_SNAPSHOT_CREATE, F_ordinal_w_NIC_ATTACH, F_ordinal_w_SNAPSHOT_DELETE, F_ordinal_w_DISK_ATTACH, F_ordinal_w_SERVER_DELETE⟩ := hp'
  have pre0 : ∀ t, Steps p.tables e below (s₁.setTop (mkF m 0 #[.val (.int p0), .unset, .unset] [])) t → Steps p.tables e below (s₁.setTop (entryFrame m #[(.int p0)] maxLocals)) t := fun t k => castTop (ef_0_0 m p0) k
  obtain ⟨_, _, ⟨T1, L1, k1, n1⟩, -, X1, ⟨Lc1, hQ1, l1, y1, z1⟩, st1⟩ := Jvm.LawKit.callS X0 hx (y := y0) hown (mvT hZ (hw _ (List.mem_of_getElem? (i := 1) rfl))) (mvT hZ (hw _ (List.mem_of_getElem? (i := 2) rfl))) (mvT hZ (hw _ (List.mem_of_getElem? (i := 3) rfl))) (mvT hZ (hw _ (List.mem_of_getElem? (i := 4) rfl))) (by decide) (backOf (W := 0) (rm16 l Z a0 hw [] w_PLATFORM_DEPLOY w_SERVER_START w_PLATFORM_DELETE w_SERVER_DEPLOY w_DISK_DETACH w_NIC_DETACH w_SERVER_STOP w_SNAPSHOT_CREATE w_NIC_ATTACH w_SNAPSHOT_DELETE w_DISK_ATTACH w_SERVER_DELETE hp ((p0 &&& (2147483647 : Int32)) % (12 : Int32)) h0 n0 O0 hc1 hc2 hc3 hc4 hc5) hZ (hw _ (List.mem_of_getElem? (i := 4) rfl)) (hw _ (List.mem_of_getElem? (i := 3) rfl)) (by decide) (by decide)) (g := (mkF m 9 #[.val (.int p0), .val (.int ((p0 &&& (2147483647 : Int32)) % (12 : Int32))), .unset] [(.int ((p0 &&& (2147483647 : Int32)) % (12 : Int32)))])) rfl (by rw [hml]; rfl) (argsL := [(.int ((p0 &&& (2147483647 : Int32)) % (12 : Int32)))]) (rest := []) (lenOf pd_0 rfl) rfl (by show 2 * 0 + _ ≤ _; exact Nat.le_of_eq rfl) (hb hby at_9) (fun _ _ => ⟨rfl, e0, (by decide : 0 + 0 ≤ _), (by decide : 0 + 0 ≤ _)⟩)
  dsimp only [Pt.U, Pt.locs, Pt.cells, Pt.slots] at X1 l1 y1 z1 st1 hQ1
  subst l1 y1 z1
  obtain ⟨rfl, Nq1, eq1⟩ := hQ1
  have N1 := Fr.app N0 Nq1
  obtain ⟨cq2, kq2, q2a, q2b, q2c⟩ := isOf hZ eq1 (E_w_SERVER_STOP.ext O0.2)
  obtain ⟨_, _, ⟨T2, L2, k2, n2⟩, -, X2, ⟨Lc2, hQ2, l2, y2, z2⟩, st2⟩ := X1.virtualBack hx (y := y1) (z := y1) hown (mvT hZ (hw _ (List.mem_of_getElem? (i := 8) rfl))) (mvT hZ (hw _ (List.mem_of_getElem? (i := 9) rfl))) (notFace_of_selects (args := #[]) (mvT hZ (hw _ (List.mem_of_getElem? (i := 11) rfl)))) (mvT hZ (hw _ (List.mem_of_getElem? (i := 11) rfl))) (mvT hZ (hw _ (List.mem_of_getElem? (i := 10) rfl))) (by decide) (backOf (W := 0) (rm17 l Z a0 hw [] w_PLATFORM_DEPLOY w_SERVER_START w_PLATFORM_DELETE w_SERVER_DEPLOY w_DISK_DETACH w_NIC_DETACH w_SERVER_STOP w_SNAPSHOT_CREATE w_NIC_ATTACH w_SNAPSHOT_DELETE w_DISK_ATTACH w_SERVER_DELETE hp h0 n0 O0) hZ (hw _ (List.mem_of_getElem? (i := 12) rfl)) (hw _ (List.mem_of_getElem? (i := 6) rfl)) (by decide) (by decide)) q2a q2c (g := (mkF m 14 #[.val (.int p0), .val (.int ((p0 &&& (2147483647 : Int32)) % (12 : Int32))), .val (.ref w_SERVER_STOP)] [(.ref w_SERVER_STOP)])) rfl (by rw [hml]; rfl) (Steps.refl _) (argsL := []) (rest := []) (lenOf pd_1 rfl) rfl (by show 2 * 0 + _ ≤ _; exact Nat.le_of_eq rfl) (hb hby at_14) (fun _ _ => ⟨rfl, eq1, (by decide : 0 + 0 ≤ _), (by decide : 0 + 0 ≤ _)⟩)
  dsimp only [Pt.U, Pt.locs, Pt.cells, Pt.slots] at X2 l2 y2 z2 st2 hQ2
  subst l2 y2 z2
  obtain ⟨rfl, Nq2, eq2⟩ := hQ2
  have N2 := Fr.app N1 Nq2
  obtain ⟨_, _, ⟨T3, L3, k3, n3⟩, -, X3, ⟨Lc3, hQ3, l3, y3, z3⟩, st3⟩ := Jvm.LawKit.callS X2 hx (y := y2) hown (mvT hZ (hw _ (List.mem_of_getElem? (i := 14) rfl))) (mvT hZ (hw _ (List.mem_of_getElem? (i := 15) rfl))) (mvT hZ (hw _ (List.mem_of_getElem? (i := 3) rfl))) (mvT hZ (hw _ (List.mem_of_getElem? (i := 16) rfl))) (by decide) (backOf (W := 1) (rm11 l Z a0 hw [] w_PLATFORM_DEPLOY w_SERVER_START w_PLATFORM_DELETE w_SERVER_DEPLOY w_DISK_DETACH w_NIC_DETACH w_SERVER_STOP w_SNAPSHOT_CREATE w_NIC_ATTACH w_SNAPSHOT_DELETE w_DISK_ATTACH w_SERVER_DELETE hp ((p0 &&& (2147483647 : Int32)) % (12 : Int32)) h0 n0 O0 hc1 hc2) hZ (hw _ (List.mem_of_getElem? (i := 16) rfl)) (hw _ (List.mem_of_getElem? (i := 3) rfl)) (by decide) (by decide)) (g := (mkF m 18 #[.val (.int p0), .val (.int ((p0 &&& (2147483647 : Int32)) % (12 : Int32))), .val (.ref w_SERVER_STOP)] [(.int ((p0 &&& (2147483647 : Int32)) % (12 : Int32))), (.int (0 : Int32))])) rfl (by rw [hml]; rfl) (argsL := [(.int ((p0 &&& (2147483647 : Int32)) % (12 : Int32)))]) (rest := [(.int (0 : Int32))]) (lenOf pd_2 rfl) rfl (by show 2 * 0 + _ ≤ _; exact Nat.le_of_eq rfl) (hb hby at_18) (fun _ _ => ⟨rfl, eq2, (by decide : 0 + 0 ≤ _), (by decide : 0 + 0 ≤ _)⟩)
  dsimp only [Pt.U, Pt.locs, Pt.cells, Pt.slots] at X3 l3 y3 z3 st3 hQ3
  subst l3 y3 z3
  obtain ⟨rfl, Nq3, eq3⟩ := hQ3
  have N3 := Fr.app N2 Nq3
  obtain ⟨fs, hr, hrun, hended, hW, hsame⟩ := X3.leave (v := some (.int (1 : Int32))) (fun h => by rw [Bd.returns] at h; cases h)
  refine ⟨_, _, pre0 _ ?_, hrun, hended, _, _, rfl, ?_, ⟨_, rfl⟩, hW, hsame.mono (by decide) (by decide)⟩
  · show Sp p e below s₁ (mkF m 0 #[.val (.int p0), .unset, .unset] []) _
    refine XS.iloadN X0.here hx rfl (hb hby at_0) rfl ?_
    show Sp p e below s₁ (mkF m 1 #[.val (.int p0), .unset, .unset] [(.int p0)]) _
    refine X0.ldcI hx hown (mvT hZ (hw _ (List.mem_of_getElem? (i := 0) rfl))) rfl (hb hby at_1) ?_
    show Sp p e below s₁ (mkF m 3 #[.val (.int p0), .unset, .unset] [(.int (2147483647 : Int32)), (.int p0)]) _
    refine XS.iand X0.here hx rfl (hb hby at_3) rfl ?_
    show Sp p e below s₁ (mkF m 4 #[.val (.int p0), .unset, .unset] [(.int (p0 &&& (2147483647 : Int32)))]) _
    refine XS.bipush X0.here hx rfl (hb hby at_4) ?_
    show Sp p e below s₁ (mkF m 6 #[.val (.int p0), .unset, .unset] [(.int (12 : Int32)), (.int (p0 &&& (2147483647 : Int32)))]) _
    refine iremM X0 hx rfl (hb hby at_6) rfl (by decide) ?_
    show Sp p e below s₁ (mkF m 7 #[.val (.int p0), .unset, .unset] [(.int ((p0 &&& (2147483647 : Int32)) % (12 : Int32)))]) _
    refine XS.istoreN X0.here hx rfl (hb hby at_7) rfl (l' := #[.val (.int p0), .val (.int ((p0 &&& (2147483647 : Int32)) % (12 : Int32))), .unset]) rfl ?_
    show Sp p e below s₁ (mkF m 8 #[.val (.int p0), .val (.int ((p0 &&& (2147483647 : Int32)) % (12 : Int32))), .unset] []) _
    refine XS.iloadN X0.here hx rfl (hb hby at_8) rfl ?_
    show Sp p e below s₁ (mkF m 9 #[.val (.int p0), .val (.int ((p0 &&& (2147483647 : Int32)) % (12 : Int32))), .unset] [(.int ((p0 &&& (2147483647 : Int32)) % (12 : Int32)))]) _
    refine st1 _ ?_
    show Sp p e below T1 (mkF m 12 #[.val (.int p0), .val (.int ((p0 &&& (2147483647 : Int32)) % (12 : Int32))), .unset] [(.ref w_SERVER_STOP)]) _
    refine XS.astoreN X1.here hx rfl (hb hby at_12) rfl rfl (l' := #[.val (.int p0), .val (.int ((p0 &&& (2147483647 : Int32)) % (12 : Int32))), .val (.ref w_SERVER_STOP)]) rfl ?_
    show Sp p e below T1 (mkF m 13 #[.val (.int p0), .val (.int ((p0 &&& (2147483647 : Int32)) % (12 : Int32))), .val (.ref w_SERVER_STOP)] []) _
    refine XS.aloadN X1.here hx rfl (hb hby at_13) rfl rfl ?_
    show Sp p e below T1 (mkF m 14 #[.val (.int p0), .val (.int ((p0 &&& (2147483647 : Int32)) % (12 : Int32))), .val (.ref w_SERVER_STOP)] [(.ref w_SERVER_STOP)]) _
    refine st2.trans ?_
    show Sp p e below T2 (mkF m 17 #[.val (.int p0), .val (.int ((p0 &&& (2147483647 : Int32)) % (12 : Int32))), .val (.ref w_SERVER_STOP)] [(.int (0 : Int32))]) _
    refine XS.iloadN X2.here hx rfl (hb hby at_17) rfl ?_
    show Sp p e below T2 (mkF m 18 #[.val (.int p0), .val (.int ((p0 &&& (2147483647 : Int32)) % (12 : Int32))), .val (.ref w_SERVER_STOP)] [(.int ((p0 &&& (2147483647 : Int32)) % (12 : Int32))), (.int (0 : Int32))]) _
    refine st3 _ ?_
    show Sp p e below T3 (mkF m 21 #[.val (.int p0), .val (.int ((p0 &&& (2147483647 : Int32)) % (12 : Int32))), .val (.ref w_SERVER_STOP)] [(.int (0 : Int32)), (.int (0 : Int32))]) _
    refine XS.icmpNo X3.here hx rfl (hb hby at_21) rfl (teq (by decide : (0 : Int32) = (0 : Int32))).2 ?_
    show Sp p e below T3 (mkF m 24 #[.val (.int p0), .val (.int ((p0 &&& (2147483647 : Int32)) % (12 : Int32))), .val (.ref w_SERVER_STOP)] []) _
    refine XS.iconst X3.here hx rfl (hb hby at_24) ?_
    show Sp p e below T3 (mkF m 25 #[.val (.int p0), .val (.int ((p0 &&& (2147483647 : Int32)) % (12 : Int32))), .val (.ref w_SERVER_STOP)] [(.int (1 : Int32))]) _
    refine XS.goto X3.here hx rfl (pc0 := 25) (pc' := 29) rfl (hb hby at_25) (by decide) (by decide) ?_
    show Sp p e below T3 (mkF m 29 #[.val (.int p0), .val (.int ((p0 &&& (2147483647 : Int32)) % (12 : Int32))), .val (.ref w_SERVER_STOP)] [(.int (1 : Int32))]) _
    exact retN X3 hx (t := .boolean) Bd.returns (by simp) (hb hby at_29) hr
  · skip
    exact ⟨rfl, N3⟩
theorem d1_44 : decode method_2_code 44 = .ok (.iload_n 0, 1) := by decide +kernel
theorem d1_45 : decode method_2_code 45 = .ok (.iconst 5, 1) := by decide +kernel
theorem d1_46 : decode method_2_code 46 = .ok (.if_icmp .ne 7, 3) := by decide +kernel
theorem d1_49 : decode method_2_code 49 = .ok (.getstatic 25, 3) := by decide +kernel
theorem d1_52 : decode method_2_code 52 = .ok (.areturn, 1) := by decide +kernel
def Q19 (Z : State) (w_PLATFORM_DEPLOY : Addr) (w_SERVER_START : Addr) (w_PLATFORM_DELETE : Addr) (w_SERVER_DEPLOY : Addr) (w_DISK_DETACH : Addr) (w_NIC_DETACH : Addr) (w_SERVER_STOP : Addr) (w_SNAPSHOT_CREATE : Addr) (w_NIC_ATTACH : Addr) (w_SNAPSHOT_DELETE : Addr) (w_DISK_ATTACH : Addr) (w_SERVER_DELETE : Addr) (p1 : Int32) (h0 : Heap) (n0 : Nat) (v : Option Value) (h : Heap) (L : List Loc) : Prop := v = some (.ref w_SERVER_DELETE) ∧ Fr n0 L ∧ h = h0
set_option maxRecDepth 65536 in
set_option maxHeartbeats 40000000 in
theorem rm19 (l : Launch) (Z : State) (a0 : Array Value) (hw : ∀ d ∈ tables_1, d.before a0 Z = true) (ws : List Jvm.Cond) (w_PLATFORM_DEPLOY w_SERVER_START w_PLATFORM_DELETE w_SERVER_DEPLOY w_DISK_DETACH w_NIC_DETACH w_SERVER_STOP w_SNAPSHOT_CREATE w_NIC_ATTACH w_SNAPSHOT_DELETE w_DISK_ATTACH w_SERVER_DELETE : Addr) (hp : Perm Z w_PLATFORM_DEPLOY w_SERVER_START w_PLATFORM_DELETE w_SERVER_DEPLOY w_DISK_DETACH w_NIC_DETACH w_SERVER_STOP w_SNAPSHOT_CREATE w_NIC_ATTACH w_SNAPSHOT_DELETE w_DISK_ATTACH w_SERVER_DELETE) (p1 : Int32) (h0 : Heap) (n0 : Nat) (O0 : Old Z n0 h0) (hc1 : ¬ (p1 = (0 : Int32))) (hc2 : ¬ (p1 = (1 : Int32))) (hc3 : ¬ (p1 = (2 : Int32))) (hc4 : ¬ (p1 = (3 : Int32))) (hc5 : ¬ (p1 = (4 : Int32))) (hc6 : p1 = (5 : Int32)) :
    MetFree l y0 (head1 (Jvm.Cond.code y0 method_2_code 1 (some (.object "com/example/ratebook/ratebook/model/EventType")) :: ws) ({ frames := 0, cells := 0, slots := 0, locals := 0 } : Room)) (fun a U => a = #[(.int p1)] ∧ Z.Warmed39 U.vm ∧ U.heap = h0) (fun _ _ _ _ _ => True) (fun _ U o U' => ∃ v L, o = .returned v ∧ Q19 Z w_PLATFORM_DEPLOY w_SERVER_START w_PLATFORM_DELETE w_SERVER_DEPLOY w_DISK_DETACH w_NIC_DETACH w_SERVER_STOP w_SNAPSHOT_CREATE w_NIC_ATTACH w_SNAPSHOT_DELETE w_DISK_ATTACH w_SERVER_DELETE p1 h0 n0 v U'.heap L ∧ FrameEnd U o U' L ({ frames := 0, cells := 0, slots := 0, locals := 0 } : Room).cells ({ frames := 0, cells := 0, slots := 0, locals := 0 } : Room).slots) := by
  refine MetFree.of_bodySF (plainFor_of_name pn_1) hisR ?_
  intro p e s m args below meth c s₁ Bd hml0 hP hK
  obtain ⟨rfl, hZ, hh⟩ := hP
  have hx := Bd.exec
  have hby := Bd.bytes
  have hml : c.maxLocals = 1 := hml0
  have hown : s.vm.findClass "com/example/ratebook/ratebook/model/EventTypeIsPlatformEventPinLaw" = some m.cls := findClass_of_methodNamed Bd.named
  have hnm := (name_of_methodNamed Bd.named Bd.method).1
  have X0 : Stand p l e ({ frames := 0, cells := 0, slots := 0, locals := 0 } : Room) s m #[(.int p1)] below meth c s₁ [] 0 0 := Stand.of_body Bd
  have e0 : s₁.heap = h0 := by rw [← hh, Bd.state]; rfl
  have N0 := Fr.nil n0
  have hp' := hp
  obtain ⟨S_w_PLATFORM_DEPLOY, E_w_PLATFORM_DEPLOY, S_w_SERVER_START, E_w_SERVER_START, S_w_PLATFORM_DELETE, E_w_PLATFORM_DELETE, S_w_SERVER_DEPLOY, E_w_SERVER_DEPLOY, S_w_DISK_DETACH, E_w_DISK_DETACH, S_w_NIC_DETACH, E_w_NIC_DETACH, S_w_SERVER_STOP, E_w_SERVER_STOP, S_w_SNAPSHOT_CREATE, E_w_SNAPSHOT_CREATE, S_w_NIC_ATTACH, E_w_NIC_ATTACH, S_w_SNAPSHOT_DELETE, E_w_SNAPSHOT_DELETE, S_w_DISK_ATTACH, E_w_DISK_ATTACH, S_w_SERVER_DELETE, E_w_SERVER_DELETE, F_ordinal_w_SERVER_START, F_ordinal_w_PLATFORM_DEPLOY, F_ordinal_w_PLATFORM_DELETE, F_ordinal_w_SERVER_DEPLOY, F_ordinal_w_DISK_DETACH, F_ordinal_w_NIC_DETACH, F_ordinal_w_SERVER_STOP, F_ordinal_w_SNAPSHOT_CREATE, F_ordinal_w_NIC_ATTACH, F_ordinal_w_SNAPSHOT_DELETE, F_ordinal_w_DISK_ATTACH, F_ordinal_w_SERVER_DELETE⟩ := hp'
  have pre0 : ∀ t, Steps p.tables e below (s₁.setTop (mkF m 0 #[.val (.int p1)] [])) t → Steps p.tables e below (s₁.setTop (entryFrame m #[(.int p1)] 1)) t := fun t k => castTop (ef_1_0 m p1) k
  obtain ⟨T1, X1, e1, st1⟩ := getS2 X0 hx hZ hown (host := "") (Or.inl (hw _ (List.mem_of_getElem? (i := 38) rfl))) Via.refl e0 (S_w_SERVER_DELETE.ext O0.2) (g := (mkF m 49 #[.val (.int p1)] [])) rfl (hb hby d1_49)
  obtain ⟨fs, hr, hrun, hended, hW, hsame⟩ := X1.leave (v := some (.ref w_SERVER_DELETE)) (fun h => by rw [Bd.returns] at h; cases h)
  refine ⟨_, _, pre0 _ ?_, hrun, hended, _, _, rfl, ?_, ⟨_, rfl⟩, hW, hsame.mono (by decide) (by decide)⟩
  · show Sp p e below s₁ (mkF m 0 #[.val (.int p1)] []) _
    refine XS.iloadN X0.here hx rfl (hb hby d1_0) rfl ?_
    show Sp p e below s₁ (mkF m 1 #[.val (.int p1)] [(.int p1)]) _
    refine XS.ifYes X0.here hx rfl (pc0 := 1) (pc' := 8) rfl (hb hby d1_1) rfl ((if0 _ _).trans (feq hc1).2) (by decide) (by decide) ?_
    show Sp p e below s₁ (mkF m 8 #[.val (.int p1)] []) _
    refine XS.iloadN X0.here hx rfl (hb hby d1_8) rfl ?_
    show Sp p e below s₁ (mkF m 9 #[.val (.int p1)] [(.int p1)]) _
    refine XS.iconst X0.here hx rfl (hb hby d1_9) ?_
    show Sp p e below s₁ (mkF m 10 #[.val (.int p1)] [(.int (1 : Int32)), (.int p1)]) _
    refine XS.icmpYes X0.here hx rfl (pc0 := 10) (pc' := 17) rfl (hb hby d1_10) rfl (feq hc2).2 (by decide) (by decide) ?_
    show Sp p e below s₁ (mkF m 17 #[.val (.int p1)] []) _
    refine XS.iloadN X0.here hx rfl (hb hby d1_17) rfl ?_
    show Sp p e below s₁ (mkF m 18 #[.val (.int p1)] [(.int p1)]) _
    refine XS.iconst X0.here hx rfl (hb hby d1_18) ?_
    show Sp p e below s₁ (mkF m 19 #[.val (.int p1)] [(.int (2 : Int32)), (.int p1)]) _
    refine XS.icmpYes X0.here hx rfl (pc0 := 19) (pc' := 26) rfl (hb hby d1_19) rfl (feq hc3).2 (by decide) (by decide) ?_
    show Sp p e below s₁ (mkF m 26 #[.val (.int p1)] []) _
    refine XS.iloadN X0.here hx rfl (hb hby d1_26) rfl ?_
    show Sp p e below s₁ (mkF m 27 #[.val (.int p1)] [(.int p1)]) _
    refine XS.iconst X0.here hx rfl (hb hby d1_27) ?_
    show Sp p e below s₁ (mkF m 28 #[.val (.int p1)] [(.int (3 : Int32)), (.int p1)]) _
    refine XS.icmpYes X0.here hx rfl (pc0 := 28) (pc' := 35) rfl (hb hby d1_28) rfl (feq hc4).2 (by decide) (by decide) ?_
    show Sp p e below s₁ (mkF m 35 #[.val (.int p1)] []) _
    refine XS.iloadN X0.here hx rfl (hb hby d1_35) rfl ?_
    show Sp p e below s₁ (mkF m 36 #[.val (.int p1)] [(.int p1)]) _
    refine XS.iconst X0.here hx rfl (hb hby d1_36) ?_
    show Sp p e below s₁ (mkF m 37 #[.val (.int p1)] [(.int (4 : Int32)), (.int p1)]) _
    refine XS.icmpYes X0.here hx rfl (pc0 := 37) (pc' := 44) rfl (hb hby d1_37) rfl (feq hc5).2 (by decide) (by decide) ?_
    show Sp p e below s₁ (mkF m 44 #[.val (.int p1)] []) _
    refine XS.iloadN X0.here hx rfl (hb hby d1_44) rfl ?_
    show Sp p e below s₁ (mkF m 45 #[.val (.int p1)] [(.int p1)]) _
    refine XS.iconst X0.here hx rfl (hb hby d1_45) ?_
    show Sp p e below s₁ (mkF m 46 #[.val (.int p1)] [(.int (5 : Int32)), (.int p1)]) _
    refine XS.icmpNo X0.here hx rfl (hb hby d1_46) rfl (teq hc6).2 ?_
    show Sp p e below s₁ (mkF m 49 #[.val (.int p1)] []) _
    refine st1 _ ?_
    show Sp p e below T1 (mkF m 52 #[.val (.int p1)] [(.ref w_SERVER_DELETE)]) _
    jvm_step X1.here [X1.here.top, hx, (hb hby d1_52), X1.method', Bd.returns, Value.isRef, FieldType.isReference]
    first | (intro acts; rw [hr _ acts rfl rfl rfl]) | rw [hr _ _ rfl rfl rfl]
    exact Steps.refl _
  · show Q19 Z w_PLATFORM_DEPLOY w_SERVER_START w_PLATFORM_DELETE w_SERVER_DEPLOY w_DISK_DETACH w_NIC_DETACH w_SERVER_STOP w_SNAPSHOT_CREATE w_NIC_ATTACH w_SNAPSHOT_DELETE w_DISK_ATTACH w_SERVER_DELETE p1 h0 n0 _ T1.heap _
    rw [e1]
    exact ⟨rfl, N0, rfl⟩
def Q20 (Z : State) (w_PLATFORM_DEPLOY : Addr) (w_SERVER_START : Addr) (w_PLATFORM_DELETE : Addr) (w_SERVER_DEPLOY : Addr) (w_DISK_DETACH : Addr) (w_NIC_DETACH : Addr) (w_SERVER_STOP : Addr) (w_SNAPSHOT_CREATE : Addr) (w_NIC_ATTACH : Addr) (w_SNAPSHOT_DELETE : Addr) (w_DISK_ATTACH : Addr) (w_SERVER_DELETE : Addr) (h0 : Heap) (n0 : Nat) (v : Option Value) (h : Heap) (L : List Loc) : Prop := v = some (.int (0 : Int32)) ∧ Fr n0 L ∧ h = h0
set_option maxRecDepth 65536 in
set_option maxHeartbeats 40000000 in
theorem rm20 (l : Launch) (Z : State) (a0 : Array Value) (hw : ∀ d ∈ tables_1, d.before a0 Z = true) (ws : List Jvm.Cond) (w_PLATFORM_DEPLOY w_SERVER_START w_PLATFORM_DELETE w_SERVER_DEPLOY w_DISK_DETACH w_NIC_DETACH w_SERVER_STOP w_SNAPSHOT_CREATE w_NIC_ATTACH w_SNAPSHOT_DELETE w_DISK_ATTACH w_SERVER_DELETE : Addr) (hp : Perm Z w_PLATFORM_DEPLOY w_SERVER_START w_PLATFORM_DELETE w_SERVER_DEPLOY w_DISK_DETACH w_NIC_DETACH w_SERVER_STOP w_SNAPSHOT_CREATE w_NIC_ATTACH w_SNAPSHOT_DELETE w_DISK_ATTACH w_SERVER_DELETE) (h0 : Heap) (n0 : Nat) (O0 : Old Z n0 h0) :
    MetFree l y1 (head1 (Jvm.Cond.code y1 prog_20_method_5_code 1 (some .boolean) :: ws) ({ frames := 0, cells := 0, slots := 0, locals := 0 } : Room)) (fun a U => a = #[(.ref w_SERVER_DELETE)] ∧ Z.Warmed39 U.vm ∧ U.heap = h0) (fun _ _ _ _ _ => True) (fun _ U o U' => ∃ v L, o = .returned v ∧ Q20 Z w_PLATFORM_DEPLOY w_SERVER_START w_PLATFORM_DELETE w_SERVER_DEPLOY w_DISK_DETACH w_NIC_DETACH w_SERVER_STOP w_SNAPSHOT_CREATE w_NIC_ATTACH w_SNAPSHOT_DELETE w_DISK_ATTACH w_SERVER_DELETE  h0 n0 v U'.heap L ∧ FrameEnd U o U' L ({ frames := 0, cells := 0, slots := 0, locals := 0 } : Room).cells ({ frames := 0, cells := 0, slots := 0, locals := 0 } : Room).slots) := by
  refine MetFree.of_bodySF (plainFor_of_name pn_2) hisR ?_
  intro p e s m args below meth c s₁ Bd hml0 hP hK
  obtain ⟨rfl, hZ, hh⟩ := hP
  have hx := Bd.exec
  have hby := Bd.bytes
  have hml : c.maxLocals = 1 := hml0
  have hown : s.vm.findClass "com/example/ratebook/ratebook/model/EventType" = some m.cls := findClass_of_methodNamed Bd.named
  have hnm := (name_of_methodNamed Bd.named Bd.method).1
  have X0 : Stand p l e ({ frames := 0, cells := 0, slots := 0, locals := 0 } : Room) s m #[(.ref w_SERVER_DELETE)] below meth c s₁ [] 0 0 := Stand.of_body Bd
  have e0 : s₁.heap = h0 := by rw [← hh, Bd.state]; rfl
  have N0 := Fr.nil n0
  have hp' := hp
  obtain ⟨S_w_PLATFORM_DEPLOY, E_w_PLATFORM_DEPLOY, S_w_SERVER_START, E_w_SERVER_START, S_w_PLATFORM_DELETE, E_w_PLATFORM_DELETE, S_w_SERVER_DEPLOY, E_w_SERVER_DEPLOY, S_w_DISK_DETACH, E_w_DISK_DETACH, S_w_NIC_DETACH, E_w_NIC_DETACH, S_w_SERVER_STOP, E_w_SERVER_STOP, S_w_SNAPSHOT_CREATE, E_w_SNAPSHOT_CREATE, S_w_NIC_ATTACH, E_w_NIC_ATTACH, S_w_SNAPSHOT_DELETE, E_w_SNAPSHOT_DELETE, S_w_DISK_ATTACH, E_w_DISK_ATTACH, S_w_SERVER_DELETE, E_w_SERVER_DELETE, F_ordinal_w_SERVER_START, F_ordinal_w_PLATFORM_DEPLOY, F_ordinal_w_PLATFORM_DELETE, F_ordinal_w_SERVER_DEPLOY, F_ordinal_w_DISK_DETACH, F_ordinal_w_NIC_DETACH, F_ordinal_w_SERVER_STOP, F_ordinal_w_SNAPSHOT_CREATE, F_ordinal_w_NIC_ATTACH, F_ordinal_w_SNAPSHOT_DELETE, F_ordinal_w_DISK_ATTACH, F_ordinal_w_SERVER_DELETE⟩ := hp'
  have pre0 : ∀ t, Steps p.tables e below (s₁.setTop (mkF m 0 #[.val (.ref w_SERVER_DELETE)] [])) t → Steps p.tables e below (s₁.setTop (entryFrame m #[(.ref w_SERVER_DELETE)] 1)) t := fun t k => castTop (ef_2_0 m w_SERVER_DELETE) k
  obtain ⟨T1, X1, e1, st1⟩ := getS2 X0 hx hZ hown (host := "") (Or.inl (hw _ (List.mem_of_getElem? (i := 13) rfl))) Via.refl e0 (S_w_PLATFORM_DEPLOY.ext O0.2) (g := (mkF m 1 #[.val (.ref w_SERVER_DELETE)] [(.ref w_SERVER_DELETE)])) rfl (hb hby d2_1)
  obtain ⟨T2, X2, e2, st2⟩ := getS2 X1 hx hZ hown (host := "") (Or.inl (hw _ (List.mem_of_getElem? (i := 19) rfl))) Via.refl e1 (S_w_PLATFORM_DELETE.ext O0.2) (g := (mkF m 8 #[.val (.ref w_SERVER_DELETE)] [(.ref w_SERVER_DELETE)])) rfl (hb hby d2_8)
  obtain ⟨fs, hr, hrun, hended, hW, hsame⟩ := X2.leave (v := some (.int (0 : Int32))) (fun h => by rw [Bd.returns] at h; cases h)
  refine ⟨_, _, pre0 _ ?_, hrun, hended, _, _, rfl, ?_, ⟨_, rfl⟩, hW, hsame.mono (by decide) (by decide)⟩
  · show Sp p e below s₁ (mkF m 0 #[.val (.ref w_SERVER_DELETE)] []) _
    refine XS.aloadN X0.here hx rfl (hb hby d2_0) rfl rfl ?_
    show Sp p e below s₁ (mkF m 1 #[.val (.ref w_SERVER_DELETE)] [(.ref w_SERVER_DELETE)]) _
    refine st1 _ ?_
    show Sp p e below T1 (mkF m 4 #[.val (.ref w_SERVER_DELETE)] [(.ref w_PLATFORM_DEPLOY), (.ref w_SERVER_DELETE)]) _
    refine Jvm.RoadKit.acmp (g := (mkF m 4 #[.val (.ref w_SERVER_DELETE)] [(.ref w_PLATFORM_DEPLOY), (.ref w_SERVER_DELETE)])) X1 hx rfl rfl rfl (pc0 := 4) (pc' := 7) (same := false) rfl (hb hby d2_4) rfl (decide_eq_false fun q => (Ne.symm (ne_w_PLATFORM_DEPLOY_w_SERVER_DELETE hp)) (Value.ref.inj q)) (by decide) (by decide) ?_
    show Sp p e below T1 (mkF m 7 #[.val (.ref w_SERVER_DELETE)] []) _
    refine XS.aloadN X1.here hx rfl (hb hby d2_7) rfl rfl ?_
    show Sp p e below T1 (mkF m 8 #[.val (.ref w_SERVER_DELETE)] [(.ref w_SERVER_DELETE)]) _
    refine st2 _ ?_
    show Sp p e below T2 (mkF m 11 #[.val (.ref w_SERVER_DELETE)] [(.ref w_PLATFORM_DELETE), (.ref w_SERVER_DELETE)]) _
    refine Jvm.RoadKit.acmp (g := (mkF m 11 #[.val (.ref w_SERVER_DELETE)] [(.ref w_PLATFORM_DELETE), (.ref w_SERVER_DELETE)])) X2 hx rfl rfl rfl (pc0 := 11) (pc' := 18) (same := false) rfl (hb hby d2_11) rfl (decide_eq_false fun q => (Ne.symm (ne_w_PLATFORM_DELETE_w_SERVER_DELETE hp)) (Value.ref.inj q)) (by decide) (by decide) ?_
    show Sp p e below T2 (mkF m 18 #[.val (.ref w_SERVER_DELETE)] []) _
    refine XS.iconst X2.here hx rfl (hb hby d2_18) ?_
    show Sp p e below T2 (mkF m 19 #[.val (.ref w_SERVER_DELETE)] [(.int (0 : Int32))]) _
    exact retN X2 hx (t := .boolean) Bd.returns (by simp) (hb hby d2_19) hr
  · show Q20 Z w_PLATFORM_DEPLOY w_SERVER_START w_PLATFORM_DELETE w_SERVER_DEPLOY w_DISK_DETACH w_NIC_DETACH w_SERVER_STOP w_SNAPSHOT_CREATE w_NIC_ATTACH w_SNAPSHOT_DELETE w_DISK_ATTACH w_SERVER_DELETE  h0 n0 _ T2.heap _
    rw [e2]
    exact ⟨rfl, N0, rfl⟩
set_option maxRecDepth 65536 in
set_option maxHeartbeats 40000000 in
theorem rm21 (l : Launch) (Z : State) (a0 : Array Value) (hw : ∀ d ∈ tables_1, d.before a0 Z = true) (ws : List Jvm.Cond) (w_PLATFORM_DEPLOY w_SERVER_START w_PLATFORM_DELETE w_SERVER_DEPLOY w_DISK_DETACH w_NIC_DETACH w_SERVER_STOP w_SNAPSHOT_CREATE w_NIC_ATTACH w_SNAPSHOT_DELETE w_DISK_ATTACH w_SERVER_DELETE : Addr) (hp : Perm Z w_PLATFORM_DEPLOY w_SERVER_START w_PLATFORM_DELETE w_SERVER_DEPLOY w_DISK_DETACH w_NIC_DETACH w_SERVER_STOP w_SNAPSHOT_CREATE w_NIC_ATTACH w_SNAPSHOT_DELETE w_DISK_ATTACH w_SERVER_DELETE) (p0 : Int32) (h0 : Heap) (n0 : Nat) (O0 : Old Z n0 h0) (hc1 : ¬ (((p0 &&& (2147483647 : Int32)) % (12 : Int32)) = (0 : Int32))) (hc2 : ¬ (((p0 &&& (2147483647 : Int32)) % (12 : Int32)) = (1 : Int32))) (hc3 : ¬ (((p0 &&& (2147483647 : Int32)) % (12 : Int32)) = (2 : Int32))) (hc4 : ¬ (((p0 &&& (2147483647 : Int32)) % (12 : Int32)) = (3 : Int32))) (hc5 : ¬ (((p0 &&& (2147483647 : Int32)) % (12 : Int32)) = (4 : Int32))) (hc6 : ((p0 &&& (2147483647 : Int32)) % (12 : Int32)) = (5 : Int32)) :
    MetFree l x (head1 (Jvm.Cond.code x code maxLocals ret :: ws) room_1) (fun a U => a = #[(.int p0)] ∧ Z.Warmed39 U.vm ∧ U.heap = h0) (fun _ _ _ _ _ => True) (fun _ U o U' => ∃ v L, o = .returned v ∧ (v = some (.int (1 : Int32)) ∧ Fr n0 L) ∧ FrameEnd U o U' L 0 0) := by
  refine MetFree.of_bodySF (plainFor_of_name pn_1) hisR ?_
  intro p e s m args below meth c s₁ Bd hml0 hP hK
  obtain ⟨rfl, hZ, hh⟩ := hP
  have hx := Bd.exec
  have hby := Bd.bytes
  have hml : c.maxLocals = 3 := hml0
  have hown : s.vm.findClass "com/example/ratebook/ratebook/model/EventTypeIsPlatformEventPinLaw" = some m.cls := findClass_of_methodNamed Bd.named
  have hnm := (name_of_methodNamed Bd.named Bd.method).1
  have X0 : Stand p l e room_1 s m #[(.int p0)] below meth c s₁ [] 0 0 := Stand.of_body Bd
  have e0 : s₁.heap = h0 := by rw [← hh, Bd.state]; rfl
  have N0 := Fr.nil n0
  have hp' := hp
  obtain ⟨S_w_PLATFORM_DEPLOY, E_w_PLATFORM_DEPLOY, S_w_SERVER_START, E_w_SERVER_START, S_w_PLATFORM_DELETE, E_w_PLATFORM_DELETE, S_w_SERVER_DEPLOY, E_w_SERVER_DEPLOY, S_w_DISK_DETACH, E_w_DISK_DETACH, S_w_NIC_DETACH, E_w_NIC_DETACH, S_w_SERVER_STOP, E_w_SERVER_STOP, S_w_SNAPSHOT_CREATE, E_w_SNAPSHOT_CREATE, S_w_NIC_ATTACH, E_w_NIC_ATTACH, S_w_SNAPSHOT_DELETE, E_w_SNAPSHOT_DELETE, S_w_DISK_ATTACH, E_w_DISK_ATTACH, S_w_SERVER_DELETE, E_w_SERVER_DELETE, F_ordinal_w_SERVER_START, F_ordinal_w_PLATFORM_DEPLOY, F_ordinal_w_PLATFORM_DELETE, F_ordinal_w_SERVER_DEPLOY, F_ordinal_w_DISK_DETACH, F_ordinal_w_NIC_DETACH, F_ordinal_w_SERVER_STOP, F_ordinal_w_SNAPSHOT_CREATE, F_ordinal_w_NIC_ATTACH, F_ordinal_w_SNAPSHOT_DELETE, F_ordinal_w_DISK_ATTACH, F_ordinal_w_SERVER_DELETE⟩ := hp'
  have pre0 : ∀ t, Steps p.tables e below (s₁.setTop (mkF m 0 #[.val (.int p0), .unset, .unset] [])) t → Steps p.tables e below (s₁.setTop (entryFrame m #[(.int p0)] maxLocals)) t := fun t k => castTop (ef_0_0 m p0) k
  obtain ⟨_, _, ⟨T1, L1, k1, n1⟩, -, X1, ⟨Lc1, hQ1, l1, y1, z1⟩, st1⟩ := Jvm.LawKit.callS X0 hx (y := y0) hown (mvT hZ (hw _ (List.mem_of_getElem? (i := 1) rfl))) (mvT hZ (hw _ (List.mem_of_getElem? (i := 2) rfl))) (mvT hZ (hw _ (List.mem_of_getElem? (i := 3) rfl))) (mvT hZ (hw _ (List.mem_of_getElem? (i := 4) rfl))) (by decide) (backOf (W := 0) (rm19 l Z a0 hw [] w_PLATFORM_DEPLOY w_SERVER_START w_PLATFORM_DELETE w_SERVER_DEPLOY w_DISK_DETACH w_NIC_DETACH w_SERVER_STOP w_SNAPSHOT_CREATE w_NIC_ATTACH w_SNAPSHOT_DELETE w_DISK_ATTACH w_SERVER_DELETE hp ((p0 &&& (2147483647 : Int32)) % (12 : Int32)) h0 n0 O0 hc1 hc2 hc3 hc4 hc5 hc6) hZ (hw _ (List.mem_of_getElem? (i := 4) rfl)) (hw _ (List.mem_of_getElem? (i := 3) rfl)) (by decide) (by decide)) (g := (mkF m 9 #[.val (.int p0), .val (.int ((p0 &&& (2147483647 : Int32)) % (12 : Int32))), .unset] [(.int ((p0 &&& (2147483647 : Int32)) % (12 : Int32)))])) rfl (by rw [hml]; rfl) (argsL := [(.int ((p0 &&& (2147483647 : Int32)) % (12 : Int32)))]) (rest := []) (lenOf pd_0 rfl) rfl (by show 2 * 0 + _ ≤ _; exact Nat.le_of_eq rfl) (hb hby at_9) (fun _ _ => ⟨rfl, e0, (by decide : 0 + 0 ≤ _), (by decide : 0 + 0 ≤ _)⟩)
  dsimp only [Pt.U, Pt.locs, Pt.cells, Pt.slots] at X1 l1 y1 z1 st1 hQ1
  subst l1 y1 z1
  obtain ⟨rfl, Nq1, eq1⟩ := hQ1
  have N1 := Fr.app N0 Nq1
  obtain ⟨cq2, kq2, q2a, q2b, q2c⟩ := isOf hZ eq1 (E_w_SERVER_DELETE.ext O0.2)
  obtain ⟨_, _, ⟨T2, L2, k2, n2⟩, -, X2, ⟨Lc2, hQ2, l2, y2, z2⟩, st2⟩ := X1.virtualBack hx (y := y1) (z := y1) hown (mvT hZ (hw _ (List.mem_of_getElem? (i := 8) rfl))) (mvT hZ (hw _ (List.mem_of_getElem? (i := 9) rfl))) (notFace_of_selects (args := #[]) (mvT hZ (hw _ (List.mem_of_getElem? (i := 11) rfl)))) (mvT hZ (hw _ (List.mem_of_getElem? (i := 11) rfl))) (mvT hZ (hw _ (List.mem_of_getElem? (i := 10) rfl))) (by decide) (backOf (W := 0) (rm20 l Z a0 hw [] w_PLATFORM_DEPLOY w_SERVER_START w_PLATFORM_DELETE w_SERVER_DEPLOY w_DISK_DETACH w_NIC_DETACH w_SERVER_STOP w_SNAPSHOT_CREATE w_NIC_ATTACH w_SNAPSHOT_DELETE w_DISK_ATTACH w_SERVER_DELETE hp h0 n0 O0) hZ (hw _ (List.mem_of_getElem? (i := 12) rfl)) (hw _ (List.mem_of_getElem? (i := 6) rfl)) (by decide) (by decide)) q2a q2c (g := (mkF m 14 #[.val (.int p0), .val (.int ((p0 &&& (2147483647 : Int32)) % (12 : Int32))), .val (.ref w_SERVER_DELETE)] [(.ref w_SERVER_DELETE)])) rfl (by rw [hml]; rfl) (Steps.refl _) (argsL := []) (rest := []) (lenOf pd_1 rfl) rfl (by show 2 * 0 + _ ≤ _; exact Nat.le_of_eq rfl) (hb hby at_14) (fun _ _ => ⟨rfl, eq1, (by decide : 0 + 0 ≤ _), (by decide : 0 + 0 ≤ _)⟩)
  dsimp only [Pt.U, Pt.locs, Pt.cells, Pt.slots] at X2 l2 y2 z2 st2 hQ2
  subst l2 y2 z2
  obtain ⟨rfl, Nq2, eq2⟩ := hQ2
  have N2 := Fr.app N1 Nq2
  obtain ⟨_, _, ⟨T3, L3, k3, n3⟩, -, X3, ⟨Lc3, hQ3, l3, y3, z3⟩, st3⟩ := Jvm.LawKit.callS X2 hx (y := y2) hown (mvT hZ (hw _ (List.mem_of_getElem? (i := 14) rfl))) (mvT hZ (hw _ (List.mem_of_getElem? (i := 15) rfl))) (mvT hZ (hw _ (List.mem_of_getElem? (i := 3) rfl))) (mvT hZ (hw _ (List.mem_of_getElem? (i := 16) rfl))) (by decide) (backOf (W := 1) (rm11 l Z a0 hw [] w_PLATFORM_DEPLOY w_SERVER_START w_PLATFORM_DELETE w_SERVER_DEPLOY w_DISK_DETACH w_NIC_DETACH w_SERVER_STOP w_SNAPSHOT_CREATE w_NIC_ATTACH w_SNAPSHOT_DELETE w_DISK_ATTACH w_SERVER_DELETE hp ((p0 &&& (2147483647 : Int32)) % (12 : Int32)) h0 n0 O0 hc1 hc2) hZ (hw _ (List.mem_of_getElem? (i := 16) rfl)) (hw _ (List.mem_of_getElem? (i := 3) rfl)) (by decide) (by decide)) (g := (mkF m 18 #[.val (.int p0), .val (.int ((p0 &&& (2147483647 : Int32)) % (12 : Int32))), .val (.ref w_SERVER_DELETE)] [(.int ((p0 &&& (2147483647 : Int32)) % (12 : Int32))), (.int (0 : Int32))])) rfl (by rw [hml]; rfl) (argsL := [(.int ((p0 &&& (2147483647 : Int32)) % (12 : Int32)))]) (rest := [(.int (0 : Int32))]) (lenOf pd_2 rfl) rfl (by show 2 * 0 + _ ≤ _; exact Nat.le_of_eq rfl) (hb hby at_18) (fun _ _ => ⟨rfl, eq2, (by decide : 0 + 0 ≤ _), (by decide : 0 + 0 ≤ _)⟩)
  dsimp only [Pt.U, Pt.locs, Pt.cells, Pt.slots] at X3 l3 y3 z3 st3 hQ3
  subst l3 y3 z3
  obtain ⟨rfl, Nq3, eq3⟩ := hQ3
  have N3 := Fr.app N2 Nq3
  obtain ⟨fs, hr, hrun, hended, hW, hsame⟩ := X3.leave (v := some (.int (1 : Int32))) (fun h => by rw [Bd.returns] at h; cases h)
  refine ⟨_, _, pre0 _ ?_, hrun, hended, _, _, rfl, ?_, ⟨_, rfl⟩, hW, hsame.mono (by decide) (by decide)⟩
  · show Sp p e below s₁ (mkF m 0 #[.val (.int p0), .unset, .unset] []) _
    refine XS.iloadN X0.here hx rfl (hb hby at_0) rfl ?_
    show Sp p e below s₁ (mkF m 1 #[.val (.int p0), .unset, .unset] [(.int p0)]) _
    refine X0.ldcI hx hown (mvT hZ (hw _ (List.mem_of_getElem? (i := 0) rfl))) rfl (hb hby at_1) ?_
    show Sp p e below s₁ (mkF m 3 #[.val (.int p0), .unset, .unset] [(.int (2147483647 : Int32)), (.int p0)]) _
    refine XS.iand X0.here hx rfl (hb hby at_3) rfl ?_
    show Sp p e below s₁ (mkF m 4 #[.val (.int p0), .unset, .unset] [(.int (p0 &&& (2147483647 : Int32)))]) _
    refine XS.bipush X0.here hx rfl (hb hby at_4) ?_
    show Sp p e below s₁ (mkF m 6 #[.val (.int p0), .unset, .unset] [(.int (12 : Int32)), (.int (p0 &&& (2147483647 : Int32)))]) _
    refine iremM X0 hx rfl (hb hby at_6) rfl (by decide) ?_
    show Sp p e below s₁ (mkF m 7 #[.val (.int p0), .unset, .unset] [(.int ((p0 &&& (2147483647 : Int32)) % (12 : Int32)))]) _
    refine XS.istoreN X0.here hx rfl (hb hby at_7) rfl (l' := #[.val (.int p0), .val (.int ((p0 &&& (2147483647 : Int32)) % (12 : Int32))), .unset]) rfl ?_
    show Sp p e below s₁ (mkF m 8 #[.val (.int p0), .val (.int ((p0 &&& (2147483647 : Int32)) % (12 : Int32))), .unset] []) _
    refine XS.iloadN X0.here hx rfl (hb hby at_8) rfl ?_
    show Sp p e below s₁ (mkF m 9 #[.val (.int p0), .val (.int ((p0 &&& (2147483647 : Int32)) % (12 : Int32))), .unset] [(.int ((p0 &&& (2147483647 : Int32)) % (12 : Int32)))]) _
    refine st1 _ ?_
    show Sp p e below T1 (mkF m 12 #[.val (.int p0), .val (.int ((p0 &&& (2147483647 : Int32)) % (12 : Int32))), .unset] [(.ref w_SERVER_DELETE)]) _
    refine XS.astoreN X1.here hx rfl (hb hby at_12) rfl rfl (l' := #[.val (.int p0), .val (.int ((p0 &&& (2147483647 : Int32)) % (12 : Int32))), .val (.ref w_SERVER_DELETE)]) rfl ?_
    show Sp p e below T1 (mkF m 13 #[.val (.int p0), .val (.int ((p0 &&& (2147483647 : Int32)) % (12 : Int32))), .val (.ref w_SERVER_DELETE)] []) _
    refine XS.aloadN X1.here hx rfl (hb hby at_13) rfl rfl ?_
    show Sp p e below T1 (mkF m 14 #[.val (.int p0), .val (.int ((p0 &&& (2147483647 : Int32)) % (12 : Int32))), .val (.ref w_SERVER_DELETE)] [(.ref w_SERVER_DELETE)]) _
    refine st2.trans ?_
    show Sp p e below T2 (mkF m 17 #[.val (.int p0), .val (.int ((p0 &&& (2147483647 : Int32)) % (12 : Int32))), .val (.ref w_SERVER_DELETE)] [(.int (0 : Int32))]) _
    refine XS.iloadN X2.here hx rfl (hb hby at_17) rfl ?_
    show Sp p e below T2 (mkF m 18 #[.val (.int p0), .val (.int ((p0 &&& (2147483647 : Int32)) % (12 : Int32))), .val (.ref w_SERVER_DELETE)] [(.int ((p0 &&& (2147483647 : Int32)) % (12 : Int32))), (.int (0 : Int32))]) _
    refine st3 _ ?_
    show Sp p e below T3 (mkF m 21 #[.val (.int p0), .val (.int ((p0 &&& (2147483647 : Int32)) % (12 : Int32))), .val (.ref w_SERVER_DELETE)] [(.int (0 : Int32)), (.int (0 : Int32))]) _
    refine XS.icmpNo X3.here hx rfl (hb hby at_21) rfl (teq (by decide : (0 : Int32) = (0 : Int32))).2 ?_
    show Sp p e below T3 (mkF m 24 #[.val (.int p0), .val (.int ((p0 &&& (2147483647 : Int32)) % (12 : Int32))), .val (.ref w_SERVER_DELETE)] []) _
    refine XS.iconst X3.here hx rfl (hb hby at_24) ?_
    show Sp p e below T3 (mkF m 25 #[.val (.int p0), .val (.int ((p0 &&& (2147483647 : Int32)) % (12 : Int32))), .val (.ref w_SERVER_DELETE)] [(.int (1 : Int32))]) _
    refine XS.goto X3.here hx rfl (pc0 := 25) (pc' := 29) rfl (hb hby at_25) (by decide) (by decide) ?_
    show Sp p e below T3 (mkF m 29 #[.val (.int p0), .val (.int ((p0 &&& (2147483647 : Int32)) % (12 : Int32))), .val (.ref w_SERVER_DELETE)] [(.int (1 : Int32))]) _
    exact retN X3 hx (t := .boolean) Bd.returns (by simp) (hb hby at_29) hr
  · skip
    exact ⟨rfl, N3⟩
theorem d1_53 : decode method_2_code 53 = .ok (.iload_n 0, 1) := by decide +kernel
theorem d1_54 : decode method_2_code 54 = .ok (.bipush 6, 2) := by decide +kernel
theorem d1_56 : decode method_2_code 56 = .ok (.if_icmp .ne 7, 3) := by decide +kernel
theorem d1_59 : decode method_2_code 59 = .ok (.getstatic 28, 3) := by decide +kernel
theorem d1_62 : decode method_2_code 62 = .ok (.areturn, 1) := by decide +kernel
def Q22 (Z : State) (w_PLATFORM_DEPLOY : Addr) (w_SERVER_START : Addr) (w_PLATFORM_DELETE : Addr) (w_SERVER_DEPLOY : Addr) (w_DISK_DETACH : Addr) (w_NIC_DETACH : Addr) (w_SERVER_STOP : Addr) (w_SNAPSHOT_CREATE : Addr) (w_NIC_ATTACH : Addr) (w_SNAPSHOT_DELETE : Addr) (w_DISK_ATTACH : Addr) (w_SERVER_DELETE : Addr) (p1 : Int32) (h0 : Heap) (n0 : Nat) (v : Option Value) (h : Heap) (L : List Loc) : Prop := v = some (.ref w_DISK_ATTACH) ∧ Fr n0 L ∧ h = h0
set_option maxRecDepth 65536 in
set_option maxHeartbeats 40000000 in
theorem rm22 (l : Launch) (Z : State) (a0 : Array Value) (hw : ∀ d ∈ tables_1, d.before a0 Z = true) (ws : List Jvm.Cond) (w_PLATFORM_DEPLOY w_SERVER_START w_PLATFORM_DELETE w_SERVER_DEPLOY w_DISK_DETACH w_NIC_DETACH w_SERVER_STOP w_SNAPSHOT_CREATE w_NIC_ATTACH w_SNAPSHOT_DELETE w_DISK_ATTACH w_SERVER_DELETE : Addr) (hp : Perm Z w_PLATFORM_DEPLOY w_SERVER_START w_PLATFORM_DELETE w_SERVER_DEPLOY w_DISK_DETACH w_NIC_DETACH w_SERVER_STOP w_SNAPSHOT_CREATE w_NIC_ATTACH w_SNAPSHOT_DELETE w_DISK_ATTACH w_SERVER_DELETE) (p1 : Int32) (h0 : Heap) (n0 : Nat) (O0 : Old Z n0 h0) (hc1 : ¬ (p1 = (0 : Int32))) (hc2 : ¬ (p1 = (1 : Int32))) (hc3 : ¬ (p1 = (2 : Int32))) (hc4 : ¬ (p1 = (3 : Int32))) (hc5 : ¬ (p1 = (4 : Int32))) (hc6 : ¬ (p1 = (5 : Int32))) (hc7 : p1 = (6 : Int32)) :
    MetFree l y0 (head1 (Jvm.Cond.code y0 method_2_code 1 (some (.object "com/example/ratebook/ratebook/model/EventType")) :: ws) ({ frames := 0, cells := 0, slots := 0, locals := 0 } : Room)) (fun a U => a = #[(.int p1)] ∧ Z.Warmed39 U.vm ∧ U.heap = h0) (fun _ _ _ _ _ => True) (fun _ U o U' => ∃ v L, o = .returned v ∧ Q22 Z w_PLATFORM_DEPLOY w_SERVER_START w_PLATFORM_DELETE w_SERVER_DEPLOY w_DISK_DETACH w_NIC_DETACH w_SERVER_STOP w_SNAPSHOT_CREATE w_NIC_ATTACH w_SNAPSHOT_DELETE w_DISK_ATTACH w_SERVER_DELETE p1 h0 n0 v U'.heap L ∧ FrameEnd U o U' L ({ frames := 0, cells := 0, slots := 0, locals := 0 } : Room).cells ({ frames := 0, cells := 0, slots := 0, locals := 0 } : Room).slots) := by
  refine MetFree.of_bodySF (plainFor_of_name pn_1) hisR ?_
  intro p e s m args below meth c s₁ Bd hml0 hP hK
  obtain ⟨rfl, hZ, hh⟩ := hP
  have hx := Bd.exec
  have hby := Bd.bytes
  have hml : c.maxLocals = 1 := hml0
  have hown : s.vm.findClass "com/example/ratebook/ratebook/model/EventTypeIsPlatformEventPinLaw" = some m.cls := findClass_of_methodNamed Bd.named
  have hnm := (name_of_methodNamed Bd.named Bd.method).1
  have X0 : Stand p l e ({ frames := 0, cells := 0, slots := 0, locals := 0 } : Room) s m #[(.int p1)] below meth c s₁ [] 0 0 := Stand.of_body Bd
  have e0 : s₁.heap = h0 := by rw [← hh, Bd.state]; rfl
  have N0 := Fr.nil n0
  have hp' := hp
  obtain ⟨S_w_PLATFORM_DEPLOY, E_w_PLATFORM_DEPLOY, S_w_SERVER_START, E_w_SERVER_START, S_w_PLATFORM_DELETE, E_w_PLATFORM_DELETE, S_w_SERVER_DEPLOY, E_w_SERVER_DEPLOY, S_w_DISK_DETACH, E_w_DISK_DETACH, S_w_NIC_DETACH, E_w_NIC_DETACH, S_w_SERVER_STOP, E_w_SERVER_STOP, S_w_SNAPSHOT_CREATE, E_w_SNAPSHOT_CREATE, S_w_NIC_ATTACH, E_w_NIC_ATTACH, S_w_SNAPSHOT_DELETE, E_w_SNAPSHOT_DELETE, S_w_DISK_ATTACH, E_w_DISK_ATTACH, S_w_SERVER_DELETE, E_w_SERVER_DELETE, F_ordinal_w_SERVER_START, F_ordinal_w_PLATFORM_DEPLOY, F_ordinal_w_PLATFORM_DELETE, F_ordinal_w_SERVER_DEPLOY, F_ordinal_w_DISK_DETACH, F_ordinal_w_NIC_DETACH, F_ordinal_w_SERVER_STOP, F_ordinal_w_SNAPSHOT_CREATE, F_ordinal_w_NIC_ATTACH, F_ordinal_w_SNAPSHOT_DELETE, F_ordinal_w_DISK_ATTACH, F_ordinal_w_SERVER_DELETE⟩ := hp'
  have pre0 : ∀ t, Steps p.tables e below (s₁.setTop (mkF m 0 #[.val (.int p1)] [])) t → Steps p.tables e below (s₁.setTop (entryFrame m #[(.int p1)] 1)) t := fun t k => castTop (ef_1_0 m p1) k
  obtain ⟨T1, X1, e1, st1⟩ := getS2 X0 hx hZ hown (host := "") (Or.inl (hw _ (List.mem_of_getElem? (i := 36) rfl))) Via.refl e0 (S_w_DISK_ATTACH.ext O0.2) (g := (mkF m 59 #[.val (.int p1)] [])) rfl (hb hby d1_59)
  obtain ⟨fs, hr, hrun, hended, hW, hsame⟩ := X1.leave (v := some (.ref w_DISK_ATTACH)) (fun h => by rw [Bd.returns] at h; cases h)
  refine ⟨_, _, pre0 _ ?_, hrun, hended, _, _, rfl, ?_, ⟨_, rfl⟩, hW, hsame.mono (by decide) (by decide)⟩
  · show Sp p e below s₁ (mkF m 0 #[.val (.int p1)] []) _
    refine XS.iloadN X0.here hx rfl (hb hby d1_0) rfl ?_
    show Sp p e below s₁ (mkF m 1 #[.val (.int p1)] [(.int p1)]) _
    refine XS.ifYes X0.here hx rfl (pc0 := 1) (pc' := 8) rfl (hb hby d1_1) rfl ((if0 _ _).trans (feq hc1).2) (by decide) (by decide) ?_
    show Sp p e below s₁ (mkF m 8 #[.val (.int p1)] []) _
    refine XS.iloadN X0.here hx rfl (hb hby d1_8) rfl ?_
    show Sp p e below s₁ (mkF m 9 #[.val (.int p1)] [(.int p1)]) _
    refine XS.iconst X0.here hx rfl (hb hby d1_9) ?_
    show Sp p e below s₁ (mkF m 10 #[.val (.int p1)] [(.int (1 : Int32)), (.int p1)]) _
    refine XS.icmpYes X0.here hx rfl (pc0 := 10) (pc' := 17) rfl (hb hby d1_10) rfl (feq hc2).2 (by decide) (by decide) ?_
    show Sp p e below s₁ (mkF m 17 #[.val (.int p1)] []) _
    refine XS.iloadN X0.here hx rfl (hb hby d1_17) rfl ?_
    show Sp p e below s₁ (mkF m 18 #[.val (.int p1)] [(.int p1)]) _
    refine XS.iconst X0.here hx rfl (hb hby d1_18) ?_
    show Sp p e below s₁ (mkF m 19 #[.val (.int p1)] [(.int (2 : Int32)), (.int p1)]) _
    refine XS.icmpYes X0.here hx rfl (pc0 := 19) (pc' := 26) rfl (hb hby d1_19) rfl (feq hc3).2 (by decide) (by decide) ?_
    show Sp p e below s₁ (mkF m 26 #[.val (.int p1)] []) _
    refine XS.iloadN X0.here hx rfl (hb hby d1_26) rfl ?_
    show Sp p e below s₁ (mkF m 27 #[.val (.int p1)] [(.int p1)]) _
    refine XS.iconst X0.here hx rfl (hb hby d1_27) ?_
    show Sp p e below s₁ (mkF m 28 #[.val (.int p1)] [(.int (3 : Int32)), (.int p1)]) _
    refine XS.icmpYes X0.here hx rfl (pc0 := 28) (pc' := 35) rfl (hb hby d1_28) rfl (feq hc4).2 (by decide) (by decide) ?_
    show Sp p e below s₁ (mkF m 35 #[.val (.int p1)] []) _
    refine XS.iloadN X0.here hx rfl (hb hby d1_35) rfl ?_
    show Sp p e below s₁ (mkF m 36 #[.val (.int p1)] [(.int p1)]) _
    refine XS.iconst X0.here hx rfl (hb hby d1_36) ?_
    show Sp p e below s₁ (mkF m 37 #[.val (.int p1)] [(.int (4 : Int32)), (.int p1)]) _
    refine XS.icmpYes X0.here hx rfl (pc0 := 37) (pc' := 44) rfl (hb hby d1_37) rfl (feq hc5).2 (by decide) (by decide) ?_
    show Sp p e below s₁ (mkF m 44 #[.val (.int p1)] []) _
    refine XS.iloadN X0.here hx rfl (hb hby d1_44) rfl ?_
    show Sp p e below s₁ (mkF m 45 #[.val (.int p1)] [(.int p1)]) _
    refine XS.iconst X0.here hx rfl (hb hby d1_45) ?_
    show Sp p e below s₁ (mkF m 46 #[.val (.int p1)] [(.int (5 : Int32)), (.int p1)]) _
    refine XS.icmpYes X0.here hx rfl (pc0 := 46) (pc' := 53) rfl (hb hby d1_46) rfl (feq hc6).2 (by decide) (by decide) ?_
    show Sp p e below s₁ (mkF m 53 #[.val (.int p1)] []) _
    refine XS.iloadN X0.here hx rfl (hb hby d1_53) rfl ?_
    show Sp p e below s₁ (mkF m 54 #[.val (.int p1)] [(.int p1)]) _
    refine XS.bipush X0.here hx rfl (hb hby d1_54) ?_
    show Sp p e below s₁ (mkF m 56 #[.val (.int p1)] [(.int (6 : Int32)), (.int p1)]) _
    refine XS.icmpNo X0.here hx rfl (hb hby d1_56) rfl (teq hc7).2 ?_
    show Sp p e below s₁ (mkF m 59 #[.val (.int p1)] []) _
    refine st1 _ ?_
    show Sp p e below T1 (mkF m 62 #[.val (.int p1)] [(.ref w_DISK_ATTACH)]) _
    jvm_step X1.here [X1.here.top, hx, (hb hby d1_62), X1.method', Bd.returns, Value.isRef, FieldType.isReference]
    first | (intro acts; rw [hr _ acts rfl rfl rfl]) | rw [hr _ _ rfl rfl rfl]
    exact Steps.refl _
  · show Q22 Z w_PLATFORM_DEPLOY w_SERVER_START w_PLATFORM_DELETE w_SERVER_DEPLOY w_DISK_DETACH w_NIC_DETACH w_SERVER_STOP w_SNAPSHOT_CREATE w_NIC_ATTACH w_SNAPSHOT_DELETE w_DISK_ATTACH w_SERVER_DELETE p1 h0 n0 _ T1.heap _
    rw [e1]
    exact ⟨rfl, N0, rfl⟩
def Q23 (Z : State) (w_PLATFORM_DEPLOY : Addr) (w_SERVER_START : Addr) (w_PLATFORM_DELETE : Addr) (w_SERVER_DEPLOY : Addr) (w_DISK_DETACH : Addr) (w_NIC_DETACH : Addr) (w_SERVER_STOP : Addr) (w_SNAPSHOT_CREATE : Addr) (w_NIC_ATTACH : Addr) (w_SNAPSHOT_DELETE : Addr) (w_DISK_ATTACH : Addr) (w_SERVER_DELETE : Addr) (h0 : Heap) (n0 : Nat) (v : Option Value) (h : Heap) (L : List Loc) : Prop := v = some (.int (0 : Int32)) ∧ Fr n0 L ∧ h = h0
set_option maxRecDepth 65536 in
set_option maxHeartbeats 40000000 in
theorem rm23 (l : Launch) (Z : State) (a0 : Array Value) (hw : ∀ d ∈ tables_1, d.before a0 Z = true) (ws : List Jvm.Cond) (w_PLATFORM_DEPLOY w_SERVER_START w_PLATFORM_DELETE w_SERVER_DEPLOY w_DISK_DETACH w_NIC_DETACH w_SERVER_STOP w_SNAPSHOT_CREATE w_NIC_ATTACH w_SNAPSHOT_DELETE w_DISK_ATTACH w_SERVER_DELETE : Addr) (hp : Perm Z w_PLATFORM_DEPLOY w_SERVER_START w_PLATFORM_DELETE w_SERVER_DEPLOY w_DISK_DETACH w_NIC_DETACH w_SERVER_STOP w_SNAPSHOT_CREATE w_NIC_ATTACH w_SNAPSHOT_DELETE w_DISK_ATTACH w_SERVER_DELETE) (h0 : Heap) (n0 : Nat) (O0 : Old Z n0 h0) :
    MetFree l y1 (head1 (Jvm.Cond.code y1 prog_20_method_5_code 1 (some .boolean) :: ws) ({ frames := 0, cells := 0, slots := 0, locals := 0 } : Room)) (fun a U => a = #[(.ref w_DISK_ATTACH)] ∧ Z.Warmed39 U.vm ∧ U.heap = h0) (fun _ _ _ _ _ => True) (fun _ U o U' => ∃ v L, o = .returned v ∧ Q23 Z w_PLATFORM_DEPLOY w_SERVER_START w_PLATFORM_DELETE w_SERVER_DEPLOY w_DISK_DETACH w_NIC_DETACH w_SERVER_STOP w_SNAPSHOT_CREATE w_NIC_ATTACH w_SNAPSHOT_DELETE w_DISK_ATTACH w_SERVER_DELETE  h0 n0 v U'.heap L ∧ FrameEnd U o U' L ({ frames := 0, cells := 0, slots := 0, locals := 0 } : Room).cells ({ frames := 0, cells := 0, slots := 0, locals := 0 } : Room).slots) := by
  refine MetFree.of_bodySF (plainFor_of_name pn_2) hisR ?_
  intro p e s m args below meth c s₁ Bd hml0 hP hK
  obtain ⟨rfl, hZ, hh⟩ := hP
  have hx := Bd.exec
  have hby := Bd.bytes
  have hml : c.maxLocals = 1 := hml0
  have hown : s.vm.findClass "com/example/ratebook/ratebook/model/EventType" = some m.cls := findClass_of_methodNamed Bd.named
  have hnm := (name_of_methodNamed Bd.named Bd.method).1
  have X0 : Stand p l e ({ frames := 0, cells := 0, slots := 0, locals := 0 } : Room) s m #[(.ref w_DISK_ATTACH)] below meth c s₁ [] 0 0 := Stand.of_body Bd
  have e0 : s₁.heap = h0 := by rw [← hh, Bd.state]; rfl
  have N0 := Fr.nil n0
  have hp' := hp
  obtain ⟨S_w_PLATFORM_DEPLOY, E_w_PLATFORM_DEPLOY, S_w_SERVER_START, E_w_SERVER_START, S_w_PLATFORM_DELETE, E_w_PLATFORM_DELETE, S_w_SERVER_DEPLOY, E_w_SERVER_DEPLOY, S_w_DISK_DETACH, E_w_DISK_DETACH, S_w_NIC_DETACH, E_w_NIC_DETACH, S_w_SERVER_STOP, E_w_SERVER_STOP, S_w_SNAPSHOT_CREATE, E_w_SNAPSHOT_CREATE, S_w_NIC_ATTACH, E_w_NIC_ATTACH, S_w_SNAPSHOT_DELETE, E_w_SNAPSHOT_DELETE, S_w_DISK_ATTACH, E_w_DISK_ATTACH, S_w_SERVER_DELETE, E_w_SERVER_DELETE, F_ordinal_w_SERVER_START, F_ordinal_w_PLATFORM_DEPLOY, F_ordinal_w_PLATFORM_DELETE, F_ordinal_w_SERVER_DEPLOY, F_ordinal_w_DISK_DETACH, F_ordinal_w_NIC_DETACH, F_ordinal_w_SERVER_STOP, F_ordinal_w_SNAPSHOT_CREATE, F_ordinal_w_NIC_ATTACH, F_ordinal_w_SNAPSHOT_DELETE, F_ordinal_w_DISK_ATTACH, F_ordinal_w_SERVER_DELETE⟩ := hp'
  have pre0 : ∀ t, Steps p.tables e below (s₁.setTop (mkF m 0 #[.val (.ref w_DISK_ATTACH)] [])) t → Steps p.tables e below (s₁.setTop (entryFrame m #[(.ref w_DISK_ATTACH)] 1)) t := fun t k => castTop (ef_2_0 m w_DISK_ATTACH) k
  obtain ⟨T1, X1, e1, st1⟩ := getS2 X0 hx hZ hown (host := "") (Or.inl (hw _ (List.mem_of_getElem? (i := 13) rfl))) Via.refl e0 (S_w_PLATFORM_DEPLOY.ext O0.2) (g := (mkF m 1 #[.val (.ref w_DISK_ATTACH)] [(.ref w_DISK_ATTACH)])) rfl (hb hby d2_1)
  obtain ⟨T2, X2, e2, st2⟩ := getS2 X1 hx hZ hown (host := "") (Or.inl (hw _ (List.mem_of_getElem? (i := 19) rfl))) Via.refl e1 (S_w_PLATFORM_DELETE.ext O0.2) (g := (mkF m 8 #[.val (.ref w_DISK_ATTACH)] [(.ref w_DISK_ATTACH)])) rfl (hb hby d2_8)
  obtain ⟨fs, hr, hrun, hended, hW, hsame⟩ := X2.leave (v := some (.int (0 : Int32))) (fun h => by rw [Bd.returns] at h; cases h)
  refine ⟨_, _, pre0 _ ?_, hrun, hended, _, _, rfl, ?_, ⟨_, rfl⟩, hW, hsame.mono (by decide) (by decide)⟩
  · show Sp p e below s₁ (mkF m 0 #[.val (.ref w_DISK_ATTACH)] []) _
    refine XS.aloadN X0.here hx rfl (hb hby d2_0) rfl rfl ?_
    show Sp p e below s₁ (mkF m 1 #[.val (.ref w_DISK_ATTACH)] [(.ref w_DISK_ATTACH)]) _
    refine st1 _ ?_
    show Sp p e below T1 (mkF m 4 #[.val (.ref w_DISK_ATTACH)] [(.ref w_PLATFORM_DEPLOY), (.ref w_DISK_ATTACH)]) _
    refine Jvm.RoadKit.acmp (g := (mkF m 4 #[.val (.ref w_DISK_ATTACH)] [(.ref w_PLATFORM_DEPLOY), (.ref w_DISK_ATTACH)])) X1 hx rfl rfl rfl (pc0 := 4) (pc' := 7) (same := false) rfl (hb hby d2_4) rfl (decide_eq_false fun q => (Ne.symm (ne_w_PLATFORM_DEPLOY_w_DISK_ATTACH hp)) (Value.ref.inj q)) (by decide) (by decide) ?_
    show Sp p e below T1 (mkF m 7 #[.val (.ref w_DISK_ATTACH)] []) _
    refine XS.aloadN X1.here hx rfl (hb hby d2_7) rfl rfl ?_
    show Sp p e below T1 (mkF m 8 #[.val (.ref w_DISK_ATTACH)] [(.ref w_DISK_ATTACH)]) _
    refine st2 _ ?_
    show Sp p e below T2 (mkF m 11 #[.val (.ref w_DISK_ATTACH)] [(.ref w_PLATFORM_DELETE), (.ref w_DISK_ATTACH)]) _
    refine Jvm.RoadKit.acmp (g := (mkF m 11 #[.val (.ref w_DISK_ATTACH)] [(.ref w_PLATFORM_DELETE), (.ref w_DISK_ATTACH)])) X2 hx rfl rfl rfl (pc0 := 11) (pc' := 18) (same := false) rfl (hb hby d2_11) rfl (decide_eq_false fun q => (Ne.symm (ne_w_PLATFORM_DELETE_w_DISK_ATTACH hp)) (Value.ref.inj q)) (by decide) (by decide) ?_
    show Sp p e below T2 (mkF m 18 #[.val (.ref w_DISK_ATTACH)] []) _
    refine XS.iconst X2.here hx rfl (hb hby d2_18) ?_
    show Sp p e below T2 (mkF m 19 #[.val (.ref w_DISK_ATTACH)] [(.int (0 : Int32))]) _
    exact retN X2 hx (t := .boolean) Bd.returns (by simp) (hb hby d2_19) hr
  · show Q23 Z w_PLATFORM_DEPLOY w_SERVER_START w_PLATFORM_DELETE w_SERVER_DEPLOY w_DISK_DETACH w_NIC_DETACH w_SERVER_STOP w_SNAPSHOT_CREATE w_NIC_ATTACH w_SNAPSHOT_DELETE w_DISK_ATTACH w_SERVER_DELETE  h0 n0 _ T2.heap _
    rw [e2]
    exact ⟨rfl, N0, rfl⟩
set_option maxRecDepth 65536 in
set_option maxHeartbeats 40000000 in
theorem rm24 (l : Launch) (Z : State) (a0 : Array Value) (hw : ∀ d ∈ tables_1, d.before a0 Z = true) (ws : List Jvm.Cond) (w_PLATFORM_DEPLOY w_SERVER_START w_PLATFORM_DELETE w_SERVER_DEPLOY w_DISK_DETACH w_NIC_DETACH w_SERVER_STOP w_SNAPSHOT_CREATE w_NIC_ATTACH w_SNAPSHOT_DELETE w_DISK_ATTACH w_SERVER_DELETE : Addr) (hp : Perm Z w_PLATFORM_DEPLOY w_SERVER_START w_PLATFORM_DELETE w_SERVER_DEPLOY w_DISK_DETACH w_NIC_DETACH w_SERVER_STOP w_SNAPSHOT_CREATE w_NIC_ATTACH w_SNAPSHOT_DELETE w_DISK_ATTACH w_SERVER_DELETE) (p0 : Int32) (h0 : Heap) (n0 : Nat) (O0 : Old Z n0 h0) (hc1 : ¬ (((p0 &&& (2147483647 : Int32)) % (12 : Int32)) = (0 : Int32))) (hc2 : ¬ (((p0 &&& (2147483647 : Int32)) % (12 : Int32)) = (1 : Int32))) (hc3 : ¬ (((p0 &&& (2147483647 : Int32)) % (12 : Int32)) = (2 : Int32))) (hc4 : ¬ (((p0 &&& (2147483647 : Int32)) % (12 : Int32)) = (3 : Int32))) (hc5 : ¬ (((p0 &&& (2147483647 : Int32)) % (12 : Int32)) = (4 : Int32))) (hc6 : ¬ (((p0 &&& (2147483647 : Int32)) % (12 : Int32)) = (5 : Int32))) (hc7 : ((p0 &&& (2147483647 : Int32)) % (12 : Int32)) = (6 : Int32)) :
    MetFree l x (head1 (Jvm.Cond.code x code maxLocals ret :: ws) room_1) (fun a U => a = #[(.int p0)] ∧ Z.Warmed39 U.vm ∧ U.heap = h0) (fun _ _ _ _ _ => True) (fun _ U o U' => ∃ v L, o = .returned v ∧ (v = some (.int (1 : Int32)) ∧ Fr n0 L) ∧ FrameEnd U o U' L 0 0) := by
  refine MetFree.of_bodySF (plainFor_of_name pn_1) hisR ?_
  intro p e s m args below meth c s₁ Bd hml0 hP hK
  obtain ⟨rfl, hZ, hh⟩ := hP
  have hx := Bd.exec
  have hby := Bd.bytes
  have hml : c.maxLocals = 3 := hml0
  have hown : s.vm.findClass "com/example/ratebook/ratebook/model/EventTypeIsPlatformEventPinLaw" = some m.cls := findClass_of_methodNamed Bd.named
  have hnm := (name_of_methodNamed Bd.named Bd.method).1
  have X0 : Stand p l e room_1 s m #[(.int p0)] below meth c s₁ [] 0 0 := Stand.of_body Bd
  have e0 : s₁.heap = h0 := by rw [← hh, Bd.state]; rfl
  have N0 := Fr.nil n0
  have hp' := hp
  obtain ⟨S_w_PLATFORM_DEPLOY, E_w_PLATFORM_DEPLOY, S_w_SERVER_START, E_w_SERVER_START, S_w_PLATFORM_DELETE, E_w_PLATFORM_DELETE, S_w_SERVER_DEPLOY, E_w_SERVER_DEPLOY, S_w_DISK_DETACH, E_w_DISK_DETACH, S_w_NIC_DETACH, E_w_NIC_DETACH, S_w_SERVER_STOP, E_w_SERVER_STOP, S_w_SNAPSHOT_CREATE, E_w_SNAPSHOT_CREATE, S_w_NIC_ATTACH, E_w_NIC_ATTACH, S_w_SNAPSHOT_DELETE, E_w_SNAPSHOT_DELETE, S_w_DISK_ATTACH, E_w_DISK_ATTACH, S_w_SERVER_DELETE, E_w_SERVER_DELETE, F_ordinal_w_SERVER_START, F_ordinal_w_PLATFORM_DEPLOY, F_ordinal_w_PLATFORM_DELETE, F_ordinal_w_SERVER_DEPLOY, F_ordinal_w_DISK_DETACH, F_ordinal_w_NIC_DETACH, F_ordinal_w_SERVER_STOP, F_ordinal_w_SNAPSHOT_CREATE, F_ordinal_w_NIC_ATTACH, F_ordinal_w_SNAPSHOT_DELETE, F_ordinal_w_DISK_ATTACH, F_ordinal_w_SERVER_DELETE⟩ := hp'
  have pre0 : ∀ t, Steps p.tables e below (s₁.setTop (mkF m 0 #[.val (.int p0), .unset, .unset] [])) t → Steps p.tables e below (s₁.setTop (entryFrame m #[(.int p0)] maxLocals)) t := fun t k => castTop (ef_0_0 m p0) k
  obtain ⟨_, _, ⟨T1, L1, k1, n1⟩, -, X1, ⟨Lc1, hQ1, l1, y1, z1⟩, st1⟩ := Jvm.LawKit.callS X0 hx (y := y0) hown (mvT hZ (hw _ (List.mem_of_getElem? (i := 1) rfl))) (mvT hZ (hw _ (List.mem_of_getElem? (i := 2) rfl))) (mvT hZ (hw _ (List.mem_of_getElem? (i := 3) rfl))) (mvT hZ (hw _ (List.mem_of_getElem? (i := 4) rfl))) (by decide) (backOf (W := 0) (rm22 l Z a0 hw [] w_PLATFORM_DEPLOY w_SERVER_START w_PLATFORM_DELETE w_SERVER_DEPLOY w_DISK_DETACH w_NIC_DETACH w_SERVER_STOP w_SNAPSHOT_CREATE w_NIC_ATTACH w_SNAPSHOT_DELETE w_DISK_ATTACH w_SERVER_DELETE hp ((p0 &&& (2147483647 : Int32)) % (12 : Int32)) h0 n0 O0 hc1 hc2 hc3 hc4 hc5 hc6 hc7) hZ (hw _ (List.mem_of_getElem? (i := 4) rfl)) (hw _ (List.mem_of_getElem? (i := 3) rfl)) (by decide) (by decide)) (g := (mkF m 9 #[.val (.int p0), .val (.int ((p0 &&& (2147483647 : Int32)) % (12 : Int32))), .unset] [(.int ((p0 &&& (2147483647 : Int32)) % (12 : Int32)))])) rfl (by rw [hml]; rfl) (argsL := [(.int ((p0 &&& (2147483647 : Int32)) % (12 : Int32)))]) (rest := []) (lenOf pd_0 rfl) rfl (by show 2 * 0 + _ ≤ _; exact Nat.le_of_eq rfl) (hb hby at_9) (fun _ _ => ⟨rfl, e0, (by decide : 0 + 0 ≤ _), (by decide : 0 + 0 ≤ _)⟩)
  dsimp only [Pt.U, Pt.locs, Pt.cells, Pt.slots] at X1 l1 y1 z1 st1 hQ1
  subst l1 y1 z1
  obtain ⟨rfl, Nq1, eq1⟩ := hQ1
  have N1 := Fr.app N0 Nq1
  obtain ⟨cq2, kq2, q2a, q2b, q2c⟩ := isOf hZ eq1 (E_w_DISK_ATTACH.ext O0.2)
  obtain ⟨_, _, ⟨T2, L2, k2, n2⟩, -, X2, ⟨Lc2, hQ2, l2, y2, z2⟩, st2⟩ := X1.virtualBack hx (y := y1) (z := y1) hown (mvT hZ (hw _ (List.mem_of_getElem? (i := 8) rfl))) (mvT hZ (hw _ (List.mem_of_getElem? (i := 9) rfl))) (notFace_of_selects (args := #[]) (mvT hZ (hw _ (List.mem_of_getElem? (i := 11) rfl)))) (mvT hZ (hw _ (List.mem_of_getElem? (i := 11) rfl))) (mvT hZ (hw _ (List.mem_of_getElem? (i := 10) rfl))) (by decide) (backOf (W := 0) (rm23 l Z a0 hw [] w_PLATFORM_DEPLOY w_SERVER_START w_PLATFORM_DELETE w_SERVER_DEPLOY w_DISK_DETACH w_NIC_DETACH w_SERVER_STOP w_SNAPSHOT_CREATE w_NIC_ATTACH w_SNAPSHOT_DELETE w_DISK_ATTACH w_SERVER_DELETE hp h0 n0 O0) hZ (hw _ (List.mem_of_getElem? (i := 12) rfl)) (hw _ (List.mem_of_getElem? (i := 6) rfl)) (by decide) (by decide)) q2a q2c (g := (mkF m 14 #[.val (.int p0), .val (.int ((p0 &&& (2147483647 : Int32)) % (12 : Int32))), .val (.ref w_DISK_ATTACH)] [(.ref w_DISK_ATTACH)])) rfl (by rw [hml]; rfl) (Steps.refl _) (argsL := []) (rest := []) (lenOf pd_1 rfl) rfl (by show 2 * 0 + _ ≤ _; exact Nat.le_of_eq rfl) (hb hby at_14) (fun _ _ => ⟨rfl, eq1, (by decide : 0 + 0 ≤ _), (by decide : 0 + 0 ≤ _)⟩)
  dsimp only [Pt.U, Pt.locs, Pt.cells, Pt.slots] at X2 l2 y2 z2 st2 hQ2
  subst l2 y2 z2
  obtain ⟨rfl, Nq2, eq2⟩ := hQ2
  have N2 := Fr.app N1 Nq2
  obtain ⟨_, _, ⟨T3, L3, k3, n3⟩, -, X3, ⟨Lc3, hQ3, l3, y3, z3⟩, st3⟩ := Jvm.LawKit.callS X2 hx (y := y2) hown (mvT hZ (hw _ (List.mem_of_getElem? (i := 14) rfl))) (mvT hZ (hw _ (List.mem_of_getElem? (i := 15) rfl))) (mvT hZ (hw _ (List.mem_of_getElem? (i := 3) rfl))) (mvT hZ (hw _ (List.mem_of_getElem? (i := 16) rfl))) (by decide) (backOf (W := 1) (rm11 l Z a0 hw [] w_PLATFORM_DEPLOY w_SERVER_START w_PLATFORM_DELETE w_SERVER_DEPLOY w_DISK_DETACH w_NIC_DETACH w_SERVER_STOP w_SNAPSHOT_CREATE w_NIC_ATTACH w_SNAPSHOT_DELETE w_DISK_ATTACH w_SERVER_DELETE hp ((p0 &&& (2147483647 : Int32)) % (12 : Int32)) h0 n0 O0 hc1 hc2) hZ (hw _ (List.mem_of_getElem? (i := 16) rfl)) (hw _ (List.mem_of_getElem? (i := 3) rfl)) (by decide) (by decide)) (g := (mkF m 18 #[.val (.int p0), .val (.int ((p0 &&& (2147483647 : Int32)) % (12 : Int32))), .val (.ref w_DISK_ATTACH)] [(.int ((p0 &&& (2147483647 : Int32)) % (12 : Int32))), (.int (0 : Int32))])) rfl (by rw [hml]; rfl) (argsL := [(.int ((p0 &&& (2147483647 : Int32)) % (12 : Int32)))]) (rest := [(.int (0 : Int32))]) (lenOf pd_2 rfl) rfl (by show 2 * 0 + _ ≤ _; exact Nat.le_of_eq rfl) (hb hby at_18) (fun _ _ => ⟨rfl, eq2, (by decide : 0 + 0 ≤ _), (by decide : 0 + 0 ≤ _)⟩)
  dsimp only [Pt.U, Pt.locs, Pt.cells, Pt.slots] at X3 l3 y3 z3 st3 hQ3
  subst l3 y3 z3
  obtain ⟨rfl, Nq3, eq3⟩ := hQ3
  have N3 := Fr.app N2 Nq3
  obtain ⟨fs, hr, hrun, hended, hW, hsame⟩ := X3.leave (v := some (.int (1 : Int32))) (fun h => by rw [Bd.returns] at h; cases h)
  refine ⟨_, _, pre0 _ ?_, hrun, hended, _, _, rfl, ?_, ⟨_, rfl⟩, hW, hsame.mono (by decide) (by decide)⟩
  · show Sp p e below s₁ (mkF m 0 #[.val (.int p0), .unset, .unset] []) _
    refine XS.iloadN X0.here hx rfl (hb hby at_0) rfl ?_
    show Sp p e below s₁ (mkF m 1 #[.val (.int p0), .unset, .unset] [(.int p0)]) _
    refine X0.ldcI hx hown (mvT hZ (hw _ (List.mem_of_getElem? (i := 0) rfl))) rfl (hb hby at_1) ?_
    show Sp p e below s₁ (mkF m 3 #[.val (.int p0), .unset, .unset] [(.int (2147483647 : Int32)), (.int p0)]) _
    refine XS.iand X0.here hx rfl (hb hby at_3) rfl ?_
    show Sp p e below s₁ (mkF m 4 #[.val (.int p0), .unset, .unset] [(.int (p0 &&& (2147483647 : Int32)))]) _
    refine XS.bipush X0.here hx rfl (hb hby at_4) ?_
    show Sp p e below s₁ (mkF m 6 #[.val (.int p0), .unset, .unset] [(.int (12 : Int32)), (.int (p0 &&& (2147483647 : Int32)))]) _
    refine iremM X0 hx rfl (hb hby at_6) rfl (by decide) ?_
    show Sp p e below s₁ (mkF m 7 #[.val (.int p0), .unset, .unset] [(.int ((p0 &&& (2147483647 : Int32)) % (12 : Int32)))]) _
    refine XS.istoreN X0.here hx rfl (hb hby at_7) rfl (l' := #[.val (.int p0), .val (.int ((p0 &&& (2147483647 : Int32)) % (12 : Int32))), .unset]) rfl ?_
    show Sp p e below s₁ (mkF m 8 #[.val (.int p0), .val (.int ((p0 &&& (2147483647 : Int32)) % (12 : Int32))), .unset] []) _
    refine XS.iloadN X0.here hx rfl (hb hby at_8) rfl ?_
    show Sp p e below s₁ (mkF m 9 #[.val (.int p0), .val (.int ((p0 &&& (2147483647 : Int32)) % (12 : Int32))), .unset] [(.int ((p0 &&& (2147483647 : Int32)) % (12 : Int32)))]) _
    refine st1 _ ?_
    show Sp p e below T1 (mkF m 12 #[.val (.int p0), .val (.int ((p0 &&& (2147483647 : Int32)) % (12 : Int32))), .unset] [(.ref w_DISK_ATTACH)]) _
    refine XS.astoreN X1.here hx rfl (hb hby at_12) rfl rfl (l' := #[.val (.int p0), .val (.int ((p0 &&& (2147483647 : Int32)) % (12 : Int32))), .val (.ref w_DISK_ATTACH)]) rfl ?_
    show Sp p e below T1 (mkF m 13 #[.val (.int p0), .val (.int ((p0 &&& (2147483647 : Int32)) % (12 : Int32))), .val (.ref w_DISK_ATTACH)] []) _
    refine XS.aloadN X1.here hx rfl (hb hby at_13) rfl rfl ?_
    show Sp p e below T1 (mkF m 14 #[.val (.int p0), .val (.int ((p0 &&& (2147483647 : Int32)) % (12 : Int32))), .val (.ref w_DISK_ATTACH)] [(.ref w_DISK_ATTACH)]) _
    refine st2.trans ?_
    show Sp p e below T2 (mkF m 17 #[.val (.int p0), .val (.int ((p0 &&& (2147483647 : Int32)) % (12 : Int32))), .val (.ref w_DISK_ATTACH)] [(.int (0 : Int32))]) _
    refine XS.iloadN X2.here hx rfl (hb hby at_17) rfl ?_
    show Sp p e below T2 (mkF m 18 #[.val (.int p0), .val (.int ((p0 &&& (2147483647 : Int32)) % (12 : Int32))), .val (.ref w_DISK_ATTACH)] [(.int ((p0 &&& (2147483647 : Int32)) % (12 : Int32))), (.int (0 : Int32))]) _
    refine st3 _ ?_
    show Sp p e below T3 (mkF m 21 #[.val (.int p0), .val (.int ((p0 &&& (2147483647 : Int32)) % (12 : Int32))), .val (.ref w_DISK_ATTACH)] [(.int (0 : Int32)), (.int (0 : Int32))]) _
    refine XS.icmpNo X3.here hx rfl (hb hby at_21) rfl (teq (by decide : (0 : Int32) = (0 : Int32))).2 ?_
    show Sp p e below T3 (mkF m 24 #[.val (.int p0), .val (.int ((p0 &&& (2147483647 : Int32)) % (12 : Int32))), .val (.ref w_DISK_ATTACH)] []) _
    refine XS.iconst X3.here hx rfl (hb hby at_24) ?_
    show Sp p e below T3 (mkF m 25 #[.val (.int p0), .val (.int ((p0 &&& (2147483647 : Int32)) % (12 : Int32))), .val (.ref w_DISK_ATTACH)] [(.int (1 : Int32))]) _
    refine XS.goto X3.here hx rfl (pc0 := 25) (pc' := 29) rfl (hb hby at_25) (by decide) (by decide) ?_
    show Sp p e below T3 (mkF m 29 #[.val (.int p0), .val (.int ((p0 &&& (2147483647 : Int32)) % (12 : Int32))), .val (.ref w_DISK_ATTACH)] [(.int (1 : Int32))]) _
    exact retN X3 hx (t := .boolean) Bd.returns (by simp) (hb hby at_29) hr
  · skip
    exact ⟨rfl, N3⟩
theorem d1_63 : decode method_2_code 63 = .ok (.iload_n 0, 1) := by decide +kernel
theorem d1_64 : decode method_2_code 64 = .ok (.bipush 7, 2) := by decide +kernel
theorem d1_66 : decode method_2_code 66 = .ok (.if_icmp .ne 7, 3) := by decide +kernel
theorem d1_69 : decode method_2_code 69 = .ok (.getstatic 31, 3) := by decide +kernel
theorem d1_72 : decode method_2_code 72 = .ok (.areturn, 1) := by decide +kernel
def Q25 (Z : State) (w_PLATFORM_DEPLOY : Addr) (w_SERVER_START : Addr) (w_PLATFORM_DELETE : Addr) (w_SERVER_DEPLOY : Addr) (w_DISK_DETACH : Addr) (w_NIC_DETACH : Addr) (w_SERVER_STOP : Addr) (w_SNAPSHOT_CREATE : Addr) (w_NIC_ATTACH : Addr) (w_SNAPSHOT_DELETE : Addr) (w_DISK_ATTACH : Addr) (w_SERVER_DELETE : Addr) (p1 : Int32) (h0 : Heap) (n0 : Nat) (v : Option Value) (h : Heap) (L : List Loc) : Prop := v = some (.ref w_DISK_DETACH) ∧ Fr n0 L ∧ h = h0
set_option maxRecDepth 65536 in
set_option maxHeartbeats 40000000 in
theorem rm25 (l : Launch) (Z : State) (a0 : Array Value) (hw : ∀ d ∈ tables_1, d.before a0 Z = true) (ws : List Jvm.Cond) (w_PLATFORM_DEPLOY w_SERVER_START w_PLATFORM_DELETE w_SERVER_DEPLOY w_DISK_DETACH w_NIC_DETACH w_SERVER_STOP w_SNAPSHOT_CREATE w_NIC_ATTACH w_SNAPSHOT_DELETE w_DISK_ATTACH w_SERVER_DELETE : Addr) (hp : Perm Z w_PLATFORM_DEPLOY w_SERVER_START w_PLATFORM_DELETE w_SERVER_DEPLOY w_DISK_DETACH w_NIC_DETACH w_SERVER_STOP w_SNAPSHOT_CREATE w_NIC_ATTACH w_SNAPSHOT_DELETE w_DISK_ATTACH w_SERVER_DELETE) (p1 : Int32) (h0 : Heap) (n0 : Nat) (O0 : Old Z n0 h0) (hc1 : ¬ (p1 = (0 : Int32))) (hc2 : ¬ (p1 = (1 : Int32))) (hc3 : ¬ (p1 = (2 : Int32))) (hc4 : ¬ (p1 = (3 : Int32))) (hc5 : ¬ (p1 = (4 : Int32))) (hc6 : ¬ (p1 = (5 : Int32))) (hc7 : ¬ (p1 = (6 : Int32))) (hc8 : p1 = (7 : Int32)) :
    MetFree l y0 (head1 (Jvm.Cond.code y0 method_2_code 1 (some (.object "com/example/ratebook/ratebook/model/EventType")) :: ws) ({ frames := 0, cells := 0, slots := 0, locals := 0 } : Room)) (fun a U => a = #[(.int p1)] ∧ Z.Warmed39 U.vm ∧ U.heap = h0) (fun _ _ _ _ _ => True) (fun _ U o U' => ∃ v L, o = .returned v ∧ Q25 Z w_PLATFORM_DEPLOY w_SERVER_START w_PLATFORM_DELETE w_SERVER_DEPLOY w_DISK_DETACH w_NIC_DETACH w_SERVER_STOP w_SNAPSHOT_CREATE w_NIC_ATTACH w_SNAPSHOT_DELETE w_DISK_ATTACH w_SERVER_DELETE p1 h0 n0 v U'.heap L ∧ FrameEnd U o U' L ({ frames := 0, cells := 0, slots := 0, locals := 0 } : Room).cells ({ frames := 0, cells := 0, slots := 0, locals := 0 } : Room).slots) := by
  refine MetFree.of_bodySF (plainFor_of_name pn_1) hisR ?_
  intro p e s m args below meth c s₁ Bd hml0 hP hK
  obtain ⟨rfl, hZ, hh⟩ := hP
  have hx := Bd.exec
  have hby := Bd.bytes
  have hml : c.maxLocals = 1 := hml0
  have hown : s.vm.findClass "com/example/ratebook/ratebook/model/EventTypeIsPlatformEventPinLaw" = some m.cls := findClass_of_methodNamed Bd.named
  have hnm := (name_of_methodNamed Bd.named Bd.method).1
  have X0 : Stand p l e ({ frames := 0, cells := 0, slots := 0, locals := 0 } : Room) s m #[(.int p1)] below meth c s₁ [] 0 0 := Stand.of_body Bd
  have e0 : s₁.heap = h0 := by rw [← hh, Bd.state]; rfl
  have N0 := Fr.nil n0
  have hp' := hp
  obtain ⟨S_w_PLATFORM_DEPLOY, E_w_PLATFORM_DEPLOY, S_w_SERVER_START, E_w_SERVER_START, S_w_PLATFORM_DELETE, E_w_PLATFORM_DELETE, S_w_SERVER_DEPLOY, E_w_SERVER_DEPLOY, S_w_DISK_DETACH, E_w_DISK_DETACH, S_w_NIC_DETACH, E_w_NIC_DETACH, S_w_SERVER_STOP, E_w_SERVER_STOP, S_w_SNAPSHOT_CREATE, E_w_SNAPSHOT_CREATE, S_w_NIC_ATTACH, E_w_NIC_ATTACH, S_w_SNAPSHOT_DELETE, E_w_SNAPSHOT_DELETE, S_w_DISK_ATTACH, E_w_DISK_ATTACH, S_w_SERVER_DELETE, E_w_SERVER_DELETE, F_ordinal_w_SERVER_START, F_ordinal_w_PLATFORM_DEPLOY, F_ordinal_w_PLATFORM_DELETE, F_ordinal_w_SERVER_DEPLOY, F_ordinal_w_DISK_DETACH, F_ordinal_w_NIC_DETACH, F_ordinal_w_SERVER_STOP, F_ordinal_w_SNAPSHOT_CREATE, F_ordinal_w_NIC_ATTACH, F_ordinal_w_SNAPSHOT_DELETE, F_ordinal_w_DISK_ATTACH, F_ordinal_w_SERVER_DELETE⟩ := hp'
  have pre0 : ∀ t, Steps p.tables e below (s₁.setTop (mkF m 0 #[.val (.int p1)] [])) t → Steps p.tables e below (s₁.setTop (entryFrame m #[(.int p1)] 1)) t := fun t k => castTop (ef_1_0 m p1) k
  obtain ⟨T1, X1, e1, st1⟩ := getS2 X0 hx hZ hown (host := "") (Or.inl (hw _ (List.mem_of_getElem? (i := 23) rfl))) Via.refl e0 (S_w_DISK_DETACH.ext O0.2) (g := (mkF m 69 #[.val (.int p1)] [])) rfl (hb hby d1_69)
  obtain ⟨fs, hr, hrun, hended, hW, hsame⟩ := X1.leave (v := some (.ref w_DISK_DETACH)) (fun h => by rw [Bd.returns] at h; cases h)
  refine ⟨_, _, pre0 _ ?_, hrun, hended, _, _, rfl, ?_, ⟨_, rfl⟩, hW, hsame.mono (by decide) (by decide)⟩
  · show Sp p e below s₁ (mkF m 0 #[.val (.int p1)] []) _
    refine XS.iloadN X0.here hx rfl (hb hby d1_0) rfl ?_
    show Sp p e below s₁ (mkF m 1 #[.val (.int p1)] [(.int p1)]) _
    refine XS.ifYes X0.here hx rfl (pc0 := 1) (pc' := 8) rfl (hb hby d1_1) rfl ((if0 _ _).trans (feq hc1).2) (by decide) (by decide) ?_
    show Sp p e below s₁ (mkF m 8 #[.val (.int p1)] []) _
    refine XS.iloadN X0.here hx rfl (hb hby d1_8) rfl ?_
    show Sp p e below s₁ (mkF m 9 #[.val (.int p1)] [(.int p1)]) _
    refine XS.iconst X0.here hx rfl (hb hby d1_9) ?_
    show Sp p e below s₁ (mkF m 10 #[.val (.int p1)] [(.int (1 : Int32)), (.int p1)]) _
    refine XS.icmpYes X0.here hx rfl (pc0 := 10) (pc' := 17) rfl (hb hby d1_10) rfl (feq hc2).2 (by decide) (by decide) ?_
    show Sp p e below s₁ (mkF m 17 #[.val (.int p1)] []) _
    refine XS.iloadN X0.here hx rfl (hb hby d1_17) rfl ?_
    show Sp p e below s₁ (mkF m 18 #[.val (.int p1)] [(.int p1)]) _
    refine XS.iconst X0.here hx rfl (hb hby d1_18) ?_
    show Sp p e below s₁ (mkF m 19 #[.val (.int p1)] [(.int (2 : Int32)), (.int p1)]) _
    refine XS.icmpYes X0.here hx rfl (pc0 := 19) (pc' := 26) rfl (hb hby d1_19) rfl (feq hc3).2 (by decide) (by decide) ?_
    show Sp p e below s₁ (mkF m 26 #[.val (.int p1)] []) _
    refine XS.iloadN X0.here hx rfl (hb hby d1_26) rfl ?_
    show Sp p e below s₁ (mkF m 27 #[.val (.int p1)] [(.int p1)]) _
    refine XS.iconst X0.here hx rfl (hb hby d1_27) ?_
    show Sp p e below s₁ (mkF m 28 #[.val (.int p1)] [(.int (3 : Int32)), (.int p1)]) _
    refine XS.icmpYes X0.here hx rfl (pc0 := 28) (pc' := 35) rfl (hb hby d1_28) rfl (feq hc4).2 (by decide) (by decide) ?_
    show Sp p e below s₁ (mkF m 35 #[.val (.int p1)] []) _
    refine XS.iloadN X0.here hx rfl (hb hby d1_35) rfl ?_
    show Sp p e below s₁ (mkF m 36 #[.val (.int p1)] [(.int p1)]) _
    refine XS.iconst X0.here hx rfl (hb hby d1_36) ?_
    show Sp p e below s₁ (mkF m 37 #[.val (.int p1)] [(.int (4 : Int32)), (.int p1)]) _
    refine XS.icmpYes X0.here hx rfl (pc0 := 37) (pc' := 44) rfl (hb hby d1_37) rfl (feq hc5).2 (by decide) (by decide) ?_
    show Sp p e below s₁ (mkF m 44 #[.val (.int p1)] []) _
    refine XS.iloadN X0.here hx rfl (hb hby d1_44) rfl ?_
    show Sp p e below s₁ (mkF m 45 #[.val (.int p1)] [(.int p1)]) _
    refine XS.iconst X0.here hx rfl (hb hby d1_45) ?_
    show Sp p e below s₁ (mkF m 46 #[.val (.int p1)] [(.int (5 : Int32)), (.int p1)]) _
    refine XS.icmpYes X0.here hx rfl (pc0 := 46) (pc' := 53) rfl (hb hby d1_46) rfl (feq hc6).2 (by decide) (by decide) ?_
    show Sp p e below s₁ (mkF m 53 #[.val (.int p1)] []) _
    refine XS.iloadN X0.here hx rfl (hb hby d1_53) rfl ?_
    show Sp p e below s₁ (mkF m 54 #[.val (.int p1)] [(.int p1)]) _
    refine XS.bipush X0.here hx rfl (hb hby d1_54) ?_
    show Sp p e below s₁ (mkF m 56 #[.val (.int p1)] [(.int (6 : Int32)), (.int p1)]) _
    refine XS.icmpYes X0.here hx rfl (pc0 := 56) (pc' := 63) rfl (hb hby d1_56) rfl (feq hc7).2 (by decide) (by decide) ?_
    show Sp p e below s₁ (mkF m 63 #[.val (.int p1)] []) _
    refine XS.iloadN X0.here hx rfl (hb hby d1_63) rfl ?_
    show Sp p e below s₁ (mkF m 64 #[.val (.int p1)] [(.int p1)]) _
    refine XS.bipush X0.here hx rfl (hb hby d1_64) ?_
    show Sp p e below s₁ (mkF m 66 #[.val (.int p1)] [(.int (7 : Int32)), (.int p1)]) _
    refine XS.icmpNo X0.here hx rfl (hb hby d1_66) rfl (teq hc8).2 ?_
    show Sp p e below s₁ (mkF m 69 #[.val (.int p1)] []) _
    refine st1 _ ?_
    show Sp p e below T1 (mkF m 72 #[.val (.int p1)] [(.ref w_DISK_DETACH)]) _
    jvm_step X1.here [X1.here.top, hx, (hb hby d1_72), X1.method', Bd.returns, Value.isRef, FieldType.isReference]
    first | (intro acts; rw [hr _ acts rfl rfl rfl]) | rw [hr _ _ rfl rfl rfl]
    exact Steps.refl _
  · show Q25 Z w_PLATFORM_DEPLOY w_SERVER_START w_PLATFORM_DELETE w_SERVER_DEPLOY w_DISK_DETACH w_NIC_DETACH w_SERVER_STOP w_SNAPSHOT_CREATE w_NIC_ATTACH w_SNAPSHOT_DELETE w_DISK_ATTACH w_SERVER_DELETE p1 h0 n0 _ T1.heap _
    rw [e1]
    exact ⟨rfl, N0, rfl⟩
def Q26 (Z : State) (w_PLATFORM_DEPLOY : Addr) (w_SERVER_START : Addr) (w_PLATFORM_DELETE : Addr) (w_SERVER_DEPLOY : Addr) (w_DISK_DETACH : Addr) (w_NIC_DETACH : Addr) (w_SERVER_STOP : Addr) (w_SNAPSHOT_CREATE : Addr) (w_NIC_ATTACH : Addr) (w_SNAPSHOT_DELETE : Addr) (w_DISK_ATTACH : Addr) (w_SERVER_DELETE : Addr) (h0 : Heap) (n0 : Nat) (v : Option Value) (h : Heap) (L : List Loc) : Prop := v = some (.int (0 : Int32)) ∧ Fr n0 L ∧ h = h0
set_option maxRecDepth 65536 in
set_option maxHeartbeats 40000000 in
theorem rm26 (l : Launch) (Z : State) (a0 : Array Value) (hw : ∀ d ∈ tables_1, d.before a0 Z = true) (ws : List Jvm.Cond) (w_PLATFORM_DEPLOY w_SERVER_START w_PLATFORM_DELETE w_SERVER_DEPLOY w_DISK_DETACH w_NIC_DETACH w_SERVER_STOP w_SNAPSHOT_CREATE w_NIC_ATTACH w_SNAPSHOT_DELETE w_DISK_ATTACH w_SERVER_DELETE : Addr) (hp : Perm Z w_PLATFORM_DEPLOY w_SERVER_START w_PLATFORM_DELETE w_SERVER_DEPLOY w_DISK_DETACH w_NIC_DETACH w_SERVER_STOP w_SNAPSHOT_CREATE w_NIC_ATTACH w_SNAPSHOT_DELETE w_DISK_ATTACH w_SERVER_DELETE) (h0 : Heap) (n0 : Nat) (O0 : Old Z n0 h0) :
    MetFree l y1 (head1 (Jvm.Cond.code y1 prog_20_method_5_code 1 (some .boolean) :: ws) ({ frames := 0, cells := 0, slots := 0, locals := 0 } : Room)) (fun a U => a = #[(.ref w_DISK_DETACH)] ∧ Z.Warmed39 U.vm ∧ U.heap = h0) (fun _ _ _ _ _ => True) (fun _ U o U' => ∃ v L, o = .returned v ∧ Q26 Z w_PLATFORM_DEPLOY w_SERVER_START w_PLATFORM_DELETE w_SERVER_DEPLOY w_DISK_DETACH w_NIC_DETACH w_SERVER_STOP w_SNAPSHOT_CREATE w_NIC_ATTACH w_SNAPSHOT_DELETE w_DISK_ATTACH w_SERVER_DELETE  h0 n0 v U'.heap L ∧ FrameEnd U o U' L ({ frames := 0, cells := 0, slots := 0, locals := 0 } : Room).cells ({ frames := 0, cells := 0, slots := 0, locals := 0 } : Room).slots) := by
  refine MetFree.of_bodySF (plainFor_of_name pn_2) hisR ?_
  intro p e s m args below meth c s₁ Bd hml0 hP hK
  obtain ⟨rfl, hZ, hh⟩ := hP
  have hx := Bd.exec
  have hby := Bd.bytes
  have hml : c.maxLocals = 1 := hml0
  have hown : s.vm.findClass "com/example/ratebook/ratebook/model/EventType" = some m.cls := findClass_of_methodNamed Bd.named
  have hnm := (name_of_methodNamed Bd.named Bd.method).1
  have X0 : Stand p l e ({ frames := 0, cells := 0, slots := 0, locals := 0 } : Room) s m #[(.ref w_DISK_DETACH)] below meth c s₁ [] 0 0 := Stand.of_body Bd
  have e0 : s₁.heap = h0 := by rw [← hh, Bd.state]; rfl
  have N0 := Fr.nil n0
  have hp' := hp
  obtain ⟨S_w_PLATFORM_DEPLOY, E_w_PLATFORM_DEPLOY, S_w_SERVER_START, E_w_SERVER_START, S_w_PLATFORM_DELETE, E_w_PLATFORM_DELETE, S_w_SERVER_DEPLOY, E_w_SERVER_DEPLOY, S_w_DISK_DETACH, E_w_DISK_DETACH, S_w_NIC_DETACH, E_w_NIC_DETACH, S_w_SERVER_STOP, E_w_SERVER_STOP, S_w_SNAPSHOT_CREATE, E_w_SNAPSHOT_CREATE, S_w_NIC_ATTACH, E_w_NIC_ATTACH, S_w_SNAPSHOT_DELETE, E_w_SNAPSHOT_DELETE, S_w_DISK_ATTACH, E_w_DISK_ATTACH, S_w_SERVER_DELETE, E_w_SERVER_DELETE, F_ordinal_w_SERVER_START, F_ordinal_w_PLATFORM_DEPLOY, F_ordinal_w_PLATFORM_DELETE, F_ordinal_w_SERVER_DEPLOY, F_ordinal_w_DISK_DETACH, F_ordinal_w_NIC_DETACH, F_ordinal_w_SERVER_STOP, F_ordinal_w_SNAPSHOT_CREATE, F_ordinal_w_NIC_ATTACH, F_ordinal_w_SNAPSHOT_DELETE, F_ordinal_w_DISK_ATTACH, F_ordinal_w_SERVER_DELETE⟩ := hp'
  have pre0 : ∀ t, Steps p.tables e below (s₁.setTop (mkF m 0 #[.val (.ref w_DISK_DETACH)] [])) t → Steps p.tables e below (s₁.setTop (entryFrame m #[(.ref w_DISK_DETACH)] 1)) t := fun t k => castTop (ef_2_0 m w_DISK_DETACH) k
  obtain ⟨T1, X1, e1, st1⟩ := getS2 X0 hx hZ hown (host := "") (Or.inl (hw _ (List.mem_of_getElem? (i := 13) rfl))) Via.refl e0 (S_w_PLATFORM_DEPLOY.ext O0.2) (g := (mkF m 1 #[.val (.ref w_DISK_DETACH)] [(.ref w_DISK_DETACH)])) rfl (hb hby d2_1)
  obtain ⟨T2, X2, e2, st2⟩ := getS2 X1 hx hZ hown (host := "") (Or.inl (hw _ (List.mem_of_getElem? (i := 19) rfl))) Via.refl e1 (S_w_PLATFORM_DELETE.ext O0.2) (g := (mkF m 8 #[.val (.ref w_DISK_DETACH)] [(.ref w_DISK_DETACH)])) rfl (hb hby d2_8)
  obtain ⟨fs, hr, hrun, hended, hW, hsame⟩ := X2.leave (v := some (.int (0 : Int32))) (fun h => by rw [Bd.returns] at h; cases h)
  refine ⟨_, _, pre0 _ ?_, hrun, hended, _, _, rfl, ?_, ⟨_, rfl⟩, hW, hsame.mono (by decide) (by decide)⟩
  · show Sp p e below s₁ (mkF m 0 #[.val (.ref w_DISK_DETACH)] []) _
    refine XS.aloadN X0.here hx rfl (hb hby d2_0) rfl rfl ?_
    show Sp p e below s₁ (mkF m 1 #[.val (.ref w_DISK_DETACH)] [(.ref w_DISK_DETACH)]) _
    refine st1 _ ?_
    show Sp p e below T1 (mkF m 4 #[.val (.ref w_DISK_DETACH)] [(.ref w_PLATFORM_DEPLOY), (.ref w_DISK_DETACH)]) _
    refine Jvm.RoadKit.acmp (g := (mkF m 4 #[.val (.ref w_DISK_DETACH)] [(.ref w_PLATFORM_DEPLOY), (.ref w_DISK_DETACH)])) X1 hx rfl rfl rfl (pc0 := 4) (pc' := 7) (same := false) rfl (hb hby d2_4) rfl (decide_eq_false fun q => (Ne.symm (ne_w_PLATFORM_DEPLOY_w_DISK_DETACH hp)) (Value.ref.inj q)) (by decide) (by decide) ?_
    show Sp p e below T1 (mkF m 7 #[.val (.ref w_DISK_DETACH)] []) _
    refine XS.aloadN X1.here hx rfl (hb hby d2_7) rfl rfl ?_
    show Sp p e below T1 (mkF m 8 #[.val (.ref w_DISK_DETACH)] [(.ref w_DISK_DETACH)]) _
    refine st2 _ ?_
    show Sp p e below T2 (mkF m 11 #[.val (.ref w_DISK_DETACH)] [(.ref w_PLATFORM_DELETE), (.ref w_DISK_DETACH)]) _
    refine Jvm.RoadKit.acmp (g := (mkF m 11 #[.val (.ref w_DISK_DETACH)] [(.ref w_PLATFORM_DELETE), (.ref w_DISK_DETACH)])) X2 hx rfl rfl rfl (pc0 := 11) (pc' := 18) (same := false) rfl (hb hby d2_11) rfl (decide_eq_false fun q => (Ne.symm (ne_w_PLATFORM_DELETE_w_DISK_DETACH hp)) (Value.ref.inj q)) (by decide) (by decide) ?_
    show Sp p e below T2 (mkF m 18 #[.val (.ref w_DISK_DETACH)] []) _
    refine XS.iconst X2.here hx rfl (hb hby d2_18) ?_
    show Sp p e below T2 (mkF m 19 #[.val (.ref w_DISK_DETACH)] [(.int (0 : Int32))]) _
    exact retN X2 hx (t := .boolean) Bd.returns (by simp) (hb hby d2_19) hr
  · show Q26 Z w_PLATFORM_DEPLOY w_SERVER_START w_PLATFORM_DELETE w_SERVER_DEPLOY w_DISK_DETACH w_NIC_DETACH w_SERVER_STOP w_SNAPSHOT_CREATE w_NIC_ATTACH w_SNAPSHOT_DELETE w_DISK_ATTACH w_SERVER_DELETE  h0 n0 _ T2.heap _
    rw [e2]
    exact ⟨rfl, N0, rfl⟩
set_option maxRecDepth 65536 in
set_option maxHeartbeats 40000000 in
theorem rm27 (l : Launch) (Z : State) (a0 : Array Value) (hw : ∀ d ∈ tables_1, d.before a0 Z = true) (ws : List Jvm.Cond) (w_PLATFORM_DEPLOY w_SERVER_START w_PLATFORM_DELETE w_SERVER_DEPLOY w_DISK_DETACH w_NIC_DETACH w_SERVER_STOP w_SNAPSHOT_CREATE w_NIC_ATTACH w_SNAPSHOT_DELETE w_DISK_ATTACH w_SERVER_DELETE : Addr) (hp : Perm Z w_PLATFORM_DEPLOY w_SERVER_START w_PLATFORM_DELETE w_SERVER_DEPLOY w_DISK_DETACH w_NIC_DETACH w_SERVER_STOP w_SNAPSHOT_CREATE w_NIC_ATTACH w_SNAPSHOT_DELETE w_DISK_ATTACH w_SERVER_DELETE) (p0 : Int32) (h0 : Heap) (n0 : Nat) (O0 : Old Z n0 h0) (hc1 : ¬ (((p0 &&& (2147483647 : Int32)) % (12 : Int32)) = (0 : Int32))) (hc2 : ¬ (((p0 &&& (2147483647 : Int32)) % (12 : Int32)) = (1 : Int32))) (hc3 : ¬ (((p0 &&& (2147483647 : Int32)) % (12 : Int32)) = (2 : Int32))) (hc4 : ¬ (((p0 &&& (2147483647 : Int32)) % (12 : Int32)) = (3 : Int32))) (hc5 : ¬ (((p0 &&& (2147483647 : Int32)) % (12 : Int32)) = (4 : Int32))) (hc6 : ¬ (((p0 &&& (2147483647 : Int32)) % (12 : Int32)) = (5 : Int32))) (hc7 : ¬ (((p0 &&& (2147483647 : Int32)) % (12 : Int32)) = (6 : Int32))) (hc8 : ((p0 &&& (2147483647 : Int32)) % (12 : Int32)) = (7 : Int32)) :
    MetFree l x (head1 (Jvm.Cond.code x code maxLocals ret :: ws) room_1) (fun a U => a = #[(.int p0)] ∧ Z.Warmed39 U.vm ∧ U.heap = h0) (fun _ _ _ _ _ => True) (fun _ U o U' => ∃ v L, o = .returned v ∧ (v = some (.int (1 : Int32)) ∧ Fr n0 L) ∧ FrameEnd U o U' L 0 0) := by
  refine MetFree.of_bodySF (plainFor_of_name pn_1) hisR ?_
  intro p e s m args below meth c s₁ Bd hml0 hP hK
  obtain ⟨rfl, hZ, hh⟩ := hP
  have hx := Bd.exec
  have hby := Bd.bytes
  have hml : c.maxLocals = 3 := hml0
  have hown : s.vm.findClass "com/example/ratebook/ratebook/model/EventTypeIsPlatformEventPinLaw" = some m.cls := findClass_of_methodNamed Bd.named
  have hnm := (name_of_methodNamed Bd.named Bd.method).1
  have X0 : Stand p l e room_1 s m #[(.int p0)] below meth c s₁ [] 0 0 := Stand.of_body Bd
  have e0 : s₁.heap = h0 := by rw [← hh, Bd.state]; rfl
  have N0 := Fr.nil n0
  have hp' := hp
  obtain ⟨S_w_PLATFORM_DEPLOY, E_w_PLATFORM_DEPLOY, S_w_SERVER_START, E_w_SERVER_START, S_w_PLATFORM_DELETE, E_w_PLATFORM_DELETE, S_w_SERVER_DEPLOY, E_w_SERVER_DEPLOY, S_w_DISK_DETACH, E_w_DISK_DETACH, S_w_NIC_DETACH, E_w_NIC_DETACH, S_w_SERVER_STOP, E_w_SERVER_STOP, S_w_SNAPSHOT_CREATE, E_w_SNAPSHOT_CREATE, S_w_NIC_ATTACH, E_w_NIC_ATTACH, S_w_SNAPSHOT_DELETE, E_w_SNAPSHOT_DELETE, S_w_DISK_ATTACH, E_w_DISK_ATTACH, S_w_SERVER_DELETE, E_w_SERVER_DELETE, F_ordinal_w_SERVER_START, F_ordinal_w_PLATFORM_DEPLOY, F_ordinal_w_PLATFORM_DELETE, F_ordinal_w_SERVER_DEPLOY, F_ordinal_w_DISK_DETACH, F_ordinal_w_NIC_DETACH, F_ordinal_w_SERVER_STOP, F_ordinal_w_SNAPSHOT_CREATE, F_ordinal_w_NIC_ATTACH, F_ordinal_w_SNAPSHOT_DELETE, F_ordinal_w_DISK_ATTACH, F_ordinal_w_SERVER_DELETE⟩ := hp'
  have pre0 : ∀ t, Steps p.tables e below (s₁.setTop (mkF m 0 #[.val (.int p0), .unset, .unset] [])) t → Steps p.tables e below (s₁.setTop (entryFrame m #[(.int p0)] maxLocals)) t := fun t k => castTop (ef_0_0 m p0) k
  obtain ⟨_, _, ⟨T1, L1, k1, n1⟩, -, X1, ⟨Lc1, hQ1, l1, y1, z1⟩, st1⟩ := Jvm.LawKit.callS X0 hx (y := y0) hown (mvT hZ (hw _ (List.mem_of_getElem? (i := 1) rfl))) (mvT hZ (hw _ (List.mem_of_getElem? (i := 2) rfl))) (mvT hZ (hw _ (List.mem_of_getElem? (i := 3) rfl))) (mvT hZ (hw _ (List.mem_of_getElem? (i := 4) rfl))) (by decide) (backOf (W := 0) (rm25 l Z a0 hw [] w_PLATFORM_DEPLOY w_SERVER_START w_PLATFORM_DELETE w_SERVER_DEPLOY w_DISK_DETACH w_NIC_DETACH w_SERVER_STOP w_SNAPSHOT_CREATE w_NIC_ATTACH w_SNAPSHOT_DELETE w_DISK_ATTACH w_SERVER_DELETE hp ((p0 &&& (2147483647 : Int32)) % (12 : Int32)) h0 n0 O0 hc1 hc2 hc3 hc4 hc5 hc6 hc7 hc8) hZ (hw _ (List.mem_of_getElem? (i := 4) rfl)) (hw _ (List.mem_of_getElem? (i := 3) rfl)) (by decide) (by decide)) (g := (mkF m 9 #[.val (.int p0), .val (.int ((p0 &&& (2147483647 : Int32)) % (12 : Int32))), .unset] [(.int ((p0 &&& (2147483647 : Int32)) % (12 : Int32)))])) rfl (by rw [hml]; rfl) (argsL := [(.int ((p0 &&& (2147483647 : Int32)) % (12 : Int32)))]) (rest := []) (lenOf pd_0 rfl) rfl (by show 2 * 0 + _ ≤ _; exact Nat.le_of_eq rfl) (hb hby at_9) (fun _ _ => ⟨rfl, e0, (by decide : 0 + 0 ≤ _), (by decide : 0 + 0 ≤ _)⟩)
  dsimp only [Pt.U, Pt.locs, Pt.cells, Pt.slots] at X1 l1 y1 z1 st1 hQ1
  subst l1 y1 z1
  obtain ⟨rfl, Nq1, eq1⟩ := hQ1
  have N1 := Fr.app N0 Nq1
  obtain ⟨cq2, kq2, q2a, q2b, q2c⟩ := isOf hZ eq1 (E_w_DISK_DETACH.ext O0.2)
  obtain ⟨_, _, ⟨T2, L2, k2, n2⟩, -, X2, ⟨Lc2, hQ2, l2, y2, z2⟩, st2⟩ := X1.virtualBack hx (y := y1) (z := y1) hown (mvT hZ (hw _ (List.mem_of_getElem? (i := 8) rfl))) (mvT hZ (hw _ (List.mem_of_getElem? (i := 9) rfl))) (notFace_of_selects (args := #[]) (mvT hZ (hw _ (List.mem_of_getElem? (i := 11) rfl)))) (mvT hZ (hw _ (List.mem_of_getElem? (i := 11) rfl))) (mvT hZ (hw _ (List.mem_of_getElem? (i := 10) rfl))) (by decide) (backOf (W := 0) (rm26 l Z a0 hw [] w_PLATFORM_DEPLOY w_SERVER_START w_PLATFORM_DELETE w_SERVER_DEPLOY w_DISK_DETACH w_NIC_DETACH w_SERVER_STOP w_SNAPSHOT_CREATE w_NIC_ATTACH w_SNAPSHOT_DELETE w_DISK_ATTACH w_SERVER_DELETE hp h0 n0 O0) hZ (hw _ (List.mem_of_getElem? (i := 12) rfl)) (hw _ (List.mem_of_getElem? (i := 6) rfl)) (by decide) (by decide)) q2a q2c (g := (mkF m 14 #[.val (.int p0), .val (.int ((p0 &&& (2147483647 : Int32)) % (12 : Int32))), .val (.ref w_DISK_DETACH)] [(.ref w_DISK_DETACH)])) rfl (by rw [hml]; rfl) (Steps.refl _) (argsL := []) (rest := []) (lenOf pd_1 rfl) rfl (by show 2 * 0 + _ ≤ _; exact Nat.le_of_eq rfl) (hb hby at_14) (fun _ _ => ⟨rfl, eq1, (by decide : 0 + 0 ≤ _), (by decide : 0 + 0 ≤ _)⟩)
  dsimp only [Pt.U, Pt.locs, Pt.cells, Pt.slots] at X2 l2 y2 z2 st2 hQ2
  subst l2 y2 z2
  obtain ⟨rfl, Nq2, eq2⟩ := hQ2
  have N2 := Fr.app N1 Nq2
  obtain ⟨_, _, ⟨T3, L3, k3, n3⟩, -, X3, ⟨Lc3, hQ3, l3, y3, z3⟩, st3⟩ := Jvm.LawKit.callS X2 hx (y := y2) hown (mvT hZ (hw _ (List.mem_of_getElem? (i := 14) rfl))) (mvT hZ (hw _ (List.mem_of_getElem? (i := 15) rfl))) (mvT hZ (hw _ (List.mem_of_getElem? (i := 3) rfl))) (mvT hZ (hw _ (List.mem_of_getElem? (i := 16) rfl))) (by decide) (backOf (W := 1) (rm11 l Z a0 hw [] w_PLATFORM_DEPLOY w_SERVER_START w_PLATFORM_DELETE w_SERVER_DEPLOY w_DISK_DETACH w_NIC_DETACH w_SERVER_STOP w_SNAPSHOT_CREATE w_NIC_ATTACH w_SNAPSHOT_DELETE w_DISK_ATTACH w_SERVER_DELETE hp ((p0 &&& (2147483647 : Int32)) % (12 : Int32)) h0 n0 O0 hc1 hc2) hZ (hw _ (List.mem_of_getElem? (i := 16) rfl)) (hw _ (List.mem_of_getElem? (i := 3) rfl)) (by decide) (by decide)) (g := (mkF m 18 #[.val (.int p0), .val (.int ((p0 &&& (2147483647 : Int32)) % (12 : Int32))), .val (.ref w_DISK_DETACH)] [(.int ((p0 &&& (2147483647 : Int32)) % (12 : Int32))), (.int (0 : Int32))])) rfl (by rw [hml]; rfl) (argsL := [(.int ((p0 &&& (2147483647 : Int32)) % (12 : Int32)))]) (rest := [(.int (0 : Int32))]) (lenOf pd_2 rfl) rfl (by show 2 * 0 + _ ≤ _; exact Nat.le_of_eq rfl) (hb hby at_18) (fun _ _ => ⟨rfl, eq2, (by decide : 0 + 0 ≤ _), (by decide : 0 + 0 ≤ _)⟩)
  dsimp only [Pt.U, Pt.locs, Pt.cells, Pt.slots] at X3 l3 y3 z3 st3 hQ3
  subst l3 y3 z3
  obtain ⟨rfl, Nq3, eq3⟩ := hQ3
  have N3 := Fr.app N2 Nq3
  obtain ⟨fs, hr, hrun, hended, hW, hsame⟩ := X3.leave (v := some (.int (1 : Int32))) (fun h => by rw [Bd.returns] at h; cases h)
  refine ⟨_, _, pre0 _ ?_, hrun, hended, _, _, rfl, ?_, ⟨_, rfl⟩, hW, hsame.mono (by decide) (by decide)⟩
  · show Sp p e below s₁ (mkF m 0 #[.val (.int p0), .unset, .unset] []) _
    refine XS.iloadN X0.here hx rfl (hb hby at_0) rfl ?_
    show Sp p e below s₁ (mkF m 1 #[.val (.int p0), .unset, .unset] [(.int p0)]) _
    refine X0.ldcI hx hown (mvT hZ (hw _ (List.mem_of_getElem? (i := 0) rfl))) rfl (hb hby at_1) ?_
    show Sp p e below s₁ (mkF m 3 #[.val (.int p0), .unset, .unset] [(.int (2147483647 : Int32)), (.int p0)]) _
    refine XS.iand X0.here hx rfl (hb hby at_3) rfl ?_
    show Sp p e below s₁ (mkF m 4 #[.val (.int p0), .unset, .unset] [(.int (p0 &&& (2147483647 : Int32)))]) _
    refine XS.bipush X0.here hx rfl (hb hby at_4) ?_
    show Sp p e below s₁ (mkF m 6 #[.val (.int p0), .unset, .unset] [(.int (12 : Int32)), (.int (p0 &&& (2147483647 : Int32)))]) _
    refine iremM X0 hx rfl (hb hby at_6) rfl (by decide) ?_
    show Sp p e below s₁ (mkF m 7 #[.val (.int p0), .unset, .unset] [(.int ((p0 &&& (2147483647 : Int32)) % (12 : Int32)))]) _
    refine XS.istoreN X0.here hx rfl (hb hby at_7) rfl (l' := #[.val (.int p0), .val (.int ((p0 &&& (2147483647 : Int32)) % (12 : Int32))), .unset]) rfl ?_
    show Sp p e below s₁ (mkF m 8 #[.val (.int p0), .val (.int ((p0 &&& (2147483647 : Int32)) % (12 : Int32))), .unset] []) _
    refine XS.iloadN X0.here hx rfl (hb hby at_8) rfl ?_
    show Sp p e below s₁ (mkF m 9 #[.val (.int p0), .val (.int ((p0 &&& (2147483647 : Int32)) % (12 : Int32))), .unset] [(.int ((p0 &&& (2147483647 : Int32)) % (12 : Int32)))]) _
    refine st1 _ ?_
    show Sp p e below T1 (mkF m 12 #[.val (.int p0), .val (.int ((p0 &&& (2147483647 : Int32)) % (12 : Int32))), .unset] [(.ref w_DISK_DETACH)]) _
    refine XS.astoreN X1.here hx rfl (hb hby at_12) rfl rfl (l' := #[.val (.int p0), .val (.int ((p0 &&& (2147483647 : Int32)) % (12 : Int32))), .val (.ref w_DISK_DETACH)]) rfl ?_
    show Sp p e below T1 (mkF m 13 #[.val (.int p0), .val (.int ((p0 &&& (2147483647 : Int32)) % (12 : Int32))), .val (.ref w_DISK_DETACH)] []) _
    refine XS.aloadN X1.here hx rfl (hb hby at_13) rfl rfl ?_
    show Sp p e below T1 (mkF m 14 #[.val (.int p0), .val (.int ((p0 &&& (2147483647 : Int32)) % (12 : Int32))), .val (.ref w_DISK_DETACH)] [(.ref w_DISK_DETACH)]) _
    refine st2.trans ?_
    show Sp p e below T2 (mkF m 17 #[.val (.int p0), .val (.int ((p0 &&& (2147483647 : Int32)) % (12 : Int32))), .val (.ref w_DISK_DETACH)] [(.int (0 : Int32))]) _
    refine XS.iloadN X2.here hx rfl (hb hby at_17) rfl ?_
    show Sp p e below T2 (mkF m 18 #[.val (.int p0), .val (.int ((p0 &&& (2147483647 : Int32)) % (12 : Int32))), .val (.ref w_DISK_DETACH)] [(.int ((p0 &&& (2147483647 : Int32)) % (12 : Int32))), (.int (0 : Int32))]) _
    refine st3 _ ?_
    show Sp p e below T3 (mkF m 21 #[.val (.int p0), .val (.int ((p0 &&& (2147483647 : Int32)) % (12 : Int32))), .val (.ref w_DISK_DETACH)] [(.int (0 : Int32)), (.int (0 : Int32))]) _
    refine XS.icmpNo X3.here hx rfl (hb hby at_21) rfl (teq (by decide : (0 : Int32) = (0 : Int32))).2 ?_
    show Sp p e below T3 (mkF m 24 #[.val (.int p0), .val (.int ((p0 &&& (2147483647 : Int32)) % (12 : Int32))), .val (.ref w_DISK_DETACH)] []) _
    refine XS.iconst X3.here hx rfl (hb hby at_24) ?_
    show Sp p e below T3 (mkF m 25 #[.val (.int p0), .val (.int ((p0 &&& (2147483647 : Int32)) % (12 : Int32))), .val (.ref w_DISK_DETACH)] [(.int (1 : Int32))]) _
    refine XS.goto X3.here hx rfl (pc0 := 25) (pc' := 29) rfl (hb hby at_25) (by decide) (by decide) ?_
    show Sp p e below T3 (mkF m 29 #[.val (.int p0), .val (.int ((p0 &&& (2147483647 : Int32)) % (12 : Int32))), .val (.ref w_DISK_DETACH)] [(.int (1 : Int32))]) _
    exact retN X3 hx (t := .boolean) Bd.returns (by simp) (hb hby at_29) hr
  · skip
    exact ⟨rfl, N3⟩
theorem d1_73 : decode method_2_code 73 = .ok (.iload_n 0, 1) := by decide +kernel
theorem d1_74 : decode method_2_code 74 = .ok (.bipush 8, 2) := by decide +kernel
theorem d1_76 : decode method_2_code 76 = .ok (.if_icmp .ne 7, 3) := by decide +kernel
theorem d1_79 : decode method_2_code 79 = .ok (.getstatic 34, 3) := by decide +kernel
theorem d1_82 : decode method_2_code 82 = .ok (.areturn, 1) := by decide +kernel
def Q28 (Z : State) (w_PLATFORM_DEPLOY : Addr) (w_SERVER_START : Addr) (w_PLATFORM_DELETE : Addr) (w_SERVER_DEPLOY : Addr) (w_DISK_DETACH : Addr) (w_NIC_DETACH : Addr) (w_SERVER_STOP : Addr) (w_SNAPSHOT_CREATE : Addr) (w_NIC_ATTACH : Addr) (w_SNAPSHOT_DELETE : Addr) (w_DISK_ATTACH : Addr) (w_SERVER_DELETE : Addr) (p1 : Int32) (h0 : Heap) (n0 : Nat) (v : Option Value) (h : Heap) (L : List Loc) : Prop := v = some (.ref w_SNAPSHOT_CREATE) ∧ Fr n0 L ∧ h = h0
set_option maxRecDepth 65536 in
set_option maxHeartbeats 40000000 in
theorem rm28 (l : Launch) (Z : State) (a0 : Array Value) (hw : ∀ d ∈ tables_1, d.before a0 Z = true) (ws : List Jvm.Cond) (w_PLATFORM_DEPLOY w_SERVER_START w_PLATFORM_DELETE w_SERVER_DEPLOY w_DISK_DETACH w_NIC_DETACH w_SERVER_STOP w_SNAPSHOT_CREATE w_NIC_ATTACH w_SNAPSHOT_DELETE w_DISK_ATTACH w_SERVER_DELETE : Addr) (hp : Perm Z w_PLATFORM_DEPLOY w_SERVER_START w_PLATFORM_DELETE w_SERVER_DEPLOY w_DISK_DETACH w_NIC_DETACH w_SERVER_STOP w_SNAPSHOT_CREATE w_NIC_ATTACH w_SNAPSHOT_DELETE w_DISK_ATTACH w_SERVER_DELETE) (p1 : Int32) (h0 : Heap) (n0 : Nat) (O0 : Old Z n0 h0) (hc1 : ¬ (p1 = (0 : Int32))) (hc2 : ¬ (p1 = (1 : Int32))) (hc3 : ¬ (p1 = (2 : Int32))) (hc4 : ¬ (p1 = (3 : Int32))) (hc5 : ¬ (p1 = (4 : Int32))) (hc6 : ¬ (p1 = (5 : Int32))) (hc7 : ¬ (p1 = (6 : Int32))) (hc8 : ¬ (p1 = (7 : Int32))) (hc9 : p1 = (8 : Int32)) :
    MetFree l y0 (head1 (Jvm.Cond.code y0 method_2_code 1 (some (.object "com/example/ratebook/ratebook/model/EventType")) :: ws) ({ frames := 0, cells := 0, slots := 0, locals := 0 } : Room)) (fun a U => a = #[(.int p1)] ∧ Z.Warmed39 U.vm ∧ U.heap = h0) (fun _ _ _ _ _ => True) (fun _ U o U' => ∃ v L, o = .returned v ∧ Q28 Z w_PLATFORM_DEPLOY w_SERVER_START w_PLATFORM_DELETE w_SERVER_DEPLOY w_DISK_DETACH w_NIC_DETACH w_SERVER_STOP w_SNAPSHOT_CREATE w_NIC_ATTACH w_SNAPSHOT_DELETE w_DISK_ATTACH w_SERVER_DELETE p1 h0 n0 v U'.heap L ∧ FrameEnd U o U' L ({ frames := 0, cells := 0, slots := 0, locals := 0 } : Room).cells ({ frames := 0, cells := 0, slots := 0, locals := 0 } : Room).slots) := by
  refine MetFree.of_bodySF (plainFor_of_name pn_1) hisR ?_
  intro p e s m args below meth c s₁ Bd hml0 hP hK
  obtain ⟨rfl, hZ, hh⟩ := hP
  have hx := Bd.exec
  have hby := Bd.bytes
  have hml : c.maxLocals = 1 := hml0
  have hown : s.vm.findClass "com/example/ratebook/ratebook/model/EventTypeIsPlatformEventPinLaw" = some m.cls := findClass_of_methodNamed Bd.named
  have hnm := (name_of_methodNamed Bd.named Bd.method).1
  have X0 : Stand p l e ({ frames := 0, cells := 0, slots := 0, locals := 0 } : Room) s m #[(.int p1)] below meth c s₁ [] 0 0 := Stand.of_body Bd
  have e0 : s₁.heap = h0 := by rw [← hh, Bd.state]; rfl
  have N0 := Fr.nil n0
  have hp' := hp
  obtain ⟨S_w_PLATFORM_DEPLOY, E_w_PLATFORM_DEPLOY, S_w_SERVER_START, E_w_SERVER_START, S_w_PLATFORM_DELETE, E_w_PLATFORM_DELETE, S_w_SERVER_DEPLOY, E_w_SERVER_DEPLOY, S_w_DISK_DETACH, E_w_DISK_DETACH, S_w_NIC_DETACH, E_w_NIC_DETACH, S_w_SERVER_STOP, E_w_SERVER_STOP, S_w_SNAPSHOT_CREATE, E_w_SNAPSHOT_CREATE, S_w_NIC_ATTACH, E_w_NIC_ATTACH, S_w_SNAPSHOT_DELETE, E_w_SNAPSHOT_DELETE, S_w_DISK_ATTACH, E_w_DISK_ATTACH, S_w_SERVER_DELETE, E_w_SERVER_DELETE, F_ordinal_w_SERVER_START, F_ordinal_w_PLATFORM_DEPLOY, F_ordinal_w_PLATFORM_DELETE, F_ordinal_w_SERVER_DEPLOY, F_ordinal_w_DISK_DETACH, F_ordinal_w_NIC_DETACH, F_ordinal_w_SERVER_STOP, F_ordinal_w_SNAPSHOT_CREATE, F_ordinal_w_NIC_ATTACH, F_ordinal_w_SNAPSHOT_DELETE, F_ordinal_w_DISK_ATTACH, F_ordinal_w_SERVER_DELETE⟩ := hp'
  have pre0 : ∀ t, Steps p.tables e below (s₁.setTop (mkF m 0 #[.val (.int p1)] [])) t → Steps p.tables e below (s₁.setTop (entryFrame m #[(.int p1)] 1)) t := fun t k => castTop (ef_1_0 m p1) k
  obtain ⟨T1, X1, e1, st1⟩ := getS2 X0 hx hZ hown (host := "") (Or.inl (hw _ (List.mem_of_getElem? (i := 29) rfl))) Via.refl e0 (S_w_SNAPSHOT_CREATE.ext O0.2) (g := (mkF m 79 #[.val (.int p1)] [])) rfl (hb hby d1_79)
  obtain ⟨fs, hr, hrun, hended, hW, hsame⟩ := X1.leave (v := some (.ref w_SNAPSHOT_CREATE)) (fun h => by rw [Bd.returns] at h; cases h)
  refine ⟨_, _, pre0 _ ?_, hrun, hended, _, _, rfl, ?_, ⟨_, rfl⟩, hW, hsame.mono (by decide) (by decide)⟩
  · show Sp p e below s₁ (mkF m 0 #[.val (.int p1)] []) _
    refine XS.iloadN X0.here hx rfl (hb hby d1_0) rfl ?_
    show Sp p e below s₁ (mkF m 1 #[.val (.int p1)] [(.int p1)]) _
    refine XS.ifYes X0.here hx rfl (pc0 := 1) (pc' := 8) rfl (hb hby d1_1) rfl ((if0 _ _).trans (feq hc1).2) (by decide) (by decide) ?_
    show Sp p e below s₁ (mkF m 8 #[.val (.int p1)] []) _
    refine XS.iloadN X0.here hx rfl (hb hby d1_8) rfl ?_
    show Sp p e below s₁ (mkF m 9 #[.val (.int p1)] [(.int p1)]) _
    refine XS.iconst X0.here hx rfl (hb hby d1_9) ?_
    show Sp p e below s₁ (mkF m 10 #[.val (.int p1)] [(.int (1 : Int32)), (.int p1)]) _
    refine XS.icmpYes X0.here hx rfl (pc0 := 10) (pc' := 17) rfl (hb hby d1_10) rfl (feq hc2).2 (by decide) (by decide) ?_
    show Sp p e below s₁ (mkF m 17 #[.val (.int p1)] []) _
    refine XS.iloadN X0.here hx rfl (hb hby d1_17) rfl ?_
    show Sp p e below s₁ (mkF m 18 #[.val (.int p1)] [(.int p1)]) _
    refine XS.iconst X0.here hx rfl (hb hby d1_18) ?_
    show Sp p e below s₁ (mkF m 19 #[.val (.int p1)] [(.int (2 : Int32)), (.int p1)]) _
    refine XS.icmpYes X0.here hx rfl (pc0 := 19) (pc' := 26) rfl (hb hby d1_19) rfl (feq hc3).2 (by decide) (by decide) ?_
    show Sp p e below s₁ (mkF m 26 #[.val (.int p1)] []) _
    refine XS.iloadN X0.here hx rfl (hb hby d1_26) rfl ?_
    show Sp p e below s₁ (mkF m 27 #[.val (.int p1)] [(.int p1)]) _
    refine XS.iconst X0.here hx rfl (hb hby d1_27) ?_
    show Sp p e below s₁ (mkF m 28 #[.val (.int p1)] [(.int (3 : Int32)), (.int p1)]) _
    refine XS.icmpYes X0.here hx rfl (pc0 := 28) (pc' := 35) rfl (hb hby d1_28) rfl (feq hc4).2 (by decide) (by decide) ?_
    show Sp p e below s₁ (mkF m 35 #[.val (.int p1)] []) _
    refine XS.iloadN X0.here hx rfl (hb hby d1_35) rfl ?_
    show Sp p e below s₁ (mkF m 36 #[.val (.int p1)] [(.int p1)]) _
    refine XS.iconst X0.here hx rfl (hb hby d1_36) ?_
    show Sp p e below s₁ (mkF m 37 #[.val (.int p1)] [(.int (4 : Int32)), (.int p1)]) _
    refine XS.icmpYes X0.here hx rfl (pc0 := 37) (pc' := 44) rfl (hb hby d1_37) rfl (feq hc5).2 (by decide) (by decide) ?_
    show Sp p e below s₁ (mkF m 44 #[.val (.int p1)] []) _
    refine XS.iloadN X0.here hx rfl (hb hby d1_44) rfl ?_
    show Sp p e below s₁ (mkF m 45 #[.val (.int p1)] [(.int p1)]) _
    refine XS.iconst X0.here hx rfl (hb hby d1_45) ?_
    show Sp p e below s₁ (mkF m 46 #[.val (.int p1)] [(.int (5 : Int32)), (.int p1)]) _
    refine XS.icmpYes X0.here hx rfl (pc0 := 46) (pc' := 53) rfl (hb hby d1_46) rfl (feq hc6).2 (by decide) (by decide) ?_
    show Sp p e below s₁ (mkF m 53 #[.val (.int p1)] []) _
    refine XS.iloadN X0.here hx rfl (hb hby d1_53) rfl ?_
    show Sp p e below s₁ (mkF m 54 #[.val (.int p1)] [(.int p1)]) _
    refine XS.bipush X0.here hx rfl (hb hby d1_54) ?_
    show Sp p e below s₁ (mkF m 56 #[.val (.int p1)] [(.int (6 : Int32)), (.int p1)]) _
    refine XS.icmpYes X0.here hx rfl (pc0 := 56) (pc' := 63) rfl (hb hby d1_56) rfl (feq hc7).2 (by decide) (by decide) ?_
    show Sp p e below s₁ (mkF m 63 #[.val (.int p1)] []) _
    refine XS.iloadN X0.here hx rfl (hb hby d1_63) rfl ?_
    show Sp p e below s₁ (mkF m 64 #[.val (.int p1)] [(.int p1)]) _
    refine XS.bipush X0.here hx rfl (hb hby d1_64) ?_
    show Sp p e below s₁ (mkF m 66 #[.val (.int p1)] [(.int (7 : Int32)), (.int p1)]) _
    refine XS.icmpYes X0.here hx rfl (pc0 := 66) (pc' := 73) rfl (hb hby d1_66) rfl (feq hc8).2 (by decide) (by decide) ?_
    show Sp p e below s₁ (mkF m 73 #[.val (.int p1)] []) _
    refine XS.iloadN X0.here hx rfl (hb hby d1_73) rfl ?_
    show Sp p e below s₁ (mkF m 74 #[.val (.int p1)] [(.int p1)]) _
    refine XS.bipush X0.here hx rfl (hb hby d1_74) ?_
    show Sp p e below s₁ (mkF m 76 #[.val (.int p1)] [(.int (8 : Int32)), (.int p1)]) _
    refine XS.icmpNo X0.here hx rfl (hb hby d1_76) rfl (teq hc9).2 ?_
    show Sp p e below s₁ (mkF m 79 #[.val (.int p1)] []) _
    refine st1 _ ?_
    show Sp p e below T1 (mkF m 82 #[.val (.int p1)] [(.ref w_SNAPSHOT_CREATE)]) _
    jvm_step X1.here [X1.here.top, hx, (hb hby d1_82), X1.method', Bd.returns, Value.isRef, FieldType.isReference]
    first | (intro acts; rw [hr _ acts rfl rfl rfl]) | rw [hr _ _ rfl rfl rfl]
    exact Steps.refl _
  · show Q28 Z w_PLATFORM_DEPLOY w_SERVER_START w_PLATFORM_DELETE w_SERVER_DEPLOY w_DISK_DETACH w_NIC_DETACH w_SERVER_STOP w_SNAPSHOT_CREATE w_NIC_ATTACH w_SNAPSHOT_DELETE w_DISK_ATTACH w_SERVER_DELETE p1 h0 n0 _ T1.heap _
    rw [e1]
    exact ⟨rfl, N0, rfl⟩
def Q29 (Z : State) (w_PLATFORM_DEPLOY : Addr) (w_SERVER_START : Addr) (w_PLATFORM_DELETE : Addr) (w_SERVER_DEPLOY : Addr) (w_DISK_DETACH : Addr) (w_NIC_DETACH : Addr) (w_SERVER_STOP : Addr) (w_SNAPSHOT_CREATE : Addr) (w_NIC_ATTACH : Addr) (w_SNAPSHOT_DELETE : Addr) (w_DISK_ATTACH : Addr) (w_SERVER_DELETE : Addr) (h0 : Heap) (n0 : Nat) (v : Option Value) (h : Heap) (L : List Loc) : Prop := v = some (.int (0 : Int32)) ∧ Fr n0 L ∧ h = h0
set_option maxRecDepth 65536 in
set_option maxHeartbeats 40000000 in
theorem rm29 (l : Launch) (Z : State) (a0 : Array Value) (hw : ∀ d ∈ tables_1, d.before a0 Z = true) (ws : List Jvm.Cond) (w_PLATFORM_DEPLOY w_SERVER_START w_PLATFORM_DELETE w_SERVER_DEPLOY w_DISK_DETACH w_NIC_DETACH w_SERVER_STOP w_SNAPSHOT_CREATE w_NIC_ATTACH w_SNAPSHOT_DELETE w_DISK_ATTACH w_SERVER_DELETE : Addr) (hp : Perm Z w_PLATFORM_DEPLOY w_SERVER_START w_PLATFORM_DELETE w_SERVER_DEPLOY w_DISK_DETACH w_NIC_DETACH w_SERVER_STOP w_SNAPSHOT_CREATE w_NIC_ATTACH w_SNAPSHOT_DELETE w_DISK_ATTACH w_SERVER_DELETE) (h0 : Heap) (n0 : Nat) (O0 : Old Z n0 h0) :
    MetFree l y1 (head1 (Jvm.Cond.code y1 prog_20_method_5_code 1 (some .boolean) :: ws) ({ frames := 0, cells := 0, slots := 0, locals := 0 } : Room)) (fun a U => a = #[(.ref w_SNAPSHOT_CREATE)] ∧ Z.Warmed39 U.vm ∧ U.heap = h0) (fun _ _ _ _ _ => True) (fun _ U o U' => ∃ v L, o = .returned v ∧ Q29 Z w_PLATFORM_DEPLOY w_SERVER_START w_PLATFORM_DELETE w_SERVER_DEPLOY w_DISK_DETACH w_NIC_DETACH w_SERVER_STOP w_SNAPSHOT_CREATE w_NIC_ATTACH w_SNAPSHOT_DELETE w_DISK_ATTACH w_SERVER_DELETE  h0 n0 v U'.heap L ∧ FrameEnd U o U' L ({ frames := 0, cells := 0, slots := 0, locals := 0 } : Room).cells ({ frames := 0, cells := 0, slots := 0, locals := 0 } : Room).slots) := by
  refine MetFree.of_bodySF (plainFor_of_name pn_2) hisR ?_
  intro p e s m args below meth c s₁ Bd hml0 hP hK
  obtain ⟨rfl, hZ, hh⟩ := hP
  have hx := Bd.exec
  have hby := Bd.bytes
  have hml : c.maxLocals = 1 := hml0
  have hown : s.vm.findClass "com/example/ratebook/ratebook/model/EventType" = some m.cls := findClass_of_methodNamed Bd.named
  have hnm := (name_of_methodNamed Bd.named Bd.method).1
  have X0 : Stand p l e ({ frames := 0, cells := 0, slots := 0, locals := 0 } : Room) s m #[(.ref w_SNAPSHOT_CREATE)] below meth c s₁ [] 0 0 := Stand.of_body Bd
  have e0 : s₁.heap = h0 := by rw [← hh, Bd.state]; rfl
  have N0 := Fr.nil n0
  have hp' := hp
  obtain ⟨S_w_PLATFORM_DEPLOY, E_w_PLATFORM_DEPLOY, S_w_SERVER_START, E_w_SERVER_START, S_w_PLATFORM_DELETE, E_w_PLATFORM_DELETE, S_w_SERVER_DEPLOY, E_w_SERVER_DEPLOY, S_w_DISK_DETACH, E_w_DISK_DETACH, S_w_NIC_DETACH, E_w_NIC_DETACH, S_w_SERVER_STOP, E_w_SERVER_STOP, S_w_SNAPSHOT_CREATE, E_w_SNAPSHOT_CREATE, S_w_NIC_ATTACH, E_w_NIC_ATTACH, S_w_SNAPSHOT_DELETE, E_w_SNAPSHOT_DELETE, S_w_DISK_ATTACH, E_w_DISK_ATTACH, S_w_SERVER_DELETE, E_w_SERVER_DELETE, F_ordinal_w_SERVER_START, F_ordinal_w_PLATFORM_DEPLOY, F_ordinal_w_PLATFORM_DELETE, F_ordinal_w_SERVER_DEPLOY, F_ordinal_w_DISK_DETACH, F_ordinal_w_NIC_DETACH, F_ordinal_w_SERVER_STOP, F_ordinal_w_SNAPSHOT_CREATE, F_ordinal_w_NIC_ATTACH, F_ordinal_w_SNAPSHOT_DELETE, F_ordinal_w_DISK_ATTACH, F_ordinal_w_SERVER_DELETE⟩ := hp'
  have pre0 : ∀ t, Steps p.tables e below (s₁.setTop (mkF m 0 #[.val (.ref w_SNAPSHOT_CREATE)] [])) t → Steps p.tables e below (s₁.setTop (entryFrame m #[(.ref w_SNAPSHOT_CREATE)] 1)) t := fun t k => castTop (ef_2_0 m w_SNAPSHOT_CREATE) k
  obtain ⟨T1, X1, e1, st1⟩ := getS2 X0 hx hZ hown (host := "") (Or.inl (hw _ (List.mem_of_getElem? (i := 13) rfl))) Via.refl e0 (S_w_PLATFORM_DEPLOY.ext O0.2) (g := (mkF m 1 #[.val (.ref w_SNAPSHOT_CREATE)] [(.ref w_SNAPSHOT_CREATE)])) rfl (hb hby d2_1)
  obtain ⟨T2, X2, e2, st2⟩ := getS2 X1 hx hZ hown (host := "") (Or.inl (hw _ (List.mem_of_getElem? (i := 19) rfl))) Via.refl e1 (S_w_PLATFORM_DELETE.ext O0.2) (g := (mkF m 8 #[.val (.ref w_SNAPSHOT_CREATE)] [(.ref w_SNAPSHOT_CREATE)])) rfl (hb hby d2_8)
  obtain ⟨fs, hr, hrun, hended, hW, hsame⟩ := X2.leave (v := some (.int (0 : Int32))) (fun h => by rw [Bd.returns] at h; cases h)
  refine ⟨_, _, pre0 _ ?_, hrun, hended, _, _, rfl, ?_, ⟨_, rfl⟩, hW, hsame.mono (by decide) (by decide)⟩
  · show Sp p e below s₁ (mkF m 0 #[.val (.ref w_SNAPSHOT_CREATE)] []) _
    refine XS.aloadN X0.here hx rfl (hb hby d2_0) rfl rfl ?_
    show Sp p e below s₁ (mkF m 1 #[.val (.ref w_SNAPSHOT_CREATE)] [(.ref w_SNAPSHOT_CREATE)]) _
    refine st1 _ ?_
    show Sp p e below T1 (mkF m 4 #[.val (.ref w_SNAPSHOT_CREATE)] [(.ref w_PLATFORM_DEPLOY), (.ref w_SNAPSHOT_CREATE)]) _
    refine Jvm.RoadKit.acmp (g := (mkF m 4 #[.val (.ref w_SNAPSHOT_CREATE)] [(.ref w_PLATFORM_DEPLOY), (.ref w_SNAPSHOT_CREATE)])) X1 hx rfl rfl rfl (pc0 := 4) (pc' := 7) (same := false) rfl (hb hby d2_4) rfl (decide_eq_false fun q => (Ne.symm (ne_w_PLATFORM_DEPLOY_w_SNAPSHOT_CREATE hp)) (Value.ref.inj q)) (by decide) (by decide) ?_
    show Sp p e below T1 (mkF m 7 #[.val (.ref w_SNAPSHOT_CREATE)] []) _
    refine XS.aloadN X1.here hx rfl (hb hby d2_7) rfl rfl ?_
    show Sp p e below T1 (mkF m 8 #[.val (.ref w_SNAPSHOT_CREATE)] [(.ref w_SNAPSHOT_CREATE)]) _
    refine st2 _ ?_
    show Sp p e below T2 (mkF m 11 #[.val (.ref w_SNAPSHOT_CREATE)] [(.ref w_PLATFORM_DELETE), (.ref w_SNAPSHOT_CREATE)]) _
    refine Jvm.RoadKit.acmp (g := (mkF m 11 #[.val (.ref w_SNAPSHOT_CREATE)] [(.ref w_PLATFORM_DELETE), (.ref w_SNAPSHOT_CREATE)])) X2 hx rfl rfl rfl (pc0 := 11) (pc' := 18) (same := false) rfl (hb hby d2_11) rfl (decide_eq_false fun q => (Ne.symm (ne_w_PLATFORM_DELETE_w_SNAPSHOT_CREATE hp)) (Value.ref.inj q)) (by decide) (by decide) ?_
    show Sp p e below T2 (mkF m 18 #[.val (.ref w_SNAPSHOT_CREATE)] []) _
    refine XS.iconst X2.here hx rfl (hb hby d2_18) ?_
    show Sp p e below T2 (mkF m 19 #[.val (.ref w_SNAPSHOT_CREATE)] [(.int (0 : Int32))]) _
    exact retN X2 hx (t := .boolean) Bd.returns (by simp) (hb hby d2_19) hr
  · show Q29 Z w_PLATFORM_DEPLOY w_SERVER_START w_PLATFORM_DELETE w_SERVER_DEPLOY w_DISK_DETACH w_NIC_DETACH w_SERVER_STOP w_SNAPSHOT_CREATE w_NIC_ATTACH w_SNAPSHOT_DELETE w_DISK_ATTACH w_SERVER_DELETE  h0 n0 _ T2.heap _
    rw [e2]
    exact ⟨rfl, N0, rfl⟩
set_option maxRecDepth 65536 in
set_option maxHeartbeats 40000000 in
theorem rm30 (l : Launch) (Z : State) (a0 : Array Value) (hw : ∀ d ∈ tables_1, d.before a0 Z = true) (ws : List Jvm.Cond) (w_PLATFORM_DEPLOY w_SERVER_START w_PLATFORM_DELETE w_SERVER_DEPLOY w_DISK_DETACH w_NIC_DETACH w_SERVER_STOP w_SNAPSHOT_CREATE w_NIC_ATTACH w_SNAPSHOT_DELETE w_DISK_ATTACH w_SERVER_DELETE : Addr) (hp : Perm Z w_PLATFORM_DEPLOY w_SERVER_START w_PLATFORM_DELETE w_SERVER_DEPLOY w_DISK_DETACH w_NIC_DETACH w_SERVER_STOP w_SNAPSHOT_CREATE w_NIC_ATTACH w_SNAPSHOT_DELETE w_DISK_ATTACH w_SERVER_DELETE) (p0 : Int32) (h0 : Heap) (n0 : Nat) (O0 : Old Z n0 h0) (hc1 : ¬ (((p0 &&& (2147483647 : Int32)) % (12 : Int32)) = (0 : Int32))) (hc2 : ¬ (((p0 &&& (2147483647 : Int32)) % (12 : Int32)) = (1 : Int32))) (hc3 : ¬ (((p0 &&& (2147483647 : Int32)) % (12 : Int32)) = (2 : Int32))) (hc4 : ¬ (((p0 &&& (2147483647 : Int32)) % (12 : Int32)) = (3 : Int32))) (hc5 : ¬ (((p0 &&& (2147483647 : Int32)) % (12 : Int32)) = (4 : Int32))) (hc6 : ¬ (((p0 &&& (2147483647 : Int32)) % (12 : Int32)) = (5 : Int32))) (hc7 : ¬ (((p0 &&& (2147483647 : Int32)) % (12 : Int32)) = (6 : Int32))) (hc8 : ¬ (((p0 &&& (2147483647 : Int32)) % (12 : Int32)) = (7 : Int32))) (hc9 : ((p0 &&& (2147483647 : Int32)) % (12 : Int32)) = (8 : Int32)) :
    MetFree l x (head1 (Jvm.Cond.code x code maxLocals ret :: ws) room_1) (fun a U => a = #[(.int p0)] ∧ Z.Warmed39 U.vm ∧ U.heap = h0) (fun _ _ _ _ _ => True) (fun _ U o U' => ∃ v L, o = .returned v ∧ (v = some (.int (1 : Int32)) ∧ Fr n0 L) ∧ FrameEnd U o U' L 0 0) := by
  refine MetFree.of_bodySF (plainFor_of_name pn_1) hisR ?_
  intro p e s m args below meth c s₁ Bd hml0 hP hK
  obtain ⟨rfl, hZ, hh⟩ := hP
  have hx := Bd.exec
  have hby := Bd.bytes
  have hml : c.maxLocals = 3 := hml0
  have hown : s.vm.findClass "com/example/ratebook/ratebook/model/EventTypeIsPlatformEventPinLaw" = some m.cls := findClass_of_methodNamed Bd.named
  have hnm := (name_of_methodNamed Bd.named Bd.method).1
  have X0 : Stand p l e room_1 s m #[(.int p0)] below meth c s₁ [] 0 0 := Stand.of_body Bd
  have e0 : s₁.heap = h0 := by rw [← hh, Bd.state]; rfl
  have N0 := Fr.nil n0
  have hp' := hp
  obtain ⟨S_w_PLATFORM_DEPLOY, E_w_PLATFORM_DEPLOY, S_w_SERVER_START, E_w_SERVER_START, S_w_PLATFORM_DELETE, E_w_PLATFORM_DELETE, S_w_SERVER_DEPLOY, E_w_SERVER_DEPLOY, S_w_DISK_DETACH, E_w_DISK_DETACH, S_w_NIC_DETACH, E_w_NIC_DETACH, S_w_SERVER_STOP, E_w_SERVER_STOP, S_w_SNAPSHOT_CREATE, E_w_SNAPSHOT_CREATE, S_w_NIC_ATTACH, E_w_NIC_ATTACH, S_w_SNAPSHOT_DELETE, E_w_SNAPSHOT_DELETE, S_w_DISK_ATTACH, E_w_DISK_ATTACH, S_w_SERVER_DELETE, E_w_SERVER_DELETE, F_ordinal_w_SERVER_START, F_ordinal_w_PLATFORM_DEPLOY, F_ordinal_w_PLATFORM_DELETE, F_ordinal_w_SERVER_DEPLOY, F_ordinal_w_DISK_DETACH, F_ordinal_w_NIC_DETACH, F_ordinal_w_SERVER_STOP, F_ordinal_w_SNAPSHOT_CREATE, F_ordinal_w_NIC_ATTACH, F_ordinal_w_SNAPSHOT_DELETE, F_ordinal_w_DISK_ATTACH, F_ordinal_w_SERVER_DELETE⟩ := hp'
  have pre0 : ∀ t, Steps p.tables e below (s₁.setTop (mkF m 0 #[.val (.int p0), .unset, .unset] [])) t → Steps p.tables e below (s₁.setTop (entryFrame m #[(.int p0)] maxLocals)) t := fun t k => castTop (ef_0_0 m p0) k
  obtain ⟨_, _, ⟨T1, L1, k1, n1⟩, -, X1, ⟨Lc1, hQ1, l1, y1, z1⟩, st1⟩ := Jvm.LawKit.callS X0 hx (y := y0) hown (mvT hZ (hw _ (List.mem_of_getElem? (i := 1) rfl))) (mvT hZ (hw _ (List.mem_of_getElem? (i := 2) rfl))) (mvT hZ (hw _ (List.mem_of_getElem? (i := 3) rfl))) (mvT hZ (hw _ (List.mem_of_getElem? (i := 4) rfl))) (by decide) (backOf (W := 0) (rm28 l Z a0 hw [] w_PLATFORM_DEPLOY w_SERVER_START w_PLATFORM_DELETE w_SERVER_DEPLOY w_DISK_DETACH w_NIC_DETACH w_SERVER_STOP w_SNAPSHOT_CREATE w_NIC_ATTACH w_SNAPSHOT_DELETE w_DISK_ATTACH w_SERVER_DELETE hp ((p0 &&& (2147483647 : Int32)) % (12 : Int32)) h0 n0 O0 hc1 hc2 hc3 hc4 hc5 hc6 hc7 hc8 hc9) hZ (hw _ (List.mem_of_getElem? (i := 4) rfl)) (hw _ (List.mem_of_getElem? (i := 3) rfl)) (by decide) (by decide)) (g := (mkF m 9 #[.val (.int p0), .val (.int ((p0 &&& (2147483647 : Int32)) % (12 : Int32))), .unset] [(.int ((p0 &&& (2147483647 : Int32)) % (12 : Int32)))])) rfl (by rw [hml]; rfl) (argsL := [(.int ((p0 &&& (2147483647 : Int32)) % (12 : Int32)))]) (rest := []) (lenOf pd_0 rfl) rfl (by show 2 * 0 + _ ≤ _; exact Nat.le_of_eq rfl) (hb hby at_9) (fun _ _ => ⟨rfl, e0, (by decide : 0 + 0 ≤ _), (by decide : 0 + 0 ≤ _)⟩)
  dsimp only [Pt.U, Pt.locs, Pt.cells, Pt.slots] at X1 l1 y1 z1 st1 hQ1
  subst l1 y1 z1
  obtain ⟨rfl, Nq1, eq1⟩ := hQ1
  have N1 := Fr.app N0 Nq1
  obtain ⟨cq2, kq2, q2a, q2b, q2c⟩ := isOf hZ eq1 (E_w_SNAPSHOT_CREATE.ext O0.2)
  obtain ⟨_, _, ⟨T2, L2, k2, n2⟩, -, X2, ⟨Lc2, hQ2, l2, y2, z2⟩, st2⟩ := X1.virtualBack hx (y := y1) (z := y1) hown (mvT hZ (hw _ (List.mem_of_getElem? (i := 8) rfl))) (mvT hZ (hw _ (List.mem_of_getElem? (i := 9) rfl))) (notFace_of_selects (args := #[]) (mvT hZ (hw _ (List.mem_of_getElem? (i := 11) rfl)))) (mvT hZ (hw _ (List.mem_of_getElem? (i := 11) rfl))) (mvT hZ (hw _ (List.mem_of_getElem? (i := 10) rfl))) (by decide) (backOf (W := 0) (rm29 l Z a0 hw [] w_PLATFORM_DEPLOY w_SERVER_START w_PLATFORM_DELETE w_SERVER_DEPLOY w_DISK_DETACH w_NIC_DETACH w_SERVER_STOP w_SNAPSHOT_CREATE w_NIC_ATTACH w_SNAPSHOT_DELETE w_DISK_ATTACH w_SERVER_DELETE hp h0 n0 O0) hZ (hw _ (List.mem_of_getElem? (i := 12) rfl)) (hw _ (List.mem_of_getElem? (i := 6) rfl)) (by decide) (by decide)) q2a q2c (g := (mkF m 14 #[.val (.int p0), .val (.int ((p0 &&& (2147483647 : Int32)) % (12 : Int32))), .val (.ref w_SNAPSHOT_CREATE)] [(.ref w_SNAPSHOT_CREATE)])) rfl (by rw [hml]; rfl) (Steps.refl _) (argsL := []) (rest := []) (lenOf pd_1 rfl) rfl (by show 2 * 0 + _ ≤ _; exact Nat.le_of_eq rfl) (hb hby at_14) (fun _ _ => ⟨rfl, eq1, (by decide : 0 + 0 ≤ _), (by decide : 0 + 0 ≤ _)⟩)
  dsimp only [Pt.U, Pt.locs, Pt.cells, Pt.slots] at X2 l2 y2 z2 st2 hQ2
  subst l2 y2 z2
  obtain ⟨rfl, Nq2, eq2⟩ := hQ2
  have N2 := Fr.app N1 Nq2
  obtain ⟨_, _, ⟨T3, L3, k3, n3⟩, -, X3, ⟨Lc3, hQ3, l3, y3, z3⟩, st3⟩ := Jvm.LawKit.callS X2 hx (y := y2) hown (mvT hZ (hw _ (List.mem_of_getElem? (i := 14) rfl))) (mvT hZ (hw _ (List.mem_of_getElem? (i := 15) rfl))) (mvT hZ (hw _ (List.mem_of_getElem? (i := 3) rfl))) (mvT hZ (hw _ (List.mem_of_getElem? (i := 16) rfl))) (by decide) (backOf (W := 1) (rm11 l Z a0 hw [] w_PLATFORM_DEPLOY w_SERVER_START w_PLATFORM_DELETE w_SERVER_DEPLOY w_DISK_DETACH w_NIC_DETACH w_SERVER_STOP w_SNAPSHOT_CREATE w_NIC_ATTACH w_SNAPSHOT_DELETE w_DISK_ATTACH w_SERVER_DELETE hp ((p0 &&& (2147483647 : Int32)) % (12 : Int32)) h0 n0 O0 hc1 hc2) hZ (hw _ (List.mem_of_getElem? (i := 16) rfl)) (hw _ (List.mem_of_getElem? (i := 3) rfl)) (by decide) (by decide)) (g := (mkF m 18 #[.val (.int p0), .val (.int ((p0 &&& (2147483647 : Int32)) % (12 : Int32))), .val (.ref w_SNAPSHOT_CREATE)] [(.int ((p0 &&& (2147483647 : Int32)) % (12 : Int32))), (.int (0 : Int32))])) rfl (by rw [hml]; rfl) (argsL := [(.int ((p0 &&& (2147483647 : Int32)) % (12 : Int32)))]) (rest := [(.int (0 : Int32))]) (lenOf pd_2 rfl) rfl (by show 2 * 0 + _ ≤ _; exact Nat.le_of_eq rfl) (hb hby at_18) (fun _ _ => ⟨rfl, eq2, (by decide : 0 + 0 ≤ _), (by decide : 0 + 0 ≤ _)⟩)
  dsimp only [Pt.U, Pt.locs, Pt.cells, Pt.slots] at X3 l3 y3 z3 st3 hQ3
  subst l3 y3 z3
  obtain ⟨rfl, Nq3, eq3⟩ := hQ3
  have N3 := Fr.app N2 Nq3
  obtain ⟨fs, hr, hrun, hended, hW, hsame⟩ := X3.leave (v := some (.int (1 : Int32))) (fun h => by rw [Bd.returns] at h; cases h)
  refine ⟨_, _, pre0 _ ?_, hrun, hended, _, _, rfl, ?_, ⟨_, rfl⟩, hW, hsame.mono (by decide) (by decide)⟩
  · show Sp p e below s₁ (mkF m 0 #[.val (.int p0), .unset, .unset] []) _
    refine XS.iloadN X0.here hx rfl (hb hby at_0) rfl ?_
    show Sp p e below s₁ (mkF m 1 #[.val (.int p0), .unset, .unset] [(.int p0)]) _
    refine X0.ldcI hx hown (mvT hZ (hw _ (List.mem_of_getElem? (i := 0) rfl))) rfl (hb hby at_1) ?_
    show Sp p e below s₁ (mkF m 3 #[.val (.int p0), .unset, .unset] [(.int (2147483647 : Int32)), (.int p0)]) _
    refine XS.iand X0.here hx rfl (hb hby at_3) rfl ?_
    show Sp p e below s₁ (mkF m 4 #[.val (.int p0), .unset, .unset] [(.int (p0 &&& (2147483647 : Int32)))]) _
    refine XS.bipush X0.here hx rfl (hb hby at_4) ?_
    show Sp p e below s₁ (mkF m 6 #[.val (.int p0), .unset, .unset] [(.int (12 : Int32)), (.int (p0 &&& (2147483647 : Int32)))]) _
    refine iremM X0 hx rfl (hb hby at_6) rfl (by decide) ?_
    show Sp p e below s₁ (mkF m 7 #[.val (.int p0), .unset, .unset] [(.int ((p0 &&& (2147483647 : Int32)) % (12 : Int32)))]) _
    refine XS.istoreN X0.here hx rfl (hb hby at_7) rfl (l' := #[.val (.int p0), .val (.int ((p0 &&& (2147483647 : Int32)) % (12 : Int32))), .unset]) rfl ?_
    show Sp p e below s₁ (mkF m 8 #[.val (.int p0), .val (.int ((p0 &&& (2147483647 : Int32)) % (12 : Int32))), .unset] []) _
    refine XS.iloadN X0.here hx rfl (hb hby at_8) rfl ?_
    show Sp p e below s₁ (mkF m 9 #[.val (.int p0), .val (.int ((p0 &&& (2147483647 : Int32)) % (12 : Int32))), .unset] [(.int ((p0 &&& (2147483647 : Int32)) % (12 : Int32)))]) _
    refine st1 _ ?_
    show Sp p e below T1 (mkF m 12 #[.val (.int p0), .val (.int ((p0 &&& (2147483647 : Int32)) % (12 : Int32))), .unset] [(.ref w_SNAPSHOT_CREATE)]) _
    refine XS.astoreN X1.here hx rfl (hb hby at_12) rfl rfl (l' := #[.val (.int p0), .val (.int ((p0 &&& (2147483647 : Int32)) % (12 : Int32))), .val (.ref w_SNAPSHOT_CREATE)]) rfl ?_
    show Sp p e below T1 (mkF m 13 #[.val (.int p0), .val (.int ((p0 &&& (2147483647 : Int32)) % (12 : Int32))), .val (.ref w_SNAPSHOT_CREATE)] []) _
    refine XS.aloadN X1.here hx rfl (hb hby at_13) rfl rfl ?_
    show Sp p e below T1 (mkF m 14 #[.val (.int p0), .val (.int ((p0 &&& (2147483647 : Int32)) % (12 : Int32))), .val (.ref w_SNAPSHOT_CREATE)] [(.ref w_SNAPSHOT_CREATE)]) _
    refine st2.trans ?_
    show Sp p e below T2 (mkF m 17 #[.val (.int p0), .val (.int ((p0 &&& (2147483647 : Int32)) % (12 : Int32))), .val (.ref w_SNAPSHOT_CREATE)] [(.int (0 : Int32))]) _
    refine XS.iloadN X2.here hx rfl (hb hby at_17) rfl ?_
    show Sp p e below T2 (mkF m 18 #[.val (.int p0), .val (.int ((p0 &&& (2147483647 : Int32)) % (12 : Int32))), .val (.ref w_SNAPSHOT_CREATE)] [(.int ((p0 &&& (2147483647 : Int32)) % (12 : Int32))), (.int (0 : Int32))]) _
    refine st3 _ ?_
    show Sp p e below T3 (mkF m 21 #[.val (.int p0), .val (.int ((p0 &&& (2147483647 : Int32)) % (12 : Int32))), .val (.ref w_SNAPSHOT_CREATE)] [(.int (0 : Int32)), (.int (0 : Int32))]) _
    refine XS.icmpNo X3.here hx rfl (hb hby at_21) rfl (teq (by decide : (0 : Int32) = (0 : Int32))).2 ?_
    show Sp p e below T3 (mkF m 24 #[.val (.int p0), .val (.int ((p0 &&& (2147483647 : Int32)) % (12 : Int32))), .val (.ref w_SNAPSHOT_CREATE)] []) _
    refine XS.iconst X3.here hx rfl (hb hby at_24) ?_
    show Sp p e below T3 (mkF m 25 #[.val (.int p0), .val (.int ((p0 &&& (2147483647 : Int32)) % (12 : Int32))), .val (.ref w_SNAPSHOT_CREATE)] [(.int (1 : Int32))]) _
    refine XS.goto X3.here hx rfl (pc0 := 25) (pc' := 29) rfl (hb hby at_25) (by decide) (by decide) ?_
    show Sp p e below T3 (mkF m 29 #[.val (.int p0), .val (.int ((p0 &&& (2147483647 : Int32)) % (12 : Int32))), .val (.ref w_SNAPSHOT_CREATE)] [(.int (1 : Int32))]) _
    exact retN X3 hx (t := .boolean) Bd.returns (by simp) (hb hby at_29) hr
  · skip
    exact ⟨rfl, N3⟩
theorem d1_83 : decode method_2_code 83 = .ok (.iload_n 0, 1) := by decide +kernel
theorem d1_84 : decode method_2_code 84 = .ok (.bipush 9, 2) := by decide +kernel
theorem d1_86 : decode method_2_code 86 = .ok (.if_icmp .ne 7, 3) := by decide +kernel
theorem d1_89 : decode method_2_code 89 = .ok (.getstatic 37, 3) := by decide +kernel
theorem d1_92 : decode method_2_code 92 = .ok (.areturn, 1) := by decide +kernel
def Q31 (Z : State) (w_PLATFORM_DEPLOY : Addr) (w_SERVER_START : Addr) (w_PLATFORM_DELETE : Addr) (w_SERVER_DEPLOY : Addr) (w_DISK_DETACH : Addr) (w_NIC_DETACH : Addr) (w_SERVER_STOP : Addr) (w_SNAPSHOT_CREATE : Addr) (w_NIC_ATTACH : Addr) (w_SNAPSHOT_DELETE : Addr) (w_DISK_ATTACH : Addr) (w_SERVER_DELETE : Addr) (p1 : Int32) (h0 : Heap) (n0 : Nat) (v : Option Value) (h : Heap) (L : List Loc) : Prop := v = some (.ref w_SNAPSHOT_DELETE) ∧ Fr n0 L ∧ h = h0
set_option maxRecDepth 65536 in
set_option maxHeartbeats 40000000 in
theorem rm31 (l : Launch) (Z : State) (a0 : Array Value) (hw : ∀ d ∈ tables_1, d.before a0 Z = true) (ws : List Jvm.Cond) (w_PLATFORM_DEPLOY w_SERVER_START w_PLATFORM_DELETE w_SERVER_DEPLOY w_DISK_DETACH w_NIC_DETACH w_SERVER_STOP w_SNAPSHOT_CREATE w_NIC_ATTACH w_SNAPSHOT_DELETE w_DISK_ATTACH w_SERVER_DELETE : Addr) (hp : Perm Z w_PLATFORM_DEPLOY w_SERVER_START w_PLATFORM_DELETE w_SERVER_DEPLOY w_DISK_DETACH w_NIC_DETACH w_SERVER_STOP w_SNAPSHOT_CREATE w_NIC_ATTACH w_SNAPSHOT_DELETE w_DISK_ATTACH w_SERVER_DELETE) (p1 : Int32) (h0 : Heap) (n0 : Nat) (O0 : Old Z n0 h0) (hc1 : ¬ (p1 = (0 : Int32))) (hc2 : ¬ (p1 = (1 : Int32))) (hc3 : ¬ (p1 = (2 : Int32))) (hc4 : ¬ (p1 = (3 : Int32))) (hc5 : ¬ (p1 = (4 : Int32))) (hc6 : ¬ (p1 = (5 : Int32))) (hc7 : ¬ (p1 = (6 : Int32))) (hc8 : ¬ (p1 = (7 : Int32))) (hc9 : ¬ (p1 = (8 : Int32))) (hc10 : p1 = (9 : Int32)) :
    MetFree l y0 (head1 (Jvm.Cond.code y0 method_2_code 1 (some (.object "com/example/ratebook/ratebook/model/EventType")) :: ws) ({ frames := 0, cells := 0, slots := 0, locals := 0 } : Room)) (fun a U => a = #[(.int p1)] ∧ Z.Warmed39 U.vm ∧ U.heap = h0) (fun _ _ _ _ _ => True) (fun _ U o U' => ∃ v L, o = .returned v ∧ Q31 Z w_PLATFORM_DEPLOY w_SERVER_START w_PLATFORM_DELETE w_SERVER_DEPLOY w_DISK_DETACH w_NIC_DETACH w_SERVER_STOP w_SNAPSHOT_CREATE w_NIC_ATTACH w_SNAPSHOT_DELETE w_DISK_ATTACH w_SERVER_DELETE p1 h0 n0 v U'.heap L ∧ FrameEnd U o U' L ({ frames := 0, cells := 0, slots := 0, locals := 0 } : Room).cells ({ frames := 0, cells := 0, slots := 0, locals := 0 } : Room).slots) := by
  refine MetFree.of_bodySF (plainFor_of_name pn_1) hisR ?_
  intro p e s m args below meth c s₁ Bd hml0 hP hK
  obtain ⟨rfl, hZ, hh⟩ := hP
  have hx := Bd.exec
  have hby := Bd.bytes
  have hml : c.maxLocals = 1 := hml0
  have hown : s.vm.findClass "com/example/ratebook/ratebook/model/EventTypeIsPlatformEventPinLaw" = some m.cls := findClass_of_methodNamed Bd.named
  have hnm := (name_of_methodNamed Bd.named Bd.method).1
  have X0 : Stand p l e ({ frames := 0, cells := 0, slots := 0, locals := 0 } : Room) s m #[(.int p1)] below meth c s₁ [] 0 0 := Stand.of_body Bd
  have e0 : s₁.heap = h0 := by rw [← hh, Bd.state]; rfl
  have N0 := Fr.nil n0
  have hp' := hp
  obtain ⟨S_w_PLATFORM_DEPLOY, E_w_PLATFORM_DEPLOY, S_w_SERVER_START, E_w_SERVER_START, S_w_PLATFORM_DELETE, E_w_PLATFORM_DELETE, S_w_SERVER_DEPLOY, E_w_SERVER_DEPLOY, S_w_DISK_DETACH, E_w_DISK_DETACH, S_w_NIC_DETACH, E_w_NIC_DETACH, S_w_SERVER_STOP, E_w_SERVER_STOP, S_w_SNAPSHOT_CREATE, E_w_SNAPSHOT_CREATE, S_w_NIC_ATTACH, E_w_NIC_ATTACH, S_w_SNAPSHOT_DELETE, E_w_SNAPSHOT_DELETE, S_w_DISK_ATTACH, E_w_DISK_ATTACH, S_w_SERVER_DELETE, E_w_SERVER_DELETE, F_ordinal_w_SERVER_START, F_ordinal_w_PLATFORM_DEPLOY, F_ordinal_w_PLATFORM_DELETE, F_ordinal_w_SERVER_DEPLOY, F_ordinal_w_DISK_DETACH, F_ordinal_w_NIC_DETACH, F_ordinal_w_SERVER_STOP, F_ordinal_w_SNAPSHOT_CREATE, F_ordinal_w_NIC_ATTACH, F_ordinal_w_SNAPSHOT_DELETE, F_ordinal_w_DISK_ATTACH, F_ordinal_w_SERVER_DELETE⟩ := hp'
  have pre0 : ∀ t, Steps p.tables e below (s₁.setTop (mkF m 0 #[.val (.int p1)] [])) t → Steps p.tables e below (s₁.setTop (entryFrame m #[(.int p1)] 1)) t := fun t k => castTop (ef_1_0 m p1) k
  obtain ⟨T1, X1, e1, st1⟩ := getS2 X0 hx hZ hown (host := "") (Or.inl (hw _ (List.mem_of_getElem? (i := 34) rfl))) Via.refl e0 (S_w_SNAPSHOT_DELETE.ext O0.2) (g := (mkF m 89 #[.val (.int p1)] [])) rfl (hb hby d1_89)
  obtain ⟨fs, hr, hrun, hended, hW, hsame⟩ := X1.leave (v := some (.ref w_SNAPSHOT_DELETE)) (fun h => by rw [Bd.returns] at h; cases h)
  refine ⟨_, _, pre0 _ ?_, hrun, hended, _, _, rfl, ?_, ⟨_, rfl⟩, hW, hsame.mono (by decide) (by decide)⟩
  · show Sp p e below s₁ (mkF m 0 #[.val (.int p1)] []) _
    refine XS.iloadN X0.here hx rfl (hb hby d1_0) rfl ?_
    show Sp p e below s₁ (mkF m 1 #[.val (.int p1)] [(.int p1)]) _
    refine XS.ifYes X0.here hx rfl (pc0 := 1) (pc' := 8) rfl (hb hby d1_1) rfl ((if0 _ _).trans (feq hc1).2) (by decide) (by decide) ?_
    show Sp p e below s₁ (mkF m 8 #[.val (.int p1)] []) _
    refine XS.iloadN X0.here hx rfl (hb hby d1_8) rfl ?_
    show Sp p e below s₁ (mkF m 9 #[.val (.int p1)] [(.int p1)]) _
    refine XS.iconst X0.here hx rfl (hb hby d1_9) ?_
    show Sp p e below s₁ (mkF m 10 #[.val (.int p1)] [(.int (1 : Int32)), (.int p1)]) _
    refine XS.icmpYes X0.here hx rfl (pc0 := 10) (pc' := 17) rfl (hb hby d1_10) rfl (feq hc2).2 (by decide) (by decide) ?_
    show Sp p e below s₁ (mkF m 17 #[.val (.int p1)] []) _
    refine XS.iloadN X0.here hx rfl (hb hby d1_17) rfl ?_
    show Sp p e below s₁ (mkF m 18 #[.val (.int p1)] [(.int p1)]) _
    refine XS.iconst X0.here hx rfl (hb hby d1_18) ?_
    show Sp p e below s₁ (mkF m 19 #[.val (.int p1)] [(.int (2 : Int32)), (.int p1)]) _
    refine XS.icmpYes X0.here hx rfl (pc0 := 19) (pc' := 26) rfl (hb hby d1_19) rfl (feq hc3).2 (by decide) (by decide) ?_
    show Sp p e below s₁ (mkF m 26 #[.val (.int p1)] []) _
    refine XS.iloadN X0.here hx rfl (hb hby d1_26) rfl ?_
    show Sp p e below s₁ (mkF m 27 #[.val (.int p1)] [(.int p1)]) _
    refine XS.iconst X0.here hx rfl (hb hby d1_27) ?_
    show Sp p e below s₁ (mkF m 28 #[.val (.int p1)] [(.int (3 : Int32)), (.int p1)]) _
    refine XS.icmpYes X0.here hx rfl (pc0 := 28) (pc' := 35) rfl (hb hby d1_28) rfl (feq hc4).2 (by decide) (by decide) ?_
    show Sp p e below s₁ (mkF m 35 #[.val (.int p1)] []) _
    refine XS.iloadN X0.here hx rfl (hb hby d1_35) rfl ?_
    show Sp p e below s₁ (mkF m 36 #[.val (.int p1)] [(.int p1)]) _
    refine XS.iconst X0.here hx rfl (hb hby d1_36) ?_
    show Sp p e below s₁ (mkF m 37 #[.val (.int p1)] [(.int (4 : Int32)), (.int p1)]) _
    refine XS.icmpYes X0.here hx rfl (pc0 := 37) (pc' := 44) rfl (hb hby d1_37) rfl (feq hc5).2 (by decide) (by decide) ?_
    show Sp p e below s₁ (mkF m 44 #[.val (.int p1)] []) _
    refine XS.iloadN X0.here hx rfl (hb hby d1_44) rfl ?_
    show Sp p e below s₁ (mkF m 45 #[.val (.int p1)] [(.int p1)]) _
    refine XS.iconst X0.here hx rfl (hb hby d1_45) ?_
    show Sp p e below s₁ (mkF m 46 #[.val (.int p1)] [(.int (5 : Int32)), (.int p1)]) _
    refine XS.icmpYes X0.here hx rfl (pc0 := 46) (pc' := 53) rfl (hb hby d1_46) rfl (feq hc6).2 (by decide) (by decide) ?_
    show Sp p e below s₁ (mkF m 53 #[.val (.int p1)] []) _
    refine XS.iloadN X0.here hx rfl (hb hby d1_53) rfl ?_
    show Sp p e below s₁ (mkF m 54 #[.val (.int p1)] [(.int p1)]) _
    refine XS.bipush X0.here hx rfl (hb hby d1_54) ?_
    show Sp p e below s₁ (mkF m 56 #[.val (.int p1)] [(.int (6 : Int32)), (.int p1)]) _
    refine XS.icmpYes X0.here hx rfl (pc0 := 56) (pc' := 63) rfl (hb hby d1_56) rfl (feq hc7).2 (by decide) (by decide) ?_
    show Sp p e below s₁ (mkF m 63 #[.val (.int p1)] []) _
    refine XS.iloadN X0.here hx rfl (hb hby d1_63) rfl ?_
    show Sp p e below s₁ (mkF m 64 #[.val (.int p1)] [(.int p1)]) _
    refine XS.bipush X0.here hx rfl (hb hby d1_64) ?_
    show Sp p e below s₁ (mkF m 66 #[.val (.int p1)] [(.int (7 : Int32)), (.int p1)]) _
    refine XS.icmpYes X0.here hx rfl (pc0 := 66) (pc' := 73) rfl (hb hby d1_66) rfl (feq hc8).2 (by decide) (by decide) ?_
    show Sp p e below s₁ (mkF m 73 #[.val (.int p1)] []) _
    refine XS.iloadN X0.here hx rfl (hb hby d1_73) rfl ?_
    show Sp p e below s₁ (mkF m 74 #[.val (.int p1)] [(.int p1)]) _
    refine XS.bipush X0.here hx rfl (hb hby d1_74) ?_
    show Sp p e below s₁ (mkF m 76 #[.val (.int p1)] [(.int (8 : Int32)), (.int p1)]) _
    refine XS.icmpYes X0.here hx rfl (pc0 := 76) (pc' := 83) rfl (hb hby d1_76) rfl (feq hc9).2 (by decide) (by decide) ?_
    show Sp p e below s₁ (mkF m 83 #[.val (.int p1)] []) _
    refine XS.iloadN X0.here hx rfl (hb hby d1_83) rfl ?_
    show Sp p e below s₁ (mkF m 84 #[.val (.int p1)] [(.int p1)]) _
    refine XS.bipush X0.here hx rfl (hb hby d1_84) ?_
    show Sp p e below s₁ (mkF m 86 #[.val (.int p1)] [(.int (9 : Int32)), (.int p1)]) _
    refine XS.icmpNo X0.here hx rfl (hb hby d1_86) rfl (teq hc10).2 ?_
    show Sp p e below s₁ (mkF m 89 #[.val (.int p1)] []) _
    refine st1 _ ?_
    show Sp p e below T1 (mkF m 92 #[.val (.int p1)] [(.ref w_SNAPSHOT_DELETE)]) _
    jvm_step X1.here [X1.here.top, hx, (hb hby d1_92), X1.method', Bd.returns, Value.isRef, FieldType.isReference]
    first | (intro acts; rw [hr _ acts rfl rfl rfl]) | rw [hr _ _ rfl rfl rfl]
    exact Steps.refl _
  · show Q31 Z w_PLATFORM_DEPLOY w_SERVER_START w_PLATFORM_DELETE w_SERVER_DEPLOY w_DISK_DETACH w_NIC_DETACH w_SERVER_STOP w_SNAPSHOT_CREATE w_NIC_ATTACH w_SNAPSHOT_DELETE w_DISK_ATTACH w_SERVER_DELETE p1 h0 n0 _ T1.heap _
    rw [e1]
    exact ⟨rfl, N0, rfl⟩
def Q32 (Z : State) (w_PLATFORM_DEPLOY : Addr) (w_SERVER_START : Addr) (w_PLATFORM_DELETE : Addr) (w_SERVER_DEPLOY : Addr) (w_DISK_DETACH : Addr) (w_NIC_DETACH : Addr) (w_SERVER_STOP : Addr) (w_SNAPSHOT_CREATE : Addr) (w_NIC_ATTACH : Addr) (w_SNAPSHOT_DELETE : Addr) (w_DISK_ATTACH : Addr) (w_SERVER_DELETE : Addr) (h0 : Heap) (n0 : Nat) (v : Option Value) (h : Heap) (L : List Loc) : Prop := v = some (.int (0 : Int32)) ∧ Fr n0 L ∧ h = h0
set_option maxRecDepth 65536 in
set_option maxHeartbeats 40000000 in
theorem rm32 (l : Launch) (Z : State) (a0 : Array Value) (hw : ∀ d ∈ tables_1, d.before a0 Z = true) (ws : List Jvm.Cond) (w_PLATFORM_DEPLOY w_SERVER_START w_PLATFORM_DELETE w_SERVER_DEPLOY w_DISK_DETACH w_NIC_DETACH w_SERVER_STOP w_SNAPSHOT_CREATE w_NIC_ATTACH w_SNAPSHOT_DELETE w_DISK_ATTACH w_SERVER_DELETE : Addr) (hp : Perm Z w_PLATFORM_DEPLOY w_SERVER_START w_PLATFORM_DELETE w_SERVER_DEPLOY w_DISK_DETACH w_NIC_DETACH w_SERVER_STOP w_SNAPSHOT_CREATE w_NIC_ATTACH w_SNAPSHOT_DELETE w_DISK_ATTACH w_SERVER_DELETE) (h0 : Heap) (n0 : Nat) (O0 : Old Z n0 h0) :
    MetFree l y1 (head1 (Jvm.Cond.code y1 prog_20_method_5_code 1 (some .boolean) :: ws) ({ frames := 0, cells := 0, slots := 0, locals := 0 } : Room)) (fun a U => a = #[(.ref w_SNAPSHOT_DELETE)] ∧ Z.Warmed39 U.vm ∧ U.heap = h0) (fun _ _ _ _ _ => True) (fun _ U o U' => ∃ v L, o = .returned v ∧ Q32 Z w_PLATFORM_DEPLOY w_SERVER_START w_PLATFORM_DELETE w_SERVER_DEPLOY w_DISK_DETACH w_NIC_DETACH w_SERVER_STOP w_SNAPSHOT_CREATE w_NIC_ATTACH w_SNAPSHOT_DELETE w_DISK_ATTACH w_SERVER_DELETE  h0 n0 v U'.heap L ∧ FrameEnd U o U' L ({ frames := 0, cells := 0, slots := 0, locals := 0 } : Room).cells ({ frames := 0, cells := 0, slots := 0, locals := 0 } : Room).slots) := by
  refine MetFree.of_bodySF (plainFor_of_name pn_2) hisR ?_
  intro p e s m args below meth c s₁ Bd hml0 hP hK
  obtain ⟨rfl, hZ, hh⟩ := hP
  have hx := Bd.exec
  have hby := Bd.bytes
  have hml : c.maxLocals = 1 := hml0
  have hown : s.vm.findClass "com/example/ratebook/ratebook/model/EventType" = some m.cls := findClass_of_methodNamed Bd.named
  have hnm := (name_of_methodNamed Bd.named Bd.method).1
  have X0 : Stand p l e ({ frames := 0, cells := 0, slots := 0, locals := 0 } : Room) s m #[(.ref w_SNAPSHOT_DELETE)] below meth c s₁ [] 0 0 := Stand.of_body Bd
  have e0 : s₁.heap = h0 := by rw [← hh, Bd.state]; rfl
  have N0 := Fr.nil n0
  have hp' := hp
  obtain ⟨S_w_PLATFORM_DEPLOY, E_w_PLATFORM_DEPLOY, S_w_SERVER_START, E_w_SERVER_START, S_w_PLATFORM_DELETE, E_w_PLATFORM_DELETE, S_w_SERVER_DEPLOY, E_w_SERVER_DEPLOY, S_w_DISK_DETACH, E_w_DISK_DETACH, S_w_NIC_DETACH, E_w_NIC_DETACH, S_w_SERVER_STOP, E_w_SERVER_STOP, S_w_SNAPSHOT_CREATE, E_w_SNAPSHOT_CREATE, S_w_NIC_ATTACH, E_w_NIC_ATTACH, S_w_SNAPSHOT_DELETE, E_w_SNAPSHOT_DELETE, S_w_DISK_ATTACH, E_w_DISK_ATTACH, S_w_SERVER_DELETE, E_w_SERVER_DELETE, F_ordinal_w_SERVER_START, F_ordinal_w_PLATFORM_DEPLOY, F_ordinal_w_PLATFORM_DELETE, F_ordinal_w_SERVER_DEPLOY, F_ordinal_w_DISK_DETACH, F_ordinal_w_NIC_DETACH, F_ordinal_w_SERVER_STOP, F_ordinal_w_SNAPSHOT_CREATE, F_ordinal_w_NIC_ATTACH, F_ordinal_w_SNAPSHOT_DELETE, F_ordinal_w_DISK_ATTACH, F_ordinal_w_SERVER_DELETE⟩ := hp'
  have pre0 : ∀ t, Steps p.tables e below (s₁.setTop (mkF m 0 #[.val (.ref w_SNAPSHOT_DELETE)] [])) t → Steps p.tables e below (s₁.setTop (entryFrame m #[(.ref w_SNAPSHOT_DELETE)] 1)) t := fun t k => castTop (ef_2_0 m w_SNAPSHOT_DELETE) k
  obtain ⟨T1, X1, e1, st1⟩ := getS2 X0 hx hZ hown (host := "") (Or.inl (hw _ (List.mem_of_getElem? (i := 13) rfl))) Via.refl e0 (S_w_PLATFORM_DEPLOY.ext O0.2) (g := (mkF m 1 #[.val (.ref w_SNAPSHOT_DELETE)] [(.ref w_SNAPSHOT_DELETE)])) rfl (hb hby d2_1)
  obtain ⟨T2, X2, e2, st2⟩ := getS2 X1 hx hZ hown (host := "") (Or.inl (hw _ (List.mem_of_getElem? (i := 19) rfl))) Via.refl e1 (S_w_PLATFORM_DELETE.ext O0.2) (g := (mkF m 8 #[.val (.ref w_SNAPSHOT_DELETE)] [(.ref w_SNAPSHOT_DELETE)])) rfl (hb hby d2_8)
  obtain ⟨fs, hr, hrun, hended, hW, hsame⟩ := X2.leave (v := some (.int (0 : Int32))) (fun h => by rw [Bd.returns] at h; cases h)
  refine ⟨_, _, pre0 _ ?_, hrun, hended, _, _, rfl, ?_, ⟨_, rfl⟩, hW, hsame.mono (by decide) (by decide)⟩
  · show Sp p e below s₁ (mkF m 0 #[.val (.ref w_SNAPSHOT_DELETE)] []) _
    refine XS.aloadN X0.here hx rfl (hb hby d2_0) rfl rfl ?_
    show Sp p e below s₁ (mkF m 1 #[.val (.ref w_SNAPSHOT_DELETE)] [(.ref w_SNAPSHOT_DELETE)]) _
    refine st1 _ ?_
    show Sp p e below T1 (mkF m 4 #[.val (.ref w_SNAPSHOT_DELETE)] [(.ref w_PLATFORM_DEPLOY), (.ref w_SNAPSHOT_DELETE)]) _
    refine Jvm.RoadKit.acmp (g := (mkF m 4 #[.val (.ref w_SNAPSHOT_DELETE)] [(.ref w_PLATFORM_DEPLOY), (.ref w_SNAPSHOT_DELETE)])) X1 hx rfl rfl rfl (pc0 := 4) (pc' := 7) (same := false) rfl (hb hby d2_4) rfl (decide_eq_false fun q => (Ne.symm (ne_w_PLATFORM_DEPLOY_w_SNAPSHOT_DELETE hp)) (Value.ref.inj q)) (by decide) (by decide) ?_
    show Sp p e below T1 (mkF m 7 #[.val (.ref w_SNAPSHOT_DELETE)] []) _
    refine XS.aloadN X1.here hx rfl (hb hby d2_7) rfl rfl ?_
    show Sp p e below T1 (mkF m 8 #[.val (.ref w_SNAPSHOT_DELETE)] [(.ref w_SNAPSHOT_DELETE)]) _
    refine st2 _ ?_
    show Sp p e below T2 (mkF m 11 #[.val (.ref w_SNAPSHOT_DELETE)] [(.ref w_PLATFORM_DELETE), (.ref w_SNAPSHOT_DELETE)]) _
    refine Jvm.RoadKit.acmp (g := (mkF m 11 #[.val (.ref w_SNAPSHOT_DELETE)] [(.ref w_PLATFORM_DELETE), (.ref w_SNAPSHOT_DELETE)])) X2 hx rfl rfl rfl (pc0 := 11) (pc' := 18) (same := false) rfl (hb hby d2_11) rfl (decide_eq_false fun q => (Ne.symm (ne_w_PLATFORM_DELETE_w_SNAPSHOT_DELETE hp)) (Value.ref.inj q)) (by decide) (by decide) ?_
    show Sp p e below T2 (mkF m 18 #[.val (.ref w_SNAPSHOT_DELETE)] []) _
    refine XS.iconst X2.here hx rfl (hb hby d2_18) ?_
    show Sp p e below T2 (mkF m 19 #[.val (.ref w_SNAPSHOT_DELETE)] [(.int (0 : Int32))]) _
    exact retN X2 hx (t := .boolean) Bd.returns (by simp) (hb hby d2_19) hr
  · show Q32 Z w_PLATFORM_DEPLOY w_SERVER_START w_PLATFORM_DELETE w_SERVER_DEPLOY w_DISK_DETACH w_NIC_DETACH w_SERVER_STOP w_SNAPSHOT_CREATE w_NIC_ATTACH w_SNAPSHOT_DELETE w_DISK_ATTACH w_SERVER_DELETE  h0 n0 _ T2.heap _
    rw [e2]
    exact ⟨rfl, N0, rfl⟩
set_option maxRecDepth 65536 in
set_option maxHeartbeats 40000000 in
theorem rm33 (l : Launch) (Z : State) (a0 : Array Value) (hw : ∀ d ∈ tables_1, d.before a0 Z = true) (ws : List Jvm.Cond) (w_PLATFORM_DEPLOY w_SERVER_START w_PLATFORM_DELETE w_SERVER_DEPLOY w_DISK_DETACH w_NIC_DETACH w_SERVER_STOP w_SNAPSHOT_CREATE w_NIC_ATTACH w_SNAPSHOT_DELETE w_DISK_ATTACH w_SERVER_DELETE : Addr) (hp : Perm Z w_PLATFORM_DEPLOY w_SERVER_START w_PLATFORM_DELETE w_SERVER_DEPLOY w_DISK_DETACH w_NIC_DETACH w_SERVER_STOP w_SNAPSHOT_CREATE w_NIC_ATTACH w_SNAPSHOT_DELETE w_DISK_ATTACH w_SERVER_DELETE) (p0 : Int32) (h0 : Heap) (n0 : Nat) (O0 : Old Z n0 h0) (hc1 : ¬ (((p0 &&& (2147483647 : Int32)) % (12 : Int32)) = (0 : Int32))) (hc2 : ¬ (((p0 &&& (2147483647 : Int32)) % (12 : Int32)) = (1 : Int32))) (hc3 : ¬ (((p0 &&& (2147483647 : Int32)) % (12 : Int32)) = (2 : Int32))) (hc4 : ¬ (((p0 &&& (2147483647 : Int32)) % (12 : Int32)) = (3 : Int32))) (hc5 : ¬ (((p0 &&& (2147483647 : Int32)) % (12 : Int32)) = (4 : Int32))) (hc6 : ¬ (((p0 &&& (2147483647 : Int32)) % (12 : Int32)) = (5 : Int32))) (hc7 : ¬ (((p0 &&& (2147483647 : Int32)) % (12 : Int32)) = (6 : Int32))) (hc8 : ¬ (((p0 &&& (2147483647 : Int32)) % (12 : Int32)) = (7 : Int32))) (hc9 : ¬ (((p0 &&& (2147483647 : Int32)) % (12 : Int32)) = (8 : Int32))) (hc10 : ((p0 &&& (2147483647 : Int32)) % (12 : Int32)) = (9 : Int32)) :
    MetFree l x (head1 (Jvm.Cond.code x code maxLocals ret :: ws) room_1) (fun a U => a = #[(.int p0)] ∧ Z.Warmed39 U.vm ∧ U.heap = h0) (fun _ _ _ _ _ => True) (fun _ U o U' => ∃ v L, o = .returned v ∧ (v = some (.int (1 : Int32)) ∧ Fr n0 L) ∧ FrameEnd U o U' L 0 0) := by
  refine MetFree.of_bodySF (plainFor_of_name pn_1) hisR ?_
  intro p e s m args below meth c s₁ Bd hml0 hP hK
  obtain ⟨rfl, hZ, hh⟩ := hP
  have hx := Bd.exec
  have hby := Bd.bytes
  have hml : c.maxLocals = 3 := hml0
  have hown : s.vm.findClass "com/example/ratebook/ratebook/model/EventTypeIsPlatformEventPinLaw" = some m.cls := findClass_of_methodNamed Bd.named
  have hnm := (name_of_methodNamed Bd.named Bd.method).1
  have X0 : Stand p l e room_1 s m #[(.int p0)] below meth c s₁ [] 0 0 := Stand.of_body Bd
  have e0 : s₁.heap = h0 := by rw [← hh, Bd.state]; rfl
  have N0 := Fr.nil n0
  have hp' := hp
  obtain ⟨S_w_PLATFORM_DEPLOY, E_w_PLATFORM_DEPLOY, S_w_SERVER_START, E_w_SERVER_START, S_w_PLATFORM_DELETE, E_w_PLATFORM_DELETE, S_w_SERVER_DEPLOY, E_w_SERVER_DEPLOY, S_w_DISK_DETACH, E_w_DISK_DETACH, S_w_NIC_DETACH, E_w_NIC_DETACH, S_w_SERVER_STOP, E_w_SERVER_STOP, S_w_SNAPSHOT_CREATE, E_w_SNAPSHOT_CREATE, S_w_NIC_ATTACH, E_w_NIC_ATTACH, S_w_SNAPSHOT_DELETE, E_w_SNAPSHOT_DELETE, S_w_DISK_ATTACH, E_w_DISK_ATTACH, S_w_SERVER_DELETE, E_w_SERVER_DELETE, F_ordinal_w_SERVER_START, F_ordinal_w_PLATFORM_DEPLOY, F_ordinal_w_PLATFORM_DELETE, F_ordinal_w_SERVER_DEPLOY, F_ordinal_w_DISK_DETACH, F_ordinal_w_NIC_DETACH, F_ordinal_w_SERVER_STOP, F_ordinal_w_SNAPSHOT_CREATE, F_ordinal_w_NIC_ATTACH, F_ordinal_w_SNAPSHOT_DELETE, F_ordinal_w_DISK_ATTACH, F_ordinal_w_SERVER_DELETE⟩ := hp'
  have pre0 : ∀ t, Steps p.tables e below (s₁.setTop (mkF m 0 #[.val (.int p0), .unset, .unset] [])) t → Steps p.tables e below (s₁.setTop (entryFrame m #[(.int p0)] maxLocals)) t := fun t k => castTop (ef_0_0 m p0) k
  obtain ⟨_, _, ⟨T1, L1, k1, n1⟩, -, X1, ⟨Lc1, hQ1, l1, y1, z1⟩, st1⟩ := Jvm.LawKit.callS X0 hx (y := y0) hown (mvT hZ (hw _ (List.mem_of_getElem? (i := 1) rfl))) (mvT hZ (hw _ (List.mem_of_getElem? (i := 2) rfl))) (mvT hZ (hw _ (List.mem_of_getElem? (i := 3) rfl))) (mvT hZ (hw _ (List.mem_of_getElem? (i := 4) rfl))) (by decide) (backOf (W := 0) (rm31 l Z a0 hw [] w_PLATFORM_DEPLOY w_SERVER_START w_PLATFORM_DELETE w_SERVER_DEPLOY w_DISK_DETACH w_NIC_DETACH w_SERVER_STOP w_SNAPSHOT_CREATE w_NIC_ATTACH w_SNAPSHOT_DELETE w_DISK_ATTACH w_SERVER_DELETE hp ((p0 &&& (2147483647 : Int32)) % (12 : Int32)) h0 n0 O0 hc1 hc2 hc3 hc4 hc5 hc6 hc7 hc8 hc9 hc10) hZ (hw _ (List.mem_of_getElem? (i := 4) rfl)) (hw _ (List.mem_of_getElem? (i := 3) rfl)) (by decide) (by decide)) (g := (mkF m 9 #[.val (.int p0), .val (.int ((p0 &&& (2147483647 : Int32)) % (12 : Int32))), .unset] [(.int ((p0 &&& (2147483647 : Int32)) % (12 : Int32)))])) rfl (by rw [hml]; rfl) (argsL := [(.int ((p0 &&& (2147483647 : Int32)) % (12 : Int32)))]) (rest := []) (lenOf pd_0 rfl) rfl (by show 2 * 0 + _ ≤ _; exact Nat.le_of_eq rfl) (hb hby at_9) (fun _ _ => ⟨rfl, e0, (by decide : 0 + 0 ≤ _), (by decide : 0 + 0 ≤ _)⟩)
  dsimp only [Pt.U, Pt.locs, Pt.cells, Pt.slots] at X1 l1 y1 z1 st1 hQ1
  subst l1 y1 z1
  obtain ⟨rfl, Nq1, eq1⟩ := hQ1
  have N1 := Fr.app N0 Nq1
  obtain ⟨cq2, kq2, q2a, q2b, q2c⟩ := isOf hZ eq1 (E_w_SNAPSHOT_DELETE.ext O0.2)
  obtain ⟨_, _, ⟨T2, L2, k2, n2⟩, -, X2, ⟨Lc2, hQ2, l2, y2, z2⟩, st2⟩ := X1.virtualBack hx (y := y1) (z := y1) hown (mvT hZ (hw _ (List.mem_of_getElem? (i := 8) rfl))) (mvT hZ (hw _ (List.mem_of_getElem? (i := 9) rfl))) (notFace_of_selects (args := #[]) (mvT hZ (hw _ (List.mem_of_getElem? (i := 11) rfl)))) (mvT hZ (hw _ (List.mem_of_getElem? (i := 11) rfl))) (mvT hZ (hw _ (List.mem_of_getElem? (i := 10) rfl))) (by decide) (backOf (W := 0) (rm32 l Z a0 hw [] w_PLATFORM_DEPLOY w_SERVER_START w_PLATFORM_DELETE w_SERVER_DEPLOY w_DISK_DETACH w_NIC_DETACH w_SERVER_STOP w_SNAPSHOT_CREATE w_NIC_ATTACH w_SNAPSHOT_DELETE w_DISK_ATTACH w_SERVER_DELETE hp h0 n0 O0) hZ (hw _ (List.mem_of_getElem? (i := 12) rfl)) (hw _ (List.mem_of_getElem? (i := 6) rfl)) (by decide) (by decide)) q2a q2c (g := (mkF m 14 #[.val (.int p0), .val (.int ((p0 &&& (2147483647 : Int32)) % (12 : Int32))), .val (.ref w_SNAPSHOT_DELETE)] [(.ref w_SNAPSHOT_DELETE)])) rfl (by rw [hml]; rfl) (Steps.refl _) (argsL := []) (rest := []) (lenOf pd_1 rfl) rfl (by show 2 * 0 + _ ≤ _; exact Nat.le_of_eq rfl) (hb hby at_14) (fun _ _ => ⟨rfl, eq1, (by decide : 0 + 0 ≤ _), (by decide : 0 + 0 ≤ _)⟩)
  dsimp only [Pt.U, Pt.locs, Pt.cells, Pt.slots] at X2 l2 y2 z2 st2 hQ2
  subst l2 y2 z2
  obtain ⟨rfl, Nq2, eq2⟩ := hQ2
  have N2 := Fr.app N1 Nq2
  obtain ⟨_, _, ⟨T3, L3, k3, n3⟩, -, X3, ⟨Lc3, hQ3, l3, y3, z3⟩, st3⟩ := Jvm.LawKit.callS X2 hx (y := y2) hown (mvT hZ (hw _ (List.mem_of_getElem? (i := 14) rfl))) (mvT hZ (hw _ (List.mem_of_getElem? (i := 15) rfl))) (mvT hZ (hw _ (List.mem_of_getElem? (i := 3) rfl))) (mvT hZ (hw _ (List.mem_of_getElem? (i := 16) rfl))) (by decide) (backOf (W := 1) (rm11 l Z a0 hw [] w_PLATFORM_DEPLOY w_SERVER_START w_PLATFORM_DELETE w_SERVER_DEPLOY w_DISK_DETACH w_NIC_DETACH w_SERVER_STOP w_SNAPSHOT_CREATE w_NIC_ATTACH w_SNAPSHOT_DELETE w_DISK_ATTACH w_SERVER_DELETE hp ((p0 &&& (2147483647 : Int32)) % (12 : Int32)) h0 n0 O0 hc1 hc2) hZ (hw _ (List.mem_of_getElem? (i := 16) rfl)) (hw _ (List.mem_of_getElem? (i := 3) rfl)) (by decide) (by decide)) (g := (mkF m 18 #[.val (.int p0), .val (.int ((p0 &&& (2147483647 : Int32)) % (12 : Int32))), .val (.ref w_SNAPSHOT_DELETE)] [(.int ((p0 &&& (2147483647 : Int32)) % (12 : Int32))), (.int (0 : Int32))])) rfl (by rw [hml]; rfl) (argsL := [(.int ((p0 &&& (2147483647 : Int32)) % (12 : Int32)))]) (rest := [(.int (0 : Int32))]) (lenOf pd_2 rfl) rfl (by show 2 * 0 + _ ≤ _; exact Nat.le_of_eq rfl) (hb hby at_18) (fun _ _ => ⟨rfl, eq2, (by decide : 0 + 0 ≤ _), (by decide : 0 + 0 ≤ _)⟩)
  dsimp only [Pt.U, Pt.locs, Pt.cells, Pt.slots] at X3 l3 y3 z3 st3 hQ3
  subst l3 y3 z3
  obtain ⟨rfl, Nq3, eq3⟩ := hQ3
  have N3 := Fr.app N2 Nq3
  obtain ⟨fs, hr, hrun, hended, hW, hsame⟩ := X3.leave (v := some (.int (1 : Int32))) (fun h => by rw [Bd.returns] at h; cases h)
  refine ⟨_, _, pre0 _ ?_, hrun, hended, _, _, rfl, ?_, ⟨_, rfl⟩, hW, hsame.mono (by decide) (by decide)⟩
  · show Sp p e below s₁ (mkF m 0 #[.val (.int p0), .unset, .unset] []) _
    refine XS.iloadN X0.here hx rfl (hb hby at_0) rfl ?_
    show Sp p e below s₁ (mkF m 1 #[.val (.int p0), .unset, .unset] [(.int p0)]) _
    refine X0.ldcI hx hown (mvT hZ (hw _ (List.mem_of_getElem? (i := 0) rfl))) rfl (hb hby at_1) ?_
    show Sp p e below s₁ (mkF m 3 #[.val (.int p0), .unset, .unset] [(.int (2147483647 : Int32)), (.int p0)]) _
    refine XS.iand X0.here hx rfl (hb hby at_3) rfl ?_
    show Sp p e below s₁ (mkF m 4 #[.val (.int p0), .unset, .unset] [(.int (p0 &&& (2147483647 : Int32)))]) _
    refine XS.bipush X0.here hx rfl (hb hby at_4) ?_
    show Sp p e below s₁ (mkF m 6 #[.val (.int p0), .unset, .unset] [(.int (12 : Int32)), (.int (p0 &&& (2147483647 : Int32)))]) _
    refine iremM X0 hx rfl (hb hby at_6) rfl (by decide) ?_
    show Sp p e below s₁ (mkF m 7 #[.val (.int p0), .unset, .unset] [(.int ((p0 &&& (2147483647 : Int32)) % (12 : Int32)))]) _
    refine XS.istoreN X0.here hx rfl (hb hby at_7) rfl (l' := #[.val (.int p0), .val (.int ((p0 &&& (2147483647 : Int32)) % (12 : Int32))), .unset]) rfl ?_
    show Sp p e below s₁ (mkF m 8 #[.val (.int p0), .val (.int ((p0 &&& (2147483647 : Int32)) % (12 : Int32))), .unset] []) _
    refine XS.iloadN X0.here hx rfl (hb hby at_8) rfl ?_
    show Sp p e below s₁ (mkF m 9 #[.val (.int p0), .val (.int ((p0 &&& (2147483647 : Int32)) % (12 : Int32))), .unset] [(.int ((p0 &&& (2147483647 : Int32)) % (12 : Int32)))]) _
    refine st1 _ ?_
    show Sp p e below T1 (mkF m 12 #[.val (.int p0), .val (.int ((p0 &&& (2147483647 : Int32)) % (12 : Int32))), .unset] [(.ref w_SNAPSHOT_DELETE)]) _
    refine XS.astoreN X1.here hx rfl (hb hby at_12) rfl rfl (l' := #[.val (.int p0), .val (.int ((p0 &&& (2147483647 : Int32)) % (12 : Int32))), .val (.ref w_SNAPSHOT_DELETE)]) rfl ?_
    show Sp p e below T1 (mkF m 13 #[.val (.int p0), .val (.int ((p0 &&& (2147483647 : Int32)) % (12 : Int32))), .val (.ref w_SNAPSHOT_DELETE)] []) _
    refine XS.aloadN X1.here hx rfl (hb hby at_13) rfl rfl ?_
    show Sp p e below T1 (mkF m 14 #[.val (.int p0), .val (.int ((p0 &&& (2147483647 : Int32)) % (12 : Int32))), .val (.ref w_SNAPSHOT_DELETE)] [(.ref w_SNAPSHOT_DELETE)]) _
    refine st2.trans ?_
    show Sp p e below T2 (mkF m 17 #[.val (.int p0), .val (.int ((p0 &&& (2147483647 : Int32)) % (12 : Int32))), .val (.ref w_SNAPSHOT_DELETE)] [(.int (0 : Int32))]) _
    refine XS.iloadN X2.here hx rfl (hb hby at_17) rfl ?_
    show Sp p e below T2 (mkF m 18 #[.val (.int p0), .val (.int ((p0 &&& (2147483647 : Int32)) % (12 : Int32))), .val (.ref w_SNAPSHOT_DELETE)] [(.int ((p0 &&& (2147483647 : Int32)) % (12 : Int32))), (.int (0 : Int32))]) _
    refine st3 _ ?_
    show Sp p e below T3 (mkF m 21 #[.val (.int p0), .val (.int ((p0 &&& (2147483647 : Int32)) % (12 : Int32))), .val (.ref w_SNAPSHOT_DELETE)] [(.int (0 : Int32)), (.int (0 : Int32))]) _
    refine XS.icmpNo X3.here hx rfl (hb hby at_21) rfl (teq (by decide : (0 : Int32) = (0 : Int32))).2 ?_
    show Sp p e below T3 (mkF m 24 #[.val (.int p0), .val (.int ((p0 &&& (2147483647 : Int32)) % (12 : Int32))), .val (.ref w_SNAPSHOT_DELETE)] []) _
    refine XS.iconst X3.here hx rfl (hb hby at_24) ?_
    show Sp p e below T3 (mkF m 25 #[.val (.int p0), .val (.int ((p0 &&& (2147483647 : Int32)) % (12 : Int32))), .val (.ref w_SNAPSHOT_DELETE)] [(.int (1 : Int32))]) _
    refine XS.goto X3.here hx rfl (pc0 := 25) (pc' := 29) rfl (hb hby at_25) (by decide) (by decide) ?_
    show Sp p e below T3 (mkF m 29 #[.val (.int p0), .val (.int ((p0 &&& (2147483647 : Int32)) % (12 : Int32))), .val (.ref w_SNAPSHOT_DELETE)] [(.int (1 : Int32))]) _
    exact retN X3 hx (t := .boolean) Bd.returns (by simp) (hb hby at_29) hr
  · skip
    exact ⟨rfl, N3⟩
theorem d1_93 : decode method_2_code 93 = .ok (.iload_n 0, 1) := by decide +kernel
theorem d1_94 : decode method_2_code 94 = .ok (.bipush 10, 2) := by decide +kernel
theorem d1_96 : decode method_2_code 96 = .ok (.if_icmp .ne 7, 3) := by decide +kernel
theorem d1_99 : decode method_2_code 99 = .ok (.getstatic 40, 3) := by decide +kernel
theorem d1_102 : decode method_2_code 102 = .ok (.areturn, 1) := by decide +kernel
def Q34 (Z : State) (w_PLATFORM_DEPLOY : Addr) (w_SERVER_START : Addr) (w_PLATFORM_DELETE : Addr) (w_SERVER_DEPLOY : Addr) (w_DISK_DETACH : Addr) (w_NIC_DETACH : Addr) (w_SERVER_STOP : Addr) (w_SNAPSHOT_CREATE : Addr) (w_NIC_ATTACH : Addr) (w_SNAPSHOT_DELETE : Addr) (w_DISK_ATTACH : Addr) (w_SERVER_DELETE : Addr) (p1 : Int32) (h0 : Heap) (n0 : Nat) (v : Option Value) (h : Heap) (L : List Loc) : Prop := v = some (.ref w_NIC_ATTACH) ∧ Fr n0 L ∧ h = h0
set_option maxRecDepth 65536 in
set_option maxHeartbeats 40000000 in
theorem rm34 (l : Launch) (Z : State) (a0 : Array Value) (hw : ∀ d ∈ tables_1, d.before a0 Z = true) (ws : List Jvm.Cond) (w_PLATFORM_DEPLOY w_SERVER_START w_PLATFORM_DELETE w_SERVER_DEPLOY w_DISK_DETACH w_NIC_DETACH w_SERVER_STOP w_SNAPSHOT_CREATE w_NIC_ATTACH w_SNAPSHOT_DELETE w_DISK_ATTACH w_SERVER_DELETE : Addr) (hp : Perm Z w_PLATFORM_DEPLOY w_SERVER_START w_PLATFORM_DELETE w_SERVER_DEPLOY w_DISK_DETACH w_NIC_DETACH w_SERVER_STOP w_SNAPSHOT_CREATE w_NIC_ATTACH w_SNAPSHOT_DELETE w_DISK_ATTACH w_SERVER_DELETE) (p1 : Int32) (h0 : Heap) (n0 : Nat) (O0 : Old Z n0 h0) (hc1 : ¬ (p1 = (0 : Int32))) (hc2 : ¬ (p1 = (1 : Int32))) (hc3 : ¬ (p1 = (2 : Int32))) (hc4 : ¬ (p1 = (3 : Int32))) (hc5 : ¬ (p1 = (4 : Int32))) (hc6 : ¬ (p1 = (5 : Int32))) (hc7 : ¬ (p1 = (6 : Int32))) (hc8 : ¬ (p1 = (7 : Int32))) (hc9 : ¬ (p1 = (8 : Int32))) (hc10 : ¬ (p1 = (9 : Int32))) (hc11 : p1 = (10 : Int32)) :
    MetFree l y0 (head1 (Jvm.Cond.code y0 method_2_code 1 (some (.object "com/example/ratebook/ratebook/model/EventType")) :: ws) ({ frames := 0, cells := 0, slots := 0, locals := 0 } : Room)) (fun a U => a = #[(.int p1)] ∧ Z.Warmed39 U.vm ∧ U.heap = h0) (fun _ _ _ _ _ => True) (fun _ U o U' => ∃ v L, o = .returned v ∧ Q34 Z w_PLATFORM_DEPLOY w_SERVER_START w_PLATFORM_DELETE w_SERVER_DEPLOY w_DISK_DETACH w_NIC_DETACH w_SERVER_STOP w_SNAPSHOT_CREATE w_NIC_ATTACH w_SNAPSHOT_DELETE w_DISK_ATTACH w_SERVER_DELETE p1 h0 n0 v U'.heap L ∧ FrameEnd U o U' L ({ frames := 0, cells := 0, slots := 0, locals := 0 } : Room).cells ({ frames := 0, cells := 0, slots := 0, locals := 0 } : Room).slots) := by
  refine MetFree.of_bodySF (plainFor_of_name pn_1) hisR ?_
  intro p e s m args below meth c s₁ Bd hml0 hP hK
  obtain ⟨rfl, hZ, hh⟩ := hP
  have hx := Bd.exec
  have hby := Bd.bytes
  have hml : c.maxLocals = 1 := hml0
  have hown : s.vm.findClass "com/example/ratebook/ratebook/model/EventTypeIsPlatformEventPinLaw" = some m.cls := findClass_of_methodNamed Bd.named
  have hnm := (name_of_methodNamed Bd.named Bd.method).1
  have X0 : Stand p l e ({ frames := 0, cells := 0, slots := 0, locals := 0 } : Room) s m #[(.int p1)] below meth c s₁ [] 0 0 := Stand.of_body Bd
  have e0 : s₁.heap = h0 := by rw [← hh, Bd.state]; rfl
  have N0 := Fr.nil n0
  have hp' := hp
  obtain ⟨S_w_PLATFORM_DEPLOY, E_w_PLATFORM_DEPLOY, S_w_SERVER_START, E_w_SERVER_START, S_w_PLATFORM_DELETE, E_w_PLATFORM_DELETE, S_w_SERVER_DEPLOY, E_w_SERVER_DEPLOY, S_w_DISK_DETACH, E_w_DISK_DETACH, S_w_NIC_DETACH, E_w_NIC_DETACH, S_w_SERVER_STOP, E_w_SERVER_STOP, S_w_SNAPSHOT_CREATE, E_w_SNAPSHOT_CREATE, S_w_NIC_ATTACH, E_w_NIC_ATTACH, S_w_SNAPSHOT_DELETE, E_w_SNAPSHOT_DELETE, S_w_DISK_ATTACH, E_w_DISK_ATTACH, S_w_SERVER_DELETE, E_w_SERVER_DELETE, F_ordinal_w_SERVER_START, F_ordinal_w_PLATFORM_DEPLOY, F_ordinal_w_PLATFORM_DELETE, F_ordinal_w_SERVER_DEPLOY, F_ordinal_w_DISK_DETACH, F_ordinal_w_NIC_DETACH, F_ordinal_w_SERVER_STOP, F_ordinal_w_SNAPSHOT_CREATE, F_ordinal_w_NIC_ATTACH, F_ordinal_w_SNAPSHOT_DELETE, F_ordinal_w_DISK_ATTACH, F_ordinal_w_SERVER_DELETE⟩ := hp'
  have pre0 : ∀ t, Steps p.tables e below (s₁.setTop (mkF m 0 #[.val (.int p1)] [])) t → Steps p.tables e below (s₁.setTop (entryFrame m #[(.int p1)] 1)) t := fun t k => castTop (ef_1_0 m p1) k
  obtain ⟨T1, X1, e1, st1⟩ := getS2 X0 hx hZ hown (host := "") (Or.inl (hw _ (List.mem_of_getElem? (i := 32) rfl))) Via.refl e0 (S_w_NIC_ATTACH.ext O0.2) (g := (mkF m 99 #[.val (.int p1)] [])) rfl (hb hby d1_99)
  obtain ⟨fs, hr, hrun, hended, hW, hsame⟩ := X1.leave (v := some (.ref w_NIC_ATTACH)) (fun h => by rw [Bd.returns] at h; cases h)
  refine ⟨_, _, pre0 _ ?_, hrun, hended, _, _, rfl, ?_, ⟨_, rfl⟩, hW, hsame.mono (by decide) (by decide)⟩
  · show Sp p e below s₁ (mkF m 0 #[.val (.int p1)] []) _
    refine XS.iloadN X0.here hx rfl (hb hby d1_0) rfl ?_
    show Sp p e below s₁ (mkF m 1 #[.val (.int p1)] [(.int p1)]) _
    refine XS.ifYes X0.here hx rfl (pc0 := 1) (pc' := 8) rfl (hb hby d1_1) rfl ((if0 _ _).trans (feq hc1).2) (by decide) (by decide) ?_
    show Sp p e below s₁ (mkF m 8 #[.val (.int p1)] []) _
    refine XS.iloadN X0.here hx rfl (hb hby d1_8) rfl ?_
    show Sp p e below s₁ (mkF m 9 #[.val (.int p1)] [(.int p1)]) _
    refine XS.iconst X0.here hx rfl (hb hby d1_9) ?_
    show Sp p e below s₁ (mkF m 10 #[.val (.int p1)] [(.int (1 : Int32)), (.int p1)]) _
    refine XS.icmpYes X0.here hx rfl (pc0 := 10) (pc' := 17) rfl (hb hby d1_10) rfl (feq hc2).2 (by decide) (by decide) ?_
    show Sp p e below s₁ (mkF m 17 #[.val (.int p1)] []) _
    refine XS.iloadN X0.here hx rfl (hb hby d1_17) rfl ?_
    show Sp p e below s₁ (mkF m 18 #[.val (.int p1)] [(.int p1)]) _
    refine XS.iconst X0.here hx rfl (hb hby d1_18) ?_
    show Sp p e below s₁ (mkF m 19 #[.val (.int p1)] [(.int (2 : Int32)), (.int p1)]) _
    refine XS.icmpYes X0.here hx rfl (pc0 := 19) (pc' := 26) rfl (hb hby d1_19) rfl (feq hc3).2 (by decide) (by decide) ?_
    show Sp p e below s₁ (mkF m 26 #[.val (.int p1)] []) _
    refine XS.iloadN X0.here hx rfl (hb hby d1_26) rfl ?_
    show Sp p e below s₁ (mkF m 27 #[.val (.int p1)] [(.int p1)]) _
    refine XS.iconst X0.here hx rfl (hb hby d1_27) ?_
    show Sp p e below s₁ (mkF m 28 #[.val (.int p1)] [(.int (3 : Int32)), (.int p1)]) _
    refine XS.icmpYes X0.here hx rfl (pc0 := 28) (pc' := 35) rfl (hb hby d1_28) rfl (feq hc4).2 (by decide) (by decide) ?_
    show Sp p e below s₁ (mkF m 35 #[.val (.int p1)] []) _
    refine XS.iloadN X0.here hx rfl (hb hby d1_35) rfl ?_
    show Sp p e below s₁ (mkF m 36 #[.val (.int p1)] [(.int p1)]) _
    refine XS.iconst X0.here hx rfl (hb hby d1_36) ?_
    show Sp p e below s₁ (mkF m 37 #[.val (.int p1)] [(.int (4 : Int32)), (.int p1)]) _
    refine XS.icmpYes X0.here hx rfl (pc0 := 37) (pc' := 44) rfl (hb hby d1_37) rfl (feq hc5).2 (by decide) (by decide) ?_
    show Sp p e below s₁ (mkF m 44 #[.val (.int p1)] []) _
    refine XS.iloadN X0.here hx rfl (hb hby d1_44) rfl ?_
    show Sp p e below s₁ (mkF m 45 #[.val (.int p1)] [(.int p1)]) _
    refine XS.iconst X0.here hx rfl (hb hby d1_45) ?_
    show Sp p e below s₁ (mkF m 46 #[.val (.int p1)] [(.int (5 : Int32)), (.int p1)]) _
    refine XS.icmpYes X0.here hx rfl (pc0 := 46) (pc' := 53) rfl (hb hby d1_46) rfl (feq hc6).2 (by decide) (by decide) ?_
    show Sp p e below s₁ (mkF m 53 #[.val (.int p1)] []) _
    refine XS.iloadN X0.here hx rfl (hb hby d1_53) rfl ?_
    show Sp p e below s₁ (mkF m 54 #[.val (.int p1)] [(.int p1)]) _
    refine XS.bipush X0.here hx rfl (hb hby d1_54) ?_
    show Sp p e below s₁ (mkF m 56 #[.val (.int p1)] [(.int (6 : Int32)), (.int p1)]) _
    refine XS.icmpYes X0.here hx rfl (pc0 := 56) (pc' := 63) rfl (hb hby d1_56) rfl (feq hc7).2 (by decide) (by decide) ?_
    show Sp p e below s₁ (mkF m 63 #[.val (.int p1)] []) _
    refine XS.iloadN X0.here hx rfl (hb hby d1_63) rfl ?_
    show Sp p e below s₁ (mkF m 64 #[.val (.int p1)] [(.int p1)]) _
    refine XS.bipush X0.here hx rfl (hb hby d1_64) ?_
    show Sp p e below s₁ (mkF m 66 #[.val (.int p1)] [(.int (7 : Int32)), (.int p1)]) _
    refine XS.icmpYes X0.here hx rfl (pc0 := 66) (pc' := 73) rfl (hb hby d1_66) rfl (feq hc8).2 (by decide) (by decide) ?_
    show Sp p e below s₁ (mkF m 73 #[.val (.int p1)] []) _
    refine XS.iloadN X0.here hx rfl (hb hby d1_73) rfl ?_
    show Sp p e below s₁ (mkF m 74 #[.val (.int p1)] [(.int p1)]) _
    refine XS.bipush X0.here hx rfl (hb hby d1_74) ?_
    show Sp p e below s₁ (mkF m 76 #[.val (.int p1)] [(.int (8 : Int32)), (.int p1)]) _
    refine XS.icmpYes X0.here hx rfl (pc0 := 76) (pc' := 83) rfl (hb hby d1_76) rfl (feq hc9).2 (by decide) (by decide) ?_
    show Sp p e below s₁ (mkF m 83 #[.val (.int p1)] []) _
    refine XS.iloadN X0.here hx rfl (hb hby d1_83) rfl ?_
    show Sp p e below s₁ (mkF m 84 #[.val (.int p1)] [(.int p1)]) _
    refine XS.bipush X0.here hx rfl (hb hby d1_84) ?_
    show Sp p e below s₁ (mkF m 86 #[.val (.int p1)] [(.int (9 : Int32)), (.int p1)]) _
    refine XS.icmpYes X0.here hx rfl (pc0 := 86) (pc' := 93) rfl (hb hby d1_86) rfl (feq hc10).2 (by decide) (by decide) ?_
    show Sp p e below s₁ (mkF m 93 #[.val (.int p1)] []) _
    refine XS.iloadN X0.here hx rfl (hb hby d1_93) rfl ?_
    show Sp p e below s₁ (mkF m 94 #[.val (.int p1)] [(.int p1)]) _
    refine XS.bipush X0.here hx rfl (hb hby d1_94) ?_
    show Sp p e below s₁ (mkF m 96 #[.val (.int p1)] [(.int (10 : Int32)), (.int p1)]) _
    refine XS.icmpNo X0.here hx rfl (hb hby d1_96) rfl (teq hc11).2 ?_
    show Sp p e below s₁ (mkF m 99 #[.val (.int p1)] []) _
    refine st1 _ ?_
    show Sp p e below T1 (mkF m 102 #[.val (.int p1)] [(.ref w_NIC_ATTACH)]) _
    jvm_step X1.here [X1.here.top, hx, (hb hby d1_102), X1.method', Bd.returns, Value.isRef, FieldType.isReference]
    first | (intro acts; rw [hr _ acts rfl rfl rfl]) | rw [hr _ _ rfl rfl rfl]
    exact Steps.refl _
  · show Q34 Z w_PLATFORM_DEPLOY w_SERVER_START w_PLATFORM_DELETE w_SERVER_DEPLOY w_DISK_DETACH w_NIC_DETACH w_SERVER_STOP w_SNAPSHOT_CREATE w_NIC_ATTACH w_SNAPSHOT_DELETE w_DISK_ATTACH w_SERVER_DELETE p1 h0 n0 _ T1.heap _
    rw [e1]
    exact ⟨rfl, N0, rfl⟩
def Q35 (Z : State) (w_PLATFORM_DEPLOY : Addr) (w_SERVER_START : Addr) (w_PLATFORM_DELETE : Addr) (w_SERVER_DEPLOY : Addr) (w_DISK_DETACH : Addr) (w_NIC_DETACH : Addr) (w_SERVER_STOP : Addr) (w_SNAPSHOT_CREATE : Addr) (w_NIC_ATTACH : Addr) (w_SNAPSHOT_DELETE : Addr) (w_DISK_ATTACH : Addr) (w_SERVER_DELETE : Addr) (h0 : Heap) (n0 : Nat) (v : Option Value) (h : Heap) (L : List Loc) : Prop := v = some (.int (0 : Int32)) ∧ Fr n0 L ∧ h = h0
set_option maxRecDepth 65536 in
set_option maxHeartbeats 40000000 in
theorem rm35 (l : Launch) (Z : State) (a0 : Array Value) (hw : ∀ d ∈ tables_1, d.before a0 Z = true) (ws : List Jvm.Cond) (w_PLATFORM_DEPLOY w_SERVER_START w_PLATFORM_DELETE w_SERVER_DEPLOY w_DISK_DETACH w_NIC_DETACH w_SERVER_STOP w_SNAPSHOT_CREATE w_NIC_ATTACH w_SNAPSHOT_DELETE w_DISK_ATTACH w_SERVER_DELETE : Addr) (hp : Perm Z w_PLATFORM_DEPLOY w_SERVER_START w_PLATFORM_DELETE w_SERVER_DEPLOY w_DISK_DETACH w_NIC_DETACH w_SERVER_STOP w_SNAPSHOT_CREATE w_NIC_ATTACH w_SNAPSHOT_DELETE w_DISK_ATTACH w_SERVER_DELETE) (h0 : Heap) (n0 : Nat) (O0 : Old Z n0 h0) :
    MetFree l y1 (head1 (Jvm.Cond.code y1 prog_20_method_5_code 1 (some .boolean) :: ws) ({ frames := 0, cells := 0, slots := 0, locals := 0 } : Room)) (fun a U => a = #[(.ref w_NIC_ATTACH)] ∧ Z.Warmed39 U.vm ∧ U.heap = h0) (fun _ _ _ _ _ => True) (fun _ U o U' => ∃ v L, o = .returned v ∧ Q35 Z w_PLATFORM_DEPLOY w_SERVER_START w_PLATFORM_DELETE w_SERVER_DEPLOY w_DISK_DETACH w_NIC_DETACH w_SERVER_STOP w_SNAPSHOT_CREATE w_NIC_ATTACH w_SNAPSHOT_DELETE w_DISK_ATTACH w_SERVER_DELETE  h0 n0 v U'.heap L ∧ FrameEnd U o U' L ({ frames := 0, cells := 0, slots := 0, locals := 0 } : Room).cells ({ frames := 0, cells := 0, slots := 0, locals := 0 } : Room).slots) := by
  refine MetFree.of_bodySF (plainFor_of_name pn_2) hisR ?_
  intro p e s m args below meth c s₁ Bd hml0 hP hK
  obtain ⟨rfl, hZ, hh⟩ := hP
  have hx := Bd.exec
  have hby := Bd.bytes
  have hml : c.maxLocals = 1 := hml0
  have hown : s.vm.findClass "com/example/ratebook/ratebook/model/EventType" = some m.cls := findClass_of_methodNamed Bd.named
  have hnm := (name_of_methodNamed Bd.named Bd.method).1
  have X0 : Stand p l e ({ frames := 0, cells := 0, slots := 0, locals := 0 } : Room) s m #[(.ref w_NIC_ATTACH)] below meth c s₁ [] 0 0 := Stand.of_body Bd
  have e0 : s₁.heap = h0 := by rw [← hh, Bd.state]; rfl
  have N0 := Fr.nil n0
  have hp' := hp
  obtain ⟨S_w_PLATFORM_DEPLOY, E_w_PLATFORM_DEPLOY, S_w_SERVER_START, E_w_SERVER_START, S_w_PLATFORM_DELETE, E_w_PLATFORM_DELETE, S_w_SERVER_DEPLOY, E_w_SERVER_DEPLOY, S_w_DISK_DETACH, E_w_DISK_DETACH, S_w_NIC_DETACH, E_w_NIC_DETACH, S_w_SERVER_STOP, E_w_SERVER_STOP, S_w_SNAPSHOT_CREATE, E_w_SNAPSHOT_CREATE, S_w_NIC_ATTACH, E_w_NIC_ATTACH, S_w_SNAPSHOT_DELETE, E_w_SNAPSHOT_DELETE, S_w_DISK_ATTACH, E_w_DISK_ATTACH, S_w_SERVER_DELETE, E_w_SERVER_DELETE, F_ordinal_w_SERVER_START, F_ordinal_w_PLATFORM_DEPLOY, F_ordinal_w_PLATFORM_DELETE, F_ordinal_w_SERVER_DEPLOY, F_ordinal_w_DISK_DETACH, F_ordinal_w_NIC_DETACH, F_ordinal_w_SERVER_STOP, F_ordinal_w_SNAPSHOT_CREATE, F_ordinal_w_NIC_ATTACH, F_ordinal_w_SNAPSHOT_DELETE, F_ordinal_w_DISK_ATTACH, F_ordinal_w_SERVER_DELETE⟩ := hp'
  have pre0 : ∀ t, Steps p.tables e below (s₁.setTop (mkF m 0 #[.val (.ref w_NIC_ATTACH)] [])) t → Steps p.tables e below (s₁.setTop (entryFrame m #[(.ref w_NIC_ATTACH)] 1)) t := fun t k => castTop (ef_2_0 m w_NIC_ATTACH) k
  obtain ⟨T1, X1, e1, st1⟩ := getS2 X0 hx hZ hown (host := "") (Or.inl (hw _ (List.mem_of_getElem? (i := 13) rfl))) Via.refl e0 (S_w_PLATFORM_DEPLOY.ext O0.2) (g := (mkF m 1 #[.val (.ref w_NIC_ATTACH)] [(.ref w_NIC_ATTACH)])) rfl (hb hby d2_1)
  obtain ⟨T2, X2, e2, st2⟩ := getS2 X1 hx hZ hown (host := "") (Or.inl (hw _ (List.mem_of_getElem? (i := 19) rfl))) Via.refl e1 (S_w_PLATFORM_DELETE.ext O0.2) (g := (mkF m 8 #[.val (.ref w_NIC_ATTACH)] [(.ref w_NIC_ATTACH)])) rfl (hb hby d2_8)
  obtain ⟨fs, hr, hrun, hended, hW, hsame⟩ := X2.leave (v := some (.int (0 : Int32))) (fun h => by rw [Bd.returns] at h; cases h)
  refine ⟨_, _, pre0 _ ?_, hrun, hended, _, _, rfl, ?_, ⟨_, rfl⟩, hW, hsame.mono (by decide) (by decide)⟩
  · show Sp p e below s₁ (mkF m 0 #[.val (.ref w_NIC_ATTACH)] []) _
    refine XS.aloadN X0.here hx rfl (hb hby d2_0) rfl rfl ?_
    show Sp p e below s₁ (mkF m 1 #[.val (.ref w_NIC_ATTACH)] [(.ref w_NIC_ATTACH)]) _
    refine st1 _ ?_
    show Sp p e below T1 (mkF m 4 #[.val (.ref w_NIC_ATTACH)] [(.ref w_PLATFORM_DEPLOY), (.ref w_NIC_ATTACH)]) _
    refine Jvm.RoadKit.acmp (g := (mkF m 4 #[.val (.ref w_NIC_ATTACH)] [(.ref w_PLATFORM_DEPLOY), (.ref w_NIC_ATTACH)])) X1 hx rfl rfl rfl (pc0 := 4) (pc' := 7) (same := false) rfl (hb hby d2_4) rfl (decide_eq_false fun q => (Ne.symm (ne_w_PLATFORM_DEPLOY_w_NIC_ATTACH hp)) (Value.ref.inj q)) (by decide) (by decide) ?_
    show Sp p e below T1 (mkF m 7 #[.val (.ref w_NIC_ATTACH)] []) _
    refine XS.aloadN X1.here hx rfl (hb hby d2_7) rfl rfl ?_
    show Sp p e below T1 (mkF m 8 #[.val (.ref w_NIC_ATTACH)] [(.ref w_NIC_ATTACH)]) _
    refine st2 _ ?_
    show Sp p e below T2 (mkF m 11 #[.val (.ref w_NIC_ATTACH)] [(.ref w_PLATFORM_DELETE), (.ref w_NIC_ATTACH)]) _
    refine Jvm.RoadKit.acmp (g := (mkF m 11 #[.val (.ref w_NIC_ATTACH)] [(.ref w_PLATFORM_DELETE), (.ref w_NIC_ATTACH)])) X2 hx rfl rfl rfl (pc0 := 11) (pc' := 18) (same := false) rfl (hb hby d2_11) rfl (decide_eq_false fun q => (Ne.symm (ne_w_PLATFORM_DELETE_w_NIC_ATTACH hp)) (Value.ref.inj q)) (by decide) (by decide) ?_
    show Sp p e below T2 (mkF m 18 #[.val (.ref w_NIC_ATTACH)] []) _
    refine XS.iconst X2.here hx rfl (hb hby d2_18) ?_
    show Sp p e below T2 (mkF m 19 #[.val (.ref w_NIC_ATTACH)] [(.int (0 : Int32))]) _
    exact retN X2 hx (t := .boolean) Bd.returns (by simp) (hb hby d2_19) hr
  · show Q35 Z w_PLATFORM_DEPLOY w_SERVER_START w_PLATFORM_DELETE w_SERVER_DEPLOY w_DISK_DETACH w_NIC_DETACH w_SERVER_STOP w_SNAPSHOT_CREATE w_NIC_ATTACH w_SNAPSHOT_DELETE w_DISK_ATTACH w_SERVER_DELETE  h0 n0 _ T2.heap _
    rw [e2]
    exact ⟨rfl, N0, rfl⟩
set_option maxRecDepth 65536 in
set_option maxHeartbeats 40000000 in
theorem rm36 (l : Launch) (Z : State) (a0 : Array Value) (hw : ∀ d ∈ tables_1, d.before a0 Z = true) (ws : List Jvm.Cond) (w_PLATFORM_DEPLOY w_SERVER_START w_PLATFORM_DELETE w_SERVER_DEPLOY w_DISK_DETACH w_NIC_DETACH w_SERVER_STOP w_SNAPSHOT_CREATE w_NIC_ATTACH w_SNAPSHOT_DELETE w_DISK_ATTACH w_SERVER_DELETE : Addr) (hp : Perm Z w_PLATFORM_DEPLOY w_SERVER_START w_PLATFORM_DELETE w_SERVER_DEPLOY w_DISK_DETACH w_NIC_DETACH w_SERVER_STOP w_SNAPSHOT_CREATE w_NIC_ATTACH w_SNAPSHOT_DELETE w_DISK_ATTACH w_SERVER_DELETE) (p0 : Int32) (h0 : Heap) (n0 : Nat) (O0 : Old Z n0 h0) (hc1 : ¬ (((p0 &&& (2147483647 : Int32)) % (12 : Int32)) = (0 : Int32))) (hc2 : ¬ (((p0 &&& (2147483647 : Int32)) % (12 : Int32)) = (1 : Int32))) (hc3 : ¬ (((p0 &&& (2147483647 : Int32)) % (12 : Int32)) = (2 : Int32))) (hc4 : ¬ (((p0 &&& (2147483647 : Int32)) % (12 : Int32)) = (3 : Int32))) (hc5 : ¬ (((p0 &&& (2147483647 : Int32)) % (12 : Int32)) = (4 : Int32))) (hc6 : ¬ (((p0 &&& (2147483647 : Int32)) % (12 : Int32)) = (5 : Int32))) (hc7 : ¬ (((p0 &&& (2147483647 : Int32)) % (12 : Int32)) = (6 : Int32))) (hc8 : ¬ (((p0 &&& (2147483647 : Int32)) % (12 : Int32)) = (7 : Int32))) (hc9 : ¬ (((p0 &&& (2147483647 : Int32)) % (12 : Int32)) = (8 : Int32))) (hc10 : ¬ (((p0 &&& (2147483647 : Int32)) % (12 : Int32)) = (9 : Int32))) (hc11 : ((p0 &&& (2147483647 : Int32)) % (12 : Int32)) = (10 : Int32)) :
    MetFree l x (head1 (Jvm.Cond.code x code maxLocals ret :: ws) room_1) (fun a U => a = #[(.int p0)] ∧ Z.Warmed39 U.vm ∧ U.heap = h0) (fun _ _ _ _ _ => True) (fun _ U o U' => ∃ v L, o = .returned v ∧ (v = some (.int (1 : Int32)) ∧ Fr n0 L) ∧ FrameEnd U o U' L 0 0) := by
  refine MetFree.of_bodySF (plainFor_of_name pn_1) hisR ?_
  intro p e s m args below meth c s₁ Bd hml0 hP hK
  obtain ⟨rfl, hZ, hh⟩ := hP
  have hx := Bd.exec
  have hby := Bd.bytes
  have hml : c.maxLocals = 3 := hml0
  have hown : s.vm.findClass "com/example/ratebook/ratebook/model/EventTypeIsPlatformEventPinLaw" = some m.cls := findClass_of_methodNamed Bd.named
  have hnm := (name_of_methodNamed Bd.named Bd.method).1
  have X0 : Stand p l e room_1 s m #[(.int p0)] below meth c s₁ [] 0 0 := Stand.of_body Bd
  have e0 : s₁.heap = h0 := by rw [← hh, Bd.state]; rfl
  have N0 := Fr.nil n0
  have hp' := hp
  obtain ⟨S_w_PLATFORM_DEPLOY, E_w_PLATFORM_DEPLOY, S_w_SERVER_START, E_w_SERVER_START, S_w_PLATFORM_DELETE, E_w_PLATFORM_DELETE, S_w_SERVER_DEPLOY, E_w_SERVER_DEPLOY, S_w_DISK_DETACH, E_w_DISK_DETACH, S_w_NIC_DETACH, E_w_NIC_DETACH, S_w_SERVER_STOP, E_w_SERVER_STOP, S_w_SNAPSHOT_CREATE, E_w_SNAPSHOT_CREATE, S_w_NIC_ATTACH, E_w_NIC_ATTACH, S_w_SNAPSHOT_DELETE, E_w_SNAPSHOT_DELETE, S_w_DISK_ATTACH, E_w_DISK_ATTACH, S_w_SERVER_DELETE, E_w_SERVER_DELETE, F_ordinal_w_SERVER_START, F_ordinal_w_PLATFORM_DEPLOY, F_ordinal_w_PLATFORM_DELETE, F_ordinal_w_SERVER_DEPLOY, F_ordinal_w_DISK_DETACH, F_ordinal_w_NIC_DETACH, F_ordinal_w_SERVER_STOP, F_ordinal_w_SNAPSHOT_CREATE, F_ordinal_w_NIC_ATTACH, F_ordinal_w_SNAPSHOT_DELETE, F_ordinal_w_DISK_ATTACH, F_ordinal_w_SERVER_DELETE⟩ := hp'
  have pre0 : ∀ t, Steps p.tables e below (s₁.setTop (mkF m 0 #[.val (.int p0), .unset, .unset] [])) t → Steps p.tables e below (s₁.setTop (entryFrame m #[(.int p0)] maxLocals)) t := fun t k => castTop (ef_0_0 m p0) k
  obtain ⟨_, _, ⟨T1, L1, k1, n1⟩, -, X1, ⟨Lc1, hQ1, l1, y1, z1⟩, st1⟩ := Jvm.LawKit.callS X0 hx (y := y0) hown (mvT hZ (hw _ (List.mem_of_getElem? (i := 1) rfl))) (mvT hZ (hw _ (List.mem_of_getElem? (i := 2) rfl))) (mvT hZ (hw _ (List.mem_of_getElem? (i := 3) rfl))) (mvT hZ (hw _ (List.mem_of_getElem? (i := 4) rfl))) (by decide) (backOf (W := 0) (rm34 l Z a0 hw [] w_PLATFORM_DEPLOY w_SERVER_START w_PLATFORM_DELETE w_SERVER_DEPLOY w_DISK_DETACH w_NIC_DETACH w_SERVER_STOP w_SNAPSHOT_CREATE w_NIC_ATTACH w_SNAPSHOT_DELETE w_DISK_ATTACH w_SERVER_DELETE hp ((p0 &&& (2147483647 : Int32)) % (12 : Int32)) h0 n0 O0 hc1 hc2 hc3 hc4 hc5 hc6 hc7 hc8 hc9 hc10 hc11) hZ (hw _ (List.mem_of_getElem? (i := 4) rfl)) (hw _ (List.mem_of_getElem? (i := 3) rfl)) (by decide) (by decide)) (g := (mkF m 9 #[.val (.int p0), .val (.int ((p0 &&& (2147483647 : Int32)) % (12 : Int32))), .unset] [(.int ((p0 &&& (2147483647 : Int32)) % (12 : Int32)))])) rfl (by rw [hml]; rfl) (argsL := [(.int ((p0 &&& (2147483647 : Int32)) % (12 : Int32)))]) (rest := []) (lenOf pd_0 rfl) rfl (by show 2 * 0 + _ ≤ _; exact Nat.le_of_eq rfl) (hb hby at_9) (fun _ _ => ⟨rfl, e0, (by decide : 0 + 0 ≤ _), (by decide : 0 + 0 ≤ _)⟩)
  dsimp only [Pt.U, Pt.locs, Pt.cells, Pt.slots] at X1 l1 y1 z1 st1 hQ1
  subst l1 y1 z1
  obtain ⟨rfl, Nq1, eq1⟩ := hQ1
  have N1 := Fr.app N0 Nq1
  obtain ⟨cq2, kq2, q2a, q2b, q2c⟩ := isOf hZ eq1 (E_w_NIC_ATTACH.ext O0.2)
  obtain ⟨_, _, ⟨T2, L2, k2, n2⟩, -, X2, ⟨Lc2, hQ2, l2, y2, z2⟩, st2⟩ := X1.virtualBack hx (y := y1) (z := y1) hown (mvT hZ (hw _ (List.mem_of_getElem? (i := 8) rfl))) (mvT hZ (hw _ (List.mem_of_getElem? (i := 9) rfl))) (notFace_of_selects (args := #[]) (mvT hZ (hw _ (List.mem_of_getElem? (i := 11) rfl)))) (mvT hZ (hw _ (List.mem_of_getElem? (i := 11) rfl))) (mvT hZ (hw _ (List.mem_of_getElem? (i := 10) rfl))) (by decide) (backOf (W := 0) (rm35 l Z a0 hw [] w_PLATFORM_DEPLOY w_SERVER_START w_PLATFORM_DELETE w_SERVER_DEPLOY w_DISK_DETACH w_NIC_DETACH w_SERVER_STOP w_SNAPSHOT_CREATE w_NIC_ATTACH w_SNAPSHOT_DELETE w_DISK_ATTACH w_SERVER_DELETE hp h0 n0 O0) hZ (hw _ (List.mem_of_getElem? (i := 12) rfl)) (hw _ (List.mem_of_getElem? (i := 6) rfl)) (by decide) (by decide)) q2a q2c (g := (mkF m 14 #[.val (.int p0), .val (.int ((p0 &&& (2147483647 : Int32)) % (12 : Int32))), .val (.ref w_NIC_ATTACH)] [(.ref w_NIC_ATTACH)])) rfl (by rw [hml]; rfl) (Steps.refl _) (argsL := []) (rest := []) (lenOf pd_1 rfl) rfl (by show 2 * 0 + _ ≤ _; exact Nat.le_of_eq rfl) (hb hby at_14) (fun _ _ => ⟨rfl, eq1, (by decide : 0 + 0 ≤ _), (by decide : 0 + 0 ≤ _)⟩)
  dsimp only [Pt.U, Pt.locs, Pt.cells, Pt.slots] at X2 l2 y2 z2 st2 hQ2
  subst l2 y2 z2
  obtain ⟨rfl, Nq2, eq2⟩ := hQ2
  have N2 := Fr.app N1 Nq2
  obtain ⟨_, _, ⟨T3, L3, k3, n3⟩, -, X3, ⟨Lc3, hQ3, l3, y3, z3⟩, st3⟩ := Jvm.LawKit.callS X2 hx (y := y2) hown (mvT hZ (hw _ (List.mem_of_getElem? (i := 14) rfl))) (mvT hZ (hw _ (List.mem_of_getElem? (i := 15) rfl))) (mvT hZ (hw _ (List.mem_of_getElem? (i := 3) rfl))) (mvT hZ (hw _ (List.mem_of_getElem? (i := 16) rfl))) (by decide) (backOf (W := 1) (rm11 l Z a0 hw [] w_PLATFORM_DEPLOY w_SERVER_START w_PLATFORM_DELETE w_SERVER_DEPLOY w_DISK_DETACH w_NIC_DETACH w_SERVER_STOP w_SNAPSHOT_CREATE w_NIC_ATTACH w_SNAPSHOT_DELETE w_DISK_ATTACH w_SERVER_DELETE hp ((p0 &&& (2147483647 : Int32)) % (12 : Int32)) h0 n0 O0 hc1 hc2) hZ (hw _ (List.mem_of_getElem? (i := 16) rfl)) (hw _ (List.mem_of_getElem? (i := 3) rfl)) (by decide) (by decide)) (g := (mkF m 18 #[.val (.int p0), .val (.int ((p0 &&& (2147483647 : Int32)) % (12 : Int32))), .val (.ref w_NIC_ATTACH)] [(.int ((p0 &&& (2147483647 : Int32)) % (12 : Int32))), (.int (0 : Int32))])) rfl (by rw [hml]; rfl) (argsL := [(.int ((p0 &&& (2147483647 : Int32)) % (12 : Int32)))]) (rest := [(.int (0 : Int32))]) (lenOf pd_2 rfl) rfl (by show 2 * 0 + _ ≤ _; exact Nat.le_of_eq rfl) (hb hby at_18) (fun _ _ => ⟨rfl, eq2, (by decide : 0 + 0 ≤ _), (by decide : 0 + 0 ≤ _)⟩)
  dsimp only [Pt.U, Pt.locs, Pt.cells, Pt.slots] at X3 l3 y3 z3 st3 hQ3
  subst l3 y3 z3
  obtain ⟨rfl, Nq3, eq3⟩ := hQ3
  have N3 := Fr.app N2 Nq3
  obtain ⟨fs, hr, hrun, hended, hW, hsame⟩ := X3.leave (v := some (.int (1 : Int32))) (fun h => by rw [Bd.returns] at h; cases h)
  refine ⟨_, _, pre0 _ ?_, hrun, hended, _, _, rfl, ?_, ⟨_, rfl⟩, hW, hsame.mono (by decide) (by decide)⟩
  · show Sp p e below s₁ (mkF m 0 #[.val (.int p0), .unset, .unset] []) _
    refine XS.iloadN X0.here hx rfl (hb hby at_0) rfl ?_
    show Sp p e below s₁ (mkF m 1 #[.val (.int p0), .unset, .unset] [(.int p0)]) _
    refine X0.ldcI hx hown (mvT hZ (hw _ (List.mem_of_getElem? (i := 0) rfl))) rfl (hb hby at_1) ?_
    show Sp p e below s₁ (mkF m 3 #[.val (.int p0), .unset, .unset] [(.int (2147483647 : Int32)), (.int p0)]) _
    refine XS.iand X0.here hx rfl (hb hby at_3) rfl ?_
    show Sp p e below s₁ (mkF m 4 #[.val (.int p0), .unset, .unset] [(.int (p0 &&& (2147483647 : Int32)))]) _
    refine XS.bipush X0.here hx rfl (hb hby at_4) ?_
    show Sp p e below s₁ (mkF m 6 #[.val (.int p0), .unset, .unset] [(.int (12 : Int32)), (.int (p0 &&& (2147483647 : Int32)))]) _
    refine iremM X0 hx rfl (hb hby at_6) rfl (by decide) ?_
    show Sp p e below s₁ (mkF m 7 #[.val (.int p0), .unset, .unset] [(.int ((p0 &&& (2147483647 : Int32)) % (12 : Int32)))]) _
    refine XS.istoreN X0.here hx rfl (hb hby at_7) rfl (l' := #[.val (.int p0), .val (.int ((p0 &&& (2147483647 : Int32)) % (12 : Int32))), .unset]) rfl ?_
    show Sp p e below s₁ (mkF m 8 #[.val (.int p0), .val (.int ((p0 &&& (2147483647 : Int32)) % (12 : Int32))), .unset] []) _
    refine XS.iloadN X0.here hx rfl (hb hby at_8) rfl ?_
    show Sp p e below s₁ (mkF m 9 #[.val (.int p0), .val (.int ((p0 &&& (2147483647 : Int32)) % (12 : Int32))), .unset] [(.int ((p0 &&& (2147483647 : Int32)) % (12 : Int32)))]) _
    refine st1 _ ?_
    show Sp p e below T1 (mkF m 12 #[.val (.int p0), .val (.int ((p0 &&& (2147483647 : Int32)) % (12 : Int32))), .unset] [(.ref w_NIC_ATTACH)]) _
    refine XS.astoreN X1.here hx rfl (hb hby at_12) rfl rfl (l' := #[.val (.int p0), .val (.int ((p0 &&& (2147483647 : Int32)) % (12 : Int32))), .val (.ref w_NIC_ATTACH)]) rfl ?_
    show Sp p e below T1 (mkF m 13 #[.val (.int p0), .val (.int ((p0 &&& (2147483647 : Int32)) % (12 : Int32))), .val (.ref w_NIC_ATTACH)] []) _
    refine XS.aloadN X1.here hx rfl (hb hby at_13) rfl rfl ?_
    show Sp p e below T1 (mkF m 14 #[.val (.int p0), .val (.int ((p0 &&& (2147483647 : Int32)) % (12 : Int32))), .val (.ref w_NIC_ATTACH)] [(.ref w_NIC_ATTACH)]) _
    refine st2.trans ?_
    show Sp p e below T2 (mkF m 17 #[.val (.int p0), .val (.int ((p0 &&& (2147483647 : Int32)) % (12 : Int32))), .val (.ref w_NIC_ATTACH)] [(.int (0 : Int32))]) _
    refine XS.iloadN X2.here hx rfl (hb hby at_17) rfl ?_
    show Sp p e below T2 (mkF m 18 #[.val (.int p0), .val (.int ((p0 &&& (2147483647 : Int32)) % (12 : Int32))), .val (.ref w_NIC_ATTACH)] [(.int ((p0 &&& (2147483647 : Int32)) % (12 : Int32))), (.int (0 : Int32))]) _
    refine st3 _ ?_
    show Sp p e below T3 (mkF m 21 #[.val (.int p0), .val (.int ((p0 &&& (2147483647 : Int32)) % (12 : Int32))), .val (.ref w_NIC_ATTACH)] [(.int (0 : Int32)), (.int (0 : Int32))]) _
    refine XS.icmpNo X3.here hx rfl (hb hby at_21) rfl (teq (by decide : (0 : Int32) = (0 : Int32))).2 ?_
    show Sp p e below T3 (mkF m 24 #[.val (.int p0), .val (.int ((p0 &&& (2147483647 : Int32)) % (12 : Int32))), .val (.ref w_NIC_ATTACH)] []) _
    refine XS.iconst X3.here hx rfl (hb hby at_24) ?_
    show Sp p e below T3 (mkF m 25 #[.val (.int p0), .val (.int ((p0 &&& (2147483647 : Int32)) % (12 : Int32))), .val (.ref w_NIC_ATTACH)] [(.int (1 : Int32))]) _
    refine XS.goto X3.here hx rfl (pc0 := 25) (pc' := 29) rfl (hb hby at_25) (by decide) (by decide) ?_
    show Sp p e below T3 (mkF m 29 #[.val (.int p0), .val (.int ((p0 &&& (2147483647 : Int32)) % (12 : Int32))), .val (.ref w_NIC_ATTACH)] [(.int (1 : Int32))]) _
    exact retN X3 hx (t := .boolean) Bd.returns (by simp) (hb hby at_29) hr
  · skip
    exact ⟨rfl, N3⟩
theorem d1_103 : decode method_2_code 103 = .ok (.getstatic 43, 3) := by decide +kernel
theorem d1_106 : decode method_2_code 106 = .ok (.areturn, 1) := by decide +kernel
def Q37 (Z : State) (w_PLATFORM_DEPLOY : Addr) (w_SERVER_START : Addr) (w_PLATFORM_DELETE : Addr) (w_SERVER_DEPLOY : Addr) (w_DISK_DETACH : Addr) (w_NIC_DETACH : Addr) (w_SERVER_STOP : Addr) (w_SNAPSHOT_CREATE : Addr) (w_NIC_ATTACH : Addr) (w_SNAPSHOT_DELETE : Addr) (w_DISK_ATTACH : Addr) (w_SERVER_DELETE : Addr) (p1 : Int32) (h0 : Heap) (n0 : Nat) (v : Option Value) (h : Heap) (L : List Loc) : Prop := v = some (.ref w_NIC_DETACH) ∧ Fr n0 L ∧ h = h0
set_option maxRecDepth 65536 in
set_option maxHeartbeats 40000000 in
theorem rm37 (l : Launch) (Z : State) (a0 : Array Value) (hw : ∀ d ∈ tables_1, d.before a0 Z = true) (ws : List Jvm.Cond) (w_PLATFORM_DEPLOY w_SERVER_START w_PLATFORM_DELETE w_SERVER_DEPLOY w_DISK_DETACH w_NIC_DETACH w_SERVER_STOP w_SNAPSHOT_CREATE w_NIC_ATTACH w_SNAPSHOT_DELETE w_DISK_ATTACH w_SERVER_DELETE : Addr) (hp : Perm Z w_PLATFORM_DEPLOY w_SERVER_START w_PLATFORM_DELETE w_SERVER_DEPLOY w_DISK_DETACH w_NIC_DETACH w_SERVER_STOP w_SNAPSHOT_CREATE w_NIC_ATTACH w_SNAPSHOT_DELETE w_DISK_ATTACH w_SERVER_DELETE) (p1 : Int32) (h0 : Heap) (n0 : Nat) (O0 : Old Z n0 h0) (hc1 : ¬ (p1 = (0 : Int32))) (hc2 : ¬ (p1 = (1 : Int32))) (hc3 : ¬ (p1 = (2 : Int32))) (hc4 : ¬ (p1 = (3 : Int32))) (hc5 : ¬ (p1 = (4 : Int32))) (hc6 : ¬ (p1 = (5 : Int32))) (hc7 : ¬ (p1 = (6 : Int32))) (hc8 : ¬ (p1 = (7 : Int32))) (hc9 : ¬ (p1 = (8 : Int32))) (hc10 : ¬ (p1 = (9 : Int32))) (hc11 : ¬ (p1 = (10 : Int32))) :
    MetFree l y0 (head1 (Jvm.Cond.code y0 method_2_code 1 (some (.object "com/example/ratebook/ratebook/model/EventType")) :: ws) ({ frames := 0, cells := 0, slots := 0, locals := 0 } : Room)) (fun a U => a = #[(.int p1)] ∧ Z.Warmed39 U.vm ∧ U.heap = h0) (fun _ _ _ _ _ => True) (fun _ U o U' => ∃ v L, o = .returned v ∧ Q37 Z w_PLATFORM_DEPLOY w_SERVER_START w_PLATFORM_DELETE w_SERVER_DEPLOY w_DISK_DETACH w_NIC_DETACH w_SERVER_STOP w_SNAPSHOT_CREATE w_NIC_ATTACH w_SNAPSHOT_DELETE w_DISK_ATTACH w_SERVER_DELETE p1 h0 n0 v U'.heap L ∧ FrameEnd U o U' L ({ frames := 0, cells := 0, slots := 0, locals := 0 } : Room).cells ({ frames := 0, cells := 0, slots := 0, locals := 0 } : Room).slots) := by
  refine MetFree.of_bodySF (plainFor_of_name pn_1) hisR ?_
  intro p e s m args below meth c s₁ Bd hml0 hP hK
  obtain ⟨rfl, hZ, hh⟩ := hP
  have hx := Bd.exec
  have hby := Bd.bytes
  have hml : c.maxLocals = 1 := hml0
  have hown : s.vm.findClass "com/example/ratebook/ratebook/model/EventTypeIsPlatformEventPinLaw" = some m.cls := findClass_of_methodNamed Bd.named
  have hnm := (name_of_methodNamed Bd.named Bd.method).1
  have X0 : Stand p l e ({ frames := 0, cells := 0, slots := 0, locals := 0 } : Room) s m #[(.int p1)] below meth c s₁ [] 0 0 := Stand.of_body Bd
  have e0 : s₁.heap = h0 := by rw [← hh, Bd.state]; rfl
  have N0 := Fr.nil n0
  have hp' := hp
  obtain ⟨S_w_PLATFORM_DEPLOY, E_w_PLATFORM_DEPLOY, S_w_SERVER_START, E_w_SERVER_START, S_w_PLATFORM_DELETE, E_w_PLATFORM_DELETE, S_w_SERVER_DEPLOY, E_w_SERVER_DEPLOY, S_w_DISK_DETACH, E_w_DISK_DETACH, S_w_NIC_DETACH, E_w_NIC_DETACH, S_w_SERVER_STOP, E_w_SERVER_STOP, S_w_SNAPSHOT_CREATE, E_w_SNAPSHOT_CREATE, S_w_NIC_ATTACH, E_w_NIC_ATTACH, S_w_SNAPSHOT_DELETE, E_w_SNAPSHOT_DELETE, S_w_DISK_ATTACH, E_w_DISK_ATTACH, S_w_SERVER_DELETE, E_w_SERVER_DELETE, F_ordinal_w_SERVER_START, F_ordinal_w_PLATFORM_DEPLOY, F_ordinal_w_PLATFORM_DELETE, F_ordinal_w_SERVER_DEPLOY, F_ordinal_w_DISK_DETACH, F_ordinal_w_NIC_DETACH, F_ordinal_w_SERVER_STOP, F_ordinal_w_SNAPSHOT_CREATE, F_ordinal_w_NIC_ATTACH, F_ordinal_w_SNAPSHOT_DELETE, F_ordinal_w_DISK_ATTACH, F_ordinal_w_SERVER_DELETE⟩ := hp'
  have pre0 : ∀ t, Steps p.tables e below (s₁.setTop (mkF m 0 #[.val (.int p1)] [])) t → Steps p.tables e below (s₁.setTop (entryFrame m #[(.int p1)] 1)) t := fun t k => castTop (ef_1_0 m p1) k
  obtain ⟨T1, X1, e1, st1⟩ := getS2 X0 hx hZ hown (host := "") (Or.inl (hw _ (List.mem_of_getElem? (i := 25) rfl))) Via.refl e0 (S_w_NIC_DETACH.ext O0.2) (g := (mkF m 103 #[.val (.int p1)] [])) rfl (hb hby d1_103)
  obtain ⟨fs, hr, hrun, hended, hW, hsame⟩ := X1.leave (v := some (.ref w_NIC_DETACH)) (fun h => by rw [Bd.returns] at h; cases h)
  refine ⟨_, _, pre0 _ ?_, hrun, hended, _, _, rfl, ?_, ⟨_, rfl⟩, hW, hsame.mono (by decide) (by decide)⟩
  · show Sp p e below s₁ (mkF m 0 #[.val (.int p1)] []) _
    refine XS.iloadN X0.here hx rfl (hb hby d1_0) rfl ?_
    show Sp p e below s₁ (mkF m 1 #[.val (.int p1)] [(.int p1)]) _
    refine XS.ifYes X0.here hx rfl (pc0 := 1) (pc' := 8) rfl (hb hby d1_1) rfl ((if0 _ _).trans (feq hc1).2) (by decide) (by decide) ?_
    show Sp p e below s₁ (mkF m 8 #[.val (.int p1)] []) _
    refine XS.iloadN X0.here hx rfl (hb hby d1_8) rfl ?_
    show Sp p e below s₁ (mkF m 9 #[.val (.int p1)] [(.int p1)]) _
    refine XS.iconst X0.here hx rfl (hb hby d1_9) ?_
    show Sp p e below s₁ (mkF m 10 #[.val (.int p1)] [(.int (1 : Int32)), (.int p1)]) _
    refine XS.icmpYes X0.here hx rfl (pc0 := 10) (pc' := 17) rfl (hb hby d1_10) rfl (feq hc2).2 (by decide) (by decide) ?_
    show Sp p e below s₁ (mkF m 17 #[.val (.int p1)] []) _
    refine XS.iloadN X0.here hx rfl (hb hby d1_17) rfl ?_
    show Sp p e below s₁ (mkF m 18 #[.val (.int p1)] [(.int p1)]) _
    refine XS.iconst X0.here hx rfl (hb hby d1_18) ?_
    show Sp p e below s₁ (mkF m 19 #[.val (.int p1)] [(.int (2 : Int32)), (.int p1)]) _
    refine XS.icmpYes X0.here hx rfl (pc0 := 19) (pc' := 26) rfl (hb hby d1_19) rfl (feq hc3).2 (by decide) (by decide) ?_
    show Sp p e below s₁ (mkF m 26 #[.val (.int p1)] []) _
    refine XS.iloadN X0.here hx rfl (hb hby d1_26) rfl ?_
    show Sp p e below s₁ (mkF m 27 #[.val (.int p1)] [(.int p1)]) _
    refine XS.iconst X0.here hx rfl (hb hby d1_27) ?_
    show Sp p e below s₁ (mkF m 28 #[.val (.int p1)] [(.int (3 : Int32)), (.int p1)]) _
    refine XS.icmpYes X0.here hx rfl (pc0 := 28) (pc' := 35) rfl (hb hby d1_28) rfl (feq hc4).2 (by decide) (by decide) ?_
    show Sp p e below s₁ (mkF m 35 #[.val (.int p1)] []) _
    refine XS.iloadN X0.here hx rfl (hb hby d1_35) rfl ?_
    show Sp p e below s₁ (mkF m 36 #[.val (.int p1)] [(.int p1)]) _
    refine XS.iconst X0.here hx rfl (hb hby d1_36) ?_
    show Sp p e below s₁ (mkF m 37 #[.val (.int p1)] [(.int (4 : Int32)), (.int p1)]) _
    refine XS.icmpYes X0.here hx rfl (pc0 := 37) (pc' := 44) rfl (hb hby d1_37) rfl (feq hc5).2 (by decide) (by decide) ?_
    show Sp p e below s₁ (mkF m 44 #[.val (.int p1)] []) _
    refine XS.iloadN X0.here hx rfl (hb hby d1_44) rfl ?_
    show Sp p e below s₁ (mkF m 45 #[.val (.int p1)] [(.int p1)]) _
    refine XS.iconst X0.here hx rfl (hb hby d1_45) ?_
    show Sp p e below s₁ (mkF m 46 #[.val (.int p1)] [(.int (5 : Int32)), (.int p1)]) _
    refine XS.icmpYes X0.here hx rfl (pc0 := 46) (pc' := 53) rfl (hb hby d1_46) rfl (feq hc6).2 (by decide) (by decide) ?_
    show Sp p e below s₁ (mkF m 53 #[.val (.int p1)] []) _
    refine XS.iloadN X0.here hx rfl (hb hby d1_53) rfl ?_
    show Sp p e below s₁ (mkF m 54 #[.val (.int p1)] [(.int p1)]) _
    refine XS.bipush X0.here hx rfl (hb hby d1_54) ?_
    show Sp p e below s₁ (mkF m 56 #[.val (.int p1)] [(.int (6 : Int32)), (.int p1)]) _
    refine XS.icmpYes X0.here hx rfl (pc0 := 56) (pc' := 63) rfl (hb hby d1_56) rfl (feq hc7).2 (by decide) (by decide) ?_
    show Sp p e below s₁ (mkF m 63 #[.val (.int p1)] []) _
    refine XS.iloadN X0.here hx rfl (hb hby d1_63) rfl ?_
    show Sp p e below s₁ (mkF m 64 #[.val (.int p1)] [(.int p1)]) _
    refine XS.bipush X0.here hx rfl (hb hby d1_64) ?_
    show Sp p e below s₁ (mkF m 66 #[.val (.int p1)] [(.int (7 : Int32)), (.int p1)]) _
    refine XS.icmpYes X0.here hx rfl (pc0 := 66) (pc' := 73) rfl (hb hby d1_66) rfl (feq hc8).2 (by decide) (by decide) ?_
    show Sp p e below s₁ (mkF m 73 #[.val (.int p1)] []) _
    refine XS.iloadN X0.here hx rfl (hb hby d1_73) rfl ?_
    show Sp p e below s₁ (mkF m 74 #[.val (.int p1)] [(.int p1)]) _
    refine XS.bipush X0.here hx rfl (hb hby d1_74) ?_
    show Sp p e below s₁ (mkF m 76 #[.val (.int p1)] [(.int (8 : Int32)), (.int p1)]) _
    refine XS.icmpYes X0.here hx rfl (pc0 := 76) (pc' := 83) rfl (hb hby d1_76) rfl (feq hc9).2 (by decide) (by decide) ?_
    show Sp p e below s₁ (mkF m 83 #[.val (.int p1)] []) _
    refine XS.iloadN X0.here hx rfl (hb hby d1_83) rfl ?_
    show Sp p e below s₁ (mkF m 84 #[.val (.int p1)] [(.int p1)]) _
    refine XS.bipush X0.here hx rfl (hb hby d1_84) ?_
    show Sp p e below s₁ (mkF m 86 #[.val (.int p1)] [(.int (9 : Int32)), (.int p1)]) _
    refine XS.icmpYes X0.here hx rfl (pc0 := 86) (pc' := 93) rfl (hb hby d1_86) rfl (feq hc10).2 (by decide) (by decide) ?_
    show Sp p e below s₁ (mkF m 93 #[.val (.int p1)] []) _
    refine XS.iloadN X0.here hx rfl (hb hby d1_93) rfl ?_
    show Sp p e below s₁ (mkF m 94 #[.val (.int p1)] [(.int p1)]) _
    refine XS.bipush X0.here hx rfl (hb hby d1_94) ?_
    show Sp p e below s₁ (mkF m 96 #[.val (.int p1)] [(.int (10 : Int32)), (.int p1)]) _
    refine XS.icmpYes X0.here hx rfl (pc0 := 96) (pc' := 103) rfl (hb hby d1_96) rfl (feq hc11).2 (by decide) (by decide) ?_
    show Sp p e below s₁ (mkF m 103 #[.val (.int p1)] []) _
    refine st1 _ ?_
    show Sp p e below T1 (mkF m 106 #[.val (.int p1)] [(.ref w_NIC_DETACH)]) _
    jvm_step X1.here [X1.here.top, hx, (hb hby d1_106), X1.method', Bd.returns, Value.isRef, FieldType.isReference]
    first | (intro acts; rw [hr _ acts rfl rfl rfl]) | rw [hr _ _ rfl rfl rfl]
    exact Steps.refl _
  · show Q37 Z w_PLATFORM_DEPLOY w_SERVER_START w_PLATFORM_DELETE w_SERVER_DEPLOY w_DISK_DETACH w_NIC_DETACH w_SERVER_STOP w_SNAPSHOT_CREATE w_NIC_ATTACH w_SNAPSHOT_DELETE w_DISK_ATTACH w_SERVER_DELETE p1 h0 n0 _ T1.heap _
    rw [e1]
    exact ⟨rfl, N0, rfl⟩
def Q38 (Z : State) (w_PLATFORM_DEPLOY : Addr) (w_SERVER_START : Addr) (w_PLATFORM_DELETE : Addr) (w_SERVER_DEPLOY : Addr) (w_DISK_DETACH : Addr) (w_NIC_DETACH : Addr) (w_SERVER_STOP : Addr) (w_SNAPSHOT_CREATE : Addr) (w_NIC_ATTACH : Addr) (w_SNAPSHOT_DELETE : Addr) (w_DISK_ATTACH : Addr) (w_SERVER_DELETE : Addr) (h0 : Heap) (n0 : Nat) (v : Option Value) (h : Heap) (L : List Loc) : Prop := v = some (.int (0 : Int32)) ∧ Fr n0 L ∧ h = h0
set_option maxRecDepth 65536 in
set_option maxHeartbeats 40000000 in
theorem rm38 (l : Launch) (Z : State) (a0 : Array Value) (hw : ∀ d ∈ tables_1, d.before a0 Z = true) (ws : List Jvm.Cond) (w_PLATFORM_DEPLOY w_SERVER_START w_PLATFORM_DELETE w_SERVER_DEPLOY w_DISK_DETACH w_NIC_DETACH w_SERVER_STOP w_SNAPSHOT_CREATE w_NIC_ATTACH w_SNAPSHOT_DELETE w_DISK_ATTACH w_SERVER_DELETE : Addr) (hp : Perm Z w_PLATFORM_DEPLOY w_SERVER_START w_PLATFORM_DELETE w_SERVER_DEPLOY w_DISK_DETACH w_NIC_DETACH w_SERVER_STOP w_SNAPSHOT_CREATE w_NIC_ATTACH w_SNAPSHOT_DELETE w_DISK_ATTACH w_SERVER_DELETE) (h0 : Heap) (n0 : Nat) (O0 : Old Z n0 h0) :
    MetFree l y1 (head1 (Jvm.Cond.code y1 prog_20_method_5_code 1 (some .boolean) :: ws) ({ frames := 0, cells := 0, slots := 0, locals := 0 } : Room)) (fun a U => a = #[(.ref w_NIC_DETACH)] ∧ Z.Warmed39 U.vm ∧ U.heap = h0) (fun _ _ _ _ _ => True) (fun _ U o U' => ∃ v L, o = .returned v ∧ Q38 Z w_PLATFORM_DEPLOY w_SERVER_START w_PLATFORM_DELETE w_SERVER_DEPLOY w_DISK_DETACH w_NIC_DETACH w_SERVER_STOP w_SNAPSHOT_CREATE w_NIC_ATTACH w_SNAPSHOT_DELETE w_DISK_ATTACH w_SERVER_DELETE  h0 n0 v U'.heap L ∧ FrameEnd U o U' L ({ frames := 0, cells := 0, slots := 0, locals := 0 } : Room).cells ({ frames := 0, cells := 0, slots := 0, locals := 0 } : Room).slots) := by
  refine MetFree.of_bodySF (plainFor_of_name pn_2) hisR ?_
  intro p e s m args below meth c s₁ Bd hml0 hP hK
  obtain ⟨rfl, hZ, hh⟩ := hP
  have hx := Bd.exec
  have hby := Bd.bytes
  have hml : c.maxLocals = 1 := hml0
  have hown : s.vm.findClass "com/example/ratebook/ratebook/model/EventType" = some m.cls := findClass_of_methodNamed Bd.named
  have hnm := (name_of_methodNamed Bd.named Bd.method).1
  have X0 : Stand p l e ({ frames := 0, cells := 0, slots := 0, locals := 0 } : Room) s m #[(.ref w_NIC_DETACH)] below meth c s₁ [] 0 0 := Stand.of_body Bd
  have e0 : s₁.heap = h0 := by rw [← hh, Bd.state]; rfl
  have N0 := Fr.nil n0
  have hp' := hp
  obtain ⟨S_w_PLATFORM_DEPLOY, E_w_PLATFORM_DEPLOY, S_w_SERVER_START, E_w_SERVER_START, S_w_PLATFORM_DELETE, E_w_PLATFORM_DELETE, S_w_SERVER_DEPLOY, E_w_SERVER_DEPLOY, S_w_DISK_DETACH, E_w_DISK_DETACH, S_w_NIC_DETACH, E_w_NIC_DETACH, S_w_SERVER_STOP, E_w_SERVER_STOP, S_w_SNAPSHOT_CREATE, E_w_SNAPSHOT_CREATE, S_w_NIC_ATTACH, E_w_NIC_ATTACH, S_w_SNAPSHOT_DELETE, E_w_SNAPSHOT_DELETE, S_w_DISK_ATTACH, E_w_DISK_ATTACH, S_w_SERVER_DELETE, E_w_SERVER_DELETE, F_ordinal_w_SERVER_START, F_ordinal_w_PLATFORM_DEPLOY, F_ordinal_w_PLATFORM_DELETE, F_ordinal_w_SERVER_DEPLOY, F_ordinal_w_DISK_DETACH, F_ordinal_w_NIC_DETACH, F_ordinal_w_SERVER_STOP, F_ordinal_w_SNAPSHOT_CREATE, F_ordinal_w_NIC_ATTACH, F_ordinal_w_SNAPSHOT_DELETE, F_ordinal_w_DISK_ATTACH, F_ordinal_w_SERVER_DELETE⟩ := hp'
  have pre0 : ∀ t, Steps p.tables e below (s₁.setTop (mkF m 0 #[.val (.ref w_NIC_DETACH)] [])) t → Steps p.tables e below (s₁.setTop (entryFrame m #[(.ref w_NIC_DETACH)] 1)) t := fun t k => castTop (ef_2_0 m w_NIC_DETACH) k
  obtain ⟨T1, X1, e1, st1⟩ := getS2 X0 hx hZ hown (host := "") (Or.inl (hw _ (List.mem_of_getElem? (i := 13) rfl))) Via.refl e0 (S_w_PLATFORM_DEPLOY.ext O0.2) (g := (mkF m 1 #[.val (.ref w_NIC_DETACH)] [(.ref w_NIC_DETACH)])) rfl (hb hby d2_1)
  obtain ⟨T2, X2, e2, st2⟩ := getS2 X1 hx hZ hown (host := "") (Or.inl (hw _ (List.mem_of_getElem? (i := 19) rfl))) Via.refl e1 (S_w_PLATFORM_DELETE.ext O0.2) (g := (mkF m 8 #[.val (.ref w_NIC_DETACH)] [(.ref w_NIC_DETACH)])) rfl (hb hby d2_8)
  obtain ⟨fs, hr, hrun, hended, hW, hsame⟩ := X2.leave (v := some (.int (0 : Int32))) (fun h => by rw [Bd.returns] at h; cases h)
  refine ⟨_, _, pre0 _ ?_, hrun, hended, _, _, rfl, ?_, ⟨_, rfl⟩, hW, hsame.mono (by decide) (by decide)⟩
  · show Sp p e below s₁ (mkF m 0 #[.val (.ref w_NIC_DETACH)] []) _
    refine XS.aloadN X0.here hx rfl (hb hby d2_0) rfl rfl ?_
    show Sp p e below s₁ (mkF m 1 #[.val (.ref w_NIC_DETACH)] [(.ref w_NIC_DETACH)]) _
    refine st1 _ ?_
    show Sp p e below T1 (mkF m 4 #[.val (.ref w_NIC_DETACH)] [(.ref w_PLATFORM_DEPLOY), (.ref w_NIC_DETACH)]) _
    refine Jvm.RoadKit.acmp (g := (mkF m 4 #[.val (.ref w_NIC_DETACH)] [(.ref w_PLATFORM_DEPLOY), (.ref w_NIC_DETACH)])) X1 hx rfl rfl rfl (pc0 := 4) (pc' := 7) (same := false) rfl (hb hby d2_4) rfl (decide_eq_false fun q => (Ne.symm (ne_w_PLATFORM_DEPLOY_w_NIC_DETACH hp)) (Value.ref.inj q)) (by decide) (by decide) ?_
    show Sp p e below T1 (mkF m 7 #[.val (.ref w_NIC_DETACH)] []) _
    refine XS.aloadN X1.here hx rfl (hb hby d2_7) rfl rfl ?_
    show Sp p e below T1 (mkF m 8 #[.val (.ref w_NIC_DETACH)] [(.ref w_NIC_DETACH)]) _
    refine st2 _ ?_
    show Sp p e below T2 (mkF m 11 #[.val (.ref w_NIC_DETACH)] [(.ref w_PLATFORM_DELETE), (.ref w_NIC_DETACH)]) _
    refine Jvm.RoadKit.acmp (g := (mkF m 11 #[.val (.ref w_NIC_DETACH)] [(.ref w_PLATFORM_DELETE), (.ref w_NIC_DETACH)])) X2 hx rfl rfl rfl (pc0 := 11) (pc' := 18) (same := false) rfl (hb hby d2_11) rfl (decide_eq_false fun q => (Ne.symm (ne_w_PLATFORM_DELETE_w_NIC_DETACH hp)) (Value.ref.inj q)) (by decide) (by decide) ?_
    show Sp p e below T2 (mkF m 18 #[.val (.ref w_NIC_DETACH)] []) _
    refine XS.iconst X2.here hx rfl (hb hby d2_18) ?_
    show Sp p e below T2 (mkF m 19 #[.val (.ref w_NIC_DETACH)] [(.int (0 : Int32))]) _
    exact retN X2 hx (t := .boolean) Bd.returns (by simp) (hb hby d2_19) hr
  · show Q38 Z w_PLATFORM_DEPLOY w_SERVER_START w_PLATFORM_DELETE w_SERVER_DEPLOY w_DISK_DETACH w_NIC_DETACH w_SERVER_STOP w_SNAPSHOT_CREATE w_NIC_ATTACH w_SNAPSHOT_DELETE w_DISK_ATTACH w_SERVER_DELETE  h0 n0 _ T2.heap _
    rw [e2]
    exact ⟨rfl, N0, rfl⟩
set_option maxRecDepth 65536 in
set_option maxHeartbeats 40000000 in
theorem rm39 (l : Launch) (Z : State) (a0 : Array Value) (hw : ∀ d ∈ tables_1, d.before a0 Z = true) (ws : List Jvm.Cond) (w_PLATFORM_DEPLOY w_SERVER_START w_PLATFORM_DELETE w_SERVER_DEPLOY w_DISK_DETACH w_NIC_DETACH w_SERVER_STOP w_SNAPSHOT_CREATE w_NIC_ATTACH w_SNAPSHOT_DELETE w_DISK_ATTACH w_SERVER_DELETE : Addr) (hp : Perm Z w_PLATFORM_DEPLOY w_SERVER_START w_PLATFORM_DELETE w_SERVER_DEPLOY w_DISK_DETACH w_NIC_DETACH w_SERVER_STOP w_SNAPSHOT_CREATE w_NIC_ATTACH w_SNAPSHOT_DELETE w_DISK_ATTACH w_SERVER_DELETE) (p0 : Int32) (h0 : Heap) (n0 : Nat) (O0 : Old Z n0 h0) (hc1 : ¬ (((p0 &&& (2147483647 : Int32)) % (12 : Int32)) = (0 : Int32))) (hc2 : ¬ (((p0 &&& (2147483647 : Int32)) % (12 : Int32)) = (1 : Int32))) (hc3 : ¬ (((p0 &&& (2147483647 : Int32)) % (12 : Int32)) = (2 : Int32))) (hc4 : ¬ (((p0 &&& (2147483647 : Int32)) % (12 : Int32)) = (3 : Int32))) (hc5 : ¬ (((p0 &&& (2147483647 : Int32)) % (12 : Int32)) = (4 : Int32))) (hc6 : ¬ (((p0 &&& (2147483647 : Int32)) % (12 : Int32)) = (5 : Int32))) (hc7 : ¬ (((p0 &&& (2147483647 : Int32)) % (12 : Int32)) = (6 : Int32))) (hc8 : ¬ (((p0 &&& (2147483647 : Int32)) % (12 : Int32)) = (7 : Int32))) (hc9 : ¬ (((p0 &&& (2147483647 : Int32)) % (12 : Int32)) = (8 : Int32))) (hc10 : ¬ (((p0 &&& (2147483647 : Int32)) % (12 : Int32)) = (9 : Int32))) (hc11 : ¬ (((p0 &&& (2147483647 : Int32)) % (12 : Int32)) = (10 : Int32))) :
    MetFree l x (head1 (Jvm.Cond.code x code maxLocals ret :: ws) room_1) (fun a U => a = #[(.int p0)] ∧ Z.Warmed39 U.vm ∧ U.heap = h0) (fun _ _ _ _ _ => True) (fun _ U o U' => ∃ v L, o = .returned v ∧ (v = some (.int (1 : Int32)) ∧ Fr n0 L) ∧ FrameEnd U o U' L 0 0) := by
  refine MetFree.of_bodySF (plainFor_of_name pn_1) hisR ?_
  intro p e s m args below meth c s₁ Bd hml0 hP hK
  obtain ⟨rfl, hZ, hh⟩ := hP
  have hx := Bd.exec
  have hby := Bd.bytes
  have hml : c.maxLocals = 3 := hml0
  have hown : s.vm.findClass "com/example/ratebook/ratebook/model/EventTypeIsPlatformEventPinLaw" = some m.cls := findClass_of_methodNamed Bd.named
  have hnm := (name_of_methodNamed Bd.named Bd.method).1
  have X0 : Stand p l e room_1 s m #[(.int p0)] below meth c s₁ [] 0 0 := Stand.of_body Bd
  have e0 : s₁.heap = h0 := by rw [← hh, Bd.state]; rfl
  have N0 := Fr.nil n0
  have hp' := hp
  obtain ⟨S_w_PLATFORM_DEPLOY, E_w_PLATFORM_DEPLOY, S_w_SERVER_START, E_w_SERVER_START, S_w_PLATFORM_DELETE, E_w_PLATFORM_DELETE, S_w_SERVER_DEPLOY, E_w_SERVER_DEPLOY, S_w_DISK_DETACH, E_w_DISK_DETACH, S_w_NIC_DETACH, E_w_NIC_DETACH, S_w_SERVER_STOP, E_w_SERVER_STOP, S_w_SNAPSHOT_CREATE, E_w_SNAPSHOT_CREATE, S_w_NIC_ATTACH, E_w_NIC_ATTACH, S_w_SNAPSHOT_DELETE, E_w_SNAPSHOT_DELETE, S_w_DISK_ATTACH, E_w_DISK_ATTACH, S_w_SERVER_DELETE, E_w_SERVER_DELETE, F_ordinal_w_SERVER_START, F_ordinal_w_PLATFORM_DEPLOY, F_ordinal_w_PLATFORM_DELETE, F_ordinal_w_SERVER_DEPLOY, F_ordinal_w_DISK_DETACH, F_ordinal_w_NIC_DETACH, F_ordinal_w_SERVER_STOP, F_ordinal_w_SNAPSHOT_CREATE, F_ordinal_w_NIC_ATTACH, F_ordinal_w_SNAPSHOT_DELETE, F_ordinal_w_DISK_ATTACH, F_ordinal_w_SERVER_DELETE⟩ := hp'
  have pre0 : ∀ t, Steps p.tables e below (s₁.setTop (mkF m 0 #[.val (.int p0), .unset, .unset] [])) t → Steps p.tables e below (s₁.setTop (entryFrame m #[(.int p0)] maxLocals)) t := fun t k => castTop (ef_0_0 m p0) k
  obtain ⟨_, _, ⟨T1, L1, k1, n1⟩, -, X1, ⟨Lc1, hQ1, l1, y1, z1⟩, st1⟩ := Jvm.LawKit.callS X0 hx (y := y0) hown (mvT hZ (hw _ (List.mem_of_getElem? (i := 1) rfl))) (mvT hZ (hw _ (List.mem_of_getElem? (i := 2) rfl))) (mvT hZ (hw _ (List.mem_of_getElem? (i := 3) rfl))) (mvT hZ (hw _ (List.mem_of_getElem? (i := 4) rfl))) (by decide) (backOf (W := 0) (rm37 l Z a0 hw [] w_PLATFORM_DEPLOY w_SERVER_START w_PLATFORM_DELETE w_SERVER_DEPLOY w_DISK_DETACH w_NIC_DETACH w_SERVER_STOP w_SNAPSHOT_CREATE w_NIC_ATTACH w_SNAPSHOT_DELETE w_DISK_ATTACH w_SERVER_DELETE hp ((p0 &&& (2147483647 : Int32)) % (12 : Int32)) h0 n0 O0 hc1 hc2 hc3 hc4 hc5 hc6 hc7 hc8 hc9 hc10 hc11) hZ (hw _ (List.mem_of_getElem? (i := 4) rfl)) (hw _ (List.mem_of_getElem? (i := 3) rfl)) (by decide) (by decide)) (g := (mkF m 9 #[.val (.int p0), .val (.int ((p0 &&& (2147483647 : Int32)) % (12 : Int32))), .unset] [(.int ((p0 &&& (2147483647 : Int32)) % (12 : Int32)))])) rfl (by rw [hml]; rfl) (argsL := [(.int ((p0 &&& (2147483647 : Int32)) % (12 : Int32)))]) (rest := []) (lenOf pd_0 rfl) rfl (by show 2 * 0 + _ ≤ _; exact Nat.le_of_eq rfl) (hb hby at_9) (fun _ _ => ⟨rfl, e0, (by decide : 0 + 0 ≤ _), (by decide : 0 + 0 ≤ _)⟩)
  dsimp only [Pt.U, Pt.locs, Pt.cells, Pt.slots] at X1 l1 y1 z1 st1 hQ1
  subst l1 y1 z1
  obtain ⟨rfl, Nq1, eq1⟩ := hQ1
  have N1 := Fr.app N0 Nq1
  obtain ⟨cq2, kq2, q2a, q2b, q2c⟩ := isOf hZ eq1 (E_w_NIC_DETACH.ext O0.2)
  obtain ⟨_, _, ⟨T2, L2, k2, n2⟩, -, X2, ⟨Lc2, hQ2, l2, y2, z2⟩, st2⟩ := X1.virtualBack hx (y := y1) (z := y1) hown (mvT hZ (hw _ (List.mem_of_getElem? (i := 8) rfl))) (mvT hZ (hw _ (List.mem_of_getElem? (i := 9) rfl))) (notFace_of_selects (args := #[]) (mvT hZ (hw _ (List.mem_of_getElem? (i := 11) rfl)))) (mvT hZ (hw _ (List.mem_of_getElem? (i := 11) rfl))) (mvT hZ (hw _ (List.mem_of_getElem? (i := 10) rfl))) (by decide) (backOf (W := 0) (rm38 l Z a0 hw [] w_PLATFORM_DEPLOY w_SERVER_START w_PLATFORM_DELETE w_SERVER_DEPLOY w_DISK_DETACH w_NIC_DETACH w_SERVER_STOP w_SNAPSHOT_CREATE w_NIC_ATTACH w_SNAPSHOT_DELETE w_DISK_ATTACH w_SERVER_DELETE hp h0 n0 O0) hZ (hw _ (List.mem_of_getElem? (i := 12) rfl)) (hw _ (List.mem_of_getElem? (i := 6) rfl)) (by decide) (by decide)) q2a q2c (g := (mkF m 14 #[.val (.int p0), .val (.int ((p0 &&& (2147483647 : Int32)) % (12 : Int32))), .val (.ref w_NIC_DETACH)] [(.ref w_NIC_DETACH)])) rfl (by rw [hml]; rfl) (Steps.refl _) (argsL := []) (rest := []) (lenOf pd_1 rfl) rfl (by show 2 * 0 + _ ≤ _; exact Nat.le_of_eq rfl) (hb hby at_14) (fun _ _ => ⟨rfl, eq1, (by decide : 0 + 0 ≤ _), (by decide : 0 + 0 ≤ _)⟩)
  dsimp only [Pt.U, Pt.locs, Pt.cells, Pt.slots] at X2 l2 y2 z2 st2 hQ2
  subst l2 y2 z2
  obtain ⟨rfl, Nq2, eq2⟩ := hQ2
  have N2 := Fr.app N1 Nq2
  obtain ⟨_, _, ⟨T3, L3, k3, n3⟩, -, X3, ⟨Lc3, hQ3, l3, y3, z3⟩, st3⟩ := Jvm.LawKit.callS X2 hx (y := y2) hown (mvT hZ (hw _ (List.mem_of_getElem? (i := 14) rfl))) (mvT hZ (hw _ (List.mem_of_getElem? (i := 15) rfl))) (mvT hZ (hw _ (List.mem_of_getElem? (i := 3) rfl))) (mvT hZ (hw _ (List.mem_of_getElem? (i := 16) rfl))) (by decide) (backOf (W := 1) (rm11 l Z a0 hw [] w_PLATFORM_DEPLOY w_SERVER_START w_PLATFORM_DELETE w_SERVER_DEPLOY w_DISK_DETACH w_NIC_DETACH w_SERVER_STOP w_SNAPSHOT_CREATE w_NIC_ATTACH w_SNAPSHOT_DELETE w_DISK_ATTACH w_SERVER_DELETE hp ((p0 &&& (2147483647 : Int32)) % (12 : Int32)) h0 n0 O0 hc1 hc2) hZ (hw _ (List.mem_of_getElem? (i := 16) rfl)) (hw _ (List.mem_of_getElem? (i := 3) rfl)) (by decide) (by decide)) (g := (mkF m 18 #[.val (.int p0), .val (.int ((p0 &&& (2147483647 : Int32)) % (12 : Int32))), .val (.ref w_NIC_DETACH)] [(.int ((p0 &&& (2147483647 : Int32)) % (12 : Int32))), (.int (0 : Int32))])) rfl (by rw [hml]; rfl) (argsL := [(.int ((p0 &&& (2147483647 : Int32)) % (12 : Int32)))]) (rest := [(.int (0 : Int32))]) (lenOf pd_2 rfl) rfl (by show 2 * 0 + _ ≤ _; exact Nat.le_of_eq rfl) (hb hby at_18) (fun _ _ => ⟨rfl, eq2, (by decide : 0 + 0 ≤ _), (by decide : 0 + 0 ≤ _)⟩)
  dsimp only [Pt.U, Pt.locs, Pt.cells, Pt.slots] at X3 l3 y3 z3 st3 hQ3
  subst l3 y3 z3
  obtain ⟨rfl, Nq3, eq3⟩ := hQ3
  have N3 := Fr.app N2 Nq3
  obtain ⟨fs, hr, hrun, hended, hW, hsame⟩ := X3.leave (v := some (.int (1 : Int32))) (fun h => by rw [Bd.returns] at h; cases h)
  refine ⟨_, _, pre0 _ ?_, hrun, hended, _, _, rfl, ?_, ⟨_, rfl⟩, hW, hsame.mono (by decide) (by decide)⟩
  · show Sp p e below s₁ (mkF m 0 #[.val (.int p0), .unset, .unset] []) _
    refine XS.iloadN X0.here hx rfl (hb hby at_0) rfl ?_
    show Sp p e below s₁ (mkF m 1 #[.val (.int p0), .unset, .unset] [(.int p0)]) _
    refine X0.ldcI hx hown (mvT hZ (hw _ (List.mem_of_getElem? (i := 0) rfl))) rfl (hb hby at_1) ?_
    show Sp p e below s₁ (mkF m 3 #[.val (.int p0), .unset, .unset] [(.int (2147483647 : Int32)), (.int p0)]) _
    refine XS.iand X0.here hx rfl (hb hby at_3) rfl ?_
    show Sp p e below s₁ (mkF m 4 #[.val (.int p0), .unset, .unset] [(.int (p0 &&& (2147483647 : Int32)))]) _
    refine XS.bipush X0.here hx rfl (hb hby at_4) ?_
    show Sp p e below s₁ (mkF m 6 #[.val (.int p0), .unset, .unset] [(.int (12 : Int32)), (.int (p0 &&& (2147483647 : Int32)))]) _
    refine iremM X0 hx rfl (hb hby at_6) rfl (by decide) ?_
    show Sp p e below s₁ (mkF m 7 #[.val (.int p0), .unset, .unset] [(.int ((p0 &&& (2147483647 : Int32)) % (12 : Int32)))]) _
    refine XS.istoreN X0.here hx rfl (hb hby at_7) rfl (l' := #[.val (.int p0), .val (.int ((p0 &&& (2147483647 : Int32)) % (12 : Int32))), .unset]) rfl ?_
    show Sp p e below s₁ (mkF m 8 #[.val (.int p0), .val (.int ((p0 &&& (2147483647 : Int32)) % (12 : Int32))), .unset] []) _
    refine XS.iloadN X0.here hx rfl (hb hby at_8) rfl ?_
    show Sp p e below s₁ (mkF m 9 #[.val (.int p0), .val (.int ((p0 &&& (2147483647 : Int32)) % (12 : Int32))), .unset] [(.int ((p0 &&& (2147483647 : Int32)) % (12 : Int32)))]) _
    refine st1 _ ?_
    show Sp p e below T1 (mkF m 12 #[.val (.int p0), .val (.int ((p0 &&& (2147483647 : Int32)) % (12 : Int32))), .unset] [(.ref w_NIC_DETACH)]) _
    refine XS.astoreN X1.here hx rfl (hb hby at_12) rfl rfl (l' := #[.val (.int p0), .val (.int ((p0 &&& (2147483647 : Int32)) % (12 : Int32))), .val (.ref w_NIC_DETACH)]) rfl ?_
    show Sp p e below T1 (mkF m 13 #[.val (.int p0), .val (.int ((p0 &&& (2147483647 : Int32)) % (12 : Int32))), .val (.ref w_NIC_DETACH)] []) _
    refine XS.aloadN X1.here hx rfl (hb hby at_13) rfl rfl ?_
    show Sp p e below T1 (mkF m 14 #[.val (.int p0), .val (.int ((p0 &&& (2147483647 : Int32)) % (12 : Int32))), .val (.ref w_NIC_DETACH)] [(.ref w_NIC_DETACH)]) _
    refine st2.trans ?_
    show Sp p e below T2 (mkF m 17 #[.val (.int p0), .val (.int ((p0 &&& (2147483647 : Int32)) % (12 : Int32))), .val (.ref w_NIC_DETACH)] [(.int (0 : Int32))]) _
    refine XS.iloadN X2.here hx rfl (hb hby at_17) rfl ?_
    show Sp p e below T2 (mkF m 18 #[.val (.int p0), .val (.int ((p0 &&& (2147483647 : Int32)) % (12 : Int32))), .val (.ref w_NIC_DETACH)] [(.int ((p0 &&& (2147483647 : Int32)) % (12 : Int32))), (.int (0 : Int32))]) _
    refine st3 _ ?_
    show Sp p e below T3 (mkF m 21 #[.val (.int p0), .val (.int ((p0 &&& (2147483647 : Int32)) % (12 : Int32))), .val (.ref w_NIC_DETACH)] [(.int (0 : Int32)), (.int (0 : Int32))]) _
    refine XS.icmpNo X3.here hx rfl (hb hby at_21) rfl (teq (by decide : (0 : Int32) = (0 : Int32))).2 ?_
    show Sp p e below T3 (mkF m 24 #[.val (.int p0), .val (.int ((p0 &&& (2147483647 : Int32)) % (12 : Int32))), .val (.ref w_NIC_DETACH)] []) _
    refine XS.iconst X3.here hx rfl (hb hby at_24) ?_
    show Sp p e below T3 (mkF m 25 #[.val (.int p0), .val (.int ((p0 &&& (2147483647 : Int32)) % (12 : Int32))), .val (.ref w_NIC_DETACH)] [(.int (1 : Int32))]) _
    refine XS.goto X3.here hx rfl (pc0 := 25) (pc' := 29) rfl (hb hby at_25) (by decide) (by decide) ?_
    show Sp p e below T3 (mkF m 29 #[.val (.int p0), .val (.int ((p0 &&& (2147483647 : Int32)) % (12 : Int32))), .val (.ref w_NIC_DETACH)] [(.int (1 : Int32))]) _
    exact retN X3 hx (t := .boolean) Bd.returns (by simp) (hb hby at_29) hr
  · skip
    exact ⟨rfl, N3⟩
set_option maxRecDepth 65536 in
set_option maxHeartbeats 4000000 in
theorem rm_law (l : Launch) (Z : State) (a0 : Array Value) (hw : ∀ d ∈ tables_1, d.before a0 Z = true) (ws : List Jvm.Cond) (w_PLATFORM_DEPLOY w_SERVER_START w_PLATFORM_DELETE w_SERVER_DEPLOY w_DISK_DETACH w_NIC_DETACH w_SERVER_STOP w_SNAPSHOT_CREATE w_NIC_ATTACH w_SNAPSHOT_DELETE w_DISK_ATTACH w_SERVER_DELETE : Addr) (hp : Perm Z w_PLATFORM_DEPLOY w_SERVER_START w_PLATFORM_DELETE w_SERVER_DEPLOY w_DISK_DETACH w_NIC_DETACH w_SERVER_STOP w_SNAPSHOT_CREATE w_NIC_ATTACH w_SNAPSHOT_DELETE w_DISK_ATTACH w_SERVER_DELETE) (p0 : Int32) (h0 : Heap) (n0 : Nat) (O0 : Old Z n0 h0) :
    MetFree l x (head1 (Jvm.Cond.code x code maxLocals ret :: ws) room_1) (fun a U => a = #[(.int p0)] ∧ Z.Warmed39 U.vm ∧ U.heap = h0) (fun _ _ _ _ _ => True) (fun _ U o U' => ∃ v L, o = .returned v ∧ (v = some (.int (1 : Int32)) ∧ Fr n0 L) ∧ FrameEnd U o U' L 0 0) := by
  by_cases d0 : ((p0 &&& (2147483647 : Int32)) % (12 : Int32)) = (0 : Int32)
  · skip
    exact rm4 l Z a0 hw ws w_PLATFORM_DEPLOY w_SERVER_START w_PLATFORM_DELETE w_SERVER_DEPLOY w_DISK_DETACH w_NIC_DETACH w_SERVER_STOP w_SNAPSHOT_CREATE w_NIC_ATTACH w_SNAPSHOT_DELETE w_DISK_ATTACH w_SERVER_DELETE hp p0 h0 n0 O0 d0
  · skip
    by_cases d1 : ((p0 &&& (2147483647 : Int32)) % (12 : Int32)) = (1 : Int32)
    · skip
      exact rm8 l Z a0 hw ws w_PLATFORM_DEPLOY w_SERVER_START w_PLATFORM_DELETE w_SERVER_DEPLOY w_DISK_DETACH w_NIC_DETACH w_SERVER_STOP w_SNAPSHOT_CREATE w_NIC_ATTACH w_SNAPSHOT_DELETE w_DISK_ATTACH w_SERVER_DELETE hp p0 h0 n0 O0 d0 d1
    · skip
      by_cases d2 : ((p0 &&& (2147483647 : Int32)) % (12 : Int32)) = (2 : Int32)
      · skip
        exact rm12 l Z a0 hw ws w_PLATFORM_DEPLOY w_SERVER_START w_PLATFORM_DELETE w_SERVER_DEPLOY w_DISK_DETACH w_NIC_DETACH w_SERVER_STOP w_SNAPSHOT_CREATE w_NIC_ATTACH w_SNAPSHOT_DELETE w_DISK_ATTACH w_SERVER_DELETE hp p0 h0 n0 O0 d0 d1 d2
      · skip
        by_cases d3 : ((p0 &&& (2147483647 : Int32)) % (12 : Int32)) = (3 : Int32)
        · skip
          exact rm15 l Z a0 hw ws w_PLATFORM_DEPLOY w_SERVER_START w_PLATFORM_DELETE w_SERVER_DEPLOY w_DISK_DETACH w_NIC_DETACH w_SERVER_STOP w_SNAPSHOT_CREATE w_NIC_ATTACH w_SNAPSHOT_DELETE w_DISK_ATTACH w_SERVER_DELETE hp p0 h0 n0 O0 d0 d1 d2 d3
        · skip
          by_cases d4 : ((p0 &&& (2147483647 : Int32)) % (12 : Int32)) = (4 : Int32)
          · skip
            exact rm18 l Z a0 hw ws w_PLATFORM_DEPLOY w_SERVER_START w_PLATFORM_DELETE w_SERVER_DEPLOY w_DISK_DETACH w_NIC_DETACH w_SERVER_STOP w_SNAPSHOT_CREATE w_NIC_ATTACH w_SNAPSHOT_DELETE w_DISK_ATTACH w_SERVER_DELETE hp p0 h0 n0 O0 d0 d1 d2 d3 d4
          · skip
            by_cases d5 : ((p0 &&& (2147483647 : Int32)) % (12 : Int32)) = (5 : Int32)
            · skip
              exact rm21 l Z a0 hw ws w_PLATFORM_DEPLOY w_SERVER_START w_PLATFORM_DELETE w_SERVER_DEPLOY w_DISK_DETACH w_NIC_DETACH w_SERVER_STOP w_SNAPSHOT_CREATE w_NIC_ATTACH w_SNAPSHOT_DELETE w_DISK_ATTACH w_SERVER_DELETE hp p0 h0 n0 O0 d0 d1 d2 d3 d4 d5
            · skip
              by_cases d6 : ((p0 &&& (2147483647 : Int32)) % (12 : Int32)) = (6 : Int32)
              · skip
                exact rm24 l Z a0 hw ws w_PLATFORM_DEPLOY w_SERVER_START w_PLATFORM_DELETE w_SERVER_DEPLOY w_DISK_DETACH w_NIC_DETACH w_SERVER_STOP w_SNAPSHOT_CREATE w_NIC_ATTACH w_SNAPSHOT_DELETE w_DISK_ATTACH w_SERVER_DELETE hp p0 h0 n0 O0 d0 d1 d2 d3 d4 d5 d6
              · skip
                by_cases d7 : ((p0 &&& (2147483647 : Int32)) % (12 : Int32)) = (7 : Int32)
                · skip
                  exact rm27 l Z a0 hw ws w_PLATFORM_DEPLOY w_SERVER_START w_PLATFORM_DELETE w_SERVER_DEPLOY w_DISK_DETACH w_NIC_DETACH w_SERVER_STOP w_SNAPSHOT_CREATE w_NIC_ATTACH w_SNAPSHOT_DELETE w_DISK_ATTACH w_SERVER_DELETE hp p0 h0 n0 O0 d0 d1 d2 d3 d4 d5 d6 d7
                · skip
                  by_cases d8 : ((p0 &&& (2147483647 : Int32)) % (12 : Int32)) = (8 : Int32)
                  · skip
                    exact rm30 l Z a0 hw ws w_PLATFORM_DEPLOY w_SERVER_START w_PLATFORM_DELETE w_SERVER_DEPLOY w_DISK_DETACH w_NIC_DETACH w_SERVER_STOP w_SNAPSHOT_CREATE w_NIC_ATTACH w_SNAPSHOT_DELETE w_DISK_ATTACH w_SERVER_DELETE hp p0 h0 n0 O0 d0 d1 d2 d3 d4 d5 d6 d7 d8
                  · skip
                    by_cases d9 : ((p0 &&& (2147483647 : Int32)) % (12 : Int32)) = (9 : Int32)
                    · skip
                      exact rm33 l Z a0 hw ws w_PLATFORM_DEPLOY w_SERVER_START w_PLATFORM_DELETE w_SERVER_DEPLOY w_DISK_DETACH w_NIC_DETACH w_SERVER_STOP w_SNAPSHOT_CREATE w_NIC_ATTACH w_SNAPSHOT_DELETE w_DISK_ATTACH w_SERVER_DELETE hp p0 h0 n0 O0 d0 d1 d2 d3 d4 d5 d6 d7 d8 d9
                    · skip
                      by_cases d10 : ((p0 &&& (2147483647 : Int32)) % (12 : Int32)) = (10 : Int32)
                      · skip
                        exact rm36 l Z a0 hw ws w_PLATFORM_DEPLOY w_SERVER_START w_PLATFORM_DELETE w_SERVER_DEPLOY w_DISK_DETACH w_NIC_DETACH w_SERVER_STOP w_SNAPSHOT_CREATE w_NIC_ATTACH w_SNAPSHOT_DELETE w_DISK_ATTACH w_SERVER_DELETE hp p0 h0 n0 O0 d0 d1 d2 d3 d4 d5 d6 d7 d8 d9 d10
                      · skip
                        exact rm39 l Z a0 hw ws w_PLATFORM_DEPLOY w_SERVER_START w_PLATFORM_DELETE w_SERVER_DEPLOY w_DISK_DETACH w_NIC_DETACH w_SERVER_STOP w_SNAPSHOT_CREATE w_NIC_ATTACH w_SNAPSHOT_DELETE w_DISK_ATTACH w_SERVER_DELETE hp p0 h0 n0 O0 d0 d1 d2 d3 d4 d5 d6 d7 d8 d9 d10
set_option maxRecDepth 65536 in
set_option maxHeartbeats 40000000 in
theorem comes_1 {Post : Tables → Env → Array Value → State → Outcome → State → Prop} (hpost : ∀ tb e args s v u, (limb_1_1.after args s (.returned v) u = true ∧ limb_1_2.after args s (.returned v) u = true ∧ True) → FrameEnd s (.returned v) u (Jvm.fieldLocs frame_1_writes args s ++ Jvm.arrayLocs frame_1_arrays args s ++ Jvm.staticLocs frame_1_statics s) 0 0 → Post tb e args s (.returned v) u) :
    ArmFor flags0 classFile x code maxLocals ret World_1 tables_1 room_1 Calls_1 rest_1 Pre_1 Post := by
  intro l hfl _ _ p e ha hc hk s m args below hf hA hF happ hP
  obtain ⟨hcalls, hrest, hpre⟩ := hP
  obtain ⟨-, -, -, hnamed, -, -, -, hat⟩ := (Spec.applies_iff hf).mp happ
  obtain ⟨hg, hn⟩ := and_e (Cond.before_iff.mp (show (Jvm.Cond.and given_1 narrow_1).before args s = true from hpre))
  obtain ⟨h1, hg⟩ := and_e hg
  have ga0 := hg
  obtain ⟨w0, rfl⟩ : ∃ w0 : Value, args = #[w0] := by
    have hs : args.size = 1 := by simpa [Cond.value, given_1] using h1
    obtain ⟨L⟩ := args
    match L, hs with
    | [w0], _ => exact ⟨w0, rfl⟩
  have hw := fun d (hd : d ∈ tables_1) => atoms_spec (ws := Jvm.Cond.code x code maxLocals ret :: tables_1) hat d (List.mem_cons_of_mem _ hd)
  have hfit : Fit s := fun {y c} hc i hi => by
    obtain ⟨ha, rfl⟩ := Array.getElem?_eq_some_iff.mp hc
    have q := List.all_eq_true.mp ((Array.all_eq_true_iff_forall_mem.mp hF) _ (Array.getElem_mem ha)) i (List.mem_range.mpr hi)
    simpa [Array.getElem?_eq_getElem hi] using q
  obtain ⟨i0, ei0⟩ := is_v ga0
  obtain rfl : w0 = (.int i0) := Option.some.inj ei0
  obtain ⟨nn0, hn⟩ := and_e hn
  obtain ⟨nn1, hn⟩ := and_e hn
  obtain ⟨nn2, hn⟩ := and_e hn
  obtain ⟨nn3, hn⟩ := and_e hn
  obtain ⟨nn4, hn⟩ := and_e hn
  obtain ⟨nn5, hn⟩ := and_e hn
  obtain ⟨nn6, hn⟩ := and_e hn
  obtain ⟨nn7, hn⟩ := and_e hn
  obtain ⟨nn8, hn⟩ := and_e hn
  obtain ⟨nn9, hn⟩ := and_e hn
  obtain ⟨nn10, hn⟩ := and_e hn
  obtain ⟨nn11, hn⟩ := and_e hn
  obtain ⟨nn12, hn⟩ := and_e hn
  obtain ⟨nn13, hn⟩ := and_e hn
  obtain ⟨nn14, hn⟩ := and_e hn
  obtain ⟨nn15, hn⟩ := and_e hn
  obtain ⟨nn16, hn⟩ := and_e hn
  obtain ⟨nn17, hn⟩ := and_e hn
  obtain ⟨nn18, hn⟩ := and_e hn
  obtain ⟨nn19, hn⟩ := and_e hn
  obtain ⟨nn20, hn⟩ := and_e hn
  obtain ⟨nn21, hn⟩ := and_e hn
  obtain ⟨nn22, hn⟩ := and_e hn
  have nn23 := hn
  obtain ⟨w_PLATFORM_DEPLOY, ev_w_PLATFORM_DEPLOY⟩ := exa_v nn0
  have E_w_PLATFORM_DEPLOY := Exa.start ev_w_PLATFORM_DEPLOY nn0
  have S_w_PLATFORM_DEPLOY := Sta.start ev_w_PLATFORM_DEPLOY (Or.inr ⟨(hw _ (List.mem_of_getElem? (i := 6) rfl)), (hw _ (List.mem_of_getElem? (i := 7) rfl))⟩)
  obtain ⟨w_SERVER_START, ev_w_SERVER_START⟩ := exa_v nn1
  have E_w_SERVER_START := Exa.start ev_w_SERVER_START nn1
  have S_w_SERVER_START := Sta.start ev_w_SERVER_START (Or.inr ⟨(hw _ (List.mem_of_getElem? (i := 6) rfl)), (hw _ (List.mem_of_getElem? (i := 18) rfl))⟩)
  obtain ⟨w_PLATFORM_DELETE, ev_w_PLATFORM_DELETE⟩ := exa_v nn4
  have E_w_PLATFORM_DELETE := Exa.start ev_w_PLATFORM_DELETE nn4
  have S_w_PLATFORM_DELETE := Sta.start ev_w_PLATFORM_DELETE (Or.inr ⟨(hw _ (List.mem_of_getElem? (i := 6) rfl)), (hw _ (List.mem_of_getElem? (i := 20) rfl))⟩)
  obtain ⟨w_SERVER_DEPLOY, ev_w_SERVER_DEPLOY⟩ := exa_v nn6
  have E_w_SERVER_DEPLOY := Exa.start ev_w_SERVER_DEPLOY nn6
  have S_w_SERVER_DEPLOY := Sta.start ev_w_SERVER_DEPLOY (Or.inr ⟨(hw _ (List.mem_of_getElem? (i := 6) rfl)), (hw _ (List.mem_of_getElem? (i := 22) rfl))⟩)
  obtain ⟨w_DISK_DETACH, ev_w_DISK_DETACH⟩ := exa_v nn8
  have E_w_DISK_DETACH := Exa.start ev_w_DISK_DETACH nn8
  have S_w_DISK_DETACH := Sta.start ev_w_DISK_DETACH (Or.inr ⟨(hw _ (List.mem_of_getElem? (i := 6) rfl)), (hw _ (List.mem_of_getElem? (i := 24) rfl))⟩)
  obtain ⟨w_NIC_DETACH, ev_w_NIC_DETACH⟩ := exa_v nn10
  have E_w_NIC_DETACH := Exa.start ev_w_NIC_DETACH nn10
  have S_w_NIC_DETACH := Sta.start ev_w_NIC_DETACH (Or.inr ⟨(hw _ (List.mem_of_getElem? (i := 6) rfl)), (hw _ (List.mem_of_getElem? (i := 26) rfl))⟩)
  obtain ⟨w_SERVER_STOP, ev_w_SERVER_STOP⟩ := exa_v nn12
  have E_w_SERVER_STOP := Exa.start ev_w_SERVER_STOP nn12
  have S_w_SERVER_STOP := Sta.start ev_w_SERVER_STOP (Or.inr ⟨(hw _ (List.mem_of_getElem? (i := 6) rfl)), (hw _ (List.mem_of_getElem? (i := 28) rfl))⟩)
  obtain ⟨w_SNAPSHOT_CREATE, ev_w_SNAPSHOT_CREATE⟩ := exa_v nn14
  have E_w_SNAPSHOT_CREATE := Exa.start ev_w_SNAPSHOT_CREATE nn14
  have S_w_SNAPSHOT_CREATE := Sta.start ev_w_SNAPSHOT_CREATE (Or.inr ⟨(hw _ (List.mem_of_getElem? (i := 6) rfl)), (hw _ (List.mem_of_getElem? (i := 30) rfl))⟩)
  obtain ⟨w_NIC_ATTACH, ev_w_NIC_ATTACH⟩ := exa_v nn16
  have E_w_NIC_ATTACH := Exa.start ev_w_NIC_ATTACH nn16
  have S_w_NIC_ATTACH := Sta.start ev_w_NIC_ATTACH (Or.inr ⟨(hw _ (List.mem_of_getElem? (i := 6) rfl)), (hw _ (List.mem_of_getElem? (i := 33) rfl))⟩)
  obtain ⟨w_SNAPSHOT_DELETE, ev_w_SNAPSHOT_DELETE⟩ := exa_v nn18
  have E_w_SNAPSHOT_DELETE := Exa.start ev_w_SNAPSHOT_DELETE nn18
  have S_w_SNAPSHOT_DELETE := Sta.start ev_w_SNAPSHOT_DELETE (Or.inr ⟨(hw _ (List.mem_of_getElem? (i := 6) rfl)), (hw _ (List.mem_of_getElem? (i := 35) rfl))⟩)
  obtain ⟨w_DISK_ATTACH, ev_w_DISK_ATTACH⟩ := exa_v nn20
  have E_w_DISK_ATTACH := Exa.start ev_w_DISK_ATTACH nn20
  have S_w_DISK_ATTACH := Sta.start ev_w_DISK_ATTACH (Or.inr ⟨(hw _ (List.mem_of_getElem? (i := 6) rfl)), (hw _ (List.mem_of_getElem? (i := 37) rfl))⟩)
  obtain ⟨w_SERVER_DELETE, ev_w_SERVER_DELETE⟩ := exa_v nn22
  have E_w_SERVER_DELETE := Exa.start ev_w_SERVER_DELETE nn22
  have S_w_SERVER_DELETE := Sta.start ev_w_SERVER_DELETE (Or.inr ⟨(hw _ (List.mem_of_getElem? (i := 6) rfl)), (hw _ (List.mem_of_getElem? (i := 39) rfl))⟩)
  have F_ordinal_w_SERVER_START := own_fldi ev_w_SERVER_START nn2
  have F_ordinal_w_PLATFORM_DEPLOY := own_fldi ev_w_PLATFORM_DEPLOY nn3
  have F_ordinal_w_PLATFORM_DELETE := own_fldi ev_w_PLATFORM_DELETE nn5
  have F_ordinal_w_SERVER_DEPLOY := own_fldi ev_w_SERVER_DEPLOY nn7
  have F_ordinal_w_DISK_DETACH := own_fldi ev_w_DISK_DETACH nn9
  have F_ordinal_w_NIC_DETACH := own_fldi ev_w_NIC_DETACH nn11
  have F_ordinal_w_SERVER_STOP := own_fldi ev_w_SERVER_STOP nn13
  have F_ordinal_w_SNAPSHOT_CREATE := own_fldi ev_w_SNAPSHOT_CREATE nn15
  have F_ordinal_w_NIC_ATTACH := own_fldi ev_w_NIC_ATTACH nn17
  have F_ordinal_w_SNAPSHOT_DELETE := own_fldi ev_w_SNAPSHOT_DELETE nn19
  have F_ordinal_w_DISK_ATTACH := own_fldi ev_w_DISK_ATTACH nn21
  have F_ordinal_w_SERVER_DELETE := own_fldi ev_w_SERVER_DELETE nn23
  obtain ⟨n, o, h1, h2, h3, _, L, rfl, ⟨rfl, N⟩, hq⟩ := rm_law l s _ hw tables_1 w_PLATFORM_DEPLOY w_SERVER_START w_PLATFORM_DELETE w_SERVER_DEPLOY w_DISK_DETACH w_NIC_DETACH w_SERVER_STOP w_SNAPSHOT_CREATE w_NIC_ATTACH w_SNAPSHOT_DELETE w_DISK_ATTACH w_SERVER_DELETE ⟨S_w_PLATFORM_DEPLOY, E_w_PLATFORM_DEPLOY, S_w_SERVER_START, E_w_SERVER_START, S_w_PLATFORM_DELETE, E_w_PLATFORM_DELETE, S_w_SERVER_DEPLOY, E_w_SERVER_DEPLOY, S_w_DISK_DETACH, E_w_DISK_DETACH, S_w_NIC_DETACH, E_w_NIC_DETACH, S_w_SERVER_STOP, E_w_SERVER_STOP, S_w_SNAPSHOT_CREATE, E_w_SNAPSHOT_CREATE, S_w_NIC_ATTACH, E_w_NIC_ATTACH, S_w_SNAPSHOT_DELETE, E_w_SNAPSHOT_DELETE, S_w_DISK_ATTACH, E_w_DISK_ATTACH, S_w_SERVER_DELETE, E_w_SERVER_DELETE, F_ordinal_w_SERVER_START, F_ordinal_w_PLATFORM_DEPLOY, F_ordinal_w_PLATFORM_DELETE, F_ordinal_w_SERVER_DEPLOY, F_ordinal_w_DISK_DETACH, F_ordinal_w_NIC_DETACH, F_ordinal_w_SERVER_STOP, F_ordinal_w_SNAPSHOT_CREATE, F_ordinal_w_NIC_ATTACH, F_ordinal_w_SNAPSHOT_DELETE, F_ordinal_w_DISK_ATTACH, F_ordinal_w_SERVER_DELETE⟩ i0 s.heap s.heap.size (Old.start s) p e ha hc hk s m _ below hf ((Spec.applies_iff_loose hf).mp happ).1 ⟨rfl, State.Warmed39.refl s, rfl⟩ trivial
  refine ⟨n, _, h1, h2, h3, hpost _ _ _ _ _ _ ⟨Cond.after_iff.mpr rfl, Cond.after_iff.mpr (eq_i res_at (Term.int_eval (1)) rfl), trivial⟩ ⟨hq.1, hq.2.1, (hq.2.2.sift fun y hy => Or.inr (N y hy)).mono (by decide) (by decide)⟩⟩
theorem main_1_1 : Claimed_1_1 := comes_1 fun _ _ _ _ _ _ h hF => ⟨h.1, hF⟩
theorem main_1_2 : Claimed_1_2 := comes_1 fun _ _ _ _ _ _ h hF => ⟨h.2.1, hF⟩
end Jvm.Pilot.@@N@@
namespace Jvm.Pilot.@@N@@
open Jvm Jvm.ClassFile Sem Op Lib Jvm.Free Jvm.Stand Jvm.Pilot.@@N@@.Jvm.D
/-! MADE BY PROGRAM (witnessworld.py) out of the Statement's table words and the real class files: 12 classes; the members and pool entries that the words name. The judged class is class 1, her method 3. -/
namespace start1
open Jvm.ClassFile
def u (s : String) : CpInfo := .utf8 (stringToUtf16 s)
/-- a pool by its gaps: so many unusable entries, then the entry; so many at the end -/
def gap : Nat → List CpInfo → List CpInfo
  | 0, r => r
  | n + 1, r => .unusable :: gap n r
def poolList (es : List (Nat × CpInfo)) (last : Nat) : List CpInfo := es.foldr (fun e r => gap e.1 (e.2 :: r)) (gap last [])
def pool (es : List (Nat × CpInfo)) (last : Nat) : Array CpInfo := ⟨poolList es last⟩
def fileOf (pool : Array CpInfo) (this : Nat) (attrs : Array Attribute := #[]) (ms : Array MethodInfo := #[]) (fl : Nat := 33) (sup : Nat := 0) (ifs : Array Nat := #[]) (fds : Array FieldInfo := #[]) : ClassFile where
  minorVersion := 0
  majorVersion := 65
  constantPool := pool
  accessFlags := fl
  thisClass := this
  superClass := sup
  interfaces := ifs
  fields := fds
  methods := ms
  attributes := attrs
def plain (name : String) (sup : Option ClassId) : Class where
  name := name
  kind := .ordinary
  loader := none
  accessFlags := 33
  super := sup
  interfaces := #[]
  cf := none
  fields := #[]
  methods := #[]
  instanceTypes := #[]
  staticTypes := #[]
  resolved := #[]
  callSites := []
  init := .initialized
  statics := none
  mirror := none

def pool0 : Array CpInfo := pool [(5, u "<init>"), (0, u "()V"), (1, .class_ 10), (1, u "java/lang/Object")] 113

def k0m0 : Method := { name := "<init>", desc := "()V", sig := { parameters := [], returnType := none }, accessFlags := 1, code := none }
/-- java/lang/Object -/
def k0 : Class := { plain "java/lang/Object" none with
  accessFlags := 33
  interfaces := #[]
  cf := some (fileOf pool0 8 #[] #[{ accessFlags := 1, nameIndex := 5, descriptorIndex := 6, attributes := #[] }] 33 0 #[] #[])
  fields := #[]
  methods := #[k0m0]
  instanceTypes := #[]
  staticTypes := #[]
  resolved := Array.replicate 124 none
  statics := none }

def pool1 : Array CpInfo := pool [(2, .class_ 4), (1, u "java/lang/Object"), (0, u "<init>"), (0, u "()V"), (0, .fieldref 8 9), (0, .class_ 10), (0, .nameAndType 11 12), (0, u "com/example/ratebook/ratebook/model/EventType"), (0, u "PLATFORM_DEPLOY"), (0, u "Lcom/example/ratebook/ratebook/model/EventType;"), (0, .fieldref 8 14), (0, .nameAndType 15 12), (0, u "PLATFORM_DELETE"), (0, .fieldref 8 17), (0, .nameAndType 18 12), (0, u "SERVER_DEPLOY"), (0, .fieldref 8 20), (0, .nameAndType 21 12), (0, u "SERVER_START"), (0, .fieldref 8 23), (0, .nameAndType 24 12), (0, u "SERVER_STOP"), (0, .fieldref 8 26), (0, .nameAndType 27 12), (0, u "SERVER_DELETE"), (0, .fieldref 8 29), (0, .nameAndType 30 12), (0, u "DISK_ATTACH"), (0, .fieldref 8 32), (0, .nameAndType 33 12), (0, u "DISK_DETACH"), (0, .fieldref 8 35), (0, .nameAndType 36 12), (0, u "SNAPSHOT_CREATE"), (0, .fieldref 8 38), (0, .nameAndType 39 12), (0, u "SNAPSHOT_DELETE"), (0, .fieldref 8 41), (0, .nameAndType 42 12), (0, u "NIC_ATTACH"), (0, .fieldref 8 44), (0, .nameAndType 45 12), (0, u "NIC_DETACH"), (0, .integer 2147483647), (0, .methodref 48 49), (0, .class_ 50), (0, .nameAndType 51 52), (0, u "com/example/ratebook/ratebook/model/EventTypeIsPlatformEventPinLaw"), (0, u "pick"), (0, u "(I)Lcom/example/ratebook/ratebook/model/EventType;"), (0, .methodref 8 54), (0, .nameAndType 55 56), (0, u "isPlatformEvent"), (0, u "()Z"), (0, .methodref 48 58), (0, .nameAndType 59 60), (0, u "expected"), (0, u "(I)Z"), (3, u "law")] 2

def k1m0 : Method := { name := "<init>", desc := "()V", sig := { parameters := [], returnType := none }, accessFlags := 1, code := none }
def k1c1 : Code := { maxStack := 2, maxLocals := 1, code := method_2_code, exceptionTable := #[], attributes := #[] }
def k1m1 : Method := { name := "pick", desc := "(I)Lcom/example/ratebook/ratebook/model/EventType;", sig := { parameters := [.int], returnType := some (.object "com/example/ratebook/ratebook/model/EventType") }, accessFlags := 10, code := some k1c1 }
def k1c2 : Code := { maxStack := 2, maxLocals := 1, code := method_3_code, exceptionTable := #[], attributes := #[] }
def k1m2 : Method := { name := "expected", desc := "(I)Z", sig := { parameters := [.int], returnType := some .boolean }, accessFlags := 10, code := some k1c2 }
def k1c3 : Code := { maxStack := 2, maxLocals := 3, code := code, exceptionTable := #[], attributes := #[] }
def k1m3 : Method := { name := "law", desc := "(I)Z", sig := { parameters := [.int], returnType := some .boolean }, accessFlags := 9, code := some k1c3 }
/-- com/example/ratebook/ratebook/model/EventTypeIsPlatformEventPinLaw -/
def k1 : Class := { plain "com/example/ratebook/ratebook/model/EventTypeIsPlatformEventPinLaw" (some 0) with
  accessFlags := 49
  interfaces := #[]
  cf := some (fileOf pool1 48 #[] #[{ accessFlags := 1, nameIndex := 5, descriptorIndex := 6, attributes := #[] }, { accessFlags := 10, nameIndex := 51, descriptorIndex := 52, attributes := #[] }, { accessFlags := 10, nameIndex := 59, descriptorIndex := 60, attributes := #[] }, { accessFlags := 9, nameIndex := 64, descriptorIndex := 60, attributes := #[] }] 49 2 #[] #[])
  fields := #[]
  methods := #[k1m0, k1m1, k1m2, k1m3]
  instanceTypes := #[]
  staticTypes := #[]
  resolved := Array.replicate 67 none
  statics := none }

def pool2 : Array CpInfo := pool [(1, .class_ 2), (0, u "java/lang/constant/Constable"), (0, .class_ 4), (0, u "java/lang/Object")] 6

/-- java/lang/constant/Constable -/
def k2 : Class := { plain "java/lang/constant/Constable" (some 0) with
  accessFlags := 1537
  interfaces := #[]
  cf := some (fileOf pool2 1 #[] #[] 1537 3 #[] #[])
  fields := #[]
  methods := #[]
  instanceTypes := #[]
  staticTypes := #[]
  resolved := Array.replicate 11 none
  statics := none }

def pool3 : Array CpInfo := pool [(1, .class_ 2), (0, u "java/lang/Comparable"), (0, .class_ 4), (0, u "java/lang/Object")] 7

/-- java/lang/Comparable -/
def k3 : Class := { plain "java/lang/Comparable" (some 0) with
  accessFlags := 1537
  interfaces := #[]
  cf := some (fileOf pool3 1 #[] #[] 1537 3 #[] #[])
  fields := #[]
  methods := #[]
  instanceTypes := #[]
  staticTypes := #[]
  resolved := Array.replicate 12 none
  statics := none }

def pool4 : Array CpInfo := pool [(1, .class_ 2), (0, u "java/io/Serializable"), (0, .class_ 4), (0, u "java/lang/Object")] 2

/-- java/io/Serializable -/
def k4 : Class := { plain "java/io/Serializable" (some 0) with
  accessFlags := 1537
  interfaces := #[]
  cf := some (fileOf pool4 1 #[] #[] 1537 3 #[] #[])
  fields := #[]
  methods := #[]
  instanceTypes := #[]
  staticTypes := #[]
  resolved := Array.replicate 7 none
  statics := none }

def pool5 : Array CpInfo := pool [(2, .class_ 4), (1, u "java/lang/Enum"), (0, u "name"), (0, u "Ljava/lang/String;"), (2, u "ordinal"), (0, u "I"), (1, .class_ 14), (1, u "java/lang/Object"), (4, u "hash"), (86, .class_ 108), (1, u "java/lang/Enum$EnumDesc"), (2, .class_ 112), (0, u "java/lang/constant/Constable"), (0, .class_ 114), (0, u "java/lang/Comparable"), (0, .class_ 116), (0, u "java/io/Serializable")] 87

/-- java/lang/Enum -/
def k5 : Class := { plain "java/lang/Enum" (some 0) with
  accessFlags := 1057
  interfaces := #[2, 3, 4]
  cf := some (fileOf pool5 2 #[.nestMembers #[106]] #[] 1057 12 #[111, 113, 115] #[{ accessFlags := 18, nameIndex := 5, descriptorIndex := 6, attributes := #[] }, { accessFlags := 18, nameIndex := 9, descriptorIndex := 10, attributes := #[] }, { accessFlags := 2, nameIndex := 19, descriptorIndex := 10, attributes := #[] }])
  fields := #[{ name := "name", type := (.object "java/lang/String"), accessFlags := 18, slot := 0, constantValue := 0 }, { name := "ordinal", type := .int, accessFlags := 18, slot := 1, constantValue := 0 }, { name := "hash", type := .int, accessFlags := 2, slot := 2, constantValue := 0 }]
  methods := #[]
  instanceTypes := #[(.object "java/lang/String"), .int, .int]
  staticTypes := #[]
  resolved := Array.replicate 204 none
  statics := none }

def pool6 : Array CpInfo := pool [(1, .class_ 2), (0, u "com/example/ratebook/ratebook/model/EventType"), (0, .fieldref 1 4), (0, .nameAndType 5 6), (0, u "PLATFORM_DEPLOY"), (0, u "Lcom/example/ratebook/ratebook/model/EventType;"), (0, .fieldref 1 8), (0, .nameAndType 9 6), (0, u "PLATFORM_DELETE"), (2, u "SERVER_DEPLOY"), (2, u "SERVER_START"), (2, u "SERVER_STOP"), (2, u "SERVER_DELETE"), (2, u "DISK_ATTACH"), (2, u "DISK_DETACH"), (2, u "SNAPSHOT_CREATE"), (2, u "SNAPSHOT_DELETE"), (2, u "NIC_ATTACH"), (2, u "NIC_DETACH"), (2, u "$VALUES"), (0, u "[Lcom/example/ratebook/ratebook/model/EventType;"), (6, .class_ 52), (1, u "java/lang/Enum"), (28, u "code"), (0, u "Ljava/lang/String;"), (2, u "BY_CODE"), (0, u "Ljava/util/Map;"), (66, u "isPlatformEvent"), (0, u "()Z")] 29

def k6c0 : Code := { maxStack := 2, maxLocals := 1, code := prog_20_method_5_code, exceptionTable := #[], attributes := #[] }
def k6m0 : Method := { name := "isPlatformEvent", desc := "()Z", sig := { parameters := [], returnType := some .boolean }, accessFlags := 1, code := some k6c0 }
/-- com/example/ratebook/ratebook/model/EventType -/
def k6 : Class := { plain "com/example/ratebook/ratebook/model/EventType" (some 5) with
  accessFlags := 16433
  interfaces := #[]
  cf := some (fileOf pool6 1 #[] #[{ accessFlags := 1, nameIndex := 153, descriptorIndex := 154, attributes := #[] }] 16433 50 #[] #[{ accessFlags := 16409, nameIndex := 5, descriptorIndex := 6, attributes := #[] }, { accessFlags := 16409, nameIndex := 9, descriptorIndex := 6, attributes := #[] }, { accessFlags := 16409, nameIndex := 12, descriptorIndex := 6, attributes := #[] }, { accessFlags := 16409, nameIndex := 15, descriptorIndex := 6, attributes := #[] }, { accessFlags := 16409, nameIndex := 18, descriptorIndex := 6, attributes := #[] }, { accessFlags := 16409, nameIndex := 21, descriptorIndex := 6, attributes := #[] }, { accessFlags := 16409, nameIndex := 24, descriptorIndex := 6, attributes := #[] }, { accessFlags := 16409, nameIndex := 27, descriptorIndex := 6, attributes := #[] }, { accessFlags := 16409, nameIndex := 30, descriptorIndex := 6, attributes := #[] }, { accessFlags := 16409, nameIndex := 33, descriptorIndex := 6, attributes := #[] }, { accessFlags := 16409, nameIndex := 36, descriptorIndex := 6, attributes := #[] }, { accessFlags := 16409, nameIndex := 39, descriptorIndex := 6, attributes := #[] }, { accessFlags := 26, nameIndex := 85, descriptorIndex := 86, attributes := #[] }, { accessFlags := 18, nameIndex := 81, descriptorIndex := 82, attributes := #[] }, { accessFlags := 4122, nameIndex := 42, descriptorIndex := 43, attributes := #[] }])
  fields := #[{ name := "PLATFORM_DEPLOY", type := (.object "com/example/ratebook/ratebook/model/EventType"), accessFlags := 16409, slot := 0, constantValue := 0 }, { name := "PLATFORM_DELETE", type := (.object "com/example/ratebook/ratebook/model/EventType"), accessFlags := 16409, slot := 1, constantValue := 0 }, { name := "SERVER_DEPLOY", type := (.object "com/example/ratebook/ratebook/model/EventType"), accessFlags := 16409, slot := 2, constantValue := 0 }, { name := "SERVER_START", type := (.object "com/example/ratebook/ratebook/model/EventType"), accessFlags := 16409, slot := 3, constantValue := 0 }, { name := "SERVER_STOP", type := (.object "com/example/ratebook/ratebook/model/EventType"), accessFlags := 16409, slot := 4, constantValue := 0 }, { name := "SERVER_DELETE", type := (.object "com/example/ratebook/ratebook/model/EventType"), accessFlags := 16409, slot := 5, constantValue := 0 }, { name := "DISK_ATTACH", type := (.object "com/example/ratebook/ratebook/model/EventType"), accessFlags := 16409, slot := 6, constantValue := 0 }, { name := "DISK_DETACH", type := (.object "com/example/ratebook/ratebook/model/EventType"), accessFlags := 16409, slot := 7, constantValue := 0 }, { name := "SNAPSHOT_CREATE", type := (.object "com/example/ratebook/ratebook/model/EventType"), accessFlags := 16409, slot := 8, constantValue := 0 }, { name := "SNAPSHOT_DELETE", type := (.object "com/example/ratebook/ratebook/model/EventType"), accessFlags := 16409, slot := 9, constantValue := 0 }, { name := "NIC_ATTACH", type := (.object "com/example/ratebook/ratebook/model/EventType"), accessFlags := 16409, slot := 10, constantValue := 0 }, { name := "NIC_DETACH", type := (.object "com/example/ratebook/ratebook/model/EventType"), accessFlags := 16409, slot := 11, constantValue := 0 }, { name := "BY_CODE", type := (.object "java/util/Map"), accessFlags := 26, slot := 12, constantValue := 0 }, { name := "code", type := (.object "java/lang/String"), accessFlags := 18, slot := 3, constantValue := 0 }, { name := "$VALUES", type := (.array (.object "com/example/ratebook/ratebook/model/EventType")), accessFlags := 4122, slot := 13, constantValue := 0 }]
  methods := #[k6m0]
  instanceTypes := #[(.object "java/lang/String"), .int, .int, (.object "java/lang/String")]
  staticTypes := #[(.object "com/example/ratebook/ratebook/model/EventType"), (.object "com/example/ratebook/ratebook/model/EventType"), (.object "com/example/ratebook/ratebook/model/EventType"), (.object "com/example/ratebook/ratebook/model/EventType"), (.object "com/example/ratebook/ratebook/model/EventType"), (.object "com/example/ratebook/ratebook/model/EventType"), (.object "com/example/ratebook/ratebook/model/EventType"), (.object "com/example/ratebook/ratebook/model/EventType"), (.object "com/example/ratebook/ratebook/model/EventType"), (.object "com/example/ratebook/ratebook/model/EventType"), (.object "com/example/ratebook/ratebook/model/EventType"), (.object "com/example/ratebook/ratebook/model/EventType"), (.object "java/util/Map"), (.array (.object "com/example/ratebook/ratebook/model/EventType"))]
  resolved := Array.replicate 184 none
  statics := some 0 }

def pool7 : Array CpInfo := pool [(1, u "java/lang/Cloneable"), (0, .class_ 1), (0, u "java/lang/Object"), (0, .class_ 3)] 3

/-- java/lang/Cloneable -/
def k7 : Class := { plain "java/lang/Cloneable" (some 0) with
  accessFlags := 1537
  interfaces := #[]
  cf := some (fileOf pool7 2 #[] #[] 1537 4 #[] #[])
  fields := #[]
  methods := #[]
  instanceTypes := #[]
  staticTypes := #[]
  resolved := Array.replicate 8 none
  statics := none }

/-- the primitive byte -/
def k8 : Class := { plain "byte" none with kind := .primitive 'B', accessFlags := 0x411 }
/-- [B -/
def k9 : Class := { plain "[B" (some 0) with kind := .array 8 .byte, interfaces := #[7, 4], accessFlags := 1041 }

/-- the primitive int -/
def k10 : Class := { plain "int" none with kind := .primitive 'I', accessFlags := 0x411 }
/-- [I -/
def k11 : Class := { plain "[I" (some 0) with kind := .array 10 .int, interfaces := #[7, 4], accessFlags := 1041 }

def heap : Heap := #[{ cls := 6, slots := #[.ref 1, .ref 3, .ref 4, .ref 2, .ref 7, .ref 12, .ref 11, .ref 5, .ref 8, .ref 10, .ref 9, .ref 6, .null, .null], vm := .statics 6 },
  { cls := 6, slots := #[.null, .int 0, .int 0, .null], vm := .none },
  { cls := 6, slots := #[.null, .int 3, .int 0, .null], vm := .none },
  { cls := 6, slots := #[.null, .int 1, .int 0, .null], vm := .none },
  { cls := 6, slots := #[.null, .int 2, .int 0, .null], vm := .none },
  { cls := 6, slots := #[.null, .int 7, .int 0, .null], vm := .none },
  { cls := 6, slots := #[.null, .int 11, .int 0, .null], vm := .none },
  { cls := 6, slots := #[.null, .int 4, .int 0, .null], vm := .none },
  { cls := 6, slots := #[.null, .int 8, .int 0, .null], vm := .none },
  { cls := 6, slots := #[.null, .int 10, .int 0, .null], vm := .none },
  { cls := 6, slots := #[.null, .int 9, .int 0, .null], vm := .none },
  { cls := 6, slots := #[.null, .int 6, .int 0, .null], vm := .none },
  { cls := 6, slots := #[.null, .int 5, .int 0, .null], vm := .none }]
def classes : Array Class := #[k0, k1, k2, k3, k4, k5, k6, k7, k8, k9, k10, k11]
def interned : List (Array UInt16 × Addr) := []
def slotsUsed : Nat := 62
def theMethod : MethodId := ⟨1, 3⟩
def args0 : Array Value := #[.int 5]
def aboutOver (below : List Frame) : State where
  vm := { classes := classes, interned := interned.toArray }
  heap := heap
  slotsUsed := slotsUsed
  threads := #[{ frames := .invoking theMethod args0 :: below }]
def below0 : List Frame := [.native { method := ⟨0, 0⟩, args := #[] }]
def about1 : State := aboutOver below0
def p0 : Program := .bare "" "" ""
def e0 : Env := launch0.env 0 0 0
theorem w_frames : about1.frames = Frame.invoking theMethod args0 :: below0 := rfl
set_option maxRecDepth 65536 in
theorem w_args : argsFit about1.vm theMethod args0 = true := by decide +kernel
set_option maxRecDepth 65536 in
theorem w_heap : heapFits about1 = true := by decide +kernel
set_option maxRecDepth 65536 in
theorem w_runnable : about1.curStatus? = some .runnable := by decide +kernel
set_option maxRecDepth 65536 in
theorem w_alone : about1.alone = true := by decide +kernel
set_option maxRecDepth 65536 in
theorem w_named : about1.methodNamed? x = some theMethod := by decide +kernel
set_option maxRecDepth 65536 in
theorem w_hears : about1.hears theMethod below0 = true := by decide +kernel
set_option maxRecDepth 65536 in
theorem w_ripe : about1.ripe theMethod args0 below0 = true := by decide +kernel
theorem w_running : about1.status = .running := rfl
set_option maxRecDepth 65536 in
theorem w_room : about1.hasRoom e0.platform room_1 = true :=
  launch0.hasRoom_least _ room_1 (by decide +kernel) (by decide +kernel) (by decide +kernel) (by decide +kernel) (by decide +kernel) (by decide +kernel)
theorem allAtoms_all (ts : List Jvm.Cond) (a : Array Jvm.Value) (st : Jvm.State) : (allAtoms ts).before a st = ts.all (fun c => c.before a st) := by
  induction ts with
  | nil => rfl
  | cons c t ih =>
    show (Jvm.Cond.and c (allAtoms t)).before a st = _
    rw [Jvm.Cond.before_and, ih, List.all_cons]
def words1 : List Jvm.Cond := Jvm.Cond.code x code maxLocals ret :: tables_1
/-- a 'code' word, met by the world's own term for the bytes: nothing is compared byte by byte -/
theorem code_word {y : MethodName} {bytes : ByteArray} {mx : Nat} {rt : Option FieldType} {a : Array Value} {s : State} {m : MethodId} {meth : Method} {c : Code} (h1 : s.methodNamed? y = some m) (h2 : s.vm.method? m = some meth) (h3 : meth.code = some c) (h4 : c.code = bytes)
    (h5 : (c.maxLocals == mx && c.exceptionTable.isEmpty && decide (c.maxStack ≤ mostOperands) && decide (meth.sig.returnType = rt) && !meth.locks && decide (parseMethodDescriptor y.desc = some meth.sig)) = true) : (Jvm.Cond.code y bytes mx rt).before a s = true := by
  simp only [Bool.and_eq_true, beq_iff_eq, Bool.not_eq_true', decide_eq_true_eq] at h5
  obtain ⟨⟨⟨⟨⟨g1, g2⟩, g3⟩, g4⟩, g5⟩, g6⟩ := h5
  simp [Cond.before, Cond.holds, Cond.value, h1, h2, h3, h4, g1, g2, g3, g4, g5, g6]
def isCode : Jvm.Cond → Bool
  | .code _ _ _ _ => true
  | _ => false
theorem all_split {L : List Jvm.Cond} {P : Jvm.Cond → Bool} (h1 : L.all (fun c => isCode c || P c) = true) (h2 : ∀ c ∈ L.filter isCode, P c = true) : L.all P = true := by
  refine List.all_eq_true.mpr fun c hc => ?_
  have h := List.all_eq_true.mp h1 c hc
  rcases Bool.eq_false_or_eq_true (isCode c) with hi | hi
  · exact h2 c (List.mem_filter.mpr ⟨hc, hi⟩)
  · simpa [hi] using h
set_option maxRecDepth 65536 in
theorem w_c0 : (Jvm.Cond.code x code maxLocals ret).before args0 about1 = true := code_word (m := ⟨1, 3⟩) (meth := k1m3) (c := k1c3) (by decide +kernel) rfl rfl rfl (by decide +kernel)
set_option maxRecDepth 65536 in
theorem w_c1 : (Jvm.Cond.code ({ cls := "com/example/ratebook/ratebook/model/EventTypeIsPlatformEventPinLaw", name := "pick", desc := "(I)Lcom/example/ratebook/ratebook/model/EventType;" } : Jvm.MethodName) method_2_code (1 : Nat) (Option.some (Jvm.ClassFile.FieldType.object "com/example/ratebook/ratebook/model/EventType"))).before args0 about1 = true := code_word (m := ⟨1, 1⟩) (meth := k1m1) (c := k1c1) (by decide +kernel) rfl rfl rfl (by decide +kernel)
set_option maxRecDepth 65536 in
theorem w_c2 : (Jvm.Cond.code ({ cls := "com/example/ratebook/ratebook/model/EventType", name := "isPlatformEvent", desc := "()Z" } : Jvm.MethodName) prog_20_method_5_code (1 : Nat) (Option.some Jvm.ClassFile.FieldType.boolean)).before args0 about1 = true := code_word (m := ⟨6, 0⟩) (meth := k6m0) (c := k6c0) (by decide +kernel) rfl rfl rfl (by decide +kernel)
set_option maxRecDepth 65536 in
theorem w_c3 : (Jvm.Cond.code ({ cls := "com/example/ratebook/ratebook/model/EventTypeIsPlatformEventPinLaw", name := "expected", desc := "(I)Z" } : Jvm.MethodName) method_3_code (1 : Nat) (Option.some Jvm.ClassFile.FieldType.boolean)).before args0 about1 = true := code_word (m := ⟨1, 2⟩) (meth := k1m2) (c := k1c2) (by decide +kernel) rfl rfl rfl (by decide +kernel)
def codes1 : List Jvm.Cond := [Jvm.Cond.code x code maxLocals ret, Jvm.Cond.code ({ cls := "com/example/ratebook/ratebook/model/EventTypeIsPlatformEventPinLaw", name := "pick", desc := "(I)Lcom/example/ratebook/ratebook/model/EventType;" } : Jvm.MethodName) method_2_code (1 : Nat) (Option.some (Jvm.ClassFile.FieldType.object "com/example/ratebook/ratebook/model/EventType")), Jvm.Cond.code ({ cls := "com/example/ratebook/ratebook/model/EventType", name := "isPlatformEvent", desc := "()Z" } : Jvm.MethodName) prog_20_method_5_code (1 : Nat) (Option.some Jvm.ClassFile.FieldType.boolean), Jvm.Cond.code ({ cls := "com/example/ratebook/ratebook/model/EventTypeIsPlatformEventPinLaw", name := "expected", desc := "(I)Z" } : Jvm.MethodName) method_3_code (1 : Nat) (Option.some Jvm.ClassFile.FieldType.boolean)]
set_option maxRecDepth 65536 in
theorem codes_eq : words1.filter isCode = codes1 := rfl
theorem w_codes : ∀ c ∈ words1.filter isCode, c.before args0 about1 = true := by
  rw [codes_eq]
  intro c hc
  simp only [codes1, List.mem_cons, List.not_mem_nil, or_false] at hc
  rcases hc with rfl | rfl | rfl | rfl
  · exact w_c0
  · exact w_c1
  · exact w_c2
  · exact w_c3
set_option maxRecDepth 65536 in
theorem w_t1 : (words1.take 24).all (fun c => isCode c || c.before args0 about1) = true := by decide +kernel
set_option maxRecDepth 65536 in
theorem w_t2 : (words1.drop 24).all (fun c => isCode c || c.before args0 about1) = true := by decide +kernel
theorem w_tables : (allAtoms (Jvm.Cond.code x code maxLocals ret :: tables_1)).before args0 about1 = true := by
  rw [allAtoms_all]
  show words1.all (fun c => c.before args0 about1) = true
  refine all_split ?_ w_codes
  rw [← List.take_append_drop 24 words1, List.all_append, w_t1, w_t2]
  rfl
set_option maxRecDepth 65536 in
theorem w_case : (Jvm.Cond.and given_1 narrow_1).before args0 about1 = true := by decide +kernel
theorem w_applies : (headSpec (Jvm.Cond.code x code maxLocals ret :: tables_1) room_1).applies x e0.platform about1 = true :=
  (Spec.applies_iff w_frames).mpr ⟨w_running, w_runnable, w_alone, w_named, w_hears, w_ripe, w_room, w_tables⟩
theorem atStart : AtStart classFile x code maxLocals ret World_1 tables_1 room_1 Calls_1 rest_1 Pre_1 launch0 p0 e0 about1 theMethod args0 below0 :=
  ⟨lists_1, trivial, launch0.admits_env _ _ _, launch0.least_env, fairChoices_fair.cas, fairChoices_fair.clock, w_frames, w_args, w_heap, w_applies, trivial, trivial, w_case⟩
end start1
theorem witness_1 : WitnessClaimed_1 := ⟨start1.p0, start1.e0, start1.about1, start1.theMethod, start1.args0, start1.below0, start1.atStart⟩
end Jvm.Pilot.@@N@@
