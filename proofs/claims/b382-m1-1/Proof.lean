import JvmDerived
import JvmDerived.Pilot.@@N@@Statement
import JvmDerived.Pilot.@@N@@Code
set_option linter.unusedVariables false
set_option linter.unusedSimpArgs false
set_option maxRecDepth 65536
set_option maxHeartbeats 40000000
namespace Jvm.RoadKit
open Sem ClassFile Op Lib Jvm.Stand Jvm.Free Jvm.LawKit
section New
variable {p : Program} {l : Launch} {e : Env} {R : Room} {s : State} {m : MethodId} {args : Array Value} {below : List Frame} {meth : Method} {c : Code} {T : State} {locs : List Loc} {cells slots : Nat}
theorem retI (X : Stand p l e R s m args below meth c T locs cells slots) (hx : p.tables.exec = Jvm.exec) {pc : Nat} {Ls : Array Slot} {z : Int32} {rest : List Value} (hret : meth.sig.returnType = some .int) (hd : decode c.code pc = .ok (.ireturn, 1)) {fs : List Frame}
    (hl : ∀ (f : JFrame) (acts : List Action), f.method = m → f.locked = none → f.entered = [] → (doReturn e (T.setTop f) acts (some (.int z))).1 = T.setFrames fs) : Steps p.tables e below (T.setTop (mkF m pc Ls (.int z :: rest))) (T.setFrames fs) := by
  have hm' : T.vm.method? m = some meth := X.method'
  have hn : narrow .int (.int z) = .int z := rfl
  show Steps p.tables e below (T.setTop { method := m, pc := pc, locals := Ls, stack := _ :: rest, locked := none }) _
  jvm_step X.here [X.here.top, hx, hd, hm', hret, hn]
  first | (intro acts; rw [hl _ acts rfl rfl rfl]) | rw [hl _ _ rfl rfl rfl]
  exact Steps.refl _
end New
end Jvm.RoadKit
namespace Jvm.Pilot.@@N@@
open Jvm Jvm.ClassFile Sem Op Lib Jvm.Free Jvm.Stand Jvm.LawKit Jvm.RoadKit Bundle Jvm.Pilot.@@N@@.Jvm.D
abbrev Sp (p : Program) (e : Env) (below : List Frame) (T : State) (f : JFrame) (t : State) : Prop := Steps p.tables e below (T.setTop f) t
theorem wq {Z : State} {a0 : Array Value} (hw : ∀ d ∈ tables_1, d.before a0 Z = true) (i : Nat) {d : Jvm.Cond} (h : tables_1[i]? = some d) : d.before a0 Z = true := hw _ (List.mem_of_getElem? h)
theorem ma {L : List Addr} (i : Nat) {a : Addr} (h : L[i]? = some a) : a ∈ L := List.mem_of_getElem? h
theorem own_sz {Z : State} {n0 : Nat} {h : Heap} (O : Old Z n0 h) : n0 ≤ h.size := O.1 ▸ O.2.1
theorem own_nei {x c : Int32} {n : Int} (h : ¬ x = c) (e : c.toInt = n) : x.toInt ≠ n := fun q => h (Int32.toInt_inj.mp (q.trans e.symm))
theorem own_eq {x c : Int32} {n : Int} (e : c.toInt = n) (h : x.toInt = n) : x = c := Int32.toInt_inj.mp (h.trans e.symm)
theorem own_lti {x c : Int32} {n : Int} (e : c.toInt = n) (h : x.toInt < n) : x < c := by rw [Int32.lt_iff_toInt_lt, e]; exact h
theorem own_nlti {x c : Int32} {n : Int} (e : c.toInt = n) (h : ¬ x.toInt < n) : ¬ (x < c) := by rw [Int32.lt_iff_toInt_lt, e]; exact h
theorem own_eqi {x c : Int32} {n : Int} (h : x = c) (e : c.toInt = n) : x.toInt = n := by rw [h]; exact e
theorem own_fldi {args : Array Value} {s : State} {t : Term} {a : Addr} {C n d : String} {c : Int32} (ev : t.eval args s none [] s = some (.ref a)) (h : (Cond.eq (.field t C n d) (.int c)).value args s none s [] = some true) : Fld s s.heap a C n d (.int c) := by
  apply Fld.start
  cases hf : s.fieldOf? a C n d with
  | none => simp [Cond.value, Term.eval, ev, hf] at h
  | some x => cases x <;> simp [Cond.value, Term.eval, ev, hf] at h ⊢; exact h
theorem own_fldr {args : Array Value} {s : State} {t u : Term} {a b : Addr} {C n d : String} (ev : t.eval args s none [] s = some (.ref a)) (eu : u.eval args s none [] s = some (.ref b)) (h : (Cond.eq (.field t C n d) u).value args s none s [] = some true) : Fld s s.heap a C n d (.ref b) := by
  apply Fld.start
  cases hf : s.fieldOf? a C n d with
  | none => simp [Cond.value, Term.eval, ev, eu, hf] at h
  | some x => cases x <;> simp [Cond.value, Term.eval, ev, eu, hf] at h ⊢; exact h
theorem own_rem {x m : Int32} {M d : Int} (hm : m.toInt = M) (h0 : 0 ≤ M) {y : Int32} (hy : y.toInt = d) (hd : 0 < d) : 0 ≤ ((x &&& m) % y).toInt ∧ ((x &&& m) % y).toInt < d := by
  have a := c_and x m (by rw [hm]; exact h0)
  have b := (c_irem (x &&& m) y d hy).1 a.1
  rw [b]; exact ⟨Int.emod_nonneg _ (by omega), Int.emod_lt_of_pos _ hd⟩
theorem own_ch0 (x : Int32) : ¬ (255 : Int32) < (x &&& (255 : Int32)) := by
  rw [Int32.lt_iff_toInt_lt]
  have a := c_and x (255 : Int32) (by decide)
  have b : (255 : Int32).toInt = 255 := rfl
  omega
theorem own_ch1 (x : Int32) : ¬ (255 : Int32) < ((x &&& (255 : Int32)).toUInt32.toUInt16.toUInt32.toInt32) := by rw [i2c_mask]; exact own_ch0 x
theorem own_ch2 (x : Int32) : ¬ (255 : Int32) < (nar .char ((x &&& (255 : Int32)).toUInt32.toUInt16.toUInt32.toInt32)) := by
  show ¬ (255 : Int32) < (((x &&& (255 : Int32)).toUInt32.toUInt16.toUInt32.toInt32).toUInt32.toUInt16.toUInt32.toInt32)
  rw [i2c_mask, i2c_mask]; exact own_ch0 x
theorem own_ch3 (x : Int32) : ¬ (255 : Int32) < (nar .char (x &&& (255 : Int32))) := own_ch1 x
abbrev Tb := Int32 → Option (Addr × Int32)
def upT (T : Tb) (j : Int32) (e : Option (Addr × Int32)) : Tb := fun i => if i = j then e else T i
def hvL : List Value → Int32
  | [.int x] => x &&& (255 : Int32)
  | [.int x, .int y] => ((31 : Int32) * (((31 : Int32) * (0 : Int32)) + (x &&& (255 : Int32)))) + (y &&& (255 : Int32))
  | _ => 0
def hmI (h : Int32) : Int32 := (h ^^^ ((h.toUInt32 >>> ((16 : Int32) &&& 31).toUInt32).toInt32)) &&& (31 : Int32)
def PathN (κ : Addr → List Value) (T : Tb) (k : List Value) (j : Int32) : Nat → Int32 → Prop
  | 0, i => i = j
  | d + 1, i => ∃ a n, T i = some (a, n) ∧ κ a ≠ k ∧ PathN κ T k j d ((i + (1 : Int32)) &&& (31 : Int32))
def Path (κ : Addr → List Value) (T : Tb) (k : List Value) (i j : Int32) : Prop := ∃ d, PathN κ T k j d i
theorem Path.here {κ : Addr → List Value} {T : Tb} {k : List Value} (i : Int32) : Path κ T k i i := ⟨0, rfl⟩
theorem Path.step {κ : Addr → List Value} {T : Tb} {k : List Value} {i j : Int32} {a : Addr} {n : Int32} (h : T i = some (a, n)) (ne : κ a ≠ k) (r : Path κ T k ((i + (1 : Int32)) &&& (31 : Int32)) j) : Path κ T k i j := by
  obtain ⟨d, r⟩ := r; exact ⟨d + 1, a, n, h, ne, r⟩
def StopT (κ : Addr → List Value) (T : Tb) (k : List Value) (j : Int32) : Prop := T j = none ∨ ∃ a n, T j = some (a, n) ∧ κ a = k
theorem StopT.no {κ : Addr → List Value} {T : Tb} {k : List Value} {j : Int32} {a : Addr} {n : Int32} (S : StopT κ T k j) (h : T j = some (a, n)) (ne : κ a ≠ k) : False := by
  rcases S with q | ⟨a', n', q, e⟩
  · rw [h] at q; cases q
  · rw [h] at q; cases q; exact ne e
theorem PathN.det {κ : Addr → List Value} {T : Tb} {k : List Value} {j j' : Int32} (S : StopT κ T k j) (S' : StopT κ T k j') : ∀ (d d' : Nat) (i : Int32), PathN κ T k j d i → PathN κ T k j' d' i → j = j'
  | 0, 0, i, P, P' => (show i = j from P).symm.trans P'
  | 0, d' + 1, i, P, P' => by
    obtain ⟨a, n, h, ne, -⟩ := P'
    cases (show i = j from P); exact (S.no h ne).elim
  | d + 1, 0, i, P, P' => by
    obtain ⟨a, n, h, ne, -⟩ := P
    cases (show i = j' from P'); exact (S'.no h ne).elim
  | d + 1, d' + 1, i, P, P' => by
    obtain ⟨a, n, h, ne, r⟩ := P
    obtain ⟨a', n', h', ne', r'⟩ := P'
    exact PathN.det S S' d d' _ r r'
theorem Path.det {κ : Addr → List Value} {T : Tb} {k : List Value} {i j j' : Int32} (P : Path κ T k i j) (S : StopT κ T k j) (P' : Path κ T k i j') (S' : StopT κ T k j') : j = j' := by
  obtain ⟨d, P⟩ := P; obtain ⟨d', P'⟩ := P'; exact PathN.det S S' d d' i P P'
theorem PathN.up {κ : Addr → List Value} {T : Tb} {k : List Value} {j j0 : Int32} (h0 : T j0 = none) (e : Option (Addr × Int32)) : ∀ (d : Nat) (i : Int32), PathN κ T k j d i → PathN κ (upT T j0 e) k j d i
  | 0, _, P => P
  | d + 1, i, P => by
    obtain ⟨a, n, h, ne, r⟩ := P
    exact ⟨a, n, by rw [upT, if_neg (fun q => by rw [q, h0] at h; cases h)]; exact h, ne, PathN.up h0 e d _ r⟩
theorem Path.up {κ : Addr → List Value} {T : Tb} {k : List Value} {i j j0 : Int32} (P : Path κ T k i j) (h0 : T j0 = none) (e : Option (Addr × Int32)) : Path κ (upT T j0 e) k i j := by
  obtain ⟨d, P⟩ := P; exact ⟨d, PathN.up h0 e d i P⟩
def hmK (k : List Value) : Int32 := hmI (hvL k)
def PutT (κ : Addr → List Value) (T : Tb) (b : Addr) (num r : Int32) (T' : Tb) : Prop := ∃ j, Path κ T (κ b) (hmK (κ b)) j ∧ ((T j = none ∧ r = (-1 : Int32) ∧ T' = upT T j (some (b, num))) ∨ ∃ a n, T j = some (a, n) ∧ κ a = κ b ∧ r = n ∧ T' = T)
def FoundT (κ : Addr → List Value) (T : Tb) (k : List Value) (n : Int32) : Prop := ∃ j a, Path κ T k (hmK k) j ∧ T j = some (a, n) ∧ κ a = k
def AbsentT (κ : Addr → List Value) (T : Tb) (k : List Value) : Prop := ∀ j a n, T j = some (a, n) → κ a ≠ k
theorem PutT.found {κ : Addr → List Value} {T T' : Tb} {b : Addr} {num r n : Int32} (P : PutT κ T b num r T') (F : FoundT κ T (κ b) n) : r = n ∧ T' = T := by
  obtain ⟨j, p, h⟩ := P
  obtain ⟨j', a', p', q', e'⟩ := F
  have S' : StopT κ T (κ b) j' := Or.inr ⟨a', n, q', e'⟩
  rcases h with ⟨h1, h2, h3⟩ | ⟨a, n0, h1, h2, h3, h4⟩
  · have := p.det (Or.inl h1) p' S'; rw [this, q'] at h1; cases h1
  · have := p.det (Or.inr ⟨a, n0, h1, h2⟩) p' S'; rw [this, q'] at h1; cases h1; exact ⟨h3, h4⟩
theorem PutT.absent {κ : Addr → List Value} {T T' : Tb} {b : Addr} {num r : Int32} (P : PutT κ T b num r T') (A : AbsentT κ T (κ b)) : r = (-1 : Int32) ∧ FoundT κ T' (κ b) num ∧ (∀ k, κ b ≠ k → AbsentT κ T k → AbsentT κ T' k) ∧ (∀ k n, FoundT κ T k n → FoundT κ T' k n) := by
  obtain ⟨j, p, h⟩ := P
  rcases h with ⟨h1, h2, h3⟩ | ⟨a, n0, h1, h2, h3, h4⟩
  · subst h3
    refine ⟨h2, ⟨j, b, p.up h1 _, if_pos rfl, rfl⟩, fun k hk B i a n q => ?_, fun k n ⟨i, a, p', q', e'⟩ => ⟨i, a, p'.up h1 _, ?_, e'⟩⟩
    · simp only [upT] at q
      split at q
      · cases q; exact hk
      · exact B i a n q
    · rw [upT, if_neg (fun q => by rw [q, h1] at q'; cases q')]; exact q'
  · exact absurd h2 (A j a n0 h1)
theorem AbsentT.none {κ : Addr → List Value} {T : Tb} (h : ∀ j, T j = none) (k : List Value) : AbsentT κ T k := fun j a n q => by rw [h] at q; cases q
/-- after three puts into an empty table -/
theorem put1 {κ : Addr → List Value} {T0 T1 : Tb} {b1 : Addr} {k r1 : Int32} (h0 : ∀ j, T0 j = none) (P1 : PutT κ T0 b1 k r1 T1) : r1 = (-1 : Int32) ∧ FoundT κ T1 (κ b1) k ∧ ∀ c, κ b1 ≠ c → AbsentT κ T1 c := by
  obtain ⟨a, b, c, d⟩ := P1.absent (AbsentT.none h0 _)
  exact ⟨a, b, fun x hx => c x hx (AbsentT.none h0 _)⟩
theorem put2 {κ : Addr → List Value} {T1 T2 : Tb} {b1 b2 : Addr} {k k2 r2 : Int32} (F : FoundT κ T1 (κ b1) k) (A : ∀ c, κ b1 ≠ c → AbsentT κ T1 c) (P2 : PutT κ T1 b2 k2 r2 T2) :
    (κ b2 = κ b1 → r2 = k) ∧ (κ b2 ≠ κ b1 → r2 = (-1 : Int32) ∧ FoundT κ T2 (κ b2) k2) ∧ FoundT κ T2 (κ b1) k ∧ ∀ c, κ b1 ≠ c → κ b2 ≠ c → AbsentT κ T2 c := by
  by_cases e : κ b2 = κ b1
  · obtain ⟨q1, q2⟩ := P2.found (e ▸ F)
    subst q2
    exact ⟨fun _ => q1, fun h => absurd e h, F, fun c h _ => A c h⟩
  · obtain ⟨q1, q2, q3, q4⟩ := P2.absent (A _ (Ne.symm e))
    exact ⟨fun h => absurd h e, fun _ => ⟨q1, q2⟩, q4 _ _ F, fun c h h' => q3 c h' (A c h)⟩
theorem put3 {κ : Addr → List Value} {T2 T3 : Tb} {b1 b2 b3 : Addr} {k k2 k3 r3 : Int32} (F : FoundT κ T2 (κ b1) k) (F2 : κ b2 ≠ κ b1 → FoundT κ T2 (κ b2) k2) (A : ∀ c, κ b1 ≠ c → κ b2 ≠ c → AbsentT κ T2 c) (P3 : PutT κ T2 b3 k3 r3 T3) :
    (κ b3 = κ b1 → r3 = k) ∧ (κ b3 ≠ κ b1 → κ b3 = κ b2 → r3 = k2) ∧ (κ b3 ≠ κ b1 → κ b3 ≠ κ b2 → r3 = (-1 : Int32)) ∧ FoundT κ T3 (κ b1) k := by
  by_cases e : κ b3 = κ b1
  · obtain ⟨q1, q2⟩ := P3.found (e ▸ F)
    subst q2
    exact ⟨fun _ => q1, fun h => absurd e h, fun h => absurd e h, F⟩
  · by_cases e2 : κ b3 = κ b2
    · have f2 := F2 (fun q => e (e2.trans q))
      obtain ⟨q1, q2⟩ := P3.found (e2 ▸ f2)
      subst q2
      exact ⟨fun h => absurd h e, fun _ _ => q1, fun _ h => absurd e2 h, F⟩
    · obtain ⟨q1, q2, q3, q4⟩ := P3.absent (A _ (Ne.symm e) (Ne.symm e2))
      exact ⟨fun h => absurd h e, fun _ h => absurd h e2, fun _ _ => q1, q4 _ _ F⟩
theorem put4 {κ : Addr → List Value} {T3 T4 : Tb} {b1 : Addr} {k k4 r4 : Int32} (F : FoundT κ T3 (κ b1) k) (P4 : PutT κ T3 b1 k4 r4 T4) : r4 = k := (P4.found F).1
def upF (f : Int32 → Value) (j : Int32) (v : Value) : Int32 → Value := fun i => if i = j then v else f i
def Arf (Z : State) (h : Heap) (a : Addr) (k : ClassId) (ty : FieldType) (n : Int32) (f : Int32 → Value) : Prop := ∃ hs vs dv, Arh Z h a k ty n hs vs dv ∧ ∀ j : Int32, ¬ j < 0 → j < n → getH hs vs dv j.toNatClampNeg = f j
section
variable {Z : State} {h h' : Heap} {a b : Addr} {k : ClassId} {ty : FieldType} {n : Int32} {f : Int32 → Value} {sl : Nat} {v : Value} {ws : List Addr}
theorem Arf.lt (F : Arf Z h a k ty n f) : a < h.size := by obtain ⟨hs, vs, dv, A, -⟩ := F; exact A.lt
theorem Arf.ext (F : Arf Z h a k ty n f) (E : Ext h h') : Arf Z h' a k ty n f := by obtain ⟨hs, vs, dv, A, r⟩ := F; exact ⟨hs, vs, dv, A.ext E, r⟩
theorem Arf.other (F : Arf Z h b k ty n f) (W : Wr h h' a sl v) (q : b ≠ a) : Arf Z h' b k ty n f := by obtain ⟨hs, vs, dv, A, r⟩ := F; exact ⟨hs, vs, dv, A.other W q, r⟩
theorem Arf.keep (F : Arf Z h a k ty n f) (K : Keep h h' ws) (q : a ∉ ws) : Arf Z h' a k ty n f := by obtain ⟨hs, vs, dv, A, r⟩ := F; exact ⟨hs, vs, dv, A.keep K q, r⟩
theorem Arf.of {vs : List Value} {dv : Value} (A : Arv Z h a k ty n vs dv) (e : vs = List.replicate vs.length dv) : Arf Z h a k ty n (fun _ => dv) := ⟨[], vs, dv, A.arh, fun j _ _ => getH_all e _⟩
theorem Arf.push {hs : List (Int32 × Value)} {vs : List Value} {dv : Value} {j : Int32} (U : ∀ j : Int32, ¬ j < 0 → j < n → getH hs vs dv j.toNatClampNeg = f j) (A : Arh Z h' a k ty n ((j, v) :: hs) vs dv) : Arf Z h' a k ty n (upF f j v) := by
  refine ⟨_, _, _, A, fun i h0 hn => ?_⟩
  by_cases e : i = j
  · rw [upF, if_pos e]; exact getH_hit h0 e
  · rw [upF, if_neg e]; exact getH_miss h0 e (U i h0 hn)
end
/-- a free slot within d steps -/
def FreeT (T : Tb) : Nat → Int32 → Prop
  | 0, i => T i = none
  | d + 1, i => T i = none ∨ FreeT T d ((i + (1 : Int32)) &&& (31 : Int32))
theorem own_pig : ∀ (k : Nat) (U : List Int) (g : Nat → Int), (∀ d, d < k → g d ∈ U) → (∀ d d', d < k → d' < k → g d = g d' → d = d') → k ≤ U.length
  | 0, _, _, _, _ => Nat.zero_le _
  | k + 1, U, g, h, inj => by
    have hm := h k (Nat.lt_succ_self k)
    have := own_pig k (U.erase (g k)) g (fun d hd => (List.mem_erase_of_ne (fun q => absurd (inj d k (by omega) (by omega) q) (by omega))).mpr (h d (by omega))) (fun d d' q q' => inj d d' (by omega) (by omega))
    rw [List.length_erase_of_mem hm] at this
    have : 0 < U.length := List.length_pos_of_mem hm
    omega
theorem own_nxt (i : Int32) (h : 0 ≤ i.toInt ∧ i.toInt < 32) : 0 ≤ ((i + (1 : Int32)) &&& (31 : Int32)).toInt ∧ ((i + (1 : Int32)) &&& (31 : Int32)).toInt < 32 ∧ ((i + (1 : Int32)) &&& (31 : Int32)).toInt = (i.toInt + 1) % 32 := by
  have q := c_mask (i + (1 : Int32)) (31 : Int32) 5 (by decide) (by decide)
  have r := c_iadd i (1 : Int32)
  have o : (1 : Int32).toInt = 1 := rfl
  rw [o] at r
  have s : ((2 ^ 5 : Nat) : Int) = 32 := rfl
  rw [s] at q
  omega
theorem own_walk (T : Tb) : ∀ (d : Nat) (i : Int32), (0 ≤ i.toInt ∧ i.toInt < 32) → ¬ FreeT T d i → ∀ e, e ≤ d → ∃ j : Int32, T j ≠ none ∧ (0 ≤ j.toInt ∧ j.toInt < 32) ∧ j.toInt = (i.toInt + e) % 32
  | 0, i, hi, h, e, he => ⟨i, h, hi, by omega⟩
  | d + 1, i, hi, h, e, he => by
    have h1 : T i ≠ none := fun q => h (Or.inl q)
    have h2 : ¬ FreeT T d ((i + (1 : Int32)) &&& (31 : Int32)) := fun q => h (Or.inr q)
    cases e with
    | zero => exact ⟨i, h1, hi, by omega⟩
    | succ e =>
      have n := own_nxt i hi
      obtain ⟨j, q1, q2, q3⟩ := own_walk T d _ ⟨n.1, n.2.1⟩ h2 e (by omega)
      exact ⟨j, q1, q2, by rw [q3, n.2.2]; omega⟩
theorem own_free {T : Tb} {U : List Int32} (hU : ∀ j, T j ≠ none → j ∈ U) (hl : U.length ≤ 15) (i : Int32) (hi : 0 ≤ i.toInt ∧ i.toInt < 32) : FreeT T 15 i := by
  apply Classical.byContradiction
  intro h
  have w := own_walk T 15 i hi h
  have := own_pig 16 (U.map Int32.toInt) (fun d => (i.toInt + d) % 32) (fun d hd => by
    obtain ⟨j, q1, q2, q3⟩ := w d (by omega)
    exact List.mem_map.mpr ⟨j, hU j q1, q3⟩) (fun d d' _ _ q => by
    have q : (i.toInt + (d : Int)) % 32 = (i.toInt + (d' : Int)) % 32 := q
    omega)
  rw [List.length_map] at this
  omega
def StrK (Z : State) (h : Heap) (a : Addr) (ks : List Value) : Prop := ∃ (vb : Addr) (k : ClassId) (n hv zv : Int32), Exa Z h a "java/lang/String" ∧ Fld Z h a "java/lang/String" "coder" "B" (.int (0 : Int32)) ∧ Fld Z h a "java/lang/String" "value" "[B" (.ref vb) ∧ Fld Z h a "java/lang/String" "hash" "I" (.int hv) ∧ Fld Z h a "java/lang/String" "hashIsZero" "Z" (.int zv) ∧ Exa Z h vb "[B" ∧ Arv Z h vb k .byte n ks (.int (0 : Int32)) ∧ (hv = 0 ∨ hv = hvL ks) ∧ (zv = 0 ∨ hvL ks = 0) ∧ ((∃ x, n = 1 ∧ ks = [.int x]) ∨ ∃ x y, n = 2 ∧ ks = [.int x, .int y])
section
variable {Z : State} {h h' : Heap} {a b : Addr} {ks : List Value} {sl : Nat} {v : Value} {ws : List Addr} {C : String}
theorem StrK.exa (F : StrK Z h a ks) : Exa Z h a "java/lang/String" := by obtain ⟨vb, k, n, hv, zv, E, -⟩ := F; exact E
theorem StrK.lt (F : StrK Z h a ks) : a < h.size := F.exa.lt
theorem StrK.keep (F : StrK Z h a ks) (K : Keep h h' ws) (q : ∀ x ∈ ws, a ≠ x ∧ ∀ y, Exa Z h y "[B" → y ≠ x) : StrK Z h' a ks := by
  obtain ⟨vb, k, n, hv, zv, E, F1, F2, F3, F4, Ev, V, r⟩ := F
  have na : a ∉ ws := fun h => (q a h).1 rfl
  have nv : vb ∉ ws := fun h => (q vb h).2 vb Ev rfl
  exact ⟨vb, k, n, hv, zv, E.keep K, F1.keep K na, F2.keep K na, F3.keep K na, F4.keep K na, Ev.keep K, V.keep K nv, r⟩
theorem StrK.ext (F : StrK Z h a ks) (E : Ext h h') : StrK Z h' a ks := F.keep ((Keep.refl h []).ext E) (fun x hx => nomatch hx)
theorem StrK.wrn (F : StrK Z h a ks) (W : Wr h h' b sl v) (E : Exa Z h b C) (h1 : "java/lang/String" ≠ C) (h2 : "[B" ≠ C) : StrK Z h' a ks := F.keep (Keep.of_wr W) (allS ⟨F.exa.ne E h1, fun y hy => hy.ne E h2⟩ all0)
/-- all strings stand where one of them alone was written -/
theorem StrK.all {κ : Addr → List Value} (K : Keep h h' (b :: ws)) (F : StrK Z h' b (κ b)) (q : ∀ x ∈ ws, ∃ C, Exa Z h x C ∧ "java/lang/String" ≠ C ∧ "[B" ≠ C) (Eb : Exa Z h b "java/lang/String") (c : Addr) (Fc : StrK Z h c (κ c)) : StrK Z h' c (κ c) := by
  by_cases e : c = b
  · rw [e]; exact F
  · refine Fc.keep K (fun x hx => ?_)
    rcases List.mem_cons.mp hx with rfl | hx
    · exact ⟨e, fun y hy => hy.ne Eb (by decide)⟩
    · obtain ⟨C, E, h1, h2⟩ := q x hx
      exact ⟨Fc.exa.ne E h1, fun y hy => hy.ne E h2⟩
end
def Perm (Z : State) (cs_v : Int32) : Prop := Sta Z Z.heap "java/lang/String" "COMPACT_STRINGS" "Z" (.int cs_v) ∧ ¬ (cs_v = (0 : Int32))
theorem d1_0 : decode method_2_code 0 = .ok (.iload_n 0, 1) := by decide +kernel
theorem d1_1 : decode method_2_code 1 = .ok (.sipush 255, 3) := by decide +kernel
theorem d1_4 : decode method_2_code 4 = .ok (.iand, 1) := by decide +kernel
theorem d1_5 : decode method_2_code 5 = .ok (.i2c, 1) := by decide +kernel
theorem d1_6 : decode method_2_code 6 = .ok (.istore_n 1, 1) := by decide +kernel
abbrev fx0 (x0 : Int32) : Int32 := ((x0 &&& (255 : Int32)).toUInt32.toUInt16.toUInt32.toInt32)
theorem d1_7 : decode method_2_code 7 = .ok (.iload_n 0, 1) := by decide +kernel
theorem d1_8 : decode method_2_code 8 = .ok (.bipush 8, 2) := by decide +kernel
theorem d1_10 : decode method_2_code 10 = .ok (.iushr, 1) := by decide +kernel
theorem d1_11 : decode method_2_code 11 = .ok (.sipush 255, 3) := by decide +kernel
theorem d1_14 : decode method_2_code 14 = .ok (.iand, 1) := by decide +kernel
theorem d1_15 : decode method_2_code 15 = .ok (.i2c, 1) := by decide +kernel
theorem d1_16 : decode method_2_code 16 = .ok (.istore_n 2, 1) := by decide +kernel
abbrev fx1 (x0 : Int32) : Int32 := ((((x0.toUInt32 >>> ((8 : Int32) &&& 31).toUInt32).toInt32) &&& (255 : Int32)).toUInt32.toUInt16.toUInt32.toInt32)
theorem d1_17 : decode method_2_code 17 = .ok (.iload_n 0, 1) := by decide +kernel
theorem d1_18 : decode method_2_code 18 = .ok (.bipush 16, 2) := by decide +kernel
theorem d1_20 : decode method_2_code 20 = .ok (.iushr, 1) := by decide +kernel
theorem d1_21 : decode method_2_code 21 = .ok (.iconst 1, 1) := by decide +kernel
theorem d1_22 : decode method_2_code 22 = .ok (.iand, 1) := by decide +kernel
theorem d1_23 : decode method_2_code 23 = .ok (.ifCond .ne 8, 3) := by decide +kernel
theorem d1_26 : decode method_2_code 26 = .ok (.iload_n 1, 1) := by decide +kernel
theorem d1_27 : decode method_2_code 27 = .ok (.invokestatic 7, 3) := by decide +kernel
theorem d2_0 : decode jdk_42_method_139_code 0 = .ok (.getstatic 38, 3) := by decide +kernel
theorem d2_3 : decode jdk_42_method_139_code 3 = .ok (.ifCond .eq 23, 3) := by decide +kernel
theorem d2_6 : decode jdk_42_method_139_code 6 = .ok (.iload_n 0, 1) := by decide +kernel
theorem d2_7 : decode jdk_42_method_139_code 7 = .ok (.invokestatic 1015, 3) := by decide +kernel
theorem d3_0 : decode jdk_43_method_3_code 0 = .ok (.iload_n 0, 1) := by decide +kernel
theorem d3_1 : decode jdk_43_method_3_code 1 = .ok (.sipush 255, 3) := by decide +kernel
theorem d3_4 : decode jdk_43_method_3_code 4 = .ok (.if_icmp .gt 7, 3) := by decide +kernel
theorem d3_7 : decode jdk_43_method_3_code 7 = .ok (.iconst 1, 1) := by decide +kernel
theorem d3_8 : decode jdk_43_method_3_code 8 = .ok (.goto 4, 3) := by decide +kernel
theorem d3_12 : decode jdk_43_method_3_code 12 = .ok (.ireturn, 1) := by decide +kernel
abbrev y0 : MethodName := (⟨"java/lang/StringLatin1", "canEncode", "(C)Z"⟩ : MethodName)
theorem ef_3_0 (m : MethodId) (x0 : Int32) : entryFrame m #[(.int x0)] 1 = mkF m 0 #[.val (.int x0)] [] := by first | (simp [entryFrame, mkF, argsToLocals, Value.category]; done) | rfl
theorem pn_3 : plainName "java/lang/StringLatin1" = true := by first | (simp [plainName, overriddenIn]; done) | decide +kernel
def Q1 (Z : State) (cs_v : Int32) (p1 : Int32) (h0 : Heap) (n0 : Nat) (v : Option Value) (h : Heap) (L : List Loc) : Prop := v = some (.int (1 : Int32)) ∧ Fr n0 L ∧ h = h0
theorem rm1 (l : Launch) (Z : State) (a0 : Array Value) (hw : ∀ d ∈ tables_1, d.before a0 Z = true) (ws : List Jvm.Cond) (cs_v : Int32) (hp : Perm Z cs_v) (p1 : Int32) (h0 : Heap) (n0 : Nat) (O0 : Old Z n0 h0) (hc1 : ¬ ((255 : Int32) < p1)) :
    MetFree l y0 (head1 (Jvm.Cond.code y0 jdk_43_method_3_code 1 (some .boolean) :: ws) ({ frames := 0, cells := 0, slots := 0, locals := 0 } : Room)) (fun a U => a = #[(.int p1)] ∧ Z.Warmed39 U.vm ∧ U.heap = h0) (fun _ _ _ _ _ => True) (fun _ U o U' => ∃ v L, o = .returned v ∧ Q1 Z cs_v p1 h0 n0 v U'.heap L ∧ FrameEnd U o U' L ({ frames := 0, cells := 0, slots := 0, locals := 0 } : Room).cells ({ frames := 0, cells := 0, slots := 0, locals := 0 } : Room).slots) := by
  refine MetFree.of_bodySF (plainFor_of_name pn_3) hisR ?_
  intro p e s m args below meth c s₁ Bd hml0 hP hK
  obtain ⟨rfl, hZ, hh⟩ := hP
  have hx := Bd.exec
  have hby := Bd.bytes
  have hml : c.maxLocals = 1 := hml0
  have hown : s.vm.findClass "java/lang/StringLatin1" = some m.cls := findClass_of_methodNamed Bd.named
  have hnm := (name_of_methodNamed Bd.named Bd.method).1
  have X0 : Stand p l e ({ frames := 0, cells := 0, slots := 0, locals := 0 } : Room) s m #[(.int p1)] below meth c s₁ [] 0 0 := Stand.of_body Bd
  have e0 : s₁.heap = h0 := by rw [← hh, Bd.state]; rfl
  have N0 := Fr.nil n0
  obtain ⟨fs, hr, hrun, hended, hW, hsame⟩ := X0.leave (v := some (.int (1 : Int32))) (fun h => by rw [Bd.returns] at h; cases h)
  refine ⟨_, _, castTop (ef_3_0 m p1) ?_, hrun, hended, _, _, rfl, ?_, ⟨_, rfl⟩, hW, hsame.mono (by decide) (by decide)⟩
  · show Sp p e below s₁ (mkF m 0 #[.val (.int p1)] []) _
    refine XS.iloadN X0.here hx rfl (hb hby d3_0) rfl ?_
    refine XS.sipush X0.here hx rfl (hb hby d3_1) ?_
    refine XS.icmpNo X0.here hx rfl (hb hby d3_4) rfl (flt hc1).2.2.1 ?_
    refine XS.iconst X0.here hx rfl (hb hby d3_7) ?_
    refine XS.goto X0.here hx rfl (pc0 := 8) (pc' := 12) rfl (hb hby d3_8) (by decide) (by decide) ?_
    show Sp p e below s₁ (mkF m 12 #[.val (.int p1)] [(.int (1 : Int32))]) _
    exact retN X0 hx (t := .boolean) Bd.returns (by simp) (hb hby d3_12) hr
  · show Q1 Z cs_v p1 h0 n0 _ s₁.heap _
    rw [e0]
    exact ⟨rfl, N0, rfl⟩
theorem pd_0 : parseMethodDescriptor "(C)Z" = some ⟨[.char], some .boolean⟩ := by decide +kernel
theorem d2_10 : decode jdk_42_method_139_code 10 = .ok (.ifCond .eq 16, 3) := by decide +kernel
theorem d2_13 : decode jdk_42_method_139_code 13 = .ok (.new 10, 3) := by decide +kernel
theorem d2_16 : decode jdk_42_method_139_code 16 = .ok (.dup, 1) := by decide +kernel
theorem d2_17 : decode jdk_42_method_139_code 17 = .ok (.iload_n 0, 1) := by decide +kernel
theorem d2_18 : decode jdk_42_method_139_code 18 = .ok (.invokestatic 1018, 3) := by decide +kernel
theorem d4_0 : decode jdk_43_method_46_code 0 = .ok (.iconst 1, 1) := by decide +kernel
theorem d4_1 : decode jdk_43_method_46_code 1 = .ok (.newarray .byte, 2) := by decide +kernel
theorem d4_3 : decode jdk_43_method_46_code 3 = .ok (.dup, 1) := by decide +kernel
theorem d4_4 : decode jdk_43_method_46_code 4 = .ok (.iconst 0, 1) := by decide +kernel
theorem d4_5 : decode jdk_43_method_46_code 5 = .ok (.iload_n 0, 1) := by decide +kernel
theorem d4_6 : decode jdk_43_method_46_code 6 = .ok (.i2b, 1) := by decide +kernel
theorem d4_7 : decode jdk_43_method_46_code 7 = .ok (.bastore, 1) := by decide +kernel
theorem d4_8 : decode jdk_43_method_46_code 8 = .ok (.areturn, 1) := by decide +kernel
abbrev y1 : MethodName := (⟨"java/lang/StringLatin1", "toBytes", "(C)[B"⟩ : MethodName)
theorem ef_4_0 (m : MethodId) (x0 : Int32) : entryFrame m #[(.int x0)] 1 = mkF m 0 #[.val (.int x0)] [] := by first | (simp [entryFrame, mkF, argsToLocals, Value.category]; done) | rfl
def Q2 (Z : State) (cs_v : Int32) (p1 : Int32) (h0 : Heap) (n0 : Nat) (v : Option Value) (h : Heap) (L : List Loc) : Prop := ∃ (b1 : Addr), ∃ (k1 : ClassId), v = some (.ref b1) ∧ Fr n0 L ∧ Keep h0 h [] ∧ h0.size ≤ b1 ∧ Exa Z h b1 "[B" ∧ Arv Z h b1 k1 .byte (1 : Int32) [(.int (nar .byte (p1.toInt8.toInt32)))] (.int (0 : Int32))
theorem rm2 (l : Launch) (Z : State) (a0 : Array Value) (hw : ∀ d ∈ tables_1, d.before a0 Z = true) (ws : List Jvm.Cond) (cs_v : Int32) (hp : Perm Z cs_v) (p1 : Int32) (h0 : Heap) (n0 : Nat) (O0 : Old Z n0 h0) :
    MetFree l y1 (head1 (Jvm.Cond.code y1 jdk_43_method_46_code 1 (some (.array .byte)) :: ws) ({ frames := 0, cells := 1, slots := 1, locals := 0 } : Room)) (fun a U => a = #[(.int p1)] ∧ Z.Warmed39 U.vm ∧ U.heap = h0) (fun _ _ _ _ _ => True) (fun _ U o U' => ∃ v L, o = .returned v ∧ Q2 Z cs_v p1 h0 n0 v U'.heap L ∧ FrameEnd U o U' L ({ frames := 0, cells := 1, slots := 1, locals := 0 } : Room).cells ({ frames := 0, cells := 1, slots := 1, locals := 0 } : Room).slots) := by
  refine MetFree.of_bodySF (plainFor_of_name pn_3) hisR ?_
  intro p e s m args below meth c s₁ Bd hml0 hP hK
  obtain ⟨rfl, hZ, hh⟩ := hP
  have hx := Bd.exec
  have hby := Bd.bytes
  have hml : c.maxLocals = 1 := hml0
  have hown : s.vm.findClass "java/lang/StringLatin1" = some m.cls := findClass_of_methodNamed Bd.named
  have hnm := (name_of_methodNamed Bd.named Bd.method).1
  have X0 : Stand p l e ({ frames := 0, cells := 1, slots := 1, locals := 0 } : Room) s m #[(.int p1)] below meth c s₁ [] 0 0 := Stand.of_body Bd
  have e0 : s₁.heap = h0 := by rw [← hh, Bd.state]; rfl
  have N0 := Fr.nil n0
  obtain ⟨T1, h1, k1, X1, e1, E1, A1, EA1, st1⟩ := newPE X0 hx hZ (wq hw 18 rfl) e0 (g := (mkF m 1 #[.val (.int p1)] [(.int (1 : Int32))])) rfl (hb hby d4_1) rfl (by decide) (cap := 1) (by decide) (by decide) (by decide) (by decide) (ad := "[B") (by decide)
  obtain ⟨b1, g1⟩ : ∃ z, z = h0.size := ⟨_, rfl⟩
  rw [← g1] at A1 EA1 st1
  have g_b1 : n0 ≤ b1 := Nat.le_trans (own_sz O0) (Nat.le_of_eq g1.symm)
  have sz_b1 : h0.size ≤ b1 := Nat.le_trans (Keep.refl h0 []).1 (Nat.le_of_eq g1.symm)
  have K1 : Keep h0 h1 [] := (Keep.refl h0 []).ext E1
  have V_b1 : Arv Z h1 b1 k1 .byte (1 : Int32) [(.int (0 : Int32))] (.int (0 : Int32)) := (Arv.new A1 (by decide)).pad (pad_rep [] (.int (0 : Int32)) 1)
  obtain ⟨cl2, Ar2, q2, S2, Nn2, H2, G2⟩ := id V_b1
  have hin2 : ¬ ((0 : Int32) < 0 ∨ cl2.slots.size ≤ ((0 : Int32)).toNatClampNeg) := inb_of S2 ⟨by decide, by decide⟩
  obtain ⟨T3, h3, X3, e3, W3, st3⟩ := stB X1 hx hZ e1 Ar2 (j := (0 : Int32)) hin2 (g := (mkF m 7 #[.val (.int p1)] [(.int (p1.toInt8.toInt32)), (.int (0 : Int32)), (.ref b1), (.ref b1)])) rfl rfl (hb hby d4_7)
  have N3 := Fr.snoc X3 N0 g_b1
  have K3 : Keep h0 h3 [] := K1.wr W3 (Or.inr sz_b1)
  have V_b1_3 : Arv Z h3 b1 k1 .byte (1 : Int32) [(.int (nar .byte (p1.toInt8.toInt32)))] (.int (0 : Int32)) := Arv.set Ar2 q2 S2 Nn2 H2 G2 (fits_nar_byte _) W3 0 rfl (Nat.le_of_ble_eq_true rfl)
  obtain ⟨fs, hr, hrun, hended, hW, hsame⟩ := X3.leave (v := some (.ref b1)) (fun h => by rw [Bd.returns] at h; cases h)
  refine ⟨_, _, castTop (ef_4_0 m p1) ?_, hrun, hended, _, _, rfl, ?_, ⟨_, rfl⟩, hW, hsame.mono (by decide) (by decide)⟩
  · show Sp p e below s₁ (mkF m 0 #[.val (.int p1)] []) _
    refine XS.iconst X0.here hx rfl (hb hby d4_0) ?_
    show Sp p e below s₁ (mkF m 1 #[.val (.int p1)] [(.int (1 : Int32))]) _
    refine st1 _ ?_
    show Sp p e below T1 (mkF m 3 #[.val (.int p1)] [(.ref b1)]) _
    refine XS.dup X1.here hx rfl (hb hby d4_3) rfl rfl ?_
    refine XS.iconst X1.here hx rfl (hb hby d4_4) ?_
    refine XS.iloadN X1.here hx rfl (hb hby d4_5) rfl ?_
    refine XS.i2b X1.here hx rfl (hb hby d4_6) rfl ?_
    show Sp p e below T1 (mkF m 7 #[.val (.int p1)] [(.int (p1.toInt8.toInt32)), (.int (0 : Int32)), (.ref b1), (.ref b1)]) _
    refine st3 _ ?_
    show Sp p e below T3 (mkF m 8 #[.val (.int p1)] [(.ref b1)]) _
    jvm_step X3.here [X3.here.top, hx, (hb hby d4_8), X3.method', Bd.returns, Value.isRef, FieldType.isReference]
    first | (intro acts; rw [hr _ acts rfl rfl rfl]) | rw [hr _ _ rfl rfl rfl]
    exact Steps.refl _
  · show Q2 Z cs_v p1 h0 n0 _ T3.heap _
    rw [e3]
    exact ⟨b1, k1, rfl, N3, K3, sz_b1, (EA1.wr W3), V_b1_3⟩
theorem pd_1 : parseMethodDescriptor "(C)[B" = some ⟨[.char], some (.array .byte)⟩ := by decide +kernel
theorem d2_21 : decode jdk_42_method_139_code 21 = .ok (.iconst 0, 1) := by decide +kernel
theorem d2_22 : decode jdk_42_method_139_code 22 = .ok (.invokespecial 209, 3) := by decide +kernel
theorem d5_0 : decode jdk_42_method_151_code 0 = .ok (.aload_n 0, 1) := by decide +kernel
theorem d5_1 : decode jdk_42_method_151_code 1 = .ok (.invokespecial 1, 3) := by decide +kernel
theorem d5_4 : decode jdk_42_method_151_code 4 = .ok (.aload_n 0, 1) := by decide +kernel
theorem d5_5 : decode jdk_42_method_151_code 5 = .ok (.aload_n 1, 1) := by decide +kernel
theorem d5_6 : decode jdk_42_method_151_code 6 = .ok (.putfield 9, 3) := by decide +kernel
theorem d5_9 : decode jdk_42_method_151_code 9 = .ok (.aload_n 0, 1) := by decide +kernel
theorem d5_10 : decode jdk_42_method_151_code 10 = .ok (.iload_n 2, 1) := by decide +kernel
theorem d5_11 : decode jdk_42_method_151_code 11 = .ok (.putfield 15, 3) := by decide +kernel
theorem sn0 {Z : State} {a0 : Array Value} (hw : ∀ d ∈ tables_1, d.before a0 Z = true) : Jvm.RoadKit.slotOf Z "java/lang/String" "coder" "B" ≠ Jvm.RoadKit.slotOf Z "java/lang/String" "value" "[B" := slot_ne (Or.inr (wq hw 29 rfl)) (Or.inr (wq hw 27 rfl)) (by decide) (t := .byte) (t' := (.array .byte)) (by decide) (by decide)
theorem d5_14 : decode jdk_42_method_151_code 14 = .ok (.return_, 1) := by decide +kernel
theorem sn1 {Z : State} {a0 : Array Value} (hw : ∀ d ∈ tables_1, d.before a0 Z = true) : Jvm.RoadKit.slotOf Z "java/lang/String" "hash" "I" ≠ Jvm.RoadKit.slotOf Z "java/lang/String" "value" "[B" := slot_ne (Or.inl (wq hw 59 rfl)) (Or.inr (wq hw 27 rfl)) (by decide) (t := .int) (t' := (.array .byte)) (by decide) (by decide)
theorem sn2 {Z : State} {a0 : Array Value} (hw : ∀ d ∈ tables_1, d.before a0 Z = true) : Jvm.RoadKit.slotOf Z "java/lang/String" "hash" "I" ≠ Jvm.RoadKit.slotOf Z "java/lang/String" "coder" "B" := slot_ne (Or.inl (wq hw 59 rfl)) (Or.inr (wq hw 29 rfl)) (by decide) (t := .int) (t' := .byte) (by decide) (by decide)
theorem sn3 {Z : State} {a0 : Array Value} (hw : ∀ d ∈ tables_1, d.before a0 Z = true) : Jvm.RoadKit.slotOf Z "java/lang/String" "hashIsZero" "Z" ≠ Jvm.RoadKit.slotOf Z "java/lang/String" "value" "[B" := slot_ne (Or.inl (wq hw 61 rfl)) (Or.inr (wq hw 27 rfl)) (by decide) (t := .boolean) (t' := (.array .byte)) (by decide) (by decide)
theorem sn4 {Z : State} {a0 : Array Value} (hw : ∀ d ∈ tables_1, d.before a0 Z = true) : Jvm.RoadKit.slotOf Z "java/lang/String" "hashIsZero" "Z" ≠ Jvm.RoadKit.slotOf Z "java/lang/String" "coder" "B" := slot_ne (Or.inl (wq hw 61 rfl)) (Or.inr (wq hw 29 rfl)) (by decide) (t := .boolean) (t' := .byte) (by decide) (by decide)
theorem sn5 {Z : State} {a0 : Array Value} (hw : ∀ d ∈ tables_1, d.before a0 Z = true) : Jvm.RoadKit.slotOf Z "java/lang/String" "value" "[B" ≠ Jvm.RoadKit.slotOf Z "java/lang/String" "coder" "B" := slot_ne (Or.inr (wq hw 27 rfl)) (Or.inr (wq hw 29 rfl)) (by decide) (t := (.array .byte)) (t' := .byte) (by decide) (by decide)
abbrev y2 : MethodName := (⟨"java/lang/String", "<init>", "([BB)V"⟩ : MethodName)
theorem ef_5_0 (m : MethodId) (x0 : Addr) (x1 : Addr) (x2 : Int32) : entryFrame m #[(.ref x0), (.ref x1), (.int x2)] 3 = mkF m 0 #[.val (.ref x0), .val (.ref x1), .val (.int x2)] [] := by first | (simp [entryFrame, mkF, argsToLocals, Value.category]; done) | rfl
theorem pn_5 : plainName "java/lang/String" = true := by first | (simp [plainName, overriddenIn]; done) | decide +kernel
def Q3 (Z : State) (cs_v : Int32) (a1 : Addr) (a2 : Addr) (h0 : Heap) (n0 : Nat) (v : Option Value) (h : Heap) (L : List Loc) : Prop := v = none ∧ Fr n0 L ∧ Keep h0 h [a1] ∧ Exa Z h a1 "java/lang/String" ∧ Fld Z h a1 "java/lang/String" "coder" "B" (.int (0 : Int32)) ∧ Fld Z h a1 "java/lang/String" "hash" "I" (.int (0 : Int32)) ∧ Fld Z h a1 "java/lang/String" "hashIsZero" "Z" (.int (0 : Int32)) ∧ Fld Z h a1 "java/lang/String" "value" "[B" (.ref a2)
theorem rm3 (l : Launch) (Z : State) (a0 : Array Value) (hw : ∀ d ∈ tables_1, d.before a0 Z = true) (ws : List Jvm.Cond) (cs_v : Int32) (hp : Perm Z cs_v) (a1 : Addr) (a2 : Addr) (h0 : Heap) (n0 : Nat) (O0 : Old Z n0 h0) (E_a1 : Exa Z h0 a1 "java/lang/String") (F_value_a1 : Fld Z h0 a1 "java/lang/String" "value" "[B" .null) (F_coder_a1 : Fld Z h0 a1 "java/lang/String" "coder" "B" (.int (0 : Int32))) (F_hash_a1 : Fld Z h0 a1 "java/lang/String" "hash" "I" (.int (0 : Int32))) (F_hashIsZero_a1 : Fld Z h0 a1 "java/lang/String" "hashIsZero" "Z" (.int (0 : Int32))) (g_a1 : n0 ≤ a1) :
    MetFree l y2 (head1 (Jvm.Cond.code y2 jdk_42_method_151_code 3 none :: ws) ({ frames := 1, cells := 0, slots := 0, locals := 12 } : Room)) (fun a U => a = #[(.ref a1), (.ref a2), (.int (0 : Int32))] ∧ Z.Warmed39 U.vm ∧ U.heap = h0) (fun _ _ _ _ _ => True) (fun _ U o U' => ∃ v L, o = .returned v ∧ Q3 Z cs_v a1 a2 h0 n0 v U'.heap L ∧ FrameEnd U o U' L ({ frames := 1, cells := 0, slots := 0, locals := 12 } : Room).cells ({ frames := 1, cells := 0, slots := 0, locals := 12 } : Room).slots) := by
  refine MetFree.of_bodySF (plainFor_of_name pn_5) hisR ?_
  intro p e s m args below meth c s₁ Bd hml0 hP hK
  obtain ⟨rfl, hZ, hh⟩ := hP
  have hx := Bd.exec
  have hby := Bd.bytes
  have hml : c.maxLocals = 3 := hml0
  have hown : s.vm.findClass "java/lang/String" = some m.cls := findClass_of_methodNamed Bd.named
  have hnm := (name_of_methodNamed Bd.named Bd.method).1
  have X0 : Stand p l e ({ frames := 1, cells := 0, slots := 0, locals := 12 } : Room) s m #[(.ref a1), (.ref a2), (.int (0 : Int32))] below meth c s₁ [] 0 0 := Stand.of_body Bd
  have e0 : s₁.heap = h0 := by rw [← hh, Bd.state]; rfl
  have N0 := Fr.nil n0
  obtain ⟨T1, X1, e1, st1⟩ := initO X0 hx hZ hown (wq hw 23 rfl) (wq hw 24 rfl) (wq hw 25 rfl) e0 (g := (mkF m 1 #[.val (.ref a1), .val (.ref a2), .val (.int (0 : Int32))] [(.ref a1)])) rfl (by rw [hml]; rfl) rfl (hb hby d5_1) (by decide) (W := 0) (by show 2 * 0 + _ ≤ _; exact Nat.le_of_eq rfl) (by decide)
  obtain ⟨T2, h2, X2, e2, W2, st2⟩ := putF X1 hx hZ hown (host := "") (Or.inl (wq hw 26 rfl)) Via.refl e1 F_value_a1 E_a1 (Or.inr ⟨(wq hw 27 rfl), rfl, hnm⟩) (wq hw 14 rfl) (ty := (.array .byte)) (by decide) rfl rfl (g := (mkF m 6 #[.val (.ref a1), .val (.ref a2), .val (.int (0 : Int32))] [(.ref a2), (.ref a1)])) rfl rfl (hb hby d5_6)
  have N2 := Fr.snoc X2 N0 g_a1
  have K2 : Keep h0 h2 [a1] := (Keep.refl h0 [a1]).wr W2 (Or.inl (ma 0 rfl))
  have Fw2 := F_value_a1.same W2
  obtain ⟨T3, h3, X3, e3, W3, st3⟩ := putFN X2 hx hZ hown (wq hw 28 rfl) Via.refl e2 (F_coder_a1.other W2 (Or.inr (sn0 hw))) (E_a1.wr W2) (Or.inr ⟨(wq hw 29 rfl), rfl, hnm⟩) (wq hw 14 rfl) (ty := .byte) (v' := (.int (0 : Int32))) (by decide) rfl rfl (g := (mkF m 11 #[.val (.ref a1), .val (.ref a2), .val (.int (0 : Int32))] [(.int (0 : Int32)), (.ref a1)])) rfl rfl (hb hby d5_11)
  have N3 := Fr.snoc X3 N2 g_a1
  have K3 : Keep h0 h3 [a1] := K2.wr W3 (Or.inl (ma 0 rfl))
  have Fw3 := (F_coder_a1.other W2 (Or.inr (sn0 hw))).same W3
  have f_4 := ((F_hash_a1.other W2 (Or.inr (sn1 hw))).other W3 (Or.inr (sn2 hw)))
  have f_5 := ((F_hashIsZero_a1.other W2 (Or.inr (sn3 hw))).other W3 (Or.inr (sn4 hw)))
  obtain ⟨fs, hr, hrun, hended, hW, hsame⟩ := X3.leave (v := none) (fun _ => rfl)
  refine ⟨_, _, castTop (ef_5_0 m a1 a2 (0 : Int32)) ?_, hrun, hended, _, _, rfl, ?_, ⟨_, rfl⟩, hW, hsame.mono (by decide) (by decide)⟩
  · show Sp p e below s₁ (mkF m 0 #[.val (.ref a1), .val (.ref a2), .val (.int (0 : Int32))] []) _
    refine XS.aloadN X0.here hx rfl (hb hby d5_0) rfl rfl ?_
    show Sp p e below s₁ (mkF m 1 #[.val (.ref a1), .val (.ref a2), .val (.int (0 : Int32))] [(.ref a1)]) _
    refine st1 _ ?_
    show Sp p e below T1 (mkF m 4 #[.val (.ref a1), .val (.ref a2), .val (.int (0 : Int32))] []) _
    refine XS.aloadN X1.here hx rfl (hb hby d5_4) rfl rfl ?_
    refine XS.aloadN X1.here hx rfl (hb hby d5_5) rfl rfl ?_
    show Sp p e below T1 (mkF m 6 #[.val (.ref a1), .val (.ref a2), .val (.int (0 : Int32))] [(.ref a2), (.ref a1)]) _
    refine st2 _ ?_
    show Sp p e below T2 (mkF m 9 #[.val (.ref a1), .val (.ref a2), .val (.int (0 : Int32))] []) _
    refine XS.aloadN X2.here hx rfl (hb hby d5_9) rfl rfl ?_
    refine XS.iloadN X2.here hx rfl (hb hby d5_10) rfl ?_
    show Sp p e below T2 (mkF m 11 #[.val (.ref a1), .val (.ref a2), .val (.int (0 : Int32))] [(.int (0 : Int32)), (.ref a1)]) _
    refine st3 _ ?_
    show Sp p e below T3 (mkF m 14 #[.val (.ref a1), .val (.ref a2), .val (.int (0 : Int32))] []) _
    exact X3.returnOut hx Bd.returns (hb hby d5_14) hr
  · show Q3 Z cs_v a1 a2 h0 n0 _ T3.heap _
    rw [e3]
    exact ⟨rfl, N3, K3, ((E_a1.wr W2).wr W3), Fw3, f_4, f_5, (Fw2.other W3 (Or.inr (sn5 hw)))⟩
theorem pd_2 : parseMethodDescriptor "([BB)V" = some ⟨[(.array .byte), .byte], none⟩ := by decide +kernel
theorem d2_25 : decode jdk_42_method_139_code 25 = .ok (.areturn, 1) := by decide +kernel
abbrev y3 : MethodName := (⟨"java/lang/String", "valueOf", "(C)Ljava/lang/String;"⟩ : MethodName)
theorem ef_2_0 (m : MethodId) (x0 : Int32) : entryFrame m #[(.int x0)] 1 = mkF m 0 #[.val (.int x0)] [] := by first | (simp [entryFrame, mkF, argsToLocals, Value.category]; done) | rfl
def Q4 (Z : State) (cs_v : Int32) (p1 : Int32) (h0 : Heap) (n0 : Nat) (v : Option Value) (h : Heap) (L : List Loc) : Prop := ∃ (b3 b4_0 : Addr), ∃ (kc4_0 : ClassId), v = some (.ref b3) ∧ Fr n0 L ∧ Keep h0 h [] ∧ h0.size ≤ b3 ∧ h0.size ≤ b4_0 ∧ b3 ≠ b4_0 ∧ Exa Z h b3 "java/lang/String" ∧ Fld Z h b3 "java/lang/String" "coder" "B" (.int (0 : Int32)) ∧ Fld Z h b3 "java/lang/String" "hash" "I" (.int (0 : Int32)) ∧ Fld Z h b3 "java/lang/String" "hashIsZero" "Z" (.int (0 : Int32)) ∧ Fld Z h b3 "java/lang/String" "value" "[B" (.ref b4_0) ∧ Exa Z h b4_0 "[B" ∧ Arv Z h b4_0 kc4_0 .byte (1 : Int32) [(.int (nar .byte (p1.toInt8.toInt32)))] (.int (0 : Int32))
theorem rm4 (l : Launch) (Z : State) (a0 : Array Value) (hw : ∀ d ∈ tables_1, d.before a0 Z = true) (ws : List Jvm.Cond) (cs_v : Int32) (hp : Perm Z cs_v) (p1 : Int32) (h0 : Heap) (n0 : Nat) (O0 : Old Z n0 h0) (hc1 : ¬ ((255 : Int32) < p1)) :
    MetFree l y3 (head1 (Jvm.Cond.code y3 jdk_42_method_139_code 1 (some (.object "java/lang/String")) :: ws) ({ frames := 2, cells := 2, slots := 5, locals := 27 } : Room)) (fun a U => a = #[(.int p1)] ∧ Z.Warmed39 U.vm ∧ U.heap = h0) (fun _ _ _ _ _ => True) (fun _ U o U' => ∃ v L, o = .returned v ∧ Q4 Z cs_v p1 h0 n0 v U'.heap L ∧ FrameEnd U o U' L ({ frames := 2, cells := 2, slots := 5, locals := 27 } : Room).cells ({ frames := 2, cells := 2, slots := 5, locals := 27 } : Room).slots) := by
  refine MetFree.of_bodySF (plainFor_of_name pn_5) hisR ?_
  intro p e s m args below meth c s₁ Bd hml0 hP hK
  obtain ⟨rfl, hZ, hh⟩ := hP
  have hx := Bd.exec
  have hby := Bd.bytes
  have hml : c.maxLocals = 1 := hml0
  have hown : s.vm.findClass "java/lang/String" = some m.cls := findClass_of_methodNamed Bd.named
  have hnm := (name_of_methodNamed Bd.named Bd.method).1
  have X0 : Stand p l e ({ frames := 2, cells := 2, slots := 5, locals := 27 } : Room) s m #[(.int p1)] below meth c s₁ [] 0 0 := Stand.of_body Bd
  have e0 : s₁.heap = h0 := by rw [← hh, Bd.state]; rfl
  have N0 := Fr.nil n0
  have hp' := hp
  obtain ⟨S_COMPACT_STRINGS, h_cs⟩ := hp'
  obtain ⟨T1, X1, e1, st1⟩ := getS2 X0 hx hZ hown (host := "") (Or.inl (wq hw 8 rfl)) Via.refl e0 (S_COMPACT_STRINGS.ext O0.2) (g := (mkF m 0 #[.val (.int p1)] [])) rfl (hb hby d2_0)
  obtain ⟨_, _, ⟨T2, L2, k2, n2⟩, -, X2, ⟨Lc2, hQ2, l2, y2, z2⟩, st2⟩ := Jvm.LawKit.callS X1 hx (y := y0) hown (mvT hZ (wq hw 9 rfl)) (mvT hZ (wq hw 10 rfl)) (mvT hZ (wq hw 11 rfl)) (mvT hZ (wq hw 12 rfl)) (by decide) (backOf (W := 0) (rm1 l Z a0 hw [] cs_v hp p1 h0 n0 O0 hc1) hZ (wq hw 12 rfl) (wq hw 11 rfl) (by decide) (by decide)) (g := (mkF m 7 #[.val (.int p1)] [(.int p1)])) rfl (by rw [hml]; rfl) (argsL := [(.int p1)]) (rest := []) (lenOf pd_0 rfl) rfl (by show 2 * 0 + _ ≤ _; exact Nat.le_of_eq rfl) (hb hby d2_7) (fun _ _ => ⟨rfl, e1, (by decide : 0 + 0 ≤ _), (by decide : 0 + 0 ≤ _)⟩)
  dsimp only [Pt.U, Pt.locs, Pt.cells, Pt.slots] at X2 l2 y2 z2 st2 hQ2
  subst l2 y2 z2
  obtain ⟨rfl, Nq2, eq2⟩ := hQ2
  have N2 := Fr.app N0 Nq2
  obtain ⟨T3, h3, X3, e3, E3, A3, D3, -, st3⟩ := newO X2 hx hZ hown (wq hw 13 rfl) (wq hw 14 rfl) (wq hw 6 rfl) eq2 (g := (mkF m 13 #[.val (.int p1)] [])) rfl (hb hby d2_13) (by decide) (by decide)
  obtain ⟨b3, g3⟩ : ∃ z, z = h0.size := ⟨_, rfl⟩
  rw [← g3] at A3 D3 st3
  have g_b3 : n0 ≤ b3 := Nat.le_trans (own_sz O0) (Nat.le_of_eq g3.symm)
  have sz_b3 : h0.size ≤ b3 := Nat.le_trans (Keep.refl h0 []).1 (Nat.le_of_eq g3.symm)
  have O3 := O0.ext E3
  have K3 : Keep h0 h3 [] := (Keep.refl h0 []).ext E3
  have F_value_b3 : Fld Z h3 b3 "java/lang/String" "value" "[B" .null := D3 (Or.inr (wq hw 27 rfl)) (ty := (.array .byte)) (by decide)
  have F_coder_b3 : Fld Z h3 b3 "java/lang/String" "coder" "B" (.int (0 : Int32)) := D3 (Or.inr (wq hw 29 rfl)) (ty := .byte) (by decide)
  have F_hash_b3 : Fld Z h3 b3 "java/lang/String" "hash" "I" (.int (0 : Int32)) := D3 (Or.inl (wq hw 59 rfl)) (ty := .int) (by decide)
  have F_hashIsZero_b3 : Fld Z h3 b3 "java/lang/String" "hashIsZero" "Z" (.int (0 : Int32)) := D3 (Or.inl (wq hw 61 rfl)) (ty := .boolean) (by decide)
  obtain ⟨_, _, ⟨T4, L4, k4, n4⟩, -, X4, ⟨Lc4, hQ4, l4, y4, z4⟩, st4⟩ := Jvm.LawKit.callS X3 hx (y := y1) hown (mvT hZ (wq hw 15 rfl)) (mvT hZ (wq hw 16 rfl)) (mvT hZ (wq hw 11 rfl)) (mvT hZ (wq hw 17 rfl)) (by decide) (backOf (W := 2) (rm2 l Z a0 hw [] cs_v hp p1 h3 n0 O3) hZ (wq hw 17 rfl) (wq hw 11 rfl) (by decide) (by decide)) (g := (mkF m 18 #[.val (.int p1)] [(.int p1), (.ref b3), (.ref b3)])) rfl (by rw [hml]; rfl) (argsL := [(.int p1)]) (rest := [(.ref b3), (.ref b3)]) (lenOf pd_1 rfl) rfl (by show 2 * 0 + _ ≤ _; exact Nat.le_of_eq rfl) (hb hby d2_18) (fun _ _ => ⟨rfl, e3, (by decide : 1 + 1 ≤ _), (by decide : 4 + 1 ≤ _)⟩)
  dsimp only [Pt.U, Pt.locs, Pt.cells, Pt.slots] at X4 l4 y4 z4 st4 hQ4
  subst l4 y4 z4
  obtain ⟨b4_0, kc4_0, rfl, Nq4, Kq4, sq_b4_0, fq4_0, fq4_1⟩ := hQ4
  have N4 := Fr.app N2 Nq4
  have sz_b4_0 : h0.size ≤ b4_0 := Nat.le_trans K3.1 sq_b4_0
  have O4 := O3.keep Kq4 all0
  have K4 : Keep h0 T4.heap [] := K3.trans Kq4 all0
  obtain ⟨_, _, ⟨T5, L5, k5, n5⟩, -, X5, ⟨Lc5, hQ5, l5, y5, z5⟩, st5⟩ := X4.specialBack hx (y := y2) rfl hown (mvT hZ (wq hw 19 rfl)) (mvT hZ (wq hw 20 rfl)) (mvT hZ (wq hw 22 rfl)) (by decide) (backOf (W := 1) (rm3 l Z a0 hw [] cs_v hp b3 b4_0 T4.heap n0 O4 (A3.keep Kq4) (F_value_b3.keep Kq4 nin0) (F_coder_b3.keep Kq4 nin0) (F_hash_b3.keep Kq4 nin0) (F_hashIsZero_b3.keep Kq4 nin0) g_b3) hZ (wq hw 22 rfl) (wq hw 6 rfl) (by decide) (by decide)) (g := (mkF m 22 #[.val (.int p1)] [(.int (0 : Int32)), (.ref b4_0), (.ref b3), (.ref b3)])) rfl (by rw [hml]; rfl) (Steps.refl _) (a := b3) (argsL := [(.ref b4_0), (.int (0 : Int32))]) (rest := [(.ref b3)]) (lenOf pd_2 rfl) rfl (by show 2 * 0 + _ ≤ _; exact Nat.le_of_eq rfl) (hb hby d2_22) (fun _ _ => ⟨rfl, rfl, (by decide : 2 + 0 ≤ _), (by decide : 5 + 0 ≤ _)⟩)
  dsimp only [Pt.U, Pt.locs, Pt.cells, Pt.slots] at X5 l5 y5 z5 st5 hQ5
  subst l5 y5 z5
  obtain ⟨rfl, Nq5, Kq5, fq5_0, fq5_1, fq5_2, fq5_3, fq5_4⟩ := hQ5
  have N5 := Fr.app N4 Nq5
  have K5 : Keep h0 T5.heap [] := K4.trans Kq5 (allS (Or.inr sz_b3) all0)
  have f_6 := (fq4_1.keep Kq5 (ninS (Ne.symm (Nat.ne_of_lt (Nat.lt_of_lt_of_le A3.lt sq_b4_0))) nin0))
  obtain ⟨fs, hr, hrun, hended, hW, hsame⟩ := X5.leave (v := some (.ref b3)) (fun h => by rw [Bd.returns] at h; cases h)
  refine ⟨_, _, castTop (ef_2_0 m p1) ?_, hrun, hended, _, _, rfl, ?_, ⟨_, rfl⟩, hW, hsame.mono (by decide) (by decide)⟩
  · show Sp p e below s₁ (mkF m 0 #[.val (.int p1)] []) _
    refine st1 _ ?_
    show Sp p e below T1 (mkF m 3 #[.val (.int p1)] [(.int cs_v)]) _
    refine XS.ifNo X1.here hx rfl (hb hby d2_3) rfl ((if0 _ _).trans (feq h_cs).1) ?_
    refine XS.iloadN X1.here hx rfl (hb hby d2_6) rfl ?_
    show Sp p e below T1 (mkF m 7 #[.val (.int p1)] [(.int p1)]) _
    refine st2 _ ?_
    show Sp p e below T2 (mkF m 10 #[.val (.int p1)] [(.int (1 : Int32))]) _
    refine XS.ifNo X2.here hx rfl (hb hby d2_10) rfl ((if0 _ _).trans (feq (by decide : ¬ ((1 : Int32) = (0 : Int32)))).1) ?_
    show Sp p e below T2 (mkF m 13 #[.val (.int p1)] []) _
    refine st3 _ ?_
    show Sp p e below T3 (mkF m 16 #[.val (.int p1)] [(.ref b3)]) _
    refine XS.dup X3.here hx rfl (hb hby d2_16) rfl rfl ?_
    refine XS.iloadN X3.here hx rfl (hb hby d2_17) rfl ?_
    show Sp p e below T3 (mkF m 18 #[.val (.int p1)] [(.int p1), (.ref b3), (.ref b3)]) _
    refine st4 _ ?_
    show Sp p e below T4 (mkF m 21 #[.val (.int p1)] [(.ref b4_0), (.ref b3), (.ref b3)]) _
    refine XS.iconst X4.here hx rfl (hb hby d2_21) ?_
    show Sp p e below T4 (mkF m 22 #[.val (.int p1)] [(.int (0 : Int32)), (.ref b4_0), (.ref b3), (.ref b3)]) _
    refine st5.trans ?_
    show Sp p e below T5 (mkF m 25 #[.val (.int p1)] [(.ref b3)]) _
    jvm_step X5.here [X5.here.top, hx, (hb hby d2_25), X5.method', Bd.returns, Value.isRef, FieldType.isReference]
    first | (intro acts; rw [hr _ acts rfl rfl rfl]) | rw [hr _ _ rfl rfl rfl]
    exact Steps.refl _
  · show Q4 Z cs_v p1 h0 n0 _ T5.heap _
    exact ⟨b3, b4_0, kc4_0, rfl, N5, K5, sz_b3, sz_b4_0, (Nat.ne_of_lt (Nat.lt_of_lt_of_le A3.lt sq_b4_0)), fq5_0, fq5_1, fq5_2, fq5_3, fq5_4, (fq4_0.keep Kq5), f_6⟩
theorem pd_3 : parseMethodDescriptor "(C)Ljava/lang/String;" = some ⟨[.char], some (.object "java/lang/String")⟩ := by decide +kernel
theorem d1_30 : decode method_2_code 30 = .ok (.areturn, 1) := by decide +kernel
abbrev y4 : MethodName := (⟨"com/example/byteloom/byteloom/StringNumbersClearPinLaw", "mk", "(I)Ljava/lang/String;"⟩ : MethodName)
theorem ef_1_0 (m : MethodId) (x0 : Int32) : entryFrame m #[(.int x0)] 3 = mkF m 0 #[.val (.int x0), .unset, .unset] [] := by first | (simp [entryFrame, mkF, argsToLocals, Value.category]; done) | rfl
theorem pn_1 : plainName "com/example/byteloom/byteloom/StringNumbersClearPinLaw" = true := by first | (simp [plainName, overriddenIn]; done) | decide +kernel
def Q5 (Z : State) (cs_v : Int32) (p0 : Int32) (h0 : Heap) (n0 : Nat) (v : Option Value) (h : Heap) (L : List Loc) : Prop := ∃ (b1_0 b1_1 : Addr), ∃ (kc1_0 : ClassId), v = some (.ref b1_0) ∧ Fr n0 L ∧ Keep h0 h [] ∧ h0.size ≤ b1_0 ∧ h0.size ≤ b1_1 ∧ b1_0 ≠ b1_1 ∧ Exa Z h b1_0 "java/lang/String" ∧ Fld Z h b1_0 "java/lang/String" "coder" "B" (.int (0 : Int32)) ∧ Fld Z h b1_0 "java/lang/String" "hash" "I" (.int (0 : Int32)) ∧ Fld Z h b1_0 "java/lang/String" "hashIsZero" "Z" (.int (0 : Int32)) ∧ Fld Z h b1_0 "java/lang/String" "value" "[B" (.ref b1_1) ∧ Exa Z h b1_1 "[B" ∧ Arv Z h b1_1 kc1_0 .byte (1 : Int32) [(.int (nar .byte (((p0 &&& (255 : Int32)).toUInt32.toUInt16.toUInt32.toInt32).toInt8.toInt32)))] (.int (0 : Int32))
theorem rm5 (l : Launch) (Z : State) (a0 : Array Value) (hw : ∀ d ∈ tables_1, d.before a0 Z = true) (ws : List Jvm.Cond) (cs_v : Int32) (hp : Perm Z cs_v) (p0 : Int32) (h0 : Heap) (n0 : Nat) (O0 : Old Z n0 h0) (hc1 : (((p0.toUInt32 >>> ((16 : Int32) &&& 31).toUInt32).toInt32) &&& (1 : Int32)) = (0 : Int32)) :
    MetFree l y4 (head1 (Jvm.Cond.code y4 method_2_code 3 (some (.object "java/lang/String")) :: ws) ({ frames := 4, cells := 3, slots := 8, locals := 66 } : Room)) (fun a U => a = #[(.int p0)] ∧ Z.Warmed39 U.vm ∧ U.heap = h0) (fun _ _ _ _ _ => True) (fun _ U o U' => ∃ v L, o = .returned v ∧ Q5 Z cs_v p0 h0 n0 v U'.heap L ∧ FrameEnd U o U' L ({ frames := 4, cells := 3, slots := 8, locals := 66 } : Room).cells ({ frames := 4, cells := 3, slots := 8, locals := 66 } : Room).slots) := by
  refine MetFree.of_bodySF (plainFor_of_name pn_1) hisR ?_
  intro p e s m args below meth c s₁ Bd hml0 hP hK
  obtain ⟨rfl, hZ, hh⟩ := hP
  have hx := Bd.exec
  have hby := Bd.bytes
  have hml : c.maxLocals = 3 := hml0
  have hown : s.vm.findClass "com/example/byteloom/byteloom/StringNumbersClearPinLaw" = some m.cls := findClass_of_methodNamed Bd.named
  have hnm := (name_of_methodNamed Bd.named Bd.method).1
  have X0 : Stand p l e ({ frames := 4, cells := 3, slots := 8, locals := 66 } : Room) s m #[(.int p0)] below meth c s₁ [] 0 0 := Stand.of_body Bd
  have e0 : s₁.heap = h0 := by rw [← hh, Bd.state]; rfl
  have N0 := Fr.nil n0
  obtain ⟨_, _, ⟨T1, L1, k1, n1⟩, -, X1, ⟨Lc1, hQ1, l1, y1, z1⟩, st1⟩ := Jvm.LawKit.callS X0 hx (y := y3) hown (mvT hZ (wq hw 4 rfl)) (mvT hZ (wq hw 5 rfl)) (mvT hZ (wq hw 6 rfl)) (mvT hZ (wq hw 7 rfl)) (by decide) (backOf (W := 0) (rm4 l Z a0 hw [] cs_v hp ((p0 &&& (255 : Int32)).toUInt32.toUInt16.toUInt32.toInt32) h0 n0 O0 (own_ch1 p0)) hZ (wq hw 7 rfl) (wq hw 6 rfl) (by decide) (by decide)) (g := (mkF m 27 #[.val (.int p0), .val (.int (fx0 p0)), .val (.int (fx1 p0))] [(.int (fx0 p0))])) rfl (by rw [hml]; rfl) (argsL := [(.int (fx0 p0))]) (rest := []) (lenOf pd_3 rfl) rfl (by show 2 * 0 + _ ≤ _; exact Nat.le_of_eq rfl) (hb hby d1_27) (fun _ _ => ⟨rfl, e0, (by decide : 0 + 2 ≤ _), (by decide : 0 + 5 ≤ _)⟩)
  dsimp only [Pt.U, Pt.locs, Pt.cells, Pt.slots] at X1 l1 y1 z1 st1 hQ1
  subst l1 y1 z1
  obtain ⟨b1_0, b1_1, kc1_0, rfl, Nq1, Kq1, sq_b1_0, sq_b1_1, nq1_0, fq1_0, fq1_1, fq1_2, fq1_3, fq1_4, fq1_5, fq1_6⟩ := hQ1
  have N1 := Fr.app N0 Nq1
  have sz_b1_0 : h0.size ≤ b1_0 := Nat.le_trans (Keep.refl h0 []).1 sq_b1_0
  have sz_b1_1 : h0.size ≤ b1_1 := Nat.le_trans (Keep.refl h0 []).1 sq_b1_1
  have K1 : Keep h0 T1.heap [] := (Keep.refl h0 []).trans Kq1 all0
  obtain ⟨fs, hr, hrun, hended, hW, hsame⟩ := X1.leave (v := some (.ref b1_0)) (fun h => by rw [Bd.returns] at h; cases h)
  refine ⟨_, _, castTop (ef_1_0 m p0) ?_, hrun, hended, _, _, rfl, ?_, ⟨_, rfl⟩, hW, hsame.mono (by decide) (by decide)⟩
  · show Sp p e below s₁ (mkF m 0 #[.val (.int p0), .unset, .unset] []) _
    refine XS.iloadN X0.here hx rfl (hb hby d1_0) rfl ?_
    refine XS.sipush X0.here hx rfl (hb hby d1_1) ?_
    refine XS.iand X0.here hx rfl (hb hby d1_4) rfl ?_
    refine XS.i2c X0.here hx rfl (hb hby d1_5) rfl ?_
    refine XS.istoreN X0.here hx rfl (hb hby d1_6) rfl (l' := #[.val (.int p0), .val (.int (fx0 p0)), .unset]) rfl ?_
    refine XS.iloadN X0.here hx rfl (hb hby d1_7) rfl ?_
    refine XS.bipush X0.here hx rfl (hb hby d1_8) ?_
    show Sp p e below s₁ (mkF m 10 #[.val (.int p0), .val (.int (fx0 p0)), .unset] [(.int (8 : Int32)), (.int p0)]) _
    refine XS.iushr X0.here hx rfl (hb hby d1_10) rfl ?_
    refine XS.sipush X0.here hx rfl (hb hby d1_11) ?_
    refine XS.iand X0.here hx rfl (hb hby d1_14) rfl ?_
    refine XS.i2c X0.here hx rfl (hb hby d1_15) rfl ?_
    refine XS.istoreN X0.here hx rfl (hb hby d1_16) rfl (l' := #[.val (.int p0), .val (.int (fx0 p0)), .val (.int (fx1 p0))]) rfl ?_
    refine XS.iloadN X0.here hx rfl (hb hby d1_17) rfl ?_
    refine XS.bipush X0.here hx rfl (hb hby d1_18) ?_
    show Sp p e below s₁ (mkF m 20 #[.val (.int p0), .val (.int (fx0 p0)), .val (.int (fx1 p0))] [(.int (16 : Int32)), (.int p0)]) _
    refine XS.iushr X0.here hx rfl (hb hby d1_20) rfl ?_
    refine XS.iconst X0.here hx rfl (hb hby d1_21) ?_
    refine XS.iand X0.here hx rfl (hb hby d1_22) rfl ?_
    refine XS.ifNo X0.here hx rfl (hb hby d1_23) rfl ((if0 _ _).trans (teq hc1).2) ?_
    refine XS.iloadN X0.here hx rfl (hb hby d1_26) rfl ?_
    show Sp p e below s₁ (mkF m 27 #[.val (.int p0), .val (.int (fx0 p0)), .val (.int (fx1 p0))] [(.int (fx0 p0))]) _
    refine st1 _ ?_
    show Sp p e below T1 (mkF m 30 #[.val (.int p0), .val (.int (fx0 p0)), .val (.int (fx1 p0))] [(.ref b1_0)]) _
    jvm_step X1.here [X1.here.top, hx, (hb hby d1_30), X1.method', Bd.returns, Value.isRef, FieldType.isReference]
    first | (intro acts; rw [hr _ acts rfl rfl rfl]) | rw [hr _ _ rfl rfl rfl]
    exact Steps.refl _
  · show Q5 Z cs_v p0 h0 n0 _ T1.heap _
    exact ⟨b1_0, b1_1, kc1_0, rfl, N1, K1, sz_b1_0, sz_b1_1, nq1_0, fq1_0, fq1_1, fq1_2, fq1_3, fq1_4, fq1_5, fq1_6⟩
theorem d1_31 : decode method_2_code 31 = .ok (.new 8, 3) := by decide +kernel
theorem d1_34 : decode method_2_code 34 = .ok (.dup, 1) := by decide +kernel
theorem d1_35 : decode method_2_code 35 = .ok (.iconst 2, 1) := by decide +kernel
theorem d1_36 : decode method_2_code 36 = .ok (.newarray .char, 2) := by decide +kernel
theorem d1_38 : decode method_2_code 38 = .ok (.dup, 1) := by decide +kernel
theorem d1_39 : decode method_2_code 39 = .ok (.iconst 0, 1) := by decide +kernel
theorem d1_40 : decode method_2_code 40 = .ok (.iload_n 1, 1) := by decide +kernel
theorem d1_41 : decode method_2_code 41 = .ok (.castore, 1) := by decide +kernel
theorem d1_42 : decode method_2_code 42 = .ok (.dup, 1) := by decide +kernel
theorem d1_43 : decode method_2_code 43 = .ok (.iconst 1, 1) := by decide +kernel
theorem d1_44 : decode method_2_code 44 = .ok (.iload_n 2, 1) := by decide +kernel
theorem d1_45 : decode method_2_code 45 = .ok (.castore, 1) := by decide +kernel
theorem d1_46 : decode method_2_code 46 = .ok (.invokespecial 13, 3) := by decide +kernel
theorem d15_0 : decode jdk_42_method_3_code 0 = .ok (.aload_n 0, 1) := by decide +kernel
theorem d15_1 : decode jdk_42_method_3_code 1 = .ok (.aload_n 1, 1) := by decide +kernel
theorem d15_2 : decode jdk_42_method_3_code 2 = .ok (.iconst 0, 1) := by decide +kernel
theorem d15_3 : decode jdk_42_method_3_code 3 = .ok (.aload_n 1, 1) := by decide +kernel
theorem d15_4 : decode jdk_42_method_3_code 4 = .ok (.arraylength, 1) := by decide +kernel
theorem d15_5 : decode jdk_42_method_3_code 5 = .ok (.aconst_null, 1) := by decide +kernel
theorem d15_6 : decode jdk_42_method_3_code 6 = .ok (.invokespecial 27, 3) := by decide +kernel
theorem d16_0 : decode jdk_42_method_149_code 0 = .ok (.aload_n 0, 1) := by decide +kernel
theorem d16_1 : decode jdk_42_method_149_code 1 = .ok (.invokespecial 1, 3) := by decide +kernel
theorem d16_4 : decode jdk_42_method_149_code 4 = .ok (.iload_n 3, 1) := by decide +kernel
theorem d16_5 : decode jdk_42_method_149_code 5 = .ok (.ifCond .ne 22, 3) := by decide +kernel
theorem d16_27 : decode jdk_42_method_149_code 27 = .ok (.getstatic 38, 3) := by decide +kernel
theorem d16_30 : decode jdk_42_method_149_code 30 = .ok (.ifCond .eq 28, 3) := by decide +kernel
theorem d16_33 : decode jdk_42_method_149_code 33 = .ok (.aload_n 1, 1) := by decide +kernel
theorem d16_34 : decode jdk_42_method_149_code 34 = .ok (.iload_n 2, 1) := by decide +kernel
theorem d16_35 : decode jdk_42_method_149_code 35 = .ok (.iload_n 3, 1) := by decide +kernel
theorem d16_36 : decode jdk_42_method_149_code 36 = .ok (.invokestatic 177, 3) := by decide +kernel
theorem d17_0 : decode jdk_52_method_16_code 0 = .ok (.iload_n 2, 1) := by decide +kernel
theorem d17_1 : decode jdk_52_method_16_code 1 = .ok (.newarray .byte, 2) := by decide +kernel
theorem d17_3 : decode jdk_52_method_16_code 3 = .ok (.astore_n 3, 1) := by decide +kernel
theorem d17_4 : decode jdk_52_method_16_code 4 = .ok (.aload_n 0, 1) := by decide +kernel
theorem d17_5 : decode jdk_52_method_16_code 5 = .ok (.iload_n 1, 1) := by decide +kernel
theorem d17_6 : decode jdk_52_method_16_code 6 = .ok (.aload_n 3, 1) := by decide +kernel
theorem d17_7 : decode jdk_52_method_16_code 7 = .ok (.iconst 0, 1) := by decide +kernel
theorem d17_8 : decode jdk_52_method_16_code 8 = .ok (.iload_n 2, 1) := by decide +kernel
theorem d17_9 : decode jdk_52_method_16_code 9 = .ok (.invokestatic 115, 3) := by decide +kernel
theorem d18_0 : decode jdk_52_method_21_code 0 = .ok (.iconst 0, 1) := by decide +kernel
theorem d18_1 : decode jdk_52_method_21_code 1 = .ok (.istore 5, 2) := by decide +kernel
theorem d18_3 : decode jdk_52_method_21_code 3 = .ok (.iload 5, 2) := by decide +kernel
theorem d18_5 : decode jdk_52_method_21_code 5 = .ok (.iload 4, 2) := by decide +kernel
theorem d18_7 : decode jdk_52_method_21_code 7 = .ok (.if_icmp .ge 37, 3) := by decide +kernel
theorem d18_10 : decode jdk_52_method_21_code 10 = .ok (.aload_n 0, 1) := by decide +kernel
theorem d18_11 : decode jdk_52_method_21_code 11 = .ok (.iload_n 1, 1) := by decide +kernel
theorem d18_12 : decode jdk_52_method_21_code 12 = .ok (.caload, 1) := by decide +kernel
theorem d18_13 : decode jdk_52_method_21_code 13 = .ok (.istore 6, 2) := by decide +kernel
theorem d18_15 : decode jdk_52_method_21_code 15 = .ok (.iload 6, 2) := by decide +kernel
theorem d18_17 : decode jdk_52_method_21_code 17 = .ok (.sipush 255, 3) := by decide +kernel
theorem d18_20 : decode jdk_52_method_21_code 20 = .ok (.if_icmp .le 6, 3) := by decide +kernel
theorem d18_26 : decode jdk_52_method_21_code 26 = .ok (.aload_n 2, 1) := by decide +kernel
theorem d18_27 : decode jdk_52_method_21_code 27 = .ok (.iload_n 3, 1) := by decide +kernel
theorem d18_28 : decode jdk_52_method_21_code 28 = .ok (.iload 6, 2) := by decide +kernel
theorem d18_30 : decode jdk_52_method_21_code 30 = .ok (.i2b, 1) := by decide +kernel
theorem d18_31 : decode jdk_52_method_21_code 31 = .ok (.bastore, 1) := by decide +kernel
theorem d18_32 : decode jdk_52_method_21_code 32 = .ok (.iinc 1 1, 3) := by decide +kernel
abbrev fx2 : Int32 := ((0 : Int32) + (1 : Int32))
theorem d18_35 : decode jdk_52_method_21_code 35 = .ok (.iinc 3 1, 3) := by decide +kernel
theorem d18_38 : decode jdk_52_method_21_code 38 = .ok (.iinc 5 1, 3) := by decide +kernel
theorem d18_41 : decode jdk_52_method_21_code 41 = .ok (.goto (-38), 3) := by decide +kernel
abbrev fx3 : Int32 := (((0 : Int32) + (1 : Int32)) + (1 : Int32))
theorem d18_44 : decode jdk_52_method_21_code 44 = .ok (.iload 4, 2) := by decide +kernel
theorem d18_46 : decode jdk_52_method_21_code 46 = .ok (.ireturn, 1) := by decide +kernel
abbrev y5 : MethodName := (⟨"java/lang/StringUTF16", "compress", "([CI[BII)I"⟩ : MethodName)
theorem ef_18_0 (m : MethodId) (x0 : Addr) (x1 : Int32) (x2 : Addr) (x3 : Int32) (x4 : Int32) : entryFrame m #[(.ref x0), (.int x1), (.ref x2), (.int x3), (.int x4)] 7 = mkF m 0 #[.val (.ref x0), .val (.int x1), .val (.ref x2), .val (.int x3), .val (.int x4), .unset, .unset] [] := by first | (simp [entryFrame, mkF, argsToLocals, Value.category]; done) | rfl
theorem pn_18 : plainName "java/lang/StringUTF16" = true := by first | (simp [plainName, overriddenIn]; done) | decide +kernel
def Q6 (Z : State) (cs_v : Int32) (a1 : Addr) (a2 : Addr) (k_a1 : ClassId) (p4 : Int32) (p5 : Int32) (k_a2 : ClassId) (h0 : Heap) (n0 : Nat) (v : Option Value) (h : Heap) (L : List Loc) : Prop := v = some (.int (2 : Int32)) ∧ Fr n0 L ∧ Keep h0 h [a2] ∧ Exa Z h a2 "[B" ∧ Arv Z h a2 k_a2 .byte (2 : Int32) [(.int (nar .byte (p4.toInt8.toInt32))), (.int (nar .byte (p5.toInt8.toInt32)))] (.int (0 : Int32))
theorem rm6 (l : Launch) (Z : State) (a0 : Array Value) (hw : ∀ d ∈ tables_1, d.before a0 Z = true) (ws : List Jvm.Cond) (cs_v : Int32) (hp : Perm Z cs_v) (a1 : Addr) (a2 : Addr) (k_a1 : ClassId) (p4 : Int32) (p5 : Int32) (k_a2 : ClassId) (h0 : Heap) (n0 : Nat) (O0 : Old Z n0 h0) (V_a1 : Arv Z h0 a1 k_a1 .char (2 : Int32) [(.int p4), (.int p5)] (.int (0 : Int32))) (hc2 : ¬ ((255 : Int32) < p4)) (V_a2 : Arv Z h0 a2 k_a2 .byte (2 : Int32) [(.int (0 : Int32)), (.int (0 : Int32))] (.int (0 : Int32))) (E_a2 : Exa Z h0 a2 "[B") (g_a2 : n0 ≤ a2) (ne_a1_a2 : a1 ≠ a2) (hc7 : ¬ ((255 : Int32) < p5)) :
    MetFree l y5 (head1 (Jvm.Cond.code y5 jdk_52_method_21_code 7 (some .int) :: ws) ({ frames := 0, cells := 0, slots := 0, locals := 0 } : Room)) (fun a U => a = #[(.ref a1), (.int (0 : Int32)), (.ref a2), (.int (0 : Int32)), (.int (2 : Int32))] ∧ Z.Warmed39 U.vm ∧ U.heap = h0) (fun _ _ _ _ _ => True) (fun _ U o U' => ∃ v L, o = .returned v ∧ Q6 Z cs_v a1 a2 k_a1 p4 p5 k_a2 h0 n0 v U'.heap L ∧ FrameEnd U o U' L ({ frames := 0, cells := 0, slots := 0, locals := 0 } : Room).cells ({ frames := 0, cells := 0, slots := 0, locals := 0 } : Room).slots) := by
  refine MetFree.of_bodySF (plainFor_of_name pn_18) hisR ?_
  intro p e s m args below meth c s₁ Bd hml0 hP hK
  obtain ⟨rfl, hZ, hh⟩ := hP
  have hx := Bd.exec
  have hby := Bd.bytes
  have hml : c.maxLocals = 7 := hml0
  have hown : s.vm.findClass "java/lang/StringUTF16" = some m.cls := findClass_of_methodNamed Bd.named
  have hnm := (name_of_methodNamed Bd.named Bd.method).1
  have X0 : Stand p l e ({ frames := 0, cells := 0, slots := 0, locals := 0 } : Room) s m #[(.ref a1), (.int (0 : Int32)), (.ref a2), (.int (0 : Int32)), (.int (2 : Int32))] below meth c s₁ [] 0 0 := Stand.of_body Bd
  have e0 : s₁.heap = h0 := by rw [← hh, Bd.state]; rfl
  have N0 := Fr.nil n0
  obtain ⟨cl1, Ar1, -, S1, -, H1, -⟩ := id V_a1
  have hin1 : ¬ ((0 : Int32) < 0 ∨ cl1.slots.size ≤ ((0 : Int32)).toNatClampNeg) := inb_of S1 ⟨by decide, by decide⟩
  have hat1 : cl1.slots[((0 : Int32)).toNatClampNeg]? = some (.int p4) := H1.at hin1 rfl
  obtain ⟨cl2, Ar2, q2, S2, Nn2, H2, G2⟩ := id V_a2
  have hin2 : ¬ ((0 : Int32) < 0 ∨ cl2.slots.size ≤ ((0 : Int32)).toNatClampNeg) := inb_of S2 ⟨by decide, by decide⟩
  obtain ⟨T3, h3, X3, e3, W3, st3⟩ := stB X0 hx hZ e0 Ar2 (j := (0 : Int32)) hin2 (g := (mkF m 31 #[.val (.ref a1), .val (.int (0 : Int32)), .val (.ref a2), .val (.int (0 : Int32)), .val (.int (2 : Int32)), .val (.int (0 : Int32)), .val (.int p4)] [(.int (p4.toInt8.toInt32)), (.int (0 : Int32)), (.ref a2)])) rfl rfl (hb hby d18_31)
  have N3 := Fr.snoc X3 N0 g_a2
  have K3 : Keep h0 h3 [a2] := (Keep.refl h0 [a2]).wr W3 (Or.inl (ma 0 rfl))
  have V_a2_3 : Arv Z h3 a2 k_a2 .byte (2 : Int32) [(.int (nar .byte (p4.toInt8.toInt32))), (.int (0 : Int32))] (.int (0 : Int32)) := Arv.set Ar2 q2 S2 Nn2 H2 G2 (fits_nar_byte _) W3 0 rfl (Nat.le_of_ble_eq_true rfl)
  obtain ⟨cl4, Ar4, -, S4, -, H4, -⟩ := id (V_a1.other W3 ne_a1_a2)
  have hin4 : ¬ (((0 : Int32) + (1 : Int32)) < 0 ∨ cl4.slots.size ≤ (((0 : Int32) + (1 : Int32))).toNatClampNeg) := inb_of S4 ⟨by decide, by decide⟩
  have hat4 : cl4.slots[(((0 : Int32) + (1 : Int32))).toNatClampNeg]? = some (.int p5) := H4.at hin4 rfl
  obtain ⟨cl5, Ar5, q5, S5, Nn5, H5, G5⟩ := id V_a2_3
  have hin5 : ¬ (((0 : Int32) + (1 : Int32)) < 0 ∨ cl5.slots.size ≤ (((0 : Int32) + (1 : Int32))).toNatClampNeg) := inb_of S5 ⟨by decide, by decide⟩
  obtain ⟨T6, h6, X6, e6, W6, st6⟩ := stB X3 hx hZ e3 Ar5 (j := ((0 : Int32) + (1 : Int32))) hin5 (g := (mkF m 31 #[.val (.ref a1), .val (.int (fx2 )), .val (.ref a2), .val (.int (fx2 )), .val (.int (2 : Int32)), .val (.int (fx2 )), .val (.int p5)] [(.int (p5.toInt8.toInt32)), (.int (fx2 )), (.ref a2)])) rfl rfl (hb hby d18_31)
  have N6 := Fr.snoc X6 N3 g_a2
  have K6 : Keep h0 h6 [a2] := K3.wr W6 (Or.inl (ma 0 rfl))
  have V_a2_6 : Arv Z h6 a2 k_a2 .byte (2 : Int32) [(.int (nar .byte (p4.toInt8.toInt32))), (.int (nar .byte (p5.toInt8.toInt32)))] (.int (0 : Int32)) := Arv.set Ar5 q5 S5 Nn5 H5 G5 (fits_nar_byte _) W6 1 rfl (Nat.le_of_ble_eq_true rfl)
  obtain ⟨fs, hr, hrun, hended, hW, hsame⟩ := X6.leave (v := some (.int (2 : Int32))) (fun h => by rw [Bd.returns] at h; cases h)
  refine ⟨_, _, castTop (ef_18_0 m a1 (0 : Int32) a2 (0 : Int32) (2 : Int32)) ?_, hrun, hended, _, _, rfl, ?_, ⟨_, rfl⟩, hW, hsame.mono (by decide) (by decide)⟩
  · show Sp p e below s₁ (mkF m 0 #[.val (.ref a1), .val (.int (0 : Int32)), .val (.ref a2), .val (.int (0 : Int32)), .val (.int (2 : Int32)), .unset, .unset] []) _
    refine XS.iconst X0.here hx rfl (hb hby d18_0) ?_
    refine XS.istore X0.here hx rfl (hb hby d18_1) rfl (l' := #[.val (.ref a1), .val (.int (0 : Int32)), .val (.ref a2), .val (.int (0 : Int32)), .val (.int (2 : Int32)), .val (.int (0 : Int32)), .unset]) rfl ?_
    refine XS.iload X0.here hx rfl (hb hby d18_3) rfl ?_
    refine XS.iload X0.here hx rfl (hb hby d18_5) rfl ?_
    refine XS.icmpNo X0.here hx rfl (hb hby d18_7) rfl (tlt (by decide : (0 : Int32) < (2 : Int32))).2.1 ?_
    refine XS.aloadN X0.here hx rfl (hb hby d18_10) rfl rfl ?_
    refine XS.iloadN X0.here hx rfl (hb hby d18_11) rfl ?_
    show Sp p e below s₁ (mkF m 12 #[.val (.ref a1), .val (.int (0 : Int32)), .val (.ref a2), .val (.int (0 : Int32)), .val (.int (2 : Int32)), .val (.int (0 : Int32)), .unset] [(.int (0 : Int32)), (.ref a1)]) _
    refine X0.caload hx (j := (0 : Int32)) (v := (.int p4)) (by rw [e0]; exact Ar1.1) (State.isArrayOf_alike hZ.alike Ar1.2.1) Ar1.2.2 hin1 hat1 (g := (mkF m 12 #[.val (.ref a1), .val (.int (0 : Int32)), .val (.ref a2), .val (.int (0 : Int32)), .val (.int (2 : Int32)), .val (.int (0 : Int32)), .unset] [(.int (0 : Int32)), (.ref a1)])) rfl rfl (hb hby d18_12) _ ?_
    show Sp p e below s₁ (mkF m 13 #[.val (.ref a1), .val (.int (0 : Int32)), .val (.ref a2), .val (.int (0 : Int32)), .val (.int (2 : Int32)), .val (.int (0 : Int32)), .unset] [(.int p4)]) _
    refine XS.istore X0.here hx rfl (hb hby d18_13) rfl (l' := #[.val (.ref a1), .val (.int (0 : Int32)), .val (.ref a2), .val (.int (0 : Int32)), .val (.int (2 : Int32)), .val (.int (0 : Int32)), .val (.int p4)]) rfl ?_
    refine XS.iload X0.here hx rfl (hb hby d18_15) rfl ?_
    refine XS.sipush X0.here hx rfl (hb hby d18_17) ?_
    refine XS.icmpYes X0.here hx rfl (pc0 := 20) (pc' := 26) rfl (hb hby d18_20) rfl (flt hc2).2.2.2 (by decide) (by decide) ?_
    refine XS.aloadN X0.here hx rfl (hb hby d18_26) rfl rfl ?_
    refine XS.iloadN X0.here hx rfl (hb hby d18_27) rfl ?_
    refine XS.iload X0.here hx rfl (hb hby d18_28) rfl ?_
    show Sp p e below s₁ (mkF m 30 #[.val (.ref a1), .val (.int (0 : Int32)), .val (.ref a2), .val (.int (0 : Int32)), .val (.int (2 : Int32)), .val (.int (0 : Int32)), .val (.int p4)] [(.int p4), (.int (0 : Int32)), (.ref a2)]) _
    refine XS.i2b X0.here hx rfl (hb hby d18_30) rfl ?_
    show Sp p e below s₁ (mkF m 31 #[.val (.ref a1), .val (.int (0 : Int32)), .val (.ref a2), .val (.int (0 : Int32)), .val (.int (2 : Int32)), .val (.int (0 : Int32)), .val (.int p4)] [(.int (p4.toInt8.toInt32)), (.int (0 : Int32)), (.ref a2)]) _
    refine st3 _ ?_
    show Sp p e below T3 (mkF m 32 #[.val (.ref a1), .val (.int (0 : Int32)), .val (.ref a2), .val (.int (0 : Int32)), .val (.int (2 : Int32)), .val (.int (0 : Int32)), .val (.int p4)] []) _
    refine XS.iinc X3.here hx rfl (hb hby d18_32) rfl (l' := #[.val (.ref a1), .val (.int (fx2 )), .val (.ref a2), .val (.int (0 : Int32)), .val (.int (2 : Int32)), .val (.int (0 : Int32)), .val (.int p4)]) rfl ?_
    show Sp p e below T3 (mkF m 35 #[.val (.ref a1), .val (.int (fx2 )), .val (.ref a2), .val (.int (0 : Int32)), .val (.int (2 : Int32)), .val (.int (0 : Int32)), .val (.int p4)] []) _
    refine XS.iinc X3.here hx rfl (hb hby d18_35) rfl (l' := #[.val (.ref a1), .val (.int (fx2 )), .val (.ref a2), .val (.int (fx2 )), .val (.int (2 : Int32)), .val (.int (0 : Int32)), .val (.int p4)]) rfl ?_
    show Sp p e below T3 (mkF m 38 #[.val (.ref a1), .val (.int (fx2 )), .val (.ref a2), .val (.int (fx2 )), .val (.int (2 : Int32)), .val (.int (0 : Int32)), .val (.int p4)] []) _
    refine XS.iinc X3.here hx rfl (hb hby d18_38) rfl (l' := #[.val (.ref a1), .val (.int (fx2 )), .val (.ref a2), .val (.int (fx2 )), .val (.int (2 : Int32)), .val (.int (fx2 )), .val (.int p4)]) rfl ?_
    refine XS.goto X3.here hx rfl (pc0 := 41) (pc' := 3) rfl (hb hby d18_41) (by decide) (by decide) ?_
    refine XS.iload X3.here hx rfl (hb hby d18_3) rfl ?_
    refine XS.iload X3.here hx rfl (hb hby d18_5) rfl ?_
    refine XS.icmpNo X3.here hx rfl (hb hby d18_7) rfl (tlt (by decide : ((0 : Int32) + (1 : Int32)) < (2 : Int32))).2.1 ?_
    refine XS.aloadN X3.here hx rfl (hb hby d18_10) rfl rfl ?_
    refine XS.iloadN X3.here hx rfl (hb hby d18_11) rfl ?_
    show Sp p e below T3 (mkF m 12 #[.val (.ref a1), .val (.int (fx2 )), .val (.ref a2), .val (.int (fx2 )), .val (.int (2 : Int32)), .val (.int (fx2 )), .val (.int p4)] [(.int (fx2 )), (.ref a1)]) _
    refine X3.caload hx (j := ((0 : Int32) + (1 : Int32))) (v := (.int p5)) (by rw [e3]; exact Ar4.1) (State.isArrayOf_alike hZ.alike Ar4.2.1) Ar4.2.2 hin4 hat4 (g := (mkF m 12 #[.val (.ref a1), .val (.int (fx2 )), .val (.ref a2), .val (.int (fx2 )), .val (.int (2 : Int32)), .val (.int (fx2 )), .val (.int p4)] [(.int (fx2 )), (.ref a1)])) rfl rfl (hb hby d18_12) _ ?_
    show Sp p e below T3 (mkF m 13 #[.val (.ref a1), .val (.int (fx2 )), .val (.ref a2), .val (.int (fx2 )), .val (.int (2 : Int32)), .val (.int (fx2 )), .val (.int p4)] [(.int p5)]) _
    refine XS.istore X3.here hx rfl (hb hby d18_13) rfl (l' := #[.val (.ref a1), .val (.int (fx2 )), .val (.ref a2), .val (.int (fx2 )), .val (.int (2 : Int32)), .val (.int (fx2 )), .val (.int p5)]) rfl ?_
    refine XS.iload X3.here hx rfl (hb hby d18_15) rfl ?_
    refine XS.sipush X3.here hx rfl (hb hby d18_17) ?_
    refine XS.icmpYes X3.here hx rfl (pc0 := 20) (pc' := 26) rfl (hb hby d18_20) rfl (flt hc7).2.2.2 (by decide) (by decide) ?_
    refine XS.aloadN X3.here hx rfl (hb hby d18_26) rfl rfl ?_
    refine XS.iloadN X3.here hx rfl (hb hby d18_27) rfl ?_
    refine XS.iload X3.here hx rfl (hb hby d18_28) rfl ?_
    show Sp p e below T3 (mkF m 30 #[.val (.ref a1), .val (.int (fx2 )), .val (.ref a2), .val (.int (fx2 )), .val (.int (2 : Int32)), .val (.int (fx2 )), .val (.int p5)] [(.int p5), (.int (fx2 )), (.ref a2)]) _
    refine XS.i2b X3.here hx rfl (hb hby d18_30) rfl ?_
    show Sp p e below T3 (mkF m 31 #[.val (.ref a1), .val (.int (fx2 )), .val (.ref a2), .val (.int (fx2 )), .val (.int (2 : Int32)), .val (.int (fx2 )), .val (.int p5)] [(.int (p5.toInt8.toInt32)), (.int (fx2 )), (.ref a2)]) _
    refine st6 _ ?_
    show Sp p e below T6 (mkF m 32 #[.val (.ref a1), .val (.int (fx2 )), .val (.ref a2), .val (.int (fx2 )), .val (.int (2 : Int32)), .val (.int (fx2 )), .val (.int p5)] []) _
    refine XS.iinc X6.here hx rfl (hb hby d18_32) rfl (l' := #[.val (.ref a1), .val (.int (fx3 )), .val (.ref a2), .val (.int (fx2 )), .val (.int (2 : Int32)), .val (.int (fx2 )), .val (.int p5)]) rfl ?_
    show Sp p e below T6 (mkF m 35 #[.val (.ref a1), .val (.int (fx3 )), .val (.ref a2), .val (.int (fx2 )), .val (.int (2 : Int32)), .val (.int (fx2 )), .val (.int p5)] []) _
    refine XS.iinc X6.here hx rfl (hb hby d18_35) rfl (l' := #[.val (.ref a1), .val (.int (fx3 )), .val (.ref a2), .val (.int (fx3 )), .val (.int (2 : Int32)), .val (.int (fx2 )), .val (.int p5)]) rfl ?_
    show Sp p e below T6 (mkF m 38 #[.val (.ref a1), .val (.int (fx3 )), .val (.ref a2), .val (.int (fx3 )), .val (.int (2 : Int32)), .val (.int (fx2 )), .val (.int p5)] []) _
    refine XS.iinc X6.here hx rfl (hb hby d18_38) rfl (l' := #[.val (.ref a1), .val (.int (fx3 )), .val (.ref a2), .val (.int (fx3 )), .val (.int (2 : Int32)), .val (.int (fx3 )), .val (.int p5)]) rfl ?_
    refine XS.goto X6.here hx rfl (pc0 := 41) (pc' := 3) rfl (hb hby d18_41) (by decide) (by decide) ?_
    refine XS.iload X6.here hx rfl (hb hby d18_3) rfl ?_
    refine XS.iload X6.here hx rfl (hb hby d18_5) rfl ?_
    refine XS.icmpYes X6.here hx rfl (pc0 := 7) (pc' := 44) rfl (hb hby d18_7) rfl (flt (by decide : ¬ ((((0 : Int32) + (1 : Int32)) + (1 : Int32)) < (2 : Int32)))).2.1 (by decide) (by decide) ?_
    refine XS.iload X6.here hx rfl (hb hby d18_44) rfl ?_
    show Sp p e below T6 (mkF m 46 #[.val (.ref a1), .val (.int (fx3 )), .val (.ref a2), .val (.int (fx3 )), .val (.int (2 : Int32)), .val (.int (fx3 )), .val (.int p5)] [(.int (2 : Int32))]) _
    exact retI X6 hx Bd.returns (hb hby d18_46) hr
  · show Q6 Z cs_v a1 a2 k_a1 p4 p5 k_a2 h0 n0 _ T6.heap _
    rw [e6]
    exact ⟨rfl, N6, K6, ((E_a2.wr W3).wr W6), V_a2_6⟩
theorem pd_4 : parseMethodDescriptor "([CI[BII)I" = some ⟨[(.array .char), .int, (.array .byte), .int, .int], some .int⟩ := by decide +kernel
theorem d17_12 : decode jdk_52_method_16_code 12 = .ok (.istore 4, 2) := by decide +kernel
theorem d17_14 : decode jdk_52_method_16_code 14 = .ok (.iload 4, 2) := by decide +kernel
theorem d17_16 : decode jdk_52_method_16_code 16 = .ok (.iload_n 2, 1) := by decide +kernel
theorem d17_17 : decode jdk_52_method_16_code 17 = .ok (.if_icmp .eq 40, 3) := by decide +kernel
theorem d17_57 : decode jdk_52_method_16_code 57 = .ok (.aload_n 3, 1) := by decide +kernel
theorem d17_58 : decode jdk_52_method_16_code 58 = .ok (.areturn, 1) := by decide +kernel
abbrev y6 : MethodName := (⟨"java/lang/StringUTF16", "compress", "([CII)[B"⟩ : MethodName)
theorem ef_17_0 (m : MethodId) (x0 : Addr) (x1 : Int32) (x2 : Int32) : entryFrame m #[(.ref x0), (.int x1), (.int x2)] 6 = mkF m 0 #[.val (.ref x0), .val (.int x1), .val (.int x2), .unset, .unset, .unset] [] := by first | (simp [entryFrame, mkF, argsToLocals, Value.category]; done) | rfl
def Q7 (Z : State) (cs_v : Int32) (a1 : Addr) (k_a1 : ClassId) (p3 : Int32) (p4 : Int32) (h0 : Heap) (n0 : Nat) (v : Option Value) (h : Heap) (L : List Loc) : Prop := ∃ (b1 : Addr), ∃ (k1 : ClassId), v = some (.ref b1) ∧ Fr n0 L ∧ Keep h0 h [] ∧ h0.size ≤ b1 ∧ Exa Z h b1 "[B" ∧ Arv Z h b1 k1 .byte (2 : Int32) [(.int (nar .byte (p3.toInt8.toInt32))), (.int (nar .byte (p4.toInt8.toInt32)))] (.int (0 : Int32))
theorem rm7 (l : Launch) (Z : State) (a0 : Array Value) (hw : ∀ d ∈ tables_1, d.before a0 Z = true) (ws : List Jvm.Cond) (cs_v : Int32) (hp : Perm Z cs_v) (a1 : Addr) (k_a1 : ClassId) (p3 : Int32) (p4 : Int32) (h0 : Heap) (n0 : Nat) (O0 : Old Z n0 h0) (V_a1 : Arv Z h0 a1 k_a1 .char (2 : Int32) [(.int p3), (.int p4)] (.int (0 : Int32))) (hc2 : ¬ ((255 : Int32) < p3)) (hc3 : ¬ ((255 : Int32) < p4)) (E_a1 : Exa Z h0 a1 "[C") :
    MetFree l y6 (head1 (Jvm.Cond.code y6 jdk_52_method_16_code 6 (some (.array .byte)) :: ws) ({ frames := 1, cells := 1, slots := 2, locals := 18 } : Room)) (fun a U => a = #[(.ref a1), (.int (0 : Int32)), (.int (2 : Int32))] ∧ Z.Warmed39 U.vm ∧ U.heap = h0) (fun _ _ _ _ _ => True) (fun _ U o U' => ∃ v L, o = .returned v ∧ Q7 Z cs_v a1 k_a1 p3 p4 h0 n0 v U'.heap L ∧ FrameEnd U o U' L ({ frames := 1, cells := 1, slots := 2, locals := 18 } : Room).cells ({ frames := 1, cells := 1, slots := 2, locals := 18 } : Room).slots) := by
  refine MetFree.of_bodySF (plainFor_of_name pn_18) hisR ?_
  intro p e s m args below meth c s₁ Bd hml0 hP hK
  obtain ⟨rfl, hZ, hh⟩ := hP
  have hx := Bd.exec
  have hby := Bd.bytes
  have hml : c.maxLocals = 6 := hml0
  have hown : s.vm.findClass "java/lang/StringUTF16" = some m.cls := findClass_of_methodNamed Bd.named
  have hnm := (name_of_methodNamed Bd.named Bd.method).1
  have X0 : Stand p l e ({ frames := 1, cells := 1, slots := 2, locals := 18 } : Room) s m #[(.ref a1), (.int (0 : Int32)), (.int (2 : Int32))] below meth c s₁ [] 0 0 := Stand.of_body Bd
  have e0 : s₁.heap = h0 := by rw [← hh, Bd.state]; rfl
  have N0 := Fr.nil n0
  obtain ⟨T1, h1, k1, X1, e1, E1, A1, EA1, st1⟩ := newPE X0 hx hZ (wq hw 18 rfl) e0 (g := (mkF m 1 #[.val (.ref a1), .val (.int (0 : Int32)), .val (.int (2 : Int32)), .unset, .unset, .unset] [(.int (2 : Int32))])) rfl (hb hby d17_1) rfl (by decide) (cap := 2) (by decide) (by decide) (by decide) (by decide) (ad := "[B") (by decide)
  obtain ⟨b1, g1⟩ : ∃ z, z = h0.size := ⟨_, rfl⟩
  rw [← g1] at A1 EA1 st1
  have g_b1 : n0 ≤ b1 := Nat.le_trans (own_sz O0) (Nat.le_of_eq g1.symm)
  have sz_b1 : h0.size ≤ b1 := Nat.le_trans (Keep.refl h0 []).1 (Nat.le_of_eq g1.symm)
  have O1 := O0.ext E1
  have K1 : Keep h0 h1 [] := (Keep.refl h0 []).ext E1
  have V_b1 : Arv Z h1 b1 k1 .byte (2 : Int32) [(.int (0 : Int32)), (.int (0 : Int32))] (.int (0 : Int32)) := (Arv.new A1 (by decide)).pad (pad_rep [] (.int (0 : Int32)) 2)
  obtain ⟨_, _, ⟨T2, L2, k2, n2⟩, -, X2, ⟨Lc2, hQ2, l2, y2, z2⟩, st2⟩ := Jvm.LawKit.callS X1 hx (y := y5) hown (mvT hZ (wq hw 99 rfl)) (mvT hZ (wq hw 100 rfl)) (mvT hZ (wq hw 97 rfl)) (mvT hZ (wq hw 101 rfl)) (by decide) (backOf (W := 0) (rm6 l Z a0 hw [] cs_v hp a1 b1 k_a1 p3 p4 k1 h1 n0 O1 (V_a1.ext E1) hc2 V_b1 EA1 g_b1 (Nat.ne_of_lt (Nat.lt_of_lt_of_le E_a1.lt sz_b1)) hc3) hZ (wq hw 101 rfl) (wq hw 97 rfl) (by decide) (by decide)) (g := (mkF m 9 #[.val (.ref a1), .val (.int (0 : Int32)), .val (.int (2 : Int32)), .val (.ref b1), .unset, .unset] [(.int (2 : Int32)), (.int (0 : Int32)), (.ref b1), (.int (0 : Int32)), (.ref a1)])) rfl (by rw [hml]; rfl) (argsL := [(.ref a1), (.int (0 : Int32)), (.ref b1), (.int (0 : Int32)), (.int (2 : Int32))]) (rest := []) (lenOf pd_4 rfl) rfl (by show 2 * 0 + _ ≤ _; exact Nat.le_of_eq rfl) (hb hby d17_9) (fun _ _ => ⟨rfl, e1, (by decide : 1 + 0 ≤ _), (by decide : 2 + 0 ≤ _)⟩)
  dsimp only [Pt.U, Pt.locs, Pt.cells, Pt.slots] at X2 l2 y2 z2 st2 hQ2
  subst l2 y2 z2
  obtain ⟨rfl, Nq2, Kq2, fq2_0, fq2_1⟩ := hQ2
  have N2 := Fr.app N0 Nq2
  have K2 : Keep h0 T2.heap [] := K1.trans Kq2 (allS (Or.inr sz_b1) all0)
  obtain ⟨fs, hr, hrun, hended, hW, hsame⟩ := X2.leave (v := some (.ref b1)) (fun h => by rw [Bd.returns] at h; cases h)
  refine ⟨_, _, castTop (ef_17_0 m a1 (0 : Int32) (2 : Int32)) ?_, hrun, hended, _, _, rfl, ?_, ⟨_, rfl⟩, hW, hsame.mono (by decide) (by decide)⟩
  · show Sp p e below s₁ (mkF m 0 #[.val (.ref a1), .val (.int (0 : Int32)), .val (.int (2 : Int32)), .unset, .unset, .unset] []) _
    refine XS.iloadN X0.here hx rfl (hb hby d17_0) rfl ?_
    show Sp p e below s₁ (mkF m 1 #[.val (.ref a1), .val (.int (0 : Int32)), .val (.int (2 : Int32)), .unset, .unset, .unset] [(.int (2 : Int32))]) _
    refine st1 _ ?_
    show Sp p e below T1 (mkF m 3 #[.val (.ref a1), .val (.int (0 : Int32)), .val (.int (2 : Int32)), .unset, .unset, .unset] [(.ref b1)]) _
    refine XS.astoreN X1.here hx rfl (hb hby d17_3) rfl rfl (l' := #[.val (.ref a1), .val (.int (0 : Int32)), .val (.int (2 : Int32)), .val (.ref b1), .unset, .unset]) rfl ?_
    refine XS.aloadN X1.here hx rfl (hb hby d17_4) rfl rfl ?_
    refine XS.iloadN X1.here hx rfl (hb hby d17_5) rfl ?_
    refine XS.aloadN X1.here hx rfl (hb hby d17_6) rfl rfl ?_
    refine XS.iconst X1.here hx rfl (hb hby d17_7) ?_
    refine XS.iloadN X1.here hx rfl (hb hby d17_8) rfl ?_
    show Sp p e below T1 (mkF m 9 #[.val (.ref a1), .val (.int (0 : Int32)), .val (.int (2 : Int32)), .val (.ref b1), .unset, .unset] [(.int (2 : Int32)), (.int (0 : Int32)), (.ref b1), (.int (0 : Int32)), (.ref a1)]) _
    refine st2 _ ?_
    show Sp p e below T2 (mkF m 12 #[.val (.ref a1), .val (.int (0 : Int32)), .val (.int (2 : Int32)), .val (.ref b1), .unset, .unset] [(.int (2 : Int32))]) _
    refine XS.istore X2.here hx rfl (hb hby d17_12) rfl (l' := #[.val (.ref a1), .val (.int (0 : Int32)), .val (.int (2 : Int32)), .val (.ref b1), .val (.int (2 : Int32)), .unset]) rfl ?_
    refine XS.iload X2.here hx rfl (hb hby d17_14) rfl ?_
    refine XS.iloadN X2.here hx rfl (hb hby d17_16) rfl ?_
    refine XS.icmpYes X2.here hx rfl (pc0 := 17) (pc' := 57) rfl (hb hby d17_17) rfl (teq (by decide : (2 : Int32) = (2 : Int32))).1 (by decide) (by decide) ?_
    refine XS.aloadN X2.here hx rfl (hb hby d17_57) rfl rfl ?_
    show Sp p e below T2 (mkF m 58 #[.val (.ref a1), .val (.int (0 : Int32)), .val (.int (2 : Int32)), .val (.ref b1), .val (.int (2 : Int32)), .unset] [(.ref b1)]) _
    jvm_step X2.here [X2.here.top, hx, (hb hby d17_58), X2.method', Bd.returns, Value.isRef, FieldType.isReference]
    first | (intro acts; rw [hr _ acts rfl rfl rfl]) | rw [hr _ _ rfl rfl rfl]
    exact Steps.refl _
  · show Q7 Z cs_v a1 k_a1 p3 p4 h0 n0 _ T2.heap _
    exact ⟨b1, k1, rfl, N2, K2, sz_b1, fq2_0, fq2_1⟩
theorem pd_5 : parseMethodDescriptor "([CII)[B" = some ⟨[(.array .char), .int, .int], some (.array .byte)⟩ := by decide +kernel
theorem d16_39 : decode jdk_42_method_149_code 39 = .ok (.astore 5, 2) := by decide +kernel
theorem d16_41 : decode jdk_42_method_149_code 41 = .ok (.aload_n 0, 1) := by decide +kernel
theorem d16_42 : decode jdk_42_method_149_code 42 = .ok (.aload 5, 2) := by decide +kernel
theorem d16_44 : decode jdk_42_method_149_code 44 = .ok (.iload_n 3, 1) := by decide +kernel
theorem d16_45 : decode jdk_42_method_149_code 45 = .ok (.invokestatic 47, 3) := by decide +kernel
theorem d19_0 : decode jdk_52_method_15_code 0 = .ok (.iload_n 1, 1) := by decide +kernel
theorem d19_1 : decode jdk_52_method_15_code 1 = .ok (.aload_n 0, 1) := by decide +kernel
theorem d19_2 : decode jdk_52_method_15_code 2 = .ok (.arraylength, 1) := by decide +kernel
theorem d19_3 : decode jdk_52_method_15_code 3 = .ok (.isub, 1) := by decide +kernel
theorem d19_4 : decode jdk_52_method_15_code 4 = .ok (.bipush 31, 2) := by decide +kernel
theorem d19_6 : decode jdk_52_method_15_code 6 = .ok (.iushr, 1) := by decide +kernel
theorem d19_7 : decode jdk_52_method_15_code 7 = .ok (.i2b, 1) := by decide +kernel
theorem d19_8 : decode jdk_52_method_15_code 8 = .ok (.ireturn, 1) := by decide +kernel
abbrev fx4 : Int32 := (((((2 : Int32) - (2 : Int32)).toUInt32 >>> ((31 : Int32) &&& 31).toUInt32).toInt32).toInt8.toInt32)
abbrev y7 : MethodName := (⟨"java/lang/StringUTF16", "coderFromArrayLen", "([BI)B"⟩ : MethodName)
theorem ef_19_0 (m : MethodId) (x0 : Addr) (x1 : Int32) : entryFrame m #[(.ref x0), (.int x1)] 2 = mkF m 0 #[.val (.ref x0), .val (.int x1)] [] := by first | (simp [entryFrame, mkF, argsToLocals, Value.category]; done) | rfl
def Q8 (Z : State) (cs_v : Int32) (a1 : Addr) (k_a1 : ClassId) (p3 : Int32) (p4 : Int32) (h0 : Heap) (n0 : Nat) (v : Option Value) (h : Heap) (L : List Loc) : Prop := v = some (.int (0 : Int32)) ∧ Fr n0 L ∧ h = h0
theorem rm8 (l : Launch) (Z : State) (a0 : Array Value) (hw : ∀ d ∈ tables_1, d.before a0 Z = true) (ws : List Jvm.Cond) (cs_v : Int32) (hp : Perm Z cs_v) (a1 : Addr) (k_a1 : ClassId) (p3 : Int32) (p4 : Int32) (h0 : Heap) (n0 : Nat) (O0 : Old Z n0 h0) (V_a1 : Arv Z h0 a1 k_a1 .byte (2 : Int32) [(.int p3), (.int p4)] (.int (0 : Int32))) :
    MetFree l y7 (head1 (Jvm.Cond.code y7 jdk_52_method_15_code 2 (some .byte) :: ws) ({ frames := 0, cells := 0, slots := 0, locals := 0 } : Room)) (fun a U => a = #[(.ref a1), (.int (2 : Int32))] ∧ Z.Warmed39 U.vm ∧ U.heap = h0) (fun _ _ _ _ _ => True) (fun _ U o U' => ∃ v L, o = .returned v ∧ Q8 Z cs_v a1 k_a1 p3 p4 h0 n0 v U'.heap L ∧ FrameEnd U o U' L ({ frames := 0, cells := 0, slots := 0, locals := 0 } : Room).cells ({ frames := 0, cells := 0, slots := 0, locals := 0 } : Room).slots) := by
  refine MetFree.of_bodySF (plainFor_of_name pn_18) hisR ?_
  intro p e s m args below meth c s₁ Bd hml0 hP hK
  obtain ⟨rfl, hZ, hh⟩ := hP
  have hx := Bd.exec
  have hby := Bd.bytes
  have hml : c.maxLocals = 2 := hml0
  have hown : s.vm.findClass "java/lang/StringUTF16" = some m.cls := findClass_of_methodNamed Bd.named
  have hnm := (name_of_methodNamed Bd.named Bd.method).1
  have X0 : Stand p l e ({ frames := 0, cells := 0, slots := 0, locals := 0 } : Room) s m #[(.ref a1), (.int (2 : Int32))] below meth c s₁ [] 0 0 := Stand.of_body Bd
  have e0 : s₁.heap = h0 := by rw [← hh, Bd.state]; rfl
  have N0 := Fr.nil n0
  obtain ⟨cl1, Ar1, -, S1, Nn1, -, -⟩ := id V_a1
  obtain ⟨fs, hr, hrun, hended, hW, hsame⟩ := X0.leave (v := some (.int (0 : Int32))) (fun h => by rw [Bd.returns] at h; cases h)
  refine ⟨_, _, castTop (ef_19_0 m a1 (2 : Int32)) ?_, hrun, hended, _, _, rfl, ?_, ⟨_, rfl⟩, hW, hsame.mono (by decide) (by decide)⟩
  · show Sp p e below s₁ (mkF m 0 #[.val (.ref a1), .val (.int (2 : Int32))] []) _
    refine XS.iloadN X0.here hx rfl (hb hby d19_0) rfl ?_
    refine XS.aloadN X0.here hx rfl (hb hby d19_1) rfl rfl ?_
    show Sp p e below s₁ (mkF m 2 #[.val (.ref a1), .val (.int (2 : Int32))] [(.ref a1), (.int (2 : Int32))]) _
    refine X0.arraylength hx (by rw [e0]; exact Ar1.1) (State.isArrayOf_alike hZ.alike Ar1.2.1) (g := (mkF m 2 #[.val (.ref a1), .val (.int (2 : Int32))] [(.ref a1), (.int (2 : Int32))])) rfl rfl (hb hby d19_2) _ ?_
    rw [len_of S1 Nn1]
    show Sp p e below s₁ (mkF m 3 #[.val (.ref a1), .val (.int (2 : Int32))] [(.int (2 : Int32)), (.int (2 : Int32))]) _
    refine XS.isub X0.here hx rfl (hb hby d19_3) rfl ?_
    refine XS.bipush X0.here hx rfl (hb hby d19_4) ?_
    refine XS.iushr X0.here hx rfl (hb hby d19_6) rfl ?_
    refine XS.i2b X0.here hx rfl (hb hby d19_7) rfl ?_
    show Sp p e below s₁ (mkF m 8 #[.val (.ref a1), .val (.int (2 : Int32))] [(.int (fx4 ))]) _
    exact retN X0 hx (t := .byte) Bd.returns (by simp) (hb hby d19_8) hr
  · show Q8 Z cs_v a1 k_a1 p3 p4 h0 n0 _ s₁.heap _
    rw [e0]
    exact ⟨rfl, N0, rfl⟩
theorem pd_6 : parseMethodDescriptor "([BI)B" = some ⟨[(.array .byte), .int], some .byte⟩ := by decide +kernel
theorem d16_48 : decode jdk_42_method_149_code 48 = .ok (.putfield 15, 3) := by decide +kernel
theorem d16_51 : decode jdk_42_method_149_code 51 = .ok (.aload_n 0, 1) := by decide +kernel
theorem d16_52 : decode jdk_42_method_149_code 52 = .ok (.aload 5, 2) := by decide +kernel
theorem d16_54 : decode jdk_42_method_149_code 54 = .ok (.putfield 9, 3) := by decide +kernel
theorem d16_57 : decode jdk_42_method_149_code 57 = .ok (.return_, 1) := by decide +kernel
abbrev y8 : MethodName := (⟨"java/lang/String", "<init>", "([CIILjava/lang/Void;)V"⟩ : MethodName)
theorem ef_16_0 (m : MethodId) (x0 : Addr) (x1 : Addr) (x2 : Int32) (x3 : Int32) : entryFrame m #[(.ref x0), (.ref x1), (.int x2), (.int x3), .null] 6 = mkF m 0 #[.val (.ref x0), .val (.ref x1), .val (.int x2), .val (.int x3), .val .null, .unset] [] := by first | (simp [entryFrame, mkF, argsToLocals, Value.category]; done) | rfl
def Q9 (Z : State) (cs_v : Int32) (a1 : Addr) (a2 : Addr) (k_a2 : ClassId) (p4 : Int32) (p5 : Int32) (h0 : Heap) (n0 : Nat) (v : Option Value) (h : Heap) (L : List Loc) : Prop := ∃ (b3_0 : Addr), ∃ (kc3_0 : ClassId), v = none ∧ Fr n0 L ∧ Keep h0 h [a1] ∧ h0.size ≤ b3_0 ∧ Exa Z h a1 "java/lang/String" ∧ Fld Z h a1 "java/lang/String" "coder" "B" (.int (0 : Int32)) ∧ Fld Z h a1 "java/lang/String" "hash" "I" (.int (0 : Int32)) ∧ Fld Z h a1 "java/lang/String" "hashIsZero" "Z" (.int (0 : Int32)) ∧ Fld Z h a1 "java/lang/String" "value" "[B" (.ref b3_0) ∧ Exa Z h b3_0 "[B" ∧ Arv Z h b3_0 kc3_0 .byte (2 : Int32) [(.int (nar .byte (p4.toInt8.toInt32))), (.int (nar .byte (p5.toInt8.toInt32)))] (.int (0 : Int32))
theorem rm9 (l : Launch) (Z : State) (a0 : Array Value) (hw : ∀ d ∈ tables_1, d.before a0 Z = true) (ws : List Jvm.Cond) (cs_v : Int32) (hp : Perm Z cs_v) (a1 : Addr) (a2 : Addr) (k_a2 : ClassId) (p4 : Int32) (p5 : Int32) (h0 : Heap) (n0 : Nat) (O0 : Old Z n0 h0) (V_a2 : Arv Z h0 a2 k_a2 .char (2 : Int32) [(.int p4), (.int p5)] (.int (0 : Int32))) (hc2 : ¬ ((255 : Int32) < p4)) (hc3 : ¬ ((255 : Int32) < p5)) (E_a2 : Exa Z h0 a2 "[C") (E_a1 : Exa Z h0 a1 "java/lang/String") (F_value_a1 : Fld Z h0 a1 "java/lang/String" "value" "[B" .null) (F_coder_a1 : Fld Z h0 a1 "java/lang/String" "coder" "B" (.int (0 : Int32))) (F_hash_a1 : Fld Z h0 a1 "java/lang/String" "hash" "I" (.int (0 : Int32))) (F_hashIsZero_a1 : Fld Z h0 a1 "java/lang/String" "hashIsZero" "Z" (.int (0 : Int32))) (g_a1 : n0 ≤ a1) :
    MetFree l y8 (head1 (Jvm.Cond.code y8 jdk_42_method_149_code 6 none :: ws) ({ frames := 2, cells := 1, slots := 2, locals := 35 } : Room)) (fun a U => a = #[(.ref a1), (.ref a2), (.int (0 : Int32)), (.int (2 : Int32)), .null] ∧ Z.Warmed39 U.vm ∧ U.heap = h0) (fun _ _ _ _ _ => True) (fun _ U o U' => ∃ v L, o = .returned v ∧ Q9 Z cs_v a1 a2 k_a2 p4 p5 h0 n0 v U'.heap L ∧ FrameEnd U o U' L ({ frames := 2, cells := 1, slots := 2, locals := 35 } : Room).cells ({ frames := 2, cells := 1, slots := 2, locals := 35 } : Room).slots) := by
  refine MetFree.of_bodySF (plainFor_of_name pn_5) hisR ?_
  intro p e s m args below meth c s₁ Bd hml0 hP hK
  obtain ⟨rfl, hZ, hh⟩ := hP
  have hx := Bd.exec
  have hby := Bd.bytes
  have hml : c.maxLocals = 6 := hml0
  have hown : s.vm.findClass "java/lang/String" = some m.cls := findClass_of_methodNamed Bd.named
  have hnm := (name_of_methodNamed Bd.named Bd.method).1
  have X0 : Stand p l e ({ frames := 2, cells := 1, slots := 2, locals := 35 } : Room) s m #[(.ref a1), (.ref a2), (.int (0 : Int32)), (.int (2 : Int32)), .null] below meth c s₁ [] 0 0 := Stand.of_body Bd
  have e0 : s₁.heap = h0 := by rw [← hh, Bd.state]; rfl
  have N0 := Fr.nil n0
  have hp' := hp
  obtain ⟨S_COMPACT_STRINGS, h_cs⟩ := hp'
  obtain ⟨T1, X1, e1, st1⟩ := initO X0 hx hZ hown (wq hw 23 rfl) (wq hw 24 rfl) (wq hw 25 rfl) e0 (g := (mkF m 1 #[.val (.ref a1), .val (.ref a2), .val (.int (0 : Int32)), .val (.int (2 : Int32)), .val .null, .unset] [(.ref a1)])) rfl (by rw [hml]; rfl) rfl (hb hby d16_1) (by decide) (W := 0) (by show 2 * 0 + _ ≤ _; exact Nat.le_of_eq rfl) (by decide)
  obtain ⟨T2, X2, e2, st2⟩ := getS2 X1 hx hZ hown (host := "") (Or.inl (wq hw 8 rfl)) Via.refl e1 (S_COMPACT_STRINGS.ext O0.2) (g := (mkF m 27 #[.val (.ref a1), .val (.ref a2), .val (.int (0 : Int32)), .val (.int (2 : Int32)), .val .null, .unset] [])) rfl (hb hby d16_27)
  obtain ⟨_, _, ⟨T3, L3, k3, n3⟩, -, X3, ⟨Lc3, hQ3, l3, y3, z3⟩, st3⟩ := Jvm.LawKit.callS X2 hx (y := y6) hown (mvT hZ (wq hw 95 rfl)) (mvT hZ (wq hw 96 rfl)) (mvT hZ (wq hw 97 rfl)) (mvT hZ (wq hw 98 rfl)) (by decide) (backOf (W := 0) (rm7 l Z a0 hw [] cs_v hp a2 k_a2 p4 p5 h0 n0 O0 V_a2 hc2 hc3 E_a2) hZ (wq hw 98 rfl) (wq hw 97 rfl) (by decide) (by decide)) (g := (mkF m 36 #[.val (.ref a1), .val (.ref a2), .val (.int (0 : Int32)), .val (.int (2 : Int32)), .val .null, .unset] [(.int (2 : Int32)), (.int (0 : Int32)), (.ref a2)])) rfl (by rw [hml]; rfl) (argsL := [(.ref a2), (.int (0 : Int32)), (.int (2 : Int32))]) (rest := []) (lenOf pd_5 rfl) rfl (by show 2 * 0 + _ ≤ _; exact Nat.le_of_eq rfl) (hb hby d16_36) (fun _ _ => ⟨rfl, e2, (by decide : 0 + 1 ≤ _), (by decide : 0 + 2 ≤ _)⟩)
  dsimp only [Pt.U, Pt.locs, Pt.cells, Pt.slots] at X3 l3 y3 z3 st3 hQ3
  subst l3 y3 z3
  obtain ⟨b3_0, kc3_0, rfl, Nq3, Kq3, sq_b3_0, fq3_0, fq3_1⟩ := hQ3
  have N3 := Fr.app N0 Nq3
  have sz_b3_0 : h0.size ≤ b3_0 := Nat.le_trans (Keep.refl h0 [a1]).1 sq_b3_0
  have O3 := O0.keep Kq3 all0
  have K3 : Keep h0 T3.heap [a1] := (Keep.refl h0 [a1]).trans Kq3 all0
  obtain ⟨_, _, ⟨T4, L4, k4, n4⟩, -, X4, ⟨Lc4, hQ4, l4, y4, z4⟩, st4⟩ := Jvm.LawKit.callS X3 hx (y := y7) hown (mvT hZ (wq hw 102 rfl)) (mvT hZ (wq hw 103 rfl)) (mvT hZ (wq hw 97 rfl)) (mvT hZ (wq hw 104 rfl)) (by decide) (backOf (W := 1) (rm8 l Z a0 hw [] cs_v hp b3_0 kc3_0 (nar .byte (p4.toInt8.toInt32)) (nar .byte (p5.toInt8.toInt32)) T3.heap n0 O3 fq3_1) hZ (wq hw 104 rfl) (wq hw 97 rfl) (by decide) (by decide)) (g := (mkF m 45 #[.val (.ref a1), .val (.ref a2), .val (.int (0 : Int32)), .val (.int (2 : Int32)), .val .null, .val (.ref b3_0)] [(.int (2 : Int32)), (.ref b3_0), (.ref a1)])) rfl (by rw [hml]; rfl) (argsL := [(.ref b3_0), (.int (2 : Int32))]) (rest := [(.ref a1)]) (lenOf pd_6 rfl) rfl (by show 2 * 0 + _ ≤ _; exact Nat.le_of_eq rfl) (hb hby d16_45) (fun _ _ => ⟨rfl, rfl, (by decide : 1 + 0 ≤ _), (by decide : 2 + 0 ≤ _)⟩)
  dsimp only [Pt.U, Pt.locs, Pt.cells, Pt.slots] at X4 l4 y4 z4 st4 hQ4
  subst l4 y4 z4
  obtain ⟨rfl, Nq4, eq4⟩ := hQ4
  have N4 := Fr.app N3 Nq4
  obtain ⟨T5, h5, X5, e5, W5, st5⟩ := putFN X4 hx hZ hown (wq hw 28 rfl) Via.refl eq4 (F_coder_a1.keep Kq3 nin0) (E_a1.keep Kq3) (Or.inr ⟨(wq hw 29 rfl), rfl, hnm⟩) (wq hw 14 rfl) (ty := .byte) (v' := (.int (0 : Int32))) (by decide) rfl rfl (g := (mkF m 48 #[.val (.ref a1), .val (.ref a2), .val (.int (0 : Int32)), .val (.int (2 : Int32)), .val .null, .val (.ref b3_0)] [(.int (0 : Int32)), (.ref a1)])) rfl rfl (hb hby d16_48)
  have N5 := Fr.snoc X5 N4 g_a1
  have K5 : Keep h0 h5 [a1] := K3.wr W5 (Or.inl (ma 0 rfl))
  have Fw5 := (F_coder_a1.keep Kq3 nin0).same W5
  obtain ⟨T6, h6, X6, e6, W6, st6⟩ := putF X5 hx hZ hown (host := "") (Or.inl (wq hw 26 rfl)) Via.refl e5 ((F_value_a1.keep Kq3 nin0).other W5 (Or.inr (sn5 hw))) ((E_a1.keep Kq3).wr W5) (Or.inr ⟨(wq hw 27 rfl), rfl, hnm⟩) (wq hw 14 rfl) (ty := (.array .byte)) (by decide) rfl rfl (g := (mkF m 54 #[.val (.ref a1), .val (.ref a2), .val (.int (0 : Int32)), .val (.int (2 : Int32)), .val .null, .val (.ref b3_0)] [(.ref b3_0), (.ref a1)])) rfl rfl (hb hby d16_54)
  have N6 := Fr.snoc X6 N5 g_a1
  have K6 : Keep h0 h6 [a1] := K5.wr W6 (Or.inl (ma 0 rfl))
  have Fw6 := ((F_value_a1.keep Kq3 nin0).other W5 (Or.inr (sn5 hw))).same W6
  have f_7 := (((F_hash_a1.keep Kq3 nin0).other W5 (Or.inr (sn2 hw))).other W6 (Or.inr (sn1 hw)))
  have f_8 := (((F_hashIsZero_a1.keep Kq3 nin0).other W5 (Or.inr (sn4 hw))).other W6 (Or.inr (sn3 hw)))
  have f_9 := ((fq3_1.other W5 (Ne.symm (Nat.ne_of_lt (Nat.lt_of_lt_of_le E_a1.lt sz_b3_0)))).other W6 (Ne.symm (Nat.ne_of_lt (Nat.lt_of_lt_of_le E_a1.lt sz_b3_0))))
  obtain ⟨fs, hr, hrun, hended, hW, hsame⟩ := X6.leave (v := none) (fun _ => rfl)
  refine ⟨_, _, castTop (ef_16_0 m a1 a2 (0 : Int32) (2 : Int32)) ?_, hrun, hended, _, _, rfl, ?_, ⟨_, rfl⟩, hW, hsame.mono (by decide) (by decide)⟩
  · show Sp p e below s₁ (mkF m 0 #[.val (.ref a1), .val (.ref a2), .val (.int (0 : Int32)), .val (.int (2 : Int32)), .val .null, .unset] []) _
    refine XS.aloadN X0.here hx rfl (hb hby d16_0) rfl rfl ?_
    show Sp p e below s₁ (mkF m 1 #[.val (.ref a1), .val (.ref a2), .val (.int (0 : Int32)), .val (.int (2 : Int32)), .val .null, .unset] [(.ref a1)]) _
    refine st1 _ ?_
    show Sp p e below T1 (mkF m 4 #[.val (.ref a1), .val (.ref a2), .val (.int (0 : Int32)), .val (.int (2 : Int32)), .val .null, .unset] []) _
    refine XS.iloadN X1.here hx rfl (hb hby d16_4) rfl ?_
    refine XS.ifYes X1.here hx rfl (pc0 := 5) (pc' := 27) rfl (hb hby d16_5) rfl ((if0 _ _).trans (feq (by decide : ¬ ((2 : Int32) = (0 : Int32)))).2) (by decide) (by decide) ?_
    show Sp p e below T1 (mkF m 27 #[.val (.ref a1), .val (.ref a2), .val (.int (0 : Int32)), .val (.int (2 : Int32)), .val .null, .unset] []) _
    refine st2 _ ?_
    show Sp p e below T2 (mkF m 30 #[.val (.ref a1), .val (.ref a2), .val (.int (0 : Int32)), .val (.int (2 : Int32)), .val .null, .unset] [(.int cs_v)]) _
    refine XS.ifNo X2.here hx rfl (hb hby d16_30) rfl ((if0 _ _).trans (feq h_cs).1) ?_
    refine XS.aloadN X2.here hx rfl (hb hby d16_33) rfl rfl ?_
    refine XS.iloadN X2.here hx rfl (hb hby d16_34) rfl ?_
    refine XS.iloadN X2.here hx rfl (hb hby d16_35) rfl ?_
    show Sp p e below T2 (mkF m 36 #[.val (.ref a1), .val (.ref a2), .val (.int (0 : Int32)), .val (.int (2 : Int32)), .val .null, .unset] [(.int (2 : Int32)), (.int (0 : Int32)), (.ref a2)]) _
    refine st3 _ ?_
    show Sp p e below T3 (mkF m 39 #[.val (.ref a1), .val (.ref a2), .val (.int (0 : Int32)), .val (.int (2 : Int32)), .val .null, .unset] [(.ref b3_0)]) _
    refine XS.astore X3.here hx rfl (hb hby d16_39) rfl rfl (l' := #[.val (.ref a1), .val (.ref a2), .val (.int (0 : Int32)), .val (.int (2 : Int32)), .val .null, .val (.ref b3_0)]) rfl ?_
    refine XS.aloadN X3.here hx rfl (hb hby d16_41) rfl rfl ?_
    refine XS.aload X3.here hx rfl (hb hby d16_42) rfl rfl ?_
    refine XS.iloadN X3.here hx rfl (hb hby d16_44) rfl ?_
    show Sp p e below T3 (mkF m 45 #[.val (.ref a1), .val (.ref a2), .val (.int (0 : Int32)), .val (.int (2 : Int32)), .val .null, .val (.ref b3_0)] [(.int (2 : Int32)), (.ref b3_0), (.ref a1)]) _
    refine st4 _ ?_
    show Sp p e below T4 (mkF m 48 #[.val (.ref a1), .val (.ref a2), .val (.int (0 : Int32)), .val (.int (2 : Int32)), .val .null, .val (.ref b3_0)] [(.int (0 : Int32)), (.ref a1)]) _
    refine st5 _ ?_
    show Sp p e below T5 (mkF m 51 #[.val (.ref a1), .val (.ref a2), .val (.int (0 : Int32)), .val (.int (2 : Int32)), .val .null, .val (.ref b3_0)] []) _
    refine XS.aloadN X5.here hx rfl (hb hby d16_51) rfl rfl ?_
    refine XS.aload X5.here hx rfl (hb hby d16_52) rfl rfl ?_
    show Sp p e below T5 (mkF m 54 #[.val (.ref a1), .val (.ref a2), .val (.int (0 : Int32)), .val (.int (2 : Int32)), .val .null, .val (.ref b3_0)] [(.ref b3_0), (.ref a1)]) _
    refine st6 _ ?_
    show Sp p e below T6 (mkF m 57 #[.val (.ref a1), .val (.ref a2), .val (.int (0 : Int32)), .val (.int (2 : Int32)), .val .null, .val (.ref b3_0)] []) _
    exact X6.returnOut hx Bd.returns (hb hby d16_57) hr
  · show Q9 Z cs_v a1 a2 k_a2 p4 p5 h0 n0 _ T6.heap _
    rw [e6]
    exact ⟨b3_0, kc3_0, rfl, N6, K6, sz_b3_0, (((E_a1.keep Kq3).wr W5).wr W6), (Fw5.other W6 (Or.inr (sn0 hw))), f_7, f_8, Fw6, ((fq3_0.wr W5).wr W6), f_9⟩
theorem pd_7 : parseMethodDescriptor "([CIILjava/lang/Void;)V" = some ⟨[(.array .char), .int, .int, (.object "java/lang/Void")], none⟩ := by decide +kernel
theorem d15_9 : decode jdk_42_method_3_code 9 = .ok (.return_, 1) := by decide +kernel
abbrev y9 : MethodName := (⟨"java/lang/String", "<init>", "([C)V"⟩ : MethodName)
theorem ef_15_0 (m : MethodId) (x0 : Addr) (x1 : Addr) : entryFrame m #[(.ref x0), (.ref x1)] 2 = mkF m 0 #[.val (.ref x0), .val (.ref x1)] [] := by first | (simp [entryFrame, mkF, argsToLocals, Value.category]; done) | rfl
def Q10 (Z : State) (cs_v : Int32) (a1 : Addr) (a2 : Addr) (k_a2 : ClassId) (p4 : Int32) (p5 : Int32) (h0 : Heap) (n0 : Nat) (v : Option Value) (h : Heap) (L : List Loc) : Prop := ∃ (b2_0 : Addr), ∃ (kc2_0 : ClassId), v = none ∧ Fr n0 L ∧ Keep h0 h [a1] ∧ h0.size ≤ b2_0 ∧ Exa Z h a1 "java/lang/String" ∧ Fld Z h a1 "java/lang/String" "coder" "B" (.int (0 : Int32)) ∧ Fld Z h a1 "java/lang/String" "hash" "I" (.int (0 : Int32)) ∧ Fld Z h a1 "java/lang/String" "hashIsZero" "Z" (.int (0 : Int32)) ∧ Fld Z h a1 "java/lang/String" "value" "[B" (.ref b2_0) ∧ Exa Z h b2_0 "[B" ∧ Arv Z h b2_0 kc2_0 .byte (2 : Int32) [(.int (nar .byte (p4.toInt8.toInt32))), (.int (nar .byte (p5.toInt8.toInt32)))] (.int (0 : Int32))
theorem rm10 (l : Launch) (Z : State) (a0 : Array Value) (hw : ∀ d ∈ tables_1, d.before a0 Z = true) (ws : List Jvm.Cond) (cs_v : Int32) (hp : Perm Z cs_v) (a1 : Addr) (a2 : Addr) (k_a2 : ClassId) (p4 : Int32) (p5 : Int32) (h0 : Heap) (n0 : Nat) (O0 : Old Z n0 h0) (V_a2 : Arv Z h0 a2 k_a2 .char (2 : Int32) [(.int p4), (.int p5)] (.int (0 : Int32))) (hc2 : ¬ ((255 : Int32) < p4)) (hc3 : ¬ ((255 : Int32) < p5)) (E_a2 : Exa Z h0 a2 "[C") (E_a1 : Exa Z h0 a1 "java/lang/String") (F_value_a1 : Fld Z h0 a1 "java/lang/String" "value" "[B" .null) (F_coder_a1 : Fld Z h0 a1 "java/lang/String" "coder" "B" (.int (0 : Int32))) (F_hash_a1 : Fld Z h0 a1 "java/lang/String" "hash" "I" (.int (0 : Int32))) (F_hashIsZero_a1 : Fld Z h0 a1 "java/lang/String" "hashIsZero" "Z" (.int (0 : Int32))) (g_a1 : n0 ≤ a1) :
    MetFree l y9 (head1 (Jvm.Cond.code y9 jdk_42_method_3_code 2 none :: ws) ({ frames := 3, cells := 1, slots := 2, locals := 52 } : Room)) (fun a U => a = #[(.ref a1), (.ref a2)] ∧ Z.Warmed39 U.vm ∧ U.heap = h0) (fun _ _ _ _ _ => True) (fun _ U o U' => ∃ v L, o = .returned v ∧ Q10 Z cs_v a1 a2 k_a2 p4 p5 h0 n0 v U'.heap L ∧ FrameEnd U o U' L ({ frames := 3, cells := 1, slots := 2, locals := 52 } : Room).cells ({ frames := 3, cells := 1, slots := 2, locals := 52 } : Room).slots) := by
  refine MetFree.of_bodySF (plainFor_of_name pn_5) hisR ?_
  intro p e s m args below meth c s₁ Bd hml0 hP hK
  obtain ⟨rfl, hZ, hh⟩ := hP
  have hx := Bd.exec
  have hby := Bd.bytes
  have hml : c.maxLocals = 2 := hml0
  have hown : s.vm.findClass "java/lang/String" = some m.cls := findClass_of_methodNamed Bd.named
  have hnm := (name_of_methodNamed Bd.named Bd.method).1
  have X0 : Stand p l e ({ frames := 3, cells := 1, slots := 2, locals := 52 } : Room) s m #[(.ref a1), (.ref a2)] below meth c s₁ [] 0 0 := Stand.of_body Bd
  have e0 : s₁.heap = h0 := by rw [← hh, Bd.state]; rfl
  have N0 := Fr.nil n0
  obtain ⟨cl1, Ar1, -, S1, Nn1, -, -⟩ := id V_a2
  obtain ⟨_, _, ⟨T2, L2, k2, n2⟩, -, X2, ⟨Lc2, hQ2, l2, y2, z2⟩, st2⟩ := X0.specialBack hx (y := y8) rfl hown (mvT hZ (wq hw 92 rfl)) (mvT hZ (wq hw 93 rfl)) (mvT hZ (wq hw 94 rfl)) (by decide) (backOf (W := 0) (rm9 l Z a0 hw [] cs_v hp a1 a2 k_a2 p4 p5 h0 n0 O0 V_a2 hc2 hc3 E_a2 E_a1 F_value_a1 F_coder_a1 F_hash_a1 F_hashIsZero_a1 g_a1) hZ (wq hw 94 rfl) (wq hw 6 rfl) (by decide) (by decide)) (g := (mkF m 6 #[.val (.ref a1), .val (.ref a2)] [.null, (.int (2 : Int32)), (.int (0 : Int32)), (.ref a2), (.ref a1)])) rfl (by rw [hml]; rfl) (Steps.refl _) (a := a1) (argsL := [(.ref a2), (.int (0 : Int32)), (.int (2 : Int32)), .null]) (rest := []) (lenOf pd_7 rfl) rfl (by show 2 * 0 + _ ≤ _; exact Nat.le_of_eq rfl) (hb hby d15_6) (fun _ _ => ⟨rfl, e0, (by decide : 0 + 1 ≤ _), (by decide : 0 + 2 ≤ _)⟩)
  dsimp only [Pt.U, Pt.locs, Pt.cells, Pt.slots] at X2 l2 y2 z2 st2 hQ2
  subst l2 y2 z2
  obtain ⟨b2_0, kc2_0, rfl, Nq2, Kq2, sq_b2_0, fq2_0, fq2_1, fq2_2, fq2_3, fq2_4, fq2_5, fq2_6⟩ := hQ2
  have N2 := Fr.app N0 Nq2
  have sz_b2_0 : h0.size ≤ b2_0 := Nat.le_trans (Keep.refl h0 [a1]).1 sq_b2_0
  have K2 : Keep h0 T2.heap [a1] := (Keep.refl h0 [a1]).trans Kq2 (allS (Or.inl (ma 0 rfl)) all0)
  obtain ⟨fs, hr, hrun, hended, hW, hsame⟩ := X2.leave (v := none) (fun _ => rfl)
  refine ⟨_, _, castTop (ef_15_0 m a1 a2) ?_, hrun, hended, _, _, rfl, ?_, ⟨_, rfl⟩, hW, hsame.mono (by decide) (by decide)⟩
  · show Sp p e below s₁ (mkF m 0 #[.val (.ref a1), .val (.ref a2)] []) _
    refine XS.aloadN X0.here hx rfl (hb hby d15_0) rfl rfl ?_
    refine XS.aloadN X0.here hx rfl (hb hby d15_1) rfl rfl ?_
    refine XS.iconst X0.here hx rfl (hb hby d15_2) ?_
    refine XS.aloadN X0.here hx rfl (hb hby d15_3) rfl rfl ?_
    show Sp p e below s₁ (mkF m 4 #[.val (.ref a1), .val (.ref a2)] [(.ref a2), (.int (0 : Int32)), (.ref a2), (.ref a1)]) _
    refine X0.arraylength hx (by rw [e0]; exact Ar1.1) (State.isArrayOf_alike hZ.alike Ar1.2.1) (g := (mkF m 4 #[.val (.ref a1), .val (.ref a2)] [(.ref a2), (.int (0 : Int32)), (.ref a2), (.ref a1)])) rfl rfl (hb hby d15_4) _ ?_
    rw [len_of S1 Nn1]
    show Sp p e below s₁ (mkF m 5 #[.val (.ref a1), .val (.ref a2)] [(.int (2 : Int32)), (.int (0 : Int32)), (.ref a2), (.ref a1)]) _
    refine XS.aconstNull X0.here hx rfl (hb hby d15_5) ?_
    show Sp p e below s₁ (mkF m 6 #[.val (.ref a1), .val (.ref a2)] [.null, (.int (2 : Int32)), (.int (0 : Int32)), (.ref a2), (.ref a1)]) _
    refine st2.trans ?_
    show Sp p e below T2 (mkF m 9 #[.val (.ref a1), .val (.ref a2)] []) _
    exact X2.returnOut hx Bd.returns (hb hby d15_9) hr
  · show Q10 Z cs_v a1 a2 k_a2 p4 p5 h0 n0 _ T2.heap _
    exact ⟨b2_0, kc2_0, rfl, N2, K2, sz_b2_0, fq2_0, fq2_1, fq2_2, fq2_3, fq2_4, fq2_5, fq2_6⟩
theorem pd_8 : parseMethodDescriptor "([C)V" = some ⟨[(.array .char)], none⟩ := by decide +kernel
theorem d1_49 : decode method_2_code 49 = .ok (.areturn, 1) := by decide +kernel
def Q11 (Z : State) (cs_v : Int32) (p0 : Int32) (h0 : Heap) (n0 : Nat) (v : Option Value) (h : Heap) (L : List Loc) : Prop := ∃ (b1 b11_0 : Addr), ∃ (kc11_0 : ClassId), v = some (.ref b1) ∧ Fr n0 L ∧ Keep h0 h [] ∧ h0.size ≤ b1 ∧ h0.size ≤ b11_0 ∧ b1 ≠ b11_0 ∧ Exa Z h b1 "java/lang/String" ∧ Fld Z h b1 "java/lang/String" "coder" "B" (.int (0 : Int32)) ∧ Fld Z h b1 "java/lang/String" "hash" "I" (.int (0 : Int32)) ∧ Fld Z h b1 "java/lang/String" "hashIsZero" "Z" (.int (0 : Int32)) ∧ Fld Z h b1 "java/lang/String" "value" "[B" (.ref b11_0) ∧ Exa Z h b11_0 "[B" ∧ Arv Z h b11_0 kc11_0 .byte (2 : Int32) [(.int (nar .byte ((nar .char ((p0 &&& (255 : Int32)).toUInt32.toUInt16.toUInt32.toInt32)).toInt8.toInt32))), (.int (nar .byte ((nar .char ((((p0.toUInt32 >>> ((8 : Int32) &&& 31).toUInt32).toInt32) &&& (255 : Int32)).toUInt32.toUInt16.toUInt32.toInt32)).toInt8.toInt32)))] (.int (0 : Int32))
theorem rm11 (l : Launch) (Z : State) (a0 : Array Value) (hw : ∀ d ∈ tables_1, d.before a0 Z = true) (ws : List Jvm.Cond) (cs_v : Int32) (hp : Perm Z cs_v) (p0 : Int32) (h0 : Heap) (n0 : Nat) (O0 : Old Z n0 h0) (hc1 : ¬ ((((p0.toUInt32 >>> ((16 : Int32) &&& 31).toUInt32).toInt32) &&& (1 : Int32)) = (0 : Int32))) :
    MetFree l y4 (head1 (Jvm.Cond.code y4 method_2_code 3 (some (.object "java/lang/String")) :: ws) ({ frames := 4, cells := 3, slots := 8, locals := 66 } : Room)) (fun a U => a = #[(.int p0)] ∧ Z.Warmed39 U.vm ∧ U.heap = h0) (fun _ _ _ _ _ => True) (fun _ U o U' => ∃ v L, o = .returned v ∧ Q11 Z cs_v p0 h0 n0 v U'.heap L ∧ FrameEnd U o U' L ({ frames := 4, cells := 3, slots := 8, locals := 66 } : Room).cells ({ frames := 4, cells := 3, slots := 8, locals := 66 } : Room).slots) := by
  refine MetFree.of_bodySF (plainFor_of_name pn_1) hisR ?_
  intro p e s m args below meth c s₁ Bd hml0 hP hK
  obtain ⟨rfl, hZ, hh⟩ := hP
  have hx := Bd.exec
  have hby := Bd.bytes
  have hml : c.maxLocals = 3 := hml0
  have hown : s.vm.findClass "com/example/byteloom/byteloom/StringNumbersClearPinLaw" = some m.cls := findClass_of_methodNamed Bd.named
  have hnm := (name_of_methodNamed Bd.named Bd.method).1
  have X0 : Stand p l e ({ frames := 4, cells := 3, slots := 8, locals := 66 } : Room) s m #[(.int p0)] below meth c s₁ [] 0 0 := Stand.of_body Bd
  have e0 : s₁.heap = h0 := by rw [← hh, Bd.state]; rfl
  have N0 := Fr.nil n0
  obtain ⟨T1, h1, X1, e1, E1, A1, D1, -, st1⟩ := newO X0 hx hZ hown (wq hw 87 rfl) (wq hw 14 rfl) (wq hw 6 rfl) e0 (g := (mkF m 31 #[.val (.int p0), .val (.int (fx0 p0)), .val (.int (fx1 p0))] [])) rfl (hb hby d1_31) (by decide) (by decide)
  obtain ⟨b1, g1⟩ : ∃ z, z = h0.size := ⟨_, rfl⟩
  rw [← g1] at A1 D1 st1
  have g_b1 : n0 ≤ b1 := Nat.le_trans (own_sz O0) (Nat.le_of_eq g1.symm)
  have sz_b1 : h0.size ≤ b1 := Nat.le_trans (Keep.refl h0 []).1 (Nat.le_of_eq g1.symm)
  have O1 := O0.ext E1
  have K1 : Keep h0 h1 [] := (Keep.refl h0 []).ext E1
  have F_value_b1 : Fld Z h1 b1 "java/lang/String" "value" "[B" .null := D1 (Or.inr (wq hw 27 rfl)) (ty := (.array .byte)) (by decide)
  have F_coder_b1 : Fld Z h1 b1 "java/lang/String" "coder" "B" (.int (0 : Int32)) := D1 (Or.inr (wq hw 29 rfl)) (ty := .byte) (by decide)
  have F_hash_b1 : Fld Z h1 b1 "java/lang/String" "hash" "I" (.int (0 : Int32)) := D1 (Or.inl (wq hw 59 rfl)) (ty := .int) (by decide)
  have F_hashIsZero_b1 : Fld Z h1 b1 "java/lang/String" "hashIsZero" "Z" (.int (0 : Int32)) := D1 (Or.inl (wq hw 61 rfl)) (ty := .boolean) (by decide)
  obtain ⟨T2, h2, k2, X2, e2, E2, A2, EA2, st2⟩ := newPE X1 hx hZ (wq hw 88 rfl) e1 (g := (mkF m 36 #[.val (.int p0), .val (.int (fx0 p0)), .val (.int (fx1 p0))] [(.int (2 : Int32)), (.ref b1), (.ref b1)])) rfl (hb hby d1_36) rfl (by decide) (cap := 2) (by decide) (by decide) (by decide) (by decide) (ad := "[C") (by decide)
  obtain ⟨b2, g2⟩ : ∃ z, z = h1.size := ⟨_, rfl⟩
  rw [← g2] at A2 EA2 st2
  have g_b2 : n0 ≤ b2 := Nat.le_trans (own_sz O1) (Nat.le_of_eq g2.symm)
  have sz_b2 : h0.size ≤ b2 := Nat.le_trans K1.1 (Nat.le_of_eq g2.symm)
  have O2 := O1.ext E2
  have K2 : Keep h0 h2 [] := K1.ext E2
  have V_b2 : Arv Z h2 b2 k2 .char (2 : Int32) [(.int (0 : Int32)), (.int (0 : Int32))] (.int (0 : Int32)) := (Arv.new A2 (by decide)).pad (pad_rep [] (.int (0 : Int32)) 2)
  obtain ⟨cl3, Ar3, q3, S3, Nn3, H3, G3⟩ := id V_b2
  have hin3 : ¬ ((0 : Int32) < 0 ∨ cl3.slots.size ≤ ((0 : Int32)).toNatClampNeg) := inb_of S3 ⟨by decide, by decide⟩
  obtain ⟨T4, h4, X4, e4, W4, st4⟩ := stC X2 hx hZ e2 Ar3 (j := (0 : Int32)) hin3 (g := (mkF m 41 #[.val (.int p0), .val (.int (fx0 p0)), .val (.int (fx1 p0))] [(.int (fx0 p0)), (.int (0 : Int32)), (.ref b2), (.ref b2), (.ref b1), (.ref b1)])) rfl rfl (hb hby d1_41)
  have N4 := Fr.snoc X4 N0 g_b2
  have O4 := O2.wr W4 g_b2
  have K4 : Keep h0 h4 [] := K2.wr W4 (Or.inr sz_b2)
  have V_b2_4 : Arv Z h4 b2 k2 .char (2 : Int32) [(.int (nar .char ((p0 &&& (255 : Int32)).toUInt32.toUInt16.toUInt32.toInt32))), (.int (0 : Int32))] (.int (0 : Int32)) := Arv.set Ar3 q3 S3 Nn3 H3 G3 (fits_nar_char _) W4 0 rfl (Nat.le_of_ble_eq_true rfl)
  obtain ⟨cl5, Ar5, q5, S5, Nn5, H5, G5⟩ := id V_b2_4
  have hin5 : ¬ ((1 : Int32) < 0 ∨ cl5.slots.size ≤ ((1 : Int32)).toNatClampNeg) := inb_of S5 ⟨by decide, by decide⟩
  obtain ⟨T6, h6, X6, e6, W6, st6⟩ := stC X4 hx hZ e4 Ar5 (j := (1 : Int32)) hin5 (g := (mkF m 45 #[.val (.int p0), .val (.int (fx0 p0)), .val (.int (fx1 p0))] [(.int (fx1 p0)), (.int (1 : Int32)), (.ref b2), (.ref b2), (.ref b1), (.ref b1)])) rfl rfl (hb hby d1_45)
  have N6 := Fr.snoc X6 N4 g_b2
  have O6 := O4.wr W6 g_b2
  have K6 : Keep h0 h6 [] := K4.wr W6 (Or.inr sz_b2)
  have V_b2_6 : Arv Z h6 b2 k2 .char (2 : Int32) [(.int (nar .char ((p0 &&& (255 : Int32)).toUInt32.toUInt16.toUInt32.toInt32))), (.int (nar .char ((((p0.toUInt32 >>> ((8 : Int32) &&& 31).toUInt32).toInt32) &&& (255 : Int32)).toUInt32.toUInt16.toUInt32.toInt32)))] (.int (0 : Int32)) := Arv.set Ar5 q5 S5 Nn5 H5 G5 (fits_nar_char _) W6 1 rfl (Nat.le_of_ble_eq_true rfl)
  have f_7 := (((F_value_b1.ext E2).other W4 (Or.inl (Nat.ne_of_lt (Nat.lt_of_lt_of_le A1.lt (Nat.le_of_eq g2.symm))))).other W6 (Or.inl (Nat.ne_of_lt (Nat.lt_of_lt_of_le A1.lt (Nat.le_of_eq g2.symm)))))
  have f_8 := (((F_coder_b1.ext E2).other W4 (Or.inl (Nat.ne_of_lt (Nat.lt_of_lt_of_le A1.lt (Nat.le_of_eq g2.symm))))).other W6 (Or.inl (Nat.ne_of_lt (Nat.lt_of_lt_of_le A1.lt (Nat.le_of_eq g2.symm)))))
  have f_9 := (((F_hash_b1.ext E2).other W4 (Or.inl (Nat.ne_of_lt (Nat.lt_of_lt_of_le A1.lt (Nat.le_of_eq g2.symm))))).other W6 (Or.inl (Nat.ne_of_lt (Nat.lt_of_lt_of_le A1.lt (Nat.le_of_eq g2.symm)))))
  have f_10 := (((F_hashIsZero_b1.ext E2).other W4 (Or.inl (Nat.ne_of_lt (Nat.lt_of_lt_of_le A1.lt (Nat.le_of_eq g2.symm))))).other W6 (Or.inl (Nat.ne_of_lt (Nat.lt_of_lt_of_le A1.lt (Nat.le_of_eq g2.symm)))))
  obtain ⟨_, _, ⟨T11, L11, k11, n11⟩, -, X11, ⟨Lc11, hQ11, l11, y11, z11⟩, st11⟩ := X6.specialBack hx (y := y9) rfl hown (mvT hZ (wq hw 89 rfl)) (mvT hZ (wq hw 90 rfl)) (mvT hZ (wq hw 91 rfl)) (by decide) (backOf (W := 1) (rm10 l Z a0 hw [] cs_v hp b1 b2 k2 (nar .char ((p0 &&& (255 : Int32)).toUInt32.toUInt16.toUInt32.toInt32)) (nar .char ((((p0.toUInt32 >>> ((8 : Int32) &&& 31).toUInt32).toInt32) &&& (255 : Int32)).toUInt32.toUInt16.toUInt32.toInt32)) h6 n0 O6 V_b2_6 (own_ch2 p0) (own_ch2 ((p0.toUInt32 >>> ((8 : Int32) &&& 31).toUInt32).toInt32)) ((EA2.wr W4).wr W6) (((A1.ext E2).wr W4).wr W6) f_7 f_8 f_9 f_10 g_b1) hZ (wq hw 91 rfl) (wq hw 6 rfl) (by decide) (by decide)) (g := (mkF m 46 #[.val (.int p0), .val (.int (fx0 p0)), .val (.int (fx1 p0))] [(.ref b2), (.ref b1), (.ref b1)])) rfl (by rw [hml]; rfl) (Steps.refl _) (a := b1) (argsL := [(.ref b2)]) (rest := [(.ref b1)]) (lenOf pd_8 rfl) rfl (by show 2 * 0 + _ ≤ _; exact Nat.le_of_eq rfl) (hb hby d1_46) (fun _ _ => ⟨rfl, e6, (by decide : 2 + 1 ≤ _), (by decide : 6 + 2 ≤ _)⟩)
  dsimp only [Pt.U, Pt.locs, Pt.cells, Pt.slots] at X11 l11 y11 z11 st11 hQ11
  subst l11 y11 z11
  obtain ⟨b11_0, kc11_0, rfl, Nq11, Kq11, sq_b11_0, fq11_0, fq11_1, fq11_2, fq11_3, fq11_4, fq11_5, fq11_6⟩ := hQ11
  have N11 := Fr.app N6 Nq11
  have sz_b11_0 : h0.size ≤ b11_0 := Nat.le_trans K6.1 sq_b11_0
  have K11 : Keep h0 T11.heap [] := K6.trans Kq11 (allS (Or.inr sz_b1) all0)
  obtain ⟨fs, hr, hrun, hended, hW, hsame⟩ := X11.leave (v := some (.ref b1)) (fun h => by rw [Bd.returns] at h; cases h)
  refine ⟨_, _, castTop (ef_1_0 m p0) ?_, hrun, hended, _, _, rfl, ?_, ⟨_, rfl⟩, hW, hsame.mono (by decide) (by decide)⟩
  · show Sp p e below s₁ (mkF m 0 #[.val (.int p0), .unset, .unset] []) _
    refine XS.iloadN X0.here hx rfl (hb hby d1_0) rfl ?_
    refine XS.sipush X0.here hx rfl (hb hby d1_1) ?_
    refine XS.iand X0.here hx rfl (hb hby d1_4) rfl ?_
    refine XS.i2c X0.here hx rfl (hb hby d1_5) rfl ?_
    refine XS.istoreN X0.here hx rfl (hb hby d1_6) rfl (l' := #[.val (.int p0), .val (.int (fx0 p0)), .unset]) rfl ?_
    refine XS.iloadN X0.here hx rfl (hb hby d1_7) rfl ?_
    refine XS.bipush X0.here hx rfl (hb hby d1_8) ?_
    show Sp p e below s₁ (mkF m 10 #[.val (.int p0), .val (.int (fx0 p0)), .unset] [(.int (8 : Int32)), (.int p0)]) _
    refine XS.iushr X0.here hx rfl (hb hby d1_10) rfl ?_
    refine XS.sipush X0.here hx rfl (hb hby d1_11) ?_
    refine XS.iand X0.here hx rfl (hb hby d1_14) rfl ?_
    refine XS.i2c X0.here hx rfl (hb hby d1_15) rfl ?_
    refine XS.istoreN X0.here hx rfl (hb hby d1_16) rfl (l' := #[.val (.int p0), .val (.int (fx0 p0)), .val (.int (fx1 p0))]) rfl ?_
    refine XS.iloadN X0.here hx rfl (hb hby d1_17) rfl ?_
    refine XS.bipush X0.here hx rfl (hb hby d1_18) ?_
    show Sp p e below s₁ (mkF m 20 #[.val (.int p0), .val (.int (fx0 p0)), .val (.int (fx1 p0))] [(.int (16 : Int32)), (.int p0)]) _
    refine XS.iushr X0.here hx rfl (hb hby d1_20) rfl ?_
    refine XS.iconst X0.here hx rfl (hb hby d1_21) ?_
    refine XS.iand X0.here hx rfl (hb hby d1_22) rfl ?_
    refine XS.ifYes X0.here hx rfl (pc0 := 23) (pc' := 31) rfl (hb hby d1_23) rfl ((if0 _ _).trans (feq hc1).2) (by decide) (by decide) ?_
    show Sp p e below s₁ (mkF m 31 #[.val (.int p0), .val (.int (fx0 p0)), .val (.int (fx1 p0))] []) _
    refine st1 _ ?_
    show Sp p e below T1 (mkF m 34 #[.val (.int p0), .val (.int (fx0 p0)), .val (.int (fx1 p0))] [(.ref b1)]) _
    refine XS.dup X1.here hx rfl (hb hby d1_34) rfl rfl ?_
    refine XS.iconst X1.here hx rfl (hb hby d1_35) ?_
    show Sp p e below T1 (mkF m 36 #[.val (.int p0), .val (.int (fx0 p0)), .val (.int (fx1 p0))] [(.int (2 : Int32)), (.ref b1), (.ref b1)]) _
    refine st2 _ ?_
    show Sp p e below T2 (mkF m 38 #[.val (.int p0), .val (.int (fx0 p0)), .val (.int (fx1 p0))] [(.ref b2), (.ref b1), (.ref b1)]) _
    refine XS.dup X2.here hx rfl (hb hby d1_38) rfl rfl ?_
    refine XS.iconst X2.here hx rfl (hb hby d1_39) ?_
    refine XS.iloadN X2.here hx rfl (hb hby d1_40) rfl ?_
    show Sp p e below T2 (mkF m 41 #[.val (.int p0), .val (.int (fx0 p0)), .val (.int (fx1 p0))] [(.int (fx0 p0)), (.int (0 : Int32)), (.ref b2), (.ref b2), (.ref b1), (.ref b1)]) _
    refine st4 _ ?_
    show Sp p e below T4 (mkF m 42 #[.val (.int p0), .val (.int (fx0 p0)), .val (.int (fx1 p0))] [(.ref b2), (.ref b1), (.ref b1)]) _
    refine XS.dup X4.here hx rfl (hb hby d1_42) rfl rfl ?_
    refine XS.iconst X4.here hx rfl (hb hby d1_43) ?_
    refine XS.iloadN X4.here hx rfl (hb hby d1_44) rfl ?_
    show Sp p e below T4 (mkF m 45 #[.val (.int p0), .val (.int (fx0 p0)), .val (.int (fx1 p0))] [(.int (fx1 p0)), (.int (1 : Int32)), (.ref b2), (.ref b2), (.ref b1), (.ref b1)]) _
    refine st6 _ ?_
    show Sp p e below T6 (mkF m 46 #[.val (.int p0), .val (.int (fx0 p0)), .val (.int (fx1 p0))] [(.ref b2), (.ref b1), (.ref b1)]) _
    refine st11.trans ?_
    show Sp p e below T11 (mkF m 49 #[.val (.int p0), .val (.int (fx0 p0)), .val (.int (fx1 p0))] [(.ref b1)]) _
    jvm_step X11.here [X11.here.top, hx, (hb hby d1_49), X11.method', Bd.returns, Value.isRef, FieldType.isReference]
    first | (intro acts; rw [hr _ acts rfl rfl rfl]) | rw [hr _ _ rfl rfl rfl]
    exact Steps.refl _
  · show Q11 Z cs_v p0 h0 n0 _ T11.heap _
    exact ⟨b1, b11_0, kc11_0, rfl, N11, K11, sz_b1, sz_b11_0, (Nat.ne_of_lt (Nat.lt_of_lt_of_le (((A1.ext E2).wr W4).wr W6).lt sq_b11_0)), fq11_0, fq11_1, fq11_2, fq11_3, fq11_4, fq11_5, fq11_6⟩
def mkV (p0 : Int32) : List Value := if (((p0.toUInt32 >>> ((16 : Int32) &&& 31).toUInt32).toInt32) &&& (1 : Int32)) = (0 : Int32) then [(.int (nar .byte (((p0 &&& (255 : Int32)).toUInt32.toUInt16.toUInt32.toInt32).toInt8.toInt32)))] else [(.int (nar .byte ((nar .char ((p0 &&& (255 : Int32)).toUInt32.toUInt16.toUInt32.toInt32)).toInt8.toInt32))), (.int (nar .byte ((nar .char ((((p0.toUInt32 >>> ((8 : Int32) &&& 31).toUInt32).toInt32) &&& (255 : Int32)).toUInt32.toUInt16.toUInt32.toInt32)).toInt8.toInt32)))]
def QMK (Z : State) (p0 : Int32) (h0 : Heap) (n0 : Nat) (v : Option Value) (h : Heap) (L : List Loc) : Prop := ∃ (b : Addr), v = some (.ref b) ∧ Fr n0 L ∧ Keep h0 h [] ∧ h0.size ≤ b ∧ Exa Z h b "java/lang/String" ∧ StrK Z h b (mkV p0)
set_option maxRecDepth 65536 in
set_option maxHeartbeats 4000000 in
theorem rmMK (l : Launch) (Z : State) (a0 : Array Value) (hw : ∀ d ∈ tables_1, d.before a0 Z = true) (ws : List Jvm.Cond) (cs_v : Int32) (hp : Perm Z cs_v) (p0 : Int32) (h0 : Heap) (n0 : Nat) (O0 : Old Z n0 h0) :
    MetFree l y4 (head1 (Jvm.Cond.code y4 method_2_code 3 (some (.object "java/lang/String")) :: ws) ({ frames := 4, cells := 3, slots := 8, locals := 66 } : Room)) (fun as' U => as' = #[(.int p0)] ∧ Z.Warmed39 U.vm ∧ U.heap = h0) (fun _ _ _ _ _ => True) (fun _ U o U' => ∃ v L, o = .returned v ∧ QMK Z p0 h0 n0 v U'.heap L ∧ FrameEnd U o U' L ({ frames := 4, cells := 3, slots := 8, locals := 66 } : Room).cells ({ frames := 4, cells := 3, slots := 8, locals := 66 } : Room).slots) := by
  by_cases d0 : (((p0.toUInt32 >>> ((16 : Int32) &&& 31).toUInt32).toInt32) &&& (1 : Int32)) = (0 : Int32)
  · skip
    have hV : mkV p0 = [(.int (nar .byte (((p0 &&& (255 : Int32)).toUInt32.toUInt16.toUInt32.toInt32).toInt8.toInt32)))] := by rw [mkV, if_pos d0]
    refine (rm5 l Z a0 hw ws cs_v hp p0 h0 n0 O0 d0).mono (fun _ _ h => h) (fun _ _ _ _ _ h => h) (fun _ s o s' _ ⟨v, L, e, q, f⟩ => ⟨v, L, e, ?_, f⟩)
    obtain ⟨u0, u1, kk0, e1, N1, K1, s_u0, s_u1, ne0, f0, f1, f2, f3, f4, f5, f6⟩ := q
    exact ⟨u0, e1, N1, K1, s_u0, f0, by rw [hV]; exact ⟨u1, kk0, _, _, _, f0, f1, f4, f2, f3, f5, f6, Or.inl rfl, Or.inl rfl, Or.inl ⟨_, rfl, rfl⟩⟩⟩
  · skip
    have hV : mkV p0 = [(.int (nar .byte ((nar .char ((p0 &&& (255 : Int32)).toUInt32.toUInt16.toUInt32.toInt32)).toInt8.toInt32))), (.int (nar .byte ((nar .char ((((p0.toUInt32 >>> ((8 : Int32) &&& 31).toUInt32).toInt32) &&& (255 : Int32)).toUInt32.toUInt16.toUInt32.toInt32)).toInt8.toInt32)))] := by rw [mkV, if_neg d0]
    refine (rm11 l Z a0 hw ws cs_v hp p0 h0 n0 O0 d0).mono (fun _ _ h => h) (fun _ _ _ _ _ h => h) (fun _ s o s' _ ⟨v, L, e, q, f⟩ => ⟨v, L, e, ?_, f⟩)
    obtain ⟨u0, u1, kk0, e1, N1, K1, s_u0, s_u1, ne0, f0, f1, f2, f3, f4, f5, f6⟩ := q
    exact ⟨u0, e1, N1, K1, s_u0, f0, by rw [hV]; exact ⟨u1, kk0, _, _, _, f0, f1, f4, f2, f3, f5, f6, Or.inl rfl, Or.inl rfl, Or.inr ⟨_, _, rfl, rfl⟩⟩⟩
theorem d9_0 : decode jdk_42_method_78_code 0 = .ok (.aload_n 0, 1) := by decide +kernel
theorem d9_1 : decode jdk_42_method_78_code 1 = .ok (.getfield 19, 3) := by decide +kernel
theorem d9_4 : decode jdk_42_method_78_code 4 = .ok (.istore_n 1, 1) := by decide +kernel
theorem d9_5 : decode jdk_42_method_78_code 5 = .ok (.iload_n 1, 1) := by decide +kernel
theorem d9_6 : decode jdk_42_method_78_code 6 = .ok (.ifCond .ne 52, 3) := by decide +kernel
theorem d9_9 : decode jdk_42_method_78_code 9 = .ok (.aload_n 0, 1) := by decide +kernel
theorem d9_10 : decode jdk_42_method_78_code 10 = .ok (.getfield 23, 3) := by decide +kernel
theorem d9_13 : decode jdk_42_method_78_code 13 = .ok (.ifCond .ne 45, 3) := by decide +kernel
theorem d9_16 : decode jdk_42_method_78_code 16 = .ok (.aload_n 0, 1) := by decide +kernel
theorem d9_17 : decode jdk_42_method_78_code 17 = .ok (.invokevirtual 492, 3) := by decide +kernel
theorem d10_0 : decode jdk_42_method_154_code 0 = .ok (.getstatic 38, 3) := by decide +kernel
theorem d10_3 : decode jdk_42_method_154_code 3 = .ok (.ifCond .eq 14, 3) := by decide +kernel
theorem d10_6 : decode jdk_42_method_154_code 6 = .ok (.aload_n 0, 1) := by decide +kernel
theorem d10_7 : decode jdk_42_method_154_code 7 = .ok (.getfield 15, 3) := by decide +kernel
theorem d10_10 : decode jdk_42_method_154_code 10 = .ok (.ifCond .ne 7, 3) := by decide +kernel
theorem d10_13 : decode jdk_42_method_154_code 13 = .ok (.iconst 1, 1) := by decide +kernel
theorem d10_14 : decode jdk_42_method_154_code 14 = .ok (.goto 4, 3) := by decide +kernel
theorem d10_18 : decode jdk_42_method_154_code 18 = .ok (.ireturn, 1) := by decide +kernel
abbrev y10 : MethodName := (⟨"java/lang/String", "isLatin1", "()Z"⟩ : MethodName)
theorem ef_10_0 (m : MethodId) (x0 : Addr) : entryFrame m #[(.ref x0)] 1 = mkF m 0 #[.val (.ref x0)] [] := by first | (simp [entryFrame, mkF, argsToLocals, Value.category]; done) | rfl
def Q12 (Z : State) (cs_v : Int32) (a1 : Addr) (h0 : Heap) (n0 : Nat) (v : Option Value) (h : Heap) (L : List Loc) : Prop := v = some (.int (1 : Int32)) ∧ Fr n0 L ∧ h = h0
theorem rm12 (l : Launch) (Z : State) (a0 : Array Value) (hw : ∀ d ∈ tables_1, d.before a0 Z = true) (ws : List Jvm.Cond) (cs_v : Int32) (hp : Perm Z cs_v) (a1 : Addr) (h0 : Heap) (n0 : Nat) (O0 : Old Z n0 h0) (F_coder_a1 : Fld Z h0 a1 "java/lang/String" "coder" "B" (.int (0 : Int32))) :
    MetFree l y10 (head1 (Jvm.Cond.code y10 jdk_42_method_154_code 1 (some .boolean) :: ws) ({ frames := 0, cells := 0, slots := 0, locals := 0 } : Room)) (fun a U => a = #[(.ref a1)] ∧ Z.Warmed39 U.vm ∧ U.heap = h0) (fun _ _ _ _ _ => True) (fun _ U o U' => ∃ v L, o = .returned v ∧ Q12 Z cs_v a1 h0 n0 v U'.heap L ∧ FrameEnd U o U' L ({ frames := 0, cells := 0, slots := 0, locals := 0 } : Room).cells ({ frames := 0, cells := 0, slots := 0, locals := 0 } : Room).slots) := by
  refine MetFree.of_bodySF (plainFor_of_name pn_5) hisR ?_
  intro p e s m args below meth c s₁ Bd hml0 hP hK
  obtain ⟨rfl, hZ, hh⟩ := hP
  have hx := Bd.exec
  have hby := Bd.bytes
  have hml : c.maxLocals = 1 := hml0
  have hown : s.vm.findClass "java/lang/String" = some m.cls := findClass_of_methodNamed Bd.named
  have hnm := (name_of_methodNamed Bd.named Bd.method).1
  have X0 : Stand p l e ({ frames := 0, cells := 0, slots := 0, locals := 0 } : Room) s m #[(.ref a1)] below meth c s₁ [] 0 0 := Stand.of_body Bd
  have e0 : s₁.heap = h0 := by rw [← hh, Bd.state]; rfl
  have N0 := Fr.nil n0
  have hp' := hp
  obtain ⟨S_COMPACT_STRINGS, h_cs⟩ := hp'
  obtain ⟨T1, X1, e1, st1⟩ := getS2 X0 hx hZ hown (host := "") (Or.inl (wq hw 8 rfl)) Via.refl e0 (S_COMPACT_STRINGS.ext O0.2) (g := (mkF m 0 #[.val (.ref a1)] [])) rfl (hb hby d10_0)
  obtain ⟨T2, X2, e2, st2⟩ := getF X1 hx hZ hown (host := "") (Or.inl (wq hw 28 rfl)) Via.refl e1 F_coder_a1 (g := (mkF m 7 #[.val (.ref a1)] [(.ref a1)])) rfl rfl (hb hby d10_7)
  obtain ⟨fs, hr, hrun, hended, hW, hsame⟩ := X2.leave (v := some (.int (1 : Int32))) (fun h => by rw [Bd.returns] at h; cases h)
  refine ⟨_, _, castTop (ef_10_0 m a1) ?_, hrun, hended, _, _, rfl, ?_, ⟨_, rfl⟩, hW, hsame.mono (by decide) (by decide)⟩
  · show Sp p e below s₁ (mkF m 0 #[.val (.ref a1)] []) _
    refine st1 _ ?_
    show Sp p e below T1 (mkF m 3 #[.val (.ref a1)] [(.int cs_v)]) _
    refine XS.ifNo X1.here hx rfl (hb hby d10_3) rfl ((if0 _ _).trans (feq h_cs).1) ?_
    refine XS.aloadN X1.here hx rfl (hb hby d10_6) rfl rfl ?_
    show Sp p e below T1 (mkF m 7 #[.val (.ref a1)] [(.ref a1)]) _
    refine st2 _ ?_
    show Sp p e below T2 (mkF m 10 #[.val (.ref a1)] [(.int (0 : Int32))]) _
    refine XS.ifNo X2.here hx rfl (hb hby d10_10) rfl ((if0 _ _).trans (teq (by decide : (0 : Int32) = (0 : Int32))).2) ?_
    refine XS.iconst X2.here hx rfl (hb hby d10_13) ?_
    refine XS.goto X2.here hx rfl (pc0 := 14) (pc' := 18) rfl (hb hby d10_14) (by decide) (by decide) ?_
    show Sp p e below T2 (mkF m 18 #[.val (.ref a1)] [(.int (1 : Int32))]) _
    exact retN X2 hx (t := .boolean) Bd.returns (by simp) (hb hby d10_18) hr
  · show Q12 Z cs_v a1 h0 n0 _ T2.heap _
    rw [e2]
    exact ⟨rfl, N0, rfl⟩
theorem pd_9 : parseMethodDescriptor "()Z" = some ⟨[], some .boolean⟩ := by decide +kernel
theorem d9_20 : decode jdk_42_method_78_code 20 = .ok (.ifCond .eq 13, 3) := by decide +kernel
theorem d9_23 : decode jdk_42_method_78_code 23 = .ok (.aload_n 0, 1) := by decide +kernel
theorem d9_24 : decode jdk_42_method_78_code 24 = .ok (.getfield 9, 3) := by decide +kernel
theorem d9_27 : decode jdk_42_method_78_code 27 = .ok (.invokestatic 628, 3) := by decide +kernel
theorem d11_0 : decode jdk_43_method_21_code 0 = .ok (.aload_n 0, 1) := by decide +kernel
theorem d11_1 : decode jdk_43_method_21_code 1 = .ok (.arraylength, 1) := by decide +kernel
theorem d11_2 : decode jdk_43_method_21_code 2 = .ok (.lookupswitch 40 #[(0, 26), (1, 30)], 26) := by decide +kernel
theorem d11_32 : decode jdk_43_method_21_code 32 = .ok (.aload_n 0, 1) := by decide +kernel
theorem d11_33 : decode jdk_43_method_21_code 33 = .ok (.iconst 0, 1) := by decide +kernel
theorem d11_34 : decode jdk_43_method_21_code 34 = .ok (.baload, 1) := by decide +kernel
theorem d11_35 : decode jdk_43_method_21_code 35 = .ok (.sipush 255, 3) := by decide +kernel
theorem d11_38 : decode jdk_43_method_21_code 38 = .ok (.iand, 1) := by decide +kernel
theorem d11_39 : decode jdk_43_method_21_code 39 = .ok (.goto 12, 3) := by decide +kernel
theorem d11_51 : decode jdk_43_method_21_code 51 = .ok (.ireturn, 1) := by decide +kernel
abbrev y11 : MethodName := (⟨"java/lang/StringLatin1", "hashCode", "([B)I"⟩ : MethodName)
theorem ef_11_0 (m : MethodId) (x0 : Addr) : entryFrame m #[(.ref x0)] 1 = mkF m 0 #[.val (.ref x0)] [] := by first | (simp [entryFrame, mkF, argsToLocals, Value.category]; done) | rfl
def Q13 (Z : State) (cs_v : Int32) (a1 : Addr) (k_a1 : ClassId) (p3 : Int32) (h0 : Heap) (n0 : Nat) (v : Option Value) (h : Heap) (L : List Loc) : Prop := v = some (.int (p3 &&& (255 : Int32))) ∧ Fr n0 L ∧ h = h0
theorem rm13 (l : Launch) (Z : State) (a0 : Array Value) (hw : ∀ d ∈ tables_1, d.before a0 Z = true) (ws : List Jvm.Cond) (cs_v : Int32) (hp : Perm Z cs_v) (a1 : Addr) (k_a1 : ClassId) (p3 : Int32) (h0 : Heap) (n0 : Nat) (O0 : Old Z n0 h0) (V_a1 : Arv Z h0 a1 k_a1 .byte (1 : Int32) [(.int p3)] (.int (0 : Int32))) :
    MetFree l y11 (head1 (Jvm.Cond.code y11 jdk_43_method_21_code 1 (some .int) :: ws) ({ frames := 0, cells := 0, slots := 0, locals := 0 } : Room)) (fun a U => a = #[(.ref a1)] ∧ Z.Warmed39 U.vm ∧ U.heap = h0) (fun _ _ _ _ _ => True) (fun _ U o U' => ∃ v L, o = .returned v ∧ Q13 Z cs_v a1 k_a1 p3 h0 n0 v U'.heap L ∧ FrameEnd U o U' L ({ frames := 0, cells := 0, slots := 0, locals := 0 } : Room).cells ({ frames := 0, cells := 0, slots := 0, locals := 0 } : Room).slots) := by
  refine MetFree.of_bodySF (plainFor_of_name pn_3) hisR ?_
  intro p e s m args below meth c s₁ Bd hml0 hP hK
  obtain ⟨rfl, hZ, hh⟩ := hP
  have hx := Bd.exec
  have hby := Bd.bytes
  have hml : c.maxLocals = 1 := hml0
  have hown : s.vm.findClass "java/lang/StringLatin1" = some m.cls := findClass_of_methodNamed Bd.named
  have hnm := (name_of_methodNamed Bd.named Bd.method).1
  have X0 : Stand p l e ({ frames := 0, cells := 0, slots := 0, locals := 0 } : Room) s m #[(.ref a1)] below meth c s₁ [] 0 0 := Stand.of_body Bd
  have e0 : s₁.heap = h0 := by rw [← hh, Bd.state]; rfl
  have N0 := Fr.nil n0
  obtain ⟨cl1, Ar1, -, S1, Nn1, -, -⟩ := id V_a1
  obtain ⟨cl2, Ar2, -, S2, -, H2, -⟩ := id V_a1
  have hin2 : ¬ ((0 : Int32) < 0 ∨ cl2.slots.size ≤ ((0 : Int32)).toNatClampNeg) := inb_of S2 ⟨by decide, by decide⟩
  have hat2 : cl2.slots[((0 : Int32)).toNatClampNeg]? = some (.int p3) := H2.at hin2 rfl
  obtain ⟨fs, hr, hrun, hended, hW, hsame⟩ := X0.leave (v := some (.int (p3 &&& (255 : Int32)))) (fun h => by rw [Bd.returns] at h; cases h)
  refine ⟨_, _, castTop (ef_11_0 m a1) ?_, hrun, hended, _, _, rfl, ?_, ⟨_, rfl⟩, hW, hsame.mono (by decide) (by decide)⟩
  · show Sp p e below s₁ (mkF m 0 #[.val (.ref a1)] []) _
    refine XS.aloadN X0.here hx rfl (hb hby d11_0) rfl rfl ?_
    show Sp p e below s₁ (mkF m 1 #[.val (.ref a1)] [(.ref a1)]) _
    refine X0.arraylength hx (by rw [e0]; exact Ar1.1) (State.isArrayOf_alike hZ.alike Ar1.2.1) (g := (mkF m 1 #[.val (.ref a1)] [(.ref a1)])) rfl rfl (hb hby d11_1) _ ?_
    rw [len_of S1 Nn1]
    show Sp p e below s₁ (mkF m 2 #[.val (.ref a1)] [(.int (1 : Int32))]) _
    refine X0.lookupswitchHit hx (g := (mkF m 2 #[.val (.ref a1)] [(.int (1 : Int32))])) rfl (k := (1 : Int32)) rfl (hb hby d11_2) (by decide) (a := 1) (off := 30) (by decide) (by show (0 : Int) ≤ ((2 : Nat) : Int) + 30; decide) _ ?_
    show Sp p e below s₁ (mkF m 32 #[.val (.ref a1)] []) _
    refine XS.aloadN X0.here hx rfl (hb hby d11_32) rfl rfl ?_
    refine XS.iconst X0.here hx rfl (hb hby d11_33) ?_
    show Sp p e below s₁ (mkF m 34 #[.val (.ref a1)] [(.int (0 : Int32)), (.ref a1)]) _
    refine X0.baloadBytes hx (j := (0 : Int32)) (v := (.int p3)) (by rw [e0]; exact Ar2.1) (State.isArrayOf_alike hZ.alike Ar2.2.1) Ar2.2.2 hin2 hat2 (g := (mkF m 34 #[.val (.ref a1)] [(.int (0 : Int32)), (.ref a1)])) rfl rfl (hb hby d11_34) _ ?_
    show Sp p e below s₁ (mkF m 35 #[.val (.ref a1)] [(.int p3)]) _
    refine XS.sipush X0.here hx rfl (hb hby d11_35) ?_
    refine XS.iand X0.here hx rfl (hb hby d11_38) rfl ?_
    refine XS.goto X0.here hx rfl (pc0 := 39) (pc' := 51) rfl (hb hby d11_39) (by decide) (by decide) ?_
    show Sp p e below s₁ (mkF m 51 #[.val (.ref a1)] [(.int (p3 &&& (255 : Int32)))]) _
    exact retI X0 hx Bd.returns (hb hby d11_51) hr
  · show Q13 Z cs_v a1 k_a1 p3 h0 n0 _ s₁.heap _
    rw [e0]
    exact ⟨rfl, N0, rfl⟩
theorem pd_10 : parseMethodDescriptor "([B)I" = some ⟨[(.array .byte)], some .int⟩ := by decide +kernel
theorem d9_30 : decode jdk_42_method_78_code 30 = .ok (.goto 10, 3) := by decide +kernel
theorem d9_40 : decode jdk_42_method_78_code 40 = .ok (.istore_n 1, 1) := by decide +kernel
theorem d9_41 : decode jdk_42_method_78_code 41 = .ok (.iload_n 1, 1) := by decide +kernel
theorem d9_42 : decode jdk_42_method_78_code 42 = .ok (.ifCond .ne 11, 3) := by decide +kernel
theorem d9_45 : decode jdk_42_method_78_code 45 = .ok (.aload_n 0, 1) := by decide +kernel
theorem d9_46 : decode jdk_42_method_78_code 46 = .ok (.iconst 1, 1) := by decide +kernel
theorem d9_47 : decode jdk_42_method_78_code 47 = .ok (.putfield 23, 3) := by decide +kernel
theorem d9_50 : decode jdk_42_method_78_code 50 = .ok (.goto 8, 3) := by decide +kernel
theorem d9_58 : decode jdk_42_method_78_code 58 = .ok (.iload_n 1, 1) := by decide +kernel
theorem d9_59 : decode jdk_42_method_78_code 59 = .ok (.ireturn, 1) := by decide +kernel
theorem sn6 {Z : State} {a0 : Array Value} (hw : ∀ d ∈ tables_1, d.before a0 Z = true) : Jvm.RoadKit.slotOf Z "java/lang/String" "coder" "B" ≠ Jvm.RoadKit.slotOf Z "java/lang/String" "hashIsZero" "Z" := slot_ne (Or.inr (wq hw 29 rfl)) (Or.inl (wq hw 61 rfl)) (by decide) (t := .byte) (t' := .boolean) (by decide) (by decide)
theorem sn7 {Z : State} {a0 : Array Value} (hw : ∀ d ∈ tables_1, d.before a0 Z = true) : Jvm.RoadKit.slotOf Z "java/lang/String" "hash" "I" ≠ Jvm.RoadKit.slotOf Z "java/lang/String" "hashIsZero" "Z" := slot_ne (Or.inl (wq hw 59 rfl)) (Or.inl (wq hw 61 rfl)) (by decide) (t := .int) (t' := .boolean) (by decide) (by decide)
theorem sn8 {Z : State} {a0 : Array Value} (hw : ∀ d ∈ tables_1, d.before a0 Z = true) : Jvm.RoadKit.slotOf Z "java/lang/String" "value" "[B" ≠ Jvm.RoadKit.slotOf Z "java/lang/String" "hashIsZero" "Z" := slot_ne (Or.inr (wq hw 27 rfl)) (Or.inl (wq hw 61 rfl)) (by decide) (t := (.array .byte)) (t' := .boolean) (by decide) (by decide)
abbrev y12 : MethodName := (⟨"java/lang/String", "hashCode", "()I"⟩ : MethodName)
theorem ef_9_0 (m : MethodId) (x0 : Addr) : entryFrame m #[(.ref x0)] 2 = mkF m 0 #[.val (.ref x0), .unset] [] := by first | (simp [entryFrame, mkF, argsToLocals, Value.category]; done) | rfl
def Q14 (Z : State) (cs_v : Int32) (a1 : Addr) (p2 : Int32) (p3 : Int32) (a4 : Addr) (k_a4 : ClassId) (p6 : Int32) (h0 : Heap) (n0 : Nat) (v : Option Value) (h : Heap) (L : List Loc) : Prop := v = some (.int (p6 &&& (255 : Int32))) ∧ Fr n0 L ∧ Keep h0 h [a1] ∧ Exa Z h a1 "java/lang/String" ∧ Fld Z h a1 "java/lang/String" "coder" "B" (.int (0 : Int32)) ∧ Fld Z h a1 "java/lang/String" "hash" "I" (.int p2) ∧ Fld Z h a1 "java/lang/String" "hashIsZero" "Z" (.int (1 : Int32)) ∧ Fld Z h a1 "java/lang/String" "value" "[B" (.ref a4)
theorem rm14 (l : Launch) (Z : State) (a0 : Array Value) (hw : ∀ d ∈ tables_1, d.before a0 Z = true) (ws : List Jvm.Cond) (cs_v : Int32) (hp : Perm Z cs_v) (a1 : Addr) (p2 : Int32) (p3 : Int32) (a4 : Addr) (k_a4 : ClassId) (p6 : Int32) (h0 : Heap) (n0 : Nat) (O0 : Old Z n0 h0) (F_hash_a1 : Fld Z h0 a1 "java/lang/String" "hash" "I" (.int p2)) (hc2 : p2 = (0 : Int32)) (F_hashIsZero_a1 : Fld Z h0 a1 "java/lang/String" "hashIsZero" "Z" (.int p3)) (hc4 : p3 = (0 : Int32)) (E_a1 : Exa Z h0 a1 "java/lang/String") (F_coder_a1 : Fld Z h0 a1 "java/lang/String" "coder" "B" (.int (0 : Int32))) (F_value_a1 : Fld Z h0 a1 "java/lang/String" "value" "[B" (.ref a4)) (V_a4 : Arv Z h0 a4 k_a4 .byte (1 : Int32) [(.int p6)] (.int (0 : Int32))) (hc9 : (p6 &&& (255 : Int32)) = (0 : Int32)) (g_a1 : n0 ≤ a1) :
    MetFree l y12 (head1 (Jvm.Cond.code y12 jdk_42_method_78_code 2 (some .int) :: ws) ({ frames := 3, cells := 0, slots := 0, locals := 45 } : Room)) (fun a U => a = #[(.ref a1)] ∧ Z.Warmed39 U.vm ∧ U.heap = h0) (fun _ _ _ _ _ => True) (fun _ U o U' => ∃ v L, o = .returned v ∧ Q14 Z cs_v a1 p2 p3 a4 k_a4 p6 h0 n0 v U'.heap L ∧ FrameEnd U o U' L ({ frames := 3, cells := 0, slots := 0, locals := 45 } : Room).cells ({ frames := 3, cells := 0, slots := 0, locals := 45 } : Room).slots) := by
  refine MetFree.of_bodySF (plainFor_of_name pn_5) hisR ?_
  intro p e s m args below meth c s₁ Bd hml0 hP hK
  obtain ⟨rfl, hZ, hh⟩ := hP
  have hx := Bd.exec
  have hby := Bd.bytes
  have hml : c.maxLocals = 2 := hml0
  have hown : s.vm.findClass "java/lang/String" = some m.cls := findClass_of_methodNamed Bd.named
  have hnm := (name_of_methodNamed Bd.named Bd.method).1
  have X0 : Stand p l e ({ frames := 3, cells := 0, slots := 0, locals := 45 } : Room) s m #[(.ref a1)] below meth c s₁ [] 0 0 := Stand.of_body Bd
  have e0 : s₁.heap = h0 := by rw [← hh, Bd.state]; rfl
  have N0 := Fr.nil n0
  obtain ⟨T1, X1, e1, st1⟩ := getF X0 hx hZ hown (host := "") (Or.inl (wq hw 58 rfl)) Via.refl e0 F_hash_a1 (g := (mkF m 1 #[.val (.ref a1), .unset] [(.ref a1)])) rfl rfl (hb hby d9_1)
  obtain ⟨T2, X2, e2, st2⟩ := getF X1 hx hZ hown (host := "") (Or.inl (wq hw 60 rfl)) Via.refl e1 F_hashIsZero_a1 (g := (mkF m 10 #[.val (.ref a1), .val (.int p2)] [(.ref a1)])) rfl rfl (hb hby d9_10)
  obtain ⟨cq3, kq3, q3a, q3b, q3c⟩ := isOf hZ e2 E_a1
  obtain ⟨_, _, ⟨T3, L3, k3, n3⟩, -, X3, ⟨Lc3, hQ3, l3, y3, z3⟩, st3⟩ := X2.virtualBack hx (y := y10) (z := y10) hown (mvT hZ (wq hw 62 rfl)) (mvT hZ (wq hw 63 rfl)) (notFace_of_selects (args := #[]) (mvT hZ (wq hw 65 rfl))) (mvT hZ (wq hw 65 rfl)) (mvT hZ (wq hw 64 rfl)) (by decide) (backOf (W := 0) (rm12 l Z a0 hw [] cs_v hp a1 h0 n0 O0 F_coder_a1) hZ (wq hw 66 rfl) (wq hw 6 rfl) (by decide) (by decide)) q3a q3c (g := (mkF m 17 #[.val (.ref a1), .val (.int p2)] [(.ref a1)])) rfl (by rw [hml]; rfl) (Steps.refl _) (argsL := []) (rest := []) (lenOf pd_9 rfl) rfl (by show 2 * 0 + _ ≤ _; exact Nat.le_of_eq rfl) (hb hby d9_17) (fun _ _ => ⟨rfl, e2, (by decide : 0 + 0 ≤ _), (by decide : 0 + 0 ≤ _)⟩)
  dsimp only [Pt.U, Pt.locs, Pt.cells, Pt.slots] at X3 l3 y3 z3 st3 hQ3
  subst l3 y3 z3
  obtain ⟨rfl, Nq3, eq3⟩ := hQ3
  have N3 := Fr.app N0 Nq3
  obtain ⟨T4, X4, e4, st4⟩ := getF X3 hx hZ hown (host := "") (Or.inl (wq hw 26 rfl)) Via.refl eq3 F_value_a1 (g := (mkF m 24 #[.val (.ref a1), .val (.int p2)] [(.ref a1)])) rfl rfl (hb hby d9_24)
  obtain ⟨_, _, ⟨T5, L5, k5, n5⟩, -, X5, ⟨Lc5, hQ5, l5, y5, z5⟩, st5⟩ := Jvm.LawKit.callS X4 hx (y := y11) hown (mvT hZ (wq hw 67 rfl)) (mvT hZ (wq hw 68 rfl)) (mvT hZ (wq hw 11 rfl)) (mvT hZ (wq hw 69 rfl)) (by decide) (backOf (W := 0) (rm13 l Z a0 hw [] cs_v hp a4 k_a4 p6 h0 n0 O0 V_a4) hZ (wq hw 69 rfl) (wq hw 11 rfl) (by decide) (by decide)) (g := (mkF m 27 #[.val (.ref a1), .val (.int p2)] [(.ref a4)])) rfl (by rw [hml]; rfl) (argsL := [(.ref a4)]) (rest := []) (lenOf pd_10 rfl) rfl (by show 2 * 0 + _ ≤ _; exact Nat.le_of_eq rfl) (hb hby d9_27) (fun _ _ => ⟨rfl, e4, (by decide : 0 + 0 ≤ _), (by decide : 0 + 0 ≤ _)⟩)
  dsimp only [Pt.U, Pt.locs, Pt.cells, Pt.slots] at X5 l5 y5 z5 st5 hQ5
  subst l5 y5 z5
  obtain ⟨rfl, Nq5, eq5⟩ := hQ5
  have N5 := Fr.app N3 Nq5
  obtain ⟨T6, h6, X6, e6, W6, st6⟩ := putFN X5 hx hZ hown (wq hw 60 rfl) Via.refl eq5 F_hashIsZero_a1 E_a1 (Or.inl (wq hw 61 rfl)) (wq hw 14 rfl) (ty := .boolean) (v' := (.int (1 : Int32))) (by decide) rfl rfl (g := (mkF m 47 #[.val (.ref a1), .val (.int (p6 &&& (255 : Int32)))] [(.int (1 : Int32)), (.ref a1)])) rfl rfl (hb hby d9_47)
  have N6 := Fr.snoc X6 N5 g_a1
  have K6 : Keep h0 h6 [a1] := (Keep.refl h0 [a1]).wr W6 (Or.inl (ma 0 rfl))
  have Fw6 := F_hashIsZero_a1.same W6
  obtain ⟨fs, hr, hrun, hended, hW, hsame⟩ := X6.leave (v := some (.int (p6 &&& (255 : Int32)))) (fun h => by rw [Bd.returns] at h; cases h)
  refine ⟨_, _, castTop (ef_9_0 m a1) ?_, hrun, hended, _, _, rfl, ?_, ⟨_, rfl⟩, hW, hsame.mono (by decide) (by decide)⟩
  · show Sp p e below s₁ (mkF m 0 #[.val (.ref a1), .unset] []) _
    refine XS.aloadN X0.here hx rfl (hb hby d9_0) rfl rfl ?_
    show Sp p e below s₁ (mkF m 1 #[.val (.ref a1), .unset] [(.ref a1)]) _
    refine st1 _ ?_
    show Sp p e below T1 (mkF m 4 #[.val (.ref a1), .unset] [(.int p2)]) _
    refine XS.istoreN X1.here hx rfl (hb hby d9_4) rfl (l' := #[.val (.ref a1), .val (.int p2)]) rfl ?_
    refine XS.iloadN X1.here hx rfl (hb hby d9_5) rfl ?_
    refine XS.ifNo X1.here hx rfl (hb hby d9_6) rfl ((if0 _ _).trans (teq hc2).2) ?_
    refine XS.aloadN X1.here hx rfl (hb hby d9_9) rfl rfl ?_
    show Sp p e below T1 (mkF m 10 #[.val (.ref a1), .val (.int p2)] [(.ref a1)]) _
    refine st2 _ ?_
    show Sp p e below T2 (mkF m 13 #[.val (.ref a1), .val (.int p2)] [(.int p3)]) _
    refine XS.ifNo X2.here hx rfl (hb hby d9_13) rfl ((if0 _ _).trans (teq hc4).2) ?_
    refine XS.aloadN X2.here hx rfl (hb hby d9_16) rfl rfl ?_
    show Sp p e below T2 (mkF m 17 #[.val (.ref a1), .val (.int p2)] [(.ref a1)]) _
    refine st3.trans ?_
    show Sp p e below T3 (mkF m 20 #[.val (.ref a1), .val (.int p2)] [(.int (1 : Int32))]) _
    refine XS.ifNo X3.here hx rfl (hb hby d9_20) rfl ((if0 _ _).trans (feq (by decide : ¬ ((1 : Int32) = (0 : Int32)))).1) ?_
    refine XS.aloadN X3.here hx rfl (hb hby d9_23) rfl rfl ?_
    show Sp p e below T3 (mkF m 24 #[.val (.ref a1), .val (.int p2)] [(.ref a1)]) _
    refine st4 _ ?_
    show Sp p e below T4 (mkF m 27 #[.val (.ref a1), .val (.int p2)] [(.ref a4)]) _
    refine st5 _ ?_
    show Sp p e below T5 (mkF m 30 #[.val (.ref a1), .val (.int p2)] [(.int (p6 &&& (255 : Int32)))]) _
    refine XS.goto X5.here hx rfl (pc0 := 30) (pc' := 40) rfl (hb hby d9_30) (by decide) (by decide) ?_
    refine XS.istoreN X5.here hx rfl (hb hby d9_40) rfl (l' := #[.val (.ref a1), .val (.int (p6 &&& (255 : Int32)))]) rfl ?_
    refine XS.iloadN X5.here hx rfl (hb hby d9_41) rfl ?_
    refine XS.ifNo X5.here hx rfl (hb hby d9_42) rfl ((if0 _ _).trans (teq hc9).2) ?_
    refine XS.aloadN X5.here hx rfl (hb hby d9_45) rfl rfl ?_
    refine XS.iconst X5.here hx rfl (hb hby d9_46) ?_
    show Sp p e below T5 (mkF m 47 #[.val (.ref a1), .val (.int (p6 &&& (255 : Int32)))] [(.int (1 : Int32)), (.ref a1)]) _
    refine st6 _ ?_
    show Sp p e below T6 (mkF m 50 #[.val (.ref a1), .val (.int (p6 &&& (255 : Int32)))] []) _
    refine XS.goto X6.here hx rfl (pc0 := 50) (pc' := 58) rfl (hb hby d9_50) (by decide) (by decide) ?_
    refine XS.iloadN X6.here hx rfl (hb hby d9_58) rfl ?_
    show Sp p e below T6 (mkF m 59 #[.val (.ref a1), .val (.int (p6 &&& (255 : Int32)))] [(.int (p6 &&& (255 : Int32)))]) _
    exact retI X6 hx Bd.returns (hb hby d9_59) hr
  · show Q14 Z cs_v a1 p2 p3 a4 k_a4 p6 h0 n0 _ T6.heap _
    rw [e6]
    exact ⟨rfl, N6, K6, (E_a1.wr W6), (F_coder_a1.other W6 (Or.inr (sn6 hw))), (F_hash_a1.other W6 (Or.inr (sn7 hw))), Fw6, (F_value_a1.other W6 (Or.inr (sn8 hw)))⟩
def Q15 (Z : State) (cs_v : Int32) (a1 : Addr) (p2 : Int32) (h0 : Heap) (n0 : Nat) (v : Option Value) (h : Heap) (L : List Loc) : Prop := v = some (.int p2) ∧ Fr n0 L ∧ h = h0
theorem rm15 (l : Launch) (Z : State) (a0 : Array Value) (hw : ∀ d ∈ tables_1, d.before a0 Z = true) (ws : List Jvm.Cond) (cs_v : Int32) (hp : Perm Z cs_v) (a1 : Addr) (p2 : Int32) (h0 : Heap) (n0 : Nat) (O0 : Old Z n0 h0) (F_hash_a1 : Fld Z h0 a1 "java/lang/String" "hash" "I" (.int p2)) (hc2 : ¬ (p2 = (0 : Int32))) :
    MetFree l y12 (head1 (Jvm.Cond.code y12 jdk_42_method_78_code 2 (some .int) :: ws) ({ frames := 3, cells := 0, slots := 0, locals := 45 } : Room)) (fun a U => a = #[(.ref a1)] ∧ Z.Warmed39 U.vm ∧ U.heap = h0) (fun _ _ _ _ _ => True) (fun _ U o U' => ∃ v L, o = .returned v ∧ Q15 Z cs_v a1 p2 h0 n0 v U'.heap L ∧ FrameEnd U o U' L ({ frames := 3, cells := 0, slots := 0, locals := 45 } : Room).cells ({ frames := 3, cells := 0, slots := 0, locals := 45 } : Room).slots) := by
  refine MetFree.of_bodySF (plainFor_of_name pn_5) hisR ?_
  intro p e s m args below meth c s₁ Bd hml0 hP hK
  obtain ⟨rfl, hZ, hh⟩ := hP
  have hx := Bd.exec
  have hby := Bd.bytes
  have hml : c.maxLocals = 2 := hml0
  have hown : s.vm.findClass "java/lang/String" = some m.cls := findClass_of_methodNamed Bd.named
  have hnm := (name_of_methodNamed Bd.named Bd.method).1
  have X0 : Stand p l e ({ frames := 3, cells := 0, slots := 0, locals := 45 } : Room) s m #[(.ref a1)] below meth c s₁ [] 0 0 := Stand.of_body Bd
  have e0 : s₁.heap = h0 := by rw [← hh, Bd.state]; rfl
  have N0 := Fr.nil n0
  obtain ⟨T1, X1, e1, st1⟩ := getF X0 hx hZ hown (host := "") (Or.inl (wq hw 58 rfl)) Via.refl e0 F_hash_a1 (g := (mkF m 1 #[.val (.ref a1), .unset] [(.ref a1)])) rfl rfl (hb hby d9_1)
  obtain ⟨fs, hr, hrun, hended, hW, hsame⟩ := X1.leave (v := some (.int p2)) (fun h => by rw [Bd.returns] at h; cases h)
  refine ⟨_, _, castTop (ef_9_0 m a1) ?_, hrun, hended, _, _, rfl, ?_, ⟨_, rfl⟩, hW, hsame.mono (by decide) (by decide)⟩
  · show Sp p e below s₁ (mkF m 0 #[.val (.ref a1), .unset] []) _
    refine XS.aloadN X0.here hx rfl (hb hby d9_0) rfl rfl ?_
    show Sp p e below s₁ (mkF m 1 #[.val (.ref a1), .unset] [(.ref a1)]) _
    refine st1 _ ?_
    show Sp p e below T1 (mkF m 4 #[.val (.ref a1), .unset] [(.int p2)]) _
    refine XS.istoreN X1.here hx rfl (hb hby d9_4) rfl (l' := #[.val (.ref a1), .val (.int p2)]) rfl ?_
    refine XS.iloadN X1.here hx rfl (hb hby d9_5) rfl ?_
    refine XS.ifYes X1.here hx rfl (pc0 := 6) (pc' := 58) rfl (hb hby d9_6) rfl ((if0 _ _).trans (feq hc2).2) (by decide) (by decide) ?_
    refine XS.iloadN X1.here hx rfl (hb hby d9_58) rfl ?_
    show Sp p e below T1 (mkF m 59 #[.val (.ref a1), .val (.int p2)] [(.int p2)]) _
    exact retI X1 hx Bd.returns (hb hby d9_59) hr
  · show Q15 Z cs_v a1 p2 h0 n0 _ T1.heap _
    rw [e1]
    exact ⟨rfl, N0, rfl⟩
def Q16 (Z : State) (cs_v : Int32) (a1 : Addr) (p2 : Int32) (p3 : Int32) (h0 : Heap) (n0 : Nat) (v : Option Value) (h : Heap) (L : List Loc) : Prop := v = some (.int p2) ∧ Fr n0 L ∧ h = h0
theorem rm16 (l : Launch) (Z : State) (a0 : Array Value) (hw : ∀ d ∈ tables_1, d.before a0 Z = true) (ws : List Jvm.Cond) (cs_v : Int32) (hp : Perm Z cs_v) (a1 : Addr) (p2 : Int32) (p3 : Int32) (h0 : Heap) (n0 : Nat) (O0 : Old Z n0 h0) (F_hash_a1 : Fld Z h0 a1 "java/lang/String" "hash" "I" (.int p2)) (hc2 : p2 = (0 : Int32)) (F_hashIsZero_a1 : Fld Z h0 a1 "java/lang/String" "hashIsZero" "Z" (.int p3)) (hc4 : ¬ (p3 = (0 : Int32))) :
    MetFree l y12 (head1 (Jvm.Cond.code y12 jdk_42_method_78_code 2 (some .int) :: ws) ({ frames := 3, cells := 0, slots := 0, locals := 45 } : Room)) (fun a U => a = #[(.ref a1)] ∧ Z.Warmed39 U.vm ∧ U.heap = h0) (fun _ _ _ _ _ => True) (fun _ U o U' => ∃ v L, o = .returned v ∧ Q16 Z cs_v a1 p2 p3 h0 n0 v U'.heap L ∧ FrameEnd U o U' L ({ frames := 3, cells := 0, slots := 0, locals := 45 } : Room).cells ({ frames := 3, cells := 0, slots := 0, locals := 45 } : Room).slots) := by
  refine MetFree.of_bodySF (plainFor_of_name pn_5) hisR ?_
  intro p e s m args below meth c s₁ Bd hml0 hP hK
  obtain ⟨rfl, hZ, hh⟩ := hP
  have hx := Bd.exec
  have hby := Bd.bytes
  have hml : c.maxLocals = 2 := hml0
  have hown : s.vm.findClass "java/lang/String" = some m.cls := findClass_of_methodNamed Bd.named
  have hnm := (name_of_methodNamed Bd.named Bd.method).1
  have X0 : Stand p l e ({ frames := 3, cells := 0, slots := 0, locals := 45 } : Room) s m #[(.ref a1)] below meth c s₁ [] 0 0 := Stand.of_body Bd
  have e0 : s₁.heap = h0 := by rw [← hh, Bd.state]; rfl
  have N0 := Fr.nil n0
  obtain ⟨T1, X1, e1, st1⟩ := getF X0 hx hZ hown (host := "") (Or.inl (wq hw 58 rfl)) Via.refl e0 F_hash_a1 (g := (mkF m 1 #[.val (.ref a1), .unset] [(.ref a1)])) rfl rfl (hb hby d9_1)
  obtain ⟨T2, X2, e2, st2⟩ := getF X1 hx hZ hown (host := "") (Or.inl (wq hw 60 rfl)) Via.refl e1 F_hashIsZero_a1 (g := (mkF m 10 #[.val (.ref a1), .val (.int p2)] [(.ref a1)])) rfl rfl (hb hby d9_10)
  obtain ⟨fs, hr, hrun, hended, hW, hsame⟩ := X2.leave (v := some (.int p2)) (fun h => by rw [Bd.returns] at h; cases h)
  refine ⟨_, _, castTop (ef_9_0 m a1) ?_, hrun, hended, _, _, rfl, ?_, ⟨_, rfl⟩, hW, hsame.mono (by decide) (by decide)⟩
  · show Sp p e below s₁ (mkF m 0 #[.val (.ref a1), .unset] []) _
    refine XS.aloadN X0.here hx rfl (hb hby d9_0) rfl rfl ?_
    show Sp p e below s₁ (mkF m 1 #[.val (.ref a1), .unset] [(.ref a1)]) _
    refine st1 _ ?_
    show Sp p e below T1 (mkF m 4 #[.val (.ref a1), .unset] [(.int p2)]) _
    refine XS.istoreN X1.here hx rfl (hb hby d9_4) rfl (l' := #[.val (.ref a1), .val (.int p2)]) rfl ?_
    refine XS.iloadN X1.here hx rfl (hb hby d9_5) rfl ?_
    refine XS.ifNo X1.here hx rfl (hb hby d9_6) rfl ((if0 _ _).trans (teq hc2).2) ?_
    refine XS.aloadN X1.here hx rfl (hb hby d9_9) rfl rfl ?_
    show Sp p e below T1 (mkF m 10 #[.val (.ref a1), .val (.int p2)] [(.ref a1)]) _
    refine st2 _ ?_
    show Sp p e below T2 (mkF m 13 #[.val (.ref a1), .val (.int p2)] [(.int p3)]) _
    refine XS.ifYes X2.here hx rfl (pc0 := 13) (pc' := 58) rfl (hb hby d9_13) rfl ((if0 _ _).trans (feq hc4).2) (by decide) (by decide) ?_
    refine XS.iloadN X2.here hx rfl (hb hby d9_58) rfl ?_
    show Sp p e below T2 (mkF m 59 #[.val (.ref a1), .val (.int p2)] [(.int p2)]) _
    exact retI X2 hx Bd.returns (hb hby d9_59) hr
  · show Q16 Z cs_v a1 p2 p3 h0 n0 _ T2.heap _
    rw [e2]
    exact ⟨rfl, N0, rfl⟩
theorem d9_53 : decode jdk_42_method_78_code 53 = .ok (.aload_n 0, 1) := by decide +kernel
theorem d9_54 : decode jdk_42_method_78_code 54 = .ok (.iload_n 1, 1) := by decide +kernel
theorem d9_55 : decode jdk_42_method_78_code 55 = .ok (.putfield 19, 3) := by decide +kernel
theorem sn9 {Z : State} {a0 : Array Value} (hw : ∀ d ∈ tables_1, d.before a0 Z = true) : Jvm.RoadKit.slotOf Z "java/lang/String" "coder" "B" ≠ Jvm.RoadKit.slotOf Z "java/lang/String" "hash" "I" := slot_ne (Or.inr (wq hw 29 rfl)) (Or.inl (wq hw 59 rfl)) (by decide) (t := .byte) (t' := .int) (by decide) (by decide)
theorem sn10 {Z : State} {a0 : Array Value} (hw : ∀ d ∈ tables_1, d.before a0 Z = true) : Jvm.RoadKit.slotOf Z "java/lang/String" "hashIsZero" "Z" ≠ Jvm.RoadKit.slotOf Z "java/lang/String" "hash" "I" := slot_ne (Or.inl (wq hw 61 rfl)) (Or.inl (wq hw 59 rfl)) (by decide) (t := .boolean) (t' := .int) (by decide) (by decide)
theorem sn11 {Z : State} {a0 : Array Value} (hw : ∀ d ∈ tables_1, d.before a0 Z = true) : Jvm.RoadKit.slotOf Z "java/lang/String" "value" "[B" ≠ Jvm.RoadKit.slotOf Z "java/lang/String" "hash" "I" := slot_ne (Or.inr (wq hw 27 rfl)) (Or.inl (wq hw 59 rfl)) (by decide) (t := (.array .byte)) (t' := .int) (by decide) (by decide)
def Q17 (Z : State) (cs_v : Int32) (a1 : Addr) (p2 : Int32) (p3 : Int32) (a4 : Addr) (k_a4 : ClassId) (p6 : Int32) (h0 : Heap) (n0 : Nat) (v : Option Value) (h : Heap) (L : List Loc) : Prop := v = some (.int (p6 &&& (255 : Int32))) ∧ Fr n0 L ∧ Keep h0 h [a1] ∧ Exa Z h a1 "java/lang/String" ∧ Fld Z h a1 "java/lang/String" "coder" "B" (.int (0 : Int32)) ∧ Fld Z h a1 "java/lang/String" "hash" "I" (.int (p6 &&& (255 : Int32))) ∧ Fld Z h a1 "java/lang/String" "hashIsZero" "Z" (.int p3) ∧ Fld Z h a1 "java/lang/String" "value" "[B" (.ref a4)
theorem rm17 (l : Launch) (Z : State) (a0 : Array Value) (hw : ∀ d ∈ tables_1, d.before a0 Z = true) (ws : List Jvm.Cond) (cs_v : Int32) (hp : Perm Z cs_v) (a1 : Addr) (p2 : Int32) (p3 : Int32) (a4 : Addr) (k_a4 : ClassId) (p6 : Int32) (h0 : Heap) (n0 : Nat) (O0 : Old Z n0 h0) (F_hash_a1 : Fld Z h0 a1 "java/lang/String" "hash" "I" (.int p2)) (hc2 : p2 = (0 : Int32)) (F_hashIsZero_a1 : Fld Z h0 a1 "java/lang/String" "hashIsZero" "Z" (.int p3)) (hc4 : p3 = (0 : Int32)) (E_a1 : Exa Z h0 a1 "java/lang/String") (F_coder_a1 : Fld Z h0 a1 "java/lang/String" "coder" "B" (.int (0 : Int32))) (F_value_a1 : Fld Z h0 a1 "java/lang/String" "value" "[B" (.ref a4)) (V_a4 : Arv Z h0 a4 k_a4 .byte (1 : Int32) [(.int p6)] (.int (0 : Int32))) (hc9 : ¬ ((p6 &&& (255 : Int32)) = (0 : Int32))) (g_a1 : n0 ≤ a1) :
    MetFree l y12 (head1 (Jvm.Cond.code y12 jdk_42_method_78_code 2 (some .int) :: ws) ({ frames := 3, cells := 0, slots := 0, locals := 45 } : Room)) (fun a U => a = #[(.ref a1)] ∧ Z.Warmed39 U.vm ∧ U.heap = h0) (fun _ _ _ _ _ => True) (fun _ U o U' => ∃ v L, o = .returned v ∧ Q17 Z cs_v a1 p2 p3 a4 k_a4 p6 h0 n0 v U'.heap L ∧ FrameEnd U o U' L ({ frames := 3, cells := 0, slots := 0, locals := 45 } : Room).cells ({ frames := 3, cells := 0, slots := 0, locals := 45 } : Room).slots) := by
  refine MetFree.of_bodySF (plainFor_of_name pn_5) hisR ?_
  intro p e s m args below meth c s₁ Bd hml0 hP hK
  obtain ⟨rfl, hZ, hh⟩ := hP
  have hx := Bd.exec
  have hby := Bd.bytes
  have hml : c.maxLocals = 2 := hml0
  have hown : s.vm.findClass "java/lang/String" = some m.cls := findClass_of_methodNamed Bd.named
  have hnm := (name_of_methodNamed Bd.named Bd.method).1
  have X0 : Stand p l e ({ frames := 3, cells := 0, slots := 0, locals := 45 } : Room) s m #[(.ref a1)] below meth c s₁ [] 0 0 := Stand.of_body Bd
  have e0 : s₁.heap = h0 := by rw [← hh, Bd.state]; rfl
  have N0 := Fr.nil n0
  obtain ⟨T1, X1, e1, st1⟩ := getF X0 hx hZ hown (host := "") (Or.inl (wq hw 58 rfl)) Via.refl e0 F_hash_a1 (g := (mkF m 1 #[.val (.ref a1), .unset] [(.ref a1)])) rfl rfl (hb hby d9_1)
  obtain ⟨T2, X2, e2, st2⟩ := getF X1 hx hZ hown (host := "") (Or.inl (wq hw 60 rfl)) Via.refl e1 F_hashIsZero_a1 (g := (mkF m 10 #[.val (.ref a1), .val (.int p2)] [(.ref a1)])) rfl rfl (hb hby d9_10)
  obtain ⟨cq3, kq3, q3a, q3b, q3c⟩ := isOf hZ e2 E_a1
  obtain ⟨_, _, ⟨T3, L3, k3, n3⟩, -, X3, ⟨Lc3, hQ3, l3, y3, z3⟩, st3⟩ := X2.virtualBack hx (y := y10) (z := y10) hown (mvT hZ (wq hw 62 rfl)) (mvT hZ (wq hw 63 rfl)) (notFace_of_selects (args := #[]) (mvT hZ (wq hw 65 rfl))) (mvT hZ (wq hw 65 rfl)) (mvT hZ (wq hw 64 rfl)) (by decide) (backOf (W := 0) (rm12 l Z a0 hw [] cs_v hp a1 h0 n0 O0 F_coder_a1) hZ (wq hw 66 rfl) (wq hw 6 rfl) (by decide) (by decide)) q3a q3c (g := (mkF m 17 #[.val (.ref a1), .val (.int p2)] [(.ref a1)])) rfl (by rw [hml]; rfl) (Steps.refl _) (argsL := []) (rest := []) (lenOf pd_9 rfl) rfl (by show 2 * 0 + _ ≤ _; exact Nat.le_of_eq rfl) (hb hby d9_17) (fun _ _ => ⟨rfl, e2, (by decide : 0 + 0 ≤ _), (by decide : 0 + 0 ≤ _)⟩)
  dsimp only [Pt.U, Pt.locs, Pt.cells, Pt.slots] at X3 l3 y3 z3 st3 hQ3
  subst l3 y3 z3
  obtain ⟨rfl, Nq3, eq3⟩ := hQ3
  have N3 := Fr.app N0 Nq3
  obtain ⟨T4, X4, e4, st4⟩ := getF X3 hx hZ hown (host := "") (Or.inl (wq hw 26 rfl)) Via.refl eq3 F_value_a1 (g := (mkF m 24 #[.val (.ref a1), .val (.int p2)] [(.ref a1)])) rfl rfl (hb hby d9_24)
  obtain ⟨_, _, ⟨T5, L5, k5, n5⟩, -, X5, ⟨Lc5, hQ5, l5, y5, z5⟩, st5⟩ := Jvm.LawKit.callS X4 hx (y := y11) hown (mvT hZ (wq hw 67 rfl)) (mvT hZ (wq hw 68 rfl)) (mvT hZ (wq hw 11 rfl)) (mvT hZ (wq hw 69 rfl)) (by decide) (backOf (W := 0) (rm13 l Z a0 hw [] cs_v hp a4 k_a4 p6 h0 n0 O0 V_a4) hZ (wq hw 69 rfl) (wq hw 11 rfl) (by decide) (by decide)) (g := (mkF m 27 #[.val (.ref a1), .val (.int p2)] [(.ref a4)])) rfl (by rw [hml]; rfl) (argsL := [(.ref a4)]) (rest := []) (lenOf pd_10 rfl) rfl (by show 2 * 0 + _ ≤ _; exact Nat.le_of_eq rfl) (hb hby d9_27) (fun _ _ => ⟨rfl, e4, (by decide : 0 + 0 ≤ _), (by decide : 0 + 0 ≤ _)⟩)
  dsimp only [Pt.U, Pt.locs, Pt.cells, Pt.slots] at X5 l5 y5 z5 st5 hQ5
  subst l5 y5 z5
  obtain ⟨rfl, Nq5, eq5⟩ := hQ5
  have N5 := Fr.app N3 Nq5
  obtain ⟨T6, h6, X6, e6, W6, st6⟩ := putF X5 hx hZ hown (host := "") (Or.inl (wq hw 58 rfl)) Via.refl eq5 F_hash_a1 E_a1 (Or.inl (wq hw 59 rfl)) (wq hw 14 rfl) (ty := .int) (by decide) rfl rfl (g := (mkF m 55 #[.val (.ref a1), .val (.int (p6 &&& (255 : Int32)))] [(.int (p6 &&& (255 : Int32))), (.ref a1)])) rfl rfl (hb hby d9_55)
  have N6 := Fr.snoc X6 N5 g_a1
  have K6 : Keep h0 h6 [a1] := (Keep.refl h0 [a1]).wr W6 (Or.inl (ma 0 rfl))
  have Fw6 := F_hash_a1.same W6
  obtain ⟨fs, hr, hrun, hended, hW, hsame⟩ := X6.leave (v := some (.int (p6 &&& (255 : Int32)))) (fun h => by rw [Bd.returns] at h; cases h)
  refine ⟨_, _, castTop (ef_9_0 m a1) ?_, hrun, hended, _, _, rfl, ?_, ⟨_, rfl⟩, hW, hsame.mono (by decide) (by decide)⟩
  · show Sp p e below s₁ (mkF m 0 #[.val (.ref a1), .unset] []) _
    refine XS.aloadN X0.here hx rfl (hb hby d9_0) rfl rfl ?_
    show Sp p e below s₁ (mkF m 1 #[.val (.ref a1), .unset] [(.ref a1)]) _
    refine st1 _ ?_
    show Sp p e below T1 (mkF m 4 #[.val (.ref a1), .unset] [(.int p2)]) _
    refine XS.istoreN X1.here hx rfl (hb hby d9_4) rfl (l' := #[.val (.ref a1), .val (.int p2)]) rfl ?_
    refine XS.iloadN X1.here hx rfl (hb hby d9_5) rfl ?_
    refine XS.ifNo X1.here hx rfl (hb hby d9_6) rfl ((if0 _ _).trans (teq hc2).2) ?_
    refine XS.aloadN X1.here hx rfl (hb hby d9_9) rfl rfl ?_
    show Sp p e below T1 (mkF m 10 #[.val (.ref a1), .val (.int p2)] [(.ref a1)]) _
    refine st2 _ ?_
    show Sp p e below T2 (mkF m 13 #[.val (.ref a1), .val (.int p2)] [(.int p3)]) _
    refine XS.ifNo X2.here hx rfl (hb hby d9_13) rfl ((if0 _ _).trans (teq hc4).2) ?_
    refine XS.aloadN X2.here hx rfl (hb hby d9_16) rfl rfl ?_
    show Sp p e below T2 (mkF m 17 #[.val (.ref a1), .val (.int p2)] [(.ref a1)]) _
    refine st3.trans ?_
    show Sp p e below T3 (mkF m 20 #[.val (.ref a1), .val (.int p2)] [(.int (1 : Int32))]) _
    refine XS.ifNo X3.here hx rfl (hb hby d9_20) rfl ((if0 _ _).trans (feq (by decide : ¬ ((1 : Int32) = (0 : Int32)))).1) ?_
    refine XS.aloadN X3.here hx rfl (hb hby d9_23) rfl rfl ?_
    show Sp p e below T3 (mkF m 24 #[.val (.ref a1), .val (.int p2)] [(.ref a1)]) _
    refine st4 _ ?_
    show Sp p e below T4 (mkF m 27 #[.val (.ref a1), .val (.int p2)] [(.ref a4)]) _
    refine st5 _ ?_
    show Sp p e below T5 (mkF m 30 #[.val (.ref a1), .val (.int p2)] [(.int (p6 &&& (255 : Int32)))]) _
    refine XS.goto X5.here hx rfl (pc0 := 30) (pc' := 40) rfl (hb hby d9_30) (by decide) (by decide) ?_
    refine XS.istoreN X5.here hx rfl (hb hby d9_40) rfl (l' := #[.val (.ref a1), .val (.int (p6 &&& (255 : Int32)))]) rfl ?_
    refine XS.iloadN X5.here hx rfl (hb hby d9_41) rfl ?_
    refine XS.ifYes X5.here hx rfl (pc0 := 42) (pc' := 53) rfl (hb hby d9_42) rfl ((if0 _ _).trans (feq hc9).2) (by decide) (by decide) ?_
    refine XS.aloadN X5.here hx rfl (hb hby d9_53) rfl rfl ?_
    refine XS.iloadN X5.here hx rfl (hb hby d9_54) rfl ?_
    show Sp p e below T5 (mkF m 55 #[.val (.ref a1), .val (.int (p6 &&& (255 : Int32)))] [(.int (p6 &&& (255 : Int32))), (.ref a1)]) _
    refine st6 _ ?_
    show Sp p e below T6 (mkF m 58 #[.val (.ref a1), .val (.int (p6 &&& (255 : Int32)))] []) _
    refine XS.iloadN X6.here hx rfl (hb hby d9_58) rfl ?_
    show Sp p e below T6 (mkF m 59 #[.val (.ref a1), .val (.int (p6 &&& (255 : Int32)))] [(.int (p6 &&& (255 : Int32)))]) _
    exact retI X6 hx Bd.returns (hb hby d9_59) hr
  · show Q17 Z cs_v a1 p2 p3 a4 k_a4 p6 h0 n0 _ T6.heap _
    rw [e6]
    exact ⟨rfl, N6, K6, (E_a1.wr W6), (F_coder_a1.other W6 (Or.inr (sn9 hw))), Fw6, (F_hashIsZero_a1.other W6 (Or.inr (sn10 hw))), (F_value_a1.other W6 (Or.inr (sn11 hw)))⟩
theorem d11_42 : decode jdk_43_method_21_code 42 = .ok (.aload_n 0, 1) := by decide +kernel
theorem d11_43 : decode jdk_43_method_21_code 43 = .ok (.iconst 0, 1) := by decide +kernel
theorem d11_44 : decode jdk_43_method_21_code 44 = .ok (.aload_n 0, 1) := by decide +kernel
theorem d11_45 : decode jdk_43_method_21_code 45 = .ok (.arraylength, 1) := by decide +kernel
theorem d11_46 : decode jdk_43_method_21_code 46 = .ok (.iconst 0, 1) := by decide +kernel
theorem d11_47 : decode jdk_43_method_21_code 47 = .ok (.iconst 4, 1) := by decide +kernel
theorem d11_48 : decode jdk_43_method_21_code 48 = .ok (.invokestatic 84, 3) := by decide +kernel
theorem d20_0 : decode jdk_48_method_4_code 0 = .ok (.iload 4, 2) := by decide +kernel
theorem d20_2 : decode jdk_48_method_4_code 2 = .ok (.tableswitch 127 4 10 #[42, 55, 127, 127, 88, 101, 114], 42) := by decide +kernel
theorem d20_44 : decode jdk_48_method_4_code 44 = .ok (.iload_n 3, 1) := by decide +kernel
theorem d20_45 : decode jdk_48_method_4_code 45 = .ok (.aload_n 0, 1) := by decide +kernel
theorem d20_46 : decode jdk_48_method_4_code 46 = .ok (.checkcast 60, 3) := by decide +kernel
theorem d20_49 : decode jdk_48_method_4_code 49 = .ok (.iload_n 1, 1) := by decide +kernel
theorem d20_50 : decode jdk_48_method_4_code 50 = .ok (.iload_n 2, 1) := by decide +kernel
theorem d20_51 : decode jdk_48_method_4_code 51 = .ok (.invokestatic 62, 3) := by decide +kernel
theorem d21_0 : decode jdk_48_method_5_code 0 = .ok (.iload_n 2, 1) := by decide +kernel
theorem d21_1 : decode jdk_48_method_5_code 1 = .ok (.iload_n 3, 1) := by decide +kernel
theorem d21_2 : decode jdk_48_method_5_code 2 = .ok (.iadd, 1) := by decide +kernel
theorem d21_3 : decode jdk_48_method_5_code 3 = .ok (.istore 4, 2) := by decide +kernel
abbrev fx5 : Int32 := ((0 : Int32) + (2 : Int32))
theorem d21_5 : decode jdk_48_method_5_code 5 = .ok (.iload_n 2, 1) := by decide +kernel
theorem d21_6 : decode jdk_48_method_5_code 6 = .ok (.istore 5, 2) := by decide +kernel
theorem d21_8 : decode jdk_48_method_5_code 8 = .ok (.iload 5, 2) := by decide +kernel
theorem d21_10 : decode jdk_48_method_5_code 10 = .ok (.iload 4, 2) := by decide +kernel
theorem d21_12 : decode jdk_48_method_5_code 12 = .ok (.if_icmp .ge 23, 3) := by decide +kernel
theorem d21_15 : decode jdk_48_method_5_code 15 = .ok (.bipush 31, 2) := by decide +kernel
theorem d21_17 : decode jdk_48_method_5_code 17 = .ok (.iload_n 0, 1) := by decide +kernel
theorem d21_18 : decode jdk_48_method_5_code 18 = .ok (.imul, 1) := by decide +kernel
theorem d21_19 : decode jdk_48_method_5_code 19 = .ok (.aload_n 1, 1) := by decide +kernel
theorem d21_20 : decode jdk_48_method_5_code 20 = .ok (.iload 5, 2) := by decide +kernel
theorem d21_22 : decode jdk_48_method_5_code 22 = .ok (.baload, 1) := by decide +kernel
abbrev fx6 : Int32 := ((31 : Int32) * (0 : Int32))
theorem d21_23 : decode jdk_48_method_5_code 23 = .ok (.sipush 255, 3) := by decide +kernel
theorem d21_26 : decode jdk_48_method_5_code 26 = .ok (.iand, 1) := by decide +kernel
theorem d21_27 : decode jdk_48_method_5_code 27 = .ok (.iadd, 1) := by decide +kernel
theorem d21_28 : decode jdk_48_method_5_code 28 = .ok (.istore_n 0, 1) := by decide +kernel
abbrev fx7 (x0 : Int32) : Int32 := (((31 : Int32) * (0 : Int32)) + (x0 &&& (255 : Int32)))
theorem d21_29 : decode jdk_48_method_5_code 29 = .ok (.iinc 5 1, 3) := by decide +kernel
theorem d21_32 : decode jdk_48_method_5_code 32 = .ok (.goto (-24), 3) := by decide +kernel
abbrev fx8 (x0 : Int32) : Int32 := ((31 : Int32) * (((31 : Int32) * (0 : Int32)) + (x0 &&& (255 : Int32))))
abbrev fx9 (x0 : Int32) (x1 : Int32) : Int32 := (((31 : Int32) * (((31 : Int32) * (0 : Int32)) + (x0 &&& (255 : Int32)))) + (x1 &&& (255 : Int32)))
theorem d21_35 : decode jdk_48_method_5_code 35 = .ok (.iload_n 0, 1) := by decide +kernel
theorem d21_36 : decode jdk_48_method_5_code 36 = .ok (.ireturn, 1) := by decide +kernel
abbrev y13 : MethodName := (⟨"jdk/internal/util/ArraysSupport", "signedHashCode", "(I[BII)I"⟩ : MethodName)
theorem ef_21_0 (m : MethodId) (x0 : Int32) (x1 : Addr) (x2 : Int32) (x3 : Int32) : entryFrame m #[(.int x0), (.ref x1), (.int x2), (.int x3)] 6 = mkF m 0 #[.val (.int x0), .val (.ref x1), .val (.int x2), .val (.int x3), .unset, .unset] [] := by first | (simp [entryFrame, mkF, argsToLocals, Value.category]; done) | rfl
theorem pn_21 : plainName "jdk/internal/util/ArraysSupport" = true := by first | (simp [plainName, overriddenIn]; done) | decide +kernel
def Q18 (Z : State) (cs_v : Int32) (a1 : Addr) (k_a1 : ClassId) (p3 : Int32) (p4 : Int32) (h0 : Heap) (n0 : Nat) (v : Option Value) (h : Heap) (L : List Loc) : Prop := v = some (.int (((31 : Int32) * (((31 : Int32) * (0 : Int32)) + (p3 &&& (255 : Int32)))) + (p4 &&& (255 : Int32)))) ∧ Fr n0 L ∧ h = h0
theorem rm18 (l : Launch) (Z : State) (a0 : Array Value) (hw : ∀ d ∈ tables_1, d.before a0 Z = true) (ws : List Jvm.Cond) (cs_v : Int32) (hp : Perm Z cs_v) (a1 : Addr) (k_a1 : ClassId) (p3 : Int32) (p4 : Int32) (h0 : Heap) (n0 : Nat) (O0 : Old Z n0 h0) (V_a1 : Arv Z h0 a1 k_a1 .byte (2 : Int32) [(.int p3), (.int p4)] (.int (0 : Int32))) :
    MetFree l y13 (head1 (Jvm.Cond.code y13 jdk_48_method_5_code 6 (some .int) :: ws) ({ frames := 0, cells := 0, slots := 0, locals := 0 } : Room)) (fun a U => a = #[(.int (0 : Int32)), (.ref a1), (.int (0 : Int32)), (.int (2 : Int32))] ∧ Z.Warmed39 U.vm ∧ U.heap = h0) (fun _ _ _ _ _ => True) (fun _ U o U' => ∃ v L, o = .returned v ∧ Q18 Z cs_v a1 k_a1 p3 p4 h0 n0 v U'.heap L ∧ FrameEnd U o U' L ({ frames := 0, cells := 0, slots := 0, locals := 0 } : Room).cells ({ frames := 0, cells := 0, slots := 0, locals := 0 } : Room).slots) := by
  refine MetFree.of_bodySF (plainFor_of_name pn_21) hisR ?_
  intro p e s m args below meth c s₁ Bd hml0 hP hK
  obtain ⟨rfl, hZ, hh⟩ := hP
  have hx := Bd.exec
  have hby := Bd.bytes
  have hml : c.maxLocals = 6 := hml0
  have hown : s.vm.findClass "jdk/internal/util/ArraysSupport" = some m.cls := findClass_of_methodNamed Bd.named
  have hnm := (name_of_methodNamed Bd.named Bd.method).1
  have X0 : Stand p l e ({ frames := 0, cells := 0, slots := 0, locals := 0 } : Room) s m #[(.int (0 : Int32)), (.ref a1), (.int (0 : Int32)), (.int (2 : Int32))] below meth c s₁ [] 0 0 := Stand.of_body Bd
  have e0 : s₁.heap = h0 := by rw [← hh, Bd.state]; rfl
  have N0 := Fr.nil n0
  obtain ⟨cl1, Ar1, -, S1, -, H1, -⟩ := id V_a1
  have hin1 : ¬ ((0 : Int32) < 0 ∨ cl1.slots.size ≤ ((0 : Int32)).toNatClampNeg) := inb_of S1 ⟨by decide, by decide⟩
  have hat1 : cl1.slots[((0 : Int32)).toNatClampNeg]? = some (.int p3) := H1.at hin1 rfl
  obtain ⟨cl2, Ar2, -, S2, -, H2, -⟩ := id V_a1
  have hin2 : ¬ (((0 : Int32) + (1 : Int32)) < 0 ∨ cl2.slots.size ≤ (((0 : Int32) + (1 : Int32))).toNatClampNeg) := inb_of S2 ⟨by decide, by decide⟩
  have hat2 : cl2.slots[(((0 : Int32) + (1 : Int32))).toNatClampNeg]? = some (.int p4) := H2.at hin2 rfl
  obtain ⟨fs, hr, hrun, hended, hW, hsame⟩ := X0.leave (v := some (.int (((31 : Int32) * (((31 : Int32) * (0 : Int32)) + (p3 &&& (255 : Int32)))) + (p4 &&& (255 : Int32))))) (fun h => by rw [Bd.returns] at h; cases h)
  refine ⟨_, _, castTop (ef_21_0 m (0 : Int32) a1 (0 : Int32) (2 : Int32)) ?_, hrun, hended, _, _, rfl, ?_, ⟨_, rfl⟩, hW, hsame.mono (by decide) (by decide)⟩
  · show Sp p e below s₁ (mkF m 0 #[.val (.int (0 : Int32)), .val (.ref a1), .val (.int (0 : Int32)), .val (.int (2 : Int32)), .unset, .unset] []) _
    refine XS.iloadN X0.here hx rfl (hb hby d21_0) rfl ?_
    refine XS.iloadN X0.here hx rfl (hb hby d21_1) rfl ?_
    refine XS.iadd X0.here hx rfl (hb hby d21_2) rfl ?_
    refine XS.istore X0.here hx rfl (hb hby d21_3) rfl (l' := #[.val (.int (0 : Int32)), .val (.ref a1), .val (.int (0 : Int32)), .val (.int (2 : Int32)), .val (.int (fx5 )), .unset]) rfl ?_
    refine XS.iloadN X0.here hx rfl (hb hby d21_5) rfl ?_
    refine XS.istore X0.here hx rfl (hb hby d21_6) rfl (l' := #[.val (.int (0 : Int32)), .val (.ref a1), .val (.int (0 : Int32)), .val (.int (2 : Int32)), .val (.int (fx5 )), .val (.int (0 : Int32))]) rfl ?_
    refine XS.iload X0.here hx rfl (hb hby d21_8) rfl ?_
    show Sp p e below s₁ (mkF m 10 #[.val (.int (0 : Int32)), .val (.ref a1), .val (.int (0 : Int32)), .val (.int (2 : Int32)), .val (.int (fx5 )), .val (.int (0 : Int32))] [(.int (0 : Int32))]) _
    refine XS.iload X0.here hx rfl (hb hby d21_10) rfl ?_
    refine XS.icmpNo X0.here hx rfl (hb hby d21_12) rfl (tlt (by decide : (0 : Int32) < ((0 : Int32) + (2 : Int32)))).2.1 ?_
    refine XS.bipush X0.here hx rfl (hb hby d21_15) ?_
    refine XS.iloadN X0.here hx rfl (hb hby d21_17) rfl ?_
    show Sp p e below s₁ (mkF m 18 #[.val (.int (0 : Int32)), .val (.ref a1), .val (.int (0 : Int32)), .val (.int (2 : Int32)), .val (.int (fx5 )), .val (.int (0 : Int32))] [(.int (0 : Int32)), (.int (31 : Int32))]) _
    refine XS.imul X0.here hx rfl (hb hby d21_18) rfl ?_
    refine XS.aloadN X0.here hx rfl (hb hby d21_19) rfl rfl ?_
    refine XS.iload X0.here hx rfl (hb hby d21_20) rfl ?_
    show Sp p e below s₁ (mkF m 22 #[.val (.int (0 : Int32)), .val (.ref a1), .val (.int (0 : Int32)), .val (.int (2 : Int32)), .val (.int (fx5 )), .val (.int (0 : Int32))] [(.int (0 : Int32)), (.ref a1), (.int (fx6 ))]) _
    refine X0.baloadBytes hx (j := (0 : Int32)) (v := (.int p3)) (by rw [e0]; exact Ar1.1) (State.isArrayOf_alike hZ.alike Ar1.2.1) Ar1.2.2 hin1 hat1 (g := (mkF m 22 #[.val (.int (0 : Int32)), .val (.ref a1), .val (.int (0 : Int32)), .val (.int (2 : Int32)), .val (.int (fx5 )), .val (.int (0 : Int32))] [(.int (0 : Int32)), (.ref a1), (.int (fx6 ))])) rfl rfl (hb hby d21_22) _ ?_
    show Sp p e below s₁ (mkF m 23 #[.val (.int (0 : Int32)), .val (.ref a1), .val (.int (0 : Int32)), .val (.int (2 : Int32)), .val (.int (fx5 )), .val (.int (0 : Int32))] [(.int p3), (.int (fx6 ))]) _
    refine XS.sipush X0.here hx rfl (hb hby d21_23) ?_
    refine XS.iand X0.here hx rfl (hb hby d21_26) rfl ?_
    refine XS.iadd X0.here hx rfl (hb hby d21_27) rfl ?_
    refine XS.istoreN X0.here hx rfl (hb hby d21_28) rfl (l' := #[.val (.int (fx7 p3)), .val (.ref a1), .val (.int (0 : Int32)), .val (.int (2 : Int32)), .val (.int (fx5 )), .val (.int (0 : Int32))]) rfl ?_
    show Sp p e below s₁ (mkF m 29 #[.val (.int (fx7 p3)), .val (.ref a1), .val (.int (0 : Int32)), .val (.int (2 : Int32)), .val (.int (fx5 )), .val (.int (0 : Int32))] []) _
    refine XS.iinc X0.here hx rfl (hb hby d21_29) rfl (l' := #[.val (.int (fx7 p3)), .val (.ref a1), .val (.int (0 : Int32)), .val (.int (2 : Int32)), .val (.int (fx5 )), .val (.int (fx2 ))]) rfl ?_
    refine XS.goto X0.here hx rfl (pc0 := 32) (pc' := 8) rfl (hb hby d21_32) (by decide) (by decide) ?_
    refine XS.iload X0.here hx rfl (hb hby d21_8) rfl ?_
    refine XS.iload X0.here hx rfl (hb hby d21_10) rfl ?_
    refine XS.icmpNo X0.here hx rfl (hb hby d21_12) rfl (tlt (by decide : ((0 : Int32) + (1 : Int32)) < ((0 : Int32) + (2 : Int32)))).2.1 ?_
    refine XS.bipush X0.here hx rfl (hb hby d21_15) ?_
    refine XS.iloadN X0.here hx rfl (hb hby d21_17) rfl ?_
    show Sp p e below s₁ (mkF m 18 #[.val (.int (fx7 p3)), .val (.ref a1), .val (.int (0 : Int32)), .val (.int (2 : Int32)), .val (.int (fx5 )), .val (.int (fx2 ))] [(.int (fx7 p3)), (.int (31 : Int32))]) _
    refine XS.imul X0.here hx rfl (hb hby d21_18) rfl ?_
    refine XS.aloadN X0.here hx rfl (hb hby d21_19) rfl rfl ?_
    refine XS.iload X0.here hx rfl (hb hby d21_20) rfl ?_
    show Sp p e below s₁ (mkF m 22 #[.val (.int (fx7 p3)), .val (.ref a1), .val (.int (0 : Int32)), .val (.int (2 : Int32)), .val (.int (fx5 )), .val (.int (fx2 ))] [(.int (fx2 )), (.ref a1), (.int (fx8 p3))]) _
    refine X0.baloadBytes hx (j := ((0 : Int32) + (1 : Int32))) (v := (.int p4)) (by rw [e0]; exact Ar2.1) (State.isArrayOf_alike hZ.alike Ar2.2.1) Ar2.2.2 hin2 hat2 (g := (mkF m 22 #[.val (.int (fx7 p3)), .val (.ref a1), .val (.int (0 : Int32)), .val (.int (2 : Int32)), .val (.int (fx5 )), .val (.int (fx2 ))] [(.int (fx2 )), (.ref a1), (.int (fx8 p3))])) rfl rfl (hb hby d21_22) _ ?_
    show Sp p e below s₁ (mkF m 23 #[.val (.int (fx7 p3)), .val (.ref a1), .val (.int (0 : Int32)), .val (.int (2 : Int32)), .val (.int (fx5 )), .val (.int (fx2 ))] [(.int p4), (.int (fx8 p3))]) _
    refine XS.sipush X0.here hx rfl (hb hby d21_23) ?_
    refine XS.iand X0.here hx rfl (hb hby d21_26) rfl ?_
    refine XS.iadd X0.here hx rfl (hb hby d21_27) rfl ?_
    refine XS.istoreN X0.here hx rfl (hb hby d21_28) rfl (l' := #[.val (.int (fx9 p3 p4)), .val (.ref a1), .val (.int (0 : Int32)), .val (.int (2 : Int32)), .val (.int (fx5 )), .val (.int (fx2 ))]) rfl ?_
    show Sp p e below s₁ (mkF m 29 #[.val (.int (fx9 p3 p4)), .val (.ref a1), .val (.int (0 : Int32)), .val (.int (2 : Int32)), .val (.int (fx5 )), .val (.int (fx2 ))] []) _
    refine XS.iinc X0.here hx rfl (hb hby d21_29) rfl (l' := #[.val (.int (fx9 p3 p4)), .val (.ref a1), .val (.int (0 : Int32)), .val (.int (2 : Int32)), .val (.int (fx5 )), .val (.int (fx3 ))]) rfl ?_
    refine XS.goto X0.here hx rfl (pc0 := 32) (pc' := 8) rfl (hb hby d21_32) (by decide) (by decide) ?_
    refine XS.iload X0.here hx rfl (hb hby d21_8) rfl ?_
    refine XS.iload X0.here hx rfl (hb hby d21_10) rfl ?_
    refine XS.icmpYes X0.here hx rfl (pc0 := 12) (pc' := 35) rfl (hb hby d21_12) rfl (flt (by decide : ¬ ((((0 : Int32) + (1 : Int32)) + (1 : Int32)) < ((0 : Int32) + (2 : Int32))))).2.1 (by decide) (by decide) ?_
    refine XS.iloadN X0.here hx rfl (hb hby d21_35) rfl ?_
    show Sp p e below s₁ (mkF m 36 #[.val (.int (fx9 p3 p4)), .val (.ref a1), .val (.int (0 : Int32)), .val (.int (2 : Int32)), .val (.int (fx5 )), .val (.int (fx3 ))] [(.int (fx9 p3 p4))]) _
    exact retI X0 hx Bd.returns (hb hby d21_36) hr
  · show Q18 Z cs_v a1 k_a1 p3 p4 h0 n0 _ s₁.heap _
    rw [e0]
    exact ⟨rfl, N0, rfl⟩
theorem pd_11 : parseMethodDescriptor "(I[BII)I" = some ⟨[.int, (.array .byte), .int, .int], some .int⟩ := by decide +kernel
theorem d20_54 : decode jdk_48_method_4_code 54 = .ok (.goto 103, 3) := by decide +kernel
theorem d20_157 : decode jdk_48_method_4_code 157 = .ok (.ireturn, 1) := by decide +kernel
abbrev y14 : MethodName := (⟨"jdk/internal/util/ArraysSupport", "vectorizedHashCode", "(Ljava/lang/Object;IIII)I"⟩ : MethodName)
theorem ef_20_0 (m : MethodId) (x0 : Addr) (x1 : Int32) (x2 : Int32) (x3 : Int32) (x4 : Int32) : entryFrame m #[(.ref x0), (.int x1), (.int x2), (.int x3), (.int x4)] 5 = mkF m 0 #[.val (.ref x0), .val (.int x1), .val (.int x2), .val (.int x3), .val (.int x4)] [] := by first | (simp [entryFrame, mkF, argsToLocals, Value.category]; done) | rfl
def Q19 (Z : State) (cs_v : Int32) (a1 : Addr) (k_a1 : ClassId) (p3 : Int32) (p4 : Int32) (h0 : Heap) (n0 : Nat) (v : Option Value) (h : Heap) (L : List Loc) : Prop := v = some (.int (((31 : Int32) * (((31 : Int32) * (0 : Int32)) + (p3 &&& (255 : Int32)))) + (p4 &&& (255 : Int32)))) ∧ Fr n0 L ∧ h = h0
theorem rm19 (l : Launch) (Z : State) (a0 : Array Value) (hw : ∀ d ∈ tables_1, d.before a0 Z = true) (ws : List Jvm.Cond) (cs_v : Int32) (hp : Perm Z cs_v) (a1 : Addr) (k_a1 : ClassId) (p3 : Int32) (p4 : Int32) (h0 : Heap) (n0 : Nat) (O0 : Old Z n0 h0) (E_a1 : Exa Z h0 a1 "[B") (V_a1 : Arv Z h0 a1 k_a1 .byte (2 : Int32) [(.int p3), (.int p4)] (.int (0 : Int32))) :
    MetFree l y14 (head1 (Jvm.Cond.code y14 jdk_48_method_4_code 5 (some .int) :: ws) ({ frames := 1, cells := 0, slots := 0, locals := 17 } : Room)) (fun a U => a = #[(.ref a1), (.int (0 : Int32)), (.int (2 : Int32)), (.int (0 : Int32)), (.int (4 : Int32))] ∧ Z.Warmed39 U.vm ∧ U.heap = h0) (fun _ _ _ _ _ => True) (fun _ U o U' => ∃ v L, o = .returned v ∧ Q19 Z cs_v a1 k_a1 p3 p4 h0 n0 v U'.heap L ∧ FrameEnd U o U' L ({ frames := 1, cells := 0, slots := 0, locals := 17 } : Room).cells ({ frames := 1, cells := 0, slots := 0, locals := 17 } : Room).slots) := by
  refine MetFree.of_bodySF (plainFor_of_name pn_21) hisR ?_
  intro p e s m args below meth c s₁ Bd hml0 hP hK
  obtain ⟨rfl, hZ, hh⟩ := hP
  have hx := Bd.exec
  have hby := Bd.bytes
  have hml : c.maxLocals = 5 := hml0
  have hown : s.vm.findClass "jdk/internal/util/ArraysSupport" = some m.cls := findClass_of_methodNamed Bd.named
  have hnm := (name_of_methodNamed Bd.named Bd.method).1
  have X0 : Stand p l e ({ frames := 1, cells := 0, slots := 0, locals := 17 } : Room) s m #[(.ref a1), (.int (0 : Int32)), (.int (2 : Int32)), (.int (0 : Int32)), (.int (4 : Int32))] below meth c s₁ [] 0 0 := Stand.of_body Bd
  have e0 : s₁.heap = h0 := by rw [← hh, Bd.state]; rfl
  have N0 := Fr.nil n0
  obtain ⟨T1, X1, e1, st1⟩ := castY X0 hx hZ hown (wq hw 109 rfl) e0 (Ins.self E_a1) (g := (mkF m 46 #[.val (.ref a1), .val (.int (0 : Int32)), .val (.int (2 : Int32)), .val (.int (0 : Int32)), .val (.int (4 : Int32))] [(.ref a1), (.int (0 : Int32))])) rfl rfl (hb hby d20_46)
  obtain ⟨_, _, ⟨T2, L2, k2, n2⟩, -, X2, ⟨Lc2, hQ2, l2, y2, z2⟩, st2⟩ := Jvm.LawKit.callS X1 hx (y := y13) hown (mvT hZ (wq hw 111 rfl)) (mvT hZ (wq hw 112 rfl)) (mvT hZ (wq hw 107 rfl)) (mvT hZ (wq hw 113 rfl)) (by decide) (backOf (W := 0) (rm18 l Z a0 hw [] cs_v hp a1 k_a1 p3 p4 h0 n0 O0 V_a1) hZ (wq hw 113 rfl) (wq hw 107 rfl) (by decide) (by decide)) (g := (mkF m 51 #[.val (.ref a1), .val (.int (0 : Int32)), .val (.int (2 : Int32)), .val (.int (0 : Int32)), .val (.int (4 : Int32))] [(.int (2 : Int32)), (.int (0 : Int32)), (.ref a1), (.int (0 : Int32))])) rfl (by rw [hml]; rfl) (argsL := [(.int (0 : Int32)), (.ref a1), (.int (0 : Int32)), (.int (2 : Int32))]) (rest := []) (lenOf pd_11 rfl) rfl (by show 2 * 0 + _ ≤ _; exact Nat.le_of_eq rfl) (hb hby d20_51) (fun _ _ => ⟨rfl, e1, (by decide : 0 + 0 ≤ _), (by decide : 0 + 0 ≤ _)⟩)
  dsimp only [Pt.U, Pt.locs, Pt.cells, Pt.slots] at X2 l2 y2 z2 st2 hQ2
  subst l2 y2 z2
  obtain ⟨rfl, Nq2, eq2⟩ := hQ2
  have N2 := Fr.app N0 Nq2
  obtain ⟨fs, hr, hrun, hended, hW, hsame⟩ := X2.leave (v := some (.int (((31 : Int32) * (((31 : Int32) * (0 : Int32)) + (p3 &&& (255 : Int32)))) + (p4 &&& (255 : Int32))))) (fun h => by rw [Bd.returns] at h; cases h)
  refine ⟨_, _, castTop (ef_20_0 m a1 (0 : Int32) (2 : Int32) (0 : Int32) (4 : Int32)) ?_, hrun, hended, _, _, rfl, ?_, ⟨_, rfl⟩, hW, hsame.mono (by decide) (by decide)⟩
  · show Sp p e below s₁ (mkF m 0 #[.val (.ref a1), .val (.int (0 : Int32)), .val (.int (2 : Int32)), .val (.int (0 : Int32)), .val (.int (4 : Int32))] []) _
    refine XS.iload X0.here hx rfl (hb hby d20_0) rfl ?_
    show Sp p e below s₁ (mkF m 2 #[.val (.ref a1), .val (.int (0 : Int32)), .val (.int (2 : Int32)), .val (.int (0 : Int32)), .val (.int (4 : Int32))] [(.int (4 : Int32))]) _
    refine X0.tableswitchIn hx (g := (mkF m 2 #[.val (.ref a1), .val (.int (0 : Int32)), .val (.int (2 : Int32)), .val (.int (0 : Int32)), .val (.int (4 : Int32))] [(.int (4 : Int32))])) rfl (k := (4 : Int32)) rfl (hb hby d20_2) (by decide) (off := 42) (by decide) (by show (0 : Int) ≤ ((2 : Nat) : Int) + 42; decide) _ ?_
    show Sp p e below s₁ (mkF m 44 #[.val (.ref a1), .val (.int (0 : Int32)), .val (.int (2 : Int32)), .val (.int (0 : Int32)), .val (.int (4 : Int32))] []) _
    refine XS.iloadN X0.here hx rfl (hb hby d20_44) rfl ?_
    refine XS.aloadN X0.here hx rfl (hb hby d20_45) rfl rfl ?_
    show Sp p e below s₁ (mkF m 46 #[.val (.ref a1), .val (.int (0 : Int32)), .val (.int (2 : Int32)), .val (.int (0 : Int32)), .val (.int (4 : Int32))] [(.ref a1), (.int (0 : Int32))]) _
    refine st1 _ ?_
    show Sp p e below T1 (mkF m 49 #[.val (.ref a1), .val (.int (0 : Int32)), .val (.int (2 : Int32)), .val (.int (0 : Int32)), .val (.int (4 : Int32))] [(.ref a1), (.int (0 : Int32))]) _
    refine XS.iloadN X1.here hx rfl (hb hby d20_49) rfl ?_
    refine XS.iloadN X1.here hx rfl (hb hby d20_50) rfl ?_
    show Sp p e below T1 (mkF m 51 #[.val (.ref a1), .val (.int (0 : Int32)), .val (.int (2 : Int32)), .val (.int (0 : Int32)), .val (.int (4 : Int32))] [(.int (2 : Int32)), (.int (0 : Int32)), (.ref a1), (.int (0 : Int32))]) _
    refine st2 _ ?_
    show Sp p e below T2 (mkF m 54 #[.val (.ref a1), .val (.int (0 : Int32)), .val (.int (2 : Int32)), .val (.int (0 : Int32)), .val (.int (4 : Int32))] [(.int (fx9 p3 p4))]) _
    refine XS.goto X2.here hx rfl (pc0 := 54) (pc' := 157) rfl (hb hby d20_54) (by decide) (by decide) ?_
    show Sp p e below T2 (mkF m 157 #[.val (.ref a1), .val (.int (0 : Int32)), .val (.int (2 : Int32)), .val (.int (0 : Int32)), .val (.int (4 : Int32))] [(.int (fx9 p3 p4))]) _
    exact retI X2 hx Bd.returns (hb hby d20_157) hr
  · show Q19 Z cs_v a1 k_a1 p3 p4 h0 n0 _ T2.heap _
    rw [eq2]
    exact ⟨rfl, N2, rfl⟩
theorem pd_12 : parseMethodDescriptor "(Ljava/lang/Object;IIII)I" = some ⟨[(.object "java/lang/Object"), .int, .int, .int, .int], some .int⟩ := by decide +kernel
def Q20 (Z : State) (cs_v : Int32) (a1 : Addr) (k_a1 : ClassId) (p3 : Int32) (p4 : Int32) (h0 : Heap) (n0 : Nat) (v : Option Value) (h : Heap) (L : List Loc) : Prop := v = some (.int (((31 : Int32) * (((31 : Int32) * (0 : Int32)) + (p3 &&& (255 : Int32)))) + (p4 &&& (255 : Int32)))) ∧ Fr n0 L ∧ h = h0
theorem rm20 (l : Launch) (Z : State) (a0 : Array Value) (hw : ∀ d ∈ tables_1, d.before a0 Z = true) (ws : List Jvm.Cond) (cs_v : Int32) (hp : Perm Z cs_v) (a1 : Addr) (k_a1 : ClassId) (p3 : Int32) (p4 : Int32) (h0 : Heap) (n0 : Nat) (O0 : Old Z n0 h0) (V_a1 : Arv Z h0 a1 k_a1 .byte (2 : Int32) [(.int p3), (.int p4)] (.int (0 : Int32))) (E_a1 : Exa Z h0 a1 "[B") :
    MetFree l y11 (head1 (Jvm.Cond.code y11 jdk_43_method_21_code 1 (some .int) :: ws) ({ frames := 2, cells := 0, slots := 0, locals := 33 } : Room)) (fun a U => a = #[(.ref a1)] ∧ Z.Warmed39 U.vm ∧ U.heap = h0) (fun _ _ _ _ _ => True) (fun _ U o U' => ∃ v L, o = .returned v ∧ Q20 Z cs_v a1 k_a1 p3 p4 h0 n0 v U'.heap L ∧ FrameEnd U o U' L ({ frames := 2, cells := 0, slots := 0, locals := 33 } : Room).cells ({ frames := 2, cells := 0, slots := 0, locals := 33 } : Room).slots) := by
  refine MetFree.of_bodySF (plainFor_of_name pn_3) hisR ?_
  intro p e s m args below meth c s₁ Bd hml0 hP hK
  obtain ⟨rfl, hZ, hh⟩ := hP
  have hx := Bd.exec
  have hby := Bd.bytes
  have hml : c.maxLocals = 1 := hml0
  have hown : s.vm.findClass "java/lang/StringLatin1" = some m.cls := findClass_of_methodNamed Bd.named
  have hnm := (name_of_methodNamed Bd.named Bd.method).1
  have X0 : Stand p l e ({ frames := 2, cells := 0, slots := 0, locals := 33 } : Room) s m #[(.ref a1)] below meth c s₁ [] 0 0 := Stand.of_body Bd
  have e0 : s₁.heap = h0 := by rw [← hh, Bd.state]; rfl
  have N0 := Fr.nil n0
  obtain ⟨cl1, Ar1, -, S1, Nn1, -, -⟩ := id V_a1
  obtain ⟨cl2, Ar2, -, S2, Nn2, -, -⟩ := id V_a1
  obtain ⟨_, _, ⟨T3, L3, k3, n3⟩, -, X3, ⟨Lc3, hQ3, l3, y3, z3⟩, st3⟩ := Jvm.LawKit.callS X0 hx (y := y14) hown (mvT hZ (wq hw 105 rfl)) (mvT hZ (wq hw 106 rfl)) (mvT hZ (wq hw 107 rfl)) (mvT hZ (wq hw 108 rfl)) (by decide) (backOf (W := 0) (rm19 l Z a0 hw [] cs_v hp a1 k_a1 p3 p4 h0 n0 O0 E_a1 V_a1) hZ (wq hw 108 rfl) (wq hw 107 rfl) (by decide) (by decide)) (g := (mkF m 48 #[.val (.ref a1)] [(.int (4 : Int32)), (.int (0 : Int32)), (.int (2 : Int32)), (.int (0 : Int32)), (.ref a1)])) rfl (by rw [hml]; rfl) (argsL := [(.ref a1), (.int (0 : Int32)), (.int (2 : Int32)), (.int (0 : Int32)), (.int (4 : Int32))]) (rest := []) (lenOf pd_12 rfl) rfl (by show 2 * 0 + _ ≤ _; exact Nat.le_of_eq rfl) (hb hby d11_48) (fun _ _ => ⟨rfl, e0, (by decide : 0 + 0 ≤ _), (by decide : 0 + 0 ≤ _)⟩)
  dsimp only [Pt.U, Pt.locs, Pt.cells, Pt.slots] at X3 l3 y3 z3 st3 hQ3
  subst l3 y3 z3
  obtain ⟨rfl, Nq3, eq3⟩ := hQ3
  have N3 := Fr.app N0 Nq3
  obtain ⟨fs, hr, hrun, hended, hW, hsame⟩ := X3.leave (v := some (.int (((31 : Int32) * (((31 : Int32) * (0 : Int32)) + (p3 &&& (255 : Int32)))) + (p4 &&& (255 : Int32))))) (fun h => by rw [Bd.returns] at h; cases h)
  refine ⟨_, _, castTop (ef_11_0 m a1) ?_, hrun, hended, _, _, rfl, ?_, ⟨_, rfl⟩, hW, hsame.mono (by decide) (by decide)⟩
  · show Sp p e below s₁ (mkF m 0 #[.val (.ref a1)] []) _
    refine XS.aloadN X0.here hx rfl (hb hby d11_0) rfl rfl ?_
    show Sp p e below s₁ (mkF m 1 #[.val (.ref a1)] [(.ref a1)]) _
    refine X0.arraylength hx (by rw [e0]; exact Ar1.1) (State.isArrayOf_alike hZ.alike Ar1.2.1) (g := (mkF m 1 #[.val (.ref a1)] [(.ref a1)])) rfl rfl (hb hby d11_1) _ ?_
    rw [len_of S1 Nn1]
    show Sp p e below s₁ (mkF m 2 #[.val (.ref a1)] [(.int (2 : Int32))]) _
    refine X0.lookupswitchMiss hx (g := (mkF m 2 #[.val (.ref a1)] [(.int (2 : Int32))])) rfl (k := (2 : Int32)) rfl (hb hby d11_2) (by decide) (by decide) (by show (0 : Int) ≤ ((2 : Nat) : Int) + 40; decide) _ ?_
    show Sp p e below s₁ (mkF m 42 #[.val (.ref a1)] []) _
    refine XS.aloadN X0.here hx rfl (hb hby d11_42) rfl rfl ?_
    refine XS.iconst X0.here hx rfl (hb hby d11_43) ?_
    refine XS.aloadN X0.here hx rfl (hb hby d11_44) rfl rfl ?_
    show Sp p e below s₁ (mkF m 45 #[.val (.ref a1)] [(.ref a1), (.int (0 : Int32)), (.ref a1)]) _
    refine X0.arraylength hx (by rw [e0]; exact Ar2.1) (State.isArrayOf_alike hZ.alike Ar2.2.1) (g := (mkF m 45 #[.val (.ref a1)] [(.ref a1), (.int (0 : Int32)), (.ref a1)])) rfl rfl (hb hby d11_45) _ ?_
    rw [len_of S2 Nn2]
    show Sp p e below s₁ (mkF m 46 #[.val (.ref a1)] [(.int (2 : Int32)), (.int (0 : Int32)), (.ref a1)]) _
    refine XS.iconst X0.here hx rfl (hb hby d11_46) ?_
    refine XS.iconst X0.here hx rfl (hb hby d11_47) ?_
    show Sp p e below s₁ (mkF m 48 #[.val (.ref a1)] [(.int (4 : Int32)), (.int (0 : Int32)), (.int (2 : Int32)), (.int (0 : Int32)), (.ref a1)]) _
    refine st3 _ ?_
    show Sp p e below T3 (mkF m 51 #[.val (.ref a1)] [(.int (fx9 p3 p4))]) _
    exact retI X3 hx Bd.returns (hb hby d11_51) hr
  · show Q20 Z cs_v a1 k_a1 p3 p4 h0 n0 _ T3.heap _
    rw [eq3]
    exact ⟨rfl, N3, rfl⟩
def Q21 (Z : State) (cs_v : Int32) (a1 : Addr) (p2 : Int32) (p3 : Int32) (a4 : Addr) (k_a4 : ClassId) (p6 : Int32) (p7 : Int32) (h0 : Heap) (n0 : Nat) (v : Option Value) (h : Heap) (L : List Loc) : Prop := v = some (.int (((31 : Int32) * (((31 : Int32) * (0 : Int32)) + (p6 &&& (255 : Int32)))) + (p7 &&& (255 : Int32)))) ∧ Fr n0 L ∧ Keep h0 h [a1] ∧ Exa Z h a1 "java/lang/String" ∧ Fld Z h a1 "java/lang/String" "coder" "B" (.int (0 : Int32)) ∧ Fld Z h a1 "java/lang/String" "hash" "I" (.int p2) ∧ Fld Z h a1 "java/lang/String" "hashIsZero" "Z" (.int (1 : Int32)) ∧ Fld Z h a1 "java/lang/String" "value" "[B" (.ref a4)
theorem rm21 (l : Launch) (Z : State) (a0 : Array Value) (hw : ∀ d ∈ tables_1, d.before a0 Z = true) (ws : List Jvm.Cond) (cs_v : Int32) (hp : Perm Z cs_v) (a1 : Addr) (p2 : Int32) (p3 : Int32) (a4 : Addr) (k_a4 : ClassId) (p6 : Int32) (p7 : Int32) (h0 : Heap) (n0 : Nat) (O0 : Old Z n0 h0) (F_hash_a1 : Fld Z h0 a1 "java/lang/String" "hash" "I" (.int p2)) (hc2 : p2 = (0 : Int32)) (F_hashIsZero_a1 : Fld Z h0 a1 "java/lang/String" "hashIsZero" "Z" (.int p3)) (hc4 : p3 = (0 : Int32)) (E_a1 : Exa Z h0 a1 "java/lang/String") (F_coder_a1 : Fld Z h0 a1 "java/lang/String" "coder" "B" (.int (0 : Int32))) (F_value_a1 : Fld Z h0 a1 "java/lang/String" "value" "[B" (.ref a4)) (V_a4 : Arv Z h0 a4 k_a4 .byte (2 : Int32) [(.int p6), (.int p7)] (.int (0 : Int32))) (E_a4 : Exa Z h0 a4 "[B") (hc10 : (((31 : Int32) * (((31 : Int32) * (0 : Int32)) + (p6 &&& (255 : Int32)))) + (p7 &&& (255 : Int32))) = (0 : Int32)) (g_a1 : n0 ≤ a1) :
    MetFree l y12 (head1 (Jvm.Cond.code y12 jdk_42_method_78_code 2 (some .int) :: ws) ({ frames := 3, cells := 0, slots := 0, locals := 45 } : Room)) (fun a U => a = #[(.ref a1)] ∧ Z.Warmed39 U.vm ∧ U.heap = h0) (fun _ _ _ _ _ => True) (fun _ U o U' => ∃ v L, o = .returned v ∧ Q21 Z cs_v a1 p2 p3 a4 k_a4 p6 p7 h0 n0 v U'.heap L ∧ FrameEnd U o U' L ({ frames := 3, cells := 0, slots := 0, locals := 45 } : Room).cells ({ frames := 3, cells := 0, slots := 0, locals := 45 } : Room).slots) := by
  refine MetFree.of_bodySF (plainFor_of_name pn_5) hisR ?_
  intro p e s m args below meth c s₁ Bd hml0 hP hK
  obtain ⟨rfl, hZ, hh⟩ := hP
  have hx := Bd.exec
  have hby := Bd.bytes
  have hml : c.maxLocals = 2 := hml0
  have hown : s.vm.findClass "java/lang/String" = some m.cls := findClass_of_methodNamed Bd.named
  have hnm := (name_of_methodNamed Bd.named Bd.method).1
  have X0 : Stand p l e ({ frames := 3, cells := 0, slots := 0, locals := 45 } : Room) s m #[(.ref a1)] below meth c s₁ [] 0 0 := Stand.of_body Bd
  have e0 : s₁.heap = h0 := by rw [← hh, Bd.state]; rfl
  have N0 := Fr.nil n0
  obtain ⟨T1, X1, e1, st1⟩ := getF X0 hx hZ hown (host := "") (Or.inl (wq hw 58 rfl)) Via.refl e0 F_hash_a1 (g := (mkF m 1 #[.val (.ref a1), .unset] [(.ref a1)])) rfl rfl (hb hby d9_1)
  obtain ⟨T2, X2, e2, st2⟩ := getF X1 hx hZ hown (host := "") (Or.inl (wq hw 60 rfl)) Via.refl e1 F_hashIsZero_a1 (g := (mkF m 10 #[.val (.ref a1), .val (.int p2)] [(.ref a1)])) rfl rfl (hb hby d9_10)
  obtain ⟨cq3, kq3, q3a, q3b, q3c⟩ := isOf hZ e2 E_a1
  obtain ⟨_, _, ⟨T3, L3, k3, n3⟩, -, X3, ⟨Lc3, hQ3, l3, y3, z3⟩, st3⟩ := X2.virtualBack hx (y := y10) (z := y10) hown (mvT hZ (wq hw 62 rfl)) (mvT hZ (wq hw 63 rfl)) (notFace_of_selects (args := #[]) (mvT hZ (wq hw 65 rfl))) (mvT hZ (wq hw 65 rfl)) (mvT hZ (wq hw 64 rfl)) (by decide) (backOf (W := 0) (rm12 l Z a0 hw [] cs_v hp a1 h0 n0 O0 F_coder_a1) hZ (wq hw 66 rfl) (wq hw 6 rfl) (by decide) (by decide)) q3a q3c (g := (mkF m 17 #[.val (.ref a1), .val (.int p2)] [(.ref a1)])) rfl (by rw [hml]; rfl) (Steps.refl _) (argsL := []) (rest := []) (lenOf pd_9 rfl) rfl (by show 2 * 0 + _ ≤ _; exact Nat.le_of_eq rfl) (hb hby d9_17) (fun _ _ => ⟨rfl, e2, (by decide : 0 + 0 ≤ _), (by decide : 0 + 0 ≤ _)⟩)
  dsimp only [Pt.U, Pt.locs, Pt.cells, Pt.slots] at X3 l3 y3 z3 st3 hQ3
  subst l3 y3 z3
  obtain ⟨rfl, Nq3, eq3⟩ := hQ3
  have N3 := Fr.app N0 Nq3
  obtain ⟨T4, X4, e4, st4⟩ := getF X3 hx hZ hown (host := "") (Or.inl (wq hw 26 rfl)) Via.refl eq3 F_value_a1 (g := (mkF m 24 #[.val (.ref a1), .val (.int p2)] [(.ref a1)])) rfl rfl (hb hby d9_24)
  obtain ⟨_, _, ⟨T5, L5, k5, n5⟩, -, X5, ⟨Lc5, hQ5, l5, y5, z5⟩, st5⟩ := Jvm.LawKit.callS X4 hx (y := y11) hown (mvT hZ (wq hw 67 rfl)) (mvT hZ (wq hw 68 rfl)) (mvT hZ (wq hw 11 rfl)) (mvT hZ (wq hw 69 rfl)) (by decide) (backOf (W := 0) (rm20 l Z a0 hw [] cs_v hp a4 k_a4 p6 p7 h0 n0 O0 V_a4 E_a4) hZ (wq hw 69 rfl) (wq hw 11 rfl) (by decide) (by decide)) (g := (mkF m 27 #[.val (.ref a1), .val (.int p2)] [(.ref a4)])) rfl (by rw [hml]; rfl) (argsL := [(.ref a4)]) (rest := []) (lenOf pd_10 rfl) rfl (by show 2 * 0 + _ ≤ _; exact Nat.le_of_eq rfl) (hb hby d9_27) (fun _ _ => ⟨rfl, e4, (by decide : 0 + 0 ≤ _), (by decide : 0 + 0 ≤ _)⟩)
  dsimp only [Pt.U, Pt.locs, Pt.cells, Pt.slots] at X5 l5 y5 z5 st5 hQ5
  subst l5 y5 z5
  obtain ⟨rfl, Nq5, eq5⟩ := hQ5
  have N5 := Fr.app N3 Nq5
  obtain ⟨T6, h6, X6, e6, W6, st6⟩ := putFN X5 hx hZ hown (wq hw 60 rfl) Via.refl eq5 F_hashIsZero_a1 E_a1 (Or.inl (wq hw 61 rfl)) (wq hw 14 rfl) (ty := .boolean) (v' := (.int (1 : Int32))) (by decide) rfl rfl (g := (mkF m 47 #[.val (.ref a1), .val (.int (fx9 p6 p7))] [(.int (1 : Int32)), (.ref a1)])) rfl rfl (hb hby d9_47)
  have N6 := Fr.snoc X6 N5 g_a1
  have K6 : Keep h0 h6 [a1] := (Keep.refl h0 [a1]).wr W6 (Or.inl (ma 0 rfl))
  have Fw6 := F_hashIsZero_a1.same W6
  obtain ⟨fs, hr, hrun, hended, hW, hsame⟩ := X6.leave (v := some (.int (((31 : Int32) * (((31 : Int32) * (0 : Int32)) + (p6 &&& (255 : Int32)))) + (p7 &&& (255 : Int32))))) (fun h => by rw [Bd.returns] at h; cases h)
  refine ⟨_, _, castTop (ef_9_0 m a1) ?_, hrun, hended, _, _, rfl, ?_, ⟨_, rfl⟩, hW, hsame.mono (by decide) (by decide)⟩
  · show Sp p e below s₁ (mkF m 0 #[.val (.ref a1), .unset] []) _
    refine XS.aloadN X0.here hx rfl (hb hby d9_0) rfl rfl ?_
    show Sp p e below s₁ (mkF m 1 #[.val (.ref a1), .unset] [(.ref a1)]) _
    refine st1 _ ?_
    show Sp p e below T1 (mkF m 4 #[.val (.ref a1), .unset] [(.int p2)]) _
    refine XS.istoreN X1.here hx rfl (hb hby d9_4) rfl (l' := #[.val (.ref a1), .val (.int p2)]) rfl ?_
    refine XS.iloadN X1.here hx rfl (hb hby d9_5) rfl ?_
    refine XS.ifNo X1.here hx rfl (hb hby d9_6) rfl ((if0 _ _).trans (teq hc2).2) ?_
    refine XS.aloadN X1.here hx rfl (hb hby d9_9) rfl rfl ?_
    show Sp p e below T1 (mkF m 10 #[.val (.ref a1), .val (.int p2)] [(.ref a1)]) _
    refine st2 _ ?_
    show Sp p e below T2 (mkF m 13 #[.val (.ref a1), .val (.int p2)] [(.int p3)]) _
    refine XS.ifNo X2.here hx rfl (hb hby d9_13) rfl ((if0 _ _).trans (teq hc4).2) ?_
    refine XS.aloadN X2.here hx rfl (hb hby d9_16) rfl rfl ?_
    show Sp p e below T2 (mkF m 17 #[.val (.ref a1), .val (.int p2)] [(.ref a1)]) _
    refine st3.trans ?_
    show Sp p e below T3 (mkF m 20 #[.val (.ref a1), .val (.int p2)] [(.int (1 : Int32))]) _
    refine XS.ifNo X3.here hx rfl (hb hby d9_20) rfl ((if0 _ _).trans (feq (by decide : ¬ ((1 : Int32) = (0 : Int32)))).1) ?_
    refine XS.aloadN X3.here hx rfl (hb hby d9_23) rfl rfl ?_
    show Sp p e below T3 (mkF m 24 #[.val (.ref a1), .val (.int p2)] [(.ref a1)]) _
    refine st4 _ ?_
    show Sp p e below T4 (mkF m 27 #[.val (.ref a1), .val (.int p2)] [(.ref a4)]) _
    refine st5 _ ?_
    show Sp p e below T5 (mkF m 30 #[.val (.ref a1), .val (.int p2)] [(.int (fx9 p6 p7))]) _
    refine XS.goto X5.here hx rfl (pc0 := 30) (pc' := 40) rfl (hb hby d9_30) (by decide) (by decide) ?_
    refine XS.istoreN X5.here hx rfl (hb hby d9_40) rfl (l' := #[.val (.ref a1), .val (.int (fx9 p6 p7))]) rfl ?_
    refine XS.iloadN X5.here hx rfl (hb hby d9_41) rfl ?_
    refine XS.ifNo X5.here hx rfl (hb hby d9_42) rfl ((if0 _ _).trans (teq hc10).2) ?_
    refine XS.aloadN X5.here hx rfl (hb hby d9_45) rfl rfl ?_
    refine XS.iconst X5.here hx rfl (hb hby d9_46) ?_
    show Sp p e below T5 (mkF m 47 #[.val (.ref a1), .val (.int (fx9 p6 p7))] [(.int (1 : Int32)), (.ref a1)]) _
    refine st6 _ ?_
    show Sp p e below T6 (mkF m 50 #[.val (.ref a1), .val (.int (fx9 p6 p7))] []) _
    refine XS.goto X6.here hx rfl (pc0 := 50) (pc' := 58) rfl (hb hby d9_50) (by decide) (by decide) ?_
    refine XS.iloadN X6.here hx rfl (hb hby d9_58) rfl ?_
    show Sp p e below T6 (mkF m 59 #[.val (.ref a1), .val (.int (fx9 p6 p7))] [(.int (fx9 p6 p7))]) _
    exact retI X6 hx Bd.returns (hb hby d9_59) hr
  · show Q21 Z cs_v a1 p2 p3 a4 k_a4 p6 p7 h0 n0 _ T6.heap _
    rw [e6]
    exact ⟨rfl, N6, K6, (E_a1.wr W6), (F_coder_a1.other W6 (Or.inr (sn6 hw))), (F_hash_a1.other W6 (Or.inr (sn7 hw))), Fw6, (F_value_a1.other W6 (Or.inr (sn8 hw)))⟩
def Q22 (Z : State) (cs_v : Int32) (a1 : Addr) (p2 : Int32) (p3 : Int32) (a4 : Addr) (k_a4 : ClassId) (p6 : Int32) (p7 : Int32) (h0 : Heap) (n0 : Nat) (v : Option Value) (h : Heap) (L : List Loc) : Prop := v = some (.int (((31 : Int32) * (((31 : Int32) * (0 : Int32)) + (p6 &&& (255 : Int32)))) + (p7 &&& (255 : Int32)))) ∧ Fr n0 L ∧ Keep h0 h [a1] ∧ Exa Z h a1 "java/lang/String" ∧ Fld Z h a1 "java/lang/String" "coder" "B" (.int (0 : Int32)) ∧ Fld Z h a1 "java/lang/String" "hash" "I" (.int (((31 : Int32) * (((31 : Int32) * (0 : Int32)) + (p6 &&& (255 : Int32)))) + (p7 &&& (255 : Int32)))) ∧ Fld Z h a1 "java/lang/String" "hashIsZero" "Z" (.int p3) ∧ Fld Z h a1 "java/lang/String" "value" "[B" (.ref a4)
theorem rm22 (l : Launch) (Z : State) (a0 : Array Value) (hw : ∀ d ∈ tables_1, d.before a0 Z = true) (ws : List Jvm.Cond) (cs_v : Int32) (hp : Perm Z cs_v) (a1 : Addr) (p2 : Int32) (p3 : Int32) (a4 : Addr) (k_a4 : ClassId) (p6 : Int32) (p7 : Int32) (h0 : Heap) (n0 : Nat) (O0 : Old Z n0 h0) (F_hash_a1 : Fld Z h0 a1 "java/lang/String" "hash" "I" (.int p2)) (hc2 : p2 = (0 : Int32)) (F_hashIsZero_a1 : Fld Z h0 a1 "java/lang/String" "hashIsZero" "Z" (.int p3)) (hc4 : p3 = (0 : Int32)) (E_a1 : Exa Z h0 a1 "java/lang/String") (F_coder_a1 : Fld Z h0 a1 "java/lang/String" "coder" "B" (.int (0 : Int32))) (F_value_a1 : Fld Z h0 a1 "java/lang/String" "value" "[B" (.ref a4)) (V_a4 : Arv Z h0 a4 k_a4 .byte (2 : Int32) [(.int p6), (.int p7)] (.int (0 : Int32))) (E_a4 : Exa Z h0 a4 "[B") (hc10 : ¬ ((((31 : Int32) * (((31 : Int32) * (0 : Int32)) + (p6 &&& (255 : Int32)))) + (p7 &&& (255 : Int32))) = (0 : Int32))) (g_a1 : n0 ≤ a1) :
    MetFree l y12 (head1 (Jvm.Cond.code y12 jdk_42_method_78_code 2 (some .int) :: ws) ({ frames := 3, cells := 0, slots := 0, locals := 45 } : Room)) (fun a U => a = #[(.ref a1)] ∧ Z.Warmed39 U.vm ∧ U.heap = h0) (fun _ _ _ _ _ => True) (fun _ U o U' => ∃ v L, o = .returned v ∧ Q22 Z cs_v a1 p2 p3 a4 k_a4 p6 p7 h0 n0 v U'.heap L ∧ FrameEnd U o U' L ({ frames := 3, cells := 0, slots := 0, locals := 45 } : Room).cells ({ frames := 3, cells := 0, slots := 0, locals := 45 } : Room).slots) := by
  refine MetFree.of_bodySF (plainFor_of_name pn_5) hisR ?_
  intro p e s m args below meth c s₁ Bd hml0 hP hK
  obtain ⟨rfl, hZ, hh⟩ := hP
  have hx := Bd.exec
  have hby := Bd.bytes
  have hml : c.maxLocals = 2 := hml0
  have hown : s.vm.findClass "java/lang/String" = some m.cls := findClass_of_methodNamed Bd.named
  have hnm := (name_of_methodNamed Bd.named Bd.method).1
  have X0 : Stand p l e ({ frames := 3, cells := 0, slots := 0, locals := 45 } : Room) s m #[(.ref a1)] below meth c s₁ [] 0 0 := Stand.of_body Bd
  have e0 : s₁.heap = h0 := by rw [← hh, Bd.state]; rfl
  have N0 := Fr.nil n0
  obtain ⟨T1, X1, e1, st1⟩ := getF X0 hx hZ hown (host := "") (Or.inl (wq hw 58 rfl)) Via.refl e0 F_hash_a1 (g := (mkF m 1 #[.val (.ref a1), .unset] [(.ref a1)])) rfl rfl (hb hby d9_1)
  obtain ⟨T2, X2, e2, st2⟩ := getF X1 hx hZ hown (host := "") (Or.inl (wq hw 60 rfl)) Via.refl e1 F_hashIsZero_a1 (g := (mkF m 10 #[.val (.ref a1), .val (.int p2)] [(.ref a1)])) rfl rfl (hb hby d9_10)
  obtain ⟨cq3, kq3, q3a, q3b, q3c⟩ := isOf hZ e2 E_a1
  obtain ⟨_, _, ⟨T3, L3, k3, n3⟩, -, X3, ⟨Lc3, hQ3, l3, y3, z3⟩, st3⟩ := X2.virtualBack hx (y := y10) (z := y10) hown (mvT hZ (wq hw 62 rfl)) (mvT hZ (wq hw 63 rfl)) (notFace_of_selects (args := #[]) (mvT hZ (wq hw 65 rfl))) (mvT hZ (wq hw 65 rfl)) (mvT hZ (wq hw 64 rfl)) (by decide) (backOf (W := 0) (rm12 l Z a0 hw [] cs_v hp a1 h0 n0 O0 F_coder_a1) hZ (wq hw 66 rfl) (wq hw 6 rfl) (by decide) (by decide)) q3a q3c (g := (mkF m 17 #[.val (.ref a1), .val (.int p2)] [(.ref a1)])) rfl (by rw [hml]; rfl) (Steps.refl _) (argsL := []) (rest := []) (lenOf pd_9 rfl) rfl (by show 2 * 0 + _ ≤ _; exact Nat.le_of_eq rfl) (hb hby d9_17) (fun _ _ => ⟨rfl, e2, (by decide : 0 + 0 ≤ _), (by decide : 0 + 0 ≤ _)⟩)
  dsimp only [Pt.U, Pt.locs, Pt.cells, Pt.slots] at X3 l3 y3 z3 st3 hQ3
  subst l3 y3 z3
  obtain ⟨rfl, Nq3, eq3⟩ := hQ3
  have N3 := Fr.app N0 Nq3
  obtain ⟨T4, X4, e4, st4⟩ := getF X3 hx hZ hown (host := "") (Or.inl (wq hw 26 rfl)) Via.refl eq3 F_value_a1 (g := (mkF m 24 #[.val (.ref a1), .val (.int p2)] [(.ref a1)])) rfl rfl (hb hby d9_24)
  obtain ⟨_, _, ⟨T5, L5, k5, n5⟩, -, X5, ⟨Lc5, hQ5, l5, y5, z5⟩, st5⟩ := Jvm.LawKit.callS X4 hx (y := y11) hown (mvT hZ (wq hw 67 rfl)) (mvT hZ (wq hw 68 rfl)) (mvT hZ (wq hw 11 rfl)) (mvT hZ (wq hw 69 rfl)) (by decide) (backOf (W := 0) (rm20 l Z a0 hw [] cs_v hp a4 k_a4 p6 p7 h0 n0 O0 V_a4 E_a4) hZ (wq hw 69 rfl) (wq hw 11 rfl) (by decide) (by decide)) (g := (mkF m 27 #[.val (.ref a1), .val (.int p2)] [(.ref a4)])) rfl (by rw [hml]; rfl) (argsL := [(.ref a4)]) (rest := []) (lenOf pd_10 rfl) rfl (by show 2 * 0 + _ ≤ _; exact Nat.le_of_eq rfl) (hb hby d9_27) (fun _ _ => ⟨rfl, e4, (by decide : 0 + 0 ≤ _), (by decide : 0 + 0 ≤ _)⟩)
  dsimp only [Pt.U, Pt.locs, Pt.cells, Pt.slots] at X5 l5 y5 z5 st5 hQ5
  subst l5 y5 z5
  obtain ⟨rfl, Nq5, eq5⟩ := hQ5
  have N5 := Fr.app N3 Nq5
  obtain ⟨T6, h6, X6, e6, W6, st6⟩ := putF X5 hx hZ hown (host := "") (Or.inl (wq hw 58 rfl)) Via.refl eq5 F_hash_a1 E_a1 (Or.inl (wq hw 59 rfl)) (wq hw 14 rfl) (ty := .int) (by decide) rfl rfl (g := (mkF m 55 #[.val (.ref a1), .val (.int (fx9 p6 p7))] [(.int (fx9 p6 p7)), (.ref a1)])) rfl rfl (hb hby d9_55)
  have N6 := Fr.snoc X6 N5 g_a1
  have K6 : Keep h0 h6 [a1] := (Keep.refl h0 [a1]).wr W6 (Or.inl (ma 0 rfl))
  have Fw6 := F_hash_a1.same W6
  obtain ⟨fs, hr, hrun, hended, hW, hsame⟩ := X6.leave (v := some (.int (((31 : Int32) * (((31 : Int32) * (0 : Int32)) + (p6 &&& (255 : Int32)))) + (p7 &&& (255 : Int32))))) (fun h => by rw [Bd.returns] at h; cases h)
  refine ⟨_, _, castTop (ef_9_0 m a1) ?_, hrun, hended, _, _, rfl, ?_, ⟨_, rfl⟩, hW, hsame.mono (by decide) (by decide)⟩
  · show Sp p e below s₁ (mkF m 0 #[.val (.ref a1), .unset] []) _
    refine XS.aloadN X0.here hx rfl (hb hby d9_0) rfl rfl ?_
    show Sp p e below s₁ (mkF m 1 #[.val (.ref a1), .unset] [(.ref a1)]) _
    refine st1 _ ?_
    show Sp p e below T1 (mkF m 4 #[.val (.ref a1), .unset] [(.int p2)]) _
    refine XS.istoreN X1.here hx rfl (hb hby d9_4) rfl (l' := #[.val (.ref a1), .val (.int p2)]) rfl ?_
    refine XS.iloadN X1.here hx rfl (hb hby d9_5) rfl ?_
    refine XS.ifNo X1.here hx rfl (hb hby d9_6) rfl ((if0 _ _).trans (teq hc2).2) ?_
    refine XS.aloadN X1.here hx rfl (hb hby d9_9) rfl rfl ?_
    show Sp p e below T1 (mkF m 10 #[.val (.ref a1), .val (.int p2)] [(.ref a1)]) _
    refine st2 _ ?_
    show Sp p e below T2 (mkF m 13 #[.val (.ref a1), .val (.int p2)] [(.int p3)]) _
    refine XS.ifNo X2.here hx rfl (hb hby d9_13) rfl ((if0 _ _).trans (teq hc4).2) ?_
    refine XS.aloadN X2.here hx rfl (hb hby d9_16) rfl rfl ?_
    show Sp p e below T2 (mkF m 17 #[.val (.ref a1), .val (.int p2)] [(.ref a1)]) _
    refine st3.trans ?_
    show Sp p e below T3 (mkF m 20 #[.val (.ref a1), .val (.int p2)] [(.int (1 : Int32))]) _
    refine XS.ifNo X3.here hx rfl (hb hby d9_20) rfl ((if0 _ _).trans (feq (by decide : ¬ ((1 : Int32) = (0 : Int32)))).1) ?_
    refine XS.aloadN X3.here hx rfl (hb hby d9_23) rfl rfl ?_
    show Sp p e below T3 (mkF m 24 #[.val (.ref a1), .val (.int p2)] [(.ref a1)]) _
    refine st4 _ ?_
    show Sp p e below T4 (mkF m 27 #[.val (.ref a1), .val (.int p2)] [(.ref a4)]) _
    refine st5 _ ?_
    show Sp p e below T5 (mkF m 30 #[.val (.ref a1), .val (.int p2)] [(.int (fx9 p6 p7))]) _
    refine XS.goto X5.here hx rfl (pc0 := 30) (pc' := 40) rfl (hb hby d9_30) (by decide) (by decide) ?_
    refine XS.istoreN X5.here hx rfl (hb hby d9_40) rfl (l' := #[.val (.ref a1), .val (.int (fx9 p6 p7))]) rfl ?_
    refine XS.iloadN X5.here hx rfl (hb hby d9_41) rfl ?_
    refine XS.ifYes X5.here hx rfl (pc0 := 42) (pc' := 53) rfl (hb hby d9_42) rfl ((if0 _ _).trans (feq hc10).2) (by decide) (by decide) ?_
    refine XS.aloadN X5.here hx rfl (hb hby d9_53) rfl rfl ?_
    refine XS.iloadN X5.here hx rfl (hb hby d9_54) rfl ?_
    show Sp p e below T5 (mkF m 55 #[.val (.ref a1), .val (.int (fx9 p6 p7))] [(.int (fx9 p6 p7)), (.ref a1)]) _
    refine st6 _ ?_
    show Sp p e below T6 (mkF m 58 #[.val (.ref a1), .val (.int (fx9 p6 p7))] []) _
    refine XS.iloadN X6.here hx rfl (hb hby d9_58) rfl ?_
    show Sp p e below T6 (mkF m 59 #[.val (.ref a1), .val (.int (fx9 p6 p7))] [(.int (fx9 p6 p7))]) _
    exact retI X6 hx Bd.returns (hb hby d9_59) hr
  · show Q22 Z cs_v a1 p2 p3 a4 k_a4 p6 p7 h0 n0 _ T6.heap _
    rw [e6]
    exact ⟨rfl, N6, K6, (E_a1.wr W6), (F_coder_a1.other W6 (Or.inr (sn9 hw))), Fw6, (F_hashIsZero_a1.other W6 (Or.inr (sn10 hw))), (F_value_a1.other W6 (Or.inr (sn11 hw)))⟩
def QHASH (Z : State) (b : Addr) (ks : List Value) (h0 : Heap) (n0 : Nat) (v : Option Value) (h : Heap) (L : List Loc) : Prop := v = some (.int (hvL ks)) ∧ Fr n0 L ∧ Keep h0 h [b] ∧ StrK Z h b ks
set_option maxRecDepth 65536 in
set_option maxHeartbeats 4000000 in
theorem rmHASH (l : Launch) (Z : State) (a0 : Array Value) (hw : ∀ d ∈ tables_1, d.before a0 Z = true) (ws : List Jvm.Cond) (cs_v : Int32) (hp : Perm Z cs_v) (b : Addr) (ks : List Value) (h0 : Heap) (n0 : Nat) (O0 : Old Z n0 h0) (g_b : n0 ≤ b) (K_b : StrK Z h0 b ks) :
    MetFree l y12 (head1 (Jvm.Cond.code y12 jdk_42_method_78_code 2 (some .int) :: ws) ({ frames := 3, cells := 0, slots := 0, locals := 45 } : Room)) (fun as' U => as' = #[(.ref b)] ∧ Z.Warmed39 U.vm ∧ U.heap = h0) (fun _ _ _ _ _ => True) (fun _ U o U' => ∃ v L, o = .returned v ∧ QHASH Z b ks h0 n0 v U'.heap L ∧ FrameEnd U o U' L ({ frames := 3, cells := 0, slots := 0, locals := 45 } : Room).cells ({ frames := 3, cells := 0, slots := 0, locals := 45 } : Room).slots) := by
  obtain ⟨vb, k, n, hv, zv, E_b, Fc_b, Fv_b, Fh_b, Fz_b, E_vb, V_vb, hh, hz, hk⟩ := id K_b
  have nv : vb ≠ b := E_vb.ne E_b (by decide)
  rcases hk with ⟨x, rfl, rfl⟩ | ⟨x, y, rfl, rfl⟩
  · skip
    by_cases d0 : hv = (0 : Int32)
    · skip
      by_cases d1 : zv = (0 : Int32)
      · skip
        by_cases d2 : (x &&& (255 : Int32)) = (0 : Int32)
        · skip
          refine (rm14 l Z a0 hw ws cs_v hp b hv zv vb k x h0 n0 O0 Fh_b d0 Fz_b d1 E_b Fc_b Fv_b V_vb d2 g_b).mono (fun _ _ h => h) (fun _ _ _ _ _ h => h) (fun _ s o s' _ ⟨v, L, e, q, f⟩ => ⟨v, L, e, ?_, f⟩)
          obtain ⟨e1, N1, K1, f0, f1, f2, f3, f4⟩ := q
          exact ⟨e1, N1, K1, vb, k, _, _, _, f0, f1, f4, f2, f3, E_vb.keep K1, V_vb.keep K1 (ninS nv nin0), Or.inl d0, Or.inr d2, Or.inl ⟨_, rfl, rfl⟩⟩
        · skip
          refine (rm17 l Z a0 hw ws cs_v hp b hv zv vb k x h0 n0 O0 Fh_b d0 Fz_b d1 E_b Fc_b Fv_b V_vb d2 g_b).mono (fun _ _ h => h) (fun _ _ _ _ _ h => h) (fun _ s o s' _ ⟨v, L, e, q, f⟩ => ⟨v, L, e, ?_, f⟩)
          obtain ⟨e1, N1, K1, f0, f1, f2, f3, f4⟩ := q
          exact ⟨e1, N1, K1, vb, k, _, _, _, f0, f1, f4, f2, f3, E_vb.keep K1, V_vb.keep K1 (ninS nv nin0), Or.inr rfl, Or.inl d1, Or.inl ⟨_, rfl, rfl⟩⟩
      · skip
        refine (rm16 l Z a0 hw ws cs_v hp b hv zv h0 n0 O0 Fh_b d0 Fz_b d1).mono (fun _ _ h => h) (fun _ _ _ _ _ h => h) (fun _ s o s' _ ⟨v, L, e, q, f⟩ => ⟨v, L, e, ?_, f⟩)
        obtain ⟨e1, N1, rfl⟩ := q
        exact ⟨by rw [hz.resolve_left d1]; exact e1.trans (by rw [d0]), N1, Keep.refl _ _, K_b⟩
    · skip
      refine (rm15 l Z a0 hw ws cs_v hp b hv h0 n0 O0 Fh_b d0).mono (fun _ _ h => h) (fun _ _ _ _ _ h => h) (fun _ s o s' _ ⟨v, L, e, q, f⟩ => ⟨v, L, e, ?_, f⟩)
      obtain ⟨e1, N1, rfl⟩ := q
      exact ⟨by rw [← hh.resolve_left d0]; exact e1, N1, Keep.refl _ _, K_b⟩
  · skip
    by_cases d0 : hv = (0 : Int32)
    · skip
      by_cases d1 : zv = (0 : Int32)
      · skip
        by_cases d2 : (((31 : Int32) * (((31 : Int32) * (0 : Int32)) + (x &&& (255 : Int32)))) + (y &&& (255 : Int32))) = (0 : Int32)
        · skip
          refine (rm21 l Z a0 hw ws cs_v hp b hv zv vb k x y h0 n0 O0 Fh_b d0 Fz_b d1 E_b Fc_b Fv_b V_vb E_vb d2 g_b).mono (fun _ _ h => h) (fun _ _ _ _ _ h => h) (fun _ s o s' _ ⟨v, L, e, q, f⟩ => ⟨v, L, e, ?_, f⟩)
          obtain ⟨e1, N1, K1, f0, f1, f2, f3, f4⟩ := q
          exact ⟨e1, N1, K1, vb, k, _, _, _, f0, f1, f4, f2, f3, E_vb.keep K1, V_vb.keep K1 (ninS nv nin0), Or.inl d0, Or.inr d2, Or.inr ⟨_, _, rfl, rfl⟩⟩
        · skip
          refine (rm22 l Z a0 hw ws cs_v hp b hv zv vb k x y h0 n0 O0 Fh_b d0 Fz_b d1 E_b Fc_b Fv_b V_vb E_vb d2 g_b).mono (fun _ _ h => h) (fun _ _ _ _ _ h => h) (fun _ s o s' _ ⟨v, L, e, q, f⟩ => ⟨v, L, e, ?_, f⟩)
          obtain ⟨e1, N1, K1, f0, f1, f2, f3, f4⟩ := q
          exact ⟨e1, N1, K1, vb, k, _, _, _, f0, f1, f4, f2, f3, E_vb.keep K1, V_vb.keep K1 (ninS nv nin0), Or.inr rfl, Or.inl d1, Or.inr ⟨_, _, rfl, rfl⟩⟩
      · skip
        refine (rm16 l Z a0 hw ws cs_v hp b hv zv h0 n0 O0 Fh_b d0 Fz_b d1).mono (fun _ _ h => h) (fun _ _ _ _ _ h => h) (fun _ s o s' _ ⟨v, L, e, q, f⟩ => ⟨v, L, e, ?_, f⟩)
        obtain ⟨e1, N1, rfl⟩ := q
        exact ⟨by rw [hz.resolve_left d1]; exact e1.trans (by rw [d0]), N1, Keep.refl _ _, K_b⟩
    · skip
      refine (rm15 l Z a0 hw ws cs_v hp b hv h0 n0 O0 Fh_b d0).mono (fun _ _ h => h) (fun _ _ _ _ _ h => h) (fun _ s o s' _ ⟨v, L, e, q, f⟩ => ⟨v, L, e, ?_, f⟩)
      obtain ⟨e1, N1, rfl⟩ := q
      exact ⟨by rw [← hh.resolve_left d0]; exact e1, N1, Keep.refl _ _, K_b⟩
theorem d13_0 : decode jdk_42_method_66_code 0 = .ok (.aload_n 0, 1) := by decide +kernel
theorem d13_1 : decode jdk_42_method_66_code 1 = .ok (.aload_n 1, 1) := by decide +kernel
theorem d13_2 : decode jdk_42_method_66_code 2 = .ok (.if_acmp .ne 5, 3) := by decide +kernel
theorem d13_7 : decode jdk_42_method_66_code 7 = .ok (.aload_n 1, 1) := by decide +kernel
theorem d13_8 : decode jdk_42_method_66_code 8 = .ok (.instanceof 10, 3) := by decide +kernel
theorem d13_11 : decode jdk_42_method_66_code 11 = .ok (.ifCond .eq 43, 3) := by decide +kernel
theorem d13_14 : decode jdk_42_method_66_code 14 = .ok (.aload_n 1, 1) := by decide +kernel
theorem d13_15 : decode jdk_42_method_66_code 15 = .ok (.checkcast 10, 3) := by decide +kernel
theorem d13_18 : decode jdk_42_method_66_code 18 = .ok (.astore_n 2, 1) := by decide +kernel
theorem d13_19 : decode jdk_42_method_66_code 19 = .ok (.getstatic 38, 3) := by decide +kernel
theorem d13_22 : decode jdk_42_method_66_code 22 = .ok (.ifCond .eq 14, 3) := by decide +kernel
theorem d13_25 : decode jdk_42_method_66_code 25 = .ok (.aload_n 0, 1) := by decide +kernel
theorem d13_26 : decode jdk_42_method_66_code 26 = .ok (.getfield 15, 3) := by decide +kernel
theorem d13_29 : decode jdk_42_method_66_code 29 = .ok (.aload_n 2, 1) := by decide +kernel
theorem d13_30 : decode jdk_42_method_66_code 30 = .ok (.getfield 15, 3) := by decide +kernel
theorem d13_33 : decode jdk_42_method_66_code 33 = .ok (.if_icmp .ne 21, 3) := by decide +kernel
theorem d13_36 : decode jdk_42_method_66_code 36 = .ok (.aload_n 0, 1) := by decide +kernel
theorem d13_37 : decode jdk_42_method_66_code 37 = .ok (.getfield 9, 3) := by decide +kernel
theorem d13_40 : decode jdk_42_method_66_code 40 = .ok (.aload_n 2, 1) := by decide +kernel
theorem d13_41 : decode jdk_42_method_66_code 41 = .ok (.getfield 9, 3) := by decide +kernel
theorem d13_44 : decode jdk_42_method_66_code 44 = .ok (.invokestatic 541, 3) := by decide +kernel
theorem d14_0 : decode jdk_43_method_13_code 0 = .ok (.aload_n 0, 1) := by decide +kernel
theorem d14_1 : decode jdk_43_method_13_code 1 = .ok (.arraylength, 1) := by decide +kernel
theorem d14_2 : decode jdk_43_method_13_code 2 = .ok (.aload_n 1, 1) := by decide +kernel
theorem d14_3 : decode jdk_43_method_13_code 3 = .ok (.arraylength, 1) := by decide +kernel
theorem d14_4 : decode jdk_43_method_13_code 4 = .ok (.if_icmp .ne 30, 3) := by decide +kernel
theorem d14_7 : decode jdk_43_method_13_code 7 = .ok (.iconst 0, 1) := by decide +kernel
theorem d14_8 : decode jdk_43_method_13_code 8 = .ok (.istore_n 2, 1) := by decide +kernel
theorem d14_9 : decode jdk_43_method_13_code 9 = .ok (.iload_n 2, 1) := by decide +kernel
theorem d14_10 : decode jdk_43_method_13_code 10 = .ok (.aload_n 0, 1) := by decide +kernel
theorem d14_11 : decode jdk_43_method_13_code 11 = .ok (.arraylength, 1) := by decide +kernel
theorem d14_12 : decode jdk_43_method_13_code 12 = .ok (.if_icmp .ge 20, 3) := by decide +kernel
theorem d14_15 : decode jdk_43_method_13_code 15 = .ok (.aload_n 0, 1) := by decide +kernel
theorem d14_16 : decode jdk_43_method_13_code 16 = .ok (.iload_n 2, 1) := by decide +kernel
theorem d14_17 : decode jdk_43_method_13_code 17 = .ok (.baload, 1) := by decide +kernel
theorem d14_18 : decode jdk_43_method_13_code 18 = .ok (.aload_n 1, 1) := by decide +kernel
theorem d14_19 : decode jdk_43_method_13_code 19 = .ok (.iload_n 2, 1) := by decide +kernel
theorem d14_20 : decode jdk_43_method_13_code 20 = .ok (.baload, 1) := by decide +kernel
theorem d14_21 : decode jdk_43_method_13_code 21 = .ok (.if_icmp .eq 5, 3) := by decide +kernel
theorem d14_26 : decode jdk_43_method_13_code 26 = .ok (.iinc 2 1, 3) := by decide +kernel
theorem d14_29 : decode jdk_43_method_13_code 29 = .ok (.goto (-20), 3) := by decide +kernel
theorem d14_32 : decode jdk_43_method_13_code 32 = .ok (.iconst 1, 1) := by decide +kernel
theorem d14_33 : decode jdk_43_method_13_code 33 = .ok (.ireturn, 1) := by decide +kernel
abbrev y15 : MethodName := (⟨"java/lang/StringLatin1", "equals", "([B[B)Z"⟩ : MethodName)
theorem ef_14_0 (m : MethodId) (x0 : Addr) (x1 : Addr) : entryFrame m #[(.ref x0), (.ref x1)] 3 = mkF m 0 #[.val (.ref x0), .val (.ref x1), .unset] [] := by first | (simp [entryFrame, mkF, argsToLocals, Value.category]; done) | rfl
def Q23 (Z : State) (cs_v : Int32) (a1 : Addr) (a2 : Addr) (k_a1 : ClassId) (p4 : Int32) (k_a2 : ClassId) (p6 : Int32) (h0 : Heap) (n0 : Nat) (v : Option Value) (h : Heap) (L : List Loc) : Prop := v = some (.int (1 : Int32)) ∧ Fr n0 L ∧ h = h0
theorem rm23 (l : Launch) (Z : State) (a0 : Array Value) (hw : ∀ d ∈ tables_1, d.before a0 Z = true) (ws : List Jvm.Cond) (cs_v : Int32) (hp : Perm Z cs_v) (a1 : Addr) (a2 : Addr) (k_a1 : ClassId) (p4 : Int32) (k_a2 : ClassId) (p6 : Int32) (h0 : Heap) (n0 : Nat) (O0 : Old Z n0 h0) (V_a1 : Arv Z h0 a1 k_a1 .byte (1 : Int32) [(.int p4)] (.int (0 : Int32))) (V_a2 : Arv Z h0 a2 k_a2 .byte (1 : Int32) [(.int p6)] (.int (0 : Int32))) (hc3 : p4 = p6) :
    MetFree l y15 (head1 (Jvm.Cond.code y15 jdk_43_method_13_code 3 (some .boolean) :: ws) ({ frames := 0, cells := 0, slots := 0, locals := 0 } : Room)) (fun a U => a = #[(.ref a1), (.ref a2)] ∧ Z.Warmed39 U.vm ∧ U.heap = h0) (fun _ _ _ _ _ => True) (fun _ U o U' => ∃ v L, o = .returned v ∧ Q23 Z cs_v a1 a2 k_a1 p4 k_a2 p6 h0 n0 v U'.heap L ∧ FrameEnd U o U' L ({ frames := 0, cells := 0, slots := 0, locals := 0 } : Room).cells ({ frames := 0, cells := 0, slots := 0, locals := 0 } : Room).slots) := by
  refine MetFree.of_bodySF (plainFor_of_name pn_3) hisR ?_
  intro p e s m args below meth c s₁ Bd hml0 hP hK
  obtain ⟨rfl, hZ, hh⟩ := hP
  have hx := Bd.exec
  have hby := Bd.bytes
  have hml : c.maxLocals = 3 := hml0
  have hown : s.vm.findClass "java/lang/StringLatin1" = some m.cls := findClass_of_methodNamed Bd.named
  have hnm := (name_of_methodNamed Bd.named Bd.method).1
  have X0 : Stand p l e ({ frames := 0, cells := 0, slots := 0, locals := 0 } : Room) s m #[(.ref a1), (.ref a2)] below meth c s₁ [] 0 0 := Stand.of_body Bd
  have e0 : s₁.heap = h0 := by rw [← hh, Bd.state]; rfl
  have N0 := Fr.nil n0
  obtain ⟨cl1, Ar1, -, S1, Nn1, -, -⟩ := id V_a1
  obtain ⟨cl2, Ar2, -, S2, Nn2, -, -⟩ := id V_a2
  obtain ⟨cl3, Ar3, -, S3, Nn3, -, -⟩ := id V_a1
  obtain ⟨cl4, Ar4, -, S4, -, H4, -⟩ := id V_a1
  have hin4 : ¬ ((0 : Int32) < 0 ∨ cl4.slots.size ≤ ((0 : Int32)).toNatClampNeg) := inb_of S4 ⟨by decide, by decide⟩
  have hat4 : cl4.slots[((0 : Int32)).toNatClampNeg]? = some (.int p4) := H4.at hin4 rfl
  obtain ⟨cl5, Ar5, -, S5, -, H5, -⟩ := id V_a2
  have hin5 : ¬ ((0 : Int32) < 0 ∨ cl5.slots.size ≤ ((0 : Int32)).toNatClampNeg) := inb_of S5 ⟨by decide, by decide⟩
  have hat5 : cl5.slots[((0 : Int32)).toNatClampNeg]? = some (.int p6) := H5.at hin5 rfl
  obtain ⟨cl6, Ar6, -, S6, Nn6, -, -⟩ := id V_a1
  obtain ⟨fs, hr, hrun, hended, hW, hsame⟩ := X0.leave (v := some (.int (1 : Int32))) (fun h => by rw [Bd.returns] at h; cases h)
  refine ⟨_, _, castTop (ef_14_0 m a1 a2) ?_, hrun, hended, _, _, rfl, ?_, ⟨_, rfl⟩, hW, hsame.mono (by decide) (by decide)⟩
  · show Sp p e below s₁ (mkF m 0 #[.val (.ref a1), .val (.ref a2), .unset] []) _
    refine XS.aloadN X0.here hx rfl (hb hby d14_0) rfl rfl ?_
    show Sp p e below s₁ (mkF m 1 #[.val (.ref a1), .val (.ref a2), .unset] [(.ref a1)]) _
    refine X0.arraylength hx (by rw [e0]; exact Ar1.1) (State.isArrayOf_alike hZ.alike Ar1.2.1) (g := (mkF m 1 #[.val (.ref a1), .val (.ref a2), .unset] [(.ref a1)])) rfl rfl (hb hby d14_1) _ ?_
    rw [len_of S1 Nn1]
    show Sp p e below s₁ (mkF m 2 #[.val (.ref a1), .val (.ref a2), .unset] [(.int (1 : Int32))]) _
    refine XS.aloadN X0.here hx rfl (hb hby d14_2) rfl rfl ?_
    show Sp p e below s₁ (mkF m 3 #[.val (.ref a1), .val (.ref a2), .unset] [(.ref a2), (.int (1 : Int32))]) _
    refine X0.arraylength hx (by rw [e0]; exact Ar2.1) (State.isArrayOf_alike hZ.alike Ar2.2.1) (g := (mkF m 3 #[.val (.ref a1), .val (.ref a2), .unset] [(.ref a2), (.int (1 : Int32))])) rfl rfl (hb hby d14_3) _ ?_
    rw [len_of S2 Nn2]
    show Sp p e below s₁ (mkF m 4 #[.val (.ref a1), .val (.ref a2), .unset] [(.int (1 : Int32)), (.int (1 : Int32))]) _
    refine XS.icmpNo X0.here hx rfl (hb hby d14_4) rfl (teq (by decide : (1 : Int32) = (1 : Int32))).2 ?_
    refine XS.iconst X0.here hx rfl (hb hby d14_7) ?_
    refine XS.istoreN X0.here hx rfl (hb hby d14_8) rfl (l' := #[.val (.ref a1), .val (.ref a2), .val (.int (0 : Int32))]) rfl ?_
    refine XS.iloadN X0.here hx rfl (hb hby d14_9) rfl ?_
    refine XS.aloadN X0.here hx rfl (hb hby d14_10) rfl rfl ?_
    show Sp p e below s₁ (mkF m 11 #[.val (.ref a1), .val (.ref a2), .val (.int (0 : Int32))] [(.ref a1), (.int (0 : Int32))]) _
    refine X0.arraylength hx (by rw [e0]; exact Ar3.1) (State.isArrayOf_alike hZ.alike Ar3.2.1) (g := (mkF m 11 #[.val (.ref a1), .val (.ref a2), .val (.int (0 : Int32))] [(.ref a1), (.int (0 : Int32))])) rfl rfl (hb hby d14_11) _ ?_
    rw [len_of S3 Nn3]
    show Sp p e below s₁ (mkF m 12 #[.val (.ref a1), .val (.ref a2), .val (.int (0 : Int32))] [(.int (1 : Int32)), (.int (0 : Int32))]) _
    refine XS.icmpNo X0.here hx rfl (hb hby d14_12) rfl (tlt (by decide : (0 : Int32) < (1 : Int32))).2.1 ?_
    refine XS.aloadN X0.here hx rfl (hb hby d14_15) rfl rfl ?_
    refine XS.iloadN X0.here hx rfl (hb hby d14_16) rfl ?_
    show Sp p e below s₁ (mkF m 17 #[.val (.ref a1), .val (.ref a2), .val (.int (0 : Int32))] [(.int (0 : Int32)), (.ref a1)]) _
    refine X0.baloadBytes hx (j := (0 : Int32)) (v := (.int p4)) (by rw [e0]; exact Ar4.1) (State.isArrayOf_alike hZ.alike Ar4.2.1) Ar4.2.2 hin4 hat4 (g := (mkF m 17 #[.val (.ref a1), .val (.ref a2), .val (.int (0 : Int32))] [(.int (0 : Int32)), (.ref a1)])) rfl rfl (hb hby d14_17) _ ?_
    show Sp p e below s₁ (mkF m 18 #[.val (.ref a1), .val (.ref a2), .val (.int (0 : Int32))] [(.int p4)]) _
    refine XS.aloadN X0.here hx rfl (hb hby d14_18) rfl rfl ?_
    refine XS.iloadN X0.here hx rfl (hb hby d14_19) rfl ?_
    show Sp p e below s₁ (mkF m 20 #[.val (.ref a1), .val (.ref a2), .val (.int (0 : Int32))] [(.int (0 : Int32)), (.ref a2), (.int p4)]) _
    refine X0.baloadBytes hx (j := (0 : Int32)) (v := (.int p6)) (by rw [e0]; exact Ar5.1) (State.isArrayOf_alike hZ.alike Ar5.2.1) Ar5.2.2 hin5 hat5 (g := (mkF m 20 #[.val (.ref a1), .val (.ref a2), .val (.int (0 : Int32))] [(.int (0 : Int32)), (.ref a2), (.int p4)])) rfl rfl (hb hby d14_20) _ ?_
    show Sp p e below s₁ (mkF m 21 #[.val (.ref a1), .val (.ref a2), .val (.int (0 : Int32))] [(.int p6), (.int p4)]) _
    refine XS.icmpYes X0.here hx rfl (pc0 := 21) (pc' := 26) rfl (hb hby d14_21) rfl (teq hc3).1 (by decide) (by decide) ?_
    show Sp p e below s₁ (mkF m 26 #[.val (.ref a1), .val (.ref a2), .val (.int (0 : Int32))] []) _
    refine XS.iinc X0.here hx rfl (hb hby d14_26) rfl (l' := #[.val (.ref a1), .val (.ref a2), .val (.int (fx2 ))]) rfl ?_
    refine XS.goto X0.here hx rfl (pc0 := 29) (pc' := 9) rfl (hb hby d14_29) (by decide) (by decide) ?_
    refine XS.iloadN X0.here hx rfl (hb hby d14_9) rfl ?_
    refine XS.aloadN X0.here hx rfl (hb hby d14_10) rfl rfl ?_
    show Sp p e below s₁ (mkF m 11 #[.val (.ref a1), .val (.ref a2), .val (.int (fx2 ))] [(.ref a1), (.int (fx2 ))]) _
    refine X0.arraylength hx (by rw [e0]; exact Ar6.1) (State.isArrayOf_alike hZ.alike Ar6.2.1) (g := (mkF m 11 #[.val (.ref a1), .val (.ref a2), .val (.int (fx2 ))] [(.ref a1), (.int (fx2 ))])) rfl rfl (hb hby d14_11) _ ?_
    rw [len_of S6 Nn6]
    show Sp p e below s₁ (mkF m 12 #[.val (.ref a1), .val (.ref a2), .val (.int (fx2 ))] [(.int (1 : Int32)), (.int (fx2 ))]) _
    refine XS.icmpYes X0.here hx rfl (pc0 := 12) (pc' := 32) rfl (hb hby d14_12) rfl (flt (by decide : ¬ (((0 : Int32) + (1 : Int32)) < (1 : Int32)))).2.1 (by decide) (by decide) ?_
    refine XS.iconst X0.here hx rfl (hb hby d14_32) ?_
    show Sp p e below s₁ (mkF m 33 #[.val (.ref a1), .val (.ref a2), .val (.int (fx2 ))] [(.int (1 : Int32))]) _
    exact retN X0 hx (t := .boolean) Bd.returns (by simp) (hb hby d14_33) hr
  · show Q23 Z cs_v a1 a2 k_a1 p4 k_a2 p6 h0 n0 _ s₁.heap _
    rw [e0]
    exact ⟨rfl, N0, rfl⟩
theorem pd_13 : parseMethodDescriptor "([B[B)Z" = some ⟨[(.array .byte), (.array .byte)], some .boolean⟩ := by decide +kernel
theorem d13_47 : decode jdk_42_method_66_code 47 = .ok (.ifCond .eq 7, 3) := by decide +kernel
theorem d13_50 : decode jdk_42_method_66_code 50 = .ok (.iconst 1, 1) := by decide +kernel
theorem d13_51 : decode jdk_42_method_66_code 51 = .ok (.goto 4, 3) := by decide +kernel
theorem d13_55 : decode jdk_42_method_66_code 55 = .ok (.ireturn, 1) := by decide +kernel
abbrev y16 : MethodName := (⟨"java/lang/String", "equals", "(Ljava/lang/Object;)Z"⟩ : MethodName)
theorem ef_13_0 (m : MethodId) (x0 : Addr) (x1 : Addr) : entryFrame m #[(.ref x0), (.ref x1)] 3 = mkF m 0 #[.val (.ref x0), .val (.ref x1), .unset] [] := by first | (simp [entryFrame, mkF, argsToLocals, Value.category]; done) | rfl
def Q24 (Z : State) (cs_v : Int32) (a1 : Addr) (a2 : Addr) (a3 : Addr) (a4 : Addr) (k_a3 : ClassId) (p6 : Int32) (k_a4 : ClassId) (p8 : Int32) (h0 : Heap) (n0 : Nat) (v : Option Value) (h : Heap) (L : List Loc) : Prop := v = some (.int (1 : Int32)) ∧ Fr n0 L ∧ h = h0
theorem rm24 (l : Launch) (Z : State) (a0 : Array Value) (hw : ∀ d ∈ tables_1, d.before a0 Z = true) (ws : List Jvm.Cond) (cs_v : Int32) (hp : Perm Z cs_v) (a1 : Addr) (a2 : Addr) (a3 : Addr) (a4 : Addr) (k_a3 : ClassId) (p6 : Int32) (k_a4 : ClassId) (p8 : Int32) (h0 : Heap) (n0 : Nat) (O0 : Old Z n0 h0) (ne_a1_a2 : a1 ≠ a2) (E_a2 : Exa Z h0 a2 "java/lang/String") (F_coder_a1 : Fld Z h0 a1 "java/lang/String" "coder" "B" (.int (0 : Int32))) (F_coder_a2 : Fld Z h0 a2 "java/lang/String" "coder" "B" (.int (0 : Int32))) (F_value_a1 : Fld Z h0 a1 "java/lang/String" "value" "[B" (.ref a3)) (F_value_a2 : Fld Z h0 a2 "java/lang/String" "value" "[B" (.ref a4)) (V_a3 : Arv Z h0 a3 k_a3 .byte (1 : Int32) [(.int p6)] (.int (0 : Int32))) (V_a4 : Arv Z h0 a4 k_a4 .byte (1 : Int32) [(.int p8)] (.int (0 : Int32))) (hc9 : p6 = p8) :
    MetFree l y16 (head1 (Jvm.Cond.code y16 jdk_42_method_66_code 3 (some .boolean) :: ws) ({ frames := 1, cells := 0, slots := 0, locals := 14 } : Room)) (fun a U => a = #[(.ref a1), (.ref a2)] ∧ Z.Warmed39 U.vm ∧ U.heap = h0) (fun _ _ _ _ _ => True) (fun _ U o U' => ∃ v L, o = .returned v ∧ Q24 Z cs_v a1 a2 a3 a4 k_a3 p6 k_a4 p8 h0 n0 v U'.heap L ∧ FrameEnd U o U' L ({ frames := 1, cells := 0, slots := 0, locals := 14 } : Room).cells ({ frames := 1, cells := 0, slots := 0, locals := 14 } : Room).slots) := by
  refine MetFree.of_bodySF (plainFor_of_name pn_5) hisR ?_
  intro p e s m args below meth c s₁ Bd hml0 hP hK
  obtain ⟨rfl, hZ, hh⟩ := hP
  have hx := Bd.exec
  have hby := Bd.bytes
  have hml : c.maxLocals = 3 := hml0
  have hown : s.vm.findClass "java/lang/String" = some m.cls := findClass_of_methodNamed Bd.named
  have hnm := (name_of_methodNamed Bd.named Bd.method).1
  have X0 : Stand p l e ({ frames := 1, cells := 0, slots := 0, locals := 14 } : Room) s m #[(.ref a1), (.ref a2)] below meth c s₁ [] 0 0 := Stand.of_body Bd
  have e0 : s₁.heap = h0 := by rw [← hh, Bd.state]; rfl
  have N0 := Fr.nil n0
  have hp' := hp
  obtain ⟨S_COMPACT_STRINGS, h_cs⟩ := hp'
  obtain ⟨T1, X1, e1, st1⟩ := instY X0 hx hZ hown (wq hw 13 rfl) e0 (Ins.self E_a2) (g := (mkF m 8 #[.val (.ref a1), .val (.ref a2), .unset] [(.ref a2)])) rfl rfl (hb hby d13_8)
  obtain ⟨T2, X2, e2, st2⟩ := castY X1 hx hZ hown (wq hw 13 rfl) e1 (Ins.self E_a2) (g := (mkF m 15 #[.val (.ref a1), .val (.ref a2), .unset] [(.ref a2)])) rfl rfl (hb hby d13_15)
  obtain ⟨T3, X3, e3, st3⟩ := getS2 X2 hx hZ hown (host := "") (Or.inl (wq hw 8 rfl)) Via.refl e2 (S_COMPACT_STRINGS.ext O0.2) (g := (mkF m 19 #[.val (.ref a1), .val (.ref a2), .val (.ref a2)] [])) rfl (hb hby d13_19)
  obtain ⟨T4, X4, e4, st4⟩ := getF X3 hx hZ hown (host := "") (Or.inl (wq hw 28 rfl)) Via.refl e3 F_coder_a1 (g := (mkF m 26 #[.val (.ref a1), .val (.ref a2), .val (.ref a2)] [(.ref a1)])) rfl rfl (hb hby d13_26)
  obtain ⟨T5, X5, e5, st5⟩ := getF X4 hx hZ hown (host := "") (Or.inl (wq hw 28 rfl)) Via.refl e4 F_coder_a2 (g := (mkF m 30 #[.val (.ref a1), .val (.ref a2), .val (.ref a2)] [(.ref a2), (.int (0 : Int32))])) rfl rfl (hb hby d13_30)
  obtain ⟨T6, X6, e6, st6⟩ := getF X5 hx hZ hown (host := "") (Or.inl (wq hw 26 rfl)) Via.refl e5 F_value_a1 (g := (mkF m 37 #[.val (.ref a1), .val (.ref a2), .val (.ref a2)] [(.ref a1)])) rfl rfl (hb hby d13_37)
  obtain ⟨T7, X7, e7, st7⟩ := getF X6 hx hZ hown (host := "") (Or.inl (wq hw 26 rfl)) Via.refl e6 F_value_a2 (g := (mkF m 41 #[.val (.ref a1), .val (.ref a2), .val (.ref a2)] [(.ref a2), (.ref a3)])) rfl rfl (hb hby d13_41)
  obtain ⟨_, _, ⟨T8, L8, k8, n8⟩, -, X8, ⟨Lc8, hQ8, l8, y8, z8⟩, st8⟩ := Jvm.LawKit.callS X7 hx (y := y15) hown (mvT hZ (wq hw 84 rfl)) (mvT hZ (wq hw 85 rfl)) (mvT hZ (wq hw 11 rfl)) (mvT hZ (wq hw 86 rfl)) (by decide) (backOf (W := 0) (rm23 l Z a0 hw [] cs_v hp a3 a4 k_a3 p6 k_a4 p8 h0 n0 O0 V_a3 V_a4 hc9) hZ (wq hw 86 rfl) (wq hw 11 rfl) (by decide) (by decide)) (g := (mkF m 44 #[.val (.ref a1), .val (.ref a2), .val (.ref a2)] [(.ref a4), (.ref a3)])) rfl (by rw [hml]; rfl) (argsL := [(.ref a3), (.ref a4)]) (rest := []) (lenOf pd_13 rfl) rfl (by show 2 * 0 + _ ≤ _; exact Nat.le_of_eq rfl) (hb hby d13_44) (fun _ _ => ⟨rfl, e7, (by decide : 0 + 0 ≤ _), (by decide : 0 + 0 ≤ _)⟩)
  dsimp only [Pt.U, Pt.locs, Pt.cells, Pt.slots] at X8 l8 y8 z8 st8 hQ8
  subst l8 y8 z8
  obtain ⟨rfl, Nq8, eq8⟩ := hQ8
  have N8 := Fr.app N0 Nq8
  obtain ⟨fs, hr, hrun, hended, hW, hsame⟩ := X8.leave (v := some (.int (1 : Int32))) (fun h => by rw [Bd.returns] at h; cases h)
  refine ⟨_, _, castTop (ef_13_0 m a1 a2) ?_, hrun, hended, _, _, rfl, ?_, ⟨_, rfl⟩, hW, hsame.mono (by decide) (by decide)⟩
  · show Sp p e below s₁ (mkF m 0 #[.val (.ref a1), .val (.ref a2), .unset] []) _
    refine XS.aloadN X0.here hx rfl (hb hby d13_0) rfl rfl ?_
    refine XS.aloadN X0.here hx rfl (hb hby d13_1) rfl rfl ?_
    show Sp p e below s₁ (mkF m 2 #[.val (.ref a1), .val (.ref a2), .unset] [(.ref a2), (.ref a1)]) _
    refine Jvm.RoadKit.acmp (g := (mkF m 2 #[.val (.ref a1), .val (.ref a2), .unset] [(.ref a2), (.ref a1)])) X0 hx rfl rfl rfl (pc0 := 2) (pc' := 7) (same := false) rfl (hb hby d13_2) rfl (decide_eq_false fun q => ne_a1_a2 (Value.ref.inj q)) (by decide) (by decide) ?_
    show Sp p e below s₁ (mkF m 7 #[.val (.ref a1), .val (.ref a2), .unset] []) _
    refine XS.aloadN X0.here hx rfl (hb hby d13_7) rfl rfl ?_
    show Sp p e below s₁ (mkF m 8 #[.val (.ref a1), .val (.ref a2), .unset] [(.ref a2)]) _
    refine st1 _ ?_
    show Sp p e below T1 (mkF m 11 #[.val (.ref a1), .val (.ref a2), .unset] [(.int (1 : Int32))]) _
    refine XS.ifNo X1.here hx rfl (hb hby d13_11) rfl ((if0 _ _).trans (feq (by decide : ¬ ((1 : Int32) = (0 : Int32)))).1) ?_
    refine XS.aloadN X1.here hx rfl (hb hby d13_14) rfl rfl ?_
    show Sp p e below T1 (mkF m 15 #[.val (.ref a1), .val (.ref a2), .unset] [(.ref a2)]) _
    refine st2 _ ?_
    show Sp p e below T2 (mkF m 18 #[.val (.ref a1), .val (.ref a2), .unset] [(.ref a2)]) _
    refine XS.astoreN X2.here hx rfl (hb hby d13_18) rfl rfl (l' := #[.val (.ref a1), .val (.ref a2), .val (.ref a2)]) rfl ?_
    show Sp p e below T2 (mkF m 19 #[.val (.ref a1), .val (.ref a2), .val (.ref a2)] []) _
    refine st3 _ ?_
    show Sp p e below T3 (mkF m 22 #[.val (.ref a1), .val (.ref a2), .val (.ref a2)] [(.int cs_v)]) _
    refine XS.ifNo X3.here hx rfl (hb hby d13_22) rfl ((if0 _ _).trans (feq h_cs).1) ?_
    refine XS.aloadN X3.here hx rfl (hb hby d13_25) rfl rfl ?_
    show Sp p e below T3 (mkF m 26 #[.val (.ref a1), .val (.ref a2), .val (.ref a2)] [(.ref a1)]) _
    refine st4 _ ?_
    show Sp p e below T4 (mkF m 29 #[.val (.ref a1), .val (.ref a2), .val (.ref a2)] [(.int (0 : Int32))]) _
    refine XS.aloadN X4.here hx rfl (hb hby d13_29) rfl rfl ?_
    show Sp p e below T4 (mkF m 30 #[.val (.ref a1), .val (.ref a2), .val (.ref a2)] [(.ref a2), (.int (0 : Int32))]) _
    refine st5 _ ?_
    show Sp p e below T5 (mkF m 33 #[.val (.ref a1), .val (.ref a2), .val (.ref a2)] [(.int (0 : Int32)), (.int (0 : Int32))]) _
    refine XS.icmpNo X5.here hx rfl (hb hby d13_33) rfl (teq (by decide : (0 : Int32) = (0 : Int32))).2 ?_
    refine XS.aloadN X5.here hx rfl (hb hby d13_36) rfl rfl ?_
    show Sp p e below T5 (mkF m 37 #[.val (.ref a1), .val (.ref a2), .val (.ref a2)] [(.ref a1)]) _
    refine st6 _ ?_
    show Sp p e below T6 (mkF m 40 #[.val (.ref a1), .val (.ref a2), .val (.ref a2)] [(.ref a3)]) _
    refine XS.aloadN X6.here hx rfl (hb hby d13_40) rfl rfl ?_
    show Sp p e below T6 (mkF m 41 #[.val (.ref a1), .val (.ref a2), .val (.ref a2)] [(.ref a2), (.ref a3)]) _
    refine st7 _ ?_
    show Sp p e below T7 (mkF m 44 #[.val (.ref a1), .val (.ref a2), .val (.ref a2)] [(.ref a4), (.ref a3)]) _
    refine st8 _ ?_
    show Sp p e below T8 (mkF m 47 #[.val (.ref a1), .val (.ref a2), .val (.ref a2)] [(.int (1 : Int32))]) _
    refine XS.ifNo X8.here hx rfl (hb hby d13_47) rfl ((if0 _ _).trans (feq (by decide : ¬ ((1 : Int32) = (0 : Int32)))).1) ?_
    refine XS.iconst X8.here hx rfl (hb hby d13_50) ?_
    refine XS.goto X8.here hx rfl (pc0 := 51) (pc' := 55) rfl (hb hby d13_51) (by decide) (by decide) ?_
    show Sp p e below T8 (mkF m 55 #[.val (.ref a1), .val (.ref a2), .val (.ref a2)] [(.int (1 : Int32))]) _
    exact retN X8 hx (t := .boolean) Bd.returns (by simp) (hb hby d13_55) hr
  · show Q24 Z cs_v a1 a2 a3 a4 k_a3 p6 k_a4 p8 h0 n0 _ T8.heap _
    rw [eq8]
    exact ⟨rfl, N8, rfl⟩
theorem d14_24 : decode jdk_43_method_13_code 24 = .ok (.iconst 0, 1) := by decide +kernel
theorem d14_25 : decode jdk_43_method_13_code 25 = .ok (.ireturn, 1) := by decide +kernel
def Q25 (Z : State) (cs_v : Int32) (a1 : Addr) (a2 : Addr) (k_a1 : ClassId) (p4 : Int32) (k_a2 : ClassId) (p6 : Int32) (h0 : Heap) (n0 : Nat) (v : Option Value) (h : Heap) (L : List Loc) : Prop := v = some (.int (0 : Int32)) ∧ Fr n0 L ∧ h = h0
theorem rm25 (l : Launch) (Z : State) (a0 : Array Value) (hw : ∀ d ∈ tables_1, d.before a0 Z = true) (ws : List Jvm.Cond) (cs_v : Int32) (hp : Perm Z cs_v) (a1 : Addr) (a2 : Addr) (k_a1 : ClassId) (p4 : Int32) (k_a2 : ClassId) (p6 : Int32) (h0 : Heap) (n0 : Nat) (O0 : Old Z n0 h0) (V_a1 : Arv Z h0 a1 k_a1 .byte (1 : Int32) [(.int p4)] (.int (0 : Int32))) (V_a2 : Arv Z h0 a2 k_a2 .byte (1 : Int32) [(.int p6)] (.int (0 : Int32))) (hc3 : ¬ (p4 = p6)) :
    MetFree l y15 (head1 (Jvm.Cond.code y15 jdk_43_method_13_code 3 (some .boolean) :: ws) ({ frames := 0, cells := 0, slots := 0, locals := 0 } : Room)) (fun a U => a = #[(.ref a1), (.ref a2)] ∧ Z.Warmed39 U.vm ∧ U.heap = h0) (fun _ _ _ _ _ => True) (fun _ U o U' => ∃ v L, o = .returned v ∧ Q25 Z cs_v a1 a2 k_a1 p4 k_a2 p6 h0 n0 v U'.heap L ∧ FrameEnd U o U' L ({ frames := 0, cells := 0, slots := 0, locals := 0 } : Room).cells ({ frames := 0, cells := 0, slots := 0, locals := 0 } : Room).slots) := by
  refine MetFree.of_bodySF (plainFor_of_name pn_3) hisR ?_
  intro p e s m args below meth c s₁ Bd hml0 hP hK
  obtain ⟨rfl, hZ, hh⟩ := hP
  have hx := Bd.exec
  have hby := Bd.bytes
  have hml : c.maxLocals = 3 := hml0
  have hown : s.vm.findClass "java/lang/StringLatin1" = some m.cls := findClass_of_methodNamed Bd.named
  have hnm := (name_of_methodNamed Bd.named Bd.method).1
  have X0 : Stand p l e ({ frames := 0, cells := 0, slots := 0, locals := 0 } : Room) s m #[(.ref a1), (.ref a2)] below meth c s₁ [] 0 0 := Stand.of_body Bd
  have e0 : s₁.heap = h0 := by rw [← hh, Bd.state]; rfl
  have N0 := Fr.nil n0
  obtain ⟨cl1, Ar1, -, S1, Nn1, -, -⟩ := id V_a1
  obtain ⟨cl2, Ar2, -, S2, Nn2, -, -⟩ := id V_a2
  obtain ⟨cl3, Ar3, -, S3, Nn3, -, -⟩ := id V_a1
  obtain ⟨cl4, Ar4, -, S4, -, H4, -⟩ := id V_a1
  have hin4 : ¬ ((0 : Int32) < 0 ∨ cl4.slots.size ≤ ((0 : Int32)).toNatClampNeg) := inb_of S4 ⟨by decide, by decide⟩
  have hat4 : cl4.slots[((0 : Int32)).toNatClampNeg]? = some (.int p4) := H4.at hin4 rfl
  obtain ⟨cl5, Ar5, -, S5, -, H5, -⟩ := id V_a2
  have hin5 : ¬ ((0 : Int32) < 0 ∨ cl5.slots.size ≤ ((0 : Int32)).toNatClampNeg) := inb_of S5 ⟨by decide, by decide⟩
  have hat5 : cl5.slots[((0 : Int32)).toNatClampNeg]? = some (.int p6) := H5.at hin5 rfl
  obtain ⟨fs, hr, hrun, hended, hW, hsame⟩ := X0.leave (v := some (.int (0 : Int32))) (fun h => by rw [Bd.returns] at h; cases h)
  refine ⟨_, _, castTop (ef_14_0 m a1 a2) ?_, hrun, hended, _, _, rfl, ?_, ⟨_, rfl⟩, hW, hsame.mono (by decide) (by decide)⟩
  · show Sp p e below s₁ (mkF m 0 #[.val (.ref a1), .val (.ref a2), .unset] []) _
    refine XS.aloadN X0.here hx rfl (hb hby d14_0) rfl rfl ?_
    show Sp p e below s₁ (mkF m 1 #[.val (.ref a1), .val (.ref a2), .unset] [(.ref a1)]) _
    refine X0.arraylength hx (by rw [e0]; exact Ar1.1) (State.isArrayOf_alike hZ.alike Ar1.2.1) (g := (mkF m 1 #[.val (.ref a1), .val (.ref a2), .unset] [(.ref a1)])) rfl rfl (hb hby d14_1) _ ?_
    rw [len_of S1 Nn1]
    show Sp p e below s₁ (mkF m 2 #[.val (.ref a1), .val (.ref a2), .unset] [(.int (1 : Int32))]) _
    refine XS.aloadN X0.here hx rfl (hb hby d14_2) rfl rfl ?_
    show Sp p e below s₁ (mkF m 3 #[.val (.ref a1), .val (.ref a2), .unset] [(.ref a2), (.int (1 : Int32))]) _
    refine X0.arraylength hx (by rw [e0]; exact Ar2.1) (State.isArrayOf_alike hZ.alike Ar2.2.1) (g := (mkF m 3 #[.val (.ref a1), .val (.ref a2), .unset] [(.ref a2), (.int (1 : Int32))])) rfl rfl (hb hby d14_3) _ ?_
    rw [len_of S2 Nn2]
    show Sp p e below s₁ (mkF m 4 #[.val (.ref a1), .val (.ref a2), .unset] [(.int (1 : Int32)), (.int (1 : Int32))]) _
    refine XS.icmpNo X0.here hx rfl (hb hby d14_4) rfl (teq (by decide : (1 : Int32) = (1 : Int32))).2 ?_
    refine XS.iconst X0.here hx rfl (hb hby d14_7) ?_
    refine XS.istoreN X0.here hx rfl (hb hby d14_8) rfl (l' := #[.val (.ref a1), .val (.ref a2), .val (.int (0 : Int32))]) rfl ?_
    refine XS.iloadN X0.here hx rfl (hb hby d14_9) rfl ?_
    refine XS.aloadN X0.here hx rfl (hb hby d14_10) rfl rfl ?_
    show Sp p e below s₁ (mkF m 11 #[.val (.ref a1), .val (.ref a2), .val (.int (0 : Int32))] [(.ref a1), (.int (0 : Int32))]) _
    refine X0.arraylength hx (by rw [e0]; exact Ar3.1) (State.isArrayOf_alike hZ.alike Ar3.2.1) (g := (mkF m 11 #[.val (.ref a1), .val (.ref a2), .val (.int (0 : Int32))] [(.ref a1), (.int (0 : Int32))])) rfl rfl (hb hby d14_11) _ ?_
    rw [len_of S3 Nn3]
    show Sp p e below s₁ (mkF m 12 #[.val (.ref a1), .val (.ref a2), .val (.int (0 : Int32))] [(.int (1 : Int32)), (.int (0 : Int32))]) _
    refine XS.icmpNo X0.here hx rfl (hb hby d14_12) rfl (tlt (by decide : (0 : Int32) < (1 : Int32))).2.1 ?_
    refine XS.aloadN X0.here hx rfl (hb hby d14_15) rfl rfl ?_
    refine XS.iloadN X0.here hx rfl (hb hby d14_16) rfl ?_
    show Sp p e below s₁ (mkF m 17 #[.val (.ref a1), .val (.ref a2), .val (.int (0 : Int32))] [(.int (0 : Int32)), (.ref a1)]) _
    refine X0.baloadBytes hx (j := (0 : Int32)) (v := (.int p4)) (by rw [e0]; exact Ar4.1) (State.isArrayOf_alike hZ.alike Ar4.2.1) Ar4.2.2 hin4 hat4 (g := (mkF m 17 #[.val (.ref a1), .val (.ref a2), .val (.int (0 : Int32))] [(.int (0 : Int32)), (.ref a1)])) rfl rfl (hb hby d14_17) _ ?_
    show Sp p e below s₁ (mkF m 18 #[.val (.ref a1), .val (.ref a2), .val (.int (0 : Int32))] [(.int p4)]) _
    refine XS.aloadN X0.here hx rfl (hb hby d14_18) rfl rfl ?_
    refine XS.iloadN X0.here hx rfl (hb hby d14_19) rfl ?_
    show Sp p e below s₁ (mkF m 20 #[.val (.ref a1), .val (.ref a2), .val (.int (0 : Int32))] [(.int (0 : Int32)), (.ref a2), (.int p4)]) _
    refine X0.baloadBytes hx (j := (0 : Int32)) (v := (.int p6)) (by rw [e0]; exact Ar5.1) (State.isArrayOf_alike hZ.alike Ar5.2.1) Ar5.2.2 hin5 hat5 (g := (mkF m 20 #[.val (.ref a1), .val (.ref a2), .val (.int (0 : Int32))] [(.int (0 : Int32)), (.ref a2), (.int p4)])) rfl rfl (hb hby d14_20) _ ?_
    show Sp p e below s₁ (mkF m 21 #[.val (.ref a1), .val (.ref a2), .val (.int (0 : Int32))] [(.int p6), (.int p4)]) _
    refine XS.icmpNo X0.here hx rfl (hb hby d14_21) rfl (feq hc3).1 ?_
    refine XS.iconst X0.here hx rfl (hb hby d14_24) ?_
    show Sp p e below s₁ (mkF m 25 #[.val (.ref a1), .val (.ref a2), .val (.int (0 : Int32))] [(.int (0 : Int32))]) _
    exact retN X0 hx (t := .boolean) Bd.returns (by simp) (hb hby d14_25) hr
  · show Q25 Z cs_v a1 a2 k_a1 p4 k_a2 p6 h0 n0 _ s₁.heap _
    rw [e0]
    exact ⟨rfl, N0, rfl⟩
theorem d13_54 : decode jdk_42_method_66_code 54 = .ok (.iconst 0, 1) := by decide +kernel
def Q26 (Z : State) (cs_v : Int32) (a1 : Addr) (a2 : Addr) (a3 : Addr) (a4 : Addr) (k_a3 : ClassId) (p6 : Int32) (k_a4 : ClassId) (p8 : Int32) (h0 : Heap) (n0 : Nat) (v : Option Value) (h : Heap) (L : List Loc) : Prop := v = some (.int (0 : Int32)) ∧ Fr n0 L ∧ h = h0
theorem rm26 (l : Launch) (Z : State) (a0 : Array Value) (hw : ∀ d ∈ tables_1, d.before a0 Z = true) (ws : List Jvm.Cond) (cs_v : Int32) (hp : Perm Z cs_v) (a1 : Addr) (a2 : Addr) (a3 : Addr) (a4 : Addr) (k_a3 : ClassId) (p6 : Int32) (k_a4 : ClassId) (p8 : Int32) (h0 : Heap) (n0 : Nat) (O0 : Old Z n0 h0) (ne_a1_a2 : a1 ≠ a2) (E_a2 : Exa Z h0 a2 "java/lang/String") (F_coder_a1 : Fld Z h0 a1 "java/lang/String" "coder" "B" (.int (0 : Int32))) (F_coder_a2 : Fld Z h0 a2 "java/lang/String" "coder" "B" (.int (0 : Int32))) (F_value_a1 : Fld Z h0 a1 "java/lang/String" "value" "[B" (.ref a3)) (F_value_a2 : Fld Z h0 a2 "java/lang/String" "value" "[B" (.ref a4)) (V_a3 : Arv Z h0 a3 k_a3 .byte (1 : Int32) [(.int p6)] (.int (0 : Int32))) (V_a4 : Arv Z h0 a4 k_a4 .byte (1 : Int32) [(.int p8)] (.int (0 : Int32))) (hc9 : ¬ (p6 = p8)) :
    MetFree l y16 (head1 (Jvm.Cond.code y16 jdk_42_method_66_code 3 (some .boolean) :: ws) ({ frames := 1, cells := 0, slots := 0, locals := 14 } : Room)) (fun a U => a = #[(.ref a1), (.ref a2)] ∧ Z.Warmed39 U.vm ∧ U.heap = h0) (fun _ _ _ _ _ => True) (fun _ U o U' => ∃ v L, o = .returned v ∧ Q26 Z cs_v a1 a2 a3 a4 k_a3 p6 k_a4 p8 h0 n0 v U'.heap L ∧ FrameEnd U o U' L ({ frames := 1, cells := 0, slots := 0, locals := 14 } : Room).cells ({ frames := 1, cells := 0, slots := 0, locals := 14 } : Room).slots) := by
  refine MetFree.of_bodySF (plainFor_of_name pn_5) hisR ?_
  intro p e s m args below meth c s₁ Bd hml0 hP hK
  obtain ⟨rfl, hZ, hh⟩ := hP
  have hx := Bd.exec
  have hby := Bd.bytes
  have hml : c.maxLocals = 3 := hml0
  have hown : s.vm.findClass "java/lang/String" = some m.cls := findClass_of_methodNamed Bd.named
  have hnm := (name_of_methodNamed Bd.named Bd.method).1
  have X0 : Stand p l e ({ frames := 1, cells := 0, slots := 0, locals := 14 } : Room) s m #[(.ref a1), (.ref a2)] below meth c s₁ [] 0 0 := Stand.of_body Bd
  have e0 : s₁.heap = h0 := by rw [← hh, Bd.state]; rfl
  have N0 := Fr.nil n0
  have hp' := hp
  obtain ⟨S_COMPACT_STRINGS, h_cs⟩ := hp'
  obtain ⟨T1, X1, e1, st1⟩ := instY X0 hx hZ hown (wq hw 13 rfl) e0 (Ins.self E_a2) (g := (mkF m 8 #[.val (.ref a1), .val (.ref a2), .unset] [(.ref a2)])) rfl rfl (hb hby d13_8)
  obtain ⟨T2, X2, e2, st2⟩ := castY X1 hx hZ hown (wq hw 13 rfl) e1 (Ins.self E_a2) (g := (mkF m 15 #[.val (.ref a1), .val (.ref a2), .unset] [(.ref a2)])) rfl rfl (hb hby d13_15)
  obtain ⟨T3, X3, e3, st3⟩ := getS2 X2 hx hZ hown (host := "") (Or.inl (wq hw 8 rfl)) Via.refl e2 (S_COMPACT_STRINGS.ext O0.2) (g := (mkF m 19 #[.val (.ref a1), .val (.ref a2), .val (.ref a2)] [])) rfl (hb hby d13_19)
  obtain ⟨T4, X4, e4, st4⟩ := getF X3 hx hZ hown (host := "") (Or.inl (wq hw 28 rfl)) Via.refl e3 F_coder_a1 (g := (mkF m 26 #[.val (.ref a1), .val (.ref a2), .val (.ref a2)] [(.ref a1)])) rfl rfl (hb hby d13_26)
  obtain ⟨T5, X5, e5, st5⟩ := getF X4 hx hZ hown (host := "") (Or.inl (wq hw 28 rfl)) Via.refl e4 F_coder_a2 (g := (mkF m 30 #[.val (.ref a1), .val (.ref a2), .val (.ref a2)] [(.ref a2), (.int (0 : Int32))])) rfl rfl (hb hby d13_30)
  obtain ⟨T6, X6, e6, st6⟩ := getF X5 hx hZ hown (host := "") (Or.inl (wq hw 26 rfl)) Via.refl e5 F_value_a1 (g := (mkF m 37 #[.val (.ref a1), .val (.ref a2), .val (.ref a2)] [(.ref a1)])) rfl rfl (hb hby d13_37)
  obtain ⟨T7, X7, e7, st7⟩ := getF X6 hx hZ hown (host := "") (Or.inl (wq hw 26 rfl)) Via.refl e6 F_value_a2 (g := (mkF m 41 #[.val (.ref a1), .val (.ref a2), .val (.ref a2)] [(.ref a2), (.ref a3)])) rfl rfl (hb hby d13_41)
  obtain ⟨_, _, ⟨T8, L8, k8, n8⟩, -, X8, ⟨Lc8, hQ8, l8, y8, z8⟩, st8⟩ := Jvm.LawKit.callS X7 hx (y := y15) hown (mvT hZ (wq hw 84 rfl)) (mvT hZ (wq hw 85 rfl)) (mvT hZ (wq hw 11 rfl)) (mvT hZ (wq hw 86 rfl)) (by decide) (backOf (W := 0) (rm25 l Z a0 hw [] cs_v hp a3 a4 k_a3 p6 k_a4 p8 h0 n0 O0 V_a3 V_a4 hc9) hZ (wq hw 86 rfl) (wq hw 11 rfl) (by decide) (by decide)) (g := (mkF m 44 #[.val (.ref a1), .val (.ref a2), .val (.ref a2)] [(.ref a4), (.ref a3)])) rfl (by rw [hml]; rfl) (argsL := [(.ref a3), (.ref a4)]) (rest := []) (lenOf pd_13 rfl) rfl (by show 2 * 0 + _ ≤ _; exact Nat.le_of_eq rfl) (hb hby d13_44) (fun _ _ => ⟨rfl, e7, (by decide : 0 + 0 ≤ _), (by decide : 0 + 0 ≤ _)⟩)
  dsimp only [Pt.U, Pt.locs, Pt.cells, Pt.slots] at X8 l8 y8 z8 st8 hQ8
  subst l8 y8 z8
  obtain ⟨rfl, Nq8, eq8⟩ := hQ8
  have N8 := Fr.app N0 Nq8
  obtain ⟨fs, hr, hrun, hended, hW, hsame⟩ := X8.leave (v := some (.int (0 : Int32))) (fun h => by rw [Bd.returns] at h; cases h)
  refine ⟨_, _, castTop (ef_13_0 m a1 a2) ?_, hrun, hended, _, _, rfl, ?_, ⟨_, rfl⟩, hW, hsame.mono (by decide) (by decide)⟩
  · show Sp p e below s₁ (mkF m 0 #[.val (.ref a1), .val (.ref a2), .unset] []) _
    refine XS.aloadN X0.here hx rfl (hb hby d13_0) rfl rfl ?_
    refine XS.aloadN X0.here hx rfl (hb hby d13_1) rfl rfl ?_
    show Sp p e below s₁ (mkF m 2 #[.val (.ref a1), .val (.ref a2), .unset] [(.ref a2), (.ref a1)]) _
    refine Jvm.RoadKit.acmp (g := (mkF m 2 #[.val (.ref a1), .val (.ref a2), .unset] [(.ref a2), (.ref a1)])) X0 hx rfl rfl rfl (pc0 := 2) (pc' := 7) (same := false) rfl (hb hby d13_2) rfl (decide_eq_false fun q => ne_a1_a2 (Value.ref.inj q)) (by decide) (by decide) ?_
    show Sp p e below s₁ (mkF m 7 #[.val (.ref a1), .val (.ref a2), .unset] []) _
    refine XS.aloadN X0.here hx rfl (hb hby d13_7) rfl rfl ?_
    show Sp p e below s₁ (mkF m 8 #[.val (.ref a1), .val (.ref a2), .unset] [(.ref a2)]) _
    refine st1 _ ?_
    show Sp p e below T1 (mkF m 11 #[.val (.ref a1), .val (.ref a2), .unset] [(.int (1 : Int32))]) _
    refine XS.ifNo X1.here hx rfl (hb hby d13_11) rfl ((if0 _ _).trans (feq (by decide : ¬ ((1 : Int32) = (0 : Int32)))).1) ?_
    refine XS.aloadN X1.here hx rfl (hb hby d13_14) rfl rfl ?_
    show Sp p e below T1 (mkF m 15 #[.val (.ref a1), .val (.ref a2), .unset] [(.ref a2)]) _
    refine st2 _ ?_
    show Sp p e below T2 (mkF m 18 #[.val (.ref a1), .val (.ref a2), .unset] [(.ref a2)]) _
    refine XS.astoreN X2.here hx rfl (hb hby d13_18) rfl rfl (l' := #[.val (.ref a1), .val (.ref a2), .val (.ref a2)]) rfl ?_
    show Sp p e below T2 (mkF m 19 #[.val (.ref a1), .val (.ref a2), .val (.ref a2)] []) _
    refine st3 _ ?_
    show Sp p e below T3 (mkF m 22 #[.val (.ref a1), .val (.ref a2), .val (.ref a2)] [(.int cs_v)]) _
    refine XS.ifNo X3.here hx rfl (hb hby d13_22) rfl ((if0 _ _).trans (feq h_cs).1) ?_
    refine XS.aloadN X3.here hx rfl (hb hby d13_25) rfl rfl ?_
    show Sp p e below T3 (mkF m 26 #[.val (.ref a1), .val (.ref a2), .val (.ref a2)] [(.ref a1)]) _
    refine st4 _ ?_
    show Sp p e below T4 (mkF m 29 #[.val (.ref a1), .val (.ref a2), .val (.ref a2)] [(.int (0 : Int32))]) _
    refine XS.aloadN X4.here hx rfl (hb hby d13_29) rfl rfl ?_
    show Sp p e below T4 (mkF m 30 #[.val (.ref a1), .val (.ref a2), .val (.ref a2)] [(.ref a2), (.int (0 : Int32))]) _
    refine st5 _ ?_
    show Sp p e below T5 (mkF m 33 #[.val (.ref a1), .val (.ref a2), .val (.ref a2)] [(.int (0 : Int32)), (.int (0 : Int32))]) _
    refine XS.icmpNo X5.here hx rfl (hb hby d13_33) rfl (teq (by decide : (0 : Int32) = (0 : Int32))).2 ?_
    refine XS.aloadN X5.here hx rfl (hb hby d13_36) rfl rfl ?_
    show Sp p e below T5 (mkF m 37 #[.val (.ref a1), .val (.ref a2), .val (.ref a2)] [(.ref a1)]) _
    refine st6 _ ?_
    show Sp p e below T6 (mkF m 40 #[.val (.ref a1), .val (.ref a2), .val (.ref a2)] [(.ref a3)]) _
    refine XS.aloadN X6.here hx rfl (hb hby d13_40) rfl rfl ?_
    show Sp p e below T6 (mkF m 41 #[.val (.ref a1), .val (.ref a2), .val (.ref a2)] [(.ref a2), (.ref a3)]) _
    refine st7 _ ?_
    show Sp p e below T7 (mkF m 44 #[.val (.ref a1), .val (.ref a2), .val (.ref a2)] [(.ref a4), (.ref a3)]) _
    refine st8 _ ?_
    show Sp p e below T8 (mkF m 47 #[.val (.ref a1), .val (.ref a2), .val (.ref a2)] [(.int (0 : Int32))]) _
    refine XS.ifYes X8.here hx rfl (pc0 := 47) (pc' := 54) rfl (hb hby d13_47) rfl ((if0 _ _).trans (teq (by decide : (0 : Int32) = (0 : Int32))).1) (by decide) (by decide) ?_
    refine XS.iconst X8.here hx rfl (hb hby d13_54) ?_
    show Sp p e below T8 (mkF m 55 #[.val (.ref a1), .val (.ref a2), .val (.ref a2)] [(.int (0 : Int32))]) _
    exact retN X8 hx (t := .boolean) Bd.returns (by simp) (hb hby d13_55) hr
  · show Q26 Z cs_v a1 a2 a3 a4 k_a3 p6 k_a4 p8 h0 n0 _ T8.heap _
    rw [eq8]
    exact ⟨rfl, N8, rfl⟩
theorem d14_34 : decode jdk_43_method_13_code 34 = .ok (.iconst 0, 1) := by decide +kernel
theorem d14_35 : decode jdk_43_method_13_code 35 = .ok (.ireturn, 1) := by decide +kernel
def Q27 (Z : State) (cs_v : Int32) (a1 : Addr) (a2 : Addr) (k_a1 : ClassId) (p4 : Int32) (k_a2 : ClassId) (p6 : Int32) (p7 : Int32) (h0 : Heap) (n0 : Nat) (v : Option Value) (h : Heap) (L : List Loc) : Prop := v = some (.int (0 : Int32)) ∧ Fr n0 L ∧ h = h0
theorem rm27 (l : Launch) (Z : State) (a0 : Array Value) (hw : ∀ d ∈ tables_1, d.before a0 Z = true) (ws : List Jvm.Cond) (cs_v : Int32) (hp : Perm Z cs_v) (a1 : Addr) (a2 : Addr) (k_a1 : ClassId) (p4 : Int32) (k_a2 : ClassId) (p6 : Int32) (p7 : Int32) (h0 : Heap) (n0 : Nat) (O0 : Old Z n0 h0) (V_a1 : Arv Z h0 a1 k_a1 .byte (1 : Int32) [(.int p4)] (.int (0 : Int32))) (V_a2 : Arv Z h0 a2 k_a2 .byte (2 : Int32) [(.int p6), (.int p7)] (.int (0 : Int32))) :
    MetFree l y15 (head1 (Jvm.Cond.code y15 jdk_43_method_13_code 3 (some .boolean) :: ws) ({ frames := 0, cells := 0, slots := 0, locals := 0 } : Room)) (fun a U => a = #[(.ref a1), (.ref a2)] ∧ Z.Warmed39 U.vm ∧ U.heap = h0) (fun _ _ _ _ _ => True) (fun _ U o U' => ∃ v L, o = .returned v ∧ Q27 Z cs_v a1 a2 k_a1 p4 k_a2 p6 p7 h0 n0 v U'.heap L ∧ FrameEnd U o U' L ({ frames := 0, cells := 0, slots := 0, locals := 0 } : Room).cells ({ frames := 0, cells := 0, slots := 0, locals := 0 } : Room).slots) := by
  refine MetFree.of_bodySF (plainFor_of_name pn_3) hisR ?_
  intro p e s m args below meth c s₁ Bd hml0 hP hK
  obtain ⟨rfl, hZ, hh⟩ := hP
  have hx := Bd.exec
  have hby := Bd.bytes
  have hml : c.maxLocals = 3 := hml0
  have hown : s.vm.findClass "java/lang/StringLatin1" = some m.cls := findClass_of_methodNamed Bd.named
  have hnm := (name_of_methodNamed Bd.named Bd.method).1
  have X0 : Stand p l e ({ frames := 0, cells := 0, slots := 0, locals := 0 } : Room) s m #[(.ref a1), (.ref a2)] below meth c s₁ [] 0 0 := Stand.of_body Bd
  have e0 : s₁.heap = h0 := by rw [← hh, Bd.state]; rfl
  have N0 := Fr.nil n0
  obtain ⟨cl1, Ar1, -, S1, Nn1, -, -⟩ := id V_a1
  obtain ⟨cl2, Ar2, -, S2, Nn2, -, -⟩ := id V_a2
  obtain ⟨fs, hr, hrun, hended, hW, hsame⟩ := X0.leave (v := some (.int (0 : Int32))) (fun h => by rw [Bd.returns] at h; cases h)
  refine ⟨_, _, castTop (ef_14_0 m a1 a2) ?_, hrun, hended, _, _, rfl, ?_, ⟨_, rfl⟩, hW, hsame.mono (by decide) (by decide)⟩
  · show Sp p e below s₁ (mkF m 0 #[.val (.ref a1), .val (.ref a2), .unset] []) _
    refine XS.aloadN X0.here hx rfl (hb hby d14_0) rfl rfl ?_
    show Sp p e below s₁ (mkF m 1 #[.val (.ref a1), .val (.ref a2), .unset] [(.ref a1)]) _
    refine X0.arraylength hx (by rw [e0]; exact Ar1.1) (State.isArrayOf_alike hZ.alike Ar1.2.1) (g := (mkF m 1 #[.val (.ref a1), .val (.ref a2), .unset] [(.ref a1)])) rfl rfl (hb hby d14_1) _ ?_
    rw [len_of S1 Nn1]
    show Sp p e below s₁ (mkF m 2 #[.val (.ref a1), .val (.ref a2), .unset] [(.int (1 : Int32))]) _
    refine XS.aloadN X0.here hx rfl (hb hby d14_2) rfl rfl ?_
    show Sp p e below s₁ (mkF m 3 #[.val (.ref a1), .val (.ref a2), .unset] [(.ref a2), (.int (1 : Int32))]) _
    refine X0.arraylength hx (by rw [e0]; exact Ar2.1) (State.isArrayOf_alike hZ.alike Ar2.2.1) (g := (mkF m 3 #[.val (.ref a1), .val (.ref a2), .unset] [(.ref a2), (.int (1 : Int32))])) rfl rfl (hb hby d14_3) _ ?_
    rw [len_of S2 Nn2]
    show Sp p e below s₁ (mkF m 4 #[.val (.ref a1), .val (.ref a2), .unset] [(.int (2 : Int32)), (.int (1 : Int32))]) _
    refine XS.icmpYes X0.here hx rfl (pc0 := 4) (pc' := 34) rfl (hb hby d14_4) rfl (feq (by decide : ¬ ((1 : Int32) = (2 : Int32)))).2 (by decide) (by decide) ?_
    refine XS.iconst X0.here hx rfl (hb hby d14_34) ?_
    show Sp p e below s₁ (mkF m 35 #[.val (.ref a1), .val (.ref a2), .unset] [(.int (0 : Int32))]) _
    exact retN X0 hx (t := .boolean) Bd.returns (by simp) (hb hby d14_35) hr
  · show Q27 Z cs_v a1 a2 k_a1 p4 k_a2 p6 p7 h0 n0 _ s₁.heap _
    rw [e0]
    exact ⟨rfl, N0, rfl⟩
def Q28 (Z : State) (cs_v : Int32) (a1 : Addr) (a2 : Addr) (a3 : Addr) (a4 : Addr) (k_a3 : ClassId) (p6 : Int32) (k_a4 : ClassId) (p8 : Int32) (p9 : Int32) (h0 : Heap) (n0 : Nat) (v : Option Value) (h : Heap) (L : List Loc) : Prop := v = some (.int (0 : Int32)) ∧ Fr n0 L ∧ h = h0
theorem rm28 (l : Launch) (Z : State) (a0 : Array Value) (hw : ∀ d ∈ tables_1, d.before a0 Z = true) (ws : List Jvm.Cond) (cs_v : Int32) (hp : Perm Z cs_v) (a1 : Addr) (a2 : Addr) (a3 : Addr) (a4 : Addr) (k_a3 : ClassId) (p6 : Int32) (k_a4 : ClassId) (p8 : Int32) (p9 : Int32) (h0 : Heap) (n0 : Nat) (O0 : Old Z n0 h0) (ne_a1_a2 : a1 ≠ a2) (E_a2 : Exa Z h0 a2 "java/lang/String") (F_coder_a1 : Fld Z h0 a1 "java/lang/String" "coder" "B" (.int (0 : Int32))) (F_coder_a2 : Fld Z h0 a2 "java/lang/String" "coder" "B" (.int (0 : Int32))) (F_value_a1 : Fld Z h0 a1 "java/lang/String" "value" "[B" (.ref a3)) (F_value_a2 : Fld Z h0 a2 "java/lang/String" "value" "[B" (.ref a4)) (V_a3 : Arv Z h0 a3 k_a3 .byte (1 : Int32) [(.int p6)] (.int (0 : Int32))) (V_a4 : Arv Z h0 a4 k_a4 .byte (2 : Int32) [(.int p8), (.int p9)] (.int (0 : Int32))) :
    MetFree l y16 (head1 (Jvm.Cond.code y16 jdk_42_method_66_code 3 (some .boolean) :: ws) ({ frames := 1, cells := 0, slots := 0, locals := 14 } : Room)) (fun a U => a = #[(.ref a1), (.ref a2)] ∧ Z.Warmed39 U.vm ∧ U.heap = h0) (fun _ _ _ _ _ => True) (fun _ U o U' => ∃ v L, o = .returned v ∧ Q28 Z cs_v a1 a2 a3 a4 k_a3 p6 k_a4 p8 p9 h0 n0 v U'.heap L ∧ FrameEnd U o U' L ({ frames := 1, cells := 0, slots := 0, locals := 14 } : Room).cells ({ frames := 1, cells := 0, slots := 0, locals := 14 } : Room).slots) := by
  refine MetFree.of_bodySF (plainFor_of_name pn_5) hisR ?_
  intro p e s m args below meth c s₁ Bd hml0 hP hK
  obtain ⟨rfl, hZ, hh⟩ := hP
  have hx := Bd.exec
  have hby := Bd.bytes
  have hml : c.maxLocals = 3 := hml0
  have hown : s.vm.findClass "java/lang/String" = some m.cls := findClass_of_methodNamed Bd.named
  have hnm := (name_of_methodNamed Bd.named Bd.method).1
  have X0 : Stand p l e ({ frames := 1, cells := 0, slots := 0, locals := 14 } : Room) s m #[(.ref a1), (.ref a2)] below meth c s₁ [] 0 0 := Stand.of_body Bd
  have e0 : s₁.heap = h0 := by rw [← hh, Bd.state]; rfl
  have N0 := Fr.nil n0
  have hp' := hp
  obtain ⟨S_COMPACT_STRINGS, h_cs⟩ := hp'
  obtain ⟨T1, X1, e1, st1⟩ := instY X0 hx hZ hown (wq hw 13 rfl) e0 (Ins.self E_a2) (g := (mkF m 8 #[.val (.ref a1), .val (.ref a2), .unset] [(.ref a2)])) rfl rfl (hb hby d13_8)
  obtain ⟨T2, X2, e2, st2⟩ := castY X1 hx hZ hown (wq hw 13 rfl) e1 (Ins.self E_a2) (g := (mkF m 15 #[.val (.ref a1), .val (.ref a2), .unset] [(.ref a2)])) rfl rfl (hb hby d13_15)
  obtain ⟨T3, X3, e3, st3⟩ := getS2 X2 hx hZ hown (host := "") (Or.inl (wq hw 8 rfl)) Via.refl e2 (S_COMPACT_STRINGS.ext O0.2) (g := (mkF m 19 #[.val (.ref a1), .val (.ref a2), .val (.ref a2)] [])) rfl (hb hby d13_19)
  obtain ⟨T4, X4, e4, st4⟩ := getF X3 hx hZ hown (host := "") (Or.inl (wq hw 28 rfl)) Via.refl e3 F_coder_a1 (g := (mkF m 26 #[.val (.ref a1), .val (.ref a2), .val (.ref a2)] [(.ref a1)])) rfl rfl (hb hby d13_26)
  obtain ⟨T5, X5, e5, st5⟩ := getF X4 hx hZ hown (host := "") (Or.inl (wq hw 28 rfl)) Via.refl e4 F_coder_a2 (g := (mkF m 30 #[.val (.ref a1), .val (.ref a2), .val (.ref a2)] [(.ref a2), (.int (0 : Int32))])) rfl rfl (hb hby d13_30)
  obtain ⟨T6, X6, e6, st6⟩ := getF X5 hx hZ hown (host := "") (Or.inl (wq hw 26 rfl)) Via.refl e5 F_value_a1 (g := (mkF m 37 #[.val (.ref a1), .val (.ref a2), .val (.ref a2)] [(.ref a1)])) rfl rfl (hb hby d13_37)
  obtain ⟨T7, X7, e7, st7⟩ := getF X6 hx hZ hown (host := "") (Or.inl (wq hw 26 rfl)) Via.refl e6 F_value_a2 (g := (mkF m 41 #[.val (.ref a1), .val (.ref a2), .val (.ref a2)] [(.ref a2), (.ref a3)])) rfl rfl (hb hby d13_41)
  obtain ⟨_, _, ⟨T8, L8, k8, n8⟩, -, X8, ⟨Lc8, hQ8, l8, y8, z8⟩, st8⟩ := Jvm.LawKit.callS X7 hx (y := y15) hown (mvT hZ (wq hw 84 rfl)) (mvT hZ (wq hw 85 rfl)) (mvT hZ (wq hw 11 rfl)) (mvT hZ (wq hw 86 rfl)) (by decide) (backOf (W := 0) (rm27 l Z a0 hw [] cs_v hp a3 a4 k_a3 p6 k_a4 p8 p9 h0 n0 O0 V_a3 V_a4) hZ (wq hw 86 rfl) (wq hw 11 rfl) (by decide) (by decide)) (g := (mkF m 44 #[.val (.ref a1), .val (.ref a2), .val (.ref a2)] [(.ref a4), (.ref a3)])) rfl (by rw [hml]; rfl) (argsL := [(.ref a3), (.ref a4)]) (rest := []) (lenOf pd_13 rfl) rfl (by show 2 * 0 + _ ≤ _; exact Nat.le_of_eq rfl) (hb hby d13_44) (fun _ _ => ⟨rfl, e7, (by decide : 0 + 0 ≤ _), (by decide : 0 + 0 ≤ _)⟩)
  dsimp only [Pt.U, Pt.locs, Pt.cells, Pt.slots] at X8 l8 y8 z8 st8 hQ8
  subst l8 y8 z8
  obtain ⟨rfl, Nq8, eq8⟩ := hQ8
  have N8 := Fr.app N0 Nq8
  obtain ⟨fs, hr, hrun, hended, hW, hsame⟩ := X8.leave (v := some (.int (0 : Int32))) (fun h => by rw [Bd.returns] at h; cases h)
  refine ⟨_, _, castTop (ef_13_0 m a1 a2) ?_, hrun, hended, _, _, rfl, ?_, ⟨_, rfl⟩, hW, hsame.mono (by decide) (by decide)⟩
  · show Sp p e below s₁ (mkF m 0 #[.val (.ref a1), .val (.ref a2), .unset] []) _
    refine XS.aloadN X0.here hx rfl (hb hby d13_0) rfl rfl ?_
    refine XS.aloadN X0.here hx rfl (hb hby d13_1) rfl rfl ?_
    show Sp p e below s₁ (mkF m 2 #[.val (.ref a1), .val (.ref a2), .unset] [(.ref a2), (.ref a1)]) _
    refine Jvm.RoadKit.acmp (g := (mkF m 2 #[.val (.ref a1), .val (.ref a2), .unset] [(.ref a2), (.ref a1)])) X0 hx rfl rfl rfl (pc0 := 2) (pc' := 7) (same := false) rfl (hb hby d13_2) rfl (decide_eq_false fun q => ne_a1_a2 (Value.ref.inj q)) (by decide) (by decide) ?_
    show Sp p e below s₁ (mkF m 7 #[.val (.ref a1), .val (.ref a2), .unset] []) _
    refine XS.aloadN X0.here hx rfl (hb hby d13_7) rfl rfl ?_
    show Sp p e below s₁ (mkF m 8 #[.val (.ref a1), .val (.ref a2), .unset] [(.ref a2)]) _
    refine st1 _ ?_
    show Sp p e below T1 (mkF m 11 #[.val (.ref a1), .val (.ref a2), .unset] [(.int (1 : Int32))]) _
    refine XS.ifNo X1.here hx rfl (hb hby d13_11) rfl ((if0 _ _).trans (feq (by decide : ¬ ((1 : Int32) = (0 : Int32)))).1) ?_
    refine XS.aloadN X1.here hx rfl (hb hby d13_14) rfl rfl ?_
    show Sp p e below T1 (mkF m 15 #[.val (.ref a1), .val (.ref a2), .unset] [(.ref a2)]) _
    refine st2 _ ?_
    show Sp p e below T2 (mkF m 18 #[.val (.ref a1), .val (.ref a2), .unset] [(.ref a2)]) _
    refine XS.astoreN X2.here hx rfl (hb hby d13_18) rfl rfl (l' := #[.val (.ref a1), .val (.ref a2), .val (.ref a2)]) rfl ?_
    show Sp p e below T2 (mkF m 19 #[.val (.ref a1), .val (.ref a2), .val (.ref a2)] []) _
    refine st3 _ ?_
    show Sp p e below T3 (mkF m 22 #[.val (.ref a1), .val (.ref a2), .val (.ref a2)] [(.int cs_v)]) _
    refine XS.ifNo X3.here hx rfl (hb hby d13_22) rfl ((if0 _ _).trans (feq h_cs).1) ?_
    refine XS.aloadN X3.here hx rfl (hb hby d13_25) rfl rfl ?_
    show Sp p e below T3 (mkF m 26 #[.val (.ref a1), .val (.ref a2), .val (.ref a2)] [(.ref a1)]) _
    refine st4 _ ?_
    show Sp p e below T4 (mkF m 29 #[.val (.ref a1), .val (.ref a2), .val (.ref a2)] [(.int (0 : Int32))]) _
    refine XS.aloadN X4.here hx rfl (hb hby d13_29) rfl rfl ?_
    show Sp p e below T4 (mkF m 30 #[.val (.ref a1), .val (.ref a2), .val (.ref a2)] [(.ref a2), (.int (0 : Int32))]) _
    refine st5 _ ?_
    show Sp p e below T5 (mkF m 33 #[.val (.ref a1), .val (.ref a2), .val (.ref a2)] [(.int (0 : Int32)), (.int (0 : Int32))]) _
    refine XS.icmpNo X5.here hx rfl (hb hby d13_33) rfl (teq (by decide : (0 : Int32) = (0 : Int32))).2 ?_
    refine XS.aloadN X5.here hx rfl (hb hby d13_36) rfl rfl ?_
    show Sp p e below T5 (mkF m 37 #[.val (.ref a1), .val (.ref a2), .val (.ref a2)] [(.ref a1)]) _
    refine st6 _ ?_
    show Sp p e below T6 (mkF m 40 #[.val (.ref a1), .val (.ref a2), .val (.ref a2)] [(.ref a3)]) _
    refine XS.aloadN X6.here hx rfl (hb hby d13_40) rfl rfl ?_
    show Sp p e below T6 (mkF m 41 #[.val (.ref a1), .val (.ref a2), .val (.ref a2)] [(.ref a2), (.ref a3)]) _
    refine st7 _ ?_
    show Sp p e below T7 (mkF m 44 #[.val (.ref a1), .val (.ref a2), .val (.ref a2)] [(.ref a4), (.ref a3)]) _
    refine st8 _ ?_
    show Sp p e below T8 (mkF m 47 #[.val (.ref a1), .val (.ref a2), .val (.ref a2)] [(.int (0 : Int32))]) _
    refine XS.ifYes X8.here hx rfl (pc0 := 47) (pc' := 54) rfl (hb hby d13_47) rfl ((if0 _ _).trans (teq (by decide : (0 : Int32) = (0 : Int32))).1) (by decide) (by decide) ?_
    refine XS.iconst X8.here hx rfl (hb hby d13_54) ?_
    show Sp p e below T8 (mkF m 55 #[.val (.ref a1), .val (.ref a2), .val (.ref a2)] [(.int (0 : Int32))]) _
    exact retN X8 hx (t := .boolean) Bd.returns (by simp) (hb hby d13_55) hr
  · show Q28 Z cs_v a1 a2 a3 a4 k_a3 p6 k_a4 p8 p9 h0 n0 _ T8.heap _
    rw [eq8]
    exact ⟨rfl, N8, rfl⟩
def Q29 (Z : State) (cs_v : Int32) (a1 : Addr) (a2 : Addr) (k_a1 : ClassId) (p4 : Int32) (p5 : Int32) (k_a2 : ClassId) (p7 : Int32) (h0 : Heap) (n0 : Nat) (v : Option Value) (h : Heap) (L : List Loc) : Prop := v = some (.int (0 : Int32)) ∧ Fr n0 L ∧ h = h0
theorem rm29 (l : Launch) (Z : State) (a0 : Array Value) (hw : ∀ d ∈ tables_1, d.before a0 Z = true) (ws : List Jvm.Cond) (cs_v : Int32) (hp : Perm Z cs_v) (a1 : Addr) (a2 : Addr) (k_a1 : ClassId) (p4 : Int32) (p5 : Int32) (k_a2 : ClassId) (p7 : Int32) (h0 : Heap) (n0 : Nat) (O0 : Old Z n0 h0) (V_a1 : Arv Z h0 a1 k_a1 .byte (2 : Int32) [(.int p4), (.int p5)] (.int (0 : Int32))) (V_a2 : Arv Z h0 a2 k_a2 .byte (1 : Int32) [(.int p7)] (.int (0 : Int32))) :
    MetFree l y15 (head1 (Jvm.Cond.code y15 jdk_43_method_13_code 3 (some .boolean) :: ws) ({ frames := 0, cells := 0, slots := 0, locals := 0 } : Room)) (fun a U => a = #[(.ref a1), (.ref a2)] ∧ Z.Warmed39 U.vm ∧ U.heap = h0) (fun _ _ _ _ _ => True) (fun _ U o U' => ∃ v L, o = .returned v ∧ Q29 Z cs_v a1 a2 k_a1 p4 p5 k_a2 p7 h0 n0 v U'.heap L ∧ FrameEnd U o U' L ({ frames := 0, cells := 0, slots := 0, locals := 0 } : Room).cells ({ frames := 0, cells := 0, slots := 0, locals := 0 } : Room).slots) := by
  refine MetFree.of_bodySF (plainFor_of_name pn_3) hisR ?_
  intro p e s m args below meth c s₁ Bd hml0 hP hK
  obtain ⟨rfl, hZ, hh⟩ := hP
  have hx := Bd.exec
  have hby := Bd.bytes
  have hml : c.maxLocals = 3 := hml0
  have hown : s.vm.findClass "java/lang/StringLatin1" = some m.cls := findClass_of_methodNamed Bd.named
  have hnm := (name_of_methodNamed Bd.named Bd.method).1
  have X0 : Stand p l e ({ frames := 0, cells := 0, slots := 0, locals := 0 } : Room) s m #[(.ref a1), (.ref a2)] below meth c s₁ [] 0 0 := Stand.of_body Bd
  have e0 : s₁.heap = h0 := by rw [← hh, Bd.state]; rfl
  have N0 := Fr.nil n0
  obtain ⟨cl1, Ar1, -, S1, Nn1, -, -⟩ := id V_a1
  obtain ⟨cl2, Ar2, -, S2, Nn2, -, -⟩ := id V_a2
  obtain ⟨fs, hr, hrun, hended, hW, hsame⟩ := X0.leave (v := some (.int (0 : Int32))) (fun h => by rw [Bd.returns] at h; cases h)
  refine ⟨_, _, castTop (ef_14_0 m a1 a2) ?_, hrun, hended, _, _, rfl, ?_, ⟨_, rfl⟩, hW, hsame.mono (by decide) (by decide)⟩
  · show Sp p e below s₁ (mkF m 0 #[.val (.ref a1), .val (.ref a2), .unset] []) _
    refine XS.aloadN X0.here hx rfl (hb hby d14_0) rfl rfl ?_
    show Sp p e below s₁ (mkF m 1 #[.val (.ref a1), .val (.ref a2), .unset] [(.ref a1)]) _
    refine X0.arraylength hx (by rw [e0]; exact Ar1.1) (State.isArrayOf_alike hZ.alike Ar1.2.1) (g := (mkF m 1 #[.val (.ref a1), .val (.ref a2), .unset] [(.ref a1)])) rfl rfl (hb hby d14_1) _ ?_
    rw [len_of S1 Nn1]
    show Sp p e below s₁ (mkF m 2 #[.val (.ref a1), .val (.ref a2), .unset] [(.int (2 : Int32))]) _
    refine XS.aloadN X0.here hx rfl (hb hby d14_2) rfl rfl ?_
    show Sp p e below s₁ (mkF m 3 #[.val (.ref a1), .val (.ref a2), .unset] [(.ref a2), (.int (2 : Int32))]) _
    refine X0.arraylength hx (by rw [e0]; exact Ar2.1) (State.isArrayOf_alike hZ.alike Ar2.2.1) (g := (mkF m 3 #[.val (.ref a1), .val (.ref a2), .unset] [(.ref a2), (.int (2 : Int32))])) rfl rfl (hb hby d14_3) _ ?_
    rw [len_of S2 Nn2]
    show Sp p e below s₁ (mkF m 4 #[.val (.ref a1), .val (.ref a2), .unset] [(.int (1 : Int32)), (.int (2 : Int32))]) _
    refine XS.icmpYes X0.here hx rfl (pc0 := 4) (pc' := 34) rfl (hb hby d14_4) rfl (feq (by decide : ¬ ((2 : Int32) = (1 : Int32)))).2 (by decide) (by decide) ?_
    refine XS.iconst X0.here hx rfl (hb hby d14_34) ?_
    show Sp p e below s₁ (mkF m 35 #[.val (.ref a1), .val (.ref a2), .unset] [(.int (0 : Int32))]) _
    exact retN X0 hx (t := .boolean) Bd.returns (by simp) (hb hby d14_35) hr
  · show Q29 Z cs_v a1 a2 k_a1 p4 p5 k_a2 p7 h0 n0 _ s₁.heap _
    rw [e0]
    exact ⟨rfl, N0, rfl⟩
def Q30 (Z : State) (cs_v : Int32) (a1 : Addr) (a2 : Addr) (a3 : Addr) (a4 : Addr) (k_a3 : ClassId) (p6 : Int32) (p7 : Int32) (k_a4 : ClassId) (p9 : Int32) (h0 : Heap) (n0 : Nat) (v : Option Value) (h : Heap) (L : List Loc) : Prop := v = some (.int (0 : Int32)) ∧ Fr n0 L ∧ h = h0
theorem rm30 (l : Launch) (Z : State) (a0 : Array Value) (hw : ∀ d ∈ tables_1, d.before a0 Z = true) (ws : List Jvm.Cond) (cs_v : Int32) (hp : Perm Z cs_v) (a1 : Addr) (a2 : Addr) (a3 : Addr) (a4 : Addr) (k_a3 : ClassId) (p6 : Int32) (p7 : Int32) (k_a4 : ClassId) (p9 : Int32) (h0 : Heap) (n0 : Nat) (O0 : Old Z n0 h0) (ne_a1_a2 : a1 ≠ a2) (E_a2 : Exa Z h0 a2 "java/lang/String") (F_coder_a1 : Fld Z h0 a1 "java/lang/String" "coder" "B" (.int (0 : Int32))) (F_coder_a2 : Fld Z h0 a2 "java/lang/String" "coder" "B" (.int (0 : Int32))) (F_value_a1 : Fld Z h0 a1 "java/lang/String" "value" "[B" (.ref a3)) (F_value_a2 : Fld Z h0 a2 "java/lang/String" "value" "[B" (.ref a4)) (V_a3 : Arv Z h0 a3 k_a3 .byte (2 : Int32) [(.int p6), (.int p7)] (.int (0 : Int32))) (V_a4 : Arv Z h0 a4 k_a4 .byte (1 : Int32) [(.int p9)] (.int (0 : Int32))) :
    MetFree l y16 (head1 (Jvm.Cond.code y16 jdk_42_method_66_code 3 (some .boolean) :: ws) ({ frames := 1, cells := 0, slots := 0, locals := 14 } : Room)) (fun a U => a = #[(.ref a1), (.ref a2)] ∧ Z.Warmed39 U.vm ∧ U.heap = h0) (fun _ _ _ _ _ => True) (fun _ U o U' => ∃ v L, o = .returned v ∧ Q30 Z cs_v a1 a2 a3 a4 k_a3 p6 p7 k_a4 p9 h0 n0 v U'.heap L ∧ FrameEnd U o U' L ({ frames := 1, cells := 0, slots := 0, locals := 14 } : Room).cells ({ frames := 1, cells := 0, slots := 0, locals := 14 } : Room).slots) := by
  refine MetFree.of_bodySF (plainFor_of_name pn_5) hisR ?_
  intro p e s m args below meth c s₁ Bd hml0 hP hK
  obtain ⟨rfl, hZ, hh⟩ := hP
  have hx := Bd.exec
  have hby := Bd.bytes
  have hml : c.maxLocals = 3 := hml0
  have hown : s.vm.findClass "java/lang/String" = some m.cls := findClass_of_methodNamed Bd.named
  have hnm := (name_of_methodNamed Bd.named Bd.method).1
  have X0 : Stand p l e ({ frames := 1, cells := 0, slots := 0, locals := 14 } : Room) s m #[(.ref a1), (.ref a2)] below meth c s₁ [] 0 0 := Stand.of_body Bd
  have e0 : s₁.heap = h0 := by rw [← hh, Bd.state]; rfl
  have N0 := Fr.nil n0
  have hp' := hp
  obtain ⟨S_COMPACT_STRINGS, h_cs⟩ := hp'
  obtain ⟨T1, X1, e1, st1⟩ := instY X0 hx hZ hown (wq hw 13 rfl) e0 (Ins.self E_a2) (g := (mkF m 8 #[.val (.ref a1), .val (.ref a2), .unset] [(.ref a2)])) rfl rfl (hb hby d13_8)
  obtain ⟨T2, X2, e2, st2⟩ := castY X1 hx hZ hown (wq hw 13 rfl) e1 (Ins.self E_a2) (g := (mkF m 15 #[.val (.ref a1), .val (.ref a2), .unset] [(.ref a2)])) rfl rfl (hb hby d13_15)
  obtain ⟨T3, X3, e3, st3⟩ := getS2 X2 hx hZ hown (host := "") (Or.inl (wq hw 8 rfl)) Via.refl e2 (S_COMPACT_STRINGS.ext O0.2) (g := (mkF m 19 #[.val (.ref a1), .val (.ref a2), .val (.ref a2)] [])) rfl (hb hby d13_19)
  obtain ⟨T4, X4, e4, st4⟩ := getF X3 hx hZ hown (host := "") (Or.inl (wq hw 28 rfl)) Via.refl e3 F_coder_a1 (g := (mkF m 26 #[.val (.ref a1), .val (.ref a2), .val (.ref a2)] [(.ref a1)])) rfl rfl (hb hby d13_26)
  obtain ⟨T5, X5, e5, st5⟩ := getF X4 hx hZ hown (host := "") (Or.inl (wq hw 28 rfl)) Via.refl e4 F_coder_a2 (g := (mkF m 30 #[.val (.ref a1), .val (.ref a2), .val (.ref a2)] [(.ref a2), (.int (0 : Int32))])) rfl rfl (hb hby d13_30)
  obtain ⟨T6, X6, e6, st6⟩ := getF X5 hx hZ hown (host := "") (Or.inl (wq hw 26 rfl)) Via.refl e5 F_value_a1 (g := (mkF m 37 #[.val (.ref a1), .val (.ref a2), .val (.ref a2)] [(.ref a1)])) rfl rfl (hb hby d13_37)
  obtain ⟨T7, X7, e7, st7⟩ := getF X6 hx hZ hown (host := "") (Or.inl (wq hw 26 rfl)) Via.refl e6 F_value_a2 (g := (mkF m 41 #[.val (.ref a1), .val (.ref a2), .val (.ref a2)] [(.ref a2), (.ref a3)])) rfl rfl (hb hby d13_41)
  obtain ⟨_, _, ⟨T8, L8, k8, n8⟩, -, X8, ⟨Lc8, hQ8, l8, y8, z8⟩, st8⟩ := Jvm.LawKit.callS X7 hx (y := y15) hown (mvT hZ (wq hw 84 rfl)) (mvT hZ (wq hw 85 rfl)) (mvT hZ (wq hw 11 rfl)) (mvT hZ (wq hw 86 rfl)) (by decide) (backOf (W := 0) (rm29 l Z a0 hw [] cs_v hp a3 a4 k_a3 p6 p7 k_a4 p9 h0 n0 O0 V_a3 V_a4) hZ (wq hw 86 rfl) (wq hw 11 rfl) (by decide) (by decide)) (g := (mkF m 44 #[.val (.ref a1), .val (.ref a2), .val (.ref a2)] [(.ref a4), (.ref a3)])) rfl (by rw [hml]; rfl) (argsL := [(.ref a3), (.ref a4)]) (rest := []) (lenOf pd_13 rfl) rfl (by show 2 * 0 + _ ≤ _; exact Nat.le_of_eq rfl) (hb hby d13_44) (fun _ _ => ⟨rfl, e7, (by decide : 0 + 0 ≤ _), (by decide : 0 + 0 ≤ _)⟩)
  dsimp only [Pt.U, Pt.locs, Pt.cells, Pt.slots] at X8 l8 y8 z8 st8 hQ8
  subst l8 y8 z8
  obtain ⟨rfl, Nq8, eq8⟩ := hQ8
  have N8 := Fr.app N0 Nq8
  obtain ⟨fs, hr, hrun, hended, hW, hsame⟩ := X8.leave (v := some (.int (0 : Int32))) (fun h => by rw [Bd.returns] at h; cases h)
  refine ⟨_, _, castTop (ef_13_0 m a1 a2) ?_, hrun, hended, _, _, rfl, ?_, ⟨_, rfl⟩, hW, hsame.mono (by decide) (by decide)⟩
  · show Sp p e below s₁ (mkF m 0 #[.val (.ref a1), .val (.ref a2), .unset] []) _
    refine XS.aloadN X0.here hx rfl (hb hby d13_0) rfl rfl ?_
    refine XS.aloadN X0.here hx rfl (hb hby d13_1) rfl rfl ?_
    show Sp p e below s₁ (mkF m 2 #[.val (.ref a1), .val (.ref a2), .unset] [(.ref a2), (.ref a1)]) _
    refine Jvm.RoadKit.acmp (g := (mkF m 2 #[.val (.ref a1), .val (.ref a2), .unset] [(.ref a2), (.ref a1)])) X0 hx rfl rfl rfl (pc0 := 2) (pc' := 7) (same := false) rfl (hb hby d13_2) rfl (decide_eq_false fun q => ne_a1_a2 (Value.ref.inj q)) (by decide) (by decide) ?_
    show Sp p e below s₁ (mkF m 7 #[.val (.ref a1), .val (.ref a2), .unset] []) _
    refine XS.aloadN X0.here hx rfl (hb hby d13_7) rfl rfl ?_
    show Sp p e below s₁ (mkF m 8 #[.val (.ref a1), .val (.ref a2), .unset] [(.ref a2)]) _
    refine st1 _ ?_
    show Sp p e below T1 (mkF m 11 #[.val (.ref a1), .val (.ref a2), .unset] [(.int (1 : Int32))]) _
    refine XS.ifNo X1.here hx rfl (hb hby d13_11) rfl ((if0 _ _).trans (feq (by decide : ¬ ((1 : Int32) = (0 : Int32)))).1) ?_
    refine XS.aloadN X1.here hx rfl (hb hby d13_14) rfl rfl ?_
    show Sp p e below T1 (mkF m 15 #[.val (.ref a1), .val (.ref a2), .unset] [(.ref a2)]) _
    refine st2 _ ?_
    show Sp p e below T2 (mkF m 18 #[.val (.ref a1), .val (.ref a2), .unset] [(.ref a2)]) _
    refine XS.astoreN X2.here hx rfl (hb hby d13_18) rfl rfl (l' := #[.val (.ref a1), .val (.ref a2), .val (.ref a2)]) rfl ?_
    show Sp p e below T2 (mkF m 19 #[.val (.ref a1), .val (.ref a2), .val (.ref a2)] []) _
    refine st3 _ ?_
    show Sp p e below T3 (mkF m 22 #[.val (.ref a1), .val (.ref a2), .val (.ref a2)] [(.int cs_v)]) _
    refine XS.ifNo X3.here hx rfl (hb hby d13_22) rfl ((if0 _ _).trans (feq h_cs).1) ?_
    refine XS.aloadN X3.here hx rfl (hb hby d13_25) rfl rfl ?_
    show Sp p e below T3 (mkF m 26 #[.val (.ref a1), .val (.ref a2), .val (.ref a2)] [(.ref a1)]) _
    refine st4 _ ?_
    show Sp p e below T4 (mkF m 29 #[.val (.ref a1), .val (.ref a2), .val (.ref a2)] [(.int (0 : Int32))]) _
    refine XS.aloadN X4.here hx rfl (hb hby d13_29) rfl rfl ?_
    show Sp p e below T4 (mkF m 30 #[.val (.ref a1), .val (.ref a2), .val (.ref a2)] [(.ref a2), (.int (0 : Int32))]) _
    refine st5 _ ?_
    show Sp p e below T5 (mkF m 33 #[.val (.ref a1), .val (.ref a2), .val (.ref a2)] [(.int (0 : Int32)), (.int (0 : Int32))]) _
    refine XS.icmpNo X5.here hx rfl (hb hby d13_33) rfl (teq (by decide : (0 : Int32) = (0 : Int32))).2 ?_
    refine XS.aloadN X5.here hx rfl (hb hby d13_36) rfl rfl ?_
    show Sp p e below T5 (mkF m 37 #[.val (.ref a1), .val (.ref a2), .val (.ref a2)] [(.ref a1)]) _
    refine st6 _ ?_
    show Sp p e below T6 (mkF m 40 #[.val (.ref a1), .val (.ref a2), .val (.ref a2)] [(.ref a3)]) _
    refine XS.aloadN X6.here hx rfl (hb hby d13_40) rfl rfl ?_
    show Sp p e below T6 (mkF m 41 #[.val (.ref a1), .val (.ref a2), .val (.ref a2)] [(.ref a2), (.ref a3)]) _
    refine st7 _ ?_
    show Sp p e below T7 (mkF m 44 #[.val (.ref a1), .val (.ref a2), .val (.ref a2)] [(.ref a4), (.ref a3)]) _
    refine st8 _ ?_
    show Sp p e below T8 (mkF m 47 #[.val (.ref a1), .val (.ref a2), .val (.ref a2)] [(.int (0 : Int32))]) _
    refine XS.ifYes X8.here hx rfl (pc0 := 47) (pc' := 54) rfl (hb hby d13_47) rfl ((if0 _ _).trans (teq (by decide : (0 : Int32) = (0 : Int32))).1) (by decide) (by decide) ?_
    refine XS.iconst X8.here hx rfl (hb hby d13_54) ?_
    show Sp p e below T8 (mkF m 55 #[.val (.ref a1), .val (.ref a2), .val (.ref a2)] [(.int (0 : Int32))]) _
    exact retN X8 hx (t := .boolean) Bd.returns (by simp) (hb hby d13_55) hr
  · show Q30 Z cs_v a1 a2 a3 a4 k_a3 p6 p7 k_a4 p9 h0 n0 _ T8.heap _
    rw [eq8]
    exact ⟨rfl, N8, rfl⟩
def Q31 (Z : State) (cs_v : Int32) (a1 : Addr) (a2 : Addr) (k_a1 : ClassId) (p4 : Int32) (p5 : Int32) (k_a2 : ClassId) (p7 : Int32) (p8 : Int32) (h0 : Heap) (n0 : Nat) (v : Option Value) (h : Heap) (L : List Loc) : Prop := v = some (.int (1 : Int32)) ∧ Fr n0 L ∧ h = h0
theorem rm31 (l : Launch) (Z : State) (a0 : Array Value) (hw : ∀ d ∈ tables_1, d.before a0 Z = true) (ws : List Jvm.Cond) (cs_v : Int32) (hp : Perm Z cs_v) (a1 : Addr) (a2 : Addr) (k_a1 : ClassId) (p4 : Int32) (p5 : Int32) (k_a2 : ClassId) (p7 : Int32) (p8 : Int32) (h0 : Heap) (n0 : Nat) (O0 : Old Z n0 h0) (V_a1 : Arv Z h0 a1 k_a1 .byte (2 : Int32) [(.int p4), (.int p5)] (.int (0 : Int32))) (V_a2 : Arv Z h0 a2 k_a2 .byte (2 : Int32) [(.int p7), (.int p8)] (.int (0 : Int32))) (hc3 : p4 = p7) (hc4 : p5 = p8) :
    MetFree l y15 (head1 (Jvm.Cond.code y15 jdk_43_method_13_code 3 (some .boolean) :: ws) ({ frames := 0, cells := 0, slots := 0, locals := 0 } : Room)) (fun a U => a = #[(.ref a1), (.ref a2)] ∧ Z.Warmed39 U.vm ∧ U.heap = h0) (fun _ _ _ _ _ => True) (fun _ U o U' => ∃ v L, o = .returned v ∧ Q31 Z cs_v a1 a2 k_a1 p4 p5 k_a2 p7 p8 h0 n0 v U'.heap L ∧ FrameEnd U o U' L ({ frames := 0, cells := 0, slots := 0, locals := 0 } : Room).cells ({ frames := 0, cells := 0, slots := 0, locals := 0 } : Room).slots) := by
  refine MetFree.of_bodySF (plainFor_of_name pn_3) hisR ?_
  intro p e s m args below meth c s₁ Bd hml0 hP hK
  obtain ⟨rfl, hZ, hh⟩ := hP
  have hx := Bd.exec
  have hby := Bd.bytes
  have hml : c.maxLocals = 3 := hml0
  have hown : s.vm.findClass "java/lang/StringLatin1" = some m.cls := findClass_of_methodNamed Bd.named
  have hnm := (name_of_methodNamed Bd.named Bd.method).1
  have X0 : Stand p l e ({ frames := 0, cells := 0, slots := 0, locals := 0 } : Room) s m #[(.ref a1), (.ref a2)] below meth c s₁ [] 0 0 := Stand.of_body Bd
  have e0 : s₁.heap = h0 := by rw [← hh, Bd.state]; rfl
  have N0 := Fr.nil n0
  obtain ⟨cl1, Ar1, -, S1, Nn1, -, -⟩ := id V_a1
  obtain ⟨cl2, Ar2, -, S2, Nn2, -, -⟩ := id V_a2
  obtain ⟨cl3, Ar3, -, S3, Nn3, -, -⟩ := id V_a1
  obtain ⟨cl4, Ar4, -, S4, -, H4, -⟩ := id V_a1
  have hin4 : ¬ ((0 : Int32) < 0 ∨ cl4.slots.size ≤ ((0 : Int32)).toNatClampNeg) := inb_of S4 ⟨by decide, by decide⟩
  have hat4 : cl4.slots[((0 : Int32)).toNatClampNeg]? = some (.int p4) := H4.at hin4 rfl
  obtain ⟨cl5, Ar5, -, S5, -, H5, -⟩ := id V_a2
  have hin5 : ¬ ((0 : Int32) < 0 ∨ cl5.slots.size ≤ ((0 : Int32)).toNatClampNeg) := inb_of S5 ⟨by decide, by decide⟩
  have hat5 : cl5.slots[((0 : Int32)).toNatClampNeg]? = some (.int p7) := H5.at hin5 rfl
  obtain ⟨cl6, Ar6, -, S6, Nn6, -, -⟩ := id V_a1
  obtain ⟨cl7, Ar7, -, S7, -, H7, -⟩ := id V_a1
  have hin7 : ¬ (((0 : Int32) + (1 : Int32)) < 0 ∨ cl7.slots.size ≤ (((0 : Int32) + (1 : Int32))).toNatClampNeg) := inb_of S7 ⟨by decide, by decide⟩
  have hat7 : cl7.slots[(((0 : Int32) + (1 : Int32))).toNatClampNeg]? = some (.int p5) := H7.at hin7 rfl
  obtain ⟨cl8, Ar8, -, S8, -, H8, -⟩ := id V_a2
  have hin8 : ¬ (((0 : Int32) + (1 : Int32)) < 0 ∨ cl8.slots.size ≤ (((0 : Int32) + (1 : Int32))).toNatClampNeg) := inb_of S8 ⟨by decide, by decide⟩
  have hat8 : cl8.slots[(((0 : Int32) + (1 : Int32))).toNatClampNeg]? = some (.int p8) := H8.at hin8 rfl
  obtain ⟨cl9, Ar9, -, S9, Nn9, -, -⟩ := id V_a1
  obtain ⟨fs, hr, hrun, hended, hW, hsame⟩ := X0.leave (v := some (.int (1 : Int32))) (fun h => by rw [Bd.returns] at h; cases h)
  refine ⟨_, _, castTop (ef_14_0 m a1 a2) ?_, hrun, hended, _, _, rfl, ?_, ⟨_, rfl⟩, hW, hsame.mono (by decide) (by decide)⟩
  · show Sp p e below s₁ (mkF m 0 #[.val (.ref a1), .val (.ref a2), .unset] []) _
    refine XS.aloadN X0.here hx rfl (hb hby d14_0) rfl rfl ?_
    show Sp p e below s₁ (mkF m 1 #[.val (.ref a1), .val (.ref a2), .unset] [(.ref a1)]) _
    refine X0.arraylength hx (by rw [e0]; exact Ar1.1) (State.isArrayOf_alike hZ.alike Ar1.2.1) (g := (mkF m 1 #[.val (.ref a1), .val (.ref a2), .unset] [(.ref a1)])) rfl rfl (hb hby d14_1) _ ?_
    rw [len_of S1 Nn1]
    show Sp p e below s₁ (mkF m 2 #[.val (.ref a1), .val (.ref a2), .unset] [(.int (2 : Int32))]) _
    refine XS.aloadN X0.here hx rfl (hb hby d14_2) rfl rfl ?_
    show Sp p e below s₁ (mkF m 3 #[.val (.ref a1), .val (.ref a2), .unset] [(.ref a2), (.int (2 : Int32))]) _
    refine X0.arraylength hx (by rw [e0]; exact Ar2.1) (State.isArrayOf_alike hZ.alike Ar2.2.1) (g := (mkF m 3 #[.val (.ref a1), .val (.ref a2), .unset] [(.ref a2), (.int (2 : Int32))])) rfl rfl (hb hby d14_3) _ ?_
    rw [len_of S2 Nn2]
    show Sp p e below s₁ (mkF m 4 #[.val (.ref a1), .val (.ref a2), .unset] [(.int (2 : Int32)), (.int (2 : Int32))]) _
    refine XS.icmpNo X0.here hx rfl (hb hby d14_4) rfl (teq (by decide : (2 : Int32) = (2 : Int32))).2 ?_
    refine XS.iconst X0.here hx rfl (hb hby d14_7) ?_
    refine XS.istoreN X0.here hx rfl (hb hby d14_8) rfl (l' := #[.val (.ref a1), .val (.ref a2), .val (.int (0 : Int32))]) rfl ?_
    refine XS.iloadN X0.here hx rfl (hb hby d14_9) rfl ?_
    refine XS.aloadN X0.here hx rfl (hb hby d14_10) rfl rfl ?_
    show Sp p e below s₁ (mkF m 11 #[.val (.ref a1), .val (.ref a2), .val (.int (0 : Int32))] [(.ref a1), (.int (0 : Int32))]) _
    refine X0.arraylength hx (by rw [e0]; exact Ar3.1) (State.isArrayOf_alike hZ.alike Ar3.2.1) (g := (mkF m 11 #[.val (.ref a1), .val (.ref a2), .val (.int (0 : Int32))] [(.ref a1), (.int (0 : Int32))])) rfl rfl (hb hby d14_11) _ ?_
    rw [len_of S3 Nn3]
    show Sp p e below s₁ (mkF m 12 #[.val (.ref a1), .val (.ref a2), .val (.int (0 : Int32))] [(.int (2 : Int32)), (.int (0 : Int32))]) _
    refine XS.icmpNo X0.here hx rfl (hb hby d14_12) rfl (tlt (by decide : (0 : Int32) < (2 : Int32))).2.1 ?_
    refine XS.aloadN X0.here hx rfl (hb hby d14_15) rfl rfl ?_
    refine XS.iloadN X0.here hx rfl (hb hby d14_16) rfl ?_
    show Sp p e below s₁ (mkF m 17 #[.val (.ref a1), .val (.ref a2), .val (.int (0 : Int32))] [(.int (0 : Int32)), (.ref a1)]) _
    refine X0.baloadBytes hx (j := (0 : Int32)) (v := (.int p4)) (by rw [e0]; exact Ar4.1) (State.isArrayOf_alike hZ.alike Ar4.2.1) Ar4.2.2 hin4 hat4 (g := (mkF m 17 #[.val (.ref a1), .val (.ref a2), .val (.int (0 : Int32))] [(.int (0 : Int32)), (.ref a1)])) rfl rfl (hb hby d14_17) _ ?_
    show Sp p e below s₁ (mkF m 18 #[.val (.ref a1), .val (.ref a2), .val (.int (0 : Int32))] [(.int p4)]) _
    refine XS.aloadN X0.here hx rfl (hb hby d14_18) rfl rfl ?_
    refine XS.iloadN X0.here hx rfl (hb hby d14_19) rfl ?_
    show Sp p e below s₁ (mkF m 20 #[.val (.ref a1), .val (.ref a2), .val (.int (0 : Int32))] [(.int (0 : Int32)), (.ref a2), (.int p4)]) _
    refine X0.baloadBytes hx (j := (0 : Int32)) (v := (.int p7)) (by rw [e0]; exact Ar5.1) (State.isArrayOf_alike hZ.alike Ar5.2.1) Ar5.2.2 hin5 hat5 (g := (mkF m 20 #[.val (.ref a1), .val (.ref a2), .val (.int (0 : Int32))] [(.int (0 : Int32)), (.ref a2), (.int p4)])) rfl rfl (hb hby d14_20) _ ?_
    show Sp p e below s₁ (mkF m 21 #[.val (.ref a1), .val (.ref a2), .val (.int (0 : Int32))] [(.int p7), (.int p4)]) _
    refine XS.icmpYes X0.here hx rfl (pc0 := 21) (pc' := 26) rfl (hb hby d14_21) rfl (teq hc3).1 (by decide) (by decide) ?_
    show Sp p e below s₁ (mkF m 26 #[.val (.ref a1), .val (.ref a2), .val (.int (0 : Int32))] []) _
    refine XS.iinc X0.here hx rfl (hb hby d14_26) rfl (l' := #[.val (.ref a1), .val (.ref a2), .val (.int (fx2 ))]) rfl ?_
    refine XS.goto X0.here hx rfl (pc0 := 29) (pc' := 9) rfl (hb hby d14_29) (by decide) (by decide) ?_
    refine XS.iloadN X0.here hx rfl (hb hby d14_9) rfl ?_
    refine XS.aloadN X0.here hx rfl (hb hby d14_10) rfl rfl ?_
    show Sp p e below s₁ (mkF m 11 #[.val (.ref a1), .val (.ref a2), .val (.int (fx2 ))] [(.ref a1), (.int (fx2 ))]) _
    refine X0.arraylength hx (by rw [e0]; exact Ar6.1) (State.isArrayOf_alike hZ.alike Ar6.2.1) (g := (mkF m 11 #[.val (.ref a1), .val (.ref a2), .val (.int (fx2 ))] [(.ref a1), (.int (fx2 ))])) rfl rfl (hb hby d14_11) _ ?_
    rw [len_of S6 Nn6]
    show Sp p e below s₁ (mkF m 12 #[.val (.ref a1), .val (.ref a2), .val (.int (fx2 ))] [(.int (2 : Int32)), (.int (fx2 ))]) _
    refine XS.icmpNo X0.here hx rfl (hb hby d14_12) rfl (tlt (by decide : ((0 : Int32) + (1 : Int32)) < (2 : Int32))).2.1 ?_
    refine XS.aloadN X0.here hx rfl (hb hby d14_15) rfl rfl ?_
    refine XS.iloadN X0.here hx rfl (hb hby d14_16) rfl ?_
    show Sp p e below s₁ (mkF m 17 #[.val (.ref a1), .val (.ref a2), .val (.int (fx2 ))] [(.int (fx2 )), (.ref a1)]) _
    refine X0.baloadBytes hx (j := ((0 : Int32) + (1 : Int32))) (v := (.int p5)) (by rw [e0]; exact Ar7.1) (State.isArrayOf_alike hZ.alike Ar7.2.1) Ar7.2.2 hin7 hat7 (g := (mkF m 17 #[.val (.ref a1), .val (.ref a2), .val (.int (fx2 ))] [(.int (fx2 )), (.ref a1)])) rfl rfl (hb hby d14_17) _ ?_
    show Sp p e below s₁ (mkF m 18 #[.val (.ref a1), .val (.ref a2), .val (.int (fx2 ))] [(.int p5)]) _
    refine XS.aloadN X0.here hx rfl (hb hby d14_18) rfl rfl ?_
    refine XS.iloadN X0.here hx rfl (hb hby d14_19) rfl ?_
    show Sp p e below s₁ (mkF m 20 #[.val (.ref a1), .val (.ref a2), .val (.int (fx2 ))] [(.int (fx2 )), (.ref a2), (.int p5)]) _
    refine X0.baloadBytes hx (j := ((0 : Int32) + (1 : Int32))) (v := (.int p8)) (by rw [e0]; exact Ar8.1) (State.isArrayOf_alike hZ.alike Ar8.2.1) Ar8.2.2 hin8 hat8 (g := (mkF m 20 #[.val (.ref a1), .val (.ref a2), .val (.int (fx2 ))] [(.int (fx2 )), (.ref a2), (.int p5)])) rfl rfl (hb hby d14_20) _ ?_
    show Sp p e below s₁ (mkF m 21 #[.val (.ref a1), .val (.ref a2), .val (.int (fx2 ))] [(.int p8), (.int p5)]) _
    refine XS.icmpYes X0.here hx rfl (pc0 := 21) (pc' := 26) rfl (hb hby d14_21) rfl (teq hc4).1 (by decide) (by decide) ?_
    show Sp p e below s₁ (mkF m 26 #[.val (.ref a1), .val (.ref a2), .val (.int (fx2 ))] []) _
    refine XS.iinc X0.here hx rfl (hb hby d14_26) rfl (l' := #[.val (.ref a1), .val (.ref a2), .val (.int (fx3 ))]) rfl ?_
    refine XS.goto X0.here hx rfl (pc0 := 29) (pc' := 9) rfl (hb hby d14_29) (by decide) (by decide) ?_
    refine XS.iloadN X0.here hx rfl (hb hby d14_9) rfl ?_
    refine XS.aloadN X0.here hx rfl (hb hby d14_10) rfl rfl ?_
    show Sp p e below s₁ (mkF m 11 #[.val (.ref a1), .val (.ref a2), .val (.int (fx3 ))] [(.ref a1), (.int (fx3 ))]) _
    refine X0.arraylength hx (by rw [e0]; exact Ar9.1) (State.isArrayOf_alike hZ.alike Ar9.2.1) (g := (mkF m 11 #[.val (.ref a1), .val (.ref a2), .val (.int (fx3 ))] [(.ref a1), (.int (fx3 ))])) rfl rfl (hb hby d14_11) _ ?_
    rw [len_of S9 Nn9]
    show Sp p e below s₁ (mkF m 12 #[.val (.ref a1), .val (.ref a2), .val (.int (fx3 ))] [(.int (2 : Int32)), (.int (fx3 ))]) _
    refine XS.icmpYes X0.here hx rfl (pc0 := 12) (pc' := 32) rfl (hb hby d14_12) rfl (flt (by decide : ¬ ((((0 : Int32) + (1 : Int32)) + (1 : Int32)) < (2 : Int32)))).2.1 (by decide) (by decide) ?_
    refine XS.iconst X0.here hx rfl (hb hby d14_32) ?_
    show Sp p e below s₁ (mkF m 33 #[.val (.ref a1), .val (.ref a2), .val (.int (fx3 ))] [(.int (1 : Int32))]) _
    exact retN X0 hx (t := .boolean) Bd.returns (by simp) (hb hby d14_33) hr
  · show Q31 Z cs_v a1 a2 k_a1 p4 p5 k_a2 p7 p8 h0 n0 _ s₁.heap _
    rw [e0]
    exact ⟨rfl, N0, rfl⟩
def Q32 (Z : State) (cs_v : Int32) (a1 : Addr) (a2 : Addr) (a3 : Addr) (a4 : Addr) (k_a3 : ClassId) (p6 : Int32) (p7 : Int32) (k_a4 : ClassId) (p9 : Int32) (p10 : Int32) (h0 : Heap) (n0 : Nat) (v : Option Value) (h : Heap) (L : List Loc) : Prop := v = some (.int (1 : Int32)) ∧ Fr n0 L ∧ h = h0
theorem rm32 (l : Launch) (Z : State) (a0 : Array Value) (hw : ∀ d ∈ tables_1, d.before a0 Z = true) (ws : List Jvm.Cond) (cs_v : Int32) (hp : Perm Z cs_v) (a1 : Addr) (a2 : Addr) (a3 : Addr) (a4 : Addr) (k_a3 : ClassId) (p6 : Int32) (p7 : Int32) (k_a4 : ClassId) (p9 : Int32) (p10 : Int32) (h0 : Heap) (n0 : Nat) (O0 : Old Z n0 h0) (ne_a1_a2 : a1 ≠ a2) (E_a2 : Exa Z h0 a2 "java/lang/String") (F_coder_a1 : Fld Z h0 a1 "java/lang/String" "coder" "B" (.int (0 : Int32))) (F_coder_a2 : Fld Z h0 a2 "java/lang/String" "coder" "B" (.int (0 : Int32))) (F_value_a1 : Fld Z h0 a1 "java/lang/String" "value" "[B" (.ref a3)) (F_value_a2 : Fld Z h0 a2 "java/lang/String" "value" "[B" (.ref a4)) (V_a3 : Arv Z h0 a3 k_a3 .byte (2 : Int32) [(.int p6), (.int p7)] (.int (0 : Int32))) (V_a4 : Arv Z h0 a4 k_a4 .byte (2 : Int32) [(.int p9), (.int p10)] (.int (0 : Int32))) (hc9 : p6 = p9) (hc10 : p7 = p10) :
    MetFree l y16 (head1 (Jvm.Cond.code y16 jdk_42_method_66_code 3 (some .boolean) :: ws) ({ frames := 1, cells := 0, slots := 0, locals := 14 } : Room)) (fun a U => a = #[(.ref a1), (.ref a2)] ∧ Z.Warmed39 U.vm ∧ U.heap = h0) (fun _ _ _ _ _ => True) (fun _ U o U' => ∃ v L, o = .returned v ∧ Q32 Z cs_v a1 a2 a3 a4 k_a3 p6 p7 k_a4 p9 p10 h0 n0 v U'.heap L ∧ FrameEnd U o U' L ({ frames := 1, cells := 0, slots := 0, locals := 14 } : Room).cells ({ frames := 1, cells := 0, slots := 0, locals := 14 } : Room).slots) := by
  refine MetFree.of_bodySF (plainFor_of_name pn_5) hisR ?_
  intro p e s m args below meth c s₁ Bd hml0 hP hK
  obtain ⟨rfl, hZ, hh⟩ := hP
  have hx := Bd.exec
  have hby := Bd.bytes
  have hml : c.maxLocals = 3 := hml0
  have hown : s.vm.findClass "java/lang/String" = some m.cls := findClass_of_methodNamed Bd.named
  have hnm := (name_of_methodNamed Bd.named Bd.method).1
  have X0 : Stand p l e ({ frames := 1, cells := 0, slots := 0, locals := 14 } : Room) s m #[(.ref a1), (.ref a2)] below meth c s₁ [] 0 0 := Stand.of_body Bd
  have e0 : s₁.heap = h0 := by rw [← hh, Bd.state]; rfl
  have N0 := Fr.nil n0
  have hp' := hp
  obtain ⟨S_COMPACT_STRINGS, h_cs⟩ := hp'
  obtain ⟨T1, X1, e1, st1⟩ := instY X0 hx hZ hown (wq hw 13 rfl) e0 (Ins.self E_a2) (g := (mkF m 8 #[.val (.ref a1), .val (.ref a2), .unset] [(.ref a2)])) rfl rfl (hb hby d13_8)
  obtain ⟨T2, X2, e2, st2⟩ := castY X1 hx hZ hown (wq hw 13 rfl) e1 (Ins.self E_a2) (g := (mkF m 15 #[.val (.ref a1), .val (.ref a2), .unset] [(.ref a2)])) rfl rfl (hb hby d13_15)
  obtain ⟨T3, X3, e3, st3⟩ := getS2 X2 hx hZ hown (host := "") (Or.inl (wq hw 8 rfl)) Via.refl e2 (S_COMPACT_STRINGS.ext O0.2) (g := (mkF m 19 #[.val (.ref a1), .val (.ref a2), .val (.ref a2)] [])) rfl (hb hby d13_19)
  obtain ⟨T4, X4, e4, st4⟩ := getF X3 hx hZ hown (host := "") (Or.inl (wq hw 28 rfl)) Via.refl e3 F_coder_a1 (g := (mkF m 26 #[.val (.ref a1), .val (.ref a2), .val (.ref a2)] [(.ref a1)])) rfl rfl (hb hby d13_26)
  obtain ⟨T5, X5, e5, st5⟩ := getF X4 hx hZ hown (host := "") (Or.inl (wq hw 28 rfl)) Via.refl e4 F_coder_a2 (g := (mkF m 30 #[.val (.ref a1), .val (.ref a2), .val (.ref a2)] [(.ref a2), (.int (0 : Int32))])) rfl rfl (hb hby d13_30)
  obtain ⟨T6, X6, e6, st6⟩ := getF X5 hx hZ hown (host := "") (Or.inl (wq hw 26 rfl)) Via.refl e5 F_value_a1 (g := (mkF m 37 #[.val (.ref a1), .val (.ref a2), .val (.ref a2)] [(.ref a1)])) rfl rfl (hb hby d13_37)
  obtain ⟨T7, X7, e7, st7⟩ := getF X6 hx hZ hown (host := "") (Or.inl (wq hw 26 rfl)) Via.refl e6 F_value_a2 (g := (mkF m 41 #[.val (.ref a1), .val (.ref a2), .val (.ref a2)] [(.ref a2), (.ref a3)])) rfl rfl (hb hby d13_41)
  obtain ⟨_, _, ⟨T8, L8, k8, n8⟩, -, X8, ⟨Lc8, hQ8, l8, y8, z8⟩, st8⟩ := Jvm.LawKit.callS X7 hx (y := y15) hown (mvT hZ (wq hw 84 rfl)) (mvT hZ (wq hw 85 rfl)) (mvT hZ (wq hw 11 rfl)) (mvT hZ (wq hw 86 rfl)) (by decide) (backOf (W := 0) (rm31 l Z a0 hw [] cs_v hp a3 a4 k_a3 p6 p7 k_a4 p9 p10 h0 n0 O0 V_a3 V_a4 hc9 hc10) hZ (wq hw 86 rfl) (wq hw 11 rfl) (by decide) (by decide)) (g := (mkF m 44 #[.val (.ref a1), .val (.ref a2), .val (.ref a2)] [(.ref a4), (.ref a3)])) rfl (by rw [hml]; rfl) (argsL := [(.ref a3), (.ref a4)]) (rest := []) (lenOf pd_13 rfl) rfl (by show 2 * 0 + _ ≤ _; exact Nat.le_of_eq rfl) (hb hby d13_44) (fun _ _ => ⟨rfl, e7, (by decide : 0 + 0 ≤ _), (by decide : 0 + 0 ≤ _)⟩)
  dsimp only [Pt.U, Pt.locs, Pt.cells, Pt.slots] at X8 l8 y8 z8 st8 hQ8
  subst l8 y8 z8
  obtain ⟨rfl, Nq8, eq8⟩ := hQ8
  have N8 := Fr.app N0 Nq8
  obtain ⟨fs, hr, hrun, hended, hW, hsame⟩ := X8.leave (v := some (.int (1 : Int32))) (fun h => by rw [Bd.returns] at h; cases h)
  refine ⟨_, _, castTop (ef_13_0 m a1 a2) ?_, hrun, hended, _, _, rfl, ?_, ⟨_, rfl⟩, hW, hsame.mono (by decide) (by decide)⟩
  · show Sp p e below s₁ (mkF m 0 #[.val (.ref a1), .val (.ref a2), .unset] []) _
    refine XS.aloadN X0.here hx rfl (hb hby d13_0) rfl rfl ?_
    refine XS.aloadN X0.here hx rfl (hb hby d13_1) rfl rfl ?_
    show Sp p e below s₁ (mkF m 2 #[.val (.ref a1), .val (.ref a2), .unset] [(.ref a2), (.ref a1)]) _
    refine Jvm.RoadKit.acmp (g := (mkF m 2 #[.val (.ref a1), .val (.ref a2), .unset] [(.ref a2), (.ref a1)])) X0 hx rfl rfl rfl (pc0 := 2) (pc' := 7) (same := false) rfl (hb hby d13_2) rfl (decide_eq_false fun q => ne_a1_a2 (Value.ref.inj q)) (by decide) (by decide) ?_
    show Sp p e below s₁ (mkF m 7 #[.val (.ref a1), .val (.ref a2), .unset] []) _
    refine XS.aloadN X0.here hx rfl (hb hby d13_7) rfl rfl ?_
    show Sp p e below s₁ (mkF m 8 #[.val (.ref a1), .val (.ref a2), .unset] [(.ref a2)]) _
    refine st1 _ ?_
    show Sp p e below T1 (mkF m 11 #[.val (.ref a1), .val (.ref a2), .unset] [(.int (1 : Int32))]) _
    refine XS.ifNo X1.here hx rfl (hb hby d13_11) rfl ((if0 _ _).trans (feq (by decide : ¬ ((1 : Int32) = (0 : Int32)))).1) ?_
    refine XS.aloadN X1.here hx rfl (hb hby d13_14) rfl rfl ?_
    show Sp p e below T1 (mkF m 15 #[.val (.ref a1), .val (.ref a2), .unset] [(.ref a2)]) _
    refine st2 _ ?_
    show Sp p e below T2 (mkF m 18 #[.val (.ref a1), .val (.ref a2), .unset] [(.ref a2)]) _
    refine XS.astoreN X2.here hx rfl (hb hby d13_18) rfl rfl (l' := #[.val (.ref a1), .val (.ref a2), .val (.ref a2)]) rfl ?_
    show Sp p e below T2 (mkF m 19 #[.val (.ref a1), .val (.ref a2), .val (.ref a2)] []) _
    refine st3 _ ?_
    show Sp p e below T3 (mkF m 22 #[.val (.ref a1), .val (.ref a2), .val (.ref a2)] [(.int cs_v)]) _
    refine XS.ifNo X3.here hx rfl (hb hby d13_22) rfl ((if0 _ _).trans (feq h_cs).1) ?_
    refine XS.aloadN X3.here hx rfl (hb hby d13_25) rfl rfl ?_
    show Sp p e below T3 (mkF m 26 #[.val (.ref a1), .val (.ref a2), .val (.ref a2)] [(.ref a1)]) _
    refine st4 _ ?_
    show Sp p e below T4 (mkF m 29 #[.val (.ref a1), .val (.ref a2), .val (.ref a2)] [(.int (0 : Int32))]) _
    refine XS.aloadN X4.here hx rfl (hb hby d13_29) rfl rfl ?_
    show Sp p e below T4 (mkF m 30 #[.val (.ref a1), .val (.ref a2), .val (.ref a2)] [(.ref a2), (.int (0 : Int32))]) _
    refine st5 _ ?_
    show Sp p e below T5 (mkF m 33 #[.val (.ref a1), .val (.ref a2), .val (.ref a2)] [(.int (0 : Int32)), (.int (0 : Int32))]) _
    refine XS.icmpNo X5.here hx rfl (hb hby d13_33) rfl (teq (by decide : (0 : Int32) = (0 : Int32))).2 ?_
    refine XS.aloadN X5.here hx rfl (hb hby d13_36) rfl rfl ?_
    show Sp p e below T5 (mkF m 37 #[.val (.ref a1), .val (.ref a2), .val (.ref a2)] [(.ref a1)]) _
    refine st6 _ ?_
    show Sp p e below T6 (mkF m 40 #[.val (.ref a1), .val (.ref a2), .val (.ref a2)] [(.ref a3)]) _
    refine XS.aloadN X6.here hx rfl (hb hby d13_40) rfl rfl ?_
    show Sp p e below T6 (mkF m 41 #[.val (.ref a1), .val (.ref a2), .val (.ref a2)] [(.ref a2), (.ref a3)]) _
    refine st7 _ ?_
    show Sp p e below T7 (mkF m 44 #[.val (.ref a1), .val (.ref a2), .val (.ref a2)] [(.ref a4), (.ref a3)]) _
    refine st8 _ ?_
    show Sp p e below T8 (mkF m 47 #[.val (.ref a1), .val (.ref a2), .val (.ref a2)] [(.int (1 : Int32))]) _
    refine XS.ifNo X8.here hx rfl (hb hby d13_47) rfl ((if0 _ _).trans (feq (by decide : ¬ ((1 : Int32) = (0 : Int32)))).1) ?_
    refine XS.iconst X8.here hx rfl (hb hby d13_50) ?_
    refine XS.goto X8.here hx rfl (pc0 := 51) (pc' := 55) rfl (hb hby d13_51) (by decide) (by decide) ?_
    show Sp p e below T8 (mkF m 55 #[.val (.ref a1), .val (.ref a2), .val (.ref a2)] [(.int (1 : Int32))]) _
    exact retN X8 hx (t := .boolean) Bd.returns (by simp) (hb hby d13_55) hr
  · show Q32 Z cs_v a1 a2 a3 a4 k_a3 p6 p7 k_a4 p9 p10 h0 n0 _ T8.heap _
    rw [eq8]
    exact ⟨rfl, N8, rfl⟩
def Q33 (Z : State) (cs_v : Int32) (a1 : Addr) (a2 : Addr) (k_a1 : ClassId) (p4 : Int32) (p5 : Int32) (k_a2 : ClassId) (p7 : Int32) (p8 : Int32) (h0 : Heap) (n0 : Nat) (v : Option Value) (h : Heap) (L : List Loc) : Prop := v = some (.int (0 : Int32)) ∧ Fr n0 L ∧ h = h0
theorem rm33 (l : Launch) (Z : State) (a0 : Array Value) (hw : ∀ d ∈ tables_1, d.before a0 Z = true) (ws : List Jvm.Cond) (cs_v : Int32) (hp : Perm Z cs_v) (a1 : Addr) (a2 : Addr) (k_a1 : ClassId) (p4 : Int32) (p5 : Int32) (k_a2 : ClassId) (p7 : Int32) (p8 : Int32) (h0 : Heap) (n0 : Nat) (O0 : Old Z n0 h0) (V_a1 : Arv Z h0 a1 k_a1 .byte (2 : Int32) [(.int p4), (.int p5)] (.int (0 : Int32))) (V_a2 : Arv Z h0 a2 k_a2 .byte (2 : Int32) [(.int p7), (.int p8)] (.int (0 : Int32))) (hc3 : ¬ (p4 = p7)) :
    MetFree l y15 (head1 (Jvm.Cond.code y15 jdk_43_method_13_code 3 (some .boolean) :: ws) ({ frames := 0, cells := 0, slots := 0, locals := 0 } : Room)) (fun a U => a = #[(.ref a1), (.ref a2)] ∧ Z.Warmed39 U.vm ∧ U.heap = h0) (fun _ _ _ _ _ => True) (fun _ U o U' => ∃ v L, o = .returned v ∧ Q33 Z cs_v a1 a2 k_a1 p4 p5 k_a2 p7 p8 h0 n0 v U'.heap L ∧ FrameEnd U o U' L ({ frames := 0, cells := 0, slots := 0, locals := 0 } : Room).cells ({ frames := 0, cells := 0, slots := 0, locals := 0 } : Room).slots) := by
  refine MetFree.of_bodySF (plainFor_of_name pn_3) hisR ?_
  intro p e s m args below meth c s₁ Bd hml0 hP hK
  obtain ⟨rfl, hZ, hh⟩ := hP
  have hx := Bd.exec
  have hby := Bd.bytes
  have hml : c.maxLocals = 3 := hml0
  have hown : s.vm.findClass "java/lang/StringLatin1" = some m.cls := findClass_of_methodNamed Bd.named
  have hnm := (name_of_methodNamed Bd.named Bd.method).1
  have X0 : Stand p l e ({ frames := 0, cells := 0, slots := 0, locals := 0 } : Room) s m #[(.ref a1), (.ref a2)] below meth c s₁ [] 0 0 := Stand.of_body Bd
  have e0 : s₁.heap = h0 := by rw [← hh, Bd.state]; rfl
  have N0 := Fr.nil n0
  obtain ⟨cl1, Ar1, -, S1, Nn1, -, -⟩ := id V_a1
  obtain ⟨cl2, Ar2, -, S2, Nn2, -, -⟩ := id V_a2
  obtain ⟨cl3, Ar3, -, S3, Nn3, -, -⟩ := id V_a1
  obtain ⟨cl4, Ar4, -, S4, -, H4, -⟩ := id V_a1
  have hin4 : ¬ ((0 : Int32) < 0 ∨ cl4.slots.size ≤ ((0 : Int32)).toNatClampNeg) := inb_of S4 ⟨by decide, by decide⟩
  have hat4 : cl4.slots[((0 : Int32)).toNatClampNeg]? = some (.int p4) := H4.at hin4 rfl
  obtain ⟨cl5, Ar5, -, S5, -, H5, -⟩ := id V_a2
  have hin5 : ¬ ((0 : Int32) < 0 ∨ cl5.slots.size ≤ ((0 : Int32)).toNatClampNeg) := inb_of S5 ⟨by decide, by decide⟩
  have hat5 : cl5.slots[((0 : Int32)).toNatClampNeg]? = some (.int p7) := H5.at hin5 rfl
  obtain ⟨fs, hr, hrun, hended, hW, hsame⟩ := X0.leave (v := some (.int (0 : Int32))) (fun h => by rw [Bd.returns] at h; cases h)
  refine ⟨_, _, castTop (ef_14_0 m a1 a2) ?_, hrun, hended, _, _, rfl, ?_, ⟨_, rfl⟩, hW, hsame.mono (by decide) (by decide)⟩
  · show Sp p e below s₁ (mkF m 0 #[.val (.ref a1), .val (.ref a2), .unset] []) _
    refine XS.aloadN X0.here hx rfl (hb hby d14_0) rfl rfl ?_
    show Sp p e below s₁ (mkF m 1 #[.val (.ref a1), .val (.ref a2), .unset] [(.ref a1)]) _
    refine X0.arraylength hx (by rw [e0]; exact Ar1.1) (State.isArrayOf_alike hZ.alike Ar1.2.1) (g := (mkF m 1 #[.val (.ref a1), .val (.ref a2), .unset] [(.ref a1)])) rfl rfl (hb hby d14_1) _ ?_
    rw [len_of S1 Nn1]
    show Sp p e below s₁ (mkF m 2 #[.val (.ref a1), .val (.ref a2), .unset] [(.int (2 : Int32))]) _
    refine XS.aloadN X0.here hx rfl (hb hby d14_2) rfl rfl ?_
    show Sp p e below s₁ (mkF m 3 #[.val (.ref a1), .val (.ref a2), .unset] [(.ref a2), (.int (2 : Int32))]) _
    refine X0.arraylength hx (by rw [e0]; exact Ar2.1) (State.isArrayOf_alike hZ.alike Ar2.2.1) (g := (mkF m 3 #[.val (.ref a1), .val (.ref a2), .unset] [(.ref a2), (.int (2 : Int32))])) rfl rfl (hb hby d14_3) _ ?_
    rw [len_of S2 Nn2]
    show Sp p e below s₁ (mkF m 4 #[.val (.ref a1), .val (.ref a2), .unset] [(.int (2 : Int32)), (.int (2 : Int32))]) _
    refine XS.icmpNo X0.here hx rfl (hb hby d14_4) rfl (teq (by decide : (2 : Int32) = (2 : Int32))).2 ?_
    refine XS.iconst X0.here hx rfl (hb hby d14_7) ?_
    refine XS.istoreN X0.here hx rfl (hb hby d14_8) rfl (l' := #[.val (.ref a1), .val (.ref a2), .val (.int (0 : Int32))]) rfl ?_
    refine XS.iloadN X0.here hx rfl (hb hby d14_9) rfl ?_
    refine XS.aloadN X0.here hx rfl (hb hby d14_10) rfl rfl ?_
    show Sp p e below s₁ (mkF m 11 #[.val (.ref a1), .val (.ref a2), .val (.int (0 : Int32))] [(.ref a1), (.int (0 : Int32))]) _
    refine X0.arraylength hx (by rw [e0]; exact Ar3.1) (State.isArrayOf_alike hZ.alike Ar3.2.1) (g := (mkF m 11 #[.val (.ref a1), .val (.ref a2), .val (.int (0 : Int32))] [(.ref a1), (.int (0 : Int32))])) rfl rfl (hb hby d14_11) _ ?_
    rw [len_of S3 Nn3]
    show Sp p e below s₁ (mkF m 12 #[.val (.ref a1), .val (.ref a2), .val (.int (0 : Int32))] [(.int (2 : Int32)), (.int (0 : Int32))]) _
    refine XS.icmpNo X0.here hx rfl (hb hby d14_12) rfl (tlt (by decide : (0 : Int32) < (2 : Int32))).2.1 ?_
    refine XS.aloadN X0.here hx rfl (hb hby d14_15) rfl rfl ?_
    refine XS.iloadN X0.here hx rfl (hb hby d14_16) rfl ?_
    show Sp p e below s₁ (mkF m 17 #[.val (.ref a1), .val (.ref a2), .val (.int (0 : Int32))] [(.int (0 : Int32)), (.ref a1)]) _
    refine X0.baloadBytes hx (j := (0 : Int32)) (v := (.int p4)) (by rw [e0]; exact Ar4.1) (State.isArrayOf_alike hZ.alike Ar4.2.1) Ar4.2.2 hin4 hat4 (g := (mkF m 17 #[.val (.ref a1), .val (.ref a2), .val (.int (0 : Int32))] [(.int (0 : Int32)), (.ref a1)])) rfl rfl (hb hby d14_17) _ ?_
    show Sp p e below s₁ (mkF m 18 #[.val (.ref a1), .val (.ref a2), .val (.int (0 : Int32))] [(.int p4)]) _
    refine XS.aloadN X0.here hx rfl (hb hby d14_18) rfl rfl ?_
    refine XS.iloadN X0.here hx rfl (hb hby d14_19) rfl ?_
    show Sp p e below s₁ (mkF m 20 #[.val (.ref a1), .val (.ref a2), .val (.int (0 : Int32))] [(.int (0 : Int32)), (.ref a2), (.int p4)]) _
    refine X0.baloadBytes hx (j := (0 : Int32)) (v := (.int p7)) (by rw [e0]; exact Ar5.1) (State.isArrayOf_alike hZ.alike Ar5.2.1) Ar5.2.2 hin5 hat5 (g := (mkF m 20 #[.val (.ref a1), .val (.ref a2), .val (.int (0 : Int32))] [(.int (0 : Int32)), (.ref a2), (.int p4)])) rfl rfl (hb hby d14_20) _ ?_
    show Sp p e below s₁ (mkF m 21 #[.val (.ref a1), .val (.ref a2), .val (.int (0 : Int32))] [(.int p7), (.int p4)]) _
    refine XS.icmpNo X0.here hx rfl (hb hby d14_21) rfl (feq hc3).1 ?_
    refine XS.iconst X0.here hx rfl (hb hby d14_24) ?_
    show Sp p e below s₁ (mkF m 25 #[.val (.ref a1), .val (.ref a2), .val (.int (0 : Int32))] [(.int (0 : Int32))]) _
    exact retN X0 hx (t := .boolean) Bd.returns (by simp) (hb hby d14_25) hr
  · show Q33 Z cs_v a1 a2 k_a1 p4 p5 k_a2 p7 p8 h0 n0 _ s₁.heap _
    rw [e0]
    exact ⟨rfl, N0, rfl⟩
def Q34 (Z : State) (cs_v : Int32) (a1 : Addr) (a2 : Addr) (a3 : Addr) (a4 : Addr) (k_a3 : ClassId) (p6 : Int32) (p7 : Int32) (k_a4 : ClassId) (p9 : Int32) (p10 : Int32) (h0 : Heap) (n0 : Nat) (v : Option Value) (h : Heap) (L : List Loc) : Prop := v = some (.int (0 : Int32)) ∧ Fr n0 L ∧ h = h0
theorem rm34 (l : Launch) (Z : State) (a0 : Array Value) (hw : ∀ d ∈ tables_1, d.before a0 Z = true) (ws : List Jvm.Cond) (cs_v : Int32) (hp : Perm Z cs_v) (a1 : Addr) (a2 : Addr) (a3 : Addr) (a4 : Addr) (k_a3 : ClassId) (p6 : Int32) (p7 : Int32) (k_a4 : ClassId) (p9 : Int32) (p10 : Int32) (h0 : Heap) (n0 : Nat) (O0 : Old Z n0 h0) (ne_a1_a2 : a1 ≠ a2) (E_a2 : Exa Z h0 a2 "java/lang/String") (F_coder_a1 : Fld Z h0 a1 "java/lang/String" "coder" "B" (.int (0 : Int32))) (F_coder_a2 : Fld Z h0 a2 "java/lang/String" "coder" "B" (.int (0 : Int32))) (F_value_a1 : Fld Z h0 a1 "java/lang/String" "value" "[B" (.ref a3)) (F_value_a2 : Fld Z h0 a2 "java/lang/String" "value" "[B" (.ref a4)) (V_a3 : Arv Z h0 a3 k_a3 .byte (2 : Int32) [(.int p6), (.int p7)] (.int (0 : Int32))) (V_a4 : Arv Z h0 a4 k_a4 .byte (2 : Int32) [(.int p9), (.int p10)] (.int (0 : Int32))) (hc9 : ¬ (p6 = p9)) :
    MetFree l y16 (head1 (Jvm.Cond.code y16 jdk_42_method_66_code 3 (some .boolean) :: ws) ({ frames := 1, cells := 0, slots := 0, locals := 14 } : Room)) (fun a U => a = #[(.ref a1), (.ref a2)] ∧ Z.Warmed39 U.vm ∧ U.heap = h0) (fun _ _ _ _ _ => True) (fun _ U o U' => ∃ v L, o = .returned v ∧ Q34 Z cs_v a1 a2 a3 a4 k_a3 p6 p7 k_a4 p9 p10 h0 n0 v U'.heap L ∧ FrameEnd U o U' L ({ frames := 1, cells := 0, slots := 0, locals := 14 } : Room).cells ({ frames := 1, cells := 0, slots := 0, locals := 14 } : Room).slots) := by
  refine MetFree.of_bodySF (plainFor_of_name pn_5) hisR ?_
  intro p e s m args below meth c s₁ Bd hml0 hP hK
  obtain ⟨rfl, hZ, hh⟩ := hP
  have hx := Bd.exec
  have hby := Bd.bytes
  have hml : c.maxLocals = 3 := hml0
  have hown : s.vm.findClass "java/lang/String" = some m.cls := findClass_of_methodNamed Bd.named
  have hnm := (name_of_methodNamed Bd.named Bd.method).1
  have X0 : Stand p l e ({ frames := 1, cells := 0, slots := 0, locals := 14 } : Room) s m #[(.ref a1), (.ref a2)] below meth c s₁ [] 0 0 := Stand.of_body Bd
  have e0 : s₁.heap = h0 := by rw [← hh, Bd.state]; rfl
  have N0 := Fr.nil n0
  have hp' := hp
  obtain ⟨S_COMPACT_STRINGS, h_cs⟩ := hp'
  obtain ⟨T1, X1, e1, st1⟩ := instY X0 hx hZ hown (wq hw 13 rfl) e0 (Ins.self E_a2) (g := (mkF m 8 #[.val (.ref a1), .val (.ref a2), .unset] [(.ref a2)])) rfl rfl (hb hby d13_8)
  obtain ⟨T2, X2, e2, st2⟩ := castY X1 hx hZ hown (wq hw 13 rfl) e1 (Ins.self E_a2) (g := (mkF m 15 #[.val (.ref a1), .val (.ref a2), .unset] [(.ref a2)])) rfl rfl (hb hby d13_15)
  obtain ⟨T3, X3, e3, st3⟩ := getS2 X2 hx hZ hown (host := "") (Or.inl (wq hw 8 rfl)) Via.refl e2 (S_COMPACT_STRINGS.ext O0.2) (g := (mkF m 19 #[.val (.ref a1), .val (.ref a2), .val (.ref a2)] [])) rfl (hb hby d13_19)
  obtain ⟨T4, X4, e4, st4⟩ := getF X3 hx hZ hown (host := "") (Or.inl (wq hw 28 rfl)) Via.refl e3 F_coder_a1 (g := (mkF m 26 #[.val (.ref a1), .val (.ref a2), .val (.ref a2)] [(.ref a1)])) rfl rfl (hb hby d13_26)
  obtain ⟨T5, X5, e5, st5⟩ := getF X4 hx hZ hown (host := "") (Or.inl (wq hw 28 rfl)) Via.refl e4 F_coder_a2 (g := (mkF m 30 #[.val (.ref a1), .val (.ref a2), .val (.ref a2)] [(.ref a2), (.int (0 : Int32))])) rfl rfl (hb hby d13_30)
  obtain ⟨T6, X6, e6, st6⟩ := getF X5 hx hZ hown (host := "") (Or.inl (wq hw 26 rfl)) Via.refl e5 F_value_a1 (g := (mkF m 37 #[.val (.ref a1), .val (.ref a2), .val (.ref a2)] [(.ref a1)])) rfl rfl (hb hby d13_37)
  obtain ⟨T7, X7, e7, st7⟩ := getF X6 hx hZ hown (host := "") (Or.inl (wq hw 26 rfl)) Via.refl e6 F_value_a2 (g := (mkF m 41 #[.val (.ref a1), .val (.ref a2), .val (.ref a2)] [(.ref a2), (.ref a3)])) rfl rfl (hb hby d13_41)
  obtain ⟨_, _, ⟨T8, L8, k8, n8⟩, -, X8, ⟨Lc8, hQ8, l8, y8, z8⟩, st8⟩ := Jvm.LawKit.callS X7 hx (y := y15) hown (mvT hZ (wq hw 84 rfl)) (mvT hZ (wq hw 85 rfl)) (mvT hZ (wq hw 11 rfl)) (mvT hZ (wq hw 86 rfl)) (by decide) (backOf (W := 0) (rm33 l Z a0 hw [] cs_v hp a3 a4 k_a3 p6 p7 k_a4 p9 p10 h0 n0 O0 V_a3 V_a4 hc9) hZ (wq hw 86 rfl) (wq hw 11 rfl) (by decide) (by decide)) (g := (mkF m 44 #[.val (.ref a1), .val (.ref a2), .val (.ref a2)] [(.ref a4), (.ref a3)])) rfl (by rw [hml]; rfl) (argsL := [(.ref a3), (.ref a4)]) (rest := []) (lenOf pd_13 rfl) rfl (by show 2 * 0 + _ ≤ _; exact Nat.le_of_eq rfl) (hb hby d13_44) (fun _ _ => ⟨rfl, e7, (by decide : 0 + 0 ≤ _), (by decide : 0 + 0 ≤ _)⟩)
  dsimp only [Pt.U, Pt.locs, Pt.cells, Pt.slots] at X8 l8 y8 z8 st8 hQ8
  subst l8 y8 z8
  obtain ⟨rfl, Nq8, eq8⟩ := hQ8
  have N8 := Fr.app N0 Nq8
  obtain ⟨fs, hr, hrun, hended, hW, hsame⟩ := X8.leave (v := some (.int (0 : Int32))) (fun h => by rw [Bd.returns] at h; cases h)
  refine ⟨_, _, castTop (ef_13_0 m a1 a2) ?_, hrun, hended, _, _, rfl, ?_, ⟨_, rfl⟩, hW, hsame.mono (by decide) (by decide)⟩
  · show Sp p e below s₁ (mkF m 0 #[.val (.ref a1), .val (.ref a2), .unset] []) _
    refine XS.aloadN X0.here hx rfl (hb hby d13_0) rfl rfl ?_
    refine XS.aloadN X0.here hx rfl (hb hby d13_1) rfl rfl ?_
    show Sp p e below s₁ (mkF m 2 #[.val (.ref a1), .val (.ref a2), .unset] [(.ref a2), (.ref a1)]) _
    refine Jvm.RoadKit.acmp (g := (mkF m 2 #[.val (.ref a1), .val (.ref a2), .unset] [(.ref a2), (.ref a1)])) X0 hx rfl rfl rfl (pc0 := 2) (pc' := 7) (same := false) rfl (hb hby d13_2) rfl (decide_eq_false fun q => ne_a1_a2 (Value.ref.inj q)) (by decide) (by decide) ?_
    show Sp p e below s₁ (mkF m 7 #[.val (.ref a1), .val (.ref a2), .unset] []) _
    refine XS.aloadN X0.here hx rfl (hb hby d13_7) rfl rfl ?_
    show Sp p e below s₁ (mkF m 8 #[.val (.ref a1), .val (.ref a2), .unset] [(.ref a2)]) _
    refine st1 _ ?_
    show Sp p e below T1 (mkF m 11 #[.val (.ref a1), .val (.ref a2), .unset] [(.int (1 : Int32))]) _
    refine XS.ifNo X1.here hx rfl (hb hby d13_11) rfl ((if0 _ _).trans (feq (by decide : ¬ ((1 : Int32) = (0 : Int32)))).1) ?_
    refine XS.aloadN X1.here hx rfl (hb hby d13_14) rfl rfl ?_
    show Sp p e below T1 (mkF m 15 #[.val (.ref a1), .val (.ref a2), .unset] [(.ref a2)]) _
    refine st2 _ ?_
    show Sp p e below T2 (mkF m 18 #[.val (.ref a1), .val (.ref a2), .unset] [(.ref a2)]) _
    refine XS.astoreN X2.here hx rfl (hb hby d13_18) rfl rfl (l' := #[.val (.ref a1), .val (.ref a2), .val (.ref a2)]) rfl ?_
    show Sp p e below T2 (mkF m 19 #[.val (.ref a1), .val (.ref a2), .val (.ref a2)] []) _
    refine st3 _ ?_
    show Sp p e below T3 (mkF m 22 #[.val (.ref a1), .val (.ref a2), .val (.ref a2)] [(.int cs_v)]) _
    refine XS.ifNo X3.here hx rfl (hb hby d13_22) rfl ((if0 _ _).trans (feq h_cs).1) ?_
    refine XS.aloadN X3.here hx rfl (hb hby d13_25) rfl rfl ?_
    show Sp p e below T3 (mkF m 26 #[.val (.ref a1), .val (.ref a2), .val (.ref a2)] [(.ref a1)]) _
    refine st4 _ ?_
    show Sp p e below T4 (mkF m 29 #[.val (.ref a1), .val (.ref a2), .val (.ref a2)] [(.int (0 : Int32))]) _
    refine XS.aloadN X4.here hx rfl (hb hby d13_29) rfl rfl ?_
    show Sp p e below T4 (mkF m 30 #[.val (.ref a1), .val (.ref a2), .val (.ref a2)] [(.ref a2), (.int (0 : Int32))]) _
    refine st5 _ ?_
    show Sp p e below T5 (mkF m 33 #[.val (.ref a1), .val (.ref a2), .val (.ref a2)] [(.int (0 : Int32)), (.int (0 : Int32))]) _
    refine XS.icmpNo X5.here hx rfl (hb hby d13_33) rfl (teq (by decide : (0 : Int32) = (0 : Int32))).2 ?_
    refine XS.aloadN X5.here hx rfl (hb hby d13_36) rfl rfl ?_
    show Sp p e below T5 (mkF m 37 #[.val (.ref a1), .val (.ref a2), .val (.ref a2)] [(.ref a1)]) _
    refine st6 _ ?_
    show Sp p e below T6 (mkF m 40 #[.val (.ref a1), .val (.ref a2), .val (.ref a2)] [(.ref a3)]) _
    refine XS.aloadN X6.here hx rfl (hb hby d13_40) rfl rfl ?_
    show Sp p e below T6 (mkF m 41 #[.val (.ref a1), .val (.ref a2), .val (.ref a2)] [(.ref a2), (.ref a3)]) _
    refine st7 _ ?_
    show Sp p e below T7 (mkF m 44 #[.val (.ref a1), .val (.ref a2), .val (.ref a2)] [(.ref a4), (.ref a3)]) _
    refine st8 _ ?_
    show Sp p e below T8 (mkF m 47 #[.val (.ref a1), .val (.ref a2), .val (.ref a2)] [(.int (0 : Int32))]) _
    refine XS.ifYes X8.here hx rfl (pc0 := 47) (pc' := 54) rfl (hb hby d13_47) rfl ((if0 _ _).trans (teq (by decide : (0 : Int32) = (0 : Int32))).1) (by decide) (by decide) ?_
    refine XS.iconst X8.here hx rfl (hb hby d13_54) ?_
    show Sp p e below T8 (mkF m 55 #[.val (.ref a1), .val (.ref a2), .val (.ref a2)] [(.int (0 : Int32))]) _
    exact retN X8 hx (t := .boolean) Bd.returns (by simp) (hb hby d13_55) hr
  · show Q34 Z cs_v a1 a2 a3 a4 k_a3 p6 p7 k_a4 p9 p10 h0 n0 _ T8.heap _
    rw [eq8]
    exact ⟨rfl, N8, rfl⟩
def Q35 (Z : State) (cs_v : Int32) (a1 : Addr) (a2 : Addr) (k_a1 : ClassId) (p4 : Int32) (p5 : Int32) (k_a2 : ClassId) (p7 : Int32) (p8 : Int32) (h0 : Heap) (n0 : Nat) (v : Option Value) (h : Heap) (L : List Loc) : Prop := v = some (.int (0 : Int32)) ∧ Fr n0 L ∧ h = h0
theorem rm35 (l : Launch) (Z : State) (a0 : Array Value) (hw : ∀ d ∈ tables_1, d.before a0 Z = true) (ws : List Jvm.Cond) (cs_v : Int32) (hp : Perm Z cs_v) (a1 : Addr) (a2 : Addr) (k_a1 : ClassId) (p4 : Int32) (p5 : Int32) (k_a2 : ClassId) (p7 : Int32) (p8 : Int32) (h0 : Heap) (n0 : Nat) (O0 : Old Z n0 h0) (V_a1 : Arv Z h0 a1 k_a1 .byte (2 : Int32) [(.int p4), (.int p5)] (.int (0 : Int32))) (V_a2 : Arv Z h0 a2 k_a2 .byte (2 : Int32) [(.int p7), (.int p8)] (.int (0 : Int32))) (hc3 : p4 = p7) (hc4 : ¬ (p5 = p8)) :
    MetFree l y15 (head1 (Jvm.Cond.code y15 jdk_43_method_13_code 3 (some .boolean) :: ws) ({ frames := 0, cells := 0, slots := 0, locals := 0 } : Room)) (fun a U => a = #[(.ref a1), (.ref a2)] ∧ Z.Warmed39 U.vm ∧ U.heap = h0) (fun _ _ _ _ _ => True) (fun _ U o U' => ∃ v L, o = .returned v ∧ Q35 Z cs_v a1 a2 k_a1 p4 p5 k_a2 p7 p8 h0 n0 v U'.heap L ∧ FrameEnd U o U' L ({ frames := 0, cells := 0, slots := 0, locals := 0 } : Room).cells ({ frames := 0, cells := 0, slots := 0, locals := 0 } : Room).slots) := by
  refine MetFree.of_bodySF (plainFor_of_name pn_3) hisR ?_
  intro p e s m args below meth c s₁ Bd hml0 hP hK
  obtain ⟨rfl, hZ, hh⟩ := hP
  have hx := Bd.exec
  have hby := Bd.bytes
  have hml : c.maxLocals = 3 := hml0
  have hown : s.vm.findClass "java/lang/StringLatin1" = some m.cls := findClass_of_methodNamed Bd.named
  have hnm := (name_of_methodNamed Bd.named Bd.method).1
  have X0 : Stand p l e ({ frames := 0, cells := 0, slots := 0, locals := 0 } : Room) s m #[(.ref a1), (.ref a2)] below meth c s₁ [] 0 0 := Stand.of_body Bd
  have e0 : s₁.heap = h0 := by rw [← hh, Bd.state]; rfl
  have N0 := Fr.nil n0
  obtain ⟨cl1, Ar1, -, S1, Nn1, -, -⟩ := id V_a1
  obtain ⟨cl2, Ar2, -, S2, Nn2, -, -⟩ := id V_a2
  obtain ⟨cl3, Ar3, -, S3, Nn3, -, -⟩ := id V_a1
  obtain ⟨cl4, Ar4, -, S4, -, H4, -⟩ := id V_a1
  have hin4 : ¬ ((0 : Int32) < 0 ∨ cl4.slots.size ≤ ((0 : Int32)).toNatClampNeg) := inb_of S4 ⟨by decide, by decide⟩
  have hat4 : cl4.slots[((0 : Int32)).toNatClampNeg]? = some (.int p4) := H4.at hin4 rfl
  obtain ⟨cl5, Ar5, -, S5, -, H5, -⟩ := id V_a2
  have hin5 : ¬ ((0 : Int32) < 0 ∨ cl5.slots.size ≤ ((0 : Int32)).toNatClampNeg) := inb_of S5 ⟨by decide, by decide⟩
  have hat5 : cl5.slots[((0 : Int32)).toNatClampNeg]? = some (.int p7) := H5.at hin5 rfl
  obtain ⟨cl6, Ar6, -, S6, Nn6, -, -⟩ := id V_a1
  obtain ⟨cl7, Ar7, -, S7, -, H7, -⟩ := id V_a1
  have hin7 : ¬ (((0 : Int32) + (1 : Int32)) < 0 ∨ cl7.slots.size ≤ (((0 : Int32) + (1 : Int32))).toNatClampNeg) := inb_of S7 ⟨by decide, by decide⟩
  have hat7 : cl7.slots[(((0 : Int32) + (1 : Int32))).toNatClampNeg]? = some (.int p5) := H7.at hin7 rfl
  obtain ⟨cl8, Ar8, -, S8, -, H8, -⟩ := id V_a2
  have hin8 : ¬ (((0 : Int32) + (1 : Int32)) < 0 ∨ cl8.slots.size ≤ (((0 : Int32) + (1 : Int32))).toNatClampNeg) := inb_of S8 ⟨by decide, by decide⟩
  have hat8 : cl8.slots[(((0 : Int32) + (1 : Int32))).toNatClampNeg]? = some (.int p8) := H8.at hin8 rfl
  obtain ⟨fs, hr, hrun, hended, hW, hsame⟩ := X0.leave (v := some (.int (0 : Int32))) (fun h => by rw [Bd.returns] at h; cases h)
  refine ⟨_, _, castTop (ef_14_0 m a1 a2) ?_, hrun, hended, _, _, rfl, ?_, ⟨_, rfl⟩, hW, hsame.mono (by decide) (by decide)⟩
  · show Sp p e below s₁ (mkF m 0 #[.val (.ref a1), .val (.ref a2), .unset] []) _
    refine XS.aloadN X0.here hx rfl (hb hby d14_0) rfl rfl ?_
    show Sp p e below s₁ (mkF m 1 #[.val (.ref a1), .val (.ref a2), .unset] [(.ref a1)]) _
    refine X0.arraylength hx (by rw [e0]; exact Ar1.1) (State.isArrayOf_alike hZ.alike Ar1.2.1) (g := (mkF m 1 #[.val (.ref a1), .val (.ref a2), .unset] [(.ref a1)])) rfl rfl (hb hby d14_1) _ ?_
    rw [len_of S1 Nn1]
    show Sp p e below s₁ (mkF m 2 #[.val (.ref a1), .val (.ref a2), .unset] [(.int (2 : Int32))]) _
    refine XS.aloadN X0.here hx rfl (hb hby d14_2) rfl rfl ?_
    show Sp p e below s₁ (mkF m 3 #[.val (.ref a1), .val (.ref a2), .unset] [(.ref a2), (.int (2 : Int32))]) _
    refine X0.arraylength hx (by rw [e0]; exact Ar2.1) (State.isArrayOf_alike hZ.alike Ar2.2.1) (g := (mkF m 3 #[.val (.ref a1), .val (.ref a2), .unset] [(.ref a2), (.int (2 : Int32))])) rfl rfl (hb hby d14_3) _ ?_
    rw [len_of S2 Nn2]
    show Sp p e below s₁ (mkF m 4 #[.val (.ref a1), .val (.ref a2), .unset] [(.int (2 : Int32)), (.int (2 : Int32))]) _
    refine XS.icmpNo X0.here hx rfl (hb hby d14_4) rfl (teq (by decide : (2 : Int32) = (2 : Int32))).2 ?_
    refine XS.iconst X0.here hx rfl (hb hby d14_7) ?_
    refine XS.istoreN X0.here hx rfl (hb hby d14_8) rfl (l' := #[.val (.ref a1), .val (.ref a2), .val (.int (0 : Int32))]) rfl ?_
    refine XS.iloadN X0.here hx rfl (hb hby d14_9) rfl ?_
    refine XS.aloadN X0.here hx rfl (hb hby d14_10) rfl rfl ?_
    show Sp p e below s₁ (mkF m 11 #[.val (.ref a1), .val (.ref a2), .val (.int (0 : Int32))] [(.ref a1), (.int (0 : Int32))]) _
    refine X0.arraylength hx (by rw [e0]; exact Ar3.1) (State.isArrayOf_alike hZ.alike Ar3.2.1) (g := (mkF m 11 #[.val (.ref a1), .val (.ref a2), .val (.int (0 : Int32))] [(.ref a1), (.int (0 : Int32))])) rfl rfl (hb hby d14_11) _ ?_
    rw [len_of S3 Nn3]
    show Sp p e below s₁ (mkF m 12 #[.val (.ref a1), .val (.ref a2), .val (.int (0 : Int32))] [(.int (2 : Int32)), (.int (0 : Int32))]) _
    refine XS.icmpNo X0.here hx rfl (hb hby d14_12) rfl (tlt (by decide : (0 : Int32) < (2 : Int32))).2.1 ?_
    refine XS.aloadN X0.here hx rfl (hb hby d14_15) rfl rfl ?_
    refine XS.iloadN X0.here hx rfl (hb hby d14_16) rfl ?_
    show Sp p e below s₁ (mkF m 17 #[.val (.ref a1), .val (.ref a2), .val (.int (0 : Int32))] [(.int (0 : Int32)), (.ref a1)]) _
    refine X0.baloadBytes hx (j := (0 : Int32)) (v := (.int p4)) (by rw [e0]; exact Ar4.1) (State.isArrayOf_alike hZ.alike Ar4.2.1) Ar4.2.2 hin4 hat4 (g := (mkF m 17 #[.val (.ref a1), .val (.ref a2), .val (.int (0 : Int32))] [(.int (0 : Int32)), (.ref a1)])) rfl rfl (hb hby d14_17) _ ?_
    show Sp p e below s₁ (mkF m 18 #[.val (.ref a1), .val (.ref a2), .val (.int (0 : Int32))] [(.int p4)]) _
    refine XS.aloadN X0.here hx rfl (hb hby d14_18) rfl rfl ?_
    refine XS.iloadN X0.here hx rfl (hb hby d14_19) rfl ?_
    show Sp p e below s₁ (mkF m 20 #[.val (.ref a1), .val (.ref a2), .val (.int (0 : Int32))] [(.int (0 : Int32)), (.ref a2), (.int p4)]) _
    refine X0.baloadBytes hx (j := (0 : Int32)) (v := (.int p7)) (by rw [e0]; exact Ar5.1) (State.isArrayOf_alike hZ.alike Ar5.2.1) Ar5.2.2 hin5 hat5 (g := (mkF m 20 #[.val (.ref a1), .val (.ref a2), .val (.int (0 : Int32))] [(.int (0 : Int32)), (.ref a2), (.int p4)])) rfl rfl (hb hby d14_20) _ ?_
    show Sp p e below s₁ (mkF m 21 #[.val (.ref a1), .val (.ref a2), .val (.int (0 : Int32))] [(.int p7), (.int p4)]) _
    refine XS.icmpYes X0.here hx rfl (pc0 := 21) (pc' := 26) rfl (hb hby d14_21) rfl (teq hc3).1 (by decide) (by decide) ?_
    show Sp p e below s₁ (mkF m 26 #[.val (.ref a1), .val (.ref a2), .val (.int (0 : Int32))] []) _
    refine XS.iinc X0.here hx rfl (hb hby d14_26) rfl (l' := #[.val (.ref a1), .val (.ref a2), .val (.int (fx2 ))]) rfl ?_
    refine XS.goto X0.here hx rfl (pc0 := 29) (pc' := 9) rfl (hb hby d14_29) (by decide) (by decide) ?_
    refine XS.iloadN X0.here hx rfl (hb hby d14_9) rfl ?_
    refine XS.aloadN X0.here hx rfl (hb hby d14_10) rfl rfl ?_
    show Sp p e below s₁ (mkF m 11 #[.val (.ref a1), .val (.ref a2), .val (.int (fx2 ))] [(.ref a1), (.int (fx2 ))]) _
    refine X0.arraylength hx (by rw [e0]; exact Ar6.1) (State.isArrayOf_alike hZ.alike Ar6.2.1) (g := (mkF m 11 #[.val (.ref a1), .val (.ref a2), .val (.int (fx2 ))] [(.ref a1), (.int (fx2 ))])) rfl rfl (hb hby d14_11) _ ?_
    rw [len_of S6 Nn6]
    show Sp p e below s₁ (mkF m 12 #[.val (.ref a1), .val (.ref a2), .val (.int (fx2 ))] [(.int (2 : Int32)), (.int (fx2 ))]) _
    refine XS.icmpNo X0.here hx rfl (hb hby d14_12) rfl (tlt (by decide : ((0 : Int32) + (1 : Int32)) < (2 : Int32))).2.1 ?_
    refine XS.aloadN X0.here hx rfl (hb hby d14_15) rfl rfl ?_
    refine XS.iloadN X0.here hx rfl (hb hby d14_16) rfl ?_
    show Sp p e below s₁ (mkF m 17 #[.val (.ref a1), .val (.ref a2), .val (.int (fx2 ))] [(.int (fx2 )), (.ref a1)]) _
    refine X0.baloadBytes hx (j := ((0 : Int32) + (1 : Int32))) (v := (.int p5)) (by rw [e0]; exact Ar7.1) (State.isArrayOf_alike hZ.alike Ar7.2.1) Ar7.2.2 hin7 hat7 (g := (mkF m 17 #[.val (.ref a1), .val (.ref a2), .val (.int (fx2 ))] [(.int (fx2 )), (.ref a1)])) rfl rfl (hb hby d14_17) _ ?_
    show Sp p e below s₁ (mkF m 18 #[.val (.ref a1), .val (.ref a2), .val (.int (fx2 ))] [(.int p5)]) _
    refine XS.aloadN X0.here hx rfl (hb hby d14_18) rfl rfl ?_
    refine XS.iloadN X0.here hx rfl (hb hby d14_19) rfl ?_
    show Sp p e below s₁ (mkF m 20 #[.val (.ref a1), .val (.ref a2), .val (.int (fx2 ))] [(.int (fx2 )), (.ref a2), (.int p5)]) _
    refine X0.baloadBytes hx (j := ((0 : Int32) + (1 : Int32))) (v := (.int p8)) (by rw [e0]; exact Ar8.1) (State.isArrayOf_alike hZ.alike Ar8.2.1) Ar8.2.2 hin8 hat8 (g := (mkF m 20 #[.val (.ref a1), .val (.ref a2), .val (.int (fx2 ))] [(.int (fx2 )), (.ref a2), (.int p5)])) rfl rfl (hb hby d14_20) _ ?_
    show Sp p e below s₁ (mkF m 21 #[.val (.ref a1), .val (.ref a2), .val (.int (fx2 ))] [(.int p8), (.int p5)]) _
    refine XS.icmpNo X0.here hx rfl (hb hby d14_21) rfl (feq hc4).1 ?_
    refine XS.iconst X0.here hx rfl (hb hby d14_24) ?_
    show Sp p e below s₁ (mkF m 25 #[.val (.ref a1), .val (.ref a2), .val (.int (fx2 ))] [(.int (0 : Int32))]) _
    exact retN X0 hx (t := .boolean) Bd.returns (by simp) (hb hby d14_25) hr
  · show Q35 Z cs_v a1 a2 k_a1 p4 p5 k_a2 p7 p8 h0 n0 _ s₁.heap _
    rw [e0]
    exact ⟨rfl, N0, rfl⟩
def Q36 (Z : State) (cs_v : Int32) (a1 : Addr) (a2 : Addr) (a3 : Addr) (a4 : Addr) (k_a3 : ClassId) (p6 : Int32) (p7 : Int32) (k_a4 : ClassId) (p9 : Int32) (p10 : Int32) (h0 : Heap) (n0 : Nat) (v : Option Value) (h : Heap) (L : List Loc) : Prop := v = some (.int (0 : Int32)) ∧ Fr n0 L ∧ h = h0
theorem rm36 (l : Launch) (Z : State) (a0 : Array Value) (hw : ∀ d ∈ tables_1, d.before a0 Z = true) (ws : List Jvm.Cond) (cs_v : Int32) (hp : Perm Z cs_v) (a1 : Addr) (a2 : Addr) (a3 : Addr) (a4 : Addr) (k_a3 : ClassId) (p6 : Int32) (p7 : Int32) (k_a4 : ClassId) (p9 : Int32) (p10 : Int32) (h0 : Heap) (n0 : Nat) (O0 : Old Z n0 h0) (ne_a1_a2 : a1 ≠ a2) (E_a2 : Exa Z h0 a2 "java/lang/String") (F_coder_a1 : Fld Z h0 a1 "java/lang/String" "coder" "B" (.int (0 : Int32))) (F_coder_a2 : Fld Z h0 a2 "java/lang/String" "coder" "B" (.int (0 : Int32))) (F_value_a1 : Fld Z h0 a1 "java/lang/String" "value" "[B" (.ref a3)) (F_value_a2 : Fld Z h0 a2 "java/lang/String" "value" "[B" (.ref a4)) (V_a3 : Arv Z h0 a3 k_a3 .byte (2 : Int32) [(.int p6), (.int p7)] (.int (0 : Int32))) (V_a4 : Arv Z h0 a4 k_a4 .byte (2 : Int32) [(.int p9), (.int p10)] (.int (0 : Int32))) (hc9 : p6 = p9) (hc10 : ¬ (p7 = p10)) :
    MetFree l y16 (head1 (Jvm.Cond.code y16 jdk_42_method_66_code 3 (some .boolean) :: ws) ({ frames := 1, cells := 0, slots := 0, locals := 14 } : Room)) (fun a U => a = #[(.ref a1), (.ref a2)] ∧ Z.Warmed39 U.vm ∧ U.heap = h0) (fun _ _ _ _ _ => True) (fun _ U o U' => ∃ v L, o = .returned v ∧ Q36 Z cs_v a1 a2 a3 a4 k_a3 p6 p7 k_a4 p9 p10 h0 n0 v U'.heap L ∧ FrameEnd U o U' L ({ frames := 1, cells := 0, slots := 0, locals := 14 } : Room).cells ({ frames := 1, cells := 0, slots := 0, locals := 14 } : Room).slots) := by
  refine MetFree.of_bodySF (plainFor_of_name pn_5) hisR ?_
  intro p e s m args below meth c s₁ Bd hml0 hP hK
  obtain ⟨rfl, hZ, hh⟩ := hP
  have hx := Bd.exec
  have hby := Bd.bytes
  have hml : c.maxLocals = 3 := hml0
  have hown : s.vm.findClass "java/lang/String" = some m.cls := findClass_of_methodNamed Bd.named
  have hnm := (name_of_methodNamed Bd.named Bd.method).1
  have X0 : Stand p l e ({ frames := 1, cells := 0, slots := 0, locals := 14 } : Room) s m #[(.ref a1), (.ref a2)] below meth c s₁ [] 0 0 := Stand.of_body Bd
  have e0 : s₁.heap = h0 := by rw [← hh, Bd.state]; rfl
  have N0 := Fr.nil n0
  have hp' := hp
  obtain ⟨S_COMPACT_STRINGS, h_cs⟩ := hp'
  obtain ⟨T1, X1, e1, st1⟩ := instY X0 hx hZ hown (wq hw 13 rfl) e0 (Ins.self E_a2) (g := (mkF m 8 #[.val (.ref a1), .val (.ref a2), .unset] [(.ref a2)])) rfl rfl (hb hby d13_8)
  obtain ⟨T2, X2, e2, st2⟩ := castY X1 hx hZ hown (wq hw 13 rfl) e1 (Ins.self E_a2) (g := (mkF m 15 #[.val (.ref a1), .val (.ref a2), .unset] [(.ref a2)])) rfl rfl (hb hby d13_15)
  obtain ⟨T3, X3, e3, st3⟩ := getS2 X2 hx hZ hown (host := "") (Or.inl (wq hw 8 rfl)) Via.refl e2 (S_COMPACT_STRINGS.ext O0.2) (g := (mkF m 19 #[.val (.ref a1), .val (.ref a2), .val (.ref a2)] [])) rfl (hb hby d13_19)
  obtain ⟨T4, X4, e4, st4⟩ := getF X3 hx hZ hown (host := "") (Or.inl (wq hw 28 rfl)) Via.refl e3 F_coder_a1 (g := (mkF m 26 #[.val (.ref a1), .val (.ref a2), .val (.ref a2)] [(.ref a1)])) rfl rfl (hb hby d13_26)
  obtain ⟨T5, X5, e5, st5⟩ := getF X4 hx hZ hown (host := "") (Or.inl (wq hw 28 rfl)) Via.refl e4 F_coder_a2 (g := (mkF m 30 #[.val (.ref a1), .val (.ref a2), .val (.ref a2)] [(.ref a2), (.int (0 : Int32))])) rfl rfl (hb hby d13_30)
  obtain ⟨T6, X6, e6, st6⟩ := getF X5 hx hZ hown (host := "") (Or.inl (wq hw 26 rfl)) Via.refl e5 F_value_a1 (g := (mkF m 37 #[.val (.ref a1), .val (.ref a2), .val (.ref a2)] [(.ref a1)])) rfl rfl (hb hby d13_37)
  obtain ⟨T7, X7, e7, st7⟩ := getF X6 hx hZ hown (host := "") (Or.inl (wq hw 26 rfl)) Via.refl e6 F_value_a2 (g := (mkF m 41 #[.val (.ref a1), .val (.ref a2), .val (.ref a2)] [(.ref a2), (.ref a3)])) rfl rfl (hb hby d13_41)
  obtain ⟨_, _, ⟨T8, L8, k8, n8⟩, -, X8, ⟨Lc8, hQ8, l8, y8, z8⟩, st8⟩ := Jvm.LawKit.callS X7 hx (y := y15) hown (mvT hZ (wq hw 84 rfl)) (mvT hZ (wq hw 85 rfl)) (mvT hZ (wq hw 11 rfl)) (mvT hZ (wq hw 86 rfl)) (by decide) (backOf (W := 0) (rm35 l Z a0 hw [] cs_v hp a3 a4 k_a3 p6 p7 k_a4 p9 p10 h0 n0 O0 V_a3 V_a4 hc9 hc10) hZ (wq hw 86 rfl) (wq hw 11 rfl) (by decide) (by decide)) (g := (mkF m 44 #[.val (.ref a1), .val (.ref a2), .val (.ref a2)] [(.ref a4), (.ref a3)])) rfl (by rw [hml]; rfl) (argsL := [(.ref a3), (.ref a4)]) (rest := []) (lenOf pd_13 rfl) rfl (by show 2 * 0 + _ ≤ _; exact Nat.le_of_eq rfl) (hb hby d13_44) (fun _ _ => ⟨rfl, e7, (by decide : 0 + 0 ≤ _), (by decide : 0 + 0 ≤ _)⟩)
  dsimp only [Pt.U, Pt.locs, Pt.cells, Pt.slots] at X8 l8 y8 z8 st8 hQ8
  subst l8 y8 z8
  obtain ⟨rfl, Nq8, eq8⟩ := hQ8
  have N8 := Fr.app N0 Nq8
  obtain ⟨fs, hr, hrun, hended, hW, hsame⟩ := X8.leave (v := some (.int (0 : Int32))) (fun h => by rw [Bd.returns] at h; cases h)
  refine ⟨_, _, castTop (ef_13_0 m a1 a2) ?_, hrun, hended, _, _, rfl, ?_, ⟨_, rfl⟩, hW, hsame.mono (by decide) (by decide)⟩
  · show Sp p e below s₁ (mkF m 0 #[.val (.ref a1), .val (.ref a2), .unset] []) _
    refine XS.aloadN X0.here hx rfl (hb hby d13_0) rfl rfl ?_
    refine XS.aloadN X0.here hx rfl (hb hby d13_1) rfl rfl ?_
    show Sp p e below s₁ (mkF m 2 #[.val (.ref a1), .val (.ref a2), .unset] [(.ref a2), (.ref a1)]) _
    refine Jvm.RoadKit.acmp (g := (mkF m 2 #[.val (.ref a1), .val (.ref a2), .unset] [(.ref a2), (.ref a1)])) X0 hx rfl rfl rfl (pc0 := 2) (pc' := 7) (same := false) rfl (hb hby d13_2) rfl (decide_eq_false fun q => ne_a1_a2 (Value.ref.inj q)) (by decide) (by decide) ?_
    show Sp p e below s₁ (mkF m 7 #[.val (.ref a1), .val (.ref a2), .unset] []) _
    refine XS.aloadN X0.here hx rfl (hb hby d13_7) rfl rfl ?_
    show Sp p e below s₁ (mkF m 8 #[.val (.ref a1), .val (.ref a2), .unset] [(.ref a2)]) _
    refine st1 _ ?_
    show Sp p e below T1 (mkF m 11 #[.val (.ref a1), .val (.ref a2), .unset] [(.int (1 : Int32))]) _
    refine XS.ifNo X1.here hx rfl (hb hby d13_11) rfl ((if0 _ _).trans (feq (by decide : ¬ ((1 : Int32) = (0 : Int32)))).1) ?_
    refine XS.aloadN X1.here hx rfl (hb hby d13_14) rfl rfl ?_
    show Sp p e below T1 (mkF m 15 #[.val (.ref a1), .val (.ref a2), .unset] [(.ref a2)]) _
    refine st2 _ ?_
    show Sp p e below T2 (mkF m 18 #[.val (.ref a1), .val (.ref a2), .unset] [(.ref a2)]) _
    refine XS.astoreN X2.here hx rfl (hb hby d13_18) rfl rfl (l' := #[.val (.ref a1), .val (.ref a2), .val (.ref a2)]) rfl ?_
    show Sp p e below T2 (mkF m 19 #[.val (.ref a1), .val (.ref a2), .val (.ref a2)] []) _
    refine st3 _ ?_
    show Sp p e below T3 (mkF m 22 #[.val (.ref a1), .val (.ref a2), .val (.ref a2)] [(.int cs_v)]) _
    refine XS.ifNo X3.here hx rfl (hb hby d13_22) rfl ((if0 _ _).trans (feq h_cs).1) ?_
    refine XS.aloadN X3.here hx rfl (hb hby d13_25) rfl rfl ?_
    show Sp p e below T3 (mkF m 26 #[.val (.ref a1), .val (.ref a2), .val (.ref a2)] [(.ref a1)]) _
    refine st4 _ ?_
    show Sp p e below T4 (mkF m 29 #[.val (.ref a1), .val (.ref a2), .val (.ref a2)] [(.int (0 : Int32))]) _
    refine XS.aloadN X4.here hx rfl (hb hby d13_29) rfl rfl ?_
    show Sp p e below T4 (mkF m 30 #[.val (.ref a1), .val (.ref a2), .val (.ref a2)] [(.ref a2), (.int (0 : Int32))]) _
    refine st5 _ ?_
    show Sp p e below T5 (mkF m 33 #[.val (.ref a1), .val (.ref a2), .val (.ref a2)] [(.int (0 : Int32)), (.int (0 : Int32))]) _
    refine XS.icmpNo X5.here hx rfl (hb hby d13_33) rfl (teq (by decide : (0 : Int32) = (0 : Int32))).2 ?_
    refine XS.aloadN X5.here hx rfl (hb hby d13_36) rfl rfl ?_
    show Sp p e below T5 (mkF m 37 #[.val (.ref a1), .val (.ref a2), .val (.ref a2)] [(.ref a1)]) _
    refine st6 _ ?_
    show Sp p e below T6 (mkF m 40 #[.val (.ref a1), .val (.ref a2), .val (.ref a2)] [(.ref a3)]) _
    refine XS.aloadN X6.here hx rfl (hb hby d13_40) rfl rfl ?_
    show Sp p e below T6 (mkF m 41 #[.val (.ref a1), .val (.ref a2), .val (.ref a2)] [(.ref a2), (.ref a3)]) _
    refine st7 _ ?_
    show Sp p e below T7 (mkF m 44 #[.val (.ref a1), .val (.ref a2), .val (.ref a2)] [(.ref a4), (.ref a3)]) _
    refine st8 _ ?_
    show Sp p e below T8 (mkF m 47 #[.val (.ref a1), .val (.ref a2), .val (.ref a2)] [(.int (0 : Int32))]) _
    refine XS.ifYes X8.here hx rfl (pc0 := 47) (pc' := 54) rfl (hb hby d13_47) rfl ((if0 _ _).trans (teq (by decide : (0 : Int32) = (0 : Int32))).1) (by decide) (by decide) ?_
    refine XS.iconst X8.here hx rfl (hb hby d13_54) ?_
    show Sp p e below T8 (mkF m 55 #[.val (.ref a1), .val (.ref a2), .val (.ref a2)] [(.int (0 : Int32))]) _
    exact retN X8 hx (t := .boolean) Bd.returns (by simp) (hb hby d13_55) hr
  · show Q36 Z cs_v a1 a2 a3 a4 k_a3 p6 p7 k_a4 p9 p10 h0 n0 _ T8.heap _
    rw [eq8]
    exact ⟨rfl, N8, rfl⟩
def eqK (x y : List Value) : Int32 := if x = y then 1 else 0
def QEQ (ks kt : List Value) (h0 : Heap) (n0 : Nat) (v : Option Value) (h : Heap) (L : List Loc) : Prop := v = some (.int (eqK ks kt)) ∧ Fr n0 L ∧ h = h0
set_option maxRecDepth 65536 in
set_option maxHeartbeats 4000000 in
theorem rmEQ (l : Launch) (Z : State) (a0 : Array Value) (hw : ∀ d ∈ tables_1, d.before a0 Z = true) (ws : List Jvm.Cond) (cs_v : Int32) (hp : Perm Z cs_v) (a b : Addr) (ks kt : List Value) (h0 : Heap) (n0 : Nat) (O0 : Old Z n0 h0) (ne_a_b : a ≠ b) (K_a : StrK Z h0 a ks) (K_b : StrK Z h0 b kt) :
    MetFree l y16 (head1 (Jvm.Cond.code y16 jdk_42_method_66_code 3 (some .boolean) :: ws) ({ frames := 1, cells := 0, slots := 0, locals := 14 } : Room)) (fun as' U => as' = #[(.ref a), (.ref b)] ∧ Z.Warmed39 U.vm ∧ U.heap = h0) (fun _ _ _ _ _ => True) (fun _ U o U' => ∃ v L, o = .returned v ∧ QEQ ks kt h0 n0 v U'.heap L ∧ FrameEnd U o U' L ({ frames := 1, cells := 0, slots := 0, locals := 14 } : Room).cells ({ frames := 1, cells := 0, slots := 0, locals := 14 } : Room).slots) := by
  obtain ⟨va, ka, na, ha, za, E_a, Fc_a, Fv_a, Fh_a, Fz_a, E_va, V_va, -, -, hk⟩ := id K_a
  obtain ⟨vb, kb, nb, hb, zb, E_b, Fc_b, Fv_b, Fh_b, Fz_b, E_vb, V_vb, -, -, hl⟩ := id K_b
  rcases hk with ⟨x, rfl, rfl⟩ | ⟨x, y, rfl, rfl⟩ <;> rcases hl with ⟨z, rfl, rfl⟩ | ⟨z, w, rfl, rfl⟩
  · skip
    by_cases d0 : x = z
    · skip
      have hE : eqK [.int x] [.int z] = (1 : Int32) := by rw [eqK]; exact if_pos (by rw [d0])
      exact (rm24 l Z a0 hw ws cs_v hp a b va vb ka x kb z h0 n0 O0 ne_a_b E_b Fc_a Fc_b Fv_a Fv_b V_va V_vb d0).mono (fun _ _ h => h) (fun _ _ _ _ _ h => h) (fun _ s o s' _ ⟨v, L, e, q, f⟩ => ⟨v, L, e, ⟨by rw [hE]; exact q.1, q.2.1, q.2.2⟩, f⟩)
    · skip
      have hE : eqK [.int x] [.int z] = (0 : Int32) := by rw [eqK]; exact if_neg (fun q => by simp only [List.cons.injEq, Value.int.injEq, d0, false_and, and_false] at q)
      exact (rm26 l Z a0 hw ws cs_v hp a b va vb ka x kb z h0 n0 O0 ne_a_b E_b Fc_a Fc_b Fv_a Fv_b V_va V_vb d0).mono (fun _ _ h => h) (fun _ _ _ _ _ h => h) (fun _ s o s' _ ⟨v, L, e, q, f⟩ => ⟨v, L, e, ⟨by rw [hE]; exact q.1, q.2.1, q.2.2⟩, f⟩)
  · skip
    have hE : eqK [.int x] [.int z, .int w] = (0 : Int32) := by rw [eqK]; exact if_neg (by simp)
    exact (rm28 l Z a0 hw ws cs_v hp a b va vb ka x kb z w h0 n0 O0 ne_a_b E_b Fc_a Fc_b Fv_a Fv_b V_va V_vb).mono (fun _ _ h => h) (fun _ _ _ _ _ h => h) (fun _ s o s' _ ⟨v, L, e, q, f⟩ => ⟨v, L, e, ⟨by rw [hE]; exact q.1, q.2.1, q.2.2⟩, f⟩)
  · skip
    have hE : eqK [.int x, .int y] [.int z] = (0 : Int32) := by rw [eqK]; exact if_neg (by simp)
    exact (rm30 l Z a0 hw ws cs_v hp a b va vb ka x y kb z h0 n0 O0 ne_a_b E_b Fc_a Fc_b Fv_a Fv_b V_va V_vb).mono (fun _ _ h => h) (fun _ _ _ _ _ h => h) (fun _ s o s' _ ⟨v, L, e, q, f⟩ => ⟨v, L, e, ⟨by rw [hE]; exact q.1, q.2.1, q.2.2⟩, f⟩)
  · skip
    by_cases d0 : x = z
    · skip
      by_cases d1 : y = w
      · skip
        have hE : eqK [.int x, .int y] [.int z, .int w] = (1 : Int32) := by rw [eqK]; exact if_pos (by rw [d0, d1])
        exact (rm32 l Z a0 hw ws cs_v hp a b va vb ka x y kb z w h0 n0 O0 ne_a_b E_b Fc_a Fc_b Fv_a Fv_b V_va V_vb d0 d1).mono (fun _ _ h => h) (fun _ _ _ _ _ h => h) (fun _ s o s' _ ⟨v, L, e, q, f⟩ => ⟨v, L, e, ⟨by rw [hE]; exact q.1, q.2.1, q.2.2⟩, f⟩)
      · skip
        have hE : eqK [.int x, .int y] [.int z, .int w] = (0 : Int32) := by rw [eqK]; exact if_neg (fun q => by simp only [List.cons.injEq, Value.int.injEq, d1, false_and, and_false] at q)
        exact (rm36 l Z a0 hw ws cs_v hp a b va vb ka x y kb z w h0 n0 O0 ne_a_b E_b Fc_a Fc_b Fv_a Fv_b V_va V_vb d0 d1).mono (fun _ _ h => h) (fun _ _ _ _ _ h => h) (fun _ s o s' _ ⟨v, L, e, q, f⟩ => ⟨v, L, e, ⟨by rw [hE]; exact q.1, q.2.1, q.2.2⟩, f⟩)
    · skip
      have hE : eqK [.int x, .int y] [.int z, .int w] = (0 : Int32) := by rw [eqK]; exact if_neg (fun q => by simp only [List.cons.injEq, Value.int.injEq, d0, false_and, and_false] at q)
      exact (rm34 l Z a0 hw ws cs_v hp a b va vb ka x y kb z w h0 n0 O0 ne_a_b E_b Fc_a Fc_b Fv_a Fv_b V_va V_vb d0).mono (fun _ _ h => h) (fun _ _ _ _ _ h => h) (fun _ s o s' _ ⟨v, L, e, q, f⟩ => ⟨v, L, e, ⟨by rw [hE]; exact q.1, q.2.1, q.2.2⟩, f⟩)
theorem d8_16 : decode prog_52_method_2_code 16 = .ok (.aload_n 0, 1) := by decide +kernel
theorem d8_17 : decode prog_52_method_2_code 17 = .ok (.getfield 11, 3) := by decide +kernel
theorem d8_20 : decode prog_52_method_2_code 20 = .ok (.iload 4, 2) := by decide +kernel
theorem d8_22 : decode prog_52_method_2_code 22 = .ok (.aaload, 1) := by decide +kernel
theorem d8_23 : decode prog_52_method_2_code 23 = .ok (.astore 5, 2) := by decide +kernel
theorem d8_25 : decode prog_52_method_2_code 25 = .ok (.aload 5, 2) := by decide +kernel
theorem d8_27 : decode prog_52_method_2_code 27 = .ok (.ifnull 58, 3) := by decide +kernel
set_option maxRecDepth 65536 in
set_option maxHeartbeats 4000000 in
theorem pc_Sn (l : Launch) (Z : State) (a0 : Array Value) (hw : ∀ d ∈ tables_1, d.before a0 Z = true) (cs_v : Int32) (hp : Perm Z cs_v) (a1 : Addr) (a2 : Addr) (p3 : Int32) (p4 : Int32) (p5 : Int32) (a6 : Addr) (a7 : Addr) (k_a6 : ClassId) (f_a6 : Int32 → Value) (h0 : Heap) (n0 : Nat) (O0 : Old Z n0 h0) (G_a6 : Arf Z h0 a6 k_a6 (.object "java/lang/String") (32 : Int32) f_a6) (hbn : ¬ p5 < 0 ∧ p5 < (32 : Int32)) (hr : f_a6 p5 = .null) (F_strings_a1 : Fld Z h0 a1 "com/example/byteloom/byteloom/StringNumbers" "strings" "[Ljava/lang/String;" (.ref a6)) {p : Program} {e : Env} {s : State} {m : MethodId} {args : Array Value} {below : List Frame} {meth : Method} {c : Code} {s₁ : State} {locs : List Loc} (X0 : Stand p l e ({ frames := 4, cells := 0, slots := 0, locals := 66 } : Room) s m args below meth c s₁ locs 0 0) (hx : p.tables.exec = Jvm.exec) (hZ : Z.Warmed39 s.vm) (hby : c.code = prog_52_method_2_code) (hml : c.maxLocals = 6) (hown : s.vm.findClass "com/example/byteloom/byteloom/StringNumbers" = some m.cls) (e0 : s₁.heap = h0) (N0 : Fr n0 locs) :
    ∃ T' locs', Stand p l e ({ frames := 4, cells := 0, slots := 0, locals := 66 } : Room) s m args below meth c T' locs' 0 0 ∧ T'.heap = h0 ∧ Fr n0 locs' ∧ ∀ target, Sp p e below T' (mkF m 85 #[.val (.ref a1), .val (.ref a2), .val (.int p3), .val (.int p4), .val (.int p5), .val .null] []) target → Sp p e below s₁ (mkF m 16 #[.val (.ref a1), .val (.ref a2), .val (.int p3), .val (.int p4), .val (.int p5), .unset] []) target := by
  obtain ⟨T1, X1, e1, st1⟩ := getF X0 hx hZ hown (host := "") (Or.inl (wq hw 39 rfl)) Via.refl e0 F_strings_a1 (g := (mkF m 17 #[.val (.ref a1), .val (.ref a2), .val (.int p3), .val (.int p4), .val (.int p5), .unset] [(.ref a1)])) rfl rfl (hb hby d8_17)
  obtain ⟨hs2, vs2, dv2, ⟨cl2, Ar2, -, S2, -, H2, -⟩, U2⟩ := id G_a6
  have hin2 : ¬ (p5 < 0 ∨ cl2.slots.size ≤ (p5).toNatClampNeg) := inb_of S2 hbn
  have hat2 : cl2.slots[(p5).toNatClampNeg]? = some .null := atH H2 hin2 ((U2 p5 hbn.1 hbn.2).trans hr)
  refine ⟨T1, _, X1, e1, N0, fun target kt => ?_⟩
  show Sp p e below s₁ (mkF m 16 #[.val (.ref a1), .val (.ref a2), .val (.int p3), .val (.int p4), .val (.int p5), .unset] []) _
  refine XS.aloadN X0.here hx rfl (hb hby d8_16) rfl rfl ?_
  show Sp p e below s₁ (mkF m 17 #[.val (.ref a1), .val (.ref a2), .val (.int p3), .val (.int p4), .val (.int p5), .unset] [(.ref a1)]) _
  refine st1 _ ?_
  show Sp p e below T1 (mkF m 20 #[.val (.ref a1), .val (.ref a2), .val (.int p3), .val (.int p4), .val (.int p5), .unset] [(.ref a6)]) _
  refine XS.iload X1.here hx rfl (hb hby d8_20) rfl ?_
  show Sp p e below T1 (mkF m 22 #[.val (.ref a1), .val (.ref a2), .val (.int p3), .val (.int p4), .val (.int p5), .unset] [(.int p5), (.ref a6)]) _
  refine X1.aaload hx (j := p5) (v := .null) (by rw [e1]; exact Ar2.1) (State.isArrayOf_alike hZ.alike Ar2.2.1) rfl Ar2.2.2 hin2 hat2 (g := (mkF m 22 #[.val (.ref a1), .val (.ref a2), .val (.int p3), .val (.int p4), .val (.int p5), .unset] [(.int p5), (.ref a6)])) rfl rfl (hb hby d8_22) _ ?_
  show Sp p e below T1 (mkF m 23 #[.val (.ref a1), .val (.ref a2), .val (.int p3), .val (.int p4), .val (.int p5), .unset] [.null]) _
  refine XS.astore X1.here hx rfl (hb hby d8_23) rfl rfl (l' := #[.val (.ref a1), .val (.ref a2), .val (.int p3), .val (.int p4), .val (.int p5), .val .null]) rfl ?_
  refine XS.aload X1.here hx rfl (hb hby d8_25) rfl rfl ?_
  show Sp p e below T1 (mkF m 27 #[.val (.ref a1), .val (.ref a2), .val (.int p3), .val (.int p4), .val (.int p5), .val .null] [.null]) _
  refine XS.ifnullYes X1.here hx rfl (pc0 := 27) (pc' := 85) rfl (hb hby d8_27) rfl (by decide) (by decide) ?_
  exact kt
set_option maxRecDepth 65536 in
set_option maxHeartbeats 4000000 in
theorem pc_Sr (l : Launch) (Z : State) (a0 : Array Value) (hw : ∀ d ∈ tables_1, d.before a0 Z = true) (cs_v : Int32) (hp : Perm Z cs_v) (a1 : Addr) (a2 : Addr) (p3 : Int32) (p4 : Int32) (p5 : Int32) (a6 : Addr) (a7 : Addr) (k_a6 : ClassId) (f_a6 : Int32 → Value) (a10 : Addr) (h0 : Heap) (n0 : Nat) (O0 : Old Z n0 h0) (G_a6 : Arf Z h0 a6 k_a6 (.object "java/lang/String") (32 : Int32) f_a6) (hbn : ¬ p5 < 0 ∧ p5 < (32 : Int32)) (hr : f_a6 p5 = (.ref a10)) (F_strings_a1 : Fld Z h0 a1 "com/example/byteloom/byteloom/StringNumbers" "strings" "[Ljava/lang/String;" (.ref a6)) {p : Program} {e : Env} {s : State} {m : MethodId} {args : Array Value} {below : List Frame} {meth : Method} {c : Code} {s₁ : State} {locs : List Loc} (X0 : Stand p l e ({ frames := 4, cells := 0, slots := 0, locals := 66 } : Room) s m args below meth c s₁ locs 0 0) (hx : p.tables.exec = Jvm.exec) (hZ : Z.Warmed39 s.vm) (hby : c.code = prog_52_method_2_code) (hml : c.maxLocals = 6) (hown : s.vm.findClass "com/example/byteloom/byteloom/StringNumbers" = some m.cls) (e0 : s₁.heap = h0) (N0 : Fr n0 locs) :
    ∃ T' locs', Stand p l e ({ frames := 4, cells := 0, slots := 0, locals := 66 } : Room) s m args below meth c T' locs' 0 0 ∧ T'.heap = h0 ∧ Fr n0 locs' ∧ ∀ target, Sp p e below T' (mkF m 25 #[.val (.ref a1), .val (.ref a2), .val (.int p3), .val (.int p4), .val (.int p5), .val (.ref a10)] []) target → Sp p e below s₁ (mkF m 16 #[.val (.ref a1), .val (.ref a2), .val (.int p3), .val (.int p4), .val (.int p5), .unset] []) target := by
  obtain ⟨T1, X1, e1, st1⟩ := getF X0 hx hZ hown (host := "") (Or.inl (wq hw 39 rfl)) Via.refl e0 F_strings_a1 (g := (mkF m 17 #[.val (.ref a1), .val (.ref a2), .val (.int p3), .val (.int p4), .val (.int p5), .unset] [(.ref a1)])) rfl rfl (hb hby d8_17)
  obtain ⟨hs2, vs2, dv2, ⟨cl2, Ar2, -, S2, -, H2, -⟩, U2⟩ := id G_a6
  have hin2 : ¬ (p5 < 0 ∨ cl2.slots.size ≤ (p5).toNatClampNeg) := inb_of S2 hbn
  have hat2 : cl2.slots[(p5).toNatClampNeg]? = some (.ref a10) := atH H2 hin2 ((U2 p5 hbn.1 hbn.2).trans hr)
  refine ⟨T1, _, X1, e1, N0, fun target kt => ?_⟩
  show Sp p e below s₁ (mkF m 16 #[.val (.ref a1), .val (.ref a2), .val (.int p3), .val (.int p4), .val (.int p5), .unset] []) _
  refine XS.aloadN X0.here hx rfl (hb hby d8_16) rfl rfl ?_
  show Sp p e below s₁ (mkF m 17 #[.val (.ref a1), .val (.ref a2), .val (.int p3), .val (.int p4), .val (.int p5), .unset] [(.ref a1)]) _
  refine st1 _ ?_
  show Sp p e below T1 (mkF m 20 #[.val (.ref a1), .val (.ref a2), .val (.int p3), .val (.int p4), .val (.int p5), .unset] [(.ref a6)]) _
  refine XS.iload X1.here hx rfl (hb hby d8_20) rfl ?_
  show Sp p e below T1 (mkF m 22 #[.val (.ref a1), .val (.ref a2), .val (.int p3), .val (.int p4), .val (.int p5), .unset] [(.int p5), (.ref a6)]) _
  refine X1.aaload hx (j := p5) (v := (.ref a10)) (by rw [e1]; exact Ar2.1) (State.isArrayOf_alike hZ.alike Ar2.2.1) rfl Ar2.2.2 hin2 hat2 (g := (mkF m 22 #[.val (.ref a1), .val (.ref a2), .val (.int p3), .val (.int p4), .val (.int p5), .unset] [(.int p5), (.ref a6)])) rfl rfl (hb hby d8_22) _ ?_
  show Sp p e below T1 (mkF m 23 #[.val (.ref a1), .val (.ref a2), .val (.int p3), .val (.int p4), .val (.int p5), .unset] [(.ref a10)]) _
  refine XS.astore X1.here hx rfl (hb hby d8_23) rfl rfl (l' := #[.val (.ref a1), .val (.ref a2), .val (.int p3), .val (.int p4), .val (.int p5), .val (.ref a10)]) rfl ?_
  exact kt
theorem d8_30 : decode prog_52_method_2_code 30 = .ok (.aload 5, 2) := by decide +kernel
theorem d8_32 : decode prog_52_method_2_code 32 = .ok (.aload_n 1, 1) := by decide +kernel
theorem d8_33 : decode prog_52_method_2_code 33 = .ok (.if_acmp .eq 23, 3) := by decide +kernel
set_option maxRecDepth 65536 in
set_option maxHeartbeats 4000000 in
theorem pc_F1 (l : Launch) (Z : State) (a0 : Array Value) (hw : ∀ d ∈ tables_1, d.before a0 Z = true) (cs_v : Int32) (hp : Perm Z cs_v) (a1 : Addr) (a2 : Addr) (p3 : Int32) (p4 : Int32) (p5 : Int32) (a6 : Addr) (a7 : Addr) (h0 : Heap) (n0 : Nat) (O0 : Old Z n0 h0) {p : Program} {e : Env} {s : State} {m : MethodId} {args : Array Value} {below : List Frame} {meth : Method} {c : Code} {s₁ : State} {locs : List Loc} (X0 : Stand p l e ({ frames := 4, cells := 0, slots := 0, locals := 66 } : Room) s m args below meth c s₁ locs 0 0) (hx : p.tables.exec = Jvm.exec) (hZ : Z.Warmed39 s.vm) (hby : c.code = prog_52_method_2_code) (hml : c.maxLocals = 6) (hown : s.vm.findClass "com/example/byteloom/byteloom/StringNumbers" = some m.cls) (e0 : s₁.heap = h0) (N0 : Fr n0 locs) :
    ∃ T' locs', Stand p l e ({ frames := 4, cells := 0, slots := 0, locals := 66 } : Room) s m args below meth c T' locs' 0 0 ∧ T'.heap = h0 ∧ Fr n0 locs' ∧ ∀ target, Sp p e below T' (mkF m 56 #[.val (.ref a1), .val (.ref a2), .val (.int p3), .val (.int p4), .val (.int p5), .val (.ref a2)] []) target → Sp p e below s₁ (mkF m 25 #[.val (.ref a1), .val (.ref a2), .val (.int p3), .val (.int p4), .val (.int p5), .val (.ref a2)] []) target := by
  refine ⟨s₁, _, X0, e0, N0, fun target kt => ?_⟩
  show Sp p e below s₁ (mkF m 25 #[.val (.ref a1), .val (.ref a2), .val (.int p3), .val (.int p4), .val (.int p5), .val (.ref a2)] []) _
  refine XS.aload X0.here hx rfl (hb hby d8_25) rfl rfl ?_
  show Sp p e below s₁ (mkF m 27 #[.val (.ref a1), .val (.ref a2), .val (.int p3), .val (.int p4), .val (.int p5), .val (.ref a2)] [(.ref a2)]) _
  refine XS.ifnullNo X0.here hx rfl (hb hby d8_27) rfl ?_
  refine XS.aload X0.here hx rfl (hb hby d8_30) rfl rfl ?_
  refine XS.aloadN X0.here hx rfl (hb hby d8_32) rfl rfl ?_
  show Sp p e below s₁ (mkF m 33 #[.val (.ref a1), .val (.ref a2), .val (.int p3), .val (.int p4), .val (.int p5), .val (.ref a2)] [(.ref a2), (.ref a2)]) _
  refine Jvm.RoadKit.acmp (g := (mkF m 33 #[.val (.ref a1), .val (.ref a2), .val (.int p3), .val (.int p4), .val (.int p5), .val (.ref a2)] [(.ref a2), (.ref a2)])) X0 hx rfl rfl rfl (pc0 := 33) (pc' := 56) (same := true) rfl (hb hby d8_33) rfl (decide_eq_true rfl) (by decide) (by decide) ?_
  exact kt
theorem d8_36 : decode prog_52_method_2_code 36 = .ok (.aload_n 0, 1) := by decide +kernel
theorem d8_37 : decode prog_52_method_2_code 37 = .ok (.getfield 15, 3) := by decide +kernel
theorem d8_40 : decode prog_52_method_2_code 40 = .ok (.iload 4, 2) := by decide +kernel
theorem d8_42 : decode prog_52_method_2_code 42 = .ok (.iaload, 1) := by decide +kernel
theorem d8_43 : decode prog_52_method_2_code 43 = .ok (.iload_n 3, 1) := by decide +kernel
theorem d8_44 : decode prog_52_method_2_code 44 = .ok (.if_icmp .ne 20, 3) := by decide +kernel
theorem d8_47 : decode prog_52_method_2_code 47 = .ok (.aload 5, 2) := by decide +kernel
theorem d8_49 : decode prog_52_method_2_code 49 = .ok (.aload_n 1, 1) := by decide +kernel
theorem d8_50 : decode prog_52_method_2_code 50 = .ok (.invokevirtual 29, 3) := by decide +kernel
theorem pd_14 : parseMethodDescriptor "(Ljava/lang/Object;)Z" = some ⟨[(.object "java/lang/Object")], some .boolean⟩ := by decide +kernel
theorem d8_53 : decode prog_52_method_2_code 53 = .ok (.ifCond .eq 11, 3) := by decide +kernel
set_option maxRecDepth 65536 in
set_option maxHeartbeats 4000000 in
theorem pc_F2 (l : Launch) (Z : State) (a0 : Array Value) (hw : ∀ d ∈ tables_1, d.before a0 Z = true) (cs_v : Int32) (hp : Perm Z cs_v) (a1 : Addr) (a2 : Addr) (p3 : Int32) (p4 : Int32) (p5 : Int32) (a6 : Addr) (a7 : Addr) (a8 : Addr) (k_a8 : ClassId) (f_a8 : Int32 → Value) (p11 : Int32) (ks_a6 : List Value) (ks_a2 : List Value) (h0 : Heap) (n0 : Nat) (O0 : Old Z n0 h0) (G_a8 : Arf Z h0 a8 k_a8 .int (32 : Int32) f_a8) (hbn : ¬ p5 < 0 ∧ p5 < (32 : Int32)) (hq : f_a8 p5 = (.int p11)) (ne_a2_a6 : a2 ≠ a6) (F_hashes_a1 : Fld Z h0 a1 "com/example/byteloom/byteloom/StringNumbers" "hashes" "[I" (.ref a8)) (hc6 : p11 = p4) (E_a6 : Exa Z h0 a6 "java/lang/String") (K_a6 : StrK Z h0 a6 ks_a6) (K_a2 : StrK Z h0 a2 ks_a2) (hc10 : ¬ ((eqK ks_a6 ks_a2) = (0 : Int32))) {p : Program} {e : Env} {s : State} {m : MethodId} {args : Array Value} {below : List Frame} {meth : Method} {c : Code} {s₁ : State} {locs : List Loc} (X0 : Stand p l e ({ frames := 4, cells := 0, slots := 0, locals := 66 } : Room) s m args below meth c s₁ locs 0 0) (hx : p.tables.exec = Jvm.exec) (hZ : Z.Warmed39 s.vm) (hby : c.code = prog_52_method_2_code) (hml : c.maxLocals = 6) (hown : s.vm.findClass "com/example/byteloom/byteloom/StringNumbers" = some m.cls) (e0 : s₁.heap = h0) (N0 : Fr n0 locs) :
    ∃ T' locs', Stand p l e ({ frames := 4, cells := 0, slots := 0, locals := 66 } : Room) s m args below meth c T' locs' 0 0 ∧ T'.heap = h0 ∧ Fr n0 locs' ∧ ∀ target, Sp p e below T' (mkF m 56 #[.val (.ref a1), .val (.ref a2), .val (.int p3), .val (.int p4), .val (.int p5), .val (.ref a6)] []) target → Sp p e below s₁ (mkF m 25 #[.val (.ref a1), .val (.ref a2), .val (.int p3), .val (.int p4), .val (.int p5), .val (.ref a6)] []) target := by
  obtain ⟨T1, X1, e1, st1⟩ := getF X0 hx hZ hown (host := "") (Or.inl (wq hw 42 rfl)) Via.refl e0 F_hashes_a1 (g := (mkF m 37 #[.val (.ref a1), .val (.ref a2), .val (.int p3), .val (.int p4), .val (.int p5), .val (.ref a6)] [(.ref a1)])) rfl rfl (hb hby d8_37)
  obtain ⟨hs2, vs2, dv2, ⟨cl2, Ar2, -, S2, -, H2, -⟩, U2⟩ := id G_a8
  have hin2 : ¬ (p5 < 0 ∨ cl2.slots.size ≤ (p5).toNatClampNeg) := inb_of S2 hbn
  have hat2 : cl2.slots[(p5).toNatClampNeg]? = some (.int p11) := atH H2 hin2 ((U2 p5 hbn.1 hbn.2).trans hq)
  obtain ⟨cq3, kq3, q3a, q3b, q3c⟩ := isOf hZ e1 E_a6
  obtain ⟨_, _, ⟨T3, L3, k3, n3⟩, -, X3, ⟨Lc3, hQ3, l3, y3, z3⟩, st3⟩ := X1.virtualBack hx (y := y16) (z := y16) hown (mvT hZ (wq hw 114 rfl)) (mvT hZ (wq hw 80 rfl)) (notFace_of_selects (args := #[]) (mvT hZ (wq hw 82 rfl))) (mvT hZ (wq hw 82 rfl)) (mvT hZ (wq hw 81 rfl)) (by decide) (backOf (W := 0) (rmEQ l Z a0 hw [] cs_v hp a6 a2 ks_a6 ks_a2 h0 n0 O0 (Ne.symm ne_a2_a6) K_a6 K_a2) hZ (wq hw 83 rfl) (wq hw 6 rfl) (by decide) (by decide)) q3a q3c (g := (mkF m 50 #[.val (.ref a1), .val (.ref a2), .val (.int p3), .val (.int p4), .val (.int p5), .val (.ref a6)] [(.ref a2), (.ref a6)])) rfl (by rw [hml]; rfl) (Steps.refl _) (argsL := [(.ref a2)]) (rest := []) (lenOf pd_14 rfl) rfl (by show 2 * 0 + _ ≤ _; exact Nat.le_of_eq rfl) (hb hby d8_50) (fun _ _ => ⟨rfl, e1, (by decide : 0 + 0 ≤ _), (by decide : 0 + 0 ≤ _)⟩)
  dsimp only [Pt.U, Pt.locs, Pt.cells, Pt.slots] at X3 l3 y3 z3 st3 hQ3
  subst l3 y3 z3
  obtain ⟨rfl, Nq3, eq3⟩ := hQ3
  have N3 := Fr.app N0 Nq3
  refine ⟨T3, _, X3, eq3, N3, fun target kt => ?_⟩
  show Sp p e below s₁ (mkF m 25 #[.val (.ref a1), .val (.ref a2), .val (.int p3), .val (.int p4), .val (.int p5), .val (.ref a6)] []) _
  refine XS.aload X0.here hx rfl (hb hby d8_25) rfl rfl ?_
  show Sp p e below s₁ (mkF m 27 #[.val (.ref a1), .val (.ref a2), .val (.int p3), .val (.int p4), .val (.int p5), .val (.ref a6)] [(.ref a6)]) _
  refine XS.ifnullNo X0.here hx rfl (hb hby d8_27) rfl ?_
  refine XS.aload X0.here hx rfl (hb hby d8_30) rfl rfl ?_
  refine XS.aloadN X0.here hx rfl (hb hby d8_32) rfl rfl ?_
  show Sp p e below s₁ (mkF m 33 #[.val (.ref a1), .val (.ref a2), .val (.int p3), .val (.int p4), .val (.int p5), .val (.ref a6)] [(.ref a2), (.ref a6)]) _
  refine Jvm.RoadKit.acmp (g := (mkF m 33 #[.val (.ref a1), .val (.ref a2), .val (.int p3), .val (.int p4), .val (.int p5), .val (.ref a6)] [(.ref a2), (.ref a6)])) X0 hx rfl rfl rfl (pc0 := 33) (pc' := 36) (same := false) rfl (hb hby d8_33) rfl (decide_eq_false fun q => (Ne.symm ne_a2_a6) (Value.ref.inj q)) (by decide) (by decide) ?_
  show Sp p e below s₁ (mkF m 36 #[.val (.ref a1), .val (.ref a2), .val (.int p3), .val (.int p4), .val (.int p5), .val (.ref a6)] []) _
  refine XS.aloadN X0.here hx rfl (hb hby d8_36) rfl rfl ?_
  show Sp p e below s₁ (mkF m 37 #[.val (.ref a1), .val (.ref a2), .val (.int p3), .val (.int p4), .val (.int p5), .val (.ref a6)] [(.ref a1)]) _
  refine st1 _ ?_
  show Sp p e below T1 (mkF m 40 #[.val (.ref a1), .val (.ref a2), .val (.int p3), .val (.int p4), .val (.int p5), .val (.ref a6)] [(.ref a8)]) _
  refine XS.iload X1.here hx rfl (hb hby d8_40) rfl ?_
  show Sp p e below T1 (mkF m 42 #[.val (.ref a1), .val (.ref a2), .val (.int p3), .val (.int p4), .val (.int p5), .val (.ref a6)] [(.int p5), (.ref a8)]) _
  refine X1.iaload hx (j := p5) (v := (.int p11)) (by rw [e1]; exact Ar2.1) (State.isArrayOf_alike hZ.alike Ar2.2.1) Ar2.2.2 hin2 hat2 (g := (mkF m 42 #[.val (.ref a1), .val (.ref a2), .val (.int p3), .val (.int p4), .val (.int p5), .val (.ref a6)] [(.int p5), (.ref a8)])) rfl rfl (hb hby d8_42) _ ?_
  show Sp p e below T1 (mkF m 43 #[.val (.ref a1), .val (.ref a2), .val (.int p3), .val (.int p4), .val (.int p5), .val (.ref a6)] [(.int p11)]) _
  refine XS.iloadN X1.here hx rfl (hb hby d8_43) rfl ?_
  refine XS.icmpNo X1.here hx rfl (hb hby d8_44) rfl (teq hc6).2 ?_
  refine XS.aload X1.here hx rfl (hb hby d8_47) rfl rfl ?_
  refine XS.aloadN X1.here hx rfl (hb hby d8_49) rfl rfl ?_
  show Sp p e below T1 (mkF m 50 #[.val (.ref a1), .val (.ref a2), .val (.int p3), .val (.int p4), .val (.int p5), .val (.ref a6)] [(.ref a2), (.ref a6)]) _
  refine st3.trans ?_
  show Sp p e below T3 (mkF m 53 #[.val (.ref a1), .val (.ref a2), .val (.int p3), .val (.int p4), .val (.int p5), .val (.ref a6)] [(.int (eqK ks_a6 ks_a2))]) _
  refine XS.ifNo X3.here hx rfl (hb hby d8_53) rfl ((if0 _ _).trans (feq hc10).1) ?_
  exact kt
set_option maxRecDepth 65536 in
set_option maxHeartbeats 4000000 in
theorem pc_M1 (l : Launch) (Z : State) (a0 : Array Value) (hw : ∀ d ∈ tables_1, d.before a0 Z = true) (cs_v : Int32) (hp : Perm Z cs_v) (a1 : Addr) (a2 : Addr) (p3 : Int32) (p4 : Int32) (p5 : Int32) (a6 : Addr) (a7 : Addr) (a8 : Addr) (k_a8 : ClassId) (f_a8 : Int32 → Value) (p11 : Int32) (h0 : Heap) (n0 : Nat) (O0 : Old Z n0 h0) (G_a8 : Arf Z h0 a8 k_a8 .int (32 : Int32) f_a8) (hbn : ¬ p5 < 0 ∧ p5 < (32 : Int32)) (hq : f_a8 p5 = (.int p11)) (ne_a2_a6 : a2 ≠ a6) (F_hashes_a1 : Fld Z h0 a1 "com/example/byteloom/byteloom/StringNumbers" "hashes" "[I" (.ref a8)) (hc6 : ¬ (p11 = p4)) {p : Program} {e : Env} {s : State} {m : MethodId} {args : Array Value} {below : List Frame} {meth : Method} {c : Code} {s₁ : State} {locs : List Loc} (X0 : Stand p l e ({ frames := 4, cells := 0, slots := 0, locals := 66 } : Room) s m args below meth c s₁ locs 0 0) (hx : p.tables.exec = Jvm.exec) (hZ : Z.Warmed39 s.vm) (hby : c.code = prog_52_method_2_code) (hml : c.maxLocals = 6) (hown : s.vm.findClass "com/example/byteloom/byteloom/StringNumbers" = some m.cls) (e0 : s₁.heap = h0) (N0 : Fr n0 locs) :
    ∃ T' locs', Stand p l e ({ frames := 4, cells := 0, slots := 0, locals := 66 } : Room) s m args below meth c T' locs' 0 0 ∧ T'.heap = h0 ∧ Fr n0 locs' ∧ ∀ target, Sp p e below T' (mkF m 64 #[.val (.ref a1), .val (.ref a2), .val (.int p3), .val (.int p4), .val (.int p5), .val (.ref a6)] []) target → Sp p e below s₁ (mkF m 25 #[.val (.ref a1), .val (.ref a2), .val (.int p3), .val (.int p4), .val (.int p5), .val (.ref a6)] []) target := by
  obtain ⟨T1, X1, e1, st1⟩ := getF X0 hx hZ hown (host := "") (Or.inl (wq hw 42 rfl)) Via.refl e0 F_hashes_a1 (g := (mkF m 37 #[.val (.ref a1), .val (.ref a2), .val (.int p3), .val (.int p4), .val (.int p5), .val (.ref a6)] [(.ref a1)])) rfl rfl (hb hby d8_37)
  obtain ⟨hs2, vs2, dv2, ⟨cl2, Ar2, -, S2, -, H2, -⟩, U2⟩ := id G_a8
  have hin2 : ¬ (p5 < 0 ∨ cl2.slots.size ≤ (p5).toNatClampNeg) := inb_of S2 hbn
  have hat2 : cl2.slots[(p5).toNatClampNeg]? = some (.int p11) := atH H2 hin2 ((U2 p5 hbn.1 hbn.2).trans hq)
  refine ⟨T1, _, X1, e1, N0, fun target kt => ?_⟩
  show Sp p e below s₁ (mkF m 25 #[.val (.ref a1), .val (.ref a2), .val (.int p3), .val (.int p4), .val (.int p5), .val (.ref a6)] []) _
  refine XS.aload X0.here hx rfl (hb hby d8_25) rfl rfl ?_
  show Sp p e below s₁ (mkF m 27 #[.val (.ref a1), .val (.ref a2), .val (.int p3), .val (.int p4), .val (.int p5), .val (.ref a6)] [(.ref a6)]) _
  refine XS.ifnullNo X0.here hx rfl (hb hby d8_27) rfl ?_
  refine XS.aload X0.here hx rfl (hb hby d8_30) rfl rfl ?_
  refine XS.aloadN X0.here hx rfl (hb hby d8_32) rfl rfl ?_
  show Sp p e below s₁ (mkF m 33 #[.val (.ref a1), .val (.ref a2), .val (.int p3), .val (.int p4), .val (.int p5), .val (.ref a6)] [(.ref a2), (.ref a6)]) _
  refine Jvm.RoadKit.acmp (g := (mkF m 33 #[.val (.ref a1), .val (.ref a2), .val (.int p3), .val (.int p4), .val (.int p5), .val (.ref a6)] [(.ref a2), (.ref a6)])) X0 hx rfl rfl rfl (pc0 := 33) (pc' := 36) (same := false) rfl (hb hby d8_33) rfl (decide_eq_false fun q => (Ne.symm ne_a2_a6) (Value.ref.inj q)) (by decide) (by decide) ?_
  show Sp p e below s₁ (mkF m 36 #[.val (.ref a1), .val (.ref a2), .val (.int p3), .val (.int p4), .val (.int p5), .val (.ref a6)] []) _
  refine XS.aloadN X0.here hx rfl (hb hby d8_36) rfl rfl ?_
  show Sp p e below s₁ (mkF m 37 #[.val (.ref a1), .val (.ref a2), .val (.int p3), .val (.int p4), .val (.int p5), .val (.ref a6)] [(.ref a1)]) _
  refine st1 _ ?_
  show Sp p e below T1 (mkF m 40 #[.val (.ref a1), .val (.ref a2), .val (.int p3), .val (.int p4), .val (.int p5), .val (.ref a6)] [(.ref a8)]) _
  refine XS.iload X1.here hx rfl (hb hby d8_40) rfl ?_
  show Sp p e below T1 (mkF m 42 #[.val (.ref a1), .val (.ref a2), .val (.int p3), .val (.int p4), .val (.int p5), .val (.ref a6)] [(.int p5), (.ref a8)]) _
  refine X1.iaload hx (j := p5) (v := (.int p11)) (by rw [e1]; exact Ar2.1) (State.isArrayOf_alike hZ.alike Ar2.2.1) Ar2.2.2 hin2 hat2 (g := (mkF m 42 #[.val (.ref a1), .val (.ref a2), .val (.int p3), .val (.int p4), .val (.int p5), .val (.ref a6)] [(.int p5), (.ref a8)])) rfl rfl (hb hby d8_42) _ ?_
  show Sp p e below T1 (mkF m 43 #[.val (.ref a1), .val (.ref a2), .val (.int p3), .val (.int p4), .val (.int p5), .val (.ref a6)] [(.int p11)]) _
  refine XS.iloadN X1.here hx rfl (hb hby d8_43) rfl ?_
  refine XS.icmpYes X1.here hx rfl (pc0 := 44) (pc' := 64) rfl (hb hby d8_44) rfl (feq hc6).2 (by decide) (by decide) ?_
  exact kt
set_option maxRecDepth 65536 in
set_option maxHeartbeats 4000000 in
theorem pc_M2 (l : Launch) (Z : State) (a0 : Array Value) (hw : ∀ d ∈ tables_1, d.before a0 Z = true) (cs_v : Int32) (hp : Perm Z cs_v) (a1 : Addr) (a2 : Addr) (p3 : Int32) (p4 : Int32) (p5 : Int32) (a6 : Addr) (a7 : Addr) (a8 : Addr) (k_a8 : ClassId) (f_a8 : Int32 → Value) (p11 : Int32) (ks_a6 : List Value) (ks_a2 : List Value) (h0 : Heap) (n0 : Nat) (O0 : Old Z n0 h0) (G_a8 : Arf Z h0 a8 k_a8 .int (32 : Int32) f_a8) (hbn : ¬ p5 < 0 ∧ p5 < (32 : Int32)) (hq : f_a8 p5 = (.int p11)) (ne_a2_a6 : a2 ≠ a6) (F_hashes_a1 : Fld Z h0 a1 "com/example/byteloom/byteloom/StringNumbers" "hashes" "[I" (.ref a8)) (hc6 : p11 = p4) (E_a6 : Exa Z h0 a6 "java/lang/String") (K_a6 : StrK Z h0 a6 ks_a6) (K_a2 : StrK Z h0 a2 ks_a2) (hc10 : (eqK ks_a6 ks_a2) = (0 : Int32)) {p : Program} {e : Env} {s : State} {m : MethodId} {args : Array Value} {below : List Frame} {meth : Method} {c : Code} {s₁ : State} {locs : List Loc} (X0 : Stand p l e ({ frames := 4, cells := 0, slots := 0, locals := 66 } : Room) s m args below meth c s₁ locs 0 0) (hx : p.tables.exec = Jvm.exec) (hZ : Z.Warmed39 s.vm) (hby : c.code = prog_52_method_2_code) (hml : c.maxLocals = 6) (hown : s.vm.findClass "com/example/byteloom/byteloom/StringNumbers" = some m.cls) (e0 : s₁.heap = h0) (N0 : Fr n0 locs) :
    ∃ T' locs', Stand p l e ({ frames := 4, cells := 0, slots := 0, locals := 66 } : Room) s m args below meth c T' locs' 0 0 ∧ T'.heap = h0 ∧ Fr n0 locs' ∧ ∀ target, Sp p e below T' (mkF m 64 #[.val (.ref a1), .val (.ref a2), .val (.int p3), .val (.int p4), .val (.int p5), .val (.ref a6)] []) target → Sp p e below s₁ (mkF m 25 #[.val (.ref a1), .val (.ref a2), .val (.int p3), .val (.int p4), .val (.int p5), .val (.ref a6)] []) target := by
  obtain ⟨T1, X1, e1, st1⟩ := getF X0 hx hZ hown (host := "") (Or.inl (wq hw 42 rfl)) Via.refl e0 F_hashes_a1 (g := (mkF m 37 #[.val (.ref a1), .val (.ref a2), .val (.int p3), .val (.int p4), .val (.int p5), .val (.ref a6)] [(.ref a1)])) rfl rfl (hb hby d8_37)
  obtain ⟨hs2, vs2, dv2, ⟨cl2, Ar2, -, S2, -, H2, -⟩, U2⟩ := id G_a8
  have hin2 : ¬ (p5 < 0 ∨ cl2.slots.size ≤ (p5).toNatClampNeg) := inb_of S2 hbn
  have hat2 : cl2.slots[(p5).toNatClampNeg]? = some (.int p11) := atH H2 hin2 ((U2 p5 hbn.1 hbn.2).trans hq)
  obtain ⟨cq3, kq3, q3a, q3b, q3c⟩ := isOf hZ e1 E_a6
  obtain ⟨_, _, ⟨T3, L3, k3, n3⟩, -, X3, ⟨Lc3, hQ3, l3, y3, z3⟩, st3⟩ := X1.virtualBack hx (y := y16) (z := y16) hown (mvT hZ (wq hw 114 rfl)) (mvT hZ (wq hw 80 rfl)) (notFace_of_selects (args := #[]) (mvT hZ (wq hw 82 rfl))) (mvT hZ (wq hw 82 rfl)) (mvT hZ (wq hw 81 rfl)) (by decide) (backOf (W := 0) (rmEQ l Z a0 hw [] cs_v hp a6 a2 ks_a6 ks_a2 h0 n0 O0 (Ne.symm ne_a2_a6) K_a6 K_a2) hZ (wq hw 83 rfl) (wq hw 6 rfl) (by decide) (by decide)) q3a q3c (g := (mkF m 50 #[.val (.ref a1), .val (.ref a2), .val (.int p3), .val (.int p4), .val (.int p5), .val (.ref a6)] [(.ref a2), (.ref a6)])) rfl (by rw [hml]; rfl) (Steps.refl _) (argsL := [(.ref a2)]) (rest := []) (lenOf pd_14 rfl) rfl (by show 2 * 0 + _ ≤ _; exact Nat.le_of_eq rfl) (hb hby d8_50) (fun _ _ => ⟨rfl, e1, (by decide : 0 + 0 ≤ _), (by decide : 0 + 0 ≤ _)⟩)
  dsimp only [Pt.U, Pt.locs, Pt.cells, Pt.slots] at X3 l3 y3 z3 st3 hQ3
  subst l3 y3 z3
  obtain ⟨rfl, Nq3, eq3⟩ := hQ3
  have N3 := Fr.app N0 Nq3
  refine ⟨T3, _, X3, eq3, N3, fun target kt => ?_⟩
  show Sp p e below s₁ (mkF m 25 #[.val (.ref a1), .val (.ref a2), .val (.int p3), .val (.int p4), .val (.int p5), .val (.ref a6)] []) _
  refine XS.aload X0.here hx rfl (hb hby d8_25) rfl rfl ?_
  show Sp p e below s₁ (mkF m 27 #[.val (.ref a1), .val (.ref a2), .val (.int p3), .val (.int p4), .val (.int p5), .val (.ref a6)] [(.ref a6)]) _
  refine XS.ifnullNo X0.here hx rfl (hb hby d8_27) rfl ?_
  refine XS.aload X0.here hx rfl (hb hby d8_30) rfl rfl ?_
  refine XS.aloadN X0.here hx rfl (hb hby d8_32) rfl rfl ?_
  show Sp p e below s₁ (mkF m 33 #[.val (.ref a1), .val (.ref a2), .val (.int p3), .val (.int p4), .val (.int p5), .val (.ref a6)] [(.ref a2), (.ref a6)]) _
  refine Jvm.RoadKit.acmp (g := (mkF m 33 #[.val (.ref a1), .val (.ref a2), .val (.int p3), .val (.int p4), .val (.int p5), .val (.ref a6)] [(.ref a2), (.ref a6)])) X0 hx rfl rfl rfl (pc0 := 33) (pc' := 36) (same := false) rfl (hb hby d8_33) rfl (decide_eq_false fun q => (Ne.symm ne_a2_a6) (Value.ref.inj q)) (by decide) (by decide) ?_
  show Sp p e below s₁ (mkF m 36 #[.val (.ref a1), .val (.ref a2), .val (.int p3), .val (.int p4), .val (.int p5), .val (.ref a6)] []) _
  refine XS.aloadN X0.here hx rfl (hb hby d8_36) rfl rfl ?_
  show Sp p e below s₁ (mkF m 37 #[.val (.ref a1), .val (.ref a2), .val (.int p3), .val (.int p4), .val (.int p5), .val (.ref a6)] [(.ref a1)]) _
  refine st1 _ ?_
  show Sp p e below T1 (mkF m 40 #[.val (.ref a1), .val (.ref a2), .val (.int p3), .val (.int p4), .val (.int p5), .val (.ref a6)] [(.ref a8)]) _
  refine XS.iload X1.here hx rfl (hb hby d8_40) rfl ?_
  show Sp p e below T1 (mkF m 42 #[.val (.ref a1), .val (.ref a2), .val (.int p3), .val (.int p4), .val (.int p5), .val (.ref a6)] [(.int p5), (.ref a8)]) _
  refine X1.iaload hx (j := p5) (v := (.int p11)) (by rw [e1]; exact Ar2.1) (State.isArrayOf_alike hZ.alike Ar2.2.1) Ar2.2.2 hin2 hat2 (g := (mkF m 42 #[.val (.ref a1), .val (.ref a2), .val (.int p3), .val (.int p4), .val (.int p5), .val (.ref a6)] [(.int p5), (.ref a8)])) rfl rfl (hb hby d8_42) _ ?_
  show Sp p e below T1 (mkF m 43 #[.val (.ref a1), .val (.ref a2), .val (.int p3), .val (.int p4), .val (.int p5), .val (.ref a6)] [(.int p11)]) _
  refine XS.iloadN X1.here hx rfl (hb hby d8_43) rfl ?_
  refine XS.icmpNo X1.here hx rfl (hb hby d8_44) rfl (teq hc6).2 ?_
  refine XS.aload X1.here hx rfl (hb hby d8_47) rfl rfl ?_
  refine XS.aloadN X1.here hx rfl (hb hby d8_49) rfl rfl ?_
  show Sp p e below T1 (mkF m 50 #[.val (.ref a1), .val (.ref a2), .val (.int p3), .val (.int p4), .val (.int p5), .val (.ref a6)] [(.ref a2), (.ref a6)]) _
  refine st3.trans ?_
  show Sp p e below T3 (mkF m 53 #[.val (.ref a1), .val (.ref a2), .val (.int p3), .val (.int p4), .val (.int p5), .val (.ref a6)] [(.int (eqK ks_a6 ks_a2))]) _
  refine XS.ifYes X3.here hx rfl (pc0 := 53) (pc' := 64) rfl (hb hby d8_53) rfl ((if0 _ _).trans (teq hc10).1) (by decide) (by decide) ?_
  exact kt
theorem d8_64 : decode prog_52_method_2_code 64 = .ok (.iload 4, 2) := by decide +kernel
theorem d8_66 : decode prog_52_method_2_code 66 = .ok (.iconst 1, 1) := by decide +kernel
theorem d8_67 : decode prog_52_method_2_code 67 = .ok (.iadd, 1) := by decide +kernel
theorem d8_68 : decode prog_52_method_2_code 68 = .ok (.bipush 31, 2) := by decide +kernel
theorem d8_70 : decode prog_52_method_2_code 70 = .ok (.iand, 1) := by decide +kernel
theorem d8_71 : decode prog_52_method_2_code 71 = .ok (.istore 4, 2) := by decide +kernel
abbrev fx10 (x0 : Int32) : Int32 := ((x0 + (1 : Int32)) &&& (31 : Int32))
theorem d8_73 : decode prog_52_method_2_code 73 = .ok (.aload_n 0, 1) := by decide +kernel
theorem d8_74 : decode prog_52_method_2_code 74 = .ok (.getfield 11, 3) := by decide +kernel
theorem d8_77 : decode prog_52_method_2_code 77 = .ok (.iload 4, 2) := by decide +kernel
theorem d8_79 : decode prog_52_method_2_code 79 = .ok (.aaload, 1) := by decide +kernel
theorem d8_80 : decode prog_52_method_2_code 80 = .ok (.astore 5, 2) := by decide +kernel
theorem d8_82 : decode prog_52_method_2_code 82 = .ok (.goto (-57), 3) := by decide +kernel
set_option maxRecDepth 65536 in
set_option maxHeartbeats 4000000 in
theorem pc_Nn (l : Launch) (Z : State) (a0 : Array Value) (hw : ∀ d ∈ tables_1, d.before a0 Z = true) (cs_v : Int32) (hp : Perm Z cs_v) (a1 : Addr) (a2 : Addr) (p3 : Int32) (p4 : Int32) (p5 : Int32) (a6 : Addr) (a7 : Addr) (a8 : Addr) (k_a7 : ClassId) (f_a7 : Int32 → Value) (h0 : Heap) (n0 : Nat) (O0 : Old Z n0 h0) (G_a7 : Arf Z h0 a7 k_a7 (.object "java/lang/String") (32 : Int32) f_a7) (hbn : ¬ ((p5 + (1 : Int32)) &&& (31 : Int32)) < 0 ∧ ((p5 + (1 : Int32)) &&& (31 : Int32)) < (32 : Int32)) (hr : f_a7 ((p5 + (1 : Int32)) &&& (31 : Int32)) = .null) (F_strings_a1 : Fld Z h0 a1 "com/example/byteloom/byteloom/StringNumbers" "strings" "[Ljava/lang/String;" (.ref a7)) {p : Program} {e : Env} {s : State} {m : MethodId} {args : Array Value} {below : List Frame} {meth : Method} {c : Code} {s₁ : State} {locs : List Loc} (X0 : Stand p l e ({ frames := 4, cells := 0, slots := 0, locals := 66 } : Room) s m args below meth c s₁ locs 0 0) (hx : p.tables.exec = Jvm.exec) (hZ : Z.Warmed39 s.vm) (hby : c.code = prog_52_method_2_code) (hml : c.maxLocals = 6) (hown : s.vm.findClass "com/example/byteloom/byteloom/StringNumbers" = some m.cls) (e0 : s₁.heap = h0) (N0 : Fr n0 locs) :
    ∃ T' locs', Stand p l e ({ frames := 4, cells := 0, slots := 0, locals := 66 } : Room) s m args below meth c T' locs' 0 0 ∧ T'.heap = h0 ∧ Fr n0 locs' ∧ ∀ target, Sp p e below T' (mkF m 85 #[.val (.ref a1), .val (.ref a2), .val (.int p3), .val (.int p4), .val (.int (fx10 p5)), .val .null] []) target → Sp p e below s₁ (mkF m 64 #[.val (.ref a1), .val (.ref a2), .val (.int p3), .val (.int p4), .val (.int p5), .val (.ref a6)] []) target := by
  obtain ⟨T1, X1, e1, st1⟩ := getF X0 hx hZ hown (host := "") (Or.inl (wq hw 39 rfl)) Via.refl e0 F_strings_a1 (g := (mkF m 74 #[.val (.ref a1), .val (.ref a2), .val (.int p3), .val (.int p4), .val (.int (fx10 p5)), .val (.ref a6)] [(.ref a1)])) rfl rfl (hb hby d8_74)
  obtain ⟨hs2, vs2, dv2, ⟨cl2, Ar2, -, S2, -, H2, -⟩, U2⟩ := id G_a7
  have hin2 : ¬ (((p5 + (1 : Int32)) &&& (31 : Int32)) < 0 ∨ cl2.slots.size ≤ (((p5 + (1 : Int32)) &&& (31 : Int32))).toNatClampNeg) := inb_of S2 hbn
  have hat2 : cl2.slots[(((p5 + (1 : Int32)) &&& (31 : Int32))).toNatClampNeg]? = some .null := atH H2 hin2 ((U2 ((p5 + (1 : Int32)) &&& (31 : Int32)) hbn.1 hbn.2).trans hr)
  refine ⟨T1, _, X1, e1, N0, fun target kt => ?_⟩
  show Sp p e below s₁ (mkF m 64 #[.val (.ref a1), .val (.ref a2), .val (.int p3), .val (.int p4), .val (.int p5), .val (.ref a6)] []) _
  refine XS.iload X0.here hx rfl (hb hby d8_64) rfl ?_
  refine XS.iconst X0.here hx rfl (hb hby d8_66) ?_
  refine XS.iadd X0.here hx rfl (hb hby d8_67) rfl ?_
  refine XS.bipush X0.here hx rfl (hb hby d8_68) ?_
  refine XS.iand X0.here hx rfl (hb hby d8_70) rfl ?_
  refine XS.istore X0.here hx rfl (hb hby d8_71) rfl (l' := #[.val (.ref a1), .val (.ref a2), .val (.int p3), .val (.int p4), .val (.int (fx10 p5)), .val (.ref a6)]) rfl ?_
  refine XS.aloadN X0.here hx rfl (hb hby d8_73) rfl rfl ?_
  show Sp p e below s₁ (mkF m 74 #[.val (.ref a1), .val (.ref a2), .val (.int p3), .val (.int p4), .val (.int (fx10 p5)), .val (.ref a6)] [(.ref a1)]) _
  refine st1 _ ?_
  show Sp p e below T1 (mkF m 77 #[.val (.ref a1), .val (.ref a2), .val (.int p3), .val (.int p4), .val (.int (fx10 p5)), .val (.ref a6)] [(.ref a7)]) _
  refine XS.iload X1.here hx rfl (hb hby d8_77) rfl ?_
  show Sp p e below T1 (mkF m 79 #[.val (.ref a1), .val (.ref a2), .val (.int p3), .val (.int p4), .val (.int (fx10 p5)), .val (.ref a6)] [(.int (fx10 p5)), (.ref a7)]) _
  refine X1.aaload hx (j := ((p5 + (1 : Int32)) &&& (31 : Int32))) (v := .null) (by rw [e1]; exact Ar2.1) (State.isArrayOf_alike hZ.alike Ar2.2.1) rfl Ar2.2.2 hin2 hat2 (g := (mkF m 79 #[.val (.ref a1), .val (.ref a2), .val (.int p3), .val (.int p4), .val (.int (fx10 p5)), .val (.ref a6)] [(.int (fx10 p5)), (.ref a7)])) rfl rfl (hb hby d8_79) _ ?_
  show Sp p e below T1 (mkF m 80 #[.val (.ref a1), .val (.ref a2), .val (.int p3), .val (.int p4), .val (.int (fx10 p5)), .val (.ref a6)] [.null]) _
  refine XS.astore X1.here hx rfl (hb hby d8_80) rfl rfl (l' := #[.val (.ref a1), .val (.ref a2), .val (.int p3), .val (.int p4), .val (.int (fx10 p5)), .val .null]) rfl ?_
  refine XS.goto X1.here hx rfl (pc0 := 82) (pc' := 25) rfl (hb hby d8_82) (by decide) (by decide) ?_
  refine XS.aload X1.here hx rfl (hb hby d8_25) rfl rfl ?_
  show Sp p e below T1 (mkF m 27 #[.val (.ref a1), .val (.ref a2), .val (.int p3), .val (.int p4), .val (.int (fx10 p5)), .val .null] [.null]) _
  refine XS.ifnullYes X1.here hx rfl (pc0 := 27) (pc' := 85) rfl (hb hby d8_27) rfl (by decide) (by decide) ?_
  exact kt
set_option maxRecDepth 65536 in
set_option maxHeartbeats 4000000 in
theorem pc_Nr (l : Launch) (Z : State) (a0 : Array Value) (hw : ∀ d ∈ tables_1, d.before a0 Z = true) (cs_v : Int32) (hp : Perm Z cs_v) (a1 : Addr) (a2 : Addr) (p3 : Int32) (p4 : Int32) (p5 : Int32) (a6 : Addr) (a7 : Addr) (a8 : Addr) (k_a7 : ClassId) (f_a7 : Int32 → Value) (a11 : Addr) (h0 : Heap) (n0 : Nat) (O0 : Old Z n0 h0) (G_a7 : Arf Z h0 a7 k_a7 (.object "java/lang/String") (32 : Int32) f_a7) (hbn : ¬ ((p5 + (1 : Int32)) &&& (31 : Int32)) < 0 ∧ ((p5 + (1 : Int32)) &&& (31 : Int32)) < (32 : Int32)) (hr : f_a7 ((p5 + (1 : Int32)) &&& (31 : Int32)) = (.ref a11)) (F_strings_a1 : Fld Z h0 a1 "com/example/byteloom/byteloom/StringNumbers" "strings" "[Ljava/lang/String;" (.ref a7)) {p : Program} {e : Env} {s : State} {m : MethodId} {args : Array Value} {below : List Frame} {meth : Method} {c : Code} {s₁ : State} {locs : List Loc} (X0 : Stand p l e ({ frames := 4, cells := 0, slots := 0, locals := 66 } : Room) s m args below meth c s₁ locs 0 0) (hx : p.tables.exec = Jvm.exec) (hZ : Z.Warmed39 s.vm) (hby : c.code = prog_52_method_2_code) (hml : c.maxLocals = 6) (hown : s.vm.findClass "com/example/byteloom/byteloom/StringNumbers" = some m.cls) (e0 : s₁.heap = h0) (N0 : Fr n0 locs) :
    ∃ T' locs', Stand p l e ({ frames := 4, cells := 0, slots := 0, locals := 66 } : Room) s m args below meth c T' locs' 0 0 ∧ T'.heap = h0 ∧ Fr n0 locs' ∧ ∀ target, Sp p e below T' (mkF m 25 #[.val (.ref a1), .val (.ref a2), .val (.int p3), .val (.int p4), .val (.int (fx10 p5)), .val (.ref a11)] []) target → Sp p e below s₁ (mkF m 64 #[.val (.ref a1), .val (.ref a2), .val (.int p3), .val (.int p4), .val (.int p5), .val (.ref a6)] []) target := by
  obtain ⟨T1, X1, e1, st1⟩ := getF X0 hx hZ hown (host := "") (Or.inl (wq hw 39 rfl)) Via.refl e0 F_strings_a1 (g := (mkF m 74 #[.val (.ref a1), .val (.ref a2), .val (.int p3), .val (.int p4), .val (.int (fx10 p5)), .val (.ref a6)] [(.ref a1)])) rfl rfl (hb hby d8_74)
  obtain ⟨hs2, vs2, dv2, ⟨cl2, Ar2, -, S2, -, H2, -⟩, U2⟩ := id G_a7
  have hin2 : ¬ (((p5 + (1 : Int32)) &&& (31 : Int32)) < 0 ∨ cl2.slots.size ≤ (((p5 + (1 : Int32)) &&& (31 : Int32))).toNatClampNeg) := inb_of S2 hbn
  have hat2 : cl2.slots[(((p5 + (1 : Int32)) &&& (31 : Int32))).toNatClampNeg]? = some (.ref a11) := atH H2 hin2 ((U2 ((p5 + (1 : Int32)) &&& (31 : Int32)) hbn.1 hbn.2).trans hr)
  refine ⟨T1, _, X1, e1, N0, fun target kt => ?_⟩
  show Sp p e below s₁ (mkF m 64 #[.val (.ref a1), .val (.ref a2), .val (.int p3), .val (.int p4), .val (.int p5), .val (.ref a6)] []) _
  refine XS.iload X0.here hx rfl (hb hby d8_64) rfl ?_
  refine XS.iconst X0.here hx rfl (hb hby d8_66) ?_
  refine XS.iadd X0.here hx rfl (hb hby d8_67) rfl ?_
  refine XS.bipush X0.here hx rfl (hb hby d8_68) ?_
  refine XS.iand X0.here hx rfl (hb hby d8_70) rfl ?_
  refine XS.istore X0.here hx rfl (hb hby d8_71) rfl (l' := #[.val (.ref a1), .val (.ref a2), .val (.int p3), .val (.int p4), .val (.int (fx10 p5)), .val (.ref a6)]) rfl ?_
  refine XS.aloadN X0.here hx rfl (hb hby d8_73) rfl rfl ?_
  show Sp p e below s₁ (mkF m 74 #[.val (.ref a1), .val (.ref a2), .val (.int p3), .val (.int p4), .val (.int (fx10 p5)), .val (.ref a6)] [(.ref a1)]) _
  refine st1 _ ?_
  show Sp p e below T1 (mkF m 77 #[.val (.ref a1), .val (.ref a2), .val (.int p3), .val (.int p4), .val (.int (fx10 p5)), .val (.ref a6)] [(.ref a7)]) _
  refine XS.iload X1.here hx rfl (hb hby d8_77) rfl ?_
  show Sp p e below T1 (mkF m 79 #[.val (.ref a1), .val (.ref a2), .val (.int p3), .val (.int p4), .val (.int (fx10 p5)), .val (.ref a6)] [(.int (fx10 p5)), (.ref a7)]) _
  refine X1.aaload hx (j := ((p5 + (1 : Int32)) &&& (31 : Int32))) (v := (.ref a11)) (by rw [e1]; exact Ar2.1) (State.isArrayOf_alike hZ.alike Ar2.2.1) rfl Ar2.2.2 hin2 hat2 (g := (mkF m 79 #[.val (.ref a1), .val (.ref a2), .val (.int p3), .val (.int p4), .val (.int (fx10 p5)), .val (.ref a6)] [(.int (fx10 p5)), (.ref a7)])) rfl rfl (hb hby d8_79) _ ?_
  show Sp p e below T1 (mkF m 80 #[.val (.ref a1), .val (.ref a2), .val (.int p3), .val (.int p4), .val (.int (fx10 p5)), .val (.ref a6)] [(.ref a11)]) _
  refine XS.astore X1.here hx rfl (hb hby d8_80) rfl rfl (l' := #[.val (.ref a1), .val (.ref a2), .val (.int p3), .val (.int p4), .val (.int (fx10 p5)), .val (.ref a11)]) rfl ?_
  refine XS.goto X1.here hx rfl (pc0 := 82) (pc' := 25) rfl (hb hby d8_82) (by decide) (by decide) ?_
  exact kt
def svT : Option (Addr × Int32) → Value
  | none => .null
  | some (a, _) => .ref a
def LookR (p : Program) (e : Env) (below : List Frame) (m : MethodId) (κ : Addr → List Value) (T : Tb) (t b : Addr) (num hh : Int32) (T' s₁ : State) (f : JFrame) (j : Int32) : Prop := (T j = none ∧ ∀ target, Sp p e below T' (mkF m 85 #[.val (.ref t), .val (.ref b), .val (.int num), .val (.int hh), .val (.int j), .val .null] []) target → Sp p e below s₁ f target) ∨ ∃ a' n', T j = some (a', n') ∧ κ a' = κ b ∧ ∀ target, Sp p e below T' (mkF m 56 #[.val (.ref t), .val (.ref b), .val (.int num), .val (.int hh), .val (.int j), .val (.ref a')] []) target → Sp p e below s₁ f target
theorem LookR.trans {p : Program} {e : Env} {below : List Frame} {m : MethodId} {κ : Addr → List Value} {T : Tb} {t b : Addr} {num hh : Int32} {T' s₁ s₂ : State} {f f' : JFrame} {j : Int32} (k : ∀ target, Sp p e below s₂ f' target → Sp p e below s₁ f target) (h : LookR p e below m κ T t b num hh T' s₂ f' j) : LookR p e below m κ T t b num hh T' s₁ f j := by
  rcases h with ⟨h1, h2⟩ | ⟨a', n', h1, h2, h3⟩
  · exact Or.inl ⟨h1, fun tg q => k tg (h2 tg q)⟩
  · exact Or.inr ⟨a', n', h1, h2, fun tg q => k tg (h3 tg q)⟩
theorem own_bnd {i : Int32} (h : 0 ≤ i.toInt ∧ i.toInt < 32) : ¬ i < 0 ∧ i < (32 : Int32) := by
  have a : (0 : Int32).toInt = 0 := rfl
  have b : (32 : Int32).toInt = 32 := rfl
  rw [Int32.lt_iff_toInt_lt, Int32.lt_iff_toInt_lt, a, b]; omega
theorem own_hm (h : Int32) : 0 ≤ (hmI h).toInt ∧ (hmI h).toInt < 32 := by
  have q := c_and (h ^^^ ((h.toUInt32 >>> ((16 : Int32) &&& 31).toUInt32).toInt32)) (31 : Int32) (by decide)
  have e : (31 : Int32).toInt = 31 := rfl
  rw [e] at q
  exact ⟨q.1, by rw [hmI]; omega⟩
set_option maxRecDepth 65536 in
set_option maxHeartbeats 4000000 in
theorem own_loop (l : Launch) (Z : State) (a0 : Array Value) (hw : ∀ d ∈ tables_1, d.before a0 Z = true) (cs_v : Int32) (hp : Perm Z cs_v) (κ : Addr → List Value) (T : Tb) (t b A1 A2 : Addr) (num hh : Int32) (k1 k2 : ClassId) (f1 f2 : Int32 → Value) (h0 : Heap) (n0 : Nat) (O0 : Old Z n0 h0)
    (G_A1 : Arf Z h0 A1 k1 (.object "java/lang/String") (32 : Int32) f1) (G_A2 : Arf Z h0 A2 k2 .int (32 : Int32) f2) (F_strings : Fld Z h0 t "com/example/byteloom/byteloom/StringNumbers" "strings" "[Ljava/lang/String;" (.ref A1)) (F_hashes : Fld Z h0 t "com/example/byteloom/byteloom/StringNumbers" "hashes" "[I" (.ref A2)) (K_b : StrK Z h0 b (κ b))
    (hS : ∀ j : Int32, (0 ≤ j.toInt ∧ j.toInt < 32) → f1 j = svT (T j)) (hH : ∀ j a n, T j = some (a, n) → f2 j = .int (hvL (κ a))) (hKs : ∀ j a n, T j = some (a, n) → StrK Z h0 a (κ a)) (hhh : hh = hvL (κ b))
    {p : Program} {e : Env} {s : State} {m : MethodId} {args : Array Value} {below : List Frame} {meth : Method} {c : Code} (hx : p.tables.exec = Jvm.exec) (hZ : Z.Warmed39 s.vm) (hby : c.code = prog_52_method_2_code) (hml : c.maxLocals = 6) (hown : s.vm.findClass "com/example/byteloom/byteloom/StringNumbers" = some m.cls) :
    ∀ (d : Nat) (i : Int32) (a : Addr) (n : Int32) (s₁ : State) (locs : List Loc) (X0 : Stand p l e ({ frames := 4, cells := 0, slots := 0, locals := 66 } : Room) s m args below meth c s₁ locs 0 0) (e0 : s₁.heap = h0) (N0 : Fr n0 locs) (hi : 0 ≤ i.toInt ∧ i.toInt < 32) (hT : T i = some (a, n)) (hf : FreeT T d i),
      ∃ T' locs' j, Stand p l e ({ frames := 4, cells := 0, slots := 0, locals := 66 } : Room) s m args below meth c T' locs' 0 0 ∧ T'.heap = h0 ∧ Fr n0 locs' ∧ (0 ≤ j.toInt ∧ j.toInt < 32) ∧ Path κ T (κ b) i j ∧ LookR p e below m κ T t b num hh T' s₁ (mkF m 25 #[.val (.ref t), .val (.ref b), .val (.int num), .val (.int hh), .val (.int i), .val (.ref a)] []) j := by
  intro d
  induction d with
  | zero => intro i a n s₁ locs X0 e0 N0 hi hT hf; rw [show T i = none from hf] at hT; cases hT
  | succ d ih =>
    intro i a n s₁ locs X0 e0 N0 hi hT hf
    by_cases ne_a_b : a = b
    · subst ne_a_b
      obtain ⟨T1, L1, X1, e1, N1, st1⟩ := pc_F1 l Z a0 hw cs_v hp t a num hh i A1 A2 h0 n0 O0  X0 hx hZ hby hml hown e0 N0
      exact ⟨T1, L1, i, X1, e1, N1, hi, Path.here i, Or.inr ⟨a, n, hT, rfl, st1⟩⟩
    have hbn := own_bnd hi
    obtain ⟨ha, hha⟩ : ∃ ha, ha = hvL (κ a) := ⟨_, rfl⟩
    have hq : f2 i = .int ha := by rw [hha]; exact hH i a n hT
    have K_a := hKs i a n hT
    have E_a := K_a.exa
    by_cases hke : κ a = κ b
    · have hE : ha = hh := by rw [hha, hhh, hke]
      have hK : ¬ (eqK (κ a) (κ b) = (0 : Int32)) := by rw [eqK, if_pos hke]; decide
      obtain ⟨T1, L1, X1, e1, N1, st1⟩ := pc_F2 l Z a0 hw cs_v hp t b num hh i a A1 A2 k2 f2 ha (κ a) (κ b) h0 n0 O0 G_A2 hbn hq (Ne.symm ne_a_b) F_hashes hE E_a K_a K_b hK X0 hx hZ hby hml hown e0 N0
      exact ⟨T1, L1, i, X1, e1, N1, hi, Path.here i, Or.inr ⟨a, n, hT, hke, st1⟩⟩
    obtain ⟨T1, L1, X1, e1, N1, st1⟩ : ∃ T' locs', Stand p l e ({ frames := 4, cells := 0, slots := 0, locals := 66 } : Room) s m args below meth c T' locs' 0 0 ∧ T'.heap = h0 ∧ Fr n0 locs' ∧ ∀ target, Sp p e below T' (mkF m 64 #[.val (.ref t), .val (.ref b), .val (.int num), .val (.int hh), .val (.int i), .val (.ref a)] []) target → Sp p e below s₁ (mkF m 25 #[.val (.ref t), .val (.ref b), .val (.int num), .val (.int hh), .val (.int i), .val (.ref a)] []) target := by
      by_cases hE : ha = hh
      · have hK : eqK (κ a) (κ b) = (0 : Int32) := by rw [eqK, if_neg hke]
        exact pc_M2 l Z a0 hw cs_v hp t b num hh i a A1 A2 k2 f2 ha (κ a) (κ b) h0 n0 O0 G_A2 hbn hq (Ne.symm ne_a_b) F_hashes hE E_a K_a K_b hK X0 hx hZ hby hml hown e0 N0
      · exact pc_M1 l Z a0 hw cs_v hp t b num hh i a A1 A2 k2 f2 ha h0 n0 O0 G_A2 hbn hq (Ne.symm ne_a_b) F_hashes hE X0 hx hZ hby hml hown e0 N0
    have hn := own_nxt i hi
    have hf' : FreeT T d ((i + (1 : Int32)) &&& (31 : Int32)) := by
      rcases hf with hf | hf
      · rw [hf] at hT; cases hT
      · exact hf
    have hbn := own_bnd ⟨hn.1, hn.2.1⟩
    have hr0 := hS _ ⟨hn.1, hn.2.1⟩
    cases hT' : T ((i + (1 : Int32)) &&& (31 : Int32)) with
    | none =>
      have hr : f1 ((i + (1 : Int32)) &&& (31 : Int32)) = .null := by rw [hr0, hT']; rfl
      obtain ⟨T2, L2, X2, e2, N2, st2⟩ := pc_Nn l Z a0 hw cs_v hp t b num hh i a A1 A2 k1 f1 h0 n0 O0 G_A1 hbn hr F_strings X1 hx hZ hby hml hown e1 N1
      exact ⟨T2, L2, _, X2, e2, N2, ⟨hn.1, hn.2.1⟩, Path.step hT hke (Path.here _), Or.inl ⟨hT', fun tg q => st1 tg (st2 tg q)⟩⟩
    | some w =>
      obtain ⟨d', n'⟩ := w
      have hr : f1 ((i + (1 : Int32)) &&& (31 : Int32)) = (.ref d') := by rw [hr0, hT']; rfl
      obtain ⟨T2, L2, X2, e2, N2, st2⟩ := pc_Nr l Z a0 hw cs_v hp t b num hh i a A1 A2 k1 f1 d' h0 n0 O0 G_A1 hbn hr F_strings X1 hx hZ hby hml hown e1 N1
      obtain ⟨T3, L3, j, X3, e3, N3, hj, hP, hR⟩ := ih _ d' n' T2 L2 X2 e2 N2 ⟨hn.1, hn.2.1⟩ hT' hf'
      exact ⟨T3, L3, j, X3, e3, N3, hj, Path.step hT hke hP, hR.trans (fun tg q => st1 tg (st2 tg q))⟩
set_option maxRecDepth 65536 in
set_option maxHeartbeats 4000000 in
theorem own_look (l : Launch) (Z : State) (a0 : Array Value) (hw : ∀ d ∈ tables_1, d.before a0 Z = true) (cs_v : Int32) (hp : Perm Z cs_v) (κ : Addr → List Value) (T : Tb) (t b A1 A2 : Addr) (num hh : Int32) (k1 k2 : ClassId) (f1 f2 : Int32 → Value) (h0 : Heap) (n0 : Nat) (O0 : Old Z n0 h0)
    (G_A1 : Arf Z h0 A1 k1 (.object "java/lang/String") (32 : Int32) f1) (G_A2 : Arf Z h0 A2 k2 .int (32 : Int32) f2) (F_strings : Fld Z h0 t "com/example/byteloom/byteloom/StringNumbers" "strings" "[Ljava/lang/String;" (.ref A1)) (F_hashes : Fld Z h0 t "com/example/byteloom/byteloom/StringNumbers" "hashes" "[I" (.ref A2)) (K_b : StrK Z h0 b (κ b))
    (hS : ∀ j : Int32, (0 ≤ j.toInt ∧ j.toInt < 32) → f1 j = svT (T j)) (hH : ∀ j a n, T j = some (a, n) → f2 j = .int (hvL (κ a))) (hKs : ∀ j a n, T j = some (a, n) → StrK Z h0 a (κ a)) (hhh : hh = hvL (κ b))
    {U : List Int32} (hU : ∀ j, T j ≠ none → j ∈ U) (hl : U.length ≤ 15)
    {p : Program} {e : Env} {s : State} {m : MethodId} {args : Array Value} {below : List Frame} {meth : Method} {c : Code} (hx : p.tables.exec = Jvm.exec) (hZ : Z.Warmed39 s.vm) (hby : c.code = prog_52_method_2_code) (hml : c.maxLocals = 6) (hown : s.vm.findClass "com/example/byteloom/byteloom/StringNumbers" = some m.cls)
    (i : Int32) (hi : 0 ≤ i.toInt ∧ i.toInt < 32) (s₁ : State) (locs : List Loc) (X0 : Stand p l e ({ frames := 4, cells := 0, slots := 0, locals := 66 } : Room) s m args below meth c s₁ locs 0 0) (e0 : s₁.heap = h0) (N0 : Fr n0 locs) :
      ∃ T' locs' j, Stand p l e ({ frames := 4, cells := 0, slots := 0, locals := 66 } : Room) s m args below meth c T' locs' 0 0 ∧ T'.heap = h0 ∧ Fr n0 locs' ∧ (0 ≤ j.toInt ∧ j.toInt < 32) ∧ Path κ T (κ b) i j ∧ LookR p e below m κ T t b num hh T' s₁ (mkF m 16 #[.val (.ref t), .val (.ref b), .val (.int num), .val (.int hh), .val (.int i), .unset] []) j := by
  have hbn := own_bnd hi
  have hr0 := hS i hi
  cases hT : T i with
  | none =>
    have hr : f1 i = .null := by rw [hr0, hT]; rfl
    obtain ⟨T1, L1, X1, e1, N1, st1⟩ := pc_Sn l Z a0 hw cs_v hp t b num hh i A1 A2 k1 f1 h0 n0 O0 G_A1 hbn hr F_strings X0 hx hZ hby hml hown e0 N0
    exact ⟨T1, L1, i, X1, e1, N1, hi, Path.here _, Or.inl ⟨hT, st1⟩⟩
  | some w =>
    obtain ⟨a, n⟩ := w
    have hr : f1 i = (.ref a) := by rw [hr0, hT]; rfl
    obtain ⟨T1, L1, X1, e1, N1, st1⟩ := pc_Sr l Z a0 hw cs_v hp t b num hh i A1 A2 k1 f1 a h0 n0 O0 G_A1 hbn hr F_strings X0 hx hZ hby hml hown e0 N0
    obtain ⟨T3, L3, j, X3, e3, N3, hj, hP, hR⟩ := own_loop l Z a0 hw cs_v hp κ T t b A1 A2 num hh k1 k2 f1 f2 h0 n0 O0 G_A1 G_A2 F_strings F_hashes K_b hS hH hKs hhh hx hZ hby hml hown 15 i a n T1 L1 X1 e1 N1 hi hT (own_free hU hl i hi)
    exact ⟨T3, L3, j, X3, e3, N3, hj, hP, hR.trans st1⟩
theorem LookR.stop {p : Program} {e : Env} {below : List Frame} {m : MethodId} {κ : Addr → List Value} {T : Tb} {t b : Addr} {num hh : Int32} {T' s₁ : State} {f : JFrame} {j : Int32} (h : LookR p e below m κ T t b num hh T' s₁ f j) : StopT κ T (κ b) j := by
  rcases h with ⟨h1, h2⟩ | ⟨a', n', h1, h2, h3⟩
  · exact Or.inl h1
  · exact Or.inr ⟨a', n', h1, h2⟩
theorem LookR.none {p : Program} {e : Env} {below : List Frame} {m : MethodId} {κ : Addr → List Value} {T : Tb} {t b : Addr} {num hh : Int32} {T' s₁ : State} {f : JFrame} {j : Int32} (h : LookR p e below m κ T t b num hh T' s₁ f j) (q : T j = .none) : ∀ target, Sp p e below T' (mkF m 85 #[.val (.ref t), .val (.ref b), .val (.int num), .val (.int hh), .val (.int j), .val .null] []) target → Sp p e below s₁ f target := by
  rcases h with ⟨h1, h2⟩ | ⟨a', n', h1, h2, h3⟩
  · exact h2
  · rw [q] at h1; cases h1
theorem LookR.some {p : Program} {e : Env} {below : List Frame} {m : MethodId} {κ : Addr → List Value} {T : Tb} {t b a' : Addr} {num hh n' : Int32} {T' s₁ : State} {f : JFrame} {j : Int32} (h : LookR p e below m κ T t b num hh T' s₁ f j) (q : T j = .some (a', n')) : ∀ target, Sp p e below T' (mkF m 56 #[.val (.ref t), .val (.ref b), .val (.int num), .val (.int hh), .val (.int j), .val (.ref a')] []) target → Sp p e below s₁ f target := by
  rcases h with ⟨h1, h2⟩ | ⟨a, n, h1, h2, h3⟩
  · rw [q] at h1; cases h1
  · rw [q] at h1; cases h1; exact h3
theorem own_stopE {κ : Addr → List Value} {T : Tb} {k : List Value} : ∀ (d : Nat) (i : Int32), (0 ≤ i.toInt ∧ i.toInt < 32) → FreeT T d i → ∃ j : Int32, (0 ≤ j.toInt ∧ j.toInt < 32) ∧ Path κ T k i j ∧ StopT κ T k j
  | 0, i, hi, hf => ⟨i, hi, Path.here i, Or.inl hf⟩
  | d + 1, i, hi, hf => by
    cases hT : T i with
    | none => exact ⟨i, hi, Path.here i, Or.inl hT⟩
    | some w =>
      obtain ⟨a, n⟩ := w
      by_cases hk : κ a = k
      · exact ⟨i, hi, Path.here i, Or.inr ⟨a, n, hT, hk⟩⟩
      · have hf' : FreeT T d ((i + (1 : Int32)) &&& (31 : Int32)) := by
          rcases hf with hf | hf
          · rw [hf] at hT; cases hT
          · exact hf
        have hn := own_nxt i hi
        obtain ⟨j, hj, hP, hS⟩ := own_stopE d _ ⟨hn.1, hn.2.1⟩ hf'
        exact ⟨j, hj, Path.step hT hk hP, hS⟩
theorem d8_0 : decode prog_52_method_2_code 0 = .ok (.aload_n 1, 1) := by decide +kernel
theorem d8_1 : decode prog_52_method_2_code 1 = .ok (.invokevirtual 25, 3) := by decide +kernel
theorem pd_15 : parseMethodDescriptor "()I" = some ⟨[], some .int⟩ := by decide +kernel
theorem d8_4 : decode prog_52_method_2_code 4 = .ok (.istore_n 3, 1) := by decide +kernel
theorem d8_5 : decode prog_52_method_2_code 5 = .ok (.iload_n 3, 1) := by decide +kernel
theorem d8_6 : decode prog_52_method_2_code 6 = .ok (.iload_n 3, 1) := by decide +kernel
theorem d8_7 : decode prog_52_method_2_code 7 = .ok (.bipush 16, 2) := by decide +kernel
theorem d8_9 : decode prog_52_method_2_code 9 = .ok (.iushr, 1) := by decide +kernel
theorem d8_10 : decode prog_52_method_2_code 10 = .ok (.ixor, 1) := by decide +kernel
theorem d8_11 : decode prog_52_method_2_code 11 = .ok (.bipush 31, 2) := by decide +kernel
theorem d8_13 : decode prog_52_method_2_code 13 = .ok (.iand, 1) := by decide +kernel
theorem d8_14 : decode prog_52_method_2_code 14 = .ok (.istore 4, 2) := by decide +kernel
theorem d8_85 : decode prog_52_method_2_code 85 = .ok (.aload_n 0, 1) := by decide +kernel
theorem d8_86 : decode prog_52_method_2_code 86 = .ok (.getfield 33, 3) := by decide +kernel
theorem d8_89 : decode prog_52_method_2_code 89 = .ok (.bipush 16, 2) := by decide +kernel
theorem d8_91 : decode prog_52_method_2_code 91 = .ok (.if_icmp .ge 47, 3) := by decide +kernel
theorem d8_94 : decode prog_52_method_2_code 94 = .ok (.aload_n 0, 1) := by decide +kernel
theorem d8_95 : decode prog_52_method_2_code 95 = .ok (.getfield 11, 3) := by decide +kernel
theorem d8_98 : decode prog_52_method_2_code 98 = .ok (.iload 4, 2) := by decide +kernel
theorem d8_100 : decode prog_52_method_2_code 100 = .ok (.aload_n 1, 1) := by decide +kernel
theorem d8_101 : decode prog_52_method_2_code 101 = .ok (.aastore, 1) := by decide +kernel
theorem d8_102 : decode prog_52_method_2_code 102 = .ok (.aload_n 0, 1) := by decide +kernel
theorem d8_103 : decode prog_52_method_2_code 103 = .ok (.getfield 15, 3) := by decide +kernel
theorem d8_106 : decode prog_52_method_2_code 106 = .ok (.iload 4, 2) := by decide +kernel
theorem d8_108 : decode prog_52_method_2_code 108 = .ok (.iload_n 3, 1) := by decide +kernel
theorem d8_109 : decode prog_52_method_2_code 109 = .ok (.iastore, 1) := by decide +kernel
theorem d8_110 : decode prog_52_method_2_code 110 = .ok (.aload_n 0, 1) := by decide +kernel
theorem d8_111 : decode prog_52_method_2_code 111 = .ok (.getfield 19, 3) := by decide +kernel
theorem d8_114 : decode prog_52_method_2_code 114 = .ok (.iload 4, 2) := by decide +kernel
theorem d8_116 : decode prog_52_method_2_code 116 = .ok (.iload_n 2, 1) := by decide +kernel
theorem d8_117 : decode prog_52_method_2_code 117 = .ok (.iastore, 1) := by decide +kernel
theorem d8_118 : decode prog_52_method_2_code 118 = .ok (.aload_n 0, 1) := by decide +kernel
theorem d8_119 : decode prog_52_method_2_code 119 = .ok (.getfield 22, 3) := by decide +kernel
theorem d8_122 : decode prog_52_method_2_code 122 = .ok (.aload_n 0, 1) := by decide +kernel
theorem d8_123 : decode prog_52_method_2_code 123 = .ok (.dup, 1) := by decide +kernel
theorem d8_124 : decode prog_52_method_2_code 124 = .ok (.getfield 33, 3) := by decide +kernel
theorem d8_127 : decode prog_52_method_2_code 127 = .ok (.dup_x1, 1) := by decide +kernel
theorem d8_128 : decode prog_52_method_2_code 128 = .ok (.iconst 1, 1) := by decide +kernel
theorem d8_129 : decode prog_52_method_2_code 129 = .ok (.iadd, 1) := by decide +kernel
theorem d8_130 : decode prog_52_method_2_code 130 = .ok (.putfield 33, 3) := by decide +kernel
theorem d8_133 : decode prog_52_method_2_code 133 = .ok (.iload 4, 2) := by decide +kernel
theorem d8_135 : decode prog_52_method_2_code 135 = .ok (.iastore, 1) := by decide +kernel
theorem d8_136 : decode prog_52_method_2_code 136 = .ok (.iconst (-1), 1) := by decide +kernel
theorem d8_137 : decode prog_52_method_2_code 137 = .ok (.ireturn, 1) := by decide +kernel
theorem sn12 {Z : State} {a0 : Array Value} (hw : ∀ d ∈ tables_1, d.before a0 Z = true) : Jvm.RoadKit.slotOf Z "com/example/byteloom/byteloom/StringNumbers" "hashed" "Ljava/util/Map;" ≠ Jvm.RoadKit.slotOf Z "com/example/byteloom/byteloom/StringNumbers" "listed" "I" := slot_ne (Or.inl (wq hw 78 rfl)) (Or.inl (wq hw 71 rfl)) (by decide) (t := (.object "java/util/Map")) (t' := .int) (by decide) (by decide)
theorem sn13 {Z : State} {a0 : Array Value} (hw : ∀ d ∈ tables_1, d.before a0 Z = true) : Jvm.RoadKit.slotOf Z "com/example/byteloom/byteloom/StringNumbers" "hashes" "[I" ≠ Jvm.RoadKit.slotOf Z "com/example/byteloom/byteloom/StringNumbers" "listed" "I" := slot_ne (Or.inr (wq hw 43 rfl)) (Or.inl (wq hw 71 rfl)) (by decide) (t := (.array .int)) (t' := .int) (by decide) (by decide)
theorem sn14 {Z : State} {a0 : Array Value} (hw : ∀ d ∈ tables_1, d.before a0 Z = true) : Jvm.RoadKit.slotOf Z "com/example/byteloom/byteloom/StringNumbers" "numbers" "[I" ≠ Jvm.RoadKit.slotOf Z "com/example/byteloom/byteloom/StringNumbers" "listed" "I" := slot_ne (Or.inr (wq hw 45 rfl)) (Or.inl (wq hw 71 rfl)) (by decide) (t := (.array .int)) (t' := .int) (by decide) (by decide)
theorem sn15 {Z : State} {a0 : Array Value} (hw : ∀ d ∈ tables_1, d.before a0 Z = true) : Jvm.RoadKit.slotOf Z "com/example/byteloom/byteloom/StringNumbers" "strings" "[Ljava/lang/String;" ≠ Jvm.RoadKit.slotOf Z "com/example/byteloom/byteloom/StringNumbers" "listed" "I" := slot_ne (Or.inr (wq hw 40 rfl)) (Or.inl (wq hw 71 rfl)) (by decide) (t := (.array (.object "java/lang/String"))) (t' := .int) (by decide) (by decide)
theorem sn16 {Z : State} {a0 : Array Value} (hw : ∀ d ∈ tables_1, d.before a0 Z = true) : Jvm.RoadKit.slotOf Z "com/example/byteloom/byteloom/StringNumbers" "taken" "[I" ≠ Jvm.RoadKit.slotOf Z "com/example/byteloom/byteloom/StringNumbers" "listed" "I" := slot_ne (Or.inr (wq hw 47 rfl)) (Or.inl (wq hw 71 rfl)) (by decide) (t := (.array .int)) (t' := .int) (by decide) (by decide)
abbrev y17 : MethodName := (⟨"com/example/byteloom/byteloom/StringNumbers", "putIfAbsent", "(Ljava/lang/String;I)I"⟩ : MethodName)
theorem ef_8_0 (m : MethodId) (x0 : Addr) (x1 : Addr) (x2 : Int32) : entryFrame m #[(.ref x0), (.ref x1), (.int x2)] 6 = mkF m 0 #[.val (.ref x0), .val (.ref x1), .val (.int x2), .unset, .unset, .unset] [] := by first | (simp [entryFrame, mkF, argsToLocals, Value.category]; done) | rfl
theorem pn_8 : plainName "com/example/byteloom/byteloom/StringNumbers" = true := by first | (simp [plainName, overriddenIn]; done) | decide +kernel
def Q37 (Z : State) (cs_v : Int32) (a1 : Addr) (a2 : Addr) (p3 : Int32) (a4 : Addr) (a5 : Addr) (a6 : Addr) (a7 : Addr) (κ : Addr → List Value) (T : Tb) (us : List Int32) (jj : Int32) (k_a4 : ClassId) (f_a4 : Int32 → Value) (k_a5 : ClassId) (f_a5 : Int32 → Value) (k_a6 : ClassId) (f_a6 : Int32 → Value) (k_a7 : ClassId) (f_a7 : Int32 → Value) (p20 : Int32) (h0 : Heap) (n0 : Nat) (v : Option Value) (h : Heap) (L : List Loc) : Prop := v = some (.int (-1 : Int32)) ∧ Fr n0 L ∧ Keep h0 h [a2, a4, a5, a6, a1, a7] ∧ Exa Z h a2 "java/lang/String" ∧ StrK Z h a2 (κ a2) ∧ Exa Z h a4 "[Ljava/lang/String;" ∧ Arf Z h a4 k_a4 (.object "java/lang/String") (32 : Int32) (upF f_a4 jj (.ref a2)) ∧ Exa Z h a5 "[I" ∧ Arf Z h a5 k_a5 .int (32 : Int32) (upF f_a5 jj (.int (hvL (κ a2)))) ∧ Exa Z h a6 "[I" ∧ Arf Z h a6 k_a6 .int (32 : Int32) (upF f_a6 jj (.int p3)) ∧ Exa Z h a1 "com/example/byteloom/byteloom/StringNumbers" ∧ Fld Z h a1 "com/example/byteloom/byteloom/StringNumbers" "hashed" "Ljava/util/Map;" .null ∧ Fld Z h a1 "com/example/byteloom/byteloom/StringNumbers" "hashes" "[I" (.ref a5) ∧ Fld Z h a1 "com/example/byteloom/byteloom/StringNumbers" "listed" "I" (.int (p20 + (1 : Int32))) ∧ Fld Z h a1 "com/example/byteloom/byteloom/StringNumbers" "numbers" "[I" (.ref a6) ∧ Fld Z h a1 "com/example/byteloom/byteloom/StringNumbers" "strings" "[Ljava/lang/String;" (.ref a4) ∧ Fld Z h a1 "com/example/byteloom/byteloom/StringNumbers" "taken" "[I" (.ref a7) ∧ Exa Z h a7 "[I" ∧ Arf Z h a7 k_a7 .int (16 : Int32) (upF f_a7 p20 (.int jj))
theorem rm37 (l : Launch) (Z : State) (a0 : Array Value) (hw : ∀ d ∈ tables_1, d.before a0 Z = true) (ws : List Jvm.Cond) (cs_v : Int32) (hp : Perm Z cs_v) (a1 : Addr) (a2 : Addr) (p3 : Int32) (a4 : Addr) (a5 : Addr) (a6 : Addr) (a7 : Addr) (κ : Addr → List Value) (T : Tb) (us : List Int32) (jj : Int32) (k_a4 : ClassId) (f_a4 : Int32 → Value) (k_a5 : ClassId) (f_a5 : Int32 → Value) (k_a6 : ClassId) (f_a6 : Int32 → Value) (k_a7 : ClassId) (f_a7 : Int32 → Value) (p20 : Int32) (h0 : Heap) (n0 : Nat) (O0 : Old Z n0 h0) (K_a2 : StrK Z h0 a2 (κ a2)) (E_a2 : Exa Z h0 a2 "java/lang/String") (E_a1 : Exa Z h0 a1 "com/example/byteloom/byteloom/StringNumbers") (G_a4 : Arf Z h0 a4 k_a4 (.object "java/lang/String") (32 : Int32) f_a4) (G_a5 : Arf Z h0 a5 k_a5 .int (32 : Int32) f_a5) (hS : ∀ j : Int32, (0 ≤ j.toInt ∧ j.toInt < 32) → f_a4 j = svT (T j)) (hH : ∀ j a n, T j = some (a, n) → f_a5 j = .int (hvL (κ a))) (hKs : ∀ j a n, T j = some (a, n) → StrK Z h0 a (κ a)) (hU : ∀ j, T j ≠ none → j ∈ us) (hl : us.length ≤ 15) (hPj : Path κ T (κ a2) (hmK (κ a2)) jj) (hTj : T jj = none) (G_a6 : Arf Z h0 a6 k_a6 .int (32 : Int32) f_a6) (G_a7 : Arf Z h0 a7 k_a7 .int (16 : Int32) f_a7) (Ov : Ovr Z k_a4 "java/lang/String") (F_listed_a1 : Fld Z h0 a1 "com/example/byteloom/byteloom/StringNumbers" "listed" "I" (.int p20)) (hbm : ¬ p20 < 0 ∧ p20 < (16 : Int32)) (g_a2 : n0 ≤ a2) (ne_a2_a4 : a2 ≠ a4) (ne_a2_a5 : a2 ≠ a5) (F_strings_a1 : Fld Z h0 a1 "com/example/byteloom/byteloom/StringNumbers" "strings" "[Ljava/lang/String;" (.ref a4)) (ne_a1_a2 : a1 ≠ a2) (F_hashes_a1 : Fld Z h0 a1 "com/example/byteloom/byteloom/StringNumbers" "hashes" "[I" (.ref a5)) (hc24 : p20 < (16 : Int32)) (E_a4 : Exa Z h0 a4 "[Ljava/lang/String;") (g_a4 : n0 ≤ a4) (ne_a1_a4 : a1 ≠ a4) (E_a5 : Exa Z h0 a5 "[I") (ne_a4_a5 : a4 ≠ a5) (g_a5 : n0 ≤ a5) (F_numbers_a1 : Fld Z h0 a1 "com/example/byteloom/byteloom/StringNumbers" "numbers" "[I" (.ref a6)) (ne_a1_a5 : a1 ≠ a5) (E_a6 : Exa Z h0 a6 "[I") (ne_a2_a6 : a2 ≠ a6) (ne_a4_a6 : a4 ≠ a6) (ne_a5_a6 : a5 ≠ a6) (g_a6 : n0 ≤ a6) (F_taken_a1 : Fld Z h0 a1 "com/example/byteloom/byteloom/StringNumbers" "taken" "[I" (.ref a7)) (ne_a1_a6 : a1 ≠ a6) (F_hashed_a1 : Fld Z h0 a1 "com/example/byteloom/byteloom/StringNumbers" "hashed" "Ljava/util/Map;" .null) (g_a1 : n0 ≤ a1) (E_a7 : Exa Z h0 a7 "[I") (ne_a2_a7 : a2 ≠ a7) (ne_a4_a7 : a4 ≠ a7) (ne_a5_a7 : a5 ≠ a7) (ne_a6_a7 : a6 ≠ a7) (ne_a1_a7 : a1 ≠ a7) (g_a7 : n0 ≤ a7) :
    MetFree l y17 (head1 (Jvm.Cond.code y17 prog_52_method_2_code 6 (some .int) :: ws) ({ frames := 4, cells := 0, slots := 0, locals := 66 } : Room)) (fun a U => a = #[(.ref a1), (.ref a2), (.int p3)] ∧ Z.Warmed39 U.vm ∧ U.heap = h0) (fun _ _ _ _ _ => True) (fun _ U o U' => ∃ v L, o = .returned v ∧ Q37 Z cs_v a1 a2 p3 a4 a5 a6 a7 κ T us jj k_a4 f_a4 k_a5 f_a5 k_a6 f_a6 k_a7 f_a7 p20 h0 n0 v U'.heap L ∧ FrameEnd U o U' L ({ frames := 4, cells := 0, slots := 0, locals := 66 } : Room).cells ({ frames := 4, cells := 0, slots := 0, locals := 66 } : Room).slots) := by
  refine MetFree.of_bodySF (plainFor_of_name pn_8) hisR ?_
  intro p e s m args below meth c s₁ Bd hml0 hP hK
  obtain ⟨rfl, hZ, hh⟩ := hP
  have hx := Bd.exec
  have hby := Bd.bytes
  have hml : c.maxLocals = 6 := hml0
  have hown : s.vm.findClass "com/example/byteloom/byteloom/StringNumbers" = some m.cls := findClass_of_methodNamed Bd.named
  have hnm := (name_of_methodNamed Bd.named Bd.method).1
  have X0 : Stand p l e ({ frames := 4, cells := 0, slots := 0, locals := 66 } : Room) s m #[(.ref a1), (.ref a2), (.int p3)] below meth c s₁ [] 0 0 := Stand.of_body Bd
  have e0 : s₁.heap = h0 := by rw [← hh, Bd.state]; rfl
  have N0 := Fr.nil n0
  obtain ⟨cq1, kq1, q1a, q1b, q1c⟩ := isOf hZ e0 E_a2
  obtain ⟨_, _, ⟨T1, L1, k1, n1⟩, -, X1, ⟨Lc1, hQ1, l1, y1, z1⟩, st1⟩ := X0.virtualBack hx (y := y12) (z := y12) hown (mvT hZ (wq hw 53 rfl)) (mvT hZ (wq hw 54 rfl)) (notFace_of_selects (args := #[]) (mvT hZ (wq hw 56 rfl))) (mvT hZ (wq hw 56 rfl)) (mvT hZ (wq hw 55 rfl)) (by decide) (backOf (W := 0) (rmHASH l Z a0 hw [] cs_v hp a2 (κ a2) h0 n0 O0 g_a2 K_a2) hZ (wq hw 57 rfl) (wq hw 6 rfl) (by decide) (by decide)) q1a q1c (g := (mkF m 1 #[.val (.ref a1), .val (.ref a2), .val (.int p3), .unset, .unset, .unset] [(.ref a2)])) rfl (by rw [hml]; rfl) (Steps.refl _) (argsL := []) (rest := []) (lenOf pd_15 rfl) rfl (by show 2 * 0 + _ ≤ _; exact Nat.le_of_eq rfl) (hb hby d8_1) (fun _ _ => ⟨rfl, e0, (by decide : 0 + 0 ≤ _), (by decide : 0 + 0 ≤ _)⟩)
  dsimp only [Pt.U, Pt.locs, Pt.cells, Pt.slots] at X1 l1 y1 z1 st1 hQ1
  subst l1 y1 z1
  obtain ⟨rfl, Nq1, Kq1, fq1_0⟩ := hQ1
  have N1 := Fr.app N0 Nq1
  have O1 := O0.keep Kq1 (allS g_a2 all0)
  have K1 : Keep h0 T1.heap [a2, a4, a5, a6, a1, a7] := (Keep.refl h0 [a2, a4, a5, a6, a1, a7]).trans Kq1 (allS (Or.inl (ma 0 rfl)) all0)
  have hKt : ∀ j a n, T j = some (a, n) → StrK Z T1.heap a (κ a) := fun j a n q => StrK.all Kq1 fq1_0 (fun x hx => nomatch hx) E_a2 a (hKs j a n q)
  obtain ⟨T2, L2, j2, X2, e2, N2, hj2, hP2, hR2⟩ := own_look l Z a0 hw cs_v hp κ T a1 a2 a4 a5 p3 (hvL (κ a2)) k_a4 k_a5 f_a4 f_a5 T1.heap n0 O1 (G_a4.keep Kq1 (ninS (Ne.symm ne_a2_a4) nin0)) (G_a5.keep Kq1 (ninS (Ne.symm ne_a2_a5) nin0)) (F_strings_a1.keep Kq1 (ninS ne_a1_a2 nin0)) (F_hashes_a1.keep Kq1 (ninS ne_a1_a2 nin0)) fq1_0 hS hH hKt rfl hU hl hx hZ hby hml hown (((hvL (κ a2)) ^^^ (((hvL (κ a2)).toUInt32 >>> ((16 : Int32) &&& 31).toUInt32).toInt32)) &&& (31 : Int32)) (own_hm _) T1 _ X1 rfl N1
  have hje2 : j2 = jj := Path.det hP2 hR2.stop hPj (Or.inl hTj)
  rw [hje2] at hj2 hR2
  have st2 := hR2.none hTj
  obtain ⟨T3, X3, e3, st3⟩ := getF X2 hx hZ hown (host := "") (Or.inl (wq hw 70 rfl)) Via.refl e2 (F_listed_a1.keep Kq1 (ninS ne_a1_a2 nin0)) (g := (mkF m 86 #[.val (.ref a1), .val (.ref a2), .val (.int p3), .val (.int (hvL (κ a2))), .val (.int jj), .val .null] [(.ref a1)])) rfl rfl (hb hby d8_86)
  obtain ⟨T4, X4, e4, st4⟩ := getF X3 hx hZ hown (host := "") (Or.inl (wq hw 39 rfl)) Via.refl e3 (F_strings_a1.keep Kq1 (ninS ne_a1_a2 nin0)) (g := (mkF m 95 #[.val (.ref a1), .val (.ref a2), .val (.int p3), .val (.int (hvL (κ a2))), .val (.int jj), .val .null] [(.ref a1)])) rfl rfl (hb hby d8_95)
  obtain ⟨hs5, vs5, dv5, ⟨cl5, Ar5, q5, S5, Nn5, H5, G5⟩, U5⟩ := id (G_a4.keep Kq1 (ninS (Ne.symm ne_a2_a4) nin0))
  have hin5 : ¬ (jj < 0 ∨ cl5.slots.size ≤ (jj).toNatClampNeg) := inb_of S5 (own_bnd hj2)
  obtain ⟨T6, h6, X6, e6, W6, st6⟩ := stR X4 hx hZ e4 Ar5 (j := jj) hin5 rfl (Sto.ofV Ar5 q5 Ov (Ins.self (E_a2.keep Kq1))) (g := (mkF m 101 #[.val (.ref a1), .val (.ref a2), .val (.int p3), .val (.int (hvL (κ a2))), .val (.int jj), .val .null] [(.ref a2), (.int jj), (.ref a4)])) rfl rfl (hb hby d8_101)
  have N6 := Fr.snoc X6 N2 g_a4
  have K6 : Keep h0 h6 [a2, a4, a5, a6, a1, a7] := K1.wr W6 (Or.inl (ma 1 rfl))
  have G_a4_6 : Arf Z h6 a4 k_a4 (.object "java/lang/String") (32 : Int32) (upF f_a4 jj (.ref a2)) := Arf.push U5 (Arh.push Ar5 q5 S5 Nn5 H5 G5 rfl W6 hin5)
  have f_7 := ((F_hashes_a1.keep Kq1 (ninS ne_a1_a2 nin0)).other W6 (Or.inl ne_a1_a4))
  obtain ⟨T8, X8, e8, st8⟩ := getF X6 hx hZ hown (host := "") (Or.inl (wq hw 42 rfl)) Via.refl e6 f_7 (g := (mkF m 103 #[.val (.ref a1), .val (.ref a2), .val (.int p3), .val (.int (hvL (κ a2))), .val (.int jj), .val .null] [(.ref a1)])) rfl rfl (hb hby d8_103)
  have f_9 := ((G_a5.keep Kq1 (ninS (Ne.symm ne_a2_a5) nin0)).other W6 (Ne.symm ne_a4_a5))
  obtain ⟨hs10, vs10, dv10, ⟨cl10, Ar10, q10, S10, Nn10, H10, G10⟩, U10⟩ := id f_9
  have hin10 : ¬ (jj < 0 ∨ cl10.slots.size ≤ (jj).toNatClampNeg) := inb_of S10 (own_bnd hj2)
  obtain ⟨T11, h11, X11, e11, W11, st11⟩ := stI X8 hx hZ e8 Ar10 (j := jj) hin10 (g := (mkF m 109 #[.val (.ref a1), .val (.ref a2), .val (.int p3), .val (.int (hvL (κ a2))), .val (.int jj), .val .null] [(.int (hvL (κ a2))), (.int jj), (.ref a5)])) rfl rfl (hb hby d8_109)
  have N11 := Fr.snoc X11 N6 g_a5
  have K11 : Keep h0 h11 [a2, a4, a5, a6, a1, a7] := K6.wr W11 (Or.inl (ma 2 rfl))
  have G_a5_11 : Arf Z h11 a5 k_a5 .int (32 : Int32) (upF f_a5 jj (.int (hvL (κ a2)))) := Arf.push U10 (Arh.push Ar10 q10 S10 Nn10 H10 G10 rfl W11 hin10)
  have f_12 := (((F_numbers_a1.keep Kq1 (ninS ne_a1_a2 nin0)).other W6 (Or.inl ne_a1_a4)).other W11 (Or.inl ne_a1_a5))
  obtain ⟨T13, X13, e13, st13⟩ := getF X11 hx hZ hown (host := "") (Or.inl (wq hw 44 rfl)) Via.refl e11 f_12 (g := (mkF m 111 #[.val (.ref a1), .val (.ref a2), .val (.int p3), .val (.int (hvL (κ a2))), .val (.int jj), .val .null] [(.ref a1)])) rfl rfl (hb hby d8_111)
  have f_14 := (((G_a6.keep Kq1 (ninS (Ne.symm ne_a2_a6) nin0)).other W6 (Ne.symm ne_a4_a6)).other W11 (Ne.symm ne_a5_a6))
  obtain ⟨hs15, vs15, dv15, ⟨cl15, Ar15, q15, S15, Nn15, H15, G15⟩, U15⟩ := id f_14
  have hin15 : ¬ (jj < 0 ∨ cl15.slots.size ≤ (jj).toNatClampNeg) := inb_of S15 (own_bnd hj2)
  obtain ⟨T16, h16, X16, e16, W16, st16⟩ := stI X13 hx hZ e13 Ar15 (j := jj) hin15 (g := (mkF m 117 #[.val (.ref a1), .val (.ref a2), .val (.int p3), .val (.int (hvL (κ a2))), .val (.int jj), .val .null] [(.int p3), (.int jj), (.ref a6)])) rfl rfl (hb hby d8_117)
  have N16 := Fr.snoc X16 N11 g_a6
  have K16 : Keep h0 h16 [a2, a4, a5, a6, a1, a7] := K11.wr W16 (Or.inl (ma 3 rfl))
  have G_a6_16 : Arf Z h16 a6 k_a6 .int (32 : Int32) (upF f_a6 jj (.int p3)) := Arf.push U15 (Arh.push Ar15 q15 S15 Nn15 H15 G15 rfl W16 hin15)
  have f_17 := ((((F_taken_a1.keep Kq1 (ninS ne_a1_a2 nin0)).other W6 (Or.inl ne_a1_a4)).other W11 (Or.inl ne_a1_a5)).other W16 (Or.inl ne_a1_a6))
  obtain ⟨T18, X18, e18, st18⟩ := getF X16 hx hZ hown (host := "") (Or.inl (wq hw 46 rfl)) Via.refl e16 f_17 (g := (mkF m 119 #[.val (.ref a1), .val (.ref a2), .val (.int p3), .val (.int (hvL (κ a2))), .val (.int jj), .val .null] [(.ref a1)])) rfl rfl (hb hby d8_119)
  have f_19 := ((((F_listed_a1.keep Kq1 (ninS ne_a1_a2 nin0)).other W6 (Or.inl ne_a1_a4)).other W11 (Or.inl ne_a1_a5)).other W16 (Or.inl ne_a1_a6))
  obtain ⟨T20, X20, e20, st20⟩ := getF X18 hx hZ hown (host := "") (Or.inl (wq hw 70 rfl)) Via.refl e18 f_19 (g := (mkF m 124 #[.val (.ref a1), .val (.ref a2), .val (.int p3), .val (.int (hvL (κ a2))), .val (.int jj), .val .null] [(.ref a1), (.ref a1), (.ref a7)])) rfl rfl (hb hby d8_124)
  obtain ⟨T21, h21, X21, e21, W21, st21⟩ := putF X20 hx hZ hown (host := "") (Or.inl (wq hw 70 rfl)) Via.refl e20 f_19 ((((E_a1.keep Kq1).wr W6).wr W11).wr W16) (Or.inl (wq hw 71 rfl)) (wq hw 31 rfl) (ty := .int) (by decide) rfl rfl (g := (mkF m 130 #[.val (.ref a1), .val (.ref a2), .val (.int p3), .val (.int (hvL (κ a2))), .val (.int jj), .val .null] [(.int (p20 + (1 : Int32))), (.ref a1), (.int p20), (.ref a7)])) rfl rfl (hb hby d8_130)
  have N21 := Fr.snoc X21 N16 g_a1
  have K21 : Keep h0 h21 [a2, a4, a5, a6, a1, a7] := K16.wr W21 (Or.inl (ma 4 rfl))
  have Fw21 := f_19.same W21
  have f_22 := (((((G_a7.keep Kq1 (ninS (Ne.symm ne_a2_a7) nin0)).other W6 (Ne.symm ne_a4_a7)).other W11 (Ne.symm ne_a5_a7)).other W16 (Ne.symm ne_a6_a7)).other W21 (Ne.symm ne_a1_a7))
  obtain ⟨hs23, vs23, dv23, ⟨cl23, Ar23, q23, S23, Nn23, H23, G23⟩, U23⟩ := id f_22
  have hin23 : ¬ (p20 < 0 ∨ cl23.slots.size ≤ (p20).toNatClampNeg) := inb_of S23 hbm
  obtain ⟨T24, h24, X24, e24, W24, st24⟩ := stI X21 hx hZ e21 Ar23 (j := p20) hin23 (g := (mkF m 135 #[.val (.ref a1), .val (.ref a2), .val (.int p3), .val (.int (hvL (κ a2))), .val (.int jj), .val .null] [(.int jj), (.int p20), (.ref a7)])) rfl rfl (hb hby d8_135)
  have N24 := Fr.snoc X24 N21 g_a7
  have K24 : Keep h0 h24 [a2, a4, a5, a6, a1, a7] := K21.wr W24 (Or.inl (ma 5 rfl))
  have G_a7_24 : Arf Z h24 a7 k_a7 .int (16 : Int32) (upF f_a7 p20 (.int jj)) := Arf.push U23 (Arh.push Ar23 q23 S23 Nn23 H23 G23 rfl W24 hin23)
  have f_25 := (((((fq1_0.wrn W6 (E_a4.keep Kq1) (by decide) (by decide)).wrn W11 ((E_a5.keep Kq1).wr W6) (by decide) (by decide)).wrn W16 (((E_a6.keep Kq1).wr W6).wr W11) (by decide) (by decide)).wrn W21 ((((E_a1.keep Kq1).wr W6).wr W11).wr W16) (by decide) (by decide)).wrn W24 (((((E_a7.keep Kq1).wr W6).wr W11).wr W16).wr W21) (by decide) (by decide))
  have f_26 := ((((G_a4_6.other W11 ne_a4_a5).other W16 ne_a4_a6).other W21 (Ne.symm ne_a1_a4)).other W24 ne_a4_a7)
  have f_27 := (((G_a5_11.other W16 ne_a5_a6).other W21 (Ne.symm ne_a1_a5)).other W24 ne_a5_a7)
  have f_28 := ((((((F_hashed_a1.keep Kq1 (ninS ne_a1_a2 nin0)).other W6 (Or.inl ne_a1_a4)).other W11 (Or.inl ne_a1_a5)).other W16 (Or.inl ne_a1_a6)).other W21 (Or.inr (sn12 hw))).other W24 (Or.inl ne_a1_a7))
  have f_29 := ((((f_7.other W11 (Or.inl ne_a1_a5)).other W16 (Or.inl ne_a1_a6)).other W21 (Or.inr (sn13 hw))).other W24 (Or.inl ne_a1_a7))
  have f_30 := (((f_12.other W16 (Or.inl ne_a1_a6)).other W21 (Or.inr (sn14 hw))).other W24 (Or.inl ne_a1_a7))
  have f_31 := ((((((F_strings_a1.keep Kq1 (ninS ne_a1_a2 nin0)).other W6 (Or.inl ne_a1_a4)).other W11 (Or.inl ne_a1_a5)).other W16 (Or.inl ne_a1_a6)).other W21 (Or.inr (sn15 hw))).other W24 (Or.inl ne_a1_a7))
  have f_32 := ((f_17.other W21 (Or.inr (sn16 hw))).other W24 (Or.inl ne_a1_a7))
  obtain ⟨fs, hr, hrun, hended, hW, hsame⟩ := X24.leave (v := some (.int (-1 : Int32))) (fun h => by rw [Bd.returns] at h; cases h)
  refine ⟨_, _, castTop (ef_8_0 m a1 a2 p3) ?_, hrun, hended, _, _, rfl, ?_, ⟨_, rfl⟩, hW, hsame.mono (by decide) (by decide)⟩
  · show Sp p e below s₁ (mkF m 0 #[.val (.ref a1), .val (.ref a2), .val (.int p3), .unset, .unset, .unset] []) _
    refine XS.aloadN X0.here hx rfl (hb hby d8_0) rfl rfl ?_
    show Sp p e below s₁ (mkF m 1 #[.val (.ref a1), .val (.ref a2), .val (.int p3), .unset, .unset, .unset] [(.ref a2)]) _
    refine st1.trans ?_
    show Sp p e below T1 (mkF m 4 #[.val (.ref a1), .val (.ref a2), .val (.int p3), .unset, .unset, .unset] [(.int (hvL (κ a2)))]) _
    refine XS.istoreN X1.here hx rfl (hb hby d8_4) rfl (l' := #[.val (.ref a1), .val (.ref a2), .val (.int p3), .val (.int (hvL (κ a2))), .unset, .unset]) rfl ?_
    refine XS.iloadN X1.here hx rfl (hb hby d8_5) rfl ?_
    refine XS.iloadN X1.here hx rfl (hb hby d8_6) rfl ?_
    refine XS.bipush X1.here hx rfl (hb hby d8_7) ?_
    refine XS.iushr X1.here hx rfl (hb hby d8_9) rfl ?_
    show Sp p e below T1 (mkF m 10 #[.val (.ref a1), .val (.ref a2), .val (.int p3), .val (.int (hvL (κ a2))), .unset, .unset] [(.int (((hvL (κ a2)).toUInt32 >>> ((16 : Int32) &&& 31).toUInt32).toInt32)), (.int (hvL (κ a2)))]) _
    refine XS.ixor X1.here hx rfl (hb hby d8_10) rfl ?_
    refine XS.bipush X1.here hx rfl (hb hby d8_11) ?_
    refine XS.iand X1.here hx rfl (hb hby d8_13) rfl ?_
    refine XS.istore X1.here hx rfl (hb hby d8_14) rfl (l' := #[.val (.ref a1), .val (.ref a2), .val (.int p3), .val (.int (hvL (κ a2))), .val (.int (((hvL (κ a2)) ^^^ (((hvL (κ a2)).toUInt32 >>> ((16 : Int32) &&& 31).toUInt32).toInt32)) &&& (31 : Int32))), .unset]) rfl ?_
    refine st2 _ ?_
    show Sp p e below T2 (mkF m 85 #[.val (.ref a1), .val (.ref a2), .val (.int p3), .val (.int (hvL (κ a2))), .val (.int jj), .val .null] []) _
    refine XS.aloadN X2.here hx rfl (hb hby d8_85) rfl rfl ?_
    show Sp p e below T2 (mkF m 86 #[.val (.ref a1), .val (.ref a2), .val (.int p3), .val (.int (hvL (κ a2))), .val (.int jj), .val .null] [(.ref a1)]) _
    refine st3 _ ?_
    show Sp p e below T3 (mkF m 89 #[.val (.ref a1), .val (.ref a2), .val (.int p3), .val (.int (hvL (κ a2))), .val (.int jj), .val .null] [(.int p20)]) _
    refine XS.bipush X3.here hx rfl (hb hby d8_89) ?_
    refine XS.icmpNo X3.here hx rfl (hb hby d8_91) rfl (tlt hc24).2.1 ?_
    refine XS.aloadN X3.here hx rfl (hb hby d8_94) rfl rfl ?_
    show Sp p e below T3 (mkF m 95 #[.val (.ref a1), .val (.ref a2), .val (.int p3), .val (.int (hvL (κ a2))), .val (.int jj), .val .null] [(.ref a1)]) _
    refine st4 _ ?_
    show Sp p e below T4 (mkF m 98 #[.val (.ref a1), .val (.ref a2), .val (.int p3), .val (.int (hvL (κ a2))), .val (.int jj), .val .null] [(.ref a4)]) _
    refine XS.iload X4.here hx rfl (hb hby d8_98) rfl ?_
    refine XS.aloadN X4.here hx rfl (hb hby d8_100) rfl rfl ?_
    show Sp p e below T4 (mkF m 101 #[.val (.ref a1), .val (.ref a2), .val (.int p3), .val (.int (hvL (κ a2))), .val (.int jj), .val .null] [(.ref a2), (.int jj), (.ref a4)]) _
    refine st6 _ ?_
    show Sp p e below T6 (mkF m 102 #[.val (.ref a1), .val (.ref a2), .val (.int p3), .val (.int (hvL (κ a2))), .val (.int jj), .val .null] []) _
    refine XS.aloadN X6.here hx rfl (hb hby d8_102) rfl rfl ?_
    show Sp p e below T6 (mkF m 103 #[.val (.ref a1), .val (.ref a2), .val (.int p3), .val (.int (hvL (κ a2))), .val (.int jj), .val .null] [(.ref a1)]) _
    refine st8 _ ?_
    show Sp p e below T8 (mkF m 106 #[.val (.ref a1), .val (.ref a2), .val (.int p3), .val (.int (hvL (κ a2))), .val (.int jj), .val .null] [(.ref a5)]) _
    refine XS.iload X8.here hx rfl (hb hby d8_106) rfl ?_
    refine XS.iloadN X8.here hx rfl (hb hby d8_108) rfl ?_
    show Sp p e below T8 (mkF m 109 #[.val (.ref a1), .val (.ref a2), .val (.int p3), .val (.int (hvL (κ a2))), .val (.int jj), .val .null] [(.int (hvL (κ a2))), (.int jj), (.ref a5)]) _
    refine st11 _ ?_
    show Sp p e below T11 (mkF m 110 #[.val (.ref a1), .val (.ref a2), .val (.int p3), .val (.int (hvL (κ a2))), .val (.int jj), .val .null] []) _
    refine XS.aloadN X11.here hx rfl (hb hby d8_110) rfl rfl ?_
    show Sp p e below T11 (mkF m 111 #[.val (.ref a1), .val (.ref a2), .val (.int p3), .val (.int (hvL (κ a2))), .val (.int jj), .val .null] [(.ref a1)]) _
    refine st13 _ ?_
    show Sp p e below T13 (mkF m 114 #[.val (.ref a1), .val (.ref a2), .val (.int p3), .val (.int (hvL (κ a2))), .val (.int jj), .val .null] [(.ref a6)]) _
    refine XS.iload X13.here hx rfl (hb hby d8_114) rfl ?_
    refine XS.iloadN X13.here hx rfl (hb hby d8_116) rfl ?_
    show Sp p e below T13 (mkF m 117 #[.val (.ref a1), .val (.ref a2), .val (.int p3), .val (.int (hvL (κ a2))), .val (.int jj), .val .null] [(.int p3), (.int jj), (.ref a6)]) _
    refine st16 _ ?_
    show Sp p e below T16 (mkF m 118 #[.val (.ref a1), .val (.ref a2), .val (.int p3), .val (.int (hvL (κ a2))), .val (.int jj), .val .null] []) _
    refine XS.aloadN X16.here hx rfl (hb hby d8_118) rfl rfl ?_
    show Sp p e below T16 (mkF m 119 #[.val (.ref a1), .val (.ref a2), .val (.int p3), .val (.int (hvL (κ a2))), .val (.int jj), .val .null] [(.ref a1)]) _
    refine st18 _ ?_
    show Sp p e below T18 (mkF m 122 #[.val (.ref a1), .val (.ref a2), .val (.int p3), .val (.int (hvL (κ a2))), .val (.int jj), .val .null] [(.ref a7)]) _
    refine XS.aloadN X18.here hx rfl (hb hby d8_122) rfl rfl ?_
    refine XS.dup X18.here hx rfl (hb hby d8_123) rfl rfl ?_
    show Sp p e below T18 (mkF m 124 #[.val (.ref a1), .val (.ref a2), .val (.int p3), .val (.int (hvL (κ a2))), .val (.int jj), .val .null] [(.ref a1), (.ref a1), (.ref a7)]) _
    refine st20 _ ?_
    show Sp p e below T20 (mkF m 127 #[.val (.ref a1), .val (.ref a2), .val (.int p3), .val (.int (hvL (κ a2))), .val (.int jj), .val .null] [(.int p20), (.ref a1), (.ref a7)]) _
    refine XS.dupX1 X20.here hx rfl (hb hby d8_127) rfl rfl rfl ?_
    refine XS.iconst X20.here hx rfl (hb hby d8_128) ?_
    refine XS.iadd X20.here hx rfl (hb hby d8_129) rfl ?_
    show Sp p e below T20 (mkF m 130 #[.val (.ref a1), .val (.ref a2), .val (.int p3), .val (.int (hvL (κ a2))), .val (.int jj), .val .null] [(.int (p20 + (1 : Int32))), (.ref a1), (.int p20), (.ref a7)]) _
    refine st21 _ ?_
    show Sp p e below T21 (mkF m 133 #[.val (.ref a1), .val (.ref a2), .val (.int p3), .val (.int (hvL (κ a2))), .val (.int jj), .val .null] [(.int p20), (.ref a7)]) _
    refine XS.iload X21.here hx rfl (hb hby d8_133) rfl ?_
    show Sp p e below T21 (mkF m 135 #[.val (.ref a1), .val (.ref a2), .val (.int p3), .val (.int (hvL (κ a2))), .val (.int jj), .val .null] [(.int jj), (.int p20), (.ref a7)]) _
    refine st24 _ ?_
    show Sp p e below T24 (mkF m 136 #[.val (.ref a1), .val (.ref a2), .val (.int p3), .val (.int (hvL (κ a2))), .val (.int jj), .val .null] []) _
    refine XS.iconst X24.here hx rfl (hb hby d8_136) ?_
    show Sp p e below T24 (mkF m 137 #[.val (.ref a1), .val (.ref a2), .val (.int p3), .val (.int (hvL (κ a2))), .val (.int jj), .val .null] [(.int (-1 : Int32))]) _
    exact retI X24 hx Bd.returns (hb hby d8_137) hr
  · show Q37 Z cs_v a1 a2 p3 a4 a5 a6 a7 κ T us jj k_a4 f_a4 k_a5 f_a5 k_a6 f_a6 k_a7 f_a7 p20 h0 n0 _ T24.heap _
    rw [e24]
    exact ⟨rfl, N24, K24, ((((((E_a2.keep Kq1).wr W6).wr W11).wr W16).wr W21).wr W24), f_25, ((((((E_a4.keep Kq1).wr W6).wr W11).wr W16).wr W21).wr W24), f_26, ((((((E_a5.keep Kq1).wr W6).wr W11).wr W16).wr W21).wr W24), f_27, ((((((E_a6.keep Kq1).wr W6).wr W11).wr W16).wr W21).wr W24), ((G_a6_16.other W21 (Ne.symm ne_a1_a6)).other W24 ne_a6_a7), ((((((E_a1.keep Kq1).wr W6).wr W11).wr W16).wr W21).wr W24), f_28, f_29, (Fw21.other W24 (Or.inl ne_a1_a7)), f_30, f_31, f_32, ((((((E_a7.keep Kq1).wr W6).wr W11).wr W16).wr W21).wr W24), G_a7_24⟩
theorem d8_56 : decode prog_52_method_2_code 56 = .ok (.aload_n 0, 1) := by decide +kernel
theorem d8_57 : decode prog_52_method_2_code 57 = .ok (.getfield 19, 3) := by decide +kernel
theorem d8_60 : decode prog_52_method_2_code 60 = .ok (.iload 4, 2) := by decide +kernel
theorem d8_62 : decode prog_52_method_2_code 62 = .ok (.iaload, 1) := by decide +kernel
theorem d8_63 : decode prog_52_method_2_code 63 = .ok (.ireturn, 1) := by decide +kernel
def Q38 (Z : State) (cs_v : Int32) (a1 : Addr) (a2 : Addr) (p3 : Int32) (a4 : Addr) (a5 : Addr) (a6 : Addr) (a7 : Addr) (κ : Addr → List Value) (T : Tb) (us : List Int32) (jj : Int32) (k_a4 : ClassId) (f_a4 : Int32 → Value) (k_a5 : ClassId) (f_a5 : Int32 → Value) (a16 : Addr) (p17 : Int32) (k_a6 : ClassId) (f_a6 : Int32 → Value) (h0 : Heap) (n0 : Nat) (v : Option Value) (h : Heap) (L : List Loc) : Prop := v = some (.int p17) ∧ Fr n0 L ∧ Keep h0 h [a2] ∧ Exa Z h a2 "java/lang/String" ∧ StrK Z h a2 (κ a2)
theorem rm38 (l : Launch) (Z : State) (a0 : Array Value) (hw : ∀ d ∈ tables_1, d.before a0 Z = true) (ws : List Jvm.Cond) (cs_v : Int32) (hp : Perm Z cs_v) (a1 : Addr) (a2 : Addr) (p3 : Int32) (a4 : Addr) (a5 : Addr) (a6 : Addr) (a7 : Addr) (κ : Addr → List Value) (T : Tb) (us : List Int32) (jj : Int32) (k_a4 : ClassId) (f_a4 : Int32 → Value) (k_a5 : ClassId) (f_a5 : Int32 → Value) (a16 : Addr) (p17 : Int32) (k_a6 : ClassId) (f_a6 : Int32 → Value) (h0 : Heap) (n0 : Nat) (O0 : Old Z n0 h0) (K_a2 : StrK Z h0 a2 (κ a2)) (E_a2 : Exa Z h0 a2 "java/lang/String") (E_a1 : Exa Z h0 a1 "com/example/byteloom/byteloom/StringNumbers") (G_a4 : Arf Z h0 a4 k_a4 (.object "java/lang/String") (32 : Int32) f_a4) (G_a5 : Arf Z h0 a5 k_a5 .int (32 : Int32) f_a5) (hS : ∀ j : Int32, (0 ≤ j.toInt ∧ j.toInt < 32) → f_a4 j = svT (T j)) (hH : ∀ j a n, T j = some (a, n) → f_a5 j = .int (hvL (κ a))) (hKs : ∀ j a n, T j = some (a, n) → StrK Z h0 a (κ a)) (hU : ∀ j, T j ≠ none → j ∈ us) (hl : us.length ≤ 15) (hPj : Path κ T (κ a2) (hmK (κ a2)) jj) (hTj : T jj = some (a16, p17)) (hke : κ a16 = κ a2) (G_a6 : Arf Z h0 a6 k_a6 .int (32 : Int32) f_a6) (hr3 : f_a6 jj = .int p17) (g_a2 : n0 ≤ a2) (ne_a2_a4 : a2 ≠ a4) (ne_a2_a5 : a2 ≠ a5) (F_strings_a1 : Fld Z h0 a1 "com/example/byteloom/byteloom/StringNumbers" "strings" "[Ljava/lang/String;" (.ref a4)) (ne_a1_a2 : a1 ≠ a2) (F_hashes_a1 : Fld Z h0 a1 "com/example/byteloom/byteloom/StringNumbers" "hashes" "[I" (.ref a5)) (F_numbers_a1 : Fld Z h0 a1 "com/example/byteloom/byteloom/StringNumbers" "numbers" "[I" (.ref a6)) (ne_a2_a6 : a2 ≠ a6) :
    MetFree l y17 (head1 (Jvm.Cond.code y17 prog_52_method_2_code 6 (some .int) :: ws) ({ frames := 4, cells := 0, slots := 0, locals := 66 } : Room)) (fun a U => a = #[(.ref a1), (.ref a2), (.int p3)] ∧ Z.Warmed39 U.vm ∧ U.heap = h0) (fun _ _ _ _ _ => True) (fun _ U o U' => ∃ v L, o = .returned v ∧ Q38 Z cs_v a1 a2 p3 a4 a5 a6 a7 κ T us jj k_a4 f_a4 k_a5 f_a5 a16 p17 k_a6 f_a6 h0 n0 v U'.heap L ∧ FrameEnd U o U' L ({ frames := 4, cells := 0, slots := 0, locals := 66 } : Room).cells ({ frames := 4, cells := 0, slots := 0, locals := 66 } : Room).slots) := by
  refine MetFree.of_bodySF (plainFor_of_name pn_8) hisR ?_
  intro p e s m args below meth c s₁ Bd hml0 hP hK
  obtain ⟨rfl, hZ, hh⟩ := hP
  have hx := Bd.exec
  have hby := Bd.bytes
  have hml : c.maxLocals = 6 := hml0
  have hown : s.vm.findClass "com/example/byteloom/byteloom/StringNumbers" = some m.cls := findClass_of_methodNamed Bd.named
  have hnm := (name_of_methodNamed Bd.named Bd.method).1
  have X0 : Stand p l e ({ frames := 4, cells := 0, slots := 0, locals := 66 } : Room) s m #[(.ref a1), (.ref a2), (.int p3)] below meth c s₁ [] 0 0 := Stand.of_body Bd
  have e0 : s₁.heap = h0 := by rw [← hh, Bd.state]; rfl
  have N0 := Fr.nil n0
  obtain ⟨cq1, kq1, q1a, q1b, q1c⟩ := isOf hZ e0 E_a2
  obtain ⟨_, _, ⟨T1, L1, k1, n1⟩, -, X1, ⟨Lc1, hQ1, l1, y1, z1⟩, st1⟩ := X0.virtualBack hx (y := y12) (z := y12) hown (mvT hZ (wq hw 53 rfl)) (mvT hZ (wq hw 54 rfl)) (notFace_of_selects (args := #[]) (mvT hZ (wq hw 56 rfl))) (mvT hZ (wq hw 56 rfl)) (mvT hZ (wq hw 55 rfl)) (by decide) (backOf (W := 0) (rmHASH l Z a0 hw [] cs_v hp a2 (κ a2) h0 n0 O0 g_a2 K_a2) hZ (wq hw 57 rfl) (wq hw 6 rfl) (by decide) (by decide)) q1a q1c (g := (mkF m 1 #[.val (.ref a1), .val (.ref a2), .val (.int p3), .unset, .unset, .unset] [(.ref a2)])) rfl (by rw [hml]; rfl) (Steps.refl _) (argsL := []) (rest := []) (lenOf pd_15 rfl) rfl (by show 2 * 0 + _ ≤ _; exact Nat.le_of_eq rfl) (hb hby d8_1) (fun _ _ => ⟨rfl, e0, (by decide : 0 + 0 ≤ _), (by decide : 0 + 0 ≤ _)⟩)
  dsimp only [Pt.U, Pt.locs, Pt.cells, Pt.slots] at X1 l1 y1 z1 st1 hQ1
  subst l1 y1 z1
  obtain ⟨rfl, Nq1, Kq1, fq1_0⟩ := hQ1
  have N1 := Fr.app N0 Nq1
  have O1 := O0.keep Kq1 (allS g_a2 all0)
  have K1 : Keep h0 T1.heap [a2] := (Keep.refl h0 [a2]).trans Kq1 (allS (Or.inl (ma 0 rfl)) all0)
  have hKt : ∀ j a n, T j = some (a, n) → StrK Z T1.heap a (κ a) := fun j a n q => StrK.all Kq1 fq1_0 (fun x hx => nomatch hx) E_a2 a (hKs j a n q)
  obtain ⟨T2, L2, j2, X2, e2, N2, hj2, hP2, hR2⟩ := own_look l Z a0 hw cs_v hp κ T a1 a2 a4 a5 p3 (hvL (κ a2)) k_a4 k_a5 f_a4 f_a5 T1.heap n0 O1 (G_a4.keep Kq1 (ninS (Ne.symm ne_a2_a4) nin0)) (G_a5.keep Kq1 (ninS (Ne.symm ne_a2_a5) nin0)) (F_strings_a1.keep Kq1 (ninS ne_a1_a2 nin0)) (F_hashes_a1.keep Kq1 (ninS ne_a1_a2 nin0)) fq1_0 hS hH hKt rfl hU hl hx hZ hby hml hown (((hvL (κ a2)) ^^^ (((hvL (κ a2)).toUInt32 >>> ((16 : Int32) &&& 31).toUInt32).toInt32)) &&& (31 : Int32)) (own_hm _) T1 _ X1 rfl N1
  have hje2 : j2 = jj := Path.det hP2 hR2.stop hPj (Or.inr ⟨_, _, hTj, hke⟩)
  rw [hje2] at hj2 hR2
  have st2 := hR2.some hTj
  obtain ⟨T3, X3, e3, st3⟩ := getF X2 hx hZ hown (host := "") (Or.inl (wq hw 44 rfl)) Via.refl e2 (F_numbers_a1.keep Kq1 (ninS ne_a1_a2 nin0)) (g := (mkF m 57 #[.val (.ref a1), .val (.ref a2), .val (.int p3), .val (.int (hvL (κ a2))), .val (.int jj), .val (.ref a16)] [(.ref a1)])) rfl rfl (hb hby d8_57)
  obtain ⟨hs4, vs4, dv4, ⟨cl4, Ar4, -, S4, -, H4, -⟩, U4⟩ := id (G_a6.keep Kq1 (ninS (Ne.symm ne_a2_a6) nin0))
  have hin4 : ¬ (jj < 0 ∨ cl4.slots.size ≤ (jj).toNatClampNeg) := inb_of S4 (own_bnd hj2)
  have hat4 : cl4.slots[(jj).toNatClampNeg]? = some (.int p17) := atH H4 hin4 ((U4 jj (own_bnd hj2).1 (own_bnd hj2).2).trans hr3)
  obtain ⟨fs, hr, hrun, hended, hW, hsame⟩ := X3.leave (v := some (.int p17)) (fun h => by rw [Bd.returns] at h; cases h)
  refine ⟨_, _, castTop (ef_8_0 m a1 a2 p3) ?_, hrun, hended, _, _, rfl, ?_, ⟨_, rfl⟩, hW, hsame.mono (by decide) (by decide)⟩
  · show Sp p e below s₁ (mkF m 0 #[.val (.ref a1), .val (.ref a2), .val (.int p3), .unset, .unset, .unset] []) _
    refine XS.aloadN X0.here hx rfl (hb hby d8_0) rfl rfl ?_
    show Sp p e below s₁ (mkF m 1 #[.val (.ref a1), .val (.ref a2), .val (.int p3), .unset, .unset, .unset] [(.ref a2)]) _
    refine st1.trans ?_
    show Sp p e below T1 (mkF m 4 #[.val (.ref a1), .val (.ref a2), .val (.int p3), .unset, .unset, .unset] [(.int (hvL (κ a2)))]) _
    refine XS.istoreN X1.here hx rfl (hb hby d8_4) rfl (l' := #[.val (.ref a1), .val (.ref a2), .val (.int p3), .val (.int (hvL (κ a2))), .unset, .unset]) rfl ?_
    refine XS.iloadN X1.here hx rfl (hb hby d8_5) rfl ?_
    refine XS.iloadN X1.here hx rfl (hb hby d8_6) rfl ?_
    refine XS.bipush X1.here hx rfl (hb hby d8_7) ?_
    refine XS.iushr X1.here hx rfl (hb hby d8_9) rfl ?_
    show Sp p e below T1 (mkF m 10 #[.val (.ref a1), .val (.ref a2), .val (.int p3), .val (.int (hvL (κ a2))), .unset, .unset] [(.int (((hvL (κ a2)).toUInt32 >>> ((16 : Int32) &&& 31).toUInt32).toInt32)), (.int (hvL (κ a2)))]) _
    refine XS.ixor X1.here hx rfl (hb hby d8_10) rfl ?_
    refine XS.bipush X1.here hx rfl (hb hby d8_11) ?_
    refine XS.iand X1.here hx rfl (hb hby d8_13) rfl ?_
    refine XS.istore X1.here hx rfl (hb hby d8_14) rfl (l' := #[.val (.ref a1), .val (.ref a2), .val (.int p3), .val (.int (hvL (κ a2))), .val (.int (((hvL (κ a2)) ^^^ (((hvL (κ a2)).toUInt32 >>> ((16 : Int32) &&& 31).toUInt32).toInt32)) &&& (31 : Int32))), .unset]) rfl ?_
    refine st2 _ ?_
    show Sp p e below T2 (mkF m 56 #[.val (.ref a1), .val (.ref a2), .val (.int p3), .val (.int (hvL (κ a2))), .val (.int jj), .val (.ref a16)] []) _
    refine XS.aloadN X2.here hx rfl (hb hby d8_56) rfl rfl ?_
    show Sp p e below T2 (mkF m 57 #[.val (.ref a1), .val (.ref a2), .val (.int p3), .val (.int (hvL (κ a2))), .val (.int jj), .val (.ref a16)] [(.ref a1)]) _
    refine st3 _ ?_
    show Sp p e below T3 (mkF m 60 #[.val (.ref a1), .val (.ref a2), .val (.int p3), .val (.int (hvL (κ a2))), .val (.int jj), .val (.ref a16)] [(.ref a6)]) _
    refine XS.iload X3.here hx rfl (hb hby d8_60) rfl ?_
    show Sp p e below T3 (mkF m 62 #[.val (.ref a1), .val (.ref a2), .val (.int p3), .val (.int (hvL (κ a2))), .val (.int jj), .val (.ref a16)] [(.int jj), (.ref a6)]) _
    refine X3.iaload hx (j := jj) (v := (.int p17)) (by rw [e3]; exact Ar4.1) (State.isArrayOf_alike hZ.alike Ar4.2.1) Ar4.2.2 hin4 hat4 (g := (mkF m 62 #[.val (.ref a1), .val (.ref a2), .val (.int p3), .val (.int (hvL (κ a2))), .val (.int jj), .val (.ref a16)] [(.int jj), (.ref a6)])) rfl rfl (hb hby d8_62) _ ?_
    show Sp p e below T3 (mkF m 63 #[.val (.ref a1), .val (.ref a2), .val (.int p3), .val (.int (hvL (κ a2))), .val (.int jj), .val (.ref a16)] [(.int p17)]) _
    exact retI X3 hx Bd.returns (hb hby d8_63) hr
  · show Q38 Z cs_v a1 a2 p3 a4 a5 a6 a7 κ T us jj k_a4 f_a4 k_a5 f_a5 a16 p17 k_a6 f_a6 h0 n0 _ T3.heap _
    rw [e3]
    exact ⟨rfl, N2, K1, (E_a2.keep Kq1), fq1_0⟩
def TabOk (κ : Addr → List Value) (T : Tb) (us : List Int32) (f1 f2 f3 f4 : Int32 → Value) : Prop :=
  (∀ j : Int32, (0 ≤ j.toInt ∧ j.toInt < 32) → f1 j = svT (T j)) ∧ (∀ j a n, T j = some (a, n) → f2 j = .int (hvL (κ a))) ∧ (∀ j a n, T j = some (a, n) → f3 j = .int n) ∧ (∀ j, T j ≠ none → j ∈ us) ∧ (∀ j ∈ us, 0 ≤ j.toInt ∧ j.toInt < 32) ∧ ∀ i x, us[i]? = some x → f4 (Int32.ofNat i) = .int x
theorem own_ofn {n : Nat} (h : n ≤ 16) : (Int32.ofNat n).toInt = n := (by decide : ∀ n : Fin 17, (Int32.ofNat n.1).toInt = n.1) ⟨n, by omega⟩
theorem own_ofs {n : Nat} (h : n ≤ 15) : Int32.ofNat n + (1 : Int32) = Int32.ofNat (n + 1) := (by decide : ∀ n : Fin 16, Int32.ofNat n.1 + (1 : Int32) = Int32.ofNat (n.1 + 1)) ⟨n, by omega⟩
theorem TabOk.put {κ : Addr → List Value} {T : Tb} {us : List Int32} {f1 f2 f3 f4 : Int32 → Value} (O : TabOk κ T us f1 f2 f3 f4) {jj : Int32} (hj : 0 ≤ jj.toInt ∧ jj.toInt < 32) (hl : us.length ≤ 15) (b : Addr) (num : Int32) :
    TabOk κ (upT T jj (some (b, num))) (us ++ [jj]) (upF f1 jj (.ref b)) (upF f2 jj (.int (hvL (κ b)))) (upF f3 jj (.int num)) (upF f4 (Int32.ofNat us.length) (.int jj)) := by
  obtain ⟨hS, hH, hN, hU, hR, hI⟩ := O
  refine ⟨fun j h => ?_, fun j a n h => ?_, fun j a n h => ?_, fun j h => ?_, fun j h => ?_, fun i x h => ?_⟩
  · by_cases e : j = jj
    · rw [upF, upT, if_pos e, if_pos e]; rfl
    · rw [upF, upT, if_neg e, if_neg e]; exact hS j h
  · by_cases e : j = jj
    · rw [upT, if_pos e] at h; cases h; rw [upF, if_pos e]
    · rw [upT, if_neg e] at h; rw [upF, if_neg e]; exact hH j a n h
  · by_cases e : j = jj
    · rw [upT, if_pos e] at h; cases h; rw [upF, if_pos e]
    · rw [upT, if_neg e] at h; rw [upF, if_neg e]; exact hN j a n h
  · by_cases e : j = jj
    · rw [e]; exact List.mem_append_right _ (List.mem_singleton.mpr rfl)
    · rw [upT, if_neg e] at h; exact List.mem_append_left _ (hU j h)
  · rcases List.mem_append.mp h with h | h
    · exact hR j h
    · rw [List.mem_singleton.mp h]; exact hj
  · by_cases e : i < us.length
    · rw [List.getElem?_append_left e] at h
      have ne : ¬ Int32.ofNat i = Int32.ofNat us.length := fun q => by
        have := congrArg Int32.toInt q
        rw [own_ofn (by omega), own_ofn (by omega)] at this; omega
      rw [upF, if_neg ne]; exact hI i x h
    · have hi : i < (us ++ [jj]).length := (List.getElem?_eq_some_iff.mp h).1
      rw [List.length_append, List.length_singleton] at hi
      have e2 : i = us.length := by omega
      subst e2
      rw [List.getElem?_append_right (Nat.le_refl _), Nat.sub_self] at h
      cases h; rw [upF, if_pos rfl]
def Wd (Z : State) (κ : Addr → List Value) (h : Heap) (n0 : Nat) (t : Addr) (T : Tb) (us : List Int32) : Prop := ∃ (A1 A2 A3 A4 : Addr) (k1 k2 k3 k4 : ClassId) (f1 f2 f3 f4 : Int32 → Value), Exa Z h t "com/example/byteloom/byteloom/StringNumbers" ∧ Fld Z h t "com/example/byteloom/byteloom/StringNumbers" "strings" "[Ljava/lang/String;" (.ref A1) ∧ Fld Z h t "com/example/byteloom/byteloom/StringNumbers" "hashes" "[I" (.ref A2) ∧ Fld Z h t "com/example/byteloom/byteloom/StringNumbers" "numbers" "[I" (.ref A3) ∧ Fld Z h t "com/example/byteloom/byteloom/StringNumbers" "taken" "[I" (.ref A4) ∧ Fld Z h t "com/example/byteloom/byteloom/StringNumbers" "listed" "I" (.int (Int32.ofNat us.length)) ∧ Fld Z h t "com/example/byteloom/byteloom/StringNumbers" "hashed" "Ljava/util/Map;" .null ∧ Exa Z h A1 "[Ljava/lang/String;" ∧ Exa Z h A2 "[I" ∧ Exa Z h A3 "[I" ∧ Exa Z h A4 "[I" ∧ A2 ≠ A3 ∧ A2 ≠ A4 ∧ A3 ≠ A4 ∧ n0 ≤ t ∧ n0 ≤ A1 ∧ n0 ≤ A2 ∧ n0 ≤ A3 ∧ n0 ≤ A4 ∧ Arf Z h A1 k1 (.object "java/lang/String") (32 : Int32) f1 ∧ Ovr Z k1 "java/lang/String" ∧ Arf Z h A2 k2 .int (32 : Int32) f2 ∧ Arf Z h A3 k3 .int (32 : Int32) f3 ∧ Arf Z h A4 k4 .int (16 : Int32) f4 ∧ TabOk κ T us f1 f2 f3 f4 ∧ ∀ j a n, T j = some (a, n) → StrK Z h a (κ a)
theorem Wd.keep {Z : State} {κ : Addr → List Value} {h h' : Heap} {n0 : Nat} {t b : Addr} {T : Tb} {us : List Int32} (W : Wd Z κ h n0 t T us) (K : Keep h h' [b]) (E : Exa Z h b "java/lang/String") (S : StrK Z h' b (κ b)) : Wd Z κ h' n0 t T us := by
  obtain ⟨A1, A2, A3, A4, k1, k2, k3, k4, f1, f2, f3, f4, E_t, F1, F2, F3, F4, F5, F6, E_A1, E_A2, E_A3, E_A4, n23, n24, n34, g_t, g1, g2, g3, g4, G1, Ov, G2, G3, G4, TO, hKs⟩ := W
  have nt : t ∉ [b] := ninS (E_t.ne E (by decide)) nin0
  have a1 : A1 ∉ [b] := ninS (E_A1.ne E (by decide)) nin0
  have a2 : A2 ∉ [b] := ninS (E_A2.ne E (by decide)) nin0
  have a3 : A3 ∉ [b] := ninS (E_A3.ne E (by decide)) nin0
  have a4 : A4 ∉ [b] := ninS (E_A4.ne E (by decide)) nin0
  exact ⟨A1, A2, A3, A4, k1, k2, k3, k4, f1, f2, f3, f4, E_t.keep K, F1.keep K nt, F2.keep K nt, F3.keep K nt, F4.keep K nt, F5.keep K nt, F6.keep K nt, E_A1.keep K, E_A2.keep K, E_A3.keep K, E_A4.keep K, n23, n24, n34, g_t, g1, g2, g3, g4, G1.keep K a1, Ov, G2.keep K a2, G3.keep K a3, G4.keep K a4, TO, fun j a n q => StrK.all K S (fun x hx => nomatch hx) E a (hKs j a n q)⟩
def QPUT (Z : State) (κ : Addr → List Value) (t b : Addr) (num : Int32) (T : Tb) (us : List Int32) (h0 : Heap) (n0 : Nat) (v : Option Value) (h : Heap) (L : List Loc) : Prop := ∃ (r : Int32) (T' : Tb) (us' : List Int32) (wl : List Addr), v = some (.int r) ∧ Fr n0 L ∧ Keep h0 h wl ∧ (∀ x ∈ wl, n0 ≤ x) ∧ PutT κ T b num r T' ∧ Wd Z κ h n0 t T' us' ∧ us'.length ≤ us.length + 1 ∧ ∀ c, StrK Z h0 c (κ c) → StrK Z h c (κ c)
set_option maxRecDepth 65536 in
set_option maxHeartbeats 4000000 in
theorem rmPUT (l : Launch) (Z : State) (a0 : Array Value) (hw : ∀ d ∈ tables_1, d.before a0 Z = true) (ws : List Jvm.Cond) (cs_v : Int32) (hp : Perm Z cs_v) (κ : Addr → List Value) (t b : Addr) (num : Int32) (T : Tb) (us : List Int32) (h0 : Heap) (n0 : Nat) (O0 : Old Z n0 h0) (g_b : n0 ≤ b) (K_b : StrK Z h0 b (κ b)) (W : Wd Z κ h0 n0 t T us) (hl : us.length ≤ 15) :
    MetFree l y17 (head1 (Jvm.Cond.code y17 prog_52_method_2_code 6 (some .int) :: ws) ({ frames := 4, cells := 0, slots := 0, locals := 66 } : Room)) (fun as' U => as' = #[(.ref t), (.ref b), (.int num)] ∧ Z.Warmed39 U.vm ∧ U.heap = h0) (fun _ _ _ _ _ => True) (fun _ U o U' => ∃ v L, o = .returned v ∧ QPUT Z κ t b num T us h0 n0 v U'.heap L ∧ FrameEnd U o U' L ({ frames := 4, cells := 0, slots := 0, locals := 66 } : Room).cells ({ frames := 4, cells := 0, slots := 0, locals := 66 } : Room).slots) := by
  obtain ⟨A1, A2, A3, A4, k1, k2, k3, k4, f1, f2, f3, f4, E_t, F_strings, F_hashes, F_numbers, F_taken, F_listed, F_hashed, E_A1, E_A2, E_A3, E_A4, ne_A2_A3, ne_A2_A4, ne_A3_A4, g_t, g_A1, g_A2, g_A3, g_A4, G_A1, Ov, G_A2, G_A3, G_A4, TO, hKs⟩ := id W
  obtain ⟨hS, hH, hN, hU, hR, hI⟩ := id TO
  have E_b := K_b.exa
  have ne_A1_A2 : A1 ≠ A2 := E_A1.ne E_A2 (by decide)
  have ne_A1_A3 : A1 ≠ A3 := E_A1.ne E_A3 (by decide)
  have ne_A1_A4 : A1 ≠ A4 := E_A1.ne E_A4 (by decide)
  have ne_A1_b : A1 ≠ b := E_A1.ne E_b (by decide)
  have ne_A2_b : A2 ≠ b := E_A2.ne E_b (by decide)
  have ne_A3_b : A3 ≠ b := E_A3.ne E_b (by decide)
  have ne_A4_b : A4 ≠ b := E_A4.ne E_b (by decide)
  have ne_A1_t : A1 ≠ t := E_A1.ne E_t (by decide)
  have ne_A2_t : A2 ≠ t := E_A2.ne E_t (by decide)
  have ne_A3_t : A3 ≠ t := E_A3.ne E_t (by decide)
  have ne_A4_t : A4 ≠ t := E_A4.ne E_t (by decide)
  have ne_b_t : b ≠ t := E_b.ne E_t (by decide)
  obtain ⟨mm, hmm⟩ : ∃ mm, mm = Int32.ofNat us.length := ⟨_, rfl⟩
  rw [← hmm] at F_listed
  have hmi : mm.toInt = us.length := by rw [hmm]; exact own_ofn (by omega)
  have hm16 : mm < (16 : Int32) := own_lti (n := 16) rfl (by omega)
  have hbm : ¬ mm < 0 ∧ mm < (16 : Int32) := ⟨own_nlti (n := 0) rfl (by omega), hm16⟩
  obtain ⟨jj, hj, hPj, hst⟩ := own_stopE (κ := κ) (T := T) (k := κ b) 15 (hmK (κ b)) (own_hm _) (own_free hU hl _ (own_hm _))
  rcases hst with hTj | ⟨a, nn, hTj, hke⟩
  · refine (rm37 l Z a0 hw ws cs_v hp t b num A1 A2 A3 A4 κ T us jj k1 f1 k2 f2 k3 f3 k4 f4 mm h0 n0 O0 K_b E_b E_t G_A1 G_A2 hS hH hKs hU hl hPj hTj G_A3 G_A4 Ov F_listed hbm g_b (Ne.symm ne_A1_b) (Ne.symm ne_A2_b) F_strings (Ne.symm ne_b_t) F_hashes hm16 E_A1 g_A1 (Ne.symm ne_A1_t) E_A2 ne_A1_A2 g_A2 F_numbers (Ne.symm ne_A2_t) E_A3 (Ne.symm ne_A3_b) ne_A1_A3 ne_A2_A3 g_A3 F_taken (Ne.symm ne_A3_t) F_hashed g_t E_A4 (Ne.symm ne_A4_b) ne_A1_A4 ne_A2_A4 ne_A3_A4 (Ne.symm ne_A4_t) g_A4).mono (fun _ _ h => h) (fun _ _ _ _ _ h => h) (fun _ s o s' _ ⟨v, L, e, q, f⟩ => ⟨v, L, e, ?_, f⟩)
    obtain ⟨e1, N1, K1, f0, f1, f2, f3, f4, f5, f6, f7, f8, f9, f10, f11, f12, f13, f14, f15, f16⟩ := q
    have AK : ∀ c, StrK Z h0 c (κ c) → StrK Z s'.heap c (κ c) := fun c hc => StrK.all K1 f1 (allS ⟨_, E_A1, by decide, by decide⟩ (allS ⟨_, E_A2, by decide, by decide⟩ (allS ⟨_, E_A3, by decide, by decide⟩ (allS ⟨_, E_t, by decide, by decide⟩ (allS ⟨_, E_A4, by decide, by decide⟩ (fun x hx => nomatch hx)))))) E_b c hc
    have hls : Fld Z s'.heap t "com/example/byteloom/byteloom/StringNumbers" "listed" "I" (.int (Int32.ofNat (us ++ [jj]).length)) := by rw [List.length_append, List.length_singleton, ← own_ofs hl, ← hmm]; exact f11
    rw [hmm] at f16
    refine ⟨_, upT T jj (some (b, num)), us ++ [jj], _, e1, N1, K1, (allS g_b (allS g_A1 (allS g_A2 (allS g_A3 (allS g_t (allS g_A4 all0)))))), ⟨jj, hPj, Or.inl ⟨hTj, rfl, rfl⟩⟩, ⟨A1, A2, A3, A4, k1, k2, k3, k4, _, _, _, _, f8, f13, f10, f12, f14, hls, f9, f2, f4, f6, f15, ne_A2_A3, ne_A2_A4, ne_A3_A4, g_t, g_A1, g_A2, g_A3, g_A4, f3, Ov, f5, f7, f16, TO.put hj hl b num, fun j a n q => ?_⟩, by simp, AK⟩
    by_cases e : j = jj
    · rw [upT, if_pos e] at q; cases q; exact f1
    · rw [upT, if_neg e] at q; exact AK a (hKs j a n q)
  · have hr3 := hN jj a nn hTj
    refine (rm38 l Z a0 hw ws cs_v hp t b num A1 A2 A3 A4 κ T us jj k1 f1 k2 f2 a nn k3 f3 h0 n0 O0 K_b E_b E_t G_A1 G_A2 hS hH hKs hU hl hPj hTj hke G_A3 hr3 g_b (Ne.symm ne_A1_b) (Ne.symm ne_A2_b) F_strings (Ne.symm ne_b_t) F_hashes F_numbers (Ne.symm ne_A3_b)).mono (fun _ _ h => h) (fun _ _ _ _ _ h => h) (fun _ s o s' _ ⟨v, L, e, q, f⟩ => ⟨v, L, e, ?_, f⟩)
    obtain ⟨e1, N1, K1, f0, f1⟩ := q
    exact ⟨nn, T, us, [b], e1, N1, K1, allS g_b all0, ⟨jj, hPj, Or.inr ⟨a, nn, hTj, hke, rfl, rfl⟩⟩, W.keep K1 E_b f1, Nat.le_succ _, fun c hc => StrK.all K1 f1 (fun x hx => nomatch hx) E_b c hc⟩
theorem d12_0 : decode prog_52_method_3_code 0 = .ok (.iconst 0, 1) := by decide +kernel
theorem d12_1 : decode prog_52_method_3_code 1 = .ok (.istore_n 1, 1) := by decide +kernel
theorem d12_2 : decode prog_52_method_3_code 2 = .ok (.iload_n 1, 1) := by decide +kernel
theorem d12_3 : decode prog_52_method_3_code 3 = .ok (.aload_n 0, 1) := by decide +kernel
theorem d12_4 : decode prog_52_method_3_code 4 = .ok (.getfield 33, 3) := by decide +kernel
theorem d12_7 : decode prog_52_method_3_code 7 = .ok (.if_icmp .ge 21, 3) := by decide +kernel
theorem d12_28 : decode prog_52_method_3_code 28 = .ok (.aload_n 0, 1) := by decide +kernel
theorem d12_29 : decode prog_52_method_3_code 29 = .ok (.iconst 0, 1) := by decide +kernel
theorem d12_30 : decode prog_52_method_3_code 30 = .ok (.putfield 33, 3) := by decide +kernel
theorem d12_33 : decode prog_52_method_3_code 33 = .ok (.aload_n 0, 1) := by decide +kernel
theorem d12_34 : decode prog_52_method_3_code 34 = .ok (.aconst_null, 1) := by decide +kernel
theorem d12_35 : decode prog_52_method_3_code 35 = .ok (.putfield 37, 3) := by decide +kernel
theorem d12_38 : decode prog_52_method_3_code 38 = .ok (.return_, 1) := by decide +kernel
theorem sn17 {Z : State} {a0 : Array Value} (hw : ∀ d ∈ tables_1, d.before a0 Z = true) : Jvm.RoadKit.slotOf Z "com/example/byteloom/byteloom/StringNumbers" "hashes" "[I" ≠ Jvm.RoadKit.slotOf Z "com/example/byteloom/byteloom/StringNumbers" "hashed" "Ljava/util/Map;" := slot_ne (Or.inr (wq hw 43 rfl)) (Or.inl (wq hw 78 rfl)) (by decide) (t := (.array .int)) (t' := (.object "java/util/Map")) (by decide) (by decide)
theorem sn18 {Z : State} {a0 : Array Value} (hw : ∀ d ∈ tables_1, d.before a0 Z = true) : Jvm.RoadKit.slotOf Z "com/example/byteloom/byteloom/StringNumbers" "listed" "I" ≠ Jvm.RoadKit.slotOf Z "com/example/byteloom/byteloom/StringNumbers" "hashed" "Ljava/util/Map;" := slot_ne (Or.inl (wq hw 71 rfl)) (Or.inl (wq hw 78 rfl)) (by decide) (t := .int) (t' := (.object "java/util/Map")) (by decide) (by decide)
theorem sn19 {Z : State} {a0 : Array Value} (hw : ∀ d ∈ tables_1, d.before a0 Z = true) : Jvm.RoadKit.slotOf Z "com/example/byteloom/byteloom/StringNumbers" "numbers" "[I" ≠ Jvm.RoadKit.slotOf Z "com/example/byteloom/byteloom/StringNumbers" "hashed" "Ljava/util/Map;" := slot_ne (Or.inr (wq hw 45 rfl)) (Or.inl (wq hw 78 rfl)) (by decide) (t := (.array .int)) (t' := (.object "java/util/Map")) (by decide) (by decide)
theorem sn20 {Z : State} {a0 : Array Value} (hw : ∀ d ∈ tables_1, d.before a0 Z = true) : Jvm.RoadKit.slotOf Z "com/example/byteloom/byteloom/StringNumbers" "strings" "[Ljava/lang/String;" ≠ Jvm.RoadKit.slotOf Z "com/example/byteloom/byteloom/StringNumbers" "hashed" "Ljava/util/Map;" := slot_ne (Or.inr (wq hw 40 rfl)) (Or.inl (wq hw 78 rfl)) (by decide) (t := (.array (.object "java/lang/String"))) (t' := (.object "java/util/Map")) (by decide) (by decide)
theorem sn21 {Z : State} {a0 : Array Value} (hw : ∀ d ∈ tables_1, d.before a0 Z = true) : Jvm.RoadKit.slotOf Z "com/example/byteloom/byteloom/StringNumbers" "taken" "[I" ≠ Jvm.RoadKit.slotOf Z "com/example/byteloom/byteloom/StringNumbers" "hashed" "Ljava/util/Map;" := slot_ne (Or.inr (wq hw 47 rfl)) (Or.inl (wq hw 78 rfl)) (by decide) (t := (.array .int)) (t' := (.object "java/util/Map")) (by decide) (by decide)
abbrev y18 : MethodName := (⟨"com/example/byteloom/byteloom/StringNumbers", "clear", "()V"⟩ : MethodName)
theorem ef_12_0 (m : MethodId) (x0 : Addr) : entryFrame m #[(.ref x0)] 2 = mkF m 0 #[.val (.ref x0), .unset] [] := by first | (simp [entryFrame, mkF, argsToLocals, Value.category]; done) | rfl
def Q39 (Z : State) (cs_v : Int32) (a1 : Addr) (a2 : Addr) (a3 : Addr) (a4 : Addr) (a5 : Addr) (h0 : Heap) (n0 : Nat) (v : Option Value) (h : Heap) (L : List Loc) : Prop := v = none ∧ Fr n0 L ∧ Keep h0 h [a1] ∧ Exa Z h a1 "com/example/byteloom/byteloom/StringNumbers" ∧ Fld Z h a1 "com/example/byteloom/byteloom/StringNumbers" "hashed" "Ljava/util/Map;" .null ∧ Fld Z h a1 "com/example/byteloom/byteloom/StringNumbers" "hashes" "[I" (.ref a4) ∧ Fld Z h a1 "com/example/byteloom/byteloom/StringNumbers" "listed" "I" (.int (0 : Int32)) ∧ Fld Z h a1 "com/example/byteloom/byteloom/StringNumbers" "numbers" "[I" (.ref a5) ∧ Fld Z h a1 "com/example/byteloom/byteloom/StringNumbers" "strings" "[Ljava/lang/String;" (.ref a2) ∧ Fld Z h a1 "com/example/byteloom/byteloom/StringNumbers" "taken" "[I" (.ref a3)
theorem rm39 (l : Launch) (Z : State) (a0 : Array Value) (hw : ∀ d ∈ tables_1, d.before a0 Z = true) (ws : List Jvm.Cond) (cs_v : Int32) (hp : Perm Z cs_v) (a1 : Addr) (a2 : Addr) (a3 : Addr) (a4 : Addr) (a5 : Addr) (h0 : Heap) (n0 : Nat) (O0 : Old Z n0 h0) (E_a1 : Exa Z h0 a1 "com/example/byteloom/byteloom/StringNumbers") (F_strings_a1 : Fld Z h0 a1 "com/example/byteloom/byteloom/StringNumbers" "strings" "[Ljava/lang/String;" (.ref a2)) (F_hashes_a1 : Fld Z h0 a1 "com/example/byteloom/byteloom/StringNumbers" "hashes" "[I" (.ref a4)) (F_numbers_a1 : Fld Z h0 a1 "com/example/byteloom/byteloom/StringNumbers" "numbers" "[I" (.ref a5)) (F_taken_a1 : Fld Z h0 a1 "com/example/byteloom/byteloom/StringNumbers" "taken" "[I" (.ref a3)) (F_listed_a1 : Fld Z h0 a1 "com/example/byteloom/byteloom/StringNumbers" "listed" "I" (.int (0 : Int32))) (F_hashed_a1 : Fld Z h0 a1 "com/example/byteloom/byteloom/StringNumbers" "hashed" "Ljava/util/Map;" .null) (g_a1 : n0 ≤ a1) :
    MetFree l y18 (head1 (Jvm.Cond.code y18 prog_52_method_3_code 2 none :: ws) ({ frames := 0, cells := 0, slots := 0, locals := 0 } : Room)) (fun a U => a = #[(.ref a1)] ∧ Z.Warmed39 U.vm ∧ U.heap = h0) (fun _ _ _ _ _ => True) (fun _ U o U' => ∃ v L, o = .returned v ∧ Q39 Z cs_v a1 a2 a3 a4 a5 h0 n0 v U'.heap L ∧ FrameEnd U o U' L ({ frames := 0, cells := 0, slots := 0, locals := 0 } : Room).cells ({ frames := 0, cells := 0, slots := 0, locals := 0 } : Room).slots) := by
  refine MetFree.of_bodySF (plainFor_of_name pn_8) hisR ?_
  intro p e s m args below meth c s₁ Bd hml0 hP hK
  obtain ⟨rfl, hZ, hh⟩ := hP
  have hx := Bd.exec
  have hby := Bd.bytes
  have hml : c.maxLocals = 2 := hml0
  have hown : s.vm.findClass "com/example/byteloom/byteloom/StringNumbers" = some m.cls := findClass_of_methodNamed Bd.named
  have hnm := (name_of_methodNamed Bd.named Bd.method).1
  have X0 : Stand p l e ({ frames := 0, cells := 0, slots := 0, locals := 0 } : Room) s m #[(.ref a1)] below meth c s₁ [] 0 0 := Stand.of_body Bd
  have e0 : s₁.heap = h0 := by rw [← hh, Bd.state]; rfl
  have N0 := Fr.nil n0
  obtain ⟨T1, X1, e1, st1⟩ := getF X0 hx hZ hown (host := "") (Or.inl (wq hw 70 rfl)) Via.refl e0 F_listed_a1 (g := (mkF m 4 #[.val (.ref a1), .val (.int (0 : Int32))] [(.ref a1), (.int (0 : Int32))])) rfl rfl (hb hby d12_4)
  obtain ⟨T2, h2, X2, e2, W2, st2⟩ := putF X1 hx hZ hown (host := "") (Or.inl (wq hw 70 rfl)) Via.refl e1 F_listed_a1 E_a1 (Or.inl (wq hw 71 rfl)) (wq hw 31 rfl) (ty := .int) (by decide) rfl rfl (g := (mkF m 30 #[.val (.ref a1), .val (.int (0 : Int32))] [(.int (0 : Int32)), (.ref a1)])) rfl rfl (hb hby d12_30)
  have N2 := Fr.snoc X2 N0 g_a1
  have K2 : Keep h0 h2 [a1] := (Keep.refl h0 [a1]).wr W2 (Or.inl (ma 0 rfl))
  have Fw2 := F_listed_a1.same W2
  obtain ⟨T3, h3, X3, e3, W3, st3⟩ := putF X2 hx hZ hown (host := "") (Or.inl (wq hw 77 rfl)) Via.refl e2 (F_hashed_a1.other W2 (Or.inr (sn12 hw))) (E_a1.wr W2) (Or.inl (wq hw 78 rfl)) (wq hw 31 rfl) (ty := (.object "java/util/Map")) (by decide) rfl rfl (g := (mkF m 35 #[.val (.ref a1), .val (.int (0 : Int32))] [.null, (.ref a1)])) rfl rfl (hb hby d12_35)
  have N3 := Fr.snoc X3 N2 g_a1
  have K3 : Keep h0 h3 [a1] := K2.wr W3 (Or.inl (ma 0 rfl))
  have Fw3 := (F_hashed_a1.other W2 (Or.inr (sn12 hw))).same W3
  have f_4 := ((F_hashes_a1.other W2 (Or.inr (sn13 hw))).other W3 (Or.inr (sn17 hw)))
  have f_5 := ((F_numbers_a1.other W2 (Or.inr (sn14 hw))).other W3 (Or.inr (sn19 hw)))
  have f_6 := ((F_strings_a1.other W2 (Or.inr (sn15 hw))).other W3 (Or.inr (sn20 hw)))
  have f_7 := ((F_taken_a1.other W2 (Or.inr (sn16 hw))).other W3 (Or.inr (sn21 hw)))
  obtain ⟨fs, hr, hrun, hended, hW, hsame⟩ := X3.leave (v := none) (fun _ => rfl)
  refine ⟨_, _, castTop (ef_12_0 m a1) ?_, hrun, hended, _, _, rfl, ?_, ⟨_, rfl⟩, hW, hsame.mono (by decide) (by decide)⟩
  · show Sp p e below s₁ (mkF m 0 #[.val (.ref a1), .unset] []) _
    refine XS.iconst X0.here hx rfl (hb hby d12_0) ?_
    refine XS.istoreN X0.here hx rfl (hb hby d12_1) rfl (l' := #[.val (.ref a1), .val (.int (0 : Int32))]) rfl ?_
    refine XS.iloadN X0.here hx rfl (hb hby d12_2) rfl ?_
    refine XS.aloadN X0.here hx rfl (hb hby d12_3) rfl rfl ?_
    show Sp p e below s₁ (mkF m 4 #[.val (.ref a1), .val (.int (0 : Int32))] [(.ref a1), (.int (0 : Int32))]) _
    refine st1 _ ?_
    show Sp p e below T1 (mkF m 7 #[.val (.ref a1), .val (.int (0 : Int32))] [(.int (0 : Int32)), (.int (0 : Int32))]) _
    refine XS.icmpYes X1.here hx rfl (pc0 := 7) (pc' := 28) rfl (hb hby d12_7) rfl (flt (by decide : ¬ ((0 : Int32) < (0 : Int32)))).2.1 (by decide) (by decide) ?_
    refine XS.aloadN X1.here hx rfl (hb hby d12_28) rfl rfl ?_
    refine XS.iconst X1.here hx rfl (hb hby d12_29) ?_
    show Sp p e below T1 (mkF m 30 #[.val (.ref a1), .val (.int (0 : Int32))] [(.int (0 : Int32)), (.ref a1)]) _
    refine st2 _ ?_
    show Sp p e below T2 (mkF m 33 #[.val (.ref a1), .val (.int (0 : Int32))] []) _
    refine XS.aloadN X2.here hx rfl (hb hby d12_33) rfl rfl ?_
    refine XS.aconstNull X2.here hx rfl (hb hby d12_34) ?_
    show Sp p e below T2 (mkF m 35 #[.val (.ref a1), .val (.int (0 : Int32))] [.null, (.ref a1)]) _
    refine st3 _ ?_
    show Sp p e below T3 (mkF m 38 #[.val (.ref a1), .val (.int (0 : Int32))] []) _
    exact X3.returnOut hx Bd.returns (hb hby d12_38) hr
  · show Q39 Z cs_v a1 a2 a3 a4 a5 h0 n0 _ T3.heap _
    rw [e3]
    exact ⟨rfl, N3, K3, ((E_a1.wr W2).wr W3), Fw3, f_4, (Fw2.other W3 (Or.inr (sn18 hw))), f_5, f_6, f_7⟩
theorem d12_10 : decode prog_52_method_3_code 10 = .ok (.aload_n 0, 1) := by decide +kernel
theorem d12_11 : decode prog_52_method_3_code 11 = .ok (.getfield 11, 3) := by decide +kernel
theorem d12_14 : decode prog_52_method_3_code 14 = .ok (.aload_n 0, 1) := by decide +kernel
theorem d12_15 : decode prog_52_method_3_code 15 = .ok (.getfield 22, 3) := by decide +kernel
theorem d12_18 : decode prog_52_method_3_code 18 = .ok (.iload_n 1, 1) := by decide +kernel
theorem d12_19 : decode prog_52_method_3_code 19 = .ok (.iaload, 1) := by decide +kernel
theorem d12_20 : decode prog_52_method_3_code 20 = .ok (.aconst_null, 1) := by decide +kernel
theorem d12_21 : decode prog_52_method_3_code 21 = .ok (.aastore, 1) := by decide +kernel
theorem d12_22 : decode prog_52_method_3_code 22 = .ok (.iinc 1 1, 3) := by decide +kernel
theorem d12_25 : decode prog_52_method_3_code 25 = .ok (.goto (-23), 3) := by decide +kernel
def Q40 (Z : State) (cs_v : Int32) (a1 : Addr) (a2 : Addr) (a3 : Addr) (k_a2 : ClassId) (f_a2 : Int32 → Value) (k_a3 : ClassId) (f_a3 : Int32 → Value) (p8 : Int32) (a9 : Addr) (a10 : Addr) (h0 : Heap) (n0 : Nat) (v : Option Value) (h : Heap) (L : List Loc) : Prop := v = none ∧ Fr n0 L ∧ Keep h0 h [a2, a1] ∧ Exa Z h a2 "[Ljava/lang/String;" ∧ Arf Z h a2 k_a2 (.object "java/lang/String") (32 : Int32) (upF f_a2 p8 .null) ∧ Exa Z h a1 "com/example/byteloom/byteloom/StringNumbers" ∧ Fld Z h a1 "com/example/byteloom/byteloom/StringNumbers" "hashed" "Ljava/util/Map;" .null ∧ Fld Z h a1 "com/example/byteloom/byteloom/StringNumbers" "hashes" "[I" (.ref a9) ∧ Fld Z h a1 "com/example/byteloom/byteloom/StringNumbers" "listed" "I" (.int (0 : Int32)) ∧ Fld Z h a1 "com/example/byteloom/byteloom/StringNumbers" "numbers" "[I" (.ref a10) ∧ Fld Z h a1 "com/example/byteloom/byteloom/StringNumbers" "strings" "[Ljava/lang/String;" (.ref a2) ∧ Fld Z h a1 "com/example/byteloom/byteloom/StringNumbers" "taken" "[I" (.ref a3)
theorem rm40 (l : Launch) (Z : State) (a0 : Array Value) (hw : ∀ d ∈ tables_1, d.before a0 Z = true) (ws : List Jvm.Cond) (cs_v : Int32) (hp : Perm Z cs_v) (a1 : Addr) (a2 : Addr) (a3 : Addr) (k_a2 : ClassId) (f_a2 : Int32 → Value) (k_a3 : ClassId) (f_a3 : Int32 → Value) (p8 : Int32) (a9 : Addr) (a10 : Addr) (h0 : Heap) (n0 : Nat) (O0 : Old Z n0 h0) (G_a2 : Arf Z h0 a2 k_a2 (.object "java/lang/String") (32 : Int32) f_a2) (G_a3 : Arf Z h0 a3 k_a3 .int (16 : Int32) f_a3) (hq0 : f_a3 (0 : Int32) = .int p8) (hb0 : ¬ p8 < 0 ∧ p8 < (32 : Int32)) (E_a1 : Exa Z h0 a1 "com/example/byteloom/byteloom/StringNumbers") (F_strings_a1 : Fld Z h0 a1 "com/example/byteloom/byteloom/StringNumbers" "strings" "[Ljava/lang/String;" (.ref a2)) (F_hashes_a1 : Fld Z h0 a1 "com/example/byteloom/byteloom/StringNumbers" "hashes" "[I" (.ref a9)) (F_numbers_a1 : Fld Z h0 a1 "com/example/byteloom/byteloom/StringNumbers" "numbers" "[I" (.ref a10)) (F_taken_a1 : Fld Z h0 a1 "com/example/byteloom/byteloom/StringNumbers" "taken" "[I" (.ref a3)) (F_listed_a1 : Fld Z h0 a1 "com/example/byteloom/byteloom/StringNumbers" "listed" "I" (.int (1 : Int32))) (F_hashed_a1 : Fld Z h0 a1 "com/example/byteloom/byteloom/StringNumbers" "hashed" "Ljava/util/Map;" .null) (E_a2 : Exa Z h0 a2 "[Ljava/lang/String;") (g_a2 : n0 ≤ a2) (ne_a1_a2 : a1 ≠ a2) (g_a1 : n0 ≤ a1) :
    MetFree l y18 (head1 (Jvm.Cond.code y18 prog_52_method_3_code 2 none :: ws) ({ frames := 0, cells := 0, slots := 0, locals := 0 } : Room)) (fun a U => a = #[(.ref a1)] ∧ Z.Warmed39 U.vm ∧ U.heap = h0) (fun _ _ _ _ _ => True) (fun _ U o U' => ∃ v L, o = .returned v ∧ Q40 Z cs_v a1 a2 a3 k_a2 f_a2 k_a3 f_a3 p8 a9 a10 h0 n0 v U'.heap L ∧ FrameEnd U o U' L ({ frames := 0, cells := 0, slots := 0, locals := 0 } : Room).cells ({ frames := 0, cells := 0, slots := 0, locals := 0 } : Room).slots) := by
  refine MetFree.of_bodySF (plainFor_of_name pn_8) hisR ?_
  intro p e s m args below meth c s₁ Bd hml0 hP hK
  obtain ⟨rfl, hZ, hh⟩ := hP
  have hx := Bd.exec
  have hby := Bd.bytes
  have hml : c.maxLocals = 2 := hml0
  have hown : s.vm.findClass "com/example/byteloom/byteloom/StringNumbers" = some m.cls := findClass_of_methodNamed Bd.named
  have hnm := (name_of_methodNamed Bd.named Bd.method).1
  have X0 : Stand p l e ({ frames := 0, cells := 0, slots := 0, locals := 0 } : Room) s m #[(.ref a1)] below meth c s₁ [] 0 0 := Stand.of_body Bd
  have e0 : s₁.heap = h0 := by rw [← hh, Bd.state]; rfl
  have N0 := Fr.nil n0
  obtain ⟨T1, X1, e1, st1⟩ := getF X0 hx hZ hown (host := "") (Or.inl (wq hw 70 rfl)) Via.refl e0 F_listed_a1 (g := (mkF m 4 #[.val (.ref a1), .val (.int (0 : Int32))] [(.ref a1), (.int (0 : Int32))])) rfl rfl (hb hby d12_4)
  obtain ⟨T2, X2, e2, st2⟩ := getF X1 hx hZ hown (host := "") (Or.inl (wq hw 39 rfl)) Via.refl e1 F_strings_a1 (g := (mkF m 11 #[.val (.ref a1), .val (.int (0 : Int32))] [(.ref a1)])) rfl rfl (hb hby d12_11)
  obtain ⟨T3, X3, e3, st3⟩ := getF X2 hx hZ hown (host := "") (Or.inl (wq hw 46 rfl)) Via.refl e2 F_taken_a1 (g := (mkF m 15 #[.val (.ref a1), .val (.int (0 : Int32))] [(.ref a1), (.ref a2)])) rfl rfl (hb hby d12_15)
  obtain ⟨hs4, vs4, dv4, ⟨cl4, Ar4, -, S4, -, H4, -⟩, U4⟩ := id G_a3
  have hin4 : ¬ ((0 : Int32) < 0 ∨ cl4.slots.size ≤ ((0 : Int32)).toNatClampNeg) := inb_of S4 (show ¬ ((0 : Int32) < (0 : Int32)) ∧ (0 : Int32) < (16 : Int32) from ⟨by decide, by decide⟩)
  have hat4 : cl4.slots[((0 : Int32)).toNatClampNeg]? = some (.int p8) := atH H4 hin4 ((U4 (0 : Int32) (show ¬ ((0 : Int32) < (0 : Int32)) ∧ (0 : Int32) < (16 : Int32) from ⟨by decide, by decide⟩).1 (show ¬ ((0 : Int32) < (0 : Int32)) ∧ (0 : Int32) < (16 : Int32) from ⟨by decide, by decide⟩).2).trans hq0)
  obtain ⟨hs5, vs5, dv5, ⟨cl5, Ar5, q5, S5, Nn5, H5, G5⟩, U5⟩ := id G_a2
  have hin5 : ¬ (p8 < 0 ∨ cl5.slots.size ≤ (p8).toNatClampNeg) := inb_of S5 hb0
  obtain ⟨T6, h6, X6, e6, W6, st6⟩ := stR X3 hx hZ e3 Ar5 (j := p8) hin5 rfl (Or.inl rfl) (g := (mkF m 21 #[.val (.ref a1), .val (.int (0 : Int32))] [.null, (.int p8), (.ref a2)])) rfl rfl (hb hby d12_21)
  have N6 := Fr.snoc X6 N0 g_a2
  have K6 : Keep h0 h6 [a2, a1] := (Keep.refl h0 [a2, a1]).wr W6 (Or.inl (ma 0 rfl))
  have G_a2_6 : Arf Z h6 a2 k_a2 (.object "java/lang/String") (32 : Int32) (upF f_a2 p8 .null) := Arf.push U5 (Arh.push Ar5 q5 S5 Nn5 H5 G5 rfl W6 hin5)
  obtain ⟨T7, X7, e7, st7⟩ := getF X6 hx hZ hown (host := "") (Or.inl (wq hw 70 rfl)) Via.refl e6 (F_listed_a1.other W6 (Or.inl ne_a1_a2)) (g := (mkF m 4 #[.val (.ref a1), .val (.int (fx2 ))] [(.ref a1), (.int (fx2 ))])) rfl rfl (hb hby d12_4)
  obtain ⟨T8, h8, X8, e8, W8, st8⟩ := putF X7 hx hZ hown (host := "") (Or.inl (wq hw 70 rfl)) Via.refl e7 (F_listed_a1.other W6 (Or.inl ne_a1_a2)) (E_a1.wr W6) (Or.inl (wq hw 71 rfl)) (wq hw 31 rfl) (ty := .int) (by decide) rfl rfl (g := (mkF m 30 #[.val (.ref a1), .val (.int (fx2 ))] [(.int (0 : Int32)), (.ref a1)])) rfl rfl (hb hby d12_30)
  have N8 := Fr.snoc X8 N6 g_a1
  have K8 : Keep h0 h8 [a2, a1] := K6.wr W8 (Or.inl (ma 1 rfl))
  have Fw8 := (F_listed_a1.other W6 (Or.inl ne_a1_a2)).same W8
  have f_9 := ((F_hashed_a1.other W6 (Or.inl ne_a1_a2)).other W8 (Or.inr (sn12 hw)))
  obtain ⟨T10, h10, X10, e10, W10, st10⟩ := putF X8 hx hZ hown (host := "") (Or.inl (wq hw 77 rfl)) Via.refl e8 f_9 ((E_a1.wr W6).wr W8) (Or.inl (wq hw 78 rfl)) (wq hw 31 rfl) (ty := (.object "java/util/Map")) (by decide) rfl rfl (g := (mkF m 35 #[.val (.ref a1), .val (.int (fx2 ))] [.null, (.ref a1)])) rfl rfl (hb hby d12_35)
  have N10 := Fr.snoc X10 N8 g_a1
  have K10 : Keep h0 h10 [a2, a1] := K8.wr W10 (Or.inl (ma 1 rfl))
  have Fw10 := f_9.same W10
  have f_11 := ((G_a2_6.other W8 (Ne.symm ne_a1_a2)).other W10 (Ne.symm ne_a1_a2))
  have f_12 := (((F_hashes_a1.other W6 (Or.inl ne_a1_a2)).other W8 (Or.inr (sn13 hw))).other W10 (Or.inr (sn17 hw)))
  have f_13 := (((F_numbers_a1.other W6 (Or.inl ne_a1_a2)).other W8 (Or.inr (sn14 hw))).other W10 (Or.inr (sn19 hw)))
  have f_14 := (((F_strings_a1.other W6 (Or.inl ne_a1_a2)).other W8 (Or.inr (sn15 hw))).other W10 (Or.inr (sn20 hw)))
  have f_15 := (((F_taken_a1.other W6 (Or.inl ne_a1_a2)).other W8 (Or.inr (sn16 hw))).other W10 (Or.inr (sn21 hw)))
  obtain ⟨fs, hr, hrun, hended, hW, hsame⟩ := X10.leave (v := none) (fun _ => rfl)
  refine ⟨_, _, castTop (ef_12_0 m a1) ?_, hrun, hended, _, _, rfl, ?_, ⟨_, rfl⟩, hW, hsame.mono (by decide) (by decide)⟩
  · show Sp p e below s₁ (mkF m 0 #[.val (.ref a1), .unset] []) _
    refine XS.iconst X0.here hx rfl (hb hby d12_0) ?_
    refine XS.istoreN X0.here hx rfl (hb hby d12_1) rfl (l' := #[.val (.ref a1), .val (.int (0 : Int32))]) rfl ?_
    refine XS.iloadN X0.here hx rfl (hb hby d12_2) rfl ?_
    refine XS.aloadN X0.here hx rfl (hb hby d12_3) rfl rfl ?_
    show Sp p e below s₁ (mkF m 4 #[.val (.ref a1), .val (.int (0 : Int32))] [(.ref a1), (.int (0 : Int32))]) _
    refine st1 _ ?_
    show Sp p e below T1 (mkF m 7 #[.val (.ref a1), .val (.int (0 : Int32))] [(.int (1 : Int32)), (.int (0 : Int32))]) _
    refine XS.icmpNo X1.here hx rfl (hb hby d12_7) rfl (tlt (by decide : (0 : Int32) < (1 : Int32))).2.1 ?_
    refine XS.aloadN X1.here hx rfl (hb hby d12_10) rfl rfl ?_
    show Sp p e below T1 (mkF m 11 #[.val (.ref a1), .val (.int (0 : Int32))] [(.ref a1)]) _
    refine st2 _ ?_
    show Sp p e below T2 (mkF m 14 #[.val (.ref a1), .val (.int (0 : Int32))] [(.ref a2)]) _
    refine XS.aloadN X2.here hx rfl (hb hby d12_14) rfl rfl ?_
    show Sp p e below T2 (mkF m 15 #[.val (.ref a1), .val (.int (0 : Int32))] [(.ref a1), (.ref a2)]) _
    refine st3 _ ?_
    show Sp p e below T3 (mkF m 18 #[.val (.ref a1), .val (.int (0 : Int32))] [(.ref a3), (.ref a2)]) _
    refine XS.iloadN X3.here hx rfl (hb hby d12_18) rfl ?_
    show Sp p e below T3 (mkF m 19 #[.val (.ref a1), .val (.int (0 : Int32))] [(.int (0 : Int32)), (.ref a3), (.ref a2)]) _
    refine X3.iaload hx (j := (0 : Int32)) (v := (.int p8)) (by rw [e3]; exact Ar4.1) (State.isArrayOf_alike hZ.alike Ar4.2.1) Ar4.2.2 hin4 hat4 (g := (mkF m 19 #[.val (.ref a1), .val (.int (0 : Int32))] [(.int (0 : Int32)), (.ref a3), (.ref a2)])) rfl rfl (hb hby d12_19) _ ?_
    show Sp p e below T3 (mkF m 20 #[.val (.ref a1), .val (.int (0 : Int32))] [(.int p8), (.ref a2)]) _
    refine XS.aconstNull X3.here hx rfl (hb hby d12_20) ?_
    show Sp p e below T3 (mkF m 21 #[.val (.ref a1), .val (.int (0 : Int32))] [.null, (.int p8), (.ref a2)]) _
    refine st6 _ ?_
    show Sp p e below T6 (mkF m 22 #[.val (.ref a1), .val (.int (0 : Int32))] []) _
    refine XS.iinc X6.here hx rfl (hb hby d12_22) rfl (l' := #[.val (.ref a1), .val (.int (fx2 ))]) rfl ?_
    refine XS.goto X6.here hx rfl (pc0 := 25) (pc' := 2) rfl (hb hby d12_25) (by decide) (by decide) ?_
    refine XS.iloadN X6.here hx rfl (hb hby d12_2) rfl ?_
    refine XS.aloadN X6.here hx rfl (hb hby d12_3) rfl rfl ?_
    show Sp p e below T6 (mkF m 4 #[.val (.ref a1), .val (.int (fx2 ))] [(.ref a1), (.int (fx2 ))]) _
    refine st7 _ ?_
    show Sp p e below T7 (mkF m 7 #[.val (.ref a1), .val (.int (fx2 ))] [(.int (1 : Int32)), (.int (fx2 ))]) _
    refine XS.icmpYes X7.here hx rfl (pc0 := 7) (pc' := 28) rfl (hb hby d12_7) rfl (flt (by decide : ¬ (((0 : Int32) + (1 : Int32)) < (1 : Int32)))).2.1 (by decide) (by decide) ?_
    refine XS.aloadN X7.here hx rfl (hb hby d12_28) rfl rfl ?_
    refine XS.iconst X7.here hx rfl (hb hby d12_29) ?_
    show Sp p e below T7 (mkF m 30 #[.val (.ref a1), .val (.int (fx2 ))] [(.int (0 : Int32)), (.ref a1)]) _
    refine st8 _ ?_
    show Sp p e below T8 (mkF m 33 #[.val (.ref a1), .val (.int (fx2 ))] []) _
    refine XS.aloadN X8.here hx rfl (hb hby d12_33) rfl rfl ?_
    refine XS.aconstNull X8.here hx rfl (hb hby d12_34) ?_
    show Sp p e below T8 (mkF m 35 #[.val (.ref a1), .val (.int (fx2 ))] [.null, (.ref a1)]) _
    refine st10 _ ?_
    show Sp p e below T10 (mkF m 38 #[.val (.ref a1), .val (.int (fx2 ))] []) _
    exact X10.returnOut hx Bd.returns (hb hby d12_38) hr
  · show Q40 Z cs_v a1 a2 a3 k_a2 f_a2 k_a3 f_a3 p8 a9 a10 h0 n0 _ T10.heap _
    rw [e10]
    exact ⟨rfl, N10, K10, (((E_a2.wr W6).wr W8).wr W10), f_11, (((E_a1.wr W6).wr W8).wr W10), Fw10, f_12, (Fw8.other W10 (Or.inr (sn18 hw))), f_13, f_14, f_15⟩
def Q41 (Z : State) (cs_v : Int32) (a1 : Addr) (a2 : Addr) (a3 : Addr) (k_a2 : ClassId) (f_a2 : Int32 → Value) (k_a3 : ClassId) (f_a3 : Int32 → Value) (p8 : Int32) (p9 : Int32) (a10 : Addr) (a11 : Addr) (h0 : Heap) (n0 : Nat) (v : Option Value) (h : Heap) (L : List Loc) : Prop := v = none ∧ Fr n0 L ∧ Keep h0 h [a2, a1] ∧ Exa Z h a2 "[Ljava/lang/String;" ∧ Arf Z h a2 k_a2 (.object "java/lang/String") (32 : Int32) (upF (upF f_a2 p8 .null) p9 .null) ∧ Exa Z h a1 "com/example/byteloom/byteloom/StringNumbers" ∧ Fld Z h a1 "com/example/byteloom/byteloom/StringNumbers" "hashed" "Ljava/util/Map;" .null ∧ Fld Z h a1 "com/example/byteloom/byteloom/StringNumbers" "hashes" "[I" (.ref a10) ∧ Fld Z h a1 "com/example/byteloom/byteloom/StringNumbers" "listed" "I" (.int (0 : Int32)) ∧ Fld Z h a1 "com/example/byteloom/byteloom/StringNumbers" "numbers" "[I" (.ref a11) ∧ Fld Z h a1 "com/example/byteloom/byteloom/StringNumbers" "strings" "[Ljava/lang/String;" (.ref a2) ∧ Fld Z h a1 "com/example/byteloom/byteloom/StringNumbers" "taken" "[I" (.ref a3)
theorem rm41 (l : Launch) (Z : State) (a0 : Array Value) (hw : ∀ d ∈ tables_1, d.before a0 Z = true) (ws : List Jvm.Cond) (cs_v : Int32) (hp : Perm Z cs_v) (a1 : Addr) (a2 : Addr) (a3 : Addr) (k_a2 : ClassId) (f_a2 : Int32 → Value) (k_a3 : ClassId) (f_a3 : Int32 → Value) (p8 : Int32) (p9 : Int32) (a10 : Addr) (a11 : Addr) (h0 : Heap) (n0 : Nat) (O0 : Old Z n0 h0) (G_a2 : Arf Z h0 a2 k_a2 (.object "java/lang/String") (32 : Int32) f_a2) (G_a3 : Arf Z h0 a3 k_a3 .int (16 : Int32) f_a3) (hq0 : f_a3 (0 : Int32) = .int p8) (hb0 : ¬ p8 < 0 ∧ p8 < (32 : Int32)) (hq1 : f_a3 ((0 : Int32) + (1 : Int32)) = .int p9) (hb1 : ¬ p9 < 0 ∧ p9 < (32 : Int32)) (E_a1 : Exa Z h0 a1 "com/example/byteloom/byteloom/StringNumbers") (F_strings_a1 : Fld Z h0 a1 "com/example/byteloom/byteloom/StringNumbers" "strings" "[Ljava/lang/String;" (.ref a2)) (F_hashes_a1 : Fld Z h0 a1 "com/example/byteloom/byteloom/StringNumbers" "hashes" "[I" (.ref a10)) (F_numbers_a1 : Fld Z h0 a1 "com/example/byteloom/byteloom/StringNumbers" "numbers" "[I" (.ref a11)) (F_taken_a1 : Fld Z h0 a1 "com/example/byteloom/byteloom/StringNumbers" "taken" "[I" (.ref a3)) (F_listed_a1 : Fld Z h0 a1 "com/example/byteloom/byteloom/StringNumbers" "listed" "I" (.int (2 : Int32))) (F_hashed_a1 : Fld Z h0 a1 "com/example/byteloom/byteloom/StringNumbers" "hashed" "Ljava/util/Map;" .null) (E_a2 : Exa Z h0 a2 "[Ljava/lang/String;") (g_a2 : n0 ≤ a2) (ne_a1_a2 : a1 ≠ a2) (ne_a2_a3 : a2 ≠ a3) (g_a1 : n0 ≤ a1) :
    MetFree l y18 (head1 (Jvm.Cond.code y18 prog_52_method_3_code 2 none :: ws) ({ frames := 0, cells := 0, slots := 0, locals := 0 } : Room)) (fun a U => a = #[(.ref a1)] ∧ Z.Warmed39 U.vm ∧ U.heap = h0) (fun _ _ _ _ _ => True) (fun _ U o U' => ∃ v L, o = .returned v ∧ Q41 Z cs_v a1 a2 a3 k_a2 f_a2 k_a3 f_a3 p8 p9 a10 a11 h0 n0 v U'.heap L ∧ FrameEnd U o U' L ({ frames := 0, cells := 0, slots := 0, locals := 0 } : Room).cells ({ frames := 0, cells := 0, slots := 0, locals := 0 } : Room).slots) := by
  refine MetFree.of_bodySF (plainFor_of_name pn_8) hisR ?_
  intro p e s m args below meth c s₁ Bd hml0 hP hK
  obtain ⟨rfl, hZ, hh⟩ := hP
  have hx := Bd.exec
  have hby := Bd.bytes
  have hml : c.maxLocals = 2 := hml0
  have hown : s.vm.findClass "com/example/byteloom/byteloom/StringNumbers" = some m.cls := findClass_of_methodNamed Bd.named
  have hnm := (name_of_methodNamed Bd.named Bd.method).1
  have X0 : Stand p l e ({ frames := 0, cells := 0, slots := 0, locals := 0 } : Room) s m #[(.ref a1)] below meth c s₁ [] 0 0 := Stand.of_body Bd
  have e0 : s₁.heap = h0 := by rw [← hh, Bd.state]; rfl
  have N0 := Fr.nil n0
  obtain ⟨T1, X1, e1, st1⟩ := getF X0 hx hZ hown (host := "") (Or.inl (wq hw 70 rfl)) Via.refl e0 F_listed_a1 (g := (mkF m 4 #[.val (.ref a1), .val (.int (0 : Int32))] [(.ref a1), (.int (0 : Int32))])) rfl rfl (hb hby d12_4)
  obtain ⟨T2, X2, e2, st2⟩ := getF X1 hx hZ hown (host := "") (Or.inl (wq hw 39 rfl)) Via.refl e1 F_strings_a1 (g := (mkF m 11 #[.val (.ref a1), .val (.int (0 : Int32))] [(.ref a1)])) rfl rfl (hb hby d12_11)
  obtain ⟨T3, X3, e3, st3⟩ := getF X2 hx hZ hown (host := "") (Or.inl (wq hw 46 rfl)) Via.refl e2 F_taken_a1 (g := (mkF m 15 #[.val (.ref a1), .val (.int (0 : Int32))] [(.ref a1), (.ref a2)])) rfl rfl (hb hby d12_15)
  obtain ⟨hs4, vs4, dv4, ⟨cl4, Ar4, -, S4, -, H4, -⟩, U4⟩ := id G_a3
  have hin4 : ¬ ((0 : Int32) < 0 ∨ cl4.slots.size ≤ ((0 : Int32)).toNatClampNeg) := inb_of S4 (show ¬ ((0 : Int32) < (0 : Int32)) ∧ (0 : Int32) < (16 : Int32) from ⟨by decide, by decide⟩)
  have hat4 : cl4.slots[((0 : Int32)).toNatClampNeg]? = some (.int p8) := atH H4 hin4 ((U4 (0 : Int32) (show ¬ ((0 : Int32) < (0 : Int32)) ∧ (0 : Int32) < (16 : Int32) from ⟨by decide, by decide⟩).1 (show ¬ ((0 : Int32) < (0 : Int32)) ∧ (0 : Int32) < (16 : Int32) from ⟨by decide, by decide⟩).2).trans hq0)
  obtain ⟨hs5, vs5, dv5, ⟨cl5, Ar5, q5, S5, Nn5, H5, G5⟩, U5⟩ := id G_a2
  have hin5 : ¬ (p8 < 0 ∨ cl5.slots.size ≤ (p8).toNatClampNeg) := inb_of S5 hb0
  obtain ⟨T6, h6, X6, e6, W6, st6⟩ := stR X3 hx hZ e3 Ar5 (j := p8) hin5 rfl (Or.inl rfl) (g := (mkF m 21 #[.val (.ref a1), .val (.int (0 : Int32))] [.null, (.int p8), (.ref a2)])) rfl rfl (hb hby d12_21)
  have N6 := Fr.snoc X6 N0 g_a2
  have K6 : Keep h0 h6 [a2, a1] := (Keep.refl h0 [a2, a1]).wr W6 (Or.inl (ma 0 rfl))
  have G_a2_6 : Arf Z h6 a2 k_a2 (.object "java/lang/String") (32 : Int32) (upF f_a2 p8 .null) := Arf.push U5 (Arh.push Ar5 q5 S5 Nn5 H5 G5 rfl W6 hin5)
  obtain ⟨T7, X7, e7, st7⟩ := getF X6 hx hZ hown (host := "") (Or.inl (wq hw 70 rfl)) Via.refl e6 (F_listed_a1.other W6 (Or.inl ne_a1_a2)) (g := (mkF m 4 #[.val (.ref a1), .val (.int (fx2 ))] [(.ref a1), (.int (fx2 ))])) rfl rfl (hb hby d12_4)
  obtain ⟨T8, X8, e8, st8⟩ := getF X7 hx hZ hown (host := "") (Or.inl (wq hw 39 rfl)) Via.refl e7 (F_strings_a1.other W6 (Or.inl ne_a1_a2)) (g := (mkF m 11 #[.val (.ref a1), .val (.int (fx2 ))] [(.ref a1)])) rfl rfl (hb hby d12_11)
  obtain ⟨T9, X9, e9, st9⟩ := getF X8 hx hZ hown (host := "") (Or.inl (wq hw 46 rfl)) Via.refl e8 (F_taken_a1.other W6 (Or.inl ne_a1_a2)) (g := (mkF m 15 #[.val (.ref a1), .val (.int (fx2 ))] [(.ref a1), (.ref a2)])) rfl rfl (hb hby d12_15)
  obtain ⟨hs10, vs10, dv10, ⟨cl10, Ar10, -, S10, -, H10, -⟩, U10⟩ := id (G_a3.other W6 (Ne.symm ne_a2_a3))
  have hin10 : ¬ (((0 : Int32) + (1 : Int32)) < 0 ∨ cl10.slots.size ≤ (((0 : Int32) + (1 : Int32))).toNatClampNeg) := inb_of S10 (show ¬ (((0 : Int32) + (1 : Int32)) < (0 : Int32)) ∧ ((0 : Int32) + (1 : Int32)) < (16 : Int32) from ⟨by decide, by decide⟩)
  have hat10 : cl10.slots[(((0 : Int32) + (1 : Int32))).toNatClampNeg]? = some (.int p9) := atH H10 hin10 ((U10 ((0 : Int32) + (1 : Int32)) (show ¬ (((0 : Int32) + (1 : Int32)) < (0 : Int32)) ∧ ((0 : Int32) + (1 : Int32)) < (16 : Int32) from ⟨by decide, by decide⟩).1 (show ¬ (((0 : Int32) + (1 : Int32)) < (0 : Int32)) ∧ ((0 : Int32) + (1 : Int32)) < (16 : Int32) from ⟨by decide, by decide⟩).2).trans hq1)
  obtain ⟨hs11, vs11, dv11, ⟨cl11, Ar11, q11, S11, Nn11, H11, G11⟩, U11⟩ := id G_a2_6
  have hin11 : ¬ (p9 < 0 ∨ cl11.slots.size ≤ (p9).toNatClampNeg) := inb_of S11 hb1
  obtain ⟨T12, h12, X12, e12, W12, st12⟩ := stR X9 hx hZ e9 Ar11 (j := p9) hin11 rfl (Or.inl rfl) (g := (mkF m 21 #[.val (.ref a1), .val (.int (fx2 ))] [.null, (.int p9), (.ref a2)])) rfl rfl (hb hby d12_21)
  have N12 := Fr.snoc X12 N6 g_a2
  have K12 : Keep h0 h12 [a2, a1] := K6.wr W12 (Or.inl (ma 0 rfl))
  have G_a2_12 : Arf Z h12 a2 k_a2 (.object "java/lang/String") (32 : Int32) (upF (upF f_a2 p8 .null) p9 .null) := Arf.push U11 (Arh.push Ar11 q11 S11 Nn11 H11 G11 rfl W12 hin11)
  have f_13 := ((F_listed_a1.other W6 (Or.inl ne_a1_a2)).other W12 (Or.inl ne_a1_a2))
  obtain ⟨T14, X14, e14, st14⟩ := getF X12 hx hZ hown (host := "") (Or.inl (wq hw 70 rfl)) Via.refl e12 f_13 (g := (mkF m 4 #[.val (.ref a1), .val (.int (fx3 ))] [(.ref a1), (.int (fx3 ))])) rfl rfl (hb hby d12_4)
  obtain ⟨T15, h15, X15, e15, W15, st15⟩ := putF X14 hx hZ hown (host := "") (Or.inl (wq hw 70 rfl)) Via.refl e14 f_13 ((E_a1.wr W6).wr W12) (Or.inl (wq hw 71 rfl)) (wq hw 31 rfl) (ty := .int) (by decide) rfl rfl (g := (mkF m 30 #[.val (.ref a1), .val (.int (fx3 ))] [(.int (0 : Int32)), (.ref a1)])) rfl rfl (hb hby d12_30)
  have N15 := Fr.snoc X15 N12 g_a1
  have K15 : Keep h0 h15 [a2, a1] := K12.wr W15 (Or.inl (ma 1 rfl))
  have Fw15 := f_13.same W15
  have f_16 := (((F_hashed_a1.other W6 (Or.inl ne_a1_a2)).other W12 (Or.inl ne_a1_a2)).other W15 (Or.inr (sn12 hw)))
  obtain ⟨T17, h17, X17, e17, W17, st17⟩ := putF X15 hx hZ hown (host := "") (Or.inl (wq hw 77 rfl)) Via.refl e15 f_16 (((E_a1.wr W6).wr W12).wr W15) (Or.inl (wq hw 78 rfl)) (wq hw 31 rfl) (ty := (.object "java/util/Map")) (by decide) rfl rfl (g := (mkF m 35 #[.val (.ref a1), .val (.int (fx3 ))] [.null, (.ref a1)])) rfl rfl (hb hby d12_35)
  have N17 := Fr.snoc X17 N15 g_a1
  have K17 : Keep h0 h17 [a2, a1] := K15.wr W17 (Or.inl (ma 1 rfl))
  have Fw17 := f_16.same W17
  have f_18 := ((G_a2_12.other W15 (Ne.symm ne_a1_a2)).other W17 (Ne.symm ne_a1_a2))
  have f_19 := ((((F_hashes_a1.other W6 (Or.inl ne_a1_a2)).other W12 (Or.inl ne_a1_a2)).other W15 (Or.inr (sn13 hw))).other W17 (Or.inr (sn17 hw)))
  have f_20 := ((((F_numbers_a1.other W6 (Or.inl ne_a1_a2)).other W12 (Or.inl ne_a1_a2)).other W15 (Or.inr (sn14 hw))).other W17 (Or.inr (sn19 hw)))
  have f_21 := ((((F_strings_a1.other W6 (Or.inl ne_a1_a2)).other W12 (Or.inl ne_a1_a2)).other W15 (Or.inr (sn15 hw))).other W17 (Or.inr (sn20 hw)))
  have f_22 := ((((F_taken_a1.other W6 (Or.inl ne_a1_a2)).other W12 (Or.inl ne_a1_a2)).other W15 (Or.inr (sn16 hw))).other W17 (Or.inr (sn21 hw)))
  obtain ⟨fs, hr, hrun, hended, hW, hsame⟩ := X17.leave (v := none) (fun _ => rfl)
  refine ⟨_, _, castTop (ef_12_0 m a1) ?_, hrun, hended, _, _, rfl, ?_, ⟨_, rfl⟩, hW, hsame.mono (by decide) (by decide)⟩
  · show Sp p e below s₁ (mkF m 0 #[.val (.ref a1), .unset] []) _
    refine XS.iconst X0.here hx rfl (hb hby d12_0) ?_
    refine XS.istoreN X0.here hx rfl (hb hby d12_1) rfl (l' := #[.val (.ref a1), .val (.int (0 : Int32))]) rfl ?_
    refine XS.iloadN X0.here hx rfl (hb hby d12_2) rfl ?_
    refine XS.aloadN X0.here hx rfl (hb hby d12_3) rfl rfl ?_
    show Sp p e below s₁ (mkF m 4 #[.val (.ref a1), .val (.int (0 : Int32))] [(.ref a1), (.int (0 : Int32))]) _
    refine st1 _ ?_
    show Sp p e below T1 (mkF m 7 #[.val (.ref a1), .val (.int (0 : Int32))] [(.int (2 : Int32)), (.int (0 : Int32))]) _
    refine XS.icmpNo X1.here hx rfl (hb hby d12_7) rfl (tlt (by decide : (0 : Int32) < (2 : Int32))).2.1 ?_
    refine XS.aloadN X1.here hx rfl (hb hby d12_10) rfl rfl ?_
    show Sp p e below T1 (mkF m 11 #[.val (.ref a1), .val (.int (0 : Int32))] [(.ref a1)]) _
    refine st2 _ ?_
    show Sp p e below T2 (mkF m 14 #[.val (.ref a1), .val (.int (0 : Int32))] [(.ref a2)]) _
    refine XS.aloadN X2.here hx rfl (hb hby d12_14) rfl rfl ?_
    show Sp p e below T2 (mkF m 15 #[.val (.ref a1), .val (.int (0 : Int32))] [(.ref a1), (.ref a2)]) _
    refine st3 _ ?_
    show Sp p e below T3 (mkF m 18 #[.val (.ref a1), .val (.int (0 : Int32))] [(.ref a3), (.ref a2)]) _
    refine XS.iloadN X3.here hx rfl (hb hby d12_18) rfl ?_
    show Sp p e below T3 (mkF m 19 #[.val (.ref a1), .val (.int (0 : Int32))] [(.int (0 : Int32)), (.ref a3), (.ref a2)]) _
    refine X3.iaload hx (j := (0 : Int32)) (v := (.int p8)) (by rw [e3]; exact Ar4.1) (State.isArrayOf_alike hZ.alike Ar4.2.1) Ar4.2.2 hin4 hat4 (g := (mkF m 19 #[.val (.ref a1), .val (.int (0 : Int32))] [(.int (0 : Int32)), (.ref a3), (.ref a2)])) rfl rfl (hb hby d12_19) _ ?_
    show Sp p e below T3 (mkF m 20 #[.val (.ref a1), .val (.int (0 : Int32))] [(.int p8), (.ref a2)]) _
    refine XS.aconstNull X3.here hx rfl (hb hby d12_20) ?_
    show Sp p e below T3 (mkF m 21 #[.val (.ref a1), .val (.int (0 : Int32))] [.null, (.int p8), (.ref a2)]) _
    refine st6 _ ?_
    show Sp p e below T6 (mkF m 22 #[.val (.ref a1), .val (.int (0 : Int32))] []) _
    refine XS.iinc X6.here hx rfl (hb hby d12_22) rfl (l' := #[.val (.ref a1), .val (.int (fx2 ))]) rfl ?_
    refine XS.goto X6.here hx rfl (pc0 := 25) (pc' := 2) rfl (hb hby d12_25) (by decide) (by decide) ?_
    refine XS.iloadN X6.here hx rfl (hb hby d12_2) rfl ?_
    refine XS.aloadN X6.here hx rfl (hb hby d12_3) rfl rfl ?_
    show Sp p e below T6 (mkF m 4 #[.val (.ref a1), .val (.int (fx2 ))] [(.ref a1), (.int (fx2 ))]) _
    refine st7 _ ?_
    show Sp p e below T7 (mkF m 7 #[.val (.ref a1), .val (.int (fx2 ))] [(.int (2 : Int32)), (.int (fx2 ))]) _
    refine XS.icmpNo X7.here hx rfl (hb hby d12_7) rfl (tlt (by decide : ((0 : Int32) + (1 : Int32)) < (2 : Int32))).2.1 ?_
    refine XS.aloadN X7.here hx rfl (hb hby d12_10) rfl rfl ?_
    show Sp p e below T7 (mkF m 11 #[.val (.ref a1), .val (.int (fx2 ))] [(.ref a1)]) _
    refine st8 _ ?_
    show Sp p e below T8 (mkF m 14 #[.val (.ref a1), .val (.int (fx2 ))] [(.ref a2)]) _
    refine XS.aloadN X8.here hx rfl (hb hby d12_14) rfl rfl ?_
    show Sp p e below T8 (mkF m 15 #[.val (.ref a1), .val (.int (fx2 ))] [(.ref a1), (.ref a2)]) _
    refine st9 _ ?_
    show Sp p e below T9 (mkF m 18 #[.val (.ref a1), .val (.int (fx2 ))] [(.ref a3), (.ref a2)]) _
    refine XS.iloadN X9.here hx rfl (hb hby d12_18) rfl ?_
    show Sp p e below T9 (mkF m 19 #[.val (.ref a1), .val (.int (fx2 ))] [(.int (fx2 )), (.ref a3), (.ref a2)]) _
    refine X9.iaload hx (j := ((0 : Int32) + (1 : Int32))) (v := (.int p9)) (by rw [e9]; exact Ar10.1) (State.isArrayOf_alike hZ.alike Ar10.2.1) Ar10.2.2 hin10 hat10 (g := (mkF m 19 #[.val (.ref a1), .val (.int (fx2 ))] [(.int (fx2 )), (.ref a3), (.ref a2)])) rfl rfl (hb hby d12_19) _ ?_
    show Sp p e below T9 (mkF m 20 #[.val (.ref a1), .val (.int (fx2 ))] [(.int p9), (.ref a2)]) _
    refine XS.aconstNull X9.here hx rfl (hb hby d12_20) ?_
    show Sp p e below T9 (mkF m 21 #[.val (.ref a1), .val (.int (fx2 ))] [.null, (.int p9), (.ref a2)]) _
    refine st12 _ ?_
    show Sp p e below T12 (mkF m 22 #[.val (.ref a1), .val (.int (fx2 ))] []) _
    refine XS.iinc X12.here hx rfl (hb hby d12_22) rfl (l' := #[.val (.ref a1), .val (.int (fx3 ))]) rfl ?_
    refine XS.goto X12.here hx rfl (pc0 := 25) (pc' := 2) rfl (hb hby d12_25) (by decide) (by decide) ?_
    refine XS.iloadN X12.here hx rfl (hb hby d12_2) rfl ?_
    refine XS.aloadN X12.here hx rfl (hb hby d12_3) rfl rfl ?_
    show Sp p e below T12 (mkF m 4 #[.val (.ref a1), .val (.int (fx3 ))] [(.ref a1), (.int (fx3 ))]) _
    refine st14 _ ?_
    show Sp p e below T14 (mkF m 7 #[.val (.ref a1), .val (.int (fx3 ))] [(.int (2 : Int32)), (.int (fx3 ))]) _
    refine XS.icmpYes X14.here hx rfl (pc0 := 7) (pc' := 28) rfl (hb hby d12_7) rfl (flt (by decide : ¬ ((((0 : Int32) + (1 : Int32)) + (1 : Int32)) < (2 : Int32)))).2.1 (by decide) (by decide) ?_
    refine XS.aloadN X14.here hx rfl (hb hby d12_28) rfl rfl ?_
    refine XS.iconst X14.here hx rfl (hb hby d12_29) ?_
    show Sp p e below T14 (mkF m 30 #[.val (.ref a1), .val (.int (fx3 ))] [(.int (0 : Int32)), (.ref a1)]) _
    refine st15 _ ?_
    show Sp p e below T15 (mkF m 33 #[.val (.ref a1), .val (.int (fx3 ))] []) _
    refine XS.aloadN X15.here hx rfl (hb hby d12_33) rfl rfl ?_
    refine XS.aconstNull X15.here hx rfl (hb hby d12_34) ?_
    show Sp p e below T15 (mkF m 35 #[.val (.ref a1), .val (.int (fx3 ))] [.null, (.ref a1)]) _
    refine st17 _ ?_
    show Sp p e below T17 (mkF m 38 #[.val (.ref a1), .val (.int (fx3 ))] []) _
    exact X17.returnOut hx Bd.returns (hb hby d12_38) hr
  · show Q41 Z cs_v a1 a2 a3 k_a2 f_a2 k_a3 f_a3 p8 p9 a10 a11 h0 n0 _ T17.heap _
    rw [e17]
    exact ⟨rfl, N17, K17, ((((E_a2.wr W6).wr W12).wr W15).wr W17), f_18, ((((E_a1.wr W6).wr W12).wr W15).wr W17), Fw17, f_19, (Fw15.other W17 (Or.inr (sn18 hw))), f_20, f_21, f_22⟩
abbrev fx11 : Int32 := ((((0 : Int32) + (1 : Int32)) + (1 : Int32)) + (1 : Int32))
def Q42 (Z : State) (cs_v : Int32) (a1 : Addr) (a2 : Addr) (a3 : Addr) (k_a2 : ClassId) (f_a2 : Int32 → Value) (k_a3 : ClassId) (f_a3 : Int32 → Value) (p8 : Int32) (p9 : Int32) (p10 : Int32) (a11 : Addr) (a12 : Addr) (h0 : Heap) (n0 : Nat) (v : Option Value) (h : Heap) (L : List Loc) : Prop := v = none ∧ Fr n0 L ∧ Keep h0 h [a2, a1] ∧ Exa Z h a2 "[Ljava/lang/String;" ∧ Arf Z h a2 k_a2 (.object "java/lang/String") (32 : Int32) (upF (upF (upF f_a2 p8 .null) p9 .null) p10 .null) ∧ Exa Z h a1 "com/example/byteloom/byteloom/StringNumbers" ∧ Fld Z h a1 "com/example/byteloom/byteloom/StringNumbers" "hashed" "Ljava/util/Map;" .null ∧ Fld Z h a1 "com/example/byteloom/byteloom/StringNumbers" "hashes" "[I" (.ref a11) ∧ Fld Z h a1 "com/example/byteloom/byteloom/StringNumbers" "listed" "I" (.int (0 : Int32)) ∧ Fld Z h a1 "com/example/byteloom/byteloom/StringNumbers" "numbers" "[I" (.ref a12) ∧ Fld Z h a1 "com/example/byteloom/byteloom/StringNumbers" "strings" "[Ljava/lang/String;" (.ref a2) ∧ Fld Z h a1 "com/example/byteloom/byteloom/StringNumbers" "taken" "[I" (.ref a3)
theorem rm42 (l : Launch) (Z : State) (a0 : Array Value) (hw : ∀ d ∈ tables_1, d.before a0 Z = true) (ws : List Jvm.Cond) (cs_v : Int32) (hp : Perm Z cs_v) (a1 : Addr) (a2 : Addr) (a3 : Addr) (k_a2 : ClassId) (f_a2 : Int32 → Value) (k_a3 : ClassId) (f_a3 : Int32 → Value) (p8 : Int32) (p9 : Int32) (p10 : Int32) (a11 : Addr) (a12 : Addr) (h0 : Heap) (n0 : Nat) (O0 : Old Z n0 h0) (G_a2 : Arf Z h0 a2 k_a2 (.object "java/lang/String") (32 : Int32) f_a2) (G_a3 : Arf Z h0 a3 k_a3 .int (16 : Int32) f_a3) (hq0 : f_a3 (0 : Int32) = .int p8) (hb0 : ¬ p8 < 0 ∧ p8 < (32 : Int32)) (hq1 : f_a3 ((0 : Int32) + (1 : Int32)) = .int p9) (hb1 : ¬ p9 < 0 ∧ p9 < (32 : Int32)) (hq2 : f_a3 (((0 : Int32) + (1 : Int32)) + (1 : Int32)) = .int p10) (hb2 : ¬ p10 < 0 ∧ p10 < (32 : Int32)) (E_a1 : Exa Z h0 a1 "com/example/byteloom/byteloom/StringNumbers") (F_strings_a1 : Fld Z h0 a1 "com/example/byteloom/byteloom/StringNumbers" "strings" "[Ljava/lang/String;" (.ref a2)) (F_hashes_a1 : Fld Z h0 a1 "com/example/byteloom/byteloom/StringNumbers" "hashes" "[I" (.ref a11)) (F_numbers_a1 : Fld Z h0 a1 "com/example/byteloom/byteloom/StringNumbers" "numbers" "[I" (.ref a12)) (F_taken_a1 : Fld Z h0 a1 "com/example/byteloom/byteloom/StringNumbers" "taken" "[I" (.ref a3)) (F_listed_a1 : Fld Z h0 a1 "com/example/byteloom/byteloom/StringNumbers" "listed" "I" (.int (3 : Int32))) (F_hashed_a1 : Fld Z h0 a1 "com/example/byteloom/byteloom/StringNumbers" "hashed" "Ljava/util/Map;" .null) (E_a2 : Exa Z h0 a2 "[Ljava/lang/String;") (g_a2 : n0 ≤ a2) (ne_a1_a2 : a1 ≠ a2) (ne_a2_a3 : a2 ≠ a3) (g_a1 : n0 ≤ a1) :
    MetFree l y18 (head1 (Jvm.Cond.code y18 prog_52_method_3_code 2 none :: ws) ({ frames := 0, cells := 0, slots := 0, locals := 0 } : Room)) (fun a U => a = #[(.ref a1)] ∧ Z.Warmed39 U.vm ∧ U.heap = h0) (fun _ _ _ _ _ => True) (fun _ U o U' => ∃ v L, o = .returned v ∧ Q42 Z cs_v a1 a2 a3 k_a2 f_a2 k_a3 f_a3 p8 p9 p10 a11 a12 h0 n0 v U'.heap L ∧ FrameEnd U o U' L ({ frames := 0, cells := 0, slots := 0, locals := 0 } : Room).cells ({ frames := 0, cells := 0, slots := 0, locals := 0 } : Room).slots) := by
  refine MetFree.of_bodySF (plainFor_of_name pn_8) hisR ?_
  intro p e s m args below meth c s₁ Bd hml0 hP hK
  obtain ⟨rfl, hZ, hh⟩ := hP
  have hx := Bd.exec
  have hby := Bd.bytes
  have hml : c.maxLocals = 2 := hml0
  have hown : s.vm.findClass "com/example/byteloom/byteloom/StringNumbers" = some m.cls := findClass_of_methodNamed Bd.named
  have hnm := (name_of_methodNamed Bd.named Bd.method).1
  have X0 : Stand p l e ({ frames := 0, cells := 0, slots := 0, locals := 0 } : Room) s m #[(.ref a1)] below meth c s₁ [] 0 0 := Stand.of_body Bd
  have e0 : s₁.heap = h0 := by rw [← hh, Bd.state]; rfl
  have N0 := Fr.nil n0
  obtain ⟨T1, X1, e1, st1⟩ := getF X0 hx hZ hown (host := "") (Or.inl (wq hw 70 rfl)) Via.refl e0 F_listed_a1 (g := (mkF m 4 #[.val (.ref a1), .val (.int (0 : Int32))] [(.ref a1), (.int (0 : Int32))])) rfl rfl (hb hby d12_4)
  obtain ⟨T2, X2, e2, st2⟩ := getF X1 hx hZ hown (host := "") (Or.inl (wq hw 39 rfl)) Via.refl e1 F_strings_a1 (g := (mkF m 11 #[.val (.ref a1), .val (.int (0 : Int32))] [(.ref a1)])) rfl rfl (hb hby d12_11)
  obtain ⟨T3, X3, e3, st3⟩ := getF X2 hx hZ hown (host := "") (Or.inl (wq hw 46 rfl)) Via.refl e2 F_taken_a1 (g := (mkF m 15 #[.val (.ref a1), .val (.int (0 : Int32))] [(.ref a1), (.ref a2)])) rfl rfl (hb hby d12_15)
  obtain ⟨hs4, vs4, dv4, ⟨cl4, Ar4, -, S4, -, H4, -⟩, U4⟩ := id G_a3
  have hin4 : ¬ ((0 : Int32) < 0 ∨ cl4.slots.size ≤ ((0 : Int32)).toNatClampNeg) := inb_of S4 (show ¬ ((0 : Int32) < (0 : Int32)) ∧ (0 : Int32) < (16 : Int32) from ⟨by decide, by decide⟩)
  have hat4 : cl4.slots[((0 : Int32)).toNatClampNeg]? = some (.int p8) := atH H4 hin4 ((U4 (0 : Int32) (show ¬ ((0 : Int32) < (0 : Int32)) ∧ (0 : Int32) < (16 : Int32) from ⟨by decide, by decide⟩).1 (show ¬ ((0 : Int32) < (0 : Int32)) ∧ (0 : Int32) < (16 : Int32) from ⟨by decide, by decide⟩).2).trans hq0)
  obtain ⟨hs5, vs5, dv5, ⟨cl5, Ar5, q5, S5, Nn5, H5, G5⟩, U5⟩ := id G_a2
  have hin5 : ¬ (p8 < 0 ∨ cl5.slots.size ≤ (p8).toNatClampNeg) := inb_of S5 hb0
  obtain ⟨T6, h6, X6, e6, W6, st6⟩ := stR X3 hx hZ e3 Ar5 (j := p8) hin5 rfl (Or.inl rfl) (g := (mkF m 21 #[.val (.ref a1), .val (.int (0 : Int32))] [.null, (.int p8), (.ref a2)])) rfl rfl (hb hby d12_21)
  have N6 := Fr.snoc X6 N0 g_a2
  have K6 : Keep h0 h6 [a2, a1] := (Keep.refl h0 [a2, a1]).wr W6 (Or.inl (ma 0 rfl))
  have G_a2_6 : Arf Z h6 a2 k_a2 (.object "java/lang/String") (32 : Int32) (upF f_a2 p8 .null) := Arf.push U5 (Arh.push Ar5 q5 S5 Nn5 H5 G5 rfl W6 hin5)
  obtain ⟨T7, X7, e7, st7⟩ := getF X6 hx hZ hown (host := "") (Or.inl (wq hw 70 rfl)) Via.refl e6 (F_listed_a1.other W6 (Or.inl ne_a1_a2)) (g := (mkF m 4 #[.val (.ref a1), .val (.int (fx2 ))] [(.ref a1), (.int (fx2 ))])) rfl rfl (hb hby d12_4)
  obtain ⟨T8, X8, e8, st8⟩ := getF X7 hx hZ hown (host := "") (Or.inl (wq hw 39 rfl)) Via.refl e7 (F_strings_a1.other W6 (Or.inl ne_a1_a2)) (g := (mkF m 11 #[.val (.ref a1), .val (.int (fx2 ))] [(.ref a1)])) rfl rfl (hb hby d12_11)
  obtain ⟨T9, X9, e9, st9⟩ := getF X8 hx hZ hown (host := "") (Or.inl (wq hw 46 rfl)) Via.refl e8 (F_taken_a1.other W6 (Or.inl ne_a1_a2)) (g := (mkF m 15 #[.val (.ref a1), .val (.int (fx2 ))] [(.ref a1), (.ref a2)])) rfl rfl (hb hby d12_15)
  obtain ⟨hs10, vs10, dv10, ⟨cl10, Ar10, -, S10, -, H10, -⟩, U10⟩ := id (G_a3.other W6 (Ne.symm ne_a2_a3))
  have hin10 : ¬ (((0 : Int32) + (1 : Int32)) < 0 ∨ cl10.slots.size ≤ (((0 : Int32) + (1 : Int32))).toNatClampNeg) := inb_of S10 (show ¬ (((0 : Int32) + (1 : Int32)) < (0 : Int32)) ∧ ((0 : Int32) + (1 : Int32)) < (16 : Int32) from ⟨by decide, by decide⟩)
  have hat10 : cl10.slots[(((0 : Int32) + (1 : Int32))).toNatClampNeg]? = some (.int p9) := atH H10 hin10 ((U10 ((0 : Int32) + (1 : Int32)) (show ¬ (((0 : Int32) + (1 : Int32)) < (0 : Int32)) ∧ ((0 : Int32) + (1 : Int32)) < (16 : Int32) from ⟨by decide, by decide⟩).1 (show ¬ (((0 : Int32) + (1 : Int32)) < (0 : Int32)) ∧ ((0 : Int32) + (1 : Int32)) < (16 : Int32) from ⟨by decide, by decide⟩).2).trans hq1)
  obtain ⟨hs11, vs11, dv11, ⟨cl11, Ar11, q11, S11, Nn11, H11, G11⟩, U11⟩ := id G_a2_6
  have hin11 : ¬ (p9 < 0 ∨ cl11.slots.size ≤ (p9).toNatClampNeg) := inb_of S11 hb1
  obtain ⟨T12, h12, X12, e12, W12, st12⟩ := stR X9 hx hZ e9 Ar11 (j := p9) hin11 rfl (Or.inl rfl) (g := (mkF m 21 #[.val (.ref a1), .val (.int (fx2 ))] [.null, (.int p9), (.ref a2)])) rfl rfl (hb hby d12_21)
  have N12 := Fr.snoc X12 N6 g_a2
  have K12 : Keep h0 h12 [a2, a1] := K6.wr W12 (Or.inl (ma 0 rfl))
  have G_a2_12 : Arf Z h12 a2 k_a2 (.object "java/lang/String") (32 : Int32) (upF (upF f_a2 p8 .null) p9 .null) := Arf.push U11 (Arh.push Ar11 q11 S11 Nn11 H11 G11 rfl W12 hin11)
  have f_13 := ((F_listed_a1.other W6 (Or.inl ne_a1_a2)).other W12 (Or.inl ne_a1_a2))
  obtain ⟨T14, X14, e14, st14⟩ := getF X12 hx hZ hown (host := "") (Or.inl (wq hw 70 rfl)) Via.refl e12 f_13 (g := (mkF m 4 #[.val (.ref a1), .val (.int (fx3 ))] [(.ref a1), (.int (fx3 ))])) rfl rfl (hb hby d12_4)
  have f_15 := ((F_strings_a1.other W6 (Or.inl ne_a1_a2)).other W12 (Or.inl ne_a1_a2))
  obtain ⟨T16, X16, e16, st16⟩ := getF X14 hx hZ hown (host := "") (Or.inl (wq hw 39 rfl)) Via.refl e14 f_15 (g := (mkF m 11 #[.val (.ref a1), .val (.int (fx3 ))] [(.ref a1)])) rfl rfl (hb hby d12_11)
  have f_17 := ((F_taken_a1.other W6 (Or.inl ne_a1_a2)).other W12 (Or.inl ne_a1_a2))
  obtain ⟨T18, X18, e18, st18⟩ := getF X16 hx hZ hown (host := "") (Or.inl (wq hw 46 rfl)) Via.refl e16 f_17 (g := (mkF m 15 #[.val (.ref a1), .val (.int (fx3 ))] [(.ref a1), (.ref a2)])) rfl rfl (hb hby d12_15)
  have f_19 := ((G_a3.other W6 (Ne.symm ne_a2_a3)).other W12 (Ne.symm ne_a2_a3))
  obtain ⟨hs20, vs20, dv20, ⟨cl20, Ar20, -, S20, -, H20, -⟩, U20⟩ := id f_19
  have hin20 : ¬ ((((0 : Int32) + (1 : Int32)) + (1 : Int32)) < 0 ∨ cl20.slots.size ≤ ((((0 : Int32) + (1 : Int32)) + (1 : Int32))).toNatClampNeg) := inb_of S20 (show ¬ ((((0 : Int32) + (1 : Int32)) + (1 : Int32)) < (0 : Int32)) ∧ (((0 : Int32) + (1 : Int32)) + (1 : Int32)) < (16 : Int32) from ⟨by decide, by decide⟩)
  have hat20 : cl20.slots[((((0 : Int32) + (1 : Int32)) + (1 : Int32))).toNatClampNeg]? = some (.int p10) := atH H20 hin20 ((U20 (((0 : Int32) + (1 : Int32)) + (1 : Int32)) (show ¬ ((((0 : Int32) + (1 : Int32)) + (1 : Int32)) < (0 : Int32)) ∧ (((0 : Int32) + (1 : Int32)) + (1 : Int32)) < (16 : Int32) from ⟨by decide, by decide⟩).1 (show ¬ ((((0 : Int32) + (1 : Int32)) + (1 : Int32)) < (0 : Int32)) ∧ (((0 : Int32) + (1 : Int32)) + (1 : Int32)) < (16 : Int32) from ⟨by decide, by decide⟩).2).trans hq2)
  obtain ⟨hs21, vs21, dv21, ⟨cl21, Ar21, q21, S21, Nn21, H21, G21⟩, U21⟩ := id G_a2_12
  have hin21 : ¬ (p10 < 0 ∨ cl21.slots.size ≤ (p10).toNatClampNeg) := inb_of S21 hb2
  obtain ⟨T22, h22, X22, e22, W22, st22⟩ := stR X18 hx hZ e18 Ar21 (j := p10) hin21 rfl (Or.inl rfl) (g := (mkF m 21 #[.val (.ref a1), .val (.int (fx3 ))] [.null, (.int p10), (.ref a2)])) rfl rfl (hb hby d12_21)
  have N22 := Fr.snoc X22 N12 g_a2
  have K22 : Keep h0 h22 [a2, a1] := K12.wr W22 (Or.inl (ma 0 rfl))
  have G_a2_22 : Arf Z h22 a2 k_a2 (.object "java/lang/String") (32 : Int32) (upF (upF (upF f_a2 p8 .null) p9 .null) p10 .null) := Arf.push U21 (Arh.push Ar21 q21 S21 Nn21 H21 G21 rfl W22 hin21)
  obtain ⟨T23, X23, e23, st23⟩ := getF X22 hx hZ hown (host := "") (Or.inl (wq hw 70 rfl)) Via.refl e22 (f_13.other W22 (Or.inl ne_a1_a2)) (g := (mkF m 4 #[.val (.ref a1), .val (.int (fx11 ))] [(.ref a1), (.int (fx11 ))])) rfl rfl (hb hby d12_4)
  obtain ⟨T24, h24, X24, e24, W24, st24⟩ := putF X23 hx hZ hown (host := "") (Or.inl (wq hw 70 rfl)) Via.refl e23 (f_13.other W22 (Or.inl ne_a1_a2)) (((E_a1.wr W6).wr W12).wr W22) (Or.inl (wq hw 71 rfl)) (wq hw 31 rfl) (ty := .int) (by decide) rfl rfl (g := (mkF m 30 #[.val (.ref a1), .val (.int (fx11 ))] [(.int (0 : Int32)), (.ref a1)])) rfl rfl (hb hby d12_30)
  have N24 := Fr.snoc X24 N22 g_a1
  have K24 : Keep h0 h24 [a2, a1] := K22.wr W24 (Or.inl (ma 1 rfl))
  have Fw24 := (f_13.other W22 (Or.inl ne_a1_a2)).same W24
  have f_25 := ((((F_hashed_a1.other W6 (Or.inl ne_a1_a2)).other W12 (Or.inl ne_a1_a2)).other W22 (Or.inl ne_a1_a2)).other W24 (Or.inr (sn12 hw)))
  obtain ⟨T26, h26, X26, e26, W26, st26⟩ := putF X24 hx hZ hown (host := "") (Or.inl (wq hw 77 rfl)) Via.refl e24 f_25 ((((E_a1.wr W6).wr W12).wr W22).wr W24) (Or.inl (wq hw 78 rfl)) (wq hw 31 rfl) (ty := (.object "java/util/Map")) (by decide) rfl rfl (g := (mkF m 35 #[.val (.ref a1), .val (.int (fx11 ))] [.null, (.ref a1)])) rfl rfl (hb hby d12_35)
  have N26 := Fr.snoc X26 N24 g_a1
  have K26 : Keep h0 h26 [a2, a1] := K24.wr W26 (Or.inl (ma 1 rfl))
  have Fw26 := f_25.same W26
  have f_27 := ((G_a2_22.other W24 (Ne.symm ne_a1_a2)).other W26 (Ne.symm ne_a1_a2))
  have f_28 := (((((F_hashes_a1.other W6 (Or.inl ne_a1_a2)).other W12 (Or.inl ne_a1_a2)).other W22 (Or.inl ne_a1_a2)).other W24 (Or.inr (sn13 hw))).other W26 (Or.inr (sn17 hw)))
  have f_29 := (((((F_numbers_a1.other W6 (Or.inl ne_a1_a2)).other W12 (Or.inl ne_a1_a2)).other W22 (Or.inl ne_a1_a2)).other W24 (Or.inr (sn14 hw))).other W26 (Or.inr (sn19 hw)))
  have f_30 := (((f_15.other W22 (Or.inl ne_a1_a2)).other W24 (Or.inr (sn15 hw))).other W26 (Or.inr (sn20 hw)))
  have f_31 := (((f_17.other W22 (Or.inl ne_a1_a2)).other W24 (Or.inr (sn16 hw))).other W26 (Or.inr (sn21 hw)))
  obtain ⟨fs, hr, hrun, hended, hW, hsame⟩ := X26.leave (v := none) (fun _ => rfl)
  refine ⟨_, _, castTop (ef_12_0 m a1) ?_, hrun, hended, _, _, rfl, ?_, ⟨_, rfl⟩, hW, hsame.mono (by decide) (by decide)⟩
  · show Sp p e below s₁ (mkF m 0 #[.val (.ref a1), .unset] []) _
    refine XS.iconst X0.here hx rfl (hb hby d12_0) ?_
    refine XS.istoreN X0.here hx rfl (hb hby d12_1) rfl (l' := #[.val (.ref a1), .val (.int (0 : Int32))]) rfl ?_
    refine XS.iloadN X0.here hx rfl (hb hby d12_2) rfl ?_
    refine XS.aloadN X0.here hx rfl (hb hby d12_3) rfl rfl ?_
    show Sp p e below s₁ (mkF m 4 #[.val (.ref a1), .val (.int (0 : Int32))] [(.ref a1), (.int (0 : Int32))]) _
    refine st1 _ ?_
    show Sp p e below T1 (mkF m 7 #[.val (.ref a1), .val (.int (0 : Int32))] [(.int (3 : Int32)), (.int (0 : Int32))]) _
    refine XS.icmpNo X1.here hx rfl (hb hby d12_7) rfl (tlt (by decide : (0 : Int32) < (3 : Int32))).2.1 ?_
    refine XS.aloadN X1.here hx rfl (hb hby d12_10) rfl rfl ?_
    show Sp p e below T1 (mkF m 11 #[.val (.ref a1), .val (.int (0 : Int32))] [(.ref a1)]) _
    refine st2 _ ?_
    show Sp p e below T2 (mkF m 14 #[.val (.ref a1), .val (.int (0 : Int32))] [(.ref a2)]) _
    refine XS.aloadN X2.here hx rfl (hb hby d12_14) rfl rfl ?_
    show Sp p e below T2 (mkF m 15 #[.val (.ref a1), .val (.int (0 : Int32))] [(.ref a1), (.ref a2)]) _
    refine st3 _ ?_
    show Sp p e below T3 (mkF m 18 #[.val (.ref a1), .val (.int (0 : Int32))] [(.ref a3), (.ref a2)]) _
    refine XS.iloadN X3.here hx rfl (hb hby d12_18) rfl ?_
    show Sp p e below T3 (mkF m 19 #[.val (.ref a1), .val (.int (0 : Int32))] [(.int (0 : Int32)), (.ref a3), (.ref a2)]) _
    refine X3.iaload hx (j := (0 : Int32)) (v := (.int p8)) (by rw [e3]; exact Ar4.1) (State.isArrayOf_alike hZ.alike Ar4.2.1) Ar4.2.2 hin4 hat4 (g := (mkF m 19 #[.val (.ref a1), .val (.int (0 : Int32))] [(.int (0 : Int32)), (.ref a3), (.ref a2)])) rfl rfl (hb hby d12_19) _ ?_
    show Sp p e below T3 (mkF m 20 #[.val (.ref a1), .val (.int (0 : Int32))] [(.int p8), (.ref a2)]) _
    refine XS.aconstNull X3.here hx rfl (hb hby d12_20) ?_
    show Sp p e below T3 (mkF m 21 #[.val (.ref a1), .val (.int (0 : Int32))] [.null, (.int p8), (.ref a2)]) _
    refine st6 _ ?_
    show Sp p e below T6 (mkF m 22 #[.val (.ref a1), .val (.int (0 : Int32))] []) _
    refine XS.iinc X6.here hx rfl (hb hby d12_22) rfl (l' := #[.val (.ref a1), .val (.int (fx2 ))]) rfl ?_
    refine XS.goto X6.here hx rfl (pc0 := 25) (pc' := 2) rfl (hb hby d12_25) (by decide) (by decide) ?_
    refine XS.iloadN X6.here hx rfl (hb hby d12_2) rfl ?_
    refine XS.aloadN X6.here hx rfl (hb hby d12_3) rfl rfl ?_
    show Sp p e below T6 (mkF m 4 #[.val (.ref a1), .val (.int (fx2 ))] [(.ref a1), (.int (fx2 ))]) _
    refine st7 _ ?_
    show Sp p e below T7 (mkF m 7 #[.val (.ref a1), .val (.int (fx2 ))] [(.int (3 : Int32)), (.int (fx2 ))]) _
    refine XS.icmpNo X7.here hx rfl (hb hby d12_7) rfl (tlt (by decide : ((0 : Int32) + (1 : Int32)) < (3 : Int32))).2.1 ?_
    refine XS.aloadN X7.here hx rfl (hb hby d12_10) rfl rfl ?_
    show Sp p e below T7 (mkF m 11 #[.val (.ref a1), .val (.int (fx2 ))] [(.ref a1)]) _
    refine st8 _ ?_
    show Sp p e below T8 (mkF m 14 #[.val (.ref a1), .val (.int (fx2 ))] [(.ref a2)]) _
    refine XS.aloadN X8.here hx rfl (hb hby d12_14) rfl rfl ?_
    show Sp p e below T8 (mkF m 15 #[.val (.ref a1), .val (.int (fx2 ))] [(.ref a1), (.ref a2)]) _
    refine st9 _ ?_
    show Sp p e below T9 (mkF m 18 #[.val (.ref a1), .val (.int (fx2 ))] [(.ref a3), (.ref a2)]) _
    refine XS.iloadN X9.here hx rfl (hb hby d12_18) rfl ?_
    show Sp p e below T9 (mkF m 19 #[.val (.ref a1), .val (.int (fx2 ))] [(.int (fx2 )), (.ref a3), (.ref a2)]) _
    refine X9.iaload hx (j := ((0 : Int32) + (1 : Int32))) (v := (.int p9)) (by rw [e9]; exact Ar10.1) (State.isArrayOf_alike hZ.alike Ar10.2.1) Ar10.2.2 hin10 hat10 (g := (mkF m 19 #[.val (.ref a1), .val (.int (fx2 ))] [(.int (fx2 )), (.ref a3), (.ref a2)])) rfl rfl (hb hby d12_19) _ ?_
    show Sp p e below T9 (mkF m 20 #[.val (.ref a1), .val (.int (fx2 ))] [(.int p9), (.ref a2)]) _
    refine XS.aconstNull X9.here hx rfl (hb hby d12_20) ?_
    show Sp p e below T9 (mkF m 21 #[.val (.ref a1), .val (.int (fx2 ))] [.null, (.int p9), (.ref a2)]) _
    refine st12 _ ?_
    show Sp p e below T12 (mkF m 22 #[.val (.ref a1), .val (.int (fx2 ))] []) _
    refine XS.iinc X12.here hx rfl (hb hby d12_22) rfl (l' := #[.val (.ref a1), .val (.int (fx3 ))]) rfl ?_
    refine XS.goto X12.here hx rfl (pc0 := 25) (pc' := 2) rfl (hb hby d12_25) (by decide) (by decide) ?_
    refine XS.iloadN X12.here hx rfl (hb hby d12_2) rfl ?_
    refine XS.aloadN X12.here hx rfl (hb hby d12_3) rfl rfl ?_
    show Sp p e below T12 (mkF m 4 #[.val (.ref a1), .val (.int (fx3 ))] [(.ref a1), (.int (fx3 ))]) _
    refine st14 _ ?_
    show Sp p e below T14 (mkF m 7 #[.val (.ref a1), .val (.int (fx3 ))] [(.int (3 : Int32)), (.int (fx3 ))]) _
    refine XS.icmpNo X14.here hx rfl (hb hby d12_7) rfl (tlt (by decide : (((0 : Int32) + (1 : Int32)) + (1 : Int32)) < (3 : Int32))).2.1 ?_
    refine XS.aloadN X14.here hx rfl (hb hby d12_10) rfl rfl ?_
    show Sp p e below T14 (mkF m 11 #[.val (.ref a1), .val (.int (fx3 ))] [(.ref a1)]) _
    refine st16 _ ?_
    show Sp p e below T16 (mkF m 14 #[.val (.ref a1), .val (.int (fx3 ))] [(.ref a2)]) _
    refine XS.aloadN X16.here hx rfl (hb hby d12_14) rfl rfl ?_
    show Sp p e below T16 (mkF m 15 #[.val (.ref a1), .val (.int (fx3 ))] [(.ref a1), (.ref a2)]) _
    refine st18 _ ?_
    show Sp p e below T18 (mkF m 18 #[.val (.ref a1), .val (.int (fx3 ))] [(.ref a3), (.ref a2)]) _
    refine XS.iloadN X18.here hx rfl (hb hby d12_18) rfl ?_
    show Sp p e below T18 (mkF m 19 #[.val (.ref a1), .val (.int (fx3 ))] [(.int (fx3 )), (.ref a3), (.ref a2)]) _
    refine X18.iaload hx (j := (((0 : Int32) + (1 : Int32)) + (1 : Int32))) (v := (.int p10)) (by rw [e18]; exact Ar20.1) (State.isArrayOf_alike hZ.alike Ar20.2.1) Ar20.2.2 hin20 hat20 (g := (mkF m 19 #[.val (.ref a1), .val (.int (fx3 ))] [(.int (fx3 )), (.ref a3), (.ref a2)])) rfl rfl (hb hby d12_19) _ ?_
    show Sp p e below T18 (mkF m 20 #[.val (.ref a1), .val (.int (fx3 ))] [(.int p10), (.ref a2)]) _
    refine XS.aconstNull X18.here hx rfl (hb hby d12_20) ?_
    show Sp p e below T18 (mkF m 21 #[.val (.ref a1), .val (.int (fx3 ))] [.null, (.int p10), (.ref a2)]) _
    refine st22 _ ?_
    show Sp p e below T22 (mkF m 22 #[.val (.ref a1), .val (.int (fx3 ))] []) _
    refine XS.iinc X22.here hx rfl (hb hby d12_22) rfl (l' := #[.val (.ref a1), .val (.int (fx11 ))]) rfl ?_
    refine XS.goto X22.here hx rfl (pc0 := 25) (pc' := 2) rfl (hb hby d12_25) (by decide) (by decide) ?_
    refine XS.iloadN X22.here hx rfl (hb hby d12_2) rfl ?_
    refine XS.aloadN X22.here hx rfl (hb hby d12_3) rfl rfl ?_
    show Sp p e below T22 (mkF m 4 #[.val (.ref a1), .val (.int (fx11 ))] [(.ref a1), (.int (fx11 ))]) _
    refine st23 _ ?_
    show Sp p e below T23 (mkF m 7 #[.val (.ref a1), .val (.int (fx11 ))] [(.int (3 : Int32)), (.int (fx11 ))]) _
    refine XS.icmpYes X23.here hx rfl (pc0 := 7) (pc' := 28) rfl (hb hby d12_7) rfl (flt (by decide : ¬ (((((0 : Int32) + (1 : Int32)) + (1 : Int32)) + (1 : Int32)) < (3 : Int32)))).2.1 (by decide) (by decide) ?_
    refine XS.aloadN X23.here hx rfl (hb hby d12_28) rfl rfl ?_
    refine XS.iconst X23.here hx rfl (hb hby d12_29) ?_
    show Sp p e below T23 (mkF m 30 #[.val (.ref a1), .val (.int (fx11 ))] [(.int (0 : Int32)), (.ref a1)]) _
    refine st24 _ ?_
    show Sp p e below T24 (mkF m 33 #[.val (.ref a1), .val (.int (fx11 ))] []) _
    refine XS.aloadN X24.here hx rfl (hb hby d12_33) rfl rfl ?_
    refine XS.aconstNull X24.here hx rfl (hb hby d12_34) ?_
    show Sp p e below T24 (mkF m 35 #[.val (.ref a1), .val (.int (fx11 ))] [.null, (.ref a1)]) _
    refine st26 _ ?_
    show Sp p e below T26 (mkF m 38 #[.val (.ref a1), .val (.int (fx11 ))] []) _
    exact X26.returnOut hx Bd.returns (hb hby d12_38) hr
  · show Q42 Z cs_v a1 a2 a3 k_a2 f_a2 k_a3 f_a3 p8 p9 p10 a11 a12 h0 n0 _ T26.heap _
    rw [e26]
    exact ⟨rfl, N26, K26, (((((E_a2.wr W6).wr W12).wr W22).wr W24).wr W26), f_27, (((((E_a1.wr W6).wr W12).wr W22).wr W24).wr W26), Fw26, f_28, (Fw24.other W26 (Or.inr (sn18 hw))), f_29, f_30, f_31⟩
def QCLEAR (Z : State) (κ : Addr → List Value) (t : Addr) (h0 : Heap) (n0 : Nat) (v : Option Value) (h : Heap) (L : List Loc) : Prop := ∃ (wl : List Addr), v = none ∧ Fr n0 L ∧ Keep h0 h wl ∧ (∀ x ∈ wl, n0 ≤ x) ∧ Wd Z κ h n0 t (fun _ => none) [] ∧ ∀ c, StrK Z h0 c (κ c) → StrK Z h c (κ c)
theorem TabOk.empty {κ : Addr → List Value} {f1 f2 f3 f4 : Int32 → Value} (h : ∀ j : Int32, (0 ≤ j.toInt ∧ j.toInt < 32) → f1 j = .null) : TabOk κ (fun _ => none) [] f1 f2 f3 f4 := by
  refine ⟨h, ?_, ?_, ?_, ?_, ?_⟩
  · intro _ _ _ q; cases q
  · intro _ _ _ q; cases q
  · intro _ q; exact absurd rfl q
  · intro _ q; cases q
  · intro i x q; simp at q
theorem own_off {κ : Addr → List Value} {T : Tb} {us : List Int32} {f1 f2 f3 f4 : Int32 → Value} (O : TabOk κ T us f1 f2 f3 f4) {j : Int32} (hj : 0 ≤ j.toInt ∧ j.toInt < 32) (h : j ∉ us) : f1 j = .null := by
  rw [O.1 j hj]
  cases q : T j with
  | none => rfl
  | some w => exact absurd (O.2.2.2.1 j (by rw [q]; nofun)) h
theorem StrK.apart {Z : State} {h h' : Heap} {κ : Addr → List Value} {ws : List Addr} (K : Keep h h' ws) (q : ∀ x ∈ ws, ∃ C, Exa Z h x C ∧ "java/lang/String" ≠ C ∧ "[B" ≠ C) (c : Addr) (F : StrK Z h c (κ c)) : StrK Z h' c (κ c) := F.keep K (fun x hx => by
  obtain ⟨C, E, h1, h2⟩ := q x hx
  exact ⟨F.exa.ne E h1, fun y hy => hy.ne E h2⟩)
set_option maxRecDepth 65536 in
set_option maxHeartbeats 4000000 in
theorem rmCLEAR (l : Launch) (Z : State) (a0 : Array Value) (hw : ∀ d ∈ tables_1, d.before a0 Z = true) (ws : List Jvm.Cond) (cs_v : Int32) (hp : Perm Z cs_v) (κ : Addr → List Value) (t : Addr) (T : Tb) (us : List Int32) (h0 : Heap) (n0 : Nat) (O0 : Old Z n0 h0) (W : Wd Z κ h0 n0 t T us) (hl : us.length ≤ 3) :
    MetFree l y18 (head1 (Jvm.Cond.code y18 prog_52_method_3_code 2 none :: ws) ({ frames := 0, cells := 0, slots := 0, locals := 0 } : Room)) (fun as' U => as' = #[(.ref t)] ∧ Z.Warmed39 U.vm ∧ U.heap = h0) (fun _ _ _ _ _ => True) (fun _ U o U' => ∃ v L, o = .returned v ∧ QCLEAR Z κ t h0 n0 v U'.heap L ∧ FrameEnd U o U' L ({ frames := 0, cells := 0, slots := 0, locals := 0 } : Room).cells ({ frames := 0, cells := 0, slots := 0, locals := 0 } : Room).slots) := by
  obtain ⟨A1, A2, A3, A4, k1, k2, k3, k4, f1, f2, f3, f4, E_t, F_strings, F_hashes, F_numbers, F_taken, F_listed, F_hashed, E_A1, E_A2, E_A3, E_A4, ne_A2_A3, ne_A2_A4, ne_A3_A4, g_t, g_A1, g_A2, g_A3, g_A4, G_A1, Ov, G_A2, G_A3, G_A4, TO, hKs⟩ := id W
  obtain ⟨hS, hH, hN, hU, hR, hI⟩ := id TO
  have ne_A1_A2 : A1 ≠ A2 := E_A1.ne E_A2 (by decide)
  have ne_A1_A3 : A1 ≠ A3 := E_A1.ne E_A3 (by decide)
  have ne_A1_A4 : A1 ≠ A4 := E_A1.ne E_A4 (by decide)
  have ne_A1_t : A1 ≠ t := E_A1.ne E_t (by decide)
  have ne_A2_t : A2 ≠ t := E_A2.ne E_t (by decide)
  have ne_A3_t : A3 ≠ t := E_A3.ne E_t (by decide)
  have ne_A4_t : A4 ≠ t := E_A4.ne E_t (by decide)
  match us, hl with
  | [], _ =>
    have F_listed : Fld Z h0 t "com/example/byteloom/byteloom/StringNumbers" "listed" "I" (.int (0 : Int32)) := F_listed
    refine (rm39 l Z a0 hw ws cs_v hp t A1 A4 A2 A3 h0 n0 O0 E_t F_strings F_hashes F_numbers F_taken F_listed F_hashed g_t).mono (fun _ _ h => h) (fun _ _ _ _ _ h => h) (fun _ s o s' _ ⟨v, L, e, q, f⟩ => ⟨v, L, e, ?_, f⟩)
    obtain ⟨e1, N1, K1, f0, f1, f2, f3, f4, f5, f6⟩ := q
    refine ⟨_, e1, N1, K1, (allS g_t all0), ⟨A1, A2, A3, A4, k1, k2, k3, k4, _, _, _, _, f0, f5, f2, f4, f6, f3, f1, (E_A1.keep K1), E_A2.keep K1, E_A3.keep K1, E_A4.keep K1, ne_A2_A3, ne_A2_A4, ne_A3_A4, g_t, g_A1, g_A2, g_A3, g_A4, (G_A1.keep K1 (ninS ne_A1_t nin0)), Ov, G_A2.keep K1 (ninS ne_A2_t nin0), G_A3.keep K1 (ninS ne_A3_t nin0), G_A4.keep K1 (ninS ne_A4_t nin0), TabOk.empty (fun j hj => ?_), fun j a n q => nomatch q⟩, fun c hc => StrK.apart K1 (allS ⟨_, E_t, by decide, by decide⟩ (fun x hx => nomatch hx)) c hc⟩
    exact own_off TO hj (by simp [])
  | [u0], _ =>
    have F_listed : Fld Z h0 t "com/example/byteloom/byteloom/StringNumbers" "listed" "I" (.int (1 : Int32)) := F_listed
    refine (rm40 l Z a0 hw ws cs_v hp t A1 A4 k1 f1 k4 f4 u0 A2 A3 h0 n0 O0 G_A1 G_A4 (by rw [show (0 : Int32) = Int32.ofNat 0 from by decide]; exact hI 0 u0 rfl) (own_bnd (hR u0 (List.mem_of_getElem? (i := 0) rfl))) E_t F_strings F_hashes F_numbers F_taken F_listed F_hashed E_A1 g_A1 (Ne.symm ne_A1_t) g_t).mono (fun _ _ h => h) (fun _ _ _ _ _ h => h) (fun _ s o s' _ ⟨v, L, e, q, f⟩ => ⟨v, L, e, ?_, f⟩)
    obtain ⟨e1, N1, K1, f0, f1, f2, f3, f4, f5, f6, f7, f8⟩ := q
    refine ⟨_, e1, N1, K1, (allS g_A1 (allS g_t all0)), ⟨A1, A2, A3, A4, k1, k2, k3, k4, _, _, _, _, f2, f7, f4, f6, f8, f5, f3, f0, E_A2.keep K1, E_A3.keep K1, E_A4.keep K1, ne_A2_A3, ne_A2_A4, ne_A3_A4, g_t, g_A1, g_A2, g_A3, g_A4, f1, Ov, G_A2.keep K1 (ninS (Ne.symm ne_A1_A2) (ninS ne_A2_t nin0)), G_A3.keep K1 (ninS (Ne.symm ne_A1_A3) (ninS ne_A3_t nin0)), G_A4.keep K1 (ninS (Ne.symm ne_A1_A4) (ninS ne_A4_t nin0)), TabOk.empty (fun j hj => ?_), fun j a n q => nomatch q⟩, fun c hc => StrK.apart K1 (allS ⟨_, E_A1, by decide, by decide⟩ (allS ⟨_, E_t, by decide, by decide⟩ (fun x hx => nomatch hx))) c hc⟩
    by_cases c0 : j = u0
    · rw [upF, if_pos c0]
    rw [upF, if_neg c0]
    exact own_off TO hj (by simp [c0])
  | [u0, u1], _ =>
    have F_listed : Fld Z h0 t "com/example/byteloom/byteloom/StringNumbers" "listed" "I" (.int (2 : Int32)) := F_listed
    refine (rm41 l Z a0 hw ws cs_v hp t A1 A4 k1 f1 k4 f4 u0 u1 A2 A3 h0 n0 O0 G_A1 G_A4 (by rw [show (0 : Int32) = Int32.ofNat 0 from by decide]; exact hI 0 u0 rfl) (own_bnd (hR u0 (List.mem_of_getElem? (i := 0) rfl))) (by rw [show ((0 : Int32) + (1 : Int32)) = Int32.ofNat 1 from by decide]; exact hI 1 u1 rfl) (own_bnd (hR u1 (List.mem_of_getElem? (i := 1) rfl))) E_t F_strings F_hashes F_numbers F_taken F_listed F_hashed E_A1 g_A1 (Ne.symm ne_A1_t) ne_A1_A4 g_t).mono (fun _ _ h => h) (fun _ _ _ _ _ h => h) (fun _ s o s' _ ⟨v, L, e, q, f⟩ => ⟨v, L, e, ?_, f⟩)
    obtain ⟨e1, N1, K1, f0, f1, f2, f3, f4, f5, f6, f7, f8⟩ := q
    refine ⟨_, e1, N1, K1, (allS g_A1 (allS g_t all0)), ⟨A1, A2, A3, A4, k1, k2, k3, k4, _, _, _, _, f2, f7, f4, f6, f8, f5, f3, f0, E_A2.keep K1, E_A3.keep K1, E_A4.keep K1, ne_A2_A3, ne_A2_A4, ne_A3_A4, g_t, g_A1, g_A2, g_A3, g_A4, f1, Ov, G_A2.keep K1 (ninS (Ne.symm ne_A1_A2) (ninS ne_A2_t nin0)), G_A3.keep K1 (ninS (Ne.symm ne_A1_A3) (ninS ne_A3_t nin0)), G_A4.keep K1 (ninS (Ne.symm ne_A1_A4) (ninS ne_A4_t nin0)), TabOk.empty (fun j hj => ?_), fun j a n q => nomatch q⟩, fun c hc => StrK.apart K1 (allS ⟨_, E_A1, by decide, by decide⟩ (allS ⟨_, E_t, by decide, by decide⟩ (fun x hx => nomatch hx))) c hc⟩
    by_cases c1 : j = u1
    · rw [upF, if_pos c1]
    rw [upF, if_neg c1]
    by_cases c0 : j = u0
    · rw [upF, if_pos c0]
    rw [upF, if_neg c0]
    exact own_off TO hj (by simp [c0, c1])
  | [u0, u1, u2], _ =>
    have F_listed : Fld Z h0 t "com/example/byteloom/byteloom/StringNumbers" "listed" "I" (.int (3 : Int32)) := F_listed
    refine (rm42 l Z a0 hw ws cs_v hp t A1 A4 k1 f1 k4 f4 u0 u1 u2 A2 A3 h0 n0 O0 G_A1 G_A4 (by rw [show (0 : Int32) = Int32.ofNat 0 from by decide]; exact hI 0 u0 rfl) (own_bnd (hR u0 (List.mem_of_getElem? (i := 0) rfl))) (by rw [show ((0 : Int32) + (1 : Int32)) = Int32.ofNat 1 from by decide]; exact hI 1 u1 rfl) (own_bnd (hR u1 (List.mem_of_getElem? (i := 1) rfl))) (by rw [show (((0 : Int32) + (1 : Int32)) + (1 : Int32)) = Int32.ofNat 2 from by decide]; exact hI 2 u2 rfl) (own_bnd (hR u2 (List.mem_of_getElem? (i := 2) rfl))) E_t F_strings F_hashes F_numbers F_taken F_listed F_hashed E_A1 g_A1 (Ne.symm ne_A1_t) ne_A1_A4 g_t).mono (fun _ _ h => h) (fun _ _ _ _ _ h => h) (fun _ s o s' _ ⟨v, L, e, q, f⟩ => ⟨v, L, e, ?_, f⟩)
    obtain ⟨e1, N1, K1, f0, f1, f2, f3, f4, f5, f6, f7, f8⟩ := q
    refine ⟨_, e1, N1, K1, (allS g_A1 (allS g_t all0)), ⟨A1, A2, A3, A4, k1, k2, k3, k4, _, _, _, _, f2, f7, f4, f6, f8, f5, f3, f0, E_A2.keep K1, E_A3.keep K1, E_A4.keep K1, ne_A2_A3, ne_A2_A4, ne_A3_A4, g_t, g_A1, g_A2, g_A3, g_A4, f1, Ov, G_A2.keep K1 (ninS (Ne.symm ne_A1_A2) (ninS ne_A2_t nin0)), G_A3.keep K1 (ninS (Ne.symm ne_A1_A3) (ninS ne_A3_t nin0)), G_A4.keep K1 (ninS (Ne.symm ne_A1_A4) (ninS ne_A4_t nin0)), TabOk.empty (fun j hj => ?_), fun j a n q => nomatch q⟩, fun c hc => StrK.apart K1 (allS ⟨_, E_A1, by decide, by decide⟩ (allS ⟨_, E_t, by decide, by decide⟩ (fun x hx => nomatch hx))) c hc⟩
    by_cases c2 : j = u2
    · rw [upF, if_pos c2]
    rw [upF, if_neg c2]
    by_cases c1 : j = u1
    · rw [upF, if_pos c1]
    rw [upF, if_neg c1]
    by_cases c0 : j = u0
    · rw [upF, if_pos c0]
    rw [upF, if_neg c0]
    exact own_off TO hj (by simp [c0, c1, c2])
  | _ :: _ :: _ :: _ :: _, h => exact absurd h (by simp)
theorem own_ltm {x a b : Int32} (h : x < a) (n : a.toInt ≤ b.toInt) : x < b := by rw [Int32.lt_iff_toInt_lt] at h ⊢; omega
theorem own_ek0 {x y : List Value} (h : eqK x y = (0 : Int32)) : x ≠ y := fun q => by rw [eqK, if_pos q] at h; exact absurd h (by decide)
theorem own_ek1 {x y : List Value} (h : ¬ (eqK x y = (0 : Int32))) : x = y := Classical.byContradiction fun q => h (by rw [eqK, if_neg q])
theorem own_ekt {x y z : List Value} (h : eqK z x = (0 : Int32)) (h' : ¬ (eqK y x = (0 : Int32))) : eqK z y = (0 : Int32) := by rw [own_ek1 h']; exact h
theorem own_kap (x y z : List Value) {a b c : Addr} (h1 : a ≠ b) (h2 : a ≠ c) (h3 : b ≠ c) : ∃ κ : Addr → List Value, κ a = x ∧ κ b = y ∧ κ c = z := ⟨fun q => if q = a then x else if q = b then y else z, if_pos rfl, (if_neg h1.symm).trans (if_pos rfl), (if_neg h2.symm).trans (if_neg h3.symm)⟩
theorem pd_16 : parseMethodDescriptor "(I)Ljava/lang/String;" = some ⟨[.int], some (.object "java/lang/String")⟩ := by decide +kernel
theorem d7_0 : decode prog_52_method_1_code 0 = .ok (.aload_n 0, 1) := by decide +kernel
theorem d7_1 : decode prog_52_method_1_code 1 = .ok (.invokespecial 3, 3) := by decide +kernel
theorem d7_4 : decode prog_52_method_1_code 4 = .ok (.aload_n 0, 1) := by decide +kernel
theorem d7_5 : decode prog_52_method_1_code 5 = .ok (.bipush 32, 2) := by decide +kernel
theorem d7_7 : decode prog_52_method_1_code 7 = .ok (.anewarray 9, 3) := by decide +kernel
theorem d7_10 : decode prog_52_method_1_code 10 = .ok (.putfield 11, 3) := by decide +kernel
theorem d7_13 : decode prog_52_method_1_code 13 = .ok (.aload_n 0, 1) := by decide +kernel
theorem d7_14 : decode prog_52_method_1_code 14 = .ok (.bipush 32, 2) := by decide +kernel
theorem d7_16 : decode prog_52_method_1_code 16 = .ok (.newarray .int, 2) := by decide +kernel
theorem d7_18 : decode prog_52_method_1_code 18 = .ok (.putfield 15, 3) := by decide +kernel
theorem sn22 {Z : State} {a0 : Array Value} (hw : ∀ d ∈ tables_1, d.before a0 Z = true) : Jvm.RoadKit.slotOf Z "com/example/byteloom/byteloom/StringNumbers" "hashes" "[I" ≠ Jvm.RoadKit.slotOf Z "com/example/byteloom/byteloom/StringNumbers" "strings" "[Ljava/lang/String;" := slot_ne (Or.inr (wq hw 43 rfl)) (Or.inr (wq hw 40 rfl)) (by decide) (t := (.array .int)) (t' := (.array (.object "java/lang/String"))) (by decide) (by decide)
theorem d7_21 : decode prog_52_method_1_code 21 = .ok (.aload_n 0, 1) := by decide +kernel
theorem d7_22 : decode prog_52_method_1_code 22 = .ok (.bipush 32, 2) := by decide +kernel
theorem d7_24 : decode prog_52_method_1_code 24 = .ok (.newarray .int, 2) := by decide +kernel
theorem d7_26 : decode prog_52_method_1_code 26 = .ok (.putfield 19, 3) := by decide +kernel
theorem sn23 {Z : State} {a0 : Array Value} (hw : ∀ d ∈ tables_1, d.before a0 Z = true) : Jvm.RoadKit.slotOf Z "com/example/byteloom/byteloom/StringNumbers" "numbers" "[I" ≠ Jvm.RoadKit.slotOf Z "com/example/byteloom/byteloom/StringNumbers" "strings" "[Ljava/lang/String;" := slot_ne (Or.inr (wq hw 45 rfl)) (Or.inr (wq hw 40 rfl)) (by decide) (t := (.array .int)) (t' := (.array (.object "java/lang/String"))) (by decide) (by decide)
theorem sn24 {Z : State} {a0 : Array Value} (hw : ∀ d ∈ tables_1, d.before a0 Z = true) : Jvm.RoadKit.slotOf Z "com/example/byteloom/byteloom/StringNumbers" "numbers" "[I" ≠ Jvm.RoadKit.slotOf Z "com/example/byteloom/byteloom/StringNumbers" "hashes" "[I" := slot_ne (Or.inr (wq hw 45 rfl)) (Or.inr (wq hw 43 rfl)) (by decide) (t := (.array .int)) (t' := (.array .int)) (by decide) (by decide)
theorem d7_29 : decode prog_52_method_1_code 29 = .ok (.aload_n 0, 1) := by decide +kernel
theorem d7_30 : decode prog_52_method_1_code 30 = .ok (.bipush 16, 2) := by decide +kernel
theorem d7_32 : decode prog_52_method_1_code 32 = .ok (.newarray .int, 2) := by decide +kernel
theorem d7_34 : decode prog_52_method_1_code 34 = .ok (.putfield 22, 3) := by decide +kernel
theorem sn25 {Z : State} {a0 : Array Value} (hw : ∀ d ∈ tables_1, d.before a0 Z = true) : Jvm.RoadKit.slotOf Z "com/example/byteloom/byteloom/StringNumbers" "taken" "[I" ≠ Jvm.RoadKit.slotOf Z "com/example/byteloom/byteloom/StringNumbers" "strings" "[Ljava/lang/String;" := slot_ne (Or.inr (wq hw 47 rfl)) (Or.inr (wq hw 40 rfl)) (by decide) (t := (.array .int)) (t' := (.array (.object "java/lang/String"))) (by decide) (by decide)
theorem sn26 {Z : State} {a0 : Array Value} (hw : ∀ d ∈ tables_1, d.before a0 Z = true) : Jvm.RoadKit.slotOf Z "com/example/byteloom/byteloom/StringNumbers" "taken" "[I" ≠ Jvm.RoadKit.slotOf Z "com/example/byteloom/byteloom/StringNumbers" "hashes" "[I" := slot_ne (Or.inr (wq hw 47 rfl)) (Or.inr (wq hw 43 rfl)) (by decide) (t := (.array .int)) (t' := (.array .int)) (by decide) (by decide)
theorem sn27 {Z : State} {a0 : Array Value} (hw : ∀ d ∈ tables_1, d.before a0 Z = true) : Jvm.RoadKit.slotOf Z "com/example/byteloom/byteloom/StringNumbers" "taken" "[I" ≠ Jvm.RoadKit.slotOf Z "com/example/byteloom/byteloom/StringNumbers" "numbers" "[I" := slot_ne (Or.inr (wq hw 47 rfl)) (Or.inr (wq hw 45 rfl)) (by decide) (t := (.array .int)) (t' := (.array .int)) (by decide) (by decide)
theorem d7_37 : decode prog_52_method_1_code 37 = .ok (.return_, 1) := by decide +kernel
theorem sn28 {Z : State} {a0 : Array Value} (hw : ∀ d ∈ tables_1, d.before a0 Z = true) : Jvm.RoadKit.slotOf Z "com/example/byteloom/byteloom/StringNumbers" "hashed" "Ljava/util/Map;" ≠ Jvm.RoadKit.slotOf Z "com/example/byteloom/byteloom/StringNumbers" "strings" "[Ljava/lang/String;" := slot_ne (Or.inl (wq hw 78 rfl)) (Or.inr (wq hw 40 rfl)) (by decide) (t := (.object "java/util/Map")) (t' := (.array (.object "java/lang/String"))) (by decide) (by decide)
theorem sn29 {Z : State} {a0 : Array Value} (hw : ∀ d ∈ tables_1, d.before a0 Z = true) : Jvm.RoadKit.slotOf Z "com/example/byteloom/byteloom/StringNumbers" "hashed" "Ljava/util/Map;" ≠ Jvm.RoadKit.slotOf Z "com/example/byteloom/byteloom/StringNumbers" "hashes" "[I" := slot_ne (Or.inl (wq hw 78 rfl)) (Or.inr (wq hw 43 rfl)) (by decide) (t := (.object "java/util/Map")) (t' := (.array .int)) (by decide) (by decide)
theorem sn30 {Z : State} {a0 : Array Value} (hw : ∀ d ∈ tables_1, d.before a0 Z = true) : Jvm.RoadKit.slotOf Z "com/example/byteloom/byteloom/StringNumbers" "hashed" "Ljava/util/Map;" ≠ Jvm.RoadKit.slotOf Z "com/example/byteloom/byteloom/StringNumbers" "numbers" "[I" := slot_ne (Or.inl (wq hw 78 rfl)) (Or.inr (wq hw 45 rfl)) (by decide) (t := (.object "java/util/Map")) (t' := (.array .int)) (by decide) (by decide)
theorem sn31 {Z : State} {a0 : Array Value} (hw : ∀ d ∈ tables_1, d.before a0 Z = true) : Jvm.RoadKit.slotOf Z "com/example/byteloom/byteloom/StringNumbers" "hashed" "Ljava/util/Map;" ≠ Jvm.RoadKit.slotOf Z "com/example/byteloom/byteloom/StringNumbers" "taken" "[I" := slot_ne (Or.inl (wq hw 78 rfl)) (Or.inr (wq hw 47 rfl)) (by decide) (t := (.object "java/util/Map")) (t' := (.array .int)) (by decide) (by decide)
theorem sn32 {Z : State} {a0 : Array Value} (hw : ∀ d ∈ tables_1, d.before a0 Z = true) : Jvm.RoadKit.slotOf Z "com/example/byteloom/byteloom/StringNumbers" "hashes" "[I" ≠ Jvm.RoadKit.slotOf Z "com/example/byteloom/byteloom/StringNumbers" "numbers" "[I" := slot_ne (Or.inr (wq hw 43 rfl)) (Or.inr (wq hw 45 rfl)) (by decide) (t := (.array .int)) (t' := (.array .int)) (by decide) (by decide)
theorem sn33 {Z : State} {a0 : Array Value} (hw : ∀ d ∈ tables_1, d.before a0 Z = true) : Jvm.RoadKit.slotOf Z "com/example/byteloom/byteloom/StringNumbers" "hashes" "[I" ≠ Jvm.RoadKit.slotOf Z "com/example/byteloom/byteloom/StringNumbers" "taken" "[I" := slot_ne (Or.inr (wq hw 43 rfl)) (Or.inr (wq hw 47 rfl)) (by decide) (t := (.array .int)) (t' := (.array .int)) (by decide) (by decide)
theorem sn34 {Z : State} {a0 : Array Value} (hw : ∀ d ∈ tables_1, d.before a0 Z = true) : Jvm.RoadKit.slotOf Z "com/example/byteloom/byteloom/StringNumbers" "listed" "I" ≠ Jvm.RoadKit.slotOf Z "com/example/byteloom/byteloom/StringNumbers" "strings" "[Ljava/lang/String;" := slot_ne (Or.inl (wq hw 71 rfl)) (Or.inr (wq hw 40 rfl)) (by decide) (t := .int) (t' := (.array (.object "java/lang/String"))) (by decide) (by decide)
theorem sn35 {Z : State} {a0 : Array Value} (hw : ∀ d ∈ tables_1, d.before a0 Z = true) : Jvm.RoadKit.slotOf Z "com/example/byteloom/byteloom/StringNumbers" "listed" "I" ≠ Jvm.RoadKit.slotOf Z "com/example/byteloom/byteloom/StringNumbers" "hashes" "[I" := slot_ne (Or.inl (wq hw 71 rfl)) (Or.inr (wq hw 43 rfl)) (by decide) (t := .int) (t' := (.array .int)) (by decide) (by decide)
theorem sn36 {Z : State} {a0 : Array Value} (hw : ∀ d ∈ tables_1, d.before a0 Z = true) : Jvm.RoadKit.slotOf Z "com/example/byteloom/byteloom/StringNumbers" "listed" "I" ≠ Jvm.RoadKit.slotOf Z "com/example/byteloom/byteloom/StringNumbers" "numbers" "[I" := slot_ne (Or.inl (wq hw 71 rfl)) (Or.inr (wq hw 45 rfl)) (by decide) (t := .int) (t' := (.array .int)) (by decide) (by decide)
theorem sn37 {Z : State} {a0 : Array Value} (hw : ∀ d ∈ tables_1, d.before a0 Z = true) : Jvm.RoadKit.slotOf Z "com/example/byteloom/byteloom/StringNumbers" "listed" "I" ≠ Jvm.RoadKit.slotOf Z "com/example/byteloom/byteloom/StringNumbers" "taken" "[I" := slot_ne (Or.inl (wq hw 71 rfl)) (Or.inr (wq hw 47 rfl)) (by decide) (t := .int) (t' := (.array .int)) (by decide) (by decide)
theorem sn38 {Z : State} {a0 : Array Value} (hw : ∀ d ∈ tables_1, d.before a0 Z = true) : Jvm.RoadKit.slotOf Z "com/example/byteloom/byteloom/StringNumbers" "numbers" "[I" ≠ Jvm.RoadKit.slotOf Z "com/example/byteloom/byteloom/StringNumbers" "taken" "[I" := slot_ne (Or.inr (wq hw 45 rfl)) (Or.inr (wq hw 47 rfl)) (by decide) (t := (.array .int)) (t' := (.array .int)) (by decide) (by decide)
theorem sn39 {Z : State} {a0 : Array Value} (hw : ∀ d ∈ tables_1, d.before a0 Z = true) : Jvm.RoadKit.slotOf Z "com/example/byteloom/byteloom/StringNumbers" "strings" "[Ljava/lang/String;" ≠ Jvm.RoadKit.slotOf Z "com/example/byteloom/byteloom/StringNumbers" "hashes" "[I" := slot_ne (Or.inr (wq hw 40 rfl)) (Or.inr (wq hw 43 rfl)) (by decide) (t := (.array (.object "java/lang/String"))) (t' := (.array .int)) (by decide) (by decide)
theorem sn40 {Z : State} {a0 : Array Value} (hw : ∀ d ∈ tables_1, d.before a0 Z = true) : Jvm.RoadKit.slotOf Z "com/example/byteloom/byteloom/StringNumbers" "strings" "[Ljava/lang/String;" ≠ Jvm.RoadKit.slotOf Z "com/example/byteloom/byteloom/StringNumbers" "numbers" "[I" := slot_ne (Or.inr (wq hw 40 rfl)) (Or.inr (wq hw 45 rfl)) (by decide) (t := (.array (.object "java/lang/String"))) (t' := (.array .int)) (by decide) (by decide)
theorem sn41 {Z : State} {a0 : Array Value} (hw : ∀ d ∈ tables_1, d.before a0 Z = true) : Jvm.RoadKit.slotOf Z "com/example/byteloom/byteloom/StringNumbers" "strings" "[Ljava/lang/String;" ≠ Jvm.RoadKit.slotOf Z "com/example/byteloom/byteloom/StringNumbers" "taken" "[I" := slot_ne (Or.inr (wq hw 40 rfl)) (Or.inr (wq hw 47 rfl)) (by decide) (t := (.array (.object "java/lang/String"))) (t' := (.array .int)) (by decide) (by decide)
abbrev y19 : MethodName := (⟨"com/example/byteloom/byteloom/StringNumbers", "<init>", "()V"⟩ : MethodName)
theorem ef_7_0 (m : MethodId) (x0 : Addr) : entryFrame m #[(.ref x0)] 1 = mkF m 0 #[.val (.ref x0)] [] := by first | (simp [entryFrame, mkF, argsToLocals, Value.category]; done) | rfl
def Q43 (Z : State) (cs_v : Int32) (a1 : Addr) (h0 : Heap) (n0 : Nat) (v : Option Value) (h : Heap) (L : List Loc) : Prop := ∃ (b2 b4 b6 b9 : Addr), ∃ (k2 k4 k6 k9 : ClassId), v = none ∧ Fr n0 L ∧ Keep h0 h [a1] ∧ h0.size ≤ b2 ∧ h0.size ≤ b4 ∧ h0.size ≤ b6 ∧ h0.size ≤ b9 ∧ b2 ≠ b4 ∧ b2 ≠ b6 ∧ b2 ≠ b9 ∧ b4 ≠ b6 ∧ b4 ≠ b9 ∧ b6 ≠ b9 ∧ Exa Z h a1 "com/example/byteloom/byteloom/StringNumbers" ∧ Fld Z h a1 "com/example/byteloom/byteloom/StringNumbers" "hashed" "Ljava/util/Map;" .null ∧ Fld Z h a1 "com/example/byteloom/byteloom/StringNumbers" "hashes" "[I" (.ref b4) ∧ Fld Z h a1 "com/example/byteloom/byteloom/StringNumbers" "listed" "I" (.int (0 : Int32)) ∧ Fld Z h a1 "com/example/byteloom/byteloom/StringNumbers" "numbers" "[I" (.ref b6) ∧ Fld Z h a1 "com/example/byteloom/byteloom/StringNumbers" "strings" "[Ljava/lang/String;" (.ref b2) ∧ Fld Z h a1 "com/example/byteloom/byteloom/StringNumbers" "taken" "[I" (.ref b9) ∧ Exa Z h b2 "[Ljava/lang/String;" ∧ Arv Z h b2 k2 (.object "java/lang/String") (32 : Int32) [.null, .null, .null, .null, .null, .null, .null, .null, .null, .null, .null, .null, .null, .null, .null, .null, .null, .null, .null, .null, .null, .null, .null, .null, .null, .null, .null, .null, .null, .null, .null, .null] .null ∧ Ovr Z k2 "java/lang/String" ∧ Exa Z h b4 "[I" ∧ Arv Z h b4 k4 .int (32 : Int32) [(.int (0 : Int32)), (.int (0 : Int32)), (.int (0 : Int32)), (.int (0 : Int32)), (.int (0 : Int32)), (.int (0 : Int32)), (.int (0 : Int32)), (.int (0 : Int32)), (.int (0 : Int32)), (.int (0 : Int32)), (.int (0 : Int32)), (.int (0 : Int32)), (.int (0 : Int32)), (.int (0 : Int32)), (.int (0 : Int32)), (.int (0 : Int32)), (.int (0 : Int32)), (.int (0 : Int32)), (.int (0 : Int32)), (.int (0 : Int32)), (.int (0 : Int32)), (.int (0 : Int32)), (.int (0 : Int32)), (.int (0 : Int32)), (.int (0 : Int32)), (.int (0 : Int32)), (.int (0 : Int32)), (.int (0 : Int32)), (.int (0 : Int32)), (.int (0 : Int32)), (.int (0 : Int32)), (.int (0 : Int32))] (.int (0 : Int32)) ∧ Exa Z h b6 "[I" ∧ Arv Z h b6 k6 .int (32 : Int32) [(.int (0 : Int32)), (.int (0 : Int32)), (.int (0 : Int32)), (.int (0 : Int32)), (.int (0 : Int32)), (.int (0 : Int32)), (.int (0 : Int32)), (.int (0 : Int32)), (.int (0 : Int32)), (.int (0 : Int32)), (.int (0 : Int32)), (.int (0 : Int32)), (.int (0 : Int32)), (.int (0 : Int32)), (.int (0 : Int32)), (.int (0 : Int32)), (.int (0 : Int32)), (.int (0 : Int32)), (.int (0 : Int32)), (.int (0 : Int32)), (.int (0 : Int32)), (.int (0 : Int32)), (.int (0 : Int32)), (.int (0 : Int32)), (.int (0 : Int32)), (.int (0 : Int32)), (.int (0 : Int32)), (.int (0 : Int32)), (.int (0 : Int32)), (.int (0 : Int32)), (.int (0 : Int32)), (.int (0 : Int32))] (.int (0 : Int32)) ∧ Exa Z h b9 "[I" ∧ Arv Z h b9 k9 .int (16 : Int32) [(.int (0 : Int32)), (.int (0 : Int32)), (.int (0 : Int32)), (.int (0 : Int32)), (.int (0 : Int32)), (.int (0 : Int32)), (.int (0 : Int32)), (.int (0 : Int32)), (.int (0 : Int32)), (.int (0 : Int32)), (.int (0 : Int32)), (.int (0 : Int32)), (.int (0 : Int32)), (.int (0 : Int32)), (.int (0 : Int32)), (.int (0 : Int32))] (.int (0 : Int32))
theorem rm43 (l : Launch) (Z : State) (a0 : Array Value) (hw : ∀ d ∈ tables_1, d.before a0 Z = true) (ws : List Jvm.Cond) (cs_v : Int32) (hp : Perm Z cs_v) (a1 : Addr) (h0 : Heap) (n0 : Nat) (O0 : Old Z n0 h0) (E_a1 : Exa Z h0 a1 "com/example/byteloom/byteloom/StringNumbers") (F_strings_a1 : Fld Z h0 a1 "com/example/byteloom/byteloom/StringNumbers" "strings" "[Ljava/lang/String;" .null) (F_hashes_a1 : Fld Z h0 a1 "com/example/byteloom/byteloom/StringNumbers" "hashes" "[I" .null) (F_numbers_a1 : Fld Z h0 a1 "com/example/byteloom/byteloom/StringNumbers" "numbers" "[I" .null) (F_taken_a1 : Fld Z h0 a1 "com/example/byteloom/byteloom/StringNumbers" "taken" "[I" .null) (F_listed_a1 : Fld Z h0 a1 "com/example/byteloom/byteloom/StringNumbers" "listed" "I" (.int (0 : Int32))) (F_hashed_a1 : Fld Z h0 a1 "com/example/byteloom/byteloom/StringNumbers" "hashed" "Ljava/util/Map;" .null) (g_a1 : n0 ≤ a1) :
    MetFree l y19 (head1 (Jvm.Cond.code y19 prog_52_method_1_code 1 none :: ws) ({ frames := 1, cells := 4, slots := 112, locals := 12 } : Room)) (fun a U => a = #[(.ref a1)] ∧ Z.Warmed39 U.vm ∧ U.heap = h0) (fun _ _ _ _ _ => True) (fun _ U o U' => ∃ v L, o = .returned v ∧ Q43 Z cs_v a1 h0 n0 v U'.heap L ∧ FrameEnd U o U' L ({ frames := 1, cells := 4, slots := 112, locals := 12 } : Room).cells ({ frames := 1, cells := 4, slots := 112, locals := 12 } : Room).slots) := by
  refine MetFree.of_bodySF (plainFor_of_name pn_8) hisR ?_
  intro p e s m args below meth c s₁ Bd hml0 hP hK
  obtain ⟨rfl, hZ, hh⟩ := hP
  have hx := Bd.exec
  have hby := Bd.bytes
  have hml : c.maxLocals = 1 := hml0
  have hown : s.vm.findClass "com/example/byteloom/byteloom/StringNumbers" = some m.cls := findClass_of_methodNamed Bd.named
  have hnm := (name_of_methodNamed Bd.named Bd.method).1
  have X0 : Stand p l e ({ frames := 1, cells := 4, slots := 112, locals := 12 } : Room) s m #[(.ref a1)] below meth c s₁ [] 0 0 := Stand.of_body Bd
  have e0 : s₁.heap = h0 := by rw [← hh, Bd.state]; rfl
  have N0 := Fr.nil n0
  obtain ⟨T1, X1, e1, st1⟩ := initO X0 hx hZ hown (wq hw 36 rfl) (wq hw 24 rfl) (wq hw 25 rfl) e0 (g := (mkF m 1 #[.val (.ref a1)] [(.ref a1)])) rfl (by rw [hml]; rfl) rfl (hb hby d7_1) (by decide) (W := 0) (by show 2 * 0 + _ ≤ _; exact Nat.le_of_eq rfl) (by decide)
  obtain ⟨T2, h2, k2, X2, e2, E2, A2, EA2, Ov2, st2⟩ := newRE X1 hx hZ hown (wq hw 37 rfl) (wq hw 38 rfl) e1 (g := (mkF m 7 #[.val (.ref a1)] [(.int (32 : Int32)), (.ref a1)])) rfl (hb hby d7_7) rfl (by decide) (cap := 32) (by decide) (by decide) (by decide) (by decide) (ad := "[Ljava/lang/String;") (by decide)
  obtain ⟨b2, g2⟩ : ∃ z, z = h0.size := ⟨_, rfl⟩
  rw [← g2] at A2 EA2 st2
  have sz_b2 : h0.size ≤ b2 := Nat.le_trans (Keep.refl h0 [a1]).1 (Nat.le_of_eq g2.symm)
  have K2 : Keep h0 h2 [a1] := (Keep.refl h0 [a1]).ext E2
  have V_b2 : Arv Z h2 b2 k2 (.object "java/lang/String") (32 : Int32) [.null, .null, .null, .null, .null, .null, .null, .null, .null, .null, .null, .null, .null, .null, .null, .null, .null, .null, .null, .null, .null, .null, .null, .null, .null, .null, .null, .null, .null, .null, .null, .null] .null := (Arv.new A2 (by decide)).pad (pad_rep [] .null 32)
  obtain ⟨T3, h3, X3, e3, W3, st3⟩ := putF X2 hx hZ hown (host := "") (Or.inl (wq hw 39 rfl)) Via.refl e2 (F_strings_a1.ext E2) (E_a1.ext E2) (Or.inr ⟨(wq hw 40 rfl), rfl, hnm⟩) (wq hw 31 rfl) (ty := (.array (.object "java/lang/String"))) (by decide) rfl rfl (g := (mkF m 10 #[.val (.ref a1)] [(.ref b2), (.ref a1)])) rfl rfl (hb hby d7_10)
  have N3 := Fr.snoc X3 N0 g_a1
  have K3 : Keep h0 h3 [a1] := K2.wr W3 (Or.inl (ma 0 rfl))
  have Fw3 := (F_strings_a1.ext E2).same W3
  obtain ⟨T4, h4, k4, X4, e4, E4, A4, EA4, st4⟩ := newPE X3 hx hZ (wq hw 41 rfl) e3 (g := (mkF m 16 #[.val (.ref a1)] [(.int (32 : Int32)), (.ref a1)])) rfl (hb hby d7_16) rfl (by decide) (cap := 32) (by decide) (by decide) (by decide) (by decide) (ad := "[I") (by decide)
  obtain ⟨b4, g4⟩ : ∃ z, z = h3.size := ⟨_, rfl⟩
  rw [← g4] at A4 EA4 st4
  have sz_b4 : h0.size ≤ b4 := Nat.le_trans K3.1 (Nat.le_of_eq g4.symm)
  have K4 : Keep h0 h4 [a1] := K3.ext E4
  have V_b4 : Arv Z h4 b4 k4 .int (32 : Int32) [(.int (0 : Int32)), (.int (0 : Int32)), (.int (0 : Int32)), (.int (0 : Int32)), (.int (0 : Int32)), (.int (0 : Int32)), (.int (0 : Int32)), (.int (0 : Int32)), (.int (0 : Int32)), (.int (0 : Int32)), (.int (0 : Int32)), (.int (0 : Int32)), (.int (0 : Int32)), (.int (0 : Int32)), (.int (0 : Int32)), (.int (0 : Int32)), (.int (0 : Int32)), (.int (0 : Int32)), (.int (0 : Int32)), (.int (0 : Int32)), (.int (0 : Int32)), (.int (0 : Int32)), (.int (0 : Int32)), (.int (0 : Int32)), (.int (0 : Int32)), (.int (0 : Int32)), (.int (0 : Int32)), (.int (0 : Int32)), (.int (0 : Int32)), (.int (0 : Int32)), (.int (0 : Int32)), (.int (0 : Int32))] (.int (0 : Int32)) := (Arv.new A4 (by decide)).pad (pad_rep [] (.int (0 : Int32)) 32)
  obtain ⟨T5, h5, X5, e5, W5, st5⟩ := putF X4 hx hZ hown (host := "") (Or.inl (wq hw 42 rfl)) Via.refl e4 (((F_hashes_a1.ext E2).other W3 (Or.inr (sn22 hw))).ext E4) (((E_a1.ext E2).wr W3).ext E4) (Or.inr ⟨(wq hw 43 rfl), rfl, hnm⟩) (wq hw 31 rfl) (ty := (.array .int)) (by decide) rfl rfl (g := (mkF m 18 #[.val (.ref a1)] [(.ref b4), (.ref a1)])) rfl rfl (hb hby d7_18)
  have N5 := Fr.snoc X5 N3 g_a1
  have K5 : Keep h0 h5 [a1] := K4.wr W5 (Or.inl (ma 0 rfl))
  have Fw5 := (((F_hashes_a1.ext E2).other W3 (Or.inr (sn22 hw))).ext E4).same W5
  obtain ⟨T6, h6, k6, X6, e6, E6, A6, EA6, st6⟩ := newPE X5 hx hZ (wq hw 41 rfl) e5 (g := (mkF m 24 #[.val (.ref a1)] [(.int (32 : Int32)), (.ref a1)])) rfl (hb hby d7_24) rfl (by decide) (cap := 32) (by decide) (by decide) (by decide) (by decide) (ad := "[I") (by decide)
  obtain ⟨b6, g6⟩ : ∃ z, z = h5.size := ⟨_, rfl⟩
  rw [← g6] at A6 EA6 st6
  have sz_b6 : h0.size ≤ b6 := Nat.le_trans K5.1 (Nat.le_of_eq g6.symm)
  have K6 : Keep h0 h6 [a1] := K5.ext E6
  have V_b6 : Arv Z h6 b6 k6 .int (32 : Int32) [(.int (0 : Int32)), (.int (0 : Int32)), (.int (0 : Int32)), (.int (0 : Int32)), (.int (0 : Int32)), (.int (0 : Int32)), (.int (0 : Int32)), (.int (0 : Int32)), (.int (0 : Int32)), (.int (0 : Int32)), (.int (0 : Int32)), (.int (0 : Int32)), (.int (0 : Int32)), (.int (0 : Int32)), (.int (0 : Int32)), (.int (0 : Int32)), (.int (0 : Int32)), (.int (0 : Int32)), (.int (0 : Int32)), (.int (0 : Int32)), (.int (0 : Int32)), (.int (0 : Int32)), (.int (0 : Int32)), (.int (0 : Int32)), (.int (0 : Int32)), (.int (0 : Int32)), (.int (0 : Int32)), (.int (0 : Int32)), (.int (0 : Int32)), (.int (0 : Int32)), (.int (0 : Int32)), (.int (0 : Int32))] (.int (0 : Int32)) := (Arv.new A6 (by decide)).pad (pad_rep [] (.int (0 : Int32)) 32)
  have f_7 := (((((F_numbers_a1.ext E2).other W3 (Or.inr (sn23 hw))).ext E4).other W5 (Or.inr (sn24 hw))).ext E6)
  obtain ⟨T8, h8, X8, e8, W8, st8⟩ := putF X6 hx hZ hown (host := "") (Or.inl (wq hw 44 rfl)) Via.refl e6 f_7 (((((E_a1.ext E2).wr W3).ext E4).wr W5).ext E6) (Or.inr ⟨(wq hw 45 rfl), rfl, hnm⟩) (wq hw 31 rfl) (ty := (.array .int)) (by decide) rfl rfl (g := (mkF m 26 #[.val (.ref a1)] [(.ref b6), (.ref a1)])) rfl rfl (hb hby d7_26)
  have N8 := Fr.snoc X8 N5 g_a1
  have K8 : Keep h0 h8 [a1] := K6.wr W8 (Or.inl (ma 0 rfl))
  have Fw8 := f_7.same W8
  obtain ⟨T9, h9, k9, X9, e9, E9, A9, EA9, st9⟩ := newPE X8 hx hZ (wq hw 41 rfl) e8 (g := (mkF m 32 #[.val (.ref a1)] [(.int (16 : Int32)), (.ref a1)])) rfl (hb hby d7_32) rfl (by decide) (cap := 16) (by decide) (by decide) (by decide) (by decide) (ad := "[I") (by decide)
  obtain ⟨b9, g9⟩ : ∃ z, z = h8.size := ⟨_, rfl⟩
  rw [← g9] at A9 EA9 st9
  have sz_b9 : h0.size ≤ b9 := Nat.le_trans K8.1 (Nat.le_of_eq g9.symm)
  have K9 : Keep h0 h9 [a1] := K8.ext E9
  have V_b9 : Arv Z h9 b9 k9 .int (16 : Int32) [(.int (0 : Int32)), (.int (0 : Int32)), (.int (0 : Int32)), (.int (0 : Int32)), (.int (0 : Int32)), (.int (0 : Int32)), (.int (0 : Int32)), (.int (0 : Int32)), (.int (0 : Int32)), (.int (0 : Int32)), (.int (0 : Int32)), (.int (0 : Int32)), (.int (0 : Int32)), (.int (0 : Int32)), (.int (0 : Int32)), (.int (0 : Int32))] (.int (0 : Int32)) := (Arv.new A9 (by decide)).pad (pad_rep [] (.int (0 : Int32)) 16)
  have f_10 := (((((((E_a1.ext E2).wr W3).ext E4).wr W5).ext E6).wr W8).ext E9)
  have f_11 := (((((((F_taken_a1.ext E2).other W3 (Or.inr (sn25 hw))).ext E4).other W5 (Or.inr (sn26 hw))).ext E6).other W8 (Or.inr (sn27 hw))).ext E9)
  obtain ⟨T12, h12, X12, e12, W12, st12⟩ := putF X9 hx hZ hown (host := "") (Or.inl (wq hw 46 rfl)) Via.refl e9 f_11 f_10 (Or.inr ⟨(wq hw 47 rfl), rfl, hnm⟩) (wq hw 31 rfl) (ty := (.array .int)) (by decide) rfl rfl (g := (mkF m 34 #[.val (.ref a1)] [(.ref b9), (.ref a1)])) rfl rfl (hb hby d7_34)
  have N12 := Fr.snoc X12 N8 g_a1
  have K12 : Keep h0 h12 [a1] := K9.wr W12 (Or.inl (ma 0 rfl))
  have Fw12 := f_11.same W12
  have f_13 := ((((((((F_hashed_a1.ext E2).other W3 (Or.inr (sn28 hw))).ext E4).other W5 (Or.inr (sn29 hw))).ext E6).other W8 (Or.inr (sn30 hw))).ext E9).other W12 (Or.inr (sn31 hw)))
  have f_14 := ((((Fw5.ext E6).other W8 (Or.inr (sn32 hw))).ext E9).other W12 (Or.inr (sn33 hw)))
  have f_15 := ((((((((F_listed_a1.ext E2).other W3 (Or.inr (sn34 hw))).ext E4).other W5 (Or.inr (sn35 hw))).ext E6).other W8 (Or.inr (sn36 hw))).ext E9).other W12 (Or.inr (sn37 hw)))
  have f_16 := ((((((Fw3.ext E4).other W5 (Or.inr (sn39 hw))).ext E6).other W8 (Or.inr (sn40 hw))).ext E9).other W12 (Or.inr (sn41 hw)))
  have f_17 := (((((((EA2.wr W3).ext E4).wr W5).ext E6).wr W8).ext E9).wr W12)
  have f_18 := (((((((V_b2.other W3 (Ne.symm (Nat.ne_of_lt (Nat.lt_of_lt_of_le E_a1.lt sz_b2)))).ext E4).other W5 (Ne.symm (Nat.ne_of_lt (Nat.lt_of_lt_of_le E_a1.lt sz_b2)))).ext E6).other W8 (Ne.symm (Nat.ne_of_lt (Nat.lt_of_lt_of_le E_a1.lt sz_b2)))).ext E9).other W12 (Ne.symm (Nat.ne_of_lt (Nat.lt_of_lt_of_le E_a1.lt sz_b2))))
  have f_19 := (((((V_b4.other W5 (Ne.symm (Nat.ne_of_lt (Nat.lt_of_lt_of_le E_a1.lt sz_b4)))).ext E6).other W8 (Ne.symm (Nat.ne_of_lt (Nat.lt_of_lt_of_le E_a1.lt sz_b4)))).ext E9).other W12 (Ne.symm (Nat.ne_of_lt (Nat.lt_of_lt_of_le E_a1.lt sz_b4))))
  have f_20 := (((V_b6.other W8 (Ne.symm (Nat.ne_of_lt (Nat.lt_of_lt_of_le E_a1.lt sz_b6)))).ext E9).other W12 (Ne.symm (Nat.ne_of_lt (Nat.lt_of_lt_of_le E_a1.lt sz_b6))))
  have f_21 := (V_b9.other W12 (Ne.symm (Nat.ne_of_lt (Nat.lt_of_lt_of_le E_a1.lt sz_b9))))
  obtain ⟨fs, hr, hrun, hended, hW, hsame⟩ := X12.leave (v := none) (fun _ => rfl)
  refine ⟨_, _, castTop (ef_7_0 m a1) ?_, hrun, hended, _, _, rfl, ?_, ⟨_, rfl⟩, hW, hsame.mono (by decide) (by decide)⟩
  · show Sp p e below s₁ (mkF m 0 #[.val (.ref a1)] []) _
    refine XS.aloadN X0.here hx rfl (hb hby d7_0) rfl rfl ?_
    show Sp p e below s₁ (mkF m 1 #[.val (.ref a1)] [(.ref a1)]) _
    refine st1 _ ?_
    show Sp p e below T1 (mkF m 4 #[.val (.ref a1)] []) _
    refine XS.aloadN X1.here hx rfl (hb hby d7_4) rfl rfl ?_
    refine XS.bipush X1.here hx rfl (hb hby d7_5) ?_
    show Sp p e below T1 (mkF m 7 #[.val (.ref a1)] [(.int (32 : Int32)), (.ref a1)]) _
    refine st2 _ ?_
    show Sp p e below T2 (mkF m 10 #[.val (.ref a1)] [(.ref b2), (.ref a1)]) _
    refine st3 _ ?_
    show Sp p e below T3 (mkF m 13 #[.val (.ref a1)] []) _
    refine XS.aloadN X3.here hx rfl (hb hby d7_13) rfl rfl ?_
    refine XS.bipush X3.here hx rfl (hb hby d7_14) ?_
    show Sp p e below T3 (mkF m 16 #[.val (.ref a1)] [(.int (32 : Int32)), (.ref a1)]) _
    refine st4 _ ?_
    show Sp p e below T4 (mkF m 18 #[.val (.ref a1)] [(.ref b4), (.ref a1)]) _
    refine st5 _ ?_
    show Sp p e below T5 (mkF m 21 #[.val (.ref a1)] []) _
    refine XS.aloadN X5.here hx rfl (hb hby d7_21) rfl rfl ?_
    refine XS.bipush X5.here hx rfl (hb hby d7_22) ?_
    show Sp p e below T5 (mkF m 24 #[.val (.ref a1)] [(.int (32 : Int32)), (.ref a1)]) _
    refine st6 _ ?_
    show Sp p e below T6 (mkF m 26 #[.val (.ref a1)] [(.ref b6), (.ref a1)]) _
    refine st8 _ ?_
    show Sp p e below T8 (mkF m 29 #[.val (.ref a1)] []) _
    refine XS.aloadN X8.here hx rfl (hb hby d7_29) rfl rfl ?_
    refine XS.bipush X8.here hx rfl (hb hby d7_30) ?_
    show Sp p e below T8 (mkF m 32 #[.val (.ref a1)] [(.int (16 : Int32)), (.ref a1)]) _
    refine st9 _ ?_
    show Sp p e below T9 (mkF m 34 #[.val (.ref a1)] [(.ref b9), (.ref a1)]) _
    refine st12 _ ?_
    show Sp p e below T12 (mkF m 37 #[.val (.ref a1)] []) _
    exact X12.returnOut hx Bd.returns (hb hby d7_37) hr
  · show Q43 Z cs_v a1 h0 n0 _ T12.heap _
    rw [e12]
    exact ⟨b2, b4, b6, b9, k2, k4, k6, k9, rfl, N12, K12, sz_b2, sz_b4, sz_b6, sz_b9, (Nat.ne_of_lt (Nat.lt_of_lt_of_le (EA2.wr W3).lt (Nat.le_of_eq g4.symm))), (Nat.ne_of_lt (Nat.lt_of_lt_of_le (((EA2.wr W3).ext E4).wr W5).lt (Nat.le_of_eq g6.symm))), (Nat.ne_of_lt (Nat.lt_of_lt_of_le (((((EA2.wr W3).ext E4).wr W5).ext E6).wr W8).lt (Nat.le_of_eq g9.symm))), (Nat.ne_of_lt (Nat.lt_of_lt_of_le (EA4.wr W5).lt (Nat.le_of_eq g6.symm))), (Nat.ne_of_lt (Nat.lt_of_lt_of_le (((EA4.wr W5).ext E6).wr W8).lt (Nat.le_of_eq g9.symm))), (Nat.ne_of_lt (Nat.lt_of_lt_of_le (EA6.wr W8).lt (Nat.le_of_eq g9.symm))), (f_10.wr W12), f_13, f_14, f_15, ((Fw8.ext E9).other W12 (Or.inr (sn38 hw))), f_16, Fw12, f_17, f_18, Ov2, (((((EA4.wr W5).ext E6).wr W8).ext E9).wr W12), f_19, (((EA6.wr W8).ext E9).wr W12), f_20, (EA9.wr W12), f_21⟩
theorem pd_17 : parseMethodDescriptor "()V" = some ⟨[], none⟩ := by decide +kernel
set_option maxRecDepth 65536 in
set_option maxHeartbeats 4000000 in
theorem pre_0 (l : Launch) (Z : State) (a0 : Array Value) (hw : ∀ d ∈ tables_1, d.before a0 Z = true) (cs_v : Int32) (hp : Perm Z cs_v) (p1 : Int32) (p2 : Int32) (p3 : Int32) (p4 : Int32) (p5 : Int32) (p6 : Int32) (a7 : Addr) (a8 : Addr) (a9 : Addr) (p10 : Int32) (a11 : Addr) (κ : Addr → List Value) (h0 : Heap) (n0 : Nat) (O0 : Old Z n0 h0) (E_a11 : Exa Z h0 a11 "com/example/byteloom/byteloom/StringNumbers") (Kw0 : StrK Z h0 a7 (κ a7)) (g_a7 : n0 ≤ a7) (Kw1 : StrK Z h0 a8 (κ a8)) (g_a8 : n0 ≤ a8) (Kw2 : StrK Z h0 a9 (κ a9)) (g_a9 : n0 ≤ a9) (W0 : Wd Z κ h0 n0 a11 (fun _ => none) []) (hc9 : p10 < (1 : Int32)) (hc10 : p10 < (2 : Int32)) (hc11 : p10 < (3 : Int32)) {p : Program} {e : Env} {s : State} {m : MethodId} {args : Array Value} {below : List Frame} {meth : Method} {c : Code} {s₁ : State} {locs : List Loc} (X0 : Stand p l e room_1 s m args below meth c s₁ locs 14 142) (hx : p.tables.exec = Jvm.exec) (hZ : Z.Warmed39 s.vm) (hby : c.code = code) (hml : c.maxLocals = 18) (hown : s.vm.findClass "com/example/byteloom/byteloom/StringNumbersClearPinLaw" = some m.cls) (e0 : s₁.heap = h0) (N0 : Fr n0 locs) :
    ∃ T' locs', Stand p l e room_1 s m args below meth c T' locs' 14 142 ∧ Fr n0 locs' ∧ Old Z n0 T'.heap ∧ Exa Z T'.heap a11 "com/example/byteloom/byteloom/StringNumbers" ∧ Wd Z κ T'.heap n0 a11 (fun _ => none) [] ∧ (∀ c, StrK Z h0 c (κ c) → StrK Z T'.heap c (κ c)) ∧ ∀ target, Sp p e below T' (mkF m 92 #[.val (.int p1), .val (.int p2), .val (.int p3), .val (.int p4), .val (.int p5), .val (.int p6), .val (.ref a7), .val (.ref a8), .val (.ref a9), .val (.int p10), .val (.ref a11), .val (.int (1 : Int32)), .unset, .unset, .unset, .unset, .unset, .unset] []) target → Sp p e below s₁ (mkF m 32 #[.val (.int p1), .val (.int p2), .val (.int p3), .val (.int p4), .val (.int p5), .val (.int p6), .val (.ref a7), .val (.ref a8), .val (.ref a9), .val (.int p10), .val (.ref a11), .unset, .unset, .unset, .unset, .unset, .unset, .unset] []) target := by
  obtain ⟨cq1, kq1, q1a, q1b, q1c⟩ := isOf hZ e0 E_a11
  obtain ⟨_, _, ⟨T1, L1, k1, n1⟩, -, X1, ⟨Lc1, hQ1, l1, y1, z1⟩, st1⟩ := X0.virtualBack hx (y := y18) (z := y18) hown (mvT hZ (wq hw 72 rfl)) (mvT hZ (wq hw 73 rfl)) (notFace_of_selects (args := #[]) (mvT hZ (wq hw 75 rfl))) (mvT hZ (wq hw 75 rfl)) (mvT hZ (wq hw 74 rfl)) (by decide) (backOf (W := 0) (rmCLEAR l Z a0 hw [] cs_v hp κ a11 (fun _ => none) [] h0 n0 O0 W0 (Nat.le_trans (Nat.zero_le _ : ([] : List Int32).length ≤ 0) (by decide))) hZ (wq hw 76 rfl) (wq hw 32 rfl) (by decide) (by decide)) q1a q1c (g := (mkF m 86 #[.val (.int p1), .val (.int p2), .val (.int p3), .val (.int p4), .val (.int p5), .val (.int p6), .val (.ref a7), .val (.ref a8), .val (.ref a9), .val (.int p10), .val (.ref a11), .unset, .unset, .unset, .unset, .unset, .unset, .unset] [(.ref a11)])) rfl (by rw [hml]; rfl) (Steps.refl _) (argsL := []) (rest := []) (lenOf pd_17 rfl) rfl (by show 2 * 0 + _ ≤ _; exact Nat.le_of_eq rfl) (hb hby at_86) (fun _ _ => ⟨rfl, e0, (by decide : 14 + 0 ≤ _), (by decide : 142 + 0 ≤ _)⟩)
  dsimp only [Pt.U, Pt.locs, Pt.cells, Pt.slots] at X1 l1 y1 z1 st1 hQ1
  subst l1 y1 z1
  obtain ⟨wl1, rfl, Nq1, Kq1, gq1, W1, AK1⟩ := hQ1
  have N1 := Fr.app N0 Nq1
  have O1 := O0.keep Kq1 gq1
  have K0_1 := AK1 a7 Kw0
  have K1_1 := AK1 a8 Kw1
  have K2_1 := AK1 a9 Kw2
  refine ⟨T1, _, X1, N1, O1, (E_a11.keep Kq1), W1, fun c hc => (AK1 c hc), fun target kt => ?_⟩
  show Sp p e below s₁ (mkF m 32 #[.val (.int p1), .val (.int p2), .val (.int p3), .val (.int p4), .val (.int p5), .val (.int p6), .val (.ref a7), .val (.ref a8), .val (.ref a9), .val (.int p10), .val (.ref a11), .unset, .unset, .unset, .unset, .unset, .unset, .unset] []) _
  refine XS.iload X0.here hx rfl (hb hby at_32) rfl ?_
  refine XS.iconst X0.here hx rfl (hb hby at_34) ?_
  refine XS.icmpYes X0.here hx rfl (pc0 := 35) (pc' := 48) rfl (hb hby at_35) rfl (tlt hc9).1 (by decide) (by decide) ?_
  refine XS.iload X0.here hx rfl (hb hby at_48) rfl ?_
  refine XS.iconst X0.here hx rfl (hb hby at_50) ?_
  refine XS.icmpYes X0.here hx rfl (pc0 := 51) (pc' := 66) rfl (hb hby at_51) rfl (tlt hc10).1 (by decide) (by decide) ?_
  refine XS.iload X0.here hx rfl (hb hby at_66) rfl ?_
  show Sp p e below s₁ (mkF m 68 #[.val (.int p1), .val (.int p2), .val (.int p3), .val (.int p4), .val (.int p5), .val (.int p6), .val (.ref a7), .val (.ref a8), .val (.ref a9), .val (.int p10), .val (.ref a11), .unset, .unset, .unset, .unset, .unset, .unset, .unset] [(.int p10)]) _
  refine XS.iconst X0.here hx rfl (hb hby at_68) ?_
  refine XS.icmpYes X0.here hx rfl (pc0 := 69) (pc' := 84) rfl (hb hby at_69) rfl (tlt hc11).1 (by decide) (by decide) ?_
  refine XS.aload X0.here hx rfl (hb hby at_84) rfl rfl ?_
  show Sp p e below s₁ (mkF m 86 #[.val (.int p1), .val (.int p2), .val (.int p3), .val (.int p4), .val (.int p5), .val (.int p6), .val (.ref a7), .val (.ref a8), .val (.ref a9), .val (.int p10), .val (.ref a11), .unset, .unset, .unset, .unset, .unset, .unset, .unset] [(.ref a11)]) _
  refine st1.trans ?_
  show Sp p e below T1 (mkF m 89 #[.val (.int p1), .val (.int p2), .val (.int p3), .val (.int p4), .val (.int p5), .val (.int p6), .val (.ref a7), .val (.ref a8), .val (.ref a9), .val (.int p10), .val (.ref a11), .unset, .unset, .unset, .unset, .unset, .unset, .unset] []) _
  refine XS.iconst X1.here hx rfl (hb hby at_89) ?_
  refine XS.istore X1.here hx rfl (hb hby at_90) rfl (l' := #[.val (.int p1), .val (.int p2), .val (.int p3), .val (.int p4), .val (.int p5), .val (.int p6), .val (.ref a7), .val (.ref a8), .val (.ref a9), .val (.int p10), .val (.ref a11), .val (.int (1 : Int32)), .unset, .unset, .unset, .unset, .unset, .unset]) rfl ?_
  exact kt
theorem pd_18 : parseMethodDescriptor "(Ljava/lang/String;I)I" = some ⟨[(.object "java/lang/String"), .int], some .int⟩ := by decide +kernel
set_option maxRecDepth 65536 in
set_option maxHeartbeats 4000000 in
theorem pre_1 (l : Launch) (Z : State) (a0 : Array Value) (hw : ∀ d ∈ tables_1, d.before a0 Z = true) (cs_v : Int32) (hp : Perm Z cs_v) (p1 : Int32) (p2 : Int32) (p3 : Int32) (p4 : Int32) (p5 : Int32) (p6 : Int32) (a7 : Addr) (a8 : Addr) (a9 : Addr) (p10 : Int32) (a11 : Addr) (κ : Addr → List Value) (h0 : Heap) (n0 : Nat) (O0 : Old Z n0 h0) (E_a11 : Exa Z h0 a11 "com/example/byteloom/byteloom/StringNumbers") (Kw0 : StrK Z h0 a7 (κ a7)) (g_a7 : n0 ≤ a7) (Kw1 : StrK Z h0 a8 (κ a8)) (g_a8 : n0 ≤ a8) (Kw2 : StrK Z h0 a9 (κ a9)) (g_a9 : n0 ≤ a9) (W0 : Wd Z κ h0 n0 a11 (fun _ => none) []) (hc9 : ¬ (p10 < (1 : Int32))) (hc10 : p10 < (2 : Int32)) (hc11 : p10 < (3 : Int32)) {p : Program} {e : Env} {s : State} {m : MethodId} {args : Array Value} {below : List Frame} {meth : Method} {c : Code} {s₁ : State} {locs : List Loc} (X0 : Stand p l e room_1 s m args below meth c s₁ locs 14 142) (hx : p.tables.exec = Jvm.exec) (hZ : Z.Warmed39 s.vm) (hby : c.code = code) (hml : c.maxLocals = 18) (hown : s.vm.findClass "com/example/byteloom/byteloom/StringNumbersClearPinLaw" = some m.cls) (e0 : s₁.heap = h0) (N0 : Fr n0 locs) :
    ∃ T' locs', Stand p l e room_1 s m args below meth c T' locs' 14 142 ∧ Fr n0 locs' ∧ Old Z n0 T'.heap ∧ Exa Z T'.heap a11 "com/example/byteloom/byteloom/StringNumbers" ∧ Wd Z κ T'.heap n0 a11 (fun _ => none) [] ∧ (∀ c, StrK Z h0 c (κ c) → StrK Z T'.heap c (κ c)) ∧ ∀ target, Sp p e below T' (mkF m 92 #[.val (.int p1), .val (.int p2), .val (.int p3), .val (.int p4), .val (.int p5), .val (.int p6), .val (.ref a7), .val (.ref a8), .val (.ref a9), .val (.int p10), .val (.ref a11), .val (.int (1 : Int32)), .unset, .unset, .unset, .unset, .unset, .unset] []) target → Sp p e below s₁ (mkF m 32 #[.val (.int p1), .val (.int p2), .val (.int p3), .val (.int p4), .val (.int p5), .val (.int p6), .val (.ref a7), .val (.ref a8), .val (.ref a9), .val (.int p10), .val (.ref a11), .unset, .unset, .unset, .unset, .unset, .unset, .unset] []) target := by
  obtain ⟨cq1, kq1, q1a, q1b, q1c⟩ := isOf hZ e0 E_a11
  obtain ⟨_, _, ⟨T1, L1, k1, n1⟩, -, X1, ⟨Lc1, hQ1, l1, y1, z1⟩, st1⟩ := X0.virtualBack hx (y := y17) (z := y17) hown (mvT hZ (wq hw 48 rfl)) (mvT hZ (wq hw 49 rfl)) (notFace_of_selects (args := #[]) (mvT hZ (wq hw 51 rfl))) (mvT hZ (wq hw 51 rfl)) (mvT hZ (wq hw 50 rfl)) (by decide) (backOf (W := 0) (rmPUT l Z a0 hw [] cs_v hp κ a11 a7 p6 (fun _ => none) [] h0 n0 O0 g_a7 Kw0 W0 (Nat.le_trans (Nat.zero_le _ : ([] : List Int32).length ≤ 0) (by decide))) hZ (wq hw 52 rfl) (wq hw 32 rfl) (by decide) (by decide)) q1a q1c (g := (mkF m 44 #[.val (.int p1), .val (.int p2), .val (.int p3), .val (.int p4), .val (.int p5), .val (.int p6), .val (.ref a7), .val (.ref a8), .val (.ref a9), .val (.int p10), .val (.ref a11), .unset, .unset, .unset, .unset, .unset, .unset, .unset] [(.int p6), (.ref a7), (.ref a11)])) rfl (by rw [hml]; rfl) (Steps.refl _) (argsL := [(.ref a7), (.int p6)]) (rest := []) (lenOf pd_18 rfl) rfl (by show 2 * 0 + _ ≤ _; exact Nat.le_of_eq rfl) (hb hby at_44) (fun _ _ => ⟨rfl, e0, (by decide : 14 + 0 ≤ _), (by decide : 142 + 0 ≤ _)⟩)
  dsimp only [Pt.U, Pt.locs, Pt.cells, Pt.slots] at X1 l1 y1 z1 st1 hQ1
  subst l1 y1 z1
  obtain ⟨r1, Tb1, us1, wl1, rfl, Nq1, Kq1, gq1, P1, W1, hu1, AK1⟩ := hQ1
  have N1 := Fr.app N0 Nq1
  have O1 := O0.keep Kq1 gq1
  have K0_1 := AK1 a7 Kw0
  have K1_1 := AK1 a8 Kw1
  have K2_1 := AK1 a9 Kw2
  have hv1 : us1.length ≤ 1 := by have q := (Nat.zero_le _ : ([] : List Int32).length ≤ 0); omega
  obtain ⟨cq2, kq2, q2a, q2b, q2c⟩ := isOf hZ rfl (E_a11.keep Kq1)
  obtain ⟨_, _, ⟨T2, L2, k2, n2⟩, -, X2, ⟨Lc2, hQ2, l2, y2, z2⟩, st2⟩ := X1.virtualBack hx (y := y18) (z := y18) hown (mvT hZ (wq hw 72 rfl)) (mvT hZ (wq hw 73 rfl)) (notFace_of_selects (args := #[]) (mvT hZ (wq hw 75 rfl))) (mvT hZ (wq hw 75 rfl)) (mvT hZ (wq hw 74 rfl)) (by decide) (backOf (W := 0) (rmCLEAR l Z a0 hw [] cs_v hp κ a11 Tb1 us1 T1.heap n0 O1 W1 (Nat.le_trans hv1 (by decide))) hZ (wq hw 76 rfl) (wq hw 32 rfl) (by decide) (by decide)) q2a q2c (g := (mkF m 86 #[.val (.int p1), .val (.int p2), .val (.int p3), .val (.int p4), .val (.int p5), .val (.int p6), .val (.ref a7), .val (.ref a8), .val (.ref a9), .val (.int p10), .val (.ref a11), .unset, .unset, .unset, .unset, .unset, .unset, .unset] [(.ref a11)])) rfl (by rw [hml]; rfl) (Steps.refl _) (argsL := []) (rest := []) (lenOf pd_17 rfl) rfl (by show 2 * 0 + _ ≤ _; exact Nat.le_of_eq rfl) (hb hby at_86) (fun _ _ => ⟨rfl, rfl, (by decide : 14 + 0 ≤ _), (by decide : 142 + 0 ≤ _)⟩)
  dsimp only [Pt.U, Pt.locs, Pt.cells, Pt.slots] at X2 l2 y2 z2 st2 hQ2
  subst l2 y2 z2
  obtain ⟨wl2, rfl, Nq2, Kq2, gq2, W2, AK2⟩ := hQ2
  have N2 := Fr.app N1 Nq2
  have O2 := O1.keep Kq2 gq2
  have K0_2 := AK2 a7 K0_1
  have K1_2 := AK2 a8 K1_1
  have K2_2 := AK2 a9 K2_1
  refine ⟨T2, _, X2, N2, O2, ((E_a11.keep Kq1).keep Kq2), W2, fun c hc => (AK2 c (AK1 c hc)), fun target kt => ?_⟩
  show Sp p e below s₁ (mkF m 32 #[.val (.int p1), .val (.int p2), .val (.int p3), .val (.int p4), .val (.int p5), .val (.int p6), .val (.ref a7), .val (.ref a8), .val (.ref a9), .val (.int p10), .val (.ref a11), .unset, .unset, .unset, .unset, .unset, .unset, .unset] []) _
  refine XS.iload X0.here hx rfl (hb hby at_32) rfl ?_
  refine XS.iconst X0.here hx rfl (hb hby at_34) ?_
  refine XS.icmpNo X0.here hx rfl (hb hby at_35) rfl (flt hc9).1 ?_
  refine XS.aload X0.here hx rfl (hb hby at_38) rfl rfl ?_
  refine XS.aload X0.here hx rfl (hb hby at_40) rfl rfl ?_
  refine XS.iload X0.here hx rfl (hb hby at_42) rfl ?_
  show Sp p e below s₁ (mkF m 44 #[.val (.int p1), .val (.int p2), .val (.int p3), .val (.int p4), .val (.int p5), .val (.int p6), .val (.ref a7), .val (.ref a8), .val (.ref a9), .val (.int p10), .val (.ref a11), .unset, .unset, .unset, .unset, .unset, .unset, .unset] [(.int p6), (.ref a7), (.ref a11)]) _
  refine st1.trans ?_
  show Sp p e below T1 (mkF m 47 #[.val (.int p1), .val (.int p2), .val (.int p3), .val (.int p4), .val (.int p5), .val (.int p6), .val (.ref a7), .val (.ref a8), .val (.ref a9), .val (.int p10), .val (.ref a11), .unset, .unset, .unset, .unset, .unset, .unset, .unset] [(.int r1)]) _
  refine XS.pop X1.here hx rfl (hb hby at_47) rfl rfl ?_
  refine XS.iload X1.here hx rfl (hb hby at_48) rfl ?_
  refine XS.iconst X1.here hx rfl (hb hby at_50) ?_
  refine XS.icmpYes X1.here hx rfl (pc0 := 51) (pc' := 66) rfl (hb hby at_51) rfl (tlt hc10).1 (by decide) (by decide) ?_
  refine XS.iload X1.here hx rfl (hb hby at_66) rfl ?_
  refine XS.iconst X1.here hx rfl (hb hby at_68) ?_
  refine XS.icmpYes X1.here hx rfl (pc0 := 69) (pc' := 84) rfl (hb hby at_69) rfl (tlt hc11).1 (by decide) (by decide) ?_
  show Sp p e below T1 (mkF m 84 #[.val (.int p1), .val (.int p2), .val (.int p3), .val (.int p4), .val (.int p5), .val (.int p6), .val (.ref a7), .val (.ref a8), .val (.ref a9), .val (.int p10), .val (.ref a11), .unset, .unset, .unset, .unset, .unset, .unset, .unset] []) _
  refine XS.aload X1.here hx rfl (hb hby at_84) rfl rfl ?_
  show Sp p e below T1 (mkF m 86 #[.val (.int p1), .val (.int p2), .val (.int p3), .val (.int p4), .val (.int p5), .val (.int p6), .val (.ref a7), .val (.ref a8), .val (.ref a9), .val (.int p10), .val (.ref a11), .unset, .unset, .unset, .unset, .unset, .unset, .unset] [(.ref a11)]) _
  refine st2.trans ?_
  show Sp p e below T2 (mkF m 89 #[.val (.int p1), .val (.int p2), .val (.int p3), .val (.int p4), .val (.int p5), .val (.int p6), .val (.ref a7), .val (.ref a8), .val (.ref a9), .val (.int p10), .val (.ref a11), .unset, .unset, .unset, .unset, .unset, .unset, .unset] []) _
  refine XS.iconst X2.here hx rfl (hb hby at_89) ?_
  refine XS.istore X2.here hx rfl (hb hby at_90) rfl (l' := #[.val (.int p1), .val (.int p2), .val (.int p3), .val (.int p4), .val (.int p5), .val (.int p6), .val (.ref a7), .val (.ref a8), .val (.ref a9), .val (.int p10), .val (.ref a11), .val (.int (1 : Int32)), .unset, .unset, .unset, .unset, .unset, .unset]) rfl ?_
  exact kt
set_option maxRecDepth 65536 in
set_option maxHeartbeats 4000000 in
theorem pre_2 (l : Launch) (Z : State) (a0 : Array Value) (hw : ∀ d ∈ tables_1, d.before a0 Z = true) (cs_v : Int32) (hp : Perm Z cs_v) (p1 : Int32) (p2 : Int32) (p3 : Int32) (p4 : Int32) (p5 : Int32) (p6 : Int32) (a7 : Addr) (a8 : Addr) (a9 : Addr) (p10 : Int32) (a11 : Addr) (κ : Addr → List Value) (h0 : Heap) (n0 : Nat) (O0 : Old Z n0 h0) (E_a11 : Exa Z h0 a11 "com/example/byteloom/byteloom/StringNumbers") (Kw0 : StrK Z h0 a7 (κ a7)) (g_a7 : n0 ≤ a7) (Kw1 : StrK Z h0 a8 (κ a8)) (g_a8 : n0 ≤ a8) (Kw2 : StrK Z h0 a9 (κ a9)) (g_a9 : n0 ≤ a9) (W0 : Wd Z κ h0 n0 a11 (fun _ => none) []) (hc9 : ¬ (p10 < (1 : Int32))) (hc10 : ¬ (p10 < (2 : Int32))) (hc11 : p10 < (3 : Int32)) {p : Program} {e : Env} {s : State} {m : MethodId} {args : Array Value} {below : List Frame} {meth : Method} {c : Code} {s₁ : State} {locs : List Loc} (X0 : Stand p l e room_1 s m args below meth c s₁ locs 14 142) (hx : p.tables.exec = Jvm.exec) (hZ : Z.Warmed39 s.vm) (hby : c.code = code) (hml : c.maxLocals = 18) (hown : s.vm.findClass "com/example/byteloom/byteloom/StringNumbersClearPinLaw" = some m.cls) (e0 : s₁.heap = h0) (N0 : Fr n0 locs) :
    ∃ T' locs', Stand p l e room_1 s m args below meth c T' locs' 14 142 ∧ Fr n0 locs' ∧ Old Z n0 T'.heap ∧ Exa Z T'.heap a11 "com/example/byteloom/byteloom/StringNumbers" ∧ Wd Z κ T'.heap n0 a11 (fun _ => none) [] ∧ (∀ c, StrK Z h0 c (κ c) → StrK Z T'.heap c (κ c)) ∧ ∀ target, Sp p e below T' (mkF m 92 #[.val (.int p1), .val (.int p2), .val (.int p3), .val (.int p4), .val (.int p5), .val (.int p6), .val (.ref a7), .val (.ref a8), .val (.ref a9), .val (.int p10), .val (.ref a11), .val (.int (1 : Int32)), .unset, .unset, .unset, .unset, .unset, .unset] []) target → Sp p e below s₁ (mkF m 32 #[.val (.int p1), .val (.int p2), .val (.int p3), .val (.int p4), .val (.int p5), .val (.int p6), .val (.ref a7), .val (.ref a8), .val (.ref a9), .val (.int p10), .val (.ref a11), .unset, .unset, .unset, .unset, .unset, .unset, .unset] []) target := by
  obtain ⟨cq1, kq1, q1a, q1b, q1c⟩ := isOf hZ e0 E_a11
  obtain ⟨_, _, ⟨T1, L1, k1, n1⟩, -, X1, ⟨Lc1, hQ1, l1, y1, z1⟩, st1⟩ := X0.virtualBack hx (y := y17) (z := y17) hown (mvT hZ (wq hw 48 rfl)) (mvT hZ (wq hw 49 rfl)) (notFace_of_selects (args := #[]) (mvT hZ (wq hw 51 rfl))) (mvT hZ (wq hw 51 rfl)) (mvT hZ (wq hw 50 rfl)) (by decide) (backOf (W := 0) (rmPUT l Z a0 hw [] cs_v hp κ a11 a7 p6 (fun _ => none) [] h0 n0 O0 g_a7 Kw0 W0 (Nat.le_trans (Nat.zero_le _ : ([] : List Int32).length ≤ 0) (by decide))) hZ (wq hw 52 rfl) (wq hw 32 rfl) (by decide) (by decide)) q1a q1c (g := (mkF m 44 #[.val (.int p1), .val (.int p2), .val (.int p3), .val (.int p4), .val (.int p5), .val (.int p6), .val (.ref a7), .val (.ref a8), .val (.ref a9), .val (.int p10), .val (.ref a11), .unset, .unset, .unset, .unset, .unset, .unset, .unset] [(.int p6), (.ref a7), (.ref a11)])) rfl (by rw [hml]; rfl) (Steps.refl _) (argsL := [(.ref a7), (.int p6)]) (rest := []) (lenOf pd_18 rfl) rfl (by show 2 * 0 + _ ≤ _; exact Nat.le_of_eq rfl) (hb hby at_44) (fun _ _ => ⟨rfl, e0, (by decide : 14 + 0 ≤ _), (by decide : 142 + 0 ≤ _)⟩)
  dsimp only [Pt.U, Pt.locs, Pt.cells, Pt.slots] at X1 l1 y1 z1 st1 hQ1
  subst l1 y1 z1
  obtain ⟨r1, Tb1, us1, wl1, rfl, Nq1, Kq1, gq1, P1, W1, hu1, AK1⟩ := hQ1
  have N1 := Fr.app N0 Nq1
  have O1 := O0.keep Kq1 gq1
  have K0_1 := AK1 a7 Kw0
  have K1_1 := AK1 a8 Kw1
  have K2_1 := AK1 a9 Kw2
  have hv1 : us1.length ≤ 1 := by have q := (Nat.zero_le _ : ([] : List Int32).length ≤ 0); omega
  obtain ⟨cq2, kq2, q2a, q2b, q2c⟩ := isOf hZ rfl (E_a11.keep Kq1)
  obtain ⟨_, _, ⟨T2, L2, k2, n2⟩, -, X2, ⟨Lc2, hQ2, l2, y2, z2⟩, st2⟩ := X1.virtualBack hx (y := y17) (z := y17) hown (mvT hZ (wq hw 48 rfl)) (mvT hZ (wq hw 49 rfl)) (notFace_of_selects (args := #[]) (mvT hZ (wq hw 51 rfl))) (mvT hZ (wq hw 51 rfl)) (mvT hZ (wq hw 50 rfl)) (by decide) (backOf (W := 0) (rmPUT l Z a0 hw [] cs_v hp κ a11 a8 (p6 + (1 : Int32)) Tb1 us1 T1.heap n0 O1 g_a8 K1_1 W1 (Nat.le_trans hv1 (by decide))) hZ (wq hw 52 rfl) (wq hw 32 rfl) (by decide) (by decide)) q2a q2c (g := (mkF m 62 #[.val (.int p1), .val (.int p2), .val (.int p3), .val (.int p4), .val (.int p5), .val (.int p6), .val (.ref a7), .val (.ref a8), .val (.ref a9), .val (.int p10), .val (.ref a11), .unset, .unset, .unset, .unset, .unset, .unset, .unset] [(.int (p6 + (1 : Int32))), (.ref a8), (.ref a11)])) rfl (by rw [hml]; rfl) (Steps.refl _) (argsL := [(.ref a8), (.int (p6 + (1 : Int32)))]) (rest := []) (lenOf pd_18 rfl) rfl (by show 2 * 0 + _ ≤ _; exact Nat.le_of_eq rfl) (hb hby at_62) (fun _ _ => ⟨rfl, rfl, (by decide : 14 + 0 ≤ _), (by decide : 142 + 0 ≤ _)⟩)
  dsimp only [Pt.U, Pt.locs, Pt.cells, Pt.slots] at X2 l2 y2 z2 st2 hQ2
  subst l2 y2 z2
  obtain ⟨r2, Tb2, us2, wl2, rfl, Nq2, Kq2, gq2, P2, W2, hu2, AK2⟩ := hQ2
  have N2 := Fr.app N1 Nq2
  have O2 := O1.keep Kq2 gq2
  have K0_2 := AK2 a7 K0_1
  have K1_2 := AK2 a8 K1_1
  have K2_2 := AK2 a9 K2_1
  have hv2 : us2.length ≤ 2 := by have q := hv1; omega
  obtain ⟨cq3, kq3, q3a, q3b, q3c⟩ := isOf hZ rfl ((E_a11.keep Kq1).keep Kq2)
  obtain ⟨_, _, ⟨T3, L3, k3, n3⟩, -, X3, ⟨Lc3, hQ3, l3, y3, z3⟩, st3⟩ := X2.virtualBack hx (y := y18) (z := y18) hown (mvT hZ (wq hw 72 rfl)) (mvT hZ (wq hw 73 rfl)) (notFace_of_selects (args := #[]) (mvT hZ (wq hw 75 rfl))) (mvT hZ (wq hw 75 rfl)) (mvT hZ (wq hw 74 rfl)) (by decide) (backOf (W := 0) (rmCLEAR l Z a0 hw [] cs_v hp κ a11 Tb2 us2 T2.heap n0 O2 W2 (Nat.le_trans hv2 (by decide))) hZ (wq hw 76 rfl) (wq hw 32 rfl) (by decide) (by decide)) q3a q3c (g := (mkF m 86 #[.val (.int p1), .val (.int p2), .val (.int p3), .val (.int p4), .val (.int p5), .val (.int p6), .val (.ref a7), .val (.ref a8), .val (.ref a9), .val (.int p10), .val (.ref a11), .unset, .unset, .unset, .unset, .unset, .unset, .unset] [(.ref a11)])) rfl (by rw [hml]; rfl) (Steps.refl _) (argsL := []) (rest := []) (lenOf pd_17 rfl) rfl (by show 2 * 0 + _ ≤ _; exact Nat.le_of_eq rfl) (hb hby at_86) (fun _ _ => ⟨rfl, rfl, (by decide : 14 + 0 ≤ _), (by decide : 142 + 0 ≤ _)⟩)
  dsimp only [Pt.U, Pt.locs, Pt.cells, Pt.slots] at X3 l3 y3 z3 st3 hQ3
  subst l3 y3 z3
  obtain ⟨wl3, rfl, Nq3, Kq3, gq3, W3, AK3⟩ := hQ3
  have N3 := Fr.app N2 Nq3
  have O3 := O2.keep Kq3 gq3
  have K0_3 := AK3 a7 K0_2
  have K1_3 := AK3 a8 K1_2
  have K2_3 := AK3 a9 K2_2
  refine ⟨T3, _, X3, N3, O3, (((E_a11.keep Kq1).keep Kq2).keep Kq3), W3, fun c hc => (AK3 c (AK2 c (AK1 c hc))), fun target kt => ?_⟩
  show Sp p e below s₁ (mkF m 32 #[.val (.int p1), .val (.int p2), .val (.int p3), .val (.int p4), .val (.int p5), .val (.int p6), .val (.ref a7), .val (.ref a8), .val (.ref a9), .val (.int p10), .val (.ref a11), .unset, .unset, .unset, .unset, .unset, .unset, .unset] []) _
  refine XS.iload X0.here hx rfl (hb hby at_32) rfl ?_
  refine XS.iconst X0.here hx rfl (hb hby at_34) ?_
  refine XS.icmpNo X0.here hx rfl (hb hby at_35) rfl (flt hc9).1 ?_
  refine XS.aload X0.here hx rfl (hb hby at_38) rfl rfl ?_
  refine XS.aload X0.here hx rfl (hb hby at_40) rfl rfl ?_
  refine XS.iload X0.here hx rfl (hb hby at_42) rfl ?_
  show Sp p e below s₁ (mkF m 44 #[.val (.int p1), .val (.int p2), .val (.int p3), .val (.int p4), .val (.int p5), .val (.int p6), .val (.ref a7), .val (.ref a8), .val (.ref a9), .val (.int p10), .val (.ref a11), .unset, .unset, .unset, .unset, .unset, .unset, .unset] [(.int p6), (.ref a7), (.ref a11)]) _
  refine st1.trans ?_
  show Sp p e below T1 (mkF m 47 #[.val (.int p1), .val (.int p2), .val (.int p3), .val (.int p4), .val (.int p5), .val (.int p6), .val (.ref a7), .val (.ref a8), .val (.ref a9), .val (.int p10), .val (.ref a11), .unset, .unset, .unset, .unset, .unset, .unset, .unset] [(.int r1)]) _
  refine XS.pop X1.here hx rfl (hb hby at_47) rfl rfl ?_
  refine XS.iload X1.here hx rfl (hb hby at_48) rfl ?_
  refine XS.iconst X1.here hx rfl (hb hby at_50) ?_
  refine XS.icmpNo X1.here hx rfl (hb hby at_51) rfl (flt hc10).1 ?_
  refine XS.aload X1.here hx rfl (hb hby at_54) rfl rfl ?_
  refine XS.aload X1.here hx rfl (hb hby at_56) rfl rfl ?_
  refine XS.iload X1.here hx rfl (hb hby at_58) rfl ?_
  show Sp p e below T1 (mkF m 60 #[.val (.int p1), .val (.int p2), .val (.int p3), .val (.int p4), .val (.int p5), .val (.int p6), .val (.ref a7), .val (.ref a8), .val (.ref a9), .val (.int p10), .val (.ref a11), .unset, .unset, .unset, .unset, .unset, .unset, .unset] [(.int p6), (.ref a8), (.ref a11)]) _
  refine XS.iconst X1.here hx rfl (hb hby at_60) ?_
  refine XS.iadd X1.here hx rfl (hb hby at_61) rfl ?_
  show Sp p e below T1 (mkF m 62 #[.val (.int p1), .val (.int p2), .val (.int p3), .val (.int p4), .val (.int p5), .val (.int p6), .val (.ref a7), .val (.ref a8), .val (.ref a9), .val (.int p10), .val (.ref a11), .unset, .unset, .unset, .unset, .unset, .unset, .unset] [(.int (p6 + (1 : Int32))), (.ref a8), (.ref a11)]) _
  refine st2.trans ?_
  show Sp p e below T2 (mkF m 65 #[.val (.int p1), .val (.int p2), .val (.int p3), .val (.int p4), .val (.int p5), .val (.int p6), .val (.ref a7), .val (.ref a8), .val (.ref a9), .val (.int p10), .val (.ref a11), .unset, .unset, .unset, .unset, .unset, .unset, .unset] [(.int r2)]) _
  refine XS.pop X2.here hx rfl (hb hby at_65) rfl rfl ?_
  refine XS.iload X2.here hx rfl (hb hby at_66) rfl ?_
  refine XS.iconst X2.here hx rfl (hb hby at_68) ?_
  refine XS.icmpYes X2.here hx rfl (pc0 := 69) (pc' := 84) rfl (hb hby at_69) rfl (tlt hc11).1 (by decide) (by decide) ?_
  refine XS.aload X2.here hx rfl (hb hby at_84) rfl rfl ?_
  show Sp p e below T2 (mkF m 86 #[.val (.int p1), .val (.int p2), .val (.int p3), .val (.int p4), .val (.int p5), .val (.int p6), .val (.ref a7), .val (.ref a8), .val (.ref a9), .val (.int p10), .val (.ref a11), .unset, .unset, .unset, .unset, .unset, .unset, .unset] [(.ref a11)]) _
  refine st3.trans ?_
  show Sp p e below T3 (mkF m 89 #[.val (.int p1), .val (.int p2), .val (.int p3), .val (.int p4), .val (.int p5), .val (.int p6), .val (.ref a7), .val (.ref a8), .val (.ref a9), .val (.int p10), .val (.ref a11), .unset, .unset, .unset, .unset, .unset, .unset, .unset] []) _
  refine XS.iconst X3.here hx rfl (hb hby at_89) ?_
  refine XS.istore X3.here hx rfl (hb hby at_90) rfl (l' := #[.val (.int p1), .val (.int p2), .val (.int p3), .val (.int p4), .val (.int p5), .val (.int p6), .val (.ref a7), .val (.ref a8), .val (.ref a9), .val (.int p10), .val (.ref a11), .val (.int (1 : Int32)), .unset, .unset, .unset, .unset, .unset, .unset]) rfl ?_
  exact kt
set_option maxRecDepth 65536 in
set_option maxHeartbeats 4000000 in
theorem pre_3 (l : Launch) (Z : State) (a0 : Array Value) (hw : ∀ d ∈ tables_1, d.before a0 Z = true) (cs_v : Int32) (hp : Perm Z cs_v) (p1 : Int32) (p2 : Int32) (p3 : Int32) (p4 : Int32) (p5 : Int32) (p6 : Int32) (a7 : Addr) (a8 : Addr) (a9 : Addr) (p10 : Int32) (a11 : Addr) (κ : Addr → List Value) (h0 : Heap) (n0 : Nat) (O0 : Old Z n0 h0) (E_a11 : Exa Z h0 a11 "com/example/byteloom/byteloom/StringNumbers") (Kw0 : StrK Z h0 a7 (κ a7)) (g_a7 : n0 ≤ a7) (Kw1 : StrK Z h0 a8 (κ a8)) (g_a8 : n0 ≤ a8) (Kw2 : StrK Z h0 a9 (κ a9)) (g_a9 : n0 ≤ a9) (W0 : Wd Z κ h0 n0 a11 (fun _ => none) []) (hc9 : ¬ (p10 < (1 : Int32))) (hc10 : ¬ (p10 < (2 : Int32))) (hc11 : ¬ (p10 < (3 : Int32))) {p : Program} {e : Env} {s : State} {m : MethodId} {args : Array Value} {below : List Frame} {meth : Method} {c : Code} {s₁ : State} {locs : List Loc} (X0 : Stand p l e room_1 s m args below meth c s₁ locs 14 142) (hx : p.tables.exec = Jvm.exec) (hZ : Z.Warmed39 s.vm) (hby : c.code = code) (hml : c.maxLocals = 18) (hown : s.vm.findClass "com/example/byteloom/byteloom/StringNumbersClearPinLaw" = some m.cls) (e0 : s₁.heap = h0) (N0 : Fr n0 locs) :
    ∃ T' locs', Stand p l e room_1 s m args below meth c T' locs' 14 142 ∧ Fr n0 locs' ∧ Old Z n0 T'.heap ∧ Exa Z T'.heap a11 "com/example/byteloom/byteloom/StringNumbers" ∧ Wd Z κ T'.heap n0 a11 (fun _ => none) [] ∧ (∀ c, StrK Z h0 c (κ c) → StrK Z T'.heap c (κ c)) ∧ ∀ target, Sp p e below T' (mkF m 92 #[.val (.int p1), .val (.int p2), .val (.int p3), .val (.int p4), .val (.int p5), .val (.int p6), .val (.ref a7), .val (.ref a8), .val (.ref a9), .val (.int p10), .val (.ref a11), .val (.int (1 : Int32)), .unset, .unset, .unset, .unset, .unset, .unset] []) target → Sp p e below s₁ (mkF m 32 #[.val (.int p1), .val (.int p2), .val (.int p3), .val (.int p4), .val (.int p5), .val (.int p6), .val (.ref a7), .val (.ref a8), .val (.ref a9), .val (.int p10), .val (.ref a11), .unset, .unset, .unset, .unset, .unset, .unset, .unset] []) target := by
  obtain ⟨cq1, kq1, q1a, q1b, q1c⟩ := isOf hZ e0 E_a11
  obtain ⟨_, _, ⟨T1, L1, k1, n1⟩, -, X1, ⟨Lc1, hQ1, l1, y1, z1⟩, st1⟩ := X0.virtualBack hx (y := y17) (z := y17) hown (mvT hZ (wq hw 48 rfl)) (mvT hZ (wq hw 49 rfl)) (notFace_of_selects (args := #[]) (mvT hZ (wq hw 51 rfl))) (mvT hZ (wq hw 51 rfl)) (mvT hZ (wq hw 50 rfl)) (by decide) (backOf (W := 0) (rmPUT l Z a0 hw [] cs_v hp κ a11 a7 p6 (fun _ => none) [] h0 n0 O0 g_a7 Kw0 W0 (Nat.le_trans (Nat.zero_le _ : ([] : List Int32).length ≤ 0) (by decide))) hZ (wq hw 52 rfl) (wq hw 32 rfl) (by decide) (by decide)) q1a q1c (g := (mkF m 44 #[.val (.int p1), .val (.int p2), .val (.int p3), .val (.int p4), .val (.int p5), .val (.int p6), .val (.ref a7), .val (.ref a8), .val (.ref a9), .val (.int p10), .val (.ref a11), .unset, .unset, .unset, .unset, .unset, .unset, .unset] [(.int p6), (.ref a7), (.ref a11)])) rfl (by rw [hml]; rfl) (Steps.refl _) (argsL := [(.ref a7), (.int p6)]) (rest := []) (lenOf pd_18 rfl) rfl (by show 2 * 0 + _ ≤ _; exact Nat.le_of_eq rfl) (hb hby at_44) (fun _ _ => ⟨rfl, e0, (by decide : 14 + 0 ≤ _), (by decide : 142 + 0 ≤ _)⟩)
  dsimp only [Pt.U, Pt.locs, Pt.cells, Pt.slots] at X1 l1 y1 z1 st1 hQ1
  subst l1 y1 z1
  obtain ⟨r1, Tb1, us1, wl1, rfl, Nq1, Kq1, gq1, P1, W1, hu1, AK1⟩ := hQ1
  have N1 := Fr.app N0 Nq1
  have O1 := O0.keep Kq1 gq1
  have K0_1 := AK1 a7 Kw0
  have K1_1 := AK1 a8 Kw1
  have K2_1 := AK1 a9 Kw2
  have hv1 : us1.length ≤ 1 := by have q := (Nat.zero_le _ : ([] : List Int32).length ≤ 0); omega
  obtain ⟨cq2, kq2, q2a, q2b, q2c⟩ := isOf hZ rfl (E_a11.keep Kq1)
  obtain ⟨_, _, ⟨T2, L2, k2, n2⟩, -, X2, ⟨Lc2, hQ2, l2, y2, z2⟩, st2⟩ := X1.virtualBack hx (y := y17) (z := y17) hown (mvT hZ (wq hw 48 rfl)) (mvT hZ (wq hw 49 rfl)) (notFace_of_selects (args := #[]) (mvT hZ (wq hw 51 rfl))) (mvT hZ (wq hw 51 rfl)) (mvT hZ (wq hw 50 rfl)) (by decide) (backOf (W := 0) (rmPUT l Z a0 hw [] cs_v hp κ a11 a8 (p6 + (1 : Int32)) Tb1 us1 T1.heap n0 O1 g_a8 K1_1 W1 (Nat.le_trans hv1 (by decide))) hZ (wq hw 52 rfl) (wq hw 32 rfl) (by decide) (by decide)) q2a q2c (g := (mkF m 62 #[.val (.int p1), .val (.int p2), .val (.int p3), .val (.int p4), .val (.int p5), .val (.int p6), .val (.ref a7), .val (.ref a8), .val (.ref a9), .val (.int p10), .val (.ref a11), .unset, .unset, .unset, .unset, .unset, .unset, .unset] [(.int (p6 + (1 : Int32))), (.ref a8), (.ref a11)])) rfl (by rw [hml]; rfl) (Steps.refl _) (argsL := [(.ref a8), (.int (p6 + (1 : Int32)))]) (rest := []) (lenOf pd_18 rfl) rfl (by show 2 * 0 + _ ≤ _; exact Nat.le_of_eq rfl) (hb hby at_62) (fun _ _ => ⟨rfl, rfl, (by decide : 14 + 0 ≤ _), (by decide : 142 + 0 ≤ _)⟩)
  dsimp only [Pt.U, Pt.locs, Pt.cells, Pt.slots] at X2 l2 y2 z2 st2 hQ2
  subst l2 y2 z2
  obtain ⟨r2, Tb2, us2, wl2, rfl, Nq2, Kq2, gq2, P2, W2, hu2, AK2⟩ := hQ2
  have N2 := Fr.app N1 Nq2
  have O2 := O1.keep Kq2 gq2
  have K0_2 := AK2 a7 K0_1
  have K1_2 := AK2 a8 K1_1
  have K2_2 := AK2 a9 K2_1
  have hv2 : us2.length ≤ 2 := by have q := hv1; omega
  obtain ⟨cq3, kq3, q3a, q3b, q3c⟩ := isOf hZ rfl ((E_a11.keep Kq1).keep Kq2)
  obtain ⟨_, _, ⟨T3, L3, k3, n3⟩, -, X3, ⟨Lc3, hQ3, l3, y3, z3⟩, st3⟩ := X2.virtualBack hx (y := y17) (z := y17) hown (mvT hZ (wq hw 48 rfl)) (mvT hZ (wq hw 49 rfl)) (notFace_of_selects (args := #[]) (mvT hZ (wq hw 51 rfl))) (mvT hZ (wq hw 51 rfl)) (mvT hZ (wq hw 50 rfl)) (by decide) (backOf (W := 0) (rmPUT l Z a0 hw [] cs_v hp κ a11 a9 (p6 + (2 : Int32)) Tb2 us2 T2.heap n0 O2 g_a9 K2_2 W2 (Nat.le_trans hv2 (by decide))) hZ (wq hw 52 rfl) (wq hw 32 rfl) (by decide) (by decide)) q3a q3c (g := (mkF m 80 #[.val (.int p1), .val (.int p2), .val (.int p3), .val (.int p4), .val (.int p5), .val (.int p6), .val (.ref a7), .val (.ref a8), .val (.ref a9), .val (.int p10), .val (.ref a11), .unset, .unset, .unset, .unset, .unset, .unset, .unset] [(.int (p6 + (2 : Int32))), (.ref a9), (.ref a11)])) rfl (by rw [hml]; rfl) (Steps.refl _) (argsL := [(.ref a9), (.int (p6 + (2 : Int32)))]) (rest := []) (lenOf pd_18 rfl) rfl (by show 2 * 0 + _ ≤ _; exact Nat.le_of_eq rfl) (hb hby at_80) (fun _ _ => ⟨rfl, rfl, (by decide : 14 + 0 ≤ _), (by decide : 142 + 0 ≤ _)⟩)
  dsimp only [Pt.U, Pt.locs, Pt.cells, Pt.slots] at X3 l3 y3 z3 st3 hQ3
  subst l3 y3 z3
  obtain ⟨r3, Tb3, us3, wl3, rfl, Nq3, Kq3, gq3, P3, W3, hu3, AK3⟩ := hQ3
  have N3 := Fr.app N2 Nq3
  have O3 := O2.keep Kq3 gq3
  have K0_3 := AK3 a7 K0_2
  have K1_3 := AK3 a8 K1_2
  have K2_3 := AK3 a9 K2_2
  have hv3 : us3.length ≤ 3 := by have q := hv2; omega
  obtain ⟨cq4, kq4, q4a, q4b, q4c⟩ := isOf hZ rfl (((E_a11.keep Kq1).keep Kq2).keep Kq3)
  obtain ⟨_, _, ⟨T4, L4, k4, n4⟩, -, X4, ⟨Lc4, hQ4, l4, y4, z4⟩, st4⟩ := X3.virtualBack hx (y := y18) (z := y18) hown (mvT hZ (wq hw 72 rfl)) (mvT hZ (wq hw 73 rfl)) (notFace_of_selects (args := #[]) (mvT hZ (wq hw 75 rfl))) (mvT hZ (wq hw 75 rfl)) (mvT hZ (wq hw 74 rfl)) (by decide) (backOf (W := 0) (rmCLEAR l Z a0 hw [] cs_v hp κ a11 Tb3 us3 T3.heap n0 O3 W3 (Nat.le_trans hv3 (by decide))) hZ (wq hw 76 rfl) (wq hw 32 rfl) (by decide) (by decide)) q4a q4c (g := (mkF m 86 #[.val (.int p1), .val (.int p2), .val (.int p3), .val (.int p4), .val (.int p5), .val (.int p6), .val (.ref a7), .val (.ref a8), .val (.ref a9), .val (.int p10), .val (.ref a11), .unset, .unset, .unset, .unset, .unset, .unset, .unset] [(.ref a11)])) rfl (by rw [hml]; rfl) (Steps.refl _) (argsL := []) (rest := []) (lenOf pd_17 rfl) rfl (by show 2 * 0 + _ ≤ _; exact Nat.le_of_eq rfl) (hb hby at_86) (fun _ _ => ⟨rfl, rfl, (by decide : 14 + 0 ≤ _), (by decide : 142 + 0 ≤ _)⟩)
  dsimp only [Pt.U, Pt.locs, Pt.cells, Pt.slots] at X4 l4 y4 z4 st4 hQ4
  subst l4 y4 z4
  obtain ⟨wl4, rfl, Nq4, Kq4, gq4, W4, AK4⟩ := hQ4
  have N4 := Fr.app N3 Nq4
  have O4 := O3.keep Kq4 gq4
  have K0_4 := AK4 a7 K0_3
  have K1_4 := AK4 a8 K1_3
  have K2_4 := AK4 a9 K2_3
  refine ⟨T4, _, X4, N4, O4, ((((E_a11.keep Kq1).keep Kq2).keep Kq3).keep Kq4), W4, fun c hc => (AK4 c (AK3 c (AK2 c (AK1 c hc)))), fun target kt => ?_⟩
  show Sp p e below s₁ (mkF m 32 #[.val (.int p1), .val (.int p2), .val (.int p3), .val (.int p4), .val (.int p5), .val (.int p6), .val (.ref a7), .val (.ref a8), .val (.ref a9), .val (.int p10), .val (.ref a11), .unset, .unset, .unset, .unset, .unset, .unset, .unset] []) _
  refine XS.iload X0.here hx rfl (hb hby at_32) rfl ?_
  refine XS.iconst X0.here hx rfl (hb hby at_34) ?_
  refine XS.icmpNo X0.here hx rfl (hb hby at_35) rfl (flt hc9).1 ?_
  refine XS.aload X0.here hx rfl (hb hby at_38) rfl rfl ?_
  refine XS.aload X0.here hx rfl (hb hby at_40) rfl rfl ?_
  refine XS.iload X0.here hx rfl (hb hby at_42) rfl ?_
  show Sp p e below s₁ (mkF m 44 #[.val (.int p1), .val (.int p2), .val (.int p3), .val (.int p4), .val (.int p5), .val (.int p6), .val (.ref a7), .val (.ref a8), .val (.ref a9), .val (.int p10), .val (.ref a11), .unset, .unset, .unset, .unset, .unset, .unset, .unset] [(.int p6), (.ref a7), (.ref a11)]) _
  refine st1.trans ?_
  show Sp p e below T1 (mkF m 47 #[.val (.int p1), .val (.int p2), .val (.int p3), .val (.int p4), .val (.int p5), .val (.int p6), .val (.ref a7), .val (.ref a8), .val (.ref a9), .val (.int p10), .val (.ref a11), .unset, .unset, .unset, .unset, .unset, .unset, .unset] [(.int r1)]) _
  refine XS.pop X1.here hx rfl (hb hby at_47) rfl rfl ?_
  refine XS.iload X1.here hx rfl (hb hby at_48) rfl ?_
  refine XS.iconst X1.here hx rfl (hb hby at_50) ?_
  refine XS.icmpNo X1.here hx rfl (hb hby at_51) rfl (flt hc10).1 ?_
  refine XS.aload X1.here hx rfl (hb hby at_54) rfl rfl ?_
  refine XS.aload X1.here hx rfl (hb hby at_56) rfl rfl ?_
  refine XS.iload X1.here hx rfl (hb hby at_58) rfl ?_
  show Sp p e below T1 (mkF m 60 #[.val (.int p1), .val (.int p2), .val (.int p3), .val (.int p4), .val (.int p5), .val (.int p6), .val (.ref a7), .val (.ref a8), .val (.ref a9), .val (.int p10), .val (.ref a11), .unset, .unset, .unset, .unset, .unset, .unset, .unset] [(.int p6), (.ref a8), (.ref a11)]) _
  refine XS.iconst X1.here hx rfl (hb hby at_60) ?_
  refine XS.iadd X1.here hx rfl (hb hby at_61) rfl ?_
  show Sp p e below T1 (mkF m 62 #[.val (.int p1), .val (.int p2), .val (.int p3), .val (.int p4), .val (.int p5), .val (.int p6), .val (.ref a7), .val (.ref a8), .val (.ref a9), .val (.int p10), .val (.ref a11), .unset, .unset, .unset, .unset, .unset, .unset, .unset] [(.int (p6 + (1 : Int32))), (.ref a8), (.ref a11)]) _
  refine st2.trans ?_
  show Sp p e below T2 (mkF m 65 #[.val (.int p1), .val (.int p2), .val (.int p3), .val (.int p4), .val (.int p5), .val (.int p6), .val (.ref a7), .val (.ref a8), .val (.ref a9), .val (.int p10), .val (.ref a11), .unset, .unset, .unset, .unset, .unset, .unset, .unset] [(.int r2)]) _
  refine XS.pop X2.here hx rfl (hb hby at_65) rfl rfl ?_
  refine XS.iload X2.here hx rfl (hb hby at_66) rfl ?_
  refine XS.iconst X2.here hx rfl (hb hby at_68) ?_
  refine XS.icmpNo X2.here hx rfl (hb hby at_69) rfl (flt hc11).1 ?_
  refine XS.aload X2.here hx rfl (hb hby at_72) rfl rfl ?_
  refine XS.aload X2.here hx rfl (hb hby at_74) rfl rfl ?_
  refine XS.iload X2.here hx rfl (hb hby at_76) rfl ?_
  show Sp p e below T2 (mkF m 78 #[.val (.int p1), .val (.int p2), .val (.int p3), .val (.int p4), .val (.int p5), .val (.int p6), .val (.ref a7), .val (.ref a8), .val (.ref a9), .val (.int p10), .val (.ref a11), .unset, .unset, .unset, .unset, .unset, .unset, .unset] [(.int p6), (.ref a9), (.ref a11)]) _
  refine XS.iconst X2.here hx rfl (hb hby at_78) ?_
  refine XS.iadd X2.here hx rfl (hb hby at_79) rfl ?_
  show Sp p e below T2 (mkF m 80 #[.val (.int p1), .val (.int p2), .val (.int p3), .val (.int p4), .val (.int p5), .val (.int p6), .val (.ref a7), .val (.ref a8), .val (.ref a9), .val (.int p10), .val (.ref a11), .unset, .unset, .unset, .unset, .unset, .unset, .unset] [(.int (p6 + (2 : Int32))), (.ref a9), (.ref a11)]) _
  refine st3.trans ?_
  show Sp p e below T3 (mkF m 83 #[.val (.int p1), .val (.int p2), .val (.int p3), .val (.int p4), .val (.int p5), .val (.int p6), .val (.ref a7), .val (.ref a8), .val (.ref a9), .val (.int p10), .val (.ref a11), .unset, .unset, .unset, .unset, .unset, .unset, .unset] [(.int r3)]) _
  refine XS.pop X3.here hx rfl (hb hby at_83) rfl rfl ?_
  refine XS.aload X3.here hx rfl (hb hby at_84) rfl rfl ?_
  show Sp p e below T3 (mkF m 86 #[.val (.int p1), .val (.int p2), .val (.int p3), .val (.int p4), .val (.int p5), .val (.int p6), .val (.ref a7), .val (.ref a8), .val (.ref a9), .val (.int p10), .val (.ref a11), .unset, .unset, .unset, .unset, .unset, .unset, .unset] [(.ref a11)]) _
  refine st4.trans ?_
  show Sp p e below T4 (mkF m 89 #[.val (.int p1), .val (.int p2), .val (.int p3), .val (.int p4), .val (.int p5), .val (.int p6), .val (.ref a7), .val (.ref a8), .val (.ref a9), .val (.int p10), .val (.ref a11), .unset, .unset, .unset, .unset, .unset, .unset, .unset] []) _
  refine XS.iconst X4.here hx rfl (hb hby at_89) ?_
  refine XS.istore X4.here hx rfl (hb hby at_90) rfl (l' := #[.val (.int p1), .val (.int p2), .val (.int p3), .val (.int p4), .val (.int p5), .val (.int p6), .val (.ref a7), .val (.ref a8), .val (.ref a9), .val (.int p10), .val (.ref a11), .val (.int (1 : Int32)), .unset, .unset, .unset, .unset, .unset, .unset]) rfl ?_
  exact kt
set_option maxRecDepth 65536 in
set_option maxHeartbeats 4000000 in
theorem own_pre (l : Launch) (Z : State) (a0 : Array Value) (hw : ∀ d ∈ tables_1, d.before a0 Z = true) (cs_v : Int32) (hp : Perm Z cs_v) (p0 : Int32) (p1 : Int32) (p2 : Int32) (p3 : Int32) (p4 : Int32) (p5 : Int32) (x1 : Addr) (x2 : Addr) (x3 : Addr) (cnt : Int32) (xt : Addr) (κ : Addr → List Value) (h0 : Heap) (n0 : Nat) (O0 : Old Z n0 h0) (E_xt : Exa Z h0 xt "com/example/byteloom/byteloom/StringNumbers") (g_x1 : n0 ≤ x1) (g_x2 : n0 ≤ x2) (g_x3 : n0 ≤ x3) (Kw0 : StrK Z h0 x1 (κ x1)) (Kw1 : StrK Z h0 x2 (κ x2)) (Kw2 : StrK Z h0 x3 (κ x3)) (W0 : Wd Z κ h0 n0 xt (fun _ => none) []) {p : Program} {e : Env} {s : State} {m : MethodId} {args : Array Value} {below : List Frame} {meth : Method} {c : Code} {s₁ : State} {locs : List Loc} (X0 : Stand p l e room_1 s m args below meth c s₁ locs 14 142) (hx : p.tables.exec = Jvm.exec) (hZ : Z.Warmed39 s.vm) (hby : c.code = code) (hml : c.maxLocals = 18) (hown : s.vm.findClass "com/example/byteloom/byteloom/StringNumbersClearPinLaw" = some m.cls) (e0 : s₁.heap = h0) (N0 : Fr n0 locs) :
    ∃ T' locs', Stand p l e room_1 s m args below meth c T' locs' 14 142 ∧ Fr n0 locs' ∧ Old Z n0 T'.heap ∧ Exa Z T'.heap xt "com/example/byteloom/byteloom/StringNumbers" ∧ Wd Z κ T'.heap n0 xt (fun _ => none) [] ∧ (∀ c, StrK Z h0 c (κ c) → StrK Z T'.heap c (κ c)) ∧ ∀ target, Sp p e below T' (mkF m 92 #[.val (.int p0), .val (.int p1), .val (.int p2), .val (.int p3), .val (.int p4), .val (.int p5), .val (.ref x1), .val (.ref x2), .val (.ref x3), .val (.int cnt), .val (.ref xt), .val (.int (1 : Int32)), .unset, .unset, .unset, .unset, .unset, .unset] []) target → Sp p e below s₁ (mkF m 32 #[.val (.int p0), .val (.int p1), .val (.int p2), .val (.int p3), .val (.int p4), .val (.int p5), .val (.ref x1), .val (.ref x2), .val (.ref x3), .val (.int cnt), .val (.ref xt), .unset, .unset, .unset, .unset, .unset, .unset, .unset] []) target := by
  by_cases cd1 : cnt < (1 : Int32)
  · exact pre_0 l Z a0 hw cs_v hp p0 p1 p2 p3 p4 p5 x1 x2 x3 cnt xt κ h0 n0 O0 E_xt Kw0 g_x1 Kw1 g_x2 Kw2 g_x3 W0 cd1 (own_ltm cd1 (by decide)) (own_ltm cd1 (by decide)) X0 hx hZ hby hml hown e0 N0
  by_cases cd2 : cnt < (2 : Int32)
  · exact pre_1 l Z a0 hw cs_v hp p0 p1 p2 p3 p4 p5 x1 x2 x3 cnt xt κ h0 n0 O0 E_xt Kw0 g_x1 Kw1 g_x2 Kw2 g_x3 W0 cd1 cd2 (own_ltm cd2 (by decide)) X0 hx hZ hby hml hown e0 N0
  by_cases cd3 : cnt < (3 : Int32)
  · exact pre_2 l Z a0 hw cs_v hp p0 p1 p2 p3 p4 p5 x1 x2 x3 cnt xt κ h0 n0 O0 E_xt Kw0 g_x1 Kw1 g_x2 Kw2 g_x3 W0 cd1 cd2 cd3 X0 hx hZ hby hml hown e0 N0
  exact pre_3 l Z a0 hw cs_v hp p0 p1 p2 p3 p4 p5 x1 x2 x3 cnt xt κ h0 n0 O0 E_xt Kw0 g_x1 Kw1 g_x2 Kw2 g_x3 W0 cd1 cd2 cd3 X0 hx hZ hby hml hown e0 N0
theorem ef_0_0 (m : MethodId) (x0 : Int32) (x1 : Int32) (x2 : Int32) (x3 : Int32) (x4 : Int32) (x5 : Int32) : entryFrame m #[(.int x0), (.int x1), (.int x2), (.int x3), (.int x4), (.int x5)] maxLocals = mkF m 0 #[.val (.int x0), .val (.int x1), .val (.int x2), .val (.int x3), .val (.int x4), .val (.int x5), .unset, .unset, .unset, .unset, .unset, .unset, .unset, .unset, .unset, .unset, .unset, .unset] [] := by first | (simp [entryFrame, mkF, argsToLocals, Value.category, maxLocals]; done) | rfl
theorem rm44 (l : Launch) (Z : State) (a0 : Array Value) (hw : ∀ d ∈ tables_1, d.before a0 Z = true) (ws : List Jvm.Cond) (cs_v : Int32) (hp : Perm Z cs_v) (p0 : Int32) (p1 : Int32) (p2 : Int32) (p3 : Int32) (p4 : Int32) (p5 : Int32) (h0 : Heap) (n0 : Nat) (O0 : Old Z n0 h0) (hc1 : (eqK (mkV p1) (mkV p0)) = (0 : Int32)) (hc2 : (eqK (mkV p2) (mkV p0)) = (0 : Int32)) (hc3 : (eqK (mkV p2) (mkV p1)) = (0 : Int32)) :
    MetFree l x (head1 (Jvm.Cond.code x code maxLocals ret :: ws) room_1) (fun a U => a = #[(.int p0), (.int p1), (.int p2), (.int p3), (.int p4), (.int p5)] ∧ Z.Warmed39 U.vm ∧ U.heap = h0) (fun _ _ _ _ _ => True) (fun _ U o U' => ∃ v L, o = .returned v ∧ (v = some (.int (1 : Int32)) ∧ Fr n0 L) ∧ FrameEnd U o U' L 40 384) := by
  refine MetFree.of_bodySF (plainFor_of_name pn_1) hisR ?_
  intro p e s m args below meth c s₁ Bd hml0 hP hK
  obtain ⟨rfl, hZ, hh⟩ := hP
  have hx := Bd.exec
  have hby := Bd.bytes
  have hml : c.maxLocals = 18 := hml0
  have hown : s.vm.findClass "com/example/byteloom/byteloom/StringNumbersClearPinLaw" = some m.cls := findClass_of_methodNamed Bd.named
  have hnm := (name_of_methodNamed Bd.named Bd.method).1
  have X0 : Stand p l e room_1 s m #[(.int p0), (.int p1), (.int p2), (.int p3), (.int p4), (.int p5)] below meth c s₁ [] 0 0 := Stand.of_body Bd
  have e0 : s₁.heap = h0 := by rw [← hh, Bd.state]; rfl
  have N0 := Fr.nil n0
  obtain ⟨_, _, ⟨T1, L1, k1, n1⟩, -, X1, ⟨Lc1, hQ1, l1, y1, z1⟩, st1⟩ := Jvm.LawKit.callS X0 hx (y := y4) hown (mvT hZ (wq hw 0 rfl)) (mvT hZ (wq hw 1 rfl)) (mvT hZ (wq hw 2 rfl)) (mvT hZ (wq hw 3 rfl)) (by decide) (backOf (W := 0) (rmMK l Z a0 hw [] cs_v hp p0 h0 n0 O0) hZ (wq hw 3 rfl) (wq hw 2 rfl) (by decide) (by decide)) (g := (mkF m 1 #[.val (.int p0), .val (.int p1), .val (.int p2), .val (.int p3), .val (.int p4), .val (.int p5), .unset, .unset, .unset, .unset, .unset, .unset, .unset, .unset, .unset, .unset, .unset, .unset] [(.int p0)])) rfl (by rw [hml]; rfl) (argsL := [(.int p0)]) (rest := []) (lenOf pd_16 rfl) rfl (by show 2 * 0 + _ ≤ _; exact Nat.le_of_eq rfl) (hb hby at_1) (fun _ _ => ⟨rfl, e0, (by decide : 0 + 3 ≤ _), (by decide : 0 + 8 ≤ _)⟩)
  dsimp only [Pt.U, Pt.locs, Pt.cells, Pt.slots] at X1 l1 y1 z1 st1 hQ1
  subst l1 y1 z1
  obtain ⟨b1_0, rfl, Nq1, Kq1, sq_b1_0, fq1_0, fq1_1⟩ := hQ1
  have N1 := Fr.app N0 Nq1
  have g_b1_0 : n0 ≤ b1_0 := Nat.le_trans (own_sz O0) sq_b1_0
  have O1 := O0.keep Kq1 all0
  obtain ⟨_, _, ⟨T2, L2, k2, n2⟩, -, X2, ⟨Lc2, hQ2, l2, y2, z2⟩, st2⟩ := Jvm.LawKit.callS X1 hx (y := y4) hown (mvT hZ (wq hw 0 rfl)) (mvT hZ (wq hw 1 rfl)) (mvT hZ (wq hw 2 rfl)) (mvT hZ (wq hw 3 rfl)) (by decide) (backOf (W := 0) (rmMK l Z a0 hw [] cs_v hp p1 T1.heap n0 O1) hZ (wq hw 3 rfl) (wq hw 2 rfl) (by decide) (by decide)) (g := (mkF m 7 #[.val (.int p0), .val (.int p1), .val (.int p2), .val (.int p3), .val (.int p4), .val (.int p5), .val (.ref b1_0), .unset, .unset, .unset, .unset, .unset, .unset, .unset, .unset, .unset, .unset, .unset] [(.int p1)])) rfl (by rw [hml]; rfl) (argsL := [(.int p1)]) (rest := []) (lenOf pd_16 rfl) rfl (by show 2 * 0 + _ ≤ _; exact Nat.le_of_eq rfl) (hb hby at_7) (fun _ _ => ⟨rfl, rfl, (by decide : 3 + 3 ≤ _), (by decide : 8 + 8 ≤ _)⟩)
  dsimp only [Pt.U, Pt.locs, Pt.cells, Pt.slots] at X2 l2 y2 z2 st2 hQ2
  subst l2 y2 z2
  obtain ⟨b2_0, rfl, Nq2, Kq2, sq_b2_0, fq2_0, fq2_1⟩ := hQ2
  have N2 := Fr.app N1 Nq2
  have g_b2_0 : n0 ≤ b2_0 := Nat.le_trans (own_sz O1) sq_b2_0
  have O2 := O1.keep Kq2 all0
  obtain ⟨_, _, ⟨T3, L3, k3, n3⟩, -, X3, ⟨Lc3, hQ3, l3, y3, z3⟩, st3⟩ := Jvm.LawKit.callS X2 hx (y := y4) hown (mvT hZ (wq hw 0 rfl)) (mvT hZ (wq hw 1 rfl)) (mvT hZ (wq hw 2 rfl)) (mvT hZ (wq hw 3 rfl)) (by decide) (backOf (W := 0) (rmMK l Z a0 hw [] cs_v hp p2 T2.heap n0 O2) hZ (wq hw 3 rfl) (wq hw 2 rfl) (by decide) (by decide)) (g := (mkF m 13 #[.val (.int p0), .val (.int p1), .val (.int p2), .val (.int p3), .val (.int p4), .val (.int p5), .val (.ref b1_0), .val (.ref b2_0), .unset, .unset, .unset, .unset, .unset, .unset, .unset, .unset, .unset, .unset] [(.int p2)])) rfl (by rw [hml]; rfl) (argsL := [(.int p2)]) (rest := []) (lenOf pd_16 rfl) rfl (by show 2 * 0 + _ ≤ _; exact Nat.le_of_eq rfl) (hb hby at_13) (fun _ _ => ⟨rfl, rfl, (by decide : 6 + 3 ≤ _), (by decide : 16 + 8 ≤ _)⟩)
  dsimp only [Pt.U, Pt.locs, Pt.cells, Pt.slots] at X3 l3 y3 z3 st3 hQ3
  subst l3 y3 z3
  obtain ⟨b3_0, rfl, Nq3, Kq3, sq_b3_0, fq3_0, fq3_1⟩ := hQ3
  have N3 := Fr.app N2 Nq3
  have g_b3_0 : n0 ≤ b3_0 := Nat.le_trans (own_sz O2) sq_b3_0
  have O3 := O2.keep Kq3 all0
  obtain ⟨T4, h4, X4, e4, E4, A4, D4, -, st4⟩ := newO X3 hx hZ hown (wq hw 30 rfl) (wq hw 31 rfl) (wq hw 32 rfl) rfl (g := (mkF m 23 #[.val (.int p0), .val (.int p1), .val (.int p2), .val (.int p3), .val (.int p4), .val (.int p5), .val (.ref b1_0), .val (.ref b2_0), .val (.ref b3_0), .val (.int (p3 &&& (3 : Int32))), .unset, .unset, .unset, .unset, .unset, .unset, .unset, .unset] [])) rfl (hb hby at_23) (by decide) (by decide)
  obtain ⟨b4, g4⟩ : ∃ z, z = T3.heap.size := ⟨_, rfl⟩
  rw [← g4] at A4 D4 st4
  have g_b4 : n0 ≤ b4 := Nat.le_trans (own_sz O3) (Nat.le_of_eq g4.symm)
  have O4 := O3.ext E4
  have F_strings_b4 : Fld Z h4 b4 "com/example/byteloom/byteloom/StringNumbers" "strings" "[Ljava/lang/String;" .null := D4 (Or.inr (wq hw 40 rfl)) (ty := (.array (.object "java/lang/String"))) (by decide)
  have F_hashes_b4 : Fld Z h4 b4 "com/example/byteloom/byteloom/StringNumbers" "hashes" "[I" .null := D4 (Or.inr (wq hw 43 rfl)) (ty := (.array .int)) (by decide)
  have F_numbers_b4 : Fld Z h4 b4 "com/example/byteloom/byteloom/StringNumbers" "numbers" "[I" .null := D4 (Or.inr (wq hw 45 rfl)) (ty := (.array .int)) (by decide)
  have F_taken_b4 : Fld Z h4 b4 "com/example/byteloom/byteloom/StringNumbers" "taken" "[I" .null := D4 (Or.inr (wq hw 47 rfl)) (ty := (.array .int)) (by decide)
  have F_listed_b4 : Fld Z h4 b4 "com/example/byteloom/byteloom/StringNumbers" "listed" "I" (.int (0 : Int32)) := D4 (Or.inl (wq hw 71 rfl)) (ty := .int) (by decide)
  have F_hashed_b4 : Fld Z h4 b4 "com/example/byteloom/byteloom/StringNumbers" "hashed" "Ljava/util/Map;" .null := D4 (Or.inl (wq hw 78 rfl)) (ty := (.object "java/util/Map")) (by decide)
  obtain ⟨_, _, ⟨T5, L5, k5, n5⟩, -, X5, ⟨Lc5, hQ5, l5, y5, z5⟩, st5⟩ := X4.specialBack hx (y := y19) rfl hown (mvT hZ (wq hw 33 rfl)) (mvT hZ (wq hw 34 rfl)) (mvT hZ (wq hw 35 rfl)) (by decide) (backOf (W := 1) (rm43 l Z a0 hw [] cs_v hp b4 h4 n0 O4 A4 F_strings_b4 F_hashes_b4 F_numbers_b4 F_taken_b4 F_listed_b4 F_hashed_b4 g_b4) hZ (wq hw 35 rfl) (wq hw 32 rfl) (by decide) (by decide)) (g := (mkF m 27 #[.val (.int p0), .val (.int p1), .val (.int p2), .val (.int p3), .val (.int p4), .val (.int p5), .val (.ref b1_0), .val (.ref b2_0), .val (.ref b3_0), .val (.int (p3 &&& (3 : Int32))), .unset, .unset, .unset, .unset, .unset, .unset, .unset, .unset] [(.ref b4), (.ref b4)])) rfl (by rw [hml]; rfl) (Steps.refl _) (a := b4) (argsL := []) (rest := [(.ref b4)]) (lenOf pd_17 rfl) rfl (by show 2 * 0 + _ ≤ _; exact Nat.le_of_eq rfl) (hb hby at_27) (fun _ _ => ⟨rfl, e4, (by decide : 10 + 4 ≤ _), (by decide : 30 + 112 ≤ _)⟩)
  dsimp only [Pt.U, Pt.locs, Pt.cells, Pt.slots] at X5 l5 y5 z5 st5 hQ5
  subst l5 y5 z5
  obtain ⟨b5_0, b5_1, b5_2, b5_3, kc5_0, kc5_1, kc5_2, kc5_3, rfl, Nq5, Kq5, sq_b5_0, sq_b5_1, sq_b5_2, sq_b5_3, nq5_0, nq5_1, nq5_2, nq5_3, nq5_4, nq5_5, fq5_0, fq5_1, fq5_2, fq5_3, fq5_4, fq5_5, fq5_6, fq5_7, fq5_8, fq5_9, fq5_10, fq5_11, fq5_12, fq5_13, fq5_14, fq5_15⟩ := hQ5
  have N5 := Fr.app N3 Nq5
  have g_b5_0 : n0 ≤ b5_0 := Nat.le_trans (own_sz O4) sq_b5_0
  have g_b5_1 : n0 ≤ b5_1 := Nat.le_trans (own_sz O4) sq_b5_1
  have g_b5_2 : n0 ≤ b5_2 := Nat.le_trans (own_sz O4) sq_b5_2
  have g_b5_3 : n0 ≤ b5_3 := Nat.le_trans (own_sz O4) sq_b5_3
  have O5 := O4.keep Kq5 (allS g_b4 all0)
  obtain ⟨κ, hκ0, hκ1, hκ2⟩ := own_kap (mkV p0) (mkV p1) (mkV p2) (Nat.ne_of_lt (Nat.lt_of_lt_of_le fq1_0.lt sq_b2_0)) (Nat.ne_of_lt (Nat.lt_of_lt_of_le (fq1_0.keep Kq2).lt sq_b3_0)) (Nat.ne_of_lt (Nat.lt_of_lt_of_le fq2_0.lt sq_b3_0))
  have f_6 := ((((fq1_1.keep Kq2 all0).keep Kq3 all0).ext E4).keep Kq5 (allS ⟨(((fq1_1.keep Kq2 all0).keep Kq3 all0).ext E4).exa.ne A4 (by decide), fun y hy => hy.ne A4 (by decide)⟩ all0))
  have Kw0 : StrK Z T5.heap b1_0 (κ b1_0) := by rw [hκ0]; exact f_6
  have f_7 := (((fq2_1.keep Kq3 all0).ext E4).keep Kq5 (allS ⟨((fq2_1.keep Kq3 all0).ext E4).exa.ne A4 (by decide), fun y hy => hy.ne A4 (by decide)⟩ all0))
  have Kw1 : StrK Z T5.heap b2_0 (κ b2_0) := by rw [hκ1]; exact f_7
  have f_8 := ((fq3_1.ext E4).keep Kq5 (allS ⟨(fq3_1.ext E4).exa.ne A4 (by decide), fun y hy => hy.ne A4 (by decide)⟩ all0))
  have Kw2 : StrK Z T5.heap b3_0 (κ b3_0) := by rw [hκ2]; exact f_8
  have Wd0 : Wd Z κ T5.heap n0 b4 (fun _ => none) [] := ⟨b5_0, b5_1, b5_2, b5_3, _, _, _, _, _, _, _, _, fq5_0, fq5_5, fq5_2, fq5_4, fq5_6, fq5_3, fq5_1, fq5_7, fq5_10, fq5_12, fq5_14, nq5_3, nq5_4, nq5_5, g_b4, g_b5_0, g_b5_1, g_b5_2, g_b5_3, Arf.of fq5_8 rfl, fq5_9, Arf.of fq5_11 rfl, Arf.of fq5_13 rfl, Arf.of fq5_15 rfl, TabOk.empty (fun _ _ => rfl), fun _ _ _ q => nomatch q⟩
  obtain ⟨T9, L9, X9, N9, O9, Et9, W9, AK9, st9⟩ := own_pre l Z a0 hw cs_v hp p0 p1 p2 p3 p4 p5 b1_0 b2_0 b3_0 (p3 &&& (3 : Int32)) b4 κ T5.heap n0 O5 fq5_0 g_b1_0 g_b2_0 g_b3_0 Kw0 Kw1 Kw2 Wd0 X5 hx hZ hby hml hown rfl N5
  have K0_9 := AK9 b1_0 Kw0
  have K1_9 := AK9 b2_0 Kw1
  have K2_9 := AK9 b3_0 Kw2
  obtain ⟨cq10, kq10, q10a, q10b, q10c⟩ := isOf hZ rfl Et9
  obtain ⟨_, _, ⟨T10, L10, k10, n10⟩, -, X10, ⟨Lc10, hQ10, l10, y10, z10⟩, st10⟩ := X9.virtualBack hx (y := y17) (z := y17) hown (mvT hZ (wq hw 48 rfl)) (mvT hZ (wq hw 49 rfl)) (notFace_of_selects (args := #[]) (mvT hZ (wq hw 51 rfl))) (mvT hZ (wq hw 51 rfl)) (mvT hZ (wq hw 50 rfl)) (by decide) (backOf (W := 0) (rmPUT l Z a0 hw [] cs_v hp κ b4 b1_0 p4 (fun _ => none) [] T9.heap n0 O9 g_b1_0 K0_9 W9 (Nat.le_trans (Nat.zero_le _ : ([] : List Int32).length ≤ 0) (by decide))) hZ (wq hw 52 rfl) (wq hw 32 rfl) (by decide) (by decide)) q10a q10c (g := (mkF m 98 #[.val (.int p0), .val (.int p1), .val (.int p2), .val (.int p3), .val (.int p4), .val (.int p5), .val (.ref b1_0), .val (.ref b2_0), .val (.ref b3_0), .val (.int (p3 &&& (3 : Int32))), .val (.ref b4), .val (.int (1 : Int32)), .unset, .unset, .unset, .unset, .unset, .unset] [(.int p4), (.ref b1_0), (.ref b4)])) rfl (by rw [hml]; rfl) (Steps.refl _) (argsL := [(.ref b1_0), (.int p4)]) (rest := []) (lenOf pd_18 rfl) rfl (by show 2 * 0 + _ ≤ _; exact Nat.le_of_eq rfl) (hb hby at_98) (fun _ _ => ⟨rfl, rfl, (by decide : 14 + 0 ≤ _), (by decide : 142 + 0 ≤ _)⟩)
  dsimp only [Pt.U, Pt.locs, Pt.cells, Pt.slots] at X10 l10 y10 z10 st10 hQ10
  subst l10 y10 z10
  obtain ⟨r10, Tb10, us10, wl10, rfl, Nq10, Kq10, gq10, P10, W10, hu10, AK10⟩ := hQ10
  have N10 := Fr.app N9 Nq10
  have O10 := O9.keep Kq10 gq10
  have K0_10 := AK10 b1_0 K0_9
  have K1_10 := AK10 b2_0 K1_9
  have K2_10 := AK10 b3_0 K2_9
  have hv10 : us10.length ≤ 1 := by have q := (Nat.zero_le _ : ([] : List Int32).length ≤ 0); omega
  obtain ⟨ha, hF1, hA1⟩ := put1 (fun _ => rfl) P10
  obtain ⟨cq11, kq11, q11a, q11b, q11c⟩ := isOf hZ rfl (Et9.keep Kq10)
  obtain ⟨_, _, ⟨T11, L11, k11, n11⟩, -, X11, ⟨Lc11, hQ11, l11, y11, z11⟩, st11⟩ := X10.virtualBack hx (y := y17) (z := y17) hown (mvT hZ (wq hw 48 rfl)) (mvT hZ (wq hw 49 rfl)) (notFace_of_selects (args := #[]) (mvT hZ (wq hw 51 rfl))) (mvT hZ (wq hw 51 rfl)) (mvT hZ (wq hw 50 rfl)) (by decide) (backOf (W := 0) (rmPUT l Z a0 hw [] cs_v hp κ b4 b2_0 (p4 + (1 : Int32)) Tb10 us10 T10.heap n0 O10 g_b2_0 K1_10 W10 (Nat.le_trans hv10 (by decide))) hZ (wq hw 52 rfl) (wq hw 32 rfl) (by decide) (by decide)) q11a q11c (g := (mkF m 129 #[.val (.int p0), .val (.int p1), .val (.int p2), .val (.int p3), .val (.int p4), .val (.int p5), .val (.ref b1_0), .val (.ref b2_0), .val (.ref b3_0), .val (.int (p3 &&& (3 : Int32))), .val (.ref b4), .val (.int (1 : Int32)), .val (.int r10), .unset, .unset, .unset, .unset, .unset] [(.int (p4 + (1 : Int32))), (.ref b2_0), (.ref b4)])) rfl (by rw [hml]; rfl) (Steps.refl _) (argsL := [(.ref b2_0), (.int (p4 + (1 : Int32)))]) (rest := []) (lenOf pd_18 rfl) rfl (by show 2 * 0 + _ ≤ _; exact Nat.le_of_eq rfl) (hb hby at_129) (fun _ _ => ⟨rfl, rfl, (by decide : 14 + 0 ≤ _), (by decide : 142 + 0 ≤ _)⟩)
  dsimp only [Pt.U, Pt.locs, Pt.cells, Pt.slots] at X11 l11 y11 z11 st11 hQ11
  subst l11 y11 z11
  obtain ⟨r11, Tb11, us11, wl11, rfl, Nq11, Kq11, gq11, P11, W11, hu11, AK11⟩ := hQ11
  have N11 := Fr.app N10 Nq11
  have O11 := O10.keep Kq11 gq11
  have K0_11 := AK11 b1_0 K0_10
  have M0_11 : StrK Z T11.heap b1_0 (mkV p0) := by rw [← hκ0]; exact K0_11
  have K1_11 := AK11 b2_0 K1_10
  have M1_11 : StrK Z T11.heap b2_0 (mkV p1) := by rw [← hκ1]; exact K1_11
  have K2_11 := AK11 b3_0 K2_10
  have hv11 : us11.length ≤ 2 := by have q := hv10; omega
  obtain ⟨hb1, hb2, hF2, hA2⟩ := put2 hF1 hA1 P11
  obtain ⟨cq12, kq12, q12a, q12b, q12c⟩ := isOf hZ rfl ((K1_9.exa.keep Kq10).keep Kq11)
  obtain ⟨_, _, ⟨T12, L12, k12, n12⟩, -, X12, ⟨Lc12, hQ12, l12, y12, z12⟩, st12⟩ := X11.virtualBack hx (y := y16) (z := y16) hown (mvT hZ (wq hw 79 rfl)) (mvT hZ (wq hw 80 rfl)) (notFace_of_selects (args := #[]) (mvT hZ (wq hw 82 rfl))) (mvT hZ (wq hw 82 rfl)) (mvT hZ (wq hw 81 rfl)) (by decide) (backOf (W := 0) (rmEQ l Z a0 hw [] cs_v hp b2_0 b1_0 (mkV p1) (mkV p0) T11.heap n0 O11 (Ne.symm (Nat.ne_of_lt (Nat.lt_of_lt_of_le fq1_0.lt sq_b2_0))) M1_11 M0_11) hZ (wq hw 83 rfl) (wq hw 6 rfl) (by decide) (by decide)) q12a q12c (g := (mkF m 138 #[.val (.int p0), .val (.int p1), .val (.int p2), .val (.int p3), .val (.int p4), .val (.int p5), .val (.ref b1_0), .val (.ref b2_0), .val (.ref b3_0), .val (.int (p3 &&& (3 : Int32))), .val (.ref b4), .val (.int (1 : Int32)), .val (.int r10), .val (.int r11), .unset, .unset, .unset, .unset] [(.ref b1_0), (.ref b2_0)])) rfl (by rw [hml]; rfl) (Steps.refl _) (argsL := [(.ref b1_0)]) (rest := []) (lenOf pd_14 rfl) rfl (by show 2 * 0 + _ ≤ _; exact Nat.le_of_eq rfl) (hb hby at_138) (fun _ _ => ⟨rfl, rfl, (by decide : 14 + 0 ≤ _), (by decide : 142 + 0 ≤ _)⟩)
  dsimp only [Pt.U, Pt.locs, Pt.cells, Pt.slots] at X12 l12 y12 z12 st12 hQ12
  subst l12 y12 z12
  obtain ⟨rfl, Nq12, eq12⟩ := hQ12
  have N12 := Fr.app N11 Nq12
  obtain ⟨cq13, kq13, q13a, q13b, q13c⟩ := isOf hZ eq12 ((Et9.keep Kq10).keep Kq11)
  obtain ⟨_, _, ⟨T13, L13, k13, n13⟩, -, X13, ⟨Lc13, hQ13, l13, y13, z13⟩, st13⟩ := X12.virtualBack hx (y := y17) (z := y17) hown (mvT hZ (wq hw 48 rfl)) (mvT hZ (wq hw 49 rfl)) (notFace_of_selects (args := #[]) (mvT hZ (wq hw 51 rfl))) (mvT hZ (wq hw 51 rfl)) (mvT hZ (wq hw 50 rfl)) (by decide) (backOf (W := 0) (rmPUT l Z a0 hw [] cs_v hp κ b4 b3_0 (p4 + (2 : Int32)) Tb11 us11 T11.heap n0 O11 g_b3_0 K2_11 W11 (Nat.le_trans hv11 (by decide))) hZ (wq hw 52 rfl) (wq hw 32 rfl) (by decide) (by decide)) q13a q13c (g := (mkF m 179 #[.val (.int p0), .val (.int p1), .val (.int p2), .val (.int p3), .val (.int p4), .val (.int p5), .val (.ref b1_0), .val (.ref b2_0), .val (.ref b3_0), .val (.int (p3 &&& (3 : Int32))), .val (.ref b4), .val (.int (1 : Int32)), .val (.int r10), .val (.int r11), .val (.int (-1 : Int32)), .unset, .unset, .unset] [(.int (p4 + (2 : Int32))), (.ref b3_0), (.ref b4)])) rfl (by rw [hml]; rfl) (Steps.refl _) (argsL := [(.ref b3_0), (.int (p4 + (2 : Int32)))]) (rest := []) (lenOf pd_18 rfl) rfl (by show 2 * 0 + _ ≤ _; exact Nat.le_of_eq rfl) (hb hby at_179) (fun _ _ => ⟨rfl, eq12, (by decide : 14 + 0 ≤ _), (by decide : 142 + 0 ≤ _)⟩)
  dsimp only [Pt.U, Pt.locs, Pt.cells, Pt.slots] at X13 l13 y13 z13 st13 hQ13
  subst l13 y13 z13
  obtain ⟨r13, Tb13, us13, wl13, rfl, Nq13, Kq13, gq13, P13, W13, hu13, AK13⟩ := hQ13
  have N13 := Fr.app N12 Nq13
  have O13 := O11.keep Kq13 gq13
  have K0_13 := AK13 b1_0 K0_11
  have M0_13 : StrK Z T13.heap b1_0 (mkV p0) := by rw [← hκ0]; exact K0_13
  have K1_13 := AK13 b2_0 K1_11
  have M1_13 : StrK Z T13.heap b2_0 (mkV p1) := by rw [← hκ1]; exact K1_13
  have K2_13 := AK13 b3_0 K2_11
  have M2_13 : StrK Z T13.heap b3_0 (mkV p2) := by rw [← hκ2]; exact K2_13
  have hv13 : us13.length ≤ 3 := by have q := hv11; omega
  obtain ⟨he1, he2, he3, hF3⟩ := put3 hF2 (fun h => (hb2 h).2) hA2 P13
  obtain ⟨cq14, kq14, q14a, q14b, q14c⟩ := isOf hZ rfl (((K2_9.exa.keep Kq10).keep Kq11).keep Kq13)
  obtain ⟨_, _, ⟨T14, L14, k14, n14⟩, -, X14, ⟨Lc14, hQ14, l14, y14, z14⟩, st14⟩ := X13.virtualBack hx (y := y16) (z := y16) hown (mvT hZ (wq hw 79 rfl)) (mvT hZ (wq hw 80 rfl)) (notFace_of_selects (args := #[]) (mvT hZ (wq hw 82 rfl))) (mvT hZ (wq hw 82 rfl)) (mvT hZ (wq hw 81 rfl)) (by decide) (backOf (W := 0) (rmEQ l Z a0 hw [] cs_v hp b3_0 b1_0 (mkV p2) (mkV p0) T13.heap n0 O13 (Ne.symm (Nat.ne_of_lt (Nat.lt_of_lt_of_le (fq1_0.keep Kq2).lt sq_b3_0))) M2_13 M0_13) hZ (wq hw 83 rfl) (wq hw 6 rfl) (by decide) (by decide)) q14a q14c (g := (mkF m 188 #[.val (.int p0), .val (.int p1), .val (.int p2), .val (.int p3), .val (.int p4), .val (.int p5), .val (.ref b1_0), .val (.ref b2_0), .val (.ref b3_0), .val (.int (p3 &&& (3 : Int32))), .val (.ref b4), .val (.int (1 : Int32)), .val (.int r10), .val (.int r11), .val (.int (-1 : Int32)), .val (.int r13), .unset, .unset] [(.ref b1_0), (.ref b3_0)])) rfl (by rw [hml]; rfl) (Steps.refl _) (argsL := [(.ref b1_0)]) (rest := []) (lenOf pd_14 rfl) rfl (by show 2 * 0 + _ ≤ _; exact Nat.le_of_eq rfl) (hb hby at_188) (fun _ _ => ⟨rfl, rfl, (by decide : 14 + 0 ≤ _), (by decide : 142 + 0 ≤ _)⟩)
  dsimp only [Pt.U, Pt.locs, Pt.cells, Pt.slots] at X14 l14 y14 z14 st14 hQ14
  subst l14 y14 z14
  obtain ⟨rfl, Nq14, eq14⟩ := hQ14
  have N14 := Fr.app N13 Nq14
  obtain ⟨cq15, kq15, q15a, q15b, q15c⟩ := isOf hZ eq14 (((K2_9.exa.keep Kq10).keep Kq11).keep Kq13)
  obtain ⟨_, _, ⟨T15, L15, k15, n15⟩, -, X15, ⟨Lc15, hQ15, l15, y15, z15⟩, st15⟩ := X14.virtualBack hx (y := y16) (z := y16) hown (mvT hZ (wq hw 79 rfl)) (mvT hZ (wq hw 80 rfl)) (notFace_of_selects (args := #[]) (mvT hZ (wq hw 82 rfl))) (mvT hZ (wq hw 82 rfl)) (mvT hZ (wq hw 81 rfl)) (by decide) (backOf (W := 0) (rmEQ l Z a0 hw [] cs_v hp b3_0 b2_0 (mkV p2) (mkV p1) T13.heap n0 O13 (Ne.symm (Nat.ne_of_lt (Nat.lt_of_lt_of_le fq2_0.lt sq_b3_0))) M2_13 M1_13) hZ (wq hw 83 rfl) (wq hw 6 rfl) (by decide) (by decide)) q15a q15c (g := (mkF m 205 #[.val (.int p0), .val (.int p1), .val (.int p2), .val (.int p3), .val (.int p4), .val (.int p5), .val (.ref b1_0), .val (.ref b2_0), .val (.ref b3_0), .val (.int (p3 &&& (3 : Int32))), .val (.ref b4), .val (.int (1 : Int32)), .val (.int r10), .val (.int r11), .val (.int (-1 : Int32)), .val (.int r13), .unset, .unset] [(.ref b2_0), (.ref b3_0)])) rfl (by rw [hml]; rfl) (Steps.refl _) (argsL := [(.ref b2_0)]) (rest := []) (lenOf pd_14 rfl) rfl (by show 2 * 0 + _ ≤ _; exact Nat.le_of_eq rfl) (hb hby at_205) (fun _ _ => ⟨rfl, eq14, (by decide : 14 + 0 ≤ _), (by decide : 142 + 0 ≤ _)⟩)
  dsimp only [Pt.U, Pt.locs, Pt.cells, Pt.slots] at X15 l15 y15 z15 st15 hQ15
  subst l15 y15 z15
  obtain ⟨rfl, Nq15, eq15⟩ := hQ15
  have N15 := Fr.app N14 Nq15
  obtain ⟨cq16, kq16, q16a, q16b, q16c⟩ := isOf hZ eq15 (((Et9.keep Kq10).keep Kq11).keep Kq13)
  obtain ⟨_, _, ⟨T16, L16, k16, n16⟩, -, X16, ⟨Lc16, hQ16, l16, y16, z16⟩, st16⟩ := X15.virtualBack hx (y := y17) (z := y17) hown (mvT hZ (wq hw 48 rfl)) (mvT hZ (wq hw 49 rfl)) (notFace_of_selects (args := #[]) (mvT hZ (wq hw 51 rfl))) (mvT hZ (wq hw 51 rfl)) (mvT hZ (wq hw 50 rfl)) (by decide) (backOf (W := 0) (rmPUT l Z a0 hw [] cs_v hp κ b4 b1_0 (p4 + (3 : Int32)) Tb13 us13 T13.heap n0 O13 g_b1_0 K0_13 W13 (Nat.le_trans hv13 (by decide))) hZ (wq hw 52 rfl) (wq hw 32 rfl) (by decide) (by decide)) q16a q16c (g := (mkF m 250 #[.val (.int p0), .val (.int p1), .val (.int p2), .val (.int p3), .val (.int p4), .val (.int p5), .val (.ref b1_0), .val (.ref b2_0), .val (.ref b3_0), .val (.int (p3 &&& (3 : Int32))), .val (.ref b4), .val (.int (1 : Int32)), .val (.int r10), .val (.int r11), .val (.int (-1 : Int32)), .val (.int r13), .val (.int (-1 : Int32)), .unset] [(.int (p4 + (3 : Int32))), (.ref b1_0), (.ref b4)])) rfl (by rw [hml]; rfl) (Steps.refl _) (argsL := [(.ref b1_0), (.int (p4 + (3 : Int32)))]) (rest := []) (lenOf pd_18 rfl) rfl (by show 2 * 0 + _ ≤ _; exact Nat.le_of_eq rfl) (hb hby at_250) (fun _ _ => ⟨rfl, eq15, (by decide : 14 + 0 ≤ _), (by decide : 142 + 0 ≤ _)⟩)
  dsimp only [Pt.U, Pt.locs, Pt.cells, Pt.slots] at X16 l16 y16 z16 st16 hQ16
  subst l16 y16 z16
  obtain ⟨r16, Tb16, us16, wl16, rfl, Nq16, Kq16, gq16, P16, W16, hu16, AK16⟩ := hQ16
  have N16 := Fr.app N15 Nq16
  have hd4 := put4 hF3 P16
  obtain ⟨fs, hr, hrun, hended, hW, hsame⟩ := X16.leave (v := some (.int (1 : Int32))) (fun h => by rw [Bd.returns] at h; cases h)
  refine ⟨_, _, castTop (ef_0_0 m p0 p1 p2 p3 p4 p5) ?_, hrun, hended, _, _, rfl, ?_, ⟨_, rfl⟩, hW, hsame.mono (by decide) (by decide)⟩
  · show Sp p e below s₁ (mkF m 0 #[.val (.int p0), .val (.int p1), .val (.int p2), .val (.int p3), .val (.int p4), .val (.int p5), .unset, .unset, .unset, .unset, .unset, .unset, .unset, .unset, .unset, .unset, .unset, .unset] []) _
    refine XS.iloadN X0.here hx rfl (hb hby at_0) rfl ?_
    show Sp p e below s₁ (mkF m 1 #[.val (.int p0), .val (.int p1), .val (.int p2), .val (.int p3), .val (.int p4), .val (.int p5), .unset, .unset, .unset, .unset, .unset, .unset, .unset, .unset, .unset, .unset, .unset, .unset] [(.int p0)]) _
    refine st1 _ ?_
    show Sp p e below T1 (mkF m 4 #[.val (.int p0), .val (.int p1), .val (.int p2), .val (.int p3), .val (.int p4), .val (.int p5), .unset, .unset, .unset, .unset, .unset, .unset, .unset, .unset, .unset, .unset, .unset, .unset] [(.ref b1_0)]) _
    refine XS.astore X1.here hx rfl (hb hby at_4) rfl rfl (l' := #[.val (.int p0), .val (.int p1), .val (.int p2), .val (.int p3), .val (.int p4), .val (.int p5), .val (.ref b1_0), .unset, .unset, .unset, .unset, .unset, .unset, .unset, .unset, .unset, .unset, .unset]) rfl ?_
    refine XS.iloadN X1.here hx rfl (hb hby at_6) rfl ?_
    show Sp p e below T1 (mkF m 7 #[.val (.int p0), .val (.int p1), .val (.int p2), .val (.int p3), .val (.int p4), .val (.int p5), .val (.ref b1_0), .unset, .unset, .unset, .unset, .unset, .unset, .unset, .unset, .unset, .unset, .unset] [(.int p1)]) _
    refine st2 _ ?_
    show Sp p e below T2 (mkF m 10 #[.val (.int p0), .val (.int p1), .val (.int p2), .val (.int p3), .val (.int p4), .val (.int p5), .val (.ref b1_0), .unset, .unset, .unset, .unset, .unset, .unset, .unset, .unset, .unset, .unset, .unset] [(.ref b2_0)]) _
    refine XS.astore X2.here hx rfl (hb hby at_10) rfl rfl (l' := #[.val (.int p0), .val (.int p1), .val (.int p2), .val (.int p3), .val (.int p4), .val (.int p5), .val (.ref b1_0), .val (.ref b2_0), .unset, .unset, .unset, .unset, .unset, .unset, .unset, .unset, .unset, .unset]) rfl ?_
    refine XS.iloadN X2.here hx rfl (hb hby at_12) rfl ?_
    show Sp p e below T2 (mkF m 13 #[.val (.int p0), .val (.int p1), .val (.int p2), .val (.int p3), .val (.int p4), .val (.int p5), .val (.ref b1_0), .val (.ref b2_0), .unset, .unset, .unset, .unset, .unset, .unset, .unset, .unset, .unset, .unset] [(.int p2)]) _
    refine st3 _ ?_
    show Sp p e below T3 (mkF m 16 #[.val (.int p0), .val (.int p1), .val (.int p2), .val (.int p3), .val (.int p4), .val (.int p5), .val (.ref b1_0), .val (.ref b2_0), .unset, .unset, .unset, .unset, .unset, .unset, .unset, .unset, .unset, .unset] [(.ref b3_0)]) _
    refine XS.astore X3.here hx rfl (hb hby at_16) rfl rfl (l' := #[.val (.int p0), .val (.int p1), .val (.int p2), .val (.int p3), .val (.int p4), .val (.int p5), .val (.ref b1_0), .val (.ref b2_0), .val (.ref b3_0), .unset, .unset, .unset, .unset, .unset, .unset, .unset, .unset, .unset]) rfl ?_
    refine XS.iloadN X3.here hx rfl (hb hby at_18) rfl ?_
    refine XS.iconst X3.here hx rfl (hb hby at_19) ?_
    refine XS.iand X3.here hx rfl (hb hby at_20) rfl ?_
    refine XS.istore X3.here hx rfl (hb hby at_21) rfl (l' := #[.val (.int p0), .val (.int p1), .val (.int p2), .val (.int p3), .val (.int p4), .val (.int p5), .val (.ref b1_0), .val (.ref b2_0), .val (.ref b3_0), .val (.int (p3 &&& (3 : Int32))), .unset, .unset, .unset, .unset, .unset, .unset, .unset, .unset]) rfl ?_
    show Sp p e below T3 (mkF m 23 #[.val (.int p0), .val (.int p1), .val (.int p2), .val (.int p3), .val (.int p4), .val (.int p5), .val (.ref b1_0), .val (.ref b2_0), .val (.ref b3_0), .val (.int (p3 &&& (3 : Int32))), .unset, .unset, .unset, .unset, .unset, .unset, .unset, .unset] []) _
    refine st4 _ ?_
    show Sp p e below T4 (mkF m 26 #[.val (.int p0), .val (.int p1), .val (.int p2), .val (.int p3), .val (.int p4), .val (.int p5), .val (.ref b1_0), .val (.ref b2_0), .val (.ref b3_0), .val (.int (p3 &&& (3 : Int32))), .unset, .unset, .unset, .unset, .unset, .unset, .unset, .unset] [(.ref b4)]) _
    refine XS.dup X4.here hx rfl (hb hby at_26) rfl rfl ?_
    show Sp p e below T4 (mkF m 27 #[.val (.int p0), .val (.int p1), .val (.int p2), .val (.int p3), .val (.int p4), .val (.int p5), .val (.ref b1_0), .val (.ref b2_0), .val (.ref b3_0), .val (.int (p3 &&& (3 : Int32))), .unset, .unset, .unset, .unset, .unset, .unset, .unset, .unset] [(.ref b4), (.ref b4)]) _
    refine st5.trans ?_
    show Sp p e below T5 (mkF m 30 #[.val (.int p0), .val (.int p1), .val (.int p2), .val (.int p3), .val (.int p4), .val (.int p5), .val (.ref b1_0), .val (.ref b2_0), .val (.ref b3_0), .val (.int (p3 &&& (3 : Int32))), .unset, .unset, .unset, .unset, .unset, .unset, .unset, .unset] [(.ref b4)]) _
    refine XS.astore X5.here hx rfl (hb hby at_30) rfl rfl (l' := #[.val (.int p0), .val (.int p1), .val (.int p2), .val (.int p3), .val (.int p4), .val (.int p5), .val (.ref b1_0), .val (.ref b2_0), .val (.ref b3_0), .val (.int (p3 &&& (3 : Int32))), .val (.ref b4), .unset, .unset, .unset, .unset, .unset, .unset, .unset]) rfl ?_
    refine st9 _ ?_
    show Sp p e below T9 (mkF m 92 #[.val (.int p0), .val (.int p1), .val (.int p2), .val (.int p3), .val (.int p4), .val (.int p5), .val (.ref b1_0), .val (.ref b2_0), .val (.ref b3_0), .val (.int (p3 &&& (3 : Int32))), .val (.ref b4), .val (.int (1 : Int32)), .unset, .unset, .unset, .unset, .unset, .unset] []) _
    refine XS.aload X9.here hx rfl (hb hby at_92) rfl rfl ?_
    refine XS.aload X9.here hx rfl (hb hby at_94) rfl rfl ?_
    refine XS.iload X9.here hx rfl (hb hby at_96) rfl ?_
    show Sp p e below T9 (mkF m 98 #[.val (.int p0), .val (.int p1), .val (.int p2), .val (.int p3), .val (.int p4), .val (.int p5), .val (.ref b1_0), .val (.ref b2_0), .val (.ref b3_0), .val (.int (p3 &&& (3 : Int32))), .val (.ref b4), .val (.int (1 : Int32)), .unset, .unset, .unset, .unset, .unset, .unset] [(.int p4), (.ref b1_0), (.ref b4)]) _
    refine st10.trans ?_
    show Sp p e below T10 (mkF m 101 #[.val (.int p0), .val (.int p1), .val (.int p2), .val (.int p3), .val (.int p4), .val (.int p5), .val (.ref b1_0), .val (.ref b2_0), .val (.ref b3_0), .val (.int (p3 &&& (3 : Int32))), .val (.ref b4), .val (.int (1 : Int32)), .unset, .unset, .unset, .unset, .unset, .unset] [(.int r10)]) _
    refine XS.istore X10.here hx rfl (hb hby at_101) rfl (l' := #[.val (.int p0), .val (.int p1), .val (.int p2), .val (.int p3), .val (.int p4), .val (.int p5), .val (.ref b1_0), .val (.ref b2_0), .val (.ref b3_0), .val (.int (p3 &&& (3 : Int32))), .val (.ref b4), .val (.int (1 : Int32)), .val (.int r10), .unset, .unset, .unset, .unset, .unset]) rfl ?_
    refine XS.iload X10.here hx rfl (hb hby at_103) rfl ?_
    refine XS.ifNo X10.here hx rfl (hb hby at_105) rfl ((if0 _ _).trans (feq (by decide : ¬ ((1 : Int32) = (0 : Int32)))).1) ?_
    refine XS.iload X10.here hx rfl (hb hby at_108) rfl ?_
    refine XS.iconst X10.here hx rfl (hb hby at_110) ?_
    refine XS.icmpNo X10.here hx rfl (hb hby at_111) rfl (teq ha).2 ?_
    refine XS.iconst X10.here hx rfl (hb hby at_114) ?_
    show Sp p e below T10 (mkF m 115 #[.val (.int p0), .val (.int p1), .val (.int p2), .val (.int p3), .val (.int p4), .val (.int p5), .val (.ref b1_0), .val (.ref b2_0), .val (.ref b3_0), .val (.int (p3 &&& (3 : Int32))), .val (.ref b4), .val (.int (1 : Int32)), .val (.int r10), .unset, .unset, .unset, .unset, .unset] [(.int (1 : Int32))]) _
    refine XS.goto X10.here hx rfl (pc0 := 115) (pc' := 119) rfl (hb hby at_115) (by decide) (by decide) ?_
    refine XS.istore X10.here hx rfl (hb hby at_119) rfl (l' := #[.val (.int p0), .val (.int p1), .val (.int p2), .val (.int p3), .val (.int p4), .val (.int p5), .val (.ref b1_0), .val (.ref b2_0), .val (.ref b3_0), .val (.int (p3 &&& (3 : Int32))), .val (.ref b4), .val (.int (1 : Int32)), .val (.int r10), .unset, .unset, .unset, .unset, .unset]) rfl ?_
    refine XS.aload X10.here hx rfl (hb hby at_121) rfl rfl ?_
    refine XS.aload X10.here hx rfl (hb hby at_123) rfl rfl ?_
    refine XS.iload X10.here hx rfl (hb hby at_125) rfl ?_
    refine XS.iconst X10.here hx rfl (hb hby at_127) ?_
    refine XS.iadd X10.here hx rfl (hb hby at_128) rfl ?_
    show Sp p e below T10 (mkF m 129 #[.val (.int p0), .val (.int p1), .val (.int p2), .val (.int p3), .val (.int p4), .val (.int p5), .val (.ref b1_0), .val (.ref b2_0), .val (.ref b3_0), .val (.int (p3 &&& (3 : Int32))), .val (.ref b4), .val (.int (1 : Int32)), .val (.int r10), .unset, .unset, .unset, .unset, .unset] [(.int (p4 + (1 : Int32))), (.ref b2_0), (.ref b4)]) _
    refine st11.trans ?_
    show Sp p e below T11 (mkF m 132 #[.val (.int p0), .val (.int p1), .val (.int p2), .val (.int p3), .val (.int p4), .val (.int p5), .val (.ref b1_0), .val (.ref b2_0), .val (.ref b3_0), .val (.int (p3 &&& (3 : Int32))), .val (.ref b4), .val (.int (1 : Int32)), .val (.int r10), .unset, .unset, .unset, .unset, .unset] [(.int r11)]) _
    refine XS.istore X11.here hx rfl (hb hby at_132) rfl (l' := #[.val (.int p0), .val (.int p1), .val (.int p2), .val (.int p3), .val (.int p4), .val (.int p5), .val (.ref b1_0), .val (.ref b2_0), .val (.ref b3_0), .val (.int (p3 &&& (3 : Int32))), .val (.ref b4), .val (.int (1 : Int32)), .val (.int r10), .val (.int r11), .unset, .unset, .unset, .unset]) rfl ?_
    refine XS.aload X11.here hx rfl (hb hby at_134) rfl rfl ?_
    refine XS.aload X11.here hx rfl (hb hby at_136) rfl rfl ?_
    show Sp p e below T11 (mkF m 138 #[.val (.int p0), .val (.int p1), .val (.int p2), .val (.int p3), .val (.int p4), .val (.int p5), .val (.ref b1_0), .val (.ref b2_0), .val (.ref b3_0), .val (.int (p3 &&& (3 : Int32))), .val (.ref b4), .val (.int (1 : Int32)), .val (.int r10), .val (.int r11), .unset, .unset, .unset, .unset] [(.ref b1_0), (.ref b2_0)]) _
    refine st12.trans ?_
    show Sp p e below T12 (mkF m 141 #[.val (.int p0), .val (.int p1), .val (.int p2), .val (.int p3), .val (.int p4), .val (.int p5), .val (.ref b1_0), .val (.ref b2_0), .val (.ref b3_0), .val (.int (p3 &&& (3 : Int32))), .val (.ref b4), .val (.int (1 : Int32)), .val (.int r10), .val (.int r11), .unset, .unset, .unset, .unset] [(.int (eqK (mkV p1) (mkV p0)))]) _
    refine XS.ifYes X12.here hx rfl (pc0 := 141) (pc' := 149) rfl (hb hby at_141) rfl ((if0 _ _).trans (teq hc1).1) (by decide) (by decide) ?_
    refine XS.iconst X12.here hx rfl (hb hby at_149) ?_
    refine XS.istore X12.here hx rfl (hb hby at_150) rfl (l' := #[.val (.int p0), .val (.int p1), .val (.int p2), .val (.int p3), .val (.int p4), .val (.int p5), .val (.ref b1_0), .val (.ref b2_0), .val (.ref b3_0), .val (.int (p3 &&& (3 : Int32))), .val (.ref b4), .val (.int (1 : Int32)), .val (.int r10), .val (.int r11), .val (.int (-1 : Int32)), .unset, .unset, .unset]) rfl ?_
    refine XS.iload X12.here hx rfl (hb hby at_152) rfl ?_
    refine XS.ifNo X12.here hx rfl (hb hby at_154) rfl ((if0 _ _).trans (feq (by decide : ¬ ((1 : Int32) = (0 : Int32)))).1) ?_
    refine XS.iload X12.here hx rfl (hb hby at_157) rfl ?_
    refine XS.iload X12.here hx rfl (hb hby at_159) rfl ?_
    show Sp p e below T12 (mkF m 161 #[.val (.int p0), .val (.int p1), .val (.int p2), .val (.int p3), .val (.int p4), .val (.int p5), .val (.ref b1_0), .val (.ref b2_0), .val (.ref b3_0), .val (.int (p3 &&& (3 : Int32))), .val (.ref b4), .val (.int (1 : Int32)), .val (.int r10), .val (.int r11), .val (.int (-1 : Int32)), .unset, .unset, .unset] [(.int (-1 : Int32)), (.int r11)]) _
    refine XS.icmpNo X12.here hx rfl (hb hby at_161) rfl (teq (hb2 (by rw [hκ1, hκ0]; exact own_ek0 hc1)).1).2 ?_
    refine XS.iconst X12.here hx rfl (hb hby at_164) ?_
    refine XS.goto X12.here hx rfl (pc0 := 165) (pc' := 169) rfl (hb hby at_165) (by decide) (by decide) ?_
    refine XS.istore X12.here hx rfl (hb hby at_169) rfl (l' := #[.val (.int p0), .val (.int p1), .val (.int p2), .val (.int p3), .val (.int p4), .val (.int p5), .val (.ref b1_0), .val (.ref b2_0), .val (.ref b3_0), .val (.int (p3 &&& (3 : Int32))), .val (.ref b4), .val (.int (1 : Int32)), .val (.int r10), .val (.int r11), .val (.int (-1 : Int32)), .unset, .unset, .unset]) rfl ?_
    refine XS.aload X12.here hx rfl (hb hby at_171) rfl rfl ?_
    refine XS.aload X12.here hx rfl (hb hby at_173) rfl rfl ?_
    refine XS.iload X12.here hx rfl (hb hby at_175) rfl ?_
    show Sp p e below T12 (mkF m 177 #[.val (.int p0), .val (.int p1), .val (.int p2), .val (.int p3), .val (.int p4), .val (.int p5), .val (.ref b1_0), .val (.ref b2_0), .val (.ref b3_0), .val (.int (p3 &&& (3 : Int32))), .val (.ref b4), .val (.int (1 : Int32)), .val (.int r10), .val (.int r11), .val (.int (-1 : Int32)), .unset, .unset, .unset] [(.int p4), (.ref b3_0), (.ref b4)]) _
    refine XS.iconst X12.here hx rfl (hb hby at_177) ?_
    refine XS.iadd X12.here hx rfl (hb hby at_178) rfl ?_
    show Sp p e below T12 (mkF m 179 #[.val (.int p0), .val (.int p1), .val (.int p2), .val (.int p3), .val (.int p4), .val (.int p5), .val (.ref b1_0), .val (.ref b2_0), .val (.ref b3_0), .val (.int (p3 &&& (3 : Int32))), .val (.ref b4), .val (.int (1 : Int32)), .val (.int r10), .val (.int r11), .val (.int (-1 : Int32)), .unset, .unset, .unset] [(.int (p4 + (2 : Int32))), (.ref b3_0), (.ref b4)]) _
    refine st13.trans ?_
    show Sp p e below T13 (mkF m 182 #[.val (.int p0), .val (.int p1), .val (.int p2), .val (.int p3), .val (.int p4), .val (.int p5), .val (.ref b1_0), .val (.ref b2_0), .val (.ref b3_0), .val (.int (p3 &&& (3 : Int32))), .val (.ref b4), .val (.int (1 : Int32)), .val (.int r10), .val (.int r11), .val (.int (-1 : Int32)), .unset, .unset, .unset] [(.int r13)]) _
    refine XS.istore X13.here hx rfl (hb hby at_182) rfl (l' := #[.val (.int p0), .val (.int p1), .val (.int p2), .val (.int p3), .val (.int p4), .val (.int p5), .val (.ref b1_0), .val (.ref b2_0), .val (.ref b3_0), .val (.int (p3 &&& (3 : Int32))), .val (.ref b4), .val (.int (1 : Int32)), .val (.int r10), .val (.int r11), .val (.int (-1 : Int32)), .val (.int r13), .unset, .unset]) rfl ?_
    refine XS.aload X13.here hx rfl (hb hby at_184) rfl rfl ?_
    refine XS.aload X13.here hx rfl (hb hby at_186) rfl rfl ?_
    show Sp p e below T13 (mkF m 188 #[.val (.int p0), .val (.int p1), .val (.int p2), .val (.int p3), .val (.int p4), .val (.int p5), .val (.ref b1_0), .val (.ref b2_0), .val (.ref b3_0), .val (.int (p3 &&& (3 : Int32))), .val (.ref b4), .val (.int (1 : Int32)), .val (.int r10), .val (.int r11), .val (.int (-1 : Int32)), .val (.int r13), .unset, .unset] [(.ref b1_0), (.ref b3_0)]) _
    refine st14.trans ?_
    show Sp p e below T14 (mkF m 191 #[.val (.int p0), .val (.int p1), .val (.int p2), .val (.int p3), .val (.int p4), .val (.int p5), .val (.ref b1_0), .val (.ref b2_0), .val (.ref b3_0), .val (.int (p3 &&& (3 : Int32))), .val (.ref b4), .val (.int (1 : Int32)), .val (.int r10), .val (.int r11), .val (.int (-1 : Int32)), .val (.int r13), .unset, .unset] [(.int (eqK (mkV p2) (mkV p0)))]) _
    refine XS.ifYes X14.here hx rfl (pc0 := 191) (pc' := 201) rfl (hb hby at_191) rfl ((if0 _ _).trans (teq hc2).1) (by decide) (by decide) ?_
    refine XS.aload X14.here hx rfl (hb hby at_201) rfl rfl ?_
    refine XS.aload X14.here hx rfl (hb hby at_203) rfl rfl ?_
    show Sp p e below T14 (mkF m 205 #[.val (.int p0), .val (.int p1), .val (.int p2), .val (.int p3), .val (.int p4), .val (.int p5), .val (.ref b1_0), .val (.ref b2_0), .val (.ref b3_0), .val (.int (p3 &&& (3 : Int32))), .val (.ref b4), .val (.int (1 : Int32)), .val (.int r10), .val (.int r11), .val (.int (-1 : Int32)), .val (.int r13), .unset, .unset] [(.ref b2_0), (.ref b3_0)]) _
    refine st15.trans ?_
    show Sp p e below T15 (mkF m 208 #[.val (.int p0), .val (.int p1), .val (.int p2), .val (.int p3), .val (.int p4), .val (.int p5), .val (.ref b1_0), .val (.ref b2_0), .val (.ref b3_0), .val (.int (p3 &&& (3 : Int32))), .val (.ref b4), .val (.int (1 : Int32)), .val (.int r10), .val (.int r11), .val (.int (-1 : Int32)), .val (.int r13), .unset, .unset] [(.int (eqK (mkV p2) (mkV p1)))]) _
    refine XS.ifYes X15.here hx rfl (pc0 := 208) (pc' := 220) rfl (hb hby at_208) rfl ((if0 _ _).trans (teq hc3).1) (by decide) (by decide) ?_
    refine XS.iconst X15.here hx rfl (hb hby at_220) ?_
    refine XS.istore X15.here hx rfl (hb hby at_221) rfl (l' := #[.val (.int p0), .val (.int p1), .val (.int p2), .val (.int p3), .val (.int p4), .val (.int p5), .val (.ref b1_0), .val (.ref b2_0), .val (.ref b3_0), .val (.int (p3 &&& (3 : Int32))), .val (.ref b4), .val (.int (1 : Int32)), .val (.int r10), .val (.int r11), .val (.int (-1 : Int32)), .val (.int r13), .val (.int (-1 : Int32)), .unset]) rfl ?_
    refine XS.iload X15.here hx rfl (hb hby at_223) rfl ?_
    refine XS.ifNo X15.here hx rfl (hb hby at_225) rfl ((if0 _ _).trans (feq (by decide : ¬ ((1 : Int32) = (0 : Int32)))).1) ?_
    refine XS.iload X15.here hx rfl (hb hby at_228) rfl ?_
    refine XS.iload X15.here hx rfl (hb hby at_230) rfl ?_
    show Sp p e below T15 (mkF m 232 #[.val (.int p0), .val (.int p1), .val (.int p2), .val (.int p3), .val (.int p4), .val (.int p5), .val (.ref b1_0), .val (.ref b2_0), .val (.ref b3_0), .val (.int (p3 &&& (3 : Int32))), .val (.ref b4), .val (.int (1 : Int32)), .val (.int r10), .val (.int r11), .val (.int (-1 : Int32)), .val (.int r13), .val (.int (-1 : Int32)), .unset] [(.int (-1 : Int32)), (.int r13)]) _
    refine XS.icmpNo X15.here hx rfl (hb hby at_232) rfl (teq (he3 (by rw [hκ2, hκ0]; exact own_ek0 hc2) (by rw [hκ2, hκ1]; exact own_ek0 hc3))).2 ?_
    refine XS.iconst X15.here hx rfl (hb hby at_235) ?_
    refine XS.goto X15.here hx rfl (pc0 := 236) (pc' := 240) rfl (hb hby at_236) (by decide) (by decide) ?_
    refine XS.istore X15.here hx rfl (hb hby at_240) rfl (l' := #[.val (.int p0), .val (.int p1), .val (.int p2), .val (.int p3), .val (.int p4), .val (.int p5), .val (.ref b1_0), .val (.ref b2_0), .val (.ref b3_0), .val (.int (p3 &&& (3 : Int32))), .val (.ref b4), .val (.int (1 : Int32)), .val (.int r10), .val (.int r11), .val (.int (-1 : Int32)), .val (.int r13), .val (.int (-1 : Int32)), .unset]) rfl ?_
    refine XS.aload X15.here hx rfl (hb hby at_242) rfl rfl ?_
    refine XS.aload X15.here hx rfl (hb hby at_244) rfl rfl ?_
    refine XS.iload X15.here hx rfl (hb hby at_246) rfl ?_
    show Sp p e below T15 (mkF m 248 #[.val (.int p0), .val (.int p1), .val (.int p2), .val (.int p3), .val (.int p4), .val (.int p5), .val (.ref b1_0), .val (.ref b2_0), .val (.ref b3_0), .val (.int (p3 &&& (3 : Int32))), .val (.ref b4), .val (.int (1 : Int32)), .val (.int r10), .val (.int r11), .val (.int (-1 : Int32)), .val (.int r13), .val (.int (-1 : Int32)), .unset] [(.int p4), (.ref b1_0), (.ref b4)]) _
    refine XS.iconst X15.here hx rfl (hb hby at_248) ?_
    refine XS.iadd X15.here hx rfl (hb hby at_249) rfl ?_
    show Sp p e below T15 (mkF m 250 #[.val (.int p0), .val (.int p1), .val (.int p2), .val (.int p3), .val (.int p4), .val (.int p5), .val (.ref b1_0), .val (.ref b2_0), .val (.ref b3_0), .val (.int (p3 &&& (3 : Int32))), .val (.ref b4), .val (.int (1 : Int32)), .val (.int r10), .val (.int r11), .val (.int (-1 : Int32)), .val (.int r13), .val (.int (-1 : Int32)), .unset] [(.int (p4 + (3 : Int32))), (.ref b1_0), (.ref b4)]) _
    refine st16.trans ?_
    show Sp p e below T16 (mkF m 253 #[.val (.int p0), .val (.int p1), .val (.int p2), .val (.int p3), .val (.int p4), .val (.int p5), .val (.ref b1_0), .val (.ref b2_0), .val (.ref b3_0), .val (.int (p3 &&& (3 : Int32))), .val (.ref b4), .val (.int (1 : Int32)), .val (.int r10), .val (.int r11), .val (.int (-1 : Int32)), .val (.int r13), .val (.int (-1 : Int32)), .unset] [(.int r16)]) _
    refine XS.istore X16.here hx rfl (hb hby at_253) rfl (l' := #[.val (.int p0), .val (.int p1), .val (.int p2), .val (.int p3), .val (.int p4), .val (.int p5), .val (.ref b1_0), .val (.ref b2_0), .val (.ref b3_0), .val (.int (p3 &&& (3 : Int32))), .val (.ref b4), .val (.int (1 : Int32)), .val (.int r10), .val (.int r11), .val (.int (-1 : Int32)), .val (.int r13), .val (.int (-1 : Int32)), .val (.int r16)]) rfl ?_
    refine XS.iload X16.here hx rfl (hb hby at_255) rfl ?_
    refine XS.ifNo X16.here hx rfl (hb hby at_257) rfl ((if0 _ _).trans (feq (by decide : ¬ ((1 : Int32) = (0 : Int32)))).1) ?_
    refine XS.iload X16.here hx rfl (hb hby at_260) rfl ?_
    refine XS.iload X16.here hx rfl (hb hby at_262) rfl ?_
    refine XS.icmpNo X16.here hx rfl (hb hby at_264) rfl (teq hd4).2 ?_
    refine XS.iconst X16.here hx rfl (hb hby at_267) ?_
    show Sp p e below T16 (mkF m 268 #[.val (.int p0), .val (.int p1), .val (.int p2), .val (.int p3), .val (.int p4), .val (.int p5), .val (.ref b1_0), .val (.ref b2_0), .val (.ref b3_0), .val (.int (p3 &&& (3 : Int32))), .val (.ref b4), .val (.int (1 : Int32)), .val (.int r10), .val (.int r11), .val (.int (-1 : Int32)), .val (.int r13), .val (.int (-1 : Int32)), .val (.int r16)] [(.int (1 : Int32))]) _
    refine XS.goto X16.here hx rfl (pc0 := 268) (pc' := 272) rfl (hb hby at_268) (by decide) (by decide) ?_
    refine XS.istore X16.here hx rfl (hb hby at_272) rfl (l' := #[.val (.int p0), .val (.int p1), .val (.int p2), .val (.int p3), .val (.int p4), .val (.int p5), .val (.ref b1_0), .val (.ref b2_0), .val (.ref b3_0), .val (.int (p3 &&& (3 : Int32))), .val (.ref b4), .val (.int (1 : Int32)), .val (.int r10), .val (.int r11), .val (.int (-1 : Int32)), .val (.int r13), .val (.int (-1 : Int32)), .val (.int r16)]) rfl ?_
    refine XS.iload X16.here hx rfl (hb hby at_274) rfl ?_
    show Sp p e below T16 (mkF m 276 #[.val (.int p0), .val (.int p1), .val (.int p2), .val (.int p3), .val (.int p4), .val (.int p5), .val (.ref b1_0), .val (.ref b2_0), .val (.ref b3_0), .val (.int (p3 &&& (3 : Int32))), .val (.ref b4), .val (.int (1 : Int32)), .val (.int r10), .val (.int r11), .val (.int (-1 : Int32)), .val (.int r13), .val (.int (-1 : Int32)), .val (.int r16)] [(.int (1 : Int32))]) _
    exact retN X16 hx (t := .boolean) Bd.returns (by simp) (hb hby at_276) hr
  · skip
    exact ⟨rfl, N16⟩
theorem rm45 (l : Launch) (Z : State) (a0 : Array Value) (hw : ∀ d ∈ tables_1, d.before a0 Z = true) (ws : List Jvm.Cond) (cs_v : Int32) (hp : Perm Z cs_v) (p0 : Int32) (p1 : Int32) (p2 : Int32) (p3 : Int32) (p4 : Int32) (p5 : Int32) (h0 : Heap) (n0 : Nat) (O0 : Old Z n0 h0) (hc1 : ¬ ((eqK (mkV p1) (mkV p0)) = (0 : Int32))) (hc2 : (eqK (mkV p2) (mkV p0)) = (0 : Int32)) :
    MetFree l x (head1 (Jvm.Cond.code x code maxLocals ret :: ws) room_1) (fun a U => a = #[(.int p0), (.int p1), (.int p2), (.int p3), (.int p4), (.int p5)] ∧ Z.Warmed39 U.vm ∧ U.heap = h0) (fun _ _ _ _ _ => True) (fun _ U o U' => ∃ v L, o = .returned v ∧ (v = some (.int (1 : Int32)) ∧ Fr n0 L) ∧ FrameEnd U o U' L 40 384) := by
  refine MetFree.of_bodySF (plainFor_of_name pn_1) hisR ?_
  intro p e s m args below meth c s₁ Bd hml0 hP hK
  obtain ⟨rfl, hZ, hh⟩ := hP
  have hx := Bd.exec
  have hby := Bd.bytes
  have hml : c.maxLocals = 18 := hml0
  have hown : s.vm.findClass "com/example/byteloom/byteloom/StringNumbersClearPinLaw" = some m.cls := findClass_of_methodNamed Bd.named
  have hnm := (name_of_methodNamed Bd.named Bd.method).1
  have X0 : Stand p l e room_1 s m #[(.int p0), (.int p1), (.int p2), (.int p3), (.int p4), (.int p5)] below meth c s₁ [] 0 0 := Stand.of_body Bd
  have e0 : s₁.heap = h0 := by rw [← hh, Bd.state]; rfl
  have N0 := Fr.nil n0
  obtain ⟨_, _, ⟨T1, L1, k1, n1⟩, -, X1, ⟨Lc1, hQ1, l1, y1, z1⟩, st1⟩ := Jvm.LawKit.callS X0 hx (y := y4) hown (mvT hZ (wq hw 0 rfl)) (mvT hZ (wq hw 1 rfl)) (mvT hZ (wq hw 2 rfl)) (mvT hZ (wq hw 3 rfl)) (by decide) (backOf (W := 0) (rmMK l Z a0 hw [] cs_v hp p0 h0 n0 O0) hZ (wq hw 3 rfl) (wq hw 2 rfl) (by decide) (by decide)) (g := (mkF m 1 #[.val (.int p0), .val (.int p1), .val (.int p2), .val (.int p3), .val (.int p4), .val (.int p5), .unset, .unset, .unset, .unset, .unset, .unset, .unset, .unset, .unset, .unset, .unset, .unset] [(.int p0)])) rfl (by rw [hml]; rfl) (argsL := [(.int p0)]) (rest := []) (lenOf pd_16 rfl) rfl (by show 2 * 0 + _ ≤ _; exact Nat.le_of_eq rfl) (hb hby at_1) (fun _ _ => ⟨rfl, e0, (by decide : 0 + 3 ≤ _), (by decide : 0 + 8 ≤ _)⟩)
  dsimp only [Pt.U, Pt.locs, Pt.cells, Pt.slots] at X1 l1 y1 z1 st1 hQ1
  subst l1 y1 z1
  obtain ⟨b1_0, rfl, Nq1, Kq1, sq_b1_0, fq1_0, fq1_1⟩ := hQ1
  have N1 := Fr.app N0 Nq1
  have g_b1_0 : n0 ≤ b1_0 := Nat.le_trans (own_sz O0) sq_b1_0
  have O1 := O0.keep Kq1 all0
  obtain ⟨_, _, ⟨T2, L2, k2, n2⟩, -, X2, ⟨Lc2, hQ2, l2, y2, z2⟩, st2⟩ := Jvm.LawKit.callS X1 hx (y := y4) hown (mvT hZ (wq hw 0 rfl)) (mvT hZ (wq hw 1 rfl)) (mvT hZ (wq hw 2 rfl)) (mvT hZ (wq hw 3 rfl)) (by decide) (backOf (W := 0) (rmMK l Z a0 hw [] cs_v hp p1 T1.heap n0 O1) hZ (wq hw 3 rfl) (wq hw 2 rfl) (by decide) (by decide)) (g := (mkF m 7 #[.val (.int p0), .val (.int p1), .val (.int p2), .val (.int p3), .val (.int p4), .val (.int p5), .val (.ref b1_0), .unset, .unset, .unset, .unset, .unset, .unset, .unset, .unset, .unset, .unset, .unset] [(.int p1)])) rfl (by rw [hml]; rfl) (argsL := [(.int p1)]) (rest := []) (lenOf pd_16 rfl) rfl (by show 2 * 0 + _ ≤ _; exact Nat.le_of_eq rfl) (hb hby at_7) (fun _ _ => ⟨rfl, rfl, (by decide : 3 + 3 ≤ _), (by decide : 8 + 8 ≤ _)⟩)
  dsimp only [Pt.U, Pt.locs, Pt.cells, Pt.slots] at X2 l2 y2 z2 st2 hQ2
  subst l2 y2 z2
  obtain ⟨b2_0, rfl, Nq2, Kq2, sq_b2_0, fq2_0, fq2_1⟩ := hQ2
  have N2 := Fr.app N1 Nq2
  have g_b2_0 : n0 ≤ b2_0 := Nat.le_trans (own_sz O1) sq_b2_0
  have O2 := O1.keep Kq2 all0
  obtain ⟨_, _, ⟨T3, L3, k3, n3⟩, -, X3, ⟨Lc3, hQ3, l3, y3, z3⟩, st3⟩ := Jvm.LawKit.callS X2 hx (y := y4) hown (mvT hZ (wq hw 0 rfl)) (mvT hZ (wq hw 1 rfl)) (mvT hZ (wq hw 2 rfl)) (mvT hZ (wq hw 3 rfl)) (by decide) (backOf (W := 0) (rmMK l Z a0 hw [] cs_v hp p2 T2.heap n0 O2) hZ (wq hw 3 rfl) (wq hw 2 rfl) (by decide) (by decide)) (g := (mkF m 13 #[.val (.int p0), .val (.int p1), .val (.int p2), .val (.int p3), .val (.int p4), .val (.int p5), .val (.ref b1_0), .val (.ref b2_0), .unset, .unset, .unset, .unset, .unset, .unset, .unset, .unset, .unset, .unset] [(.int p2)])) rfl (by rw [hml]; rfl) (argsL := [(.int p2)]) (rest := []) (lenOf pd_16 rfl) rfl (by show 2 * 0 + _ ≤ _; exact Nat.le_of_eq rfl) (hb hby at_13) (fun _ _ => ⟨rfl, rfl, (by decide : 6 + 3 ≤ _), (by decide : 16 + 8 ≤ _)⟩)
  dsimp only [Pt.U, Pt.locs, Pt.cells, Pt.slots] at X3 l3 y3 z3 st3 hQ3
  subst l3 y3 z3
  obtain ⟨b3_0, rfl, Nq3, Kq3, sq_b3_0, fq3_0, fq3_1⟩ := hQ3
  have N3 := Fr.app N2 Nq3
  have g_b3_0 : n0 ≤ b3_0 := Nat.le_trans (own_sz O2) sq_b3_0
  have O3 := O2.keep Kq3 all0
  obtain ⟨T4, h4, X4, e4, E4, A4, D4, -, st4⟩ := newO X3 hx hZ hown (wq hw 30 rfl) (wq hw 31 rfl) (wq hw 32 rfl) rfl (g := (mkF m 23 #[.val (.int p0), .val (.int p1), .val (.int p2), .val (.int p3), .val (.int p4), .val (.int p5), .val (.ref b1_0), .val (.ref b2_0), .val (.ref b3_0), .val (.int (p3 &&& (3 : Int32))), .unset, .unset, .unset, .unset, .unset, .unset, .unset, .unset] [])) rfl (hb hby at_23) (by decide) (by decide)
  obtain ⟨b4, g4⟩ : ∃ z, z = T3.heap.size := ⟨_, rfl⟩
  rw [← g4] at A4 D4 st4
  have g_b4 : n0 ≤ b4 := Nat.le_trans (own_sz O3) (Nat.le_of_eq g4.symm)
  have O4 := O3.ext E4
  have F_strings_b4 : Fld Z h4 b4 "com/example/byteloom/byteloom/StringNumbers" "strings" "[Ljava/lang/String;" .null := D4 (Or.inr (wq hw 40 rfl)) (ty := (.array (.object "java/lang/String"))) (by decide)
  have F_hashes_b4 : Fld Z h4 b4 "com/example/byteloom/byteloom/StringNumbers" "hashes" "[I" .null := D4 (Or.inr (wq hw 43 rfl)) (ty := (.array .int)) (by decide)
  have F_numbers_b4 : Fld Z h4 b4 "com/example/byteloom/byteloom/StringNumbers" "numbers" "[I" .null := D4 (Or.inr (wq hw 45 rfl)) (ty := (.array .int)) (by decide)
  have F_taken_b4 : Fld Z h4 b4 "com/example/byteloom/byteloom/StringNumbers" "taken" "[I" .null := D4 (Or.inr (wq hw 47 rfl)) (ty := (.array .int)) (by decide)
  have F_listed_b4 : Fld Z h4 b4 "com/example/byteloom/byteloom/StringNumbers" "listed" "I" (.int (0 : Int32)) := D4 (Or.inl (wq hw 71 rfl)) (ty := .int) (by decide)
  have F_hashed_b4 : Fld Z h4 b4 "com/example/byteloom/byteloom/StringNumbers" "hashed" "Ljava/util/Map;" .null := D4 (Or.inl (wq hw 78 rfl)) (ty := (.object "java/util/Map")) (by decide)
  obtain ⟨_, _, ⟨T5, L5, k5, n5⟩, -, X5, ⟨Lc5, hQ5, l5, y5, z5⟩, st5⟩ := X4.specialBack hx (y := y19) rfl hown (mvT hZ (wq hw 33 rfl)) (mvT hZ (wq hw 34 rfl)) (mvT hZ (wq hw 35 rfl)) (by decide) (backOf (W := 1) (rm43 l Z a0 hw [] cs_v hp b4 h4 n0 O4 A4 F_strings_b4 F_hashes_b4 F_numbers_b4 F_taken_b4 F_listed_b4 F_hashed_b4 g_b4) hZ (wq hw 35 rfl) (wq hw 32 rfl) (by decide) (by decide)) (g := (mkF m 27 #[.val (.int p0), .val (.int p1), .val (.int p2), .val (.int p3), .val (.int p4), .val (.int p5), .val (.ref b1_0), .val (.ref b2_0), .val (.ref b3_0), .val (.int (p3 &&& (3 : Int32))), .unset, .unset, .unset, .unset, .unset, .unset, .unset, .unset] [(.ref b4), (.ref b4)])) rfl (by rw [hml]; rfl) (Steps.refl _) (a := b4) (argsL := []) (rest := [(.ref b4)]) (lenOf pd_17 rfl) rfl (by show 2 * 0 + _ ≤ _; exact Nat.le_of_eq rfl) (hb hby at_27) (fun _ _ => ⟨rfl, e4, (by decide : 10 + 4 ≤ _), (by decide : 30 + 112 ≤ _)⟩)
  dsimp only [Pt.U, Pt.locs, Pt.cells, Pt.slots] at X5 l5 y5 z5 st5 hQ5
  subst l5 y5 z5
  obtain ⟨b5_0, b5_1, b5_2, b5_3, kc5_0, kc5_1, kc5_2, kc5_3, rfl, Nq5, Kq5, sq_b5_0, sq_b5_1, sq_b5_2, sq_b5_3, nq5_0, nq5_1, nq5_2, nq5_3, nq5_4, nq5_5, fq5_0, fq5_1, fq5_2, fq5_3, fq5_4, fq5_5, fq5_6, fq5_7, fq5_8, fq5_9, fq5_10, fq5_11, fq5_12, fq5_13, fq5_14, fq5_15⟩ := hQ5
  have N5 := Fr.app N3 Nq5
  have g_b5_0 : n0 ≤ b5_0 := Nat.le_trans (own_sz O4) sq_b5_0
  have g_b5_1 : n0 ≤ b5_1 := Nat.le_trans (own_sz O4) sq_b5_1
  have g_b5_2 : n0 ≤ b5_2 := Nat.le_trans (own_sz O4) sq_b5_2
  have g_b5_3 : n0 ≤ b5_3 := Nat.le_trans (own_sz O4) sq_b5_3
  have O5 := O4.keep Kq5 (allS g_b4 all0)
  obtain ⟨κ, hκ0, hκ1, hκ2⟩ := own_kap (mkV p0) (mkV p1) (mkV p2) (Nat.ne_of_lt (Nat.lt_of_lt_of_le fq1_0.lt sq_b2_0)) (Nat.ne_of_lt (Nat.lt_of_lt_of_le (fq1_0.keep Kq2).lt sq_b3_0)) (Nat.ne_of_lt (Nat.lt_of_lt_of_le fq2_0.lt sq_b3_0))
  have f_6 := ((((fq1_1.keep Kq2 all0).keep Kq3 all0).ext E4).keep Kq5 (allS ⟨(((fq1_1.keep Kq2 all0).keep Kq3 all0).ext E4).exa.ne A4 (by decide), fun y hy => hy.ne A4 (by decide)⟩ all0))
  have Kw0 : StrK Z T5.heap b1_0 (κ b1_0) := by rw [hκ0]; exact f_6
  have f_7 := (((fq2_1.keep Kq3 all0).ext E4).keep Kq5 (allS ⟨((fq2_1.keep Kq3 all0).ext E4).exa.ne A4 (by decide), fun y hy => hy.ne A4 (by decide)⟩ all0))
  have Kw1 : StrK Z T5.heap b2_0 (κ b2_0) := by rw [hκ1]; exact f_7
  have f_8 := ((fq3_1.ext E4).keep Kq5 (allS ⟨(fq3_1.ext E4).exa.ne A4 (by decide), fun y hy => hy.ne A4 (by decide)⟩ all0))
  have Kw2 : StrK Z T5.heap b3_0 (κ b3_0) := by rw [hκ2]; exact f_8
  have Wd0 : Wd Z κ T5.heap n0 b4 (fun _ => none) [] := ⟨b5_0, b5_1, b5_2, b5_3, _, _, _, _, _, _, _, _, fq5_0, fq5_5, fq5_2, fq5_4, fq5_6, fq5_3, fq5_1, fq5_7, fq5_10, fq5_12, fq5_14, nq5_3, nq5_4, nq5_5, g_b4, g_b5_0, g_b5_1, g_b5_2, g_b5_3, Arf.of fq5_8 rfl, fq5_9, Arf.of fq5_11 rfl, Arf.of fq5_13 rfl, Arf.of fq5_15 rfl, TabOk.empty (fun _ _ => rfl), fun _ _ _ q => nomatch q⟩
  obtain ⟨T9, L9, X9, N9, O9, Et9, W9, AK9, st9⟩ := own_pre l Z a0 hw cs_v hp p0 p1 p2 p3 p4 p5 b1_0 b2_0 b3_0 (p3 &&& (3 : Int32)) b4 κ T5.heap n0 O5 fq5_0 g_b1_0 g_b2_0 g_b3_0 Kw0 Kw1 Kw2 Wd0 X5 hx hZ hby hml hown rfl N5
  have K0_9 := AK9 b1_0 Kw0
  have K1_9 := AK9 b2_0 Kw1
  have K2_9 := AK9 b3_0 Kw2
  obtain ⟨cq10, kq10, q10a, q10b, q10c⟩ := isOf hZ rfl Et9
  obtain ⟨_, _, ⟨T10, L10, k10, n10⟩, -, X10, ⟨Lc10, hQ10, l10, y10, z10⟩, st10⟩ := X9.virtualBack hx (y := y17) (z := y17) hown (mvT hZ (wq hw 48 rfl)) (mvT hZ (wq hw 49 rfl)) (notFace_of_selects (args := #[]) (mvT hZ (wq hw 51 rfl))) (mvT hZ (wq hw 51 rfl)) (mvT hZ (wq hw 50 rfl)) (by decide) (backOf (W := 0) (rmPUT l Z a0 hw [] cs_v hp κ b4 b1_0 p4 (fun _ => none) [] T9.heap n0 O9 g_b1_0 K0_9 W9 (Nat.le_trans (Nat.zero_le _ : ([] : List Int32).length ≤ 0) (by decide))) hZ (wq hw 52 rfl) (wq hw 32 rfl) (by decide) (by decide)) q10a q10c (g := (mkF m 98 #[.val (.int p0), .val (.int p1), .val (.int p2), .val (.int p3), .val (.int p4), .val (.int p5), .val (.ref b1_0), .val (.ref b2_0), .val (.ref b3_0), .val (.int (p3 &&& (3 : Int32))), .val (.ref b4), .val (.int (1 : Int32)), .unset, .unset, .unset, .unset, .unset, .unset] [(.int p4), (.ref b1_0), (.ref b4)])) rfl (by rw [hml]; rfl) (Steps.refl _) (argsL := [(.ref b1_0), (.int p4)]) (rest := []) (lenOf pd_18 rfl) rfl (by show 2 * 0 + _ ≤ _; exact Nat.le_of_eq rfl) (hb hby at_98) (fun _ _ => ⟨rfl, rfl, (by decide : 14 + 0 ≤ _), (by decide : 142 + 0 ≤ _)⟩)
  dsimp only [Pt.U, Pt.locs, Pt.cells, Pt.slots] at X10 l10 y10 z10 st10 hQ10
  subst l10 y10 z10
  obtain ⟨r10, Tb10, us10, wl10, rfl, Nq10, Kq10, gq10, P10, W10, hu10, AK10⟩ := hQ10
  have N10 := Fr.app N9 Nq10
  have O10 := O9.keep Kq10 gq10
  have K0_10 := AK10 b1_0 K0_9
  have K1_10 := AK10 b2_0 K1_9
  have K2_10 := AK10 b3_0 K2_9
  have hv10 : us10.length ≤ 1 := by have q := (Nat.zero_le _ : ([] : List Int32).length ≤ 0); omega
  obtain ⟨ha, hF1, hA1⟩ := put1 (fun _ => rfl) P10
  obtain ⟨cq11, kq11, q11a, q11b, q11c⟩ := isOf hZ rfl (Et9.keep Kq10)
  obtain ⟨_, _, ⟨T11, L11, k11, n11⟩, -, X11, ⟨Lc11, hQ11, l11, y11, z11⟩, st11⟩ := X10.virtualBack hx (y := y17) (z := y17) hown (mvT hZ (wq hw 48 rfl)) (mvT hZ (wq hw 49 rfl)) (notFace_of_selects (args := #[]) (mvT hZ (wq hw 51 rfl))) (mvT hZ (wq hw 51 rfl)) (mvT hZ (wq hw 50 rfl)) (by decide) (backOf (W := 0) (rmPUT l Z a0 hw [] cs_v hp κ b4 b2_0 (p4 + (1 : Int32)) Tb10 us10 T10.heap n0 O10 g_b2_0 K1_10 W10 (Nat.le_trans hv10 (by decide))) hZ (wq hw 52 rfl) (wq hw 32 rfl) (by decide) (by decide)) q11a q11c (g := (mkF m 129 #[.val (.int p0), .val (.int p1), .val (.int p2), .val (.int p3), .val (.int p4), .val (.int p5), .val (.ref b1_0), .val (.ref b2_0), .val (.ref b3_0), .val (.int (p3 &&& (3 : Int32))), .val (.ref b4), .val (.int (1 : Int32)), .val (.int r10), .unset, .unset, .unset, .unset, .unset] [(.int (p4 + (1 : Int32))), (.ref b2_0), (.ref b4)])) rfl (by rw [hml]; rfl) (Steps.refl _) (argsL := [(.ref b2_0), (.int (p4 + (1 : Int32)))]) (rest := []) (lenOf pd_18 rfl) rfl (by show 2 * 0 + _ ≤ _; exact Nat.le_of_eq rfl) (hb hby at_129) (fun _ _ => ⟨rfl, rfl, (by decide : 14 + 0 ≤ _), (by decide : 142 + 0 ≤ _)⟩)
  dsimp only [Pt.U, Pt.locs, Pt.cells, Pt.slots] at X11 l11 y11 z11 st11 hQ11
  subst l11 y11 z11
  obtain ⟨r11, Tb11, us11, wl11, rfl, Nq11, Kq11, gq11, P11, W11, hu11, AK11⟩ := hQ11
  have N11 := Fr.app N10 Nq11
  have O11 := O10.keep Kq11 gq11
  have K0_11 := AK11 b1_0 K0_10
  have M0_11 : StrK Z T11.heap b1_0 (mkV p0) := by rw [← hκ0]; exact K0_11
  have K1_11 := AK11 b2_0 K1_10
  have M1_11 : StrK Z T11.heap b2_0 (mkV p1) := by rw [← hκ1]; exact K1_11
  have K2_11 := AK11 b3_0 K2_10
  have hv11 : us11.length ≤ 2 := by have q := hv10; omega
  obtain ⟨hb1, hb2, hF2, hA2⟩ := put2 hF1 hA1 P11
  obtain ⟨cq12, kq12, q12a, q12b, q12c⟩ := isOf hZ rfl ((K1_9.exa.keep Kq10).keep Kq11)
  obtain ⟨_, _, ⟨T12, L12, k12, n12⟩, -, X12, ⟨Lc12, hQ12, l12, y12, z12⟩, st12⟩ := X11.virtualBack hx (y := y16) (z := y16) hown (mvT hZ (wq hw 79 rfl)) (mvT hZ (wq hw 80 rfl)) (notFace_of_selects (args := #[]) (mvT hZ (wq hw 82 rfl))) (mvT hZ (wq hw 82 rfl)) (mvT hZ (wq hw 81 rfl)) (by decide) (backOf (W := 0) (rmEQ l Z a0 hw [] cs_v hp b2_0 b1_0 (mkV p1) (mkV p0) T11.heap n0 O11 (Ne.symm (Nat.ne_of_lt (Nat.lt_of_lt_of_le fq1_0.lt sq_b2_0))) M1_11 M0_11) hZ (wq hw 83 rfl) (wq hw 6 rfl) (by decide) (by decide)) q12a q12c (g := (mkF m 138 #[.val (.int p0), .val (.int p1), .val (.int p2), .val (.int p3), .val (.int p4), .val (.int p5), .val (.ref b1_0), .val (.ref b2_0), .val (.ref b3_0), .val (.int (p3 &&& (3 : Int32))), .val (.ref b4), .val (.int (1 : Int32)), .val (.int r10), .val (.int r11), .unset, .unset, .unset, .unset] [(.ref b1_0), (.ref b2_0)])) rfl (by rw [hml]; rfl) (Steps.refl _) (argsL := [(.ref b1_0)]) (rest := []) (lenOf pd_14 rfl) rfl (by show 2 * 0 + _ ≤ _; exact Nat.le_of_eq rfl) (hb hby at_138) (fun _ _ => ⟨rfl, rfl, (by decide : 14 + 0 ≤ _), (by decide : 142 + 0 ≤ _)⟩)
  dsimp only [Pt.U, Pt.locs, Pt.cells, Pt.slots] at X12 l12 y12 z12 st12 hQ12
  subst l12 y12 z12
  obtain ⟨rfl, Nq12, eq12⟩ := hQ12
  have N12 := Fr.app N11 Nq12
  obtain ⟨cq13, kq13, q13a, q13b, q13c⟩ := isOf hZ eq12 ((Et9.keep Kq10).keep Kq11)
  obtain ⟨_, _, ⟨T13, L13, k13, n13⟩, -, X13, ⟨Lc13, hQ13, l13, y13, z13⟩, st13⟩ := X12.virtualBack hx (y := y17) (z := y17) hown (mvT hZ (wq hw 48 rfl)) (mvT hZ (wq hw 49 rfl)) (notFace_of_selects (args := #[]) (mvT hZ (wq hw 51 rfl))) (mvT hZ (wq hw 51 rfl)) (mvT hZ (wq hw 50 rfl)) (by decide) (backOf (W := 0) (rmPUT l Z a0 hw [] cs_v hp κ b4 b3_0 (p4 + (2 : Int32)) Tb11 us11 T11.heap n0 O11 g_b3_0 K2_11 W11 (Nat.le_trans hv11 (by decide))) hZ (wq hw 52 rfl) (wq hw 32 rfl) (by decide) (by decide)) q13a q13c (g := (mkF m 179 #[.val (.int p0), .val (.int p1), .val (.int p2), .val (.int p3), .val (.int p4), .val (.int p5), .val (.ref b1_0), .val (.ref b2_0), .val (.ref b3_0), .val (.int (p3 &&& (3 : Int32))), .val (.ref b4), .val (.int (1 : Int32)), .val (.int r10), .val (.int r11), .val (.int p4), .unset, .unset, .unset] [(.int (p4 + (2 : Int32))), (.ref b3_0), (.ref b4)])) rfl (by rw [hml]; rfl) (Steps.refl _) (argsL := [(.ref b3_0), (.int (p4 + (2 : Int32)))]) (rest := []) (lenOf pd_18 rfl) rfl (by show 2 * 0 + _ ≤ _; exact Nat.le_of_eq rfl) (hb hby at_179) (fun _ _ => ⟨rfl, eq12, (by decide : 14 + 0 ≤ _), (by decide : 142 + 0 ≤ _)⟩)
  dsimp only [Pt.U, Pt.locs, Pt.cells, Pt.slots] at X13 l13 y13 z13 st13 hQ13
  subst l13 y13 z13
  obtain ⟨r13, Tb13, us13, wl13, rfl, Nq13, Kq13, gq13, P13, W13, hu13, AK13⟩ := hQ13
  have N13 := Fr.app N12 Nq13
  have O13 := O11.keep Kq13 gq13
  have K0_13 := AK13 b1_0 K0_11
  have M0_13 : StrK Z T13.heap b1_0 (mkV p0) := by rw [← hκ0]; exact K0_13
  have K1_13 := AK13 b2_0 K1_11
  have M1_13 : StrK Z T13.heap b2_0 (mkV p1) := by rw [← hκ1]; exact K1_13
  have K2_13 := AK13 b3_0 K2_11
  have M2_13 : StrK Z T13.heap b3_0 (mkV p2) := by rw [← hκ2]; exact K2_13
  have hv13 : us13.length ≤ 3 := by have q := hv11; omega
  obtain ⟨he1, he2, he3, hF3⟩ := put3 hF2 (fun h => (hb2 h).2) hA2 P13
  obtain ⟨cq14, kq14, q14a, q14b, q14c⟩ := isOf hZ rfl (((K2_9.exa.keep Kq10).keep Kq11).keep Kq13)
  obtain ⟨_, _, ⟨T14, L14, k14, n14⟩, -, X14, ⟨Lc14, hQ14, l14, y14, z14⟩, st14⟩ := X13.virtualBack hx (y := y16) (z := y16) hown (mvT hZ (wq hw 79 rfl)) (mvT hZ (wq hw 80 rfl)) (notFace_of_selects (args := #[]) (mvT hZ (wq hw 82 rfl))) (mvT hZ (wq hw 82 rfl)) (mvT hZ (wq hw 81 rfl)) (by decide) (backOf (W := 0) (rmEQ l Z a0 hw [] cs_v hp b3_0 b1_0 (mkV p2) (mkV p0) T13.heap n0 O13 (Ne.symm (Nat.ne_of_lt (Nat.lt_of_lt_of_le (fq1_0.keep Kq2).lt sq_b3_0))) M2_13 M0_13) hZ (wq hw 83 rfl) (wq hw 6 rfl) (by decide) (by decide)) q14a q14c (g := (mkF m 188 #[.val (.int p0), .val (.int p1), .val (.int p2), .val (.int p3), .val (.int p4), .val (.int p5), .val (.ref b1_0), .val (.ref b2_0), .val (.ref b3_0), .val (.int (p3 &&& (3 : Int32))), .val (.ref b4), .val (.int (1 : Int32)), .val (.int r10), .val (.int r11), .val (.int p4), .val (.int r13), .unset, .unset] [(.ref b1_0), (.ref b3_0)])) rfl (by rw [hml]; rfl) (Steps.refl _) (argsL := [(.ref b1_0)]) (rest := []) (lenOf pd_14 rfl) rfl (by show 2 * 0 + _ ≤ _; exact Nat.le_of_eq rfl) (hb hby at_188) (fun _ _ => ⟨rfl, rfl, (by decide : 14 + 0 ≤ _), (by decide : 142 + 0 ≤ _)⟩)
  dsimp only [Pt.U, Pt.locs, Pt.cells, Pt.slots] at X14 l14 y14 z14 st14 hQ14
  subst l14 y14 z14
  obtain ⟨rfl, Nq14, eq14⟩ := hQ14
  have N14 := Fr.app N13 Nq14
  obtain ⟨cq15, kq15, q15a, q15b, q15c⟩ := isOf hZ eq14 (((K2_9.exa.keep Kq10).keep Kq11).keep Kq13)
  obtain ⟨_, _, ⟨T15, L15, k15, n15⟩, -, X15, ⟨Lc15, hQ15, l15, y15, z15⟩, st15⟩ := X14.virtualBack hx (y := y16) (z := y16) hown (mvT hZ (wq hw 79 rfl)) (mvT hZ (wq hw 80 rfl)) (notFace_of_selects (args := #[]) (mvT hZ (wq hw 82 rfl))) (mvT hZ (wq hw 82 rfl)) (mvT hZ (wq hw 81 rfl)) (by decide) (backOf (W := 0) (rmEQ l Z a0 hw [] cs_v hp b3_0 b2_0 (mkV p2) (mkV p1) T13.heap n0 O13 (Ne.symm (Nat.ne_of_lt (Nat.lt_of_lt_of_le fq2_0.lt sq_b3_0))) M2_13 M1_13) hZ (wq hw 83 rfl) (wq hw 6 rfl) (by decide) (by decide)) q15a q15c (g := (mkF m 205 #[.val (.int p0), .val (.int p1), .val (.int p2), .val (.int p3), .val (.int p4), .val (.int p5), .val (.ref b1_0), .val (.ref b2_0), .val (.ref b3_0), .val (.int (p3 &&& (3 : Int32))), .val (.ref b4), .val (.int (1 : Int32)), .val (.int r10), .val (.int r11), .val (.int p4), .val (.int r13), .unset, .unset] [(.ref b2_0), (.ref b3_0)])) rfl (by rw [hml]; rfl) (Steps.refl _) (argsL := [(.ref b2_0)]) (rest := []) (lenOf pd_14 rfl) rfl (by show 2 * 0 + _ ≤ _; exact Nat.le_of_eq rfl) (hb hby at_205) (fun _ _ => ⟨rfl, eq14, (by decide : 14 + 0 ≤ _), (by decide : 142 + 0 ≤ _)⟩)
  dsimp only [Pt.U, Pt.locs, Pt.cells, Pt.slots] at X15 l15 y15 z15 st15 hQ15
  subst l15 y15 z15
  obtain ⟨rfl, Nq15, eq15⟩ := hQ15
  have N15 := Fr.app N14 Nq15
  obtain ⟨cq16, kq16, q16a, q16b, q16c⟩ := isOf hZ eq15 (((Et9.keep Kq10).keep Kq11).keep Kq13)
  obtain ⟨_, _, ⟨T16, L16, k16, n16⟩, -, X16, ⟨Lc16, hQ16, l16, y16, z16⟩, st16⟩ := X15.virtualBack hx (y := y17) (z := y17) hown (mvT hZ (wq hw 48 rfl)) (mvT hZ (wq hw 49 rfl)) (notFace_of_selects (args := #[]) (mvT hZ (wq hw 51 rfl))) (mvT hZ (wq hw 51 rfl)) (mvT hZ (wq hw 50 rfl)) (by decide) (backOf (W := 0) (rmPUT l Z a0 hw [] cs_v hp κ b4 b1_0 (p4 + (3 : Int32)) Tb13 us13 T13.heap n0 O13 g_b1_0 K0_13 W13 (Nat.le_trans hv13 (by decide))) hZ (wq hw 52 rfl) (wq hw 32 rfl) (by decide) (by decide)) q16a q16c (g := (mkF m 250 #[.val (.int p0), .val (.int p1), .val (.int p2), .val (.int p3), .val (.int p4), .val (.int p5), .val (.ref b1_0), .val (.ref b2_0), .val (.ref b3_0), .val (.int (p3 &&& (3 : Int32))), .val (.ref b4), .val (.int (1 : Int32)), .val (.int r10), .val (.int r11), .val (.int p4), .val (.int r13), .val (.int (-1 : Int32)), .unset] [(.int (p4 + (3 : Int32))), (.ref b1_0), (.ref b4)])) rfl (by rw [hml]; rfl) (Steps.refl _) (argsL := [(.ref b1_0), (.int (p4 + (3 : Int32)))]) (rest := []) (lenOf pd_18 rfl) rfl (by show 2 * 0 + _ ≤ _; exact Nat.le_of_eq rfl) (hb hby at_250) (fun _ _ => ⟨rfl, eq15, (by decide : 14 + 0 ≤ _), (by decide : 142 + 0 ≤ _)⟩)
  dsimp only [Pt.U, Pt.locs, Pt.cells, Pt.slots] at X16 l16 y16 z16 st16 hQ16
  subst l16 y16 z16
  obtain ⟨r16, Tb16, us16, wl16, rfl, Nq16, Kq16, gq16, P16, W16, hu16, AK16⟩ := hQ16
  have N16 := Fr.app N15 Nq16
  have hd4 := put4 hF3 P16
  obtain ⟨fs, hr, hrun, hended, hW, hsame⟩ := X16.leave (v := some (.int (1 : Int32))) (fun h => by rw [Bd.returns] at h; cases h)
  refine ⟨_, _, castTop (ef_0_0 m p0 p1 p2 p3 p4 p5) ?_, hrun, hended, _, _, rfl, ?_, ⟨_, rfl⟩, hW, hsame.mono (by decide) (by decide)⟩
  · show Sp p e below s₁ (mkF m 0 #[.val (.int p0), .val (.int p1), .val (.int p2), .val (.int p3), .val (.int p4), .val (.int p5), .unset, .unset, .unset, .unset, .unset, .unset, .unset, .unset, .unset, .unset, .unset, .unset] []) _
    refine XS.iloadN X0.here hx rfl (hb hby at_0) rfl ?_
    show Sp p e below s₁ (mkF m 1 #[.val (.int p0), .val (.int p1), .val (.int p2), .val (.int p3), .val (.int p4), .val (.int p5), .unset, .unset, .unset, .unset, .unset, .unset, .unset, .unset, .unset, .unset, .unset, .unset] [(.int p0)]) _
    refine st1 _ ?_
    show Sp p e below T1 (mkF m 4 #[.val (.int p0), .val (.int p1), .val (.int p2), .val (.int p3), .val (.int p4), .val (.int p5), .unset, .unset, .unset, .unset, .unset, .unset, .unset, .unset, .unset, .unset, .unset, .unset] [(.ref b1_0)]) _
    refine XS.astore X1.here hx rfl (hb hby at_4) rfl rfl (l' := #[.val (.int p0), .val (.int p1), .val (.int p2), .val (.int p3), .val (.int p4), .val (.int p5), .val (.ref b1_0), .unset, .unset, .unset, .unset, .unset, .unset, .unset, .unset, .unset, .unset, .unset]) rfl ?_
    refine XS.iloadN X1.here hx rfl (hb hby at_6) rfl ?_
    show Sp p e below T1 (mkF m 7 #[.val (.int p0), .val (.int p1), .val (.int p2), .val (.int p3), .val (.int p4), .val (.int p5), .val (.ref b1_0), .unset, .unset, .unset, .unset, .unset, .unset, .unset, .unset, .unset, .unset, .unset] [(.int p1)]) _
    refine st2 _ ?_
    show Sp p e below T2 (mkF m 10 #[.val (.int p0), .val (.int p1), .val (.int p2), .val (.int p3), .val (.int p4), .val (.int p5), .val (.ref b1_0), .unset, .unset, .unset, .unset, .unset, .unset, .unset, .unset, .unset, .unset, .unset] [(.ref b2_0)]) _
    refine XS.astore X2.here hx rfl (hb hby at_10) rfl rfl (l' := #[.val (.int p0), .val (.int p1), .val (.int p2), .val (.int p3), .val (.int p4), .val (.int p5), .val (.ref b1_0), .val (.ref b2_0), .unset, .unset, .unset, .unset, .unset, .unset, .unset, .unset, .unset, .unset]) rfl ?_
    refine XS.iloadN X2.here hx rfl (hb hby at_12) rfl ?_
    show Sp p e below T2 (mkF m 13 #[.val (.int p0), .val (.int p1), .val (.int p2), .val (.int p3), .val (.int p4), .val (.int p5), .val (.ref b1_0), .val (.ref b2_0), .unset, .unset, .unset, .unset, .unset, .unset, .unset, .unset, .unset, .unset] [(.int p2)]) _
    refine st3 _ ?_
    show Sp p e below T3 (mkF m 16 #[.val (.int p0), .val (.int p1), .val (.int p2), .val (.int p3), .val (.int p4), .val (.int p5), .val (.ref b1_0), .val (.ref b2_0), .unset, .unset, .unset, .unset, .unset, .unset, .unset, .unset, .unset, .unset] [(.ref b3_0)]) _
    refine XS.astore X3.here hx rfl (hb hby at_16) rfl rfl (l' := #[.val (.int p0), .val (.int p1), .val (.int p2), .val (.int p3), .val (.int p4), .val (.int p5), .val (.ref b1_0), .val (.ref b2_0), .val (.ref b3_0), .unset, .unset, .unset, .unset, .unset, .unset, .unset, .unset, .unset]) rfl ?_
    refine XS.iloadN X3.here hx rfl (hb hby at_18) rfl ?_
    refine XS.iconst X3.here hx rfl (hb hby at_19) ?_
    refine XS.iand X3.here hx rfl (hb hby at_20) rfl ?_
    refine XS.istore X3.here hx rfl (hb hby at_21) rfl (l' := #[.val (.int p0), .val (.int p1), .val (.int p2), .val (.int p3), .val (.int p4), .val (.int p5), .val (.ref b1_0), .val (.ref b2_0), .val (.ref b3_0), .val (.int (p3 &&& (3 : Int32))), .unset, .unset, .unset, .unset, .unset, .unset, .unset, .unset]) rfl ?_
    show Sp p e below T3 (mkF m 23 #[.val (.int p0), .val (.int p1), .val (.int p2), .val (.int p3), .val (.int p4), .val (.int p5), .val (.ref b1_0), .val (.ref b2_0), .val (.ref b3_0), .val (.int (p3 &&& (3 : Int32))), .unset, .unset, .unset, .unset, .unset, .unset, .unset, .unset] []) _
    refine st4 _ ?_
    show Sp p e below T4 (mkF m 26 #[.val (.int p0), .val (.int p1), .val (.int p2), .val (.int p3), .val (.int p4), .val (.int p5), .val (.ref b1_0), .val (.ref b2_0), .val (.ref b3_0), .val (.int (p3 &&& (3 : Int32))), .unset, .unset, .unset, .unset, .unset, .unset, .unset, .unset] [(.ref b4)]) _
    refine XS.dup X4.here hx rfl (hb hby at_26) rfl rfl ?_
    show Sp p e below T4 (mkF m 27 #[.val (.int p0), .val (.int p1), .val (.int p2), .val (.int p3), .val (.int p4), .val (.int p5), .val (.ref b1_0), .val (.ref b2_0), .val (.ref b3_0), .val (.int (p3 &&& (3 : Int32))), .unset, .unset, .unset, .unset, .unset, .unset, .unset, .unset] [(.ref b4), (.ref b4)]) _
    refine st5.trans ?_
    show Sp p e below T5 (mkF m 30 #[.val (.int p0), .val (.int p1), .val (.int p2), .val (.int p3), .val (.int p4), .val (.int p5), .val (.ref b1_0), .val (.ref b2_0), .val (.ref b3_0), .val (.int (p3 &&& (3 : Int32))), .unset, .unset, .unset, .unset, .unset, .unset, .unset, .unset] [(.ref b4)]) _
    refine XS.astore X5.here hx rfl (hb hby at_30) rfl rfl (l' := #[.val (.int p0), .val (.int p1), .val (.int p2), .val (.int p3), .val (.int p4), .val (.int p5), .val (.ref b1_0), .val (.ref b2_0), .val (.ref b3_0), .val (.int (p3 &&& (3 : Int32))), .val (.ref b4), .unset, .unset, .unset, .unset, .unset, .unset, .unset]) rfl ?_
    refine st9 _ ?_
    show Sp p e below T9 (mkF m 92 #[.val (.int p0), .val (.int p1), .val (.int p2), .val (.int p3), .val (.int p4), .val (.int p5), .val (.ref b1_0), .val (.ref b2_0), .val (.ref b3_0), .val (.int (p3 &&& (3 : Int32))), .val (.ref b4), .val (.int (1 : Int32)), .unset, .unset, .unset, .unset, .unset, .unset] []) _
    refine XS.aload X9.here hx rfl (hb hby at_92) rfl rfl ?_
    refine XS.aload X9.here hx rfl (hb hby at_94) rfl rfl ?_
    refine XS.iload X9.here hx rfl (hb hby at_96) rfl ?_
    show Sp p e below T9 (mkF m 98 #[.val (.int p0), .val (.int p1), .val (.int p2), .val (.int p3), .val (.int p4), .val (.int p5), .val (.ref b1_0), .val (.ref b2_0), .val (.ref b3_0), .val (.int (p3 &&& (3 : Int32))), .val (.ref b4), .val (.int (1 : Int32)), .unset, .unset, .unset, .unset, .unset, .unset] [(.int p4), (.ref b1_0), (.ref b4)]) _
    refine st10.trans ?_
    show Sp p e below T10 (mkF m 101 #[.val (.int p0), .val (.int p1), .val (.int p2), .val (.int p3), .val (.int p4), .val (.int p5), .val (.ref b1_0), .val (.ref b2_0), .val (.ref b3_0), .val (.int (p3 &&& (3 : Int32))), .val (.ref b4), .val (.int (1 : Int32)), .unset, .unset, .unset, .unset, .unset, .unset] [(.int r10)]) _
    refine XS.istore X10.here hx rfl (hb hby at_101) rfl (l' := #[.val (.int p0), .val (.int p1), .val (.int p2), .val (.int p3), .val (.int p4), .val (.int p5), .val (.ref b1_0), .val (.ref b2_0), .val (.ref b3_0), .val (.int (p3 &&& (3 : Int32))), .val (.ref b4), .val (.int (1 : Int32)), .val (.int r10), .unset, .unset, .unset, .unset, .unset]) rfl ?_
    refine XS.iload X10.here hx rfl (hb hby at_103) rfl ?_
    refine XS.ifNo X10.here hx rfl (hb hby at_105) rfl ((if0 _ _).trans (feq (by decide : ¬ ((1 : Int32) = (0 : Int32)))).1) ?_
    refine XS.iload X10.here hx rfl (hb hby at_108) rfl ?_
    refine XS.iconst X10.here hx rfl (hb hby at_110) ?_
    refine XS.icmpNo X10.here hx rfl (hb hby at_111) rfl (teq ha).2 ?_
    refine XS.iconst X10.here hx rfl (hb hby at_114) ?_
    show Sp p e below T10 (mkF m 115 #[.val (.int p0), .val (.int p1), .val (.int p2), .val (.int p3), .val (.int p4), .val (.int p5), .val (.ref b1_0), .val (.ref b2_0), .val (.ref b3_0), .val (.int (p3 &&& (3 : Int32))), .val (.ref b4), .val (.int (1 : Int32)), .val (.int r10), .unset, .unset, .unset, .unset, .unset] [(.int (1 : Int32))]) _
    refine XS.goto X10.here hx rfl (pc0 := 115) (pc' := 119) rfl (hb hby at_115) (by decide) (by decide) ?_
    refine XS.istore X10.here hx rfl (hb hby at_119) rfl (l' := #[.val (.int p0), .val (.int p1), .val (.int p2), .val (.int p3), .val (.int p4), .val (.int p5), .val (.ref b1_0), .val (.ref b2_0), .val (.ref b3_0), .val (.int (p3 &&& (3 : Int32))), .val (.ref b4), .val (.int (1 : Int32)), .val (.int r10), .unset, .unset, .unset, .unset, .unset]) rfl ?_
    refine XS.aload X10.here hx rfl (hb hby at_121) rfl rfl ?_
    refine XS.aload X10.here hx rfl (hb hby at_123) rfl rfl ?_
    refine XS.iload X10.here hx rfl (hb hby at_125) rfl ?_
    refine XS.iconst X10.here hx rfl (hb hby at_127) ?_
    refine XS.iadd X10.here hx rfl (hb hby at_128) rfl ?_
    show Sp p e below T10 (mkF m 129 #[.val (.int p0), .val (.int p1), .val (.int p2), .val (.int p3), .val (.int p4), .val (.int p5), .val (.ref b1_0), .val (.ref b2_0), .val (.ref b3_0), .val (.int (p3 &&& (3 : Int32))), .val (.ref b4), .val (.int (1 : Int32)), .val (.int r10), .unset, .unset, .unset, .unset, .unset] [(.int (p4 + (1 : Int32))), (.ref b2_0), (.ref b4)]) _
    refine st11.trans ?_
    show Sp p e below T11 (mkF m 132 #[.val (.int p0), .val (.int p1), .val (.int p2), .val (.int p3), .val (.int p4), .val (.int p5), .val (.ref b1_0), .val (.ref b2_0), .val (.ref b3_0), .val (.int (p3 &&& (3 : Int32))), .val (.ref b4), .val (.int (1 : Int32)), .val (.int r10), .unset, .unset, .unset, .unset, .unset] [(.int r11)]) _
    refine XS.istore X11.here hx rfl (hb hby at_132) rfl (l' := #[.val (.int p0), .val (.int p1), .val (.int p2), .val (.int p3), .val (.int p4), .val (.int p5), .val (.ref b1_0), .val (.ref b2_0), .val (.ref b3_0), .val (.int (p3 &&& (3 : Int32))), .val (.ref b4), .val (.int (1 : Int32)), .val (.int r10), .val (.int r11), .unset, .unset, .unset, .unset]) rfl ?_
    refine XS.aload X11.here hx rfl (hb hby at_134) rfl rfl ?_
    refine XS.aload X11.here hx rfl (hb hby at_136) rfl rfl ?_
    show Sp p e below T11 (mkF m 138 #[.val (.int p0), .val (.int p1), .val (.int p2), .val (.int p3), .val (.int p4), .val (.int p5), .val (.ref b1_0), .val (.ref b2_0), .val (.ref b3_0), .val (.int (p3 &&& (3 : Int32))), .val (.ref b4), .val (.int (1 : Int32)), .val (.int r10), .val (.int r11), .unset, .unset, .unset, .unset] [(.ref b1_0), (.ref b2_0)]) _
    refine st12.trans ?_
    show Sp p e below T12 (mkF m 141 #[.val (.int p0), .val (.int p1), .val (.int p2), .val (.int p3), .val (.int p4), .val (.int p5), .val (.ref b1_0), .val (.ref b2_0), .val (.ref b3_0), .val (.int (p3 &&& (3 : Int32))), .val (.ref b4), .val (.int (1 : Int32)), .val (.int r10), .val (.int r11), .unset, .unset, .unset, .unset] [(.int (eqK (mkV p1) (mkV p0)))]) _
    refine XS.ifNo X12.here hx rfl (hb hby at_141) rfl ((if0 _ _).trans (feq hc1).1) ?_
    refine XS.iload X12.here hx rfl (hb hby at_144) rfl ?_
    refine XS.goto X12.here hx rfl (pc0 := 146) (pc' := 150) rfl (hb hby at_146) (by decide) (by decide) ?_
    refine XS.istore X12.here hx rfl (hb hby at_150) rfl (l' := #[.val (.int p0), .val (.int p1), .val (.int p2), .val (.int p3), .val (.int p4), .val (.int p5), .val (.ref b1_0), .val (.ref b2_0), .val (.ref b3_0), .val (.int (p3 &&& (3 : Int32))), .val (.ref b4), .val (.int (1 : Int32)), .val (.int r10), .val (.int r11), .val (.int p4), .unset, .unset, .unset]) rfl ?_
    refine XS.iload X12.here hx rfl (hb hby at_152) rfl ?_
    refine XS.ifNo X12.here hx rfl (hb hby at_154) rfl ((if0 _ _).trans (feq (by decide : ¬ ((1 : Int32) = (0 : Int32)))).1) ?_
    refine XS.iload X12.here hx rfl (hb hby at_157) rfl ?_
    show Sp p e below T12 (mkF m 159 #[.val (.int p0), .val (.int p1), .val (.int p2), .val (.int p3), .val (.int p4), .val (.int p5), .val (.ref b1_0), .val (.ref b2_0), .val (.ref b3_0), .val (.int (p3 &&& (3 : Int32))), .val (.ref b4), .val (.int (1 : Int32)), .val (.int r10), .val (.int r11), .val (.int p4), .unset, .unset, .unset] [(.int r11)]) _
    refine XS.iload X12.here hx rfl (hb hby at_159) rfl ?_
    refine XS.icmpNo X12.here hx rfl (hb hby at_161) rfl (teq (hb1 (by rw [hκ1, hκ0]; exact own_ek1 hc1))).2 ?_
    refine XS.iconst X12.here hx rfl (hb hby at_164) ?_
    refine XS.goto X12.here hx rfl (pc0 := 165) (pc' := 169) rfl (hb hby at_165) (by decide) (by decide) ?_
    refine XS.istore X12.here hx rfl (hb hby at_169) rfl (l' := #[.val (.int p0), .val (.int p1), .val (.int p2), .val (.int p3), .val (.int p4), .val (.int p5), .val (.ref b1_0), .val (.ref b2_0), .val (.ref b3_0), .val (.int (p3 &&& (3 : Int32))), .val (.ref b4), .val (.int (1 : Int32)), .val (.int r10), .val (.int r11), .val (.int p4), .unset, .unset, .unset]) rfl ?_
    refine XS.aload X12.here hx rfl (hb hby at_171) rfl rfl ?_
    refine XS.aload X12.here hx rfl (hb hby at_173) rfl rfl ?_
    show Sp p e below T12 (mkF m 175 #[.val (.int p0), .val (.int p1), .val (.int p2), .val (.int p3), .val (.int p4), .val (.int p5), .val (.ref b1_0), .val (.ref b2_0), .val (.ref b3_0), .val (.int (p3 &&& (3 : Int32))), .val (.ref b4), .val (.int (1 : Int32)), .val (.int r10), .val (.int r11), .val (.int p4), .unset, .unset, .unset] [(.ref b3_0), (.ref b4)]) _
    refine XS.iload X12.here hx rfl (hb hby at_175) rfl ?_
    refine XS.iconst X12.here hx rfl (hb hby at_177) ?_
    refine XS.iadd X12.here hx rfl (hb hby at_178) rfl ?_
    show Sp p e below T12 (mkF m 179 #[.val (.int p0), .val (.int p1), .val (.int p2), .val (.int p3), .val (.int p4), .val (.int p5), .val (.ref b1_0), .val (.ref b2_0), .val (.ref b3_0), .val (.int (p3 &&& (3 : Int32))), .val (.ref b4), .val (.int (1 : Int32)), .val (.int r10), .val (.int r11), .val (.int p4), .unset, .unset, .unset] [(.int (p4 + (2 : Int32))), (.ref b3_0), (.ref b4)]) _
    refine st13.trans ?_
    show Sp p e below T13 (mkF m 182 #[.val (.int p0), .val (.int p1), .val (.int p2), .val (.int p3), .val (.int p4), .val (.int p5), .val (.ref b1_0), .val (.ref b2_0), .val (.ref b3_0), .val (.int (p3 &&& (3 : Int32))), .val (.ref b4), .val (.int (1 : Int32)), .val (.int r10), .val (.int r11), .val (.int p4), .unset, .unset, .unset] [(.int r13)]) _
    refine XS.istore X13.here hx rfl (hb hby at_182) rfl (l' := #[.val (.int p0), .val (.int p1), .val (.int p2), .val (.int p3), .val (.int p4), .val (.int p5), .val (.ref b1_0), .val (.ref b2_0), .val (.ref b3_0), .val (.int (p3 &&& (3 : Int32))), .val (.ref b4), .val (.int (1 : Int32)), .val (.int r10), .val (.int r11), .val (.int p4), .val (.int r13), .unset, .unset]) rfl ?_
    refine XS.aload X13.here hx rfl (hb hby at_184) rfl rfl ?_
    refine XS.aload X13.here hx rfl (hb hby at_186) rfl rfl ?_
    show Sp p e below T13 (mkF m 188 #[.val (.int p0), .val (.int p1), .val (.int p2), .val (.int p3), .val (.int p4), .val (.int p5), .val (.ref b1_0), .val (.ref b2_0), .val (.ref b3_0), .val (.int (p3 &&& (3 : Int32))), .val (.ref b4), .val (.int (1 : Int32)), .val (.int r10), .val (.int r11), .val (.int p4), .val (.int r13), .unset, .unset] [(.ref b1_0), (.ref b3_0)]) _
    refine st14.trans ?_
    show Sp p e below T14 (mkF m 191 #[.val (.int p0), .val (.int p1), .val (.int p2), .val (.int p3), .val (.int p4), .val (.int p5), .val (.ref b1_0), .val (.ref b2_0), .val (.ref b3_0), .val (.int (p3 &&& (3 : Int32))), .val (.ref b4), .val (.int (1 : Int32)), .val (.int r10), .val (.int r11), .val (.int p4), .val (.int r13), .unset, .unset] [(.int (eqK (mkV p2) (mkV p0)))]) _
    refine XS.ifYes X14.here hx rfl (pc0 := 191) (pc' := 201) rfl (hb hby at_191) rfl ((if0 _ _).trans (teq hc2).1) (by decide) (by decide) ?_
    refine XS.aload X14.here hx rfl (hb hby at_201) rfl rfl ?_
    refine XS.aload X14.here hx rfl (hb hby at_203) rfl rfl ?_
    show Sp p e below T14 (mkF m 205 #[.val (.int p0), .val (.int p1), .val (.int p2), .val (.int p3), .val (.int p4), .val (.int p5), .val (.ref b1_0), .val (.ref b2_0), .val (.ref b3_0), .val (.int (p3 &&& (3 : Int32))), .val (.ref b4), .val (.int (1 : Int32)), .val (.int r10), .val (.int r11), .val (.int p4), .val (.int r13), .unset, .unset] [(.ref b2_0), (.ref b3_0)]) _
    refine st15.trans ?_
    show Sp p e below T15 (mkF m 208 #[.val (.int p0), .val (.int p1), .val (.int p2), .val (.int p3), .val (.int p4), .val (.int p5), .val (.ref b1_0), .val (.ref b2_0), .val (.ref b3_0), .val (.int (p3 &&& (3 : Int32))), .val (.ref b4), .val (.int (1 : Int32)), .val (.int r10), .val (.int r11), .val (.int p4), .val (.int r13), .unset, .unset] [(.int (eqK (mkV p2) (mkV p1)))]) _
    refine XS.ifYes X15.here hx rfl (pc0 := 208) (pc' := 220) rfl (hb hby at_208) rfl ((if0 _ _).trans (teq (own_ekt hc2 hc1 : (eqK (mkV p2) (mkV p1)) = (0 : Int32))).1) (by decide) (by decide) ?_
    refine XS.iconst X15.here hx rfl (hb hby at_220) ?_
    refine XS.istore X15.here hx rfl (hb hby at_221) rfl (l' := #[.val (.int p0), .val (.int p1), .val (.int p2), .val (.int p3), .val (.int p4), .val (.int p5), .val (.ref b1_0), .val (.ref b2_0), .val (.ref b3_0), .val (.int (p3 &&& (3 : Int32))), .val (.ref b4), .val (.int (1 : Int32)), .val (.int r10), .val (.int r11), .val (.int p4), .val (.int r13), .val (.int (-1 : Int32)), .unset]) rfl ?_
    refine XS.iload X15.here hx rfl (hb hby at_223) rfl ?_
    refine XS.ifNo X15.here hx rfl (hb hby at_225) rfl ((if0 _ _).trans (feq (by decide : ¬ ((1 : Int32) = (0 : Int32)))).1) ?_
    refine XS.iload X15.here hx rfl (hb hby at_228) rfl ?_
    refine XS.iload X15.here hx rfl (hb hby at_230) rfl ?_
    show Sp p e below T15 (mkF m 232 #[.val (.int p0), .val (.int p1), .val (.int p2), .val (.int p3), .val (.int p4), .val (.int p5), .val (.ref b1_0), .val (.ref b2_0), .val (.ref b3_0), .val (.int (p3 &&& (3 : Int32))), .val (.ref b4), .val (.int (1 : Int32)), .val (.int r10), .val (.int r11), .val (.int p4), .val (.int r13), .val (.int (-1 : Int32)), .unset] [(.int (-1 : Int32)), (.int r13)]) _
    refine XS.icmpNo X15.here hx rfl (hb hby at_232) rfl (teq (he3 (by rw [hκ2, hκ0]; exact own_ek0 hc2) (by rw [hκ2, hκ1]; exact own_ek0 (own_ekt hc2 hc1 : (eqK (mkV p2) (mkV p1)) = (0 : Int32))))).2 ?_
    refine XS.iconst X15.here hx rfl (hb hby at_235) ?_
    refine XS.goto X15.here hx rfl (pc0 := 236) (pc' := 240) rfl (hb hby at_236) (by decide) (by decide) ?_
    refine XS.istore X15.here hx rfl (hb hby at_240) rfl (l' := #[.val (.int p0), .val (.int p1), .val (.int p2), .val (.int p3), .val (.int p4), .val (.int p5), .val (.ref b1_0), .val (.ref b2_0), .val (.ref b3_0), .val (.int (p3 &&& (3 : Int32))), .val (.ref b4), .val (.int (1 : Int32)), .val (.int r10), .val (.int r11), .val (.int p4), .val (.int r13), .val (.int (-1 : Int32)), .unset]) rfl ?_
    refine XS.aload X15.here hx rfl (hb hby at_242) rfl rfl ?_
    refine XS.aload X15.here hx rfl (hb hby at_244) rfl rfl ?_
    refine XS.iload X15.here hx rfl (hb hby at_246) rfl ?_
    show Sp p e below T15 (mkF m 248 #[.val (.int p0), .val (.int p1), .val (.int p2), .val (.int p3), .val (.int p4), .val (.int p5), .val (.ref b1_0), .val (.ref b2_0), .val (.ref b3_0), .val (.int (p3 &&& (3 : Int32))), .val (.ref b4), .val (.int (1 : Int32)), .val (.int r10), .val (.int r11), .val (.int p4), .val (.int r13), .val (.int (-1 : Int32)), .unset] [(.int p4), (.ref b1_0), (.ref b4)]) _
    refine XS.iconst X15.here hx rfl (hb hby at_248) ?_
    refine XS.iadd X15.here hx rfl (hb hby at_249) rfl ?_
    show Sp p e below T15 (mkF m 250 #[.val (.int p0), .val (.int p1), .val (.int p2), .val (.int p3), .val (.int p4), .val (.int p5), .val (.ref b1_0), .val (.ref b2_0), .val (.ref b3_0), .val (.int (p3 &&& (3 : Int32))), .val (.ref b4), .val (.int (1 : Int32)), .val (.int r10), .val (.int r11), .val (.int p4), .val (.int r13), .val (.int (-1 : Int32)), .unset] [(.int (p4 + (3 : Int32))), (.ref b1_0), (.ref b4)]) _
    refine st16.trans ?_
    show Sp p e below T16 (mkF m 253 #[.val (.int p0), .val (.int p1), .val (.int p2), .val (.int p3), .val (.int p4), .val (.int p5), .val (.ref b1_0), .val (.ref b2_0), .val (.ref b3_0), .val (.int (p3 &&& (3 : Int32))), .val (.ref b4), .val (.int (1 : Int32)), .val (.int r10), .val (.int r11), .val (.int p4), .val (.int r13), .val (.int (-1 : Int32)), .unset] [(.int r16)]) _
    refine XS.istore X16.here hx rfl (hb hby at_253) rfl (l' := #[.val (.int p0), .val (.int p1), .val (.int p2), .val (.int p3), .val (.int p4), .val (.int p5), .val (.ref b1_0), .val (.ref b2_0), .val (.ref b3_0), .val (.int (p3 &&& (3 : Int32))), .val (.ref b4), .val (.int (1 : Int32)), .val (.int r10), .val (.int r11), .val (.int p4), .val (.int r13), .val (.int (-1 : Int32)), .val (.int r16)]) rfl ?_
    refine XS.iload X16.here hx rfl (hb hby at_255) rfl ?_
    refine XS.ifNo X16.here hx rfl (hb hby at_257) rfl ((if0 _ _).trans (feq (by decide : ¬ ((1 : Int32) = (0 : Int32)))).1) ?_
    refine XS.iload X16.here hx rfl (hb hby at_260) rfl ?_
    refine XS.iload X16.here hx rfl (hb hby at_262) rfl ?_
    refine XS.icmpNo X16.here hx rfl (hb hby at_264) rfl (teq hd4).2 ?_
    refine XS.iconst X16.here hx rfl (hb hby at_267) ?_
    show Sp p e below T16 (mkF m 268 #[.val (.int p0), .val (.int p1), .val (.int p2), .val (.int p3), .val (.int p4), .val (.int p5), .val (.ref b1_0), .val (.ref b2_0), .val (.ref b3_0), .val (.int (p3 &&& (3 : Int32))), .val (.ref b4), .val (.int (1 : Int32)), .val (.int r10), .val (.int r11), .val (.int p4), .val (.int r13), .val (.int (-1 : Int32)), .val (.int r16)] [(.int (1 : Int32))]) _
    refine XS.goto X16.here hx rfl (pc0 := 268) (pc' := 272) rfl (hb hby at_268) (by decide) (by decide) ?_
    refine XS.istore X16.here hx rfl (hb hby at_272) rfl (l' := #[.val (.int p0), .val (.int p1), .val (.int p2), .val (.int p3), .val (.int p4), .val (.int p5), .val (.ref b1_0), .val (.ref b2_0), .val (.ref b3_0), .val (.int (p3 &&& (3 : Int32))), .val (.ref b4), .val (.int (1 : Int32)), .val (.int r10), .val (.int r11), .val (.int p4), .val (.int r13), .val (.int (-1 : Int32)), .val (.int r16)]) rfl ?_
    refine XS.iload X16.here hx rfl (hb hby at_274) rfl ?_
    show Sp p e below T16 (mkF m 276 #[.val (.int p0), .val (.int p1), .val (.int p2), .val (.int p3), .val (.int p4), .val (.int p5), .val (.ref b1_0), .val (.ref b2_0), .val (.ref b3_0), .val (.int (p3 &&& (3 : Int32))), .val (.ref b4), .val (.int (1 : Int32)), .val (.int r10), .val (.int r11), .val (.int p4), .val (.int r13), .val (.int (-1 : Int32)), .val (.int r16)] [(.int (1 : Int32))]) _
    exact retN X16 hx (t := .boolean) Bd.returns (by simp) (hb hby at_276) hr
  · skip
    exact ⟨rfl, N16⟩
theorem rm46 (l : Launch) (Z : State) (a0 : Array Value) (hw : ∀ d ∈ tables_1, d.before a0 Z = true) (ws : List Jvm.Cond) (cs_v : Int32) (hp : Perm Z cs_v) (p0 : Int32) (p1 : Int32) (p2 : Int32) (p3 : Int32) (p4 : Int32) (p5 : Int32) (h0 : Heap) (n0 : Nat) (O0 : Old Z n0 h0) (hc1 : ¬ ((eqK (mkV p1) (mkV p0)) = (0 : Int32))) (hc2 : ¬ ((eqK (mkV p2) (mkV p0)) = (0 : Int32))) :
    MetFree l x (head1 (Jvm.Cond.code x code maxLocals ret :: ws) room_1) (fun a U => a = #[(.int p0), (.int p1), (.int p2), (.int p3), (.int p4), (.int p5)] ∧ Z.Warmed39 U.vm ∧ U.heap = h0) (fun _ _ _ _ _ => True) (fun _ U o U' => ∃ v L, o = .returned v ∧ (v = some (.int (1 : Int32)) ∧ Fr n0 L) ∧ FrameEnd U o U' L 40 384) := by
  refine MetFree.of_bodySF (plainFor_of_name pn_1) hisR ?_
  intro p e s m args below meth c s₁ Bd hml0 hP hK
  obtain ⟨rfl, hZ, hh⟩ := hP
  have hx := Bd.exec
  have hby := Bd.bytes
  have hml : c.maxLocals = 18 := hml0
  have hown : s.vm.findClass "com/example/byteloom/byteloom/StringNumbersClearPinLaw" = some m.cls := findClass_of_methodNamed Bd.named
  have hnm := (name_of_methodNamed Bd.named Bd.method).1
  have X0 : Stand p l e room_1 s m #[(.int p0), (.int p1), (.int p2), (.int p3), (.int p4), (.int p5)] below meth c s₁ [] 0 0 := Stand.of_body Bd
  have e0 : s₁.heap = h0 := by rw [← hh, Bd.state]; rfl
  have N0 := Fr.nil n0
  obtain ⟨_, _, ⟨T1, L1, k1, n1⟩, -, X1, ⟨Lc1, hQ1, l1, y1, z1⟩, st1⟩ := Jvm.LawKit.callS X0 hx (y := y4) hown (mvT hZ (wq hw 0 rfl)) (mvT hZ (wq hw 1 rfl)) (mvT hZ (wq hw 2 rfl)) (mvT hZ (wq hw 3 rfl)) (by decide) (backOf (W := 0) (rmMK l Z a0 hw [] cs_v hp p0 h0 n0 O0) hZ (wq hw 3 rfl) (wq hw 2 rfl) (by decide) (by decide)) (g := (mkF m 1 #[.val (.int p0), .val (.int p1), .val (.int p2), .val (.int p3), .val (.int p4), .val (.int p5), .unset, .unset, .unset, .unset, .unset, .unset, .unset, .unset, .unset, .unset, .unset, .unset] [(.int p0)])) rfl (by rw [hml]; rfl) (argsL := [(.int p0)]) (rest := []) (lenOf pd_16 rfl) rfl (by show 2 * 0 + _ ≤ _; exact Nat.le_of_eq rfl) (hb hby at_1) (fun _ _ => ⟨rfl, e0, (by decide : 0 + 3 ≤ _), (by decide : 0 + 8 ≤ _)⟩)
  dsimp only [Pt.U, Pt.locs, Pt.cells, Pt.slots] at X1 l1 y1 z1 st1 hQ1
  subst l1 y1 z1
  obtain ⟨b1_0, rfl, Nq1, Kq1, sq_b1_0, fq1_0, fq1_1⟩ := hQ1
  have N1 := Fr.app N0 Nq1
  have g_b1_0 : n0 ≤ b1_0 := Nat.le_trans (own_sz O0) sq_b1_0
  have O1 := O0.keep Kq1 all0
  obtain ⟨_, _, ⟨T2, L2, k2, n2⟩, -, X2, ⟨Lc2, hQ2, l2, y2, z2⟩, st2⟩ := Jvm.LawKit.callS X1 hx (y := y4) hown (mvT hZ (wq hw 0 rfl)) (mvT hZ (wq hw 1 rfl)) (mvT hZ (wq hw 2 rfl)) (mvT hZ (wq hw 3 rfl)) (by decide) (backOf (W := 0) (rmMK l Z a0 hw [] cs_v hp p1 T1.heap n0 O1) hZ (wq hw 3 rfl) (wq hw 2 rfl) (by decide) (by decide)) (g := (mkF m 7 #[.val (.int p0), .val (.int p1), .val (.int p2), .val (.int p3), .val (.int p4), .val (.int p5), .val (.ref b1_0), .unset, .unset, .unset, .unset, .unset, .unset, .unset, .unset, .unset, .unset, .unset] [(.int p1)])) rfl (by rw [hml]; rfl) (argsL := [(.int p1)]) (rest := []) (lenOf pd_16 rfl) rfl (by show 2 * 0 + _ ≤ _; exact Nat.le_of_eq rfl) (hb hby at_7) (fun _ _ => ⟨rfl, rfl, (by decide : 3 + 3 ≤ _), (by decide : 8 + 8 ≤ _)⟩)
  dsimp only [Pt.U, Pt.locs, Pt.cells, Pt.slots] at X2 l2 y2 z2 st2 hQ2
  subst l2 y2 z2
  obtain ⟨b2_0, rfl, Nq2, Kq2, sq_b2_0, fq2_0, fq2_1⟩ := hQ2
  have N2 := Fr.app N1 Nq2
  have g_b2_0 : n0 ≤ b2_0 := Nat.le_trans (own_sz O1) sq_b2_0
  have O2 := O1.keep Kq2 all0
  obtain ⟨_, _, ⟨T3, L3, k3, n3⟩, -, X3, ⟨Lc3, hQ3, l3, y3, z3⟩, st3⟩ := Jvm.LawKit.callS X2 hx (y := y4) hown (mvT hZ (wq hw 0 rfl)) (mvT hZ (wq hw 1 rfl)) (mvT hZ (wq hw 2 rfl)) (mvT hZ (wq hw 3 rfl)) (by decide) (backOf (W := 0) (rmMK l Z a0 hw [] cs_v hp p2 T2.heap n0 O2) hZ (wq hw 3 rfl) (wq hw 2 rfl) (by decide) (by decide)) (g := (mkF m 13 #[.val (.int p0), .val (.int p1), .val (.int p2), .val (.int p3), .val (.int p4), .val (.int p5), .val (.ref b1_0), .val (.ref b2_0), .unset, .unset, .unset, .unset, .unset, .unset, .unset, .unset, .unset, .unset] [(.int p2)])) rfl (by rw [hml]; rfl) (argsL := [(.int p2)]) (rest := []) (lenOf pd_16 rfl) rfl (by show 2 * 0 + _ ≤ _; exact Nat.le_of_eq rfl) (hb hby at_13) (fun _ _ => ⟨rfl, rfl, (by decide : 6 + 3 ≤ _), (by decide : 16 + 8 ≤ _)⟩)
  dsimp only [Pt.U, Pt.locs, Pt.cells, Pt.slots] at X3 l3 y3 z3 st3 hQ3
  subst l3 y3 z3
  obtain ⟨b3_0, rfl, Nq3, Kq3, sq_b3_0, fq3_0, fq3_1⟩ := hQ3
  have N3 := Fr.app N2 Nq3
  have g_b3_0 : n0 ≤ b3_0 := Nat.le_trans (own_sz O2) sq_b3_0
  have O3 := O2.keep Kq3 all0
  obtain ⟨T4, h4, X4, e4, E4, A4, D4, -, st4⟩ := newO X3 hx hZ hown (wq hw 30 rfl) (wq hw 31 rfl) (wq hw 32 rfl) rfl (g := (mkF m 23 #[.val (.int p0), .val (.int p1), .val (.int p2), .val (.int p3), .val (.int p4), .val (.int p5), .val (.ref b1_0), .val (.ref b2_0), .val (.ref b3_0), .val (.int (p3 &&& (3 : Int32))), .unset, .unset, .unset, .unset, .unset, .unset, .unset, .unset] [])) rfl (hb hby at_23) (by decide) (by decide)
  obtain ⟨b4, g4⟩ : ∃ z, z = T3.heap.size := ⟨_, rfl⟩
  rw [← g4] at A4 D4 st4
  have g_b4 : n0 ≤ b4 := Nat.le_trans (own_sz O3) (Nat.le_of_eq g4.symm)
  have O4 := O3.ext E4
  have F_strings_b4 : Fld Z h4 b4 "com/example/byteloom/byteloom/StringNumbers" "strings" "[Ljava/lang/String;" .null := D4 (Or.inr (wq hw 40 rfl)) (ty := (.array (.object "java/lang/String"))) (by decide)
  have F_hashes_b4 : Fld Z h4 b4 "com/example/byteloom/byteloom/StringNumbers" "hashes" "[I" .null := D4 (Or.inr (wq hw 43 rfl)) (ty := (.array .int)) (by decide)
  have F_numbers_b4 : Fld Z h4 b4 "com/example/byteloom/byteloom/StringNumbers" "numbers" "[I" .null := D4 (Or.inr (wq hw 45 rfl)) (ty := (.array .int)) (by decide)
  have F_taken_b4 : Fld Z h4 b4 "com/example/byteloom/byteloom/StringNumbers" "taken" "[I" .null := D4 (Or.inr (wq hw 47 rfl)) (ty := (.array .int)) (by decide)
  have F_listed_b4 : Fld Z h4 b4 "com/example/byteloom/byteloom/StringNumbers" "listed" "I" (.int (0 : Int32)) := D4 (Or.inl (wq hw 71 rfl)) (ty := .int) (by decide)
  have F_hashed_b4 : Fld Z h4 b4 "com/example/byteloom/byteloom/StringNumbers" "hashed" "Ljava/util/Map;" .null := D4 (Or.inl (wq hw 78 rfl)) (ty := (.object "java/util/Map")) (by decide)
  obtain ⟨_, _, ⟨T5, L5, k5, n5⟩, -, X5, ⟨Lc5, hQ5, l5, y5, z5⟩, st5⟩ := X4.specialBack hx (y := y19) rfl hown (mvT hZ (wq hw 33 rfl)) (mvT hZ (wq hw 34 rfl)) (mvT hZ (wq hw 35 rfl)) (by decide) (backOf (W := 1) (rm43 l Z a0 hw [] cs_v hp b4 h4 n0 O4 A4 F_strings_b4 F_hashes_b4 F_numbers_b4 F_taken_b4 F_listed_b4 F_hashed_b4 g_b4) hZ (wq hw 35 rfl) (wq hw 32 rfl) (by decide) (by decide)) (g := (mkF m 27 #[.val (.int p0), .val (.int p1), .val (.int p2), .val (.int p3), .val (.int p4), .val (.int p5), .val (.ref b1_0), .val (.ref b2_0), .val (.ref b3_0), .val (.int (p3 &&& (3 : Int32))), .unset, .unset, .unset, .unset, .unset, .unset, .unset, .unset] [(.ref b4), (.ref b4)])) rfl (by rw [hml]; rfl) (Steps.refl _) (a := b4) (argsL := []) (rest := [(.ref b4)]) (lenOf pd_17 rfl) rfl (by show 2 * 0 + _ ≤ _; exact Nat.le_of_eq rfl) (hb hby at_27) (fun _ _ => ⟨rfl, e4, (by decide : 10 + 4 ≤ _), (by decide : 30 + 112 ≤ _)⟩)
  dsimp only [Pt.U, Pt.locs, Pt.cells, Pt.slots] at X5 l5 y5 z5 st5 hQ5
  subst l5 y5 z5
  obtain ⟨b5_0, b5_1, b5_2, b5_3, kc5_0, kc5_1, kc5_2, kc5_3, rfl, Nq5, Kq5, sq_b5_0, sq_b5_1, sq_b5_2, sq_b5_3, nq5_0, nq5_1, nq5_2, nq5_3, nq5_4, nq5_5, fq5_0, fq5_1, fq5_2, fq5_3, fq5_4, fq5_5, fq5_6, fq5_7, fq5_8, fq5_9, fq5_10, fq5_11, fq5_12, fq5_13, fq5_14, fq5_15⟩ := hQ5
  have N5 := Fr.app N3 Nq5
  have g_b5_0 : n0 ≤ b5_0 := Nat.le_trans (own_sz O4) sq_b5_0
  have g_b5_1 : n0 ≤ b5_1 := Nat.le_trans (own_sz O4) sq_b5_1
  have g_b5_2 : n0 ≤ b5_2 := Nat.le_trans (own_sz O4) sq_b5_2
  have g_b5_3 : n0 ≤ b5_3 := Nat.le_trans (own_sz O4) sq_b5_3
  have O5 := O4.keep Kq5 (allS g_b4 all0)
  obtain ⟨κ, hκ0, hκ1, hκ2⟩ := own_kap (mkV p0) (mkV p1) (mkV p2) (Nat.ne_of_lt (Nat.lt_of_lt_of_le fq1_0.lt sq_b2_0)) (Nat.ne_of_lt (Nat.lt_of_lt_of_le (fq1_0.keep Kq2).lt sq_b3_0)) (Nat.ne_of_lt (Nat.lt_of_lt_of_le fq2_0.lt sq_b3_0))
  have f_6 := ((((fq1_1.keep Kq2 all0).keep Kq3 all0).ext E4).keep Kq5 (allS ⟨(((fq1_1.keep Kq2 all0).keep Kq3 all0).ext E4).exa.ne A4 (by decide), fun y hy => hy.ne A4 (by decide)⟩ all0))
  have Kw0 : StrK Z T5.heap b1_0 (κ b1_0) := by rw [hκ0]; exact f_6
  have f_7 := (((fq2_1.keep Kq3 all0).ext E4).keep Kq5 (allS ⟨((fq2_1.keep Kq3 all0).ext E4).exa.ne A4 (by decide), fun y hy => hy.ne A4 (by decide)⟩ all0))
  have Kw1 : StrK Z T5.heap b2_0 (κ b2_0) := by rw [hκ1]; exact f_7
  have f_8 := ((fq3_1.ext E4).keep Kq5 (allS ⟨(fq3_1.ext E4).exa.ne A4 (by decide), fun y hy => hy.ne A4 (by decide)⟩ all0))
  have Kw2 : StrK Z T5.heap b3_0 (κ b3_0) := by rw [hκ2]; exact f_8
  have Wd0 : Wd Z κ T5.heap n0 b4 (fun _ => none) [] := ⟨b5_0, b5_1, b5_2, b5_3, _, _, _, _, _, _, _, _, fq5_0, fq5_5, fq5_2, fq5_4, fq5_6, fq5_3, fq5_1, fq5_7, fq5_10, fq5_12, fq5_14, nq5_3, nq5_4, nq5_5, g_b4, g_b5_0, g_b5_1, g_b5_2, g_b5_3, Arf.of fq5_8 rfl, fq5_9, Arf.of fq5_11 rfl, Arf.of fq5_13 rfl, Arf.of fq5_15 rfl, TabOk.empty (fun _ _ => rfl), fun _ _ _ q => nomatch q⟩
  obtain ⟨T9, L9, X9, N9, O9, Et9, W9, AK9, st9⟩ := own_pre l Z a0 hw cs_v hp p0 p1 p2 p3 p4 p5 b1_0 b2_0 b3_0 (p3 &&& (3 : Int32)) b4 κ T5.heap n0 O5 fq5_0 g_b1_0 g_b2_0 g_b3_0 Kw0 Kw1 Kw2 Wd0 X5 hx hZ hby hml hown rfl N5
  have K0_9 := AK9 b1_0 Kw0
  have K1_9 := AK9 b2_0 Kw1
  have K2_9 := AK9 b3_0 Kw2
  obtain ⟨cq10, kq10, q10a, q10b, q10c⟩ := isOf hZ rfl Et9
  obtain ⟨_, _, ⟨T10, L10, k10, n10⟩, -, X10, ⟨Lc10, hQ10, l10, y10, z10⟩, st10⟩ := X9.virtualBack hx (y := y17) (z := y17) hown (mvT hZ (wq hw 48 rfl)) (mvT hZ (wq hw 49 rfl)) (notFace_of_selects (args := #[]) (mvT hZ (wq hw 51 rfl))) (mvT hZ (wq hw 51 rfl)) (mvT hZ (wq hw 50 rfl)) (by decide) (backOf (W := 0) (rmPUT l Z a0 hw [] cs_v hp κ b4 b1_0 p4 (fun _ => none) [] T9.heap n0 O9 g_b1_0 K0_9 W9 (Nat.le_trans (Nat.zero_le _ : ([] : List Int32).length ≤ 0) (by decide))) hZ (wq hw 52 rfl) (wq hw 32 rfl) (by decide) (by decide)) q10a q10c (g := (mkF m 98 #[.val (.int p0), .val (.int p1), .val (.int p2), .val (.int p3), .val (.int p4), .val (.int p5), .val (.ref b1_0), .val (.ref b2_0), .val (.ref b3_0), .val (.int (p3 &&& (3 : Int32))), .val (.ref b4), .val (.int (1 : Int32)), .unset, .unset, .unset, .unset, .unset, .unset] [(.int p4), (.ref b1_0), (.ref b4)])) rfl (by rw [hml]; rfl) (Steps.refl _) (argsL := [(.ref b1_0), (.int p4)]) (rest := []) (lenOf pd_18 rfl) rfl (by show 2 * 0 + _ ≤ _; exact Nat.le_of_eq rfl) (hb hby at_98) (fun _ _ => ⟨rfl, rfl, (by decide : 14 + 0 ≤ _), (by decide : 142 + 0 ≤ _)⟩)
  dsimp only [Pt.U, Pt.locs, Pt.cells, Pt.slots] at X10 l10 y10 z10 st10 hQ10
  subst l10 y10 z10
  obtain ⟨r10, Tb10, us10, wl10, rfl, Nq10, Kq10, gq10, P10, W10, hu10, AK10⟩ := hQ10
  have N10 := Fr.app N9 Nq10
  have O10 := O9.keep Kq10 gq10
  have K0_10 := AK10 b1_0 K0_9
  have K1_10 := AK10 b2_0 K1_9
  have K2_10 := AK10 b3_0 K2_9
  have hv10 : us10.length ≤ 1 := by have q := (Nat.zero_le _ : ([] : List Int32).length ≤ 0); omega
  obtain ⟨ha, hF1, hA1⟩ := put1 (fun _ => rfl) P10
  obtain ⟨cq11, kq11, q11a, q11b, q11c⟩ := isOf hZ rfl (Et9.keep Kq10)
  obtain ⟨_, _, ⟨T11, L11, k11, n11⟩, -, X11, ⟨Lc11, hQ11, l11, y11, z11⟩, st11⟩ := X10.virtualBack hx (y := y17) (z := y17) hown (mvT hZ (wq hw 48 rfl)) (mvT hZ (wq hw 49 rfl)) (notFace_of_selects (args := #[]) (mvT hZ (wq hw 51 rfl))) (mvT hZ (wq hw 51 rfl)) (mvT hZ (wq hw 50 rfl)) (by decide) (backOf (W := 0) (rmPUT l Z a0 hw [] cs_v hp κ b4 b2_0 (p4 + (1 : Int32)) Tb10 us10 T10.heap n0 O10 g_b2_0 K1_10 W10 (Nat.le_trans hv10 (by decide))) hZ (wq hw 52 rfl) (wq hw 32 rfl) (by decide) (by decide)) q11a q11c (g := (mkF m 129 #[.val (.int p0), .val (.int p1), .val (.int p2), .val (.int p3), .val (.int p4), .val (.int p5), .val (.ref b1_0), .val (.ref b2_0), .val (.ref b3_0), .val (.int (p3 &&& (3 : Int32))), .val (.ref b4), .val (.int (1 : Int32)), .val (.int r10), .unset, .unset, .unset, .unset, .unset] [(.int (p4 + (1 : Int32))), (.ref b2_0), (.ref b4)])) rfl (by rw [hml]; rfl) (Steps.refl _) (argsL := [(.ref b2_0), (.int (p4 + (1 : Int32)))]) (rest := []) (lenOf pd_18 rfl) rfl (by show 2 * 0 + _ ≤ _; exact Nat.le_of_eq rfl) (hb hby at_129) (fun _ _ => ⟨rfl, rfl, (by decide : 14 + 0 ≤ _), (by decide : 142 + 0 ≤ _)⟩)
  dsimp only [Pt.U, Pt.locs, Pt.cells, Pt.slots] at X11 l11 y11 z11 st11 hQ11
  subst l11 y11 z11
  obtain ⟨r11, Tb11, us11, wl11, rfl, Nq11, Kq11, gq11, P11, W11, hu11, AK11⟩ := hQ11
  have N11 := Fr.app N10 Nq11
  have O11 := O10.keep Kq11 gq11
  have K0_11 := AK11 b1_0 K0_10
  have M0_11 : StrK Z T11.heap b1_0 (mkV p0) := by rw [← hκ0]; exact K0_11
  have K1_11 := AK11 b2_0 K1_10
  have M1_11 : StrK Z T11.heap b2_0 (mkV p1) := by rw [← hκ1]; exact K1_11
  have K2_11 := AK11 b3_0 K2_10
  have hv11 : us11.length ≤ 2 := by have q := hv10; omega
  obtain ⟨hb1, hb2, hF2, hA2⟩ := put2 hF1 hA1 P11
  obtain ⟨cq12, kq12, q12a, q12b, q12c⟩ := isOf hZ rfl ((K1_9.exa.keep Kq10).keep Kq11)
  obtain ⟨_, _, ⟨T12, L12, k12, n12⟩, -, X12, ⟨Lc12, hQ12, l12, y12, z12⟩, st12⟩ := X11.virtualBack hx (y := y16) (z := y16) hown (mvT hZ (wq hw 79 rfl)) (mvT hZ (wq hw 80 rfl)) (notFace_of_selects (args := #[]) (mvT hZ (wq hw 82 rfl))) (mvT hZ (wq hw 82 rfl)) (mvT hZ (wq hw 81 rfl)) (by decide) (backOf (W := 0) (rmEQ l Z a0 hw [] cs_v hp b2_0 b1_0 (mkV p1) (mkV p0) T11.heap n0 O11 (Ne.symm (Nat.ne_of_lt (Nat.lt_of_lt_of_le fq1_0.lt sq_b2_0))) M1_11 M0_11) hZ (wq hw 83 rfl) (wq hw 6 rfl) (by decide) (by decide)) q12a q12c (g := (mkF m 138 #[.val (.int p0), .val (.int p1), .val (.int p2), .val (.int p3), .val (.int p4), .val (.int p5), .val (.ref b1_0), .val (.ref b2_0), .val (.ref b3_0), .val (.int (p3 &&& (3 : Int32))), .val (.ref b4), .val (.int (1 : Int32)), .val (.int r10), .val (.int r11), .unset, .unset, .unset, .unset] [(.ref b1_0), (.ref b2_0)])) rfl (by rw [hml]; rfl) (Steps.refl _) (argsL := [(.ref b1_0)]) (rest := []) (lenOf pd_14 rfl) rfl (by show 2 * 0 + _ ≤ _; exact Nat.le_of_eq rfl) (hb hby at_138) (fun _ _ => ⟨rfl, rfl, (by decide : 14 + 0 ≤ _), (by decide : 142 + 0 ≤ _)⟩)
  dsimp only [Pt.U, Pt.locs, Pt.cells, Pt.slots] at X12 l12 y12 z12 st12 hQ12
  subst l12 y12 z12
  obtain ⟨rfl, Nq12, eq12⟩ := hQ12
  have N12 := Fr.app N11 Nq12
  obtain ⟨cq13, kq13, q13a, q13b, q13c⟩ := isOf hZ eq12 ((Et9.keep Kq10).keep Kq11)
  obtain ⟨_, _, ⟨T13, L13, k13, n13⟩, -, X13, ⟨Lc13, hQ13, l13, y13, z13⟩, st13⟩ := X12.virtualBack hx (y := y17) (z := y17) hown (mvT hZ (wq hw 48 rfl)) (mvT hZ (wq hw 49 rfl)) (notFace_of_selects (args := #[]) (mvT hZ (wq hw 51 rfl))) (mvT hZ (wq hw 51 rfl)) (mvT hZ (wq hw 50 rfl)) (by decide) (backOf (W := 0) (rmPUT l Z a0 hw [] cs_v hp κ b4 b3_0 (p4 + (2 : Int32)) Tb11 us11 T11.heap n0 O11 g_b3_0 K2_11 W11 (Nat.le_trans hv11 (by decide))) hZ (wq hw 52 rfl) (wq hw 32 rfl) (by decide) (by decide)) q13a q13c (g := (mkF m 179 #[.val (.int p0), .val (.int p1), .val (.int p2), .val (.int p3), .val (.int p4), .val (.int p5), .val (.ref b1_0), .val (.ref b2_0), .val (.ref b3_0), .val (.int (p3 &&& (3 : Int32))), .val (.ref b4), .val (.int (1 : Int32)), .val (.int r10), .val (.int r11), .val (.int p4), .unset, .unset, .unset] [(.int (p4 + (2 : Int32))), (.ref b3_0), (.ref b4)])) rfl (by rw [hml]; rfl) (Steps.refl _) (argsL := [(.ref b3_0), (.int (p4 + (2 : Int32)))]) (rest := []) (lenOf pd_18 rfl) rfl (by show 2 * 0 + _ ≤ _; exact Nat.le_of_eq rfl) (hb hby at_179) (fun _ _ => ⟨rfl, eq12, (by decide : 14 + 0 ≤ _), (by decide : 142 + 0 ≤ _)⟩)
  dsimp only [Pt.U, Pt.locs, Pt.cells, Pt.slots] at X13 l13 y13 z13 st13 hQ13
  subst l13 y13 z13
  obtain ⟨r13, Tb13, us13, wl13, rfl, Nq13, Kq13, gq13, P13, W13, hu13, AK13⟩ := hQ13
  have N13 := Fr.app N12 Nq13
  have O13 := O11.keep Kq13 gq13
  have K0_13 := AK13 b1_0 K0_11
  have M0_13 : StrK Z T13.heap b1_0 (mkV p0) := by rw [← hκ0]; exact K0_13
  have K2_13 := AK13 b3_0 K2_11
  have M2_13 : StrK Z T13.heap b3_0 (mkV p2) := by rw [← hκ2]; exact K2_13
  have hv13 : us13.length ≤ 3 := by have q := hv11; omega
  obtain ⟨he1, he2, he3, hF3⟩ := put3 hF2 (fun h => (hb2 h).2) hA2 P13
  obtain ⟨cq14, kq14, q14a, q14b, q14c⟩ := isOf hZ rfl (((K2_9.exa.keep Kq10).keep Kq11).keep Kq13)
  obtain ⟨_, _, ⟨T14, L14, k14, n14⟩, -, X14, ⟨Lc14, hQ14, l14, y14, z14⟩, st14⟩ := X13.virtualBack hx (y := y16) (z := y16) hown (mvT hZ (wq hw 79 rfl)) (mvT hZ (wq hw 80 rfl)) (notFace_of_selects (args := #[]) (mvT hZ (wq hw 82 rfl))) (mvT hZ (wq hw 82 rfl)) (mvT hZ (wq hw 81 rfl)) (by decide) (backOf (W := 0) (rmEQ l Z a0 hw [] cs_v hp b3_0 b1_0 (mkV p2) (mkV p0) T13.heap n0 O13 (Ne.symm (Nat.ne_of_lt (Nat.lt_of_lt_of_le (fq1_0.keep Kq2).lt sq_b3_0))) M2_13 M0_13) hZ (wq hw 83 rfl) (wq hw 6 rfl) (by decide) (by decide)) q14a q14c (g := (mkF m 188 #[.val (.int p0), .val (.int p1), .val (.int p2), .val (.int p3), .val (.int p4), .val (.int p5), .val (.ref b1_0), .val (.ref b2_0), .val (.ref b3_0), .val (.int (p3 &&& (3 : Int32))), .val (.ref b4), .val (.int (1 : Int32)), .val (.int r10), .val (.int r11), .val (.int p4), .val (.int r13), .unset, .unset] [(.ref b1_0), (.ref b3_0)])) rfl (by rw [hml]; rfl) (Steps.refl _) (argsL := [(.ref b1_0)]) (rest := []) (lenOf pd_14 rfl) rfl (by show 2 * 0 + _ ≤ _; exact Nat.le_of_eq rfl) (hb hby at_188) (fun _ _ => ⟨rfl, rfl, (by decide : 14 + 0 ≤ _), (by decide : 142 + 0 ≤ _)⟩)
  dsimp only [Pt.U, Pt.locs, Pt.cells, Pt.slots] at X14 l14 y14 z14 st14 hQ14
  subst l14 y14 z14
  obtain ⟨rfl, Nq14, eq14⟩ := hQ14
  have N14 := Fr.app N13 Nq14
  obtain ⟨cq15, kq15, q15a, q15b, q15c⟩ := isOf hZ eq14 (((Et9.keep Kq10).keep Kq11).keep Kq13)
  obtain ⟨_, _, ⟨T15, L15, k15, n15⟩, -, X15, ⟨Lc15, hQ15, l15, y15, z15⟩, st15⟩ := X14.virtualBack hx (y := y17) (z := y17) hown (mvT hZ (wq hw 48 rfl)) (mvT hZ (wq hw 49 rfl)) (notFace_of_selects (args := #[]) (mvT hZ (wq hw 51 rfl))) (mvT hZ (wq hw 51 rfl)) (mvT hZ (wq hw 50 rfl)) (by decide) (backOf (W := 0) (rmPUT l Z a0 hw [] cs_v hp κ b4 b1_0 (p4 + (3 : Int32)) Tb13 us13 T13.heap n0 O13 g_b1_0 K0_13 W13 (Nat.le_trans hv13 (by decide))) hZ (wq hw 52 rfl) (wq hw 32 rfl) (by decide) (by decide)) q15a q15c (g := (mkF m 250 #[.val (.int p0), .val (.int p1), .val (.int p2), .val (.int p3), .val (.int p4), .val (.int p5), .val (.ref b1_0), .val (.ref b2_0), .val (.ref b3_0), .val (.int (p3 &&& (3 : Int32))), .val (.ref b4), .val (.int (1 : Int32)), .val (.int r10), .val (.int r11), .val (.int p4), .val (.int r13), .val (.int p4), .unset] [(.int (p4 + (3 : Int32))), (.ref b1_0), (.ref b4)])) rfl (by rw [hml]; rfl) (Steps.refl _) (argsL := [(.ref b1_0), (.int (p4 + (3 : Int32)))]) (rest := []) (lenOf pd_18 rfl) rfl (by show 2 * 0 + _ ≤ _; exact Nat.le_of_eq rfl) (hb hby at_250) (fun _ _ => ⟨rfl, eq14, (by decide : 14 + 0 ≤ _), (by decide : 142 + 0 ≤ _)⟩)
  dsimp only [Pt.U, Pt.locs, Pt.cells, Pt.slots] at X15 l15 y15 z15 st15 hQ15
  subst l15 y15 z15
  obtain ⟨r15, Tb15, us15, wl15, rfl, Nq15, Kq15, gq15, P15, W15, hu15, AK15⟩ := hQ15
  have N15 := Fr.app N14 Nq15
  have hd4 := put4 hF3 P15
  obtain ⟨fs, hr, hrun, hended, hW, hsame⟩ := X15.leave (v := some (.int (1 : Int32))) (fun h => by rw [Bd.returns] at h; cases h)
  refine ⟨_, _, castTop (ef_0_0 m p0 p1 p2 p3 p4 p5) ?_, hrun, hended, _, _, rfl, ?_, ⟨_, rfl⟩, hW, hsame.mono (by decide) (by decide)⟩
  · show Sp p e below s₁ (mkF m 0 #[.val (.int p0), .val (.int p1), .val (.int p2), .val (.int p3), .val (.int p4), .val (.int p5), .unset, .unset, .unset, .unset, .unset, .unset, .unset, .unset, .unset, .unset, .unset, .unset] []) _
    refine XS.iloadN X0.here hx rfl (hb hby at_0) rfl ?_
    show Sp p e below s₁ (mkF m 1 #[.val (.int p0), .val (.int p1), .val (.int p2), .val (.int p3), .val (.int p4), .val (.int p5), .unset, .unset, .unset, .unset, .unset, .unset, .unset, .unset, .unset, .unset, .unset, .unset] [(.int p0)]) _
    refine st1 _ ?_
    show Sp p e below T1 (mkF m 4 #[.val (.int p0), .val (.int p1), .val (.int p2), .val (.int p3), .val (.int p4), .val (.int p5), .unset, .unset, .unset, .unset, .unset, .unset, .unset, .unset, .unset, .unset, .unset, .unset] [(.ref b1_0)]) _
    refine XS.astore X1.here hx rfl (hb hby at_4) rfl rfl (l' := #[.val (.int p0), .val (.int p1), .val (.int p2), .val (.int p3), .val (.int p4), .val (.int p5), .val (.ref b1_0), .unset, .unset, .unset, .unset, .unset, .unset, .unset, .unset, .unset, .unset, .unset]) rfl ?_
    refine XS.iloadN X1.here hx rfl (hb hby at_6) rfl ?_
    show Sp p e below T1 (mkF m 7 #[.val (.int p0), .val (.int p1), .val (.int p2), .val (.int p3), .val (.int p4), .val (.int p5), .val (.ref b1_0), .unset, .unset, .unset, .unset, .unset, .unset, .unset, .unset, .unset, .unset, .unset] [(.int p1)]) _
    refine st2 _ ?_
    show Sp p e below T2 (mkF m 10 #[.val (.int p0), .val (.int p1), .val (.int p2), .val (.int p3), .val (.int p4), .val (.int p5), .val (.ref b1_0), .unset, .unset, .unset, .unset, .unset, .unset, .unset, .unset, .unset, .unset, .unset] [(.ref b2_0)]) _
    refine XS.astore X2.here hx rfl (hb hby at_10) rfl rfl (l' := #[.val (.int p0), .val (.int p1), .val (.int p2), .val (.int p3), .val (.int p4), .val (.int p5), .val (.ref b1_0), .val (.ref b2_0), .unset, .unset, .unset, .unset, .unset, .unset, .unset, .unset, .unset, .unset]) rfl ?_
    refine XS.iloadN X2.here hx rfl (hb hby at_12) rfl ?_
    show Sp p e below T2 (mkF m 13 #[.val (.int p0), .val (.int p1), .val (.int p2), .val (.int p3), .val (.int p4), .val (.int p5), .val (.ref b1_0), .val (.ref b2_0), .unset, .unset, .unset, .unset, .unset, .unset, .unset, .unset, .unset, .unset] [(.int p2)]) _
    refine st3 _ ?_
    show Sp p e below T3 (mkF m 16 #[.val (.int p0), .val (.int p1), .val (.int p2), .val (.int p3), .val (.int p4), .val (.int p5), .val (.ref b1_0), .val (.ref b2_0), .unset, .unset, .unset, .unset, .unset, .unset, .unset, .unset, .unset, .unset] [(.ref b3_0)]) _
    refine XS.astore X3.here hx rfl (hb hby at_16) rfl rfl (l' := #[.val (.int p0), .val (.int p1), .val (.int p2), .val (.int p3), .val (.int p4), .val (.int p5), .val (.ref b1_0), .val (.ref b2_0), .val (.ref b3_0), .unset, .unset, .unset, .unset, .unset, .unset, .unset, .unset, .unset]) rfl ?_
    refine XS.iloadN X3.here hx rfl (hb hby at_18) rfl ?_
    refine XS.iconst X3.here hx rfl (hb hby at_19) ?_
    refine XS.iand X3.here hx rfl (hb hby at_20) rfl ?_
    refine XS.istore X3.here hx rfl (hb hby at_21) rfl (l' := #[.val (.int p0), .val (.int p1), .val (.int p2), .val (.int p3), .val (.int p4), .val (.int p5), .val (.ref b1_0), .val (.ref b2_0), .val (.ref b3_0), .val (.int (p3 &&& (3 : Int32))), .unset, .unset, .unset, .unset, .unset, .unset, .unset, .unset]) rfl ?_
    show Sp p e below T3 (mkF m 23 #[.val (.int p0), .val (.int p1), .val (.int p2), .val (.int p3), .val (.int p4), .val (.int p5), .val (.ref b1_0), .val (.ref b2_0), .val (.ref b3_0), .val (.int (p3 &&& (3 : Int32))), .unset, .unset, .unset, .unset, .unset, .unset, .unset, .unset] []) _
    refine st4 _ ?_
    show Sp p e below T4 (mkF m 26 #[.val (.int p0), .val (.int p1), .val (.int p2), .val (.int p3), .val (.int p4), .val (.int p5), .val (.ref b1_0), .val (.ref b2_0), .val (.ref b3_0), .val (.int (p3 &&& (3 : Int32))), .unset, .unset, .unset, .unset, .unset, .unset, .unset, .unset] [(.ref b4)]) _
    refine XS.dup X4.here hx rfl (hb hby at_26) rfl rfl ?_
    show Sp p e below T4 (mkF m 27 #[.val (.int p0), .val (.int p1), .val (.int p2), .val (.int p3), .val (.int p4), .val (.int p5), .val (.ref b1_0), .val (.ref b2_0), .val (.ref b3_0), .val (.int (p3 &&& (3 : Int32))), .unset, .unset, .unset, .unset, .unset, .unset, .unset, .unset] [(.ref b4), (.ref b4)]) _
    refine st5.trans ?_
    show Sp p e below T5 (mkF m 30 #[.val (.int p0), .val (.int p1), .val (.int p2), .val (.int p3), .val (.int p4), .val (.int p5), .val (.ref b1_0), .val (.ref b2_0), .val (.ref b3_0), .val (.int (p3 &&& (3 : Int32))), .unset, .unset, .unset, .unset, .unset, .unset, .unset, .unset] [(.ref b4)]) _
    refine XS.astore X5.here hx rfl (hb hby at_30) rfl rfl (l' := #[.val (.int p0), .val (.int p1), .val (.int p2), .val (.int p3), .val (.int p4), .val (.int p5), .val (.ref b1_0), .val (.ref b2_0), .val (.ref b3_0), .val (.int (p3 &&& (3 : Int32))), .val (.ref b4), .unset, .unset, .unset, .unset, .unset, .unset, .unset]) rfl ?_
    refine st9 _ ?_
    show Sp p e below T9 (mkF m 92 #[.val (.int p0), .val (.int p1), .val (.int p2), .val (.int p3), .val (.int p4), .val (.int p5), .val (.ref b1_0), .val (.ref b2_0), .val (.ref b3_0), .val (.int (p3 &&& (3 : Int32))), .val (.ref b4), .val (.int (1 : Int32)), .unset, .unset, .unset, .unset, .unset, .unset] []) _
    refine XS.aload X9.here hx rfl (hb hby at_92) rfl rfl ?_
    refine XS.aload X9.here hx rfl (hb hby at_94) rfl rfl ?_
    refine XS.iload X9.here hx rfl (hb hby at_96) rfl ?_
    show Sp p e below T9 (mkF m 98 #[.val (.int p0), .val (.int p1), .val (.int p2), .val (.int p3), .val (.int p4), .val (.int p5), .val (.ref b1_0), .val (.ref b2_0), .val (.ref b3_0), .val (.int (p3 &&& (3 : Int32))), .val (.ref b4), .val (.int (1 : Int32)), .unset, .unset, .unset, .unset, .unset, .unset] [(.int p4), (.ref b1_0), (.ref b4)]) _
    refine st10.trans ?_
    show Sp p e below T10 (mkF m 101 #[.val (.int p0), .val (.int p1), .val (.int p2), .val (.int p3), .val (.int p4), .val (.int p5), .val (.ref b1_0), .val (.ref b2_0), .val (.ref b3_0), .val (.int (p3 &&& (3 : Int32))), .val (.ref b4), .val (.int (1 : Int32)), .unset, .unset, .unset, .unset, .unset, .unset] [(.int r10)]) _
    refine XS.istore X10.here hx rfl (hb hby at_101) rfl (l' := #[.val (.int p0), .val (.int p1), .val (.int p2), .val (.int p3), .val (.int p4), .val (.int p5), .val (.ref b1_0), .val (.ref b2_0), .val (.ref b3_0), .val (.int (p3 &&& (3 : Int32))), .val (.ref b4), .val (.int (1 : Int32)), .val (.int r10), .unset, .unset, .unset, .unset, .unset]) rfl ?_
    refine XS.iload X10.here hx rfl (hb hby at_103) rfl ?_
    refine XS.ifNo X10.here hx rfl (hb hby at_105) rfl ((if0 _ _).trans (feq (by decide : ¬ ((1 : Int32) = (0 : Int32)))).1) ?_
    refine XS.iload X10.here hx rfl (hb hby at_108) rfl ?_
    refine XS.iconst X10.here hx rfl (hb hby at_110) ?_
    refine XS.icmpNo X10.here hx rfl (hb hby at_111) rfl (teq ha).2 ?_
    refine XS.iconst X10.here hx rfl (hb hby at_114) ?_
    show Sp p e below T10 (mkF m 115 #[.val (.int p0), .val (.int p1), .val (.int p2), .val (.int p3), .val (.int p4), .val (.int p5), .val (.ref b1_0), .val (.ref b2_0), .val (.ref b3_0), .val (.int (p3 &&& (3 : Int32))), .val (.ref b4), .val (.int (1 : Int32)), .val (.int r10), .unset, .unset, .unset, .unset, .unset] [(.int (1 : Int32))]) _
    refine XS.goto X10.here hx rfl (pc0 := 115) (pc' := 119) rfl (hb hby at_115) (by decide) (by decide) ?_
    refine XS.istore X10.here hx rfl (hb hby at_119) rfl (l' := #[.val (.int p0), .val (.int p1), .val (.int p2), .val (.int p3), .val (.int p4), .val (.int p5), .val (.ref b1_0), .val (.ref b2_0), .val (.ref b3_0), .val (.int (p3 &&& (3 : Int32))), .val (.ref b4), .val (.int (1 : Int32)), .val (.int r10), .unset, .unset, .unset, .unset, .unset]) rfl ?_
    refine XS.aload X10.here hx rfl (hb hby at_121) rfl rfl ?_
    refine XS.aload X10.here hx rfl (hb hby at_123) rfl rfl ?_
    refine XS.iload X10.here hx rfl (hb hby at_125) rfl ?_
    refine XS.iconst X10.here hx rfl (hb hby at_127) ?_
    refine XS.iadd X10.here hx rfl (hb hby at_128) rfl ?_
    show Sp p e below T10 (mkF m 129 #[.val (.int p0), .val (.int p1), .val (.int p2), .val (.int p3), .val (.int p4), .val (.int p5), .val (.ref b1_0), .val (.ref b2_0), .val (.ref b3_0), .val (.int (p3 &&& (3 : Int32))), .val (.ref b4), .val (.int (1 : Int32)), .val (.int r10), .unset, .unset, .unset, .unset, .unset] [(.int (p4 + (1 : Int32))), (.ref b2_0), (.ref b4)]) _
    refine st11.trans ?_
    show Sp p e below T11 (mkF m 132 #[.val (.int p0), .val (.int p1), .val (.int p2), .val (.int p3), .val (.int p4), .val (.int p5), .val (.ref b1_0), .val (.ref b2_0), .val (.ref b3_0), .val (.int (p3 &&& (3 : Int32))), .val (.ref b4), .val (.int (1 : Int32)), .val (.int r10), .unset, .unset, .unset, .unset, .unset] [(.int r11)]) _
    refine XS.istore X11.here hx rfl (hb hby at_132) rfl (l' := #[.val (.int p0), .val (.int p1), .val (.int p2), .val (.int p3), .val (.int p4), .val (.int p5), .val (.ref b1_0), .val (.ref b2_0), .val (.ref b3_0), .val (.int (p3 &&& (3 : Int32))), .val (.ref b4), .val (.int (1 : Int32)), .val (.int r10), .val (.int r11), .unset, .unset, .unset, .unset]) rfl ?_
    refine XS.aload X11.here hx rfl (hb hby at_134) rfl rfl ?_
    refine XS.aload X11.here hx rfl (hb hby at_136) rfl rfl ?_
    show Sp p e below T11 (mkF m 138 #[.val (.int p0), .val (.int p1), .val (.int p2), .val (.int p3), .val (.int p4), .val (.int p5), .val (.ref b1_0), .val (.ref b2_0), .val (.ref b3_0), .val (.int (p3 &&& (3 : Int32))), .val (.ref b4), .val (.int (1 : Int32)), .val (.int r10), .val (.int r11), .unset, .unset, .unset, .unset] [(.ref b1_0), (.ref b2_0)]) _
    refine st12.trans ?_
    show Sp p e below T12 (mkF m 141 #[.val (.int p0), .val (.int p1), .val (.int p2), .val (.int p3), .val (.int p4), .val (.int p5), .val (.ref b1_0), .val (.ref b2_0), .val (.ref b3_0), .val (.int (p3 &&& (3 : Int32))), .val (.ref b4), .val (.int (1 : Int32)), .val (.int r10), .val (.int r11), .unset, .unset, .unset, .unset] [(.int (eqK (mkV p1) (mkV p0)))]) _
    refine XS.ifNo X12.here hx rfl (hb hby at_141) rfl ((if0 _ _).trans (feq hc1).1) ?_
    refine XS.iload X12.here hx rfl (hb hby at_144) rfl ?_
    refine XS.goto X12.here hx rfl (pc0 := 146) (pc' := 150) rfl (hb hby at_146) (by decide) (by decide) ?_
    refine XS.istore X12.here hx rfl (hb hby at_150) rfl (l' := #[.val (.int p0), .val (.int p1), .val (.int p2), .val (.int p3), .val (.int p4), .val (.int p5), .val (.ref b1_0), .val (.ref b2_0), .val (.ref b3_0), .val (.int (p3 &&& (3 : Int32))), .val (.ref b4), .val (.int (1 : Int32)), .val (.int r10), .val (.int r11), .val (.int p4), .unset, .unset, .unset]) rfl ?_
    refine XS.iload X12.here hx rfl (hb hby at_152) rfl ?_
    refine XS.ifNo X12.here hx rfl (hb hby at_154) rfl ((if0 _ _).trans (feq (by decide : ¬ ((1 : Int32) = (0 : Int32)))).1) ?_
    refine XS.iload X12.here hx rfl (hb hby at_157) rfl ?_
    show Sp p e below T12 (mkF m 159 #[.val (.int p0), .val (.int p1), .val (.int p2), .val (.int p3), .val (.int p4), .val (.int p5), .val (.ref b1_0), .val (.ref b2_0), .val (.ref b3_0), .val (.int (p3 &&& (3 : Int32))), .val (.ref b4), .val (.int (1 : Int32)), .val (.int r10), .val (.int r11), .val (.int p4), .unset, .unset, .unset] [(.int r11)]) _
    refine XS.iload X12.here hx rfl (hb hby at_159) rfl ?_
    refine XS.icmpNo X12.here hx rfl (hb hby at_161) rfl (teq (hb1 (by rw [hκ1, hκ0]; exact own_ek1 hc1))).2 ?_
    refine XS.iconst X12.here hx rfl (hb hby at_164) ?_
    refine XS.goto X12.here hx rfl (pc0 := 165) (pc' := 169) rfl (hb hby at_165) (by decide) (by decide) ?_
    refine XS.istore X12.here hx rfl (hb hby at_169) rfl (l' := #[.val (.int p0), .val (.int p1), .val (.int p2), .val (.int p3), .val (.int p4), .val (.int p5), .val (.ref b1_0), .val (.ref b2_0), .val (.ref b3_0), .val (.int (p3 &&& (3 : Int32))), .val (.ref b4), .val (.int (1 : Int32)), .val (.int r10), .val (.int r11), .val (.int p4), .unset, .unset, .unset]) rfl ?_
    refine XS.aload X12.here hx rfl (hb hby at_171) rfl rfl ?_
    refine XS.aload X12.here hx rfl (hb hby at_173) rfl rfl ?_
    show Sp p e below T12 (mkF m 175 #[.val (.int p0), .val (.int p1), .val (.int p2), .val (.int p3), .val (.int p4), .val (.int p5), .val (.ref b1_0), .val (.ref b2_0), .val (.ref b3_0), .val (.int (p3 &&& (3 : Int32))), .val (.ref b4), .val (.int (1 : Int32)), .val (.int r10), .val (.int r11), .val (.int p4), .unset, .unset, .unset] [(.ref b3_0), (.ref b4)]) _
    refine XS.iload X12.here hx rfl (hb hby at_175) rfl ?_
    refine XS.iconst X12.here hx rfl (hb hby at_177) ?_
    refine XS.iadd X12.here hx rfl (hb hby at_178) rfl ?_
    show Sp p e below T12 (mkF m 179 #[.val (.int p0), .val (.int p1), .val (.int p2), .val (.int p3), .val (.int p4), .val (.int p5), .val (.ref b1_0), .val (.ref b2_0), .val (.ref b3_0), .val (.int (p3 &&& (3 : Int32))), .val (.ref b4), .val (.int (1 : Int32)), .val (.int r10), .val (.int r11), .val (.int p4), .unset, .unset, .unset] [(.int (p4 + (2 : Int32))), (.ref b3_0), (.ref b4)]) _
    refine st13.trans ?_
    show Sp p e below T13 (mkF m 182 #[.val (.int p0), .val (.int p1), .val (.int p2), .val (.int p3), .val (.int p4), .val (.int p5), .val (.ref b1_0), .val (.ref b2_0), .val (.ref b3_0), .val (.int (p3 &&& (3 : Int32))), .val (.ref b4), .val (.int (1 : Int32)), .val (.int r10), .val (.int r11), .val (.int p4), .unset, .unset, .unset] [(.int r13)]) _
    refine XS.istore X13.here hx rfl (hb hby at_182) rfl (l' := #[.val (.int p0), .val (.int p1), .val (.int p2), .val (.int p3), .val (.int p4), .val (.int p5), .val (.ref b1_0), .val (.ref b2_0), .val (.ref b3_0), .val (.int (p3 &&& (3 : Int32))), .val (.ref b4), .val (.int (1 : Int32)), .val (.int r10), .val (.int r11), .val (.int p4), .val (.int r13), .unset, .unset]) rfl ?_
    refine XS.aload X13.here hx rfl (hb hby at_184) rfl rfl ?_
    refine XS.aload X13.here hx rfl (hb hby at_186) rfl rfl ?_
    show Sp p e below T13 (mkF m 188 #[.val (.int p0), .val (.int p1), .val (.int p2), .val (.int p3), .val (.int p4), .val (.int p5), .val (.ref b1_0), .val (.ref b2_0), .val (.ref b3_0), .val (.int (p3 &&& (3 : Int32))), .val (.ref b4), .val (.int (1 : Int32)), .val (.int r10), .val (.int r11), .val (.int p4), .val (.int r13), .unset, .unset] [(.ref b1_0), (.ref b3_0)]) _
    refine st14.trans ?_
    show Sp p e below T14 (mkF m 191 #[.val (.int p0), .val (.int p1), .val (.int p2), .val (.int p3), .val (.int p4), .val (.int p5), .val (.ref b1_0), .val (.ref b2_0), .val (.ref b3_0), .val (.int (p3 &&& (3 : Int32))), .val (.ref b4), .val (.int (1 : Int32)), .val (.int r10), .val (.int r11), .val (.int p4), .val (.int r13), .unset, .unset] [(.int (eqK (mkV p2) (mkV p0)))]) _
    refine XS.ifNo X14.here hx rfl (hb hby at_191) rfl ((if0 _ _).trans (feq hc2).1) ?_
    refine XS.iload X14.here hx rfl (hb hby at_194) rfl ?_
    refine XS.istore X14.here hx rfl (hb hby at_196) rfl (l' := #[.val (.int p0), .val (.int p1), .val (.int p2), .val (.int p3), .val (.int p4), .val (.int p5), .val (.ref b1_0), .val (.ref b2_0), .val (.ref b3_0), .val (.int (p3 &&& (3 : Int32))), .val (.ref b4), .val (.int (1 : Int32)), .val (.int r10), .val (.int r11), .val (.int p4), .val (.int r13), .val (.int p4), .unset]) rfl ?_
    refine XS.goto X14.here hx rfl (pc0 := 198) (pc' := 223) rfl (hb hby at_198) (by decide) (by decide) ?_
    refine XS.iload X14.here hx rfl (hb hby at_223) rfl ?_
    refine XS.ifNo X14.here hx rfl (hb hby at_225) rfl ((if0 _ _).trans (feq (by decide : ¬ ((1 : Int32) = (0 : Int32)))).1) ?_
    refine XS.iload X14.here hx rfl (hb hby at_228) rfl ?_
    show Sp p e below T14 (mkF m 230 #[.val (.int p0), .val (.int p1), .val (.int p2), .val (.int p3), .val (.int p4), .val (.int p5), .val (.ref b1_0), .val (.ref b2_0), .val (.ref b3_0), .val (.int (p3 &&& (3 : Int32))), .val (.ref b4), .val (.int (1 : Int32)), .val (.int r10), .val (.int r11), .val (.int p4), .val (.int r13), .val (.int p4), .unset] [(.int r13)]) _
    refine XS.iload X14.here hx rfl (hb hby at_230) rfl ?_
    refine XS.icmpNo X14.here hx rfl (hb hby at_232) rfl (teq (he1 (by rw [hκ2, hκ0]; exact own_ek1 hc2))).2 ?_
    refine XS.iconst X14.here hx rfl (hb hby at_235) ?_
    refine XS.goto X14.here hx rfl (pc0 := 236) (pc' := 240) rfl (hb hby at_236) (by decide) (by decide) ?_
    refine XS.istore X14.here hx rfl (hb hby at_240) rfl (l' := #[.val (.int p0), .val (.int p1), .val (.int p2), .val (.int p3), .val (.int p4), .val (.int p5), .val (.ref b1_0), .val (.ref b2_0), .val (.ref b3_0), .val (.int (p3 &&& (3 : Int32))), .val (.ref b4), .val (.int (1 : Int32)), .val (.int r10), .val (.int r11), .val (.int p4), .val (.int r13), .val (.int p4), .unset]) rfl ?_
    refine XS.aload X14.here hx rfl (hb hby at_242) rfl rfl ?_
    refine XS.aload X14.here hx rfl (hb hby at_244) rfl rfl ?_
    show Sp p e below T14 (mkF m 246 #[.val (.int p0), .val (.int p1), .val (.int p2), .val (.int p3), .val (.int p4), .val (.int p5), .val (.ref b1_0), .val (.ref b2_0), .val (.ref b3_0), .val (.int (p3 &&& (3 : Int32))), .val (.ref b4), .val (.int (1 : Int32)), .val (.int r10), .val (.int r11), .val (.int p4), .val (.int r13), .val (.int p4), .unset] [(.ref b1_0), (.ref b4)]) _
    refine XS.iload X14.here hx rfl (hb hby at_246) rfl ?_
    refine XS.iconst X14.here hx rfl (hb hby at_248) ?_
    refine XS.iadd X14.here hx rfl (hb hby at_249) rfl ?_
    show Sp p e below T14 (mkF m 250 #[.val (.int p0), .val (.int p1), .val (.int p2), .val (.int p3), .val (.int p4), .val (.int p5), .val (.ref b1_0), .val (.ref b2_0), .val (.ref b3_0), .val (.int (p3 &&& (3 : Int32))), .val (.ref b4), .val (.int (1 : Int32)), .val (.int r10), .val (.int r11), .val (.int p4), .val (.int r13), .val (.int p4), .unset] [(.int (p4 + (3 : Int32))), (.ref b1_0), (.ref b4)]) _
    refine st15.trans ?_
    show Sp p e below T15 (mkF m 253 #[.val (.int p0), .val (.int p1), .val (.int p2), .val (.int p3), .val (.int p4), .val (.int p5), .val (.ref b1_0), .val (.ref b2_0), .val (.ref b3_0), .val (.int (p3 &&& (3 : Int32))), .val (.ref b4), .val (.int (1 : Int32)), .val (.int r10), .val (.int r11), .val (.int p4), .val (.int r13), .val (.int p4), .unset] [(.int r15)]) _
    refine XS.istore X15.here hx rfl (hb hby at_253) rfl (l' := #[.val (.int p0), .val (.int p1), .val (.int p2), .val (.int p3), .val (.int p4), .val (.int p5), .val (.ref b1_0), .val (.ref b2_0), .val (.ref b3_0), .val (.int (p3 &&& (3 : Int32))), .val (.ref b4), .val (.int (1 : Int32)), .val (.int r10), .val (.int r11), .val (.int p4), .val (.int r13), .val (.int p4), .val (.int r15)]) rfl ?_
    refine XS.iload X15.here hx rfl (hb hby at_255) rfl ?_
    refine XS.ifNo X15.here hx rfl (hb hby at_257) rfl ((if0 _ _).trans (feq (by decide : ¬ ((1 : Int32) = (0 : Int32)))).1) ?_
    refine XS.iload X15.here hx rfl (hb hby at_260) rfl ?_
    refine XS.iload X15.here hx rfl (hb hby at_262) rfl ?_
    refine XS.icmpNo X15.here hx rfl (hb hby at_264) rfl (teq hd4).2 ?_
    refine XS.iconst X15.here hx rfl (hb hby at_267) ?_
    show Sp p e below T15 (mkF m 268 #[.val (.int p0), .val (.int p1), .val (.int p2), .val (.int p3), .val (.int p4), .val (.int p5), .val (.ref b1_0), .val (.ref b2_0), .val (.ref b3_0), .val (.int (p3 &&& (3 : Int32))), .val (.ref b4), .val (.int (1 : Int32)), .val (.int r10), .val (.int r11), .val (.int p4), .val (.int r13), .val (.int p4), .val (.int r15)] [(.int (1 : Int32))]) _
    refine XS.goto X15.here hx rfl (pc0 := 268) (pc' := 272) rfl (hb hby at_268) (by decide) (by decide) ?_
    refine XS.istore X15.here hx rfl (hb hby at_272) rfl (l' := #[.val (.int p0), .val (.int p1), .val (.int p2), .val (.int p3), .val (.int p4), .val (.int p5), .val (.ref b1_0), .val (.ref b2_0), .val (.ref b3_0), .val (.int (p3 &&& (3 : Int32))), .val (.ref b4), .val (.int (1 : Int32)), .val (.int r10), .val (.int r11), .val (.int p4), .val (.int r13), .val (.int p4), .val (.int r15)]) rfl ?_
    refine XS.iload X15.here hx rfl (hb hby at_274) rfl ?_
    show Sp p e below T15 (mkF m 276 #[.val (.int p0), .val (.int p1), .val (.int p2), .val (.int p3), .val (.int p4), .val (.int p5), .val (.ref b1_0), .val (.ref b2_0), .val (.ref b3_0), .val (.int (p3 &&& (3 : Int32))), .val (.ref b4), .val (.int (1 : Int32)), .val (.int r10), .val (.int r11), .val (.int p4), .val (.int r13), .val (.int p4), .val (.int r15)] [(.int (1 : Int32))]) _
    exact retN X15 hx (t := .boolean) Bd.returns (by simp) (hb hby at_276) hr
  · skip
    exact ⟨rfl, N15⟩
theorem rm47 (l : Launch) (Z : State) (a0 : Array Value) (hw : ∀ d ∈ tables_1, d.before a0 Z = true) (ws : List Jvm.Cond) (cs_v : Int32) (hp : Perm Z cs_v) (p0 : Int32) (p1 : Int32) (p2 : Int32) (p3 : Int32) (p4 : Int32) (p5 : Int32) (h0 : Heap) (n0 : Nat) (O0 : Old Z n0 h0) (hc1 : (eqK (mkV p1) (mkV p0)) = (0 : Int32)) (hc2 : ¬ ((eqK (mkV p2) (mkV p0)) = (0 : Int32))) :
    MetFree l x (head1 (Jvm.Cond.code x code maxLocals ret :: ws) room_1) (fun a U => a = #[(.int p0), (.int p1), (.int p2), (.int p3), (.int p4), (.int p5)] ∧ Z.Warmed39 U.vm ∧ U.heap = h0) (fun _ _ _ _ _ => True) (fun _ U o U' => ∃ v L, o = .returned v ∧ (v = some (.int (1 : Int32)) ∧ Fr n0 L) ∧ FrameEnd U o U' L 40 384) := by
  refine MetFree.of_bodySF (plainFor_of_name pn_1) hisR ?_
  intro p e s m args below meth c s₁ Bd hml0 hP hK
  obtain ⟨rfl, hZ, hh⟩ := hP
  have hx := Bd.exec
  have hby := Bd.bytes
  have hml : c.maxLocals = 18 := hml0
  have hown : s.vm.findClass "com/example/byteloom/byteloom/StringNumbersClearPinLaw" = some m.cls := findClass_of_methodNamed Bd.named
  have hnm := (name_of_methodNamed Bd.named Bd.method).1
  have X0 : Stand p l e room_1 s m #[(.int p0), (.int p1), (.int p2), (.int p3), (.int p4), (.int p5)] below meth c s₁ [] 0 0 := Stand.of_body Bd
  have e0 : s₁.heap = h0 := by rw [← hh, Bd.state]; rfl
  have N0 := Fr.nil n0
  obtain ⟨_, _, ⟨T1, L1, k1, n1⟩, -, X1, ⟨Lc1, hQ1, l1, y1, z1⟩, st1⟩ := Jvm.LawKit.callS X0 hx (y := y4) hown (mvT hZ (wq hw 0 rfl)) (mvT hZ (wq hw 1 rfl)) (mvT hZ (wq hw 2 rfl)) (mvT hZ (wq hw 3 rfl)) (by decide) (backOf (W := 0) (rmMK l Z a0 hw [] cs_v hp p0 h0 n0 O0) hZ (wq hw 3 rfl) (wq hw 2 rfl) (by decide) (by decide)) (g := (mkF m 1 #[.val (.int p0), .val (.int p1), .val (.int p2), .val (.int p3), .val (.int p4), .val (.int p5), .unset, .unset, .unset, .unset, .unset, .unset, .unset, .unset, .unset, .unset, .unset, .unset] [(.int p0)])) rfl (by rw [hml]; rfl) (argsL := [(.int p0)]) (rest := []) (lenOf pd_16 rfl) rfl (by show 2 * 0 + _ ≤ _; exact Nat.le_of_eq rfl) (hb hby at_1) (fun _ _ => ⟨rfl, e0, (by decide : 0 + 3 ≤ _), (by decide : 0 + 8 ≤ _)⟩)
  dsimp only [Pt.U, Pt.locs, Pt.cells, Pt.slots] at X1 l1 y1 z1 st1 hQ1
  subst l1 y1 z1
  obtain ⟨b1_0, rfl, Nq1, Kq1, sq_b1_0, fq1_0, fq1_1⟩ := hQ1
  have N1 := Fr.app N0 Nq1
  have g_b1_0 : n0 ≤ b1_0 := Nat.le_trans (own_sz O0) sq_b1_0
  have O1 := O0.keep Kq1 all0
  obtain ⟨_, _, ⟨T2, L2, k2, n2⟩, -, X2, ⟨Lc2, hQ2, l2, y2, z2⟩, st2⟩ := Jvm.LawKit.callS X1 hx (y := y4) hown (mvT hZ (wq hw 0 rfl)) (mvT hZ (wq hw 1 rfl)) (mvT hZ (wq hw 2 rfl)) (mvT hZ (wq hw 3 rfl)) (by decide) (backOf (W := 0) (rmMK l Z a0 hw [] cs_v hp p1 T1.heap n0 O1) hZ (wq hw 3 rfl) (wq hw 2 rfl) (by decide) (by decide)) (g := (mkF m 7 #[.val (.int p0), .val (.int p1), .val (.int p2), .val (.int p3), .val (.int p4), .val (.int p5), .val (.ref b1_0), .unset, .unset, .unset, .unset, .unset, .unset, .unset, .unset, .unset, .unset, .unset] [(.int p1)])) rfl (by rw [hml]; rfl) (argsL := [(.int p1)]) (rest := []) (lenOf pd_16 rfl) rfl (by show 2 * 0 + _ ≤ _; exact Nat.le_of_eq rfl) (hb hby at_7) (fun _ _ => ⟨rfl, rfl, (by decide : 3 + 3 ≤ _), (by decide : 8 + 8 ≤ _)⟩)
  dsimp only [Pt.U, Pt.locs, Pt.cells, Pt.slots] at X2 l2 y2 z2 st2 hQ2
  subst l2 y2 z2
  obtain ⟨b2_0, rfl, Nq2, Kq2, sq_b2_0, fq2_0, fq2_1⟩ := hQ2
  have N2 := Fr.app N1 Nq2
  have g_b2_0 : n0 ≤ b2_0 := Nat.le_trans (own_sz O1) sq_b2_0
  have O2 := O1.keep Kq2 all0
  obtain ⟨_, _, ⟨T3, L3, k3, n3⟩, -, X3, ⟨Lc3, hQ3, l3, y3, z3⟩, st3⟩ := Jvm.LawKit.callS X2 hx (y := y4) hown (mvT hZ (wq hw 0 rfl)) (mvT hZ (wq hw 1 rfl)) (mvT hZ (wq hw 2 rfl)) (mvT hZ (wq hw 3 rfl)) (by decide) (backOf (W := 0) (rmMK l Z a0 hw [] cs_v hp p2 T2.heap n0 O2) hZ (wq hw 3 rfl) (wq hw 2 rfl) (by decide) (by decide)) (g := (mkF m 13 #[.val (.int p0), .val (.int p1), .val (.int p2), .val (.int p3), .val (.int p4), .val (.int p5), .val (.ref b1_0), .val (.ref b2_0), .unset, .unset, .unset, .unset, .unset, .unset, .unset, .unset, .unset, .unset] [(.int p2)])) rfl (by rw [hml]; rfl) (argsL := [(.int p2)]) (rest := []) (lenOf pd_16 rfl) rfl (by show 2 * 0 + _ ≤ _; exact Nat.le_of_eq rfl) (hb hby at_13) (fun _ _ => ⟨rfl, rfl, (by decide : 6 + 3 ≤ _), (by decide : 16 + 8 ≤ _)⟩)
  dsimp only [Pt.U, Pt.locs, Pt.cells, Pt.slots] at X3 l3 y3 z3 st3 hQ3
  subst l3 y3 z3
  obtain ⟨b3_0, rfl, Nq3, Kq3, sq_b3_0, fq3_0, fq3_1⟩ := hQ3
  have N3 := Fr.app N2 Nq3
  have g_b3_0 : n0 ≤ b3_0 := Nat.le_trans (own_sz O2) sq_b3_0
  have O3 := O2.keep Kq3 all0
  obtain ⟨T4, h4, X4, e4, E4, A4, D4, -, st4⟩ := newO X3 hx hZ hown (wq hw 30 rfl) (wq hw 31 rfl) (wq hw 32 rfl) rfl (g := (mkF m 23 #[.val (.int p0), .val (.int p1), .val (.int p2), .val (.int p3), .val (.int p4), .val (.int p5), .val (.ref b1_0), .val (.ref b2_0), .val (.ref b3_0), .val (.int (p3 &&& (3 : Int32))), .unset, .unset, .unset, .unset, .unset, .unset, .unset, .unset] [])) rfl (hb hby at_23) (by decide) (by decide)
  obtain ⟨b4, g4⟩ : ∃ z, z = T3.heap.size := ⟨_, rfl⟩
  rw [← g4] at A4 D4 st4
  have g_b4 : n0 ≤ b4 := Nat.le_trans (own_sz O3) (Nat.le_of_eq g4.symm)
  have O4 := O3.ext E4
  have F_strings_b4 : Fld Z h4 b4 "com/example/byteloom/byteloom/StringNumbers" "strings" "[Ljava/lang/String;" .null := D4 (Or.inr (wq hw 40 rfl)) (ty := (.array (.object "java/lang/String"))) (by decide)
  have F_hashes_b4 : Fld Z h4 b4 "com/example/byteloom/byteloom/StringNumbers" "hashes" "[I" .null := D4 (Or.inr (wq hw 43 rfl)) (ty := (.array .int)) (by decide)
  have F_numbers_b4 : Fld Z h4 b4 "com/example/byteloom/byteloom/StringNumbers" "numbers" "[I" .null := D4 (Or.inr (wq hw 45 rfl)) (ty := (.array .int)) (by decide)
  have F_taken_b4 : Fld Z h4 b4 "com/example/byteloom/byteloom/StringNumbers" "taken" "[I" .null := D4 (Or.inr (wq hw 47 rfl)) (ty := (.array .int)) (by decide)
  have F_listed_b4 : Fld Z h4 b4 "com/example/byteloom/byteloom/StringNumbers" "listed" "I" (.int (0 : Int32)) := D4 (Or.inl (wq hw 71 rfl)) (ty := .int) (by decide)
  have F_hashed_b4 : Fld Z h4 b4 "com/example/byteloom/byteloom/StringNumbers" "hashed" "Ljava/util/Map;" .null := D4 (Or.inl (wq hw 78 rfl)) (ty := (.object "java/util/Map")) (by decide)
  obtain ⟨_, _, ⟨T5, L5, k5, n5⟩, -, X5, ⟨Lc5, hQ5, l5, y5, z5⟩, st5⟩ := X4.specialBack hx (y := y19) rfl hown (mvT hZ (wq hw 33 rfl)) (mvT hZ (wq hw 34 rfl)) (mvT hZ (wq hw 35 rfl)) (by decide) (backOf (W := 1) (rm43 l Z a0 hw [] cs_v hp b4 h4 n0 O4 A4 F_strings_b4 F_hashes_b4 F_numbers_b4 F_taken_b4 F_listed_b4 F_hashed_b4 g_b4) hZ (wq hw 35 rfl) (wq hw 32 rfl) (by decide) (by decide)) (g := (mkF m 27 #[.val (.int p0), .val (.int p1), .val (.int p2), .val (.int p3), .val (.int p4), .val (.int p5), .val (.ref b1_0), .val (.ref b2_0), .val (.ref b3_0), .val (.int (p3 &&& (3 : Int32))), .unset, .unset, .unset, .unset, .unset, .unset, .unset, .unset] [(.ref b4), (.ref b4)])) rfl (by rw [hml]; rfl) (Steps.refl _) (a := b4) (argsL := []) (rest := [(.ref b4)]) (lenOf pd_17 rfl) rfl (by show 2 * 0 + _ ≤ _; exact Nat.le_of_eq rfl) (hb hby at_27) (fun _ _ => ⟨rfl, e4, (by decide : 10 + 4 ≤ _), (by decide : 30 + 112 ≤ _)⟩)
  dsimp only [Pt.U, Pt.locs, Pt.cells, Pt.slots] at X5 l5 y5 z5 st5 hQ5
  subst l5 y5 z5
  obtain ⟨b5_0, b5_1, b5_2, b5_3, kc5_0, kc5_1, kc5_2, kc5_3, rfl, Nq5, Kq5, sq_b5_0, sq_b5_1, sq_b5_2, sq_b5_3, nq5_0, nq5_1, nq5_2, nq5_3, nq5_4, nq5_5, fq5_0, fq5_1, fq5_2, fq5_3, fq5_4, fq5_5, fq5_6, fq5_7, fq5_8, fq5_9, fq5_10, fq5_11, fq5_12, fq5_13, fq5_14, fq5_15⟩ := hQ5
  have N5 := Fr.app N3 Nq5
  have g_b5_0 : n0 ≤ b5_0 := Nat.le_trans (own_sz O4) sq_b5_0
  have g_b5_1 : n0 ≤ b5_1 := Nat.le_trans (own_sz O4) sq_b5_1
  have g_b5_2 : n0 ≤ b5_2 := Nat.le_trans (own_sz O4) sq_b5_2
  have g_b5_3 : n0 ≤ b5_3 := Nat.le_trans (own_sz O4) sq_b5_3
  have O5 := O4.keep Kq5 (allS g_b4 all0)
  obtain ⟨κ, hκ0, hκ1, hκ2⟩ := own_kap (mkV p0) (mkV p1) (mkV p2) (Nat.ne_of_lt (Nat.lt_of_lt_of_le fq1_0.lt sq_b2_0)) (Nat.ne_of_lt (Nat.lt_of_lt_of_le (fq1_0.keep Kq2).lt sq_b3_0)) (Nat.ne_of_lt (Nat.lt_of_lt_of_le fq2_0.lt sq_b3_0))
  have f_6 := ((((fq1_1.keep Kq2 all0).keep Kq3 all0).ext E4).keep Kq5 (allS ⟨(((fq1_1.keep Kq2 all0).keep Kq3 all0).ext E4).exa.ne A4 (by decide), fun y hy => hy.ne A4 (by decide)⟩ all0))
  have Kw0 : StrK Z T5.heap b1_0 (κ b1_0) := by rw [hκ0]; exact f_6
  have f_7 := (((fq2_1.keep Kq3 all0).ext E4).keep Kq5 (allS ⟨((fq2_1.keep Kq3 all0).ext E4).exa.ne A4 (by decide), fun y hy => hy.ne A4 (by decide)⟩ all0))
  have Kw1 : StrK Z T5.heap b2_0 (κ b2_0) := by rw [hκ1]; exact f_7
  have f_8 := ((fq3_1.ext E4).keep Kq5 (allS ⟨(fq3_1.ext E4).exa.ne A4 (by decide), fun y hy => hy.ne A4 (by decide)⟩ all0))
  have Kw2 : StrK Z T5.heap b3_0 (κ b3_0) := by rw [hκ2]; exact f_8
  have Wd0 : Wd Z κ T5.heap n0 b4 (fun _ => none) [] := ⟨b5_0, b5_1, b5_2, b5_3, _, _, _, _, _, _, _, _, fq5_0, fq5_5, fq5_2, fq5_4, fq5_6, fq5_3, fq5_1, fq5_7, fq5_10, fq5_12, fq5_14, nq5_3, nq5_4, nq5_5, g_b4, g_b5_0, g_b5_1, g_b5_2, g_b5_3, Arf.of fq5_8 rfl, fq5_9, Arf.of fq5_11 rfl, Arf.of fq5_13 rfl, Arf.of fq5_15 rfl, TabOk.empty (fun _ _ => rfl), fun _ _ _ q => nomatch q⟩
  obtain ⟨T9, L9, X9, N9, O9, Et9, W9, AK9, st9⟩ := own_pre l Z a0 hw cs_v hp p0 p1 p2 p3 p4 p5 b1_0 b2_0 b3_0 (p3 &&& (3 : Int32)) b4 κ T5.heap n0 O5 fq5_0 g_b1_0 g_b2_0 g_b3_0 Kw0 Kw1 Kw2 Wd0 X5 hx hZ hby hml hown rfl N5
  have K0_9 := AK9 b1_0 Kw0
  have K1_9 := AK9 b2_0 Kw1
  have K2_9 := AK9 b3_0 Kw2
  obtain ⟨cq10, kq10, q10a, q10b, q10c⟩ := isOf hZ rfl Et9
  obtain ⟨_, _, ⟨T10, L10, k10, n10⟩, -, X10, ⟨Lc10, hQ10, l10, y10, z10⟩, st10⟩ := X9.virtualBack hx (y := y17) (z := y17) hown (mvT hZ (wq hw 48 rfl)) (mvT hZ (wq hw 49 rfl)) (notFace_of_selects (args := #[]) (mvT hZ (wq hw 51 rfl))) (mvT hZ (wq hw 51 rfl)) (mvT hZ (wq hw 50 rfl)) (by decide) (backOf (W := 0) (rmPUT l Z a0 hw [] cs_v hp κ b4 b1_0 p4 (fun _ => none) [] T9.heap n0 O9 g_b1_0 K0_9 W9 (Nat.le_trans (Nat.zero_le _ : ([] : List Int32).length ≤ 0) (by decide))) hZ (wq hw 52 rfl) (wq hw 32 rfl) (by decide) (by decide)) q10a q10c (g := (mkF m 98 #[.val (.int p0), .val (.int p1), .val (.int p2), .val (.int p3), .val (.int p4), .val (.int p5), .val (.ref b1_0), .val (.ref b2_0), .val (.ref b3_0), .val (.int (p3 &&& (3 : Int32))), .val (.ref b4), .val (.int (1 : Int32)), .unset, .unset, .unset, .unset, .unset, .unset] [(.int p4), (.ref b1_0), (.ref b4)])) rfl (by rw [hml]; rfl) (Steps.refl _) (argsL := [(.ref b1_0), (.int p4)]) (rest := []) (lenOf pd_18 rfl) rfl (by show 2 * 0 + _ ≤ _; exact Nat.le_of_eq rfl) (hb hby at_98) (fun _ _ => ⟨rfl, rfl, (by decide : 14 + 0 ≤ _), (by decide : 142 + 0 ≤ _)⟩)
  dsimp only [Pt.U, Pt.locs, Pt.cells, Pt.slots] at X10 l10 y10 z10 st10 hQ10
  subst l10 y10 z10
  obtain ⟨r10, Tb10, us10, wl10, rfl, Nq10, Kq10, gq10, P10, W10, hu10, AK10⟩ := hQ10
  have N10 := Fr.app N9 Nq10
  have O10 := O9.keep Kq10 gq10
  have K0_10 := AK10 b1_0 K0_9
  have K1_10 := AK10 b2_0 K1_9
  have K2_10 := AK10 b3_0 K2_9
  have hv10 : us10.length ≤ 1 := by have q := (Nat.zero_le _ : ([] : List Int32).length ≤ 0); omega
  obtain ⟨ha, hF1, hA1⟩ := put1 (fun _ => rfl) P10
  obtain ⟨cq11, kq11, q11a, q11b, q11c⟩ := isOf hZ rfl (Et9.keep Kq10)
  obtain ⟨_, _, ⟨T11, L11, k11, n11⟩, -, X11, ⟨Lc11, hQ11, l11, y11, z11⟩, st11⟩ := X10.virtualBack hx (y := y17) (z := y17) hown (mvT hZ (wq hw 48 rfl)) (mvT hZ (wq hw 49 rfl)) (notFace_of_selects (args := #[]) (mvT hZ (wq hw 51 rfl))) (mvT hZ (wq hw 51 rfl)) (mvT hZ (wq hw 50 rfl)) (by decide) (backOf (W := 0) (rmPUT l Z a0 hw [] cs_v hp κ b4 b2_0 (p4 + (1 : Int32)) Tb10 us10 T10.heap n0 O10 g_b2_0 K1_10 W10 (Nat.le_trans hv10 (by decide))) hZ (wq hw 52 rfl) (wq hw 32 rfl) (by decide) (by decide)) q11a q11c (g := (mkF m 129 #[.val (.int p0), .val (.int p1), .val (.int p2), .val (.int p3), .val (.int p4), .val (.int p5), .val (.ref b1_0), .val (.ref b2_0), .val (.ref b3_0), .val (.int (p3 &&& (3 : Int32))), .val (.ref b4), .val (.int (1 : Int32)), .val (.int r10), .unset, .unset, .unset, .unset, .unset] [(.int (p4 + (1 : Int32))), (.ref b2_0), (.ref b4)])) rfl (by rw [hml]; rfl) (Steps.refl _) (argsL := [(.ref b2_0), (.int (p4 + (1 : Int32)))]) (rest := []) (lenOf pd_18 rfl) rfl (by show 2 * 0 + _ ≤ _; exact Nat.le_of_eq rfl) (hb hby at_129) (fun _ _ => ⟨rfl, rfl, (by decide : 14 + 0 ≤ _), (by decide : 142 + 0 ≤ _)⟩)
  dsimp only [Pt.U, Pt.locs, Pt.cells, Pt.slots] at X11 l11 y11 z11 st11 hQ11
  subst l11 y11 z11
  obtain ⟨r11, Tb11, us11, wl11, rfl, Nq11, Kq11, gq11, P11, W11, hu11, AK11⟩ := hQ11
  have N11 := Fr.app N10 Nq11
  have O11 := O10.keep Kq11 gq11
  have K0_11 := AK11 b1_0 K0_10
  have M0_11 : StrK Z T11.heap b1_0 (mkV p0) := by rw [← hκ0]; exact K0_11
  have K1_11 := AK11 b2_0 K1_10
  have M1_11 : StrK Z T11.heap b2_0 (mkV p1) := by rw [← hκ1]; exact K1_11
  have K2_11 := AK11 b3_0 K2_10
  have hv11 : us11.length ≤ 2 := by have q := hv10; omega
  obtain ⟨hb1, hb2, hF2, hA2⟩ := put2 hF1 hA1 P11
  obtain ⟨cq12, kq12, q12a, q12b, q12c⟩ := isOf hZ rfl ((K1_9.exa.keep Kq10).keep Kq11)
  obtain ⟨_, _, ⟨T12, L12, k12, n12⟩, -, X12, ⟨Lc12, hQ12, l12, y12, z12⟩, st12⟩ := X11.virtualBack hx (y := y16) (z := y16) hown (mvT hZ (wq hw 79 rfl)) (mvT hZ (wq hw 80 rfl)) (notFace_of_selects (args := #[]) (mvT hZ (wq hw 82 rfl))) (mvT hZ (wq hw 82 rfl)) (mvT hZ (wq hw 81 rfl)) (by decide) (backOf (W := 0) (rmEQ l Z a0 hw [] cs_v hp b2_0 b1_0 (mkV p1) (mkV p0) T11.heap n0 O11 (Ne.symm (Nat.ne_of_lt (Nat.lt_of_lt_of_le fq1_0.lt sq_b2_0))) M1_11 M0_11) hZ (wq hw 83 rfl) (wq hw 6 rfl) (by decide) (by decide)) q12a q12c (g := (mkF m 138 #[.val (.int p0), .val (.int p1), .val (.int p2), .val (.int p3), .val (.int p4), .val (.int p5), .val (.ref b1_0), .val (.ref b2_0), .val (.ref b3_0), .val (.int (p3 &&& (3 : Int32))), .val (.ref b4), .val (.int (1 : Int32)), .val (.int r10), .val (.int r11), .unset, .unset, .unset, .unset] [(.ref b1_0), (.ref b2_0)])) rfl (by rw [hml]; rfl) (Steps.refl _) (argsL := [(.ref b1_0)]) (rest := []) (lenOf pd_14 rfl) rfl (by show 2 * 0 + _ ≤ _; exact Nat.le_of_eq rfl) (hb hby at_138) (fun _ _ => ⟨rfl, rfl, (by decide : 14 + 0 ≤ _), (by decide : 142 + 0 ≤ _)⟩)
  dsimp only [Pt.U, Pt.locs, Pt.cells, Pt.slots] at X12 l12 y12 z12 st12 hQ12
  subst l12 y12 z12
  obtain ⟨rfl, Nq12, eq12⟩ := hQ12
  have N12 := Fr.app N11 Nq12
  obtain ⟨cq13, kq13, q13a, q13b, q13c⟩ := isOf hZ eq12 ((Et9.keep Kq10).keep Kq11)
  obtain ⟨_, _, ⟨T13, L13, k13, n13⟩, -, X13, ⟨Lc13, hQ13, l13, y13, z13⟩, st13⟩ := X12.virtualBack hx (y := y17) (z := y17) hown (mvT hZ (wq hw 48 rfl)) (mvT hZ (wq hw 49 rfl)) (notFace_of_selects (args := #[]) (mvT hZ (wq hw 51 rfl))) (mvT hZ (wq hw 51 rfl)) (mvT hZ (wq hw 50 rfl)) (by decide) (backOf (W := 0) (rmPUT l Z a0 hw [] cs_v hp κ b4 b3_0 (p4 + (2 : Int32)) Tb11 us11 T11.heap n0 O11 g_b3_0 K2_11 W11 (Nat.le_trans hv11 (by decide))) hZ (wq hw 52 rfl) (wq hw 32 rfl) (by decide) (by decide)) q13a q13c (g := (mkF m 179 #[.val (.int p0), .val (.int p1), .val (.int p2), .val (.int p3), .val (.int p4), .val (.int p5), .val (.ref b1_0), .val (.ref b2_0), .val (.ref b3_0), .val (.int (p3 &&& (3 : Int32))), .val (.ref b4), .val (.int (1 : Int32)), .val (.int r10), .val (.int r11), .val (.int (-1 : Int32)), .unset, .unset, .unset] [(.int (p4 + (2 : Int32))), (.ref b3_0), (.ref b4)])) rfl (by rw [hml]; rfl) (Steps.refl _) (argsL := [(.ref b3_0), (.int (p4 + (2 : Int32)))]) (rest := []) (lenOf pd_18 rfl) rfl (by show 2 * 0 + _ ≤ _; exact Nat.le_of_eq rfl) (hb hby at_179) (fun _ _ => ⟨rfl, eq12, (by decide : 14 + 0 ≤ _), (by decide : 142 + 0 ≤ _)⟩)
  dsimp only [Pt.U, Pt.locs, Pt.cells, Pt.slots] at X13 l13 y13 z13 st13 hQ13
  subst l13 y13 z13
  obtain ⟨r13, Tb13, us13, wl13, rfl, Nq13, Kq13, gq13, P13, W13, hu13, AK13⟩ := hQ13
  have N13 := Fr.app N12 Nq13
  have O13 := O11.keep Kq13 gq13
  have K0_13 := AK13 b1_0 K0_11
  have M0_13 : StrK Z T13.heap b1_0 (mkV p0) := by rw [← hκ0]; exact K0_13
  have K2_13 := AK13 b3_0 K2_11
  have M2_13 : StrK Z T13.heap b3_0 (mkV p2) := by rw [← hκ2]; exact K2_13
  have hv13 : us13.length ≤ 3 := by have q := hv11; omega
  obtain ⟨he1, he2, he3, hF3⟩ := put3 hF2 (fun h => (hb2 h).2) hA2 P13
  obtain ⟨cq14, kq14, q14a, q14b, q14c⟩ := isOf hZ rfl (((K2_9.exa.keep Kq10).keep Kq11).keep Kq13)
  obtain ⟨_, _, ⟨T14, L14, k14, n14⟩, -, X14, ⟨Lc14, hQ14, l14, y14, z14⟩, st14⟩ := X13.virtualBack hx (y := y16) (z := y16) hown (mvT hZ (wq hw 79 rfl)) (mvT hZ (wq hw 80 rfl)) (notFace_of_selects (args := #[]) (mvT hZ (wq hw 82 rfl))) (mvT hZ (wq hw 82 rfl)) (mvT hZ (wq hw 81 rfl)) (by decide) (backOf (W := 0) (rmEQ l Z a0 hw [] cs_v hp b3_0 b1_0 (mkV p2) (mkV p0) T13.heap n0 O13 (Ne.symm (Nat.ne_of_lt (Nat.lt_of_lt_of_le (fq1_0.keep Kq2).lt sq_b3_0))) M2_13 M0_13) hZ (wq hw 83 rfl) (wq hw 6 rfl) (by decide) (by decide)) q14a q14c (g := (mkF m 188 #[.val (.int p0), .val (.int p1), .val (.int p2), .val (.int p3), .val (.int p4), .val (.int p5), .val (.ref b1_0), .val (.ref b2_0), .val (.ref b3_0), .val (.int (p3 &&& (3 : Int32))), .val (.ref b4), .val (.int (1 : Int32)), .val (.int r10), .val (.int r11), .val (.int (-1 : Int32)), .val (.int r13), .unset, .unset] [(.ref b1_0), (.ref b3_0)])) rfl (by rw [hml]; rfl) (Steps.refl _) (argsL := [(.ref b1_0)]) (rest := []) (lenOf pd_14 rfl) rfl (by show 2 * 0 + _ ≤ _; exact Nat.le_of_eq rfl) (hb hby at_188) (fun _ _ => ⟨rfl, rfl, (by decide : 14 + 0 ≤ _), (by decide : 142 + 0 ≤ _)⟩)
  dsimp only [Pt.U, Pt.locs, Pt.cells, Pt.slots] at X14 l14 y14 z14 st14 hQ14
  subst l14 y14 z14
  obtain ⟨rfl, Nq14, eq14⟩ := hQ14
  have N14 := Fr.app N13 Nq14
  obtain ⟨cq15, kq15, q15a, q15b, q15c⟩ := isOf hZ eq14 (((Et9.keep Kq10).keep Kq11).keep Kq13)
  obtain ⟨_, _, ⟨T15, L15, k15, n15⟩, -, X15, ⟨Lc15, hQ15, l15, y15, z15⟩, st15⟩ := X14.virtualBack hx (y := y17) (z := y17) hown (mvT hZ (wq hw 48 rfl)) (mvT hZ (wq hw 49 rfl)) (notFace_of_selects (args := #[]) (mvT hZ (wq hw 51 rfl))) (mvT hZ (wq hw 51 rfl)) (mvT hZ (wq hw 50 rfl)) (by decide) (backOf (W := 0) (rmPUT l Z a0 hw [] cs_v hp κ b4 b1_0 (p4 + (3 : Int32)) Tb13 us13 T13.heap n0 O13 g_b1_0 K0_13 W13 (Nat.le_trans hv13 (by decide))) hZ (wq hw 52 rfl) (wq hw 32 rfl) (by decide) (by decide)) q15a q15c (g := (mkF m 250 #[.val (.int p0), .val (.int p1), .val (.int p2), .val (.int p3), .val (.int p4), .val (.int p5), .val (.ref b1_0), .val (.ref b2_0), .val (.ref b3_0), .val (.int (p3 &&& (3 : Int32))), .val (.ref b4), .val (.int (1 : Int32)), .val (.int r10), .val (.int r11), .val (.int (-1 : Int32)), .val (.int r13), .val (.int p4), .unset] [(.int (p4 + (3 : Int32))), (.ref b1_0), (.ref b4)])) rfl (by rw [hml]; rfl) (Steps.refl _) (argsL := [(.ref b1_0), (.int (p4 + (3 : Int32)))]) (rest := []) (lenOf pd_18 rfl) rfl (by show 2 * 0 + _ ≤ _; exact Nat.le_of_eq rfl) (hb hby at_250) (fun _ _ => ⟨rfl, eq14, (by decide : 14 + 0 ≤ _), (by decide : 142 + 0 ≤ _)⟩)
  dsimp only [Pt.U, Pt.locs, Pt.cells, Pt.slots] at X15 l15 y15 z15 st15 hQ15
  subst l15 y15 z15
  obtain ⟨r15, Tb15, us15, wl15, rfl, Nq15, Kq15, gq15, P15, W15, hu15, AK15⟩ := hQ15
  have N15 := Fr.app N14 Nq15
  have hd4 := put4 hF3 P15
  obtain ⟨fs, hr, hrun, hended, hW, hsame⟩ := X15.leave (v := some (.int (1 : Int32))) (fun h => by rw [Bd.returns] at h; cases h)
  refine ⟨_, _, castTop (ef_0_0 m p0 p1 p2 p3 p4 p5) ?_, hrun, hended, _, _, rfl, ?_, ⟨_, rfl⟩, hW, hsame.mono (by decide) (by decide)⟩
  · show Sp p e below s₁ (mkF m 0 #[.val (.int p0), .val (.int p1), .val (.int p2), .val (.int p3), .val (.int p4), .val (.int p5), .unset, .unset, .unset, .unset, .unset, .unset, .unset, .unset, .unset, .unset, .unset, .unset] []) _
    refine XS.iloadN X0.here hx rfl (hb hby at_0) rfl ?_
    show Sp p e below s₁ (mkF m 1 #[.val (.int p0), .val (.int p1), .val (.int p2), .val (.int p3), .val (.int p4), .val (.int p5), .unset, .unset, .unset, .unset, .unset, .unset, .unset, .unset, .unset, .unset, .unset, .unset] [(.int p0)]) _
    refine st1 _ ?_
    show Sp p e below T1 (mkF m 4 #[.val (.int p0), .val (.int p1), .val (.int p2), .val (.int p3), .val (.int p4), .val (.int p5), .unset, .unset, .unset, .unset, .unset, .unset, .unset, .unset, .unset, .unset, .unset, .unset] [(.ref b1_0)]) _
    refine XS.astore X1.here hx rfl (hb hby at_4) rfl rfl (l' := #[.val (.int p0), .val (.int p1), .val (.int p2), .val (.int p3), .val (.int p4), .val (.int p5), .val (.ref b1_0), .unset, .unset, .unset, .unset, .unset, .unset, .unset, .unset, .unset, .unset, .unset]) rfl ?_
    refine XS.iloadN X1.here hx rfl (hb hby at_6) rfl ?_
    show Sp p e below T1 (mkF m 7 #[.val (.int p0), .val (.int p1), .val (.int p2), .val (.int p3), .val (.int p4), .val (.int p5), .val (.ref b1_0), .unset, .unset, .unset, .unset, .unset, .unset, .unset, .unset, .unset, .unset, .unset] [(.int p1)]) _
    refine st2 _ ?_
    show Sp p e below T2 (mkF m 10 #[.val (.int p0), .val (.int p1), .val (.int p2), .val (.int p3), .val (.int p4), .val (.int p5), .val (.ref b1_0), .unset, .unset, .unset, .unset, .unset, .unset, .unset, .unset, .unset, .unset, .unset] [(.ref b2_0)]) _
    refine XS.astore X2.here hx rfl (hb hby at_10) rfl rfl (l' := #[.val (.int p0), .val (.int p1), .val (.int p2), .val (.int p3), .val (.int p4), .val (.int p5), .val (.ref b1_0), .val (.ref b2_0), .unset, .unset, .unset, .unset, .unset, .unset, .unset, .unset, .unset, .unset]) rfl ?_
    refine XS.iloadN X2.here hx rfl (hb hby at_12) rfl ?_
    show Sp p e below T2 (mkF m 13 #[.val (.int p0), .val (.int p1), .val (.int p2), .val (.int p3), .val (.int p4), .val (.int p5), .val (.ref b1_0), .val (.ref b2_0), .unset, .unset, .unset, .unset, .unset, .unset, .unset, .unset, .unset, .unset] [(.int p2)]) _
    refine st3 _ ?_
    show Sp p e below T3 (mkF m 16 #[.val (.int p0), .val (.int p1), .val (.int p2), .val (.int p3), .val (.int p4), .val (.int p5), .val (.ref b1_0), .val (.ref b2_0), .unset, .unset, .unset, .unset, .unset, .unset, .unset, .unset, .unset, .unset] [(.ref b3_0)]) _
    refine XS.astore X3.here hx rfl (hb hby at_16) rfl rfl (l' := #[.val (.int p0), .val (.int p1), .val (.int p2), .val (.int p3), .val (.int p4), .val (.int p5), .val (.ref b1_0), .val (.ref b2_0), .val (.ref b3_0), .unset, .unset, .unset, .unset, .unset, .unset, .unset, .unset, .unset]) rfl ?_
    refine XS.iloadN X3.here hx rfl (hb hby at_18) rfl ?_
    refine XS.iconst X3.here hx rfl (hb hby at_19) ?_
    refine XS.iand X3.here hx rfl (hb hby at_20) rfl ?_
    refine XS.istore X3.here hx rfl (hb hby at_21) rfl (l' := #[.val (.int p0), .val (.int p1), .val (.int p2), .val (.int p3), .val (.int p4), .val (.int p5), .val (.ref b1_0), .val (.ref b2_0), .val (.ref b3_0), .val (.int (p3 &&& (3 : Int32))), .unset, .unset, .unset, .unset, .unset, .unset, .unset, .unset]) rfl ?_
    show Sp p e below T3 (mkF m 23 #[.val (.int p0), .val (.int p1), .val (.int p2), .val (.int p3), .val (.int p4), .val (.int p5), .val (.ref b1_0), .val (.ref b2_0), .val (.ref b3_0), .val (.int (p3 &&& (3 : Int32))), .unset, .unset, .unset, .unset, .unset, .unset, .unset, .unset] []) _
    refine st4 _ ?_
    show Sp p e below T4 (mkF m 26 #[.val (.int p0), .val (.int p1), .val (.int p2), .val (.int p3), .val (.int p4), .val (.int p5), .val (.ref b1_0), .val (.ref b2_0), .val (.ref b3_0), .val (.int (p3 &&& (3 : Int32))), .unset, .unset, .unset, .unset, .unset, .unset, .unset, .unset] [(.ref b4)]) _
    refine XS.dup X4.here hx rfl (hb hby at_26) rfl rfl ?_
    show Sp p e below T4 (mkF m 27 #[.val (.int p0), .val (.int p1), .val (.int p2), .val (.int p3), .val (.int p4), .val (.int p5), .val (.ref b1_0), .val (.ref b2_0), .val (.ref b3_0), .val (.int (p3 &&& (3 : Int32))), .unset, .unset, .unset, .unset, .unset, .unset, .unset, .unset] [(.ref b4), (.ref b4)]) _
    refine st5.trans ?_
    show Sp p e below T5 (mkF m 30 #[.val (.int p0), .val (.int p1), .val (.int p2), .val (.int p3), .val (.int p4), .val (.int p5), .val (.ref b1_0), .val (.ref b2_0), .val (.ref b3_0), .val (.int (p3 &&& (3 : Int32))), .unset, .unset, .unset, .unset, .unset, .unset, .unset, .unset] [(.ref b4)]) _
    refine XS.astore X5.here hx rfl (hb hby at_30) rfl rfl (l' := #[.val (.int p0), .val (.int p1), .val (.int p2), .val (.int p3), .val (.int p4), .val (.int p5), .val (.ref b1_0), .val (.ref b2_0), .val (.ref b3_0), .val (.int (p3 &&& (3 : Int32))), .val (.ref b4), .unset, .unset, .unset, .unset, .unset, .unset, .unset]) rfl ?_
    refine st9 _ ?_
    show Sp p e below T9 (mkF m 92 #[.val (.int p0), .val (.int p1), .val (.int p2), .val (.int p3), .val (.int p4), .val (.int p5), .val (.ref b1_0), .val (.ref b2_0), .val (.ref b3_0), .val (.int (p3 &&& (3 : Int32))), .val (.ref b4), .val (.int (1 : Int32)), .unset, .unset, .unset, .unset, .unset, .unset] []) _
    refine XS.aload X9.here hx rfl (hb hby at_92) rfl rfl ?_
    refine XS.aload X9.here hx rfl (hb hby at_94) rfl rfl ?_
    refine XS.iload X9.here hx rfl (hb hby at_96) rfl ?_
    show Sp p e below T9 (mkF m 98 #[.val (.int p0), .val (.int p1), .val (.int p2), .val (.int p3), .val (.int p4), .val (.int p5), .val (.ref b1_0), .val (.ref b2_0), .val (.ref b3_0), .val (.int (p3 &&& (3 : Int32))), .val (.ref b4), .val (.int (1 : Int32)), .unset, .unset, .unset, .unset, .unset, .unset] [(.int p4), (.ref b1_0), (.ref b4)]) _
    refine st10.trans ?_
    show Sp p e below T10 (mkF m 101 #[.val (.int p0), .val (.int p1), .val (.int p2), .val (.int p3), .val (.int p4), .val (.int p5), .val (.ref b1_0), .val (.ref b2_0), .val (.ref b3_0), .val (.int (p3 &&& (3 : Int32))), .val (.ref b4), .val (.int (1 : Int32)), .unset, .unset, .unset, .unset, .unset, .unset] [(.int r10)]) _
    refine XS.istore X10.here hx rfl (hb hby at_101) rfl (l' := #[.val (.int p0), .val (.int p1), .val (.int p2), .val (.int p3), .val (.int p4), .val (.int p5), .val (.ref b1_0), .val (.ref b2_0), .val (.ref b3_0), .val (.int (p3 &&& (3 : Int32))), .val (.ref b4), .val (.int (1 : Int32)), .val (.int r10), .unset, .unset, .unset, .unset, .unset]) rfl ?_
    refine XS.iload X10.here hx rfl (hb hby at_103) rfl ?_
    refine XS.ifNo X10.here hx rfl (hb hby at_105) rfl ((if0 _ _).trans (feq (by decide : ¬ ((1 : Int32) = (0 : Int32)))).1) ?_
    refine XS.iload X10.here hx rfl (hb hby at_108) rfl ?_
    refine XS.iconst X10.here hx rfl (hb hby at_110) ?_
    refine XS.icmpNo X10.here hx rfl (hb hby at_111) rfl (teq ha).2 ?_
    refine XS.iconst X10.here hx rfl (hb hby at_114) ?_
    show Sp p e below T10 (mkF m 115 #[.val (.int p0), .val (.int p1), .val (.int p2), .val (.int p3), .val (.int p4), .val (.int p5), .val (.ref b1_0), .val (.ref b2_0), .val (.ref b3_0), .val (.int (p3 &&& (3 : Int32))), .val (.ref b4), .val (.int (1 : Int32)), .val (.int r10), .unset, .unset, .unset, .unset, .unset] [(.int (1 : Int32))]) _
    refine XS.goto X10.here hx rfl (pc0 := 115) (pc' := 119) rfl (hb hby at_115) (by decide) (by decide) ?_
    refine XS.istore X10.here hx rfl (hb hby at_119) rfl (l' := #[.val (.int p0), .val (.int p1), .val (.int p2), .val (.int p3), .val (.int p4), .val (.int p5), .val (.ref b1_0), .val (.ref b2_0), .val (.ref b3_0), .val (.int (p3 &&& (3 : Int32))), .val (.ref b4), .val (.int (1 : Int32)), .val (.int r10), .unset, .unset, .unset, .unset, .unset]) rfl ?_
    refine XS.aload X10.here hx rfl (hb hby at_121) rfl rfl ?_
    refine XS.aload X10.here hx rfl (hb hby at_123) rfl rfl ?_
    refine XS.iload X10.here hx rfl (hb hby at_125) rfl ?_
    refine XS.iconst X10.here hx rfl (hb hby at_127) ?_
    refine XS.iadd X10.here hx rfl (hb hby at_128) rfl ?_
    show Sp p e below T10 (mkF m 129 #[.val (.int p0), .val (.int p1), .val (.int p2), .val (.int p3), .val (.int p4), .val (.int p5), .val (.ref b1_0), .val (.ref b2_0), .val (.ref b3_0), .val (.int (p3 &&& (3 : Int32))), .val (.ref b4), .val (.int (1 : Int32)), .val (.int r10), .unset, .unset, .unset, .unset, .unset] [(.int (p4 + (1 : Int32))), (.ref b2_0), (.ref b4)]) _
    refine st11.trans ?_
    show Sp p e below T11 (mkF m 132 #[.val (.int p0), .val (.int p1), .val (.int p2), .val (.int p3), .val (.int p4), .val (.int p5), .val (.ref b1_0), .val (.ref b2_0), .val (.ref b3_0), .val (.int (p3 &&& (3 : Int32))), .val (.ref b4), .val (.int (1 : Int32)), .val (.int r10), .unset, .unset, .unset, .unset, .unset] [(.int r11)]) _
    refine XS.istore X11.here hx rfl (hb hby at_132) rfl (l' := #[.val (.int p0), .val (.int p1), .val (.int p2), .val (.int p3), .val (.int p4), .val (.int p5), .val (.ref b1_0), .val (.ref b2_0), .val (.ref b3_0), .val (.int (p3 &&& (3 : Int32))), .val (.ref b4), .val (.int (1 : Int32)), .val (.int r10), .val (.int r11), .unset, .unset, .unset, .unset]) rfl ?_
    refine XS.aload X11.here hx rfl (hb hby at_134) rfl rfl ?_
    refine XS.aload X11.here hx rfl (hb hby at_136) rfl rfl ?_
    show Sp p e below T11 (mkF m 138 #[.val (.int p0), .val (.int p1), .val (.int p2), .val (.int p3), .val (.int p4), .val (.int p5), .val (.ref b1_0), .val (.ref b2_0), .val (.ref b3_0), .val (.int (p3 &&& (3 : Int32))), .val (.ref b4), .val (.int (1 : Int32)), .val (.int r10), .val (.int r11), .unset, .unset, .unset, .unset] [(.ref b1_0), (.ref b2_0)]) _
    refine st12.trans ?_
    show Sp p e below T12 (mkF m 141 #[.val (.int p0), .val (.int p1), .val (.int p2), .val (.int p3), .val (.int p4), .val (.int p5), .val (.ref b1_0), .val (.ref b2_0), .val (.ref b3_0), .val (.int (p3 &&& (3 : Int32))), .val (.ref b4), .val (.int (1 : Int32)), .val (.int r10), .val (.int r11), .unset, .unset, .unset, .unset] [(.int (eqK (mkV p1) (mkV p0)))]) _
    refine XS.ifYes X12.here hx rfl (pc0 := 141) (pc' := 149) rfl (hb hby at_141) rfl ((if0 _ _).trans (teq hc1).1) (by decide) (by decide) ?_
    refine XS.iconst X12.here hx rfl (hb hby at_149) ?_
    refine XS.istore X12.here hx rfl (hb hby at_150) rfl (l' := #[.val (.int p0), .val (.int p1), .val (.int p2), .val (.int p3), .val (.int p4), .val (.int p5), .val (.ref b1_0), .val (.ref b2_0), .val (.ref b3_0), .val (.int (p3 &&& (3 : Int32))), .val (.ref b4), .val (.int (1 : Int32)), .val (.int r10), .val (.int r11), .val (.int (-1 : Int32)), .unset, .unset, .unset]) rfl ?_
    refine XS.iload X12.here hx rfl (hb hby at_152) rfl ?_
    refine XS.ifNo X12.here hx rfl (hb hby at_154) rfl ((if0 _ _).trans (feq (by decide : ¬ ((1 : Int32) = (0 : Int32)))).1) ?_
    refine XS.iload X12.here hx rfl (hb hby at_157) rfl ?_
    refine XS.iload X12.here hx rfl (hb hby at_159) rfl ?_
    show Sp p e below T12 (mkF m 161 #[.val (.int p0), .val (.int p1), .val (.int p2), .val (.int p3), .val (.int p4), .val (.int p5), .val (.ref b1_0), .val (.ref b2_0), .val (.ref b3_0), .val (.int (p3 &&& (3 : Int32))), .val (.ref b4), .val (.int (1 : Int32)), .val (.int r10), .val (.int r11), .val (.int (-1 : Int32)), .unset, .unset, .unset] [(.int (-1 : Int32)), (.int r11)]) _
    refine XS.icmpNo X12.here hx rfl (hb hby at_161) rfl (teq (hb2 (by rw [hκ1, hκ0]; exact own_ek0 hc1)).1).2 ?_
    refine XS.iconst X12.here hx rfl (hb hby at_164) ?_
    refine XS.goto X12.here hx rfl (pc0 := 165) (pc' := 169) rfl (hb hby at_165) (by decide) (by decide) ?_
    refine XS.istore X12.here hx rfl (hb hby at_169) rfl (l' := #[.val (.int p0), .val (.int p1), .val (.int p2), .val (.int p3), .val (.int p4), .val (.int p5), .val (.ref b1_0), .val (.ref b2_0), .val (.ref b3_0), .val (.int (p3 &&& (3 : Int32))), .val (.ref b4), .val (.int (1 : Int32)), .val (.int r10), .val (.int r11), .val (.int (-1 : Int32)), .unset, .unset, .unset]) rfl ?_
    refine XS.aload X12.here hx rfl (hb hby at_171) rfl rfl ?_
    refine XS.aload X12.here hx rfl (hb hby at_173) rfl rfl ?_
    refine XS.iload X12.here hx rfl (hb hby at_175) rfl ?_
    show Sp p e below T12 (mkF m 177 #[.val (.int p0), .val (.int p1), .val (.int p2), .val (.int p3), .val (.int p4), .val (.int p5), .val (.ref b1_0), .val (.ref b2_0), .val (.ref b3_0), .val (.int (p3 &&& (3 : Int32))), .val (.ref b4), .val (.int (1 : Int32)), .val (.int r10), .val (.int r11), .val (.int (-1 : Int32)), .unset, .unset, .unset] [(.int p4), (.ref b3_0), (.ref b4)]) _
    refine XS.iconst X12.here hx rfl (hb hby at_177) ?_
    refine XS.iadd X12.here hx rfl (hb hby at_178) rfl ?_
    show Sp p e below T12 (mkF m 179 #[.val (.int p0), .val (.int p1), .val (.int p2), .val (.int p3), .val (.int p4), .val (.int p5), .val (.ref b1_0), .val (.ref b2_0), .val (.ref b3_0), .val (.int (p3 &&& (3 : Int32))), .val (.ref b4), .val (.int (1 : Int32)), .val (.int r10), .val (.int r11), .val (.int (-1 : Int32)), .unset, .unset, .unset] [(.int (p4 + (2 : Int32))), (.ref b3_0), (.ref b4)]) _
    refine st13.trans ?_
    show Sp p e below T13 (mkF m 182 #[.val (.int p0), .val (.int p1), .val (.int p2), .val (.int p3), .val (.int p4), .val (.int p5), .val (.ref b1_0), .val (.ref b2_0), .val (.ref b3_0), .val (.int (p3 &&& (3 : Int32))), .val (.ref b4), .val (.int (1 : Int32)), .val (.int r10), .val (.int r11), .val (.int (-1 : Int32)), .unset, .unset, .unset] [(.int r13)]) _
    refine XS.istore X13.here hx rfl (hb hby at_182) rfl (l' := #[.val (.int p0), .val (.int p1), .val (.int p2), .val (.int p3), .val (.int p4), .val (.int p5), .val (.ref b1_0), .val (.ref b2_0), .val (.ref b3_0), .val (.int (p3 &&& (3 : Int32))), .val (.ref b4), .val (.int (1 : Int32)), .val (.int r10), .val (.int r11), .val (.int (-1 : Int32)), .val (.int r13), .unset, .unset]) rfl ?_
    refine XS.aload X13.here hx rfl (hb hby at_184) rfl rfl ?_
    refine XS.aload X13.here hx rfl (hb hby at_186) rfl rfl ?_
    show Sp p e below T13 (mkF m 188 #[.val (.int p0), .val (.int p1), .val (.int p2), .val (.int p3), .val (.int p4), .val (.int p5), .val (.ref b1_0), .val (.ref b2_0), .val (.ref b3_0), .val (.int (p3 &&& (3 : Int32))), .val (.ref b4), .val (.int (1 : Int32)), .val (.int r10), .val (.int r11), .val (.int (-1 : Int32)), .val (.int r13), .unset, .unset] [(.ref b1_0), (.ref b3_0)]) _
    refine st14.trans ?_
    show Sp p e below T14 (mkF m 191 #[.val (.int p0), .val (.int p1), .val (.int p2), .val (.int p3), .val (.int p4), .val (.int p5), .val (.ref b1_0), .val (.ref b2_0), .val (.ref b3_0), .val (.int (p3 &&& (3 : Int32))), .val (.ref b4), .val (.int (1 : Int32)), .val (.int r10), .val (.int r11), .val (.int (-1 : Int32)), .val (.int r13), .unset, .unset] [(.int (eqK (mkV p2) (mkV p0)))]) _
    refine XS.ifNo X14.here hx rfl (hb hby at_191) rfl ((if0 _ _).trans (feq hc2).1) ?_
    refine XS.iload X14.here hx rfl (hb hby at_194) rfl ?_
    refine XS.istore X14.here hx rfl (hb hby at_196) rfl (l' := #[.val (.int p0), .val (.int p1), .val (.int p2), .val (.int p3), .val (.int p4), .val (.int p5), .val (.ref b1_0), .val (.ref b2_0), .val (.ref b3_0), .val (.int (p3 &&& (3 : Int32))), .val (.ref b4), .val (.int (1 : Int32)), .val (.int r10), .val (.int r11), .val (.int (-1 : Int32)), .val (.int r13), .val (.int p4), .unset]) rfl ?_
    refine XS.goto X14.here hx rfl (pc0 := 198) (pc' := 223) rfl (hb hby at_198) (by decide) (by decide) ?_
    refine XS.iload X14.here hx rfl (hb hby at_223) rfl ?_
    refine XS.ifNo X14.here hx rfl (hb hby at_225) rfl ((if0 _ _).trans (feq (by decide : ¬ ((1 : Int32) = (0 : Int32)))).1) ?_
    refine XS.iload X14.here hx rfl (hb hby at_228) rfl ?_
    show Sp p e below T14 (mkF m 230 #[.val (.int p0), .val (.int p1), .val (.int p2), .val (.int p3), .val (.int p4), .val (.int p5), .val (.ref b1_0), .val (.ref b2_0), .val (.ref b3_0), .val (.int (p3 &&& (3 : Int32))), .val (.ref b4), .val (.int (1 : Int32)), .val (.int r10), .val (.int r11), .val (.int (-1 : Int32)), .val (.int r13), .val (.int p4), .unset] [(.int r13)]) _
    refine XS.iload X14.here hx rfl (hb hby at_230) rfl ?_
    refine XS.icmpNo X14.here hx rfl (hb hby at_232) rfl (teq (he1 (by rw [hκ2, hκ0]; exact own_ek1 hc2))).2 ?_
    refine XS.iconst X14.here hx rfl (hb hby at_235) ?_
    refine XS.goto X14.here hx rfl (pc0 := 236) (pc' := 240) rfl (hb hby at_236) (by decide) (by decide) ?_
    refine XS.istore X14.here hx rfl (hb hby at_240) rfl (l' := #[.val (.int p0), .val (.int p1), .val (.int p2), .val (.int p3), .val (.int p4), .val (.int p5), .val (.ref b1_0), .val (.ref b2_0), .val (.ref b3_0), .val (.int (p3 &&& (3 : Int32))), .val (.ref b4), .val (.int (1 : Int32)), .val (.int r10), .val (.int r11), .val (.int (-1 : Int32)), .val (.int r13), .val (.int p4), .unset]) rfl ?_
    refine XS.aload X14.here hx rfl (hb hby at_242) rfl rfl ?_
    refine XS.aload X14.here hx rfl (hb hby at_244) rfl rfl ?_
    show Sp p e below T14 (mkF m 246 #[.val (.int p0), .val (.int p1), .val (.int p2), .val (.int p3), .val (.int p4), .val (.int p5), .val (.ref b1_0), .val (.ref b2_0), .val (.ref b3_0), .val (.int (p3 &&& (3 : Int32))), .val (.ref b4), .val (.int (1 : Int32)), .val (.int r10), .val (.int r11), .val (.int (-1 : Int32)), .val (.int r13), .val (.int p4), .unset] [(.ref b1_0), (.ref b4)]) _
    refine XS.iload X14.here hx rfl (hb hby at_246) rfl ?_
    refine XS.iconst X14.here hx rfl (hb hby at_248) ?_
    refine XS.iadd X14.here hx rfl (hb hby at_249) rfl ?_
    show Sp p e below T14 (mkF m 250 #[.val (.int p0), .val (.int p1), .val (.int p2), .val (.int p3), .val (.int p4), .val (.int p5), .val (.ref b1_0), .val (.ref b2_0), .val (.ref b3_0), .val (.int (p3 &&& (3 : Int32))), .val (.ref b4), .val (.int (1 : Int32)), .val (.int r10), .val (.int r11), .val (.int (-1 : Int32)), .val (.int r13), .val (.int p4), .unset] [(.int (p4 + (3 : Int32))), (.ref b1_0), (.ref b4)]) _
    refine st15.trans ?_
    show Sp p e below T15 (mkF m 253 #[.val (.int p0), .val (.int p1), .val (.int p2), .val (.int p3), .val (.int p4), .val (.int p5), .val (.ref b1_0), .val (.ref b2_0), .val (.ref b3_0), .val (.int (p3 &&& (3 : Int32))), .val (.ref b4), .val (.int (1 : Int32)), .val (.int r10), .val (.int r11), .val (.int (-1 : Int32)), .val (.int r13), .val (.int p4), .unset] [(.int r15)]) _
    refine XS.istore X15.here hx rfl (hb hby at_253) rfl (l' := #[.val (.int p0), .val (.int p1), .val (.int p2), .val (.int p3), .val (.int p4), .val (.int p5), .val (.ref b1_0), .val (.ref b2_0), .val (.ref b3_0), .val (.int (p3 &&& (3 : Int32))), .val (.ref b4), .val (.int (1 : Int32)), .val (.int r10), .val (.int r11), .val (.int (-1 : Int32)), .val (.int r13), .val (.int p4), .val (.int r15)]) rfl ?_
    refine XS.iload X15.here hx rfl (hb hby at_255) rfl ?_
    refine XS.ifNo X15.here hx rfl (hb hby at_257) rfl ((if0 _ _).trans (feq (by decide : ¬ ((1 : Int32) = (0 : Int32)))).1) ?_
    refine XS.iload X15.here hx rfl (hb hby at_260) rfl ?_
    refine XS.iload X15.here hx rfl (hb hby at_262) rfl ?_
    refine XS.icmpNo X15.here hx rfl (hb hby at_264) rfl (teq hd4).2 ?_
    refine XS.iconst X15.here hx rfl (hb hby at_267) ?_
    show Sp p e below T15 (mkF m 268 #[.val (.int p0), .val (.int p1), .val (.int p2), .val (.int p3), .val (.int p4), .val (.int p5), .val (.ref b1_0), .val (.ref b2_0), .val (.ref b3_0), .val (.int (p3 &&& (3 : Int32))), .val (.ref b4), .val (.int (1 : Int32)), .val (.int r10), .val (.int r11), .val (.int (-1 : Int32)), .val (.int r13), .val (.int p4), .val (.int r15)] [(.int (1 : Int32))]) _
    refine XS.goto X15.here hx rfl (pc0 := 268) (pc' := 272) rfl (hb hby at_268) (by decide) (by decide) ?_
    refine XS.istore X15.here hx rfl (hb hby at_272) rfl (l' := #[.val (.int p0), .val (.int p1), .val (.int p2), .val (.int p3), .val (.int p4), .val (.int p5), .val (.ref b1_0), .val (.ref b2_0), .val (.ref b3_0), .val (.int (p3 &&& (3 : Int32))), .val (.ref b4), .val (.int (1 : Int32)), .val (.int r10), .val (.int r11), .val (.int (-1 : Int32)), .val (.int r13), .val (.int p4), .val (.int r15)]) rfl ?_
    refine XS.iload X15.here hx rfl (hb hby at_274) rfl ?_
    show Sp p e below T15 (mkF m 276 #[.val (.int p0), .val (.int p1), .val (.int p2), .val (.int p3), .val (.int p4), .val (.int p5), .val (.ref b1_0), .val (.ref b2_0), .val (.ref b3_0), .val (.int (p3 &&& (3 : Int32))), .val (.ref b4), .val (.int (1 : Int32)), .val (.int r10), .val (.int r11), .val (.int (-1 : Int32)), .val (.int r13), .val (.int p4), .val (.int r15)] [(.int (1 : Int32))]) _
    exact retN X15 hx (t := .boolean) Bd.returns (by simp) (hb hby at_276) hr
  · skip
    exact ⟨rfl, N15⟩
theorem rm48 (l : Launch) (Z : State) (a0 : Array Value) (hw : ∀ d ∈ tables_1, d.before a0 Z = true) (ws : List Jvm.Cond) (cs_v : Int32) (hp : Perm Z cs_v) (p0 : Int32) (p1 : Int32) (p2 : Int32) (p3 : Int32) (p4 : Int32) (p5 : Int32) (h0 : Heap) (n0 : Nat) (O0 : Old Z n0 h0) (hc1 : (eqK (mkV p1) (mkV p0)) = (0 : Int32)) (hc2 : (eqK (mkV p2) (mkV p0)) = (0 : Int32)) (hc3 : ¬ ((eqK (mkV p2) (mkV p1)) = (0 : Int32))) :
    MetFree l x (head1 (Jvm.Cond.code x code maxLocals ret :: ws) room_1) (fun a U => a = #[(.int p0), (.int p1), (.int p2), (.int p3), (.int p4), (.int p5)] ∧ Z.Warmed39 U.vm ∧ U.heap = h0) (fun _ _ _ _ _ => True) (fun _ U o U' => ∃ v L, o = .returned v ∧ (v = some (.int (1 : Int32)) ∧ Fr n0 L) ∧ FrameEnd U o U' L 40 384) := by
  refine MetFree.of_bodySF (plainFor_of_name pn_1) hisR ?_
  intro p e s m args below meth c s₁ Bd hml0 hP hK
  obtain ⟨rfl, hZ, hh⟩ := hP
  have hx := Bd.exec
  have hby := Bd.bytes
  have hml : c.maxLocals = 18 := hml0
  have hown : s.vm.findClass "com/example/byteloom/byteloom/StringNumbersClearPinLaw" = some m.cls := findClass_of_methodNamed Bd.named
  have hnm := (name_of_methodNamed Bd.named Bd.method).1
  have X0 : Stand p l e room_1 s m #[(.int p0), (.int p1), (.int p2), (.int p3), (.int p4), (.int p5)] below meth c s₁ [] 0 0 := Stand.of_body Bd
  have e0 : s₁.heap = h0 := by rw [← hh, Bd.state]; rfl
  have N0 := Fr.nil n0
  obtain ⟨_, _, ⟨T1, L1, k1, n1⟩, -, X1, ⟨Lc1, hQ1, l1, y1, z1⟩, st1⟩ := Jvm.LawKit.callS X0 hx (y := y4) hown (mvT hZ (wq hw 0 rfl)) (mvT hZ (wq hw 1 rfl)) (mvT hZ (wq hw 2 rfl)) (mvT hZ (wq hw 3 rfl)) (by decide) (backOf (W := 0) (rmMK l Z a0 hw [] cs_v hp p0 h0 n0 O0) hZ (wq hw 3 rfl) (wq hw 2 rfl) (by decide) (by decide)) (g := (mkF m 1 #[.val (.int p0), .val (.int p1), .val (.int p2), .val (.int p3), .val (.int p4), .val (.int p5), .unset, .unset, .unset, .unset, .unset, .unset, .unset, .unset, .unset, .unset, .unset, .unset] [(.int p0)])) rfl (by rw [hml]; rfl) (argsL := [(.int p0)]) (rest := []) (lenOf pd_16 rfl) rfl (by show 2 * 0 + _ ≤ _; exact Nat.le_of_eq rfl) (hb hby at_1) (fun _ _ => ⟨rfl, e0, (by decide : 0 + 3 ≤ _), (by decide : 0 + 8 ≤ _)⟩)
  dsimp only [Pt.U, Pt.locs, Pt.cells, Pt.slots] at X1 l1 y1 z1 st1 hQ1
  subst l1 y1 z1
  obtain ⟨b1_0, rfl, Nq1, Kq1, sq_b1_0, fq1_0, fq1_1⟩ := hQ1
  have N1 := Fr.app N0 Nq1
  have g_b1_0 : n0 ≤ b1_0 := Nat.le_trans (own_sz O0) sq_b1_0
  have O1 := O0.keep Kq1 all0
  obtain ⟨_, _, ⟨T2, L2, k2, n2⟩, -, X2, ⟨Lc2, hQ2, l2, y2, z2⟩, st2⟩ := Jvm.LawKit.callS X1 hx (y := y4) hown (mvT hZ (wq hw 0 rfl)) (mvT hZ (wq hw 1 rfl)) (mvT hZ (wq hw 2 rfl)) (mvT hZ (wq hw 3 rfl)) (by decide) (backOf (W := 0) (rmMK l Z a0 hw [] cs_v hp p1 T1.heap n0 O1) hZ (wq hw 3 rfl) (wq hw 2 rfl) (by decide) (by decide)) (g := (mkF m 7 #[.val (.int p0), .val (.int p1), .val (.int p2), .val (.int p3), .val (.int p4), .val (.int p5), .val (.ref b1_0), .unset, .unset, .unset, .unset, .unset, .unset, .unset, .unset, .unset, .unset, .unset] [(.int p1)])) rfl (by rw [hml]; rfl) (argsL := [(.int p1)]) (rest := []) (lenOf pd_16 rfl) rfl (by show 2 * 0 + _ ≤ _; exact Nat.le_of_eq rfl) (hb hby at_7) (fun _ _ => ⟨rfl, rfl, (by decide : 3 + 3 ≤ _), (by decide : 8 + 8 ≤ _)⟩)
  dsimp only [Pt.U, Pt.locs, Pt.cells, Pt.slots] at X2 l2 y2 z2 st2 hQ2
  subst l2 y2 z2
  obtain ⟨b2_0, rfl, Nq2, Kq2, sq_b2_0, fq2_0, fq2_1⟩ := hQ2
  have N2 := Fr.app N1 Nq2
  have g_b2_0 : n0 ≤ b2_0 := Nat.le_trans (own_sz O1) sq_b2_0
  have O2 := O1.keep Kq2 all0
  obtain ⟨_, _, ⟨T3, L3, k3, n3⟩, -, X3, ⟨Lc3, hQ3, l3, y3, z3⟩, st3⟩ := Jvm.LawKit.callS X2 hx (y := y4) hown (mvT hZ (wq hw 0 rfl)) (mvT hZ (wq hw 1 rfl)) (mvT hZ (wq hw 2 rfl)) (mvT hZ (wq hw 3 rfl)) (by decide) (backOf (W := 0) (rmMK l Z a0 hw [] cs_v hp p2 T2.heap n0 O2) hZ (wq hw 3 rfl) (wq hw 2 rfl) (by decide) (by decide)) (g := (mkF m 13 #[.val (.int p0), .val (.int p1), .val (.int p2), .val (.int p3), .val (.int p4), .val (.int p5), .val (.ref b1_0), .val (.ref b2_0), .unset, .unset, .unset, .unset, .unset, .unset, .unset, .unset, .unset, .unset] [(.int p2)])) rfl (by rw [hml]; rfl) (argsL := [(.int p2)]) (rest := []) (lenOf pd_16 rfl) rfl (by show 2 * 0 + _ ≤ _; exact Nat.le_of_eq rfl) (hb hby at_13) (fun _ _ => ⟨rfl, rfl, (by decide : 6 + 3 ≤ _), (by decide : 16 + 8 ≤ _)⟩)
  dsimp only [Pt.U, Pt.locs, Pt.cells, Pt.slots] at X3 l3 y3 z3 st3 hQ3
  subst l3 y3 z3
  obtain ⟨b3_0, rfl, Nq3, Kq3, sq_b3_0, fq3_0, fq3_1⟩ := hQ3
  have N3 := Fr.app N2 Nq3
  have g_b3_0 : n0 ≤ b3_0 := Nat.le_trans (own_sz O2) sq_b3_0
  have O3 := O2.keep Kq3 all0
  obtain ⟨T4, h4, X4, e4, E4, A4, D4, -, st4⟩ := newO X3 hx hZ hown (wq hw 30 rfl) (wq hw 31 rfl) (wq hw 32 rfl) rfl (g := (mkF m 23 #[.val (.int p0), .val (.int p1), .val (.int p2), .val (.int p3), .val (.int p4), .val (.int p5), .val (.ref b1_0), .val (.ref b2_0), .val (.ref b3_0), .val (.int (p3 &&& (3 : Int32))), .unset, .unset, .unset, .unset, .unset, .unset, .unset, .unset] [])) rfl (hb hby at_23) (by decide) (by decide)
  obtain ⟨b4, g4⟩ : ∃ z, z = T3.heap.size := ⟨_, rfl⟩
  rw [← g4] at A4 D4 st4
  have g_b4 : n0 ≤ b4 := Nat.le_trans (own_sz O3) (Nat.le_of_eq g4.symm)
  have O4 := O3.ext E4
  have F_strings_b4 : Fld Z h4 b4 "com/example/byteloom/byteloom/StringNumbers" "strings" "[Ljava/lang/String;" .null := D4 (Or.inr (wq hw 40 rfl)) (ty := (.array (.object "java/lang/String"))) (by decide)
  have F_hashes_b4 : Fld Z h4 b4 "com/example/byteloom/byteloom/StringNumbers" "hashes" "[I" .null := D4 (Or.inr (wq hw 43 rfl)) (ty := (.array .int)) (by decide)
  have F_numbers_b4 : Fld Z h4 b4 "com/example/byteloom/byteloom/StringNumbers" "numbers" "[I" .null := D4 (Or.inr (wq hw 45 rfl)) (ty := (.array .int)) (by decide)
  have F_taken_b4 : Fld Z h4 b4 "com/example/byteloom/byteloom/StringNumbers" "taken" "[I" .null := D4 (Or.inr (wq hw 47 rfl)) (ty := (.array .int)) (by decide)
  have F_listed_b4 : Fld Z h4 b4 "com/example/byteloom/byteloom/StringNumbers" "listed" "I" (.int (0 : Int32)) := D4 (Or.inl (wq hw 71 rfl)) (ty := .int) (by decide)
  have F_hashed_b4 : Fld Z h4 b4 "com/example/byteloom/byteloom/StringNumbers" "hashed" "Ljava/util/Map;" .null := D4 (Or.inl (wq hw 78 rfl)) (ty := (.object "java/util/Map")) (by decide)
  obtain ⟨_, _, ⟨T5, L5, k5, n5⟩, -, X5, ⟨Lc5, hQ5, l5, y5, z5⟩, st5⟩ := X4.specialBack hx (y := y19) rfl hown (mvT hZ (wq hw 33 rfl)) (mvT hZ (wq hw 34 rfl)) (mvT hZ (wq hw 35 rfl)) (by decide) (backOf (W := 1) (rm43 l Z a0 hw [] cs_v hp b4 h4 n0 O4 A4 F_strings_b4 F_hashes_b4 F_numbers_b4 F_taken_b4 F_listed_b4 F_hashed_b4 g_b4) hZ (wq hw 35 rfl) (wq hw 32 rfl) (by decide) (by decide)) (g := (mkF m 27 #[.val (.int p0), .val (.int p1), .val (.int p2), .val (.int p3), .val (.int p4), .val (.int p5), .val (.ref b1_0), .val (.ref b2_0), .val (.ref b3_0), .val (.int (p3 &&& (3 : Int32))), .unset, .unset, .unset, .unset, .unset, .unset, .unset, .unset] [(.ref b4), (.ref b4)])) rfl (by rw [hml]; rfl) (Steps.refl _) (a := b4) (argsL := []) (rest := [(.ref b4)]) (lenOf pd_17 rfl) rfl (by show 2 * 0 + _ ≤ _; exact Nat.le_of_eq rfl) (hb hby at_27) (fun _ _ => ⟨rfl, e4, (by decide : 10 + 4 ≤ _), (by decide : 30 + 112 ≤ _)⟩)
  dsimp only [Pt.U, Pt.locs, Pt.cells, Pt.slots] at X5 l5 y5 z5 st5 hQ5
  subst l5 y5 z5
  obtain ⟨b5_0, b5_1, b5_2, b5_3, kc5_0, kc5_1, kc5_2, kc5_3, rfl, Nq5, Kq5, sq_b5_0, sq_b5_1, sq_b5_2, sq_b5_3, nq5_0, nq5_1, nq5_2, nq5_3, nq5_4, nq5_5, fq5_0, fq5_1, fq5_2, fq5_3, fq5_4, fq5_5, fq5_6, fq5_7, fq5_8, fq5_9, fq5_10, fq5_11, fq5_12, fq5_13, fq5_14, fq5_15⟩ := hQ5
  have N5 := Fr.app N3 Nq5
  have g_b5_0 : n0 ≤ b5_0 := Nat.le_trans (own_sz O4) sq_b5_0
  have g_b5_1 : n0 ≤ b5_1 := Nat.le_trans (own_sz O4) sq_b5_1
  have g_b5_2 : n0 ≤ b5_2 := Nat.le_trans (own_sz O4) sq_b5_2
  have g_b5_3 : n0 ≤ b5_3 := Nat.le_trans (own_sz O4) sq_b5_3
  have O5 := O4.keep Kq5 (allS g_b4 all0)
  obtain ⟨κ, hκ0, hκ1, hκ2⟩ := own_kap (mkV p0) (mkV p1) (mkV p2) (Nat.ne_of_lt (Nat.lt_of_lt_of_le fq1_0.lt sq_b2_0)) (Nat.ne_of_lt (Nat.lt_of_lt_of_le (fq1_0.keep Kq2).lt sq_b3_0)) (Nat.ne_of_lt (Nat.lt_of_lt_of_le fq2_0.lt sq_b3_0))
  have f_6 := ((((fq1_1.keep Kq2 all0).keep Kq3 all0).ext E4).keep Kq5 (allS ⟨(((fq1_1.keep Kq2 all0).keep Kq3 all0).ext E4).exa.ne A4 (by decide), fun y hy => hy.ne A4 (by decide)⟩ all0))
  have Kw0 : StrK Z T5.heap b1_0 (κ b1_0) := by rw [hκ0]; exact f_6
  have f_7 := (((fq2_1.keep Kq3 all0).ext E4).keep Kq5 (allS ⟨((fq2_1.keep Kq3 all0).ext E4).exa.ne A4 (by decide), fun y hy => hy.ne A4 (by decide)⟩ all0))
  have Kw1 : StrK Z T5.heap b2_0 (κ b2_0) := by rw [hκ1]; exact f_7
  have f_8 := ((fq3_1.ext E4).keep Kq5 (allS ⟨(fq3_1.ext E4).exa.ne A4 (by decide), fun y hy => hy.ne A4 (by decide)⟩ all0))
  have Kw2 : StrK Z T5.heap b3_0 (κ b3_0) := by rw [hκ2]; exact f_8
  have Wd0 : Wd Z κ T5.heap n0 b4 (fun _ => none) [] := ⟨b5_0, b5_1, b5_2, b5_3, _, _, _, _, _, _, _, _, fq5_0, fq5_5, fq5_2, fq5_4, fq5_6, fq5_3, fq5_1, fq5_7, fq5_10, fq5_12, fq5_14, nq5_3, nq5_4, nq5_5, g_b4, g_b5_0, g_b5_1, g_b5_2, g_b5_3, Arf.of fq5_8 rfl, fq5_9, Arf.of fq5_11 rfl, Arf.of fq5_13 rfl, Arf.of fq5_15 rfl, TabOk.empty (fun _ _ => rfl), fun _ _ _ q => nomatch q⟩
  obtain ⟨T9, L9, X9, N9, O9, Et9, W9, AK9, st9⟩ := own_pre l Z a0 hw cs_v hp p0 p1 p2 p3 p4 p5 b1_0 b2_0 b3_0 (p3 &&& (3 : Int32)) b4 κ T5.heap n0 O5 fq5_0 g_b1_0 g_b2_0 g_b3_0 Kw0 Kw1 Kw2 Wd0 X5 hx hZ hby hml hown rfl N5
  have K0_9 := AK9 b1_0 Kw0
  have K1_9 := AK9 b2_0 Kw1
  have K2_9 := AK9 b3_0 Kw2
  obtain ⟨cq10, kq10, q10a, q10b, q10c⟩ := isOf hZ rfl Et9
  obtain ⟨_, _, ⟨T10, L10, k10, n10⟩, -, X10, ⟨Lc10, hQ10, l10, y10, z10⟩, st10⟩ := X9.virtualBack hx (y := y17) (z := y17) hown (mvT hZ (wq hw 48 rfl)) (mvT hZ (wq hw 49 rfl)) (notFace_of_selects (args := #[]) (mvT hZ (wq hw 51 rfl))) (mvT hZ (wq hw 51 rfl)) (mvT hZ (wq hw 50 rfl)) (by decide) (backOf (W := 0) (rmPUT l Z a0 hw [] cs_v hp κ b4 b1_0 p4 (fun _ => none) [] T9.heap n0 O9 g_b1_0 K0_9 W9 (Nat.le_trans (Nat.zero_le _ : ([] : List Int32).length ≤ 0) (by decide))) hZ (wq hw 52 rfl) (wq hw 32 rfl) (by decide) (by decide)) q10a q10c (g := (mkF m 98 #[.val (.int p0), .val (.int p1), .val (.int p2), .val (.int p3), .val (.int p4), .val (.int p5), .val (.ref b1_0), .val (.ref b2_0), .val (.ref b3_0), .val (.int (p3 &&& (3 : Int32))), .val (.ref b4), .val (.int (1 : Int32)), .unset, .unset, .unset, .unset, .unset, .unset] [(.int p4), (.ref b1_0), (.ref b4)])) rfl (by rw [hml]; rfl) (Steps.refl _) (argsL := [(.ref b1_0), (.int p4)]) (rest := []) (lenOf pd_18 rfl) rfl (by show 2 * 0 + _ ≤ _; exact Nat.le_of_eq rfl) (hb hby at_98) (fun _ _ => ⟨rfl, rfl, (by decide : 14 + 0 ≤ _), (by decide : 142 + 0 ≤ _)⟩)
  dsimp only [Pt.U, Pt.locs, Pt.cells, Pt.slots] at X10 l10 y10 z10 st10 hQ10
  subst l10 y10 z10
  obtain ⟨r10, Tb10, us10, wl10, rfl, Nq10, Kq10, gq10, P10, W10, hu10, AK10⟩ := hQ10
  have N10 := Fr.app N9 Nq10
  have O10 := O9.keep Kq10 gq10
  have K0_10 := AK10 b1_0 K0_9
  have K1_10 := AK10 b2_0 K1_9
  have K2_10 := AK10 b3_0 K2_9
  have hv10 : us10.length ≤ 1 := by have q := (Nat.zero_le _ : ([] : List Int32).length ≤ 0); omega
  obtain ⟨ha, hF1, hA1⟩ := put1 (fun _ => rfl) P10
  obtain ⟨cq11, kq11, q11a, q11b, q11c⟩ := isOf hZ rfl (Et9.keep Kq10)
  obtain ⟨_, _, ⟨T11, L11, k11, n11⟩, -, X11, ⟨Lc11, hQ11, l11, y11, z11⟩, st11⟩ := X10.virtualBack hx (y := y17) (z := y17) hown (mvT hZ (wq hw 48 rfl)) (mvT hZ (wq hw 49 rfl)) (notFace_of_selects (args := #[]) (mvT hZ (wq hw 51 rfl))) (mvT hZ (wq hw 51 rfl)) (mvT hZ (wq hw 50 rfl)) (by decide) (backOf (W := 0) (rmPUT l Z a0 hw [] cs_v hp κ b4 b2_0 (p4 + (1 : Int32)) Tb10 us10 T10.heap n0 O10 g_b2_0 K1_10 W10 (Nat.le_trans hv10 (by decide))) hZ (wq hw 52 rfl) (wq hw 32 rfl) (by decide) (by decide)) q11a q11c (g := (mkF m 129 #[.val (.int p0), .val (.int p1), .val (.int p2), .val (.int p3), .val (.int p4), .val (.int p5), .val (.ref b1_0), .val (.ref b2_0), .val (.ref b3_0), .val (.int (p3 &&& (3 : Int32))), .val (.ref b4), .val (.int (1 : Int32)), .val (.int r10), .unset, .unset, .unset, .unset, .unset] [(.int (p4 + (1 : Int32))), (.ref b2_0), (.ref b4)])) rfl (by rw [hml]; rfl) (Steps.refl _) (argsL := [(.ref b2_0), (.int (p4 + (1 : Int32)))]) (rest := []) (lenOf pd_18 rfl) rfl (by show 2 * 0 + _ ≤ _; exact Nat.le_of_eq rfl) (hb hby at_129) (fun _ _ => ⟨rfl, rfl, (by decide : 14 + 0 ≤ _), (by decide : 142 + 0 ≤ _)⟩)
  dsimp only [Pt.U, Pt.locs, Pt.cells, Pt.slots] at X11 l11 y11 z11 st11 hQ11
  subst l11 y11 z11
  obtain ⟨r11, Tb11, us11, wl11, rfl, Nq11, Kq11, gq11, P11, W11, hu11, AK11⟩ := hQ11
  have N11 := Fr.app N10 Nq11
  have O11 := O10.keep Kq11 gq11
  have K0_11 := AK11 b1_0 K0_10
  have M0_11 : StrK Z T11.heap b1_0 (mkV p0) := by rw [← hκ0]; exact K0_11
  have K1_11 := AK11 b2_0 K1_10
  have M1_11 : StrK Z T11.heap b2_0 (mkV p1) := by rw [← hκ1]; exact K1_11
  have K2_11 := AK11 b3_0 K2_10
  have hv11 : us11.length ≤ 2 := by have q := hv10; omega
  obtain ⟨hb1, hb2, hF2, hA2⟩ := put2 hF1 hA1 P11
  obtain ⟨cq12, kq12, q12a, q12b, q12c⟩ := isOf hZ rfl ((K1_9.exa.keep Kq10).keep Kq11)
  obtain ⟨_, _, ⟨T12, L12, k12, n12⟩, -, X12, ⟨Lc12, hQ12, l12, y12, z12⟩, st12⟩ := X11.virtualBack hx (y := y16) (z := y16) hown (mvT hZ (wq hw 79 rfl)) (mvT hZ (wq hw 80 rfl)) (notFace_of_selects (args := #[]) (mvT hZ (wq hw 82 rfl))) (mvT hZ (wq hw 82 rfl)) (mvT hZ (wq hw 81 rfl)) (by decide) (backOf (W := 0) (rmEQ l Z a0 hw [] cs_v hp b2_0 b1_0 (mkV p1) (mkV p0) T11.heap n0 O11 (Ne.symm (Nat.ne_of_lt (Nat.lt_of_lt_of_le fq1_0.lt sq_b2_0))) M1_11 M0_11) hZ (wq hw 83 rfl) (wq hw 6 rfl) (by decide) (by decide)) q12a q12c (g := (mkF m 138 #[.val (.int p0), .val (.int p1), .val (.int p2), .val (.int p3), .val (.int p4), .val (.int p5), .val (.ref b1_0), .val (.ref b2_0), .val (.ref b3_0), .val (.int (p3 &&& (3 : Int32))), .val (.ref b4), .val (.int (1 : Int32)), .val (.int r10), .val (.int r11), .unset, .unset, .unset, .unset] [(.ref b1_0), (.ref b2_0)])) rfl (by rw [hml]; rfl) (Steps.refl _) (argsL := [(.ref b1_0)]) (rest := []) (lenOf pd_14 rfl) rfl (by show 2 * 0 + _ ≤ _; exact Nat.le_of_eq rfl) (hb hby at_138) (fun _ _ => ⟨rfl, rfl, (by decide : 14 + 0 ≤ _), (by decide : 142 + 0 ≤ _)⟩)
  dsimp only [Pt.U, Pt.locs, Pt.cells, Pt.slots] at X12 l12 y12 z12 st12 hQ12
  subst l12 y12 z12
  obtain ⟨rfl, Nq12, eq12⟩ := hQ12
  have N12 := Fr.app N11 Nq12
  obtain ⟨cq13, kq13, q13a, q13b, q13c⟩ := isOf hZ eq12 ((Et9.keep Kq10).keep Kq11)
  obtain ⟨_, _, ⟨T13, L13, k13, n13⟩, -, X13, ⟨Lc13, hQ13, l13, y13, z13⟩, st13⟩ := X12.virtualBack hx (y := y17) (z := y17) hown (mvT hZ (wq hw 48 rfl)) (mvT hZ (wq hw 49 rfl)) (notFace_of_selects (args := #[]) (mvT hZ (wq hw 51 rfl))) (mvT hZ (wq hw 51 rfl)) (mvT hZ (wq hw 50 rfl)) (by decide) (backOf (W := 0) (rmPUT l Z a0 hw [] cs_v hp κ b4 b3_0 (p4 + (2 : Int32)) Tb11 us11 T11.heap n0 O11 g_b3_0 K2_11 W11 (Nat.le_trans hv11 (by decide))) hZ (wq hw 52 rfl) (wq hw 32 rfl) (by decide) (by decide)) q13a q13c (g := (mkF m 179 #[.val (.int p0), .val (.int p1), .val (.int p2), .val (.int p3), .val (.int p4), .val (.int p5), .val (.ref b1_0), .val (.ref b2_0), .val (.ref b3_0), .val (.int (p3 &&& (3 : Int32))), .val (.ref b4), .val (.int (1 : Int32)), .val (.int r10), .val (.int r11), .val (.int (-1 : Int32)), .unset, .unset, .unset] [(.int (p4 + (2 : Int32))), (.ref b3_0), (.ref b4)])) rfl (by rw [hml]; rfl) (Steps.refl _) (argsL := [(.ref b3_0), (.int (p4 + (2 : Int32)))]) (rest := []) (lenOf pd_18 rfl) rfl (by show 2 * 0 + _ ≤ _; exact Nat.le_of_eq rfl) (hb hby at_179) (fun _ _ => ⟨rfl, eq12, (by decide : 14 + 0 ≤ _), (by decide : 142 + 0 ≤ _)⟩)
  dsimp only [Pt.U, Pt.locs, Pt.cells, Pt.slots] at X13 l13 y13 z13 st13 hQ13
  subst l13 y13 z13
  obtain ⟨r13, Tb13, us13, wl13, rfl, Nq13, Kq13, gq13, P13, W13, hu13, AK13⟩ := hQ13
  have N13 := Fr.app N12 Nq13
  have O13 := O11.keep Kq13 gq13
  have K0_13 := AK13 b1_0 K0_11
  have M0_13 : StrK Z T13.heap b1_0 (mkV p0) := by rw [← hκ0]; exact K0_13
  have K1_13 := AK13 b2_0 K1_11
  have M1_13 : StrK Z T13.heap b2_0 (mkV p1) := by rw [← hκ1]; exact K1_13
  have K2_13 := AK13 b3_0 K2_11
  have M2_13 : StrK Z T13.heap b3_0 (mkV p2) := by rw [← hκ2]; exact K2_13
  have hv13 : us13.length ≤ 3 := by have q := hv11; omega
  obtain ⟨he1, he2, he3, hF3⟩ := put3 hF2 (fun h => (hb2 h).2) hA2 P13
  obtain ⟨cq14, kq14, q14a, q14b, q14c⟩ := isOf hZ rfl (((K2_9.exa.keep Kq10).keep Kq11).keep Kq13)
  obtain ⟨_, _, ⟨T14, L14, k14, n14⟩, -, X14, ⟨Lc14, hQ14, l14, y14, z14⟩, st14⟩ := X13.virtualBack hx (y := y16) (z := y16) hown (mvT hZ (wq hw 79 rfl)) (mvT hZ (wq hw 80 rfl)) (notFace_of_selects (args := #[]) (mvT hZ (wq hw 82 rfl))) (mvT hZ (wq hw 82 rfl)) (mvT hZ (wq hw 81 rfl)) (by decide) (backOf (W := 0) (rmEQ l Z a0 hw [] cs_v hp b3_0 b1_0 (mkV p2) (mkV p0) T13.heap n0 O13 (Ne.symm (Nat.ne_of_lt (Nat.lt_of_lt_of_le (fq1_0.keep Kq2).lt sq_b3_0))) M2_13 M0_13) hZ (wq hw 83 rfl) (wq hw 6 rfl) (by decide) (by decide)) q14a q14c (g := (mkF m 188 #[.val (.int p0), .val (.int p1), .val (.int p2), .val (.int p3), .val (.int p4), .val (.int p5), .val (.ref b1_0), .val (.ref b2_0), .val (.ref b3_0), .val (.int (p3 &&& (3 : Int32))), .val (.ref b4), .val (.int (1 : Int32)), .val (.int r10), .val (.int r11), .val (.int (-1 : Int32)), .val (.int r13), .unset, .unset] [(.ref b1_0), (.ref b3_0)])) rfl (by rw [hml]; rfl) (Steps.refl _) (argsL := [(.ref b1_0)]) (rest := []) (lenOf pd_14 rfl) rfl (by show 2 * 0 + _ ≤ _; exact Nat.le_of_eq rfl) (hb hby at_188) (fun _ _ => ⟨rfl, rfl, (by decide : 14 + 0 ≤ _), (by decide : 142 + 0 ≤ _)⟩)
  dsimp only [Pt.U, Pt.locs, Pt.cells, Pt.slots] at X14 l14 y14 z14 st14 hQ14
  subst l14 y14 z14
  obtain ⟨rfl, Nq14, eq14⟩ := hQ14
  have N14 := Fr.app N13 Nq14
  obtain ⟨cq15, kq15, q15a, q15b, q15c⟩ := isOf hZ eq14 (((K2_9.exa.keep Kq10).keep Kq11).keep Kq13)
  obtain ⟨_, _, ⟨T15, L15, k15, n15⟩, -, X15, ⟨Lc15, hQ15, l15, y15, z15⟩, st15⟩ := X14.virtualBack hx (y := y16) (z := y16) hown (mvT hZ (wq hw 79 rfl)) (mvT hZ (wq hw 80 rfl)) (notFace_of_selects (args := #[]) (mvT hZ (wq hw 82 rfl))) (mvT hZ (wq hw 82 rfl)) (mvT hZ (wq hw 81 rfl)) (by decide) (backOf (W := 0) (rmEQ l Z a0 hw [] cs_v hp b3_0 b2_0 (mkV p2) (mkV p1) T13.heap n0 O13 (Ne.symm (Nat.ne_of_lt (Nat.lt_of_lt_of_le fq2_0.lt sq_b3_0))) M2_13 M1_13) hZ (wq hw 83 rfl) (wq hw 6 rfl) (by decide) (by decide)) q15a q15c (g := (mkF m 205 #[.val (.int p0), .val (.int p1), .val (.int p2), .val (.int p3), .val (.int p4), .val (.int p5), .val (.ref b1_0), .val (.ref b2_0), .val (.ref b3_0), .val (.int (p3 &&& (3 : Int32))), .val (.ref b4), .val (.int (1 : Int32)), .val (.int r10), .val (.int r11), .val (.int (-1 : Int32)), .val (.int r13), .unset, .unset] [(.ref b2_0), (.ref b3_0)])) rfl (by rw [hml]; rfl) (Steps.refl _) (argsL := [(.ref b2_0)]) (rest := []) (lenOf pd_14 rfl) rfl (by show 2 * 0 + _ ≤ _; exact Nat.le_of_eq rfl) (hb hby at_205) (fun _ _ => ⟨rfl, eq14, (by decide : 14 + 0 ≤ _), (by decide : 142 + 0 ≤ _)⟩)
  dsimp only [Pt.U, Pt.locs, Pt.cells, Pt.slots] at X15 l15 y15 z15 st15 hQ15
  subst l15 y15 z15
  obtain ⟨rfl, Nq15, eq15⟩ := hQ15
  have N15 := Fr.app N14 Nq15
  obtain ⟨cq16, kq16, q16a, q16b, q16c⟩ := isOf hZ eq15 (((Et9.keep Kq10).keep Kq11).keep Kq13)
  obtain ⟨_, _, ⟨T16, L16, k16, n16⟩, -, X16, ⟨Lc16, hQ16, l16, y16, z16⟩, st16⟩ := X15.virtualBack hx (y := y17) (z := y17) hown (mvT hZ (wq hw 48 rfl)) (mvT hZ (wq hw 49 rfl)) (notFace_of_selects (args := #[]) (mvT hZ (wq hw 51 rfl))) (mvT hZ (wq hw 51 rfl)) (mvT hZ (wq hw 50 rfl)) (by decide) (backOf (W := 0) (rmPUT l Z a0 hw [] cs_v hp κ b4 b1_0 (p4 + (3 : Int32)) Tb13 us13 T13.heap n0 O13 g_b1_0 K0_13 W13 (Nat.le_trans hv13 (by decide))) hZ (wq hw 52 rfl) (wq hw 32 rfl) (by decide) (by decide)) q16a q16c (g := (mkF m 250 #[.val (.int p0), .val (.int p1), .val (.int p2), .val (.int p3), .val (.int p4), .val (.int p5), .val (.ref b1_0), .val (.ref b2_0), .val (.ref b3_0), .val (.int (p3 &&& (3 : Int32))), .val (.ref b4), .val (.int (1 : Int32)), .val (.int r10), .val (.int r11), .val (.int (-1 : Int32)), .val (.int r13), .val (.int (p4 + (1 : Int32))), .unset] [(.int (p4 + (3 : Int32))), (.ref b1_0), (.ref b4)])) rfl (by rw [hml]; rfl) (Steps.refl _) (argsL := [(.ref b1_0), (.int (p4 + (3 : Int32)))]) (rest := []) (lenOf pd_18 rfl) rfl (by show 2 * 0 + _ ≤ _; exact Nat.le_of_eq rfl) (hb hby at_250) (fun _ _ => ⟨rfl, eq15, (by decide : 14 + 0 ≤ _), (by decide : 142 + 0 ≤ _)⟩)
  dsimp only [Pt.U, Pt.locs, Pt.cells, Pt.slots] at X16 l16 y16 z16 st16 hQ16
  subst l16 y16 z16
  obtain ⟨r16, Tb16, us16, wl16, rfl, Nq16, Kq16, gq16, P16, W16, hu16, AK16⟩ := hQ16
  have N16 := Fr.app N15 Nq16
  have hd4 := put4 hF3 P16
  obtain ⟨fs, hr, hrun, hended, hW, hsame⟩ := X16.leave (v := some (.int (1 : Int32))) (fun h => by rw [Bd.returns] at h; cases h)
  refine ⟨_, _, castTop (ef_0_0 m p0 p1 p2 p3 p4 p5) ?_, hrun, hended, _, _, rfl, ?_, ⟨_, rfl⟩, hW, hsame.mono (by decide) (by decide)⟩
  · show Sp p e below s₁ (mkF m 0 #[.val (.int p0), .val (.int p1), .val (.int p2), .val (.int p3), .val (.int p4), .val (.int p5), .unset, .unset, .unset, .unset, .unset, .unset, .unset, .unset, .unset, .unset, .unset, .unset] []) _
    refine XS.iloadN X0.here hx rfl (hb hby at_0) rfl ?_
    show Sp p e below s₁ (mkF m 1 #[.val (.int p0), .val (.int p1), .val (.int p2), .val (.int p3), .val (.int p4), .val (.int p5), .unset, .unset, .unset, .unset, .unset, .unset, .unset, .unset, .unset, .unset, .unset, .unset] [(.int p0)]) _
    refine st1 _ ?_
    show Sp p e below T1 (mkF m 4 #[.val (.int p0), .val (.int p1), .val (.int p2), .val (.int p3), .val (.int p4), .val (.int p5), .unset, .unset, .unset, .unset, .unset, .unset, .unset, .unset, .unset, .unset, .unset, .unset] [(.ref b1_0)]) _
    refine XS.astore X1.here hx rfl (hb hby at_4) rfl rfl (l' := #[.val (.int p0), .val (.int p1), .val (.int p2), .val (.int p3), .val (.int p4), .val (.int p5), .val (.ref b1_0), .unset, .unset, .unset, .unset, .unset, .unset, .unset, .unset, .unset, .unset, .unset]) rfl ?_
    refine XS.iloadN X1.here hx rfl (hb hby at_6) rfl ?_
    show Sp p e below T1 (mkF m 7 #[.val (.int p0), .val (.int p1), .val (.int p2), .val (.int p3), .val (.int p4), .val (.int p5), .val (.ref b1_0), .unset, .unset, .unset, .unset, .unset, .unset, .unset, .unset, .unset, .unset, .unset] [(.int p1)]) _
    refine st2 _ ?_
    show Sp p e below T2 (mkF m 10 #[.val (.int p0), .val (.int p1), .val (.int p2), .val (.int p3), .val (.int p4), .val (.int p5), .val (.ref b1_0), .unset, .unset, .unset, .unset, .unset, .unset, .unset, .unset, .unset, .unset, .unset] [(.ref b2_0)]) _
    refine XS.astore X2.here hx rfl (hb hby at_10) rfl rfl (l' := #[.val (.int p0), .val (.int p1), .val (.int p2), .val (.int p3), .val (.int p4), .val (.int p5), .val (.ref b1_0), .val (.ref b2_0), .unset, .unset, .unset, .unset, .unset, .unset, .unset, .unset, .unset, .unset]) rfl ?_
    refine XS.iloadN X2.here hx rfl (hb hby at_12) rfl ?_
    show Sp p e below T2 (mkF m 13 #[.val (.int p0), .val (.int p1), .val (.int p2), .val (.int p3), .val (.int p4), .val (.int p5), .val (.ref b1_0), .val (.ref b2_0), .unset, .unset, .unset, .unset, .unset, .unset, .unset, .unset, .unset, .unset] [(.int p2)]) _
    refine st3 _ ?_
    show Sp p e below T3 (mkF m 16 #[.val (.int p0), .val (.int p1), .val (.int p2), .val (.int p3), .val (.int p4), .val (.int p5), .val (.ref b1_0), .val (.ref b2_0), .unset, .unset, .unset, .unset, .unset, .unset, .unset, .unset, .unset, .unset] [(.ref b3_0)]) _
    refine XS.astore X3.here hx rfl (hb hby at_16) rfl rfl (l' := #[.val (.int p0), .val (.int p1), .val (.int p2), .val (.int p3), .val (.int p4), .val (.int p5), .val (.ref b1_0), .val (.ref b2_0), .val (.ref b3_0), .unset, .unset, .unset, .unset, .unset, .unset, .unset, .unset, .unset]) rfl ?_
    refine XS.iloadN X3.here hx rfl (hb hby at_18) rfl ?_
    refine XS.iconst X3.here hx rfl (hb hby at_19) ?_
    refine XS.iand X3.here hx rfl (hb hby at_20) rfl ?_
    refine XS.istore X3.here hx rfl (hb hby at_21) rfl (l' := #[.val (.int p0), .val (.int p1), .val (.int p2), .val (.int p3), .val (.int p4), .val (.int p5), .val (.ref b1_0), .val (.ref b2_0), .val (.ref b3_0), .val (.int (p3 &&& (3 : Int32))), .unset, .unset, .unset, .unset, .unset, .unset, .unset, .unset]) rfl ?_
    show Sp p e below T3 (mkF m 23 #[.val (.int p0), .val (.int p1), .val (.int p2), .val (.int p3), .val (.int p4), .val (.int p5), .val (.ref b1_0), .val (.ref b2_0), .val (.ref b3_0), .val (.int (p3 &&& (3 : Int32))), .unset, .unset, .unset, .unset, .unset, .unset, .unset, .unset] []) _
    refine st4 _ ?_
    show Sp p e below T4 (mkF m 26 #[.val (.int p0), .val (.int p1), .val (.int p2), .val (.int p3), .val (.int p4), .val (.int p5), .val (.ref b1_0), .val (.ref b2_0), .val (.ref b3_0), .val (.int (p3 &&& (3 : Int32))), .unset, .unset, .unset, .unset, .unset, .unset, .unset, .unset] [(.ref b4)]) _
    refine XS.dup X4.here hx rfl (hb hby at_26) rfl rfl ?_
    show Sp p e below T4 (mkF m 27 #[.val (.int p0), .val (.int p1), .val (.int p2), .val (.int p3), .val (.int p4), .val (.int p5), .val (.ref b1_0), .val (.ref b2_0), .val (.ref b3_0), .val (.int (p3 &&& (3 : Int32))), .unset, .unset, .unset, .unset, .unset, .unset, .unset, .unset] [(.ref b4), (.ref b4)]) _
    refine st5.trans ?_
    show Sp p e below T5 (mkF m 30 #[.val (.int p0), .val (.int p1), .val (.int p2), .val (.int p3), .val (.int p4), .val (.int p5), .val (.ref b1_0), .val (.ref b2_0), .val (.ref b3_0), .val (.int (p3 &&& (3 : Int32))), .unset, .unset, .unset, .unset, .unset, .unset, .unset, .unset] [(.ref b4)]) _
    refine XS.astore X5.here hx rfl (hb hby at_30) rfl rfl (l' := #[.val (.int p0), .val (.int p1), .val (.int p2), .val (.int p3), .val (.int p4), .val (.int p5), .val (.ref b1_0), .val (.ref b2_0), .val (.ref b3_0), .val (.int (p3 &&& (3 : Int32))), .val (.ref b4), .unset, .unset, .unset, .unset, .unset, .unset, .unset]) rfl ?_
    refine st9 _ ?_
    show Sp p e below T9 (mkF m 92 #[.val (.int p0), .val (.int p1), .val (.int p2), .val (.int p3), .val (.int p4), .val (.int p5), .val (.ref b1_0), .val (.ref b2_0), .val (.ref b3_0), .val (.int (p3 &&& (3 : Int32))), .val (.ref b4), .val (.int (1 : Int32)), .unset, .unset, .unset, .unset, .unset, .unset] []) _
    refine XS.aload X9.here hx rfl (hb hby at_92) rfl rfl ?_
    refine XS.aload X9.here hx rfl (hb hby at_94) rfl rfl ?_
    refine XS.iload X9.here hx rfl (hb hby at_96) rfl ?_
    show Sp p e below T9 (mkF m 98 #[.val (.int p0), .val (.int p1), .val (.int p2), .val (.int p3), .val (.int p4), .val (.int p5), .val (.ref b1_0), .val (.ref b2_0), .val (.ref b3_0), .val (.int (p3 &&& (3 : Int32))), .val (.ref b4), .val (.int (1 : Int32)), .unset, .unset, .unset, .unset, .unset, .unset] [(.int p4), (.ref b1_0), (.ref b4)]) _
    refine st10.trans ?_
    show Sp p e below T10 (mkF m 101 #[.val (.int p0), .val (.int p1), .val (.int p2), .val (.int p3), .val (.int p4), .val (.int p5), .val (.ref b1_0), .val (.ref b2_0), .val (.ref b3_0), .val (.int (p3 &&& (3 : Int32))), .val (.ref b4), .val (.int (1 : Int32)), .unset, .unset, .unset, .unset, .unset, .unset] [(.int r10)]) _
    refine XS.istore X10.here hx rfl (hb hby at_101) rfl (l' := #[.val (.int p0), .val (.int p1), .val (.int p2), .val (.int p3), .val (.int p4), .val (.int p5), .val (.ref b1_0), .val (.ref b2_0), .val (.ref b3_0), .val (.int (p3 &&& (3 : Int32))), .val (.ref b4), .val (.int (1 : Int32)), .val (.int r10), .unset, .unset, .unset, .unset, .unset]) rfl ?_
    refine XS.iload X10.here hx rfl (hb hby at_103) rfl ?_
    refine XS.ifNo X10.here hx rfl (hb hby at_105) rfl ((if0 _ _).trans (feq (by decide : ¬ ((1 : Int32) = (0 : Int32)))).1) ?_
    refine XS.iload X10.here hx rfl (hb hby at_108) rfl ?_
    refine XS.iconst X10.here hx rfl (hb hby at_110) ?_
    refine XS.icmpNo X10.here hx rfl (hb hby at_111) rfl (teq ha).2 ?_
    refine XS.iconst X10.here hx rfl (hb hby at_114) ?_
    show Sp p e below T10 (mkF m 115 #[.val (.int p0), .val (.int p1), .val (.int p2), .val (.int p3), .val (.int p4), .val (.int p5), .val (.ref b1_0), .val (.ref b2_0), .val (.ref b3_0), .val (.int (p3 &&& (3 : Int32))), .val (.ref b4), .val (.int (1 : Int32)), .val (.int r10), .unset, .unset, .unset, .unset, .unset] [(.int (1 : Int32))]) _
    refine XS.goto X10.here hx rfl (pc0 := 115) (pc' := 119) rfl (hb hby at_115) (by decide) (by decide) ?_
    refine XS.istore X10.here hx rfl (hb hby at_119) rfl (l' := #[.val (.int p0), .val (.int p1), .val (.int p2), .val (.int p3), .val (.int p4), .val (.int p5), .val (.ref b1_0), .val (.ref b2_0), .val (.ref b3_0), .val (.int (p3 &&& (3 : Int32))), .val (.ref b4), .val (.int (1 : Int32)), .val (.int r10), .unset, .unset, .unset, .unset, .unset]) rfl ?_
    refine XS.aload X10.here hx rfl (hb hby at_121) rfl rfl ?_
    refine XS.aload X10.here hx rfl (hb hby at_123) rfl rfl ?_
    refine XS.iload X10.here hx rfl (hb hby at_125) rfl ?_
    refine XS.iconst X10.here hx rfl (hb hby at_127) ?_
    refine XS.iadd X10.here hx rfl (hb hby at_128) rfl ?_
    show Sp p e below T10 (mkF m 129 #[.val (.int p0), .val (.int p1), .val (.int p2), .val (.int p3), .val (.int p4), .val (.int p5), .val (.ref b1_0), .val (.ref b2_0), .val (.ref b3_0), .val (.int (p3 &&& (3 : Int32))), .val (.ref b4), .val (.int (1 : Int32)), .val (.int r10), .unset, .unset, .unset, .unset, .unset] [(.int (p4 + (1 : Int32))), (.ref b2_0), (.ref b4)]) _
    refine st11.trans ?_
    show Sp p e below T11 (mkF m 132 #[.val (.int p0), .val (.int p1), .val (.int p2), .val (.int p3), .val (.int p4), .val (.int p5), .val (.ref b1_0), .val (.ref b2_0), .val (.ref b3_0), .val (.int (p3 &&& (3 : Int32))), .val (.ref b4), .val (.int (1 : Int32)), .val (.int r10), .unset, .unset, .unset, .unset, .unset] [(.int r11)]) _
    refine XS.istore X11.here hx rfl (hb hby at_132) rfl (l' := #[.val (.int p0), .val (.int p1), .val (.int p2), .val (.int p3), .val (.int p4), .val (.int p5), .val (.ref b1_0), .val (.ref b2_0), .val (.ref b3_0), .val (.int (p3 &&& (3 : Int32))), .val (.ref b4), .val (.int (1 : Int32)), .val (.int r10), .val (.int r11), .unset, .unset, .unset, .unset]) rfl ?_
    refine XS.aload X11.here hx rfl (hb hby at_134) rfl rfl ?_
    refine XS.aload X11.here hx rfl (hb hby at_136) rfl rfl ?_
    show Sp p e below T11 (mkF m 138 #[.val (.int p0), .val (.int p1), .val (.int p2), .val (.int p3), .val (.int p4), .val (.int p5), .val (.ref b1_0), .val (.ref b2_0), .val (.ref b3_0), .val (.int (p3 &&& (3 : Int32))), .val (.ref b4), .val (.int (1 : Int32)), .val (.int r10), .val (.int r11), .unset, .unset, .unset, .unset] [(.ref b1_0), (.ref b2_0)]) _
    refine st12.trans ?_
    show Sp p e below T12 (mkF m 141 #[.val (.int p0), .val (.int p1), .val (.int p2), .val (.int p3), .val (.int p4), .val (.int p5), .val (.ref b1_0), .val (.ref b2_0), .val (.ref b3_0), .val (.int (p3 &&& (3 : Int32))), .val (.ref b4), .val (.int (1 : Int32)), .val (.int r10), .val (.int r11), .unset, .unset, .unset, .unset] [(.int (eqK (mkV p1) (mkV p0)))]) _
    refine XS.ifYes X12.here hx rfl (pc0 := 141) (pc' := 149) rfl (hb hby at_141) rfl ((if0 _ _).trans (teq hc1).1) (by decide) (by decide) ?_
    refine XS.iconst X12.here hx rfl (hb hby at_149) ?_
    refine XS.istore X12.here hx rfl (hb hby at_150) rfl (l' := #[.val (.int p0), .val (.int p1), .val (.int p2), .val (.int p3), .val (.int p4), .val (.int p5), .val (.ref b1_0), .val (.ref b2_0), .val (.ref b3_0), .val (.int (p3 &&& (3 : Int32))), .val (.ref b4), .val (.int (1 : Int32)), .val (.int r10), .val (.int r11), .val (.int (-1 : Int32)), .unset, .unset, .unset]) rfl ?_
    refine XS.iload X12.here hx rfl (hb hby at_152) rfl ?_
    refine XS.ifNo X12.here hx rfl (hb hby at_154) rfl ((if0 _ _).trans (feq (by decide : ¬ ((1 : Int32) = (0 : Int32)))).1) ?_
    refine XS.iload X12.here hx rfl (hb hby at_157) rfl ?_
    refine XS.iload X12.here hx rfl (hb hby at_159) rfl ?_
    show Sp p e below T12 (mkF m 161 #[.val (.int p0), .val (.int p1), .val (.int p2), .val (.int p3), .val (.int p4), .val (.int p5), .val (.ref b1_0), .val (.ref b2_0), .val (.ref b3_0), .val (.int (p3 &&& (3 : Int32))), .val (.ref b4), .val (.int (1 : Int32)), .val (.int r10), .val (.int r11), .val (.int (-1 : Int32)), .unset, .unset, .unset] [(.int (-1 : Int32)), (.int r11)]) _
    refine XS.icmpNo X12.here hx rfl (hb hby at_161) rfl (teq (hb2 (by rw [hκ1, hκ0]; exact own_ek0 hc1)).1).2 ?_
    refine XS.iconst X12.here hx rfl (hb hby at_164) ?_
    refine XS.goto X12.here hx rfl (pc0 := 165) (pc' := 169) rfl (hb hby at_165) (by decide) (by decide) ?_
    refine XS.istore X12.here hx rfl (hb hby at_169) rfl (l' := #[.val (.int p0), .val (.int p1), .val (.int p2), .val (.int p3), .val (.int p4), .val (.int p5), .val (.ref b1_0), .val (.ref b2_0), .val (.ref b3_0), .val (.int (p3 &&& (3 : Int32))), .val (.ref b4), .val (.int (1 : Int32)), .val (.int r10), .val (.int r11), .val (.int (-1 : Int32)), .unset, .unset, .unset]) rfl ?_
    refine XS.aload X12.here hx rfl (hb hby at_171) rfl rfl ?_
    refine XS.aload X12.here hx rfl (hb hby at_173) rfl rfl ?_
    refine XS.iload X12.here hx rfl (hb hby at_175) rfl ?_
    show Sp p e below T12 (mkF m 177 #[.val (.int p0), .val (.int p1), .val (.int p2), .val (.int p3), .val (.int p4), .val (.int p5), .val (.ref b1_0), .val (.ref b2_0), .val (.ref b3_0), .val (.int (p3 &&& (3 : Int32))), .val (.ref b4), .val (.int (1 : Int32)), .val (.int r10), .val (.int r11), .val (.int (-1 : Int32)), .unset, .unset, .unset] [(.int p4), (.ref b3_0), (.ref b4)]) _
    refine XS.iconst X12.here hx rfl (hb hby at_177) ?_
    refine XS.iadd X12.here hx rfl (hb hby at_178) rfl ?_
    show Sp p e below T12 (mkF m 179 #[.val (.int p0), .val (.int p1), .val (.int p2), .val (.int p3), .val (.int p4), .val (.int p5), .val (.ref b1_0), .val (.ref b2_0), .val (.ref b3_0), .val (.int (p3 &&& (3 : Int32))), .val (.ref b4), .val (.int (1 : Int32)), .val (.int r10), .val (.int r11), .val (.int (-1 : Int32)), .unset, .unset, .unset] [(.int (p4 + (2 : Int32))), (.ref b3_0), (.ref b4)]) _
    refine st13.trans ?_
    show Sp p e below T13 (mkF m 182 #[.val (.int p0), .val (.int p1), .val (.int p2), .val (.int p3), .val (.int p4), .val (.int p5), .val (.ref b1_0), .val (.ref b2_0), .val (.ref b3_0), .val (.int (p3 &&& (3 : Int32))), .val (.ref b4), .val (.int (1 : Int32)), .val (.int r10), .val (.int r11), .val (.int (-1 : Int32)), .unset, .unset, .unset] [(.int r13)]) _
    refine XS.istore X13.here hx rfl (hb hby at_182) rfl (l' := #[.val (.int p0), .val (.int p1), .val (.int p2), .val (.int p3), .val (.int p4), .val (.int p5), .val (.ref b1_0), .val (.ref b2_0), .val (.ref b3_0), .val (.int (p3 &&& (3 : Int32))), .val (.ref b4), .val (.int (1 : Int32)), .val (.int r10), .val (.int r11), .val (.int (-1 : Int32)), .val (.int r13), .unset, .unset]) rfl ?_
    refine XS.aload X13.here hx rfl (hb hby at_184) rfl rfl ?_
    refine XS.aload X13.here hx rfl (hb hby at_186) rfl rfl ?_
    show Sp p e below T13 (mkF m 188 #[.val (.int p0), .val (.int p1), .val (.int p2), .val (.int p3), .val (.int p4), .val (.int p5), .val (.ref b1_0), .val (.ref b2_0), .val (.ref b3_0), .val (.int (p3 &&& (3 : Int32))), .val (.ref b4), .val (.int (1 : Int32)), .val (.int r10), .val (.int r11), .val (.int (-1 : Int32)), .val (.int r13), .unset, .unset] [(.ref b1_0), (.ref b3_0)]) _
    refine st14.trans ?_
    show Sp p e below T14 (mkF m 191 #[.val (.int p0), .val (.int p1), .val (.int p2), .val (.int p3), .val (.int p4), .val (.int p5), .val (.ref b1_0), .val (.ref b2_0), .val (.ref b3_0), .val (.int (p3 &&& (3 : Int32))), .val (.ref b4), .val (.int (1 : Int32)), .val (.int r10), .val (.int r11), .val (.int (-1 : Int32)), .val (.int r13), .unset, .unset] [(.int (eqK (mkV p2) (mkV p0)))]) _
    refine XS.ifYes X14.here hx rfl (pc0 := 191) (pc' := 201) rfl (hb hby at_191) rfl ((if0 _ _).trans (teq hc2).1) (by decide) (by decide) ?_
    refine XS.aload X14.here hx rfl (hb hby at_201) rfl rfl ?_
    refine XS.aload X14.here hx rfl (hb hby at_203) rfl rfl ?_
    show Sp p e below T14 (mkF m 205 #[.val (.int p0), .val (.int p1), .val (.int p2), .val (.int p3), .val (.int p4), .val (.int p5), .val (.ref b1_0), .val (.ref b2_0), .val (.ref b3_0), .val (.int (p3 &&& (3 : Int32))), .val (.ref b4), .val (.int (1 : Int32)), .val (.int r10), .val (.int r11), .val (.int (-1 : Int32)), .val (.int r13), .unset, .unset] [(.ref b2_0), (.ref b3_0)]) _
    refine st15.trans ?_
    show Sp p e below T15 (mkF m 208 #[.val (.int p0), .val (.int p1), .val (.int p2), .val (.int p3), .val (.int p4), .val (.int p5), .val (.ref b1_0), .val (.ref b2_0), .val (.ref b3_0), .val (.int (p3 &&& (3 : Int32))), .val (.ref b4), .val (.int (1 : Int32)), .val (.int r10), .val (.int r11), .val (.int (-1 : Int32)), .val (.int r13), .unset, .unset] [(.int (eqK (mkV p2) (mkV p1)))]) _
    refine XS.ifNo X15.here hx rfl (hb hby at_208) rfl ((if0 _ _).trans (feq hc3).1) ?_
    refine XS.iload X15.here hx rfl (hb hby at_211) rfl ?_
    refine XS.iconst X15.here hx rfl (hb hby at_213) ?_
    refine XS.iadd X15.here hx rfl (hb hby at_214) rfl ?_
    refine XS.istore X15.here hx rfl (hb hby at_215) rfl (l' := #[.val (.int p0), .val (.int p1), .val (.int p2), .val (.int p3), .val (.int p4), .val (.int p5), .val (.ref b1_0), .val (.ref b2_0), .val (.ref b3_0), .val (.int (p3 &&& (3 : Int32))), .val (.ref b4), .val (.int (1 : Int32)), .val (.int r10), .val (.int r11), .val (.int (-1 : Int32)), .val (.int r13), .val (.int (p4 + (1 : Int32))), .unset]) rfl ?_
    refine XS.goto X15.here hx rfl (pc0 := 217) (pc' := 223) rfl (hb hby at_217) (by decide) (by decide) ?_
    refine XS.iload X15.here hx rfl (hb hby at_223) rfl ?_
    show Sp p e below T15 (mkF m 225 #[.val (.int p0), .val (.int p1), .val (.int p2), .val (.int p3), .val (.int p4), .val (.int p5), .val (.ref b1_0), .val (.ref b2_0), .val (.ref b3_0), .val (.int (p3 &&& (3 : Int32))), .val (.ref b4), .val (.int (1 : Int32)), .val (.int r10), .val (.int r11), .val (.int (-1 : Int32)), .val (.int r13), .val (.int (p4 + (1 : Int32))), .unset] [(.int (1 : Int32))]) _
    refine XS.ifNo X15.here hx rfl (hb hby at_225) rfl ((if0 _ _).trans (feq (by decide : ¬ ((1 : Int32) = (0 : Int32)))).1) ?_
    refine XS.iload X15.here hx rfl (hb hby at_228) rfl ?_
    refine XS.iload X15.here hx rfl (hb hby at_230) rfl ?_
    refine XS.icmpNo X15.here hx rfl (hb hby at_232) rfl (teq (he2 (by rw [hκ2, hκ0]; exact own_ek0 hc2) (by rw [hκ2, hκ1]; exact own_ek1 hc3))).2 ?_
    refine XS.iconst X15.here hx rfl (hb hby at_235) ?_
    refine XS.goto X15.here hx rfl (pc0 := 236) (pc' := 240) rfl (hb hby at_236) (by decide) (by decide) ?_
    refine XS.istore X15.here hx rfl (hb hby at_240) rfl (l' := #[.val (.int p0), .val (.int p1), .val (.int p2), .val (.int p3), .val (.int p4), .val (.int p5), .val (.ref b1_0), .val (.ref b2_0), .val (.ref b3_0), .val (.int (p3 &&& (3 : Int32))), .val (.ref b4), .val (.int (1 : Int32)), .val (.int r10), .val (.int r11), .val (.int (-1 : Int32)), .val (.int r13), .val (.int (p4 + (1 : Int32))), .unset]) rfl ?_
    show Sp p e below T15 (mkF m 242 #[.val (.int p0), .val (.int p1), .val (.int p2), .val (.int p3), .val (.int p4), .val (.int p5), .val (.ref b1_0), .val (.ref b2_0), .val (.ref b3_0), .val (.int (p3 &&& (3 : Int32))), .val (.ref b4), .val (.int (1 : Int32)), .val (.int r10), .val (.int r11), .val (.int (-1 : Int32)), .val (.int r13), .val (.int (p4 + (1 : Int32))), .unset] []) _
    refine XS.aload X15.here hx rfl (hb hby at_242) rfl rfl ?_
    refine XS.aload X15.here hx rfl (hb hby at_244) rfl rfl ?_
    refine XS.iload X15.here hx rfl (hb hby at_246) rfl ?_
    refine XS.iconst X15.here hx rfl (hb hby at_248) ?_
    refine XS.iadd X15.here hx rfl (hb hby at_249) rfl ?_
    show Sp p e below T15 (mkF m 250 #[.val (.int p0), .val (.int p1), .val (.int p2), .val (.int p3), .val (.int p4), .val (.int p5), .val (.ref b1_0), .val (.ref b2_0), .val (.ref b3_0), .val (.int (p3 &&& (3 : Int32))), .val (.ref b4), .val (.int (1 : Int32)), .val (.int r10), .val (.int r11), .val (.int (-1 : Int32)), .val (.int r13), .val (.int (p4 + (1 : Int32))), .unset] [(.int (p4 + (3 : Int32))), (.ref b1_0), (.ref b4)]) _
    refine st16.trans ?_
    show Sp p e below T16 (mkF m 253 #[.val (.int p0), .val (.int p1), .val (.int p2), .val (.int p3), .val (.int p4), .val (.int p5), .val (.ref b1_0), .val (.ref b2_0), .val (.ref b3_0), .val (.int (p3 &&& (3 : Int32))), .val (.ref b4), .val (.int (1 : Int32)), .val (.int r10), .val (.int r11), .val (.int (-1 : Int32)), .val (.int r13), .val (.int (p4 + (1 : Int32))), .unset] [(.int r16)]) _
    refine XS.istore X16.here hx rfl (hb hby at_253) rfl (l' := #[.val (.int p0), .val (.int p1), .val (.int p2), .val (.int p3), .val (.int p4), .val (.int p5), .val (.ref b1_0), .val (.ref b2_0), .val (.ref b3_0), .val (.int (p3 &&& (3 : Int32))), .val (.ref b4), .val (.int (1 : Int32)), .val (.int r10), .val (.int r11), .val (.int (-1 : Int32)), .val (.int r13), .val (.int (p4 + (1 : Int32))), .val (.int r16)]) rfl ?_
    refine XS.iload X16.here hx rfl (hb hby at_255) rfl ?_
    refine XS.ifNo X16.here hx rfl (hb hby at_257) rfl ((if0 _ _).trans (feq (by decide : ¬ ((1 : Int32) = (0 : Int32)))).1) ?_
    refine XS.iload X16.here hx rfl (hb hby at_260) rfl ?_
    refine XS.iload X16.here hx rfl (hb hby at_262) rfl ?_
    refine XS.icmpNo X16.here hx rfl (hb hby at_264) rfl (teq hd4).2 ?_
    refine XS.iconst X16.here hx rfl (hb hby at_267) ?_
    show Sp p e below T16 (mkF m 268 #[.val (.int p0), .val (.int p1), .val (.int p2), .val (.int p3), .val (.int p4), .val (.int p5), .val (.ref b1_0), .val (.ref b2_0), .val (.ref b3_0), .val (.int (p3 &&& (3 : Int32))), .val (.ref b4), .val (.int (1 : Int32)), .val (.int r10), .val (.int r11), .val (.int (-1 : Int32)), .val (.int r13), .val (.int (p4 + (1 : Int32))), .val (.int r16)] [(.int (1 : Int32))]) _
    refine XS.goto X16.here hx rfl (pc0 := 268) (pc' := 272) rfl (hb hby at_268) (by decide) (by decide) ?_
    refine XS.istore X16.here hx rfl (hb hby at_272) rfl (l' := #[.val (.int p0), .val (.int p1), .val (.int p2), .val (.int p3), .val (.int p4), .val (.int p5), .val (.ref b1_0), .val (.ref b2_0), .val (.ref b3_0), .val (.int (p3 &&& (3 : Int32))), .val (.ref b4), .val (.int (1 : Int32)), .val (.int r10), .val (.int r11), .val (.int (-1 : Int32)), .val (.int r13), .val (.int (p4 + (1 : Int32))), .val (.int r16)]) rfl ?_
    refine XS.iload X16.here hx rfl (hb hby at_274) rfl ?_
    show Sp p e below T16 (mkF m 276 #[.val (.int p0), .val (.int p1), .val (.int p2), .val (.int p3), .val (.int p4), .val (.int p5), .val (.ref b1_0), .val (.ref b2_0), .val (.ref b3_0), .val (.int (p3 &&& (3 : Int32))), .val (.ref b4), .val (.int (1 : Int32)), .val (.int r10), .val (.int r11), .val (.int (-1 : Int32)), .val (.int r13), .val (.int (p4 + (1 : Int32))), .val (.int r16)] [(.int (1 : Int32))]) _
    exact retN X16 hx (t := .boolean) Bd.returns (by simp) (hb hby at_276) hr
  · skip
    exact ⟨rfl, N16⟩
set_option maxRecDepth 65536 in
set_option maxHeartbeats 4000000 in
theorem rm_law (l : Launch) (Z : State) (a0 : Array Value) (hw : ∀ d ∈ tables_1, d.before a0 Z = true) (ws : List Jvm.Cond) (cs_v : Int32) (hp : Perm Z cs_v) (p0 : Int32) (p1 : Int32) (p2 : Int32) (p3 : Int32) (p4 : Int32) (p5 : Int32) (h0 : Heap) (n0 : Nat) (O0 : Old Z n0 h0) :
    MetFree l x (head1 (Jvm.Cond.code x code maxLocals ret :: ws) room_1) (fun a U => a = #[(.int p0), (.int p1), (.int p2), (.int p3), (.int p4), (.int p5)] ∧ Z.Warmed39 U.vm ∧ U.heap = h0) (fun _ _ _ _ _ => True) (fun _ U o U' => ∃ v L, o = .returned v ∧ (v = some (.int (1 : Int32)) ∧ Fr n0 L) ∧ FrameEnd U o U' L 40 384) := by
  by_cases d0 : (eqK (mkV p1) (mkV p0)) = (0 : Int32)
  · skip
    by_cases d1 : (eqK (mkV p2) (mkV p0)) = (0 : Int32)
    · skip
      by_cases d2 : (eqK (mkV p2) (mkV p1)) = (0 : Int32)
      · skip
        exact rm44 l Z a0 hw ws cs_v hp p0 p1 p2 p3 p4 p5 h0 n0 O0 d0 d1 d2
      · skip
        exact rm48 l Z a0 hw ws cs_v hp p0 p1 p2 p3 p4 p5 h0 n0 O0 d0 d1 d2
    · skip
      exact rm47 l Z a0 hw ws cs_v hp p0 p1 p2 p3 p4 p5 h0 n0 O0 d0 d1
  · skip
    by_cases d1 : (eqK (mkV p2) (mkV p0)) = (0 : Int32)
    · skip
      exact rm45 l Z a0 hw ws cs_v hp p0 p1 p2 p3 p4 p5 h0 n0 O0 d0 d1
    · skip
      exact rm46 l Z a0 hw ws cs_v hp p0 p1 p2 p3 p4 p5 h0 n0 O0 d0 d1
set_option maxRecDepth 65536 in
set_option maxHeartbeats 40000000 in
theorem comes_1 {Post : Tables → Env → Array Value → State → Outcome → State → Prop} (hpost : ∀ tb e args s v u, (limb_1_1.after args s (.returned v) u = true ∧ limb_1_2.after args s (.returned v) u = true ∧ True) → FrameEnd s (.returned v) u (Jvm.fieldLocs frame_1_writes args s ++ Jvm.arrayLocs frame_1_arrays args s ++ Jvm.staticLocs frame_1_statics s) 40 384 → Post tb e args s (.returned v) u) :
    ArmFor flags0 classFile x code maxLocals ret World_1 tables_1 room_1 Calls_1 rest_1 Pre_1 Post := by
  intro l hfl _ _ p e ha hc hk s m args below hf hA hF happ hP
  obtain ⟨hcalls, hrest, hpre⟩ := hP
  obtain ⟨-, -, -, hnamed, -, -, -, hat⟩ := (Spec.applies_iff hf).mp happ
  obtain ⟨hg, hn⟩ := and_e (Cond.before_iff.mp (show (Jvm.Cond.and given_1 narrow_1).before args s = true from hpre))
  obtain ⟨h1, hg⟩ := and_e hg
  obtain ⟨ga0, hg⟩ := and_e hg
  obtain ⟨ga1, hg⟩ := and_e hg
  obtain ⟨ga2, hg⟩ := and_e hg
  obtain ⟨ga3, hg⟩ := and_e hg
  obtain ⟨ga4, hg⟩ := and_e hg
  have ga5 := hg
  obtain ⟨w0, w1, w2, w3, w4, w5, rfl⟩ : ∃ w0 w1 w2 w3 w4 w5 : Value, args = #[w0, w1, w2, w3, w4, w5] := by
    have hs : args.size = 6 := by simpa [Cond.value, given_1] using h1
    obtain ⟨L⟩ := args
    match L, hs with
    | [w0, w1, w2, w3, w4, w5], _ => exact ⟨w0, w1, w2, w3, w4, w5, rfl⟩
  have hw := fun d (hd : d ∈ tables_1) => atoms_spec (ws := Jvm.Cond.code x code maxLocals ret :: tables_1) hat d (List.mem_cons_of_mem _ hd)
  have hfit : Fit s := fun {y c} hc i hi => by
    obtain ⟨ha, rfl⟩ := Array.getElem?_eq_some_iff.mp hc
    have q := List.all_eq_true.mp ((Array.all_eq_true_iff_forall_mem.mp hF) _ (Array.getElem_mem ha)) i (List.mem_range.mpr hi)
    simpa [Array.getElem?_eq_getElem hi] using q
  obtain ⟨hsets, hown0⟩ := atoms_of _ (rest_1_c_eq ▸ (show rest_1_c.before _ s = true from hrest))
  have hr0 := Cond.before_iff.mp hown0
  obtain ⟨i0, ei0⟩ := is_v ga0
  obtain rfl : w0 = (.int i0) := Option.some.inj ei0
  obtain ⟨i1, ei1⟩ := is_v ga1
  obtain rfl : w1 = (.int i1) := Option.some.inj ei1
  obtain ⟨i2, ei2⟩ := is_v ga2
  obtain rfl : w2 = (.int i2) := Option.some.inj ei2
  obtain ⟨i3, ei3⟩ := is_v ga3
  obtain rfl : w3 = (.int i3) := Option.some.inj ei3
  obtain ⟨i4, ei4⟩ := is_v ga4
  obtain rfl : w4 = (.int i4) := Option.some.inj ei4
  obtain ⟨i5, ei5⟩ := is_v ga5
  obtain rfl : w5 = (.int i5) := Option.some.inj ei5
  obtain ⟨cs_v, ev_cs⟩ := is_v (Cond.before_iff.mp (hsets _ (List.mem_of_getElem? (i := 1) rfl)))
  have S_COMPACT_STRINGS := Sta.start ev_cs (Or.inl (hsets _ (List.mem_of_getElem? (i := 0) rfl)))
  have h_cs : ¬ (cs_v = (0 : Int32)) := gotF (Cond.eq_ints ev_cs (Term.int_eval (0 : Int32))) (not_v (r := true) (Cond.before_iff.mp (hsets _ (List.mem_of_getElem? (i := 2) rfl))))
  obtain ⟨n, o, h1, h2, h3, _, L, rfl, ⟨rfl, N⟩, hq⟩ := rm_law l s _ hw tables_1 cs_v ⟨S_COMPACT_STRINGS, h_cs⟩ i0 i1 i2 i3 i4 i5 s.heap s.heap.size (Old.start s) p e ha hc hk s m _ below hf ((Spec.applies_iff_loose hf).mp happ).1 ⟨rfl, State.Warmed39.refl s, rfl⟩ trivial
  refine ⟨n, _, h1, h2, h3, hpost _ _ _ _ _ _ ⟨Cond.after_iff.mpr rfl, Cond.after_iff.mpr (eq_i res_at (Term.int_eval (1)) rfl), trivial⟩ ⟨hq.1, hq.2.1, (hq.2.2.sift fun y hy => Or.inr (N y hy)).mono (by decide) (by decide)⟩⟩
theorem main_1_1 : Claimed_1_1 := comes_1 fun _ _ _ _ _ _ h hF => ⟨h.1, hF⟩
theorem main_1_2 : Claimed_1_2 := comes_1 fun _ _ _ _ _ _ h hF => ⟨h.2.1, hF⟩
end Jvm.Pilot.@@N@@
namespace Jvm.Pilot.@@N@@
open Jvm Jvm.ClassFile Sem Op Lib Jvm.Free Jvm.Stand Jvm.Pilot.@@N@@.Jvm.D
/-! MADE BY PROGRAM (witnessworld.py) out of the Statement's table words and the real class files: 21 classes; the members and pool entries that the words name. The judged class is class 1, her method 2. -/
namespace start1
open Jvm.ClassFile
def u (s : String) : CpInfo := .utf8 (stringToUtf16 s)
/-- a pool by its gaps: so many unusable entries, then the entry; so many at the end -/
def gap : Nat → List CpInfo → List CpInfo
  | 0, r => r
  | n + 1, r => .unusable :: gap n r
def poolList (es : List (Nat × CpInfo)) (last : Nat) : List CpInfo := es.foldr (fun e r => gap e.1 (e.2 :: r)) (gap last [])
def pool (es : List (Nat × CpInfo)) (last : Nat) : Array CpInfo := ⟨poolList es last⟩
def fileOf (pool : Array CpInfo) (this : Nat) (attrs : Array Attribute := #[]) (ms : Array MethodInfo := #[]) (fl : Nat := 33) (sup : Nat := 0) (ifs : Array Nat := #[]) (fds : Array FieldInfo := #[]) : ClassFile where
  minorVersion := 0
  majorVersion := 65
  constantPool := pool
  accessFlags := fl
  thisClass := this
  superClass := sup
  interfaces := ifs
  fields := fds
  methods := ms
  attributes := attrs
def plain (name : String) (sup : Option ClassId) : Class where
  name := name
  kind := .ordinary
  loader := none
  accessFlags := 33
  super := sup
  interfaces := #[]
  cf := none
  fields := #[]
  methods := #[]
  instanceTypes := #[]
  staticTypes := #[]
  resolved := #[]
  callSites := []
  init := .initialized
  statics := none
  mirror := none

def pool0 : Array CpInfo := pool [(5, u "<init>"), (0, u "()V"), (1, .class_ 10), (1, u "java/lang/Object")] 113

def k0c0 : Code := { maxStack := 0, maxLocals := 1, code := object_method_1_code, exceptionTable := #[], attributes := #[] }
def k0m0 : Method := { name := "<init>", desc := "()V", sig := { parameters := [], returnType := none }, accessFlags := 1, code := some k0c0 }
/-- java/lang/Object -/
def k0 : Class := { plain "java/lang/Object" none with
  accessFlags := 33
  interfaces := #[]
  cf := some (fileOf pool0 8 #[] #[{ accessFlags := 1, nameIndex := 5, descriptorIndex := 6, attributes := #[] }] 33 0 #[] #[])
  fields := #[]
  methods := #[k0m0]
  instanceTypes := #[]
  staticTypes := #[]
  resolved := Array.replicate 124 none
  statics := none }

def pool1 : Array CpInfo := pool [(2, .class_ 4), (0, .nameAndType 5 6), (0, u "java/lang/Object"), (0, u "<init>"), (0, u "()V"), (0, .methodref 8 9), (0, .class_ 10), (0, .nameAndType 11 12), (0, u "java/lang/String"), (0, u "valueOf"), (0, u "(C)Ljava/lang/String;"), (0, .methodref 8 14), (0, .nameAndType 5 15), (0, u "([C)V"), (0, .methodref 17 18), (0, .class_ 19), (0, .nameAndType 20 21), (0, u "com/example/byteloom/byteloom/StringNumbersClearPinLaw"), (0, u "mk"), (0, u "(I)Ljava/lang/String;"), (0, .class_ 23), (0, u "com/example/byteloom/byteloom/StringNumbers"), (0, .methodref 22 3), (0, .methodref 22 26), (0, .nameAndType 27 28), (0, u "putIfAbsent"), (0, u "(Ljava/lang/String;I)I"), (0, .methodref 22 30), (0, .nameAndType 31 6), (0, u "clear"), (0, .methodref 8 33), (0, .nameAndType 34 35), (0, u "equals"), (0, u "(Ljava/lang/Object;)Z"), (3, u "law"), (0, u "(IIIIII)Z")] 2

def k1m0 : Method := { name := "<init>", desc := "()V", sig := { parameters := [], returnType := none }, accessFlags := 1, code := none }
def k1c1 : Code := { maxStack := 6, maxLocals := 3, code := method_2_code, exceptionTable := #[], attributes := #[] }
def k1m1 : Method := { name := "mk", desc := "(I)Ljava/lang/String;", sig := { parameters := [.int], returnType := some (.object "java/lang/String") }, accessFlags := 10, code := some k1c1 }
def k1c2 : Code := { maxStack := 4, maxLocals := 18, code := code, exceptionTable := #[], attributes := #[] }
def k1m2 : Method := { name := "law", desc := "(IIIIII)Z", sig := { parameters := [.int, .int, .int, .int, .int, .int], returnType := some .boolean }, accessFlags := 9, code := some k1c2 }
/-- com/example/byteloom/byteloom/StringNumbersClearPinLaw -/
def k1 : Class := { plain "com/example/byteloom/byteloom/StringNumbersClearPinLaw" (some 0) with
  accessFlags := 49
  interfaces := #[]
  cf := some (fileOf pool1 17 #[] #[{ accessFlags := 1, nameIndex := 5, descriptorIndex := 6, attributes := #[] }, { accessFlags := 10, nameIndex := 20, descriptorIndex := 21, attributes := #[] }, { accessFlags := 9, nameIndex := 39, descriptorIndex := 40, attributes := #[] }] 49 2 #[] #[])
  fields := #[]
  methods := #[k1m0, k1m1, k1m2]
  instanceTypes := #[]
  staticTypes := #[]
  resolved := Array.replicate 43 none
  statics := none }

def pool2 : Array CpInfo := pool [(1, .class_ 2), (0, u "java/io/Serializable"), (0, .class_ 4), (0, u "java/lang/Object")] 2

/-- java/io/Serializable -/
def k2 : Class := { plain "java/io/Serializable" (some 0) with
  accessFlags := 1537
  interfaces := #[]
  cf := some (fileOf pool2 1 #[] #[] 1537 3 #[] #[])
  fields := #[]
  methods := #[]
  instanceTypes := #[]
  staticTypes := #[]
  resolved := Array.replicate 7 none
  statics := none }

def pool3 : Array CpInfo := pool [(1, .class_ 2), (0, u "java/lang/Comparable"), (0, .class_ 4), (0, u "java/lang/Object")] 7

/-- java/lang/Comparable -/
def k3 : Class := { plain "java/lang/Comparable" (some 0) with
  accessFlags := 1537
  interfaces := #[]
  cf := some (fileOf pool3 1 #[] #[] 1537 3 #[] #[])
  fields := #[]
  methods := #[]
  instanceTypes := #[]
  staticTypes := #[]
  resolved := Array.replicate 12 none
  statics := none }

def pool4 : Array CpInfo := pool [(2, .class_ 4), (1, u "java/lang/CharSequence"), (42, .class_ 48), (0, u "java/lang/CharSequence$1CodePointIterator"), (10, .class_ 60), (0, u "java/lang/CharSequence$1CharIterator"), (5, .class_ 67), (0, u "java/lang/Object")] 63

/-- java/lang/CharSequence -/
def k4 : Class := { plain "java/lang/CharSequence" (some 0) with
  accessFlags := 1537
  interfaces := #[]
  cf := some (fileOf pool4 2 #[.nestMembers #[47, 59]] #[] 1537 66 #[] #[])
  fields := #[]
  methods := #[]
  instanceTypes := #[]
  staticTypes := #[]
  resolved := Array.replicate 131 none
  statics := none }

def pool5 : Array CpInfo := pool [(1, .class_ 2), (0, u "java/lang/constant/Constable"), (0, .class_ 4), (0, u "java/lang/Object")] 6

/-- java/lang/constant/Constable -/
def k5 : Class := { plain "java/lang/constant/Constable" (some 0) with
  accessFlags := 1537
  interfaces := #[]
  cf := some (fileOf pool5 1 #[] #[] 1537 3 #[] #[])
  fields := #[]
  methods := #[]
  instanceTypes := #[]
  staticTypes := #[]
  resolved := Array.replicate 11 none
  statics := none }

def pool6 : Array CpInfo := pool [(1, .class_ 2), (0, u "java/lang/constant/ConstantDesc"), (0, .class_ 4), (0, u "java/lang/Object")] 32

/-- java/lang/constant/ConstantDesc -/
def k6 : Class := { plain "java/lang/constant/ConstantDesc" (some 0) with
  accessFlags := 1537
  interfaces := #[]
  cf := some (fileOf pool6 1 #[] #[] 1537 3 #[] #[])
  fields := #[]
  methods := #[]
  instanceTypes := #[]
  staticTypes := #[]
  resolved := Array.replicate 37 none
  statics := none }

def pool7 : Array CpInfo := pool [(1, .methodref 2 3), (0, .class_ 4), (0, .nameAndType 5 6), (0, u "java/lang/Object"), (0, u "<init>"), (0, u "()V"), (2, .fieldref 10 11), (0, .class_ 12), (0, .nameAndType 13 14), (0, u "java/lang/String"), (0, u "value"), (0, u "[B"), (0, .fieldref 10 16), (0, .nameAndType 17 18), (0, u "coder"), (0, u "B"), (0, .fieldref 10 20), (0, .nameAndType 21 22), (0, u "hash"), (0, u "I"), (0, .fieldref 10 24), (0, .nameAndType 25 26), (0, u "hashIsZero"), (0, u "Z"), (0, .methodref 10 28), (0, .nameAndType 5 29), (0, u "([CIILjava/lang/Void;)V"), (8, .fieldref 10 39), (0, .nameAndType 40 26), (0, u "COMPACT_STRINGS"), (1, .class_ 44), (1, u "java/lang/StringUTF16"), (0, u "compress"), (1, .methodref 42 48), (0, .nameAndType 49 50), (0, u "coderFromArrayLen"), (0, u "([BI)B"), (2, u "toBytes"), (53, .class_ 109), (1, u "java/lang/StringLatin1"), (32, u "()Z"), (34, .methodref 42 178), (0, .nameAndType 45 179), (0, u "([CII)[B"), (29, .methodref 10 210), (0, .nameAndType 5 211), (0, u "([BB)V"), (122, u "()I"), (34, u "(C)Z"), (122, .methodref 10 493), (0, .nameAndType 494 142), (0, u "isLatin1"), (46, .methodref 107 542), (0, .nameAndType 543 544), (0, u "equals"), (0, u "([B[B)Z"), (28, u "(Ljava/lang/Object;)Z"), (1, .class_ 576), (0, u "java/lang/CharSequence"), (22, u "CASE_INSENSITIVE_ORDER"), (0, u "Ljava/util/Comparator;"), (27, .methodref 107 629), (0, .nameAndType 630 631), (0, u "hashCode"), (0, u "([B)I"), (150, u "valueOf"), (0, u "(C)Ljava/lang/String;"), (226, u "([C)V"), (4, .methodref 107 1016), (0, .nameAndType 1017 369), (0, u "canEncode"), (0, .methodref 107 1019), (0, .nameAndType 53 1020), (0, u "(C)[B"), (80, u "serialPersistentFields"), (0, u "[Ljava/io/ObjectStreamField;"), (0, .class_ 1104), (0, u "java/lang/String$CaseInsensitiveComparator"), (1, .class_ 1107), (0, u "java/io/Serializable"), (0, .class_ 1109), (0, u "java/lang/Comparable"), (0, .class_ 1111), (0, u "java/lang/constant/Constable"), (0, .class_ 1113), (0, u "java/lang/constant/ConstantDesc"), (2, u "serialVersionUID"), (0, u "J"), (3, u "REPL"), (0, u "C"), (2, u "LATIN1"), (1, u "UTF16")] 323

def k7m0 : Method := { name := "<init>", desc := "()V", sig := { parameters := [], returnType := none }, accessFlags := 1, code := none }
def k7c1 : Code := { maxStack := 5, maxLocals := 2, code := jdk_42_method_3_code, exceptionTable := #[], attributes := #[] }
def k7m1 : Method := { name := "<init>", desc := "([C)V", sig := { parameters := [(.array .char)], returnType := none }, accessFlags := 1, code := some k7c1 }
def k7c2 : Code := { maxStack := 2, maxLocals := 3, code := jdk_42_method_66_code, exceptionTable := #[], attributes := #[] }
def k7m2 : Method := { name := "equals", desc := "(Ljava/lang/Object;)Z", sig := { parameters := [(.object "java/lang/Object")], returnType := some .boolean }, accessFlags := 1, code := some k7c2 }
def k7c3 : Code := { maxStack := 2, maxLocals := 2, code := jdk_42_method_78_code, exceptionTable := #[], attributes := #[] }
def k7m3 : Method := { name := "hashCode", desc := "()I", sig := { parameters := [], returnType := some .int }, accessFlags := 1, code := some k7c3 }
def k7c4 : Code := { maxStack := 4, maxLocals := 1, code := jdk_42_method_139_code, exceptionTable := #[], attributes := #[] }
def k7m4 : Method := { name := "valueOf", desc := "(C)Ljava/lang/String;", sig := { parameters := [.char], returnType := some (.object "java/lang/String") }, accessFlags := 9, code := some k7c4 }
def k7c5 : Code := { maxStack := 4, maxLocals := 6, code := jdk_42_method_149_code, exceptionTable := #[], attributes := #[] }
def k7m5 : Method := { name := "<init>", desc := "([CIILjava/lang/Void;)V", sig := { parameters := [(.array .char), .int, .int, (.object "java/lang/Void")], returnType := none }, accessFlags := 2, code := some k7c5 }
def k7c6 : Code := { maxStack := 2, maxLocals := 3, code := jdk_42_method_151_code, exceptionTable := #[], attributes := #[] }
def k7m6 : Method := { name := "<init>", desc := "([BB)V", sig := { parameters := [(.array .byte), .byte], returnType := none }, accessFlags := 0, code := some k7c6 }
def k7c7 : Code := { maxStack := 1, maxLocals := 1, code := jdk_42_method_154_code, exceptionTable := #[], attributes := #[] }
def k7m7 : Method := { name := "isLatin1", desc := "()Z", sig := { parameters := [], returnType := some .boolean }, accessFlags := 0, code := some k7c7 }
/-- java/lang/String -/
def k7 : Class := { plain "java/lang/String" (some 0) with
  accessFlags := 49
  interfaces := #[2, 3, 4, 5, 6]
  cf := some (fileOf pool7 10 #[.nestMembers #[1103]] #[{ accessFlags := 1, nameIndex := 5, descriptorIndex := 6, attributes := #[] }, { accessFlags := 1, nameIndex := 5, descriptorIndex := 1010, attributes := #[] }, { accessFlags := 1, nameIndex := 543, descriptorIndex := 573, attributes := #[] }, { accessFlags := 1, nameIndex := 630, descriptorIndex := 334, attributes := #[] }, { accessFlags := 9, nameIndex := 782, descriptorIndex := 783, attributes := #[] }, { accessFlags := 2, nameIndex := 5, descriptorIndex := 29, attributes := #[] }, { accessFlags := 0, nameIndex := 5, descriptorIndex := 211, attributes := #[] }, { accessFlags := 0, nameIndex := 494, descriptorIndex := 142, attributes := #[] }] 49 2 #[1106, 1108, 575, 1110, 1112] #[{ accessFlags := 18, nameIndex := 13, descriptorIndex := 14, attributes := #[] }, { accessFlags := 18, nameIndex := 17, descriptorIndex := 18, attributes := #[] }, { accessFlags := 2, nameIndex := 21, descriptorIndex := 22, attributes := #[] }, { accessFlags := 2, nameIndex := 25, descriptorIndex := 26, attributes := #[] }, { accessFlags := 26, nameIndex := 1116, descriptorIndex := 1117, attributes := #[] }, { accessFlags := 24, nameIndex := 40, descriptorIndex := 26, attributes := #[] }, { accessFlags := 26, nameIndex := 1101, descriptorIndex := 1102, attributes := #[] }, { accessFlags := 26, nameIndex := 1121, descriptorIndex := 1122, attributes := #[] }, { accessFlags := 25, nameIndex := 599, descriptorIndex := 600, attributes := #[] }, { accessFlags := 24, nameIndex := 1125, descriptorIndex := 18, attributes := #[] }, { accessFlags := 24, nameIndex := 1127, descriptorIndex := 18, attributes := #[] }])
  fields := #[{ name := "value", type := (.array .byte), accessFlags := 18, slot := 0, constantValue := 0 }, { name := "coder", type := .byte, accessFlags := 18, slot := 1, constantValue := 0 }, { name := "hash", type := .int, accessFlags := 2, slot := 2, constantValue := 0 }, { name := "hashIsZero", type := .boolean, accessFlags := 2, slot := 3, constantValue := 0 }, { name := "serialVersionUID", type := .long, accessFlags := 26, slot := 0, constantValue := 0 }, { name := "COMPACT_STRINGS", type := .boolean, accessFlags := 24, slot := 1, constantValue := 0 }, { name := "serialPersistentFields", type := (.array (.object "java/io/ObjectStreamField")), accessFlags := 26, slot := 2, constantValue := 0 }, { name := "REPL", type := .char, accessFlags := 26, slot := 3, constantValue := 0 }, { name := "CASE_INSENSITIVE_ORDER", type := (.object "java/util/Comparator"), accessFlags := 25, slot := 4, constantValue := 0 }, { name := "LATIN1", type := .byte, accessFlags := 24, slot := 5, constantValue := 0 }, { name := "UTF16", type := .byte, accessFlags := 24, slot := 6, constantValue := 0 }]
  methods := #[k7m0, k7m1, k7m2, k7m3, k7m4, k7m5, k7m6, k7m7]
  instanceTypes := #[(.array .byte), .byte, .int, .boolean]
  staticTypes := #[.long, .boolean, (.array (.object "java/io/ObjectStreamField")), .char, (.object "java/util/Comparator"), .byte, .byte]
  resolved := Array.replicate 1451 none
  statics := some 0 }

def pool8 : Array CpInfo := pool [(4, .class_ 6), (1, u "java/lang/Object"), (0, u "<init>"), (0, u "()V"), (5, .class_ 16), (1, u "java/lang/StringLatin1"), (28, .class_ 47), (1, u "jdk/internal/util/ArraysSupport"), (9, u "([B)I"), (26, .methodref 45 85), (0, .nameAndType 86 87), (0, u "vectorizedHashCode"), (0, u "(Ljava/lang/Object;IIII)I"), (2, u "canEncode"), (14, u "(C)Z"), (15, u "$assertionsDisabled"), (0, u "Z"), (98, .class_ 223), (1, u "java/lang/StringLatin1$LinesSpliterator"), (57, u "equals"), (0, u "([B[B)Z"), (15, u "hashCode"), (81, u "toBytes"), (1, u "(C)[B"), (7, .class_ 391), (0, u "java/lang/StringLatin1$CharsSpliterator")] 3

def k8m0 : Method := { name := "<init>", desc := "()V", sig := { parameters := [], returnType := none }, accessFlags := 0, code := none }
def k8c1 : Code := { maxStack := 2, maxLocals := 1, code := jdk_43_method_3_code, exceptionTable := #[], attributes := #[] }
def k8m1 : Method := { name := "canEncode", desc := "(C)Z", sig := { parameters := [.char], returnType := some .boolean }, accessFlags := 9, code := some k8c1 }
def k8c2 : Code := { maxStack := 3, maxLocals := 3, code := jdk_43_method_13_code, exceptionTable := #[], attributes := #[] }
def k8m2 : Method := { name := "equals", desc := "([B[B)Z", sig := { parameters := [(.array .byte), (.array .byte)], returnType := some .boolean }, accessFlags := 9, code := some k8c2 }
def k8c3 : Code := { maxStack := 5, maxLocals := 1, code := jdk_43_method_21_code, exceptionTable := #[], attributes := #[] }
def k8m3 : Method := { name := "hashCode", desc := "([B)I", sig := { parameters := [(.array .byte)], returnType := some .int }, accessFlags := 9, code := some k8c3 }
def k8c4 : Code := { maxStack := 4, maxLocals := 1, code := jdk_43_method_46_code, exceptionTable := #[], attributes := #[] }
def k8m4 : Method := { name := "toBytes", desc := "(C)[B", sig := { parameters := [.char], returnType := some (.array .byte) }, accessFlags := 9, code := some k8c4 }
/-- java/lang/StringLatin1 -/
def k8 : Class := { plain "java/lang/StringLatin1" (some 0) with
  accessFlags := 48
  interfaces := #[]
  cf := some (fileOf pool8 14 #[.nestMembers #[390, 221]] #[{ accessFlags := 0, nameIndex := 7, descriptorIndex := 8, attributes := #[] }, { accessFlags := 9, nameIndex := 90, descriptorIndex := 105, attributes := #[] }, { accessFlags := 9, nameIndex := 281, descriptorIndex := 282, attributes := #[] }, { accessFlags := 9, nameIndex := 298, descriptorIndex := 57, attributes := #[] }, { accessFlags := 9, nameIndex := 380, descriptorIndex := 382, attributes := #[] }] 48 4 #[] #[{ accessFlags := 4120, nameIndex := 121, descriptorIndex := 122, attributes := #[] }])
  fields := #[{ name := "$assertionsDisabled", type := .boolean, accessFlags := 4120, slot := 0, constantValue := 0 }]
  methods := #[k8m0, k8m1, k8m2, k8m3, k8m4]
  instanceTypes := #[]
  staticTypes := #[.boolean]
  resolved := Array.replicate 395 none
  statics := none }

def pool9 : Array CpInfo := pool [(1, .class_ 2), (0, u "com/example/byteloom/byteloom/StringNumbers"), (0, .methodref 4 5), (0, .class_ 6), (0, .nameAndType 7 8), (0, u "java/lang/Object"), (0, u "<init>"), (0, u "()V"), (0, .class_ 10), (0, u "java/lang/String"), (0, .fieldref 1 12), (0, .nameAndType 13 14), (0, u "strings"), (0, u "[Ljava/lang/String;"), (0, .fieldref 1 16), (0, .nameAndType 17 18), (0, u "hashes"), (0, u "[I"), (0, .fieldref 1 20), (0, .nameAndType 21 18), (0, u "numbers"), (0, .fieldref 1 23), (0, .nameAndType 24 18), (0, u "taken"), (0, .methodref 9 26), (0, .nameAndType 27 28), (0, u "hashCode"), (0, u "()I"), (0, .methodref 9 30), (0, .nameAndType 31 32), (0, u "equals"), (0, u "(Ljava/lang/Object;)Z"), (0, .fieldref 1 34), (0, .nameAndType 35 36), (0, u "listed"), (0, u "I"), (0, .fieldref 1 38), (0, .nameAndType 39 40), (0, u "hashed"), (0, u "Ljava/util/Map;"), (13, u "putIfAbsent"), (4, u "LISTED"), (2, u "SLOTS"), (5, u "(Ljava/lang/String;I)I"), (1, u "clear")] 2

def k9c0 : Code := { maxStack := 2, maxLocals := 1, code := prog_52_method_1_code, exceptionTable := #[], attributes := #[] }
def k9m0 : Method := { name := "<init>", desc := "()V", sig := { parameters := [], returnType := none }, accessFlags := 0, code := some k9c0 }
def k9c1 : Code := { maxStack := 5, maxLocals := 6, code := prog_52_method_2_code, exceptionTable := #[], attributes := #[] }
def k9m1 : Method := { name := "putIfAbsent", desc := "(Ljava/lang/String;I)I", sig := { parameters := [(.object "java/lang/String"), .int], returnType := some .int }, accessFlags := 0, code := some k9c1 }
def k9c2 : Code := { maxStack := 3, maxLocals := 2, code := prog_52_method_3_code, exceptionTable := #[], attributes := #[] }
def k9m2 : Method := { name := "clear", desc := "()V", sig := { parameters := [], returnType := none }, accessFlags := 0, code := some k9c2 }
/-- com/example/byteloom/byteloom/StringNumbers -/
def k9 : Class := { plain "com/example/byteloom/byteloom/StringNumbers" (some 0) with
  accessFlags := 48
  interfaces := #[]
  cf := some (fileOf pool9 1 #[] #[{ accessFlags := 0, nameIndex := 7, descriptorIndex := 8, attributes := #[] }, { accessFlags := 0, nameIndex := 54, descriptorIndex := 68, attributes := #[] }, { accessFlags := 0, nameIndex := 70, descriptorIndex := 8, attributes := #[] }] 48 4 #[] #[{ accessFlags := 26, nameIndex := 59, descriptorIndex := 36, attributes := #[] }, { accessFlags := 26, nameIndex := 62, descriptorIndex := 36, attributes := #[] }, { accessFlags := 18, nameIndex := 13, descriptorIndex := 14, attributes := #[] }, { accessFlags := 18, nameIndex := 17, descriptorIndex := 18, attributes := #[] }, { accessFlags := 18, nameIndex := 21, descriptorIndex := 18, attributes := #[] }, { accessFlags := 18, nameIndex := 24, descriptorIndex := 18, attributes := #[] }, { accessFlags := 2, nameIndex := 35, descriptorIndex := 36, attributes := #[] }, { accessFlags := 2, nameIndex := 39, descriptorIndex := 40, attributes := #[] }])
  fields := #[{ name := "LISTED", type := .int, accessFlags := 26, slot := 0, constantValue := 0 }, { name := "SLOTS", type := .int, accessFlags := 26, slot := 1, constantValue := 0 }, { name := "strings", type := (.array (.object "java/lang/String")), accessFlags := 18, slot := 0, constantValue := 0 }, { name := "hashes", type := (.array .int), accessFlags := 18, slot := 1, constantValue := 0 }, { name := "numbers", type := (.array .int), accessFlags := 18, slot := 2, constantValue := 0 }, { name := "taken", type := (.array .int), accessFlags := 18, slot := 3, constantValue := 0 }, { name := "listed", type := .int, accessFlags := 2, slot := 4, constantValue := 0 }, { name := "hashed", type := (.object "java/util/Map"), accessFlags := 2, slot := 5, constantValue := 0 }]
  methods := #[k9m0, k9m1, k9m2]
  instanceTypes := #[(.array (.object "java/lang/String")), (.array .int), (.array .int), (.array .int), .int, (.object "java/util/Map")]
  staticTypes := #[.int, .int]
  resolved := Array.replicate 73 none
  statics := none }

def pool10 : Array CpInfo := pool [(6, .class_ 8), (1, u "java/lang/Object"), (0, u "<init>"), (0, u "()V"), (1, .class_ 14), (1, u "java/lang/StringUTF16"), (31, u "$assertionsDisabled"), (0, u "Z"), (13, u "HI_BYTE_SHIFT"), (0, u "I"), (2, u "LO_BYTE_SHIFT"), (49, .methodref 12 116), (0, .nameAndType 117 118), (0, u "compress"), (0, u "([CI[BII)I"), (3, u "([CII)[B"), (138, u "coderFromArrayLen"), (0, u "([BI)B"), (106, .class_ 371), (1, u "java/lang/StringUTF16$LinesSpliterator"), (58, u "MAX_LENGTH"), (196, .class_ 628), (0, u "java/lang/StringUTF16$CodePointsSpliterator"), (0, .class_ 630), (0, u "java/lang/StringUTF16$CharsSpliterator")] 4

def k10m0 : Method := { name := "<init>", desc := "()V", sig := { parameters := [], returnType := none }, accessFlags := 0, code := none }
def k10c1 : Code := { maxStack := 2, maxLocals := 2, code := jdk_52_method_15_code, exceptionTable := #[], attributes := #[] }
def k10m1 : Method := { name := "coderFromArrayLen", desc := "([BI)B", sig := { parameters := [(.array .byte), .int], returnType := some .byte }, accessFlags := 8, code := some k10c1 }
def k10c2 : Code := { maxStack := 5, maxLocals := 6, code := jdk_52_method_16_code, exceptionTable := #[], attributes := #[] }
def k10m2 : Method := { name := "compress", desc := "([CII)[B", sig := { parameters := [(.array .char), .int, .int], returnType := some (.array .byte) }, accessFlags := 9, code := some k10c2 }
def k10c3 : Code := { maxStack := 3, maxLocals := 7, code := jdk_52_method_21_code, exceptionTable := #[], attributes := #[] }
def k10m3 : Method := { name := "compress", desc := "([CI[BII)I", sig := { parameters := [(.array .char), .int, (.array .byte), .int, .int], returnType := some .int }, accessFlags := 9, code := some k10c3 }
/-- java/lang/StringUTF16 -/
def k10 : Class := { plain "java/lang/StringUTF16" (some 0) with
  accessFlags := 48
  interfaces := #[]
  cf := some (fileOf pool10 12 #[.nestMembers #[627, 629, 369]] #[{ accessFlags := 0, nameIndex := 9, descriptorIndex := 10, attributes := #[] }, { accessFlags := 8, nameIndex := 261, descriptorIndex := 262, attributes := #[] }, { accessFlags := 9, nameIndex := 117, descriptorIndex := 122, attributes := #[] }, { accessFlags := 9, nameIndex := 117, descriptorIndex := 118, attributes := #[] }] 48 6 #[] #[{ accessFlags := 26, nameIndex := 61, descriptorIndex := 62, attributes := #[] }, { accessFlags := 26, nameIndex := 65, descriptorIndex := 62, attributes := #[] }, { accessFlags := 24, nameIndex := 430, descriptorIndex := 62, attributes := #[] }, { accessFlags := 4120, nameIndex := 46, descriptorIndex := 47, attributes := #[] }])
  fields := #[{ name := "HI_BYTE_SHIFT", type := .int, accessFlags := 26, slot := 0, constantValue := 0 }, { name := "LO_BYTE_SHIFT", type := .int, accessFlags := 26, slot := 1, constantValue := 0 }, { name := "MAX_LENGTH", type := .int, accessFlags := 24, slot := 2, constantValue := 0 }, { name := "$assertionsDisabled", type := .boolean, accessFlags := 4120, slot := 3, constantValue := 0 }]
  methods := #[k10m0, k10m1, k10m2, k10m3]
  instanceTypes := #[]
  staticTypes := #[.int, .int, .int, .boolean]
  resolved := Array.replicate 635 none
  statics := none }

def pool11 : Array CpInfo := pool [(9, u "<init>"), (6, .class_ 18), (1, u "java/lang/Object"), (0, u "()V"), (1, .class_ 23), (1, u "jdk/internal/util/ArraysSupport"), (0, u "LOG2_ARRAY_LONG_INDEX_SCALE"), (0, u "I"), (2, u "U"), (0, u "Ljdk/internal/misc/Unsafe;"), (8, u "BIG_ENDIAN"), (0, u "Z"), (8, u "LOG2_BYTE_BIT_SIZE"), (4, u "LOG2_ARRAY_INT_INDEX_SCALE"), (6, .class_ 61), (0, u "[B"), (0, .methodref 21 63), (0, .nameAndType 64 65), (0, u "signedHashCode"), (0, u "(I[BII)I"), (42, u "JLA"), (0, u "Ljdk/internal/access/JavaLangAccess;"), (11, u "LOG2_ARRAY_BOOLEAN_INDEX_SCALE"), (9, u "LOG2_ARRAY_BYTE_INDEX_SCALE"), (5, u "LOG2_ARRAY_CHAR_INDEX_SCALE"), (5, u "LOG2_ARRAY_SHORT_INDEX_SCALE"), (18, u "LOG2_ARRAY_FLOAT_INDEX_SCALE"), (24, u "LOG2_ARRAY_DOUBLE_INDEX_SCALE"), (89, u "T_BOOLEAN"), (2, u "T_CHAR"), (1, u "T_FLOAT"), (1, u "T_DOUBLE"), (1, u "T_BYTE"), (1, u "T_SHORT"), (1, u "T_INT"), (1, u "T_LONG"), (1, u "SOFT_MAX_ARRAY_LENGTH"), (26, u "vectorizedHashCode"), (0, u "(Ljava/lang/Object;IIII)I")] 55

def k11m0 : Method := { name := "<init>", desc := "()V", sig := { parameters := [], returnType := none }, accessFlags := 2, code := none }
def k11c1 : Code := { maxStack := 4, maxLocals := 5, code := jdk_48_method_4_code, exceptionTable := #[], attributes := #[] }
def k11m1 : Method := { name := "vectorizedHashCode", desc := "(Ljava/lang/Object;IIII)I", sig := { parameters := [(.object "java/lang/Object"), .int, .int, .int, .int], returnType := some .int }, accessFlags := 9, code := some k11c1 }
def k11c2 : Code := { maxStack := 3, maxLocals := 6, code := jdk_48_method_5_code, exceptionTable := #[], attributes := #[] }
def k11m2 : Method := { name := "signedHashCode", desc := "(I[BII)I", sig := { parameters := [.int, (.array .byte), .int, .int], returnType := some .int }, accessFlags := 10, code := some k11c2 }
/-- jdk/internal/util/ArraysSupport -/
def k11 : Class := { plain "jdk/internal/util/ArraysSupport" (some 0) with
  accessFlags := 33
  interfaces := #[]
  cf := some (fileOf pool11 21 #[] #[{ accessFlags := 2, nameIndex := 9, descriptorIndex := 19, attributes := #[] }, { accessFlags := 9, nameIndex := 321, descriptorIndex := 322, attributes := #[] }, { accessFlags := 10, nameIndex := 64, descriptorIndex := 65, attributes := #[] }] 33 16 #[] #[{ accessFlags := 24, nameIndex := 28, descriptorIndex := 29, attributes := #[] }, { accessFlags := 26, nameIndex := 38, descriptorIndex := 39, attributes := #[] }, { accessFlags := 25, nameIndex := 121, descriptorIndex := 25, attributes := #[] }, { accessFlags := 25, nameIndex := 131, descriptorIndex := 25, attributes := #[] }, { accessFlags := 25, nameIndex := 137, descriptorIndex := 25, attributes := #[] }, { accessFlags := 25, nameIndex := 143, descriptorIndex := 25, attributes := #[] }, { accessFlags := 25, nameIndex := 53, descriptorIndex := 25, attributes := #[] }, { accessFlags := 25, nameIndex := 24, descriptorIndex := 25, attributes := #[] }, { accessFlags := 25, nameIndex := 162, descriptorIndex := 25, attributes := #[] }, { accessFlags := 25, nameIndex := 187, descriptorIndex := 25, attributes := #[] }, { accessFlags := 26, nameIndex := 48, descriptorIndex := 25, attributes := #[] }, { accessFlags := 25, nameIndex := 277, descriptorIndex := 25, attributes := #[] }, { accessFlags := 25, nameIndex := 280, descriptorIndex := 25, attributes := #[] }, { accessFlags := 25, nameIndex := 282, descriptorIndex := 25, attributes := #[] }, { accessFlags := 25, nameIndex := 284, descriptorIndex := 25, attributes := #[] }, { accessFlags := 25, nameIndex := 286, descriptorIndex := 25, attributes := #[] }, { accessFlags := 25, nameIndex := 288, descriptorIndex := 25, attributes := #[] }, { accessFlags := 25, nameIndex := 290, descriptorIndex := 25, attributes := #[] }, { accessFlags := 25, nameIndex := 292, descriptorIndex := 25, attributes := #[] }, { accessFlags := 26, nameIndex := 108, descriptorIndex := 109, attributes := #[] }, { accessFlags := 25, nameIndex := 294, descriptorIndex := 25, attributes := #[] }])
  fields := #[{ name := "U", type := (.object "jdk/internal/misc/Unsafe"), accessFlags := 24, slot := 0, constantValue := 0 }, { name := "BIG_ENDIAN", type := .boolean, accessFlags := 26, slot := 1, constantValue := 0 }, { name := "LOG2_ARRAY_BOOLEAN_INDEX_SCALE", type := .int, accessFlags := 25, slot := 2, constantValue := 0 }, { name := "LOG2_ARRAY_BYTE_INDEX_SCALE", type := .int, accessFlags := 25, slot := 3, constantValue := 0 }, { name := "LOG2_ARRAY_CHAR_INDEX_SCALE", type := .int, accessFlags := 25, slot := 4, constantValue := 0 }, { name := "LOG2_ARRAY_SHORT_INDEX_SCALE", type := .int, accessFlags := 25, slot := 5, constantValue := 0 }, { name := "LOG2_ARRAY_INT_INDEX_SCALE", type := .int, accessFlags := 25, slot := 6, constantValue := 0 }, { name := "LOG2_ARRAY_LONG_INDEX_SCALE", type := .int, accessFlags := 25, slot := 7, constantValue := 0 }, { name := "LOG2_ARRAY_FLOAT_INDEX_SCALE", type := .int, accessFlags := 25, slot := 8, constantValue := 0 }, { name := "LOG2_ARRAY_DOUBLE_INDEX_SCALE", type := .int, accessFlags := 25, slot := 9, constantValue := 0 }, { name := "LOG2_BYTE_BIT_SIZE", type := .int, accessFlags := 26, slot := 10, constantValue := 0 }, { name := "T_BOOLEAN", type := .int, accessFlags := 25, slot := 11, constantValue := 0 }, { name := "T_CHAR", type := .int, accessFlags := 25, slot := 12, constantValue := 0 }, { name := "T_FLOAT", type := .int, accessFlags := 25, slot := 13, constantValue := 0 }, { name := "T_DOUBLE", type := .int, accessFlags := 25, slot := 14, constantValue := 0 }, { name := "T_BYTE", type := .int, accessFlags := 25, slot := 15, constantValue := 0 }, { name := "T_SHORT", type := .int, accessFlags := 25, slot := 16, constantValue := 0 }, { name := "T_INT", type := .int, accessFlags := 25, slot := 17, constantValue := 0 }, { name := "T_LONG", type := .int, accessFlags := 25, slot := 18, constantValue := 0 }, { name := "JLA", type := (.object "jdk/internal/access/JavaLangAccess"), accessFlags := 26, slot := 19, constantValue := 0 }, { name := "SOFT_MAX_ARRAY_LENGTH", type := .int, accessFlags := 25, slot := 20, constantValue := 0 }]
  methods := #[k11m0, k11m1, k11m2]
  instanceTypes := #[]
  staticTypes := #[(.object "jdk/internal/misc/Unsafe"), .boolean, .int, .int, .int, .int, .int, .int, .int, .int, .int, .int, .int, .int, .int, .int, .int, .int, .int, (.object "jdk/internal/access/JavaLangAccess"), .int]
  resolved := Array.replicate 378 none
  statics := none }

def pool12 : Array CpInfo := pool [(2, .class_ 4), (1, u "java/lang/Object"), (0, u "<init>"), (0, u "()V"), (17, .class_ 26), (1, u "jdk/internal/util/Preconditions"), (28, .class_ 56), (0, u "jdk/internal/util/Preconditions$4"), (57, .class_ 115), (0, u "jdk/internal/util/Preconditions$1"), (7, u "SIOOBE_FORMATTER"), (0, u "Ljava/util/function/BiFunction;"), (0, .class_ 126), (0, u "jdk/internal/util/Preconditions$2"), (3, u "AIOOBE_FORMATTER"), (0, .class_ 132), (0, u "jdk/internal/util/Preconditions$3"), (3, u "IOOBE_FORMATTER")] 57

def k12m0 : Method := { name := "<init>", desc := "()V", sig := { parameters := [], returnType := none }, accessFlags := 1, code := none }
/-- jdk/internal/util/Preconditions -/
def k12 : Class := { plain "jdk/internal/util/Preconditions" (some 0) with
  accessFlags := 33
  interfaces := #[]
  cf := some (fileOf pool12 24 #[.nestMembers #[55, 131, 125, 114]] #[{ accessFlags := 1, nameIndex := 5, descriptorIndex := 6, attributes := #[] }] 33 2 #[] #[{ accessFlags := 25, nameIndex := 123, descriptorIndex := 124, attributes := #[] }, { accessFlags := 25, nameIndex := 130, descriptorIndex := 124, attributes := #[] }, { accessFlags := 25, nameIndex := 136, descriptorIndex := 124, attributes := #[] }])
  fields := #[{ name := "SIOOBE_FORMATTER", type := (.object "java/util/function/BiFunction"), accessFlags := 25, slot := 0, constantValue := 0 }, { name := "AIOOBE_FORMATTER", type := (.object "java/util/function/BiFunction"), accessFlags := 25, slot := 1, constantValue := 0 }, { name := "IOOBE_FORMATTER", type := (.object "java/util/function/BiFunction"), accessFlags := 25, slot := 2, constantValue := 0 }]
  methods := #[k12m0]
  instanceTypes := #[]
  staticTypes := #[(.object "java/util/function/BiFunction"), (.object "java/util/function/BiFunction"), (.object "java/util/function/BiFunction")]
  resolved := Array.replicate 194 none
  statics := some 1 }

def pool13 : Array CpInfo := pool [(1, u "java/lang/Cloneable"), (0, .class_ 1), (0, u "java/lang/Object"), (0, .class_ 3)] 3

/-- java/lang/Cloneable -/
def k13 : Class := { plain "java/lang/Cloneable" (some 0) with
  accessFlags := 1537
  interfaces := #[]
  cf := some (fileOf pool13 2 #[] #[] 1537 4 #[] #[])
  fields := #[]
  methods := #[]
  instanceTypes := #[]
  staticTypes := #[]
  resolved := Array.replicate 8 none
  statics := none }

/-- the primitive byte -/
def k14 : Class := { plain "byte" none with kind := .primitive 'B', accessFlags := 0x411 }
/-- [B -/
def k15 : Class := { plain "[B" (some 0) with kind := .array 14 .byte, interfaces := #[13, 2], accessFlags := 1041 }

/-- the primitive char -/
def k16 : Class := { plain "char" none with kind := .primitive 'C', accessFlags := 0x411 }
/-- [C -/
def k17 : Class := { plain "[C" (some 0) with kind := .array 16 .char, interfaces := #[13, 2], accessFlags := 1041 }

/-- the primitive int -/
def k18 : Class := { plain "int" none with kind := .primitive 'I', accessFlags := 0x411 }
/-- [I -/
def k19 : Class := { plain "[I" (some 0) with kind := .array 18 .int, interfaces := #[13, 2], accessFlags := 1041 }

/-- [Ljava/lang/String; -/
def k20 : Class := { plain "[Ljava/lang/String;" (some 0) with kind := .array 7 (.object "java/lang/String"), interfaces := #[13, 2], accessFlags := 1041 }

def heap : Heap := #[{ cls := 7, slots := #[.long 0, .int 1, .null, .int 0, .null, .int 0, .int 0], vm := .statics 7 },
  { cls := 12, slots := #[.null, .null, .null], vm := .statics 12 }]
def classes : Array Class := #[k0, k1, k2, k3, k4, k5, k6, k7, k8, k9, k10, k11, k12, k13, k14, k15, k16, k17, k18, k19, k20]
def interned : List (Array UInt16 × Addr) := []
def slotsUsed : Nat := 10
def theMethod : MethodId := ⟨1, 2⟩
def args0 : Array Value := #[.int 65, .int 66, .int 67, .int 2, .int 7, .int 9]
def aboutOver (below : List Frame) : State where
  vm := { classes := classes, interned := interned.toArray }
  heap := heap
  slotsUsed := slotsUsed
  threads := #[{ frames := .invoking theMethod args0 :: below }]
def below0 : List Frame := [.native { method := ⟨0, 0⟩, args := #[] }]
def about1 : State := aboutOver below0
def p0 : Program := .bare "" "" ""
def e0 : Env := launch0.env 0 0 0
theorem w_frames : about1.frames = Frame.invoking theMethod args0 :: below0 := rfl
set_option maxRecDepth 65536 in
theorem w_args : argsFit about1.vm theMethod args0 = true := by decide +kernel
set_option maxRecDepth 65536 in
theorem w_heap : heapFits about1 = true := by decide +kernel
set_option maxRecDepth 65536 in
theorem w_runnable : about1.curStatus? = some .runnable := by decide +kernel
set_option maxRecDepth 65536 in
theorem w_alone : about1.alone = true := by decide +kernel
set_option maxRecDepth 65536 in
theorem w_named : about1.methodNamed? x = some theMethod := by decide +kernel
set_option maxRecDepth 65536 in
theorem w_hears : about1.hears theMethod below0 = true := by decide +kernel
set_option maxRecDepth 65536 in
theorem w_ripe : about1.ripe theMethod args0 below0 = true := by decide +kernel
theorem w_running : about1.status = .running := rfl
set_option maxRecDepth 65536 in
theorem w_room : about1.hasRoom e0.platform room_1 = true :=
  launch0.hasRoom_least _ room_1 (by decide +kernel) (by decide +kernel) (by decide +kernel) (by decide +kernel) (by decide +kernel) (by decide +kernel)
theorem allAtoms_all (ts : List Jvm.Cond) (a : Array Jvm.Value) (st : Jvm.State) : (allAtoms ts).before a st = ts.all (fun c => c.before a st) := by
  induction ts with
  | nil => rfl
  | cons c t ih =>
    show (Jvm.Cond.and c (allAtoms t)).before a st = _
    rw [Jvm.Cond.before_and, ih, List.all_cons]
def words1 : List Jvm.Cond := Jvm.Cond.code x code maxLocals ret :: tables_1
/-- a 'code' word, met by the world's own term for the bytes: nothing is compared byte by byte -/
theorem code_word {y : MethodName} {bytes : ByteArray} {mx : Nat} {rt : Option FieldType} {a : Array Value} {s : State} {m : MethodId} {meth : Method} {c : Code} (h1 : s.methodNamed? y = some m) (h2 : s.vm.method? m = some meth) (h3 : meth.code = some c) (h4 : c.code = bytes)
    (h5 : (c.maxLocals == mx && c.exceptionTable.isEmpty && decide (c.maxStack ≤ mostOperands) && decide (meth.sig.returnType = rt) && !meth.locks && decide (parseMethodDescriptor y.desc = some meth.sig)) = true) : (Jvm.Cond.code y bytes mx rt).before a s = true := by
  simp only [Bool.and_eq_true, beq_iff_eq, Bool.not_eq_true', decide_eq_true_eq] at h5
  obtain ⟨⟨⟨⟨⟨g1, g2⟩, g3⟩, g4⟩, g5⟩, g6⟩ := h5
  simp [Cond.before, Cond.holds, Cond.value, h1, h2, h3, h4, g1, g2, g3, g4, g5, g6]
def isCode : Jvm.Cond → Bool
  | .code _ _ _ _ => true
  | _ => false
theorem all_split {L : List Jvm.Cond} {P : Jvm.Cond → Bool} (h1 : L.all (fun c => isCode c || P c) = true) (h2 : ∀ c ∈ L.filter isCode, P c = true) : L.all P = true := by
  refine List.all_eq_true.mpr fun c hc => ?_
  have h := List.all_eq_true.mp h1 c hc
  rcases Bool.eq_false_or_eq_true (isCode c) with hi | hi
  · exact h2 c (List.mem_filter.mpr ⟨hc, hi⟩)
  · simpa [hi] using h
set_option maxRecDepth 65536 in
theorem w_c0 : (Jvm.Cond.code x code maxLocals ret).before args0 about1 = true := code_word (m := ⟨1, 2⟩) (meth := k1m2) (c := k1c2) (by decide +kernel) rfl rfl rfl (by decide +kernel)
set_option maxRecDepth 65536 in
theorem w_c1 : (Jvm.Cond.code ({ cls := "com/example/byteloom/byteloom/StringNumbersClearPinLaw", name := "mk", desc := "(I)Ljava/lang/String;" } : Jvm.MethodName) method_2_code (3 : Nat) (Option.some (Jvm.ClassFile.FieldType.object "java/lang/String"))).before args0 about1 = true := code_word (m := ⟨1, 1⟩) (meth := k1m1) (c := k1c1) (by decide +kernel) rfl rfl rfl (by decide +kernel)
set_option maxRecDepth 65536 in
theorem w_c2 : (Jvm.Cond.code ({ cls := "java/lang/String", name := "valueOf", desc := "(C)Ljava/lang/String;" } : Jvm.MethodName) jdk_42_method_139_code (1 : Nat) (Option.some (Jvm.ClassFile.FieldType.object "java/lang/String"))).before args0 about1 = true := code_word (m := ⟨7, 4⟩) (meth := k7m4) (c := k7c4) (by decide +kernel) rfl rfl rfl (by decide +kernel)
set_option maxRecDepth 65536 in
theorem w_c3 : (Jvm.Cond.code ({ cls := "java/lang/StringLatin1", name := "canEncode", desc := "(C)Z" } : Jvm.MethodName) jdk_43_method_3_code (1 : Nat) (Option.some Jvm.ClassFile.FieldType.boolean)).before args0 about1 = true := code_word (m := ⟨8, 1⟩) (meth := k8m1) (c := k8c1) (by decide +kernel) rfl rfl rfl (by decide +kernel)
set_option maxRecDepth 65536 in
theorem w_c4 : (Jvm.Cond.code ({ cls := "java/lang/StringLatin1", name := "toBytes", desc := "(C)[B" } : Jvm.MethodName) jdk_43_method_46_code (1 : Nat) (Option.some (Jvm.ClassFile.FieldType.array Jvm.ClassFile.FieldType.byte))).before args0 about1 = true := code_word (m := ⟨8, 4⟩) (meth := k8m4) (c := k8c4) (by decide +kernel) rfl rfl rfl (by decide +kernel)
set_option maxRecDepth 65536 in
theorem w_c5 : (Jvm.Cond.code ({ cls := "java/lang/String", name := "<init>", desc := "([BB)V" } : Jvm.MethodName) jdk_42_method_151_code (3 : Nat) (Option.none : Option Jvm.ClassFile.FieldType)).before args0 about1 = true := code_word (m := ⟨7, 6⟩) (meth := k7m6) (c := k7c6) (by decide +kernel) rfl rfl rfl (by decide +kernel)
set_option maxRecDepth 65536 in
theorem w_c6 : (Jvm.Cond.code ({ cls := "java/lang/Object", name := "<init>", desc := "()V" } : Jvm.MethodName) object_method_1_code (1 : Nat) (Option.none : Option Jvm.ClassFile.FieldType)).before args0 about1 = true := code_word (m := ⟨0, 0⟩) (meth := k0m0) (c := k0c0) (by decide +kernel) rfl rfl rfl (by decide +kernel)
set_option maxRecDepth 65536 in
theorem w_c7 : (Jvm.Cond.code ({ cls := "com/example/byteloom/byteloom/StringNumbers", name := "<init>", desc := "()V" } : Jvm.MethodName) prog_52_method_1_code (1 : Nat) (Option.none : Option Jvm.ClassFile.FieldType)).before args0 about1 = true := code_word (m := ⟨9, 0⟩) (meth := k9m0) (c := k9c0) (by decide +kernel) rfl rfl rfl (by decide +kernel)
set_option maxRecDepth 65536 in
theorem w_c8 : (Jvm.Cond.code ({ cls := "com/example/byteloom/byteloom/StringNumbers", name := "putIfAbsent", desc := "(Ljava/lang/String;I)I" } : Jvm.MethodName) prog_52_method_2_code (6 : Nat) (Option.some Jvm.ClassFile.FieldType.int)).before args0 about1 = true := code_word (m := ⟨9, 1⟩) (meth := k9m1) (c := k9c1) (by decide +kernel) rfl rfl rfl (by decide +kernel)
set_option maxRecDepth 65536 in
theorem w_c9 : (Jvm.Cond.code ({ cls := "java/lang/String", name := "hashCode", desc := "()I" } : Jvm.MethodName) jdk_42_method_78_code (2 : Nat) (Option.some Jvm.ClassFile.FieldType.int)).before args0 about1 = true := code_word (m := ⟨7, 3⟩) (meth := k7m3) (c := k7c3) (by decide +kernel) rfl rfl rfl (by decide +kernel)
set_option maxRecDepth 65536 in
theorem w_c10 : (Jvm.Cond.code ({ cls := "java/lang/String", name := "isLatin1", desc := "()Z" } : Jvm.MethodName) jdk_42_method_154_code (1 : Nat) (Option.some Jvm.ClassFile.FieldType.boolean)).before args0 about1 = true := code_word (m := ⟨7, 7⟩) (meth := k7m7) (c := k7c7) (by decide +kernel) rfl rfl rfl (by decide +kernel)
set_option maxRecDepth 65536 in
theorem w_c11 : (Jvm.Cond.code ({ cls := "java/lang/StringLatin1", name := "hashCode", desc := "([B)I" } : Jvm.MethodName) jdk_43_method_21_code (1 : Nat) (Option.some Jvm.ClassFile.FieldType.int)).before args0 about1 = true := code_word (m := ⟨8, 3⟩) (meth := k8m3) (c := k8c3) (by decide +kernel) rfl rfl rfl (by decide +kernel)
set_option maxRecDepth 65536 in
theorem w_c12 : (Jvm.Cond.code ({ cls := "com/example/byteloom/byteloom/StringNumbers", name := "clear", desc := "()V" } : Jvm.MethodName) prog_52_method_3_code (2 : Nat) (Option.none : Option Jvm.ClassFile.FieldType)).before args0 about1 = true := code_word (m := ⟨9, 2⟩) (meth := k9m2) (c := k9c2) (by decide +kernel) rfl rfl rfl (by decide +kernel)
set_option maxRecDepth 65536 in
theorem w_c13 : (Jvm.Cond.code ({ cls := "java/lang/String", name := "equals", desc := "(Ljava/lang/Object;)Z" } : Jvm.MethodName) jdk_42_method_66_code (3 : Nat) (Option.some Jvm.ClassFile.FieldType.boolean)).before args0 about1 = true := code_word (m := ⟨7, 2⟩) (meth := k7m2) (c := k7c2) (by decide +kernel) rfl rfl rfl (by decide +kernel)
set_option maxRecDepth 65536 in
theorem w_c14 : (Jvm.Cond.code ({ cls := "java/lang/StringLatin1", name := "equals", desc := "([B[B)Z" } : Jvm.MethodName) jdk_43_method_13_code (3 : Nat) (Option.some Jvm.ClassFile.FieldType.boolean)).before args0 about1 = true := code_word (m := ⟨8, 2⟩) (meth := k8m2) (c := k8c2) (by decide +kernel) rfl rfl rfl (by decide +kernel)
set_option maxRecDepth 65536 in
theorem w_c15 : (Jvm.Cond.code ({ cls := "java/lang/String", name := "<init>", desc := "([C)V" } : Jvm.MethodName) jdk_42_method_3_code (2 : Nat) (Option.none : Option Jvm.ClassFile.FieldType)).before args0 about1 = true := code_word (m := ⟨7, 1⟩) (meth := k7m1) (c := k7c1) (by decide +kernel) rfl rfl rfl (by decide +kernel)
set_option maxRecDepth 65536 in
theorem w_c16 : (Jvm.Cond.code ({ cls := "java/lang/String", name := "<init>", desc := "([CIILjava/lang/Void;)V" } : Jvm.MethodName) jdk_42_method_149_code (6 : Nat) (Option.none : Option Jvm.ClassFile.FieldType)).before args0 about1 = true := code_word (m := ⟨7, 5⟩) (meth := k7m5) (c := k7c5) (by decide +kernel) rfl rfl rfl (by decide +kernel)
set_option maxRecDepth 65536 in
theorem w_c17 : (Jvm.Cond.code ({ cls := "java/lang/StringUTF16", name := "compress", desc := "([CII)[B" } : Jvm.MethodName) jdk_52_method_16_code (6 : Nat) (Option.some (Jvm.ClassFile.FieldType.array Jvm.ClassFile.FieldType.byte))).before args0 about1 = true := code_word (m := ⟨10, 2⟩) (meth := k10m2) (c := k10c2) (by decide +kernel) rfl rfl rfl (by decide +kernel)
set_option maxRecDepth 65536 in
theorem w_c18 : (Jvm.Cond.code ({ cls := "java/lang/StringUTF16", name := "compress", desc := "([CI[BII)I" } : Jvm.MethodName) jdk_52_method_21_code (7 : Nat) (Option.some Jvm.ClassFile.FieldType.int)).before args0 about1 = true := code_word (m := ⟨10, 3⟩) (meth := k10m3) (c := k10c3) (by decide +kernel) rfl rfl rfl (by decide +kernel)
set_option maxRecDepth 65536 in
theorem w_c19 : (Jvm.Cond.code ({ cls := "java/lang/StringUTF16", name := "coderFromArrayLen", desc := "([BI)B" } : Jvm.MethodName) jdk_52_method_15_code (2 : Nat) (Option.some Jvm.ClassFile.FieldType.byte)).before args0 about1 = true := code_word (m := ⟨10, 1⟩) (meth := k10m1) (c := k10c1) (by decide +kernel) rfl rfl rfl (by decide +kernel)
set_option maxRecDepth 65536 in
theorem w_c20 : (Jvm.Cond.code ({ cls := "jdk/internal/util/ArraysSupport", name := "vectorizedHashCode", desc := "(Ljava/lang/Object;IIII)I" } : Jvm.MethodName) jdk_48_method_4_code (5 : Nat) (Option.some Jvm.ClassFile.FieldType.int)).before args0 about1 = true := code_word (m := ⟨11, 1⟩) (meth := k11m1) (c := k11c1) (by decide +kernel) rfl rfl rfl (by decide +kernel)
set_option maxRecDepth 65536 in
theorem w_c21 : (Jvm.Cond.code ({ cls := "jdk/internal/util/ArraysSupport", name := "signedHashCode", desc := "(I[BII)I" } : Jvm.MethodName) jdk_48_method_5_code (6 : Nat) (Option.some Jvm.ClassFile.FieldType.int)).before args0 about1 = true := code_word (m := ⟨11, 2⟩) (meth := k11m2) (c := k11c2) (by decide +kernel) rfl rfl rfl (by decide +kernel)
def codes1 : List Jvm.Cond := [Jvm.Cond.code x code maxLocals ret, Jvm.Cond.code ({ cls := "com/example/byteloom/byteloom/StringNumbersClearPinLaw", name := "mk", desc := "(I)Ljava/lang/String;" } : Jvm.MethodName) method_2_code (3 : Nat) (Option.some (Jvm.ClassFile.FieldType.object "java/lang/String")), Jvm.Cond.code ({ cls := "java/lang/String", name := "valueOf", desc := "(C)Ljava/lang/String;" } : Jvm.MethodName) jdk_42_method_139_code (1 : Nat) (Option.some (Jvm.ClassFile.FieldType.object "java/lang/String")), Jvm.Cond.code ({ cls := "java/lang/StringLatin1", name := "canEncode", desc := "(C)Z" } : Jvm.MethodName) jdk_43_method_3_code (1 : Nat) (Option.some Jvm.ClassFile.FieldType.boolean), Jvm.Cond.code ({ cls := "java/lang/StringLatin1", name := "toBytes", desc := "(C)[B" } : Jvm.MethodName) jdk_43_method_46_code (1 : Nat) (Option.some (Jvm.ClassFile.FieldType.array Jvm.ClassFile.FieldType.byte)), Jvm.Cond.code ({ cls := "java/lang/String", name := "<init>", desc := "([BB)V" } : Jvm.MethodName) jdk_42_method_151_code (3 : Nat) (Option.none : Option Jvm.ClassFile.FieldType), Jvm.Cond.code ({ cls := "java/lang/Object", name := "<init>", desc := "()V" } : Jvm.MethodName) object_method_1_code (1 : Nat) (Option.none : Option Jvm.ClassFile.FieldType), Jvm.Cond.code ({ cls := "com/example/byteloom/byteloom/StringNumbers", name := "<init>", desc := "()V" } : Jvm.MethodName) prog_52_method_1_code (1 : Nat) (Option.none : Option Jvm.ClassFile.FieldType), Jvm.Cond.code ({ cls := "com/example/byteloom/byteloom/StringNumbers", name := "putIfAbsent", desc := "(Ljava/lang/String;I)I" } : Jvm.MethodName) prog_52_method_2_code (6 : Nat) (Option.some Jvm.ClassFile.FieldType.int), Jvm.Cond.code ({ cls := "java/lang/String", name := "hashCode", desc := "()I" } : Jvm.MethodName) jdk_42_method_78_code (2 : Nat) (Option.some Jvm.ClassFile.FieldType.int), Jvm.Cond.code ({ cls := "java/lang/String", name := "isLatin1", desc := "()Z" } : Jvm.MethodName) jdk_42_method_154_code (1 : Nat) (Option.some Jvm.ClassFile.FieldType.boolean), Jvm.Cond.code ({ cls := "java/lang/StringLatin1", name := "hashCode", desc := "([B)I" } : Jvm.MethodName) jdk_43_method_21_code (1 : Nat) (Option.some Jvm.ClassFile.FieldType.int), Jvm.Cond.code ({ cls := "com/example/byteloom/byteloom/StringNumbers", name := "clear", desc := "()V" } : Jvm.MethodName) prog_52_method_3_code (2 : Nat) (Option.none : Option Jvm.ClassFile.FieldType), Jvm.Cond.code ({ cls := "java/lang/String", name := "equals", desc := "(Ljava/lang/Object;)Z" } : Jvm.MethodName) jdk_42_method_66_code (3 : Nat) (Option.some Jvm.ClassFile.FieldType.boolean), Jvm.Cond.code ({ cls := "java/lang/StringLatin1", name := "equals", desc := "([B[B)Z" } : Jvm.MethodName) jdk_43_method_13_code (3 : Nat) (Option.some Jvm.ClassFile.FieldType.boolean), Jvm.Cond.code ({ cls := "java/lang/String", name := "<init>", desc := "([C)V" } : Jvm.MethodName) jdk_42_method_3_code (2 : Nat) (Option.none : Option Jvm.ClassFile.FieldType), Jvm.Cond.code ({ cls := "java/lang/String", name := "<init>", desc := "([CIILjava/lang/Void;)V" } : Jvm.MethodName) jdk_42_method_149_code (6 : Nat) (Option.none : Option Jvm.ClassFile.FieldType), Jvm.Cond.code ({ cls := "java/lang/StringUTF16", name := "compress", desc := "([CII)[B" } : Jvm.MethodName) jdk_52_method_16_code (6 : Nat) (Option.some (Jvm.ClassFile.FieldType.array Jvm.ClassFile.FieldType.byte)), Jvm.Cond.code ({ cls := "java/lang/StringUTF16", name := "compress", desc := "([CI[BII)I" } : Jvm.MethodName) jdk_52_method_21_code (7 : Nat) (Option.some Jvm.ClassFile.FieldType.int), Jvm.Cond.code ({ cls := "java/lang/StringUTF16", name := "coderFromArrayLen", desc := "([BI)B" } : Jvm.MethodName) jdk_52_method_15_code (2 : Nat) (Option.some Jvm.ClassFile.FieldType.byte), Jvm.Cond.code ({ cls := "jdk/internal/util/ArraysSupport", name := "vectorizedHashCode", desc := "(Ljava/lang/Object;IIII)I" } : Jvm.MethodName) jdk_48_method_4_code (5 : Nat) (Option.some Jvm.ClassFile.FieldType.int), Jvm.Cond.code ({ cls := "jdk/internal/util/ArraysSupport", name := "signedHashCode", desc := "(I[BII)I" } : Jvm.MethodName) jdk_48_method_5_code (6 : Nat) (Option.some Jvm.ClassFile.FieldType.int)]
set_option maxRecDepth 65536 in
theorem codes_eq : words1.filter isCode = codes1 := rfl
theorem w_codes : ∀ c ∈ words1.filter isCode, c.before args0 about1 = true := by
  rw [codes_eq]
  intro c hc
  simp only [codes1, List.mem_cons, List.not_mem_nil, or_false] at hc
  rcases hc with rfl | rfl | rfl | rfl | rfl | rfl | rfl | rfl | rfl | rfl | rfl | rfl | rfl | rfl | rfl | rfl | rfl | rfl | rfl | rfl | rfl | rfl
  · exact w_c0
  · exact w_c1
  · exact w_c2
  · exact w_c3
  · exact w_c4
  · exact w_c5
  · exact w_c6
  · exact w_c7
  · exact w_c8
  · exact w_c9
  · exact w_c10
  · exact w_c11
  · exact w_c12
  · exact w_c13
  · exact w_c14
  · exact w_c15
  · exact w_c16
  · exact w_c17
  · exact w_c18
  · exact w_c19
  · exact w_c20
  · exact w_c21
set_option maxRecDepth 65536 in
theorem w_t1 : (words1.take 24).all (fun c => isCode c || c.before args0 about1) = true := by decide +kernel
set_option maxRecDepth 65536 in
theorem w_t2 : ((words1.drop 24).take 24).all (fun c => isCode c || c.before args0 about1) = true := by decide +kernel
set_option maxRecDepth 65536 in
theorem w_t3 : (((words1.drop 24).drop 24).take 24).all (fun c => isCode c || c.before args0 about1) = true := by decide +kernel
set_option maxRecDepth 65536 in
theorem w_t4 : ((((words1.drop 24).drop 24).drop 24).take 24).all (fun c => isCode c || c.before args0 about1) = true := by decide +kernel
set_option maxRecDepth 65536 in
theorem w_t5 : ((((words1.drop 24).drop 24).drop 24).drop 24).all (fun c => isCode c || c.before args0 about1) = true := by decide +kernel
theorem w_tables : (allAtoms (Jvm.Cond.code x code maxLocals ret :: tables_1)).before args0 about1 = true := by
  rw [allAtoms_all]
  show words1.all (fun c => c.before args0 about1) = true
  refine all_split ?_ w_codes
  rw [← List.take_append_drop 24 words1, List.all_append, w_t1, ← List.take_append_drop 24 (words1.drop 24), List.all_append, w_t2, ← List.take_append_drop 24 ((words1.drop 24).drop 24), List.all_append, w_t3, ← List.take_append_drop 24 (((words1.drop 24).drop 24).drop 24), List.all_append, w_t4, w_t5]
  rfl
set_option maxRecDepth 65536 in
theorem w_rest : rest_1_c.before args0 about1 = true := by decide +kernel
set_option maxRecDepth 65536 in
theorem w_case : (Jvm.Cond.and given_1 narrow_1).before args0 about1 = true := by decide +kernel
theorem w_applies : (headSpec (Jvm.Cond.code x code maxLocals ret :: tables_1) room_1).applies x e0.platform about1 = true :=
  (Spec.applies_iff w_frames).mpr ⟨w_running, w_runnable, w_alone, w_named, w_hears, w_ripe, w_room, w_tables⟩
theorem atStart : AtStart classFile x code maxLocals ret World_1 tables_1 room_1 Calls_1 rest_1 Pre_1 launch0 p0 e0 about1 theMethod args0 below0 :=
  ⟨lists_1, trivial, launch0.admits_env _ _ _, launch0.least_env, fairChoices_fair.cas, fairChoices_fair.clock, w_frames, w_args, w_heap, w_applies, trivial, w_rest, w_case⟩
end start1
theorem witness_1 : WitnessClaimed_1 := ⟨start1.p0, start1.e0, start1.about1, start1.theMethod, start1.args0, start1.below0, start1.atStart⟩
end Jvm.Pilot.@@N@@
