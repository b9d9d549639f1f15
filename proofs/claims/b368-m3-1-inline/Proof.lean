import JvmDerived
import JvmDerived.Pilot.@@N@@Statement
import JvmDerived.Pilot.@@N@@Code
set_option linter.unusedVariables false
set_option linter.unusedSimpArgs false
set_option maxRecDepth 65536
set_option maxHeartbeats 40000000
namespace Jvm.RoadKit
open Sem ClassFile Op Lib Jvm.Stand Jvm.Free Jvm.LawKit
section New
variable {p : Program} {l : Launch} {e : Env} {R : Room} {s : State} {m : MethodId} {args : Array Value} {below : List Frame} {meth : Method} {c : Code} {T : State} {locs : List Loc} {cells slots : Nat}
theorem retI (X : Stand p l e R s m args below meth c T locs cells slots) (hx : p.tables.exec = Jvm.exec) {pc : Nat} {Ls : Array Slot} {z : Int32} {rest : List Value} (hret : meth.sig.returnType = some .int) (hd : decode c.code pc = .ok (.ireturn, 1)) {fs : List Frame}
    (hl : ∀ (f : JFrame) (acts : List Action), f.method = m → f.locked = none → f.entered = [] → (doReturn e (T.setTop f) acts (some (.int z))).1 = T.setFrames fs) : Steps p.tables e below (T.setTop (mkF m pc Ls (.int z :: rest))) (T.setFrames fs) := by
  have hm' : T.vm.method? m = some meth := X.method'
  have hn : narrow .int (.int z) = .int z := rfl
  show Steps p.tables e below (T.setTop { method := m, pc := pc, locals := Ls, stack := _ :: rest, locked := none }) _
  jvm_step X.here [X.here.top, hx, hd, hm', hret, hn]
  first | (intro acts; rw [hl _ acts rfl rfl rfl]) | rw [hl _ _ rfl rfl rfl]
  exact Steps.refl _
end New
end Jvm.RoadKit
/- laws to paste: Road.backV (cut by pick.py; bodies as the Statement names them) -/
namespace Jvm.Pilot.@@N@@
namespace StrChars
open Jvm Sem ClassFile Op Lib Jvm.Stand Jvm.Free.XT Jvm.Free.ALB Jvm.Free.JM Jvm.Free
open Jvm.Lib.Cold (StaticIs)
/-- a char array whose places are chars -/
def Ch (a : Addr) (A : Cell) (U : State) : Prop := Arr .char a A U ∧ Typed .char A
theorem Ch.mv {a : Addr} {A : Cell} {U U' : State} (h : Ch a A U) (hal : U.vm.Alike U'.vm) (hh : U'.heap = U.heap) : Ch a A U' := ⟨h.1.mv hal hh, h.2⟩
theorem Ch.keep {a : Addr} {A : Cell} {U U' : State} (h : Ch a A U) (hal : U.vm.Alike U'.vm) (hk : U'.heap[a]? = some A) : Ch a A U' := ⟨h.1.keep hal hk, h.2⟩
/-- what place i of a char[]'s cell holds -/
def cv (A : Cell) (i : Nat) : Int32 := match A.slots[i]? with | some (.int x) => x | _ => 0
theorem Ch.get {a : Addr} {A : Cell} {U : State} (h : Ch a A U) {i : Nat} (hi : i < A.slots.size) : A.slots[i]? = some (.int (cv A i)) := by
  have e := Array.getElem?_eq_getElem hi
  have f := h.2 i _ e
  unfold cv; rw [e]
  generalize A.slots[i] = v at f
  cases v <;> simp [fits] at f ⊢
/-- the byte that i2b leaves of a char -/
def lo8 (x : Int32) : Int32 := x.toInt8.toInt32
theorem fits_lo8 (y : Int32) : fits .byte (.int (lo8 y)) = true := by
  have h1 := y.toInt8.le_toInt
  have h2 := y.toInt8.toInt_lt
  simp only [lo8, fits, Bool.and_eq_true, decide_eq_true_eq, Int32.le_iff_toInt_le, Int8.toInt_toInt32, show (-128 : Int32).toInt = -128 from by decide, show (127 : Int32).toInt = 127 from by decide]
  omega
/-- A' is A but that each place j of lo .. hi - 1 holds f j -/
def Laid (A A' : Cell) (lo hi : Nat) (f : Nat → Value) : Prop := A'.cls = A.cls ∧ A'.vm = A.vm ∧ A'.slots.size = A.slots.size ∧ ∀ i, A'.slots[i]? = if lo ≤ i ∧ i < hi then some (f i) else A.slots[i]?
theorem Laid.zero (A : Cell) (lo : Nat) (f : Nat → Value) : Laid A A lo (lo + 0) f := ⟨rfl, rfl, rfl, fun i => by rw [if_neg (by omega)]⟩
theorem Laid.step {A Ak : Cell} {lo k : Nat} {f : Nat → Value} {v : Value} (h : Laid A Ak lo k f) (hlo : lo ≤ k) (hk : k < Ak.slots.size) (hv : v = f k) : Laid A (Ak.setSlot k v) lo (k + 1) f := by
  refine ⟨h.1, h.2.1, by simpa [Cell.setSlot] using h.2.2.1, fun i => ?_⟩
  by_cases e : k = i
  · subst e; rw [Cell.slots_setSlot_self v hk, if_pos (by omega), hv]
  · rw [Cell.slots_setSlot_ne v e, h.2.2.2 i]
    by_cases q : lo ≤ i ∧ i < k
    · rw [if_pos q, if_pos (by omega)]
    · rw [if_neg q, if_neg (by omega)]
def U16 : String := "java/lang/StringUTF16"
namespace Cmp5
def yN : MethodName := ⟨"java/lang/StringUTF16", "compress", "([CI[BII)I"⟩
abbrev yB : ByteArray := jdk_52_method_21_code
theorem d0 : decode yB 0 = .ok (.iconst 0, 1) := by decide +kernel
theorem d1 : decode yB 1 = .ok (.istore 5, 2) := by decide +kernel
theorem d3 : decode yB 3 = .ok (.iload 5, 2) := by decide +kernel
theorem d5 : decode yB 5 = .ok (.iload 4, 2) := by decide +kernel
theorem d7 : decode yB 7 = .ok (.if_icmp (.ge) 37, 3) := by decide +kernel
theorem d10 : decode yB 10 = .ok (.aload_n 0, 1) := by decide +kernel
theorem d11 : decode yB 11 = .ok (.iload_n 1, 1) := by decide +kernel
theorem d12 : decode yB 12 = .ok (.caload, 1) := by decide +kernel
theorem d13 : decode yB 13 = .ok (.istore 6, 2) := by decide +kernel
theorem d15 : decode yB 15 = .ok (.iload 6, 2) := by decide +kernel
theorem d17 : decode yB 17 = .ok (.sipush 255, 3) := by decide +kernel
theorem d20 : decode yB 20 = .ok (.if_icmp (.le) 6, 3) := by decide +kernel
theorem d26 : decode yB 26 = .ok (.aload_n 2, 1) := by decide +kernel
theorem d27 : decode yB 27 = .ok (.iload_n 3, 1) := by decide +kernel
theorem d28 : decode yB 28 = .ok (.iload 6, 2) := by decide +kernel
theorem d30 : decode yB 30 = .ok (.i2b, 1) := by decide +kernel
theorem d31 : decode yB 31 = .ok (.bastore, 1) := by decide +kernel
theorem d32 : decode yB 32 = .ok (.iinc 1 1, 3) := by decide +kernel
theorem d35 : decode yB 35 = .ok (.iinc 3 1, 3) := by decide +kernel
theorem d38 : decode yB 38 = .ok (.iinc 5 1, 3) := by decide +kernel
theorem d41 : decode yB 41 = .ok (.goto (-38), 3) := by decide +kernel
theorem d44 : decode yB 44 = .ok (.iload 4, 2) := by decide +kernel
theorem d46 : decode yB 46 = .ok (.ireturn, 1) := by decide +kernel
def site : List Cond := []
def tab : Cond := tabOf yN yB 7 (some .int) site
def P (b : Addr) (A : Cell) (d : Addr) (B : Cell) (o q len : Nat) (args : Array Value) (s : State) : Prop := args = #[.ref b, .int (Int32.ofNat o), .ref d, .int (Int32.ofNat q), .int (Int32.ofNat len)] ∧ Ch b A s ∧ Arr .byte d B s ∧ b ≠ d ∧ o + len ≤ A.slots.size ∧ q + len ≤ B.slots.size ∧ ∀ i, i < len → ¬ 255 < cv A (o + i)
def E (b : Addr) (A : Cell) (d : Addr) (B : Cell) (o q len : Nat) (r : Option Value) (s u : State) : Prop := r = some (.int (Int32.ofNat len)) ∧ ∃ B', Put d B' s u ∧ Laid B B' q (q + len) (fun j => Value.int (lo8 (cv A (o + (j - q)))))
/-- no char of the range above 255: len; the places written hold each char's low byte -/
theorem law (l : Launch) (b : Addr) (A : Cell) (d : Addr) (B : Cell) (o q len : Nat) : Law l yN 5 5 0 0 yB 7 (some .int) site (P b A d B o q len) (E b A d B o q len) (copyLocs d q len) 0 0 := by
  refine Law.of_walk (plainFor_of_name (by decide +kernel)) (by decide +kernel) (by decide +kernel) (by decide) (fun _ _ h => by rw [h.1]; rfl) (fun _ U U' hal hh h => ⟨h.1, h.2.1.mv hal hh, h.2.2.1.mv hal hh, h.2.2.2⟩) (fun r U U' V V' h1 hal h2 h => ⟨h.1, h.2.elim fun B' q => ⟨B', q.1.mv h1 h2, q.2⟩⟩) ?_
  intro p e s m args below meth c s₁ X0 hexec hbytes hml hret hlk hnm hown hh0 W hP
  obtain ⟨rfl, hA, hB, hne, l1, l2, hp⟩ := hP
  have c1 : Steps p.tables e below (s₁.setTop (entryFrame m #[.ref b, .int (Int32.ofNat o), .ref d, .int (Int32.ofNat q), .int (Int32.ofNat len)] 7)) (s₁.setTop (mkF m 0 #[.val (.ref b), .val (.int (Int32.ofNat o)), .val (.ref d), .val (.int (Int32.ofNat q)), .val (.int (Int32.ofNat len)), .unset, .unset] [])) := entry rfl
  have hA0 := hA.1.mv X0.warmed.alike hh0
  have hB0 := hB.mv X0.warmed.alike hh0
  have a31 := hA.1.2.2.2
  have c2 : Steps p.tables e below (s₁.setTop (entryFrame m #[.ref b, .int (Int32.ofNat o), .ref d, .int (Int32.ofNat q), .int (Int32.ofNat len)] 7)) (s₁.setTop (mkF m 3 #[.val (.ref b), .val (.int (Int32.ofNat o)), .val (.ref d), .val (.int (Int32.ofNat q)), .val (.int (Int32.ofNat len)), .val (.int 0), .unset] [])) := c1.trans (by
    refine iconstV X0.here hexec rfl 0 (hb hbytes d0) (by decide) ?_
    refine XS.istore X0.here hexec rfl (hb hbytes d1) rfl rfl ?_
    exact Steps.refl _)
  have loop : ∀ (r i : Nat), i + r = len → ∀ (z : Slot), (z = .unset ∨ ∃ w, z = .val w ∧ w.category = 1) → ∀ (Tl : State) (Bk : Cell), Stand p l e { frames := 0, locals := 0, cells := 0, slots := 0 } s m #[.ref b, .int (Int32.ofNat o), .ref d, .int (Int32.ofNat q), .int (Int32.ofNat len)] below meth c Tl ([] ++ copyLocs d q i) 0 0 → Put d Bk s₁ Tl → Laid B Bk q (q + i) (fun j => Value.int (lo8 (cv A (o + (j - q))))) →
      Steps p.tables e below (s₁.setTop (entryFrame m #[.ref b, .int (Int32.ofNat o), .ref d, .int (Int32.ofNat q), .int (Int32.ofNat len)] 7)) (Tl.setTop (mkF m 3 #[.val (.ref b), .val (.int (Int32.ofNat (o + i))), .val (.ref d), .val (.int (Int32.ofNat (q + i))), .val (.int (Int32.ofNat len)), .val (.int (Int32.ofNat i)), z] [])) → ∃ (T' : State) (B' : Cell) (z' : Slot), Stand p l e { frames := 0, locals := 0, cells := 0, slots := 0 } s m #[.ref b, .int (Int32.ofNat o), .ref d, .int (Int32.ofNat q), .int (Int32.ofNat len)] below meth c T' ([] ++ copyLocs d q len) 0 0 ∧ Put d B' s₁ T' ∧ Laid B B' q (q + len) (fun j => Value.int (lo8 (cv A (o + (j - q))))) ∧
      Steps p.tables e below (s₁.setTop (entryFrame m #[.ref b, .int (Int32.ofNat o), .ref d, .int (Int32.ofNat q), .int (Int32.ofNat len)] 7)) (T'.setTop (mkF m 3 #[.val (.ref b), .val (.int (Int32.ofNat (o + len))), .val (.ref d), .val (.int (Int32.ofNat (q + len))), .val (.int (Int32.ofNat len)), .val (.int (Int32.ofNat len)), z'] [])) := by
    intro r
    induction r with
    | zero =>
      intro i hi z hz Tl Bk Xl pl fl cl
      have hil : i = len := by omega
      rw [hil] at Xl fl cl
      exact ⟨Tl, Bk, z, Xl, pl, fl, cl⟩
    | succ r ih =>
      intro i hi z hz Tl Bk Xl pl fl cl
      have all := X0.warmed.alike.symm.trans Xl.warmed.alike
      have hAl := hA0.keep all (pl.other hne hA0.1)
      have hBk := hB0.like all pl.1 fl.1 fl.2.1 fl.2.2.1
      have hlt : q + i < Bk.slots.size := by rw [fl.2.2.1]; omega
      have c3 : Steps p.tables e below (s₁.setTop (entryFrame m #[.ref b, .int (Int32.ofNat o), .ref d, .int (Int32.ofNat q), .int (Int32.ofNat len)] 7)) (Tl.setTop (mkF m 12 #[.val (.ref b), .val (.int (Int32.ofNat (o + i))), .val (.ref d), .val (.int (Int32.ofNat (q + i))), .val (.int (Int32.ofNat len)), .val (.int (Int32.ofNat i)), z] [.int (Int32.ofNat (o + i)), .ref b])) := cl.trans (by
        refine XS.iload Xl.here hexec rfl (hb hbytes d3) rfl ?_
        refine XS.iload Xl.here hexec rfl (hb hbytes d5) rfl ?_
        refine XS.icmpNo Xl.here hexec rfl (hb hbytes d7) rfl (ii_ge_f (lt32 (by omega) (by omega))) ?_
        refine XS.aloadN Xl.here hexec rfl (hb hbytes d10) rfl rfl ?_
        refine XS.iloadN Xl.here hexec rfl (hb hbytes d11) rfl ?_
        exact Steps.refl _)
      have c4 : Steps p.tables e below (s₁.setTop (entryFrame m #[.ref b, .int (Int32.ofNat o), .ref d, .int (Int32.ofNat q), .int (Int32.ofNat len)] 7)) (Tl.setTop (mkF m 13 #[.val (.ref b), .val (.int (Int32.ofNat (o + i))), .val (.ref d), .val (.int (Int32.ofNat (q + i))), .val (.int (Int32.ofNat len)), .val (.int (Int32.ofNat i)), z] [.int (cv A (o + i))])) := c3.trans (by
        refine Xl.aget hexec hAl rfl (hA.get (i := o + i) (by omega)) rfl rfl (hb hbytes d12) ?_
        exact Steps.refl _)
      have c5 : Steps p.tables e below (s₁.setTop (entryFrame m #[.ref b, .int (Int32.ofNat o), .ref d, .int (Int32.ofNat q), .int (Int32.ofNat len)] 7)) (Tl.setTop (mkF m 15 #[.val (.ref b), .val (.int (Int32.ofNat (o + i))), .val (.ref d), .val (.int (Int32.ofNat (q + i))), .val (.int (Int32.ofNat len)), .val (.int (Int32.ofNat i)), .val (.int (cv A (o + i)))] [])) := c4.trans (by
        refine XS.istoreS Xl.here hexec rfl (hb hbytes d13) rfl rfl hz ?_
        exact Steps.refl _)
      have c6 : Steps p.tables e below (s₁.setTop (entryFrame m #[.ref b, .int (Int32.ofNat o), .ref d, .int (Int32.ofNat q), .int (Int32.ofNat len)] 7)) (Tl.setTop (mkF m 31 #[.val (.ref b), .val (.int (Int32.ofNat (o + i))), .val (.ref d), .val (.int (Int32.ofNat (q + i))), .val (.int (Int32.ofNat len)), .val (.int (Int32.ofNat i)), .val (.int (cv A (o + i)))] [.int (lo8 (cv A (o + i))), .int (Int32.ofNat (q + i)), .ref d])) := c5.trans (by
        refine XS.iload Xl.here hexec rfl (hb hbytes d15) rfl ?_
        refine sipushV Xl.here hexec rfl 255 (hb hbytes d17) (by decide) ?_
        refine XS.icmpYes Xl.here hexec rfl (pc0 := 20) rfl (hb hbytes d20) rfl (ii_le_t (hp i (by omega))) (by decide) rfl ?_
        refine XS.aloadN Xl.here hexec rfl (hb hbytes d26) rfl rfl ?_
        refine XS.iloadN Xl.here hexec rfl (hb hbytes d27) rfl ?_
        refine XS.iload Xl.here hexec rfl (hb hbytes d28) rfl ?_
        refine i2b Xl.here hexec rfl (hb hbytes d30) rfl ?_
        exact Steps.refl _)
      obtain ⟨T7, X7, p7, st7⟩ := Xl.aput hexec hBk rfl hlt rfl (fits_lo8 (cv A (o + i))) (g := (mkF m 31 #[.val (.ref b), .val (.int (Int32.ofNat (o + i))), .val (.ref d), .val (.int (Int32.ofNat (q + i))), .val (.int (Int32.ofNat len)), .val (.int (Int32.ofNat i)), .val (.int (cv A (o + i)))] [.int (lo8 (cv A (o + i))), .int (Int32.ofNat (q + i)), .ref d])) rfl (rest := []) rfl (hb hbytes d31)
      have c8 : Steps p.tables e below (s₁.setTop (entryFrame m #[.ref b, .int (Int32.ofNat o), .ref d, .int (Int32.ofNat q), .int (Int32.ofNat len)] 7)) (T7.setTop (mkF m 32 #[.val (.ref b), .val (.int (Int32.ofNat (o + i))), .val (.ref d), .val (.int (Int32.ofNat (q + i))), .val (.int (Int32.ofNat len)), .val (.int (Int32.ofNat i)), .val (.int (cv A (o + i)))] [])) := c6.trans (st7 _ (Steps.refl _))
      have c9 : Steps p.tables e below (s₁.setTop (entryFrame m #[.ref b, .int (Int32.ofNat o), .ref d, .int (Int32.ofNat q), .int (Int32.ofNat len)] 7)) (T7.setTop (mkF m 3 #[.val (.ref b), .val (.int (Int32.ofNat (o + i) + 1)), .val (.ref d), .val (.int (Int32.ofNat (q + i) + 1)), .val (.int (Int32.ofNat len)), .val (.int (Int32.ofNat i + 1)), .val (.int (cv A (o + i)))] [])) := c8.trans (by
        refine iincV X7.here hexec rfl 1 (hb hbytes d32) (by decide) rfl rfl ?_
        refine iincV X7.here hexec rfl 1 (hb hbytes d35) (by decide) rfl rfl ?_
        refine iincV X7.here hexec rfl 1 (hb hbytes d38) (by decide) rfl rfl ?_
        refine XS.goto X7.here hexec rfl (pc0 := 41) rfl (hb hbytes d41) (by decide) rfl ?_
        exact Steps.refl _)
      have c10 : Steps p.tables e below (s₁.setTop (entryFrame m #[.ref b, .int (Int32.ofNat o), .ref d, .int (Int32.ofNat q), .int (Int32.ofNat len)] 7)) (T7.setTop (mkF m 3 #[.val (.ref b), .val (.int (Int32.ofNat (o + (i + 1)))), .val (.ref d), .val (.int (Int32.ofNat (q + (i + 1)))), .val (.int (Int32.ofNat len)), .val (.int (Int32.ofNat (i + 1))), .val (.int (cv A (o + i)))] [])) := by
        have := c9
        rw [succ32, succ32, succ32] at this
        exact this
      exact ih (i + 1) (by omega) _ (Or.inr ⟨_, rfl, rfl⟩) T7 _ (by rw [copyLocs_step, ← List.append_assoc]; exact X7) (pl.trans p7) (fl.step (by omega) hlt (by simp)) c10
  obtain ⟨T9, B9, z9, X9, p9, f9, g9⟩ := loop len 0 (by omega) .unset (Or.inl rfl) s₁ B (by simpa [copyLocs] using X0) ⟨hB0.1, fun _ _ => rfl, rfl⟩ (Laid.zero _ _ _) c2
  have c11 : Steps p.tables e below (s₁.setTop (entryFrame m #[.ref b, .int (Int32.ofNat o), .ref d, .int (Int32.ofNat q), .int (Int32.ofNat len)] 7)) (T9.setTop (mkF m 46 #[.val (.ref b), .val (.int (Int32.ofNat (o + len))), .val (.ref d), .val (.int (Int32.ofNat (q + len))), .val (.int (Int32.ofNat len)), .val (.int (Int32.ofNat len)), z9] [.int (Int32.ofNat len)])) := g9.trans (by
    refine XS.iload X9.here hexec rfl (hb hbytes d3) rfl ?_
    refine XS.iload X9.here hexec rfl (hb hbytes d5) rfl ?_
    refine XS.icmpYes X9.here hexec rfl (pc0 := 7) rfl (hb hbytes d7) rfl (ii_ge_t (nlt32 (by omega) (Nat.le_refl _))) (by decide) rfl ?_
    refine XS.iload X9.here hexec rfl (hb hbytes d44) rfl ?_
    exact Steps.refl _)
  exact ⟨T9, some (.int (Int32.ofNat len)), _, _, _, X9, by simp, rfl, rfl, (fun h => by cases h), ⟨rfl, B9, p9.from hh0, f9⟩, fun fs hl => c11.trans (X9.ireturnOut hexec hret rfl (Or.inl rfl) (hb hbytes d46) hl)⟩
end Cmp5
namespace Cmp3
def yN : MethodName := ⟨"java/lang/StringUTF16", "compress", "([CII)[B"⟩
abbrev yB : ByteArray := jdk_52_method_16_code
theorem d0 : decode yB 0 = .ok (.iload_n 2, 1) := by decide +kernel
theorem d1 : decode yB 1 = .ok (.newarray .byte, 2) := by decide +kernel
theorem d3 : decode yB 3 = .ok (.astore_n 3, 1) := by decide +kernel
theorem d4 : decode yB 4 = .ok (.aload_n 0, 1) := by decide +kernel
theorem d5 : decode yB 5 = .ok (.iload_n 1, 1) := by decide +kernel
theorem d6 : decode yB 6 = .ok (.aload_n 3, 1) := by decide +kernel
theorem d7 : decode yB 7 = .ok (.iconst 0, 1) := by decide +kernel
theorem d8 : decode yB 8 = .ok (.iload_n 2, 1) := by decide +kernel
theorem d9 : decode yB 9 = .ok (.invokestatic 115, 3) := by decide +kernel
theorem d12 : decode yB 12 = .ok (.istore 4, 2) := by decide +kernel
theorem d14 : decode yB 14 = .ok (.iload 4, 2) := by decide +kernel
theorem d16 : decode yB 16 = .ok (.iload_n 2, 1) := by decide +kernel
theorem d17 : decode yB 17 = .ok (.if_icmp (.eq) 40, 3) := by decide +kernel
theorem d57 : decode yB 57 = .ok (.aload_n 3, 1) := by decide +kernel
theorem d58 : decode yB 58 = .ok (.areturn, 1) := by decide +kernel
def site : List Cond := [.arrayClass .byte, Cmp5.tab] ++ staticW U16 115 Cmp5.yN
def tab : Cond := tabOf yN yB 6 (some (.array .byte)) site
def P (b : Addr) (A : Cell) (o len : Nat) (args : Array Value) (s : State) : Prop := args = #[.ref b, .int (Int32.ofNat o), .int (Int32.ofNat len)] ∧ Ch b A s ∧ o + len ≤ A.slots.size ∧ len ≤ 536870912 ∧ ∀ i, i < len → ¬ 255 < cv A (o + i)
def E (b : Addr) (A : Cell) (o len : Nat) (r : Option Value) (s u : State) : Prop := NewArr .byte "[B" len (fun j => .int (lo8 (cv A (o + j)))) r s u ∧ u.heap.size = s.heap.size + 1
/-- no char of the range above 255: a new byte[] of their low bytes -/
theorem law (l : Launch) (b : Addr) (A : Cell) (o len : Nat) : Law l yN 3 3 1 18 yB 6 (some (.array .byte)) site (P b A o len) (E b A o len) [] 1 len := by
  refine Law.of_walk (plainFor_of_name (by decide +kernel)) (by decide +kernel) (by decide +kernel) (by decide) (fun _ _ h => by rw [h.1]; rfl) (fun _ U U' hal hh h => ⟨h.1, h.2.1.mv hal hh, h.2.2⟩) (fun r U U' V V' h1 hal h2 h => ⟨NewArr.mv r U U' V V' h1 hal h2 h.1, by rw [h1, h2]; exact h.2⟩) ?_
  intro p e s m args below meth c s₁ X0 hexec hbytes hml hret hlk hnm hown hh0 W hP
  obtain ⟨rfl, hA, l1, l2, hp⟩ := hP
  have a31 := hA.1.2.2.2
  have c1 : Steps p.tables e below (s₁.setTop (entryFrame m #[.ref b, .int (Int32.ofNat o), .int (Int32.ofNat len)] 6)) (s₁.setTop (mkF m 0 #[.val (.ref b), .val (.int (Int32.ofNat o)), .val (.int (Int32.ofNat len)), .unset, .unset, .unset] [])) := entry rfl
  have c2 : Steps p.tables e below (s₁.setTop (entryFrame m #[.ref b, .int (Int32.ofNat o), .int (Int32.ofNat len)] 6)) (s₁.setTop (mkF m 1 #[.val (.ref b), .val (.int (Int32.ofNat o)), .val (.int (Int32.ofNat len)), .unset, .unset, .unset] [.int (Int32.ofNat len)])) := c1.trans (by
    refine XS.iloadN X0.here hexec rfl (hb hbytes d0) rfl ?_
    exact Steps.refl _)
  obtain ⟨T3, B3, X3, ba3, bs3, bv3, bh3, bf3, st3⟩ := X0.anew hexec (atype := .byte) (wk W (.arrayClass .byte)) rfl (by show len * 1 ≤ _; omega) (by omega) (g := (mkF m 1 #[.val (.ref b), .val (.int (Int32.ofNat o)), .val (.int (Int32.ofNat len)), .unset, .unset, .unset] [.int (Int32.ofNat len)])) rfl (hb hbytes d1) (rest := []) rfl (Nat.le_refl _) (by show 0 + len ≤ len; omega)
  rw [hh0] at ba3 st3
  have kp3 : XT.Kept s T3 := (XT.Kept.of_eq hh0).push bh3
  have hA3 := hA.keep X3.warmed.alike (kp3 _ _ hA.1.1)
  have hne : b ≠ s.heap.size := hA.1.ne
  have c4 : Steps p.tables e below (s₁.setTop (entryFrame m #[.ref b, .int (Int32.ofNat o), .int (Int32.ofNat len)] 6)) (T3.setTop (mkF m 3 #[.val (.ref b), .val (.int (Int32.ofNat o)), .val (.int (Int32.ofNat len)), .unset, .unset, .unset] [.ref s.heap.size])) := c2.trans (st3 _ (Steps.refl _))
  have c5 : Steps p.tables e below (s₁.setTop (entryFrame m #[.ref b, .int (Int32.ofNat o), .int (Int32.ofNat len)] 6)) (T3.setTop (mkF m 9 #[.val (.ref b), .val (.int (Int32.ofNat o)), .val (.int (Int32.ofNat len)), .val (.ref s.heap.size), .unset, .unset] [.int (Int32.ofNat len), .int 0, .ref s.heap.size, .int (Int32.ofNat o), .ref b])) := c4.trans (by
    refine XS.astoreN X3.here hexec rfl (hb hbytes d3) rfl rfl rfl ?_
    refine XS.aloadN X3.here hexec rfl (hb hbytes d4) rfl rfl ?_
    refine XS.iloadN X3.here hexec rfl (hb hbytes d5) rfl ?_
    refine XS.aloadN X3.here hexec rfl (hb hbytes d6) rfl rfl ?_
    refine iconstV X3.here hexec rfl 0 (hb hbytes d7) (by decide) ?_
    refine XS.iloadN X3.here hexec rfl (hb hbytes d8) rfl ?_
    exact Steps.refl _)
  obtain ⟨v6, T6, X6, E6, g6⟩ := X3.callS hexec (Cmp5.law l b A s.heap.size B3 o 0 len) hown (wks W (staticW U16 115 Cmp5.yN)) (wk W Cmp5.tab) (W := 0) (Nat.le_of_ble_eq_true rfl) (Nat.le_of_ble_eq_true rfl) (Nat.le_refl _) (by show 0 + len + 0 ≤ len; omega) (g := (mkF m 9 #[.val (.ref b), .val (.int (Int32.ofNat o)), .val (.int (Int32.ofNat len)), .val (.ref s.heap.size), .unset, .unset] [.int (Int32.ofNat len), .int (Int32.ofNat 0), .ref s.heap.size, .int (Int32.ofNat o), .ref b])) rfl (by rw [hml]; rfl) c5 (argsL := [.ref b, .int (Int32.ofNat o), .ref s.heap.size, .int (Int32.ofNat 0), .int (Int32.ofNat len)]) (rest := []) rfl rfl (by show 2 * 0 + 0 ≤ _; decide) (hb hbytes d9) (⟨rfl, hA3, ba3, hne, l1, by rw [bs3]; simp, hp⟩)
  obtain ⟨rfl, B6, p6, f6⟩ := E6
  have c7 : Steps p.tables e below (s₁.setTop (entryFrame m #[.ref b, .int (Int32.ofNat o), .int (Int32.ofNat len)] 6)) (T6.setTop (mkF m 12 #[.val (.ref b), .val (.int (Int32.ofNat o)), .val (.int (Int32.ofNat len)), .val (.ref s.heap.size), .unset, .unset] [.int (Int32.ofNat len)])) := g6
  have c8 : Steps p.tables e below (s₁.setTop (entryFrame m #[.ref b, .int (Int32.ofNat o), .int (Int32.ofNat len)] 6)) (T6.setTop (mkF m 58 #[.val (.ref b), .val (.int (Int32.ofNat o)), .val (.int (Int32.ofNat len)), .val (.ref s.heap.size), .val (.int (Int32.ofNat len)), .unset] [.ref s.heap.size])) := c7.trans (by
    refine XS.istore X6.here hexec rfl (hb hbytes d12) rfl rfl ?_
    refine XS.iload X6.here hexec rfl (hb hbytes d14) rfl ?_
    refine XS.iloadN X6.here hexec rfl (hb hbytes d16) rfl ?_
    refine XS.icmpYes X6.here hexec rfl (pc0 := 17) rfl (hb hbytes d17) rfl (ii_eq_t rfl) (by decide) rfl ?_
    refine XS.aloadN X6.here hexec rfl (hb hbytes d57) rfl rfl ?_
    exact Steps.refl _)
  have X8 := X6.wide (L' := []) (cells' := 1) (slots' := len) (fun x hx hlt => by
    simp only [List.nil_append, copyLocs, List.mem_map, List.mem_range] at hx
    obtain ⟨i, -, rfl⟩ := hx
    exact absurd hlt (Nat.lt_irrefl _)) (Nat.le_refl _) (by omega)
  exact ⟨T6, some (.ref s.heap.size), _, _, _, X8, rfl, rfl, rfl, (fun h => by cases h), ⟨⟨rfl, B6, ba3.like (X3.warmed.alike.symm.trans X6.warmed.alike) p6.1 f6.1 f6.2.1 f6.2.2.1, f6.2.1.trans bv3, by rw [X6.warmed.alike.findClass, f6.1]; exact bf3, by rw [f6.2.2.1, bs3]; simp, fun j hj => by rw [f6.2.2.2 j, if_pos (by omega)]; rfl, kp3.put p6 (Nat.le_refl _)⟩, by rw [p6.2.2, bh3, hh0]; simp⟩, fun fs hl => c8.trans (X8.areturnOut hexec rfl hret rfl (hb hbytes d58) hl)⟩
end Cmp3
namespace CodL
def yN : MethodName := ⟨"java/lang/StringUTF16", "coderFromArrayLen", "([BI)B"⟩
abbrev yB : ByteArray := jdk_52_method_15_code
theorem d0 : decode yB 0 = .ok (.iload_n 1, 1) := by decide +kernel
theorem d1 : decode yB 1 = .ok (.aload_n 0, 1) := by decide +kernel
theorem d2 : decode yB 2 = .ok (.arraylength, 1) := by decide +kernel
theorem d3 : decode yB 3 = .ok (.isub, 1) := by decide +kernel
theorem d4 : decode yB 4 = .ok (.bipush 31, 2) := by decide +kernel
theorem d6 : decode yB 6 = .ok (.iushr, 1) := by decide +kernel
theorem d7 : decode yB 7 = .ok (.i2b, 1) := by decide +kernel
theorem d8 : decode yB 8 = .ok (.ireturn, 1) := by decide +kernel
def site : List Cond := []
def tab : Cond := tabOf yN yB 2 (some .byte) site
def P (d : Addr) (B : Cell) (args : Array Value) (s : State) : Prop := args = #[.ref d, .int (Int32.ofNat B.slots.size)] ∧ Arr .byte d B s
def E (r : Option Value) (s u : State) : Prop := XT.PureE (some (.int 0)) r s u
/-- an array as long as the number of chars: LATIN1 -/
theorem law (l : Launch) (d : Addr) (B : Cell) : Law l yN 2 2 0 0 yB 2 (some .byte) site (P d B) E [] 0 0 := by
  refine Law.of_walk (plainFor_of_name (by decide +kernel)) (by decide +kernel) (by decide +kernel) (by decide) (fun _ _ h => by rw [h.1]; rfl) (fun _ U U' hal hh h => ⟨h.1, h.2.mv hal hh⟩) (fun r U U' V V' h1 hal h2 h => XT.PureE.mv r U U' V V' h1 hal h2 h) ?_
  intro p e s m args below meth c s₁ X0 hexec hbytes hml hret hlk hnm hown hh0 W hP
  obtain ⟨rfl, hB⟩ := hP
  have hB0 := hB.mv X0.warmed.alike hh0
  have c1 : Steps p.tables e below (s₁.setTop (entryFrame m #[.ref d, .int (Int32.ofNat B.slots.size)] 2)) (s₁.setTop (mkF m 0 #[.val (.ref d), .val (.int (Int32.ofNat B.slots.size))] [])) := entry rfl
  have c2 : Steps p.tables e below (s₁.setTop (entryFrame m #[.ref d, .int (Int32.ofNat B.slots.size)] 2)) (s₁.setTop (mkF m 2 #[.val (.ref d), .val (.int (Int32.ofNat B.slots.size))] [.ref d, .int (Int32.ofNat B.slots.size)])) := c1.trans (by
    refine XS.iloadN X0.here hexec rfl (hb hbytes d0) rfl ?_
    refine XS.aloadN X0.here hexec rfl (hb hbytes d1) rfl rfl ?_
    exact Steps.refl _)
  have c3 : Steps p.tables e below (s₁.setTop (entryFrame m #[.ref d, .int (Int32.ofNat B.slots.size)] 2)) (s₁.setTop (mkF m 8 #[.val (.ref d), .val (.int (Int32.ofNat B.slots.size))] [.int (lo8 (ushr (Int32.ofNat B.slots.size - Int32.ofNat B.slots.size) 31))])) := c2.trans (by
    refine X0.alen hexec hB0 rfl rfl (hb hbytes d2) ?_
    refine XS.isub X0.here hexec rfl (hb hbytes d3) rfl ?_
    refine bipushV X0.here hexec rfl 31 (hb hbytes d4) (by decide) ?_
    refine iushr X0.here hexec rfl (hb hbytes d6) rfl ?_
    refine i2b X0.here hexec rfl (hb hbytes d7) rfl ?_
    exact Steps.refl _)
  have e0 : lo8 (ushr (Int32.ofNat B.slots.size - Int32.ofNat B.slots.size) 31) = 0 := by rw [Int32.sub_self]; decide
  rw [e0] at c3
  exact ⟨s₁, some (.int 0), _, _, _, X0, rfl, rfl, rfl, (fun h => by cases h), ⟨rfl, hh0⟩, fun fs hl => c3.trans (X0.ireturnOut hexec hret rfl (Or.inr (Or.inr (Or.inl rfl))) (hb hbytes d8) hl)⟩
end CodL
/-- the String at a is Latin-1 over a new byte[] (the heap's one new cell): the low bytes of the len chars of A from o on; every cell but a is kept -/
def Got (a : Addr) (D : Cell) (fV fC : Field) (A : Cell) (o len : Nat) (r : Option Value) (s u : State) : Prop := r = none ∧ ∃ D' V : Cell, Blank "java/lang/String" a D' u ∧ Same D D' [fV.slot, fC.slot] ∧ D'.slots[fV.slot]? = some (.ref s.heap.size) ∧ D'.slots[fC.slot]? = some (.int 0) ∧ Arr .byte s.heap.size V u ∧ V.vm = .none ∧ u.vm.findClass "[B" = some V.cls ∧ V.slots.size = len ∧ (∀ j, j < len → V.slots[j]? = some (.int (lo8 (cv A (o + j))))) ∧ (∀ (y : Addr) (c : Cell), y ≠ a → s.heap[y]? = some c → u.heap[y]? = some c) ∧ u.heap.size = s.heap.size + 1
theorem Got.mv {a : Addr} {D A : Cell} {fV fC : Field} {o len : Nat} : ∀ r (U U' V V' : State), U'.heap = U.heap → V.vm.Alike V'.vm → V'.heap = V.heap → Got a D fV fC A o len r U V → Got a D fV fC A o len r U' V' :=
  fun r U U' V V' h1 hal h2 ⟨e0, D', X, a1, a2, a3, a4, a5, a6, a7, a8, a9, a10, a11⟩ => ⟨e0, D', X, a1.mv hal h2, a2, by rw [h1]; exact a3, a4, by rw [h1]; exact a5.mv hal h2, a6, by rw [hal.findClass]; exact a7, a8, a9, by rw [h1, h2]; exact a10, by rw [h1, h2]; exact a11⟩
namespace New4
def yN : MethodName := ⟨"java/lang/String", "<init>", "([CIILjava/lang/Void;)V"⟩
abbrev yB : ByteArray := jdk_42_method_149_code
theorem d0 : decode yB 0 = .ok (.aload_n 0, 1) := by decide +kernel
theorem d1 : decode yB 1 = .ok (.invokespecial 1, 3) := by decide +kernel
theorem d4 : decode yB 4 = .ok (.iload_n 3, 1) := by decide +kernel
theorem d5 : decode yB 5 = .ok (.ifCond (.ne) 22, 3) := by decide +kernel
theorem d27 : decode yB 27 = .ok (.getstatic 38, 3) := by decide +kernel
theorem d30 : decode yB 30 = .ok (.ifCond (.eq) 28, 3) := by decide +kernel
theorem d33 : decode yB 33 = .ok (.aload_n 1, 1) := by decide +kernel
theorem d34 : decode yB 34 = .ok (.iload_n 2, 1) := by decide +kernel
theorem d35 : decode yB 35 = .ok (.iload_n 3, 1) := by decide +kernel
theorem d36 : decode yB 36 = .ok (.invokestatic 177, 3) := by decide +kernel
theorem d39 : decode yB 39 = .ok (.astore 5, 2) := by decide +kernel
theorem d41 : decode yB 41 = .ok (.aload_n 0, 1) := by decide +kernel
theorem d42 : decode yB 42 = .ok (.aload 5, 2) := by decide +kernel
theorem d44 : decode yB 44 = .ok (.iload_n 3, 1) := by decide +kernel
theorem d45 : decode yB 45 = .ok (.invokestatic 47, 3) := by decide +kernel
theorem d48 : decode yB 48 = .ok (.putfield 15, 3) := by decide +kernel
theorem d51 : decode yB 51 = .ok (.aload_n 0, 1) := by decide +kernel
theorem d52 : decode yB 52 = .ok (.aload 5, 2) := by decide +kernel
theorem d54 : decode yB 54 = .ok (.putfield 9, 3) := by decide +kernel
theorem d57 : decode yB 57 = .ok (.return_, 1) := by decide +kernel
def site : List Cond := [.fieldLink "java/lang/String" 38 "java/lang/String" "COMPACT_STRINGS" "Z", Cmp3.tab, CodL.tab, .laysFinal "java/lang/String" "java/lang/String" "value" "[B", .fieldLink "java/lang/String" 9 "java/lang/String" "value" "[B", .laysFinal "java/lang/String" "java/lang/String" "coder" "B", .fieldLink "java/lang/String" 15 "java/lang/String" "coder" "B"] ++ objW "java/lang/String" 1 ++ staticW "java/lang/String" 177 Cmp3.yN ++ staticW "java/lang/String" 47 CodL.yN
def tab : Cond := tabOf yN yB 6 none site
def P (a : Addr) (D : Cell) (fV fC : Field) (b : Addr) (A : Cell) (z : Int32) (o len : Nat) (args : Array Value) (s : State) : Prop := args = #[.ref a, .ref b, .int (Int32.ofNat o), .int (Int32.ofNat len), .null] ∧ Blank "java/lang/String" a D s ∧ Found "java/lang/String" "value" "[B" fV s ∧ Found "java/lang/String" "coder" "B" fC s ∧ Ch b A s ∧ StaticIs s "java/lang/String" "COMPACT_STRINGS" "Z" (.int z) ∧ ¬ z = 0 ∧ 0 < len ∧ o + len ≤ A.slots.size ∧ len ≤ 536870912 ∧ ∀ i, i < len → ¬ 255 < cv A (o + i)
def E (a : Addr) (D : Cell) (fV fC : Field) (A : Cell) (o len : Nat) (r : Option Value) (s u : State) : Prop := Got a D fV fC A o len r s u
/-- len > 0, no char of the range above 255: a Latin-1 String of their low bytes -/
theorem law (l : Launch) (a : Addr) (D : Cell) (fV fC : Field) (b : Addr) (A : Cell) (z : Int32) (o len : Nat) : Law l yN 5 4 2 35 yB 6 none site (P a D fV fC b A z o len) (E a D fV fC A o len) [⟨a, fC.slot⟩, ⟨a, fV.slot⟩] 1 len := by
  refine Law.of_walk (plainFor_of_name (by decide +kernel)) (by decide +kernel) (by decide +kernel) (by decide) (fun _ _ h => by rw [h.1]; rfl) (fun _ U U' hal hh h => ⟨h.1, h.2.1.mv hal hh, h.2.2.1.al hal, h.2.2.2.1.al hal, h.2.2.2.2.1.mv hal hh, h.2.2.2.2.2.1.there hal hh, h.2.2.2.2.2.2⟩) (fun r U U' V V' h1 hal h2 h => Got.mv r U U' V V' h1 hal h2 h) ?_
  intro p e s m args below meth c s₁ X0 hexec hbytes hml hret hlk hnm hown hh0 W hP
  obtain ⟨rfl, hB, f1, f2, hA, s1, hz, l0, l1, l2, hp⟩ := hP
  have a31 := hA.1.2.2.2
  have c1 : Steps p.tables e below (s₁.setTop (entryFrame m #[.ref a, .ref b, .int (Int32.ofNat o), .int (Int32.ofNat len), .null] 6)) (s₁.setTop (mkF m 0 #[.val (.ref a), .val (.ref b), .val (.int (Int32.ofNat o)), .val (.int (Int32.ofNat len)), .val .null, .unset] [])) := entry rfl
  have c2 : Steps p.tables e below (s₁.setTop (entryFrame m #[.ref a, .ref b, .int (Int32.ofNat o), .int (Int32.ofNat len), .null] 6)) (s₁.setTop (mkF m 1 #[.val (.ref a), .val (.ref b), .val (.int (Int32.ofNat o)), .val (.int (Int32.ofNat len)), .val .null, .unset] [.ref a])) := c1.trans (by
    refine XS.aloadN X0.here hexec rfl (hb hbytes d0) rfl rfl ?_
    exact Steps.refl _)
  obtain ⟨T3, X3, q3, st3⟩ := X0.oinit hexec hown (wks W (objW "java/lang/String" 1)) (g := (mkF m 1 #[.val (.ref a), .val (.ref b), .val (.int (Int32.ofNat o)), .val (.int (Int32.ofNat len)), .val .null, .unset] [.ref a])) rfl (by rw [hml]; rfl) (rest := []) rfl (hb hbytes d1) (W := 0) (by show 2 * 0 + 0 ≤ _; decide) (Nat.le_of_ble_eq_true rfl) (Nat.le_of_ble_eq_true rfl)
  have hh3 := q3.trans hh0
  have c4 : Steps p.tables e below (s₁.setTop (entryFrame m #[.ref a, .ref b, .int (Int32.ofNat o), .int (Int32.ofNat len), .null] 6)) (T3.setTop (mkF m 27 #[.val (.ref a), .val (.ref b), .val (.int (Int32.ofNat o)), .val (.int (Int32.ofNat len)), .val .null, .unset] [])) := (c2.trans (st3 _ (Steps.refl _))).trans (by
    refine XS.iloadN X3.here hexec rfl (hb hbytes d4) rfl ?_
    refine XS.ifYes X3.here hexec rfl (pc0 := 5) rfl (hb hbytes d5) rfl (i0_ne_t (nz32 (by omega) l0)) (by decide) rfl ?_
    exact Steps.refl _)
  obtain ⟨T5, X5, q5, st5⟩ := X3.sget hexec hown (wk W (.fieldLink "java/lang/String" 38 "java/lang/String" "COMPACT_STRINGS" "Z")) s1 (fun _ _ h => by rw [hh3]; exact h) (g := (mkF m 27 #[.val (.ref a), .val (.ref b), .val (.int (Int32.ofNat o)), .val (.int (Int32.ofNat len)), .val .null, .unset] [])) rfl (hb hbytes d27)
  have hh5 := q5.trans hh3
  have c6 : Steps p.tables e below (s₁.setTop (entryFrame m #[.ref a, .ref b, .int (Int32.ofNat o), .int (Int32.ofNat len), .null] 6)) (T5.setTop (mkF m 30 #[.val (.ref a), .val (.ref b), .val (.int (Int32.ofNat o)), .val (.int (Int32.ofNat len)), .val .null, .unset] [.int z])) := c4.trans (st5 _ (Steps.refl _))
  have c7 : Steps p.tables e below (s₁.setTop (entryFrame m #[.ref a, .ref b, .int (Int32.ofNat o), .int (Int32.ofNat len), .null] 6)) (T5.setTop (mkF m 36 #[.val (.ref a), .val (.ref b), .val (.int (Int32.ofNat o)), .val (.int (Int32.ofNat len)), .val .null, .unset] [.int (Int32.ofNat len), .int (Int32.ofNat o), .ref b])) := c6.trans (by
    refine XS.ifNo X5.here hexec rfl (hb hbytes d30) rfl (i0_eq_f hz) ?_
    refine XS.aloadN X5.here hexec rfl (hb hbytes d33) rfl rfl ?_
    refine XS.iloadN X5.here hexec rfl (hb hbytes d34) rfl ?_
    refine XS.iloadN X5.here hexec rfl (hb hbytes d35) rfl ?_
    exact Steps.refl _)
  obtain ⟨v8, T8, X8, E8, g8⟩ := X5.callS hexec (Cmp3.law l b A o len) hown (wks W (staticW "java/lang/String" 177 Cmp3.yN)) (wk W Cmp3.tab) (W := 0) (Nat.le_of_ble_eq_true rfl) (Nat.le_of_ble_eq_true rfl) (Nat.le_refl _) (by show 0 + len ≤ len; omega) (g := (mkF m 36 #[.val (.ref a), .val (.ref b), .val (.int (Int32.ofNat o)), .val (.int (Int32.ofNat len)), .val .null, .unset] [.int (Int32.ofNat len), .int (Int32.ofNat o), .ref b])) rfl (by rw [hml]; rfl) c7 (argsL := [.ref b, .int (Int32.ofNat o), .int (Int32.ofNat len)]) (rest := []) rfl rfl (by show 2 * 0 + 0 ≤ _; decide) (hb hbytes d36) (⟨rfl, hA.mv X5.warmed.alike hh5, l1, l2, hp⟩)
  obtain ⟨e8, z8⟩ := E8
  obtain ⟨rfl, N, n1, n2, n3, n4, n5, n6⟩ := NewArr.mv _ T5 s _ _ hh5.symm (Vm.Alike.refl _) rfl e8
  rw [hh5] at z8
  have hB1 := hB.keep X8.warmed.alike (n6 _ _ hB.1)
  have hne : s.heap.size ≠ a := (Nat.ne_of_lt (Array.getElem?_eq_some_iff.mp hB.1).1).symm
  have c9 : Steps p.tables e below (s₁.setTop (entryFrame m #[.ref a, .ref b, .int (Int32.ofNat o), .int (Int32.ofNat len), .null] 6)) (T8.setTop (mkF m 39 #[.val (.ref a), .val (.ref b), .val (.int (Int32.ofNat o)), .val (.int (Int32.ofNat len)), .val .null, .unset] [.ref s.heap.size])) := g8
  have c10 : Steps p.tables e below (s₁.setTop (entryFrame m #[.ref a, .ref b, .int (Int32.ofNat o), .int (Int32.ofNat len), .null] 6)) (T8.setTop (mkF m 45 #[.val (.ref a), .val (.ref b), .val (.int (Int32.ofNat o)), .val (.int (Int32.ofNat len)), .val .null, .val (.ref s.heap.size)] [.int (Int32.ofNat N.slots.size), .ref s.heap.size, .ref a])) := by
    have hc : Steps p.tables e below (s₁.setTop (entryFrame m #[.ref a, .ref b, .int (Int32.ofNat o), .int (Int32.ofNat len), .null] 6)) (T8.setTop (mkF m 45 #[.val (.ref a), .val (.ref b), .val (.int (Int32.ofNat o)), .val (.int (Int32.ofNat len)), .val .null, .val (.ref s.heap.size)] [.int (Int32.ofNat len), .ref s.heap.size, .ref a])) := c9.trans (by
      refine XS.astore X8.here hexec rfl (hb hbytes d39) rfl rfl rfl ?_
      refine XS.aloadN X8.here hexec rfl (hb hbytes d41) rfl rfl ?_
      refine XS.aload X8.here hexec rfl (hb hbytes d42) rfl rfl ?_
      refine XS.iloadN X8.here hexec rfl (hb hbytes d44) rfl ?_
      exact Steps.refl _)
    rw [n4]; exact hc
  obtain ⟨v11, T11, X11, E11, g11⟩ := X8.callS hexec (CodL.law l s.heap.size N) hown (wks W (staticW "java/lang/String" 47 CodL.yN)) (wk W CodL.tab) (W := 1) (Nat.le_of_ble_eq_true rfl) (Nat.le_of_ble_eq_true rfl) (Nat.le_refl _) (by show 0 + len + 0 ≤ len; omega) (g := (mkF m 45 #[.val (.ref a), .val (.ref b), .val (.int (Int32.ofNat o)), .val (.int (Int32.ofNat len)), .val .null, .val (.ref s.heap.size)] [.int (Int32.ofNat N.slots.size), .ref s.heap.size, .ref a])) rfl (by rw [hml]; rfl) c10 (argsL := [.ref s.heap.size, .int (Int32.ofNat N.slots.size)]) (rest := [.ref a]) rfl rfl (by show 2 * 0 + (1 + 0) ≤ _; decide) (hb hbytes d45) (⟨rfl, n1⟩)
  obtain ⟨rfl, q11⟩ := E11
  have hB11 := hB1.mv (X8.warmed.alike.symm.trans X11.warmed.alike) q11
  have c12 : Steps p.tables e below (s₁.setTop (entryFrame m #[.ref a, .ref b, .int (Int32.ofNat o), .int (Int32.ofNat len), .null] 6)) (T11.setTop (mkF m 48 #[.val (.ref a), .val (.ref b), .val (.int (Int32.ofNat o)), .val (.int (Int32.ofNat len)), .val .null, .val (.ref s.heap.size)] [.int 0, .ref a])) := g11
  obtain ⟨T13, X13, p13, bl13, sl13, st13⟩ := X11.finit hexec hown (wk W (.fieldLink "java/lang/String" 15 "java/lang/String" "coder" "B")) (Or.inr ⟨_, (wk W (.laysFinal "java/lang/String" "java/lang/String" "coder" "B"))⟩) (Or.inl ⟨rfl, hnm⟩) f2 (Or.inl rfl) hB11 (t := .byte) (by decide +kernel) rfl (g := (mkF m 48 #[.val (.ref a), .val (.ref b), .val (.int (Int32.ofNat o)), .val (.int (Int32.ofNat len)), .val .null, .val (.ref s.heap.size)] [.int 0, .ref a])) rfl (rest := []) rfl (hb hbytes d48)
  have c14 : Steps p.tables e below (s₁.setTop (entryFrame m #[.ref a, .ref b, .int (Int32.ofNat o), .int (Int32.ofNat len), .null] 6)) (T13.setTop (mkF m 54 #[.val (.ref a), .val (.ref b), .val (.int (Int32.ofNat o)), .val (.int (Int32.ofNat len)), .val .null, .val (.ref s.heap.size)] [.ref s.heap.size, .ref a])) := (c12.trans (st13 _ (Steps.refl _))).trans (by
    refine XS.aloadN X13.here hexec rfl (hb hbytes d51) rfl rfl ?_
    refine XS.aload X13.here hexec rfl (hb hbytes d52) rfl rfl ?_
    exact Steps.refl _)
  obtain ⟨T15, X15, p15, bl15, sl15, st15⟩ := X13.finit hexec hown (wk W (.fieldLink "java/lang/String" 9 "java/lang/String" "value" "[B")) (Or.inr ⟨_, (wk W (.laysFinal "java/lang/String" "java/lang/String" "value" "[B"))⟩) (Or.inl ⟨rfl, hnm⟩) f1 (Or.inl rfl) bl13 (t := (.array .byte)) (by decide +kernel) rfl (g := (mkF m 54 #[.val (.ref a), .val (.ref b), .val (.int (Int32.ofNat o)), .val (.int (Int32.ofNat len)), .val .null, .val (.ref s.heap.size)] [.ref s.heap.size, .ref a])) rfl (rest := []) rfl (hb hbytes d54)
  have c16 : Steps p.tables e below (s₁.setTop (entryFrame m #[.ref a, .ref b, .int (Int32.ofNat o), .int (Int32.ofNat len), .null] 6)) (T15.setTop (mkF m 57 #[.val (.ref a), .val (.ref b), .val (.int (Int32.ofNat o)), .val (.int (Int32.ofNat len)), .val .null, .val (.ref s.heap.size)] [])) := c14.trans (st15 _ (Steps.refl _))
  have ap := apart (Or.inr ⟨_, (wk W (.laysFinal "java/lang/String" "java/lang/String" "value" "[B"))⟩) (Or.inr ⟨_, (wk W (.laysFinal "java/lang/String" "java/lang/String" "coder" "B"))⟩) f1 f2 (t₁ := .array .byte) (t₂ := .byte) (by decide +kernel) (by decide +kernel) (by decide)
  have al := X8.warmed.alike.symm.trans X15.warmed.alike
  have n7 : T11.heap[s.heap.size]? = some N := by rw [q11]; exact n1.1
  exact ⟨T15, none, _, _, _, X15, by simp, rfl, by omega, (fun _ => rfl), ⟨rfl, _, N, bl15, ((Same.refl D _).set _ (by simp)).set _ (by simp), sl15, (Cell.slots_setSlot_ne _ ap).trans sl13, n1.keep al (p15.other hne (p13.other hne n7)), n2, by rw [al.findClass]; exact n3, n4, n5, fun y c h1 h2 => p15.other h1 (p13.other h1 (by rw [q11]; exact n6 y c h2)), by rw [p15.2.2, p13.2.2, q11]; exact z8⟩, fun fs hl => c16.trans (X15.returnOut hexec hret (hb hbytes d57) hl)⟩
end New4
namespace New1
def yN : MethodName := ⟨"java/lang/String", "<init>", "([C)V"⟩
abbrev yB : ByteArray := jdk_42_method_3_code
theorem d0 : decode yB 0 = .ok (.aload_n 0, 1) := by decide +kernel
theorem d1 : decode yB 1 = .ok (.aload_n 1, 1) := by decide +kernel
theorem d2 : decode yB 2 = .ok (.iconst 0, 1) := by decide +kernel
theorem d3 : decode yB 3 = .ok (.aload_n 1, 1) := by decide +kernel
theorem d4 : decode yB 4 = .ok (.arraylength, 1) := by decide +kernel
theorem d5 : decode yB 5 = .ok (.aconst_null, 1) := by decide +kernel
theorem d6 : decode yB 6 = .ok (.invokespecial 27, 3) := by decide +kernel
theorem d9 : decode yB 9 = .ok (.return_, 1) := by decide +kernel
def site : List Cond := [New4.tab] ++ initW "java/lang/String" 27 New4.yN
def tab : Cond := tabOf yN yB 2 none site
def P (a : Addr) (D : Cell) (fV fC : Field) (b : Addr) (A : Cell) (z : Int32) (args : Array Value) (s : State) : Prop := args = #[.ref a, .ref b] ∧ Blank "java/lang/String" a D s ∧ Found "java/lang/String" "value" "[B" fV s ∧ Found "java/lang/String" "coder" "B" fC s ∧ Ch b A s ∧ StaticIs s "java/lang/String" "COMPACT_STRINGS" "Z" (.int z) ∧ ¬ z = 0 ∧ 0 < A.slots.size ∧ A.slots.size ≤ 536870912 ∧ ∀ i, i < A.slots.size → ¬ 255 < cv A i
def E (a : Addr) (D : Cell) (fV fC : Field) (A : Cell) (r : Option Value) (s u : State) : Prop := Got a D fV fC A 0 A.slots.size r s u
/-- new String(chars), not empty, no char above 255: a Latin-1 String of their low bytes -/
theorem law (l : Launch) (a : Addr) (D : Cell) (fV fC : Field) (b : Addr) (A : Cell) (z : Int32) : Law l yN 2 1 3 52 yB 2 none site (P a D fV fC b A z) (E a D fV fC A) [⟨a, fC.slot⟩, ⟨a, fV.slot⟩] 1 A.slots.size := by
  refine Law.of_walk (plainFor_of_name (by decide +kernel)) (by decide +kernel) (by decide +kernel) (by decide) (fun _ _ h => by rw [h.1]; rfl) (fun _ U U' hal hh h => ⟨h.1, h.2.1.mv hal hh, h.2.2.1.al hal, h.2.2.2.1.al hal, h.2.2.2.2.1.mv hal hh, h.2.2.2.2.2.1.there hal hh, h.2.2.2.2.2.2⟩) (fun r U U' V V' h1 hal h2 h => Got.mv r U U' V V' h1 hal h2 h) ?_
  intro p e s m args below meth c s₁ X0 hexec hbytes hml hret hlk hnm hown hh0 W hP
  obtain ⟨rfl, hB, f1, f2, hA, s1, hz, l0, l2, hp⟩ := hP
  have c1 : Steps p.tables e below (s₁.setTop (entryFrame m #[.ref a, .ref b] 2)) (s₁.setTop (mkF m 0 #[.val (.ref a), .val (.ref b)] [])) := entry rfl
  have c2 : Steps p.tables e below (s₁.setTop (entryFrame m #[.ref a, .ref b] 2)) (s₁.setTop (mkF m 6 #[.val (.ref a), .val (.ref b)] [.null, .int (Int32.ofNat A.slots.size), .int 0, .ref b, .ref a])) := c1.trans (by
    refine XS.aloadN X0.here hexec rfl (hb hbytes d0) rfl rfl ?_
    refine XS.aloadN X0.here hexec rfl (hb hbytes d1) rfl rfl ?_
    refine iconstV X0.here hexec rfl 0 (hb hbytes d2) (by decide) ?_
    refine XS.aloadN X0.here hexec rfl (hb hbytes d3) rfl rfl ?_
    refine X0.alen hexec (hA.1.mv X0.warmed.alike hh0) rfl rfl (hb hbytes d4) ?_
    refine XS.aconstNull X0.here hexec rfl (hb hbytes d5) ?_
    exact Steps.refl _)
  obtain ⟨v3, T3, X3, E3, g3⟩ := X0.callN hexec (New4.law l a D fV fC b A z 0 A.slots.size) rfl hown (wks W (initW "java/lang/String" 27 New4.yN)) (W New4.tab (by simp only [site, List.mem_cons, List.mem_append, true_or, or_true])) (W := 0) (Nat.le_of_ble_eq_true rfl) (Nat.le_of_ble_eq_true rfl) (Nat.le_refl _) (by show 0 + A.slots.size ≤ A.slots.size; omega) (g := (mkF m 6 #[.val (.ref a), .val (.ref b)] [.null, .int (Int32.ofNat A.slots.size), .int (Int32.ofNat 0), .ref b, .ref a])) rfl (by rw [hml]; rfl) c2 (argsL := [.ref b, .int (Int32.ofNat 0), .int (Int32.ofNat A.slots.size), .null]) (rest := []) rfl rfl (by show 2 * 0 + 0 ≤ _; decide) (hb hbytes d6) (⟨rfl, hB.mv X0.warmed.alike hh0, f1.al X0.warmed.alike, f2.al X0.warmed.alike, hA.mv X0.warmed.alike hh0, s1.there X0.warmed.alike hh0, hz, l0, by omega, l2, fun i hi => by rw [Nat.zero_add]; exact hp i hi⟩)
  have e0 := Got.mv _ s₁ s _ _ hh0.symm (Vm.Alike.refl _) rfl E3
  obtain rfl := e0.1
  have c4 : Steps p.tables e below (s₁.setTop (entryFrame m #[.ref a, .ref b] 2)) (T3.setTop (mkF m 9 #[.val (.ref a), .val (.ref b)] [])) := g3
  exact ⟨T3, none, _, _, _, X3, by simp, rfl, by omega, (fun _ => rfl), e0, fun fs hl => c4.trans (X3.returnOut hexec hret (hb hbytes d9) hl)⟩
theorem pays {l : Launch} {R : Room} {p : Program} {e : Env} {below : List Frame} {s : State} {sargs : Array Value} {len W : Nat} (a : Addr) (D : Cell) (fV fC : Field) (b : Addr) (A : Cell) (z : Int32) (htab : tab.before sargs s = true) (hfr : 4 ≤ R.frames) (hlo : W + 65 ≤ R.locals) :
    Back l R p e below s sargs yN len W (fun A₁ a₁ => A₁.cells + 1 ≤ R.cells ∧ A₁.slots + A.slots.size ≤ R.slots ∧ P a D fV fC b A z a₁ A₁.U) (fun A₁ _ v₁ B₁ => E a D fV fC A v₁ A₁.U B₁.U ∧ B₁.locs = A₁.locs ++ [⟨a, fC.slot⟩, ⟨a, fV.slot⟩] ∧ B₁.cells = A₁.cells + 1 ∧ B₁.slots = A₁.slots + A.slots.size) :=
  (law l a D fV fC b A z).pays htab hfr (by omega)
end New1
end StrChars
namespace StrChars.Road
open Jvm Sem ClassFile Op Lib Jvm.Stand Jvm.Free Jvm.Free.XT
open Jvm.Lib.Cold (StaticIs)
abbrev ST : String := "java/lang/String"
/-- every table word that New1's law asks, flat -/
abbrev words : List Jvm.Cond := [.code New1.yN New1.yB 2 none, .initialized ST, .methodLink ST 27 New4.yN, .instanceMethod New4.yN,
  .code New4.yN New4.yB 6 none, .fieldLink ST 38 ST "COMPACT_STRINGS" "Z", .laysFinal ST ST "value" "[B", .fieldLink ST 9 ST "value" "[B", .laysFinal ST ST "coder" "B", .fieldLink ST 15 ST "coder" "B",
  .methodLink ST 1 Lib.objectInit, .instanceMethod Lib.objectInit, .code Lib.objectInit ⟨#[0xb1]⟩ 1 none, .methodLink ST 177 Cmp3.yN, .static Cmp3.yN, .methodLink ST 47 CodL.yN, .static CodL.yN,
  .code Cmp3.yN Cmp3.yB 6 (some (.array .byte)), .initialized U16, .arrayClass .byte, .methodLink U16 115 Cmp5.yN, .static Cmp5.yN, .code Cmp5.yN Cmp5.yB 7 (some .int), .code CodL.yN CodL.yB 2 (some .byte)]
theorem tab_of {a : Array Value} {s : State} (h : ∀ w ∈ words, w.before a s = true) : New1.tab.before a s = true := by
  have h5 : Cmp5.tab.before a s = true := unparts (wk h (.code Cmp5.yN Cmp5.yB 7 (some .int))) (wks h (.initialized Cmp5.yN.cls :: Cmp5.site))
  have hc : CodL.tab.before a s = true := unparts (wk h (.code CodL.yN CodL.yB 2 (some .byte))) (wks h (.initialized CodL.yN.cls :: CodL.site))
  have q5 : ∀ w ∈ Cmp5.tab :: words, w.before a s = true := fun w hw => (List.mem_cons.mp hw).elim (fun e => e ▸ h5) (h w)
  have h3 : Cmp3.tab.before a s = true := unparts (wk q5 (.code Cmp3.yN Cmp3.yB 6 (some (.array .byte)))) (wks q5 (.initialized Cmp3.yN.cls :: Cmp3.site))
  have q3 : ∀ w ∈ Cmp3.tab :: CodL.tab :: words, w.before a s = true := fun w hw => (List.mem_cons.mp hw).elim (fun e => e ▸ h3) fun hw => (List.mem_cons.mp hw).elim (fun e => e ▸ hc) (h w)
  have h4 : New4.tab.before a s = true := unparts (wk q3 (.code New4.yN New4.yB 6 none)) (wks q3 (.initialized New4.yN.cls :: New4.site))
  have q4 : ∀ w ∈ New4.tab :: words, w.before a s = true := fun w hw => (List.mem_cons.mp hw).elim (fun e => e ▸ h4) (h w)
  exact unparts (wk q4 (.code New1.yN New1.yB 2 none)) (wks q4 (.initialized New1.yN.cls :: New1.site))
/-- the words ride from the start Z to the walk's own state -/
theorem moved {Z s : State} {a0 args : Array Value} (hZ : Z.Warmed39 s.vm) (hw : ∀ d ∈ words, d.before a0 Z = true) : ∀ d ∈ words, d.before args s = true := fun d hd => by
  have q := hw d hd
  have t : ∀ d ∈ words, d = .arrayClass .byte ∨ (d.onTables && d.keepsFace) = true := by decide +kernel
  rcases t d hd with rfl | t
  · exact RoadKit.mvA hZ q
  · exact RoadKit.mv hZ q t
/-- WHAT COMES BACK, over the tables of the start Z: h the heap at the call, h' behind it -/
def Q (Z : State) (x : Addr) (A : Cell) (h : Heap) (v : Option Value) (h' : Heap) (L : List Loc) : Prop := v = none ∧ (∀ y ∈ L, y.base = x) ∧ RoadKit.Keep h h' [x] ∧ h'.size = h.size + 1 ∧ RoadKit.Exa Z h' x ST ∧ RoadKit.Fld Z h' x ST "value" "[B" (.ref h.size) ∧ RoadKit.Fld Z h' x ST "coder" "B" (.int 0) ∧
  (∃ V : Cell, RoadKit.Arr Z h' h.size V .byte ∧ V.vm = .none ∧ Z.vm.findClass "[B" = some V.cls ∧ V.slots.size = A.slots.size ∧ ∀ j, j < A.slots.size → V.slots[j]? = some (.int (lo8 (cv A j)))) ∧
  ∀ (O n d : String) (w : Value), RoadKit.Fld Z h x O n d w → RoadKit.slotOf Z O n d ≠ RoadKit.slotOf Z ST "value" "[B" → RoadKit.slotOf Z O n d ≠ RoadKit.slotOf Z ST "coder" "B" → RoadKit.Fld Z h' x O n d w
/-- **new String(chars) AT A CALL, IN THE ROAD'S FORM**: for specialBack behind newO: x the fresh String, b the char[] with the cell A -/
theorem back {p : Program} {l : Launch} {e : Env} {R : Room} {s : State} {args : Array Value} {below : List Frame} {len W : Nat} {Z : State} {a0 : Array Value} {h : Heap} (hZ : Z.Warmed39 s.vm) (hw : ∀ d ∈ words, d.before a0 Z = true) {kI : Nat} (wi : (Jvm.Cond.instantiable ST kI).before a0 Z = true)
    {x b : Addr} {A : Cell} {z : Int32} {v0 c0 : Value} (E : RoadKit.Exa Z h x ST) (V : RoadKit.Fld Z h x ST "value" "[B" v0) (C : RoadKit.Fld Z h x ST "coder" "B" c0) (K : RoadKit.Arr Z h b A .char) (hty : Typed .char A) (S : RoadKit.Sta Z h ST "COMPACT_STRINGS" "Z" (.int z)) (hz : ¬ z = 0)
    (l0 : 0 < A.slots.size) (l2 : A.slots.size ≤ 536870912) (hp : ∀ i, i < A.slots.size → ¬ 255 < cv A i) (hfr : 4 ≤ R.frames) (hlo : W + 65 ≤ R.locals) :
    Back l R p e below s args New1.yN len W (fun P a => a = #[.ref x, .ref b] ∧ P.U.heap = h ∧ P.cells + 1 ≤ R.cells ∧ P.slots + A.slots.size ≤ R.slots)
      (fun P _ v B => ∃ L, Q Z x A h v B.U.heap L ∧ B.locs = P.locs ++ L ∧ B.cells = P.cells + 1 ∧ B.slots = P.slots + A.slots.size) := by
  intro m meth c P g ig mk a X hg hsize hdg hW hn hp'
  obtain ⟨rfl, rfl, r1, r2⟩ := hp'
  have al : Z.vm.Alike P.U.vm := hZ.alike.trans X.warmed.alike
  obtain ⟨D, cfV, kV, iV, fV, hD, gV, stV, knV, obV, asV, slV⟩ := id V
  obtain ⟨D', cfC, kC, iC, fC, hD', gC, stC, -, -, asC, slC⟩ := id C
  cases hD.symm.trans hD'
  obtain ⟨D2, kD, e1, e2, e3, e4, e5⟩ := id E
  cases hD.symm.trans e1
  obtain ⟨c2, k2, i1, i2, i3, -⟩ := Cond.instantiable_spec wi
  cases e2.symm.trans i1
  cases e3.symm.trans i2
  obtain ⟨kU, u1, u2⟩ := al.2.2 _ _ e3
  have hB : Blank ST x D P.U := ⟨hD, ⟨knV, fun q hq => by rw [hq] at obV; cases obV⟩, by rw [al.findClass]; exact e2, kU, u1, by rw [u2]; exact i3, by rw [u2]; exact e5 i3⟩
  have F1 : Found ST "value" "[B" fV P.U := ⟨SBG.found_only al ⟨cfV, kV, iV, gV⟩, stV⟩
  have F2 : Found ST "coder" "B" fC P.U := ⟨SBG.found_only al ⟨cfC, kC, iC, gC⟩, stC⟩
  have hA : Ch b A P.U := ⟨⟨K.1, State.isArrayOf_alike al K.2.1, K.2.2, by omega⟩, hty⟩
  have hS : StaticIs P.U ST "COMPACT_STRINGS" "Z" (.int z) := by
    obtain ⟨cfS, iS, kS, fS, st, cS, t1, t2, t3, t4, t5, t6, t7⟩ := S
    exact StaticIs.there (s := { Z with heap := P.U.heap }) ⟨cfS, iS, kS, fS, st, cS, t1, t2, t3, t4, t5, (fun q => by rw [q] at t6; cases t6), t7⟩ al rfl
  obtain ⟨v, B, X', ⟨⟨hv, E', V', q1, q2, q3, q4, q5, q6, q7, q8, q9, q10, q11⟩, hl, hc, hs⟩, st⟩ := New1.pays x D fV fC b A z (tab_of (moved hZ hw)) hfr hlo m meth c P g ig mk _ X hg hsize hdg hW hn ⟨r1, r2, rfl, hB, F1, F2, hA, hS, hz, l0, l2, hp⟩
  have al' : Z.vm.Alike B.U.vm := hZ.alike.trans X'.warmed.alike
  have hsz : E'.slots.size = D.slots.size := by
    obtain ⟨-, -, -, kB, w1, w2, w3⟩ := q1
    obtain ⟨kB', y1, y2⟩ := al'.2.2 _ _ e3
    rw [q2.2.1] at w1
    cases w1.symm.trans y1
    rw [w3, e5 i3, y2]
  refine ⟨v, B, X', ⟨_, ⟨hv, ?_, ⟨by omega, fun y cy hy hn' => q10 y cy (by simpa using hn') hy, fun y cy hy => ?_⟩, q11, ⟨E', _, q1.1, by rw [q2.2.1]; exact e2, by rw [q2.2.1]; exact e3, by rw [q2.1]; exact obV, fun _ => by rw [hsz]; exact e5 i3⟩,
    ⟨E', cfV, kV, iV, fV, q1.1, gV, stV, by rw [q2.1]; exact knV, by rw [q2.1]; exact obV, by rw [q2.2.1]; exact asV, q3⟩, ⟨E', cfC, kC, iC, fC, q1.1, gC, stC, by rw [q2.1]; exact knV, by rw [q2.1]; exact obV, by rw [q2.2.1]; exact asC, q4⟩,
    ⟨V', ⟨q5.1, State.isArrayOf_alike al'.symm q5.2.1, q5.2.2.1⟩, q6, by rw [← al'.findClass]; exact q7, q8, fun j hj => by have := q9 j hj; rwa [Nat.zero_add] at this⟩, fun O n d w F n1 n2 => ?_⟩, hl, hc, hs⟩, st⟩
  · intro y hy
    simp only [List.mem_cons, List.not_mem_nil, or_false] at hy
    rcases hy with rfl | rfl <;> rfl
  · by_cases q : y = x
    · subst q
      cases hD.symm.trans hy
      exact ⟨E', q1.1, q2.2.1, q2.1, hsz⟩
    · exact ⟨cy, q10 y cy q hy, rfl, rfl, rfl⟩
  · obtain ⟨D3, cf, k, i, f, g1, g2, g3, g4, g5, g6, g7⟩ := F
    cases hD.symm.trans g1
    simp only [RoadKit.slotOf, g2, gV, gC, Option.map_some, Option.getD_some] at n1 n2
    exact ⟨E', cf, k, i, f, q1.1, g2, g3, by rw [q2.1]; exact g4, by rw [q2.1]; exact g5, by rw [q2.2.1]; exact g6, by rw [q2.2.2 f.slot (by simp [n1, n2])]; exact g7⟩
end StrChars.Road
namespace StrChars.Road
open Jvm Sem ClassFile Op Lib Jvm.Stand Jvm.Free Jvm.Free.XT
/-- WHAT COMES BACK, the byte[] as a list of values -/
def QA (Z : State) (x : Addr) (zn : Int32) (cs : List Int32) (h : Heap) (v : Option Value) (h' : Heap) (L : List Loc) : Prop := v = none ∧ (∀ y ∈ L, y.base = x) ∧ RoadKit.Keep h h' [x] ∧ h'.size = h.size + 1 ∧ RoadKit.Exa Z h' x ST ∧ RoadKit.Fld Z h' x ST "value" "[B" (.ref h.size) ∧ RoadKit.Fld Z h' x ST "coder" "B" (.int 0) ∧
  (∃ kb, Z.vm.findClass "[B" = some kb ∧ RoadKit.Arv Z h' h.size kb .byte zn (cs.map fun c => .int (lo8 c)) (.int 0)) ∧
  ∀ (O n d : String) (w : Value), RoadKit.Fld Z h x O n d w → RoadKit.slotOf Z O n d ≠ RoadKit.slotOf Z ST "value" "[B" → RoadKit.slotOf Z O n d ≠ RoadKit.slotOf Z ST "coder" "B" → RoadKit.Fld Z h' x O n d w
/-- **new String(chars) AT A CALL, THE ARRAYS AS LISTS**: the char[] at b holds cs, not empty, no char above 255 -/
theorem backArv {p : Program} {l : Launch} {e : Env} {R : Room} {s : State} {args : Array Value} {below : List Frame} {len W : Nat} {Z : State} {a0 : Array Value} {h : Heap} (hZ : Z.Warmed39 s.vm) (hw : ∀ d ∈ words, d.before a0 Z = true) {kI : Nat} (wi : (Jvm.Cond.instantiable ST kI).before a0 Z = true)
    {x b : Addr} {k : ClassId} {zn z : Int32} {cs : List Int32} {dv v0 c0 : Value} (E : RoadKit.Exa Z h x ST) (V : RoadKit.Fld Z h x ST "value" "[B" v0) (C : RoadKit.Fld Z h x ST "coder" "B" c0) (K : RoadKit.Arv Z h b k .char zn (cs.map Value.int) dv) (S : RoadKit.Sta Z h ST "COMPACT_STRINGS" "Z" (.int z)) (hz : ¬ z = 0)
    (hlen : zn.toNatClampNeg = cs.length) (h0 : 0 < cs.length) (hbig : cs.length ≤ 536870912) (hall : ∀ c ∈ cs, ¬ 255 < c) (hfr : 4 ≤ R.frames) (hlo : W + 65 ≤ R.locals) :
    Back l R p e below s args New1.yN len W (fun P a => a = #[.ref x, .ref b] ∧ P.U.heap = h ∧ P.cells + 1 ≤ R.cells ∧ P.slots + cs.length ≤ R.slots)
      (fun P _ v B => ∃ L, QA Z x zn cs h v B.U.heap L ∧ B.locs = P.locs ++ L ∧ B.cells = P.cells + 1 ∧ B.slots = P.slots + cs.length) := by
  obtain ⟨A, K1, K2, K3, K4, K5, K6⟩ := K
  have e : A.slots.size = cs.length := K3.trans hlen
  have hat : ∀ (i : Nat) (hi : i < cs.length), A.slots[i]? = some (.int cs[i]) := fun i hi => by rw [K5 i (by omega)]; simp [List.getD_eq_getElem?_getD, hi]
  have hcv : ∀ (i : Nat) (hi : i < cs.length), cv A i = cs[i] := fun i hi => by unfold cv; rw [hat i hi]
  have hty : Typed .char A := fun i v hv => by
    have hi : i < A.slots.size := (Array.getElem?_eq_some_iff.mp hv).1
    have q := K5 i hi
    rw [hv] at q
    rw [Option.some.inj q]
    exact K6 i hi
  refine Back.mono (back hZ hw wi E V C K1 hty S hz (by omega) (by omega) (fun i hi => by rw [hcv i (by omega)]; exact hall _ (List.getElem_mem _)) hfr hlo) (fun P a hp => ⟨hp.1, hp.2.1, hp.2.2.1, by rw [e]; exact hp.2.2.2⟩) (fun P a v B hp hq => ?_)
  obtain ⟨L, ⟨q1, q2, q3, q4, q5, q6, q7, ⟨V', v1, v2, v3, v4, v5⟩, q9⟩, hl, hc, hs⟩ := hq
  refine ⟨L, ⟨q1, q2, q3, q4, q5, q6, q7, ⟨V'.cls, v3, V', v1, rfl, by rw [v4, e, hlen], K4, fun i hi => ?_, fun i hi => ?_⟩, q9⟩, hl, hc, by rw [hs, e]⟩
  · have hi' : i < cs.length := by omega
    rw [v5 i (by omega), hcv i hi']; simp [List.getD_eq_getElem?_getD, hi']
  · have hi' : i < cs.length := by omega
    simp only [List.getD_eq_getElem?_getD, List.getElem?_map, List.getElem?_eq_getElem hi', Option.map_some, Option.getD_some]
    exact fits_lo8 _
end StrChars.Road
namespace StrChars.Road
open Jvm Sem ClassFile Op Lib Jvm.Stand Jvm.Free Jvm.Free.XT
/-- WHAT COMES BACK, in the writer's own shape -/
def QV (Z : State) (x : Addr) (N : Int32) (bs : List Int32) (h : Heap) (n0 : Nat) (v : Option Value) (h' : Heap) (L : List Loc) : Prop := v = none ∧ RoadKit.Fr n0 L ∧ RoadKit.Keep h h' [x] ∧ RoadKit.Exa Z h' x ST ∧ RoadKit.Fld Z h' x ST "coder" "B" (.int 0) ∧
  ∃ (t : Addr) (kb : ClassId), n0 ≤ t ∧ h.size ≤ t ∧ ¬ t = x ∧ RoadKit.Fld Z h' x ST "value" "[B" (.ref t) ∧ RoadKit.Arv Z h' t kb .byte N (bs.map Value.int) (.int 0)
/-- **new String(chars) AT A CALL, FOR THE WRITER**: a char[] of n known ints, each 0 to 255 -/
theorem backV {p : Program} {l : Launch} {e : Env} {R : Room} {s : State} {args : Array Value} {below : List Frame} {len W : Nat} {Z : State} {a0 : Array Value} {h : Heap} (hZ : Z.Warmed39 s.vm) (hw : ∀ d ∈ words, d.before a0 Z = true) {kI : Nat} (wi : (Jvm.Cond.instantiable ST kI).before a0 Z = true)
    {x b : Addr} {kC : ClassId} {cs bs : List Int32} {d v0 c0 : Value} {z N : Int32} {n n0 : Nat} (hx0 : n0 ≤ x) (hh0 : n0 ≤ h.size) (E : RoadKit.Exa Z h x ST) (V : RoadKit.Fld Z h x ST "value" "[B" v0) (C : RoadKit.Fld Z h x ST "coder" "B" c0) (K : RoadKit.Arv Z h b kC .char N (cs.map Value.int) d) (S : RoadKit.Sta Z h ST "COMPACT_STRINGS" "Z" (.int z)) (hz : ¬ z = 0)
    (hn : cs.length = n) (hN : N = Int32.ofNat n) (l0 : 0 < n) (l2 : n ≤ 4000) (hp : ∀ c ∈ cs, ¬ c < 0 ∧ ¬ (255 : Int32) < c) (hb : bs = cs.map (fun c => c.toInt8.toInt32)) (hfr : 4 ≤ R.frames) (hlo : W + 65 ≤ R.locals) :
    Back l R p e below s args (⟨"java/lang/String", "<init>", "([C)V"⟩ : MethodName) len W (fun P a => a = #[.ref x, .ref b] ∧ P.U.heap = h ∧ P.cells + 1 ≤ R.cells ∧ P.slots + n ≤ R.slots)
      (fun P _ v B => ∃ L, QV Z x N bs h n0 v B.U.heap L ∧ B.locs = P.locs ++ L ∧ B.cells = P.cells + 1 ∧ B.slots = P.slots + n) := by
  subst hn hN hb
  refine Back.mono (backArv hZ hw wi E V C K S hz (n32 (by omega)) l0 (by omega) (fun c hc => (hp c hc).2) hfr hlo) (fun P a hp => hp) (fun P a v B hp hq => ?_)
  obtain ⟨L, ⟨q1, q2, q3, q4, q5, q6, q7, ⟨kb, v1, v2⟩, q9⟩, hl, hc, hs⟩ := hq
  exact ⟨L, ⟨q1, fun y hy => by rw [q2 y hy]; exact hx0, q3, q5, q7, h.size, kb, hh0, Nat.le_refl _, Nat.ne_of_gt E.lt, q6, by rw [List.map_map]; exact v2⟩, hl, hc, hs⟩
end StrChars.Road
end Jvm.Pilot.@@N@@
namespace Jvm.Pilot.@@N@@
open Jvm Jvm.ClassFile Sem Op Lib Jvm.Free Jvm.Stand Jvm.LawKit Jvm.RoadKit Bundle Jvm.Pilot.@@N@@.Jvm.D
abbrev Sp (p : Program) (e : Env) (below : List Frame) (T : State) (f : JFrame) (t : State) : Prop := Steps p.tables e below (T.setTop f) t
theorem wq {Z : State} {a0 : Array Value} (hw : ∀ d ∈ tables_1, d.before a0 Z = true) (i : Nat) {d : Jvm.Cond} (h : tables_1[i]? = some d) : d.before a0 Z = true := hw _ (List.mem_of_getElem? h)
theorem ma {L : List Addr} (i : Nat) {a : Addr} (h : L[i]? = some a) : a ∈ L := List.mem_of_getElem? h
theorem own_sz {Z : State} {n0 : Nat} {h : Heap} (O : Old Z n0 h) : n0 ≤ h.size := O.1 ▸ O.2.1
theorem own_nei {x c : Int32} {n : Int} (h : ¬ x = c) (e : c.toInt = n) : x.toInt ≠ n := fun q => h (Int32.toInt_inj.mp (q.trans e.symm))
theorem own_eq {x c : Int32} {n : Int} (e : c.toInt = n) (h : x.toInt = n) : x = c := Int32.toInt_inj.mp (h.trans e.symm)
theorem own_lti {x c : Int32} {n : Int} (e : c.toInt = n) (h : x.toInt < n) : x < c := by rw [Int32.lt_iff_toInt_lt, e]; exact h
theorem own_nlti {x c : Int32} {n : Int} (e : c.toInt = n) (h : ¬ x.toInt < n) : ¬ (x < c) := by rw [Int32.lt_iff_toInt_lt, e]; exact h
theorem own_eqi {x c : Int32} {n : Int} (h : x = c) (e : c.toInt = n) : x.toInt = n := by rw [h]; exact e
theorem own_fldi {args : Array Value} {s : State} {t : Term} {a : Addr} {C n d : String} {c : Int32} (ev : t.eval args s none [] s = some (.ref a)) (h : (Cond.eq (.field t C n d) (.int c)).value args s none s [] = some true) : Fld s s.heap a C n d (.int c) := by
  apply Fld.start
  cases hf : s.fieldOf? a C n d with
  | none => simp [Cond.value, Term.eval, ev, hf] at h
  | some x => cases x <;> simp [Cond.value, Term.eval, ev, hf] at h ⊢; exact h
theorem own_fldr {args : Array Value} {s : State} {t u : Term} {a b : Addr} {C n d : String} (ev : t.eval args s none [] s = some (.ref a)) (eu : u.eval args s none [] s = some (.ref b)) (h : (Cond.eq (.field t C n d) u).value args s none s [] = some true) : Fld s s.heap a C n d (.ref b) := by
  apply Fld.start
  cases hf : s.fieldOf? a C n d with
  | none => simp [Cond.value, Term.eval, ev, eu, hf] at h
  | some x => cases x <;> simp [Cond.value, Term.eval, ev, eu, hf] at h ⊢; exact h
theorem own_rem {x m : Int32} {M d : Int} (hm : m.toInt = M) (h0 : 0 ≤ M) {y : Int32} (hy : y.toInt = d) (hd : 0 < d) : 0 ≤ ((x &&& m) % y).toInt ∧ ((x &&& m) % y).toInt < d := by
  have a := c_and x m (by rw [hm]; exact h0)
  have b := (c_irem (x &&& m) y d hy).1 a.1
  rw [b]; exact ⟨Int.emod_nonneg _ (by omega), Int.emod_lt_of_pos _ hd⟩
theorem own_ch0 (x : Int32) : ¬ (255 : Int32) < (x &&& (255 : Int32)) := by
  rw [Int32.lt_iff_toInt_lt]
  have a := c_and x (255 : Int32) (by decide)
  have b : (255 : Int32).toInt = 255 := rfl
  omega
theorem own_ch1 (x : Int32) : ¬ (255 : Int32) < ((x &&& (255 : Int32)).toUInt32.toUInt16.toUInt32.toInt32) := by rw [i2c_mask]; exact own_ch0 x
theorem own_ch2 (x : Int32) : ¬ (255 : Int32) < (nar .char ((x &&& (255 : Int32)).toUInt32.toUInt16.toUInt32.toInt32)) := by
  show ¬ (255 : Int32) < (((x &&& (255 : Int32)).toUInt32.toUInt16.toUInt32.toInt32).toUInt32.toUInt16.toUInt32.toInt32)
  rw [i2c_mask, i2c_mask]; exact own_ch0 x
theorem own_ch3 (x : Int32) : ¬ (255 : Int32) < (nar .char (x &&& (255 : Int32))) := own_ch1 x
theorem own_fldv {args : Array Value} {s : State} {t : Term} {a : Addr} {C n d : String} {v : Value} (ev : t.eval args s none [] s = some (.ref a)) (e : (Term.field t C n d).eval args s none [] s = some v) : Fld s s.heap a C n d v := Fld.start ((fld_at ev).symm.trans e)
theorem own_elem {args : Array Value} {s : State} {t : Term} {a : Addr} {cl : Cell} {ty : FieldType} {j n : Int32} (et : t.eval args s none [] s = some (.ref a)) (A : Arr s s.heap a cl ty) (h : (Jvm.Cond.eq (.elem t (.int j)) (.int n)).value args s none s [] = some true) : cl.slots[j.toNatClampNeg]? = some (.int n) := (elem_in (eqv_i (F := .int n) rfl h) et rfl A.1).2
theorem own_valo {args : Array Value} {s : State} {t : Term} {a : Addr} {c : Cell} {ty : FieldType} {n : Int32} (et : t.eval args s none [] s = some (.ref a)) (A : Arr s s.heap a c ty) (h : (Jvm.Cond.eq (.length t) (.int n)).before args s = true) : c.slots.size < 2 ^ 31 ∧ c.slots.size.toInt32 = n := Jvm.Free.IntBox.length_fwd h et A.1 A.2.1 A.2.2
theorem own_el {args : Array Value} {s : State} {t : Term} {a : Addr} {cl : Cell} {ty : FieldType} {j n : Int32} (et : t.eval args s none [] s = some (.ref a)) (A : Arr s s.heap a cl ty) (hs : ∀ d ∈ jdkStatics_1, d.before args s = true) (i : Nat) (h : jdkStatics_1[i]? = some (.eq (.elem t (.int j)) (.int n)) := by rfl) : cl.slots[j.toNatClampNeg]? = some (.int n) := own_elem et A (Cond.before_iff.mp (hs _ (List.mem_of_getElem? h)))
abbrev vr (a : Addr) : Slot := .val (.ref a)
abbrev vi (x : Int32) : Slot := .val (.int x)
abbrev vj (x : Int64) : Slot := .val (.long x)
abbrev uu : Slot := .unset
abbrev QX (p : Program) (c : Code) (B : ByteArray) : Prop := p.tables.exec = Jvm.exec ∧ c.code = B
section
variable {p : Program} {l : Launch} {e : Env} {R : Room} {s : State} {m : MethodId} {args : Array Value} {below : List Frame} {meth : Method} {c : Code} {T target : State} {locs : List Loc} {cells slots : Nat} {B : ByteArray} {g : JFrame}
theorem il (X : Stand p l e R s m args below meth c T locs cells slots) (q : QX p c B) {k : Nat} {v : Int32} (hd : decode B g.pc = .ok (.iload k, 2))  (hr : Steps p.tables e below (T.setTop { g with pc := g.pc + 2, stack := .int v :: g.stack }) target) (hg : g.method = m := by rfl) (hl : g.locals[k]? = some (.val (.int v)) := by rfl) : Steps p.tables e below (T.setTop g) target := XS.iload X.here q.1 hg (hb q.2 hd) hl hr
theorem iln (X : Stand p l e R s m args below meth c T locs cells slots) (q : QX p c B) {k : Fin 4} {v : Int32} (hd : decode B g.pc = .ok (.iload_n k, 1))  (hr : Steps p.tables e below (T.setTop { g with pc := g.pc + 1, stack := .int v :: g.stack }) target) (hg : g.method = m := by rfl) (hl : g.locals[k.val]? = some (.val (.int v)) := by rfl) : Steps p.tables e below (T.setTop g) target := XS.iloadN X.here q.1 hg (hb q.2 hd) hl hr
theorem al (X : Stand p l e R s m args below meth c T locs cells slots) (q : QX p c B) {k : Nat} {v : Value} (hd : decode B g.pc = .ok (.aload k, 2))  (hr : Steps p.tables e below (T.setTop { g with pc := g.pc + 2, stack := v :: g.stack }) target) (hg : g.method = m := by rfl) (hl : g.locals[k]? = some (.val v) := by rfl) (hv : v.isRef = true := by rfl) : Steps p.tables e below (T.setTop g) target := XS.aload X.here q.1 hg (hb q.2 hd) hl hv hr
theorem aln (X : Stand p l e R s m args below meth c T locs cells slots) (q : QX p c B) {k : Fin 4} {v : Value} (hd : decode B g.pc = .ok (.aload_n k, 1))  (hr : Steps p.tables e below (T.setTop { g with pc := g.pc + 1, stack := v :: g.stack }) target) (hg : g.method = m := by rfl) (hl : g.locals[k.val]? = some (.val v) := by rfl) (hv : v.isRef = true := by rfl) : Steps p.tables e below (T.setTop g) target := XS.aloadN X.here q.1 hg (hb q.2 hd) hl hv hr
theorem ic (X : Stand p l e R s m args below meth c T locs cells slots) (q : QX p c B) {i : Int} (hd : decode B g.pc = .ok (.iconst i, 1))  (hr : Steps p.tables e below (T.setTop { g with pc := g.pc + 1, stack := .int (Int32.ofInt i) :: g.stack }) target) (hg : g.method = m := by rfl)  : Steps p.tables e below (T.setTop g) target := XS.iconst X.here q.1 hg (hb q.2 hd) hr
theorem bp (X : Stand p l e R s m args below meth c T locs cells slots) (q : QX p c B) {i : Int} (hd : decode B g.pc = .ok (.bipush i, 2))  (hr : Steps p.tables e below (T.setTop { g with pc := g.pc + 2, stack := .int ((Int8.ofInt i).toInt32) :: g.stack }) target) (hg : g.method = m := by rfl)  : Steps p.tables e below (T.setTop g) target := XS.bipush X.here q.1 hg (hb q.2 hd) hr
theorem sp (X : Stand p l e R s m args below meth c T locs cells slots) (q : QX p c B) {i : Int} (hd : decode B g.pc = .ok (.sipush i, 3))  (hr : Steps p.tables e below (T.setTop { g with pc := g.pc + 3, stack := .int ((Int16.ofInt i).toInt32) :: g.stack }) target) (hg : g.method = m := by rfl)  : Steps p.tables e below (T.setTop g) target := XS.sipush X.here q.1 hg (hb q.2 hd) hr
theorem st (X : Stand p l e R s m args below meth c T locs cells slots) (q : QX p c B) {k : Nat} {x : Int32} {rest : List Value} (hd : decode B g.pc = .ok (.istore k, 2)) (l' : Array Slot) (hr : Steps p.tables e below (T.setTop { g with pc := g.pc + 2, stack := rest, locals := l' }) target) (hg : g.method = m := by rfl) (hs : g.stack = .int x :: rest := by rfl) (hl : storeLocals g.locals k (.int x) = some l' := by rfl) : Steps p.tables e below (T.setTop g) target := XS.istore X.here q.1 hg (hb q.2 hd) hs hl hr
theorem stn (X : Stand p l e R s m args below meth c T locs cells slots) (q : QX p c B) {k : Fin 4} {x : Int32} {rest : List Value} (hd : decode B g.pc = .ok (.istore_n k, 1)) (l' : Array Slot) (hr : Steps p.tables e below (T.setTop { g with pc := g.pc + 1, stack := rest, locals := l' }) target) (hg : g.method = m := by rfl) (hs : g.stack = .int x :: rest := by rfl) (hl : storeLocals g.locals k.val (.int x) = some l' := by rfl) : Steps p.tables e below (T.setTop g) target := XS.istoreN X.here q.1 hg (hb q.2 hd) hs hl hr
theorem sta (X : Stand p l e R s m args below meth c T locs cells slots) (q : QX p c B) {k : Nat} {x : Value} {rest : List Value} (hd : decode B g.pc = .ok (.astore k, 2)) (l' : Array Slot) (hr : Steps p.tables e below (T.setTop { g with pc := g.pc + 2, stack := rest, locals := l' }) target) (hg : g.method = m := by rfl) (hs : g.stack = x :: rest := by rfl) (hv : x.isRef = true := by rfl) (hl : storeLocals g.locals k x = some l' := by rfl) : Steps p.tables e below (T.setTop g) target := XS.astore X.here q.1 hg (hb q.2 hd) hs hv hl hr
theorem san (X : Stand p l e R s m args below meth c T locs cells slots) (q : QX p c B) {k : Fin 4} {x : Value} {rest : List Value} (hd : decode B g.pc = .ok (.astore_n k, 1)) (l' : Array Slot) (hr : Steps p.tables e below (T.setTop { g with pc := g.pc + 1, stack := rest, locals := l' }) target) (hg : g.method = m := by rfl) (hs : g.stack = x :: rest := by rfl) (hv : x.isRef = true := by rfl) (hl : storeLocals g.locals k.val x = some l' := by rfl) : Steps p.tables e below (T.setTop g) target := XS.astoreN X.here q.1 hg (hb q.2 hd) hs hv hl hr
theorem wia (X : Stand p l e R s m args below meth c T locs cells slots) (q : QX p c B) {x y : Int32} {rest : List Value} (hd : decode B g.pc = .ok (.iadd, 1))  (hr : Steps p.tables e below (T.setTop { g with pc := g.pc + 1, stack := .int (x + y) :: rest }) target) (hg : g.method = m := by rfl) (hs : g.stack = .int y :: .int x :: rest := by rfl) : Steps p.tables e below (T.setTop g) target := XS.iadd X.here q.1 hg (hb q.2 hd) hs hr
theorem wib (X : Stand p l e R s m args below meth c T locs cells slots) (q : QX p c B) {x y : Int32} {rest : List Value} (hd : decode B g.pc = .ok (.isub, 1))  (hr : Steps p.tables e below (T.setTop { g with pc := g.pc + 1, stack := .int (x - y) :: rest }) target) (hg : g.method = m := by rfl) (hs : g.stack = .int y :: .int x :: rest := by rfl) : Steps p.tables e below (T.setTop g) target := XS.isub X.here q.1 hg (hb q.2 hd) hs hr
theorem wiand (X : Stand p l e R s m args below meth c T locs cells slots) (q : QX p c B) {x y : Int32} {rest : List Value} (hd : decode B g.pc = .ok (.iand, 1))  (hr : Steps p.tables e below (T.setTop { g with pc := g.pc + 1, stack := .int (x &&& y) :: rest }) target) (hg : g.method = m := by rfl) (hs : g.stack = .int y :: .int x :: rest := by rfl) : Steps p.tables e below (T.setTop g) target := XS.iand X.here q.1 hg (hb q.2 hd) hs hr
theorem wior (X : Stand p l e R s m args below meth c T locs cells slots) (q : QX p c B) {x y : Int32} {rest : List Value} (hd : decode B g.pc = .ok (.ior, 1))  (hr : Steps p.tables e below (T.setTop { g with pc := g.pc + 1, stack := .int (x ||| y) :: rest }) target) (hg : g.method = m := by rfl) (hs : g.stack = .int y :: .int x :: rest := by rfl) : Steps p.tables e below (T.setTop g) target := XS.ior X.here q.1 hg (hb q.2 hd) hs hr
theorem wishl (X : Stand p l e R s m args below meth c T locs cells slots) (q : QX p c B) {x y : Int32} {rest : List Value} (hd : decode B g.pc = .ok (.ishl, 1))  (hr : Steps p.tables e below (T.setTop { g with pc := g.pc + 1, stack := .int (x <<< (y &&& 31)) :: rest }) target) (hg : g.method = m := by rfl) (hs : g.stack = .int y :: .int x :: rest := by rfl) : Steps p.tables e below (T.setTop g) target := XS.ishl X.here q.1 hg (hb q.2 hd) hs hr
theorem wishr (X : Stand p l e R s m args below meth c T locs cells slots) (q : QX p c B) {x y : Int32} {rest : List Value} (hd : decode B g.pc = .ok (.ishr, 1))  (hr : Steps p.tables e below (T.setTop { g with pc := g.pc + 1, stack := .int (x >>> (y &&& 31)) :: rest }) target) (hg : g.method = m := by rfl) (hs : g.stack = .int y :: .int x :: rest := by rfl) : Steps p.tables e below (T.setTop g) target := XS.ishr X.here q.1 hg (hb q.2 hd) hs hr
theorem wiushr (X : Stand p l e R s m args below meth c T locs cells slots) (q : QX p c B) {x y : Int32} {rest : List Value} (hd : decode B g.pc = .ok (.iushr, 1))  (hr : Steps p.tables e below (T.setTop { g with pc := g.pc + 1, stack := .int ((x.toUInt32 >>> (y &&& 31).toUInt32).toInt32) :: rest }) target) (hg : g.method = m := by rfl) (hs : g.stack = .int y :: .int x :: rest := by rfl) : Steps p.tables e below (T.setTop g) target := XS.iushr X.here q.1 hg (hb q.2 hd) hs hr
theorem wimul (X : Stand p l e R s m args below meth c T locs cells slots) (q : QX p c B) {x y : Int32} {rest : List Value} (hd : decode B g.pc = .ok (.imul, 1))  (hr : Steps p.tables e below (T.setTop { g with pc := g.pc + 1, stack := .int (x * y) :: rest }) target) (hg : g.method = m := by rfl) (hs : g.stack = .int y :: .int x :: rest := by rfl) : Steps p.tables e below (T.setTop g) target := XS.imul X.here q.1 hg (hb q.2 hd) hs hr
theorem wib2 (X : Stand p l e R s m args below meth c T locs cells slots) (q : QX p c B) {x : Int32} {rest : List Value} (hd : decode B g.pc = .ok (.i2b, 1))  (hr : Steps p.tables e below (T.setTop { g with pc := g.pc + 1, stack := .int x.toInt8.toInt32 :: rest }) target) (hg : g.method = m := by rfl) (hs : g.stack = .int x :: rest := by rfl) : Steps p.tables e below (T.setTop g) target := XS.i2b X.here q.1 hg (hb q.2 hd) hs hr
abbrev dk (b : ByteArray) (p : Nat) (i : Instr) (n : Nat) : Prop := decode b p = .ok (i, n)
theorem icN (X : Stand p l e R s m args below meth c T locs cells slots) (q : QX p c B) {cd : ClassFile.Cond} {o : Int} {x y : Int32} {rest : List Value} (hd : decode B g.pc = .ok (.if_icmp cd o, 3)) (hc : if_icmp.holds cd x y = false) (hr : Steps p.tables e below (T.setTop { g with pc := g.pc + 3, stack := rest }) target) (hg : g.method = m := by rfl) (hs : g.stack = .int y :: .int x :: rest := by rfl) : Steps p.tables e below (T.setTop g) target := XS.icmpNo X.here q.1 hg (hb q.2 hd) hs hc hr
theorem icY (X : Stand p l e R s m args below meth c T locs cells slots) (q : QX p c B) {cd : ClassFile.Cond} {o : Int} {x y : Int32} {rest : List Value} (pc0 pc' : Nat) (hd : decode B g.pc = .ok (.if_icmp cd o, 3)) (hc : if_icmp.holds cd x y = true) (hr : Steps p.tables e below (T.setTop { g with pc := pc', stack := rest }) target) (hg : g.method = m := by rfl) (hs : g.stack = .int y :: .int x :: rest := by rfl) (hpc : g.pc = pc0 := by rfl) (ho : 0 ≤ (pc0 : Int) + o := by decide) (hp : ((pc0 : Int) + o).toNat = pc' := by decide) : Steps p.tables e below (T.setTop g) target := XS.icmpYes X.here q.1 hg hpc (hb q.2 hd) hs hc ho hp hr
theorem ifN (X : Stand p l e R s m args below meth c T locs cells slots) (q : QX p c B) {cd : ClassFile.Cond} {o : Int} {x : Int32} {rest : List Value} (hd : decode B g.pc = .ok (.ifCond cd o, 3)) (hc : if_icmp.holds cd x 0 = false) (hr : Steps p.tables e below (T.setTop { g with pc := g.pc + 3, stack := rest }) target) (hg : g.method = m := by rfl) (hs : g.stack = .int x :: rest := by rfl) : Steps p.tables e below (T.setTop g) target := XS.ifNo X.here q.1 hg (hb q.2 hd) hs ((if0 _ _).trans hc) hr
theorem ifY (X : Stand p l e R s m args below meth c T locs cells slots) (q : QX p c B) {cd : ClassFile.Cond} {o : Int} {x : Int32} {rest : List Value} (pc0 pc' : Nat) (hd : decode B g.pc = .ok (.ifCond cd o, 3)) (hc : if_icmp.holds cd x 0 = true) (hr : Steps p.tables e below (T.setTop { g with pc := pc', stack := rest }) target) (hg : g.method = m := by rfl) (hs : g.stack = .int x :: rest := by rfl) (hpc : g.pc = pc0 := by rfl) (ho : 0 ≤ (pc0 : Int) + o := by decide) (hp : ((pc0 : Int) + o).toNat = pc' := by decide) : Steps p.tables e below (T.setTop g) target := XS.ifYes X.here q.1 hg hpc (hb q.2 hd) hs ((if0 _ _).trans hc) ho hp hr
theorem gt (X : Stand p l e R s m args below meth c T locs cells slots) (q : QX p c B) {o : Int} (pc0 pc' : Nat) (hd : decode B g.pc = .ok (.goto o, 3)) (hr : Steps p.tables e below (T.setTop { g with pc := pc' }) target) (hg : g.method = m := by rfl) (hpc : g.pc = pc0 := by rfl) (ho : 0 ≤ (pc0 : Int) + o := by decide) (hp : ((pc0 : Int) + o).toNat = pc' := by decide) : Steps p.tables e below (T.setTop g) target := XS.goto X.here q.1 hg hpc (hb q.2 hd) ho hp hr
end
def sxt (p0 : Int32) : Int32 := if p0 < (26 : Int32) then (nar .char (((65 : Int32) + p0).toUInt32.toUInt16.toUInt32.toInt32)) else if p0 < (52 : Int32) then (nar .char (((97 : Int32) + (p0 - (26 : Int32))).toUInt32.toUInt16.toUInt32.toInt32)) else if p0 < (62 : Int32) then (nar .char (((48 : Int32) + (p0 - (52 : Int32))).toUInt32.toUInt16.toUInt32.toInt32)) else if p0 = (62 : Int32) then (43 : Int32) else (47 : Int32)
def bA (p0 : Int64) (p1 p2 : Int32) : Int32 := if p1 < p2 then ((((p0.toUInt64 >>> (((8 : Int32) * p1) &&& 0x3f).toInt64.toUInt64).toInt64) &&& (255 : Int64)).toInt32) else (0 : Int32)
theorem own_sigC {y : MethodName} {bytes : ByteArray} {maxL : Nat} {ret : Option FieldType} {args : Array Value} {s : State} (h : (Jvm.Cond.code y bytes maxL ret).before args s = true) : ∃ mk meth, s.methodNamed? y = some mk ∧ s.vm.method? mk = some meth ∧ parseMethodDescriptor y.desc = some meth.sig := by
  obtain ⟨mk, hn⟩ := Cond.code_named h
  obtain ⟨meth, c, hm, -, -, -, -, -, -, hs⟩ := Cond.code_spec hn h
  exact ⟨mk, meth, hn, hm, hs⟩
theorem own_sigW {y : MethodName} {bytes : ByteArray} {maxL : Nat} {ret : Option FieldType} {hs : List (Nat × Nat × Nat × Nat)} {args : Array Value} {s : State} (h : (Jvm.Cond.codeWith y bytes maxL ret hs).before args s = true) : ∃ mk meth, s.methodNamed? y = some mk ∧ s.vm.method? mk = some meth ∧ parseMethodDescriptor y.desc = some meth.sig := by
  obtain ⟨mk, meth, c, hn, hm, -, -, -, -, -, -, hs⟩ := Cond.codeWith_spec h
  exact ⟨mk, meth, hn, hm, hs⟩
/-- a private instance method by invokevirtual, of an object of a class below the method's own, or with an exception table -/
theorem own_priv {p : Program} {l : Launch} {e : Env} {R : Room} {s : State} {m : MethodId} {args : Array Value} {below : List Frame} {meth : Method} {c : Code} {T : State} {locs : List Loc} {cells slots : Nat} (X : Stand p l e R s m args below meth c T locs cells slots) (hexec : p.tables.exec = Jvm.exec) {own C : String} {index : Nat} {y : MethodName}
    (hown : s.vm.findClass own = some m.cls) (hlink : (Jvm.Cond.methodLink own index y).before args s = true) (hinst : (Jvm.Cond.instanceMethod y).before args s = true) (hsel : (Jvm.Cond.selects C y y).before args s = true)
    (hpriv : s.PrivateAt y) (hsg : ∃ mk meth, s.methodNamed? y = some mk ∧ s.vm.method? mk = some meth ∧ parseMethodDescriptor y.desc = some meth.sig) (hy : y.cls ≠ "java/lang/invoke/MethodHandle" ∧ y.cls ≠ "java/lang/invoke/VarHandle")
    {W : Nat} {Pre : Pt → Array Value → Prop} {Post : Pt → Array Value → Option Value → Pt → Prop} (hK : Back l R p e below s args y 3 W Pre Post)
    {g : JFrame} (hg : g.method = m) (hsize : g.locals.size = c.maxLocals) {s₀ : State} (hcome : Steps p.tables e below s₀ (T.setTop g)) {a : Addr} {cell : Cell} (hcell : T.heap[a]? = some cell) (hobj : ∀ q, cell.vm ≠ .statics q)
    {argsL rest : List Value} (hlen : ∀ sig, parseMethodDescriptor y.desc = some sig → argsL.length = sig.parameters.length)
    (hstack : g.stack = argsL.reverse ++ .ref a :: rest) (hW : 2 * g.monitorRoom + (rest.map fun v => v.category).sum ≤ W) (hdg : decode c.code g.pc = .ok (.invokevirtual index, 3))
    (hpre : ∀ vm₁, s.WarmedH vm₁ → Pre ⟨T.setVm vm₁, locs, cells, slots⟩ (.ref a :: argsL).toArray) :
    ∃ (v : Option Value) (vm₁ : Vm) (B : Pt), s.WarmedH vm₁ ∧ Stand p l e R s m args below meth c B.U B.locs B.cells B.slots ∧ Post ⟨T.setVm vm₁, locs, cells, slots⟩ (.ref a :: argsL).toArray v B ∧
      Steps p.tables e below s₀ (B.U.setTop { g with pc := g.pc + 3, stack := v.toList ++ rest }) := by
  obtain ⟨mk, methM, hnamed, hmethM, hstM, habM⟩ := Cond.instanceMethod_spec hinst
  obtain ⟨mk', m', n1, n2, hsig⟩ := hsg
  cases hnamed.symm.trans n1
  cases hmethM.symm.trans n2
  obtain ⟨-, -, m2, -, -, q3, -, kP, hkP, hkPi⟩ := Cond.selects_spec hsel
  cases hnamed.symm.trans q3
  obtain ⟨vm₁, X₁, st⟩ := X.invokevirtual hexec hown hlink hnamed hmethM hstM hkP hkPi hy (a := a) (cell := cell) hcell hobj (selectMethod_private hmethM (hpriv mk methM hnamed hmethM)) hmethM habM hkP hkPi (g := g) hg (argsL := argsL) (rest := rest) (hlen _ hsig) hstack hdg
  obtain ⟨v, B, X', hpost, hsteps⟩ := hK m meth c ⟨T.setVm vm₁, locs, cells, slots⟩ { g with stack := rest } (.invokevirtual index) mk (.ref a :: argsL).toArray X₁ hg hsize hdg hW (X₁.named hnamed) (hpre vm₁ X₁.warmed)
  exact ⟨v, vm₁, B, X₁.warmed, X', hpost, (hcome.trans (st _ fun acts => by rw [doInvoke_state]; exact Steps.refl _)).trans hsteps⟩
theorem own_same {Z : State} {a0 : Array Value} {K : String} {u y y' : MethodName} (w : (Jvm.Cond.selects K u y').before a0 Z = true) (hc : y'.cls = y.cls) (wi : (Jvm.Cond.instanceMethod y).before a0 Z = true) (hy : y.cls ≠ "java/lang/invoke/MethodHandle" ∧ y.cls ≠ "java/lang/invoke/VarHandle") : (Jvm.Cond.sameMethod y.cls y.cls y.name y.desc).before a0 Z = true := by
  obtain ⟨mk, methM, hnamed, -, -, -⟩ := Cond.instanceMethod_spec wi
  obtain ⟨-, -, m2, -, -, q3, -, kP, hkP, hkPi⟩ := Cond.selects_spec w
  have e1 := findClass_of_methodNamed hnamed
  have e2 := findClass_of_methodNamed q3
  rw [hc, e1] at e2
  rw [← Option.some.inj e2] at hkP
  simp [Cond.before, Cond.holds, Cond.value, e1, State.methodFound?_of_named hnamed hy, hnamed, hkP, hkPi]
theorem own_nfs {s : State} {args : Array Value} {K : String} {u y y' : MethodName} (w : (Jvm.Cond.selects K u y').before args s = true) (hc : y'.cls = y.cls) : NotFace s y := fun r0 h0 => by
  obtain ⟨-, -, m2, -, -, q3, -, kP, hkP, hkPi⟩ := Cond.selects_spec w
  have e1 := findClass_of_methodNamed h0
  have e2 := findClass_of_methodNamed q3
  rw [hc, e1] at e2
  rw [← Option.some.inj e2] at hkP
  exact ⟨kP, hkP, hkPi⟩
abbrev lid (l : List Value) : List Value := l
abbrev cpL (vd vs : List Value) (sp dp nn : Int32) : List Value := vd.take dp.toNatClampNeg ++ ((List.range nn.toNatClampNeg).map fun i => vs.getD (sp.toNatClampNeg + i) (.int (0 : Int32))) ++ vd.drop (dp.toNatClampNeg + nn.toNatClampNeg)
def tbL : List Int32 := [65, 66, 67, 68, 69, 70, 71, 72, 73, 74, 75, 76, 77, 78, 79, 80, 81, 82, 83, 84, 85, 86, 87, 88, 89, 90, 97, 98, 99, 100, 101, 102, 103, 104, 105, 106, 107, 108, 109, 110, 111, 112, 113, 114, 115, 116, 117, 118, 119, 120, 121, 122, 48, 49, 50, 51, 52, 53, 54, 55, 56, 57, 43, 47]
def tb64 (j : Int32) : Int32 := tbL.getD j.toNatClampNeg 0
def TbOk (Z : State) (w : Addr) (cl : Cell) : Prop := Arr Z Z.heap w cl .char ∧ cl.slots.size = (64 : Int32).toNatClampNeg ∧ ∀ j : Int32, ¬ (j < 0 ∨ cl.slots.size ≤ j.toNatClampNeg) → cl.slots[j.toNatClampNeg]? = some (.int (tb64 j))
theorem own_getm : ∀ (l : List Int32) (k : Nat), (l.map Value.int).getD k (.int 0) = .int (l.getD k 0)
  | [], k => by simp
  | _ :: _, 0 => rfl
  | _ :: l, k + 1 => own_getm l k
theorem TbOk.start {Z : State} {w : Addr} {cl : Cell} (A : Arr Z Z.heap w cl .char) (q : cl.slots.size < 2 ^ 31) (e : cl.slots.size.toInt32 = (64 : Int32)) (H : HasL cl 0 (tbL.map Value.int)) : TbOk Z w cl := by
  have S : cl.slots.size = (64 : Int32).toNatClampNeg := by rw [← e]; simp only [Int32.toNatClampNeg, len_toInt q]; rfl
  refine ⟨A, S, fun j hj => ?_⟩
  have hlt : j.toNatClampNeg < (tbL.map Value.int).length := by
    have := Nat.lt_of_not_le fun y => hj (Or.inr y)
    rw [S] at this; exact this
  have h := HasL.at (dv := .int 0) _ 0 H _ hlt
  rw [Nat.zero_add, own_getm] at h
  exact h
theorem own_i63 (x : Int32) : ¬ (x &&& (63 : Int32)) < 0 ∧ (x &&& (63 : Int32)) < (64 : Int32) := by
  have q := c_and x (63 : Int32) (by decide)
  have e : (63 : Int32).toInt = 63 := rfl
  have f : (64 : Int32).toInt = 64 := rfl
  have z : (0 : Int32).toInt = 0 := rfl
  rw [Int32.lt_iff_toInt_lt, Int32.lt_iff_toInt_lt, f, z]; omega
theorem own_m255 (x : Int32) : 0 ≤ (x &&& (255 : Int32)).toInt ∧ (x &&& (255 : Int32)).toInt ≤ 255 := c_and x (255 : Int32) (by decide)
theorem own_i2 (x : Int32) : ¬ ((x &&& (255 : Int32)) >>> ((2 : Int32) &&& 31)) < 0 ∧ ((x &&& (255 : Int32)) >>> ((2 : Int32) &&& 31)) < (64 : Int32) := by
  have q := own_m255 x
  have r := c_ishr (x &&& (255 : Int32)) (2 : Int32) 2 rfl
  have f : (64 : Int32).toInt = 64 := rfl
  have z : (0 : Int32).toInt = 0 := rfl
  rw [Int32.lt_iff_toInt_lt, Int32.lt_iff_toInt_lt, f, z, r]; omega
theorem own_or4 {a b : Int32} {A B : Int} (ha : a.toInt = A) (hb : b.toInt = B) (h1 : A % 16 = 0) (h2 : 0 ≤ A) (h3 : A < 64) (h4 : 0 ≤ B) (h5 : B < 16) : (a ||| b).toInt = A + B := by
  have q := c_or a b 4 (by decide) 16 rfl (by omega) (by omega) (by omega)
  have r := rng32 (a ||| b)
  omega
theorem own_i4 (x y : Int32) : ¬ ((((x &&& (255 : Int32)) <<< ((4 : Int32) &&& 31)) &&& (63 : Int32)) ||| ((y &&& (255 : Int32)) >>> ((4 : Int32) &&& 31))) < 0 ∧ ((((x &&& (255 : Int32)) <<< ((4 : Int32) &&& 31)) &&& (63 : Int32)) ||| ((y &&& (255 : Int32)) >>> ((4 : Int32) &&& 31))) < (64 : Int32) := by
  have qx := own_m255 x
  have qy := own_m255 y
  have s1 := c_ishl (x &&& (255 : Int32)) (4 : Int32) 4 rfl
  have s2 := c_mask ((x &&& (255 : Int32)) <<< ((4 : Int32) &&& 31)) (63 : Int32) 6 (by decide) rfl
  have s3 := c_ishr (y &&& (255 : Int32)) (4 : Int32) 4 rfl
  have r := own_or4 s2 s3 (by omega) (by omega) (by omega) (by omega) (by omega)
  have f : (64 : Int32).toInt = 64 := rfl
  have z : (0 : Int32).toInt = 0 := rfl
  rw [Int32.lt_iff_toInt_lt, Int32.lt_iff_toInt_lt, f, z, r]; omega
abbrev repL (n : Int32) : List Value := List.replicate n.toNatClampNeg (.int (0 : Int32))
abbrev stL (l : List Value) (j x : Int32) : List Value := l.set j.toNatClampNeg (.int x)
abbrev eoL (n : Int32) : Int32 := (4 : Int32) * ((n + (2 : Int32)) / (3 : Int32))
theorem stk {p : Program} {e : Env} {below : List Frame} {T t : State} {m : MethodId} {pc : Nat} {L : Array Slot} {x y : Value} {rest : List Value} (h : x = y) (k : Sp p e below T (mkF m pc L (y :: rest)) t) : Sp p e below T (mkF m pc L (x :: rest)) t := h ▸ k
theorem own_n7 {n : Int32} (h : 0 ≤ n.toInt ∧ n.toInt < 7) : n = 0 ∨ n = 1 ∨ n = 2 ∨ n = 3 ∨ n = 4 ∨ n = 5 ∨ n = 6 := by
  have q : n.toInt = (0 : Int32).toInt ∨ n.toInt = (1 : Int32).toInt ∨ n.toInt = (2 : Int32).toInt ∨ n.toInt = (3 : Int32).toInt ∨ n.toInt = (4 : Int32).toInt ∨ n.toInt = (5 : Int32).toInt ∨ n.toInt = (6 : Int32).toInt := by
    show n.toInt = 0 ∨ n.toInt = 1 ∨ n.toInt = 2 ∨ n.toInt = 3 ∨ n.toInt = 4 ∨ n.toInt = 5 ∨ n.toInt = 6
    omega
  simpa only [Int32.toInt_inj] using q
theorem own_lt23 {c : Int32} (h : c < (2 : Int32)) : c < (3 : Int32) := by
  rw [Int32.lt_iff_toInt_lt] at h ⊢
  have a : (2 : Int32).toInt = 2 := rfl
  have b : (3 : Int32).toInt = 3 := rfl
  omega
theorem own_znat {Z : State} {h : Heap} {a : Addr} {k : ClassId} {ty : FieldType} {z : Int32} {vs : List Value} {dv : Value} (V : Arv Z h a k ty z vs dv) : (0 : Int32).toInt + ((z.toInt.toNat : Nat) : Int) = z.toInt := by
  obtain ⟨cl, -, -, -, Nn, -, -⟩ := V
  have z0 : (0 : Int32).toInt = 0 := rfl
  rw [Int32.lt_iff_toInt_lt, z0] at Nn
  omega
theorem own_rew {Z : State} {h : Heap} {a : Addr} {k : ClassId} {ty : FieldType} {n1 n2 : Int32} {l1 l2 : List Value} {dv : Value} (hl : l1 = l2) (hn : n1 = n2) (V : Arv Z h a k ty n2 (lid l2) dv) : Arv Z h a k ty n1 (lid l1) dv := by subst hl hn; exact V
theorem own_cons {x y : Int32} {l l' : List Value} (h : x = y) (t : l = l') : Value.int x :: l = Value.int y :: l' := by rw [h, t]
theorem own_ltI {x c : Int32} {n : Int} (e : c.toInt = n) (h : x < c) : x.toInt < n := by rw [Int32.lt_iff_toInt_lt, e] at h; exact h
theorem own_nltI {x c : Int32} {n : Int} (e : c.toInt = n) (h : ¬ x < c) : ¬ x.toInt < n := by rw [Int32.lt_iff_toInt_lt, e] at h; exact h
abbrev HW (Z : State) (a0 : Array Value) : Prop := ∀ d ∈ tables_1, d.before a0 Z = true
abbrev MF (l : Launch) (y : MethodName) (cs : List Jvm.Cond) (rm : Room) (Z : State) (as' : Array Value) (h : Heap) (Q : Option Value → Heap → List Loc → Prop) : Prop := MetFree l y (head1 cs rm) (fun a U => a = as' ∧ Z.Warmed39 U.vm ∧ U.heap = h) (fun _ _ _ _ _ => True) (fun _ U o U' => ∃ v L, o = .returned v ∧ Q v U'.heap L ∧ FrameEnd U o U' L rm.cells rm.slots)
abbrev KX (p : Program) (c : Code) (B : ByteArray) (ml : Nat) (Z s : State) (a0 : Array Value) (own : String) (m : MethodId) : Prop := p.tables.exec = Jvm.exec ∧ c.code = B ∧ c.maxLocals = ml ∧ Z.Warmed39 s.vm ∧ s.vm.findClass own = some m.cls ∧ HW Z a0
section
variable {p : Program} {l : Launch} {e : Env} {R : Room} {s : State} {m : MethodId} {args : Array Value} {below : List Frame} {meth : Method} {c : Code} {T : State} {locs : List Loc} {cells slots : Nat} {B : ByteArray} {ml : Nat} {Z : State} {a0 : Array Value} {own : String} {h : Heap} {bytes : ByteArray} {maxL : Nat} {ret : Option FieldType} {rm : Room} {as' : Array Value} {Q : Option Value → Heap → List Loc → Prop} {index : Nat} {sig : MethodDescriptor}
/-- invokevirtual -/
theorem vB (X : Stand p l e R s m args below meth c T locs cells slots) (K : KX p c B ml Z s a0 own m) (y z : MethodName) (W i1 i2 i3 i4 i5 i6 : Nat) (hM : MF l z [Jvm.Cond.code z bytes maxL ret] rm Z as' h Q) (eT : T.heap = h) {a : Addr} {C : String} (E : Exa Z h a C) (nf : NotFace s y) (g : JFrame) (argsL rest : List Value) (pd : parseMethodDescriptor y.desc = some sig) (hd : decode B g.pc = .ok (.invokevirtual index, 3))
    (h1 : tables_1[i1]? = some (.methodLink own index y) := by rfl) (h2 : tables_1[i2]? = some (.declares y) := by rfl) (h3 : tables_1[i3]? = some (.selects C y z) := by rfl) (h4 : tables_1[i4]? = some (.instanceMethod z) := by rfl) (h5 : tables_1[i5]? = some (.code z bytes maxL ret) := by rfl) (h6 : tables_1[i6]? = some (.initialized z.cls) := by rfl)
    (hy : y.cls ≠ "java/lang/invoke/MethodHandle" ∧ y.cls ≠ "java/lang/invoke/VarHandle" := by decide) (hf : rm.frames + 1 ≤ R.frames := by decide) (hl : W + (maxL + 11) + rm.locals ≤ R.locals := by decide) (hc : cells + rm.cells ≤ R.cells := by decide) (hs : slots + rm.slots ≤ R.slots := by decide)
    (hg : g.method = m := by rfl) (hsz : g.locals.size = ml := by rfl) (hn : argsL.length = sig.parameters.length := by rfl) (hst : g.stack = argsL.reverse ++ .ref a :: rest := by rfl) (hW : 2 * g.monitorRoom + (rest.map fun v => v.category).sum ≤ W := by exact Nat.le_of_ble_eq_true rfl) (ha : (.ref a :: argsL).toArray = as' := by rfl) :
    ∃ v T' L, Stand p l e R s m args below meth c T' (locs ++ L) (cells + rm.cells) (slots + rm.slots) ∧ Q v T'.heap L ∧ Steps p.tables e below (T.setTop g) (T'.setTop { g with pc := g.pc + 3, stack := v.toList ++ rest }) := by
  obtain ⟨hx, hby, hml, hZ, hown, hw⟩ := K
  obtain ⟨cq, kq, qa, qb, qc⟩ := isOf hZ eT E
  obtain ⟨v, _, ⟨T', L', k', n'⟩, -, X', ⟨L, hQ, l1, y1, z1⟩, st⟩ := X.virtualBack hx (y := y) (z := z) hown (mvT hZ (wq hw i1 h1)) (mvT hZ (wq hw i2 h2)) nf (mvT hZ (wq hw i3 h3)) (mvT hZ (wq hw i4 h4)) hy (backOf (W := W) hM hZ (wq hw i5 h5) (wq hw i6 h6) hf hl) qa qc (g := g) hg (hsz.trans hml.symm) (Steps.refl _) (argsL := argsL) (rest := rest) (fun sg q => by cases pd.symm.trans q; exact hn) hst hW (hb hby hd) (fun _ _ => ⟨ha, eT, hc, hs⟩)
  dsimp only [Pt.U, Pt.locs, Pt.cells, Pt.slots] at X' hQ l1 y1 z1 st
  subst l1 y1 z1
  exact ⟨v, T', L, X', hQ, st⟩
/-- invokestatic -/
theorem cS (X : Stand p l e R s m args below meth c T locs cells slots) (K : KX p c B ml Z s a0 own m) (y : MethodName) (W i1 i2 i3 i4 : Nat) (hM : MF l y [Jvm.Cond.code y bytes maxL ret] rm Z as' h Q) (eT : T.heap = h) (g : JFrame) (argsL rest : List Value) (pd : parseMethodDescriptor y.desc = some sig) (hd : decode B g.pc = .ok (.invokestatic index, 3))
    (h1 : tables_1[i1]? = some (.methodLink own index y) := by rfl) (h2 : tables_1[i2]? = some (.static y) := by rfl) (h3 : tables_1[i3]? = some (.initialized y.cls) := by rfl) (h4 : tables_1[i4]? = some (.code y bytes maxL ret) := by rfl)
    (hy : y.cls ≠ "java/lang/invoke/MethodHandle" ∧ y.cls ≠ "java/lang/invoke/VarHandle" := by decide) (hf : rm.frames + 1 ≤ R.frames := by decide) (hl : W + (maxL + 11) + rm.locals ≤ R.locals := by decide) (hc : cells + rm.cells ≤ R.cells := by decide) (hs : slots + rm.slots ≤ R.slots := by decide)
    (hg : g.method = m := by rfl) (hsz : g.locals.size = ml := by rfl) (hn : argsL.length = sig.parameters.length := by rfl) (hst : g.stack = argsL.reverse ++ rest := by rfl) (hW : 2 * g.monitorRoom + (rest.map fun v => v.category).sum ≤ W := by exact Nat.le_of_ble_eq_true rfl) (ha : argsL.toArray = as' := by rfl) :
    ∃ v T' L, Stand p l e R s m args below meth c T' (locs ++ L) (cells + rm.cells) (slots + rm.slots) ∧ Q v T'.heap L ∧ ∀ target, Steps p.tables e below (T'.setTop { g with pc := g.pc + 3, stack := v.toList ++ rest }) target → Steps p.tables e below (T.setTop g) target := by
  obtain ⟨hx, hby, hml, hZ, hown, hw⟩ := K
  obtain ⟨v, _, ⟨T', L', k', n'⟩, -, X', ⟨L, hQ, l1, y1, z1⟩, st⟩ := Jvm.LawKit.callS X hx (y := y) hown (mvT hZ (wq hw i1 h1)) (mvT hZ (wq hw i2 h2)) (mvT hZ (wq hw i3 h3)) (mvT hZ (wq hw i4 h4)) hy (backOf (W := W) hM hZ (wq hw i4 h4) (wq hw i3 h3) hf hl) (g := g) hg (hsz.trans hml.symm) (argsL := argsL) (rest := rest) (fun sg q => by cases pd.symm.trans q; exact hn) hst hW (hb hby hd) (fun _ _ => ⟨ha, eT, hc, hs⟩)
  dsimp only [Pt.U, Pt.locs, Pt.cells, Pt.slots] at X' hQ l1 y1 z1 st
  subst l1 y1 z1
  exact ⟨v, T', L, X', hQ, st⟩
/-- invokespecial of a constructor -/
theorem sB (X : Stand p l e R s m args below meth c T locs cells slots) (K : KX p c B ml Z s a0 own m) (y : MethodName) (W i1 i2 i3 i4 : Nat) (hM : MF l y [Jvm.Cond.code y bytes maxL none] rm Z as' h Q) (eT : T.heap = h) (a : Addr) (g : JFrame) (argsL rest : List Value) (pd : parseMethodDescriptor y.desc = some sig) (hd : decode B g.pc = .ok (.invokespecial index, 3))
    (h1 : tables_1[i1]? = some (.methodLink own index y) := by rfl) (h2 : tables_1[i2]? = some (.instanceMethod y) := by rfl) (h3 : tables_1[i3]? = some (.code y bytes maxL none) := by rfl) (h4 : tables_1[i4]? = some (.initialized y.cls) := by rfl) (hi : y.name = "<init>" := by rfl)
    (hy : y.cls ≠ "java/lang/invoke/MethodHandle" ∧ y.cls ≠ "java/lang/invoke/VarHandle" := by decide) (hf : rm.frames + 1 ≤ R.frames := by decide) (hl : W + (maxL + 11) + rm.locals ≤ R.locals := by decide) (hc : cells + rm.cells ≤ R.cells := by decide) (hs : slots + rm.slots ≤ R.slots := by decide)
    (hg : g.method = m := by rfl) (hsz : g.locals.size = ml := by rfl) (hn : argsL.length = sig.parameters.length := by rfl) (hst : g.stack = argsL.reverse ++ .ref a :: rest := by rfl) (hW : 2 * g.monitorRoom + (rest.map fun v => v.category).sum ≤ W := by exact Nat.le_of_ble_eq_true rfl) (ha : (.ref a :: argsL).toArray = as' := by rfl) :
    ∃ v T' L, Stand p l e R s m args below meth c T' (locs ++ L) (cells + rm.cells) (slots + rm.slots) ∧ Q v T'.heap L ∧ Steps p.tables e below (T.setTop g) (T'.setTop { g with pc := g.pc + 3, stack := v.toList ++ rest }) := by
  obtain ⟨hx, hby, hml, hZ, hown, hw⟩ := K
  obtain ⟨v, _, ⟨T', L', k', n'⟩, -, X', ⟨L, hQ, l1, y1, z1⟩, st⟩ := X.specialBack hx (y := y) hi hown (mvT hZ (wq hw i1 h1)) (mvT hZ (wq hw i2 h2)) (mvT hZ (wq hw i3 h3)) hy (backOf (W := W) hM hZ (wq hw i3 h3) (wq hw i4 h4) hf hl) (g := g) hg (hsz.trans hml.symm) (Steps.refl _) (a := a) (argsL := argsL) (rest := rest) (fun sg q => by cases pd.symm.trans q; exact hn) hst hW (hb hby hd) (fun _ _ => ⟨ha, eT, hc, hs⟩)
  dsimp only [Pt.U, Pt.locs, Pt.cells, Pt.slots] at X' hQ l1 y1 z1 st
  subst l1 y1 z1
  exact ⟨v, T', L, X', hQ, st⟩
end
section
variable {p : Program} {l : Launch} {e : Env} {s : State} {m : MethodId} {below : List Frame} {meth : Method} {c : Code} {T s₁ : State} {locs : List Loc} {cells slots : Nat} {Z : State} {a0 : Array Value} {h : Heap} {y : MethodName} {bytes : ByteArray} {maxL : Nat} {ret : Option FieldType} {hs : List (Nat × Nat × Nat × Nat)} {ws : List Jvm.Cond} {rm : Room} {as' : Array Value} {Q : Option Value → Heap → List Loc → Prop}
abbrev EndK (p : Program) (e : Env) (s : State) (m : MethodId) (below : List Frame) (s₁ : State) (as' : Array Value) (maxL : Nat) (rm : Room) (Q : Option Value → Heap → List Loc → Prop) : Prop := ∃ s₂ o, Steps p.tables e below (s₁.setTop (entryFrame m as' maxL)) s₂ ∧ s₂.status = .running ∧ Ended s₂ below o ∧ ∃ v L, o = .returned v ∧ Q v s₂.heap L ∧ FrameEnd s o s₂ L rm.cells rm.slots
theorem mfB (pn : plainFor y = true) (hw : HW Z a0) (H : ∀ p e s m below meth c s₁, BodyLoose p l y (head1 (Jvm.Cond.code y bytes maxL ret :: ws) rm) bytes maxL ret e s m as' below meth c s₁ → KX p c bytes maxL Z s a0 y.cls m → Stand p l e rm s m as' below meth c s₁ [] 0 0 → s₁.heap = h → EndK p e s m below s₁ as' maxL rm Q) : MF l y (Jvm.Cond.code y bytes maxL ret :: ws) rm Z as' h Q :=
  MetFree.of_bodySF pn hisR (fun p e s m args below meth c s₁ Bd hml hP _ => by
    obtain ⟨rfl, hZ, hh⟩ := hP
    exact H p e s m below meth c s₁ Bd ⟨Bd.exec, Bd.bytes, hml, hZ, findClass_of_methodNamed Bd.named, hw⟩ (Stand.of_body Bd) (by rw [← hh, Bd.state]; rfl))
theorem mfW (pn : plainFor y = true) (hw : HW Z a0) (H : ∀ p e s m below meth c s₁, BodyLoose p l y (head1 (Jvm.Cond.codeWith y bytes maxL ret hs :: ws) rm) bytes maxL ret e s m as' below meth c s₁ → KX p c bytes maxL Z s a0 y.cls m → Stand p l e rm s m as' below meth c s₁ [] 0 0 → s₁.heap = h → EndK p e s m below s₁ as' maxL rm Q) : MF l y (Jvm.Cond.codeWith y bytes maxL ret hs :: ws) rm Z as' h Q :=
  MetFree.of_bodySF pn hisWith (fun p e s m args below meth c s₁ Bd hml hP _ => by
    obtain ⟨rfl, hZ, hh⟩ := hP
    exact H p e s m below meth c s₁ Bd ⟨Bd.exec, Bd.bytes, hml, hZ, findClass_of_methodNamed Bd.named, hw⟩ (Stand.of_body Bd) (by rw [← hh, Bd.state]; rfl))
theorem mfE {S : Spec} (Bd : BodyLoose p l y S bytes maxL ret e s m as' below meth c s₁) (X : Stand p l e rm s m as' below meth c T locs cells slots) (v : Option Value) (eT : T.heap = h) (hv : meth.sig.returnType = none → v = none) {f0 : JFrame} (hf : entryFrame m as' maxL = f0) (hq : Q v h locs)
    (hst : ∀ fs, (∀ (f : JFrame) (acts : List Action), f.method = m → f.locked = none → f.entered = [] → (doReturn e (T.setTop f) acts v).1 = T.setFrames fs) → Sp p e below s₁ f0 (T.setFrames fs)) (hc : cells ≤ rm.cells := by decide) (hs : slots ≤ rm.slots := by decide) : EndK p e s m below s₁ as' maxL rm Q := by
  obtain ⟨fs, hr, hrun, hended, hW, hsame⟩ := X.leave (v := v) hv
  refine ⟨_, _, castTop hf (hst fs hr), hrun, hended, _, _, rfl, ?_, ⟨_, rfl⟩, hW, hsame.mono hc hs⟩
  show Q v T.heap locs
  rw [eT]; exact hq
end
section
variable {p : Program} {l : Launch} {e : Env} {R : Room} {s : State} {m : MethodId} {args : Array Value} {below : List Frame} {meth : Method} {c : Code} {T : State} {locs : List Loc} {cells slots : Nat} {B : ByteArray} {ml : Nat} {Z : State} {a0 : Array Value} {own : String} {h : Heap} {bytes : ByteArray} {maxL : Nat} {ret : Option FieldType} {hs' : List (Nat × Nat × Nat × Nat)} {rm : Room} {as' : Array Value} {Q : Option Value → Heap → List Loc → Prop} {index : Nat} {sig : MethodDescriptor}
theorem vS (X : Stand p l e R s m args below meth c T locs cells slots) (K : KX p c B ml Z s a0 own m) (y : MethodName) (W i1 i2 i3 i4 i5 i6 : Nat) (hM : MF l y [Jvm.Cond.code y bytes maxL ret] rm Z as' h Q) (eT : T.heap = h) {a : Addr} {C : String} (E : Exa Z h a C) (g : JFrame) (argsL rest : List Value) (pd : parseMethodDescriptor y.desc = some sig) (hd : decode B g.pc = .ok (.invokevirtual index, 3))
    (h1 : tables_1[i1]? = some (.methodLink own index y) := by rfl) (h2 : tables_1[i2]? = some (.declares y) := by rfl) (h3 : tables_1[i3]? = some (.selects C y y) := by rfl) (h4 : tables_1[i4]? = some (.instanceMethod y) := by rfl) (h5 : tables_1[i5]? = some (.code y bytes maxL ret) := by rfl) (h6 : tables_1[i6]? = some (.initialized y.cls) := by rfl)
    (hy : y.cls ≠ "java/lang/invoke/MethodHandle" ∧ y.cls ≠ "java/lang/invoke/VarHandle" := by decide) (hf : rm.frames + 1 ≤ R.frames := by decide) (hl : W + (maxL + 11) + rm.locals ≤ R.locals := by decide) (hc : cells + rm.cells ≤ R.cells := by decide) (hs : slots + rm.slots ≤ R.slots := by decide)
    (hg : g.method = m := by rfl) (hsz : g.locals.size = ml := by rfl) (hn : argsL.length = sig.parameters.length := by rfl) (hst : g.stack = argsL.reverse ++ .ref a :: rest := by rfl) (hW : 2 * g.monitorRoom + (rest.map fun v => v.category).sum ≤ W := by exact Nat.le_of_ble_eq_true rfl) (ha : (.ref a :: argsL).toArray = as' := by rfl) :
    ∃ v T' L, Stand p l e R s m args below meth c T' (locs ++ L) (cells + rm.cells) (slots + rm.slots) ∧ Q v T'.heap L ∧ Steps p.tables e below (T.setTop g) (T'.setTop { g with pc := g.pc + 3, stack := v.toList ++ rest }) :=
  vB X K y y W i1 i2 i3 i4 i5 i6 hM eT E (notFace_of_selects (args := #[]) (mvT K.2.2.2.1 (wq K.2.2.2.2.2 i3 h3))) g argsL rest pd hd h1 h2 h3 h4 h5 h6 hy hf hl hc hs hg hsz hn hst hW ha
/-- invokevirtual of a private method -/
theorem pB (X : Stand p l e R s m args below meth c T locs cells slots) (K : KX p c B ml Z s a0 own m) (y : MethodName) (W i1 i2 i3 i4 i5 i6 : Nat) (hM : MF l y [Jvm.Cond.code y bytes maxL ret] rm Z as' h Q) (eT : T.heap = h) {a : Addr} {C D : String} (E : Exa Z h a D) (g : JFrame) (argsL rest : List Value) (pd : parseMethodDescriptor y.desc = some sig) (hd : decode B g.pc = .ok (.invokevirtual index, 3))
    (h1 : tables_1[i1]? = some (.methodLink own index y) := by rfl) (h2 : tables_1[i2]? = some (.instanceMethod y) := by rfl) (h3 : tables_1[i3]? = some (.selects C y y) := by rfl) (h4 : tables_1[i4]? = some (.privateMethod y) := by rfl) (h5 : tables_1[i5]? = some (.code y bytes maxL ret) := by rfl) (h6 : tables_1[i6]? = some (.initialized y.cls) := by rfl)
    (hy : y.cls ≠ "java/lang/invoke/MethodHandle" ∧ y.cls ≠ "java/lang/invoke/VarHandle" := by decide) (hf : rm.frames + 1 ≤ R.frames := by decide) (hl : W + (maxL + 11) + rm.locals ≤ R.locals := by decide) (hc : cells + rm.cells ≤ R.cells := by decide) (hs : slots + rm.slots ≤ R.slots := by decide)
    (hg : g.method = m := by rfl) (hsz : g.locals.size = ml := by rfl) (hn : argsL.length = sig.parameters.length := by rfl) (hst : g.stack = argsL.reverse ++ .ref a :: rest := by rfl) (hW : 2 * g.monitorRoom + (rest.map fun v => v.category).sum ≤ W := by exact Nat.le_of_ble_eq_true rfl) (ha : (.ref a :: argsL).toArray = as' := by rfl) :
    ∃ v T' L, Stand p l e R s m args below meth c T' (locs ++ L) (cells + rm.cells) (slots + rm.slots) ∧ Q v T'.heap L ∧ Steps p.tables e below (T.setTop g) (T'.setTop { g with pc := g.pc + 3, stack := v.toList ++ rest }) := by
  obtain ⟨hx, hby, hml, hZ, hown, hw⟩ := K
  obtain ⟨cq, q1, q2⟩ := E.cell
  obtain ⟨v, _, ⟨T', L', k', n'⟩, -, X', ⟨L, hQ, l1, y1, z1⟩, st⟩ := own_priv X hx (y := y) hown (mvT hZ (wq hw i1 h1)) (mvT hZ (wq hw i2 h2)) (mvT hZ (wq hw i3 h3)) (Cond.privateMethod_at (mvP hZ (wq hw i4 h4) (args := #[]))) (own_sigC (args := #[]) (mvT hZ (wq hw i5 h5))) hy (backOf (W := W) hM hZ (wq hw i5 h5) (wq hw i6 h6) hf hl) (g := g) hg (hsz.trans hml.symm) (Steps.refl _) (a := a) (by rw [eT]; exact q1) q2 (argsL := argsL) (rest := rest) (fun sg q => by cases pd.symm.trans q; exact hn) hst hW (hb hby hd) (fun _ _ => ⟨ha, eT, hc, hs⟩)
  dsimp only [Pt.U, Pt.locs, Pt.cells, Pt.slots] at X' hQ l1 y1 z1 st
  subst l1 y1 z1
  exact ⟨v, T', L, X', hQ, st⟩
theorem pW (X : Stand p l e R s m args below meth c T locs cells slots) (K : KX p c B ml Z s a0 own m) (y : MethodName) (W i1 i2 i3 i4 i5 i6 : Nat) (hM : MF l y [Jvm.Cond.codeWith y bytes maxL ret hs'] rm Z as' h Q) (eT : T.heap = h) {a : Addr} {C D : String} (E : Exa Z h a D) (g : JFrame) (argsL rest : List Value) (pd : parseMethodDescriptor y.desc = some sig) (hd : decode B g.pc = .ok (.invokevirtual index, 3))
    (h1 : tables_1[i1]? = some (.methodLink own index y) := by rfl) (h2 : tables_1[i2]? = some (.instanceMethod y) := by rfl) (h3 : tables_1[i3]? = some (.selects C y y) := by rfl) (h4 : tables_1[i4]? = some (.privateMethod y) := by rfl) (h5 : tables_1[i5]? = some (.codeWith y bytes maxL ret hs') := by rfl) (h6 : tables_1[i6]? = some (.initialized y.cls) := by rfl)
    (hy : y.cls ≠ "java/lang/invoke/MethodHandle" ∧ y.cls ≠ "java/lang/invoke/VarHandle" := by decide) (hf : rm.frames + 1 ≤ R.frames := by decide) (hl : W + (maxL + 11) + rm.locals ≤ R.locals := by decide) (hc : cells + rm.cells ≤ R.cells := by decide) (hs : slots + rm.slots ≤ R.slots := by decide)
    (hg : g.method = m := by rfl) (hsz : g.locals.size = ml := by rfl) (hn : argsL.length = sig.parameters.length := by rfl) (hst : g.stack = argsL.reverse ++ .ref a :: rest := by rfl) (hW : 2 * g.monitorRoom + (rest.map fun v => v.category).sum ≤ W := by exact Nat.le_of_ble_eq_true rfl) (ha : (.ref a :: argsL).toArray = as' := by rfl) :
    ∃ v T' L, Stand p l e R s m args below meth c T' (locs ++ L) (cells + rm.cells) (slots + rm.slots) ∧ Q v T'.heap L ∧ Steps p.tables e below (T.setTop g) (T'.setTop { g with pc := g.pc + 3, stack := v.toList ++ rest }) := by
  obtain ⟨hx, hby, hml, hZ, hown, hw⟩ := K
  obtain ⟨cq, q1, q2⟩ := E.cell
  obtain ⟨v, _, ⟨T', L', k', n'⟩, -, X', ⟨L, hQ, l1, y1, z1⟩, st⟩ := own_priv X hx (y := y) hown (mvT hZ (wq hw i1 h1)) (mvT hZ (wq hw i2 h2)) (mvT hZ (wq hw i3 h3)) (Cond.privateMethod_at (mvP hZ (wq hw i4 h4) (args := #[]))) (own_sigW (args := #[]) (mvT hZ (wq hw i5 h5))) hy (backOfWith (W := W) hM hZ (wq hw i5 h5) (wq hw i6 h6) hf hl) (g := g) hg (hsz.trans hml.symm) (Steps.refl _) (a := a) (by rw [eT]; exact q1) q2 (argsL := argsL) (rest := rest) (fun sg q => by cases pd.symm.trans q; exact hn) hst hW (hb hby hd) (fun _ _ => ⟨ha, eT, hc, hs⟩)
  dsimp only [Pt.U, Pt.locs, Pt.cells, Pt.slots] at X' hQ l1 y1 z1 st
  subst l1 y1 z1
  exact ⟨v, T', L, X', hQ, st⟩
end
section
variable {p : Program} {l : Launch} {e : Env} {R : Room} {s : State} {m : MethodId} {args : Array Value} {below : List Frame} {meth : Method} {c : Code} {T target : State} {locs : List Loc} {cells slots : Nat} {B : ByteArray} {ml : Nat} {Z : State} {a0 : Array Value} {own : String} {h : Heap} {g : JFrame} {a : Addr} {k : ClassId} {ty : FieldType} {z j x : Int32} {vs : List Value} {dv : Value} {rest : List Value}
theorem aL (X : Stand p l e R s m args below meth c T locs cells slots) (K : KX p c B ml Z s a0 own m) (eT : T.heap = h) (V : Arv Z h a k ty z vs dv) (hd : decode B g.pc = .ok (.arraylength, 1)) (hr : Steps p.tables e below (T.setTop { g with pc := g.pc + 1, stack := .int z :: rest }) target) (hg : g.method = m := by rfl) (hs : g.stack = .ref a :: rest := by rfl) : Steps p.tables e below (T.setTop g) target := by
  obtain ⟨hx, hby, hml, hZ, hown, hw⟩ := K
  obtain ⟨cl, Ar, -, S, Nn, -, -⟩ := V
  refine X.arraylength hx (by rw [eT]; exact Ar.1) (State.isArrayOf_alike hZ.alike Ar.2.1) (g := g) hg hs (hb hby hd) _ ?_
  rw [len_of S Nn]; exact hr
theorem rB (X : Stand p l e R s m args below meth c T locs cells slots) (K : KX p c B ml Z s a0 own m) (eT : T.heap = h) (V : Arv Z h a k .byte z vs dv) (hd : decode B g.pc = .ok (.baload, 1)) (hr : Steps p.tables e below (T.setTop { g with pc := g.pc + 1, stack := .int x :: rest }) target) (hg : g.method = m := by rfl) (hs : g.stack = .int j :: .ref a :: rest := by rfl) (hj : ¬ j < 0 ∧ j < z := by decide) (hv : vs.getD j.toNatClampNeg dv = .int x := by rfl) : Steps p.tables e below (T.setTop g) target := by
  obtain ⟨hx, hby, hml, hZ, hown, hw⟩ := K
  obtain ⟨cl, Ar, -, S, -, H, -⟩ := V
  have hin := inb_of S hj
  exact X.baloadBytes hx (j := j) (v := .int x) (by rw [eT]; exact Ar.1) (State.isArrayOf_alike hZ.alike Ar.2.1) Ar.2.2 hin (H.at hin hv) (g := g) hg hs (hb hby hd) _ hr
theorem wB (X : Stand p l e R s m args below meth c T locs cells slots) (K : KX p c B ml Z s a0 own m) (eT : T.heap = h) (V : Arv Z h a k .byte z vs dv) (j : Int32) (i : Nat) (g : JFrame) (hd : decode B g.pc = .ok (.bastore, 1)) (hg : g.method = m := by rfl) (hs : g.stack = .int x :: .int j :: .ref a :: rest := by rfl) (hj : ¬ j < 0 ∧ j < z := by decide) (hi : j.toNatClampNeg = i := by rfl) (hl : i < vs.length := by exact Nat.le_of_ble_eq_true rfl) :
    ∃ T' h', Stand p l e R s m args below meth c T' (locs ++ [⟨a, j.toNatClampNeg⟩]) cells slots ∧ T'.heap = h' ∧ Wr h h' a j.toNatClampNeg (.int (nar .byte x)) ∧ Arv Z h' a k .byte z (vs.set i (.int (nar .byte x))) dv ∧ ∀ target, Steps p.tables e below (T'.setTop { g with pc := g.pc + 1, stack := rest }) target → Steps p.tables e below (T.setTop g) target := by
  obtain ⟨hx, hby, hml, hZ, hown, hw⟩ := K
  obtain ⟨cl, Ar, q, S, Nn, H, G⟩ := V
  have hin := inb_of S hj
  obtain ⟨T', h', X', e', W', st⟩ := stB X hx hZ eT Ar (j := j) hin (g := g) hg hs (hb hby hd)
  exact ⟨T', h', X', e', W', Arv.set Ar q S Nn H G (fits_nar_byte _) W' i hi hl, st⟩
theorem wC (X : Stand p l e R s m args below meth c T locs cells slots) (K : KX p c B ml Z s a0 own m) (eT : T.heap = h) (V : Arv Z h a k .char z vs dv) (j : Int32) (i : Nat) (g : JFrame) (hd : decode B g.pc = .ok (.castore, 1)) (hg : g.method = m := by rfl) (hs : g.stack = .int x :: .int j :: .ref a :: rest := by rfl) (hj : ¬ j < 0 ∧ j < z := by decide) (hi : j.toNatClampNeg = i := by rfl) (hl : i < vs.length := by exact Nat.le_of_ble_eq_true rfl) :
    ∃ T' h', Stand p l e R s m args below meth c T' (locs ++ [⟨a, j.toNatClampNeg⟩]) cells slots ∧ T'.heap = h' ∧ Wr h h' a j.toNatClampNeg (.int (nar .char x)) ∧ Arv Z h' a k .char z (vs.set i (.int (nar .char x))) dv ∧ ∀ target, Steps p.tables e below (T'.setTop { g with pc := g.pc + 1, stack := rest }) target → Steps p.tables e below (T.setTop g) target := by
  obtain ⟨hx, hby, hml, hZ, hown, hw⟩ := K
  obtain ⟨cl, Ar, q, S, Nn, H, G⟩ := V
  have hin := inb_of S hj
  obtain ⟨T', h', X', e', W', st⟩ := stC X hx hZ eT Ar (j := j) hin (g := g) hg hs (hb hby hd)
  exact ⟨T', h', X', e', W', Arv.set Ar q S Nn H G (fits_nar_char _) W' i hi hl, st⟩
theorem gF (X : Stand p l e R s m args below meth c T locs cells slots) (K : KX p c B ml Z s a0 own m) (i : Nat) (eT : T.heap = h) {O n d : String} {index : Nat} {v : Value} (F : Fld Z h a O n d v) (g : JFrame) (hd : decode B g.pc = .ok (.getfield index, 3)) (h1 : tables_1[i]? = some (.fieldLink own index O n d) := by rfl) (hg : g.method = m := by rfl) (hs : g.stack = .ref a :: rest := by rfl) :
    ∃ T', Stand p l e R s m args below meth c T' locs cells slots ∧ T'.heap = h ∧ ∀ target, Steps p.tables e below (T'.setTop { g with pc := g.pc + 3, stack := v :: rest }) target → Steps p.tables e below (T.setTop g) target := by
  obtain ⟨hx, hby, hml, hZ, hown, hw⟩ := K
  exact getF X hx hZ hown (host := "") (Or.inl (wq hw i h1)) Via.refl eT F (g := g) hg hs (hb hby hd)
end
section
variable {p : Program} {l : Launch} {e : Env} {R : Room} {s : State} {m : MethodId} {args : Array Value} {below : List Frame} {meth : Method} {c : Code} {T : State} {locs : List Loc} {cells slots : Nat} {B : ByteArray} {ml : Nat} {Z : State} {a0 : Array Value} {own : String} {h : Heap} {bytes : ByteArray} {maxL : Nat} {ret : Option FieldType} {rm : Room} {as' : Array Value} {Q : Option Value → Heap → List Loc → Prop} {index : Nat} {sig : MethodDescriptor}
/-- invokespecial of a superclass's method -/
theorem uB (X : Stand p l e R s m args below meth c T locs cells slots) (K : KX p c B ml Z s a0 own m) (y : MethodName) (W i1 i2 i3 i5 i6 : Nat) (hM : MF l y [Jvm.Cond.code y bytes maxL ret] rm Z as' h Q) (eT : T.heap = h) {a : Addr} {C : String} (E : Exa Z h a C) (hsame : (Jvm.Cond.sameMethod y.cls y.cls y.name y.desc).before a0 Z = true) (g : JFrame) (argsL rest : List Value) (pd : parseMethodDescriptor y.desc = some sig) (hd : decode B g.pc = .ok (.invokespecial index, 3))
    (h1 : tables_1[i1]? = some (.methodLink own index y) := by rfl) (h2 : tables_1[i2]? = some (.instanceMethod y) := by rfl) (h3 : tables_1[i3]? = some (.superclass own y.cls) := by rfl) (h5 : tables_1[i5]? = some (.code y bytes maxL ret) := by rfl) (h6 : tables_1[i6]? = some (.initialized y.cls) := by rfl) (hi : y.name ≠ "<init>" := by decide)
    (hf : rm.frames + 1 ≤ R.frames := by decide) (hl : W + (maxL + 11) + rm.locals ≤ R.locals := by decide) (hc : cells + rm.cells ≤ R.cells := by decide) (hs : slots + rm.slots ≤ R.slots := by decide)
    (hg : g.method = m := by rfl) (hsz : g.locals.size = ml := by rfl) (hn : argsL.length = sig.parameters.length := by rfl) (hst : g.stack = argsL.reverse ++ .ref a :: rest := by rfl) (hW : 2 * g.monitorRoom + (rest.map fun v => v.category).sum ≤ W := by exact Nat.le_of_ble_eq_true rfl) (ha : (.ref a :: argsL).toArray = as' := by rfl) :
    ∃ v T' L, Stand p l e R s m args below meth c T' (locs ++ L) (cells + rm.cells) (slots + rm.slots) ∧ Q v T'.heap L ∧ Steps p.tables e below (T.setTop g) (T'.setTop { g with pc := g.pc + 3, stack := v.toList ++ rest }) := by
  obtain ⟨hx, hby, hml, hZ, hown, hw⟩ := K
  obtain ⟨v, _, ⟨T', L', k', n'⟩, -, X', ⟨L, hQ, l1, y1, z1⟩, st⟩ := superBack X hx hZ (y := y) hown (wq hw i1 h1) hsame (wq hw i2 h2) (wq hw i3 h3) hi (backOf (W := W) hM hZ (wq hw i5 h5) (wq hw i6 h6) hf hl) eT (Ins.self E) (g := g) hg (hsz.trans hml.symm) (wq hw i5 h5) (argsL := argsL) (rest := rest) (fun sg q => by cases pd.symm.trans q; exact hn) hst hW (hb hby hd) (fun _ _ => ⟨ha, eT, hc, hs⟩)
  dsimp only [Pt.U, Pt.locs, Pt.cells, Pt.slots] at X' hQ l1 y1 z1 st
  subst l1 y1 z1
  exact ⟨v, T', L, X', hQ, st⟩
end
theorem tbR {p : Program} {l : Launch} {e : Env} {R : Room} {s : State} {m : MethodId} {args : Array Value} {below : List Frame} {meth : Method} {c : Code} {T target : State} {locs : List Loc} {cells slots : Nat} {B : ByteArray} {ml : Nat} {Z : State} {a0 : Array Value} {own : String} {h : Heap} {g : JFrame} {j : Int32} {rest : List Value} {w : Addr} {cl : Cell} {n0 : Nat} (X : Stand p l e R s m args below meth c T locs cells slots) (K : KX p c B ml Z s a0 own m) (eT : T.heap = h) (O : Old Z n0 h) (Bt : TbOk Z w cl) (hj : ¬ j < 0 ∧ j < (64 : Int32)) (hd : decode B g.pc = .ok (.caload, 1)) (hr : Steps p.tables e below (T.setTop { g with pc := g.pc + 1, stack := .int (tb64 j) :: rest }) target) (hg : g.method = m := by rfl) (hs : g.stack = .int j :: .ref w :: rest := by rfl) : Steps p.tables e below (T.setTop g) target := by
  obtain ⟨hx, hby, hml, hZ, hown, hw⟩ := K
  have hin := inb_of Bt.2.1 hj
  exact X.caload hx (j := j) (v := (.int (tb64 j))) (by rw [eT]; exact (Bt.1.ext O.2).1) (State.isArrayOf_alike hZ.alike Bt.1.2.1) Bt.1.2.2 hin (Bt.2.2 _ hin) (g := g) hg hs (hb hby hd) _ hr
def encL : List Value → List Value
  | [.int x0] => [.int (nar .byte ((tb64 ((x0 &&& (255 : Int32)) >>> ((2 : Int32) &&& 31))).toInt8.toInt32)), .int (nar .byte ((tb64 (((x0 &&& (255 : Int32)) <<< ((4 : Int32) &&& 31)) &&& (63 : Int32))).toInt8.toInt32)), .int (61 : Int32), .int (61 : Int32)]
  | [.int x0, .int x1] => [.int (nar .byte ((tb64 ((x0 &&& (255 : Int32)) >>> ((2 : Int32) &&& 31))).toInt8.toInt32)), .int (nar .byte ((tb64 ((((x0 &&& (255 : Int32)) <<< ((4 : Int32) &&& 31)) &&& (63 : Int32)) ||| ((x1 &&& (255 : Int32)) >>> ((4 : Int32) &&& 31)))).toInt8.toInt32)), .int (nar .byte ((tb64 (((x1 &&& (255 : Int32)) <<< ((2 : Int32) &&& 31)) &&& (63 : Int32))).toInt8.toInt32)), .int (61 : Int32)]
  | [.int x0, .int x1, .int x2] => [.int (nar .byte ((tb64 (((((((x0 &&& (255 : Int32)) <<< ((16 : Int32) &&& 31)) ||| ((x1 &&& (255 : Int32)) <<< ((8 : Int32) &&& 31))) ||| (x2 &&& (255 : Int32))).toUInt32 >>> ((18 : Int32) &&& 31).toUInt32).toInt32) &&& (63 : Int32))).toInt8.toInt32)), .int (nar .byte ((tb64 (((((((x0 &&& (255 : Int32)) <<< ((16 : Int32) &&& 31)) ||| ((x1 &&& (255 : Int32)) <<< ((8 : Int32) &&& 31))) ||| (x2 &&& (255 : Int32))).toUInt32 >>> ((12 : Int32) &&& 31).toUInt32).toInt32) &&& (63 : Int32))).toInt8.toInt32)), .int (nar .byte ((tb64 (((((((x0 &&& (255 : Int32)) <<< ((16 : Int32) &&& 31)) ||| ((x1 &&& (255 : Int32)) <<< ((8 : Int32) &&& 31))) ||| (x2 &&& (255 : Int32))).toUInt32 >>> ((6 : Int32) &&& 31).toUInt32).toInt32) &&& (63 : Int32))).toInt8.toInt32)), .int (nar .byte ((tb64 (((((x0 &&& (255 : Int32)) <<< ((16 : Int32) &&& 31)) ||| ((x1 &&& (255 : Int32)) <<< ((8 : Int32) &&& 31))) ||| (x2 &&& (255 : Int32))) &&& (63 : Int32))).toInt8.toInt32))]
  | [.int x0, .int x1, .int x2, .int x3] => [.int (nar .byte ((tb64 (((((((x0 &&& (255 : Int32)) <<< ((16 : Int32) &&& 31)) ||| ((x1 &&& (255 : Int32)) <<< ((8 : Int32) &&& 31))) ||| (x2 &&& (255 : Int32))).toUInt32 >>> ((18 : Int32) &&& 31).toUInt32).toInt32) &&& (63 : Int32))).toInt8.toInt32)), .int (nar .byte ((tb64 (((((((x0 &&& (255 : Int32)) <<< ((16 : Int32) &&& 31)) ||| ((x1 &&& (255 : Int32)) <<< ((8 : Int32) &&& 31))) ||| (x2 &&& (255 : Int32))).toUInt32 >>> ((12 : Int32) &&& 31).toUInt32).toInt32) &&& (63 : Int32))).toInt8.toInt32)), .int (nar .byte ((tb64 (((((((x0 &&& (255 : Int32)) <<< ((16 : Int32) &&& 31)) ||| ((x1 &&& (255 : Int32)) <<< ((8 : Int32) &&& 31))) ||| (x2 &&& (255 : Int32))).toUInt32 >>> ((6 : Int32) &&& 31).toUInt32).toInt32) &&& (63 : Int32))).toInt8.toInt32)), .int (nar .byte ((tb64 (((((x0 &&& (255 : Int32)) <<< ((16 : Int32) &&& 31)) ||| ((x1 &&& (255 : Int32)) <<< ((8 : Int32) &&& 31))) ||| (x2 &&& (255 : Int32))) &&& (63 : Int32))).toInt8.toInt32)), .int (nar .byte ((tb64 ((x3 &&& (255 : Int32)) >>> ((2 : Int32) &&& 31))).toInt8.toInt32)), .int (nar .byte ((tb64 (((x3 &&& (255 : Int32)) <<< ((4 : Int32) &&& 31)) &&& (63 : Int32))).toInt8.toInt32)), .int (61 : Int32), .int (61 : Int32)]
  | [.int x0, .int x1, .int x2, .int x3, .int x4] => [.int (nar .byte ((tb64 (((((((x0 &&& (255 : Int32)) <<< ((16 : Int32) &&& 31)) ||| ((x1 &&& (255 : Int32)) <<< ((8 : Int32) &&& 31))) ||| (x2 &&& (255 : Int32))).toUInt32 >>> ((18 : Int32) &&& 31).toUInt32).toInt32) &&& (63 : Int32))).toInt8.toInt32)), .int (nar .byte ((tb64 (((((((x0 &&& (255 : Int32)) <<< ((16 : Int32) &&& 31)) ||| ((x1 &&& (255 : Int32)) <<< ((8 : Int32) &&& 31))) ||| (x2 &&& (255 : Int32))).toUInt32 >>> ((12 : Int32) &&& 31).toUInt32).toInt32) &&& (63 : Int32))).toInt8.toInt32)), .int (nar .byte ((tb64 (((((((x0 &&& (255 : Int32)) <<< ((16 : Int32) &&& 31)) ||| ((x1 &&& (255 : Int32)) <<< ((8 : Int32) &&& 31))) ||| (x2 &&& (255 : Int32))).toUInt32 >>> ((6 : Int32) &&& 31).toUInt32).toInt32) &&& (63 : Int32))).toInt8.toInt32)), .int (nar .byte ((tb64 (((((x0 &&& (255 : Int32)) <<< ((16 : Int32) &&& 31)) ||| ((x1 &&& (255 : Int32)) <<< ((8 : Int32) &&& 31))) ||| (x2 &&& (255 : Int32))) &&& (63 : Int32))).toInt8.toInt32)), .int (nar .byte ((tb64 ((x3 &&& (255 : Int32)) >>> ((2 : Int32) &&& 31))).toInt8.toInt32)), .int (nar .byte ((tb64 ((((x3 &&& (255 : Int32)) <<< ((4 : Int32) &&& 31)) &&& (63 : Int32)) ||| ((x4 &&& (255 : Int32)) >>> ((4 : Int32) &&& 31)))).toInt8.toInt32)), .int (nar .byte ((tb64 (((x4 &&& (255 : Int32)) <<< ((2 : Int32) &&& 31)) &&& (63 : Int32))).toInt8.toInt32)), .int (61 : Int32)]
  | [.int x0, .int x1, .int x2, .int x3, .int x4, .int x5] => [.int (nar .byte ((tb64 (((((((x0 &&& (255 : Int32)) <<< ((16 : Int32) &&& 31)) ||| ((x1 &&& (255 : Int32)) <<< ((8 : Int32) &&& 31))) ||| (x2 &&& (255 : Int32))).toUInt32 >>> ((18 : Int32) &&& 31).toUInt32).toInt32) &&& (63 : Int32))).toInt8.toInt32)), .int (nar .byte ((tb64 (((((((x0 &&& (255 : Int32)) <<< ((16 : Int32) &&& 31)) ||| ((x1 &&& (255 : Int32)) <<< ((8 : Int32) &&& 31))) ||| (x2 &&& (255 : Int32))).toUInt32 >>> ((12 : Int32) &&& 31).toUInt32).toInt32) &&& (63 : Int32))).toInt8.toInt32)), .int (nar .byte ((tb64 (((((((x0 &&& (255 : Int32)) <<< ((16 : Int32) &&& 31)) ||| ((x1 &&& (255 : Int32)) <<< ((8 : Int32) &&& 31))) ||| (x2 &&& (255 : Int32))).toUInt32 >>> ((6 : Int32) &&& 31).toUInt32).toInt32) &&& (63 : Int32))).toInt8.toInt32)), .int (nar .byte ((tb64 (((((x0 &&& (255 : Int32)) <<< ((16 : Int32) &&& 31)) ||| ((x1 &&& (255 : Int32)) <<< ((8 : Int32) &&& 31))) ||| (x2 &&& (255 : Int32))) &&& (63 : Int32))).toInt8.toInt32)), .int (nar .byte ((tb64 (((((((x3 &&& (255 : Int32)) <<< ((16 : Int32) &&& 31)) ||| ((x4 &&& (255 : Int32)) <<< ((8 : Int32) &&& 31))) ||| (x5 &&& (255 : Int32))).toUInt32 >>> ((18 : Int32) &&& 31).toUInt32).toInt32) &&& (63 : Int32))).toInt8.toInt32)), .int (nar .byte ((tb64 (((((((x3 &&& (255 : Int32)) <<< ((16 : Int32) &&& 31)) ||| ((x4 &&& (255 : Int32)) <<< ((8 : Int32) &&& 31))) ||| (x5 &&& (255 : Int32))).toUInt32 >>> ((12 : Int32) &&& 31).toUInt32).toInt32) &&& (63 : Int32))).toInt8.toInt32)), .int (nar .byte ((tb64 (((((((x3 &&& (255 : Int32)) <<< ((16 : Int32) &&& 31)) ||| ((x4 &&& (255 : Int32)) <<< ((8 : Int32) &&& 31))) ||| (x5 &&& (255 : Int32))).toUInt32 >>> ((6 : Int32) &&& 31).toUInt32).toInt32) &&& (63 : Int32))).toInt8.toInt32)), .int (nar .byte ((tb64 (((((x3 &&& (255 : Int32)) <<< ((16 : Int32) &&& 31)) ||| ((x4 &&& (255 : Int32)) <<< ((8 : Int32) &&& 31))) ||| (x5 &&& (255 : Int32))) &&& (63 : Int32))).toInt8.toInt32))]
  | _ => []
def EncIn (n : Int32) (l : List Value) : Prop := (n = 0 ∧ l = []) ∨ (∃ x0 : Int32, n = 1 ∧ l = [.int x0]) ∨ (∃ x0 x1 : Int32, n = 2 ∧ l = [.int x0, .int x1]) ∨ (∃ x0 x1 x2 : Int32, n = 3 ∧ l = [.int x0, .int x1, .int x2]) ∨ (∃ x0 x1 x2 x3 : Int32, n = 4 ∧ l = [.int x0, .int x1, .int x2, .int x3]) ∨ (∃ x0 x1 x2 x3 x4 : Int32, n = 5 ∧ l = [.int x0, .int x1, .int x2, .int x3, .int x4]) ∨ (∃ x0 x1 x2 x3 x4 x5 : Int32, n = 6 ∧ l = [.int x0, .int x1, .int x2, .int x3, .int x4, .int x5])
def gx0 (c b0 b1 b2 : Int32) : Int32 := (nar .char (sxt (((((b0 <<< ((16 : Int32) &&& 31)) ||| (b1 <<< ((8 : Int32) &&& 31))) ||| b2) >>> ((18 : Int32) &&& 31)) &&& (63 : Int32))))
def gx1 (c b0 b1 b2 : Int32) : Int32 := (nar .char (sxt (((((b0 <<< ((16 : Int32) &&& 31)) ||| (b1 <<< ((8 : Int32) &&& 31))) ||| b2) >>> ((12 : Int32) &&& 31)) &&& (63 : Int32))))
def gx2 (c b0 b1 b2 : Int32) : Int32 := if c < (2 : Int32) then (61 : Int32) else (nar .char (sxt (((((b0 <<< ((16 : Int32) &&& 31)) ||| (b1 <<< ((8 : Int32) &&& 31))) ||| b2) >>> ((6 : Int32) &&& 31)) &&& (63 : Int32))))
def gx3 (c b0 b1 b2 : Int32) : Int32 := if c < (3 : Int32) then (61 : Int32) else (nar .char (sxt ((((b0 <<< ((16 : Int32) &&& 31)) ||| (b1 <<< ((8 : Int32) &&& 31))) ||| b2) &&& (63 : Int32))))
abbrev nE (p2 : Int32) : Int32 := (p2 &&& (2147483647 : Int32)) % (7 : Int32)
def plL (n v0 v1 v2 v3 v4 v5 : Int32) : List Value := if n = 0 then [] else if n = 1 then [.int (nar .byte (v0.toInt8.toInt32))] else if n = 2 then [.int (nar .byte (v0.toInt8.toInt32)), .int (nar .byte (v1.toInt8.toInt32))] else if n = 3 then [.int (nar .byte (v0.toInt8.toInt32)), .int (nar .byte (v1.toInt8.toInt32)), .int (nar .byte (v2.toInt8.toInt32))] else if n = 4 then [.int (nar .byte (v0.toInt8.toInt32)), .int (nar .byte (v1.toInt8.toInt32)), .int (nar .byte (v2.toInt8.toInt32)), .int (nar .byte (v3.toInt8.toInt32))] else if n = 5 then [.int (nar .byte (v0.toInt8.toInt32)), .int (nar .byte (v1.toInt8.toInt32)), .int (nar .byte (v2.toInt8.toInt32)), .int (nar .byte (v3.toInt8.toInt32)), .int (nar .byte (v4.toInt8.toInt32))] else [.int (nar .byte (v0.toInt8.toInt32)), .int (nar .byte (v1.toInt8.toInt32)), .int (nar .byte (v2.toInt8.toInt32)), .int (nar .byte (v3.toInt8.toInt32)), .int (nar .byte (v4.toInt8.toInt32)), .int (nar .byte (v5.toInt8.toInt32))]
def eb (j : Nat) (l : List Value) : Int32 := match (encL l)[j]? with
  | some (.int x) => x
  | _ => 0
theorem own_nE (p2 : Int32) : 0 ≤ (nE p2).toInt ∧ (nE p2).toInt < 7 := own_rem rfl (by decide) rfl (by decide)
theorem own_encin {n v0 v1 v2 v3 v4 v5 : Int32} (h : 0 ≤ n.toInt ∧ n.toInt < 7) : EncIn n (plL n v0 v1 v2 v3 v4 v5) := by
  rcases own_n7 h with rfl | rfl | rfl | rfl | rfl | rfl | rfl
  · exact Or.inl ⟨rfl, rfl⟩
  · exact Or.inr (Or.inl ⟨_, rfl, rfl⟩)
  · exact Or.inr (Or.inr (Or.inl ⟨_, _, rfl, rfl⟩))
  · exact Or.inr (Or.inr (Or.inr (Or.inl ⟨_, _, _, rfl, rfl⟩)))
  · exact Or.inr (Or.inr (Or.inr (Or.inr (Or.inl ⟨_, _, _, _, rfl, rfl⟩))))
  · exact Or.inr (Or.inr (Or.inr (Or.inr (Or.inr (Or.inl ⟨_, _, _, _, _, rfl, rfl⟩)))))
  · exact Or.inr (Or.inr (Or.inr (Or.inr (Or.inr (Or.inr ⟨_, _, _, _, _, _, rfl, rfl⟩)))))
theorem own_n0 {n : Int32} (h : 0 ≤ n.toInt ∧ n.toInt < 7) (h1 : n < (1 : Int32)) : n = 0 := by
  have q := own_ltI (n := 1) rfl h1
  rcases own_n7 h with rfl | rfl | rfl | rfl | rfl | rfl | rfl <;> first | rfl | exact absurd q (by decide)
theorem own_n13 {n : Int32} (h : 0 ≤ n.toInt ∧ n.toInt < 7) (h1 : ¬ n < (1 : Int32)) (h4 : n < (4 : Int32)) : n = 1 ∨ n = 2 ∨ n = 3 := by
  rcases own_n7 h with rfl | rfl | rfl | rfl | rfl | rfl | rfl <;> first | exact absurd (by decide) h1 | exact absurd h4 (by decide) | simp
theorem own_n46 {n : Int32} (h : 0 ≤ n.toInt ∧ n.toInt < 7) (h4 : ¬ n < (4 : Int32)) : n = 4 ∨ n = 5 ∨ n = 6 := by
  rcases own_n7 h with rfl | rfl | rfl | rfl | rfl | rfl | rfl <;> first | exact absurd (by decide) h4 | simp
theorem own_eom0 {n : Int32} (h : 0 ≤ n.toInt ∧ n.toInt < 7) (h1 : n < (1 : Int32)) : eoL n = (0 : Int32) := by rw [own_n0 h h1]; decide
theorem own_eom4 {n : Int32} (h : 0 ≤ n.toInt ∧ n.toInt < 7) (h1 : ¬ n < (1 : Int32)) (h4 : n < (4 : Int32)) : eoL n = (4 : Int32) := by rcases own_n13 h h1 h4 with rfl | rfl | rfl <;> decide
theorem own_eom8 {n : Int32} (h : 0 ≤ n.toInt ∧ n.toInt < 7) (h4 : ¬ n < (4 : Int32)) : eoL n = (8 : Int32) := by rcases own_n46 h h4 with rfl | rfl | rfl <;> decide
section
variable {n v0 v1 v2 v3 v4 v5 : Int32}
theorem own_elm0 (h : 0 ≤ n.toInt ∧ n.toInt < 7) (h1 : n < (1 : Int32)) : encL (plL n v0 v1 v2 v3 v4 v5) = [] := by rw [own_n0 h h1]; rfl
theorem own_elm4 (h : 0 ≤ n.toInt ∧ n.toInt < 7) (h1 : ¬ n < (1 : Int32)) (h4 : n < (4 : Int32)) : encL (plL n v0 v1 v2 v3 v4 v5) = [.int (eb 0 (plL n v0 v1 v2 v3 v4 v5)), .int (eb 1 (plL n v0 v1 v2 v3 v4 v5)), .int (eb 2 (plL n v0 v1 v2 v3 v4 v5)), .int (eb 3 (plL n v0 v1 v2 v3 v4 v5))] := by rcases own_n13 h h1 h4 with rfl | rfl | rfl <;> rfl
theorem own_elm8 (h : 0 ≤ n.toInt ∧ n.toInt < 7) (h4 : ¬ n < (4 : Int32)) : encL (plL n v0 v1 v2 v3 v4 v5) = [.int (eb 0 (plL n v0 v1 v2 v3 v4 v5)), .int (eb 1 (plL n v0 v1 v2 v3 v4 v5)), .int (eb 2 (plL n v0 v1 v2 v3 v4 v5)), .int (eb 3 (plL n v0 v1 v2 v3 v4 v5)), .int (eb 4 (plL n v0 v1 v2 v3 v4 v5)), .int (eb 5 (plL n v0 v1 v2 v3 v4 v5)), .int (eb 6 (plL n v0 v1 v2 v3 v4 v5)), .int (eb 7 (plL n v0 v1 v2 v3 v4 v5))] := by rcases own_n46 h h4 with rfl | rfl | rfl <;> rfl
end
theorem own_b255 {v : Int32} (h : 0 ≤ v.toInt ∧ v.toInt ≤ 255) : (nar .byte (v.toInt8.toInt32)) &&& (255 : Int32) = v := by
  apply Int32.toInt_inj.mp
  show ((v.toInt8.toInt32).toInt8.toInt32 &&& (255 : Int32)).toInt = v.toInt
  rw [c_mask _ (255 : Int32) 8 (by decide) rfl]
  have a := c_i2b v
  have b := c_i2b (v.toInt8.toInt32)
  omega
theorem own_or8 {a b : Int32} {A B : Int} (ha : a.toInt = A) (hb : b.toInt = B) (h1 : A % 256 = 0) (h2 : 0 ≤ A) (h3 : A < 16777216) (h4 : 0 ≤ B) (h5 : B < 256) : (a ||| b).toInt = A + B := by
  have q := c_or a b 8 (by decide) 256 rfl (by omega) (by omega) (by omega)
  have r := rng32 (a ||| b)
  omega
theorem own_or16 {a b : Int32} {A B : Int} (ha : a.toInt = A) (hb : b.toInt = B) (h1 : A % 65536 = 0) (h2 : 0 ≤ A) (h3 : A < 16777216) (h4 : 0 ≤ B) (h5 : B < 65536) : (a ||| b).toInt = A + B := by
  have q := c_or a b 16 (by decide) 65536 rfl (by omega) (by omega) (by omega)
  have r := rng32 (a ||| b)
  omega
abbrev b24 (v0 v1 v2 : Int32) : Int32 := ((v0 <<< ((16 : Int32) &&& 31)) ||| (v1 <<< ((8 : Int32) &&& 31))) ||| v2
theorem own_bits {v0 v1 v2 : Int32} (h0 : 0 ≤ v0.toInt ∧ v0.toInt ≤ 255) (h1 : 0 ≤ v1.toInt ∧ v1.toInt ≤ 255) (h2 : 0 ≤ v2.toInt ∧ v2.toInt ≤ 255) : (b24 v0 v1 v2).toInt = v0.toInt * 65536 + v1.toInt * 256 + v2.toInt := by
  have a := c_ishl v0 (16 : Int32) 16 rfl
  have b := c_ishl v1 (8 : Int32) 8 rfl
  have ra := rng32 (v0 <<< ((16 : Int32) &&& 31))
  have rb := rng32 (v1 <<< ((8 : Int32) &&& 31))
  have ea : (v0 <<< ((16 : Int32) &&& 31)).toInt = v0.toInt * 65536 := by omega
  have eb' : (v1 <<< ((8 : Int32) &&& 31)).toInt = v1.toInt * 256 := by omega
  have c := own_or16 ea eb' (by omega) (by omega) (by omega) (by omega) (by omega)
  exact own_or8 c rfl (by omega) (by omega) (by omega) h2.1 (by omega)
theorem own_tbk : ∀ k : Fin 64, nar .byte ((tb64 (Int32.ofNat k.1)).toInt8.toInt32) = (nar .char (sxt (Int32.ofNat k.1))).toInt8.toInt32 := by decide +kernel
theorem own_sxk : ∀ k : Fin 64, ¬ nar .char (sxt (Int32.ofNat k.1)) < 0 ∧ ¬ (255 : Int32) < nar .char (sxt (Int32.ofNat k.1)) := by decide +kernel
theorem own_fin {i : Int32} (h : 0 ≤ i.toInt ∧ i.toInt < 64) : ∃ k : Fin 64, i = Int32.ofNat k.1 := by
  refine ⟨⟨i.toInt.toNat, by omega⟩, Int32.toInt_inj.mp ?_⟩
  show i.toInt = (Int32.ofNat i.toInt.toNat).toInt
  have e : (Int32.ofNat i.toInt.toNat).toInt = (i.toInt.toNat : Int) := by
    have r : i.toInt.toNat < 2 ^ 31 := by omega
    exact len_toInt r
  omega
theorem own_tbx {i j : Int32} (h : 0 ≤ i.toInt ∧ i.toInt < 64) (e : i.toInt = j.toInt) : nar .byte ((tb64 i).toInt8.toInt32) = (nar .char (sxt j)).toInt8.toInt32 := by
  obtain rfl := Int32.toInt_inj.mp e
  obtain ⟨k, rfl⟩ := own_fin h
  exact own_tbk k
theorem own_sxb (x : Int32) : ¬ nar .char (sxt (x &&& (63 : Int32))) < 0 ∧ ¬ (255 : Int32) < nar .char (sxt (x &&& (63 : Int32))) := by
  have q := c_and x (63 : Int32) (by decide)
  have e : (63 : Int32).toInt = 63 := rfl
  obtain ⟨k, hk⟩ := own_fin (i := x &&& (63 : Int32)) (by omega)
  rw [hk]; exact own_sxk k
theorem own_gx0b (c b0 b1 b2 : Int32) : ¬ gx0 c b0 b1 b2 < 0 ∧ ¬ (255 : Int32) < gx0 c b0 b1 b2 := own_sxb _
theorem own_gx1b (c b0 b1 b2 : Int32) : ¬ gx1 c b0 b1 b2 < 0 ∧ ¬ (255 : Int32) < gx1 c b0 b1 b2 := own_sxb _
theorem own_gx2b (c b0 b1 b2 : Int32) : ¬ gx2 c b0 b1 b2 < 0 ∧ ¬ (255 : Int32) < gx2 c b0 b1 b2 := by
  rw [gx2]; split
  · decide
  · exact own_sxb _
theorem own_gx3b (c b0 b1 b2 : Int32) : ¬ gx3 c b0 b1 b2 < 0 ∧ ¬ (255 : Int32) < gx3 c b0 b1 b2 := by
  rw [gx3]; split
  · decide
  · exact own_sxb _
theorem all2n : ∀ c ∈ ([] : List Int32), ¬ c < 0 ∧ ¬ (255 : Int32) < c := fun _ h => nomatch h
theorem all2c {x : Int32} {l : List Int32} (h : ¬ x < 0 ∧ ¬ (255 : Int32) < x) (t : ∀ c ∈ l, ¬ c < 0 ∧ ¬ (255 : Int32) < c) : ∀ c ∈ x :: l, ¬ c < 0 ∧ ¬ (255 : Int32) < c := fun c hc => (List.mem_cons.mp hc).elim (fun e => e ▸ h) (t c)
theorem own_cch (x : Int32) : nar .char ((x &&& (255 : Int32)).toUInt32.toUInt16.toUInt32.toInt32) = x &&& (255 : Int32) := by
  show ((x &&& (255 : Int32)).toUInt32.toUInt16.toUInt32.toInt32).toUInt32.toUInt16.toUInt32.toInt32 = _
  rw [i2c_mask, i2c_mask]
theorem own_cac (x : Int32) : ¬ nar .char ((x &&& (255 : Int32)).toUInt32.toUInt16.toUInt32.toInt32) < 0 ∧ ¬ (255 : Int32) < nar .char ((x &&& (255 : Int32)).toUInt32.toUInt16.toUInt32.toInt32) := by
  rw [own_cch]
  have q := own_m255 x
  have a : (0 : Int32).toInt = 0 := rfl
  have b : (255 : Int32).toInt = 255 := rfl
  rw [Int32.lt_iff_toInt_lt, Int32.lt_iff_toInt_lt, a, b]; omega
theorem own_cab (x : Int32) : nar .byte (((x &&& (255 : Int32)).toUInt32.toUInt16.toUInt32.toInt32).toInt8.toInt32) = (nar .char ((x &&& (255 : Int32)).toUInt32.toUInt16.toUInt32.toInt32)).toInt8.toInt32 := by
  rw [own_cch, i2c_mask]
  show ((x &&& (255 : Int32)).toInt8.toInt32).toInt8.toInt32 = _
  simp
/-- the bytes of the law's payload -/
def VOk (n v0 v1 v2 v3 v4 v5 : Int32) : Prop := (0 ≤ v0.toInt ∧ v0.toInt ≤ 255) ∧ (0 ≤ v1.toInt ∧ v1.toInt ≤ 255) ∧ (0 ≤ v2.toInt ∧ v2.toInt ≤ 255) ∧ (0 ≤ v3.toInt ∧ v3.toInt ≤ 255) ∧ (0 ≤ v4.toInt ∧ v4.toInt ≤ 255) ∧ (0 ≤ v5.toInt ∧ v5.toInt ≤ 255) ∧ (n.toInt ≤ 1 → v1 = 0) ∧ (n.toInt ≤ 2 → v2 = 0) ∧ (n.toInt ≤ 4 → v4 = 0) ∧ (n.toInt ≤ 5 → v5 = 0)
theorem own_bAb (b : Int64) (i n : Int32) : 0 ≤ (bA b i n).toInt ∧ (bA b i n).toInt ≤ 255 := by
  rw [bA]; split
  · rw [show ∀ x : Int64, (x &&& (255 : Int64)).toInt32.toInt = (x &&& (255 : Int64)).toInt from fun x => by
      have q := c_maskL x (255 : Int64) 8 (by decide) rfl
      have r := c_l2i (x &&& (255 : Int64))
      have t := rng32 (x &&& (255 : Int64)).toInt32
      omega]
    rw [c_maskL _ (255 : Int64) 8 (by decide) rfl]; omega
  · decide
theorem own_bA0 {b : Int64} {i n : Int32} (h : n.toInt ≤ i.toInt) : bA b i n = 0 := by rw [bA, if_neg (by rw [Int32.lt_iff_toInt_lt]; omega)]
theorem own_vok (p2 : Int32) (p3 : Int64) : VOk (nE p2) (bA p3 (0 : Int32) (nE p2)) (bA p3 (1 : Int32) (nE p2)) (bA p3 (2 : Int32) (nE p2)) (bA p3 (3 : Int32) (nE p2)) (bA p3 (4 : Int32) (nE p2)) (bA p3 (5 : Int32) (nE p2)) := ⟨own_bAb _ _ _, own_bAb _ _ _, own_bAb _ _ _, own_bAb _ _ _, own_bAb _ _ _, own_bAb _ _ _, fun h => own_bA0 h, fun h => own_bA0 h, fun h => own_bA0 h, fun h => own_bA0 h⟩
section
variable {v0 v1 v2 c : Int32}
/-- whole groups -/
theorem own_g (h0 : 0 ≤ v0.toInt ∧ v0.toInt ≤ 255) (h1 : 0 ≤ v1.toInt ∧ v1.toInt ≤ 255) (h2 : 0 ≤ v2.toInt ∧ v2.toInt ≤ 255) :
    nar .byte ((tb64 ((((b24 ((nar .byte (v0.toInt8.toInt32)) &&& (255 : Int32)) ((nar .byte (v1.toInt8.toInt32)) &&& (255 : Int32)) ((nar .byte (v2.toInt8.toInt32)) &&& (255 : Int32))).toUInt32 >>> ((18 : Int32) &&& 31).toUInt32).toInt32) &&& (63 : Int32))).toInt8.toInt32) = (gx0 c v0 v1 v2).toInt8.toInt32 ∧
    nar .byte ((tb64 ((((b24 ((nar .byte (v0.toInt8.toInt32)) &&& (255 : Int32)) ((nar .byte (v1.toInt8.toInt32)) &&& (255 : Int32)) ((nar .byte (v2.toInt8.toInt32)) &&& (255 : Int32))).toUInt32 >>> ((12 : Int32) &&& 31).toUInt32).toInt32) &&& (63 : Int32))).toInt8.toInt32) = (gx1 c v0 v1 v2).toInt8.toInt32 ∧
    nar .byte ((tb64 ((((b24 ((nar .byte (v0.toInt8.toInt32)) &&& (255 : Int32)) ((nar .byte (v1.toInt8.toInt32)) &&& (255 : Int32)) ((nar .byte (v2.toInt8.toInt32)) &&& (255 : Int32))).toUInt32 >>> ((6 : Int32) &&& 31).toUInt32).toInt32) &&& (63 : Int32))).toInt8.toInt32) = (gx2 (3 : Int32) v0 v1 v2).toInt8.toInt32 ∧
    nar .byte ((tb64 ((b24 ((nar .byte (v0.toInt8.toInt32)) &&& (255 : Int32)) ((nar .byte (v1.toInt8.toInt32)) &&& (255 : Int32)) ((nar .byte (v2.toInt8.toInt32)) &&& (255 : Int32))) &&& (63 : Int32))).toInt8.toInt32) = (gx3 (3 : Int32) v0 v1 v2).toInt8.toInt32 := by
  rw [own_b255 h0, own_b255 h1, own_b255 h2]
  have e : ∀ (x q : Int32) (k : Nat), q.toBitVec.toNat % 32 = k → 0 < k → k ≤ 26 → 0 ≤ x.toInt → ((((x.toUInt32 >>> (q &&& 31).toUInt32).toInt32) &&& (63 : Int32)).toInt = ((x >>> (q &&& 31)) &&& (63 : Int32)).toInt) := fun x q k hk h1 h2 h3 => by
    rw [c_mask _ (63 : Int32) 6 (by decide) rfl, c_mask _ (63 : Int32) 6 (by decide) rfl, c_iushr x q k hk h1, c_ishr x q k hk]
    have r := rng32 x
    rw [Int.emod_eq_of_lt h3 (by omega)]
  have hb := own_bits h0 h1 h2
  have r : ∀ x : Int32, 0 ≤ (x &&& (63 : Int32)).toInt ∧ (x &&& (63 : Int32)).toInt < 64 := fun x => by
    have q := c_and x (63 : Int32) (by decide)
    have e : (63 : Int32).toInt = 63 := rfl
    omega
  refine ⟨own_tbx (r _) (e _ _ 18 rfl (by decide) (by decide) (by omega)), own_tbx (r _) (e _ _ 12 rfl (by decide) (by decide) (by omega)), ?_, ?_⟩
  · rw [gx2, if_neg (by decide)]; exact own_tbx (r _) (e _ _ 6 rfl (by decide) (by decide) (by omega))
  · rw [gx3, if_neg (by decide)]; exact own_tbx (r _) rfl
/-- the tail of one byte -/
theorem own_t1 (h0 : 0 ≤ v0.toInt ∧ v0.toInt ≤ 255) :
    nar .byte ((tb64 (((nar .byte (v0.toInt8.toInt32)) &&& (255 : Int32)) >>> ((2 : Int32) &&& 31))).toInt8.toInt32) = (gx0 c v0 (0 : Int32) (0 : Int32)).toInt8.toInt32 ∧
    nar .byte ((tb64 ((((nar .byte (v0.toInt8.toInt32)) &&& (255 : Int32)) <<< ((4 : Int32) &&& 31)) &&& (63 : Int32))).toInt8.toInt32) = (gx1 c v0 (0 : Int32) (0 : Int32)).toInt8.toInt32 := by
  rw [own_b255 h0]
  have hb := own_bits h0 (v1 := (0 : Int32)) (v2 := (0 : Int32)) (by decide) (by decide)
  have z : (0 : Int32).toInt = 0 := rfl
  have s1 := c_ishr v0 (2 : Int32) 2 rfl
  have s2 := c_ishl v0 (4 : Int32) 4 rfl
  have s3 := c_mask (v0 <<< ((4 : Int32) &&& 31)) (63 : Int32) 6 (by decide) rfl
  refine ⟨own_tbx (by omega) ?_, own_tbx (by omega) ?_⟩
  · rw [c_mask _ (63 : Int32) 6 (by decide) rfl, c_ishr _ (18 : Int32) 18 rfl, hb]; omega
  · rw [c_mask ((_ : Int32) >>> ((12 : Int32) &&& 31)) (63 : Int32) 6 (by decide) rfl, c_ishr _ (12 : Int32) 12 rfl, hb]; omega
/-- the tail of two bytes -/
theorem own_t2 (h0 : 0 ≤ v0.toInt ∧ v0.toInt ≤ 255) (h1 : 0 ≤ v1.toInt ∧ v1.toInt ≤ 255) :
    nar .byte ((tb64 (((nar .byte (v0.toInt8.toInt32)) &&& (255 : Int32)) >>> ((2 : Int32) &&& 31))).toInt8.toInt32) = (gx0 c v0 v1 (0 : Int32)).toInt8.toInt32 ∧
    nar .byte ((tb64 (((((nar .byte (v0.toInt8.toInt32)) &&& (255 : Int32)) <<< ((4 : Int32) &&& 31)) &&& (63 : Int32)) ||| (((nar .byte (v1.toInt8.toInt32)) &&& (255 : Int32)) >>> ((4 : Int32) &&& 31)))).toInt8.toInt32) = (gx1 c v0 v1 (0 : Int32)).toInt8.toInt32 ∧
    nar .byte ((tb64 ((((nar .byte (v1.toInt8.toInt32)) &&& (255 : Int32)) <<< ((2 : Int32) &&& 31)) &&& (63 : Int32))).toInt8.toInt32) = (gx2 (2 : Int32) v0 v1 (0 : Int32)).toInt8.toInt32 := by
  rw [own_b255 h0, own_b255 h1]
  have hb := own_bits h0 h1 (v2 := (0 : Int32)) (by decide)
  have z : (0 : Int32).toInt = 0 := rfl
  have s1 := c_ishr v0 (2 : Int32) 2 rfl
  have s2 := c_ishl v0 (4 : Int32) 4 rfl
  have s3 := c_mask (v0 <<< ((4 : Int32) &&& 31)) (63 : Int32) 6 (by decide) rfl
  have s4 := c_ishr v1 (4 : Int32) 4 rfl
  have s5 := own_or4 s3 s4 (by omega) (by omega) (by omega) (by omega) (by omega)
  have s6 := c_ishl v1 (2 : Int32) 2 rfl
  have s7 := c_mask (v1 <<< ((2 : Int32) &&& 31)) (63 : Int32) 6 (by decide) rfl
  refine ⟨own_tbx (by omega) ?_, own_tbx (by omega) ?_, ?_⟩
  · rw [c_mask _ (63 : Int32) 6 (by decide) rfl, c_ishr _ (18 : Int32) 18 rfl, hb]; omega
  · rw [s5, c_mask _ (63 : Int32) 6 (by decide) rfl, c_ishr _ (12 : Int32) 12 rfl, hb]; omega
  · rw [gx2, if_neg (by decide)]
    refine own_tbx (by omega) ?_
    rw [s7, c_mask _ (63 : Int32) 6 (by decide) rfl, c_ishr _ (6 : Int32) 6 rfl, hb]; omega
end
section
variable {n v0 v1 v2 v3 v4 v5 : Int32}
theorem own_q4_0 (h : 0 ≤ n.toInt ∧ n.toInt < 7) (h1 : ¬ n < (1 : Int32)) (h4 : n < (4 : Int32)) (hv : VOk n v0 v1 v2 v3 v4 v5) : eb 0 (plL n v0 v1 v2 v3 v4 v5) = (gx0 n v0 v1 v2).toInt8.toInt32 := by
  obtain ⟨a, b, d, -, -, -, z1, z2, -, -⟩ := hv
  rcases own_n13 h h1 h4 with rfl | rfl | rfl
  · obtain rfl := z1 (by decide); obtain rfl := z2 (by decide); exact (own_t1 a).1
  · obtain rfl := z2 (by decide); exact (own_t2 a b).1
  · exact (own_g a b d).1
theorem own_q4_1 (h : 0 ≤ n.toInt ∧ n.toInt < 7) (h1 : ¬ n < (1 : Int32)) (h4 : n < (4 : Int32)) (hv : VOk n v0 v1 v2 v3 v4 v5) : eb 1 (plL n v0 v1 v2 v3 v4 v5) = (gx1 n v0 v1 v2).toInt8.toInt32 := by
  obtain ⟨a, b, d, -, -, -, z1, z2, -, -⟩ := hv
  rcases own_n13 h h1 h4 with rfl | rfl | rfl
  · obtain rfl := z1 (by decide); obtain rfl := z2 (by decide); exact (own_t1 a).2
  · obtain rfl := z2 (by decide); exact (own_t2 a b).2.1
  · exact (own_g a b d).2.1
theorem own_q4_2 (h : 0 ≤ n.toInt ∧ n.toInt < 7) (h1 : ¬ n < (1 : Int32)) (h4 : n < (4 : Int32)) (hv : VOk n v0 v1 v2 v3 v4 v5) : eb 2 (plL n v0 v1 v2 v3 v4 v5) = (gx2 n v0 v1 v2).toInt8.toInt32 := by
  obtain ⟨a, b, d, -, -, -, z1, z2, -, -⟩ := hv
  rcases own_n13 h h1 h4 with rfl | rfl | rfl
  · obtain rfl := z1 (by decide); obtain rfl := z2 (by decide); exact rfl
  · obtain rfl := z2 (by decide); exact (own_t2 (c := (0 : Int32)) a b).2.2
  · exact (own_g (c := (0 : Int32)) a b d).2.2.1
theorem own_q4_3 (h : 0 ≤ n.toInt ∧ n.toInt < 7) (h1 : ¬ n < (1 : Int32)) (h4 : n < (4 : Int32)) (hv : VOk n v0 v1 v2 v3 v4 v5) : eb 3 (plL n v0 v1 v2 v3 v4 v5) = (gx3 n v0 v1 v2).toInt8.toInt32 := by
  obtain ⟨a, b, d, -, -, -, z1, z2, -, -⟩ := hv
  rcases own_n13 h h1 h4 with rfl | rfl | rfl
  · obtain rfl := z1 (by decide); obtain rfl := z2 (by decide); exact rfl
  · obtain rfl := z2 (by decide); exact rfl
  · exact (own_g (c := (0 : Int32)) a b d).2.2.2
theorem own_q8_0 (h : 0 ≤ n.toInt ∧ n.toInt < 7) (h4 : ¬ n < (4 : Int32)) (hv : VOk n v0 v1 v2 v3 v4 v5) : eb 0 (plL n v0 v1 v2 v3 v4 v5) = (gx0 (3 : Int32) v0 v1 v2).toInt8.toInt32 := by
  obtain ⟨a, b, d, a', b', d', -, -, z1, z2⟩ := hv
  rcases own_n46 h h4 with rfl | rfl | rfl
  · exact (own_g a b d).1
  · exact (own_g a b d).1
  · exact (own_g a b d).1
theorem own_q8_1 (h : 0 ≤ n.toInt ∧ n.toInt < 7) (h4 : ¬ n < (4 : Int32)) (hv : VOk n v0 v1 v2 v3 v4 v5) : eb 1 (plL n v0 v1 v2 v3 v4 v5) = (gx1 (3 : Int32) v0 v1 v2).toInt8.toInt32 := by
  obtain ⟨a, b, d, a', b', d', -, -, z1, z2⟩ := hv
  rcases own_n46 h h4 with rfl | rfl | rfl
  · exact (own_g a b d).2.1
  · exact (own_g a b d).2.1
  · exact (own_g a b d).2.1
theorem own_q8_2 (h : 0 ≤ n.toInt ∧ n.toInt < 7) (h4 : ¬ n < (4 : Int32)) (hv : VOk n v0 v1 v2 v3 v4 v5) : eb 2 (plL n v0 v1 v2 v3 v4 v5) = (gx2 (3 : Int32) v0 v1 v2).toInt8.toInt32 := by
  obtain ⟨a, b, d, a', b', d', -, -, z1, z2⟩ := hv
  rcases own_n46 h h4 with rfl | rfl | rfl
  · exact (own_g (c := (0 : Int32)) a b d).2.2.1
  · exact (own_g (c := (0 : Int32)) a b d).2.2.1
  · exact (own_g (c := (0 : Int32)) a b d).2.2.1
theorem own_q8_3 (h : 0 ≤ n.toInt ∧ n.toInt < 7) (h4 : ¬ n < (4 : Int32)) (hv : VOk n v0 v1 v2 v3 v4 v5) : eb 3 (plL n v0 v1 v2 v3 v4 v5) = (gx3 (3 : Int32) v0 v1 v2).toInt8.toInt32 := by
  obtain ⟨a, b, d, a', b', d', -, -, z1, z2⟩ := hv
  rcases own_n46 h h4 with rfl | rfl | rfl
  · exact (own_g (c := (0 : Int32)) a b d).2.2.2
  · exact (own_g (c := (0 : Int32)) a b d).2.2.2
  · exact (own_g (c := (0 : Int32)) a b d).2.2.2
theorem own_q8_4 (h : 0 ≤ n.toInt ∧ n.toInt < 7) (h4 : ¬ n < (4 : Int32)) (hv : VOk n v0 v1 v2 v3 v4 v5) : eb 4 (plL n v0 v1 v2 v3 v4 v5) = (gx0 (n - (3 : Int32)) v3 v4 v5).toInt8.toInt32 := by
  obtain ⟨a, b, d, a', b', d', -, -, z1, z2⟩ := hv
  rcases own_n46 h h4 with rfl | rfl | rfl
  · obtain rfl := z1 (by decide); obtain rfl := z2 (by decide); exact (own_t1 a').1
  · obtain rfl := z2 (by decide); exact (own_t2 a' b').1
  · exact (own_g a' b' d').1
theorem own_q8_5 (h : 0 ≤ n.toInt ∧ n.toInt < 7) (h4 : ¬ n < (4 : Int32)) (hv : VOk n v0 v1 v2 v3 v4 v5) : eb 5 (plL n v0 v1 v2 v3 v4 v5) = (gx1 (n - (3 : Int32)) v3 v4 v5).toInt8.toInt32 := by
  obtain ⟨a, b, d, a', b', d', -, -, z1, z2⟩ := hv
  rcases own_n46 h h4 with rfl | rfl | rfl
  · obtain rfl := z1 (by decide); obtain rfl := z2 (by decide); exact (own_t1 a').2
  · obtain rfl := z2 (by decide); exact (own_t2 a' b').2.1
  · exact (own_g a' b' d').2.1
theorem own_q8_6 (h : 0 ≤ n.toInt ∧ n.toInt < 7) (h4 : ¬ n < (4 : Int32)) (hv : VOk n v0 v1 v2 v3 v4 v5) : eb 6 (plL n v0 v1 v2 v3 v4 v5) = (gx2 (n - (3 : Int32)) v3 v4 v5).toInt8.toInt32 := by
  obtain ⟨a, b, d, a', b', d', -, -, z1, z2⟩ := hv
  rcases own_n46 h h4 with rfl | rfl | rfl
  · obtain rfl := z1 (by decide); obtain rfl := z2 (by decide); exact rfl
  · obtain rfl := z2 (by decide); exact (own_t2 (c := (0 : Int32)) a' b').2.2
  · exact (own_g (c := (0 : Int32)) a' b' d').2.2.1
theorem own_q8_7 (h : 0 ≤ n.toInt ∧ n.toInt < 7) (h4 : ¬ n < (4 : Int32)) (hv : VOk n v0 v1 v2 v3 v4 v5) : eb 7 (plL n v0 v1 v2 v3 v4 v5) = (gx3 (n - (3 : Int32)) v3 v4 v5).toInt8.toInt32 := by
  obtain ⟨a, b, d, a', b', d', -, -, z1, z2⟩ := hv
  rcases own_n46 h h4 with rfl | rfl | rfl
  · obtain rfl := z1 (by decide); obtain rfl := z2 (by decide); exact rfl
  · obtain rfl := z2 (by decide); exact rfl
  · exact (own_g (c := (0 : Int32)) a' b' d').2.2.2
end
theorem own_hws {Z : State} {a0 : Array Value} (hw : ∀ d ∈ tables_1, d.before a0 Z = true) : ∀ d ∈ StrChars.Road.words, d.before a0 Z = true := fun d hd => hw d ((by decide +kernel : ∀ d ∈ StrChars.Road.words, d ∈ tables_1) d hd)
theorem own_qv {Z : State} {x : Addr} {N : Int32} {bs : List Int32} {h h' : Heap} {n0 : Nat} {v : Option Value} {L : List Loc} (q : StrChars.Road.QV Z x N bs h n0 v h' L) : ∃ (t : Addr) (kb : ClassId), v = none ∧ Fr n0 L ∧ Keep h h' [x] ∧ h.size ≤ t ∧ Exa Z h' x "java/lang/String" ∧ Fld Z h' x "java/lang/String" "coder" "B" (.int (0 : Int32)) ∧ Fld Z h' x "java/lang/String" "value" "[B" (.ref t) ∧ Arv Z h' t kb .byte N (bs.map Value.int) (.int (0 : Int32)) := by
  obtain ⟨q1, q2, q3, q4, q5, t, kb, q6, q7, q8, q9, q10⟩ := q
  exact ⟨t, kb, q1, q2, q3, q7, q4, q5, q9, q10⟩
theorem nB {p : Program} {l : Launch} {e : Env} {R : Room} {s : State} {m : MethodId} {args : Array Value} {below : List Frame} {meth : Method} {c : Code} {T : State} {locs : List Loc} {cells slots : Nat} {B : ByteArray} {ml : Nat} {Z : State} {a0 : Array Value} {own : String} {h : Heap} {bytes : ByteArray} {maxL : Nat} {n n0 : Nat} {N : Int32} {bs : List Int32} {index : Nat} {sig : MethodDescriptor} {x b : Addr} (X : Stand p l e R s m args below meth c T locs cells slots) (K : KX p c B ml Z s a0 own m) (W i1 i2 i3 : Nat)
    (hK : Back l R p e below s args (⟨"java/lang/String", "<init>", "([C)V"⟩ : MethodName) 3 W (fun P a => a = #[.ref x, .ref b] ∧ P.U.heap = h ∧ P.cells + 1 ≤ R.cells ∧ P.slots + n ≤ R.slots) (fun P _ v B => ∃ L, StrChars.Road.QV Z x N bs h n0 v B.U.heap L ∧ B.locs = P.locs ++ L ∧ B.cells = P.cells + 1 ∧ B.slots = P.slots + n))
    (eT : T.heap = h) (g : JFrame) (argsL rest : List Value) (pd : parseMethodDescriptor "([C)V" = some sig) (hd : decode B g.pc = .ok (.invokespecial index, 3))
    (h1 : tables_1[i1]? = some (.methodLink own index (⟨"java/lang/String", "<init>", "([C)V"⟩ : MethodName)) := by rfl) (h2 : tables_1[i2]? = some (.instanceMethod (⟨"java/lang/String", "<init>", "([C)V"⟩ : MethodName)) := by rfl) (h3 : tables_1[i3]? = some (.code (⟨"java/lang/String", "<init>", "([C)V"⟩ : MethodName) bytes maxL none) := by rfl) (hc : cells + 1 ≤ R.cells := by decide) (hs : slots + n ≤ R.slots := by decide)
    (hg : g.method = m := by rfl) (hsz : g.locals.size = ml := by rfl) (hn : argsL.length = sig.parameters.length := by rfl) (hst : g.stack = argsL.reverse ++ .ref x :: rest := by rfl) (hW : 2 * g.monitorRoom + (rest.map fun v => v.category).sum ≤ W := by exact Nat.le_of_ble_eq_true rfl) (ha : (.ref x :: argsL).toArray = #[.ref x, .ref b] := by rfl) :
    ∃ v T' L, Stand p l e R s m args below meth c T' (locs ++ L) (cells + 1) (slots + n) ∧ StrChars.Road.QV Z x N bs h n0 v T'.heap L ∧ Steps p.tables e below (T.setTop g) (T'.setTop { g with pc := g.pc + 3, stack := v.toList ++ rest }) := by
  obtain ⟨hx, hby, hml, hZ, hown, hw⟩ := K
  obtain ⟨v, _, ⟨T', L', k', n'⟩, -, X', ⟨L, hQ, l1, y1, z1⟩, st⟩ := X.specialBack hx (y := (⟨"java/lang/String", "<init>", "([C)V"⟩ : MethodName)) rfl hown (mvT hZ (wq hw i1 h1)) (mvT hZ (wq hw i2 h2)) (mvT hZ (wq hw i3 h3)) (by decide) hK (g := g) hg (hsz.trans hml.symm) (Steps.refl _) (a := x) (argsL := argsL) (rest := rest) (fun sg q => by cases pd.symm.trans q; exact hn) hst hW (hb hby hd) (fun _ _ => ⟨ha, eT, hc, hs⟩)
  dsimp only [Pt.U, Pt.locs, Pt.cells, Pt.slots] at X' hQ l1 y1 z1 st
  subst l1 y1 z1
  exact ⟨v, T', L, X', hQ, st⟩
theorem own_wS {Z : State} {a0 : Array Value} (hw : ∀ d ∈ tables_1, d.before a0 Z = true) : ∀ a ∈ Bundle.stringAtoms, a.before a0 Z = true := by
  intro d hd
  simp only [Bundle.stringAtoms, List.mem_cons, List.not_mem_nil, or_false] at hd
  rcases hd with rfl | rfl | rfl | rfl | rfl | rfl | rfl
  · exact (wq hw 12 rfl)
  · exact (wq hw 20 rfl)
  · exact (wq hw 6 rfl)
  · exact (wq hw 32 rfl)
  · exact (wq hw 34 rfl)
  · exact (wq hw 74 rfl)
  · exact (wq hw 75 rfl)
def own_EL : List (String × Nat) := [("com/example/cloakfield/cloakfield/format/TaggedValue", 23), ("com/example/cloakfield/cloakfield/format/TaggedValue", 29), ("com/example/cloakfield/cloakfield/format/TaggedValue", 31), ("com/example/cloakfield/cloakfield/format/TaggedValue", 45), ("java/lang/String", 7)]
theorem own_EW {Z : State} {a0 : Array Value} (hw : ∀ d ∈ tables_1, d.before a0 Z = true) : EW Z a0 own_EL := (EW.cons (wq hw 73 rfl) (by decide) (EW.cons (wq hw 123 rfl) (by decide) (EW.cons (wq hw 124 rfl) (by decide) (EW.cons (wq hw 190 rfl) (by decide) (EW.cons (wq hw 287 rfl) (by decide) EW.nil)))))
theorem own_sub : ∀ p ∈ own_EL, p ∈ consts_1 := by decide
theorem own_backC {p : Program} {l : Launch} {e : Env} {R : Room} {s : State} {args : Array Value} {below : List Frame} {Z : State} {a0 : Array Value} {h : Heap} {vm0 : Vm} {EL : List (String × Nat)} {y : MethodName} {bytes : ByteArray} {maxL : Nat} {ret : Option FieldType} {rm : Room} {len W : Nat} {as' : Array Value} {Q : Option Value → Heap → List Loc → Prop} {SL : List Addr}
    (hM : MetFree l y (head1 [Jvm.Cond.code y bytes maxL ret] rm) (fun a U => a = as' ∧ Z.Warmed39 U.vm ∧ U.heap = h ∧ CHv Z EL U.vm h ∧ ∀ x ∈ SL, Safe Z EL U.vm h x) (fun _ _ _ _ _ => True) (fun _ U o U' => ∃ v L, o = .returned v ∧ Q v U'.heap L ∧ CHr Z EL U.vm U.heap U'.vm U'.heap ∧ ReturnedEndW U o U' L rm.cells rm.slots))
    (hZ : Z.Warmed39 (s.setVm vm0).vm) (wc : (Jvm.Cond.code y bytes maxL ret).before a0 Z = true) (wz : (Jvm.Cond.initialized y.cls).before a0 Z = true) (hf : rm.frames + 1 ≤ R.frames) (hl : W + (maxL + 11) + rm.locals ≤ R.locals) (hEL : EW Z a0 EL) (H : CHv Z EL vm0 h) (hs : ∀ x ∈ SL, x < h.size ∧ Safe Z EL vm0 h x) :
    BackS l R p e below (s.setVm vm0) args y len W (fun A a => a = as' ∧ A.U.heap = h ∧ A.cells + rm.cells ≤ R.cells ∧ A.slots + rm.slots ≤ R.slots)
      (fun A _ v B => ∃ L, Q v B.U.heap L ∧ B.locs = A.locs ++ L ∧ B.cells = A.cells + rm.cells ∧ B.slots = A.slots + rm.slots ∧ CHr Z EL vm0 h B.U.vm B.U.heap) :=
  BackS.of_freeW (bytes := bytes) (maxL := maxL) (ret := ret) (E := fun _ first o t L k n => k = rm.cells ∧ n = rm.slots ∧ (∃ v, o = .returned v ∧ Q v t.heap L) ∧ CHr Z EL first.vm first.heap t.vm t.heap) hM hf hl
    (fun m meth c A a Y hp => have hU : Z.Warmed39 A.U.vm := wtrans (s := s.setVm vm0) hZ Y.warmed
      ⟨by show (Jvm.Cond.and _ .tt).before a A.U = true; rw [Cond.before_and, mv hU wc]; rfl, mv hU wc, mv hU wz, hp.2.2.1, hp.2.2.2⟩)
    (fun m meth c A a g mk Y hp => ⟨hp.1, wtrans (s := s.setVm vm0) hZ Y.warmed, hp.2.1, (CHv.at Y hZ hEL H).1, fun x hx => (CHv.at Y hZ hEL H).safe (hs x hx).1 (hs x hx).2⟩) (fun _ _ _ _ _ _ _ _ _ => trivial)
    (fun _ _ _ _ ⟨v, L, h1, h2, h3, h4⟩ => ⟨L, _, _, h4, rfl, rfl, ⟨v, h1, h2⟩, h3⟩)
    (fun m meth c A a g mk v t L k n Y hp _ _ ⟨e1, e2, ⟨v', e3, e4⟩, e5⟩ => by
      cases e3; subst e1 e2
      refine ⟨L, e4, rfl, rfl, rfl, (CHv.at Y hZ hEL H).trans ?_⟩
      rw [← hp.2.1]; exact e5)
def Perm (Z : State) (w_enc : Addr) (w_tb : Addr) (cs_v : Int32) (cl_tb : Cell) (wv_fm : Value) : Prop := Sta Z Z.heap "java/lang/String" "COMPACT_STRINGS" "Z" (.int cs_v) ∧ ¬ (cs_v = (0 : Int32)) ∧ Sta Z Z.heap "java/util/Base64$Encoder" "RFC4648" "Ljava/util/Base64$Encoder;" (.ref w_enc) ∧ Exa Z Z.heap w_enc "java/util/Base64$Encoder" ∧ Fld Z Z.heap w_enc "java/util/Base64$Encoder" "isURL" "Z" (.int 0) ∧ Fld Z Z.heap w_enc "java/util/Base64$Encoder" "linemax" "I" (.int (-1)) ∧ Fld Z Z.heap w_enc "java/util/Base64$Encoder" "doPadding" "Z" (.int 1) ∧ Sta Z Z.heap "java/util/Base64$Encoder" "toBase64" "[C" (.ref w_tb) ∧ TbOk Z w_tb cl_tb ∧ Sta Z Z.heap "jdk/internal/util/Preconditions" "SIOOBE_FORMATTER" "Ljava/util/function/BiFunction;" wv_fm ∧ wv_fm.isRef = true
abbrev cb46 : ByteArray := method_3_code
theorem d46_0 : dk cb46 0 (.iload_n 0) 1 := by decide +kernel
theorem d46_1 : dk cb46 1 (.bipush 26) 2 := by decide +kernel
theorem d46_3 : dk cb46 3 (.if_icmp .ge 9) 3 := by decide +kernel
theorem d46_6 : dk cb46 6 (.bipush 65) 2 := by decide +kernel
theorem d46_8 : dk cb46 8 (.iload_n 0) 1 := by decide +kernel
theorem d46_9 : dk cb46 9 .iadd 1 := by decide +kernel
theorem d46_10 : dk cb46 10 .i2c 1 := by decide +kernel
theorem d46_11 : dk cb46 11 .ireturn 1 := by decide +kernel
abbrev y0 : MethodName := (⟨"com/example/cloakfield/cloakfield/format/TaggedValueToTextPinLaw", "sextet", "(I)C"⟩ : MethodName)
theorem ef_46_0 (m : MethodId) (x0 : Int32) : entryFrame m #[(.int x0)] 1 = mkF m 0 #[.val (.int x0)] [] := by first | (simp [entryFrame, mkF, argsToLocals, Value.category]; done) | rfl
theorem pn_46 : plainName "com/example/cloakfield/cloakfield/format/TaggedValueToTextPinLaw" = true := by first | (simp [plainName, overriddenIn]; done) | decide +kernel
theorem rm1 (l : Launch) (Z : State) (a0 : Array Value) (hw : HW Z a0) (ws : List Jvm.Cond) (w_enc w_tb : Addr) (cs_v : Int32) (cl_tb : Cell) (wv_fm : Value) (hp : Perm Z w_enc w_tb cs_v cl_tb wv_fm) (p0 : Int32) (h0 : Heap) (n0 : Nat) (O0 : Old Z n0 h0) (hc1 : p0 < (26 : Int32)) :
    MF l y0 (Jvm.Cond.code y0 method_3_code 1 (some .char) :: ws) ({ frames := 0, cells := 0, slots := 0, locals := 0 } : Room) Z #[(.int p0)] h0 (fun v h L => v = some (.int (nar .char (((65 : Int32) + p0).toUInt32.toUInt16.toUInt32.toInt32))) ∧ Fr n0 L ∧ h = h0) := by
  refine mfB (plainFor_of_name pn_46) hw fun p e s m below meth c s₁ Bd Kz X0 e0 => ?_
  obtain ⟨hx, hby, hml, hZ, hown, -⟩ := id Kz
  have qz := And.intro hx hby
  have N0 := Fr.nil n0
  refine mfE Bd X0 (some (.int (nar .char (((65 : Int32) + p0).toUInt32.toUInt16.toUInt32.toInt32)))) e0 (fun h => by rw [Bd.returns] at h; cases h) (ef_46_0 m p0) ⟨rfl, N0, rfl⟩ fun fs hr => ?_
  refine iln X0 qz d46_0 ?_
  refine bp X0 qz d46_1 ?_
  refine icN X0 qz d46_3 (tlt hc1).2.1 ?_
  refine bp X0 qz d46_6 ?_
  refine iln X0 qz d46_8 ?_
  refine wia X0 qz d46_9 ?_
  refine XS.i2c X0.here hx rfl (hb hby d46_10) rfl ?_
  exact retN X0 hx (t := .char) Bd.returns (by simp) (hb hby d46_11) hr
theorem d46_12 : dk cb46 12 (.iload_n 0) 1 := by decide +kernel
theorem d46_13 : dk cb46 13 (.bipush 52) 2 := by decide +kernel
theorem d46_15 : dk cb46 15 (.if_icmp .ge 12) 3 := by decide +kernel
theorem d46_18 : dk cb46 18 (.bipush 97) 2 := by decide +kernel
theorem d46_20 : dk cb46 20 (.iload_n 0) 1 := by decide +kernel
theorem d46_21 : dk cb46 21 (.bipush 26) 2 := by decide +kernel
theorem d46_23 : dk cb46 23 .isub 1 := by decide +kernel
theorem d46_24 : dk cb46 24 .iadd 1 := by decide +kernel
theorem d46_25 : dk cb46 25 .i2c 1 := by decide +kernel
theorem d46_26 : dk cb46 26 .ireturn 1 := by decide +kernel
theorem rm2 (l : Launch) (Z : State) (a0 : Array Value) (hw : HW Z a0) (ws : List Jvm.Cond) (w_enc w_tb : Addr) (cs_v : Int32) (cl_tb : Cell) (wv_fm : Value) (hp : Perm Z w_enc w_tb cs_v cl_tb wv_fm) (p0 : Int32) (h0 : Heap) (n0 : Nat) (O0 : Old Z n0 h0) (hc1 : ¬ (p0 < (26 : Int32))) (hc2 : p0 < (52 : Int32)) :
    MF l y0 (Jvm.Cond.code y0 method_3_code 1 (some .char) :: ws) ({ frames := 0, cells := 0, slots := 0, locals := 0 } : Room) Z #[(.int p0)] h0 (fun v h L => v = some (.int (nar .char (((97 : Int32) + (p0 - (26 : Int32))).toUInt32.toUInt16.toUInt32.toInt32))) ∧ Fr n0 L ∧ h = h0) := by
  refine mfB (plainFor_of_name pn_46) hw fun p e s m below meth c s₁ Bd Kz X0 e0 => ?_
  obtain ⟨hx, hby, hml, hZ, hown, -⟩ := id Kz
  have qz := And.intro hx hby
  have N0 := Fr.nil n0
  refine mfE Bd X0 (some (.int (nar .char (((97 : Int32) + (p0 - (26 : Int32))).toUInt32.toUInt16.toUInt32.toInt32)))) e0 (fun h => by rw [Bd.returns] at h; cases h) (ef_46_0 m p0) ⟨rfl, N0, rfl⟩ fun fs hr => ?_
  refine iln X0 qz d46_0 ?_
  refine bp X0 qz d46_1 ?_
  refine icY X0 qz 3 12 d46_3 (flt hc1).2.1 ?_
  refine iln X0 qz d46_12 ?_
  refine bp X0 qz d46_13 ?_
  refine icN X0 qz d46_15 (tlt hc2).2.1 ?_
  refine bp X0 qz d46_18 ?_
  refine iln X0 qz d46_20 ?_
  refine bp X0 qz d46_21 ?_
  refine wib X0 qz d46_23 ?_
  refine wia X0 qz d46_24 ?_
  refine XS.i2c X0.here hx rfl (hb hby d46_25) rfl ?_
  exact retN X0 hx (t := .char) Bd.returns (by simp) (hb hby d46_26) hr
theorem d46_27 : dk cb46 27 (.iload_n 0) 1 := by decide +kernel
theorem d46_28 : dk cb46 28 (.bipush 62) 2 := by decide +kernel
theorem d46_30 : dk cb46 30 (.if_icmp .ge 12) 3 := by decide +kernel
theorem d46_33 : dk cb46 33 (.bipush 48) 2 := by decide +kernel
theorem d46_35 : dk cb46 35 (.iload_n 0) 1 := by decide +kernel
theorem d46_36 : dk cb46 36 (.bipush 52) 2 := by decide +kernel
theorem d46_38 : dk cb46 38 .isub 1 := by decide +kernel
theorem d46_39 : dk cb46 39 .iadd 1 := by decide +kernel
theorem d46_40 : dk cb46 40 .i2c 1 := by decide +kernel
theorem d46_41 : dk cb46 41 .ireturn 1 := by decide +kernel
theorem rm3 (l : Launch) (Z : State) (a0 : Array Value) (hw : HW Z a0) (ws : List Jvm.Cond) (w_enc w_tb : Addr) (cs_v : Int32) (cl_tb : Cell) (wv_fm : Value) (hp : Perm Z w_enc w_tb cs_v cl_tb wv_fm) (p0 : Int32) (h0 : Heap) (n0 : Nat) (O0 : Old Z n0 h0) (hc1 : ¬ (p0 < (26 : Int32))) (hc2 : ¬ (p0 < (52 : Int32))) (hc3 : p0 < (62 : Int32)) :
    MF l y0 (Jvm.Cond.code y0 method_3_code 1 (some .char) :: ws) ({ frames := 0, cells := 0, slots := 0, locals := 0 } : Room) Z #[(.int p0)] h0 (fun v h L => v = some (.int (nar .char (((48 : Int32) + (p0 - (52 : Int32))).toUInt32.toUInt16.toUInt32.toInt32))) ∧ Fr n0 L ∧ h = h0) := by
  refine mfB (plainFor_of_name pn_46) hw fun p e s m below meth c s₁ Bd Kz X0 e0 => ?_
  obtain ⟨hx, hby, hml, hZ, hown, -⟩ := id Kz
  have qz := And.intro hx hby
  have N0 := Fr.nil n0
  refine mfE Bd X0 (some (.int (nar .char (((48 : Int32) + (p0 - (52 : Int32))).toUInt32.toUInt16.toUInt32.toInt32)))) e0 (fun h => by rw [Bd.returns] at h; cases h) (ef_46_0 m p0) ⟨rfl, N0, rfl⟩ fun fs hr => ?_
  refine iln X0 qz d46_0 ?_
  refine bp X0 qz d46_1 ?_
  refine icY X0 qz 3 12 d46_3 (flt hc1).2.1 ?_
  refine iln X0 qz d46_12 ?_
  refine bp X0 qz d46_13 ?_
  refine icY X0 qz 15 27 d46_15 (flt hc2).2.1 ?_
  refine iln X0 qz d46_27 ?_
  refine bp X0 qz d46_28 ?_
  refine icN X0 qz d46_30 (tlt hc3).2.1 ?_
  refine bp X0 qz d46_33 ?_
  refine iln X0 qz d46_35 ?_
  refine bp X0 qz d46_36 ?_
  refine wib X0 qz d46_38 ?_
  refine wia X0 qz d46_39 ?_
  refine XS.i2c X0.here hx rfl (hb hby d46_40) rfl ?_
  exact retN X0 hx (t := .char) Bd.returns (by simp) (hb hby d46_41) hr
theorem d46_42 : dk cb46 42 (.iload_n 0) 1 := by decide +kernel
theorem d46_43 : dk cb46 43 (.bipush 62) 2 := by decide +kernel
theorem d46_45 : dk cb46 45 (.if_icmp .ne 6) 3 := by decide +kernel
theorem d46_48 : dk cb46 48 (.bipush 43) 2 := by decide +kernel
theorem d46_50 : dk cb46 50 .ireturn 1 := by decide +kernel
theorem rm4 (l : Launch) (Z : State) (a0 : Array Value) (hw : HW Z a0) (ws : List Jvm.Cond) (w_enc w_tb : Addr) (cs_v : Int32) (cl_tb : Cell) (wv_fm : Value) (hp : Perm Z w_enc w_tb cs_v cl_tb wv_fm) (p0 : Int32) (h0 : Heap) (n0 : Nat) (O0 : Old Z n0 h0) (hc1 : ¬ (p0 < (26 : Int32))) (hc2 : ¬ (p0 < (52 : Int32))) (hc3 : ¬ (p0 < (62 : Int32))) (hc4 : p0 = (62 : Int32)) :
    MF l y0 (Jvm.Cond.code y0 method_3_code 1 (some .char) :: ws) ({ frames := 0, cells := 0, slots := 0, locals := 0 } : Room) Z #[(.int p0)] h0 (fun v h L => v = some (.int 43) ∧ Fr n0 L ∧ h = h0) := by
  refine mfB (plainFor_of_name pn_46) hw fun p e s m below meth c s₁ Bd Kz X0 e0 => ?_
  obtain ⟨hx, hby, hml, hZ, hown, -⟩ := id Kz
  have qz := And.intro hx hby
  have N0 := Fr.nil n0
  refine mfE Bd X0 (some (.int 43)) e0 (fun h => by rw [Bd.returns] at h; cases h) (ef_46_0 m p0) ⟨rfl, N0, rfl⟩ fun fs hr => ?_
  refine iln X0 qz d46_0 ?_
  refine bp X0 qz d46_1 ?_
  refine icY X0 qz 3 12 d46_3 (flt hc1).2.1 ?_
  refine iln X0 qz d46_12 ?_
  refine bp X0 qz d46_13 ?_
  refine icY X0 qz 15 27 d46_15 (flt hc2).2.1 ?_
  refine iln X0 qz d46_27 ?_
  refine bp X0 qz d46_28 ?_
  refine icY X0 qz 30 42 d46_30 (flt hc3).2.1 ?_
  refine iln X0 qz d46_42 ?_
  refine bp X0 qz d46_43 ?_
  refine icN X0 qz d46_45 (teq hc4).2 ?_
  refine bp X0 qz d46_48 ?_
  exact retN X0 hx (t := .char) Bd.returns (by simp) (hb hby d46_50) hr
theorem d46_51 : dk cb46 51 (.bipush 47) 2 := by decide +kernel
theorem d46_53 : dk cb46 53 .ireturn 1 := by decide +kernel
theorem rm5 (l : Launch) (Z : State) (a0 : Array Value) (hw : HW Z a0) (ws : List Jvm.Cond) (w_enc w_tb : Addr) (cs_v : Int32) (cl_tb : Cell) (wv_fm : Value) (hp : Perm Z w_enc w_tb cs_v cl_tb wv_fm) (p0 : Int32) (h0 : Heap) (n0 : Nat) (O0 : Old Z n0 h0) (hc1 : ¬ (p0 < (26 : Int32))) (hc2 : ¬ (p0 < (52 : Int32))) (hc3 : ¬ (p0 < (62 : Int32))) (hc4 : ¬ (p0 = (62 : Int32))) :
    MF l y0 (Jvm.Cond.code y0 method_3_code 1 (some .char) :: ws) ({ frames := 0, cells := 0, slots := 0, locals := 0 } : Room) Z #[(.int p0)] h0 (fun v h L => v = some (.int 47) ∧ Fr n0 L ∧ h = h0) := by
  refine mfB (plainFor_of_name pn_46) hw fun p e s m below meth c s₁ Bd Kz X0 e0 => ?_
  obtain ⟨hx, hby, hml, hZ, hown, -⟩ := id Kz
  have qz := And.intro hx hby
  have N0 := Fr.nil n0
  refine mfE Bd X0 (some (.int 47)) e0 (fun h => by rw [Bd.returns] at h; cases h) (ef_46_0 m p0) ⟨rfl, N0, rfl⟩ fun fs hr => ?_
  refine iln X0 qz d46_0 ?_
  refine bp X0 qz d46_1 ?_
  refine icY X0 qz 3 12 d46_3 (flt hc1).2.1 ?_
  refine iln X0 qz d46_12 ?_
  refine bp X0 qz d46_13 ?_
  refine icY X0 qz 15 27 d46_15 (flt hc2).2.1 ?_
  refine iln X0 qz d46_27 ?_
  refine bp X0 qz d46_28 ?_
  refine icY X0 qz 30 42 d46_30 (flt hc3).2.1 ?_
  refine iln X0 qz d46_42 ?_
  refine bp X0 qz d46_43 ?_
  refine icY X0 qz 45 51 d46_45 (feq hc4).2 ?_
  refine bp X0 qz d46_51 ?_
  exact retN X0 hx (t := .char) Bd.returns (by simp) (hb hby d46_53) hr
def QSX (p0 : Int32) (h0 : Heap) (n0 : Nat) (v : Option Value) (h : Heap) (L : List Loc) : Prop := v = some (.int (sxt p0)) ∧ Fr n0 L ∧ h = h0
theorem rmSX (l : Launch) (Z : State) (a0 : Array Value) (hw : ∀ d ∈ tables_1, d.before a0 Z = true) (ws : List Jvm.Cond) (w_enc w_tb : Addr) (cs_v : Int32) (cl_tb : Cell) (wv_fm : Value) (hp : Perm Z w_enc w_tb cs_v cl_tb wv_fm) (p0 : Int32) (h0 : Heap) (n0 : Nat) (O0 : Old Z n0 h0) :
    MetFree l y0 (head1 (Jvm.Cond.code y0 method_3_code 1 (some .char) :: ws) ({ frames := 0, cells := 0, slots := 0, locals := 0 } : Room)) (fun a U => a = #[(.int p0)] ∧ Z.Warmed39 U.vm ∧ U.heap = h0) (fun _ _ _ _ _ => True) (fun _ U o U' => ∃ v L, o = .returned v ∧ QSX p0 h0 n0 v U'.heap L ∧ FrameEnd U o U' L ({ frames := 0, cells := 0, slots := 0, locals := 0 } : Room).cells ({ frames := 0, cells := 0, slots := 0, locals := 0 } : Room).slots) := by
  by_cases d0 : p0 < (26 : Int32)
  · skip
    have hS : sxt p0 = (nar .char (((65 : Int32) + p0).toUInt32.toUInt16.toUInt32.toInt32)) := by rw [sxt, if_pos d0]
    exact (rm1 l Z a0 hw ws w_enc w_tb cs_v cl_tb wv_fm hp p0 h0 n0 O0 d0).mono (fun _ _ h => h) (fun _ _ _ _ _ h => h) (fun a s o s' _ ⟨v, L, e, q, f⟩ => ⟨v, L, e, ⟨by rw [hS]; exact q.1, q.2.1, q.2.2⟩, f⟩)
  · skip
    by_cases d1 : p0 < (52 : Int32)
    · skip
      have hS : sxt p0 = (nar .char (((97 : Int32) + (p0 - (26 : Int32))).toUInt32.toUInt16.toUInt32.toInt32)) := by rw [sxt, if_neg d0, if_pos d1]
      exact (rm2 l Z a0 hw ws w_enc w_tb cs_v cl_tb wv_fm hp p0 h0 n0 O0 d0 d1).mono (fun _ _ h => h) (fun _ _ _ _ _ h => h) (fun a s o s' _ ⟨v, L, e, q, f⟩ => ⟨v, L, e, ⟨by rw [hS]; exact q.1, q.2.1, q.2.2⟩, f⟩)
    · skip
      by_cases d2 : p0 < (62 : Int32)
      · skip
        have hS : sxt p0 = (nar .char (((48 : Int32) + (p0 - (52 : Int32))).toUInt32.toUInt16.toUInt32.toInt32)) := by rw [sxt, if_neg d0, if_neg d1, if_pos d2]
        exact (rm3 l Z a0 hw ws w_enc w_tb cs_v cl_tb wv_fm hp p0 h0 n0 O0 d0 d1 d2).mono (fun _ _ h => h) (fun _ _ _ _ _ h => h) (fun a s o s' _ ⟨v, L, e, q, f⟩ => ⟨v, L, e, ⟨by rw [hS]; exact q.1, q.2.1, q.2.2⟩, f⟩)
      · skip
        by_cases d3 : p0 = (62 : Int32)
        · skip
          have hS : sxt p0 = (43 : Int32) := by rw [sxt, if_neg d0, if_neg d1, if_neg d2, if_pos d3]
          exact (rm4 l Z a0 hw ws w_enc w_tb cs_v cl_tb wv_fm hp p0 h0 n0 O0 d0 d1 d2 d3).mono (fun _ _ h => h) (fun _ _ _ _ _ h => h) (fun a s o s' _ ⟨v, L, e, q, f⟩ => ⟨v, L, e, ⟨by rw [hS]; exact q.1, q.2.1, q.2.2⟩, f⟩)
        · skip
          have hS : sxt p0 = (47 : Int32) := by rw [sxt, if_neg d0, if_neg d1, if_neg d2, if_neg d3]
          exact (rm5 l Z a0 hw ws w_enc w_tb cs_v cl_tb wv_fm hp p0 h0 n0 O0 d0 d1 d2 d3).mono (fun _ _ h => h) (fun _ _ _ _ _ h => h) (fun a s o s' _ ⟨v, L, e, q, f⟩ => ⟨v, L, e, ⟨by rw [hS]; exact q.1, q.2.1, q.2.2⟩, f⟩)
abbrev cb1 : ByteArray := method_2_code
theorem d1_0 : dk cb1 0 (.iload_n 2) 1 := by decide +kernel
theorem d1_1 : dk cb1 1 (.iload_n 3) 1 := by decide +kernel
theorem d1_2 : dk cb1 2 (.if_icmp .ge 17) 3 := by decide +kernel
theorem d1_5 : dk cb1 5 (.lload_n 0) 1 := by decide +kernel
theorem d1_6 : dk cb1 6 (.bipush 8) 2 := by decide +kernel
theorem d1_8 : dk cb1 8 (.iload_n 2) 1 := by decide +kernel
theorem d1_9 : dk cb1 9 .imul 1 := by decide +kernel
theorem d1_10 : dk cb1 10 .lushr 1 := by decide +kernel
theorem d1_11 : dk cb1 11 (.ldc2_w 7) 3 := by decide +kernel
theorem d1_14 : dk cb1 14 .land 1 := by decide +kernel
theorem d1_15 : dk cb1 15 .l2i 1 := by decide +kernel
theorem d1_16 : dk cb1 16 (.goto 4) 3 := by decide +kernel
theorem d1_20 : dk cb1 20 .ireturn 1 := by decide +kernel
abbrev y1 : MethodName := (⟨"com/example/cloakfield/cloakfield/format/TaggedValueToTextPinLaw", "byteAt", "(JII)I"⟩ : MethodName)
theorem ef_1_0 (m : MethodId) (x0 : Int64) (x1 : Int32) (x2 : Int32) : entryFrame m #[(.long x0), (.int x1), (.int x2)] 4 = mkF m 0 #[.val (.long x0), .second, .val (.int x1), .val (.int x2)] [] := by first | (simp [entryFrame, mkF, argsToLocals, Value.category]; done) | rfl
theorem rm6 (l : Launch) (Z : State) (a0 : Array Value) (hw : HW Z a0) (ws : List Jvm.Cond) (w_enc w_tb : Addr) (cs_v : Int32) (cl_tb : Cell) (wv_fm : Value) (hp : Perm Z w_enc w_tb cs_v cl_tb wv_fm) (p0 : Int64) (p1 : Int32) (p2 : Int32) (h0 : Heap) (n0 : Nat) (O0 : Old Z n0 h0) (hc1 : p1 < p2) :
    MF l y1 (Jvm.Cond.code y1 method_2_code 4 (some .int) :: ws) ({ frames := 0, cells := 0, slots := 0, locals := 0 } : Room) Z #[(.long p0), (.int p1), (.int p2)] h0 (fun v h L => v = some (.int ((((p0.toUInt64 >>> (((8 : Int32) * p1) &&& 0x3f).toInt64.toUInt64).toInt64) &&& (255 : Int64)).toInt32)) ∧ Fr n0 L ∧ h = h0) := by
  refine mfB (plainFor_of_name pn_46) hw fun p e s m below meth c s₁ Bd Kz X0 e0 => ?_
  obtain ⟨hx, hby, hml, hZ, hown, -⟩ := id Kz
  have qz := And.intro hx hby
  have N0 := Fr.nil n0
  refine mfE Bd X0 (some (.int ((((p0.toUInt64 >>> (((8 : Int32) * p1) &&& 0x3f).toInt64.toUInt64).toInt64) &&& (255 : Int64)).toInt32))) e0 (fun h => by rw [Bd.returns] at h; cases h) (ef_1_0 m p0 p1 p2) ⟨rfl, N0, rfl⟩ fun fs hr => ?_
  refine iln X0 qz d1_0 ?_
  refine iln X0 qz d1_1 ?_
  refine icN X0 qz d1_2 (tlt hc1).2.1 ?_
  refine XS.lloadN X0.here hx rfl (hb hby d1_5) rfl ?_
  refine bp X0 qz d1_6 ?_
  refine iln X0 qz d1_8 ?_
  refine wimul X0 qz d1_9 ?_
  refine XS.lushr X0.here hx rfl (hb hby d1_10) rfl ?_
  refine X0.ldc2J hx hown (mvT hZ (wq hw 5 rfl)) rfl (hb hby d1_11) ?_
  refine XS.land X0.here hx rfl (hb hby d1_14) rfl ?_
  refine XS.l2i X0.here hx rfl (hb hby d1_15) rfl ?_
  refine gt X0 qz 16 20 d1_16 ?_
  exact retI X0 hx Bd.returns (hb hby d1_20) hr
theorem d1_19 : dk cb1 19 (.iconst 0) 1 := by decide +kernel
theorem rm7 (l : Launch) (Z : State) (a0 : Array Value) (hw : HW Z a0) (ws : List Jvm.Cond) (w_enc w_tb : Addr) (cs_v : Int32) (cl_tb : Cell) (wv_fm : Value) (hp : Perm Z w_enc w_tb cs_v cl_tb wv_fm) (p0 : Int64) (p1 : Int32) (p2 : Int32) (h0 : Heap) (n0 : Nat) (O0 : Old Z n0 h0) (hc1 : ¬ (p1 < p2)) :
    MF l y1 (Jvm.Cond.code y1 method_2_code 4 (some .int) :: ws) ({ frames := 0, cells := 0, slots := 0, locals := 0 } : Room) Z #[(.long p0), (.int p1), (.int p2)] h0 (fun v h L => v = some (.int 0) ∧ Fr n0 L ∧ h = h0) := by
  refine mfB (plainFor_of_name pn_46) hw fun p e s m below meth c s₁ Bd Kz X0 e0 => ?_
  obtain ⟨hx, hby, hml, hZ, hown, -⟩ := id Kz
  have qz := And.intro hx hby
  have N0 := Fr.nil n0
  refine mfE Bd X0 (some (.int 0)) e0 (fun h => by rw [Bd.returns] at h; cases h) (ef_1_0 m p0 p1 p2) ⟨rfl, N0, rfl⟩ fun fs hr => ?_
  refine iln X0 qz d1_0 ?_
  refine iln X0 qz d1_1 ?_
  refine icY X0 qz 2 19 d1_2 (flt hc1).2.1 ?_
  refine ic X0 qz d1_19 ?_
  exact retI X0 hx Bd.returns (hb hby d1_20) hr
def QBA (p0 : Int64) (p1 p2 : Int32) (h0 : Heap) (n0 : Nat) (v : Option Value) (h : Heap) (L : List Loc) : Prop := v = some (.int (bA p0 p1 p2)) ∧ Fr n0 L ∧ h = h0
set_option maxRecDepth 65536 in
set_option maxHeartbeats 4000000 in
theorem rmBA (l : Launch) (Z : State) (a0 : Array Value) (hw : ∀ d ∈ tables_1, d.before a0 Z = true) (ws : List Jvm.Cond) (w_enc w_tb : Addr) (cs_v : Int32) (cl_tb : Cell) (wv_fm : Value) (hp : Perm Z w_enc w_tb cs_v cl_tb wv_fm) (p0 : Int64) (p1 p2 : Int32) (h0 : Heap) (n0 : Nat) (O0 : Old Z n0 h0) :
    MetFree l y1 (head1 (Jvm.Cond.code y1 method_2_code 4 (some .int) :: ws) ({ frames := 0, cells := 0, slots := 0, locals := 0 } : Room)) (fun as' U => as' = #[(.long p0), (.int p1), (.int p2)] ∧ Z.Warmed39 U.vm ∧ U.heap = h0) (fun _ _ _ _ _ => True) (fun _ U o U' => ∃ v L, o = .returned v ∧ QBA p0 p1 p2 h0 n0 v U'.heap L ∧ FrameEnd U o U' L ({ frames := 0, cells := 0, slots := 0, locals := 0 } : Room).cells ({ frames := 0, cells := 0, slots := 0, locals := 0 } : Room).slots) := by
  by_cases d0 : p1 < p2
  · skip
    have hS : bA p0 p1 p2 = ((((p0.toUInt64 >>> (((8 : Int32) * p1) &&& 0x3f).toInt64.toUInt64).toInt64) &&& (255 : Int64)).toInt32) := by rw [bA, if_pos d0]
    exact (rm6 l Z a0 hw ws w_enc w_tb cs_v cl_tb wv_fm hp p0 p1 p2 h0 n0 O0 d0).mono (fun _ _ h => h) (fun _ _ _ _ _ h => h) (fun a s o s' _ ⟨v, L, e, q, f⟩ => ⟨v, L, e, ⟨by rw [hS]; exact q.1, q.2.1, q.2.2⟩, f⟩)
  · skip
    have hS : bA p0 p1 p2 = (0 : Int32) := by rw [bA, if_neg d0]
    exact (rm7 l Z a0 hw ws w_enc w_tb cs_v cl_tb wv_fm hp p0 p1 p2 h0 n0 O0 d0).mono (fun _ _ h => h) (fun _ _ _ _ _ h => h) (fun a s o s' _ ⟨v, L, e, q, f⟩ => ⟨v, L, e, ⟨by rw [hS]; exact q.1, q.2.1, q.2.2⟩, f⟩)
abbrev cb23 : ByteArray := jdk_2452_method_2_code
theorem d23_0 : dk cb23 0 (.iconst 0) 1 := by decide +kernel
theorem d23_1 : dk cb23 1 (.istore_n 3) 1 := by decide +kernel
theorem d23_2 : dk cb23 2 (.aload_n 0) 1 := by decide +kernel
theorem d23_3 : dk cb23 3 (.getfield 21) 3 := by decide +kernel
theorem d23_6 : dk cb23 6 (.ifCond .eq 18) 3 := by decide +kernel
theorem d23_9 : dk cb23 9 (.iconst 4) 1 := by decide +kernel
theorem d23_10 : dk cb23 10 (.iload_n 1) 1 := by decide +kernel
theorem d23_11 : dk cb23 11 (.iconst 2) 1 := by decide +kernel
theorem d23_12 : dk cb23 12 (.invokestatic 24) 3 := by decide +kernel
abbrev cb24 : ByteArray := jdk_29_method_24_code
theorem d24_0 : dk cb24 0 (.iload_n 0) 1 := by decide +kernel
theorem d24_1 : dk cb24 1 (.iload_n 1) 1 := by decide +kernel
theorem d24_2 : dk cb24 2 .iadd 1 := by decide +kernel
theorem d24_3 : dk cb24 3 (.istore_n 2) 1 := by decide +kernel
theorem d24_4 : dk cb24 4 (.iload_n 0) 1 := by decide +kernel
theorem d24_5 : dk cb24 5 (.iload_n 2) 1 := by decide +kernel
theorem d24_6 : dk cb24 6 .ixor 1 := by decide +kernel
theorem d24_7 : dk cb24 7 (.iload_n 1) 1 := by decide +kernel
theorem d24_8 : dk cb24 8 (.iload_n 2) 1 := by decide +kernel
theorem d24_9 : dk cb24 9 .ixor 1 := by decide +kernel
theorem d24_10 : dk cb24 10 .iand 1 := by decide +kernel
theorem d24_11 : dk cb24 11 (.ifCond .ge 13) 3 := by decide +kernel
theorem d24_24 : dk cb24 24 (.iload_n 2) 1 := by decide +kernel
theorem d24_25 : dk cb24 25 .ireturn 1 := by decide +kernel
abbrev y2 : MethodName := (⟨"java/lang/Math", "addExact", "(II)I"⟩ : MethodName)
theorem ef_24_0 (m : MethodId) (x0 : Int32) (x1 : Int32) : entryFrame m #[(.int x0), (.int x1)] 3 = mkF m 0 #[.val (.int x0), .val (.int x1), .unset] [] := by first | (simp [entryFrame, mkF, argsToLocals, Value.category]; done) | rfl
theorem rm8 (l : Launch) (Z : State) (a0 : Array Value) (hw : HW Z a0) (ws : List Jvm.Cond) (w_enc w_tb : Addr) (cs_v : Int32) (cl_tb : Cell) (wv_fm : Value) (hp : Perm Z w_enc w_tb cs_v cl_tb wv_fm) (p1 : Int32) (h0 : Heap) (n0 : Nat) (O0 : Old Z n0 h0) (hc1 : ¬ (((p1 ^^^ (p1 + (2 : Int32))) &&& ((2 : Int32) ^^^ (p1 + (2 : Int32)))) < (0 : Int32))) :
    MF l y2 (Jvm.Cond.code y2 jdk_29_method_24_code 3 (some .int) :: ws) ({ frames := 0, cells := 0, slots := 0, locals := 0 } : Room) Z #[(.int p1), (.int 2)] h0 (fun v h L => v = some (.int (p1 + (2 : Int32))) ∧ Fr n0 L ∧ h = h0) := by
  refine mfB (Jvm.Free.JP.mathPlain rfl (by decide +kernel)) hw fun p e s m below meth c s₁ Bd Kz X0 e0 => ?_
  obtain ⟨hx, hby, hml, hZ, hown, -⟩ := id Kz
  have qz := And.intro hx hby
  have N0 := Fr.nil n0
  refine mfE Bd X0 (some (.int (p1 + (2 : Int32)))) e0 (fun h => by rw [Bd.returns] at h; cases h) (ef_24_0 m p1 (2 : Int32)) ⟨rfl, N0, rfl⟩ fun fs hr => ?_
  refine iln X0 qz d24_0 ?_
  refine iln X0 qz d24_1 ?_
  refine wia X0 qz d24_2 ?_
  refine stn X0 qz d24_3 #[vi p1, vi 2, .val (.int (p1 + (2 : Int32)))] ?_
  refine iln X0 qz d24_4 ?_
  refine iln X0 qz d24_5 ?_
  refine XS.ixor X0.here hx rfl (hb hby d24_6) rfl ?_
  refine iln X0 qz d24_7 ?_
  refine iln X0 qz d24_8 ?_
  refine XS.ixor X0.here hx rfl (hb hby d24_9) rfl ?_
  refine wiand X0 qz d24_10 ?_
  refine ifY X0 qz 11 24 d24_11 (flt hc1).2.1 ?_
  refine iln X0 qz d24_24 ?_
  exact retI X0 hx Bd.returns (hb hby d24_25) hr
theorem pd_0 : parseMethodDescriptor "(II)I" = some ⟨[.int, .int], some .int⟩ := by decide +kernel
theorem d23_15 : dk cb23 15 (.iconst 3) 1 := by decide +kernel
theorem d23_16 : dk cb23 16 .idiv 1 := by decide +kernel
theorem d23_17 : dk cb23 17 (.invokestatic 30) 3 := by decide +kernel
abbrev fx0 (x0 : Int32) : Int32 := ((x0 + (2 : Int32)) / (3 : Int32))
abbrev cb25 : ByteArray := jdk_29_method_28_code
theorem d25_0 : dk cb25 0 (.iload_n 0) 1 := by decide +kernel
theorem d25_1 : dk cb25 1 .i2l 1 := by decide +kernel
theorem d25_2 : dk cb25 2 (.iload_n 1) 1 := by decide +kernel
theorem d25_3 : dk cb25 3 .i2l 1 := by decide +kernel
theorem d25_4 : dk cb25 4 .lmul 1 := by decide +kernel
theorem d25_5 : dk cb25 5 (.lstore_n 2) 1 := by decide +kernel
abbrev fx1 (x0 : Int32) : Int64 := ((4 : Int64) * (x0.toInt64))
theorem d25_6 : dk cb25 6 (.lload_n 2) 1 := by decide +kernel
theorem d25_7 : dk cb25 7 .l2i 1 := by decide +kernel
theorem d25_8 : dk cb25 8 .i2l 1 := by decide +kernel
theorem d25_9 : dk cb25 9 (.lload_n 2) 1 := by decide +kernel
theorem d25_10 : dk cb25 10 .lcmp 1 := by decide +kernel
theorem d25_11 : dk cb25 11 (.ifCond .eq 13) 3 := by decide +kernel
theorem d25_24 : dk cb25 24 (.lload_n 2) 1 := by decide +kernel
theorem d25_25 : dk cb25 25 .l2i 1 := by decide +kernel
theorem d25_26 : dk cb25 26 .ireturn 1 := by decide +kernel
abbrev y3 : MethodName := (⟨"java/lang/Math", "multiplyExact", "(II)I"⟩ : MethodName)
theorem ef_25_0 (m : MethodId) (x0 : Int32) (x1 : Int32) : entryFrame m #[(.int x0), (.int x1)] 4 = mkF m 0 #[.val (.int x0), .val (.int x1), .unset, .unset] [] := by first | (simp [entryFrame, mkF, argsToLocals, Value.category]; done) | rfl
theorem rm9 (l : Launch) (Z : State) (a0 : Array Value) (hw : HW Z a0) (ws : List Jvm.Cond) (w_enc w_tb : Addr) (cs_v : Int32) (cl_tb : Cell) (wv_fm : Value) (hp : Perm Z w_enc w_tb cs_v cl_tb wv_fm) (p1 : Int32) (h0 : Heap) (n0 : Nat) (O0 : Old Z n0 h0) (hc1 : (lcmpW ((((4 : Int64) * (p1.toInt64)).toInt32).toInt64) ((4 : Int64) * (p1.toInt64))) = (0 : Int32)) :
    MF l y3 (Jvm.Cond.code y3 jdk_29_method_28_code 4 (some .int) :: ws) ({ frames := 0, cells := 0, slots := 0, locals := 0 } : Room) Z #[(.int 4), (.int p1)] h0 (fun v h L => v = some (.int (((4 : Int64) * (p1.toInt64)).toInt32)) ∧ Fr n0 L ∧ h = h0) := by
  refine mfB (Jvm.Free.JP.mathPlain rfl (by decide +kernel)) hw fun p e s m below meth c s₁ Bd Kz X0 e0 => ?_
  obtain ⟨hx, hby, hml, hZ, hown, -⟩ := id Kz
  have qz := And.intro hx hby
  have N0 := Fr.nil n0
  refine mfE Bd X0 (some (.int (((4 : Int64) * (p1.toInt64)).toInt32))) e0 (fun h => by rw [Bd.returns] at h; cases h) (ef_25_0 m (4 : Int32) p1) ⟨rfl, N0, rfl⟩ fun fs hr => ?_
  refine iln X0 qz d25_0 ?_
  refine XS.i2l X0.here hx rfl (hb hby d25_1) rfl ?_
  refine stk (y := (.long (4 : Int64))) rfl ?_
  refine iln X0 qz d25_2 ?_
  refine XS.i2l X0.here hx rfl (hb hby d25_3) rfl ?_
  refine XS.lmul X0.here hx rfl (hb hby d25_4) rfl ?_
  refine XS.lstoreN X0.here hx rfl (hb hby d25_5) rfl (l' := #[vi 4, vi p1, .val (.long (fx1 p1)), .second]) rfl ?_
  refine XS.lloadN X0.here hx rfl (hb hby d25_6) rfl ?_
  refine XS.l2i X0.here hx rfl (hb hby d25_7) rfl ?_
  refine XS.i2l X0.here hx rfl (hb hby d25_8) rfl ?_
  refine XS.lloadN X0.here hx rfl (hb hby d25_9) rfl ?_
  refine XS.lcmp X0.here hx rfl (hb hby d25_10) rfl ?_
  refine ifY X0 qz 11 24 d25_11 (teq hc1).1 ?_
  refine XS.lloadN X0.here hx rfl (hb hby d25_24) rfl ?_
  refine XS.l2i X0.here hx rfl (hb hby d25_25) rfl ?_
  exact retI X0 hx Bd.returns (hb hby d25_26) hr
theorem d23_20 : dk cb23 20 (.istore_n 3) 1 := by decide +kernel
abbrev fx2 (x0 : Int32) : Int32 := (((4 : Int64) * (((x0 + (2 : Int32)) / (3 : Int32)).toInt64)).toInt32)
theorem d23_21 : dk cb23 21 (.goto 32) 3 := by decide +kernel
theorem d23_53 : dk cb23 53 (.aload_n 0) 1 := by decide +kernel
theorem d23_54 : dk cb23 54 (.getfield 17) 3 := by decide +kernel
theorem d23_57 : dk cb23 57 (.ifCond .le 22) 3 := by decide +kernel
theorem d23_79 : dk cb23 79 (.goto 21) 3 := by decide +kernel
theorem d23_100 : dk cb23 100 (.iload_n 3) 1 := by decide +kernel
theorem d23_101 : dk cb23 101 .ireturn 1 := by decide +kernel
abbrev y4 : MethodName := (⟨"java/util/Base64$Encoder", "encodedOutLength", "(IZ)I"⟩ : MethodName)
theorem ef_23_0 (m : MethodId) (x0 : Addr) (x1 : Int32) (x2 : Int32) : entryFrame m #[(.ref x0), (.int x1), (.int x2)] 5 = mkF m 0 #[.val (.ref x0), .val (.int x1), .val (.int x2), .unset, .unset] [] := by first | (simp [entryFrame, mkF, argsToLocals, Value.category]; done) | rfl
theorem pn_23 : plainName "java/util/Base64$Encoder" = true := by first | (simp [plainName, overriddenIn]; done) | decide +kernel
theorem rm10 (l : Launch) (Z : State) (a0 : Array Value) (hw : HW Z a0) (ws : List Jvm.Cond) (w_enc w_tb : Addr) (cs_v : Int32) (cl_tb : Cell) (wv_fm : Value) (hp : Perm Z w_enc w_tb cs_v cl_tb wv_fm) (p1 : Int32) (h0 : Heap) (n0 : Nat) (O0 : Old Z n0 h0) (hc1 : ¬ (((p1 ^^^ (p1 + (2 : Int32))) &&& ((2 : Int32) ^^^ (p1 + (2 : Int32)))) < (0 : Int32))) (hc2 : (lcmpW ((((4 : Int64) * (((p1 + (2 : Int32)) / (3 : Int32)).toInt64)).toInt32).toInt64) ((4 : Int64) * (((p1 + (2 : Int32)) / (3 : Int32)).toInt64))) = (0 : Int32)) :
    MF l y4 (Jvm.Cond.codeWith y4 jdk_2452_method_2_code 5 (some .int) [((2 : Nat), (79 : Nat), (82 : Nat), (33 : Nat))] :: ws) ({ frames := 1, cells := 0, slots := 0, locals := 15 } : Room) Z #[(.ref w_enc), (.int p1), (.int 1)] h0 (fun v h L => v = some (.int (((4 : Int64) * (((p1 + (2 : Int32)) / (3 : Int32)).toInt64)).toInt32)) ∧ Fr n0 L ∧ h = h0) := by
  refine mfW (plainFor_of_name pn_23) hw fun p e s m below meth c s₁ Bd Kz X0 e0 => ?_
  obtain ⟨hx, hby, hml, hZ, hown, -⟩ := id Kz
  have qz := And.intro hx hby
  have N0 := Fr.nil n0
  obtain ⟨_, _, _, _, _, F_linemax_w_enc, F_doPadding_w_enc, _⟩ := id hp
  obtain ⟨T1, X1, e1, st1⟩ := gF X0 Kz 146 e0 (F_doPadding_w_enc.ext O0.2) (mkF m 3 #[vr w_enc, vi p1, vi 1, vi 0, uu] [(.ref w_enc)]) d23_3
  obtain ⟨_, T2, Lc2, X2, hQ2, st2⟩ := cS X1 Kz y2 1 148 149 150 151 (rm8 l Z a0 hw [] w_enc w_tb cs_v cl_tb wv_fm hp p1 h0 n0 O0 hc1) e1 (mkF m 12 #[vr w_enc, vi p1, vi 1, vi 0, uu] [(.int 2), (.int p1), (.int 4)]) [(.int p1), (.int 2)] [(.int 4)] pd_0 d23_12
  obtain ⟨rfl, Nq2, eq2⟩ := hQ2
  have N2 := Fr.app N0 Nq2
  obtain ⟨_, T3, Lc3, X3, hQ3, st3⟩ := cS X2 Kz y3 0 152 153 150 154 (rm9 l Z a0 hw [] w_enc w_tb cs_v cl_tb wv_fm hp ((p1 + (2 : Int32)) / (3 : Int32)) h0 n0 O0 hc2) eq2 (mkF m 17 #[vr w_enc, vi p1, vi 1, vi 0, uu] [(.int (fx0 p1)), (.int 4)]) [(.int 4), (.int (fx0 p1))] [] pd_0 d23_17
  obtain ⟨rfl, Nq3, eq3⟩ := hQ3
  have N3 := Fr.app N2 Nq3
  obtain ⟨T4, X4, e4, st4⟩ := gF X3 Kz 155 eq3 (F_linemax_w_enc.ext O0.2) (mkF m 54 #[vr w_enc, vi p1, vi 1, vi (fx2 p1), uu] [(.ref w_enc)]) d23_54
  refine mfE Bd X4 (some (.int (((4 : Int64) * (((p1 + (2 : Int32)) / (3 : Int32)).toInt64)).toInt32))) e4 (fun h => by rw [Bd.returns] at h; cases h) (ef_23_0 m w_enc p1 (1 : Int32)) ⟨rfl, N3, rfl⟩ fun fs hr => ?_
  refine ic X0 qz d23_0 ?_
  refine stn X0 qz d23_1 #[vr w_enc, vi p1, vi 1, vi 0, uu] ?_
  refine aln X0 qz d23_2 ?_
  refine st1 _ ?_
  refine ifN X1 qz d23_6 (feq (by decide : ¬ ((1 : Int32) = (0 : Int32)))).1 ?_
  refine ic X1 qz d23_9 ?_
  refine iln X1 qz d23_10 ?_
  refine ic X1 qz d23_11 ?_
  refine st2 _ ?_
  refine ic X2 qz d23_15 ?_
  refine XS.idiv X2.here hx rfl (hb hby d23_16) rfl (by decide) ?_
  refine st3 _ ?_
  refine stn X3 qz d23_20 #[vr w_enc, vi p1, vi 1, vi (fx2 p1), uu] ?_
  refine gt X3 qz 21 53 d23_21 ?_
  refine aln X3 qz d23_53 ?_
  refine st4 _ ?_
  show Sp p e below T4 (mkF m 57 #[vr w_enc, vi p1, vi 1, vi (fx2 p1), uu] [(.int (-1))]) _
  refine ifY X4 qz 57 79 d23_57 (flt (by decide : ¬ ((0 : Int32) < (-1 : Int32)))).2.2.2 ?_
  refine gt X4 qz 79 100 d23_79 ?_
  refine iln X4 qz d23_100 ?_
  exact retI X4 hx Bd.returns (hb hby d23_101) hr
def QEOL (n : Int32) (h0 : Heap) (n0 : Nat) (v : Option Value) (h : Heap) (L : List Loc) : Prop := v = some (.int (eoL n)) ∧ Fr n0 L ∧ h = h0
theorem own_eo1 {n : Int32} (h : 0 ≤ n.toInt ∧ n.toInt < 7) : ¬ (((n ^^^ (n + (2 : Int32))) &&& ((2 : Int32) ^^^ (n + (2 : Int32)))) < (0 : Int32)) := by
  rcases own_n7 h with rfl | rfl | rfl | rfl | rfl | rfl | rfl <;> decide
theorem own_eo2 {n : Int32} (h : 0 ≤ n.toInt ∧ n.toInt < 7) : (lcmpW ((((4 : Int64) * (((n + (2 : Int32)) / (3 : Int32)).toInt64)).toInt32).toInt64) ((4 : Int64) * (((n + (2 : Int32)) / (3 : Int32)).toInt64))) = (0 : Int32) := by
  rcases own_n7 h with rfl | rfl | rfl | rfl | rfl | rfl | rfl <;> decide
theorem own_eo3 {n : Int32} (h : 0 ≤ n.toInt ∧ n.toInt < 7) : eoL n = (((4 : Int64) * (((n + (2 : Int32)) / (3 : Int32)).toInt64)).toInt32) := by
  rcases own_n7 h with rfl | rfl | rfl | rfl | rfl | rfl | rfl <;> decide
set_option maxRecDepth 65536 in
set_option maxHeartbeats 4000000 in
theorem rmEOL (l : Launch) (Z : State) (a0 : Array Value) (hw : ∀ d ∈ tables_1, d.before a0 Z = true) (ws : List Jvm.Cond) (w_enc w_tb : Addr) (cs_v : Int32) (cl_tb : Cell) (wv_fm : Value) (hp : Perm Z w_enc w_tb cs_v cl_tb wv_fm) (n : Int32) (h0 : Heap) (n0 : Nat) (O0 : Old Z n0 h0) (hn : 0 ≤ n.toInt ∧ n.toInt < 7) :
    MetFree l y4 (head1 (Jvm.Cond.codeWith y4 jdk_2452_method_2_code 5 (some .int) [((2 : Nat), (79 : Nat), (82 : Nat), (33 : Nat))] :: ws) ({ frames := 1, cells := 0, slots := 0, locals := 15 } : Room)) (fun as' U => as' = #[(.ref w_enc), (.int n), (.int 1)] ∧ Z.Warmed39 U.vm ∧ U.heap = h0) (fun _ _ _ _ _ => True) (fun _ U o U' => ∃ v L, o = .returned v ∧ QEOL n h0 n0 v U'.heap L ∧ FrameEnd U o U' L ({ frames := 1, cells := 0, slots := 0, locals := 15 } : Room).cells ({ frames := 1, cells := 0, slots := 0, locals := 15 } : Room).slots) := by
  have hS : eoL n = (((4 : Int64) * (((n + (2 : Int32)) / (3 : Int32)).toInt64)).toInt32) := own_eo3 hn
  exact (rm10 l Z a0 hw ws w_enc w_tb cs_v cl_tb wv_fm hp n h0 n0 O0 (own_eo1 hn) (own_eo2 hn)).mono (fun _ _ h => h) (fun _ _ _ _ _ h => h) (fun a s o s' _ ⟨v, L, e, q, f⟩ => ⟨v, L, e, ⟨by rw [hS]; exact q.1, q.2.1, q.2.2⟩, f⟩)
abbrev cb26 : ByteArray := jdk_2452_method_10_code
theorem d26_0 : dk cb26 0 (.aload_n 0) 1 := by decide +kernel
theorem d26_1 : dk cb26 1 (.getfield 7) 3 := by decide +kernel
theorem d26_4 : dk cb26 4 (.ifCond .eq 9) 3 := by decide +kernel
theorem d26_13 : dk cb26 13 (.getstatic 115) 3 := by decide +kernel
theorem d26_16 : dk cb26 16 (.astore 5) 2 := by decide +kernel
theorem d26_18 : dk cb26 18 (.iload_n 2) 1 := by decide +kernel
theorem d26_19 : dk cb26 19 (.istore 6) 2 := by decide +kernel
theorem d26_21 : dk cb26 21 (.iload_n 3) 1 := by decide +kernel
theorem d26_22 : dk cb26 22 (.iload_n 2) 1 := by decide +kernel
theorem d26_23 : dk cb26 23 .isub 1 := by decide +kernel
theorem d26_24 : dk cb26 24 (.iconst 3) 1 := by decide +kernel
theorem d26_25 : dk cb26 25 .idiv 1 := by decide +kernel
theorem d26_26 : dk cb26 26 (.iconst 3) 1 := by decide +kernel
theorem d26_27 : dk cb26 27 .imul 1 := by decide +kernel
theorem d26_28 : dk cb26 28 (.istore 7) 2 := by decide +kernel
theorem d26_30 : dk cb26 30 (.iload_n 2) 1 := by decide +kernel
theorem d26_31 : dk cb26 31 (.iload 7) 2 := by decide +kernel
theorem d26_33 : dk cb26 33 .iadd 1 := by decide +kernel
theorem d26_34 : dk cb26 34 (.istore 8) 2 := by decide +kernel
theorem d26_36 : dk cb26 36 (.aload_n 0) 1 := by decide +kernel
theorem d26_37 : dk cb26 37 (.getfield 17) 3 := by decide +kernel
theorem d26_40 : dk cb26 40 (.ifCond .le 26) 3 := by decide +kernel
theorem d26_66 : dk cb26 66 (.iconst 0) 1 := by decide +kernel
theorem d26_67 : dk cb26 67 (.istore 9) 2 := by decide +kernel
theorem d26_69 : dk cb26 69 (.iload 6) 2 := by decide +kernel
theorem d26_71 : dk cb26 71 (.iload 8) 2 := by decide +kernel
theorem d26_73 : dk cb26 73 (.if_icmp .ge 116) 3 := by decide +kernel
theorem d26_189 : dk cb26 189 (.iload 6) 2 := by decide +kernel
theorem d26_191 : dk cb26 191 (.iload_n 3) 1 := by decide +kernel
theorem d26_192 : dk cb26 192 (.if_icmp .ge 160) 3 := by decide +kernel
theorem d26_352 : dk cb26 352 (.iload 9) 2 := by decide +kernel
theorem d26_354 : dk cb26 354 .ireturn 1 := by decide +kernel
abbrev y5 : MethodName := (⟨"java/util/Base64$Encoder", "encode0", "([BII[B)I"⟩ : MethodName)
theorem ef_26_0 (m : MethodId) (x0 : Addr) (x1 : Addr) (x2 : Int32) (x3 : Int32) (x4 : Addr) : entryFrame m #[(.ref x0), (.ref x1), (.int x2), (.int x3), (.ref x4)] 16 = mkF m 0 #[.val (.ref x0), .val (.ref x1), .val (.int x2), .val (.int x3), .val (.ref x4), .unset, .unset, .unset, .unset, .unset, .unset, .unset, .unset, .unset, .unset, .unset] [] := by first | (simp [entryFrame, mkF, argsToLocals, Value.category]; done) | rfl
theorem rm11 (l : Launch) (Z : State) (a0 : Array Value) (hw : HW Z a0) (ws : List Jvm.Cond) (w_enc w_tb : Addr) (cs_v : Int32) (cl_tb : Cell) (wv_fm : Value) (hp : Perm Z w_enc w_tb cs_v cl_tb wv_fm) (a1 : Addr) (a2 : Addr) (h0 : Heap) (n0 : Nat) (O0 : Old Z n0 h0) :
    MF l y5 (Jvm.Cond.code y5 jdk_2452_method_10_code 16 (some .int) :: ws) ({ frames := 1, cells := 0, slots := 0, locals := 22 } : Room) Z #[(.ref w_enc), (.ref a1), (.int 0), (.int 0), (.ref a2)] h0 (fun v h L => v = some (.int 0) ∧ Fr n0 L ∧ h = h0) := by
  refine mfB (plainFor_of_name pn_23) hw fun p e s m below meth c s₁ Bd Kz X0 e0 => ?_
  obtain ⟨hx, hby, hml, hZ, hown, -⟩ := id Kz
  have qz := And.intro hx hby
  have N0 := Fr.nil n0
  obtain ⟨_, _, _, _, F_isURL_w_enc, F_linemax_w_enc, _, S_w_tb, _⟩ := id hp
  obtain ⟨T1, X1, e1, st1⟩ := gF X0 Kz 162 e0 (F_isURL_w_enc.ext O0.2) (mkF m 1 #[vr w_enc, vr a1, vi 0, vi 0, vr a2, uu, uu, uu, uu, uu, uu, uu, uu, uu, uu, uu] [(.ref w_enc)]) d26_1
  obtain ⟨T2, X2, e2, st2⟩ := getS2 X1 hx hZ hown (host := "") (Or.inl (wq hw 164 rfl)) Via.refl e1 (S_w_tb.ext O0.2) (g := (mkF m 13 #[vr w_enc, vr a1, vi 0, vi 0, vr a2, uu, uu, uu, uu, uu, uu, uu, uu, uu, uu, uu] [])) rfl (hb hby d26_13)
  obtain ⟨T3, X3, e3, st3⟩ := gF X2 Kz 155 e2 (F_linemax_w_enc.ext O0.2) (mkF m 37 #[vr w_enc, vr a1, vi 0, vi 0, vr a2, vr w_tb, vi 0, vi 0, vi 0, uu, uu, uu, uu, uu, uu, uu] [(.ref w_enc)]) d26_37
  refine mfE Bd X3 (some (.int 0)) e3 (fun h => by rw [Bd.returns] at h; cases h) (ef_26_0 m w_enc a1 (0 : Int32) (0 : Int32) a2) ⟨rfl, N0, rfl⟩ fun fs hr => ?_
  refine aln X0 qz d26_0 ?_
  refine st1 _ ?_
  refine ifY X1 qz 4 13 d26_4 (teq (by decide : (0 : Int32) = (0 : Int32))).1 ?_
  refine st2 _ ?_
  refine sta X2 qz d26_16 #[vr w_enc, vr a1, vi 0, vi 0, vr a2, vr w_tb, uu, uu, uu, uu, uu, uu, uu, uu, uu, uu] ?_
  refine iln X2 qz d26_18 ?_
  refine st X2 qz d26_19 #[vr w_enc, vr a1, vi 0, vi 0, vr a2, vr w_tb, vi 0, uu, uu, uu, uu, uu, uu, uu, uu, uu] ?_
  refine iln X2 qz d26_21 ?_
  refine iln X2 qz d26_22 ?_
  refine wib X2 qz d26_23 ?_
  refine stk (y := (.int 0)) rfl ?_
  refine ic X2 qz d26_24 ?_
  refine XS.idiv X2.here hx rfl (hb hby d26_25) rfl (by decide) ?_
  refine stk (y := (.int 0)) rfl ?_
  refine ic X2 qz d26_26 ?_
  refine wimul X2 qz d26_27 ?_
  refine stk (y := (.int 0)) rfl ?_
  refine st X2 qz d26_28 #[vr w_enc, vr a1, vi 0, vi 0, vr a2, vr w_tb, vi 0, vi 0, uu, uu, uu, uu, uu, uu, uu, uu] ?_
  refine iln X2 qz d26_30 ?_
  show Sp p e below T2 (mkF m 31 #[vr w_enc, vr a1, vi 0, vi 0, vr a2, vr w_tb, vi 0, vi 0, uu, uu, uu, uu, uu, uu, uu, uu] [(.int 0)]) _
  refine il X2 qz d26_31 ?_
  refine wia X2 qz d26_33 ?_
  refine stk (y := (.int 0)) rfl ?_
  refine st X2 qz d26_34 #[vr w_enc, vr a1, vi 0, vi 0, vr a2, vr w_tb, vi 0, vi 0, vi 0, uu, uu, uu, uu, uu, uu, uu] ?_
  refine aln X2 qz d26_36 ?_
  refine st3 _ ?_
  refine ifY X3 qz 40 66 d26_40 (flt (by decide : ¬ ((0 : Int32) < (-1 : Int32)))).2.2.2 ?_
  refine ic X3 qz d26_66 ?_
  refine st X3 qz d26_67 #[vr w_enc, vr a1, vi 0, vi 0, vr a2, vr w_tb, vi 0, vi 0, vi 0, vi 0, uu, uu, uu, uu, uu, uu] ?_
  refine il X3 qz d26_69 ?_
  refine il X3 qz d26_71 ?_
  refine icY X3 qz 73 189 d26_73 (flt (by decide : ¬ ((0 : Int32) < (0 : Int32)))).2.1 ?_
  refine il X3 qz d26_189 ?_
  refine iln X3 qz d26_191 ?_
  refine icY X3 qz 192 352 d26_192 (flt (by decide : ¬ ((0 : Int32) < (0 : Int32)))).2.1 ?_
  refine il X3 qz d26_352 ?_
  exact retI X3 hx Bd.returns (hb hby d26_354) hr
theorem d26_195 : dk cb26 195 (.aload_n 1) 1 := by decide +kernel
theorem d26_196 : dk cb26 196 (.iload 6) 2 := by decide +kernel
theorem d26_198 : dk cb26 198 (.iinc 6 1) 3 := by decide +kernel
theorem d26_201 : dk cb26 201 .baload 1 := by decide +kernel
theorem d26_202 : dk cb26 202 (.sipush 255) 3 := by decide +kernel
theorem d26_205 : dk cb26 205 .iand 1 := by decide +kernel
theorem d26_206 : dk cb26 206 (.istore 10) 2 := by decide +kernel
theorem d26_208 : dk cb26 208 (.aload 4) 2 := by decide +kernel
theorem d26_210 : dk cb26 210 (.iload 9) 2 := by decide +kernel
theorem d26_212 : dk cb26 212 (.iinc 9 1) 3 := by decide +kernel
theorem d26_215 : dk cb26 215 (.aload 5) 2 := by decide +kernel
theorem d26_217 : dk cb26 217 (.iload 10) 2 := by decide +kernel
theorem d26_219 : dk cb26 219 (.iconst 2) 1 := by decide +kernel
theorem d26_220 : dk cb26 220 .ishr 1 := by decide +kernel
theorem d26_221 : dk cb26 221 .caload 1 := by decide +kernel
abbrev fx3 (x0 : Int32) : Int32 := ((x0 &&& (255 : Int32)) >>> ((2 : Int32) &&& 31))
theorem d26_222 : dk cb26 222 .i2b 1 := by decide +kernel
theorem d26_223 : dk cb26 223 .bastore 1 := by decide +kernel
abbrev fx4 (x0 : Int32) : Int32 := ((tb64 ((x0 &&& (255 : Int32)) >>> ((2 : Int32) &&& 31))).toInt8.toInt32)
theorem d26_224 : dk cb26 224 (.iload 6) 2 := by decide +kernel
theorem d26_226 : dk cb26 226 (.iload_n 3) 1 := by decide +kernel
theorem d26_227 : dk cb26 227 (.if_icmp .ne 52) 3 := by decide +kernel
theorem d26_230 : dk cb26 230 (.aload 4) 2 := by decide +kernel
theorem d26_232 : dk cb26 232 (.iload 9) 2 := by decide +kernel
theorem d26_234 : dk cb26 234 (.iinc 9 1) 3 := by decide +kernel
theorem d26_237 : dk cb26 237 (.aload 5) 2 := by decide +kernel
theorem d26_239 : dk cb26 239 (.iload 10) 2 := by decide +kernel
theorem d26_241 : dk cb26 241 (.iconst 4) 1 := by decide +kernel
theorem d26_242 : dk cb26 242 .ishl 1 := by decide +kernel
theorem d26_243 : dk cb26 243 (.bipush 63) 2 := by decide +kernel
theorem d26_245 : dk cb26 245 .iand 1 := by decide +kernel
theorem d26_246 : dk cb26 246 .caload 1 := by decide +kernel
abbrev fx5 (x0 : Int32) : Int32 := (((x0 &&& (255 : Int32)) <<< ((4 : Int32) &&& 31)) &&& (63 : Int32))
theorem d26_247 : dk cb26 247 .i2b 1 := by decide +kernel
theorem d26_248 : dk cb26 248 .bastore 1 := by decide +kernel
abbrev fx6 (x0 : Int32) : Int32 := ((tb64 (((x0 &&& (255 : Int32)) <<< ((4 : Int32) &&& 31)) &&& (63 : Int32))).toInt8.toInt32)
theorem d26_249 : dk cb26 249 (.aload_n 0) 1 := by decide +kernel
theorem d26_250 : dk cb26 250 (.getfield 21) 3 := by decide +kernel
theorem d26_253 : dk cb26 253 (.ifCond .eq 99) 3 := by decide +kernel
theorem d26_256 : dk cb26 256 (.aload 4) 2 := by decide +kernel
theorem d26_258 : dk cb26 258 (.iload 9) 2 := by decide +kernel
theorem d26_260 : dk cb26 260 (.iinc 9 1) 3 := by decide +kernel
theorem d26_263 : dk cb26 263 (.bipush 61) 2 := by decide +kernel
theorem d26_265 : dk cb26 265 .bastore 1 := by decide +kernel
theorem d26_266 : dk cb26 266 (.aload 4) 2 := by decide +kernel
theorem d26_268 : dk cb26 268 (.iload 9) 2 := by decide +kernel
theorem d26_270 : dk cb26 270 (.iinc 9 1) 3 := by decide +kernel
theorem d26_273 : dk cb26 273 (.bipush 61) 2 := by decide +kernel
theorem d26_275 : dk cb26 275 .bastore 1 := by decide +kernel
theorem d26_276 : dk cb26 276 (.goto 76) 3 := by decide +kernel
abbrev fx7 (x0 : Int32) : Int32 := (nar .byte ((tb64 ((x0 &&& (255 : Int32)) >>> ((2 : Int32) &&& 31))).toInt8.toInt32))
abbrev fx8 (x0 : Int32) : Int32 := (nar .byte ((tb64 (((x0 &&& (255 : Int32)) <<< ((4 : Int32) &&& 31)) &&& (63 : Int32))).toInt8.toInt32))
theorem rm12 (l : Launch) (Z : State) (a0 : Array Value) (hw : HW Z a0) (ws : List Jvm.Cond) (w_enc w_tb : Addr) (cs_v : Int32) (cl_tb : Cell) (wv_fm : Value) (hp : Perm Z w_enc w_tb cs_v cl_tb wv_fm) (a1 : Addr) (a2 : Addr) (k_a1 : ClassId) (p4 : Int32) (k_a2 : ClassId) (h0 : Heap) (n0 : Nat) (O0 : Old Z n0 h0) (V_a1 : Arv Z h0 a1 k_a1 .byte (1 : Int32) [(.int p4)] (.int 0)) (V_a2 : Arv Z h0 a2 k_a2 .byte (4 : Int32) [(.int 0), (.int 0), (.int 0), (.int 0)] (.int 0)) (E_a2 : Exa Z h0 a2 "[B") (g_a2 : n0 ≤ a2) :
    MF l y5 (Jvm.Cond.code y5 jdk_2452_method_10_code 16 (some .int) :: ws) ({ frames := 1, cells := 0, slots := 0, locals := 22 } : Room) Z #[(.ref w_enc), (.ref a1), (.int 0), (.int 1), (.ref a2)] h0 (fun v h L => v = some (.int 4) ∧ Fr n0 L ∧ Keep h0 h [a2] ∧ Exa Z h a2 "[B" ∧ Arv Z h a2 k_a2 .byte (4 : Int32) [(.int (fx7 p4)), (.int (fx8 p4)), (.int 61), (.int 61)] (.int 0)) := by
  refine mfB (plainFor_of_name pn_23) hw fun p e s m below meth c s₁ Bd Kz X0 e0 => ?_
  obtain ⟨hx, hby, hml, hZ, hown, -⟩ := id Kz
  have qz := And.intro hx hby
  have N0 := Fr.nil n0
  obtain ⟨_, _, _, _, F_isURL_w_enc, F_linemax_w_enc, F_doPadding_w_enc, S_w_tb, B_tb, _⟩ := id hp
  obtain ⟨T1, X1, e1, st1⟩ := gF X0 Kz 162 e0 (F_isURL_w_enc.ext O0.2) (mkF m 1 #[vr w_enc, vr a1, vi 0, vi 1, vr a2, uu, uu, uu, uu, uu, uu, uu, uu, uu, uu, uu] [(.ref w_enc)]) d26_1
  obtain ⟨T2, X2, e2, st2⟩ := getS2 X1 hx hZ hown (host := "") (Or.inl (wq hw 164 rfl)) Via.refl e1 (S_w_tb.ext O0.2) (g := (mkF m 13 #[vr w_enc, vr a1, vi 0, vi 1, vr a2, uu, uu, uu, uu, uu, uu, uu, uu, uu, uu, uu] [])) rfl (hb hby d26_13)
  obtain ⟨T3, X3, e3, st3⟩ := gF X2 Kz 155 e2 (F_linemax_w_enc.ext O0.2) (mkF m 37 #[vr w_enc, vr a1, vi 0, vi 1, vr a2, vr w_tb, vi 0, vi 0, vi 0, uu, uu, uu, uu, uu, uu, uu] [(.ref w_enc)]) d26_37
  obtain ⟨T6, h6, X6, e6, W6, V_a2_6, st6⟩ := wB X3 Kz e3 V_a2 (0 : Int32) 0 (mkF m 223 #[vr w_enc, vr a1, vi 0, vi 1, vr a2, vr w_tb, vi 1, vi 0, vi 0, vi 1, .val (.int (p4 &&& (255 : Int32))), uu, uu, uu, uu, uu] [(.int (fx4 p4)), (.int 0), (.ref a2)]) d26_223
  have N6 := Fr.snoc X6 N0 g_a2
  have O6 := O0.wr W6 g_a2
  have K6 : Keep h0 h6 [a2] := (Keep.refl h0 [a2]).wr W6 (Or.inl (ma 0 rfl))
  obtain ⟨T9, h9, X9, e9, W9, V_a2_9, st9⟩ := wB X6 Kz e6 V_a2_6 (1 : Int32) 1 (mkF m 248 #[vr w_enc, vr a1, vi 0, vi 1, vr a2, vr w_tb, vi 1, vi 0, vi 0, vi 2, .val (.int (p4 &&& (255 : Int32))), uu, uu, uu, uu, uu] [(.int (fx6 p4)), (.int 1), (.ref a2)]) d26_248
  have N9 := Fr.snoc X9 N6 g_a2
  have O9 := O6.wr W9 g_a2
  have K9 : Keep h0 h9 [a2] := K6.wr W9 (Or.inl (ma 0 rfl))
  obtain ⟨T10, X10, e10, st10⟩ := gF X9 Kz 146 e9 (F_doPadding_w_enc.ext O9.2) (mkF m 250 #[vr w_enc, vr a1, vi 0, vi 1, vr a2, vr w_tb, vi 1, vi 0, vi 0, vi 2, .val (.int (p4 &&& (255 : Int32))), uu, uu, uu, uu, uu] [(.ref w_enc)]) d26_250
  obtain ⟨T12, h12, X12, e12, W12, V_a2_12, st12⟩ := wB X10 Kz e10 V_a2_9 (2 : Int32) 2 (mkF m 265 #[vr w_enc, vr a1, vi 0, vi 1, vr a2, vr w_tb, vi 1, vi 0, vi 0, vi 3, .val (.int (p4 &&& (255 : Int32))), uu, uu, uu, uu, uu] [(.int 61), (.int 2), (.ref a2)]) d26_265
  have N12 := Fr.snoc X12 N9 g_a2
  have K12 : Keep h0 h12 [a2] := K9.wr W12 (Or.inl (ma 0 rfl))
  obtain ⟨T14, h14, X14, e14, W14, V_a2_14, st14⟩ := wB X12 Kz e12 V_a2_12 (3 : Int32) 3 (mkF m 275 #[vr w_enc, vr a1, vi 0, vi 1, vr a2, vr w_tb, vi 1, vi 0, vi 0, vi 4, .val (.int (p4 &&& (255 : Int32))), uu, uu, uu, uu, uu] [(.int 61), (.int 3), (.ref a2)]) d26_275
  have N14 := Fr.snoc X14 N12 g_a2
  have K14 : Keep h0 h14 [a2] := K12.wr W14 (Or.inl (ma 0 rfl))
  refine mfE Bd X14 (some (.int 4)) e14 (fun h => by rw [Bd.returns] at h; cases h) (ef_26_0 m w_enc a1 (0 : Int32) (1 : Int32) a2) ⟨rfl, N14, K14, ((((E_a2.wr W6).wr W9).wr W12).wr W14), V_a2_14⟩ fun fs hr => ?_
  refine aln X0 qz d26_0 ?_
  refine st1 _ ?_
  refine ifY X1 qz 4 13 d26_4 (teq (by decide : (0 : Int32) = (0 : Int32))).1 ?_
  refine st2 _ ?_
  refine sta X2 qz d26_16 #[vr w_enc, vr a1, vi 0, vi 1, vr a2, vr w_tb, uu, uu, uu, uu, uu, uu, uu, uu, uu, uu] ?_
  refine iln X2 qz d26_18 ?_
  refine st X2 qz d26_19 #[vr w_enc, vr a1, vi 0, vi 1, vr a2, vr w_tb, vi 0, uu, uu, uu, uu, uu, uu, uu, uu, uu] ?_
  refine iln X2 qz d26_21 ?_
  refine iln X2 qz d26_22 ?_
  refine wib X2 qz d26_23 ?_
  refine stk (y := (.int 1)) rfl ?_
  refine ic X2 qz d26_24 ?_
  refine XS.idiv X2.here hx rfl (hb hby d26_25) rfl (by decide) ?_
  refine stk (y := (.int 0)) rfl ?_
  refine ic X2 qz d26_26 ?_
  refine wimul X2 qz d26_27 ?_
  refine stk (y := (.int 0)) rfl ?_
  refine st X2 qz d26_28 #[vr w_enc, vr a1, vi 0, vi 1, vr a2, vr w_tb, vi 0, vi 0, uu, uu, uu, uu, uu, uu, uu, uu] ?_
  refine iln X2 qz d26_30 ?_
  show Sp p e below T2 (mkF m 31 #[vr w_enc, vr a1, vi 0, vi 1, vr a2, vr w_tb, vi 0, vi 0, uu, uu, uu, uu, uu, uu, uu, uu] [(.int 0)]) _
  refine il X2 qz d26_31 ?_
  refine wia X2 qz d26_33 ?_
  refine stk (y := (.int 0)) rfl ?_
  refine st X2 qz d26_34 #[vr w_enc, vr a1, vi 0, vi 1, vr a2, vr w_tb, vi 0, vi 0, vi 0, uu, uu, uu, uu, uu, uu, uu] ?_
  refine aln X2 qz d26_36 ?_
  refine st3 _ ?_
  refine ifY X3 qz 40 66 d26_40 (flt (by decide : ¬ ((0 : Int32) < (-1 : Int32)))).2.2.2 ?_
  refine ic X3 qz d26_66 ?_
  refine st X3 qz d26_67 #[vr w_enc, vr a1, vi 0, vi 1, vr a2, vr w_tb, vi 0, vi 0, vi 0, vi 0, uu, uu, uu, uu, uu, uu] ?_
  refine il X3 qz d26_69 ?_
  refine il X3 qz d26_71 ?_
  refine icY X3 qz 73 189 d26_73 (flt (by decide : ¬ ((0 : Int32) < (0 : Int32)))).2.1 ?_
  refine il X3 qz d26_189 ?_
  refine iln X3 qz d26_191 ?_
  refine icN X3 qz d26_192 (tlt (by decide : (0 : Int32) < (1 : Int32))).2.1 ?_
  refine aln X3 qz d26_195 ?_
  refine il X3 qz d26_196 ?_
  show Sp p e below T3 (mkF m 198 #[vr w_enc, vr a1, vi 0, vi 1, vr a2, vr w_tb, vi 0, vi 0, vi 0, vi 0, uu, uu, uu, uu, uu, uu] [(.int 0), (.ref a1)]) _
  refine XS.iinc X3.here hx rfl (hb hby d26_198) rfl (l' := #[vr w_enc, vr a1, vi 0, vi 1, vr a2, vr w_tb, vi 1, vi 0, vi 0, vi 0, uu, uu, uu, uu, uu, uu]) rfl ?_
  refine rB X3 Kz e3 V_a1 d26_201 ?_
  refine sp X3 qz d26_202 ?_
  refine wiand X3 qz d26_205 ?_
  refine st X3 qz d26_206 #[vr w_enc, vr a1, vi 0, vi 1, vr a2, vr w_tb, vi 1, vi 0, vi 0, vi 0, .val (.int (p4 &&& (255 : Int32))), uu, uu, uu, uu, uu] ?_
  refine al X3 qz d26_208 ?_
  refine il X3 qz d26_210 ?_
  refine XS.iinc X3.here hx rfl (hb hby d26_212) rfl (l' := #[vr w_enc, vr a1, vi 0, vi 1, vr a2, vr w_tb, vi 1, vi 0, vi 0, vi 1, .val (.int (p4 &&& (255 : Int32))), uu, uu, uu, uu, uu]) rfl ?_
  refine al X3 qz d26_215 ?_
  refine il X3 qz d26_217 ?_
  refine ic X3 qz d26_219 ?_
  refine wishr X3 qz d26_220 ?_
  show Sp p e below T3 (mkF m 221 #[vr w_enc, vr a1, vi 0, vi 1, vr a2, vr w_tb, vi 1, vi 0, vi 0, vi 1, .val (.int (p4 &&& (255 : Int32))), uu, uu, uu, uu, uu] [(.int (fx3 p4)), (.ref w_tb), (.int 0), (.ref a2)]) _
  refine tbR X3 Kz e3 O0 B_tb (own_i2 p4) d26_221 ?_
  refine wib2 X3 qz d26_222 ?_
  refine st6 _ ?_
  refine il X6 qz d26_224 ?_
  refine iln X6 qz d26_226 ?_
  refine icN X6 qz d26_227 (teq (by decide : (1 : Int32) = (1 : Int32))).2 ?_
  refine al X6 qz d26_230 ?_
  refine il X6 qz d26_232 ?_
  refine XS.iinc X6.here hx rfl (hb hby d26_234) rfl (l' := #[vr w_enc, vr a1, vi 0, vi 1, vr a2, vr w_tb, vi 1, vi 0, vi 0, vi 2, .val (.int (p4 &&& (255 : Int32))), uu, uu, uu, uu, uu]) rfl ?_
  refine al X6 qz d26_237 ?_
  refine il X6 qz d26_239 ?_
  refine ic X6 qz d26_241 ?_
  refine wishl X6 qz d26_242 ?_
  refine bp X6 qz d26_243 ?_
  refine wiand X6 qz d26_245 ?_
  show Sp p e below T6 (mkF m 246 #[vr w_enc, vr a1, vi 0, vi 1, vr a2, vr w_tb, vi 1, vi 0, vi 0, vi 2, .val (.int (p4 &&& (255 : Int32))), uu, uu, uu, uu, uu] [(.int (fx5 p4)), (.ref w_tb), (.int 1), (.ref a2)]) _
  refine tbR X6 Kz e6 O6 B_tb (own_i63 ((p4 &&& (255 : Int32)) <<< ((4 : Int32) &&& 31))) d26_246 ?_
  refine wib2 X6 qz d26_247 ?_
  refine st9 _ ?_
  refine aln X9 qz d26_249 ?_
  refine st10 _ ?_
  refine ifN X10 qz d26_253 (feq (by decide : ¬ ((1 : Int32) = (0 : Int32)))).1 ?_
  refine al X10 qz d26_256 ?_
  refine il X10 qz d26_258 ?_
  refine XS.iinc X10.here hx rfl (hb hby d26_260) rfl (l' := #[vr w_enc, vr a1, vi 0, vi 1, vr a2, vr w_tb, vi 1, vi 0, vi 0, vi 3, .val (.int (p4 &&& (255 : Int32))), uu, uu, uu, uu, uu]) rfl ?_
  refine bp X10 qz d26_263 ?_
  refine st12 _ ?_
  refine al X12 qz d26_266 ?_
  refine il X12 qz d26_268 ?_
  refine XS.iinc X12.here hx rfl (hb hby d26_270) rfl (l' := #[vr w_enc, vr a1, vi 0, vi 1, vr a2, vr w_tb, vi 1, vi 0, vi 0, vi 4, .val (.int (p4 &&& (255 : Int32))), uu, uu, uu, uu, uu]) rfl ?_
  refine bp X12 qz d26_273 ?_
  refine st14 _ ?_
  show Sp p e below T14 (mkF m 276 #[vr w_enc, vr a1, vi 0, vi 1, vr a2, vr w_tb, vi 1, vi 0, vi 0, vi 4, .val (.int (p4 &&& (255 : Int32))), uu, uu, uu, uu, uu] []) _
  refine gt X14 qz 276 352 d26_276 ?_
  refine il X14 qz d26_352 ?_
  exact retI X14 hx Bd.returns (hb hby d26_354) hr
theorem d26_279 : dk cb26 279 (.aload_n 1) 1 := by decide +kernel
theorem d26_280 : dk cb26 280 (.iload 6) 2 := by decide +kernel
theorem d26_282 : dk cb26 282 (.iinc 6 1) 3 := by decide +kernel
theorem d26_285 : dk cb26 285 .baload 1 := by decide +kernel
theorem d26_286 : dk cb26 286 (.sipush 255) 3 := by decide +kernel
theorem d26_289 : dk cb26 289 .iand 1 := by decide +kernel
theorem d26_290 : dk cb26 290 (.istore 11) 2 := by decide +kernel
theorem d26_292 : dk cb26 292 (.aload 4) 2 := by decide +kernel
theorem d26_294 : dk cb26 294 (.iload 9) 2 := by decide +kernel
theorem d26_296 : dk cb26 296 (.iinc 9 1) 3 := by decide +kernel
theorem d26_299 : dk cb26 299 (.aload 5) 2 := by decide +kernel
theorem d26_301 : dk cb26 301 (.iload 10) 2 := by decide +kernel
theorem d26_303 : dk cb26 303 (.iconst 4) 1 := by decide +kernel
theorem d26_304 : dk cb26 304 .ishl 1 := by decide +kernel
theorem d26_305 : dk cb26 305 (.bipush 63) 2 := by decide +kernel
theorem d26_307 : dk cb26 307 .iand 1 := by decide +kernel
theorem d26_308 : dk cb26 308 (.iload 11) 2 := by decide +kernel
theorem d26_310 : dk cb26 310 (.iconst 4) 1 := by decide +kernel
theorem d26_311 : dk cb26 311 .ishr 1 := by decide +kernel
theorem d26_312 : dk cb26 312 .ior 1 := by decide +kernel
theorem d26_313 : dk cb26 313 .caload 1 := by decide +kernel
abbrev fx9 (x0 : Int32) (x1 : Int32) : Int32 := ((((x0 &&& (255 : Int32)) <<< ((4 : Int32) &&& 31)) &&& (63 : Int32)) ||| ((x1 &&& (255 : Int32)) >>> ((4 : Int32) &&& 31)))
theorem d26_314 : dk cb26 314 .i2b 1 := by decide +kernel
theorem d26_315 : dk cb26 315 .bastore 1 := by decide +kernel
abbrev fx10 (x0 : Int32) (x1 : Int32) : Int32 := ((tb64 ((((x0 &&& (255 : Int32)) <<< ((4 : Int32) &&& 31)) &&& (63 : Int32)) ||| ((x1 &&& (255 : Int32)) >>> ((4 : Int32) &&& 31)))).toInt8.toInt32)
theorem d26_316 : dk cb26 316 (.aload 4) 2 := by decide +kernel
theorem d26_318 : dk cb26 318 (.iload 9) 2 := by decide +kernel
theorem d26_320 : dk cb26 320 (.iinc 9 1) 3 := by decide +kernel
theorem d26_323 : dk cb26 323 (.aload 5) 2 := by decide +kernel
theorem d26_325 : dk cb26 325 (.iload 11) 2 := by decide +kernel
theorem d26_327 : dk cb26 327 (.iconst 2) 1 := by decide +kernel
theorem d26_328 : dk cb26 328 .ishl 1 := by decide +kernel
theorem d26_329 : dk cb26 329 (.bipush 63) 2 := by decide +kernel
theorem d26_331 : dk cb26 331 .iand 1 := by decide +kernel
theorem d26_332 : dk cb26 332 .caload 1 := by decide +kernel
abbrev fx11 (x0 : Int32) : Int32 := (((x0 &&& (255 : Int32)) <<< ((2 : Int32) &&& 31)) &&& (63 : Int32))
theorem d26_333 : dk cb26 333 .i2b 1 := by decide +kernel
theorem d26_334 : dk cb26 334 .bastore 1 := by decide +kernel
abbrev fx12 (x0 : Int32) : Int32 := ((tb64 (((x0 &&& (255 : Int32)) <<< ((2 : Int32) &&& 31)) &&& (63 : Int32))).toInt8.toInt32)
theorem d26_335 : dk cb26 335 (.aload_n 0) 1 := by decide +kernel
theorem d26_336 : dk cb26 336 (.getfield 21) 3 := by decide +kernel
theorem d26_339 : dk cb26 339 (.ifCond .eq 13) 3 := by decide +kernel
theorem d26_342 : dk cb26 342 (.aload 4) 2 := by decide +kernel
theorem d26_344 : dk cb26 344 (.iload 9) 2 := by decide +kernel
theorem d26_346 : dk cb26 346 (.iinc 9 1) 3 := by decide +kernel
theorem d26_349 : dk cb26 349 (.bipush 61) 2 := by decide +kernel
theorem d26_351 : dk cb26 351 .bastore 1 := by decide +kernel
abbrev fx13 (x0 : Int32) (x1 : Int32) : Int32 := (nar .byte ((tb64 ((((x0 &&& (255 : Int32)) <<< ((4 : Int32) &&& 31)) &&& (63 : Int32)) ||| ((x1 &&& (255 : Int32)) >>> ((4 : Int32) &&& 31)))).toInt8.toInt32))
abbrev fx14 (x0 : Int32) : Int32 := (nar .byte ((tb64 (((x0 &&& (255 : Int32)) <<< ((2 : Int32) &&& 31)) &&& (63 : Int32))).toInt8.toInt32))
theorem rm13 (l : Launch) (Z : State) (a0 : Array Value) (hw : HW Z a0) (ws : List Jvm.Cond) (w_enc w_tb : Addr) (cs_v : Int32) (cl_tb : Cell) (wv_fm : Value) (hp : Perm Z w_enc w_tb cs_v cl_tb wv_fm) (a1 : Addr) (a2 : Addr) (k_a1 : ClassId) (p4 : Int32) (p5 : Int32) (k_a2 : ClassId) (h0 : Heap) (n0 : Nat) (O0 : Old Z n0 h0) (V_a1 : Arv Z h0 a1 k_a1 .byte (2 : Int32) [(.int p4), (.int p5)] (.int 0)) (V_a2 : Arv Z h0 a2 k_a2 .byte (4 : Int32) [(.int 0), (.int 0), (.int 0), (.int 0)] (.int 0)) (E_a2 : Exa Z h0 a2 "[B") (g_a2 : n0 ≤ a2) (ne_a1_a2 : a1 ≠ a2) :
    MF l y5 (Jvm.Cond.code y5 jdk_2452_method_10_code 16 (some .int) :: ws) ({ frames := 1, cells := 0, slots := 0, locals := 22 } : Room) Z #[(.ref w_enc), (.ref a1), (.int 0), (.int 2), (.ref a2)] h0 (fun v h L => v = some (.int 4) ∧ Fr n0 L ∧ Keep h0 h [a2] ∧ Exa Z h a2 "[B" ∧ Arv Z h a2 k_a2 .byte (4 : Int32) [(.int (fx7 p4)), (.int (fx13 p4 p5)), (.int (fx14 p5)), (.int 61)] (.int 0)) := by
  refine mfB (plainFor_of_name pn_23) hw fun p e s m below meth c s₁ Bd Kz X0 e0 => ?_
  obtain ⟨hx, hby, hml, hZ, hown, -⟩ := id Kz
  have qz := And.intro hx hby
  have N0 := Fr.nil n0
  obtain ⟨_, _, _, _, F_isURL_w_enc, F_linemax_w_enc, F_doPadding_w_enc, S_w_tb, B_tb, _⟩ := id hp
  obtain ⟨T1, X1, e1, st1⟩ := gF X0 Kz 162 e0 (F_isURL_w_enc.ext O0.2) (mkF m 1 #[vr w_enc, vr a1, vi 0, vi 2, vr a2, uu, uu, uu, uu, uu, uu, uu, uu, uu, uu, uu] [(.ref w_enc)]) d26_1
  obtain ⟨T2, X2, e2, st2⟩ := getS2 X1 hx hZ hown (host := "") (Or.inl (wq hw 164 rfl)) Via.refl e1 (S_w_tb.ext O0.2) (g := (mkF m 13 #[vr w_enc, vr a1, vi 0, vi 2, vr a2, uu, uu, uu, uu, uu, uu, uu, uu, uu, uu, uu] [])) rfl (hb hby d26_13)
  obtain ⟨T3, X3, e3, st3⟩ := gF X2 Kz 155 e2 (F_linemax_w_enc.ext O0.2) (mkF m 37 #[vr w_enc, vr a1, vi 0, vi 2, vr a2, vr w_tb, vi 0, vi 0, vi 0, uu, uu, uu, uu, uu, uu, uu] [(.ref w_enc)]) d26_37
  obtain ⟨T6, h6, X6, e6, W6, V_a2_6, st6⟩ := wB X3 Kz e3 V_a2 (0 : Int32) 0 (mkF m 223 #[vr w_enc, vr a1, vi 0, vi 2, vr a2, vr w_tb, vi 1, vi 0, vi 0, vi 1, .val (.int (p4 &&& (255 : Int32))), uu, uu, uu, uu, uu] [(.int (fx4 p4)), (.int 0), (.ref a2)]) d26_223
  have N6 := Fr.snoc X6 N0 g_a2
  have O6 := O0.wr W6 g_a2
  have K6 : Keep h0 h6 [a2] := (Keep.refl h0 [a2]).wr W6 (Or.inl (ma 0 rfl))
  obtain ⟨T9, h9, X9, e9, W9, V_a2_9, st9⟩ := wB X6 Kz e6 V_a2_6 (1 : Int32) 1 (mkF m 315 #[vr w_enc, vr a1, vi 0, vi 2, vr a2, vr w_tb, vi 2, vi 0, vi 0, vi 2, .val (.int (p4 &&& (255 : Int32))), .val (.int (p5 &&& (255 : Int32))), uu, uu, uu, uu] [(.int (fx10 p4 p5)), (.int 1), (.ref a2)]) d26_315
  have N9 := Fr.snoc X9 N6 g_a2
  have O9 := O6.wr W9 g_a2
  have K9 : Keep h0 h9 [a2] := K6.wr W9 (Or.inl (ma 0 rfl))
  obtain ⟨T12, h12, X12, e12, W12, V_a2_12, st12⟩ := wB X9 Kz e9 V_a2_9 (2 : Int32) 2 (mkF m 334 #[vr w_enc, vr a1, vi 0, vi 2, vr a2, vr w_tb, vi 2, vi 0, vi 0, vi 3, .val (.int (p4 &&& (255 : Int32))), .val (.int (p5 &&& (255 : Int32))), uu, uu, uu, uu] [(.int (fx12 p5)), (.int 2), (.ref a2)]) d26_334
  have N12 := Fr.snoc X12 N9 g_a2
  have O12 := O9.wr W12 g_a2
  have K12 : Keep h0 h12 [a2] := K9.wr W12 (Or.inl (ma 0 rfl))
  obtain ⟨T13, X13, e13, st13⟩ := gF X12 Kz 146 e12 (F_doPadding_w_enc.ext O12.2) (mkF m 336 #[vr w_enc, vr a1, vi 0, vi 2, vr a2, vr w_tb, vi 2, vi 0, vi 0, vi 3, .val (.int (p4 &&& (255 : Int32))), .val (.int (p5 &&& (255 : Int32))), uu, uu, uu, uu] [(.ref w_enc)]) d26_336
  obtain ⟨T15, h15, X15, e15, W15, V_a2_15, st15⟩ := wB X13 Kz e13 V_a2_12 (3 : Int32) 3 (mkF m 351 #[vr w_enc, vr a1, vi 0, vi 2, vr a2, vr w_tb, vi 2, vi 0, vi 0, vi 4, .val (.int (p4 &&& (255 : Int32))), .val (.int (p5 &&& (255 : Int32))), uu, uu, uu, uu] [(.int 61), (.int 3), (.ref a2)]) d26_351
  have N15 := Fr.snoc X15 N12 g_a2
  have K15 : Keep h0 h15 [a2] := K12.wr W15 (Or.inl (ma 0 rfl))
  refine mfE Bd X15 (some (.int 4)) e15 (fun h => by rw [Bd.returns] at h; cases h) (ef_26_0 m w_enc a1 (0 : Int32) (2 : Int32) a2) ⟨rfl, N15, K15, ((((E_a2.wr W6).wr W9).wr W12).wr W15), V_a2_15⟩ fun fs hr => ?_
  refine aln X0 qz d26_0 ?_
  refine st1 _ ?_
  refine ifY X1 qz 4 13 d26_4 (teq (by decide : (0 : Int32) = (0 : Int32))).1 ?_
  refine st2 _ ?_
  refine sta X2 qz d26_16 #[vr w_enc, vr a1, vi 0, vi 2, vr a2, vr w_tb, uu, uu, uu, uu, uu, uu, uu, uu, uu, uu] ?_
  refine iln X2 qz d26_18 ?_
  refine st X2 qz d26_19 #[vr w_enc, vr a1, vi 0, vi 2, vr a2, vr w_tb, vi 0, uu, uu, uu, uu, uu, uu, uu, uu, uu] ?_
  refine iln X2 qz d26_21 ?_
  refine iln X2 qz d26_22 ?_
  refine wib X2 qz d26_23 ?_
  refine stk (y := (.int 2)) rfl ?_
  refine ic X2 qz d26_24 ?_
  refine XS.idiv X2.here hx rfl (hb hby d26_25) rfl (by decide) ?_
  refine stk (y := (.int 0)) rfl ?_
  refine ic X2 qz d26_26 ?_
  refine wimul X2 qz d26_27 ?_
  refine stk (y := (.int 0)) rfl ?_
  refine st X2 qz d26_28 #[vr w_enc, vr a1, vi 0, vi 2, vr a2, vr w_tb, vi 0, vi 0, uu, uu, uu, uu, uu, uu, uu, uu] ?_
  refine iln X2 qz d26_30 ?_
  show Sp p e below T2 (mkF m 31 #[vr w_enc, vr a1, vi 0, vi 2, vr a2, vr w_tb, vi 0, vi 0, uu, uu, uu, uu, uu, uu, uu, uu] [(.int 0)]) _
  refine il X2 qz d26_31 ?_
  refine wia X2 qz d26_33 ?_
  refine stk (y := (.int 0)) rfl ?_
  refine st X2 qz d26_34 #[vr w_enc, vr a1, vi 0, vi 2, vr a2, vr w_tb, vi 0, vi 0, vi 0, uu, uu, uu, uu, uu, uu, uu] ?_
  refine aln X2 qz d26_36 ?_
  refine st3 _ ?_
  refine ifY X3 qz 40 66 d26_40 (flt (by decide : ¬ ((0 : Int32) < (-1 : Int32)))).2.2.2 ?_
  refine ic X3 qz d26_66 ?_
  refine st X3 qz d26_67 #[vr w_enc, vr a1, vi 0, vi 2, vr a2, vr w_tb, vi 0, vi 0, vi 0, vi 0, uu, uu, uu, uu, uu, uu] ?_
  refine il X3 qz d26_69 ?_
  refine il X3 qz d26_71 ?_
  refine icY X3 qz 73 189 d26_73 (flt (by decide : ¬ ((0 : Int32) < (0 : Int32)))).2.1 ?_
  refine il X3 qz d26_189 ?_
  refine iln X3 qz d26_191 ?_
  refine icN X3 qz d26_192 (tlt (by decide : (0 : Int32) < (2 : Int32))).2.1 ?_
  refine aln X3 qz d26_195 ?_
  refine il X3 qz d26_196 ?_
  show Sp p e below T3 (mkF m 198 #[vr w_enc, vr a1, vi 0, vi 2, vr a2, vr w_tb, vi 0, vi 0, vi 0, vi 0, uu, uu, uu, uu, uu, uu] [(.int 0), (.ref a1)]) _
  refine XS.iinc X3.here hx rfl (hb hby d26_198) rfl (l' := #[vr w_enc, vr a1, vi 0, vi 2, vr a2, vr w_tb, vi 1, vi 0, vi 0, vi 0, uu, uu, uu, uu, uu, uu]) rfl ?_
  refine rB X3 Kz e3 V_a1 d26_201 ?_
  refine sp X3 qz d26_202 ?_
  refine wiand X3 qz d26_205 ?_
  refine st X3 qz d26_206 #[vr w_enc, vr a1, vi 0, vi 2, vr a2, vr w_tb, vi 1, vi 0, vi 0, vi 0, .val (.int (p4 &&& (255 : Int32))), uu, uu, uu, uu, uu] ?_
  refine al X3 qz d26_208 ?_
  refine il X3 qz d26_210 ?_
  refine XS.iinc X3.here hx rfl (hb hby d26_212) rfl (l' := #[vr w_enc, vr a1, vi 0, vi 2, vr a2, vr w_tb, vi 1, vi 0, vi 0, vi 1, .val (.int (p4 &&& (255 : Int32))), uu, uu, uu, uu, uu]) rfl ?_
  refine al X3 qz d26_215 ?_
  refine il X3 qz d26_217 ?_
  refine ic X3 qz d26_219 ?_
  refine wishr X3 qz d26_220 ?_
  show Sp p e below T3 (mkF m 221 #[vr w_enc, vr a1, vi 0, vi 2, vr a2, vr w_tb, vi 1, vi 0, vi 0, vi 1, .val (.int (p4 &&& (255 : Int32))), uu, uu, uu, uu, uu] [(.int (fx3 p4)), (.ref w_tb), (.int 0), (.ref a2)]) _
  refine tbR X3 Kz e3 O0 B_tb (own_i2 p4) d26_221 ?_
  refine wib2 X3 qz d26_222 ?_
  refine st6 _ ?_
  refine il X6 qz d26_224 ?_
  refine iln X6 qz d26_226 ?_
  refine icY X6 qz 227 279 d26_227 (feq (by decide : ¬ ((1 : Int32) = (2 : Int32)))).2 ?_
  refine aln X6 qz d26_279 ?_
  refine il X6 qz d26_280 ?_
  refine XS.iinc X6.here hx rfl (hb hby d26_282) rfl (l' := #[vr w_enc, vr a1, vi 0, vi 2, vr a2, vr w_tb, vi 2, vi 0, vi 0, vi 1, .val (.int (p4 &&& (255 : Int32))), uu, uu, uu, uu, uu]) rfl ?_
  refine rB X6 Kz e6 (V_a1.other W6 ne_a1_a2) d26_285 ?_
  refine sp X6 qz d26_286 ?_
  refine wiand X6 qz d26_289 ?_
  refine st X6 qz d26_290 #[vr w_enc, vr a1, vi 0, vi 2, vr a2, vr w_tb, vi 2, vi 0, vi 0, vi 1, .val (.int (p4 &&& (255 : Int32))), .val (.int (p5 &&& (255 : Int32))), uu, uu, uu, uu] ?_
  refine al X6 qz d26_292 ?_
  refine il X6 qz d26_294 ?_
  refine XS.iinc X6.here hx rfl (hb hby d26_296) rfl (l' := #[vr w_enc, vr a1, vi 0, vi 2, vr a2, vr w_tb, vi 2, vi 0, vi 0, vi 2, .val (.int (p4 &&& (255 : Int32))), .val (.int (p5 &&& (255 : Int32))), uu, uu, uu, uu]) rfl ?_
  show Sp p e below T6 (mkF m 299 #[vr w_enc, vr a1, vi 0, vi 2, vr a2, vr w_tb, vi 2, vi 0, vi 0, vi 2, .val (.int (p4 &&& (255 : Int32))), .val (.int (p5 &&& (255 : Int32))), uu, uu, uu, uu] [(.int 1), (.ref a2)]) _
  refine al X6 qz d26_299 ?_
  refine il X6 qz d26_301 ?_
  refine ic X6 qz d26_303 ?_
  refine wishl X6 qz d26_304 ?_
  refine bp X6 qz d26_305 ?_
  refine wiand X6 qz d26_307 ?_
  refine il X6 qz d26_308 ?_
  refine ic X6 qz d26_310 ?_
  refine wishr X6 qz d26_311 ?_
  refine wior X6 qz d26_312 ?_
  show Sp p e below T6 (mkF m 313 #[vr w_enc, vr a1, vi 0, vi 2, vr a2, vr w_tb, vi 2, vi 0, vi 0, vi 2, .val (.int (p4 &&& (255 : Int32))), .val (.int (p5 &&& (255 : Int32))), uu, uu, uu, uu] [(.int (fx9 p4 p5)), (.ref w_tb), (.int 1), (.ref a2)]) _
  refine tbR X6 Kz e6 O6 B_tb (own_i4 p4 p5) d26_313 ?_
  refine wib2 X6 qz d26_314 ?_
  refine st9 _ ?_
  refine al X9 qz d26_316 ?_
  refine il X9 qz d26_318 ?_
  refine XS.iinc X9.here hx rfl (hb hby d26_320) rfl (l' := #[vr w_enc, vr a1, vi 0, vi 2, vr a2, vr w_tb, vi 2, vi 0, vi 0, vi 3, .val (.int (p4 &&& (255 : Int32))), .val (.int (p5 &&& (255 : Int32))), uu, uu, uu, uu]) rfl ?_
  refine al X9 qz d26_323 ?_
  refine il X9 qz d26_325 ?_
  refine ic X9 qz d26_327 ?_
  refine wishl X9 qz d26_328 ?_
  refine bp X9 qz d26_329 ?_
  refine wiand X9 qz d26_331 ?_
  show Sp p e below T9 (mkF m 332 #[vr w_enc, vr a1, vi 0, vi 2, vr a2, vr w_tb, vi 2, vi 0, vi 0, vi 3, .val (.int (p4 &&& (255 : Int32))), .val (.int (p5 &&& (255 : Int32))), uu, uu, uu, uu] [(.int (fx11 p5)), (.ref w_tb), (.int 2), (.ref a2)]) _
  refine tbR X9 Kz e9 O9 B_tb (own_i63 ((p5 &&& (255 : Int32)) <<< ((2 : Int32) &&& 31))) d26_332 ?_
  refine wib2 X9 qz d26_333 ?_
  refine st12 _ ?_
  refine aln X12 qz d26_335 ?_
  refine st13 _ ?_
  refine ifN X13 qz d26_339 (feq (by decide : ¬ ((1 : Int32) = (0 : Int32)))).1 ?_
  refine al X13 qz d26_342 ?_
  refine il X13 qz d26_344 ?_
  refine XS.iinc X13.here hx rfl (hb hby d26_346) rfl (l' := #[vr w_enc, vr a1, vi 0, vi 2, vr a2, vr w_tb, vi 2, vi 0, vi 0, vi 4, .val (.int (p4 &&& (255 : Int32))), .val (.int (p5 &&& (255 : Int32))), uu, uu, uu, uu]) rfl ?_
  refine bp X13 qz d26_349 ?_
  refine st15 _ ?_
  refine il X15 qz d26_352 ?_
  exact retI X15 hx Bd.returns (hb hby d26_354) hr
theorem d26_76 : dk cb26 76 (.iload 6) 2 := by decide +kernel
theorem d26_78 : dk cb26 78 (.iload 7) 2 := by decide +kernel
theorem d26_80 : dk cb26 80 .iadd 1 := by decide +kernel
theorem d26_81 : dk cb26 81 (.iload 8) 2 := by decide +kernel
theorem d26_83 : dk cb26 83 (.invokestatic 124) 3 := by decide +kernel
abbrev cb35 : ByteArray := jdk_29_method_69_code
theorem d35_0 : dk cb35 0 (.iload_n 0) 1 := by decide +kernel
theorem d35_1 : dk cb35 1 (.iload_n 1) 1 := by decide +kernel
theorem d35_2 : dk cb35 2 (.if_icmp .gt 7) 3 := by decide +kernel
theorem d35_5 : dk cb35 5 (.iload_n 0) 1 := by decide +kernel
theorem d35_6 : dk cb35 6 (.goto 4) 3 := by decide +kernel
theorem d35_10 : dk cb35 10 .ireturn 1 := by decide +kernel
abbrev y6 : MethodName := (⟨"java/lang/Math", "min", "(II)I"⟩ : MethodName)
theorem ef_35_0 (m : MethodId) (x0 : Int32) (x1 : Int32) : entryFrame m #[(.int x0), (.int x1)] 2 = mkF m 0 #[.val (.int x0), .val (.int x1)] [] := by first | (simp [entryFrame, mkF, argsToLocals, Value.category]; done) | rfl
theorem rm14 (l : Launch) (Z : State) (a0 : Array Value) (hw : HW Z a0) (ws : List Jvm.Cond) (w_enc w_tb : Addr) (cs_v : Int32) (cl_tb : Cell) (wv_fm : Value) (hp : Perm Z w_enc w_tb cs_v cl_tb wv_fm) (h0 : Heap) (n0 : Nat) (O0 : Old Z n0 h0) :
    MF l y6 (Jvm.Cond.code y6 jdk_29_method_69_code 2 (some .int) :: ws) ({ frames := 0, cells := 0, slots := 0, locals := 0 } : Room) Z #[(.int 3), (.int 3)] h0 (fun v h L => v = some (.int 3) ∧ Fr n0 L ∧ h = h0) := by
  refine mfB (Jvm.Free.JP.mathPlain rfl (by decide +kernel)) hw fun p e s m below meth c s₁ Bd Kz X0 e0 => ?_
  obtain ⟨hx, hby, hml, hZ, hown, -⟩ := id Kz
  have qz := And.intro hx hby
  have N0 := Fr.nil n0
  refine mfE Bd X0 (some (.int 3)) e0 (fun h => by rw [Bd.returns] at h; cases h) (ef_35_0 m (3 : Int32) (3 : Int32)) ⟨rfl, N0, rfl⟩ fun fs hr => ?_
  refine iln X0 qz d35_0 ?_
  refine iln X0 qz d35_1 ?_
  refine icN X0 qz d35_2 (flt (by decide : ¬ ((3 : Int32) < (3 : Int32)))).2.2.1 ?_
  refine iln X0 qz d35_5 ?_
  refine gt X0 qz 6 10 d35_6 ?_
  exact retI X0 hx Bd.returns (hb hby d35_10) hr
theorem d26_86 : dk cb26 86 (.istore 10) 2 := by decide +kernel
theorem d26_88 : dk cb26 88 (.aload_n 0) 1 := by decide +kernel
theorem d26_89 : dk cb26 89 (.aload_n 1) 1 := by decide +kernel
theorem d26_90 : dk cb26 90 (.iload 6) 2 := by decide +kernel
theorem d26_92 : dk cb26 92 (.iload 10) 2 := by decide +kernel
theorem d26_94 : dk cb26 94 (.aload 4) 2 := by decide +kernel
theorem d26_96 : dk cb26 96 (.iload 9) 2 := by decide +kernel
theorem d26_98 : dk cb26 98 (.aload_n 0) 1 := by decide +kernel
theorem d26_99 : dk cb26 99 (.getfield 7) 3 := by decide +kernel
theorem d26_102 : dk cb26 102 (.invokevirtual 127) 3 := by decide +kernel
abbrev cb54 : ByteArray := jdk_2452_method_9_code
theorem d54_0 : dk cb54 0 (.iload 6) 2 := by decide +kernel
theorem d54_2 : dk cb54 2 (.ifCond .eq 9) 3 := by decide +kernel
theorem d54_11 : dk cb54 11 (.getstatic 115) 3 := by decide +kernel
theorem d54_14 : dk cb54 14 (.astore 7) 2 := by decide +kernel
theorem d54_16 : dk cb54 16 (.iload_n 2) 1 := by decide +kernel
theorem d54_17 : dk cb54 17 (.istore 8) 2 := by decide +kernel
theorem d54_19 : dk cb54 19 (.iload 5) 2 := by decide +kernel
theorem d54_21 : dk cb54 21 (.istore 9) 2 := by decide +kernel
theorem d54_23 : dk cb54 23 (.iload 8) 2 := by decide +kernel
theorem d54_25 : dk cb54 25 (.iload_n 3) 1 := by decide +kernel
theorem d54_26 : dk cb54 26 (.if_icmp .ge 126) 3 := by decide +kernel
theorem d54_29 : dk cb54 29 (.aload_n 1) 1 := by decide +kernel
theorem d54_30 : dk cb54 30 (.iload 8) 2 := by decide +kernel
theorem d54_32 : dk cb54 32 (.iinc 8 1) 3 := by decide +kernel
theorem d54_35 : dk cb54 35 .baload 1 := by decide +kernel
theorem d54_36 : dk cb54 36 (.sipush 255) 3 := by decide +kernel
theorem d54_39 : dk cb54 39 .iand 1 := by decide +kernel
theorem d54_40 : dk cb54 40 (.bipush 16) 2 := by decide +kernel
theorem d54_42 : dk cb54 42 .ishl 1 := by decide +kernel
theorem d54_43 : dk cb54 43 (.aload_n 1) 1 := by decide +kernel
theorem d54_44 : dk cb54 44 (.iload 8) 2 := by decide +kernel
theorem d54_46 : dk cb54 46 (.iinc 8 1) 3 := by decide +kernel
theorem d54_49 : dk cb54 49 .baload 1 := by decide +kernel
abbrev fx15 (x0 : Int32) : Int32 := ((x0 &&& (255 : Int32)) <<< ((16 : Int32) &&& 31))
theorem d54_50 : dk cb54 50 (.sipush 255) 3 := by decide +kernel
theorem d54_53 : dk cb54 53 .iand 1 := by decide +kernel
theorem d54_54 : dk cb54 54 (.bipush 8) 2 := by decide +kernel
theorem d54_56 : dk cb54 56 .ishl 1 := by decide +kernel
theorem d54_57 : dk cb54 57 .ior 1 := by decide +kernel
theorem d54_58 : dk cb54 58 (.aload_n 1) 1 := by decide +kernel
theorem d54_59 : dk cb54 59 (.iload 8) 2 := by decide +kernel
theorem d54_61 : dk cb54 61 (.iinc 8 1) 3 := by decide +kernel
theorem d54_64 : dk cb54 64 .baload 1 := by decide +kernel
abbrev fx16 (x0 : Int32) (x1 : Int32) : Int32 := (((x0 &&& (255 : Int32)) <<< ((16 : Int32) &&& 31)) ||| ((x1 &&& (255 : Int32)) <<< ((8 : Int32) &&& 31)))
theorem d54_65 : dk cb54 65 (.sipush 255) 3 := by decide +kernel
theorem d54_68 : dk cb54 68 .iand 1 := by decide +kernel
theorem d54_69 : dk cb54 69 .ior 1 := by decide +kernel
theorem d54_70 : dk cb54 70 (.istore 10) 2 := by decide +kernel
abbrev fx17 (x0 : Int32) (x1 : Int32) (x2 : Int32) : Int32 := ((((x0 &&& (255 : Int32)) <<< ((16 : Int32) &&& 31)) ||| ((x1 &&& (255 : Int32)) <<< ((8 : Int32) &&& 31))) ||| (x2 &&& (255 : Int32)))
theorem d54_72 : dk cb54 72 (.aload 4) 2 := by decide +kernel
theorem d54_74 : dk cb54 74 (.iload 9) 2 := by decide +kernel
theorem d54_76 : dk cb54 76 (.iinc 9 1) 3 := by decide +kernel
theorem d54_79 : dk cb54 79 (.aload 7) 2 := by decide +kernel
theorem d54_81 : dk cb54 81 (.iload 10) 2 := by decide +kernel
theorem d54_83 : dk cb54 83 (.bipush 18) 2 := by decide +kernel
theorem d54_85 : dk cb54 85 .iushr 1 := by decide +kernel
theorem d54_86 : dk cb54 86 (.bipush 63) 2 := by decide +kernel
theorem d54_88 : dk cb54 88 .iand 1 := by decide +kernel
theorem d54_89 : dk cb54 89 .caload 1 := by decide +kernel
abbrev fx18 (x0 : Int32) (x1 : Int32) (x2 : Int32) : Int32 := (((((((x0 &&& (255 : Int32)) <<< ((16 : Int32) &&& 31)) ||| ((x1 &&& (255 : Int32)) <<< ((8 : Int32) &&& 31))) ||| (x2 &&& (255 : Int32))).toUInt32 >>> ((18 : Int32) &&& 31).toUInt32).toInt32) &&& (63 : Int32))
theorem d54_90 : dk cb54 90 .i2b 1 := by decide +kernel
theorem d54_91 : dk cb54 91 .bastore 1 := by decide +kernel
abbrev fx19 (x0 : Int32) (x1 : Int32) (x2 : Int32) : Int32 := ((tb64 (((((((x0 &&& (255 : Int32)) <<< ((16 : Int32) &&& 31)) ||| ((x1 &&& (255 : Int32)) <<< ((8 : Int32) &&& 31))) ||| (x2 &&& (255 : Int32))).toUInt32 >>> ((18 : Int32) &&& 31).toUInt32).toInt32) &&& (63 : Int32))).toInt8.toInt32)
theorem d54_92 : dk cb54 92 (.aload 4) 2 := by decide +kernel
theorem d54_94 : dk cb54 94 (.iload 9) 2 := by decide +kernel
theorem d54_96 : dk cb54 96 (.iinc 9 1) 3 := by decide +kernel
theorem d54_99 : dk cb54 99 (.aload 7) 2 := by decide +kernel
theorem d54_101 : dk cb54 101 (.iload 10) 2 := by decide +kernel
theorem d54_103 : dk cb54 103 (.bipush 12) 2 := by decide +kernel
theorem d54_105 : dk cb54 105 .iushr 1 := by decide +kernel
theorem d54_106 : dk cb54 106 (.bipush 63) 2 := by decide +kernel
theorem d54_108 : dk cb54 108 .iand 1 := by decide +kernel
theorem d54_109 : dk cb54 109 .caload 1 := by decide +kernel
abbrev fx20 (x0 : Int32) (x1 : Int32) (x2 : Int32) : Int32 := (((((((x0 &&& (255 : Int32)) <<< ((16 : Int32) &&& 31)) ||| ((x1 &&& (255 : Int32)) <<< ((8 : Int32) &&& 31))) ||| (x2 &&& (255 : Int32))).toUInt32 >>> ((12 : Int32) &&& 31).toUInt32).toInt32) &&& (63 : Int32))
theorem d54_110 : dk cb54 110 .i2b 1 := by decide +kernel
theorem d54_111 : dk cb54 111 .bastore 1 := by decide +kernel
abbrev fx21 (x0 : Int32) (x1 : Int32) (x2 : Int32) : Int32 := ((tb64 (((((((x0 &&& (255 : Int32)) <<< ((16 : Int32) &&& 31)) ||| ((x1 &&& (255 : Int32)) <<< ((8 : Int32) &&& 31))) ||| (x2 &&& (255 : Int32))).toUInt32 >>> ((12 : Int32) &&& 31).toUInt32).toInt32) &&& (63 : Int32))).toInt8.toInt32)
theorem d54_112 : dk cb54 112 (.aload 4) 2 := by decide +kernel
theorem d54_114 : dk cb54 114 (.iload 9) 2 := by decide +kernel
theorem d54_116 : dk cb54 116 (.iinc 9 1) 3 := by decide +kernel
theorem d54_119 : dk cb54 119 (.aload 7) 2 := by decide +kernel
theorem d54_121 : dk cb54 121 (.iload 10) 2 := by decide +kernel
theorem d54_123 : dk cb54 123 (.bipush 6) 2 := by decide +kernel
theorem d54_125 : dk cb54 125 .iushr 1 := by decide +kernel
theorem d54_126 : dk cb54 126 (.bipush 63) 2 := by decide +kernel
theorem d54_128 : dk cb54 128 .iand 1 := by decide +kernel
theorem d54_129 : dk cb54 129 .caload 1 := by decide +kernel
abbrev fx22 (x0 : Int32) (x1 : Int32) (x2 : Int32) : Int32 := (((((((x0 &&& (255 : Int32)) <<< ((16 : Int32) &&& 31)) ||| ((x1 &&& (255 : Int32)) <<< ((8 : Int32) &&& 31))) ||| (x2 &&& (255 : Int32))).toUInt32 >>> ((6 : Int32) &&& 31).toUInt32).toInt32) &&& (63 : Int32))
theorem d54_130 : dk cb54 130 .i2b 1 := by decide +kernel
theorem d54_131 : dk cb54 131 .bastore 1 := by decide +kernel
abbrev fx23 (x0 : Int32) (x1 : Int32) (x2 : Int32) : Int32 := ((tb64 (((((((x0 &&& (255 : Int32)) <<< ((16 : Int32) &&& 31)) ||| ((x1 &&& (255 : Int32)) <<< ((8 : Int32) &&& 31))) ||| (x2 &&& (255 : Int32))).toUInt32 >>> ((6 : Int32) &&& 31).toUInt32).toInt32) &&& (63 : Int32))).toInt8.toInt32)
theorem d54_132 : dk cb54 132 (.aload 4) 2 := by decide +kernel
theorem d54_134 : dk cb54 134 (.iload 9) 2 := by decide +kernel
theorem d54_136 : dk cb54 136 (.iinc 9 1) 3 := by decide +kernel
theorem d54_139 : dk cb54 139 (.aload 7) 2 := by decide +kernel
theorem d54_141 : dk cb54 141 (.iload 10) 2 := by decide +kernel
theorem d54_143 : dk cb54 143 (.bipush 63) 2 := by decide +kernel
theorem d54_145 : dk cb54 145 .iand 1 := by decide +kernel
theorem d54_146 : dk cb54 146 .caload 1 := by decide +kernel
abbrev fx24 (x0 : Int32) (x1 : Int32) (x2 : Int32) : Int32 := (((((x0 &&& (255 : Int32)) <<< ((16 : Int32) &&& 31)) ||| ((x1 &&& (255 : Int32)) <<< ((8 : Int32) &&& 31))) ||| (x2 &&& (255 : Int32))) &&& (63 : Int32))
theorem d54_147 : dk cb54 147 .i2b 1 := by decide +kernel
theorem d54_148 : dk cb54 148 .bastore 1 := by decide +kernel
abbrev fx25 (x0 : Int32) (x1 : Int32) (x2 : Int32) : Int32 := ((tb64 (((((x0 &&& (255 : Int32)) <<< ((16 : Int32) &&& 31)) ||| ((x1 &&& (255 : Int32)) <<< ((8 : Int32) &&& 31))) ||| (x2 &&& (255 : Int32))) &&& (63 : Int32))).toInt8.toInt32)
theorem d54_149 : dk cb54 149 (.goto (-126)) 3 := by decide +kernel
theorem d54_152 : dk cb54 152 .return_ 1 := by decide +kernel
abbrev fx26 (x0 : Int32) (x1 : Int32) (x2 : Int32) : Int32 := (nar .byte ((tb64 (((((((x0 &&& (255 : Int32)) <<< ((16 : Int32) &&& 31)) ||| ((x1 &&& (255 : Int32)) <<< ((8 : Int32) &&& 31))) ||| (x2 &&& (255 : Int32))).toUInt32 >>> ((18 : Int32) &&& 31).toUInt32).toInt32) &&& (63 : Int32))).toInt8.toInt32))
abbrev fx27 (x0 : Int32) (x1 : Int32) (x2 : Int32) : Int32 := (nar .byte ((tb64 (((((((x0 &&& (255 : Int32)) <<< ((16 : Int32) &&& 31)) ||| ((x1 &&& (255 : Int32)) <<< ((8 : Int32) &&& 31))) ||| (x2 &&& (255 : Int32))).toUInt32 >>> ((12 : Int32) &&& 31).toUInt32).toInt32) &&& (63 : Int32))).toInt8.toInt32))
abbrev fx28 (x0 : Int32) (x1 : Int32) (x2 : Int32) : Int32 := (nar .byte ((tb64 (((((((x0 &&& (255 : Int32)) <<< ((16 : Int32) &&& 31)) ||| ((x1 &&& (255 : Int32)) <<< ((8 : Int32) &&& 31))) ||| (x2 &&& (255 : Int32))).toUInt32 >>> ((6 : Int32) &&& 31).toUInt32).toInt32) &&& (63 : Int32))).toInt8.toInt32))
abbrev fx29 (x0 : Int32) (x1 : Int32) (x2 : Int32) : Int32 := (nar .byte ((tb64 (((((x0 &&& (255 : Int32)) <<< ((16 : Int32) &&& 31)) ||| ((x1 &&& (255 : Int32)) <<< ((8 : Int32) &&& 31))) ||| (x2 &&& (255 : Int32))) &&& (63 : Int32))).toInt8.toInt32))
abbrev y7 : MethodName := (⟨"java/util/Base64$Encoder", "encodeBlock", "([BII[BIZ)V"⟩ : MethodName)
theorem ef_54_0 (m : MethodId) (x0 : Addr) (x1 : Addr) (x2 : Int32) (x3 : Int32) (x4 : Addr) (x5 : Int32) (x6 : Int32) : entryFrame m #[(.ref x0), (.ref x1), (.int x2), (.int x3), (.ref x4), (.int x5), (.int x6)] 11 = mkF m 0 #[.val (.ref x0), .val (.ref x1), .val (.int x2), .val (.int x3), .val (.ref x4), .val (.int x5), .val (.int x6), .unset, .unset, .unset, .unset] [] := by first | (simp [entryFrame, mkF, argsToLocals, Value.category]; done) | rfl
theorem rm15 (l : Launch) (Z : State) (a0 : Array Value) (hw : HW Z a0) (ws : List Jvm.Cond) (w_enc w_tb : Addr) (cs_v : Int32) (cl_tb : Cell) (wv_fm : Value) (hp : Perm Z w_enc w_tb cs_v cl_tb wv_fm) (a1 : Addr) (a2 : Addr) (k_a1 : ClassId) (p4 : Int32) (p5 : Int32) (p6 : Int32) (k_a2 : ClassId) (h0 : Heap) (n0 : Nat) (O0 : Old Z n0 h0) (V_a1 : Arv Z h0 a1 k_a1 .byte (3 : Int32) [(.int p4), (.int p5), (.int p6)] (.int 0)) (V_a2 : Arv Z h0 a2 k_a2 .byte (4 : Int32) [(.int 0), (.int 0), (.int 0), (.int 0)] (.int 0)) (E_a2 : Exa Z h0 a2 "[B") (g_a2 : n0 ≤ a2) :
    MF l y7 (Jvm.Cond.code y7 jdk_2452_method_9_code 11 none :: ws) ({ frames := 0, cells := 0, slots := 0, locals := 0 } : Room) Z #[(.ref w_enc), (.ref a1), (.int 0), (.int 3), (.ref a2), (.int 0), (.int 0)] h0 (fun v h L => v = none ∧ Fr n0 L ∧ Keep h0 h [a2] ∧ Exa Z h a2 "[B" ∧ Arv Z h a2 k_a2 .byte (4 : Int32) [(.int (fx26 p4 p5 p6)), (.int (fx27 p4 p5 p6)), (.int (fx28 p4 p5 p6)), (.int (fx29 p4 p5 p6))] (.int 0)) := by
  refine mfB (plainFor_of_name pn_23) hw fun p e s m below meth c s₁ Bd Kz X0 e0 => ?_
  obtain ⟨hx, hby, hml, hZ, hown, -⟩ := id Kz
  have qz := And.intro hx hby
  have N0 := Fr.nil n0
  obtain ⟨_, _, _, _, _, _, _, S_w_tb, B_tb, _⟩ := id hp
  obtain ⟨T1, X1, e1, st1⟩ := getS2 X0 hx hZ hown (host := "") (Or.inl (wq hw 164 rfl)) Via.refl e0 (S_w_tb.ext O0.2) (g := (mkF m 11 #[vr w_enc, vr a1, vi 0, vi 3, vr a2, vi 0, vi 0, uu, uu, uu, uu] [])) rfl (hb hby d54_11)
  obtain ⟨T4, h4, X4, e4, W4, V_a2_4, st4⟩ := wB X1 Kz e1 V_a2 (0 : Int32) 0 (mkF m 91 #[vr w_enc, vr a1, vi 0, vi 3, vr a2, vi 0, vi 0, vr w_tb, vi 3, vi 1, vi (fx17 p4 p5 p6)] [(.int (fx19 p4 p5 p6)), (.int 0), (.ref a2)]) d54_91
  have N4 := Fr.snoc X4 N0 g_a2
  have O4 := O0.wr W4 g_a2
  have K4 : Keep h0 h4 [a2] := (Keep.refl h0 [a2]).wr W4 (Or.inl (ma 0 rfl))
  obtain ⟨T7, h7, X7, e7, W7, V_a2_7, st7⟩ := wB X4 Kz e4 V_a2_4 (1 : Int32) 1 (mkF m 111 #[vr w_enc, vr a1, vi 0, vi 3, vr a2, vi 0, vi 0, vr w_tb, vi 3, vi 2, vi (fx17 p4 p5 p6)] [(.int (fx21 p4 p5 p6)), (.int 1), (.ref a2)]) d54_111
  have N7 := Fr.snoc X7 N4 g_a2
  have O7 := O4.wr W7 g_a2
  have K7 : Keep h0 h7 [a2] := K4.wr W7 (Or.inl (ma 0 rfl))
  obtain ⟨T10, h10, X10, e10, W10, V_a2_10, st10⟩ := wB X7 Kz e7 V_a2_7 (2 : Int32) 2 (mkF m 131 #[vr w_enc, vr a1, vi 0, vi 3, vr a2, vi 0, vi 0, vr w_tb, vi 3, vi 3, vi (fx17 p4 p5 p6)] [(.int (fx23 p4 p5 p6)), (.int 2), (.ref a2)]) d54_131
  have N10 := Fr.snoc X10 N7 g_a2
  have O10 := O7.wr W10 g_a2
  have K10 : Keep h0 h10 [a2] := K7.wr W10 (Or.inl (ma 0 rfl))
  obtain ⟨T13, h13, X13, e13, W13, V_a2_13, st13⟩ := wB X10 Kz e10 V_a2_10 (3 : Int32) 3 (mkF m 148 #[vr w_enc, vr a1, vi 0, vi 3, vr a2, vi 0, vi 0, vr w_tb, vi 3, vi 4, vi (fx17 p4 p5 p6)] [(.int (fx25 p4 p5 p6)), (.int 3), (.ref a2)]) d54_148
  have N13 := Fr.snoc X13 N10 g_a2
  have K13 : Keep h0 h13 [a2] := K10.wr W13 (Or.inl (ma 0 rfl))
  refine mfE Bd X13 (none) e13 (fun _ => rfl) (ef_54_0 m w_enc a1 (0 : Int32) (3 : Int32) a2 (0 : Int32) (0 : Int32)) ⟨rfl, N13, K13, ((((E_a2.wr W4).wr W7).wr W10).wr W13), V_a2_13⟩ fun fs hr => ?_
  refine il X0 qz d54_0 ?_
  refine ifY X0 qz 2 11 d54_2 (teq (by decide : (0 : Int32) = (0 : Int32))).1 ?_
  refine st1 _ ?_
  refine sta X1 qz d54_14 #[vr w_enc, vr a1, vi 0, vi 3, vr a2, vi 0, vi 0, vr w_tb, uu, uu, uu] ?_
  refine iln X1 qz d54_16 ?_
  refine st X1 qz d54_17 #[vr w_enc, vr a1, vi 0, vi 3, vr a2, vi 0, vi 0, vr w_tb, vi 0, uu, uu] ?_
  refine il X1 qz d54_19 ?_
  refine st X1 qz d54_21 #[vr w_enc, vr a1, vi 0, vi 3, vr a2, vi 0, vi 0, vr w_tb, vi 0, vi 0, uu] ?_
  refine il X1 qz d54_23 ?_
  refine iln X1 qz d54_25 ?_
  refine icN X1 qz d54_26 (tlt (by decide : (0 : Int32) < (3 : Int32))).2.1 ?_
  refine aln X1 qz d54_29 ?_
  refine il X1 qz d54_30 ?_
  refine XS.iinc X1.here hx rfl (hb hby d54_32) rfl (l' := #[vr w_enc, vr a1, vi 0, vi 3, vr a2, vi 0, vi 0, vr w_tb, vi 1, vi 0, uu]) rfl ?_
  refine rB X1 Kz e1 V_a1 d54_35 ?_
  refine sp X1 qz d54_36 ?_
  show Sp p e below T1 (mkF m 39 #[vr w_enc, vr a1, vi 0, vi 3, vr a2, vi 0, vi 0, vr w_tb, vi 1, vi 0, uu] [(.int 255), (.int p4)]) _
  refine wiand X1 qz d54_39 ?_
  refine bp X1 qz d54_40 ?_
  refine wishl X1 qz d54_42 ?_
  refine aln X1 qz d54_43 ?_
  refine il X1 qz d54_44 ?_
  refine XS.iinc X1.here hx rfl (hb hby d54_46) rfl (l' := #[vr w_enc, vr a1, vi 0, vi 3, vr a2, vi 0, vi 0, vr w_tb, vi 2, vi 0, uu]) rfl ?_
  refine rB X1 Kz e1 V_a1 d54_49 ?_
  refine sp X1 qz d54_50 ?_
  refine wiand X1 qz d54_53 ?_
  refine bp X1 qz d54_54 ?_
  refine wishl X1 qz d54_56 ?_
  refine wior X1 qz d54_57 ?_
  refine aln X1 qz d54_58 ?_
  refine il X1 qz d54_59 ?_
  refine XS.iinc X1.here hx rfl (hb hby d54_61) rfl (l' := #[vr w_enc, vr a1, vi 0, vi 3, vr a2, vi 0, vi 0, vr w_tb, vi 3, vi 0, uu]) rfl ?_
  refine rB X1 Kz e1 V_a1 d54_64 ?_
  show Sp p e below T1 (mkF m 65 #[vr w_enc, vr a1, vi 0, vi 3, vr a2, vi 0, vi 0, vr w_tb, vi 3, vi 0, uu] [(.int p6), (.int (fx16 p4 p5))]) _
  refine sp X1 qz d54_65 ?_
  refine wiand X1 qz d54_68 ?_
  refine wior X1 qz d54_69 ?_
  refine st X1 qz d54_70 #[vr w_enc, vr a1, vi 0, vi 3, vr a2, vi 0, vi 0, vr w_tb, vi 3, vi 0, vi (fx17 p4 p5 p6)] ?_
  refine al X1 qz d54_72 ?_
  refine il X1 qz d54_74 ?_
  refine XS.iinc X1.here hx rfl (hb hby d54_76) rfl (l' := #[vr w_enc, vr a1, vi 0, vi 3, vr a2, vi 0, vi 0, vr w_tb, vi 3, vi 1, vi (fx17 p4 p5 p6)]) rfl ?_
  refine al X1 qz d54_79 ?_
  refine il X1 qz d54_81 ?_
  refine bp X1 qz d54_83 ?_
  refine wiushr X1 qz d54_85 ?_
  refine bp X1 qz d54_86 ?_
  refine wiand X1 qz d54_88 ?_
  show Sp p e below T1 (mkF m 89 #[vr w_enc, vr a1, vi 0, vi 3, vr a2, vi 0, vi 0, vr w_tb, vi 3, vi 1, vi (fx17 p4 p5 p6)] [(.int (fx18 p4 p5 p6)), (.ref w_tb), (.int 0), (.ref a2)]) _
  refine tbR X1 Kz e1 O0 B_tb (own_i63 ((((((p4 &&& (255 : Int32)) <<< ((16 : Int32) &&& 31)) ||| ((p5 &&& (255 : Int32)) <<< ((8 : Int32) &&& 31))) ||| (p6 &&& (255 : Int32))).toUInt32 >>> ((18 : Int32) &&& 31).toUInt32).toInt32)) d54_89 ?_
  refine wib2 X1 qz d54_90 ?_
  refine st4 _ ?_
  refine al X4 qz d54_92 ?_
  refine il X4 qz d54_94 ?_
  refine XS.iinc X4.here hx rfl (hb hby d54_96) rfl (l' := #[vr w_enc, vr a1, vi 0, vi 3, vr a2, vi 0, vi 0, vr w_tb, vi 3, vi 2, vi (fx17 p4 p5 p6)]) rfl ?_
  refine al X4 qz d54_99 ?_
  refine il X4 qz d54_101 ?_
  refine bp X4 qz d54_103 ?_
  refine wiushr X4 qz d54_105 ?_
  refine bp X4 qz d54_106 ?_
  refine wiand X4 qz d54_108 ?_
  show Sp p e below T4 (mkF m 109 #[vr w_enc, vr a1, vi 0, vi 3, vr a2, vi 0, vi 0, vr w_tb, vi 3, vi 2, vi (fx17 p4 p5 p6)] [(.int (fx20 p4 p5 p6)), (.ref w_tb), (.int 1), (.ref a2)]) _
  refine tbR X4 Kz e4 O4 B_tb (own_i63 ((((((p4 &&& (255 : Int32)) <<< ((16 : Int32) &&& 31)) ||| ((p5 &&& (255 : Int32)) <<< ((8 : Int32) &&& 31))) ||| (p6 &&& (255 : Int32))).toUInt32 >>> ((12 : Int32) &&& 31).toUInt32).toInt32)) d54_109 ?_
  refine wib2 X4 qz d54_110 ?_
  refine st7 _ ?_
  refine al X7 qz d54_112 ?_
  refine il X7 qz d54_114 ?_
  refine XS.iinc X7.here hx rfl (hb hby d54_116) rfl (l' := #[vr w_enc, vr a1, vi 0, vi 3, vr a2, vi 0, vi 0, vr w_tb, vi 3, vi 3, vi (fx17 p4 p5 p6)]) rfl ?_
  refine al X7 qz d54_119 ?_
  refine il X7 qz d54_121 ?_
  refine bp X7 qz d54_123 ?_
  refine wiushr X7 qz d54_125 ?_
  refine bp X7 qz d54_126 ?_
  refine wiand X7 qz d54_128 ?_
  show Sp p e below T7 (mkF m 129 #[vr w_enc, vr a1, vi 0, vi 3, vr a2, vi 0, vi 0, vr w_tb, vi 3, vi 3, vi (fx17 p4 p5 p6)] [(.int (fx22 p4 p5 p6)), (.ref w_tb), (.int 2), (.ref a2)]) _
  refine tbR X7 Kz e7 O7 B_tb (own_i63 ((((((p4 &&& (255 : Int32)) <<< ((16 : Int32) &&& 31)) ||| ((p5 &&& (255 : Int32)) <<< ((8 : Int32) &&& 31))) ||| (p6 &&& (255 : Int32))).toUInt32 >>> ((6 : Int32) &&& 31).toUInt32).toInt32)) d54_129 ?_
  refine wib2 X7 qz d54_130 ?_
  refine st10 _ ?_
  refine al X10 qz d54_132 ?_
  refine il X10 qz d54_134 ?_
  refine XS.iinc X10.here hx rfl (hb hby d54_136) rfl (l' := #[vr w_enc, vr a1, vi 0, vi 3, vr a2, vi 0, vi 0, vr w_tb, vi 3, vi 4, vi (fx17 p4 p5 p6)]) rfl ?_
  refine al X10 qz d54_139 ?_
  refine il X10 qz d54_141 ?_
  refine bp X10 qz d54_143 ?_
  refine wiand X10 qz d54_145 ?_
  show Sp p e below T10 (mkF m 146 #[vr w_enc, vr a1, vi 0, vi 3, vr a2, vi 0, vi 0, vr w_tb, vi 3, vi 4, vi (fx17 p4 p5 p6)] [(.int (fx24 p4 p5 p6)), (.ref w_tb), (.int 3), (.ref a2)]) _
  refine tbR X10 Kz e10 O10 B_tb (own_i63 ((((p4 &&& (255 : Int32)) <<< ((16 : Int32) &&& 31)) ||| ((p5 &&& (255 : Int32)) <<< ((8 : Int32) &&& 31))) ||| (p6 &&& (255 : Int32)))) d54_146 ?_
  refine wib2 X10 qz d54_147 ?_
  refine st13 _ ?_
  refine gt X13 qz 149 23 d54_149 ?_
  refine il X13 qz d54_23 ?_
  refine iln X13 qz d54_25 ?_
  refine icY X13 qz 26 152 d54_26 (flt (by decide : ¬ ((3 : Int32) < (3 : Int32)))).2.1 ?_
  exact X13.returnOut hx Bd.returns (hb hby d54_152) hr
theorem pd_1 : parseMethodDescriptor "([BII[BIZ)V" = some ⟨[(.array .byte), .int, .int, (.array .byte), .int, .boolean], none⟩ := by decide +kernel
theorem d26_105 : dk cb26 105 (.iload 10) 2 := by decide +kernel
theorem d26_107 : dk cb26 107 (.iload 6) 2 := by decide +kernel
theorem d26_109 : dk cb26 109 .isub 1 := by decide +kernel
theorem d26_110 : dk cb26 110 (.iconst 3) 1 := by decide +kernel
theorem d26_111 : dk cb26 111 .idiv 1 := by decide +kernel
theorem d26_112 : dk cb26 112 (.iconst 4) 1 := by decide +kernel
theorem d26_113 : dk cb26 113 .imul 1 := by decide +kernel
theorem d26_114 : dk cb26 114 (.istore 11) 2 := by decide +kernel
theorem d26_116 : dk cb26 116 (.iload 9) 2 := by decide +kernel
theorem d26_118 : dk cb26 118 (.iload 11) 2 := by decide +kernel
theorem d26_120 : dk cb26 120 .iadd 1 := by decide +kernel
theorem d26_121 : dk cb26 121 (.istore 9) 2 := by decide +kernel
theorem d26_123 : dk cb26 123 (.iload 10) 2 := by decide +kernel
theorem d26_125 : dk cb26 125 (.istore 6) 2 := by decide +kernel
theorem d26_127 : dk cb26 127 (.iload 11) 2 := by decide +kernel
theorem d26_129 : dk cb26 129 (.aload_n 0) 1 := by decide +kernel
theorem d26_130 : dk cb26 130 (.getfield 17) 3 := by decide +kernel
theorem d26_133 : dk cb26 133 (.if_icmp .ne 53) 3 := by decide +kernel
theorem d26_186 : dk cb26 186 (.goto (-117)) 3 := by decide +kernel
theorem rm16 (l : Launch) (Z : State) (a0 : Array Value) (hw : HW Z a0) (ws : List Jvm.Cond) (w_enc w_tb : Addr) (cs_v : Int32) (cl_tb : Cell) (wv_fm : Value) (hp : Perm Z w_enc w_tb cs_v cl_tb wv_fm) (a1 : Addr) (a2 : Addr) (k_a1 : ClassId) (p4 : Int32) (p5 : Int32) (p6 : Int32) (k_a2 : ClassId) (h0 : Heap) (n0 : Nat) (O0 : Old Z n0 h0) (V_a1 : Arv Z h0 a1 k_a1 .byte (3 : Int32) [(.int p4), (.int p5), (.int p6)] (.int 0)) (V_a2 : Arv Z h0 a2 k_a2 .byte (4 : Int32) [(.int 0), (.int 0), (.int 0), (.int 0)] (.int 0)) (E_a2 : Exa Z h0 a2 "[B") (g_a2 : n0 ≤ a2) :
    MF l y5 (Jvm.Cond.code y5 jdk_2452_method_10_code 16 (some .int) :: ws) ({ frames := 1, cells := 0, slots := 0, locals := 22 } : Room) Z #[(.ref w_enc), (.ref a1), (.int 0), (.int 3), (.ref a2)] h0 (fun v h L => v = some (.int 4) ∧ Fr n0 L ∧ Keep h0 h [a2] ∧ Exa Z h a2 "[B" ∧ Arv Z h a2 k_a2 .byte (4 : Int32) [(.int (fx26 p4 p5 p6)), (.int (fx27 p4 p5 p6)), (.int (fx28 p4 p5 p6)), (.int (fx29 p4 p5 p6))] (.int 0)) := by
  refine mfB (plainFor_of_name pn_23) hw fun p e s m below meth c s₁ Bd Kz X0 e0 => ?_
  obtain ⟨hx, hby, hml, hZ, hown, -⟩ := id Kz
  have qz := And.intro hx hby
  have N0 := Fr.nil n0
  obtain ⟨_, _, _, E_w_enc, F_isURL_w_enc, F_linemax_w_enc, _, S_w_tb, _⟩ := id hp
  obtain ⟨T1, X1, e1, st1⟩ := gF X0 Kz 162 e0 (F_isURL_w_enc.ext O0.2) (mkF m 1 #[vr w_enc, vr a1, vi 0, vi 3, vr a2, uu, uu, uu, uu, uu, uu, uu, uu, uu, uu, uu] [(.ref w_enc)]) d26_1
  obtain ⟨T2, X2, e2, st2⟩ := getS2 X1 hx hZ hown (host := "") (Or.inl (wq hw 164 rfl)) Via.refl e1 (S_w_tb.ext O0.2) (g := (mkF m 13 #[vr w_enc, vr a1, vi 0, vi 3, vr a2, uu, uu, uu, uu, uu, uu, uu, uu, uu, uu, uu] [])) rfl (hb hby d26_13)
  obtain ⟨T3, X3, e3, st3⟩ := gF X2 Kz 155 e2 (F_linemax_w_enc.ext O0.2) (mkF m 37 #[vr w_enc, vr a1, vi 0, vi 3, vr a2, vr w_tb, vi 0, vi 3, vi 3, uu, uu, uu, uu, uu, uu, uu] [(.ref w_enc)]) d26_37
  obtain ⟨_, T4, Lc4, X4, hQ4, st4⟩ := cS X3 Kz y6 0 281 209 150 210 (rm14 l Z a0 hw [] w_enc w_tb cs_v cl_tb wv_fm hp h0 n0 O0) e3 (mkF m 83 #[vr w_enc, vr a1, vi 0, vi 3, vr a2, vr w_tb, vi 0, vi 3, vi 3, vi 0, uu, uu, uu, uu, uu, uu] [(.int 3), (.int 3)]) [(.int 3), (.int 3)] [] pd_0 d26_83
  obtain ⟨rfl, Nq4, eq4⟩ := hQ4
  have N4 := Fr.app N0 Nq4
  obtain ⟨T5, X5, e5, st5⟩ := gF X4 Kz 162 eq4 (F_isURL_w_enc.ext O0.2) (mkF m 99 #[vr w_enc, vr a1, vi 0, vi 3, vr a2, vr w_tb, vi 0, vi 3, vi 3, vi 0, vi 3, uu, uu, uu, uu, uu] [(.ref w_enc), (.int 0), (.ref a2), (.int 3), (.int 0), (.ref a1), (.ref w_enc)]) d26_99
  obtain ⟨_, T6, Lc6, X6, hQ6, st6⟩ := pB X5 Kz y7 0 282 283 285 284 286 130 (rm15 l Z a0 hw [] w_enc w_tb cs_v cl_tb wv_fm hp a1 a2 k_a1 p4 p5 p6 k_a2 h0 n0 O0 V_a1 V_a2 E_a2 g_a2) e5 (E_w_enc.ext O0.2) (mkF m 102 #[vr w_enc, vr a1, vi 0, vi 3, vr a2, vr w_tb, vi 0, vi 3, vi 3, vi 0, vi 3, uu, uu, uu, uu, uu] [(.int 0), (.int 0), (.ref a2), (.int 3), (.int 0), (.ref a1), (.ref w_enc)]) [(.ref a1), (.int 0), (.int 3), (.ref a2), (.int 0), (.int 0)] [] pd_1 d26_102
  obtain ⟨rfl, Nq6, Kq6, fq6_0, fq6_1⟩ := hQ6
  have N6 := Fr.app N4 Nq6
  have O6 := O0.keep Kq6 (allS g_a2 all0)
  have K6 : Keep h0 T6.heap [a2] := (Keep.refl h0 [a2]).trans Kq6 (allS (Or.inl (ma 0 rfl)) all0)
  obtain ⟨T7, X7, e7, st7⟩ := gF X6 Kz 155 rfl (F_linemax_w_enc.ext O6.2) (mkF m 130 #[vr w_enc, vr a1, vi 0, vi 3, vr a2, vr w_tb, vi 3, vi 3, vi 3, vi 4, vi 3, vi 4, uu, uu, uu, uu] [(.ref w_enc), (.int 4)]) d26_130
  refine mfE Bd X7 (some (.int 4)) e7 (fun h => by rw [Bd.returns] at h; cases h) (ef_26_0 m w_enc a1 (0 : Int32) (3 : Int32) a2) ⟨rfl, N6, K6, fq6_0, fq6_1⟩ fun fs hr => ?_
  refine aln X0 qz d26_0 ?_
  refine st1 _ ?_
  refine ifY X1 qz 4 13 d26_4 (teq (by decide : (0 : Int32) = (0 : Int32))).1 ?_
  refine st2 _ ?_
  refine sta X2 qz d26_16 #[vr w_enc, vr a1, vi 0, vi 3, vr a2, vr w_tb, uu, uu, uu, uu, uu, uu, uu, uu, uu, uu] ?_
  refine iln X2 qz d26_18 ?_
  refine st X2 qz d26_19 #[vr w_enc, vr a1, vi 0, vi 3, vr a2, vr w_tb, vi 0, uu, uu, uu, uu, uu, uu, uu, uu, uu] ?_
  refine iln X2 qz d26_21 ?_
  refine iln X2 qz d26_22 ?_
  refine wib X2 qz d26_23 ?_
  refine stk (y := (.int 3)) rfl ?_
  refine ic X2 qz d26_24 ?_
  refine XS.idiv X2.here hx rfl (hb hby d26_25) rfl (by decide) ?_
  refine stk (y := (.int 1)) rfl ?_
  refine ic X2 qz d26_26 ?_
  refine wimul X2 qz d26_27 ?_
  refine stk (y := (.int 3)) rfl ?_
  refine st X2 qz d26_28 #[vr w_enc, vr a1, vi 0, vi 3, vr a2, vr w_tb, vi 0, vi 3, uu, uu, uu, uu, uu, uu, uu, uu] ?_
  refine iln X2 qz d26_30 ?_
  show Sp p e below T2 (mkF m 31 #[vr w_enc, vr a1, vi 0, vi 3, vr a2, vr w_tb, vi 0, vi 3, uu, uu, uu, uu, uu, uu, uu, uu] [(.int 0)]) _
  refine il X2 qz d26_31 ?_
  refine wia X2 qz d26_33 ?_
  refine stk (y := (.int 3)) rfl ?_
  refine st X2 qz d26_34 #[vr w_enc, vr a1, vi 0, vi 3, vr a2, vr w_tb, vi 0, vi 3, vi 3, uu, uu, uu, uu, uu, uu, uu] ?_
  refine aln X2 qz d26_36 ?_
  refine st3 _ ?_
  refine ifY X3 qz 40 66 d26_40 (flt (by decide : ¬ ((0 : Int32) < (-1 : Int32)))).2.2.2 ?_
  refine ic X3 qz d26_66 ?_
  refine st X3 qz d26_67 #[vr w_enc, vr a1, vi 0, vi 3, vr a2, vr w_tb, vi 0, vi 3, vi 3, vi 0, uu, uu, uu, uu, uu, uu] ?_
  refine il X3 qz d26_69 ?_
  refine il X3 qz d26_71 ?_
  refine icN X3 qz d26_73 (tlt (by decide : (0 : Int32) < (3 : Int32))).2.1 ?_
  refine il X3 qz d26_76 ?_
  refine il X3 qz d26_78 ?_
  refine wia X3 qz d26_80 ?_
  refine stk (y := (.int 3)) rfl ?_
  refine il X3 qz d26_81 ?_
  refine st4 _ ?_
  show Sp p e below T4 (mkF m 86 #[vr w_enc, vr a1, vi 0, vi 3, vr a2, vr w_tb, vi 0, vi 3, vi 3, vi 0, uu, uu, uu, uu, uu, uu] [(.int 3)]) _
  refine st X4 qz d26_86 #[vr w_enc, vr a1, vi 0, vi 3, vr a2, vr w_tb, vi 0, vi 3, vi 3, vi 0, vi 3, uu, uu, uu, uu, uu] ?_
  refine aln X4 qz d26_88 ?_
  refine aln X4 qz d26_89 ?_
  refine il X4 qz d26_90 ?_
  refine il X4 qz d26_92 ?_
  refine al X4 qz d26_94 ?_
  refine il X4 qz d26_96 ?_
  refine aln X4 qz d26_98 ?_
  refine st5 _ ?_
  refine st6.trans ?_
  refine il X6 qz d26_105 ?_
  refine il X6 qz d26_107 ?_
  refine wib X6 qz d26_109 ?_
  refine stk (y := (.int 3)) rfl ?_
  refine ic X6 qz d26_110 ?_
  refine XS.idiv X6.here hx rfl (hb hby d26_111) rfl (by decide) ?_
  refine stk (y := (.int 1)) rfl ?_
  refine ic X6 qz d26_112 ?_
  show Sp p e below T6 (mkF m 113 #[vr w_enc, vr a1, vi 0, vi 3, vr a2, vr w_tb, vi 0, vi 3, vi 3, vi 0, vi 3, uu, uu, uu, uu, uu] [(.int 4), (.int 1)]) _
  refine wimul X6 qz d26_113 ?_
  refine stk (y := (.int 4)) rfl ?_
  refine st X6 qz d26_114 #[vr w_enc, vr a1, vi 0, vi 3, vr a2, vr w_tb, vi 0, vi 3, vi 3, vi 0, vi 3, vi 4, uu, uu, uu, uu] ?_
  refine il X6 qz d26_116 ?_
  refine il X6 qz d26_118 ?_
  refine wia X6 qz d26_120 ?_
  refine stk (y := (.int 4)) rfl ?_
  refine st X6 qz d26_121 #[vr w_enc, vr a1, vi 0, vi 3, vr a2, vr w_tb, vi 0, vi 3, vi 3, vi 4, vi 3, vi 4, uu, uu, uu, uu] ?_
  refine il X6 qz d26_123 ?_
  refine st X6 qz d26_125 #[vr w_enc, vr a1, vi 0, vi 3, vr a2, vr w_tb, vi 3, vi 3, vi 3, vi 4, vi 3, vi 4, uu, uu, uu, uu] ?_
  refine il X6 qz d26_127 ?_
  refine aln X6 qz d26_129 ?_
  refine st7 _ ?_
  refine icY X7 qz 133 186 d26_133 (feq (by decide : ¬ ((4 : Int32) = (-1 : Int32)))).2 ?_
  refine gt X7 qz 186 69 d26_186 ?_
  refine il X7 qz d26_69 ?_
  refine il X7 qz d26_71 ?_
  refine icY X7 qz 73 189 d26_73 (flt (by decide : ¬ ((3 : Int32) < (3 : Int32)))).2.1 ?_
  show Sp p e below T7 (mkF m 189 #[vr w_enc, vr a1, vi 0, vi 3, vr a2, vr w_tb, vi 3, vi 3, vi 3, vi 4, vi 3, vi 4, uu, uu, uu, uu] []) _
  refine il X7 qz d26_189 ?_
  refine iln X7 qz d26_191 ?_
  refine icY X7 qz 192 352 d26_192 (flt (by decide : ¬ ((3 : Int32) < (3 : Int32)))).2.1 ?_
  refine il X7 qz d26_352 ?_
  exact retI X7 hx Bd.returns (hb hby d26_354) hr
theorem rm17 (l : Launch) (Z : State) (a0 : Array Value) (hw : HW Z a0) (ws : List Jvm.Cond) (w_enc w_tb : Addr) (cs_v : Int32) (cl_tb : Cell) (wv_fm : Value) (hp : Perm Z w_enc w_tb cs_v cl_tb wv_fm) (a1 : Addr) (a2 : Addr) (k_a1 : ClassId) (p4 : Int32) (p5 : Int32) (p6 : Int32) (p7 : Int32) (k_a2 : ClassId) (h0 : Heap) (n0 : Nat) (O0 : Old Z n0 h0) (V_a1 : Arv Z h0 a1 k_a1 .byte (4 : Int32) [(.int p4), (.int p5), (.int p6), (.int p7)] (.int 0)) (V_a2 : Arv Z h0 a2 k_a2 .byte (8 : Int32) [(.int 0), (.int 0), (.int 0), (.int 0), (.int 0), (.int 0), (.int 0), (.int 0)] (.int 0)) (E_a2 : Exa Z h0 a2 "[B") (g_a2 : n0 ≤ a2) :
    MF l y7 (Jvm.Cond.code y7 jdk_2452_method_9_code 11 none :: ws) ({ frames := 0, cells := 0, slots := 0, locals := 0 } : Room) Z #[(.ref w_enc), (.ref a1), (.int 0), (.int 3), (.ref a2), (.int 0), (.int 0)] h0 (fun v h L => v = none ∧ Fr n0 L ∧ Keep h0 h [a2] ∧ Exa Z h a2 "[B" ∧ Arv Z h a2 k_a2 .byte (8 : Int32) [(.int (fx26 p4 p5 p6)), (.int (fx27 p4 p5 p6)), (.int (fx28 p4 p5 p6)), (.int (fx29 p4 p5 p6)), (.int 0), (.int 0), (.int 0), (.int 0)] (.int 0)) := by
  refine mfB (plainFor_of_name pn_23) hw fun p e s m below meth c s₁ Bd Kz X0 e0 => ?_
  obtain ⟨hx, hby, hml, hZ, hown, -⟩ := id Kz
  have qz := And.intro hx hby
  have N0 := Fr.nil n0
  obtain ⟨_, _, _, _, _, _, _, S_w_tb, B_tb, _⟩ := id hp
  obtain ⟨T1, X1, e1, st1⟩ := getS2 X0 hx hZ hown (host := "") (Or.inl (wq hw 164 rfl)) Via.refl e0 (S_w_tb.ext O0.2) (g := (mkF m 11 #[vr w_enc, vr a1, vi 0, vi 3, vr a2, vi 0, vi 0, uu, uu, uu, uu] [])) rfl (hb hby d54_11)
  obtain ⟨T4, h4, X4, e4, W4, V_a2_4, st4⟩ := wB X1 Kz e1 V_a2 (0 : Int32) 0 (mkF m 91 #[vr w_enc, vr a1, vi 0, vi 3, vr a2, vi 0, vi 0, vr w_tb, vi 3, vi 1, vi (fx17 p4 p5 p6)] [(.int (fx19 p4 p5 p6)), (.int 0), (.ref a2)]) d54_91
  have N4 := Fr.snoc X4 N0 g_a2
  have O4 := O0.wr W4 g_a2
  have K4 : Keep h0 h4 [a2] := (Keep.refl h0 [a2]).wr W4 (Or.inl (ma 0 rfl))
  obtain ⟨T7, h7, X7, e7, W7, V_a2_7, st7⟩ := wB X4 Kz e4 V_a2_4 (1 : Int32) 1 (mkF m 111 #[vr w_enc, vr a1, vi 0, vi 3, vr a2, vi 0, vi 0, vr w_tb, vi 3, vi 2, vi (fx17 p4 p5 p6)] [(.int (fx21 p4 p5 p6)), (.int 1), (.ref a2)]) d54_111
  have N7 := Fr.snoc X7 N4 g_a2
  have O7 := O4.wr W7 g_a2
  have K7 : Keep h0 h7 [a2] := K4.wr W7 (Or.inl (ma 0 rfl))
  obtain ⟨T10, h10, X10, e10, W10, V_a2_10, st10⟩ := wB X7 Kz e7 V_a2_7 (2 : Int32) 2 (mkF m 131 #[vr w_enc, vr a1, vi 0, vi 3, vr a2, vi 0, vi 0, vr w_tb, vi 3, vi 3, vi (fx17 p4 p5 p6)] [(.int (fx23 p4 p5 p6)), (.int 2), (.ref a2)]) d54_131
  have N10 := Fr.snoc X10 N7 g_a2
  have O10 := O7.wr W10 g_a2
  have K10 : Keep h0 h10 [a2] := K7.wr W10 (Or.inl (ma 0 rfl))
  obtain ⟨T13, h13, X13, e13, W13, V_a2_13, st13⟩ := wB X10 Kz e10 V_a2_10 (3 : Int32) 3 (mkF m 148 #[vr w_enc, vr a1, vi 0, vi 3, vr a2, vi 0, vi 0, vr w_tb, vi 3, vi 4, vi (fx17 p4 p5 p6)] [(.int (fx25 p4 p5 p6)), (.int 3), (.ref a2)]) d54_148
  have N13 := Fr.snoc X13 N10 g_a2
  have K13 : Keep h0 h13 [a2] := K10.wr W13 (Or.inl (ma 0 rfl))
  refine mfE Bd X13 (none) e13 (fun _ => rfl) (ef_54_0 m w_enc a1 (0 : Int32) (3 : Int32) a2 (0 : Int32) (0 : Int32)) ⟨rfl, N13, K13, ((((E_a2.wr W4).wr W7).wr W10).wr W13), V_a2_13⟩ fun fs hr => ?_
  refine il X0 qz d54_0 ?_
  refine ifY X0 qz 2 11 d54_2 (teq (by decide : (0 : Int32) = (0 : Int32))).1 ?_
  refine st1 _ ?_
  refine sta X1 qz d54_14 #[vr w_enc, vr a1, vi 0, vi 3, vr a2, vi 0, vi 0, vr w_tb, uu, uu, uu] ?_
  refine iln X1 qz d54_16 ?_
  refine st X1 qz d54_17 #[vr w_enc, vr a1, vi 0, vi 3, vr a2, vi 0, vi 0, vr w_tb, vi 0, uu, uu] ?_
  refine il X1 qz d54_19 ?_
  refine st X1 qz d54_21 #[vr w_enc, vr a1, vi 0, vi 3, vr a2, vi 0, vi 0, vr w_tb, vi 0, vi 0, uu] ?_
  refine il X1 qz d54_23 ?_
  refine iln X1 qz d54_25 ?_
  refine icN X1 qz d54_26 (tlt (by decide : (0 : Int32) < (3 : Int32))).2.1 ?_
  refine aln X1 qz d54_29 ?_
  refine il X1 qz d54_30 ?_
  refine XS.iinc X1.here hx rfl (hb hby d54_32) rfl (l' := #[vr w_enc, vr a1, vi 0, vi 3, vr a2, vi 0, vi 0, vr w_tb, vi 1, vi 0, uu]) rfl ?_
  refine rB X1 Kz e1 V_a1 d54_35 ?_
  refine sp X1 qz d54_36 ?_
  show Sp p e below T1 (mkF m 39 #[vr w_enc, vr a1, vi 0, vi 3, vr a2, vi 0, vi 0, vr w_tb, vi 1, vi 0, uu] [(.int 255), (.int p4)]) _
  refine wiand X1 qz d54_39 ?_
  refine bp X1 qz d54_40 ?_
  refine wishl X1 qz d54_42 ?_
  refine aln X1 qz d54_43 ?_
  refine il X1 qz d54_44 ?_
  refine XS.iinc X1.here hx rfl (hb hby d54_46) rfl (l' := #[vr w_enc, vr a1, vi 0, vi 3, vr a2, vi 0, vi 0, vr w_tb, vi 2, vi 0, uu]) rfl ?_
  refine rB X1 Kz e1 V_a1 d54_49 ?_
  refine sp X1 qz d54_50 ?_
  refine wiand X1 qz d54_53 ?_
  refine bp X1 qz d54_54 ?_
  refine wishl X1 qz d54_56 ?_
  refine wior X1 qz d54_57 ?_
  refine aln X1 qz d54_58 ?_
  refine il X1 qz d54_59 ?_
  refine XS.iinc X1.here hx rfl (hb hby d54_61) rfl (l' := #[vr w_enc, vr a1, vi 0, vi 3, vr a2, vi 0, vi 0, vr w_tb, vi 3, vi 0, uu]) rfl ?_
  refine rB X1 Kz e1 V_a1 d54_64 ?_
  show Sp p e below T1 (mkF m 65 #[vr w_enc, vr a1, vi 0, vi 3, vr a2, vi 0, vi 0, vr w_tb, vi 3, vi 0, uu] [(.int p6), (.int (fx16 p4 p5))]) _
  refine sp X1 qz d54_65 ?_
  refine wiand X1 qz d54_68 ?_
  refine wior X1 qz d54_69 ?_
  refine st X1 qz d54_70 #[vr w_enc, vr a1, vi 0, vi 3, vr a2, vi 0, vi 0, vr w_tb, vi 3, vi 0, vi (fx17 p4 p5 p6)] ?_
  refine al X1 qz d54_72 ?_
  refine il X1 qz d54_74 ?_
  refine XS.iinc X1.here hx rfl (hb hby d54_76) rfl (l' := #[vr w_enc, vr a1, vi 0, vi 3, vr a2, vi 0, vi 0, vr w_tb, vi 3, vi 1, vi (fx17 p4 p5 p6)]) rfl ?_
  refine al X1 qz d54_79 ?_
  refine il X1 qz d54_81 ?_
  refine bp X1 qz d54_83 ?_
  refine wiushr X1 qz d54_85 ?_
  refine bp X1 qz d54_86 ?_
  refine wiand X1 qz d54_88 ?_
  show Sp p e below T1 (mkF m 89 #[vr w_enc, vr a1, vi 0, vi 3, vr a2, vi 0, vi 0, vr w_tb, vi 3, vi 1, vi (fx17 p4 p5 p6)] [(.int (fx18 p4 p5 p6)), (.ref w_tb), (.int 0), (.ref a2)]) _
  refine tbR X1 Kz e1 O0 B_tb (own_i63 ((((((p4 &&& (255 : Int32)) <<< ((16 : Int32) &&& 31)) ||| ((p5 &&& (255 : Int32)) <<< ((8 : Int32) &&& 31))) ||| (p6 &&& (255 : Int32))).toUInt32 >>> ((18 : Int32) &&& 31).toUInt32).toInt32)) d54_89 ?_
  refine wib2 X1 qz d54_90 ?_
  refine st4 _ ?_
  refine al X4 qz d54_92 ?_
  refine il X4 qz d54_94 ?_
  refine XS.iinc X4.here hx rfl (hb hby d54_96) rfl (l' := #[vr w_enc, vr a1, vi 0, vi 3, vr a2, vi 0, vi 0, vr w_tb, vi 3, vi 2, vi (fx17 p4 p5 p6)]) rfl ?_
  refine al X4 qz d54_99 ?_
  refine il X4 qz d54_101 ?_
  refine bp X4 qz d54_103 ?_
  refine wiushr X4 qz d54_105 ?_
  refine bp X4 qz d54_106 ?_
  refine wiand X4 qz d54_108 ?_
  show Sp p e below T4 (mkF m 109 #[vr w_enc, vr a1, vi 0, vi 3, vr a2, vi 0, vi 0, vr w_tb, vi 3, vi 2, vi (fx17 p4 p5 p6)] [(.int (fx20 p4 p5 p6)), (.ref w_tb), (.int 1), (.ref a2)]) _
  refine tbR X4 Kz e4 O4 B_tb (own_i63 ((((((p4 &&& (255 : Int32)) <<< ((16 : Int32) &&& 31)) ||| ((p5 &&& (255 : Int32)) <<< ((8 : Int32) &&& 31))) ||| (p6 &&& (255 : Int32))).toUInt32 >>> ((12 : Int32) &&& 31).toUInt32).toInt32)) d54_109 ?_
  refine wib2 X4 qz d54_110 ?_
  refine st7 _ ?_
  refine al X7 qz d54_112 ?_
  refine il X7 qz d54_114 ?_
  refine XS.iinc X7.here hx rfl (hb hby d54_116) rfl (l' := #[vr w_enc, vr a1, vi 0, vi 3, vr a2, vi 0, vi 0, vr w_tb, vi 3, vi 3, vi (fx17 p4 p5 p6)]) rfl ?_
  refine al X7 qz d54_119 ?_
  refine il X7 qz d54_121 ?_
  refine bp X7 qz d54_123 ?_
  refine wiushr X7 qz d54_125 ?_
  refine bp X7 qz d54_126 ?_
  refine wiand X7 qz d54_128 ?_
  show Sp p e below T7 (mkF m 129 #[vr w_enc, vr a1, vi 0, vi 3, vr a2, vi 0, vi 0, vr w_tb, vi 3, vi 3, vi (fx17 p4 p5 p6)] [(.int (fx22 p4 p5 p6)), (.ref w_tb), (.int 2), (.ref a2)]) _
  refine tbR X7 Kz e7 O7 B_tb (own_i63 ((((((p4 &&& (255 : Int32)) <<< ((16 : Int32) &&& 31)) ||| ((p5 &&& (255 : Int32)) <<< ((8 : Int32) &&& 31))) ||| (p6 &&& (255 : Int32))).toUInt32 >>> ((6 : Int32) &&& 31).toUInt32).toInt32)) d54_129 ?_
  refine wib2 X7 qz d54_130 ?_
  refine st10 _ ?_
  refine al X10 qz d54_132 ?_
  refine il X10 qz d54_134 ?_
  refine XS.iinc X10.here hx rfl (hb hby d54_136) rfl (l' := #[vr w_enc, vr a1, vi 0, vi 3, vr a2, vi 0, vi 0, vr w_tb, vi 3, vi 4, vi (fx17 p4 p5 p6)]) rfl ?_
  refine al X10 qz d54_139 ?_
  refine il X10 qz d54_141 ?_
  refine bp X10 qz d54_143 ?_
  refine wiand X10 qz d54_145 ?_
  show Sp p e below T10 (mkF m 146 #[vr w_enc, vr a1, vi 0, vi 3, vr a2, vi 0, vi 0, vr w_tb, vi 3, vi 4, vi (fx17 p4 p5 p6)] [(.int (fx24 p4 p5 p6)), (.ref w_tb), (.int 3), (.ref a2)]) _
  refine tbR X10 Kz e10 O10 B_tb (own_i63 ((((p4 &&& (255 : Int32)) <<< ((16 : Int32) &&& 31)) ||| ((p5 &&& (255 : Int32)) <<< ((8 : Int32) &&& 31))) ||| (p6 &&& (255 : Int32)))) d54_146 ?_
  refine wib2 X10 qz d54_147 ?_
  refine st13 _ ?_
  refine gt X13 qz 149 23 d54_149 ?_
  refine il X13 qz d54_23 ?_
  refine iln X13 qz d54_25 ?_
  refine icY X13 qz 26 152 d54_26 (flt (by decide : ¬ ((3 : Int32) < (3 : Int32)))).2.1 ?_
  exact X13.returnOut hx Bd.returns (hb hby d54_152) hr
theorem rm18 (l : Launch) (Z : State) (a0 : Array Value) (hw : HW Z a0) (ws : List Jvm.Cond) (w_enc w_tb : Addr) (cs_v : Int32) (cl_tb : Cell) (wv_fm : Value) (hp : Perm Z w_enc w_tb cs_v cl_tb wv_fm) (a1 : Addr) (a2 : Addr) (k_a1 : ClassId) (p4 : Int32) (p5 : Int32) (p6 : Int32) (p7 : Int32) (k_a2 : ClassId) (h0 : Heap) (n0 : Nat) (O0 : Old Z n0 h0) (V_a1 : Arv Z h0 a1 k_a1 .byte (4 : Int32) [(.int p4), (.int p5), (.int p6), (.int p7)] (.int 0)) (V_a2 : Arv Z h0 a2 k_a2 .byte (8 : Int32) [(.int 0), (.int 0), (.int 0), (.int 0), (.int 0), (.int 0), (.int 0), (.int 0)] (.int 0)) (E_a2 : Exa Z h0 a2 "[B") (g_a2 : n0 ≤ a2) (ne_a1_a2 : a1 ≠ a2) :
    MF l y5 (Jvm.Cond.code y5 jdk_2452_method_10_code 16 (some .int) :: ws) ({ frames := 1, cells := 0, slots := 0, locals := 22 } : Room) Z #[(.ref w_enc), (.ref a1), (.int 0), (.int 4), (.ref a2)] h0 (fun v h L => v = some (.int 8) ∧ Fr n0 L ∧ Keep h0 h [a2] ∧ Exa Z h a2 "[B" ∧ Arv Z h a2 k_a2 .byte (8 : Int32) [(.int (fx26 p4 p5 p6)), (.int (fx27 p4 p5 p6)), (.int (fx28 p4 p5 p6)), (.int (fx29 p4 p5 p6)), (.int (fx7 p7)), (.int (fx8 p7)), (.int 61), (.int 61)] (.int 0)) := by
  refine mfB (plainFor_of_name pn_23) hw fun p e s m below meth c s₁ Bd Kz X0 e0 => ?_
  obtain ⟨hx, hby, hml, hZ, hown, -⟩ := id Kz
  have qz := And.intro hx hby
  have N0 := Fr.nil n0
  obtain ⟨_, _, _, E_w_enc, F_isURL_w_enc, F_linemax_w_enc, F_doPadding_w_enc, S_w_tb, B_tb, _⟩ := id hp
  obtain ⟨T1, X1, e1, st1⟩ := gF X0 Kz 162 e0 (F_isURL_w_enc.ext O0.2) (mkF m 1 #[vr w_enc, vr a1, vi 0, vi 4, vr a2, uu, uu, uu, uu, uu, uu, uu, uu, uu, uu, uu] [(.ref w_enc)]) d26_1
  obtain ⟨T2, X2, e2, st2⟩ := getS2 X1 hx hZ hown (host := "") (Or.inl (wq hw 164 rfl)) Via.refl e1 (S_w_tb.ext O0.2) (g := (mkF m 13 #[vr w_enc, vr a1, vi 0, vi 4, vr a2, uu, uu, uu, uu, uu, uu, uu, uu, uu, uu, uu] [])) rfl (hb hby d26_13)
  obtain ⟨T3, X3, e3, st3⟩ := gF X2 Kz 155 e2 (F_linemax_w_enc.ext O0.2) (mkF m 37 #[vr w_enc, vr a1, vi 0, vi 4, vr a2, vr w_tb, vi 0, vi 3, vi 3, uu, uu, uu, uu, uu, uu, uu] [(.ref w_enc)]) d26_37
  obtain ⟨_, T4, Lc4, X4, hQ4, st4⟩ := cS X3 Kz y6 0 281 209 150 210 (rm14 l Z a0 hw [] w_enc w_tb cs_v cl_tb wv_fm hp h0 n0 O0) e3 (mkF m 83 #[vr w_enc, vr a1, vi 0, vi 4, vr a2, vr w_tb, vi 0, vi 3, vi 3, vi 0, uu, uu, uu, uu, uu, uu] [(.int 3), (.int 3)]) [(.int 3), (.int 3)] [] pd_0 d26_83
  obtain ⟨rfl, Nq4, eq4⟩ := hQ4
  have N4 := Fr.app N0 Nq4
  obtain ⟨T5, X5, e5, st5⟩ := gF X4 Kz 162 eq4 (F_isURL_w_enc.ext O0.2) (mkF m 99 #[vr w_enc, vr a1, vi 0, vi 4, vr a2, vr w_tb, vi 0, vi 3, vi 3, vi 0, vi 3, uu, uu, uu, uu, uu] [(.ref w_enc), (.int 0), (.ref a2), (.int 3), (.int 0), (.ref a1), (.ref w_enc)]) d26_99
  obtain ⟨_, T6, Lc6, X6, hQ6, st6⟩ := pB X5 Kz y7 0 282 283 285 284 286 130 (rm17 l Z a0 hw [] w_enc w_tb cs_v cl_tb wv_fm hp a1 a2 k_a1 p4 p5 p6 p7 k_a2 h0 n0 O0 V_a1 V_a2 E_a2 g_a2) e5 (E_w_enc.ext O0.2) (mkF m 102 #[vr w_enc, vr a1, vi 0, vi 4, vr a2, vr w_tb, vi 0, vi 3, vi 3, vi 0, vi 3, uu, uu, uu, uu, uu] [(.int 0), (.int 0), (.ref a2), (.int 3), (.int 0), (.ref a1), (.ref w_enc)]) [(.ref a1), (.int 0), (.int 3), (.ref a2), (.int 0), (.int 0)] [] pd_1 d26_102
  obtain ⟨rfl, Nq6, Kq6, fq6_0, fq6_1⟩ := hQ6
  have N6 := Fr.app N4 Nq6
  have O6 := O0.keep Kq6 (allS g_a2 all0)
  have K6 : Keep h0 T6.heap [a2] := (Keep.refl h0 [a2]).trans Kq6 (allS (Or.inl (ma 0 rfl)) all0)
  obtain ⟨T7, X7, e7, st7⟩ := gF X6 Kz 155 rfl (F_linemax_w_enc.ext O6.2) (mkF m 130 #[vr w_enc, vr a1, vi 0, vi 4, vr a2, vr w_tb, vi 3, vi 3, vi 3, vi 4, vi 3, vi 4, uu, uu, uu, uu] [(.ref w_enc), (.int 4)]) d26_130
  obtain ⟨T10, h10, X10, e10, W10, V_a2_10, st10⟩ := wB X7 Kz e7 fq6_1 (4 : Int32) 4 (mkF m 223 #[vr w_enc, vr a1, vi 0, vi 4, vr a2, vr w_tb, vi 4, vi 3, vi 3, vi 5, .val (.int (p7 &&& (255 : Int32))), vi 4, uu, uu, uu, uu] [(.int (fx4 p7)), (.int 4), (.ref a2)]) d26_223
  have N10 := Fr.snoc X10 N6 g_a2
  have O10 := O6.wr W10 g_a2
  have K10 : Keep h0 h10 [a2] := K6.wr W10 (Or.inl (ma 0 rfl))
  obtain ⟨T13, h13, X13, e13, W13, V_a2_13, st13⟩ := wB X10 Kz e10 V_a2_10 (5 : Int32) 5 (mkF m 248 #[vr w_enc, vr a1, vi 0, vi 4, vr a2, vr w_tb, vi 4, vi 3, vi 3, vi 6, .val (.int (p7 &&& (255 : Int32))), vi 4, uu, uu, uu, uu] [(.int (fx6 p7)), (.int 5), (.ref a2)]) d26_248
  have N13 := Fr.snoc X13 N10 g_a2
  have O13 := O10.wr W13 g_a2
  have K13 : Keep h0 h13 [a2] := K10.wr W13 (Or.inl (ma 0 rfl))
  obtain ⟨T14, X14, e14, st14⟩ := gF X13 Kz 146 e13 (F_doPadding_w_enc.ext O13.2) (mkF m 250 #[vr w_enc, vr a1, vi 0, vi 4, vr a2, vr w_tb, vi 4, vi 3, vi 3, vi 6, .val (.int (p7 &&& (255 : Int32))), vi 4, uu, uu, uu, uu] [(.ref w_enc)]) d26_250
  obtain ⟨T16, h16, X16, e16, W16, V_a2_16, st16⟩ := wB X14 Kz e14 V_a2_13 (6 : Int32) 6 (mkF m 265 #[vr w_enc, vr a1, vi 0, vi 4, vr a2, vr w_tb, vi 4, vi 3, vi 3, vi 7, .val (.int (p7 &&& (255 : Int32))), vi 4, uu, uu, uu, uu] [(.int 61), (.int 6), (.ref a2)]) d26_265
  have N16 := Fr.snoc X16 N13 g_a2
  have K16 : Keep h0 h16 [a2] := K13.wr W16 (Or.inl (ma 0 rfl))
  obtain ⟨T18, h18, X18, e18, W18, V_a2_18, st18⟩ := wB X16 Kz e16 V_a2_16 (7 : Int32) 7 (mkF m 275 #[vr w_enc, vr a1, vi 0, vi 4, vr a2, vr w_tb, vi 4, vi 3, vi 3, vi 8, .val (.int (p7 &&& (255 : Int32))), vi 4, uu, uu, uu, uu] [(.int 61), (.int 7), (.ref a2)]) d26_275
  have N18 := Fr.snoc X18 N16 g_a2
  have K18 : Keep h0 h18 [a2] := K16.wr W18 (Or.inl (ma 0 rfl))
  refine mfE Bd X18 (some (.int 8)) e18 (fun h => by rw [Bd.returns] at h; cases h) (ef_26_0 m w_enc a1 (0 : Int32) (4 : Int32) a2) ⟨rfl, N18, K18, ((((fq6_0.wr W10).wr W13).wr W16).wr W18), V_a2_18⟩ fun fs hr => ?_
  refine aln X0 qz d26_0 ?_
  refine st1 _ ?_
  refine ifY X1 qz 4 13 d26_4 (teq (by decide : (0 : Int32) = (0 : Int32))).1 ?_
  refine st2 _ ?_
  refine sta X2 qz d26_16 #[vr w_enc, vr a1, vi 0, vi 4, vr a2, vr w_tb, uu, uu, uu, uu, uu, uu, uu, uu, uu, uu] ?_
  refine iln X2 qz d26_18 ?_
  refine st X2 qz d26_19 #[vr w_enc, vr a1, vi 0, vi 4, vr a2, vr w_tb, vi 0, uu, uu, uu, uu, uu, uu, uu, uu, uu] ?_
  refine iln X2 qz d26_21 ?_
  refine iln X2 qz d26_22 ?_
  refine wib X2 qz d26_23 ?_
  refine stk (y := (.int 4)) rfl ?_
  refine ic X2 qz d26_24 ?_
  refine XS.idiv X2.here hx rfl (hb hby d26_25) rfl (by decide) ?_
  refine stk (y := (.int 1)) rfl ?_
  refine ic X2 qz d26_26 ?_
  refine wimul X2 qz d26_27 ?_
  refine stk (y := (.int 3)) rfl ?_
  refine st X2 qz d26_28 #[vr w_enc, vr a1, vi 0, vi 4, vr a2, vr w_tb, vi 0, vi 3, uu, uu, uu, uu, uu, uu, uu, uu] ?_
  refine iln X2 qz d26_30 ?_
  show Sp p e below T2 (mkF m 31 #[vr w_enc, vr a1, vi 0, vi 4, vr a2, vr w_tb, vi 0, vi 3, uu, uu, uu, uu, uu, uu, uu, uu] [(.int 0)]) _
  refine il X2 qz d26_31 ?_
  refine wia X2 qz d26_33 ?_
  refine stk (y := (.int 3)) rfl ?_
  refine st X2 qz d26_34 #[vr w_enc, vr a1, vi 0, vi 4, vr a2, vr w_tb, vi 0, vi 3, vi 3, uu, uu, uu, uu, uu, uu, uu] ?_
  refine aln X2 qz d26_36 ?_
  refine st3 _ ?_
  refine ifY X3 qz 40 66 d26_40 (flt (by decide : ¬ ((0 : Int32) < (-1 : Int32)))).2.2.2 ?_
  refine ic X3 qz d26_66 ?_
  refine st X3 qz d26_67 #[vr w_enc, vr a1, vi 0, vi 4, vr a2, vr w_tb, vi 0, vi 3, vi 3, vi 0, uu, uu, uu, uu, uu, uu] ?_
  refine il X3 qz d26_69 ?_
  refine il X3 qz d26_71 ?_
  refine icN X3 qz d26_73 (tlt (by decide : (0 : Int32) < (3 : Int32))).2.1 ?_
  refine il X3 qz d26_76 ?_
  refine il X3 qz d26_78 ?_
  refine wia X3 qz d26_80 ?_
  refine stk (y := (.int 3)) rfl ?_
  refine il X3 qz d26_81 ?_
  refine st4 _ ?_
  show Sp p e below T4 (mkF m 86 #[vr w_enc, vr a1, vi 0, vi 4, vr a2, vr w_tb, vi 0, vi 3, vi 3, vi 0, uu, uu, uu, uu, uu, uu] [(.int 3)]) _
  refine st X4 qz d26_86 #[vr w_enc, vr a1, vi 0, vi 4, vr a2, vr w_tb, vi 0, vi 3, vi 3, vi 0, vi 3, uu, uu, uu, uu, uu] ?_
  refine aln X4 qz d26_88 ?_
  refine aln X4 qz d26_89 ?_
  refine il X4 qz d26_90 ?_
  refine il X4 qz d26_92 ?_
  refine al X4 qz d26_94 ?_
  refine il X4 qz d26_96 ?_
  refine aln X4 qz d26_98 ?_
  refine st5 _ ?_
  refine st6.trans ?_
  refine il X6 qz d26_105 ?_
  refine il X6 qz d26_107 ?_
  refine wib X6 qz d26_109 ?_
  refine stk (y := (.int 3)) rfl ?_
  refine ic X6 qz d26_110 ?_
  refine XS.idiv X6.here hx rfl (hb hby d26_111) rfl (by decide) ?_
  refine stk (y := (.int 1)) rfl ?_
  refine ic X6 qz d26_112 ?_
  show Sp p e below T6 (mkF m 113 #[vr w_enc, vr a1, vi 0, vi 4, vr a2, vr w_tb, vi 0, vi 3, vi 3, vi 0, vi 3, uu, uu, uu, uu, uu] [(.int 4), (.int 1)]) _
  refine wimul X6 qz d26_113 ?_
  refine stk (y := (.int 4)) rfl ?_
  refine st X6 qz d26_114 #[vr w_enc, vr a1, vi 0, vi 4, vr a2, vr w_tb, vi 0, vi 3, vi 3, vi 0, vi 3, vi 4, uu, uu, uu, uu] ?_
  refine il X6 qz d26_116 ?_
  refine il X6 qz d26_118 ?_
  refine wia X6 qz d26_120 ?_
  refine stk (y := (.int 4)) rfl ?_
  refine st X6 qz d26_121 #[vr w_enc, vr a1, vi 0, vi 4, vr a2, vr w_tb, vi 0, vi 3, vi 3, vi 4, vi 3, vi 4, uu, uu, uu, uu] ?_
  refine il X6 qz d26_123 ?_
  refine st X6 qz d26_125 #[vr w_enc, vr a1, vi 0, vi 4, vr a2, vr w_tb, vi 3, vi 3, vi 3, vi 4, vi 3, vi 4, uu, uu, uu, uu] ?_
  refine il X6 qz d26_127 ?_
  refine aln X6 qz d26_129 ?_
  refine st7 _ ?_
  refine icY X7 qz 133 186 d26_133 (feq (by decide : ¬ ((4 : Int32) = (-1 : Int32)))).2 ?_
  refine gt X7 qz 186 69 d26_186 ?_
  refine il X7 qz d26_69 ?_
  refine il X7 qz d26_71 ?_
  refine icY X7 qz 73 189 d26_73 (flt (by decide : ¬ ((3 : Int32) < (3 : Int32)))).2.1 ?_
  show Sp p e below T7 (mkF m 189 #[vr w_enc, vr a1, vi 0, vi 4, vr a2, vr w_tb, vi 3, vi 3, vi 3, vi 4, vi 3, vi 4, uu, uu, uu, uu] []) _
  refine il X7 qz d26_189 ?_
  refine iln X7 qz d26_191 ?_
  refine icN X7 qz d26_192 (tlt (by decide : (3 : Int32) < (4 : Int32))).2.1 ?_
  refine aln X7 qz d26_195 ?_
  refine il X7 qz d26_196 ?_
  refine XS.iinc X7.here hx rfl (hb hby d26_198) rfl (l' := #[vr w_enc, vr a1, vi 0, vi 4, vr a2, vr w_tb, vi 4, vi 3, vi 3, vi 4, vi 3, vi 4, uu, uu, uu, uu]) rfl ?_
  refine rB X7 Kz e7 (V_a1.keep Kq6 (ninS ne_a1_a2 nin0)) d26_201 ?_
  refine sp X7 qz d26_202 ?_
  refine wiand X7 qz d26_205 ?_
  refine st X7 qz d26_206 #[vr w_enc, vr a1, vi 0, vi 4, vr a2, vr w_tb, vi 4, vi 3, vi 3, vi 4, .val (.int (p7 &&& (255 : Int32))), vi 4, uu, uu, uu, uu] ?_
  refine al X7 qz d26_208 ?_
  refine il X7 qz d26_210 ?_
  refine XS.iinc X7.here hx rfl (hb hby d26_212) rfl (l' := #[vr w_enc, vr a1, vi 0, vi 4, vr a2, vr w_tb, vi 4, vi 3, vi 3, vi 5, .val (.int (p7 &&& (255 : Int32))), vi 4, uu, uu, uu, uu]) rfl ?_
  refine al X7 qz d26_215 ?_
  refine il X7 qz d26_217 ?_
  refine ic X7 qz d26_219 ?_
  show Sp p e below T7 (mkF m 220 #[vr w_enc, vr a1, vi 0, vi 4, vr a2, vr w_tb, vi 4, vi 3, vi 3, vi 5, .val (.int (p7 &&& (255 : Int32))), vi 4, uu, uu, uu, uu] [(.int 2), (.int (p7 &&& (255 : Int32))), (.ref w_tb), (.int 4), (.ref a2)]) _
  refine wishr X7 qz d26_220 ?_
  show Sp p e below T7 (mkF m 221 #[vr w_enc, vr a1, vi 0, vi 4, vr a2, vr w_tb, vi 4, vi 3, vi 3, vi 5, .val (.int (p7 &&& (255 : Int32))), vi 4, uu, uu, uu, uu] [(.int (fx3 p7)), (.ref w_tb), (.int 4), (.ref a2)]) _
  refine tbR X7 Kz e7 O6 B_tb (own_i2 p7) d26_221 ?_
  refine wib2 X7 qz d26_222 ?_
  refine st10 _ ?_
  refine il X10 qz d26_224 ?_
  refine iln X10 qz d26_226 ?_
  refine icN X10 qz d26_227 (teq (by decide : (4 : Int32) = (4 : Int32))).2 ?_
  refine al X10 qz d26_230 ?_
  refine il X10 qz d26_232 ?_
  refine XS.iinc X10.here hx rfl (hb hby d26_234) rfl (l' := #[vr w_enc, vr a1, vi 0, vi 4, vr a2, vr w_tb, vi 4, vi 3, vi 3, vi 6, .val (.int (p7 &&& (255 : Int32))), vi 4, uu, uu, uu, uu]) rfl ?_
  refine al X10 qz d26_237 ?_
  refine il X10 qz d26_239 ?_
  refine ic X10 qz d26_241 ?_
  refine wishl X10 qz d26_242 ?_
  refine bp X10 qz d26_243 ?_
  refine wiand X10 qz d26_245 ?_
  show Sp p e below T10 (mkF m 246 #[vr w_enc, vr a1, vi 0, vi 4, vr a2, vr w_tb, vi 4, vi 3, vi 3, vi 6, .val (.int (p7 &&& (255 : Int32))), vi 4, uu, uu, uu, uu] [(.int (fx5 p7)), (.ref w_tb), (.int 5), (.ref a2)]) _
  refine tbR X10 Kz e10 O10 B_tb (own_i63 ((p7 &&& (255 : Int32)) <<< ((4 : Int32) &&& 31))) d26_246 ?_
  refine wib2 X10 qz d26_247 ?_
  refine st13 _ ?_
  refine aln X13 qz d26_249 ?_
  refine st14 _ ?_
  refine ifN X14 qz d26_253 (feq (by decide : ¬ ((1 : Int32) = (0 : Int32)))).1 ?_
  refine al X14 qz d26_256 ?_
  refine il X14 qz d26_258 ?_
  refine XS.iinc X14.here hx rfl (hb hby d26_260) rfl (l' := #[vr w_enc, vr a1, vi 0, vi 4, vr a2, vr w_tb, vi 4, vi 3, vi 3, vi 7, .val (.int (p7 &&& (255 : Int32))), vi 4, uu, uu, uu, uu]) rfl ?_
  refine bp X14 qz d26_263 ?_
  refine st16 _ ?_
  refine al X16 qz d26_266 ?_
  refine il X16 qz d26_268 ?_
  refine XS.iinc X16.here hx rfl (hb hby d26_270) rfl (l' := #[vr w_enc, vr a1, vi 0, vi 4, vr a2, vr w_tb, vi 4, vi 3, vi 3, vi 8, .val (.int (p7 &&& (255 : Int32))), vi 4, uu, uu, uu, uu]) rfl ?_
  refine bp X16 qz d26_273 ?_
  refine st18 _ ?_
  show Sp p e below T18 (mkF m 276 #[vr w_enc, vr a1, vi 0, vi 4, vr a2, vr w_tb, vi 4, vi 3, vi 3, vi 8, .val (.int (p7 &&& (255 : Int32))), vi 4, uu, uu, uu, uu] []) _
  refine gt X18 qz 276 352 d26_276 ?_
  refine il X18 qz d26_352 ?_
  exact retI X18 hx Bd.returns (hb hby d26_354) hr
theorem rm19 (l : Launch) (Z : State) (a0 : Array Value) (hw : HW Z a0) (ws : List Jvm.Cond) (w_enc w_tb : Addr) (cs_v : Int32) (cl_tb : Cell) (wv_fm : Value) (hp : Perm Z w_enc w_tb cs_v cl_tb wv_fm) (a1 : Addr) (a2 : Addr) (k_a1 : ClassId) (p4 : Int32) (p5 : Int32) (p6 : Int32) (p7 : Int32) (p8 : Int32) (k_a2 : ClassId) (h0 : Heap) (n0 : Nat) (O0 : Old Z n0 h0) (V_a1 : Arv Z h0 a1 k_a1 .byte (5 : Int32) [(.int p4), (.int p5), (.int p6), (.int p7), (.int p8)] (.int 0)) (V_a2 : Arv Z h0 a2 k_a2 .byte (8 : Int32) [(.int 0), (.int 0), (.int 0), (.int 0), (.int 0), (.int 0), (.int 0), (.int 0)] (.int 0)) (E_a2 : Exa Z h0 a2 "[B") (g_a2 : n0 ≤ a2) :
    MF l y7 (Jvm.Cond.code y7 jdk_2452_method_9_code 11 none :: ws) ({ frames := 0, cells := 0, slots := 0, locals := 0 } : Room) Z #[(.ref w_enc), (.ref a1), (.int 0), (.int 3), (.ref a2), (.int 0), (.int 0)] h0 (fun v h L => v = none ∧ Fr n0 L ∧ Keep h0 h [a2] ∧ Exa Z h a2 "[B" ∧ Arv Z h a2 k_a2 .byte (8 : Int32) [(.int (fx26 p4 p5 p6)), (.int (fx27 p4 p5 p6)), (.int (fx28 p4 p5 p6)), (.int (fx29 p4 p5 p6)), (.int 0), (.int 0), (.int 0), (.int 0)] (.int 0)) := by
  refine mfB (plainFor_of_name pn_23) hw fun p e s m below meth c s₁ Bd Kz X0 e0 => ?_
  obtain ⟨hx, hby, hml, hZ, hown, -⟩ := id Kz
  have qz := And.intro hx hby
  have N0 := Fr.nil n0
  obtain ⟨_, _, _, _, _, _, _, S_w_tb, B_tb, _⟩ := id hp
  obtain ⟨T1, X1, e1, st1⟩ := getS2 X0 hx hZ hown (host := "") (Or.inl (wq hw 164 rfl)) Via.refl e0 (S_w_tb.ext O0.2) (g := (mkF m 11 #[vr w_enc, vr a1, vi 0, vi 3, vr a2, vi 0, vi 0, uu, uu, uu, uu] [])) rfl (hb hby d54_11)
  obtain ⟨T4, h4, X4, e4, W4, V_a2_4, st4⟩ := wB X1 Kz e1 V_a2 (0 : Int32) 0 (mkF m 91 #[vr w_enc, vr a1, vi 0, vi 3, vr a2, vi 0, vi 0, vr w_tb, vi 3, vi 1, vi (fx17 p4 p5 p6)] [(.int (fx19 p4 p5 p6)), (.int 0), (.ref a2)]) d54_91
  have N4 := Fr.snoc X4 N0 g_a2
  have O4 := O0.wr W4 g_a2
  have K4 : Keep h0 h4 [a2] := (Keep.refl h0 [a2]).wr W4 (Or.inl (ma 0 rfl))
  obtain ⟨T7, h7, X7, e7, W7, V_a2_7, st7⟩ := wB X4 Kz e4 V_a2_4 (1 : Int32) 1 (mkF m 111 #[vr w_enc, vr a1, vi 0, vi 3, vr a2, vi 0, vi 0, vr w_tb, vi 3, vi 2, vi (fx17 p4 p5 p6)] [(.int (fx21 p4 p5 p6)), (.int 1), (.ref a2)]) d54_111
  have N7 := Fr.snoc X7 N4 g_a2
  have O7 := O4.wr W7 g_a2
  have K7 : Keep h0 h7 [a2] := K4.wr W7 (Or.inl (ma 0 rfl))
  obtain ⟨T10, h10, X10, e10, W10, V_a2_10, st10⟩ := wB X7 Kz e7 V_a2_7 (2 : Int32) 2 (mkF m 131 #[vr w_enc, vr a1, vi 0, vi 3, vr a2, vi 0, vi 0, vr w_tb, vi 3, vi 3, vi (fx17 p4 p5 p6)] [(.int (fx23 p4 p5 p6)), (.int 2), (.ref a2)]) d54_131
  have N10 := Fr.snoc X10 N7 g_a2
  have O10 := O7.wr W10 g_a2
  have K10 : Keep h0 h10 [a2] := K7.wr W10 (Or.inl (ma 0 rfl))
  obtain ⟨T13, h13, X13, e13, W13, V_a2_13, st13⟩ := wB X10 Kz e10 V_a2_10 (3 : Int32) 3 (mkF m 148 #[vr w_enc, vr a1, vi 0, vi 3, vr a2, vi 0, vi 0, vr w_tb, vi 3, vi 4, vi (fx17 p4 p5 p6)] [(.int (fx25 p4 p5 p6)), (.int 3), (.ref a2)]) d54_148
  have N13 := Fr.snoc X13 N10 g_a2
  have K13 : Keep h0 h13 [a2] := K10.wr W13 (Or.inl (ma 0 rfl))
  refine mfE Bd X13 (none) e13 (fun _ => rfl) (ef_54_0 m w_enc a1 (0 : Int32) (3 : Int32) a2 (0 : Int32) (0 : Int32)) ⟨rfl, N13, K13, ((((E_a2.wr W4).wr W7).wr W10).wr W13), V_a2_13⟩ fun fs hr => ?_
  refine il X0 qz d54_0 ?_
  refine ifY X0 qz 2 11 d54_2 (teq (by decide : (0 : Int32) = (0 : Int32))).1 ?_
  refine st1 _ ?_
  refine sta X1 qz d54_14 #[vr w_enc, vr a1, vi 0, vi 3, vr a2, vi 0, vi 0, vr w_tb, uu, uu, uu] ?_
  refine iln X1 qz d54_16 ?_
  refine st X1 qz d54_17 #[vr w_enc, vr a1, vi 0, vi 3, vr a2, vi 0, vi 0, vr w_tb, vi 0, uu, uu] ?_
  refine il X1 qz d54_19 ?_
  refine st X1 qz d54_21 #[vr w_enc, vr a1, vi 0, vi 3, vr a2, vi 0, vi 0, vr w_tb, vi 0, vi 0, uu] ?_
  refine il X1 qz d54_23 ?_
  refine iln X1 qz d54_25 ?_
  refine icN X1 qz d54_26 (tlt (by decide : (0 : Int32) < (3 : Int32))).2.1 ?_
  refine aln X1 qz d54_29 ?_
  refine il X1 qz d54_30 ?_
  refine XS.iinc X1.here hx rfl (hb hby d54_32) rfl (l' := #[vr w_enc, vr a1, vi 0, vi 3, vr a2, vi 0, vi 0, vr w_tb, vi 1, vi 0, uu]) rfl ?_
  refine rB X1 Kz e1 V_a1 d54_35 ?_
  refine sp X1 qz d54_36 ?_
  show Sp p e below T1 (mkF m 39 #[vr w_enc, vr a1, vi 0, vi 3, vr a2, vi 0, vi 0, vr w_tb, vi 1, vi 0, uu] [(.int 255), (.int p4)]) _
  refine wiand X1 qz d54_39 ?_
  refine bp X1 qz d54_40 ?_
  refine wishl X1 qz d54_42 ?_
  refine aln X1 qz d54_43 ?_
  refine il X1 qz d54_44 ?_
  refine XS.iinc X1.here hx rfl (hb hby d54_46) rfl (l' := #[vr w_enc, vr a1, vi 0, vi 3, vr a2, vi 0, vi 0, vr w_tb, vi 2, vi 0, uu]) rfl ?_
  refine rB X1 Kz e1 V_a1 d54_49 ?_
  refine sp X1 qz d54_50 ?_
  refine wiand X1 qz d54_53 ?_
  refine bp X1 qz d54_54 ?_
  refine wishl X1 qz d54_56 ?_
  refine wior X1 qz d54_57 ?_
  refine aln X1 qz d54_58 ?_
  refine il X1 qz d54_59 ?_
  refine XS.iinc X1.here hx rfl (hb hby d54_61) rfl (l' := #[vr w_enc, vr a1, vi 0, vi 3, vr a2, vi 0, vi 0, vr w_tb, vi 3, vi 0, uu]) rfl ?_
  refine rB X1 Kz e1 V_a1 d54_64 ?_
  show Sp p e below T1 (mkF m 65 #[vr w_enc, vr a1, vi 0, vi 3, vr a2, vi 0, vi 0, vr w_tb, vi 3, vi 0, uu] [(.int p6), (.int (fx16 p4 p5))]) _
  refine sp X1 qz d54_65 ?_
  refine wiand X1 qz d54_68 ?_
  refine wior X1 qz d54_69 ?_
  refine st X1 qz d54_70 #[vr w_enc, vr a1, vi 0, vi 3, vr a2, vi 0, vi 0, vr w_tb, vi 3, vi 0, vi (fx17 p4 p5 p6)] ?_
  refine al X1 qz d54_72 ?_
  refine il X1 qz d54_74 ?_
  refine XS.iinc X1.here hx rfl (hb hby d54_76) rfl (l' := #[vr w_enc, vr a1, vi 0, vi 3, vr a2, vi 0, vi 0, vr w_tb, vi 3, vi 1, vi (fx17 p4 p5 p6)]) rfl ?_
  refine al X1 qz d54_79 ?_
  refine il X1 qz d54_81 ?_
  refine bp X1 qz d54_83 ?_
  refine wiushr X1 qz d54_85 ?_
  refine bp X1 qz d54_86 ?_
  refine wiand X1 qz d54_88 ?_
  show Sp p e below T1 (mkF m 89 #[vr w_enc, vr a1, vi 0, vi 3, vr a2, vi 0, vi 0, vr w_tb, vi 3, vi 1, vi (fx17 p4 p5 p6)] [(.int (fx18 p4 p5 p6)), (.ref w_tb), (.int 0), (.ref a2)]) _
  refine tbR X1 Kz e1 O0 B_tb (own_i63 ((((((p4 &&& (255 : Int32)) <<< ((16 : Int32) &&& 31)) ||| ((p5 &&& (255 : Int32)) <<< ((8 : Int32) &&& 31))) ||| (p6 &&& (255 : Int32))).toUInt32 >>> ((18 : Int32) &&& 31).toUInt32).toInt32)) d54_89 ?_
  refine wib2 X1 qz d54_90 ?_
  refine st4 _ ?_
  refine al X4 qz d54_92 ?_
  refine il X4 qz d54_94 ?_
  refine XS.iinc X4.here hx rfl (hb hby d54_96) rfl (l' := #[vr w_enc, vr a1, vi 0, vi 3, vr a2, vi 0, vi 0, vr w_tb, vi 3, vi 2, vi (fx17 p4 p5 p6)]) rfl ?_
  refine al X4 qz d54_99 ?_
  refine il X4 qz d54_101 ?_
  refine bp X4 qz d54_103 ?_
  refine wiushr X4 qz d54_105 ?_
  refine bp X4 qz d54_106 ?_
  refine wiand X4 qz d54_108 ?_
  show Sp p e below T4 (mkF m 109 #[vr w_enc, vr a1, vi 0, vi 3, vr a2, vi 0, vi 0, vr w_tb, vi 3, vi 2, vi (fx17 p4 p5 p6)] [(.int (fx20 p4 p5 p6)), (.ref w_tb), (.int 1), (.ref a2)]) _
  refine tbR X4 Kz e4 O4 B_tb (own_i63 ((((((p4 &&& (255 : Int32)) <<< ((16 : Int32) &&& 31)) ||| ((p5 &&& (255 : Int32)) <<< ((8 : Int32) &&& 31))) ||| (p6 &&& (255 : Int32))).toUInt32 >>> ((12 : Int32) &&& 31).toUInt32).toInt32)) d54_109 ?_
  refine wib2 X4 qz d54_110 ?_
  refine st7 _ ?_
  refine al X7 qz d54_112 ?_
  refine il X7 qz d54_114 ?_
  refine XS.iinc X7.here hx rfl (hb hby d54_116) rfl (l' := #[vr w_enc, vr a1, vi 0, vi 3, vr a2, vi 0, vi 0, vr w_tb, vi 3, vi 3, vi (fx17 p4 p5 p6)]) rfl ?_
  refine al X7 qz d54_119 ?_
  refine il X7 qz d54_121 ?_
  refine bp X7 qz d54_123 ?_
  refine wiushr X7 qz d54_125 ?_
  refine bp X7 qz d54_126 ?_
  refine wiand X7 qz d54_128 ?_
  show Sp p e below T7 (mkF m 129 #[vr w_enc, vr a1, vi 0, vi 3, vr a2, vi 0, vi 0, vr w_tb, vi 3, vi 3, vi (fx17 p4 p5 p6)] [(.int (fx22 p4 p5 p6)), (.ref w_tb), (.int 2), (.ref a2)]) _
  refine tbR X7 Kz e7 O7 B_tb (own_i63 ((((((p4 &&& (255 : Int32)) <<< ((16 : Int32) &&& 31)) ||| ((p5 &&& (255 : Int32)) <<< ((8 : Int32) &&& 31))) ||| (p6 &&& (255 : Int32))).toUInt32 >>> ((6 : Int32) &&& 31).toUInt32).toInt32)) d54_129 ?_
  refine wib2 X7 qz d54_130 ?_
  refine st10 _ ?_
  refine al X10 qz d54_132 ?_
  refine il X10 qz d54_134 ?_
  refine XS.iinc X10.here hx rfl (hb hby d54_136) rfl (l' := #[vr w_enc, vr a1, vi 0, vi 3, vr a2, vi 0, vi 0, vr w_tb, vi 3, vi 4, vi (fx17 p4 p5 p6)]) rfl ?_
  refine al X10 qz d54_139 ?_
  refine il X10 qz d54_141 ?_
  refine bp X10 qz d54_143 ?_
  refine wiand X10 qz d54_145 ?_
  show Sp p e below T10 (mkF m 146 #[vr w_enc, vr a1, vi 0, vi 3, vr a2, vi 0, vi 0, vr w_tb, vi 3, vi 4, vi (fx17 p4 p5 p6)] [(.int (fx24 p4 p5 p6)), (.ref w_tb), (.int 3), (.ref a2)]) _
  refine tbR X10 Kz e10 O10 B_tb (own_i63 ((((p4 &&& (255 : Int32)) <<< ((16 : Int32) &&& 31)) ||| ((p5 &&& (255 : Int32)) <<< ((8 : Int32) &&& 31))) ||| (p6 &&& (255 : Int32)))) d54_146 ?_
  refine wib2 X10 qz d54_147 ?_
  refine st13 _ ?_
  refine gt X13 qz 149 23 d54_149 ?_
  refine il X13 qz d54_23 ?_
  refine iln X13 qz d54_25 ?_
  refine icY X13 qz 26 152 d54_26 (flt (by decide : ¬ ((3 : Int32) < (3 : Int32)))).2.1 ?_
  exact X13.returnOut hx Bd.returns (hb hby d54_152) hr
theorem rm20 (l : Launch) (Z : State) (a0 : Array Value) (hw : HW Z a0) (ws : List Jvm.Cond) (w_enc w_tb : Addr) (cs_v : Int32) (cl_tb : Cell) (wv_fm : Value) (hp : Perm Z w_enc w_tb cs_v cl_tb wv_fm) (a1 : Addr) (a2 : Addr) (k_a1 : ClassId) (p4 : Int32) (p5 : Int32) (p6 : Int32) (p7 : Int32) (p8 : Int32) (k_a2 : ClassId) (h0 : Heap) (n0 : Nat) (O0 : Old Z n0 h0) (V_a1 : Arv Z h0 a1 k_a1 .byte (5 : Int32) [(.int p4), (.int p5), (.int p6), (.int p7), (.int p8)] (.int 0)) (V_a2 : Arv Z h0 a2 k_a2 .byte (8 : Int32) [(.int 0), (.int 0), (.int 0), (.int 0), (.int 0), (.int 0), (.int 0), (.int 0)] (.int 0)) (E_a2 : Exa Z h0 a2 "[B") (g_a2 : n0 ≤ a2) (ne_a1_a2 : a1 ≠ a2) :
    MF l y5 (Jvm.Cond.code y5 jdk_2452_method_10_code 16 (some .int) :: ws) ({ frames := 1, cells := 0, slots := 0, locals := 22 } : Room) Z #[(.ref w_enc), (.ref a1), (.int 0), (.int 5), (.ref a2)] h0 (fun v h L => v = some (.int 8) ∧ Fr n0 L ∧ Keep h0 h [a2] ∧ Exa Z h a2 "[B" ∧ Arv Z h a2 k_a2 .byte (8 : Int32) [(.int (fx26 p4 p5 p6)), (.int (fx27 p4 p5 p6)), (.int (fx28 p4 p5 p6)), (.int (fx29 p4 p5 p6)), (.int (fx7 p7)), (.int (fx13 p7 p8)), (.int (fx14 p8)), (.int 61)] (.int 0)) := by
  refine mfB (plainFor_of_name pn_23) hw fun p e s m below meth c s₁ Bd Kz X0 e0 => ?_
  obtain ⟨hx, hby, hml, hZ, hown, -⟩ := id Kz
  have qz := And.intro hx hby
  have N0 := Fr.nil n0
  obtain ⟨_, _, _, E_w_enc, F_isURL_w_enc, F_linemax_w_enc, F_doPadding_w_enc, S_w_tb, B_tb, _⟩ := id hp
  obtain ⟨T1, X1, e1, st1⟩ := gF X0 Kz 162 e0 (F_isURL_w_enc.ext O0.2) (mkF m 1 #[vr w_enc, vr a1, vi 0, vi 5, vr a2, uu, uu, uu, uu, uu, uu, uu, uu, uu, uu, uu] [(.ref w_enc)]) d26_1
  obtain ⟨T2, X2, e2, st2⟩ := getS2 X1 hx hZ hown (host := "") (Or.inl (wq hw 164 rfl)) Via.refl e1 (S_w_tb.ext O0.2) (g := (mkF m 13 #[vr w_enc, vr a1, vi 0, vi 5, vr a2, uu, uu, uu, uu, uu, uu, uu, uu, uu, uu, uu] [])) rfl (hb hby d26_13)
  obtain ⟨T3, X3, e3, st3⟩ := gF X2 Kz 155 e2 (F_linemax_w_enc.ext O0.2) (mkF m 37 #[vr w_enc, vr a1, vi 0, vi 5, vr a2, vr w_tb, vi 0, vi 3, vi 3, uu, uu, uu, uu, uu, uu, uu] [(.ref w_enc)]) d26_37
  obtain ⟨_, T4, Lc4, X4, hQ4, st4⟩ := cS X3 Kz y6 0 281 209 150 210 (rm14 l Z a0 hw [] w_enc w_tb cs_v cl_tb wv_fm hp h0 n0 O0) e3 (mkF m 83 #[vr w_enc, vr a1, vi 0, vi 5, vr a2, vr w_tb, vi 0, vi 3, vi 3, vi 0, uu, uu, uu, uu, uu, uu] [(.int 3), (.int 3)]) [(.int 3), (.int 3)] [] pd_0 d26_83
  obtain ⟨rfl, Nq4, eq4⟩ := hQ4
  have N4 := Fr.app N0 Nq4
  obtain ⟨T5, X5, e5, st5⟩ := gF X4 Kz 162 eq4 (F_isURL_w_enc.ext O0.2) (mkF m 99 #[vr w_enc, vr a1, vi 0, vi 5, vr a2, vr w_tb, vi 0, vi 3, vi 3, vi 0, vi 3, uu, uu, uu, uu, uu] [(.ref w_enc), (.int 0), (.ref a2), (.int 3), (.int 0), (.ref a1), (.ref w_enc)]) d26_99
  obtain ⟨_, T6, Lc6, X6, hQ6, st6⟩ := pB X5 Kz y7 0 282 283 285 284 286 130 (rm19 l Z a0 hw [] w_enc w_tb cs_v cl_tb wv_fm hp a1 a2 k_a1 p4 p5 p6 p7 p8 k_a2 h0 n0 O0 V_a1 V_a2 E_a2 g_a2) e5 (E_w_enc.ext O0.2) (mkF m 102 #[vr w_enc, vr a1, vi 0, vi 5, vr a2, vr w_tb, vi 0, vi 3, vi 3, vi 0, vi 3, uu, uu, uu, uu, uu] [(.int 0), (.int 0), (.ref a2), (.int 3), (.int 0), (.ref a1), (.ref w_enc)]) [(.ref a1), (.int 0), (.int 3), (.ref a2), (.int 0), (.int 0)] [] pd_1 d26_102
  obtain ⟨rfl, Nq6, Kq6, fq6_0, fq6_1⟩ := hQ6
  have N6 := Fr.app N4 Nq6
  have O6 := O0.keep Kq6 (allS g_a2 all0)
  have K6 : Keep h0 T6.heap [a2] := (Keep.refl h0 [a2]).trans Kq6 (allS (Or.inl (ma 0 rfl)) all0)
  obtain ⟨T7, X7, e7, st7⟩ := gF X6 Kz 155 rfl (F_linemax_w_enc.ext O6.2) (mkF m 130 #[vr w_enc, vr a1, vi 0, vi 5, vr a2, vr w_tb, vi 3, vi 3, vi 3, vi 4, vi 3, vi 4, uu, uu, uu, uu] [(.ref w_enc), (.int 4)]) d26_130
  obtain ⟨T10, h10, X10, e10, W10, V_a2_10, st10⟩ := wB X7 Kz e7 fq6_1 (4 : Int32) 4 (mkF m 223 #[vr w_enc, vr a1, vi 0, vi 5, vr a2, vr w_tb, vi 4, vi 3, vi 3, vi 5, .val (.int (p7 &&& (255 : Int32))), vi 4, uu, uu, uu, uu] [(.int (fx4 p7)), (.int 4), (.ref a2)]) d26_223
  have N10 := Fr.snoc X10 N6 g_a2
  have O10 := O6.wr W10 g_a2
  have K10 : Keep h0 h10 [a2] := K6.wr W10 (Or.inl (ma 0 rfl))
  obtain ⟨T13, h13, X13, e13, W13, V_a2_13, st13⟩ := wB X10 Kz e10 V_a2_10 (5 : Int32) 5 (mkF m 315 #[vr w_enc, vr a1, vi 0, vi 5, vr a2, vr w_tb, vi 5, vi 3, vi 3, vi 6, .val (.int (p7 &&& (255 : Int32))), .val (.int (p8 &&& (255 : Int32))), uu, uu, uu, uu] [(.int (fx10 p7 p8)), (.int 5), (.ref a2)]) d26_315
  have N13 := Fr.snoc X13 N10 g_a2
  have O13 := O10.wr W13 g_a2
  have K13 : Keep h0 h13 [a2] := K10.wr W13 (Or.inl (ma 0 rfl))
  obtain ⟨T16, h16, X16, e16, W16, V_a2_16, st16⟩ := wB X13 Kz e13 V_a2_13 (6 : Int32) 6 (mkF m 334 #[vr w_enc, vr a1, vi 0, vi 5, vr a2, vr w_tb, vi 5, vi 3, vi 3, vi 7, .val (.int (p7 &&& (255 : Int32))), .val (.int (p8 &&& (255 : Int32))), uu, uu, uu, uu] [(.int (fx12 p8)), (.int 6), (.ref a2)]) d26_334
  have N16 := Fr.snoc X16 N13 g_a2
  have O16 := O13.wr W16 g_a2
  have K16 : Keep h0 h16 [a2] := K13.wr W16 (Or.inl (ma 0 rfl))
  obtain ⟨T17, X17, e17, st17⟩ := gF X16 Kz 146 e16 (F_doPadding_w_enc.ext O16.2) (mkF m 336 #[vr w_enc, vr a1, vi 0, vi 5, vr a2, vr w_tb, vi 5, vi 3, vi 3, vi 7, .val (.int (p7 &&& (255 : Int32))), .val (.int (p8 &&& (255 : Int32))), uu, uu, uu, uu] [(.ref w_enc)]) d26_336
  obtain ⟨T19, h19, X19, e19, W19, V_a2_19, st19⟩ := wB X17 Kz e17 V_a2_16 (7 : Int32) 7 (mkF m 351 #[vr w_enc, vr a1, vi 0, vi 5, vr a2, vr w_tb, vi 5, vi 3, vi 3, vi 8, .val (.int (p7 &&& (255 : Int32))), .val (.int (p8 &&& (255 : Int32))), uu, uu, uu, uu] [(.int 61), (.int 7), (.ref a2)]) d26_351
  have N19 := Fr.snoc X19 N16 g_a2
  have K19 : Keep h0 h19 [a2] := K16.wr W19 (Or.inl (ma 0 rfl))
  refine mfE Bd X19 (some (.int 8)) e19 (fun h => by rw [Bd.returns] at h; cases h) (ef_26_0 m w_enc a1 (0 : Int32) (5 : Int32) a2) ⟨rfl, N19, K19, ((((fq6_0.wr W10).wr W13).wr W16).wr W19), V_a2_19⟩ fun fs hr => ?_
  refine aln X0 qz d26_0 ?_
  refine st1 _ ?_
  refine ifY X1 qz 4 13 d26_4 (teq (by decide : (0 : Int32) = (0 : Int32))).1 ?_
  refine st2 _ ?_
  refine sta X2 qz d26_16 #[vr w_enc, vr a1, vi 0, vi 5, vr a2, vr w_tb, uu, uu, uu, uu, uu, uu, uu, uu, uu, uu] ?_
  refine iln X2 qz d26_18 ?_
  refine st X2 qz d26_19 #[vr w_enc, vr a1, vi 0, vi 5, vr a2, vr w_tb, vi 0, uu, uu, uu, uu, uu, uu, uu, uu, uu] ?_
  refine iln X2 qz d26_21 ?_
  refine iln X2 qz d26_22 ?_
  refine wib X2 qz d26_23 ?_
  refine stk (y := (.int 5)) rfl ?_
  refine ic X2 qz d26_24 ?_
  refine XS.idiv X2.here hx rfl (hb hby d26_25) rfl (by decide) ?_
  refine stk (y := (.int 1)) rfl ?_
  refine ic X2 qz d26_26 ?_
  refine wimul X2 qz d26_27 ?_
  refine stk (y := (.int 3)) rfl ?_
  refine st X2 qz d26_28 #[vr w_enc, vr a1, vi 0, vi 5, vr a2, vr w_tb, vi 0, vi 3, uu, uu, uu, uu, uu, uu, uu, uu] ?_
  refine iln X2 qz d26_30 ?_
  show Sp p e below T2 (mkF m 31 #[vr w_enc, vr a1, vi 0, vi 5, vr a2, vr w_tb, vi 0, vi 3, uu, uu, uu, uu, uu, uu, uu, uu] [(.int 0)]) _
  refine il X2 qz d26_31 ?_
  refine wia X2 qz d26_33 ?_
  refine stk (y := (.int 3)) rfl ?_
  refine st X2 qz d26_34 #[vr w_enc, vr a1, vi 0, vi 5, vr a2, vr w_tb, vi 0, vi 3, vi 3, uu, uu, uu, uu, uu, uu, uu] ?_
  refine aln X2 qz d26_36 ?_
  refine st3 _ ?_
  refine ifY X3 qz 40 66 d26_40 (flt (by decide : ¬ ((0 : Int32) < (-1 : Int32)))).2.2.2 ?_
  refine ic X3 qz d26_66 ?_
  refine st X3 qz d26_67 #[vr w_enc, vr a1, vi 0, vi 5, vr a2, vr w_tb, vi 0, vi 3, vi 3, vi 0, uu, uu, uu, uu, uu, uu] ?_
  refine il X3 qz d26_69 ?_
  refine il X3 qz d26_71 ?_
  refine icN X3 qz d26_73 (tlt (by decide : (0 : Int32) < (3 : Int32))).2.1 ?_
  refine il X3 qz d26_76 ?_
  refine il X3 qz d26_78 ?_
  refine wia X3 qz d26_80 ?_
  refine stk (y := (.int 3)) rfl ?_
  refine il X3 qz d26_81 ?_
  refine st4 _ ?_
  show Sp p e below T4 (mkF m 86 #[vr w_enc, vr a1, vi 0, vi 5, vr a2, vr w_tb, vi 0, vi 3, vi 3, vi 0, uu, uu, uu, uu, uu, uu] [(.int 3)]) _
  refine st X4 qz d26_86 #[vr w_enc, vr a1, vi 0, vi 5, vr a2, vr w_tb, vi 0, vi 3, vi 3, vi 0, vi 3, uu, uu, uu, uu, uu] ?_
  refine aln X4 qz d26_88 ?_
  refine aln X4 qz d26_89 ?_
  refine il X4 qz d26_90 ?_
  refine il X4 qz d26_92 ?_
  refine al X4 qz d26_94 ?_
  refine il X4 qz d26_96 ?_
  refine aln X4 qz d26_98 ?_
  refine st5 _ ?_
  refine st6.trans ?_
  refine il X6 qz d26_105 ?_
  refine il X6 qz d26_107 ?_
  refine wib X6 qz d26_109 ?_
  refine stk (y := (.int 3)) rfl ?_
  refine ic X6 qz d26_110 ?_
  refine XS.idiv X6.here hx rfl (hb hby d26_111) rfl (by decide) ?_
  refine stk (y := (.int 1)) rfl ?_
  refine ic X6 qz d26_112 ?_
  show Sp p e below T6 (mkF m 113 #[vr w_enc, vr a1, vi 0, vi 5, vr a2, vr w_tb, vi 0, vi 3, vi 3, vi 0, vi 3, uu, uu, uu, uu, uu] [(.int 4), (.int 1)]) _
  refine wimul X6 qz d26_113 ?_
  refine stk (y := (.int 4)) rfl ?_
  refine st X6 qz d26_114 #[vr w_enc, vr a1, vi 0, vi 5, vr a2, vr w_tb, vi 0, vi 3, vi 3, vi 0, vi 3, vi 4, uu, uu, uu, uu] ?_
  refine il X6 qz d26_116 ?_
  refine il X6 qz d26_118 ?_
  refine wia X6 qz d26_120 ?_
  refine stk (y := (.int 4)) rfl ?_
  refine st X6 qz d26_121 #[vr w_enc, vr a1, vi 0, vi 5, vr a2, vr w_tb, vi 0, vi 3, vi 3, vi 4, vi 3, vi 4, uu, uu, uu, uu] ?_
  refine il X6 qz d26_123 ?_
  refine st X6 qz d26_125 #[vr w_enc, vr a1, vi 0, vi 5, vr a2, vr w_tb, vi 3, vi 3, vi 3, vi 4, vi 3, vi 4, uu, uu, uu, uu] ?_
  refine il X6 qz d26_127 ?_
  refine aln X6 qz d26_129 ?_
  refine st7 _ ?_
  refine icY X7 qz 133 186 d26_133 (feq (by decide : ¬ ((4 : Int32) = (-1 : Int32)))).2 ?_
  refine gt X7 qz 186 69 d26_186 ?_
  refine il X7 qz d26_69 ?_
  refine il X7 qz d26_71 ?_
  refine icY X7 qz 73 189 d26_73 (flt (by decide : ¬ ((3 : Int32) < (3 : Int32)))).2.1 ?_
  show Sp p e below T7 (mkF m 189 #[vr w_enc, vr a1, vi 0, vi 5, vr a2, vr w_tb, vi 3, vi 3, vi 3, vi 4, vi 3, vi 4, uu, uu, uu, uu] []) _
  refine il X7 qz d26_189 ?_
  refine iln X7 qz d26_191 ?_
  refine icN X7 qz d26_192 (tlt (by decide : (3 : Int32) < (5 : Int32))).2.1 ?_
  refine aln X7 qz d26_195 ?_
  refine il X7 qz d26_196 ?_
  refine XS.iinc X7.here hx rfl (hb hby d26_198) rfl (l' := #[vr w_enc, vr a1, vi 0, vi 5, vr a2, vr w_tb, vi 4, vi 3, vi 3, vi 4, vi 3, vi 4, uu, uu, uu, uu]) rfl ?_
  refine rB X7 Kz e7 (V_a1.keep Kq6 (ninS ne_a1_a2 nin0)) d26_201 ?_
  refine sp X7 qz d26_202 ?_
  refine wiand X7 qz d26_205 ?_
  refine st X7 qz d26_206 #[vr w_enc, vr a1, vi 0, vi 5, vr a2, vr w_tb, vi 4, vi 3, vi 3, vi 4, .val (.int (p7 &&& (255 : Int32))), vi 4, uu, uu, uu, uu] ?_
  refine al X7 qz d26_208 ?_
  refine il X7 qz d26_210 ?_
  refine XS.iinc X7.here hx rfl (hb hby d26_212) rfl (l' := #[vr w_enc, vr a1, vi 0, vi 5, vr a2, vr w_tb, vi 4, vi 3, vi 3, vi 5, .val (.int (p7 &&& (255 : Int32))), vi 4, uu, uu, uu, uu]) rfl ?_
  refine al X7 qz d26_215 ?_
  refine il X7 qz d26_217 ?_
  refine ic X7 qz d26_219 ?_
  show Sp p e below T7 (mkF m 220 #[vr w_enc, vr a1, vi 0, vi 5, vr a2, vr w_tb, vi 4, vi 3, vi 3, vi 5, .val (.int (p7 &&& (255 : Int32))), vi 4, uu, uu, uu, uu] [(.int 2), (.int (p7 &&& (255 : Int32))), (.ref w_tb), (.int 4), (.ref a2)]) _
  refine wishr X7 qz d26_220 ?_
  show Sp p e below T7 (mkF m 221 #[vr w_enc, vr a1, vi 0, vi 5, vr a2, vr w_tb, vi 4, vi 3, vi 3, vi 5, .val (.int (p7 &&& (255 : Int32))), vi 4, uu, uu, uu, uu] [(.int (fx3 p7)), (.ref w_tb), (.int 4), (.ref a2)]) _
  refine tbR X7 Kz e7 O6 B_tb (own_i2 p7) d26_221 ?_
  refine wib2 X7 qz d26_222 ?_
  refine st10 _ ?_
  refine il X10 qz d26_224 ?_
  refine iln X10 qz d26_226 ?_
  refine icY X10 qz 227 279 d26_227 (feq (by decide : ¬ ((4 : Int32) = (5 : Int32)))).2 ?_
  refine aln X10 qz d26_279 ?_
  refine il X10 qz d26_280 ?_
  refine XS.iinc X10.here hx rfl (hb hby d26_282) rfl (l' := #[vr w_enc, vr a1, vi 0, vi 5, vr a2, vr w_tb, vi 5, vi 3, vi 3, vi 5, .val (.int (p7 &&& (255 : Int32))), vi 4, uu, uu, uu, uu]) rfl ?_
  refine rB X10 Kz e10 ((V_a1.keep Kq6 (ninS ne_a1_a2 nin0)).other W10 ne_a1_a2) d26_285 ?_
  refine sp X10 qz d26_286 ?_
  refine wiand X10 qz d26_289 ?_
  refine st X10 qz d26_290 #[vr w_enc, vr a1, vi 0, vi 5, vr a2, vr w_tb, vi 5, vi 3, vi 3, vi 5, .val (.int (p7 &&& (255 : Int32))), .val (.int (p8 &&& (255 : Int32))), uu, uu, uu, uu] ?_
  refine al X10 qz d26_292 ?_
  refine il X10 qz d26_294 ?_
  refine XS.iinc X10.here hx rfl (hb hby d26_296) rfl (l' := #[vr w_enc, vr a1, vi 0, vi 5, vr a2, vr w_tb, vi 5, vi 3, vi 3, vi 6, .val (.int (p7 &&& (255 : Int32))), .val (.int (p8 &&& (255 : Int32))), uu, uu, uu, uu]) rfl ?_
  show Sp p e below T10 (mkF m 299 #[vr w_enc, vr a1, vi 0, vi 5, vr a2, vr w_tb, vi 5, vi 3, vi 3, vi 6, .val (.int (p7 &&& (255 : Int32))), .val (.int (p8 &&& (255 : Int32))), uu, uu, uu, uu] [(.int 5), (.ref a2)]) _
  refine al X10 qz d26_299 ?_
  refine il X10 qz d26_301 ?_
  refine ic X10 qz d26_303 ?_
  refine wishl X10 qz d26_304 ?_
  refine bp X10 qz d26_305 ?_
  refine wiand X10 qz d26_307 ?_
  refine il X10 qz d26_308 ?_
  refine ic X10 qz d26_310 ?_
  refine wishr X10 qz d26_311 ?_
  refine wior X10 qz d26_312 ?_
  show Sp p e below T10 (mkF m 313 #[vr w_enc, vr a1, vi 0, vi 5, vr a2, vr w_tb, vi 5, vi 3, vi 3, vi 6, .val (.int (p7 &&& (255 : Int32))), .val (.int (p8 &&& (255 : Int32))), uu, uu, uu, uu] [(.int (fx9 p7 p8)), (.ref w_tb), (.int 5), (.ref a2)]) _
  refine tbR X10 Kz e10 O10 B_tb (own_i4 p7 p8) d26_313 ?_
  refine wib2 X10 qz d26_314 ?_
  refine st13 _ ?_
  refine al X13 qz d26_316 ?_
  refine il X13 qz d26_318 ?_
  refine XS.iinc X13.here hx rfl (hb hby d26_320) rfl (l' := #[vr w_enc, vr a1, vi 0, vi 5, vr a2, vr w_tb, vi 5, vi 3, vi 3, vi 7, .val (.int (p7 &&& (255 : Int32))), .val (.int (p8 &&& (255 : Int32))), uu, uu, uu, uu]) rfl ?_
  refine al X13 qz d26_323 ?_
  refine il X13 qz d26_325 ?_
  refine ic X13 qz d26_327 ?_
  refine wishl X13 qz d26_328 ?_
  refine bp X13 qz d26_329 ?_
  refine wiand X13 qz d26_331 ?_
  show Sp p e below T13 (mkF m 332 #[vr w_enc, vr a1, vi 0, vi 5, vr a2, vr w_tb, vi 5, vi 3, vi 3, vi 7, .val (.int (p7 &&& (255 : Int32))), .val (.int (p8 &&& (255 : Int32))), uu, uu, uu, uu] [(.int (fx11 p8)), (.ref w_tb), (.int 6), (.ref a2)]) _
  refine tbR X13 Kz e13 O13 B_tb (own_i63 ((p8 &&& (255 : Int32)) <<< ((2 : Int32) &&& 31))) d26_332 ?_
  refine wib2 X13 qz d26_333 ?_
  refine st16 _ ?_
  refine aln X16 qz d26_335 ?_
  refine st17 _ ?_
  refine ifN X17 qz d26_339 (feq (by decide : ¬ ((1 : Int32) = (0 : Int32)))).1 ?_
  refine al X17 qz d26_342 ?_
  refine il X17 qz d26_344 ?_
  refine XS.iinc X17.here hx rfl (hb hby d26_346) rfl (l' := #[vr w_enc, vr a1, vi 0, vi 5, vr a2, vr w_tb, vi 5, vi 3, vi 3, vi 8, .val (.int (p7 &&& (255 : Int32))), .val (.int (p8 &&& (255 : Int32))), uu, uu, uu, uu]) rfl ?_
  refine bp X17 qz d26_349 ?_
  refine st19 _ ?_
  refine il X19 qz d26_352 ?_
  exact retI X19 hx Bd.returns (hb hby d26_354) hr
theorem rm21 (l : Launch) (Z : State) (a0 : Array Value) (hw : HW Z a0) (ws : List Jvm.Cond) (w_enc w_tb : Addr) (cs_v : Int32) (cl_tb : Cell) (wv_fm : Value) (hp : Perm Z w_enc w_tb cs_v cl_tb wv_fm) (h0 : Heap) (n0 : Nat) (O0 : Old Z n0 h0) :
    MF l y6 (Jvm.Cond.code y6 jdk_29_method_69_code 2 (some .int) :: ws) ({ frames := 0, cells := 0, slots := 0, locals := 0 } : Room) Z #[(.int 6), (.int 6)] h0 (fun v h L => v = some (.int 6) ∧ Fr n0 L ∧ h = h0) := by
  refine mfB (Jvm.Free.JP.mathPlain rfl (by decide +kernel)) hw fun p e s m below meth c s₁ Bd Kz X0 e0 => ?_
  obtain ⟨hx, hby, hml, hZ, hown, -⟩ := id Kz
  have qz := And.intro hx hby
  have N0 := Fr.nil n0
  refine mfE Bd X0 (some (.int 6)) e0 (fun h => by rw [Bd.returns] at h; cases h) (ef_35_0 m (6 : Int32) (6 : Int32)) ⟨rfl, N0, rfl⟩ fun fs hr => ?_
  refine iln X0 qz d35_0 ?_
  refine iln X0 qz d35_1 ?_
  refine icN X0 qz d35_2 (flt (by decide : ¬ ((6 : Int32) < (6 : Int32)))).2.2.1 ?_
  refine iln X0 qz d35_5 ?_
  refine gt X0 qz 6 10 d35_6 ?_
  exact retI X0 hx Bd.returns (hb hby d35_10) hr
theorem rm22 (l : Launch) (Z : State) (a0 : Array Value) (hw : HW Z a0) (ws : List Jvm.Cond) (w_enc w_tb : Addr) (cs_v : Int32) (cl_tb : Cell) (wv_fm : Value) (hp : Perm Z w_enc w_tb cs_v cl_tb wv_fm) (a1 : Addr) (a2 : Addr) (k_a1 : ClassId) (p4 : Int32) (p5 : Int32) (p6 : Int32) (p7 : Int32) (p8 : Int32) (p9 : Int32) (k_a2 : ClassId) (h0 : Heap) (n0 : Nat) (O0 : Old Z n0 h0) (V_a1 : Arv Z h0 a1 k_a1 .byte (6 : Int32) [(.int p4), (.int p5), (.int p6), (.int p7), (.int p8), (.int p9)] (.int 0)) (V_a2 : Arv Z h0 a2 k_a2 .byte (8 : Int32) [(.int 0), (.int 0), (.int 0), (.int 0), (.int 0), (.int 0), (.int 0), (.int 0)] (.int 0)) (E_a2 : Exa Z h0 a2 "[B") (g_a2 : n0 ≤ a2) (ne_a1_a2 : a1 ≠ a2) :
    MF l y7 (Jvm.Cond.code y7 jdk_2452_method_9_code 11 none :: ws) ({ frames := 0, cells := 0, slots := 0, locals := 0 } : Room) Z #[(.ref w_enc), (.ref a1), (.int 0), (.int 6), (.ref a2), (.int 0), (.int 0)] h0 (fun v h L => v = none ∧ Fr n0 L ∧ Keep h0 h [a2] ∧ Exa Z h a2 "[B" ∧ Arv Z h a2 k_a2 .byte (8 : Int32) [(.int (fx26 p4 p5 p6)), (.int (fx27 p4 p5 p6)), (.int (fx28 p4 p5 p6)), (.int (fx29 p4 p5 p6)), (.int (fx26 p7 p8 p9)), (.int (fx27 p7 p8 p9)), (.int (fx28 p7 p8 p9)), (.int (fx29 p7 p8 p9))] (.int 0)) := by
  refine mfB (plainFor_of_name pn_23) hw fun p e s m below meth c s₁ Bd Kz X0 e0 => ?_
  obtain ⟨hx, hby, hml, hZ, hown, -⟩ := id Kz
  have qz := And.intro hx hby
  have N0 := Fr.nil n0
  obtain ⟨_, _, _, _, _, _, _, S_w_tb, B_tb, _⟩ := id hp
  obtain ⟨T1, X1, e1, st1⟩ := getS2 X0 hx hZ hown (host := "") (Or.inl (wq hw 164 rfl)) Via.refl e0 (S_w_tb.ext O0.2) (g := (mkF m 11 #[vr w_enc, vr a1, vi 0, vi 6, vr a2, vi 0, vi 0, uu, uu, uu, uu] [])) rfl (hb hby d54_11)
  obtain ⟨T4, h4, X4, e4, W4, V_a2_4, st4⟩ := wB X1 Kz e1 V_a2 (0 : Int32) 0 (mkF m 91 #[vr w_enc, vr a1, vi 0, vi 6, vr a2, vi 0, vi 0, vr w_tb, vi 3, vi 1, vi (fx17 p4 p5 p6)] [(.int (fx19 p4 p5 p6)), (.int 0), (.ref a2)]) d54_91
  have N4 := Fr.snoc X4 N0 g_a2
  have O4 := O0.wr W4 g_a2
  have K4 : Keep h0 h4 [a2] := (Keep.refl h0 [a2]).wr W4 (Or.inl (ma 0 rfl))
  obtain ⟨T7, h7, X7, e7, W7, V_a2_7, st7⟩ := wB X4 Kz e4 V_a2_4 (1 : Int32) 1 (mkF m 111 #[vr w_enc, vr a1, vi 0, vi 6, vr a2, vi 0, vi 0, vr w_tb, vi 3, vi 2, vi (fx17 p4 p5 p6)] [(.int (fx21 p4 p5 p6)), (.int 1), (.ref a2)]) d54_111
  have N7 := Fr.snoc X7 N4 g_a2
  have O7 := O4.wr W7 g_a2
  have K7 : Keep h0 h7 [a2] := K4.wr W7 (Or.inl (ma 0 rfl))
  obtain ⟨T10, h10, X10, e10, W10, V_a2_10, st10⟩ := wB X7 Kz e7 V_a2_7 (2 : Int32) 2 (mkF m 131 #[vr w_enc, vr a1, vi 0, vi 6, vr a2, vi 0, vi 0, vr w_tb, vi 3, vi 3, vi (fx17 p4 p5 p6)] [(.int (fx23 p4 p5 p6)), (.int 2), (.ref a2)]) d54_131
  have N10 := Fr.snoc X10 N7 g_a2
  have O10 := O7.wr W10 g_a2
  have K10 : Keep h0 h10 [a2] := K7.wr W10 (Or.inl (ma 0 rfl))
  obtain ⟨T13, h13, X13, e13, W13, V_a2_13, st13⟩ := wB X10 Kz e10 V_a2_10 (3 : Int32) 3 (mkF m 148 #[vr w_enc, vr a1, vi 0, vi 6, vr a2, vi 0, vi 0, vr w_tb, vi 3, vi 4, vi (fx17 p4 p5 p6)] [(.int (fx25 p4 p5 p6)), (.int 3), (.ref a2)]) d54_148
  have N13 := Fr.snoc X13 N10 g_a2
  have O13 := O10.wr W13 g_a2
  have K13 : Keep h0 h13 [a2] := K10.wr W13 (Or.inl (ma 0 rfl))
  have f_14 := ((((V_a1.other W4 ne_a1_a2).other W7 ne_a1_a2).other W10 ne_a1_a2).other W13 ne_a1_a2)
  obtain ⟨T17, h17, X17, e17, W17, V_a2_17, st17⟩ := wB X13 Kz e13 V_a2_13 (4 : Int32) 4 (mkF m 91 #[vr w_enc, vr a1, vi 0, vi 6, vr a2, vi 0, vi 0, vr w_tb, vi 6, vi 5, vi (fx17 p7 p8 p9)] [(.int (fx19 p7 p8 p9)), (.int 4), (.ref a2)]) d54_91
  have N17 := Fr.snoc X17 N13 g_a2
  have O17 := O13.wr W17 g_a2
  have K17 : Keep h0 h17 [a2] := K13.wr W17 (Or.inl (ma 0 rfl))
  obtain ⟨T20, h20, X20, e20, W20, V_a2_20, st20⟩ := wB X17 Kz e17 V_a2_17 (5 : Int32) 5 (mkF m 111 #[vr w_enc, vr a1, vi 0, vi 6, vr a2, vi 0, vi 0, vr w_tb, vi 6, vi 6, vi (fx17 p7 p8 p9)] [(.int (fx21 p7 p8 p9)), (.int 5), (.ref a2)]) d54_111
  have N20 := Fr.snoc X20 N17 g_a2
  have O20 := O17.wr W20 g_a2
  have K20 : Keep h0 h20 [a2] := K17.wr W20 (Or.inl (ma 0 rfl))
  obtain ⟨T23, h23, X23, e23, W23, V_a2_23, st23⟩ := wB X20 Kz e20 V_a2_20 (6 : Int32) 6 (mkF m 131 #[vr w_enc, vr a1, vi 0, vi 6, vr a2, vi 0, vi 0, vr w_tb, vi 6, vi 7, vi (fx17 p7 p8 p9)] [(.int (fx23 p7 p8 p9)), (.int 6), (.ref a2)]) d54_131
  have N23 := Fr.snoc X23 N20 g_a2
  have O23 := O20.wr W23 g_a2
  have K23 : Keep h0 h23 [a2] := K20.wr W23 (Or.inl (ma 0 rfl))
  obtain ⟨T26, h26, X26, e26, W26, V_a2_26, st26⟩ := wB X23 Kz e23 V_a2_23 (7 : Int32) 7 (mkF m 148 #[vr w_enc, vr a1, vi 0, vi 6, vr a2, vi 0, vi 0, vr w_tb, vi 6, vi 8, vi (fx17 p7 p8 p9)] [(.int (fx25 p7 p8 p9)), (.int 7), (.ref a2)]) d54_148
  have N26 := Fr.snoc X26 N23 g_a2
  have K26 : Keep h0 h26 [a2] := K23.wr W26 (Or.inl (ma 0 rfl))
  have f_27 := ((((((((E_a2.wr W4).wr W7).wr W10).wr W13).wr W17).wr W20).wr W23).wr W26)
  refine mfE Bd X26 (none) e26 (fun _ => rfl) (ef_54_0 m w_enc a1 (0 : Int32) (6 : Int32) a2 (0 : Int32) (0 : Int32)) ⟨rfl, N26, K26, f_27, V_a2_26⟩ fun fs hr => ?_
  refine il X0 qz d54_0 ?_
  refine ifY X0 qz 2 11 d54_2 (teq (by decide : (0 : Int32) = (0 : Int32))).1 ?_
  refine st1 _ ?_
  refine sta X1 qz d54_14 #[vr w_enc, vr a1, vi 0, vi 6, vr a2, vi 0, vi 0, vr w_tb, uu, uu, uu] ?_
  refine iln X1 qz d54_16 ?_
  refine st X1 qz d54_17 #[vr w_enc, vr a1, vi 0, vi 6, vr a2, vi 0, vi 0, vr w_tb, vi 0, uu, uu] ?_
  refine il X1 qz d54_19 ?_
  refine st X1 qz d54_21 #[vr w_enc, vr a1, vi 0, vi 6, vr a2, vi 0, vi 0, vr w_tb, vi 0, vi 0, uu] ?_
  refine il X1 qz d54_23 ?_
  refine iln X1 qz d54_25 ?_
  refine icN X1 qz d54_26 (tlt (by decide : (0 : Int32) < (6 : Int32))).2.1 ?_
  refine aln X1 qz d54_29 ?_
  refine il X1 qz d54_30 ?_
  refine XS.iinc X1.here hx rfl (hb hby d54_32) rfl (l' := #[vr w_enc, vr a1, vi 0, vi 6, vr a2, vi 0, vi 0, vr w_tb, vi 1, vi 0, uu]) rfl ?_
  refine rB X1 Kz e1 V_a1 d54_35 ?_
  refine sp X1 qz d54_36 ?_
  show Sp p e below T1 (mkF m 39 #[vr w_enc, vr a1, vi 0, vi 6, vr a2, vi 0, vi 0, vr w_tb, vi 1, vi 0, uu] [(.int 255), (.int p4)]) _
  refine wiand X1 qz d54_39 ?_
  refine bp X1 qz d54_40 ?_
  refine wishl X1 qz d54_42 ?_
  refine aln X1 qz d54_43 ?_
  refine il X1 qz d54_44 ?_
  refine XS.iinc X1.here hx rfl (hb hby d54_46) rfl (l' := #[vr w_enc, vr a1, vi 0, vi 6, vr a2, vi 0, vi 0, vr w_tb, vi 2, vi 0, uu]) rfl ?_
  refine rB X1 Kz e1 V_a1 d54_49 ?_
  refine sp X1 qz d54_50 ?_
  refine wiand X1 qz d54_53 ?_
  refine bp X1 qz d54_54 ?_
  refine wishl X1 qz d54_56 ?_
  refine wior X1 qz d54_57 ?_
  refine aln X1 qz d54_58 ?_
  refine il X1 qz d54_59 ?_
  refine XS.iinc X1.here hx rfl (hb hby d54_61) rfl (l' := #[vr w_enc, vr a1, vi 0, vi 6, vr a2, vi 0, vi 0, vr w_tb, vi 3, vi 0, uu]) rfl ?_
  refine rB X1 Kz e1 V_a1 d54_64 ?_
  show Sp p e below T1 (mkF m 65 #[vr w_enc, vr a1, vi 0, vi 6, vr a2, vi 0, vi 0, vr w_tb, vi 3, vi 0, uu] [(.int p6), (.int (fx16 p4 p5))]) _
  refine sp X1 qz d54_65 ?_
  refine wiand X1 qz d54_68 ?_
  refine wior X1 qz d54_69 ?_
  refine st X1 qz d54_70 #[vr w_enc, vr a1, vi 0, vi 6, vr a2, vi 0, vi 0, vr w_tb, vi 3, vi 0, vi (fx17 p4 p5 p6)] ?_
  refine al X1 qz d54_72 ?_
  refine il X1 qz d54_74 ?_
  refine XS.iinc X1.here hx rfl (hb hby d54_76) rfl (l' := #[vr w_enc, vr a1, vi 0, vi 6, vr a2, vi 0, vi 0, vr w_tb, vi 3, vi 1, vi (fx17 p4 p5 p6)]) rfl ?_
  refine al X1 qz d54_79 ?_
  refine il X1 qz d54_81 ?_
  refine bp X1 qz d54_83 ?_
  refine wiushr X1 qz d54_85 ?_
  refine bp X1 qz d54_86 ?_
  refine wiand X1 qz d54_88 ?_
  show Sp p e below T1 (mkF m 89 #[vr w_enc, vr a1, vi 0, vi 6, vr a2, vi 0, vi 0, vr w_tb, vi 3, vi 1, vi (fx17 p4 p5 p6)] [(.int (fx18 p4 p5 p6)), (.ref w_tb), (.int 0), (.ref a2)]) _
  refine tbR X1 Kz e1 O0 B_tb (own_i63 ((((((p4 &&& (255 : Int32)) <<< ((16 : Int32) &&& 31)) ||| ((p5 &&& (255 : Int32)) <<< ((8 : Int32) &&& 31))) ||| (p6 &&& (255 : Int32))).toUInt32 >>> ((18 : Int32) &&& 31).toUInt32).toInt32)) d54_89 ?_
  refine wib2 X1 qz d54_90 ?_
  refine st4 _ ?_
  refine al X4 qz d54_92 ?_
  refine il X4 qz d54_94 ?_
  refine XS.iinc X4.here hx rfl (hb hby d54_96) rfl (l' := #[vr w_enc, vr a1, vi 0, vi 6, vr a2, vi 0, vi 0, vr w_tb, vi 3, vi 2, vi (fx17 p4 p5 p6)]) rfl ?_
  refine al X4 qz d54_99 ?_
  refine il X4 qz d54_101 ?_
  refine bp X4 qz d54_103 ?_
  refine wiushr X4 qz d54_105 ?_
  refine bp X4 qz d54_106 ?_
  refine wiand X4 qz d54_108 ?_
  show Sp p e below T4 (mkF m 109 #[vr w_enc, vr a1, vi 0, vi 6, vr a2, vi 0, vi 0, vr w_tb, vi 3, vi 2, vi (fx17 p4 p5 p6)] [(.int (fx20 p4 p5 p6)), (.ref w_tb), (.int 1), (.ref a2)]) _
  refine tbR X4 Kz e4 O4 B_tb (own_i63 ((((((p4 &&& (255 : Int32)) <<< ((16 : Int32) &&& 31)) ||| ((p5 &&& (255 : Int32)) <<< ((8 : Int32) &&& 31))) ||| (p6 &&& (255 : Int32))).toUInt32 >>> ((12 : Int32) &&& 31).toUInt32).toInt32)) d54_109 ?_
  refine wib2 X4 qz d54_110 ?_
  refine st7 _ ?_
  refine al X7 qz d54_112 ?_
  refine il X7 qz d54_114 ?_
  refine XS.iinc X7.here hx rfl (hb hby d54_116) rfl (l' := #[vr w_enc, vr a1, vi 0, vi 6, vr a2, vi 0, vi 0, vr w_tb, vi 3, vi 3, vi (fx17 p4 p5 p6)]) rfl ?_
  refine al X7 qz d54_119 ?_
  refine il X7 qz d54_121 ?_
  refine bp X7 qz d54_123 ?_
  refine wiushr X7 qz d54_125 ?_
  refine bp X7 qz d54_126 ?_
  refine wiand X7 qz d54_128 ?_
  show Sp p e below T7 (mkF m 129 #[vr w_enc, vr a1, vi 0, vi 6, vr a2, vi 0, vi 0, vr w_tb, vi 3, vi 3, vi (fx17 p4 p5 p6)] [(.int (fx22 p4 p5 p6)), (.ref w_tb), (.int 2), (.ref a2)]) _
  refine tbR X7 Kz e7 O7 B_tb (own_i63 ((((((p4 &&& (255 : Int32)) <<< ((16 : Int32) &&& 31)) ||| ((p5 &&& (255 : Int32)) <<< ((8 : Int32) &&& 31))) ||| (p6 &&& (255 : Int32))).toUInt32 >>> ((6 : Int32) &&& 31).toUInt32).toInt32)) d54_129 ?_
  refine wib2 X7 qz d54_130 ?_
  refine st10 _ ?_
  refine al X10 qz d54_132 ?_
  refine il X10 qz d54_134 ?_
  refine XS.iinc X10.here hx rfl (hb hby d54_136) rfl (l' := #[vr w_enc, vr a1, vi 0, vi 6, vr a2, vi 0, vi 0, vr w_tb, vi 3, vi 4, vi (fx17 p4 p5 p6)]) rfl ?_
  refine al X10 qz d54_139 ?_
  refine il X10 qz d54_141 ?_
  refine bp X10 qz d54_143 ?_
  refine wiand X10 qz d54_145 ?_
  show Sp p e below T10 (mkF m 146 #[vr w_enc, vr a1, vi 0, vi 6, vr a2, vi 0, vi 0, vr w_tb, vi 3, vi 4, vi (fx17 p4 p5 p6)] [(.int (fx24 p4 p5 p6)), (.ref w_tb), (.int 3), (.ref a2)]) _
  refine tbR X10 Kz e10 O10 B_tb (own_i63 ((((p4 &&& (255 : Int32)) <<< ((16 : Int32) &&& 31)) ||| ((p5 &&& (255 : Int32)) <<< ((8 : Int32) &&& 31))) ||| (p6 &&& (255 : Int32)))) d54_146 ?_
  refine wib2 X10 qz d54_147 ?_
  refine st13 _ ?_
  refine gt X13 qz 149 23 d54_149 ?_
  refine il X13 qz d54_23 ?_
  refine iln X13 qz d54_25 ?_
  refine icN X13 qz d54_26 (tlt (by decide : (3 : Int32) < (6 : Int32))).2.1 ?_
  refine aln X13 qz d54_29 ?_
  refine il X13 qz d54_30 ?_
  refine XS.iinc X13.here hx rfl (hb hby d54_32) rfl (l' := #[vr w_enc, vr a1, vi 0, vi 6, vr a2, vi 0, vi 0, vr w_tb, vi 4, vi 4, vi (fx17 p4 p5 p6)]) rfl ?_
  refine rB X13 Kz e13 f_14 d54_35 ?_
  refine sp X13 qz d54_36 ?_
  refine wiand X13 qz d54_39 ?_
  refine bp X13 qz d54_40 ?_
  refine wishl X13 qz d54_42 ?_
  refine aln X13 qz d54_43 ?_
  show Sp p e below T13 (mkF m 44 #[vr w_enc, vr a1, vi 0, vi 6, vr a2, vi 0, vi 0, vr w_tb, vi 4, vi 4, vi (fx17 p4 p5 p6)] [(.ref a1), (.int (fx15 p7))]) _
  refine il X13 qz d54_44 ?_
  refine XS.iinc X13.here hx rfl (hb hby d54_46) rfl (l' := #[vr w_enc, vr a1, vi 0, vi 6, vr a2, vi 0, vi 0, vr w_tb, vi 5, vi 4, vi (fx17 p4 p5 p6)]) rfl ?_
  refine rB X13 Kz e13 f_14 d54_49 ?_
  refine sp X13 qz d54_50 ?_
  refine wiand X13 qz d54_53 ?_
  refine bp X13 qz d54_54 ?_
  refine wishl X13 qz d54_56 ?_
  refine wior X13 qz d54_57 ?_
  refine aln X13 qz d54_58 ?_
  refine il X13 qz d54_59 ?_
  refine XS.iinc X13.here hx rfl (hb hby d54_61) rfl (l' := #[vr w_enc, vr a1, vi 0, vi 6, vr a2, vi 0, vi 0, vr w_tb, vi 6, vi 4, vi (fx17 p4 p5 p6)]) rfl ?_
  refine rB X13 Kz e13 f_14 d54_64 ?_
  refine sp X13 qz d54_65 ?_
  refine wiand X13 qz d54_68 ?_
  refine wior X13 qz d54_69 ?_
  refine st X13 qz d54_70 #[vr w_enc, vr a1, vi 0, vi 6, vr a2, vi 0, vi 0, vr w_tb, vi 6, vi 4, vi (fx17 p7 p8 p9)] ?_
  show Sp p e below T13 (mkF m 72 #[vr w_enc, vr a1, vi 0, vi 6, vr a2, vi 0, vi 0, vr w_tb, vi 6, vi 4, vi (fx17 p7 p8 p9)] []) _
  refine al X13 qz d54_72 ?_
  refine il X13 qz d54_74 ?_
  refine XS.iinc X13.here hx rfl (hb hby d54_76) rfl (l' := #[vr w_enc, vr a1, vi 0, vi 6, vr a2, vi 0, vi 0, vr w_tb, vi 6, vi 5, vi (fx17 p7 p8 p9)]) rfl ?_
  refine al X13 qz d54_79 ?_
  refine il X13 qz d54_81 ?_
  refine bp X13 qz d54_83 ?_
  refine wiushr X13 qz d54_85 ?_
  refine bp X13 qz d54_86 ?_
  refine wiand X13 qz d54_88 ?_
  show Sp p e below T13 (mkF m 89 #[vr w_enc, vr a1, vi 0, vi 6, vr a2, vi 0, vi 0, vr w_tb, vi 6, vi 5, vi (fx17 p7 p8 p9)] [(.int (fx18 p7 p8 p9)), (.ref w_tb), (.int 4), (.ref a2)]) _
  refine tbR X13 Kz e13 O13 B_tb (own_i63 ((((((p7 &&& (255 : Int32)) <<< ((16 : Int32) &&& 31)) ||| ((p8 &&& (255 : Int32)) <<< ((8 : Int32) &&& 31))) ||| (p9 &&& (255 : Int32))).toUInt32 >>> ((18 : Int32) &&& 31).toUInt32).toInt32)) d54_89 ?_
  refine wib2 X13 qz d54_90 ?_
  refine st17 _ ?_
  refine al X17 qz d54_92 ?_
  refine il X17 qz d54_94 ?_
  refine XS.iinc X17.here hx rfl (hb hby d54_96) rfl (l' := #[vr w_enc, vr a1, vi 0, vi 6, vr a2, vi 0, vi 0, vr w_tb, vi 6, vi 6, vi (fx17 p7 p8 p9)]) rfl ?_
  refine al X17 qz d54_99 ?_
  refine il X17 qz d54_101 ?_
  refine bp X17 qz d54_103 ?_
  refine wiushr X17 qz d54_105 ?_
  refine bp X17 qz d54_106 ?_
  refine wiand X17 qz d54_108 ?_
  show Sp p e below T17 (mkF m 109 #[vr w_enc, vr a1, vi 0, vi 6, vr a2, vi 0, vi 0, vr w_tb, vi 6, vi 6, vi (fx17 p7 p8 p9)] [(.int (fx20 p7 p8 p9)), (.ref w_tb), (.int 5), (.ref a2)]) _
  refine tbR X17 Kz e17 O17 B_tb (own_i63 ((((((p7 &&& (255 : Int32)) <<< ((16 : Int32) &&& 31)) ||| ((p8 &&& (255 : Int32)) <<< ((8 : Int32) &&& 31))) ||| (p9 &&& (255 : Int32))).toUInt32 >>> ((12 : Int32) &&& 31).toUInt32).toInt32)) d54_109 ?_
  refine wib2 X17 qz d54_110 ?_
  refine st20 _ ?_
  refine al X20 qz d54_112 ?_
  refine il X20 qz d54_114 ?_
  refine XS.iinc X20.here hx rfl (hb hby d54_116) rfl (l' := #[vr w_enc, vr a1, vi 0, vi 6, vr a2, vi 0, vi 0, vr w_tb, vi 6, vi 7, vi (fx17 p7 p8 p9)]) rfl ?_
  refine al X20 qz d54_119 ?_
  refine il X20 qz d54_121 ?_
  refine bp X20 qz d54_123 ?_
  refine wiushr X20 qz d54_125 ?_
  refine bp X20 qz d54_126 ?_
  refine wiand X20 qz d54_128 ?_
  show Sp p e below T20 (mkF m 129 #[vr w_enc, vr a1, vi 0, vi 6, vr a2, vi 0, vi 0, vr w_tb, vi 6, vi 7, vi (fx17 p7 p8 p9)] [(.int (fx22 p7 p8 p9)), (.ref w_tb), (.int 6), (.ref a2)]) _
  refine tbR X20 Kz e20 O20 B_tb (own_i63 ((((((p7 &&& (255 : Int32)) <<< ((16 : Int32) &&& 31)) ||| ((p8 &&& (255 : Int32)) <<< ((8 : Int32) &&& 31))) ||| (p9 &&& (255 : Int32))).toUInt32 >>> ((6 : Int32) &&& 31).toUInt32).toInt32)) d54_129 ?_
  refine wib2 X20 qz d54_130 ?_
  refine st23 _ ?_
  refine al X23 qz d54_132 ?_
  refine il X23 qz d54_134 ?_
  refine XS.iinc X23.here hx rfl (hb hby d54_136) rfl (l' := #[vr w_enc, vr a1, vi 0, vi 6, vr a2, vi 0, vi 0, vr w_tb, vi 6, vi 8, vi (fx17 p7 p8 p9)]) rfl ?_
  refine al X23 qz d54_139 ?_
  refine il X23 qz d54_141 ?_
  refine bp X23 qz d54_143 ?_
  refine wiand X23 qz d54_145 ?_
  show Sp p e below T23 (mkF m 146 #[vr w_enc, vr a1, vi 0, vi 6, vr a2, vi 0, vi 0, vr w_tb, vi 6, vi 8, vi (fx17 p7 p8 p9)] [(.int (fx24 p7 p8 p9)), (.ref w_tb), (.int 7), (.ref a2)]) _
  refine tbR X23 Kz e23 O23 B_tb (own_i63 ((((p7 &&& (255 : Int32)) <<< ((16 : Int32) &&& 31)) ||| ((p8 &&& (255 : Int32)) <<< ((8 : Int32) &&& 31))) ||| (p9 &&& (255 : Int32)))) d54_146 ?_
  refine wib2 X23 qz d54_147 ?_
  refine st26 _ ?_
  refine gt X26 qz 149 23 d54_149 ?_
  refine il X26 qz d54_23 ?_
  refine iln X26 qz d54_25 ?_
  refine icY X26 qz 26 152 d54_26 (flt (by decide : ¬ ((6 : Int32) < (6 : Int32)))).2.1 ?_
  exact X26.returnOut hx Bd.returns (hb hby d54_152) hr
theorem rm23 (l : Launch) (Z : State) (a0 : Array Value) (hw : HW Z a0) (ws : List Jvm.Cond) (w_enc w_tb : Addr) (cs_v : Int32) (cl_tb : Cell) (wv_fm : Value) (hp : Perm Z w_enc w_tb cs_v cl_tb wv_fm) (a1 : Addr) (a2 : Addr) (k_a1 : ClassId) (p4 : Int32) (p5 : Int32) (p6 : Int32) (p7 : Int32) (p8 : Int32) (p9 : Int32) (k_a2 : ClassId) (h0 : Heap) (n0 : Nat) (O0 : Old Z n0 h0) (V_a1 : Arv Z h0 a1 k_a1 .byte (6 : Int32) [(.int p4), (.int p5), (.int p6), (.int p7), (.int p8), (.int p9)] (.int 0)) (V_a2 : Arv Z h0 a2 k_a2 .byte (8 : Int32) [(.int 0), (.int 0), (.int 0), (.int 0), (.int 0), (.int 0), (.int 0), (.int 0)] (.int 0)) (E_a2 : Exa Z h0 a2 "[B") (g_a2 : n0 ≤ a2) (ne_a1_a2 : a1 ≠ a2) :
    MF l y5 (Jvm.Cond.code y5 jdk_2452_method_10_code 16 (some .int) :: ws) ({ frames := 1, cells := 0, slots := 0, locals := 22 } : Room) Z #[(.ref w_enc), (.ref a1), (.int 0), (.int 6), (.ref a2)] h0 (fun v h L => v = some (.int 8) ∧ Fr n0 L ∧ Keep h0 h [a2] ∧ Exa Z h a2 "[B" ∧ Arv Z h a2 k_a2 .byte (8 : Int32) [(.int (fx26 p4 p5 p6)), (.int (fx27 p4 p5 p6)), (.int (fx28 p4 p5 p6)), (.int (fx29 p4 p5 p6)), (.int (fx26 p7 p8 p9)), (.int (fx27 p7 p8 p9)), (.int (fx28 p7 p8 p9)), (.int (fx29 p7 p8 p9))] (.int 0)) := by
  refine mfB (plainFor_of_name pn_23) hw fun p e s m below meth c s₁ Bd Kz X0 e0 => ?_
  obtain ⟨hx, hby, hml, hZ, hown, -⟩ := id Kz
  have qz := And.intro hx hby
  have N0 := Fr.nil n0
  obtain ⟨_, _, _, E_w_enc, F_isURL_w_enc, F_linemax_w_enc, _, S_w_tb, _⟩ := id hp
  obtain ⟨T1, X1, e1, st1⟩ := gF X0 Kz 162 e0 (F_isURL_w_enc.ext O0.2) (mkF m 1 #[vr w_enc, vr a1, vi 0, vi 6, vr a2, uu, uu, uu, uu, uu, uu, uu, uu, uu, uu, uu] [(.ref w_enc)]) d26_1
  obtain ⟨T2, X2, e2, st2⟩ := getS2 X1 hx hZ hown (host := "") (Or.inl (wq hw 164 rfl)) Via.refl e1 (S_w_tb.ext O0.2) (g := (mkF m 13 #[vr w_enc, vr a1, vi 0, vi 6, vr a2, uu, uu, uu, uu, uu, uu, uu, uu, uu, uu, uu] [])) rfl (hb hby d26_13)
  obtain ⟨T3, X3, e3, st3⟩ := gF X2 Kz 155 e2 (F_linemax_w_enc.ext O0.2) (mkF m 37 #[vr w_enc, vr a1, vi 0, vi 6, vr a2, vr w_tb, vi 0, vi 6, vi 6, uu, uu, uu, uu, uu, uu, uu] [(.ref w_enc)]) d26_37
  obtain ⟨_, T4, Lc4, X4, hQ4, st4⟩ := cS X3 Kz y6 0 281 209 150 210 (rm21 l Z a0 hw [] w_enc w_tb cs_v cl_tb wv_fm hp h0 n0 O0) e3 (mkF m 83 #[vr w_enc, vr a1, vi 0, vi 6, vr a2, vr w_tb, vi 0, vi 6, vi 6, vi 0, uu, uu, uu, uu, uu, uu] [(.int 6), (.int 6)]) [(.int 6), (.int 6)] [] pd_0 d26_83
  obtain ⟨rfl, Nq4, eq4⟩ := hQ4
  have N4 := Fr.app N0 Nq4
  obtain ⟨T5, X5, e5, st5⟩ := gF X4 Kz 162 eq4 (F_isURL_w_enc.ext O0.2) (mkF m 99 #[vr w_enc, vr a1, vi 0, vi 6, vr a2, vr w_tb, vi 0, vi 6, vi 6, vi 0, vi 6, uu, uu, uu, uu, uu] [(.ref w_enc), (.int 0), (.ref a2), (.int 6), (.int 0), (.ref a1), (.ref w_enc)]) d26_99
  obtain ⟨_, T6, Lc6, X6, hQ6, st6⟩ := pB X5 Kz y7 0 282 283 285 284 286 130 (rm22 l Z a0 hw [] w_enc w_tb cs_v cl_tb wv_fm hp a1 a2 k_a1 p4 p5 p6 p7 p8 p9 k_a2 h0 n0 O0 V_a1 V_a2 E_a2 g_a2 ne_a1_a2) e5 (E_w_enc.ext O0.2) (mkF m 102 #[vr w_enc, vr a1, vi 0, vi 6, vr a2, vr w_tb, vi 0, vi 6, vi 6, vi 0, vi 6, uu, uu, uu, uu, uu] [(.int 0), (.int 0), (.ref a2), (.int 6), (.int 0), (.ref a1), (.ref w_enc)]) [(.ref a1), (.int 0), (.int 6), (.ref a2), (.int 0), (.int 0)] [] pd_1 d26_102
  obtain ⟨rfl, Nq6, Kq6, fq6_0, fq6_1⟩ := hQ6
  have N6 := Fr.app N4 Nq6
  have O6 := O0.keep Kq6 (allS g_a2 all0)
  have K6 : Keep h0 T6.heap [a2] := (Keep.refl h0 [a2]).trans Kq6 (allS (Or.inl (ma 0 rfl)) all0)
  obtain ⟨T7, X7, e7, st7⟩ := gF X6 Kz 155 rfl (F_linemax_w_enc.ext O6.2) (mkF m 130 #[vr w_enc, vr a1, vi 0, vi 6, vr a2, vr w_tb, vi 6, vi 6, vi 6, vi 8, vi 6, vi 8, uu, uu, uu, uu] [(.ref w_enc), (.int 8)]) d26_130
  refine mfE Bd X7 (some (.int 8)) e7 (fun h => by rw [Bd.returns] at h; cases h) (ef_26_0 m w_enc a1 (0 : Int32) (6 : Int32) a2) ⟨rfl, N6, K6, fq6_0, fq6_1⟩ fun fs hr => ?_
  refine aln X0 qz d26_0 ?_
  refine st1 _ ?_
  refine ifY X1 qz 4 13 d26_4 (teq (by decide : (0 : Int32) = (0 : Int32))).1 ?_
  refine st2 _ ?_
  refine sta X2 qz d26_16 #[vr w_enc, vr a1, vi 0, vi 6, vr a2, vr w_tb, uu, uu, uu, uu, uu, uu, uu, uu, uu, uu] ?_
  refine iln X2 qz d26_18 ?_
  refine st X2 qz d26_19 #[vr w_enc, vr a1, vi 0, vi 6, vr a2, vr w_tb, vi 0, uu, uu, uu, uu, uu, uu, uu, uu, uu] ?_
  refine iln X2 qz d26_21 ?_
  refine iln X2 qz d26_22 ?_
  refine wib X2 qz d26_23 ?_
  refine stk (y := (.int 6)) rfl ?_
  refine ic X2 qz d26_24 ?_
  refine XS.idiv X2.here hx rfl (hb hby d26_25) rfl (by decide) ?_
  refine stk (y := (.int 2)) rfl ?_
  refine ic X2 qz d26_26 ?_
  refine wimul X2 qz d26_27 ?_
  refine stk (y := (.int 6)) rfl ?_
  refine st X2 qz d26_28 #[vr w_enc, vr a1, vi 0, vi 6, vr a2, vr w_tb, vi 0, vi 6, uu, uu, uu, uu, uu, uu, uu, uu] ?_
  refine iln X2 qz d26_30 ?_
  show Sp p e below T2 (mkF m 31 #[vr w_enc, vr a1, vi 0, vi 6, vr a2, vr w_tb, vi 0, vi 6, uu, uu, uu, uu, uu, uu, uu, uu] [(.int 0)]) _
  refine il X2 qz d26_31 ?_
  refine wia X2 qz d26_33 ?_
  refine stk (y := (.int 6)) rfl ?_
  refine st X2 qz d26_34 #[vr w_enc, vr a1, vi 0, vi 6, vr a2, vr w_tb, vi 0, vi 6, vi 6, uu, uu, uu, uu, uu, uu, uu] ?_
  refine aln X2 qz d26_36 ?_
  refine st3 _ ?_
  refine ifY X3 qz 40 66 d26_40 (flt (by decide : ¬ ((0 : Int32) < (-1 : Int32)))).2.2.2 ?_
  refine ic X3 qz d26_66 ?_
  refine st X3 qz d26_67 #[vr w_enc, vr a1, vi 0, vi 6, vr a2, vr w_tb, vi 0, vi 6, vi 6, vi 0, uu, uu, uu, uu, uu, uu] ?_
  refine il X3 qz d26_69 ?_
  refine il X3 qz d26_71 ?_
  refine icN X3 qz d26_73 (tlt (by decide : (0 : Int32) < (6 : Int32))).2.1 ?_
  refine il X3 qz d26_76 ?_
  refine il X3 qz d26_78 ?_
  refine wia X3 qz d26_80 ?_
  refine stk (y := (.int 6)) rfl ?_
  refine il X3 qz d26_81 ?_
  refine st4 _ ?_
  show Sp p e below T4 (mkF m 86 #[vr w_enc, vr a1, vi 0, vi 6, vr a2, vr w_tb, vi 0, vi 6, vi 6, vi 0, uu, uu, uu, uu, uu, uu] [(.int 6)]) _
  refine st X4 qz d26_86 #[vr w_enc, vr a1, vi 0, vi 6, vr a2, vr w_tb, vi 0, vi 6, vi 6, vi 0, vi 6, uu, uu, uu, uu, uu] ?_
  refine aln X4 qz d26_88 ?_
  refine aln X4 qz d26_89 ?_
  refine il X4 qz d26_90 ?_
  refine il X4 qz d26_92 ?_
  refine al X4 qz d26_94 ?_
  refine il X4 qz d26_96 ?_
  refine aln X4 qz d26_98 ?_
  refine st5 _ ?_
  refine st6.trans ?_
  refine il X6 qz d26_105 ?_
  refine il X6 qz d26_107 ?_
  refine wib X6 qz d26_109 ?_
  refine stk (y := (.int 6)) rfl ?_
  refine ic X6 qz d26_110 ?_
  refine XS.idiv X6.here hx rfl (hb hby d26_111) rfl (by decide) ?_
  refine stk (y := (.int 2)) rfl ?_
  refine ic X6 qz d26_112 ?_
  show Sp p e below T6 (mkF m 113 #[vr w_enc, vr a1, vi 0, vi 6, vr a2, vr w_tb, vi 0, vi 6, vi 6, vi 0, vi 6, uu, uu, uu, uu, uu] [(.int 4), (.int 2)]) _
  refine wimul X6 qz d26_113 ?_
  refine stk (y := (.int 8)) rfl ?_
  refine st X6 qz d26_114 #[vr w_enc, vr a1, vi 0, vi 6, vr a2, vr w_tb, vi 0, vi 6, vi 6, vi 0, vi 6, vi 8, uu, uu, uu, uu] ?_
  refine il X6 qz d26_116 ?_
  refine il X6 qz d26_118 ?_
  refine wia X6 qz d26_120 ?_
  refine stk (y := (.int 8)) rfl ?_
  refine st X6 qz d26_121 #[vr w_enc, vr a1, vi 0, vi 6, vr a2, vr w_tb, vi 0, vi 6, vi 6, vi 8, vi 6, vi 8, uu, uu, uu, uu] ?_
  refine il X6 qz d26_123 ?_
  refine st X6 qz d26_125 #[vr w_enc, vr a1, vi 0, vi 6, vr a2, vr w_tb, vi 6, vi 6, vi 6, vi 8, vi 6, vi 8, uu, uu, uu, uu] ?_
  refine il X6 qz d26_127 ?_
  refine aln X6 qz d26_129 ?_
  refine st7 _ ?_
  refine icY X7 qz 133 186 d26_133 (feq (by decide : ¬ ((8 : Int32) = (-1 : Int32)))).2 ?_
  refine gt X7 qz 186 69 d26_186 ?_
  refine il X7 qz d26_69 ?_
  refine il X7 qz d26_71 ?_
  refine icY X7 qz 73 189 d26_73 (flt (by decide : ¬ ((6 : Int32) < (6 : Int32)))).2.1 ?_
  show Sp p e below T7 (mkF m 189 #[vr w_enc, vr a1, vi 0, vi 6, vr a2, vr w_tb, vi 6, vi 6, vi 6, vi 8, vi 6, vi 8, uu, uu, uu, uu] []) _
  refine il X7 qz d26_189 ?_
  refine iln X7 qz d26_191 ?_
  refine icY X7 qz 192 352 d26_192 (flt (by decide : ¬ ((6 : Int32) < (6 : Int32)))).2.1 ?_
  refine il X7 qz d26_352 ?_
  exact retI X7 hx Bd.returns (hb hby d26_354) hr
def QEN0 (Z : State) (dst : Addr) (kd : ClassId) (n : Int32) (l : List Value) (h0 : Heap) (n0 : Nat) (v : Option Value) (h : Heap) (L : List Loc) : Prop := v = some (.int (eoL n)) ∧ Fr n0 L ∧ Keep h0 h [dst] ∧ Exa Z h dst "[B" ∧ Arv Z h dst kd .byte (eoL n) (encL l) (.int 0)
set_option maxRecDepth 65536 in
set_option maxHeartbeats 4000000 in
theorem rmEN0 (l : Launch) (Z : State) (a0 : Array Value) (hw : ∀ d ∈ tables_1, d.before a0 Z = true) (ws : List Jvm.Cond) (w_enc w_tb : Addr) (cs_v : Int32) (cl_tb : Cell) (wv_fm : Value) (hp : Perm Z w_enc w_tb cs_v cl_tb wv_fm) (src dst : Addr) (ks kd : ClassId) (n : Int32) (li : List Value) (h0 : Heap) (n0 : Nat) (O0 : Old Z n0 h0) (ne_src_dst : src ≠ dst) (g_dst : n0 ≤ dst) (E_src : Exa Z h0 src "[B") (E_dst : Exa Z h0 dst "[B") (V_src : Arv Z h0 src ks .byte n (lid li) (.int 0)) (V_dst : Arv Z h0 dst kd .byte (eoL n) (lid (repL (eoL n))) (.int 0)) (hE : EncIn n li) :
    MetFree l y5 (head1 (Jvm.Cond.code y5 jdk_2452_method_10_code 16 (some .int) :: ws) ({ frames := 1, cells := 0, slots := 0, locals := 22 } : Room)) (fun as' U => as' = #[(.ref w_enc), (.ref src), (.int 0), (.int n), (.ref dst)] ∧ Z.Warmed39 U.vm ∧ U.heap = h0) (fun _ _ _ _ _ => True) (fun _ U o U' => ∃ v L, o = .returned v ∧ QEN0 Z dst kd n li h0 n0 v U'.heap L ∧ FrameEnd U o U' L ({ frames := 1, cells := 0, slots := 0, locals := 22 } : Room).cells ({ frames := 1, cells := 0, slots := 0, locals := 22 } : Room).slots) := by
  have ne_dst_src := ne_src_dst.symm
  rcases hE with ⟨rfl, rfl⟩ | ⟨x0, rfl, rfl⟩ | ⟨x0, x1, rfl, rfl⟩ | ⟨x0, x1, x2, rfl, rfl⟩ | ⟨x0, x1, x2, x3, rfl, rfl⟩ | ⟨x0, x1, x2, x3, x4, rfl, rfl⟩ | ⟨x0, x1, x2, x3, x4, x5, rfl, rfl⟩
  · have V_src : Arv Z h0 src ks .byte (0 : Int32) [] (.int 0) := V_src
    have V_dst : Arv Z h0 dst kd .byte (0 : Int32) [] (.int 0) := V_dst
    refine (rm11 l Z a0 hw ws w_enc w_tb cs_v cl_tb wv_fm hp src dst h0 n0 O0).mono (fun _ _ h => h) (fun _ _ _ _ _ h => h) (fun _ s o s' _ ⟨v, L, e, q, f⟩ => ⟨v, L, e, ?_, f⟩)
    obtain ⟨e1, N1, rfl⟩ := q
    exact ⟨e1, N1, Keep.refl _ _, E_dst, V_dst⟩
  · have V_src : Arv Z h0 src ks .byte (1 : Int32) [.int x0] (.int 0) := V_src
    have V_dst : Arv Z h0 dst kd .byte (4 : Int32) [(.int 0), (.int 0), (.int 0), (.int 0)] (.int 0) := V_dst
    refine (rm12 l Z a0 hw ws w_enc w_tb cs_v cl_tb wv_fm hp src dst ks x0 kd h0 n0 O0 V_src V_dst E_dst g_dst).mono (fun _ _ h => h) (fun _ _ _ _ _ h => h) (fun _ s o s' _ ⟨v, L, e, q, f⟩ => ⟨v, L, e, ?_, f⟩)
    obtain ⟨e1, N1, K1, f0, f1⟩ := q
    exact ⟨e1, N1, K1, f0, f1⟩
  · have V_src : Arv Z h0 src ks .byte (2 : Int32) [.int x0, .int x1] (.int 0) := V_src
    have V_dst : Arv Z h0 dst kd .byte (4 : Int32) [(.int 0), (.int 0), (.int 0), (.int 0)] (.int 0) := V_dst
    refine (rm13 l Z a0 hw ws w_enc w_tb cs_v cl_tb wv_fm hp src dst ks x0 x1 kd h0 n0 O0 V_src V_dst E_dst g_dst (Ne.symm ne_dst_src)).mono (fun _ _ h => h) (fun _ _ _ _ _ h => h) (fun _ s o s' _ ⟨v, L, e, q, f⟩ => ⟨v, L, e, ?_, f⟩)
    obtain ⟨e1, N1, K1, f0, f1⟩ := q
    exact ⟨e1, N1, K1, f0, f1⟩
  · have V_src : Arv Z h0 src ks .byte (3 : Int32) [.int x0, .int x1, .int x2] (.int 0) := V_src
    have V_dst : Arv Z h0 dst kd .byte (4 : Int32) [(.int 0), (.int 0), (.int 0), (.int 0)] (.int 0) := V_dst
    refine (rm16 l Z a0 hw ws w_enc w_tb cs_v cl_tb wv_fm hp src dst ks x0 x1 x2 kd h0 n0 O0 V_src V_dst E_dst g_dst).mono (fun _ _ h => h) (fun _ _ _ _ _ h => h) (fun _ s o s' _ ⟨v, L, e, q, f⟩ => ⟨v, L, e, ?_, f⟩)
    obtain ⟨e1, N1, K1, f0, f1⟩ := q
    exact ⟨e1, N1, K1, f0, f1⟩
  · have V_src : Arv Z h0 src ks .byte (4 : Int32) [.int x0, .int x1, .int x2, .int x3] (.int 0) := V_src
    have V_dst : Arv Z h0 dst kd .byte (8 : Int32) [(.int 0), (.int 0), (.int 0), (.int 0), (.int 0), (.int 0), (.int 0), (.int 0)] (.int 0) := V_dst
    refine (rm18 l Z a0 hw ws w_enc w_tb cs_v cl_tb wv_fm hp src dst ks x0 x1 x2 x3 kd h0 n0 O0 V_src V_dst E_dst g_dst (Ne.symm ne_dst_src)).mono (fun _ _ h => h) (fun _ _ _ _ _ h => h) (fun _ s o s' _ ⟨v, L, e, q, f⟩ => ⟨v, L, e, ?_, f⟩)
    obtain ⟨e1, N1, K1, f0, f1⟩ := q
    exact ⟨e1, N1, K1, f0, f1⟩
  · have V_src : Arv Z h0 src ks .byte (5 : Int32) [.int x0, .int x1, .int x2, .int x3, .int x4] (.int 0) := V_src
    have V_dst : Arv Z h0 dst kd .byte (8 : Int32) [(.int 0), (.int 0), (.int 0), (.int 0), (.int 0), (.int 0), (.int 0), (.int 0)] (.int 0) := V_dst
    refine (rm20 l Z a0 hw ws w_enc w_tb cs_v cl_tb wv_fm hp src dst ks x0 x1 x2 x3 x4 kd h0 n0 O0 V_src V_dst E_dst g_dst (Ne.symm ne_dst_src)).mono (fun _ _ h => h) (fun _ _ _ _ _ h => h) (fun _ s o s' _ ⟨v, L, e, q, f⟩ => ⟨v, L, e, ?_, f⟩)
    obtain ⟨e1, N1, K1, f0, f1⟩ := q
    exact ⟨e1, N1, K1, f0, f1⟩
  · have V_src : Arv Z h0 src ks .byte (6 : Int32) [.int x0, .int x1, .int x2, .int x3, .int x4, .int x5] (.int 0) := V_src
    have V_dst : Arv Z h0 dst kd .byte (8 : Int32) [(.int 0), (.int 0), (.int 0), (.int 0), (.int 0), (.int 0), (.int 0), (.int 0)] (.int 0) := V_dst
    refine (rm23 l Z a0 hw ws w_enc w_tb cs_v cl_tb wv_fm hp src dst ks x0 x1 x2 x3 x4 x5 kd h0 n0 O0 V_src V_dst E_dst g_dst (Ne.symm ne_dst_src)).mono (fun _ _ h => h) (fun _ _ _ _ _ h => h) (fun _ s o s' _ ⟨v, L, e, q, f⟩ => ⟨v, L, e, ?_, f⟩)
    obtain ⟨e1, N1, K1, f0, f1⟩ := q
    exact ⟨e1, N1, K1, f0, f1⟩
abbrev cb53 : ByteArray := jdk_43_method_13_code
theorem d53_9 : dk cb53 9 (.iload_n 2) 1 := by decide +kernel
theorem d53_10 : dk cb53 10 (.aload_n 0) 1 := by decide +kernel
theorem d53_11 : dk cb53 11 .arraylength 1 := by decide +kernel
theorem d53_12 : dk cb53 12 (.if_icmp .ge 20) 3 := by decide +kernel
theorem d53_15 : dk cb53 15 (.aload_n 0) 1 := by decide +kernel
theorem d53_16 : dk cb53 16 (.iload_n 2) 1 := by decide +kernel
theorem d53_17 : dk cb53 17 .baload 1 := by decide +kernel
theorem d53_18 : dk cb53 18 (.aload_n 1) 1 := by decide +kernel
theorem d53_19 : dk cb53 19 (.iload_n 2) 1 := by decide +kernel
theorem d53_20 : dk cb53 20 .baload 1 := by decide +kernel
theorem d53_21 : dk cb53 21 (.if_icmp .eq 5) 3 := by decide +kernel
theorem d53_26 : dk cb53 26 (.iinc 2 1) 3 := by decide +kernel
theorem d53_29 : dk cb53 29 (.goto (-20)) 3 := by decide +kernel
set_option maxRecDepth 65536 in
set_option maxHeartbeats 4000000 in
theorem le_turn (l : Launch) (Z : State) (a b : Addr) (ka kb : ClassId) (z i x : Int32) (li : List Value) (h0 : Heap) (V_a : Arv Z h0 a ka .byte z (lid li) (.int 0)) (V_b : Arv Z h0 b kb .byte z (lid li) (.int 0)) (hi0 : ¬ i < 0) (hiz : i < z) (hxi : (lid li).getD i.toNatClampNeg (.int 0) = .int x) {p : Program} {e : Env} {s : State} {m : MethodId} {args : Array Value} {below : List Frame} {meth : Method} {c : Code} {s₁ : State} {locs : List Loc} (X0 : Stand p l e ({ frames := 0, cells := 0, slots := 0, locals := 0 } : Room) s m args below meth c s₁ locs 0 0) (hx : p.tables.exec = Jvm.exec) (hZ : Z.Warmed39 s.vm) (hby : c.code = jdk_43_method_13_code) (hml : c.maxLocals = 3) (e0 : s₁.heap = h0) :
    ∀ target, Sp p e below s₁ (mkF m 9 #[vr a, vr b, .val (.int (i + (1 : Int32)))] []) target → Sp p e below s₁ (mkF m 9 #[vr a, vr b, vi i] []) target := by
  obtain ⟨cl1, Ar1, -, S1, Nn1, -, -⟩ := id V_a
  obtain ⟨cl2, Ar2, -, S2, -, H2, -⟩ := id V_a
  have hin2 : ¬ (i < 0 ∨ cl2.slots.size ≤ i.toNatClampNeg) := inb_of S2 ⟨hi0, hiz⟩
  have hat2 : cl2.slots[i.toNatClampNeg]? = some (.int x) := H2.at hin2 hxi
  obtain ⟨cl3, Ar3, -, S3, -, H3, -⟩ := id V_b
  have hin3 : ¬ (i < 0 ∨ cl3.slots.size ≤ i.toNatClampNeg) := inb_of S3 ⟨hi0, hiz⟩
  have hat3 : cl3.slots[i.toNatClampNeg]? = some (.int x) := H3.at hin3 hxi
  have qz := And.intro hx hby
  intro target kt
  show Sp p e below s₁ (mkF m 9 #[vr a, vr b, vi i] []) _
  refine iln X0 qz d53_9 ?_
  refine aln X0 qz d53_10 ?_
  refine X0.arraylength hx (by rw [e0]; exact Ar1.1) (State.isArrayOf_alike hZ.alike Ar1.2.1) (g := (mkF m 11 #[vr a, vr b, vi i] [(.ref a), (.int i)])) rfl rfl (hb hby d53_11) _ ?_
  rw [len_of S1 Nn1]
  refine icN X0 qz d53_12 (tlt hiz).2.1 ?_
  refine aln X0 qz d53_15 ?_
  refine iln X0 qz d53_16 ?_
  show Sp p e below s₁ (mkF m 17 #[vr a, vr b, vi i] [(.int i), (.ref a)]) _
  refine X0.baloadBytes hx (j := i) (v := (.int x)) (by rw [e0]; exact Ar2.1) (State.isArrayOf_alike hZ.alike Ar2.2.1) Ar2.2.2 hin2 hat2 (g := (mkF m 17 #[vr a, vr b, vi i] [(.int i), (.ref a)])) rfl rfl (hb hby d53_17) _ ?_
  refine aln X0 qz d53_18 ?_
  refine iln X0 qz d53_19 ?_
  show Sp p e below s₁ (mkF m 20 #[vr a, vr b, vi i] [(.int i), (.ref b), (.int x)]) _
  refine X0.baloadBytes hx (j := i) (v := (.int x)) (by rw [e0]; exact Ar3.1) (State.isArrayOf_alike hZ.alike Ar3.2.1) Ar3.2.2 hin3 hat3 (g := (mkF m 20 #[vr a, vr b, vi i] [(.int i), (.ref b), (.int x)])) rfl rfl (hb hby d53_20) _ ?_
  refine icY X0 qz 21 26 d53_21 (teq (rfl : x = x)).1 ?_
  refine XS.iinc X0.here hx rfl (hb hby d53_26) rfl (l' := #[vr a, vr b, .val (.int (i + (1 : Int32)))]) rfl ?_
  refine gt X0 qz 29 9 d53_29 ?_
  exact kt
set_option maxRecDepth 65536 in
set_option maxHeartbeats 4000000 in
theorem le_loop (l : Launch) (Z : State) (a b : Addr) (ka kb : ClassId) (z : Int32) (li : List Value) (h0 : Heap) (V_a : Arv Z h0 a ka .byte z (lid li) (.int 0)) (V_b : Arv Z h0 b kb .byte z (lid li) (.int 0)) {p : Program} {e : Env} {s : State} {m : MethodId} {args : Array Value} {below : List Frame} {meth : Method} {c : Code} {s₁ : State} {locs : List Loc} (X0 : Stand p l e ({ frames := 0, cells := 0, slots := 0, locals := 0 } : Room) s m args below meth c s₁ locs 0 0) (hx : p.tables.exec = Jvm.exec) (hZ : Z.Warmed39 s.vm) (hby : c.code = jdk_43_method_13_code) (hml : c.maxLocals = 3) (e0 : s₁.heap = h0) :
    ∀ (d : Nat) (i : Int32), ¬ i < 0 → i.toInt + d = z.toInt → ∀ target, Sp p e below s₁ (mkF m 9 #[vr a, vr b, vi z] []) target → Sp p e below s₁ (mkF m 9 #[vr a, vr b, vi i] []) target := by
  intro d
  induction d with
  | zero => intro i hi he target kt; rw [show i = z from Int32.toInt_inj.mp (by omega)]; exact kt
  | succ d ih =>
    intro i hi he target kt
    have hiz : i < z := by rw [Int32.lt_iff_toInt_lt]; omega
    have r := rng32 z
    have z0 : (0 : Int32).toInt = 0 := rfl
    have z1 : (1 : Int32).toInt = 1 := rfl
    rw [Int32.lt_iff_toInt_lt, z0] at hi
    have hn : (i + (1 : Int32)).toInt = i.toInt + 1 := by have q := c_iadd i (1 : Int32); have r2 := rng32 (i + (1 : Int32)); omega
    obtain ⟨x, hxi⟩ : ∃ x : Int32, (lid li).getD i.toNatClampNeg (.int 0) = .int x := by
      obtain ⟨cl, Ar, -, S, -, H, G⟩ := V_a
      have hin : ¬ (i < 0 ∨ cl.slots.size ≤ i.toNatClampNeg) := inb_of S ⟨by rw [Int32.lt_iff_toInt_lt, z0]; exact hi, hiz⟩
      exact fit_I (G _ (Nat.lt_of_not_le fun y => hin (Or.inr y))) (Or.inr (Or.inr (Or.inl rfl)))
    exact le_turn l Z a b ka kb z i x li h0 V_a V_b (by rw [Int32.lt_iff_toInt_lt, z0]; exact hi) hiz hxi X0 hx hZ hby hml e0 target (ih _ (by rw [Int32.lt_iff_toInt_lt, z0, hn]; omega) (by rw [hn]; omega) target kt)
theorem d53_0 : dk cb53 0 (.aload_n 0) 1 := by decide +kernel
theorem d53_1 : dk cb53 1 .arraylength 1 := by decide +kernel
theorem d53_2 : dk cb53 2 (.aload_n 1) 1 := by decide +kernel
theorem d53_3 : dk cb53 3 .arraylength 1 := by decide +kernel
theorem d53_4 : dk cb53 4 (.if_icmp .ne 30) 3 := by decide +kernel
theorem d53_7 : dk cb53 7 (.iconst 0) 1 := by decide +kernel
theorem d53_8 : dk cb53 8 (.istore_n 2) 1 := by decide +kernel
theorem d53_32 : dk cb53 32 (.iconst 1) 1 := by decide +kernel
theorem d53_33 : dk cb53 33 .ireturn 1 := by decide +kernel
abbrev y8 : MethodName := (⟨"java/lang/StringLatin1", "equals", "([B[B)Z"⟩ : MethodName)
theorem ef_53_0 (m : MethodId) (x0 : Addr) (x1 : Addr) : entryFrame m #[(.ref x0), (.ref x1)] 3 = mkF m 0 #[.val (.ref x0), .val (.ref x1), .unset] [] := by first | (simp [entryFrame, mkF, argsToLocals, Value.category]; done) | rfl
theorem pn_53 : plainName "java/lang/StringLatin1" = true := by first | (simp [plainName, overriddenIn]; done) | decide +kernel
theorem rm24 (l : Launch) (Z : State) (a0 : Array Value) (hw : HW Z a0) (ws : List Jvm.Cond) (w_enc w_tb : Addr) (cs_v : Int32) (cl_tb : Cell) (wv_fm : Value) (hp : Perm Z w_enc w_tb cs_v cl_tb wv_fm) (a1 : Addr) (a2 : Addr) (k_a1 : ClassId) (l_a1 : List Value) (p5 : Int32) (k_a2 : ClassId) (h0 : Heap) (n0 : Nat) (O0 : Old Z n0 h0) (V_a1 : Arv Z h0 a1 k_a1 .byte p5 (lid l_a1) (.int 0)) (V_a2 : Arv Z h0 a2 k_a2 .byte p5 (lid l_a1) (.int 0)) :
    MF l y8 (Jvm.Cond.code y8 jdk_43_method_13_code 3 (some .boolean) :: ws) ({ frames := 0, cells := 0, slots := 0, locals := 0 } : Room) Z #[(.ref a1), (.ref a2)] h0 (fun v h L => v = some (.int 1) ∧ Fr n0 L ∧ h = h0) := by
  refine mfB (plainFor_of_name pn_53) hw fun p e s m below meth c s₁ Bd Kz X0 e0 => ?_
  obtain ⟨hx, hby, hml, hZ, hown, -⟩ := id Kz
  have qz := And.intro hx hby
  have N0 := Fr.nil n0
  have st3 := le_loop l Z a1 a2 k_a1 k_a2 p5 l_a1 h0 V_a1 V_a2 X0 hx hZ hby hml e0 p5.toInt.toNat (0 : Int32) (by decide) (own_znat V_a1)
  refine mfE Bd X0 (some (.int 1)) e0 (fun h => by rw [Bd.returns] at h; cases h) (ef_53_0 m a1 a2) ⟨rfl, N0, rfl⟩ fun fs hr => ?_
  refine aln X0 qz d53_0 ?_
  refine aL X0 Kz e0 V_a1 d53_1 ?_
  refine aln X0 qz d53_2 ?_
  refine aL X0 Kz e0 V_a2 d53_3 ?_
  refine icN X0 qz d53_4 (teq (rfl : p5 = p5)).2 ?_
  refine ic X0 qz d53_7 ?_
  refine stn X0 qz d53_8 #[vr a1, vr a2, vi 0] ?_
  show Sp p e below s₁ (mkF m 9 #[vr a1, vr a2, vi 0] []) _
  refine st3 _ ?_
  show Sp p e below s₁ (mkF m 9 #[vr a1, vr a2, vi p5] []) _
  refine iln X0 qz d53_9 ?_
  refine aln X0 qz d53_10 ?_
  refine aL X0 Kz e0 V_a1 d53_11 ?_
  refine icY X0 qz 12 32 d53_12 (flt Int32.lt_irrefl).2.1 ?_
  refine ic X0 qz d53_32 ?_
  exact retN X0 hx (t := .boolean) Bd.returns (by simp) (hb hby d53_33) hr
abbrev cb45 : ByteArray := method_4_code
theorem d45_0 : dk cb45 0 (.iload_n 2) 1 := by decide +kernel
theorem d45_1 : dk cb45 1 (.bipush 16) 2 := by decide +kernel
theorem d45_3 : dk cb45 3 .ishl 1 := by decide +kernel
theorem d45_4 : dk cb45 4 (.iload_n 3) 1 := by decide +kernel
theorem d45_5 : dk cb45 5 (.bipush 8) 2 := by decide +kernel
theorem d45_7 : dk cb45 7 .ishl 1 := by decide +kernel
theorem d45_8 : dk cb45 8 .ior 1 := by decide +kernel
theorem d45_9 : dk cb45 9 (.iload 4) 2 := by decide +kernel
theorem d45_11 : dk cb45 11 .ior 1 := by decide +kernel
theorem d45_12 : dk cb45 12 (.istore 6) 2 := by decide +kernel
abbrev fx30 (x0 : Int32) (x1 : Int32) (x2 : Int32) : Int32 := (((x0 <<< ((16 : Int32) &&& 31)) ||| (x1 <<< ((8 : Int32) &&& 31))) ||| x2)
theorem d45_14 : dk cb45 14 (.aload_n 0) 1 := by decide +kernel
theorem d45_15 : dk cb45 15 (.iload_n 1) 1 := by decide +kernel
theorem d45_16 : dk cb45 16 (.iload 6) 2 := by decide +kernel
theorem d45_18 : dk cb45 18 (.bipush 18) 2 := by decide +kernel
theorem d45_20 : dk cb45 20 .ishr 1 := by decide +kernel
theorem d45_21 : dk cb45 21 (.bipush 63) 2 := by decide +kernel
theorem d45_23 : dk cb45 23 .iand 1 := by decide +kernel
abbrev fx31 (x0 : Int32) (x1 : Int32) (x2 : Int32) : Int32 := ((((x0 <<< ((16 : Int32) &&& 31)) ||| (x1 <<< ((8 : Int32) &&& 31))) ||| x2) >>> ((18 : Int32) &&& 31))
theorem d45_24 : dk cb45 24 (.invokestatic 9) 3 := by decide +kernel
abbrev fx32 (x0 : Int32) (x1 : Int32) (x2 : Int32) : Int32 := (((((x0 <<< ((16 : Int32) &&& 31)) ||| (x1 <<< ((8 : Int32) &&& 31))) ||| x2) >>> ((18 : Int32) &&& 31)) &&& (63 : Int32))
theorem pd_2 : parseMethodDescriptor "(I)C" = some ⟨[.int], some .char⟩ := by decide +kernel
theorem d45_27 : dk cb45 27 .castore 1 := by decide +kernel
abbrev fx33 (x0 : Int32) (x1 : Int32) (x2 : Int32) : Int32 := (sxt (((((x0 <<< ((16 : Int32) &&& 31)) ||| (x1 <<< ((8 : Int32) &&& 31))) ||| x2) >>> ((18 : Int32) &&& 31)) &&& (63 : Int32)))
theorem d45_28 : dk cb45 28 (.aload_n 0) 1 := by decide +kernel
theorem d45_29 : dk cb45 29 (.iload_n 1) 1 := by decide +kernel
theorem d45_30 : dk cb45 30 (.iconst 1) 1 := by decide +kernel
theorem d45_31 : dk cb45 31 .iadd 1 := by decide +kernel
theorem d45_32 : dk cb45 32 (.iload 6) 2 := by decide +kernel
theorem d45_34 : dk cb45 34 (.bipush 12) 2 := by decide +kernel
theorem d45_36 : dk cb45 36 .ishr 1 := by decide +kernel
theorem d45_37 : dk cb45 37 (.bipush 63) 2 := by decide +kernel
theorem d45_39 : dk cb45 39 .iand 1 := by decide +kernel
theorem d45_40 : dk cb45 40 (.invokestatic 9) 3 := by decide +kernel
abbrev fx34 (x0 : Int32) (x1 : Int32) (x2 : Int32) : Int32 := (((((x0 <<< ((16 : Int32) &&& 31)) ||| (x1 <<< ((8 : Int32) &&& 31))) ||| x2) >>> ((12 : Int32) &&& 31)) &&& (63 : Int32))
theorem d45_43 : dk cb45 43 .castore 1 := by decide +kernel
abbrev fx35 (x0 : Int32) (x1 : Int32) (x2 : Int32) : Int32 := (sxt (((((x0 <<< ((16 : Int32) &&& 31)) ||| (x1 <<< ((8 : Int32) &&& 31))) ||| x2) >>> ((12 : Int32) &&& 31)) &&& (63 : Int32)))
theorem d45_44 : dk cb45 44 (.aload_n 0) 1 := by decide +kernel
theorem d45_45 : dk cb45 45 (.iload_n 1) 1 := by decide +kernel
theorem d45_46 : dk cb45 46 (.iconst 2) 1 := by decide +kernel
theorem d45_47 : dk cb45 47 .iadd 1 := by decide +kernel
theorem d45_48 : dk cb45 48 (.iload 5) 2 := by decide +kernel
theorem d45_50 : dk cb45 50 (.iconst 2) 1 := by decide +kernel
theorem d45_51 : dk cb45 51 (.if_icmp .lt 17) 3 := by decide +kernel
theorem d45_68 : dk cb45 68 (.bipush 61) 2 := by decide +kernel
theorem d45_70 : dk cb45 70 .castore 1 := by decide +kernel
theorem d45_71 : dk cb45 71 (.aload_n 0) 1 := by decide +kernel
theorem d45_72 : dk cb45 72 (.iload_n 1) 1 := by decide +kernel
theorem d45_73 : dk cb45 73 (.iconst 3) 1 := by decide +kernel
theorem d45_74 : dk cb45 74 .iadd 1 := by decide +kernel
theorem d45_75 : dk cb45 75 (.iload 5) 2 := by decide +kernel
theorem d45_77 : dk cb45 77 (.iconst 3) 1 := by decide +kernel
theorem d45_78 : dk cb45 78 (.if_icmp .lt 14) 3 := by decide +kernel
theorem d45_92 : dk cb45 92 (.bipush 61) 2 := by decide +kernel
theorem d45_94 : dk cb45 94 .castore 1 := by decide +kernel
theorem d45_95 : dk cb45 95 .return_ 1 := by decide +kernel
abbrev y9 : MethodName := (⟨"com/example/cloakfield/cloakfield/format/TaggedValueToTextPinLaw", "group", "([CIIIII)V"⟩ : MethodName)
theorem ef_45_0 (m : MethodId) (x0 : Addr) (x1 : Int32) (x2 : Int32) (x3 : Int32) (x4 : Int32) (x5 : Int32) : entryFrame m #[(.ref x0), (.int x1), (.int x2), (.int x3), (.int x4), (.int x5)] 7 = mkF m 0 #[.val (.ref x0), .val (.int x1), .val (.int x2), .val (.int x3), .val (.int x4), .val (.int x5), .unset] [] := by first | (simp [entryFrame, mkF, argsToLocals, Value.category]; done) | rfl
theorem rm25 (l : Launch) (Z : State) (a0 : Array Value) (hw : HW Z a0) (ws : List Jvm.Cond) (w_enc w_tb : Addr) (cs_v : Int32) (cl_tb : Cell) (wv_fm : Value) (hp : Perm Z w_enc w_tb cs_v cl_tb wv_fm) (a1 : Addr) (p2 : Int32) (p3 : Int32) (p4 : Int32) (p5 : Int32) (p6 : Int32) (k_a1 : ClassId) (l_a1 : List Value) (p9 : Int32) (h0 : Heap) (n0 : Nat) (O0 : Old Z n0 h0) (V_a1 : Arv Z h0 a1 k_a1 .char p9 (lid l_a1) (.int 0)) (E_a1 : Exa Z h0 a1 "[C") (g_a1 : n0 ≤ a1) (hs4 : ¬ (p2) < 0) (hs5 : p2 < p9) (hs6 : (p2).toNatClampNeg < (l_a1).length) (hs7 : ¬ ((p2 + (1 : Int32))) < 0) (hs8 : (p2 + (1 : Int32)) < p9) (hs9 : ((p2 + (1 : Int32))).toNatClampNeg < ((stL l_a1 p2 (nar .char (sxt (((((p3 <<< ((16 : Int32) &&& 31)) ||| (p4 <<< ((8 : Int32) &&& 31))) ||| p5) >>> ((18 : Int32) &&& 31)) &&& (63 : Int32)))))).length) (hc10 : p6 < (2 : Int32)) (hs11 : ¬ ((p2 + (2 : Int32))) < 0) (hs12 : (p2 + (2 : Int32)) < p9) (hs13 : ((p2 + (2 : Int32))).toNatClampNeg < ((stL (stL l_a1 p2 (nar .char (sxt (((((p3 <<< ((16 : Int32) &&& 31)) ||| (p4 <<< ((8 : Int32) &&& 31))) ||| p5) >>> ((18 : Int32) &&& 31)) &&& (63 : Int32))))) (p2 + (1 : Int32)) (nar .char (sxt (((((p3 <<< ((16 : Int32) &&& 31)) ||| (p4 <<< ((8 : Int32) &&& 31))) ||| p5) >>> ((12 : Int32) &&& 31)) &&& (63 : Int32)))))).length) (hc14 : p6 < (3 : Int32)) (hs15 : ¬ ((p2 + (3 : Int32))) < 0) (hs16 : (p2 + (3 : Int32)) < p9) (hs17 : ((p2 + (3 : Int32))).toNatClampNeg < ((stL (stL (stL l_a1 p2 (nar .char (sxt (((((p3 <<< ((16 : Int32) &&& 31)) ||| (p4 <<< ((8 : Int32) &&& 31))) ||| p5) >>> ((18 : Int32) &&& 31)) &&& (63 : Int32))))) (p2 + (1 : Int32)) (nar .char (sxt (((((p3 <<< ((16 : Int32) &&& 31)) ||| (p4 <<< ((8 : Int32) &&& 31))) ||| p5) >>> ((12 : Int32) &&& 31)) &&& (63 : Int32))))) (p2 + (2 : Int32)) (61 : Int32))).length) :
    MF l y9 (Jvm.Cond.code y9 method_4_code 7 none :: ws) ({ frames := 1, cells := 0, slots := 0, locals := 14 } : Room) Z #[(.ref a1), (.int p2), (.int p3), (.int p4), (.int p5), (.int p6)] h0 (fun v h L => v = none ∧ Fr n0 L ∧ Keep h0 h [a1] ∧ Exa Z h a1 "[C" ∧ Arv Z h a1 k_a1 .char p9 (lid (stL (stL (stL (stL l_a1 p2 (nar .char (sxt (((((p3 <<< ((16 : Int32) &&& 31)) ||| (p4 <<< ((8 : Int32) &&& 31))) ||| p5) >>> ((18 : Int32) &&& 31)) &&& (63 : Int32))))) (p2 + (1 : Int32)) (nar .char (sxt (((((p3 <<< ((16 : Int32) &&& 31)) ||| (p4 <<< ((8 : Int32) &&& 31))) ||| p5) >>> ((12 : Int32) &&& 31)) &&& (63 : Int32))))) (p2 + (2 : Int32)) (61 : Int32)) (p2 + (3 : Int32)) (61 : Int32))) (.int 0)) := by
  refine mfB (plainFor_of_name pn_46) hw fun p e s m below meth c s₁ Bd Kz X0 e0 => ?_
  obtain ⟨hx, hby, hml, hZ, hown, -⟩ := id Kz
  have qz := And.intro hx hby
  have N0 := Fr.nil n0
  obtain ⟨_, T1, Lc1, X1, hQ1, st1⟩ := cS X0 Kz y0 2 253 254 3 255 (rmSX l Z a0 hw [] w_enc w_tb cs_v cl_tb wv_fm hp (((((p3 <<< ((16 : Int32) &&& 31)) ||| (p4 <<< ((8 : Int32) &&& 31))) ||| p5) >>> ((18 : Int32) &&& 31)) &&& (63 : Int32)) h0 n0 O0) e0 (mkF m 24 #[vr a1, vi p2, vi p3, vi p4, vi p5, vi p6, vi (fx30 p3 p4 p5)] [(.int (fx32 p3 p4 p5)), (.int p2), (.ref a1)]) [(.int (fx32 p3 p4 p5))] [(.int p2), (.ref a1)] pd_2 d45_24
  obtain ⟨rfl, Nq1, eq1⟩ := hQ1
  have N1 := Fr.app N0 Nq1
  obtain ⟨cl2, Ar2, q2, S2, Nn2, H2, G2⟩ := id V_a1
  have hin2 : ¬ (p2 < 0 ∨ cl2.slots.size ≤ (p2).toNatClampNeg) := inb_of S2 ⟨hs4, hs5⟩
  obtain ⟨T3, h3, X3, e3, W3, st3⟩ := stC X1 hx hZ eq1 Ar2 (j := p2) hin2 (g := (mkF m 27 #[vr a1, vi p2, vi p3, vi p4, vi p5, vi p6, vi (fx30 p3 p4 p5)] [(.int (fx33 p3 p4 p5)), (.int p2), (.ref a1)])) rfl rfl (hb hby d45_27)
  have N3 := Fr.snoc X3 N1 g_a1
  have O3 := O0.wr W3 g_a1
  have K3 : Keep h0 h3 [a1] := (Keep.refl h0 [a1]).wr W3 (Or.inl (ma 0 rfl))
  have V_a1_3 : Arv Z h3 a1 k_a1 .char p9 (lid (stL l_a1 p2 (nar .char (sxt (((((p3 <<< ((16 : Int32) &&& 31)) ||| (p4 <<< ((8 : Int32) &&& 31))) ||| p5) >>> ((18 : Int32) &&& 31)) &&& (63 : Int32)))))) (.int 0) := Arv.set Ar2 q2 S2 Nn2 H2 G2 (fits_nar_char _) W3 _ rfl hs6
  obtain ⟨_, T4, Lc4, X4, hQ4, st4⟩ := cS X3 Kz y0 2 253 254 3 255 (rmSX l Z a0 hw [] w_enc w_tb cs_v cl_tb wv_fm hp (((((p3 <<< ((16 : Int32) &&& 31)) ||| (p4 <<< ((8 : Int32) &&& 31))) ||| p5) >>> ((12 : Int32) &&& 31)) &&& (63 : Int32)) h3 n0 O3) e3 (mkF m 40 #[vr a1, vi p2, vi p3, vi p4, vi p5, vi p6, vi (fx30 p3 p4 p5)] [(.int (fx34 p3 p4 p5)), (.int (p2 + (1 : Int32))), (.ref a1)]) [(.int (fx34 p3 p4 p5))] [(.int (p2 + (1 : Int32))), (.ref a1)] pd_2 d45_40
  obtain ⟨rfl, Nq4, eq4⟩ := hQ4
  have N4 := Fr.app N3 Nq4
  obtain ⟨cl5, Ar5, q5, S5, Nn5, H5, G5⟩ := id V_a1_3
  have hin5 : ¬ ((p2 + (1 : Int32)) < 0 ∨ cl5.slots.size ≤ ((p2 + (1 : Int32))).toNatClampNeg) := inb_of S5 ⟨hs7, hs8⟩
  obtain ⟨T6, h6, X6, e6, W6, st6⟩ := stC X4 hx hZ eq4 Ar5 (j := (p2 + (1 : Int32))) hin5 (g := (mkF m 43 #[vr a1, vi p2, vi p3, vi p4, vi p5, vi p6, vi (fx30 p3 p4 p5)] [(.int (fx35 p3 p4 p5)), (.int (p2 + (1 : Int32))), (.ref a1)])) rfl rfl (hb hby d45_43)
  have N6 := Fr.snoc X6 N4 g_a1
  have K6 : Keep h0 h6 [a1] := K3.wr W6 (Or.inl (ma 0 rfl))
  have V_a1_6 : Arv Z h6 a1 k_a1 .char p9 (lid (stL (stL l_a1 p2 (nar .char (sxt (((((p3 <<< ((16 : Int32) &&& 31)) ||| (p4 <<< ((8 : Int32) &&& 31))) ||| p5) >>> ((18 : Int32) &&& 31)) &&& (63 : Int32))))) (p2 + (1 : Int32)) (nar .char (sxt (((((p3 <<< ((16 : Int32) &&& 31)) ||| (p4 <<< ((8 : Int32) &&& 31))) ||| p5) >>> ((12 : Int32) &&& 31)) &&& (63 : Int32)))))) (.int 0) := Arv.set Ar5 q5 S5 Nn5 H5 G5 (fits_nar_char _) W6 _ rfl hs9
  obtain ⟨cl7, Ar7, q7, S7, Nn7, H7, G7⟩ := id V_a1_6
  have hin7 : ¬ ((p2 + (2 : Int32)) < 0 ∨ cl7.slots.size ≤ ((p2 + (2 : Int32))).toNatClampNeg) := inb_of S7 ⟨hs11, hs12⟩
  obtain ⟨T8, h8, X8, e8, W8, st8⟩ := stC X6 hx hZ e6 Ar7 (j := (p2 + (2 : Int32))) hin7 (g := (mkF m 70 #[vr a1, vi p2, vi p3, vi p4, vi p5, vi p6, vi (fx30 p3 p4 p5)] [(.int 61), (.int (p2 + (2 : Int32))), (.ref a1)])) rfl rfl (hb hby d45_70)
  have N8 := Fr.snoc X8 N6 g_a1
  have K8 : Keep h0 h8 [a1] := K6.wr W8 (Or.inl (ma 0 rfl))
  have V_a1_8 : Arv Z h8 a1 k_a1 .char p9 (lid (stL (stL (stL l_a1 p2 (nar .char (sxt (((((p3 <<< ((16 : Int32) &&& 31)) ||| (p4 <<< ((8 : Int32) &&& 31))) ||| p5) >>> ((18 : Int32) &&& 31)) &&& (63 : Int32))))) (p2 + (1 : Int32)) (nar .char (sxt (((((p3 <<< ((16 : Int32) &&& 31)) ||| (p4 <<< ((8 : Int32) &&& 31))) ||| p5) >>> ((12 : Int32) &&& 31)) &&& (63 : Int32))))) (p2 + (2 : Int32)) (61 : Int32))) (.int 0) := Arv.set Ar7 q7 S7 Nn7 H7 G7 (fits_nar_char _) W8 _ rfl hs13
  obtain ⟨cl9, Ar9, q9, S9, Nn9, H9, G9⟩ := id V_a1_8
  have hin9 : ¬ ((p2 + (3 : Int32)) < 0 ∨ cl9.slots.size ≤ ((p2 + (3 : Int32))).toNatClampNeg) := inb_of S9 ⟨hs15, hs16⟩
  obtain ⟨T10, h10, X10, e10, W10, st10⟩ := stC X8 hx hZ e8 Ar9 (j := (p2 + (3 : Int32))) hin9 (g := (mkF m 94 #[vr a1, vi p2, vi p3, vi p4, vi p5, vi p6, vi (fx30 p3 p4 p5)] [(.int 61), (.int (p2 + (3 : Int32))), (.ref a1)])) rfl rfl (hb hby d45_94)
  have N10 := Fr.snoc X10 N8 g_a1
  have K10 : Keep h0 h10 [a1] := K8.wr W10 (Or.inl (ma 0 rfl))
  have V_a1_10 : Arv Z h10 a1 k_a1 .char p9 (lid (stL (stL (stL (stL l_a1 p2 (nar .char (sxt (((((p3 <<< ((16 : Int32) &&& 31)) ||| (p4 <<< ((8 : Int32) &&& 31))) ||| p5) >>> ((18 : Int32) &&& 31)) &&& (63 : Int32))))) (p2 + (1 : Int32)) (nar .char (sxt (((((p3 <<< ((16 : Int32) &&& 31)) ||| (p4 <<< ((8 : Int32) &&& 31))) ||| p5) >>> ((12 : Int32) &&& 31)) &&& (63 : Int32))))) (p2 + (2 : Int32)) (61 : Int32)) (p2 + (3 : Int32)) (61 : Int32))) (.int 0) := Arv.set Ar9 q9 S9 Nn9 H9 G9 (fits_nar_char _) W10 _ rfl hs17
  refine mfE Bd X10 (none) e10 (fun _ => rfl) (ef_45_0 m a1 p2 p3 p4 p5 p6) ⟨rfl, N10, K10, ((((E_a1.wr W3).wr W6).wr W8).wr W10), V_a1_10⟩ fun fs hr => ?_
  refine iln X0 qz d45_0 ?_
  refine bp X0 qz d45_1 ?_
  refine wishl X0 qz d45_3 ?_
  refine iln X0 qz d45_4 ?_
  refine bp X0 qz d45_5 ?_
  refine wishl X0 qz d45_7 ?_
  refine wior X0 qz d45_8 ?_
  refine il X0 qz d45_9 ?_
  refine wior X0 qz d45_11 ?_
  refine st X0 qz d45_12 #[vr a1, vi p2, vi p3, vi p4, vi p5, vi p6, vi (fx30 p3 p4 p5)] ?_
  refine aln X0 qz d45_14 ?_
  refine iln X0 qz d45_15 ?_
  refine il X0 qz d45_16 ?_
  refine bp X0 qz d45_18 ?_
  refine wishr X0 qz d45_20 ?_
  refine bp X0 qz d45_21 ?_
  show Sp p e below s₁ (mkF m 23 #[vr a1, vi p2, vi p3, vi p4, vi p5, vi p6, vi (fx30 p3 p4 p5)] [(.int 63), (.int (fx31 p3 p4 p5)), (.int p2), (.ref a1)]) _
  refine wiand X0 qz d45_23 ?_
  refine st1 _ ?_
  refine st3 _ ?_
  refine aln X3 qz d45_28 ?_
  refine iln X3 qz d45_29 ?_
  refine ic X3 qz d45_30 ?_
  refine wia X3 qz d45_31 ?_
  refine il X3 qz d45_32 ?_
  refine bp X3 qz d45_34 ?_
  refine wishr X3 qz d45_36 ?_
  refine bp X3 qz d45_37 ?_
  refine wiand X3 qz d45_39 ?_
  refine st4 _ ?_
  refine st6 _ ?_
  refine aln X6 qz d45_44 ?_
  refine iln X6 qz d45_45 ?_
  show Sp p e below T6 (mkF m 46 #[vr a1, vi p2, vi p3, vi p4, vi p5, vi p6, vi (fx30 p3 p4 p5)] [(.int p2), (.ref a1)]) _
  refine ic X6 qz d45_46 ?_
  refine wia X6 qz d45_47 ?_
  refine il X6 qz d45_48 ?_
  refine ic X6 qz d45_50 ?_
  refine icY X6 qz 51 68 d45_51 (tlt hc10).1 ?_
  refine bp X6 qz d45_68 ?_
  refine st8 _ ?_
  refine aln X8 qz d45_71 ?_
  refine iln X8 qz d45_72 ?_
  refine ic X8 qz d45_73 ?_
  refine wia X8 qz d45_74 ?_
  refine il X8 qz d45_75 ?_
  refine ic X8 qz d45_77 ?_
  refine icY X8 qz 78 92 d45_78 (tlt hc14).1 ?_
  refine bp X8 qz d45_92 ?_
  refine st10 _ ?_
  show Sp p e below T10 (mkF m 95 #[vr a1, vi p2, vi p3, vi p4, vi p5, vi p6, vi (fx30 p3 p4 p5)] []) _
  exact X10.returnOut hx Bd.returns (hb hby d45_95) hr
theorem d45_54 : dk cb45 54 (.iload 6) 2 := by decide +kernel
theorem d45_56 : dk cb45 56 (.bipush 6) 2 := by decide +kernel
theorem d45_58 : dk cb45 58 .ishr 1 := by decide +kernel
theorem d45_59 : dk cb45 59 (.bipush 63) 2 := by decide +kernel
theorem d45_61 : dk cb45 61 .iand 1 := by decide +kernel
theorem d45_62 : dk cb45 62 (.invokestatic 9) 3 := by decide +kernel
abbrev fx36 (x0 : Int32) (x1 : Int32) (x2 : Int32) : Int32 := (((((x0 <<< ((16 : Int32) &&& 31)) ||| (x1 <<< ((8 : Int32) &&& 31))) ||| x2) >>> ((6 : Int32) &&& 31)) &&& (63 : Int32))
theorem d45_65 : dk cb45 65 (.goto 5) 3 := by decide +kernel
abbrev fx37 (x0 : Int32) (x1 : Int32) (x2 : Int32) : Int32 := (sxt (((((x0 <<< ((16 : Int32) &&& 31)) ||| (x1 <<< ((8 : Int32) &&& 31))) ||| x2) >>> ((6 : Int32) &&& 31)) &&& (63 : Int32)))
theorem rm26 (l : Launch) (Z : State) (a0 : Array Value) (hw : HW Z a0) (ws : List Jvm.Cond) (w_enc w_tb : Addr) (cs_v : Int32) (cl_tb : Cell) (wv_fm : Value) (hp : Perm Z w_enc w_tb cs_v cl_tb wv_fm) (a1 : Addr) (p2 : Int32) (p3 : Int32) (p4 : Int32) (p5 : Int32) (p6 : Int32) (k_a1 : ClassId) (l_a1 : List Value) (p9 : Int32) (h0 : Heap) (n0 : Nat) (O0 : Old Z n0 h0) (V_a1 : Arv Z h0 a1 k_a1 .char p9 (lid l_a1) (.int 0)) (E_a1 : Exa Z h0 a1 "[C") (g_a1 : n0 ≤ a1) (hs4 : ¬ (p2) < 0) (hs5 : p2 < p9) (hs6 : (p2).toNatClampNeg < (l_a1).length) (hs7 : ¬ ((p2 + (1 : Int32))) < 0) (hs8 : (p2 + (1 : Int32)) < p9) (hs9 : ((p2 + (1 : Int32))).toNatClampNeg < ((stL l_a1 p2 (nar .char (sxt (((((p3 <<< ((16 : Int32) &&& 31)) ||| (p4 <<< ((8 : Int32) &&& 31))) ||| p5) >>> ((18 : Int32) &&& 31)) &&& (63 : Int32)))))).length) (hc10 : ¬ (p6 < (2 : Int32))) (hs11 : ¬ ((p2 + (2 : Int32))) < 0) (hs12 : (p2 + (2 : Int32)) < p9) (hs13 : ((p2 + (2 : Int32))).toNatClampNeg < ((stL (stL l_a1 p2 (nar .char (sxt (((((p3 <<< ((16 : Int32) &&& 31)) ||| (p4 <<< ((8 : Int32) &&& 31))) ||| p5) >>> ((18 : Int32) &&& 31)) &&& (63 : Int32))))) (p2 + (1 : Int32)) (nar .char (sxt (((((p3 <<< ((16 : Int32) &&& 31)) ||| (p4 <<< ((8 : Int32) &&& 31))) ||| p5) >>> ((12 : Int32) &&& 31)) &&& (63 : Int32)))))).length) (hc14 : p6 < (3 : Int32)) (hs15 : ¬ ((p2 + (3 : Int32))) < 0) (hs16 : (p2 + (3 : Int32)) < p9) (hs17 : ((p2 + (3 : Int32))).toNatClampNeg < ((stL (stL (stL l_a1 p2 (nar .char (sxt (((((p3 <<< ((16 : Int32) &&& 31)) ||| (p4 <<< ((8 : Int32) &&& 31))) ||| p5) >>> ((18 : Int32) &&& 31)) &&& (63 : Int32))))) (p2 + (1 : Int32)) (nar .char (sxt (((((p3 <<< ((16 : Int32) &&& 31)) ||| (p4 <<< ((8 : Int32) &&& 31))) ||| p5) >>> ((12 : Int32) &&& 31)) &&& (63 : Int32))))) (p2 + (2 : Int32)) (nar .char (sxt (((((p3 <<< ((16 : Int32) &&& 31)) ||| (p4 <<< ((8 : Int32) &&& 31))) ||| p5) >>> ((6 : Int32) &&& 31)) &&& (63 : Int32)))))).length) :
    MF l y9 (Jvm.Cond.code y9 method_4_code 7 none :: ws) ({ frames := 1, cells := 0, slots := 0, locals := 14 } : Room) Z #[(.ref a1), (.int p2), (.int p3), (.int p4), (.int p5), (.int p6)] h0 (fun v h L => v = none ∧ Fr n0 L ∧ Keep h0 h [a1] ∧ Exa Z h a1 "[C" ∧ Arv Z h a1 k_a1 .char p9 (lid (stL (stL (stL (stL l_a1 p2 (nar .char (sxt (((((p3 <<< ((16 : Int32) &&& 31)) ||| (p4 <<< ((8 : Int32) &&& 31))) ||| p5) >>> ((18 : Int32) &&& 31)) &&& (63 : Int32))))) (p2 + (1 : Int32)) (nar .char (sxt (((((p3 <<< ((16 : Int32) &&& 31)) ||| (p4 <<< ((8 : Int32) &&& 31))) ||| p5) >>> ((12 : Int32) &&& 31)) &&& (63 : Int32))))) (p2 + (2 : Int32)) (nar .char (sxt (((((p3 <<< ((16 : Int32) &&& 31)) ||| (p4 <<< ((8 : Int32) &&& 31))) ||| p5) >>> ((6 : Int32) &&& 31)) &&& (63 : Int32))))) (p2 + (3 : Int32)) (61 : Int32))) (.int 0)) := by
  refine mfB (plainFor_of_name pn_46) hw fun p e s m below meth c s₁ Bd Kz X0 e0 => ?_
  obtain ⟨hx, hby, hml, hZ, hown, -⟩ := id Kz
  have qz := And.intro hx hby
  have N0 := Fr.nil n0
  obtain ⟨_, T1, Lc1, X1, hQ1, st1⟩ := cS X0 Kz y0 2 253 254 3 255 (rmSX l Z a0 hw [] w_enc w_tb cs_v cl_tb wv_fm hp (((((p3 <<< ((16 : Int32) &&& 31)) ||| (p4 <<< ((8 : Int32) &&& 31))) ||| p5) >>> ((18 : Int32) &&& 31)) &&& (63 : Int32)) h0 n0 O0) e0 (mkF m 24 #[vr a1, vi p2, vi p3, vi p4, vi p5, vi p6, vi (fx30 p3 p4 p5)] [(.int (fx32 p3 p4 p5)), (.int p2), (.ref a1)]) [(.int (fx32 p3 p4 p5))] [(.int p2), (.ref a1)] pd_2 d45_24
  obtain ⟨rfl, Nq1, eq1⟩ := hQ1
  have N1 := Fr.app N0 Nq1
  obtain ⟨cl2, Ar2, q2, S2, Nn2, H2, G2⟩ := id V_a1
  have hin2 : ¬ (p2 < 0 ∨ cl2.slots.size ≤ (p2).toNatClampNeg) := inb_of S2 ⟨hs4, hs5⟩
  obtain ⟨T3, h3, X3, e3, W3, st3⟩ := stC X1 hx hZ eq1 Ar2 (j := p2) hin2 (g := (mkF m 27 #[vr a1, vi p2, vi p3, vi p4, vi p5, vi p6, vi (fx30 p3 p4 p5)] [(.int (fx33 p3 p4 p5)), (.int p2), (.ref a1)])) rfl rfl (hb hby d45_27)
  have N3 := Fr.snoc X3 N1 g_a1
  have O3 := O0.wr W3 g_a1
  have K3 : Keep h0 h3 [a1] := (Keep.refl h0 [a1]).wr W3 (Or.inl (ma 0 rfl))
  have V_a1_3 : Arv Z h3 a1 k_a1 .char p9 (lid (stL l_a1 p2 (nar .char (sxt (((((p3 <<< ((16 : Int32) &&& 31)) ||| (p4 <<< ((8 : Int32) &&& 31))) ||| p5) >>> ((18 : Int32) &&& 31)) &&& (63 : Int32)))))) (.int 0) := Arv.set Ar2 q2 S2 Nn2 H2 G2 (fits_nar_char _) W3 _ rfl hs6
  obtain ⟨_, T4, Lc4, X4, hQ4, st4⟩ := cS X3 Kz y0 2 253 254 3 255 (rmSX l Z a0 hw [] w_enc w_tb cs_v cl_tb wv_fm hp (((((p3 <<< ((16 : Int32) &&& 31)) ||| (p4 <<< ((8 : Int32) &&& 31))) ||| p5) >>> ((12 : Int32) &&& 31)) &&& (63 : Int32)) h3 n0 O3) e3 (mkF m 40 #[vr a1, vi p2, vi p3, vi p4, vi p5, vi p6, vi (fx30 p3 p4 p5)] [(.int (fx34 p3 p4 p5)), (.int (p2 + (1 : Int32))), (.ref a1)]) [(.int (fx34 p3 p4 p5))] [(.int (p2 + (1 : Int32))), (.ref a1)] pd_2 d45_40
  obtain ⟨rfl, Nq4, eq4⟩ := hQ4
  have N4 := Fr.app N3 Nq4
  obtain ⟨cl5, Ar5, q5, S5, Nn5, H5, G5⟩ := id V_a1_3
  have hin5 : ¬ ((p2 + (1 : Int32)) < 0 ∨ cl5.slots.size ≤ ((p2 + (1 : Int32))).toNatClampNeg) := inb_of S5 ⟨hs7, hs8⟩
  obtain ⟨T6, h6, X6, e6, W6, st6⟩ := stC X4 hx hZ eq4 Ar5 (j := (p2 + (1 : Int32))) hin5 (g := (mkF m 43 #[vr a1, vi p2, vi p3, vi p4, vi p5, vi p6, vi (fx30 p3 p4 p5)] [(.int (fx35 p3 p4 p5)), (.int (p2 + (1 : Int32))), (.ref a1)])) rfl rfl (hb hby d45_43)
  have N6 := Fr.snoc X6 N4 g_a1
  have O6 := O3.wr W6 g_a1
  have K6 : Keep h0 h6 [a1] := K3.wr W6 (Or.inl (ma 0 rfl))
  have V_a1_6 : Arv Z h6 a1 k_a1 .char p9 (lid (stL (stL l_a1 p2 (nar .char (sxt (((((p3 <<< ((16 : Int32) &&& 31)) ||| (p4 <<< ((8 : Int32) &&& 31))) ||| p5) >>> ((18 : Int32) &&& 31)) &&& (63 : Int32))))) (p2 + (1 : Int32)) (nar .char (sxt (((((p3 <<< ((16 : Int32) &&& 31)) ||| (p4 <<< ((8 : Int32) &&& 31))) ||| p5) >>> ((12 : Int32) &&& 31)) &&& (63 : Int32)))))) (.int 0) := Arv.set Ar5 q5 S5 Nn5 H5 G5 (fits_nar_char _) W6 _ rfl hs9
  obtain ⟨_, T7, Lc7, X7, hQ7, st7⟩ := cS X6 Kz y0 2 253 254 3 255 (rmSX l Z a0 hw [] w_enc w_tb cs_v cl_tb wv_fm hp (((((p3 <<< ((16 : Int32) &&& 31)) ||| (p4 <<< ((8 : Int32) &&& 31))) ||| p5) >>> ((6 : Int32) &&& 31)) &&& (63 : Int32)) h6 n0 O6) e6 (mkF m 62 #[vr a1, vi p2, vi p3, vi p4, vi p5, vi p6, vi (fx30 p3 p4 p5)] [(.int (fx36 p3 p4 p5)), (.int (p2 + (2 : Int32))), (.ref a1)]) [(.int (fx36 p3 p4 p5))] [(.int (p2 + (2 : Int32))), (.ref a1)] pd_2 d45_62
  obtain ⟨rfl, Nq7, eq7⟩ := hQ7
  have N7 := Fr.app N6 Nq7
  obtain ⟨cl8, Ar8, q8, S8, Nn8, H8, G8⟩ := id V_a1_6
  have hin8 : ¬ ((p2 + (2 : Int32)) < 0 ∨ cl8.slots.size ≤ ((p2 + (2 : Int32))).toNatClampNeg) := inb_of S8 ⟨hs11, hs12⟩
  obtain ⟨T9, h9, X9, e9, W9, st9⟩ := stC X7 hx hZ eq7 Ar8 (j := (p2 + (2 : Int32))) hin8 (g := (mkF m 70 #[vr a1, vi p2, vi p3, vi p4, vi p5, vi p6, vi (fx30 p3 p4 p5)] [(.int (fx37 p3 p4 p5)), (.int (p2 + (2 : Int32))), (.ref a1)])) rfl rfl (hb hby d45_70)
  have N9 := Fr.snoc X9 N7 g_a1
  have K9 : Keep h0 h9 [a1] := K6.wr W9 (Or.inl (ma 0 rfl))
  have V_a1_9 : Arv Z h9 a1 k_a1 .char p9 (lid (stL (stL (stL l_a1 p2 (nar .char (sxt (((((p3 <<< ((16 : Int32) &&& 31)) ||| (p4 <<< ((8 : Int32) &&& 31))) ||| p5) >>> ((18 : Int32) &&& 31)) &&& (63 : Int32))))) (p2 + (1 : Int32)) (nar .char (sxt (((((p3 <<< ((16 : Int32) &&& 31)) ||| (p4 <<< ((8 : Int32) &&& 31))) ||| p5) >>> ((12 : Int32) &&& 31)) &&& (63 : Int32))))) (p2 + (2 : Int32)) (nar .char (sxt (((((p3 <<< ((16 : Int32) &&& 31)) ||| (p4 <<< ((8 : Int32) &&& 31))) ||| p5) >>> ((6 : Int32) &&& 31)) &&& (63 : Int32)))))) (.int 0) := Arv.set Ar8 q8 S8 Nn8 H8 G8 (fits_nar_char _) W9 _ rfl hs13
  obtain ⟨cl10, Ar10, q10, S10, Nn10, H10, G10⟩ := id V_a1_9
  have hin10 : ¬ ((p2 + (3 : Int32)) < 0 ∨ cl10.slots.size ≤ ((p2 + (3 : Int32))).toNatClampNeg) := inb_of S10 ⟨hs15, hs16⟩
  obtain ⟨T11, h11, X11, e11, W11, st11⟩ := stC X9 hx hZ e9 Ar10 (j := (p2 + (3 : Int32))) hin10 (g := (mkF m 94 #[vr a1, vi p2, vi p3, vi p4, vi p5, vi p6, vi (fx30 p3 p4 p5)] [(.int 61), (.int (p2 + (3 : Int32))), (.ref a1)])) rfl rfl (hb hby d45_94)
  have N11 := Fr.snoc X11 N9 g_a1
  have K11 : Keep h0 h11 [a1] := K9.wr W11 (Or.inl (ma 0 rfl))
  have V_a1_11 : Arv Z h11 a1 k_a1 .char p9 (lid (stL (stL (stL (stL l_a1 p2 (nar .char (sxt (((((p3 <<< ((16 : Int32) &&& 31)) ||| (p4 <<< ((8 : Int32) &&& 31))) ||| p5) >>> ((18 : Int32) &&& 31)) &&& (63 : Int32))))) (p2 + (1 : Int32)) (nar .char (sxt (((((p3 <<< ((16 : Int32) &&& 31)) ||| (p4 <<< ((8 : Int32) &&& 31))) ||| p5) >>> ((12 : Int32) &&& 31)) &&& (63 : Int32))))) (p2 + (2 : Int32)) (nar .char (sxt (((((p3 <<< ((16 : Int32) &&& 31)) ||| (p4 <<< ((8 : Int32) &&& 31))) ||| p5) >>> ((6 : Int32) &&& 31)) &&& (63 : Int32))))) (p2 + (3 : Int32)) (61 : Int32))) (.int 0) := Arv.set Ar10 q10 S10 Nn10 H10 G10 (fits_nar_char _) W11 _ rfl hs17
  refine mfE Bd X11 (none) e11 (fun _ => rfl) (ef_45_0 m a1 p2 p3 p4 p5 p6) ⟨rfl, N11, K11, ((((E_a1.wr W3).wr W6).wr W9).wr W11), V_a1_11⟩ fun fs hr => ?_
  refine iln X0 qz d45_0 ?_
  refine bp X0 qz d45_1 ?_
  refine wishl X0 qz d45_3 ?_
  refine iln X0 qz d45_4 ?_
  refine bp X0 qz d45_5 ?_
  refine wishl X0 qz d45_7 ?_
  refine wior X0 qz d45_8 ?_
  refine il X0 qz d45_9 ?_
  refine wior X0 qz d45_11 ?_
  refine st X0 qz d45_12 #[vr a1, vi p2, vi p3, vi p4, vi p5, vi p6, vi (fx30 p3 p4 p5)] ?_
  refine aln X0 qz d45_14 ?_
  refine iln X0 qz d45_15 ?_
  refine il X0 qz d45_16 ?_
  refine bp X0 qz d45_18 ?_
  refine wishr X0 qz d45_20 ?_
  refine bp X0 qz d45_21 ?_
  show Sp p e below s₁ (mkF m 23 #[vr a1, vi p2, vi p3, vi p4, vi p5, vi p6, vi (fx30 p3 p4 p5)] [(.int 63), (.int (fx31 p3 p4 p5)), (.int p2), (.ref a1)]) _
  refine wiand X0 qz d45_23 ?_
  refine st1 _ ?_
  refine st3 _ ?_
  refine aln X3 qz d45_28 ?_
  refine iln X3 qz d45_29 ?_
  refine ic X3 qz d45_30 ?_
  refine wia X3 qz d45_31 ?_
  refine il X3 qz d45_32 ?_
  refine bp X3 qz d45_34 ?_
  refine wishr X3 qz d45_36 ?_
  refine bp X3 qz d45_37 ?_
  refine wiand X3 qz d45_39 ?_
  refine st4 _ ?_
  refine st6 _ ?_
  refine aln X6 qz d45_44 ?_
  refine iln X6 qz d45_45 ?_
  show Sp p e below T6 (mkF m 46 #[vr a1, vi p2, vi p3, vi p4, vi p5, vi p6, vi (fx30 p3 p4 p5)] [(.int p2), (.ref a1)]) _
  refine ic X6 qz d45_46 ?_
  refine wia X6 qz d45_47 ?_
  refine il X6 qz d45_48 ?_
  refine ic X6 qz d45_50 ?_
  refine icN X6 qz d45_51 (flt hc10).1 ?_
  refine il X6 qz d45_54 ?_
  refine bp X6 qz d45_56 ?_
  refine wishr X6 qz d45_58 ?_
  refine bp X6 qz d45_59 ?_
  refine wiand X6 qz d45_61 ?_
  refine st7 _ ?_
  refine gt X7 qz 65 70 d45_65 ?_
  refine st9 _ ?_
  refine aln X9 qz d45_71 ?_
  refine iln X9 qz d45_72 ?_
  refine ic X9 qz d45_73 ?_
  show Sp p e below T9 (mkF m 74 #[vr a1, vi p2, vi p3, vi p4, vi p5, vi p6, vi (fx30 p3 p4 p5)] [(.int 3), (.int p2), (.ref a1)]) _
  refine wia X9 qz d45_74 ?_
  refine il X9 qz d45_75 ?_
  refine ic X9 qz d45_77 ?_
  refine icY X9 qz 78 92 d45_78 (tlt hc14).1 ?_
  refine bp X9 qz d45_92 ?_
  refine st11 _ ?_
  exact X11.returnOut hx Bd.returns (hb hby d45_95) hr
theorem d45_81 : dk cb45 81 (.iload 6) 2 := by decide +kernel
theorem d45_83 : dk cb45 83 (.bipush 63) 2 := by decide +kernel
theorem d45_85 : dk cb45 85 .iand 1 := by decide +kernel
theorem d45_86 : dk cb45 86 (.invokestatic 9) 3 := by decide +kernel
abbrev fx38 (x0 : Int32) (x1 : Int32) (x2 : Int32) : Int32 := ((((x0 <<< ((16 : Int32) &&& 31)) ||| (x1 <<< ((8 : Int32) &&& 31))) ||| x2) &&& (63 : Int32))
theorem d45_89 : dk cb45 89 (.goto 5) 3 := by decide +kernel
abbrev fx39 (x0 : Int32) (x1 : Int32) (x2 : Int32) : Int32 := (sxt ((((x0 <<< ((16 : Int32) &&& 31)) ||| (x1 <<< ((8 : Int32) &&& 31))) ||| x2) &&& (63 : Int32)))
theorem rm27 (l : Launch) (Z : State) (a0 : Array Value) (hw : HW Z a0) (ws : List Jvm.Cond) (w_enc w_tb : Addr) (cs_v : Int32) (cl_tb : Cell) (wv_fm : Value) (hp : Perm Z w_enc w_tb cs_v cl_tb wv_fm) (a1 : Addr) (p2 : Int32) (p3 : Int32) (p4 : Int32) (p5 : Int32) (p6 : Int32) (k_a1 : ClassId) (l_a1 : List Value) (p9 : Int32) (h0 : Heap) (n0 : Nat) (O0 : Old Z n0 h0) (V_a1 : Arv Z h0 a1 k_a1 .char p9 (lid l_a1) (.int 0)) (E_a1 : Exa Z h0 a1 "[C") (g_a1 : n0 ≤ a1) (hs4 : ¬ (p2) < 0) (hs5 : p2 < p9) (hs6 : (p2).toNatClampNeg < (l_a1).length) (hs7 : ¬ ((p2 + (1 : Int32))) < 0) (hs8 : (p2 + (1 : Int32)) < p9) (hs9 : ((p2 + (1 : Int32))).toNatClampNeg < ((stL l_a1 p2 (nar .char (sxt (((((p3 <<< ((16 : Int32) &&& 31)) ||| (p4 <<< ((8 : Int32) &&& 31))) ||| p5) >>> ((18 : Int32) &&& 31)) &&& (63 : Int32)))))).length) (hc10 : ¬ (p6 < (2 : Int32))) (hs11 : ¬ ((p2 + (2 : Int32))) < 0) (hs12 : (p2 + (2 : Int32)) < p9) (hs13 : ((p2 + (2 : Int32))).toNatClampNeg < ((stL (stL l_a1 p2 (nar .char (sxt (((((p3 <<< ((16 : Int32) &&& 31)) ||| (p4 <<< ((8 : Int32) &&& 31))) ||| p5) >>> ((18 : Int32) &&& 31)) &&& (63 : Int32))))) (p2 + (1 : Int32)) (nar .char (sxt (((((p3 <<< ((16 : Int32) &&& 31)) ||| (p4 <<< ((8 : Int32) &&& 31))) ||| p5) >>> ((12 : Int32) &&& 31)) &&& (63 : Int32)))))).length) (hc14 : ¬ (p6 < (3 : Int32))) (hs15 : ¬ ((p2 + (3 : Int32))) < 0) (hs16 : (p2 + (3 : Int32)) < p9) (hs17 : ((p2 + (3 : Int32))).toNatClampNeg < ((stL (stL (stL l_a1 p2 (nar .char (sxt (((((p3 <<< ((16 : Int32) &&& 31)) ||| (p4 <<< ((8 : Int32) &&& 31))) ||| p5) >>> ((18 : Int32) &&& 31)) &&& (63 : Int32))))) (p2 + (1 : Int32)) (nar .char (sxt (((((p3 <<< ((16 : Int32) &&& 31)) ||| (p4 <<< ((8 : Int32) &&& 31))) ||| p5) >>> ((12 : Int32) &&& 31)) &&& (63 : Int32))))) (p2 + (2 : Int32)) (nar .char (sxt (((((p3 <<< ((16 : Int32) &&& 31)) ||| (p4 <<< ((8 : Int32) &&& 31))) ||| p5) >>> ((6 : Int32) &&& 31)) &&& (63 : Int32)))))).length) :
    MF l y9 (Jvm.Cond.code y9 method_4_code 7 none :: ws) ({ frames := 1, cells := 0, slots := 0, locals := 14 } : Room) Z #[(.ref a1), (.int p2), (.int p3), (.int p4), (.int p5), (.int p6)] h0 (fun v h L => v = none ∧ Fr n0 L ∧ Keep h0 h [a1] ∧ Exa Z h a1 "[C" ∧ Arv Z h a1 k_a1 .char p9 (lid (stL (stL (stL (stL l_a1 p2 (nar .char (sxt (((((p3 <<< ((16 : Int32) &&& 31)) ||| (p4 <<< ((8 : Int32) &&& 31))) ||| p5) >>> ((18 : Int32) &&& 31)) &&& (63 : Int32))))) (p2 + (1 : Int32)) (nar .char (sxt (((((p3 <<< ((16 : Int32) &&& 31)) ||| (p4 <<< ((8 : Int32) &&& 31))) ||| p5) >>> ((12 : Int32) &&& 31)) &&& (63 : Int32))))) (p2 + (2 : Int32)) (nar .char (sxt (((((p3 <<< ((16 : Int32) &&& 31)) ||| (p4 <<< ((8 : Int32) &&& 31))) ||| p5) >>> ((6 : Int32) &&& 31)) &&& (63 : Int32))))) (p2 + (3 : Int32)) (nar .char (sxt ((((p3 <<< ((16 : Int32) &&& 31)) ||| (p4 <<< ((8 : Int32) &&& 31))) ||| p5) &&& (63 : Int32)))))) (.int 0)) := by
  refine mfB (plainFor_of_name pn_46) hw fun p e s m below meth c s₁ Bd Kz X0 e0 => ?_
  obtain ⟨hx, hby, hml, hZ, hown, -⟩ := id Kz
  have qz := And.intro hx hby
  have N0 := Fr.nil n0
  obtain ⟨_, T1, Lc1, X1, hQ1, st1⟩ := cS X0 Kz y0 2 253 254 3 255 (rmSX l Z a0 hw [] w_enc w_tb cs_v cl_tb wv_fm hp (((((p3 <<< ((16 : Int32) &&& 31)) ||| (p4 <<< ((8 : Int32) &&& 31))) ||| p5) >>> ((18 : Int32) &&& 31)) &&& (63 : Int32)) h0 n0 O0) e0 (mkF m 24 #[vr a1, vi p2, vi p3, vi p4, vi p5, vi p6, vi (fx30 p3 p4 p5)] [(.int (fx32 p3 p4 p5)), (.int p2), (.ref a1)]) [(.int (fx32 p3 p4 p5))] [(.int p2), (.ref a1)] pd_2 d45_24
  obtain ⟨rfl, Nq1, eq1⟩ := hQ1
  have N1 := Fr.app N0 Nq1
  obtain ⟨cl2, Ar2, q2, S2, Nn2, H2, G2⟩ := id V_a1
  have hin2 : ¬ (p2 < 0 ∨ cl2.slots.size ≤ (p2).toNatClampNeg) := inb_of S2 ⟨hs4, hs5⟩
  obtain ⟨T3, h3, X3, e3, W3, st3⟩ := stC X1 hx hZ eq1 Ar2 (j := p2) hin2 (g := (mkF m 27 #[vr a1, vi p2, vi p3, vi p4, vi p5, vi p6, vi (fx30 p3 p4 p5)] [(.int (fx33 p3 p4 p5)), (.int p2), (.ref a1)])) rfl rfl (hb hby d45_27)
  have N3 := Fr.snoc X3 N1 g_a1
  have O3 := O0.wr W3 g_a1
  have K3 : Keep h0 h3 [a1] := (Keep.refl h0 [a1]).wr W3 (Or.inl (ma 0 rfl))
  have V_a1_3 : Arv Z h3 a1 k_a1 .char p9 (lid (stL l_a1 p2 (nar .char (sxt (((((p3 <<< ((16 : Int32) &&& 31)) ||| (p4 <<< ((8 : Int32) &&& 31))) ||| p5) >>> ((18 : Int32) &&& 31)) &&& (63 : Int32)))))) (.int 0) := Arv.set Ar2 q2 S2 Nn2 H2 G2 (fits_nar_char _) W3 _ rfl hs6
  obtain ⟨_, T4, Lc4, X4, hQ4, st4⟩ := cS X3 Kz y0 2 253 254 3 255 (rmSX l Z a0 hw [] w_enc w_tb cs_v cl_tb wv_fm hp (((((p3 <<< ((16 : Int32) &&& 31)) ||| (p4 <<< ((8 : Int32) &&& 31))) ||| p5) >>> ((12 : Int32) &&& 31)) &&& (63 : Int32)) h3 n0 O3) e3 (mkF m 40 #[vr a1, vi p2, vi p3, vi p4, vi p5, vi p6, vi (fx30 p3 p4 p5)] [(.int (fx34 p3 p4 p5)), (.int (p2 + (1 : Int32))), (.ref a1)]) [(.int (fx34 p3 p4 p5))] [(.int (p2 + (1 : Int32))), (.ref a1)] pd_2 d45_40
  obtain ⟨rfl, Nq4, eq4⟩ := hQ4
  have N4 := Fr.app N3 Nq4
  obtain ⟨cl5, Ar5, q5, S5, Nn5, H5, G5⟩ := id V_a1_3
  have hin5 : ¬ ((p2 + (1 : Int32)) < 0 ∨ cl5.slots.size ≤ ((p2 + (1 : Int32))).toNatClampNeg) := inb_of S5 ⟨hs7, hs8⟩
  obtain ⟨T6, h6, X6, e6, W6, st6⟩ := stC X4 hx hZ eq4 Ar5 (j := (p2 + (1 : Int32))) hin5 (g := (mkF m 43 #[vr a1, vi p2, vi p3, vi p4, vi p5, vi p6, vi (fx30 p3 p4 p5)] [(.int (fx35 p3 p4 p5)), (.int (p2 + (1 : Int32))), (.ref a1)])) rfl rfl (hb hby d45_43)
  have N6 := Fr.snoc X6 N4 g_a1
  have O6 := O3.wr W6 g_a1
  have K6 : Keep h0 h6 [a1] := K3.wr W6 (Or.inl (ma 0 rfl))
  have V_a1_6 : Arv Z h6 a1 k_a1 .char p9 (lid (stL (stL l_a1 p2 (nar .char (sxt (((((p3 <<< ((16 : Int32) &&& 31)) ||| (p4 <<< ((8 : Int32) &&& 31))) ||| p5) >>> ((18 : Int32) &&& 31)) &&& (63 : Int32))))) (p2 + (1 : Int32)) (nar .char (sxt (((((p3 <<< ((16 : Int32) &&& 31)) ||| (p4 <<< ((8 : Int32) &&& 31))) ||| p5) >>> ((12 : Int32) &&& 31)) &&& (63 : Int32)))))) (.int 0) := Arv.set Ar5 q5 S5 Nn5 H5 G5 (fits_nar_char _) W6 _ rfl hs9
  obtain ⟨_, T7, Lc7, X7, hQ7, st7⟩ := cS X6 Kz y0 2 253 254 3 255 (rmSX l Z a0 hw [] w_enc w_tb cs_v cl_tb wv_fm hp (((((p3 <<< ((16 : Int32) &&& 31)) ||| (p4 <<< ((8 : Int32) &&& 31))) ||| p5) >>> ((6 : Int32) &&& 31)) &&& (63 : Int32)) h6 n0 O6) e6 (mkF m 62 #[vr a1, vi p2, vi p3, vi p4, vi p5, vi p6, vi (fx30 p3 p4 p5)] [(.int (fx36 p3 p4 p5)), (.int (p2 + (2 : Int32))), (.ref a1)]) [(.int (fx36 p3 p4 p5))] [(.int (p2 + (2 : Int32))), (.ref a1)] pd_2 d45_62
  obtain ⟨rfl, Nq7, eq7⟩ := hQ7
  have N7 := Fr.app N6 Nq7
  obtain ⟨cl8, Ar8, q8, S8, Nn8, H8, G8⟩ := id V_a1_6
  have hin8 : ¬ ((p2 + (2 : Int32)) < 0 ∨ cl8.slots.size ≤ ((p2 + (2 : Int32))).toNatClampNeg) := inb_of S8 ⟨hs11, hs12⟩
  obtain ⟨T9, h9, X9, e9, W9, st9⟩ := stC X7 hx hZ eq7 Ar8 (j := (p2 + (2 : Int32))) hin8 (g := (mkF m 70 #[vr a1, vi p2, vi p3, vi p4, vi p5, vi p6, vi (fx30 p3 p4 p5)] [(.int (fx37 p3 p4 p5)), (.int (p2 + (2 : Int32))), (.ref a1)])) rfl rfl (hb hby d45_70)
  have N9 := Fr.snoc X9 N7 g_a1
  have O9 := O6.wr W9 g_a1
  have K9 : Keep h0 h9 [a1] := K6.wr W9 (Or.inl (ma 0 rfl))
  have V_a1_9 : Arv Z h9 a1 k_a1 .char p9 (lid (stL (stL (stL l_a1 p2 (nar .char (sxt (((((p3 <<< ((16 : Int32) &&& 31)) ||| (p4 <<< ((8 : Int32) &&& 31))) ||| p5) >>> ((18 : Int32) &&& 31)) &&& (63 : Int32))))) (p2 + (1 : Int32)) (nar .char (sxt (((((p3 <<< ((16 : Int32) &&& 31)) ||| (p4 <<< ((8 : Int32) &&& 31))) ||| p5) >>> ((12 : Int32) &&& 31)) &&& (63 : Int32))))) (p2 + (2 : Int32)) (nar .char (sxt (((((p3 <<< ((16 : Int32) &&& 31)) ||| (p4 <<< ((8 : Int32) &&& 31))) ||| p5) >>> ((6 : Int32) &&& 31)) &&& (63 : Int32)))))) (.int 0) := Arv.set Ar8 q8 S8 Nn8 H8 G8 (fits_nar_char _) W9 _ rfl hs13
  obtain ⟨_, T10, Lc10, X10, hQ10, st10⟩ := cS X9 Kz y0 2 253 254 3 255 (rmSX l Z a0 hw [] w_enc w_tb cs_v cl_tb wv_fm hp ((((p3 <<< ((16 : Int32) &&& 31)) ||| (p4 <<< ((8 : Int32) &&& 31))) ||| p5) &&& (63 : Int32)) h9 n0 O9) e9 (mkF m 86 #[vr a1, vi p2, vi p3, vi p4, vi p5, vi p6, vi (fx30 p3 p4 p5)] [(.int (fx38 p3 p4 p5)), (.int (p2 + (3 : Int32))), (.ref a1)]) [(.int (fx38 p3 p4 p5))] [(.int (p2 + (3 : Int32))), (.ref a1)] pd_2 d45_86
  obtain ⟨rfl, Nq10, eq10⟩ := hQ10
  have N10 := Fr.app N9 Nq10
  obtain ⟨cl11, Ar11, q11, S11, Nn11, H11, G11⟩ := id V_a1_9
  have hin11 : ¬ ((p2 + (3 : Int32)) < 0 ∨ cl11.slots.size ≤ ((p2 + (3 : Int32))).toNatClampNeg) := inb_of S11 ⟨hs15, hs16⟩
  obtain ⟨T12, h12, X12, e12, W12, st12⟩ := stC X10 hx hZ eq10 Ar11 (j := (p2 + (3 : Int32))) hin11 (g := (mkF m 94 #[vr a1, vi p2, vi p3, vi p4, vi p5, vi p6, vi (fx30 p3 p4 p5)] [(.int (fx39 p3 p4 p5)), (.int (p2 + (3 : Int32))), (.ref a1)])) rfl rfl (hb hby d45_94)
  have N12 := Fr.snoc X12 N10 g_a1
  have K12 : Keep h0 h12 [a1] := K9.wr W12 (Or.inl (ma 0 rfl))
  have V_a1_12 : Arv Z h12 a1 k_a1 .char p9 (lid (stL (stL (stL (stL l_a1 p2 (nar .char (sxt (((((p3 <<< ((16 : Int32) &&& 31)) ||| (p4 <<< ((8 : Int32) &&& 31))) ||| p5) >>> ((18 : Int32) &&& 31)) &&& (63 : Int32))))) (p2 + (1 : Int32)) (nar .char (sxt (((((p3 <<< ((16 : Int32) &&& 31)) ||| (p4 <<< ((8 : Int32) &&& 31))) ||| p5) >>> ((12 : Int32) &&& 31)) &&& (63 : Int32))))) (p2 + (2 : Int32)) (nar .char (sxt (((((p3 <<< ((16 : Int32) &&& 31)) ||| (p4 <<< ((8 : Int32) &&& 31))) ||| p5) >>> ((6 : Int32) &&& 31)) &&& (63 : Int32))))) (p2 + (3 : Int32)) (nar .char (sxt ((((p3 <<< ((16 : Int32) &&& 31)) ||| (p4 <<< ((8 : Int32) &&& 31))) ||| p5) &&& (63 : Int32)))))) (.int 0) := Arv.set Ar11 q11 S11 Nn11 H11 G11 (fits_nar_char _) W12 _ rfl hs17
  refine mfE Bd X12 (none) e12 (fun _ => rfl) (ef_45_0 m a1 p2 p3 p4 p5 p6) ⟨rfl, N12, K12, ((((E_a1.wr W3).wr W6).wr W9).wr W12), V_a1_12⟩ fun fs hr => ?_
  refine iln X0 qz d45_0 ?_
  refine bp X0 qz d45_1 ?_
  refine wishl X0 qz d45_3 ?_
  refine iln X0 qz d45_4 ?_
  refine bp X0 qz d45_5 ?_
  refine wishl X0 qz d45_7 ?_
  refine wior X0 qz d45_8 ?_
  refine il X0 qz d45_9 ?_
  refine wior X0 qz d45_11 ?_
  refine st X0 qz d45_12 #[vr a1, vi p2, vi p3, vi p4, vi p5, vi p6, vi (fx30 p3 p4 p5)] ?_
  refine aln X0 qz d45_14 ?_
  refine iln X0 qz d45_15 ?_
  refine il X0 qz d45_16 ?_
  refine bp X0 qz d45_18 ?_
  refine wishr X0 qz d45_20 ?_
  refine bp X0 qz d45_21 ?_
  show Sp p e below s₁ (mkF m 23 #[vr a1, vi p2, vi p3, vi p4, vi p5, vi p6, vi (fx30 p3 p4 p5)] [(.int 63), (.int (fx31 p3 p4 p5)), (.int p2), (.ref a1)]) _
  refine wiand X0 qz d45_23 ?_
  refine st1 _ ?_
  refine st3 _ ?_
  refine aln X3 qz d45_28 ?_
  refine iln X3 qz d45_29 ?_
  refine ic X3 qz d45_30 ?_
  refine wia X3 qz d45_31 ?_
  refine il X3 qz d45_32 ?_
  refine bp X3 qz d45_34 ?_
  refine wishr X3 qz d45_36 ?_
  refine bp X3 qz d45_37 ?_
  refine wiand X3 qz d45_39 ?_
  refine st4 _ ?_
  refine st6 _ ?_
  refine aln X6 qz d45_44 ?_
  refine iln X6 qz d45_45 ?_
  show Sp p e below T6 (mkF m 46 #[vr a1, vi p2, vi p3, vi p4, vi p5, vi p6, vi (fx30 p3 p4 p5)] [(.int p2), (.ref a1)]) _
  refine ic X6 qz d45_46 ?_
  refine wia X6 qz d45_47 ?_
  refine il X6 qz d45_48 ?_
  refine ic X6 qz d45_50 ?_
  refine icN X6 qz d45_51 (flt hc10).1 ?_
  refine il X6 qz d45_54 ?_
  refine bp X6 qz d45_56 ?_
  refine wishr X6 qz d45_58 ?_
  refine bp X6 qz d45_59 ?_
  refine wiand X6 qz d45_61 ?_
  refine st7 _ ?_
  refine gt X7 qz 65 70 d45_65 ?_
  refine st9 _ ?_
  refine aln X9 qz d45_71 ?_
  refine iln X9 qz d45_72 ?_
  refine ic X9 qz d45_73 ?_
  show Sp p e below T9 (mkF m 74 #[vr a1, vi p2, vi p3, vi p4, vi p5, vi p6, vi (fx30 p3 p4 p5)] [(.int 3), (.int p2), (.ref a1)]) _
  refine wia X9 qz d45_74 ?_
  refine il X9 qz d45_75 ?_
  refine ic X9 qz d45_77 ?_
  refine icN X9 qz d45_78 (flt hc14).1 ?_
  refine il X9 qz d45_81 ?_
  refine bp X9 qz d45_83 ?_
  refine wiand X9 qz d45_85 ?_
  refine st10 _ ?_
  refine gt X10 qz 89 94 d45_89 ?_
  refine st12 _ ?_
  exact X12.returnOut hx Bd.returns (hb hby d45_95) hr
def QGRP (Z : State) (out : Addr) (ko : ClassId) (ln at' b0 b1 b2 c : Int32) (lo : List Value) (h0 : Heap) (n0 : Nat) (v : Option Value) (h : Heap) (L : List Loc) : Prop := v = none ∧ Fr n0 L ∧ Keep h0 h [out] ∧ Exa Z h out "[C" ∧ Arv Z h out ko .char ln (lid (stL (stL (stL (stL lo at' (gx0 c b0 b1 b2)) (at' + (1 : Int32)) (gx1 c b0 b1 b2)) (at' + (2 : Int32)) (gx2 c b0 b1 b2)) (at' + (3 : Int32)) (gx3 c b0 b1 b2))) (.int 0)
set_option maxRecDepth 65536 in
set_option maxHeartbeats 4000000 in
theorem rmGRP (l : Launch) (Z : State) (a0 : Array Value) (hw : ∀ d ∈ tables_1, d.before a0 Z = true) (ws : List Jvm.Cond) (w_enc w_tb : Addr) (cs_v : Int32) (cl_tb : Cell) (wv_fm : Value) (hp : Perm Z w_enc w_tb cs_v cl_tb wv_fm) (out : Addr) (ko : ClassId) (ln at' b0 b1 b2 c : Int32) (lo : List Value) (h0 : Heap) (n0 : Nat) (O0 : Old Z n0 h0) (g_out : n0 ≤ out) (E_out : Exa Z h0 out "[C") (V_out : Arv Z h0 out ko .char ln (lid lo) (.int 0)) (sd1 : ¬ (at') < 0) (sd2 : at' < ln) (sd3 : (at').toNatClampNeg < (lo).length) (sd4 : ¬ ((at' + (1 : Int32))) < 0) (sd5 : (at' + (1 : Int32)) < ln) (sd6 : ((at' + (1 : Int32))).toNatClampNeg < ((stL lo at' (nar .char (sxt (((((b0 <<< ((16 : Int32) &&& 31)) ||| (b1 <<< ((8 : Int32) &&& 31))) ||| b2) >>> ((18 : Int32) &&& 31)) &&& (63 : Int32)))))).length) (sd7 : ¬ ((at' + (2 : Int32))) < 0) (sd8 : (at' + (2 : Int32)) < ln) (sd9 : ((at' + (2 : Int32))).toNatClampNeg < ((stL (stL lo at' (nar .char (sxt (((((b0 <<< ((16 : Int32) &&& 31)) ||| (b1 <<< ((8 : Int32) &&& 31))) ||| b2) >>> ((18 : Int32) &&& 31)) &&& (63 : Int32))))) (at' + (1 : Int32)) (nar .char (sxt (((((b0 <<< ((16 : Int32) &&& 31)) ||| (b1 <<< ((8 : Int32) &&& 31))) ||| b2) >>> ((12 : Int32) &&& 31)) &&& (63 : Int32)))))).length) (sd10 : ¬ ((at' + (3 : Int32))) < 0) (sd11 : (at' + (3 : Int32)) < ln) (sd12 : ((at' + (3 : Int32))).toNatClampNeg < ((stL (stL (stL lo at' (nar .char (sxt (((((b0 <<< ((16 : Int32) &&& 31)) ||| (b1 <<< ((8 : Int32) &&& 31))) ||| b2) >>> ((18 : Int32) &&& 31)) &&& (63 : Int32))))) (at' + (1 : Int32)) (nar .char (sxt (((((b0 <<< ((16 : Int32) &&& 31)) ||| (b1 <<< ((8 : Int32) &&& 31))) ||| b2) >>> ((12 : Int32) &&& 31)) &&& (63 : Int32))))) (at' + (2 : Int32)) (61 : Int32))).length) (sd13 : ((at' + (3 : Int32))).toNatClampNeg < ((stL (stL (stL lo at' (nar .char (sxt (((((b0 <<< ((16 : Int32) &&& 31)) ||| (b1 <<< ((8 : Int32) &&& 31))) ||| b2) >>> ((18 : Int32) &&& 31)) &&& (63 : Int32))))) (at' + (1 : Int32)) (nar .char (sxt (((((b0 <<< ((16 : Int32) &&& 31)) ||| (b1 <<< ((8 : Int32) &&& 31))) ||| b2) >>> ((12 : Int32) &&& 31)) &&& (63 : Int32))))) (at' + (2 : Int32)) (nar .char (sxt (((((b0 <<< ((16 : Int32) &&& 31)) ||| (b1 <<< ((8 : Int32) &&& 31))) ||| b2) >>> ((6 : Int32) &&& 31)) &&& (63 : Int32)))))).length) :
    MetFree l y9 (head1 (Jvm.Cond.code y9 method_4_code 7 none :: ws) ({ frames := 1, cells := 0, slots := 0, locals := 14 } : Room)) (fun as' U => as' = #[(.ref out), (.int at'), (.int b0), (.int b1), (.int b2), (.int c)] ∧ Z.Warmed39 U.vm ∧ U.heap = h0) (fun _ _ _ _ _ => True) (fun _ U o U' => ∃ v L, o = .returned v ∧ QGRP Z out ko ln at' b0 b1 b2 c lo h0 n0 v U'.heap L ∧ FrameEnd U o U' L ({ frames := 1, cells := 0, slots := 0, locals := 14 } : Room).cells ({ frames := 1, cells := 0, slots := 0, locals := 14 } : Room).slots) := by
  by_cases d0 : c < (2 : Int32)
  · skip
    have h2 : gx2 c b0 b1 b2 = (61 : Int32) := by rw [gx2, if_pos d0]
    have h3 : gx3 c b0 b1 b2 = (61 : Int32) := by rw [gx3, if_pos (own_lt23 d0)]
    refine (rm25 l Z a0 hw ws w_enc w_tb cs_v cl_tb wv_fm hp out at' b0 b1 b2 c ko lo ln h0 n0 O0 V_out E_out g_out sd1 sd2 sd3 sd4 sd5 sd6 d0 sd7 sd8 sd9 (own_lt23 d0) sd10 sd11 sd12).mono (fun _ _ h => h) (fun _ _ _ _ _ h => h) (fun _ s o s' _ ⟨v, L, e, q, f⟩ => ⟨v, L, e, ?_, f⟩)
    obtain ⟨e1, N1, K1, f0, f1⟩ := q
    exact ⟨e1, N1, K1, f0, by rw [h2, h3]; exact f1⟩
  · skip
    by_cases d1 : c < (3 : Int32)
    · skip
      have h2 : gx2 c b0 b1 b2 = (nar .char (sxt (((((b0 <<< ((16 : Int32) &&& 31)) ||| (b1 <<< ((8 : Int32) &&& 31))) ||| b2) >>> ((6 : Int32) &&& 31)) &&& (63 : Int32)))) := by rw [gx2, if_neg d0]
      have h3 : gx3 c b0 b1 b2 = (61 : Int32) := by rw [gx3, if_pos d1]
      refine (rm26 l Z a0 hw ws w_enc w_tb cs_v cl_tb wv_fm hp out at' b0 b1 b2 c ko lo ln h0 n0 O0 V_out E_out g_out sd1 sd2 sd3 sd4 sd5 sd6 d0 sd7 sd8 sd9 d1 sd10 sd11 sd13).mono (fun _ _ h => h) (fun _ _ _ _ _ h => h) (fun _ s o s' _ ⟨v, L, e, q, f⟩ => ⟨v, L, e, ?_, f⟩)
      obtain ⟨e1, N1, K1, f0, f1⟩ := q
      exact ⟨e1, N1, K1, f0, by rw [h2, h3]; exact f1⟩
    · skip
      have h2 : gx2 c b0 b1 b2 = (nar .char (sxt (((((b0 <<< ((16 : Int32) &&& 31)) ||| (b1 <<< ((8 : Int32) &&& 31))) ||| b2) >>> ((6 : Int32) &&& 31)) &&& (63 : Int32)))) := by rw [gx2, if_neg d0]
      have h3 : gx3 c b0 b1 b2 = (nar .char (sxt ((((b0 <<< ((16 : Int32) &&& 31)) ||| (b1 <<< ((8 : Int32) &&& 31))) ||| b2) &&& (63 : Int32)))) := by rw [gx3, if_neg d1]
      refine (rm27 l Z a0 hw ws w_enc w_tb cs_v cl_tb wv_fm hp out at' b0 b1 b2 c ko lo ln h0 n0 O0 V_out E_out g_out sd1 sd2 sd3 sd4 sd5 sd6 d0 sd7 sd8 sd9 d1 sd10 sd11 sd13).mono (fun _ _ h => h) (fun _ _ _ _ _ h => h) (fun _ s o s' _ ⟨v, L, e, q, f⟩ => ⟨v, L, e, ?_, f⟩)
      obtain ⟨e1, N1, K1, f0, f1⟩ := q
      exact ⟨e1, N1, K1, f0, by rw [h2, h3]; exact f1⟩
abbrev fx40 (x0 : Int32) : Int32 := ((x0 &&& (2147483647 : Int32)) % (7 : Int32))
abbrev fx41 (x0 : Int32) : Int32 := ((x0 &&& (255 : Int32)).toUInt32.toUInt16.toUInt32.toInt32)
theorem pd_3 : parseMethodDescriptor "(JII)I" = some ⟨[.long, .int, .int], some .int⟩ := by decide +kernel
abbrev fx42 (x0 : Int64) (x1 : Int32) : Int32 := (bA x0 (0 : Int32) (nE x1))
abbrev fx43 (x0 : Int64) (x1 : Int32) : Int32 := (bA x0 (1 : Int32) (nE x1))
abbrev fx44 (x0 : Int64) (x1 : Int32) : Int32 := (bA x0 (2 : Int32) (nE x1))
abbrev fx45 (x0 : Int64) (x1 : Int32) : Int32 := (bA x0 (3 : Int32) (nE x1))
abbrev fx46 (x0 : Int64) (x1 : Int32) : Int32 := (bA x0 (4 : Int32) (nE x1))
abbrev fx47 (x0 : Int64) (x1 : Int32) : Int32 := (bA x0 (5 : Int32) (nE x1))
set_option maxRecDepth 65536 in
set_option maxHeartbeats 4000000 in
theorem pay_0 (l : Launch) (Z : State) (a0 : Array Value) (hw : ∀ d ∈ tables_1, d.before a0 Z = true) (p0 p1 p2 : Int32) (p3 : Int64) (ca ck v0 v1 v2 v3 v4 v5 : Int32) (h0 : Heap) (n0 : Nat) (O0 : Old Z n0 h0) {p : Program} {e : Env} {s : State} {m : MethodId} {args : Array Value} {below : List Frame} {meth : Method} {c : Code} {s₁ : State} {locs : List Loc} (X0 : Stand p l e room_1 s m args below meth c s₁ locs 0 0) (hx : p.tables.exec = Jvm.exec) (hZ : Z.Warmed39 s.vm) (hby : c.code = code) (hml : c.maxLocals = 20) (hown : s.vm.findClass "com/example/cloakfield/cloakfield/format/TaggedValueToTextPinLaw" = some m.cls) (e0 : s₁.heap = h0) (N0 : Fr n0 locs) :
    ∃ T' h' locs' b kb, Stand p l e room_1 s m args below meth c T' locs' 1 6 ∧ T'.heap = h' ∧ Fr n0 locs' ∧ Keep h0 h' [] ∧ h0.size ≤ b ∧ Exa Z h' b "[B" ∧ Arv Z h' b kb .byte (0 : Int32) (plL (0 : Int32) v0 v1 v2 v3 v4 v5) (.int 0) ∧ ∀ target, Sp p e below T' (mkF m 162 #[vi p0, vi p1, vi p2, vj p3, .second, vi 0, vi ca, vi ck, vi v0, vi v1, vi v2, vi v3, vi v4, vi v5, vr b, uu, uu, uu, uu, uu] []) target → Sp p e below s₁ (mkF m 79 #[vi p0, vi p1, vi p2, vj p3, .second, vi 0, vi ca, vi ck, vi v0, vi v1, vi v2, vi v3, vi v4, vi v5, uu, uu, uu, uu, uu, uu] []) target := by
  have Kz := And.intro hx (And.intro hby (And.intro hml (And.intro hZ (And.intro hown hw))))
  obtain ⟨T1, h1, k1, X1, e1, E1, A1, EA1, st1⟩ := newPE X0 hx hZ (wq hw 6 rfl) e0 (g := (mkF m 81 #[vi p0, vi p1, vi p2, vj p3, .second, vi 0, vi ca, vi ck, vi v0, vi v1, vi v2, vi v3, vi v4, vi v5, uu, uu, uu, uu, uu, uu] [(.int 0)])) rfl (hb hby at_81) rfl (by decide) (cap := 6) (by decide) (by decide) (by decide) (by decide) (ad := "[B") (by decide)
  obtain ⟨b1, g1⟩ : ∃ z, z = h0.size := ⟨_, rfl⟩
  rw [← g1] at A1 EA1 st1
  have g_b1 : n0 ≤ b1 := Nat.le_trans (own_sz O0) (Nat.le_of_eq g1.symm)
  have sz_b1 : h0.size ≤ b1 := Nat.le_trans (Keep.refl h0 []).1 (Nat.le_of_eq g1.symm)
  have O1 := O0.ext E1
  have K1 : Keep h0 h1 [] := (Keep.refl h0 []).ext E1
  have V_b1 : Arv Z h1 b1 k1 .byte (0 : Int32) [] (.int 0) := (Arv.new A1 (by decide)).pad (pad_rep [] (.int 0) 0)
  have hP : plL (0 : Int32) v0 v1 v2 v3 v4 v5 = [] := by rw [plL, if_pos rfl]
  have qz := And.intro hx hby
  refine ⟨T1, _, _, b1, k1, X1, e1, N0, K1, sz_b1, EA1, by rw [hP]; exact V_b1, fun target kt => ?_⟩
  show Sp p e below s₁ (mkF m 79 #[vi p0, vi p1, vi p2, vj p3, .second, vi 0, vi ca, vi ck, vi v0, vi v1, vi v2, vi v3, vi v4, vi v5, uu, uu, uu, uu, uu, uu] []) _
  refine il X0 qz at_79 ?_
  refine st1 _ ?_
  refine sta X1 qz at_83 #[vi p0, vi p1, vi p2, vj p3, .second, vi 0, vi ca, vi ck, vi v0, vi v1, vi v2, vi v3, vi v4, vi v5, vr b1, uu, uu, uu, uu, uu] ?_
  refine il X1 qz at_85 ?_
  refine ifY X1 qz 87 97 at_87 (flt (by decide : ¬ ((0 : Int32) < (0 : Int32)))).2.2.2 ?_
  refine il X1 qz at_97 ?_
  refine ic X1 qz at_99 ?_
  refine icY X1 qz 100 110 at_100 (flt (by decide : ¬ ((1 : Int32) < (0 : Int32)))).2.2.2 ?_
  refine il X1 qz at_110 ?_
  refine ic X1 qz at_112 ?_
  refine icY X1 qz 113 123 at_113 (flt (by decide : ¬ ((2 : Int32) < (0 : Int32)))).2.2.2 ?_
  refine il X1 qz at_123 ?_
  refine ic X1 qz at_125 ?_
  refine icY X1 qz 126 136 at_126 (flt (by decide : ¬ ((3 : Int32) < (0 : Int32)))).2.2.2 ?_
  refine il X1 qz at_136 ?_
  refine ic X1 qz at_138 ?_
  show Sp p e below T1 (mkF m 139 #[vi p0, vi p1, vi p2, vj p3, .second, vi 0, vi ca, vi ck, vi v0, vi v1, vi v2, vi v3, vi v4, vi v5, vr b1, uu, uu, uu, uu, uu] [(.int 4), (.int 0)]) _
  refine icY X1 qz 139 149 at_139 (flt (by decide : ¬ ((4 : Int32) < (0 : Int32)))).2.2.2 ?_
  refine il X1 qz at_149 ?_
  refine ic X1 qz at_151 ?_
  refine icY X1 qz 152 162 at_152 (flt (by decide : ¬ ((5 : Int32) < (0 : Int32)))).2.2.2 ?_
  exact kt
set_option maxRecDepth 65536 in
set_option maxHeartbeats 4000000 in
theorem pay_1 (l : Launch) (Z : State) (a0 : Array Value) (hw : ∀ d ∈ tables_1, d.before a0 Z = true) (p0 p1 p2 : Int32) (p3 : Int64) (ca ck v0 v1 v2 v3 v4 v5 : Int32) (h0 : Heap) (n0 : Nat) (O0 : Old Z n0 h0) {p : Program} {e : Env} {s : State} {m : MethodId} {args : Array Value} {below : List Frame} {meth : Method} {c : Code} {s₁ : State} {locs : List Loc} (X0 : Stand p l e room_1 s m args below meth c s₁ locs 0 0) (hx : p.tables.exec = Jvm.exec) (hZ : Z.Warmed39 s.vm) (hby : c.code = code) (hml : c.maxLocals = 20) (hown : s.vm.findClass "com/example/cloakfield/cloakfield/format/TaggedValueToTextPinLaw" = some m.cls) (e0 : s₁.heap = h0) (N0 : Fr n0 locs) :
    ∃ T' h' locs' b kb, Stand p l e room_1 s m args below meth c T' locs' 1 6 ∧ T'.heap = h' ∧ Fr n0 locs' ∧ Keep h0 h' [] ∧ h0.size ≤ b ∧ Exa Z h' b "[B" ∧ Arv Z h' b kb .byte (1 : Int32) (plL (1 : Int32) v0 v1 v2 v3 v4 v5) (.int 0) ∧ ∀ target, Sp p e below T' (mkF m 162 #[vi p0, vi p1, vi p2, vj p3, .second, vi 1, vi ca, vi ck, vi v0, vi v1, vi v2, vi v3, vi v4, vi v5, vr b, uu, uu, uu, uu, uu] []) target → Sp p e below s₁ (mkF m 79 #[vi p0, vi p1, vi p2, vj p3, .second, vi 1, vi ca, vi ck, vi v0, vi v1, vi v2, vi v3, vi v4, vi v5, uu, uu, uu, uu, uu, uu] []) target := by
  have Kz := And.intro hx (And.intro hby (And.intro hml (And.intro hZ (And.intro hown hw))))
  obtain ⟨T1, h1, k1, X1, e1, E1, A1, EA1, st1⟩ := newPE X0 hx hZ (wq hw 6 rfl) e0 (g := (mkF m 81 #[vi p0, vi p1, vi p2, vj p3, .second, vi 1, vi ca, vi ck, vi v0, vi v1, vi v2, vi v3, vi v4, vi v5, uu, uu, uu, uu, uu, uu] [(.int 1)])) rfl (hb hby at_81) rfl (by decide) (cap := 6) (by decide) (by decide) (by decide) (by decide) (ad := "[B") (by decide)
  obtain ⟨b1, g1⟩ : ∃ z, z = h0.size := ⟨_, rfl⟩
  rw [← g1] at A1 EA1 st1
  have g_b1 : n0 ≤ b1 := Nat.le_trans (own_sz O0) (Nat.le_of_eq g1.symm)
  have sz_b1 : h0.size ≤ b1 := Nat.le_trans (Keep.refl h0 []).1 (Nat.le_of_eq g1.symm)
  have O1 := O0.ext E1
  have K1 : Keep h0 h1 [] := (Keep.refl h0 []).ext E1
  have V_b1 : Arv Z h1 b1 k1 .byte (1 : Int32) [(.int 0)] (.int 0) := (Arv.new A1 (by decide)).pad (pad_rep [] (.int 0) 1)
  obtain ⟨T3, h3, X3, e3, W3, V_b1_3, st3⟩ := wB X1 Kz e1 V_b1 (0 : Int32) 0 (mkF m 96 #[vi p0, vi p1, vi p2, vj p3, .second, vi 1, vi ca, vi ck, vi v0, vi v1, vi v2, vi v3, vi v4, vi v5, vr b1, uu, uu, uu, uu, uu] [(.int (v0.toInt8.toInt32)), (.int 0), (.ref b1)]) at_96
  have N3 := Fr.snoc X3 N0 g_b1
  have O3 := O1.wr W3 g_b1
  have K3 : Keep h0 h3 [] := K1.wr W3 (Or.inr sz_b1)
  have hP : plL (1 : Int32) v0 v1 v2 v3 v4 v5 = [(.int (nar .byte (v0.toInt8.toInt32)))] := by rw [plL, if_neg (by decide), if_pos rfl]
  have qz := And.intro hx hby
  refine ⟨T3, _, _, b1, k1, X3, e3, N3, K3, sz_b1, (EA1.wr W3), by rw [hP]; exact V_b1_3, fun target kt => ?_⟩
  show Sp p e below s₁ (mkF m 79 #[vi p0, vi p1, vi p2, vj p3, .second, vi 1, vi ca, vi ck, vi v0, vi v1, vi v2, vi v3, vi v4, vi v5, uu, uu, uu, uu, uu, uu] []) _
  refine il X0 qz at_79 ?_
  refine st1 _ ?_
  refine sta X1 qz at_83 #[vi p0, vi p1, vi p2, vj p3, .second, vi 1, vi ca, vi ck, vi v0, vi v1, vi v2, vi v3, vi v4, vi v5, vr b1, uu, uu, uu, uu, uu] ?_
  refine il X1 qz at_85 ?_
  refine ifN X1 qz at_87 (tlt (by decide : (0 : Int32) < (1 : Int32))).2.2.2 ?_
  refine al X1 qz at_90 ?_
  refine ic X1 qz at_92 ?_
  refine il X1 qz at_93 ?_
  refine wib2 X1 qz at_95 ?_
  refine st3 _ ?_
  refine il X3 qz at_97 ?_
  refine ic X3 qz at_99 ?_
  refine icY X3 qz 100 110 at_100 (flt (by decide : ¬ ((1 : Int32) < (1 : Int32)))).2.2.2 ?_
  refine il X3 qz at_110 ?_
  refine ic X3 qz at_112 ?_
  refine icY X3 qz 113 123 at_113 (flt (by decide : ¬ ((2 : Int32) < (1 : Int32)))).2.2.2 ?_
  show Sp p e below T3 (mkF m 123 #[vi p0, vi p1, vi p2, vj p3, .second, vi 1, vi ca, vi ck, vi v0, vi v1, vi v2, vi v3, vi v4, vi v5, vr b1, uu, uu, uu, uu, uu] []) _
  refine il X3 qz at_123 ?_
  refine ic X3 qz at_125 ?_
  refine icY X3 qz 126 136 at_126 (flt (by decide : ¬ ((3 : Int32) < (1 : Int32)))).2.2.2 ?_
  refine il X3 qz at_136 ?_
  refine ic X3 qz at_138 ?_
  refine icY X3 qz 139 149 at_139 (flt (by decide : ¬ ((4 : Int32) < (1 : Int32)))).2.2.2 ?_
  refine il X3 qz at_149 ?_
  refine ic X3 qz at_151 ?_
  refine icY X3 qz 152 162 at_152 (flt (by decide : ¬ ((5 : Int32) < (1 : Int32)))).2.2.2 ?_
  exact kt
set_option maxRecDepth 65536 in
set_option maxHeartbeats 4000000 in
theorem pay_2 (l : Launch) (Z : State) (a0 : Array Value) (hw : ∀ d ∈ tables_1, d.before a0 Z = true) (p0 p1 p2 : Int32) (p3 : Int64) (ca ck v0 v1 v2 v3 v4 v5 : Int32) (h0 : Heap) (n0 : Nat) (O0 : Old Z n0 h0) {p : Program} {e : Env} {s : State} {m : MethodId} {args : Array Value} {below : List Frame} {meth : Method} {c : Code} {s₁ : State} {locs : List Loc} (X0 : Stand p l e room_1 s m args below meth c s₁ locs 0 0) (hx : p.tables.exec = Jvm.exec) (hZ : Z.Warmed39 s.vm) (hby : c.code = code) (hml : c.maxLocals = 20) (hown : s.vm.findClass "com/example/cloakfield/cloakfield/format/TaggedValueToTextPinLaw" = some m.cls) (e0 : s₁.heap = h0) (N0 : Fr n0 locs) :
    ∃ T' h' locs' b kb, Stand p l e room_1 s m args below meth c T' locs' 1 6 ∧ T'.heap = h' ∧ Fr n0 locs' ∧ Keep h0 h' [] ∧ h0.size ≤ b ∧ Exa Z h' b "[B" ∧ Arv Z h' b kb .byte (2 : Int32) (plL (2 : Int32) v0 v1 v2 v3 v4 v5) (.int 0) ∧ ∀ target, Sp p e below T' (mkF m 162 #[vi p0, vi p1, vi p2, vj p3, .second, vi 2, vi ca, vi ck, vi v0, vi v1, vi v2, vi v3, vi v4, vi v5, vr b, uu, uu, uu, uu, uu] []) target → Sp p e below s₁ (mkF m 79 #[vi p0, vi p1, vi p2, vj p3, .second, vi 2, vi ca, vi ck, vi v0, vi v1, vi v2, vi v3, vi v4, vi v5, uu, uu, uu, uu, uu, uu] []) target := by
  have Kz := And.intro hx (And.intro hby (And.intro hml (And.intro hZ (And.intro hown hw))))
  obtain ⟨T1, h1, k1, X1, e1, E1, A1, EA1, st1⟩ := newPE X0 hx hZ (wq hw 6 rfl) e0 (g := (mkF m 81 #[vi p0, vi p1, vi p2, vj p3, .second, vi 2, vi ca, vi ck, vi v0, vi v1, vi v2, vi v3, vi v4, vi v5, uu, uu, uu, uu, uu, uu] [(.int 2)])) rfl (hb hby at_81) rfl (by decide) (cap := 6) (by decide) (by decide) (by decide) (by decide) (ad := "[B") (by decide)
  obtain ⟨b1, g1⟩ : ∃ z, z = h0.size := ⟨_, rfl⟩
  rw [← g1] at A1 EA1 st1
  have g_b1 : n0 ≤ b1 := Nat.le_trans (own_sz O0) (Nat.le_of_eq g1.symm)
  have sz_b1 : h0.size ≤ b1 := Nat.le_trans (Keep.refl h0 []).1 (Nat.le_of_eq g1.symm)
  have O1 := O0.ext E1
  have K1 : Keep h0 h1 [] := (Keep.refl h0 []).ext E1
  have V_b1 : Arv Z h1 b1 k1 .byte (2 : Int32) [(.int 0), (.int 0)] (.int 0) := (Arv.new A1 (by decide)).pad (pad_rep [] (.int 0) 2)
  obtain ⟨T3, h3, X3, e3, W3, V_b1_3, st3⟩ := wB X1 Kz e1 V_b1 (0 : Int32) 0 (mkF m 96 #[vi p0, vi p1, vi p2, vj p3, .second, vi 2, vi ca, vi ck, vi v0, vi v1, vi v2, vi v3, vi v4, vi v5, vr b1, uu, uu, uu, uu, uu] [(.int (v0.toInt8.toInt32)), (.int 0), (.ref b1)]) at_96
  have N3 := Fr.snoc X3 N0 g_b1
  have O3 := O1.wr W3 g_b1
  have K3 : Keep h0 h3 [] := K1.wr W3 (Or.inr sz_b1)
  obtain ⟨T5, h5, X5, e5, W5, V_b1_5, st5⟩ := wB X3 Kz e3 V_b1_3 (1 : Int32) 1 (mkF m 109 #[vi p0, vi p1, vi p2, vj p3, .second, vi 2, vi ca, vi ck, vi v0, vi v1, vi v2, vi v3, vi v4, vi v5, vr b1, uu, uu, uu, uu, uu] [(.int (v1.toInt8.toInt32)), (.int 1), (.ref b1)]) at_109
  have N5 := Fr.snoc X5 N3 g_b1
  have O5 := O3.wr W5 g_b1
  have K5 : Keep h0 h5 [] := K3.wr W5 (Or.inr sz_b1)
  have hP : plL (2 : Int32) v0 v1 v2 v3 v4 v5 = [(.int (nar .byte (v0.toInt8.toInt32))), (.int (nar .byte (v1.toInt8.toInt32)))] := by rw [plL, if_neg (by decide), if_neg (by decide), if_pos rfl]
  have qz := And.intro hx hby
  refine ⟨T5, _, _, b1, k1, X5, e5, N5, K5, sz_b1, ((EA1.wr W3).wr W5), by rw [hP]; exact V_b1_5, fun target kt => ?_⟩
  show Sp p e below s₁ (mkF m 79 #[vi p0, vi p1, vi p2, vj p3, .second, vi 2, vi ca, vi ck, vi v0, vi v1, vi v2, vi v3, vi v4, vi v5, uu, uu, uu, uu, uu, uu] []) _
  refine il X0 qz at_79 ?_
  refine st1 _ ?_
  refine sta X1 qz at_83 #[vi p0, vi p1, vi p2, vj p3, .second, vi 2, vi ca, vi ck, vi v0, vi v1, vi v2, vi v3, vi v4, vi v5, vr b1, uu, uu, uu, uu, uu] ?_
  refine il X1 qz at_85 ?_
  refine ifN X1 qz at_87 (tlt (by decide : (0 : Int32) < (2 : Int32))).2.2.2 ?_
  refine al X1 qz at_90 ?_
  refine ic X1 qz at_92 ?_
  refine il X1 qz at_93 ?_
  refine wib2 X1 qz at_95 ?_
  refine st3 _ ?_
  refine il X3 qz at_97 ?_
  refine ic X3 qz at_99 ?_
  refine icN X3 qz at_100 (tlt (by decide : (1 : Int32) < (2 : Int32))).2.2.2 ?_
  refine al X3 qz at_103 ?_
  refine ic X3 qz at_105 ?_
  refine il X3 qz at_106 ?_
  show Sp p e below T3 (mkF m 108 #[vi p0, vi p1, vi p2, vj p3, .second, vi 2, vi ca, vi ck, vi v0, vi v1, vi v2, vi v3, vi v4, vi v5, vr b1, uu, uu, uu, uu, uu] [(.int v1), (.int 1), (.ref b1)]) _
  refine wib2 X3 qz at_108 ?_
  refine st5 _ ?_
  refine il X5 qz at_110 ?_
  refine ic X5 qz at_112 ?_
  refine icY X5 qz 113 123 at_113 (flt (by decide : ¬ ((2 : Int32) < (2 : Int32)))).2.2.2 ?_
  refine il X5 qz at_123 ?_
  refine ic X5 qz at_125 ?_
  refine icY X5 qz 126 136 at_126 (flt (by decide : ¬ ((3 : Int32) < (2 : Int32)))).2.2.2 ?_
  refine il X5 qz at_136 ?_
  refine ic X5 qz at_138 ?_
  refine icY X5 qz 139 149 at_139 (flt (by decide : ¬ ((4 : Int32) < (2 : Int32)))).2.2.2 ?_
  refine il X5 qz at_149 ?_
  refine ic X5 qz at_151 ?_
  refine icY X5 qz 152 162 at_152 (flt (by decide : ¬ ((5 : Int32) < (2 : Int32)))).2.2.2 ?_
  exact kt
set_option maxRecDepth 65536 in
set_option maxHeartbeats 4000000 in
theorem pay_3 (l : Launch) (Z : State) (a0 : Array Value) (hw : ∀ d ∈ tables_1, d.before a0 Z = true) (p0 p1 p2 : Int32) (p3 : Int64) (ca ck v0 v1 v2 v3 v4 v5 : Int32) (h0 : Heap) (n0 : Nat) (O0 : Old Z n0 h0) {p : Program} {e : Env} {s : State} {m : MethodId} {args : Array Value} {below : List Frame} {meth : Method} {c : Code} {s₁ : State} {locs : List Loc} (X0 : Stand p l e room_1 s m args below meth c s₁ locs 0 0) (hx : p.tables.exec = Jvm.exec) (hZ : Z.Warmed39 s.vm) (hby : c.code = code) (hml : c.maxLocals = 20) (hown : s.vm.findClass "com/example/cloakfield/cloakfield/format/TaggedValueToTextPinLaw" = some m.cls) (e0 : s₁.heap = h0) (N0 : Fr n0 locs) :
    ∃ T' h' locs' b kb, Stand p l e room_1 s m args below meth c T' locs' 1 6 ∧ T'.heap = h' ∧ Fr n0 locs' ∧ Keep h0 h' [] ∧ h0.size ≤ b ∧ Exa Z h' b "[B" ∧ Arv Z h' b kb .byte (3 : Int32) (plL (3 : Int32) v0 v1 v2 v3 v4 v5) (.int 0) ∧ ∀ target, Sp p e below T' (mkF m 162 #[vi p0, vi p1, vi p2, vj p3, .second, vi 3, vi ca, vi ck, vi v0, vi v1, vi v2, vi v3, vi v4, vi v5, vr b, uu, uu, uu, uu, uu] []) target → Sp p e below s₁ (mkF m 79 #[vi p0, vi p1, vi p2, vj p3, .second, vi 3, vi ca, vi ck, vi v0, vi v1, vi v2, vi v3, vi v4, vi v5, uu, uu, uu, uu, uu, uu] []) target := by
  have Kz := And.intro hx (And.intro hby (And.intro hml (And.intro hZ (And.intro hown hw))))
  obtain ⟨T1, h1, k1, X1, e1, E1, A1, EA1, st1⟩ := newPE X0 hx hZ (wq hw 6 rfl) e0 (g := (mkF m 81 #[vi p0, vi p1, vi p2, vj p3, .second, vi 3, vi ca, vi ck, vi v0, vi v1, vi v2, vi v3, vi v4, vi v5, uu, uu, uu, uu, uu, uu] [(.int 3)])) rfl (hb hby at_81) rfl (by decide) (cap := 6) (by decide) (by decide) (by decide) (by decide) (ad := "[B") (by decide)
  obtain ⟨b1, g1⟩ : ∃ z, z = h0.size := ⟨_, rfl⟩
  rw [← g1] at A1 EA1 st1
  have g_b1 : n0 ≤ b1 := Nat.le_trans (own_sz O0) (Nat.le_of_eq g1.symm)
  have sz_b1 : h0.size ≤ b1 := Nat.le_trans (Keep.refl h0 []).1 (Nat.le_of_eq g1.symm)
  have O1 := O0.ext E1
  have K1 : Keep h0 h1 [] := (Keep.refl h0 []).ext E1
  have V_b1 : Arv Z h1 b1 k1 .byte (3 : Int32) [(.int 0), (.int 0), (.int 0)] (.int 0) := (Arv.new A1 (by decide)).pad (pad_rep [] (.int 0) 3)
  obtain ⟨T3, h3, X3, e3, W3, V_b1_3, st3⟩ := wB X1 Kz e1 V_b1 (0 : Int32) 0 (mkF m 96 #[vi p0, vi p1, vi p2, vj p3, .second, vi 3, vi ca, vi ck, vi v0, vi v1, vi v2, vi v3, vi v4, vi v5, vr b1, uu, uu, uu, uu, uu] [(.int (v0.toInt8.toInt32)), (.int 0), (.ref b1)]) at_96
  have N3 := Fr.snoc X3 N0 g_b1
  have O3 := O1.wr W3 g_b1
  have K3 : Keep h0 h3 [] := K1.wr W3 (Or.inr sz_b1)
  obtain ⟨T5, h5, X5, e5, W5, V_b1_5, st5⟩ := wB X3 Kz e3 V_b1_3 (1 : Int32) 1 (mkF m 109 #[vi p0, vi p1, vi p2, vj p3, .second, vi 3, vi ca, vi ck, vi v0, vi v1, vi v2, vi v3, vi v4, vi v5, vr b1, uu, uu, uu, uu, uu] [(.int (v1.toInt8.toInt32)), (.int 1), (.ref b1)]) at_109
  have N5 := Fr.snoc X5 N3 g_b1
  have O5 := O3.wr W5 g_b1
  have K5 : Keep h0 h5 [] := K3.wr W5 (Or.inr sz_b1)
  obtain ⟨T7, h7, X7, e7, W7, V_b1_7, st7⟩ := wB X5 Kz e5 V_b1_5 (2 : Int32) 2 (mkF m 122 #[vi p0, vi p1, vi p2, vj p3, .second, vi 3, vi ca, vi ck, vi v0, vi v1, vi v2, vi v3, vi v4, vi v5, vr b1, uu, uu, uu, uu, uu] [(.int (v2.toInt8.toInt32)), (.int 2), (.ref b1)]) at_122
  have N7 := Fr.snoc X7 N5 g_b1
  have O7 := O5.wr W7 g_b1
  have K7 : Keep h0 h7 [] := K5.wr W7 (Or.inr sz_b1)
  have hP : plL (3 : Int32) v0 v1 v2 v3 v4 v5 = [(.int (nar .byte (v0.toInt8.toInt32))), (.int (nar .byte (v1.toInt8.toInt32))), (.int (nar .byte (v2.toInt8.toInt32)))] := by rw [plL, if_neg (by decide), if_neg (by decide), if_neg (by decide), if_pos rfl]
  have qz := And.intro hx hby
  refine ⟨T7, _, _, b1, k1, X7, e7, N7, K7, sz_b1, (((EA1.wr W3).wr W5).wr W7), by rw [hP]; exact V_b1_7, fun target kt => ?_⟩
  show Sp p e below s₁ (mkF m 79 #[vi p0, vi p1, vi p2, vj p3, .second, vi 3, vi ca, vi ck, vi v0, vi v1, vi v2, vi v3, vi v4, vi v5, uu, uu, uu, uu, uu, uu] []) _
  refine il X0 qz at_79 ?_
  refine st1 _ ?_
  refine sta X1 qz at_83 #[vi p0, vi p1, vi p2, vj p3, .second, vi 3, vi ca, vi ck, vi v0, vi v1, vi v2, vi v3, vi v4, vi v5, vr b1, uu, uu, uu, uu, uu] ?_
  refine il X1 qz at_85 ?_
  refine ifN X1 qz at_87 (tlt (by decide : (0 : Int32) < (3 : Int32))).2.2.2 ?_
  refine al X1 qz at_90 ?_
  refine ic X1 qz at_92 ?_
  refine il X1 qz at_93 ?_
  refine wib2 X1 qz at_95 ?_
  refine st3 _ ?_
  refine il X3 qz at_97 ?_
  refine ic X3 qz at_99 ?_
  refine icN X3 qz at_100 (tlt (by decide : (1 : Int32) < (3 : Int32))).2.2.2 ?_
  refine al X3 qz at_103 ?_
  refine ic X3 qz at_105 ?_
  refine il X3 qz at_106 ?_
  show Sp p e below T3 (mkF m 108 #[vi p0, vi p1, vi p2, vj p3, .second, vi 3, vi ca, vi ck, vi v0, vi v1, vi v2, vi v3, vi v4, vi v5, vr b1, uu, uu, uu, uu, uu] [(.int v1), (.int 1), (.ref b1)]) _
  refine wib2 X3 qz at_108 ?_
  refine st5 _ ?_
  refine il X5 qz at_110 ?_
  refine ic X5 qz at_112 ?_
  refine icN X5 qz at_113 (tlt (by decide : (2 : Int32) < (3 : Int32))).2.2.2 ?_
  refine al X5 qz at_116 ?_
  refine ic X5 qz at_118 ?_
  refine il X5 qz at_119 ?_
  refine wib2 X5 qz at_121 ?_
  refine st7 _ ?_
  refine il X7 qz at_123 ?_
  refine ic X7 qz at_125 ?_
  refine icY X7 qz 126 136 at_126 (flt (by decide : ¬ ((3 : Int32) < (3 : Int32)))).2.2.2 ?_
  refine il X7 qz at_136 ?_
  refine ic X7 qz at_138 ?_
  refine icY X7 qz 139 149 at_139 (flt (by decide : ¬ ((4 : Int32) < (3 : Int32)))).2.2.2 ?_
  show Sp p e below T7 (mkF m 149 #[vi p0, vi p1, vi p2, vj p3, .second, vi 3, vi ca, vi ck, vi v0, vi v1, vi v2, vi v3, vi v4, vi v5, vr b1, uu, uu, uu, uu, uu] []) _
  refine il X7 qz at_149 ?_
  refine ic X7 qz at_151 ?_
  refine icY X7 qz 152 162 at_152 (flt (by decide : ¬ ((5 : Int32) < (3 : Int32)))).2.2.2 ?_
  exact kt
set_option maxRecDepth 65536 in
set_option maxHeartbeats 4000000 in
theorem pay_4 (l : Launch) (Z : State) (a0 : Array Value) (hw : ∀ d ∈ tables_1, d.before a0 Z = true) (p0 p1 p2 : Int32) (p3 : Int64) (ca ck v0 v1 v2 v3 v4 v5 : Int32) (h0 : Heap) (n0 : Nat) (O0 : Old Z n0 h0) {p : Program} {e : Env} {s : State} {m : MethodId} {args : Array Value} {below : List Frame} {meth : Method} {c : Code} {s₁ : State} {locs : List Loc} (X0 : Stand p l e room_1 s m args below meth c s₁ locs 0 0) (hx : p.tables.exec = Jvm.exec) (hZ : Z.Warmed39 s.vm) (hby : c.code = code) (hml : c.maxLocals = 20) (hown : s.vm.findClass "com/example/cloakfield/cloakfield/format/TaggedValueToTextPinLaw" = some m.cls) (e0 : s₁.heap = h0) (N0 : Fr n0 locs) :
    ∃ T' h' locs' b kb, Stand p l e room_1 s m args below meth c T' locs' 1 6 ∧ T'.heap = h' ∧ Fr n0 locs' ∧ Keep h0 h' [] ∧ h0.size ≤ b ∧ Exa Z h' b "[B" ∧ Arv Z h' b kb .byte (4 : Int32) (plL (4 : Int32) v0 v1 v2 v3 v4 v5) (.int 0) ∧ ∀ target, Sp p e below T' (mkF m 162 #[vi p0, vi p1, vi p2, vj p3, .second, vi 4, vi ca, vi ck, vi v0, vi v1, vi v2, vi v3, vi v4, vi v5, vr b, uu, uu, uu, uu, uu] []) target → Sp p e below s₁ (mkF m 79 #[vi p0, vi p1, vi p2, vj p3, .second, vi 4, vi ca, vi ck, vi v0, vi v1, vi v2, vi v3, vi v4, vi v5, uu, uu, uu, uu, uu, uu] []) target := by
  have Kz := And.intro hx (And.intro hby (And.intro hml (And.intro hZ (And.intro hown hw))))
  obtain ⟨T1, h1, k1, X1, e1, E1, A1, EA1, st1⟩ := newPE X0 hx hZ (wq hw 6 rfl) e0 (g := (mkF m 81 #[vi p0, vi p1, vi p2, vj p3, .second, vi 4, vi ca, vi ck, vi v0, vi v1, vi v2, vi v3, vi v4, vi v5, uu, uu, uu, uu, uu, uu] [(.int 4)])) rfl (hb hby at_81) rfl (by decide) (cap := 6) (by decide) (by decide) (by decide) (by decide) (ad := "[B") (by decide)
  obtain ⟨b1, g1⟩ : ∃ z, z = h0.size := ⟨_, rfl⟩
  rw [← g1] at A1 EA1 st1
  have g_b1 : n0 ≤ b1 := Nat.le_trans (own_sz O0) (Nat.le_of_eq g1.symm)
  have sz_b1 : h0.size ≤ b1 := Nat.le_trans (Keep.refl h0 []).1 (Nat.le_of_eq g1.symm)
  have O1 := O0.ext E1
  have K1 : Keep h0 h1 [] := (Keep.refl h0 []).ext E1
  have V_b1 : Arv Z h1 b1 k1 .byte (4 : Int32) [(.int 0), (.int 0), (.int 0), (.int 0)] (.int 0) := (Arv.new A1 (by decide)).pad (pad_rep [] (.int 0) 4)
  obtain ⟨T3, h3, X3, e3, W3, V_b1_3, st3⟩ := wB X1 Kz e1 V_b1 (0 : Int32) 0 (mkF m 96 #[vi p0, vi p1, vi p2, vj p3, .second, vi 4, vi ca, vi ck, vi v0, vi v1, vi v2, vi v3, vi v4, vi v5, vr b1, uu, uu, uu, uu, uu] [(.int (v0.toInt8.toInt32)), (.int 0), (.ref b1)]) at_96
  have N3 := Fr.snoc X3 N0 g_b1
  have O3 := O1.wr W3 g_b1
  have K3 : Keep h0 h3 [] := K1.wr W3 (Or.inr sz_b1)
  obtain ⟨T5, h5, X5, e5, W5, V_b1_5, st5⟩ := wB X3 Kz e3 V_b1_3 (1 : Int32) 1 (mkF m 109 #[vi p0, vi p1, vi p2, vj p3, .second, vi 4, vi ca, vi ck, vi v0, vi v1, vi v2, vi v3, vi v4, vi v5, vr b1, uu, uu, uu, uu, uu] [(.int (v1.toInt8.toInt32)), (.int 1), (.ref b1)]) at_109
  have N5 := Fr.snoc X5 N3 g_b1
  have O5 := O3.wr W5 g_b1
  have K5 : Keep h0 h5 [] := K3.wr W5 (Or.inr sz_b1)
  obtain ⟨T7, h7, X7, e7, W7, V_b1_7, st7⟩ := wB X5 Kz e5 V_b1_5 (2 : Int32) 2 (mkF m 122 #[vi p0, vi p1, vi p2, vj p3, .second, vi 4, vi ca, vi ck, vi v0, vi v1, vi v2, vi v3, vi v4, vi v5, vr b1, uu, uu, uu, uu, uu] [(.int (v2.toInt8.toInt32)), (.int 2), (.ref b1)]) at_122
  have N7 := Fr.snoc X7 N5 g_b1
  have O7 := O5.wr W7 g_b1
  have K7 : Keep h0 h7 [] := K5.wr W7 (Or.inr sz_b1)
  obtain ⟨T9, h9, X9, e9, W9, V_b1_9, st9⟩ := wB X7 Kz e7 V_b1_7 (3 : Int32) 3 (mkF m 135 #[vi p0, vi p1, vi p2, vj p3, .second, vi 4, vi ca, vi ck, vi v0, vi v1, vi v2, vi v3, vi v4, vi v5, vr b1, uu, uu, uu, uu, uu] [(.int (v3.toInt8.toInt32)), (.int 3), (.ref b1)]) at_135
  have N9 := Fr.snoc X9 N7 g_b1
  have O9 := O7.wr W9 g_b1
  have K9 : Keep h0 h9 [] := K7.wr W9 (Or.inr sz_b1)
  have hP : plL (4 : Int32) v0 v1 v2 v3 v4 v5 = [(.int (nar .byte (v0.toInt8.toInt32))), (.int (nar .byte (v1.toInt8.toInt32))), (.int (nar .byte (v2.toInt8.toInt32))), (.int (nar .byte (v3.toInt8.toInt32)))] := by rw [plL, if_neg (by decide), if_neg (by decide), if_neg (by decide), if_neg (by decide), if_pos rfl]
  have qz := And.intro hx hby
  refine ⟨T9, _, _, b1, k1, X9, e9, N9, K9, sz_b1, ((((EA1.wr W3).wr W5).wr W7).wr W9), by rw [hP]; exact V_b1_9, fun target kt => ?_⟩
  show Sp p e below s₁ (mkF m 79 #[vi p0, vi p1, vi p2, vj p3, .second, vi 4, vi ca, vi ck, vi v0, vi v1, vi v2, vi v3, vi v4, vi v5, uu, uu, uu, uu, uu, uu] []) _
  refine il X0 qz at_79 ?_
  refine st1 _ ?_
  refine sta X1 qz at_83 #[vi p0, vi p1, vi p2, vj p3, .second, vi 4, vi ca, vi ck, vi v0, vi v1, vi v2, vi v3, vi v4, vi v5, vr b1, uu, uu, uu, uu, uu] ?_
  refine il X1 qz at_85 ?_
  refine ifN X1 qz at_87 (tlt (by decide : (0 : Int32) < (4 : Int32))).2.2.2 ?_
  refine al X1 qz at_90 ?_
  refine ic X1 qz at_92 ?_
  refine il X1 qz at_93 ?_
  refine wib2 X1 qz at_95 ?_
  refine st3 _ ?_
  refine il X3 qz at_97 ?_
  refine ic X3 qz at_99 ?_
  refine icN X3 qz at_100 (tlt (by decide : (1 : Int32) < (4 : Int32))).2.2.2 ?_
  refine al X3 qz at_103 ?_
  refine ic X3 qz at_105 ?_
  refine il X3 qz at_106 ?_
  show Sp p e below T3 (mkF m 108 #[vi p0, vi p1, vi p2, vj p3, .second, vi 4, vi ca, vi ck, vi v0, vi v1, vi v2, vi v3, vi v4, vi v5, vr b1, uu, uu, uu, uu, uu] [(.int v1), (.int 1), (.ref b1)]) _
  refine wib2 X3 qz at_108 ?_
  refine st5 _ ?_
  refine il X5 qz at_110 ?_
  refine ic X5 qz at_112 ?_
  refine icN X5 qz at_113 (tlt (by decide : (2 : Int32) < (4 : Int32))).2.2.2 ?_
  refine al X5 qz at_116 ?_
  refine ic X5 qz at_118 ?_
  refine il X5 qz at_119 ?_
  refine wib2 X5 qz at_121 ?_
  refine st7 _ ?_
  refine il X7 qz at_123 ?_
  refine ic X7 qz at_125 ?_
  refine icN X7 qz at_126 (tlt (by decide : (3 : Int32) < (4 : Int32))).2.2.2 ?_
  refine al X7 qz at_129 ?_
  refine ic X7 qz at_131 ?_
  refine il X7 qz at_132 ?_
  show Sp p e below T7 (mkF m 134 #[vi p0, vi p1, vi p2, vj p3, .second, vi 4, vi ca, vi ck, vi v0, vi v1, vi v2, vi v3, vi v4, vi v5, vr b1, uu, uu, uu, uu, uu] [(.int v3), (.int 3), (.ref b1)]) _
  refine wib2 X7 qz at_134 ?_
  refine st9 _ ?_
  refine il X9 qz at_136 ?_
  refine ic X9 qz at_138 ?_
  refine icY X9 qz 139 149 at_139 (flt (by decide : ¬ ((4 : Int32) < (4 : Int32)))).2.2.2 ?_
  refine il X9 qz at_149 ?_
  refine ic X9 qz at_151 ?_
  refine icY X9 qz 152 162 at_152 (flt (by decide : ¬ ((5 : Int32) < (4 : Int32)))).2.2.2 ?_
  exact kt
set_option maxRecDepth 65536 in
set_option maxHeartbeats 4000000 in
theorem pay_5 (l : Launch) (Z : State) (a0 : Array Value) (hw : ∀ d ∈ tables_1, d.before a0 Z = true) (p0 p1 p2 : Int32) (p3 : Int64) (ca ck v0 v1 v2 v3 v4 v5 : Int32) (h0 : Heap) (n0 : Nat) (O0 : Old Z n0 h0) {p : Program} {e : Env} {s : State} {m : MethodId} {args : Array Value} {below : List Frame} {meth : Method} {c : Code} {s₁ : State} {locs : List Loc} (X0 : Stand p l e room_1 s m args below meth c s₁ locs 0 0) (hx : p.tables.exec = Jvm.exec) (hZ : Z.Warmed39 s.vm) (hby : c.code = code) (hml : c.maxLocals = 20) (hown : s.vm.findClass "com/example/cloakfield/cloakfield/format/TaggedValueToTextPinLaw" = some m.cls) (e0 : s₁.heap = h0) (N0 : Fr n0 locs) :
    ∃ T' h' locs' b kb, Stand p l e room_1 s m args below meth c T' locs' 1 6 ∧ T'.heap = h' ∧ Fr n0 locs' ∧ Keep h0 h' [] ∧ h0.size ≤ b ∧ Exa Z h' b "[B" ∧ Arv Z h' b kb .byte (5 : Int32) (plL (5 : Int32) v0 v1 v2 v3 v4 v5) (.int 0) ∧ ∀ target, Sp p e below T' (mkF m 162 #[vi p0, vi p1, vi p2, vj p3, .second, vi 5, vi ca, vi ck, vi v0, vi v1, vi v2, vi v3, vi v4, vi v5, vr b, uu, uu, uu, uu, uu] []) target → Sp p e below s₁ (mkF m 79 #[vi p0, vi p1, vi p2, vj p3, .second, vi 5, vi ca, vi ck, vi v0, vi v1, vi v2, vi v3, vi v4, vi v5, uu, uu, uu, uu, uu, uu] []) target := by
  have Kz := And.intro hx (And.intro hby (And.intro hml (And.intro hZ (And.intro hown hw))))
  obtain ⟨T1, h1, k1, X1, e1, E1, A1, EA1, st1⟩ := newPE X0 hx hZ (wq hw 6 rfl) e0 (g := (mkF m 81 #[vi p0, vi p1, vi p2, vj p3, .second, vi 5, vi ca, vi ck, vi v0, vi v1, vi v2, vi v3, vi v4, vi v5, uu, uu, uu, uu, uu, uu] [(.int 5)])) rfl (hb hby at_81) rfl (by decide) (cap := 6) (by decide) (by decide) (by decide) (by decide) (ad := "[B") (by decide)
  obtain ⟨b1, g1⟩ : ∃ z, z = h0.size := ⟨_, rfl⟩
  rw [← g1] at A1 EA1 st1
  have g_b1 : n0 ≤ b1 := Nat.le_trans (own_sz O0) (Nat.le_of_eq g1.symm)
  have sz_b1 : h0.size ≤ b1 := Nat.le_trans (Keep.refl h0 []).1 (Nat.le_of_eq g1.symm)
  have O1 := O0.ext E1
  have K1 : Keep h0 h1 [] := (Keep.refl h0 []).ext E1
  have V_b1 : Arv Z h1 b1 k1 .byte (5 : Int32) [(.int 0), (.int 0), (.int 0), (.int 0), (.int 0)] (.int 0) := (Arv.new A1 (by decide)).pad (pad_rep [] (.int 0) 5)
  obtain ⟨T3, h3, X3, e3, W3, V_b1_3, st3⟩ := wB X1 Kz e1 V_b1 (0 : Int32) 0 (mkF m 96 #[vi p0, vi p1, vi p2, vj p3, .second, vi 5, vi ca, vi ck, vi v0, vi v1, vi v2, vi v3, vi v4, vi v5, vr b1, uu, uu, uu, uu, uu] [(.int (v0.toInt8.toInt32)), (.int 0), (.ref b1)]) at_96
  have N3 := Fr.snoc X3 N0 g_b1
  have O3 := O1.wr W3 g_b1
  have K3 : Keep h0 h3 [] := K1.wr W3 (Or.inr sz_b1)
  obtain ⟨T5, h5, X5, e5, W5, V_b1_5, st5⟩ := wB X3 Kz e3 V_b1_3 (1 : Int32) 1 (mkF m 109 #[vi p0, vi p1, vi p2, vj p3, .second, vi 5, vi ca, vi ck, vi v0, vi v1, vi v2, vi v3, vi v4, vi v5, vr b1, uu, uu, uu, uu, uu] [(.int (v1.toInt8.toInt32)), (.int 1), (.ref b1)]) at_109
  have N5 := Fr.snoc X5 N3 g_b1
  have O5 := O3.wr W5 g_b1
  have K5 : Keep h0 h5 [] := K3.wr W5 (Or.inr sz_b1)
  obtain ⟨T7, h7, X7, e7, W7, V_b1_7, st7⟩ := wB X5 Kz e5 V_b1_5 (2 : Int32) 2 (mkF m 122 #[vi p0, vi p1, vi p2, vj p3, .second, vi 5, vi ca, vi ck, vi v0, vi v1, vi v2, vi v3, vi v4, vi v5, vr b1, uu, uu, uu, uu, uu] [(.int (v2.toInt8.toInt32)), (.int 2), (.ref b1)]) at_122
  have N7 := Fr.snoc X7 N5 g_b1
  have O7 := O5.wr W7 g_b1
  have K7 : Keep h0 h7 [] := K5.wr W7 (Or.inr sz_b1)
  obtain ⟨T9, h9, X9, e9, W9, V_b1_9, st9⟩ := wB X7 Kz e7 V_b1_7 (3 : Int32) 3 (mkF m 135 #[vi p0, vi p1, vi p2, vj p3, .second, vi 5, vi ca, vi ck, vi v0, vi v1, vi v2, vi v3, vi v4, vi v5, vr b1, uu, uu, uu, uu, uu] [(.int (v3.toInt8.toInt32)), (.int 3), (.ref b1)]) at_135
  have N9 := Fr.snoc X9 N7 g_b1
  have O9 := O7.wr W9 g_b1
  have K9 : Keep h0 h9 [] := K7.wr W9 (Or.inr sz_b1)
  obtain ⟨T11, h11, X11, e11, W11, V_b1_11, st11⟩ := wB X9 Kz e9 V_b1_9 (4 : Int32) 4 (mkF m 148 #[vi p0, vi p1, vi p2, vj p3, .second, vi 5, vi ca, vi ck, vi v0, vi v1, vi v2, vi v3, vi v4, vi v5, vr b1, uu, uu, uu, uu, uu] [(.int (v4.toInt8.toInt32)), (.int 4), (.ref b1)]) at_148
  have N11 := Fr.snoc X11 N9 g_b1
  have O11 := O9.wr W11 g_b1
  have K11 : Keep h0 h11 [] := K9.wr W11 (Or.inr sz_b1)
  have hP : plL (5 : Int32) v0 v1 v2 v3 v4 v5 = [(.int (nar .byte (v0.toInt8.toInt32))), (.int (nar .byte (v1.toInt8.toInt32))), (.int (nar .byte (v2.toInt8.toInt32))), (.int (nar .byte (v3.toInt8.toInt32))), (.int (nar .byte (v4.toInt8.toInt32)))] := by rw [plL, if_neg (by decide), if_neg (by decide), if_neg (by decide), if_neg (by decide), if_neg (by decide), if_pos rfl]
  have qz := And.intro hx hby
  refine ⟨T11, _, _, b1, k1, X11, e11, N11, K11, sz_b1, (((((EA1.wr W3).wr W5).wr W7).wr W9).wr W11), by rw [hP]; exact V_b1_11, fun target kt => ?_⟩
  show Sp p e below s₁ (mkF m 79 #[vi p0, vi p1, vi p2, vj p3, .second, vi 5, vi ca, vi ck, vi v0, vi v1, vi v2, vi v3, vi v4, vi v5, uu, uu, uu, uu, uu, uu] []) _
  refine il X0 qz at_79 ?_
  refine st1 _ ?_
  refine sta X1 qz at_83 #[vi p0, vi p1, vi p2, vj p3, .second, vi 5, vi ca, vi ck, vi v0, vi v1, vi v2, vi v3, vi v4, vi v5, vr b1, uu, uu, uu, uu, uu] ?_
  refine il X1 qz at_85 ?_
  refine ifN X1 qz at_87 (tlt (by decide : (0 : Int32) < (5 : Int32))).2.2.2 ?_
  refine al X1 qz at_90 ?_
  refine ic X1 qz at_92 ?_
  refine il X1 qz at_93 ?_
  refine wib2 X1 qz at_95 ?_
  refine st3 _ ?_
  refine il X3 qz at_97 ?_
  refine ic X3 qz at_99 ?_
  refine icN X3 qz at_100 (tlt (by decide : (1 : Int32) < (5 : Int32))).2.2.2 ?_
  refine al X3 qz at_103 ?_
  refine ic X3 qz at_105 ?_
  refine il X3 qz at_106 ?_
  show Sp p e below T3 (mkF m 108 #[vi p0, vi p1, vi p2, vj p3, .second, vi 5, vi ca, vi ck, vi v0, vi v1, vi v2, vi v3, vi v4, vi v5, vr b1, uu, uu, uu, uu, uu] [(.int v1), (.int 1), (.ref b1)]) _
  refine wib2 X3 qz at_108 ?_
  refine st5 _ ?_
  refine il X5 qz at_110 ?_
  refine ic X5 qz at_112 ?_
  refine icN X5 qz at_113 (tlt (by decide : (2 : Int32) < (5 : Int32))).2.2.2 ?_
  refine al X5 qz at_116 ?_
  refine ic X5 qz at_118 ?_
  refine il X5 qz at_119 ?_
  refine wib2 X5 qz at_121 ?_
  refine st7 _ ?_
  refine il X7 qz at_123 ?_
  refine ic X7 qz at_125 ?_
  refine icN X7 qz at_126 (tlt (by decide : (3 : Int32) < (5 : Int32))).2.2.2 ?_
  refine al X7 qz at_129 ?_
  refine ic X7 qz at_131 ?_
  refine il X7 qz at_132 ?_
  show Sp p e below T7 (mkF m 134 #[vi p0, vi p1, vi p2, vj p3, .second, vi 5, vi ca, vi ck, vi v0, vi v1, vi v2, vi v3, vi v4, vi v5, vr b1, uu, uu, uu, uu, uu] [(.int v3), (.int 3), (.ref b1)]) _
  refine wib2 X7 qz at_134 ?_
  refine st9 _ ?_
  refine il X9 qz at_136 ?_
  refine ic X9 qz at_138 ?_
  refine icN X9 qz at_139 (tlt (by decide : (4 : Int32) < (5 : Int32))).2.2.2 ?_
  refine al X9 qz at_142 ?_
  refine ic X9 qz at_144 ?_
  refine il X9 qz at_145 ?_
  refine wib2 X9 qz at_147 ?_
  refine st11 _ ?_
  refine il X11 qz at_149 ?_
  refine ic X11 qz at_151 ?_
  refine icY X11 qz 152 162 at_152 (flt (by decide : ¬ ((5 : Int32) < (5 : Int32)))).2.2.2 ?_
  exact kt
set_option maxRecDepth 65536 in
set_option maxHeartbeats 4000000 in
theorem pay_6 (l : Launch) (Z : State) (a0 : Array Value) (hw : ∀ d ∈ tables_1, d.before a0 Z = true) (p0 p1 p2 : Int32) (p3 : Int64) (ca ck v0 v1 v2 v3 v4 v5 : Int32) (h0 : Heap) (n0 : Nat) (O0 : Old Z n0 h0) {p : Program} {e : Env} {s : State} {m : MethodId} {args : Array Value} {below : List Frame} {meth : Method} {c : Code} {s₁ : State} {locs : List Loc} (X0 : Stand p l e room_1 s m args below meth c s₁ locs 0 0) (hx : p.tables.exec = Jvm.exec) (hZ : Z.Warmed39 s.vm) (hby : c.code = code) (hml : c.maxLocals = 20) (hown : s.vm.findClass "com/example/cloakfield/cloakfield/format/TaggedValueToTextPinLaw" = some m.cls) (e0 : s₁.heap = h0) (N0 : Fr n0 locs) :
    ∃ T' h' locs' b kb, Stand p l e room_1 s m args below meth c T' locs' 1 6 ∧ T'.heap = h' ∧ Fr n0 locs' ∧ Keep h0 h' [] ∧ h0.size ≤ b ∧ Exa Z h' b "[B" ∧ Arv Z h' b kb .byte (6 : Int32) (plL (6 : Int32) v0 v1 v2 v3 v4 v5) (.int 0) ∧ ∀ target, Sp p e below T' (mkF m 162 #[vi p0, vi p1, vi p2, vj p3, .second, vi 6, vi ca, vi ck, vi v0, vi v1, vi v2, vi v3, vi v4, vi v5, vr b, uu, uu, uu, uu, uu] []) target → Sp p e below s₁ (mkF m 79 #[vi p0, vi p1, vi p2, vj p3, .second, vi 6, vi ca, vi ck, vi v0, vi v1, vi v2, vi v3, vi v4, vi v5, uu, uu, uu, uu, uu, uu] []) target := by
  have Kz := And.intro hx (And.intro hby (And.intro hml (And.intro hZ (And.intro hown hw))))
  obtain ⟨T1, h1, k1, X1, e1, E1, A1, EA1, st1⟩ := newPE X0 hx hZ (wq hw 6 rfl) e0 (g := (mkF m 81 #[vi p0, vi p1, vi p2, vj p3, .second, vi 6, vi ca, vi ck, vi v0, vi v1, vi v2, vi v3, vi v4, vi v5, uu, uu, uu, uu, uu, uu] [(.int 6)])) rfl (hb hby at_81) rfl (by decide) (cap := 6) (by decide) (by decide) (by decide) (by decide) (ad := "[B") (by decide)
  obtain ⟨b1, g1⟩ : ∃ z, z = h0.size := ⟨_, rfl⟩
  rw [← g1] at A1 EA1 st1
  have g_b1 : n0 ≤ b1 := Nat.le_trans (own_sz O0) (Nat.le_of_eq g1.symm)
  have sz_b1 : h0.size ≤ b1 := Nat.le_trans (Keep.refl h0 []).1 (Nat.le_of_eq g1.symm)
  have O1 := O0.ext E1
  have K1 : Keep h0 h1 [] := (Keep.refl h0 []).ext E1
  have V_b1 : Arv Z h1 b1 k1 .byte (6 : Int32) [(.int 0), (.int 0), (.int 0), (.int 0), (.int 0), (.int 0)] (.int 0) := (Arv.new A1 (by decide)).pad (pad_rep [] (.int 0) 6)
  obtain ⟨T3, h3, X3, e3, W3, V_b1_3, st3⟩ := wB X1 Kz e1 V_b1 (0 : Int32) 0 (mkF m 96 #[vi p0, vi p1, vi p2, vj p3, .second, vi 6, vi ca, vi ck, vi v0, vi v1, vi v2, vi v3, vi v4, vi v5, vr b1, uu, uu, uu, uu, uu] [(.int (v0.toInt8.toInt32)), (.int 0), (.ref b1)]) at_96
  have N3 := Fr.snoc X3 N0 g_b1
  have O3 := O1.wr W3 g_b1
  have K3 : Keep h0 h3 [] := K1.wr W3 (Or.inr sz_b1)
  obtain ⟨T5, h5, X5, e5, W5, V_b1_5, st5⟩ := wB X3 Kz e3 V_b1_3 (1 : Int32) 1 (mkF m 109 #[vi p0, vi p1, vi p2, vj p3, .second, vi 6, vi ca, vi ck, vi v0, vi v1, vi v2, vi v3, vi v4, vi v5, vr b1, uu, uu, uu, uu, uu] [(.int (v1.toInt8.toInt32)), (.int 1), (.ref b1)]) at_109
  have N5 := Fr.snoc X5 N3 g_b1
  have O5 := O3.wr W5 g_b1
  have K5 : Keep h0 h5 [] := K3.wr W5 (Or.inr sz_b1)
  obtain ⟨T7, h7, X7, e7, W7, V_b1_7, st7⟩ := wB X5 Kz e5 V_b1_5 (2 : Int32) 2 (mkF m 122 #[vi p0, vi p1, vi p2, vj p3, .second, vi 6, vi ca, vi ck, vi v0, vi v1, vi v2, vi v3, vi v4, vi v5, vr b1, uu, uu, uu, uu, uu] [(.int (v2.toInt8.toInt32)), (.int 2), (.ref b1)]) at_122
  have N7 := Fr.snoc X7 N5 g_b1
  have O7 := O5.wr W7 g_b1
  have K7 : Keep h0 h7 [] := K5.wr W7 (Or.inr sz_b1)
  obtain ⟨T9, h9, X9, e9, W9, V_b1_9, st9⟩ := wB X7 Kz e7 V_b1_7 (3 : Int32) 3 (mkF m 135 #[vi p0, vi p1, vi p2, vj p3, .second, vi 6, vi ca, vi ck, vi v0, vi v1, vi v2, vi v3, vi v4, vi v5, vr b1, uu, uu, uu, uu, uu] [(.int (v3.toInt8.toInt32)), (.int 3), (.ref b1)]) at_135
  have N9 := Fr.snoc X9 N7 g_b1
  have O9 := O7.wr W9 g_b1
  have K9 : Keep h0 h9 [] := K7.wr W9 (Or.inr sz_b1)
  obtain ⟨T11, h11, X11, e11, W11, V_b1_11, st11⟩ := wB X9 Kz e9 V_b1_9 (4 : Int32) 4 (mkF m 148 #[vi p0, vi p1, vi p2, vj p3, .second, vi 6, vi ca, vi ck, vi v0, vi v1, vi v2, vi v3, vi v4, vi v5, vr b1, uu, uu, uu, uu, uu] [(.int (v4.toInt8.toInt32)), (.int 4), (.ref b1)]) at_148
  have N11 := Fr.snoc X11 N9 g_b1
  have O11 := O9.wr W11 g_b1
  have K11 : Keep h0 h11 [] := K9.wr W11 (Or.inr sz_b1)
  obtain ⟨T13, h13, X13, e13, W13, V_b1_13, st13⟩ := wB X11 Kz e11 V_b1_11 (5 : Int32) 5 (mkF m 161 #[vi p0, vi p1, vi p2, vj p3, .second, vi 6, vi ca, vi ck, vi v0, vi v1, vi v2, vi v3, vi v4, vi v5, vr b1, uu, uu, uu, uu, uu] [(.int (v5.toInt8.toInt32)), (.int 5), (.ref b1)]) at_161
  have N13 := Fr.snoc X13 N11 g_b1
  have O13 := O11.wr W13 g_b1
  have K13 : Keep h0 h13 [] := K11.wr W13 (Or.inr sz_b1)
  have hP : plL (6 : Int32) v0 v1 v2 v3 v4 v5 = [(.int (nar .byte (v0.toInt8.toInt32))), (.int (nar .byte (v1.toInt8.toInt32))), (.int (nar .byte (v2.toInt8.toInt32))), (.int (nar .byte (v3.toInt8.toInt32))), (.int (nar .byte (v4.toInt8.toInt32))), (.int (nar .byte (v5.toInt8.toInt32)))] := by rw [plL, if_neg (by decide), if_neg (by decide), if_neg (by decide), if_neg (by decide), if_neg (by decide), if_neg (by decide)]
  have qz := And.intro hx hby
  refine ⟨T13, _, _, b1, k1, X13, e13, N13, K13, sz_b1, ((((((EA1.wr W3).wr W5).wr W7).wr W9).wr W11).wr W13), by rw [hP]; exact V_b1_13, fun target kt => ?_⟩
  show Sp p e below s₁ (mkF m 79 #[vi p0, vi p1, vi p2, vj p3, .second, vi 6, vi ca, vi ck, vi v0, vi v1, vi v2, vi v3, vi v4, vi v5, uu, uu, uu, uu, uu, uu] []) _
  refine il X0 qz at_79 ?_
  refine st1 _ ?_
  refine sta X1 qz at_83 #[vi p0, vi p1, vi p2, vj p3, .second, vi 6, vi ca, vi ck, vi v0, vi v1, vi v2, vi v3, vi v4, vi v5, vr b1, uu, uu, uu, uu, uu] ?_
  refine il X1 qz at_85 ?_
  refine ifN X1 qz at_87 (tlt (by decide : (0 : Int32) < (6 : Int32))).2.2.2 ?_
  refine al X1 qz at_90 ?_
  refine ic X1 qz at_92 ?_
  refine il X1 qz at_93 ?_
  refine wib2 X1 qz at_95 ?_
  refine st3 _ ?_
  refine il X3 qz at_97 ?_
  refine ic X3 qz at_99 ?_
  refine icN X3 qz at_100 (tlt (by decide : (1 : Int32) < (6 : Int32))).2.2.2 ?_
  refine al X3 qz at_103 ?_
  refine ic X3 qz at_105 ?_
  refine il X3 qz at_106 ?_
  show Sp p e below T3 (mkF m 108 #[vi p0, vi p1, vi p2, vj p3, .second, vi 6, vi ca, vi ck, vi v0, vi v1, vi v2, vi v3, vi v4, vi v5, vr b1, uu, uu, uu, uu, uu] [(.int v1), (.int 1), (.ref b1)]) _
  refine wib2 X3 qz at_108 ?_
  refine st5 _ ?_
  refine il X5 qz at_110 ?_
  refine ic X5 qz at_112 ?_
  refine icN X5 qz at_113 (tlt (by decide : (2 : Int32) < (6 : Int32))).2.2.2 ?_
  refine al X5 qz at_116 ?_
  refine ic X5 qz at_118 ?_
  refine il X5 qz at_119 ?_
  refine wib2 X5 qz at_121 ?_
  refine st7 _ ?_
  refine il X7 qz at_123 ?_
  refine ic X7 qz at_125 ?_
  refine icN X7 qz at_126 (tlt (by decide : (3 : Int32) < (6 : Int32))).2.2.2 ?_
  refine al X7 qz at_129 ?_
  refine ic X7 qz at_131 ?_
  refine il X7 qz at_132 ?_
  show Sp p e below T7 (mkF m 134 #[vi p0, vi p1, vi p2, vj p3, .second, vi 6, vi ca, vi ck, vi v0, vi v1, vi v2, vi v3, vi v4, vi v5, vr b1, uu, uu, uu, uu, uu] [(.int v3), (.int 3), (.ref b1)]) _
  refine wib2 X7 qz at_134 ?_
  refine st9 _ ?_
  refine il X9 qz at_136 ?_
  refine ic X9 qz at_138 ?_
  refine icN X9 qz at_139 (tlt (by decide : (4 : Int32) < (6 : Int32))).2.2.2 ?_
  refine al X9 qz at_142 ?_
  refine ic X9 qz at_144 ?_
  refine il X9 qz at_145 ?_
  refine wib2 X9 qz at_147 ?_
  refine st11 _ ?_
  refine il X11 qz at_149 ?_
  refine ic X11 qz at_151 ?_
  refine icN X11 qz at_152 (tlt (by decide : (5 : Int32) < (6 : Int32))).2.2.2 ?_
  refine al X11 qz at_155 ?_
  refine ic X11 qz at_157 ?_
  refine il X11 qz at_158 ?_
  show Sp p e below T11 (mkF m 160 #[vi p0, vi p1, vi p2, vj p3, .second, vi 6, vi ca, vi ck, vi v0, vi v1, vi v2, vi v3, vi v4, vi v5, vr b1, uu, uu, uu, uu, uu] [(.int v5), (.int 5), (.ref b1)]) _
  refine wib2 X11 qz at_160 ?_
  refine st13 _ ?_
  exact kt
set_option maxRecDepth 65536 in
set_option maxHeartbeats 4000000 in
theorem own_pay (l : Launch) (Z : State) (a0 : Array Value) (hw : ∀ d ∈ tables_1, d.before a0 Z = true) (p0 p1 p2 : Int32) (p3 : Int64) (ca ck v0 v1 v2 v3 v4 v5 : Int32) (nn : Int32) (hn : 0 ≤ nn.toInt ∧ nn.toInt < 7) (h0 : Heap) (n0 : Nat) (O0 : Old Z n0 h0) {p : Program} {e : Env} {s : State} {m : MethodId} {args : Array Value} {below : List Frame} {meth : Method} {c : Code} {s₁ : State} {locs : List Loc} (X0 : Stand p l e room_1 s m args below meth c s₁ locs 0 0) (hx : p.tables.exec = Jvm.exec) (hZ : Z.Warmed39 s.vm) (hby : c.code = code) (hml : c.maxLocals = 20) (hown : s.vm.findClass "com/example/cloakfield/cloakfield/format/TaggedValueToTextPinLaw" = some m.cls) (e0 : s₁.heap = h0) (N0 : Fr n0 locs) :
    ∃ T' h' locs' b kb, Stand p l e room_1 s m args below meth c T' locs' 1 6 ∧ T'.heap = h' ∧ Fr n0 locs' ∧ Keep h0 h' [] ∧ h0.size ≤ b ∧ Exa Z h' b "[B" ∧ Arv Z h' b kb .byte nn (plL nn v0 v1 v2 v3 v4 v5) (.int 0) ∧ ∀ target, Sp p e below T' (mkF m 162 #[vi p0, vi p1, vi p2, vj p3, .second, vi nn, vi ca, vi ck, vi v0, vi v1, vi v2, vi v3, vi v4, vi v5, vr b, uu, uu, uu, uu, uu] []) target → Sp p e below s₁ (mkF m 79 #[vi p0, vi p1, vi p2, vj p3, .second, vi nn, vi ca, vi ck, vi v0, vi v1, vi v2, vi v3, vi v4, vi v5, uu, uu, uu, uu, uu, uu] []) target := by
  rcases own_n7 hn with rfl | rfl | rfl | rfl | rfl | rfl | rfl
  · exact pay_0 l Z a0 hw p0 p1 p2 p3 ca ck v0 v1 v2 v3 v4 v5 h0 n0 O0 X0 hx hZ hby hml hown e0 N0
  · exact pay_1 l Z a0 hw p0 p1 p2 p3 ca ck v0 v1 v2 v3 v4 v5 h0 n0 O0 X0 hx hZ hby hml hown e0 N0
  · exact pay_2 l Z a0 hw p0 p1 p2 p3 ca ck v0 v1 v2 v3 v4 v5 h0 n0 O0 X0 hx hZ hby hml hown e0 N0
  · exact pay_3 l Z a0 hw p0 p1 p2 p3 ca ck v0 v1 v2 v3 v4 v5 h0 n0 O0 X0 hx hZ hby hml hown e0 N0
  · exact pay_4 l Z a0 hw p0 p1 p2 p3 ca ck v0 v1 v2 v3 v4 v5 h0 n0 O0 X0 hx hZ hby hml hown e0 N0
  · exact pay_5 l Z a0 hw p0 p1 p2 p3 ca ck v0 v1 v2 v3 v4 v5 h0 n0 O0 X0 hx hZ hby hml hown e0 N0
  · exact pay_6 l Z a0 hw p0 p1 p2 p3 ca ck v0 v1 v2 v3 v4 v5 h0 n0 O0 X0 hx hZ hby hml hown e0 N0
abbrev cb2 : ByteArray := jdk_42_method_139_code
theorem d2_0 : dk cb2 0 (.getstatic 38) 3 := by decide +kernel
theorem d2_3 : dk cb2 3 (.ifCond .eq 23) 3 := by decide +kernel
theorem d2_6 : dk cb2 6 (.iload_n 0) 1 := by decide +kernel
theorem d2_7 : dk cb2 7 (.invokestatic 1015) 3 := by decide +kernel
abbrev cb3 : ByteArray := jdk_43_method_3_code
theorem d3_0 : dk cb3 0 (.iload_n 0) 1 := by decide +kernel
theorem d3_1 : dk cb3 1 (.sipush 255) 3 := by decide +kernel
theorem d3_4 : dk cb3 4 (.if_icmp .gt 7) 3 := by decide +kernel
theorem d3_7 : dk cb3 7 (.iconst 1) 1 := by decide +kernel
theorem d3_8 : dk cb3 8 (.goto 4) 3 := by decide +kernel
theorem d3_12 : dk cb3 12 .ireturn 1 := by decide +kernel
abbrev y10 : MethodName := (⟨"java/lang/StringLatin1", "canEncode", "(C)Z"⟩ : MethodName)
theorem ef_3_0 (m : MethodId) (x0 : Int32) : entryFrame m #[(.int x0)] 1 = mkF m 0 #[.val (.int x0)] [] := by first | (simp [entryFrame, mkF, argsToLocals, Value.category]; done) | rfl
theorem rm28 (l : Launch) (Z : State) (a0 : Array Value) (hw : HW Z a0) (ws : List Jvm.Cond) (w_enc w_tb : Addr) (cs_v : Int32) (cl_tb : Cell) (wv_fm : Value) (hp : Perm Z w_enc w_tb cs_v cl_tb wv_fm) (p1 : Int32) (h0 : Heap) (n0 : Nat) (O0 : Old Z n0 h0) (hc1 : ¬ ((255 : Int32) < p1)) :
    MF l y10 (Jvm.Cond.code y10 jdk_43_method_3_code 1 (some .boolean) :: ws) ({ frames := 0, cells := 0, slots := 0, locals := 0 } : Room) Z #[(.int p1)] h0 (fun v h L => v = some (.int 1) ∧ Fr n0 L ∧ h = h0) := by
  refine mfB (plainFor_of_name pn_53) hw fun p e s m below meth c s₁ Bd Kz X0 e0 => ?_
  obtain ⟨hx, hby, hml, hZ, hown, -⟩ := id Kz
  have qz := And.intro hx hby
  have N0 := Fr.nil n0
  refine mfE Bd X0 (some (.int 1)) e0 (fun h => by rw [Bd.returns] at h; cases h) (ef_3_0 m p1) ⟨rfl, N0, rfl⟩ fun fs hr => ?_
  refine iln X0 qz d3_0 ?_
  refine sp X0 qz d3_1 ?_
  refine icN X0 qz d3_4 (flt hc1).2.2.1 ?_
  refine ic X0 qz d3_7 ?_
  refine gt X0 qz 8 12 d3_8 ?_
  exact retN X0 hx (t := .boolean) Bd.returns (by simp) (hb hby d3_12) hr
theorem pd_4 : parseMethodDescriptor "(C)Z" = some ⟨[.char], some .boolean⟩ := by decide +kernel
theorem d2_10 : dk cb2 10 (.ifCond .eq 16) 3 := by decide +kernel
theorem d2_13 : dk cb2 13 (.new 10) 3 := by decide +kernel
theorem d2_16 : dk cb2 16 .dup 1 := by decide +kernel
theorem d2_17 : dk cb2 17 (.iload_n 0) 1 := by decide +kernel
theorem d2_18 : dk cb2 18 (.invokestatic 1018) 3 := by decide +kernel
abbrev cb4 : ByteArray := jdk_43_method_46_code
theorem d4_0 : dk cb4 0 (.iconst 1) 1 := by decide +kernel
theorem d4_1 : dk cb4 1 (.newarray .byte) 2 := by decide +kernel
theorem d4_3 : dk cb4 3 .dup 1 := by decide +kernel
theorem d4_4 : dk cb4 4 (.iconst 0) 1 := by decide +kernel
theorem d4_5 : dk cb4 5 (.iload_n 0) 1 := by decide +kernel
theorem d4_6 : dk cb4 6 .i2b 1 := by decide +kernel
theorem d4_7 : dk cb4 7 .bastore 1 := by decide +kernel
theorem d4_8 : dk cb4 8 .areturn 1 := by decide +kernel
abbrev fx48 (x0 : Int32) : Int32 := (nar .byte (x0.toInt8.toInt32))
abbrev y11 : MethodName := (⟨"java/lang/StringLatin1", "toBytes", "(C)[B"⟩ : MethodName)
theorem ef_4_0 (m : MethodId) (x0 : Int32) : entryFrame m #[(.int x0)] 1 = mkF m 0 #[.val (.int x0)] [] := by first | (simp [entryFrame, mkF, argsToLocals, Value.category]; done) | rfl
theorem rm29 (l : Launch) (Z : State) (a0 : Array Value) (hw : HW Z a0) (ws : List Jvm.Cond) (w_enc w_tb : Addr) (cs_v : Int32) (cl_tb : Cell) (wv_fm : Value) (hp : Perm Z w_enc w_tb cs_v cl_tb wv_fm) (p1 : Int32) (h0 : Heap) (n0 : Nat) (O0 : Old Z n0 h0) :
    MF l y11 (Jvm.Cond.code y11 jdk_43_method_46_code 1 (some (.array .byte)) :: ws) ({ frames := 0, cells := 1, slots := 1, locals := 0 } : Room) Z #[(.int p1)] h0 (fun v h L => ∃ (b1 : Addr), ∃ (k1 : ClassId), v = some (.ref b1) ∧ Fr n0 L ∧ Keep h0 h [] ∧ h0.size ≤ b1 ∧ Exa Z h b1 "[B" ∧ Arv Z h b1 k1 .byte (1 : Int32) [(.int (fx48 p1))] (.int 0)) := by
  refine mfB (plainFor_of_name pn_53) hw fun p e s m below meth c s₁ Bd Kz X0 e0 => ?_
  obtain ⟨hx, hby, hml, hZ, hown, -⟩ := id Kz
  have qz := And.intro hx hby
  have N0 := Fr.nil n0
  obtain ⟨T1, h1, k1, X1, e1, E1, A1, EA1, st1⟩ := newPE X0 hx hZ (wq hw 6 rfl) e0 (g := (mkF m 1 #[vi p1] [(.int 1)])) rfl (hb hby d4_1) rfl (by decide) (cap := 1) (by decide) (by decide) (by decide) (by decide) (ad := "[B") (by decide)
  obtain ⟨b1, g1⟩ : ∃ z, z = h0.size := ⟨_, rfl⟩
  rw [← g1] at A1 EA1 st1
  have g_b1 : n0 ≤ b1 := Nat.le_trans (own_sz O0) (Nat.le_of_eq g1.symm)
  have sz_b1 : h0.size ≤ b1 := Nat.le_trans (Keep.refl h0 []).1 (Nat.le_of_eq g1.symm)
  have K1 : Keep h0 h1 [] := (Keep.refl h0 []).ext E1
  have V_b1 : Arv Z h1 b1 k1 .byte (1 : Int32) [(.int 0)] (.int 0) := (Arv.new A1 (by decide)).pad (pad_rep [] (.int 0) 1)
  obtain ⟨T3, h3, X3, e3, W3, V_b1_3, st3⟩ := wB X1 Kz e1 V_b1 (0 : Int32) 0 (mkF m 7 #[vi p1] [(.int (p1.toInt8.toInt32)), (.int 0), (.ref b1), (.ref b1)]) d4_7
  have N3 := Fr.snoc X3 N0 g_b1
  have K3 : Keep h0 h3 [] := K1.wr W3 (Or.inr sz_b1)
  refine mfE Bd X3 (some (.ref b1)) e3 (fun h => by rw [Bd.returns] at h; cases h) (ef_4_0 m p1) ⟨b1, k1, rfl, N3, K3, sz_b1, (EA1.wr W3), V_b1_3⟩ fun fs hr => ?_
  refine ic X0 qz d4_0 ?_
  refine st1 _ ?_
  refine XS.dup X1.here hx rfl (hb hby d4_3) rfl rfl ?_
  refine ic X1 qz d4_4 ?_
  refine iln X1 qz d4_5 ?_
  refine wib2 X1 qz d4_6 ?_
  refine st3 _ ?_
  jvm_step X3.here [X3.here.top, hx, (hb hby d4_8), X3.method', Bd.returns, Value.isRef, FieldType.isReference]
  first | (intro acts; rw [hr _ acts rfl rfl rfl]) | rw [hr _ _ rfl rfl rfl]
  exact Steps.refl _
theorem pd_5 : parseMethodDescriptor "(C)[B" = some ⟨[.char], some (.array .byte)⟩ := by decide +kernel
theorem d2_21 : dk cb2 21 (.iconst 0) 1 := by decide +kernel
theorem d2_22 : dk cb2 22 (.invokespecial 209) 3 := by decide +kernel
abbrev cb5 : ByteArray := jdk_42_method_151_code
theorem d5_0 : dk cb5 0 (.aload_n 0) 1 := by decide +kernel
theorem d5_1 : dk cb5 1 (.invokespecial 1) 3 := by decide +kernel
theorem d5_4 : dk cb5 4 (.aload_n 0) 1 := by decide +kernel
theorem d5_5 : dk cb5 5 (.aload_n 1) 1 := by decide +kernel
theorem d5_6 : dk cb5 6 (.putfield 9) 3 := by decide +kernel
theorem d5_9 : dk cb5 9 (.aload_n 0) 1 := by decide +kernel
theorem d5_10 : dk cb5 10 (.iload_n 2) 1 := by decide +kernel
theorem d5_11 : dk cb5 11 (.putfield 15) 3 := by decide +kernel
theorem sn0 {Z : State} {a0 : Array Value} (hw : ∀ d ∈ tables_1, d.before a0 Z = true) : Jvm.RoadKit.slotOf Z "java/lang/String" "coder" "B" ≠ Jvm.RoadKit.slotOf Z "java/lang/String" "value" "[B" := slot_ne (Or.inr (wq hw 34 rfl)) (Or.inr (wq hw 32 rfl)) (by decide) (t := .byte) (t' := (.array .byte)) (by decide) (by decide)
theorem d5_14 : dk cb5 14 .return_ 1 := by decide +kernel
theorem sn1 {Z : State} {a0 : Array Value} (hw : ∀ d ∈ tables_1, d.before a0 Z = true) : Jvm.RoadKit.slotOf Z "java/lang/String" "value" "[B" ≠ Jvm.RoadKit.slotOf Z "java/lang/String" "coder" "B" := slot_ne (Or.inr (wq hw 32 rfl)) (Or.inr (wq hw 34 rfl)) (by decide) (t := (.array .byte)) (t' := .byte) (by decide) (by decide)
abbrev y12 : MethodName := (⟨"java/lang/String", "<init>", "([BB)V"⟩ : MethodName)
theorem ef_5_0 (m : MethodId) (x0 : Addr) (x1 : Addr) (x2 : Int32) : entryFrame m #[(.ref x0), (.ref x1), (.int x2)] 3 = mkF m 0 #[.val (.ref x0), .val (.ref x1), .val (.int x2)] [] := by first | (simp [entryFrame, mkF, argsToLocals, Value.category]; done) | rfl
theorem pn_5 : plainName "java/lang/String" = true := by first | (simp [plainName, overriddenIn]; done) | decide +kernel
theorem rm30 (l : Launch) (Z : State) (a0 : Array Value) (hw : HW Z a0) (ws : List Jvm.Cond) (w_enc w_tb : Addr) (cs_v : Int32) (cl_tb : Cell) (wv_fm : Value) (hp : Perm Z w_enc w_tb cs_v cl_tb wv_fm) (a1 : Addr) (a2 : Addr) (h0 : Heap) (n0 : Nat) (O0 : Old Z n0 h0) (E_a1 : Exa Z h0 a1 "java/lang/String") (F_coder_a1 : Fld Z h0 a1 "java/lang/String" "coder" "B" (.int 0)) (F_value_a1 : Fld Z h0 a1 "java/lang/String" "value" "[B" .null) (g_a1 : n0 ≤ a1) :
    MF l y12 (Jvm.Cond.code y12 jdk_42_method_151_code 3 none :: ws) ({ frames := 1, cells := 0, slots := 0, locals := 12 } : Room) Z #[(.ref a1), (.ref a2), (.int 0)] h0 (fun v h L => v = none ∧ Fr n0 L ∧ Keep h0 h [a1] ∧ Exa Z h a1 "java/lang/String" ∧ Fld Z h a1 "java/lang/String" "coder" "B" (.int 0) ∧ Fld Z h a1 "java/lang/String" "value" "[B" (.ref a2)) := by
  refine mfB (plainFor_of_name pn_5) hw fun p e s m below meth c s₁ Bd Kz X0 e0 => ?_
  obtain ⟨hx, hby, hml, hZ, hown, -⟩ := id Kz
  have qz := And.intro hx hby
  have N0 := Fr.nil n0
  have hnm := (name_of_methodNamed Bd.named Bd.method).1
  obtain ⟨T1, X1, e1, st1⟩ := initO X0 hx hZ hown (wq hw 28 rfl) (wq hw 29 rfl) (wq hw 30 rfl) e0 (g := (mkF m 1 #[vr a1, vr a2, vi 0] [(.ref a1)])) rfl (by rw [hml]; rfl) rfl (hb hby d5_1) (by decide) (W := 0) (by show 2 * 0 + _ ≤ _; exact Nat.le_of_eq rfl) (by decide)
  obtain ⟨T2, h2, X2, e2, W2, st2⟩ := putF X1 hx hZ hown (host := "") (Or.inl (wq hw 31 rfl)) Via.refl e1 F_value_a1 E_a1 (Or.inr ⟨(wq hw 32 rfl), rfl, hnm⟩) (wq hw 20 rfl) (ty := (.array .byte)) (by decide) rfl rfl (g := (mkF m 6 #[vr a1, vr a2, vi 0] [(.ref a2), (.ref a1)])) rfl rfl (hb hby d5_6)
  have N2 := Fr.snoc X2 N0 g_a1
  have K2 : Keep h0 h2 [a1] := (Keep.refl h0 [a1]).wr W2 (Or.inl (ma 0 rfl))
  have Fw2 := F_value_a1.same W2
  obtain ⟨T3, h3, X3, e3, W3, st3⟩ := putFN X2 hx hZ hown (wq hw 33 rfl) Via.refl e2 (F_coder_a1.other W2 (Or.inr (sn0 hw))) (E_a1.wr W2) (Or.inr ⟨(wq hw 34 rfl), rfl, hnm⟩) (wq hw 20 rfl) (ty := .byte) (v' := (.int 0)) (by decide) rfl rfl (g := (mkF m 11 #[vr a1, vr a2, vi 0] [(.int 0), (.ref a1)])) rfl rfl (hb hby d5_11)
  have N3 := Fr.snoc X3 N2 g_a1
  have K3 : Keep h0 h3 [a1] := K2.wr W3 (Or.inl (ma 0 rfl))
  have Fw3 := (F_coder_a1.other W2 (Or.inr (sn0 hw))).same W3
  refine mfE Bd X3 (none) e3 (fun _ => rfl) (ef_5_0 m a1 a2 (0 : Int32)) ⟨rfl, N3, K3, ((E_a1.wr W2).wr W3), Fw3, (Fw2.other W3 (Or.inr (sn1 hw)))⟩ fun fs hr => ?_
  refine aln X0 qz d5_0 ?_
  refine st1 _ ?_
  refine aln X1 qz d5_4 ?_
  refine aln X1 qz d5_5 ?_
  refine st2 _ ?_
  refine aln X2 qz d5_9 ?_
  refine iln X2 qz d5_10 ?_
  refine st3 _ ?_
  exact X3.returnOut hx Bd.returns (hb hby d5_14) hr
theorem pd_6 : parseMethodDescriptor "([BB)V" = some ⟨[(.array .byte), .byte], none⟩ := by decide +kernel
theorem d2_25 : dk cb2 25 .areturn 1 := by decide +kernel
abbrev y13 : MethodName := (⟨"java/lang/String", "valueOf", "(C)Ljava/lang/String;"⟩ : MethodName)
theorem ef_2_0 (m : MethodId) (x0 : Int32) : entryFrame m #[(.int x0)] 1 = mkF m 0 #[.val (.int x0)] [] := by first | (simp [entryFrame, mkF, argsToLocals, Value.category]; done) | rfl
theorem rm31 (l : Launch) (Z : State) (a0 : Array Value) (hw : HW Z a0) (ws : List Jvm.Cond) (w_enc w_tb : Addr) (cs_v : Int32) (cl_tb : Cell) (wv_fm : Value) (hp : Perm Z w_enc w_tb cs_v cl_tb wv_fm) (p1 : Int32) (h0 : Heap) (n0 : Nat) (O0 : Old Z n0 h0) (hc1 : ¬ ((255 : Int32) < p1)) :
    MF l y13 (Jvm.Cond.code y13 jdk_42_method_139_code 1 (some (.object "java/lang/String")) :: ws) ({ frames := 2, cells := 2, slots := 5, locals := 27 } : Room) Z #[(.int p1)] h0 (fun v h L => ∃ (b3 b4_0 : Addr), ∃ (kc4_0 : ClassId), v = some (.ref b3) ∧ Fr n0 L ∧ Keep h0 h [] ∧ h0.size ≤ b3 ∧ h0.size ≤ b4_0 ∧ b3 ≠ b4_0 ∧ Exa Z h b3 "java/lang/String" ∧ Fld Z h b3 "java/lang/String" "coder" "B" (.int 0) ∧ Fld Z h b3 "java/lang/String" "value" "[B" (.ref b4_0) ∧ Exa Z h b4_0 "[B" ∧ Arv Z h b4_0 kc4_0 .byte (1 : Int32) [(.int (fx48 p1))] (.int 0)) := by
  refine mfB (plainFor_of_name pn_5) hw fun p e s m below meth c s₁ Bd Kz X0 e0 => ?_
  obtain ⟨hx, hby, hml, hZ, hown, -⟩ := id Kz
  have qz := And.intro hx hby
  have N0 := Fr.nil n0
  obtain ⟨S_COMPACT_STRINGS, h_cs, _⟩ := id hp
  obtain ⟨T1, X1, e1, st1⟩ := getS2 X0 hx hZ hown (host := "") (Or.inl (wq hw 14 rfl)) Via.refl e0 (S_COMPACT_STRINGS.ext O0.2) (g := (mkF m 0 #[vi p1] [])) rfl (hb hby d2_0)
  obtain ⟨_, T2, Lc2, X2, hQ2, st2⟩ := cS X1 Kz y10 0 15 16 17 18 (rm28 l Z a0 hw [] w_enc w_tb cs_v cl_tb wv_fm hp p1 h0 n0 O0 hc1) e1 (mkF m 7 #[vi p1] [(.int p1)]) [(.int p1)] [] pd_4 d2_7
  obtain ⟨rfl, Nq2, eq2⟩ := hQ2
  have N2 := Fr.app N0 Nq2
  obtain ⟨T3, h3, X3, e3, E3, A3, D3, -, st3⟩ := newO X2 hx hZ hown (wq hw 19 rfl) (wq hw 20 rfl) (wq hw 12 rfl) eq2 (g := (mkF m 13 #[vi p1] [])) rfl (hb hby d2_13) (by decide) (by decide)
  obtain ⟨b3, g3⟩ : ∃ z, z = h0.size := ⟨_, rfl⟩
  rw [← g3] at A3 D3 st3
  have g_b3 : n0 ≤ b3 := Nat.le_trans (own_sz O0) (Nat.le_of_eq g3.symm)
  have sz_b3 : h0.size ≤ b3 := Nat.le_trans (Keep.refl h0 []).1 (Nat.le_of_eq g3.symm)
  have O3 := O0.ext E3
  have K3 : Keep h0 h3 [] := (Keep.refl h0 []).ext E3
  have F_value_b3 : Fld Z h3 b3 "java/lang/String" "value" "[B" .null := D3 (Or.inr (wq hw 32 rfl)) (ty := (.array .byte)) (by decide)
  have F_coder_b3 : Fld Z h3 b3 "java/lang/String" "coder" "B" (.int 0) := D3 (Or.inr (wq hw 34 rfl)) (ty := .byte) (by decide)
  obtain ⟨_, T4, Lc4, X4, hQ4, st4⟩ := cS X3 Kz y11 2 21 22 17 23 (rm29 l Z a0 hw [] w_enc w_tb cs_v cl_tb wv_fm hp p1 h3 n0 O3) e3 (mkF m 18 #[vi p1] [(.int p1), (.ref b3), (.ref b3)]) [(.int p1)] [(.ref b3), (.ref b3)] pd_5 d2_18
  obtain ⟨b4_0, kc4_0, rfl, Nq4, Kq4, sq_b4_0, fq4_0, fq4_1⟩ := hQ4
  have N4 := Fr.app N2 Nq4
  have sz_b4_0 : h0.size ≤ b4_0 := Nat.le_trans K3.1 sq_b4_0
  have O4 := O3.keep Kq4 all0
  have K4 : Keep h0 T4.heap [] := K3.trans Kq4 all0
  obtain ⟨_, T5, Lc5, X5, hQ5, st5⟩ := sB X4 Kz y12 1 24 25 27 12 (rm30 l Z a0 hw [] w_enc w_tb cs_v cl_tb wv_fm hp b3 b4_0 T4.heap n0 O4 (A3.keep Kq4) (F_coder_b3.keep Kq4 nin0) (F_value_b3.keep Kq4 nin0) g_b3) rfl b3 (mkF m 22 #[vi p1] [(.int 0), (.ref b4_0), (.ref b3), (.ref b3)]) [(.ref b4_0), (.int 0)] [(.ref b3)] pd_6 d2_22
  obtain ⟨rfl, Nq5, Kq5, fq5_0, fq5_1, fq5_2⟩ := hQ5
  have N5 := Fr.app N4 Nq5
  have K5 : Keep h0 T5.heap [] := K4.trans Kq5 (allS (Or.inr sz_b3) all0)
  have nz0 : b3 ≠ b4_0 := (Nat.ne_of_lt (Nat.lt_of_lt_of_le A3.lt sq_b4_0))
  refine mfE Bd X5 (some (.ref b3)) rfl (fun h => by rw [Bd.returns] at h; cases h) (ef_2_0 m p1) ⟨b3, b4_0, kc4_0, rfl, N5, K5, sz_b3, sz_b4_0, nz0, fq5_0, fq5_1, fq5_2, (fq4_0.keep Kq5), (fq4_1.keep Kq5 (ninS (Ne.symm nz0) nin0))⟩ fun fs hr => ?_
  refine st1 _ ?_
  refine ifN X1 qz d2_3 (feq h_cs).1 ?_
  refine iln X1 qz d2_6 ?_
  refine st2 _ ?_
  refine ifN X2 qz d2_10 (feq (by decide : ¬ ((1 : Int32) = (0 : Int32)))).1 ?_
  refine st3 _ ?_
  refine XS.dup X3.here hx rfl (hb hby d2_16) rfl rfl ?_
  refine iln X3 qz d2_17 ?_
  refine st4 _ ?_
  refine ic X4 qz d2_21 ?_
  refine st5.trans ?_
  jvm_step X5.here [X5.here.top, hx, (hb hby d2_25), X5.method', Bd.returns, Value.isRef, FieldType.isReference]
  first | (intro acts; rw [hr _ acts rfl rfl rfl]) | rw [hr _ _ rfl rfl rfl]
  exact Steps.refl _
theorem pd_7 : parseMethodDescriptor "(C)Ljava/lang/String;" = some ⟨[.char], some (.object "java/lang/String")⟩ := by decide +kernel
abbrev cb7 : ByteArray := prog_37_method_1_code
theorem d7_0 : dk cb7 0 (.aload_n 0) 1 := by decide +kernel
theorem d7_1 : dk cb7 1 (.invokespecial 1) 3 := by decide +kernel
abbrev cb8 : ByteArray := jdk_30_method_1_code
theorem d8_0 : dk cb8 0 (.aload_n 0) 1 := by decide +kernel
theorem d8_1 : dk cb8 1 (.invokespecial 1) 3 := by decide +kernel
theorem d8_4 : dk cb8 4 .return_ 1 := by decide +kernel
abbrev y14 : MethodName := (⟨"java/lang/Record", "<init>", "()V"⟩ : MethodName)
theorem ef_8_0 (m : MethodId) (x0 : Addr) : entryFrame m #[(.ref x0)] 1 = mkF m 0 #[.val (.ref x0)] [] := by first | (simp [entryFrame, mkF, argsToLocals, Value.category]; done) | rfl
theorem pn_8 : plainName "java/lang/Record" = true := by first | (simp [plainName, overriddenIn]; done) | decide +kernel
theorem rm32 (l : Launch) (Z : State) (a0 : Array Value) (hw : HW Z a0) (ws : List Jvm.Cond) (w_enc w_tb : Addr) (cs_v : Int32) (cl_tb : Cell) (wv_fm : Value) (hp : Perm Z w_enc w_tb cs_v cl_tb wv_fm) (a1 : Addr) (h0 : Heap) (n0 : Nat) (O0 : Old Z n0 h0) :
    MF l y14 (Jvm.Cond.code y14 jdk_30_method_1_code 1 none :: ws) ({ frames := 1, cells := 0, slots := 0, locals := 12 } : Room) Z #[(.ref a1)] h0 (fun v h L => v = none ∧ Fr n0 L ∧ h = h0) := by
  refine mfB (plainFor_of_name pn_8) hw fun p e s m below meth c s₁ Bd Kz X0 e0 => ?_
  obtain ⟨hx, hby, hml, hZ, hown, -⟩ := id Kz
  have qz := And.intro hx hby
  have N0 := Fr.nil n0
  obtain ⟨T1, X1, e1, st1⟩ := initO X0 hx hZ hown (wq hw 43 rfl) (wq hw 29 rfl) (wq hw 30 rfl) e0 (g := (mkF m 1 #[vr a1] [(.ref a1)])) rfl (by rw [hml]; rfl) rfl (hb hby d8_1) (by decide) (W := 0) (by show 2 * 0 + _ ≤ _; exact Nat.le_of_eq rfl) (by decide)
  refine mfE Bd X1 (none) e1 (fun _ => rfl) (ef_8_0 m a1) ⟨rfl, N0, rfl⟩ fun fs hr => ?_
  refine aln X0 qz d8_0 ?_
  refine st1 _ ?_
  exact X1.returnOut hx Bd.returns (hb hby d8_4) hr
theorem pd_8 : parseMethodDescriptor "()V" = some ⟨[], none⟩ := by decide +kernel
theorem d7_4 : dk cb7 4 (.aload_n 0) 1 := by decide +kernel
theorem d7_5 : dk cb7 5 (.aload_n 1) 1 := by decide +kernel
theorem d7_6 : dk cb7 6 (.putfield 7) 3 := by decide +kernel
theorem d7_9 : dk cb7 9 (.aload_n 0) 1 := by decide +kernel
theorem d7_10 : dk cb7 10 (.aload_n 2) 1 := by decide +kernel
theorem d7_11 : dk cb7 11 (.putfield 13) 3 := by decide +kernel
theorem sn2 {Z : State} {a0 : Array Value} (hw : ∀ d ∈ tables_1, d.before a0 Z = true) : Jvm.RoadKit.slotOf Z "com/example/cloakfield/cloakfield/format/TaggedValue" "keyId" "Ljava/lang/String;" ≠ Jvm.RoadKit.slotOf Z "com/example/cloakfield/cloakfield/format/TaggedValue" "algorithm" "Ljava/lang/String;" := slot_ne (Or.inr (wq hw 47 rfl)) (Or.inr (wq hw 45 rfl)) (by decide) (t := (.object "java/lang/String")) (t' := (.object "java/lang/String")) (by decide) (by decide)
theorem d7_14 : dk cb7 14 (.aload_n 0) 1 := by decide +kernel
theorem d7_15 : dk cb7 15 (.aload_n 3) 1 := by decide +kernel
theorem d7_16 : dk cb7 16 (.putfield 16) 3 := by decide +kernel
theorem sn3 {Z : State} {a0 : Array Value} (hw : ∀ d ∈ tables_1, d.before a0 Z = true) : Jvm.RoadKit.slotOf Z "com/example/cloakfield/cloakfield/format/TaggedValue" "payload" "[B" ≠ Jvm.RoadKit.slotOf Z "com/example/cloakfield/cloakfield/format/TaggedValue" "algorithm" "Ljava/lang/String;" := slot_ne (Or.inr (wq hw 49 rfl)) (Or.inr (wq hw 45 rfl)) (by decide) (t := (.array .byte)) (t' := (.object "java/lang/String")) (by decide) (by decide)
theorem sn4 {Z : State} {a0 : Array Value} (hw : ∀ d ∈ tables_1, d.before a0 Z = true) : Jvm.RoadKit.slotOf Z "com/example/cloakfield/cloakfield/format/TaggedValue" "payload" "[B" ≠ Jvm.RoadKit.slotOf Z "com/example/cloakfield/cloakfield/format/TaggedValue" "keyId" "Ljava/lang/String;" := slot_ne (Or.inr (wq hw 49 rfl)) (Or.inr (wq hw 47 rfl)) (by decide) (t := (.array .byte)) (t' := (.object "java/lang/String")) (by decide) (by decide)
theorem d7_19 : dk cb7 19 .return_ 1 := by decide +kernel
theorem sn5 {Z : State} {a0 : Array Value} (hw : ∀ d ∈ tables_1, d.before a0 Z = true) : Jvm.RoadKit.slotOf Z "com/example/cloakfield/cloakfield/format/TaggedValue" "algorithm" "Ljava/lang/String;" ≠ Jvm.RoadKit.slotOf Z "com/example/cloakfield/cloakfield/format/TaggedValue" "keyId" "Ljava/lang/String;" := slot_ne (Or.inr (wq hw 45 rfl)) (Or.inr (wq hw 47 rfl)) (by decide) (t := (.object "java/lang/String")) (t' := (.object "java/lang/String")) (by decide) (by decide)
theorem sn6 {Z : State} {a0 : Array Value} (hw : ∀ d ∈ tables_1, d.before a0 Z = true) : Jvm.RoadKit.slotOf Z "com/example/cloakfield/cloakfield/format/TaggedValue" "algorithm" "Ljava/lang/String;" ≠ Jvm.RoadKit.slotOf Z "com/example/cloakfield/cloakfield/format/TaggedValue" "payload" "[B" := slot_ne (Or.inr (wq hw 45 rfl)) (Or.inr (wq hw 49 rfl)) (by decide) (t := (.object "java/lang/String")) (t' := (.array .byte)) (by decide) (by decide)
theorem sn7 {Z : State} {a0 : Array Value} (hw : ∀ d ∈ tables_1, d.before a0 Z = true) : Jvm.RoadKit.slotOf Z "com/example/cloakfield/cloakfield/format/TaggedValue" "keyId" "Ljava/lang/String;" ≠ Jvm.RoadKit.slotOf Z "com/example/cloakfield/cloakfield/format/TaggedValue" "payload" "[B" := slot_ne (Or.inr (wq hw 47 rfl)) (Or.inr (wq hw 49 rfl)) (by decide) (t := (.object "java/lang/String")) (t' := (.array .byte)) (by decide) (by decide)
abbrev y15 : MethodName := (⟨"com/example/cloakfield/cloakfield/format/TaggedValue", "<init>", "(Ljava/lang/String;Ljava/lang/String;[B)V"⟩ : MethodName)
theorem ef_7_0 (m : MethodId) (x0 : Addr) (x1 : Addr) (x2 : Addr) (x3 : Addr) : entryFrame m #[(.ref x0), (.ref x1), (.ref x2), (.ref x3)] 4 = mkF m 0 #[.val (.ref x0), .val (.ref x1), .val (.ref x2), .val (.ref x3)] [] := by first | (simp [entryFrame, mkF, argsToLocals, Value.category]; done) | rfl
theorem pn_7 : plainName "com/example/cloakfield/cloakfield/format/TaggedValue" = true := by first | (simp [plainName, overriddenIn]; done) | decide +kernel
theorem rm33 (l : Launch) (Z : State) (a0 : Array Value) (hw : HW Z a0) (ws : List Jvm.Cond) (w_enc w_tb : Addr) (cs_v : Int32) (cl_tb : Cell) (wv_fm : Value) (hp : Perm Z w_enc w_tb cs_v cl_tb wv_fm) (a1 : Addr) (a2 : Addr) (a3 : Addr) (a4 : Addr) (h0 : Heap) (n0 : Nat) (O0 : Old Z n0 h0) (E_a1 : Exa Z h0 a1 "com/example/cloakfield/cloakfield/format/TaggedValue") (F_algorithm_a1 : Fld Z h0 a1 "com/example/cloakfield/cloakfield/format/TaggedValue" "algorithm" "Ljava/lang/String;" .null) (F_keyId_a1 : Fld Z h0 a1 "com/example/cloakfield/cloakfield/format/TaggedValue" "keyId" "Ljava/lang/String;" .null) (F_payload_a1 : Fld Z h0 a1 "com/example/cloakfield/cloakfield/format/TaggedValue" "payload" "[B" .null) (g_a1 : n0 ≤ a1) :
    MF l y15 (Jvm.Cond.code y15 prog_37_method_1_code 4 none :: ws) ({ frames := 2, cells := 0, slots := 0, locals := 24 } : Room) Z #[(.ref a1), (.ref a2), (.ref a3), (.ref a4)] h0 (fun v h L => v = none ∧ Fr n0 L ∧ Keep h0 h [a1] ∧ Exa Z h a1 "com/example/cloakfield/cloakfield/format/TaggedValue" ∧ Fld Z h a1 "com/example/cloakfield/cloakfield/format/TaggedValue" "algorithm" "Ljava/lang/String;" (.ref a2) ∧ Fld Z h a1 "com/example/cloakfield/cloakfield/format/TaggedValue" "keyId" "Ljava/lang/String;" (.ref a3) ∧ Fld Z h a1 "com/example/cloakfield/cloakfield/format/TaggedValue" "payload" "[B" (.ref a4)) := by
  refine mfB (plainFor_of_name pn_7) hw fun p e s m below meth c s₁ Bd Kz X0 e0 => ?_
  obtain ⟨hx, hby, hml, hZ, hown, -⟩ := id Kz
  have qz := And.intro hx hby
  have N0 := Fr.nil n0
  have hnm := (name_of_methodNamed Bd.named Bd.method).1
  obtain ⟨_, T1, Lc1, X1, hQ1, st1⟩ := sB X0 Kz y14 0 38 39 42 41 (rm32 l Z a0 hw [] w_enc w_tb cs_v cl_tb wv_fm hp a1 h0 n0 O0) e0 a1 (mkF m 1 #[vr a1, vr a2, vr a3, vr a4] [(.ref a1)]) [] [] pd_8 d7_1
  obtain ⟨rfl, Nq1, eq1⟩ := hQ1
  have N1 := Fr.app N0 Nq1
  obtain ⟨T2, h2, X2, e2, W2, st2⟩ := putF X1 hx hZ hown (host := "") (Or.inl (wq hw 44 rfl)) Via.refl eq1 F_algorithm_a1 E_a1 (Or.inr ⟨(wq hw 45 rfl), rfl, hnm⟩) (wq hw 8 rfl) (ty := (.object "java/lang/String")) (by decide) rfl rfl (g := (mkF m 6 #[vr a1, vr a2, vr a3, vr a4] [(.ref a2), (.ref a1)])) rfl rfl (hb hby d7_6)
  have N2 := Fr.snoc X2 N1 g_a1
  have K2 : Keep h0 h2 [a1] := (Keep.refl h0 [a1]).wr W2 (Or.inl (ma 0 rfl))
  have Fw2 := F_algorithm_a1.same W2
  obtain ⟨T3, h3, X3, e3, W3, st3⟩ := putF X2 hx hZ hown (host := "") (Or.inl (wq hw 46 rfl)) Via.refl e2 (F_keyId_a1.other W2 (Or.inr (sn2 hw))) (E_a1.wr W2) (Or.inr ⟨(wq hw 47 rfl), rfl, hnm⟩) (wq hw 8 rfl) (ty := (.object "java/lang/String")) (by decide) rfl rfl (g := (mkF m 11 #[vr a1, vr a2, vr a3, vr a4] [(.ref a3), (.ref a1)])) rfl rfl (hb hby d7_11)
  have N3 := Fr.snoc X3 N2 g_a1
  have K3 : Keep h0 h3 [a1] := K2.wr W3 (Or.inl (ma 0 rfl))
  have Fw3 := (F_keyId_a1.other W2 (Or.inr (sn2 hw))).same W3
  have f_4 := ((F_payload_a1.other W2 (Or.inr (sn3 hw))).other W3 (Or.inr (sn4 hw)))
  obtain ⟨T5, h5, X5, e5, W5, st5⟩ := putF X3 hx hZ hown (host := "") (Or.inl (wq hw 48 rfl)) Via.refl e3 f_4 ((E_a1.wr W2).wr W3) (Or.inr ⟨(wq hw 49 rfl), rfl, hnm⟩) (wq hw 8 rfl) (ty := (.array .byte)) (by decide) rfl rfl (g := (mkF m 16 #[vr a1, vr a2, vr a3, vr a4] [(.ref a4), (.ref a1)])) rfl rfl (hb hby d7_16)
  have N5 := Fr.snoc X5 N3 g_a1
  have K5 : Keep h0 h5 [a1] := K3.wr W5 (Or.inl (ma 0 rfl))
  have Fw5 := f_4.same W5
  have f_6 := ((Fw2.other W3 (Or.inr (sn5 hw))).other W5 (Or.inr (sn6 hw)))
  refine mfE Bd X5 (none) e5 (fun _ => rfl) (ef_7_0 m a1 a2 a3 a4) ⟨rfl, N5, K5, (((E_a1.wr W2).wr W3).wr W5), f_6, (Fw3.other W5 (Or.inr (sn7 hw))), Fw5⟩ fun fs hr => ?_
  refine aln X0 qz d7_0 ?_
  refine st1.trans ?_
  refine aln X1 qz d7_4 ?_
  refine aln X1 qz d7_5 ?_
  refine st2 _ ?_
  refine aln X2 qz d7_9 ?_
  refine aln X2 qz d7_10 ?_
  refine st3 _ ?_
  refine aln X3 qz d7_14 ?_
  refine aln X3 qz d7_15 ?_
  refine st5 _ ?_
  exact X5.returnOut hx Bd.returns (hb hby d7_19) hr
theorem pd_9 : parseMethodDescriptor "(Ljava/lang/String;Ljava/lang/String;[B)V" = some ⟨[(.object "java/lang/String"), (.object "java/lang/String"), (.array .byte)], none⟩ := by decide +kernel
abbrev cb9 : ByteArray := prog_37_method_2_code
theorem d9_0 : dk cb9 0 (.new 20) 3 := by decide +kernel
theorem d9_3 : dk cb9 3 .dup 1 := by decide +kernel
theorem d9_4 : dk cb9 4 (.invokespecial 22) 3 := by decide +kernel
abbrev cb10 : ByteArray := jdk_67_method_1_code
theorem d10_0 : dk cb10 0 (.aload_n 0) 1 := by decide +kernel
theorem d10_1 : dk cb10 1 (.bipush 16) 2 := by decide +kernel
theorem d10_3 : dk cb10 3 (.invokespecial 1) 3 := by decide +kernel
abbrev cb11 : ByteArray := jdk_68_method_2_code
theorem d11_0 : dk cb11 0 (.aload_n 0) 1 := by decide +kernel
theorem d11_1 : dk cb11 1 (.invokespecial 3) 3 := by decide +kernel
theorem d11_4 : dk cb11 4 (.getstatic 18) 3 := by decide +kernel
theorem d11_7 : dk cb11 7 (.ifCond .eq 18) 3 := by decide +kernel
theorem d11_10 : dk cb11 10 (.aload_n 0) 1 := by decide +kernel
theorem d11_11 : dk cb11 11 (.iload_n 1) 1 := by decide +kernel
theorem d11_12 : dk cb11 12 (.newarray .byte) 2 := by decide +kernel
theorem d11_14 : dk cb11 14 (.putfield 15) 3 := by decide +kernel
theorem d11_17 : dk cb11 17 (.aload_n 0) 1 := by decide +kernel
theorem d11_18 : dk cb11 18 (.iconst 0) 1 := by decide +kernel
theorem d11_19 : dk cb11 19 (.putfield 22) 3 := by decide +kernel
theorem sn8 {Z : State} {a0 : Array Value} (hw : ∀ d ∈ tables_1, d.before a0 Z = true) : Jvm.RoadKit.slotOf Z "java/lang/AbstractStringBuilder" "coder" "B" ≠ Jvm.RoadKit.slotOf Z "java/lang/AbstractStringBuilder" "value" "[B" := slot_ne (Or.inl (wq hw 72 rfl)) (Or.inl (wq hw 70 rfl)) (by decide) (t := .byte) (t' := (.array .byte)) (by decide) (by decide)
theorem d11_22 : dk cb11 22 (.goto 16) 3 := by decide +kernel
theorem d11_38 : dk cb11 38 .return_ 1 := by decide +kernel
theorem sn9 {Z : State} {a0 : Array Value} (hw : ∀ d ∈ tables_1, d.before a0 Z = true) : Jvm.RoadKit.slotOf Z "java/lang/AbstractStringBuilder" "count" "I" ≠ Jvm.RoadKit.slotOf Z "java/lang/AbstractStringBuilder" "value" "[B" := slot_ne (Or.inl (wq hw 97 rfl)) (Or.inl (wq hw 70 rfl)) (by decide) (t := .int) (t' := (.array .byte)) (by decide) (by decide)
theorem sn10 {Z : State} {a0 : Array Value} (hw : ∀ d ∈ tables_1, d.before a0 Z = true) : Jvm.RoadKit.slotOf Z "java/lang/AbstractStringBuilder" "count" "I" ≠ Jvm.RoadKit.slotOf Z "java/lang/AbstractStringBuilder" "coder" "B" := slot_ne (Or.inl (wq hw 97 rfl)) (Or.inl (wq hw 72 rfl)) (by decide) (t := .int) (t' := .byte) (by decide) (by decide)
theorem sn11 {Z : State} {a0 : Array Value} (hw : ∀ d ∈ tables_1, d.before a0 Z = true) : Jvm.RoadKit.slotOf Z "java/lang/AbstractStringBuilder" "value" "[B" ≠ Jvm.RoadKit.slotOf Z "java/lang/AbstractStringBuilder" "coder" "B" := slot_ne (Or.inl (wq hw 70 rfl)) (Or.inl (wq hw 72 rfl)) (by decide) (t := (.array .byte)) (t' := .byte) (by decide) (by decide)
abbrev y16 : MethodName := (⟨"java/lang/AbstractStringBuilder", "<init>", "(I)V"⟩ : MethodName)
theorem ef_11_0 (m : MethodId) (x0 : Addr) (x1 : Int32) : entryFrame m #[(.ref x0), (.int x1)] 2 = mkF m 0 #[.val (.ref x0), .val (.int x1)] [] := by first | (simp [entryFrame, mkF, argsToLocals, Value.category]; done) | rfl
theorem pn_11 : plainName "java/lang/AbstractStringBuilder" = true := by first | (simp [plainName, overriddenIn]; done) | decide +kernel
theorem rm34 (l : Launch) (Z : State) (a0 : Array Value) (hw : HW Z a0) (ws : List Jvm.Cond) (w_enc w_tb : Addr) (cs_v : Int32) (cl_tb : Cell) (wv_fm : Value) (hp : Perm Z w_enc w_tb cs_v cl_tb wv_fm) (a1 : Addr) (h0 : Heap) (n0 : Nat) (O0 : Old Z n0 h0) (E_a1 : Exa Z h0 a1 "java/lang/StringBuilder") (F_coder_a1 : Fld Z h0 a1 "java/lang/AbstractStringBuilder" "coder" "B" (.int 0)) (F_count_a1 : Fld Z h0 a1 "java/lang/AbstractStringBuilder" "count" "I" (.int 0)) (F_value_a1 : Fld Z h0 a1 "java/lang/AbstractStringBuilder" "value" "[B" .null) (g_a1 : n0 ≤ a1) :
    MF l y16 (Jvm.Cond.code y16 jdk_68_method_2_code 2 none :: ws) ({ frames := 1, cells := 1, slots := 16, locals := 12 } : Room) Z #[(.ref a1), (.int 16)] h0 (fun v h L => ∃ (b3 : Addr), ∃ (k3 : ClassId), v = none ∧ Fr n0 L ∧ Keep h0 h [a1] ∧ h0.size ≤ b3 ∧ Exa Z h a1 "java/lang/StringBuilder" ∧ Fld Z h a1 "java/lang/AbstractStringBuilder" "coder" "B" (.int 0) ∧ Fld Z h a1 "java/lang/AbstractStringBuilder" "count" "I" (.int 0) ∧ Fld Z h a1 "java/lang/AbstractStringBuilder" "value" "[B" (.ref b3) ∧ Exa Z h b3 "[B" ∧ Arv Z h b3 k3 .byte (16 : Int32) [(.int 0), (.int 0), (.int 0), (.int 0), (.int 0), (.int 0), (.int 0), (.int 0), (.int 0), (.int 0), (.int 0), (.int 0), (.int 0), (.int 0), (.int 0), (.int 0)] (.int 0)) := by
  refine mfB (plainFor_of_name pn_11) hw fun p e s m below meth c s₁ Bd Kz X0 e0 => ?_
  obtain ⟨hx, hby, hml, hZ, hown, -⟩ := id Kz
  have qz := And.intro hx hby
  have N0 := Fr.nil n0
  obtain ⟨S_COMPACT_STRINGS, h_cs, _⟩ := id hp
  obtain ⟨T1, X1, e1, st1⟩ := initO X0 hx hZ hown (wq hw 67 rfl) (wq hw 29 rfl) (wq hw 30 rfl) e0 (g := (mkF m 1 #[vr a1, vi 16] [(.ref a1)])) rfl (by rw [hml]; rfl) rfl (hb hby d11_1) (by decide) (W := 0) (by show 2 * 0 + _ ≤ _; exact Nat.le_of_eq rfl) (by decide)
  obtain ⟨T2, X2, e2, st2⟩ := getS2 X1 hx hZ hown (host := "") (Or.inl (wq hw 68 rfl)) Via.refl e1 (S_COMPACT_STRINGS.ext O0.2) (g := (mkF m 4 #[vr a1, vi 16] [])) rfl (hb hby d11_4)
  obtain ⟨T3, h3, k3, X3, e3, E3, A3, EA3, st3⟩ := newPE X2 hx hZ (wq hw 6 rfl) e2 (g := (mkF m 12 #[vr a1, vi 16] [(.int 16), (.ref a1)])) rfl (hb hby d11_12) rfl (by decide) (cap := 16) (by decide) (by decide) (by decide) (by decide) (ad := "[B") (by decide)
  obtain ⟨b3, g3⟩ : ∃ z, z = h0.size := ⟨_, rfl⟩
  rw [← g3] at A3 EA3 st3
  have sz_b3 : h0.size ≤ b3 := Nat.le_trans (Keep.refl h0 [a1]).1 (Nat.le_of_eq g3.symm)
  have K3 : Keep h0 h3 [a1] := (Keep.refl h0 [a1]).ext E3
  have V_b3 : Arv Z h3 b3 k3 .byte (16 : Int32) [(.int 0), (.int 0), (.int 0), (.int 0), (.int 0), (.int 0), (.int 0), (.int 0), (.int 0), (.int 0), (.int 0), (.int 0), (.int 0), (.int 0), (.int 0), (.int 0)] (.int 0) := (Arv.new A3 (by decide)).pad (pad_rep [] (.int 0) 16)
  obtain ⟨T4, h4, X4, e4, W4, st4⟩ := putF X3 hx hZ hown (host := "") (Or.inl (wq hw 69 rfl)) Via.refl e3 (F_value_a1.ext E3) (E_a1.ext E3) (Or.inl (wq hw 70 rfl)) (wq hw 56 rfl) (ty := (.array .byte)) (by decide) rfl rfl (g := (mkF m 14 #[vr a1, vi 16] [(.ref b3), (.ref a1)])) rfl rfl (hb hby d11_14)
  have N4 := Fr.snoc X4 N0 g_a1
  have K4 : Keep h0 h4 [a1] := K3.wr W4 (Or.inl (ma 0 rfl))
  have Fw4 := (F_value_a1.ext E3).same W4
  obtain ⟨T5, h5, X5, e5, W5, st5⟩ := putFN X4 hx hZ hown (wq hw 71 rfl) Via.refl e4 ((F_coder_a1.ext E3).other W4 (Or.inr (sn8 hw))) ((E_a1.ext E3).wr W4) (Or.inl (wq hw 72 rfl)) (wq hw 56 rfl) (ty := .byte) (v' := (.int 0)) (by decide) rfl rfl (g := (mkF m 19 #[vr a1, vi 16] [(.int 0), (.ref a1)])) rfl rfl (hb hby d11_19)
  have N5 := Fr.snoc X5 N4 g_a1
  have K5 : Keep h0 h5 [a1] := K4.wr W5 (Or.inl (ma 0 rfl))
  have Fw5 := ((F_coder_a1.ext E3).other W4 (Or.inr (sn8 hw))).same W5
  have f_6 := (((F_count_a1.ext E3).other W4 (Or.inr (sn9 hw))).other W5 (Or.inr (sn10 hw)))
  have nz0 : a1 ≠ b3 := (Nat.ne_of_lt (Nat.lt_of_lt_of_le E_a1.lt sz_b3))
  refine mfE Bd X5 (none) e5 (fun _ => rfl) (ef_11_0 m a1 (16 : Int32)) ⟨b3, k3, rfl, N5, K5, sz_b3, (((E_a1.ext E3).wr W4).wr W5), Fw5, f_6, (Fw4.other W5 (Or.inr (sn11 hw))), ((EA3.wr W4).wr W5), ((V_b3.other W4 (Ne.symm nz0)).other W5 (Ne.symm nz0))⟩ fun fs hr => ?_
  refine aln X0 qz d11_0 ?_
  refine st1 _ ?_
  refine st2 _ ?_
  refine ifN X2 qz d11_7 (feq h_cs).1 ?_
  refine aln X2 qz d11_10 ?_
  refine iln X2 qz d11_11 ?_
  refine st3 _ ?_
  refine st4 _ ?_
  refine aln X4 qz d11_17 ?_
  refine ic X4 qz d11_18 ?_
  refine st5 _ ?_
  refine gt X5 qz 22 38 d11_22 ?_
  exact X5.returnOut hx Bd.returns (hb hby d11_38) hr
theorem pd_10 : parseMethodDescriptor "(I)V" = some ⟨[.int], none⟩ := by decide +kernel
theorem d10_6 : dk cb10 6 .return_ 1 := by decide +kernel
abbrev y17 : MethodName := (⟨"java/lang/StringBuilder", "<init>", "()V"⟩ : MethodName)
theorem ef_10_0 (m : MethodId) (x0 : Addr) : entryFrame m #[(.ref x0)] 1 = mkF m 0 #[.val (.ref x0)] [] := by first | (simp [entryFrame, mkF, argsToLocals, Value.category]; done) | rfl
theorem pn_10 : plainName "java/lang/StringBuilder" = true := by first | (simp [plainName, overriddenIn]; done) | decide +kernel
theorem rm35 (l : Launch) (Z : State) (a0 : Array Value) (hw : HW Z a0) (ws : List Jvm.Cond) (w_enc w_tb : Addr) (cs_v : Int32) (cl_tb : Cell) (wv_fm : Value) (hp : Perm Z w_enc w_tb cs_v cl_tb wv_fm) (a1 : Addr) (h0 : Heap) (n0 : Nat) (O0 : Old Z n0 h0) (E_a1 : Exa Z h0 a1 "java/lang/StringBuilder") (F_coder_a1 : Fld Z h0 a1 "java/lang/AbstractStringBuilder" "coder" "B" (.int 0)) (F_count_a1 : Fld Z h0 a1 "java/lang/AbstractStringBuilder" "count" "I" (.int 0)) (F_value_a1 : Fld Z h0 a1 "java/lang/AbstractStringBuilder" "value" "[B" .null) (g_a1 : n0 ≤ a1) :
    MF l y17 (Jvm.Cond.code y17 jdk_67_method_1_code 1 none :: ws) ({ frames := 2, cells := 1, slots := 16, locals := 25 } : Room) Z #[(.ref a1)] h0 (fun v h L => ∃ (b1_0 : Addr), ∃ (kc1_0 : ClassId), v = none ∧ Fr n0 L ∧ Keep h0 h [a1] ∧ h0.size ≤ b1_0 ∧ Exa Z h a1 "java/lang/StringBuilder" ∧ Fld Z h a1 "java/lang/AbstractStringBuilder" "coder" "B" (.int 0) ∧ Fld Z h a1 "java/lang/AbstractStringBuilder" "count" "I" (.int 0) ∧ Fld Z h a1 "java/lang/AbstractStringBuilder" "value" "[B" (.ref b1_0) ∧ Exa Z h b1_0 "[B" ∧ Arv Z h b1_0 kc1_0 .byte (16 : Int32) [(.int 0), (.int 0), (.int 0), (.int 0), (.int 0), (.int 0), (.int 0), (.int 0), (.int 0), (.int 0), (.int 0), (.int 0), (.int 0), (.int 0), (.int 0), (.int 0)] (.int 0)) := by
  refine mfB (plainFor_of_name pn_10) hw fun p e s m below meth c s₁ Bd Kz X0 e0 => ?_
  obtain ⟨hx, hby, hml, hZ, hown, -⟩ := id Kz
  have qz := And.intro hx hby
  have N0 := Fr.nil n0
  obtain ⟨_, T1, Lc1, X1, hQ1, st1⟩ := sB X0 Kz y16 0 61 62 66 65 (rm34 l Z a0 hw [] w_enc w_tb cs_v cl_tb wv_fm hp a1 h0 n0 O0 E_a1 F_coder_a1 F_count_a1 F_value_a1 g_a1) e0 a1 (mkF m 3 #[vr a1] [(.int 16), (.ref a1)]) [(.int 16)] [] pd_10 d10_3
  obtain ⟨b1_0, kc1_0, rfl, Nq1, Kq1, sq_b1_0, fq1_0, fq1_1, fq1_2, fq1_3, fq1_4, fq1_5⟩ := hQ1
  have N1 := Fr.app N0 Nq1
  have sz_b1_0 : h0.size ≤ b1_0 := Nat.le_trans (Keep.refl h0 [a1]).1 sq_b1_0
  have K1 : Keep h0 T1.heap [a1] := (Keep.refl h0 [a1]).trans Kq1 (allS (Or.inl (ma 0 rfl)) all0)
  refine mfE Bd X1 (none) rfl (fun _ => rfl) (ef_10_0 m a1) ⟨b1_0, kc1_0, rfl, N1, K1, sz_b1_0, fq1_0, fq1_1, fq1_2, fq1_3, fq1_4, fq1_5⟩ fun fs hr => ?_
  refine aln X0 qz d10_0 ?_
  refine bp X0 qz d10_1 ?_
  refine st1.trans ?_
  exact X1.returnOut hx Bd.returns (hb hby d10_6) hr
theorem d9_7 : dk cb9 7 (.ldc 23) 2 := by decide +kernel
theorem d9_9 : dk cb9 9 (.invokevirtual 25) 3 := by decide +kernel
abbrev cb12 : ByteArray := jdk_67_method_7_code
theorem d12_0 : dk cb12 0 (.aload_n 0) 1 := by decide +kernel
theorem d12_1 : dk cb12 1 (.aload_n 1) 1 := by decide +kernel
theorem d12_2 : dk cb12 2 (.invokespecial 29) 3 := by decide +kernel
abbrev cb13 : ByteArray := jdk_68_method_22_code
theorem d13_0 : dk cb13 0 (.aload_n 1) 1 := by decide +kernel
theorem d13_1 : dk cb13 1 (.ifnonnull 8) 3 := by decide +kernel
theorem d13_9 : dk cb13 9 (.aload_n 1) 1 := by decide +kernel
theorem d13_10 : dk cb13 10 (.invokevirtual 32) 3 := by decide +kernel
abbrev cb14 : ByteArray := jdk_42_method_54_code
theorem d14_0 : dk cb14 0 (.aload_n 0) 1 := by decide +kernel
theorem d14_1 : dk cb14 1 (.getfield 9) 3 := by decide +kernel
theorem d14_4 : dk cb14 4 .arraylength 1 := by decide +kernel
theorem d14_5 : dk cb14 5 (.aload_n 0) 1 := by decide +kernel
theorem d14_6 : dk cb14 6 (.invokevirtual 335) 3 := by decide +kernel
abbrev cb15 : ByteArray := jdk_42_method_152_code
theorem d15_0 : dk cb15 0 (.getstatic 38) 3 := by decide +kernel
theorem d15_3 : dk cb15 3 (.ifCond .eq 10) 3 := by decide +kernel
theorem d15_6 : dk cb15 6 (.aload_n 0) 1 := by decide +kernel
theorem d15_7 : dk cb15 7 (.getfield 15) 3 := by decide +kernel
theorem d15_10 : dk cb15 10 (.goto 4) 3 := by decide +kernel
theorem d15_14 : dk cb15 14 .ireturn 1 := by decide +kernel
abbrev y18 : MethodName := (⟨"java/lang/String", "coder", "()B"⟩ : MethodName)
theorem ef_15_0 (m : MethodId) (x0 : Addr) : entryFrame m #[(.ref x0)] 1 = mkF m 0 #[.val (.ref x0)] [] := by first | (simp [entryFrame, mkF, argsToLocals, Value.category]; done) | rfl
theorem rm36 (l : Launch) (Z : State) (a0 : Array Value) (hw : HW Z a0) (ws : List Jvm.Cond) (w_enc w_tb : Addr) (cs_v : Int32) (cl_tb : Cell) (wv_fm : Value) (hp : Perm Z w_enc w_tb cs_v cl_tb wv_fm) (a1 : Addr) (h0 : Heap) (n0 : Nat) (O0 : Old Z n0 h0) (F_coder_a1 : Fld Z h0 a1 "java/lang/String" "coder" "B" (.int 0)) :
    MF l y18 (Jvm.Cond.code y18 jdk_42_method_152_code 1 (some .byte) :: ws) ({ frames := 0, cells := 0, slots := 0, locals := 0 } : Room) Z #[(.ref a1)] h0 (fun v h L => v = some (.int 0) ∧ Fr n0 L ∧ h = h0) := by
  refine mfB (plainFor_of_name pn_5) hw fun p e s m below meth c s₁ Bd Kz X0 e0 => ?_
  obtain ⟨hx, hby, hml, hZ, hown, -⟩ := id Kz
  have qz := And.intro hx hby
  have N0 := Fr.nil n0
  obtain ⟨S_COMPACT_STRINGS, h_cs, _⟩ := id hp
  obtain ⟨T1, X1, e1, st1⟩ := getS2 X0 hx hZ hown (host := "") (Or.inl (wq hw 14 rfl)) Via.refl e0 (S_COMPACT_STRINGS.ext O0.2) (g := (mkF m 0 #[vr a1] [])) rfl (hb hby d15_0)
  obtain ⟨T2, X2, e2, st2⟩ := gF X1 Kz 33 e1 F_coder_a1 (mkF m 7 #[vr a1] [(.ref a1)]) d15_7
  refine mfE Bd X2 (some (.int 0)) e2 (fun h => by rw [Bd.returns] at h; cases h) (ef_15_0 m a1) ⟨rfl, N0, rfl⟩ fun fs hr => ?_
  refine st1 _ ?_
  refine ifN X1 qz d15_3 (feq h_cs).1 ?_
  refine aln X1 qz d15_6 ?_
  refine st2 _ ?_
  refine gt X2 qz 10 14 d15_10 ?_
  exact retN X2 hx (t := .byte) Bd.returns (by simp) (hb hby d15_14) hr
theorem pd_11 : parseMethodDescriptor "()B" = some ⟨[], some .byte⟩ := by decide +kernel
theorem d14_9 : dk cb14 9 .ishr 1 := by decide +kernel
theorem d14_10 : dk cb14 10 .ireturn 1 := by decide +kernel
abbrev y19 : MethodName := (⟨"java/lang/String", "length", "()I"⟩ : MethodName)
theorem ef_14_0 (m : MethodId) (x0 : Addr) : entryFrame m #[(.ref x0)] 1 = mkF m 0 #[.val (.ref x0)] [] := by first | (simp [entryFrame, mkF, argsToLocals, Value.category]; done) | rfl
theorem rm37 (l : Launch) (Z : State) (a0 : Array Value) (hw : HW Z a0) (ws : List Jvm.Cond) (w_enc w_tb : Addr) (cs_v : Int32) (cl_tb : Cell) (wv_fm : Value) (hp : Perm Z w_enc w_tb cs_v cl_tb wv_fm) (a1 : Addr) (a2 : Addr) (k_a2 : ClassId) (l_a2 : List Value) (p5 : Int32) (h0 : Heap) (n0 : Nat) (O0 : Old Z n0 h0) (F_value_a1 : Fld Z h0 a1 "java/lang/String" "value" "[B" (.ref a2)) (V_a2 : Arv Z h0 a2 k_a2 .byte p5 (lid l_a2) (.int 0)) (E_a1 : Exa Z h0 a1 "java/lang/String") (F_coder_a1 : Fld Z h0 a1 "java/lang/String" "coder" "B" (.int 0)) :
    MF l y19 (Jvm.Cond.code y19 jdk_42_method_54_code 1 (some .int) :: ws) ({ frames := 1, cells := 0, slots := 0, locals := 13 } : Room) Z #[(.ref a1)] h0 (fun v h L => v = some (.int (p5 >>> ((0 : Int32) &&& 31))) ∧ Fr n0 L ∧ h = h0) := by
  refine mfB (plainFor_of_name pn_5) hw fun p e s m below meth c s₁ Bd Kz X0 e0 => ?_
  obtain ⟨hx, hby, hml, hZ, hown, -⟩ := id Kz
  have qz := And.intro hx hby
  have N0 := Fr.nil n0
  obtain ⟨T1, X1, e1, st1⟩ := gF X0 Kz 31 e0 F_value_a1 (mkF m 1 #[vr a1] [(.ref a1)]) d14_1
  obtain ⟨_, T3, Lc3, X3, hQ3, st3⟩ := vS X1 Kz y18 1 91 92 94 93 95 12 (rm36 l Z a0 hw [] w_enc w_tb cs_v cl_tb wv_fm hp a1 h0 n0 O0 F_coder_a1) e1 E_a1 (mkF m 6 #[vr a1] [(.ref a1), (.int p5)]) [] [(.int p5)] pd_11 d14_6
  obtain ⟨rfl, Nq3, eq3⟩ := hQ3
  have N3 := Fr.app N0 Nq3
  refine mfE Bd X3 (some (.int (p5 >>> ((0 : Int32) &&& 31)))) eq3 (fun h => by rw [Bd.returns] at h; cases h) (ef_14_0 m a1) ⟨rfl, N3, rfl⟩ fun fs hr => ?_
  refine aln X0 qz d14_0 ?_
  refine st1 _ ?_
  refine aL X1 Kz e1 V_a2 d14_4 ?_
  refine aln X1 qz d14_5 ?_
  refine st3.trans ?_
  refine wishr X3 qz d14_9 ?_
  exact retI X3 hx Bd.returns (hb hby d14_10) hr
theorem pd_12 : parseMethodDescriptor "()I" = some ⟨[], some .int⟩ := by decide +kernel
theorem d13_13 : dk cb13 13 (.istore_n 2) 1 := by decide +kernel
abbrev fx49 (x0 : Int32) : Int32 := (x0 >>> ((0 : Int32) &&& 31))
theorem d13_14 : dk cb13 14 (.aload_n 0) 1 := by decide +kernel
theorem d13_15 : dk cb13 15 (.aload_n 0) 1 := by decide +kernel
theorem d13_16 : dk cb13 16 (.getfield 79) 3 := by decide +kernel
theorem d13_19 : dk cb13 19 (.iload_n 2) 1 := by decide +kernel
theorem d13_20 : dk cb13 20 .iadd 1 := by decide +kernel
theorem d13_21 : dk cb13 21 (.invokevirtual 100) 3 := by decide +kernel
abbrev fx50 (x0 : Int32) (x1 : Int32) : Int32 := (x0 + (x1 >>> ((0 : Int32) &&& 31)))
abbrev cb16 : ByteArray := jdk_68_method_9_code
theorem d16_0 : dk cb16 0 (.aload_n 0) 1 := by decide +kernel
theorem d16_1 : dk cb16 1 (.getfield 15) 3 := by decide +kernel
theorem d16_4 : dk cb16 4 .arraylength 1 := by decide +kernel
theorem d16_5 : dk cb16 5 (.aload_n 0) 1 := by decide +kernel
theorem d16_6 : dk cb16 6 (.getfield 22) 3 := by decide +kernel
theorem d16_9 : dk cb16 9 .ishr 1 := by decide +kernel
theorem d16_10 : dk cb16 10 (.istore_n 2) 1 := by decide +kernel
theorem d16_11 : dk cb16 11 (.iload_n 1) 1 := by decide +kernel
theorem d16_12 : dk cb16 12 (.iload_n 2) 1 := by decide +kernel
theorem d16_13 : dk cb16 13 .isub 1 := by decide +kernel
theorem d16_14 : dk cb16 14 (.ifCond .le 24) 3 := by decide +kernel
theorem d16_38 : dk cb16 38 .return_ 1 := by decide +kernel
abbrev y20 : MethodName := (⟨"java/lang/AbstractStringBuilder", "ensureCapacityInternal", "(I)V"⟩ : MethodName)
theorem ef_16_0 (m : MethodId) (x0 : Addr) (x1 : Int32) : entryFrame m #[(.ref x0), (.int x1)] 3 = mkF m 0 #[.val (.ref x0), .val (.int x1), .unset] [] := by first | (simp [entryFrame, mkF, argsToLocals, Value.category]; done) | rfl
theorem rm38 (l : Launch) (Z : State) (a0 : Array Value) (hw : HW Z a0) (ws : List Jvm.Cond) (w_enc w_tb : Addr) (cs_v : Int32) (cl_tb : Cell) (wv_fm : Value) (hp : Perm Z w_enc w_tb cs_v cl_tb wv_fm) (a1 : Addr) (p2 : Int32) (a3 : Addr) (k_a3 : ClassId) (l_a3 : List Value) (p6 : Int32) (h0 : Heap) (n0 : Nat) (O0 : Old Z n0 h0) (F_value_a1 : Fld Z h0 a1 "java/lang/AbstractStringBuilder" "value" "[B" (.ref a3)) (V_a3 : Arv Z h0 a3 k_a3 .byte p6 (lid l_a3) (.int 0)) (F_coder_a1 : Fld Z h0 a1 "java/lang/AbstractStringBuilder" "coder" "B" (.int 0)) (hc4 : ¬ ((0 : Int32) < (p2 - (p6 >>> ((0 : Int32) &&& 31))))) :
    MF l y20 (Jvm.Cond.code y20 jdk_68_method_9_code 3 none :: ws) ({ frames := 0, cells := 0, slots := 0, locals := 0 } : Room) Z #[(.ref a1), (.int p2)] h0 (fun v h L => v = none ∧ Fr n0 L ∧ h = h0) := by
  refine mfB (plainFor_of_name pn_11) hw fun p e s m below meth c s₁ Bd Kz X0 e0 => ?_
  obtain ⟨hx, hby, hml, hZ, hown, -⟩ := id Kz
  have qz := And.intro hx hby
  have N0 := Fr.nil n0
  obtain ⟨T1, X1, e1, st1⟩ := gF X0 Kz 69 e0 F_value_a1 (mkF m 1 #[vr a1, vi p2, uu] [(.ref a1)]) d16_1
  obtain ⟨T3, X3, e3, st3⟩ := gF X1 Kz 71 e1 F_coder_a1 (mkF m 6 #[vr a1, vi p2, uu] [(.ref a1), (.int p6)]) d16_6
  refine mfE Bd X3 (none) e3 (fun _ => rfl) (ef_16_0 m a1 p2) ⟨rfl, N0, rfl⟩ fun fs hr => ?_
  refine aln X0 qz d16_0 ?_
  refine st1 _ ?_
  refine aL X1 Kz e1 V_a3 d16_4 ?_
  refine aln X1 qz d16_5 ?_
  refine st3 _ ?_
  refine wishr X3 qz d16_9 ?_
  refine stn X3 qz d16_10 #[vr a1, vi p2, vi (fx49 p6)] ?_
  refine iln X3 qz d16_11 ?_
  refine iln X3 qz d16_12 ?_
  refine wib X3 qz d16_13 ?_
  refine ifY X3 qz 14 38 d16_14 (flt hc4).2.2.2 ?_
  exact X3.returnOut hx Bd.returns (hb hby d16_38) hr
theorem d13_24 : dk cb13 24 (.aload_n 0) 1 := by decide +kernel
theorem d13_25 : dk cb13 25 (.aload_n 0) 1 := by decide +kernel
theorem d13_26 : dk cb13 26 (.getfield 79) 3 := by decide +kernel
theorem d13_29 : dk cb13 29 (.aload_n 1) 1 := by decide +kernel
theorem d13_30 : dk cb13 30 (.invokevirtual 208) 3 := by decide +kernel
abbrev cb17 : ByteArray := jdk_68_method_73_code
theorem d17_0 : dk cb17 0 (.aload_n 0) 1 := by decide +kernel
theorem d17_1 : dk cb17 1 (.aload_n 2) 1 := by decide +kernel
theorem d17_2 : dk cb17 2 (.invokevirtual 397) 3 := by decide +kernel
abbrev cb18 : ByteArray := jdk_68_method_71_code
theorem d18_0 : dk cb18 0 (.getstatic 18) 3 := by decide +kernel
theorem d18_3 : dk cb18 3 (.ifCond .eq 18) 3 := by decide +kernel
theorem d18_6 : dk cb18 6 (.aload_n 0) 1 := by decide +kernel
theorem d18_7 : dk cb18 7 (.getfield 22) 3 := by decide +kernel
theorem d18_10 : dk cb18 10 (.aload_n 1) 1 := by decide +kernel
theorem d18_11 : dk cb18 11 (.invokevirtual 40) 3 := by decide +kernel
theorem d18_14 : dk cb18 14 (.if_icmp .eq 7) 3 := by decide +kernel
theorem d18_21 : dk cb18 21 .return_ 1 := by decide +kernel
abbrev y21 : MethodName := (⟨"java/lang/AbstractStringBuilder", "inflateIfNeededFor", "(Ljava/lang/String;)V"⟩ : MethodName)
theorem ef_18_0 (m : MethodId) (x0 : Addr) (x1 : Addr) : entryFrame m #[(.ref x0), (.ref x1)] 2 = mkF m 0 #[.val (.ref x0), .val (.ref x1)] [] := by first | (simp [entryFrame, mkF, argsToLocals, Value.category]; done) | rfl
theorem rm39 (l : Launch) (Z : State) (a0 : Array Value) (hw : HW Z a0) (ws : List Jvm.Cond) (w_enc w_tb : Addr) (cs_v : Int32) (cl_tb : Cell) (wv_fm : Value) (hp : Perm Z w_enc w_tb cs_v cl_tb wv_fm) (a1 : Addr) (a2 : Addr) (h0 : Heap) (n0 : Nat) (O0 : Old Z n0 h0) (F_coder_a1 : Fld Z h0 a1 "java/lang/AbstractStringBuilder" "coder" "B" (.int 0)) (E_a2 : Exa Z h0 a2 "java/lang/String") (F_coder_a2 : Fld Z h0 a2 "java/lang/String" "coder" "B" (.int 0)) :
    MF l y21 (Jvm.Cond.code y21 jdk_68_method_71_code 2 none :: ws) ({ frames := 1, cells := 0, slots := 0, locals := 13 } : Room) Z #[(.ref a1), (.ref a2)] h0 (fun v h L => v = none ∧ Fr n0 L ∧ h = h0) := by
  refine mfB (plainFor_of_name pn_11) hw fun p e s m below meth c s₁ Bd Kz X0 e0 => ?_
  obtain ⟨hx, hby, hml, hZ, hown, -⟩ := id Kz
  have qz := And.intro hx hby
  have N0 := Fr.nil n0
  obtain ⟨S_COMPACT_STRINGS, h_cs, _⟩ := id hp
  obtain ⟨T1, X1, e1, st1⟩ := getS2 X0 hx hZ hown (host := "") (Or.inl (wq hw 68 rfl)) Via.refl e0 (S_COMPACT_STRINGS.ext O0.2) (g := (mkF m 0 #[vr a1, vr a2] [])) rfl (hb hby d18_0)
  obtain ⟨T2, X2, e2, st2⟩ := gF X1 Kz 71 e1 F_coder_a1 (mkF m 7 #[vr a1, vr a2] [(.ref a1)]) d18_7
  obtain ⟨_, T3, Lc3, X3, hQ3, st3⟩ := vS X2 Kz y18 1 113 92 94 93 95 12 (rm36 l Z a0 hw [] w_enc w_tb cs_v cl_tb wv_fm hp a2 h0 n0 O0 F_coder_a2) e2 E_a2 (mkF m 11 #[vr a1, vr a2] [(.ref a2), (.int 0)]) [] [(.int 0)] pd_11 d18_11
  obtain ⟨rfl, Nq3, eq3⟩ := hQ3
  have N3 := Fr.app N0 Nq3
  refine mfE Bd X3 (none) eq3 (fun _ => rfl) (ef_18_0 m a1 a2) ⟨rfl, N3, rfl⟩ fun fs hr => ?_
  refine st1 _ ?_
  refine ifN X1 qz d18_3 (feq h_cs).1 ?_
  refine aln X1 qz d18_6 ?_
  refine st2 _ ?_
  refine aln X2 qz d18_10 ?_
  refine st3.trans ?_
  refine icY X3 qz 14 21 d18_14 (teq (by decide : (0 : Int32) = (0 : Int32))).1 ?_
  exact X3.returnOut hx Bd.returns (hb hby d18_21) hr
theorem pd_13 : parseMethodDescriptor "(Ljava/lang/String;)V" = some ⟨[(.object "java/lang/String")], none⟩ := by decide +kernel
theorem d17_5 : dk cb17 5 (.aload_n 2) 1 := by decide +kernel
theorem d17_6 : dk cb17 6 (.aload_n 0) 1 := by decide +kernel
theorem d17_7 : dk cb17 7 (.getfield 15) 3 := by decide +kernel
theorem d17_10 : dk cb17 10 (.iload_n 1) 1 := by decide +kernel
theorem d17_11 : dk cb17 11 (.aload_n 0) 1 := by decide +kernel
theorem d17_12 : dk cb17 12 (.getfield 22) 3 := by decide +kernel
theorem d17_15 : dk cb17 15 (.invokevirtual 399) 3 := by decide +kernel
abbrev cb19 : ByteArray := jdk_42_method_147_code
theorem d19_0 : dk cb19 0 (.aload_n 0) 1 := by decide +kernel
theorem d19_1 : dk cb19 1 (.invokevirtual 335) 3 := by decide +kernel
theorem d19_4 : dk cb19 4 (.iload_n 3) 1 := by decide +kernel
theorem d19_5 : dk cb19 5 (.if_icmp .ne 23) 3 := by decide +kernel
theorem d19_8 : dk cb19 8 (.aload_n 0) 1 := by decide +kernel
theorem d19_9 : dk cb19 9 (.getfield 9) 3 := by decide +kernel
theorem d19_12 : dk cb19 12 (.iconst 0) 1 := by decide +kernel
theorem d19_13 : dk cb19 13 (.aload_n 1) 1 := by decide +kernel
theorem d19_14 : dk cb19 14 (.iload_n 2) 1 := by decide +kernel
theorem d19_15 : dk cb19 15 (.iload_n 3) 1 := by decide +kernel
theorem d19_16 : dk cb19 16 .ishl 1 := by decide +kernel
theorem d19_17 : dk cb19 17 (.aload_n 0) 1 := by decide +kernel
theorem d19_18 : dk cb19 18 (.getfield 9) 3 := by decide +kernel
abbrev fx51 (x0 : Int32) : Int32 := (x0 <<< ((0 : Int32) &&& 31))
theorem d19_21 : dk cb19 21 .arraylength 1 := by decide +kernel
theorem d19_22 : dk cb19 22 (.invokestatic 212) 3 := by decide +kernel
theorem d19_25 : dk cb19 25 (.goto 18) 3 := by decide +kernel
theorem d19_43 : dk cb19 43 .return_ 1 := by decide +kernel
abbrev y22 : MethodName := (⟨"java/lang/String", "getBytes", "([BIB)V"⟩ : MethodName)
theorem ef_19_0 (m : MethodId) (x0 : Addr) (x1 : Addr) (x2 : Int32) (x3 : Int32) : entryFrame m #[(.ref x0), (.ref x1), (.int x2), (.int x3)] 4 = mkF m 0 #[.val (.ref x0), .val (.ref x1), .val (.int x2), .val (.int x3)] [] := by first | (simp [entryFrame, mkF, argsToLocals, Value.category]; done) | rfl
theorem rm40 (l : Launch) (Z : State) (a0 : Array Value) (hw : HW Z a0) (ws : List Jvm.Cond) (w_enc w_tb : Addr) (cs_v : Int32) (cl_tb : Cell) (wv_fm : Value) (hp : Perm Z w_enc w_tb cs_v cl_tb wv_fm) (a1 : Addr) (a2 : Addr) (p3 : Int32) (a4 : Addr) (k_a4 : ClassId) (l_a4 : List Value) (p7 : Int32) (k_a2 : ClassId) (l_a2 : List Value) (p10 : Int32) (h0 : Heap) (n0 : Nat) (O0 : Old Z n0 h0) (E_a1 : Exa Z h0 a1 "java/lang/String") (F_coder_a1 : Fld Z h0 a1 "java/lang/String" "coder" "B" (.int 0)) (F_value_a1 : Fld Z h0 a1 "java/lang/String" "value" "[B" (.ref a4)) (V_a4 : Arv Z h0 a4 k_a4 .byte p7 (lid l_a4) (.int 0)) (E_a2 : Exa Z h0 a2 "[B") (V_a2 : Arv Z h0 a2 k_a2 .byte p10 (lid l_a2) (.int 0)) (g_a2 : n0 ≤ a2) (hs8 : ¬ ((p3 <<< ((0 : Int32) &&& 31))) < 0) (hs9 : ¬ (p7) < 0) (hs10 : ((0 : Int32)).toNatClampNeg + (p7).toNatClampNeg ≤ (p7).toNatClampNeg) (hs11 : ((p3 <<< ((0 : Int32) &&& 31))).toNatClampNeg + (p7).toNatClampNeg ≤ (p10).toNatClampNeg) (hs12 : ((p3 <<< ((0 : Int32) &&& 31))).toNatClampNeg + (p7).toNatClampNeg ≤ (l_a2).length) :
    MF l y22 (Jvm.Cond.code y22 jdk_42_method_147_code 4 none :: ws) ({ frames := 1, cells := 0, slots := 0, locals := 18 } : Room) Z #[(.ref a1), (.ref a2), (.int p3), (.int 0)] h0 (fun v h L => v = none ∧ Fr n0 L ∧ Keep h0 h [a2] ∧ Exa Z h a2 "[B" ∧ Arv Z h a2 k_a2 .byte p10 (lid (cpL l_a2 l_a4 (0 : Int32) (p3 <<< ((0 : Int32) &&& 31)) p7)) (.int 0)) := by
  refine mfB (plainFor_of_name pn_5) hw fun p e s m below meth c s₁ Bd Kz X0 e0 => ?_
  obtain ⟨hx, hby, hml, hZ, hown, -⟩ := id Kz
  have qz := And.intro hx hby
  have N0 := Fr.nil n0
  obtain ⟨_, T1, Lc1, X1, hQ1, st1⟩ := vS X0 Kz y18 0 91 92 94 93 95 12 (rm36 l Z a0 hw [] w_enc w_tb cs_v cl_tb wv_fm hp a1 h0 n0 O0 F_coder_a1) e0 E_a1 (mkF m 1 #[vr a1, vr a2, vi p3, vi 0] [(.ref a1)]) [] [] pd_11 d19_1
  obtain ⟨rfl, Nq1, eq1⟩ := hQ1
  have N1 := Fr.app N0 Nq1
  obtain ⟨T2, X2, e2, st2⟩ := gF X1 Kz 31 eq1 F_value_a1 (mkF m 9 #[vr a1, vr a2, vi p3, vi 0] [(.ref a1)]) d19_9
  obtain ⟨T3, X3, e3, st3⟩ := gF X2 Kz 31 e2 F_value_a1 (mkF m 18 #[vr a1, vr a2, vi p3, vi 0] [(.ref a1), (.int (fx51 p3)), (.ref a2), (.int 0), (.ref a4)]) d19_18
  obtain ⟨T5, h5, Lc5, X5, e5, N5, Kq5, Vq5, st5⟩ := cpA X3 hx hZ hown (wq hw 119 rfl) (wq hw 122 rfl) (wq hw 120 rfl) (wq hw 121 rfl) e3 (sp := (0 : Int32)) (dp := (p3 <<< ((0 : Int32) &&& 31))) (nn := p7) (us := _) V_a4 V_a2 (Or.inl ⟨rfl, rfl⟩) (by decide) hs8 hs9 hs10 hs11 rfl hs12 N1 g_a2 (g := (mkF m 22 #[vr a1, vr a2, vi p3, vi 0] [(.int p7), (.int (fx51 p3)), (.ref a2), (.int 0), (.ref a4)])) rfl (by rw [hml]; rfl) (rest := []) rfl (hb hby d19_22) (by decide) (W := 0) (by show 2 * 0 + _ ≤ _; exact Nat.le_of_eq rfl) (by decide)
  have K5 : Keep h0 h5 [a2] := (Keep.refl h0 [a2]).trans Kq5 (allS (Or.inl (ma 0 rfl)) all0)
  have V_a2_5 : Arv Z h5 a2 k_a2 .byte p10 (lid (cpL l_a2 l_a4 (0 : Int32) (p3 <<< ((0 : Int32) &&& 31)) p7)) (.int 0) := Vq5
  refine mfE Bd X5 (none) e5 (fun _ => rfl) (ef_19_0 m a1 a2 p3 (0 : Int32)) ⟨rfl, N5, K5, (E_a2.keep Kq5), V_a2_5⟩ fun fs hr => ?_
  refine aln X0 qz d19_0 ?_
  refine st1.trans ?_
  refine iln X1 qz d19_4 ?_
  refine icN X1 qz d19_5 (teq (by decide : (0 : Int32) = (0 : Int32))).2 ?_
  refine aln X1 qz d19_8 ?_
  refine st2 _ ?_
  refine ic X2 qz d19_12 ?_
  refine aln X2 qz d19_13 ?_
  refine iln X2 qz d19_14 ?_
  refine iln X2 qz d19_15 ?_
  refine wishl X2 qz d19_16 ?_
  refine aln X2 qz d19_17 ?_
  refine st3 _ ?_
  refine aL X3 Kz e3 V_a4 d19_21 ?_
  refine st5 _ ?_
  refine gt X5 qz 25 43 d19_25 ?_
  show Sp p e below T5 (mkF m 43 #[vr a1, vr a2, vi p3, vi 0] []) _
  exact X5.returnOut hx Bd.returns (hb hby d19_43) hr
theorem pd_14 : parseMethodDescriptor "([BIB)V" = some ⟨[(.array .byte), .int, .byte], none⟩ := by decide +kernel
theorem d17_18 : dk cb17 18 .return_ 1 := by decide +kernel
abbrev y23 : MethodName := (⟨"java/lang/AbstractStringBuilder", "putStringAt", "(ILjava/lang/String;)V"⟩ : MethodName)
theorem ef_17_0 (m : MethodId) (x0 : Addr) (x1 : Int32) (x2 : Addr) : entryFrame m #[(.ref x0), (.int x1), (.ref x2)] 3 = mkF m 0 #[.val (.ref x0), .val (.int x1), .val (.ref x2)] [] := by first | (simp [entryFrame, mkF, argsToLocals, Value.category]; done) | rfl
theorem rm41 (l : Launch) (Z : State) (a0 : Array Value) (hw : HW Z a0) (ws : List Jvm.Cond) (w_enc w_tb : Addr) (cs_v : Int32) (cl_tb : Cell) (wv_fm : Value) (hp : Perm Z w_enc w_tb cs_v cl_tb wv_fm) (a1 : Addr) (p2 : Int32) (a3 : Addr) (a4 : Addr) (a5 : Addr) (k_a5 : ClassId) (l_a5 : List Value) (p8 : Int32) (k_a4 : ClassId) (l_a4 : List Value) (p11 : Int32) (h0 : Heap) (n0 : Nat) (O0 : Old Z n0 h0) (E_a1 : Exa Z h0 a1 "java/lang/StringBuilder") (F_coder_a1 : Fld Z h0 a1 "java/lang/AbstractStringBuilder" "coder" "B" (.int 0)) (E_a3 : Exa Z h0 a3 "java/lang/String") (F_coder_a3 : Fld Z h0 a3 "java/lang/String" "coder" "B" (.int 0)) (F_value_a1 : Fld Z h0 a1 "java/lang/AbstractStringBuilder" "value" "[B" (.ref a4)) (F_value_a3 : Fld Z h0 a3 "java/lang/String" "value" "[B" (.ref a5)) (V_a5 : Arv Z h0 a5 k_a5 .byte p8 (lid l_a5) (.int 0)) (E_a4 : Exa Z h0 a4 "[B") (V_a4 : Arv Z h0 a4 k_a4 .byte p11 (lid l_a4) (.int 0)) (g_a4 : n0 ≤ a4) (hs11 : ¬ ((p2 <<< ((0 : Int32) &&& 31))) < 0) (hs12 : ¬ (p8) < 0) (hs13 : ((0 : Int32)).toNatClampNeg + (p8).toNatClampNeg ≤ (p8).toNatClampNeg) (hs14 : ((p2 <<< ((0 : Int32) &&& 31))).toNatClampNeg + (p8).toNatClampNeg ≤ (p11).toNatClampNeg) (hs15 : ((p2 <<< ((0 : Int32) &&& 31))).toNatClampNeg + (p8).toNatClampNeg ≤ (l_a4).length) :
    MF l y23 (Jvm.Cond.code y23 jdk_68_method_73_code 3 none :: ws) ({ frames := 2, cells := 0, slots := 0, locals := 33 } : Room) Z #[(.ref a1), (.int p2), (.ref a3)] h0 (fun v h L => v = none ∧ Fr n0 L ∧ Keep h0 h [a4] ∧ Exa Z h a4 "[B" ∧ Arv Z h a4 k_a4 .byte p11 (lid (cpL l_a4 l_a5 (0 : Int32) (p2 <<< ((0 : Int32) &&& 31)) p8)) (.int 0)) := by
  refine mfB (plainFor_of_name pn_11) hw fun p e s m below meth c s₁ Bd Kz X0 e0 => ?_
  obtain ⟨hx, hby, hml, hZ, hown, -⟩ := id Kz
  have qz := And.intro hx hby
  have N0 := Fr.nil n0
  obtain ⟨_, T1, Lc1, X1, hQ1, st1⟩ := pB X0 Kz y21 0 108 109 111 110 112 65 (rm39 l Z a0 hw [] w_enc w_tb cs_v cl_tb wv_fm hp a1 a3 h0 n0 O0 F_coder_a1 E_a3 F_coder_a3) e0 E_a1 (mkF m 2 #[vr a1, vi p2, vr a3] [(.ref a3), (.ref a1)]) [(.ref a3)] [] pd_13 d17_2
  obtain ⟨rfl, Nq1, eq1⟩ := hQ1
  have N1 := Fr.app N0 Nq1
  obtain ⟨T2, X2, e2, st2⟩ := gF X1 Kz 69 eq1 F_value_a1 (mkF m 7 #[vr a1, vi p2, vr a3] [(.ref a1), (.ref a3)]) d17_7
  obtain ⟨T3, X3, e3, st3⟩ := gF X2 Kz 71 e2 F_coder_a1 (mkF m 12 #[vr a1, vi p2, vr a3] [(.ref a1), (.int p2), (.ref a4), (.ref a3)]) d17_12
  obtain ⟨_, T4, Lc4, X4, hQ4, st4⟩ := vS X3 Kz y22 0 114 115 117 116 118 12 (rm40 l Z a0 hw [] w_enc w_tb cs_v cl_tb wv_fm hp a3 a4 p2 a5 k_a5 l_a5 p8 k_a4 l_a4 p11 h0 n0 O0 E_a3 F_coder_a3 F_value_a3 V_a5 E_a4 V_a4 g_a4 hs11 hs12 hs13 hs14 hs15) e3 E_a3 (mkF m 15 #[vr a1, vi p2, vr a3] [(.int 0), (.int p2), (.ref a4), (.ref a3)]) [(.ref a4), (.int p2), (.int 0)] [] pd_14 d17_15
  obtain ⟨rfl, Nq4, Kq4, fq4_0, fq4_1⟩ := hQ4
  have N4 := Fr.app N1 Nq4
  have K4 : Keep h0 T4.heap [a4] := (Keep.refl h0 [a4]).trans Kq4 (allS (Or.inl (ma 0 rfl)) all0)
  refine mfE Bd X4 (none) rfl (fun _ => rfl) (ef_17_0 m a1 p2 a3) ⟨rfl, N4, K4, fq4_0, fq4_1⟩ fun fs hr => ?_
  refine aln X0 qz d17_0 ?_
  refine aln X0 qz d17_1 ?_
  refine st1.trans ?_
  refine aln X1 qz d17_5 ?_
  refine aln X1 qz d17_6 ?_
  refine st2 _ ?_
  refine iln X2 qz d17_10 ?_
  refine aln X2 qz d17_11 ?_
  refine st3 _ ?_
  refine st4.trans ?_
  exact X4.returnOut hx Bd.returns (hb hby d17_18) hr
theorem pd_15 : parseMethodDescriptor "(ILjava/lang/String;)V" = some ⟨[.int, (.object "java/lang/String")], none⟩ := by decide +kernel
theorem d13_33 : dk cb13 33 (.aload_n 0) 1 := by decide +kernel
theorem d13_34 : dk cb13 34 .dup 1 := by decide +kernel
theorem d13_35 : dk cb13 35 (.getfield 79) 3 := by decide +kernel
theorem d13_38 : dk cb13 38 (.iload_n 2) 1 := by decide +kernel
theorem d13_39 : dk cb13 39 .iadd 1 := by decide +kernel
theorem d13_40 : dk cb13 40 (.putfield 79) 3 := by decide +kernel
theorem d13_43 : dk cb13 43 (.aload_n 0) 1 := by decide +kernel
theorem d13_44 : dk cb13 44 .areturn 1 := by decide +kernel
theorem sn12 {Z : State} {a0 : Array Value} (hw : ∀ d ∈ tables_1, d.before a0 Z = true) : Jvm.RoadKit.slotOf Z "java/lang/AbstractStringBuilder" "coder" "B" ≠ Jvm.RoadKit.slotOf Z "java/lang/AbstractStringBuilder" "count" "I" := slot_ne (Or.inl (wq hw 72 rfl)) (Or.inl (wq hw 97 rfl)) (by decide) (t := .byte) (t' := .int) (by decide) (by decide)
theorem sn13 {Z : State} {a0 : Array Value} (hw : ∀ d ∈ tables_1, d.before a0 Z = true) : Jvm.RoadKit.slotOf Z "java/lang/AbstractStringBuilder" "value" "[B" ≠ Jvm.RoadKit.slotOf Z "java/lang/AbstractStringBuilder" "count" "I" := slot_ne (Or.inl (wq hw 70 rfl)) (Or.inl (wq hw 97 rfl)) (by decide) (t := (.array .byte)) (t' := .int) (by decide) (by decide)
abbrev y24 : MethodName := (⟨"java/lang/AbstractStringBuilder", "append", "(Ljava/lang/String;)Ljava/lang/AbstractStringBuilder;"⟩ : MethodName)
theorem ef_13_0 (m : MethodId) (x0 : Addr) (x1 : Addr) : entryFrame m #[(.ref x0), (.ref x1)] 3 = mkF m 0 #[.val (.ref x0), .val (.ref x1), .unset] [] := by first | (simp [entryFrame, mkF, argsToLocals, Value.category]; done) | rfl
theorem rm42 (l : Launch) (Z : State) (a0 : Array Value) (hw : HW Z a0) (ws : List Jvm.Cond) (w_enc w_tb : Addr) (cs_v : Int32) (cl_tb : Cell) (wv_fm : Value) (hp : Perm Z w_enc w_tb cs_v cl_tb wv_fm) (a1 : Addr) (a2 : Addr) (a3 : Addr) (k_a3 : ClassId) (l_a3 : List Value) (p6 : Int32) (p7 : Int32) (a8 : Addr) (k_a8 : ClassId) (l_a8 : List Value) (p11 : Int32) (h0 : Heap) (n0 : Nat) (O0 : Old Z n0 h0) (E_a2 : Exa Z h0 a2 "java/lang/String") (F_value_a2 : Fld Z h0 a2 "java/lang/String" "value" "[B" (.ref a3)) (V_a3 : Arv Z h0 a3 k_a3 .byte p6 (lid l_a3) (.int 0)) (F_coder_a2 : Fld Z h0 a2 "java/lang/String" "coder" "B" (.int 0)) (F_count_a1 : Fld Z h0 a1 "java/lang/AbstractStringBuilder" "count" "I" (.int p7)) (E_a1 : Exa Z h0 a1 "java/lang/StringBuilder") (F_value_a1 : Fld Z h0 a1 "java/lang/AbstractStringBuilder" "value" "[B" (.ref a8)) (V_a8 : Arv Z h0 a8 k_a8 .byte p11 (lid l_a8) (.int 0)) (F_coder_a1 : Fld Z h0 a1 "java/lang/AbstractStringBuilder" "coder" "B" (.int 0)) (hc10 : ¬ ((0 : Int32) < ((p7 + (p6 >>> ((0 : Int32) &&& 31))) - (p11 >>> ((0 : Int32) &&& 31))))) (E_a8 : Exa Z h0 a8 "[B") (g_a8 : n0 ≤ a8) (hs13 : ¬ ((p7 <<< ((0 : Int32) &&& 31))) < 0) (hs14 : ¬ (p6) < 0) (hs15 : ((0 : Int32)).toNatClampNeg + (p6).toNatClampNeg ≤ (p6).toNatClampNeg) (hs16 : ((p7 <<< ((0 : Int32) &&& 31))).toNatClampNeg + (p6).toNatClampNeg ≤ (p11).toNatClampNeg) (hs17 : ((p7 <<< ((0 : Int32) &&& 31))).toNatClampNeg + (p6).toNatClampNeg ≤ (l_a8).length) (ne_a1_a8 : a1 ≠ a8) (g_a1 : n0 ≤ a1) :
    MF l y24 (Jvm.Cond.code y24 jdk_68_method_22_code 3 (some (.object "java/lang/AbstractStringBuilder")) :: ws) ({ frames := 3, cells := 0, slots := 0, locals := 47 } : Room) Z #[(.ref a1), (.ref a2)] h0 (fun v h L => v = some (.ref a1) ∧ Fr n0 L ∧ Keep h0 h [a8, a1] ∧ Exa Z h a8 "[B" ∧ Arv Z h a8 k_a8 .byte p11 (lid (cpL l_a8 l_a3 (0 : Int32) (p7 <<< ((0 : Int32) &&& 31)) p6)) (.int 0) ∧ Exa Z h a1 "java/lang/StringBuilder" ∧ Fld Z h a1 "java/lang/AbstractStringBuilder" "coder" "B" (.int 0) ∧ Fld Z h a1 "java/lang/AbstractStringBuilder" "count" "I" (.int (p7 + (p6 >>> ((0 : Int32) &&& 31)))) ∧ Fld Z h a1 "java/lang/AbstractStringBuilder" "value" "[B" (.ref a8)) := by
  refine mfB (plainFor_of_name pn_11) hw fun p e s m below meth c s₁ Bd Kz X0 e0 => ?_
  obtain ⟨hx, hby, hml, hZ, hown, -⟩ := id Kz
  have qz := And.intro hx hby
  have N0 := Fr.nil n0
  obtain ⟨_, T1, Lc1, X1, hQ1, st1⟩ := vS X0 Kz y19 0 86 87 89 88 90 12 (rm37 l Z a0 hw [] w_enc w_tb cs_v cl_tb wv_fm hp a2 a3 k_a3 l_a3 p6 h0 n0 O0 F_value_a2 V_a3 E_a2 F_coder_a2) e0 E_a2 (mkF m 10 #[vr a1, vr a2, uu] [(.ref a2)]) [] [] pd_12 d13_10
  obtain ⟨rfl, Nq1, eq1⟩ := hQ1
  have N1 := Fr.app N0 Nq1
  obtain ⟨T2, X2, e2, st2⟩ := gF X1 Kz 96 eq1 F_count_a1 (mkF m 16 #[vr a1, vr a2, vi (fx49 p6)] [(.ref a1), (.ref a1)]) d13_16
  obtain ⟨_, T3, Lc3, X3, hQ3, st3⟩ := pB X2 Kz y20 0 98 99 101 100 102 65 (rm38 l Z a0 hw [] w_enc w_tb cs_v cl_tb wv_fm hp a1 (p7 + (p6 >>> ((0 : Int32) &&& 31))) a8 k_a8 l_a8 p11 h0 n0 O0 F_value_a1 V_a8 F_coder_a1 hc10) e2 E_a1 (mkF m 21 #[vr a1, vr a2, vi (fx49 p6)] [(.int (fx50 p7 p6)), (.ref a1)]) [(.int (fx50 p7 p6))] [] pd_10 d13_21
  obtain ⟨rfl, Nq3, eq3⟩ := hQ3
  have N3 := Fr.app N1 Nq3
  obtain ⟨T4, X4, e4, st4⟩ := gF X3 Kz 96 eq3 F_count_a1 (mkF m 26 #[vr a1, vr a2, vi (fx49 p6)] [(.ref a1), (.ref a1)]) d13_26
  obtain ⟨_, T5, Lc5, X5, hQ5, st5⟩ := pB X4 Kz y23 0 103 104 106 105 107 65 (rm41 l Z a0 hw [] w_enc w_tb cs_v cl_tb wv_fm hp a1 p7 a2 a8 a3 k_a3 l_a3 p6 k_a8 l_a8 p11 h0 n0 O0 E_a1 F_coder_a1 E_a2 F_coder_a2 F_value_a1 F_value_a2 V_a3 E_a8 V_a8 g_a8 hs13 hs14 hs15 hs16 hs17) e4 E_a1 (mkF m 30 #[vr a1, vr a2, vi (fx49 p6)] [(.ref a2), (.int p7), (.ref a1)]) [(.int p7), (.ref a2)] [] pd_15 d13_30
  obtain ⟨rfl, Nq5, Kq5, fq5_0, fq5_1⟩ := hQ5
  have N5 := Fr.app N3 Nq5
  have K5 : Keep h0 T5.heap [a8, a1] := (Keep.refl h0 [a8, a1]).trans Kq5 (allS (Or.inl (ma 0 rfl)) all0)
  obtain ⟨T6, X6, e6, st6⟩ := gF X5 Kz 96 rfl (F_count_a1.keep Kq5 (ninS ne_a1_a8 nin0)) (mkF m 35 #[vr a1, vr a2, vi (fx49 p6)] [(.ref a1), (.ref a1)]) d13_35
  obtain ⟨T7, h7, X7, e7, W7, st7⟩ := putF X6 hx hZ hown (host := "") (Or.inl (wq hw 96 rfl)) Via.refl e6 (F_count_a1.keep Kq5 (ninS ne_a1_a8 nin0)) (E_a1.keep Kq5) (Or.inl (wq hw 97 rfl)) (wq hw 56 rfl) (ty := .int) (by decide) rfl rfl (g := (mkF m 40 #[vr a1, vr a2, vi (fx49 p6)] [(.int (fx50 p7 p6)), (.ref a1)])) rfl rfl (hb hby d13_40)
  have N7 := Fr.snoc X7 N5 g_a1
  have K7 : Keep h0 h7 [a8, a1] := K5.wr W7 (Or.inl (ma 1 rfl))
  have Fw7 := (F_count_a1.keep Kq5 (ninS ne_a1_a8 nin0)).same W7
  have f_8 := ((F_coder_a1.keep Kq5 (ninS ne_a1_a8 nin0)).other W7 (Or.inr (sn12 hw)))
  have f_9 := ((F_value_a1.keep Kq5 (ninS ne_a1_a8 nin0)).other W7 (Or.inr (sn13 hw)))
  refine mfE Bd X7 (some (.ref a1)) e7 (fun h => by rw [Bd.returns] at h; cases h) (ef_13_0 m a1 a2) ⟨rfl, N7, K7, (fq5_0.wr W7), (fq5_1.other W7 (Ne.symm ne_a1_a8)), ((E_a1.keep Kq5).wr W7), f_8, Fw7, f_9⟩ fun fs hr => ?_
  refine aln X0 qz d13_0 ?_
  refine XS.ifnonnullYes X0.here hx rfl (pc0 := 1) (pc' := 9) rfl (hb hby d13_1) rfl (by decide) (by decide) ?_
  refine aln X0 qz d13_9 ?_
  refine st1.trans ?_
  refine stn X1 qz d13_13 #[vr a1, vr a2, vi (fx49 p6)] ?_
  refine aln X1 qz d13_14 ?_
  refine aln X1 qz d13_15 ?_
  refine st2 _ ?_
  refine iln X2 qz d13_19 ?_
  refine wia X2 qz d13_20 ?_
  refine st3.trans ?_
  refine aln X3 qz d13_24 ?_
  refine aln X3 qz d13_25 ?_
  refine st4 _ ?_
  refine aln X4 qz d13_29 ?_
  refine st5.trans ?_
  show Sp p e below T5 (mkF m 33 #[vr a1, vr a2, vi (fx49 p6)] []) _
  refine aln X5 qz d13_33 ?_
  refine XS.dup X5.here hx rfl (hb hby d13_34) rfl rfl ?_
  refine st6 _ ?_
  refine iln X6 qz d13_38 ?_
  refine wia X6 qz d13_39 ?_
  refine st7 _ ?_
  refine aln X7 qz d13_43 ?_
  jvm_step X7.here [X7.here.top, hx, (hb hby d13_44), X7.method', Bd.returns, Value.isRef, FieldType.isReference]
  first | (intro acts; rw [hr _ acts rfl rfl rfl]) | rw [hr _ _ rfl rfl rfl]
  exact Steps.refl _
theorem pd_16 : parseMethodDescriptor "(Ljava/lang/String;)Ljava/lang/AbstractStringBuilder;" = some ⟨[(.object "java/lang/String")], some (.object "java/lang/AbstractStringBuilder")⟩ := by decide +kernel
theorem d12_5 : dk cb12 5 .pop 1 := by decide +kernel
theorem d12_6 : dk cb12 6 (.aload_n 0) 1 := by decide +kernel
theorem d12_7 : dk cb12 7 .areturn 1 := by decide +kernel
abbrev y25 : MethodName := (⟨"java/lang/StringBuilder", "append", "(Ljava/lang/String;)Ljava/lang/StringBuilder;"⟩ : MethodName)
theorem ef_12_0 (m : MethodId) (x0 : Addr) (x1 : Addr) : entryFrame m #[(.ref x0), (.ref x1)] 2 = mkF m 0 #[.val (.ref x0), .val (.ref x1)] [] := by first | (simp [entryFrame, mkF, argsToLocals, Value.category]; done) | rfl
theorem rm43 (l : Launch) (Z : State) (a0 : Array Value) (hw : HW Z a0) (ws : List Jvm.Cond) (w_enc w_tb : Addr) (cs_v : Int32) (cl_tb : Cell) (wv_fm : Value) (hp : Perm Z w_enc w_tb cs_v cl_tb wv_fm) (a1 : Addr) (a2 : Addr) (a3 : Addr) (k_a3 : ClassId) (l_a3 : List Value) (p6 : Int32) (p7 : Int32) (a8 : Addr) (k_a8 : ClassId) (l_a8 : List Value) (p11 : Int32) (h0 : Heap) (n0 : Nat) (O0 : Old Z n0 h0) (E_a2 : Exa Z h0 a2 "java/lang/String") (F_value_a2 : Fld Z h0 a2 "java/lang/String" "value" "[B" (.ref a3)) (V_a3 : Arv Z h0 a3 k_a3 .byte p6 (lid l_a3) (.int 0)) (F_coder_a2 : Fld Z h0 a2 "java/lang/String" "coder" "B" (.int 0)) (F_count_a1 : Fld Z h0 a1 "java/lang/AbstractStringBuilder" "count" "I" (.int p7)) (E_a1 : Exa Z h0 a1 "java/lang/StringBuilder") (F_value_a1 : Fld Z h0 a1 "java/lang/AbstractStringBuilder" "value" "[B" (.ref a8)) (V_a8 : Arv Z h0 a8 k_a8 .byte p11 (lid l_a8) (.int 0)) (F_coder_a1 : Fld Z h0 a1 "java/lang/AbstractStringBuilder" "coder" "B" (.int 0)) (hc10 : ¬ ((0 : Int32) < ((p7 + (p6 >>> ((0 : Int32) &&& 31))) - (p11 >>> ((0 : Int32) &&& 31))))) (E_a8 : Exa Z h0 a8 "[B") (g_a8 : n0 ≤ a8) (hs13 : ¬ ((p7 <<< ((0 : Int32) &&& 31))) < 0) (hs14 : ¬ (p6) < 0) (hs15 : ((0 : Int32)).toNatClampNeg + (p6).toNatClampNeg ≤ (p6).toNatClampNeg) (hs16 : ((p7 <<< ((0 : Int32) &&& 31))).toNatClampNeg + (p6).toNatClampNeg ≤ (p11).toNatClampNeg) (hs17 : ((p7 <<< ((0 : Int32) &&& 31))).toNatClampNeg + (p6).toNatClampNeg ≤ (l_a8).length) (ne_a1_a8 : a1 ≠ a8) (g_a1 : n0 ≤ a1) :
    MF l y25 (Jvm.Cond.code y25 jdk_67_method_7_code 2 (some (.object "java/lang/StringBuilder")) :: ws) ({ frames := 4, cells := 0, slots := 0, locals := 61 } : Room) Z #[(.ref a1), (.ref a2)] h0 (fun v h L => v = some (.ref a1) ∧ Fr n0 L ∧ Keep h0 h [a8, a1] ∧ Exa Z h a8 "[B" ∧ Arv Z h a8 k_a8 .byte p11 (lid (cpL l_a8 l_a3 (0 : Int32) (p7 <<< ((0 : Int32) &&& 31)) p6)) (.int 0) ∧ Exa Z h a1 "java/lang/StringBuilder" ∧ Fld Z h a1 "java/lang/AbstractStringBuilder" "coder" "B" (.int 0) ∧ Fld Z h a1 "java/lang/AbstractStringBuilder" "count" "I" (.int (p7 + (p6 >>> ((0 : Int32) &&& 31)))) ∧ Fld Z h a1 "java/lang/AbstractStringBuilder" "value" "[B" (.ref a8)) := by
  refine mfB (plainFor_of_name pn_10) hw fun p e s m below meth c s₁ Bd Kz X0 e0 => ?_
  obtain ⟨hx, hby, hml, hZ, hown, -⟩ := id Kz
  have qz := And.intro hx hby
  have N0 := Fr.nil n0
  obtain ⟨_, T1, Lc1, X1, hQ1, st1⟩ := uB X0 Kz y24 0 81 82 83 85 65 (rm42 l Z a0 hw [] w_enc w_tb cs_v cl_tb wv_fm hp a1 a2 a3 k_a3 l_a3 p6 p7 a8 k_a8 l_a8 p11 h0 n0 O0 E_a2 F_value_a2 V_a3 F_coder_a2 F_count_a1 E_a1 F_value_a1 V_a8 F_coder_a1 hc10 E_a8 g_a8 hs13 hs14 hs15 hs16 hs17 ne_a1_a8 g_a1) e0 E_a1 (own_same (wq hw 101 rfl) rfl (wq hw 82 rfl) (by decide)) (mkF m 2 #[vr a1, vr a2] [(.ref a2), (.ref a1)]) [(.ref a2)] [] pd_16 d12_2
  obtain ⟨rfl, Nq1, Kq1, fq1_0, fq1_1, fq1_2, fq1_3, fq1_4, fq1_5⟩ := hQ1
  have N1 := Fr.app N0 Nq1
  have K1 : Keep h0 T1.heap [a8, a1] := (Keep.refl h0 [a8, a1]).trans Kq1 (allS (Or.inl (ma 0 rfl)) (allS (Or.inl (ma 1 rfl)) all0))
  refine mfE Bd X1 (some (.ref a1)) rfl (fun h => by rw [Bd.returns] at h; cases h) (ef_12_0 m a1 a2) ⟨rfl, N1, K1, fq1_0, fq1_1, fq1_2, fq1_3, fq1_4, fq1_5⟩ fun fs hr => ?_
  refine aln X0 qz d12_0 ?_
  refine aln X0 qz d12_1 ?_
  refine st1.trans ?_
  refine XS.pop X1.here hx rfl (hb hby d12_5) rfl rfl ?_
  refine aln X1 qz d12_6 ?_
  jvm_step X1.here [X1.here.top, hx, (hb hby d12_7), X1.method', Bd.returns, Value.isRef, FieldType.isReference]
  first | (intro acts; rw [hr _ acts rfl rfl rfl]) | rw [hr _ _ rfl rfl rfl]
  exact Steps.refl _
theorem pd_17 : parseMethodDescriptor "(Ljava/lang/String;)Ljava/lang/StringBuilder;" = some ⟨[(.object "java/lang/String")], some (.object "java/lang/StringBuilder")⟩ := by decide +kernel
theorem d9_12 : dk cb9 12 (.aload_n 0) 1 := by decide +kernel
theorem d9_13 : dk cb9 13 (.getfield 7) 3 := by decide +kernel
theorem d9_16 : dk cb9 16 (.invokevirtual 25) 3 := by decide +kernel
theorem d9_19 : dk cb9 19 (.ldc 29) 2 := by decide +kernel
theorem d9_21 : dk cb9 21 (.invokevirtual 25) 3 := by decide +kernel
theorem d9_24 : dk cb9 24 (.aload_n 0) 1 := by decide +kernel
theorem d9_25 : dk cb9 25 (.getfield 13) 3 := by decide +kernel
theorem d9_28 : dk cb9 28 (.invokevirtual 25) 3 := by decide +kernel
theorem d9_31 : dk cb9 31 (.ldc 31) 2 := by decide +kernel
theorem d9_33 : dk cb9 33 (.invokevirtual 25) 3 := by decide +kernel
theorem d9_36 : dk cb9 36 (.invokestatic 33) 3 := by decide +kernel
abbrev cb20 : ByteArray := jdk_2448_method_2_code
theorem d20_0 : dk cb20 0 (.getstatic 7) 3 := by decide +kernel
theorem d20_3 : dk cb20 3 .areturn 1 := by decide +kernel
abbrev y26 : MethodName := (⟨"java/util/Base64", "getEncoder", "()Ljava/util/Base64$Encoder;"⟩ : MethodName)
theorem ef_20_0 (m : MethodId)  : entryFrame m #[] 0 = mkF m 0 #[] [] := by first | (simp [entryFrame, mkF, argsToLocals, Value.category]; done) | rfl
theorem pn_20 : plainName "java/util/Base64" = true := by first | (simp [plainName, overriddenIn]; done) | decide +kernel
theorem rm44 (l : Launch) (Z : State) (a0 : Array Value) (hw : HW Z a0) (ws : List Jvm.Cond) (w_enc w_tb : Addr) (cs_v : Int32) (cl_tb : Cell) (wv_fm : Value) (hp : Perm Z w_enc w_tb cs_v cl_tb wv_fm) (h0 : Heap) (n0 : Nat) (O0 : Old Z n0 h0) :
    MF l y26 (Jvm.Cond.code y26 jdk_2448_method_2_code 0 (some (.object "java/util/Base64$Encoder")) :: ws) ({ frames := 0, cells := 0, slots := 0, locals := 0 } : Room) Z #[] h0 (fun v h L => v = some (.ref w_enc) ∧ Fr n0 L ∧ h = h0) := by
  refine mfB (plainFor_of_name pn_20) hw fun p e s m below meth c s₁ Bd Kz X0 e0 => ?_
  obtain ⟨hx, hby, hml, hZ, hown, -⟩ := id Kz
  have qz := And.intro hx hby
  have N0 := Fr.nil n0
  obtain ⟨_, _, S_w_enc, _⟩ := id hp
  obtain ⟨T1, X1, e1, st1⟩ := getS2 X0 hx hZ hown (host := "") (Or.inl (wq hw 129 rfl)) Via.refl e0 (S_w_enc.ext O0.2) (g := (mkF m 0 #[] [])) rfl (hb hby d20_0)
  refine mfE Bd X1 (some (.ref w_enc)) e1 (fun h => by rw [Bd.returns] at h; cases h) (ef_20_0 m ) ⟨rfl, N0, rfl⟩ fun fs hr => ?_
  refine st1 _ ?_
  jvm_step X1.here [X1.here.top, hx, (hb hby d20_3), X1.method', Bd.returns, Value.isRef, FieldType.isReference]
  first | (intro acts; rw [hr _ acts rfl rfl rfl]) | rw [hr _ _ rfl rfl rfl]
  exact Steps.refl _
theorem pd_18 : parseMethodDescriptor "()Ljava/util/Base64$Encoder;" = some ⟨[], some (.object "java/util/Base64$Encoder")⟩ := by decide +kernel
theorem d9_39 : dk cb9 39 (.aload_n 0) 1 := by decide +kernel
theorem d9_40 : dk cb9 40 (.getfield 16) 3 := by decide +kernel
theorem d9_43 : dk cb9 43 (.invokevirtual 39) 3 := by decide +kernel
abbrev cb21 : ByteArray := jdk_2452_method_5_code
theorem d21_0 : dk cb21 0 (.aload_n 0) 1 := by decide +kernel
theorem d21_1 : dk cb21 1 (.aload_n 1) 1 := by decide +kernel
theorem d21_2 : dk cb21 2 (.invokevirtual 61) 3 := by decide +kernel
abbrev cb22 : ByteArray := jdk_2452_method_3_code
theorem d22_0 : dk cb22 0 (.aload_n 0) 1 := by decide +kernel
theorem d22_1 : dk cb22 1 (.aload_n 1) 1 := by decide +kernel
theorem d22_2 : dk cb22 2 .arraylength 1 := by decide +kernel
theorem d22_3 : dk cb22 3 (.iconst 1) 1 := by decide +kernel
theorem d22_4 : dk cb22 4 (.invokevirtual 42) 3 := by decide +kernel
theorem pd_19 : parseMethodDescriptor "(IZ)I" = some ⟨[.int, .boolean], some .int⟩ := by decide +kernel
theorem d22_7 : dk cb22 7 (.istore_n 2) 1 := by decide +kernel
theorem d22_8 : dk cb22 8 (.iload_n 2) 1 := by decide +kernel
theorem d22_9 : dk cb22 9 (.newarray .byte) 2 := by decide +kernel
theorem d22_11 : dk cb22 11 (.astore_n 3) 1 := by decide +kernel
theorem d22_12 : dk cb22 12 (.aload_n 0) 1 := by decide +kernel
theorem d22_13 : dk cb22 13 (.aload_n 1) 1 := by decide +kernel
theorem d22_14 : dk cb22 14 (.iconst 0) 1 := by decide +kernel
theorem d22_15 : dk cb22 15 (.aload_n 1) 1 := by decide +kernel
theorem d22_16 : dk cb22 16 .arraylength 1 := by decide +kernel
theorem d22_17 : dk cb22 17 (.aload_n 3) 1 := by decide +kernel
theorem d22_18 : dk cb22 18 (.invokevirtual 46) 3 := by decide +kernel
theorem pd_20 : parseMethodDescriptor "([BII[B)I" = some ⟨[(.array .byte), .int, .int, (.array .byte)], some .int⟩ := by decide +kernel
theorem d22_21 : dk cb22 21 (.istore 4) 2 := by decide +kernel
theorem d22_23 : dk cb22 23 (.iload 4) 2 := by decide +kernel
theorem d22_25 : dk cb22 25 (.aload_n 3) 1 := by decide +kernel
theorem d22_26 : dk cb22 26 .arraylength 1 := by decide +kernel
theorem d22_27 : dk cb22 27 (.if_icmp .eq 10) 3 := by decide +kernel
theorem d22_37 : dk cb22 37 (.aload_n 3) 1 := by decide +kernel
theorem d22_38 : dk cb22 38 .areturn 1 := by decide +kernel
abbrev y27 : MethodName := (⟨"java/util/Base64$Encoder", "encode", "([B)[B"⟩ : MethodName)
theorem ef_22_0 (m : MethodId) (x0 : Addr) (x1 : Addr) : entryFrame m #[(.ref x0), (.ref x1)] 5 = mkF m 0 #[.val (.ref x0), .val (.ref x1), .unset, .unset, .unset] [] := by first | (simp [entryFrame, mkF, argsToLocals, Value.category]; done) | rfl
theorem rm45 (l : Launch) (Z : State) (a0 : Array Value) (hw : HW Z a0) (ws : List Jvm.Cond) (w_enc w_tb : Addr) (cs_v : Int32) (cl_tb : Cell) (wv_fm : Value) (hp : Perm Z w_enc w_tb cs_v cl_tb wv_fm) (a1 : Addr) (k_a1 : ClassId) (l_a1 : List Value) (p4 : Int32) (h0 : Heap) (n0 : Nat) (O0 : Old Z n0 h0) (V_a1 : Arv Z h0 a1 k_a1 .byte p4 (lid l_a1) (.int 0)) (hs2 : 0 ≤ (p4).toInt ∧ (p4).toInt < 7) (hs3 : ¬ ((eoL p4)) < 0) (hs4 : ((eoL p4)).toNatClampNeg ≤ 40) (E_a1 : Exa Z h0 a1 "[B") (hs6 : EncIn p4 l_a1) :
    MF l y27 (Jvm.Cond.code y27 jdk_2452_method_3_code 5 (some (.array .byte)) :: ws) ({ frames := 2, cells := 1, slots := 40, locals := 49 } : Room) Z #[(.ref w_enc), (.ref a1)] h0 (fun v h L => ∃ (b3 : Addr), ∃ (k3 : ClassId), v = some (.ref b3) ∧ Fr n0 L ∧ Keep h0 h [] ∧ h0.size ≤ b3 ∧ Exa Z h b3 "[B" ∧ Arv Z h b3 k3 .byte (eoL p4) (lid (encL l_a1)) (.int 0)) := by
  refine mfB (plainFor_of_name pn_23) hw fun p e s m below meth c s₁ Bd Kz X0 e0 => ?_
  obtain ⟨hx, hby, hml, hZ, hown, -⟩ := id Kz
  have qz := And.intro hx hby
  have N0 := Fr.nil n0
  obtain ⟨_, _, _, E_w_enc, _⟩ := id hp
  obtain ⟨_, T2, Lc2, X2, hQ2, st2⟩ := pW X0 Kz y4 0 141 142 144 143 145 130 (rmEOL l Z a0 hw [] w_enc w_tb cs_v cl_tb wv_fm hp p4 h0 n0 O0 hs2) e0 (E_w_enc.ext O0.2) (mkF m 4 #[vr w_enc, vr a1, uu, uu, uu] [(.int 1), (.int p4), (.ref w_enc)]) [(.int p4), (.int 1)] [] pd_19 d22_4
  obtain ⟨rfl, Nq2, eq2⟩ := hQ2
  have N2 := Fr.app N0 Nq2
  obtain ⟨T3, h3, k3, X3, e3, E3, A3, EA3, st3⟩ := newPE X2 hx hZ (wq hw 6 rfl) eq2 (g := (mkF m 9 #[vr w_enc, vr a1, vi (eoL p4), uu, uu] [(.int (eoL p4))])) rfl (hb hby d22_9) rfl hs3 (cap := 40) hs4 (by decide) (by decide) (by decide) (ad := "[B") (by decide)
  obtain ⟨b3, g3⟩ : ∃ z, z = h0.size := ⟨_, rfl⟩
  rw [← g3] at A3 EA3 st3
  have g_b3 : n0 ≤ b3 := Nat.le_trans (own_sz O0) (Nat.le_of_eq g3.symm)
  have sz_b3 : h0.size ≤ b3 := Nat.le_trans (Keep.refl h0 []).1 (Nat.le_of_eq g3.symm)
  have O3 := O0.ext E3
  have K3 : Keep h0 h3 [] := (Keep.refl h0 []).ext E3
  have V_b3 : Arv Z h3 b3 k3 .byte (eoL p4) (lid (repL (eoL p4))) (.int 0) := (Arv.new A3 hs3).pad (pad_rep [] (.int 0) _)
  have nz0 : a1 ≠ b3 := (Nat.ne_of_lt (Nat.lt_of_lt_of_le E_a1.lt sz_b3))
  obtain ⟨_, T5, Lc5, X5, hQ5, st5⟩ := pB X3 Kz y5 0 157 158 160 159 161 130 (rmEN0 l Z a0 hw [] w_enc w_tb cs_v cl_tb wv_fm hp a1 b3 k_a1 k3 p4 l_a1 h3 n0 O3 nz0 g_b3 (E_a1.ext E3) EA3 (V_a1.ext E3) V_b3 hs6) e3 (E_w_enc.ext O3.2) (mkF m 18 #[vr w_enc, vr a1, vi (eoL p4), vr b3, uu] [(.ref b3), (.int p4), (.int 0), (.ref a1), (.ref w_enc)]) [(.ref a1), (.int 0), (.int p4), (.ref b3)] [] pd_20 d22_18
  obtain ⟨rfl, Nq5, Kq5, fq5_0, fq5_1⟩ := hQ5
  have N5 := Fr.app N2 Nq5
  have K5 : Keep h0 T5.heap [] := K3.trans Kq5 (allS (Or.inr sz_b3) all0)
  refine mfE Bd X5 (some (.ref b3)) rfl (fun h => by rw [Bd.returns] at h; cases h) (ef_22_0 m w_enc a1) ⟨b3, k3, rfl, N5, K5, sz_b3, fq5_0, fq5_1⟩ fun fs hr => ?_
  refine aln X0 qz d22_0 ?_
  refine aln X0 qz d22_1 ?_
  refine aL X0 Kz e0 V_a1 d22_2 ?_
  refine ic X0 qz d22_3 ?_
  refine st2.trans ?_
  refine stn X2 qz d22_7 #[vr w_enc, vr a1, vi (eoL p4), uu, uu] ?_
  refine iln X2 qz d22_8 ?_
  refine st3 _ ?_
  refine san X3 qz d22_11 #[vr w_enc, vr a1, vi (eoL p4), vr b3, uu] ?_
  refine aln X3 qz d22_12 ?_
  refine aln X3 qz d22_13 ?_
  refine ic X3 qz d22_14 ?_
  refine aln X3 qz d22_15 ?_
  refine aL X3 Kz e3 (V_a1.ext E3) d22_16 ?_
  refine aln X3 qz d22_17 ?_
  refine st5.trans ?_
  show Sp p e below T5 (mkF m 21 #[vr w_enc, vr a1, vi (eoL p4), vr b3, uu] [(.int (eoL p4))]) _
  refine st X5 qz d22_21 #[vr w_enc, vr a1, vi (eoL p4), vr b3, vi (eoL p4)] ?_
  refine il X5 qz d22_23 ?_
  refine aln X5 qz d22_25 ?_
  refine aL X5 Kz rfl fq5_1 d22_26 ?_
  refine icY X5 qz 27 37 d22_27 (teq (rfl : (eoL p4) = (eoL p4))).1 ?_
  refine aln X5 qz d22_37 ?_
  jvm_step X5.here [X5.here.top, hx, (hb hby d22_38), X5.method', Bd.returns, Value.isRef, FieldType.isReference]
  first | (intro acts; rw [hr _ acts rfl rfl rfl]) | rw [hr _ _ rfl rfl rfl]
  exact Steps.refl _
theorem pd_21 : parseMethodDescriptor "([B)[B" = some ⟨[(.array .byte)], some (.array .byte)⟩ := by decide +kernel
theorem d21_5 : dk cb21 5 (.astore_n 2) 1 := by decide +kernel
theorem d21_6 : dk cb21 6 (.new 65) 3 := by decide +kernel
theorem d21_9 : dk cb21 9 .dup 1 := by decide +kernel
theorem d21_10 : dk cb21 10 (.aload_n 2) 1 := by decide +kernel
theorem d21_11 : dk cb21 11 (.iconst 0) 1 := by decide +kernel
theorem d21_12 : dk cb21 12 (.iconst 0) 1 := by decide +kernel
theorem d21_13 : dk cb21 13 (.aload_n 2) 1 := by decide +kernel
theorem d21_14 : dk cb21 14 .arraylength 1 := by decide +kernel
theorem d21_15 : dk cb21 15 (.invokespecial 67) 3 := by decide +kernel
abbrev cb27 : ByteArray := jdk_42_method_7_code
theorem d27_0 : dk cb27 0 (.aload_n 0) 1 := by decide +kernel
theorem d27_1 : dk cb27 1 (.invokespecial 1) 3 := by decide +kernel
theorem d27_4 : dk cb27 4 (.iload_n 3) 1 := by decide +kernel
theorem d27_5 : dk cb27 5 (.iload 4) 2 := by decide +kernel
theorem d27_7 : dk cb27 7 (.aload_n 1) 1 := by decide +kernel
theorem d27_8 : dk cb27 8 .arraylength 1 := by decide +kernel
theorem d27_9 : dk cb27 9 (.invokestatic 34) 3 := by decide +kernel
abbrev cb28 : ByteArray := jdk_42_method_157_code
theorem d28_0 : dk cb28 0 (.iload_n 0) 1 := by decide +kernel
theorem d28_1 : dk cb28 1 (.iload_n 1) 1 := by decide +kernel
theorem d28_2 : dk cb28 2 (.iload_n 2) 1 := by decide +kernel
theorem d28_3 : dk cb28 3 (.getstatic 1053) 3 := by decide +kernel
theorem d28_6 : dk cb28 6 (.invokestatic 1065) 3 := by decide +kernel
abbrev cb29 : ByteArray := jdk_41_method_13_code
theorem d29_0 : dk cb29 0 (.iload_n 2) 1 := by decide +kernel
theorem d29_1 : dk cb29 1 (.iload_n 0) 1 := by decide +kernel
theorem d29_2 : dk cb29 2 .ior 1 := by decide +kernel
theorem d29_3 : dk cb29 3 (.iload_n 1) 1 := by decide +kernel
theorem d29_4 : dk cb29 4 .ior 1 := by decide +kernel
theorem d29_5 : dk cb29 5 (.ifCond .lt 10) 3 := by decide +kernel
theorem d29_8 : dk cb29 8 (.iload_n 1) 1 := by decide +kernel
theorem d29_9 : dk cb29 9 (.iload_n 2) 1 := by decide +kernel
theorem d29_10 : dk cb29 10 (.iload_n 0) 1 := by decide +kernel
theorem d29_11 : dk cb29 11 .isub 1 := by decide +kernel
theorem d29_12 : dk cb29 12 (.if_icmp .le 11) 3 := by decide +kernel
theorem d29_23 : dk cb29 23 (.iload_n 0) 1 := by decide +kernel
theorem d29_24 : dk cb29 24 .ireturn 1 := by decide +kernel
abbrev y28 : MethodName := (⟨"jdk/internal/util/Preconditions", "checkFromIndexSize", "(IIILjava/util/function/BiFunction;)I"⟩ : MethodName)
theorem ef_29_0 (m : MethodId) (x0 : Int32) (x1 : Int32) (x2 : Int32) (x3 : Value) (hx3 : x3.isRef = true) : entryFrame m #[(.int x0), (.int x1), (.int x2), x3] 4 = mkF m 0 #[.val (.int x0), .val (.int x1), .val (.int x2), .val x3] [] := by
  cases x3 <;> first | rfl | cases hx3
theorem pn_29 : plainName "jdk/internal/util/Preconditions" = true := by first | (simp [plainName, overriddenIn]; done) | decide +kernel
theorem rm46 (l : Launch) (Z : State) (a0 : Array Value) (hw : HW Z a0) (ws : List Jvm.Cond) (w_enc w_tb : Addr) (cs_v : Int32) (cl_tb : Cell) (wv_fm : Value) (hp : Perm Z w_enc w_tb cs_v cl_tb wv_fm) (p1 : Int32) (p2 : Int32) (h0 : Heap) (n0 : Nat) (O0 : Old Z n0 h0) (hc1 : ¬ (((p2 ||| (0 : Int32)) ||| p1) < (0 : Int32))) (hc2 : ¬ ((p2 - (0 : Int32)) < p1)) :
    MF l y28 (Jvm.Cond.code y28 jdk_41_method_13_code 4 (some .int) :: ws) ({ frames := 0, cells := 0, slots := 0, locals := 0 } : Room) Z #[(.int 0), (.int p1), (.int p2), wv_fm] h0 (fun v h L => v = some (.int 0) ∧ Fr n0 L ∧ h = h0) := by
  refine mfB (plainFor_of_name pn_29) hw fun p e s m below meth c s₁ Bd Kz X0 e0 => ?_
  obtain ⟨hx, hby, hml, hZ, hown, -⟩ := id Kz
  have qz := And.intro hx hby
  have N0 := Fr.nil n0
  obtain ⟨_, _, _, _, _, _, _, _, _, _, h_wv_fm⟩ := id hp
  refine mfE Bd X0 (some (.int 0)) e0 (fun h => by rw [Bd.returns] at h; cases h) (ef_29_0 m (0 : Int32) p1 p2 wv_fm h_wv_fm) ⟨rfl, N0, rfl⟩ fun fs hr => ?_
  refine iln X0 qz d29_0 ?_
  refine iln X0 qz d29_1 ?_
  refine wior X0 qz d29_2 ?_
  refine iln X0 qz d29_3 ?_
  refine wior X0 qz d29_4 ?_
  refine ifN X0 qz d29_5 (flt hc1).1 ?_
  refine iln X0 qz d29_8 ?_
  refine iln X0 qz d29_9 ?_
  refine iln X0 qz d29_10 ?_
  refine wib X0 qz d29_11 ?_
  refine icY X0 qz 12 23 d29_12 (flt hc2).2.2.2 ?_
  refine iln X0 qz d29_23 ?_
  exact retI X0 hx Bd.returns (hb hby d29_24) hr
theorem pd_22 : parseMethodDescriptor "(IIILjava/util/function/BiFunction;)I" = some ⟨[.int, .int, .int, (.object "java/util/function/BiFunction")], some .int⟩ := by decide +kernel
theorem d28_9 : dk cb28 9 .ireturn 1 := by decide +kernel
abbrev y29 : MethodName := (⟨"java/lang/String", "checkBoundsOffCount", "(III)I"⟩ : MethodName)
theorem ef_28_0 (m : MethodId) (x0 : Int32) (x1 : Int32) (x2 : Int32) : entryFrame m #[(.int x0), (.int x1), (.int x2)] 3 = mkF m 0 #[.val (.int x0), .val (.int x1), .val (.int x2)] [] := by first | (simp [entryFrame, mkF, argsToLocals, Value.category]; done) | rfl
theorem rm47 (l : Launch) (Z : State) (a0 : Array Value) (hw : HW Z a0) (ws : List Jvm.Cond) (w_enc w_tb : Addr) (cs_v : Int32) (cl_tb : Cell) (wv_fm : Value) (hp : Perm Z w_enc w_tb cs_v cl_tb wv_fm) (p1 : Int32) (p2 : Int32) (h0 : Heap) (n0 : Nat) (O0 : Old Z n0 h0) (hc1 : ¬ (((p2 ||| (0 : Int32)) ||| p1) < (0 : Int32))) (hc2 : ¬ ((p2 - (0 : Int32)) < p1)) :
    MF l y29 (Jvm.Cond.code y29 jdk_42_method_157_code 3 (some .int) :: ws) ({ frames := 1, cells := 0, slots := 0, locals := 15 } : Room) Z #[(.int 0), (.int p1), (.int p2)] h0 (fun v h L => v = some (.int 0) ∧ Fr n0 L ∧ h = h0) := by
  refine mfB (plainFor_of_name pn_5) hw fun p e s m below meth c s₁ Bd Kz X0 e0 => ?_
  obtain ⟨hx, hby, hml, hZ, hown, -⟩ := id Kz
  have qz := And.intro hx hby
  have N0 := Fr.nil n0
  obtain ⟨_, _, _, _, _, _, _, _, _, S_wv_fm, _⟩ := id hp
  obtain ⟨T1, X1, e1, st1⟩ := getS2 X0 hx hZ hown (host := "") (Or.inl (wq hw 172 rfl)) Via.refl e0 (S_wv_fm.ext O0.2) (g := (mkF m 3 #[vi 0, vi p1, vi p2] [(.int p2), (.int p1), (.int 0)])) rfl (hb hby d28_3)
  obtain ⟨_, T2, Lc2, X2, hQ2, st2⟩ := cS X1 Kz y28 0 174 175 173 176 (rm46 l Z a0 hw [] w_enc w_tb cs_v cl_tb wv_fm hp p1 p2 h0 n0 O0 hc1 hc2) e1 (mkF m 6 #[vi 0, vi p1, vi p2] [wv_fm, (.int p2), (.int p1), (.int 0)]) [(.int 0), (.int p1), (.int p2), wv_fm] [] pd_22 d28_6
  obtain ⟨rfl, Nq2, eq2⟩ := hQ2
  have N2 := Fr.app N0 Nq2
  refine mfE Bd X2 (some (.int 0)) eq2 (fun h => by rw [Bd.returns] at h; cases h) (ef_28_0 m (0 : Int32) p1 p2) ⟨rfl, N2, rfl⟩ fun fs hr => ?_
  refine iln X0 qz d28_0 ?_
  refine iln X0 qz d28_1 ?_
  refine iln X0 qz d28_2 ?_
  refine st1 _ ?_
  refine st2 _ ?_
  exact retI X2 hx Bd.returns (hb hby d28_9) hr
theorem pd_23 : parseMethodDescriptor "(III)I" = some ⟨[.int, .int, .int], some .int⟩ := by decide +kernel
theorem d27_12 : dk cb27 12 .pop 1 := by decide +kernel
theorem d27_13 : dk cb27 13 (.iload 4) 2 := by decide +kernel
theorem d27_15 : dk cb27 15 (.ifCond .ne 22) 3 := by decide +kernel
theorem d27_18 : dk cb27 18 (.aload_n 0) 1 := by decide +kernel
theorem d27_19 : dk cb27 19 (.ldc 7) 2 := by decide +kernel
theorem d27_21 : dk cb27 21 (.getfield 9) 3 := by decide +kernel
theorem d27_24 : dk cb27 24 (.putfield 9) 3 := by decide +kernel
theorem d27_27 : dk cb27 27 (.aload_n 0) 1 := by decide +kernel
theorem d27_28 : dk cb27 28 (.ldc 7) 2 := by decide +kernel
theorem d27_30 : dk cb27 30 (.getfield 15) 3 := by decide +kernel
theorem d27_33 : dk cb27 33 (.putfield 15) 3 := by decide +kernel
theorem d27_36 : dk cb27 36 .return_ 1 := by decide +kernel
abbrev y30 : MethodName := (⟨"java/lang/String", "<init>", "([BIII)V"⟩ : MethodName)
theorem ef_27_0 (m : MethodId) (x0 : Addr) (x1 : Addr) (x2 : Int32) (x3 : Int32) (x4 : Int32) : entryFrame m #[(.ref x0), (.ref x1), (.int x2), (.int x3), (.int x4)] 7 = mkF m 0 #[.val (.ref x0), .val (.ref x1), .val (.int x2), .val (.int x3), .val (.int x4), .unset, .unset] [] := by first | (simp [entryFrame, mkF, argsToLocals, Value.category]; done) | rfl
def Q48 (Z : State) (w_enc : Addr) (w_tb : Addr) (cs_v : Int32) (cl_tb : Cell) (wv_fm : Value) (a1 : Addr) (a2 : Addr) (p3 : Int32) (k_a2 : ClassId) (l_a2 : List Value) (p6 : Int32) (h0 : Heap) (n0 : Nat) (v : Option Value) (h : Heap) (L : List Loc) : Prop := ∃ (lb4 : Addr), ∃ (kb4 : ClassId), v = none ∧ Fr n0 L ∧ Keep h0 h [a1] ∧ Exa Z h a1 "java/lang/String" ∧ Fld Z h a1 "java/lang/String" "coder" "B" (.int 0) ∧ Fld Z h a1 "java/lang/String" "value" "[B" (.ref lb4) ∧ Arv Z h lb4 kb4 .byte (0 : Int32) [] (.int 0)
theorem rm48 (l : Launch) (Z : State) (a0 : Array Value) (hw : ∀ d ∈ tables_1, d.before a0 Z = true) (ws : List Jvm.Cond) (w_enc w_tb : Addr) (cs_v : Int32) (cl_tb : Cell) (wv_fm : Value) (hp : Perm Z w_enc w_tb cs_v cl_tb wv_fm) (a1 : Addr) (a2 : Addr) (p3 : Int32) (k_a2 : ClassId) (l_a2 : List Value) (p6 : Int32) (h0 : Heap) (n0 : Nat) (O0 : Old Z n0 h0) (V_a2 : Arv Z h0 a2 k_a2 .byte p6 (lid l_a2) (.int 0)) (hc2 : ¬ (((p6 ||| (0 : Int32)) ||| p3) < (0 : Int32))) (hc3 : ¬ ((p6 - (0 : Int32)) < p3)) (hc4 : p3 = (0 : Int32)) (E_a1 : Exa Z h0 a1 "java/lang/String") (F_coder_a1 : Fld Z h0 a1 "java/lang/String" "coder" "B" (.int 0)) (F_value_a1 : Fld Z h0 a1 "java/lang/String" "value" "[B" .null) (g_a1 : n0 ≤ a1) :
    MetFree l y30 (head1 (Jvm.Cond.code y30 jdk_42_method_7_code 7 none :: ws) ({ frames := 2, cells := 2, slots := 4, locals := 29 } : Room)) (fun a U => a = #[(.ref a1), (.ref a2), (.int 0), (.int 0), (.int p3)] ∧ Z.Warmed39 U.vm ∧ U.heap = h0 ∧ CHv Z own_EL U.vm h0 ∧ ∀ x ∈ [a1], Safe Z own_EL U.vm h0 x) (fun _ _ _ _ _ => True) (fun _ U o U' => ∃ v L, o = .returned v ∧ Q48 Z w_enc w_tb cs_v cl_tb wv_fm a1 a2 p3 k_a2 l_a2 p6 h0 n0 v U'.heap L ∧ CHr Z own_EL U.vm U.heap U'.vm U'.heap ∧ ReturnedEndW U o U' L ({ frames := 2, cells := 2, slots := 4, locals := 29 } : Room).cells ({ frames := 2, cells := 2, slots := 4, locals := 29 } : Room).slots) := by
  refine MetFree.of_bodySF (plainFor_of_name pn_5) hisR ?_
  intro p e s m args below meth c s₁ Bd hml0 hP hK
  obtain ⟨rfl, hZo, hh, hCH, hSL⟩ := hP
  have hx := Bd.exec
  have hby := Bd.bytes
  have qz := And.intro hx hby
  have hml : c.maxLocals = 7 := hml0
  have hown : (s.setVm s.vm).vm.findClass "java/lang/String" = some m.cls := findClass_of_methodNamed Bd.named
  have hnm := (name_of_methodNamed Bd.named Bd.method).1
  have X0 : Stand p l e ({ frames := 2, cells := 2, slots := 4, locals := 29 } : Room) (s.setVm s.vm) m #[(.ref a1), (.ref a2), (.int 0), (.int 0), (.int p3)] below meth c s₁ [] 0 0 := Stand.of_body Bd
  have e0 : s₁.heap = h0 := by rw [← hh, Bd.state]; rfl
  have N0 := Fr.nil n0
  have hZ : Z.Warmed39 (s.setVm s.vm).vm := hZo
  have CH0 := CHr.refl hCH
  have hS0 : s.Since s.vm 0 := (State.WarmedH.refl s).since 0
  have hk0 : 0 ≤ h0.size := Nat.zero_le _
  have Kz := And.intro hx (And.intro hby (And.intro hml (And.intro hZ (And.intro hown hw))))
  obtain ⟨T1, X1, e1, st1⟩ := initO X0 hx hZ hown (wq hw 28 rfl) (wq hw 29 rfl) (wq hw 30 rfl) e0 (g := (mkF m 1 #[vr a1, vr a2, vi 0, vi 0, vi p3, uu, uu] [(.ref a1)])) rfl (by rw [hml]; rfl) rfl (hb hby d27_1) (by decide) (W := 0) (by show 2 * 0 + _ ≤ _; exact Nat.le_of_eq rfl) (by decide)
  obtain ⟨_, T3, Lc3, X3, hQ3, st3⟩ := cS X1 Kz y29 0 169 170 12 171 (rm47 l Z a0 hw [] w_enc w_tb cs_v cl_tb wv_fm hp p3 p6 h0 n0 O0 hc2 hc3) e1 (mkF m 9 #[vr a1, vr a2, vi 0, vi 0, vi p3, uu, uu] [(.int p6), (.int p3), (.int 0)]) [(.int 0), (.int p3), (.int p6)] [] pd_23 d27_9
  obtain ⟨rfl, Nq3, eq3⟩ := hQ3
  have N3 := Fr.app N0 Nq3
  obtain ⟨li4, T4, h4, k4, lb4, kb4, X4, e4, E4, hS4, hk4, hZ4, hown4, Ea4, Ca4, Va4, Ba4, -, -, C4, L4, Sf4, st4⟩ := ldcCH X3 hx hZ hown (wq hw 287 rfl) (own_wS hw) eq3 hS0 hk0 (own_EW hw) (by decide) CH0.1 (vs := []) (z := (0 : Int32)) ⟨by decide, rfl⟩ (by decide) rfl (g := (mkF m 19 #[vr a1, vr a2, vi 0, vi 0, vi p3, uu, uu] [(.ref a1)])) rfl (hb hby d27_19) (n := 0) (by decide) (by decide) (by decide) (by decide)
  have CH4 := CH0.trans C4
  have K4 : Keep h0 h4 [a1] := (Keep.refl h0 [a1]).ext E4
  obtain ⟨T5, X5, e5, st5⟩ := gF X4 ⟨hx, hby, hml, hZ4, hown4, hw⟩ 31 e4 Va4 (mkF m 21 #[vr a1, vr a2, vi 0, vi 0, vi p3, uu, uu] [(.ref li4), (.ref a1)]) d27_21
  obtain ⟨T6, h6, X6, e6, W6, st6⟩ := putF X5 hx hZ4 hown4 (host := "") (Or.inl (wq hw 31 rfl)) Via.refl e5 (F_value_a1.ext E4) (E_a1.ext E4) (Or.inr ⟨(wq hw 32 rfl), rfl, hnm⟩) (wq hw 20 rfl) (ty := (.array .byte)) (by decide) rfl rfl (g := (mkF m 24 #[vr a1, vr a2, vi 0, vi 0, vi p3, uu, uu] [(.ref lb4), (.ref a1)])) rfl rfl (hb hby d27_24)
  have sf_7 := (C4.safe E_a1.lt (hSL a1 (List.mem_of_getElem? (i := 0) rfl)))
  have N6 := Fr.snoc X6 N3 g_a1
  have K6 : Keep h0 h6 [a1] := K4.wr W6 (Or.inl (ma 0 rfl))
  have CH6 := CH4.trans (CHr.wr W6 sf_7 CH4.1)
  have hk6 := Nat.le_trans hk4 (Keep.of_wr W6).1
  have Fw6 := (F_value_a1.ext E4).same W6
  obtain ⟨T8, X8, e8, st8⟩ := gF X6 ⟨hx, hby, hml, hZ4, hown4, hw⟩ 33 e6 (Ca4.other W6 (Or.inl (Ne.symm (Sf4 a1 sf_7).1))) (mkF m 30 #[vr a1, vr a2, vi 0, vi 0, vi p3, uu, uu] [(.ref li4), (.ref a1)]) d27_30
  obtain ⟨T9, h9, X9, e9, W9, st9⟩ := putFN X8 hx hZ4 hown4 (wq hw 33 rfl) Via.refl e8 ((F_coder_a1.ext E4).other W6 (Or.inr (sn0 hw))) ((E_a1.ext E4).wr W6) (Or.inr ⟨(wq hw 34 rfl), rfl, hnm⟩) (wq hw 20 rfl) (ty := .byte) (v' := (.int 0)) (by decide) rfl rfl (g := (mkF m 33 #[vr a1, vr a2, vi 0, vi 0, vi p3, uu, uu] [(.int 0), (.ref a1)])) rfl rfl (hb hby d27_33)
  have sf_10 := (Safe.wr W6 sf_7 CH4.1 sf_7)
  have N9 := Fr.snoc X9 N6 g_a1
  have K9 : Keep h0 h9 [a1] := K6.wr W9 (Or.inl (ma 0 rfl))
  have CH9 := CH6.trans (CHr.wr W9 sf_10 CH6.1)
  have hk9 := Nat.le_trans hk6 (Keep.of_wr W9).1
  have Fw9 := ((F_coder_a1.ext E4).other W6 (Or.inr (sn0 hw))).same W9
  have f_11 := ((Ba4.other W6 (Ne.symm (Sf4 a1 sf_7).2)).other W9 (Ne.symm (Sf4 a1 sf_7).2))
  obtain ⟨fs, hr, hrun, hended, hE⟩ := Stand.leaveW (s := s) X9 hS4 (by rw [e9]; exact hk9) (v := none) (fun _ => rfl)
  have CHz : CHr Z own_EL s.vm s.heap (T9.setFrames fs).vm (T9.setFrames fs).heap := by
    rw [hh]
    show CHr Z own_EL s.vm h0 T9.vm T9.heap
    rw [e9]; exact CH9.trans (CHv.at X9 hZ4 (own_EW hw) CH9.1)
  refine ⟨_, _, castTop (ef_27_0 m a1 a2 (0 : Int32) (0 : Int32) p3) ?_, hrun, hended, _, _, rfl, ?_, CHz, hE.1, hE.2.1, hE.2.2.1, hE.2.2.2.mono (by decide) (by decide)⟩
  · show Sp p e below s₁ (mkF m 0 #[vr a1, vr a2, vi 0, vi 0, vi p3, uu, uu] []) _
    refine aln X0 qz d27_0 ?_
    refine st1 _ ?_
    refine iln X1 qz d27_4 ?_
    refine il X1 qz d27_5 ?_
    refine aln X1 qz d27_7 ?_
    refine aL X1 Kz e1 V_a2 d27_8 ?_
    refine st3 _ ?_
    refine XS.pop X3.here hx rfl (hb hby d27_12) rfl rfl ?_
    refine il X3 qz d27_13 ?_
    refine ifN X3 qz d27_15 (teq hc4).2 ?_
    refine aln X3 qz d27_18 ?_
    refine st4 _ ?_
    refine st5 _ ?_
    refine st6 _ ?_
    refine aln X6 qz d27_27 ?_
    refine ldcAgain X6 hx hZ4 hown4 (wq hw 287 rfl) L4 (g := (mkF m 28 #[vr a1, vr a2, vi 0, vi 0, vi p3, uu, uu] [(.ref a1)])) rfl (hb hby d27_28) _ ?_
    show Sp p e below T6 (mkF m 30 #[vr a1, vr a2, vi 0, vi 0, vi p3, uu, uu] [(.ref li4), (.ref a1)]) _
    refine st8 _ ?_
    refine st9 _ ?_
    exact X9.returnOut hx Bd.returns (hb hby d27_36) hr
  · show Q48 Z w_enc w_tb cs_v cl_tb wv_fm a1 a2 p3 k_a2 l_a2 p6 h0 n0 _ T9.heap _
    rw [e9]
    exact ⟨lb4, kb4, rfl, N9, K9, (((E_a1.ext E4).wr W6).wr W9), Fw9, (Fw6.other W9 (Or.inr (sn1 hw))), f_11⟩
theorem pd_24 : parseMethodDescriptor "([BIII)V" = some ⟨[(.array .byte), .int, .int, .int], none⟩ := by decide +kernel
theorem d21_18 : dk cb21 18 .areturn 1 := by decide +kernel
abbrev y31 : MethodName := (⟨"java/util/Base64$Encoder", "encodeToString", "([B)Ljava/lang/String;"⟩ : MethodName)
theorem ef_21_0 (m : MethodId) (x0 : Addr) (x1 : Addr) : entryFrame m #[(.ref x0), (.ref x1)] 3 = mkF m 0 #[.val (.ref x0), .val (.ref x1), .unset] [] := by first | (simp [entryFrame, mkF, argsToLocals, Value.category]; done) | rfl
def Q49 (Z : State) (w_enc : Addr) (w_tb : Addr) (cs_v : Int32) (cl_tb : Cell) (wv_fm : Value) (a1 : Addr) (k_a1 : ClassId) (l_a1 : List Value) (p4 : Int32) (h0 : Heap) (n0 : Nat) (v : Option Value) (h : Heap) (L : List Loc) : Prop := ∃ (b2 y4_0 : Addr), ∃ (kc4_0 : ClassId), v = some (.ref b2) ∧ Fr n0 L ∧ Keep h0 h [] ∧ h0.size ≤ b2 ∧ Exa Z h b2 "java/lang/String" ∧ Fld Z h b2 "java/lang/String" "coder" "B" (.int 0) ∧ Fld Z h b2 "java/lang/String" "value" "[B" (.ref y4_0) ∧ Arv Z h y4_0 kc4_0 .byte (0 : Int32) [] (.int 0)
theorem rm49 (l : Launch) (Z : State) (a0 : Array Value) (hw : ∀ d ∈ tables_1, d.before a0 Z = true) (ws : List Jvm.Cond) (w_enc w_tb : Addr) (cs_v : Int32) (cl_tb : Cell) (wv_fm : Value) (hp : Perm Z w_enc w_tb cs_v cl_tb wv_fm) (a1 : Addr) (k_a1 : ClassId) (l_a1 : List Value) (p4 : Int32) (h0 : Heap) (n0 : Nat) (O0 : Old Z n0 h0) (V_a1 : Arv Z h0 a1 k_a1 .byte p4 (lid l_a1) (.int 0)) (E_a1 : Exa Z h0 a1 "[B") (hs3 : 0 ≤ (p4).toInt ∧ (p4).toInt < 7) (hs4 : ¬ ((eoL p4)) < 0) (hs5 : ((eoL p4)).toNatClampNeg ≤ 40) (hs6 : EncIn p4 l_a1) (hc7 : ¬ ((((eoL p4) ||| (0 : Int32)) ||| (eoL p4)) < (0 : Int32))) (hc8 : ¬ (((eoL p4) - (0 : Int32)) < (eoL p4))) (hc9 : (eoL p4) = (0 : Int32)) :
    MetFree l y31 (head1 (Jvm.Cond.code y31 jdk_2452_method_5_code 3 (some (.object "java/lang/String")) :: ws) ({ frames := 3, cells := 4, slots := 48, locals := 65 } : Room)) (fun a U => a = #[(.ref w_enc), (.ref a1)] ∧ Z.Warmed39 U.vm ∧ U.heap = h0 ∧ CHv Z own_EL U.vm h0 ∧ ∀ x ∈ ([] : List Addr), Safe Z own_EL U.vm h0 x) (fun _ _ _ _ _ => True) (fun _ U o U' => ∃ v L, o = .returned v ∧ Q49 Z w_enc w_tb cs_v cl_tb wv_fm a1 k_a1 l_a1 p4 h0 n0 v U'.heap L ∧ CHr Z own_EL U.vm U.heap U'.vm U'.heap ∧ ReturnedEndW U o U' L ({ frames := 3, cells := 4, slots := 48, locals := 65 } : Room).cells ({ frames := 3, cells := 4, slots := 48, locals := 65 } : Room).slots) := by
  refine MetFree.of_bodySF (plainFor_of_name pn_23) hisR ?_
  intro p e s m args below meth c s₁ Bd hml0 hP hK
  obtain ⟨rfl, hZo, hh, hCH, hSL⟩ := hP
  have hx := Bd.exec
  have hby := Bd.bytes
  have qz := And.intro hx hby
  have hml : c.maxLocals = 3 := hml0
  have hown : (s.setVm s.vm).vm.findClass "java/util/Base64$Encoder" = some m.cls := findClass_of_methodNamed Bd.named
  have hnm := (name_of_methodNamed Bd.named Bd.method).1
  have X0 : Stand p l e ({ frames := 3, cells := 4, slots := 48, locals := 65 } : Room) (s.setVm s.vm) m #[(.ref w_enc), (.ref a1)] below meth c s₁ [] 0 0 := Stand.of_body Bd
  have e0 : s₁.heap = h0 := by rw [← hh, Bd.state]; rfl
  have N0 := Fr.nil n0
  have hZ : Z.Warmed39 (s.setVm s.vm).vm := hZo
  have CH0 := CHr.refl hCH
  have hS0 : s.Since s.vm 0 := (State.WarmedH.refl s).since 0
  have hk0 : 0 ≤ h0.size := Nat.zero_le _
  have hp' := hp
  obtain ⟨_, _, _, E_w_enc, _⟩ := hp'
  have Kz := And.intro hx (And.intro hby (And.intro hml (And.intro hZ (And.intro hown hw))))
  obtain ⟨_, T1, Lc1, X1, hQ1, st1⟩ := vS X0 Kz y27 0 136 137 139 138 140 130 (rm45 l Z a0 hw [] w_enc w_tb cs_v cl_tb wv_fm hp a1 k_a1 l_a1 p4 h0 n0 O0 V_a1 hs3 hs4 hs5 E_a1 hs6) e0 (E_w_enc.ext O0.2) (mkF m 2 #[vr w_enc, vr a1, uu] [(.ref a1), (.ref w_enc)]) [(.ref a1)] [] pd_21 d21_2
  obtain ⟨b1_0, kc1_0, rfl, Nq1, Kq1, sq_b1_0, fq1_0, fq1_1⟩ := hQ1
  have N1 := Fr.app N0 Nq1
  have CH1 := CH0.trans (CHr.keep Kq1 all0 CH0.1)
  have hk1 := Nat.le_trans hk0 Kq1.1
  have O1 := O0.keep Kq1 all0
  have K1 : Keep h0 T1.heap [] := (Keep.refl h0 []).trans Kq1 all0
  obtain ⟨T2, h2, X2, e2, E2, A2, D2, -, st2⟩ := newO X1 hx hZ hown (wq hw 165 rfl) (wq hw 20 rfl) (wq hw 12 rfl) rfl (g := (mkF m 6 #[vr w_enc, vr a1, vr b1_0] [])) rfl (hb hby d21_6) (by decide) (by decide)
  obtain ⟨b2, g2⟩ : ∃ z, z = T1.heap.size := ⟨_, rfl⟩
  rw [← g2] at A2 D2 st2
  have g_b2 : n0 ≤ b2 := Nat.le_trans (own_sz O1) (Nat.le_of_eq g2.symm)
  have sz_b2 : h0.size ≤ b2 := Nat.le_trans K1.1 (Nat.le_of_eq g2.symm)
  have O2 := O1.ext E2
  have K2 : Keep h0 h2 [] := K1.ext E2
  have CH2 := CH1.trans (CHr.ext E2 CH1.1)
  have hk2 := Nat.le_trans hk1 E2.1
  have F_value_b2 : Fld Z h2 b2 "java/lang/String" "value" "[B" .null := D2 (Or.inr (wq hw 32 rfl)) (ty := (.array .byte)) (by decide)
  have F_coder_b2 : Fld Z h2 b2 "java/lang/String" "coder" "B" (.int 0) := D2 (Or.inr (wq hw 34 rfl)) (ty := .byte) (by decide)
  have sf_5 := (Safe.ext E2 CH1.1 (Safe.new (Nat.le_of_eq g2.symm)))
  obtain ⟨_, _, ⟨T4, L4, k4, n4⟩, -, XX4, Sq4, gq4, ⟨Lc4, hQ4, l4, y4, z4, C4⟩, st4⟩ := X2.specialBackS hx (y := y30) rfl hown (mvT hZ (wq hw 166 rfl)) (mvT hZ (wq hw 167 rfl)) (mvT hZ (wq hw 168 rfl)) (by decide) (own_backC (SL := [b2]) (W := 1) (rm48 l Z a0 hw [] w_enc w_tb cs_v cl_tb wv_fm hp b2 b1_0 (eoL p4) kc1_0 (encL l_a1) (eoL p4) h2 n0 O2 (fq1_1.ext E2) hc7 hc8 hc9 A2 F_coder_b2 F_value_b2 g_b2) hZ (wq hw 168 rfl) (wq hw 12 rfl) (by decide) (by decide) (own_EW hw) CH2.1 (allS ⟨A2.lt, sf_5⟩ all0)) (g := (mkF m 15 #[vr w_enc, vr a1, vr b1_0] [(.int (eoL p4)), (.int 0), (.int 0), (.ref b1_0), (.ref b2), (.ref b2)])) rfl (by rw [hml]; rfl) (Steps.refl _) (a := b2) (argsL := [(.ref b1_0), (.int 0), (.int 0), (.int (eoL p4))]) (rest := [(.ref b2)]) (lenOf pd_24 rfl) rfl (by show 2 * 0 + _ ≤ _; exact Nat.le_of_eq rfl) (hb hby d21_15) (fun _ _ => ⟨rfl, e2, (by decide : 2 + 2 ≤ _), (by decide : 44 + 4 ≤ _)⟩)
  dsimp only [Pt.U, Pt.locs, Pt.cells, Pt.slots] at XX4 Sq4 gq4 l4 y4 z4 st4 hQ4 C4
  subst l4 y4 z4
  obtain ⟨X4, hS4, hZ4, hown4⟩ := rebS hS0 (by rw [e2]; exact hk2) XX4 Sq4 gq4 hZ hown
  obtain ⟨y4_0, kc4_0, rfl, Nq4, Kq4, fq4_0, fq4_1, fq4_2, fq4_3⟩ := hQ4
  have N4 := Fr.app N1 Nq4
  have CH4 := CH2.trans C4
  have hk4 : T4.heap.size ≤ T4.heap.size := Nat.le_refl _
  have K4 : Keep h0 T4.heap [] := K2.trans Kq4 (allS (Or.inr sz_b2) all0)
  obtain ⟨fs, hr, hrun, hended, hE⟩ := Stand.leaveW (s := s) X4 hS4 hk4 (v := some (.ref b2)) (fun h => by rw [Bd.returns] at h; cases h)
  have CHz : CHr Z own_EL s.vm s.heap (T4.setFrames fs).vm (T4.setFrames fs).heap := by
    rw [hh]
    show CHr Z own_EL s.vm h0 T4.vm T4.heap
    exact CH4.trans (CHv.at X4 hZ4 (own_EW hw) CH4.1)
  refine ⟨_, _, castTop (ef_21_0 m w_enc a1) ?_, hrun, hended, _, _, rfl, ?_, CHz, hE.1, hE.2.1, hE.2.2.1, hE.2.2.2.mono (by decide) (by decide)⟩
  · show Sp p e below s₁ (mkF m 0 #[vr w_enc, vr a1, uu] []) _
    refine aln X0 qz d21_0 ?_
    refine aln X0 qz d21_1 ?_
    refine st1.trans ?_
    refine san X1 qz d21_5 #[vr w_enc, vr a1, vr b1_0] ?_
    refine st2 _ ?_
    refine XS.dup X2.here hx rfl (hb hby d21_9) rfl rfl ?_
    refine aln X2 qz d21_10 ?_
    refine ic X2 qz d21_11 ?_
    refine ic X2 qz d21_12 ?_
    refine aln X2 qz d21_13 ?_
    refine aL X2 Kz e2 (fq1_1.ext E2) d21_14 ?_
    refine st4.trans ?_
    jvm_step X4.here [X4.here.top, hx, (hb hby d21_18), X4.method', Bd.returns, Value.isRef, FieldType.isReference]
    first | (intro acts; rw [hr _ acts rfl rfl rfl]) | rw [hr _ _ rfl rfl rfl]
    exact Steps.refl _
  · show Q49 Z w_enc w_tb cs_v cl_tb wv_fm a1 k_a1 l_a1 p4 h0 n0 _ T4.heap _
    exact ⟨b2, y4_0, kc4_0, rfl, N4, K4, sz_b2, fq4_0, fq4_1, fq4_2, fq4_3⟩
theorem pd_25 : parseMethodDescriptor "([B)Ljava/lang/String;" = some ⟨[(.array .byte)], some (.object "java/lang/String")⟩ := by decide +kernel
theorem d9_46 : dk cb9 46 (.invokevirtual 25) 3 := by decide +kernel
theorem d9_49 : dk cb9 49 (.ldc 45) 2 := by decide +kernel
theorem d9_51 : dk cb9 51 (.invokevirtual 25) 3 := by decide +kernel
theorem d9_54 : dk cb9 54 (.invokevirtual 47) 3 := by decide +kernel
abbrev cb36 : ByteArray := jdk_67_method_42_code
theorem d36_0 : dk cb36 0 (.new 18) 3 := by decide +kernel
theorem d36_3 : dk cb36 3 .dup 1 := by decide +kernel
theorem d36_4 : dk cb36 4 (.aload_n 0) 1 := by decide +kernel
theorem d36_5 : dk cb36 5 (.invokespecial 137) 3 := by decide +kernel
abbrev cb37 : ByteArray := jdk_42_method_53_code
theorem d37_0 : dk cb37 0 (.aload_n 0) 1 := by decide +kernel
theorem d37_1 : dk cb37 1 (.aload_n 1) 1 := by decide +kernel
theorem d37_2 : dk cb37 2 .aconst_null 1 := by decide +kernel
theorem d37_3 : dk cb37 3 (.invokespecial 489) 3 := by decide +kernel
abbrev cb38 : ByteArray := jdk_42_method_150_code
theorem d38_0 : dk cb38 0 (.aload_n 0) 1 := by decide +kernel
theorem d38_1 : dk cb38 1 (.invokespecial 1) 3 := by decide +kernel
theorem d38_4 : dk cb38 4 (.aload_n 1) 1 := by decide +kernel
theorem d38_5 : dk cb38 5 (.invokevirtual 552) 3 := by decide +kernel
abbrev cb39 : ByteArray := jdk_68_method_64_code
theorem d39_0 : dk cb39 0 (.aload_n 0) 1 := by decide +kernel
theorem d39_1 : dk cb39 1 (.getfield 15) 3 := by decide +kernel
theorem d39_4 : dk cb39 4 .areturn 1 := by decide +kernel
abbrev y32 : MethodName := (⟨"java/lang/AbstractStringBuilder", "getValue", "()[B"⟩ : MethodName)
theorem ef_39_0 (m : MethodId) (x0 : Addr) : entryFrame m #[(.ref x0)] 1 = mkF m 0 #[.val (.ref x0)] [] := by first | (simp [entryFrame, mkF, argsToLocals, Value.category]; done) | rfl
theorem rm50 (l : Launch) (Z : State) (a0 : Array Value) (hw : HW Z a0) (ws : List Jvm.Cond) (w_enc w_tb : Addr) (cs_v : Int32) (cl_tb : Cell) (wv_fm : Value) (hp : Perm Z w_enc w_tb cs_v cl_tb wv_fm) (a1 : Addr) (a2 : Addr) (h0 : Heap) (n0 : Nat) (O0 : Old Z n0 h0) (F_value_a1 : Fld Z h0 a1 "java/lang/AbstractStringBuilder" "value" "[B" (.ref a2)) :
    MF l y32 (Jvm.Cond.code y32 jdk_68_method_64_code 1 (some (.array .byte)) :: ws) ({ frames := 0, cells := 0, slots := 0, locals := 0 } : Room) Z #[(.ref a1)] h0 (fun v h L => v = some (.ref a2) ∧ Fr n0 L ∧ h = h0) := by
  refine mfB (plainFor_of_name pn_11) hw fun p e s m below meth c s₁ Bd Kz X0 e0 => ?_
  obtain ⟨hx, hby, hml, hZ, hown, -⟩ := id Kz
  have qz := And.intro hx hby
  have N0 := Fr.nil n0
  obtain ⟨T1, X1, e1, st1⟩ := gF X0 Kz 69 e0 F_value_a1 (mkF m 1 #[vr a1] [(.ref a1)]) d39_1
  refine mfE Bd X1 (some (.ref a2)) e1 (fun h => by rw [Bd.returns] at h; cases h) (ef_39_0 m a1) ⟨rfl, N0, rfl⟩ fun fs hr => ?_
  refine aln X0 qz d39_0 ?_
  refine st1 _ ?_
  jvm_step X1.here [X1.here.top, hx, (hb hby d39_4), X1.method', Bd.returns, Value.isRef, FieldType.isReference]
  first | (intro acts; rw [hr _ acts rfl rfl rfl]) | rw [hr _ _ rfl rfl rfl]
  exact Steps.refl _
theorem pd_26 : parseMethodDescriptor "()[B" = some ⟨[], some (.array .byte)⟩ := by decide +kernel
theorem d38_8 : dk cb38 8 (.astore_n 3) 1 := by decide +kernel
theorem d38_9 : dk cb38 9 (.aload_n 1) 1 := by decide +kernel
theorem d38_10 : dk cb38 10 (.invokevirtual 549) 3 := by decide +kernel
abbrev cb40 : ByteArray := jdk_67_method_93_code
theorem d40_0 : dk cb40 0 (.aload_n 0) 1 := by decide +kernel
theorem d40_1 : dk cb40 1 (.invokespecial 343) 3 := by decide +kernel
abbrev cb41 : ByteArray := jdk_68_method_6_code
theorem d41_0 : dk cb41 0 (.aload_n 0) 1 := by decide +kernel
theorem d41_1 : dk cb41 1 (.getfield 79) 3 := by decide +kernel
theorem d41_4 : dk cb41 4 .ireturn 1 := by decide +kernel
abbrev y33 : MethodName := (⟨"java/lang/AbstractStringBuilder", "length", "()I"⟩ : MethodName)
theorem ef_41_0 (m : MethodId) (x0 : Addr) : entryFrame m #[(.ref x0)] 1 = mkF m 0 #[.val (.ref x0)] [] := by first | (simp [entryFrame, mkF, argsToLocals, Value.category]; done) | rfl
theorem rm51 (l : Launch) (Z : State) (a0 : Array Value) (hw : HW Z a0) (ws : List Jvm.Cond) (w_enc w_tb : Addr) (cs_v : Int32) (cl_tb : Cell) (wv_fm : Value) (hp : Perm Z w_enc w_tb cs_v cl_tb wv_fm) (a1 : Addr) (p2 : Int32) (h0 : Heap) (n0 : Nat) (O0 : Old Z n0 h0) (F_count_a1 : Fld Z h0 a1 "java/lang/AbstractStringBuilder" "count" "I" (.int p2)) :
    MF l y33 (Jvm.Cond.code y33 jdk_68_method_6_code 1 (some .int) :: ws) ({ frames := 0, cells := 0, slots := 0, locals := 0 } : Room) Z #[(.ref a1)] h0 (fun v h L => v = some (.int p2) ∧ Fr n0 L ∧ h = h0) := by
  refine mfB (plainFor_of_name pn_11) hw fun p e s m below meth c s₁ Bd Kz X0 e0 => ?_
  obtain ⟨hx, hby, hml, hZ, hown, -⟩ := id Kz
  have qz := And.intro hx hby
  have N0 := Fr.nil n0
  obtain ⟨T1, X1, e1, st1⟩ := gF X0 Kz 96 e0 F_count_a1 (mkF m 1 #[vr a1] [(.ref a1)]) d41_1
  refine mfE Bd X1 (some (.int p2)) e1 (fun h => by rw [Bd.returns] at h; cases h) (ef_41_0 m a1) ⟨rfl, N0, rfl⟩ fun fs hr => ?_
  refine aln X0 qz d41_0 ?_
  refine st1 _ ?_
  exact retI X1 hx Bd.returns (hb hby d41_4) hr
theorem d40_4 : dk cb40 4 .ireturn 1 := by decide +kernel
abbrev y34 : MethodName := (⟨"java/lang/StringBuilder", "length", "()I"⟩ : MethodName)
theorem ef_40_0 (m : MethodId) (x0 : Addr) : entryFrame m #[(.ref x0)] 1 = mkF m 0 #[.val (.ref x0)] [] := by first | (simp [entryFrame, mkF, argsToLocals, Value.category]; done) | rfl
theorem rm52 (l : Launch) (Z : State) (a0 : Array Value) (hw : HW Z a0) (ws : List Jvm.Cond) (w_enc w_tb : Addr) (cs_v : Int32) (cl_tb : Cell) (wv_fm : Value) (hp : Perm Z w_enc w_tb cs_v cl_tb wv_fm) (a1 : Addr) (p2 : Int32) (h0 : Heap) (n0 : Nat) (O0 : Old Z n0 h0) (F_count_a1 : Fld Z h0 a1 "java/lang/AbstractStringBuilder" "count" "I" (.int p2)) (E_a1 : Exa Z h0 a1 "java/lang/StringBuilder") :
    MF l y34 (Jvm.Cond.code y34 jdk_67_method_93_code 1 (some .int) :: ws) ({ frames := 1, cells := 0, slots := 0, locals := 12 } : Room) Z #[(.ref a1)] h0 (fun v h L => v = some (.int p2) ∧ Fr n0 L ∧ h = h0) := by
  refine mfB (plainFor_of_name pn_10) hw fun p e s m below meth c s₁ Bd Kz X0 e0 => ?_
  obtain ⟨hx, hby, hml, hZ, hown, -⟩ := id Kz
  have qz := And.intro hx hby
  have N0 := Fr.nil n0
  obtain ⟨_, T1, Lc1, X1, hQ1, st1⟩ := uB X0 Kz y33 0 235 231 83 236 65 (rm51 l Z a0 hw [] w_enc w_tb cs_v cl_tb wv_fm hp a1 p2 h0 n0 O0 F_count_a1) e0 E_a1 (own_same (wq hw 101 rfl) rfl (wq hw 231 rfl) (by decide)) (mkF m 1 #[vr a1] [(.ref a1)]) [] [] pd_12 d40_1
  obtain ⟨rfl, Nq1, eq1⟩ := hQ1
  have N1 := Fr.app N0 Nq1
  refine mfE Bd X1 (some (.int p2)) eq1 (fun h => by rw [Bd.returns] at h; cases h) (ef_40_0 m a1) ⟨rfl, N1, rfl⟩ fun fs hr => ?_
  refine aln X0 qz d40_0 ?_
  refine st1.trans ?_
  exact retI X1 hx Bd.returns (hb hby d40_4) hr
theorem d38_13 : dk cb38 13 (.istore 4) 2 := by decide +kernel
theorem d38_15 : dk cb38 15 (.aload_n 1) 1 := by decide +kernel
theorem d38_16 : dk cb38 16 (.invokevirtual 1047) 3 := by decide +kernel
abbrev cb42 : ByteArray := jdk_68_method_68_code
theorem d42_0 : dk cb42 0 (.getstatic 18) 3 := by decide +kernel
theorem d42_3 : dk cb42 3 (.ifCond .eq 14) 3 := by decide +kernel
theorem d42_6 : dk cb42 6 (.aload_n 0) 1 := by decide +kernel
theorem d42_7 : dk cb42 7 (.getfield 22) 3 := by decide +kernel
theorem d42_10 : dk cb42 10 (.ifCond .ne 7) 3 := by decide +kernel
theorem d42_13 : dk cb42 13 (.iconst 1) 1 := by decide +kernel
theorem d42_14 : dk cb42 14 (.goto 4) 3 := by decide +kernel
theorem d42_18 : dk cb42 18 .ireturn 1 := by decide +kernel
abbrev y35 : MethodName := (⟨"java/lang/AbstractStringBuilder", "isLatin1", "()Z"⟩ : MethodName)
theorem ef_42_0 (m : MethodId) (x0 : Addr) : entryFrame m #[(.ref x0)] 1 = mkF m 0 #[.val (.ref x0)] [] := by first | (simp [entryFrame, mkF, argsToLocals, Value.category]; done) | rfl
theorem rm53 (l : Launch) (Z : State) (a0 : Array Value) (hw : HW Z a0) (ws : List Jvm.Cond) (w_enc w_tb : Addr) (cs_v : Int32) (cl_tb : Cell) (wv_fm : Value) (hp : Perm Z w_enc w_tb cs_v cl_tb wv_fm) (a1 : Addr) (h0 : Heap) (n0 : Nat) (O0 : Old Z n0 h0) (F_coder_a1 : Fld Z h0 a1 "java/lang/AbstractStringBuilder" "coder" "B" (.int 0)) :
    MF l y35 (Jvm.Cond.code y35 jdk_68_method_68_code 1 (some .boolean) :: ws) ({ frames := 0, cells := 0, slots := 0, locals := 0 } : Room) Z #[(.ref a1)] h0 (fun v h L => v = some (.int 1) ∧ Fr n0 L ∧ h = h0) := by
  refine mfB (plainFor_of_name pn_11) hw fun p e s m below meth c s₁ Bd Kz X0 e0 => ?_
  obtain ⟨hx, hby, hml, hZ, hown, -⟩ := id Kz
  have qz := And.intro hx hby
  have N0 := Fr.nil n0
  obtain ⟨S_COMPACT_STRINGS, h_cs, _⟩ := id hp
  obtain ⟨T1, X1, e1, st1⟩ := getS2 X0 hx hZ hown (host := "") (Or.inl (wq hw 68 rfl)) Via.refl e0 (S_COMPACT_STRINGS.ext O0.2) (g := (mkF m 0 #[vr a1] [])) rfl (hb hby d42_0)
  obtain ⟨T2, X2, e2, st2⟩ := gF X1 Kz 71 e1 F_coder_a1 (mkF m 7 #[vr a1] [(.ref a1)]) d42_7
  refine mfE Bd X2 (some (.int 1)) e2 (fun h => by rw [Bd.returns] at h; cases h) (ef_42_0 m a1) ⟨rfl, N0, rfl⟩ fun fs hr => ?_
  refine st1 _ ?_
  refine ifN X1 qz d42_3 (feq h_cs).1 ?_
  refine aln X1 qz d42_6 ?_
  refine st2 _ ?_
  refine ifN X2 qz d42_10 (teq (by decide : (0 : Int32) = (0 : Int32))).2 ?_
  refine ic X2 qz d42_13 ?_
  refine gt X2 qz 14 18 d42_14 ?_
  exact retN X2 hx (t := .boolean) Bd.returns (by simp) (hb hby d42_18) hr
theorem pd_27 : parseMethodDescriptor "()Z" = some ⟨[], some .boolean⟩ := by decide +kernel
theorem d38_19 : dk cb38 19 (.ifCond .eq 22) 3 := by decide +kernel
theorem d38_22 : dk cb38 22 (.aload_n 0) 1 := by decide +kernel
theorem d38_23 : dk cb38 23 (.iconst 0) 1 := by decide +kernel
theorem d38_24 : dk cb38 24 (.putfield 15) 3 := by decide +kernel
theorem d38_27 : dk cb38 27 (.aload_n 0) 1 := by decide +kernel
theorem d38_28 : dk cb38 28 (.aload_n 3) 1 := by decide +kernel
theorem d38_29 : dk cb38 29 (.iconst 0) 1 := by decide +kernel
theorem d38_30 : dk cb38 30 (.iload 4) 2 := by decide +kernel
theorem d38_32 : dk cb38 32 (.invokestatic 54) 3 := by decide +kernel
abbrev cb30 : ByteArray := jdk_65_method_132_code
theorem d30_0 : dk cb30 0 (.iload_n 1) 1 := by decide +kernel
theorem d30_1 : dk cb30 1 (.ifCond .ne 9) 3 := by decide +kernel
theorem d30_4 : dk cb30 4 (.iload_n 2) 1 := by decide +kernel
theorem d30_5 : dk cb30 5 (.aload_n 0) 1 := by decide +kernel
theorem d30_6 : dk cb30 6 .arraylength 1 := by decide +kernel
theorem d30_7 : dk cb30 7 (.if_icmp .eq 10) 3 := by decide +kernel
theorem d30_10 : dk cb30 10 (.aload_n 0) 1 := by decide +kernel
theorem d30_11 : dk cb30 11 (.iload_n 1) 1 := by decide +kernel
theorem d30_12 : dk cb30 12 (.iload_n 2) 1 := by decide +kernel
theorem d30_13 : dk cb30 13 (.invokestatic 339) 3 := by decide +kernel
abbrev cb43 : ByteArray := jdk_65_method_133_code
theorem d43_0 : dk cb43 0 (.iload_n 1) 1 := by decide +kernel
theorem d43_1 : dk cb43 1 (.iload_n 2) 1 := by decide +kernel
theorem d43_2 : dk cb43 2 (.invokestatic 343) 3 := by decide +kernel
abbrev cb44 : ByteArray := jdk_65_method_131_code
theorem d44_0 : dk cb44 0 (.iload_n 1) 1 := by decide +kernel
theorem d44_1 : dk cb44 1 (.iload_n 0) 1 := by decide +kernel
theorem d44_2 : dk cb44 2 (.if_icmp .ge 35) 3 := by decide +kernel
theorem d44_37 : dk cb44 37 .return_ 1 := by decide +kernel
abbrev y36 : MethodName := (⟨"java/util/Arrays", "checkLength", "(II)V"⟩ : MethodName)
theorem ef_44_0 (m : MethodId) (x0 : Int32) (x1 : Int32) : entryFrame m #[(.int x0), (.int x1)] 2 = mkF m 0 #[.val (.int x0), .val (.int x1)] [] := by first | (simp [entryFrame, mkF, argsToLocals, Value.category]; done) | rfl
theorem pn_44 : plainName "java/util/Arrays" = true := by first | (simp [plainName, overriddenIn]; done) | decide +kernel
theorem rm54 (l : Launch) (Z : State) (a0 : Array Value) (hw : HW Z a0) (ws : List Jvm.Cond) (w_enc w_tb : Addr) (cs_v : Int32) (cl_tb : Cell) (wv_fm : Value) (hp : Perm Z w_enc w_tb cs_v cl_tb wv_fm) (p1 : Int32) (h0 : Heap) (n0 : Nat) (O0 : Old Z n0 h0) (hc1 : ¬ (p1 < (0 : Int32))) :
    MF l y36 (Jvm.Cond.code y36 jdk_65_method_131_code 2 none :: ws) ({ frames := 0, cells := 0, slots := 0, locals := 0 } : Room) Z #[(.int 0), (.int p1)] h0 (fun v h L => v = none ∧ Fr n0 L ∧ h = h0) := by
  refine mfB (plainFor_of_name pn_44) hw fun p e s m below meth c s₁ Bd Kz X0 e0 => ?_
  obtain ⟨hx, hby, hml, hZ, hown, -⟩ := id Kz
  have qz := And.intro hx hby
  have N0 := Fr.nil n0
  refine mfE Bd X0 (none) e0 (fun _ => rfl) (ef_44_0 m (0 : Int32) p1) ⟨rfl, N0, rfl⟩ fun fs hr => ?_
  refine iln X0 qz d44_0 ?_
  refine iln X0 qz d44_1 ?_
  refine icY X0 qz 2 37 d44_2 (flt hc1).2.1 ?_
  exact X0.returnOut hx Bd.returns (hb hby d44_37) hr
theorem pd_28 : parseMethodDescriptor "(II)V" = some ⟨[.int, .int], none⟩ := by decide +kernel
theorem d43_5 : dk cb43 5 (.iload_n 2) 1 := by decide +kernel
theorem d43_6 : dk cb43 6 (.iload_n 1) 1 := by decide +kernel
theorem d43_7 : dk cb43 7 .isub 1 := by decide +kernel
theorem d43_8 : dk cb43 8 (.istore_n 3) 1 := by decide +kernel
theorem d43_9 : dk cb43 9 (.iload_n 3) 1 := by decide +kernel
theorem d43_10 : dk cb43 10 (.newarray .byte) 2 := by decide +kernel
theorem d43_12 : dk cb43 12 (.astore 4) 2 := by decide +kernel
theorem d43_14 : dk cb43 14 (.aload_n 0) 1 := by decide +kernel
theorem d43_15 : dk cb43 15 (.iload_n 1) 1 := by decide +kernel
theorem d43_16 : dk cb43 16 (.aload 4) 2 := by decide +kernel
theorem d43_18 : dk cb43 18 (.iconst 0) 1 := by decide +kernel
theorem d43_19 : dk cb43 19 (.aload_n 0) 1 := by decide +kernel
theorem d43_20 : dk cb43 20 .arraylength 1 := by decide +kernel
theorem d43_21 : dk cb43 21 (.iload_n 1) 1 := by decide +kernel
theorem d43_22 : dk cb43 22 .isub 1 := by decide +kernel
theorem d43_23 : dk cb43 23 (.iload_n 3) 1 := by decide +kernel
theorem d43_24 : dk cb43 24 (.invokestatic 304) 3 := by decide +kernel
theorem d35_9 : dk cb35 9 (.iload_n 1) 1 := by decide +kernel
theorem rm55 (l : Launch) (Z : State) (a0 : Array Value) (hw : HW Z a0) (ws : List Jvm.Cond) (w_enc w_tb : Addr) (cs_v : Int32) (cl_tb : Cell) (wv_fm : Value) (hp : Perm Z w_enc w_tb cs_v cl_tb wv_fm) (p1 : Int32) (p2 : Int32) (h0 : Heap) (n0 : Nat) (O0 : Old Z n0 h0) (hc1 : p2 < p1) :
    MF l y6 (Jvm.Cond.code y6 jdk_29_method_69_code 2 (some .int) :: ws) ({ frames := 0, cells := 0, slots := 0, locals := 0 } : Room) Z #[(.int p1), (.int p2)] h0 (fun v h L => v = some (.int p2) ∧ Fr n0 L ∧ h = h0) := by
  refine mfB (Jvm.Free.JP.mathPlain rfl (by decide +kernel)) hw fun p e s m below meth c s₁ Bd Kz X0 e0 => ?_
  obtain ⟨hx, hby, hml, hZ, hown, -⟩ := id Kz
  have qz := And.intro hx hby
  have N0 := Fr.nil n0
  refine mfE Bd X0 (some (.int p2)) e0 (fun h => by rw [Bd.returns] at h; cases h) (ef_35_0 m p1 p2) ⟨rfl, N0, rfl⟩ fun fs hr => ?_
  refine iln X0 qz d35_0 ?_
  refine iln X0 qz d35_1 ?_
  refine icY X0 qz 2 9 d35_2 (tlt hc1).2.2.1 ?_
  refine iln X0 qz d35_9 ?_
  exact retI X0 hx Bd.returns (hb hby d35_10) hr
theorem d43_27 : dk cb43 27 (.invokestatic 150) 3 := by decide +kernel
theorem d43_30 : dk cb43 30 (.aload 4) 2 := by decide +kernel
theorem d43_32 : dk cb43 32 .areturn 1 := by decide +kernel
abbrev y37 : MethodName := (⟨"java/util/Arrays", "copyOfRangeByte", "([BII)[B"⟩ : MethodName)
theorem ef_43_0 (m : MethodId) (x0 : Addr) (x1 : Int32) (x2 : Int32) : entryFrame m #[(.ref x0), (.int x1), (.int x2)] 5 = mkF m 0 #[.val (.ref x0), .val (.int x1), .val (.int x2), .unset, .unset] [] := by first | (simp [entryFrame, mkF, argsToLocals, Value.category]; done) | rfl
theorem rm56 (l : Launch) (Z : State) (a0 : Array Value) (hw : HW Z a0) (ws : List Jvm.Cond) (w_enc w_tb : Addr) (cs_v : Int32) (cl_tb : Cell) (wv_fm : Value) (hp : Perm Z w_enc w_tb cs_v cl_tb wv_fm) (a1 : Addr) (p2 : Int32) (k_a1 : ClassId) (l_a1 : List Value) (p5 : Int32) (h0 : Heap) (n0 : Nat) (O0 : Old Z n0 h0) (hc1 : ¬ (p2 < (0 : Int32))) (hs2 : ¬ ((p2 - (0 : Int32))) < 0) (hs3 : ((p2 - (0 : Int32))).toNatClampNeg ≤ 40) (V_a1 : Arv Z h0 a1 k_a1 .byte p5 (lid l_a1) (.int 0)) (hc5 : (p2 - (0 : Int32)) < (p5 - (0 : Int32))) (hs6 : ((0 : Int32)).toNatClampNeg + ((p2 - (0 : Int32))).toNatClampNeg ≤ (p5).toNatClampNeg) (hs7 : ((0 : Int32)).toNatClampNeg + ((p2 - (0 : Int32))).toNatClampNeg ≤ ((p2 - (0 : Int32))).toNatClampNeg) (hs8 : ((0 : Int32)).toNatClampNeg + ((p2 - (0 : Int32))).toNatClampNeg ≤ ((repL (p2 - (0 : Int32)))).length) :
    MF l y37 (Jvm.Cond.code y37 jdk_65_method_133_code 5 (some (.array .byte)) :: ws) ({ frames := 1, cells := 1, slots := 40, locals := 18 } : Room) Z #[(.ref a1), (.int 0), (.int p2)] h0 (fun v h L => ∃ (b2 : Addr), ∃ (k2 : ClassId), v = some (.ref b2) ∧ Fr n0 L ∧ Keep h0 h [] ∧ h0.size ≤ b2 ∧ Exa Z h b2 "[B" ∧ Arv Z h b2 k2 .byte (p2 - (0 : Int32)) (lid (cpL (repL (p2 - (0 : Int32))) l_a1 (0 : Int32) (0 : Int32) (p2 - (0 : Int32)))) (.int 0)) := by
  refine mfB (plainFor_of_name pn_44) hw fun p e s m below meth c s₁ Bd Kz X0 e0 => ?_
  obtain ⟨hx, hby, hml, hZ, hown, -⟩ := id Kz
  have qz := And.intro hx hby
  have N0 := Fr.nil n0
  obtain ⟨_, T1, Lc1, X1, hQ1, st1⟩ := cS X0 Kz y36 0 245 246 179 247 (rm54 l Z a0 hw [] w_enc w_tb cs_v cl_tb wv_fm hp p2 h0 n0 O0 hc1) e0 (mkF m 2 #[vr a1, vi 0, vi p2, uu, uu] [(.int p2), (.int 0)]) [(.int 0), (.int p2)] [] pd_28 d43_2
  obtain ⟨rfl, Nq1, eq1⟩ := hQ1
  have N1 := Fr.app N0 Nq1
  obtain ⟨T2, h2, k2, X2, e2, E2, A2, EA2, st2⟩ := newPE X1 hx hZ (wq hw 6 rfl) eq1 (g := (mkF m 10 #[vr a1, vi 0, vi p2, .val (.int (p2 - (0 : Int32))), uu] [(.int (p2 - (0 : Int32)))])) rfl (hb hby d43_10) rfl hs2 (cap := 40) hs3 (by decide) (by decide) (by decide) (ad := "[B") (by decide)
  obtain ⟨b2, g2⟩ : ∃ z, z = h0.size := ⟨_, rfl⟩
  rw [← g2] at A2 EA2 st2
  have g_b2 : n0 ≤ b2 := Nat.le_trans (own_sz O0) (Nat.le_of_eq g2.symm)
  have sz_b2 : h0.size ≤ b2 := Nat.le_trans (Keep.refl h0 []).1 (Nat.le_of_eq g2.symm)
  have O2 := O0.ext E2
  have K2 : Keep h0 h2 [] := (Keep.refl h0 []).ext E2
  have V_b2 : Arv Z h2 b2 k2 .byte (p2 - (0 : Int32)) (lid (repL (p2 - (0 : Int32)))) (.int 0) := (Arv.new A2 hs2).pad (pad_rep [] (.int 0) _)
  obtain ⟨_, T4, Lc4, X4, hQ4, st4⟩ := cS X2 Kz y6 4 208 209 150 210 (rm55 l Z a0 hw [] w_enc w_tb cs_v cl_tb wv_fm hp (p5 - (0 : Int32)) (p2 - (0 : Int32)) h2 n0 O2 hc5) e2 (mkF m 24 #[vr a1, vi 0, vi p2, .val (.int (p2 - (0 : Int32))), vr b2] [(.int (p2 - (0 : Int32))), (.int (p5 - (0 : Int32))), (.int 0), (.ref b2), (.int 0), (.ref a1)]) [(.int (p5 - (0 : Int32))), (.int (p2 - (0 : Int32)))] [(.int 0), (.ref b2), (.int 0), (.ref a1)] pd_0 d43_24
  obtain ⟨rfl, Nq4, eq4⟩ := hQ4
  have N4 := Fr.app N1 Nq4
  obtain ⟨T5, h5, Lc5, X5, e5, N5, Kq5, Vq5, st5⟩ := cpA X4 hx hZ hown (wq hw 211 rfl) (wq hw 122 rfl) (wq hw 120 rfl) (wq hw 121 rfl) eq4 (sp := (0 : Int32)) (dp := (0 : Int32)) (nn := (p2 - (0 : Int32))) (us := _) (V_a1.ext E2) V_b2 (Or.inl ⟨rfl, rfl⟩) (by decide) (by decide) hs2 hs6 hs7 rfl hs8 N4 g_b2 (g := (mkF m 27 #[vr a1, vi 0, vi p2, .val (.int (p2 - (0 : Int32))), vr b2] [(.int (p2 - (0 : Int32))), (.int 0), (.ref b2), (.int 0), (.ref a1)])) rfl (by rw [hml]; rfl) (rest := []) rfl (hb hby d43_27) (by decide) (W := 0) (by show 2 * 0 + _ ≤ _; exact Nat.le_of_eq rfl) (by decide)
  have K5 : Keep h0 h5 [] := K2.trans Kq5 (allS (Or.inr sz_b2) all0)
  have V_b2_5 : Arv Z h5 b2 k2 .byte (p2 - (0 : Int32)) (lid (cpL (repL (p2 - (0 : Int32))) l_a1 (0 : Int32) (0 : Int32) (p2 - (0 : Int32)))) (.int 0) := Vq5
  refine mfE Bd X5 (some (.ref b2)) e5 (fun h => by rw [Bd.returns] at h; cases h) (ef_43_0 m a1 (0 : Int32) p2) ⟨b2, k2, rfl, N5, K5, sz_b2, (EA2.keep Kq5), V_b2_5⟩ fun fs hr => ?_
  refine iln X0 qz d43_0 ?_
  refine iln X0 qz d43_1 ?_
  refine st1 _ ?_
  refine iln X1 qz d43_5 ?_
  refine iln X1 qz d43_6 ?_
  refine wib X1 qz d43_7 ?_
  refine stn X1 qz d43_8 #[vr a1, vi 0, vi p2, .val (.int (p2 - (0 : Int32))), uu] ?_
  refine iln X1 qz d43_9 ?_
  refine st2 _ ?_
  refine sta X2 qz d43_12 #[vr a1, vi 0, vi p2, .val (.int (p2 - (0 : Int32))), vr b2] ?_
  refine aln X2 qz d43_14 ?_
  refine iln X2 qz d43_15 ?_
  refine al X2 qz d43_16 ?_
  refine ic X2 qz d43_18 ?_
  refine aln X2 qz d43_19 ?_
  refine aL X2 Kz e2 (V_a1.ext E2) d43_20 ?_
  show Sp p e below T2 (mkF m 21 #[vr a1, vi 0, vi p2, .val (.int (p2 - (0 : Int32))), vr b2] [(.int p5), (.int 0), (.ref b2), (.int 0), (.ref a1)]) _
  refine iln X2 qz d43_21 ?_
  refine wib X2 qz d43_22 ?_
  refine iln X2 qz d43_23 ?_
  refine st4 _ ?_
  refine st5 _ ?_
  refine al X5 qz d43_30 ?_
  jvm_step X5.here [X5.here.top, hx, (hb hby d43_32), X5.method', Bd.returns, Value.isRef, FieldType.isReference]
  first | (intro acts; rw [hr _ acts rfl rfl rfl]) | rw [hr _ _ rfl rfl rfl]
  exact Steps.refl _
theorem pd_29 : parseMethodDescriptor "([BII)[B" = some ⟨[(.array .byte), .int, .int], some (.array .byte)⟩ := by decide +kernel
theorem d30_16 : dk cb30 16 .areturn 1 := by decide +kernel
abbrev y38 : MethodName := (⟨"java/util/Arrays", "copyOfRange", "([BII)[B"⟩ : MethodName)
theorem ef_30_0 (m : MethodId) (x0 : Addr) (x1 : Int32) (x2 : Int32) : entryFrame m #[(.ref x0), (.int x1), (.int x2)] 3 = mkF m 0 #[.val (.ref x0), .val (.int x1), .val (.int x2)] [] := by first | (simp [entryFrame, mkF, argsToLocals, Value.category]; done) | rfl
theorem rm57 (l : Launch) (Z : State) (a0 : Array Value) (hw : HW Z a0) (ws : List Jvm.Cond) (w_enc w_tb : Addr) (cs_v : Int32) (cl_tb : Cell) (wv_fm : Value) (hp : Perm Z w_enc w_tb cs_v cl_tb wv_fm) (a1 : Addr) (p2 : Int32) (k_a1 : ClassId) (l_a1 : List Value) (p5 : Int32) (h0 : Heap) (n0 : Nat) (O0 : Old Z n0 h0) (V_a1 : Arv Z h0 a1 k_a1 .byte p5 (lid l_a1) (.int 0)) (hc2 : ¬ (p2 = p5)) (hc3 : ¬ (p2 < (0 : Int32))) (hc4 : (p2 - (0 : Int32)) < (p5 - (0 : Int32))) (hs5 : ¬ ((p2 - (0 : Int32))) < 0) (hs6 : ((p2 - (0 : Int32))).toNatClampNeg ≤ 40) (hs7 : ((0 : Int32)).toNatClampNeg + ((p2 - (0 : Int32))).toNatClampNeg ≤ (p5).toNatClampNeg) (hs8 : ((0 : Int32)).toNatClampNeg + ((p2 - (0 : Int32))).toNatClampNeg ≤ ((p2 - (0 : Int32))).toNatClampNeg) (hs9 : ((0 : Int32)).toNatClampNeg + ((p2 - (0 : Int32))).toNatClampNeg ≤ ((repL (p2 - (0 : Int32)))).length) :
    MF l y38 (Jvm.Cond.code y38 jdk_65_method_132_code 3 (some (.array .byte)) :: ws) ({ frames := 2, cells := 1, slots := 40, locals := 34 } : Room) Z #[(.ref a1), (.int 0), (.int p2)] h0 (fun v h L => ∃ (b2_0 : Addr), ∃ (kc2_0 : ClassId), v = some (.ref b2_0) ∧ Fr n0 L ∧ Keep h0 h [] ∧ h0.size ≤ b2_0 ∧ Exa Z h b2_0 "[B" ∧ Arv Z h b2_0 kc2_0 .byte (p2 - (0 : Int32)) (lid (cpL (repL (p2 - (0 : Int32))) l_a1 (0 : Int32) (0 : Int32) (p2 - (0 : Int32)))) (.int 0)) := by
  refine mfB (plainFor_of_name pn_44) hw fun p e s m below meth c s₁ Bd Kz X0 e0 => ?_
  obtain ⟨hx, hby, hml, hZ, hown, -⟩ := id Kz
  have qz := And.intro hx hby
  have N0 := Fr.nil n0
  obtain ⟨_, T2, Lc2, X2, hQ2, st2⟩ := cS X0 Kz y37 0 242 243 179 244 (rm56 l Z a0 hw [] w_enc w_tb cs_v cl_tb wv_fm hp a1 p2 k_a1 l_a1 p5 h0 n0 O0 hc3 hs5 hs6 V_a1 hc4 hs7 hs8 hs9) e0 (mkF m 13 #[vr a1, vi 0, vi p2] [(.int p2), (.int 0), (.ref a1)]) [(.ref a1), (.int 0), (.int p2)] [] pd_29 d30_13
  obtain ⟨b2_0, kc2_0, rfl, Nq2, Kq2, sq_b2_0, fq2_0, fq2_1⟩ := hQ2
  have N2 := Fr.app N0 Nq2
  have sz_b2_0 : h0.size ≤ b2_0 := Nat.le_trans (Keep.refl h0 []).1 sq_b2_0
  have K2 : Keep h0 T2.heap [] := (Keep.refl h0 []).trans Kq2 all0
  refine mfE Bd X2 (some (.ref b2_0)) rfl (fun h => by rw [Bd.returns] at h; cases h) (ef_30_0 m a1 (0 : Int32) p2) ⟨b2_0, kc2_0, rfl, N2, K2, sz_b2_0, fq2_0, fq2_1⟩ fun fs hr => ?_
  refine iln X0 qz d30_0 ?_
  refine ifN X0 qz d30_1 (teq (by decide : (0 : Int32) = (0 : Int32))).2 ?_
  refine iln X0 qz d30_4 ?_
  refine aln X0 qz d30_5 ?_
  refine aL X0 Kz e0 V_a1 d30_6 ?_
  refine icN X0 qz d30_7 (feq hc2).1 ?_
  refine aln X0 qz d30_10 ?_
  refine iln X0 qz d30_11 ?_
  refine iln X0 qz d30_12 ?_
  refine st2 _ ?_
  jvm_step X2.here [X2.here.top, hx, (hb hby d30_16), X2.method', Bd.returns, Value.isRef, FieldType.isReference]
  first | (intro acts; rw [hr _ acts rfl rfl rfl]) | rw [hr _ _ rfl rfl rfl]
  exact Steps.refl _
theorem d38_35 : dk cb38 35 (.putfield 9) 3 := by decide +kernel
theorem d38_38 : dk cb38 38 (.goto 59) 3 := by decide +kernel
theorem d38_97 : dk cb38 97 .return_ 1 := by decide +kernel
abbrev y39 : MethodName := (⟨"java/lang/String", "<init>", "(Ljava/lang/AbstractStringBuilder;Ljava/lang/Void;)V"⟩ : MethodName)
theorem ef_38_0 (m : MethodId) (x0 : Addr) (x1 : Addr) : entryFrame m #[(.ref x0), (.ref x1), .null] 5 = mkF m 0 #[.val (.ref x0), .val (.ref x1), .val .null, .unset, .unset] [] := by first | (simp [entryFrame, mkF, argsToLocals, Value.category]; done) | rfl
theorem rm58 (l : Launch) (Z : State) (a0 : Array Value) (hw : HW Z a0) (ws : List Jvm.Cond) (w_enc w_tb : Addr) (cs_v : Int32) (cl_tb : Cell) (wv_fm : Value) (hp : Perm Z w_enc w_tb cs_v cl_tb wv_fm) (a1 : Addr) (a2 : Addr) (a3 : Addr) (p4 : Int32) (k_a3 : ClassId) (l_a3 : List Value) (p7 : Int32) (h0 : Heap) (n0 : Nat) (O0 : Old Z n0 h0) (E_a2 : Exa Z h0 a2 "java/lang/StringBuilder") (F_value_a2 : Fld Z h0 a2 "java/lang/AbstractStringBuilder" "value" "[B" (.ref a3)) (F_count_a2 : Fld Z h0 a2 "java/lang/AbstractStringBuilder" "count" "I" (.int p4)) (F_coder_a2 : Fld Z h0 a2 "java/lang/AbstractStringBuilder" "coder" "B" (.int 0)) (E_a1 : Exa Z h0 a1 "java/lang/String") (F_coder_a1 : Fld Z h0 a1 "java/lang/String" "coder" "B" (.int 0)) (F_value_a1 : Fld Z h0 a1 "java/lang/String" "value" "[B" .null) (g_a1 : n0 ≤ a1) (V_a3 : Arv Z h0 a3 k_a3 .byte p7 (lid l_a3) (.int 0)) (hc10 : ¬ (p4 = p7)) (hc11 : ¬ (p4 < (0 : Int32))) (hc12 : (p4 - (0 : Int32)) < (p7 - (0 : Int32))) (ne_a1_a3 : a1 ≠ a3) (hs14 : ¬ ((p4 - (0 : Int32))) < 0) (hs15 : ((p4 - (0 : Int32))).toNatClampNeg ≤ 40) (hs16 : ((0 : Int32)).toNatClampNeg + ((p4 - (0 : Int32))).toNatClampNeg ≤ (p7).toNatClampNeg) (hs17 : ((0 : Int32)).toNatClampNeg + ((p4 - (0 : Int32))).toNatClampNeg ≤ ((p4 - (0 : Int32))).toNatClampNeg) (hs18 : ((0 : Int32)).toNatClampNeg + ((p4 - (0 : Int32))).toNatClampNeg ≤ ((repL (p4 - (0 : Int32)))).length) :
    MF l y39 (Jvm.Cond.code y39 jdk_42_method_150_code 5 none :: ws) ({ frames := 3, cells := 1, slots := 40, locals := 49 } : Room) Z #[(.ref a1), (.ref a2), .null] h0 (fun v h L => ∃ (b6_0 : Addr), ∃ (kc6_0 : ClassId), v = none ∧ Fr n0 L ∧ Keep h0 h [a1] ∧ h0.size ≤ b6_0 ∧ Exa Z h a1 "java/lang/String" ∧ Fld Z h a1 "java/lang/String" "coder" "B" (.int 0) ∧ Fld Z h a1 "java/lang/String" "value" "[B" (.ref b6_0) ∧ Exa Z h b6_0 "[B" ∧ Arv Z h b6_0 kc6_0 .byte (p4 - (0 : Int32)) (lid (cpL (repL (p4 - (0 : Int32))) l_a3 (0 : Int32) (0 : Int32) (p4 - (0 : Int32)))) (.int 0)) := by
  refine mfB (plainFor_of_name pn_5) hw fun p e s m below meth c s₁ Bd Kz X0 e0 => ?_
  obtain ⟨hx, hby, hml, hZ, hown, -⟩ := id Kz
  have qz := And.intro hx hby
  have N0 := Fr.nil n0
  have hnm := (name_of_methodNamed Bd.named Bd.method).1
  obtain ⟨T1, X1, e1, st1⟩ := initO X0 hx hZ hown (wq hw 28 rfl) (wq hw 29 rfl) (wq hw 30 rfl) e0 (g := (mkF m 1 #[vr a1, vr a2, .val .null, uu, uu] [(.ref a1)])) rfl (by rw [hml]; rfl) rfl (hb hby d38_1) (by decide) (W := 0) (by show 2 * 0 + _ ≤ _; exact Nat.le_of_eq rfl) (by decide)
  obtain ⟨_, T2, Lc2, X2, hQ2, st2⟩ := vS X1 Kz y32 0 224 225 227 226 228 65 (rm50 l Z a0 hw [] w_enc w_tb cs_v cl_tb wv_fm hp a2 a3 h0 n0 O0 F_value_a2) e1 E_a2 (mkF m 5 #[vr a1, vr a2, .val .null, uu, uu] [(.ref a2)]) [] [] pd_26 d38_5
  obtain ⟨rfl, Nq2, eq2⟩ := hQ2
  have N2 := Fr.app N0 Nq2
  obtain ⟨_, T3, Lc3, X3, hQ3, st3⟩ := vB X2 Kz y33 y34 0 229 230 232 233 234 57 (rm52 l Z a0 hw [] w_enc w_tb cs_v cl_tb wv_fm hp a2 p4 h0 n0 O0 F_count_a2 E_a2) eq2 E_a2 (own_nfs (args := #[]) (y := y33) (mvT hZ (wq hw 101 rfl)) rfl) (mkF m 10 #[vr a1, vr a2, .val .null, vr a3, uu] [(.ref a2)]) [] [] pd_12 d38_10
  obtain ⟨rfl, Nq3, eq3⟩ := hQ3
  have N3 := Fr.app N2 Nq3
  obtain ⟨_, T4, Lc4, X4, hQ4, st4⟩ := vS X3 Kz y35 0 237 238 240 239 241 65 (rm53 l Z a0 hw [] w_enc w_tb cs_v cl_tb wv_fm hp a2 h0 n0 O0 F_coder_a2) eq3 E_a2 (mkF m 16 #[vr a1, vr a2, .val .null, vr a3, vi p4] [(.ref a2)]) [] [] pd_27 d38_16
  obtain ⟨rfl, Nq4, eq4⟩ := hQ4
  have N4 := Fr.app N3 Nq4
  obtain ⟨T5, h5, X5, e5, W5, st5⟩ := putFN X4 hx hZ hown (wq hw 33 rfl) Via.refl eq4 F_coder_a1 E_a1 (Or.inr ⟨(wq hw 34 rfl), rfl, hnm⟩) (wq hw 20 rfl) (ty := .byte) (v' := (.int 0)) (by decide) rfl rfl (g := (mkF m 24 #[vr a1, vr a2, .val .null, vr a3, vi p4] [(.int 0), (.ref a1)])) rfl rfl (hb hby d38_24)
  have N5 := Fr.snoc X5 N4 g_a1
  have O5 := O0.wr W5 g_a1
  have K5 : Keep h0 h5 [a1] := (Keep.refl h0 [a1]).wr W5 (Or.inl (ma 0 rfl))
  have Fw5 := F_coder_a1.same W5
  obtain ⟨_, T6, Lc6, X6, hQ6, st6⟩ := cS X5 Kz y38 1 177 178 179 180 (rm57 l Z a0 hw [] w_enc w_tb cs_v cl_tb wv_fm hp a3 p4 k_a3 l_a3 p7 h5 n0 O5 (V_a3.other W5 (Ne.symm ne_a1_a3)) hc10 hc11 hc12 hs14 hs15 hs16 hs17 hs18) e5 (mkF m 32 #[vr a1, vr a2, .val .null, vr a3, vi p4] [(.int p4), (.int 0), (.ref a3), (.ref a1)]) [(.ref a3), (.int 0), (.int p4)] [(.ref a1)] pd_29 d38_32
  obtain ⟨b6_0, kc6_0, rfl, Nq6, Kq6, sq_b6_0, fq6_0, fq6_1⟩ := hQ6
  have N6 := Fr.app N5 Nq6
  have sz_b6_0 : h0.size ≤ b6_0 := Nat.le_trans K5.1 sq_b6_0
  have K6 : Keep h0 T6.heap [a1] := K5.trans Kq6 all0
  obtain ⟨T7, h7, X7, e7, W7, st7⟩ := putF X6 hx hZ hown (host := "") (Or.inl (wq hw 31 rfl)) Via.refl rfl ((F_value_a1.other W5 (Or.inr (sn1 hw))).keep Kq6 nin0) ((E_a1.wr W5).keep Kq6) (Or.inr ⟨(wq hw 32 rfl), rfl, hnm⟩) (wq hw 20 rfl) (ty := (.array .byte)) (by decide) rfl rfl (g := (mkF m 35 #[vr a1, vr a2, .val .null, vr a3, vi p4] [(.ref b6_0), (.ref a1)])) rfl rfl (hb hby d38_35)
  have N7 := Fr.snoc X7 N6 g_a1
  have K7 : Keep h0 h7 [a1] := K6.wr W7 (Or.inl (ma 0 rfl))
  have Fw7 := ((F_value_a1.other W5 (Or.inr (sn1 hw))).keep Kq6 nin0).same W7
  have nz0 : a1 ≠ b6_0 := (Nat.ne_of_lt (Nat.lt_of_lt_of_le E_a1.lt sz_b6_0))
  refine mfE Bd X7 (none) e7 (fun _ => rfl) (ef_38_0 m a1 a2) ⟨b6_0, kc6_0, rfl, N7, K7, sz_b6_0, (((E_a1.wr W5).keep Kq6).wr W7), ((Fw5.keep Kq6 nin0).other W7 (Or.inr (sn0 hw))), Fw7, (fq6_0.wr W7), (fq6_1.other W7 (Ne.symm nz0))⟩ fun fs hr => ?_
  refine aln X0 qz d38_0 ?_
  refine st1 _ ?_
  refine aln X1 qz d38_4 ?_
  refine st2.trans ?_
  refine san X2 qz d38_8 #[vr a1, vr a2, .val .null, vr a3, uu] ?_
  refine aln X2 qz d38_9 ?_
  refine st3.trans ?_
  refine st X3 qz d38_13 #[vr a1, vr a2, .val .null, vr a3, vi p4] ?_
  refine aln X3 qz d38_15 ?_
  refine st4.trans ?_
  refine ifN X4 qz d38_19 (feq (by decide : ¬ ((1 : Int32) = (0 : Int32)))).1 ?_
  refine aln X4 qz d38_22 ?_
  refine ic X4 qz d38_23 ?_
  refine st5 _ ?_
  refine aln X5 qz d38_27 ?_
  refine aln X5 qz d38_28 ?_
  show Sp p e below T5 (mkF m 29 #[vr a1, vr a2, .val .null, vr a3, vi p4] [(.ref a3), (.ref a1)]) _
  refine ic X5 qz d38_29 ?_
  refine il X5 qz d38_30 ?_
  refine st6 _ ?_
  refine st7 _ ?_
  refine gt X7 qz 38 97 d38_38 ?_
  exact X7.returnOut hx Bd.returns (hb hby d38_97) hr
theorem pd_30 : parseMethodDescriptor "(Ljava/lang/AbstractStringBuilder;Ljava/lang/Void;)V" = some ⟨[(.object "java/lang/AbstractStringBuilder"), (.object "java/lang/Void")], none⟩ := by decide +kernel
theorem d37_6 : dk cb37 6 .return_ 1 := by decide +kernel
abbrev y40 : MethodName := (⟨"java/lang/String", "<init>", "(Ljava/lang/StringBuilder;)V"⟩ : MethodName)
theorem ef_37_0 (m : MethodId) (x0 : Addr) (x1 : Addr) : entryFrame m #[(.ref x0), (.ref x1)] 2 = mkF m 0 #[.val (.ref x0), .val (.ref x1)] [] := by first | (simp [entryFrame, mkF, argsToLocals, Value.category]; done) | rfl
theorem rm59 (l : Launch) (Z : State) (a0 : Array Value) (hw : HW Z a0) (ws : List Jvm.Cond) (w_enc w_tb : Addr) (cs_v : Int32) (cl_tb : Cell) (wv_fm : Value) (hp : Perm Z w_enc w_tb cs_v cl_tb wv_fm) (a1 : Addr) (a2 : Addr) (a3 : Addr) (p4 : Int32) (k_a3 : ClassId) (l_a3 : List Value) (p7 : Int32) (h0 : Heap) (n0 : Nat) (O0 : Old Z n0 h0) (E_a2 : Exa Z h0 a2 "java/lang/StringBuilder") (F_value_a2 : Fld Z h0 a2 "java/lang/AbstractStringBuilder" "value" "[B" (.ref a3)) (F_count_a2 : Fld Z h0 a2 "java/lang/AbstractStringBuilder" "count" "I" (.int p4)) (F_coder_a2 : Fld Z h0 a2 "java/lang/AbstractStringBuilder" "coder" "B" (.int 0)) (E_a1 : Exa Z h0 a1 "java/lang/String") (F_coder_a1 : Fld Z h0 a1 "java/lang/String" "coder" "B" (.int 0)) (F_value_a1 : Fld Z h0 a1 "java/lang/String" "value" "[B" .null) (V_a3 : Arv Z h0 a3 k_a3 .byte p7 (lid l_a3) (.int 0)) (hc9 : ¬ (p4 = p7)) (hc10 : ¬ (p4 < (0 : Int32))) (hc11 : (p4 - (0 : Int32)) < (p7 - (0 : Int32))) (g_a1 : n0 ≤ a1) (ne_a1_a3 : a1 ≠ a3) (hs14 : ¬ ((p4 - (0 : Int32))) < 0) (hs15 : ((p4 - (0 : Int32))).toNatClampNeg ≤ 40) (hs16 : ((0 : Int32)).toNatClampNeg + ((p4 - (0 : Int32))).toNatClampNeg ≤ (p7).toNatClampNeg) (hs17 : ((0 : Int32)).toNatClampNeg + ((p4 - (0 : Int32))).toNatClampNeg ≤ ((p4 - (0 : Int32))).toNatClampNeg) (hs18 : ((0 : Int32)).toNatClampNeg + ((p4 - (0 : Int32))).toNatClampNeg ≤ ((repL (p4 - (0 : Int32)))).length) :
    MF l y40 (Jvm.Cond.code y40 jdk_42_method_53_code 2 none :: ws) ({ frames := 4, cells := 1, slots := 40, locals := 65 } : Room) Z #[(.ref a1), (.ref a2)] h0 (fun v h L => ∃ (b1_0 : Addr), ∃ (kc1_0 : ClassId), v = none ∧ Fr n0 L ∧ Keep h0 h [a1] ∧ h0.size ≤ b1_0 ∧ Exa Z h a1 "java/lang/String" ∧ Fld Z h a1 "java/lang/String" "coder" "B" (.int 0) ∧ Fld Z h a1 "java/lang/String" "value" "[B" (.ref b1_0) ∧ Exa Z h b1_0 "[B" ∧ Arv Z h b1_0 kc1_0 .byte (p4 - (0 : Int32)) (lid (cpL (repL (p4 - (0 : Int32))) l_a3 (0 : Int32) (0 : Int32) (p4 - (0 : Int32)))) (.int 0)) := by
  refine mfB (plainFor_of_name pn_5) hw fun p e s m below meth c s₁ Bd Kz X0 e0 => ?_
  obtain ⟨hx, hby, hml, hZ, hown, -⟩ := id Kz
  have qz := And.intro hx hby
  have N0 := Fr.nil n0
  obtain ⟨_, T1, Lc1, X1, hQ1, st1⟩ := sB X0 Kz y39 0 221 222 223 12 (rm58 l Z a0 hw [] w_enc w_tb cs_v cl_tb wv_fm hp a1 a2 a3 p4 k_a3 l_a3 p7 h0 n0 O0 E_a2 F_value_a2 F_count_a2 F_coder_a2 E_a1 F_coder_a1 F_value_a1 g_a1 V_a3 hc9 hc10 hc11 ne_a1_a3 hs14 hs15 hs16 hs17 hs18) e0 a1 (mkF m 3 #[vr a1, vr a2] [.null, (.ref a2), (.ref a1)]) [(.ref a2), .null] [] pd_30 d37_3
  obtain ⟨b1_0, kc1_0, rfl, Nq1, Kq1, sq_b1_0, fq1_0, fq1_1, fq1_2, fq1_3, fq1_4⟩ := hQ1
  have N1 := Fr.app N0 Nq1
  have sz_b1_0 : h0.size ≤ b1_0 := Nat.le_trans (Keep.refl h0 [a1]).1 sq_b1_0
  have K1 : Keep h0 T1.heap [a1] := (Keep.refl h0 [a1]).trans Kq1 (allS (Or.inl (ma 0 rfl)) all0)
  refine mfE Bd X1 (none) rfl (fun _ => rfl) (ef_37_0 m a1 a2) ⟨b1_0, kc1_0, rfl, N1, K1, sz_b1_0, fq1_0, fq1_1, fq1_2, fq1_3, fq1_4⟩ fun fs hr => ?_
  refine aln X0 qz d37_0 ?_
  refine aln X0 qz d37_1 ?_
  refine XS.aconstNull X0.here hx rfl (hb hby d37_2) ?_
  refine st1.trans ?_
  exact X1.returnOut hx Bd.returns (hb hby d37_6) hr
theorem pd_31 : parseMethodDescriptor "(Ljava/lang/StringBuilder;)V" = some ⟨[(.object "java/lang/StringBuilder")], none⟩ := by decide +kernel
theorem d36_8 : dk cb36 8 .areturn 1 := by decide +kernel
abbrev y41 : MethodName := (⟨"java/lang/StringBuilder", "toString", "()Ljava/lang/String;"⟩ : MethodName)
theorem ef_36_0 (m : MethodId) (x0 : Addr) : entryFrame m #[(.ref x0)] 1 = mkF m 0 #[.val (.ref x0)] [] := by first | (simp [entryFrame, mkF, argsToLocals, Value.category]; done) | rfl
theorem rm60 (l : Launch) (Z : State) (a0 : Array Value) (hw : HW Z a0) (ws : List Jvm.Cond) (w_enc w_tb : Addr) (cs_v : Int32) (cl_tb : Cell) (wv_fm : Value) (hp : Perm Z w_enc w_tb cs_v cl_tb wv_fm) (a1 : Addr) (a2 : Addr) (p3 : Int32) (k_a2 : ClassId) (l_a2 : List Value) (p6 : Int32) (h0 : Heap) (n0 : Nat) (O0 : Old Z n0 h0) (E_a1 : Exa Z h0 a1 "java/lang/StringBuilder") (F_value_a1 : Fld Z h0 a1 "java/lang/AbstractStringBuilder" "value" "[B" (.ref a2)) (F_count_a1 : Fld Z h0 a1 "java/lang/AbstractStringBuilder" "count" "I" (.int p3)) (F_coder_a1 : Fld Z h0 a1 "java/lang/AbstractStringBuilder" "coder" "B" (.int 0)) (V_a2 : Arv Z h0 a2 k_a2 .byte p6 (lid l_a2) (.int 0)) (hc6 : ¬ (p3 = p6)) (hc7 : ¬ (p3 < (0 : Int32))) (hc8 : (p3 - (0 : Int32)) < (p6 - (0 : Int32))) (E_a2 : Exa Z h0 a2 "[B") (hs10 : ¬ ((p3 - (0 : Int32))) < 0) (hs11 : ((p3 - (0 : Int32))).toNatClampNeg ≤ 40) (hs12 : ((0 : Int32)).toNatClampNeg + ((p3 - (0 : Int32))).toNatClampNeg ≤ (p6).toNatClampNeg) (hs13 : ((0 : Int32)).toNatClampNeg + ((p3 - (0 : Int32))).toNatClampNeg ≤ ((p3 - (0 : Int32))).toNatClampNeg) (hs14 : ((0 : Int32)).toNatClampNeg + ((p3 - (0 : Int32))).toNatClampNeg ≤ ((repL (p3 - (0 : Int32)))).length) :
    MF l y41 (Jvm.Cond.code y41 jdk_67_method_42_code 1 (some (.object "java/lang/String")) :: ws) ({ frames := 5, cells := 2, slots := 44, locals := 79 } : Room) Z #[(.ref a1)] h0 (fun v h L => ∃ (b1 b2_0 : Addr), ∃ (kc2_0 : ClassId), v = some (.ref b1) ∧ Fr n0 L ∧ Keep h0 h [] ∧ h0.size ≤ b1 ∧ h0.size ≤ b2_0 ∧ b1 ≠ b2_0 ∧ Exa Z h b1 "java/lang/String" ∧ Fld Z h b1 "java/lang/String" "coder" "B" (.int 0) ∧ Fld Z h b1 "java/lang/String" "value" "[B" (.ref b2_0) ∧ Exa Z h b2_0 "[B" ∧ Arv Z h b2_0 kc2_0 .byte (p3 - (0 : Int32)) (lid (cpL (repL (p3 - (0 : Int32))) l_a2 (0 : Int32) (0 : Int32) (p3 - (0 : Int32)))) (.int 0)) := by
  refine mfB (plainFor_of_name pn_10) hw fun p e s m below meth c s₁ Bd Kz X0 e0 => ?_
  obtain ⟨hx, hby, hml, hZ, hown, -⟩ := id Kz
  have qz := And.intro hx hby
  have N0 := Fr.nil n0
  obtain ⟨T1, h1, X1, e1, E1, A1, D1, -, st1⟩ := newO X0 hx hZ hown (wq hw 217 rfl) (wq hw 20 rfl) (wq hw 12 rfl) e0 (g := (mkF m 0 #[vr a1] [])) rfl (hb hby d36_0) (by decide) (by decide)
  obtain ⟨b1, g1⟩ : ∃ z, z = h0.size := ⟨_, rfl⟩
  rw [← g1] at A1 D1 st1
  have g_b1 : n0 ≤ b1 := Nat.le_trans (own_sz O0) (Nat.le_of_eq g1.symm)
  have sz_b1 : h0.size ≤ b1 := Nat.le_trans (Keep.refl h0 []).1 (Nat.le_of_eq g1.symm)
  have O1 := O0.ext E1
  have K1 : Keep h0 h1 [] := (Keep.refl h0 []).ext E1
  have F_value_b1 : Fld Z h1 b1 "java/lang/String" "value" "[B" .null := D1 (Or.inr (wq hw 32 rfl)) (ty := (.array .byte)) (by decide)
  have F_coder_b1 : Fld Z h1 b1 "java/lang/String" "coder" "B" (.int 0) := D1 (Or.inr (wq hw 34 rfl)) (ty := .byte) (by decide)
  have nz0 : a2 ≠ b1 := (Nat.ne_of_lt (Nat.lt_of_lt_of_le E_a2.lt sz_b1))
  obtain ⟨_, T2, Lc2, X2, hQ2, st2⟩ := sB X1 Kz y40 1 218 219 220 12 (rm59 l Z a0 hw [] w_enc w_tb cs_v cl_tb wv_fm hp b1 a1 a2 p3 k_a2 l_a2 p6 h1 n0 O1 (E_a1.ext E1) (F_value_a1.ext E1) (F_count_a1.ext E1) (F_coder_a1.ext E1) A1 F_coder_b1 F_value_b1 (V_a2.ext E1) hc6 hc7 hc8 g_b1 (Ne.symm nz0) hs10 hs11 hs12 hs13 hs14) e1 b1 (mkF m 5 #[vr a1] [(.ref a1), (.ref b1), (.ref b1)]) [(.ref a1)] [(.ref b1)] pd_31 d36_5
  obtain ⟨b2_0, kc2_0, rfl, Nq2, Kq2, sq_b2_0, fq2_0, fq2_1, fq2_2, fq2_3, fq2_4⟩ := hQ2
  have N2 := Fr.app N0 Nq2
  have sz_b2_0 : h0.size ≤ b2_0 := Nat.le_trans K1.1 sq_b2_0
  have K2 : Keep h0 T2.heap [] := K1.trans Kq2 (allS (Or.inr sz_b1) all0)
  have nz1 : b1 ≠ b2_0 := (Nat.ne_of_lt (Nat.lt_of_lt_of_le A1.lt sq_b2_0))
  refine mfE Bd X2 (some (.ref b1)) rfl (fun h => by rw [Bd.returns] at h; cases h) (ef_36_0 m a1) ⟨b1, b2_0, kc2_0, rfl, N2, K2, sz_b1, sz_b2_0, nz1, fq2_0, fq2_1, fq2_2, fq2_3, fq2_4⟩ fun fs hr => ?_
  refine st1 _ ?_
  refine XS.dup X1.here hx rfl (hb hby d36_3) rfl rfl ?_
  refine aln X1 qz d36_4 ?_
  refine st2.trans ?_
  jvm_step X2.here [X2.here.top, hx, (hb hby d36_8), X2.method', Bd.returns, Value.isRef, FieldType.isReference]
  first | (intro acts; rw [hr _ acts rfl rfl rfl]) | rw [hr _ _ rfl rfl rfl]
  exact Steps.refl _
theorem pd_32 : parseMethodDescriptor "()Ljava/lang/String;" = some ⟨[], some (.object "java/lang/String")⟩ := by decide +kernel
theorem d9_57 : dk cb9 57 .areturn 1 := by decide +kernel
abbrev y42 : MethodName := (⟨"com/example/cloakfield/cloakfield/format/TaggedValue", "toText", "()Ljava/lang/String;"⟩ : MethodName)
theorem ef_9_0 (m : MethodId) (x0 : Addr) : entryFrame m #[(.ref x0)] 1 = mkF m 0 #[.val (.ref x0)] [] := by first | (simp [entryFrame, mkF, argsToLocals, Value.category]; done) | rfl
def Q61 (Z : State) (w_enc : Addr) (w_tb : Addr) (cs_v : Int32) (cl_tb : Cell) (wv_fm : Value) (a1 : Addr) (a2 : Addr) (a3 : Addr) (k_a3 : ClassId) (p5 : Int32) (a6 : Addr) (a7 : Addr) (k_a7 : ClassId) (p9 : Int32) (a10 : Addr) (k_a10 : ClassId) (l_a10 : List Value) (p13 : Int32) (h0 : Heap) (n0 : Nat) (v : Option Value) (h : Heap) (L : List Loc) : Prop := ∃ (b38_0 b38_1 : Addr), ∃ (kc38_0 : ClassId), v = some (.ref b38_0) ∧ Fr n0 L ∧ Keep h0 h [] ∧ h0.size ≤ b38_0 ∧ h0.size ≤ b38_1 ∧ b38_0 ≠ b38_1 ∧ Exa Z h b38_0 "java/lang/String" ∧ Fld Z h b38_0 "java/lang/String" "coder" "B" (.int 0) ∧ Fld Z h b38_0 "java/lang/String" "value" "[B" (.ref b38_1) ∧ Exa Z h b38_1 "[B" ∧ Arv Z h b38_1 kc38_0 .byte ((15 : Int32) - (0 : Int32)) [(.int 35), (.int 36), (.int 36), (.int 35), (.int 123), (.int p5), (.int 58), (.int p9), (.int 125), (.int 123), (.int 125), (.int 35), (.int 36), (.int 36), (.int 35)] (.int 0)
theorem rm61 (l : Launch) (Z : State) (a0 : Array Value) (hw : ∀ d ∈ tables_1, d.before a0 Z = true) (ws : List Jvm.Cond) (w_enc w_tb : Addr) (cs_v : Int32) (cl_tb : Cell) (wv_fm : Value) (hp : Perm Z w_enc w_tb cs_v cl_tb wv_fm) (a1 : Addr) (a2 : Addr) (a3 : Addr) (k_a3 : ClassId) (p5 : Int32) (a6 : Addr) (a7 : Addr) (k_a7 : ClassId) (p9 : Int32) (a10 : Addr) (k_a10 : ClassId) (l_a10 : List Value) (p13 : Int32) (h0 : Heap) (n0 : Nat) (O0 : Old Z n0 h0) (F_algorithm_a1 : Fld Z h0 a1 "com/example/cloakfield/cloakfield/format/TaggedValue" "algorithm" "Ljava/lang/String;" (.ref a2)) (E_a1 : Exa Z h0 a1 "com/example/cloakfield/cloakfield/format/TaggedValue") (E_a2 : Exa Z h0 a2 "java/lang/String") (F_value_a2 : Fld Z h0 a2 "java/lang/String" "value" "[B" (.ref a3)) (V_a3 : Arv Z h0 a3 k_a3 .byte (1 : Int32) [(.int p5)] (.int 0)) (F_coder_a2 : Fld Z h0 a2 "java/lang/String" "coder" "B" (.int 0)) (E_a3 : Exa Z h0 a3 "[B") (F_keyId_a1 : Fld Z h0 a1 "com/example/cloakfield/cloakfield/format/TaggedValue" "keyId" "Ljava/lang/String;" (.ref a6)) (E_a6 : Exa Z h0 a6 "java/lang/String") (F_value_a6 : Fld Z h0 a6 "java/lang/String" "value" "[B" (.ref a7)) (V_a7 : Arv Z h0 a7 k_a7 .byte (1 : Int32) [(.int p9)] (.int 0)) (F_coder_a6 : Fld Z h0 a6 "java/lang/String" "coder" "B" (.int 0)) (E_a7 : Exa Z h0 a7 "[B") (F_payload_a1 : Fld Z h0 a1 "com/example/cloakfield/cloakfield/format/TaggedValue" "payload" "[B" (.ref a10)) (V_a10 : Arv Z h0 a10 k_a10 .byte p13 (lid l_a10) (.int 0)) (E_a10 : Exa Z h0 a10 "[B") (hc17 : ¬ ((((eoL p13) ||| (0 : Int32)) ||| (eoL p13)) < (0 : Int32))) (hc18 : ¬ (((eoL p13) - (0 : Int32)) < (eoL p13))) (hc19 : (eoL p13) = (0 : Int32)) (hs20 : 0 ≤ (p13).toInt ∧ (p13).toInt < 7) (hs21 : ¬ ((eoL p13)) < 0) (hs22 : ((eoL p13)).toNatClampNeg ≤ 40) (hs23 : EncIn p13 l_a10) :
    MetFree l y42 (head1 (Jvm.Cond.code y42 prog_37_method_2_code 1 (some (.object "java/lang/String")) :: ws) ({ frames := 6, cells := 16, slots := 180, locals := 91 } : Room)) (fun a U => a = #[(.ref a1)] ∧ Z.Warmed39 U.vm ∧ U.heap = h0 ∧ CHv Z own_EL U.vm h0 ∧ ∀ x ∈ ([] : List Addr), Safe Z own_EL U.vm h0 x) (fun _ _ _ _ _ => True) (fun _ U o U' => ∃ v L, o = .returned v ∧ Q61 Z w_enc w_tb cs_v cl_tb wv_fm a1 a2 a3 k_a3 p5 a6 a7 k_a7 p9 a10 k_a10 l_a10 p13 h0 n0 v U'.heap L ∧ CHr Z own_EL U.vm U.heap U'.vm U'.heap ∧ ReturnedEndW U o U' L ({ frames := 6, cells := 16, slots := 180, locals := 91 } : Room).cells ({ frames := 6, cells := 16, slots := 180, locals := 91 } : Room).slots) := by
  refine MetFree.of_bodySF (plainFor_of_name pn_7) hisR ?_
  intro p e s m args below meth c s₁ Bd hml0 hP hK
  obtain ⟨rfl, hZo, hh, hCH, hSL⟩ := hP
  have hx := Bd.exec
  have hby := Bd.bytes
  have qz := And.intro hx hby
  have hml : c.maxLocals = 1 := hml0
  have hown : (s.setVm s.vm).vm.findClass "com/example/cloakfield/cloakfield/format/TaggedValue" = some m.cls := findClass_of_methodNamed Bd.named
  have hnm := (name_of_methodNamed Bd.named Bd.method).1
  have X0 : Stand p l e ({ frames := 6, cells := 16, slots := 180, locals := 91 } : Room) (s.setVm s.vm) m #[(.ref a1)] below meth c s₁ [] 0 0 := Stand.of_body Bd
  have e0 : s₁.heap = h0 := by rw [← hh, Bd.state]; rfl
  have N0 := Fr.nil n0
  have hZ : Z.Warmed39 (s.setVm s.vm).vm := hZo
  have CH0 := CHr.refl hCH
  have hS0 : s.Since s.vm 0 := (State.WarmedH.refl s).since 0
  have hk0 : 0 ≤ h0.size := Nat.zero_le _
  have hp' := hp
  obtain ⟨_, _, _, E_w_enc, _⟩ := hp'
  have Kz := And.intro hx (And.intro hby (And.intro hml (And.intro hZ (And.intro hown hw))))
  obtain ⟨T1, h1, X1, e1, E1, A1, D1, -, st1⟩ := newO X0 hx hZ hown (wq hw 55 rfl) (wq hw 56 rfl) (wq hw 57 rfl) e0 (g := (mkF m 0 #[vr a1] [])) rfl (hb hby d9_0) (by decide) (by decide)
  obtain ⟨b1, g1⟩ : ∃ z, z = h0.size := ⟨_, rfl⟩
  rw [← g1] at A1 D1 st1
  have g_b1 : n0 ≤ b1 := Nat.le_trans (own_sz O0) (Nat.le_of_eq g1.symm)
  have sz_b1 : h0.size ≤ b1 := Nat.le_trans (Keep.refl h0 []).1 (Nat.le_of_eq g1.symm)
  have O1 := O0.ext E1
  have K1 : Keep h0 h1 [] := (Keep.refl h0 []).ext E1
  have CH1 := CH0.trans (CHr.ext E1 CH0.1)
  have hk1 := Nat.le_trans hk0 E1.1
  have F_value_b1 : Fld Z h1 b1 "java/lang/AbstractStringBuilder" "value" "[B" .null := D1 (Or.inl (wq hw 70 rfl)) (ty := (.array .byte)) (by decide)
  have F_coder_b1 : Fld Z h1 b1 "java/lang/AbstractStringBuilder" "coder" "B" (.int 0) := D1 (Or.inl (wq hw 72 rfl)) (ty := .byte) (by decide)
  have F_count_b1 : Fld Z h1 b1 "java/lang/AbstractStringBuilder" "count" "I" (.int 0) := D1 (Or.inl (wq hw 97 rfl)) (ty := .int) (by decide)
  obtain ⟨_, T2, Lc2, X2, hQ2, st2⟩ := sB X1 Kz y17 1 58 59 60 57 (rm35 l Z a0 hw [] w_enc w_tb cs_v cl_tb wv_fm hp b1 h1 n0 O1 A1 F_coder_b1 F_count_b1 F_value_b1 g_b1) e1 b1 (mkF m 4 #[vr a1] [(.ref b1), (.ref b1)]) [] [(.ref b1)] pd_8 d9_4
  obtain ⟨b2_0, kc2_0, rfl, Nq2, Kq2, sq_b2_0, fq2_0, fq2_1, fq2_2, fq2_3, fq2_4, fq2_5⟩ := hQ2
  have N2 := Fr.app N0 Nq2
  have g_b2_0 : n0 ≤ b2_0 := Nat.le_trans (own_sz O1) sq_b2_0
  have sz_b2_0 : h0.size ≤ b2_0 := Nat.le_trans K1.1 sq_b2_0
  have CH2 := CH1.trans (CHr.keep Kq2 (allS (Safe.exa hZo.alike A1 (by decide) (by decide)) all0) CH1.1)
  have hk2 := Nat.le_trans hk1 Kq2.1
  have O2 := O1.keep Kq2 (allS g_b1 all0)
  have K2 : Keep h0 T2.heap [] := K1.trans Kq2 (allS (Or.inr sz_b1) all0)
  obtain ⟨li3, T3, h3, k3, lb3, kb3, X3, e3, E3, hS3, hk3, hZ3, hown3, Ea3, Ca3, Va3, Ba3, -, -, C3, L3, Sf3, st3⟩ := ldcCH X2 hx hZ hown (wq hw 73 rfl) (own_wS hw) rfl hS0 hk2 (own_EW hw) (by decide) CH2.1 (vs := [(.int 35), (.int 36), (.int 36), (.int 35), (.int 123)]) (z := (5 : Int32)) ⟨by decide, rfl⟩ (by decide) rfl (g := (mkF m 7 #[vr a1] [(.ref b1)])) rfl (hb hby d9_7) (n := 20) (by decide) (by decide) (by decide) (by decide)
  have CH3 := CH2.trans C3
  have O3 := O2.ext E3
  have K3 : Keep h0 h3 [] := K2.ext E3
  have nz0 : b1 ≠ b2_0 := (Nat.ne_of_lt (Nat.lt_of_lt_of_le A1.lt sq_b2_0))
  obtain ⟨_, T4, Lc4, X4, hQ4, st4⟩ := vS X3 ⟨hx, hby, hml, hZ3, hown3, hw⟩ y25 0 76 77 79 78 80 57 (rm43 l Z a0 hw [] w_enc w_tb cs_v cl_tb wv_fm hp b1 li3 lb3 kb3 [(.int 35), (.int 36), (.int 36), (.int 35), (.int 123)] (5 : Int32) (0 : Int32) b2_0 kc2_0 [(.int 0), (.int 0), (.int 0), (.int 0), (.int 0), (.int 0), (.int 0), (.int 0), (.int 0), (.int 0), (.int 0), (.int 0), (.int 0), (.int 0), (.int 0), (.int 0)] (16 : Int32) h3 n0 O3 Ea3 Va3 Ba3 Ca3 (fq2_2.ext E3) (fq2_0.ext E3) (fq2_3.ext E3) (fq2_5.ext E3) (fq2_1.ext E3) (by decide : ¬ ((0 : Int32) < (((0 : Int32) + ((5 : Int32) >>> ((0 : Int32) &&& 31))) - ((16 : Int32) >>> ((0 : Int32) &&& 31))))) (fq2_4.ext E3) g_b2_0 (by decide) (by decide) (by decide) (by decide) (Nat.le_of_ble_eq_true rfl) nz0 g_b1) e3 (fq2_0.ext E3) (mkF m 9 #[vr a1] [(.ref li3), (.ref b1)]) [(.ref li3)] [] pd_17 d9_9
  obtain ⟨rfl, Nq4, Kq4, fq4_0, fq4_1, fq4_2, fq4_3, fq4_4, fq4_5⟩ := hQ4
  have N4 := Fr.app N2 Nq4
  have sf_5 := (C3.safe fq2_4.lt (Safe.keep Kq2 (allS (Safe.exa hZo.alike A1 (by decide) (by decide)) all0) CH1.1 (Safe.new sq_b2_0)))
  have CH4 := CH3.trans (CHr.keep Kq4 (allS sf_5 (allS (Safe.exa hZ3.alike (fq2_0.ext E3) (by decide) (by decide)) all0)) CH3.1)
  have hk4 := Nat.le_trans hk3 Kq4.1
  have O4 := O3.keep Kq4 (allS g_b2_0 (allS g_b1 all0))
  have K4 : Keep h0 T4.heap [] := K3.trans Kq4 (allS (Or.inr sz_b2_0) (allS (Or.inr sz_b1) all0))
  have V4_1 : Arv Z T4.heap b2_0 kc2_0 .byte (16 : Int32) [(.int 35), (.int 36), (.int 36), (.int 35), (.int 123), (.int 0), (.int 0), (.int 0), (.int 0), (.int 0), (.int 0), (.int 0), (.int 0), (.int 0), (.int 0), (.int 0)] (.int 0) := fq4_1
  have F4_4 : Fld Z T4.heap b1 "java/lang/AbstractStringBuilder" "count" "I" (.int 5) := fq4_4
  have nz1 : a1 ≠ b1 := (Nat.ne_of_lt (Nat.lt_of_lt_of_le E_a1.lt sz_b1))
  have nz2 : a1 ≠ b2_0 := (Nat.ne_of_lt (Nat.lt_of_lt_of_le E_a1.lt sz_b2_0))
  have f_6 := ((((F_algorithm_a1.ext E1).keep Kq2 (ninS nz1 nin0)).ext E3).keep Kq4 (ninS nz2 (ninS nz1 nin0)))
  obtain ⟨T7, X7, e7, st7⟩ := gF X4 ⟨hx, hby, hml, hZ3, hown3, hw⟩ 44 rfl f_6 (mkF m 13 #[vr a1] [(.ref a1), (.ref b1)]) d9_13
  have nz3 : a2 ≠ b1 := (Nat.ne_of_lt (Nat.lt_of_lt_of_le E_a2.lt sz_b1))
  have nz4 : a2 ≠ b2_0 := (Nat.ne_of_lt (Nat.lt_of_lt_of_le E_a2.lt sz_b2_0))
  have f_8 := ((((F_value_a2.ext E1).keep Kq2 (ninS nz3 nin0)).ext E3).keep Kq4 (ninS nz4 (ninS nz3 nin0)))
  have nz5 : a3 ≠ b1 := (Nat.ne_of_lt (Nat.lt_of_lt_of_le E_a3.lt sz_b1))
  have nz6 : a3 ≠ b2_0 := (Nat.ne_of_lt (Nat.lt_of_lt_of_le E_a3.lt sz_b2_0))
  have f_9 := ((((V_a3.ext E1).keep Kq2 (ninS nz5 nin0)).ext E3).keep Kq4 (ninS nz6 (ninS nz5 nin0)))
  have f_10 := ((((F_coder_a2.ext E1).keep Kq2 (ninS nz3 nin0)).ext E3).keep Kq4 (ninS nz4 (ninS nz3 nin0)))
  obtain ⟨_, T11, Lc11, X11, hQ11, st11⟩ := vS X7 ⟨hx, hby, hml, hZ3, hown3, hw⟩ y25 0 76 77 79 78 80 57 (rm43 l Z a0 hw [] w_enc w_tb cs_v cl_tb wv_fm hp b1 a2 a3 k_a3 [(.int p5)] (1 : Int32) (5 : Int32) b2_0 kc2_0 [(.int 35), (.int 36), (.int 36), (.int 35), (.int 123), (.int 0), (.int 0), (.int 0), (.int 0), (.int 0), (.int 0), (.int 0), (.int 0), (.int 0), (.int 0), (.int 0)] (16 : Int32) T4.heap n0 O4 ((((E_a2.ext E1).keep Kq2).ext E3).keep Kq4) f_8 f_9 f_10 F4_4 fq4_2 fq4_5 V4_1 fq4_3 (by decide : ¬ ((0 : Int32) < (((5 : Int32) + ((1 : Int32) >>> ((0 : Int32) &&& 31))) - ((16 : Int32) >>> ((0 : Int32) &&& 31))))) fq4_0 g_b2_0 (by decide) (by decide) (by decide) (by decide) (Nat.le_of_ble_eq_true rfl) nz0 g_b1) e7 fq4_2 (mkF m 16 #[vr a1] [(.ref a2), (.ref b1)]) [(.ref a2)] [] pd_17 d9_16
  obtain ⟨rfl, Nq11, Kq11, fq11_0, fq11_1, fq11_2, fq11_3, fq11_4, fq11_5⟩ := hQ11
  have N11 := Fr.app N4 Nq11
  have sf_12 := (Safe.keep Kq4 (allS sf_5 (allS (Safe.exa hZ3.alike (fq2_0.ext E3) (by decide) (by decide)) all0)) CH3.1 sf_5)
  have CH11 := CH4.trans (CHr.keep Kq11 (allS sf_12 (allS (Safe.exa hZ3.alike fq4_2 (by decide) (by decide)) all0)) CH4.1)
  have hk11 := Nat.le_trans hk4 Kq11.1
  have O11 := O4.keep Kq11 (allS g_b2_0 (allS g_b1 all0))
  have K11 : Keep h0 T11.heap [] := K4.trans Kq11 (allS (Or.inr sz_b2_0) (allS (Or.inr sz_b1) all0))
  have V11_1 : Arv Z T11.heap b2_0 kc2_0 .byte (16 : Int32) [(.int 35), (.int 36), (.int 36), (.int 35), (.int 123), (.int p5), (.int 0), (.int 0), (.int 0), (.int 0), (.int 0), (.int 0), (.int 0), (.int 0), (.int 0), (.int 0)] (.int 0) := fq11_1
  have F11_4 : Fld Z T11.heap b1 "java/lang/AbstractStringBuilder" "count" "I" (.int 6) := fq11_4
  obtain ⟨li13, T13, h13, k13, lb13, kb13, X13, e13, E13, hS13, hk13, hZ13, hown13, Ea13, Ca13, Va13, Ba13, -, -, C13, L13, Sf13, st13⟩ := ldcCH X11 hx hZ3 hown3 (wq hw 123 rfl) (own_wS hw) rfl hS3 hk11 (own_EW hw) (by decide) CH11.1 (vs := [(.int 58)]) (z := (1 : Int32)) ⟨by decide, rfl⟩ (by decide) rfl (g := (mkF m 19 #[vr a1] [(.ref b1)])) rfl (hb hby d9_19) (n := 4) (by decide) (by decide) (by decide) (by decide)
  have CH13 := CH11.trans C13
  have O13 := O11.ext E13
  have K13 : Keep h0 h13 [] := K11.ext E13
  obtain ⟨_, T14, Lc14, X14, hQ14, st14⟩ := vS X13 ⟨hx, hby, hml, hZ13, hown13, hw⟩ y25 0 76 77 79 78 80 57 (rm43 l Z a0 hw [] w_enc w_tb cs_v cl_tb wv_fm hp b1 li13 lb13 kb13 [(.int 58)] (1 : Int32) (6 : Int32) b2_0 kc2_0 [(.int 35), (.int 36), (.int 36), (.int 35), (.int 123), (.int p5), (.int 0), (.int 0), (.int 0), (.int 0), (.int 0), (.int 0), (.int 0), (.int 0), (.int 0), (.int 0)] (16 : Int32) h13 n0 O13 Ea13 Va13 Ba13 Ca13 (F11_4.ext E13) (fq11_2.ext E13) (fq11_5.ext E13) (V11_1.ext E13) (fq11_3.ext E13) (by decide : ¬ ((0 : Int32) < (((6 : Int32) + ((1 : Int32) >>> ((0 : Int32) &&& 31))) - ((16 : Int32) >>> ((0 : Int32) &&& 31))))) (fq11_0.ext E13) g_b2_0 (by decide) (by decide) (by decide) (by decide) (Nat.le_of_ble_eq_true rfl) nz0 g_b1) e13 (fq11_2.ext E13) (mkF m 21 #[vr a1] [(.ref li13), (.ref b1)]) [(.ref li13)] [] pd_17 d9_21
  obtain ⟨rfl, Nq14, Kq14, fq14_0, fq14_1, fq14_2, fq14_3, fq14_4, fq14_5⟩ := hQ14
  have N14 := Fr.app N11 Nq14
  have sf_15 := (C13.safe (((fq2_4.ext E3).keep Kq4).keep Kq11).lt (Safe.keep Kq11 (allS sf_12 (allS (Safe.exa hZ3.alike fq4_2 (by decide) (by decide)) all0)) CH4.1 sf_12))
  have CH14 := CH13.trans (CHr.keep Kq14 (allS sf_15 (allS (Safe.exa hZ13.alike (fq11_2.ext E13) (by decide) (by decide)) all0)) CH13.1)
  have hk14 := Nat.le_trans hk13 Kq14.1
  have O14 := O13.keep Kq14 (allS g_b2_0 (allS g_b1 all0))
  have K14 : Keep h0 T14.heap [] := K13.trans Kq14 (allS (Or.inr sz_b2_0) (allS (Or.inr sz_b1) all0))
  have V14_1 : Arv Z T14.heap b2_0 kc2_0 .byte (16 : Int32) [(.int 35), (.int 36), (.int 36), (.int 35), (.int 123), (.int p5), (.int 58), (.int 0), (.int 0), (.int 0), (.int 0), (.int 0), (.int 0), (.int 0), (.int 0), (.int 0)] (.int 0) := fq14_1
  have F14_4 : Fld Z T14.heap b1 "java/lang/AbstractStringBuilder" "count" "I" (.int 7) := fq14_4
  have f_16 := (((((((F_keyId_a1.ext E1).keep Kq2 (ninS nz1 nin0)).ext E3).keep Kq4 (ninS nz2 (ninS nz1 nin0))).keep Kq11 (ninS nz2 (ninS nz1 nin0))).ext E13).keep Kq14 (ninS nz2 (ninS nz1 nin0)))
  obtain ⟨T17, X17, e17, st17⟩ := gF X14 ⟨hx, hby, hml, hZ13, hown13, hw⟩ 46 rfl f_16 (mkF m 25 #[vr a1] [(.ref a1), (.ref b1)]) d9_25
  have f_18 := (((((((E_a6.ext E1).keep Kq2).ext E3).keep Kq4).keep Kq11).ext E13).keep Kq14)
  have nz7 : a6 ≠ b1 := (Nat.ne_of_lt (Nat.lt_of_lt_of_le E_a6.lt sz_b1))
  have nz8 : a6 ≠ b2_0 := (Nat.ne_of_lt (Nat.lt_of_lt_of_le E_a6.lt sz_b2_0))
  have f_19 := (((((((F_value_a6.ext E1).keep Kq2 (ninS nz7 nin0)).ext E3).keep Kq4 (ninS nz8 (ninS nz7 nin0))).keep Kq11 (ninS nz8 (ninS nz7 nin0))).ext E13).keep Kq14 (ninS nz8 (ninS nz7 nin0)))
  have nz9 : a7 ≠ b1 := (Nat.ne_of_lt (Nat.lt_of_lt_of_le E_a7.lt sz_b1))
  have nz10 : a7 ≠ b2_0 := (Nat.ne_of_lt (Nat.lt_of_lt_of_le E_a7.lt sz_b2_0))
  have f_20 := (((((((V_a7.ext E1).keep Kq2 (ninS nz9 nin0)).ext E3).keep Kq4 (ninS nz10 (ninS nz9 nin0))).keep Kq11 (ninS nz10 (ninS nz9 nin0))).ext E13).keep Kq14 (ninS nz10 (ninS nz9 nin0)))
  have f_21 := (((((((F_coder_a6.ext E1).keep Kq2 (ninS nz7 nin0)).ext E3).keep Kq4 (ninS nz8 (ninS nz7 nin0))).keep Kq11 (ninS nz8 (ninS nz7 nin0))).ext E13).keep Kq14 (ninS nz8 (ninS nz7 nin0)))
  obtain ⟨_, T22, Lc22, X22, hQ22, st22⟩ := vS X17 ⟨hx, hby, hml, hZ13, hown13, hw⟩ y25 0 76 77 79 78 80 57 (rm43 l Z a0 hw [] w_enc w_tb cs_v cl_tb wv_fm hp b1 a6 a7 k_a7 [(.int p9)] (1 : Int32) (7 : Int32) b2_0 kc2_0 [(.int 35), (.int 36), (.int 36), (.int 35), (.int 123), (.int p5), (.int 58), (.int 0), (.int 0), (.int 0), (.int 0), (.int 0), (.int 0), (.int 0), (.int 0), (.int 0)] (16 : Int32) T14.heap n0 O14 f_18 f_19 f_20 f_21 F14_4 fq14_2 fq14_5 V14_1 fq14_3 (by decide : ¬ ((0 : Int32) < (((7 : Int32) + ((1 : Int32) >>> ((0 : Int32) &&& 31))) - ((16 : Int32) >>> ((0 : Int32) &&& 31))))) fq14_0 g_b2_0 (by decide) (by decide) (by decide) (by decide) (Nat.le_of_ble_eq_true rfl) nz0 g_b1) e17 fq14_2 (mkF m 28 #[vr a1] [(.ref a6), (.ref b1)]) [(.ref a6)] [] pd_17 d9_28
  obtain ⟨rfl, Nq22, Kq22, fq22_0, fq22_1, fq22_2, fq22_3, fq22_4, fq22_5⟩ := hQ22
  have N22 := Fr.app N14 Nq22
  have sf_23 := (Safe.keep Kq14 (allS sf_15 (allS (Safe.exa hZ13.alike (fq11_2.ext E13) (by decide) (by decide)) all0)) CH13.1 sf_15)
  have CH22 := CH14.trans (CHr.keep Kq22 (allS sf_23 (allS (Safe.exa hZ13.alike fq14_2 (by decide) (by decide)) all0)) CH14.1)
  have hk22 := Nat.le_trans hk14 Kq22.1
  have O22 := O14.keep Kq22 (allS g_b2_0 (allS g_b1 all0))
  have K22 : Keep h0 T22.heap [] := K14.trans Kq22 (allS (Or.inr sz_b2_0) (allS (Or.inr sz_b1) all0))
  have V22_1 : Arv Z T22.heap b2_0 kc2_0 .byte (16 : Int32) [(.int 35), (.int 36), (.int 36), (.int 35), (.int 123), (.int p5), (.int 58), (.int p9), (.int 0), (.int 0), (.int 0), (.int 0), (.int 0), (.int 0), (.int 0), (.int 0)] (.int 0) := fq22_1
  have F22_4 : Fld Z T22.heap b1 "java/lang/AbstractStringBuilder" "count" "I" (.int 8) := fq22_4
  obtain ⟨li24, T24, h24, k24, lb24, kb24, X24, e24, E24, hS24, hk24, hZ24, hown24, Ea24, Ca24, Va24, Ba24, -, -, C24, L24, Sf24, st24⟩ := ldcCH X22 hx hZ13 hown13 (wq hw 124 rfl) (own_wS hw) rfl hS13 hk22 (own_EW hw) (by decide) CH22.1 (vs := [(.int 125), (.int 123)]) (z := (2 : Int32)) ⟨by decide, rfl⟩ (by decide) rfl (g := (mkF m 31 #[vr a1] [(.ref b1)])) rfl (hb hby d9_31) (n := 8) (by decide) (by decide) (by decide) (by decide)
  have CH24 := CH22.trans C24
  have O24 := O22.ext E24
  have K24 : Keep h0 h24 [] := K22.ext E24
  obtain ⟨_, T25, Lc25, X25, hQ25, st25⟩ := vS X24 ⟨hx, hby, hml, hZ24, hown24, hw⟩ y25 0 76 77 79 78 80 57 (rm43 l Z a0 hw [] w_enc w_tb cs_v cl_tb wv_fm hp b1 li24 lb24 kb24 [(.int 125), (.int 123)] (2 : Int32) (8 : Int32) b2_0 kc2_0 [(.int 35), (.int 36), (.int 36), (.int 35), (.int 123), (.int p5), (.int 58), (.int p9), (.int 0), (.int 0), (.int 0), (.int 0), (.int 0), (.int 0), (.int 0), (.int 0)] (16 : Int32) h24 n0 O24 Ea24 Va24 Ba24 Ca24 (F22_4.ext E24) (fq22_2.ext E24) (fq22_5.ext E24) (V22_1.ext E24) (fq22_3.ext E24) (by decide : ¬ ((0 : Int32) < (((8 : Int32) + ((2 : Int32) >>> ((0 : Int32) &&& 31))) - ((16 : Int32) >>> ((0 : Int32) &&& 31))))) (fq22_0.ext E24) g_b2_0 (by decide) (by decide) (by decide) (by decide) (Nat.le_of_ble_eq_true rfl) nz0 g_b1) e24 (fq22_2.ext E24) (mkF m 33 #[vr a1] [(.ref li24), (.ref b1)]) [(.ref li24)] [] pd_17 d9_33
  obtain ⟨rfl, Nq25, Kq25, fq25_0, fq25_1, fq25_2, fq25_3, fq25_4, fq25_5⟩ := hQ25
  have N25 := Fr.app N22 Nq25
  have sf_26 := (C24.safe ((((((fq2_4.ext E3).keep Kq4).keep Kq11).ext E13).keep Kq14).keep Kq22).lt (Safe.keep Kq22 (allS sf_23 (allS (Safe.exa hZ13.alike fq14_2 (by decide) (by decide)) all0)) CH14.1 sf_23))
  have CH25 := CH24.trans (CHr.keep Kq25 (allS sf_26 (allS (Safe.exa hZ24.alike (fq22_2.ext E24) (by decide) (by decide)) all0)) CH24.1)
  have hk25 := Nat.le_trans hk24 Kq25.1
  have O25 := O24.keep Kq25 (allS g_b2_0 (allS g_b1 all0))
  have K25 : Keep h0 T25.heap [] := K24.trans Kq25 (allS (Or.inr sz_b2_0) (allS (Or.inr sz_b1) all0))
  have V25_1 : Arv Z T25.heap b2_0 kc2_0 .byte (16 : Int32) [(.int 35), (.int 36), (.int 36), (.int 35), (.int 123), (.int p5), (.int 58), (.int p9), (.int 125), (.int 123), (.int 0), (.int 0), (.int 0), (.int 0), (.int 0), (.int 0)] (.int 0) := fq25_1
  have F25_4 : Fld Z T25.heap b1 "java/lang/AbstractStringBuilder" "count" "I" (.int 10) := fq25_4
  obtain ⟨_, T27, Lc27, X27, hQ27, st27⟩ := cS X25 ⟨hx, hby, hml, hZ24, hown24, hw⟩ y26 1 125 126 127 128 (rm44 l Z a0 hw [] w_enc w_tb cs_v cl_tb wv_fm hp T25.heap n0 O25) rfl (mkF m 36 #[vr a1] [(.ref b1)]) [] [(.ref b1)] pd_18 d9_36
  obtain ⟨rfl, Nq27, eq27⟩ := hQ27
  have N27 := Fr.app N25 Nq27
  have f_28 := ((((((((((F_payload_a1.ext E1).keep Kq2 (ninS nz1 nin0)).ext E3).keep Kq4 (ninS nz2 (ninS nz1 nin0))).keep Kq11 (ninS nz2 (ninS nz1 nin0))).ext E13).keep Kq14 (ninS nz2 (ninS nz1 nin0))).keep Kq22 (ninS nz2 (ninS nz1 nin0))).ext E24).keep Kq25 (ninS nz2 (ninS nz1 nin0)))
  obtain ⟨T29, X29, e29, st29⟩ := gF X27 ⟨hx, hby, hml, hZ24, hown24, hw⟩ 48 eq27 f_28 (mkF m 40 #[vr a1] [(.ref a1), (.ref w_enc), (.ref b1)]) d9_40
  have nz11 : a10 ≠ b1 := (Nat.ne_of_lt (Nat.lt_of_lt_of_le E_a10.lt sz_b1))
  have nz12 : a10 ≠ b2_0 := (Nat.ne_of_lt (Nat.lt_of_lt_of_le E_a10.lt sz_b2_0))
  have f_30 := ((((((((((V_a10.ext E1).keep Kq2 (ninS nz11 nin0)).ext E3).keep Kq4 (ninS nz12 (ninS nz11 nin0))).keep Kq11 (ninS nz12 (ninS nz11 nin0))).ext E13).keep Kq14 (ninS nz12 (ninS nz11 nin0))).keep Kq22 (ninS nz12 (ninS nz11 nin0))).ext E24).keep Kq25 (ninS nz12 (ninS nz11 nin0)))
  have f_31 := ((((((((((E_a10.ext E1).keep Kq2).ext E3).keep Kq4).keep Kq11).ext E13).keep Kq14).keep Kq22).ext E24).keep Kq25)
  obtain ⟨cq32, kq32, q32a, q32b, q32c⟩ := isOf hZ24 e29 (E_w_enc.ext O25.2)
  obtain ⟨_, _, ⟨T32, L32, k32, n32⟩, -, XX32, Sq32, gq32, ⟨Lc32, hQ32, l32, y32, z32, C32⟩, st32⟩ := X29.virtualBackS hx (y := y31) (z := y31) hown24 (mvT hZ24 (wq hw 131 rfl)) (mvT hZ24 (wq hw 132 rfl)) (notFace_of_selects (args := #[]) (mvT hZ24 (wq hw 134 rfl))) (mvT hZ24 (wq hw 134 rfl)) (mvT hZ24 (wq hw 133 rfl)) (by decide) (own_backC (SL := []) (W := 1) (rm49 l Z a0 hw [] w_enc w_tb cs_v cl_tb wv_fm hp a10 k_a10 l_a10 p13 T25.heap n0 O25 f_30 f_31 hs20 hs21 hs22 hs23 hc17 hc18 hc19) hZ24 (wq hw 135 rfl) (wq hw 130 rfl) (by decide) (by decide) (own_EW hw) CH25.1 all0) q32a q32c (g := (mkF m 43 #[vr a1] [(.ref a10), (.ref w_enc), (.ref b1)])) rfl (by rw [hml]; rfl) (Steps.refl _) (argsL := [(.ref a10)]) (rest := [(.ref b1)]) (lenOf pd_25 rfl) rfl (by show 2 * 0 + _ ≤ _; exact Nat.le_of_eq rfl) (hb hby d9_43) (fun _ _ => ⟨rfl, e29, (by decide : 8 + 4 ≤ _), (by decide : 64 + 48 ≤ _)⟩)
  dsimp only [Pt.U, Pt.locs, Pt.cells, Pt.slots] at XX32 Sq32 gq32 l32 y32 z32 st32 hQ32 C32
  subst l32 y32 z32
  obtain ⟨X32, hS32, hZ32, hown32⟩ := rebS hS24 (by rw [e29]; exact hk25) XX32 Sq32 gq32 hZ24 hown24
  obtain ⟨b32_0, y32_0, kc32_0, rfl, Nq32, Kq32, sq_b32_0, fq32_0, fq32_1, fq32_2, fq32_3⟩ := hQ32
  have N32 := Fr.app N27 Nq32
  have CH32 := CH25.trans C32
  have hk32 : T32.heap.size ≤ T32.heap.size := Nat.le_refl _
  have O32 := O25.keep Kq32 all0
  have K32 : Keep h0 T32.heap [] := K25.trans Kq32 all0
  obtain ⟨_, T33, Lc33, X33, hQ33, st33⟩ := vS X32 ⟨hx, hby, hml, hZ32, hown32, hw⟩ y25 0 76 77 79 78 80 57 (rm43 l Z a0 hw [] w_enc w_tb cs_v cl_tb wv_fm hp b1 b32_0 y32_0 kc32_0 [] (0 : Int32) (10 : Int32) b2_0 kc2_0 [(.int 35), (.int 36), (.int 36), (.int 35), (.int 123), (.int p5), (.int 58), (.int p9), (.int 125), (.int 123), (.int 0), (.int 0), (.int 0), (.int 0), (.int 0), (.int 0)] (16 : Int32) T32.heap n0 O32 fq32_0 fq32_2 fq32_3 fq32_1 (F25_4.keep Kq32 nin0) (fq25_2.keep Kq32) (fq25_5.keep Kq32 nin0) (V25_1.keep Kq32 nin0) (fq25_3.keep Kq32 nin0) (by decide : ¬ ((0 : Int32) < (((10 : Int32) + ((0 : Int32) >>> ((0 : Int32) &&& 31))) - ((16 : Int32) >>> ((0 : Int32) &&& 31))))) (fq25_0.keep Kq32) g_b2_0 (by decide) (by decide) (by decide) (by decide) (Nat.le_of_ble_eq_true rfl) nz0 g_b1) rfl (fq25_2.keep Kq32) (mkF m 46 #[vr a1] [(.ref b32_0), (.ref b1)]) [(.ref b32_0)] [] pd_17 d9_46
  obtain ⟨rfl, Nq33, Kq33, fq33_0, fq33_1, fq33_2, fq33_3, fq33_4, fq33_5⟩ := hQ33
  have N33 := Fr.app N32 Nq33
  have sf_34 := (C32.safe ((((((((fq2_4.ext E3).keep Kq4).keep Kq11).ext E13).keep Kq14).keep Kq22).ext E24).keep Kq25).lt (Safe.keep Kq25 (allS sf_26 (allS (Safe.exa hZ24.alike (fq22_2.ext E24) (by decide) (by decide)) all0)) CH24.1 sf_26))
  have CH33 := CH32.trans (CHr.keep Kq33 (allS sf_34 (allS (Safe.exa hZ32.alike (fq25_2.keep Kq32) (by decide) (by decide)) all0)) CH32.1)
  have hk33 := Nat.le_trans hk32 Kq33.1
  have O33 := O32.keep Kq33 (allS g_b2_0 (allS g_b1 all0))
  have K33 : Keep h0 T33.heap [] := K32.trans Kq33 (allS (Or.inr sz_b2_0) (allS (Or.inr sz_b1) all0))
  have V33_1 : Arv Z T33.heap b2_0 kc2_0 .byte (16 : Int32) [(.int 35), (.int 36), (.int 36), (.int 35), (.int 123), (.int p5), (.int 58), (.int p9), (.int 125), (.int 123), (.int 0), (.int 0), (.int 0), (.int 0), (.int 0), (.int 0)] (.int 0) := fq33_1
  have F33_4 : Fld Z T33.heap b1 "java/lang/AbstractStringBuilder" "count" "I" (.int 10) := fq33_4
  obtain ⟨li35, T35, h35, k35, lb35, kb35, X35, e35, E35, hS35, hk35, hZ35, hown35, Ea35, Ca35, Va35, Ba35, -, -, C35, L35, Sf35, st35⟩ := ldcCH X33 hx hZ32 hown32 (wq hw 190 rfl) (own_wS hw) rfl hS32 hk33 (own_EW hw) (by decide) CH33.1 (vs := [(.int 125), (.int 35), (.int 36), (.int 36), (.int 35)]) (z := (5 : Int32)) ⟨by decide, rfl⟩ (by decide) rfl (g := (mkF m 49 #[vr a1] [(.ref b1)])) rfl (hb hby d9_49) (n := 20) (by decide) (by decide) (by decide) (by decide)
  have CH35 := CH33.trans C35
  have O35 := O33.ext E35
  have K35 : Keep h0 h35 [] := K33.ext E35
  obtain ⟨_, T36, Lc36, X36, hQ36, st36⟩ := vS X35 ⟨hx, hby, hml, hZ35, hown35, hw⟩ y25 0 76 77 79 78 80 57 (rm43 l Z a0 hw [] w_enc w_tb cs_v cl_tb wv_fm hp b1 li35 lb35 kb35 [(.int 125), (.int 35), (.int 36), (.int 36), (.int 35)] (5 : Int32) (10 : Int32) b2_0 kc2_0 [(.int 35), (.int 36), (.int 36), (.int 35), (.int 123), (.int p5), (.int 58), (.int p9), (.int 125), (.int 123), (.int 0), (.int 0), (.int 0), (.int 0), (.int 0), (.int 0)] (16 : Int32) h35 n0 O35 Ea35 Va35 Ba35 Ca35 (F33_4.ext E35) (fq33_2.ext E35) (fq33_5.ext E35) (V33_1.ext E35) (fq33_3.ext E35) (by decide : ¬ ((0 : Int32) < (((10 : Int32) + ((5 : Int32) >>> ((0 : Int32) &&& 31))) - ((16 : Int32) >>> ((0 : Int32) &&& 31))))) (fq33_0.ext E35) g_b2_0 (by decide) (by decide) (by decide) (by decide) (Nat.le_of_ble_eq_true rfl) nz0 g_b1) e35 (fq33_2.ext E35) (mkF m 51 #[vr a1] [(.ref li35), (.ref b1)]) [(.ref li35)] [] pd_17 d9_51
  obtain ⟨rfl, Nq36, Kq36, fq36_0, fq36_1, fq36_2, fq36_3, fq36_4, fq36_5⟩ := hQ36
  have N36 := Fr.app N33 Nq36
  have sf_37 := (C35.safe ((((((((((fq2_4.ext E3).keep Kq4).keep Kq11).ext E13).keep Kq14).keep Kq22).ext E24).keep Kq25).keep Kq32).keep Kq33).lt (Safe.keep Kq33 (allS sf_34 (allS (Safe.exa hZ32.alike (fq25_2.keep Kq32) (by decide) (by decide)) all0)) CH32.1 sf_34))
  have CH36 := CH35.trans (CHr.keep Kq36 (allS sf_37 (allS (Safe.exa hZ35.alike (fq33_2.ext E35) (by decide) (by decide)) all0)) CH35.1)
  have hk36 := Nat.le_trans hk35 Kq36.1
  have O36 := O35.keep Kq36 (allS g_b2_0 (allS g_b1 all0))
  have K36 : Keep h0 T36.heap [] := K35.trans Kq36 (allS (Or.inr sz_b2_0) (allS (Or.inr sz_b1) all0))
  have V36_1 : Arv Z T36.heap b2_0 kc2_0 .byte (16 : Int32) [(.int 35), (.int 36), (.int 36), (.int 35), (.int 123), (.int p5), (.int 58), (.int p9), (.int 125), (.int 123), (.int 125), (.int 35), (.int 36), (.int 36), (.int 35), (.int 0)] (.int 0) := fq36_1
  have F36_4 : Fld Z T36.heap b1 "java/lang/AbstractStringBuilder" "count" "I" (.int 15) := fq36_4
  obtain ⟨_, T38, Lc38, X38, hQ38, st38⟩ := vS X36 ⟨hx, hby, hml, hZ35, hown35, hw⟩ y41 0 212 213 215 214 216 57 (rm60 l Z a0 hw [] w_enc w_tb cs_v cl_tb wv_fm hp b1 b2_0 (15 : Int32) kc2_0 [(.int 35), (.int 36), (.int 36), (.int 35), (.int 123), (.int p5), (.int 58), (.int p9), (.int 125), (.int 123), (.int 125), (.int 35), (.int 36), (.int 36), (.int 35), (.int 0)] (16 : Int32) T36.heap n0 O36 fq36_2 fq36_5 F36_4 fq36_3 V36_1 (by decide : ¬ ((15 : Int32) = (16 : Int32))) (by decide : ¬ ((15 : Int32) < (0 : Int32))) (by decide : ((15 : Int32) - (0 : Int32)) < ((16 : Int32) - (0 : Int32))) fq36_0 (by decide) (by decide) (by decide) (by decide) (Nat.le_of_ble_eq_true rfl)) rfl fq36_2 (mkF m 54 #[vr a1] [(.ref b1)]) [] [] pd_32 d9_54
  obtain ⟨b38_0, b38_1, kc38_0, rfl, Nq38, Kq38, sq_b38_0, sq_b38_1, nq38_0, fq38_0, fq38_1, fq38_2, fq38_3, fq38_4⟩ := hQ38
  have N38 := Fr.app N36 Nq38
  have sz_b38_0 : h0.size ≤ b38_0 := Nat.le_trans K36.1 sq_b38_0
  have sz_b38_1 : h0.size ≤ b38_1 := Nat.le_trans K36.1 sq_b38_1
  have CH38 := CH36.trans (CHr.keep Kq38 all0 CH36.1)
  have hk38 := Nat.le_trans hk36 Kq38.1
  have K38 : Keep h0 T38.heap [] := K36.trans Kq38 all0
  have V38_4 : Arv Z T38.heap b38_1 kc38_0 .byte ((15 : Int32) - (0 : Int32)) [(.int 35), (.int 36), (.int 36), (.int 35), (.int 123), (.int p5), (.int 58), (.int p9), (.int 125), (.int 123), (.int 125), (.int 35), (.int 36), (.int 36), (.int 35)] (.int 0) := fq38_4
  obtain ⟨fs, hr, hrun, hended, hE⟩ := Stand.leaveW (s := s) X38 hS35 hk38 (v := some (.ref b38_0)) (fun h => by rw [Bd.returns] at h; cases h)
  have CHz : CHr Z own_EL s.vm s.heap (T38.setFrames fs).vm (T38.setFrames fs).heap := by
    rw [hh]
    show CHr Z own_EL s.vm h0 T38.vm T38.heap
    exact CH38.trans (CHv.at X38 hZ35 (own_EW hw) CH38.1)
  refine ⟨_, _, castTop (ef_9_0 m a1) ?_, hrun, hended, _, _, rfl, ?_, CHz, hE.1, hE.2.1, hE.2.2.1, hE.2.2.2.mono (by decide) (by decide)⟩
  · show Sp p e below s₁ (mkF m 0 #[vr a1] []) _
    refine st1 _ ?_
    refine XS.dup X1.here hx rfl (hb hby d9_3) rfl rfl ?_
    refine st2.trans ?_
    refine st3 _ ?_
    refine st4.trans ?_
    refine aln X4 qz d9_12 ?_
    refine st7 _ ?_
    refine st11.trans ?_
    refine st13 _ ?_
    refine st14.trans ?_
    refine aln X14 qz d9_24 ?_
    refine st17 _ ?_
    refine st22.trans ?_
    refine st24 _ ?_
    refine st25.trans ?_
    refine st27 _ ?_
    show Sp p e below T27 (mkF m 39 #[vr a1] [(.ref w_enc), (.ref b1)]) _
    refine aln X27 qz d9_39 ?_
    refine st29 _ ?_
    refine st32.trans ?_
    refine st33.trans ?_
    refine st35 _ ?_
    refine st36.trans ?_
    refine st38.trans ?_
    jvm_step X38.here [X38.here.top, hx, (hb hby d9_57), X38.method', Bd.returns, Value.isRef, FieldType.isReference]
    first | (intro acts; rw [hr _ acts rfl rfl rfl]) | rw [hr _ _ rfl rfl rfl]
    exact Steps.refl _
  · show Q61 Z w_enc w_tb cs_v cl_tb wv_fm a1 a2 a3 k_a3 p5 a6 a7 k_a7 p9 a10 k_a10 l_a10 p13 h0 n0 _ T38.heap _
    exact ⟨b38_0, b38_1, kc38_0, rfl, N38, K38, sz_b38_0, sz_b38_1, nq38_0, fq38_0, fq38_1, fq38_2, fq38_3, V38_4⟩
theorem own_nh0 {n : Int32} (r0 : 0 ≤ n.toInt ∧ n.toInt < 7) (h0 : n < (1 : Int32)) : n = (0 : Int32) := by have r1 := own_ltI (n := 1) rfl h0; rw [← Int32.toInt_inj, show (0 : Int32).toInt = 0 from rfl]; omega
abbrev fx52 (x0 : Int32) : Int32 := (nar .char ((x0 &&& (255 : Int32)).toUInt32.toUInt16.toUInt32.toInt32))
theorem own_nh1 {n : Int32} (r0 : 0 ≤ n.toInt ∧ n.toInt < 7) (h0 : n < (1 : Int32)) : ¬ ((0 : Int32) < n) := by have r1 := own_ltI (n := 1) rfl h0; rw [Int32.lt_iff_toInt_lt, show (0 : Int32).toInt = 0 from rfl]; omega
theorem own_nh2 {n : Int32} (r0 : 0 ≤ n.toInt ∧ n.toInt < 7) (h0 : n < (1 : Int32)) : ¬ ((3 : Int32) < n) := by have r1 := own_ltI (n := 1) rfl h0; rw [Int32.lt_iff_toInt_lt, show (3 : Int32).toInt = 3 from rfl]; omega
theorem pd_33 : parseMethodDescriptor "([C)V" = some ⟨[(.array .char)], none⟩ := by decide +kernel
abbrev cb52 : ByteArray := jdk_42_method_66_code
theorem d52_0 : dk cb52 0 (.aload_n 0) 1 := by decide +kernel
theorem d52_1 : dk cb52 1 (.aload_n 1) 1 := by decide +kernel
theorem d52_2 : dk cb52 2 (.if_acmp .ne 5) 3 := by decide +kernel
theorem d52_7 : dk cb52 7 (.aload_n 1) 1 := by decide +kernel
theorem d52_8 : dk cb52 8 (.instanceof 10) 3 := by decide +kernel
theorem d52_11 : dk cb52 11 (.ifCond .eq 43) 3 := by decide +kernel
theorem d52_14 : dk cb52 14 (.aload_n 1) 1 := by decide +kernel
theorem d52_15 : dk cb52 15 (.checkcast 10) 3 := by decide +kernel
theorem d52_18 : dk cb52 18 (.astore_n 2) 1 := by decide +kernel
theorem d52_19 : dk cb52 19 (.getstatic 38) 3 := by decide +kernel
theorem d52_22 : dk cb52 22 (.ifCond .eq 14) 3 := by decide +kernel
theorem d52_25 : dk cb52 25 (.aload_n 0) 1 := by decide +kernel
theorem d52_26 : dk cb52 26 (.getfield 15) 3 := by decide +kernel
theorem d52_29 : dk cb52 29 (.aload_n 2) 1 := by decide +kernel
theorem d52_30 : dk cb52 30 (.getfield 15) 3 := by decide +kernel
theorem d52_33 : dk cb52 33 (.if_icmp .ne 21) 3 := by decide +kernel
theorem d52_36 : dk cb52 36 (.aload_n 0) 1 := by decide +kernel
theorem d52_37 : dk cb52 37 (.getfield 9) 3 := by decide +kernel
theorem d52_40 : dk cb52 40 (.aload_n 2) 1 := by decide +kernel
theorem d52_41 : dk cb52 41 (.getfield 9) 3 := by decide +kernel
theorem d52_44 : dk cb52 44 (.invokestatic 541) 3 := by decide +kernel
theorem pd_34 : parseMethodDescriptor "([B[B)Z" = some ⟨[(.array .byte), (.array .byte)], some .boolean⟩ := by decide +kernel
theorem d52_47 : dk cb52 47 (.ifCond .eq 7) 3 := by decide +kernel
theorem d52_50 : dk cb52 50 (.iconst 1) 1 := by decide +kernel
theorem d52_51 : dk cb52 51 (.goto 4) 3 := by decide +kernel
theorem d52_55 : dk cb52 55 .ireturn 1 := by decide +kernel
abbrev y43 : MethodName := (⟨"java/lang/String", "equals", "(Ljava/lang/Object;)Z"⟩ : MethodName)
theorem ef_52_0 (m : MethodId) (x0 : Addr) (x1 : Addr) : entryFrame m #[(.ref x0), (.ref x1)] 3 = mkF m 0 #[.val (.ref x0), .val (.ref x1), .unset] [] := by first | (simp [entryFrame, mkF, argsToLocals, Value.category]; done) | rfl
theorem rm62 (l : Launch) (Z : State) (a0 : Array Value) (hw : HW Z a0) (ws : List Jvm.Cond) (w_enc w_tb : Addr) (cs_v : Int32) (cl_tb : Cell) (wv_fm : Value) (hp : Perm Z w_enc w_tb cs_v cl_tb wv_fm) (a1 : Addr) (a2 : Addr) (a3 : Addr) (a4 : Addr) (k_a3 : ClassId) (l_a3 : List Value) (p7 : Int32) (k_a4 : ClassId) (l_a4 : List Value) (p10 : Int32) (h0 : Heap) (n0 : Nat) (O0 : Old Z n0 h0) (ne_a1_a2 : a1 ≠ a2) (E_a2 : Exa Z h0 a2 "java/lang/String") (F_coder_a1 : Fld Z h0 a1 "java/lang/String" "coder" "B" (.int 0)) (F_coder_a2 : Fld Z h0 a2 "java/lang/String" "coder" "B" (.int 0)) (F_value_a1 : Fld Z h0 a1 "java/lang/String" "value" "[B" (.ref a3)) (F_value_a2 : Fld Z h0 a2 "java/lang/String" "value" "[B" (.ref a4)) (V_a3 : Arv Z h0 a3 k_a3 .byte p7 (lid l_a3) (.int 0)) (V_a4 : Arv Z h0 a4 k_a4 .byte p10 (lid l_a4) (.int 0)) (hs9 : l_a3 = l_a4) (hs10 : p7 = p10) :
    MF l y43 (Jvm.Cond.code y43 jdk_42_method_66_code 3 (some .boolean) :: ws) ({ frames := 1, cells := 0, slots := 0, locals := 14 } : Room) Z #[(.ref a1), (.ref a2)] h0 (fun v h L => v = some (.int 1) ∧ Fr n0 L ∧ h = h0) := by
  refine mfB (plainFor_of_name pn_5) hw fun p e s m below meth c s₁ Bd Kz X0 e0 => ?_
  obtain ⟨hx, hby, hml, hZ, hown, -⟩ := id Kz
  have qz := And.intro hx hby
  have N0 := Fr.nil n0
  obtain ⟨S_COMPACT_STRINGS, h_cs, _⟩ := id hp
  obtain ⟨T1, X1, e1, st1⟩ := instY X0 hx hZ hown (wq hw 19 rfl) e0 (Ins.self E_a2) (g := (mkF m 8 #[vr a1, vr a2, uu] [(.ref a2)])) rfl rfl (hb hby d52_8)
  obtain ⟨T2, X2, e2, st2⟩ := castY X1 hx hZ hown (wq hw 19 rfl) e1 (Ins.self E_a2) (g := (mkF m 15 #[vr a1, vr a2, uu] [(.ref a2)])) rfl rfl (hb hby d52_15)
  obtain ⟨T3, X3, e3, st3⟩ := getS2 X2 hx hZ hown (host := "") (Or.inl (wq hw 14 rfl)) Via.refl e2 (S_COMPACT_STRINGS.ext O0.2) (g := (mkF m 19 #[vr a1, vr a2, vr a2] [])) rfl (hb hby d52_19)
  obtain ⟨T4, X4, e4, st4⟩ := gF X3 Kz 33 e3 F_coder_a1 (mkF m 26 #[vr a1, vr a2, vr a2] [(.ref a1)]) d52_26
  obtain ⟨T5, X5, e5, st5⟩ := gF X4 Kz 33 e4 F_coder_a2 (mkF m 30 #[vr a1, vr a2, vr a2] [(.ref a2), (.int 0)]) d52_30
  obtain ⟨T6, X6, e6, st6⟩ := gF X5 Kz 31 e5 F_value_a1 (mkF m 37 #[vr a1, vr a2, vr a2] [(.ref a1)]) d52_37
  obtain ⟨T7, X7, e7, st7⟩ := gF X6 Kz 31 e6 F_value_a2 (mkF m 41 #[vr a1, vr a2, vr a2] [(.ref a2), (.ref a3)]) d52_41
  obtain ⟨_, T8, Lc8, X8, hQ8, st8⟩ := cS X7 Kz y8 0 278 279 17 280 (rm24 l Z a0 hw [] w_enc w_tb cs_v cl_tb wv_fm hp a3 a4 k_a3 l_a3 p7 k_a4 h0 n0 O0 V_a3 (own_rew hs9 hs10 V_a4)) e7 (mkF m 44 #[vr a1, vr a2, vr a2] [(.ref a4), (.ref a3)]) [(.ref a3), (.ref a4)] [] pd_34 d52_44
  obtain ⟨rfl, Nq8, eq8⟩ := hQ8
  have N8 := Fr.app N0 Nq8
  refine mfE Bd X8 (some (.int 1)) eq8 (fun h => by rw [Bd.returns] at h; cases h) (ef_52_0 m a1 a2) ⟨rfl, N8, rfl⟩ fun fs hr => ?_
  refine aln X0 qz d52_0 ?_
  refine aln X0 qz d52_1 ?_
  refine Jvm.RoadKit.acmp (g := (mkF m 2 #[vr a1, vr a2, uu] [(.ref a2), (.ref a1)])) X0 hx rfl rfl rfl (pc0 := 2) (pc' := 7) (same := false) rfl (hb hby d52_2) rfl (decide_eq_false fun q => ne_a1_a2 (Value.ref.inj q)) (by decide) (by decide) ?_
  refine aln X0 qz d52_7 ?_
  refine st1 _ ?_
  refine ifN X1 qz d52_11 (feq (by decide : ¬ ((1 : Int32) = (0 : Int32)))).1 ?_
  refine aln X1 qz d52_14 ?_
  refine st2 _ ?_
  refine san X2 qz d52_18 #[vr a1, vr a2, vr a2] ?_
  refine st3 _ ?_
  refine ifN X3 qz d52_22 (feq h_cs).1 ?_
  refine aln X3 qz d52_25 ?_
  refine st4 _ ?_
  refine aln X4 qz d52_29 ?_
  refine st5 _ ?_
  refine icN X5 qz d52_33 (teq (by decide : (0 : Int32) = (0 : Int32))).2 ?_
  show Sp p e below T5 (mkF m 36 #[vr a1, vr a2, vr a2] []) _
  refine aln X5 qz d52_36 ?_
  refine st6 _ ?_
  refine aln X6 qz d52_40 ?_
  refine st7 _ ?_
  refine st8 _ ?_
  refine ifN X8 qz d52_47 (feq (by decide : ¬ ((1 : Int32) = (0 : Int32)))).1 ?_
  refine ic X8 qz d52_50 ?_
  refine gt X8 qz 51 55 d52_51 ?_
  exact retN X8 hx (t := .boolean) Bd.returns (by simp) (hb hby d52_55) hr
theorem pd_35 : parseMethodDescriptor "(Ljava/lang/Object;)Z" = some ⟨[(.object "java/lang/Object")], some .boolean⟩ := by decide +kernel
theorem ef_0_0 (m : MethodId) (x0 : Int32) (x1 : Int32) (x2 : Int32) (x3 : Int64) : entryFrame m #[(.int x0), (.int x1), (.int x2), (.long x3)] maxLocals = mkF m 0 #[.val (.int x0), .val (.int x1), .val (.int x2), .val (.long x3), .second, .unset, .unset, .unset, .unset, .unset, .unset, .unset, .unset, .unset, .unset, .unset, .unset, .unset, .unset, .unset] [] := by first | (simp [entryFrame, mkF, argsToLocals, Value.category, maxLocals]; done) | rfl
theorem rm63 (l : Launch) (Z : State) (a0 : Array Value) (hw : ∀ d ∈ tables_1, d.before a0 Z = true) (ws : List Jvm.Cond) (w_enc w_tb : Addr) (cs_v : Int32) (cl_tb : Cell) (wv_fm : Value) (hp : Perm Z w_enc w_tb cs_v cl_tb wv_fm) (p0 : Int32) (p1 : Int32) (p2 : Int32) (p3 : Int64) (h0 : Heap) (n0 : Nat) (O0 : Old Z n0 h0) (hc1 : (nE p2) < (1 : Int32)) :
    MetFree l x (head1 (Jvm.Cond.code x code maxLocals ret :: ws) room_1) (fun a U => a = #[(.int p0), (.int p1), (.int p2), (.long p3)] ∧ Z.Warmed39 U.vm ∧ U.heap = h0 ∧ CHv Z own_EL U.vm h0) (fun _ _ _ _ _ => True) (fun _ U o U' => ∃ v L, o = .returned v ∧ (v = some (.int 1) ∧ Fr n0 L) ∧ ReturnedEndW U o U' L 56 5568) := by
  refine MetFree.of_bodySF (plainFor_of_name pn_46) hisR ?_
  intro p e s m args below meth c s₁ Bd hml0 hP hK
  obtain ⟨rfl, hZo, hh, hCH⟩ := hP
  have hx := Bd.exec
  have hby := Bd.bytes
  have qz := And.intro hx hby
  have hml : c.maxLocals = 20 := hml0
  have hown : (s.setVm s.vm).vm.findClass "com/example/cloakfield/cloakfield/format/TaggedValueToTextPinLaw" = some m.cls := findClass_of_methodNamed Bd.named
  have hnm := (name_of_methodNamed Bd.named Bd.method).1
  have X0 : Stand p l e room_1 (s.setVm s.vm) m #[(.int p0), (.int p1), (.int p2), (.long p3)] below meth c s₁ [] 0 0 := Stand.of_body Bd
  have e0 : s₁.heap = h0 := by rw [← hh, Bd.state]; rfl
  have N0 := Fr.nil n0
  have hZ : Z.Warmed39 (s.setVm s.vm).vm := hZo
  have CH0 := CHr.refl hCH
  have hS0 : s.Since s.vm 0 := (State.WarmedH.refl s).since 0
  have hk0 : 0 ≤ h0.size := Nat.zero_le _
  have hp' := hp
  obtain ⟨S_COMPACT_STRINGS, h_cs, _⟩ := hp'
  have Kz := And.intro hx (And.intro hby (And.intro hml (And.intro hZ (And.intro hown hw))))
  obtain ⟨_, T1, Lc1, X1, hQ1, st1⟩ := cS X0 Kz y1 0 1 2 3 4 (rmBA l Z a0 hw [] w_enc w_tb cs_v cl_tb wv_fm hp p3 (0 : Int32) (nE p2) h0 n0 O0) e0 (mkF m 29 #[vi p0, vi p1, vi p2, vj p3, .second, vi (nE p2), vi (fx41 p0), vi (fx41 p1), uu, uu, uu, uu, uu, uu, uu, uu, uu, uu, uu, uu] [(.int (nE p2)), (.int 0), (.long p3)]) [(.long p3), (.int 0), (.int (nE p2))] [] pd_3 at_29
  obtain ⟨rfl, Nq1, eq1⟩ := hQ1
  have N1 := Fr.app N0 Nq1
  obtain ⟨_, T2, Lc2, X2, hQ2, st2⟩ := cS X1 Kz y1 0 1 2 3 4 (rmBA l Z a0 hw [] w_enc w_tb cs_v cl_tb wv_fm hp p3 (1 : Int32) (nE p2) h0 n0 O0) eq1 (mkF m 38 #[vi p0, vi p1, vi p2, vj p3, .second, vi (nE p2), vi (fx41 p0), vi (fx41 p1), vi (fx42 p3 p2), uu, uu, uu, uu, uu, uu, uu, uu, uu, uu, uu] [(.int (nE p2)), (.int 1), (.long p3)]) [(.long p3), (.int 1), (.int (nE p2))] [] pd_3 at_38
  obtain ⟨rfl, Nq2, eq2⟩ := hQ2
  have N2 := Fr.app N1 Nq2
  obtain ⟨_, T3, Lc3, X3, hQ3, st3⟩ := cS X2 Kz y1 0 1 2 3 4 (rmBA l Z a0 hw [] w_enc w_tb cs_v cl_tb wv_fm hp p3 (2 : Int32) (nE p2) h0 n0 O0) eq2 (mkF m 47 #[vi p0, vi p1, vi p2, vj p3, .second, vi (nE p2), vi (fx41 p0), vi (fx41 p1), vi (fx42 p3 p2), vi (fx43 p3 p2), uu, uu, uu, uu, uu, uu, uu, uu, uu, uu] [(.int (nE p2)), (.int 2), (.long p3)]) [(.long p3), (.int 2), (.int (nE p2))] [] pd_3 at_47
  obtain ⟨rfl, Nq3, eq3⟩ := hQ3
  have N3 := Fr.app N2 Nq3
  obtain ⟨_, T4, Lc4, X4, hQ4, st4⟩ := cS X3 Kz y1 0 1 2 3 4 (rmBA l Z a0 hw [] w_enc w_tb cs_v cl_tb wv_fm hp p3 (3 : Int32) (nE p2) h0 n0 O0) eq3 (mkF m 56 #[vi p0, vi p1, vi p2, vj p3, .second, vi (nE p2), vi (fx41 p0), vi (fx41 p1), vi (fx42 p3 p2), vi (fx43 p3 p2), vi (fx44 p3 p2), uu, uu, uu, uu, uu, uu, uu, uu, uu] [(.int (nE p2)), (.int 3), (.long p3)]) [(.long p3), (.int 3), (.int (nE p2))] [] pd_3 at_56
  obtain ⟨rfl, Nq4, eq4⟩ := hQ4
  have N4 := Fr.app N3 Nq4
  obtain ⟨_, T5, Lc5, X5, hQ5, st5⟩ := cS X4 Kz y1 0 1 2 3 4 (rmBA l Z a0 hw [] w_enc w_tb cs_v cl_tb wv_fm hp p3 (4 : Int32) (nE p2) h0 n0 O0) eq4 (mkF m 65 #[vi p0, vi p1, vi p2, vj p3, .second, vi (nE p2), vi (fx41 p0), vi (fx41 p1), vi (fx42 p3 p2), vi (fx43 p3 p2), vi (fx44 p3 p2), vi (fx45 p3 p2), uu, uu, uu, uu, uu, uu, uu, uu] [(.int (nE p2)), (.int 4), (.long p3)]) [(.long p3), (.int 4), (.int (nE p2))] [] pd_3 at_65
  obtain ⟨rfl, Nq5, eq5⟩ := hQ5
  have N5 := Fr.app N4 Nq5
  obtain ⟨_, T6, Lc6, X6, hQ6, st6⟩ := cS X5 Kz y1 0 1 2 3 4 (rmBA l Z a0 hw [] w_enc w_tb cs_v cl_tb wv_fm hp p3 (5 : Int32) (nE p2) h0 n0 O0) eq5 (mkF m 74 #[vi p0, vi p1, vi p2, vj p3, .second, vi (nE p2), vi (fx41 p0), vi (fx41 p1), vi (fx42 p3 p2), vi (fx43 p3 p2), vi (fx44 p3 p2), vi (fx45 p3 p2), vi (fx46 p3 p2), uu, uu, uu, uu, uu, uu, uu] [(.int (nE p2)), (.int 5), (.long p3)]) [(.long p3), (.int 5), (.int (nE p2))] [] pd_3 at_74
  obtain ⟨rfl, Nq6, eq6⟩ := hQ6
  have N6 := Fr.app N5 Nq6
  obtain ⟨T7, h7, L7, b7, kb7, X7, e7, N7, Kq7, sq_b7, Eb7, Vb7, st7⟩ := own_pay l Z a0 hw p0 p1 p2 p3 ((p0 &&& (255 : Int32)).toUInt32.toUInt16.toUInt32.toInt32) ((p1 &&& (255 : Int32)).toUInt32.toUInt16.toUInt32.toInt32) (bA p3 (0 : Int32) (nE p2)) (bA p3 (1 : Int32) (nE p2)) (bA p3 (2 : Int32) (nE p2)) (bA p3 (3 : Int32) (nE p2)) (bA p3 (4 : Int32) (nE p2)) (bA p3 (5 : Int32) (nE p2)) (nE p2) (own_nE p2) h0 n0 O0 X6 hx hZ hby hml hown eq6 N6
  have CH7 := CH0.trans (CHr.keep Kq7 all0 CH0.1)
  have hk7 := Nat.le_trans hk0 Kq7.1
  have O7 := O0.keep Kq7 all0
  obtain ⟨T8, h8, X8, e8, E8, A8, D8, -, st8⟩ := newO X7 hx hZ hown (wq hw 7 rfl) (wq hw 8 rfl) (wq hw 9 rfl) e7 (g := (mkF m 162 #[vi p0, vi p1, vi p2, vj p3, .second, vi (nE p2), vi (fx41 p0), vi (fx41 p1), vi (fx42 p3 p2), vi (fx43 p3 p2), vi (fx44 p3 p2), vi (fx45 p3 p2), vi (fx46 p3 p2), vi (fx47 p3 p2), vr b7, uu, uu, uu, uu, uu] [])) rfl (hb hby at_162) (by decide) (by decide)
  obtain ⟨b8, g8⟩ : ∃ z, z = h7.size := ⟨_, rfl⟩
  rw [← g8] at A8 D8 st8
  have g_b8 : n0 ≤ b8 := Nat.le_trans (own_sz O7) (Nat.le_of_eq g8.symm)
  have O8 := O7.ext E8
  have CH8 := CH7.trans (CHr.ext E8 CH7.1)
  have hk8 := Nat.le_trans hk7 E8.1
  have F_algorithm_b8 : Fld Z h8 b8 "com/example/cloakfield/cloakfield/format/TaggedValue" "algorithm" "Ljava/lang/String;" .null := D8 (Or.inr (wq hw 45 rfl)) (ty := (.object "java/lang/String")) (by decide)
  have F_keyId_b8 : Fld Z h8 b8 "com/example/cloakfield/cloakfield/format/TaggedValue" "keyId" "Ljava/lang/String;" .null := D8 (Or.inr (wq hw 47 rfl)) (ty := (.object "java/lang/String")) (by decide)
  have F_payload_b8 : Fld Z h8 b8 "com/example/cloakfield/cloakfield/format/TaggedValue" "payload" "[B" .null := D8 (Or.inr (wq hw 49 rfl)) (ty := (.array .byte)) (by decide)
  obtain ⟨_, T9, Lc9, X9, hQ9, st9⟩ := cS X8 Kz y13 2 10 11 12 13 (rm31 l Z a0 hw [] w_enc w_tb cs_v cl_tb wv_fm hp ((p0 &&& (255 : Int32)).toUInt32.toUInt16.toUInt32.toInt32) h8 n0 O8 (own_ch1 p0)) e8 (mkF m 168 #[vi p0, vi p1, vi p2, vj p3, .second, vi (nE p2), vi (fx41 p0), vi (fx41 p1), vi (fx42 p3 p2), vi (fx43 p3 p2), vi (fx44 p3 p2), vi (fx45 p3 p2), vi (fx46 p3 p2), vi (fx47 p3 p2), vr b7, uu, uu, uu, uu, uu] [(.int (fx41 p0)), (.ref b8), (.ref b8)]) [(.int (fx41 p0))] [(.ref b8), (.ref b8)] pd_7 at_168
  obtain ⟨b9_0, b9_1, kc9_0, rfl, Nq9, Kq9, sq_b9_0, sq_b9_1, nq9_0, fq9_0, fq9_1, fq9_2, fq9_3, fq9_4⟩ := hQ9
  have N9 := Fr.app N7 Nq9
  have CH9 := CH8.trans (CHr.keep Kq9 all0 CH8.1)
  have hk9 := Nat.le_trans hk8 Kq9.1
  have O9 := O8.keep Kq9 all0
  obtain ⟨_, T10, Lc10, X10, hQ10, st10⟩ := cS X9 Kz y13 3 10 11 12 13 (rm31 l Z a0 hw [] w_enc w_tb cs_v cl_tb wv_fm hp ((p1 &&& (255 : Int32)).toUInt32.toUInt16.toUInt32.toInt32) T9.heap n0 O9 (own_ch1 p1)) rfl (mkF m 173 #[vi p0, vi p1, vi p2, vj p3, .second, vi (nE p2), vi (fx41 p0), vi (fx41 p1), vi (fx42 p3 p2), vi (fx43 p3 p2), vi (fx44 p3 p2), vi (fx45 p3 p2), vi (fx46 p3 p2), vi (fx47 p3 p2), vr b7, uu, uu, uu, uu, uu] [(.int (fx41 p1)), (.ref b9_0), (.ref b8), (.ref b8)]) [(.int (fx41 p1))] [(.ref b9_0), (.ref b8), (.ref b8)] pd_7 at_173
  obtain ⟨b10_0, b10_1, kc10_0, rfl, Nq10, Kq10, sq_b10_0, sq_b10_1, nq10_0, fq10_0, fq10_1, fq10_2, fq10_3, fq10_4⟩ := hQ10
  have N10 := Fr.app N9 Nq10
  have CH10 := CH9.trans (CHr.keep Kq10 all0 CH9.1)
  have hk10 := Nat.le_trans hk9 Kq10.1
  have O10 := O9.keep Kq10 all0
  obtain ⟨_, T11, Lc11, X11, hQ11, st11⟩ := sB X10 Kz y15 1 35 36 37 9 (rm33 l Z a0 hw [] w_enc w_tb cs_v cl_tb wv_fm hp b8 b9_0 b10_0 b7 T10.heap n0 O10 ((A8.keep Kq9).keep Kq10) ((F_algorithm_b8.keep Kq9 nin0).keep Kq10 nin0) ((F_keyId_b8.keep Kq9 nin0).keep Kq10 nin0) ((F_payload_b8.keep Kq9 nin0).keep Kq10 nin0) g_b8) rfl b8 (mkF m 178 #[vi p0, vi p1, vi p2, vj p3, .second, vi (nE p2), vi (fx41 p0), vi (fx41 p1), vi (fx42 p3 p2), vi (fx43 p3 p2), vi (fx44 p3 p2), vi (fx45 p3 p2), vi (fx46 p3 p2), vi (fx47 p3 p2), vr b7, uu, uu, uu, uu, uu] [(.ref b7), (.ref b10_0), (.ref b9_0), (.ref b8), (.ref b8)]) [(.ref b9_0), (.ref b10_0), (.ref b7)] [(.ref b8)] pd_9 at_178
  obtain ⟨rfl, Nq11, Kq11, fq11_0, fq11_1, fq11_2, fq11_3⟩ := hQ11
  have N11 := Fr.app N10 Nq11
  have CH11 := CH10.trans (CHr.keep Kq11 (allS (Safe.exa hZo.alike ((A8.keep Kq9).keep Kq10) (by decide) (by decide)) all0) CH10.1)
  have hk11 := Nat.le_trans hk10 Kq11.1
  have O11 := O10.keep Kq11 (allS g_b8 all0)
  have nz0 : b8 ≠ b9_0 := (Nat.ne_of_lt (Nat.lt_of_lt_of_le A8.lt sq_b9_0))
  have nz1 : b8 ≠ b9_1 := (Nat.ne_of_lt (Nat.lt_of_lt_of_le A8.lt sq_b9_1))
  have nz2 : b8 ≠ b10_0 := (Nat.ne_of_lt (Nat.lt_of_lt_of_le (A8.keep Kq9).lt sq_b10_0))
  have nz3 : b8 ≠ b10_1 := (Nat.ne_of_lt (Nat.lt_of_lt_of_le (A8.keep Kq9).lt sq_b10_1))
  have nz4 : b7 ≠ b8 := (Nat.ne_of_lt (Nat.lt_of_lt_of_le Eb7.lt (Nat.le_of_eq g8.symm)))
  have f_12 := ((((Vb7.ext E8).keep Kq9 nin0).keep Kq10 nin0).keep Kq11 (ninS nz4 nin0))
  obtain ⟨cq13, kq13, q13a, q13b, q13c⟩ := isOf hZ rfl fq11_0
  obtain ⟨_, _, ⟨T13, L13, k13, n13⟩, -, XX13, Sq13, gq13, ⟨Lc13, hQ13, l13, y13, z13, C13⟩, st13⟩ := X11.virtualBackS hx (y := y42) (z := y42) hown (mvT hZ (wq hw 50 rfl)) (mvT hZ (wq hw 51 rfl)) (notFace_of_selects (args := #[]) (mvT hZ (wq hw 53 rfl))) (mvT hZ (wq hw 53 rfl)) (mvT hZ (wq hw 52 rfl)) (by decide) (own_backC (SL := []) (W := 0) (rm61 l Z a0 hw [] w_enc w_tb cs_v cl_tb wv_fm hp b8 b9_0 b9_1 kc9_0 (nar .byte (((p0 &&& (255 : Int32)).toUInt32.toUInt16.toUInt32.toInt32).toInt8.toInt32)) b10_0 b10_1 kc10_0 (nar .byte (((p1 &&& (255 : Int32)).toUInt32.toUInt16.toUInt32.toInt32).toInt8.toInt32)) b7 kb7 (plL (nE p2) (bA p3 (0 : Int32) (nE p2)) (bA p3 (1 : Int32) (nE p2)) (bA p3 (2 : Int32) (nE p2)) (bA p3 (3 : Int32) (nE p2)) (bA p3 (4 : Int32) (nE p2)) (bA p3 (5 : Int32) (nE p2))) (nE p2) T11.heap n0 O11 fq11_1 fq11_0 ((fq9_0.keep Kq10).keep Kq11) ((fq9_2.keep Kq10 nin0).keep Kq11 (ninS (Ne.symm nz0) nin0)) ((fq9_4.keep Kq10 nin0).keep Kq11 (ninS (Ne.symm nz1) nin0)) ((fq9_1.keep Kq10 nin0).keep Kq11 (ninS (Ne.symm nz0) nin0)) ((fq9_3.keep Kq10).keep Kq11) fq11_2 (fq10_0.keep Kq11) (fq10_2.keep Kq11 (ninS (Ne.symm nz2) nin0)) (fq10_4.keep Kq11 (ninS (Ne.symm nz3) nin0)) (fq10_1.keep Kq11 (ninS (Ne.symm nz2) nin0)) (fq10_3.keep Kq11) fq11_3 f_12 ((((Eb7.ext E8).keep Kq9).keep Kq10).keep Kq11) (by rw [(own_eom0 (own_nE p2) hc1)] <;> decide : ¬ ((((eoL (nE p2)) ||| (0 : Int32)) ||| (eoL (nE p2))) < (0 : Int32))) (by rw [(own_eom0 (own_nE p2) hc1)] <;> decide : ¬ (((eoL (nE p2)) - (0 : Int32)) < (eoL (nE p2)))) (by rw [(own_eom0 (own_nE p2) hc1)] <;> decide : (eoL (nE p2)) = (0 : Int32)) (own_nE p2) (by rw [(own_eom0 (own_nE p2) hc1)] <;> decide) (by rw [(own_eom0 (own_nE p2) hc1)] <;> decide) (own_encin (own_nE p2))) hZ (wq hw 54 rfl) (wq hw 9 rfl) (by decide) (by decide) (own_EW hw) CH11.1 all0) q13a q13c (g := (mkF m 185 #[vi p0, vi p1, vi p2, vj p3, .second, vi (nE p2), vi (fx41 p0), vi (fx41 p1), vi (fx42 p3 p2), vi (fx43 p3 p2), vi (fx44 p3 p2), vi (fx45 p3 p2), vi (fx46 p3 p2), vi (fx47 p3 p2), vr b7, vr b8, uu, uu, uu, uu] [(.ref b8)])) rfl (by rw [hml]; rfl) (Steps.refl _) (argsL := []) (rest := []) (lenOf pd_32 rfl) rfl (by show 2 * 0 + _ ≤ _; exact Nat.le_of_eq rfl) (hb hby at_185) (fun _ _ => ⟨rfl, rfl, (by decide : 6 + 16 ≤ _), (by decide : 19 + 180 ≤ _)⟩)
  dsimp only [Pt.U, Pt.locs, Pt.cells, Pt.slots] at XX13 Sq13 gq13 l13 y13 z13 st13 hQ13 C13
  subst l13 y13 z13
  obtain ⟨X13, hS13, hZ13, hown13⟩ := rebS hS0 hk11 XX13 Sq13 gq13 hZ hown
  obtain ⟨b13_0, b13_1, kc13_0, rfl, Nq13, Kq13, sq_b13_0, sq_b13_1, nq13_0, fq13_0, fq13_1, fq13_2, fq13_3, fq13_4⟩ := hQ13
  have N13 := Fr.app N11 Nq13
  have CH13 := CH11.trans C13
  have hk13 : T13.heap.size ≤ T13.heap.size := Nat.le_refl _
  have O13 := O11.keep Kq13 all0
  obtain ⟨T14, h14, k14, X14, e14, E14, A14, EA14, st14⟩ := newPE X13 hx hZ13 (wq hw 248 rfl) rfl (g := (mkF m 220 #[vi p0, vi p1, vi p2, vj p3, .second, vi (nE p2), vi (fx41 p0), vi (fx41 p1), vi (fx42 p3 p2), vi (fx43 p3 p2), vi (fx44 p3 p2), vi (fx45 p3 p2), vi (fx46 p3 p2), vi (fx47 p3 p2), vr b7, vr b8, vr b13_0, vi 0, uu, uu] [(.int 15)])) rfl (hb hby at_220) rfl (by decide) (cap := 15) (by decide) (by decide) (by decide) (by decide) (ad := "[C") (by decide)
  obtain ⟨b14, g14⟩ : ∃ z, z = T13.heap.size := ⟨_, rfl⟩
  rw [← g14] at A14 EA14 st14
  have g_b14 : n0 ≤ b14 := Nat.le_trans (own_sz O13) (Nat.le_of_eq g14.symm)
  have O14 := O13.ext E14
  have CH14 := CH13.trans (CHr.ext E14 CH13.1)
  have hk14 := Nat.le_trans hk13 E14.1
  have V_b14 : Arv Z h14 b14 k14 .char (15 : Int32) [(.int 0), (.int 0), (.int 0), (.int 0), (.int 0), (.int 0), (.int 0), (.int 0), (.int 0), (.int 0), (.int 0), (.int 0), (.int 0), (.int 0), (.int 0)] (.int 0) := (Arv.new A14 (by decide)).pad (pad_rep [] (.int 0) 15)
  obtain ⟨T16, h16, X16, e16, W16, V_b14_16, st16⟩ := wC X14 ⟨hx, hby, hml, hZ13, hown13, hw⟩ e14 V_b14 (0 : Int32) 0 (mkF m 249 #[vi p0, vi p1, vi p2, vj p3, .second, vi (nE p2), vi (fx41 p0), vi (fx41 p1), vi (fx42 p3 p2), vi (fx43 p3 p2), vi (fx44 p3 p2), vi (fx45 p3 p2), vi (fx46 p3 p2), vi (fx47 p3 p2), vr b7, vr b8, vr b13_0, vi 0, vr b14, uu] [(.int 35), (.int 0), (.ref b14)]) at_249
  have N16 := Fr.snoc X16 N13 g_b14
  have O16 := O14.wr W16 g_b14
  have CH16 := CH14.trans (CHr.wr W16 (Safe.exa hZ13.alike EA14 (by decide) (by decide)) CH14.1)
  have hk16 := Nat.le_trans hk14 (Keep.of_wr W16).1
  obtain ⟨T18, h18, X18, e18, W18, V_b14_18, st18⟩ := wC X16 ⟨hx, hby, hml, hZ13, hown13, hw⟩ e16 V_b14_16 (1 : Int32) 1 (mkF m 255 #[vi p0, vi p1, vi p2, vj p3, .second, vi (nE p2), vi (fx41 p0), vi (fx41 p1), vi (fx42 p3 p2), vi (fx43 p3 p2), vi (fx44 p3 p2), vi (fx45 p3 p2), vi (fx46 p3 p2), vi (fx47 p3 p2), vr b7, vr b8, vr b13_0, vi 0, vr b14, uu] [(.int 36), (.int 1), (.ref b14)]) at_255
  have N18 := Fr.snoc X18 N16 g_b14
  have O18 := O16.wr W18 g_b14
  have CH18 := CH16.trans (CHr.wr W18 (Safe.exa hZ13.alike (EA14.wr W16) (by decide) (by decide)) CH16.1)
  have hk18 := Nat.le_trans hk16 (Keep.of_wr W18).1
  obtain ⟨T20, h20, X20, e20, W20, V_b14_20, st20⟩ := wC X18 ⟨hx, hby, hml, hZ13, hown13, hw⟩ e18 V_b14_18 (2 : Int32) 2 (mkF m 261 #[vi p0, vi p1, vi p2, vj p3, .second, vi (nE p2), vi (fx41 p0), vi (fx41 p1), vi (fx42 p3 p2), vi (fx43 p3 p2), vi (fx44 p3 p2), vi (fx45 p3 p2), vi (fx46 p3 p2), vi (fx47 p3 p2), vr b7, vr b8, vr b13_0, vi 0, vr b14, uu] [(.int 36), (.int 2), (.ref b14)]) at_261
  have N20 := Fr.snoc X20 N18 g_b14
  have O20 := O18.wr W20 g_b14
  have CH20 := CH18.trans (CHr.wr W20 (Safe.exa hZ13.alike ((EA14.wr W16).wr W18) (by decide) (by decide)) CH18.1)
  have hk20 := Nat.le_trans hk18 (Keep.of_wr W20).1
  have RV_b14_20 : Arv Z h20 b14 k14 .char (15 : Int32) [(.int 35), (.int 36), (.int 36), (.int 0), (.int 0), (.int 0), (.int 0), (.int 0), (.int 0), (.int 0), (.int 0), (.int 0), (.int 0), (.int 0), (.int 0)] (.int 0) := V_b14_20
  obtain ⟨T22, h22, X22, e22, W22, V_b14_22, st22⟩ := wC X20 ⟨hx, hby, hml, hZ13, hown13, hw⟩ e20 RV_b14_20 (3 : Int32) 3 (mkF m 267 #[vi p0, vi p1, vi p2, vj p3, .second, vi (nE p2), vi (fx41 p0), vi (fx41 p1), vi (fx42 p3 p2), vi (fx43 p3 p2), vi (fx44 p3 p2), vi (fx45 p3 p2), vi (fx46 p3 p2), vi (fx47 p3 p2), vr b7, vr b8, vr b13_0, vi 0, vr b14, uu] [(.int 35), (.int 3), (.ref b14)]) at_267
  have N22 := Fr.snoc X22 N20 g_b14
  have O22 := O20.wr W22 g_b14
  have CH22 := CH20.trans (CHr.wr W22 (Safe.exa hZ13.alike (((EA14.wr W16).wr W18).wr W20) (by decide) (by decide)) CH20.1)
  have hk22 := Nat.le_trans hk20 (Keep.of_wr W22).1
  obtain ⟨T24, h24, X24, e24, W24, V_b14_24, st24⟩ := wC X22 ⟨hx, hby, hml, hZ13, hown13, hw⟩ e22 V_b14_22 (4 : Int32) 4 (mkF m 273 #[vi p0, vi p1, vi p2, vj p3, .second, vi (nE p2), vi (fx41 p0), vi (fx41 p1), vi (fx42 p3 p2), vi (fx43 p3 p2), vi (fx44 p3 p2), vi (fx45 p3 p2), vi (fx46 p3 p2), vi (fx47 p3 p2), vr b7, vr b8, vr b13_0, vi 0, vr b14, uu] [(.int 123), (.int 4), (.ref b14)]) at_273
  have N24 := Fr.snoc X24 N22 g_b14
  have O24 := O22.wr W24 g_b14
  have CH24 := CH22.trans (CHr.wr W24 (Safe.exa hZ13.alike ((((EA14.wr W16).wr W18).wr W20).wr W22) (by decide) (by decide)) CH22.1)
  have hk24 := Nat.le_trans hk22 (Keep.of_wr W24).1
  obtain ⟨T26, h26, X26, e26, W26, V_b14_26, st26⟩ := wC X24 ⟨hx, hby, hml, hZ13, hown13, hw⟩ e24 V_b14_24 (5 : Int32) 5 (mkF m 279 #[vi p0, vi p1, vi p2, vj p3, .second, vi (nE p2), vi (fx41 p0), vi (fx41 p1), vi (fx42 p3 p2), vi (fx43 p3 p2), vi (fx44 p3 p2), vi (fx45 p3 p2), vi (fx46 p3 p2), vi (fx47 p3 p2), vr b7, vr b8, vr b13_0, vi 0, vr b14, uu] [(.int (fx41 p0)), (.int 5), (.ref b14)]) at_279
  have N26 := Fr.snoc X26 N24 g_b14
  have O26 := O24.wr W26 g_b14
  have CH26 := CH24.trans (CHr.wr W26 (Safe.exa hZ13.alike (((((EA14.wr W16).wr W18).wr W20).wr W22).wr W24) (by decide) (by decide)) CH24.1)
  have hk26 := Nat.le_trans hk24 (Keep.of_wr W26).1
  have RV_b14_26 : Arv Z h26 b14 k14 .char (15 : Int32) [(.int 35), (.int 36), (.int 36), (.int 35), (.int 123), (.int (fx52 p0)), (.int 0), (.int 0), (.int 0), (.int 0), (.int 0), (.int 0), (.int 0), (.int 0), (.int 0)] (.int 0) := V_b14_26
  obtain ⟨T28, h28, X28, e28, W28, V_b14_28, st28⟩ := wC X26 ⟨hx, hby, hml, hZ13, hown13, hw⟩ e26 RV_b14_26 (6 : Int32) 6 (mkF m 286 #[vi p0, vi p1, vi p2, vj p3, .second, vi (nE p2), vi (fx41 p0), vi (fx41 p1), vi (fx42 p3 p2), vi (fx43 p3 p2), vi (fx44 p3 p2), vi (fx45 p3 p2), vi (fx46 p3 p2), vi (fx47 p3 p2), vr b7, vr b8, vr b13_0, vi 0, vr b14, uu] [(.int 58), (.int 6), (.ref b14)]) at_286
  have N28 := Fr.snoc X28 N26 g_b14
  have O28 := O26.wr W28 g_b14
  have CH28 := CH26.trans (CHr.wr W28 (Safe.exa hZ13.alike ((((((EA14.wr W16).wr W18).wr W20).wr W22).wr W24).wr W26) (by decide) (by decide)) CH26.1)
  have hk28 := Nat.le_trans hk26 (Keep.of_wr W28).1
  obtain ⟨T30, h30, X30, e30, W30, V_b14_30, st30⟩ := wC X28 ⟨hx, hby, hml, hZ13, hown13, hw⟩ e28 V_b14_28 (7 : Int32) 7 (mkF m 293 #[vi p0, vi p1, vi p2, vj p3, .second, vi (nE p2), vi (fx41 p0), vi (fx41 p1), vi (fx42 p3 p2), vi (fx43 p3 p2), vi (fx44 p3 p2), vi (fx45 p3 p2), vi (fx46 p3 p2), vi (fx47 p3 p2), vr b7, vr b8, vr b13_0, vi 0, vr b14, uu] [(.int (fx41 p1)), (.int 7), (.ref b14)]) at_293
  have f_31 := (((((((EA14.wr W16).wr W18).wr W20).wr W22).wr W24).wr W26).wr W28)
  have N30 := Fr.snoc X30 N28 g_b14
  have O30 := O28.wr W30 g_b14
  have CH30 := CH28.trans (CHr.wr W30 (Safe.exa hZ13.alike f_31 (by decide) (by decide)) CH28.1)
  have hk30 := Nat.le_trans hk28 (Keep.of_wr W30).1
  obtain ⟨T33, h33, X33, e33, W33, V_b14_33, st33⟩ := wC X30 ⟨hx, hby, hml, hZ13, hown13, hw⟩ e30 V_b14_30 (8 : Int32) 8 (mkF m 300 #[vi p0, vi p1, vi p2, vj p3, .second, vi (nE p2), vi (fx41 p0), vi (fx41 p1), vi (fx42 p3 p2), vi (fx43 p3 p2), vi (fx44 p3 p2), vi (fx45 p3 p2), vi (fx46 p3 p2), vi (fx47 p3 p2), vr b7, vr b8, vr b13_0, vi 0, vr b14, uu] [(.int 125), (.int 8), (.ref b14)]) at_300
  have N33 := Fr.snoc X33 N30 g_b14
  have O33 := O30.wr W33 g_b14
  have CH33 := CH30.trans (CHr.wr W33 (Safe.exa hZ13.alike (f_31.wr W30) (by decide) (by decide)) CH30.1)
  have hk33 := Nat.le_trans hk30 (Keep.of_wr W33).1
  have RV_b14_33 : Arv Z h33 b14 k14 .char (15 : Int32) [(.int 35), (.int 36), (.int 36), (.int 35), (.int 123), (.int (fx52 p0)), (.int 58), (.int (fx52 p1)), (.int 125), (.int 0), (.int 0), (.int 0), (.int 0), (.int 0), (.int 0)] (.int 0) := V_b14_33
  obtain ⟨T35, h35, X35, e35, W35, V_b14_35, st35⟩ := wC X33 ⟨hx, hby, hml, hZ13, hown13, hw⟩ e33 RV_b14_33 (9 : Int32) 9 (mkF m 307 #[vi p0, vi p1, vi p2, vj p3, .second, vi (nE p2), vi (fx41 p0), vi (fx41 p1), vi (fx42 p3 p2), vi (fx43 p3 p2), vi (fx44 p3 p2), vi (fx45 p3 p2), vi (fx46 p3 p2), vi (fx47 p3 p2), vr b7, vr b8, vr b13_0, vi 0, vr b14, uu] [(.int 123), (.int 9), (.ref b14)]) at_307
  have N35 := Fr.snoc X35 N33 g_b14
  have O35 := O33.wr W35 g_b14
  have CH35 := CH33.trans (CHr.wr W35 (Safe.exa hZ13.alike ((f_31.wr W30).wr W33) (by decide) (by decide)) CH33.1)
  have hk35 := Nat.le_trans hk33 (Keep.of_wr W35).1
  obtain ⟨T37, h37, X37, e37, W37, V_b14_37, st37⟩ := wC X35 ⟨hx, hby, hml, hZ13, hown13, hw⟩ e35 V_b14_35 (10 : Int32) 10 (mkF m 368 #[vi p0, vi p1, vi p2, vj p3, .second, vi (nE p2), vi (fx41 p0), vi (fx41 p1), vi (fx42 p3 p2), vi (fx43 p3 p2), vi (fx44 p3 p2), vi (fx45 p3 p2), vi (fx46 p3 p2), vi (fx47 p3 p2), vr b7, vr b8, vr b13_0, vi 0, vr b14, vi 10] [(.int 125), (.int 10), (.ref b14)]) at_368
  have N37 := Fr.snoc X37 N35 g_b14
  have O37 := O35.wr W37 g_b14
  have CH37 := CH35.trans (CHr.wr W37 (Safe.exa hZ13.alike (((f_31.wr W30).wr W33).wr W35) (by decide) (by decide)) CH35.1)
  have hk37 := Nat.le_trans hk35 (Keep.of_wr W37).1
  obtain ⟨T39, h39, X39, e39, W39, V_b14_39, st39⟩ := wC X37 ⟨hx, hby, hml, hZ13, hown13, hw⟩ e37 V_b14_37 (11 : Int32) 11 (mkF m 377 #[vi p0, vi p1, vi p2, vj p3, .second, vi (nE p2), vi (fx41 p0), vi (fx41 p1), vi (fx42 p3 p2), vi (fx43 p3 p2), vi (fx44 p3 p2), vi (fx45 p3 p2), vi (fx46 p3 p2), vi (fx47 p3 p2), vr b7, vr b8, vr b13_0, vi 0, vr b14, vi 10] [(.int 35), (.int 11), (.ref b14)]) at_377
  have N39 := Fr.snoc X39 N37 g_b14
  have O39 := O37.wr W39 g_b14
  have CH39 := CH37.trans (CHr.wr W39 (Safe.exa hZ13.alike ((((f_31.wr W30).wr W33).wr W35).wr W37) (by decide) (by decide)) CH37.1)
  have hk39 := Nat.le_trans hk37 (Keep.of_wr W39).1
  have RV_b14_39 : Arv Z h39 b14 k14 .char (15 : Int32) [(.int 35), (.int 36), (.int 36), (.int 35), (.int 123), (.int (fx52 p0)), (.int 58), (.int (fx52 p1)), (.int 125), (.int 123), (.int 125), (.int 35), (.int 0), (.int 0), (.int 0)] (.int 0) := V_b14_39
  obtain ⟨T41, h41, X41, e41, W41, V_b14_41, st41⟩ := wC X39 ⟨hx, hby, hml, hZ13, hown13, hw⟩ e39 RV_b14_39 (12 : Int32) 12 (mkF m 386 #[vi p0, vi p1, vi p2, vj p3, .second, vi (nE p2), vi (fx41 p0), vi (fx41 p1), vi (fx42 p3 p2), vi (fx43 p3 p2), vi (fx44 p3 p2), vi (fx45 p3 p2), vi (fx46 p3 p2), vi (fx47 p3 p2), vr b7, vr b8, vr b13_0, vi 0, vr b14, vi 10] [(.int 36), (.int 12), (.ref b14)]) at_386
  have N41 := Fr.snoc X41 N39 g_b14
  have O41 := O39.wr W41 g_b14
  have CH41 := CH39.trans (CHr.wr W41 (Safe.exa hZ13.alike (((((f_31.wr W30).wr W33).wr W35).wr W37).wr W39) (by decide) (by decide)) CH39.1)
  have hk41 := Nat.le_trans hk39 (Keep.of_wr W41).1
  obtain ⟨T43, h43, X43, e43, W43, V_b14_43, st43⟩ := wC X41 ⟨hx, hby, hml, hZ13, hown13, hw⟩ e41 V_b14_41 (13 : Int32) 13 (mkF m 395 #[vi p0, vi p1, vi p2, vj p3, .second, vi (nE p2), vi (fx41 p0), vi (fx41 p1), vi (fx42 p3 p2), vi (fx43 p3 p2), vi (fx44 p3 p2), vi (fx45 p3 p2), vi (fx46 p3 p2), vi (fx47 p3 p2), vr b7, vr b8, vr b13_0, vi 0, vr b14, vi 10] [(.int 36), (.int 13), (.ref b14)]) at_395
  have N43 := Fr.snoc X43 N41 g_b14
  have O43 := O41.wr W43 g_b14
  have CH43 := CH41.trans (CHr.wr W43 (Safe.exa hZ13.alike ((((((f_31.wr W30).wr W33).wr W35).wr W37).wr W39).wr W41) (by decide) (by decide)) CH41.1)
  have hk43 := Nat.le_trans hk41 (Keep.of_wr W43).1
  obtain ⟨T45, h45, X45, e45, W45, V_b14_45, st45⟩ := wC X43 ⟨hx, hby, hml, hZ13, hown13, hw⟩ e43 V_b14_43 (14 : Int32) 14 (mkF m 404 #[vi p0, vi p1, vi p2, vj p3, .second, vi (nE p2), vi (fx41 p0), vi (fx41 p1), vi (fx42 p3 p2), vi (fx43 p3 p2), vi (fx44 p3 p2), vi (fx45 p3 p2), vi (fx46 p3 p2), vi (fx47 p3 p2), vr b7, vr b8, vr b13_0, vi 0, vr b14, vi 10] [(.int 35), (.int 14), (.ref b14)]) at_404
  have f_46 := (((((((f_31.wr W30).wr W33).wr W35).wr W37).wr W39).wr W41).wr W43)
  have N45 := Fr.snoc X45 N43 g_b14
  have O45 := O43.wr W45 g_b14
  have CH45 := CH43.trans (CHr.wr W45 (Safe.exa hZ13.alike f_46 (by decide) (by decide)) CH43.1)
  have hk45 := Nat.le_trans hk43 (Keep.of_wr W45).1
  have RV_b14_45 : Arv Z h45 b14 k14 .char (15 : Int32) [(.int 35), (.int 36), (.int 36), (.int 35), (.int 123), (.int (fx52 p0)), (.int 58), (.int (fx52 p1)), (.int 125), (.int 123), (.int 125), (.int 35), (.int 36), (.int 36), (.int 35)] (.int 0) := V_b14_45
  obtain ⟨T47, h47, X47, e47, E47, A47, D47, -, st47⟩ := newO X45 hx hZ13 hown13 (wq hw 256 rfl) (wq hw 20 rfl) (wq hw 12 rfl) e45 (g := (mkF m 407 #[vi p0, vi p1, vi p2, vj p3, .second, vi (nE p2), vi (fx41 p0), vi (fx41 p1), vi (fx42 p3 p2), vi (fx43 p3 p2), vi (fx44 p3 p2), vi (fx45 p3 p2), vi (fx46 p3 p2), vi (fx47 p3 p2), vr b7, vr b8, vr b13_0, vi 0, vr b14, vi 10] [(.ref b13_0)])) rfl (hb hby at_407) (by decide) (by decide)
  obtain ⟨b47, g47⟩ : ∃ z, z = h45.size := ⟨_, rfl⟩
  rw [← g47] at A47 D47 st47
  have g_b47 : n0 ≤ b47 := Nat.le_trans (own_sz O45) (Nat.le_of_eq g47.symm)
  have O47 := O45.ext E47
  have CH47 := CH45.trans (CHr.ext E47 CH45.1)
  have hk47 := Nat.le_trans hk45 E47.1
  have F_value_b47 : Fld Z h47 b47 "java/lang/String" "value" "[B" .null := D47 (Or.inr (wq hw 32 rfl)) (ty := (.array .byte)) (by decide)
  have F_coder_b47 : Fld Z h47 b47 "java/lang/String" "coder" "B" (.int 0) := D47 (Or.inr (wq hw 34 rfl)) (ty := .byte) (by decide)
  obtain ⟨_, T48, Lc48, X48, hQ48, st48⟩ := nB X47 ⟨hx, hby, hml, hZ13, hown13, hw⟩ 2 257 258 259 (StrChars.Road.backV (W := 2) hZ13 (own_hws hw) (kI := 4) (wq hw 20 rfl) (cs := [(35 : Int32), (36 : Int32), (36 : Int32), (35 : Int32), (123 : Int32), (nar .char ((p0 &&& (255 : Int32)).toUInt32.toUInt16.toUInt32.toInt32)), (58 : Int32), (nar .char ((p1 &&& (255 : Int32)).toUInt32.toUInt16.toUInt32.toInt32)), (125 : Int32), (123 : Int32), (125 : Int32), (35 : Int32), (36 : Int32), (36 : Int32), (35 : Int32)]) (n := 15) g_b47 (own_sz O47) A47 F_value_b47 F_coder_b47 (RV_b14_45.ext E47) (S_COMPACT_STRINGS.ext O47.2) h_cs rfl rfl (by decide) (by decide) (all2c ⟨by decide, by decide⟩ (all2c ⟨by decide, by decide⟩ (all2c ⟨by decide, by decide⟩ (all2c ⟨by decide, by decide⟩ (all2c ⟨by decide, by decide⟩ (all2c (own_cac p0) (all2c ⟨by decide, by decide⟩ (all2c (own_cac p1) (all2c ⟨by decide, by decide⟩ (all2c ⟨by decide, by decide⟩ (all2c ⟨by decide, by decide⟩ (all2c ⟨by decide, by decide⟩ (all2c ⟨by decide, by decide⟩ (all2c ⟨by decide, by decide⟩ (all2c ⟨by decide, by decide⟩ all2n))))))))))))))) rfl (by decide) (by decide)) e47 (mkF m 413 #[vi p0, vi p1, vi p2, vj p3, .second, vi (nE p2), vi (fx41 p0), vi (fx41 p1), vi (fx42 p3 p2), vi (fx43 p3 p2), vi (fx44 p3 p2), vi (fx45 p3 p2), vi (fx46 p3 p2), vi (fx47 p3 p2), vr b7, vr b8, vr b13_0, vi 0, vr b14, vi 10] [(.ref b14), (.ref b47), (.ref b47), (.ref b13_0)]) [(.ref b14)] [(.ref b47), (.ref b13_0)] pd_33 at_413
  replace hQ48 := own_qv hQ48
  obtain ⟨b48_0, kc48_0, rfl, Nq48, Kq48, sq_b48_0, fq48_0, fq48_1, fq48_2, fq48_3⟩ := hQ48
  have N48 := Fr.app N45 Nq48
  have sf_49 := (Safe.ext E47 CH45.1 (Safe.new (Nat.le_of_eq g47.symm)))
  have CH48 := CH47.trans (CHr.keep Kq48 (allS sf_49 all0) CH47.1)
  have hk48 := Nat.le_trans hk47 Kq48.1
  have O48 := O47.keep Kq48 (allS g_b47 all0)
  have f_50 := ((((((((((((((((((fq13_0.ext E14).wr W16).wr W18).wr W20).wr W22).wr W24).wr W26).wr W28).wr W30).wr W33).wr W35).wr W37).wr W39).wr W41).wr W43).wr W45).ext E47).keep Kq48)
  have nz5 : b13_0 ≠ b47 := (Nat.ne_of_lt (Nat.lt_of_lt_of_le ((((((((((((((((fq13_0.ext E14).wr W16).wr W18).wr W20).wr W22).wr W24).wr W26).wr W28).wr W30).wr W33).wr W35).wr W37).wr W39).wr W41).wr W43).wr W45).lt (Nat.le_of_eq g47.symm)))
  have nz6 : b13_0 ≠ b14 := (Nat.ne_of_lt (Nat.lt_of_lt_of_le fq13_0.lt (Nat.le_of_eq g14.symm)))
  have f_51 := ((((((((((((((((((fq13_1.ext E14).other W16 (Or.inl nz6)).other W18 (Or.inl nz6)).other W20 (Or.inl nz6)).other W22 (Or.inl nz6)).other W24 (Or.inl nz6)).other W26 (Or.inl nz6)).other W28 (Or.inl nz6)).other W30 (Or.inl nz6)).other W33 (Or.inl nz6)).other W35 (Or.inl nz6)).other W37 (Or.inl nz6)).other W39 (Or.inl nz6)).other W41 (Or.inl nz6)).other W43 (Or.inl nz6)).other W45 (Or.inl nz6)).ext E47).keep Kq48 (ninS nz5 nin0))
  have f_52 := ((((((((((((((((((fq13_2.ext E14).other W16 (Or.inl nz6)).other W18 (Or.inl nz6)).other W20 (Or.inl nz6)).other W22 (Or.inl nz6)).other W24 (Or.inl nz6)).other W26 (Or.inl nz6)).other W28 (Or.inl nz6)).other W30 (Or.inl nz6)).other W33 (Or.inl nz6)).other W35 (Or.inl nz6)).other W37 (Or.inl nz6)).other W39 (Or.inl nz6)).other W41 (Or.inl nz6)).other W43 (Or.inl nz6)).other W45 (Or.inl nz6)).ext E47).keep Kq48 (ninS nz5 nin0))
  have nz7 : b13_1 ≠ b14 := (Nat.ne_of_lt (Nat.lt_of_lt_of_le fq13_3.lt (Nat.le_of_eq g14.symm)))
  have nz8 : b13_1 ≠ b47 := (Nat.ne_of_lt (Nat.lt_of_lt_of_le ((((((((((((((((fq13_3.ext E14).wr W16).wr W18).wr W20).wr W22).wr W24).wr W26).wr W28).wr W30).wr W33).wr W35).wr W37).wr W39).wr W41).wr W43).wr W45).lt (Nat.le_of_eq g47.symm)))
  have f_53 := ((((((((((((((((((fq13_4.ext E14).other W16 nz7).other W18 nz7).other W20 nz7).other W22 nz7).other W24 nz7).other W26 nz7).other W28 nz7).other W30 nz7).other W33 nz7).other W35 nz7).other W37 nz7).other W39 nz7).other W41 nz7).other W43 nz7).other W45 nz7).ext E47).keep Kq48 (ninS nz8 nin0))
  obtain ⟨_, T54, Lc54, X54, hQ54, st54⟩ := vS X48 ⟨hx, hby, hml, hZ13, hown13, hw⟩ y43 0 273 274 276 275 277 12 (rm62 l Z a0 hw [] w_enc w_tb cs_v cl_tb wv_fm hp b13_0 b47 b13_1 b48_0 kc13_0 [(.int 35), (.int 36), (.int 36), (.int 35), (.int 123), (.int (nar .byte (((p0 &&& (255 : Int32)).toUInt32.toUInt16.toUInt32.toInt32).toInt8.toInt32))), (.int 58), (.int (nar .byte (((p1 &&& (255 : Int32)).toUInt32.toUInt16.toUInt32.toInt32).toInt8.toInt32))), (.int 125), (.int 123), (.int 125), (.int 35), (.int 36), (.int 36), (.int 35)] ((15 : Int32) - (0 : Int32)) kc48_0 [(.int 35), (.int 36), (.int 36), (.int 35), (.int 123), (.int ((nar .char ((p0 &&& (255 : Int32)).toUInt32.toUInt16.toUInt32.toInt32)).toInt8.toInt32)), (.int 58), (.int ((nar .char ((p1 &&& (255 : Int32)).toUInt32.toUInt16.toUInt32.toInt32)).toInt8.toInt32)), (.int 125), (.int 123), (.int 125), (.int 35), (.int 36), (.int 36), (.int 35)] (15 : Int32) T48.heap n0 O48 nz5 fq48_0 f_51 fq48_1 f_52 fq48_2 f_53 fq48_3 (own_cons rfl (own_cons rfl (own_cons rfl (own_cons rfl (own_cons rfl (own_cons (own_cab p0) (own_cons rfl (own_cons (own_cab p1) (own_cons rfl (own_cons rfl (own_cons rfl (own_cons rfl (own_cons rfl (own_cons rfl (own_cons rfl rfl))))))))))))))) (by decide)) rfl f_50 (mkF m 416 #[vi p0, vi p1, vi p2, vj p3, .second, vi (nE p2), vi (fx41 p0), vi (fx41 p1), vi (fx42 p3 p2), vi (fx43 p3 p2), vi (fx44 p3 p2), vi (fx45 p3 p2), vi (fx46 p3 p2), vi (fx47 p3 p2), vr b7, vr b8, vr b13_0, vi 0, vr b14, vi 10] [(.ref b47), (.ref b13_0)]) [(.ref b47)] [] pd_35 at_416
  obtain ⟨rfl, Nq54, eq54⟩ := hQ54
  have N54 := Fr.app N48 Nq54
  obtain ⟨fs, hr, hrun, hended, hE⟩ := Stand.leaveW (s := s) X54 hS13 (by rw [eq54]; exact hk48) (v := some (.int 1)) (fun h => by rw [Bd.returns] at h; cases h)
  refine ⟨_, _, castTop (ef_0_0 m p0 p1 p2 p3) ?_, hrun, hended, _, _, rfl, ?_, hE.1, hE.2.1, hE.2.2.1, hE.2.2.2.mono (by decide) (by decide)⟩
  · show Sp p e below s₁ (mkF m 0 #[vi p0, vi p1, vi p2, vj p3, .second, uu, uu, uu, uu, uu, uu, uu, uu, uu, uu, uu, uu, uu, uu, uu] []) _
    refine iln X0 qz at_0 ?_
    refine X0.ldcI hx hown (mvT hZ (wq hw 0 rfl)) rfl (hb hby at_1) ?_
    refine wiand X0 qz at_3 ?_
    refine bp X0 qz at_4 ?_
    refine iremM X0 hx rfl (hb hby at_6) rfl (by decide) ?_
    refine st X0 qz at_7 #[vi p0, vi p1, vi p2, vj p3, .second, vi (fx40 p2), uu, uu, uu, uu, uu, uu, uu, uu, uu, uu, uu, uu, uu, uu] ?_
    show Sp p e below s₁ (mkF m 9 #[vi p0, vi p1, vi p2, vj p3, .second, vi (fx40 p2), uu, uu, uu, uu, uu, uu, uu, uu, uu, uu, uu, uu, uu, uu] []) _
    show Sp p e below s₁ (mkF m 9 #[vi p0, vi p1, vi p2, vj p3, .second, vi (nE p2), uu, uu, uu, uu, uu, uu, uu, uu, uu, uu, uu, uu, uu, uu] []) _
    refine iln X0 qz at_9 ?_
    refine sp X0 qz at_10 ?_
    refine wiand X0 qz at_13 ?_
    refine XS.i2c X0.here hx rfl (hb hby at_14) rfl ?_
    refine st X0 qz at_15 #[vi p0, vi p1, vi p2, vj p3, .second, vi (nE p2), vi (fx41 p0), uu, uu, uu, uu, uu, uu, uu, uu, uu, uu, uu, uu, uu] ?_
    refine iln X0 qz at_17 ?_
    refine sp X0 qz at_18 ?_
    refine wiand X0 qz at_21 ?_
    refine XS.i2c X0.here hx rfl (hb hby at_22) rfl ?_
    refine st X0 qz at_23 #[vi p0, vi p1, vi p2, vj p3, .second, vi (nE p2), vi (fx41 p0), vi (fx41 p1), uu, uu, uu, uu, uu, uu, uu, uu, uu, uu, uu, uu] ?_
    refine XS.lloadN X0.here hx rfl (hb hby at_25) rfl ?_
    refine ic X0 qz at_26 ?_
    refine il X0 qz at_27 ?_
    refine st1 _ ?_
    refine st X1 qz at_32 #[vi p0, vi p1, vi p2, vj p3, .second, vi (nE p2), vi (fx41 p0), vi (fx41 p1), vi (fx42 p3 p2), uu, uu, uu, uu, uu, uu, uu, uu, uu, uu, uu] ?_
    refine XS.lloadN X1.here hx rfl (hb hby at_34) rfl ?_
    show Sp p e below T1 (mkF m 35 #[vi p0, vi p1, vi p2, vj p3, .second, vi (nE p2), vi (fx41 p0), vi (fx41 p1), vi (fx42 p3 p2), uu, uu, uu, uu, uu, uu, uu, uu, uu, uu, uu] [(.long p3)]) _
    refine ic X1 qz at_35 ?_
    refine il X1 qz at_36 ?_
    refine st2 _ ?_
    refine st X2 qz at_41 #[vi p0, vi p1, vi p2, vj p3, .second, vi (nE p2), vi (fx41 p0), vi (fx41 p1), vi (fx42 p3 p2), vi (fx43 p3 p2), uu, uu, uu, uu, uu, uu, uu, uu, uu, uu] ?_
    refine XS.lloadN X2.here hx rfl (hb hby at_43) rfl ?_
    refine ic X2 qz at_44 ?_
    refine il X2 qz at_45 ?_
    refine st3 _ ?_
    refine st X3 qz at_50 #[vi p0, vi p1, vi p2, vj p3, .second, vi (nE p2), vi (fx41 p0), vi (fx41 p1), vi (fx42 p3 p2), vi (fx43 p3 p2), vi (fx44 p3 p2), uu, uu, uu, uu, uu, uu, uu, uu, uu] ?_
    refine XS.lloadN X3.here hx rfl (hb hby at_52) rfl ?_
    refine ic X3 qz at_53 ?_
    refine il X3 qz at_54 ?_
    refine st4 _ ?_
    refine st X4 qz at_59 #[vi p0, vi p1, vi p2, vj p3, .second, vi (nE p2), vi (fx41 p0), vi (fx41 p1), vi (fx42 p3 p2), vi (fx43 p3 p2), vi (fx44 p3 p2), vi (fx45 p3 p2), uu, uu, uu, uu, uu, uu, uu, uu] ?_
    refine XS.lloadN X4.here hx rfl (hb hby at_61) rfl ?_
    refine ic X4 qz at_62 ?_
    show Sp p e below T4 (mkF m 63 #[vi p0, vi p1, vi p2, vj p3, .second, vi (nE p2), vi (fx41 p0), vi (fx41 p1), vi (fx42 p3 p2), vi (fx43 p3 p2), vi (fx44 p3 p2), vi (fx45 p3 p2), uu, uu, uu, uu, uu, uu, uu, uu] [(.int 4), (.long p3)]) _
    refine il X4 qz at_63 ?_
    refine st5 _ ?_
    refine st X5 qz at_68 #[vi p0, vi p1, vi p2, vj p3, .second, vi (nE p2), vi (fx41 p0), vi (fx41 p1), vi (fx42 p3 p2), vi (fx43 p3 p2), vi (fx44 p3 p2), vi (fx45 p3 p2), vi (fx46 p3 p2), uu, uu, uu, uu, uu, uu, uu] ?_
    refine XS.lloadN X5.here hx rfl (hb hby at_70) rfl ?_
    refine ic X5 qz at_71 ?_
    refine il X5 qz at_72 ?_
    refine st6 _ ?_
    refine st X6 qz at_77 #[vi p0, vi p1, vi p2, vj p3, .second, vi (nE p2), vi (fx41 p0), vi (fx41 p1), vi (fx42 p3 p2), vi (fx43 p3 p2), vi (fx44 p3 p2), vi (fx45 p3 p2), vi (fx46 p3 p2), vi (fx47 p3 p2), uu, uu, uu, uu, uu, uu] ?_
    show Sp p e below T6 (mkF m 79 #[vi p0, vi p1, vi p2, vj p3, .second, vi (nE p2), vi (fx41 p0), vi (fx41 p1), vi (fx42 p3 p2), vi (fx43 p3 p2), vi (fx44 p3 p2), vi (fx45 p3 p2), vi (fx46 p3 p2), vi (fx47 p3 p2), uu, uu, uu, uu, uu, uu] []) _
    refine st7 _ ?_
    refine st8 _ ?_
    refine XS.dup X8.here hx rfl (hb hby at_165) rfl rfl ?_
    refine il X8 qz at_166 ?_
    refine st9 _ ?_
    refine il X9 qz at_171 ?_
    refine st10 _ ?_
    refine al X10 qz at_176 ?_
    refine st11.trans ?_
    refine sta X11 qz at_181 #[vi p0, vi p1, vi p2, vj p3, .second, vi (nE p2), vi (fx41 p0), vi (fx41 p1), vi (fx42 p3 p2), vi (fx43 p3 p2), vi (fx44 p3 p2), vi (fx45 p3 p2), vi (fx46 p3 p2), vi (fx47 p3 p2), vr b7, vr b8, uu, uu, uu, uu] ?_
    refine al X11 qz at_183 ?_
    refine st13.trans ?_
    refine sta X13 qz at_188 #[vi p0, vi p1, vi p2, vj p3, .second, vi (nE p2), vi (fx41 p0), vi (fx41 p1), vi (fx42 p3 p2), vi (fx43 p3 p2), vi (fx44 p3 p2), vi (fx45 p3 p2), vi (fx46 p3 p2), vi (fx47 p3 p2), vr b7, vr b8, vr b13_0, uu, uu, uu] ?_
    refine il X13 qz at_190 ?_
    refine ifN X13 qz at_192 (teq (own_nh0 (own_nE p2) hc1)).2 ?_
    refine ic X13 qz at_195 ?_
    show Sp p e below T13 (mkF m 196 #[vi p0, vi p1, vi p2, vj p3, .second, vi (nE p2), vi (fx41 p0), vi (fx41 p1), vi (fx42 p3 p2), vi (fx43 p3 p2), vi (fx44 p3 p2), vi (fx45 p3 p2), vi (fx46 p3 p2), vi (fx47 p3 p2), vr b7, vr b8, vr b13_0, uu, uu, uu] [(.int 0)]) _
    refine gt X13 qz 196 211 at_196 ?_
    refine st X13 qz at_211 #[vi p0, vi p1, vi p2, vj p3, .second, vi (nE p2), vi (fx41 p0), vi (fx41 p1), vi (fx42 p3 p2), vi (fx43 p3 p2), vi (fx44 p3 p2), vi (fx45 p3 p2), vi (fx46 p3 p2), vi (fx47 p3 p2), vr b7, vr b8, vr b13_0, vi 0, uu, uu] ?_
    refine il X13 qz at_213 ?_
    refine ifN X13 qz at_215 (teq (by decide : (0 : Int32) = (0 : Int32))).2 ?_
    refine bp X13 qz at_218 ?_
    refine st14 _ ?_
    refine gt X14 qz 222 242 at_222 ?_
    refine sta X14 qz at_242 #[vi p0, vi p1, vi p2, vj p3, .second, vi (nE p2), vi (fx41 p0), vi (fx41 p1), vi (fx42 p3 p2), vi (fx43 p3 p2), vi (fx44 p3 p2), vi (fx45 p3 p2), vi (fx46 p3 p2), vi (fx47 p3 p2), vr b7, vr b8, vr b13_0, vi 0, vr b14, uu] ?_
    refine al X14 qz at_244 ?_
    refine ic X14 qz at_246 ?_
    refine bp X14 qz at_247 ?_
    refine st16 _ ?_
    refine al X16 qz at_250 ?_
    refine ic X16 qz at_252 ?_
    refine bp X16 qz at_253 ?_
    refine st18 _ ?_
    show Sp p e below T18 (mkF m 256 #[vi p0, vi p1, vi p2, vj p3, .second, vi (nE p2), vi (fx41 p0), vi (fx41 p1), vi (fx42 p3 p2), vi (fx43 p3 p2), vi (fx44 p3 p2), vi (fx45 p3 p2), vi (fx46 p3 p2), vi (fx47 p3 p2), vr b7, vr b8, vr b13_0, vi 0, vr b14, uu] []) _
    refine al X18 qz at_256 ?_
    refine ic X18 qz at_258 ?_
    refine bp X18 qz at_259 ?_
    refine st20 _ ?_
    refine al X20 qz at_262 ?_
    refine ic X20 qz at_264 ?_
    refine bp X20 qz at_265 ?_
    refine st22 _ ?_
    refine al X22 qz at_268 ?_
    refine ic X22 qz at_270 ?_
    refine bp X22 qz at_271 ?_
    refine st24 _ ?_
    refine al X24 qz at_274 ?_
    refine ic X24 qz at_276 ?_
    refine il X24 qz at_277 ?_
    refine st26 _ ?_
    show Sp p e below T26 (mkF m 280 #[vi p0, vi p1, vi p2, vj p3, .second, vi (nE p2), vi (fx41 p0), vi (fx41 p1), vi (fx42 p3 p2), vi (fx43 p3 p2), vi (fx44 p3 p2), vi (fx45 p3 p2), vi (fx46 p3 p2), vi (fx47 p3 p2), vr b7, vr b8, vr b13_0, vi 0, vr b14, uu] []) _
    refine al X26 qz at_280 ?_
    refine bp X26 qz at_282 ?_
    refine bp X26 qz at_284 ?_
    refine st28 _ ?_
    refine al X28 qz at_287 ?_
    refine bp X28 qz at_289 ?_
    refine il X28 qz at_291 ?_
    refine st30 _ ?_
    refine al X30 qz at_294 ?_
    refine bp X30 qz at_296 ?_
    refine bp X30 qz at_298 ?_
    refine st33 _ ?_
    refine al X33 qz at_301 ?_
    refine bp X33 qz at_303 ?_
    refine bp X33 qz at_305 ?_
    refine st35 _ ?_
    show Sp p e below T35 (mkF m 308 #[vi p0, vi p1, vi p2, vj p3, .second, vi (nE p2), vi (fx41 p0), vi (fx41 p1), vi (fx42 p3 p2), vi (fx43 p3 p2), vi (fx44 p3 p2), vi (fx45 p3 p2), vi (fx46 p3 p2), vi (fx47 p3 p2), vr b7, vr b8, vr b13_0, vi 0, vr b14, uu] []) _
    refine il X35 qz at_308 ?_
    refine ifY X35 qz 310 332 at_310 (flt (own_nh1 (own_nE p2) hc1)).2.2.2 ?_
    refine il X35 qz at_332 ?_
    refine ic X35 qz at_334 ?_
    refine icY X35 qz 335 355 at_335 (flt (own_nh2 (own_nE p2) hc1)).2.2.2 ?_
    refine bp X35 qz at_355 ?_
    refine il X35 qz at_357 ?_
    refine wia X35 qz at_359 ?_
    refine stk (y := (.int 10)) rfl ?_
    refine st X35 qz at_360 #[vi p0, vi p1, vi p2, vj p3, .second, vi (nE p2), vi (fx41 p0), vi (fx41 p1), vi (fx42 p3 p2), vi (fx43 p3 p2), vi (fx44 p3 p2), vi (fx45 p3 p2), vi (fx46 p3 p2), vi (fx47 p3 p2), vr b7, vr b8, vr b13_0, vi 0, vr b14, vi 10] ?_
    refine al X35 qz at_362 ?_
    refine il X35 qz at_364 ?_
    refine bp X35 qz at_366 ?_
    refine st37 _ ?_
    refine al X37 qz at_369 ?_
    refine il X37 qz at_371 ?_
    refine ic X37 qz at_373 ?_
    show Sp p e below T37 (mkF m 374 #[vi p0, vi p1, vi p2, vj p3, .second, vi (nE p2), vi (fx41 p0), vi (fx41 p1), vi (fx42 p3 p2), vi (fx43 p3 p2), vi (fx44 p3 p2), vi (fx45 p3 p2), vi (fx46 p3 p2), vi (fx47 p3 p2), vr b7, vr b8, vr b13_0, vi 0, vr b14, vi 10] [(.int 1), (.int 10), (.ref b14)]) _
    refine wia X37 qz at_374 ?_
    refine stk (y := (.int 11)) rfl ?_
    refine bp X37 qz at_375 ?_
    refine st39 _ ?_
    refine al X39 qz at_378 ?_
    refine il X39 qz at_380 ?_
    refine ic X39 qz at_382 ?_
    refine wia X39 qz at_383 ?_
    refine stk (y := (.int 12)) rfl ?_
    refine bp X39 qz at_384 ?_
    refine st41 _ ?_
    refine al X41 qz at_387 ?_
    refine il X41 qz at_389 ?_
    refine ic X41 qz at_391 ?_
    refine wia X41 qz at_392 ?_
    refine stk (y := (.int 13)) rfl ?_
    refine bp X41 qz at_393 ?_
    refine st43 _ ?_
    refine al X43 qz at_396 ?_
    show Sp p e below T43 (mkF m 398 #[vi p0, vi p1, vi p2, vj p3, .second, vi (nE p2), vi (fx41 p0), vi (fx41 p1), vi (fx42 p3 p2), vi (fx43 p3 p2), vi (fx44 p3 p2), vi (fx45 p3 p2), vi (fx46 p3 p2), vi (fx47 p3 p2), vr b7, vr b8, vr b13_0, vi 0, vr b14, vi 10] [(.ref b14)]) _
    refine il X43 qz at_398 ?_
    refine ic X43 qz at_400 ?_
    refine wia X43 qz at_401 ?_
    refine stk (y := (.int 14)) rfl ?_
    refine bp X43 qz at_402 ?_
    refine st45 _ ?_
    refine al X45 qz at_405 ?_
    refine st47 _ ?_
    refine XS.dup X47.here hx rfl (hb hby at_410) rfl rfl ?_
    refine al X47 qz at_411 ?_
    refine st48.trans ?_
    refine st54.trans ?_
    exact retN X54 hx (t := .boolean) Bd.returns (by simp) (hb hby at_419) hr
  · skip
    exact ⟨rfl, N54⟩
theorem d27_37 : dk cb27 37 (.getstatic 38) 3 := by decide +kernel
theorem d27_40 : dk cb27 40 (.ifCond .eq 29) 3 := by decide +kernel
theorem d27_43 : dk cb27 43 (.iload_n 2) 1 := by decide +kernel
theorem d27_44 : dk cb27 44 .i2b 1 := by decide +kernel
theorem d27_45 : dk cb27 45 (.ifCond .ne 24) 3 := by decide +kernel
theorem d27_48 : dk cb27 48 (.aload_n 0) 1 := by decide +kernel
theorem d27_49 : dk cb27 49 (.aload_n 1) 1 := by decide +kernel
theorem d27_50 : dk cb27 50 (.iload_n 3) 1 := by decide +kernel
theorem d27_51 : dk cb27 51 (.iload_n 3) 1 := by decide +kernel
theorem d27_52 : dk cb27 52 (.iload 4) 2 := by decide +kernel
theorem d27_54 : dk cb27 54 .iadd 1 := by decide +kernel
theorem d27_55 : dk cb27 55 (.invokestatic 54) 3 := by decide +kernel
theorem d30_17 : dk cb30 17 (.aload_n 0) 1 := by decide +kernel
theorem d30_18 : dk cb30 18 (.invokevirtual 310) 3 := by decide +kernel
theorem d30_21 : dk cb30 21 (.checkcast 311) 3 := by decide +kernel
theorem d30_24 : dk cb30 24 .areturn 1 := by decide +kernel
theorem rm64 (l : Launch) (Z : State) (a0 : Array Value) (hw : HW Z a0) (ws : List Jvm.Cond) (w_enc w_tb : Addr) (cs_v : Int32) (cl_tb : Cell) (wv_fm : Value) (hp : Perm Z w_enc w_tb cs_v cl_tb wv_fm) (a1 : Addr) (p2 : Int32) (k_a1 : ClassId) (l_a1 : List Value) (p5 : Int32) (h0 : Heap) (n0 : Nat) (O0 : Old Z n0 h0) (V_a1 : Arv Z h0 a1 k_a1 .byte p5 (lid l_a1) (.int 0)) (hc2 : p2 = p5) (E_a1 : Exa Z h0 a1 "[B") (hs4 : (p5).toNatClampNeg ≤ 40) :
    MF l y38 (Jvm.Cond.code y38 jdk_65_method_132_code 3 (some (.array .byte)) :: ws) ({ frames := 1, cells := 1, slots := 40, locals := 14 } : Room) Z #[(.ref a1), (.int 0), (.int p2)] h0 (fun v h L => ∃ (b2 : Addr), v = some (.ref b2) ∧ Fr n0 L ∧ Keep h0 h [] ∧ h0.size ≤ b2 ∧ Exa Z h b2 "[B" ∧ Arv Z h b2 k_a1 .byte p5 (lid l_a1) (.int 0)) := by
  refine mfB (plainFor_of_name pn_44) hw fun p e s m below meth c s₁ Bd Kz X0 e0 => ?_
  obtain ⟨hx, hby, hml, hZ, hown, -⟩ := id Kz
  have qz := And.intro hx hby
  have N0 := Fr.nil n0
  obtain ⟨T2, h2, X2, e2, E2, A2, EA2, st2⟩ := cloneH X0 hx hZ hown (wq hw 181 rfl) (wq hw 182 rfl) (wq hw 186 rfl) (wq hw 184 rfl) (wq hw 185 rfl) (wq hw 187 rfl) e0 (Arv.arh V_a1) E_a1 (g := (mkF m 18 #[vr a1, vi 0, vi p2] [(.ref a1)])) rfl (by rw [hml]; rfl) rfl (hb hby d30_18) (by decide) (W := 0) (cap := 40) (by show 2 * 0 + _ ≤ _; exact Nat.le_of_eq rfl) (by decide) hs4 (by decide) (by decide)
  obtain ⟨b2, g2⟩ : ∃ z, z = h0.size := ⟨_, rfl⟩
  rw [← g2] at A2 EA2 st2
  have sz_b2 : h0.size ≤ b2 := Nat.le_trans (Keep.refl h0 []).1 (Nat.le_of_eq g2.symm)
  have K2 : Keep h0 h2 [] := (Keep.refl h0 []).ext E2
  have V_b2 : Arv Z h2 b2 k_a1 .byte p5 (lid l_a1) (.int 0) := A2
  obtain ⟨T3, X3, e3, st3⟩ := castY X2 hx hZ hown (wq hw 188 rfl) e2 (Ins.self EA2) (g := (mkF m 21 #[vr a1, vi 0, vi p2] [(.ref b2)])) rfl rfl (hb hby d30_21)
  refine mfE Bd X3 (some (.ref b2)) e3 (fun h => by rw [Bd.returns] at h; cases h) (ef_30_0 m a1 (0 : Int32) p2) ⟨b2, rfl, N0, K2, sz_b2, EA2, V_b2⟩ fun fs hr => ?_
  refine iln X0 qz d30_0 ?_
  refine ifN X0 qz d30_1 (teq (by decide : (0 : Int32) = (0 : Int32))).2 ?_
  refine iln X0 qz d30_4 ?_
  refine aln X0 qz d30_5 ?_
  refine aL X0 Kz e0 V_a1 d30_6 ?_
  refine icY X0 qz 7 17 d30_7 (teq hc2).1 ?_
  refine aln X0 qz d30_17 ?_
  refine st2 _ ?_
  refine st3 _ ?_
  jvm_step X3.here [X3.here.top, hx, (hb hby d30_24), X3.method', Bd.returns, Value.isRef, FieldType.isReference]
  first | (intro acts; rw [hr _ acts rfl rfl rfl]) | rw [hr _ _ rfl rfl rfl]
  exact Steps.refl _
theorem d27_58 : dk cb27 58 (.putfield 9) 3 := by decide +kernel
theorem d27_61 : dk cb27 61 (.aload_n 0) 1 := by decide +kernel
theorem d27_62 : dk cb27 62 (.iconst 0) 1 := by decide +kernel
theorem d27_63 : dk cb27 63 (.putfield 15) 3 := by decide +kernel
theorem d27_66 : dk cb27 66 (.goto 61) 3 := by decide +kernel
theorem d27_127 : dk cb27 127 .return_ 1 := by decide +kernel
theorem rm65 (l : Launch) (Z : State) (a0 : Array Value) (hw : HW Z a0) (ws : List Jvm.Cond) (w_enc w_tb : Addr) (cs_v : Int32) (cl_tb : Cell) (wv_fm : Value) (hp : Perm Z w_enc w_tb cs_v cl_tb wv_fm) (a1 : Addr) (a2 : Addr) (p3 : Int32) (k_a2 : ClassId) (l_a2 : List Value) (p6 : Int32) (h0 : Heap) (n0 : Nat) (O0 : Old Z n0 h0) (V_a2 : Arv Z h0 a2 k_a2 .byte p6 (lid l_a2) (.int 0)) (hc2 : ¬ (((p6 ||| (0 : Int32)) ||| p3) < (0 : Int32))) (hc3 : ¬ ((p6 - (0 : Int32)) < p3)) (hc4 : ¬ (p3 = (0 : Int32))) (hc5 : ((0 : Int32) + p3) = p6) (E_a2 : Exa Z h0 a2 "[B") (hs7 : (p6).toNatClampNeg ≤ 40) (E_a1 : Exa Z h0 a1 "java/lang/String") (F_coder_a1 : Fld Z h0 a1 "java/lang/String" "coder" "B" (.int 0)) (F_value_a1 : Fld Z h0 a1 "java/lang/String" "value" "[B" .null) (g_a1 : n0 ≤ a1) :
    MF l y30 (Jvm.Cond.code y30 jdk_42_method_7_code 7 none :: ws) ({ frames := 2, cells := 1, slots := 40, locals := 29 } : Room) Z #[(.ref a1), (.ref a2), (.int 0), (.int 0), (.int p3)] h0 (fun v h L => ∃ (b5_0 : Addr), v = none ∧ Fr n0 L ∧ Keep h0 h [a1] ∧ h0.size ≤ b5_0 ∧ Exa Z h a1 "java/lang/String" ∧ Fld Z h a1 "java/lang/String" "coder" "B" (.int 0) ∧ Fld Z h a1 "java/lang/String" "value" "[B" (.ref b5_0) ∧ Exa Z h b5_0 "[B" ∧ Arv Z h b5_0 k_a2 .byte p6 (lid l_a2) (.int 0)) := by
  refine mfB (plainFor_of_name pn_5) hw fun p e s m below meth c s₁ Bd Kz X0 e0 => ?_
  obtain ⟨hx, hby, hml, hZ, hown, -⟩ := id Kz
  have qz := And.intro hx hby
  have N0 := Fr.nil n0
  have hnm := (name_of_methodNamed Bd.named Bd.method).1
  obtain ⟨S_COMPACT_STRINGS, h_cs, _⟩ := id hp
  obtain ⟨T1, X1, e1, st1⟩ := initO X0 hx hZ hown (wq hw 28 rfl) (wq hw 29 rfl) (wq hw 30 rfl) e0 (g := (mkF m 1 #[vr a1, vr a2, vi 0, vi 0, vi p3, uu, uu] [(.ref a1)])) rfl (by rw [hml]; rfl) rfl (hb hby d27_1) (by decide) (W := 0) (by show 2 * 0 + _ ≤ _; exact Nat.le_of_eq rfl) (by decide)
  obtain ⟨_, T3, Lc3, X3, hQ3, st3⟩ := cS X1 Kz y29 0 169 170 12 171 (rm47 l Z a0 hw [] w_enc w_tb cs_v cl_tb wv_fm hp p3 p6 h0 n0 O0 hc2 hc3) e1 (mkF m 9 #[vr a1, vr a2, vi 0, vi 0, vi p3, uu, uu] [(.int p6), (.int p3), (.int 0)]) [(.int 0), (.int p3), (.int p6)] [] pd_23 d27_9
  obtain ⟨rfl, Nq3, eq3⟩ := hQ3
  have N3 := Fr.app N0 Nq3
  obtain ⟨T4, X4, e4, st4⟩ := getS2 X3 hx hZ hown (host := "") (Or.inl (wq hw 14 rfl)) Via.refl eq3 (S_COMPACT_STRINGS.ext O0.2) (g := (mkF m 37 #[vr a1, vr a2, vi 0, vi 0, vi p3, uu, uu] [])) rfl (hb hby d27_37)
  obtain ⟨_, T5, Lc5, X5, hQ5, st5⟩ := cS X4 Kz y38 1 177 178 179 180 (rm64 l Z a0 hw [] w_enc w_tb cs_v cl_tb wv_fm hp a2 ((0 : Int32) + p3) k_a2 l_a2 p6 h0 n0 O0 V_a2 hc5 E_a2 hs7) e4 (mkF m 55 #[vr a1, vr a2, vi 0, vi 0, vi p3, uu, uu] [(.int ((0 : Int32) + p3)), (.int 0), (.ref a2), (.ref a1)]) [(.ref a2), (.int 0), (.int ((0 : Int32) + p3))] [(.ref a1)] pd_29 d27_55
  obtain ⟨b5_0, rfl, Nq5, Kq5, sq_b5_0, fq5_0, fq5_1⟩ := hQ5
  have N5 := Fr.app N3 Nq5
  have sz_b5_0 : h0.size ≤ b5_0 := Nat.le_trans (Keep.refl h0 [a1]).1 sq_b5_0
  have K5 : Keep h0 T5.heap [a1] := (Keep.refl h0 [a1]).trans Kq5 all0
  obtain ⟨T6, h6, X6, e6, W6, st6⟩ := putF X5 hx hZ hown (host := "") (Or.inl (wq hw 31 rfl)) Via.refl rfl (F_value_a1.keep Kq5 nin0) (E_a1.keep Kq5) (Or.inr ⟨(wq hw 32 rfl), rfl, hnm⟩) (wq hw 20 rfl) (ty := (.array .byte)) (by decide) rfl rfl (g := (mkF m 58 #[vr a1, vr a2, vi 0, vi 0, vi p3, uu, uu] [(.ref b5_0), (.ref a1)])) rfl rfl (hb hby d27_58)
  have N6 := Fr.snoc X6 N5 g_a1
  have K6 : Keep h0 h6 [a1] := K5.wr W6 (Or.inl (ma 0 rfl))
  have Fw6 := (F_value_a1.keep Kq5 nin0).same W6
  obtain ⟨T7, h7, X7, e7, W7, st7⟩ := putFN X6 hx hZ hown (wq hw 33 rfl) Via.refl e6 ((F_coder_a1.keep Kq5 nin0).other W6 (Or.inr (sn0 hw))) ((E_a1.keep Kq5).wr W6) (Or.inr ⟨(wq hw 34 rfl), rfl, hnm⟩) (wq hw 20 rfl) (ty := .byte) (v' := (.int 0)) (by decide) rfl rfl (g := (mkF m 63 #[vr a1, vr a2, vi 0, vi 0, vi p3, uu, uu] [(.int 0), (.ref a1)])) rfl rfl (hb hby d27_63)
  have N7 := Fr.snoc X7 N6 g_a1
  have K7 : Keep h0 h7 [a1] := K6.wr W7 (Or.inl (ma 0 rfl))
  have Fw7 := ((F_coder_a1.keep Kq5 nin0).other W6 (Or.inr (sn0 hw))).same W7
  have nz0 : a1 ≠ b5_0 := (Nat.ne_of_lt (Nat.lt_of_lt_of_le E_a1.lt sz_b5_0))
  refine mfE Bd X7 (none) e7 (fun _ => rfl) (ef_27_0 m a1 a2 (0 : Int32) (0 : Int32) p3) ⟨b5_0, rfl, N7, K7, sz_b5_0, (((E_a1.keep Kq5).wr W6).wr W7), Fw7, (Fw6.other W7 (Or.inr (sn1 hw))), ((fq5_0.wr W6).wr W7), ((fq5_1.other W6 (Ne.symm nz0)).other W7 (Ne.symm nz0))⟩ fun fs hr => ?_
  refine aln X0 qz d27_0 ?_
  refine st1 _ ?_
  refine iln X1 qz d27_4 ?_
  refine il X1 qz d27_5 ?_
  refine aln X1 qz d27_7 ?_
  refine aL X1 Kz e1 V_a2 d27_8 ?_
  refine st3 _ ?_
  refine XS.pop X3.here hx rfl (hb hby d27_12) rfl rfl ?_
  refine il X3 qz d27_13 ?_
  refine ifY X3 qz 15 37 d27_15 (feq hc4).2 ?_
  refine st4 _ ?_
  refine ifN X4 qz d27_40 (feq h_cs).1 ?_
  refine iln X4 qz d27_43 ?_
  refine wib2 X4 qz d27_44 ?_
  refine stk (y := (.int 0)) rfl ?_
  refine ifN X4 qz d27_45 (teq (by decide : (0 : Int32) = (0 : Int32))).2 ?_
  refine aln X4 qz d27_48 ?_
  show Sp p e below T4 (mkF m 49 #[vr a1, vr a2, vi 0, vi 0, vi p3, uu, uu] [(.ref a1)]) _
  refine aln X4 qz d27_49 ?_
  refine iln X4 qz d27_50 ?_
  refine iln X4 qz d27_51 ?_
  refine il X4 qz d27_52 ?_
  refine wia X4 qz d27_54 ?_
  refine st5 _ ?_
  refine st6 _ ?_
  refine aln X6 qz d27_61 ?_
  refine ic X6 qz d27_62 ?_
  refine st7 _ ?_
  refine gt X7 qz 66 127 d27_66 ?_
  exact X7.returnOut hx Bd.returns (hb hby d27_127) hr
theorem rm66 (l : Launch) (Z : State) (a0 : Array Value) (hw : HW Z a0) (ws : List Jvm.Cond) (w_enc w_tb : Addr) (cs_v : Int32) (cl_tb : Cell) (wv_fm : Value) (hp : Perm Z w_enc w_tb cs_v cl_tb wv_fm) (a1 : Addr) (k_a1 : ClassId) (l_a1 : List Value) (p4 : Int32) (h0 : Heap) (n0 : Nat) (O0 : Old Z n0 h0) (V_a1 : Arv Z h0 a1 k_a1 .byte p4 (lid l_a1) (.int 0)) (E_a1 : Exa Z h0 a1 "[B") (hs3 : 0 ≤ (p4).toInt ∧ (p4).toInt < 7) (hs4 : ¬ ((eoL p4)) < 0) (hs5 : ((eoL p4)).toNatClampNeg ≤ 40) (hs6 : EncIn p4 l_a1) (hc7 : ¬ ((((eoL p4) ||| (0 : Int32)) ||| (eoL p4)) < (0 : Int32))) (hc8 : ¬ (((eoL p4) - (0 : Int32)) < (eoL p4))) (hc9 : ¬ ((eoL p4) = (0 : Int32))) (hc10 : ((0 : Int32) + (eoL p4)) = (eoL p4)) :
    MF l y31 (Jvm.Cond.code y31 jdk_2452_method_5_code 3 (some (.object "java/lang/String")) :: ws) ({ frames := 3, cells := 3, slots := 84, locals := 65 } : Room) Z #[(.ref w_enc), (.ref a1)] h0 (fun v h L => ∃ (b2 b4_0 : Addr), ∃ (kc1_0 : ClassId), v = some (.ref b2) ∧ Fr n0 L ∧ Keep h0 h [] ∧ h0.size ≤ b2 ∧ h0.size ≤ b4_0 ∧ b2 ≠ b4_0 ∧ Exa Z h b2 "java/lang/String" ∧ Fld Z h b2 "java/lang/String" "coder" "B" (.int 0) ∧ Fld Z h b2 "java/lang/String" "value" "[B" (.ref b4_0) ∧ Exa Z h b4_0 "[B" ∧ Arv Z h b4_0 kc1_0 .byte (eoL p4) (lid (encL l_a1)) (.int 0)) := by
  refine mfB (plainFor_of_name pn_23) hw fun p e s m below meth c s₁ Bd Kz X0 e0 => ?_
  obtain ⟨hx, hby, hml, hZ, hown, -⟩ := id Kz
  have qz := And.intro hx hby
  have N0 := Fr.nil n0
  obtain ⟨_, _, _, E_w_enc, _⟩ := id hp
  obtain ⟨_, T1, Lc1, X1, hQ1, st1⟩ := vS X0 Kz y27 0 136 137 139 138 140 130 (rm45 l Z a0 hw [] w_enc w_tb cs_v cl_tb wv_fm hp a1 k_a1 l_a1 p4 h0 n0 O0 V_a1 hs3 hs4 hs5 E_a1 hs6) e0 (E_w_enc.ext O0.2) (mkF m 2 #[vr w_enc, vr a1, uu] [(.ref a1), (.ref w_enc)]) [(.ref a1)] [] pd_21 d21_2
  obtain ⟨b1_0, kc1_0, rfl, Nq1, Kq1, sq_b1_0, fq1_0, fq1_1⟩ := hQ1
  have N1 := Fr.app N0 Nq1
  have O1 := O0.keep Kq1 all0
  have K1 : Keep h0 T1.heap [] := (Keep.refl h0 []).trans Kq1 all0
  obtain ⟨T2, h2, X2, e2, E2, A2, D2, -, st2⟩ := newO X1 hx hZ hown (wq hw 165 rfl) (wq hw 20 rfl) (wq hw 12 rfl) rfl (g := (mkF m 6 #[vr w_enc, vr a1, vr b1_0] [])) rfl (hb hby d21_6) (by decide) (by decide)
  obtain ⟨b2, g2⟩ : ∃ z, z = T1.heap.size := ⟨_, rfl⟩
  rw [← g2] at A2 D2 st2
  have g_b2 : n0 ≤ b2 := Nat.le_trans (own_sz O1) (Nat.le_of_eq g2.symm)
  have sz_b2 : h0.size ≤ b2 := Nat.le_trans K1.1 (Nat.le_of_eq g2.symm)
  have O2 := O1.ext E2
  have K2 : Keep h0 h2 [] := K1.ext E2
  have F_value_b2 : Fld Z h2 b2 "java/lang/String" "value" "[B" .null := D2 (Or.inr (wq hw 32 rfl)) (ty := (.array .byte)) (by decide)
  have F_coder_b2 : Fld Z h2 b2 "java/lang/String" "coder" "B" (.int 0) := D2 (Or.inr (wq hw 34 rfl)) (ty := .byte) (by decide)
  obtain ⟨_, T4, Lc4, X4, hQ4, st4⟩ := sB X2 Kz y30 1 166 167 168 12 (rm65 l Z a0 hw [] w_enc w_tb cs_v cl_tb wv_fm hp b2 b1_0 (eoL p4) kc1_0 (encL l_a1) (eoL p4) h2 n0 O2 (fq1_1.ext E2) hc7 hc8 hc9 hc10 (fq1_0.ext E2) hs5 A2 F_coder_b2 F_value_b2 g_b2) e2 b2 (mkF m 15 #[vr w_enc, vr a1, vr b1_0] [(.int (eoL p4)), (.int 0), (.int 0), (.ref b1_0), (.ref b2), (.ref b2)]) [(.ref b1_0), (.int 0), (.int 0), (.int (eoL p4))] [(.ref b2)] pd_24 d21_15
  obtain ⟨b4_0, rfl, Nq4, Kq4, sq_b4_0, fq4_0, fq4_1, fq4_2, fq4_3, fq4_4⟩ := hQ4
  have N4 := Fr.app N1 Nq4
  have sz_b4_0 : h0.size ≤ b4_0 := Nat.le_trans K2.1 sq_b4_0
  have K4 : Keep h0 T4.heap [] := K2.trans Kq4 (allS (Or.inr sz_b2) all0)
  have nz0 : b2 ≠ b4_0 := (Nat.ne_of_lt (Nat.lt_of_lt_of_le A2.lt sq_b4_0))
  refine mfE Bd X4 (some (.ref b2)) rfl (fun h => by rw [Bd.returns] at h; cases h) (ef_21_0 m w_enc a1) ⟨b2, b4_0, kc1_0, rfl, N4, K4, sz_b2, sz_b4_0, nz0, fq4_0, fq4_1, fq4_2, fq4_3, fq4_4⟩ fun fs hr => ?_
  refine aln X0 qz d21_0 ?_
  refine aln X0 qz d21_1 ?_
  refine st1.trans ?_
  refine san X1 qz d21_5 #[vr w_enc, vr a1, vr b1_0] ?_
  refine st2 _ ?_
  refine XS.dup X2.here hx rfl (hb hby d21_9) rfl rfl ?_
  refine aln X2 qz d21_10 ?_
  refine ic X2 qz d21_11 ?_
  refine ic X2 qz d21_12 ?_
  refine aln X2 qz d21_13 ?_
  refine aL X2 Kz e2 (fq1_1.ext E2) d21_14 ?_
  refine st4.trans ?_
  jvm_step X4.here [X4.here.top, hx, (hb hby d21_18), X4.method', Bd.returns, Value.isRef, FieldType.isReference]
  first | (intro acts; rw [hr _ acts rfl rfl rfl]) | rw [hr _ _ rfl rfl rfl]
  exact Steps.refl _
theorem d16_17 : dk cb16 17 (.aload_n 0) 1 := by decide +kernel
theorem d16_18 : dk cb16 18 (.aload_n 0) 1 := by decide +kernel
theorem d16_19 : dk cb16 19 (.getfield 15) 3 := by decide +kernel
theorem d16_22 : dk cb16 22 (.aload_n 0) 1 := by decide +kernel
theorem d16_23 : dk cb16 23 (.iload_n 1) 1 := by decide +kernel
theorem d16_24 : dk cb16 24 (.invokevirtual 104) 3 := by decide +kernel
abbrev cb31 : ByteArray := jdk_68_method_10_code
theorem d31_0 : dk cb31 0 (.aload_n 0) 1 := by decide +kernel
theorem d31_1 : dk cb31 1 (.getfield 15) 3 := by decide +kernel
theorem d31_4 : dk cb31 4 .arraylength 1 := by decide +kernel
theorem d31_5 : dk cb31 5 (.istore_n 2) 1 := by decide +kernel
theorem d31_6 : dk cb31 6 (.iload_n 1) 1 := by decide +kernel
theorem d31_7 : dk cb31 7 (.aload_n 0) 1 := by decide +kernel
theorem d31_8 : dk cb31 8 (.getfield 22) 3 := by decide +kernel
theorem d31_11 : dk cb31 11 .ishl 1 := by decide +kernel
theorem d31_12 : dk cb31 12 (.istore_n 3) 1 := by decide +kernel
theorem d31_13 : dk cb31 13 (.iload_n 3) 1 := by decide +kernel
theorem d31_14 : dk cb31 14 (.iload_n 2) 1 := by decide +kernel
theorem d31_15 : dk cb31 15 .isub 1 := by decide +kernel
theorem d31_16 : dk cb31 16 (.istore 4) 2 := by decide +kernel
abbrev fx53 (x0 : Int32) (x1 : Int32) : Int32 := ((x0 <<< ((0 : Int32) &&& 31)) - x1)
theorem d31_18 : dk cb31 18 (.iload_n 2) 1 := by decide +kernel
theorem d31_19 : dk cb31 19 (.iload 4) 2 := by decide +kernel
theorem d31_21 : dk cb31 21 (.iload_n 2) 1 := by decide +kernel
theorem d31_22 : dk cb31 22 (.iconst 2) 1 := by decide +kernel
theorem d31_23 : dk cb31 23 (.aload_n 0) 1 := by decide +kernel
theorem d31_24 : dk cb31 24 (.getfield 22) 3 := by decide +kernel
theorem d31_27 : dk cb31 27 .ishl 1 := by decide +kernel
theorem d31_28 : dk cb31 28 .iadd 1 := by decide +kernel
theorem d31_29 : dk cb31 29 (.invokestatic 114) 3 := by decide +kernel
abbrev cb32 : ByteArray := jdk_48_method_27_code
theorem d32_0 : dk cb32 0 (.iload_n 0) 1 := by decide +kernel
theorem d32_1 : dk cb32 1 (.iload_n 1) 1 := by decide +kernel
theorem d32_2 : dk cb32 2 (.iload_n 2) 1 := by decide +kernel
theorem d32_3 : dk cb32 3 (.invokestatic 194) 3 := by decide +kernel
abbrev cb33 : ByteArray := jdk_29_method_65_code
theorem d33_0 : dk cb33 0 (.iload_n 0) 1 := by decide +kernel
theorem d33_1 : dk cb33 1 (.iload_n 1) 1 := by decide +kernel
theorem d33_2 : dk cb33 2 (.if_icmp .lt 7) 3 := by decide +kernel
theorem d33_9 : dk cb33 9 (.iload_n 1) 1 := by decide +kernel
theorem d33_10 : dk cb33 10 .ireturn 1 := by decide +kernel
abbrev y44 : MethodName := (⟨"java/lang/Math", "max", "(II)I"⟩ : MethodName)
theorem ef_33_0 (m : MethodId) (x0 : Int32) (x1 : Int32) : entryFrame m #[(.int x0), (.int x1)] 2 = mkF m 0 #[.val (.int x0), .val (.int x1)] [] := by first | (simp [entryFrame, mkF, argsToLocals, Value.category]; done) | rfl
theorem rm67 (l : Launch) (Z : State) (a0 : Array Value) (hw : HW Z a0) (ws : List Jvm.Cond) (w_enc w_tb : Addr) (cs_v : Int32) (cl_tb : Cell) (wv_fm : Value) (hp : Perm Z w_enc w_tb cs_v cl_tb wv_fm) (p1 : Int32) (p2 : Int32) (h0 : Heap) (n0 : Nat) (O0 : Old Z n0 h0) (hc1 : p1 < p2) :
    MF l y44 (Jvm.Cond.code y44 jdk_29_method_65_code 2 (some .int) :: ws) ({ frames := 0, cells := 0, slots := 0, locals := 0 } : Room) Z #[(.int p1), (.int p2)] h0 (fun v h L => v = some (.int p2) ∧ Fr n0 L ∧ h = h0) := by
  refine mfB (Jvm.Free.JP.mathPlain rfl (by decide +kernel)) hw fun p e s m below meth c s₁ Bd Kz X0 e0 => ?_
  obtain ⟨hx, hby, hml, hZ, hown, -⟩ := id Kz
  have qz := And.intro hx hby
  have N0 := Fr.nil n0
  refine mfE Bd X0 (some (.int p2)) e0 (fun h => by rw [Bd.returns] at h; cases h) (ef_33_0 m p1 p2) ⟨rfl, N0, rfl⟩ fun fs hr => ?_
  refine iln X0 qz d33_0 ?_
  refine iln X0 qz d33_1 ?_
  refine icY X0 qz 2 9 d33_2 (tlt hc1).1 ?_
  refine iln X0 qz d33_9 ?_
  exact retI X0 hx Bd.returns (hb hby d33_10) hr
theorem d32_6 : dk cb32 6 .iadd 1 := by decide +kernel
theorem d32_7 : dk cb32 7 (.istore_n 3) 1 := by decide +kernel
theorem d32_8 : dk cb32 8 (.iconst 0) 1 := by decide +kernel
theorem d32_9 : dk cb32 9 (.iload_n 3) 1 := by decide +kernel
theorem d32_10 : dk cb32 10 (.if_icmp .ge 11) 3 := by decide +kernel
theorem d32_13 : dk cb32 13 (.iload_n 3) 1 := by decide +kernel
theorem d32_14 : dk cb32 14 (.ldc 200) 2 := by decide +kernel
theorem d32_16 : dk cb32 16 (.if_icmp .gt 5) 3 := by decide +kernel
theorem d32_19 : dk cb32 19 (.iload_n 3) 1 := by decide +kernel
theorem d32_20 : dk cb32 20 .ireturn 1 := by decide +kernel
abbrev y45 : MethodName := (⟨"jdk/internal/util/ArraysSupport", "newLength", "(III)I"⟩ : MethodName)
theorem ef_32_0 (m : MethodId) (x0 : Int32) (x1 : Int32) (x2 : Int32) : entryFrame m #[(.int x0), (.int x1), (.int x2)] 4 = mkF m 0 #[.val (.int x0), .val (.int x1), .val (.int x2), .unset] [] := by first | (simp [entryFrame, mkF, argsToLocals, Value.category]; done) | rfl
theorem pn_32 : plainName "jdk/internal/util/ArraysSupport" = true := by first | (simp [plainName, overriddenIn]; done) | decide +kernel
theorem rm68 (l : Launch) (Z : State) (a0 : Array Value) (hw : HW Z a0) (ws : List Jvm.Cond) (w_enc w_tb : Addr) (cs_v : Int32) (cl_tb : Cell) (wv_fm : Value) (hp : Perm Z w_enc w_tb cs_v cl_tb wv_fm) (p1 : Int32) (p2 : Int32) (p3 : Int32) (h0 : Heap) (n0 : Nat) (O0 : Old Z n0 h0) (hc1 : p2 < p3) (hc2 : (0 : Int32) < (p1 + p3)) (hc3 : ¬ ((2147483639 : Int32) < (p1 + p3))) :
    MF l y45 (Jvm.Cond.code y45 jdk_48_method_27_code 4 (some .int) :: ws) ({ frames := 1, cells := 0, slots := 0, locals := 14 } : Room) Z #[(.int p1), (.int p2), (.int p3)] h0 (fun v h L => v = some (.int (p1 + p3)) ∧ Fr n0 L ∧ h = h0) := by
  refine mfB (plainFor_of_name pn_32) hw fun p e s m below meth c s₁ Bd Kz X0 e0 => ?_
  obtain ⟨hx, hby, hml, hZ, hown, -⟩ := id Kz
  have qz := And.intro hx hby
  have N0 := Fr.nil n0
  obtain ⟨_, T1, Lc1, X1, hQ1, st1⟩ := cS X0 Kz y44 1 200 201 150 202 (rm67 l Z a0 hw [] w_enc w_tb cs_v cl_tb wv_fm hp p2 p3 h0 n0 O0 hc1) e0 (mkF m 3 #[vi p1, vi p2, vi p3, uu] [(.int p3), (.int p2), (.int p1)]) [(.int p2), (.int p3)] [(.int p1)] pd_0 d32_3
  obtain ⟨rfl, Nq1, eq1⟩ := hQ1
  have N1 := Fr.app N0 Nq1
  refine mfE Bd X1 (some (.int (p1 + p3))) eq1 (fun h => by rw [Bd.returns] at h; cases h) (ef_32_0 m p1 p2 p3) ⟨rfl, N1, rfl⟩ fun fs hr => ?_
  refine iln X0 qz d32_0 ?_
  refine iln X0 qz d32_1 ?_
  refine iln X0 qz d32_2 ?_
  refine st1 _ ?_
  refine wia X1 qz d32_6 ?_
  refine stn X1 qz d32_7 #[vi p1, vi p2, vi p3, .val (.int (p1 + p3))] ?_
  refine ic X1 qz d32_8 ?_
  refine iln X1 qz d32_9 ?_
  refine icN X1 qz d32_10 (tlt hc2).2.1 ?_
  refine iln X1 qz d32_13 ?_
  refine X1.ldcI hx hown (mvT hZ (wq hw 203 rfl)) rfl (hb hby d32_14) ?_
  refine icN X1 qz d32_16 (flt hc3).2.2.1 ?_
  refine iln X1 qz d32_19 ?_
  exact retI X1 hx Bd.returns (hb hby d32_20) hr
theorem d31_32 : dk cb31 32 (.istore 5) 2 := by decide +kernel
abbrev fx54 (x0 : Int32) : Int32 := (x0 + (x0 + (2 : Int32)))
theorem d31_34 : dk cb31 34 (.iload 5) 2 := by decide +kernel
theorem d31_36 : dk cb31 36 (.ldc 39) 2 := by decide +kernel
theorem d31_38 : dk cb31 38 (.if_icmp .ne 13) 3 := by decide +kernel
theorem d31_51 : dk cb31 51 (.iload 5) 2 := by decide +kernel
theorem d31_53 : dk cb31 53 (.aload_n 0) 1 := by decide +kernel
theorem d31_54 : dk cb31 54 (.getfield 22) 3 := by decide +kernel
theorem d31_57 : dk cb31 57 .ishr 1 := by decide +kernel
theorem d31_58 : dk cb31 58 .ireturn 1 := by decide +kernel
abbrev y46 : MethodName := (⟨"java/lang/AbstractStringBuilder", "newCapacity", "(I)I"⟩ : MethodName)
theorem ef_31_0 (m : MethodId) (x0 : Addr) (x1 : Int32) : entryFrame m #[(.ref x0), (.int x1)] 6 = mkF m 0 #[.val (.ref x0), .val (.int x1), .unset, .unset, .unset, .unset] [] := by first | (simp [entryFrame, mkF, argsToLocals, Value.category]; done) | rfl
theorem rm69 (l : Launch) (Z : State) (a0 : Array Value) (hw : HW Z a0) (ws : List Jvm.Cond) (w_enc w_tb : Addr) (cs_v : Int32) (cl_tb : Cell) (wv_fm : Value) (hp : Perm Z w_enc w_tb cs_v cl_tb wv_fm) (a1 : Addr) (p2 : Int32) (a3 : Addr) (k_a3 : ClassId) (l_a3 : List Value) (p6 : Int32) (h0 : Heap) (n0 : Nat) (O0 : Old Z n0 h0) (F_value_a1 : Fld Z h0 a1 "java/lang/AbstractStringBuilder" "value" "[B" (.ref a3)) (V_a3 : Arv Z h0 a3 k_a3 .byte p6 (lid l_a3) (.int 0)) (F_coder_a1 : Fld Z h0 a1 "java/lang/AbstractStringBuilder" "coder" "B" (.int 0)) (hc4 : ((p2 <<< ((0 : Int32) &&& 31)) - p6) < (p6 + (2 : Int32))) (hc5 : (0 : Int32) < (p6 + (p6 + (2 : Int32)))) (hc6 : ¬ ((2147483639 : Int32) < (p6 + (p6 + (2 : Int32))))) (hc7 : ¬ ((p6 + (p6 + (2 : Int32))) = (2147483647 : Int32))) :
    MF l y46 (Jvm.Cond.code y46 jdk_68_method_10_code 6 (some .int) :: ws) ({ frames := 2, cells := 0, slots := 0, locals := 29 } : Room) Z #[(.ref a1), (.int p2)] h0 (fun v h L => v = some (.int ((p6 + (p6 + (2 : Int32))) >>> ((0 : Int32) &&& 31))) ∧ Fr n0 L ∧ h = h0) := by
  refine mfB (plainFor_of_name pn_11) hw fun p e s m below meth c s₁ Bd Kz X0 e0 => ?_
  obtain ⟨hx, hby, hml, hZ, hown, -⟩ := id Kz
  have qz := And.intro hx hby
  have N0 := Fr.nil n0
  obtain ⟨T1, X1, e1, st1⟩ := gF X0 Kz 69 e0 F_value_a1 (mkF m 1 #[vr a1, vi p2, uu, uu, uu, uu] [(.ref a1)]) d31_1
  obtain ⟨T3, X3, e3, st3⟩ := gF X1 Kz 71 e1 F_coder_a1 (mkF m 8 #[vr a1, vi p2, vi p6, uu, uu, uu] [(.ref a1), (.int p2)]) d31_8
  obtain ⟨T4, X4, e4, st4⟩ := gF X3 Kz 71 e3 F_coder_a1 (mkF m 24 #[vr a1, vi p2, vi p6, vi (fx51 p2), vi (fx53 p2 p6), uu] [(.ref a1), (.int 2), (.int p6), (.int (fx53 p2 p6)), (.int p6)]) d31_24
  obtain ⟨_, T5, Lc5, X5, hQ5, st5⟩ := cS X4 Kz y45 0 196 197 198 199 (rm68 l Z a0 hw [] w_enc w_tb cs_v cl_tb wv_fm hp p6 ((p2 <<< ((0 : Int32) &&& 31)) - p6) (p6 + (2 : Int32)) h0 n0 O0 hc4 hc5 hc6) e4 (mkF m 29 #[vr a1, vi p2, vi p6, vi (fx51 p2), vi (fx53 p2 p6), uu] [(.int (p6 + (2 : Int32))), (.int (fx53 p2 p6)), (.int p6)]) [(.int p6), (.int (fx53 p2 p6)), (.int (p6 + (2 : Int32)))] [] pd_23 d31_29
  obtain ⟨rfl, Nq5, eq5⟩ := hQ5
  have N5 := Fr.app N0 Nq5
  obtain ⟨T6, X6, e6, st6⟩ := gF X5 Kz 71 eq5 F_coder_a1 (mkF m 54 #[vr a1, vi p2, vi p6, vi (fx51 p2), vi (fx53 p2 p6), vi (fx54 p6)] [(.ref a1), (.int (fx54 p6))]) d31_54
  refine mfE Bd X6 (some (.int ((p6 + (p6 + (2 : Int32))) >>> ((0 : Int32) &&& 31)))) e6 (fun h => by rw [Bd.returns] at h; cases h) (ef_31_0 m a1 p2) ⟨rfl, N5, rfl⟩ fun fs hr => ?_
  refine aln X0 qz d31_0 ?_
  refine st1 _ ?_
  refine aL X1 Kz e1 V_a3 d31_4 ?_
  refine stn X1 qz d31_5 #[vr a1, vi p2, vi p6, uu, uu, uu] ?_
  refine iln X1 qz d31_6 ?_
  refine aln X1 qz d31_7 ?_
  refine st3 _ ?_
  refine wishl X3 qz d31_11 ?_
  refine stn X3 qz d31_12 #[vr a1, vi p2, vi p6, vi (fx51 p2), uu, uu] ?_
  refine iln X3 qz d31_13 ?_
  refine iln X3 qz d31_14 ?_
  refine wib X3 qz d31_15 ?_
  refine st X3 qz d31_16 #[vr a1, vi p2, vi p6, vi (fx51 p2), vi (fx53 p2 p6), uu] ?_
  refine iln X3 qz d31_18 ?_
  refine il X3 qz d31_19 ?_
  refine iln X3 qz d31_21 ?_
  show Sp p e below T3 (mkF m 22 #[vr a1, vi p2, vi p6, vi (fx51 p2), vi (fx53 p2 p6), uu] [(.int p6), (.int (fx53 p2 p6)), (.int p6)]) _
  refine ic X3 qz d31_22 ?_
  refine aln X3 qz d31_23 ?_
  refine st4 _ ?_
  refine wishl X4 qz d31_27 ?_
  refine stk (y := (.int 2)) rfl ?_
  refine wia X4 qz d31_28 ?_
  refine st5 _ ?_
  refine st X5 qz d31_32 #[vr a1, vi p2, vi p6, vi (fx51 p2), vi (fx53 p2 p6), vi (fx54 p6)] ?_
  refine il X5 qz d31_34 ?_
  refine X5.ldcI hx hown (mvT hZ (wq hw 204 rfl)) rfl (hb hby d31_36) ?_
  refine icY X5 qz 38 51 d31_38 (feq hc7).2 ?_
  refine il X5 qz d31_51 ?_
  refine aln X5 qz d31_53 ?_
  refine st6 _ ?_
  refine wishr X6 qz d31_57 ?_
  exact retI X6 hx Bd.returns (hb hby d31_58) hr
theorem pd_36 : parseMethodDescriptor "(I)I" = some ⟨[.int], some .int⟩ := by decide +kernel
theorem d16_27 : dk cb16 27 (.aload_n 0) 1 := by decide +kernel
theorem d16_28 : dk cb16 28 (.getfield 22) 3 := by decide +kernel
abbrev fx55 (x0 : Int32) : Int32 := ((x0 + (x0 + (2 : Int32))) >>> ((0 : Int32) &&& 31))
theorem d16_31 : dk cb16 31 .ishl 1 := by decide +kernel
theorem d16_32 : dk cb16 32 (.invokestatic 108) 3 := by decide +kernel
abbrev fx56 (x0 : Int32) : Int32 := (((x0 + (x0 + (2 : Int32))) >>> ((0 : Int32) &&& 31)) <<< ((0 : Int32) &&& 31))
abbrev cb34 : ByteArray := jdk_65_method_121_code
theorem d34_0 : dk cb34 0 (.iload_n 1) 1 := by decide +kernel
theorem d34_1 : dk cb34 1 (.aload_n 0) 1 := by decide +kernel
theorem d34_2 : dk cb34 2 .arraylength 1 := by decide +kernel
theorem d34_3 : dk cb34 3 (.if_icmp .ne 11) 3 := by decide +kernel
theorem d34_14 : dk cb34 14 (.iload_n 1) 1 := by decide +kernel
theorem d34_15 : dk cb34 15 (.newarray .byte) 2 := by decide +kernel
theorem d34_17 : dk cb34 17 (.astore_n 2) 1 := by decide +kernel
theorem d34_18 : dk cb34 18 (.aload_n 0) 1 := by decide +kernel
theorem d34_19 : dk cb34 19 (.iconst 0) 1 := by decide +kernel
theorem d34_20 : dk cb34 20 (.aload_n 2) 1 := by decide +kernel
theorem d34_21 : dk cb34 21 (.iconst 0) 1 := by decide +kernel
theorem d34_22 : dk cb34 22 (.aload_n 0) 1 := by decide +kernel
theorem d34_23 : dk cb34 23 .arraylength 1 := by decide +kernel
theorem d34_24 : dk cb34 24 (.iload_n 1) 1 := by decide +kernel
theorem d34_25 : dk cb34 25 (.invokestatic 304) 3 := by decide +kernel
theorem rm70 (l : Launch) (Z : State) (a0 : Array Value) (hw : HW Z a0) (ws : List Jvm.Cond) (w_enc w_tb : Addr) (cs_v : Int32) (cl_tb : Cell) (wv_fm : Value) (hp : Perm Z w_enc w_tb cs_v cl_tb wv_fm) (p1 : Int32) (p2 : Int32) (h0 : Heap) (n0 : Nat) (O0 : Old Z n0 h0) (hc1 : ¬ (p2 < p1)) :
    MF l y6 (Jvm.Cond.code y6 jdk_29_method_69_code 2 (some .int) :: ws) ({ frames := 0, cells := 0, slots := 0, locals := 0 } : Room) Z #[(.int p1), (.int p2)] h0 (fun v h L => v = some (.int p1) ∧ Fr n0 L ∧ h = h0) := by
  refine mfB (Jvm.Free.JP.mathPlain rfl (by decide +kernel)) hw fun p e s m below meth c s₁ Bd Kz X0 e0 => ?_
  obtain ⟨hx, hby, hml, hZ, hown, -⟩ := id Kz
  have qz := And.intro hx hby
  have N0 := Fr.nil n0
  refine mfE Bd X0 (some (.int p1)) e0 (fun h => by rw [Bd.returns] at h; cases h) (ef_35_0 m p1 p2) ⟨rfl, N0, rfl⟩ fun fs hr => ?_
  refine iln X0 qz d35_0 ?_
  refine iln X0 qz d35_1 ?_
  refine icN X0 qz d35_2 (flt hc1).2.2.1 ?_
  refine iln X0 qz d35_5 ?_
  refine gt X0 qz 6 10 d35_6 ?_
  exact retI X0 hx Bd.returns (hb hby d35_10) hr
theorem d34_28 : dk cb34 28 (.invokestatic 150) 3 := by decide +kernel
theorem d34_31 : dk cb34 31 (.aload_n 2) 1 := by decide +kernel
theorem d34_32 : dk cb34 32 .areturn 1 := by decide +kernel
abbrev y47 : MethodName := (⟨"java/util/Arrays", "copyOf", "([BI)[B"⟩ : MethodName)
theorem ef_34_0 (m : MethodId) (x0 : Addr) (x1 : Int32) : entryFrame m #[(.ref x0), (.int x1)] 3 = mkF m 0 #[.val (.ref x0), .val (.int x1), .unset] [] := by first | (simp [entryFrame, mkF, argsToLocals, Value.category]; done) | rfl
theorem rm71 (l : Launch) (Z : State) (a0 : Array Value) (hw : HW Z a0) (ws : List Jvm.Cond) (w_enc w_tb : Addr) (cs_v : Int32) (cl_tb : Cell) (wv_fm : Value) (hp : Perm Z w_enc w_tb cs_v cl_tb wv_fm) (a1 : Addr) (p2 : Int32) (k_a1 : ClassId) (l_a1 : List Value) (p5 : Int32) (h0 : Heap) (n0 : Nat) (O0 : Old Z n0 h0) (V_a1 : Arv Z h0 a1 k_a1 .byte p5 (lid l_a1) (.int 0)) (hc2 : ¬ (p2 = p5)) (hs3 : ¬ (p2) < 0) (hs4 : (p2).toNatClampNeg ≤ 40) (hc5 : ¬ (p2 < p5)) (hs6 : ¬ (p5) < 0) (hs7 : ((0 : Int32)).toNatClampNeg + (p5).toNatClampNeg ≤ (p5).toNatClampNeg) (hs8 : ((0 : Int32)).toNatClampNeg + (p5).toNatClampNeg ≤ (p2).toNatClampNeg) (hs9 : ((0 : Int32)).toNatClampNeg + (p5).toNatClampNeg ≤ ((repL p2)).length) :
    MF l y47 (Jvm.Cond.code y47 jdk_65_method_121_code 3 (some (.array .byte)) :: ws) ({ frames := 1, cells := 1, slots := 40, locals := 18 } : Room) Z #[(.ref a1), (.int p2)] h0 (fun v h L => ∃ (b2 : Addr), ∃ (k2 : ClassId), v = some (.ref b2) ∧ Fr n0 L ∧ Keep h0 h [] ∧ h0.size ≤ b2 ∧ Exa Z h b2 "[B" ∧ Arv Z h b2 k2 .byte p2 (lid (cpL (repL p2) l_a1 (0 : Int32) (0 : Int32) p5)) (.int 0)) := by
  refine mfB (plainFor_of_name pn_44) hw fun p e s m below meth c s₁ Bd Kz X0 e0 => ?_
  obtain ⟨hx, hby, hml, hZ, hown, -⟩ := id Kz
  have qz := And.intro hx hby
  have N0 := Fr.nil n0
  obtain ⟨T2, h2, k2, X2, e2, E2, A2, EA2, st2⟩ := newPE X0 hx hZ (wq hw 6 rfl) e0 (g := (mkF m 15 #[vr a1, vi p2, uu] [(.int p2)])) rfl (hb hby d34_15) rfl hs3 (cap := 40) hs4 (by decide) (by decide) (by decide) (ad := "[B") (by decide)
  obtain ⟨b2, g2⟩ : ∃ z, z = h0.size := ⟨_, rfl⟩
  rw [← g2] at A2 EA2 st2
  have g_b2 : n0 ≤ b2 := Nat.le_trans (own_sz O0) (Nat.le_of_eq g2.symm)
  have sz_b2 : h0.size ≤ b2 := Nat.le_trans (Keep.refl h0 []).1 (Nat.le_of_eq g2.symm)
  have O2 := O0.ext E2
  have K2 : Keep h0 h2 [] := (Keep.refl h0 []).ext E2
  have V_b2 : Arv Z h2 b2 k2 .byte p2 (lid (repL p2)) (.int 0) := (Arv.new A2 hs3).pad (pad_rep [] (.int 0) _)
  obtain ⟨_, T4, Lc4, X4, hQ4, st4⟩ := cS X2 Kz y6 4 208 209 150 210 (rm70 l Z a0 hw [] w_enc w_tb cs_v cl_tb wv_fm hp p5 p2 h2 n0 O2 hc5) e2 (mkF m 25 #[vr a1, vi p2, vr b2] [(.int p2), (.int p5), (.int 0), (.ref b2), (.int 0), (.ref a1)]) [(.int p5), (.int p2)] [(.int 0), (.ref b2), (.int 0), (.ref a1)] pd_0 d34_25
  obtain ⟨rfl, Nq4, eq4⟩ := hQ4
  have N4 := Fr.app N0 Nq4
  obtain ⟨T5, h5, Lc5, X5, e5, N5, Kq5, Vq5, st5⟩ := cpA X4 hx hZ hown (wq hw 211 rfl) (wq hw 122 rfl) (wq hw 120 rfl) (wq hw 121 rfl) eq4 (sp := (0 : Int32)) (dp := (0 : Int32)) (nn := p5) (us := _) (V_a1.ext E2) V_b2 (Or.inl ⟨rfl, rfl⟩) (by decide) (by decide) hs6 hs7 hs8 rfl hs9 N4 g_b2 (g := (mkF m 28 #[vr a1, vi p2, vr b2] [(.int p5), (.int 0), (.ref b2), (.int 0), (.ref a1)])) rfl (by rw [hml]; rfl) (rest := []) rfl (hb hby d34_28) (by decide) (W := 0) (by show 2 * 0 + _ ≤ _; exact Nat.le_of_eq rfl) (by decide)
  have K5 : Keep h0 h5 [] := K2.trans Kq5 (allS (Or.inr sz_b2) all0)
  have V_b2_5 : Arv Z h5 b2 k2 .byte p2 (lid (cpL (repL p2) l_a1 (0 : Int32) (0 : Int32) p5)) (.int 0) := Vq5
  refine mfE Bd X5 (some (.ref b2)) e5 (fun h => by rw [Bd.returns] at h; cases h) (ef_34_0 m a1 p2) ⟨b2, k2, rfl, N5, K5, sz_b2, (EA2.keep Kq5), V_b2_5⟩ fun fs hr => ?_
  refine iln X0 qz d34_0 ?_
  refine aln X0 qz d34_1 ?_
  refine aL X0 Kz e0 V_a1 d34_2 ?_
  refine icY X0 qz 3 14 d34_3 (feq hc2).2 ?_
  refine iln X0 qz d34_14 ?_
  refine st2 _ ?_
  refine san X2 qz d34_17 #[vr a1, vi p2, vr b2] ?_
  refine aln X2 qz d34_18 ?_
  refine ic X2 qz d34_19 ?_
  refine aln X2 qz d34_20 ?_
  refine ic X2 qz d34_21 ?_
  refine aln X2 qz d34_22 ?_
  refine aL X2 Kz e2 (V_a1.ext E2) d34_23 ?_
  refine iln X2 qz d34_24 ?_
  refine st4 _ ?_
  refine st5 _ ?_
  show Sp p e below T5 (mkF m 31 #[vr a1, vi p2, vr b2] []) _
  refine aln X5 qz d34_31 ?_
  jvm_step X5.here [X5.here.top, hx, (hb hby d34_32), X5.method', Bd.returns, Value.isRef, FieldType.isReference]
  first | (intro acts; rw [hr _ acts rfl rfl rfl]) | rw [hr _ _ rfl rfl rfl]
  exact Steps.refl _
theorem pd_37 : parseMethodDescriptor "([BI)[B" = some ⟨[(.array .byte), .int], some (.array .byte)⟩ := by decide +kernel
theorem d16_35 : dk cb16 35 (.putfield 15) 3 := by decide +kernel
theorem rm72 (l : Launch) (Z : State) (a0 : Array Value) (hw : HW Z a0) (ws : List Jvm.Cond) (w_enc w_tb : Addr) (cs_v : Int32) (cl_tb : Cell) (wv_fm : Value) (hp : Perm Z w_enc w_tb cs_v cl_tb wv_fm) (a1 : Addr) (p2 : Int32) (a3 : Addr) (k_a3 : ClassId) (l_a3 : List Value) (p6 : Int32) (p7 : Int32) (h0 : Heap) (n0 : Nat) (O0 : Old Z n0 h0) (F_value_a1 : Fld Z h0 a1 "java/lang/AbstractStringBuilder" "value" "[B" (.ref a3)) (V_a3 : Arv Z h0 a3 k_a3 .byte p6 (lid l_a3) (.int 0)) (F_coder_a1 : Fld Z h0 a1 "java/lang/AbstractStringBuilder" "coder" "B" (.int 0)) (hc4 : (0 : Int32) < (p2 - (p6 >>> ((0 : Int32) &&& 31)))) (E_a1 : Exa Z h0 a1 "java/lang/StringBuilder") (hc6 : ((p2 <<< ((0 : Int32) &&& 31)) - p6) < (p6 + (2 : Int32))) (hc7 : (0 : Int32) < (p6 + (p6 + (2 : Int32)))) (hc8 : ¬ ((2147483639 : Int32) < (p6 + (p6 + (2 : Int32))))) (hc9 : ¬ ((p6 + (p6 + (2 : Int32))) = (2147483647 : Int32))) (hc10 : ¬ ((((p6 + (p6 + (2 : Int32))) >>> ((0 : Int32) &&& 31)) <<< ((0 : Int32) &&& 31)) = p6)) (hc11 : ¬ ((((p6 + (p6 + (2 : Int32))) >>> ((0 : Int32) &&& 31)) <<< ((0 : Int32) &&& 31)) < p6)) (hs12 : ¬ ((((p6 + (p6 + (2 : Int32))) >>> ((0 : Int32) &&& 31)) <<< ((0 : Int32) &&& 31))) < 0) (hs13 : ((((p6 + (p6 + (2 : Int32))) >>> ((0 : Int32) &&& 31)) <<< ((0 : Int32) &&& 31))).toNatClampNeg ≤ 40) (hs14 : ¬ (p6) < 0) (hs15 : ((0 : Int32)).toNatClampNeg + (p6).toNatClampNeg ≤ (p6).toNatClampNeg) (hs16 : ((0 : Int32)).toNatClampNeg + (p6).toNatClampNeg ≤ ((((p6 + (p6 + (2 : Int32))) >>> ((0 : Int32) &&& 31)) <<< ((0 : Int32) &&& 31))).toNatClampNeg) (hs17 : ((0 : Int32)).toNatClampNeg + (p6).toNatClampNeg ≤ ((repL (((p6 + (p6 + (2 : Int32))) >>> ((0 : Int32) &&& 31)) <<< ((0 : Int32) &&& 31)))).length) (F_count_a1 : Fld Z h0 a1 "java/lang/AbstractStringBuilder" "count" "I" (.int p7)) (g_a1 : n0 ≤ a1) :
    MF l y20 (Jvm.Cond.code y20 jdk_68_method_9_code 3 none :: ws) ({ frames := 3, cells := 1, slots := 40, locals := 48 } : Room) Z #[(.ref a1), (.int p2)] h0 (fun v h L => ∃ (b7_0 : Addr), ∃ (kc7_0 : ClassId), v = none ∧ Fr n0 L ∧ Keep h0 h [a1] ∧ h0.size ≤ b7_0 ∧ Exa Z h a1 "java/lang/StringBuilder" ∧ Fld Z h a1 "java/lang/AbstractStringBuilder" "coder" "B" (.int 0) ∧ Fld Z h a1 "java/lang/AbstractStringBuilder" "count" "I" (.int p7) ∧ Fld Z h a1 "java/lang/AbstractStringBuilder" "value" "[B" (.ref b7_0) ∧ Exa Z h b7_0 "[B" ∧ Arv Z h b7_0 kc7_0 .byte (((p6 + (p6 + (2 : Int32))) >>> ((0 : Int32) &&& 31)) <<< ((0 : Int32) &&& 31)) (lid (cpL (repL (((p6 + (p6 + (2 : Int32))) >>> ((0 : Int32) &&& 31)) <<< ((0 : Int32) &&& 31))) l_a3 (0 : Int32) (0 : Int32) p6)) (.int 0)) := by
  refine mfB (plainFor_of_name pn_11) hw fun p e s m below meth c s₁ Bd Kz X0 e0 => ?_
  obtain ⟨hx, hby, hml, hZ, hown, -⟩ := id Kz
  have qz := And.intro hx hby
  have N0 := Fr.nil n0
  obtain ⟨T1, X1, e1, st1⟩ := gF X0 Kz 69 e0 F_value_a1 (mkF m 1 #[vr a1, vi p2, uu] [(.ref a1)]) d16_1
  obtain ⟨T3, X3, e3, st3⟩ := gF X1 Kz 71 e1 F_coder_a1 (mkF m 6 #[vr a1, vi p2, uu] [(.ref a1), (.int p6)]) d16_6
  obtain ⟨T4, X4, e4, st4⟩ := gF X3 Kz 69 e3 F_value_a1 (mkF m 19 #[vr a1, vi p2, vi (fx49 p6)] [(.ref a1), (.ref a1)]) d16_19
  obtain ⟨_, T5, Lc5, X5, hQ5, st5⟩ := pB X4 Kz y46 2 191 192 194 193 195 65 (rm69 l Z a0 hw [] w_enc w_tb cs_v cl_tb wv_fm hp a1 p2 a3 k_a3 l_a3 p6 h0 n0 O0 F_value_a1 V_a3 F_coder_a1 hc6 hc7 hc8 hc9) e4 E_a1 (mkF m 24 #[vr a1, vi p2, vi (fx49 p6)] [(.int p2), (.ref a1), (.ref a3), (.ref a1)]) [(.int p2)] [(.ref a3), (.ref a1)] pd_36 d16_24
  obtain ⟨rfl, Nq5, eq5⟩ := hQ5
  have N5 := Fr.app N0 Nq5
  obtain ⟨T6, X6, e6, st6⟩ := gF X5 Kz 71 eq5 F_coder_a1 (mkF m 28 #[vr a1, vi p2, vi (fx49 p6)] [(.ref a1), (.int (fx55 p6)), (.ref a3), (.ref a1)]) d16_28
  obtain ⟨_, T7, Lc7, X7, hQ7, st7⟩ := cS X6 Kz y47 1 205 206 179 207 (rm71 l Z a0 hw [] w_enc w_tb cs_v cl_tb wv_fm hp a3 (((p6 + (p6 + (2 : Int32))) >>> ((0 : Int32) &&& 31)) <<< ((0 : Int32) &&& 31)) k_a3 l_a3 p6 h0 n0 O0 V_a3 hc10 hs12 hs13 hc11 hs14 hs15 hs16 hs17) e6 (mkF m 32 #[vr a1, vi p2, vi (fx49 p6)] [(.int (fx56 p6)), (.ref a3), (.ref a1)]) [(.ref a3), (.int (fx56 p6))] [(.ref a1)] pd_37 d16_32
  obtain ⟨b7_0, kc7_0, rfl, Nq7, Kq7, sq_b7_0, fq7_0, fq7_1⟩ := hQ7
  have N7 := Fr.app N5 Nq7
  have sz_b7_0 : h0.size ≤ b7_0 := Nat.le_trans (Keep.refl h0 [a1]).1 sq_b7_0
  have K7 : Keep h0 T7.heap [a1] := (Keep.refl h0 [a1]).trans Kq7 all0
  obtain ⟨T8, h8, X8, e8, W8, st8⟩ := putF X7 hx hZ hown (host := "") (Or.inl (wq hw 69 rfl)) Via.refl rfl (F_value_a1.keep Kq7 nin0) (E_a1.keep Kq7) (Or.inl (wq hw 70 rfl)) (wq hw 56 rfl) (ty := (.array .byte)) (by decide) rfl rfl (g := (mkF m 35 #[vr a1, vi p2, vi (fx49 p6)] [(.ref b7_0), (.ref a1)])) rfl rfl (hb hby d16_35)
  have N8 := Fr.snoc X8 N7 g_a1
  have K8 : Keep h0 h8 [a1] := K7.wr W8 (Or.inl (ma 0 rfl))
  have Fw8 := (F_value_a1.keep Kq7 nin0).same W8
  have nz0 : a1 ≠ b7_0 := (Nat.ne_of_lt (Nat.lt_of_lt_of_le E_a1.lt sz_b7_0))
  refine mfE Bd X8 (none) e8 (fun _ => rfl) (ef_16_0 m a1 p2) ⟨b7_0, kc7_0, rfl, N8, K8, sz_b7_0, ((E_a1.keep Kq7).wr W8), ((F_coder_a1.keep Kq7 nin0).other W8 (Or.inr (sn8 hw))), ((F_count_a1.keep Kq7 nin0).other W8 (Or.inr (sn9 hw))), Fw8, (fq7_0.wr W8), (fq7_1.other W8 (Ne.symm nz0))⟩ fun fs hr => ?_
  refine aln X0 qz d16_0 ?_
  refine st1 _ ?_
  refine aL X1 Kz e1 V_a3 d16_4 ?_
  refine aln X1 qz d16_5 ?_
  refine st3 _ ?_
  refine wishr X3 qz d16_9 ?_
  refine stn X3 qz d16_10 #[vr a1, vi p2, vi (fx49 p6)] ?_
  refine iln X3 qz d16_11 ?_
  refine iln X3 qz d16_12 ?_
  refine wib X3 qz d16_13 ?_
  refine ifN X3 qz d16_14 (tlt hc4).2.2.2 ?_
  refine aln X3 qz d16_17 ?_
  refine aln X3 qz d16_18 ?_
  refine st4 _ ?_
  refine aln X4 qz d16_22 ?_
  refine iln X4 qz d16_23 ?_
  show Sp p e below T4 (mkF m 24 #[vr a1, vi p2, vi (fx49 p6)] [(.int p2), (.ref a1), (.ref a3), (.ref a1)]) _
  refine st5.trans ?_
  refine aln X5 qz d16_27 ?_
  refine st6 _ ?_
  refine wishl X6 qz d16_31 ?_
  refine st7 _ ?_
  refine st8 _ ?_
  exact X8.returnOut hx Bd.returns (hb hby d16_38) hr
theorem rm73 (l : Launch) (Z : State) (a0 : Array Value) (hw : HW Z a0) (ws : List Jvm.Cond) (w_enc w_tb : Addr) (cs_v : Int32) (cl_tb : Cell) (wv_fm : Value) (hp : Perm Z w_enc w_tb cs_v cl_tb wv_fm) (a1 : Addr) (a2 : Addr) (a3 : Addr) (k_a3 : ClassId) (l_a3 : List Value) (p6 : Int32) (p7 : Int32) (a8 : Addr) (k_a8 : ClassId) (l_a8 : List Value) (p11 : Int32) (h0 : Heap) (n0 : Nat) (O0 : Old Z n0 h0) (E_a2 : Exa Z h0 a2 "java/lang/String") (F_value_a2 : Fld Z h0 a2 "java/lang/String" "value" "[B" (.ref a3)) (V_a3 : Arv Z h0 a3 k_a3 .byte p6 (lid l_a3) (.int 0)) (F_coder_a2 : Fld Z h0 a2 "java/lang/String" "coder" "B" (.int 0)) (F_count_a1 : Fld Z h0 a1 "java/lang/AbstractStringBuilder" "count" "I" (.int p7)) (E_a1 : Exa Z h0 a1 "java/lang/StringBuilder") (F_value_a1 : Fld Z h0 a1 "java/lang/AbstractStringBuilder" "value" "[B" (.ref a8)) (V_a8 : Arv Z h0 a8 k_a8 .byte p11 (lid l_a8) (.int 0)) (F_coder_a1 : Fld Z h0 a1 "java/lang/AbstractStringBuilder" "coder" "B" (.int 0)) (hc10 : (0 : Int32) < ((p7 + (p6 >>> ((0 : Int32) &&& 31))) - (p11 >>> ((0 : Int32) &&& 31)))) (hc11 : (((p7 + (p6 >>> ((0 : Int32) &&& 31))) <<< ((0 : Int32) &&& 31)) - p11) < (p11 + (2 : Int32))) (hc12 : (0 : Int32) < (p11 + (p11 + (2 : Int32)))) (hc13 : ¬ ((2147483639 : Int32) < (p11 + (p11 + (2 : Int32))))) (hc14 : ¬ ((p11 + (p11 + (2 : Int32))) = (2147483647 : Int32))) (hc15 : ¬ ((((p11 + (p11 + (2 : Int32))) >>> ((0 : Int32) &&& 31)) <<< ((0 : Int32) &&& 31)) = p11)) (hc16 : ¬ ((((p11 + (p11 + (2 : Int32))) >>> ((0 : Int32) &&& 31)) <<< ((0 : Int32) &&& 31)) < p11)) (hs17 : ¬ ((((p11 + (p11 + (2 : Int32))) >>> ((0 : Int32) &&& 31)) <<< ((0 : Int32) &&& 31))) < 0) (hs18 : ((((p11 + (p11 + (2 : Int32))) >>> ((0 : Int32) &&& 31)) <<< ((0 : Int32) &&& 31))).toNatClampNeg ≤ 40) (hs19 : ¬ (p11) < 0) (hs20 : ((0 : Int32)).toNatClampNeg + (p11).toNatClampNeg ≤ (p11).toNatClampNeg) (hs21 : ((0 : Int32)).toNatClampNeg + (p11).toNatClampNeg ≤ ((((p11 + (p11 + (2 : Int32))) >>> ((0 : Int32) &&& 31)) <<< ((0 : Int32) &&& 31))).toNatClampNeg) (hs22 : ((0 : Int32)).toNatClampNeg + (p11).toNatClampNeg ≤ ((repL (((p11 + (p11 + (2 : Int32))) >>> ((0 : Int32) &&& 31)) <<< ((0 : Int32) &&& 31)))).length) (g_a1 : n0 ≤ a1) (ne_a1_a2 : a1 ≠ a2) (ne_a1_a3 : a1 ≠ a3) (hs26 : ¬ ((p7 <<< ((0 : Int32) &&& 31))) < 0) (hs27 : ¬ (p6) < 0) (hs28 : ((0 : Int32)).toNatClampNeg + (p6).toNatClampNeg ≤ (p6).toNatClampNeg) (hs29 : ((p7 <<< ((0 : Int32) &&& 31))).toNatClampNeg + (p6).toNatClampNeg ≤ ((((p11 + (p11 + (2 : Int32))) >>> ((0 : Int32) &&& 31)) <<< ((0 : Int32) &&& 31))).toNatClampNeg) (hs30 : ((p7 <<< ((0 : Int32) &&& 31))).toNatClampNeg + (p6).toNatClampNeg ≤ ((cpL (repL (((p11 + (p11 + (2 : Int32))) >>> ((0 : Int32) &&& 31)) <<< ((0 : Int32) &&& 31))) l_a8 (0 : Int32) (0 : Int32) p11)).length) :
    MF l y24 (Jvm.Cond.code y24 jdk_68_method_22_code 3 (some (.object "java/lang/AbstractStringBuilder")) :: ws) ({ frames := 4, cells := 1, slots := 40, locals := 62 } : Room) Z #[(.ref a1), (.ref a2)] h0 (fun v h L => ∃ (b3_0 : Addr), ∃ (kc3_0 : ClassId), v = some (.ref a1) ∧ Fr n0 L ∧ Keep h0 h [a1] ∧ h0.size ≤ b3_0 ∧ Exa Z h a1 "java/lang/StringBuilder" ∧ Fld Z h a1 "java/lang/AbstractStringBuilder" "coder" "B" (.int 0) ∧ Fld Z h a1 "java/lang/AbstractStringBuilder" "count" "I" (.int (p7 + (p6 >>> ((0 : Int32) &&& 31)))) ∧ Fld Z h a1 "java/lang/AbstractStringBuilder" "value" "[B" (.ref b3_0) ∧ Exa Z h b3_0 "[B" ∧ Arv Z h b3_0 kc3_0 .byte (((p11 + (p11 + (2 : Int32))) >>> ((0 : Int32) &&& 31)) <<< ((0 : Int32) &&& 31)) (lid (cpL (cpL (repL (((p11 + (p11 + (2 : Int32))) >>> ((0 : Int32) &&& 31)) <<< ((0 : Int32) &&& 31))) l_a8 (0 : Int32) (0 : Int32) p11) l_a3 (0 : Int32) (p7 <<< ((0 : Int32) &&& 31)) p6)) (.int 0)) := by
  refine mfB (plainFor_of_name pn_11) hw fun p e s m below meth c s₁ Bd Kz X0 e0 => ?_
  obtain ⟨hx, hby, hml, hZ, hown, -⟩ := id Kz
  have qz := And.intro hx hby
  have N0 := Fr.nil n0
  obtain ⟨_, T1, Lc1, X1, hQ1, st1⟩ := vS X0 Kz y19 0 86 87 89 88 90 12 (rm37 l Z a0 hw [] w_enc w_tb cs_v cl_tb wv_fm hp a2 a3 k_a3 l_a3 p6 h0 n0 O0 F_value_a2 V_a3 E_a2 F_coder_a2) e0 E_a2 (mkF m 10 #[vr a1, vr a2, uu] [(.ref a2)]) [] [] pd_12 d13_10
  obtain ⟨rfl, Nq1, eq1⟩ := hQ1
  have N1 := Fr.app N0 Nq1
  obtain ⟨T2, X2, e2, st2⟩ := gF X1 Kz 96 eq1 F_count_a1 (mkF m 16 #[vr a1, vr a2, vi (fx49 p6)] [(.ref a1), (.ref a1)]) d13_16
  obtain ⟨_, T3, Lc3, X3, hQ3, st3⟩ := pB X2 Kz y20 0 98 99 101 100 102 65 (rm72 l Z a0 hw [] w_enc w_tb cs_v cl_tb wv_fm hp a1 (p7 + (p6 >>> ((0 : Int32) &&& 31))) a8 k_a8 l_a8 p11 p7 h0 n0 O0 F_value_a1 V_a8 F_coder_a1 hc10 E_a1 hc11 hc12 hc13 hc14 hc15 hc16 hs17 hs18 hs19 hs20 hs21 hs22 F_count_a1 g_a1) e2 E_a1 (mkF m 21 #[vr a1, vr a2, vi (fx49 p6)] [(.int (fx50 p7 p6)), (.ref a1)]) [(.int (fx50 p7 p6))] [] pd_10 d13_21
  obtain ⟨b3_0, kc3_0, rfl, Nq3, Kq3, sq_b3_0, fq3_0, fq3_1, fq3_2, fq3_3, fq3_4, fq3_5⟩ := hQ3
  have N3 := Fr.app N1 Nq3
  have g_b3_0 : n0 ≤ b3_0 := Nat.le_trans (own_sz O0) sq_b3_0
  have sz_b3_0 : h0.size ≤ b3_0 := Nat.le_trans (Keep.refl h0 [a1]).1 sq_b3_0
  have O3 := O0.keep Kq3 (allS g_a1 all0)
  have K3 : Keep h0 T3.heap [a1] := (Keep.refl h0 [a1]).trans Kq3 (allS (Or.inl (ma 0 rfl)) all0)
  obtain ⟨T4, X4, e4, st4⟩ := gF X3 Kz 96 rfl fq3_2 (mkF m 26 #[vr a1, vr a2, vi (fx49 p6)] [(.ref a1), (.ref a1)]) d13_26
  obtain ⟨_, T5, Lc5, X5, hQ5, st5⟩ := pB X4 Kz y23 0 103 104 106 105 107 65 (rm41 l Z a0 hw [] w_enc w_tb cs_v cl_tb wv_fm hp a1 p7 a2 b3_0 a3 k_a3 l_a3 p6 kc3_0 (cpL (repL (((p11 + (p11 + (2 : Int32))) >>> ((0 : Int32) &&& 31)) <<< ((0 : Int32) &&& 31))) l_a8 (0 : Int32) (0 : Int32) p11) (((p11 + (p11 + (2 : Int32))) >>> ((0 : Int32) &&& 31)) <<< ((0 : Int32) &&& 31)) T3.heap n0 O3 fq3_0 fq3_1 (E_a2.keep Kq3) (F_coder_a2.keep Kq3 (ninS (Ne.symm ne_a1_a2) nin0)) fq3_3 (F_value_a2.keep Kq3 (ninS (Ne.symm ne_a1_a2) nin0)) (V_a3.keep Kq3 (ninS (Ne.symm ne_a1_a3) nin0)) fq3_4 fq3_5 g_b3_0 hs26 hs27 hs28 hs29 hs30) e4 fq3_0 (mkF m 30 #[vr a1, vr a2, vi (fx49 p6)] [(.ref a2), (.int p7), (.ref a1)]) [(.int p7), (.ref a2)] [] pd_15 d13_30
  obtain ⟨rfl, Nq5, Kq5, fq5_0, fq5_1⟩ := hQ5
  have N5 := Fr.app N3 Nq5
  have K5 : Keep h0 T5.heap [a1] := K3.trans Kq5 (allS (Or.inr sz_b3_0) all0)
  have nz0 : a1 ≠ b3_0 := (Nat.ne_of_lt (Nat.lt_of_lt_of_le E_a1.lt sz_b3_0))
  obtain ⟨T6, X6, e6, st6⟩ := gF X5 Kz 96 rfl (fq3_2.keep Kq5 (ninS nz0 nin0)) (mkF m 35 #[vr a1, vr a2, vi (fx49 p6)] [(.ref a1), (.ref a1)]) d13_35
  obtain ⟨T7, h7, X7, e7, W7, st7⟩ := putF X6 hx hZ hown (host := "") (Or.inl (wq hw 96 rfl)) Via.refl e6 (fq3_2.keep Kq5 (ninS nz0 nin0)) (fq3_0.keep Kq5) (Or.inl (wq hw 97 rfl)) (wq hw 56 rfl) (ty := .int) (by decide) rfl rfl (g := (mkF m 40 #[vr a1, vr a2, vi (fx49 p6)] [(.int (fx50 p7 p6)), (.ref a1)])) rfl rfl (hb hby d13_40)
  have N7 := Fr.snoc X7 N5 g_a1
  have K7 : Keep h0 h7 [a1] := K5.wr W7 (Or.inl (ma 0 rfl))
  have Fw7 := (fq3_2.keep Kq5 (ninS nz0 nin0)).same W7
  have f_8 := ((fq3_1.keep Kq5 (ninS nz0 nin0)).other W7 (Or.inr (sn12 hw)))
  have f_9 := ((fq3_3.keep Kq5 (ninS nz0 nin0)).other W7 (Or.inr (sn13 hw)))
  refine mfE Bd X7 (some (.ref a1)) e7 (fun h => by rw [Bd.returns] at h; cases h) (ef_13_0 m a1 a2) ⟨b3_0, kc3_0, rfl, N7, K7, sz_b3_0, ((fq3_0.keep Kq5).wr W7), f_8, Fw7, f_9, (fq5_0.wr W7), (fq5_1.other W7 (Ne.symm nz0))⟩ fun fs hr => ?_
  refine aln X0 qz d13_0 ?_
  refine XS.ifnonnullYes X0.here hx rfl (pc0 := 1) (pc' := 9) rfl (hb hby d13_1) rfl (by decide) (by decide) ?_
  refine aln X0 qz d13_9 ?_
  refine st1.trans ?_
  refine stn X1 qz d13_13 #[vr a1, vr a2, vi (fx49 p6)] ?_
  refine aln X1 qz d13_14 ?_
  refine aln X1 qz d13_15 ?_
  refine st2 _ ?_
  refine iln X2 qz d13_19 ?_
  refine wia X2 qz d13_20 ?_
  refine st3.trans ?_
  refine aln X3 qz d13_24 ?_
  refine aln X3 qz d13_25 ?_
  refine st4 _ ?_
  refine aln X4 qz d13_29 ?_
  refine st5.trans ?_
  show Sp p e below T5 (mkF m 33 #[vr a1, vr a2, vi (fx49 p6)] []) _
  refine aln X5 qz d13_33 ?_
  refine XS.dup X5.here hx rfl (hb hby d13_34) rfl rfl ?_
  refine st6 _ ?_
  refine iln X6 qz d13_38 ?_
  refine wia X6 qz d13_39 ?_
  refine st7 _ ?_
  refine aln X7 qz d13_43 ?_
  jvm_step X7.here [X7.here.top, hx, (hb hby d13_44), X7.method', Bd.returns, Value.isRef, FieldType.isReference]
  first | (intro acts; rw [hr _ acts rfl rfl rfl]) | rw [hr _ _ rfl rfl rfl]
  exact Steps.refl _
theorem rm74 (l : Launch) (Z : State) (a0 : Array Value) (hw : HW Z a0) (ws : List Jvm.Cond) (w_enc w_tb : Addr) (cs_v : Int32) (cl_tb : Cell) (wv_fm : Value) (hp : Perm Z w_enc w_tb cs_v cl_tb wv_fm) (a1 : Addr) (a2 : Addr) (a3 : Addr) (k_a3 : ClassId) (l_a3 : List Value) (p6 : Int32) (p7 : Int32) (a8 : Addr) (k_a8 : ClassId) (l_a8 : List Value) (p11 : Int32) (h0 : Heap) (n0 : Nat) (O0 : Old Z n0 h0) (E_a2 : Exa Z h0 a2 "java/lang/String") (F_value_a2 : Fld Z h0 a2 "java/lang/String" "value" "[B" (.ref a3)) (V_a3 : Arv Z h0 a3 k_a3 .byte p6 (lid l_a3) (.int 0)) (F_coder_a2 : Fld Z h0 a2 "java/lang/String" "coder" "B" (.int 0)) (F_count_a1 : Fld Z h0 a1 "java/lang/AbstractStringBuilder" "count" "I" (.int p7)) (E_a1 : Exa Z h0 a1 "java/lang/StringBuilder") (F_value_a1 : Fld Z h0 a1 "java/lang/AbstractStringBuilder" "value" "[B" (.ref a8)) (V_a8 : Arv Z h0 a8 k_a8 .byte p11 (lid l_a8) (.int 0)) (F_coder_a1 : Fld Z h0 a1 "java/lang/AbstractStringBuilder" "coder" "B" (.int 0)) (hc10 : (0 : Int32) < ((p7 + (p6 >>> ((0 : Int32) &&& 31))) - (p11 >>> ((0 : Int32) &&& 31)))) (hc11 : (((p7 + (p6 >>> ((0 : Int32) &&& 31))) <<< ((0 : Int32) &&& 31)) - p11) < (p11 + (2 : Int32))) (hc12 : (0 : Int32) < (p11 + (p11 + (2 : Int32)))) (hc13 : ¬ ((2147483639 : Int32) < (p11 + (p11 + (2 : Int32))))) (hc14 : ¬ ((p11 + (p11 + (2 : Int32))) = (2147483647 : Int32))) (hc15 : ¬ ((((p11 + (p11 + (2 : Int32))) >>> ((0 : Int32) &&& 31)) <<< ((0 : Int32) &&& 31)) = p11)) (hc16 : ¬ ((((p11 + (p11 + (2 : Int32))) >>> ((0 : Int32) &&& 31)) <<< ((0 : Int32) &&& 31)) < p11)) (hs17 : ¬ ((((p11 + (p11 + (2 : Int32))) >>> ((0 : Int32) &&& 31)) <<< ((0 : Int32) &&& 31))) < 0) (hs18 : ((((p11 + (p11 + (2 : Int32))) >>> ((0 : Int32) &&& 31)) <<< ((0 : Int32) &&& 31))).toNatClampNeg ≤ 40) (hs19 : ¬ (p11) < 0) (hs20 : ((0 : Int32)).toNatClampNeg + (p11).toNatClampNeg ≤ (p11).toNatClampNeg) (hs21 : ((0 : Int32)).toNatClampNeg + (p11).toNatClampNeg ≤ ((((p11 + (p11 + (2 : Int32))) >>> ((0 : Int32) &&& 31)) <<< ((0 : Int32) &&& 31))).toNatClampNeg) (hs22 : ((0 : Int32)).toNatClampNeg + (p11).toNatClampNeg ≤ ((repL (((p11 + (p11 + (2 : Int32))) >>> ((0 : Int32) &&& 31)) <<< ((0 : Int32) &&& 31)))).length) (g_a1 : n0 ≤ a1) (ne_a1_a2 : a1 ≠ a2) (ne_a1_a3 : a1 ≠ a3) (hs26 : ¬ ((p7 <<< ((0 : Int32) &&& 31))) < 0) (hs27 : ¬ (p6) < 0) (hs28 : ((0 : Int32)).toNatClampNeg + (p6).toNatClampNeg ≤ (p6).toNatClampNeg) (hs29 : ((p7 <<< ((0 : Int32) &&& 31))).toNatClampNeg + (p6).toNatClampNeg ≤ ((((p11 + (p11 + (2 : Int32))) >>> ((0 : Int32) &&& 31)) <<< ((0 : Int32) &&& 31))).toNatClampNeg) (hs30 : ((p7 <<< ((0 : Int32) &&& 31))).toNatClampNeg + (p6).toNatClampNeg ≤ ((cpL (repL (((p11 + (p11 + (2 : Int32))) >>> ((0 : Int32) &&& 31)) <<< ((0 : Int32) &&& 31))) l_a8 (0 : Int32) (0 : Int32) p11)).length) :
    MF l y25 (Jvm.Cond.code y25 jdk_67_method_7_code 2 (some (.object "java/lang/StringBuilder")) :: ws) ({ frames := 5, cells := 1, slots := 40, locals := 76 } : Room) Z #[(.ref a1), (.ref a2)] h0 (fun v h L => ∃ (b1_0 : Addr), ∃ (kc1_0 : ClassId), v = some (.ref a1) ∧ Fr n0 L ∧ Keep h0 h [a1] ∧ h0.size ≤ b1_0 ∧ Exa Z h a1 "java/lang/StringBuilder" ∧ Fld Z h a1 "java/lang/AbstractStringBuilder" "coder" "B" (.int 0) ∧ Fld Z h a1 "java/lang/AbstractStringBuilder" "count" "I" (.int (p7 + (p6 >>> ((0 : Int32) &&& 31)))) ∧ Fld Z h a1 "java/lang/AbstractStringBuilder" "value" "[B" (.ref b1_0) ∧ Exa Z h b1_0 "[B" ∧ Arv Z h b1_0 kc1_0 .byte (((p11 + (p11 + (2 : Int32))) >>> ((0 : Int32) &&& 31)) <<< ((0 : Int32) &&& 31)) (lid (cpL (cpL (repL (((p11 + (p11 + (2 : Int32))) >>> ((0 : Int32) &&& 31)) <<< ((0 : Int32) &&& 31))) l_a8 (0 : Int32) (0 : Int32) p11) l_a3 (0 : Int32) (p7 <<< ((0 : Int32) &&& 31)) p6)) (.int 0)) := by
  refine mfB (plainFor_of_name pn_10) hw fun p e s m below meth c s₁ Bd Kz X0 e0 => ?_
  obtain ⟨hx, hby, hml, hZ, hown, -⟩ := id Kz
  have qz := And.intro hx hby
  have N0 := Fr.nil n0
  obtain ⟨_, T1, Lc1, X1, hQ1, st1⟩ := uB X0 Kz y24 0 81 82 83 85 65 (rm73 l Z a0 hw [] w_enc w_tb cs_v cl_tb wv_fm hp a1 a2 a3 k_a3 l_a3 p6 p7 a8 k_a8 l_a8 p11 h0 n0 O0 E_a2 F_value_a2 V_a3 F_coder_a2 F_count_a1 E_a1 F_value_a1 V_a8 F_coder_a1 hc10 hc11 hc12 hc13 hc14 hc15 hc16 hs17 hs18 hs19 hs20 hs21 hs22 g_a1 ne_a1_a2 ne_a1_a3 hs26 hs27 hs28 hs29 hs30) e0 E_a1 (own_same (wq hw 101 rfl) rfl (wq hw 82 rfl) (by decide)) (mkF m 2 #[vr a1, vr a2] [(.ref a2), (.ref a1)]) [(.ref a2)] [] pd_16 d12_2
  obtain ⟨b1_0, kc1_0, rfl, Nq1, Kq1, sq_b1_0, fq1_0, fq1_1, fq1_2, fq1_3, fq1_4, fq1_5⟩ := hQ1
  have N1 := Fr.app N0 Nq1
  have sz_b1_0 : h0.size ≤ b1_0 := Nat.le_trans (Keep.refl h0 [a1]).1 sq_b1_0
  have K1 : Keep h0 T1.heap [a1] := (Keep.refl h0 [a1]).trans Kq1 (allS (Or.inl (ma 0 rfl)) all0)
  refine mfE Bd X1 (some (.ref a1)) rfl (fun h => by rw [Bd.returns] at h; cases h) (ef_12_0 m a1 a2) ⟨b1_0, kc1_0, rfl, N1, K1, sz_b1_0, fq1_0, fq1_1, fq1_2, fq1_3, fq1_4, fq1_5⟩ fun fs hr => ?_
  refine aln X0 qz d12_0 ?_
  refine aln X0 qz d12_1 ?_
  refine st1.trans ?_
  refine XS.pop X1.here hx rfl (hb hby d12_5) rfl rfl ?_
  refine aln X1 qz d12_6 ?_
  jvm_step X1.here [X1.here.top, hx, (hb hby d12_7), X1.method', Bd.returns, Value.isRef, FieldType.isReference]
  first | (intro acts; rw [hr _ acts rfl rfl rfl]) | rw [hr _ _ rfl rfl rfl]
  exact Steps.refl _
def Q75 (Z : State) (w_enc : Addr) (w_tb : Addr) (cs_v : Int32) (cl_tb : Cell) (wv_fm : Value) (a1 : Addr) (a2 : Addr) (a3 : Addr) (k_a3 : ClassId) (p5 : Int32) (a6 : Addr) (a7 : Addr) (k_a7 : ClassId) (p9 : Int32) (a10 : Addr) (k_a10 : ClassId) (l_a10 : List Value) (p13 : Int32) (h0 : Heap) (n0 : Nat) (v : Option Value) (h : Heap) (L : List Loc) : Prop := ∃ (b37_0 b37_1 : Addr), ∃ (kc37_0 : ClassId), v = some (.ref b37_0) ∧ Fr n0 L ∧ Keep h0 h [] ∧ h0.size ≤ b37_0 ∧ h0.size ≤ b37_1 ∧ b37_0 ≠ b37_1 ∧ Exa Z h b37_0 "java/lang/String" ∧ Fld Z h b37_0 "java/lang/String" "coder" "B" (.int 0) ∧ Fld Z h b37_0 "java/lang/String" "value" "[B" (.ref b37_1) ∧ Exa Z h b37_1 "[B" ∧ Arv Z h b37_1 kc37_0 .byte ((19 : Int32) - (0 : Int32)) [(.int 35), (.int 36), (.int 36), (.int 35), (.int 123), (.int p5), (.int 58), (.int p9), (.int 125), (.int 123), (.int (eb 0 l_a10)), (.int (eb 1 l_a10)), (.int (eb 2 l_a10)), (.int (eb 3 l_a10)), (.int 125), (.int 35), (.int 36), (.int 36), (.int 35)] (.int 0)
theorem rm75 (l : Launch) (Z : State) (a0 : Array Value) (hw : ∀ d ∈ tables_1, d.before a0 Z = true) (ws : List Jvm.Cond) (w_enc w_tb : Addr) (cs_v : Int32) (cl_tb : Cell) (wv_fm : Value) (hp : Perm Z w_enc w_tb cs_v cl_tb wv_fm) (a1 : Addr) (a2 : Addr) (a3 : Addr) (k_a3 : ClassId) (p5 : Int32) (a6 : Addr) (a7 : Addr) (k_a7 : ClassId) (p9 : Int32) (a10 : Addr) (k_a10 : ClassId) (l_a10 : List Value) (p13 : Int32) (h0 : Heap) (n0 : Nat) (O0 : Old Z n0 h0) (F_algorithm_a1 : Fld Z h0 a1 "com/example/cloakfield/cloakfield/format/TaggedValue" "algorithm" "Ljava/lang/String;" (.ref a2)) (E_a1 : Exa Z h0 a1 "com/example/cloakfield/cloakfield/format/TaggedValue") (E_a2 : Exa Z h0 a2 "java/lang/String") (F_value_a2 : Fld Z h0 a2 "java/lang/String" "value" "[B" (.ref a3)) (V_a3 : Arv Z h0 a3 k_a3 .byte (1 : Int32) [(.int p5)] (.int 0)) (F_coder_a2 : Fld Z h0 a2 "java/lang/String" "coder" "B" (.int 0)) (E_a3 : Exa Z h0 a3 "[B") (F_keyId_a1 : Fld Z h0 a1 "com/example/cloakfield/cloakfield/format/TaggedValue" "keyId" "Ljava/lang/String;" (.ref a6)) (E_a6 : Exa Z h0 a6 "java/lang/String") (F_value_a6 : Fld Z h0 a6 "java/lang/String" "value" "[B" (.ref a7)) (V_a7 : Arv Z h0 a7 k_a7 .byte (1 : Int32) [(.int p9)] (.int 0)) (F_coder_a6 : Fld Z h0 a6 "java/lang/String" "coder" "B" (.int 0)) (E_a7 : Exa Z h0 a7 "[B") (F_payload_a1 : Fld Z h0 a1 "com/example/cloakfield/cloakfield/format/TaggedValue" "payload" "[B" (.ref a10)) (V_a10 : Arv Z h0 a10 k_a10 .byte p13 (lid l_a10) (.int 0)) (E_a10 : Exa Z h0 a10 "[B") (hc17 : ¬ ((((eoL p13) ||| (0 : Int32)) ||| (eoL p13)) < (0 : Int32))) (hc18 : ¬ (((eoL p13) - (0 : Int32)) < (eoL p13))) (hc19 : ¬ ((eoL p13) = (0 : Int32))) (hc20 : ((0 : Int32) + (eoL p13)) = (eoL p13)) (hs21 : 0 ≤ (p13).toInt ∧ (p13).toInt < 7) (hs22 : ¬ ((eoL p13)) < 0) (hs23 : ((eoL p13)).toNatClampNeg ≤ 40) (hs24 : EncIn p13 l_a10) (hs25 : (eoL p13) = (4 : Int32)) (hs26 : encL l_a10 = [.int (eb 0 l_a10), .int (eb 1 l_a10), .int (eb 2 l_a10), .int (eb 3 l_a10)]) :
    MetFree l y42 (head1 (Jvm.Cond.code y42 prog_37_method_2_code 1 (some (.object "java/lang/String")) :: ws) ({ frames := 6, cells := 16, slots := 256, locals := 91 } : Room)) (fun a U => a = #[(.ref a1)] ∧ Z.Warmed39 U.vm ∧ U.heap = h0 ∧ CHv Z own_EL U.vm h0 ∧ ∀ x ∈ ([] : List Addr), Safe Z own_EL U.vm h0 x) (fun _ _ _ _ _ => True) (fun _ U o U' => ∃ v L, o = .returned v ∧ Q75 Z w_enc w_tb cs_v cl_tb wv_fm a1 a2 a3 k_a3 p5 a6 a7 k_a7 p9 a10 k_a10 l_a10 p13 h0 n0 v U'.heap L ∧ CHr Z own_EL U.vm U.heap U'.vm U'.heap ∧ ReturnedEndW U o U' L ({ frames := 6, cells := 16, slots := 256, locals := 91 } : Room).cells ({ frames := 6, cells := 16, slots := 256, locals := 91 } : Room).slots) := by
  refine MetFree.of_bodySF (plainFor_of_name pn_7) hisR ?_
  intro p e s m args below meth c s₁ Bd hml0 hP hK
  obtain ⟨rfl, hZo, hh, hCH, hSL⟩ := hP
  have hx := Bd.exec
  have hby := Bd.bytes
  have qz := And.intro hx hby
  have hml : c.maxLocals = 1 := hml0
  have hown : (s.setVm s.vm).vm.findClass "com/example/cloakfield/cloakfield/format/TaggedValue" = some m.cls := findClass_of_methodNamed Bd.named
  have hnm := (name_of_methodNamed Bd.named Bd.method).1
  have X0 : Stand p l e ({ frames := 6, cells := 16, slots := 256, locals := 91 } : Room) (s.setVm s.vm) m #[(.ref a1)] below meth c s₁ [] 0 0 := Stand.of_body Bd
  have e0 : s₁.heap = h0 := by rw [← hh, Bd.state]; rfl
  have N0 := Fr.nil n0
  have hZ : Z.Warmed39 (s.setVm s.vm).vm := hZo
  have CH0 := CHr.refl hCH
  have hS0 : s.Since s.vm 0 := (State.WarmedH.refl s).since 0
  have hk0 : 0 ≤ h0.size := Nat.zero_le _
  have hp' := hp
  obtain ⟨_, _, _, E_w_enc, _⟩ := hp'
  have Kz := And.intro hx (And.intro hby (And.intro hml (And.intro hZ (And.intro hown hw))))
  obtain ⟨T1, h1, X1, e1, E1, A1, D1, -, st1⟩ := newO X0 hx hZ hown (wq hw 55 rfl) (wq hw 56 rfl) (wq hw 57 rfl) e0 (g := (mkF m 0 #[vr a1] [])) rfl (hb hby d9_0) (by decide) (by decide)
  obtain ⟨b1, g1⟩ : ∃ z, z = h0.size := ⟨_, rfl⟩
  rw [← g1] at A1 D1 st1
  have g_b1 : n0 ≤ b1 := Nat.le_trans (own_sz O0) (Nat.le_of_eq g1.symm)
  have sz_b1 : h0.size ≤ b1 := Nat.le_trans (Keep.refl h0 []).1 (Nat.le_of_eq g1.symm)
  have O1 := O0.ext E1
  have K1 : Keep h0 h1 [] := (Keep.refl h0 []).ext E1
  have CH1 := CH0.trans (CHr.ext E1 CH0.1)
  have hk1 := Nat.le_trans hk0 E1.1
  have F_value_b1 : Fld Z h1 b1 "java/lang/AbstractStringBuilder" "value" "[B" .null := D1 (Or.inl (wq hw 70 rfl)) (ty := (.array .byte)) (by decide)
  have F_coder_b1 : Fld Z h1 b1 "java/lang/AbstractStringBuilder" "coder" "B" (.int 0) := D1 (Or.inl (wq hw 72 rfl)) (ty := .byte) (by decide)
  have F_count_b1 : Fld Z h1 b1 "java/lang/AbstractStringBuilder" "count" "I" (.int 0) := D1 (Or.inl (wq hw 97 rfl)) (ty := .int) (by decide)
  obtain ⟨_, T2, Lc2, X2, hQ2, st2⟩ := sB X1 Kz y17 1 58 59 60 57 (rm35 l Z a0 hw [] w_enc w_tb cs_v cl_tb wv_fm hp b1 h1 n0 O1 A1 F_coder_b1 F_count_b1 F_value_b1 g_b1) e1 b1 (mkF m 4 #[vr a1] [(.ref b1), (.ref b1)]) [] [(.ref b1)] pd_8 d9_4
  obtain ⟨b2_0, kc2_0, rfl, Nq2, Kq2, sq_b2_0, fq2_0, fq2_1, fq2_2, fq2_3, fq2_4, fq2_5⟩ := hQ2
  have N2 := Fr.app N0 Nq2
  have g_b2_0 : n0 ≤ b2_0 := Nat.le_trans (own_sz O1) sq_b2_0
  have sz_b2_0 : h0.size ≤ b2_0 := Nat.le_trans K1.1 sq_b2_0
  have CH2 := CH1.trans (CHr.keep Kq2 (allS (Safe.exa hZo.alike A1 (by decide) (by decide)) all0) CH1.1)
  have hk2 := Nat.le_trans hk1 Kq2.1
  have O2 := O1.keep Kq2 (allS g_b1 all0)
  have K2 : Keep h0 T2.heap [] := K1.trans Kq2 (allS (Or.inr sz_b1) all0)
  obtain ⟨li3, T3, h3, k3, lb3, kb3, X3, e3, E3, hS3, hk3, hZ3, hown3, Ea3, Ca3, Va3, Ba3, -, -, C3, L3, Sf3, st3⟩ := ldcCH X2 hx hZ hown (wq hw 73 rfl) (own_wS hw) rfl hS0 hk2 (own_EW hw) (by decide) CH2.1 (vs := [(.int 35), (.int 36), (.int 36), (.int 35), (.int 123)]) (z := (5 : Int32)) ⟨by decide, rfl⟩ (by decide) rfl (g := (mkF m 7 #[vr a1] [(.ref b1)])) rfl (hb hby d9_7) (n := 20) (by decide) (by decide) (by decide) (by decide)
  have CH3 := CH2.trans C3
  have O3 := O2.ext E3
  have K3 : Keep h0 h3 [] := K2.ext E3
  have nz0 : b1 ≠ b2_0 := (Nat.ne_of_lt (Nat.lt_of_lt_of_le A1.lt sq_b2_0))
  obtain ⟨_, T4, Lc4, X4, hQ4, st4⟩ := vS X3 ⟨hx, hby, hml, hZ3, hown3, hw⟩ y25 0 76 77 79 78 80 57 (rm43 l Z a0 hw [] w_enc w_tb cs_v cl_tb wv_fm hp b1 li3 lb3 kb3 [(.int 35), (.int 36), (.int 36), (.int 35), (.int 123)] (5 : Int32) (0 : Int32) b2_0 kc2_0 [(.int 0), (.int 0), (.int 0), (.int 0), (.int 0), (.int 0), (.int 0), (.int 0), (.int 0), (.int 0), (.int 0), (.int 0), (.int 0), (.int 0), (.int 0), (.int 0)] (16 : Int32) h3 n0 O3 Ea3 Va3 Ba3 Ca3 (fq2_2.ext E3) (fq2_0.ext E3) (fq2_3.ext E3) (fq2_5.ext E3) (fq2_1.ext E3) (by decide : ¬ ((0 : Int32) < (((0 : Int32) + ((5 : Int32) >>> ((0 : Int32) &&& 31))) - ((16 : Int32) >>> ((0 : Int32) &&& 31))))) (fq2_4.ext E3) g_b2_0 (by decide) (by decide) (by decide) (by decide) (Nat.le_of_ble_eq_true rfl) nz0 g_b1) e3 (fq2_0.ext E3) (mkF m 9 #[vr a1] [(.ref li3), (.ref b1)]) [(.ref li3)] [] pd_17 d9_9
  obtain ⟨rfl, Nq4, Kq4, fq4_0, fq4_1, fq4_2, fq4_3, fq4_4, fq4_5⟩ := hQ4
  have N4 := Fr.app N2 Nq4
  have sf_5 := (C3.safe fq2_4.lt (Safe.keep Kq2 (allS (Safe.exa hZo.alike A1 (by decide) (by decide)) all0) CH1.1 (Safe.new sq_b2_0)))
  have CH4 := CH3.trans (CHr.keep Kq4 (allS sf_5 (allS (Safe.exa hZ3.alike (fq2_0.ext E3) (by decide) (by decide)) all0)) CH3.1)
  have hk4 := Nat.le_trans hk3 Kq4.1
  have O4 := O3.keep Kq4 (allS g_b2_0 (allS g_b1 all0))
  have K4 : Keep h0 T4.heap [] := K3.trans Kq4 (allS (Or.inr sz_b2_0) (allS (Or.inr sz_b1) all0))
  have V4_1 : Arv Z T4.heap b2_0 kc2_0 .byte (16 : Int32) [(.int 35), (.int 36), (.int 36), (.int 35), (.int 123), (.int 0), (.int 0), (.int 0), (.int 0), (.int 0), (.int 0), (.int 0), (.int 0), (.int 0), (.int 0), (.int 0)] (.int 0) := fq4_1
  have F4_4 : Fld Z T4.heap b1 "java/lang/AbstractStringBuilder" "count" "I" (.int 5) := fq4_4
  have nz1 : a1 ≠ b1 := (Nat.ne_of_lt (Nat.lt_of_lt_of_le E_a1.lt sz_b1))
  have nz2 : a1 ≠ b2_0 := (Nat.ne_of_lt (Nat.lt_of_lt_of_le E_a1.lt sz_b2_0))
  have f_6 := ((((F_algorithm_a1.ext E1).keep Kq2 (ninS nz1 nin0)).ext E3).keep Kq4 (ninS nz2 (ninS nz1 nin0)))
  obtain ⟨T7, X7, e7, st7⟩ := gF X4 ⟨hx, hby, hml, hZ3, hown3, hw⟩ 44 rfl f_6 (mkF m 13 #[vr a1] [(.ref a1), (.ref b1)]) d9_13
  have nz3 : a2 ≠ b1 := (Nat.ne_of_lt (Nat.lt_of_lt_of_le E_a2.lt sz_b1))
  have nz4 : a2 ≠ b2_0 := (Nat.ne_of_lt (Nat.lt_of_lt_of_le E_a2.lt sz_b2_0))
  have f_8 := ((((F_value_a2.ext E1).keep Kq2 (ninS nz3 nin0)).ext E3).keep Kq4 (ninS nz4 (ninS nz3 nin0)))
  have nz5 : a3 ≠ b1 := (Nat.ne_of_lt (Nat.lt_of_lt_of_le E_a3.lt sz_b1))
  have nz6 : a3 ≠ b2_0 := (Nat.ne_of_lt (Nat.lt_of_lt_of_le E_a3.lt sz_b2_0))
  have f_9 := ((((V_a3.ext E1).keep Kq2 (ninS nz5 nin0)).ext E3).keep Kq4 (ninS nz6 (ninS nz5 nin0)))
  have f_10 := ((((F_coder_a2.ext E1).keep Kq2 (ninS nz3 nin0)).ext E3).keep Kq4 (ninS nz4 (ninS nz3 nin0)))
  obtain ⟨_, T11, Lc11, X11, hQ11, st11⟩ := vS X7 ⟨hx, hby, hml, hZ3, hown3, hw⟩ y25 0 76 77 79 78 80 57 (rm43 l Z a0 hw [] w_enc w_tb cs_v cl_tb wv_fm hp b1 a2 a3 k_a3 [(.int p5)] (1 : Int32) (5 : Int32) b2_0 kc2_0 [(.int 35), (.int 36), (.int 36), (.int 35), (.int 123), (.int 0), (.int 0), (.int 0), (.int 0), (.int 0), (.int 0), (.int 0), (.int 0), (.int 0), (.int 0), (.int 0)] (16 : Int32) T4.heap n0 O4 ((((E_a2.ext E1).keep Kq2).ext E3).keep Kq4) f_8 f_9 f_10 F4_4 fq4_2 fq4_5 V4_1 fq4_3 (by decide : ¬ ((0 : Int32) < (((5 : Int32) + ((1 : Int32) >>> ((0 : Int32) &&& 31))) - ((16 : Int32) >>> ((0 : Int32) &&& 31))))) fq4_0 g_b2_0 (by decide) (by decide) (by decide) (by decide) (Nat.le_of_ble_eq_true rfl) nz0 g_b1) e7 fq4_2 (mkF m 16 #[vr a1] [(.ref a2), (.ref b1)]) [(.ref a2)] [] pd_17 d9_16
  obtain ⟨rfl, Nq11, Kq11, fq11_0, fq11_1, fq11_2, fq11_3, fq11_4, fq11_5⟩ := hQ11
  have N11 := Fr.app N4 Nq11
  have sf_12 := (Safe.keep Kq4 (allS sf_5 (allS (Safe.exa hZ3.alike (fq2_0.ext E3) (by decide) (by decide)) all0)) CH3.1 sf_5)
  have CH11 := CH4.trans (CHr.keep Kq11 (allS sf_12 (allS (Safe.exa hZ3.alike fq4_2 (by decide) (by decide)) all0)) CH4.1)
  have hk11 := Nat.le_trans hk4 Kq11.1
  have O11 := O4.keep Kq11 (allS g_b2_0 (allS g_b1 all0))
  have K11 : Keep h0 T11.heap [] := K4.trans Kq11 (allS (Or.inr sz_b2_0) (allS (Or.inr sz_b1) all0))
  have V11_1 : Arv Z T11.heap b2_0 kc2_0 .byte (16 : Int32) [(.int 35), (.int 36), (.int 36), (.int 35), (.int 123), (.int p5), (.int 0), (.int 0), (.int 0), (.int 0), (.int 0), (.int 0), (.int 0), (.int 0), (.int 0), (.int 0)] (.int 0) := fq11_1
  have F11_4 : Fld Z T11.heap b1 "java/lang/AbstractStringBuilder" "count" "I" (.int 6) := fq11_4
  obtain ⟨li13, T13, h13, k13, lb13, kb13, X13, e13, E13, hS13, hk13, hZ13, hown13, Ea13, Ca13, Va13, Ba13, -, -, C13, L13, Sf13, st13⟩ := ldcCH X11 hx hZ3 hown3 (wq hw 123 rfl) (own_wS hw) rfl hS3 hk11 (own_EW hw) (by decide) CH11.1 (vs := [(.int 58)]) (z := (1 : Int32)) ⟨by decide, rfl⟩ (by decide) rfl (g := (mkF m 19 #[vr a1] [(.ref b1)])) rfl (hb hby d9_19) (n := 4) (by decide) (by decide) (by decide) (by decide)
  have CH13 := CH11.trans C13
  have O13 := O11.ext E13
  have K13 : Keep h0 h13 [] := K11.ext E13
  obtain ⟨_, T14, Lc14, X14, hQ14, st14⟩ := vS X13 ⟨hx, hby, hml, hZ13, hown13, hw⟩ y25 0 76 77 79 78 80 57 (rm43 l Z a0 hw [] w_enc w_tb cs_v cl_tb wv_fm hp b1 li13 lb13 kb13 [(.int 58)] (1 : Int32) (6 : Int32) b2_0 kc2_0 [(.int 35), (.int 36), (.int 36), (.int 35), (.int 123), (.int p5), (.int 0), (.int 0), (.int 0), (.int 0), (.int 0), (.int 0), (.int 0), (.int 0), (.int 0), (.int 0)] (16 : Int32) h13 n0 O13 Ea13 Va13 Ba13 Ca13 (F11_4.ext E13) (fq11_2.ext E13) (fq11_5.ext E13) (V11_1.ext E13) (fq11_3.ext E13) (by decide : ¬ ((0 : Int32) < (((6 : Int32) + ((1 : Int32) >>> ((0 : Int32) &&& 31))) - ((16 : Int32) >>> ((0 : Int32) &&& 31))))) (fq11_0.ext E13) g_b2_0 (by decide) (by decide) (by decide) (by decide) (Nat.le_of_ble_eq_true rfl) nz0 g_b1) e13 (fq11_2.ext E13) (mkF m 21 #[vr a1] [(.ref li13), (.ref b1)]) [(.ref li13)] [] pd_17 d9_21
  obtain ⟨rfl, Nq14, Kq14, fq14_0, fq14_1, fq14_2, fq14_3, fq14_4, fq14_5⟩ := hQ14
  have N14 := Fr.app N11 Nq14
  have sf_15 := (C13.safe (((fq2_4.ext E3).keep Kq4).keep Kq11).lt (Safe.keep Kq11 (allS sf_12 (allS (Safe.exa hZ3.alike fq4_2 (by decide) (by decide)) all0)) CH4.1 sf_12))
  have CH14 := CH13.trans (CHr.keep Kq14 (allS sf_15 (allS (Safe.exa hZ13.alike (fq11_2.ext E13) (by decide) (by decide)) all0)) CH13.1)
  have hk14 := Nat.le_trans hk13 Kq14.1
  have O14 := O13.keep Kq14 (allS g_b2_0 (allS g_b1 all0))
  have K14 : Keep h0 T14.heap [] := K13.trans Kq14 (allS (Or.inr sz_b2_0) (allS (Or.inr sz_b1) all0))
  have V14_1 : Arv Z T14.heap b2_0 kc2_0 .byte (16 : Int32) [(.int 35), (.int 36), (.int 36), (.int 35), (.int 123), (.int p5), (.int 58), (.int 0), (.int 0), (.int 0), (.int 0), (.int 0), (.int 0), (.int 0), (.int 0), (.int 0)] (.int 0) := fq14_1
  have F14_4 : Fld Z T14.heap b1 "java/lang/AbstractStringBuilder" "count" "I" (.int 7) := fq14_4
  have f_16 := (((((((F_keyId_a1.ext E1).keep Kq2 (ninS nz1 nin0)).ext E3).keep Kq4 (ninS nz2 (ninS nz1 nin0))).keep Kq11 (ninS nz2 (ninS nz1 nin0))).ext E13).keep Kq14 (ninS nz2 (ninS nz1 nin0)))
  obtain ⟨T17, X17, e17, st17⟩ := gF X14 ⟨hx, hby, hml, hZ13, hown13, hw⟩ 46 rfl f_16 (mkF m 25 #[vr a1] [(.ref a1), (.ref b1)]) d9_25
  have f_18 := (((((((E_a6.ext E1).keep Kq2).ext E3).keep Kq4).keep Kq11).ext E13).keep Kq14)
  have nz7 : a6 ≠ b1 := (Nat.ne_of_lt (Nat.lt_of_lt_of_le E_a6.lt sz_b1))
  have nz8 : a6 ≠ b2_0 := (Nat.ne_of_lt (Nat.lt_of_lt_of_le E_a6.lt sz_b2_0))
  have f_19 := (((((((F_value_a6.ext E1).keep Kq2 (ninS nz7 nin0)).ext E3).keep Kq4 (ninS nz8 (ninS nz7 nin0))).keep Kq11 (ninS nz8 (ninS nz7 nin0))).ext E13).keep Kq14 (ninS nz8 (ninS nz7 nin0)))
  have nz9 : a7 ≠ b1 := (Nat.ne_of_lt (Nat.lt_of_lt_of_le E_a7.lt sz_b1))
  have nz10 : a7 ≠ b2_0 := (Nat.ne_of_lt (Nat.lt_of_lt_of_le E_a7.lt sz_b2_0))
  have f_20 := (((((((V_a7.ext E1).keep Kq2 (ninS nz9 nin0)).ext E3).keep Kq4 (ninS nz10 (ninS nz9 nin0))).keep Kq11 (ninS nz10 (ninS nz9 nin0))).ext E13).keep Kq14 (ninS nz10 (ninS nz9 nin0)))
  have f_21 := (((((((F_coder_a6.ext E1).keep Kq2 (ninS nz7 nin0)).ext E3).keep Kq4 (ninS nz8 (ninS nz7 nin0))).keep Kq11 (ninS nz8 (ninS nz7 nin0))).ext E13).keep Kq14 (ninS nz8 (ninS nz7 nin0)))
  obtain ⟨_, T22, Lc22, X22, hQ22, st22⟩ := vS X17 ⟨hx, hby, hml, hZ13, hown13, hw⟩ y25 0 76 77 79 78 80 57 (rm43 l Z a0 hw [] w_enc w_tb cs_v cl_tb wv_fm hp b1 a6 a7 k_a7 [(.int p9)] (1 : Int32) (7 : Int32) b2_0 kc2_0 [(.int 35), (.int 36), (.int 36), (.int 35), (.int 123), (.int p5), (.int 58), (.int 0), (.int 0), (.int 0), (.int 0), (.int 0), (.int 0), (.int 0), (.int 0), (.int 0)] (16 : Int32) T14.heap n0 O14 f_18 f_19 f_20 f_21 F14_4 fq14_2 fq14_5 V14_1 fq14_3 (by decide : ¬ ((0 : Int32) < (((7 : Int32) + ((1 : Int32) >>> ((0 : Int32) &&& 31))) - ((16 : Int32) >>> ((0 : Int32) &&& 31))))) fq14_0 g_b2_0 (by decide) (by decide) (by decide) (by decide) (Nat.le_of_ble_eq_true rfl) nz0 g_b1) e17 fq14_2 (mkF m 28 #[vr a1] [(.ref a6), (.ref b1)]) [(.ref a6)] [] pd_17 d9_28
  obtain ⟨rfl, Nq22, Kq22, fq22_0, fq22_1, fq22_2, fq22_3, fq22_4, fq22_5⟩ := hQ22
  have N22 := Fr.app N14 Nq22
  have sf_23 := (Safe.keep Kq14 (allS sf_15 (allS (Safe.exa hZ13.alike (fq11_2.ext E13) (by decide) (by decide)) all0)) CH13.1 sf_15)
  have CH22 := CH14.trans (CHr.keep Kq22 (allS sf_23 (allS (Safe.exa hZ13.alike fq14_2 (by decide) (by decide)) all0)) CH14.1)
  have hk22 := Nat.le_trans hk14 Kq22.1
  have O22 := O14.keep Kq22 (allS g_b2_0 (allS g_b1 all0))
  have K22 : Keep h0 T22.heap [] := K14.trans Kq22 (allS (Or.inr sz_b2_0) (allS (Or.inr sz_b1) all0))
  have V22_1 : Arv Z T22.heap b2_0 kc2_0 .byte (16 : Int32) [(.int 35), (.int 36), (.int 36), (.int 35), (.int 123), (.int p5), (.int 58), (.int p9), (.int 0), (.int 0), (.int 0), (.int 0), (.int 0), (.int 0), (.int 0), (.int 0)] (.int 0) := fq22_1
  have F22_4 : Fld Z T22.heap b1 "java/lang/AbstractStringBuilder" "count" "I" (.int 8) := fq22_4
  obtain ⟨li24, T24, h24, k24, lb24, kb24, X24, e24, E24, hS24, hk24, hZ24, hown24, Ea24, Ca24, Va24, Ba24, -, -, C24, L24, Sf24, st24⟩ := ldcCH X22 hx hZ13 hown13 (wq hw 124 rfl) (own_wS hw) rfl hS13 hk22 (own_EW hw) (by decide) CH22.1 (vs := [(.int 125), (.int 123)]) (z := (2 : Int32)) ⟨by decide, rfl⟩ (by decide) rfl (g := (mkF m 31 #[vr a1] [(.ref b1)])) rfl (hb hby d9_31) (n := 8) (by decide) (by decide) (by decide) (by decide)
  have CH24 := CH22.trans C24
  have O24 := O22.ext E24
  have K24 : Keep h0 h24 [] := K22.ext E24
  obtain ⟨_, T25, Lc25, X25, hQ25, st25⟩ := vS X24 ⟨hx, hby, hml, hZ24, hown24, hw⟩ y25 0 76 77 79 78 80 57 (rm43 l Z a0 hw [] w_enc w_tb cs_v cl_tb wv_fm hp b1 li24 lb24 kb24 [(.int 125), (.int 123)] (2 : Int32) (8 : Int32) b2_0 kc2_0 [(.int 35), (.int 36), (.int 36), (.int 35), (.int 123), (.int p5), (.int 58), (.int p9), (.int 0), (.int 0), (.int 0), (.int 0), (.int 0), (.int 0), (.int 0), (.int 0)] (16 : Int32) h24 n0 O24 Ea24 Va24 Ba24 Ca24 (F22_4.ext E24) (fq22_2.ext E24) (fq22_5.ext E24) (V22_1.ext E24) (fq22_3.ext E24) (by decide : ¬ ((0 : Int32) < (((8 : Int32) + ((2 : Int32) >>> ((0 : Int32) &&& 31))) - ((16 : Int32) >>> ((0 : Int32) &&& 31))))) (fq22_0.ext E24) g_b2_0 (by decide) (by decide) (by decide) (by decide) (Nat.le_of_ble_eq_true rfl) nz0 g_b1) e24 (fq22_2.ext E24) (mkF m 33 #[vr a1] [(.ref li24), (.ref b1)]) [(.ref li24)] [] pd_17 d9_33
  obtain ⟨rfl, Nq25, Kq25, fq25_0, fq25_1, fq25_2, fq25_3, fq25_4, fq25_5⟩ := hQ25
  have N25 := Fr.app N22 Nq25
  have sf_26 := (C24.safe ((((((fq2_4.ext E3).keep Kq4).keep Kq11).ext E13).keep Kq14).keep Kq22).lt (Safe.keep Kq22 (allS sf_23 (allS (Safe.exa hZ13.alike fq14_2 (by decide) (by decide)) all0)) CH14.1 sf_23))
  have CH25 := CH24.trans (CHr.keep Kq25 (allS sf_26 (allS (Safe.exa hZ24.alike (fq22_2.ext E24) (by decide) (by decide)) all0)) CH24.1)
  have hk25 := Nat.le_trans hk24 Kq25.1
  have O25 := O24.keep Kq25 (allS g_b2_0 (allS g_b1 all0))
  have K25 : Keep h0 T25.heap [] := K24.trans Kq25 (allS (Or.inr sz_b2_0) (allS (Or.inr sz_b1) all0))
  have V25_1 : Arv Z T25.heap b2_0 kc2_0 .byte (16 : Int32) [(.int 35), (.int 36), (.int 36), (.int 35), (.int 123), (.int p5), (.int 58), (.int p9), (.int 125), (.int 123), (.int 0), (.int 0), (.int 0), (.int 0), (.int 0), (.int 0)] (.int 0) := fq25_1
  have F25_4 : Fld Z T25.heap b1 "java/lang/AbstractStringBuilder" "count" "I" (.int 10) := fq25_4
  obtain ⟨_, T27, Lc27, X27, hQ27, st27⟩ := cS X25 ⟨hx, hby, hml, hZ24, hown24, hw⟩ y26 1 125 126 127 128 (rm44 l Z a0 hw [] w_enc w_tb cs_v cl_tb wv_fm hp T25.heap n0 O25) rfl (mkF m 36 #[vr a1] [(.ref b1)]) [] [(.ref b1)] pd_18 d9_36
  obtain ⟨rfl, Nq27, eq27⟩ := hQ27
  have N27 := Fr.app N25 Nq27
  have f_28 := ((((((((((F_payload_a1.ext E1).keep Kq2 (ninS nz1 nin0)).ext E3).keep Kq4 (ninS nz2 (ninS nz1 nin0))).keep Kq11 (ninS nz2 (ninS nz1 nin0))).ext E13).keep Kq14 (ninS nz2 (ninS nz1 nin0))).keep Kq22 (ninS nz2 (ninS nz1 nin0))).ext E24).keep Kq25 (ninS nz2 (ninS nz1 nin0)))
  obtain ⟨T29, X29, e29, st29⟩ := gF X27 ⟨hx, hby, hml, hZ24, hown24, hw⟩ 48 eq27 f_28 (mkF m 40 #[vr a1] [(.ref a1), (.ref w_enc), (.ref b1)]) d9_40
  have nz11 : a10 ≠ b1 := (Nat.ne_of_lt (Nat.lt_of_lt_of_le E_a10.lt sz_b1))
  have nz12 : a10 ≠ b2_0 := (Nat.ne_of_lt (Nat.lt_of_lt_of_le E_a10.lt sz_b2_0))
  have f_30 := ((((((((((V_a10.ext E1).keep Kq2 (ninS nz11 nin0)).ext E3).keep Kq4 (ninS nz12 (ninS nz11 nin0))).keep Kq11 (ninS nz12 (ninS nz11 nin0))).ext E13).keep Kq14 (ninS nz12 (ninS nz11 nin0))).keep Kq22 (ninS nz12 (ninS nz11 nin0))).ext E24).keep Kq25 (ninS nz12 (ninS nz11 nin0)))
  have f_31 := ((((((((((E_a10.ext E1).keep Kq2).ext E3).keep Kq4).keep Kq11).ext E13).keep Kq14).keep Kq22).ext E24).keep Kq25)
  obtain ⟨_, T32, Lc32, X32, hQ32, st32⟩ := vS X29 ⟨hx, hby, hml, hZ24, hown24, hw⟩ y31 1 131 132 134 133 135 130 (rm66 l Z a0 hw [] w_enc w_tb cs_v cl_tb wv_fm hp a10 k_a10 l_a10 p13 T25.heap n0 O25 f_30 f_31 hs21 hs22 hs23 hs24 hc17 hc18 hc19 hc20) e29 (E_w_enc.ext O25.2) (mkF m 43 #[vr a1] [(.ref a10), (.ref w_enc), (.ref b1)]) [(.ref a10)] [(.ref b1)] pd_25 d9_43
  obtain ⟨b32_0, b32_1, kc32_0, rfl, Nq32, Kq32, sq_b32_0, sq_b32_1, nq32_0, fq32_0, fq32_1, fq32_2, fq32_3, fq32_4⟩ := hQ32
  have N32 := Fr.app N27 Nq32
  have CH32 := CH25.trans (CHr.keep Kq32 all0 CH25.1)
  have hk32 := Nat.le_trans hk25 Kq32.1
  have O32 := O25.keep Kq32 all0
  have K32 : Keep h0 T32.heap [] := K25.trans Kq32 all0
  have V32_4 : Arv Z T32.heap b32_1 kc32_0 .byte (4 : Int32) [(.int (eb 0 l_a10)), (.int (eb 1 l_a10)), (.int (eb 2 l_a10)), (.int (eb 3 l_a10))] (.int 0) := (by have q := fq32_4; rw [show (eoL p13) = (4 : Int32) from hs25, show lid (encL l_a10) = _ from hs26] at q; exact q)
  obtain ⟨_, T33, Lc33, X33, hQ33, st33⟩ := vS X32 ⟨hx, hby, hml, hZ24, hown24, hw⟩ y25 0 76 77 79 78 80 57 (rm43 l Z a0 hw [] w_enc w_tb cs_v cl_tb wv_fm hp b1 b32_0 b32_1 kc32_0 [(.int (eb 0 l_a10)), (.int (eb 1 l_a10)), (.int (eb 2 l_a10)), (.int (eb 3 l_a10))] (4 : Int32) (10 : Int32) b2_0 kc2_0 [(.int 35), (.int 36), (.int 36), (.int 35), (.int 123), (.int p5), (.int 58), (.int p9), (.int 125), (.int 123), (.int 0), (.int 0), (.int 0), (.int 0), (.int 0), (.int 0)] (16 : Int32) T32.heap n0 O32 fq32_0 fq32_2 V32_4 fq32_1 (F25_4.keep Kq32 nin0) (fq25_2.keep Kq32) (fq25_5.keep Kq32 nin0) (V25_1.keep Kq32 nin0) (fq25_3.keep Kq32 nin0) (by decide : ¬ ((0 : Int32) < (((10 : Int32) + ((4 : Int32) >>> ((0 : Int32) &&& 31))) - ((16 : Int32) >>> ((0 : Int32) &&& 31))))) (fq25_0.keep Kq32) g_b2_0 (by decide) (by decide) (by decide) (by decide) (Nat.le_of_ble_eq_true rfl) nz0 g_b1) rfl (fq25_2.keep Kq32) (mkF m 46 #[vr a1] [(.ref b32_0), (.ref b1)]) [(.ref b32_0)] [] pd_17 d9_46
  obtain ⟨rfl, Nq33, Kq33, fq33_0, fq33_1, fq33_2, fq33_3, fq33_4, fq33_5⟩ := hQ33
  have N33 := Fr.app N32 Nq33
  have sf_34 := (Safe.keep Kq32 all0 CH25.1 (Safe.keep Kq25 (allS sf_26 (allS (Safe.exa hZ24.alike (fq22_2.ext E24) (by decide) (by decide)) all0)) CH24.1 sf_26))
  have CH33 := CH32.trans (CHr.keep Kq33 (allS sf_34 (allS (Safe.exa hZ24.alike (fq25_2.keep Kq32) (by decide) (by decide)) all0)) CH32.1)
  have hk33 := Nat.le_trans hk32 Kq33.1
  have O33 := O32.keep Kq33 (allS g_b2_0 (allS g_b1 all0))
  have K33 : Keep h0 T33.heap [] := K32.trans Kq33 (allS (Or.inr sz_b2_0) (allS (Or.inr sz_b1) all0))
  have V33_1 : Arv Z T33.heap b2_0 kc2_0 .byte (16 : Int32) [(.int 35), (.int 36), (.int 36), (.int 35), (.int 123), (.int p5), (.int 58), (.int p9), (.int 125), (.int 123), (.int (eb 0 l_a10)), (.int (eb 1 l_a10)), (.int (eb 2 l_a10)), (.int (eb 3 l_a10)), (.int 0), (.int 0)] (.int 0) := fq33_1
  have F33_4 : Fld Z T33.heap b1 "java/lang/AbstractStringBuilder" "count" "I" (.int 14) := fq33_4
  obtain ⟨li35, T35, h35, k35, lb35, kb35, X35, e35, E35, hS35, hk35, hZ35, hown35, Ea35, Ca35, Va35, Ba35, -, -, C35, L35, Sf35, st35⟩ := ldcCH X33 hx hZ24 hown24 (wq hw 190 rfl) (own_wS hw) rfl hS24 hk33 (own_EW hw) (by decide) CH33.1 (vs := [(.int 125), (.int 35), (.int 36), (.int 36), (.int 35)]) (z := (5 : Int32)) ⟨by decide, rfl⟩ (by decide) rfl (g := (mkF m 49 #[vr a1] [(.ref b1)])) rfl (hb hby d9_49) (n := 20) (by decide) (by decide) (by decide) (by decide)
  have CH35 := CH33.trans C35
  have O35 := O33.ext E35
  have K35 : Keep h0 h35 [] := K33.ext E35
  have nz13 : b1 ≠ li35 := (Sf35 b1 (Safe.exa hZ35.alike (fq33_2.ext E35) (by decide) (by decide))).1
  have nz14 : b1 ≠ lb35 := (Sf35 b1 (Safe.exa hZ35.alike (fq33_2.ext E35) (by decide) (by decide))).2
  obtain ⟨_, T36, Lc36, X36, hQ36, st36⟩ := vS X35 ⟨hx, hby, hml, hZ35, hown35, hw⟩ y25 0 76 77 79 78 80 57 (rm74 l Z a0 hw [] w_enc w_tb cs_v cl_tb wv_fm hp b1 li35 lb35 kb35 [(.int 125), (.int 35), (.int 36), (.int 36), (.int 35)] (5 : Int32) (14 : Int32) b2_0 kc2_0 [(.int 35), (.int 36), (.int 36), (.int 35), (.int 123), (.int p5), (.int 58), (.int p9), (.int 125), (.int 123), (.int (eb 0 l_a10)), (.int (eb 1 l_a10)), (.int (eb 2 l_a10)), (.int (eb 3 l_a10)), (.int 0), (.int 0)] (16 : Int32) h35 n0 O35 Ea35 Va35 Ba35 Ca35 (F33_4.ext E35) (fq33_2.ext E35) (fq33_5.ext E35) (V33_1.ext E35) (fq33_3.ext E35) (by decide : (0 : Int32) < (((14 : Int32) + ((5 : Int32) >>> ((0 : Int32) &&& 31))) - ((16 : Int32) >>> ((0 : Int32) &&& 31)))) (by decide : ((((14 : Int32) + ((5 : Int32) >>> ((0 : Int32) &&& 31))) <<< ((0 : Int32) &&& 31)) - (16 : Int32)) < ((16 : Int32) + (2 : Int32))) (by decide : (0 : Int32) < ((16 : Int32) + ((16 : Int32) + (2 : Int32)))) (by decide : ¬ ((2147483639 : Int32) < ((16 : Int32) + ((16 : Int32) + (2 : Int32))))) (by decide : ¬ (((16 : Int32) + ((16 : Int32) + (2 : Int32))) = (2147483647 : Int32))) (by decide : ¬ (((((16 : Int32) + ((16 : Int32) + (2 : Int32))) >>> ((0 : Int32) &&& 31)) <<< ((0 : Int32) &&& 31)) = (16 : Int32))) (by decide : ¬ (((((16 : Int32) + ((16 : Int32) + (2 : Int32))) >>> ((0 : Int32) &&& 31)) <<< ((0 : Int32) &&& 31)) < (16 : Int32))) (by decide) (by decide) (by decide) (by decide) (by decide) (Nat.le_of_ble_eq_true rfl) g_b1 nz13 nz14 (by decide) (by decide) (by decide) (by decide) (Nat.le_of_ble_eq_true rfl)) e35 (fq33_2.ext E35) (mkF m 51 #[vr a1] [(.ref li35), (.ref b1)]) [(.ref li35)] [] pd_17 d9_51
  obtain ⟨b36_0, kc36_0, rfl, Nq36, Kq36, sq_b36_0, fq36_0, fq36_1, fq36_2, fq36_3, fq36_4, fq36_5⟩ := hQ36
  have N36 := Fr.app N33 Nq36
  have CH36 := CH35.trans (CHr.keep Kq36 (allS (Safe.exa hZ35.alike (fq33_2.ext E35) (by decide) (by decide)) all0) CH35.1)
  have hk36 := Nat.le_trans hk35 Kq36.1
  have O36 := O35.keep Kq36 (allS g_b1 all0)
  have K36 : Keep h0 T36.heap [] := K35.trans Kq36 (allS (Or.inr sz_b1) all0)
  have F36_2 : Fld Z T36.heap b1 "java/lang/AbstractStringBuilder" "count" "I" (.int 19) := fq36_2
  have V36_5 : Arv Z T36.heap b36_0 kc36_0 .byte ((((16 : Int32) + ((16 : Int32) + (2 : Int32))) >>> ((0 : Int32) &&& 31)) <<< ((0 : Int32) &&& 31)) [(.int 35), (.int 36), (.int 36), (.int 35), (.int 123), (.int p5), (.int 58), (.int p9), (.int 125), (.int 123), (.int (eb 0 l_a10)), (.int (eb 1 l_a10)), (.int (eb 2 l_a10)), (.int (eb 3 l_a10)), (.int 125), (.int 35), (.int 36), (.int 36), (.int 35), (.int 0), (.int 0), (.int 0), (.int 0), (.int 0), (.int 0), (.int 0), (.int 0), (.int 0), (.int 0), (.int 0), (.int 0), (.int 0), (.int 0), (.int 0)] (.int 0) := fq36_5
  obtain ⟨_, T37, Lc37, X37, hQ37, st37⟩ := vS X36 ⟨hx, hby, hml, hZ35, hown35, hw⟩ y41 0 212 213 215 214 216 57 (rm60 l Z a0 hw [] w_enc w_tb cs_v cl_tb wv_fm hp b1 b36_0 (19 : Int32) kc36_0 [(.int 35), (.int 36), (.int 36), (.int 35), (.int 123), (.int p5), (.int 58), (.int p9), (.int 125), (.int 123), (.int (eb 0 l_a10)), (.int (eb 1 l_a10)), (.int (eb 2 l_a10)), (.int (eb 3 l_a10)), (.int 125), (.int 35), (.int 36), (.int 36), (.int 35), (.int 0), (.int 0), (.int 0), (.int 0), (.int 0), (.int 0), (.int 0), (.int 0), (.int 0), (.int 0), (.int 0), (.int 0), (.int 0), (.int 0), (.int 0)] ((((16 : Int32) + ((16 : Int32) + (2 : Int32))) >>> ((0 : Int32) &&& 31)) <<< ((0 : Int32) &&& 31)) T36.heap n0 O36 fq36_0 fq36_3 F36_2 fq36_1 V36_5 (by decide : ¬ ((19 : Int32) = ((((16 : Int32) + ((16 : Int32) + (2 : Int32))) >>> ((0 : Int32) &&& 31)) <<< ((0 : Int32) &&& 31)))) (by decide : ¬ ((19 : Int32) < (0 : Int32))) (by decide : ((19 : Int32) - (0 : Int32)) < (((((16 : Int32) + ((16 : Int32) + (2 : Int32))) >>> ((0 : Int32) &&& 31)) <<< ((0 : Int32) &&& 31)) - (0 : Int32))) fq36_4 (by decide) (by decide) (by decide) (by decide) (Nat.le_of_ble_eq_true rfl)) rfl fq36_0 (mkF m 54 #[vr a1] [(.ref b1)]) [] [] pd_32 d9_54
  obtain ⟨b37_0, b37_1, kc37_0, rfl, Nq37, Kq37, sq_b37_0, sq_b37_1, nq37_0, fq37_0, fq37_1, fq37_2, fq37_3, fq37_4⟩ := hQ37
  have N37 := Fr.app N36 Nq37
  have sz_b37_0 : h0.size ≤ b37_0 := Nat.le_trans K36.1 sq_b37_0
  have sz_b37_1 : h0.size ≤ b37_1 := Nat.le_trans K36.1 sq_b37_1
  have CH37 := CH36.trans (CHr.keep Kq37 all0 CH36.1)
  have hk37 := Nat.le_trans hk36 Kq37.1
  have K37 : Keep h0 T37.heap [] := K36.trans Kq37 all0
  have V37_4 : Arv Z T37.heap b37_1 kc37_0 .byte ((19 : Int32) - (0 : Int32)) [(.int 35), (.int 36), (.int 36), (.int 35), (.int 123), (.int p5), (.int 58), (.int p9), (.int 125), (.int 123), (.int (eb 0 l_a10)), (.int (eb 1 l_a10)), (.int (eb 2 l_a10)), (.int (eb 3 l_a10)), (.int 125), (.int 35), (.int 36), (.int 36), (.int 35)] (.int 0) := fq37_4
  obtain ⟨fs, hr, hrun, hended, hE⟩ := Stand.leaveW (s := s) X37 hS35 hk37 (v := some (.ref b37_0)) (fun h => by rw [Bd.returns] at h; cases h)
  have CHz : CHr Z own_EL s.vm s.heap (T37.setFrames fs).vm (T37.setFrames fs).heap := by
    rw [hh]
    show CHr Z own_EL s.vm h0 T37.vm T37.heap
    exact CH37.trans (CHv.at X37 hZ35 (own_EW hw) CH37.1)
  refine ⟨_, _, castTop (ef_9_0 m a1) ?_, hrun, hended, _, _, rfl, ?_, CHz, hE.1, hE.2.1, hE.2.2.1, hE.2.2.2.mono (by decide) (by decide)⟩
  · show Sp p e below s₁ (mkF m 0 #[vr a1] []) _
    refine st1 _ ?_
    refine XS.dup X1.here hx rfl (hb hby d9_3) rfl rfl ?_
    refine st2.trans ?_
    refine st3 _ ?_
    refine st4.trans ?_
    refine aln X4 qz d9_12 ?_
    refine st7 _ ?_
    refine st11.trans ?_
    refine st13 _ ?_
    refine st14.trans ?_
    refine aln X14 qz d9_24 ?_
    refine st17 _ ?_
    refine st22.trans ?_
    refine st24 _ ?_
    refine st25.trans ?_
    refine st27 _ ?_
    show Sp p e below T27 (mkF m 39 #[vr a1] [(.ref w_enc), (.ref b1)]) _
    refine aln X27 qz d9_39 ?_
    refine st29 _ ?_
    refine st32.trans ?_
    refine st33.trans ?_
    refine st35 _ ?_
    refine st36.trans ?_
    refine st37.trans ?_
    jvm_step X37.here [X37.here.top, hx, (hb hby d9_57), X37.method', Bd.returns, Value.isRef, FieldType.isReference]
    first | (intro acts; rw [hr _ acts rfl rfl rfl]) | rw [hr _ _ rfl rfl rfl]
    exact Steps.refl _
  · show Q75 Z w_enc w_tb cs_v cl_tb wv_fm a1 a2 a3 k_a3 p5 a6 a7 k_a7 p9 a10 k_a10 l_a10 p13 h0 n0 _ T37.heap _
    exact ⟨b37_0, b37_1, kc37_0, rfl, N37, K37, sz_b37_0, sz_b37_1, nq37_0, fq37_0, fq37_1, fq37_2, fq37_3, V37_4⟩
theorem own_nh3 {n : Int32} (r0 : 0 ≤ n.toInt ∧ n.toInt < 7) (h0 : ¬ n < (1 : Int32)) (h1 : n < (4 : Int32)) : ¬ (n = (0 : Int32)) := by have r1 := own_nltI (n := 1) rfl h0; have r2 := own_ltI (n := 4) rfl h1; rw [← Int32.toInt_inj, show (0 : Int32).toInt = 0 from rfl]; omega
theorem own_nh4 {n : Int32} (r0 : 0 ≤ n.toInt ∧ n.toInt < 7) (h0 : ¬ n < (1 : Int32)) (h1 : n < (4 : Int32)) : ¬ ((3 : Int32) < n) := by have r1 := own_nltI (n := 1) rfl h0; have r2 := own_ltI (n := 4) rfl h1; rw [Int32.lt_iff_toInt_lt, show (3 : Int32).toInt = 3 from rfl]; omega
theorem own_nh5 {n : Int32} (r0 : 0 ≤ n.toInt ∧ n.toInt < 7) (h0 : ¬ n < (1 : Int32)) (h1 : n < (4 : Int32)) : (0 : Int32) < n := by have r1 := own_nltI (n := 1) rfl h0; have r2 := own_ltI (n := 4) rfl h1; rw [Int32.lt_iff_toInt_lt, show (0 : Int32).toInt = 0 from rfl]; omega
theorem rm76 (l : Launch) (Z : State) (a0 : Array Value) (hw : HW Z a0) (ws : List Jvm.Cond) (w_enc w_tb : Addr) (cs_v : Int32) (cl_tb : Cell) (wv_fm : Value) (hp : Perm Z w_enc w_tb cs_v cl_tb wv_fm) (p1 : Int32) (h0 : Heap) (n0 : Nat) (O0 : Old Z n0 h0) (hc1 : ¬ ((3 : Int32) < p1)) :
    MF l y6 (Jvm.Cond.code y6 jdk_29_method_69_code 2 (some .int) :: ws) ({ frames := 0, cells := 0, slots := 0, locals := 0 } : Room) Z #[(.int p1), (.int 3)] h0 (fun v h L => v = some (.int p1) ∧ Fr n0 L ∧ h = h0) := by
  refine mfB (Jvm.Free.JP.mathPlain rfl (by decide +kernel)) hw fun p e s m below meth c s₁ Bd Kz X0 e0 => ?_
  obtain ⟨hx, hby, hml, hZ, hown, -⟩ := id Kz
  have qz := And.intro hx hby
  have N0 := Fr.nil n0
  refine mfE Bd X0 (some (.int p1)) e0 (fun h => by rw [Bd.returns] at h; cases h) (ef_35_0 m p1 (3 : Int32)) ⟨rfl, N0, rfl⟩ fun fs hr => ?_
  refine iln X0 qz d35_0 ?_
  refine iln X0 qz d35_1 ?_
  refine icN X0 qz d35_2 (flt hc1).2.2.1 ?_
  refine iln X0 qz d35_5 ?_
  refine gt X0 qz 6 10 d35_6 ?_
  exact retI X0 hx Bd.returns (hb hby d35_10) hr
theorem pd_38 : parseMethodDescriptor "([CIIIII)V" = some ⟨[(.array .char), .int, .int, .int, .int, .int], none⟩ := by decide +kernel
abbrev fx57 (x0 : Int32) (x1 : Int64) : Int32 := (gx0 (nE x0) (bA x1 (0 : Int32) (nE x0)) (bA x1 (1 : Int32) (nE x0)) (bA x1 (2 : Int32) (nE x0)))
abbrev fx58 (x0 : Int32) (x1 : Int64) : Int32 := (gx1 (nE x0) (bA x1 (0 : Int32) (nE x0)) (bA x1 (1 : Int32) (nE x0)) (bA x1 (2 : Int32) (nE x0)))
abbrev fx59 (x0 : Int32) (x1 : Int64) : Int32 := (gx2 (nE x0) (bA x1 (0 : Int32) (nE x0)) (bA x1 (1 : Int32) (nE x0)) (bA x1 (2 : Int32) (nE x0)))
abbrev fx60 (x0 : Int32) (x1 : Int64) : Int32 := (gx3 (nE x0) (bA x1 (0 : Int32) (nE x0)) (bA x1 (1 : Int32) (nE x0)) (bA x1 (2 : Int32) (nE x0)))
theorem rm77 (l : Launch) (Z : State) (a0 : Array Value) (hw : ∀ d ∈ tables_1, d.before a0 Z = true) (ws : List Jvm.Cond) (w_enc w_tb : Addr) (cs_v : Int32) (cl_tb : Cell) (wv_fm : Value) (hp : Perm Z w_enc w_tb cs_v cl_tb wv_fm) (p0 : Int32) (p1 : Int32) (p2 : Int32) (p3 : Int64) (h0 : Heap) (n0 : Nat) (O0 : Old Z n0 h0) (hc1 : ¬ ((nE p2) < (1 : Int32))) (hc2 : (nE p2) < (4 : Int32)) :
    MetFree l x (head1 (Jvm.Cond.code x code maxLocals ret :: ws) room_1) (fun a U => a = #[(.int p0), (.int p1), (.int p2), (.long p3)] ∧ Z.Warmed39 U.vm ∧ U.heap = h0 ∧ CHv Z own_EL U.vm h0) (fun _ _ _ _ _ => True) (fun _ U o U' => ∃ v L, o = .returned v ∧ (v = some (.int 1) ∧ Fr n0 L) ∧ ReturnedEndW U o U' L 56 5568) := by
  refine MetFree.of_bodySF (plainFor_of_name pn_46) hisR ?_
  intro p e s m args below meth c s₁ Bd hml0 hP hK
  obtain ⟨rfl, hZo, hh, hCH⟩ := hP
  have hx := Bd.exec
  have hby := Bd.bytes
  have qz := And.intro hx hby
  have hml : c.maxLocals = 20 := hml0
  have hown : (s.setVm s.vm).vm.findClass "com/example/cloakfield/cloakfield/format/TaggedValueToTextPinLaw" = some m.cls := findClass_of_methodNamed Bd.named
  have hnm := (name_of_methodNamed Bd.named Bd.method).1
  have X0 : Stand p l e room_1 (s.setVm s.vm) m #[(.int p0), (.int p1), (.int p2), (.long p3)] below meth c s₁ [] 0 0 := Stand.of_body Bd
  have e0 : s₁.heap = h0 := by rw [← hh, Bd.state]; rfl
  have N0 := Fr.nil n0
  have hZ : Z.Warmed39 (s.setVm s.vm).vm := hZo
  have CH0 := CHr.refl hCH
  have hS0 : s.Since s.vm 0 := (State.WarmedH.refl s).since 0
  have hk0 : 0 ≤ h0.size := Nat.zero_le _
  have hp' := hp
  obtain ⟨S_COMPACT_STRINGS, h_cs, _⟩ := hp'
  have Kz := And.intro hx (And.intro hby (And.intro hml (And.intro hZ (And.intro hown hw))))
  obtain ⟨_, T1, Lc1, X1, hQ1, st1⟩ := cS X0 Kz y1 0 1 2 3 4 (rmBA l Z a0 hw [] w_enc w_tb cs_v cl_tb wv_fm hp p3 (0 : Int32) (nE p2) h0 n0 O0) e0 (mkF m 29 #[vi p0, vi p1, vi p2, vj p3, .second, vi (nE p2), vi (fx41 p0), vi (fx41 p1), uu, uu, uu, uu, uu, uu, uu, uu, uu, uu, uu, uu] [(.int (nE p2)), (.int 0), (.long p3)]) [(.long p3), (.int 0), (.int (nE p2))] [] pd_3 at_29
  obtain ⟨rfl, Nq1, eq1⟩ := hQ1
  have N1 := Fr.app N0 Nq1
  obtain ⟨_, T2, Lc2, X2, hQ2, st2⟩ := cS X1 Kz y1 0 1 2 3 4 (rmBA l Z a0 hw [] w_enc w_tb cs_v cl_tb wv_fm hp p3 (1 : Int32) (nE p2) h0 n0 O0) eq1 (mkF m 38 #[vi p0, vi p1, vi p2, vj p3, .second, vi (nE p2), vi (fx41 p0), vi (fx41 p1), vi (fx42 p3 p2), uu, uu, uu, uu, uu, uu, uu, uu, uu, uu, uu] [(.int (nE p2)), (.int 1), (.long p3)]) [(.long p3), (.int 1), (.int (nE p2))] [] pd_3 at_38
  obtain ⟨rfl, Nq2, eq2⟩ := hQ2
  have N2 := Fr.app N1 Nq2
  obtain ⟨_, T3, Lc3, X3, hQ3, st3⟩ := cS X2 Kz y1 0 1 2 3 4 (rmBA l Z a0 hw [] w_enc w_tb cs_v cl_tb wv_fm hp p3 (2 : Int32) (nE p2) h0 n0 O0) eq2 (mkF m 47 #[vi p0, vi p1, vi p2, vj p3, .second, vi (nE p2), vi (fx41 p0), vi (fx41 p1), vi (fx42 p3 p2), vi (fx43 p3 p2), uu, uu, uu, uu, uu, uu, uu, uu, uu, uu] [(.int (nE p2)), (.int 2), (.long p3)]) [(.long p3), (.int 2), (.int (nE p2))] [] pd_3 at_47
  obtain ⟨rfl, Nq3, eq3⟩ := hQ3
  have N3 := Fr.app N2 Nq3
  obtain ⟨_, T4, Lc4, X4, hQ4, st4⟩ := cS X3 Kz y1 0 1 2 3 4 (rmBA l Z a0 hw [] w_enc w_tb cs_v cl_tb wv_fm hp p3 (3 : Int32) (nE p2) h0 n0 O0) eq3 (mkF m 56 #[vi p0, vi p1, vi p2, vj p3, .second, vi (nE p2), vi (fx41 p0), vi (fx41 p1), vi (fx42 p3 p2), vi (fx43 p3 p2), vi (fx44 p3 p2), uu, uu, uu, uu, uu, uu, uu, uu, uu] [(.int (nE p2)), (.int 3), (.long p3)]) [(.long p3), (.int 3), (.int (nE p2))] [] pd_3 at_56
  obtain ⟨rfl, Nq4, eq4⟩ := hQ4
  have N4 := Fr.app N3 Nq4
  obtain ⟨_, T5, Lc5, X5, hQ5, st5⟩ := cS X4 Kz y1 0 1 2 3 4 (rmBA l Z a0 hw [] w_enc w_tb cs_v cl_tb wv_fm hp p3 (4 : Int32) (nE p2) h0 n0 O0) eq4 (mkF m 65 #[vi p0, vi p1, vi p2, vj p3, .second, vi (nE p2), vi (fx41 p0), vi (fx41 p1), vi (fx42 p3 p2), vi (fx43 p3 p2), vi (fx44 p3 p2), vi (fx45 p3 p2), uu, uu, uu, uu, uu, uu, uu, uu] [(.int (nE p2)), (.int 4), (.long p3)]) [(.long p3), (.int 4), (.int (nE p2))] [] pd_3 at_65
  obtain ⟨rfl, Nq5, eq5⟩ := hQ5
  have N5 := Fr.app N4 Nq5
  obtain ⟨_, T6, Lc6, X6, hQ6, st6⟩ := cS X5 Kz y1 0 1 2 3 4 (rmBA l Z a0 hw [] w_enc w_tb cs_v cl_tb wv_fm hp p3 (5 : Int32) (nE p2) h0 n0 O0) eq5 (mkF m 74 #[vi p0, vi p1, vi p2, vj p3, .second, vi (nE p2), vi (fx41 p0), vi (fx41 p1), vi (fx42 p3 p2), vi (fx43 p3 p2), vi (fx44 p3 p2), vi (fx45 p3 p2), vi (fx46 p3 p2), uu, uu, uu, uu, uu, uu, uu] [(.int (nE p2)), (.int 5), (.long p3)]) [(.long p3), (.int 5), (.int (nE p2))] [] pd_3 at_74
  obtain ⟨rfl, Nq6, eq6⟩ := hQ6
  have N6 := Fr.app N5 Nq6
  obtain ⟨T7, h7, L7, b7, kb7, X7, e7, N7, Kq7, sq_b7, Eb7, Vb7, st7⟩ := own_pay l Z a0 hw p0 p1 p2 p3 ((p0 &&& (255 : Int32)).toUInt32.toUInt16.toUInt32.toInt32) ((p1 &&& (255 : Int32)).toUInt32.toUInt16.toUInt32.toInt32) (bA p3 (0 : Int32) (nE p2)) (bA p3 (1 : Int32) (nE p2)) (bA p3 (2 : Int32) (nE p2)) (bA p3 (3 : Int32) (nE p2)) (bA p3 (4 : Int32) (nE p2)) (bA p3 (5 : Int32) (nE p2)) (nE p2) (own_nE p2) h0 n0 O0 X6 hx hZ hby hml hown eq6 N6
  have CH7 := CH0.trans (CHr.keep Kq7 all0 CH0.1)
  have hk7 := Nat.le_trans hk0 Kq7.1
  have O7 := O0.keep Kq7 all0
  obtain ⟨T8, h8, X8, e8, E8, A8, D8, -, st8⟩ := newO X7 hx hZ hown (wq hw 7 rfl) (wq hw 8 rfl) (wq hw 9 rfl) e7 (g := (mkF m 162 #[vi p0, vi p1, vi p2, vj p3, .second, vi (nE p2), vi (fx41 p0), vi (fx41 p1), vi (fx42 p3 p2), vi (fx43 p3 p2), vi (fx44 p3 p2), vi (fx45 p3 p2), vi (fx46 p3 p2), vi (fx47 p3 p2), vr b7, uu, uu, uu, uu, uu] [])) rfl (hb hby at_162) (by decide) (by decide)
  obtain ⟨b8, g8⟩ : ∃ z, z = h7.size := ⟨_, rfl⟩
  rw [← g8] at A8 D8 st8
  have g_b8 : n0 ≤ b8 := Nat.le_trans (own_sz O7) (Nat.le_of_eq g8.symm)
  have O8 := O7.ext E8
  have CH8 := CH7.trans (CHr.ext E8 CH7.1)
  have hk8 := Nat.le_trans hk7 E8.1
  have F_algorithm_b8 : Fld Z h8 b8 "com/example/cloakfield/cloakfield/format/TaggedValue" "algorithm" "Ljava/lang/String;" .null := D8 (Or.inr (wq hw 45 rfl)) (ty := (.object "java/lang/String")) (by decide)
  have F_keyId_b8 : Fld Z h8 b8 "com/example/cloakfield/cloakfield/format/TaggedValue" "keyId" "Ljava/lang/String;" .null := D8 (Or.inr (wq hw 47 rfl)) (ty := (.object "java/lang/String")) (by decide)
  have F_payload_b8 : Fld Z h8 b8 "com/example/cloakfield/cloakfield/format/TaggedValue" "payload" "[B" .null := D8 (Or.inr (wq hw 49 rfl)) (ty := (.array .byte)) (by decide)
  obtain ⟨_, T9, Lc9, X9, hQ9, st9⟩ := cS X8 Kz y13 2 10 11 12 13 (rm31 l Z a0 hw [] w_enc w_tb cs_v cl_tb wv_fm hp ((p0 &&& (255 : Int32)).toUInt32.toUInt16.toUInt32.toInt32) h8 n0 O8 (own_ch1 p0)) e8 (mkF m 168 #[vi p0, vi p1, vi p2, vj p3, .second, vi (nE p2), vi (fx41 p0), vi (fx41 p1), vi (fx42 p3 p2), vi (fx43 p3 p2), vi (fx44 p3 p2), vi (fx45 p3 p2), vi (fx46 p3 p2), vi (fx47 p3 p2), vr b7, uu, uu, uu, uu, uu] [(.int (fx41 p0)), (.ref b8), (.ref b8)]) [(.int (fx41 p0))] [(.ref b8), (.ref b8)] pd_7 at_168
  obtain ⟨b9_0, b9_1, kc9_0, rfl, Nq9, Kq9, sq_b9_0, sq_b9_1, nq9_0, fq9_0, fq9_1, fq9_2, fq9_3, fq9_4⟩ := hQ9
  have N9 := Fr.app N7 Nq9
  have CH9 := CH8.trans (CHr.keep Kq9 all0 CH8.1)
  have hk9 := Nat.le_trans hk8 Kq9.1
  have O9 := O8.keep Kq9 all0
  obtain ⟨_, T10, Lc10, X10, hQ10, st10⟩ := cS X9 Kz y13 3 10 11 12 13 (rm31 l Z a0 hw [] w_enc w_tb cs_v cl_tb wv_fm hp ((p1 &&& (255 : Int32)).toUInt32.toUInt16.toUInt32.toInt32) T9.heap n0 O9 (own_ch1 p1)) rfl (mkF m 173 #[vi p0, vi p1, vi p2, vj p3, .second, vi (nE p2), vi (fx41 p0), vi (fx41 p1), vi (fx42 p3 p2), vi (fx43 p3 p2), vi (fx44 p3 p2), vi (fx45 p3 p2), vi (fx46 p3 p2), vi (fx47 p3 p2), vr b7, uu, uu, uu, uu, uu] [(.int (fx41 p1)), (.ref b9_0), (.ref b8), (.ref b8)]) [(.int (fx41 p1))] [(.ref b9_0), (.ref b8), (.ref b8)] pd_7 at_173
  obtain ⟨b10_0, b10_1, kc10_0, rfl, Nq10, Kq10, sq_b10_0, sq_b10_1, nq10_0, fq10_0, fq10_1, fq10_2, fq10_3, fq10_4⟩ := hQ10
  have N10 := Fr.app N9 Nq10
  have CH10 := CH9.trans (CHr.keep Kq10 all0 CH9.1)
  have hk10 := Nat.le_trans hk9 Kq10.1
  have O10 := O9.keep Kq10 all0
  obtain ⟨_, T11, Lc11, X11, hQ11, st11⟩ := sB X10 Kz y15 1 35 36 37 9 (rm33 l Z a0 hw [] w_enc w_tb cs_v cl_tb wv_fm hp b8 b9_0 b10_0 b7 T10.heap n0 O10 ((A8.keep Kq9).keep Kq10) ((F_algorithm_b8.keep Kq9 nin0).keep Kq10 nin0) ((F_keyId_b8.keep Kq9 nin0).keep Kq10 nin0) ((F_payload_b8.keep Kq9 nin0).keep Kq10 nin0) g_b8) rfl b8 (mkF m 178 #[vi p0, vi p1, vi p2, vj p3, .second, vi (nE p2), vi (fx41 p0), vi (fx41 p1), vi (fx42 p3 p2), vi (fx43 p3 p2), vi (fx44 p3 p2), vi (fx45 p3 p2), vi (fx46 p3 p2), vi (fx47 p3 p2), vr b7, uu, uu, uu, uu, uu] [(.ref b7), (.ref b10_0), (.ref b9_0), (.ref b8), (.ref b8)]) [(.ref b9_0), (.ref b10_0), (.ref b7)] [(.ref b8)] pd_9 at_178
  obtain ⟨rfl, Nq11, Kq11, fq11_0, fq11_1, fq11_2, fq11_3⟩ := hQ11
  have N11 := Fr.app N10 Nq11
  have CH11 := CH10.trans (CHr.keep Kq11 (allS (Safe.exa hZo.alike ((A8.keep Kq9).keep Kq10) (by decide) (by decide)) all0) CH10.1)
  have hk11 := Nat.le_trans hk10 Kq11.1
  have O11 := O10.keep Kq11 (allS g_b8 all0)
  have nz0 : b8 ≠ b9_0 := (Nat.ne_of_lt (Nat.lt_of_lt_of_le A8.lt sq_b9_0))
  have nz1 : b8 ≠ b9_1 := (Nat.ne_of_lt (Nat.lt_of_lt_of_le A8.lt sq_b9_1))
  have nz2 : b8 ≠ b10_0 := (Nat.ne_of_lt (Nat.lt_of_lt_of_le (A8.keep Kq9).lt sq_b10_0))
  have nz3 : b8 ≠ b10_1 := (Nat.ne_of_lt (Nat.lt_of_lt_of_le (A8.keep Kq9).lt sq_b10_1))
  have nz4 : b7 ≠ b8 := (Nat.ne_of_lt (Nat.lt_of_lt_of_le Eb7.lt (Nat.le_of_eq g8.symm)))
  have f_12 := ((((Vb7.ext E8).keep Kq9 nin0).keep Kq10 nin0).keep Kq11 (ninS nz4 nin0))
  obtain ⟨cq13, kq13, q13a, q13b, q13c⟩ := isOf hZ rfl fq11_0
  obtain ⟨_, _, ⟨T13, L13, k13, n13⟩, -, XX13, Sq13, gq13, ⟨Lc13, hQ13, l13, y13, z13, C13⟩, st13⟩ := X11.virtualBackS hx (y := y42) (z := y42) hown (mvT hZ (wq hw 50 rfl)) (mvT hZ (wq hw 51 rfl)) (notFace_of_selects (args := #[]) (mvT hZ (wq hw 53 rfl))) (mvT hZ (wq hw 53 rfl)) (mvT hZ (wq hw 52 rfl)) (by decide) (own_backC (SL := []) (W := 0) (rm75 l Z a0 hw [] w_enc w_tb cs_v cl_tb wv_fm hp b8 b9_0 b9_1 kc9_0 (nar .byte (((p0 &&& (255 : Int32)).toUInt32.toUInt16.toUInt32.toInt32).toInt8.toInt32)) b10_0 b10_1 kc10_0 (nar .byte (((p1 &&& (255 : Int32)).toUInt32.toUInt16.toUInt32.toInt32).toInt8.toInt32)) b7 kb7 (plL (nE p2) (bA p3 (0 : Int32) (nE p2)) (bA p3 (1 : Int32) (nE p2)) (bA p3 (2 : Int32) (nE p2)) (bA p3 (3 : Int32) (nE p2)) (bA p3 (4 : Int32) (nE p2)) (bA p3 (5 : Int32) (nE p2))) (nE p2) T11.heap n0 O11 fq11_1 fq11_0 ((fq9_0.keep Kq10).keep Kq11) ((fq9_2.keep Kq10 nin0).keep Kq11 (ninS (Ne.symm nz0) nin0)) ((fq9_4.keep Kq10 nin0).keep Kq11 (ninS (Ne.symm nz1) nin0)) ((fq9_1.keep Kq10 nin0).keep Kq11 (ninS (Ne.symm nz0) nin0)) ((fq9_3.keep Kq10).keep Kq11) fq11_2 (fq10_0.keep Kq11) (fq10_2.keep Kq11 (ninS (Ne.symm nz2) nin0)) (fq10_4.keep Kq11 (ninS (Ne.symm nz3) nin0)) (fq10_1.keep Kq11 (ninS (Ne.symm nz2) nin0)) (fq10_3.keep Kq11) fq11_3 f_12 ((((Eb7.ext E8).keep Kq9).keep Kq10).keep Kq11) (by rw [(own_eom4 (own_nE p2) hc1 hc2)] <;> decide : ¬ ((((eoL (nE p2)) ||| (0 : Int32)) ||| (eoL (nE p2))) < (0 : Int32))) (by rw [(own_eom4 (own_nE p2) hc1 hc2)] <;> decide : ¬ (((eoL (nE p2)) - (0 : Int32)) < (eoL (nE p2)))) (by rw [(own_eom4 (own_nE p2) hc1 hc2)] <;> decide : ¬ ((eoL (nE p2)) = (0 : Int32))) (by rw [(own_eom4 (own_nE p2) hc1 hc2)] <;> decide : ((0 : Int32) + (eoL (nE p2))) = (eoL (nE p2))) (own_nE p2) (by rw [(own_eom4 (own_nE p2) hc1 hc2)] <;> decide) (by rw [(own_eom4 (own_nE p2) hc1 hc2)] <;> decide) (own_encin (own_nE p2)) (own_eom4 (own_nE p2) hc1 hc2) (own_elm4 (own_nE p2) hc1 hc2)) hZ (wq hw 54 rfl) (wq hw 9 rfl) (by decide) (by decide) (own_EW hw) CH11.1 all0) q13a q13c (g := (mkF m 185 #[vi p0, vi p1, vi p2, vj p3, .second, vi (nE p2), vi (fx41 p0), vi (fx41 p1), vi (fx42 p3 p2), vi (fx43 p3 p2), vi (fx44 p3 p2), vi (fx45 p3 p2), vi (fx46 p3 p2), vi (fx47 p3 p2), vr b7, vr b8, uu, uu, uu, uu] [(.ref b8)])) rfl (by rw [hml]; rfl) (Steps.refl _) (argsL := []) (rest := []) (lenOf pd_32 rfl) rfl (by show 2 * 0 + _ ≤ _; exact Nat.le_of_eq rfl) (hb hby at_185) (fun _ _ => ⟨rfl, rfl, (by decide : 6 + 16 ≤ _), (by decide : 19 + 256 ≤ _)⟩)
  dsimp only [Pt.U, Pt.locs, Pt.cells, Pt.slots] at XX13 Sq13 gq13 l13 y13 z13 st13 hQ13 C13
  subst l13 y13 z13
  obtain ⟨X13, hS13, hZ13, hown13⟩ := rebS hS0 hk11 XX13 Sq13 gq13 hZ hown
  obtain ⟨b13_0, b13_1, kc13_0, rfl, Nq13, Kq13, sq_b13_0, sq_b13_1, nq13_0, fq13_0, fq13_1, fq13_2, fq13_3, fq13_4⟩ := hQ13
  have N13 := Fr.app N11 Nq13
  have CH13 := CH11.trans C13
  have hk13 : T13.heap.size ≤ T13.heap.size := Nat.le_refl _
  have O13 := O11.keep Kq13 all0
  obtain ⟨T14, h14, k14, X14, e14, E14, A14, EA14, st14⟩ := newPE X13 hx hZ13 (wq hw 248 rfl) rfl (g := (mkF m 233 #[vi p0, vi p1, vi p2, vj p3, .second, vi (nE p2), vi (fx41 p0), vi (fx41 p1), vi (fx42 p3 p2), vi (fx43 p3 p2), vi (fx44 p3 p2), vi (fx45 p3 p2), vi (fx46 p3 p2), vi (fx47 p3 p2), vr b7, vr b8, vr b13_0, vi 4, uu, uu] [(.int 19)])) rfl (hb hby at_233) rfl (by decide) (cap := 19) (by decide) (by decide) (by decide) (by decide) (ad := "[C") (by decide)
  obtain ⟨b14, g14⟩ : ∃ z, z = T13.heap.size := ⟨_, rfl⟩
  rw [← g14] at A14 EA14 st14
  have g_b14 : n0 ≤ b14 := Nat.le_trans (own_sz O13) (Nat.le_of_eq g14.symm)
  have O14 := O13.ext E14
  have CH14 := CH13.trans (CHr.ext E14 CH13.1)
  have hk14 := Nat.le_trans hk13 E14.1
  have V_b14 : Arv Z h14 b14 k14 .char (19 : Int32) [(.int 0), (.int 0), (.int 0), (.int 0), (.int 0), (.int 0), (.int 0), (.int 0), (.int 0), (.int 0), (.int 0), (.int 0), (.int 0), (.int 0), (.int 0), (.int 0), (.int 0), (.int 0), (.int 0)] (.int 0) := (Arv.new A14 (by decide)).pad (pad_rep [] (.int 0) 19)
  obtain ⟨T16, h16, X16, e16, W16, V_b14_16, st16⟩ := wC X14 ⟨hx, hby, hml, hZ13, hown13, hw⟩ e14 V_b14 (0 : Int32) 0 (mkF m 249 #[vi p0, vi p1, vi p2, vj p3, .second, vi (nE p2), vi (fx41 p0), vi (fx41 p1), vi (fx42 p3 p2), vi (fx43 p3 p2), vi (fx44 p3 p2), vi (fx45 p3 p2), vi (fx46 p3 p2), vi (fx47 p3 p2), vr b7, vr b8, vr b13_0, vi 4, vr b14, uu] [(.int 35), (.int 0), (.ref b14)]) at_249
  have N16 := Fr.snoc X16 N13 g_b14
  have O16 := O14.wr W16 g_b14
  have CH16 := CH14.trans (CHr.wr W16 (Safe.exa hZ13.alike EA14 (by decide) (by decide)) CH14.1)
  have hk16 := Nat.le_trans hk14 (Keep.of_wr W16).1
  obtain ⟨T18, h18, X18, e18, W18, V_b14_18, st18⟩ := wC X16 ⟨hx, hby, hml, hZ13, hown13, hw⟩ e16 V_b14_16 (1 : Int32) 1 (mkF m 255 #[vi p0, vi p1, vi p2, vj p3, .second, vi (nE p2), vi (fx41 p0), vi (fx41 p1), vi (fx42 p3 p2), vi (fx43 p3 p2), vi (fx44 p3 p2), vi (fx45 p3 p2), vi (fx46 p3 p2), vi (fx47 p3 p2), vr b7, vr b8, vr b13_0, vi 4, vr b14, uu] [(.int 36), (.int 1), (.ref b14)]) at_255
  have N18 := Fr.snoc X18 N16 g_b14
  have O18 := O16.wr W18 g_b14
  have CH18 := CH16.trans (CHr.wr W18 (Safe.exa hZ13.alike (EA14.wr W16) (by decide) (by decide)) CH16.1)
  have hk18 := Nat.le_trans hk16 (Keep.of_wr W18).1
  obtain ⟨T20, h20, X20, e20, W20, V_b14_20, st20⟩ := wC X18 ⟨hx, hby, hml, hZ13, hown13, hw⟩ e18 V_b14_18 (2 : Int32) 2 (mkF m 261 #[vi p0, vi p1, vi p2, vj p3, .second, vi (nE p2), vi (fx41 p0), vi (fx41 p1), vi (fx42 p3 p2), vi (fx43 p3 p2), vi (fx44 p3 p2), vi (fx45 p3 p2), vi (fx46 p3 p2), vi (fx47 p3 p2), vr b7, vr b8, vr b13_0, vi 4, vr b14, uu] [(.int 36), (.int 2), (.ref b14)]) at_261
  have N20 := Fr.snoc X20 N18 g_b14
  have O20 := O18.wr W20 g_b14
  have CH20 := CH18.trans (CHr.wr W20 (Safe.exa hZ13.alike ((EA14.wr W16).wr W18) (by decide) (by decide)) CH18.1)
  have hk20 := Nat.le_trans hk18 (Keep.of_wr W20).1
  have RV_b14_20 : Arv Z h20 b14 k14 .char (19 : Int32) [(.int 35), (.int 36), (.int 36), (.int 0), (.int 0), (.int 0), (.int 0), (.int 0), (.int 0), (.int 0), (.int 0), (.int 0), (.int 0), (.int 0), (.int 0), (.int 0), (.int 0), (.int 0), (.int 0)] (.int 0) := V_b14_20
  obtain ⟨T22, h22, X22, e22, W22, V_b14_22, st22⟩ := wC X20 ⟨hx, hby, hml, hZ13, hown13, hw⟩ e20 RV_b14_20 (3 : Int32) 3 (mkF m 267 #[vi p0, vi p1, vi p2, vj p3, .second, vi (nE p2), vi (fx41 p0), vi (fx41 p1), vi (fx42 p3 p2), vi (fx43 p3 p2), vi (fx44 p3 p2), vi (fx45 p3 p2), vi (fx46 p3 p2), vi (fx47 p3 p2), vr b7, vr b8, vr b13_0, vi 4, vr b14, uu] [(.int 35), (.int 3), (.ref b14)]) at_267
  have N22 := Fr.snoc X22 N20 g_b14
  have O22 := O20.wr W22 g_b14
  have CH22 := CH20.trans (CHr.wr W22 (Safe.exa hZ13.alike (((EA14.wr W16).wr W18).wr W20) (by decide) (by decide)) CH20.1)
  have hk22 := Nat.le_trans hk20 (Keep.of_wr W22).1
  obtain ⟨T24, h24, X24, e24, W24, V_b14_24, st24⟩ := wC X22 ⟨hx, hby, hml, hZ13, hown13, hw⟩ e22 V_b14_22 (4 : Int32) 4 (mkF m 273 #[vi p0, vi p1, vi p2, vj p3, .second, vi (nE p2), vi (fx41 p0), vi (fx41 p1), vi (fx42 p3 p2), vi (fx43 p3 p2), vi (fx44 p3 p2), vi (fx45 p3 p2), vi (fx46 p3 p2), vi (fx47 p3 p2), vr b7, vr b8, vr b13_0, vi 4, vr b14, uu] [(.int 123), (.int 4), (.ref b14)]) at_273
  have N24 := Fr.snoc X24 N22 g_b14
  have O24 := O22.wr W24 g_b14
  have CH24 := CH22.trans (CHr.wr W24 (Safe.exa hZ13.alike ((((EA14.wr W16).wr W18).wr W20).wr W22) (by decide) (by decide)) CH22.1)
  have hk24 := Nat.le_trans hk22 (Keep.of_wr W24).1
  obtain ⟨T26, h26, X26, e26, W26, V_b14_26, st26⟩ := wC X24 ⟨hx, hby, hml, hZ13, hown13, hw⟩ e24 V_b14_24 (5 : Int32) 5 (mkF m 279 #[vi p0, vi p1, vi p2, vj p3, .second, vi (nE p2), vi (fx41 p0), vi (fx41 p1), vi (fx42 p3 p2), vi (fx43 p3 p2), vi (fx44 p3 p2), vi (fx45 p3 p2), vi (fx46 p3 p2), vi (fx47 p3 p2), vr b7, vr b8, vr b13_0, vi 4, vr b14, uu] [(.int (fx41 p0)), (.int 5), (.ref b14)]) at_279
  have N26 := Fr.snoc X26 N24 g_b14
  have O26 := O24.wr W26 g_b14
  have CH26 := CH24.trans (CHr.wr W26 (Safe.exa hZ13.alike (((((EA14.wr W16).wr W18).wr W20).wr W22).wr W24) (by decide) (by decide)) CH24.1)
  have hk26 := Nat.le_trans hk24 (Keep.of_wr W26).1
  have RV_b14_26 : Arv Z h26 b14 k14 .char (19 : Int32) [(.int 35), (.int 36), (.int 36), (.int 35), (.int 123), (.int (fx52 p0)), (.int 0), (.int 0), (.int 0), (.int 0), (.int 0), (.int 0), (.int 0), (.int 0), (.int 0), (.int 0), (.int 0), (.int 0), (.int 0)] (.int 0) := V_b14_26
  obtain ⟨T28, h28, X28, e28, W28, V_b14_28, st28⟩ := wC X26 ⟨hx, hby, hml, hZ13, hown13, hw⟩ e26 RV_b14_26 (6 : Int32) 6 (mkF m 286 #[vi p0, vi p1, vi p2, vj p3, .second, vi (nE p2), vi (fx41 p0), vi (fx41 p1), vi (fx42 p3 p2), vi (fx43 p3 p2), vi (fx44 p3 p2), vi (fx45 p3 p2), vi (fx46 p3 p2), vi (fx47 p3 p2), vr b7, vr b8, vr b13_0, vi 4, vr b14, uu] [(.int 58), (.int 6), (.ref b14)]) at_286
  have N28 := Fr.snoc X28 N26 g_b14
  have O28 := O26.wr W28 g_b14
  have CH28 := CH26.trans (CHr.wr W28 (Safe.exa hZ13.alike ((((((EA14.wr W16).wr W18).wr W20).wr W22).wr W24).wr W26) (by decide) (by decide)) CH26.1)
  have hk28 := Nat.le_trans hk26 (Keep.of_wr W28).1
  obtain ⟨T30, h30, X30, e30, W30, V_b14_30, st30⟩ := wC X28 ⟨hx, hby, hml, hZ13, hown13, hw⟩ e28 V_b14_28 (7 : Int32) 7 (mkF m 293 #[vi p0, vi p1, vi p2, vj p3, .second, vi (nE p2), vi (fx41 p0), vi (fx41 p1), vi (fx42 p3 p2), vi (fx43 p3 p2), vi (fx44 p3 p2), vi (fx45 p3 p2), vi (fx46 p3 p2), vi (fx47 p3 p2), vr b7, vr b8, vr b13_0, vi 4, vr b14, uu] [(.int (fx41 p1)), (.int 7), (.ref b14)]) at_293
  have f_31 := (((((((EA14.wr W16).wr W18).wr W20).wr W22).wr W24).wr W26).wr W28)
  have N30 := Fr.snoc X30 N28 g_b14
  have O30 := O28.wr W30 g_b14
  have CH30 := CH28.trans (CHr.wr W30 (Safe.exa hZ13.alike f_31 (by decide) (by decide)) CH28.1)
  have hk30 := Nat.le_trans hk28 (Keep.of_wr W30).1
  obtain ⟨T33, h33, X33, e33, W33, V_b14_33, st33⟩ := wC X30 ⟨hx, hby, hml, hZ13, hown13, hw⟩ e30 V_b14_30 (8 : Int32) 8 (mkF m 300 #[vi p0, vi p1, vi p2, vj p3, .second, vi (nE p2), vi (fx41 p0), vi (fx41 p1), vi (fx42 p3 p2), vi (fx43 p3 p2), vi (fx44 p3 p2), vi (fx45 p3 p2), vi (fx46 p3 p2), vi (fx47 p3 p2), vr b7, vr b8, vr b13_0, vi 4, vr b14, uu] [(.int 125), (.int 8), (.ref b14)]) at_300
  have N33 := Fr.snoc X33 N30 g_b14
  have O33 := O30.wr W33 g_b14
  have CH33 := CH30.trans (CHr.wr W33 (Safe.exa hZ13.alike (f_31.wr W30) (by decide) (by decide)) CH30.1)
  have hk33 := Nat.le_trans hk30 (Keep.of_wr W33).1
  have RV_b14_33 : Arv Z h33 b14 k14 .char (19 : Int32) [(.int 35), (.int 36), (.int 36), (.int 35), (.int 123), (.int (fx52 p0)), (.int 58), (.int (fx52 p1)), (.int 125), (.int 0), (.int 0), (.int 0), (.int 0), (.int 0), (.int 0), (.int 0), (.int 0), (.int 0), (.int 0)] (.int 0) := V_b14_33
  obtain ⟨T35, h35, X35, e35, W35, V_b14_35, st35⟩ := wC X33 ⟨hx, hby, hml, hZ13, hown13, hw⟩ e33 RV_b14_33 (9 : Int32) 9 (mkF m 307 #[vi p0, vi p1, vi p2, vj p3, .second, vi (nE p2), vi (fx41 p0), vi (fx41 p1), vi (fx42 p3 p2), vi (fx43 p3 p2), vi (fx44 p3 p2), vi (fx45 p3 p2), vi (fx46 p3 p2), vi (fx47 p3 p2), vr b7, vr b8, vr b13_0, vi 4, vr b14, uu] [(.int 123), (.int 9), (.ref b14)]) at_307
  have N35 := Fr.snoc X35 N33 g_b14
  have O35 := O33.wr W35 g_b14
  have CH35 := CH33.trans (CHr.wr W35 (Safe.exa hZ13.alike ((f_31.wr W30).wr W33) (by decide) (by decide)) CH33.1)
  have hk35 := Nat.le_trans hk33 (Keep.of_wr W35).1
  obtain ⟨_, T36, Lc36, X36, hQ36, st36⟩ := cS X35 ⟨hx, hby, hml, hZ13, hown13, hw⟩ y6 5 249 209 150 210 (rm76 l Z a0 hw [] w_enc w_tb cs_v cl_tb wv_fm hp (nE p2) h35 n0 O35 (own_nh4 (own_nE p2) hc1 hc2)) e35 (mkF m 326 #[vi p0, vi p1, vi p2, vj p3, .second, vi (nE p2), vi (fx41 p0), vi (fx41 p1), vi (fx42 p3 p2), vi (fx43 p3 p2), vi (fx44 p3 p2), vi (fx45 p3 p2), vi (fx46 p3 p2), vi (fx47 p3 p2), vr b7, vr b8, vr b13_0, vi 4, vr b14, uu] [(.int 3), (.int (nE p2)), (.int (fx44 p3 p2)), (.int (fx43 p3 p2)), (.int (fx42 p3 p2)), (.int 10), (.ref b14)]) [(.int (nE p2)), (.int 3)] [(.int (fx44 p3 p2)), (.int (fx43 p3 p2)), (.int (fx42 p3 p2)), (.int 10), (.ref b14)] pd_0 at_326
  obtain ⟨rfl, Nq36, eq36⟩ := hQ36
  have N36 := Fr.app N35 Nq36
  obtain ⟨_, T37, Lc37, X37, hQ37, st37⟩ := cS X36 ⟨hx, hby, hml, hZ13, hown13, hw⟩ y9 0 250 251 3 252 (rmGRP l Z a0 hw [] w_enc w_tb cs_v cl_tb wv_fm hp b14 k14 (19 : Int32) (10 : Int32) (bA p3 (0 : Int32) (nE p2)) (bA p3 (1 : Int32) (nE p2)) (bA p3 (2 : Int32) (nE p2)) (nE p2) [(.int 35), (.int 36), (.int 36), (.int 35), (.int 123), (.int (nar .char ((p0 &&& (255 : Int32)).toUInt32.toUInt16.toUInt32.toInt32))), (.int 58), (.int (nar .char ((p1 &&& (255 : Int32)).toUInt32.toUInt16.toUInt32.toInt32))), (.int 125), (.int 123), (.int 0), (.int 0), (.int 0), (.int 0), (.int 0), (.int 0), (.int 0), (.int 0), (.int 0)] h35 n0 O35 g_b14 (((f_31.wr W30).wr W33).wr W35) V_b14_35 (by decide) (by decide) (Nat.le_of_ble_eq_true rfl) (by decide) (by decide) (Nat.le_of_ble_eq_true rfl) (by decide) (by decide) (Nat.le_of_ble_eq_true rfl) (by decide) (by decide) (Nat.le_of_ble_eq_true rfl) (Nat.le_of_ble_eq_true rfl)) eq36 (mkF m 329 #[vi p0, vi p1, vi p2, vj p3, .second, vi (nE p2), vi (fx41 p0), vi (fx41 p1), vi (fx42 p3 p2), vi (fx43 p3 p2), vi (fx44 p3 p2), vi (fx45 p3 p2), vi (fx46 p3 p2), vi (fx47 p3 p2), vr b7, vr b8, vr b13_0, vi 4, vr b14, uu] [(.int (nE p2)), (.int (fx44 p3 p2)), (.int (fx43 p3 p2)), (.int (fx42 p3 p2)), (.int 10), (.ref b14)]) [(.ref b14), (.int 10), (.int (fx42 p3 p2)), (.int (fx43 p3 p2)), (.int (fx44 p3 p2)), (.int (nE p2))] [] pd_38 at_329
  obtain ⟨rfl, Nq37, Kq37, fq37_0, fq37_1⟩ := hQ37
  have N37 := Fr.app N36 Nq37
  have CH37 := CH35.trans (CHr.keep Kq37 (allS (Safe.exa hZ13.alike (((f_31.wr W30).wr W33).wr W35) (by decide) (by decide)) all0) CH35.1)
  have hk37 := Nat.le_trans hk35 Kq37.1
  have O37 := O35.keep Kq37 (allS g_b14 all0)
  have V37_1 : Arv Z T37.heap b14 k14 .char (19 : Int32) [(.int 35), (.int 36), (.int 36), (.int 35), (.int 123), (.int (fx52 p0)), (.int 58), (.int (fx52 p1)), (.int 125), (.int 123), (.int (fx57 p2 p3)), (.int (fx58 p2 p3)), (.int (fx59 p2 p3)), (.int (fx60 p2 p3)), (.int 0), (.int 0), (.int 0), (.int 0), (.int 0)] (.int 0) := fq37_1
  obtain ⟨T39, h39, X39, e39, W39, V_b14_39, st39⟩ := wC X37 ⟨hx, hby, hml, hZ13, hown13, hw⟩ rfl V37_1 (14 : Int32) 14 (mkF m 368 #[vi p0, vi p1, vi p2, vj p3, .second, vi (nE p2), vi (fx41 p0), vi (fx41 p1), vi (fx42 p3 p2), vi (fx43 p3 p2), vi (fx44 p3 p2), vi (fx45 p3 p2), vi (fx46 p3 p2), vi (fx47 p3 p2), vr b7, vr b8, vr b13_0, vi 4, vr b14, vi 14] [(.int 125), (.int 14), (.ref b14)]) at_368
  have N39 := Fr.snoc X39 N37 g_b14
  have O39 := O37.wr W39 g_b14
  have CH39 := CH37.trans (CHr.wr W39 (Safe.exa hZ13.alike fq37_0 (by decide) (by decide)) CH37.1)
  have hk39 := Nat.le_trans hk37 (Keep.of_wr W39).1
  obtain ⟨T41, h41, X41, e41, W41, V_b14_41, st41⟩ := wC X39 ⟨hx, hby, hml, hZ13, hown13, hw⟩ e39 V_b14_39 (15 : Int32) 15 (mkF m 377 #[vi p0, vi p1, vi p2, vj p3, .second, vi (nE p2), vi (fx41 p0), vi (fx41 p1), vi (fx42 p3 p2), vi (fx43 p3 p2), vi (fx44 p3 p2), vi (fx45 p3 p2), vi (fx46 p3 p2), vi (fx47 p3 p2), vr b7, vr b8, vr b13_0, vi 4, vr b14, vi 14] [(.int 35), (.int 15), (.ref b14)]) at_377
  have N41 := Fr.snoc X41 N39 g_b14
  have O41 := O39.wr W41 g_b14
  have CH41 := CH39.trans (CHr.wr W41 (Safe.exa hZ13.alike (fq37_0.wr W39) (by decide) (by decide)) CH39.1)
  have hk41 := Nat.le_trans hk39 (Keep.of_wr W41).1
  have RV_b14_41 : Arv Z h41 b14 k14 .char (19 : Int32) [(.int 35), (.int 36), (.int 36), (.int 35), (.int 123), (.int (fx52 p0)), (.int 58), (.int (fx52 p1)), (.int 125), (.int 123), (.int (fx57 p2 p3)), (.int (fx58 p2 p3)), (.int (fx59 p2 p3)), (.int (fx60 p2 p3)), (.int 125), (.int 35), (.int 0), (.int 0), (.int 0)] (.int 0) := V_b14_41
  obtain ⟨T43, h43, X43, e43, W43, V_b14_43, st43⟩ := wC X41 ⟨hx, hby, hml, hZ13, hown13, hw⟩ e41 RV_b14_41 (16 : Int32) 16 (mkF m 386 #[vi p0, vi p1, vi p2, vj p3, .second, vi (nE p2), vi (fx41 p0), vi (fx41 p1), vi (fx42 p3 p2), vi (fx43 p3 p2), vi (fx44 p3 p2), vi (fx45 p3 p2), vi (fx46 p3 p2), vi (fx47 p3 p2), vr b7, vr b8, vr b13_0, vi 4, vr b14, vi 14] [(.int 36), (.int 16), (.ref b14)]) at_386
  have N43 := Fr.snoc X43 N41 g_b14
  have O43 := O41.wr W43 g_b14
  have CH43 := CH41.trans (CHr.wr W43 (Safe.exa hZ13.alike ((fq37_0.wr W39).wr W41) (by decide) (by decide)) CH41.1)
  have hk43 := Nat.le_trans hk41 (Keep.of_wr W43).1
  obtain ⟨T45, h45, X45, e45, W45, V_b14_45, st45⟩ := wC X43 ⟨hx, hby, hml, hZ13, hown13, hw⟩ e43 V_b14_43 (17 : Int32) 17 (mkF m 395 #[vi p0, vi p1, vi p2, vj p3, .second, vi (nE p2), vi (fx41 p0), vi (fx41 p1), vi (fx42 p3 p2), vi (fx43 p3 p2), vi (fx44 p3 p2), vi (fx45 p3 p2), vi (fx46 p3 p2), vi (fx47 p3 p2), vr b7, vr b8, vr b13_0, vi 4, vr b14, vi 14] [(.int 36), (.int 17), (.ref b14)]) at_395
  have N45 := Fr.snoc X45 N43 g_b14
  have O45 := O43.wr W45 g_b14
  have CH45 := CH43.trans (CHr.wr W45 (Safe.exa hZ13.alike (((fq37_0.wr W39).wr W41).wr W43) (by decide) (by decide)) CH43.1)
  have hk45 := Nat.le_trans hk43 (Keep.of_wr W45).1
  obtain ⟨T47, h47, X47, e47, W47, V_b14_47, st47⟩ := wC X45 ⟨hx, hby, hml, hZ13, hown13, hw⟩ e45 V_b14_45 (18 : Int32) 18 (mkF m 404 #[vi p0, vi p1, vi p2, vj p3, .second, vi (nE p2), vi (fx41 p0), vi (fx41 p1), vi (fx42 p3 p2), vi (fx43 p3 p2), vi (fx44 p3 p2), vi (fx45 p3 p2), vi (fx46 p3 p2), vi (fx47 p3 p2), vr b7, vr b8, vr b13_0, vi 4, vr b14, vi 14] [(.int 35), (.int 18), (.ref b14)]) at_404
  have N47 := Fr.snoc X47 N45 g_b14
  have O47 := O45.wr W47 g_b14
  have CH47 := CH45.trans (CHr.wr W47 (Safe.exa hZ13.alike ((((fq37_0.wr W39).wr W41).wr W43).wr W45) (by decide) (by decide)) CH45.1)
  have hk47 := Nat.le_trans hk45 (Keep.of_wr W47).1
  have RV_b14_47 : Arv Z h47 b14 k14 .char (19 : Int32) [(.int 35), (.int 36), (.int 36), (.int 35), (.int 123), (.int (fx52 p0)), (.int 58), (.int (fx52 p1)), (.int 125), (.int 123), (.int (fx57 p2 p3)), (.int (fx58 p2 p3)), (.int (fx59 p2 p3)), (.int (fx60 p2 p3)), (.int 125), (.int 35), (.int 36), (.int 36), (.int 35)] (.int 0) := V_b14_47
  obtain ⟨T48, h48, X48, e48, E48, A48, D48, -, st48⟩ := newO X47 hx hZ13 hown13 (wq hw 256 rfl) (wq hw 20 rfl) (wq hw 12 rfl) e47 (g := (mkF m 407 #[vi p0, vi p1, vi p2, vj p3, .second, vi (nE p2), vi (fx41 p0), vi (fx41 p1), vi (fx42 p3 p2), vi (fx43 p3 p2), vi (fx44 p3 p2), vi (fx45 p3 p2), vi (fx46 p3 p2), vi (fx47 p3 p2), vr b7, vr b8, vr b13_0, vi 4, vr b14, vi 14] [(.ref b13_0)])) rfl (hb hby at_407) (by decide) (by decide)
  obtain ⟨b48, g48⟩ : ∃ z, z = h47.size := ⟨_, rfl⟩
  rw [← g48] at A48 D48 st48
  have g_b48 : n0 ≤ b48 := Nat.le_trans (own_sz O47) (Nat.le_of_eq g48.symm)
  have O48 := O47.ext E48
  have CH48 := CH47.trans (CHr.ext E48 CH47.1)
  have hk48 := Nat.le_trans hk47 E48.1
  have F_value_b48 : Fld Z h48 b48 "java/lang/String" "value" "[B" .null := D48 (Or.inr (wq hw 32 rfl)) (ty := (.array .byte)) (by decide)
  have F_coder_b48 : Fld Z h48 b48 "java/lang/String" "coder" "B" (.int 0) := D48 (Or.inr (wq hw 34 rfl)) (ty := .byte) (by decide)
  obtain ⟨_, T49, Lc49, X49, hQ49, st49⟩ := nB X48 ⟨hx, hby, hml, hZ13, hown13, hw⟩ 2 257 258 259 (StrChars.Road.backV (W := 2) hZ13 (own_hws hw) (kI := 4) (wq hw 20 rfl) (cs := [(35 : Int32), (36 : Int32), (36 : Int32), (35 : Int32), (123 : Int32), (nar .char ((p0 &&& (255 : Int32)).toUInt32.toUInt16.toUInt32.toInt32)), (58 : Int32), (nar .char ((p1 &&& (255 : Int32)).toUInt32.toUInt16.toUInt32.toInt32)), (125 : Int32), (123 : Int32), (gx0 (nE p2) (bA p3 (0 : Int32) (nE p2)) (bA p3 (1 : Int32) (nE p2)) (bA p3 (2 : Int32) (nE p2))), (gx1 (nE p2) (bA p3 (0 : Int32) (nE p2)) (bA p3 (1 : Int32) (nE p2)) (bA p3 (2 : Int32) (nE p2))), (gx2 (nE p2) (bA p3 (0 : Int32) (nE p2)) (bA p3 (1 : Int32) (nE p2)) (bA p3 (2 : Int32) (nE p2))), (gx3 (nE p2) (bA p3 (0 : Int32) (nE p2)) (bA p3 (1 : Int32) (nE p2)) (bA p3 (2 : Int32) (nE p2))), (125 : Int32), (35 : Int32), (36 : Int32), (36 : Int32), (35 : Int32)]) (n := 19) g_b48 (own_sz O48) A48 F_value_b48 F_coder_b48 (RV_b14_47.ext E48) (S_COMPACT_STRINGS.ext O48.2) h_cs rfl rfl (by decide) (by decide) (all2c ⟨by decide, by decide⟩ (all2c ⟨by decide, by decide⟩ (all2c ⟨by decide, by decide⟩ (all2c ⟨by decide, by decide⟩ (all2c ⟨by decide, by decide⟩ (all2c (own_cac p0) (all2c ⟨by decide, by decide⟩ (all2c (own_cac p1) (all2c ⟨by decide, by decide⟩ (all2c ⟨by decide, by decide⟩ (all2c (own_gx0b (nE p2) (bA p3 (0 : Int32) (nE p2)) (bA p3 (1 : Int32) (nE p2)) (bA p3 (2 : Int32) (nE p2))) (all2c (own_gx1b (nE p2) (bA p3 (0 : Int32) (nE p2)) (bA p3 (1 : Int32) (nE p2)) (bA p3 (2 : Int32) (nE p2))) (all2c (own_gx2b (nE p2) (bA p3 (0 : Int32) (nE p2)) (bA p3 (1 : Int32) (nE p2)) (bA p3 (2 : Int32) (nE p2))) (all2c (own_gx3b (nE p2) (bA p3 (0 : Int32) (nE p2)) (bA p3 (1 : Int32) (nE p2)) (bA p3 (2 : Int32) (nE p2))) (all2c ⟨by decide, by decide⟩ (all2c ⟨by decide, by decide⟩ (all2c ⟨by decide, by decide⟩ (all2c ⟨by decide, by decide⟩ (all2c ⟨by decide, by decide⟩ all2n))))))))))))))))))) rfl (by decide) (by decide)) e48 (mkF m 413 #[vi p0, vi p1, vi p2, vj p3, .second, vi (nE p2), vi (fx41 p0), vi (fx41 p1), vi (fx42 p3 p2), vi (fx43 p3 p2), vi (fx44 p3 p2), vi (fx45 p3 p2), vi (fx46 p3 p2), vi (fx47 p3 p2), vr b7, vr b8, vr b13_0, vi 4, vr b14, vi 14] [(.ref b14), (.ref b48), (.ref b48), (.ref b13_0)]) [(.ref b14)] [(.ref b48), (.ref b13_0)] pd_33 at_413
  replace hQ49 := own_qv hQ49
  obtain ⟨b49_0, kc49_0, rfl, Nq49, Kq49, sq_b49_0, fq49_0, fq49_1, fq49_2, fq49_3⟩ := hQ49
  have N49 := Fr.app N47 Nq49
  have sf_50 := (Safe.ext E48 CH47.1 (Safe.new (Nat.le_of_eq g48.symm)))
  have CH49 := CH48.trans (CHr.keep Kq49 (allS sf_50 all0) CH48.1)
  have hk49 := Nat.le_trans hk48 Kq49.1
  have O49 := O48.keep Kq49 (allS g_b48 all0)
  have f_51 := (((((((((((((((((((fq13_0.ext E14).wr W16).wr W18).wr W20).wr W22).wr W24).wr W26).wr W28).wr W30).wr W33).wr W35).keep Kq37).wr W39).wr W41).wr W43).wr W45).wr W47).ext E48).keep Kq49)
  have nz5 : b13_0 ≠ b48 := (Nat.ne_of_lt (Nat.lt_of_lt_of_le (((((((((((((((((fq13_0.ext E14).wr W16).wr W18).wr W20).wr W22).wr W24).wr W26).wr W28).wr W30).wr W33).wr W35).keep Kq37).wr W39).wr W41).wr W43).wr W45).wr W47).lt (Nat.le_of_eq g48.symm)))
  have nz6 : b13_0 ≠ b14 := (Nat.ne_of_lt (Nat.lt_of_lt_of_le fq13_0.lt (Nat.le_of_eq g14.symm)))
  have f_52 := (((((((((((((((((((fq13_1.ext E14).other W16 (Or.inl nz6)).other W18 (Or.inl nz6)).other W20 (Or.inl nz6)).other W22 (Or.inl nz6)).other W24 (Or.inl nz6)).other W26 (Or.inl nz6)).other W28 (Or.inl nz6)).other W30 (Or.inl nz6)).other W33 (Or.inl nz6)).other W35 (Or.inl nz6)).keep Kq37 (ninS nz6 nin0)).other W39 (Or.inl nz6)).other W41 (Or.inl nz6)).other W43 (Or.inl nz6)).other W45 (Or.inl nz6)).other W47 (Or.inl nz6)).ext E48).keep Kq49 (ninS nz5 nin0))
  have f_53 := (((((((((((((((((((fq13_2.ext E14).other W16 (Or.inl nz6)).other W18 (Or.inl nz6)).other W20 (Or.inl nz6)).other W22 (Or.inl nz6)).other W24 (Or.inl nz6)).other W26 (Or.inl nz6)).other W28 (Or.inl nz6)).other W30 (Or.inl nz6)).other W33 (Or.inl nz6)).other W35 (Or.inl nz6)).keep Kq37 (ninS nz6 nin0)).other W39 (Or.inl nz6)).other W41 (Or.inl nz6)).other W43 (Or.inl nz6)).other W45 (Or.inl nz6)).other W47 (Or.inl nz6)).ext E48).keep Kq49 (ninS nz5 nin0))
  have nz7 : b13_1 ≠ b14 := (Nat.ne_of_lt (Nat.lt_of_lt_of_le fq13_3.lt (Nat.le_of_eq g14.symm)))
  have nz8 : b13_1 ≠ b48 := (Nat.ne_of_lt (Nat.lt_of_lt_of_le (((((((((((((((((fq13_3.ext E14).wr W16).wr W18).wr W20).wr W22).wr W24).wr W26).wr W28).wr W30).wr W33).wr W35).keep Kq37).wr W39).wr W41).wr W43).wr W45).wr W47).lt (Nat.le_of_eq g48.symm)))
  have f_54 := (((((((((((((((((((fq13_4.ext E14).other W16 nz7).other W18 nz7).other W20 nz7).other W22 nz7).other W24 nz7).other W26 nz7).other W28 nz7).other W30 nz7).other W33 nz7).other W35 nz7).keep Kq37 (ninS nz7 nin0)).other W39 nz7).other W41 nz7).other W43 nz7).other W45 nz7).other W47 nz7).ext E48).keep Kq49 (ninS nz8 nin0))
  obtain ⟨_, T55, Lc55, X55, hQ55, st55⟩ := vS X49 ⟨hx, hby, hml, hZ13, hown13, hw⟩ y43 0 273 274 276 275 277 12 (rm62 l Z a0 hw [] w_enc w_tb cs_v cl_tb wv_fm hp b13_0 b48 b13_1 b49_0 kc13_0 [(.int 35), (.int 36), (.int 36), (.int 35), (.int 123), (.int (nar .byte (((p0 &&& (255 : Int32)).toUInt32.toUInt16.toUInt32.toInt32).toInt8.toInt32))), (.int 58), (.int (nar .byte (((p1 &&& (255 : Int32)).toUInt32.toUInt16.toUInt32.toInt32).toInt8.toInt32))), (.int 125), (.int 123), (.int (eb 0 (plL (nE p2) (bA p3 (0 : Int32) (nE p2)) (bA p3 (1 : Int32) (nE p2)) (bA p3 (2 : Int32) (nE p2)) (bA p3 (3 : Int32) (nE p2)) (bA p3 (4 : Int32) (nE p2)) (bA p3 (5 : Int32) (nE p2))))), (.int (eb 1 (plL (nE p2) (bA p3 (0 : Int32) (nE p2)) (bA p3 (1 : Int32) (nE p2)) (bA p3 (2 : Int32) (nE p2)) (bA p3 (3 : Int32) (nE p2)) (bA p3 (4 : Int32) (nE p2)) (bA p3 (5 : Int32) (nE p2))))), (.int (eb 2 (plL (nE p2) (bA p3 (0 : Int32) (nE p2)) (bA p3 (1 : Int32) (nE p2)) (bA p3 (2 : Int32) (nE p2)) (bA p3 (3 : Int32) (nE p2)) (bA p3 (4 : Int32) (nE p2)) (bA p3 (5 : Int32) (nE p2))))), (.int (eb 3 (plL (nE p2) (bA p3 (0 : Int32) (nE p2)) (bA p3 (1 : Int32) (nE p2)) (bA p3 (2 : Int32) (nE p2)) (bA p3 (3 : Int32) (nE p2)) (bA p3 (4 : Int32) (nE p2)) (bA p3 (5 : Int32) (nE p2))))), (.int 125), (.int 35), (.int 36), (.int 36), (.int 35)] ((19 : Int32) - (0 : Int32)) kc49_0 [(.int 35), (.int 36), (.int 36), (.int 35), (.int 123), (.int ((nar .char ((p0 &&& (255 : Int32)).toUInt32.toUInt16.toUInt32.toInt32)).toInt8.toInt32)), (.int 58), (.int ((nar .char ((p1 &&& (255 : Int32)).toUInt32.toUInt16.toUInt32.toInt32)).toInt8.toInt32)), (.int 125), (.int 123), (.int ((gx0 (nE p2) (bA p3 (0 : Int32) (nE p2)) (bA p3 (1 : Int32) (nE p2)) (bA p3 (2 : Int32) (nE p2))).toInt8.toInt32)), (.int ((gx1 (nE p2) (bA p3 (0 : Int32) (nE p2)) (bA p3 (1 : Int32) (nE p2)) (bA p3 (2 : Int32) (nE p2))).toInt8.toInt32)), (.int ((gx2 (nE p2) (bA p3 (0 : Int32) (nE p2)) (bA p3 (1 : Int32) (nE p2)) (bA p3 (2 : Int32) (nE p2))).toInt8.toInt32)), (.int ((gx3 (nE p2) (bA p3 (0 : Int32) (nE p2)) (bA p3 (1 : Int32) (nE p2)) (bA p3 (2 : Int32) (nE p2))).toInt8.toInt32)), (.int 125), (.int 35), (.int 36), (.int 36), (.int 35)] (19 : Int32) T49.heap n0 O49 nz5 fq49_0 f_52 fq49_1 f_53 fq49_2 f_54 fq49_3 (own_cons rfl (own_cons rfl (own_cons rfl (own_cons rfl (own_cons rfl (own_cons (own_cab p0) (own_cons rfl (own_cons (own_cab p1) (own_cons rfl (own_cons rfl (own_cons (own_q4_0 (own_nE p2) hc1 hc2 (own_vok p2 p3)) (own_cons (own_q4_1 (own_nE p2) hc1 hc2 (own_vok p2 p3)) (own_cons (own_q4_2 (own_nE p2) hc1 hc2 (own_vok p2 p3)) (own_cons (own_q4_3 (own_nE p2) hc1 hc2 (own_vok p2 p3)) (own_cons rfl (own_cons rfl (own_cons rfl (own_cons rfl (own_cons rfl rfl))))))))))))))))))) (by decide)) rfl f_51 (mkF m 416 #[vi p0, vi p1, vi p2, vj p3, .second, vi (nE p2), vi (fx41 p0), vi (fx41 p1), vi (fx42 p3 p2), vi (fx43 p3 p2), vi (fx44 p3 p2), vi (fx45 p3 p2), vi (fx46 p3 p2), vi (fx47 p3 p2), vr b7, vr b8, vr b13_0, vi 4, vr b14, vi 14] [(.ref b48), (.ref b13_0)]) [(.ref b48)] [] pd_35 at_416
  obtain ⟨rfl, Nq55, eq55⟩ := hQ55
  have N55 := Fr.app N49 Nq55
  obtain ⟨fs, hr, hrun, hended, hE⟩ := Stand.leaveW (s := s) X55 hS13 (by rw [eq55]; exact hk49) (v := some (.int 1)) (fun h => by rw [Bd.returns] at h; cases h)
  refine ⟨_, _, castTop (ef_0_0 m p0 p1 p2 p3) ?_, hrun, hended, _, _, rfl, ?_, hE.1, hE.2.1, hE.2.2.1, hE.2.2.2.mono (by decide) (by decide)⟩
  · show Sp p e below s₁ (mkF m 0 #[vi p0, vi p1, vi p2, vj p3, .second, uu, uu, uu, uu, uu, uu, uu, uu, uu, uu, uu, uu, uu, uu, uu] []) _
    refine iln X0 qz at_0 ?_
    refine X0.ldcI hx hown (mvT hZ (wq hw 0 rfl)) rfl (hb hby at_1) ?_
    refine wiand X0 qz at_3 ?_
    refine bp X0 qz at_4 ?_
    refine iremM X0 hx rfl (hb hby at_6) rfl (by decide) ?_
    refine st X0 qz at_7 #[vi p0, vi p1, vi p2, vj p3, .second, vi (fx40 p2), uu, uu, uu, uu, uu, uu, uu, uu, uu, uu, uu, uu, uu, uu] ?_
    show Sp p e below s₁ (mkF m 9 #[vi p0, vi p1, vi p2, vj p3, .second, vi (fx40 p2), uu, uu, uu, uu, uu, uu, uu, uu, uu, uu, uu, uu, uu, uu] []) _
    show Sp p e below s₁ (mkF m 9 #[vi p0, vi p1, vi p2, vj p3, .second, vi (nE p2), uu, uu, uu, uu, uu, uu, uu, uu, uu, uu, uu, uu, uu, uu] []) _
    refine iln X0 qz at_9 ?_
    refine sp X0 qz at_10 ?_
    refine wiand X0 qz at_13 ?_
    refine XS.i2c X0.here hx rfl (hb hby at_14) rfl ?_
    refine st X0 qz at_15 #[vi p0, vi p1, vi p2, vj p3, .second, vi (nE p2), vi (fx41 p0), uu, uu, uu, uu, uu, uu, uu, uu, uu, uu, uu, uu, uu] ?_
    refine iln X0 qz at_17 ?_
    refine sp X0 qz at_18 ?_
    refine wiand X0 qz at_21 ?_
    refine XS.i2c X0.here hx rfl (hb hby at_22) rfl ?_
    refine st X0 qz at_23 #[vi p0, vi p1, vi p2, vj p3, .second, vi (nE p2), vi (fx41 p0), vi (fx41 p1), uu, uu, uu, uu, uu, uu, uu, uu, uu, uu, uu, uu] ?_
    refine XS.lloadN X0.here hx rfl (hb hby at_25) rfl ?_
    refine ic X0 qz at_26 ?_
    refine il X0 qz at_27 ?_
    refine st1 _ ?_
    refine st X1 qz at_32 #[vi p0, vi p1, vi p2, vj p3, .second, vi (nE p2), vi (fx41 p0), vi (fx41 p1), vi (fx42 p3 p2), uu, uu, uu, uu, uu, uu, uu, uu, uu, uu, uu] ?_
    refine XS.lloadN X1.here hx rfl (hb hby at_34) rfl ?_
    show Sp p e below T1 (mkF m 35 #[vi p0, vi p1, vi p2, vj p3, .second, vi (nE p2), vi (fx41 p0), vi (fx41 p1), vi (fx42 p3 p2), uu, uu, uu, uu, uu, uu, uu, uu, uu, uu, uu] [(.long p3)]) _
    refine ic X1 qz at_35 ?_
    refine il X1 qz at_36 ?_
    refine st2 _ ?_
    refine st X2 qz at_41 #[vi p0, vi p1, vi p2, vj p3, .second, vi (nE p2), vi (fx41 p0), vi (fx41 p1), vi (fx42 p3 p2), vi (fx43 p3 p2), uu, uu, uu, uu, uu, uu, uu, uu, uu, uu] ?_
    refine XS.lloadN X2.here hx rfl (hb hby at_43) rfl ?_
    refine ic X2 qz at_44 ?_
    refine il X2 qz at_45 ?_
    refine st3 _ ?_
    refine st X3 qz at_50 #[vi p0, vi p1, vi p2, vj p3, .second, vi (nE p2), vi (fx41 p0), vi (fx41 p1), vi (fx42 p3 p2), vi (fx43 p3 p2), vi (fx44 p3 p2), uu, uu, uu, uu, uu, uu, uu, uu, uu] ?_
    refine XS.lloadN X3.here hx rfl (hb hby at_52) rfl ?_
    refine ic X3 qz at_53 ?_
    refine il X3 qz at_54 ?_
    refine st4 _ ?_
    refine st X4 qz at_59 #[vi p0, vi p1, vi p2, vj p3, .second, vi (nE p2), vi (fx41 p0), vi (fx41 p1), vi (fx42 p3 p2), vi (fx43 p3 p2), vi (fx44 p3 p2), vi (fx45 p3 p2), uu, uu, uu, uu, uu, uu, uu, uu] ?_
    refine XS.lloadN X4.here hx rfl (hb hby at_61) rfl ?_
    refine ic X4 qz at_62 ?_
    show Sp p e below T4 (mkF m 63 #[vi p0, vi p1, vi p2, vj p3, .second, vi (nE p2), vi (fx41 p0), vi (fx41 p1), vi (fx42 p3 p2), vi (fx43 p3 p2), vi (fx44 p3 p2), vi (fx45 p3 p2), uu, uu, uu, uu, uu, uu, uu, uu] [(.int 4), (.long p3)]) _
    refine il X4 qz at_63 ?_
    refine st5 _ ?_
    refine st X5 qz at_68 #[vi p0, vi p1, vi p2, vj p3, .second, vi (nE p2), vi (fx41 p0), vi (fx41 p1), vi (fx42 p3 p2), vi (fx43 p3 p2), vi (fx44 p3 p2), vi (fx45 p3 p2), vi (fx46 p3 p2), uu, uu, uu, uu, uu, uu, uu] ?_
    refine XS.lloadN X5.here hx rfl (hb hby at_70) rfl ?_
    refine ic X5 qz at_71 ?_
    refine il X5 qz at_72 ?_
    refine st6 _ ?_
    refine st X6 qz at_77 #[vi p0, vi p1, vi p2, vj p3, .second, vi (nE p2), vi (fx41 p0), vi (fx41 p1), vi (fx42 p3 p2), vi (fx43 p3 p2), vi (fx44 p3 p2), vi (fx45 p3 p2), vi (fx46 p3 p2), vi (fx47 p3 p2), uu, uu, uu, uu, uu, uu] ?_
    show Sp p e below T6 (mkF m 79 #[vi p0, vi p1, vi p2, vj p3, .second, vi (nE p2), vi (fx41 p0), vi (fx41 p1), vi (fx42 p3 p2), vi (fx43 p3 p2), vi (fx44 p3 p2), vi (fx45 p3 p2), vi (fx46 p3 p2), vi (fx47 p3 p2), uu, uu, uu, uu, uu, uu] []) _
    refine st7 _ ?_
    refine st8 _ ?_
    refine XS.dup X8.here hx rfl (hb hby at_165) rfl rfl ?_
    refine il X8 qz at_166 ?_
    refine st9 _ ?_
    refine il X9 qz at_171 ?_
    refine st10 _ ?_
    refine al X10 qz at_176 ?_
    refine st11.trans ?_
    refine sta X11 qz at_181 #[vi p0, vi p1, vi p2, vj p3, .second, vi (nE p2), vi (fx41 p0), vi (fx41 p1), vi (fx42 p3 p2), vi (fx43 p3 p2), vi (fx44 p3 p2), vi (fx45 p3 p2), vi (fx46 p3 p2), vi (fx47 p3 p2), vr b7, vr b8, uu, uu, uu, uu] ?_
    refine al X11 qz at_183 ?_
    refine st13.trans ?_
    refine sta X13 qz at_188 #[vi p0, vi p1, vi p2, vj p3, .second, vi (nE p2), vi (fx41 p0), vi (fx41 p1), vi (fx42 p3 p2), vi (fx43 p3 p2), vi (fx44 p3 p2), vi (fx45 p3 p2), vi (fx46 p3 p2), vi (fx47 p3 p2), vr b7, vr b8, vr b13_0, uu, uu, uu] ?_
    refine il X13 qz at_190 ?_
    refine ifY X13 qz 192 199 at_192 (feq (own_nh3 (own_nE p2) hc1 hc2)).2 ?_
    refine il X13 qz at_199 ?_
    show Sp p e below T13 (mkF m 201 #[vi p0, vi p1, vi p2, vj p3, .second, vi (nE p2), vi (fx41 p0), vi (fx41 p1), vi (fx42 p3 p2), vi (fx43 p3 p2), vi (fx44 p3 p2), vi (fx45 p3 p2), vi (fx46 p3 p2), vi (fx47 p3 p2), vr b7, vr b8, vr b13_0, uu, uu, uu] [(.int (nE p2))]) _
    refine ic X13 qz at_201 ?_
    refine icN X13 qz at_202 (flt (own_nh4 (own_nE p2) hc1 hc2)).2.2.1 ?_
    refine ic X13 qz at_205 ?_
    refine gt X13 qz 206 211 at_206 ?_
    refine st X13 qz at_211 #[vi p0, vi p1, vi p2, vj p3, .second, vi (nE p2), vi (fx41 p0), vi (fx41 p1), vi (fx42 p3 p2), vi (fx43 p3 p2), vi (fx44 p3 p2), vi (fx45 p3 p2), vi (fx46 p3 p2), vi (fx47 p3 p2), vr b7, vr b8, vr b13_0, vi 4, uu, uu] ?_
    refine il X13 qz at_213 ?_
    refine ifY X13 qz 215 225 at_215 (feq (by decide : ¬ ((4 : Int32) = (0 : Int32)))).2 ?_
    refine il X13 qz at_225 ?_
    refine ic X13 qz at_227 ?_
    refine icN X13 qz at_228 (teq (by decide : (4 : Int32) = (4 : Int32))).2 ?_
    refine bp X13 qz at_231 ?_
    refine st14 _ ?_
    refine gt X14 qz 235 242 at_235 ?_
    refine sta X14 qz at_242 #[vi p0, vi p1, vi p2, vj p3, .second, vi (nE p2), vi (fx41 p0), vi (fx41 p1), vi (fx42 p3 p2), vi (fx43 p3 p2), vi (fx44 p3 p2), vi (fx45 p3 p2), vi (fx46 p3 p2), vi (fx47 p3 p2), vr b7, vr b8, vr b13_0, vi 4, vr b14, uu] ?_
    refine al X14 qz at_244 ?_
    refine ic X14 qz at_246 ?_
    show Sp p e below T14 (mkF m 247 #[vi p0, vi p1, vi p2, vj p3, .second, vi (nE p2), vi (fx41 p0), vi (fx41 p1), vi (fx42 p3 p2), vi (fx43 p3 p2), vi (fx44 p3 p2), vi (fx45 p3 p2), vi (fx46 p3 p2), vi (fx47 p3 p2), vr b7, vr b8, vr b13_0, vi 4, vr b14, uu] [(.int 0), (.ref b14)]) _
    refine bp X14 qz at_247 ?_
    refine st16 _ ?_
    refine al X16 qz at_250 ?_
    refine ic X16 qz at_252 ?_
    refine bp X16 qz at_253 ?_
    refine st18 _ ?_
    refine al X18 qz at_256 ?_
    refine ic X18 qz at_258 ?_
    refine bp X18 qz at_259 ?_
    refine st20 _ ?_
    refine al X20 qz at_262 ?_
    refine ic X20 qz at_264 ?_
    refine bp X20 qz at_265 ?_
    refine st22 _ ?_
    refine al X22 qz at_268 ?_
    refine ic X22 qz at_270 ?_
    show Sp p e below T22 (mkF m 271 #[vi p0, vi p1, vi p2, vj p3, .second, vi (nE p2), vi (fx41 p0), vi (fx41 p1), vi (fx42 p3 p2), vi (fx43 p3 p2), vi (fx44 p3 p2), vi (fx45 p3 p2), vi (fx46 p3 p2), vi (fx47 p3 p2), vr b7, vr b8, vr b13_0, vi 4, vr b14, uu] [(.int 4), (.ref b14)]) _
    refine bp X22 qz at_271 ?_
    refine st24 _ ?_
    refine al X24 qz at_274 ?_
    refine ic X24 qz at_276 ?_
    refine il X24 qz at_277 ?_
    refine st26 _ ?_
    refine al X26 qz at_280 ?_
    refine bp X26 qz at_282 ?_
    refine bp X26 qz at_284 ?_
    refine st28 _ ?_
    refine al X28 qz at_287 ?_
    refine bp X28 qz at_289 ?_
    refine il X28 qz at_291 ?_
    refine st30 _ ?_
    refine al X30 qz at_294 ?_
    refine bp X30 qz at_296 ?_
    show Sp p e below T30 (mkF m 298 #[vi p0, vi p1, vi p2, vj p3, .second, vi (nE p2), vi (fx41 p0), vi (fx41 p1), vi (fx42 p3 p2), vi (fx43 p3 p2), vi (fx44 p3 p2), vi (fx45 p3 p2), vi (fx46 p3 p2), vi (fx47 p3 p2), vr b7, vr b8, vr b13_0, vi 4, vr b14, uu] [(.int 8), (.ref b14)]) _
    refine bp X30 qz at_298 ?_
    refine st33 _ ?_
    refine al X33 qz at_301 ?_
    refine bp X33 qz at_303 ?_
    refine bp X33 qz at_305 ?_
    refine st35 _ ?_
    refine il X35 qz at_308 ?_
    refine ifN X35 qz at_310 (tlt (own_nh5 (own_nE p2) hc1 hc2)).2.2.2 ?_
    refine al X35 qz at_313 ?_
    refine bp X35 qz at_315 ?_
    refine il X35 qz at_317 ?_
    refine il X35 qz at_319 ?_
    refine il X35 qz at_321 ?_
    refine il X35 qz at_323 ?_
    refine ic X35 qz at_325 ?_
    refine st36 _ ?_
    show Sp p e below T36 (mkF m 329 #[vi p0, vi p1, vi p2, vj p3, .second, vi (nE p2), vi (fx41 p0), vi (fx41 p1), vi (fx42 p3 p2), vi (fx43 p3 p2), vi (fx44 p3 p2), vi (fx45 p3 p2), vi (fx46 p3 p2), vi (fx47 p3 p2), vr b7, vr b8, vr b13_0, vi 4, vr b14, uu] [(.int (nE p2)), (.int (fx44 p3 p2)), (.int (fx43 p3 p2)), (.int (fx42 p3 p2)), (.int 10), (.ref b14)]) _
    refine st37 _ ?_
    refine il X37 qz at_332 ?_
    refine ic X37 qz at_334 ?_
    refine icY X37 qz 335 355 at_335 (flt (own_nh4 (own_nE p2) hc1 hc2)).2.2.2 ?_
    refine bp X37 qz at_355 ?_
    refine il X37 qz at_357 ?_
    refine wia X37 qz at_359 ?_
    refine stk (y := (.int 14)) rfl ?_
    refine st X37 qz at_360 #[vi p0, vi p1, vi p2, vj p3, .second, vi (nE p2), vi (fx41 p0), vi (fx41 p1), vi (fx42 p3 p2), vi (fx43 p3 p2), vi (fx44 p3 p2), vi (fx45 p3 p2), vi (fx46 p3 p2), vi (fx47 p3 p2), vr b7, vr b8, vr b13_0, vi 4, vr b14, vi 14] ?_
    refine al X37 qz at_362 ?_
    refine il X37 qz at_364 ?_
    refine bp X37 qz at_366 ?_
    refine st39 _ ?_
    refine al X39 qz at_369 ?_
    refine il X39 qz at_371 ?_
    refine ic X39 qz at_373 ?_
    refine wia X39 qz at_374 ?_
    refine stk (y := (.int 15)) rfl ?_
    show Sp p e below T39 (mkF m 375 #[vi p0, vi p1, vi p2, vj p3, .second, vi (nE p2), vi (fx41 p0), vi (fx41 p1), vi (fx42 p3 p2), vi (fx43 p3 p2), vi (fx44 p3 p2), vi (fx45 p3 p2), vi (fx46 p3 p2), vi (fx47 p3 p2), vr b7, vr b8, vr b13_0, vi 4, vr b14, vi 14] [(.int 15), (.ref b14)]) _
    refine bp X39 qz at_375 ?_
    refine st41 _ ?_
    refine al X41 qz at_378 ?_
    refine il X41 qz at_380 ?_
    refine ic X41 qz at_382 ?_
    refine wia X41 qz at_383 ?_
    refine stk (y := (.int 16)) rfl ?_
    refine bp X41 qz at_384 ?_
    refine st43 _ ?_
    refine al X43 qz at_387 ?_
    refine il X43 qz at_389 ?_
    refine ic X43 qz at_391 ?_
    refine wia X43 qz at_392 ?_
    refine stk (y := (.int 17)) rfl ?_
    refine bp X43 qz at_393 ?_
    refine st45 _ ?_
    refine al X45 qz at_396 ?_
    refine il X45 qz at_398 ?_
    show Sp p e below T45 (mkF m 400 #[vi p0, vi p1, vi p2, vj p3, .second, vi (nE p2), vi (fx41 p0), vi (fx41 p1), vi (fx42 p3 p2), vi (fx43 p3 p2), vi (fx44 p3 p2), vi (fx45 p3 p2), vi (fx46 p3 p2), vi (fx47 p3 p2), vr b7, vr b8, vr b13_0, vi 4, vr b14, vi 14] [(.int 14), (.ref b14)]) _
    refine ic X45 qz at_400 ?_
    refine wia X45 qz at_401 ?_
    refine stk (y := (.int 18)) rfl ?_
    refine bp X45 qz at_402 ?_
    refine st47 _ ?_
    refine al X47 qz at_405 ?_
    refine st48 _ ?_
    refine XS.dup X48.here hx rfl (hb hby at_410) rfl rfl ?_
    refine al X48 qz at_411 ?_
    refine st49.trans ?_
    refine st55.trans ?_
    exact retN X55 hx (t := .boolean) Bd.returns (by simp) (hb hby at_419) hr
  · skip
    exact ⟨rfl, N55⟩
def Q78 (Z : State) (w_enc : Addr) (w_tb : Addr) (cs_v : Int32) (cl_tb : Cell) (wv_fm : Value) (a1 : Addr) (a2 : Addr) (a3 : Addr) (k_a3 : ClassId) (p5 : Int32) (a6 : Addr) (a7 : Addr) (k_a7 : ClassId) (p9 : Int32) (a10 : Addr) (k_a10 : ClassId) (l_a10 : List Value) (p13 : Int32) (h0 : Heap) (n0 : Nat) (v : Option Value) (h : Heap) (L : List Loc) : Prop := ∃ (b37_0 b37_1 : Addr), ∃ (kc37_0 : ClassId), v = some (.ref b37_0) ∧ Fr n0 L ∧ Keep h0 h [] ∧ h0.size ≤ b37_0 ∧ h0.size ≤ b37_1 ∧ b37_0 ≠ b37_1 ∧ Exa Z h b37_0 "java/lang/String" ∧ Fld Z h b37_0 "java/lang/String" "coder" "B" (.int 0) ∧ Fld Z h b37_0 "java/lang/String" "value" "[B" (.ref b37_1) ∧ Exa Z h b37_1 "[B" ∧ Arv Z h b37_1 kc37_0 .byte ((23 : Int32) - (0 : Int32)) [(.int 35), (.int 36), (.int 36), (.int 35), (.int 123), (.int p5), (.int 58), (.int p9), (.int 125), (.int 123), (.int (eb 0 l_a10)), (.int (eb 1 l_a10)), (.int (eb 2 l_a10)), (.int (eb 3 l_a10)), (.int (eb 4 l_a10)), (.int (eb 5 l_a10)), (.int (eb 6 l_a10)), (.int (eb 7 l_a10)), (.int 125), (.int 35), (.int 36), (.int 36), (.int 35)] (.int 0)
theorem rm78 (l : Launch) (Z : State) (a0 : Array Value) (hw : ∀ d ∈ tables_1, d.before a0 Z = true) (ws : List Jvm.Cond) (w_enc w_tb : Addr) (cs_v : Int32) (cl_tb : Cell) (wv_fm : Value) (hp : Perm Z w_enc w_tb cs_v cl_tb wv_fm) (a1 : Addr) (a2 : Addr) (a3 : Addr) (k_a3 : ClassId) (p5 : Int32) (a6 : Addr) (a7 : Addr) (k_a7 : ClassId) (p9 : Int32) (a10 : Addr) (k_a10 : ClassId) (l_a10 : List Value) (p13 : Int32) (h0 : Heap) (n0 : Nat) (O0 : Old Z n0 h0) (F_algorithm_a1 : Fld Z h0 a1 "com/example/cloakfield/cloakfield/format/TaggedValue" "algorithm" "Ljava/lang/String;" (.ref a2)) (E_a1 : Exa Z h0 a1 "com/example/cloakfield/cloakfield/format/TaggedValue") (E_a2 : Exa Z h0 a2 "java/lang/String") (F_value_a2 : Fld Z h0 a2 "java/lang/String" "value" "[B" (.ref a3)) (V_a3 : Arv Z h0 a3 k_a3 .byte (1 : Int32) [(.int p5)] (.int 0)) (F_coder_a2 : Fld Z h0 a2 "java/lang/String" "coder" "B" (.int 0)) (E_a3 : Exa Z h0 a3 "[B") (F_keyId_a1 : Fld Z h0 a1 "com/example/cloakfield/cloakfield/format/TaggedValue" "keyId" "Ljava/lang/String;" (.ref a6)) (E_a6 : Exa Z h0 a6 "java/lang/String") (F_value_a6 : Fld Z h0 a6 "java/lang/String" "value" "[B" (.ref a7)) (V_a7 : Arv Z h0 a7 k_a7 .byte (1 : Int32) [(.int p9)] (.int 0)) (F_coder_a6 : Fld Z h0 a6 "java/lang/String" "coder" "B" (.int 0)) (E_a7 : Exa Z h0 a7 "[B") (F_payload_a1 : Fld Z h0 a1 "com/example/cloakfield/cloakfield/format/TaggedValue" "payload" "[B" (.ref a10)) (V_a10 : Arv Z h0 a10 k_a10 .byte p13 (lid l_a10) (.int 0)) (E_a10 : Exa Z h0 a10 "[B") (hc17 : ¬ ((((eoL p13) ||| (0 : Int32)) ||| (eoL p13)) < (0 : Int32))) (hc18 : ¬ (((eoL p13) - (0 : Int32)) < (eoL p13))) (hc19 : ¬ ((eoL p13) = (0 : Int32))) (hc20 : ((0 : Int32) + (eoL p13)) = (eoL p13)) (hs21 : 0 ≤ (p13).toInt ∧ (p13).toInt < 7) (hs22 : ¬ ((eoL p13)) < 0) (hs23 : ((eoL p13)).toNatClampNeg ≤ 40) (hs24 : EncIn p13 l_a10) (hs25 : (eoL p13) = (8 : Int32)) (hs26 : encL l_a10 = [.int (eb 0 l_a10), .int (eb 1 l_a10), .int (eb 2 l_a10), .int (eb 3 l_a10), .int (eb 4 l_a10), .int (eb 5 l_a10), .int (eb 6 l_a10), .int (eb 7 l_a10)]) :
    MetFree l y42 (head1 (Jvm.Cond.code y42 prog_37_method_2_code 1 (some (.object "java/lang/String")) :: ws) ({ frames := 6, cells := 16, slots := 256, locals := 91 } : Room)) (fun a U => a = #[(.ref a1)] ∧ Z.Warmed39 U.vm ∧ U.heap = h0 ∧ CHv Z own_EL U.vm h0 ∧ ∀ x ∈ ([] : List Addr), Safe Z own_EL U.vm h0 x) (fun _ _ _ _ _ => True) (fun _ U o U' => ∃ v L, o = .returned v ∧ Q78 Z w_enc w_tb cs_v cl_tb wv_fm a1 a2 a3 k_a3 p5 a6 a7 k_a7 p9 a10 k_a10 l_a10 p13 h0 n0 v U'.heap L ∧ CHr Z own_EL U.vm U.heap U'.vm U'.heap ∧ ReturnedEndW U o U' L ({ frames := 6, cells := 16, slots := 256, locals := 91 } : Room).cells ({ frames := 6, cells := 16, slots := 256, locals := 91 } : Room).slots) := by
  refine MetFree.of_bodySF (plainFor_of_name pn_7) hisR ?_
  intro p e s m args below meth c s₁ Bd hml0 hP hK
  obtain ⟨rfl, hZo, hh, hCH, hSL⟩ := hP
  have hx := Bd.exec
  have hby := Bd.bytes
  have qz := And.intro hx hby
  have hml : c.maxLocals = 1 := hml0
  have hown : (s.setVm s.vm).vm.findClass "com/example/cloakfield/cloakfield/format/TaggedValue" = some m.cls := findClass_of_methodNamed Bd.named
  have hnm := (name_of_methodNamed Bd.named Bd.method).1
  have X0 : Stand p l e ({ frames := 6, cells := 16, slots := 256, locals := 91 } : Room) (s.setVm s.vm) m #[(.ref a1)] below meth c s₁ [] 0 0 := Stand.of_body Bd
  have e0 : s₁.heap = h0 := by rw [← hh, Bd.state]; rfl
  have N0 := Fr.nil n0
  have hZ : Z.Warmed39 (s.setVm s.vm).vm := hZo
  have CH0 := CHr.refl hCH
  have hS0 : s.Since s.vm 0 := (State.WarmedH.refl s).since 0
  have hk0 : 0 ≤ h0.size := Nat.zero_le _
  have hp' := hp
  obtain ⟨_, _, _, E_w_enc, _⟩ := hp'
  have Kz := And.intro hx (And.intro hby (And.intro hml (And.intro hZ (And.intro hown hw))))
  obtain ⟨T1, h1, X1, e1, E1, A1, D1, -, st1⟩ := newO X0 hx hZ hown (wq hw 55 rfl) (wq hw 56 rfl) (wq hw 57 rfl) e0 (g := (mkF m 0 #[vr a1] [])) rfl (hb hby d9_0) (by decide) (by decide)
  obtain ⟨b1, g1⟩ : ∃ z, z = h0.size := ⟨_, rfl⟩
  rw [← g1] at A1 D1 st1
  have g_b1 : n0 ≤ b1 := Nat.le_trans (own_sz O0) (Nat.le_of_eq g1.symm)
  have sz_b1 : h0.size ≤ b1 := Nat.le_trans (Keep.refl h0 []).1 (Nat.le_of_eq g1.symm)
  have O1 := O0.ext E1
  have K1 : Keep h0 h1 [] := (Keep.refl h0 []).ext E1
  have CH1 := CH0.trans (CHr.ext E1 CH0.1)
  have hk1 := Nat.le_trans hk0 E1.1
  have F_value_b1 : Fld Z h1 b1 "java/lang/AbstractStringBuilder" "value" "[B" .null := D1 (Or.inl (wq hw 70 rfl)) (ty := (.array .byte)) (by decide)
  have F_coder_b1 : Fld Z h1 b1 "java/lang/AbstractStringBuilder" "coder" "B" (.int 0) := D1 (Or.inl (wq hw 72 rfl)) (ty := .byte) (by decide)
  have F_count_b1 : Fld Z h1 b1 "java/lang/AbstractStringBuilder" "count" "I" (.int 0) := D1 (Or.inl (wq hw 97 rfl)) (ty := .int) (by decide)
  obtain ⟨_, T2, Lc2, X2, hQ2, st2⟩ := sB X1 Kz y17 1 58 59 60 57 (rm35 l Z a0 hw [] w_enc w_tb cs_v cl_tb wv_fm hp b1 h1 n0 O1 A1 F_coder_b1 F_count_b1 F_value_b1 g_b1) e1 b1 (mkF m 4 #[vr a1] [(.ref b1), (.ref b1)]) [] [(.ref b1)] pd_8 d9_4
  obtain ⟨b2_0, kc2_0, rfl, Nq2, Kq2, sq_b2_0, fq2_0, fq2_1, fq2_2, fq2_3, fq2_4, fq2_5⟩ := hQ2
  have N2 := Fr.app N0 Nq2
  have g_b2_0 : n0 ≤ b2_0 := Nat.le_trans (own_sz O1) sq_b2_0
  have sz_b2_0 : h0.size ≤ b2_0 := Nat.le_trans K1.1 sq_b2_0
  have CH2 := CH1.trans (CHr.keep Kq2 (allS (Safe.exa hZo.alike A1 (by decide) (by decide)) all0) CH1.1)
  have hk2 := Nat.le_trans hk1 Kq2.1
  have O2 := O1.keep Kq2 (allS g_b1 all0)
  have K2 : Keep h0 T2.heap [] := K1.trans Kq2 (allS (Or.inr sz_b1) all0)
  obtain ⟨li3, T3, h3, k3, lb3, kb3, X3, e3, E3, hS3, hk3, hZ3, hown3, Ea3, Ca3, Va3, Ba3, -, -, C3, L3, Sf3, st3⟩ := ldcCH X2 hx hZ hown (wq hw 73 rfl) (own_wS hw) rfl hS0 hk2 (own_EW hw) (by decide) CH2.1 (vs := [(.int 35), (.int 36), (.int 36), (.int 35), (.int 123)]) (z := (5 : Int32)) ⟨by decide, rfl⟩ (by decide) rfl (g := (mkF m 7 #[vr a1] [(.ref b1)])) rfl (hb hby d9_7) (n := 20) (by decide) (by decide) (by decide) (by decide)
  have CH3 := CH2.trans C3
  have O3 := O2.ext E3
  have K3 : Keep h0 h3 [] := K2.ext E3
  have nz0 : b1 ≠ b2_0 := (Nat.ne_of_lt (Nat.lt_of_lt_of_le A1.lt sq_b2_0))
  obtain ⟨_, T4, Lc4, X4, hQ4, st4⟩ := vS X3 ⟨hx, hby, hml, hZ3, hown3, hw⟩ y25 0 76 77 79 78 80 57 (rm43 l Z a0 hw [] w_enc w_tb cs_v cl_tb wv_fm hp b1 li3 lb3 kb3 [(.int 35), (.int 36), (.int 36), (.int 35), (.int 123)] (5 : Int32) (0 : Int32) b2_0 kc2_0 [(.int 0), (.int 0), (.int 0), (.int 0), (.int 0), (.int 0), (.int 0), (.int 0), (.int 0), (.int 0), (.int 0), (.int 0), (.int 0), (.int 0), (.int 0), (.int 0)] (16 : Int32) h3 n0 O3 Ea3 Va3 Ba3 Ca3 (fq2_2.ext E3) (fq2_0.ext E3) (fq2_3.ext E3) (fq2_5.ext E3) (fq2_1.ext E3) (by decide : ¬ ((0 : Int32) < (((0 : Int32) + ((5 : Int32) >>> ((0 : Int32) &&& 31))) - ((16 : Int32) >>> ((0 : Int32) &&& 31))))) (fq2_4.ext E3) g_b2_0 (by decide) (by decide) (by decide) (by decide) (Nat.le_of_ble_eq_true rfl) nz0 g_b1) e3 (fq2_0.ext E3) (mkF m 9 #[vr a1] [(.ref li3), (.ref b1)]) [(.ref li3)] [] pd_17 d9_9
  obtain ⟨rfl, Nq4, Kq4, fq4_0, fq4_1, fq4_2, fq4_3, fq4_4, fq4_5⟩ := hQ4
  have N4 := Fr.app N2 Nq4
  have sf_5 := (C3.safe fq2_4.lt (Safe.keep Kq2 (allS (Safe.exa hZo.alike A1 (by decide) (by decide)) all0) CH1.1 (Safe.new sq_b2_0)))
  have CH4 := CH3.trans (CHr.keep Kq4 (allS sf_5 (allS (Safe.exa hZ3.alike (fq2_0.ext E3) (by decide) (by decide)) all0)) CH3.1)
  have hk4 := Nat.le_trans hk3 Kq4.1
  have O4 := O3.keep Kq4 (allS g_b2_0 (allS g_b1 all0))
  have K4 : Keep h0 T4.heap [] := K3.trans Kq4 (allS (Or.inr sz_b2_0) (allS (Or.inr sz_b1) all0))
  have V4_1 : Arv Z T4.heap b2_0 kc2_0 .byte (16 : Int32) [(.int 35), (.int 36), (.int 36), (.int 35), (.int 123), (.int 0), (.int 0), (.int 0), (.int 0), (.int 0), (.int 0), (.int 0), (.int 0), (.int 0), (.int 0), (.int 0)] (.int 0) := fq4_1
  have F4_4 : Fld Z T4.heap b1 "java/lang/AbstractStringBuilder" "count" "I" (.int 5) := fq4_4
  have nz1 : a1 ≠ b1 := (Nat.ne_of_lt (Nat.lt_of_lt_of_le E_a1.lt sz_b1))
  have nz2 : a1 ≠ b2_0 := (Nat.ne_of_lt (Nat.lt_of_lt_of_le E_a1.lt sz_b2_0))
  have f_6 := ((((F_algorithm_a1.ext E1).keep Kq2 (ninS nz1 nin0)).ext E3).keep Kq4 (ninS nz2 (ninS nz1 nin0)))
  obtain ⟨T7, X7, e7, st7⟩ := gF X4 ⟨hx, hby, hml, hZ3, hown3, hw⟩ 44 rfl f_6 (mkF m 13 #[vr a1] [(.ref a1), (.ref b1)]) d9_13
  have nz3 : a2 ≠ b1 := (Nat.ne_of_lt (Nat.lt_of_lt_of_le E_a2.lt sz_b1))
  have nz4 : a2 ≠ b2_0 := (Nat.ne_of_lt (Nat.lt_of_lt_of_le E_a2.lt sz_b2_0))
  have f_8 := ((((F_value_a2.ext E1).keep Kq2 (ninS nz3 nin0)).ext E3).keep Kq4 (ninS nz4 (ninS nz3 nin0)))
  have nz5 : a3 ≠ b1 := (Nat.ne_of_lt (Nat.lt_of_lt_of_le E_a3.lt sz_b1))
  have nz6 : a3 ≠ b2_0 := (Nat.ne_of_lt (Nat.lt_of_lt_of_le E_a3.lt sz_b2_0))
  have f_9 := ((((V_a3.ext E1).keep Kq2 (ninS nz5 nin0)).ext E3).keep Kq4 (ninS nz6 (ninS nz5 nin0)))
  have f_10 := ((((F_coder_a2.ext E1).keep Kq2 (ninS nz3 nin0)).ext E3).keep Kq4 (ninS nz4 (ninS nz3 nin0)))
  obtain ⟨_, T11, Lc11, X11, hQ11, st11⟩ := vS X7 ⟨hx, hby, hml, hZ3, hown3, hw⟩ y25 0 76 77 79 78 80 57 (rm43 l Z a0 hw [] w_enc w_tb cs_v cl_tb wv_fm hp b1 a2 a3 k_a3 [(.int p5)] (1 : Int32) (5 : Int32) b2_0 kc2_0 [(.int 35), (.int 36), (.int 36), (.int 35), (.int 123), (.int 0), (.int 0), (.int 0), (.int 0), (.int 0), (.int 0), (.int 0), (.int 0), (.int 0), (.int 0), (.int 0)] (16 : Int32) T4.heap n0 O4 ((((E_a2.ext E1).keep Kq2).ext E3).keep Kq4) f_8 f_9 f_10 F4_4 fq4_2 fq4_5 V4_1 fq4_3 (by decide : ¬ ((0 : Int32) < (((5 : Int32) + ((1 : Int32) >>> ((0 : Int32) &&& 31))) - ((16 : Int32) >>> ((0 : Int32) &&& 31))))) fq4_0 g_b2_0 (by decide) (by decide) (by decide) (by decide) (Nat.le_of_ble_eq_true rfl) nz0 g_b1) e7 fq4_2 (mkF m 16 #[vr a1] [(.ref a2), (.ref b1)]) [(.ref a2)] [] pd_17 d9_16
  obtain ⟨rfl, Nq11, Kq11, fq11_0, fq11_1, fq11_2, fq11_3, fq11_4, fq11_5⟩ := hQ11
  have N11 := Fr.app N4 Nq11
  have sf_12 := (Safe.keep Kq4 (allS sf_5 (allS (Safe.exa hZ3.alike (fq2_0.ext E3) (by decide) (by decide)) all0)) CH3.1 sf_5)
  have CH11 := CH4.trans (CHr.keep Kq11 (allS sf_12 (allS (Safe.exa hZ3.alike fq4_2 (by decide) (by decide)) all0)) CH4.1)
  have hk11 := Nat.le_trans hk4 Kq11.1
  have O11 := O4.keep Kq11 (allS g_b2_0 (allS g_b1 all0))
  have K11 : Keep h0 T11.heap [] := K4.trans Kq11 (allS (Or.inr sz_b2_0) (allS (Or.inr sz_b1) all0))
  have V11_1 : Arv Z T11.heap b2_0 kc2_0 .byte (16 : Int32) [(.int 35), (.int 36), (.int 36), (.int 35), (.int 123), (.int p5), (.int 0), (.int 0), (.int 0), (.int 0), (.int 0), (.int 0), (.int 0), (.int 0), (.int 0), (.int 0)] (.int 0) := fq11_1
  have F11_4 : Fld Z T11.heap b1 "java/lang/AbstractStringBuilder" "count" "I" (.int 6) := fq11_4
  obtain ⟨li13, T13, h13, k13, lb13, kb13, X13, e13, E13, hS13, hk13, hZ13, hown13, Ea13, Ca13, Va13, Ba13, -, -, C13, L13, Sf13, st13⟩ := ldcCH X11 hx hZ3 hown3 (wq hw 123 rfl) (own_wS hw) rfl hS3 hk11 (own_EW hw) (by decide) CH11.1 (vs := [(.int 58)]) (z := (1 : Int32)) ⟨by decide, rfl⟩ (by decide) rfl (g := (mkF m 19 #[vr a1] [(.ref b1)])) rfl (hb hby d9_19) (n := 4) (by decide) (by decide) (by decide) (by decide)
  have CH13 := CH11.trans C13
  have O13 := O11.ext E13
  have K13 : Keep h0 h13 [] := K11.ext E13
  obtain ⟨_, T14, Lc14, X14, hQ14, st14⟩ := vS X13 ⟨hx, hby, hml, hZ13, hown13, hw⟩ y25 0 76 77 79 78 80 57 (rm43 l Z a0 hw [] w_enc w_tb cs_v cl_tb wv_fm hp b1 li13 lb13 kb13 [(.int 58)] (1 : Int32) (6 : Int32) b2_0 kc2_0 [(.int 35), (.int 36), (.int 36), (.int 35), (.int 123), (.int p5), (.int 0), (.int 0), (.int 0), (.int 0), (.int 0), (.int 0), (.int 0), (.int 0), (.int 0), (.int 0)] (16 : Int32) h13 n0 O13 Ea13 Va13 Ba13 Ca13 (F11_4.ext E13) (fq11_2.ext E13) (fq11_5.ext E13) (V11_1.ext E13) (fq11_3.ext E13) (by decide : ¬ ((0 : Int32) < (((6 : Int32) + ((1 : Int32) >>> ((0 : Int32) &&& 31))) - ((16 : Int32) >>> ((0 : Int32) &&& 31))))) (fq11_0.ext E13) g_b2_0 (by decide) (by decide) (by decide) (by decide) (Nat.le_of_ble_eq_true rfl) nz0 g_b1) e13 (fq11_2.ext E13) (mkF m 21 #[vr a1] [(.ref li13), (.ref b1)]) [(.ref li13)] [] pd_17 d9_21
  obtain ⟨rfl, Nq14, Kq14, fq14_0, fq14_1, fq14_2, fq14_3, fq14_4, fq14_5⟩ := hQ14
  have N14 := Fr.app N11 Nq14
  have sf_15 := (C13.safe (((fq2_4.ext E3).keep Kq4).keep Kq11).lt (Safe.keep Kq11 (allS sf_12 (allS (Safe.exa hZ3.alike fq4_2 (by decide) (by decide)) all0)) CH4.1 sf_12))
  have CH14 := CH13.trans (CHr.keep Kq14 (allS sf_15 (allS (Safe.exa hZ13.alike (fq11_2.ext E13) (by decide) (by decide)) all0)) CH13.1)
  have hk14 := Nat.le_trans hk13 Kq14.1
  have O14 := O13.keep Kq14 (allS g_b2_0 (allS g_b1 all0))
  have K14 : Keep h0 T14.heap [] := K13.trans Kq14 (allS (Or.inr sz_b2_0) (allS (Or.inr sz_b1) all0))
  have V14_1 : Arv Z T14.heap b2_0 kc2_0 .byte (16 : Int32) [(.int 35), (.int 36), (.int 36), (.int 35), (.int 123), (.int p5), (.int 58), (.int 0), (.int 0), (.int 0), (.int 0), (.int 0), (.int 0), (.int 0), (.int 0), (.int 0)] (.int 0) := fq14_1
  have F14_4 : Fld Z T14.heap b1 "java/lang/AbstractStringBuilder" "count" "I" (.int 7) := fq14_4
  have f_16 := (((((((F_keyId_a1.ext E1).keep Kq2 (ninS nz1 nin0)).ext E3).keep Kq4 (ninS nz2 (ninS nz1 nin0))).keep Kq11 (ninS nz2 (ninS nz1 nin0))).ext E13).keep Kq14 (ninS nz2 (ninS nz1 nin0)))
  obtain ⟨T17, X17, e17, st17⟩ := gF X14 ⟨hx, hby, hml, hZ13, hown13, hw⟩ 46 rfl f_16 (mkF m 25 #[vr a1] [(.ref a1), (.ref b1)]) d9_25
  have f_18 := (((((((E_a6.ext E1).keep Kq2).ext E3).keep Kq4).keep Kq11).ext E13).keep Kq14)
  have nz7 : a6 ≠ b1 := (Nat.ne_of_lt (Nat.lt_of_lt_of_le E_a6.lt sz_b1))
  have nz8 : a6 ≠ b2_0 := (Nat.ne_of_lt (Nat.lt_of_lt_of_le E_a6.lt sz_b2_0))
  have f_19 := (((((((F_value_a6.ext E1).keep Kq2 (ninS nz7 nin0)).ext E3).keep Kq4 (ninS nz8 (ninS nz7 nin0))).keep Kq11 (ninS nz8 (ninS nz7 nin0))).ext E13).keep Kq14 (ninS nz8 (ninS nz7 nin0)))
  have nz9 : a7 ≠ b1 := (Nat.ne_of_lt (Nat.lt_of_lt_of_le E_a7.lt sz_b1))
  have nz10 : a7 ≠ b2_0 := (Nat.ne_of_lt (Nat.lt_of_lt_of_le E_a7.lt sz_b2_0))
  have f_20 := (((((((V_a7.ext E1).keep Kq2 (ninS nz9 nin0)).ext E3).keep Kq4 (ninS nz10 (ninS nz9 nin0))).keep Kq11 (ninS nz10 (ninS nz9 nin0))).ext E13).keep Kq14 (ninS nz10 (ninS nz9 nin0)))
  have f_21 := (((((((F_coder_a6.ext E1).keep Kq2 (ninS nz7 nin0)).ext E3).keep Kq4 (ninS nz8 (ninS nz7 nin0))).keep Kq11 (ninS nz8 (ninS nz7 nin0))).ext E13).keep Kq14 (ninS nz8 (ninS nz7 nin0)))
  obtain ⟨_, T22, Lc22, X22, hQ22, st22⟩ := vS X17 ⟨hx, hby, hml, hZ13, hown13, hw⟩ y25 0 76 77 79 78 80 57 (rm43 l Z a0 hw [] w_enc w_tb cs_v cl_tb wv_fm hp b1 a6 a7 k_a7 [(.int p9)] (1 : Int32) (7 : Int32) b2_0 kc2_0 [(.int 35), (.int 36), (.int 36), (.int 35), (.int 123), (.int p5), (.int 58), (.int 0), (.int 0), (.int 0), (.int 0), (.int 0), (.int 0), (.int 0), (.int 0), (.int 0)] (16 : Int32) T14.heap n0 O14 f_18 f_19 f_20 f_21 F14_4 fq14_2 fq14_5 V14_1 fq14_3 (by decide : ¬ ((0 : Int32) < (((7 : Int32) + ((1 : Int32) >>> ((0 : Int32) &&& 31))) - ((16 : Int32) >>> ((0 : Int32) &&& 31))))) fq14_0 g_b2_0 (by decide) (by decide) (by decide) (by decide) (Nat.le_of_ble_eq_true rfl) nz0 g_b1) e17 fq14_2 (mkF m 28 #[vr a1] [(.ref a6), (.ref b1)]) [(.ref a6)] [] pd_17 d9_28
  obtain ⟨rfl, Nq22, Kq22, fq22_0, fq22_1, fq22_2, fq22_3, fq22_4, fq22_5⟩ := hQ22
  have N22 := Fr.app N14 Nq22
  have sf_23 := (Safe.keep Kq14 (allS sf_15 (allS (Safe.exa hZ13.alike (fq11_2.ext E13) (by decide) (by decide)) all0)) CH13.1 sf_15)
  have CH22 := CH14.trans (CHr.keep Kq22 (allS sf_23 (allS (Safe.exa hZ13.alike fq14_2 (by decide) (by decide)) all0)) CH14.1)
  have hk22 := Nat.le_trans hk14 Kq22.1
  have O22 := O14.keep Kq22 (allS g_b2_0 (allS g_b1 all0))
  have K22 : Keep h0 T22.heap [] := K14.trans Kq22 (allS (Or.inr sz_b2_0) (allS (Or.inr sz_b1) all0))
  have V22_1 : Arv Z T22.heap b2_0 kc2_0 .byte (16 : Int32) [(.int 35), (.int 36), (.int 36), (.int 35), (.int 123), (.int p5), (.int 58), (.int p9), (.int 0), (.int 0), (.int 0), (.int 0), (.int 0), (.int 0), (.int 0), (.int 0)] (.int 0) := fq22_1
  have F22_4 : Fld Z T22.heap b1 "java/lang/AbstractStringBuilder" "count" "I" (.int 8) := fq22_4
  obtain ⟨li24, T24, h24, k24, lb24, kb24, X24, e24, E24, hS24, hk24, hZ24, hown24, Ea24, Ca24, Va24, Ba24, -, -, C24, L24, Sf24, st24⟩ := ldcCH X22 hx hZ13 hown13 (wq hw 124 rfl) (own_wS hw) rfl hS13 hk22 (own_EW hw) (by decide) CH22.1 (vs := [(.int 125), (.int 123)]) (z := (2 : Int32)) ⟨by decide, rfl⟩ (by decide) rfl (g := (mkF m 31 #[vr a1] [(.ref b1)])) rfl (hb hby d9_31) (n := 8) (by decide) (by decide) (by decide) (by decide)
  have CH24 := CH22.trans C24
  have O24 := O22.ext E24
  have K24 : Keep h0 h24 [] := K22.ext E24
  obtain ⟨_, T25, Lc25, X25, hQ25, st25⟩ := vS X24 ⟨hx, hby, hml, hZ24, hown24, hw⟩ y25 0 76 77 79 78 80 57 (rm43 l Z a0 hw [] w_enc w_tb cs_v cl_tb wv_fm hp b1 li24 lb24 kb24 [(.int 125), (.int 123)] (2 : Int32) (8 : Int32) b2_0 kc2_0 [(.int 35), (.int 36), (.int 36), (.int 35), (.int 123), (.int p5), (.int 58), (.int p9), (.int 0), (.int 0), (.int 0), (.int 0), (.int 0), (.int 0), (.int 0), (.int 0)] (16 : Int32) h24 n0 O24 Ea24 Va24 Ba24 Ca24 (F22_4.ext E24) (fq22_2.ext E24) (fq22_5.ext E24) (V22_1.ext E24) (fq22_3.ext E24) (by decide : ¬ ((0 : Int32) < (((8 : Int32) + ((2 : Int32) >>> ((0 : Int32) &&& 31))) - ((16 : Int32) >>> ((0 : Int32) &&& 31))))) (fq22_0.ext E24) g_b2_0 (by decide) (by decide) (by decide) (by decide) (Nat.le_of_ble_eq_true rfl) nz0 g_b1) e24 (fq22_2.ext E24) (mkF m 33 #[vr a1] [(.ref li24), (.ref b1)]) [(.ref li24)] [] pd_17 d9_33
  obtain ⟨rfl, Nq25, Kq25, fq25_0, fq25_1, fq25_2, fq25_3, fq25_4, fq25_5⟩ := hQ25
  have N25 := Fr.app N22 Nq25
  have sf_26 := (C24.safe ((((((fq2_4.ext E3).keep Kq4).keep Kq11).ext E13).keep Kq14).keep Kq22).lt (Safe.keep Kq22 (allS sf_23 (allS (Safe.exa hZ13.alike fq14_2 (by decide) (by decide)) all0)) CH14.1 sf_23))
  have CH25 := CH24.trans (CHr.keep Kq25 (allS sf_26 (allS (Safe.exa hZ24.alike (fq22_2.ext E24) (by decide) (by decide)) all0)) CH24.1)
  have hk25 := Nat.le_trans hk24 Kq25.1
  have O25 := O24.keep Kq25 (allS g_b2_0 (allS g_b1 all0))
  have K25 : Keep h0 T25.heap [] := K24.trans Kq25 (allS (Or.inr sz_b2_0) (allS (Or.inr sz_b1) all0))
  have V25_1 : Arv Z T25.heap b2_0 kc2_0 .byte (16 : Int32) [(.int 35), (.int 36), (.int 36), (.int 35), (.int 123), (.int p5), (.int 58), (.int p9), (.int 125), (.int 123), (.int 0), (.int 0), (.int 0), (.int 0), (.int 0), (.int 0)] (.int 0) := fq25_1
  have F25_4 : Fld Z T25.heap b1 "java/lang/AbstractStringBuilder" "count" "I" (.int 10) := fq25_4
  obtain ⟨_, T27, Lc27, X27, hQ27, st27⟩ := cS X25 ⟨hx, hby, hml, hZ24, hown24, hw⟩ y26 1 125 126 127 128 (rm44 l Z a0 hw [] w_enc w_tb cs_v cl_tb wv_fm hp T25.heap n0 O25) rfl (mkF m 36 #[vr a1] [(.ref b1)]) [] [(.ref b1)] pd_18 d9_36
  obtain ⟨rfl, Nq27, eq27⟩ := hQ27
  have N27 := Fr.app N25 Nq27
  have f_28 := ((((((((((F_payload_a1.ext E1).keep Kq2 (ninS nz1 nin0)).ext E3).keep Kq4 (ninS nz2 (ninS nz1 nin0))).keep Kq11 (ninS nz2 (ninS nz1 nin0))).ext E13).keep Kq14 (ninS nz2 (ninS nz1 nin0))).keep Kq22 (ninS nz2 (ninS nz1 nin0))).ext E24).keep Kq25 (ninS nz2 (ninS nz1 nin0)))
  obtain ⟨T29, X29, e29, st29⟩ := gF X27 ⟨hx, hby, hml, hZ24, hown24, hw⟩ 48 eq27 f_28 (mkF m 40 #[vr a1] [(.ref a1), (.ref w_enc), (.ref b1)]) d9_40
  have nz11 : a10 ≠ b1 := (Nat.ne_of_lt (Nat.lt_of_lt_of_le E_a10.lt sz_b1))
  have nz12 : a10 ≠ b2_0 := (Nat.ne_of_lt (Nat.lt_of_lt_of_le E_a10.lt sz_b2_0))
  have f_30 := ((((((((((V_a10.ext E1).keep Kq2 (ninS nz11 nin0)).ext E3).keep Kq4 (ninS nz12 (ninS nz11 nin0))).keep Kq11 (ninS nz12 (ninS nz11 nin0))).ext E13).keep Kq14 (ninS nz12 (ninS nz11 nin0))).keep Kq22 (ninS nz12 (ninS nz11 nin0))).ext E24).keep Kq25 (ninS nz12 (ninS nz11 nin0)))
  have f_31 := ((((((((((E_a10.ext E1).keep Kq2).ext E3).keep Kq4).keep Kq11).ext E13).keep Kq14).keep Kq22).ext E24).keep Kq25)
  obtain ⟨_, T32, Lc32, X32, hQ32, st32⟩ := vS X29 ⟨hx, hby, hml, hZ24, hown24, hw⟩ y31 1 131 132 134 133 135 130 (rm66 l Z a0 hw [] w_enc w_tb cs_v cl_tb wv_fm hp a10 k_a10 l_a10 p13 T25.heap n0 O25 f_30 f_31 hs21 hs22 hs23 hs24 hc17 hc18 hc19 hc20) e29 (E_w_enc.ext O25.2) (mkF m 43 #[vr a1] [(.ref a10), (.ref w_enc), (.ref b1)]) [(.ref a10)] [(.ref b1)] pd_25 d9_43
  obtain ⟨b32_0, b32_1, kc32_0, rfl, Nq32, Kq32, sq_b32_0, sq_b32_1, nq32_0, fq32_0, fq32_1, fq32_2, fq32_3, fq32_4⟩ := hQ32
  have N32 := Fr.app N27 Nq32
  have CH32 := CH25.trans (CHr.keep Kq32 all0 CH25.1)
  have hk32 := Nat.le_trans hk25 Kq32.1
  have O32 := O25.keep Kq32 all0
  have K32 : Keep h0 T32.heap [] := K25.trans Kq32 all0
  have V32_4 : Arv Z T32.heap b32_1 kc32_0 .byte (8 : Int32) [(.int (eb 0 l_a10)), (.int (eb 1 l_a10)), (.int (eb 2 l_a10)), (.int (eb 3 l_a10)), (.int (eb 4 l_a10)), (.int (eb 5 l_a10)), (.int (eb 6 l_a10)), (.int (eb 7 l_a10))] (.int 0) := (by have q := fq32_4; rw [show (eoL p13) = (8 : Int32) from hs25, show lid (encL l_a10) = _ from hs26] at q; exact q)
  have nz13 : b1 ≠ b32_0 := (Nat.ne_of_lt (Nat.lt_of_lt_of_le (((((((((A1.keep Kq2).ext E3).keep Kq4).keep Kq11).ext E13).keep Kq14).keep Kq22).ext E24).keep Kq25).lt sq_b32_0))
  have nz14 : b1 ≠ b32_1 := (Nat.ne_of_lt (Nat.lt_of_lt_of_le (((((((((A1.keep Kq2).ext E3).keep Kq4).keep Kq11).ext E13).keep Kq14).keep Kq22).ext E24).keep Kq25).lt sq_b32_1))
  obtain ⟨_, T33, Lc33, X33, hQ33, st33⟩ := vS X32 ⟨hx, hby, hml, hZ24, hown24, hw⟩ y25 0 76 77 79 78 80 57 (rm74 l Z a0 hw [] w_enc w_tb cs_v cl_tb wv_fm hp b1 b32_0 b32_1 kc32_0 [(.int (eb 0 l_a10)), (.int (eb 1 l_a10)), (.int (eb 2 l_a10)), (.int (eb 3 l_a10)), (.int (eb 4 l_a10)), (.int (eb 5 l_a10)), (.int (eb 6 l_a10)), (.int (eb 7 l_a10))] (8 : Int32) (10 : Int32) b2_0 kc2_0 [(.int 35), (.int 36), (.int 36), (.int 35), (.int 123), (.int p5), (.int 58), (.int p9), (.int 125), (.int 123), (.int 0), (.int 0), (.int 0), (.int 0), (.int 0), (.int 0)] (16 : Int32) T32.heap n0 O32 fq32_0 fq32_2 V32_4 fq32_1 (F25_4.keep Kq32 nin0) (fq25_2.keep Kq32) (fq25_5.keep Kq32 nin0) (V25_1.keep Kq32 nin0) (fq25_3.keep Kq32 nin0) (by decide : (0 : Int32) < (((10 : Int32) + ((8 : Int32) >>> ((0 : Int32) &&& 31))) - ((16 : Int32) >>> ((0 : Int32) &&& 31)))) (by decide : ((((10 : Int32) + ((8 : Int32) >>> ((0 : Int32) &&& 31))) <<< ((0 : Int32) &&& 31)) - (16 : Int32)) < ((16 : Int32) + (2 : Int32))) (by decide : (0 : Int32) < ((16 : Int32) + ((16 : Int32) + (2 : Int32)))) (by decide : ¬ ((2147483639 : Int32) < ((16 : Int32) + ((16 : Int32) + (2 : Int32))))) (by decide : ¬ (((16 : Int32) + ((16 : Int32) + (2 : Int32))) = (2147483647 : Int32))) (by decide : ¬ (((((16 : Int32) + ((16 : Int32) + (2 : Int32))) >>> ((0 : Int32) &&& 31)) <<< ((0 : Int32) &&& 31)) = (16 : Int32))) (by decide : ¬ (((((16 : Int32) + ((16 : Int32) + (2 : Int32))) >>> ((0 : Int32) &&& 31)) <<< ((0 : Int32) &&& 31)) < (16 : Int32))) (by decide) (by decide) (by decide) (by decide) (by decide) (Nat.le_of_ble_eq_true rfl) g_b1 nz13 nz14 (by decide) (by decide) (by decide) (by decide) (Nat.le_of_ble_eq_true rfl)) rfl (fq25_2.keep Kq32) (mkF m 46 #[vr a1] [(.ref b32_0), (.ref b1)]) [(.ref b32_0)] [] pd_17 d9_46
  obtain ⟨b33_0, kc33_0, rfl, Nq33, Kq33, sq_b33_0, fq33_0, fq33_1, fq33_2, fq33_3, fq33_4, fq33_5⟩ := hQ33
  have N33 := Fr.app N32 Nq33
  have g_b33_0 : n0 ≤ b33_0 := Nat.le_trans (own_sz O32) sq_b33_0
  have sz_b33_0 : h0.size ≤ b33_0 := Nat.le_trans K32.1 sq_b33_0
  have CH33 := CH32.trans (CHr.keep Kq33 (allS (Safe.exa hZ24.alike (fq25_2.keep Kq32) (by decide) (by decide)) all0) CH32.1)
  have hk33 := Nat.le_trans hk32 Kq33.1
  have O33 := O32.keep Kq33 (allS g_b1 all0)
  have K33 : Keep h0 T33.heap [] := K32.trans Kq33 (allS (Or.inr sz_b1) all0)
  have F33_2 : Fld Z T33.heap b1 "java/lang/AbstractStringBuilder" "count" "I" (.int 18) := fq33_2
  have V33_5 : Arv Z T33.heap b33_0 kc33_0 .byte ((((16 : Int32) + ((16 : Int32) + (2 : Int32))) >>> ((0 : Int32) &&& 31)) <<< ((0 : Int32) &&& 31)) [(.int 35), (.int 36), (.int 36), (.int 35), (.int 123), (.int p5), (.int 58), (.int p9), (.int 125), (.int 123), (.int (eb 0 l_a10)), (.int (eb 1 l_a10)), (.int (eb 2 l_a10)), (.int (eb 3 l_a10)), (.int (eb 4 l_a10)), (.int (eb 5 l_a10)), (.int (eb 6 l_a10)), (.int (eb 7 l_a10)), (.int 0), (.int 0), (.int 0), (.int 0), (.int 0), (.int 0), (.int 0), (.int 0), (.int 0), (.int 0), (.int 0), (.int 0), (.int 0), (.int 0), (.int 0), (.int 0)] (.int 0) := fq33_5
  obtain ⟨li34, T34, h34, k34, lb34, kb34, X34, e34, E34, hS34, hk34, hZ34, hown34, Ea34, Ca34, Va34, Ba34, -, -, C34, L34, Sf34, st34⟩ := ldcCH X33 hx hZ24 hown24 (wq hw 190 rfl) (own_wS hw) rfl hS24 hk33 (own_EW hw) (by decide) CH33.1 (vs := [(.int 125), (.int 35), (.int 36), (.int 36), (.int 35)]) (z := (5 : Int32)) ⟨by decide, rfl⟩ (by decide) rfl (g := (mkF m 49 #[vr a1] [(.ref b1)])) rfl (hb hby d9_49) (n := 20) (by decide) (by decide) (by decide) (by decide)
  have CH34 := CH33.trans C34
  have O34 := O33.ext E34
  have K34 : Keep h0 h34 [] := K33.ext E34
  have nz15 : b1 ≠ b33_0 := (Nat.ne_of_lt (Nat.lt_of_lt_of_le ((((((((((A1.keep Kq2).ext E3).keep Kq4).keep Kq11).ext E13).keep Kq14).keep Kq22).ext E24).keep Kq25).keep Kq32).lt sq_b33_0))
  obtain ⟨_, T35, Lc35, X35, hQ35, st35⟩ := vS X34 ⟨hx, hby, hml, hZ34, hown34, hw⟩ y25 0 76 77 79 78 80 57 (rm43 l Z a0 hw [] w_enc w_tb cs_v cl_tb wv_fm hp b1 li34 lb34 kb34 [(.int 125), (.int 35), (.int 36), (.int 36), (.int 35)] (5 : Int32) (18 : Int32) b33_0 kc33_0 [(.int 35), (.int 36), (.int 36), (.int 35), (.int 123), (.int p5), (.int 58), (.int p9), (.int 125), (.int 123), (.int (eb 0 l_a10)), (.int (eb 1 l_a10)), (.int (eb 2 l_a10)), (.int (eb 3 l_a10)), (.int (eb 4 l_a10)), (.int (eb 5 l_a10)), (.int (eb 6 l_a10)), (.int (eb 7 l_a10)), (.int 0), (.int 0), (.int 0), (.int 0), (.int 0), (.int 0), (.int 0), (.int 0), (.int 0), (.int 0), (.int 0), (.int 0), (.int 0), (.int 0), (.int 0), (.int 0)] ((((16 : Int32) + ((16 : Int32) + (2 : Int32))) >>> ((0 : Int32) &&& 31)) <<< ((0 : Int32) &&& 31)) h34 n0 O34 Ea34 Va34 Ba34 Ca34 (F33_2.ext E34) (fq33_0.ext E34) (fq33_3.ext E34) (V33_5.ext E34) (fq33_1.ext E34) (by decide : ¬ ((0 : Int32) < (((18 : Int32) + ((5 : Int32) >>> ((0 : Int32) &&& 31))) - (((((16 : Int32) + ((16 : Int32) + (2 : Int32))) >>> ((0 : Int32) &&& 31)) <<< ((0 : Int32) &&& 31)) >>> ((0 : Int32) &&& 31))))) (fq33_4.ext E34) g_b33_0 (by decide) (by decide) (by decide) (by decide) (Nat.le_of_ble_eq_true rfl) nz15 g_b1) e34 (fq33_0.ext E34) (mkF m 51 #[vr a1] [(.ref li34), (.ref b1)]) [(.ref li34)] [] pd_17 d9_51
  obtain ⟨rfl, Nq35, Kq35, fq35_0, fq35_1, fq35_2, fq35_3, fq35_4, fq35_5⟩ := hQ35
  have N35 := Fr.app N33 Nq35
  have sf_36 := (C34.safe fq33_4.lt (Safe.keep Kq33 (allS (Safe.exa hZ24.alike (fq25_2.keep Kq32) (by decide) (by decide)) all0) CH32.1 (Safe.new sq_b33_0)))
  have CH35 := CH34.trans (CHr.keep Kq35 (allS sf_36 (allS (Safe.exa hZ34.alike (fq33_0.ext E34) (by decide) (by decide)) all0)) CH34.1)
  have hk35 := Nat.le_trans hk34 Kq35.1
  have O35 := O34.keep Kq35 (allS g_b33_0 (allS g_b1 all0))
  have K35 : Keep h0 T35.heap [] := K34.trans Kq35 (allS (Or.inr sz_b33_0) (allS (Or.inr sz_b1) all0))
  have V35_1 : Arv Z T35.heap b33_0 kc33_0 .byte ((((16 : Int32) + ((16 : Int32) + (2 : Int32))) >>> ((0 : Int32) &&& 31)) <<< ((0 : Int32) &&& 31)) [(.int 35), (.int 36), (.int 36), (.int 35), (.int 123), (.int p5), (.int 58), (.int p9), (.int 125), (.int 123), (.int (eb 0 l_a10)), (.int (eb 1 l_a10)), (.int (eb 2 l_a10)), (.int (eb 3 l_a10)), (.int (eb 4 l_a10)), (.int (eb 5 l_a10)), (.int (eb 6 l_a10)), (.int (eb 7 l_a10)), (.int 125), (.int 35), (.int 36), (.int 36), (.int 35), (.int 0), (.int 0), (.int 0), (.int 0), (.int 0), (.int 0), (.int 0), (.int 0), (.int 0), (.int 0), (.int 0)] (.int 0) := fq35_1
  have F35_4 : Fld Z T35.heap b1 "java/lang/AbstractStringBuilder" "count" "I" (.int 23) := fq35_4
  obtain ⟨_, T37, Lc37, X37, hQ37, st37⟩ := vS X35 ⟨hx, hby, hml, hZ34, hown34, hw⟩ y41 0 212 213 215 214 216 57 (rm60 l Z a0 hw [] w_enc w_tb cs_v cl_tb wv_fm hp b1 b33_0 (23 : Int32) kc33_0 [(.int 35), (.int 36), (.int 36), (.int 35), (.int 123), (.int p5), (.int 58), (.int p9), (.int 125), (.int 123), (.int (eb 0 l_a10)), (.int (eb 1 l_a10)), (.int (eb 2 l_a10)), (.int (eb 3 l_a10)), (.int (eb 4 l_a10)), (.int (eb 5 l_a10)), (.int (eb 6 l_a10)), (.int (eb 7 l_a10)), (.int 125), (.int 35), (.int 36), (.int 36), (.int 35), (.int 0), (.int 0), (.int 0), (.int 0), (.int 0), (.int 0), (.int 0), (.int 0), (.int 0), (.int 0), (.int 0)] ((((16 : Int32) + ((16 : Int32) + (2 : Int32))) >>> ((0 : Int32) &&& 31)) <<< ((0 : Int32) &&& 31)) T35.heap n0 O35 fq35_2 fq35_5 F35_4 fq35_3 V35_1 (by decide : ¬ ((23 : Int32) = ((((16 : Int32) + ((16 : Int32) + (2 : Int32))) >>> ((0 : Int32) &&& 31)) <<< ((0 : Int32) &&& 31)))) (by decide : ¬ ((23 : Int32) < (0 : Int32))) (by decide : ((23 : Int32) - (0 : Int32)) < (((((16 : Int32) + ((16 : Int32) + (2 : Int32))) >>> ((0 : Int32) &&& 31)) <<< ((0 : Int32) &&& 31)) - (0 : Int32))) fq35_0 (by decide) (by decide) (by decide) (by decide) (Nat.le_of_ble_eq_true rfl)) rfl fq35_2 (mkF m 54 #[vr a1] [(.ref b1)]) [] [] pd_32 d9_54
  obtain ⟨b37_0, b37_1, kc37_0, rfl, Nq37, Kq37, sq_b37_0, sq_b37_1, nq37_0, fq37_0, fq37_1, fq37_2, fq37_3, fq37_4⟩ := hQ37
  have N37 := Fr.app N35 Nq37
  have sz_b37_0 : h0.size ≤ b37_0 := Nat.le_trans K35.1 sq_b37_0
  have sz_b37_1 : h0.size ≤ b37_1 := Nat.le_trans K35.1 sq_b37_1
  have CH37 := CH35.trans (CHr.keep Kq37 all0 CH35.1)
  have hk37 := Nat.le_trans hk35 Kq37.1
  have K37 : Keep h0 T37.heap [] := K35.trans Kq37 all0
  have V37_4 : Arv Z T37.heap b37_1 kc37_0 .byte ((23 : Int32) - (0 : Int32)) [(.int 35), (.int 36), (.int 36), (.int 35), (.int 123), (.int p5), (.int 58), (.int p9), (.int 125), (.int 123), (.int (eb 0 l_a10)), (.int (eb 1 l_a10)), (.int (eb 2 l_a10)), (.int (eb 3 l_a10)), (.int (eb 4 l_a10)), (.int (eb 5 l_a10)), (.int (eb 6 l_a10)), (.int (eb 7 l_a10)), (.int 125), (.int 35), (.int 36), (.int 36), (.int 35)] (.int 0) := fq37_4
  obtain ⟨fs, hr, hrun, hended, hE⟩ := Stand.leaveW (s := s) X37 hS34 hk37 (v := some (.ref b37_0)) (fun h => by rw [Bd.returns] at h; cases h)
  have CHz : CHr Z own_EL s.vm s.heap (T37.setFrames fs).vm (T37.setFrames fs).heap := by
    rw [hh]
    show CHr Z own_EL s.vm h0 T37.vm T37.heap
    exact CH37.trans (CHv.at X37 hZ34 (own_EW hw) CH37.1)
  refine ⟨_, _, castTop (ef_9_0 m a1) ?_, hrun, hended, _, _, rfl, ?_, CHz, hE.1, hE.2.1, hE.2.2.1, hE.2.2.2.mono (by decide) (by decide)⟩
  · show Sp p e below s₁ (mkF m 0 #[vr a1] []) _
    refine st1 _ ?_
    refine XS.dup X1.here hx rfl (hb hby d9_3) rfl rfl ?_
    refine st2.trans ?_
    refine st3 _ ?_
    refine st4.trans ?_
    refine aln X4 qz d9_12 ?_
    refine st7 _ ?_
    refine st11.trans ?_
    refine st13 _ ?_
    refine st14.trans ?_
    refine aln X14 qz d9_24 ?_
    refine st17 _ ?_
    refine st22.trans ?_
    refine st24 _ ?_
    refine st25.trans ?_
    refine st27 _ ?_
    show Sp p e below T27 (mkF m 39 #[vr a1] [(.ref w_enc), (.ref b1)]) _
    refine aln X27 qz d9_39 ?_
    refine st29 _ ?_
    refine st32.trans ?_
    refine st33.trans ?_
    refine st34 _ ?_
    refine st35.trans ?_
    refine st37.trans ?_
    jvm_step X37.here [X37.here.top, hx, (hb hby d9_57), X37.method', Bd.returns, Value.isRef, FieldType.isReference]
    first | (intro acts; rw [hr _ acts rfl rfl rfl]) | rw [hr _ _ rfl rfl rfl]
    exact Steps.refl _
  · show Q78 Z w_enc w_tb cs_v cl_tb wv_fm a1 a2 a3 k_a3 p5 a6 a7 k_a7 p9 a10 k_a10 l_a10 p13 h0 n0 _ T37.heap _
    exact ⟨b37_0, b37_1, kc37_0, rfl, N37, K37, sz_b37_0, sz_b37_1, nq37_0, fq37_0, fq37_1, fq37_2, fq37_3, V37_4⟩
theorem own_nh6 {n : Int32} (r0 : 0 ≤ n.toInt ∧ n.toInt < 7) (h0 : ¬ n < (1 : Int32)) (h1 : ¬ n < (4 : Int32)) : ¬ (n = (0 : Int32)) := by have r1 := own_nltI (n := 1) rfl h0; have r2 := own_nltI (n := 4) rfl h1; rw [← Int32.toInt_inj, show (0 : Int32).toInt = 0 from rfl]; omega
theorem own_nh7 {n : Int32} (r0 : 0 ≤ n.toInt ∧ n.toInt < 7) (h0 : ¬ n < (1 : Int32)) (h1 : ¬ n < (4 : Int32)) : (3 : Int32) < n := by have r1 := own_nltI (n := 1) rfl h0; have r2 := own_nltI (n := 4) rfl h1; rw [Int32.lt_iff_toInt_lt, show (3 : Int32).toInt = 3 from rfl]; omega
theorem own_nh8 {n : Int32} (r0 : 0 ≤ n.toInt ∧ n.toInt < 7) (h0 : ¬ n < (1 : Int32)) (h1 : ¬ n < (4 : Int32)) : (0 : Int32) < n := by have r1 := own_nltI (n := 1) rfl h0; have r2 := own_nltI (n := 4) rfl h1; rw [Int32.lt_iff_toInt_lt, show (0 : Int32).toInt = 0 from rfl]; omega
theorem rm79 (l : Launch) (Z : State) (a0 : Array Value) (hw : HW Z a0) (ws : List Jvm.Cond) (w_enc w_tb : Addr) (cs_v : Int32) (cl_tb : Cell) (wv_fm : Value) (hp : Perm Z w_enc w_tb cs_v cl_tb wv_fm) (p1 : Int32) (h0 : Heap) (n0 : Nat) (O0 : Old Z n0 h0) (hc1 : (3 : Int32) < p1) :
    MF l y6 (Jvm.Cond.code y6 jdk_29_method_69_code 2 (some .int) :: ws) ({ frames := 0, cells := 0, slots := 0, locals := 0 } : Room) Z #[(.int p1), (.int 3)] h0 (fun v h L => v = some (.int 3) ∧ Fr n0 L ∧ h = h0) := by
  refine mfB (Jvm.Free.JP.mathPlain rfl (by decide +kernel)) hw fun p e s m below meth c s₁ Bd Kz X0 e0 => ?_
  obtain ⟨hx, hby, hml, hZ, hown, -⟩ := id Kz
  have qz := And.intro hx hby
  have N0 := Fr.nil n0
  refine mfE Bd X0 (some (.int 3)) e0 (fun h => by rw [Bd.returns] at h; cases h) (ef_35_0 m p1 (3 : Int32)) ⟨rfl, N0, rfl⟩ fun fs hr => ?_
  refine iln X0 qz d35_0 ?_
  refine iln X0 qz d35_1 ?_
  refine icY X0 qz 2 9 d35_2 (tlt hc1).2.2.1 ?_
  refine iln X0 qz d35_9 ?_
  exact retI X0 hx Bd.returns (hb hby d35_10) hr
abbrev fx61 (x0 : Int64) (x1 : Int32) : Int32 := (gx0 (3 : Int32) (bA x0 (0 : Int32) (nE x1)) (bA x0 (1 : Int32) (nE x1)) (bA x0 (2 : Int32) (nE x1)))
abbrev fx62 (x0 : Int64) (x1 : Int32) : Int32 := (gx1 (3 : Int32) (bA x0 (0 : Int32) (nE x1)) (bA x0 (1 : Int32) (nE x1)) (bA x0 (2 : Int32) (nE x1)))
abbrev fx63 (x0 : Int64) (x1 : Int32) : Int32 := (gx2 (3 : Int32) (bA x0 (0 : Int32) (nE x1)) (bA x0 (1 : Int32) (nE x1)) (bA x0 (2 : Int32) (nE x1)))
abbrev fx64 (x0 : Int64) (x1 : Int32) : Int32 := (gx3 (3 : Int32) (bA x0 (0 : Int32) (nE x1)) (bA x0 (1 : Int32) (nE x1)) (bA x0 (2 : Int32) (nE x1)))
abbrev fx65 (x0 : Int32) (x1 : Int64) : Int32 := (gx0 ((nE x0) - (3 : Int32)) (bA x1 (3 : Int32) (nE x0)) (bA x1 (4 : Int32) (nE x0)) (bA x1 (5 : Int32) (nE x0)))
abbrev fx66 (x0 : Int32) (x1 : Int64) : Int32 := (gx1 ((nE x0) - (3 : Int32)) (bA x1 (3 : Int32) (nE x0)) (bA x1 (4 : Int32) (nE x0)) (bA x1 (5 : Int32) (nE x0)))
abbrev fx67 (x0 : Int32) (x1 : Int64) : Int32 := (gx2 ((nE x0) - (3 : Int32)) (bA x1 (3 : Int32) (nE x0)) (bA x1 (4 : Int32) (nE x0)) (bA x1 (5 : Int32) (nE x0)))
abbrev fx68 (x0 : Int32) (x1 : Int64) : Int32 := (gx3 ((nE x0) - (3 : Int32)) (bA x1 (3 : Int32) (nE x0)) (bA x1 (4 : Int32) (nE x0)) (bA x1 (5 : Int32) (nE x0)))
theorem rm80 (l : Launch) (Z : State) (a0 : Array Value) (hw : ∀ d ∈ tables_1, d.before a0 Z = true) (ws : List Jvm.Cond) (w_enc w_tb : Addr) (cs_v : Int32) (cl_tb : Cell) (wv_fm : Value) (hp : Perm Z w_enc w_tb cs_v cl_tb wv_fm) (p0 : Int32) (p1 : Int32) (p2 : Int32) (p3 : Int64) (h0 : Heap) (n0 : Nat) (O0 : Old Z n0 h0) (hc1 : ¬ ((nE p2) < (1 : Int32))) (hc2 : ¬ ((nE p2) < (4 : Int32))) :
    MetFree l x (head1 (Jvm.Cond.code x code maxLocals ret :: ws) room_1) (fun a U => a = #[(.int p0), (.int p1), (.int p2), (.long p3)] ∧ Z.Warmed39 U.vm ∧ U.heap = h0 ∧ CHv Z own_EL U.vm h0) (fun _ _ _ _ _ => True) (fun _ U o U' => ∃ v L, o = .returned v ∧ (v = some (.int 1) ∧ Fr n0 L) ∧ ReturnedEndW U o U' L 56 5568) := by
  refine MetFree.of_bodySF (plainFor_of_name pn_46) hisR ?_
  intro p e s m args below meth c s₁ Bd hml0 hP hK
  obtain ⟨rfl, hZo, hh, hCH⟩ := hP
  have hx := Bd.exec
  have hby := Bd.bytes
  have qz := And.intro hx hby
  have hml : c.maxLocals = 20 := hml0
  have hown : (s.setVm s.vm).vm.findClass "com/example/cloakfield/cloakfield/format/TaggedValueToTextPinLaw" = some m.cls := findClass_of_methodNamed Bd.named
  have hnm := (name_of_methodNamed Bd.named Bd.method).1
  have X0 : Stand p l e room_1 (s.setVm s.vm) m #[(.int p0), (.int p1), (.int p2), (.long p3)] below meth c s₁ [] 0 0 := Stand.of_body Bd
  have e0 : s₁.heap = h0 := by rw [← hh, Bd.state]; rfl
  have N0 := Fr.nil n0
  have hZ : Z.Warmed39 (s.setVm s.vm).vm := hZo
  have CH0 := CHr.refl hCH
  have hS0 : s.Since s.vm 0 := (State.WarmedH.refl s).since 0
  have hk0 : 0 ≤ h0.size := Nat.zero_le _
  have hp' := hp
  obtain ⟨S_COMPACT_STRINGS, h_cs, _⟩ := hp'
  have Kz := And.intro hx (And.intro hby (And.intro hml (And.intro hZ (And.intro hown hw))))
  obtain ⟨_, T1, Lc1, X1, hQ1, st1⟩ := cS X0 Kz y1 0 1 2 3 4 (rmBA l Z a0 hw [] w_enc w_tb cs_v cl_tb wv_fm hp p3 (0 : Int32) (nE p2) h0 n0 O0) e0 (mkF m 29 #[vi p0, vi p1, vi p2, vj p3, .second, vi (nE p2), vi (fx41 p0), vi (fx41 p1), uu, uu, uu, uu, uu, uu, uu, uu, uu, uu, uu, uu] [(.int (nE p2)), (.int 0), (.long p3)]) [(.long p3), (.int 0), (.int (nE p2))] [] pd_3 at_29
  obtain ⟨rfl, Nq1, eq1⟩ := hQ1
  have N1 := Fr.app N0 Nq1
  obtain ⟨_, T2, Lc2, X2, hQ2, st2⟩ := cS X1 Kz y1 0 1 2 3 4 (rmBA l Z a0 hw [] w_enc w_tb cs_v cl_tb wv_fm hp p3 (1 : Int32) (nE p2) h0 n0 O0) eq1 (mkF m 38 #[vi p0, vi p1, vi p2, vj p3, .second, vi (nE p2), vi (fx41 p0), vi (fx41 p1), vi (fx42 p3 p2), uu, uu, uu, uu, uu, uu, uu, uu, uu, uu, uu] [(.int (nE p2)), (.int 1), (.long p3)]) [(.long p3), (.int 1), (.int (nE p2))] [] pd_3 at_38
  obtain ⟨rfl, Nq2, eq2⟩ := hQ2
  have N2 := Fr.app N1 Nq2
  obtain ⟨_, T3, Lc3, X3, hQ3, st3⟩ := cS X2 Kz y1 0 1 2 3 4 (rmBA l Z a0 hw [] w_enc w_tb cs_v cl_tb wv_fm hp p3 (2 : Int32) (nE p2) h0 n0 O0) eq2 (mkF m 47 #[vi p0, vi p1, vi p2, vj p3, .second, vi (nE p2), vi (fx41 p0), vi (fx41 p1), vi (fx42 p3 p2), vi (fx43 p3 p2), uu, uu, uu, uu, uu, uu, uu, uu, uu, uu] [(.int (nE p2)), (.int 2), (.long p3)]) [(.long p3), (.int 2), (.int (nE p2))] [] pd_3 at_47
  obtain ⟨rfl, Nq3, eq3⟩ := hQ3
  have N3 := Fr.app N2 Nq3
  obtain ⟨_, T4, Lc4, X4, hQ4, st4⟩ := cS X3 Kz y1 0 1 2 3 4 (rmBA l Z a0 hw [] w_enc w_tb cs_v cl_tb wv_fm hp p3 (3 : Int32) (nE p2) h0 n0 O0) eq3 (mkF m 56 #[vi p0, vi p1, vi p2, vj p3, .second, vi (nE p2), vi (fx41 p0), vi (fx41 p1), vi (fx42 p3 p2), vi (fx43 p3 p2), vi (fx44 p3 p2), uu, uu, uu, uu, uu, uu, uu, uu, uu] [(.int (nE p2)), (.int 3), (.long p3)]) [(.long p3), (.int 3), (.int (nE p2))] [] pd_3 at_56
  obtain ⟨rfl, Nq4, eq4⟩ := hQ4
  have N4 := Fr.app N3 Nq4
  obtain ⟨_, T5, Lc5, X5, hQ5, st5⟩ := cS X4 Kz y1 0 1 2 3 4 (rmBA l Z a0 hw [] w_enc w_tb cs_v cl_tb wv_fm hp p3 (4 : Int32) (nE p2) h0 n0 O0) eq4 (mkF m 65 #[vi p0, vi p1, vi p2, vj p3, .second, vi (nE p2), vi (fx41 p0), vi (fx41 p1), vi (fx42 p3 p2), vi (fx43 p3 p2), vi (fx44 p3 p2), vi (fx45 p3 p2), uu, uu, uu, uu, uu, uu, uu, uu] [(.int (nE p2)), (.int 4), (.long p3)]) [(.long p3), (.int 4), (.int (nE p2))] [] pd_3 at_65
  obtain ⟨rfl, Nq5, eq5⟩ := hQ5
  have N5 := Fr.app N4 Nq5
  obtain ⟨_, T6, Lc6, X6, hQ6, st6⟩ := cS X5 Kz y1 0 1 2 3 4 (rmBA l Z a0 hw [] w_enc w_tb cs_v cl_tb wv_fm hp p3 (5 : Int32) (nE p2) h0 n0 O0) eq5 (mkF m 74 #[vi p0, vi p1, vi p2, vj p3, .second, vi (nE p2), vi (fx41 p0), vi (fx41 p1), vi (fx42 p3 p2), vi (fx43 p3 p2), vi (fx44 p3 p2), vi (fx45 p3 p2), vi (fx46 p3 p2), uu, uu, uu, uu, uu, uu, uu] [(.int (nE p2)), (.int 5), (.long p3)]) [(.long p3), (.int 5), (.int (nE p2))] [] pd_3 at_74
  obtain ⟨rfl, Nq6, eq6⟩ := hQ6
  have N6 := Fr.app N5 Nq6
  obtain ⟨T7, h7, L7, b7, kb7, X7, e7, N7, Kq7, sq_b7, Eb7, Vb7, st7⟩ := own_pay l Z a0 hw p0 p1 p2 p3 ((p0 &&& (255 : Int32)).toUInt32.toUInt16.toUInt32.toInt32) ((p1 &&& (255 : Int32)).toUInt32.toUInt16.toUInt32.toInt32) (bA p3 (0 : Int32) (nE p2)) (bA p3 (1 : Int32) (nE p2)) (bA p3 (2 : Int32) (nE p2)) (bA p3 (3 : Int32) (nE p2)) (bA p3 (4 : Int32) (nE p2)) (bA p3 (5 : Int32) (nE p2)) (nE p2) (own_nE p2) h0 n0 O0 X6 hx hZ hby hml hown eq6 N6
  have CH7 := CH0.trans (CHr.keep Kq7 all0 CH0.1)
  have hk7 := Nat.le_trans hk0 Kq7.1
  have O7 := O0.keep Kq7 all0
  obtain ⟨T8, h8, X8, e8, E8, A8, D8, -, st8⟩ := newO X7 hx hZ hown (wq hw 7 rfl) (wq hw 8 rfl) (wq hw 9 rfl) e7 (g := (mkF m 162 #[vi p0, vi p1, vi p2, vj p3, .second, vi (nE p2), vi (fx41 p0), vi (fx41 p1), vi (fx42 p3 p2), vi (fx43 p3 p2), vi (fx44 p3 p2), vi (fx45 p3 p2), vi (fx46 p3 p2), vi (fx47 p3 p2), vr b7, uu, uu, uu, uu, uu] [])) rfl (hb hby at_162) (by decide) (by decide)
  obtain ⟨b8, g8⟩ : ∃ z, z = h7.size := ⟨_, rfl⟩
  rw [← g8] at A8 D8 st8
  have g_b8 : n0 ≤ b8 := Nat.le_trans (own_sz O7) (Nat.le_of_eq g8.symm)
  have O8 := O7.ext E8
  have CH8 := CH7.trans (CHr.ext E8 CH7.1)
  have hk8 := Nat.le_trans hk7 E8.1
  have F_algorithm_b8 : Fld Z h8 b8 "com/example/cloakfield/cloakfield/format/TaggedValue" "algorithm" "Ljava/lang/String;" .null := D8 (Or.inr (wq hw 45 rfl)) (ty := (.object "java/lang/String")) (by decide)
  have F_keyId_b8 : Fld Z h8 b8 "com/example/cloakfield/cloakfield/format/TaggedValue" "keyId" "Ljava/lang/String;" .null := D8 (Or.inr (wq hw 47 rfl)) (ty := (.object "java/lang/String")) (by decide)
  have F_payload_b8 : Fld Z h8 b8 "com/example/cloakfield/cloakfield/format/TaggedValue" "payload" "[B" .null := D8 (Or.inr (wq hw 49 rfl)) (ty := (.array .byte)) (by decide)
  obtain ⟨_, T9, Lc9, X9, hQ9, st9⟩ := cS X8 Kz y13 2 10 11 12 13 (rm31 l Z a0 hw [] w_enc w_tb cs_v cl_tb wv_fm hp ((p0 &&& (255 : Int32)).toUInt32.toUInt16.toUInt32.toInt32) h8 n0 O8 (own_ch1 p0)) e8 (mkF m 168 #[vi p0, vi p1, vi p2, vj p3, .second, vi (nE p2), vi (fx41 p0), vi (fx41 p1), vi (fx42 p3 p2), vi (fx43 p3 p2), vi (fx44 p3 p2), vi (fx45 p3 p2), vi (fx46 p3 p2), vi (fx47 p3 p2), vr b7, uu, uu, uu, uu, uu] [(.int (fx41 p0)), (.ref b8), (.ref b8)]) [(.int (fx41 p0))] [(.ref b8), (.ref b8)] pd_7 at_168
  obtain ⟨b9_0, b9_1, kc9_0, rfl, Nq9, Kq9, sq_b9_0, sq_b9_1, nq9_0, fq9_0, fq9_1, fq9_2, fq9_3, fq9_4⟩ := hQ9
  have N9 := Fr.app N7 Nq9
  have CH9 := CH8.trans (CHr.keep Kq9 all0 CH8.1)
  have hk9 := Nat.le_trans hk8 Kq9.1
  have O9 := O8.keep Kq9 all0
  obtain ⟨_, T10, Lc10, X10, hQ10, st10⟩ := cS X9 Kz y13 3 10 11 12 13 (rm31 l Z a0 hw [] w_enc w_tb cs_v cl_tb wv_fm hp ((p1 &&& (255 : Int32)).toUInt32.toUInt16.toUInt32.toInt32) T9.heap n0 O9 (own_ch1 p1)) rfl (mkF m 173 #[vi p0, vi p1, vi p2, vj p3, .second, vi (nE p2), vi (fx41 p0), vi (fx41 p1), vi (fx42 p3 p2), vi (fx43 p3 p2), vi (fx44 p3 p2), vi (fx45 p3 p2), vi (fx46 p3 p2), vi (fx47 p3 p2), vr b7, uu, uu, uu, uu, uu] [(.int (fx41 p1)), (.ref b9_0), (.ref b8), (.ref b8)]) [(.int (fx41 p1))] [(.ref b9_0), (.ref b8), (.ref b8)] pd_7 at_173
  obtain ⟨b10_0, b10_1, kc10_0, rfl, Nq10, Kq10, sq_b10_0, sq_b10_1, nq10_0, fq10_0, fq10_1, fq10_2, fq10_3, fq10_4⟩ := hQ10
  have N10 := Fr.app N9 Nq10
  have CH10 := CH9.trans (CHr.keep Kq10 all0 CH9.1)
  have hk10 := Nat.le_trans hk9 Kq10.1
  have O10 := O9.keep Kq10 all0
  obtain ⟨_, T11, Lc11, X11, hQ11, st11⟩ := sB X10 Kz y15 1 35 36 37 9 (rm33 l Z a0 hw [] w_enc w_tb cs_v cl_tb wv_fm hp b8 b9_0 b10_0 b7 T10.heap n0 O10 ((A8.keep Kq9).keep Kq10) ((F_algorithm_b8.keep Kq9 nin0).keep Kq10 nin0) ((F_keyId_b8.keep Kq9 nin0).keep Kq10 nin0) ((F_payload_b8.keep Kq9 nin0).keep Kq10 nin0) g_b8) rfl b8 (mkF m 178 #[vi p0, vi p1, vi p2, vj p3, .second, vi (nE p2), vi (fx41 p0), vi (fx41 p1), vi (fx42 p3 p2), vi (fx43 p3 p2), vi (fx44 p3 p2), vi (fx45 p3 p2), vi (fx46 p3 p2), vi (fx47 p3 p2), vr b7, uu, uu, uu, uu, uu] [(.ref b7), (.ref b10_0), (.ref b9_0), (.ref b8), (.ref b8)]) [(.ref b9_0), (.ref b10_0), (.ref b7)] [(.ref b8)] pd_9 at_178
  obtain ⟨rfl, Nq11, Kq11, fq11_0, fq11_1, fq11_2, fq11_3⟩ := hQ11
  have N11 := Fr.app N10 Nq11
  have CH11 := CH10.trans (CHr.keep Kq11 (allS (Safe.exa hZo.alike ((A8.keep Kq9).keep Kq10) (by decide) (by decide)) all0) CH10.1)
  have hk11 := Nat.le_trans hk10 Kq11.1
  have O11 := O10.keep Kq11 (allS g_b8 all0)
  have nz0 : b8 ≠ b9_0 := (Nat.ne_of_lt (Nat.lt_of_lt_of_le A8.lt sq_b9_0))
  have nz1 : b8 ≠ b9_1 := (Nat.ne_of_lt (Nat.lt_of_lt_of_le A8.lt sq_b9_1))
  have nz2 : b8 ≠ b10_0 := (Nat.ne_of_lt (Nat.lt_of_lt_of_le (A8.keep Kq9).lt sq_b10_0))
  have nz3 : b8 ≠ b10_1 := (Nat.ne_of_lt (Nat.lt_of_lt_of_le (A8.keep Kq9).lt sq_b10_1))
  have nz4 : b7 ≠ b8 := (Nat.ne_of_lt (Nat.lt_of_lt_of_le Eb7.lt (Nat.le_of_eq g8.symm)))
  have f_12 := ((((Vb7.ext E8).keep Kq9 nin0).keep Kq10 nin0).keep Kq11 (ninS nz4 nin0))
  obtain ⟨cq13, kq13, q13a, q13b, q13c⟩ := isOf hZ rfl fq11_0
  obtain ⟨_, _, ⟨T13, L13, k13, n13⟩, -, XX13, Sq13, gq13, ⟨Lc13, hQ13, l13, y13, z13, C13⟩, st13⟩ := X11.virtualBackS hx (y := y42) (z := y42) hown (mvT hZ (wq hw 50 rfl)) (mvT hZ (wq hw 51 rfl)) (notFace_of_selects (args := #[]) (mvT hZ (wq hw 53 rfl))) (mvT hZ (wq hw 53 rfl)) (mvT hZ (wq hw 52 rfl)) (by decide) (own_backC (SL := []) (W := 0) (rm78 l Z a0 hw [] w_enc w_tb cs_v cl_tb wv_fm hp b8 b9_0 b9_1 kc9_0 (nar .byte (((p0 &&& (255 : Int32)).toUInt32.toUInt16.toUInt32.toInt32).toInt8.toInt32)) b10_0 b10_1 kc10_0 (nar .byte (((p1 &&& (255 : Int32)).toUInt32.toUInt16.toUInt32.toInt32).toInt8.toInt32)) b7 kb7 (plL (nE p2) (bA p3 (0 : Int32) (nE p2)) (bA p3 (1 : Int32) (nE p2)) (bA p3 (2 : Int32) (nE p2)) (bA p3 (3 : Int32) (nE p2)) (bA p3 (4 : Int32) (nE p2)) (bA p3 (5 : Int32) (nE p2))) (nE p2) T11.heap n0 O11 fq11_1 fq11_0 ((fq9_0.keep Kq10).keep Kq11) ((fq9_2.keep Kq10 nin0).keep Kq11 (ninS (Ne.symm nz0) nin0)) ((fq9_4.keep Kq10 nin0).keep Kq11 (ninS (Ne.symm nz1) nin0)) ((fq9_1.keep Kq10 nin0).keep Kq11 (ninS (Ne.symm nz0) nin0)) ((fq9_3.keep Kq10).keep Kq11) fq11_2 (fq10_0.keep Kq11) (fq10_2.keep Kq11 (ninS (Ne.symm nz2) nin0)) (fq10_4.keep Kq11 (ninS (Ne.symm nz3) nin0)) (fq10_1.keep Kq11 (ninS (Ne.symm nz2) nin0)) (fq10_3.keep Kq11) fq11_3 f_12 ((((Eb7.ext E8).keep Kq9).keep Kq10).keep Kq11) (by rw [(own_eom8 (own_nE p2) hc2)] <;> decide : ¬ ((((eoL (nE p2)) ||| (0 : Int32)) ||| (eoL (nE p2))) < (0 : Int32))) (by rw [(own_eom8 (own_nE p2) hc2)] <;> decide : ¬ (((eoL (nE p2)) - (0 : Int32)) < (eoL (nE p2)))) (by rw [(own_eom8 (own_nE p2) hc2)] <;> decide : ¬ ((eoL (nE p2)) = (0 : Int32))) (by rw [(own_eom8 (own_nE p2) hc2)] <;> decide : ((0 : Int32) + (eoL (nE p2))) = (eoL (nE p2))) (own_nE p2) (by rw [(own_eom8 (own_nE p2) hc2)] <;> decide) (by rw [(own_eom8 (own_nE p2) hc2)] <;> decide) (own_encin (own_nE p2)) (own_eom8 (own_nE p2) hc2) (own_elm8 (own_nE p2) hc2)) hZ (wq hw 54 rfl) (wq hw 9 rfl) (by decide) (by decide) (own_EW hw) CH11.1 all0) q13a q13c (g := (mkF m 185 #[vi p0, vi p1, vi p2, vj p3, .second, vi (nE p2), vi (fx41 p0), vi (fx41 p1), vi (fx42 p3 p2), vi (fx43 p3 p2), vi (fx44 p3 p2), vi (fx45 p3 p2), vi (fx46 p3 p2), vi (fx47 p3 p2), vr b7, vr b8, uu, uu, uu, uu] [(.ref b8)])) rfl (by rw [hml]; rfl) (Steps.refl _) (argsL := []) (rest := []) (lenOf pd_32 rfl) rfl (by show 2 * 0 + _ ≤ _; exact Nat.le_of_eq rfl) (hb hby at_185) (fun _ _ => ⟨rfl, rfl, (by decide : 6 + 16 ≤ _), (by decide : 19 + 256 ≤ _)⟩)
  dsimp only [Pt.U, Pt.locs, Pt.cells, Pt.slots] at XX13 Sq13 gq13 l13 y13 z13 st13 hQ13 C13
  subst l13 y13 z13
  obtain ⟨X13, hS13, hZ13, hown13⟩ := rebS hS0 hk11 XX13 Sq13 gq13 hZ hown
  obtain ⟨b13_0, b13_1, kc13_0, rfl, Nq13, Kq13, sq_b13_0, sq_b13_1, nq13_0, fq13_0, fq13_1, fq13_2, fq13_3, fq13_4⟩ := hQ13
  have N13 := Fr.app N11 Nq13
  have CH13 := CH11.trans C13
  have hk13 : T13.heap.size ≤ T13.heap.size := Nat.le_refl _
  have O13 := O11.keep Kq13 all0
  obtain ⟨T14, h14, k14, X14, e14, E14, A14, EA14, st14⟩ := newPE X13 hx hZ13 (wq hw 248 rfl) rfl (g := (mkF m 240 #[vi p0, vi p1, vi p2, vj p3, .second, vi (nE p2), vi (fx41 p0), vi (fx41 p1), vi (fx42 p3 p2), vi (fx43 p3 p2), vi (fx44 p3 p2), vi (fx45 p3 p2), vi (fx46 p3 p2), vi (fx47 p3 p2), vr b7, vr b8, vr b13_0, vi 8, uu, uu] [(.int 23)])) rfl (hb hby at_240) rfl (by decide) (cap := 23) (by decide) (by decide) (by decide) (by decide) (ad := "[C") (by decide)
  obtain ⟨b14, g14⟩ : ∃ z, z = T13.heap.size := ⟨_, rfl⟩
  rw [← g14] at A14 EA14 st14
  have g_b14 : n0 ≤ b14 := Nat.le_trans (own_sz O13) (Nat.le_of_eq g14.symm)
  have O14 := O13.ext E14
  have CH14 := CH13.trans (CHr.ext E14 CH13.1)
  have hk14 := Nat.le_trans hk13 E14.1
  have V_b14 : Arv Z h14 b14 k14 .char (23 : Int32) [(.int 0), (.int 0), (.int 0), (.int 0), (.int 0), (.int 0), (.int 0), (.int 0), (.int 0), (.int 0), (.int 0), (.int 0), (.int 0), (.int 0), (.int 0), (.int 0), (.int 0), (.int 0), (.int 0), (.int 0), (.int 0), (.int 0), (.int 0)] (.int 0) := (Arv.new A14 (by decide)).pad (pad_rep [] (.int 0) 23)
  obtain ⟨T16, h16, X16, e16, W16, V_b14_16, st16⟩ := wC X14 ⟨hx, hby, hml, hZ13, hown13, hw⟩ e14 V_b14 (0 : Int32) 0 (mkF m 249 #[vi p0, vi p1, vi p2, vj p3, .second, vi (nE p2), vi (fx41 p0), vi (fx41 p1), vi (fx42 p3 p2), vi (fx43 p3 p2), vi (fx44 p3 p2), vi (fx45 p3 p2), vi (fx46 p3 p2), vi (fx47 p3 p2), vr b7, vr b8, vr b13_0, vi 8, vr b14, uu] [(.int 35), (.int 0), (.ref b14)]) at_249
  have N16 := Fr.snoc X16 N13 g_b14
  have O16 := O14.wr W16 g_b14
  have CH16 := CH14.trans (CHr.wr W16 (Safe.exa hZ13.alike EA14 (by decide) (by decide)) CH14.1)
  have hk16 := Nat.le_trans hk14 (Keep.of_wr W16).1
  obtain ⟨T18, h18, X18, e18, W18, V_b14_18, st18⟩ := wC X16 ⟨hx, hby, hml, hZ13, hown13, hw⟩ e16 V_b14_16 (1 : Int32) 1 (mkF m 255 #[vi p0, vi p1, vi p2, vj p3, .second, vi (nE p2), vi (fx41 p0), vi (fx41 p1), vi (fx42 p3 p2), vi (fx43 p3 p2), vi (fx44 p3 p2), vi (fx45 p3 p2), vi (fx46 p3 p2), vi (fx47 p3 p2), vr b7, vr b8, vr b13_0, vi 8, vr b14, uu] [(.int 36), (.int 1), (.ref b14)]) at_255
  have N18 := Fr.snoc X18 N16 g_b14
  have O18 := O16.wr W18 g_b14
  have CH18 := CH16.trans (CHr.wr W18 (Safe.exa hZ13.alike (EA14.wr W16) (by decide) (by decide)) CH16.1)
  have hk18 := Nat.le_trans hk16 (Keep.of_wr W18).1
  obtain ⟨T20, h20, X20, e20, W20, V_b14_20, st20⟩ := wC X18 ⟨hx, hby, hml, hZ13, hown13, hw⟩ e18 V_b14_18 (2 : Int32) 2 (mkF m 261 #[vi p0, vi p1, vi p2, vj p3, .second, vi (nE p2), vi (fx41 p0), vi (fx41 p1), vi (fx42 p3 p2), vi (fx43 p3 p2), vi (fx44 p3 p2), vi (fx45 p3 p2), vi (fx46 p3 p2), vi (fx47 p3 p2), vr b7, vr b8, vr b13_0, vi 8, vr b14, uu] [(.int 36), (.int 2), (.ref b14)]) at_261
  have N20 := Fr.snoc X20 N18 g_b14
  have O20 := O18.wr W20 g_b14
  have CH20 := CH18.trans (CHr.wr W20 (Safe.exa hZ13.alike ((EA14.wr W16).wr W18) (by decide) (by decide)) CH18.1)
  have hk20 := Nat.le_trans hk18 (Keep.of_wr W20).1
  have RV_b14_20 : Arv Z h20 b14 k14 .char (23 : Int32) [(.int 35), (.int 36), (.int 36), (.int 0), (.int 0), (.int 0), (.int 0), (.int 0), (.int 0), (.int 0), (.int 0), (.int 0), (.int 0), (.int 0), (.int 0), (.int 0), (.int 0), (.int 0), (.int 0), (.int 0), (.int 0), (.int 0), (.int 0)] (.int 0) := V_b14_20
  obtain ⟨T22, h22, X22, e22, W22, V_b14_22, st22⟩ := wC X20 ⟨hx, hby, hml, hZ13, hown13, hw⟩ e20 RV_b14_20 (3 : Int32) 3 (mkF m 267 #[vi p0, vi p1, vi p2, vj p3, .second, vi (nE p2), vi (fx41 p0), vi (fx41 p1), vi (fx42 p3 p2), vi (fx43 p3 p2), vi (fx44 p3 p2), vi (fx45 p3 p2), vi (fx46 p3 p2), vi (fx47 p3 p2), vr b7, vr b8, vr b13_0, vi 8, vr b14, uu] [(.int 35), (.int 3), (.ref b14)]) at_267
  have N22 := Fr.snoc X22 N20 g_b14
  have O22 := O20.wr W22 g_b14
  have CH22 := CH20.trans (CHr.wr W22 (Safe.exa hZ13.alike (((EA14.wr W16).wr W18).wr W20) (by decide) (by decide)) CH20.1)
  have hk22 := Nat.le_trans hk20 (Keep.of_wr W22).1
  obtain ⟨T24, h24, X24, e24, W24, V_b14_24, st24⟩ := wC X22 ⟨hx, hby, hml, hZ13, hown13, hw⟩ e22 V_b14_22 (4 : Int32) 4 (mkF m 273 #[vi p0, vi p1, vi p2, vj p3, .second, vi (nE p2), vi (fx41 p0), vi (fx41 p1), vi (fx42 p3 p2), vi (fx43 p3 p2), vi (fx44 p3 p2), vi (fx45 p3 p2), vi (fx46 p3 p2), vi (fx47 p3 p2), vr b7, vr b8, vr b13_0, vi 8, vr b14, uu] [(.int 123), (.int 4), (.ref b14)]) at_273
  have N24 := Fr.snoc X24 N22 g_b14
  have O24 := O22.wr W24 g_b14
  have CH24 := CH22.trans (CHr.wr W24 (Safe.exa hZ13.alike ((((EA14.wr W16).wr W18).wr W20).wr W22) (by decide) (by decide)) CH22.1)
  have hk24 := Nat.le_trans hk22 (Keep.of_wr W24).1
  obtain ⟨T26, h26, X26, e26, W26, V_b14_26, st26⟩ := wC X24 ⟨hx, hby, hml, hZ13, hown13, hw⟩ e24 V_b14_24 (5 : Int32) 5 (mkF m 279 #[vi p0, vi p1, vi p2, vj p3, .second, vi (nE p2), vi (fx41 p0), vi (fx41 p1), vi (fx42 p3 p2), vi (fx43 p3 p2), vi (fx44 p3 p2), vi (fx45 p3 p2), vi (fx46 p3 p2), vi (fx47 p3 p2), vr b7, vr b8, vr b13_0, vi 8, vr b14, uu] [(.int (fx41 p0)), (.int 5), (.ref b14)]) at_279
  have N26 := Fr.snoc X26 N24 g_b14
  have O26 := O24.wr W26 g_b14
  have CH26 := CH24.trans (CHr.wr W26 (Safe.exa hZ13.alike (((((EA14.wr W16).wr W18).wr W20).wr W22).wr W24) (by decide) (by decide)) CH24.1)
  have hk26 := Nat.le_trans hk24 (Keep.of_wr W26).1
  have RV_b14_26 : Arv Z h26 b14 k14 .char (23 : Int32) [(.int 35), (.int 36), (.int 36), (.int 35), (.int 123), (.int (fx52 p0)), (.int 0), (.int 0), (.int 0), (.int 0), (.int 0), (.int 0), (.int 0), (.int 0), (.int 0), (.int 0), (.int 0), (.int 0), (.int 0), (.int 0), (.int 0), (.int 0), (.int 0)] (.int 0) := V_b14_26
  obtain ⟨T28, h28, X28, e28, W28, V_b14_28, st28⟩ := wC X26 ⟨hx, hby, hml, hZ13, hown13, hw⟩ e26 RV_b14_26 (6 : Int32) 6 (mkF m 286 #[vi p0, vi p1, vi p2, vj p3, .second, vi (nE p2), vi (fx41 p0), vi (fx41 p1), vi (fx42 p3 p2), vi (fx43 p3 p2), vi (fx44 p3 p2), vi (fx45 p3 p2), vi (fx46 p3 p2), vi (fx47 p3 p2), vr b7, vr b8, vr b13_0, vi 8, vr b14, uu] [(.int 58), (.int 6), (.ref b14)]) at_286
  have N28 := Fr.snoc X28 N26 g_b14
  have O28 := O26.wr W28 g_b14
  have CH28 := CH26.trans (CHr.wr W28 (Safe.exa hZ13.alike ((((((EA14.wr W16).wr W18).wr W20).wr W22).wr W24).wr W26) (by decide) (by decide)) CH26.1)
  have hk28 := Nat.le_trans hk26 (Keep.of_wr W28).1
  obtain ⟨T30, h30, X30, e30, W30, V_b14_30, st30⟩ := wC X28 ⟨hx, hby, hml, hZ13, hown13, hw⟩ e28 V_b14_28 (7 : Int32) 7 (mkF m 293 #[vi p0, vi p1, vi p2, vj p3, .second, vi (nE p2), vi (fx41 p0), vi (fx41 p1), vi (fx42 p3 p2), vi (fx43 p3 p2), vi (fx44 p3 p2), vi (fx45 p3 p2), vi (fx46 p3 p2), vi (fx47 p3 p2), vr b7, vr b8, vr b13_0, vi 8, vr b14, uu] [(.int (fx41 p1)), (.int 7), (.ref b14)]) at_293
  have f_31 := (((((((EA14.wr W16).wr W18).wr W20).wr W22).wr W24).wr W26).wr W28)
  have N30 := Fr.snoc X30 N28 g_b14
  have O30 := O28.wr W30 g_b14
  have CH30 := CH28.trans (CHr.wr W30 (Safe.exa hZ13.alike f_31 (by decide) (by decide)) CH28.1)
  have hk30 := Nat.le_trans hk28 (Keep.of_wr W30).1
  obtain ⟨T33, h33, X33, e33, W33, V_b14_33, st33⟩ := wC X30 ⟨hx, hby, hml, hZ13, hown13, hw⟩ e30 V_b14_30 (8 : Int32) 8 (mkF m 300 #[vi p0, vi p1, vi p2, vj p3, .second, vi (nE p2), vi (fx41 p0), vi (fx41 p1), vi (fx42 p3 p2), vi (fx43 p3 p2), vi (fx44 p3 p2), vi (fx45 p3 p2), vi (fx46 p3 p2), vi (fx47 p3 p2), vr b7, vr b8, vr b13_0, vi 8, vr b14, uu] [(.int 125), (.int 8), (.ref b14)]) at_300
  have N33 := Fr.snoc X33 N30 g_b14
  have O33 := O30.wr W33 g_b14
  have CH33 := CH30.trans (CHr.wr W33 (Safe.exa hZ13.alike (f_31.wr W30) (by decide) (by decide)) CH30.1)
  have hk33 := Nat.le_trans hk30 (Keep.of_wr W33).1
  have RV_b14_33 : Arv Z h33 b14 k14 .char (23 : Int32) [(.int 35), (.int 36), (.int 36), (.int 35), (.int 123), (.int (fx52 p0)), (.int 58), (.int (fx52 p1)), (.int 125), (.int 0), (.int 0), (.int 0), (.int 0), (.int 0), (.int 0), (.int 0), (.int 0), (.int 0), (.int 0), (.int 0), (.int 0), (.int 0), (.int 0)] (.int 0) := V_b14_33
  obtain ⟨T35, h35, X35, e35, W35, V_b14_35, st35⟩ := wC X33 ⟨hx, hby, hml, hZ13, hown13, hw⟩ e33 RV_b14_33 (9 : Int32) 9 (mkF m 307 #[vi p0, vi p1, vi p2, vj p3, .second, vi (nE p2), vi (fx41 p0), vi (fx41 p1), vi (fx42 p3 p2), vi (fx43 p3 p2), vi (fx44 p3 p2), vi (fx45 p3 p2), vi (fx46 p3 p2), vi (fx47 p3 p2), vr b7, vr b8, vr b13_0, vi 8, vr b14, uu] [(.int 123), (.int 9), (.ref b14)]) at_307
  have N35 := Fr.snoc X35 N33 g_b14
  have O35 := O33.wr W35 g_b14
  have CH35 := CH33.trans (CHr.wr W35 (Safe.exa hZ13.alike ((f_31.wr W30).wr W33) (by decide) (by decide)) CH33.1)
  have hk35 := Nat.le_trans hk33 (Keep.of_wr W35).1
  obtain ⟨_, T36, Lc36, X36, hQ36, st36⟩ := cS X35 ⟨hx, hby, hml, hZ13, hown13, hw⟩ y6 5 249 209 150 210 (rm79 l Z a0 hw [] w_enc w_tb cs_v cl_tb wv_fm hp (nE p2) h35 n0 O35 (own_nh7 (own_nE p2) hc1 hc2)) e35 (mkF m 326 #[vi p0, vi p1, vi p2, vj p3, .second, vi (nE p2), vi (fx41 p0), vi (fx41 p1), vi (fx42 p3 p2), vi (fx43 p3 p2), vi (fx44 p3 p2), vi (fx45 p3 p2), vi (fx46 p3 p2), vi (fx47 p3 p2), vr b7, vr b8, vr b13_0, vi 8, vr b14, uu] [(.int 3), (.int (nE p2)), (.int (fx44 p3 p2)), (.int (fx43 p3 p2)), (.int (fx42 p3 p2)), (.int 10), (.ref b14)]) [(.int (nE p2)), (.int 3)] [(.int (fx44 p3 p2)), (.int (fx43 p3 p2)), (.int (fx42 p3 p2)), (.int 10), (.ref b14)] pd_0 at_326
  obtain ⟨rfl, Nq36, eq36⟩ := hQ36
  have N36 := Fr.app N35 Nq36
  obtain ⟨_, T37, Lc37, X37, hQ37, st37⟩ := cS X36 ⟨hx, hby, hml, hZ13, hown13, hw⟩ y9 0 250 251 3 252 (rmGRP l Z a0 hw [] w_enc w_tb cs_v cl_tb wv_fm hp b14 k14 (23 : Int32) (10 : Int32) (bA p3 (0 : Int32) (nE p2)) (bA p3 (1 : Int32) (nE p2)) (bA p3 (2 : Int32) (nE p2)) (3 : Int32) [(.int 35), (.int 36), (.int 36), (.int 35), (.int 123), (.int (nar .char ((p0 &&& (255 : Int32)).toUInt32.toUInt16.toUInt32.toInt32))), (.int 58), (.int (nar .char ((p1 &&& (255 : Int32)).toUInt32.toUInt16.toUInt32.toInt32))), (.int 125), (.int 123), (.int 0), (.int 0), (.int 0), (.int 0), (.int 0), (.int 0), (.int 0), (.int 0), (.int 0), (.int 0), (.int 0), (.int 0), (.int 0)] h35 n0 O35 g_b14 (((f_31.wr W30).wr W33).wr W35) V_b14_35 (by decide) (by decide) (Nat.le_of_ble_eq_true rfl) (by decide) (by decide) (Nat.le_of_ble_eq_true rfl) (by decide) (by decide) (Nat.le_of_ble_eq_true rfl) (by decide) (by decide) (Nat.le_of_ble_eq_true rfl) (Nat.le_of_ble_eq_true rfl)) eq36 (mkF m 329 #[vi p0, vi p1, vi p2, vj p3, .second, vi (nE p2), vi (fx41 p0), vi (fx41 p1), vi (fx42 p3 p2), vi (fx43 p3 p2), vi (fx44 p3 p2), vi (fx45 p3 p2), vi (fx46 p3 p2), vi (fx47 p3 p2), vr b7, vr b8, vr b13_0, vi 8, vr b14, uu] [(.int 3), (.int (fx44 p3 p2)), (.int (fx43 p3 p2)), (.int (fx42 p3 p2)), (.int 10), (.ref b14)]) [(.ref b14), (.int 10), (.int (fx42 p3 p2)), (.int (fx43 p3 p2)), (.int (fx44 p3 p2)), (.int 3)] [] pd_38 at_329
  obtain ⟨rfl, Nq37, Kq37, fq37_0, fq37_1⟩ := hQ37
  have N37 := Fr.app N36 Nq37
  have CH37 := CH35.trans (CHr.keep Kq37 (allS (Safe.exa hZ13.alike (((f_31.wr W30).wr W33).wr W35) (by decide) (by decide)) all0) CH35.1)
  have hk37 := Nat.le_trans hk35 Kq37.1
  have O37 := O35.keep Kq37 (allS g_b14 all0)
  have V37_1 : Arv Z T37.heap b14 k14 .char (23 : Int32) [(.int 35), (.int 36), (.int 36), (.int 35), (.int 123), (.int (fx52 p0)), (.int 58), (.int (fx52 p1)), (.int 125), (.int 123), (.int (fx61 p3 p2)), (.int (fx62 p3 p2)), (.int (fx63 p3 p2)), (.int (fx64 p3 p2)), (.int 0), (.int 0), (.int 0), (.int 0), (.int 0), (.int 0), (.int 0), (.int 0), (.int 0)] (.int 0) := fq37_1
  obtain ⟨_, T38, Lc38, X38, hQ38, st38⟩ := cS X37 ⟨hx, hby, hml, hZ13, hown13, hw⟩ y9 0 250 251 3 252 (rmGRP l Z a0 hw [] w_enc w_tb cs_v cl_tb wv_fm hp b14 k14 (23 : Int32) (14 : Int32) (bA p3 (3 : Int32) (nE p2)) (bA p3 (4 : Int32) (nE p2)) (bA p3 (5 : Int32) (nE p2)) ((nE p2) - (3 : Int32)) [(.int 35), (.int 36), (.int 36), (.int 35), (.int 123), (.int (nar .char ((p0 &&& (255 : Int32)).toUInt32.toUInt16.toUInt32.toInt32))), (.int 58), (.int (nar .char ((p1 &&& (255 : Int32)).toUInt32.toUInt16.toUInt32.toInt32))), (.int 125), (.int 123), (.int (gx0 (3 : Int32) (bA p3 (0 : Int32) (nE p2)) (bA p3 (1 : Int32) (nE p2)) (bA p3 (2 : Int32) (nE p2)))), (.int (gx1 (3 : Int32) (bA p3 (0 : Int32) (nE p2)) (bA p3 (1 : Int32) (nE p2)) (bA p3 (2 : Int32) (nE p2)))), (.int (gx2 (3 : Int32) (bA p3 (0 : Int32) (nE p2)) (bA p3 (1 : Int32) (nE p2)) (bA p3 (2 : Int32) (nE p2)))), (.int (gx3 (3 : Int32) (bA p3 (0 : Int32) (nE p2)) (bA p3 (1 : Int32) (nE p2)) (bA p3 (2 : Int32) (nE p2)))), (.int 0), (.int 0), (.int 0), (.int 0), (.int 0), (.int 0), (.int 0), (.int 0), (.int 0)] T37.heap n0 O37 g_b14 fq37_0 V37_1 (by decide) (by decide) (Nat.le_of_ble_eq_true rfl) (by decide) (by decide) (Nat.le_of_ble_eq_true rfl) (by decide) (by decide) (Nat.le_of_ble_eq_true rfl) (by decide) (by decide) (Nat.le_of_ble_eq_true rfl) (Nat.le_of_ble_eq_true rfl)) rfl (mkF m 352 #[vi p0, vi p1, vi p2, vj p3, .second, vi (nE p2), vi (fx41 p0), vi (fx41 p1), vi (fx42 p3 p2), vi (fx43 p3 p2), vi (fx44 p3 p2), vi (fx45 p3 p2), vi (fx46 p3 p2), vi (fx47 p3 p2), vr b7, vr b8, vr b13_0, vi 8, vr b14, uu] [(.int ((nE p2) - (3 : Int32))), (.int (fx47 p3 p2)), (.int (fx46 p3 p2)), (.int (fx45 p3 p2)), (.int 14), (.ref b14)]) [(.ref b14), (.int 14), (.int (fx45 p3 p2)), (.int (fx46 p3 p2)), (.int (fx47 p3 p2)), (.int ((nE p2) - (3 : Int32)))] [] pd_38 at_352
  obtain ⟨rfl, Nq38, Kq38, fq38_0, fq38_1⟩ := hQ38
  have N38 := Fr.app N37 Nq38
  have CH38 := CH37.trans (CHr.keep Kq38 (allS (Safe.exa hZ13.alike fq37_0 (by decide) (by decide)) all0) CH37.1)
  have hk38 := Nat.le_trans hk37 Kq38.1
  have O38 := O37.keep Kq38 (allS g_b14 all0)
  have V38_1 : Arv Z T38.heap b14 k14 .char (23 : Int32) [(.int 35), (.int 36), (.int 36), (.int 35), (.int 123), (.int (fx52 p0)), (.int 58), (.int (fx52 p1)), (.int 125), (.int 123), (.int (fx61 p3 p2)), (.int (fx62 p3 p2)), (.int (fx63 p3 p2)), (.int (fx64 p3 p2)), (.int (fx65 p2 p3)), (.int (fx66 p2 p3)), (.int (fx67 p2 p3)), (.int (fx68 p2 p3)), (.int 0), (.int 0), (.int 0), (.int 0), (.int 0)] (.int 0) := fq38_1
  obtain ⟨T40, h40, X40, e40, W40, V_b14_40, st40⟩ := wC X38 ⟨hx, hby, hml, hZ13, hown13, hw⟩ rfl V38_1 (18 : Int32) 18 (mkF m 368 #[vi p0, vi p1, vi p2, vj p3, .second, vi (nE p2), vi (fx41 p0), vi (fx41 p1), vi (fx42 p3 p2), vi (fx43 p3 p2), vi (fx44 p3 p2), vi (fx45 p3 p2), vi (fx46 p3 p2), vi (fx47 p3 p2), vr b7, vr b8, vr b13_0, vi 8, vr b14, vi 18] [(.int 125), (.int 18), (.ref b14)]) at_368
  have N40 := Fr.snoc X40 N38 g_b14
  have O40 := O38.wr W40 g_b14
  have CH40 := CH38.trans (CHr.wr W40 (Safe.exa hZ13.alike fq38_0 (by decide) (by decide)) CH38.1)
  have hk40 := Nat.le_trans hk38 (Keep.of_wr W40).1
  obtain ⟨T42, h42, X42, e42, W42, V_b14_42, st42⟩ := wC X40 ⟨hx, hby, hml, hZ13, hown13, hw⟩ e40 V_b14_40 (19 : Int32) 19 (mkF m 377 #[vi p0, vi p1, vi p2, vj p3, .second, vi (nE p2), vi (fx41 p0), vi (fx41 p1), vi (fx42 p3 p2), vi (fx43 p3 p2), vi (fx44 p3 p2), vi (fx45 p3 p2), vi (fx46 p3 p2), vi (fx47 p3 p2), vr b7, vr b8, vr b13_0, vi 8, vr b14, vi 18] [(.int 35), (.int 19), (.ref b14)]) at_377
  have N42 := Fr.snoc X42 N40 g_b14
  have O42 := O40.wr W42 g_b14
  have CH42 := CH40.trans (CHr.wr W42 (Safe.exa hZ13.alike (fq38_0.wr W40) (by decide) (by decide)) CH40.1)
  have hk42 := Nat.le_trans hk40 (Keep.of_wr W42).1
  have RV_b14_42 : Arv Z h42 b14 k14 .char (23 : Int32) [(.int 35), (.int 36), (.int 36), (.int 35), (.int 123), (.int (fx52 p0)), (.int 58), (.int (fx52 p1)), (.int 125), (.int 123), (.int (fx61 p3 p2)), (.int (fx62 p3 p2)), (.int (fx63 p3 p2)), (.int (fx64 p3 p2)), (.int (fx65 p2 p3)), (.int (fx66 p2 p3)), (.int (fx67 p2 p3)), (.int (fx68 p2 p3)), (.int 125), (.int 35), (.int 0), (.int 0), (.int 0)] (.int 0) := V_b14_42
  obtain ⟨T44, h44, X44, e44, W44, V_b14_44, st44⟩ := wC X42 ⟨hx, hby, hml, hZ13, hown13, hw⟩ e42 RV_b14_42 (20 : Int32) 20 (mkF m 386 #[vi p0, vi p1, vi p2, vj p3, .second, vi (nE p2), vi (fx41 p0), vi (fx41 p1), vi (fx42 p3 p2), vi (fx43 p3 p2), vi (fx44 p3 p2), vi (fx45 p3 p2), vi (fx46 p3 p2), vi (fx47 p3 p2), vr b7, vr b8, vr b13_0, vi 8, vr b14, vi 18] [(.int 36), (.int 20), (.ref b14)]) at_386
  have N44 := Fr.snoc X44 N42 g_b14
  have O44 := O42.wr W44 g_b14
  have CH44 := CH42.trans (CHr.wr W44 (Safe.exa hZ13.alike ((fq38_0.wr W40).wr W42) (by decide) (by decide)) CH42.1)
  have hk44 := Nat.le_trans hk42 (Keep.of_wr W44).1
  obtain ⟨T46, h46, X46, e46, W46, V_b14_46, st46⟩ := wC X44 ⟨hx, hby, hml, hZ13, hown13, hw⟩ e44 V_b14_44 (21 : Int32) 21 (mkF m 395 #[vi p0, vi p1, vi p2, vj p3, .second, vi (nE p2), vi (fx41 p0), vi (fx41 p1), vi (fx42 p3 p2), vi (fx43 p3 p2), vi (fx44 p3 p2), vi (fx45 p3 p2), vi (fx46 p3 p2), vi (fx47 p3 p2), vr b7, vr b8, vr b13_0, vi 8, vr b14, vi 18] [(.int 36), (.int 21), (.ref b14)]) at_395
  have N46 := Fr.snoc X46 N44 g_b14
  have O46 := O44.wr W46 g_b14
  have CH46 := CH44.trans (CHr.wr W46 (Safe.exa hZ13.alike (((fq38_0.wr W40).wr W42).wr W44) (by decide) (by decide)) CH44.1)
  have hk46 := Nat.le_trans hk44 (Keep.of_wr W46).1
  obtain ⟨T48, h48, X48, e48, W48, V_b14_48, st48⟩ := wC X46 ⟨hx, hby, hml, hZ13, hown13, hw⟩ e46 V_b14_46 (22 : Int32) 22 (mkF m 404 #[vi p0, vi p1, vi p2, vj p3, .second, vi (nE p2), vi (fx41 p0), vi (fx41 p1), vi (fx42 p3 p2), vi (fx43 p3 p2), vi (fx44 p3 p2), vi (fx45 p3 p2), vi (fx46 p3 p2), vi (fx47 p3 p2), vr b7, vr b8, vr b13_0, vi 8, vr b14, vi 18] [(.int 35), (.int 22), (.ref b14)]) at_404
  have N48 := Fr.snoc X48 N46 g_b14
  have O48 := O46.wr W48 g_b14
  have CH48 := CH46.trans (CHr.wr W48 (Safe.exa hZ13.alike ((((fq38_0.wr W40).wr W42).wr W44).wr W46) (by decide) (by decide)) CH46.1)
  have hk48 := Nat.le_trans hk46 (Keep.of_wr W48).1
  have RV_b14_48 : Arv Z h48 b14 k14 .char (23 : Int32) [(.int 35), (.int 36), (.int 36), (.int 35), (.int 123), (.int (fx52 p0)), (.int 58), (.int (fx52 p1)), (.int 125), (.int 123), (.int (fx61 p3 p2)), (.int (fx62 p3 p2)), (.int (fx63 p3 p2)), (.int (fx64 p3 p2)), (.int (fx65 p2 p3)), (.int (fx66 p2 p3)), (.int (fx67 p2 p3)), (.int (fx68 p2 p3)), (.int 125), (.int 35), (.int 36), (.int 36), (.int 35)] (.int 0) := V_b14_48
  obtain ⟨T49, h49, X49, e49, E49, A49, D49, -, st49⟩ := newO X48 hx hZ13 hown13 (wq hw 256 rfl) (wq hw 20 rfl) (wq hw 12 rfl) e48 (g := (mkF m 407 #[vi p0, vi p1, vi p2, vj p3, .second, vi (nE p2), vi (fx41 p0), vi (fx41 p1), vi (fx42 p3 p2), vi (fx43 p3 p2), vi (fx44 p3 p2), vi (fx45 p3 p2), vi (fx46 p3 p2), vi (fx47 p3 p2), vr b7, vr b8, vr b13_0, vi 8, vr b14, vi 18] [(.ref b13_0)])) rfl (hb hby at_407) (by decide) (by decide)
  obtain ⟨b49, g49⟩ : ∃ z, z = h48.size := ⟨_, rfl⟩
  rw [← g49] at A49 D49 st49
  have g_b49 : n0 ≤ b49 := Nat.le_trans (own_sz O48) (Nat.le_of_eq g49.symm)
  have O49 := O48.ext E49
  have CH49 := CH48.trans (CHr.ext E49 CH48.1)
  have hk49 := Nat.le_trans hk48 E49.1
  have F_value_b49 : Fld Z h49 b49 "java/lang/String" "value" "[B" .null := D49 (Or.inr (wq hw 32 rfl)) (ty := (.array .byte)) (by decide)
  have F_coder_b49 : Fld Z h49 b49 "java/lang/String" "coder" "B" (.int 0) := D49 (Or.inr (wq hw 34 rfl)) (ty := .byte) (by decide)
  obtain ⟨_, T50, Lc50, X50, hQ50, st50⟩ := nB X49 ⟨hx, hby, hml, hZ13, hown13, hw⟩ 2 257 258 259 (StrChars.Road.backV (W := 2) hZ13 (own_hws hw) (kI := 4) (wq hw 20 rfl) (cs := [(35 : Int32), (36 : Int32), (36 : Int32), (35 : Int32), (123 : Int32), (nar .char ((p0 &&& (255 : Int32)).toUInt32.toUInt16.toUInt32.toInt32)), (58 : Int32), (nar .char ((p1 &&& (255 : Int32)).toUInt32.toUInt16.toUInt32.toInt32)), (125 : Int32), (123 : Int32), (gx0 (3 : Int32) (bA p3 (0 : Int32) (nE p2)) (bA p3 (1 : Int32) (nE p2)) (bA p3 (2 : Int32) (nE p2))), (gx1 (3 : Int32) (bA p3 (0 : Int32) (nE p2)) (bA p3 (1 : Int32) (nE p2)) (bA p3 (2 : Int32) (nE p2))), (gx2 (3 : Int32) (bA p3 (0 : Int32) (nE p2)) (bA p3 (1 : Int32) (nE p2)) (bA p3 (2 : Int32) (nE p2))), (gx3 (3 : Int32) (bA p3 (0 : Int32) (nE p2)) (bA p3 (1 : Int32) (nE p2)) (bA p3 (2 : Int32) (nE p2))), (gx0 ((nE p2) - (3 : Int32)) (bA p3 (3 : Int32) (nE p2)) (bA p3 (4 : Int32) (nE p2)) (bA p3 (5 : Int32) (nE p2))), (gx1 ((nE p2) - (3 : Int32)) (bA p3 (3 : Int32) (nE p2)) (bA p3 (4 : Int32) (nE p2)) (bA p3 (5 : Int32) (nE p2))), (gx2 ((nE p2) - (3 : Int32)) (bA p3 (3 : Int32) (nE p2)) (bA p3 (4 : Int32) (nE p2)) (bA p3 (5 : Int32) (nE p2))), (gx3 ((nE p2) - (3 : Int32)) (bA p3 (3 : Int32) (nE p2)) (bA p3 (4 : Int32) (nE p2)) (bA p3 (5 : Int32) (nE p2))), (125 : Int32), (35 : Int32), (36 : Int32), (36 : Int32), (35 : Int32)]) (n := 23) g_b49 (own_sz O49) A49 F_value_b49 F_coder_b49 (RV_b14_48.ext E49) (S_COMPACT_STRINGS.ext O49.2) h_cs rfl rfl (by decide) (by decide) (all2c ⟨by decide, by decide⟩ (all2c ⟨by decide, by decide⟩ (all2c ⟨by decide, by decide⟩ (all2c ⟨by decide, by decide⟩ (all2c ⟨by decide, by decide⟩ (all2c (own_cac p0) (all2c ⟨by decide, by decide⟩ (all2c (own_cac p1) (all2c ⟨by decide, by decide⟩ (all2c ⟨by decide, by decide⟩ (all2c (own_gx0b (3 : Int32) (bA p3 (0 : Int32) (nE p2)) (bA p3 (1 : Int32) (nE p2)) (bA p3 (2 : Int32) (nE p2))) (all2c (own_gx1b (3 : Int32) (bA p3 (0 : Int32) (nE p2)) (bA p3 (1 : Int32) (nE p2)) (bA p3 (2 : Int32) (nE p2))) (all2c (own_gx2b (3 : Int32) (bA p3 (0 : Int32) (nE p2)) (bA p3 (1 : Int32) (nE p2)) (bA p3 (2 : Int32) (nE p2))) (all2c (own_gx3b (3 : Int32) (bA p3 (0 : Int32) (nE p2)) (bA p3 (1 : Int32) (nE p2)) (bA p3 (2 : Int32) (nE p2))) (all2c (own_gx0b ((nE p2) - (3 : Int32)) (bA p3 (3 : Int32) (nE p2)) (bA p3 (4 : Int32) (nE p2)) (bA p3 (5 : Int32) (nE p2))) (all2c (own_gx1b ((nE p2) - (3 : Int32)) (bA p3 (3 : Int32) (nE p2)) (bA p3 (4 : Int32) (nE p2)) (bA p3 (5 : Int32) (nE p2))) (all2c (own_gx2b ((nE p2) - (3 : Int32)) (bA p3 (3 : Int32) (nE p2)) (bA p3 (4 : Int32) (nE p2)) (bA p3 (5 : Int32) (nE p2))) (all2c (own_gx3b ((nE p2) - (3 : Int32)) (bA p3 (3 : Int32) (nE p2)) (bA p3 (4 : Int32) (nE p2)) (bA p3 (5 : Int32) (nE p2))) (all2c ⟨by decide, by decide⟩ (all2c ⟨by decide, by decide⟩ (all2c ⟨by decide, by decide⟩ (all2c ⟨by decide, by decide⟩ (all2c ⟨by decide, by decide⟩ all2n))))))))))))))))))))))) rfl (by decide) (by decide)) e49 (mkF m 413 #[vi p0, vi p1, vi p2, vj p3, .second, vi (nE p2), vi (fx41 p0), vi (fx41 p1), vi (fx42 p3 p2), vi (fx43 p3 p2), vi (fx44 p3 p2), vi (fx45 p3 p2), vi (fx46 p3 p2), vi (fx47 p3 p2), vr b7, vr b8, vr b13_0, vi 8, vr b14, vi 18] [(.ref b14), (.ref b49), (.ref b49), (.ref b13_0)]) [(.ref b14)] [(.ref b49), (.ref b13_0)] pd_33 at_413
  replace hQ50 := own_qv hQ50
  obtain ⟨b50_0, kc50_0, rfl, Nq50, Kq50, sq_b50_0, fq50_0, fq50_1, fq50_2, fq50_3⟩ := hQ50
  have N50 := Fr.app N48 Nq50
  have sf_51 := (Safe.ext E49 CH48.1 (Safe.new (Nat.le_of_eq g49.symm)))
  have CH50 := CH49.trans (CHr.keep Kq50 (allS sf_51 all0) CH49.1)
  have hk50 := Nat.le_trans hk49 Kq50.1
  have O50 := O49.keep Kq50 (allS g_b49 all0)
  have f_52 := ((((((((((((((((((((fq13_0.ext E14).wr W16).wr W18).wr W20).wr W22).wr W24).wr W26).wr W28).wr W30).wr W33).wr W35).keep Kq37).keep Kq38).wr W40).wr W42).wr W44).wr W46).wr W48).ext E49).keep Kq50)
  have nz5 : b13_0 ≠ b49 := (Nat.ne_of_lt (Nat.lt_of_lt_of_le ((((((((((((((((((fq13_0.ext E14).wr W16).wr W18).wr W20).wr W22).wr W24).wr W26).wr W28).wr W30).wr W33).wr W35).keep Kq37).keep Kq38).wr W40).wr W42).wr W44).wr W46).wr W48).lt (Nat.le_of_eq g49.symm)))
  have nz6 : b13_0 ≠ b14 := (Nat.ne_of_lt (Nat.lt_of_lt_of_le fq13_0.lt (Nat.le_of_eq g14.symm)))
  have f_53 := ((((((((((((((((((((fq13_1.ext E14).other W16 (Or.inl nz6)).other W18 (Or.inl nz6)).other W20 (Or.inl nz6)).other W22 (Or.inl nz6)).other W24 (Or.inl nz6)).other W26 (Or.inl nz6)).other W28 (Or.inl nz6)).other W30 (Or.inl nz6)).other W33 (Or.inl nz6)).other W35 (Or.inl nz6)).keep Kq37 (ninS nz6 nin0)).keep Kq38 (ninS nz6 nin0)).other W40 (Or.inl nz6)).other W42 (Or.inl nz6)).other W44 (Or.inl nz6)).other W46 (Or.inl nz6)).other W48 (Or.inl nz6)).ext E49).keep Kq50 (ninS nz5 nin0))
  have f_54 := ((((((((((((((((((((fq13_2.ext E14).other W16 (Or.inl nz6)).other W18 (Or.inl nz6)).other W20 (Or.inl nz6)).other W22 (Or.inl nz6)).other W24 (Or.inl nz6)).other W26 (Or.inl nz6)).other W28 (Or.inl nz6)).other W30 (Or.inl nz6)).other W33 (Or.inl nz6)).other W35 (Or.inl nz6)).keep Kq37 (ninS nz6 nin0)).keep Kq38 (ninS nz6 nin0)).other W40 (Or.inl nz6)).other W42 (Or.inl nz6)).other W44 (Or.inl nz6)).other W46 (Or.inl nz6)).other W48 (Or.inl nz6)).ext E49).keep Kq50 (ninS nz5 nin0))
  have nz7 : b13_1 ≠ b14 := (Nat.ne_of_lt (Nat.lt_of_lt_of_le fq13_3.lt (Nat.le_of_eq g14.symm)))
  have nz8 : b13_1 ≠ b49 := (Nat.ne_of_lt (Nat.lt_of_lt_of_le ((((((((((((((((((fq13_3.ext E14).wr W16).wr W18).wr W20).wr W22).wr W24).wr W26).wr W28).wr W30).wr W33).wr W35).keep Kq37).keep Kq38).wr W40).wr W42).wr W44).wr W46).wr W48).lt (Nat.le_of_eq g49.symm)))
  have f_55 := ((((((((((((((((((((fq13_4.ext E14).other W16 nz7).other W18 nz7).other W20 nz7).other W22 nz7).other W24 nz7).other W26 nz7).other W28 nz7).other W30 nz7).other W33 nz7).other W35 nz7).keep Kq37 (ninS nz7 nin0)).keep Kq38 (ninS nz7 nin0)).other W40 nz7).other W42 nz7).other W44 nz7).other W46 nz7).other W48 nz7).ext E49).keep Kq50 (ninS nz8 nin0))
  obtain ⟨_, T56, Lc56, X56, hQ56, st56⟩ := vS X50 ⟨hx, hby, hml, hZ13, hown13, hw⟩ y43 0 273 274 276 275 277 12 (rm62 l Z a0 hw [] w_enc w_tb cs_v cl_tb wv_fm hp b13_0 b49 b13_1 b50_0 kc13_0 [(.int 35), (.int 36), (.int 36), (.int 35), (.int 123), (.int (nar .byte (((p0 &&& (255 : Int32)).toUInt32.toUInt16.toUInt32.toInt32).toInt8.toInt32))), (.int 58), (.int (nar .byte (((p1 &&& (255 : Int32)).toUInt32.toUInt16.toUInt32.toInt32).toInt8.toInt32))), (.int 125), (.int 123), (.int (eb 0 (plL (nE p2) (bA p3 (0 : Int32) (nE p2)) (bA p3 (1 : Int32) (nE p2)) (bA p3 (2 : Int32) (nE p2)) (bA p3 (3 : Int32) (nE p2)) (bA p3 (4 : Int32) (nE p2)) (bA p3 (5 : Int32) (nE p2))))), (.int (eb 1 (plL (nE p2) (bA p3 (0 : Int32) (nE p2)) (bA p3 (1 : Int32) (nE p2)) (bA p3 (2 : Int32) (nE p2)) (bA p3 (3 : Int32) (nE p2)) (bA p3 (4 : Int32) (nE p2)) (bA p3 (5 : Int32) (nE p2))))), (.int (eb 2 (plL (nE p2) (bA p3 (0 : Int32) (nE p2)) (bA p3 (1 : Int32) (nE p2)) (bA p3 (2 : Int32) (nE p2)) (bA p3 (3 : Int32) (nE p2)) (bA p3 (4 : Int32) (nE p2)) (bA p3 (5 : Int32) (nE p2))))), (.int (eb 3 (plL (nE p2) (bA p3 (0 : Int32) (nE p2)) (bA p3 (1 : Int32) (nE p2)) (bA p3 (2 : Int32) (nE p2)) (bA p3 (3 : Int32) (nE p2)) (bA p3 (4 : Int32) (nE p2)) (bA p3 (5 : Int32) (nE p2))))), (.int (eb 4 (plL (nE p2) (bA p3 (0 : Int32) (nE p2)) (bA p3 (1 : Int32) (nE p2)) (bA p3 (2 : Int32) (nE p2)) (bA p3 (3 : Int32) (nE p2)) (bA p3 (4 : Int32) (nE p2)) (bA p3 (5 : Int32) (nE p2))))), (.int (eb 5 (plL (nE p2) (bA p3 (0 : Int32) (nE p2)) (bA p3 (1 : Int32) (nE p2)) (bA p3 (2 : Int32) (nE p2)) (bA p3 (3 : Int32) (nE p2)) (bA p3 (4 : Int32) (nE p2)) (bA p3 (5 : Int32) (nE p2))))), (.int (eb 6 (plL (nE p2) (bA p3 (0 : Int32) (nE p2)) (bA p3 (1 : Int32) (nE p2)) (bA p3 (2 : Int32) (nE p2)) (bA p3 (3 : Int32) (nE p2)) (bA p3 (4 : Int32) (nE p2)) (bA p3 (5 : Int32) (nE p2))))), (.int (eb 7 (plL (nE p2) (bA p3 (0 : Int32) (nE p2)) (bA p3 (1 : Int32) (nE p2)) (bA p3 (2 : Int32) (nE p2)) (bA p3 (3 : Int32) (nE p2)) (bA p3 (4 : Int32) (nE p2)) (bA p3 (5 : Int32) (nE p2))))), (.int 125), (.int 35), (.int 36), (.int 36), (.int 35)] ((23 : Int32) - (0 : Int32)) kc50_0 [(.int 35), (.int 36), (.int 36), (.int 35), (.int 123), (.int ((nar .char ((p0 &&& (255 : Int32)).toUInt32.toUInt16.toUInt32.toInt32)).toInt8.toInt32)), (.int 58), (.int ((nar .char ((p1 &&& (255 : Int32)).toUInt32.toUInt16.toUInt32.toInt32)).toInt8.toInt32)), (.int 125), (.int 123), (.int ((gx0 (3 : Int32) (bA p3 (0 : Int32) (nE p2)) (bA p3 (1 : Int32) (nE p2)) (bA p3 (2 : Int32) (nE p2))).toInt8.toInt32)), (.int ((gx1 (3 : Int32) (bA p3 (0 : Int32) (nE p2)) (bA p3 (1 : Int32) (nE p2)) (bA p3 (2 : Int32) (nE p2))).toInt8.toInt32)), (.int ((gx2 (3 : Int32) (bA p3 (0 : Int32) (nE p2)) (bA p3 (1 : Int32) (nE p2)) (bA p3 (2 : Int32) (nE p2))).toInt8.toInt32)), (.int ((gx3 (3 : Int32) (bA p3 (0 : Int32) (nE p2)) (bA p3 (1 : Int32) (nE p2)) (bA p3 (2 : Int32) (nE p2))).toInt8.toInt32)), (.int ((gx0 ((nE p2) - (3 : Int32)) (bA p3 (3 : Int32) (nE p2)) (bA p3 (4 : Int32) (nE p2)) (bA p3 (5 : Int32) (nE p2))).toInt8.toInt32)), (.int ((gx1 ((nE p2) - (3 : Int32)) (bA p3 (3 : Int32) (nE p2)) (bA p3 (4 : Int32) (nE p2)) (bA p3 (5 : Int32) (nE p2))).toInt8.toInt32)), (.int ((gx2 ((nE p2) - (3 : Int32)) (bA p3 (3 : Int32) (nE p2)) (bA p3 (4 : Int32) (nE p2)) (bA p3 (5 : Int32) (nE p2))).toInt8.toInt32)), (.int ((gx3 ((nE p2) - (3 : Int32)) (bA p3 (3 : Int32) (nE p2)) (bA p3 (4 : Int32) (nE p2)) (bA p3 (5 : Int32) (nE p2))).toInt8.toInt32)), (.int 125), (.int 35), (.int 36), (.int 36), (.int 35)] (23 : Int32) T50.heap n0 O50 nz5 fq50_0 f_53 fq50_1 f_54 fq50_2 f_55 fq50_3 (own_cons rfl (own_cons rfl (own_cons rfl (own_cons rfl (own_cons rfl (own_cons (own_cab p0) (own_cons rfl (own_cons (own_cab p1) (own_cons rfl (own_cons rfl (own_cons (own_q8_0 (own_nE p2) hc2 (own_vok p2 p3)) (own_cons (own_q8_1 (own_nE p2) hc2 (own_vok p2 p3)) (own_cons (own_q8_2 (own_nE p2) hc2 (own_vok p2 p3)) (own_cons (own_q8_3 (own_nE p2) hc2 (own_vok p2 p3)) (own_cons (own_q8_4 (own_nE p2) hc2 (own_vok p2 p3)) (own_cons (own_q8_5 (own_nE p2) hc2 (own_vok p2 p3)) (own_cons (own_q8_6 (own_nE p2) hc2 (own_vok p2 p3)) (own_cons (own_q8_7 (own_nE p2) hc2 (own_vok p2 p3)) (own_cons rfl (own_cons rfl (own_cons rfl (own_cons rfl (own_cons rfl rfl))))))))))))))))))))))) (by decide)) rfl f_52 (mkF m 416 #[vi p0, vi p1, vi p2, vj p3, .second, vi (nE p2), vi (fx41 p0), vi (fx41 p1), vi (fx42 p3 p2), vi (fx43 p3 p2), vi (fx44 p3 p2), vi (fx45 p3 p2), vi (fx46 p3 p2), vi (fx47 p3 p2), vr b7, vr b8, vr b13_0, vi 8, vr b14, vi 18] [(.ref b49), (.ref b13_0)]) [(.ref b49)] [] pd_35 at_416
  obtain ⟨rfl, Nq56, eq56⟩ := hQ56
  have N56 := Fr.app N50 Nq56
  obtain ⟨fs, hr, hrun, hended, hE⟩ := Stand.leaveW (s := s) X56 hS13 (by rw [eq56]; exact hk50) (v := some (.int 1)) (fun h => by rw [Bd.returns] at h; cases h)
  refine ⟨_, _, castTop (ef_0_0 m p0 p1 p2 p3) ?_, hrun, hended, _, _, rfl, ?_, hE.1, hE.2.1, hE.2.2.1, hE.2.2.2.mono (by decide) (by decide)⟩
  · show Sp p e below s₁ (mkF m 0 #[vi p0, vi p1, vi p2, vj p3, .second, uu, uu, uu, uu, uu, uu, uu, uu, uu, uu, uu, uu, uu, uu, uu] []) _
    refine iln X0 qz at_0 ?_
    refine X0.ldcI hx hown (mvT hZ (wq hw 0 rfl)) rfl (hb hby at_1) ?_
    refine wiand X0 qz at_3 ?_
    refine bp X0 qz at_4 ?_
    refine iremM X0 hx rfl (hb hby at_6) rfl (by decide) ?_
    refine st X0 qz at_7 #[vi p0, vi p1, vi p2, vj p3, .second, vi (fx40 p2), uu, uu, uu, uu, uu, uu, uu, uu, uu, uu, uu, uu, uu, uu] ?_
    show Sp p e below s₁ (mkF m 9 #[vi p0, vi p1, vi p2, vj p3, .second, vi (fx40 p2), uu, uu, uu, uu, uu, uu, uu, uu, uu, uu, uu, uu, uu, uu] []) _
    show Sp p e below s₁ (mkF m 9 #[vi p0, vi p1, vi p2, vj p3, .second, vi (nE p2), uu, uu, uu, uu, uu, uu, uu, uu, uu, uu, uu, uu, uu, uu] []) _
    refine iln X0 qz at_9 ?_
    refine sp X0 qz at_10 ?_
    refine wiand X0 qz at_13 ?_
    refine XS.i2c X0.here hx rfl (hb hby at_14) rfl ?_
    refine st X0 qz at_15 #[vi p0, vi p1, vi p2, vj p3, .second, vi (nE p2), vi (fx41 p0), uu, uu, uu, uu, uu, uu, uu, uu, uu, uu, uu, uu, uu] ?_
    refine iln X0 qz at_17 ?_
    refine sp X0 qz at_18 ?_
    refine wiand X0 qz at_21 ?_
    refine XS.i2c X0.here hx rfl (hb hby at_22) rfl ?_
    refine st X0 qz at_23 #[vi p0, vi p1, vi p2, vj p3, .second, vi (nE p2), vi (fx41 p0), vi (fx41 p1), uu, uu, uu, uu, uu, uu, uu, uu, uu, uu, uu, uu] ?_
    refine XS.lloadN X0.here hx rfl (hb hby at_25) rfl ?_
    refine ic X0 qz at_26 ?_
    refine il X0 qz at_27 ?_
    refine st1 _ ?_
    refine st X1 qz at_32 #[vi p0, vi p1, vi p2, vj p3, .second, vi (nE p2), vi (fx41 p0), vi (fx41 p1), vi (fx42 p3 p2), uu, uu, uu, uu, uu, uu, uu, uu, uu, uu, uu] ?_
    refine XS.lloadN X1.here hx rfl (hb hby at_34) rfl ?_
    show Sp p e below T1 (mkF m 35 #[vi p0, vi p1, vi p2, vj p3, .second, vi (nE p2), vi (fx41 p0), vi (fx41 p1), vi (fx42 p3 p2), uu, uu, uu, uu, uu, uu, uu, uu, uu, uu, uu] [(.long p3)]) _
    refine ic X1 qz at_35 ?_
    refine il X1 qz at_36 ?_
    refine st2 _ ?_
    refine st X2 qz at_41 #[vi p0, vi p1, vi p2, vj p3, .second, vi (nE p2), vi (fx41 p0), vi (fx41 p1), vi (fx42 p3 p2), vi (fx43 p3 p2), uu, uu, uu, uu, uu, uu, uu, uu, uu, uu] ?_
    refine XS.lloadN X2.here hx rfl (hb hby at_43) rfl ?_
    refine ic X2 qz at_44 ?_
    refine il X2 qz at_45 ?_
    refine st3 _ ?_
    refine st X3 qz at_50 #[vi p0, vi p1, vi p2, vj p3, .second, vi (nE p2), vi (fx41 p0), vi (fx41 p1), vi (fx42 p3 p2), vi (fx43 p3 p2), vi (fx44 p3 p2), uu, uu, uu, uu, uu, uu, uu, uu, uu] ?_
    refine XS.lloadN X3.here hx rfl (hb hby at_52) rfl ?_
    refine ic X3 qz at_53 ?_
    refine il X3 qz at_54 ?_
    refine st4 _ ?_
    refine st X4 qz at_59 #[vi p0, vi p1, vi p2, vj p3, .second, vi (nE p2), vi (fx41 p0), vi (fx41 p1), vi (fx42 p3 p2), vi (fx43 p3 p2), vi (fx44 p3 p2), vi (fx45 p3 p2), uu, uu, uu, uu, uu, uu, uu, uu] ?_
    refine XS.lloadN X4.here hx rfl (hb hby at_61) rfl ?_
    refine ic X4 qz at_62 ?_
    show Sp p e below T4 (mkF m 63 #[vi p0, vi p1, vi p2, vj p3, .second, vi (nE p2), vi (fx41 p0), vi (fx41 p1), vi (fx42 p3 p2), vi (fx43 p3 p2), vi (fx44 p3 p2), vi (fx45 p3 p2), uu, uu, uu, uu, uu, uu, uu, uu] [(.int 4), (.long p3)]) _
    refine il X4 qz at_63 ?_
    refine st5 _ ?_
    refine st X5 qz at_68 #[vi p0, vi p1, vi p2, vj p3, .second, vi (nE p2), vi (fx41 p0), vi (fx41 p1), vi (fx42 p3 p2), vi (fx43 p3 p2), vi (fx44 p3 p2), vi (fx45 p3 p2), vi (fx46 p3 p2), uu, uu, uu, uu, uu, uu, uu] ?_
    refine XS.lloadN X5.here hx rfl (hb hby at_70) rfl ?_
    refine ic X5 qz at_71 ?_
    refine il X5 qz at_72 ?_
    refine st6 _ ?_
    refine st X6 qz at_77 #[vi p0, vi p1, vi p2, vj p3, .second, vi (nE p2), vi (fx41 p0), vi (fx41 p1), vi (fx42 p3 p2), vi (fx43 p3 p2), vi (fx44 p3 p2), vi (fx45 p3 p2), vi (fx46 p3 p2), vi (fx47 p3 p2), uu, uu, uu, uu, uu, uu] ?_
    show Sp p e below T6 (mkF m 79 #[vi p0, vi p1, vi p2, vj p3, .second, vi (nE p2), vi (fx41 p0), vi (fx41 p1), vi (fx42 p3 p2), vi (fx43 p3 p2), vi (fx44 p3 p2), vi (fx45 p3 p2), vi (fx46 p3 p2), vi (fx47 p3 p2), uu, uu, uu, uu, uu, uu] []) _
    refine st7 _ ?_
    refine st8 _ ?_
    refine XS.dup X8.here hx rfl (hb hby at_165) rfl rfl ?_
    refine il X8 qz at_166 ?_
    refine st9 _ ?_
    refine il X9 qz at_171 ?_
    refine st10 _ ?_
    refine al X10 qz at_176 ?_
    refine st11.trans ?_
    refine sta X11 qz at_181 #[vi p0, vi p1, vi p2, vj p3, .second, vi (nE p2), vi (fx41 p0), vi (fx41 p1), vi (fx42 p3 p2), vi (fx43 p3 p2), vi (fx44 p3 p2), vi (fx45 p3 p2), vi (fx46 p3 p2), vi (fx47 p3 p2), vr b7, vr b8, uu, uu, uu, uu] ?_
    refine al X11 qz at_183 ?_
    refine st13.trans ?_
    refine sta X13 qz at_188 #[vi p0, vi p1, vi p2, vj p3, .second, vi (nE p2), vi (fx41 p0), vi (fx41 p1), vi (fx42 p3 p2), vi (fx43 p3 p2), vi (fx44 p3 p2), vi (fx45 p3 p2), vi (fx46 p3 p2), vi (fx47 p3 p2), vr b7, vr b8, vr b13_0, uu, uu, uu] ?_
    refine il X13 qz at_190 ?_
    refine ifY X13 qz 192 199 at_192 (feq (own_nh6 (own_nE p2) hc1 hc2)).2 ?_
    refine il X13 qz at_199 ?_
    show Sp p e below T13 (mkF m 201 #[vi p0, vi p1, vi p2, vj p3, .second, vi (nE p2), vi (fx41 p0), vi (fx41 p1), vi (fx42 p3 p2), vi (fx43 p3 p2), vi (fx44 p3 p2), vi (fx45 p3 p2), vi (fx46 p3 p2), vi (fx47 p3 p2), vr b7, vr b8, vr b13_0, uu, uu, uu] [(.int (nE p2))]) _
    refine ic X13 qz at_201 ?_
    refine icY X13 qz 202 209 at_202 (tlt (own_nh7 (own_nE p2) hc1 hc2)).2.2.1 ?_
    refine bp X13 qz at_209 ?_
    refine st X13 qz at_211 #[vi p0, vi p1, vi p2, vj p3, .second, vi (nE p2), vi (fx41 p0), vi (fx41 p1), vi (fx42 p3 p2), vi (fx43 p3 p2), vi (fx44 p3 p2), vi (fx45 p3 p2), vi (fx46 p3 p2), vi (fx47 p3 p2), vr b7, vr b8, vr b13_0, vi 8, uu, uu] ?_
    refine il X13 qz at_213 ?_
    refine ifY X13 qz 215 225 at_215 (feq (by decide : ¬ ((8 : Int32) = (0 : Int32)))).2 ?_
    refine il X13 qz at_225 ?_
    refine ic X13 qz at_227 ?_
    refine icY X13 qz 228 238 at_228 (feq (by decide : ¬ ((8 : Int32) = (4 : Int32)))).2 ?_
    refine bp X13 qz at_238 ?_
    refine st14 _ ?_
    refine sta X14 qz at_242 #[vi p0, vi p1, vi p2, vj p3, .second, vi (nE p2), vi (fx41 p0), vi (fx41 p1), vi (fx42 p3 p2), vi (fx43 p3 p2), vi (fx44 p3 p2), vi (fx45 p3 p2), vi (fx46 p3 p2), vi (fx47 p3 p2), vr b7, vr b8, vr b13_0, vi 8, vr b14, uu] ?_
    refine al X14 qz at_244 ?_
    refine ic X14 qz at_246 ?_
    refine bp X14 qz at_247 ?_
    refine st16 _ ?_
    show Sp p e below T16 (mkF m 250 #[vi p0, vi p1, vi p2, vj p3, .second, vi (nE p2), vi (fx41 p0), vi (fx41 p1), vi (fx42 p3 p2), vi (fx43 p3 p2), vi (fx44 p3 p2), vi (fx45 p3 p2), vi (fx46 p3 p2), vi (fx47 p3 p2), vr b7, vr b8, vr b13_0, vi 8, vr b14, uu] []) _
    refine al X16 qz at_250 ?_
    refine ic X16 qz at_252 ?_
    refine bp X16 qz at_253 ?_
    refine st18 _ ?_
    refine al X18 qz at_256 ?_
    refine ic X18 qz at_258 ?_
    refine bp X18 qz at_259 ?_
    refine st20 _ ?_
    refine al X20 qz at_262 ?_
    refine ic X20 qz at_264 ?_
    refine bp X20 qz at_265 ?_
    refine st22 _ ?_
    refine al X22 qz at_268 ?_
    refine ic X22 qz at_270 ?_
    refine bp X22 qz at_271 ?_
    refine st24 _ ?_
    show Sp p e below T24 (mkF m 274 #[vi p0, vi p1, vi p2, vj p3, .second, vi (nE p2), vi (fx41 p0), vi (fx41 p1), vi (fx42 p3 p2), vi (fx43 p3 p2), vi (fx44 p3 p2), vi (fx45 p3 p2), vi (fx46 p3 p2), vi (fx47 p3 p2), vr b7, vr b8, vr b13_0, vi 8, vr b14, uu] []) _
    refine al X24 qz at_274 ?_
    refine ic X24 qz at_276 ?_
    refine il X24 qz at_277 ?_
    refine st26 _ ?_
    refine al X26 qz at_280 ?_
    refine bp X26 qz at_282 ?_
    refine bp X26 qz at_284 ?_
    refine st28 _ ?_
    refine al X28 qz at_287 ?_
    refine bp X28 qz at_289 ?_
    refine il X28 qz at_291 ?_
    refine st30 _ ?_
    refine al X30 qz at_294 ?_
    refine bp X30 qz at_296 ?_
    refine bp X30 qz at_298 ?_
    refine st33 _ ?_
    show Sp p e below T33 (mkF m 301 #[vi p0, vi p1, vi p2, vj p3, .second, vi (nE p2), vi (fx41 p0), vi (fx41 p1), vi (fx42 p3 p2), vi (fx43 p3 p2), vi (fx44 p3 p2), vi (fx45 p3 p2), vi (fx46 p3 p2), vi (fx47 p3 p2), vr b7, vr b8, vr b13_0, vi 8, vr b14, uu] []) _
    refine al X33 qz at_301 ?_
    refine bp X33 qz at_303 ?_
    refine bp X33 qz at_305 ?_
    refine st35 _ ?_
    refine il X35 qz at_308 ?_
    refine ifN X35 qz at_310 (tlt (own_nh8 (own_nE p2) hc1 hc2)).2.2.2 ?_
    refine al X35 qz at_313 ?_
    refine bp X35 qz at_315 ?_
    refine il X35 qz at_317 ?_
    refine il X35 qz at_319 ?_
    refine il X35 qz at_321 ?_
    refine il X35 qz at_323 ?_
    refine ic X35 qz at_325 ?_
    refine st36 _ ?_
    refine st37 _ ?_
    refine il X37 qz at_332 ?_
    show Sp p e below T37 (mkF m 334 #[vi p0, vi p1, vi p2, vj p3, .second, vi (nE p2), vi (fx41 p0), vi (fx41 p1), vi (fx42 p3 p2), vi (fx43 p3 p2), vi (fx44 p3 p2), vi (fx45 p3 p2), vi (fx46 p3 p2), vi (fx47 p3 p2), vr b7, vr b8, vr b13_0, vi 8, vr b14, uu] [(.int (nE p2))]) _
    refine ic X37 qz at_334 ?_
    refine icN X37 qz at_335 (tlt (own_nh7 (own_nE p2) hc1 hc2)).2.2.2 ?_
    refine al X37 qz at_338 ?_
    refine bp X37 qz at_340 ?_
    refine il X37 qz at_342 ?_
    refine il X37 qz at_344 ?_
    refine il X37 qz at_346 ?_
    refine il X37 qz at_348 ?_
    refine ic X37 qz at_350 ?_
    refine wib X37 qz at_351 ?_
    refine st38 _ ?_
    refine bp X38 qz at_355 ?_
    refine il X38 qz at_357 ?_
    refine wia X38 qz at_359 ?_
    refine stk (y := (.int 18)) rfl ?_
    refine st X38 qz at_360 #[vi p0, vi p1, vi p2, vj p3, .second, vi (nE p2), vi (fx41 p0), vi (fx41 p1), vi (fx42 p3 p2), vi (fx43 p3 p2), vi (fx44 p3 p2), vi (fx45 p3 p2), vi (fx46 p3 p2), vi (fx47 p3 p2), vr b7, vr b8, vr b13_0, vi 8, vr b14, vi 18] ?_
    refine al X38 qz at_362 ?_
    show Sp p e below T38 (mkF m 364 #[vi p0, vi p1, vi p2, vj p3, .second, vi (nE p2), vi (fx41 p0), vi (fx41 p1), vi (fx42 p3 p2), vi (fx43 p3 p2), vi (fx44 p3 p2), vi (fx45 p3 p2), vi (fx46 p3 p2), vi (fx47 p3 p2), vr b7, vr b8, vr b13_0, vi 8, vr b14, vi 18] [(.ref b14)]) _
    refine il X38 qz at_364 ?_
    refine bp X38 qz at_366 ?_
    refine st40 _ ?_
    refine al X40 qz at_369 ?_
    refine il X40 qz at_371 ?_
    refine ic X40 qz at_373 ?_
    refine wia X40 qz at_374 ?_
    refine stk (y := (.int 19)) rfl ?_
    refine bp X40 qz at_375 ?_
    refine st42 _ ?_
    refine al X42 qz at_378 ?_
    refine il X42 qz at_380 ?_
    refine ic X42 qz at_382 ?_
    refine wia X42 qz at_383 ?_
    refine stk (y := (.int 20)) rfl ?_
    refine bp X42 qz at_384 ?_
    refine st44 _ ?_
    refine al X44 qz at_387 ?_
    show Sp p e below T44 (mkF m 389 #[vi p0, vi p1, vi p2, vj p3, .second, vi (nE p2), vi (fx41 p0), vi (fx41 p1), vi (fx42 p3 p2), vi (fx43 p3 p2), vi (fx44 p3 p2), vi (fx45 p3 p2), vi (fx46 p3 p2), vi (fx47 p3 p2), vr b7, vr b8, vr b13_0, vi 8, vr b14, vi 18] [(.ref b14)]) _
    refine il X44 qz at_389 ?_
    refine ic X44 qz at_391 ?_
    refine wia X44 qz at_392 ?_
    refine stk (y := (.int 21)) rfl ?_
    refine bp X44 qz at_393 ?_
    refine st46 _ ?_
    refine al X46 qz at_396 ?_
    refine il X46 qz at_398 ?_
    refine ic X46 qz at_400 ?_
    refine wia X46 qz at_401 ?_
    refine stk (y := (.int 22)) rfl ?_
    refine bp X46 qz at_402 ?_
    refine st48 _ ?_
    refine al X48 qz at_405 ?_
    refine st49 _ ?_
    refine XS.dup X49.here hx rfl (hb hby at_410) rfl rfl ?_
    refine al X49 qz at_411 ?_
    refine st50.trans ?_
    show Sp p e below T50 (mkF m 416 #[vi p0, vi p1, vi p2, vj p3, .second, vi (nE p2), vi (fx41 p0), vi (fx41 p1), vi (fx42 p3 p2), vi (fx43 p3 p2), vi (fx44 p3 p2), vi (fx45 p3 p2), vi (fx46 p3 p2), vi (fx47 p3 p2), vr b7, vr b8, vr b13_0, vi 8, vr b14, vi 18] [(.ref b49), (.ref b13_0)]) _
    refine st56.trans ?_
    exact retN X56 hx (t := .boolean) Bd.returns (by simp) (hb hby at_419) hr
  · skip
    exact ⟨rfl, N56⟩
set_option maxRecDepth 65536 in
set_option maxHeartbeats 4000000 in
theorem rm_law (l : Launch) (Z : State) (a0 : Array Value) (hw : ∀ d ∈ tables_1, d.before a0 Z = true) (ws : List Jvm.Cond) (w_enc w_tb : Addr) (cs_v : Int32) (cl_tb : Cell) (wv_fm : Value) (hp : Perm Z w_enc w_tb cs_v cl_tb wv_fm) (p0 : Int32) (p1 : Int32) (p2 : Int32) (p3 : Int64) (h0 : Heap) (n0 : Nat) (O0 : Old Z n0 h0) :
    MetFree l x (head1 (Jvm.Cond.code x code maxLocals ret :: ws) room_1) (fun a U => a = #[(.int p0), (.int p1), (.int p2), (.long p3)] ∧ Z.Warmed39 U.vm ∧ U.heap = h0 ∧ CHv Z own_EL U.vm h0) (fun _ _ _ _ _ => True) (fun _ U o U' => ∃ v L, o = .returned v ∧ (v = some (.int 1) ∧ Fr n0 L) ∧ ReturnedEndW U o U' L 56 5568) := by
  by_cases d0 : (nE p2) < (1 : Int32)
  · skip
    exact rm63 l Z a0 hw ws w_enc w_tb cs_v cl_tb wv_fm hp p0 p1 p2 p3 h0 n0 O0 d0
  · skip
    by_cases d1 : (nE p2) < (4 : Int32)
    · skip
      exact rm77 l Z a0 hw ws w_enc w_tb cs_v cl_tb wv_fm hp p0 p1 p2 p3 h0 n0 O0 d0 d1
    · skip
      exact rm80 l Z a0 hw ws w_enc w_tb cs_v cl_tb wv_fm hp p0 p1 p2 p3 h0 n0 O0 d0 d1
set_option maxRecDepth 65536 in
set_option maxHeartbeats 40000000 in
theorem comes_1 {Post : Tables → Env → Array Value → State → Outcome → State → Prop} (hpost : ∀ tb e args s v u, (limb_1_1.after args s (.returned v) u = true ∧ limb_1_2.after args s (.returned v) u = true ∧ True) → ReturnedEndW s (.returned v) u (Jvm.fieldLocs frame_1_writes args s ++ Jvm.arrayLocs frame_1_arrays args s ++ Jvm.staticLocs frame_1_statics s) 56 5568 → Post tb e args s (.returned v) u) :
    ArmFor flags0 classFile x code maxLocals ret World_1 tables_1 room_1 Calls_1 rest_1 Pre_1 Post := by
  intro l hfl _ _ p e ha hc hk s m args below hf hA hF happ hP
  obtain ⟨hcalls, hrest, hpre⟩ := hP
  obtain ⟨-, -, -, hnamed, -, -, -, hat⟩ := (Spec.applies_iff hf).mp happ
  obtain ⟨hg, hn⟩ := and_e (Cond.before_iff.mp (show (Jvm.Cond.and given_1 narrow_1).before args s = true from hpre))
  obtain ⟨h1, hg⟩ := and_e hg
  obtain ⟨ga0, hg⟩ := and_e hg
  obtain ⟨ga1, hg⟩ := and_e hg
  obtain ⟨ga2, hg⟩ := and_e hg
  have ga3 := hg
  obtain ⟨w0, w1, w2, w3, rfl⟩ : ∃ w0 w1 w2 w3 : Value, args = #[w0, w1, w2, w3] := by
    have hs : args.size = 4 := by simpa [Cond.value, given_1] using h1
    obtain ⟨L⟩ := args
    match L, hs with
    | [w0, w1, w2, w3], _ => exact ⟨w0, w1, w2, w3, rfl⟩
  have hw := fun d (hd : d ∈ tables_1) => atoms_spec (ws := Jvm.Cond.code x code maxLocals ret :: tables_1) hat d (List.mem_cons_of_mem _ hd)
  have hfit : Fit s := fun {y c} hc i hi => by
    obtain ⟨ha, rfl⟩ := Array.getElem?_eq_some_iff.mp hc
    have q := List.all_eq_true.mp ((Array.all_eq_true_iff_forall_mem.mp hF) _ (Array.getElem_mem ha)) i (List.mem_range.mpr hi)
    simpa [Array.getElem?_eq_getElem hi] using q
  obtain ⟨hsets, hown0⟩ := atoms_of _ (rest_1_c_eq ▸ (show rest_1_c.before _ s = true from hrest))
  have hr0 := Cond.before_iff.mp hown0
  obtain ⟨i0, ei0⟩ := is_v ga0
  obtain rfl : w0 = (.int i0) := Option.some.inj ei0
  obtain ⟨i1, ei1⟩ := is_v ga1
  obtain rfl : w1 = (.int i1) := Option.some.inj ei1
  obtain ⟨i2, ei2⟩ := is_v ga2
  obtain rfl : w2 = (.int i2) := Option.some.inj ei2
  obtain ⟨i3, ei3⟩ := isL_v ga3
  obtain rfl : w3 = (.long i3) := Option.some.inj ei3
  obtain ⟨cs_v, ev_cs⟩ := is_v (Cond.before_iff.mp (hsets _ (List.mem_of_getElem? (i := 1) rfl)))
  have S_COMPACT_STRINGS := Sta.start ev_cs (Or.inl (hsets _ (List.mem_of_getElem? (i := 0) rfl)))
  have h_cs : ¬ (cs_v = (0 : Int32)) := gotF (Cond.eq_ints ev_cs (Term.int_eval (0 : Int32))) (not_v (r := true) (Cond.before_iff.mp (hsets _ (List.mem_of_getElem? (i := 2) rfl))))
  obtain ⟨w_enc, ev_enc⟩ := exa_v (Cond.before_iff.mp (hsets _ (List.mem_of_getElem? (i := 11) rfl)))
  have E_w_enc := Exa.start ev_enc (Cond.before_iff.mp (hsets _ (List.mem_of_getElem? (i := 11) rfl)))
  have S_w_enc := Sta.start ev_enc (Or.inl (hsets _ (List.mem_of_getElem? (i := 10) rfl)))
  have F_isURL_w_enc := own_fldi ev_enc (Cond.before_iff.mp (hsets _ (List.mem_of_getElem? (i := 12) rfl)))
  have F_linemax_w_enc := own_fldi ev_enc (Cond.before_iff.mp (hsets _ (List.mem_of_getElem? (i := 14) rfl)))
  have F_doPadding_w_enc := own_fldi ev_enc (Cond.before_iff.mp (hsets _ (List.mem_of_getElem? (i := 15) rfl)))
  obtain ⟨w_tb, ev_tb⟩ := arr_v (Cond.before_iff.mp (hsets _ (List.mem_of_getElem? (i := 18) rfl)))
  have S_w_tb := Sta.start ev_tb (Or.inl (hsets _ (List.mem_of_getElem? (i := 17) rfl)))
  obtain ⟨cl_tb, A_tb⟩ := Arr.start ev_tb (Cond.before_iff.mp (hsets _ (List.mem_of_getElem? (i := 18) rfl)))
  obtain ⟨l_tb, n_tb⟩ := own_valo ev_tb A_tb (hsets _ (List.mem_of_getElem? (i := 20) rfl))
  have B_tb : TbOk s w_tb cl_tb := TbOk.start A_tb l_tb n_tb ⟨own_el (j := 0) ev_tb A_tb hsets 21, ⟨own_el (j := 1) ev_tb A_tb hsets 22, ⟨own_el (j := 2) ev_tb A_tb hsets 23, ⟨own_el (j := 3) ev_tb A_tb hsets 24, ⟨own_el (j := 4) ev_tb A_tb hsets 25, ⟨own_el (j := 5) ev_tb A_tb hsets 26, ⟨own_el (j := 6) ev_tb A_tb hsets 27, ⟨own_el (j := 7) ev_tb A_tb hsets 28, ⟨own_el (j := 8) ev_tb A_tb hsets 29, ⟨own_el (j := 9) ev_tb A_tb hsets 30, ⟨own_el (j := 10) ev_tb A_tb hsets 31, ⟨own_el (j := 11) ev_tb A_tb hsets 32, ⟨own_el (j := 12) ev_tb A_tb hsets 33, ⟨own_el (j := 13) ev_tb A_tb hsets 34, ⟨own_el (j := 14) ev_tb A_tb hsets 35, ⟨own_el (j := 15) ev_tb A_tb hsets 36, ⟨own_el (j := 16) ev_tb A_tb hsets 37, ⟨own_el (j := 17) ev_tb A_tb hsets 38, ⟨own_el (j := 18) ev_tb A_tb hsets 39, ⟨own_el (j := 19) ev_tb A_tb hsets 40, ⟨own_el (j := 20) ev_tb A_tb hsets 41, ⟨own_el (j := 21) ev_tb A_tb hsets 42, ⟨own_el (j := 22) ev_tb A_tb hsets 43, ⟨own_el (j := 23) ev_tb A_tb hsets 44, ⟨own_el (j := 24) ev_tb A_tb hsets 45, ⟨own_el (j := 25) ev_tb A_tb hsets 46, ⟨own_el (j := 26) ev_tb A_tb hsets 47, ⟨own_el (j := 27) ev_tb A_tb hsets 48, ⟨own_el (j := 28) ev_tb A_tb hsets 49, ⟨own_el (j := 29) ev_tb A_tb hsets 50, ⟨own_el (j := 30) ev_tb A_tb hsets 51, ⟨own_el (j := 31) ev_tb A_tb hsets 52, ⟨own_el (j := 32) ev_tb A_tb hsets 53, ⟨own_el (j := 33) ev_tb A_tb hsets 54, ⟨own_el (j := 34) ev_tb A_tb hsets 55, ⟨own_el (j := 35) ev_tb A_tb hsets 56, ⟨own_el (j := 36) ev_tb A_tb hsets 57, ⟨own_el (j := 37) ev_tb A_tb hsets 58, ⟨own_el (j := 38) ev_tb A_tb hsets 59, ⟨own_el (j := 39) ev_tb A_tb hsets 60, ⟨own_el (j := 40) ev_tb A_tb hsets 61, ⟨own_el (j := 41) ev_tb A_tb hsets 62, ⟨own_el (j := 42) ev_tb A_tb hsets 63, ⟨own_el (j := 43) ev_tb A_tb hsets 64, ⟨own_el (j := 44) ev_tb A_tb hsets 65, ⟨own_el (j := 45) ev_tb A_tb hsets 66, ⟨own_el (j := 46) ev_tb A_tb hsets 67, ⟨own_el (j := 47) ev_tb A_tb hsets 68, ⟨own_el (j := 48) ev_tb A_tb hsets 69, ⟨own_el (j := 49) ev_tb A_tb hsets 70, ⟨own_el (j := 50) ev_tb A_tb hsets 71, ⟨own_el (j := 51) ev_tb A_tb hsets 72, ⟨own_el (j := 52) ev_tb A_tb hsets 73, ⟨own_el (j := 53) ev_tb A_tb hsets 74, ⟨own_el (j := 54) ev_tb A_tb hsets 75, ⟨own_el (j := 55) ev_tb A_tb hsets 76, ⟨own_el (j := 56) ev_tb A_tb hsets 77, ⟨own_el (j := 57) ev_tb A_tb hsets 78, ⟨own_el (j := 58) ev_tb A_tb hsets 79, ⟨own_el (j := 59) ev_tb A_tb hsets 80, ⟨own_el (j := 60) ev_tb A_tb hsets 81, ⟨own_el (j := 61) ev_tb A_tb hsets 82, ⟨own_el (j := 62) ev_tb A_tb hsets 83, ⟨own_el (j := 63) ev_tb A_tb hsets 84, trivial⟩⟩⟩⟩⟩⟩⟩⟩⟩⟩⟩⟩⟩⟩⟩⟩⟩⟩⟩⟩⟩⟩⟩⟩⟩⟩⟩⟩⟩⟩⟩⟩⟩⟩⟩⟩⟩⟩⟩⟩⟩⟩⟩⟩⟩⟩⟩⟩⟩⟩⟩⟩⟩⟩⟩⟩⟩⟩⟩⟩⟩⟩⟩⟩
  obtain ⟨wv_fm, ev_fm, h_wv_fm⟩ := isR_v (Cond.before_iff.mp (hsets _ (List.mem_of_getElem? (i := 8) rfl)))
  have S_wv_fm := Sta.start ev_fm (Or.inl (hsets _ (List.mem_of_getElem? (i := 7) rfl)))
  have hCHs : CHv s own_EL s.vm s.heap := CHv.start (own_EW hw) (fun p hp => hcalls.1 p (own_sub p hp)) (hsets _ (List.mem_of_getElem? (i := 2) rfl)) (wq hw 6 rfl) (wq hw 20 rfl)
  obtain ⟨n, o, h1, h2, h3, _, L, rfl, ⟨rfl, N⟩, hq⟩ := rm_law l s _ hw tables_1 w_enc w_tb cs_v cl_tb wv_fm ⟨S_COMPACT_STRINGS, h_cs, S_w_enc, E_w_enc, F_isURL_w_enc, F_linemax_w_enc, F_doPadding_w_enc, S_w_tb, B_tb, S_wv_fm, h_wv_fm⟩ i0 i1 i2 i3 s.heap s.heap.size (Old.start s) p e ha hc hk s m _ below hf ((Spec.applies_iff_loose hf).mp happ).1 ⟨rfl, State.Warmed39.refl s, rfl, hCHs⟩ trivial
  refine ⟨n, _, h1, h2, h3, hpost _ _ _ _ _ _ ⟨Cond.after_iff.mpr rfl, Cond.after_iff.mpr (eq_i res_at (Term.int_eval (1)) rfl), trivial⟩ ⟨hq.1, hq.2.1, hq.2.2.1, (hq.2.2.2.sift fun y hy => Or.inr (N y hy)).mono (by decide) (by decide)⟩⟩
theorem main_1_1 : Claimed_1_1 := comes_1 fun _ _ _ _ _ _ h hF => ⟨h.1, hF⟩
theorem main_1_2 : Claimed_1_2 := comes_1 fun _ _ _ _ _ _ h hF => ⟨h.2.1, hF⟩
end Jvm.Pilot.@@N@@
namespace Jvm.Pilot.@@N@@
open Jvm Jvm.ClassFile Sem Op Lib Jvm.Free Jvm.Stand Jvm.Pilot.@@N@@.Jvm.D
/-! MADE BY PROGRAM (witnessworld.py) out of the Statement's table words and the real class files: 29 classes; the members and pool entries that the words name. The judged class is class 1, her method 4. -/
namespace start1
open Jvm.ClassFile
def u (s : String) : CpInfo := .utf8 (stringToUtf16 s)
/-- a pool by its gaps: so many unusable entries, then the entry; so many at the end -/
def gap : Nat → List CpInfo → List CpInfo
  | 0, r => r
  | n + 1, r => .unusable :: gap n r
def poolList (es : List (Nat × CpInfo)) (last : Nat) : List CpInfo := es.foldr (fun e r => gap e.1 (e.2 :: r)) (gap last [])
def pool (es : List (Nat × CpInfo)) (last : Nat) : Array CpInfo := ⟨poolList es last⟩
def fileOf (pool : Array CpInfo) (this : Nat) (attrs : Array Attribute := #[]) (ms : Array MethodInfo := #[]) (fl : Nat := 33) (sup : Nat := 0) (ifs : Array Nat := #[]) (fds : Array FieldInfo := #[]) : ClassFile where
  minorVersion := 0
  majorVersion := 65
  constantPool := pool
  accessFlags := fl
  thisClass := this
  superClass := sup
  interfaces := ifs
  fields := fds
  methods := ms
  attributes := attrs
def plain (name : String) (sup : Option ClassId) : Class where
  name := name
  kind := .ordinary
  loader := none
  accessFlags := 33
  super := sup
  interfaces := #[]
  cf := none
  fields := #[]
  methods := #[]
  instanceTypes := #[]
  staticTypes := #[]
  resolved := #[]
  callSites := []
  init := .initialized
  statics := none
  mirror := none

def pool0 : Array CpInfo := pool [(5, u "<init>"), (0, u "()V"), (1, .class_ 10), (1, u "java/lang/Object"), (85, u "clone"), (0, u "()Ljava/lang/Object;")] 26

def k0c0 : Code := { maxStack := 0, maxLocals := 1, code := object_method_1_code, exceptionTable := #[], attributes := #[] }
def k0m0 : Method := { name := "<init>", desc := "()V", sig := { parameters := [], returnType := none }, accessFlags := 1, code := some k0c0 }
def k0m1 : Method := { name := "clone", desc := "()Ljava/lang/Object;", sig := { parameters := [], returnType := some (.object "java/lang/Object") }, accessFlags := 260, code := none }
/-- java/lang/Object -/
def k0 : Class := { plain "java/lang/Object" none with
  accessFlags := 33
  interfaces := #[]
  cf := some (fileOf pool0 8 #[] #[{ accessFlags := 1, nameIndex := 5, descriptorIndex := 6, attributes := #[] }, { accessFlags := 260, nameIndex := 96, descriptorIndex := 97, attributes := #[] }] 33 0 #[] #[])
  fields := #[]
  methods := #[k0m0, k0m1]
  instanceTypes := #[]
  staticTypes := #[]
  resolved := Array.replicate 124 none
  statics := none }

def pool1 : Array CpInfo := pool [(2, .class_ 4), (1, u "java/lang/Object"), (0, u "<init>"), (0, u "()V"), (0, .long 255), (1, .methodref 10 11), (0, .class_ 12), (0, .nameAndType 13 14), (0, u "com/example/cloakfield/cloakfield/format/TaggedValueToTextPinLaw"), (0, u "sextet"), (0, u "(I)C"), (0, .integer 2147483647), (0, .methodref 10 17), (0, .nameAndType 18 19), (0, u "byteAt"), (0, u "(JII)I"), (0, .class_ 21), (0, u "com/example/cloakfield/cloakfield/format/TaggedValue"), (0, .methodref 23 24), (0, .class_ 25), (0, .nameAndType 26 27), (0, u "java/lang/String"), (0, u "valueOf"), (0, u "(C)Ljava/lang/String;"), (0, .methodref 20 29), (0, .nameAndType 5 30), (0, u "(Ljava/lang/String;Ljava/lang/String;[B)V"), (0, .methodref 20 32), (0, .nameAndType 33 34), (0, u "toText"), (0, u "()Ljava/lang/String;"), (0, .methodref 36 37), (0, .class_ 38), (0, .nameAndType 39 40), (0, u "java/lang/Math"), (0, u "min"), (0, u "(II)I"), (0, .methodref 10 42), (0, .nameAndType 43 44), (0, u "group"), (0, u "([CIIIII)V"), (0, .methodref 23 46), (0, .nameAndType 5 47), (0, u "([C)V"), (0, .methodref 23 49), (0, .nameAndType 50 51), (0, u "equals"), (0, u "(Ljava/lang/Object;)Z"), (5, u "law"), (0, u "(IIIJ)Z")] 4

def k1m0 : Method := { name := "<init>", desc := "()V", sig := { parameters := [], returnType := none }, accessFlags := 2, code := none }
def k1c1 : Code := { maxStack := 4, maxLocals := 4, code := method_2_code, exceptionTable := #[], attributes := #[] }
def k1m1 : Method := { name := "byteAt", desc := "(JII)I", sig := { parameters := [.long, .int, .int], returnType := some .int }, accessFlags := 10, code := some k1c1 }
def k1c2 : Code := { maxStack := 3, maxLocals := 1, code := method_3_code, exceptionTable := #[], attributes := #[] }
def k1m2 : Method := { name := "sextet", desc := "(I)C", sig := { parameters := [.int], returnType := some .char }, accessFlags := 10, code := some k1c2 }
def k1c3 : Code := { maxStack := 4, maxLocals := 7, code := method_4_code, exceptionTable := #[], attributes := #[] }
def k1m3 : Method := { name := "group", desc := "([CIIIII)V", sig := { parameters := [(.array .char), .int, .int, .int, .int, .int], returnType := none }, accessFlags := 10, code := some k1c3 }
def k1c4 : Code := { maxStack := 7, maxLocals := 20, code := code, exceptionTable := #[], attributes := #[] }
def k1m4 : Method := { name := "law", desc := "(IIIJ)Z", sig := { parameters := [.int, .int, .int, .long], returnType := some .boolean }, accessFlags := 9, code := some k1c4 }
/-- com/example/cloakfield/cloakfield/format/TaggedValueToTextPinLaw -/
def k1 : Class := { plain "com/example/cloakfield/cloakfield/format/TaggedValueToTextPinLaw" (some 0) with
  accessFlags := 49
  interfaces := #[]
  cf := some (fileOf pool1 10 #[] #[{ accessFlags := 2, nameIndex := 5, descriptorIndex := 6, attributes := #[] }, { accessFlags := 10, nameIndex := 18, descriptorIndex := 19, attributes := #[] }, { accessFlags := 10, nameIndex := 13, descriptorIndex := 14, attributes := #[] }, { accessFlags := 10, nameIndex := 43, descriptorIndex := 44, attributes := #[] }, { accessFlags := 9, nameIndex := 57, descriptorIndex := 58, attributes := #[] }] 49 2 #[] #[])
  fields := #[]
  methods := #[k1m0, k1m1, k1m2, k1m3, k1m4]
  instanceTypes := #[]
  staticTypes := #[]
  resolved := Array.replicate 63 none
  statics := none }

def pool2 : Array CpInfo := pool [(1, .methodref 2 3), (0, .class_ 4), (0, .nameAndType 5 6), (0, u "java/lang/Object"), (0, u "<init>"), (0, u "()V"), (0, .class_ 8), (0, u "java/lang/Record")] 13

def k2c0 : Code := { maxStack := 1, maxLocals := 1, code := jdk_30_method_1_code, exceptionTable := #[], attributes := #[] }
def k2m0 : Method := { name := "<init>", desc := "()V", sig := { parameters := [], returnType := none }, accessFlags := 4, code := some k2c0 }
/-- java/lang/Record -/
def k2 : Class := { plain "java/lang/Record" (some 0) with
  accessFlags := 1057
  interfaces := #[]
  cf := some (fileOf pool2 7 #[] #[{ accessFlags := 4, nameIndex := 5, descriptorIndex := 6, attributes := #[] }] 1057 2 #[] #[])
  fields := #[]
  methods := #[k2m0]
  instanceTypes := #[]
  staticTypes := #[]
  resolved := Array.replicate 22 none
  statics := none }

def pool3 : Array CpInfo := pool [(1, .methodref 2 3), (0, .class_ 4), (0, .nameAndType 5 6), (0, u "java/lang/Record"), (0, u "<init>"), (0, u "()V"), (0, .fieldref 8 9), (0, .class_ 10), (0, .nameAndType 11 12), (0, u "com/example/cloakfield/cloakfield/format/TaggedValue"), (0, u "algorithm"), (0, u "Ljava/lang/String;"), (0, .fieldref 8 14), (0, .nameAndType 15 12), (0, u "keyId"), (0, .fieldref 8 17), (0, .nameAndType 18 19), (0, u "payload"), (0, u "[B"), (0, .class_ 21), (0, u "java/lang/StringBuilder"), (0, .methodref 20 3), (0, .string 24), (0, u "#$$#{"), (0, .methodref 20 26), (0, .nameAndType 27 28), (0, u "append"), (0, u "(Ljava/lang/String;)Ljava/lang/StringBuilder;"), (0, .string 30), (0, u ":"), (0, .string 32), (0, u "}{"), (0, .methodref 34 35), (0, .class_ 36), (0, .nameAndType 37 38), (0, u "java/util/Base64"), (0, u "getEncoder"), (0, u "()Ljava/util/Base64$Encoder;"), (0, .methodref 40 41), (0, .class_ 42), (0, .nameAndType 43 44), (0, u "java/util/Base64$Encoder"), (0, u "encodeToString"), (0, u "([B)Ljava/lang/String;"), (0, .string 46), (0, u "}#$$#"), (0, .methodref 20 48), (0, .nameAndType 49 50), (0, u "toString"), (0, u "()Ljava/lang/String;"), (25, .class_ 78), (1, u "com/example/cloakfield/cloakfield/format/TaggedValue$Found"), (48, u "lastHead"), (0, u "Lcom/example/cloakfield/cloakfield/format/TaggedValue$Head;"), (4, .class_ 135), (1, u "com/example/cloakfield/cloakfield/format/TaggedValue$Head"), (15, u "(Ljava/lang/String;Ljava/lang/String;[B)V"), (45, u "SEXTETS"), (45, u "START"), (1, u "END"), (0, u "PAYLOAD_START"), (0, u "MAX_ID"), (0, u "I"), (1, u "ALPHABET"), (3, u "toText")] 40

def k3c0 : Code := { maxStack := 2, maxLocals := 4, code := prog_37_method_1_code, exceptionTable := #[], attributes := #[] }
def k3m0 : Method := { name := "<init>", desc := "(Ljava/lang/String;Ljava/lang/String;[B)V", sig := { parameters := [(.object "java/lang/String"), (.object "java/lang/String"), (.array .byte)], returnType := none }, accessFlags := 1, code := some k3c0 }
def k3c1 : Code := { maxStack := 3, maxLocals := 1, code := prog_37_method_2_code, exceptionTable := #[], attributes := #[] }
def k3m1 : Method := { name := "toText", desc := "()Ljava/lang/String;", sig := { parameters := [], returnType := some (.object "java/lang/String") }, accessFlags := 1, code := some k3c1 }
/-- com/example/cloakfield/cloakfield/format/TaggedValue -/
def k3 : Class := { plain "com/example/cloakfield/cloakfield/format/TaggedValue" (some 2) with
  accessFlags := 49
  interfaces := #[]
  cf := some (fileOf pool3 8 #[.nestMembers #[133, 76]] #[{ accessFlags := 1, nameIndex := 5, descriptorIndex := 151, attributes := #[] }, { accessFlags := 1, nameIndex := 254, descriptorIndex := 50, attributes := #[] }] 49 2 #[] #[{ accessFlags := 18, nameIndex := 11, descriptorIndex := 12, attributes := #[] }, { accessFlags := 18, nameIndex := 15, descriptorIndex := 12, attributes := #[] }, { accessFlags := 18, nameIndex := 18, descriptorIndex := 19, attributes := #[] }, { accessFlags := 26, nameIndex := 243, descriptorIndex := 12, attributes := #[] }, { accessFlags := 26, nameIndex := 245, descriptorIndex := 12, attributes := #[] }, { accessFlags := 26, nameIndex := 246, descriptorIndex := 12, attributes := #[] }, { accessFlags := 26, nameIndex := 247, descriptorIndex := 248, attributes := #[] }, { accessFlags := 26, nameIndex := 250, descriptorIndex := 12, attributes := #[] }, { accessFlags := 26, nameIndex := 197, descriptorIndex := 19, attributes := #[] }, { accessFlags := 10, nameIndex := 127, descriptorIndex := 128, attributes := #[] }])
  fields := #[{ name := "algorithm", type := (.object "java/lang/String"), accessFlags := 18, slot := 0, constantValue := 0 }, { name := "keyId", type := (.object "java/lang/String"), accessFlags := 18, slot := 1, constantValue := 0 }, { name := "payload", type := (.array .byte), accessFlags := 18, slot := 2, constantValue := 0 }, { name := "START", type := (.object "java/lang/String"), accessFlags := 26, slot := 0, constantValue := 0 }, { name := "END", type := (.object "java/lang/String"), accessFlags := 26, slot := 1, constantValue := 0 }, { name := "PAYLOAD_START", type := (.object "java/lang/String"), accessFlags := 26, slot := 2, constantValue := 0 }, { name := "MAX_ID", type := .int, accessFlags := 26, slot := 3, constantValue := 0 }, { name := "ALPHABET", type := (.object "java/lang/String"), accessFlags := 26, slot := 4, constantValue := 0 }, { name := "SEXTETS", type := (.array .byte), accessFlags := 26, slot := 5, constantValue := 0 }, { name := "lastHead", type := (.object "com/example/cloakfield/cloakfield/format/TaggedValue$Head"), accessFlags := 10, slot := 6, constantValue := 0 }]
  methods := #[k3m0, k3m1]
  instanceTypes := #[(.object "java/lang/String"), (.object "java/lang/String"), (.array .byte)]
  staticTypes := #[(.object "java/lang/String"), (.object "java/lang/String"), (.object "java/lang/String"), .int, (.object "java/lang/String"), (.array .byte), (.object "com/example/cloakfield/cloakfield/format/TaggedValue$Head")]
  resolved := Array.replicate 295 none
  statics := none }

def pool4 : Array CpInfo := pool [(1, .class_ 2), (0, u "java/io/Serializable"), (0, .class_ 4), (0, u "java/lang/Object")] 2

/-- java/io/Serializable -/
def k4 : Class := { plain "java/io/Serializable" (some 0) with
  accessFlags := 1537
  interfaces := #[]
  cf := some (fileOf pool4 1 #[] #[] 1537 3 #[] #[])
  fields := #[]
  methods := #[]
  instanceTypes := #[]
  staticTypes := #[]
  resolved := Array.replicate 7 none
  statics := none }

def pool5 : Array CpInfo := pool [(1, .class_ 2), (0, u "java/lang/Comparable"), (0, .class_ 4), (0, u "java/lang/Object")] 7

/-- java/lang/Comparable -/
def k5 : Class := { plain "java/lang/Comparable" (some 0) with
  accessFlags := 1537
  interfaces := #[]
  cf := some (fileOf pool5 1 #[] #[] 1537 3 #[] #[])
  fields := #[]
  methods := #[]
  instanceTypes := #[]
  staticTypes := #[]
  resolved := Array.replicate 12 none
  statics := none }

def pool6 : Array CpInfo := pool [(2, .class_ 4), (1, u "java/lang/CharSequence"), (42, .class_ 48), (0, u "java/lang/CharSequence$1CodePointIterator"), (10, .class_ 60), (0, u "java/lang/CharSequence$1CharIterator"), (5, .class_ 67), (0, u "java/lang/Object")] 63

/-- java/lang/CharSequence -/
def k6 : Class := { plain "java/lang/CharSequence" (some 0) with
  accessFlags := 1537
  interfaces := #[]
  cf := some (fileOf pool6 2 #[.nestMembers #[47, 59]] #[] 1537 66 #[] #[])
  fields := #[]
  methods := #[]
  instanceTypes := #[]
  staticTypes := #[]
  resolved := Array.replicate 131 none
  statics := none }

def pool7 : Array CpInfo := pool [(1, .class_ 2), (0, u "java/lang/constant/Constable"), (0, .class_ 4), (0, u "java/lang/Object")] 6

/-- java/lang/constant/Constable -/
def k7 : Class := { plain "java/lang/constant/Constable" (some 0) with
  accessFlags := 1537
  interfaces := #[]
  cf := some (fileOf pool7 1 #[] #[] 1537 3 #[] #[])
  fields := #[]
  methods := #[]
  instanceTypes := #[]
  staticTypes := #[]
  resolved := Array.replicate 11 none
  statics := none }

def pool8 : Array CpInfo := pool [(1, .class_ 2), (0, u "java/lang/constant/ConstantDesc"), (0, .class_ 4), (0, u "java/lang/Object")] 32

/-- java/lang/constant/ConstantDesc -/
def k8 : Class := { plain "java/lang/constant/ConstantDesc" (some 0) with
  accessFlags := 1537
  interfaces := #[]
  cf := some (fileOf pool8 1 #[] #[] 1537 3 #[] #[])
  fields := #[]
  methods := #[]
  instanceTypes := #[]
  staticTypes := #[]
  resolved := Array.replicate 37 none
  statics := none }

def pool9 : Array CpInfo := pool [(1, .methodref 2 3), (0, .class_ 4), (0, .nameAndType 5 6), (0, u "java/lang/Object"), (0, u "<init>"), (0, u "()V"), (0, .string 8), (0, u ""), (0, .fieldref 10 11), (0, .class_ 12), (0, .nameAndType 13 14), (0, u "java/lang/String"), (0, u "value"), (0, u "[B"), (0, .fieldref 10 16), (0, .nameAndType 17 18), (0, u "coder"), (0, u "B"), (2, u "hash"), (0, u "I"), (2, u "hashIsZero"), (0, u "Z"), (0, .methodref 10 28), (0, .nameAndType 5 29), (0, u "([CIILjava/lang/Void;)V"), (4, .methodref 10 35), (0, .nameAndType 36 37), (0, u "checkBoundsOffCount"), (0, u "(III)I"), (0, .fieldref 10 39), (0, .nameAndType 40 26), (0, u "COMPACT_STRINGS"), (1, .class_ 44), (1, u "java/lang/StringUTF16"), (0, u "compress"), (1, .methodref 42 48), (0, .nameAndType 49 50), (0, u "coderFromArrayLen"), (0, u "([BI)B"), (2, u "toBytes"), (0, .methodref 55 56), (0, .class_ 57), (0, .nameAndType 58 59), (0, u "java/util/Arrays"), (0, u "copyOfRange"), (0, u "([BII)[B"), (10, u "([BIII)V"), (36, .class_ 109), (1, u "java/lang/StringLatin1"), (32, u "()Z"), (34, .methodref 42 178), (0, .nameAndType 45 179), (0, u "([CII)[B"), (13, .class_ 195), (1, u "java/lang/System"), (13, .methodref 10 210), (0, .nameAndType 5 211), (0, u "([BB)V"), (0, .methodref 193 213), (0, .nameAndType 214 215), (0, u "arraycopy"), (0, u "(Ljava/lang/Object;ILjava/lang/Object;II)V"), (118, u "()I"), (0, .methodref 10 336), (0, .nameAndType 17 337), (0, u "()B"), (2, u "()[B"), (28, u "(C)Z"), (119, .methodref 10 490), (0, .nameAndType 5 491), (0, u "(Ljava/lang/AbstractStringBuilder;Ljava/lang/Void;)V"), (1, .nameAndType 494 142), (0, u "isLatin1"), (11, .nameAndType 507 334), (0, u "length"), (24, u "getBytes"), (8, .methodref 107 542), (0, .nameAndType 543 544), (0, u "equals"), (0, u "([B[B)Z"), (4, .methodref 550 506), (0, .class_ 551), (0, u "java/lang/AbstractStringBuilder"), (0, .methodref 550 553), (0, .nameAndType 554 340), (0, u "getValue"), (18, u "(Ljava/lang/Object;)Z"), (1, .class_ 576), (0, u "java/lang/CharSequence"), (22, u "CASE_INSENSITIVE_ORDER"), (0, u "Ljava/util/Comparator;"), (181, u "valueOf"), (0, u "(C)Ljava/lang/String;"), (37, u "([BIB)V"), (188, u "([C)V"), (4, .methodref 107 1016), (0, .nameAndType 1017 369), (0, u "canEncode"), (0, .methodref 107 1019), (0, .nameAndType 53 1020), (0, u "(C)[B"), (26, .methodref 550 493), (5, .fieldref 1054 1055), (0, .class_ 1056), (0, .nameAndType 1057 1058), (0, u "jdk/internal/util/Preconditions"), (0, u "SIOOBE_FORMATTER"), (0, u "Ljava/util/function/BiFunction;"), (5, u "(IIILjava/util/function/BiFunction;)I"), (0, .methodref 1054 1066), (0, .nameAndType 1067 1064), (0, u "checkFromIndexSize"), (33, u "serialPersistentFields"), (0, u "[Ljava/io/ObjectStreamField;"), (0, .class_ 1104), (0, u "java/lang/String$CaseInsensitiveComparator"), (1, .class_ 1107), (0, u "java/io/Serializable"), (0, .class_ 1109), (0, u "java/lang/Comparable"), (0, .class_ 1111), (0, u "java/lang/constant/Constable"), (0, .class_ 1113), (0, u "java/lang/constant/ConstantDesc"), (2, u "serialVersionUID"), (0, u "J"), (3, u "REPL"), (0, u "C"), (2, u "LATIN1"), (1, u "UTF16"), (105, u "(Ljava/lang/StringBuilder;)V")] 217

def k9m0 : Method := { name := "<init>", desc := "()V", sig := { parameters := [], returnType := none }, accessFlags := 1, code := none }
def k9c1 : Code := { maxStack := 5, maxLocals := 2, code := jdk_42_method_3_code, exceptionTable := #[], attributes := #[] }
def k9m1 : Method := { name := "<init>", desc := "([C)V", sig := { parameters := [(.array .char)], returnType := none }, accessFlags := 1, code := some k9c1 }
def k9c2 : Code := { maxStack := 5, maxLocals := 7, code := jdk_42_method_7_code, exceptionTable := #[], attributes := #[] }
def k9m2 : Method := { name := "<init>", desc := "([BIII)V", sig := { parameters := [(.array .byte), .int, .int, .int], returnType := none }, accessFlags := 1, code := some k9c2 }
def k9c3 : Code := { maxStack := 3, maxLocals := 2, code := jdk_42_method_53_code, exceptionTable := #[], attributes := #[] }
def k9m3 : Method := { name := "<init>", desc := "(Ljava/lang/StringBuilder;)V", sig := { parameters := [(.object "java/lang/StringBuilder")], returnType := none }, accessFlags := 1, code := some k9c3 }
def k9c4 : Code := { maxStack := 2, maxLocals := 1, code := jdk_42_method_54_code, exceptionTable := #[], attributes := #[] }
def k9m4 : Method := { name := "length", desc := "()I", sig := { parameters := [], returnType := some .int }, accessFlags := 1, code := some k9c4 }
def k9c5 : Code := { maxStack := 2, maxLocals := 3, code := jdk_42_method_66_code, exceptionTable := #[], attributes := #[] }
def k9m5 : Method := { name := "equals", desc := "(Ljava/lang/Object;)Z", sig := { parameters := [(.object "java/lang/Object")], returnType := some .boolean }, accessFlags := 1, code := some k9c5 }
def k9c6 : Code := { maxStack := 4, maxLocals := 1, code := jdk_42_method_139_code, exceptionTable := #[], attributes := #[] }
def k9m6 : Method := { name := "valueOf", desc := "(C)Ljava/lang/String;", sig := { parameters := [.char], returnType := some (.object "java/lang/String") }, accessFlags := 9, code := some k9c6 }
def k9c7 : Code := { maxStack := 5, maxLocals := 4, code := jdk_42_method_147_code, exceptionTable := #[], attributes := #[] }
def k9m7 : Method := { name := "getBytes", desc := "([BIB)V", sig := { parameters := [(.array .byte), .int, .byte], returnType := none }, accessFlags := 0, code := some k9c7 }
def k9c8 : Code := { maxStack := 4, maxLocals := 6, code := jdk_42_method_149_code, exceptionTable := #[], attributes := #[] }
def k9m8 : Method := { name := "<init>", desc := "([CIILjava/lang/Void;)V", sig := { parameters := [(.array .char), .int, .int, (.object "java/lang/Void")], returnType := none }, accessFlags := 2, code := some k9c8 }
def k9c9 : Code := { maxStack := 5, maxLocals := 5, code := jdk_42_method_150_code, exceptionTable := #[], attributes := #[] }
def k9m9 : Method := { name := "<init>", desc := "(Ljava/lang/AbstractStringBuilder;Ljava/lang/Void;)V", sig := { parameters := [(.object "java/lang/AbstractStringBuilder"), (.object "java/lang/Void")], returnType := none }, accessFlags := 0, code := some k9c9 }
def k9c10 : Code := { maxStack := 2, maxLocals := 3, code := jdk_42_method_151_code, exceptionTable := #[], attributes := #[] }
def k9m10 : Method := { name := "<init>", desc := "([BB)V", sig := { parameters := [(.array .byte), .byte], returnType := none }, accessFlags := 0, code := some k9c10 }
def k9c11 : Code := { maxStack := 1, maxLocals := 1, code := jdk_42_method_152_code, exceptionTable := #[], attributes := #[] }
def k9m11 : Method := { name := "coder", desc := "()B", sig := { parameters := [], returnType := some .byte }, accessFlags := 0, code := some k9c11 }
def k9c12 : Code := { maxStack := 4, maxLocals := 3, code := jdk_42_method_157_code, exceptionTable := #[], attributes := #[] }
def k9m12 : Method := { name := "checkBoundsOffCount", desc := "(III)I", sig := { parameters := [.int, .int, .int], returnType := some .int }, accessFlags := 8, code := some k9c12 }
/-- java/lang/String -/
def k9 : Class := { plain "java/lang/String" (some 0) with
  accessFlags := 49
  interfaces := #[4, 5, 6, 7, 8]
  cf := some (fileOf pool9 10 #[.nestMembers #[1103]] #[{ accessFlags := 1, nameIndex := 5, descriptorIndex := 6, attributes := #[] }, { accessFlags := 1, nameIndex := 5, descriptorIndex := 1010, attributes := #[] }, { accessFlags := 1, nameIndex := 5, descriptorIndex := 70, attributes := #[] }, { accessFlags := 1, nameIndex := 5, descriptorIndex := 1233, attributes := #[] }, { accessFlags := 1, nameIndex := 507, descriptorIndex := 334, attributes := #[] }, { accessFlags := 1, nameIndex := 543, descriptorIndex := 573, attributes := #[] }, { accessFlags := 9, nameIndex := 782, descriptorIndex := 783, attributes := #[] }, { accessFlags := 0, nameIndex := 532, descriptorIndex := 821, attributes := #[] }, { accessFlags := 2, nameIndex := 5, descriptorIndex := 29, attributes := #[] }, { accessFlags := 0, nameIndex := 5, descriptorIndex := 491, attributes := #[] }, { accessFlags := 0, nameIndex := 5, descriptorIndex := 211, attributes := #[] }, { accessFlags := 0, nameIndex := 17, descriptorIndex := 337, attributes := #[] }, { accessFlags := 8, nameIndex := 36, descriptorIndex := 37, attributes := #[] }] 49 2 #[1106, 1108, 575, 1110, 1112] #[{ accessFlags := 18, nameIndex := 13, descriptorIndex := 14, attributes := #[] }, { accessFlags := 18, nameIndex := 17, descriptorIndex := 18, attributes := #[] }, { accessFlags := 2, nameIndex := 21, descriptorIndex := 22, attributes := #[] }, { accessFlags := 2, nameIndex := 25, descriptorIndex := 26, attributes := #[] }, { accessFlags := 26, nameIndex := 1116, descriptorIndex := 1117, attributes := #[] }, { accessFlags := 24, nameIndex := 40, descriptorIndex := 26, attributes := #[] }, { accessFlags := 26, nameIndex := 1101, descriptorIndex := 1102, attributes := #[] }, { accessFlags := 26, nameIndex := 1121, descriptorIndex := 1122, attributes := #[] }, { accessFlags := 25, nameIndex := 599, descriptorIndex := 600, attributes := #[] }, { accessFlags := 24, nameIndex := 1125, descriptorIndex := 18, attributes := #[] }, { accessFlags := 24, nameIndex := 1127, descriptorIndex := 18, attributes := #[] }])
  fields := #[{ name := "value", type := (.array .byte), accessFlags := 18, slot := 0, constantValue := 0 }, { name := "coder", type := .byte, accessFlags := 18, slot := 1, constantValue := 0 }, { name := "hash", type := .int, accessFlags := 2, slot := 2, constantValue := 0 }, { name := "hashIsZero", type := .boolean, accessFlags := 2, slot := 3, constantValue := 0 }, { name := "serialVersionUID", type := .long, accessFlags := 26, slot := 0, constantValue := 0 }, { name := "COMPACT_STRINGS", type := .boolean, accessFlags := 24, slot := 1, constantValue := 0 }, { name := "serialPersistentFields", type := (.array (.object "java/io/ObjectStreamField")), accessFlags := 26, slot := 2, constantValue := 0 }, { name := "REPL", type := .char, accessFlags := 26, slot := 3, constantValue := 0 }, { name := "CASE_INSENSITIVE_ORDER", type := (.object "java/util/Comparator"), accessFlags := 25, slot := 4, constantValue := 0 }, { name := "LATIN1", type := .byte, accessFlags := 24, slot := 5, constantValue := 0 }, { name := "UTF16", type := .byte, accessFlags := 24, slot := 6, constantValue := 0 }]
  methods := #[k9m0, k9m1, k9m2, k9m3, k9m4, k9m5, k9m6, k9m7, k9m8, k9m9, k9m10, k9m11, k9m12]
  instanceTypes := #[(.array .byte), .byte, .int, .boolean]
  staticTypes := #[.long, .boolean, (.array (.object "java/io/ObjectStreamField")), .char, (.object "java/util/Comparator"), .byte, .byte]
  resolved := Array.replicate 1451 none
  statics := some 0 }

def pool10 : Array CpInfo := pool [(4, .class_ 6), (1, u "java/lang/Object"), (0, u "<init>"), (0, u "()V"), (5, .class_ 16), (1, u "java/lang/StringLatin1"), (73, u "canEncode"), (14, u "(C)Z"), (15, u "$assertionsDisabled"), (0, u "Z"), (98, .class_ 223), (1, u "java/lang/StringLatin1$LinesSpliterator"), (57, u "equals"), (0, u "([B[B)Z"), (97, u "toBytes"), (1, u "(C)[B"), (7, .class_ 391), (0, u "java/lang/StringLatin1$CharsSpliterator")] 3

def k10m0 : Method := { name := "<init>", desc := "()V", sig := { parameters := [], returnType := none }, accessFlags := 0, code := none }
def k10c1 : Code := { maxStack := 2, maxLocals := 1, code := jdk_43_method_3_code, exceptionTable := #[], attributes := #[] }
def k10m1 : Method := { name := "canEncode", desc := "(C)Z", sig := { parameters := [.char], returnType := some .boolean }, accessFlags := 9, code := some k10c1 }
def k10c2 : Code := { maxStack := 3, maxLocals := 3, code := jdk_43_method_13_code, exceptionTable := #[], attributes := #[] }
def k10m2 : Method := { name := "equals", desc := "([B[B)Z", sig := { parameters := [(.array .byte), (.array .byte)], returnType := some .boolean }, accessFlags := 9, code := some k10c2 }
def k10c3 : Code := { maxStack := 4, maxLocals := 1, code := jdk_43_method_46_code, exceptionTable := #[], attributes := #[] }
def k10m3 : Method := { name := "toBytes", desc := "(C)[B", sig := { parameters := [.char], returnType := some (.array .byte) }, accessFlags := 9, code := some k10c3 }
/-- java/lang/StringLatin1 -/
def k10 : Class := { plain "java/lang/StringLatin1" (some 0) with
  accessFlags := 48
  interfaces := #[]
  cf := some (fileOf pool10 14 #[.nestMembers #[390, 221]] #[{ accessFlags := 0, nameIndex := 7, descriptorIndex := 8, attributes := #[] }, { accessFlags := 9, nameIndex := 90, descriptorIndex := 105, attributes := #[] }, { accessFlags := 9, nameIndex := 281, descriptorIndex := 282, attributes := #[] }, { accessFlags := 9, nameIndex := 380, descriptorIndex := 382, attributes := #[] }] 48 4 #[] #[{ accessFlags := 4120, nameIndex := 121, descriptorIndex := 122, attributes := #[] }])
  fields := #[{ name := "$assertionsDisabled", type := .boolean, accessFlags := 4120, slot := 0, constantValue := 0 }]
  methods := #[k10m0, k10m1, k10m2, k10m3]
  instanceTypes := #[]
  staticTypes := #[.boolean]
  resolved := Array.replicate 395 none
  statics := none }

def pool11 : Array CpInfo := pool [(1, .class_ 2), (0, u "java/lang/Appendable"), (0, .class_ 4), (0, u "java/lang/Object")] 9

/-- java/lang/Appendable -/
def k11 : Class := { plain "java/lang/Appendable" (some 0) with
  accessFlags := 1537
  interfaces := #[]
  cf := some (fileOf pool11 1 #[] #[] 1537 3 #[] #[])
  fields := #[]
  methods := #[]
  instanceTypes := #[]
  staticTypes := #[]
  resolved := Array.replicate 14 none
  statics := none }

def pool12 : Array CpInfo := pool [(1, .class_ 2), (0, u "java/lang/String"), (0, .methodref 4 5), (0, .class_ 6), (0, .nameAndType 7 8), (0, u "java/lang/Object"), (0, u "<init>"), (0, u "()V"), (1, .class_ 12), (1, u "java/lang/AbstractStringBuilder"), (0, u "EMPTYVALUE"), (0, u "[B"), (0, .fieldref 10 16), (0, .nameAndType 17 14), (0, u "value"), (0, .fieldref 1 19), (0, .nameAndType 20 21), (0, u "COMPACT_STRINGS"), (0, u "Z"), (0, .fieldref 10 23), (0, .nameAndType 24 25), (0, u "coder"), (0, u "B"), (6, .methodref 1 33), (0, .nameAndType 34 35), (0, u "length"), (0, u "()I"), (3, .integer 2147483647), (0, .methodref 1 41), (0, .nameAndType 24 42), (0, u "()B"), (2, u "append"), (0, u "(Ljava/lang/String;)Ljava/lang/AbstractStringBuilder;"), (1, .class_ 49), (0, u "java/lang/CharSequence"), (19, u "(Ljava/lang/String;)V"), (5, u "maybeLatin1"), (3, .fieldref 10 80), (0, .nameAndType 81 82), (0, u "count"), (0, u "I"), (2, u "isLatin1"), (0, u "()Z"), (13, .methodref 10 101), (0, .nameAndType 102 103), (0, u "ensureCapacityInternal"), (0, u "(I)V"), (0, .methodref 10 105), (0, .nameAndType 106 107), (0, u "newCapacity"), (0, u "(I)I"), (0, .methodref 109 110), (0, .class_ 111), (0, .nameAndType 112 113), (0, u "java/util/Arrays"), (0, u "copyOf"), (0, u "([BI)[B"), (0, .methodref 115 116), (0, .class_ 117), (0, .nameAndType 118 119), (0, u "jdk/internal/util/ArraysSupport"), (0, u "newLength"), (0, u "(III)I"), (88, .methodref 10 209), (0, .nameAndType 210 211), (0, u "putStringAt"), (0, u "(ILjava/lang/String;)V"), (5, u "inflateIfNeededFor"), (2, .nameAndType 221 222), (0, u "getBytes"), (0, u "([BIB)V"), (174, .methodref 10 398), (0, .nameAndType 217 69), (0, .methodref 1 220), (3, u "()[B"), (40, .class_ 445), (0, u "java/lang/Appendable"), (106, u "getValue")] 56

def k12m0 : Method := { name := "<init>", desc := "()V", sig := { parameters := [], returnType := none }, accessFlags := 0, code := none }
def k12c1 : Code := { maxStack := 2, maxLocals := 2, code := jdk_68_method_2_code, exceptionTable := #[], attributes := #[] }
def k12m1 : Method := { name := "<init>", desc := "(I)V", sig := { parameters := [.int], returnType := none }, accessFlags := 0, code := some k12c1 }
def k12c2 : Code := { maxStack := 1, maxLocals := 1, code := jdk_68_method_6_code, exceptionTable := #[], attributes := #[] }
def k12m2 : Method := { name := "length", desc := "()I", sig := { parameters := [], returnType := some .int }, accessFlags := 1, code := some k12c2 }
def k12c3 : Code := { maxStack := 4, maxLocals := 3, code := jdk_68_method_9_code, exceptionTable := #[], attributes := #[] }
def k12m3 : Method := { name := "ensureCapacityInternal", desc := "(I)V", sig := { parameters := [.int], returnType := none }, accessFlags := 2, code := some k12c3 }
def k12c4 : Code := { maxStack := 5, maxLocals := 6, code := jdk_68_method_10_code, exceptionTable := #[], attributes := #[] }
def k12m4 : Method := { name := "newCapacity", desc := "(I)I", sig := { parameters := [.int], returnType := some .int }, accessFlags := 2, code := some k12c4 }
def k12c5 : Code := { maxStack := 3, maxLocals := 3, code := jdk_68_method_22_code, exceptionTable := #[], attributes := #[] }
def k12m5 : Method := { name := "append", desc := "(Ljava/lang/String;)Ljava/lang/AbstractStringBuilder;", sig := { parameters := [(.object "java/lang/String")], returnType := some (.object "java/lang/AbstractStringBuilder") }, accessFlags := 1, code := some k12c5 }
def k12c6 : Code := { maxStack := 1, maxLocals := 1, code := jdk_68_method_64_code, exceptionTable := #[], attributes := #[] }
def k12m6 : Method := { name := "getValue", desc := "()[B", sig := { parameters := [], returnType := some (.array .byte) }, accessFlags := 16, code := some k12c6 }
def k12c7 : Code := { maxStack := 1, maxLocals := 1, code := jdk_68_method_68_code, exceptionTable := #[], attributes := #[] }
def k12m7 : Method := { name := "isLatin1", desc := "()Z", sig := { parameters := [], returnType := some .boolean }, accessFlags := 16, code := some k12c7 }
def k12c8 : Code := { maxStack := 2, maxLocals := 2, code := jdk_68_method_71_code, exceptionTable := #[], attributes := #[] }
def k12m8 : Method := { name := "inflateIfNeededFor", desc := "(Ljava/lang/String;)V", sig := { parameters := [(.object "java/lang/String")], returnType := none }, accessFlags := 2, code := some k12c8 }
def k12c9 : Code := { maxStack := 4, maxLocals := 3, code := jdk_68_method_73_code, exceptionTable := #[], attributes := #[] }
def k12m9 : Method := { name := "putStringAt", desc := "(ILjava/lang/String;)V", sig := { parameters := [.int, (.object "java/lang/String")], returnType := none }, accessFlags := 2, code := some k12c9 }
/-- java/lang/AbstractStringBuilder -/
def k12 : Class := { plain "java/lang/AbstractStringBuilder" (some 0) with
  accessFlags := 1056
  interfaces := #[11, 6]
  cf := some (fileOf pool12 10 #[] #[{ accessFlags := 0, nameIndex := 7, descriptorIndex := 8, attributes := #[] }, { accessFlags := 0, nameIndex := 7, descriptorIndex := 103, attributes := #[] }, { accessFlags := 1, nameIndex := 34, descriptorIndex := 35, attributes := #[] }, { accessFlags := 2, nameIndex := 102, descriptorIndex := 103, attributes := #[] }, { accessFlags := 2, nameIndex := 106, descriptorIndex := 107, attributes := #[] }, { accessFlags := 1, nameIndex := 45, descriptorIndex := 46, attributes := #[] }, { accessFlags := 16, nameIndex := 552, descriptorIndex := 403, attributes := #[] }, { accessFlags := 16, nameIndex := 85, descriptorIndex := 86, attributes := #[] }, { accessFlags := 2, nameIndex := 217, descriptorIndex := 69, attributes := #[] }, { accessFlags := 2, nameIndex := 210, descriptorIndex := 211, attributes := #[] }] 1056 4 #[444, 48] #[{ accessFlags := 0, nameIndex := 17, descriptorIndex := 14, attributes := #[] }, { accessFlags := 0, nameIndex := 24, descriptorIndex := 25, attributes := #[] }, { accessFlags := 0, nameIndex := 75, descriptorIndex := 21, attributes := #[] }, { accessFlags := 0, nameIndex := 81, descriptorIndex := 82, attributes := #[] }, { accessFlags := 26, nameIndex := 13, descriptorIndex := 14, attributes := #[] }])
  fields := #[{ name := "value", type := (.array .byte), accessFlags := 0, slot := 0, constantValue := 0 }, { name := "coder", type := .byte, accessFlags := 0, slot := 1, constantValue := 0 }, { name := "maybeLatin1", type := .boolean, accessFlags := 0, slot := 2, constantValue := 0 }, { name := "count", type := .int, accessFlags := 0, slot := 3, constantValue := 0 }, { name := "EMPTYVALUE", type := (.array .byte), accessFlags := 26, slot := 0, constantValue := 0 }]
  methods := #[k12m0, k12m1, k12m2, k12m3, k12m4, k12m5, k12m6, k12m7, k12m8, k12m9]
  instanceTypes := #[(.array .byte), .byte, .boolean, .int]
  staticTypes := #[(.array .byte)]
  resolved := Array.replicate 609 none
  statics := none }

def pool13 : Array CpInfo := pool [(1, .methodref 2 3), (0, .class_ 4), (0, .nameAndType 5 6), (0, u "java/lang/AbstractStringBuilder"), (0, u "<init>"), (0, u "(I)V"), (11, .class_ 20), (1, u "java/lang/String"), (3, .class_ 26), (1, u "java/lang/StringBuilder"), (0, u "append"), (0, u "(Ljava/lang/String;)Ljava/lang/StringBuilder;"), (0, .methodref 2 30), (0, .nameAndType 27 31), (0, u "(Ljava/lang/String;)Ljava/lang/AbstractStringBuilder;"), (105, .methodref 18 138), (0, .nameAndType 5 139), (0, u "(Ljava/lang/StringBuilder;)V"), (5, u "()V"), (10, u "()I"), (186, .methodref 2 344), (0, .nameAndType 345 156), (0, u "length"), (3, .class_ 350), (0, u "java/lang/Appendable"), (0, .class_ 352), (0, u "java/io/Serializable"), (0, .class_ 354), (0, u "java/lang/Comparable"), (0, .class_ 356), (0, u "java/lang/CharSequence"), (0, u "serialVersionUID"), (0, u "J"), (40, u "toString"), (0, u "()Ljava/lang/String;")] 21

def k13c0 : Code := { maxStack := 2, maxLocals := 1, code := jdk_67_method_1_code, exceptionTable := #[], attributes := #[] }
def k13m0 : Method := { name := "<init>", desc := "()V", sig := { parameters := [], returnType := none }, accessFlags := 1, code := some k13c0 }
def k13c1 : Code := { maxStack := 2, maxLocals := 2, code := jdk_67_method_7_code, exceptionTable := #[], attributes := #[] }
def k13m1 : Method := { name := "append", desc := "(Ljava/lang/String;)Ljava/lang/StringBuilder;", sig := { parameters := [(.object "java/lang/String")], returnType := some (.object "java/lang/StringBuilder") }, accessFlags := 1, code := some k13c1 }
def k13c2 : Code := { maxStack := 3, maxLocals := 1, code := jdk_67_method_42_code, exceptionTable := #[], attributes := #[] }
def k13m2 : Method := { name := "toString", desc := "()Ljava/lang/String;", sig := { parameters := [], returnType := some (.object "java/lang/String") }, accessFlags := 1, code := some k13c2 }
def k13c3 : Code := { maxStack := 1, maxLocals := 1, code := jdk_67_method_93_code, exceptionTable := #[], attributes := #[] }
def k13m3 : Method := { name := "length", desc := "()I", sig := { parameters := [], returnType := some .int }, accessFlags := 4161, code := some k13c3 }
/-- java/lang/StringBuilder -/
def k13 : Class := { plain "java/lang/StringBuilder" (some 12) with
  accessFlags := 49
  interfaces := #[11, 4, 5, 6]
  cf := some (fileOf pool13 24 #[] #[{ accessFlags := 1, nameIndex := 5, descriptorIndex := 145, attributes := #[] }, { accessFlags := 1, nameIndex := 27, descriptorIndex := 28, attributes := #[] }, { accessFlags := 1, nameIndex := 399, descriptorIndex := 400, attributes := #[] }, { accessFlags := 4161, nameIndex := 345, descriptorIndex := 156, attributes := #[] }] 49 2 #[349, 351, 353, 355] #[{ accessFlags := 24, nameIndex := 357, descriptorIndex := 358, attributes := #[] }])
  fields := #[{ name := "serialVersionUID", type := .long, accessFlags := 24, slot := 0, constantValue := 0 }]
  methods := #[k13m0, k13m1, k13m2, k13m3]
  instanceTypes := #[(.array .byte), .byte, .boolean, .int]
  staticTypes := #[.long]
  resolved := Array.replicate 422 none
  statics := none }

def pool14 : Array CpInfo := pool [(2, .class_ 4), (1, u "java/lang/Object"), (0, u "<init>"), (0, u "()V"), (1, .class_ 10), (1, u "java/lang/System"), (0, u "allowSecurityManager"), (0, u "I"), (16, u "cons"), (0, u "Ljava/io/Console;"), (77, .class_ 110), (1, u "java/lang/System$CallersHolder"), (43, u "initialErrStream"), (0, u "Ljava/io/PrintStream;"), (19, u "security"), (0, u "Ljava/lang/SecurityManager;"), (31, .class_ 209), (0, u "java/lang/System$1"), (7, u "props"), (0, u "Ljava/util/Properties;"), (2, u "lineSeparator"), (0, u "Ljava/lang/String;"), (96, .class_ 321), (1, u "java/lang/System$LoggerFinder"), (5, .class_ 328), (0, u "java/lang/System$Logger"), (67, u "err"), (2, u "out"), (91, u "notSupportedJnuEncoding"), (15, u "in"), (17, u "initialIn"), (0, u "Ljava/io/InputStream;"), (35, u "bootLayer"), (0, u "Ljava/lang/ModuleLayer;"), (99, .class_ 664), (0, u "java/lang/System$2"), (9, u "NEVER"), (2, u "MAYBE"), (49, u "arraycopy"), (0, u "(Ljava/lang/Object;ILjava/lang/Object;II)V"), (72, .class_ 802), (0, u "java/lang/System$Logger$Level")] 31

def k14m0 : Method := { name := "<init>", desc := "()V", sig := { parameters := [], returnType := none }, accessFlags := 2, code := none }
def k14m1 : Method := { name := "arraycopy", desc := "(Ljava/lang/Object;ILjava/lang/Object;II)V", sig := { parameters := [(.object "java/lang/Object"), .int, (.object "java/lang/Object"), .int, .int], returnType := none }, accessFlags := 265, code := none }
/-- java/lang/System -/
def k14 : Class := { plain "java/lang/System" (some 0) with
  accessFlags := 49
  interfaces := #[]
  cf := some (fileOf pool14 8 #[.nestMembers #[319, 327, 801, 108, 663, 208]] #[{ accessFlags := 2, nameIndex := 5, descriptorIndex := 6, attributes := #[] }, { accessFlags := 265, nameIndex := 727, descriptorIndex := 728, attributes := #[] }] 49 2 #[] #[{ accessFlags := 25, nameIndex := 507, descriptorIndex := 526, attributes := #[] }, { accessFlags := 25, nameIndex := 399, descriptorIndex := 155, attributes := #[] }, { accessFlags := 25, nameIndex := 396, descriptorIndex := 155, attributes := #[] }, { accessFlags := 10, nameIndex := 525, descriptorIndex := 526, attributes := #[] }, { accessFlags := 26, nameIndex := 674, descriptorIndex := 12, attributes := #[] }, { accessFlags := 26, nameIndex := 677, descriptorIndex := 12, attributes := #[] }, { accessFlags := 10, nameIndex := 11, descriptorIndex := 12, attributes := #[] }, { accessFlags := 74, nameIndex := 175, descriptorIndex := 176, attributes := #[] }, { accessFlags := 10, nameIndex := 491, descriptorIndex := 222, attributes := #[] }, { accessFlags := 74, nameIndex := 29, descriptorIndex := 30, attributes := #[] }, { accessFlags := 74, nameIndex := 154, descriptorIndex := 155, attributes := #[] }, { accessFlags := 10, nameIndex := 217, descriptorIndex := 218, attributes := #[] }, { accessFlags := 10, nameIndex := 221, descriptorIndex := 222, attributes := #[] }, { accessFlags := 8, nameIndex := 562, descriptorIndex := 563, attributes := #[] }])
  fields := #[{ name := "in", type := (.object "java/io/InputStream"), accessFlags := 25, slot := 0, constantValue := 0 }, { name := "out", type := (.object "java/io/PrintStream"), accessFlags := 25, slot := 1, constantValue := 0 }, { name := "err", type := (.object "java/io/PrintStream"), accessFlags := 25, slot := 2, constantValue := 0 }, { name := "initialIn", type := (.object "java/io/InputStream"), accessFlags := 10, slot := 3, constantValue := 0 }, { name := "NEVER", type := .int, accessFlags := 26, slot := 4, constantValue := 0 }, { name := "MAYBE", type := .int, accessFlags := 26, slot := 5, constantValue := 0 }, { name := "allowSecurityManager", type := .int, accessFlags := 10, slot := 6, constantValue := 0 }, { name := "security", type := (.object "java/lang/SecurityManager"), accessFlags := 74, slot := 7, constantValue := 0 }, { name := "notSupportedJnuEncoding", type := (.object "java/lang/String"), accessFlags := 10, slot := 8, constantValue := 0 }, { name := "cons", type := (.object "java/io/Console"), accessFlags := 74, slot := 9, constantValue := 0 }, { name := "initialErrStream", type := (.object "java/io/PrintStream"), accessFlags := 74, slot := 10, constantValue := 0 }, { name := "props", type := (.object "java/util/Properties"), accessFlags := 10, slot := 11, constantValue := 0 }, { name := "lineSeparator", type := (.object "java/lang/String"), accessFlags := 10, slot := 12, constantValue := 0 }, { name := "bootLayer", type := (.object "java/lang/ModuleLayer"), accessFlags := 8, slot := 13, constantValue := 0 }]
  methods := #[k14m0, k14m1]
  instanceTypes := #[]
  staticTypes := #[(.object "java/io/InputStream"), (.object "java/io/PrintStream"), (.object "java/io/PrintStream"), (.object "java/io/InputStream"), .int, .int, .int, (.object "java/lang/SecurityManager"), (.object "java/lang/String"), (.object "java/io/Console"), (.object "java/io/PrintStream"), (.object "java/util/Properties"), (.object "java/lang/String"), (.object "java/lang/ModuleLayer")]
  resolved := Array.replicate 834 none
  statics := none }

def pool15 : Array CpInfo := pool [(2, .class_ 4), (1, u "java/lang/Object"), (0, u "<init>"), (0, u "()V"), (0, .fieldref 8 9), (0, .class_ 10), (0, .nameAndType 11 12), (0, u "java/util/Base64$Encoder"), (0, u "RFC4648"), (0, u "Ljava/util/Base64$Encoder;"), (13, .class_ 28), (1, u "java/util/Base64$Decoder"), (35, .class_ 65), (0, u "java/util/Base64"), (5, u "getEncoder"), (0, u "()Ljava/util/Base64$Encoder;"), (20, .class_ 94), (0, u "java/util/Base64$DecInputStream"), (0, .class_ 96), (0, u "java/util/Base64$EncOutputStream")] 5

def k15m0 : Method := { name := "<init>", desc := "()V", sig := { parameters := [], returnType := none }, accessFlags := 2, code := none }
def k15c1 : Code := { maxStack := 1, maxLocals := 0, code := jdk_2448_method_2_code, exceptionTable := #[], attributes := #[] }
def k15m1 : Method := { name := "getEncoder", desc := "()Ljava/util/Base64$Encoder;", sig := { parameters := [], returnType := some (.object "java/util/Base64$Encoder") }, accessFlags := 9, code := some k15c1 }
/-- java/util/Base64 -/
def k15 : Class := { plain "java/util/Base64" (some 0) with
  accessFlags := 33
  interfaces := #[]
  cf := some (fileOf pool15 64 #[.nestMembers #[93, 95, 26, 8]] #[{ accessFlags := 2, nameIndex := 5, descriptorIndex := 6, attributes := #[] }, { accessFlags := 9, nameIndex := 71, descriptorIndex := 72, attributes := #[] }] 33 2 #[] #[])
  fields := #[]
  methods := #[k15m0, k15m1]
  instanceTypes := #[]
  staticTypes := #[]
  resolved := Array.replicate 102 none
  statics := none }

def pool16 : Array CpInfo := pool [(2, .class_ 4), (1, u "java/lang/Object"), (0, u "<init>"), (1, .fieldref 8 9), (0, .class_ 10), (0, .nameAndType 11 12), (0, u "java/util/Base64$Encoder"), (0, u "isURL"), (0, u "Z"), (2, u "newline"), (0, u "[B"), (0, .fieldref 8 18), (0, .nameAndType 19 20), (0, u "linemax"), (0, u "I"), (0, .fieldref 8 22), (0, .nameAndType 23 12), (0, u "doPadding"), (0, .methodref 25 26), (0, .class_ 27), (0, .nameAndType 28 29), (0, u "java/lang/Math"), (0, u "addExact"), (0, u "(II)I"), (0, .methodref 25 31), (0, .nameAndType 32 29), (0, u "multiplyExact"), (9, .methodref 8 43), (0, .nameAndType 44 45), (0, u "encodedOutLength"), (0, u "(IZ)I"), (0, .methodref 8 47), (0, .nameAndType 48 49), (0, u "encode0"), (0, u "([BII[B)I"), (11, .methodref 8 62), (0, .nameAndType 63 64), (0, u "encode"), (0, u "([B)[B"), (0, .class_ 66), (0, u "java/lang/String"), (0, .methodref 65 68), (0, .nameAndType 5 69), (0, u "([BIII)V"), (43, u "toBase64URL"), (0, u "[C"), (0, .fieldref 8 116), (0, .nameAndType 117 114), (0, u "toBase64"), (6, .methodref 25 125), (0, .nameAndType 126 29), (0, u "min"), (0, .methodref 8 128), (0, .nameAndType 129 130), (0, u "encodeBlock"), (0, u "([BII[BIZ)V"), (2, u "CRLF"), (2, u "RFC4648"), (0, u "Ljava/util/Base64$Encoder;"), (2, u "RFC4648_URLSAFE"), (2, u "RFC2045"), (0, u "MIMELINEMAX"), (18, u "encodeToString"), (0, u "([B)Ljava/lang/String;"), (34, .class_ 200), (0, u "java/util/Base64")] 3

def k16c0 : Code := { maxStack := 3, maxLocals := 5, code := jdk_2452_method_2_code, exceptionTable := #[{ startPc := 2, endPc := 79, handlerPc := 82, catchType := 33 }], attributes := #[] }
def k16m0 : Method := { name := "encodedOutLength", desc := "(IZ)I", sig := { parameters := [.int, .boolean], returnType := some .int }, accessFlags := 18, code := some k16c0 }
def k16c1 : Code := { maxStack := 5, maxLocals := 5, code := jdk_2452_method_3_code, exceptionTable := #[], attributes := #[] }
def k16m1 : Method := { name := "encode", desc := "([B)[B", sig := { parameters := [(.array .byte)], returnType := some (.array .byte) }, accessFlags := 1, code := some k16c1 }
def k16c2 : Code := { maxStack := 6, maxLocals := 3, code := jdk_2452_method_5_code, exceptionTable := #[], attributes := #[] }
def k16m2 : Method := { name := "encodeToString", desc := "([B)Ljava/lang/String;", sig := { parameters := [(.array .byte)], returnType := some (.object "java/lang/String") }, accessFlags := 1, code := some k16c2 }
def k16c3 : Code := { maxStack := 5, maxLocals := 11, code := jdk_2452_method_9_code, exceptionTable := #[], attributes := #[] }
def k16m3 : Method := { name := "encodeBlock", desc := "([BII[BIZ)V", sig := { parameters := [(.array .byte), .int, .int, (.array .byte), .int, .boolean], returnType := none }, accessFlags := 2, code := some k16c3 }
def k16c4 : Code := { maxStack := 7, maxLocals := 16, code := jdk_2452_method_10_code, exceptionTable := #[], attributes := #[] }
def k16m4 : Method := { name := "encode0", desc := "([BII[B)I", sig := { parameters := [(.array .byte), .int, .int, (.array .byte)], returnType := some .int }, accessFlags := 2, code := some k16c4 }
/-- java/util/Base64$Encoder -/
def k16 : Class := { plain "java/util/Base64$Encoder" (some 0) with
  accessFlags := 33
  interfaces := #[]
  cf := some (fileOf pool16 8 #[.nestHost 199] #[{ accessFlags := 18, nameIndex := 44, descriptorIndex := 45, attributes := #[] }, { accessFlags := 1, nameIndex := 63, descriptorIndex := 64, attributes := #[] }, { accessFlags := 1, nameIndex := 163, descriptorIndex := 164, attributes := #[] }, { accessFlags := 2, nameIndex := 129, descriptorIndex := 130, attributes := #[] }, { accessFlags := 2, nameIndex := 48, descriptorIndex := 49, attributes := #[] }] 33 2 #[] #[{ accessFlags := 18, nameIndex := 15, descriptorIndex := 16, attributes := #[] }, { accessFlags := 18, nameIndex := 19, descriptorIndex := 20, attributes := #[] }, { accessFlags := 18, nameIndex := 11, descriptorIndex := 12, attributes := #[] }, { accessFlags := 18, nameIndex := 23, descriptorIndex := 12, attributes := #[] }, { accessFlags := 26, nameIndex := 117, descriptorIndex := 114, attributes := #[] }, { accessFlags := 26, nameIndex := 113, descriptorIndex := 114, attributes := #[] }, { accessFlags := 26, nameIndex := 144, descriptorIndex := 20, attributes := #[] }, { accessFlags := 26, nameIndex := 133, descriptorIndex := 16, attributes := #[] }, { accessFlags := 24, nameIndex := 136, descriptorIndex := 137, attributes := #[] }, { accessFlags := 24, nameIndex := 140, descriptorIndex := 137, attributes := #[] }, { accessFlags := 24, nameIndex := 143, descriptorIndex := 137, attributes := #[] }])
  fields := #[{ name := "newline", type := (.array .byte), accessFlags := 18, slot := 0, constantValue := 0 }, { name := "linemax", type := .int, accessFlags := 18, slot := 1, constantValue := 0 }, { name := "isURL", type := .boolean, accessFlags := 18, slot := 2, constantValue := 0 }, { name := "doPadding", type := .boolean, accessFlags := 18, slot := 3, constantValue := 0 }, { name := "toBase64", type := (.array .char), accessFlags := 26, slot := 0, constantValue := 0 }, { name := "toBase64URL", type := (.array .char), accessFlags := 26, slot := 1, constantValue := 0 }, { name := "MIMELINEMAX", type := .int, accessFlags := 26, slot := 2, constantValue := 0 }, { name := "CRLF", type := (.array .byte), accessFlags := 26, slot := 3, constantValue := 0 }, { name := "RFC4648", type := (.object "java/util/Base64$Encoder"), accessFlags := 24, slot := 4, constantValue := 0 }, { name := "RFC4648_URLSAFE", type := (.object "java/util/Base64$Encoder"), accessFlags := 24, slot := 5, constantValue := 0 }, { name := "RFC2045", type := (.object "java/util/Base64$Encoder"), accessFlags := 24, slot := 6, constantValue := 0 }]
  methods := #[k16m0, k16m1, k16m2, k16m3, k16m4]
  instanceTypes := #[(.array .byte), .int, .boolean, .boolean]
  staticTypes := #[(.array .char), (.array .char), .int, (.array .byte), (.object "java/util/Base64$Encoder"), (.object "java/util/Base64$Encoder"), (.object "java/util/Base64$Encoder")]
  resolved := Array.replicate 204 none
  statics := some 1 }

def pool17 : Array CpInfo := pool [(1, .class_ 2), (0, u "java/lang/Math"), (1, .class_ 6), (1, u "java/lang/Object"), (0, u "<init>"), (0, u "()V"), (89, .class_ 100), (1, u "java/lang/Math$RandomNumberGeneratorHolder"), (19, u "multiplyExact"), (51, u "negativeZeroFloatBits"), (0, u "J"), (2, u "negativeZeroDoubleBits"), (21, u "max"), (2, u "min"), (43, u "$assertionsDisabled"), (0, u "Z"), (88, u "(II)I"), (2, u "twoToTheDoubleScaleDown"), (0, u "D"), (4, u "twoToTheDoubleScaleUp"), (9, u "E"), (3, u "PI"), (2, u "TAU"), (2, u "DEGREES_TO_RADIANS"), (0, u "RADIANS_TO_DEGREES"), (27, u "addExact")] 66

def k17m0 : Method := { name := "<init>", desc := "()V", sig := { parameters := [], returnType := none }, accessFlags := 2, code := none }
def k17c1 : Code := { maxStack := 3, maxLocals := 3, code := jdk_29_method_24_code, exceptionTable := #[], attributes := #[] }
def k17m1 : Method := { name := "addExact", desc := "(II)I", sig := { parameters := [.int, .int], returnType := some .int }, accessFlags := 9, code := some k17c1 }
def k17c2 : Code := { maxStack := 4, maxLocals := 4, code := jdk_29_method_28_code, exceptionTable := #[], attributes := #[] }
def k17m2 : Method := { name := "multiplyExact", desc := "(II)I", sig := { parameters := [.int, .int], returnType := some .int }, accessFlags := 9, code := some k17c2 }
def k17c3 : Code := { maxStack := 2, maxLocals := 2, code := jdk_29_method_65_code, exceptionTable := #[], attributes := #[] }
def k17m3 : Method := { name := "max", desc := "(II)I", sig := { parameters := [.int, .int], returnType := some .int }, accessFlags := 9, code := some k17c3 }
def k17c4 : Code := { maxStack := 2, maxLocals := 2, code := jdk_29_method_69_code, exceptionTable := #[], attributes := #[] }
def k17m4 : Method := { name := "min", desc := "(II)I", sig := { parameters := [.int, .int], returnType := some .int }, accessFlags := 9, code := some k17c4 }
/-- java/lang/Math -/
def k17 : Class := { plain "java/lang/Math" (some 0) with
  accessFlags := 49
  interfaces := #[]
  cf := some (fileOf pool17 1 #[.nestMembers #[98]] #[{ accessFlags := 2, nameIndex := 7, descriptorIndex := 8, attributes := #[] }, { accessFlags := 9, nameIndex := 393, descriptorIndex := 335, attributes := #[] }, { accessFlags := 9, nameIndex := 120, descriptorIndex := 335, attributes := #[] }, { accessFlags := 9, nameIndex := 198, descriptorIndex := 335, attributes := #[] }, { accessFlags := 9, nameIndex := 201, descriptorIndex := 335, attributes := #[] }] 49 4 #[] #[{ accessFlags := 25, nameIndex := 354, descriptorIndex := 339, attributes := #[] }, { accessFlags := 25, nameIndex := 358, descriptorIndex := 339, attributes := #[] }, { accessFlags := 25, nameIndex := 361, descriptorIndex := 339, attributes := #[] }, { accessFlags := 26, nameIndex := 364, descriptorIndex := 339, attributes := #[] }, { accessFlags := 26, nameIndex := 365, descriptorIndex := 339, attributes := #[] }, { accessFlags := 26, nameIndex := 172, descriptorIndex := 173, attributes := #[] }, { accessFlags := 26, nameIndex := 176, descriptorIndex := 173, attributes := #[] }, { accessFlags := 8, nameIndex := 344, descriptorIndex := 339, attributes := #[] }, { accessFlags := 8, nameIndex := 338, descriptorIndex := 339, attributes := #[] }, { accessFlags := 4120, nameIndex := 245, descriptorIndex := 246, attributes := #[] }])
  fields := #[{ name := "E", type := .double, accessFlags := 25, slot := 0, constantValue := 0 }, { name := "PI", type := .double, accessFlags := 25, slot := 1, constantValue := 0 }, { name := "TAU", type := .double, accessFlags := 25, slot := 2, constantValue := 0 }, { name := "DEGREES_TO_RADIANS", type := .double, accessFlags := 26, slot := 3, constantValue := 0 }, { name := "RADIANS_TO_DEGREES", type := .double, accessFlags := 26, slot := 4, constantValue := 0 }, { name := "negativeZeroFloatBits", type := .long, accessFlags := 26, slot := 5, constantValue := 0 }, { name := "negativeZeroDoubleBits", type := .long, accessFlags := 26, slot := 6, constantValue := 0 }, { name := "twoToTheDoubleScaleUp", type := .double, accessFlags := 8, slot := 7, constantValue := 0 }, { name := "twoToTheDoubleScaleDown", type := .double, accessFlags := 8, slot := 8, constantValue := 0 }, { name := "$assertionsDisabled", type := .boolean, accessFlags := 4120, slot := 9, constantValue := 0 }]
  methods := #[k17m0, k17m1, k17m2, k17m3, k17m4]
  instanceTypes := #[]
  staticTypes := #[.double, .double, .double, .double, .double, .long, .long, .double, .double, .boolean]
  resolved := Array.replicate 460 none
  statics := none }

def pool18 : Array CpInfo := pool [(2, .class_ 4), (1, u "java/lang/Object"), (0, u "<init>"), (0, u "()V"), (17, .class_ 26), (1, u "jdk/internal/util/Preconditions"), (22, u "checkFromIndexSize"), (5, .class_ 56), (0, u "jdk/internal/util/Preconditions$4"), (57, .class_ 115), (0, u "jdk/internal/util/Preconditions$1"), (7, u "SIOOBE_FORMATTER"), (0, u "Ljava/util/function/BiFunction;"), (0, .class_ 126), (0, u "jdk/internal/util/Preconditions$2"), (3, u "AIOOBE_FORMATTER"), (0, .class_ 132), (0, u "jdk/internal/util/Preconditions$3"), (3, u "IOOBE_FORMATTER"), (46, u "(IIILjava/util/function/BiFunction;)I")] 10

def k18m0 : Method := { name := "<init>", desc := "()V", sig := { parameters := [], returnType := none }, accessFlags := 1, code := none }
def k18c1 : Code := { maxStack := 4, maxLocals := 4, code := jdk_41_method_13_code, exceptionTable := #[], attributes := #[] }
def k18m1 : Method := { name := "checkFromIndexSize", desc := "(IIILjava/util/function/BiFunction;)I", sig := { parameters := [.int, .int, .int, (.object "java/util/function/BiFunction")], returnType := some .int }, accessFlags := 9, code := some k18c1 }
/-- jdk/internal/util/Preconditions -/
def k18 : Class := { plain "jdk/internal/util/Preconditions" (some 0) with
  accessFlags := 33
  interfaces := #[]
  cf := some (fileOf pool18 24 #[.nestMembers #[55, 131, 125, 114]] #[{ accessFlags := 1, nameIndex := 5, descriptorIndex := 6, attributes := #[] }, { accessFlags := 9, nameIndex := 49, descriptorIndex := 183, attributes := #[] }] 33 2 #[] #[{ accessFlags := 25, nameIndex := 123, descriptorIndex := 124, attributes := #[] }, { accessFlags := 25, nameIndex := 130, descriptorIndex := 124, attributes := #[] }, { accessFlags := 25, nameIndex := 136, descriptorIndex := 124, attributes := #[] }])
  fields := #[{ name := "SIOOBE_FORMATTER", type := (.object "java/util/function/BiFunction"), accessFlags := 25, slot := 0, constantValue := 0 }, { name := "AIOOBE_FORMATTER", type := (.object "java/util/function/BiFunction"), accessFlags := 25, slot := 1, constantValue := 0 }, { name := "IOOBE_FORMATTER", type := (.object "java/util/function/BiFunction"), accessFlags := 25, slot := 2, constantValue := 0 }]
  methods := #[k18m0, k18m1]
  instanceTypes := #[]
  staticTypes := #[(.object "java/util/function/BiFunction"), (.object "java/util/function/BiFunction"), (.object "java/util/function/BiFunction")]
  resolved := Array.replicate 194 none
  statics := some 2 }

def pool19 : Array CpInfo := pool [(2, .class_ 4), (1, u "java/lang/Object"), (0, u "<init>"), (0, u "()V"), (7, .class_ 16), (1, u "java/util/Arrays"), (57, .class_ 76), (1, u "java/util/Arrays$NaturalOrder"), (32, u "()Ljava/lang/Object;"), (3, .class_ 115), (1, u "java/util/Arrays$LegacyMergeSort"), (1, u "Z"), (10, .nameAndType 129 109), (0, u "clone"), (9, u "copyOfRange"), (10, .methodref 151 152), (0, .class_ 153), (0, .nameAndType 154 155), (0, u "java/lang/System"), (0, u "arraycopy"), (0, u "(Ljava/lang/Object;ILjava/lang/Object;II)V"), (146, u "copyOf"), (1, .methodref 305 306), (0, .class_ 307), (0, .nameAndType 308 309), (0, u "java/lang/Math"), (0, u "min"), (0, u "(II)I"), (0, .methodref 311 128), (0, .class_ 312), (0, u "[B"), (26, .methodref 14 340), (0, .nameAndType 341 342), (0, u "copyOfRangeByte"), (0, u "([BII)[B"), (0, .methodref 14 344), (0, .nameAndType 345 346), (0, u "checkLength"), (0, u "(II)V"), (28, .class_ 376), (0, u "java/util/Arrays$ArrayList"), (68, u "$assertionsDisabled"), (269, u "MIN_ARRAY_SORT_GRAN"), (0, u "I"), (2, u "INSERTIONSORT_THRESHOLD"), (149, u "([BI)[B"), (105, .class_ 976), (0, u "java/util/Arrays$ArrayItr")] 52

def k19m0 : Method := { name := "<init>", desc := "()V", sig := { parameters := [], returnType := none }, accessFlags := 2, code := none }
def k19c1 : Code := { maxStack := 6, maxLocals := 3, code := jdk_65_method_121_code, exceptionTable := #[], attributes := #[] }
def k19m1 : Method := { name := "copyOf", desc := "([BI)[B", sig := { parameters := [(.array .byte), .int], returnType := some (.array .byte) }, accessFlags := 9, code := some k19c1 }
def k19c2 : Code := { maxStack := 4, maxLocals := 2, code := jdk_65_method_131_code, exceptionTable := #[], attributes := #[] }
def k19m2 : Method := { name := "checkLength", desc := "(II)V", sig := { parameters := [.int, .int], returnType := none }, accessFlags := 10, code := some k19c2 }
def k19c3 : Code := { maxStack := 3, maxLocals := 3, code := jdk_65_method_132_code, exceptionTable := #[], attributes := #[] }
def k19m3 : Method := { name := "copyOfRange", desc := "([BII)[B", sig := { parameters := [(.array .byte), .int, .int], returnType := some (.array .byte) }, accessFlags := 9, code := some k19c3 }
def k19c4 : Code := { maxStack := 6, maxLocals := 5, code := jdk_65_method_133_code, exceptionTable := #[], attributes := #[] }
def k19m4 : Method := { name := "copyOfRangeByte", desc := "([BII)[B", sig := { parameters := [(.array .byte), .int, .int], returnType := some (.array .byte) }, accessFlags := 10, code := some k19c4 }
/-- java/util/Arrays -/
def k19 : Class := { plain "java/util/Arrays" (some 0) with
  accessFlags := 49
  interfaces := #[]
  cf := some (fileOf pool19 14 #[.nestMembers #[975, 375, 113, 74]] #[{ accessFlags := 2, nameIndex := 5, descriptorIndex := 6, attributes := #[] }, { accessFlags := 9, nameIndex := 302, descriptorIndex := 869, attributes := #[] }, { accessFlags := 10, nameIndex := 345, descriptorIndex := 346, attributes := #[] }, { accessFlags := 9, nameIndex := 139, descriptorIndex := 342, attributes := #[] }, { accessFlags := 10, nameIndex := 341, descriptorIndex := 342, attributes := #[] }] 49 2 #[] #[{ accessFlags := 26, nameIndex := 715, descriptorIndex := 716, attributes := #[] }, { accessFlags := 26, nameIndex := 719, descriptorIndex := 716, attributes := #[] }, { accessFlags := 4120, nameIndex := 445, descriptorIndex := 117, attributes := #[] }])
  fields := #[{ name := "MIN_ARRAY_SORT_GRAN", type := .int, accessFlags := 26, slot := 0, constantValue := 0 }, { name := "INSERTIONSORT_THRESHOLD", type := .int, accessFlags := 26, slot := 1, constantValue := 0 }, { name := "$assertionsDisabled", type := .boolean, accessFlags := 4120, slot := 2, constantValue := 0 }]
  methods := #[k19m0, k19m1, k19m2, k19m3, k19m4]
  instanceTypes := #[]
  staticTypes := #[.int, .int, .boolean]
  resolved := Array.replicate 1029 none
  statics := none }

def pool20 : Array CpInfo := pool [(1, .class_ 2), (0, u "java/lang/Cloneable"), (0, .class_ 4), (0, u "java/lang/Object")] 2

/-- java/lang/Cloneable -/
def k20 : Class := { plain "java/lang/Cloneable" (some 0) with
  accessFlags := 1537
  interfaces := #[]
  cf := some (fileOf pool20 1 #[] #[] 1537 3 #[] #[])
  fields := #[]
  methods := #[]
  instanceTypes := #[]
  staticTypes := #[]
  resolved := Array.replicate 7 none
  statics := none }

def pool21 : Array CpInfo := pool [(9, u "<init>"), (6, .class_ 18), (1, u "java/lang/Object"), (0, u "()V"), (1, .class_ 23), (1, u "jdk/internal/util/ArraysSupport"), (0, u "LOG2_ARRAY_LONG_INDEX_SCALE"), (0, u "I"), (2, u "U"), (0, u "Ljdk/internal/misc/Unsafe;"), (8, u "BIG_ENDIAN"), (0, u "Z"), (8, u "LOG2_BYTE_BIT_SIZE"), (4, u "LOG2_ARRAY_INT_INDEX_SCALE"), (54, u "JLA"), (0, u "Ljdk/internal/access/JavaLangAccess;"), (11, u "LOG2_ARRAY_BOOLEAN_INDEX_SCALE"), (9, u "LOG2_ARRAY_BYTE_INDEX_SCALE"), (5, u "LOG2_ARRAY_CHAR_INDEX_SCALE"), (5, u "LOG2_ARRAY_SHORT_INDEX_SCALE"), (18, u "LOG2_ARRAY_FLOAT_INDEX_SCALE"), (24, u "LOG2_ARRAY_DOUBLE_INDEX_SCALE"), (6, .methodref 195 196), (0, .class_ 197), (0, .nameAndType 198 199), (0, u "java/lang/Math"), (0, u "max"), (0, u "(II)I"), (0, .integer 2147483639), (76, u "T_BOOLEAN"), (2, u "T_CHAR"), (1, u "T_FLOAT"), (1, u "T_DOUBLE"), (1, u "T_BYTE"), (1, u "T_SHORT"), (1, u "T_INT"), (1, u "T_LONG"), (1, u "SOFT_MAX_ARRAY_LENGTH"), (56, u "newLength"), (0, u "(III)I")] 25

def k21m0 : Method := { name := "<init>", desc := "()V", sig := { parameters := [], returnType := none }, accessFlags := 2, code := none }
def k21c1 : Code := { maxStack := 3, maxLocals := 4, code := jdk_48_method_27_code, exceptionTable := #[], attributes := #[] }
def k21m1 : Method := { name := "newLength", desc := "(III)I", sig := { parameters := [.int, .int, .int], returnType := some .int }, accessFlags := 9, code := some k21c1 }
/-- jdk/internal/util/ArraysSupport -/
def k21 : Class := { plain "jdk/internal/util/ArraysSupport" (some 0) with
  accessFlags := 33
  interfaces := #[]
  cf := some (fileOf pool21 21 #[] #[{ accessFlags := 2, nameIndex := 9, descriptorIndex := 19, attributes := #[] }, { accessFlags := 9, nameIndex := 351, descriptorIndex := 352, attributes := #[] }] 33 16 #[] #[{ accessFlags := 24, nameIndex := 28, descriptorIndex := 29, attributes := #[] }, { accessFlags := 26, nameIndex := 38, descriptorIndex := 39, attributes := #[] }, { accessFlags := 25, nameIndex := 121, descriptorIndex := 25, attributes := #[] }, { accessFlags := 25, nameIndex := 131, descriptorIndex := 25, attributes := #[] }, { accessFlags := 25, nameIndex := 137, descriptorIndex := 25, attributes := #[] }, { accessFlags := 25, nameIndex := 143, descriptorIndex := 25, attributes := #[] }, { accessFlags := 25, nameIndex := 53, descriptorIndex := 25, attributes := #[] }, { accessFlags := 25, nameIndex := 24, descriptorIndex := 25, attributes := #[] }, { accessFlags := 25, nameIndex := 162, descriptorIndex := 25, attributes := #[] }, { accessFlags := 25, nameIndex := 187, descriptorIndex := 25, attributes := #[] }, { accessFlags := 26, nameIndex := 48, descriptorIndex := 25, attributes := #[] }, { accessFlags := 25, nameIndex := 277, descriptorIndex := 25, attributes := #[] }, { accessFlags := 25, nameIndex := 280, descriptorIndex := 25, attributes := #[] }, { accessFlags := 25, nameIndex := 282, descriptorIndex := 25, attributes := #[] }, { accessFlags := 25, nameIndex := 284, descriptorIndex := 25, attributes := #[] }, { accessFlags := 25, nameIndex := 286, descriptorIndex := 25, attributes := #[] }, { accessFlags := 25, nameIndex := 288, descriptorIndex := 25, attributes := #[] }, { accessFlags := 25, nameIndex := 290, descriptorIndex := 25, attributes := #[] }, { accessFlags := 25, nameIndex := 292, descriptorIndex := 25, attributes := #[] }, { accessFlags := 26, nameIndex := 108, descriptorIndex := 109, attributes := #[] }, { accessFlags := 25, nameIndex := 294, descriptorIndex := 25, attributes := #[] }])
  fields := #[{ name := "U", type := (.object "jdk/internal/misc/Unsafe"), accessFlags := 24, slot := 0, constantValue := 0 }, { name := "BIG_ENDIAN", type := .boolean, accessFlags := 26, slot := 1, constantValue := 0 }, { name := "LOG2_ARRAY_BOOLEAN_INDEX_SCALE", type := .int, accessFlags := 25, slot := 2, constantValue := 0 }, { name := "LOG2_ARRAY_BYTE_INDEX_SCALE", type := .int, accessFlags := 25, slot := 3, constantValue := 0 }, { name := "LOG2_ARRAY_CHAR_INDEX_SCALE", type := .int, accessFlags := 25, slot := 4, constantValue := 0 }, { name := "LOG2_ARRAY_SHORT_INDEX_SCALE", type := .int, accessFlags := 25, slot := 5, constantValue := 0 }, { name := "LOG2_ARRAY_INT_INDEX_SCALE", type := .int, accessFlags := 25, slot := 6, constantValue := 0 }, { name := "LOG2_ARRAY_LONG_INDEX_SCALE", type := .int, accessFlags := 25, slot := 7, constantValue := 0 }, { name := "LOG2_ARRAY_FLOAT_INDEX_SCALE", type := .int, accessFlags := 25, slot := 8, constantValue := 0 }, { name := "LOG2_ARRAY_DOUBLE_INDEX_SCALE", type := .int, accessFlags := 25, slot := 9, constantValue := 0 }, { name := "LOG2_BYTE_BIT_SIZE", type := .int, accessFlags := 26, slot := 10, constantValue := 0 }, { name := "T_BOOLEAN", type := .int, accessFlags := 25, slot := 11, constantValue := 0 }, { name := "T_CHAR", type := .int, accessFlags := 25, slot := 12, constantValue := 0 }, { name := "T_FLOAT", type := .int, accessFlags := 25, slot := 13, constantValue := 0 }, { name := "T_DOUBLE", type := .int, accessFlags := 25, slot := 14, constantValue := 0 }, { name := "T_BYTE", type := .int, accessFlags := 25, slot := 15, constantValue := 0 }, { name := "T_SHORT", type := .int, accessFlags := 25, slot := 16, constantValue := 0 }, { name := "T_INT", type := .int, accessFlags := 25, slot := 17, constantValue := 0 }, { name := "T_LONG", type := .int, accessFlags := 25, slot := 18, constantValue := 0 }, { name := "JLA", type := (.object "jdk/internal/access/JavaLangAccess"), accessFlags := 26, slot := 19, constantValue := 0 }, { name := "SOFT_MAX_ARRAY_LENGTH", type := .int, accessFlags := 25, slot := 20, constantValue := 0 }]
  methods := #[k21m0, k21m1]
  instanceTypes := #[]
  staticTypes := #[(.object "jdk/internal/misc/Unsafe"), .boolean, .int, .int, .int, .int, .int, .int, .int, .int, .int, .int, .int, .int, .int, .int, .int, .int, .int, (.object "jdk/internal/access/JavaLangAccess"), .int]
  resolved := Array.replicate 378 none
  statics := none }

def pool22 : Array CpInfo := pool [(6, .class_ 8), (1, u "java/lang/Object"), (0, u "<init>"), (0, u "()V"), (1, .class_ 14), (1, u "java/lang/StringUTF16"), (31, u "$assertionsDisabled"), (0, u "Z"), (13, u "HI_BYTE_SHIFT"), (0, u "I"), (2, u "LO_BYTE_SHIFT"), (49, .methodref 12 116), (0, .nameAndType 117 118), (0, u "compress"), (0, u "([CI[BII)I"), (3, u "([CII)[B"), (138, u "coderFromArrayLen"), (0, u "([BI)B"), (106, .class_ 371), (1, u "java/lang/StringUTF16$LinesSpliterator"), (58, u "MAX_LENGTH"), (196, .class_ 628), (0, u "java/lang/StringUTF16$CodePointsSpliterator"), (0, .class_ 630), (0, u "java/lang/StringUTF16$CharsSpliterator")] 4

def k22m0 : Method := { name := "<init>", desc := "()V", sig := { parameters := [], returnType := none }, accessFlags := 0, code := none }
def k22c1 : Code := { maxStack := 2, maxLocals := 2, code := jdk_52_method_15_code, exceptionTable := #[], attributes := #[] }
def k22m1 : Method := { name := "coderFromArrayLen", desc := "([BI)B", sig := { parameters := [(.array .byte), .int], returnType := some .byte }, accessFlags := 8, code := some k22c1 }
def k22c2 : Code := { maxStack := 5, maxLocals := 6, code := jdk_52_method_16_code, exceptionTable := #[], attributes := #[] }
def k22m2 : Method := { name := "compress", desc := "([CII)[B", sig := { parameters := [(.array .char), .int, .int], returnType := some (.array .byte) }, accessFlags := 9, code := some k22c2 }
def k22c3 : Code := { maxStack := 3, maxLocals := 7, code := jdk_52_method_21_code, exceptionTable := #[], attributes := #[] }
def k22m3 : Method := { name := "compress", desc := "([CI[BII)I", sig := { parameters := [(.array .char), .int, (.array .byte), .int, .int], returnType := some .int }, accessFlags := 9, code := some k22c3 }
/-- java/lang/StringUTF16 -/
def k22 : Class := { plain "java/lang/StringUTF16" (some 0) with
  accessFlags := 48
  interfaces := #[]
  cf := some (fileOf pool22 12 #[.nestMembers #[627, 629, 369]] #[{ accessFlags := 0, nameIndex := 9, descriptorIndex := 10, attributes := #[] }, { accessFlags := 8, nameIndex := 261, descriptorIndex := 262, attributes := #[] }, { accessFlags := 9, nameIndex := 117, descriptorIndex := 122, attributes := #[] }, { accessFlags := 9, nameIndex := 117, descriptorIndex := 118, attributes := #[] }] 48 6 #[] #[{ accessFlags := 26, nameIndex := 61, descriptorIndex := 62, attributes := #[] }, { accessFlags := 26, nameIndex := 65, descriptorIndex := 62, attributes := #[] }, { accessFlags := 24, nameIndex := 430, descriptorIndex := 62, attributes := #[] }, { accessFlags := 4120, nameIndex := 46, descriptorIndex := 47, attributes := #[] }])
  fields := #[{ name := "HI_BYTE_SHIFT", type := .int, accessFlags := 26, slot := 0, constantValue := 0 }, { name := "LO_BYTE_SHIFT", type := .int, accessFlags := 26, slot := 1, constantValue := 0 }, { name := "MAX_LENGTH", type := .int, accessFlags := 24, slot := 2, constantValue := 0 }, { name := "$assertionsDisabled", type := .boolean, accessFlags := 4120, slot := 3, constantValue := 0 }]
  methods := #[k22m0, k22m1, k22m2, k22m3]
  instanceTypes := #[]
  staticTypes := #[.int, .int, .int, .boolean]
  resolved := Array.replicate 635 none
  statics := none }

/-- the primitive byte -/
def k23 : Class := { plain "byte" none with kind := .primitive 'B', accessFlags := 0x411 }
/-- [B -/
def k24 : Class := { plain "[B" (some 0) with kind := .array 23 .byte, interfaces := #[20, 4], accessFlags := 1041 }

/-- the primitive char -/
def k25 : Class := { plain "char" none with kind := .primitive 'C', accessFlags := 0x411 }
/-- [C -/
def k26 : Class := { plain "[C" (some 0) with kind := .array 25 .char, interfaces := #[20, 4], accessFlags := 1041 }

/-- the primitive int -/
def k27 : Class := { plain "int" none with kind := .primitive 'I', accessFlags := 0x411 }
/-- [I -/
def k28 : Class := { plain "[I" (some 0) with kind := .array 27 .int, interfaces := #[20, 4], accessFlags := 1041 }

def heap : Heap := #[{ cls := 9, slots := #[.long 0, .int 1, .null, .int 0, .null, .int 0, .int 0], vm := .statics 9 },
  { cls := 16, slots := #[.ref 4, .null, .int 0, .null, .ref 3, .null, .null], vm := .statics 16 },
  { cls := 18, slots := #[.null, .null, .null], vm := .statics 18 },
  { cls := 16, slots := #[.null, .int (-1), .int 0, .int 1], vm := .none },
  { cls := 26, slots := #[.int 65, .int 66, .int 67, .int 68, .int 69, .int 70, .int 71, .int 72, .int 73, .int 74, .int 75, .int 76, .int 77, .int 78, .int 79, .int 80, .int 81, .int 82, .int 83, .int 84, .int 85, .int 86, .int 87, .int 88, .int 89, .int 90, .int 97, .int 98, .int 99, .int 100, .int 101, .int 102, .int 103, .int 104, .int 105, .int 106, .int 107, .int 108, .int 109, .int 110, .int 111, .int 112, .int 113, .int 114, .int 115, .int 116, .int 117, .int 118, .int 119, .int 120, .int 121, .int 122, .int 48, .int 49, .int 50, .int 51, .int 52, .int 53, .int 54, .int 55, .int 56, .int 57, .int 43, .int 47], vm := .none }]
def classes : Array Class := #[k0, k1, k2, k3, k4, k5, k6, k7, k8, k9, k10, k11, k12, k13, k14, k15, k16, k17, k18, k19, k20, k21, k22, k23, k24, k25, k26, k27, k28]
def interned : List (Array UInt16 × Addr) := []
def slotsUsed : Nat := 85
def theMethod : MethodId := ⟨1, 4⟩
def args0 : Array Value := #[.int 65, .int 66, .int 4, .long 1234605616436508552]
def aboutOver (below : List Frame) : State where
  vm := { classes := classes, interned := interned.toArray }
  heap := heap
  slotsUsed := slotsUsed
  threads := #[{ frames := .invoking theMethod args0 :: below }]
def below0 : List Frame := [.native { method := ⟨0, 0⟩, args := #[] }]
def about1 : State := aboutOver below0
def p0 : Program := .bare "" "" ""
def e0 : Env := launch0.env 0 0 0
theorem w_frames : about1.frames = Frame.invoking theMethod args0 :: below0 := rfl
set_option maxRecDepth 65536 in
theorem w_args : argsFit about1.vm theMethod args0 = true := by decide +kernel
set_option maxRecDepth 65536 in
theorem w_heap : heapFits about1 = true := by decide +kernel
set_option maxRecDepth 65536 in
theorem w_runnable : about1.curStatus? = some .runnable := by decide +kernel
set_option maxRecDepth 65536 in
theorem w_alone : about1.alone = true := by decide +kernel
set_option maxRecDepth 65536 in
theorem w_named : about1.methodNamed? x = some theMethod := by decide +kernel
set_option maxRecDepth 65536 in
theorem w_hears : about1.hears theMethod below0 = true := by decide +kernel
set_option maxRecDepth 65536 in
theorem w_ripe : about1.ripe theMethod args0 below0 = true := by decide +kernel
theorem w_running : about1.status = .running := rfl
set_option maxRecDepth 65536 in
theorem w_room : about1.hasRoom e0.platform room_1 = true :=
  launch0.hasRoom_least _ room_1 (by decide +kernel) (by decide +kernel) (by decide +kernel) (by decide +kernel) (by decide +kernel) (by decide +kernel)
theorem allAtoms_all (ts : List Jvm.Cond) (a : Array Jvm.Value) (st : Jvm.State) : (allAtoms ts).before a st = ts.all (fun c => c.before a st) := by
  induction ts with
  | nil => rfl
  | cons c t ih =>
    show (Jvm.Cond.and c (allAtoms t)).before a st = _
    rw [Jvm.Cond.before_and, ih, List.all_cons]
def words1 : List Jvm.Cond := Jvm.Cond.code x code maxLocals ret :: tables_1
/-- a 'code' word, met by the world's own term for the bytes: nothing is compared byte by byte -/
theorem code_word {y : MethodName} {bytes : ByteArray} {mx : Nat} {rt : Option FieldType} {a : Array Value} {s : State} {m : MethodId} {meth : Method} {c : Code} (h1 : s.methodNamed? y = some m) (h2 : s.vm.method? m = some meth) (h3 : meth.code = some c) (h4 : c.code = bytes)
    (h5 : (c.maxLocals == mx && c.exceptionTable.isEmpty && decide (c.maxStack ≤ mostOperands) && decide (meth.sig.returnType = rt) && !meth.locks && decide (parseMethodDescriptor y.desc = some meth.sig)) = true) : (Jvm.Cond.code y bytes mx rt).before a s = true := by
  simp only [Bool.and_eq_true, beq_iff_eq, Bool.not_eq_true', decide_eq_true_eq] at h5
  obtain ⟨⟨⟨⟨⟨g1, g2⟩, g3⟩, g4⟩, g5⟩, g6⟩ := h5
  simp [Cond.before, Cond.holds, Cond.value, h1, h2, h3, h4, g1, g2, g3, g4, g5, g6]
def isCode : Jvm.Cond → Bool
  | .code _ _ _ _ => true
  | _ => false
theorem all_split {L : List Jvm.Cond} {P : Jvm.Cond → Bool} (h1 : L.all (fun c => isCode c || P c) = true) (h2 : ∀ c ∈ L.filter isCode, P c = true) : L.all P = true := by
  refine List.all_eq_true.mpr fun c hc => ?_
  have h := List.all_eq_true.mp h1 c hc
  rcases Bool.eq_false_or_eq_true (isCode c) with hi | hi
  · exact h2 c (List.mem_filter.mpr ⟨hc, hi⟩)
  · simpa [hi] using h
set_option maxRecDepth 65536 in
theorem w_c0 : (Jvm.Cond.code x code maxLocals ret).before args0 about1 = true := code_word (m := ⟨1, 4⟩) (meth := k1m4) (c := k1c4) (by decide +kernel) rfl rfl rfl (by decide +kernel)
set_option maxRecDepth 65536 in
theorem w_c1 : (Jvm.Cond.code ({ cls := "com/example/cloakfield/cloakfield/format/TaggedValueToTextPinLaw", name := "byteAt", desc := "(JII)I" } : Jvm.MethodName) method_2_code (4 : Nat) (Option.some Jvm.ClassFile.FieldType.int)).before args0 about1 = true := code_word (m := ⟨1, 1⟩) (meth := k1m1) (c := k1c1) (by decide +kernel) rfl rfl rfl (by decide +kernel)
set_option maxRecDepth 65536 in
theorem w_c2 : (Jvm.Cond.code ({ cls := "java/lang/String", name := "valueOf", desc := "(C)Ljava/lang/String;" } : Jvm.MethodName) jdk_42_method_139_code (1 : Nat) (Option.some (Jvm.ClassFile.FieldType.object "java/lang/String"))).before args0 about1 = true := code_word (m := ⟨9, 6⟩) (meth := k9m6) (c := k9c6) (by decide +kernel) rfl rfl rfl (by decide +kernel)
set_option maxRecDepth 65536 in
theorem w_c3 : (Jvm.Cond.code ({ cls := "java/lang/StringLatin1", name := "canEncode", desc := "(C)Z" } : Jvm.MethodName) jdk_43_method_3_code (1 : Nat) (Option.some Jvm.ClassFile.FieldType.boolean)).before args0 about1 = true := code_word (m := ⟨10, 1⟩) (meth := k10m1) (c := k10c1) (by decide +kernel) rfl rfl rfl (by decide +kernel)
set_option maxRecDepth 65536 in
theorem w_c4 : (Jvm.Cond.code ({ cls := "java/lang/StringLatin1", name := "toBytes", desc := "(C)[B" } : Jvm.MethodName) jdk_43_method_46_code (1 : Nat) (Option.some (Jvm.ClassFile.FieldType.array Jvm.ClassFile.FieldType.byte))).before args0 about1 = true := code_word (m := ⟨10, 3⟩) (meth := k10m3) (c := k10c3) (by decide +kernel) rfl rfl rfl (by decide +kernel)
set_option maxRecDepth 65536 in
theorem w_c5 : (Jvm.Cond.code ({ cls := "java/lang/String", name := "<init>", desc := "([BB)V" } : Jvm.MethodName) jdk_42_method_151_code (3 : Nat) (Option.none : Option Jvm.ClassFile.FieldType)).before args0 about1 = true := code_word (m := ⟨9, 10⟩) (meth := k9m10) (c := k9c10) (by decide +kernel) rfl rfl rfl (by decide +kernel)
set_option maxRecDepth 65536 in
theorem w_c6 : (Jvm.Cond.code ({ cls := "java/lang/Object", name := "<init>", desc := "()V" } : Jvm.MethodName) object_method_1_code (1 : Nat) (Option.none : Option Jvm.ClassFile.FieldType)).before args0 about1 = true := code_word (m := ⟨0, 0⟩) (meth := k0m0) (c := k0c0) (by decide +kernel) rfl rfl rfl (by decide +kernel)
set_option maxRecDepth 65536 in
theorem w_c7 : (Jvm.Cond.code ({ cls := "com/example/cloakfield/cloakfield/format/TaggedValue", name := "<init>", desc := "(Ljava/lang/String;Ljava/lang/String;[B)V" } : Jvm.MethodName) prog_37_method_1_code (4 : Nat) (Option.none : Option Jvm.ClassFile.FieldType)).before args0 about1 = true := code_word (m := ⟨3, 0⟩) (meth := k3m0) (c := k3c0) (by decide +kernel) rfl rfl rfl (by decide +kernel)
set_option maxRecDepth 65536 in
theorem w_c8 : (Jvm.Cond.code ({ cls := "java/lang/Record", name := "<init>", desc := "()V" } : Jvm.MethodName) jdk_30_method_1_code (1 : Nat) (Option.none : Option Jvm.ClassFile.FieldType)).before args0 about1 = true := code_word (m := ⟨2, 0⟩) (meth := k2m0) (c := k2c0) (by decide +kernel) rfl rfl rfl (by decide +kernel)
set_option maxRecDepth 65536 in
theorem w_c9 : (Jvm.Cond.code ({ cls := "com/example/cloakfield/cloakfield/format/TaggedValue", name := "toText", desc := "()Ljava/lang/String;" } : Jvm.MethodName) prog_37_method_2_code (1 : Nat) (Option.some (Jvm.ClassFile.FieldType.object "java/lang/String"))).before args0 about1 = true := code_word (m := ⟨3, 1⟩) (meth := k3m1) (c := k3c1) (by decide +kernel) rfl rfl rfl (by decide +kernel)
set_option maxRecDepth 65536 in
theorem w_c10 : (Jvm.Cond.code ({ cls := "java/lang/StringBuilder", name := "<init>", desc := "()V" } : Jvm.MethodName) jdk_67_method_1_code (1 : Nat) (Option.none : Option Jvm.ClassFile.FieldType)).before args0 about1 = true := code_word (m := ⟨13, 0⟩) (meth := k13m0) (c := k13c0) (by decide +kernel) rfl rfl rfl (by decide +kernel)
set_option maxRecDepth 65536 in
theorem w_c11 : (Jvm.Cond.code ({ cls := "java/lang/AbstractStringBuilder", name := "<init>", desc := "(I)V" } : Jvm.MethodName) jdk_68_method_2_code (2 : Nat) (Option.none : Option Jvm.ClassFile.FieldType)).before args0 about1 = true := code_word (m := ⟨12, 1⟩) (meth := k12m1) (c := k12c1) (by decide +kernel) rfl rfl rfl (by decide +kernel)
set_option maxRecDepth 65536 in
theorem w_c12 : (Jvm.Cond.code ({ cls := "java/lang/StringBuilder", name := "append", desc := "(Ljava/lang/String;)Ljava/lang/StringBuilder;" } : Jvm.MethodName) jdk_67_method_7_code (2 : Nat) (Option.some (Jvm.ClassFile.FieldType.object "java/lang/StringBuilder"))).before args0 about1 = true := code_word (m := ⟨13, 1⟩) (meth := k13m1) (c := k13c1) (by decide +kernel) rfl rfl rfl (by decide +kernel)
set_option maxRecDepth 65536 in
theorem w_c13 : (Jvm.Cond.code ({ cls := "java/lang/AbstractStringBuilder", name := "append", desc := "(Ljava/lang/String;)Ljava/lang/AbstractStringBuilder;" } : Jvm.MethodName) jdk_68_method_22_code (3 : Nat) (Option.some (Jvm.ClassFile.FieldType.object "java/lang/AbstractStringBuilder"))).before args0 about1 = true := code_word (m := ⟨12, 5⟩) (meth := k12m5) (c := k12c5) (by decide +kernel) rfl rfl rfl (by decide +kernel)
set_option maxRecDepth 65536 in
theorem w_c14 : (Jvm.Cond.code ({ cls := "java/lang/String", name := "length", desc := "()I" } : Jvm.MethodName) jdk_42_method_54_code (1 : Nat) (Option.some Jvm.ClassFile.FieldType.int)).before args0 about1 = true := code_word (m := ⟨9, 4⟩) (meth := k9m4) (c := k9c4) (by decide +kernel) rfl rfl rfl (by decide +kernel)
set_option maxRecDepth 65536 in
theorem w_c15 : (Jvm.Cond.code ({ cls := "java/lang/String", name := "coder", desc := "()B" } : Jvm.MethodName) jdk_42_method_152_code (1 : Nat) (Option.some Jvm.ClassFile.FieldType.byte)).before args0 about1 = true := code_word (m := ⟨9, 11⟩) (meth := k9m11) (c := k9c11) (by decide +kernel) rfl rfl rfl (by decide +kernel)
set_option maxRecDepth 65536 in
theorem w_c16 : (Jvm.Cond.code ({ cls := "java/lang/AbstractStringBuilder", name := "ensureCapacityInternal", desc := "(I)V" } : Jvm.MethodName) jdk_68_method_9_code (3 : Nat) (Option.none : Option Jvm.ClassFile.FieldType)).before args0 about1 = true := code_word (m := ⟨12, 3⟩) (meth := k12m3) (c := k12c3) (by decide +kernel) rfl rfl rfl (by decide +kernel)
set_option maxRecDepth 65536 in
theorem w_c17 : (Jvm.Cond.code ({ cls := "java/lang/AbstractStringBuilder", name := "putStringAt", desc := "(ILjava/lang/String;)V" } : Jvm.MethodName) jdk_68_method_73_code (3 : Nat) (Option.none : Option Jvm.ClassFile.FieldType)).before args0 about1 = true := code_word (m := ⟨12, 9⟩) (meth := k12m9) (c := k12c9) (by decide +kernel) rfl rfl rfl (by decide +kernel)
set_option maxRecDepth 65536 in
theorem w_c18 : (Jvm.Cond.code ({ cls := "java/lang/AbstractStringBuilder", name := "inflateIfNeededFor", desc := "(Ljava/lang/String;)V" } : Jvm.MethodName) jdk_68_method_71_code (2 : Nat) (Option.none : Option Jvm.ClassFile.FieldType)).before args0 about1 = true := code_word (m := ⟨12, 8⟩) (meth := k12m8) (c := k12c8) (by decide +kernel) rfl rfl rfl (by decide +kernel)
set_option maxRecDepth 65536 in
theorem w_c19 : (Jvm.Cond.code ({ cls := "java/lang/String", name := "getBytes", desc := "([BIB)V" } : Jvm.MethodName) jdk_42_method_147_code (4 : Nat) (Option.none : Option Jvm.ClassFile.FieldType)).before args0 about1 = true := code_word (m := ⟨9, 7⟩) (meth := k9m7) (c := k9c7) (by decide +kernel) rfl rfl rfl (by decide +kernel)
set_option maxRecDepth 65536 in
theorem w_c20 : (Jvm.Cond.code ({ cls := "java/util/Base64", name := "getEncoder", desc := "()Ljava/util/Base64$Encoder;" } : Jvm.MethodName) jdk_2448_method_2_code (0 : Nat) (Option.some (Jvm.ClassFile.FieldType.object "java/util/Base64$Encoder"))).before args0 about1 = true := code_word (m := ⟨15, 1⟩) (meth := k15m1) (c := k15c1) (by decide +kernel) rfl rfl rfl (by decide +kernel)
set_option maxRecDepth 65536 in
theorem w_c21 : (Jvm.Cond.code ({ cls := "java/util/Base64$Encoder", name := "encodeToString", desc := "([B)Ljava/lang/String;" } : Jvm.MethodName) jdk_2452_method_5_code (3 : Nat) (Option.some (Jvm.ClassFile.FieldType.object "java/lang/String"))).before args0 about1 = true := code_word (m := ⟨16, 2⟩) (meth := k16m2) (c := k16c2) (by decide +kernel) rfl rfl rfl (by decide +kernel)
set_option maxRecDepth 65536 in
theorem w_c22 : (Jvm.Cond.code ({ cls := "java/util/Base64$Encoder", name := "encode", desc := "([B)[B" } : Jvm.MethodName) jdk_2452_method_3_code (5 : Nat) (Option.some (Jvm.ClassFile.FieldType.array Jvm.ClassFile.FieldType.byte))).before args0 about1 = true := code_word (m := ⟨16, 1⟩) (meth := k16m1) (c := k16c1) (by decide +kernel) rfl rfl rfl (by decide +kernel)
set_option maxRecDepth 65536 in
theorem w_c23 : (Jvm.Cond.code ({ cls := "java/lang/Math", name := "addExact", desc := "(II)I" } : Jvm.MethodName) jdk_29_method_24_code (3 : Nat) (Option.some Jvm.ClassFile.FieldType.int)).before args0 about1 = true := code_word (m := ⟨17, 1⟩) (meth := k17m1) (c := k17c1) (by decide +kernel) rfl rfl rfl (by decide +kernel)
set_option maxRecDepth 65536 in
theorem w_c24 : (Jvm.Cond.code ({ cls := "java/lang/Math", name := "multiplyExact", desc := "(II)I" } : Jvm.MethodName) jdk_29_method_28_code (4 : Nat) (Option.some Jvm.ClassFile.FieldType.int)).before args0 about1 = true := code_word (m := ⟨17, 2⟩) (meth := k17m2) (c := k17c2) (by decide +kernel) rfl rfl rfl (by decide +kernel)
set_option maxRecDepth 65536 in
theorem w_c25 : (Jvm.Cond.code ({ cls := "java/util/Base64$Encoder", name := "encode0", desc := "([BII[B)I" } : Jvm.MethodName) jdk_2452_method_10_code (16 : Nat) (Option.some Jvm.ClassFile.FieldType.int)).before args0 about1 = true := code_word (m := ⟨16, 4⟩) (meth := k16m4) (c := k16c4) (by decide +kernel) rfl rfl rfl (by decide +kernel)
set_option maxRecDepth 65536 in
theorem w_c26 : (Jvm.Cond.code ({ cls := "java/lang/String", name := "<init>", desc := "([BIII)V" } : Jvm.MethodName) jdk_42_method_7_code (7 : Nat) (Option.none : Option Jvm.ClassFile.FieldType)).before args0 about1 = true := code_word (m := ⟨9, 2⟩) (meth := k9m2) (c := k9c2) (by decide +kernel) rfl rfl rfl (by decide +kernel)
set_option maxRecDepth 65536 in
theorem w_c27 : (Jvm.Cond.code ({ cls := "java/lang/String", name := "checkBoundsOffCount", desc := "(III)I" } : Jvm.MethodName) jdk_42_method_157_code (3 : Nat) (Option.some Jvm.ClassFile.FieldType.int)).before args0 about1 = true := code_word (m := ⟨9, 12⟩) (meth := k9m12) (c := k9c12) (by decide +kernel) rfl rfl rfl (by decide +kernel)
set_option maxRecDepth 65536 in
theorem w_c28 : (Jvm.Cond.code ({ cls := "jdk/internal/util/Preconditions", name := "checkFromIndexSize", desc := "(IIILjava/util/function/BiFunction;)I" } : Jvm.MethodName) jdk_41_method_13_code (4 : Nat) (Option.some Jvm.ClassFile.FieldType.int)).before args0 about1 = true := code_word (m := ⟨18, 1⟩) (meth := k18m1) (c := k18c1) (by decide +kernel) rfl rfl rfl (by decide +kernel)
set_option maxRecDepth 65536 in
theorem w_c29 : (Jvm.Cond.code ({ cls := "java/util/Arrays", name := "copyOfRange", desc := "([BII)[B" } : Jvm.MethodName) jdk_65_method_132_code (3 : Nat) (Option.some (Jvm.ClassFile.FieldType.array Jvm.ClassFile.FieldType.byte))).before args0 about1 = true := code_word (m := ⟨19, 3⟩) (meth := k19m3) (c := k19c3) (by decide +kernel) rfl rfl rfl (by decide +kernel)
set_option maxRecDepth 65536 in
theorem w_c30 : (Jvm.Cond.code ({ cls := "java/lang/AbstractStringBuilder", name := "newCapacity", desc := "(I)I" } : Jvm.MethodName) jdk_68_method_10_code (6 : Nat) (Option.some Jvm.ClassFile.FieldType.int)).before args0 about1 = true := code_word (m := ⟨12, 4⟩) (meth := k12m4) (c := k12c4) (by decide +kernel) rfl rfl rfl (by decide +kernel)
set_option maxRecDepth 65536 in
theorem w_c31 : (Jvm.Cond.code ({ cls := "jdk/internal/util/ArraysSupport", name := "newLength", desc := "(III)I" } : Jvm.MethodName) jdk_48_method_27_code (4 : Nat) (Option.some Jvm.ClassFile.FieldType.int)).before args0 about1 = true := code_word (m := ⟨21, 1⟩) (meth := k21m1) (c := k21c1) (by decide +kernel) rfl rfl rfl (by decide +kernel)
set_option maxRecDepth 65536 in
theorem w_c32 : (Jvm.Cond.code ({ cls := "java/lang/Math", name := "max", desc := "(II)I" } : Jvm.MethodName) jdk_29_method_65_code (2 : Nat) (Option.some Jvm.ClassFile.FieldType.int)).before args0 about1 = true := code_word (m := ⟨17, 3⟩) (meth := k17m3) (c := k17c3) (by decide +kernel) rfl rfl rfl (by decide +kernel)
set_option maxRecDepth 65536 in
theorem w_c33 : (Jvm.Cond.code ({ cls := "java/util/Arrays", name := "copyOf", desc := "([BI)[B" } : Jvm.MethodName) jdk_65_method_121_code (3 : Nat) (Option.some (Jvm.ClassFile.FieldType.array Jvm.ClassFile.FieldType.byte))).before args0 about1 = true := code_word (m := ⟨19, 1⟩) (meth := k19m1) (c := k19c1) (by decide +kernel) rfl rfl rfl (by decide +kernel)
set_option maxRecDepth 65536 in
theorem w_c34 : (Jvm.Cond.code ({ cls := "java/lang/Math", name := "min", desc := "(II)I" } : Jvm.MethodName) jdk_29_method_69_code (2 : Nat) (Option.some Jvm.ClassFile.FieldType.int)).before args0 about1 = true := code_word (m := ⟨17, 4⟩) (meth := k17m4) (c := k17c4) (by decide +kernel) rfl rfl rfl (by decide +kernel)
set_option maxRecDepth 65536 in
theorem w_c35 : (Jvm.Cond.code ({ cls := "java/lang/StringBuilder", name := "toString", desc := "()Ljava/lang/String;" } : Jvm.MethodName) jdk_67_method_42_code (1 : Nat) (Option.some (Jvm.ClassFile.FieldType.object "java/lang/String"))).before args0 about1 = true := code_word (m := ⟨13, 2⟩) (meth := k13m2) (c := k13c2) (by decide +kernel) rfl rfl rfl (by decide +kernel)
set_option maxRecDepth 65536 in
theorem w_c36 : (Jvm.Cond.code ({ cls := "java/lang/String", name := "<init>", desc := "(Ljava/lang/StringBuilder;)V" } : Jvm.MethodName) jdk_42_method_53_code (2 : Nat) (Option.none : Option Jvm.ClassFile.FieldType)).before args0 about1 = true := code_word (m := ⟨9, 3⟩) (meth := k9m3) (c := k9c3) (by decide +kernel) rfl rfl rfl (by decide +kernel)
set_option maxRecDepth 65536 in
theorem w_c37 : (Jvm.Cond.code ({ cls := "java/lang/String", name := "<init>", desc := "(Ljava/lang/AbstractStringBuilder;Ljava/lang/Void;)V" } : Jvm.MethodName) jdk_42_method_150_code (5 : Nat) (Option.none : Option Jvm.ClassFile.FieldType)).before args0 about1 = true := code_word (m := ⟨9, 9⟩) (meth := k9m9) (c := k9c9) (by decide +kernel) rfl rfl rfl (by decide +kernel)
set_option maxRecDepth 65536 in
theorem w_c38 : (Jvm.Cond.code ({ cls := "java/lang/AbstractStringBuilder", name := "getValue", desc := "()[B" } : Jvm.MethodName) jdk_68_method_64_code (1 : Nat) (Option.some (Jvm.ClassFile.FieldType.array Jvm.ClassFile.FieldType.byte))).before args0 about1 = true := code_word (m := ⟨12, 6⟩) (meth := k12m6) (c := k12c6) (by decide +kernel) rfl rfl rfl (by decide +kernel)
set_option maxRecDepth 65536 in
theorem w_c39 : (Jvm.Cond.code ({ cls := "java/lang/StringBuilder", name := "length", desc := "()I" } : Jvm.MethodName) jdk_67_method_93_code (1 : Nat) (Option.some Jvm.ClassFile.FieldType.int)).before args0 about1 = true := code_word (m := ⟨13, 3⟩) (meth := k13m3) (c := k13c3) (by decide +kernel) rfl rfl rfl (by decide +kernel)
set_option maxRecDepth 65536 in
theorem w_c40 : (Jvm.Cond.code ({ cls := "java/lang/AbstractStringBuilder", name := "length", desc := "()I" } : Jvm.MethodName) jdk_68_method_6_code (1 : Nat) (Option.some Jvm.ClassFile.FieldType.int)).before args0 about1 = true := code_word (m := ⟨12, 2⟩) (meth := k12m2) (c := k12c2) (by decide +kernel) rfl rfl rfl (by decide +kernel)
set_option maxRecDepth 65536 in
theorem w_c41 : (Jvm.Cond.code ({ cls := "java/lang/AbstractStringBuilder", name := "isLatin1", desc := "()Z" } : Jvm.MethodName) jdk_68_method_68_code (1 : Nat) (Option.some Jvm.ClassFile.FieldType.boolean)).before args0 about1 = true := code_word (m := ⟨12, 7⟩) (meth := k12m7) (c := k12c7) (by decide +kernel) rfl rfl rfl (by decide +kernel)
set_option maxRecDepth 65536 in
theorem w_c42 : (Jvm.Cond.code ({ cls := "java/util/Arrays", name := "copyOfRangeByte", desc := "([BII)[B" } : Jvm.MethodName) jdk_65_method_133_code (5 : Nat) (Option.some (Jvm.ClassFile.FieldType.array Jvm.ClassFile.FieldType.byte))).before args0 about1 = true := code_word (m := ⟨19, 4⟩) (meth := k19m4) (c := k19c4) (by decide +kernel) rfl rfl rfl (by decide +kernel)
set_option maxRecDepth 65536 in
theorem w_c43 : (Jvm.Cond.code ({ cls := "java/util/Arrays", name := "checkLength", desc := "(II)V" } : Jvm.MethodName) jdk_65_method_131_code (2 : Nat) (Option.none : Option Jvm.ClassFile.FieldType)).before args0 about1 = true := code_word (m := ⟨19, 2⟩) (meth := k19m2) (c := k19c2) (by decide +kernel) rfl rfl rfl (by decide +kernel)
set_option maxRecDepth 65536 in
theorem w_c44 : (Jvm.Cond.code ({ cls := "com/example/cloakfield/cloakfield/format/TaggedValueToTextPinLaw", name := "group", desc := "([CIIIII)V" } : Jvm.MethodName) method_4_code (7 : Nat) (Option.none : Option Jvm.ClassFile.FieldType)).before args0 about1 = true := code_word (m := ⟨1, 3⟩) (meth := k1m3) (c := k1c3) (by decide +kernel) rfl rfl rfl (by decide +kernel)
set_option maxRecDepth 65536 in
theorem w_c45 : (Jvm.Cond.code ({ cls := "com/example/cloakfield/cloakfield/format/TaggedValueToTextPinLaw", name := "sextet", desc := "(I)C" } : Jvm.MethodName) method_3_code (1 : Nat) (Option.some Jvm.ClassFile.FieldType.char)).before args0 about1 = true := code_word (m := ⟨1, 2⟩) (meth := k1m2) (c := k1c2) (by decide +kernel) rfl rfl rfl (by decide +kernel)
set_option maxRecDepth 65536 in
theorem w_c46 : (Jvm.Cond.code ({ cls := "java/lang/String", name := "<init>", desc := "([C)V" } : Jvm.MethodName) jdk_42_method_3_code (2 : Nat) (Option.none : Option Jvm.ClassFile.FieldType)).before args0 about1 = true := code_word (m := ⟨9, 1⟩) (meth := k9m1) (c := k9c1) (by decide +kernel) rfl rfl rfl (by decide +kernel)
set_option maxRecDepth 65536 in
theorem w_c47 : (Jvm.Cond.code ({ cls := "java/lang/String", name := "<init>", desc := "([CIILjava/lang/Void;)V" } : Jvm.MethodName) jdk_42_method_149_code (6 : Nat) (Option.none : Option Jvm.ClassFile.FieldType)).before args0 about1 = true := code_word (m := ⟨9, 8⟩) (meth := k9m8) (c := k9c8) (by decide +kernel) rfl rfl rfl (by decide +kernel)
set_option maxRecDepth 65536 in
theorem w_c48 : (Jvm.Cond.code ({ cls := "java/lang/StringUTF16", name := "compress", desc := "([CII)[B" } : Jvm.MethodName) jdk_52_method_16_code (6 : Nat) (Option.some (Jvm.ClassFile.FieldType.array Jvm.ClassFile.FieldType.byte))).before args0 about1 = true := code_word (m := ⟨22, 2⟩) (meth := k22m2) (c := k22c2) (by decide +kernel) rfl rfl rfl (by decide +kernel)
set_option maxRecDepth 65536 in
theorem w_c49 : (Jvm.Cond.code ({ cls := "java/lang/StringUTF16", name := "compress", desc := "([CI[BII)I" } : Jvm.MethodName) jdk_52_method_21_code (7 : Nat) (Option.some Jvm.ClassFile.FieldType.int)).before args0 about1 = true := code_word (m := ⟨22, 3⟩) (meth := k22m3) (c := k22c3) (by decide +kernel) rfl rfl rfl (by decide +kernel)
set_option maxRecDepth 65536 in
theorem w_c50 : (Jvm.Cond.code ({ cls := "java/lang/StringUTF16", name := "coderFromArrayLen", desc := "([BI)B" } : Jvm.MethodName) jdk_52_method_15_code (2 : Nat) (Option.some Jvm.ClassFile.FieldType.byte)).before args0 about1 = true := code_word (m := ⟨22, 1⟩) (meth := k22m1) (c := k22c1) (by decide +kernel) rfl rfl rfl (by decide +kernel)
set_option maxRecDepth 65536 in
theorem w_c51 : (Jvm.Cond.code ({ cls := "java/lang/String", name := "equals", desc := "(Ljava/lang/Object;)Z" } : Jvm.MethodName) jdk_42_method_66_code (3 : Nat) (Option.some Jvm.ClassFile.FieldType.boolean)).before args0 about1 = true := code_word (m := ⟨9, 5⟩) (meth := k9m5) (c := k9c5) (by decide +kernel) rfl rfl rfl (by decide +kernel)
set_option maxRecDepth 65536 in
theorem w_c52 : (Jvm.Cond.code ({ cls := "java/lang/StringLatin1", name := "equals", desc := "([B[B)Z" } : Jvm.MethodName) jdk_43_method_13_code (3 : Nat) (Option.some Jvm.ClassFile.FieldType.boolean)).before args0 about1 = true := code_word (m := ⟨10, 2⟩) (meth := k10m2) (c := k10c2) (by decide +kernel) rfl rfl rfl (by decide +kernel)
set_option maxRecDepth 65536 in
theorem w_c53 : (Jvm.Cond.code ({ cls := "java/util/Base64$Encoder", name := "encodeBlock", desc := "([BII[BIZ)V" } : Jvm.MethodName) jdk_2452_method_9_code (11 : Nat) (Option.none : Option Jvm.ClassFile.FieldType)).before args0 about1 = true := code_word (m := ⟨16, 3⟩) (meth := k16m3) (c := k16c3) (by decide +kernel) rfl rfl rfl (by decide +kernel)
def codes1 : List Jvm.Cond := [Jvm.Cond.code x code maxLocals ret, Jvm.Cond.code ({ cls := "com/example/cloakfield/cloakfield/format/TaggedValueToTextPinLaw", name := "byteAt", desc := "(JII)I" } : Jvm.MethodName) method_2_code (4 : Nat) (Option.some Jvm.ClassFile.FieldType.int), Jvm.Cond.code ({ cls := "java/lang/String", name := "valueOf", desc := "(C)Ljava/lang/String;" } : Jvm.MethodName) jdk_42_method_139_code (1 : Nat) (Option.some (Jvm.ClassFile.FieldType.object "java/lang/String")), Jvm.Cond.code ({ cls := "java/lang/StringLatin1", name := "canEncode", desc := "(C)Z" } : Jvm.MethodName) jdk_43_method_3_code (1 : Nat) (Option.some Jvm.ClassFile.FieldType.boolean), Jvm.Cond.code ({ cls := "java/lang/StringLatin1", name := "toBytes", desc := "(C)[B" } : Jvm.MethodName) jdk_43_method_46_code (1 : Nat) (Option.some (Jvm.ClassFile.FieldType.array Jvm.ClassFile.FieldType.byte)), Jvm.Cond.code ({ cls := "java/lang/String", name := "<init>", desc := "([BB)V" } : Jvm.MethodName) jdk_42_method_151_code (3 : Nat) (Option.none : Option Jvm.ClassFile.FieldType), Jvm.Cond.code ({ cls := "java/lang/Object", name := "<init>", desc := "()V" } : Jvm.MethodName) object_method_1_code (1 : Nat) (Option.none : Option Jvm.ClassFile.FieldType), Jvm.Cond.code ({ cls := "com/example/cloakfield/cloakfield/format/TaggedValue", name := "<init>", desc := "(Ljava/lang/String;Ljava/lang/String;[B)V" } : Jvm.MethodName) prog_37_method_1_code (4 : Nat) (Option.none : Option Jvm.ClassFile.FieldType), Jvm.Cond.code ({ cls := "java/lang/Record", name := "<init>", desc := "()V" } : Jvm.MethodName) jdk_30_method_1_code (1 : Nat) (Option.none : Option Jvm.ClassFile.FieldType), Jvm.Cond.code ({ cls := "com/example/cloakfield/cloakfield/format/TaggedValue", name := "toText", desc := "()Ljava/lang/String;" } : Jvm.MethodName) prog_37_method_2_code (1 : Nat) (Option.some (Jvm.ClassFile.FieldType.object "java/lang/String")), Jvm.Cond.code ({ cls := "java/lang/StringBuilder", name := "<init>", desc := "()V" } : Jvm.MethodName) jdk_67_method_1_code (1 : Nat) (Option.none : Option Jvm.ClassFile.FieldType), Jvm.Cond.code ({ cls := "java/lang/AbstractStringBuilder", name := "<init>", desc := "(I)V" } : Jvm.MethodName) jdk_68_method_2_code (2 : Nat) (Option.none : Option Jvm.ClassFile.FieldType), Jvm.Cond.code ({ cls := "java/lang/StringBuilder", name := "append", desc := "(Ljava/lang/String;)Ljava/lang/StringBuilder;" } : Jvm.MethodName) jdk_67_method_7_code (2 : Nat) (Option.some (Jvm.ClassFile.FieldType.object "java/lang/StringBuilder")), Jvm.Cond.code ({ cls := "java/lang/AbstractStringBuilder", name := "append", desc := "(Ljava/lang/String;)Ljava/lang/AbstractStringBuilder;" } : Jvm.MethodName) jdk_68_method_22_code (3 : Nat) (Option.some (Jvm.ClassFile.FieldType.object "java/lang/AbstractStringBuilder")), Jvm.Cond.code ({ cls := "java/lang/String", name := "length", desc := "()I" } : Jvm.MethodName) jdk_42_method_54_code (1 : Nat) (Option.some Jvm.ClassFile.FieldType.int), Jvm.Cond.code ({ cls := "java/lang/String", name := "coder", desc := "()B" } : Jvm.MethodName) jdk_42_method_152_code (1 : Nat) (Option.some Jvm.ClassFile.FieldType.byte), Jvm.Cond.code ({ cls := "java/lang/AbstractStringBuilder", name := "ensureCapacityInternal", desc := "(I)V" } : Jvm.MethodName) jdk_68_method_9_code (3 : Nat) (Option.none : Option Jvm.ClassFile.FieldType), Jvm.Cond.code ({ cls := "java/lang/AbstractStringBuilder", name := "putStringAt", desc := "(ILjava/lang/String;)V" } : Jvm.MethodName) jdk_68_method_73_code (3 : Nat) (Option.none : Option Jvm.ClassFile.FieldType), Jvm.Cond.code ({ cls := "java/lang/AbstractStringBuilder", name := "inflateIfNeededFor", desc := "(Ljava/lang/String;)V" } : Jvm.MethodName) jdk_68_method_71_code (2 : Nat) (Option.none : Option Jvm.ClassFile.FieldType), Jvm.Cond.code ({ cls := "java/lang/String", name := "getBytes", desc := "([BIB)V" } : Jvm.MethodName) jdk_42_method_147_code (4 : Nat) (Option.none : Option Jvm.ClassFile.FieldType), Jvm.Cond.code ({ cls := "java/util/Base64", name := "getEncoder", desc := "()Ljava/util/Base64$Encoder;" } : Jvm.MethodName) jdk_2448_method_2_code (0 : Nat) (Option.some (Jvm.ClassFile.FieldType.object "java/util/Base64$Encoder")), Jvm.Cond.code ({ cls := "java/util/Base64$Encoder", name := "encodeToString", desc := "([B)Ljava/lang/String;" } : Jvm.MethodName) jdk_2452_method_5_code (3 : Nat) (Option.some (Jvm.ClassFile.FieldType.object "java/lang/String")), Jvm.Cond.code ({ cls := "java/util/Base64$Encoder", name := "encode", desc := "([B)[B" } : Jvm.MethodName) jdk_2452_method_3_code (5 : Nat) (Option.some (Jvm.ClassFile.FieldType.array Jvm.ClassFile.FieldType.byte)), Jvm.Cond.code ({ cls := "java/lang/Math", name := "addExact", desc := "(II)I" } : Jvm.MethodName) jdk_29_method_24_code (3 : Nat) (Option.some Jvm.ClassFile.FieldType.int), Jvm.Cond.code ({ cls := "java/lang/Math", name := "multiplyExact", desc := "(II)I" } : Jvm.MethodName) jdk_29_method_28_code (4 : Nat) (Option.some Jvm.ClassFile.FieldType.int), Jvm.Cond.code ({ cls := "java/util/Base64$Encoder", name := "encode0", desc := "([BII[B)I" } : Jvm.MethodName) jdk_2452_method_10_code (16 : Nat) (Option.some Jvm.ClassFile.FieldType.int), Jvm.Cond.code ({ cls := "java/lang/String", name := "<init>", desc := "([BIII)V" } : Jvm.MethodName) jdk_42_method_7_code (7 : Nat) (Option.none : Option Jvm.ClassFile.FieldType), Jvm.Cond.code ({ cls := "java/lang/String", name := "checkBoundsOffCount", desc := "(III)I" } : Jvm.MethodName) jdk_42_method_157_code (3 : Nat) (Option.some Jvm.ClassFile.FieldType.int), Jvm.Cond.code ({ cls := "jdk/internal/util/Preconditions", name := "checkFromIndexSize", desc := "(IIILjava/util/function/BiFunction;)I" } : Jvm.MethodName) jdk_41_method_13_code (4 : Nat) (Option.some Jvm.ClassFile.FieldType.int), Jvm.Cond.code ({ cls := "java/util/Arrays", name := "copyOfRange", desc := "([BII)[B" } : Jvm.MethodName) jdk_65_method_132_code (3 : Nat) (Option.some (Jvm.ClassFile.FieldType.array Jvm.ClassFile.FieldType.byte)), Jvm.Cond.code ({ cls := "java/lang/AbstractStringBuilder", name := "newCapacity", desc := "(I)I" } : Jvm.MethodName) jdk_68_method_10_code (6 : Nat) (Option.some Jvm.ClassFile.FieldType.int), Jvm.Cond.code ({ cls := "jdk/internal/util/ArraysSupport", name := "newLength", desc := "(III)I" } : Jvm.MethodName) jdk_48_method_27_code (4 : Nat) (Option.some Jvm.ClassFile.FieldType.int), Jvm.Cond.code ({ cls := "java/lang/Math", name := "max", desc := "(II)I" } : Jvm.MethodName) jdk_29_method_65_code (2 : Nat) (Option.some Jvm.ClassFile.FieldType.int), Jvm.Cond.code ({ cls := "java/util/Arrays", name := "copyOf", desc := "([BI)[B" } : Jvm.MethodName) jdk_65_method_121_code (3 : Nat) (Option.some (Jvm.ClassFile.FieldType.array Jvm.ClassFile.FieldType.byte)), Jvm.Cond.code ({ cls := "java/lang/Math", name := "min", desc := "(II)I" } : Jvm.MethodName) jdk_29_method_69_code (2 : Nat) (Option.some Jvm.ClassFile.FieldType.int), Jvm.Cond.code ({ cls := "java/lang/StringBuilder", name := "toString", desc := "()Ljava/lang/String;" } : Jvm.MethodName) jdk_67_method_42_code (1 : Nat) (Option.some (Jvm.ClassFile.FieldType.object "java/lang/String")), Jvm.Cond.code ({ cls := "java/lang/String", name := "<init>", desc := "(Ljava/lang/StringBuilder;)V" } : Jvm.MethodName) jdk_42_method_53_code (2 : Nat) (Option.none : Option Jvm.ClassFile.FieldType), Jvm.Cond.code ({ cls := "java/lang/String", name := "<init>", desc := "(Ljava/lang/AbstractStringBuilder;Ljava/lang/Void;)V" } : Jvm.MethodName) jdk_42_method_150_code (5 : Nat) (Option.none : Option Jvm.ClassFile.FieldType), Jvm.Cond.code ({ cls := "java/lang/AbstractStringBuilder", name := "getValue", desc := "()[B" } : Jvm.MethodName) jdk_68_method_64_code (1 : Nat) (Option.some (Jvm.ClassFile.FieldType.array Jvm.ClassFile.FieldType.byte)), Jvm.Cond.code ({ cls := "java/lang/StringBuilder", name := "length", desc := "()I" } : Jvm.MethodName) jdk_67_method_93_code (1 : Nat) (Option.some Jvm.ClassFile.FieldType.int), Jvm.Cond.code ({ cls := "java/lang/AbstractStringBuilder", name := "length", desc := "()I" } : Jvm.MethodName) jdk_68_method_6_code (1 : Nat) (Option.some Jvm.ClassFile.FieldType.int), Jvm.Cond.code ({ cls := "java/lang/AbstractStringBuilder", name := "isLatin1", desc := "()Z" } : Jvm.MethodName) jdk_68_method_68_code (1 : Nat) (Option.some Jvm.ClassFile.FieldType.boolean), Jvm.Cond.code ({ cls := "java/util/Arrays", name := "copyOfRangeByte", desc := "([BII)[B" } : Jvm.MethodName) jdk_65_method_133_code (5 : Nat) (Option.some (Jvm.ClassFile.FieldType.array Jvm.ClassFile.FieldType.byte)), Jvm.Cond.code ({ cls := "java/util/Arrays", name := "checkLength", desc := "(II)V" } : Jvm.MethodName) jdk_65_method_131_code (2 : Nat) (Option.none : Option Jvm.ClassFile.FieldType), Jvm.Cond.code ({ cls := "com/example/cloakfield/cloakfield/format/TaggedValueToTextPinLaw", name := "group", desc := "([CIIIII)V" } : Jvm.MethodName) method_4_code (7 : Nat) (Option.none : Option Jvm.ClassFile.FieldType), Jvm.Cond.code ({ cls := "com/example/cloakfield/cloakfield/format/TaggedValueToTextPinLaw", name := "sextet", desc := "(I)C" } : Jvm.MethodName) method_3_code (1 : Nat) (Option.some Jvm.ClassFile.FieldType.char), Jvm.Cond.code ({ cls := "java/lang/String", name := "<init>", desc := "([C)V" } : Jvm.MethodName) jdk_42_method_3_code (2 : Nat) (Option.none : Option Jvm.ClassFile.FieldType), Jvm.Cond.code ({ cls := "java/lang/String", name := "<init>", desc := "([CIILjava/lang/Void;)V" } : Jvm.MethodName) jdk_42_method_149_code (6 : Nat) (Option.none : Option Jvm.ClassFile.FieldType), Jvm.Cond.code ({ cls := "java/lang/StringUTF16", name := "compress", desc := "([CII)[B" } : Jvm.MethodName) jdk_52_method_16_code (6 : Nat) (Option.some (Jvm.ClassFile.FieldType.array Jvm.ClassFile.FieldType.byte)), Jvm.Cond.code ({ cls := "java/lang/StringUTF16", name := "compress", desc := "([CI[BII)I" } : Jvm.MethodName) jdk_52_method_21_code (7 : Nat) (Option.some Jvm.ClassFile.FieldType.int), Jvm.Cond.code ({ cls := "java/lang/StringUTF16", name := "coderFromArrayLen", desc := "([BI)B" } : Jvm.MethodName) jdk_52_method_15_code (2 : Nat) (Option.some Jvm.ClassFile.FieldType.byte), Jvm.Cond.code ({ cls := "java/lang/String", name := "equals", desc := "(Ljava/lang/Object;)Z" } : Jvm.MethodName) jdk_42_method_66_code (3 : Nat) (Option.some Jvm.ClassFile.FieldType.boolean), Jvm.Cond.code ({ cls := "java/lang/StringLatin1", name := "equals", desc := "([B[B)Z" } : Jvm.MethodName) jdk_43_method_13_code (3 : Nat) (Option.some Jvm.ClassFile.FieldType.boolean), Jvm.Cond.code ({ cls := "java/util/Base64$Encoder", name := "encodeBlock", desc := "([BII[BIZ)V" } : Jvm.MethodName) jdk_2452_method_9_code (11 : Nat) (Option.none : Option Jvm.ClassFile.FieldType)]
set_option maxRecDepth 65536 in
theorem codes_eq : words1.filter isCode = codes1 := rfl
theorem w_codes : ∀ c ∈ words1.filter isCode, c.before args0 about1 = true := by
  rw [codes_eq]
  intro c hc
  simp only [codes1, List.mem_cons, List.not_mem_nil, or_false] at hc
  rcases hc with rfl | rfl | rfl | rfl | rfl | rfl | rfl | rfl | rfl | rfl | rfl | rfl | rfl | rfl | rfl | rfl | rfl | rfl | rfl | rfl | rfl | rfl | rfl | rfl | rfl | rfl | rfl | rfl | rfl | rfl | rfl | rfl | rfl | rfl | rfl | rfl | rfl | rfl | rfl | rfl | rfl | rfl | rfl | rfl | rfl | rfl | rfl | rfl | rfl | rfl | rfl | rfl | rfl | rfl
  · exact w_c0
  · exact w_c1
  · exact w_c2
  · exact w_c3
  · exact w_c4
  · exact w_c5
  · exact w_c6
  · exact w_c7
  · exact w_c8
  · exact w_c9
  · exact w_c10
  · exact w_c11
  · exact w_c12
  · exact w_c13
  · exact w_c14
  · exact w_c15
  · exact w_c16
  · exact w_c17
  · exact w_c18
  · exact w_c19
  · exact w_c20
  · exact w_c21
  · exact w_c22
  · exact w_c23
  · exact w_c24
  · exact w_c25
  · exact w_c26
  · exact w_c27
  · exact w_c28
  · exact w_c29
  · exact w_c30
  · exact w_c31
  · exact w_c32
  · exact w_c33
  · exact w_c34
  · exact w_c35
  · exact w_c36
  · exact w_c37
  · exact w_c38
  · exact w_c39
  · exact w_c40
  · exact w_c41
  · exact w_c42
  · exact w_c43
  · exact w_c44
  · exact w_c45
  · exact w_c46
  · exact w_c47
  · exact w_c48
  · exact w_c49
  · exact w_c50
  · exact w_c51
  · exact w_c52
  · exact w_c53
set_option maxRecDepth 65536 in
theorem w_t1 : (words1.take 24).all (fun c => isCode c || c.before args0 about1) = true := by decide +kernel
set_option maxRecDepth 65536 in
theorem w_t2 : ((words1.drop 24).take 24).all (fun c => isCode c || c.before args0 about1) = true := by decide +kernel
set_option maxRecDepth 65536 in
theorem w_t3 : (((words1.drop 24).drop 24).take 24).all (fun c => isCode c || c.before args0 about1) = true := by decide +kernel
set_option maxRecDepth 65536 in
theorem w_t4 : ((((words1.drop 24).drop 24).drop 24).take 24).all (fun c => isCode c || c.before args0 about1) = true := by decide +kernel
set_option maxRecDepth 65536 in
theorem w_t5 : (((((words1.drop 24).drop 24).drop 24).drop 24).take 24).all (fun c => isCode c || c.before args0 about1) = true := by decide +kernel
set_option maxRecDepth 65536 in
theorem w_t6 : ((((((words1.drop 24).drop 24).drop 24).drop 24).drop 24).take 24).all (fun c => isCode c || c.before args0 about1) = true := by decide +kernel
set_option maxRecDepth 65536 in
theorem w_t7 : (((((((words1.drop 24).drop 24).drop 24).drop 24).drop 24).drop 24).take 24).all (fun c => isCode c || c.before args0 about1) = true := by decide +kernel
set_option maxRecDepth 65536 in
theorem w_t8 : ((((((((words1.drop 24).drop 24).drop 24).drop 24).drop 24).drop 24).drop 24).take 24).all (fun c => isCode c || c.before args0 about1) = true := by decide +kernel
set_option maxRecDepth 65536 in
theorem w_t9 : (((((((((words1.drop 24).drop 24).drop 24).drop 24).drop 24).drop 24).drop 24).drop 24).take 24).all (fun c => isCode c || c.before args0 about1) = true := by decide +kernel
set_option maxRecDepth 65536 in
theorem w_t10 : ((((((((((words1.drop 24).drop 24).drop 24).drop 24).drop 24).drop 24).drop 24).drop 24).drop 24).take 24).all (fun c => isCode c || c.before args0 about1) = true := by decide +kernel
set_option maxRecDepth 65536 in
theorem w_t11 : (((((((((((words1.drop 24).drop 24).drop 24).drop 24).drop 24).drop 24).drop 24).drop 24).drop 24).drop 24).take 24).all (fun c => isCode c || c.before args0 about1) = true := by decide +kernel
set_option maxRecDepth 65536 in
theorem w_t12 : ((((((((((((words1.drop 24).drop 24).drop 24).drop 24).drop 24).drop 24).drop 24).drop 24).drop 24).drop 24).drop 24).take 24).all (fun c => isCode c || c.before args0 about1) = true := by decide +kernel
set_option maxRecDepth 65536 in
theorem w_t13 : ((((((((((((words1.drop 24).drop 24).drop 24).drop 24).drop 24).drop 24).drop 24).drop 24).drop 24).drop 24).drop 24).drop 24).all (fun c => isCode c || c.before args0 about1) = true := by decide +kernel
theorem w_tables : (allAtoms (Jvm.Cond.code x code maxLocals ret :: tables_1)).before args0 about1 = true := by
  rw [allAtoms_all]
  show words1.all (fun c => c.before args0 about1) = true
  refine all_split ?_ w_codes
  rw [← List.take_append_drop 24 words1, List.all_append, w_t1, ← List.take_append_drop 24 (words1.drop 24), List.all_append, w_t2, ← List.take_append_drop 24 ((words1.drop 24).drop 24), List.all_append, w_t3, ← List.take_append_drop 24 (((words1.drop 24).drop 24).drop 24), List.all_append, w_t4, ← List.take_append_drop 24 ((((words1.drop 24).drop 24).drop 24).drop 24), List.all_append, w_t5, ← List.take_append_drop 24 (((((words1.drop 24).drop 24).drop 24).drop 24).drop 24), List.all_append, w_t6, ← List.take_append_drop 24 ((((((words1.drop 24).drop 24).drop 24).drop 24).drop 24).drop 24), List.all_append, w_t7, ← List.take_append_drop 24 (((((((words1.drop 24).drop 24).drop 24).drop 24).drop 24).drop 24).drop 24), List.all_append, w_t8, ← List.take_append_drop 24 ((((((((words1.drop 24).drop 24).drop 24).drop 24).drop 24).drop 24).drop 24).drop 24), List.all_append, w_t9, ← List.take_append_drop 24 (((((((((words1.drop 24).drop 24).drop 24).drop 24).drop 24).drop 24).drop 24).drop 24).drop 24), List.all_append, w_t10, ← List.take_append_drop 24 ((((((((((words1.drop 24).drop 24).drop 24).drop 24).drop 24).drop 24).drop 24).drop 24).drop 24).drop 24), List.all_append, w_t11, ← List.take_append_drop 24 (((((((((((words1.drop 24).drop 24).drop 24).drop 24).drop 24).drop 24).drop 24).drop 24).drop 24).drop 24).drop 24), List.all_append, w_t12, w_t13]
  rfl
set_option maxRecDepth 65536 in
theorem w_rest : rest_1_c.before args0 about1 = true := by decide +kernel
set_option maxRecDepth 65536 in
theorem w_case : (Jvm.Cond.and given_1 narrow_1).before args0 about1 = true := by decide +kernel
set_option maxRecDepth 65536 in
theorem w_consts : constsHeld consts_1 about1 := Jvm.Lit.constsHeldB_iff.mp (by decide +kernel)
theorem w_applies : (headSpec (Jvm.Cond.code x code maxLocals ret :: tables_1) room_1).applies x e0.platform about1 = true :=
  (Spec.applies_iff w_frames).mpr ⟨w_running, w_runnable, w_alone, w_named, w_hears, w_ripe, w_room, w_tables⟩
theorem atStart : AtStart classFile x code maxLocals ret World_1 tables_1 room_1 Calls_1 rest_1 Pre_1 launch0 p0 e0 about1 theMethod args0 below0 :=
  ⟨lists_1, trivial, launch0.admits_env _ _ _, launch0.least_env, fairChoices_fair.cas, fairChoices_fair.clock, w_frames, w_args, w_heap, w_applies, ⟨w_consts, trivial⟩, w_rest, w_case⟩
end start1
theorem witness_1 : WitnessClaimed_1 := ⟨start1.p0, start1.e0, start1.about1, start1.theMethod, start1.args0, start1.below0, start1.atStart⟩
end Jvm.Pilot.@@N@@
