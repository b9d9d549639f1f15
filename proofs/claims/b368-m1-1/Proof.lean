import JvmDerived
import JvmDerived.Pilot.@@N@@Statement
import JvmDerived.Pilot.@@N@@Code
set_option linter.unusedVariables false
set_option linter.unusedSimpArgs false
namespace Jvm.RoadKit
open Sem ClassFile Op Lib Jvm.Stand Jvm.Free Jvm.LawKit
section New
variable {p : Program} {l : Launch} {e : Env} {R : Room} {s : State} {m : MethodId} {args : Array Value} {below : List Frame} {meth : Method} {c : Code} {T : State} {locs : List Loc} {cells slots : Nat}
theorem retI (X : Stand p l e R s m args below meth c T locs cells slots) (hx : p.tables.exec = Jvm.exec) {pc : Nat} {Ls : Array Slot} {z : Int32} {rest : List Value} (hret : meth.sig.returnType = some .int) (hd : decode c.code pc = .ok (.ireturn, 1)) {fs : List Frame}
    (hl : ∀ (f : JFrame) (acts : List Action), f.method = m → f.locked = none → f.entered = [] → (doReturn e (T.setTop f) acts (some (.int z))).1 = T.setFrames fs) : Steps p.tables e below (T.setTop (mkF m pc Ls (.int z :: rest))) (T.setFrames fs) := by
  have hm' : T.vm.method? m = some meth := X.method'
  have hn : narrow .int (.int z) = .int z := rfl
  show Steps p.tables e below (T.setTop { method := m, pc := pc, locals := Ls, stack := _ :: rest, locked := none }) _
  jvm_step X.here [X.here.top, hx, hd, hm', hret, hn]
  first | (intro acts; rw [hl _ acts rfl rfl rfl]) | rw [hl _ _ rfl rfl rfl]
  exact Steps.refl _
end New
end Jvm.RoadKit
namespace Jvm.Pilot.@@N@@
open Jvm Jvm.ClassFile Sem Op Lib Jvm.Free Jvm.Stand Jvm.LawKit Jvm.RoadKit Bundle Jvm.Pilot.@@N@@.Jvm.D
abbrev Sp (p : Program) (e : Env) (below : List Frame) (T : State) (f : JFrame) (t : State) : Prop := Steps p.tables e below (T.setTop f) t
theorem own_sz {Z : State} {n0 : Nat} {h : Heap} (O : Old Z n0 h) : n0 ≤ h.size := O.1 ▸ O.2.1
theorem own_nei {x c : Int32} {n : Int} (h : ¬ x = c) (e : c.toInt = n) : x.toInt ≠ n := fun q => h (Int32.toInt_inj.mp (q.trans e.symm))
theorem own_eq {x c : Int32} {n : Int} (e : c.toInt = n) (h : x.toInt = n) : x = c := Int32.toInt_inj.mp (h.trans e.symm)
theorem own_eqi {x c : Int32} {n : Int} (h : x = c) (e : c.toInt = n) : x.toInt = n := by rw [h]; exact e
theorem own_fldi {args : Array Value} {s : State} {t : Term} {a : Addr} {C n d : String} {c : Int32} (ev : t.eval args s none [] s = some (.ref a)) (h : (Cond.eq (.field t C n d) (.int c)).value args s none s [] = some true) : Fld s s.heap a C n d (.int c) := by
  apply Fld.start
  cases hf : s.fieldOf? a C n d with
  | none => simp [Cond.value, Term.eval, ev, hf] at h
  | some x => cases x <;> simp [Cond.value, Term.eval, ev, hf] at h ⊢; exact h
theorem own_fldr {args : Array Value} {s : State} {t u : Term} {a b : Addr} {C n d : String} (ev : t.eval args s none [] s = some (.ref a)) (eu : u.eval args s none [] s = some (.ref b)) (h : (Cond.eq (.field t C n d) u).value args s none s [] = some true) : Fld s s.heap a C n d (.ref b) := by
  apply Fld.start
  cases hf : s.fieldOf? a C n d with
  | none => simp [Cond.value, Term.eval, ev, eu, hf] at h
  | some x => cases x <;> simp [Cond.value, Term.eval, ev, eu, hf] at h ⊢; exact h
theorem own_rem {x m : Int32} {M d : Int} (hm : m.toInt = M) (h0 : 0 ≤ M) {y : Int32} (hy : y.toInt = d) (hd : 0 < d) : 0 ≤ ((x &&& m) % y).toInt ∧ ((x &&& m) % y).toInt < d := by
  have a := c_and x m (by rw [hm]; exact h0)
  have b := (c_irem (x &&& m) y d hy).1 a.1
  rw [b]; exact ⟨Int.emod_nonneg _ (by omega), Int.emod_lt_of_pos _ hd⟩
theorem own_box {i : Int32} (h1 : ¬ i < (-128 : Int32)) (h2 : ¬ (127 : Int32) < i) : ¬ (i + (128 : Int32)) < 0 ∧ (i + (128 : Int32)) < (256 : Int32) := by
  rw [Int32.lt_iff_toInt_lt] at h1 h2
  rw [Int32.lt_iff_toInt_lt, Int32.lt_iff_toInt_lt]
  have a : (-128 : Int32).toInt = -128 := rfl
  have b : (127 : Int32).toInt = 127 := rfl
  have c : (128 : Int32).toInt = 128 := rfl
  have d : (256 : Int32).toInt = 256 := rfl
  have z : (0 : Int32).toInt = 0 := rfl
  have e := c_iadd i (128 : Int32)
  have r1 := rng32 i
  have r2 := rng32 (i + (128 : Int32))
  omega
theorem own_boxv (i : Int32) : i + (128 : Int32) - (128 : Int32) = i := by
  apply Int32.toInt_inj.mp
  have e := c_iadd i (128 : Int32)
  have f := c_isub (i + (128 : Int32)) (128 : Int32)
  have r1 := rng32 i
  have r2 := rng32 (i + (128 : Int32) - (128 : Int32))
  omega
theorem own_valo {args : Array Value} {s : State} {t : Term} {a : Addr} {c : Cell} {ty : FieldType} {n : Int32} (et : t.eval args s none [] s = some (.ref a)) (A : Arr s s.heap a c ty) (h : (Jvm.Cond.eq (.length t) (.int n)).before args s = true) : c.slots.size < 2 ^ 31 ∧ c.slots.size.toInt32 = n := Jvm.Free.IntBox.length_fwd h et A.1 A.2.1 A.2.2
theorem own_fldv {args : Array Value} {s : State} {t : Term} {a : Addr} {C n d : String} {v : Value} (ev : t.eval args s none [] s = some (.ref a)) (e : (Term.field t C n d).eval args s none [] s = some v) : Fld s s.heap a C n d v := Fld.start ((fld_at ev).symm.trans e)
theorem own_elem {args : Array Value} {s : State} {t : Term} {a : Addr} {cl : Cell} {ty : FieldType} {j n : Int32} (et : t.eval args s none [] s = some (.ref a)) (A : Arr s s.heap a cl ty) (h : (Jvm.Cond.eq (.elem t (.int j)) (.int n)).value args s none s [] = some true) : cl.slots[j.toNatClampNeg]? = some (.int n) := (elem_in (eqv_i (F := .int n) rfl h) et rfl A.1).2
theorem own_and {x m : Int32} {M : Int} (hm : m.toInt = M) (h0 : 0 ≤ M) : 0 ≤ (x &&& m).toInt ∧ (x &&& m).toInt < M + 1 := by
  have a := c_and x m (by rw [hm]; exact h0)
  rw [hm] at a; omega
def Perm (Z : State) (w_AES_128_GCM : Addr) (w_AES_256_GCM : Addr) (w_AES_CBC_PKCS5PADDING : Addr) (w_AES_128_CBC : Addr) (w_AES_GCM_NOPADDING : Addr) (kl_AES_128_GCM : Addr) (kl_AES_256_GCM : Addr) (kl_AES_CBC_PKCS5PADDING : Addr) (kl_AES_128_CBC : Addr) (kl_AES_GCM_NOPADDING : Addr) (k_kl_AES_128_GCM : ClassId) (k_kl_AES_256_GCM : ClassId) (k_kl_AES_CBC_PKCS5PADDING : ClassId) (k_kl_AES_128_CBC : ClassId) (k_kl_AES_GCM_NOPADDING : ClassId) : Prop := Sta Z Z.heap "com/example/cloakfield/cloakfield/crypto/EncryptionAlgorithm" "AES_128_GCM" "Lcom/example/cloakfield/cloakfield/crypto/EncryptionAlgorithm;" (.ref w_AES_128_GCM) ∧ Exa Z Z.heap w_AES_128_GCM "com/example/cloakfield/cloakfield/crypto/EncryptionAlgorithm" ∧ Sta Z Z.heap "com/example/cloakfield/cloakfield/crypto/EncryptionAlgorithm" "AES_256_GCM" "Lcom/example/cloakfield/cloakfield/crypto/EncryptionAlgorithm;" (.ref w_AES_256_GCM) ∧ Exa Z Z.heap w_AES_256_GCM "com/example/cloakfield/cloakfield/crypto/EncryptionAlgorithm" ∧ Sta Z Z.heap "com/example/cloakfield/cloakfield/crypto/EncryptionAlgorithm" "AES_CBC_PKCS5PADDING" "Lcom/example/cloakfield/cloakfield/crypto/EncryptionAlgorithm;" (.ref w_AES_CBC_PKCS5PADDING) ∧ Exa Z Z.heap w_AES_CBC_PKCS5PADDING "com/example/cloakfield/cloakfield/crypto/EncryptionAlgorithm" ∧ Sta Z Z.heap "com/example/cloakfield/cloakfield/crypto/EncryptionAlgorithm" "AES_128_CBC" "Lcom/example/cloakfield/cloakfield/crypto/EncryptionAlgorithm;" (.ref w_AES_128_CBC) ∧ Exa Z Z.heap w_AES_128_CBC "com/example/cloakfield/cloakfield/crypto/EncryptionAlgorithm" ∧ Sta Z Z.heap "com/example/cloakfield/cloakfield/crypto/EncryptionAlgorithm" "AES_GCM_NOPADDING" "Lcom/example/cloakfield/cloakfield/crypto/EncryptionAlgorithm;" (.ref w_AES_GCM_NOPADDING) ∧ Exa Z Z.heap w_AES_GCM_NOPADDING "com/example/cloakfield/cloakfield/crypto/EncryptionAlgorithm" ∧ Fld Z Z.heap w_AES_128_GCM "com/example/cloakfield/cloakfield/crypto/EncryptionAlgorithm" "keyLengths" "[I" (.ref kl_AES_128_GCM) ∧ Arv Z Z.heap kl_AES_128_GCM k_kl_AES_128_GCM .int (1 : Int32) [(.int (16 : Int32))] (.int (0 : Int32)) ∧ Fld Z Z.heap w_AES_256_GCM "com/example/cloakfield/cloakfield/crypto/EncryptionAlgorithm" "keyLengths" "[I" (.ref kl_AES_256_GCM) ∧ Arv Z Z.heap kl_AES_256_GCM k_kl_AES_256_GCM .int (1 : Int32) [(.int (32 : Int32))] (.int (0 : Int32)) ∧ Fld Z Z.heap w_AES_CBC_PKCS5PADDING "com/example/cloakfield/cloakfield/crypto/EncryptionAlgorithm" "keyLengths" "[I" (.ref kl_AES_CBC_PKCS5PADDING) ∧ Arv Z Z.heap kl_AES_CBC_PKCS5PADDING k_kl_AES_CBC_PKCS5PADDING .int (2 : Int32) [(.int (16 : Int32)), (.int (32 : Int32))] (.int (0 : Int32)) ∧ Fld Z Z.heap w_AES_128_CBC "com/example/cloakfield/cloakfield/crypto/EncryptionAlgorithm" "keyLengths" "[I" (.ref kl_AES_128_CBC) ∧ Arv Z Z.heap kl_AES_128_CBC k_kl_AES_128_CBC .int (1 : Int32) [(.int (16 : Int32))] (.int (0 : Int32)) ∧ Fld Z Z.heap w_AES_GCM_NOPADDING "com/example/cloakfield/cloakfield/crypto/EncryptionAlgorithm" "keyLengths" "[I" (.ref kl_AES_GCM_NOPADDING) ∧ Arv Z Z.heap kl_AES_GCM_NOPADDING k_kl_AES_GCM_NOPADDING .int (2 : Int32) [(.int (16 : Int32)), (.int (32 : Int32))] (.int (0 : Int32))
def Cut_0_12 (p0 : Int32) (p1 : Int32) (p2 : Int32) (i3 : Int32) (i4 : Int32) (z5 : Int32) : Prop := ∀ {p : Program} {l : Launch} {e : Env} {R : Room} {s : State} {m : MethodId} {args : Array Value} {below : List Frame} {meth : Method} {c : Code} {s₁ : State} {locs : List Loc} {cells slots : Nat} {Z : State} {a0 : Array Value} (X0 : Stand p l e R s m args below meth c s₁ locs cells slots) (hx : p.tables.exec = Jvm.exec) (hZ : Z.Warmed39 s.vm) (hw : ∀ d ∈ tables_1, d.before a0 Z = true) (hby : c.code = code) (hown : s.vm.findClass "com/example/cloakfield/cloakfield/crypto/EncryptionAlgorithmAcceptsKeyLengthPinLaw" = some m.cls), ∀ target, Steps p.tables e below (s₁.setTop (mkF m 58 #[.val (.int p0), .val (.int p1), .val (.int p2), .val (.int i3), .val (.int i4), .val (.int z5), .unset, .unset, .unset, .unset] [])) target → Steps p.tables e below (s₁.setTop (mkF m 12 #[.val (.int p0), .val (.int p1), .val (.int p2), .val (.int i3), .val (.int i4), .unset, .unset, .unset, .unset, .unset] [])) target
set_option maxRecDepth 65536 in
set_option maxHeartbeats 40000000 in
theorem cut_0_12 (p0 : Int32) (p1 : Int32) (p2 : Int32) (i3 : Int32) (i4 : Int32) : ∃ (z5 : Int32), Cut_0_12 p0 p1 p2 i3 i4 z5 := by
  by_cases d0 : i4 = (0 : Int32)
  · skip
    have hc1 := d0
    refine ⟨p2, ?_⟩
    intro p l e R s m args below meth c s₁ locs cells slots Z a0 X0 hx hZ hw hby hown target kt
    show Sp p e below s₁ (mkF m 12 #[.val (.int p0), .val (.int p1), .val (.int p2), .val (.int i3), .val (.int i4), .unset, .unset, .unset, .unset, .unset] []) _
    refine XS.iload X0.here hx rfl (hb hby at_12) rfl ?_
    show Sp p e below s₁ (mkF m 14 #[.val (.int p0), .val (.int p1), .val (.int p2), .val (.int i3), .val (.int i4), .unset, .unset, .unset, .unset, .unset] [(.int i4)]) _
    refine XS.ifNo X0.here hx rfl (hb hby at_14) rfl ((if0 _ _).trans (teq hc1).2) ?_
    show Sp p e below s₁ (mkF m 17 #[.val (.int p0), .val (.int p1), .val (.int p2), .val (.int i3), .val (.int i4), .unset, .unset, .unset, .unset, .unset] []) _
    refine XS.iloadN X0.here hx rfl (hb hby at_17) rfl ?_
    show Sp p e below s₁ (mkF m 18 #[.val (.int p0), .val (.int p1), .val (.int p2), .val (.int i3), .val (.int i4), .unset, .unset, .unset, .unset, .unset] [(.int p2)]) _
    refine XS.istore X0.here hx rfl (hb hby at_18) rfl (l' := #[.val (.int p0), .val (.int p1), .val (.int p2), .val (.int i3), .val (.int i4), .val (.int p2), .unset, .unset, .unset, .unset]) rfl ?_
    show Sp p e below s₁ (mkF m 20 #[.val (.int p0), .val (.int p1), .val (.int p2), .val (.int i3), .val (.int i4), .val (.int p2), .unset, .unset, .unset, .unset] []) _
    refine XS.goto X0.here hx rfl (pc0 := 20) (pc' := 58) rfl (hb hby at_20) (by decide) (by decide) ?_
    exact kt
  · skip
    by_cases d1 : i4 = (1 : Int32)
    · skip
      have hc1 := d0
      have hc2 := d1
      refine ⟨(16 : Int32), ?_⟩
      intro p l e R s m args below meth c s₁ locs cells slots Z a0 X0 hx hZ hw hby hown target kt
      show Sp p e below s₁ (mkF m 12 #[.val (.int p0), .val (.int p1), .val (.int p2), .val (.int i3), .val (.int i4), .unset, .unset, .unset, .unset, .unset] []) _
      refine XS.iload X0.here hx rfl (hb hby at_12) rfl ?_
      show Sp p e below s₁ (mkF m 14 #[.val (.int p0), .val (.int p1), .val (.int p2), .val (.int i3), .val (.int i4), .unset, .unset, .unset, .unset, .unset] [(.int i4)]) _
      refine XS.ifYes X0.here hx rfl (pc0 := 14) (pc' := 23) rfl (hb hby at_14) rfl ((if0 _ _).trans (feq hc1).2) (by decide) (by decide) ?_
      show Sp p e below s₁ (mkF m 23 #[.val (.int p0), .val (.int p1), .val (.int p2), .val (.int i3), .val (.int i4), .unset, .unset, .unset, .unset, .unset] []) _
      refine XS.iload X0.here hx rfl (hb hby at_23) rfl ?_
      show Sp p e below s₁ (mkF m 25 #[.val (.int p0), .val (.int p1), .val (.int p2), .val (.int i3), .val (.int i4), .unset, .unset, .unset, .unset, .unset] [(.int i4)]) _
      refine XS.iconst X0.here hx rfl (hb hby at_25) ?_
      show Sp p e below s₁ (mkF m 26 #[.val (.int p0), .val (.int p1), .val (.int p2), .val (.int i3), .val (.int i4), .unset, .unset, .unset, .unset, .unset] [(.int (1 : Int32)), (.int i4)]) _
      refine XS.icmpNo X0.here hx rfl (hb hby at_26) rfl (teq hc2).2 ?_
      show Sp p e below s₁ (mkF m 29 #[.val (.int p0), .val (.int p1), .val (.int p2), .val (.int i3), .val (.int i4), .unset, .unset, .unset, .unset, .unset] []) _
      refine XS.bipush X0.here hx rfl (hb hby at_29) ?_
      show Sp p e below s₁ (mkF m 31 #[.val (.int p0), .val (.int p1), .val (.int p2), .val (.int i3), .val (.int i4), .unset, .unset, .unset, .unset, .unset] [(.int (16 : Int32))]) _
      refine XS.istore X0.here hx rfl (hb hby at_31) rfl (l' := #[.val (.int p0), .val (.int p1), .val (.int p2), .val (.int i3), .val (.int i4), .val (.int (16 : Int32)), .unset, .unset, .unset, .unset]) rfl ?_
      show Sp p e below s₁ (mkF m 33 #[.val (.int p0), .val (.int p1), .val (.int p2), .val (.int i3), .val (.int i4), .val (.int (16 : Int32)), .unset, .unset, .unset, .unset] []) _
      refine XS.goto X0.here hx rfl (pc0 := 33) (pc' := 58) rfl (hb hby at_33) (by decide) (by decide) ?_
      exact kt
    · skip
      by_cases d2 : i4 = (2 : Int32)
      · skip
        have hc1 := d0
        have hc2 := d1
        have hc3 := d2
        refine ⟨(32 : Int32), ?_⟩
        intro p l e R s m args below meth c s₁ locs cells slots Z a0 X0 hx hZ hw hby hown target kt
        show Sp p e below s₁ (mkF m 12 #[.val (.int p0), .val (.int p1), .val (.int p2), .val (.int i3), .val (.int i4), .unset, .unset, .unset, .unset, .unset] []) _
        refine XS.iload X0.here hx rfl (hb hby at_12) rfl ?_
        show Sp p e below s₁ (mkF m 14 #[.val (.int p0), .val (.int p1), .val (.int p2), .val (.int i3), .val (.int i4), .unset, .unset, .unset, .unset, .unset] [(.int i4)]) _
        refine XS.ifYes X0.here hx rfl (pc0 := 14) (pc' := 23) rfl (hb hby at_14) rfl ((if0 _ _).trans (feq hc1).2) (by decide) (by decide) ?_
        show Sp p e below s₁ (mkF m 23 #[.val (.int p0), .val (.int p1), .val (.int p2), .val (.int i3), .val (.int i4), .unset, .unset, .unset, .unset, .unset] []) _
        refine XS.iload X0.here hx rfl (hb hby at_23) rfl ?_
        show Sp p e below s₁ (mkF m 25 #[.val (.int p0), .val (.int p1), .val (.int p2), .val (.int i3), .val (.int i4), .unset, .unset, .unset, .unset, .unset] [(.int i4)]) _
        refine XS.iconst X0.here hx rfl (hb hby at_25) ?_
        show Sp p e below s₁ (mkF m 26 #[.val (.int p0), .val (.int p1), .val (.int p2), .val (.int i3), .val (.int i4), .unset, .unset, .unset, .unset, .unset] [(.int (1 : Int32)), (.int i4)]) _
        refine XS.icmpYes X0.here hx rfl (pc0 := 26) (pc' := 36) rfl (hb hby at_26) rfl (feq hc2).2 (by decide) (by decide) ?_
        show Sp p e below s₁ (mkF m 36 #[.val (.int p0), .val (.int p1), .val (.int p2), .val (.int i3), .val (.int i4), .unset, .unset, .unset, .unset, .unset] []) _
        refine XS.iload X0.here hx rfl (hb hby at_36) rfl ?_
        show Sp p e below s₁ (mkF m 38 #[.val (.int p0), .val (.int p1), .val (.int p2), .val (.int i3), .val (.int i4), .unset, .unset, .unset, .unset, .unset] [(.int i4)]) _
        refine XS.iconst X0.here hx rfl (hb hby at_38) ?_
        show Sp p e below s₁ (mkF m 39 #[.val (.int p0), .val (.int p1), .val (.int p2), .val (.int i3), .val (.int i4), .unset, .unset, .unset, .unset, .unset] [(.int (2 : Int32)), (.int i4)]) _
        refine XS.icmpNo X0.here hx rfl (hb hby at_39) rfl (teq hc3).2 ?_
        show Sp p e below s₁ (mkF m 42 #[.val (.int p0), .val (.int p1), .val (.int p2), .val (.int i3), .val (.int i4), .unset, .unset, .unset, .unset, .unset] []) _
        refine XS.bipush X0.here hx rfl (hb hby at_42) ?_
        show Sp p e below s₁ (mkF m 44 #[.val (.int p0), .val (.int p1), .val (.int p2), .val (.int i3), .val (.int i4), .unset, .unset, .unset, .unset, .unset] [(.int (32 : Int32))]) _
        refine XS.istore X0.here hx rfl (hb hby at_44) rfl (l' := #[.val (.int p0), .val (.int p1), .val (.int p2), .val (.int i3), .val (.int i4), .val (.int (32 : Int32)), .unset, .unset, .unset, .unset]) rfl ?_
        show Sp p e below s₁ (mkF m 46 #[.val (.int p0), .val (.int p1), .val (.int p2), .val (.int i3), .val (.int i4), .val (.int (32 : Int32)), .unset, .unset, .unset, .unset] []) _
        refine XS.goto X0.here hx rfl (pc0 := 46) (pc' := 58) rfl (hb hby at_46) (by decide) (by decide) ?_
        exact kt
      · skip
        have hc1 := d0
        have hc2 := d1
        have hc3 := d2
        refine ⟨((p2 &&& (63 : Int32)) - (8 : Int32)), ?_⟩
        intro p l e R s m args below meth c s₁ locs cells slots Z a0 X0 hx hZ hw hby hown target kt
        show Sp p e below s₁ (mkF m 12 #[.val (.int p0), .val (.int p1), .val (.int p2), .val (.int i3), .val (.int i4), .unset, .unset, .unset, .unset, .unset] []) _
        refine XS.iload X0.here hx rfl (hb hby at_12) rfl ?_
        show Sp p e below s₁ (mkF m 14 #[.val (.int p0), .val (.int p1), .val (.int p2), .val (.int i3), .val (.int i4), .unset, .unset, .unset, .unset, .unset] [(.int i4)]) _
        refine XS.ifYes X0.here hx rfl (pc0 := 14) (pc' := 23) rfl (hb hby at_14) rfl ((if0 _ _).trans (feq hc1).2) (by decide) (by decide) ?_
        show Sp p e below s₁ (mkF m 23 #[.val (.int p0), .val (.int p1), .val (.int p2), .val (.int i3), .val (.int i4), .unset, .unset, .unset, .unset, .unset] []) _
        refine XS.iload X0.here hx rfl (hb hby at_23) rfl ?_
        show Sp p e below s₁ (mkF m 25 #[.val (.int p0), .val (.int p1), .val (.int p2), .val (.int i3), .val (.int i4), .unset, .unset, .unset, .unset, .unset] [(.int i4)]) _
        refine XS.iconst X0.here hx rfl (hb hby at_25) ?_
        show Sp p e below s₁ (mkF m 26 #[.val (.int p0), .val (.int p1), .val (.int p2), .val (.int i3), .val (.int i4), .unset, .unset, .unset, .unset, .unset] [(.int (1 : Int32)), (.int i4)]) _
        refine XS.icmpYes X0.here hx rfl (pc0 := 26) (pc' := 36) rfl (hb hby at_26) rfl (feq hc2).2 (by decide) (by decide) ?_
        show Sp p e below s₁ (mkF m 36 #[.val (.int p0), .val (.int p1), .val (.int p2), .val (.int i3), .val (.int i4), .unset, .unset, .unset, .unset, .unset] []) _
        refine XS.iload X0.here hx rfl (hb hby at_36) rfl ?_
        show Sp p e below s₁ (mkF m 38 #[.val (.int p0), .val (.int p1), .val (.int p2), .val (.int i3), .val (.int i4), .unset, .unset, .unset, .unset, .unset] [(.int i4)]) _
        refine XS.iconst X0.here hx rfl (hb hby at_38) ?_
        show Sp p e below s₁ (mkF m 39 #[.val (.int p0), .val (.int p1), .val (.int p2), .val (.int i3), .val (.int i4), .unset, .unset, .unset, .unset, .unset] [(.int (2 : Int32)), (.int i4)]) _
        refine XS.icmpYes X0.here hx rfl (pc0 := 39) (pc' := 49) rfl (hb hby at_39) rfl (feq hc3).2 (by decide) (by decide) ?_
        show Sp p e below s₁ (mkF m 49 #[.val (.int p0), .val (.int p1), .val (.int p2), .val (.int i3), .val (.int i4), .unset, .unset, .unset, .unset, .unset] []) _
        refine XS.iloadN X0.here hx rfl (hb hby at_49) rfl ?_
        show Sp p e below s₁ (mkF m 50 #[.val (.int p0), .val (.int p1), .val (.int p2), .val (.int i3), .val (.int i4), .unset, .unset, .unset, .unset, .unset] [(.int p2)]) _
        refine XS.bipush X0.here hx rfl (hb hby at_50) ?_
        show Sp p e below s₁ (mkF m 52 #[.val (.int p0), .val (.int p1), .val (.int p2), .val (.int i3), .val (.int i4), .unset, .unset, .unset, .unset, .unset] [(.int (63 : Int32)), (.int p2)]) _
        refine XS.iand X0.here hx rfl (hb hby at_52) rfl ?_
        show Sp p e below s₁ (mkF m 53 #[.val (.int p0), .val (.int p1), .val (.int p2), .val (.int i3), .val (.int i4), .unset, .unset, .unset, .unset, .unset] [(.int (p2 &&& (63 : Int32)))]) _
        refine XS.bipush X0.here hx rfl (hb hby at_53) ?_
        show Sp p e below s₁ (mkF m 55 #[.val (.int p0), .val (.int p1), .val (.int p2), .val (.int i3), .val (.int i4), .unset, .unset, .unset, .unset, .unset] [(.int (8 : Int32)), (.int (p2 &&& (63 : Int32)))]) _
        refine XS.isub X0.here hx rfl (hb hby at_55) rfl ?_
        show Sp p e below s₁ (mkF m 56 #[.val (.int p0), .val (.int p1), .val (.int p2), .val (.int i3), .val (.int i4), .unset, .unset, .unset, .unset, .unset] [(.int ((p2 &&& (63 : Int32)) - (8 : Int32)))]) _
        refine XS.istore X0.here hx rfl (hb hby at_56) rfl (l' := #[.val (.int p0), .val (.int p1), .val (.int p2), .val (.int i3), .val (.int i4), .val (.int ((p2 &&& (63 : Int32)) - (8 : Int32))), .unset, .unset, .unset, .unset]) rfl ?_
        exact kt
theorem d1_0 : decode method_2_code 0 = .ok (.iload_n 0, 1) := by decide +kernel
theorem d1_1 : decode method_2_code 1 = .ok (.ifCond .ne 7, 3) := by decide +kernel
theorem d1_4 : decode method_2_code 4 = .ok (.getstatic 7, 3) := by decide +kernel
theorem d1_7 : decode method_2_code 7 = .ok (.areturn, 1) := by decide +kernel
abbrev y0 : MethodName := (⟨"com/example/cloakfield/cloakfield/crypto/EncryptionAlgorithmAcceptsKeyLengthPinLaw", "pick", "(I)Lcom/example/cloakfield/cloakfield/crypto/EncryptionAlgorithm;"⟩ : MethodName)
theorem ef_1_0 (m : MethodId) (x0 : Int32) : entryFrame m #[(.int x0)] 1 = mkF m 0 #[.val (.int x0)] [] := by first | (simp [entryFrame, mkF, argsToLocals, Value.category]; done) | rfl
theorem pn_1 : plainName "com/example/cloakfield/cloakfield/crypto/EncryptionAlgorithmAcceptsKeyLengthPinLaw" = true := by first | (simp [plainName, overriddenIn]; done) | decide +kernel
def Q1 (Z : State) (w_AES_128_GCM : Addr) (w_AES_256_GCM : Addr) (w_AES_CBC_PKCS5PADDING : Addr) (w_AES_128_CBC : Addr) (w_AES_GCM_NOPADDING : Addr) (kl_AES_128_GCM : Addr) (kl_AES_256_GCM : Addr) (kl_AES_CBC_PKCS5PADDING : Addr) (kl_AES_128_CBC : Addr) (kl_AES_GCM_NOPADDING : Addr) (k_kl_AES_128_GCM : ClassId) (k_kl_AES_256_GCM : ClassId) (k_kl_AES_CBC_PKCS5PADDING : ClassId) (k_kl_AES_128_CBC : ClassId) (k_kl_AES_GCM_NOPADDING : ClassId) (p1 : Int32) (h0 : Heap) (n0 : Nat) (v : Option Value) (h : Heap) (L : List Loc) : Prop := v = some (.ref w_AES_128_GCM) ∧ Fr n0 L ∧ h = h0
set_option maxRecDepth 65536 in
set_option maxHeartbeats 40000000 in
theorem rm1 (l : Launch) (Z : State) (a0 : Array Value) (hw : ∀ d ∈ tables_1, d.before a0 Z = true) (ws : List Jvm.Cond) (w_AES_128_GCM w_AES_256_GCM w_AES_CBC_PKCS5PADDING w_AES_128_CBC w_AES_GCM_NOPADDING kl_AES_128_GCM kl_AES_256_GCM kl_AES_CBC_PKCS5PADDING kl_AES_128_CBC kl_AES_GCM_NOPADDING : Addr) (k_kl_AES_128_GCM : ClassId) (k_kl_AES_256_GCM : ClassId) (k_kl_AES_CBC_PKCS5PADDING : ClassId) (k_kl_AES_128_CBC : ClassId) (k_kl_AES_GCM_NOPADDING : ClassId) (hp : Perm Z w_AES_128_GCM w_AES_256_GCM w_AES_CBC_PKCS5PADDING w_AES_128_CBC w_AES_GCM_NOPADDING kl_AES_128_GCM kl_AES_256_GCM kl_AES_CBC_PKCS5PADDING kl_AES_128_CBC kl_AES_GCM_NOPADDING k_kl_AES_128_GCM k_kl_AES_256_GCM k_kl_AES_CBC_PKCS5PADDING k_kl_AES_128_CBC k_kl_AES_GCM_NOPADDING) (p1 : Int32) (h0 : Heap) (n0 : Nat) (O0 : Old Z n0 h0) (hc1 : p1 = (0 : Int32)) :
    MetFree l y0 (head1 (Jvm.Cond.code y0 method_2_code 1 (some (.object "com/example/cloakfield/cloakfield/crypto/EncryptionAlgorithm")) :: ws) ({ frames := 0, cells := 0, slots := 0, locals := 0 } : Room)) (fun a U => a = #[(.int p1)] ∧ Z.Warmed39 U.vm ∧ U.heap = h0) (fun _ _ _ _ _ => True) (fun _ U o U' => ∃ v L, o = .returned v ∧ Q1 Z w_AES_128_GCM w_AES_256_GCM w_AES_CBC_PKCS5PADDING w_AES_128_CBC w_AES_GCM_NOPADDING kl_AES_128_GCM kl_AES_256_GCM kl_AES_CBC_PKCS5PADDING kl_AES_128_CBC kl_AES_GCM_NOPADDING k_kl_AES_128_GCM k_kl_AES_256_GCM k_kl_AES_CBC_PKCS5PADDING k_kl_AES_128_CBC k_kl_AES_GCM_NOPADDING p1 h0 n0 v U'.heap L ∧ FrameEnd U o U' L ({ frames := 0, cells := 0, slots := 0, locals := 0 } : Room).cells ({ frames := 0, cells := 0, slots := 0, locals := 0 } : Room).slots) := by
  refine MetFree.of_bodySF (plainFor_of_name pn_1) hisR ?_
  intro p e s m args below meth c s₁ Bd hml0 hP hK
  obtain ⟨rfl, hZ, hh⟩ := hP
  have hx := Bd.exec
  have hby := Bd.bytes
  have hml : c.maxLocals = 1 := hml0
  have hown : s.vm.findClass "com/example/cloakfield/cloakfield/crypto/EncryptionAlgorithmAcceptsKeyLengthPinLaw" = some m.cls := findClass_of_methodNamed Bd.named
  have hnm := (name_of_methodNamed Bd.named Bd.method).1
  have X0 : Stand p l e ({ frames := 0, cells := 0, slots := 0, locals := 0 } : Room) s m #[(.int p1)] below meth c s₁ [] 0 0 := Stand.of_body Bd
  have e0 : s₁.heap = h0 := by rw [← hh, Bd.state]; rfl
  have N0 := Fr.nil n0
  have hp' := hp
  obtain ⟨S_w_AES_128_GCM, E_w_AES_128_GCM, S_w_AES_256_GCM, E_w_AES_256_GCM, S_w_AES_CBC_PKCS5PADDING, E_w_AES_CBC_PKCS5PADDING, S_w_AES_128_CBC, E_w_AES_128_CBC, S_w_AES_GCM_NOPADDING, E_w_AES_GCM_NOPADDING, F_keyLengths_w_AES_128_GCM, V_kl_AES_128_GCM, F_keyLengths_w_AES_256_GCM, V_kl_AES_256_GCM, F_keyLengths_w_AES_CBC_PKCS5PADDING, V_kl_AES_CBC_PKCS5PADDING, F_keyLengths_w_AES_128_CBC, V_kl_AES_128_CBC, F_keyLengths_w_AES_GCM_NOPADDING, V_kl_AES_GCM_NOPADDING⟩ := hp'
  have pre0 : ∀ t, Steps p.tables e below (s₁.setTop (mkF m 0 #[.val (.int p1)] [])) t → Steps p.tables e below (s₁.setTop (entryFrame m #[(.int p1)] 1)) t := fun t k => castTop (ef_1_0 m p1) k
  obtain ⟨T1, X1, e1, st1⟩ := getS2 X0 hx hZ hown (host := "") (Or.inl (hw _ (List.mem_of_getElem? (i := 5) rfl))) Via.refl e0 (S_w_AES_128_GCM.ext O0.2) (g := (mkF m 4 #[.val (.int p1)] [])) rfl (hb hby d1_4)
  obtain ⟨fs, hr, hrun, hended, hW, hsame⟩ := X1.leave (v := some (.ref w_AES_128_GCM)) (fun h => by rw [Bd.returns] at h; cases h)
  refine ⟨_, _, pre0 _ ?_, hrun, hended, _, _, rfl, ?_, ⟨_, rfl⟩, hW, hsame.mono (by decide) (by decide)⟩
  · show Sp p e below s₁ (mkF m 0 #[.val (.int p1)] []) _
    refine XS.iloadN X0.here hx rfl (hb hby d1_0) rfl ?_
    show Sp p e below s₁ (mkF m 1 #[.val (.int p1)] [(.int p1)]) _
    refine XS.ifNo X0.here hx rfl (hb hby d1_1) rfl ((if0 _ _).trans (teq hc1).2) ?_
    show Sp p e below s₁ (mkF m 4 #[.val (.int p1)] []) _
    refine st1 _ ?_
    show Sp p e below T1 (mkF m 7 #[.val (.int p1)] [(.ref w_AES_128_GCM)]) _
    jvm_step X1.here [X1.here.top, hx, (hb hby d1_7), X1.method', Bd.returns, Value.isRef, FieldType.isReference]
    first | (intro acts; rw [hr _ acts rfl rfl rfl]) | rw [hr _ _ rfl rfl rfl]
    exact Steps.refl _
  · show Q1 Z w_AES_128_GCM w_AES_256_GCM w_AES_CBC_PKCS5PADDING w_AES_128_CBC w_AES_GCM_NOPADDING kl_AES_128_GCM kl_AES_256_GCM kl_AES_CBC_PKCS5PADDING kl_AES_128_CBC kl_AES_GCM_NOPADDING k_kl_AES_128_GCM k_kl_AES_256_GCM k_kl_AES_CBC_PKCS5PADDING k_kl_AES_128_CBC k_kl_AES_GCM_NOPADDING p1 h0 n0 _ T1.heap _
    rw [e1]
    exact ⟨rfl, N0, rfl⟩
theorem pd_0 : parseMethodDescriptor "(I)Lcom/example/cloakfield/cloakfield/crypto/EncryptionAlgorithm;" = some ⟨[.int], some (.object "com/example/cloakfield/cloakfield/crypto/EncryptionAlgorithm")⟩ := by decide +kernel
theorem d2_0 : decode prog_31_method_7_code 0 = .ok (.aload_n 0, 1) := by decide +kernel
theorem d2_1 : decode prog_31_method_7_code 1 = .ok (.getfield 46, 3) := by decide +kernel
theorem d2_4 : decode prog_31_method_7_code 4 = .ok (.astore_n 2, 1) := by decide +kernel
theorem d2_5 : decode prog_31_method_7_code 5 = .ok (.aload_n 2, 1) := by decide +kernel
theorem d2_6 : decode prog_31_method_7_code 6 = .ok (.arraylength, 1) := by decide +kernel
theorem d2_7 : decode prog_31_method_7_code 7 = .ok (.istore_n 3, 1) := by decide +kernel
theorem d2_8 : decode prog_31_method_7_code 8 = .ok (.iconst 0, 1) := by decide +kernel
theorem d2_9 : decode prog_31_method_7_code 9 = .ok (.istore 4, 2) := by decide +kernel
theorem d2_11 : decode prog_31_method_7_code 11 = .ok (.iload 4, 2) := by decide +kernel
theorem d2_13 : decode prog_31_method_7_code 13 = .ok (.iload_n 3, 1) := by decide +kernel
theorem d2_14 : decode prog_31_method_7_code 14 = .ok (.if_icmp .ge 23, 3) := by decide +kernel
theorem d2_17 : decode prog_31_method_7_code 17 = .ok (.aload_n 2, 1) := by decide +kernel
theorem d2_18 : decode prog_31_method_7_code 18 = .ok (.iload 4, 2) := by decide +kernel
theorem d2_20 : decode prog_31_method_7_code 20 = .ok (.iaload, 1) := by decide +kernel
theorem d2_21 : decode prog_31_method_7_code 21 = .ok (.istore 5, 2) := by decide +kernel
theorem d2_23 : decode prog_31_method_7_code 23 = .ok (.iload 5, 2) := by decide +kernel
theorem d2_25 : decode prog_31_method_7_code 25 = .ok (.iload_n 1, 1) := by decide +kernel
theorem d2_26 : decode prog_31_method_7_code 26 = .ok (.if_icmp .ne 5, 3) := by decide +kernel
theorem d2_29 : decode prog_31_method_7_code 29 = .ok (.iconst 1, 1) := by decide +kernel
theorem d2_30 : decode prog_31_method_7_code 30 = .ok (.ireturn, 1) := by decide +kernel
abbrev y1 : MethodName := (⟨"com/example/cloakfield/cloakfield/crypto/EncryptionAlgorithm", "acceptsKeyLength", "(I)Z"⟩ : MethodName)
theorem ef_2_0 (m : MethodId) (x0 : Addr) (x1 : Int32) : entryFrame m #[(.ref x0), (.int x1)] 6 = mkF m 0 #[.val (.ref x0), .val (.int x1), .unset, .unset, .unset, .unset] [] := by first | (simp [entryFrame, mkF, argsToLocals, Value.category]; done) | rfl
theorem pn_2 : plainName "com/example/cloakfield/cloakfield/crypto/EncryptionAlgorithm" = true := by first | (simp [plainName, overriddenIn]; done) | decide +kernel
def Q2 (Z : State) (w_AES_128_GCM : Addr) (w_AES_256_GCM : Addr) (w_AES_CBC_PKCS5PADDING : Addr) (w_AES_128_CBC : Addr) (w_AES_GCM_NOPADDING : Addr) (kl_AES_128_GCM : Addr) (kl_AES_256_GCM : Addr) (kl_AES_CBC_PKCS5PADDING : Addr) (kl_AES_128_CBC : Addr) (kl_AES_GCM_NOPADDING : Addr) (k_kl_AES_128_GCM : ClassId) (k_kl_AES_256_GCM : ClassId) (k_kl_AES_CBC_PKCS5PADDING : ClassId) (k_kl_AES_128_CBC : ClassId) (k_kl_AES_GCM_NOPADDING : ClassId) (p1 : Int32) (h0 : Heap) (n0 : Nat) (v : Option Value) (h : Heap) (L : List Loc) : Prop := v = some (.int (1 : Int32)) ∧ Fr n0 L ∧ h = h0
set_option maxRecDepth 65536 in
set_option maxHeartbeats 40000000 in
theorem rm2 (l : Launch) (Z : State) (a0 : Array Value) (hw : ∀ d ∈ tables_1, d.before a0 Z = true) (ws : List Jvm.Cond) (w_AES_128_GCM w_AES_256_GCM w_AES_CBC_PKCS5PADDING w_AES_128_CBC w_AES_GCM_NOPADDING kl_AES_128_GCM kl_AES_256_GCM kl_AES_CBC_PKCS5PADDING kl_AES_128_CBC kl_AES_GCM_NOPADDING : Addr) (k_kl_AES_128_GCM : ClassId) (k_kl_AES_256_GCM : ClassId) (k_kl_AES_CBC_PKCS5PADDING : ClassId) (k_kl_AES_128_CBC : ClassId) (k_kl_AES_GCM_NOPADDING : ClassId) (hp : Perm Z w_AES_128_GCM w_AES_256_GCM w_AES_CBC_PKCS5PADDING w_AES_128_CBC w_AES_GCM_NOPADDING kl_AES_128_GCM kl_AES_256_GCM kl_AES_CBC_PKCS5PADDING kl_AES_128_CBC kl_AES_GCM_NOPADDING k_kl_AES_128_GCM k_kl_AES_256_GCM k_kl_AES_CBC_PKCS5PADDING k_kl_AES_128_CBC k_kl_AES_GCM_NOPADDING) (p1 : Int32) (h0 : Heap) (n0 : Nat) (O0 : Old Z n0 h0) (hc1 : p1 = (16 : Int32)) :
    MetFree l y1 (head1 (Jvm.Cond.code y1 prog_31_method_7_code 6 (some .boolean) :: ws) ({ frames := 0, cells := 0, slots := 0, locals := 0 } : Room)) (fun a U => a = #[(.ref w_AES_128_GCM), (.int p1)] ∧ Z.Warmed39 U.vm ∧ U.heap = h0) (fun _ _ _ _ _ => True) (fun _ U o U' => ∃ v L, o = .returned v ∧ Q2 Z w_AES_128_GCM w_AES_256_GCM w_AES_CBC_PKCS5PADDING w_AES_128_CBC w_AES_GCM_NOPADDING kl_AES_128_GCM kl_AES_256_GCM kl_AES_CBC_PKCS5PADDING kl_AES_128_CBC kl_AES_GCM_NOPADDING k_kl_AES_128_GCM k_kl_AES_256_GCM k_kl_AES_CBC_PKCS5PADDING k_kl_AES_128_CBC k_kl_AES_GCM_NOPADDING p1 h0 n0 v U'.heap L ∧ FrameEnd U o U' L ({ frames := 0, cells := 0, slots := 0, locals := 0 } : Room).cells ({ frames := 0, cells := 0, slots := 0, locals := 0 } : Room).slots) := by
  refine MetFree.of_bodySF (plainFor_of_name pn_2) hisR ?_
  intro p e s m args below meth c s₁ Bd hml0 hP hK
  obtain ⟨rfl, hZ, hh⟩ := hP
  have hx := Bd.exec
  have hby := Bd.bytes
  have hml : c.maxLocals = 6 := hml0
  have hown : s.vm.findClass "com/example/cloakfield/cloakfield/crypto/EncryptionAlgorithm" = some m.cls := findClass_of_methodNamed Bd.named
  have hnm := (name_of_methodNamed Bd.named Bd.method).1
  have X0 : Stand p l e ({ frames := 0, cells := 0, slots := 0, locals := 0 } : Room) s m #[(.ref w_AES_128_GCM), (.int p1)] below meth c s₁ [] 0 0 := Stand.of_body Bd
  have e0 : s₁.heap = h0 := by rw [← hh, Bd.state]; rfl
  have N0 := Fr.nil n0
  have hp' := hp
  obtain ⟨S_w_AES_128_GCM, E_w_AES_128_GCM, S_w_AES_256_GCM, E_w_AES_256_GCM, S_w_AES_CBC_PKCS5PADDING, E_w_AES_CBC_PKCS5PADDING, S_w_AES_128_CBC, E_w_AES_128_CBC, S_w_AES_GCM_NOPADDING, E_w_AES_GCM_NOPADDING, F_keyLengths_w_AES_128_GCM, V_kl_AES_128_GCM, F_keyLengths_w_AES_256_GCM, V_kl_AES_256_GCM, F_keyLengths_w_AES_CBC_PKCS5PADDING, V_kl_AES_CBC_PKCS5PADDING, F_keyLengths_w_AES_128_CBC, V_kl_AES_128_CBC, F_keyLengths_w_AES_GCM_NOPADDING, V_kl_AES_GCM_NOPADDING⟩ := hp'
  have pre0 : ∀ t, Steps p.tables e below (s₁.setTop (mkF m 0 #[.val (.ref w_AES_128_GCM), .val (.int p1), .unset, .unset, .unset, .unset] [])) t → Steps p.tables e below (s₁.setTop (entryFrame m #[(.ref w_AES_128_GCM), (.int p1)] 6)) t := fun t k => castTop (ef_2_0 m w_AES_128_GCM p1) k
  obtain ⟨T1, X1, e1, st1⟩ := getF X0 hx hZ hown (host := "") (Or.inl (hw _ (List.mem_of_getElem? (i := 13) rfl))) Via.refl e0 (F_keyLengths_w_AES_128_GCM.ext O0.2) (g := (mkF m 1 #[.val (.ref w_AES_128_GCM), .val (.int p1), .unset, .unset, .unset, .unset] [(.ref w_AES_128_GCM)])) rfl rfl (hb hby d2_1)
  obtain ⟨cl2, Ar2, -, S2, Nn2, -, -⟩ := (V_kl_AES_128_GCM.ext O0.2)
  obtain ⟨cl3, Ar3, -, S3, -, H3, -⟩ := (V_kl_AES_128_GCM.ext O0.2)
  have hin3 : ¬ ((0 : Int32) < 0 ∨ cl3.slots.size ≤ ((0 : Int32)).toNatClampNeg) := inb_of S3 ⟨by decide, by decide⟩
  have hat3 : cl3.slots[((0 : Int32)).toNatClampNeg]? = some (.int (16 : Int32)) := H3.at hin3 rfl
  obtain ⟨fs, hr, hrun, hended, hW, hsame⟩ := X1.leave (v := some (.int (1 : Int32))) (fun h => by rw [Bd.returns] at h; cases h)
  refine ⟨_, _, pre0 _ ?_, hrun, hended, _, _, rfl, ?_, ⟨_, rfl⟩, hW, hsame.mono (by decide) (by decide)⟩
  · show Sp p e below s₁ (mkF m 0 #[.val (.ref w_AES_128_GCM), .val (.int p1), .unset, .unset, .unset, .unset] []) _
    refine XS.aloadN X0.here hx rfl (hb hby d2_0) rfl rfl ?_
    show Sp p e below s₁ (mkF m 1 #[.val (.ref w_AES_128_GCM), .val (.int p1), .unset, .unset, .unset, .unset] [(.ref w_AES_128_GCM)]) _
    refine st1 _ ?_
    show Sp p e below T1 (mkF m 4 #[.val (.ref w_AES_128_GCM), .val (.int p1), .unset, .unset, .unset, .unset] [(.ref kl_AES_128_GCM)]) _
    refine XS.astoreN X1.here hx rfl (hb hby d2_4) rfl rfl (l' := #[.val (.ref w_AES_128_GCM), .val (.int p1), .val (.ref kl_AES_128_GCM), .unset, .unset, .unset]) rfl ?_
    show Sp p e below T1 (mkF m 5 #[.val (.ref w_AES_128_GCM), .val (.int p1), .val (.ref kl_AES_128_GCM), .unset, .unset, .unset] []) _
    refine XS.aloadN X1.here hx rfl (hb hby d2_5) rfl rfl ?_
    show Sp p e below T1 (mkF m 6 #[.val (.ref w_AES_128_GCM), .val (.int p1), .val (.ref kl_AES_128_GCM), .unset, .unset, .unset] [(.ref kl_AES_128_GCM)]) _
    refine X1.arraylength hx (by rw [e1]; exact Ar2.1) (State.isArrayOf_alike hZ.alike Ar2.2.1) (g := (mkF m 6 #[.val (.ref w_AES_128_GCM), .val (.int p1), .val (.ref kl_AES_128_GCM), .unset, .unset, .unset] [(.ref kl_AES_128_GCM)])) rfl rfl (hb hby d2_6) _ ?_
    rw [len_of S2 Nn2]
    show Sp p e below T1 (mkF m 7 #[.val (.ref w_AES_128_GCM), .val (.int p1), .val (.ref kl_AES_128_GCM), .unset, .unset, .unset] [(.int (1 : Int32))]) _
    refine XS.istoreN X1.here hx rfl (hb hby d2_7) rfl (l' := #[.val (.ref w_AES_128_GCM), .val (.int p1), .val (.ref kl_AES_128_GCM), .val (.int (1 : Int32)), .unset, .unset]) rfl ?_
    show Sp p e below T1 (mkF m 8 #[.val (.ref w_AES_128_GCM), .val (.int p1), .val (.ref kl_AES_128_GCM), .val (.int (1 : Int32)), .unset, .unset] []) _
    refine XS.iconst X1.here hx rfl (hb hby d2_8) ?_
    show Sp p e below T1 (mkF m 9 #[.val (.ref w_AES_128_GCM), .val (.int p1), .val (.ref kl_AES_128_GCM), .val (.int (1 : Int32)), .unset, .unset] [(.int (0 : Int32))]) _
    refine XS.istore X1.here hx rfl (hb hby d2_9) rfl (l' := #[.val (.ref w_AES_128_GCM), .val (.int p1), .val (.ref kl_AES_128_GCM), .val (.int (1 : Int32)), .val (.int (0 : Int32)), .unset]) rfl ?_
    show Sp p e below T1 (mkF m 11 #[.val (.ref w_AES_128_GCM), .val (.int p1), .val (.ref kl_AES_128_GCM), .val (.int (1 : Int32)), .val (.int (0 : Int32)), .unset] []) _
    refine XS.iload X1.here hx rfl (hb hby d2_11) rfl ?_
    show Sp p e below T1 (mkF m 13 #[.val (.ref w_AES_128_GCM), .val (.int p1), .val (.ref kl_AES_128_GCM), .val (.int (1 : Int32)), .val (.int (0 : Int32)), .unset] [(.int (0 : Int32))]) _
    refine XS.iloadN X1.here hx rfl (hb hby d2_13) rfl ?_
    show Sp p e below T1 (mkF m 14 #[.val (.ref w_AES_128_GCM), .val (.int p1), .val (.ref kl_AES_128_GCM), .val (.int (1 : Int32)), .val (.int (0 : Int32)), .unset] [(.int (1 : Int32)), (.int (0 : Int32))]) _
    refine XS.icmpNo X1.here hx rfl (hb hby d2_14) rfl (tlt (by decide : (0 : Int32) < (1 : Int32))).2.1 ?_
    show Sp p e below T1 (mkF m 17 #[.val (.ref w_AES_128_GCM), .val (.int p1), .val (.ref kl_AES_128_GCM), .val (.int (1 : Int32)), .val (.int (0 : Int32)), .unset] []) _
    refine XS.aloadN X1.here hx rfl (hb hby d2_17) rfl rfl ?_
    show Sp p e below T1 (mkF m 18 #[.val (.ref w_AES_128_GCM), .val (.int p1), .val (.ref kl_AES_128_GCM), .val (.int (1 : Int32)), .val (.int (0 : Int32)), .unset] [(.ref kl_AES_128_GCM)]) _
    refine XS.iload X1.here hx rfl (hb hby d2_18) rfl ?_
    show Sp p e below T1 (mkF m 20 #[.val (.ref w_AES_128_GCM), .val (.int p1), .val (.ref kl_AES_128_GCM), .val (.int (1 : Int32)), .val (.int (0 : Int32)), .unset] [(.int (0 : Int32)), (.ref kl_AES_128_GCM)]) _
    refine X1.iaload hx (j := (0 : Int32)) (v := (.int (16 : Int32))) (by rw [e1]; exact Ar3.1) (State.isArrayOf_alike hZ.alike Ar3.2.1) Ar3.2.2 hin3 hat3 (g := (mkF m 20 #[.val (.ref w_AES_128_GCM), .val (.int p1), .val (.ref kl_AES_128_GCM), .val (.int (1 : Int32)), .val (.int (0 : Int32)), .unset] [(.int (0 : Int32)), (.ref kl_AES_128_GCM)])) rfl rfl (hb hby d2_20) _ ?_
    show Sp p e below T1 (mkF m 21 #[.val (.ref w_AES_128_GCM), .val (.int p1), .val (.ref kl_AES_128_GCM), .val (.int (1 : Int32)), .val (.int (0 : Int32)), .unset] [(.int (16 : Int32))]) _
    refine XS.istore X1.here hx rfl (hb hby d2_21) rfl (l' := #[.val (.ref w_AES_128_GCM), .val (.int p1), .val (.ref kl_AES_128_GCM), .val (.int (1 : Int32)), .val (.int (0 : Int32)), .val (.int (16 : Int32))]) rfl ?_
    show Sp p e below T1 (mkF m 23 #[.val (.ref w_AES_128_GCM), .val (.int p1), .val (.ref kl_AES_128_GCM), .val (.int (1 : Int32)), .val (.int (0 : Int32)), .val (.int (16 : Int32))] []) _
    refine XS.iload X1.here hx rfl (hb hby d2_23) rfl ?_
    show Sp p e below T1 (mkF m 25 #[.val (.ref w_AES_128_GCM), .val (.int p1), .val (.ref kl_AES_128_GCM), .val (.int (1 : Int32)), .val (.int (0 : Int32)), .val (.int (16 : Int32))] [(.int (16 : Int32))]) _
    refine XS.iloadN X1.here hx rfl (hb hby d2_25) rfl ?_
    show Sp p e below T1 (mkF m 26 #[.val (.ref w_AES_128_GCM), .val (.int p1), .val (.ref kl_AES_128_GCM), .val (.int (1 : Int32)), .val (.int (0 : Int32)), .val (.int (16 : Int32))] [(.int p1), (.int (16 : Int32))]) _
    refine XS.icmpNo X1.here hx rfl (hb hby d2_26) rfl (teq (Eq.symm hc1)).2 ?_
    show Sp p e below T1 (mkF m 29 #[.val (.ref w_AES_128_GCM), .val (.int p1), .val (.ref kl_AES_128_GCM), .val (.int (1 : Int32)), .val (.int (0 : Int32)), .val (.int (16 : Int32))] []) _
    refine XS.iconst X1.here hx rfl (hb hby d2_29) ?_
    show Sp p e below T1 (mkF m 30 #[.val (.ref w_AES_128_GCM), .val (.int p1), .val (.ref kl_AES_128_GCM), .val (.int (1 : Int32)), .val (.int (0 : Int32)), .val (.int (16 : Int32))] [(.int (1 : Int32))]) _
    exact retN X1 hx (t := .boolean) Bd.returns (by simp) (hb hby d2_30) hr
  · show Q2 Z w_AES_128_GCM w_AES_256_GCM w_AES_CBC_PKCS5PADDING w_AES_128_CBC w_AES_GCM_NOPADDING kl_AES_128_GCM kl_AES_256_GCM kl_AES_CBC_PKCS5PADDING kl_AES_128_CBC kl_AES_GCM_NOPADDING k_kl_AES_128_GCM k_kl_AES_256_GCM k_kl_AES_CBC_PKCS5PADDING k_kl_AES_128_CBC k_kl_AES_GCM_NOPADDING p1 h0 n0 _ T1.heap _
    rw [e1]
    exact ⟨rfl, N0, rfl⟩
theorem pd_1 : parseMethodDescriptor "(I)Z" = some ⟨[.int], some .boolean⟩ := by decide +kernel
theorem ef_0_0 (m : MethodId) (x0 : Int32) (x1 : Int32) (x2 : Int32) : entryFrame m #[(.int x0), (.int x1), (.int x2)] maxLocals = mkF m 0 #[.val (.int x0), .val (.int x1), .val (.int x2), .unset, .unset, .unset, .unset, .unset, .unset, .unset] [] := by first | (simp [entryFrame, mkF, argsToLocals, Value.category, maxLocals]; done) | rfl
set_option maxRecDepth 65536 in
set_option maxHeartbeats 40000000 in
theorem rm3 (l : Launch) (Z : State) (a0 : Array Value) (hw : ∀ d ∈ tables_1, d.before a0 Z = true) (ws : List Jvm.Cond) (w_AES_128_GCM w_AES_256_GCM w_AES_CBC_PKCS5PADDING w_AES_128_CBC w_AES_GCM_NOPADDING kl_AES_128_GCM kl_AES_256_GCM kl_AES_CBC_PKCS5PADDING kl_AES_128_CBC kl_AES_GCM_NOPADDING : Addr) (k_kl_AES_128_GCM : ClassId) (k_kl_AES_256_GCM : ClassId) (k_kl_AES_CBC_PKCS5PADDING : ClassId) (k_kl_AES_128_CBC : ClassId) (k_kl_AES_GCM_NOPADDING : ClassId) (hp : Perm Z w_AES_128_GCM w_AES_256_GCM w_AES_CBC_PKCS5PADDING w_AES_128_CBC w_AES_GCM_NOPADDING kl_AES_128_GCM kl_AES_256_GCM kl_AES_CBC_PKCS5PADDING kl_AES_128_CBC kl_AES_GCM_NOPADDING k_kl_AES_128_GCM k_kl_AES_256_GCM k_kl_AES_CBC_PKCS5PADDING k_kl_AES_128_CBC k_kl_AES_GCM_NOPADDING) (p0 : Int32) (p1 : Int32) (p2 : Int32) (z5 : Int32) (h0 : Heap) (n0 : Nat) (O0 : Old Z n0 h0) (hcut : Cut_0_12 p0 p1 p2 ((p0 &&& (2147483647 : Int32)) % (5 : Int32)) (p1 &&& (3 : Int32)) z5) (hc2 : ((p0 &&& (2147483647 : Int32)) % (5 : Int32)) = (0 : Int32)) (hc3 : z5 = (16 : Int32)) :
    MetFree l x (head1 (Jvm.Cond.code x code maxLocals ret :: ws) room_1) (fun a U => a = #[(.int p0), (.int p1), (.int p2)] ∧ Z.Warmed39 U.vm ∧ U.heap = h0) (fun _ _ _ _ _ => True) (fun _ U o U' => ∃ v L, o = .returned v ∧ (v = some (.int (1 : Int32)) ∧ Fr n0 L) ∧ FrameEnd U o U' L 0 0) := by
  refine MetFree.of_bodySF (plainFor_of_name pn_1) hisR ?_
  intro p e s m args below meth c s₁ Bd hml0 hP hK
  obtain ⟨rfl, hZ, hh⟩ := hP
  have hx := Bd.exec
  have hby := Bd.bytes
  have hml : c.maxLocals = 10 := hml0
  have hown : s.vm.findClass "com/example/cloakfield/cloakfield/crypto/EncryptionAlgorithmAcceptsKeyLengthPinLaw" = some m.cls := findClass_of_methodNamed Bd.named
  have hnm := (name_of_methodNamed Bd.named Bd.method).1
  have X0 : Stand p l e room_1 s m #[(.int p0), (.int p1), (.int p2)] below meth c s₁ [] 0 0 := Stand.of_body Bd
  have e0 : s₁.heap = h0 := by rw [← hh, Bd.state]; rfl
  have N0 := Fr.nil n0
  have hp' := hp
  obtain ⟨S_w_AES_128_GCM, E_w_AES_128_GCM, S_w_AES_256_GCM, E_w_AES_256_GCM, S_w_AES_CBC_PKCS5PADDING, E_w_AES_CBC_PKCS5PADDING, S_w_AES_128_CBC, E_w_AES_128_CBC, S_w_AES_GCM_NOPADDING, E_w_AES_GCM_NOPADDING, F_keyLengths_w_AES_128_GCM, V_kl_AES_128_GCM, F_keyLengths_w_AES_256_GCM, V_kl_AES_256_GCM, F_keyLengths_w_AES_CBC_PKCS5PADDING, V_kl_AES_CBC_PKCS5PADDING, F_keyLengths_w_AES_128_CBC, V_kl_AES_128_CBC, F_keyLengths_w_AES_GCM_NOPADDING, V_kl_AES_GCM_NOPADDING⟩ := hp'
  have pre0 : ∀ t, Steps p.tables e below (s₁.setTop (mkF m 0 #[.val (.int p0), .val (.int p1), .val (.int p2), .unset, .unset, .unset, .unset, .unset, .unset, .unset] [])) t → Steps p.tables e below (s₁.setTop (entryFrame m #[(.int p0), (.int p1), (.int p2)] maxLocals)) t := fun t k => castTop (ef_0_0 m p0 p1 p2) k
  have st1 := hcut X0 hx hZ hw hby hown
  obtain ⟨_, _, ⟨T2, L2, k2, n2⟩, -, X2, ⟨Lc2, hQ2, l2, y2, z2⟩, st2⟩ := Jvm.LawKit.callS X0 hx (y := y0) hown (mvT hZ (hw _ (List.mem_of_getElem? (i := 1) rfl))) (mvT hZ (hw _ (List.mem_of_getElem? (i := 2) rfl))) (mvT hZ (hw _ (List.mem_of_getElem? (i := 3) rfl))) (mvT hZ (hw _ (List.mem_of_getElem? (i := 4) rfl))) (by decide) (backOf (W := 0) (rm1 l Z a0 hw [] w_AES_128_GCM w_AES_256_GCM w_AES_CBC_PKCS5PADDING w_AES_128_CBC w_AES_GCM_NOPADDING kl_AES_128_GCM kl_AES_256_GCM kl_AES_CBC_PKCS5PADDING kl_AES_128_CBC kl_AES_GCM_NOPADDING k_kl_AES_128_GCM k_kl_AES_256_GCM k_kl_AES_CBC_PKCS5PADDING k_kl_AES_128_CBC k_kl_AES_GCM_NOPADDING hp ((p0 &&& (2147483647 : Int32)) % (5 : Int32)) h0 n0 O0 hc2) hZ (hw _ (List.mem_of_getElem? (i := 4) rfl)) (hw _ (List.mem_of_getElem? (i := 3) rfl)) (by decide) (by decide)) (g := (mkF m 59 #[.val (.int p0), .val (.int p1), .val (.int p2), .val (.int ((p0 &&& (2147483647 : Int32)) % (5 : Int32))), .val (.int (p1 &&& (3 : Int32))), .val (.int z5), .unset, .unset, .unset, .unset] [(.int ((p0 &&& (2147483647 : Int32)) % (5 : Int32)))])) rfl (by rw [hml]; rfl) (argsL := [(.int ((p0 &&& (2147483647 : Int32)) % (5 : Int32)))]) (rest := []) (lenOf pd_0 rfl) rfl (by show 2 * 0 + _ ≤ _; exact Nat.le_of_eq rfl) (hb hby at_59) (fun _ _ => ⟨rfl, e0, (by decide : 0 + 0 ≤ _), (by decide : 0 + 0 ≤ _)⟩)
  dsimp only [Pt.U, Pt.locs, Pt.cells, Pt.slots] at X2 l2 y2 z2 st2 hQ2
  subst l2 y2 z2
  obtain ⟨rfl, Nq2, eq2⟩ := hQ2
  have N2 := Fr.app N0 Nq2
  obtain ⟨cq3, kq3, q3a, q3b, q3c⟩ := isOf hZ eq2 (E_w_AES_128_GCM.ext O0.2)
  obtain ⟨_, _, ⟨T3, L3, k3, n3⟩, -, X3, ⟨Lc3, hQ3, l3, y3, z3⟩, st3⟩ := X2.virtualBack hx (y := y1) (z := y1) hown (mvT hZ (hw _ (List.mem_of_getElem? (i := 8) rfl))) (mvT hZ (hw _ (List.mem_of_getElem? (i := 9) rfl))) (notFace_of_selects (args := #[]) (mvT hZ (hw _ (List.mem_of_getElem? (i := 11) rfl)))) (mvT hZ (hw _ (List.mem_of_getElem? (i := 11) rfl))) (mvT hZ (hw _ (List.mem_of_getElem? (i := 10) rfl))) (by decide) (backOf (W := 0) (rm2 l Z a0 hw [] w_AES_128_GCM w_AES_256_GCM w_AES_CBC_PKCS5PADDING w_AES_128_CBC w_AES_GCM_NOPADDING kl_AES_128_GCM kl_AES_256_GCM kl_AES_CBC_PKCS5PADDING kl_AES_128_CBC kl_AES_GCM_NOPADDING k_kl_AES_128_GCM k_kl_AES_256_GCM k_kl_AES_CBC_PKCS5PADDING k_kl_AES_128_CBC k_kl_AES_GCM_NOPADDING hp z5 h0 n0 O0 hc3) hZ (hw _ (List.mem_of_getElem? (i := 12) rfl)) (hw _ (List.mem_of_getElem? (i := 6) rfl)) (by decide) (by decide)) q3a q3c (g := (mkF m 147 #[.val (.int p0), .val (.int p1), .val (.int p2), .val (.int ((p0 &&& (2147483647 : Int32)) % (5 : Int32))), .val (.int (p1 &&& (3 : Int32))), .val (.int z5), .val (.ref w_AES_128_GCM), .val (.int (1 : Int32)), .val (.int (0 : Int32)), .val (.int (1 : Int32))] [(.int z5), (.ref w_AES_128_GCM)])) rfl (by rw [hml]; rfl) (Steps.refl _) (argsL := [(.int z5)]) (rest := []) (lenOf pd_1 rfl) rfl (by show 2 * 0 + _ ≤ _; exact Nat.le_of_eq rfl) (hb hby at_147) (fun _ _ => ⟨rfl, eq2, (by decide : 0 + 0 ≤ _), (by decide : 0 + 0 ≤ _)⟩)
  dsimp only [Pt.U, Pt.locs, Pt.cells, Pt.slots] at X3 l3 y3 z3 st3 hQ3
  subst l3 y3 z3
  obtain ⟨rfl, Nq3, eq3⟩ := hQ3
  have N3 := Fr.app N2 Nq3
  obtain ⟨fs, hr, hrun, hended, hW, hsame⟩ := X3.leave (v := some (.int (1 : Int32))) (fun h => by rw [Bd.returns] at h; cases h)
  refine ⟨_, _, pre0 _ ?_, hrun, hended, _, _, rfl, ?_, ⟨_, rfl⟩, hW, hsame.mono (by decide) (by decide)⟩
  · show Sp p e below s₁ (mkF m 0 #[.val (.int p0), .val (.int p1), .val (.int p2), .unset, .unset, .unset, .unset, .unset, .unset, .unset] []) _
    refine XS.iloadN X0.here hx rfl (hb hby at_0) rfl ?_
    show Sp p e below s₁ (mkF m 1 #[.val (.int p0), .val (.int p1), .val (.int p2), .unset, .unset, .unset, .unset, .unset, .unset, .unset] [(.int p0)]) _
    refine X0.ldcI hx hown (mvT hZ (hw _ (List.mem_of_getElem? (i := 0) rfl))) rfl (hb hby at_1) ?_
    show Sp p e below s₁ (mkF m 3 #[.val (.int p0), .val (.int p1), .val (.int p2), .unset, .unset, .unset, .unset, .unset, .unset, .unset] [(.int (2147483647 : Int32)), (.int p0)]) _
    refine XS.iand X0.here hx rfl (hb hby at_3) rfl ?_
    show Sp p e below s₁ (mkF m 4 #[.val (.int p0), .val (.int p1), .val (.int p2), .unset, .unset, .unset, .unset, .unset, .unset, .unset] [(.int (p0 &&& (2147483647 : Int32)))]) _
    refine XS.iconst X0.here hx rfl (hb hby at_4) ?_
    show Sp p e below s₁ (mkF m 5 #[.val (.int p0), .val (.int p1), .val (.int p2), .unset, .unset, .unset, .unset, .unset, .unset, .unset] [(.int (5 : Int32)), (.int (p0 &&& (2147483647 : Int32)))]) _
    refine iremM X0 hx rfl (hb hby at_5) rfl (by decide) ?_
    show Sp p e below s₁ (mkF m 6 #[.val (.int p0), .val (.int p1), .val (.int p2), .unset, .unset, .unset, .unset, .unset, .unset, .unset] [(.int ((p0 &&& (2147483647 : Int32)) % (5 : Int32)))]) _
    refine XS.istoreN X0.here hx rfl (hb hby at_6) rfl (l' := #[.val (.int p0), .val (.int p1), .val (.int p2), .val (.int ((p0 &&& (2147483647 : Int32)) % (5 : Int32))), .unset, .unset, .unset, .unset, .unset, .unset]) rfl ?_
    show Sp p e below s₁ (mkF m 7 #[.val (.int p0), .val (.int p1), .val (.int p2), .val (.int ((p0 &&& (2147483647 : Int32)) % (5 : Int32))), .unset, .unset, .unset, .unset, .unset, .unset] []) _
    refine XS.iloadN X0.here hx rfl (hb hby at_7) rfl ?_
    show Sp p e below s₁ (mkF m 8 #[.val (.int p0), .val (.int p1), .val (.int p2), .val (.int ((p0 &&& (2147483647 : Int32)) % (5 : Int32))), .unset, .unset, .unset, .unset, .unset, .unset] [(.int p1)]) _
    refine XS.iconst X0.here hx rfl (hb hby at_8) ?_
    show Sp p e below s₁ (mkF m 9 #[.val (.int p0), .val (.int p1), .val (.int p2), .val (.int ((p0 &&& (2147483647 : Int32)) % (5 : Int32))), .unset, .unset, .unset, .unset, .unset, .unset] [(.int (3 : Int32)), (.int p1)]) _
    refine XS.iand X0.here hx rfl (hb hby at_9) rfl ?_
    show Sp p e below s₁ (mkF m 10 #[.val (.int p0), .val (.int p1), .val (.int p2), .val (.int ((p0 &&& (2147483647 : Int32)) % (5 : Int32))), .unset, .unset, .unset, .unset, .unset, .unset] [(.int (p1 &&& (3 : Int32)))]) _
    refine XS.istore X0.here hx rfl (hb hby at_10) rfl (l' := #[.val (.int p0), .val (.int p1), .val (.int p2), .val (.int ((p0 &&& (2147483647 : Int32)) % (5 : Int32))), .val (.int (p1 &&& (3 : Int32))), .unset, .unset, .unset, .unset, .unset]) rfl ?_
    show Sp p e below s₁ (mkF m 12 #[.val (.int p0), .val (.int p1), .val (.int p2), .val (.int ((p0 &&& (2147483647 : Int32)) % (5 : Int32))), .val (.int (p1 &&& (3 : Int32))), .unset, .unset, .unset, .unset, .unset] []) _
    refine st1 _ ?_
    show Sp p e below s₁ (mkF m 58 #[.val (.int p0), .val (.int p1), .val (.int p2), .val (.int ((p0 &&& (2147483647 : Int32)) % (5 : Int32))), .val (.int (p1 &&& (3 : Int32))), .val (.int z5), .unset, .unset, .unset, .unset] []) _
    refine XS.iloadN X0.here hx rfl (hb hby at_58) rfl ?_
    show Sp p e below s₁ (mkF m 59 #[.val (.int p0), .val (.int p1), .val (.int p2), .val (.int ((p0 &&& (2147483647 : Int32)) % (5 : Int32))), .val (.int (p1 &&& (3 : Int32))), .val (.int z5), .unset, .unset, .unset, .unset] [(.int ((p0 &&& (2147483647 : Int32)) % (5 : Int32)))]) _
    refine st2 _ ?_
    show Sp p e below T2 (mkF m 62 #[.val (.int p0), .val (.int p1), .val (.int p2), .val (.int ((p0 &&& (2147483647 : Int32)) % (5 : Int32))), .val (.int (p1 &&& (3 : Int32))), .val (.int z5), .unset, .unset, .unset, .unset] [(.ref w_AES_128_GCM)]) _
    refine XS.astore X2.here hx rfl (hb hby at_62) rfl rfl (l' := #[.val (.int p0), .val (.int p1), .val (.int p2), .val (.int ((p0 &&& (2147483647 : Int32)) % (5 : Int32))), .val (.int (p1 &&& (3 : Int32))), .val (.int z5), .val (.ref w_AES_128_GCM), .unset, .unset, .unset]) rfl ?_
    show Sp p e below T2 (mkF m 64 #[.val (.int p0), .val (.int p1), .val (.int p2), .val (.int ((p0 &&& (2147483647 : Int32)) % (5 : Int32))), .val (.int (p1 &&& (3 : Int32))), .val (.int z5), .val (.ref w_AES_128_GCM), .unset, .unset, .unset] []) _
    refine XS.iloadN X2.here hx rfl (hb hby at_64) rfl ?_
    show Sp p e below T2 (mkF m 65 #[.val (.int p0), .val (.int p1), .val (.int p2), .val (.int ((p0 &&& (2147483647 : Int32)) % (5 : Int32))), .val (.int (p1 &&& (3 : Int32))), .val (.int z5), .val (.ref w_AES_128_GCM), .unset, .unset, .unset] [(.int ((p0 &&& (2147483647 : Int32)) % (5 : Int32)))]) _
    refine XS.ifYes X2.here hx rfl (pc0 := 65) (pc' := 83) rfl (hb hby at_65) rfl ((if0 _ _).trans (teq hc2).1) (by decide) (by decide) ?_
    show Sp p e below T2 (mkF m 83 #[.val (.int p0), .val (.int p1), .val (.int p2), .val (.int ((p0 &&& (2147483647 : Int32)) % (5 : Int32))), .val (.int (p1 &&& (3 : Int32))), .val (.int z5), .val (.ref w_AES_128_GCM), .unset, .unset, .unset] []) _
    refine XS.iconst X2.here hx rfl (hb hby at_83) ?_
    show Sp p e below T2 (mkF m 84 #[.val (.int p0), .val (.int p1), .val (.int p2), .val (.int ((p0 &&& (2147483647 : Int32)) % (5 : Int32))), .val (.int (p1 &&& (3 : Int32))), .val (.int z5), .val (.ref w_AES_128_GCM), .unset, .unset, .unset] [(.int (1 : Int32))]) _
    refine XS.goto X2.here hx rfl (pc0 := 84) (pc' := 88) rfl (hb hby at_84) (by decide) (by decide) ?_
    show Sp p e below T2 (mkF m 88 #[.val (.int p0), .val (.int p1), .val (.int p2), .val (.int ((p0 &&& (2147483647 : Int32)) % (5 : Int32))), .val (.int (p1 &&& (3 : Int32))), .val (.int z5), .val (.ref w_AES_128_GCM), .unset, .unset, .unset] [(.int (1 : Int32))]) _
    refine XS.istore X2.here hx rfl (hb hby at_88) rfl (l' := #[.val (.int p0), .val (.int p1), .val (.int p2), .val (.int ((p0 &&& (2147483647 : Int32)) % (5 : Int32))), .val (.int (p1 &&& (3 : Int32))), .val (.int z5), .val (.ref w_AES_128_GCM), .val (.int (1 : Int32)), .unset, .unset]) rfl ?_
    show Sp p e below T2 (mkF m 90 #[.val (.int p0), .val (.int p1), .val (.int p2), .val (.int ((p0 &&& (2147483647 : Int32)) % (5 : Int32))), .val (.int (p1 &&& (3 : Int32))), .val (.int z5), .val (.ref w_AES_128_GCM), .val (.int (1 : Int32)), .unset, .unset] []) _
    refine XS.iloadN X2.here hx rfl (hb hby at_90) rfl ?_
    show Sp p e below T2 (mkF m 91 #[.val (.int p0), .val (.int p1), .val (.int p2), .val (.int ((p0 &&& (2147483647 : Int32)) % (5 : Int32))), .val (.int (p1 &&& (3 : Int32))), .val (.int z5), .val (.ref w_AES_128_GCM), .val (.int (1 : Int32)), .unset, .unset] [(.int ((p0 &&& (2147483647 : Int32)) % (5 : Int32)))]) _
    refine XS.iconst X2.here hx rfl (hb hby at_91) ?_
    show Sp p e below T2 (mkF m 92 #[.val (.int p0), .val (.int p1), .val (.int p2), .val (.int ((p0 &&& (2147483647 : Int32)) % (5 : Int32))), .val (.int (p1 &&& (3 : Int32))), .val (.int z5), .val (.ref w_AES_128_GCM), .val (.int (1 : Int32)), .unset, .unset] [(.int (1 : Int32)), (.int ((p0 &&& (2147483647 : Int32)) % (5 : Int32)))]) _
    refine XS.icmpNo X2.here hx rfl (hb hby at_92) rfl (feq (by rw [hc2]; decide : ¬ (((p0 &&& (2147483647 : Int32)) % (5 : Int32)) = (1 : Int32)))).1 ?_
    show Sp p e below T2 (mkF m 95 #[.val (.int p0), .val (.int p1), .val (.int p2), .val (.int ((p0 &&& (2147483647 : Int32)) % (5 : Int32))), .val (.int (p1 &&& (3 : Int32))), .val (.int z5), .val (.ref w_AES_128_GCM), .val (.int (1 : Int32)), .unset, .unset] []) _
    refine XS.iloadN X2.here hx rfl (hb hby at_95) rfl ?_
    show Sp p e below T2 (mkF m 96 #[.val (.int p0), .val (.int p1), .val (.int p2), .val (.int ((p0 &&& (2147483647 : Int32)) % (5 : Int32))), .val (.int (p1 &&& (3 : Int32))), .val (.int z5), .val (.ref w_AES_128_GCM), .val (.int (1 : Int32)), .unset, .unset] [(.int ((p0 &&& (2147483647 : Int32)) % (5 : Int32)))]) _
    refine XS.iconst X2.here hx rfl (hb hby at_96) ?_
    show Sp p e below T2 (mkF m 97 #[.val (.int p0), .val (.int p1), .val (.int p2), .val (.int ((p0 &&& (2147483647 : Int32)) % (5 : Int32))), .val (.int (p1 &&& (3 : Int32))), .val (.int z5), .val (.ref w_AES_128_GCM), .val (.int (1 : Int32)), .unset, .unset] [(.int (2 : Int32)), (.int ((p0 &&& (2147483647 : Int32)) % (5 : Int32)))]) _
    refine XS.icmpNo X2.here hx rfl (hb hby at_97) rfl (feq (by rw [hc2]; decide : ¬ (((p0 &&& (2147483647 : Int32)) % (5 : Int32)) = (2 : Int32)))).1 ?_
    show Sp p e below T2 (mkF m 100 #[.val (.int p0), .val (.int p1), .val (.int p2), .val (.int ((p0 &&& (2147483647 : Int32)) % (5 : Int32))), .val (.int (p1 &&& (3 : Int32))), .val (.int z5), .val (.ref w_AES_128_GCM), .val (.int (1 : Int32)), .unset, .unset] []) _
    refine XS.iloadN X2.here hx rfl (hb hby at_100) rfl ?_
    show Sp p e below T2 (mkF m 101 #[.val (.int p0), .val (.int p1), .val (.int p2), .val (.int ((p0 &&& (2147483647 : Int32)) % (5 : Int32))), .val (.int (p1 &&& (3 : Int32))), .val (.int z5), .val (.ref w_AES_128_GCM), .val (.int (1 : Int32)), .unset, .unset] [(.int ((p0 &&& (2147483647 : Int32)) % (5 : Int32)))]) _
    refine XS.iconst X2.here hx rfl (hb hby at_101) ?_
    show Sp p e below T2 (mkF m 102 #[.val (.int p0), .val (.int p1), .val (.int p2), .val (.int ((p0 &&& (2147483647 : Int32)) % (5 : Int32))), .val (.int (p1 &&& (3 : Int32))), .val (.int z5), .val (.ref w_AES_128_GCM), .val (.int (1 : Int32)), .unset, .unset] [(.int (4 : Int32)), (.int ((p0 &&& (2147483647 : Int32)) % (5 : Int32)))]) _
    refine XS.icmpYes X2.here hx rfl (pc0 := 102) (pc' := 109) rfl (hb hby at_102) rfl (feq (by rw [hc2]; decide : ¬ (((p0 &&& (2147483647 : Int32)) % (5 : Int32)) = (4 : Int32)))).2 (by decide) (by decide) ?_
    show Sp p e below T2 (mkF m 109 #[.val (.int p0), .val (.int p1), .val (.int p2), .val (.int ((p0 &&& (2147483647 : Int32)) % (5 : Int32))), .val (.int (p1 &&& (3 : Int32))), .val (.int z5), .val (.ref w_AES_128_GCM), .val (.int (1 : Int32)), .unset, .unset] []) _
    refine XS.iconst X2.here hx rfl (hb hby at_109) ?_
    show Sp p e below T2 (mkF m 110 #[.val (.int p0), .val (.int p1), .val (.int p2), .val (.int ((p0 &&& (2147483647 : Int32)) % (5 : Int32))), .val (.int (p1 &&& (3 : Int32))), .val (.int z5), .val (.ref w_AES_128_GCM), .val (.int (1 : Int32)), .unset, .unset] [(.int (0 : Int32))]) _
    refine XS.istore X2.here hx rfl (hb hby at_110) rfl (l' := #[.val (.int p0), .val (.int p1), .val (.int p2), .val (.int ((p0 &&& (2147483647 : Int32)) % (5 : Int32))), .val (.int (p1 &&& (3 : Int32))), .val (.int z5), .val (.ref w_AES_128_GCM), .val (.int (1 : Int32)), .val (.int (0 : Int32)), .unset]) rfl ?_
    show Sp p e below T2 (mkF m 112 #[.val (.int p0), .val (.int p1), .val (.int p2), .val (.int ((p0 &&& (2147483647 : Int32)) % (5 : Int32))), .val (.int (p1 &&& (3 : Int32))), .val (.int z5), .val (.ref w_AES_128_GCM), .val (.int (1 : Int32)), .val (.int (0 : Int32)), .unset] []) _
    refine XS.iload X2.here hx rfl (hb hby at_112) rfl ?_
    show Sp p e below T2 (mkF m 114 #[.val (.int p0), .val (.int p1), .val (.int p2), .val (.int ((p0 &&& (2147483647 : Int32)) % (5 : Int32))), .val (.int (p1 &&& (3 : Int32))), .val (.int z5), .val (.ref w_AES_128_GCM), .val (.int (1 : Int32)), .val (.int (0 : Int32)), .unset] [(.int z5)]) _
    refine XS.bipush X2.here hx rfl (hb hby at_114) ?_
    show Sp p e below T2 (mkF m 116 #[.val (.int p0), .val (.int p1), .val (.int p2), .val (.int ((p0 &&& (2147483647 : Int32)) % (5 : Int32))), .val (.int (p1 &&& (3 : Int32))), .val (.int z5), .val (.ref w_AES_128_GCM), .val (.int (1 : Int32)), .val (.int (0 : Int32)), .unset] [(.int (16 : Int32)), (.int z5)]) _
    refine XS.icmpNo X2.here hx rfl (hb hby at_116) rfl (teq hc3).2 ?_
    show Sp p e below T2 (mkF m 119 #[.val (.int p0), .val (.int p1), .val (.int p2), .val (.int ((p0 &&& (2147483647 : Int32)) % (5 : Int32))), .val (.int (p1 &&& (3 : Int32))), .val (.int z5), .val (.ref w_AES_128_GCM), .val (.int (1 : Int32)), .val (.int (0 : Int32)), .unset] []) _
    refine XS.iload X2.here hx rfl (hb hby at_119) rfl ?_
    show Sp p e below T2 (mkF m 121 #[.val (.int p0), .val (.int p1), .val (.int p2), .val (.int ((p0 &&& (2147483647 : Int32)) % (5 : Int32))), .val (.int (p1 &&& (3 : Int32))), .val (.int z5), .val (.ref w_AES_128_GCM), .val (.int (1 : Int32)), .val (.int (0 : Int32)), .unset] [(.int (1 : Int32))]) _
    refine XS.ifYes X2.here hx rfl (pc0 := 121) (pc' := 136) rfl (hb hby at_121) rfl ((if0 _ _).trans (feq (by decide : ¬ ((1 : Int32) = (0 : Int32)))).2) (by decide) (by decide) ?_
    show Sp p e below T2 (mkF m 136 #[.val (.int p0), .val (.int p1), .val (.int p2), .val (.int ((p0 &&& (2147483647 : Int32)) % (5 : Int32))), .val (.int (p1 &&& (3 : Int32))), .val (.int z5), .val (.ref w_AES_128_GCM), .val (.int (1 : Int32)), .val (.int (0 : Int32)), .unset] []) _
    refine XS.iconst X2.here hx rfl (hb hby at_136) ?_
    show Sp p e below T2 (mkF m 137 #[.val (.int p0), .val (.int p1), .val (.int p2), .val (.int ((p0 &&& (2147483647 : Int32)) % (5 : Int32))), .val (.int (p1 &&& (3 : Int32))), .val (.int z5), .val (.ref w_AES_128_GCM), .val (.int (1 : Int32)), .val (.int (0 : Int32)), .unset] [(.int (1 : Int32))]) _
    refine XS.goto X2.here hx rfl (pc0 := 137) (pc' := 141) rfl (hb hby at_137) (by decide) (by decide) ?_
    show Sp p e below T2 (mkF m 141 #[.val (.int p0), .val (.int p1), .val (.int p2), .val (.int ((p0 &&& (2147483647 : Int32)) % (5 : Int32))), .val (.int (p1 &&& (3 : Int32))), .val (.int z5), .val (.ref w_AES_128_GCM), .val (.int (1 : Int32)), .val (.int (0 : Int32)), .unset] [(.int (1 : Int32))]) _
    refine XS.istore X2.here hx rfl (hb hby at_141) rfl (l' := #[.val (.int p0), .val (.int p1), .val (.int p2), .val (.int ((p0 &&& (2147483647 : Int32)) % (5 : Int32))), .val (.int (p1 &&& (3 : Int32))), .val (.int z5), .val (.ref w_AES_128_GCM), .val (.int (1 : Int32)), .val (.int (0 : Int32)), .val (.int (1 : Int32))]) rfl ?_
    show Sp p e below T2 (mkF m 143 #[.val (.int p0), .val (.int p1), .val (.int p2), .val (.int ((p0 &&& (2147483647 : Int32)) % (5 : Int32))), .val (.int (p1 &&& (3 : Int32))), .val (.int z5), .val (.ref w_AES_128_GCM), .val (.int (1 : Int32)), .val (.int (0 : Int32)), .val (.int (1 : Int32))] []) _
    refine XS.aload X2.here hx rfl (hb hby at_143) rfl rfl ?_
    show Sp p e below T2 (mkF m 145 #[.val (.int p0), .val (.int p1), .val (.int p2), .val (.int ((p0 &&& (2147483647 : Int32)) % (5 : Int32))), .val (.int (p1 &&& (3 : Int32))), .val (.int z5), .val (.ref w_AES_128_GCM), .val (.int (1 : Int32)), .val (.int (0 : Int32)), .val (.int (1 : Int32))] [(.ref w_AES_128_GCM)]) _
    refine XS.iload X2.here hx rfl (hb hby at_145) rfl ?_
    show Sp p e below T2 (mkF m 147 #[.val (.int p0), .val (.int p1), .val (.int p2), .val (.int ((p0 &&& (2147483647 : Int32)) % (5 : Int32))), .val (.int (p1 &&& (3 : Int32))), .val (.int z5), .val (.ref w_AES_128_GCM), .val (.int (1 : Int32)), .val (.int (0 : Int32)), .val (.int (1 : Int32))] [(.int z5), (.ref w_AES_128_GCM)]) _
    refine st3.trans ?_
    show Sp p e below T3 (mkF m 150 #[.val (.int p0), .val (.int p1), .val (.int p2), .val (.int ((p0 &&& (2147483647 : Int32)) % (5 : Int32))), .val (.int (p1 &&& (3 : Int32))), .val (.int z5), .val (.ref w_AES_128_GCM), .val (.int (1 : Int32)), .val (.int (0 : Int32)), .val (.int (1 : Int32))] [(.int (1 : Int32))]) _
    refine XS.iload X3.here hx rfl (hb hby at_150) rfl ?_
    show Sp p e below T3 (mkF m 152 #[.val (.int p0), .val (.int p1), .val (.int p2), .val (.int ((p0 &&& (2147483647 : Int32)) % (5 : Int32))), .val (.int (p1 &&& (3 : Int32))), .val (.int z5), .val (.ref w_AES_128_GCM), .val (.int (1 : Int32)), .val (.int (0 : Int32)), .val (.int (1 : Int32))] [(.int (1 : Int32)), (.int (1 : Int32))]) _
    refine XS.icmpNo X3.here hx rfl (hb hby at_152) rfl (teq (by decide : (1 : Int32) = (1 : Int32))).2 ?_
    show Sp p e below T3 (mkF m 155 #[.val (.int p0), .val (.int p1), .val (.int p2), .val (.int ((p0 &&& (2147483647 : Int32)) % (5 : Int32))), .val (.int (p1 &&& (3 : Int32))), .val (.int z5), .val (.ref w_AES_128_GCM), .val (.int (1 : Int32)), .val (.int (0 : Int32)), .val (.int (1 : Int32))] []) _
    refine XS.iconst X3.here hx rfl (hb hby at_155) ?_
    show Sp p e below T3 (mkF m 156 #[.val (.int p0), .val (.int p1), .val (.int p2), .val (.int ((p0 &&& (2147483647 : Int32)) % (5 : Int32))), .val (.int (p1 &&& (3 : Int32))), .val (.int z5), .val (.ref w_AES_128_GCM), .val (.int (1 : Int32)), .val (.int (0 : Int32)), .val (.int (1 : Int32))] [(.int (1 : Int32))]) _
    refine XS.goto X3.here hx rfl (pc0 := 156) (pc' := 160) rfl (hb hby at_156) (by decide) (by decide) ?_
    show Sp p e below T3 (mkF m 160 #[.val (.int p0), .val (.int p1), .val (.int p2), .val (.int ((p0 &&& (2147483647 : Int32)) % (5 : Int32))), .val (.int (p1 &&& (3 : Int32))), .val (.int z5), .val (.ref w_AES_128_GCM), .val (.int (1 : Int32)), .val (.int (0 : Int32)), .val (.int (1 : Int32))] [(.int (1 : Int32))]) _
    exact retN X3 hx (t := .boolean) Bd.returns (by simp) (hb hby at_160) hr
  · skip
    exact ⟨rfl, N3⟩
theorem d1_8 : decode method_2_code 8 = .ok (.iload_n 0, 1) := by decide +kernel
theorem d1_9 : decode method_2_code 9 = .ok (.iconst 1, 1) := by decide +kernel
theorem d1_10 : decode method_2_code 10 = .ok (.if_icmp .ne 7, 3) := by decide +kernel
theorem d1_13 : decode method_2_code 13 = .ok (.getstatic 13, 3) := by decide +kernel
theorem d1_16 : decode method_2_code 16 = .ok (.areturn, 1) := by decide +kernel
def Q4 (Z : State) (w_AES_128_GCM : Addr) (w_AES_256_GCM : Addr) (w_AES_CBC_PKCS5PADDING : Addr) (w_AES_128_CBC : Addr) (w_AES_GCM_NOPADDING : Addr) (kl_AES_128_GCM : Addr) (kl_AES_256_GCM : Addr) (kl_AES_CBC_PKCS5PADDING : Addr) (kl_AES_128_CBC : Addr) (kl_AES_GCM_NOPADDING : Addr) (k_kl_AES_128_GCM : ClassId) (k_kl_AES_256_GCM : ClassId) (k_kl_AES_CBC_PKCS5PADDING : ClassId) (k_kl_AES_128_CBC : ClassId) (k_kl_AES_GCM_NOPADDING : ClassId) (p1 : Int32) (h0 : Heap) (n0 : Nat) (v : Option Value) (h : Heap) (L : List Loc) : Prop := v = some (.ref w_AES_256_GCM) ∧ Fr n0 L ∧ h = h0
set_option maxRecDepth 65536 in
set_option maxHeartbeats 40000000 in
theorem rm4 (l : Launch) (Z : State) (a0 : Array Value) (hw : ∀ d ∈ tables_1, d.before a0 Z = true) (ws : List Jvm.Cond) (w_AES_128_GCM w_AES_256_GCM w_AES_CBC_PKCS5PADDING w_AES_128_CBC w_AES_GCM_NOPADDING kl_AES_128_GCM kl_AES_256_GCM kl_AES_CBC_PKCS5PADDING kl_AES_128_CBC kl_AES_GCM_NOPADDING : Addr) (k_kl_AES_128_GCM : ClassId) (k_kl_AES_256_GCM : ClassId) (k_kl_AES_CBC_PKCS5PADDING : ClassId) (k_kl_AES_128_CBC : ClassId) (k_kl_AES_GCM_NOPADDING : ClassId) (hp : Perm Z w_AES_128_GCM w_AES_256_GCM w_AES_CBC_PKCS5PADDING w_AES_128_CBC w_AES_GCM_NOPADDING kl_AES_128_GCM kl_AES_256_GCM kl_AES_CBC_PKCS5PADDING kl_AES_128_CBC kl_AES_GCM_NOPADDING k_kl_AES_128_GCM k_kl_AES_256_GCM k_kl_AES_CBC_PKCS5PADDING k_kl_AES_128_CBC k_kl_AES_GCM_NOPADDING) (p1 : Int32) (h0 : Heap) (n0 : Nat) (O0 : Old Z n0 h0) (hc1 : ¬ (p1 = (0 : Int32))) (hc2 : p1 = (1 : Int32)) :
    MetFree l y0 (head1 (Jvm.Cond.code y0 method_2_code 1 (some (.object "com/example/cloakfield/cloakfield/crypto/EncryptionAlgorithm")) :: ws) ({ frames := 0, cells := 0, slots := 0, locals := 0 } : Room)) (fun a U => a = #[(.int p1)] ∧ Z.Warmed39 U.vm ∧ U.heap = h0) (fun _ _ _ _ _ => True) (fun _ U o U' => ∃ v L, o = .returned v ∧ Q4 Z w_AES_128_GCM w_AES_256_GCM w_AES_CBC_PKCS5PADDING w_AES_128_CBC w_AES_GCM_NOPADDING kl_AES_128_GCM kl_AES_256_GCM kl_AES_CBC_PKCS5PADDING kl_AES_128_CBC kl_AES_GCM_NOPADDING k_kl_AES_128_GCM k_kl_AES_256_GCM k_kl_AES_CBC_PKCS5PADDING k_kl_AES_128_CBC k_kl_AES_GCM_NOPADDING p1 h0 n0 v U'.heap L ∧ FrameEnd U o U' L ({ frames := 0, cells := 0, slots := 0, locals := 0 } : Room).cells ({ frames := 0, cells := 0, slots := 0, locals := 0 } : Room).slots) := by
  refine MetFree.of_bodySF (plainFor_of_name pn_1) hisR ?_
  intro p e s m args below meth c s₁ Bd hml0 hP hK
  obtain ⟨rfl, hZ, hh⟩ := hP
  have hx := Bd.exec
  have hby := Bd.bytes
  have hml : c.maxLocals = 1 := hml0
  have hown : s.vm.findClass "com/example/cloakfield/cloakfield/crypto/EncryptionAlgorithmAcceptsKeyLengthPinLaw" = some m.cls := findClass_of_methodNamed Bd.named
  have hnm := (name_of_methodNamed Bd.named Bd.method).1
  have X0 : Stand p l e ({ frames := 0, cells := 0, slots := 0, locals := 0 } : Room) s m #[(.int p1)] below meth c s₁ [] 0 0 := Stand.of_body Bd
  have e0 : s₁.heap = h0 := by rw [← hh, Bd.state]; rfl
  have N0 := Fr.nil n0
  have hp' := hp
  obtain ⟨S_w_AES_128_GCM, E_w_AES_128_GCM, S_w_AES_256_GCM, E_w_AES_256_GCM, S_w_AES_CBC_PKCS5PADDING, E_w_AES_CBC_PKCS5PADDING, S_w_AES_128_CBC, E_w_AES_128_CBC, S_w_AES_GCM_NOPADDING, E_w_AES_GCM_NOPADDING, F_keyLengths_w_AES_128_GCM, V_kl_AES_128_GCM, F_keyLengths_w_AES_256_GCM, V_kl_AES_256_GCM, F_keyLengths_w_AES_CBC_PKCS5PADDING, V_kl_AES_CBC_PKCS5PADDING, F_keyLengths_w_AES_128_CBC, V_kl_AES_128_CBC, F_keyLengths_w_AES_GCM_NOPADDING, V_kl_AES_GCM_NOPADDING⟩ := hp'
  have pre0 : ∀ t, Steps p.tables e below (s₁.setTop (mkF m 0 #[.val (.int p1)] [])) t → Steps p.tables e below (s₁.setTop (entryFrame m #[(.int p1)] 1)) t := fun t k => castTop (ef_1_0 m p1) k
  obtain ⟨T1, X1, e1, st1⟩ := getS2 X0 hx hZ hown (host := "") (Or.inl (hw _ (List.mem_of_getElem? (i := 15) rfl))) Via.refl e0 (S_w_AES_256_GCM.ext O0.2) (g := (mkF m 13 #[.val (.int p1)] [])) rfl (hb hby d1_13)
  obtain ⟨fs, hr, hrun, hended, hW, hsame⟩ := X1.leave (v := some (.ref w_AES_256_GCM)) (fun h => by rw [Bd.returns] at h; cases h)
  refine ⟨_, _, pre0 _ ?_, hrun, hended, _, _, rfl, ?_, ⟨_, rfl⟩, hW, hsame.mono (by decide) (by decide)⟩
  · show Sp p e below s₁ (mkF m 0 #[.val (.int p1)] []) _
    refine XS.iloadN X0.here hx rfl (hb hby d1_0) rfl ?_
    show Sp p e below s₁ (mkF m 1 #[.val (.int p1)] [(.int p1)]) _
    refine XS.ifYes X0.here hx rfl (pc0 := 1) (pc' := 8) rfl (hb hby d1_1) rfl ((if0 _ _).trans (feq hc1).2) (by decide) (by decide) ?_
    show Sp p e below s₁ (mkF m 8 #[.val (.int p1)] []) _
    refine XS.iloadN X0.here hx rfl (hb hby d1_8) rfl ?_
    show Sp p e below s₁ (mkF m 9 #[.val (.int p1)] [(.int p1)]) _
    refine XS.iconst X0.here hx rfl (hb hby d1_9) ?_
    show Sp p e below s₁ (mkF m 10 #[.val (.int p1)] [(.int (1 : Int32)), (.int p1)]) _
    refine XS.icmpNo X0.here hx rfl (hb hby d1_10) rfl (teq hc2).2 ?_
    show Sp p e below s₁ (mkF m 13 #[.val (.int p1)] []) _
    refine st1 _ ?_
    show Sp p e below T1 (mkF m 16 #[.val (.int p1)] [(.ref w_AES_256_GCM)]) _
    jvm_step X1.here [X1.here.top, hx, (hb hby d1_16), X1.method', Bd.returns, Value.isRef, FieldType.isReference]
    first | (intro acts; rw [hr _ acts rfl rfl rfl]) | rw [hr _ _ rfl rfl rfl]
    exact Steps.refl _
  · show Q4 Z w_AES_128_GCM w_AES_256_GCM w_AES_CBC_PKCS5PADDING w_AES_128_CBC w_AES_GCM_NOPADDING kl_AES_128_GCM kl_AES_256_GCM kl_AES_CBC_PKCS5PADDING kl_AES_128_CBC kl_AES_GCM_NOPADDING k_kl_AES_128_GCM k_kl_AES_256_GCM k_kl_AES_CBC_PKCS5PADDING k_kl_AES_128_CBC k_kl_AES_GCM_NOPADDING p1 h0 n0 _ T1.heap _
    rw [e1]
    exact ⟨rfl, N0, rfl⟩
theorem d2_31 : decode prog_31_method_7_code 31 = .ok (.iinc 4 1, 3) := by decide +kernel
theorem d2_34 : decode prog_31_method_7_code 34 = .ok (.goto (-23), 3) := by decide +kernel
theorem d2_37 : decode prog_31_method_7_code 37 = .ok (.iconst 0, 1) := by decide +kernel
theorem d2_38 : decode prog_31_method_7_code 38 = .ok (.ireturn, 1) := by decide +kernel
def Q5 (Z : State) (w_AES_128_GCM : Addr) (w_AES_256_GCM : Addr) (w_AES_CBC_PKCS5PADDING : Addr) (w_AES_128_CBC : Addr) (w_AES_GCM_NOPADDING : Addr) (kl_AES_128_GCM : Addr) (kl_AES_256_GCM : Addr) (kl_AES_CBC_PKCS5PADDING : Addr) (kl_AES_128_CBC : Addr) (kl_AES_GCM_NOPADDING : Addr) (k_kl_AES_128_GCM : ClassId) (k_kl_AES_256_GCM : ClassId) (k_kl_AES_CBC_PKCS5PADDING : ClassId) (k_kl_AES_128_CBC : ClassId) (k_kl_AES_GCM_NOPADDING : ClassId) (p1 : Int32) (h0 : Heap) (n0 : Nat) (v : Option Value) (h : Heap) (L : List Loc) : Prop := v = some (.int (0 : Int32)) ∧ Fr n0 L ∧ h = h0
set_option maxRecDepth 65536 in
set_option maxHeartbeats 40000000 in
theorem rm5 (l : Launch) (Z : State) (a0 : Array Value) (hw : ∀ d ∈ tables_1, d.before a0 Z = true) (ws : List Jvm.Cond) (w_AES_128_GCM w_AES_256_GCM w_AES_CBC_PKCS5PADDING w_AES_128_CBC w_AES_GCM_NOPADDING kl_AES_128_GCM kl_AES_256_GCM kl_AES_CBC_PKCS5PADDING kl_AES_128_CBC kl_AES_GCM_NOPADDING : Addr) (k_kl_AES_128_GCM : ClassId) (k_kl_AES_256_GCM : ClassId) (k_kl_AES_CBC_PKCS5PADDING : ClassId) (k_kl_AES_128_CBC : ClassId) (k_kl_AES_GCM_NOPADDING : ClassId) (hp : Perm Z w_AES_128_GCM w_AES_256_GCM w_AES_CBC_PKCS5PADDING w_AES_128_CBC w_AES_GCM_NOPADDING kl_AES_128_GCM kl_AES_256_GCM kl_AES_CBC_PKCS5PADDING kl_AES_128_CBC kl_AES_GCM_NOPADDING k_kl_AES_128_GCM k_kl_AES_256_GCM k_kl_AES_CBC_PKCS5PADDING k_kl_AES_128_CBC k_kl_AES_GCM_NOPADDING) (p1 : Int32) (h0 : Heap) (n0 : Nat) (O0 : Old Z n0 h0) (hc1 : ¬ (p1 = (32 : Int32))) :
    MetFree l y1 (head1 (Jvm.Cond.code y1 prog_31_method_7_code 6 (some .boolean) :: ws) ({ frames := 0, cells := 0, slots := 0, locals := 0 } : Room)) (fun a U => a = #[(.ref w_AES_256_GCM), (.int p1)] ∧ Z.Warmed39 U.vm ∧ U.heap = h0) (fun _ _ _ _ _ => True) (fun _ U o U' => ∃ v L, o = .returned v ∧ Q5 Z w_AES_128_GCM w_AES_256_GCM w_AES_CBC_PKCS5PADDING w_AES_128_CBC w_AES_GCM_NOPADDING kl_AES_128_GCM kl_AES_256_GCM kl_AES_CBC_PKCS5PADDING kl_AES_128_CBC kl_AES_GCM_NOPADDING k_kl_AES_128_GCM k_kl_AES_256_GCM k_kl_AES_CBC_PKCS5PADDING k_kl_AES_128_CBC k_kl_AES_GCM_NOPADDING p1 h0 n0 v U'.heap L ∧ FrameEnd U o U' L ({ frames := 0, cells := 0, slots := 0, locals := 0 } : Room).cells ({ frames := 0, cells := 0, slots := 0, locals := 0 } : Room).slots) := by
  refine MetFree.of_bodySF (plainFor_of_name pn_2) hisR ?_
  intro p e s m args below meth c s₁ Bd hml0 hP hK
  obtain ⟨rfl, hZ, hh⟩ := hP
  have hx := Bd.exec
  have hby := Bd.bytes
  have hml : c.maxLocals = 6 := hml0
  have hown : s.vm.findClass "com/example/cloakfield/cloakfield/crypto/EncryptionAlgorithm" = some m.cls := findClass_of_methodNamed Bd.named
  have hnm := (name_of_methodNamed Bd.named Bd.method).1
  have X0 : Stand p l e ({ frames := 0, cells := 0, slots := 0, locals := 0 } : Room) s m #[(.ref w_AES_256_GCM), (.int p1)] below meth c s₁ [] 0 0 := Stand.of_body Bd
  have e0 : s₁.heap = h0 := by rw [← hh, Bd.state]; rfl
  have N0 := Fr.nil n0
  have hp' := hp
  obtain ⟨S_w_AES_128_GCM, E_w_AES_128_GCM, S_w_AES_256_GCM, E_w_AES_256_GCM, S_w_AES_CBC_PKCS5PADDING, E_w_AES_CBC_PKCS5PADDING, S_w_AES_128_CBC, E_w_AES_128_CBC, S_w_AES_GCM_NOPADDING, E_w_AES_GCM_NOPADDING, F_keyLengths_w_AES_128_GCM, V_kl_AES_128_GCM, F_keyLengths_w_AES_256_GCM, V_kl_AES_256_GCM, F_keyLengths_w_AES_CBC_PKCS5PADDING, V_kl_AES_CBC_PKCS5PADDING, F_keyLengths_w_AES_128_CBC, V_kl_AES_128_CBC, F_keyLengths_w_AES_GCM_NOPADDING, V_kl_AES_GCM_NOPADDING⟩ := hp'
  have pre0 : ∀ t, Steps p.tables e below (s₁.setTop (mkF m 0 #[.val (.ref w_AES_256_GCM), .val (.int p1), .unset, .unset, .unset, .unset] [])) t → Steps p.tables e below (s₁.setTop (entryFrame m #[(.ref w_AES_256_GCM), (.int p1)] 6)) t := fun t k => castTop (ef_2_0 m w_AES_256_GCM p1) k
  obtain ⟨T1, X1, e1, st1⟩ := getF X0 hx hZ hown (host := "") (Or.inl (hw _ (List.mem_of_getElem? (i := 13) rfl))) Via.refl e0 (F_keyLengths_w_AES_256_GCM.ext O0.2) (g := (mkF m 1 #[.val (.ref w_AES_256_GCM), .val (.int p1), .unset, .unset, .unset, .unset] [(.ref w_AES_256_GCM)])) rfl rfl (hb hby d2_1)
  obtain ⟨cl2, Ar2, -, S2, Nn2, -, -⟩ := (V_kl_AES_256_GCM.ext O0.2)
  obtain ⟨cl3, Ar3, -, S3, -, H3, -⟩ := (V_kl_AES_256_GCM.ext O0.2)
  have hin3 : ¬ ((0 : Int32) < 0 ∨ cl3.slots.size ≤ ((0 : Int32)).toNatClampNeg) := inb_of S3 ⟨by decide, by decide⟩
  have hat3 : cl3.slots[((0 : Int32)).toNatClampNeg]? = some (.int (32 : Int32)) := H3.at hin3 rfl
  obtain ⟨fs, hr, hrun, hended, hW, hsame⟩ := X1.leave (v := some (.int (0 : Int32))) (fun h => by rw [Bd.returns] at h; cases h)
  refine ⟨_, _, pre0 _ ?_, hrun, hended, _, _, rfl, ?_, ⟨_, rfl⟩, hW, hsame.mono (by decide) (by decide)⟩
  · show Sp p e below s₁ (mkF m 0 #[.val (.ref w_AES_256_GCM), .val (.int p1), .unset, .unset, .unset, .unset] []) _
    refine XS.aloadN X0.here hx rfl (hb hby d2_0) rfl rfl ?_
    show Sp p e below s₁ (mkF m 1 #[.val (.ref w_AES_256_GCM), .val (.int p1), .unset, .unset, .unset, .unset] [(.ref w_AES_256_GCM)]) _
    refine st1 _ ?_
    show Sp p e below T1 (mkF m 4 #[.val (.ref w_AES_256_GCM), .val (.int p1), .unset, .unset, .unset, .unset] [(.ref kl_AES_256_GCM)]) _
    refine XS.astoreN X1.here hx rfl (hb hby d2_4) rfl rfl (l' := #[.val (.ref w_AES_256_GCM), .val (.int p1), .val (.ref kl_AES_256_GCM), .unset, .unset, .unset]) rfl ?_
    show Sp p e below T1 (mkF m 5 #[.val (.ref w_AES_256_GCM), .val (.int p1), .val (.ref kl_AES_256_GCM), .unset, .unset, .unset] []) _
    refine XS.aloadN X1.here hx rfl (hb hby d2_5) rfl rfl ?_
    show Sp p e below T1 (mkF m 6 #[.val (.ref w_AES_256_GCM), .val (.int p1), .val (.ref kl_AES_256_GCM), .unset, .unset, .unset] [(.ref kl_AES_256_GCM)]) _
    refine X1.arraylength hx (by rw [e1]; exact Ar2.1) (State.isArrayOf_alike hZ.alike Ar2.2.1) (g := (mkF m 6 #[.val (.ref w_AES_256_GCM), .val (.int p1), .val (.ref kl_AES_256_GCM), .unset, .unset, .unset] [(.ref kl_AES_256_GCM)])) rfl rfl (hb hby d2_6) _ ?_
    rw [len_of S2 Nn2]
    show Sp p e below T1 (mkF m 7 #[.val (.ref w_AES_256_GCM), .val (.int p1), .val (.ref kl_AES_256_GCM), .unset, .unset, .unset] [(.int (1 : Int32))]) _
    refine XS.istoreN X1.here hx rfl (hb hby d2_7) rfl (l' := #[.val (.ref w_AES_256_GCM), .val (.int p1), .val (.ref kl_AES_256_GCM), .val (.int (1 : Int32)), .unset, .unset]) rfl ?_
    show Sp p e below T1 (mkF m 8 #[.val (.ref w_AES_256_GCM), .val (.int p1), .val (.ref kl_AES_256_GCM), .val (.int (1 : Int32)), .unset, .unset] []) _
    refine XS.iconst X1.here hx rfl (hb hby d2_8) ?_
    show Sp p e below T1 (mkF m 9 #[.val (.ref w_AES_256_GCM), .val (.int p1), .val (.ref kl_AES_256_GCM), .val (.int (1 : Int32)), .unset, .unset] [(.int (0 : Int32))]) _
    refine XS.istore X1.here hx rfl (hb hby d2_9) rfl (l' := #[.val (.ref w_AES_256_GCM), .val (.int p1), .val (.ref kl_AES_256_GCM), .val (.int (1 : Int32)), .val (.int (0 : Int32)), .unset]) rfl ?_
    show Sp p e below T1 (mkF m 11 #[.val (.ref w_AES_256_GCM), .val (.int p1), .val (.ref kl_AES_256_GCM), .val (.int (1 : Int32)), .val (.int (0 : Int32)), .unset] []) _
    refine XS.iload X1.here hx rfl (hb hby d2_11) rfl ?_
    show Sp p e below T1 (mkF m 13 #[.val (.ref w_AES_256_GCM), .val (.int p1), .val (.ref kl_AES_256_GCM), .val (.int (1 : Int32)), .val (.int (0 : Int32)), .unset] [(.int (0 : Int32))]) _
    refine XS.iloadN X1.here hx rfl (hb hby d2_13) rfl ?_
    show Sp p e below T1 (mkF m 14 #[.val (.ref w_AES_256_GCM), .val (.int p1), .val (.ref kl_AES_256_GCM), .val (.int (1 : Int32)), .val (.int (0 : Int32)), .unset] [(.int (1 : Int32)), (.int (0 : Int32))]) _
    refine XS.icmpNo X1.here hx rfl (hb hby d2_14) rfl (tlt (by decide : (0 : Int32) < (1 : Int32))).2.1 ?_
    show Sp p e below T1 (mkF m 17 #[.val (.ref w_AES_256_GCM), .val (.int p1), .val (.ref kl_AES_256_GCM), .val (.int (1 : Int32)), .val (.int (0 : Int32)), .unset] []) _
    refine XS.aloadN X1.here hx rfl (hb hby d2_17) rfl rfl ?_
    show Sp p e below T1 (mkF m 18 #[.val (.ref w_AES_256_GCM), .val (.int p1), .val (.ref kl_AES_256_GCM), .val (.int (1 : Int32)), .val (.int (0 : Int32)), .unset] [(.ref kl_AES_256_GCM)]) _
    refine XS.iload X1.here hx rfl (hb hby d2_18) rfl ?_
    show Sp p e below T1 (mkF m 20 #[.val (.ref w_AES_256_GCM), .val (.int p1), .val (.ref kl_AES_256_GCM), .val (.int (1 : Int32)), .val (.int (0 : Int32)), .unset] [(.int (0 : Int32)), (.ref kl_AES_256_GCM)]) _
    refine X1.iaload hx (j := (0 : Int32)) (v := (.int (32 : Int32))) (by rw [e1]; exact Ar3.1) (State.isArrayOf_alike hZ.alike Ar3.2.1) Ar3.2.2 hin3 hat3 (g := (mkF m 20 #[.val (.ref w_AES_256_GCM), .val (.int p1), .val (.ref kl_AES_256_GCM), .val (.int (1 : Int32)), .val (.int (0 : Int32)), .unset] [(.int (0 : Int32)), (.ref kl_AES_256_GCM)])) rfl rfl (hb hby d2_20) _ ?_
    show Sp p e below T1 (mkF m 21 #[.val (.ref w_AES_256_GCM), .val (.int p1), .val (.ref kl_AES_256_GCM), .val (.int (1 : Int32)), .val (.int (0 : Int32)), .unset] [(.int (32 : Int32))]) _
    refine XS.istore X1.here hx rfl (hb hby d2_21) rfl (l' := #[.val (.ref w_AES_256_GCM), .val (.int p1), .val (.ref kl_AES_256_GCM), .val (.int (1 : Int32)), .val (.int (0 : Int32)), .val (.int (32 : Int32))]) rfl ?_
    show Sp p e below T1 (mkF m 23 #[.val (.ref w_AES_256_GCM), .val (.int p1), .val (.ref kl_AES_256_GCM), .val (.int (1 : Int32)), .val (.int (0 : Int32)), .val (.int (32 : Int32))] []) _
    refine XS.iload X1.here hx rfl (hb hby d2_23) rfl ?_
    show Sp p e below T1 (mkF m 25 #[.val (.ref w_AES_256_GCM), .val (.int p1), .val (.ref kl_AES_256_GCM), .val (.int (1 : Int32)), .val (.int (0 : Int32)), .val (.int (32 : Int32))] [(.int (32 : Int32))]) _
    refine XS.iloadN X1.here hx rfl (hb hby d2_25) rfl ?_
    show Sp p e below T1 (mkF m 26 #[.val (.ref w_AES_256_GCM), .val (.int p1), .val (.ref kl_AES_256_GCM), .val (.int (1 : Int32)), .val (.int (0 : Int32)), .val (.int (32 : Int32))] [(.int p1), (.int (32 : Int32))]) _
    refine XS.icmpYes X1.here hx rfl (pc0 := 26) (pc' := 31) rfl (hb hby d2_26) rfl (feq (fun q => hc1 (Eq.symm q) : ¬ ((32 : Int32) = p1))).2 (by decide) (by decide) ?_
    show Sp p e below T1 (mkF m 31 #[.val (.ref w_AES_256_GCM), .val (.int p1), .val (.ref kl_AES_256_GCM), .val (.int (1 : Int32)), .val (.int (0 : Int32)), .val (.int (32 : Int32))] []) _
    refine XS.iinc X1.here hx rfl (hb hby d2_31) rfl (l' := #[.val (.ref w_AES_256_GCM), .val (.int p1), .val (.ref kl_AES_256_GCM), .val (.int (1 : Int32)), .val (.int ((0 : Int32) + (1 : Int32))), .val (.int (32 : Int32))]) rfl ?_
    show Sp p e below T1 (mkF m 34 #[.val (.ref w_AES_256_GCM), .val (.int p1), .val (.ref kl_AES_256_GCM), .val (.int (1 : Int32)), .val (.int ((0 : Int32) + (1 : Int32))), .val (.int (32 : Int32))] []) _
    refine XS.goto X1.here hx rfl (pc0 := 34) (pc' := 11) rfl (hb hby d2_34) (by decide) (by decide) ?_
    show Sp p e below T1 (mkF m 11 #[.val (.ref w_AES_256_GCM), .val (.int p1), .val (.ref kl_AES_256_GCM), .val (.int (1 : Int32)), .val (.int ((0 : Int32) + (1 : Int32))), .val (.int (32 : Int32))] []) _
    refine XS.iload X1.here hx rfl (hb hby d2_11) rfl ?_
    show Sp p e below T1 (mkF m 13 #[.val (.ref w_AES_256_GCM), .val (.int p1), .val (.ref kl_AES_256_GCM), .val (.int (1 : Int32)), .val (.int ((0 : Int32) + (1 : Int32))), .val (.int (32 : Int32))] [(.int ((0 : Int32) + (1 : Int32)))]) _
    refine XS.iloadN X1.here hx rfl (hb hby d2_13) rfl ?_
    show Sp p e below T1 (mkF m 14 #[.val (.ref w_AES_256_GCM), .val (.int p1), .val (.ref kl_AES_256_GCM), .val (.int (1 : Int32)), .val (.int ((0 : Int32) + (1 : Int32))), .val (.int (32 : Int32))] [(.int (1 : Int32)), (.int ((0 : Int32) + (1 : Int32)))]) _
    refine XS.icmpYes X1.here hx rfl (pc0 := 14) (pc' := 37) rfl (hb hby d2_14) rfl (flt (by decide : ¬ (((0 : Int32) + (1 : Int32)) < (1 : Int32)))).2.1 (by decide) (by decide) ?_
    show Sp p e below T1 (mkF m 37 #[.val (.ref w_AES_256_GCM), .val (.int p1), .val (.ref kl_AES_256_GCM), .val (.int (1 : Int32)), .val (.int ((0 : Int32) + (1 : Int32))), .val (.int (32 : Int32))] []) _
    refine XS.iconst X1.here hx rfl (hb hby d2_37) ?_
    show Sp p e below T1 (mkF m 38 #[.val (.ref w_AES_256_GCM), .val (.int p1), .val (.ref kl_AES_256_GCM), .val (.int (1 : Int32)), .val (.int ((0 : Int32) + (1 : Int32))), .val (.int (32 : Int32))] [(.int (0 : Int32))]) _
    exact retN X1 hx (t := .boolean) Bd.returns (by simp) (hb hby d2_38) hr
  · show Q5 Z w_AES_128_GCM w_AES_256_GCM w_AES_CBC_PKCS5PADDING w_AES_128_CBC w_AES_GCM_NOPADDING kl_AES_128_GCM kl_AES_256_GCM kl_AES_CBC_PKCS5PADDING kl_AES_128_CBC kl_AES_GCM_NOPADDING k_kl_AES_128_GCM k_kl_AES_256_GCM k_kl_AES_CBC_PKCS5PADDING k_kl_AES_128_CBC k_kl_AES_GCM_NOPADDING p1 h0 n0 _ T1.heap _
    rw [e1]
    exact ⟨rfl, N0, rfl⟩
set_option maxRecDepth 65536 in
set_option maxHeartbeats 40000000 in
theorem rm6 (l : Launch) (Z : State) (a0 : Array Value) (hw : ∀ d ∈ tables_1, d.before a0 Z = true) (ws : List Jvm.Cond) (w_AES_128_GCM w_AES_256_GCM w_AES_CBC_PKCS5PADDING w_AES_128_CBC w_AES_GCM_NOPADDING kl_AES_128_GCM kl_AES_256_GCM kl_AES_CBC_PKCS5PADDING kl_AES_128_CBC kl_AES_GCM_NOPADDING : Addr) (k_kl_AES_128_GCM : ClassId) (k_kl_AES_256_GCM : ClassId) (k_kl_AES_CBC_PKCS5PADDING : ClassId) (k_kl_AES_128_CBC : ClassId) (k_kl_AES_GCM_NOPADDING : ClassId) (hp : Perm Z w_AES_128_GCM w_AES_256_GCM w_AES_CBC_PKCS5PADDING w_AES_128_CBC w_AES_GCM_NOPADDING kl_AES_128_GCM kl_AES_256_GCM kl_AES_CBC_PKCS5PADDING kl_AES_128_CBC kl_AES_GCM_NOPADDING k_kl_AES_128_GCM k_kl_AES_256_GCM k_kl_AES_CBC_PKCS5PADDING k_kl_AES_128_CBC k_kl_AES_GCM_NOPADDING) (p0 : Int32) (p1 : Int32) (p2 : Int32) (z5 : Int32) (h0 : Heap) (n0 : Nat) (O0 : Old Z n0 h0) (hcut : Cut_0_12 p0 p1 p2 ((p0 &&& (2147483647 : Int32)) % (5 : Int32)) (p1 &&& (3 : Int32)) z5) (hc2 : ¬ (((p0 &&& (2147483647 : Int32)) % (5 : Int32)) = (0 : Int32))) (hc3 : ((p0 &&& (2147483647 : Int32)) % (5 : Int32)) = (1 : Int32)) (hc4 : z5 = (16 : Int32)) :
    MetFree l x (head1 (Jvm.Cond.code x code maxLocals ret :: ws) room_1) (fun a U => a = #[(.int p0), (.int p1), (.int p2)] ∧ Z.Warmed39 U.vm ∧ U.heap = h0) (fun _ _ _ _ _ => True) (fun _ U o U' => ∃ v L, o = .returned v ∧ (v = some (.int (1 : Int32)) ∧ Fr n0 L) ∧ FrameEnd U o U' L 0 0) := by
  refine MetFree.of_bodySF (plainFor_of_name pn_1) hisR ?_
  intro p e s m args below meth c s₁ Bd hml0 hP hK
  obtain ⟨rfl, hZ, hh⟩ := hP
  have hx := Bd.exec
  have hby := Bd.bytes
  have hml : c.maxLocals = 10 := hml0
  have hown : s.vm.findClass "com/example/cloakfield/cloakfield/crypto/EncryptionAlgorithmAcceptsKeyLengthPinLaw" = some m.cls := findClass_of_methodNamed Bd.named
  have hnm := (name_of_methodNamed Bd.named Bd.method).1
  have X0 : Stand p l e room_1 s m #[(.int p0), (.int p1), (.int p2)] below meth c s₁ [] 0 0 := Stand.of_body Bd
  have e0 : s₁.heap = h0 := by rw [← hh, Bd.state]; rfl
  have N0 := Fr.nil n0
  have hp' := hp
  obtain ⟨S_w_AES_128_GCM, E_w_AES_128_GCM, S_w_AES_256_GCM, E_w_AES_256_GCM, S_w_AES_CBC_PKCS5PADDING, E_w_AES_CBC_PKCS5PADDING, S_w_AES_128_CBC, E_w_AES_128_CBC, S_w_AES_GCM_NOPADDING, E_w_AES_GCM_NOPADDING, F_keyLengths_w_AES_128_GCM, V_kl_AES_128_GCM, F_keyLengths_w_AES_256_GCM, V_kl_AES_256_GCM, F_keyLengths_w_AES_CBC_PKCS5PADDING, V_kl_AES_CBC_PKCS5PADDING, F_keyLengths_w_AES_128_CBC, V_kl_AES_128_CBC, F_keyLengths_w_AES_GCM_NOPADDING, V_kl_AES_GCM_NOPADDING⟩ := hp'
  have pre0 : ∀ t, Steps p.tables e below (s₁.setTop (mkF m 0 #[.val (.int p0), .val (.int p1), .val (.int p2), .unset, .unset, .unset, .unset, .unset, .unset, .unset] [])) t → Steps p.tables e below (s₁.setTop (entryFrame m #[(.int p0), (.int p1), (.int p2)] maxLocals)) t := fun t k => castTop (ef_0_0 m p0 p1 p2) k
  have st1 := hcut X0 hx hZ hw hby hown
  obtain ⟨_, _, ⟨T2, L2, k2, n2⟩, -, X2, ⟨Lc2, hQ2, l2, y2, z2⟩, st2⟩ := Jvm.LawKit.callS X0 hx (y := y0) hown (mvT hZ (hw _ (List.mem_of_getElem? (i := 1) rfl))) (mvT hZ (hw _ (List.mem_of_getElem? (i := 2) rfl))) (mvT hZ (hw _ (List.mem_of_getElem? (i := 3) rfl))) (mvT hZ (hw _ (List.mem_of_getElem? (i := 4) rfl))) (by decide) (backOf (W := 0) (rm4 l Z a0 hw [] w_AES_128_GCM w_AES_256_GCM w_AES_CBC_PKCS5PADDING w_AES_128_CBC w_AES_GCM_NOPADDING kl_AES_128_GCM kl_AES_256_GCM kl_AES_CBC_PKCS5PADDING kl_AES_128_CBC kl_AES_GCM_NOPADDING k_kl_AES_128_GCM k_kl_AES_256_GCM k_kl_AES_CBC_PKCS5PADDING k_kl_AES_128_CBC k_kl_AES_GCM_NOPADDING hp ((p0 &&& (2147483647 : Int32)) % (5 : Int32)) h0 n0 O0 hc2 hc3) hZ (hw _ (List.mem_of_getElem? (i := 4) rfl)) (hw _ (List.mem_of_getElem? (i := 3) rfl)) (by decide) (by decide)) (g := (mkF m 59 #[.val (.int p0), .val (.int p1), .val (.int p2), .val (.int ((p0 &&& (2147483647 : Int32)) % (5 : Int32))), .val (.int (p1 &&& (3 : Int32))), .val (.int z5), .unset, .unset, .unset, .unset] [(.int ((p0 &&& (2147483647 : Int32)) % (5 : Int32)))])) rfl (by rw [hml]; rfl) (argsL := [(.int ((p0 &&& (2147483647 : Int32)) % (5 : Int32)))]) (rest := []) (lenOf pd_0 rfl) rfl (by show 2 * 0 + _ ≤ _; exact Nat.le_of_eq rfl) (hb hby at_59) (fun _ _ => ⟨rfl, e0, (by decide : 0 + 0 ≤ _), (by decide : 0 + 0 ≤ _)⟩)
  dsimp only [Pt.U, Pt.locs, Pt.cells, Pt.slots] at X2 l2 y2 z2 st2 hQ2
  subst l2 y2 z2
  obtain ⟨rfl, Nq2, eq2⟩ := hQ2
  have N2 := Fr.app N0 Nq2
  obtain ⟨cq3, kq3, q3a, q3b, q3c⟩ := isOf hZ eq2 (E_w_AES_256_GCM.ext O0.2)
  obtain ⟨_, _, ⟨T3, L3, k3, n3⟩, -, X3, ⟨Lc3, hQ3, l3, y3, z3⟩, st3⟩ := X2.virtualBack hx (y := y1) (z := y1) hown (mvT hZ (hw _ (List.mem_of_getElem? (i := 8) rfl))) (mvT hZ (hw _ (List.mem_of_getElem? (i := 9) rfl))) (notFace_of_selects (args := #[]) (mvT hZ (hw _ (List.mem_of_getElem? (i := 11) rfl)))) (mvT hZ (hw _ (List.mem_of_getElem? (i := 11) rfl))) (mvT hZ (hw _ (List.mem_of_getElem? (i := 10) rfl))) (by decide) (backOf (W := 0) (rm5 l Z a0 hw [] w_AES_128_GCM w_AES_256_GCM w_AES_CBC_PKCS5PADDING w_AES_128_CBC w_AES_GCM_NOPADDING kl_AES_128_GCM kl_AES_256_GCM kl_AES_CBC_PKCS5PADDING kl_AES_128_CBC kl_AES_GCM_NOPADDING k_kl_AES_128_GCM k_kl_AES_256_GCM k_kl_AES_CBC_PKCS5PADDING k_kl_AES_128_CBC k_kl_AES_GCM_NOPADDING hp z5 h0 n0 O0 (by rw [hc4]; decide : ¬ (z5 = (32 : Int32)))) hZ (hw _ (List.mem_of_getElem? (i := 12) rfl)) (hw _ (List.mem_of_getElem? (i := 6) rfl)) (by decide) (by decide)) q3a q3c (g := (mkF m 147 #[.val (.int p0), .val (.int p1), .val (.int p2), .val (.int ((p0 &&& (2147483647 : Int32)) % (5 : Int32))), .val (.int (p1 &&& (3 : Int32))), .val (.int z5), .val (.ref w_AES_256_GCM), .val (.int (0 : Int32)), .val (.int (1 : Int32)), .val (.int (0 : Int32))] [(.int z5), (.ref w_AES_256_GCM)])) rfl (by rw [hml]; rfl) (Steps.refl _) (argsL := [(.int z5)]) (rest := []) (lenOf pd_1 rfl) rfl (by show 2 * 0 + _ ≤ _; exact Nat.le_of_eq rfl) (hb hby at_147) (fun _ _ => ⟨rfl, eq2, (by decide : 0 + 0 ≤ _), (by decide : 0 + 0 ≤ _)⟩)
  dsimp only [Pt.U, Pt.locs, Pt.cells, Pt.slots] at X3 l3 y3 z3 st3 hQ3
  subst l3 y3 z3
  obtain ⟨rfl, Nq3, eq3⟩ := hQ3
  have N3 := Fr.app N2 Nq3
  obtain ⟨fs, hr, hrun, hended, hW, hsame⟩ := X3.leave (v := some (.int (1 : Int32))) (fun h => by rw [Bd.returns] at h; cases h)
  refine ⟨_, _, pre0 _ ?_, hrun, hended, _, _, rfl, ?_, ⟨_, rfl⟩, hW, hsame.mono (by decide) (by decide)⟩
  · show Sp p e below s₁ (mkF m 0 #[.val (.int p0), .val (.int p1), .val (.int p2), .unset, .unset, .unset, .unset, .unset, .unset, .unset] []) _
    refine XS.iloadN X0.here hx rfl (hb hby at_0) rfl ?_
    show Sp p e below s₁ (mkF m 1 #[.val (.int p0), .val (.int p1), .val (.int p2), .unset, .unset, .unset, .unset, .unset, .unset, .unset] [(.int p0)]) _
    refine X0.ldcI hx hown (mvT hZ (hw _ (List.mem_of_getElem? (i := 0) rfl))) rfl (hb hby at_1) ?_
    show Sp p e below s₁ (mkF m 3 #[.val (.int p0), .val (.int p1), .val (.int p2), .unset, .unset, .unset, .unset, .unset, .unset, .unset] [(.int (2147483647 : Int32)), (.int p0)]) _
    refine XS.iand X0.here hx rfl (hb hby at_3) rfl ?_
    show Sp p e below s₁ (mkF m 4 #[.val (.int p0), .val (.int p1), .val (.int p2), .unset, .unset, .unset, .unset, .unset, .unset, .unset] [(.int (p0 &&& (2147483647 : Int32)))]) _
    refine XS.iconst X0.here hx rfl (hb hby at_4) ?_
    show Sp p e below s₁ (mkF m 5 #[.val (.int p0), .val (.int p1), .val (.int p2), .unset, .unset, .unset, .unset, .unset, .unset, .unset] [(.int (5 : Int32)), (.int (p0 &&& (2147483647 : Int32)))]) _
    refine iremM X0 hx rfl (hb hby at_5) rfl (by decide) ?_
    show Sp p e below s₁ (mkF m 6 #[.val (.int p0), .val (.int p1), .val (.int p2), .unset, .unset, .unset, .unset, .unset, .unset, .unset] [(.int ((p0 &&& (2147483647 : Int32)) % (5 : Int32)))]) _
    refine XS.istoreN X0.here hx rfl (hb hby at_6) rfl (l' := #[.val (.int p0), .val (.int p1), .val (.int p2), .val (.int ((p0 &&& (2147483647 : Int32)) % (5 : Int32))), .unset, .unset, .unset, .unset, .unset, .unset]) rfl ?_
    show Sp p e below s₁ (mkF m 7 #[.val (.int p0), .val (.int p1), .val (.int p2), .val (.int ((p0 &&& (2147483647 : Int32)) % (5 : Int32))), .unset, .unset, .unset, .unset, .unset, .unset] []) _
    refine XS.iloadN X0.here hx rfl (hb hby at_7) rfl ?_
    show Sp p e below s₁ (mkF m 8 #[.val (.int p0), .val (.int p1), .val (.int p2), .val (.int ((p0 &&& (2147483647 : Int32)) % (5 : Int32))), .unset, .unset, .unset, .unset, .unset, .unset] [(.int p1)]) _
    refine XS.iconst X0.here hx rfl (hb hby at_8) ?_
    show Sp p e below s₁ (mkF m 9 #[.val (.int p0), .val (.int p1), .val (.int p2), .val (.int ((p0 &&& (2147483647 : Int32)) % (5 : Int32))), .unset, .unset, .unset, .unset, .unset, .unset] [(.int (3 : Int32)), (.int p1)]) _
    refine XS.iand X0.here hx rfl (hb hby at_9) rfl ?_
    show Sp p e below s₁ (mkF m 10 #[.val (.int p0), .val (.int p1), .val (.int p2), .val (.int ((p0 &&& (2147483647 : Int32)) % (5 : Int32))), .unset, .unset, .unset, .unset, .unset, .unset] [(.int (p1 &&& (3 : Int32)))]) _
    refine XS.istore X0.here hx rfl (hb hby at_10) rfl (l' := #[.val (.int p0), .val (.int p1), .val (.int p2), .val (.int ((p0 &&& (2147483647 : Int32)) % (5 : Int32))), .val (.int (p1 &&& (3 : Int32))), .unset, .unset, .unset, .unset, .unset]) rfl ?_
    show Sp p e below s₁ (mkF m 12 #[.val (.int p0), .val (.int p1), .val (.int p2), .val (.int ((p0 &&& (2147483647 : Int32)) % (5 : Int32))), .val (.int (p1 &&& (3 : Int32))), .unset, .unset, .unset, .unset, .unset] []) _
    refine st1 _ ?_
    show Sp p e below s₁ (mkF m 58 #[.val (.int p0), .val (.int p1), .val (.int p2), .val (.int ((p0 &&& (2147483647 : Int32)) % (5 : Int32))), .val (.int (p1 &&& (3 : Int32))), .val (.int z5), .unset, .unset, .unset, .unset] []) _
    refine XS.iloadN X0.here hx rfl (hb hby at_58) rfl ?_
    show Sp p e below s₁ (mkF m 59 #[.val (.int p0), .val (.int p1), .val (.int p2), .val (.int ((p0 &&& (2147483647 : Int32)) % (5 : Int32))), .val (.int (p1 &&& (3 : Int32))), .val (.int z5), .unset, .unset, .unset, .unset] [(.int ((p0 &&& (2147483647 : Int32)) % (5 : Int32)))]) _
    refine st2 _ ?_
    show Sp p e below T2 (mkF m 62 #[.val (.int p0), .val (.int p1), .val (.int p2), .val (.int ((p0 &&& (2147483647 : Int32)) % (5 : Int32))), .val (.int (p1 &&& (3 : Int32))), .val (.int z5), .unset, .unset, .unset, .unset] [(.ref w_AES_256_GCM)]) _
    refine XS.astore X2.here hx rfl (hb hby at_62) rfl rfl (l' := #[.val (.int p0), .val (.int p1), .val (.int p2), .val (.int ((p0 &&& (2147483647 : Int32)) % (5 : Int32))), .val (.int (p1 &&& (3 : Int32))), .val (.int z5), .val (.ref w_AES_256_GCM), .unset, .unset, .unset]) rfl ?_
    show Sp p e below T2 (mkF m 64 #[.val (.int p0), .val (.int p1), .val (.int p2), .val (.int ((p0 &&& (2147483647 : Int32)) % (5 : Int32))), .val (.int (p1 &&& (3 : Int32))), .val (.int z5), .val (.ref w_AES_256_GCM), .unset, .unset, .unset] []) _
    refine XS.iloadN X2.here hx rfl (hb hby at_64) rfl ?_
    show Sp p e below T2 (mkF m 65 #[.val (.int p0), .val (.int p1), .val (.int p2), .val (.int ((p0 &&& (2147483647 : Int32)) % (5 : Int32))), .val (.int (p1 &&& (3 : Int32))), .val (.int z5), .val (.ref w_AES_256_GCM), .unset, .unset, .unset] [(.int ((p0 &&& (2147483647 : Int32)) % (5 : Int32)))]) _
    refine XS.ifNo X2.here hx rfl (hb hby at_65) rfl ((if0 _ _).trans (feq hc2).1) ?_
    show Sp p e below T2 (mkF m 68 #[.val (.int p0), .val (.int p1), .val (.int p2), .val (.int ((p0 &&& (2147483647 : Int32)) % (5 : Int32))), .val (.int (p1 &&& (3 : Int32))), .val (.int z5), .val (.ref w_AES_256_GCM), .unset, .unset, .unset] []) _
    refine XS.iloadN X2.here hx rfl (hb hby at_68) rfl ?_
    show Sp p e below T2 (mkF m 69 #[.val (.int p0), .val (.int p1), .val (.int p2), .val (.int ((p0 &&& (2147483647 : Int32)) % (5 : Int32))), .val (.int (p1 &&& (3 : Int32))), .val (.int z5), .val (.ref w_AES_256_GCM), .unset, .unset, .unset] [(.int ((p0 &&& (2147483647 : Int32)) % (5 : Int32)))]) _
    refine XS.iconst X2.here hx rfl (hb hby at_69) ?_
    show Sp p e below T2 (mkF m 70 #[.val (.int p0), .val (.int p1), .val (.int p2), .val (.int ((p0 &&& (2147483647 : Int32)) % (5 : Int32))), .val (.int (p1 &&& (3 : Int32))), .val (.int z5), .val (.ref w_AES_256_GCM), .unset, .unset, .unset] [(.int (2 : Int32)), (.int ((p0 &&& (2147483647 : Int32)) % (5 : Int32)))]) _
    refine XS.icmpNo X2.here hx rfl (hb hby at_70) rfl (feq (by rw [hc3]; decide : ¬ (((p0 &&& (2147483647 : Int32)) % (5 : Int32)) = (2 : Int32)))).1 ?_
    show Sp p e below T2 (mkF m 73 #[.val (.int p0), .val (.int p1), .val (.int p2), .val (.int ((p0 &&& (2147483647 : Int32)) % (5 : Int32))), .val (.int (p1 &&& (3 : Int32))), .val (.int z5), .val (.ref w_AES_256_GCM), .unset, .unset, .unset] []) _
    refine XS.iloadN X2.here hx rfl (hb hby at_73) rfl ?_
    show Sp p e below T2 (mkF m 74 #[.val (.int p0), .val (.int p1), .val (.int p2), .val (.int ((p0 &&& (2147483647 : Int32)) % (5 : Int32))), .val (.int (p1 &&& (3 : Int32))), .val (.int z5), .val (.ref w_AES_256_GCM), .unset, .unset, .unset] [(.int ((p0 &&& (2147483647 : Int32)) % (5 : Int32)))]) _
    refine XS.iconst X2.here hx rfl (hb hby at_74) ?_
    show Sp p e below T2 (mkF m 75 #[.val (.int p0), .val (.int p1), .val (.int p2), .val (.int ((p0 &&& (2147483647 : Int32)) % (5 : Int32))), .val (.int (p1 &&& (3 : Int32))), .val (.int z5), .val (.ref w_AES_256_GCM), .unset, .unset, .unset] [(.int (3 : Int32)), (.int ((p0 &&& (2147483647 : Int32)) % (5 : Int32)))]) _
    refine XS.icmpNo X2.here hx rfl (hb hby at_75) rfl (feq (by rw [hc3]; decide : ¬ (((p0 &&& (2147483647 : Int32)) % (5 : Int32)) = (3 : Int32)))).1 ?_
    show Sp p e below T2 (mkF m 78 #[.val (.int p0), .val (.int p1), .val (.int p2), .val (.int ((p0 &&& (2147483647 : Int32)) % (5 : Int32))), .val (.int (p1 &&& (3 : Int32))), .val (.int z5), .val (.ref w_AES_256_GCM), .unset, .unset, .unset] []) _
    refine XS.iloadN X2.here hx rfl (hb hby at_78) rfl ?_
    show Sp p e below T2 (mkF m 79 #[.val (.int p0), .val (.int p1), .val (.int p2), .val (.int ((p0 &&& (2147483647 : Int32)) % (5 : Int32))), .val (.int (p1 &&& (3 : Int32))), .val (.int z5), .val (.ref w_AES_256_GCM), .unset, .unset, .unset] [(.int ((p0 &&& (2147483647 : Int32)) % (5 : Int32)))]) _
    refine XS.iconst X2.here hx rfl (hb hby at_79) ?_
    show Sp p e below T2 (mkF m 80 #[.val (.int p0), .val (.int p1), .val (.int p2), .val (.int ((p0 &&& (2147483647 : Int32)) % (5 : Int32))), .val (.int (p1 &&& (3 : Int32))), .val (.int z5), .val (.ref w_AES_256_GCM), .unset, .unset, .unset] [(.int (4 : Int32)), (.int ((p0 &&& (2147483647 : Int32)) % (5 : Int32)))]) _
    refine XS.icmpYes X2.here hx rfl (pc0 := 80) (pc' := 87) rfl (hb hby at_80) rfl (feq (by rw [hc3]; decide : ¬ (((p0 &&& (2147483647 : Int32)) % (5 : Int32)) = (4 : Int32)))).2 (by decide) (by decide) ?_
    show Sp p e below T2 (mkF m 87 #[.val (.int p0), .val (.int p1), .val (.int p2), .val (.int ((p0 &&& (2147483647 : Int32)) % (5 : Int32))), .val (.int (p1 &&& (3 : Int32))), .val (.int z5), .val (.ref w_AES_256_GCM), .unset, .unset, .unset] []) _
    refine XS.iconst X2.here hx rfl (hb hby at_87) ?_
    show Sp p e below T2 (mkF m 88 #[.val (.int p0), .val (.int p1), .val (.int p2), .val (.int ((p0 &&& (2147483647 : Int32)) % (5 : Int32))), .val (.int (p1 &&& (3 : Int32))), .val (.int z5), .val (.ref w_AES_256_GCM), .unset, .unset, .unset] [(.int (0 : Int32))]) _
    refine XS.istore X2.here hx rfl (hb hby at_88) rfl (l' := #[.val (.int p0), .val (.int p1), .val (.int p2), .val (.int ((p0 &&& (2147483647 : Int32)) % (5 : Int32))), .val (.int (p1 &&& (3 : Int32))), .val (.int z5), .val (.ref w_AES_256_GCM), .val (.int (0 : Int32)), .unset, .unset]) rfl ?_
    show Sp p e below T2 (mkF m 90 #[.val (.int p0), .val (.int p1), .val (.int p2), .val (.int ((p0 &&& (2147483647 : Int32)) % (5 : Int32))), .val (.int (p1 &&& (3 : Int32))), .val (.int z5), .val (.ref w_AES_256_GCM), .val (.int (0 : Int32)), .unset, .unset] []) _
    refine XS.iloadN X2.here hx rfl (hb hby at_90) rfl ?_
    show Sp p e below T2 (mkF m 91 #[.val (.int p0), .val (.int p1), .val (.int p2), .val (.int ((p0 &&& (2147483647 : Int32)) % (5 : Int32))), .val (.int (p1 &&& (3 : Int32))), .val (.int z5), .val (.ref w_AES_256_GCM), .val (.int (0 : Int32)), .unset, .unset] [(.int ((p0 &&& (2147483647 : Int32)) % (5 : Int32)))]) _
    refine XS.iconst X2.here hx rfl (hb hby at_91) ?_
    show Sp p e below T2 (mkF m 92 #[.val (.int p0), .val (.int p1), .val (.int p2), .val (.int ((p0 &&& (2147483647 : Int32)) % (5 : Int32))), .val (.int (p1 &&& (3 : Int32))), .val (.int z5), .val (.ref w_AES_256_GCM), .val (.int (0 : Int32)), .unset, .unset] [(.int (1 : Int32)), (.int ((p0 &&& (2147483647 : Int32)) % (5 : Int32)))]) _
    refine XS.icmpYes X2.here hx rfl (pc0 := 92) (pc' := 105) rfl (hb hby at_92) rfl (teq hc3).1 (by decide) (by decide) ?_
    show Sp p e below T2 (mkF m 105 #[.val (.int p0), .val (.int p1), .val (.int p2), .val (.int ((p0 &&& (2147483647 : Int32)) % (5 : Int32))), .val (.int (p1 &&& (3 : Int32))), .val (.int z5), .val (.ref w_AES_256_GCM), .val (.int (0 : Int32)), .unset, .unset] []) _
    refine XS.iconst X2.here hx rfl (hb hby at_105) ?_
    show Sp p e below T2 (mkF m 106 #[.val (.int p0), .val (.int p1), .val (.int p2), .val (.int ((p0 &&& (2147483647 : Int32)) % (5 : Int32))), .val (.int (p1 &&& (3 : Int32))), .val (.int z5), .val (.ref w_AES_256_GCM), .val (.int (0 : Int32)), .unset, .unset] [(.int (1 : Int32))]) _
    refine XS.goto X2.here hx rfl (pc0 := 106) (pc' := 110) rfl (hb hby at_106) (by decide) (by decide) ?_
    show Sp p e below T2 (mkF m 110 #[.val (.int p0), .val (.int p1), .val (.int p2), .val (.int ((p0 &&& (2147483647 : Int32)) % (5 : Int32))), .val (.int (p1 &&& (3 : Int32))), .val (.int z5), .val (.ref w_AES_256_GCM), .val (.int (0 : Int32)), .unset, .unset] [(.int (1 : Int32))]) _
    refine XS.istore X2.here hx rfl (hb hby at_110) rfl (l' := #[.val (.int p0), .val (.int p1), .val (.int p2), .val (.int ((p0 &&& (2147483647 : Int32)) % (5 : Int32))), .val (.int (p1 &&& (3 : Int32))), .val (.int z5), .val (.ref w_AES_256_GCM), .val (.int (0 : Int32)), .val (.int (1 : Int32)), .unset]) rfl ?_
    show Sp p e below T2 (mkF m 112 #[.val (.int p0), .val (.int p1), .val (.int p2), .val (.int ((p0 &&& (2147483647 : Int32)) % (5 : Int32))), .val (.int (p1 &&& (3 : Int32))), .val (.int z5), .val (.ref w_AES_256_GCM), .val (.int (0 : Int32)), .val (.int (1 : Int32)), .unset] []) _
    refine XS.iload X2.here hx rfl (hb hby at_112) rfl ?_
    show Sp p e below T2 (mkF m 114 #[.val (.int p0), .val (.int p1), .val (.int p2), .val (.int ((p0 &&& (2147483647 : Int32)) % (5 : Int32))), .val (.int (p1 &&& (3 : Int32))), .val (.int z5), .val (.ref w_AES_256_GCM), .val (.int (0 : Int32)), .val (.int (1 : Int32)), .unset] [(.int z5)]) _
    refine XS.bipush X2.here hx rfl (hb hby at_114) ?_
    show Sp p e below T2 (mkF m 116 #[.val (.int p0), .val (.int p1), .val (.int p2), .val (.int ((p0 &&& (2147483647 : Int32)) % (5 : Int32))), .val (.int (p1 &&& (3 : Int32))), .val (.int z5), .val (.ref w_AES_256_GCM), .val (.int (0 : Int32)), .val (.int (1 : Int32)), .unset] [(.int (16 : Int32)), (.int z5)]) _
    refine XS.icmpNo X2.here hx rfl (hb hby at_116) rfl (teq hc4).2 ?_
    show Sp p e below T2 (mkF m 119 #[.val (.int p0), .val (.int p1), .val (.int p2), .val (.int ((p0 &&& (2147483647 : Int32)) % (5 : Int32))), .val (.int (p1 &&& (3 : Int32))), .val (.int z5), .val (.ref w_AES_256_GCM), .val (.int (0 : Int32)), .val (.int (1 : Int32)), .unset] []) _
    refine XS.iload X2.here hx rfl (hb hby at_119) rfl ?_
    show Sp p e below T2 (mkF m 121 #[.val (.int p0), .val (.int p1), .val (.int p2), .val (.int ((p0 &&& (2147483647 : Int32)) % (5 : Int32))), .val (.int (p1 &&& (3 : Int32))), .val (.int z5), .val (.ref w_AES_256_GCM), .val (.int (0 : Int32)), .val (.int (1 : Int32)), .unset] [(.int (0 : Int32))]) _
    refine XS.ifNo X2.here hx rfl (hb hby at_121) rfl ((if0 _ _).trans (teq (by decide : (0 : Int32) = (0 : Int32))).2) ?_
    show Sp p e below T2 (mkF m 124 #[.val (.int p0), .val (.int p1), .val (.int p2), .val (.int ((p0 &&& (2147483647 : Int32)) % (5 : Int32))), .val (.int (p1 &&& (3 : Int32))), .val (.int z5), .val (.ref w_AES_256_GCM), .val (.int (0 : Int32)), .val (.int (1 : Int32)), .unset] []) _
    refine XS.iload X2.here hx rfl (hb hby at_124) rfl ?_
    show Sp p e below T2 (mkF m 126 #[.val (.int p0), .val (.int p1), .val (.int p2), .val (.int ((p0 &&& (2147483647 : Int32)) % (5 : Int32))), .val (.int (p1 &&& (3 : Int32))), .val (.int z5), .val (.ref w_AES_256_GCM), .val (.int (0 : Int32)), .val (.int (1 : Int32)), .unset] [(.int z5)]) _
    refine XS.bipush X2.here hx rfl (hb hby at_126) ?_
    show Sp p e below T2 (mkF m 128 #[.val (.int p0), .val (.int p1), .val (.int p2), .val (.int ((p0 &&& (2147483647 : Int32)) % (5 : Int32))), .val (.int (p1 &&& (3 : Int32))), .val (.int z5), .val (.ref w_AES_256_GCM), .val (.int (0 : Int32)), .val (.int (1 : Int32)), .unset] [(.int (32 : Int32)), (.int z5)]) _
    refine XS.icmpYes X2.here hx rfl (pc0 := 128) (pc' := 140) rfl (hb hby at_128) rfl (feq (by rw [hc4]; decide : ¬ (z5 = (32 : Int32)))).2 (by decide) (by decide) ?_
    show Sp p e below T2 (mkF m 140 #[.val (.int p0), .val (.int p1), .val (.int p2), .val (.int ((p0 &&& (2147483647 : Int32)) % (5 : Int32))), .val (.int (p1 &&& (3 : Int32))), .val (.int z5), .val (.ref w_AES_256_GCM), .val (.int (0 : Int32)), .val (.int (1 : Int32)), .unset] []) _
    refine XS.iconst X2.here hx rfl (hb hby at_140) ?_
    show Sp p e below T2 (mkF m 141 #[.val (.int p0), .val (.int p1), .val (.int p2), .val (.int ((p0 &&& (2147483647 : Int32)) % (5 : Int32))), .val (.int (p1 &&& (3 : Int32))), .val (.int z5), .val (.ref w_AES_256_GCM), .val (.int (0 : Int32)), .val (.int (1 : Int32)), .unset] [(.int (0 : Int32))]) _
    refine XS.istore X2.here hx rfl (hb hby at_141) rfl (l' := #[.val (.int p0), .val (.int p1), .val (.int p2), .val (.int ((p0 &&& (2147483647 : Int32)) % (5 : Int32))), .val (.int (p1 &&& (3 : Int32))), .val (.int z5), .val (.ref w_AES_256_GCM), .val (.int (0 : Int32)), .val (.int (1 : Int32)), .val (.int (0 : Int32))]) rfl ?_
    show Sp p e below T2 (mkF m 143 #[.val (.int p0), .val (.int p1), .val (.int p2), .val (.int ((p0 &&& (2147483647 : Int32)) % (5 : Int32))), .val (.int (p1 &&& (3 : Int32))), .val (.int z5), .val (.ref w_AES_256_GCM), .val (.int (0 : Int32)), .val (.int (1 : Int32)), .val (.int (0 : Int32))] []) _
    refine XS.aload X2.here hx rfl (hb hby at_143) rfl rfl ?_
    show Sp p e below T2 (mkF m 145 #[.val (.int p0), .val (.int p1), .val (.int p2), .val (.int ((p0 &&& (2147483647 : Int32)) % (5 : Int32))), .val (.int (p1 &&& (3 : Int32))), .val (.int z5), .val (.ref w_AES_256_GCM), .val (.int (0 : Int32)), .val (.int (1 : Int32)), .val (.int (0 : Int32))] [(.ref w_AES_256_GCM)]) _
    refine XS.iload X2.here hx rfl (hb hby at_145) rfl ?_
    show Sp p e below T2 (mkF m 147 #[.val (.int p0), .val (.int p1), .val (.int p2), .val (.int ((p0 &&& (2147483647 : Int32)) % (5 : Int32))), .val (.int (p1 &&& (3 : Int32))), .val (.int z5), .val (.ref w_AES_256_GCM), .val (.int (0 : Int32)), .val (.int (1 : Int32)), .val (.int (0 : Int32))] [(.int z5), (.ref w_AES_256_GCM)]) _
    refine st3.trans ?_
    show Sp p e below T3 (mkF m 150 #[.val (.int p0), .val (.int p1), .val (.int p2), .val (.int ((p0 &&& (2147483647 : Int32)) % (5 : Int32))), .val (.int (p1 &&& (3 : Int32))), .val (.int z5), .val (.ref w_AES_256_GCM), .val (.int (0 : Int32)), .val (.int (1 : Int32)), .val (.int (0 : Int32))] [(.int (0 : Int32))]) _
    refine XS.iload X3.here hx rfl (hb hby at_150) rfl ?_
    show Sp p e below T3 (mkF m 152 #[.val (.int p0), .val (.int p1), .val (.int p2), .val (.int ((p0 &&& (2147483647 : Int32)) % (5 : Int32))), .val (.int (p1 &&& (3 : Int32))), .val (.int z5), .val (.ref w_AES_256_GCM), .val (.int (0 : Int32)), .val (.int (1 : Int32)), .val (.int (0 : Int32))] [(.int (0 : Int32)), (.int (0 : Int32))]) _
    refine XS.icmpNo X3.here hx rfl (hb hby at_152) rfl (teq (by decide : (0 : Int32) = (0 : Int32))).2 ?_
    show Sp p e below T3 (mkF m 155 #[.val (.int p0), .val (.int p1), .val (.int p2), .val (.int ((p0 &&& (2147483647 : Int32)) % (5 : Int32))), .val (.int (p1 &&& (3 : Int32))), .val (.int z5), .val (.ref w_AES_256_GCM), .val (.int (0 : Int32)), .val (.int (1 : Int32)), .val (.int (0 : Int32))] []) _
    refine XS.iconst X3.here hx rfl (hb hby at_155) ?_
    show Sp p e below T3 (mkF m 156 #[.val (.int p0), .val (.int p1), .val (.int p2), .val (.int ((p0 &&& (2147483647 : Int32)) % (5 : Int32))), .val (.int (p1 &&& (3 : Int32))), .val (.int z5), .val (.ref w_AES_256_GCM), .val (.int (0 : Int32)), .val (.int (1 : Int32)), .val (.int (0 : Int32))] [(.int (1 : Int32))]) _
    refine XS.goto X3.here hx rfl (pc0 := 156) (pc' := 160) rfl (hb hby at_156) (by decide) (by decide) ?_
    show Sp p e below T3 (mkF m 160 #[.val (.int p0), .val (.int p1), .val (.int p2), .val (.int ((p0 &&& (2147483647 : Int32)) % (5 : Int32))), .val (.int (p1 &&& (3 : Int32))), .val (.int z5), .val (.ref w_AES_256_GCM), .val (.int (0 : Int32)), .val (.int (1 : Int32)), .val (.int (0 : Int32))] [(.int (1 : Int32))]) _
    exact retN X3 hx (t := .boolean) Bd.returns (by simp) (hb hby at_160) hr
  · skip
    exact ⟨rfl, N3⟩
theorem d1_17 : decode method_2_code 17 = .ok (.iload_n 0, 1) := by decide +kernel
theorem d1_18 : decode method_2_code 18 = .ok (.iconst 2, 1) := by decide +kernel
theorem d1_19 : decode method_2_code 19 = .ok (.if_icmp .ne 7, 3) := by decide +kernel
theorem d1_22 : decode method_2_code 22 = .ok (.getstatic 16, 3) := by decide +kernel
theorem d1_25 : decode method_2_code 25 = .ok (.areturn, 1) := by decide +kernel
def Q7 (Z : State) (w_AES_128_GCM : Addr) (w_AES_256_GCM : Addr) (w_AES_CBC_PKCS5PADDING : Addr) (w_AES_128_CBC : Addr) (w_AES_GCM_NOPADDING : Addr) (kl_AES_128_GCM : Addr) (kl_AES_256_GCM : Addr) (kl_AES_CBC_PKCS5PADDING : Addr) (kl_AES_128_CBC : Addr) (kl_AES_GCM_NOPADDING : Addr) (k_kl_AES_128_GCM : ClassId) (k_kl_AES_256_GCM : ClassId) (k_kl_AES_CBC_PKCS5PADDING : ClassId) (k_kl_AES_128_CBC : ClassId) (k_kl_AES_GCM_NOPADDING : ClassId) (p1 : Int32) (h0 : Heap) (n0 : Nat) (v : Option Value) (h : Heap) (L : List Loc) : Prop := v = some (.ref w_AES_GCM_NOPADDING) ∧ Fr n0 L ∧ h = h0
set_option maxRecDepth 65536 in
set_option maxHeartbeats 40000000 in
theorem rm7 (l : Launch) (Z : State) (a0 : Array Value) (hw : ∀ d ∈ tables_1, d.before a0 Z = true) (ws : List Jvm.Cond) (w_AES_128_GCM w_AES_256_GCM w_AES_CBC_PKCS5PADDING w_AES_128_CBC w_AES_GCM_NOPADDING kl_AES_128_GCM kl_AES_256_GCM kl_AES_CBC_PKCS5PADDING kl_AES_128_CBC kl_AES_GCM_NOPADDING : Addr) (k_kl_AES_128_GCM : ClassId) (k_kl_AES_256_GCM : ClassId) (k_kl_AES_CBC_PKCS5PADDING : ClassId) (k_kl_AES_128_CBC : ClassId) (k_kl_AES_GCM_NOPADDING : ClassId) (hp : Perm Z w_AES_128_GCM w_AES_256_GCM w_AES_CBC_PKCS5PADDING w_AES_128_CBC w_AES_GCM_NOPADDING kl_AES_128_GCM kl_AES_256_GCM kl_AES_CBC_PKCS5PADDING kl_AES_128_CBC kl_AES_GCM_NOPADDING k_kl_AES_128_GCM k_kl_AES_256_GCM k_kl_AES_CBC_PKCS5PADDING k_kl_AES_128_CBC k_kl_AES_GCM_NOPADDING) (p1 : Int32) (h0 : Heap) (n0 : Nat) (O0 : Old Z n0 h0) (hc1 : ¬ (p1 = (0 : Int32))) (hc2 : ¬ (p1 = (1 : Int32))) (hc3 : p1 = (2 : Int32)) :
    MetFree l y0 (head1 (Jvm.Cond.code y0 method_2_code 1 (some (.object "com/example/cloakfield/cloakfield/crypto/EncryptionAlgorithm")) :: ws) ({ frames := 0, cells := 0, slots := 0, locals := 0 } : Room)) (fun a U => a = #[(.int p1)] ∧ Z.Warmed39 U.vm ∧ U.heap = h0) (fun _ _ _ _ _ => True) (fun _ U o U' => ∃ v L, o = .returned v ∧ Q7 Z w_AES_128_GCM w_AES_256_GCM w_AES_CBC_PKCS5PADDING w_AES_128_CBC w_AES_GCM_NOPADDING kl_AES_128_GCM kl_AES_256_GCM kl_AES_CBC_PKCS5PADDING kl_AES_128_CBC kl_AES_GCM_NOPADDING k_kl_AES_128_GCM k_kl_AES_256_GCM k_kl_AES_CBC_PKCS5PADDING k_kl_AES_128_CBC k_kl_AES_GCM_NOPADDING p1 h0 n0 v U'.heap L ∧ FrameEnd U o U' L ({ frames := 0, cells := 0, slots := 0, locals := 0 } : Room).cells ({ frames := 0, cells := 0, slots := 0, locals := 0 } : Room).slots) := by
  refine MetFree.of_bodySF (plainFor_of_name pn_1) hisR ?_
  intro p e s m args below meth c s₁ Bd hml0 hP hK
  obtain ⟨rfl, hZ, hh⟩ := hP
  have hx := Bd.exec
  have hby := Bd.bytes
  have hml : c.maxLocals = 1 := hml0
  have hown : s.vm.findClass "com/example/cloakfield/cloakfield/crypto/EncryptionAlgorithmAcceptsKeyLengthPinLaw" = some m.cls := findClass_of_methodNamed Bd.named
  have hnm := (name_of_methodNamed Bd.named Bd.method).1
  have X0 : Stand p l e ({ frames := 0, cells := 0, slots := 0, locals := 0 } : Room) s m #[(.int p1)] below meth c s₁ [] 0 0 := Stand.of_body Bd
  have e0 : s₁.heap = h0 := by rw [← hh, Bd.state]; rfl
  have N0 := Fr.nil n0
  have hp' := hp
  obtain ⟨S_w_AES_128_GCM, E_w_AES_128_GCM, S_w_AES_256_GCM, E_w_AES_256_GCM, S_w_AES_CBC_PKCS5PADDING, E_w_AES_CBC_PKCS5PADDING, S_w_AES_128_CBC, E_w_AES_128_CBC, S_w_AES_GCM_NOPADDING, E_w_AES_GCM_NOPADDING, F_keyLengths_w_AES_128_GCM, V_kl_AES_128_GCM, F_keyLengths_w_AES_256_GCM, V_kl_AES_256_GCM, F_keyLengths_w_AES_CBC_PKCS5PADDING, V_kl_AES_CBC_PKCS5PADDING, F_keyLengths_w_AES_128_CBC, V_kl_AES_128_CBC, F_keyLengths_w_AES_GCM_NOPADDING, V_kl_AES_GCM_NOPADDING⟩ := hp'
  have pre0 : ∀ t, Steps p.tables e below (s₁.setTop (mkF m 0 #[.val (.int p1)] [])) t → Steps p.tables e below (s₁.setTop (entryFrame m #[(.int p1)] 1)) t := fun t k => castTop (ef_1_0 m p1) k
  obtain ⟨T1, X1, e1, st1⟩ := getS2 X0 hx hZ hown (host := "") (Or.inl (hw _ (List.mem_of_getElem? (i := 21) rfl))) Via.refl e0 (S_w_AES_GCM_NOPADDING.ext O0.2) (g := (mkF m 22 #[.val (.int p1)] [])) rfl (hb hby d1_22)
  obtain ⟨fs, hr, hrun, hended, hW, hsame⟩ := X1.leave (v := some (.ref w_AES_GCM_NOPADDING)) (fun h => by rw [Bd.returns] at h; cases h)
  refine ⟨_, _, pre0 _ ?_, hrun, hended, _, _, rfl, ?_, ⟨_, rfl⟩, hW, hsame.mono (by decide) (by decide)⟩
  · show Sp p e below s₁ (mkF m 0 #[.val (.int p1)] []) _
    refine XS.iloadN X0.here hx rfl (hb hby d1_0) rfl ?_
    show Sp p e below s₁ (mkF m 1 #[.val (.int p1)] [(.int p1)]) _
    refine XS.ifYes X0.here hx rfl (pc0 := 1) (pc' := 8) rfl (hb hby d1_1) rfl ((if0 _ _).trans (feq hc1).2) (by decide) (by decide) ?_
    show Sp p e below s₁ (mkF m 8 #[.val (.int p1)] []) _
    refine XS.iloadN X0.here hx rfl (hb hby d1_8) rfl ?_
    show Sp p e below s₁ (mkF m 9 #[.val (.int p1)] [(.int p1)]) _
    refine XS.iconst X0.here hx rfl (hb hby d1_9) ?_
    show Sp p e below s₁ (mkF m 10 #[.val (.int p1)] [(.int (1 : Int32)), (.int p1)]) _
    refine XS.icmpYes X0.here hx rfl (pc0 := 10) (pc' := 17) rfl (hb hby d1_10) rfl (feq hc2).2 (by decide) (by decide) ?_
    show Sp p e below s₁ (mkF m 17 #[.val (.int p1)] []) _
    refine XS.iloadN X0.here hx rfl (hb hby d1_17) rfl ?_
    show Sp p e below s₁ (mkF m 18 #[.val (.int p1)] [(.int p1)]) _
    refine XS.iconst X0.here hx rfl (hb hby d1_18) ?_
    show Sp p e below s₁ (mkF m 19 #[.val (.int p1)] [(.int (2 : Int32)), (.int p1)]) _
    refine XS.icmpNo X0.here hx rfl (hb hby d1_19) rfl (teq hc3).2 ?_
    show Sp p e below s₁ (mkF m 22 #[.val (.int p1)] []) _
    refine st1 _ ?_
    show Sp p e below T1 (mkF m 25 #[.val (.int p1)] [(.ref w_AES_GCM_NOPADDING)]) _
    jvm_step X1.here [X1.here.top, hx, (hb hby d1_25), X1.method', Bd.returns, Value.isRef, FieldType.isReference]
    first | (intro acts; rw [hr _ acts rfl rfl rfl]) | rw [hr _ _ rfl rfl rfl]
    exact Steps.refl _
  · show Q7 Z w_AES_128_GCM w_AES_256_GCM w_AES_CBC_PKCS5PADDING w_AES_128_CBC w_AES_GCM_NOPADDING kl_AES_128_GCM kl_AES_256_GCM kl_AES_CBC_PKCS5PADDING kl_AES_128_CBC kl_AES_GCM_NOPADDING k_kl_AES_128_GCM k_kl_AES_256_GCM k_kl_AES_CBC_PKCS5PADDING k_kl_AES_128_CBC k_kl_AES_GCM_NOPADDING p1 h0 n0 _ T1.heap _
    rw [e1]
    exact ⟨rfl, N0, rfl⟩
def Q8 (Z : State) (w_AES_128_GCM : Addr) (w_AES_256_GCM : Addr) (w_AES_CBC_PKCS5PADDING : Addr) (w_AES_128_CBC : Addr) (w_AES_GCM_NOPADDING : Addr) (kl_AES_128_GCM : Addr) (kl_AES_256_GCM : Addr) (kl_AES_CBC_PKCS5PADDING : Addr) (kl_AES_128_CBC : Addr) (kl_AES_GCM_NOPADDING : Addr) (k_kl_AES_128_GCM : ClassId) (k_kl_AES_256_GCM : ClassId) (k_kl_AES_CBC_PKCS5PADDING : ClassId) (k_kl_AES_128_CBC : ClassId) (k_kl_AES_GCM_NOPADDING : ClassId) (p1 : Int32) (h0 : Heap) (n0 : Nat) (v : Option Value) (h : Heap) (L : List Loc) : Prop := v = some (.int (1 : Int32)) ∧ Fr n0 L ∧ h = h0
set_option maxRecDepth 65536 in
set_option maxHeartbeats 40000000 in
theorem rm8 (l : Launch) (Z : State) (a0 : Array Value) (hw : ∀ d ∈ tables_1, d.before a0 Z = true) (ws : List Jvm.Cond) (w_AES_128_GCM w_AES_256_GCM w_AES_CBC_PKCS5PADDING w_AES_128_CBC w_AES_GCM_NOPADDING kl_AES_128_GCM kl_AES_256_GCM kl_AES_CBC_PKCS5PADDING kl_AES_128_CBC kl_AES_GCM_NOPADDING : Addr) (k_kl_AES_128_GCM : ClassId) (k_kl_AES_256_GCM : ClassId) (k_kl_AES_CBC_PKCS5PADDING : ClassId) (k_kl_AES_128_CBC : ClassId) (k_kl_AES_GCM_NOPADDING : ClassId) (hp : Perm Z w_AES_128_GCM w_AES_256_GCM w_AES_CBC_PKCS5PADDING w_AES_128_CBC w_AES_GCM_NOPADDING kl_AES_128_GCM kl_AES_256_GCM kl_AES_CBC_PKCS5PADDING kl_AES_128_CBC kl_AES_GCM_NOPADDING k_kl_AES_128_GCM k_kl_AES_256_GCM k_kl_AES_CBC_PKCS5PADDING k_kl_AES_128_CBC k_kl_AES_GCM_NOPADDING) (p1 : Int32) (h0 : Heap) (n0 : Nat) (O0 : Old Z n0 h0) (hc1 : p1 = (16 : Int32)) :
    MetFree l y1 (head1 (Jvm.Cond.code y1 prog_31_method_7_code 6 (some .boolean) :: ws) ({ frames := 0, cells := 0, slots := 0, locals := 0 } : Room)) (fun a U => a = #[(.ref w_AES_GCM_NOPADDING), (.int p1)] ∧ Z.Warmed39 U.vm ∧ U.heap = h0) (fun _ _ _ _ _ => True) (fun _ U o U' => ∃ v L, o = .returned v ∧ Q8 Z w_AES_128_GCM w_AES_256_GCM w_AES_CBC_PKCS5PADDING w_AES_128_CBC w_AES_GCM_NOPADDING kl_AES_128_GCM kl_AES_256_GCM kl_AES_CBC_PKCS5PADDING kl_AES_128_CBC kl_AES_GCM_NOPADDING k_kl_AES_128_GCM k_kl_AES_256_GCM k_kl_AES_CBC_PKCS5PADDING k_kl_AES_128_CBC k_kl_AES_GCM_NOPADDING p1 h0 n0 v U'.heap L ∧ FrameEnd U o U' L ({ frames := 0, cells := 0, slots := 0, locals := 0 } : Room).cells ({ frames := 0, cells := 0, slots := 0, locals := 0 } : Room).slots) := by
  refine MetFree.of_bodySF (plainFor_of_name pn_2) hisR ?_
  intro p e s m args below meth c s₁ Bd hml0 hP hK
  obtain ⟨rfl, hZ, hh⟩ := hP
  have hx := Bd.exec
  have hby := Bd.bytes
  have hml : c.maxLocals = 6 := hml0
  have hown : s.vm.findClass "com/example/cloakfield/cloakfield/crypto/EncryptionAlgorithm" = some m.cls := findClass_of_methodNamed Bd.named
  have hnm := (name_of_methodNamed Bd.named Bd.method).1
  have X0 : Stand p l e ({ frames := 0, cells := 0, slots := 0, locals := 0 } : Room) s m #[(.ref w_AES_GCM_NOPADDING), (.int p1)] below meth c s₁ [] 0 0 := Stand.of_body Bd
  have e0 : s₁.heap = h0 := by rw [← hh, Bd.state]; rfl
  have N0 := Fr.nil n0
  have hp' := hp
  obtain ⟨S_w_AES_128_GCM, E_w_AES_128_GCM, S_w_AES_256_GCM, E_w_AES_256_GCM, S_w_AES_CBC_PKCS5PADDING, E_w_AES_CBC_PKCS5PADDING, S_w_AES_128_CBC, E_w_AES_128_CBC, S_w_AES_GCM_NOPADDING, E_w_AES_GCM_NOPADDING, F_keyLengths_w_AES_128_GCM, V_kl_AES_128_GCM, F_keyLengths_w_AES_256_GCM, V_kl_AES_256_GCM, F_keyLengths_w_AES_CBC_PKCS5PADDING, V_kl_AES_CBC_PKCS5PADDING, F_keyLengths_w_AES_128_CBC, V_kl_AES_128_CBC, F_keyLengths_w_AES_GCM_NOPADDING, V_kl_AES_GCM_NOPADDING⟩ := hp'
  have pre0 : ∀ t, Steps p.tables e below (s₁.setTop (mkF m 0 #[.val (.ref w_AES_GCM_NOPADDING), .val (.int p1), .unset, .unset, .unset, .unset] [])) t → Steps p.tables e below (s₁.setTop (entryFrame m #[(.ref w_AES_GCM_NOPADDING), (.int p1)] 6)) t := fun t k => castTop (ef_2_0 m w_AES_GCM_NOPADDING p1) k
  obtain ⟨T1, X1, e1, st1⟩ := getF X0 hx hZ hown (host := "") (Or.inl (hw _ (List.mem_of_getElem? (i := 13) rfl))) Via.refl e0 (F_keyLengths_w_AES_GCM_NOPADDING.ext O0.2) (g := (mkF m 1 #[.val (.ref w_AES_GCM_NOPADDING), .val (.int p1), .unset, .unset, .unset, .unset] [(.ref w_AES_GCM_NOPADDING)])) rfl rfl (hb hby d2_1)
  obtain ⟨cl2, Ar2, -, S2, Nn2, -, -⟩ := (V_kl_AES_GCM_NOPADDING.ext O0.2)
  obtain ⟨cl3, Ar3, -, S3, -, H3, -⟩ := (V_kl_AES_GCM_NOPADDING.ext O0.2)
  have hin3 : ¬ ((0 : Int32) < 0 ∨ cl3.slots.size ≤ ((0 : Int32)).toNatClampNeg) := inb_of S3 ⟨by decide, by decide⟩
  have hat3 : cl3.slots[((0 : Int32)).toNatClampNeg]? = some (.int (16 : Int32)) := H3.at hin3 rfl
  obtain ⟨fs, hr, hrun, hended, hW, hsame⟩ := X1.leave (v := some (.int (1 : Int32))) (fun h => by rw [Bd.returns] at h; cases h)
  refine ⟨_, _, pre0 _ ?_, hrun, hended, _, _, rfl, ?_, ⟨_, rfl⟩, hW, hsame.mono (by decide) (by decide)⟩
  · show Sp p e below s₁ (mkF m 0 #[.val (.ref w_AES_GCM_NOPADDING), .val (.int p1), .unset, .unset, .unset, .unset] []) _
    refine XS.aloadN X0.here hx rfl (hb hby d2_0) rfl rfl ?_
    show Sp p e below s₁ (mkF m 1 #[.val (.ref w_AES_GCM_NOPADDING), .val (.int p1), .unset, .unset, .unset, .unset] [(.ref w_AES_GCM_NOPADDING)]) _
    refine st1 _ ?_
    show Sp p e below T1 (mkF m 4 #[.val (.ref w_AES_GCM_NOPADDING), .val (.int p1), .unset, .unset, .unset, .unset] [(.ref kl_AES_GCM_NOPADDING)]) _
    refine XS.astoreN X1.here hx rfl (hb hby d2_4) rfl rfl (l' := #[.val (.ref w_AES_GCM_NOPADDING), .val (.int p1), .val (.ref kl_AES_GCM_NOPADDING), .unset, .unset, .unset]) rfl ?_
    show Sp p e below T1 (mkF m 5 #[.val (.ref w_AES_GCM_NOPADDING), .val (.int p1), .val (.ref kl_AES_GCM_NOPADDING), .unset, .unset, .unset] []) _
    refine XS.aloadN X1.here hx rfl (hb hby d2_5) rfl rfl ?_
    show Sp p e below T1 (mkF m 6 #[.val (.ref w_AES_GCM_NOPADDING), .val (.int p1), .val (.ref kl_AES_GCM_NOPADDING), .unset, .unset, .unset] [(.ref kl_AES_GCM_NOPADDING)]) _
    refine X1.arraylength hx (by rw [e1]; exact Ar2.1) (State.isArrayOf_alike hZ.alike Ar2.2.1) (g := (mkF m 6 #[.val (.ref w_AES_GCM_NOPADDING), .val (.int p1), .val (.ref kl_AES_GCM_NOPADDING), .unset, .unset, .unset] [(.ref kl_AES_GCM_NOPADDING)])) rfl rfl (hb hby d2_6) _ ?_
    rw [len_of S2 Nn2]
    show Sp p e below T1 (mkF m 7 #[.val (.ref w_AES_GCM_NOPADDING), .val (.int p1), .val (.ref kl_AES_GCM_NOPADDING), .unset, .unset, .unset] [(.int (2 : Int32))]) _
    refine XS.istoreN X1.here hx rfl (hb hby d2_7) rfl (l' := #[.val (.ref w_AES_GCM_NOPADDING), .val (.int p1), .val (.ref kl_AES_GCM_NOPADDING), .val (.int (2 : Int32)), .unset, .unset]) rfl ?_
    show Sp p e below T1 (mkF m 8 #[.val (.ref w_AES_GCM_NOPADDING), .val (.int p1), .val (.ref kl_AES_GCM_NOPADDING), .val (.int (2 : Int32)), .unset, .unset] []) _
    refine XS.iconst X1.here hx rfl (hb hby d2_8) ?_
    show Sp p e below T1 (mkF m 9 #[.val (.ref w_AES_GCM_NOPADDING), .val (.int p1), .val (.ref kl_AES_GCM_NOPADDING), .val (.int (2 : Int32)), .unset, .unset] [(.int (0 : Int32))]) _
    refine XS.istore X1.here hx rfl (hb hby d2_9) rfl (l' := #[.val (.ref w_AES_GCM_NOPADDING), .val (.int p1), .val (.ref kl_AES_GCM_NOPADDING), .val (.int (2 : Int32)), .val (.int (0 : Int32)), .unset]) rfl ?_
    show Sp p e below T1 (mkF m 11 #[.val (.ref w_AES_GCM_NOPADDING), .val (.int p1), .val (.ref kl_AES_GCM_NOPADDING), .val (.int (2 : Int32)), .val (.int (0 : Int32)), .unset] []) _
    refine XS.iload X1.here hx rfl (hb hby d2_11) rfl ?_
    show Sp p e below T1 (mkF m 13 #[.val (.ref w_AES_GCM_NOPADDING), .val (.int p1), .val (.ref kl_AES_GCM_NOPADDING), .val (.int (2 : Int32)), .val (.int (0 : Int32)), .unset] [(.int (0 : Int32))]) _
    refine XS.iloadN X1.here hx rfl (hb hby d2_13) rfl ?_
    show Sp p e below T1 (mkF m 14 #[.val (.ref w_AES_GCM_NOPADDING), .val (.int p1), .val (.ref kl_AES_GCM_NOPADDING), .val (.int (2 : Int32)), .val (.int (0 : Int32)), .unset] [(.int (2 : Int32)), (.int (0 : Int32))]) _
    refine XS.icmpNo X1.here hx rfl (hb hby d2_14) rfl (tlt (by decide : (0 : Int32) < (2 : Int32))).2.1 ?_
    show Sp p e below T1 (mkF m 17 #[.val (.ref w_AES_GCM_NOPADDING), .val (.int p1), .val (.ref kl_AES_GCM_NOPADDING), .val (.int (2 : Int32)), .val (.int (0 : Int32)), .unset] []) _
    refine XS.aloadN X1.here hx rfl (hb hby d2_17) rfl rfl ?_
    show Sp p e below T1 (mkF m 18 #[.val (.ref w_AES_GCM_NOPADDING), .val (.int p1), .val (.ref kl_AES_GCM_NOPADDING), .val (.int (2 : Int32)), .val (.int (0 : Int32)), .unset] [(.ref kl_AES_GCM_NOPADDING)]) _
    refine XS.iload X1.here hx rfl (hb hby d2_18) rfl ?_
    show Sp p e below T1 (mkF m 20 #[.val (.ref w_AES_GCM_NOPADDING), .val (.int p1), .val (.ref kl_AES_GCM_NOPADDING), .val (.int (2 : Int32)), .val (.int (0 : Int32)), .unset] [(.int (0 : Int32)), (.ref kl_AES_GCM_NOPADDING)]) _
    refine X1.iaload hx (j := (0 : Int32)) (v := (.int (16 : Int32))) (by rw [e1]; exact Ar3.1) (State.isArrayOf_alike hZ.alike Ar3.2.1) Ar3.2.2 hin3 hat3 (g := (mkF m 20 #[.val (.ref w_AES_GCM_NOPADDING), .val (.int p1), .val (.ref kl_AES_GCM_NOPADDING), .val (.int (2 : Int32)), .val (.int (0 : Int32)), .unset] [(.int (0 : Int32)), (.ref kl_AES_GCM_NOPADDING)])) rfl rfl (hb hby d2_20) _ ?_
    show Sp p e below T1 (mkF m 21 #[.val (.ref w_AES_GCM_NOPADDING), .val (.int p1), .val (.ref kl_AES_GCM_NOPADDING), .val (.int (2 : Int32)), .val (.int (0 : Int32)), .unset] [(.int (16 : Int32))]) _
    refine XS.istore X1.here hx rfl (hb hby d2_21) rfl (l' := #[.val (.ref w_AES_GCM_NOPADDING), .val (.int p1), .val (.ref kl_AES_GCM_NOPADDING), .val (.int (2 : Int32)), .val (.int (0 : Int32)), .val (.int (16 : Int32))]) rfl ?_
    show Sp p e below T1 (mkF m 23 #[.val (.ref w_AES_GCM_NOPADDING), .val (.int p1), .val (.ref kl_AES_GCM_NOPADDING), .val (.int (2 : Int32)), .val (.int (0 : Int32)), .val (.int (16 : Int32))] []) _
    refine XS.iload X1.here hx rfl (hb hby d2_23) rfl ?_
    show Sp p e below T1 (mkF m 25 #[.val (.ref w_AES_GCM_NOPADDING), .val (.int p1), .val (.ref kl_AES_GCM_NOPADDING), .val (.int (2 : Int32)), .val (.int (0 : Int32)), .val (.int (16 : Int32))] [(.int (16 : Int32))]) _
    refine XS.iloadN X1.here hx rfl (hb hby d2_25) rfl ?_
    show Sp p e below T1 (mkF m 26 #[.val (.ref w_AES_GCM_NOPADDING), .val (.int p1), .val (.ref kl_AES_GCM_NOPADDING), .val (.int (2 : Int32)), .val (.int (0 : Int32)), .val (.int (16 : Int32))] [(.int p1), (.int (16 : Int32))]) _
    refine XS.icmpNo X1.here hx rfl (hb hby d2_26) rfl (teq (Eq.symm hc1)).2 ?_
    show Sp p e below T1 (mkF m 29 #[.val (.ref w_AES_GCM_NOPADDING), .val (.int p1), .val (.ref kl_AES_GCM_NOPADDING), .val (.int (2 : Int32)), .val (.int (0 : Int32)), .val (.int (16 : Int32))] []) _
    refine XS.iconst X1.here hx rfl (hb hby d2_29) ?_
    show Sp p e below T1 (mkF m 30 #[.val (.ref w_AES_GCM_NOPADDING), .val (.int p1), .val (.ref kl_AES_GCM_NOPADDING), .val (.int (2 : Int32)), .val (.int (0 : Int32)), .val (.int (16 : Int32))] [(.int (1 : Int32))]) _
    exact retN X1 hx (t := .boolean) Bd.returns (by simp) (hb hby d2_30) hr
  · show Q8 Z w_AES_128_GCM w_AES_256_GCM w_AES_CBC_PKCS5PADDING w_AES_128_CBC w_AES_GCM_NOPADDING kl_AES_128_GCM kl_AES_256_GCM kl_AES_CBC_PKCS5PADDING kl_AES_128_CBC kl_AES_GCM_NOPADDING k_kl_AES_128_GCM k_kl_AES_256_GCM k_kl_AES_CBC_PKCS5PADDING k_kl_AES_128_CBC k_kl_AES_GCM_NOPADDING p1 h0 n0 _ T1.heap _
    rw [e1]
    exact ⟨rfl, N0, rfl⟩
set_option maxRecDepth 65536 in
set_option maxHeartbeats 40000000 in
theorem rm9 (l : Launch) (Z : State) (a0 : Array Value) (hw : ∀ d ∈ tables_1, d.before a0 Z = true) (ws : List Jvm.Cond) (w_AES_128_GCM w_AES_256_GCM w_AES_CBC_PKCS5PADDING w_AES_128_CBC w_AES_GCM_NOPADDING kl_AES_128_GCM kl_AES_256_GCM kl_AES_CBC_PKCS5PADDING kl_AES_128_CBC kl_AES_GCM_NOPADDING : Addr) (k_kl_AES_128_GCM : ClassId) (k_kl_AES_256_GCM : ClassId) (k_kl_AES_CBC_PKCS5PADDING : ClassId) (k_kl_AES_128_CBC : ClassId) (k_kl_AES_GCM_NOPADDING : ClassId) (hp : Perm Z w_AES_128_GCM w_AES_256_GCM w_AES_CBC_PKCS5PADDING w_AES_128_CBC w_AES_GCM_NOPADDING kl_AES_128_GCM kl_AES_256_GCM kl_AES_CBC_PKCS5PADDING kl_AES_128_CBC kl_AES_GCM_NOPADDING k_kl_AES_128_GCM k_kl_AES_256_GCM k_kl_AES_CBC_PKCS5PADDING k_kl_AES_128_CBC k_kl_AES_GCM_NOPADDING) (p0 : Int32) (p1 : Int32) (p2 : Int32) (z5 : Int32) (h0 : Heap) (n0 : Nat) (O0 : Old Z n0 h0) (hcut : Cut_0_12 p0 p1 p2 ((p0 &&& (2147483647 : Int32)) % (5 : Int32)) (p1 &&& (3 : Int32)) z5) (hc2 : ¬ (((p0 &&& (2147483647 : Int32)) % (5 : Int32)) = (0 : Int32))) (hc3 : ¬ (((p0 &&& (2147483647 : Int32)) % (5 : Int32)) = (1 : Int32))) (hc4 : ((p0 &&& (2147483647 : Int32)) % (5 : Int32)) = (2 : Int32)) (hc5 : z5 = (16 : Int32)) :
    MetFree l x (head1 (Jvm.Cond.code x code maxLocals ret :: ws) room_1) (fun a U => a = #[(.int p0), (.int p1), (.int p2)] ∧ Z.Warmed39 U.vm ∧ U.heap = h0) (fun _ _ _ _ _ => True) (fun _ U o U' => ∃ v L, o = .returned v ∧ (v = some (.int (1 : Int32)) ∧ Fr n0 L) ∧ FrameEnd U o U' L 0 0) := by
  refine MetFree.of_bodySF (plainFor_of_name pn_1) hisR ?_
  intro p e s m args below meth c s₁ Bd hml0 hP hK
  obtain ⟨rfl, hZ, hh⟩ := hP
  have hx := Bd.exec
  have hby := Bd.bytes
  have hml : c.maxLocals = 10 := hml0
  have hown : s.vm.findClass "com/example/cloakfield/cloakfield/crypto/EncryptionAlgorithmAcceptsKeyLengthPinLaw" = some m.cls := findClass_of_methodNamed Bd.named
  have hnm := (name_of_methodNamed Bd.named Bd.method).1
  have X0 : Stand p l e room_1 s m #[(.int p0), (.int p1), (.int p2)] below meth c s₁ [] 0 0 := Stand.of_body Bd
  have e0 : s₁.heap = h0 := by rw [← hh, Bd.state]; rfl
  have N0 := Fr.nil n0
  have hp' := hp
  obtain ⟨S_w_AES_128_GCM, E_w_AES_128_GCM, S_w_AES_256_GCM, E_w_AES_256_GCM, S_w_AES_CBC_PKCS5PADDING, E_w_AES_CBC_PKCS5PADDING, S_w_AES_128_CBC, E_w_AES_128_CBC, S_w_AES_GCM_NOPADDING, E_w_AES_GCM_NOPADDING, F_keyLengths_w_AES_128_GCM, V_kl_AES_128_GCM, F_keyLengths_w_AES_256_GCM, V_kl_AES_256_GCM, F_keyLengths_w_AES_CBC_PKCS5PADDING, V_kl_AES_CBC_PKCS5PADDING, F_keyLengths_w_AES_128_CBC, V_kl_AES_128_CBC, F_keyLengths_w_AES_GCM_NOPADDING, V_kl_AES_GCM_NOPADDING⟩ := hp'
  have pre0 : ∀ t, Steps p.tables e below (s₁.setTop (mkF m 0 #[.val (.int p0), .val (.int p1), .val (.int p2), .unset, .unset, .unset, .unset, .unset, .unset, .unset] [])) t → Steps p.tables e below (s₁.setTop (entryFrame m #[(.int p0), (.int p1), (.int p2)] maxLocals)) t := fun t k => castTop (ef_0_0 m p0 p1 p2) k
  have st1 := hcut X0 hx hZ hw hby hown
  obtain ⟨_, _, ⟨T2, L2, k2, n2⟩, -, X2, ⟨Lc2, hQ2, l2, y2, z2⟩, st2⟩ := Jvm.LawKit.callS X0 hx (y := y0) hown (mvT hZ (hw _ (List.mem_of_getElem? (i := 1) rfl))) (mvT hZ (hw _ (List.mem_of_getElem? (i := 2) rfl))) (mvT hZ (hw _ (List.mem_of_getElem? (i := 3) rfl))) (mvT hZ (hw _ (List.mem_of_getElem? (i := 4) rfl))) (by decide) (backOf (W := 0) (rm7 l Z a0 hw [] w_AES_128_GCM w_AES_256_GCM w_AES_CBC_PKCS5PADDING w_AES_128_CBC w_AES_GCM_NOPADDING kl_AES_128_GCM kl_AES_256_GCM kl_AES_CBC_PKCS5PADDING kl_AES_128_CBC kl_AES_GCM_NOPADDING k_kl_AES_128_GCM k_kl_AES_256_GCM k_kl_AES_CBC_PKCS5PADDING k_kl_AES_128_CBC k_kl_AES_GCM_NOPADDING hp ((p0 &&& (2147483647 : Int32)) % (5 : Int32)) h0 n0 O0 hc2 hc3 hc4) hZ (hw _ (List.mem_of_getElem? (i := 4) rfl)) (hw _ (List.mem_of_getElem? (i := 3) rfl)) (by decide) (by decide)) (g := (mkF m 59 #[.val (.int p0), .val (.int p1), .val (.int p2), .val (.int ((p0 &&& (2147483647 : Int32)) % (5 : Int32))), .val (.int (p1 &&& (3 : Int32))), .val (.int z5), .unset, .unset, .unset, .unset] [(.int ((p0 &&& (2147483647 : Int32)) % (5 : Int32)))])) rfl (by rw [hml]; rfl) (argsL := [(.int ((p0 &&& (2147483647 : Int32)) % (5 : Int32)))]) (rest := []) (lenOf pd_0 rfl) rfl (by show 2 * 0 + _ ≤ _; exact Nat.le_of_eq rfl) (hb hby at_59) (fun _ _ => ⟨rfl, e0, (by decide : 0 + 0 ≤ _), (by decide : 0 + 0 ≤ _)⟩)
  dsimp only [Pt.U, Pt.locs, Pt.cells, Pt.slots] at X2 l2 y2 z2 st2 hQ2
  subst l2 y2 z2
  obtain ⟨rfl, Nq2, eq2⟩ := hQ2
  have N2 := Fr.app N0 Nq2
  obtain ⟨cq3, kq3, q3a, q3b, q3c⟩ := isOf hZ eq2 (E_w_AES_GCM_NOPADDING.ext O0.2)
  obtain ⟨_, _, ⟨T3, L3, k3, n3⟩, -, X3, ⟨Lc3, hQ3, l3, y3, z3⟩, st3⟩ := X2.virtualBack hx (y := y1) (z := y1) hown (mvT hZ (hw _ (List.mem_of_getElem? (i := 8) rfl))) (mvT hZ (hw _ (List.mem_of_getElem? (i := 9) rfl))) (notFace_of_selects (args := #[]) (mvT hZ (hw _ (List.mem_of_getElem? (i := 11) rfl)))) (mvT hZ (hw _ (List.mem_of_getElem? (i := 11) rfl))) (mvT hZ (hw _ (List.mem_of_getElem? (i := 10) rfl))) (by decide) (backOf (W := 0) (rm8 l Z a0 hw [] w_AES_128_GCM w_AES_256_GCM w_AES_CBC_PKCS5PADDING w_AES_128_CBC w_AES_GCM_NOPADDING kl_AES_128_GCM kl_AES_256_GCM kl_AES_CBC_PKCS5PADDING kl_AES_128_CBC kl_AES_GCM_NOPADDING k_kl_AES_128_GCM k_kl_AES_256_GCM k_kl_AES_CBC_PKCS5PADDING k_kl_AES_128_CBC k_kl_AES_GCM_NOPADDING hp z5 h0 n0 O0 hc5) hZ (hw _ (List.mem_of_getElem? (i := 12) rfl)) (hw _ (List.mem_of_getElem? (i := 6) rfl)) (by decide) (by decide)) q3a q3c (g := (mkF m 147 #[.val (.int p0), .val (.int p1), .val (.int p2), .val (.int ((p0 &&& (2147483647 : Int32)) % (5 : Int32))), .val (.int (p1 &&& (3 : Int32))), .val (.int z5), .val (.ref w_AES_GCM_NOPADDING), .val (.int (1 : Int32)), .val (.int (1 : Int32)), .val (.int (1 : Int32))] [(.int z5), (.ref w_AES_GCM_NOPADDING)])) rfl (by rw [hml]; rfl) (Steps.refl _) (argsL := [(.int z5)]) (rest := []) (lenOf pd_1 rfl) rfl (by show 2 * 0 + _ ≤ _; exact Nat.le_of_eq rfl) (hb hby at_147) (fun _ _ => ⟨rfl, eq2, (by decide : 0 + 0 ≤ _), (by decide : 0 + 0 ≤ _)⟩)
  dsimp only [Pt.U, Pt.locs, Pt.cells, Pt.slots] at X3 l3 y3 z3 st3 hQ3
  subst l3 y3 z3
  obtain ⟨rfl, Nq3, eq3⟩ := hQ3
  have N3 := Fr.app N2 Nq3
  obtain ⟨fs, hr, hrun, hended, hW, hsame⟩ := X3.leave (v := some (.int (1 : Int32))) (fun h => by rw [Bd.returns] at h; cases h)
  refine ⟨_, _, pre0 _ ?_, hrun, hended, _, _, rfl, ?_, ⟨_, rfl⟩, hW, hsame.mono (by decide) (by decide)⟩
  · show Sp p e below s₁ (mkF m 0 #[.val (.int p0), .val (.int p1), .val (.int p2), .unset, .unset, .unset, .unset, .unset, .unset, .unset] []) _
    refine XS.iloadN X0.here hx rfl (hb hby at_0) rfl ?_
    show Sp p e below s₁ (mkF m 1 #[.val (.int p0), .val (.int p1), .val (.int p2), .unset, .unset, .unset, .unset, .unset, .unset, .unset] [(.int p0)]) _
    refine X0.ldcI hx hown (mvT hZ (hw _ (List.mem_of_getElem? (i := 0) rfl))) rfl (hb hby at_1) ?_
    show Sp p e below s₁ (mkF m 3 #[.val (.int p0), .val (.int p1), .val (.int p2), .unset, .unset, .unset, .unset, .unset, .unset, .unset] [(.int (2147483647 : Int32)), (.int p0)]) _
    refine XS.iand X0.here hx rfl (hb hby at_3) rfl ?_
    show Sp p e below s₁ (mkF m 4 #[.val (.int p0), .val (.int p1), .val (.int p2), .unset, .unset, .unset, .unset, .unset, .unset, .unset] [(.int (p0 &&& (2147483647 : Int32)))]) _
    refine XS.iconst X0.here hx rfl (hb hby at_4) ?_
    show Sp p e below s₁ (mkF m 5 #[.val (.int p0), .val (.int p1), .val (.int p2), .unset, .unset, .unset, .unset, .unset, .unset, .unset] [(.int (5 : Int32)), (.int (p0 &&& (2147483647 : Int32)))]) _
    refine iremM X0 hx rfl (hb hby at_5) rfl (by decide) ?_
    show Sp p e below s₁ (mkF m 6 #[.val (.int p0), .val (.int p1), .val (.int p2), .unset, .unset, .unset, .unset, .unset, .unset, .unset] [(.int ((p0 &&& (2147483647 : Int32)) % (5 : Int32)))]) _
    refine XS.istoreN X0.here hx rfl (hb hby at_6) rfl (l' := #[.val (.int p0), .val (.int p1), .val (.int p2), .val (.int ((p0 &&& (2147483647 : Int32)) % (5 : Int32))), .unset, .unset, .unset, .unset, .unset, .unset]) rfl ?_
    show Sp p e below s₁ (mkF m 7 #[.val (.int p0), .val (.int p1), .val (.int p2), .val (.int ((p0 &&& (2147483647 : Int32)) % (5 : Int32))), .unset, .unset, .unset, .unset, .unset, .unset] []) _
    refine XS.iloadN X0.here hx rfl (hb hby at_7) rfl ?_
    show Sp p e below s₁ (mkF m 8 #[.val (.int p0), .val (.int p1), .val (.int p2), .val (.int ((p0 &&& (2147483647 : Int32)) % (5 : Int32))), .unset, .unset, .unset, .unset, .unset, .unset] [(.int p1)]) _
    refine XS.iconst X0.here hx rfl (hb hby at_8) ?_
    show Sp p e below s₁ (mkF m 9 #[.val (.int p0), .val (.int p1), .val (.int p2), .val (.int ((p0 &&& (2147483647 : Int32)) % (5 : Int32))), .unset, .unset, .unset, .unset, .unset, .unset] [(.int (3 : Int32)), (.int p1)]) _
    refine XS.iand X0.here hx rfl (hb hby at_9) rfl ?_
    show Sp p e below s₁ (mkF m 10 #[.val (.int p0), .val (.int p1), .val (.int p2), .val (.int ((p0 &&& (2147483647 : Int32)) % (5 : Int32))), .unset, .unset, .unset, .unset, .unset, .unset] [(.int (p1 &&& (3 : Int32)))]) _
    refine XS.istore X0.here hx rfl (hb hby at_10) rfl (l' := #[.val (.int p0), .val (.int p1), .val (.int p2), .val (.int ((p0 &&& (2147483647 : Int32)) % (5 : Int32))), .val (.int (p1 &&& (3 : Int32))), .unset, .unset, .unset, .unset, .unset]) rfl ?_
    show Sp p e below s₁ (mkF m 12 #[.val (.int p0), .val (.int p1), .val (.int p2), .val (.int ((p0 &&& (2147483647 : Int32)) % (5 : Int32))), .val (.int (p1 &&& (3 : Int32))), .unset, .unset, .unset, .unset, .unset] []) _
    refine st1 _ ?_
    show Sp p e below s₁ (mkF m 58 #[.val (.int p0), .val (.int p1), .val (.int p2), .val (.int ((p0 &&& (2147483647 : Int32)) % (5 : Int32))), .val (.int (p1 &&& (3 : Int32))), .val (.int z5), .unset, .unset, .unset, .unset] []) _
    refine XS.iloadN X0.here hx rfl (hb hby at_58) rfl ?_
    show Sp p e below s₁ (mkF m 59 #[.val (.int p0), .val (.int p1), .val (.int p2), .val (.int ((p0 &&& (2147483647 : Int32)) % (5 : Int32))), .val (.int (p1 &&& (3 : Int32))), .val (.int z5), .unset, .unset, .unset, .unset] [(.int ((p0 &&& (2147483647 : Int32)) % (5 : Int32)))]) _
    refine st2 _ ?_
    show Sp p e below T2 (mkF m 62 #[.val (.int p0), .val (.int p1), .val (.int p2), .val (.int ((p0 &&& (2147483647 : Int32)) % (5 : Int32))), .val (.int (p1 &&& (3 : Int32))), .val (.int z5), .unset, .unset, .unset, .unset] [(.ref w_AES_GCM_NOPADDING)]) _
    refine XS.astore X2.here hx rfl (hb hby at_62) rfl rfl (l' := #[.val (.int p0), .val (.int p1), .val (.int p2), .val (.int ((p0 &&& (2147483647 : Int32)) % (5 : Int32))), .val (.int (p1 &&& (3 : Int32))), .val (.int z5), .val (.ref w_AES_GCM_NOPADDING), .unset, .unset, .unset]) rfl ?_
    show Sp p e below T2 (mkF m 64 #[.val (.int p0), .val (.int p1), .val (.int p2), .val (.int ((p0 &&& (2147483647 : Int32)) % (5 : Int32))), .val (.int (p1 &&& (3 : Int32))), .val (.int z5), .val (.ref w_AES_GCM_NOPADDING), .unset, .unset, .unset] []) _
    refine XS.iloadN X2.here hx rfl (hb hby at_64) rfl ?_
    show Sp p e below T2 (mkF m 65 #[.val (.int p0), .val (.int p1), .val (.int p2), .val (.int ((p0 &&& (2147483647 : Int32)) % (5 : Int32))), .val (.int (p1 &&& (3 : Int32))), .val (.int z5), .val (.ref w_AES_GCM_NOPADDING), .unset, .unset, .unset] [(.int ((p0 &&& (2147483647 : Int32)) % (5 : Int32)))]) _
    refine XS.ifNo X2.here hx rfl (hb hby at_65) rfl ((if0 _ _).trans (feq hc2).1) ?_
    show Sp p e below T2 (mkF m 68 #[.val (.int p0), .val (.int p1), .val (.int p2), .val (.int ((p0 &&& (2147483647 : Int32)) % (5 : Int32))), .val (.int (p1 &&& (3 : Int32))), .val (.int z5), .val (.ref w_AES_GCM_NOPADDING), .unset, .unset, .unset] []) _
    refine XS.iloadN X2.here hx rfl (hb hby at_68) rfl ?_
    show Sp p e below T2 (mkF m 69 #[.val (.int p0), .val (.int p1), .val (.int p2), .val (.int ((p0 &&& (2147483647 : Int32)) % (5 : Int32))), .val (.int (p1 &&& (3 : Int32))), .val (.int z5), .val (.ref w_AES_GCM_NOPADDING), .unset, .unset, .unset] [(.int ((p0 &&& (2147483647 : Int32)) % (5 : Int32)))]) _
    refine XS.iconst X2.here hx rfl (hb hby at_69) ?_
    show Sp p e below T2 (mkF m 70 #[.val (.int p0), .val (.int p1), .val (.int p2), .val (.int ((p0 &&& (2147483647 : Int32)) % (5 : Int32))), .val (.int (p1 &&& (3 : Int32))), .val (.int z5), .val (.ref w_AES_GCM_NOPADDING), .unset, .unset, .unset] [(.int (2 : Int32)), (.int ((p0 &&& (2147483647 : Int32)) % (5 : Int32)))]) _
    refine XS.icmpYes X2.here hx rfl (pc0 := 70) (pc' := 83) rfl (hb hby at_70) rfl (teq hc4).1 (by decide) (by decide) ?_
    show Sp p e below T2 (mkF m 83 #[.val (.int p0), .val (.int p1), .val (.int p2), .val (.int ((p0 &&& (2147483647 : Int32)) % (5 : Int32))), .val (.int (p1 &&& (3 : Int32))), .val (.int z5), .val (.ref w_AES_GCM_NOPADDING), .unset, .unset, .unset] []) _
    refine XS.iconst X2.here hx rfl (hb hby at_83) ?_
    show Sp p e below T2 (mkF m 84 #[.val (.int p0), .val (.int p1), .val (.int p2), .val (.int ((p0 &&& (2147483647 : Int32)) % (5 : Int32))), .val (.int (p1 &&& (3 : Int32))), .val (.int z5), .val (.ref w_AES_GCM_NOPADDING), .unset, .unset, .unset] [(.int (1 : Int32))]) _
    refine XS.goto X2.here hx rfl (pc0 := 84) (pc' := 88) rfl (hb hby at_84) (by decide) (by decide) ?_
    show Sp p e below T2 (mkF m 88 #[.val (.int p0), .val (.int p1), .val (.int p2), .val (.int ((p0 &&& (2147483647 : Int32)) % (5 : Int32))), .val (.int (p1 &&& (3 : Int32))), .val (.int z5), .val (.ref w_AES_GCM_NOPADDING), .unset, .unset, .unset] [(.int (1 : Int32))]) _
    refine XS.istore X2.here hx rfl (hb hby at_88) rfl (l' := #[.val (.int p0), .val (.int p1), .val (.int p2), .val (.int ((p0 &&& (2147483647 : Int32)) % (5 : Int32))), .val (.int (p1 &&& (3 : Int32))), .val (.int z5), .val (.ref w_AES_GCM_NOPADDING), .val (.int (1 : Int32)), .unset, .unset]) rfl ?_
    show Sp p e below T2 (mkF m 90 #[.val (.int p0), .val (.int p1), .val (.int p2), .val (.int ((p0 &&& (2147483647 : Int32)) % (5 : Int32))), .val (.int (p1 &&& (3 : Int32))), .val (.int z5), .val (.ref w_AES_GCM_NOPADDING), .val (.int (1 : Int32)), .unset, .unset] []) _
    refine XS.iloadN X2.here hx rfl (hb hby at_90) rfl ?_
    show Sp p e below T2 (mkF m 91 #[.val (.int p0), .val (.int p1), .val (.int p2), .val (.int ((p0 &&& (2147483647 : Int32)) % (5 : Int32))), .val (.int (p1 &&& (3 : Int32))), .val (.int z5), .val (.ref w_AES_GCM_NOPADDING), .val (.int (1 : Int32)), .unset, .unset] [(.int ((p0 &&& (2147483647 : Int32)) % (5 : Int32)))]) _
    refine XS.iconst X2.here hx rfl (hb hby at_91) ?_
    show Sp p e below T2 (mkF m 92 #[.val (.int p0), .val (.int p1), .val (.int p2), .val (.int ((p0 &&& (2147483647 : Int32)) % (5 : Int32))), .val (.int (p1 &&& (3 : Int32))), .val (.int z5), .val (.ref w_AES_GCM_NOPADDING), .val (.int (1 : Int32)), .unset, .unset] [(.int (1 : Int32)), (.int ((p0 &&& (2147483647 : Int32)) % (5 : Int32)))]) _
    refine XS.icmpNo X2.here hx rfl (hb hby at_92) rfl (feq hc3).1 ?_
    show Sp p e below T2 (mkF m 95 #[.val (.int p0), .val (.int p1), .val (.int p2), .val (.int ((p0 &&& (2147483647 : Int32)) % (5 : Int32))), .val (.int (p1 &&& (3 : Int32))), .val (.int z5), .val (.ref w_AES_GCM_NOPADDING), .val (.int (1 : Int32)), .unset, .unset] []) _
    refine XS.iloadN X2.here hx rfl (hb hby at_95) rfl ?_
    show Sp p e below T2 (mkF m 96 #[.val (.int p0), .val (.int p1), .val (.int p2), .val (.int ((p0 &&& (2147483647 : Int32)) % (5 : Int32))), .val (.int (p1 &&& (3 : Int32))), .val (.int z5), .val (.ref w_AES_GCM_NOPADDING), .val (.int (1 : Int32)), .unset, .unset] [(.int ((p0 &&& (2147483647 : Int32)) % (5 : Int32)))]) _
    refine XS.iconst X2.here hx rfl (hb hby at_96) ?_
    show Sp p e below T2 (mkF m 97 #[.val (.int p0), .val (.int p1), .val (.int p2), .val (.int ((p0 &&& (2147483647 : Int32)) % (5 : Int32))), .val (.int (p1 &&& (3 : Int32))), .val (.int z5), .val (.ref w_AES_GCM_NOPADDING), .val (.int (1 : Int32)), .unset, .unset] [(.int (2 : Int32)), (.int ((p0 &&& (2147483647 : Int32)) % (5 : Int32)))]) _
    refine XS.icmpYes X2.here hx rfl (pc0 := 97) (pc' := 105) rfl (hb hby at_97) rfl (teq hc4).1 (by decide) (by decide) ?_
    show Sp p e below T2 (mkF m 105 #[.val (.int p0), .val (.int p1), .val (.int p2), .val (.int ((p0 &&& (2147483647 : Int32)) % (5 : Int32))), .val (.int (p1 &&& (3 : Int32))), .val (.int z5), .val (.ref w_AES_GCM_NOPADDING), .val (.int (1 : Int32)), .unset, .unset] []) _
    refine XS.iconst X2.here hx rfl (hb hby at_105) ?_
    show Sp p e below T2 (mkF m 106 #[.val (.int p0), .val (.int p1), .val (.int p2), .val (.int ((p0 &&& (2147483647 : Int32)) % (5 : Int32))), .val (.int (p1 &&& (3 : Int32))), .val (.int z5), .val (.ref w_AES_GCM_NOPADDING), .val (.int (1 : Int32)), .unset, .unset] [(.int (1 : Int32))]) _
    refine XS.goto X2.here hx rfl (pc0 := 106) (pc' := 110) rfl (hb hby at_106) (by decide) (by decide) ?_
    show Sp p e below T2 (mkF m 110 #[.val (.int p0), .val (.int p1), .val (.int p2), .val (.int ((p0 &&& (2147483647 : Int32)) % (5 : Int32))), .val (.int (p1 &&& (3 : Int32))), .val (.int z5), .val (.ref w_AES_GCM_NOPADDING), .val (.int (1 : Int32)), .unset, .unset] [(.int (1 : Int32))]) _
    refine XS.istore X2.here hx rfl (hb hby at_110) rfl (l' := #[.val (.int p0), .val (.int p1), .val (.int p2), .val (.int ((p0 &&& (2147483647 : Int32)) % (5 : Int32))), .val (.int (p1 &&& (3 : Int32))), .val (.int z5), .val (.ref w_AES_GCM_NOPADDING), .val (.int (1 : Int32)), .val (.int (1 : Int32)), .unset]) rfl ?_
    show Sp p e below T2 (mkF m 112 #[.val (.int p0), .val (.int p1), .val (.int p2), .val (.int ((p0 &&& (2147483647 : Int32)) % (5 : Int32))), .val (.int (p1 &&& (3 : Int32))), .val (.int z5), .val (.ref w_AES_GCM_NOPADDING), .val (.int (1 : Int32)), .val (.int (1 : Int32)), .unset] []) _
    refine XS.iload X2.here hx rfl (hb hby at_112) rfl ?_
    show Sp p e below T2 (mkF m 114 #[.val (.int p0), .val (.int p1), .val (.int p2), .val (.int ((p0 &&& (2147483647 : Int32)) % (5 : Int32))), .val (.int (p1 &&& (3 : Int32))), .val (.int z5), .val (.ref w_AES_GCM_NOPADDING), .val (.int (1 : Int32)), .val (.int (1 : Int32)), .unset] [(.int z5)]) _
    refine XS.bipush X2.here hx rfl (hb hby at_114) ?_
    show Sp p e below T2 (mkF m 116 #[.val (.int p0), .val (.int p1), .val (.int p2), .val (.int ((p0 &&& (2147483647 : Int32)) % (5 : Int32))), .val (.int (p1 &&& (3 : Int32))), .val (.int z5), .val (.ref w_AES_GCM_NOPADDING), .val (.int (1 : Int32)), .val (.int (1 : Int32)), .unset] [(.int (16 : Int32)), (.int z5)]) _
    refine XS.icmpNo X2.here hx rfl (hb hby at_116) rfl (teq hc5).2 ?_
    show Sp p e below T2 (mkF m 119 #[.val (.int p0), .val (.int p1), .val (.int p2), .val (.int ((p0 &&& (2147483647 : Int32)) % (5 : Int32))), .val (.int (p1 &&& (3 : Int32))), .val (.int z5), .val (.ref w_AES_GCM_NOPADDING), .val (.int (1 : Int32)), .val (.int (1 : Int32)), .unset] []) _
    refine XS.iload X2.here hx rfl (hb hby at_119) rfl ?_
    show Sp p e below T2 (mkF m 121 #[.val (.int p0), .val (.int p1), .val (.int p2), .val (.int ((p0 &&& (2147483647 : Int32)) % (5 : Int32))), .val (.int (p1 &&& (3 : Int32))), .val (.int z5), .val (.ref w_AES_GCM_NOPADDING), .val (.int (1 : Int32)), .val (.int (1 : Int32)), .unset] [(.int (1 : Int32))]) _
    refine XS.ifYes X2.here hx rfl (pc0 := 121) (pc' := 136) rfl (hb hby at_121) rfl ((if0 _ _).trans (feq (by decide : ¬ ((1 : Int32) = (0 : Int32)))).2) (by decide) (by decide) ?_
    show Sp p e below T2 (mkF m 136 #[.val (.int p0), .val (.int p1), .val (.int p2), .val (.int ((p0 &&& (2147483647 : Int32)) % (5 : Int32))), .val (.int (p1 &&& (3 : Int32))), .val (.int z5), .val (.ref w_AES_GCM_NOPADDING), .val (.int (1 : Int32)), .val (.int (1 : Int32)), .unset] []) _
    refine XS.iconst X2.here hx rfl (hb hby at_136) ?_
    show Sp p e below T2 (mkF m 137 #[.val (.int p0), .val (.int p1), .val (.int p2), .val (.int ((p0 &&& (2147483647 : Int32)) % (5 : Int32))), .val (.int (p1 &&& (3 : Int32))), .val (.int z5), .val (.ref w_AES_GCM_NOPADDING), .val (.int (1 : Int32)), .val (.int (1 : Int32)), .unset] [(.int (1 : Int32))]) _
    refine XS.goto X2.here hx rfl (pc0 := 137) (pc' := 141) rfl (hb hby at_137) (by decide) (by decide) ?_
    show Sp p e below T2 (mkF m 141 #[.val (.int p0), .val (.int p1), .val (.int p2), .val (.int ((p0 &&& (2147483647 : Int32)) % (5 : Int32))), .val (.int (p1 &&& (3 : Int32))), .val (.int z5), .val (.ref w_AES_GCM_NOPADDING), .val (.int (1 : Int32)), .val (.int (1 : Int32)), .unset] [(.int (1 : Int32))]) _
    refine XS.istore X2.here hx rfl (hb hby at_141) rfl (l' := #[.val (.int p0), .val (.int p1), .val (.int p2), .val (.int ((p0 &&& (2147483647 : Int32)) % (5 : Int32))), .val (.int (p1 &&& (3 : Int32))), .val (.int z5), .val (.ref w_AES_GCM_NOPADDING), .val (.int (1 : Int32)), .val (.int (1 : Int32)), .val (.int (1 : Int32))]) rfl ?_
    show Sp p e below T2 (mkF m 143 #[.val (.int p0), .val (.int p1), .val (.int p2), .val (.int ((p0 &&& (2147483647 : Int32)) % (5 : Int32))), .val (.int (p1 &&& (3 : Int32))), .val (.int z5), .val (.ref w_AES_GCM_NOPADDING), .val (.int (1 : Int32)), .val (.int (1 : Int32)), .val (.int (1 : Int32))] []) _
    refine XS.aload X2.here hx rfl (hb hby at_143) rfl rfl ?_
    show Sp p e below T2 (mkF m 145 #[.val (.int p0), .val (.int p1), .val (.int p2), .val (.int ((p0 &&& (2147483647 : Int32)) % (5 : Int32))), .val (.int (p1 &&& (3 : Int32))), .val (.int z5), .val (.ref w_AES_GCM_NOPADDING), .val (.int (1 : Int32)), .val (.int (1 : Int32)), .val (.int (1 : Int32))] [(.ref w_AES_GCM_NOPADDING)]) _
    refine XS.iload X2.here hx rfl (hb hby at_145) rfl ?_
    show Sp p e below T2 (mkF m 147 #[.val (.int p0), .val (.int p1), .val (.int p2), .val (.int ((p0 &&& (2147483647 : Int32)) % (5 : Int32))), .val (.int (p1 &&& (3 : Int32))), .val (.int z5), .val (.ref w_AES_GCM_NOPADDING), .val (.int (1 : Int32)), .val (.int (1 : Int32)), .val (.int (1 : Int32))] [(.int z5), (.ref w_AES_GCM_NOPADDING)]) _
    refine st3.trans ?_
    show Sp p e below T3 (mkF m 150 #[.val (.int p0), .val (.int p1), .val (.int p2), .val (.int ((p0 &&& (2147483647 : Int32)) % (5 : Int32))), .val (.int (p1 &&& (3 : Int32))), .val (.int z5), .val (.ref w_AES_GCM_NOPADDING), .val (.int (1 : Int32)), .val (.int (1 : Int32)), .val (.int (1 : Int32))] [(.int (1 : Int32))]) _
    refine XS.iload X3.here hx rfl (hb hby at_150) rfl ?_
    show Sp p e below T3 (mkF m 152 #[.val (.int p0), .val (.int p1), .val (.int p2), .val (.int ((p0 &&& (2147483647 : Int32)) % (5 : Int32))), .val (.int (p1 &&& (3 : Int32))), .val (.int z5), .val (.ref w_AES_GCM_NOPADDING), .val (.int (1 : Int32)), .val (.int (1 : Int32)), .val (.int (1 : Int32))] [(.int (1 : Int32)), (.int (1 : Int32))]) _
    refine XS.icmpNo X3.here hx rfl (hb hby at_152) rfl (teq (by decide : (1 : Int32) = (1 : Int32))).2 ?_
    show Sp p e below T3 (mkF m 155 #[.val (.int p0), .val (.int p1), .val (.int p2), .val (.int ((p0 &&& (2147483647 : Int32)) % (5 : Int32))), .val (.int (p1 &&& (3 : Int32))), .val (.int z5), .val (.ref w_AES_GCM_NOPADDING), .val (.int (1 : Int32)), .val (.int (1 : Int32)), .val (.int (1 : Int32))] []) _
    refine XS.iconst X3.here hx rfl (hb hby at_155) ?_
    show Sp p e below T3 (mkF m 156 #[.val (.int p0), .val (.int p1), .val (.int p2), .val (.int ((p0 &&& (2147483647 : Int32)) % (5 : Int32))), .val (.int (p1 &&& (3 : Int32))), .val (.int z5), .val (.ref w_AES_GCM_NOPADDING), .val (.int (1 : Int32)), .val (.int (1 : Int32)), .val (.int (1 : Int32))] [(.int (1 : Int32))]) _
    refine XS.goto X3.here hx rfl (pc0 := 156) (pc' := 160) rfl (hb hby at_156) (by decide) (by decide) ?_
    show Sp p e below T3 (mkF m 160 #[.val (.int p0), .val (.int p1), .val (.int p2), .val (.int ((p0 &&& (2147483647 : Int32)) % (5 : Int32))), .val (.int (p1 &&& (3 : Int32))), .val (.int z5), .val (.ref w_AES_GCM_NOPADDING), .val (.int (1 : Int32)), .val (.int (1 : Int32)), .val (.int (1 : Int32))] [(.int (1 : Int32))]) _
    exact retN X3 hx (t := .boolean) Bd.returns (by simp) (hb hby at_160) hr
  · skip
    exact ⟨rfl, N3⟩
theorem d1_26 : decode method_2_code 26 = .ok (.iload_n 0, 1) := by decide +kernel
theorem d1_27 : decode method_2_code 27 = .ok (.iconst 3, 1) := by decide +kernel
theorem d1_28 : decode method_2_code 28 = .ok (.if_icmp .ne 7, 3) := by decide +kernel
theorem d1_31 : decode method_2_code 31 = .ok (.getstatic 19, 3) := by decide +kernel
theorem d1_34 : decode method_2_code 34 = .ok (.areturn, 1) := by decide +kernel
def Q10 (Z : State) (w_AES_128_GCM : Addr) (w_AES_256_GCM : Addr) (w_AES_CBC_PKCS5PADDING : Addr) (w_AES_128_CBC : Addr) (w_AES_GCM_NOPADDING : Addr) (kl_AES_128_GCM : Addr) (kl_AES_256_GCM : Addr) (kl_AES_CBC_PKCS5PADDING : Addr) (kl_AES_128_CBC : Addr) (kl_AES_GCM_NOPADDING : Addr) (k_kl_AES_128_GCM : ClassId) (k_kl_AES_256_GCM : ClassId) (k_kl_AES_CBC_PKCS5PADDING : ClassId) (k_kl_AES_128_CBC : ClassId) (k_kl_AES_GCM_NOPADDING : ClassId) (p1 : Int32) (h0 : Heap) (n0 : Nat) (v : Option Value) (h : Heap) (L : List Loc) : Prop := v = some (.ref w_AES_128_CBC) ∧ Fr n0 L ∧ h = h0
set_option maxRecDepth 65536 in
set_option maxHeartbeats 40000000 in
theorem rm10 (l : Launch) (Z : State) (a0 : Array Value) (hw : ∀ d ∈ tables_1, d.before a0 Z = true) (ws : List Jvm.Cond) (w_AES_128_GCM w_AES_256_GCM w_AES_CBC_PKCS5PADDING w_AES_128_CBC w_AES_GCM_NOPADDING kl_AES_128_GCM kl_AES_256_GCM kl_AES_CBC_PKCS5PADDING kl_AES_128_CBC kl_AES_GCM_NOPADDING : Addr) (k_kl_AES_128_GCM : ClassId) (k_kl_AES_256_GCM : ClassId) (k_kl_AES_CBC_PKCS5PADDING : ClassId) (k_kl_AES_128_CBC : ClassId) (k_kl_AES_GCM_NOPADDING : ClassId) (hp : Perm Z w_AES_128_GCM w_AES_256_GCM w_AES_CBC_PKCS5PADDING w_AES_128_CBC w_AES_GCM_NOPADDING kl_AES_128_GCM kl_AES_256_GCM kl_AES_CBC_PKCS5PADDING kl_AES_128_CBC kl_AES_GCM_NOPADDING k_kl_AES_128_GCM k_kl_AES_256_GCM k_kl_AES_CBC_PKCS5PADDING k_kl_AES_128_CBC k_kl_AES_GCM_NOPADDING) (p1 : Int32) (h0 : Heap) (n0 : Nat) (O0 : Old Z n0 h0) (hc1 : ¬ (p1 = (0 : Int32))) (hc2 : ¬ (p1 = (1 : Int32))) (hc3 : ¬ (p1 = (2 : Int32))) (hc4 : p1 = (3 : Int32)) :
    MetFree l y0 (head1 (Jvm.Cond.code y0 method_2_code 1 (some (.object "com/example/cloakfield/cloakfield/crypto/EncryptionAlgorithm")) :: ws) ({ frames := 0, cells := 0, slots := 0, locals := 0 } : Room)) (fun a U => a = #[(.int p1)] ∧ Z.Warmed39 U.vm ∧ U.heap = h0) (fun _ _ _ _ _ => True) (fun _ U o U' => ∃ v L, o = .returned v ∧ Q10 Z w_AES_128_GCM w_AES_256_GCM w_AES_CBC_PKCS5PADDING w_AES_128_CBC w_AES_GCM_NOPADDING kl_AES_128_GCM kl_AES_256_GCM kl_AES_CBC_PKCS5PADDING kl_AES_128_CBC kl_AES_GCM_NOPADDING k_kl_AES_128_GCM k_kl_AES_256_GCM k_kl_AES_CBC_PKCS5PADDING k_kl_AES_128_CBC k_kl_AES_GCM_NOPADDING p1 h0 n0 v U'.heap L ∧ FrameEnd U o U' L ({ frames := 0, cells := 0, slots := 0, locals := 0 } : Room).cells ({ frames := 0, cells := 0, slots := 0, locals := 0 } : Room).slots) := by
  refine MetFree.of_bodySF (plainFor_of_name pn_1) hisR ?_
  intro p e s m args below meth c s₁ Bd hml0 hP hK
  obtain ⟨rfl, hZ, hh⟩ := hP
  have hx := Bd.exec
  have hby := Bd.bytes
  have hml : c.maxLocals = 1 := hml0
  have hown : s.vm.findClass "com/example/cloakfield/cloakfield/crypto/EncryptionAlgorithmAcceptsKeyLengthPinLaw" = some m.cls := findClass_of_methodNamed Bd.named
  have hnm := (name_of_methodNamed Bd.named Bd.method).1
  have X0 : Stand p l e ({ frames := 0, cells := 0, slots := 0, locals := 0 } : Room) s m #[(.int p1)] below meth c s₁ [] 0 0 := Stand.of_body Bd
  have e0 : s₁.heap = h0 := by rw [← hh, Bd.state]; rfl
  have N0 := Fr.nil n0
  have hp' := hp
  obtain ⟨S_w_AES_128_GCM, E_w_AES_128_GCM, S_w_AES_256_GCM, E_w_AES_256_GCM, S_w_AES_CBC_PKCS5PADDING, E_w_AES_CBC_PKCS5PADDING, S_w_AES_128_CBC, E_w_AES_128_CBC, S_w_AES_GCM_NOPADDING, E_w_AES_GCM_NOPADDING, F_keyLengths_w_AES_128_GCM, V_kl_AES_128_GCM, F_keyLengths_w_AES_256_GCM, V_kl_AES_256_GCM, F_keyLengths_w_AES_CBC_PKCS5PADDING, V_kl_AES_CBC_PKCS5PADDING, F_keyLengths_w_AES_128_CBC, V_kl_AES_128_CBC, F_keyLengths_w_AES_GCM_NOPADDING, V_kl_AES_GCM_NOPADDING⟩ := hp'
  have pre0 : ∀ t, Steps p.tables e below (s₁.setTop (mkF m 0 #[.val (.int p1)] [])) t → Steps p.tables e below (s₁.setTop (entryFrame m #[(.int p1)] 1)) t := fun t k => castTop (ef_1_0 m p1) k
  obtain ⟨T1, X1, e1, st1⟩ := getS2 X0 hx hZ hown (host := "") (Or.inl (hw _ (List.mem_of_getElem? (i := 19) rfl))) Via.refl e0 (S_w_AES_128_CBC.ext O0.2) (g := (mkF m 31 #[.val (.int p1)] [])) rfl (hb hby d1_31)
  obtain ⟨fs, hr, hrun, hended, hW, hsame⟩ := X1.leave (v := some (.ref w_AES_128_CBC)) (fun h => by rw [Bd.returns] at h; cases h)
  refine ⟨_, _, pre0 _ ?_, hrun, hended, _, _, rfl, ?_, ⟨_, rfl⟩, hW, hsame.mono (by decide) (by decide)⟩
  · show Sp p e below s₁ (mkF m 0 #[.val (.int p1)] []) _
    refine XS.iloadN X0.here hx rfl (hb hby d1_0) rfl ?_
    show Sp p e below s₁ (mkF m 1 #[.val (.int p1)] [(.int p1)]) _
    refine XS.ifYes X0.here hx rfl (pc0 := 1) (pc' := 8) rfl (hb hby d1_1) rfl ((if0 _ _).trans (feq hc1).2) (by decide) (by decide) ?_
    show Sp p e below s₁ (mkF m 8 #[.val (.int p1)] []) _
    refine XS.iloadN X0.here hx rfl (hb hby d1_8) rfl ?_
    show Sp p e below s₁ (mkF m 9 #[.val (.int p1)] [(.int p1)]) _
    refine XS.iconst X0.here hx rfl (hb hby d1_9) ?_
    show Sp p e below s₁ (mkF m 10 #[.val (.int p1)] [(.int (1 : Int32)), (.int p1)]) _
    refine XS.icmpYes X0.here hx rfl (pc0 := 10) (pc' := 17) rfl (hb hby d1_10) rfl (feq hc2).2 (by decide) (by decide) ?_
    show Sp p e below s₁ (mkF m 17 #[.val (.int p1)] []) _
    refine XS.iloadN X0.here hx rfl (hb hby d1_17) rfl ?_
    show Sp p e below s₁ (mkF m 18 #[.val (.int p1)] [(.int p1)]) _
    refine XS.iconst X0.here hx rfl (hb hby d1_18) ?_
    show Sp p e below s₁ (mkF m 19 #[.val (.int p1)] [(.int (2 : Int32)), (.int p1)]) _
    refine XS.icmpYes X0.here hx rfl (pc0 := 19) (pc' := 26) rfl (hb hby d1_19) rfl (feq hc3).2 (by decide) (by decide) ?_
    show Sp p e below s₁ (mkF m 26 #[.val (.int p1)] []) _
    refine XS.iloadN X0.here hx rfl (hb hby d1_26) rfl ?_
    show Sp p e below s₁ (mkF m 27 #[.val (.int p1)] [(.int p1)]) _
    refine XS.iconst X0.here hx rfl (hb hby d1_27) ?_
    show Sp p e below s₁ (mkF m 28 #[.val (.int p1)] [(.int (3 : Int32)), (.int p1)]) _
    refine XS.icmpNo X0.here hx rfl (hb hby d1_28) rfl (teq hc4).2 ?_
    show Sp p e below s₁ (mkF m 31 #[.val (.int p1)] []) _
    refine st1 _ ?_
    show Sp p e below T1 (mkF m 34 #[.val (.int p1)] [(.ref w_AES_128_CBC)]) _
    jvm_step X1.here [X1.here.top, hx, (hb hby d1_34), X1.method', Bd.returns, Value.isRef, FieldType.isReference]
    first | (intro acts; rw [hr _ acts rfl rfl rfl]) | rw [hr _ _ rfl rfl rfl]
    exact Steps.refl _
  · show Q10 Z w_AES_128_GCM w_AES_256_GCM w_AES_CBC_PKCS5PADDING w_AES_128_CBC w_AES_GCM_NOPADDING kl_AES_128_GCM kl_AES_256_GCM kl_AES_CBC_PKCS5PADDING kl_AES_128_CBC kl_AES_GCM_NOPADDING k_kl_AES_128_GCM k_kl_AES_256_GCM k_kl_AES_CBC_PKCS5PADDING k_kl_AES_128_CBC k_kl_AES_GCM_NOPADDING p1 h0 n0 _ T1.heap _
    rw [e1]
    exact ⟨rfl, N0, rfl⟩
def Q11 (Z : State) (w_AES_128_GCM : Addr) (w_AES_256_GCM : Addr) (w_AES_CBC_PKCS5PADDING : Addr) (w_AES_128_CBC : Addr) (w_AES_GCM_NOPADDING : Addr) (kl_AES_128_GCM : Addr) (kl_AES_256_GCM : Addr) (kl_AES_CBC_PKCS5PADDING : Addr) (kl_AES_128_CBC : Addr) (kl_AES_GCM_NOPADDING : Addr) (k_kl_AES_128_GCM : ClassId) (k_kl_AES_256_GCM : ClassId) (k_kl_AES_CBC_PKCS5PADDING : ClassId) (k_kl_AES_128_CBC : ClassId) (k_kl_AES_GCM_NOPADDING : ClassId) (p1 : Int32) (h0 : Heap) (n0 : Nat) (v : Option Value) (h : Heap) (L : List Loc) : Prop := v = some (.int (1 : Int32)) ∧ Fr n0 L ∧ h = h0
set_option maxRecDepth 65536 in
set_option maxHeartbeats 40000000 in
theorem rm11 (l : Launch) (Z : State) (a0 : Array Value) (hw : ∀ d ∈ tables_1, d.before a0 Z = true) (ws : List Jvm.Cond) (w_AES_128_GCM w_AES_256_GCM w_AES_CBC_PKCS5PADDING w_AES_128_CBC w_AES_GCM_NOPADDING kl_AES_128_GCM kl_AES_256_GCM kl_AES_CBC_PKCS5PADDING kl_AES_128_CBC kl_AES_GCM_NOPADDING : Addr) (k_kl_AES_128_GCM : ClassId) (k_kl_AES_256_GCM : ClassId) (k_kl_AES_CBC_PKCS5PADDING : ClassId) (k_kl_AES_128_CBC : ClassId) (k_kl_AES_GCM_NOPADDING : ClassId) (hp : Perm Z w_AES_128_GCM w_AES_256_GCM w_AES_CBC_PKCS5PADDING w_AES_128_CBC w_AES_GCM_NOPADDING kl_AES_128_GCM kl_AES_256_GCM kl_AES_CBC_PKCS5PADDING kl_AES_128_CBC kl_AES_GCM_NOPADDING k_kl_AES_128_GCM k_kl_AES_256_GCM k_kl_AES_CBC_PKCS5PADDING k_kl_AES_128_CBC k_kl_AES_GCM_NOPADDING) (p1 : Int32) (h0 : Heap) (n0 : Nat) (O0 : Old Z n0 h0) (hc1 : p1 = (16 : Int32)) :
    MetFree l y1 (head1 (Jvm.Cond.code y1 prog_31_method_7_code 6 (some .boolean) :: ws) ({ frames := 0, cells := 0, slots := 0, locals := 0 } : Room)) (fun a U => a = #[(.ref w_AES_128_CBC), (.int p1)] ∧ Z.Warmed39 U.vm ∧ U.heap = h0) (fun _ _ _ _ _ => True) (fun _ U o U' => ∃ v L, o = .returned v ∧ Q11 Z w_AES_128_GCM w_AES_256_GCM w_AES_CBC_PKCS5PADDING w_AES_128_CBC w_AES_GCM_NOPADDING kl_AES_128_GCM kl_AES_256_GCM kl_AES_CBC_PKCS5PADDING kl_AES_128_CBC kl_AES_GCM_NOPADDING k_kl_AES_128_GCM k_kl_AES_256_GCM k_kl_AES_CBC_PKCS5PADDING k_kl_AES_128_CBC k_kl_AES_GCM_NOPADDING p1 h0 n0 v U'.heap L ∧ FrameEnd U o U' L ({ frames := 0, cells := 0, slots := 0, locals := 0 } : Room).cells ({ frames := 0, cells := 0, slots := 0, locals := 0 } : Room).slots) := by
  refine MetFree.of_bodySF (plainFor_of_name pn_2) hisR ?_
  intro p e s m args below meth c s₁ Bd hml0 hP hK
  obtain ⟨rfl, hZ, hh⟩ := hP
  have hx := Bd.exec
  have hby := Bd.bytes
  have hml : c.maxLocals = 6 := hml0
  have hown : s.vm.findClass "com/example/cloakfield/cloakfield/crypto/EncryptionAlgorithm" = some m.cls := findClass_of_methodNamed Bd.named
  have hnm := (name_of_methodNamed Bd.named Bd.method).1
  have X0 : Stand p l e ({ frames := 0, cells := 0, slots := 0, locals := 0 } : Room) s m #[(.ref w_AES_128_CBC), (.int p1)] below meth c s₁ [] 0 0 := Stand.of_body Bd
  have e0 : s₁.heap = h0 := by rw [← hh, Bd.state]; rfl
  have N0 := Fr.nil n0
  have hp' := hp
  obtain ⟨S_w_AES_128_GCM, E_w_AES_128_GCM, S_w_AES_256_GCM, E_w_AES_256_GCM, S_w_AES_CBC_PKCS5PADDING, E_w_AES_CBC_PKCS5PADDING, S_w_AES_128_CBC, E_w_AES_128_CBC, S_w_AES_GCM_NOPADDING, E_w_AES_GCM_NOPADDING, F_keyLengths_w_AES_128_GCM, V_kl_AES_128_GCM, F_keyLengths_w_AES_256_GCM, V_kl_AES_256_GCM, F_keyLengths_w_AES_CBC_PKCS5PADDING, V_kl_AES_CBC_PKCS5PADDING, F_keyLengths_w_AES_128_CBC, V_kl_AES_128_CBC, F_keyLengths_w_AES_GCM_NOPADDING, V_kl_AES_GCM_NOPADDING⟩ := hp'
  have pre0 : ∀ t, Steps p.tables e below (s₁.setTop (mkF m 0 #[.val (.ref w_AES_128_CBC), .val (.int p1), .unset, .unset, .unset, .unset] [])) t → Steps p.tables e below (s₁.setTop (entryFrame m #[(.ref w_AES_128_CBC), (.int p1)] 6)) t := fun t k => castTop (ef_2_0 m w_AES_128_CBC p1) k
  obtain ⟨T1, X1, e1, st1⟩ := getF X0 hx hZ hown (host := "") (Or.inl (hw _ (List.mem_of_getElem? (i := 13) rfl))) Via.refl e0 (F_keyLengths_w_AES_128_CBC.ext O0.2) (g := (mkF m 1 #[.val (.ref w_AES_128_CBC), .val (.int p1), .unset, .unset, .unset, .unset] [(.ref w_AES_128_CBC)])) rfl rfl (hb hby d2_1)
  obtain ⟨cl2, Ar2, -, S2, Nn2, -, -⟩ := (V_kl_AES_128_CBC.ext O0.2)
  obtain ⟨cl3, Ar3, -, S3, -, H3, -⟩ := (V_kl_AES_128_CBC.ext O0.2)
  have hin3 : ¬ ((0 : Int32) < 0 ∨ cl3.slots.size ≤ ((0 : Int32)).toNatClampNeg) := inb_of S3 ⟨by decide, by decide⟩
  have hat3 : cl3.slots[((0 : Int32)).toNatClampNeg]? = some (.int (16 : Int32)) := H3.at hin3 rfl
  obtain ⟨fs, hr, hrun, hended, hW, hsame⟩ := X1.leave (v := some (.int (1 : Int32))) (fun h => by rw [Bd.returns] at h; cases h)
  refine ⟨_, _, pre0 _ ?_, hrun, hended, _, _, rfl, ?_, ⟨_, rfl⟩, hW, hsame.mono (by decide) (by decide)⟩
  · show Sp p e below s₁ (mkF m 0 #[.val (.ref w_AES_128_CBC), .val (.int p1), .unset, .unset, .unset, .unset] []) _
    refine XS.aloadN X0.here hx rfl (hb hby d2_0) rfl rfl ?_
    show Sp p e below s₁ (mkF m 1 #[.val (.ref w_AES_128_CBC), .val (.int p1), .unset, .unset, .unset, .unset] [(.ref w_AES_128_CBC)]) _
    refine st1 _ ?_
    show Sp p e below T1 (mkF m 4 #[.val (.ref w_AES_128_CBC), .val (.int p1), .unset, .unset, .unset, .unset] [(.ref kl_AES_128_CBC)]) _
    refine XS.astoreN X1.here hx rfl (hb hby d2_4) rfl rfl (l' := #[.val (.ref w_AES_128_CBC), .val (.int p1), .val (.ref kl_AES_128_CBC), .unset, .unset, .unset]) rfl ?_
    show Sp p e below T1 (mkF m 5 #[.val (.ref w_AES_128_CBC), .val (.int p1), .val (.ref kl_AES_128_CBC), .unset, .unset, .unset] []) _
    refine XS.aloadN X1.here hx rfl (hb hby d2_5) rfl rfl ?_
    show Sp p e below T1 (mkF m 6 #[.val (.ref w_AES_128_CBC), .val (.int p1), .val (.ref kl_AES_128_CBC), .unset, .unset, .unset] [(.ref kl_AES_128_CBC)]) _
    refine X1.arraylength hx (by rw [e1]; exact Ar2.1) (State.isArrayOf_alike hZ.alike Ar2.2.1) (g := (mkF m 6 #[.val (.ref w_AES_128_CBC), .val (.int p1), .val (.ref kl_AES_128_CBC), .unset, .unset, .unset] [(.ref kl_AES_128_CBC)])) rfl rfl (hb hby d2_6) _ ?_
    rw [len_of S2 Nn2]
    show Sp p e below T1 (mkF m 7 #[.val (.ref w_AES_128_CBC), .val (.int p1), .val (.ref kl_AES_128_CBC), .unset, .unset, .unset] [(.int (1 : Int32))]) _
    refine XS.istoreN X1.here hx rfl (hb hby d2_7) rfl (l' := #[.val (.ref w_AES_128_CBC), .val (.int p1), .val (.ref kl_AES_128_CBC), .val (.int (1 : Int32)), .unset, .unset]) rfl ?_
    show Sp p e below T1 (mkF m 8 #[.val (.ref w_AES_128_CBC), .val (.int p1), .val (.ref kl_AES_128_CBC), .val (.int (1 : Int32)), .unset, .unset] []) _
    refine XS.iconst X1.here hx rfl (hb hby d2_8) ?_
    show Sp p e below T1 (mkF m 9 #[.val (.ref w_AES_128_CBC), .val (.int p1), .val (.ref kl_AES_128_CBC), .val (.int (1 : Int32)), .unset, .unset] [(.int (0 : Int32))]) _
    refine XS.istore X1.here hx rfl (hb hby d2_9) rfl (l' := #[.val (.ref w_AES_128_CBC), .val (.int p1), .val (.ref kl_AES_128_CBC), .val (.int (1 : Int32)), .val (.int (0 : Int32)), .unset]) rfl ?_
    show Sp p e below T1 (mkF m 11 #[.val (.ref w_AES_128_CBC), .val (.int p1), .val (.ref kl_AES_128_CBC), .val (.int (1 : Int32)), .val (.int (0 : Int32)), .unset] []) _
    refine XS.iload X1.here hx rfl (hb hby d2_11) rfl ?_
    show Sp p e below T1 (mkF m 13 #[.val (.ref w_AES_128_CBC), .val (.int p1), .val (.ref kl_AES_128_CBC), .val (.int (1 : Int32)), .val (.int (0 : Int32)), .unset] [(.int (0 : Int32))]) _
    refine XS.iloadN X1.here hx rfl (hb hby d2_13) rfl ?_
    show Sp p e below T1 (mkF m 14 #[.val (.ref w_AES_128_CBC), .val (.int p1), .val (.ref kl_AES_128_CBC), .val (.int (1 : Int32)), .val (.int (0 : Int32)), .unset] [(.int (1 : Int32)), (.int (0 : Int32))]) _
    refine XS.icmpNo X1.here hx rfl (hb hby d2_14) rfl (tlt (by decide : (0 : Int32) < (1 : Int32))).2.1 ?_
    show Sp p e below T1 (mkF m 17 #[.val (.ref w_AES_128_CBC), .val (.int p1), .val (.ref kl_AES_128_CBC), .val (.int (1 : Int32)), .val (.int (0 : Int32)), .unset] []) _
    refine XS.aloadN X1.here hx rfl (hb hby d2_17) rfl rfl ?_
    show Sp p e below T1 (mkF m 18 #[.val (.ref w_AES_128_CBC), .val (.int p1), .val (.ref kl_AES_128_CBC), .val (.int (1 : Int32)), .val (.int (0 : Int32)), .unset] [(.ref kl_AES_128_CBC)]) _
    refine XS.iload X1.here hx rfl (hb hby d2_18) rfl ?_
    show Sp p e below T1 (mkF m 20 #[.val (.ref w_AES_128_CBC), .val (.int p1), .val (.ref kl_AES_128_CBC), .val (.int (1 : Int32)), .val (.int (0 : Int32)), .unset] [(.int (0 : Int32)), (.ref kl_AES_128_CBC)]) _
    refine X1.iaload hx (j := (0 : Int32)) (v := (.int (16 : Int32))) (by rw [e1]; exact Ar3.1) (State.isArrayOf_alike hZ.alike Ar3.2.1) Ar3.2.2 hin3 hat3 (g := (mkF m 20 #[.val (.ref w_AES_128_CBC), .val (.int p1), .val (.ref kl_AES_128_CBC), .val (.int (1 : Int32)), .val (.int (0 : Int32)), .unset] [(.int (0 : Int32)), (.ref kl_AES_128_CBC)])) rfl rfl (hb hby d2_20) _ ?_
    show Sp p e below T1 (mkF m 21 #[.val (.ref w_AES_128_CBC), .val (.int p1), .val (.ref kl_AES_128_CBC), .val (.int (1 : Int32)), .val (.int (0 : Int32)), .unset] [(.int (16 : Int32))]) _
    refine XS.istore X1.here hx rfl (hb hby d2_21) rfl (l' := #[.val (.ref w_AES_128_CBC), .val (.int p1), .val (.ref kl_AES_128_CBC), .val (.int (1 : Int32)), .val (.int (0 : Int32)), .val (.int (16 : Int32))]) rfl ?_
    show Sp p e below T1 (mkF m 23 #[.val (.ref w_AES_128_CBC), .val (.int p1), .val (.ref kl_AES_128_CBC), .val (.int (1 : Int32)), .val (.int (0 : Int32)), .val (.int (16 : Int32))] []) _
    refine XS.iload X1.here hx rfl (hb hby d2_23) rfl ?_
    show Sp p e below T1 (mkF m 25 #[.val (.ref w_AES_128_CBC), .val (.int p1), .val (.ref kl_AES_128_CBC), .val (.int (1 : Int32)), .val (.int (0 : Int32)), .val (.int (16 : Int32))] [(.int (16 : Int32))]) _
    refine XS.iloadN X1.here hx rfl (hb hby d2_25) rfl ?_
    show Sp p e below T1 (mkF m 26 #[.val (.ref w_AES_128_CBC), .val (.int p1), .val (.ref kl_AES_128_CBC), .val (.int (1 : Int32)), .val (.int (0 : Int32)), .val (.int (16 : Int32))] [(.int p1), (.int (16 : Int32))]) _
    refine XS.icmpNo X1.here hx rfl (hb hby d2_26) rfl (teq (Eq.symm hc1)).2 ?_
    show Sp p e below T1 (mkF m 29 #[.val (.ref w_AES_128_CBC), .val (.int p1), .val (.ref kl_AES_128_CBC), .val (.int (1 : Int32)), .val (.int (0 : Int32)), .val (.int (16 : Int32))] []) _
    refine XS.iconst X1.here hx rfl (hb hby d2_29) ?_
    show Sp p e below T1 (mkF m 30 #[.val (.ref w_AES_128_CBC), .val (.int p1), .val (.ref kl_AES_128_CBC), .val (.int (1 : Int32)), .val (.int (0 : Int32)), .val (.int (16 : Int32))] [(.int (1 : Int32))]) _
    exact retN X1 hx (t := .boolean) Bd.returns (by simp) (hb hby d2_30) hr
  · show Q11 Z w_AES_128_GCM w_AES_256_GCM w_AES_CBC_PKCS5PADDING w_AES_128_CBC w_AES_GCM_NOPADDING kl_AES_128_GCM kl_AES_256_GCM kl_AES_CBC_PKCS5PADDING kl_AES_128_CBC kl_AES_GCM_NOPADDING k_kl_AES_128_GCM k_kl_AES_256_GCM k_kl_AES_CBC_PKCS5PADDING k_kl_AES_128_CBC k_kl_AES_GCM_NOPADDING p1 h0 n0 _ T1.heap _
    rw [e1]
    exact ⟨rfl, N0, rfl⟩
set_option maxRecDepth 65536 in
set_option maxHeartbeats 40000000 in
theorem rm12 (l : Launch) (Z : State) (a0 : Array Value) (hw : ∀ d ∈ tables_1, d.before a0 Z = true) (ws : List Jvm.Cond) (w_AES_128_GCM w_AES_256_GCM w_AES_CBC_PKCS5PADDING w_AES_128_CBC w_AES_GCM_NOPADDING kl_AES_128_GCM kl_AES_256_GCM kl_AES_CBC_PKCS5PADDING kl_AES_128_CBC kl_AES_GCM_NOPADDING : Addr) (k_kl_AES_128_GCM : ClassId) (k_kl_AES_256_GCM : ClassId) (k_kl_AES_CBC_PKCS5PADDING : ClassId) (k_kl_AES_128_CBC : ClassId) (k_kl_AES_GCM_NOPADDING : ClassId) (hp : Perm Z w_AES_128_GCM w_AES_256_GCM w_AES_CBC_PKCS5PADDING w_AES_128_CBC w_AES_GCM_NOPADDING kl_AES_128_GCM kl_AES_256_GCM kl_AES_CBC_PKCS5PADDING kl_AES_128_CBC kl_AES_GCM_NOPADDING k_kl_AES_128_GCM k_kl_AES_256_GCM k_kl_AES_CBC_PKCS5PADDING k_kl_AES_128_CBC k_kl_AES_GCM_NOPADDING) (p0 : Int32) (p1 : Int32) (p2 : Int32) (z5 : Int32) (h0 : Heap) (n0 : Nat) (O0 : Old Z n0 h0) (hcut : Cut_0_12 p0 p1 p2 ((p0 &&& (2147483647 : Int32)) % (5 : Int32)) (p1 &&& (3 : Int32)) z5) (hc2 : ¬ (((p0 &&& (2147483647 : Int32)) % (5 : Int32)) = (0 : Int32))) (hc3 : ¬ (((p0 &&& (2147483647 : Int32)) % (5 : Int32)) = (1 : Int32))) (hc4 : ¬ (((p0 &&& (2147483647 : Int32)) % (5 : Int32)) = (2 : Int32))) (hc5 : ((p0 &&& (2147483647 : Int32)) % (5 : Int32)) = (3 : Int32)) (hc6 : z5 = (16 : Int32)) :
    MetFree l x (head1 (Jvm.Cond.code x code maxLocals ret :: ws) room_1) (fun a U => a = #[(.int p0), (.int p1), (.int p2)] ∧ Z.Warmed39 U.vm ∧ U.heap = h0) (fun _ _ _ _ _ => True) (fun _ U o U' => ∃ v L, o = .returned v ∧ (v = some (.int (1 : Int32)) ∧ Fr n0 L) ∧ FrameEnd U o U' L 0 0) := by
  refine MetFree.of_bodySF (plainFor_of_name pn_1) hisR ?_
  intro p e s m args below meth c s₁ Bd hml0 hP hK
  obtain ⟨rfl, hZ, hh⟩ := hP
  have hx := Bd.exec
  have hby := Bd.bytes
  have hml : c.maxLocals = 10 := hml0
  have hown : s.vm.findClass "com/example/cloakfield/cloakfield/crypto/EncryptionAlgorithmAcceptsKeyLengthPinLaw" = some m.cls := findClass_of_methodNamed Bd.named
  have hnm := (name_of_methodNamed Bd.named Bd.method).1
  have X0 : Stand p l e room_1 s m #[(.int p0), (.int p1), (.int p2)] below meth c s₁ [] 0 0 := Stand.of_body Bd
  have e0 : s₁.heap = h0 := by rw [← hh, Bd.state]; rfl
  have N0 := Fr.nil n0
  have hp' := hp
  obtain ⟨S_w_AES_128_GCM, E_w_AES_128_GCM, S_w_AES_256_GCM, E_w_AES_256_GCM, S_w_AES_CBC_PKCS5PADDING, E_w_AES_CBC_PKCS5PADDING, S_w_AES_128_CBC, E_w_AES_128_CBC, S_w_AES_GCM_NOPADDING, E_w_AES_GCM_NOPADDING, F_keyLengths_w_AES_128_GCM, V_kl_AES_128_GCM, F_keyLengths_w_AES_256_GCM, V_kl_AES_256_GCM, F_keyLengths_w_AES_CBC_PKCS5PADDING, V_kl_AES_CBC_PKCS5PADDING, F_keyLengths_w_AES_128_CBC, V_kl_AES_128_CBC, F_keyLengths_w_AES_GCM_NOPADDING, V_kl_AES_GCM_NOPADDING⟩ := hp'
  have pre0 : ∀ t, Steps p.tables e below (s₁.setTop (mkF m 0 #[.val (.int p0), .val (.int p1), .val (.int p2), .unset, .unset, .unset, .unset, .unset, .unset, .unset] [])) t → Steps p.tables e below (s₁.setTop (entryFrame m #[(.int p0), (.int p1), (.int p2)] maxLocals)) t := fun t k => castTop (ef_0_0 m p0 p1 p2) k
  have st1 := hcut X0 hx hZ hw hby hown
  obtain ⟨_, _, ⟨T2, L2, k2, n2⟩, -, X2, ⟨Lc2, hQ2, l2, y2, z2⟩, st2⟩ := Jvm.LawKit.callS X0 hx (y := y0) hown (mvT hZ (hw _ (List.mem_of_getElem? (i := 1) rfl))) (mvT hZ (hw _ (List.mem_of_getElem? (i := 2) rfl))) (mvT hZ (hw _ (List.mem_of_getElem? (i := 3) rfl))) (mvT hZ (hw _ (List.mem_of_getElem? (i := 4) rfl))) (by decide) (backOf (W := 0) (rm10 l Z a0 hw [] w_AES_128_GCM w_AES_256_GCM w_AES_CBC_PKCS5PADDING w_AES_128_CBC w_AES_GCM_NOPADDING kl_AES_128_GCM kl_AES_256_GCM kl_AES_CBC_PKCS5PADDING kl_AES_128_CBC kl_AES_GCM_NOPADDING k_kl_AES_128_GCM k_kl_AES_256_GCM k_kl_AES_CBC_PKCS5PADDING k_kl_AES_128_CBC k_kl_AES_GCM_NOPADDING hp ((p0 &&& (2147483647 : Int32)) % (5 : Int32)) h0 n0 O0 hc2 hc3 hc4 hc5) hZ (hw _ (List.mem_of_getElem? (i := 4) rfl)) (hw _ (List.mem_of_getElem? (i := 3) rfl)) (by decide) (by decide)) (g := (mkF m 59 #[.val (.int p0), .val (.int p1), .val (.int p2), .val (.int ((p0 &&& (2147483647 : Int32)) % (5 : Int32))), .val (.int (p1 &&& (3 : Int32))), .val (.int z5), .unset, .unset, .unset, .unset] [(.int ((p0 &&& (2147483647 : Int32)) % (5 : Int32)))])) rfl (by rw [hml]; rfl) (argsL := [(.int ((p0 &&& (2147483647 : Int32)) % (5 : Int32)))]) (rest := []) (lenOf pd_0 rfl) rfl (by show 2 * 0 + _ ≤ _; exact Nat.le_of_eq rfl) (hb hby at_59) (fun _ _ => ⟨rfl, e0, (by decide : 0 + 0 ≤ _), (by decide : 0 + 0 ≤ _)⟩)
  dsimp only [Pt.U, Pt.locs, Pt.cells, Pt.slots] at X2 l2 y2 z2 st2 hQ2
  subst l2 y2 z2
  obtain ⟨rfl, Nq2, eq2⟩ := hQ2
  have N2 := Fr.app N0 Nq2
  obtain ⟨cq3, kq3, q3a, q3b, q3c⟩ := isOf hZ eq2 (E_w_AES_128_CBC.ext O0.2)
  obtain ⟨_, _, ⟨T3, L3, k3, n3⟩, -, X3, ⟨Lc3, hQ3, l3, y3, z3⟩, st3⟩ := X2.virtualBack hx (y := y1) (z := y1) hown (mvT hZ (hw _ (List.mem_of_getElem? (i := 8) rfl))) (mvT hZ (hw _ (List.mem_of_getElem? (i := 9) rfl))) (notFace_of_selects (args := #[]) (mvT hZ (hw _ (List.mem_of_getElem? (i := 11) rfl)))) (mvT hZ (hw _ (List.mem_of_getElem? (i := 11) rfl))) (mvT hZ (hw _ (List.mem_of_getElem? (i := 10) rfl))) (by decide) (backOf (W := 0) (rm11 l Z a0 hw [] w_AES_128_GCM w_AES_256_GCM w_AES_CBC_PKCS5PADDING w_AES_128_CBC w_AES_GCM_NOPADDING kl_AES_128_GCM kl_AES_256_GCM kl_AES_CBC_PKCS5PADDING kl_AES_128_CBC kl_AES_GCM_NOPADDING k_kl_AES_128_GCM k_kl_AES_256_GCM k_kl_AES_CBC_PKCS5PADDING k_kl_AES_128_CBC k_kl_AES_GCM_NOPADDING hp z5 h0 n0 O0 hc6) hZ (hw _ (List.mem_of_getElem? (i := 12) rfl)) (hw _ (List.mem_of_getElem? (i := 6) rfl)) (by decide) (by decide)) q3a q3c (g := (mkF m 147 #[.val (.int p0), .val (.int p1), .val (.int p2), .val (.int ((p0 &&& (2147483647 : Int32)) % (5 : Int32))), .val (.int (p1 &&& (3 : Int32))), .val (.int z5), .val (.ref w_AES_128_CBC), .val (.int (1 : Int32)), .val (.int (0 : Int32)), .val (.int (1 : Int32))] [(.int z5), (.ref w_AES_128_CBC)])) rfl (by rw [hml]; rfl) (Steps.refl _) (argsL := [(.int z5)]) (rest := []) (lenOf pd_1 rfl) rfl (by show 2 * 0 + _ ≤ _; exact Nat.le_of_eq rfl) (hb hby at_147) (fun _ _ => ⟨rfl, eq2, (by decide : 0 + 0 ≤ _), (by decide : 0 + 0 ≤ _)⟩)
  dsimp only [Pt.U, Pt.locs, Pt.cells, Pt.slots] at X3 l3 y3 z3 st3 hQ3
  subst l3 y3 z3
  obtain ⟨rfl, Nq3, eq3⟩ := hQ3
  have N3 := Fr.app N2 Nq3
  obtain ⟨fs, hr, hrun, hended, hW, hsame⟩ := X3.leave (v := some (.int (1 : Int32))) (fun h => by rw [Bd.returns] at h; cases h)
  refine ⟨_, _, pre0 _ ?_, hrun, hended, _, _, rfl, ?_, ⟨_, rfl⟩, hW, hsame.mono (by decide) (by decide)⟩
  · show Sp p e below s₁ (mkF m 0 #[.val (.int p0), .val (.int p1), .val (.int p2), .unset, .unset, .unset, .unset, .unset, .unset, .unset] []) _
    refine XS.iloadN X0.here hx rfl (hb hby at_0) rfl ?_
    show Sp p e below s₁ (mkF m 1 #[.val (.int p0), .val (.int p1), .val (.int p2), .unset, .unset, .unset, .unset, .unset, .unset, .unset] [(.int p0)]) _
    refine X0.ldcI hx hown (mvT hZ (hw _ (List.mem_of_getElem? (i := 0) rfl))) rfl (hb hby at_1) ?_
    show Sp p e below s₁ (mkF m 3 #[.val (.int p0), .val (.int p1), .val (.int p2), .unset, .unset, .unset, .unset, .unset, .unset, .unset] [(.int (2147483647 : Int32)), (.int p0)]) _
    refine XS.iand X0.here hx rfl (hb hby at_3) rfl ?_
    show Sp p e below s₁ (mkF m 4 #[.val (.int p0), .val (.int p1), .val (.int p2), .unset, .unset, .unset, .unset, .unset, .unset, .unset] [(.int (p0 &&& (2147483647 : Int32)))]) _
    refine XS.iconst X0.here hx rfl (hb hby at_4) ?_
    show Sp p e below s₁ (mkF m 5 #[.val (.int p0), .val (.int p1), .val (.int p2), .unset, .unset, .unset, .unset, .unset, .unset, .unset] [(.int (5 : Int32)), (.int (p0 &&& (2147483647 : Int32)))]) _
    refine iremM X0 hx rfl (hb hby at_5) rfl (by decide) ?_
    show Sp p e below s₁ (mkF m 6 #[.val (.int p0), .val (.int p1), .val (.int p2), .unset, .unset, .unset, .unset, .unset, .unset, .unset] [(.int ((p0 &&& (2147483647 : Int32)) % (5 : Int32)))]) _
    refine XS.istoreN X0.here hx rfl (hb hby at_6) rfl (l' := #[.val (.int p0), .val (.int p1), .val (.int p2), .val (.int ((p0 &&& (2147483647 : Int32)) % (5 : Int32))), .unset, .unset, .unset, .unset, .unset, .unset]) rfl ?_
    show Sp p e below s₁ (mkF m 7 #[.val (.int p0), .val (.int p1), .val (.int p2), .val (.int ((p0 &&& (2147483647 : Int32)) % (5 : Int32))), .unset, .unset, .unset, .unset, .unset, .unset] []) _
    refine XS.iloadN X0.here hx rfl (hb hby at_7) rfl ?_
    show Sp p e below s₁ (mkF m 8 #[.val (.int p0), .val (.int p1), .val (.int p2), .val (.int ((p0 &&& (2147483647 : Int32)) % (5 : Int32))), .unset, .unset, .unset, .unset, .unset, .unset] [(.int p1)]) _
    refine XS.iconst X0.here hx rfl (hb hby at_8) ?_
    show Sp p e below s₁ (mkF m 9 #[.val (.int p0), .val (.int p1), .val (.int p2), .val (.int ((p0 &&& (2147483647 : Int32)) % (5 : Int32))), .unset, .unset, .unset, .unset, .unset, .unset] [(.int (3 : Int32)), (.int p1)]) _
    refine XS.iand X0.here hx rfl (hb hby at_9) rfl ?_
    show Sp p e below s₁ (mkF m 10 #[.val (.int p0), .val (.int p1), .val (.int p2), .val (.int ((p0 &&& (2147483647 : Int32)) % (5 : Int32))), .unset, .unset, .unset, .unset, .unset, .unset] [(.int (p1 &&& (3 : Int32)))]) _
    refine XS.istore X0.here hx rfl (hb hby at_10) rfl (l' := #[.val (.int p0), .val (.int p1), .val (.int p2), .val (.int ((p0 &&& (2147483647 : Int32)) % (5 : Int32))), .val (.int (p1 &&& (3 : Int32))), .unset, .unset, .unset, .unset, .unset]) rfl ?_
    show Sp p e below s₁ (mkF m 12 #[.val (.int p0), .val (.int p1), .val (.int p2), .val (.int ((p0 &&& (2147483647 : Int32)) % (5 : Int32))), .val (.int (p1 &&& (3 : Int32))), .unset, .unset, .unset, .unset, .unset] []) _
    refine st1 _ ?_
    show Sp p e below s₁ (mkF m 58 #[.val (.int p0), .val (.int p1), .val (.int p2), .val (.int ((p0 &&& (2147483647 : Int32)) % (5 : Int32))), .val (.int (p1 &&& (3 : Int32))), .val (.int z5), .unset, .unset, .unset, .unset] []) _
    refine XS.iloadN X0.here hx rfl (hb hby at_58) rfl ?_
    show Sp p e below s₁ (mkF m 59 #[.val (.int p0), .val (.int p1), .val (.int p2), .val (.int ((p0 &&& (2147483647 : Int32)) % (5 : Int32))), .val (.int (p1 &&& (3 : Int32))), .val (.int z5), .unset, .unset, .unset, .unset] [(.int ((p0 &&& (2147483647 : Int32)) % (5 : Int32)))]) _
    refine st2 _ ?_
    show Sp p e below T2 (mkF m 62 #[.val (.int p0), .val (.int p1), .val (.int p2), .val (.int ((p0 &&& (2147483647 : Int32)) % (5 : Int32))), .val (.int (p1 &&& (3 : Int32))), .val (.int z5), .unset, .unset, .unset, .unset] [(.ref w_AES_128_CBC)]) _
    refine XS.astore X2.here hx rfl (hb hby at_62) rfl rfl (l' := #[.val (.int p0), .val (.int p1), .val (.int p2), .val (.int ((p0 &&& (2147483647 : Int32)) % (5 : Int32))), .val (.int (p1 &&& (3 : Int32))), .val (.int z5), .val (.ref w_AES_128_CBC), .unset, .unset, .unset]) rfl ?_
    show Sp p e below T2 (mkF m 64 #[.val (.int p0), .val (.int p1), .val (.int p2), .val (.int ((p0 &&& (2147483647 : Int32)) % (5 : Int32))), .val (.int (p1 &&& (3 : Int32))), .val (.int z5), .val (.ref w_AES_128_CBC), .unset, .unset, .unset] []) _
    refine XS.iloadN X2.here hx rfl (hb hby at_64) rfl ?_
    show Sp p e below T2 (mkF m 65 #[.val (.int p0), .val (.int p1), .val (.int p2), .val (.int ((p0 &&& (2147483647 : Int32)) % (5 : Int32))), .val (.int (p1 &&& (3 : Int32))), .val (.int z5), .val (.ref w_AES_128_CBC), .unset, .unset, .unset] [(.int ((p0 &&& (2147483647 : Int32)) % (5 : Int32)))]) _
    refine XS.ifNo X2.here hx rfl (hb hby at_65) rfl ((if0 _ _).trans (feq hc2).1) ?_
    show Sp p e below T2 (mkF m 68 #[.val (.int p0), .val (.int p1), .val (.int p2), .val (.int ((p0 &&& (2147483647 : Int32)) % (5 : Int32))), .val (.int (p1 &&& (3 : Int32))), .val (.int z5), .val (.ref w_AES_128_CBC), .unset, .unset, .unset] []) _
    refine XS.iloadN X2.here hx rfl (hb hby at_68) rfl ?_
    show Sp p e below T2 (mkF m 69 #[.val (.int p0), .val (.int p1), .val (.int p2), .val (.int ((p0 &&& (2147483647 : Int32)) % (5 : Int32))), .val (.int (p1 &&& (3 : Int32))), .val (.int z5), .val (.ref w_AES_128_CBC), .unset, .unset, .unset] [(.int ((p0 &&& (2147483647 : Int32)) % (5 : Int32)))]) _
    refine XS.iconst X2.here hx rfl (hb hby at_69) ?_
    show Sp p e below T2 (mkF m 70 #[.val (.int p0), .val (.int p1), .val (.int p2), .val (.int ((p0 &&& (2147483647 : Int32)) % (5 : Int32))), .val (.int (p1 &&& (3 : Int32))), .val (.int z5), .val (.ref w_AES_128_CBC), .unset, .unset, .unset] [(.int (2 : Int32)), (.int ((p0 &&& (2147483647 : Int32)) % (5 : Int32)))]) _
    refine XS.icmpNo X2.here hx rfl (hb hby at_70) rfl (feq hc4).1 ?_
    show Sp p e below T2 (mkF m 73 #[.val (.int p0), .val (.int p1), .val (.int p2), .val (.int ((p0 &&& (2147483647 : Int32)) % (5 : Int32))), .val (.int (p1 &&& (3 : Int32))), .val (.int z5), .val (.ref w_AES_128_CBC), .unset, .unset, .unset] []) _
    refine XS.iloadN X2.here hx rfl (hb hby at_73) rfl ?_
    show Sp p e below T2 (mkF m 74 #[.val (.int p0), .val (.int p1), .val (.int p2), .val (.int ((p0 &&& (2147483647 : Int32)) % (5 : Int32))), .val (.int (p1 &&& (3 : Int32))), .val (.int z5), .val (.ref w_AES_128_CBC), .unset, .unset, .unset] [(.int ((p0 &&& (2147483647 : Int32)) % (5 : Int32)))]) _
    refine XS.iconst X2.here hx rfl (hb hby at_74) ?_
    show Sp p e below T2 (mkF m 75 #[.val (.int p0), .val (.int p1), .val (.int p2), .val (.int ((p0 &&& (2147483647 : Int32)) % (5 : Int32))), .val (.int (p1 &&& (3 : Int32))), .val (.int z5), .val (.ref w_AES_128_CBC), .unset, .unset, .unset] [(.int (3 : Int32)), (.int ((p0 &&& (2147483647 : Int32)) % (5 : Int32)))]) _
    refine XS.icmpYes X2.here hx rfl (pc0 := 75) (pc' := 83) rfl (hb hby at_75) rfl (teq hc5).1 (by decide) (by decide) ?_
    show Sp p e below T2 (mkF m 83 #[.val (.int p0), .val (.int p1), .val (.int p2), .val (.int ((p0 &&& (2147483647 : Int32)) % (5 : Int32))), .val (.int (p1 &&& (3 : Int32))), .val (.int z5), .val (.ref w_AES_128_CBC), .unset, .unset, .unset] []) _
    refine XS.iconst X2.here hx rfl (hb hby at_83) ?_
    show Sp p e below T2 (mkF m 84 #[.val (.int p0), .val (.int p1), .val (.int p2), .val (.int ((p0 &&& (2147483647 : Int32)) % (5 : Int32))), .val (.int (p1 &&& (3 : Int32))), .val (.int z5), .val (.ref w_AES_128_CBC), .unset, .unset, .unset] [(.int (1 : Int32))]) _
    refine XS.goto X2.here hx rfl (pc0 := 84) (pc' := 88) rfl (hb hby at_84) (by decide) (by decide) ?_
    show Sp p e below T2 (mkF m 88 #[.val (.int p0), .val (.int p1), .val (.int p2), .val (.int ((p0 &&& (2147483647 : Int32)) % (5 : Int32))), .val (.int (p1 &&& (3 : Int32))), .val (.int z5), .val (.ref w_AES_128_CBC), .unset, .unset, .unset] [(.int (1 : Int32))]) _
    refine XS.istore X2.here hx rfl (hb hby at_88) rfl (l' := #[.val (.int p0), .val (.int p1), .val (.int p2), .val (.int ((p0 &&& (2147483647 : Int32)) % (5 : Int32))), .val (.int (p1 &&& (3 : Int32))), .val (.int z5), .val (.ref w_AES_128_CBC), .val (.int (1 : Int32)), .unset, .unset]) rfl ?_
    show Sp p e below T2 (mkF m 90 #[.val (.int p0), .val (.int p1), .val (.int p2), .val (.int ((p0 &&& (2147483647 : Int32)) % (5 : Int32))), .val (.int (p1 &&& (3 : Int32))), .val (.int z5), .val (.ref w_AES_128_CBC), .val (.int (1 : Int32)), .unset, .unset] []) _
    refine XS.iloadN X2.here hx rfl (hb hby at_90) rfl ?_
    show Sp p e below T2 (mkF m 91 #[.val (.int p0), .val (.int p1), .val (.int p2), .val (.int ((p0 &&& (2147483647 : Int32)) % (5 : Int32))), .val (.int (p1 &&& (3 : Int32))), .val (.int z5), .val (.ref w_AES_128_CBC), .val (.int (1 : Int32)), .unset, .unset] [(.int ((p0 &&& (2147483647 : Int32)) % (5 : Int32)))]) _
    refine XS.iconst X2.here hx rfl (hb hby at_91) ?_
    show Sp p e below T2 (mkF m 92 #[.val (.int p0), .val (.int p1), .val (.int p2), .val (.int ((p0 &&& (2147483647 : Int32)) % (5 : Int32))), .val (.int (p1 &&& (3 : Int32))), .val (.int z5), .val (.ref w_AES_128_CBC), .val (.int (1 : Int32)), .unset, .unset] [(.int (1 : Int32)), (.int ((p0 &&& (2147483647 : Int32)) % (5 : Int32)))]) _
    refine XS.icmpNo X2.here hx rfl (hb hby at_92) rfl (feq hc3).1 ?_
    show Sp p e below T2 (mkF m 95 #[.val (.int p0), .val (.int p1), .val (.int p2), .val (.int ((p0 &&& (2147483647 : Int32)) % (5 : Int32))), .val (.int (p1 &&& (3 : Int32))), .val (.int z5), .val (.ref w_AES_128_CBC), .val (.int (1 : Int32)), .unset, .unset] []) _
    refine XS.iloadN X2.here hx rfl (hb hby at_95) rfl ?_
    show Sp p e below T2 (mkF m 96 #[.val (.int p0), .val (.int p1), .val (.int p2), .val (.int ((p0 &&& (2147483647 : Int32)) % (5 : Int32))), .val (.int (p1 &&& (3 : Int32))), .val (.int z5), .val (.ref w_AES_128_CBC), .val (.int (1 : Int32)), .unset, .unset] [(.int ((p0 &&& (2147483647 : Int32)) % (5 : Int32)))]) _
    refine XS.iconst X2.here hx rfl (hb hby at_96) ?_
    show Sp p e below T2 (mkF m 97 #[.val (.int p0), .val (.int p1), .val (.int p2), .val (.int ((p0 &&& (2147483647 : Int32)) % (5 : Int32))), .val (.int (p1 &&& (3 : Int32))), .val (.int z5), .val (.ref w_AES_128_CBC), .val (.int (1 : Int32)), .unset, .unset] [(.int (2 : Int32)), (.int ((p0 &&& (2147483647 : Int32)) % (5 : Int32)))]) _
    refine XS.icmpNo X2.here hx rfl (hb hby at_97) rfl (feq hc4).1 ?_
    show Sp p e below T2 (mkF m 100 #[.val (.int p0), .val (.int p1), .val (.int p2), .val (.int ((p0 &&& (2147483647 : Int32)) % (5 : Int32))), .val (.int (p1 &&& (3 : Int32))), .val (.int z5), .val (.ref w_AES_128_CBC), .val (.int (1 : Int32)), .unset, .unset] []) _
    refine XS.iloadN X2.here hx rfl (hb hby at_100) rfl ?_
    show Sp p e below T2 (mkF m 101 #[.val (.int p0), .val (.int p1), .val (.int p2), .val (.int ((p0 &&& (2147483647 : Int32)) % (5 : Int32))), .val (.int (p1 &&& (3 : Int32))), .val (.int z5), .val (.ref w_AES_128_CBC), .val (.int (1 : Int32)), .unset, .unset] [(.int ((p0 &&& (2147483647 : Int32)) % (5 : Int32)))]) _
    refine XS.iconst X2.here hx rfl (hb hby at_101) ?_
    show Sp p e below T2 (mkF m 102 #[.val (.int p0), .val (.int p1), .val (.int p2), .val (.int ((p0 &&& (2147483647 : Int32)) % (5 : Int32))), .val (.int (p1 &&& (3 : Int32))), .val (.int z5), .val (.ref w_AES_128_CBC), .val (.int (1 : Int32)), .unset, .unset] [(.int (4 : Int32)), (.int ((p0 &&& (2147483647 : Int32)) % (5 : Int32)))]) _
    refine XS.icmpYes X2.here hx rfl (pc0 := 102) (pc' := 109) rfl (hb hby at_102) rfl (feq (by rw [hc5]; decide : ¬ (((p0 &&& (2147483647 : Int32)) % (5 : Int32)) = (4 : Int32)))).2 (by decide) (by decide) ?_
    show Sp p e below T2 (mkF m 109 #[.val (.int p0), .val (.int p1), .val (.int p2), .val (.int ((p0 &&& (2147483647 : Int32)) % (5 : Int32))), .val (.int (p1 &&& (3 : Int32))), .val (.int z5), .val (.ref w_AES_128_CBC), .val (.int (1 : Int32)), .unset, .unset] []) _
    refine XS.iconst X2.here hx rfl (hb hby at_109) ?_
    show Sp p e below T2 (mkF m 110 #[.val (.int p0), .val (.int p1), .val (.int p2), .val (.int ((p0 &&& (2147483647 : Int32)) % (5 : Int32))), .val (.int (p1 &&& (3 : Int32))), .val (.int z5), .val (.ref w_AES_128_CBC), .val (.int (1 : Int32)), .unset, .unset] [(.int (0 : Int32))]) _
    refine XS.istore X2.here hx rfl (hb hby at_110) rfl (l' := #[.val (.int p0), .val (.int p1), .val (.int p2), .val (.int ((p0 &&& (2147483647 : Int32)) % (5 : Int32))), .val (.int (p1 &&& (3 : Int32))), .val (.int z5), .val (.ref w_AES_128_CBC), .val (.int (1 : Int32)), .val (.int (0 : Int32)), .unset]) rfl ?_
    show Sp p e below T2 (mkF m 112 #[.val (.int p0), .val (.int p1), .val (.int p2), .val (.int ((p0 &&& (2147483647 : Int32)) % (5 : Int32))), .val (.int (p1 &&& (3 : Int32))), .val (.int z5), .val (.ref w_AES_128_CBC), .val (.int (1 : Int32)), .val (.int (0 : Int32)), .unset] []) _
    refine XS.iload X2.here hx rfl (hb hby at_112) rfl ?_
    show Sp p e below T2 (mkF m 114 #[.val (.int p0), .val (.int p1), .val (.int p2), .val (.int ((p0 &&& (2147483647 : Int32)) % (5 : Int32))), .val (.int (p1 &&& (3 : Int32))), .val (.int z5), .val (.ref w_AES_128_CBC), .val (.int (1 : Int32)), .val (.int (0 : Int32)), .unset] [(.int z5)]) _
    refine XS.bipush X2.here hx rfl (hb hby at_114) ?_
    show Sp p e below T2 (mkF m 116 #[.val (.int p0), .val (.int p1), .val (.int p2), .val (.int ((p0 &&& (2147483647 : Int32)) % (5 : Int32))), .val (.int (p1 &&& (3 : Int32))), .val (.int z5), .val (.ref w_AES_128_CBC), .val (.int (1 : Int32)), .val (.int (0 : Int32)), .unset] [(.int (16 : Int32)), (.int z5)]) _
    refine XS.icmpNo X2.here hx rfl (hb hby at_116) rfl (teq hc6).2 ?_
    show Sp p e below T2 (mkF m 119 #[.val (.int p0), .val (.int p1), .val (.int p2), .val (.int ((p0 &&& (2147483647 : Int32)) % (5 : Int32))), .val (.int (p1 &&& (3 : Int32))), .val (.int z5), .val (.ref w_AES_128_CBC), .val (.int (1 : Int32)), .val (.int (0 : Int32)), .unset] []) _
    refine XS.iload X2.here hx rfl (hb hby at_119) rfl ?_
    show Sp p e below T2 (mkF m 121 #[.val (.int p0), .val (.int p1), .val (.int p2), .val (.int ((p0 &&& (2147483647 : Int32)) % (5 : Int32))), .val (.int (p1 &&& (3 : Int32))), .val (.int z5), .val (.ref w_AES_128_CBC), .val (.int (1 : Int32)), .val (.int (0 : Int32)), .unset] [(.int (1 : Int32))]) _
    refine XS.ifYes X2.here hx rfl (pc0 := 121) (pc' := 136) rfl (hb hby at_121) rfl ((if0 _ _).trans (feq (by decide : ¬ ((1 : Int32) = (0 : Int32)))).2) (by decide) (by decide) ?_
    show Sp p e below T2 (mkF m 136 #[.val (.int p0), .val (.int p1), .val (.int p2), .val (.int ((p0 &&& (2147483647 : Int32)) % (5 : Int32))), .val (.int (p1 &&& (3 : Int32))), .val (.int z5), .val (.ref w_AES_128_CBC), .val (.int (1 : Int32)), .val (.int (0 : Int32)), .unset] []) _
    refine XS.iconst X2.here hx rfl (hb hby at_136) ?_
    show Sp p e below T2 (mkF m 137 #[.val (.int p0), .val (.int p1), .val (.int p2), .val (.int ((p0 &&& (2147483647 : Int32)) % (5 : Int32))), .val (.int (p1 &&& (3 : Int32))), .val (.int z5), .val (.ref w_AES_128_CBC), .val (.int (1 : Int32)), .val (.int (0 : Int32)), .unset] [(.int (1 : Int32))]) _
    refine XS.goto X2.here hx rfl (pc0 := 137) (pc' := 141) rfl (hb hby at_137) (by decide) (by decide) ?_
    show Sp p e below T2 (mkF m 141 #[.val (.int p0), .val (.int p1), .val (.int p2), .val (.int ((p0 &&& (2147483647 : Int32)) % (5 : Int32))), .val (.int (p1 &&& (3 : Int32))), .val (.int z5), .val (.ref w_AES_128_CBC), .val (.int (1 : Int32)), .val (.int (0 : Int32)), .unset] [(.int (1 : Int32))]) _
    refine XS.istore X2.here hx rfl (hb hby at_141) rfl (l' := #[.val (.int p0), .val (.int p1), .val (.int p2), .val (.int ((p0 &&& (2147483647 : Int32)) % (5 : Int32))), .val (.int (p1 &&& (3 : Int32))), .val (.int z5), .val (.ref w_AES_128_CBC), .val (.int (1 : Int32)), .val (.int (0 : Int32)), .val (.int (1 : Int32))]) rfl ?_
    show Sp p e below T2 (mkF m 143 #[.val (.int p0), .val (.int p1), .val (.int p2), .val (.int ((p0 &&& (2147483647 : Int32)) % (5 : Int32))), .val (.int (p1 &&& (3 : Int32))), .val (.int z5), .val (.ref w_AES_128_CBC), .val (.int (1 : Int32)), .val (.int (0 : Int32)), .val (.int (1 : Int32))] []) _
    refine XS.aload X2.here hx rfl (hb hby at_143) rfl rfl ?_
    show Sp p e below T2 (mkF m 145 #[.val (.int p0), .val (.int p1), .val (.int p2), .val (.int ((p0 &&& (2147483647 : Int32)) % (5 : Int32))), .val (.int (p1 &&& (3 : Int32))), .val (.int z5), .val (.ref w_AES_128_CBC), .val (.int (1 : Int32)), .val (.int (0 : Int32)), .val (.int (1 : Int32))] [(.ref w_AES_128_CBC)]) _
    refine XS.iload X2.here hx rfl (hb hby at_145) rfl ?_
    show Sp p e below T2 (mkF m 147 #[.val (.int p0), .val (.int p1), .val (.int p2), .val (.int ((p0 &&& (2147483647 : Int32)) % (5 : Int32))), .val (.int (p1 &&& (3 : Int32))), .val (.int z5), .val (.ref w_AES_128_CBC), .val (.int (1 : Int32)), .val (.int (0 : Int32)), .val (.int (1 : Int32))] [(.int z5), (.ref w_AES_128_CBC)]) _
    refine st3.trans ?_
    show Sp p e below T3 (mkF m 150 #[.val (.int p0), .val (.int p1), .val (.int p2), .val (.int ((p0 &&& (2147483647 : Int32)) % (5 : Int32))), .val (.int (p1 &&& (3 : Int32))), .val (.int z5), .val (.ref w_AES_128_CBC), .val (.int (1 : Int32)), .val (.int (0 : Int32)), .val (.int (1 : Int32))] [(.int (1 : Int32))]) _
    refine XS.iload X3.here hx rfl (hb hby at_150) rfl ?_
    show Sp p e below T3 (mkF m 152 #[.val (.int p0), .val (.int p1), .val (.int p2), .val (.int ((p0 &&& (2147483647 : Int32)) % (5 : Int32))), .val (.int (p1 &&& (3 : Int32))), .val (.int z5), .val (.ref w_AES_128_CBC), .val (.int (1 : Int32)), .val (.int (0 : Int32)), .val (.int (1 : Int32))] [(.int (1 : Int32)), (.int (1 : Int32))]) _
    refine XS.icmpNo X3.here hx rfl (hb hby at_152) rfl (teq (by decide : (1 : Int32) = (1 : Int32))).2 ?_
    show Sp p e below T3 (mkF m 155 #[.val (.int p0), .val (.int p1), .val (.int p2), .val (.int ((p0 &&& (2147483647 : Int32)) % (5 : Int32))), .val (.int (p1 &&& (3 : Int32))), .val (.int z5), .val (.ref w_AES_128_CBC), .val (.int (1 : Int32)), .val (.int (0 : Int32)), .val (.int (1 : Int32))] []) _
    refine XS.iconst X3.here hx rfl (hb hby at_155) ?_
    show Sp p e below T3 (mkF m 156 #[.val (.int p0), .val (.int p1), .val (.int p2), .val (.int ((p0 &&& (2147483647 : Int32)) % (5 : Int32))), .val (.int (p1 &&& (3 : Int32))), .val (.int z5), .val (.ref w_AES_128_CBC), .val (.int (1 : Int32)), .val (.int (0 : Int32)), .val (.int (1 : Int32))] [(.int (1 : Int32))]) _
    refine XS.goto X3.here hx rfl (pc0 := 156) (pc' := 160) rfl (hb hby at_156) (by decide) (by decide) ?_
    show Sp p e below T3 (mkF m 160 #[.val (.int p0), .val (.int p1), .val (.int p2), .val (.int ((p0 &&& (2147483647 : Int32)) % (5 : Int32))), .val (.int (p1 &&& (3 : Int32))), .val (.int z5), .val (.ref w_AES_128_CBC), .val (.int (1 : Int32)), .val (.int (0 : Int32)), .val (.int (1 : Int32))] [(.int (1 : Int32))]) _
    exact retN X3 hx (t := .boolean) Bd.returns (by simp) (hb hby at_160) hr
  · skip
    exact ⟨rfl, N3⟩
theorem d1_35 : decode method_2_code 35 = .ok (.getstatic 22, 3) := by decide +kernel
theorem d1_38 : decode method_2_code 38 = .ok (.areturn, 1) := by decide +kernel
def Q13 (Z : State) (w_AES_128_GCM : Addr) (w_AES_256_GCM : Addr) (w_AES_CBC_PKCS5PADDING : Addr) (w_AES_128_CBC : Addr) (w_AES_GCM_NOPADDING : Addr) (kl_AES_128_GCM : Addr) (kl_AES_256_GCM : Addr) (kl_AES_CBC_PKCS5PADDING : Addr) (kl_AES_128_CBC : Addr) (kl_AES_GCM_NOPADDING : Addr) (k_kl_AES_128_GCM : ClassId) (k_kl_AES_256_GCM : ClassId) (k_kl_AES_CBC_PKCS5PADDING : ClassId) (k_kl_AES_128_CBC : ClassId) (k_kl_AES_GCM_NOPADDING : ClassId) (p1 : Int32) (h0 : Heap) (n0 : Nat) (v : Option Value) (h : Heap) (L : List Loc) : Prop := v = some (.ref w_AES_CBC_PKCS5PADDING) ∧ Fr n0 L ∧ h = h0
set_option maxRecDepth 65536 in
set_option maxHeartbeats 40000000 in
theorem rm13 (l : Launch) (Z : State) (a0 : Array Value) (hw : ∀ d ∈ tables_1, d.before a0 Z = true) (ws : List Jvm.Cond) (w_AES_128_GCM w_AES_256_GCM w_AES_CBC_PKCS5PADDING w_AES_128_CBC w_AES_GCM_NOPADDING kl_AES_128_GCM kl_AES_256_GCM kl_AES_CBC_PKCS5PADDING kl_AES_128_CBC kl_AES_GCM_NOPADDING : Addr) (k_kl_AES_128_GCM : ClassId) (k_kl_AES_256_GCM : ClassId) (k_kl_AES_CBC_PKCS5PADDING : ClassId) (k_kl_AES_128_CBC : ClassId) (k_kl_AES_GCM_NOPADDING : ClassId) (hp : Perm Z w_AES_128_GCM w_AES_256_GCM w_AES_CBC_PKCS5PADDING w_AES_128_CBC w_AES_GCM_NOPADDING kl_AES_128_GCM kl_AES_256_GCM kl_AES_CBC_PKCS5PADDING kl_AES_128_CBC kl_AES_GCM_NOPADDING k_kl_AES_128_GCM k_kl_AES_256_GCM k_kl_AES_CBC_PKCS5PADDING k_kl_AES_128_CBC k_kl_AES_GCM_NOPADDING) (p1 : Int32) (h0 : Heap) (n0 : Nat) (O0 : Old Z n0 h0) (hc1 : ¬ (p1 = (0 : Int32))) (hc2 : ¬ (p1 = (1 : Int32))) (hc3 : ¬ (p1 = (2 : Int32))) (hc4 : ¬ (p1 = (3 : Int32))) :
    MetFree l y0 (head1 (Jvm.Cond.code y0 method_2_code 1 (some (.object "com/example/cloakfield/cloakfield/crypto/EncryptionAlgorithm")) :: ws) ({ frames := 0, cells := 0, slots := 0, locals := 0 } : Room)) (fun a U => a = #[(.int p1)] ∧ Z.Warmed39 U.vm ∧ U.heap = h0) (fun _ _ _ _ _ => True) (fun _ U o U' => ∃ v L, o = .returned v ∧ Q13 Z w_AES_128_GCM w_AES_256_GCM w_AES_CBC_PKCS5PADDING w_AES_128_CBC w_AES_GCM_NOPADDING kl_AES_128_GCM kl_AES_256_GCM kl_AES_CBC_PKCS5PADDING kl_AES_128_CBC kl_AES_GCM_NOPADDING k_kl_AES_128_GCM k_kl_AES_256_GCM k_kl_AES_CBC_PKCS5PADDING k_kl_AES_128_CBC k_kl_AES_GCM_NOPADDING p1 h0 n0 v U'.heap L ∧ FrameEnd U o U' L ({ frames := 0, cells := 0, slots := 0, locals := 0 } : Room).cells ({ frames := 0, cells := 0, slots := 0, locals := 0 } : Room).slots) := by
  refine MetFree.of_bodySF (plainFor_of_name pn_1) hisR ?_
  intro p e s m args below meth c s₁ Bd hml0 hP hK
  obtain ⟨rfl, hZ, hh⟩ := hP
  have hx := Bd.exec
  have hby := Bd.bytes
  have hml : c.maxLocals = 1 := hml0
  have hown : s.vm.findClass "com/example/cloakfield/cloakfield/crypto/EncryptionAlgorithmAcceptsKeyLengthPinLaw" = some m.cls := findClass_of_methodNamed Bd.named
  have hnm := (name_of_methodNamed Bd.named Bd.method).1
  have X0 : Stand p l e ({ frames := 0, cells := 0, slots := 0, locals := 0 } : Room) s m #[(.int p1)] below meth c s₁ [] 0 0 := Stand.of_body Bd
  have e0 : s₁.heap = h0 := by rw [← hh, Bd.state]; rfl
  have N0 := Fr.nil n0
  have hp' := hp
  obtain ⟨S_w_AES_128_GCM, E_w_AES_128_GCM, S_w_AES_256_GCM, E_w_AES_256_GCM, S_w_AES_CBC_PKCS5PADDING, E_w_AES_CBC_PKCS5PADDING, S_w_AES_128_CBC, E_w_AES_128_CBC, S_w_AES_GCM_NOPADDING, E_w_AES_GCM_NOPADDING, F_keyLengths_w_AES_128_GCM, V_kl_AES_128_GCM, F_keyLengths_w_AES_256_GCM, V_kl_AES_256_GCM, F_keyLengths_w_AES_CBC_PKCS5PADDING, V_kl_AES_CBC_PKCS5PADDING, F_keyLengths_w_AES_128_CBC, V_kl_AES_128_CBC, F_keyLengths_w_AES_GCM_NOPADDING, V_kl_AES_GCM_NOPADDING⟩ := hp'
  have pre0 : ∀ t, Steps p.tables e below (s₁.setTop (mkF m 0 #[.val (.int p1)] [])) t → Steps p.tables e below (s₁.setTop (entryFrame m #[(.int p1)] 1)) t := fun t k => castTop (ef_1_0 m p1) k
  obtain ⟨T1, X1, e1, st1⟩ := getS2 X0 hx hZ hown (host := "") (Or.inl (hw _ (List.mem_of_getElem? (i := 17) rfl))) Via.refl e0 (S_w_AES_CBC_PKCS5PADDING.ext O0.2) (g := (mkF m 35 #[.val (.int p1)] [])) rfl (hb hby d1_35)
  obtain ⟨fs, hr, hrun, hended, hW, hsame⟩ := X1.leave (v := some (.ref w_AES_CBC_PKCS5PADDING)) (fun h => by rw [Bd.returns] at h; cases h)
  refine ⟨_, _, pre0 _ ?_, hrun, hended, _, _, rfl, ?_, ⟨_, rfl⟩, hW, hsame.mono (by decide) (by decide)⟩
  · show Sp p e below s₁ (mkF m 0 #[.val (.int p1)] []) _
    refine XS.iloadN X0.here hx rfl (hb hby d1_0) rfl ?_
    show Sp p e below s₁ (mkF m 1 #[.val (.int p1)] [(.int p1)]) _
    refine XS.ifYes X0.here hx rfl (pc0 := 1) (pc' := 8) rfl (hb hby d1_1) rfl ((if0 _ _).trans (feq hc1).2) (by decide) (by decide) ?_
    show Sp p e below s₁ (mkF m 8 #[.val (.int p1)] []) _
    refine XS.iloadN X0.here hx rfl (hb hby d1_8) rfl ?_
    show Sp p e below s₁ (mkF m 9 #[.val (.int p1)] [(.int p1)]) _
    refine XS.iconst X0.here hx rfl (hb hby d1_9) ?_
    show Sp p e below s₁ (mkF m 10 #[.val (.int p1)] [(.int (1 : Int32)), (.int p1)]) _
    refine XS.icmpYes X0.here hx rfl (pc0 := 10) (pc' := 17) rfl (hb hby d1_10) rfl (feq hc2).2 (by decide) (by decide) ?_
    show Sp p e below s₁ (mkF m 17 #[.val (.int p1)] []) _
    refine XS.iloadN X0.here hx rfl (hb hby d1_17) rfl ?_
    show Sp p e below s₁ (mkF m 18 #[.val (.int p1)] [(.int p1)]) _
    refine XS.iconst X0.here hx rfl (hb hby d1_18) ?_
    show Sp p e below s₁ (mkF m 19 #[.val (.int p1)] [(.int (2 : Int32)), (.int p1)]) _
    refine XS.icmpYes X0.here hx rfl (pc0 := 19) (pc' := 26) rfl (hb hby d1_19) rfl (feq hc3).2 (by decide) (by decide) ?_
    show Sp p e below s₁ (mkF m 26 #[.val (.int p1)] []) _
    refine XS.iloadN X0.here hx rfl (hb hby d1_26) rfl ?_
    show Sp p e below s₁ (mkF m 27 #[.val (.int p1)] [(.int p1)]) _
    refine XS.iconst X0.here hx rfl (hb hby d1_27) ?_
    show Sp p e below s₁ (mkF m 28 #[.val (.int p1)] [(.int (3 : Int32)), (.int p1)]) _
    refine XS.icmpYes X0.here hx rfl (pc0 := 28) (pc' := 35) rfl (hb hby d1_28) rfl (feq hc4).2 (by decide) (by decide) ?_
    show Sp p e below s₁ (mkF m 35 #[.val (.int p1)] []) _
    refine st1 _ ?_
    show Sp p e below T1 (mkF m 38 #[.val (.int p1)] [(.ref w_AES_CBC_PKCS5PADDING)]) _
    jvm_step X1.here [X1.here.top, hx, (hb hby d1_38), X1.method', Bd.returns, Value.isRef, FieldType.isReference]
    first | (intro acts; rw [hr _ acts rfl rfl rfl]) | rw [hr _ _ rfl rfl rfl]
    exact Steps.refl _
  · show Q13 Z w_AES_128_GCM w_AES_256_GCM w_AES_CBC_PKCS5PADDING w_AES_128_CBC w_AES_GCM_NOPADDING kl_AES_128_GCM kl_AES_256_GCM kl_AES_CBC_PKCS5PADDING kl_AES_128_CBC kl_AES_GCM_NOPADDING k_kl_AES_128_GCM k_kl_AES_256_GCM k_kl_AES_CBC_PKCS5PADDING k_kl_AES_128_CBC k_kl_AES_GCM_NOPADDING p1 h0 n0 _ T1.heap _
    rw [e1]
    exact ⟨rfl, N0, rfl⟩
def Q14 (Z : State) (w_AES_128_GCM : Addr) (w_AES_256_GCM : Addr) (w_AES_CBC_PKCS5PADDING : Addr) (w_AES_128_CBC : Addr) (w_AES_GCM_NOPADDING : Addr) (kl_AES_128_GCM : Addr) (kl_AES_256_GCM : Addr) (kl_AES_CBC_PKCS5PADDING : Addr) (kl_AES_128_CBC : Addr) (kl_AES_GCM_NOPADDING : Addr) (k_kl_AES_128_GCM : ClassId) (k_kl_AES_256_GCM : ClassId) (k_kl_AES_CBC_PKCS5PADDING : ClassId) (k_kl_AES_128_CBC : ClassId) (k_kl_AES_GCM_NOPADDING : ClassId) (p1 : Int32) (h0 : Heap) (n0 : Nat) (v : Option Value) (h : Heap) (L : List Loc) : Prop := v = some (.int (1 : Int32)) ∧ Fr n0 L ∧ h = h0
set_option maxRecDepth 65536 in
set_option maxHeartbeats 40000000 in
theorem rm14 (l : Launch) (Z : State) (a0 : Array Value) (hw : ∀ d ∈ tables_1, d.before a0 Z = true) (ws : List Jvm.Cond) (w_AES_128_GCM w_AES_256_GCM w_AES_CBC_PKCS5PADDING w_AES_128_CBC w_AES_GCM_NOPADDING kl_AES_128_GCM kl_AES_256_GCM kl_AES_CBC_PKCS5PADDING kl_AES_128_CBC kl_AES_GCM_NOPADDING : Addr) (k_kl_AES_128_GCM : ClassId) (k_kl_AES_256_GCM : ClassId) (k_kl_AES_CBC_PKCS5PADDING : ClassId) (k_kl_AES_128_CBC : ClassId) (k_kl_AES_GCM_NOPADDING : ClassId) (hp : Perm Z w_AES_128_GCM w_AES_256_GCM w_AES_CBC_PKCS5PADDING w_AES_128_CBC w_AES_GCM_NOPADDING kl_AES_128_GCM kl_AES_256_GCM kl_AES_CBC_PKCS5PADDING kl_AES_128_CBC kl_AES_GCM_NOPADDING k_kl_AES_128_GCM k_kl_AES_256_GCM k_kl_AES_CBC_PKCS5PADDING k_kl_AES_128_CBC k_kl_AES_GCM_NOPADDING) (p1 : Int32) (h0 : Heap) (n0 : Nat) (O0 : Old Z n0 h0) (hc1 : p1 = (16 : Int32)) :
    MetFree l y1 (head1 (Jvm.Cond.code y1 prog_31_method_7_code 6 (some .boolean) :: ws) ({ frames := 0, cells := 0, slots := 0, locals := 0 } : Room)) (fun a U => a = #[(.ref w_AES_CBC_PKCS5PADDING), (.int p1)] ∧ Z.Warmed39 U.vm ∧ U.heap = h0) (fun _ _ _ _ _ => True) (fun _ U o U' => ∃ v L, o = .returned v ∧ Q14 Z w_AES_128_GCM w_AES_256_GCM w_AES_CBC_PKCS5PADDING w_AES_128_CBC w_AES_GCM_NOPADDING kl_AES_128_GCM kl_AES_256_GCM kl_AES_CBC_PKCS5PADDING kl_AES_128_CBC kl_AES_GCM_NOPADDING k_kl_AES_128_GCM k_kl_AES_256_GCM k_kl_AES_CBC_PKCS5PADDING k_kl_AES_128_CBC k_kl_AES_GCM_NOPADDING p1 h0 n0 v U'.heap L ∧ FrameEnd U o U' L ({ frames := 0, cells := 0, slots := 0, locals := 0 } : Room).cells ({ frames := 0, cells := 0, slots := 0, locals := 0 } : Room).slots) := by
  refine MetFree.of_bodySF (plainFor_of_name pn_2) hisR ?_
  intro p e s m args below meth c s₁ Bd hml0 hP hK
  obtain ⟨rfl, hZ, hh⟩ := hP
  have hx := Bd.exec
  have hby := Bd.bytes
  have hml : c.maxLocals = 6 := hml0
  have hown : s.vm.findClass "com/example/cloakfield/cloakfield/crypto/EncryptionAlgorithm" = some m.cls := findClass_of_methodNamed Bd.named
  have hnm := (name_of_methodNamed Bd.named Bd.method).1
  have X0 : Stand p l e ({ frames := 0, cells := 0, slots := 0, locals := 0 } : Room) s m #[(.ref w_AES_CBC_PKCS5PADDING), (.int p1)] below meth c s₁ [] 0 0 := Stand.of_body Bd
  have e0 : s₁.heap = h0 := by rw [← hh, Bd.state]; rfl
  have N0 := Fr.nil n0
  have hp' := hp
  obtain ⟨S_w_AES_128_GCM, E_w_AES_128_GCM, S_w_AES_256_GCM, E_w_AES_256_GCM, S_w_AES_CBC_PKCS5PADDING, E_w_AES_CBC_PKCS5PADDING, S_w_AES_128_CBC, E_w_AES_128_CBC, S_w_AES_GCM_NOPADDING, E_w_AES_GCM_NOPADDING, F_keyLengths_w_AES_128_GCM, V_kl_AES_128_GCM, F_keyLengths_w_AES_256_GCM, V_kl_AES_256_GCM, F_keyLengths_w_AES_CBC_PKCS5PADDING, V_kl_AES_CBC_PKCS5PADDING, F_keyLengths_w_AES_128_CBC, V_kl_AES_128_CBC, F_keyLengths_w_AES_GCM_NOPADDING, V_kl_AES_GCM_NOPADDING⟩ := hp'
  have pre0 : ∀ t, Steps p.tables e below (s₁.setTop (mkF m 0 #[.val (.ref w_AES_CBC_PKCS5PADDING), .val (.int p1), .unset, .unset, .unset, .unset] [])) t → Steps p.tables e below (s₁.setTop (entryFrame m #[(.ref w_AES_CBC_PKCS5PADDING), (.int p1)] 6)) t := fun t k => castTop (ef_2_0 m w_AES_CBC_PKCS5PADDING p1) k
  obtain ⟨T1, X1, e1, st1⟩ := getF X0 hx hZ hown (host := "") (Or.inl (hw _ (List.mem_of_getElem? (i := 13) rfl))) Via.refl e0 (F_keyLengths_w_AES_CBC_PKCS5PADDING.ext O0.2) (g := (mkF m 1 #[.val (.ref w_AES_CBC_PKCS5PADDING), .val (.int p1), .unset, .unset, .unset, .unset] [(.ref w_AES_CBC_PKCS5PADDING)])) rfl rfl (hb hby d2_1)
  obtain ⟨cl2, Ar2, -, S2, Nn2, -, -⟩ := (V_kl_AES_CBC_PKCS5PADDING.ext O0.2)
  obtain ⟨cl3, Ar3, -, S3, -, H3, -⟩ := (V_kl_AES_CBC_PKCS5PADDING.ext O0.2)
  have hin3 : ¬ ((0 : Int32) < 0 ∨ cl3.slots.size ≤ ((0 : Int32)).toNatClampNeg) := inb_of S3 ⟨by decide, by decide⟩
  have hat3 : cl3.slots[((0 : Int32)).toNatClampNeg]? = some (.int (16 : Int32)) := H3.at hin3 rfl
  obtain ⟨fs, hr, hrun, hended, hW, hsame⟩ := X1.leave (v := some (.int (1 : Int32))) (fun h => by rw [Bd.returns] at h; cases h)
  refine ⟨_, _, pre0 _ ?_, hrun, hended, _, _, rfl, ?_, ⟨_, rfl⟩, hW, hsame.mono (by decide) (by decide)⟩
  · show Sp p e below s₁ (mkF m 0 #[.val (.ref w_AES_CBC_PKCS5PADDING), .val (.int p1), .unset, .unset, .unset, .unset] []) _
    refine XS.aloadN X0.here hx rfl (hb hby d2_0) rfl rfl ?_
    show Sp p e below s₁ (mkF m 1 #[.val (.ref w_AES_CBC_PKCS5PADDING), .val (.int p1), .unset, .unset, .unset, .unset] [(.ref w_AES_CBC_PKCS5PADDING)]) _
    refine st1 _ ?_
    show Sp p e below T1 (mkF m 4 #[.val (.ref w_AES_CBC_PKCS5PADDING), .val (.int p1), .unset, .unset, .unset, .unset] [(.ref kl_AES_CBC_PKCS5PADDING)]) _
    refine XS.astoreN X1.here hx rfl (hb hby d2_4) rfl rfl (l' := #[.val (.ref w_AES_CBC_PKCS5PADDING), .val (.int p1), .val (.ref kl_AES_CBC_PKCS5PADDING), .unset, .unset, .unset]) rfl ?_
    show Sp p e below T1 (mkF m 5 #[.val (.ref w_AES_CBC_PKCS5PADDING), .val (.int p1), .val (.ref kl_AES_CBC_PKCS5PADDING), .unset, .unset, .unset] []) _
    refine XS.aloadN X1.here hx rfl (hb hby d2_5) rfl rfl ?_
    show Sp p e below T1 (mkF m 6 #[.val (.ref w_AES_CBC_PKCS5PADDING), .val (.int p1), .val (.ref kl_AES_CBC_PKCS5PADDING), .unset, .unset, .unset] [(.ref kl_AES_CBC_PKCS5PADDING)]) _
    refine X1.arraylength hx (by rw [e1]; exact Ar2.1) (State.isArrayOf_alike hZ.alike Ar2.2.1) (g := (mkF m 6 #[.val (.ref w_AES_CBC_PKCS5PADDING), .val (.int p1), .val (.ref kl_AES_CBC_PKCS5PADDING), .unset, .unset, .unset] [(.ref kl_AES_CBC_PKCS5PADDING)])) rfl rfl (hb hby d2_6) _ ?_
    rw [len_of S2 Nn2]
    show Sp p e below T1 (mkF m 7 #[.val (.ref w_AES_CBC_PKCS5PADDING), .val (.int p1), .val (.ref kl_AES_CBC_PKCS5PADDING), .unset, .unset, .unset] [(.int (2 : Int32))]) _
    refine XS.istoreN X1.here hx rfl (hb hby d2_7) rfl (l' := #[.val (.ref w_AES_CBC_PKCS5PADDING), .val (.int p1), .val (.ref kl_AES_CBC_PKCS5PADDING), .val (.int (2 : Int32)), .unset, .unset]) rfl ?_
    show Sp p e below T1 (mkF m 8 #[.val (.ref w_AES_CBC_PKCS5PADDING), .val (.int p1), .val (.ref kl_AES_CBC_PKCS5PADDING), .val (.int (2 : Int32)), .unset, .unset] []) _
    refine XS.iconst X1.here hx rfl (hb hby d2_8) ?_
    show Sp p e below T1 (mkF m 9 #[.val (.ref w_AES_CBC_PKCS5PADDING), .val (.int p1), .val (.ref kl_AES_CBC_PKCS5PADDING), .val (.int (2 : Int32)), .unset, .unset] [(.int (0 : Int32))]) _
    refine XS.istore X1.here hx rfl (hb hby d2_9) rfl (l' := #[.val (.ref w_AES_CBC_PKCS5PADDING), .val (.int p1), .val (.ref kl_AES_CBC_PKCS5PADDING), .val (.int (2 : Int32)), .val (.int (0 : Int32)), .unset]) rfl ?_
    show Sp p e below T1 (mkF m 11 #[.val (.ref w_AES_CBC_PKCS5PADDING), .val (.int p1), .val (.ref kl_AES_CBC_PKCS5PADDING), .val (.int (2 : Int32)), .val (.int (0 : Int32)), .unset] []) _
    refine XS.iload X1.here hx rfl (hb hby d2_11) rfl ?_
    show Sp p e below T1 (mkF m 13 #[.val (.ref w_AES_CBC_PKCS5PADDING), .val (.int p1), .val (.ref kl_AES_CBC_PKCS5PADDING), .val (.int (2 : Int32)), .val (.int (0 : Int32)), .unset] [(.int (0 : Int32))]) _
    refine XS.iloadN X1.here hx rfl (hb hby d2_13) rfl ?_
    show Sp p e below T1 (mkF m 14 #[.val (.ref w_AES_CBC_PKCS5PADDING), .val (.int p1), .val (.ref kl_AES_CBC_PKCS5PADDING), .val (.int (2 : Int32)), .val (.int (0 : Int32)), .unset] [(.int (2 : Int32)), (.int (0 : Int32))]) _
    refine XS.icmpNo X1.here hx rfl (hb hby d2_14) rfl (tlt (by decide : (0 : Int32) < (2 : Int32))).2.1 ?_
    show Sp p e below T1 (mkF m 17 #[.val (.ref w_AES_CBC_PKCS5PADDING), .val (.int p1), .val (.ref kl_AES_CBC_PKCS5PADDING), .val (.int (2 : Int32)), .val (.int (0 : Int32)), .unset] []) _
    refine XS.aloadN X1.here hx rfl (hb hby d2_17) rfl rfl ?_
    show Sp p e below T1 (mkF m 18 #[.val (.ref w_AES_CBC_PKCS5PADDING), .val (.int p1), .val (.ref kl_AES_CBC_PKCS5PADDING), .val (.int (2 : Int32)), .val (.int (0 : Int32)), .unset] [(.ref kl_AES_CBC_PKCS5PADDING)]) _
    refine XS.iload X1.here hx rfl (hb hby d2_18) rfl ?_
    show Sp p e below T1 (mkF m 20 #[.val (.ref w_AES_CBC_PKCS5PADDING), .val (.int p1), .val (.ref kl_AES_CBC_PKCS5PADDING), .val (.int (2 : Int32)), .val (.int (0 : Int32)), .unset] [(.int (0 : Int32)), (.ref kl_AES_CBC_PKCS5PADDING)]) _
    refine X1.iaload hx (j := (0 : Int32)) (v := (.int (16 : Int32))) (by rw [e1]; exact Ar3.1) (State.isArrayOf_alike hZ.alike Ar3.2.1) Ar3.2.2 hin3 hat3 (g := (mkF m 20 #[.val (.ref w_AES_CBC_PKCS5PADDING), .val (.int p1), .val (.ref kl_AES_CBC_PKCS5PADDING), .val (.int (2 : Int32)), .val (.int (0 : Int32)), .unset] [(.int (0 : Int32)), (.ref kl_AES_CBC_PKCS5PADDING)])) rfl rfl (hb hby d2_20) _ ?_
    show Sp p e below T1 (mkF m 21 #[.val (.ref w_AES_CBC_PKCS5PADDING), .val (.int p1), .val (.ref kl_AES_CBC_PKCS5PADDING), .val (.int (2 : Int32)), .val (.int (0 : Int32)), .unset] [(.int (16 : Int32))]) _
    refine XS.istore X1.here hx rfl (hb hby d2_21) rfl (l' := #[.val (.ref w_AES_CBC_PKCS5PADDING), .val (.int p1), .val (.ref kl_AES_CBC_PKCS5PADDING), .val (.int (2 : Int32)), .val (.int (0 : Int32)), .val (.int (16 : Int32))]) rfl ?_
    show Sp p e below T1 (mkF m 23 #[.val (.ref w_AES_CBC_PKCS5PADDING), .val (.int p1), .val (.ref kl_AES_CBC_PKCS5PADDING), .val (.int (2 : Int32)), .val (.int (0 : Int32)), .val (.int (16 : Int32))] []) _
    refine XS.iload X1.here hx rfl (hb hby d2_23) rfl ?_
    show Sp p e below T1 (mkF m 25 #[.val (.ref w_AES_CBC_PKCS5PADDING), .val (.int p1), .val (.ref kl_AES_CBC_PKCS5PADDING), .val (.int (2 : Int32)), .val (.int (0 : Int32)), .val (.int (16 : Int32))] [(.int (16 : Int32))]) _
    refine XS.iloadN X1.here hx rfl (hb hby d2_25) rfl ?_
    show Sp p e below T1 (mkF m 26 #[.val (.ref w_AES_CBC_PKCS5PADDING), .val (.int p1), .val (.ref kl_AES_CBC_PKCS5PADDING), .val (.int (2 : Int32)), .val (.int (0 : Int32)), .val (.int (16 : Int32))] [(.int p1), (.int (16 : Int32))]) _
    refine XS.icmpNo X1.here hx rfl (hb hby d2_26) rfl (teq (Eq.symm hc1)).2 ?_
    show Sp p e below T1 (mkF m 29 #[.val (.ref w_AES_CBC_PKCS5PADDING), .val (.int p1), .val (.ref kl_AES_CBC_PKCS5PADDING), .val (.int (2 : Int32)), .val (.int (0 : Int32)), .val (.int (16 : Int32))] []) _
    refine XS.iconst X1.here hx rfl (hb hby d2_29) ?_
    show Sp p e below T1 (mkF m 30 #[.val (.ref w_AES_CBC_PKCS5PADDING), .val (.int p1), .val (.ref kl_AES_CBC_PKCS5PADDING), .val (.int (2 : Int32)), .val (.int (0 : Int32)), .val (.int (16 : Int32))] [(.int (1 : Int32))]) _
    exact retN X1 hx (t := .boolean) Bd.returns (by simp) (hb hby d2_30) hr
  · show Q14 Z w_AES_128_GCM w_AES_256_GCM w_AES_CBC_PKCS5PADDING w_AES_128_CBC w_AES_GCM_NOPADDING kl_AES_128_GCM kl_AES_256_GCM kl_AES_CBC_PKCS5PADDING kl_AES_128_CBC kl_AES_GCM_NOPADDING k_kl_AES_128_GCM k_kl_AES_256_GCM k_kl_AES_CBC_PKCS5PADDING k_kl_AES_128_CBC k_kl_AES_GCM_NOPADDING p1 h0 n0 _ T1.heap _
    rw [e1]
    exact ⟨rfl, N0, rfl⟩
set_option maxRecDepth 65536 in
set_option maxHeartbeats 40000000 in
theorem rm15 (l : Launch) (Z : State) (a0 : Array Value) (hw : ∀ d ∈ tables_1, d.before a0 Z = true) (ws : List Jvm.Cond) (w_AES_128_GCM w_AES_256_GCM w_AES_CBC_PKCS5PADDING w_AES_128_CBC w_AES_GCM_NOPADDING kl_AES_128_GCM kl_AES_256_GCM kl_AES_CBC_PKCS5PADDING kl_AES_128_CBC kl_AES_GCM_NOPADDING : Addr) (k_kl_AES_128_GCM : ClassId) (k_kl_AES_256_GCM : ClassId) (k_kl_AES_CBC_PKCS5PADDING : ClassId) (k_kl_AES_128_CBC : ClassId) (k_kl_AES_GCM_NOPADDING : ClassId) (hp : Perm Z w_AES_128_GCM w_AES_256_GCM w_AES_CBC_PKCS5PADDING w_AES_128_CBC w_AES_GCM_NOPADDING kl_AES_128_GCM kl_AES_256_GCM kl_AES_CBC_PKCS5PADDING kl_AES_128_CBC kl_AES_GCM_NOPADDING k_kl_AES_128_GCM k_kl_AES_256_GCM k_kl_AES_CBC_PKCS5PADDING k_kl_AES_128_CBC k_kl_AES_GCM_NOPADDING) (p0 : Int32) (p1 : Int32) (p2 : Int32) (z5 : Int32) (h0 : Heap) (n0 : Nat) (O0 : Old Z n0 h0) (hcut : Cut_0_12 p0 p1 p2 ((p0 &&& (2147483647 : Int32)) % (5 : Int32)) (p1 &&& (3 : Int32)) z5) (hc2 : ¬ (((p0 &&& (2147483647 : Int32)) % (5 : Int32)) = (0 : Int32))) (hc3 : ¬ (((p0 &&& (2147483647 : Int32)) % (5 : Int32)) = (1 : Int32))) (hc4 : ¬ (((p0 &&& (2147483647 : Int32)) % (5 : Int32)) = (2 : Int32))) (hc5 : ¬ (((p0 &&& (2147483647 : Int32)) % (5 : Int32)) = (3 : Int32))) (hc6 : z5 = (16 : Int32)) :
    MetFree l x (head1 (Jvm.Cond.code x code maxLocals ret :: ws) room_1) (fun a U => a = #[(.int p0), (.int p1), (.int p2)] ∧ Z.Warmed39 U.vm ∧ U.heap = h0) (fun _ _ _ _ _ => True) (fun _ U o U' => ∃ v L, o = .returned v ∧ (v = some (.int (1 : Int32)) ∧ Fr n0 L) ∧ FrameEnd U o U' L 0 0) := by
  refine MetFree.of_bodySF (plainFor_of_name pn_1) hisR ?_
  intro p e s m args below meth c s₁ Bd hml0 hP hK
  obtain ⟨rfl, hZ, hh⟩ := hP
  have hx := Bd.exec
  have hby := Bd.bytes
  have hml : c.maxLocals = 10 := hml0
  have hown : s.vm.findClass "com/example/cloakfield/cloakfield/crypto/EncryptionAlgorithmAcceptsKeyLengthPinLaw" = some m.cls := findClass_of_methodNamed Bd.named
  have hnm := (name_of_methodNamed Bd.named Bd.method).1
  have X0 : Stand p l e room_1 s m #[(.int p0), (.int p1), (.int p2)] below meth c s₁ [] 0 0 := Stand.of_body Bd
  have e0 : s₁.heap = h0 := by rw [← hh, Bd.state]; rfl
  have N0 := Fr.nil n0
  have hp' := hp
  obtain ⟨S_w_AES_128_GCM, E_w_AES_128_GCM, S_w_AES_256_GCM, E_w_AES_256_GCM, S_w_AES_CBC_PKCS5PADDING, E_w_AES_CBC_PKCS5PADDING, S_w_AES_128_CBC, E_w_AES_128_CBC, S_w_AES_GCM_NOPADDING, E_w_AES_GCM_NOPADDING, F_keyLengths_w_AES_128_GCM, V_kl_AES_128_GCM, F_keyLengths_w_AES_256_GCM, V_kl_AES_256_GCM, F_keyLengths_w_AES_CBC_PKCS5PADDING, V_kl_AES_CBC_PKCS5PADDING, F_keyLengths_w_AES_128_CBC, V_kl_AES_128_CBC, F_keyLengths_w_AES_GCM_NOPADDING, V_kl_AES_GCM_NOPADDING⟩ := hp'
  have pre0 : ∀ t, Steps p.tables e below (s₁.setTop (mkF m 0 #[.val (.int p0), .val (.int p1), .val (.int p2), .unset, .unset, .unset, .unset, .unset, .unset, .unset] [])) t → Steps p.tables e below (s₁.setTop (entryFrame m #[(.int p0), (.int p1), (.int p2)] maxLocals)) t := fun t k => castTop (ef_0_0 m p0 p1 p2) k
  have st1 := hcut X0 hx hZ hw hby hown
  obtain ⟨_, _, ⟨T2, L2, k2, n2⟩, -, X2, ⟨Lc2, hQ2, l2, y2, z2⟩, st2⟩ := Jvm.LawKit.callS X0 hx (y := y0) hown (mvT hZ (hw _ (List.mem_of_getElem? (i := 1) rfl))) (mvT hZ (hw _ (List.mem_of_getElem? (i := 2) rfl))) (mvT hZ (hw _ (List.mem_of_getElem? (i := 3) rfl))) (mvT hZ (hw _ (List.mem_of_getElem? (i := 4) rfl))) (by decide) (backOf (W := 0) (rm13 l Z a0 hw [] w_AES_128_GCM w_AES_256_GCM w_AES_CBC_PKCS5PADDING w_AES_128_CBC w_AES_GCM_NOPADDING kl_AES_128_GCM kl_AES_256_GCM kl_AES_CBC_PKCS5PADDING kl_AES_128_CBC kl_AES_GCM_NOPADDING k_kl_AES_128_GCM k_kl_AES_256_GCM k_kl_AES_CBC_PKCS5PADDING k_kl_AES_128_CBC k_kl_AES_GCM_NOPADDING hp ((p0 &&& (2147483647 : Int32)) % (5 : Int32)) h0 n0 O0 hc2 hc3 hc4 hc5) hZ (hw _ (List.mem_of_getElem? (i := 4) rfl)) (hw _ (List.mem_of_getElem? (i := 3) rfl)) (by decide) (by decide)) (g := (mkF m 59 #[.val (.int p0), .val (.int p1), .val (.int p2), .val (.int ((p0 &&& (2147483647 : Int32)) % (5 : Int32))), .val (.int (p1 &&& (3 : Int32))), .val (.int z5), .unset, .unset, .unset, .unset] [(.int ((p0 &&& (2147483647 : Int32)) % (5 : Int32)))])) rfl (by rw [hml]; rfl) (argsL := [(.int ((p0 &&& (2147483647 : Int32)) % (5 : Int32)))]) (rest := []) (lenOf pd_0 rfl) rfl (by show 2 * 0 + _ ≤ _; exact Nat.le_of_eq rfl) (hb hby at_59) (fun _ _ => ⟨rfl, e0, (by decide : 0 + 0 ≤ _), (by decide : 0 + 0 ≤ _)⟩)
  dsimp only [Pt.U, Pt.locs, Pt.cells, Pt.slots] at X2 l2 y2 z2 st2 hQ2
  subst l2 y2 z2
  obtain ⟨rfl, Nq2, eq2⟩ := hQ2
  have N2 := Fr.app N0 Nq2
  obtain ⟨cq3, kq3, q3a, q3b, q3c⟩ := isOf hZ eq2 (E_w_AES_CBC_PKCS5PADDING.ext O0.2)
  obtain ⟨_, _, ⟨T3, L3, k3, n3⟩, -, X3, ⟨Lc3, hQ3, l3, y3, z3⟩, st3⟩ := X2.virtualBack hx (y := y1) (z := y1) hown (mvT hZ (hw _ (List.mem_of_getElem? (i := 8) rfl))) (mvT hZ (hw _ (List.mem_of_getElem? (i := 9) rfl))) (notFace_of_selects (args := #[]) (mvT hZ (hw _ (List.mem_of_getElem? (i := 11) rfl)))) (mvT hZ (hw _ (List.mem_of_getElem? (i := 11) rfl))) (mvT hZ (hw _ (List.mem_of_getElem? (i := 10) rfl))) (by decide) (backOf (W := 0) (rm14 l Z a0 hw [] w_AES_128_GCM w_AES_256_GCM w_AES_CBC_PKCS5PADDING w_AES_128_CBC w_AES_GCM_NOPADDING kl_AES_128_GCM kl_AES_256_GCM kl_AES_CBC_PKCS5PADDING kl_AES_128_CBC kl_AES_GCM_NOPADDING k_kl_AES_128_GCM k_kl_AES_256_GCM k_kl_AES_CBC_PKCS5PADDING k_kl_AES_128_CBC k_kl_AES_GCM_NOPADDING hp z5 h0 n0 O0 hc6) hZ (hw _ (List.mem_of_getElem? (i := 12) rfl)) (hw _ (List.mem_of_getElem? (i := 6) rfl)) (by decide) (by decide)) q3a q3c (g := (mkF m 147 #[.val (.int p0), .val (.int p1), .val (.int p2), .val (.int ((p0 &&& (2147483647 : Int32)) % (5 : Int32))), .val (.int (p1 &&& (3 : Int32))), .val (.int z5), .val (.ref w_AES_CBC_PKCS5PADDING), .val (.int (1 : Int32)), .val (.int (1 : Int32)), .val (.int (1 : Int32))] [(.int z5), (.ref w_AES_CBC_PKCS5PADDING)])) rfl (by rw [hml]; rfl) (Steps.refl _) (argsL := [(.int z5)]) (rest := []) (lenOf pd_1 rfl) rfl (by show 2 * 0 + _ ≤ _; exact Nat.le_of_eq rfl) (hb hby at_147) (fun _ _ => ⟨rfl, eq2, (by decide : 0 + 0 ≤ _), (by decide : 0 + 0 ≤ _)⟩)
  dsimp only [Pt.U, Pt.locs, Pt.cells, Pt.slots] at X3 l3 y3 z3 st3 hQ3
  subst l3 y3 z3
  obtain ⟨rfl, Nq3, eq3⟩ := hQ3
  have N3 := Fr.app N2 Nq3
  obtain ⟨fs, hr, hrun, hended, hW, hsame⟩ := X3.leave (v := some (.int (1 : Int32))) (fun h => by rw [Bd.returns] at h; cases h)
  refine ⟨_, _, pre0 _ ?_, hrun, hended, _, _, rfl, ?_, ⟨_, rfl⟩, hW, hsame.mono (by decide) (by decide)⟩
  · show Sp p e below s₁ (mkF m 0 #[.val (.int p0), .val (.int p1), .val (.int p2), .unset, .unset, .unset, .unset, .unset, .unset, .unset] []) _
    refine XS.iloadN X0.here hx rfl (hb hby at_0) rfl ?_
    show Sp p e below s₁ (mkF m 1 #[.val (.int p0), .val (.int p1), .val (.int p2), .unset, .unset, .unset, .unset, .unset, .unset, .unset] [(.int p0)]) _
    refine X0.ldcI hx hown (mvT hZ (hw _ (List.mem_of_getElem? (i := 0) rfl))) rfl (hb hby at_1) ?_
    show Sp p e below s₁ (mkF m 3 #[.val (.int p0), .val (.int p1), .val (.int p2), .unset, .unset, .unset, .unset, .unset, .unset, .unset] [(.int (2147483647 : Int32)), (.int p0)]) _
    refine XS.iand X0.here hx rfl (hb hby at_3) rfl ?_
    show Sp p e below s₁ (mkF m 4 #[.val (.int p0), .val (.int p1), .val (.int p2), .unset, .unset, .unset, .unset, .unset, .unset, .unset] [(.int (p0 &&& (2147483647 : Int32)))]) _
    refine XS.iconst X0.here hx rfl (hb hby at_4) ?_
    show Sp p e below s₁ (mkF m 5 #[.val (.int p0), .val (.int p1), .val (.int p2), .unset, .unset, .unset, .unset, .unset, .unset, .unset] [(.int (5 : Int32)), (.int (p0 &&& (2147483647 : Int32)))]) _
    refine iremM X0 hx rfl (hb hby at_5) rfl (by decide) ?_
    show Sp p e below s₁ (mkF m 6 #[.val (.int p0), .val (.int p1), .val (.int p2), .unset, .unset, .unset, .unset, .unset, .unset, .unset] [(.int ((p0 &&& (2147483647 : Int32)) % (5 : Int32)))]) _
    refine XS.istoreN X0.here hx rfl (hb hby at_6) rfl (l' := #[.val (.int p0), .val (.int p1), .val (.int p2), .val (.int ((p0 &&& (2147483647 : Int32)) % (5 : Int32))), .unset, .unset, .unset, .unset, .unset, .unset]) rfl ?_
    show Sp p e below s₁ (mkF m 7 #[.val (.int p0), .val (.int p1), .val (.int p2), .val (.int ((p0 &&& (2147483647 : Int32)) % (5 : Int32))), .unset, .unset, .unset, .unset, .unset, .unset] []) _
    refine XS.iloadN X0.here hx rfl (hb hby at_7) rfl ?_
    show Sp p e below s₁ (mkF m 8 #[.val (.int p0), .val (.int p1), .val (.int p2), .val (.int ((p0 &&& (2147483647 : Int32)) % (5 : Int32))), .unset, .unset, .unset, .unset, .unset, .unset] [(.int p1)]) _
    refine XS.iconst X0.here hx rfl (hb hby at_8) ?_
    show Sp p e below s₁ (mkF m 9 #[.val (.int p0), .val (.int p1), .val (.int p2), .val (.int ((p0 &&& (2147483647 : Int32)) % (5 : Int32))), .unset, .unset, .unset, .unset, .unset, .unset] [(.int (3 : Int32)), (.int p1)]) _
    refine XS.iand X0.here hx rfl (hb hby at_9) rfl ?_
    show Sp p e below s₁ (mkF m 10 #[.val (.int p0), .val (.int p1), .val (.int p2), .val (.int ((p0 &&& (2147483647 : Int32)) % (5 : Int32))), .unset, .unset, .unset, .unset, .unset, .unset] [(.int (p1 &&& (3 : Int32)))]) _
    refine XS.istore X0.here hx rfl (hb hby at_10) rfl (l' := #[.val (.int p0), .val (.int p1), .val (.int p2), .val (.int ((p0 &&& (2147483647 : Int32)) % (5 : Int32))), .val (.int (p1 &&& (3 : Int32))), .unset, .unset, .unset, .unset, .unset]) rfl ?_
    show Sp p e below s₁ (mkF m 12 #[.val (.int p0), .val (.int p1), .val (.int p2), .val (.int ((p0 &&& (2147483647 : Int32)) % (5 : Int32))), .val (.int (p1 &&& (3 : Int32))), .unset, .unset, .unset, .unset, .unset] []) _
    refine st1 _ ?_
    show Sp p e below s₁ (mkF m 58 #[.val (.int p0), .val (.int p1), .val (.int p2), .val (.int ((p0 &&& (2147483647 : Int32)) % (5 : Int32))), .val (.int (p1 &&& (3 : Int32))), .val (.int z5), .unset, .unset, .unset, .unset] []) _
    refine XS.iloadN X0.here hx rfl (hb hby at_58) rfl ?_
    show Sp p e below s₁ (mkF m 59 #[.val (.int p0), .val (.int p1), .val (.int p2), .val (.int ((p0 &&& (2147483647 : Int32)) % (5 : Int32))), .val (.int (p1 &&& (3 : Int32))), .val (.int z5), .unset, .unset, .unset, .unset] [(.int ((p0 &&& (2147483647 : Int32)) % (5 : Int32)))]) _
    refine st2 _ ?_
    show Sp p e below T2 (mkF m 62 #[.val (.int p0), .val (.int p1), .val (.int p2), .val (.int ((p0 &&& (2147483647 : Int32)) % (5 : Int32))), .val (.int (p1 &&& (3 : Int32))), .val (.int z5), .unset, .unset, .unset, .unset] [(.ref w_AES_CBC_PKCS5PADDING)]) _
    refine XS.astore X2.here hx rfl (hb hby at_62) rfl rfl (l' := #[.val (.int p0), .val (.int p1), .val (.int p2), .val (.int ((p0 &&& (2147483647 : Int32)) % (5 : Int32))), .val (.int (p1 &&& (3 : Int32))), .val (.int z5), .val (.ref w_AES_CBC_PKCS5PADDING), .unset, .unset, .unset]) rfl ?_
    show Sp p e below T2 (mkF m 64 #[.val (.int p0), .val (.int p1), .val (.int p2), .val (.int ((p0 &&& (2147483647 : Int32)) % (5 : Int32))), .val (.int (p1 &&& (3 : Int32))), .val (.int z5), .val (.ref w_AES_CBC_PKCS5PADDING), .unset, .unset, .unset] []) _
    refine XS.iloadN X2.here hx rfl (hb hby at_64) rfl ?_
    show Sp p e below T2 (mkF m 65 #[.val (.int p0), .val (.int p1), .val (.int p2), .val (.int ((p0 &&& (2147483647 : Int32)) % (5 : Int32))), .val (.int (p1 &&& (3 : Int32))), .val (.int z5), .val (.ref w_AES_CBC_PKCS5PADDING), .unset, .unset, .unset] [(.int ((p0 &&& (2147483647 : Int32)) % (5 : Int32)))]) _
    refine XS.ifNo X2.here hx rfl (hb hby at_65) rfl ((if0 _ _).trans (feq hc2).1) ?_
    show Sp p e below T2 (mkF m 68 #[.val (.int p0), .val (.int p1), .val (.int p2), .val (.int ((p0 &&& (2147483647 : Int32)) % (5 : Int32))), .val (.int (p1 &&& (3 : Int32))), .val (.int z5), .val (.ref w_AES_CBC_PKCS5PADDING), .unset, .unset, .unset] []) _
    refine XS.iloadN X2.here hx rfl (hb hby at_68) rfl ?_
    show Sp p e below T2 (mkF m 69 #[.val (.int p0), .val (.int p1), .val (.int p2), .val (.int ((p0 &&& (2147483647 : Int32)) % (5 : Int32))), .val (.int (p1 &&& (3 : Int32))), .val (.int z5), .val (.ref w_AES_CBC_PKCS5PADDING), .unset, .unset, .unset] [(.int ((p0 &&& (2147483647 : Int32)) % (5 : Int32)))]) _
    refine XS.iconst X2.here hx rfl (hb hby at_69) ?_
    show Sp p e below T2 (mkF m 70 #[.val (.int p0), .val (.int p1), .val (.int p2), .val (.int ((p0 &&& (2147483647 : Int32)) % (5 : Int32))), .val (.int (p1 &&& (3 : Int32))), .val (.int z5), .val (.ref w_AES_CBC_PKCS5PADDING), .unset, .unset, .unset] [(.int (2 : Int32)), (.int ((p0 &&& (2147483647 : Int32)) % (5 : Int32)))]) _
    refine XS.icmpNo X2.here hx rfl (hb hby at_70) rfl (feq hc4).1 ?_
    show Sp p e below T2 (mkF m 73 #[.val (.int p0), .val (.int p1), .val (.int p2), .val (.int ((p0 &&& (2147483647 : Int32)) % (5 : Int32))), .val (.int (p1 &&& (3 : Int32))), .val (.int z5), .val (.ref w_AES_CBC_PKCS5PADDING), .unset, .unset, .unset] []) _
    refine XS.iloadN X2.here hx rfl (hb hby at_73) rfl ?_
    show Sp p e below T2 (mkF m 74 #[.val (.int p0), .val (.int p1), .val (.int p2), .val (.int ((p0 &&& (2147483647 : Int32)) % (5 : Int32))), .val (.int (p1 &&& (3 : Int32))), .val (.int z5), .val (.ref w_AES_CBC_PKCS5PADDING), .unset, .unset, .unset] [(.int ((p0 &&& (2147483647 : Int32)) % (5 : Int32)))]) _
    refine XS.iconst X2.here hx rfl (hb hby at_74) ?_
    show Sp p e below T2 (mkF m 75 #[.val (.int p0), .val (.int p1), .val (.int p2), .val (.int ((p0 &&& (2147483647 : Int32)) % (5 : Int32))), .val (.int (p1 &&& (3 : Int32))), .val (.int z5), .val (.ref w_AES_CBC_PKCS5PADDING), .unset, .unset, .unset] [(.int (3 : Int32)), (.int ((p0 &&& (2147483647 : Int32)) % (5 : Int32)))]) _
    refine XS.icmpNo X2.here hx rfl (hb hby at_75) rfl (feq hc5).1 ?_
    show Sp p e below T2 (mkF m 78 #[.val (.int p0), .val (.int p1), .val (.int p2), .val (.int ((p0 &&& (2147483647 : Int32)) % (5 : Int32))), .val (.int (p1 &&& (3 : Int32))), .val (.int z5), .val (.ref w_AES_CBC_PKCS5PADDING), .unset, .unset, .unset] []) _
    refine XS.iloadN X2.here hx rfl (hb hby at_78) rfl ?_
    show Sp p e below T2 (mkF m 79 #[.val (.int p0), .val (.int p1), .val (.int p2), .val (.int ((p0 &&& (2147483647 : Int32)) % (5 : Int32))), .val (.int (p1 &&& (3 : Int32))), .val (.int z5), .val (.ref w_AES_CBC_PKCS5PADDING), .unset, .unset, .unset] [(.int ((p0 &&& (2147483647 : Int32)) % (5 : Int32)))]) _
    refine XS.iconst X2.here hx rfl (hb hby at_79) ?_
    show Sp p e below T2 (mkF m 80 #[.val (.int p0), .val (.int p1), .val (.int p2), .val (.int ((p0 &&& (2147483647 : Int32)) % (5 : Int32))), .val (.int (p1 &&& (3 : Int32))), .val (.int z5), .val (.ref w_AES_CBC_PKCS5PADDING), .unset, .unset, .unset] [(.int (4 : Int32)), (.int ((p0 &&& (2147483647 : Int32)) % (5 : Int32)))]) _
    refine XS.icmpNo X2.here hx rfl (hb hby at_80) rfl (teq (own_eq (n := 4) rfl (by have r := (own_rem (x := p0) (m := (2147483647 : Int32)) (M := 2147483647) rfl (by decide) (y := (5 : Int32)) (d := 5) rfl (by decide)); have q0 := own_nei hc2 (n := 0) rfl; have q1 := own_nei hc3 (n := 1) rfl; have q2 := own_nei hc4 (n := 2) rfl; have q3 := own_nei hc5 (n := 3) rfl; omega) : ((p0 &&& (2147483647 : Int32)) % (5 : Int32)) = (4 : Int32))).2 ?_
    show Sp p e below T2 (mkF m 83 #[.val (.int p0), .val (.int p1), .val (.int p2), .val (.int ((p0 &&& (2147483647 : Int32)) % (5 : Int32))), .val (.int (p1 &&& (3 : Int32))), .val (.int z5), .val (.ref w_AES_CBC_PKCS5PADDING), .unset, .unset, .unset] []) _
    refine XS.iconst X2.here hx rfl (hb hby at_83) ?_
    show Sp p e below T2 (mkF m 84 #[.val (.int p0), .val (.int p1), .val (.int p2), .val (.int ((p0 &&& (2147483647 : Int32)) % (5 : Int32))), .val (.int (p1 &&& (3 : Int32))), .val (.int z5), .val (.ref w_AES_CBC_PKCS5PADDING), .unset, .unset, .unset] [(.int (1 : Int32))]) _
    refine XS.goto X2.here hx rfl (pc0 := 84) (pc' := 88) rfl (hb hby at_84) (by decide) (by decide) ?_
    show Sp p e below T2 (mkF m 88 #[.val (.int p0), .val (.int p1), .val (.int p2), .val (.int ((p0 &&& (2147483647 : Int32)) % (5 : Int32))), .val (.int (p1 &&& (3 : Int32))), .val (.int z5), .val (.ref w_AES_CBC_PKCS5PADDING), .unset, .unset, .unset] [(.int (1 : Int32))]) _
    refine XS.istore X2.here hx rfl (hb hby at_88) rfl (l' := #[.val (.int p0), .val (.int p1), .val (.int p2), .val (.int ((p0 &&& (2147483647 : Int32)) % (5 : Int32))), .val (.int (p1 &&& (3 : Int32))), .val (.int z5), .val (.ref w_AES_CBC_PKCS5PADDING), .val (.int (1 : Int32)), .unset, .unset]) rfl ?_
    show Sp p e below T2 (mkF m 90 #[.val (.int p0), .val (.int p1), .val (.int p2), .val (.int ((p0 &&& (2147483647 : Int32)) % (5 : Int32))), .val (.int (p1 &&& (3 : Int32))), .val (.int z5), .val (.ref w_AES_CBC_PKCS5PADDING), .val (.int (1 : Int32)), .unset, .unset] []) _
    refine XS.iloadN X2.here hx rfl (hb hby at_90) rfl ?_
    show Sp p e below T2 (mkF m 91 #[.val (.int p0), .val (.int p1), .val (.int p2), .val (.int ((p0 &&& (2147483647 : Int32)) % (5 : Int32))), .val (.int (p1 &&& (3 : Int32))), .val (.int z5), .val (.ref w_AES_CBC_PKCS5PADDING), .val (.int (1 : Int32)), .unset, .unset] [(.int ((p0 &&& (2147483647 : Int32)) % (5 : Int32)))]) _
    refine XS.iconst X2.here hx rfl (hb hby at_91) ?_
    show Sp p e below T2 (mkF m 92 #[.val (.int p0), .val (.int p1), .val (.int p2), .val (.int ((p0 &&& (2147483647 : Int32)) % (5 : Int32))), .val (.int (p1 &&& (3 : Int32))), .val (.int z5), .val (.ref w_AES_CBC_PKCS5PADDING), .val (.int (1 : Int32)), .unset, .unset] [(.int (1 : Int32)), (.int ((p0 &&& (2147483647 : Int32)) % (5 : Int32)))]) _
    refine XS.icmpNo X2.here hx rfl (hb hby at_92) rfl (feq hc3).1 ?_
    show Sp p e below T2 (mkF m 95 #[.val (.int p0), .val (.int p1), .val (.int p2), .val (.int ((p0 &&& (2147483647 : Int32)) % (5 : Int32))), .val (.int (p1 &&& (3 : Int32))), .val (.int z5), .val (.ref w_AES_CBC_PKCS5PADDING), .val (.int (1 : Int32)), .unset, .unset] []) _
    refine XS.iloadN X2.here hx rfl (hb hby at_95) rfl ?_
    show Sp p e below T2 (mkF m 96 #[.val (.int p0), .val (.int p1), .val (.int p2), .val (.int ((p0 &&& (2147483647 : Int32)) % (5 : Int32))), .val (.int (p1 &&& (3 : Int32))), .val (.int z5), .val (.ref w_AES_CBC_PKCS5PADDING), .val (.int (1 : Int32)), .unset, .unset] [(.int ((p0 &&& (2147483647 : Int32)) % (5 : Int32)))]) _
    refine XS.iconst X2.here hx rfl (hb hby at_96) ?_
    show Sp p e below T2 (mkF m 97 #[.val (.int p0), .val (.int p1), .val (.int p2), .val (.int ((p0 &&& (2147483647 : Int32)) % (5 : Int32))), .val (.int (p1 &&& (3 : Int32))), .val (.int z5), .val (.ref w_AES_CBC_PKCS5PADDING), .val (.int (1 : Int32)), .unset, .unset] [(.int (2 : Int32)), (.int ((p0 &&& (2147483647 : Int32)) % (5 : Int32)))]) _
    refine XS.icmpNo X2.here hx rfl (hb hby at_97) rfl (feq hc4).1 ?_
    show Sp p e below T2 (mkF m 100 #[.val (.int p0), .val (.int p1), .val (.int p2), .val (.int ((p0 &&& (2147483647 : Int32)) % (5 : Int32))), .val (.int (p1 &&& (3 : Int32))), .val (.int z5), .val (.ref w_AES_CBC_PKCS5PADDING), .val (.int (1 : Int32)), .unset, .unset] []) _
    refine XS.iloadN X2.here hx rfl (hb hby at_100) rfl ?_
    show Sp p e below T2 (mkF m 101 #[.val (.int p0), .val (.int p1), .val (.int p2), .val (.int ((p0 &&& (2147483647 : Int32)) % (5 : Int32))), .val (.int (p1 &&& (3 : Int32))), .val (.int z5), .val (.ref w_AES_CBC_PKCS5PADDING), .val (.int (1 : Int32)), .unset, .unset] [(.int ((p0 &&& (2147483647 : Int32)) % (5 : Int32)))]) _
    refine XS.iconst X2.here hx rfl (hb hby at_101) ?_
    show Sp p e below T2 (mkF m 102 #[.val (.int p0), .val (.int p1), .val (.int p2), .val (.int ((p0 &&& (2147483647 : Int32)) % (5 : Int32))), .val (.int (p1 &&& (3 : Int32))), .val (.int z5), .val (.ref w_AES_CBC_PKCS5PADDING), .val (.int (1 : Int32)), .unset, .unset] [(.int (4 : Int32)), (.int ((p0 &&& (2147483647 : Int32)) % (5 : Int32)))]) _
    refine XS.icmpNo X2.here hx rfl (hb hby at_102) rfl (teq (own_eq (n := 4) rfl (by have r := (own_rem (x := p0) (m := (2147483647 : Int32)) (M := 2147483647) rfl (by decide) (y := (5 : Int32)) (d := 5) rfl (by decide)); have q0 := own_nei hc2 (n := 0) rfl; have q1 := own_nei hc3 (n := 1) rfl; have q2 := own_nei hc4 (n := 2) rfl; have q3 := own_nei hc5 (n := 3) rfl; omega) : ((p0 &&& (2147483647 : Int32)) % (5 : Int32)) = (4 : Int32))).2 ?_
    show Sp p e below T2 (mkF m 105 #[.val (.int p0), .val (.int p1), .val (.int p2), .val (.int ((p0 &&& (2147483647 : Int32)) % (5 : Int32))), .val (.int (p1 &&& (3 : Int32))), .val (.int z5), .val (.ref w_AES_CBC_PKCS5PADDING), .val (.int (1 : Int32)), .unset, .unset] []) _
    refine XS.iconst X2.here hx rfl (hb hby at_105) ?_
    show Sp p e below T2 (mkF m 106 #[.val (.int p0), .val (.int p1), .val (.int p2), .val (.int ((p0 &&& (2147483647 : Int32)) % (5 : Int32))), .val (.int (p1 &&& (3 : Int32))), .val (.int z5), .val (.ref w_AES_CBC_PKCS5PADDING), .val (.int (1 : Int32)), .unset, .unset] [(.int (1 : Int32))]) _
    refine XS.goto X2.here hx rfl (pc0 := 106) (pc' := 110) rfl (hb hby at_106) (by decide) (by decide) ?_
    show Sp p e below T2 (mkF m 110 #[.val (.int p0), .val (.int p1), .val (.int p2), .val (.int ((p0 &&& (2147483647 : Int32)) % (5 : Int32))), .val (.int (p1 &&& (3 : Int32))), .val (.int z5), .val (.ref w_AES_CBC_PKCS5PADDING), .val (.int (1 : Int32)), .unset, .unset] [(.int (1 : Int32))]) _
    refine XS.istore X2.here hx rfl (hb hby at_110) rfl (l' := #[.val (.int p0), .val (.int p1), .val (.int p2), .val (.int ((p0 &&& (2147483647 : Int32)) % (5 : Int32))), .val (.int (p1 &&& (3 : Int32))), .val (.int z5), .val (.ref w_AES_CBC_PKCS5PADDING), .val (.int (1 : Int32)), .val (.int (1 : Int32)), .unset]) rfl ?_
    show Sp p e below T2 (mkF m 112 #[.val (.int p0), .val (.int p1), .val (.int p2), .val (.int ((p0 &&& (2147483647 : Int32)) % (5 : Int32))), .val (.int (p1 &&& (3 : Int32))), .val (.int z5), .val (.ref w_AES_CBC_PKCS5PADDING), .val (.int (1 : Int32)), .val (.int (1 : Int32)), .unset] []) _
    refine XS.iload X2.here hx rfl (hb hby at_112) rfl ?_
    show Sp p e below T2 (mkF m 114 #[.val (.int p0), .val (.int p1), .val (.int p2), .val (.int ((p0 &&& (2147483647 : Int32)) % (5 : Int32))), .val (.int (p1 &&& (3 : Int32))), .val (.int z5), .val (.ref w_AES_CBC_PKCS5PADDING), .val (.int (1 : Int32)), .val (.int (1 : Int32)), .unset] [(.int z5)]) _
    refine XS.bipush X2.here hx rfl (hb hby at_114) ?_
    show Sp p e below T2 (mkF m 116 #[.val (.int p0), .val (.int p1), .val (.int p2), .val (.int ((p0 &&& (2147483647 : Int32)) % (5 : Int32))), .val (.int (p1 &&& (3 : Int32))), .val (.int z5), .val (.ref w_AES_CBC_PKCS5PADDING), .val (.int (1 : Int32)), .val (.int (1 : Int32)), .unset] [(.int (16 : Int32)), (.int z5)]) _
    refine XS.icmpNo X2.here hx rfl (hb hby at_116) rfl (teq hc6).2 ?_
    show Sp p e below T2 (mkF m 119 #[.val (.int p0), .val (.int p1), .val (.int p2), .val (.int ((p0 &&& (2147483647 : Int32)) % (5 : Int32))), .val (.int (p1 &&& (3 : Int32))), .val (.int z5), .val (.ref w_AES_CBC_PKCS5PADDING), .val (.int (1 : Int32)), .val (.int (1 : Int32)), .unset] []) _
    refine XS.iload X2.here hx rfl (hb hby at_119) rfl ?_
    show Sp p e below T2 (mkF m 121 #[.val (.int p0), .val (.int p1), .val (.int p2), .val (.int ((p0 &&& (2147483647 : Int32)) % (5 : Int32))), .val (.int (p1 &&& (3 : Int32))), .val (.int z5), .val (.ref w_AES_CBC_PKCS5PADDING), .val (.int (1 : Int32)), .val (.int (1 : Int32)), .unset] [(.int (1 : Int32))]) _
    refine XS.ifYes X2.here hx rfl (pc0 := 121) (pc' := 136) rfl (hb hby at_121) rfl ((if0 _ _).trans (feq (by decide : ¬ ((1 : Int32) = (0 : Int32)))).2) (by decide) (by decide) ?_
    show Sp p e below T2 (mkF m 136 #[.val (.int p0), .val (.int p1), .val (.int p2), .val (.int ((p0 &&& (2147483647 : Int32)) % (5 : Int32))), .val (.int (p1 &&& (3 : Int32))), .val (.int z5), .val (.ref w_AES_CBC_PKCS5PADDING), .val (.int (1 : Int32)), .val (.int (1 : Int32)), .unset] []) _
    refine XS.iconst X2.here hx rfl (hb hby at_136) ?_
    show Sp p e below T2 (mkF m 137 #[.val (.int p0), .val (.int p1), .val (.int p2), .val (.int ((p0 &&& (2147483647 : Int32)) % (5 : Int32))), .val (.int (p1 &&& (3 : Int32))), .val (.int z5), .val (.ref w_AES_CBC_PKCS5PADDING), .val (.int (1 : Int32)), .val (.int (1 : Int32)), .unset] [(.int (1 : Int32))]) _
    refine XS.goto X2.here hx rfl (pc0 := 137) (pc' := 141) rfl (hb hby at_137) (by decide) (by decide) ?_
    show Sp p e below T2 (mkF m 141 #[.val (.int p0), .val (.int p1), .val (.int p2), .val (.int ((p0 &&& (2147483647 : Int32)) % (5 : Int32))), .val (.int (p1 &&& (3 : Int32))), .val (.int z5), .val (.ref w_AES_CBC_PKCS5PADDING), .val (.int (1 : Int32)), .val (.int (1 : Int32)), .unset] [(.int (1 : Int32))]) _
    refine XS.istore X2.here hx rfl (hb hby at_141) rfl (l' := #[.val (.int p0), .val (.int p1), .val (.int p2), .val (.int ((p0 &&& (2147483647 : Int32)) % (5 : Int32))), .val (.int (p1 &&& (3 : Int32))), .val (.int z5), .val (.ref w_AES_CBC_PKCS5PADDING), .val (.int (1 : Int32)), .val (.int (1 : Int32)), .val (.int (1 : Int32))]) rfl ?_
    show Sp p e below T2 (mkF m 143 #[.val (.int p0), .val (.int p1), .val (.int p2), .val (.int ((p0 &&& (2147483647 : Int32)) % (5 : Int32))), .val (.int (p1 &&& (3 : Int32))), .val (.int z5), .val (.ref w_AES_CBC_PKCS5PADDING), .val (.int (1 : Int32)), .val (.int (1 : Int32)), .val (.int (1 : Int32))] []) _
    refine XS.aload X2.here hx rfl (hb hby at_143) rfl rfl ?_
    show Sp p e below T2 (mkF m 145 #[.val (.int p0), .val (.int p1), .val (.int p2), .val (.int ((p0 &&& (2147483647 : Int32)) % (5 : Int32))), .val (.int (p1 &&& (3 : Int32))), .val (.int z5), .val (.ref w_AES_CBC_PKCS5PADDING), .val (.int (1 : Int32)), .val (.int (1 : Int32)), .val (.int (1 : Int32))] [(.ref w_AES_CBC_PKCS5PADDING)]) _
    refine XS.iload X2.here hx rfl (hb hby at_145) rfl ?_
    show Sp p e below T2 (mkF m 147 #[.val (.int p0), .val (.int p1), .val (.int p2), .val (.int ((p0 &&& (2147483647 : Int32)) % (5 : Int32))), .val (.int (p1 &&& (3 : Int32))), .val (.int z5), .val (.ref w_AES_CBC_PKCS5PADDING), .val (.int (1 : Int32)), .val (.int (1 : Int32)), .val (.int (1 : Int32))] [(.int z5), (.ref w_AES_CBC_PKCS5PADDING)]) _
    refine st3.trans ?_
    show Sp p e below T3 (mkF m 150 #[.val (.int p0), .val (.int p1), .val (.int p2), .val (.int ((p0 &&& (2147483647 : Int32)) % (5 : Int32))), .val (.int (p1 &&& (3 : Int32))), .val (.int z5), .val (.ref w_AES_CBC_PKCS5PADDING), .val (.int (1 : Int32)), .val (.int (1 : Int32)), .val (.int (1 : Int32))] [(.int (1 : Int32))]) _
    refine XS.iload X3.here hx rfl (hb hby at_150) rfl ?_
    show Sp p e below T3 (mkF m 152 #[.val (.int p0), .val (.int p1), .val (.int p2), .val (.int ((p0 &&& (2147483647 : Int32)) % (5 : Int32))), .val (.int (p1 &&& (3 : Int32))), .val (.int z5), .val (.ref w_AES_CBC_PKCS5PADDING), .val (.int (1 : Int32)), .val (.int (1 : Int32)), .val (.int (1 : Int32))] [(.int (1 : Int32)), (.int (1 : Int32))]) _
    refine XS.icmpNo X3.here hx rfl (hb hby at_152) rfl (teq (by decide : (1 : Int32) = (1 : Int32))).2 ?_
    show Sp p e below T3 (mkF m 155 #[.val (.int p0), .val (.int p1), .val (.int p2), .val (.int ((p0 &&& (2147483647 : Int32)) % (5 : Int32))), .val (.int (p1 &&& (3 : Int32))), .val (.int z5), .val (.ref w_AES_CBC_PKCS5PADDING), .val (.int (1 : Int32)), .val (.int (1 : Int32)), .val (.int (1 : Int32))] []) _
    refine XS.iconst X3.here hx rfl (hb hby at_155) ?_
    show Sp p e below T3 (mkF m 156 #[.val (.int p0), .val (.int p1), .val (.int p2), .val (.int ((p0 &&& (2147483647 : Int32)) % (5 : Int32))), .val (.int (p1 &&& (3 : Int32))), .val (.int z5), .val (.ref w_AES_CBC_PKCS5PADDING), .val (.int (1 : Int32)), .val (.int (1 : Int32)), .val (.int (1 : Int32))] [(.int (1 : Int32))]) _
    refine XS.goto X3.here hx rfl (pc0 := 156) (pc' := 160) rfl (hb hby at_156) (by decide) (by decide) ?_
    show Sp p e below T3 (mkF m 160 #[.val (.int p0), .val (.int p1), .val (.int p2), .val (.int ((p0 &&& (2147483647 : Int32)) % (5 : Int32))), .val (.int (p1 &&& (3 : Int32))), .val (.int z5), .val (.ref w_AES_CBC_PKCS5PADDING), .val (.int (1 : Int32)), .val (.int (1 : Int32)), .val (.int (1 : Int32))] [(.int (1 : Int32))]) _
    exact retN X3 hx (t := .boolean) Bd.returns (by simp) (hb hby at_160) hr
  · skip
    exact ⟨rfl, N3⟩
def Q16 (Z : State) (w_AES_128_GCM : Addr) (w_AES_256_GCM : Addr) (w_AES_CBC_PKCS5PADDING : Addr) (w_AES_128_CBC : Addr) (w_AES_GCM_NOPADDING : Addr) (kl_AES_128_GCM : Addr) (kl_AES_256_GCM : Addr) (kl_AES_CBC_PKCS5PADDING : Addr) (kl_AES_128_CBC : Addr) (kl_AES_GCM_NOPADDING : Addr) (k_kl_AES_128_GCM : ClassId) (k_kl_AES_256_GCM : ClassId) (k_kl_AES_CBC_PKCS5PADDING : ClassId) (k_kl_AES_128_CBC : ClassId) (k_kl_AES_GCM_NOPADDING : ClassId) (p1 : Int32) (h0 : Heap) (n0 : Nat) (v : Option Value) (h : Heap) (L : List Loc) : Prop := v = some (.int (1 : Int32)) ∧ Fr n0 L ∧ h = h0
set_option maxRecDepth 65536 in
set_option maxHeartbeats 40000000 in
theorem rm16 (l : Launch) (Z : State) (a0 : Array Value) (hw : ∀ d ∈ tables_1, d.before a0 Z = true) (ws : List Jvm.Cond) (w_AES_128_GCM w_AES_256_GCM w_AES_CBC_PKCS5PADDING w_AES_128_CBC w_AES_GCM_NOPADDING kl_AES_128_GCM kl_AES_256_GCM kl_AES_CBC_PKCS5PADDING kl_AES_128_CBC kl_AES_GCM_NOPADDING : Addr) (k_kl_AES_128_GCM : ClassId) (k_kl_AES_256_GCM : ClassId) (k_kl_AES_CBC_PKCS5PADDING : ClassId) (k_kl_AES_128_CBC : ClassId) (k_kl_AES_GCM_NOPADDING : ClassId) (hp : Perm Z w_AES_128_GCM w_AES_256_GCM w_AES_CBC_PKCS5PADDING w_AES_128_CBC w_AES_GCM_NOPADDING kl_AES_128_GCM kl_AES_256_GCM kl_AES_CBC_PKCS5PADDING kl_AES_128_CBC kl_AES_GCM_NOPADDING k_kl_AES_128_GCM k_kl_AES_256_GCM k_kl_AES_CBC_PKCS5PADDING k_kl_AES_128_CBC k_kl_AES_GCM_NOPADDING) (p1 : Int32) (h0 : Heap) (n0 : Nat) (O0 : Old Z n0 h0) (hc1 : ¬ (p1 = (16 : Int32))) (hc2 : p1 = (32 : Int32)) :
    MetFree l y1 (head1 (Jvm.Cond.code y1 prog_31_method_7_code 6 (some .boolean) :: ws) ({ frames := 0, cells := 0, slots := 0, locals := 0 } : Room)) (fun a U => a = #[(.ref w_AES_CBC_PKCS5PADDING), (.int p1)] ∧ Z.Warmed39 U.vm ∧ U.heap = h0) (fun _ _ _ _ _ => True) (fun _ U o U' => ∃ v L, o = .returned v ∧ Q16 Z w_AES_128_GCM w_AES_256_GCM w_AES_CBC_PKCS5PADDING w_AES_128_CBC w_AES_GCM_NOPADDING kl_AES_128_GCM kl_AES_256_GCM kl_AES_CBC_PKCS5PADDING kl_AES_128_CBC kl_AES_GCM_NOPADDING k_kl_AES_128_GCM k_kl_AES_256_GCM k_kl_AES_CBC_PKCS5PADDING k_kl_AES_128_CBC k_kl_AES_GCM_NOPADDING p1 h0 n0 v U'.heap L ∧ FrameEnd U o U' L ({ frames := 0, cells := 0, slots := 0, locals := 0 } : Room).cells ({ frames := 0, cells := 0, slots := 0, locals := 0 } : Room).slots) := by
  refine MetFree.of_bodySF (plainFor_of_name pn_2) hisR ?_
  intro p e s m args below meth c s₁ Bd hml0 hP hK
  obtain ⟨rfl, hZ, hh⟩ := hP
  have hx := Bd.exec
  have hby := Bd.bytes
  have hml : c.maxLocals = 6 := hml0
  have hown : s.vm.findClass "com/example/cloakfield/cloakfield/crypto/EncryptionAlgorithm" = some m.cls := findClass_of_methodNamed Bd.named
  have hnm := (name_of_methodNamed Bd.named Bd.method).1
  have X0 : Stand p l e ({ frames := 0, cells := 0, slots := 0, locals := 0 } : Room) s m #[(.ref w_AES_CBC_PKCS5PADDING), (.int p1)] below meth c s₁ [] 0 0 := Stand.of_body Bd
  have e0 : s₁.heap = h0 := by rw [← hh, Bd.state]; rfl
  have N0 := Fr.nil n0
  have hp' := hp
  obtain ⟨S_w_AES_128_GCM, E_w_AES_128_GCM, S_w_AES_256_GCM, E_w_AES_256_GCM, S_w_AES_CBC_PKCS5PADDING, E_w_AES_CBC_PKCS5PADDING, S_w_AES_128_CBC, E_w_AES_128_CBC, S_w_AES_GCM_NOPADDING, E_w_AES_GCM_NOPADDING, F_keyLengths_w_AES_128_GCM, V_kl_AES_128_GCM, F_keyLengths_w_AES_256_GCM, V_kl_AES_256_GCM, F_keyLengths_w_AES_CBC_PKCS5PADDING, V_kl_AES_CBC_PKCS5PADDING, F_keyLengths_w_AES_128_CBC, V_kl_AES_128_CBC, F_keyLengths_w_AES_GCM_NOPADDING, V_kl_AES_GCM_NOPADDING⟩ := hp'
  have pre0 : ∀ t, Steps p.tables e below (s₁.setTop (mkF m 0 #[.val (.ref w_AES_CBC_PKCS5PADDING), .val (.int p1), .unset, .unset, .unset, .unset] [])) t → Steps p.tables e below (s₁.setTop (entryFrame m #[(.ref w_AES_CBC_PKCS5PADDING), (.int p1)] 6)) t := fun t k => castTop (ef_2_0 m w_AES_CBC_PKCS5PADDING p1) k
  obtain ⟨T1, X1, e1, st1⟩ := getF X0 hx hZ hown (host := "") (Or.inl (hw _ (List.mem_of_getElem? (i := 13) rfl))) Via.refl e0 (F_keyLengths_w_AES_CBC_PKCS5PADDING.ext O0.2) (g := (mkF m 1 #[.val (.ref w_AES_CBC_PKCS5PADDING), .val (.int p1), .unset, .unset, .unset, .unset] [(.ref w_AES_CBC_PKCS5PADDING)])) rfl rfl (hb hby d2_1)
  obtain ⟨cl2, Ar2, -, S2, Nn2, -, -⟩ := (V_kl_AES_CBC_PKCS5PADDING.ext O0.2)
  obtain ⟨cl3, Ar3, -, S3, -, H3, -⟩ := (V_kl_AES_CBC_PKCS5PADDING.ext O0.2)
  have hin3 : ¬ ((0 : Int32) < 0 ∨ cl3.slots.size ≤ ((0 : Int32)).toNatClampNeg) := inb_of S3 ⟨by decide, by decide⟩
  have hat3 : cl3.slots[((0 : Int32)).toNatClampNeg]? = some (.int (16 : Int32)) := H3.at hin3 rfl
  obtain ⟨cl4, Ar4, -, S4, -, H4, -⟩ := (V_kl_AES_CBC_PKCS5PADDING.ext O0.2)
  have hin4 : ¬ (((0 : Int32) + (1 : Int32)) < 0 ∨ cl4.slots.size ≤ (((0 : Int32) + (1 : Int32))).toNatClampNeg) := inb_of S4 ⟨by decide, by decide⟩
  have hat4 : cl4.slots[(((0 : Int32) + (1 : Int32))).toNatClampNeg]? = some (.int (32 : Int32)) := H4.at hin4 rfl
  obtain ⟨fs, hr, hrun, hended, hW, hsame⟩ := X1.leave (v := some (.int (1 : Int32))) (fun h => by rw [Bd.returns] at h; cases h)
  refine ⟨_, _, pre0 _ ?_, hrun, hended, _, _, rfl, ?_, ⟨_, rfl⟩, hW, hsame.mono (by decide) (by decide)⟩
  · show Sp p e below s₁ (mkF m 0 #[.val (.ref w_AES_CBC_PKCS5PADDING), .val (.int p1), .unset, .unset, .unset, .unset] []) _
    refine XS.aloadN X0.here hx rfl (hb hby d2_0) rfl rfl ?_
    show Sp p e below s₁ (mkF m 1 #[.val (.ref w_AES_CBC_PKCS5PADDING), .val (.int p1), .unset, .unset, .unset, .unset] [(.ref w_AES_CBC_PKCS5PADDING)]) _
    refine st1 _ ?_
    show Sp p e below T1 (mkF m 4 #[.val (.ref w_AES_CBC_PKCS5PADDING), .val (.int p1), .unset, .unset, .unset, .unset] [(.ref kl_AES_CBC_PKCS5PADDING)]) _
    refine XS.astoreN X1.here hx rfl (hb hby d2_4) rfl rfl (l' := #[.val (.ref w_AES_CBC_PKCS5PADDING), .val (.int p1), .val (.ref kl_AES_CBC_PKCS5PADDING), .unset, .unset, .unset]) rfl ?_
    show Sp p e below T1 (mkF m 5 #[.val (.ref w_AES_CBC_PKCS5PADDING), .val (.int p1), .val (.ref kl_AES_CBC_PKCS5PADDING), .unset, .unset, .unset] []) _
    refine XS.aloadN X1.here hx rfl (hb hby d2_5) rfl rfl ?_
    show Sp p e below T1 (mkF m 6 #[.val (.ref w_AES_CBC_PKCS5PADDING), .val (.int p1), .val (.ref kl_AES_CBC_PKCS5PADDING), .unset, .unset, .unset] [(.ref kl_AES_CBC_PKCS5PADDING)]) _
    refine X1.arraylength hx (by rw [e1]; exact Ar2.1) (State.isArrayOf_alike hZ.alike Ar2.2.1) (g := (mkF m 6 #[.val (.ref w_AES_CBC_PKCS5PADDING), .val (.int p1), .val (.ref kl_AES_CBC_PKCS5PADDING), .unset, .unset, .unset] [(.ref kl_AES_CBC_PKCS5PADDING)])) rfl rfl (hb hby d2_6) _ ?_
    rw [len_of S2 Nn2]
    show Sp p e below T1 (mkF m 7 #[.val (.ref w_AES_CBC_PKCS5PADDING), .val (.int p1), .val (.ref kl_AES_CBC_PKCS5PADDING), .unset, .unset, .unset] [(.int (2 : Int32))]) _
    refine XS.istoreN X1.here hx rfl (hb hby d2_7) rfl (l' := #[.val (.ref w_AES_CBC_PKCS5PADDING), .val (.int p1), .val (.ref kl_AES_CBC_PKCS5PADDING), .val (.int (2 : Int32)), .unset, .unset]) rfl ?_
    show Sp p e below T1 (mkF m 8 #[.val (.ref w_AES_CBC_PKCS5PADDING), .val (.int p1), .val (.ref kl_AES_CBC_PKCS5PADDING), .val (.int (2 : Int32)), .unset, .unset] []) _
    refine XS.iconst X1.here hx rfl (hb hby d2_8) ?_
    show Sp p e below T1 (mkF m 9 #[.val (.ref w_AES_CBC_PKCS5PADDING), .val (.int p1), .val (.ref kl_AES_CBC_PKCS5PADDING), .val (.int (2 : Int32)), .unset, .unset] [(.int (0 : Int32))]) _
    refine XS.istore X1.here hx rfl (hb hby d2_9) rfl (l' := #[.val (.ref w_AES_CBC_PKCS5PADDING), .val (.int p1), .val (.ref kl_AES_CBC_PKCS5PADDING), .val (.int (2 : Int32)), .val (.int (0 : Int32)), .unset]) rfl ?_
    show Sp p e below T1 (mkF m 11 #[.val (.ref w_AES_CBC_PKCS5PADDING), .val (.int p1), .val (.ref kl_AES_CBC_PKCS5PADDING), .val (.int (2 : Int32)), .val (.int (0 : Int32)), .unset] []) _
    refine XS.iload X1.here hx rfl (hb hby d2_11) rfl ?_
    show Sp p e below T1 (mkF m 13 #[.val (.ref w_AES_CBC_PKCS5PADDING), .val (.int p1), .val (.ref kl_AES_CBC_PKCS5PADDING), .val (.int (2 : Int32)), .val (.int (0 : Int32)), .unset] [(.int (0 : Int32))]) _
    refine XS.iloadN X1.here hx rfl (hb hby d2_13) rfl ?_
    show Sp p e below T1 (mkF m 14 #[.val (.ref w_AES_CBC_PKCS5PADDING), .val (.int p1), .val (.ref kl_AES_CBC_PKCS5PADDING), .val (.int (2 : Int32)), .val (.int (0 : Int32)), .unset] [(.int (2 : Int32)), (.int (0 : Int32))]) _
    refine XS.icmpNo X1.here hx rfl (hb hby d2_14) rfl (tlt (by decide : (0 : Int32) < (2 : Int32))).2.1 ?_
    show Sp p e below T1 (mkF m 17 #[.val (.ref w_AES_CBC_PKCS5PADDING), .val (.int p1), .val (.ref kl_AES_CBC_PKCS5PADDING), .val (.int (2 : Int32)), .val (.int (0 : Int32)), .unset] []) _
    refine XS.aloadN X1.here hx rfl (hb hby d2_17) rfl rfl ?_
    show Sp p e below T1 (mkF m 18 #[.val (.ref w_AES_CBC_PKCS5PADDING), .val (.int p1), .val (.ref kl_AES_CBC_PKCS5PADDING), .val (.int (2 : Int32)), .val (.int (0 : Int32)), .unset] [(.ref kl_AES_CBC_PKCS5PADDING)]) _
    refine XS.iload X1.here hx rfl (hb hby d2_18) rfl ?_
    show Sp p e below T1 (mkF m 20 #[.val (.ref w_AES_CBC_PKCS5PADDING), .val (.int p1), .val (.ref kl_AES_CBC_PKCS5PADDING), .val (.int (2 : Int32)), .val (.int (0 : Int32)), .unset] [(.int (0 : Int32)), (.ref kl_AES_CBC_PKCS5PADDING)]) _
    refine X1.iaload hx (j := (0 : Int32)) (v := (.int (16 : Int32))) (by rw [e1]; exact Ar3.1) (State.isArrayOf_alike hZ.alike Ar3.2.1) Ar3.2.2 hin3 hat3 (g := (mkF m 20 #[.val (.ref w_AES_CBC_PKCS5PADDING), .val (.int p1), .val (.ref kl_AES_CBC_PKCS5PADDING), .val (.int (2 : Int32)), .val (.int (0 : Int32)), .unset] [(.int (0 : Int32)), (.ref kl_AES_CBC_PKCS5PADDING)])) rfl rfl (hb hby d2_20) _ ?_
    show Sp p e below T1 (mkF m 21 #[.val (.ref w_AES_CBC_PKCS5PADDING), .val (.int p1), .val (.ref kl_AES_CBC_PKCS5PADDING), .val (.int (2 : Int32)), .val (.int (0 : Int32)), .unset] [(.int (16 : Int32))]) _
    refine XS.istore X1.here hx rfl (hb hby d2_21) rfl (l' := #[.val (.ref w_AES_CBC_PKCS5PADDING), .val (.int p1), .val (.ref kl_AES_CBC_PKCS5PADDING), .val (.int (2 : Int32)), .val (.int (0 : Int32)), .val (.int (16 : Int32))]) rfl ?_
    show Sp p e below T1 (mkF m 23 #[.val (.ref w_AES_CBC_PKCS5PADDING), .val (.int p1), .val (.ref kl_AES_CBC_PKCS5PADDING), .val (.int (2 : Int32)), .val (.int (0 : Int32)), .val (.int (16 : Int32))] []) _
    refine XS.iload X1.here hx rfl (hb hby d2_23) rfl ?_
    show Sp p e below T1 (mkF m 25 #[.val (.ref w_AES_CBC_PKCS5PADDING), .val (.int p1), .val (.ref kl_AES_CBC_PKCS5PADDING), .val (.int (2 : Int32)), .val (.int (0 : Int32)), .val (.int (16 : Int32))] [(.int (16 : Int32))]) _
    refine XS.iloadN X1.here hx rfl (hb hby d2_25) rfl ?_
    show Sp p e below T1 (mkF m 26 #[.val (.ref w_AES_CBC_PKCS5PADDING), .val (.int p1), .val (.ref kl_AES_CBC_PKCS5PADDING), .val (.int (2 : Int32)), .val (.int (0 : Int32)), .val (.int (16 : Int32))] [(.int p1), (.int (16 : Int32))]) _
    refine XS.icmpYes X1.here hx rfl (pc0 := 26) (pc' := 31) rfl (hb hby d2_26) rfl (feq (fun q => hc1 (Eq.symm q) : ¬ ((16 : Int32) = p1))).2 (by decide) (by decide) ?_
    show Sp p e below T1 (mkF m 31 #[.val (.ref w_AES_CBC_PKCS5PADDING), .val (.int p1), .val (.ref kl_AES_CBC_PKCS5PADDING), .val (.int (2 : Int32)), .val (.int (0 : Int32)), .val (.int (16 : Int32))] []) _
    refine XS.iinc X1.here hx rfl (hb hby d2_31) rfl (l' := #[.val (.ref w_AES_CBC_PKCS5PADDING), .val (.int p1), .val (.ref kl_AES_CBC_PKCS5PADDING), .val (.int (2 : Int32)), .val (.int ((0 : Int32) + (1 : Int32))), .val (.int (16 : Int32))]) rfl ?_
    show Sp p e below T1 (mkF m 34 #[.val (.ref w_AES_CBC_PKCS5PADDING), .val (.int p1), .val (.ref kl_AES_CBC_PKCS5PADDING), .val (.int (2 : Int32)), .val (.int ((0 : Int32) + (1 : Int32))), .val (.int (16 : Int32))] []) _
    refine XS.goto X1.here hx rfl (pc0 := 34) (pc' := 11) rfl (hb hby d2_34) (by decide) (by decide) ?_
    show Sp p e below T1 (mkF m 11 #[.val (.ref w_AES_CBC_PKCS5PADDING), .val (.int p1), .val (.ref kl_AES_CBC_PKCS5PADDING), .val (.int (2 : Int32)), .val (.int ((0 : Int32) + (1 : Int32))), .val (.int (16 : Int32))] []) _
    refine XS.iload X1.here hx rfl (hb hby d2_11) rfl ?_
    show Sp p e below T1 (mkF m 13 #[.val (.ref w_AES_CBC_PKCS5PADDING), .val (.int p1), .val (.ref kl_AES_CBC_PKCS5PADDING), .val (.int (2 : Int32)), .val (.int ((0 : Int32) + (1 : Int32))), .val (.int (16 : Int32))] [(.int ((0 : Int32) + (1 : Int32)))]) _
    refine XS.iloadN X1.here hx rfl (hb hby d2_13) rfl ?_
    show Sp p e below T1 (mkF m 14 #[.val (.ref w_AES_CBC_PKCS5PADDING), .val (.int p1), .val (.ref kl_AES_CBC_PKCS5PADDING), .val (.int (2 : Int32)), .val (.int ((0 : Int32) + (1 : Int32))), .val (.int (16 : Int32))] [(.int (2 : Int32)), (.int ((0 : Int32) + (1 : Int32)))]) _
    refine XS.icmpNo X1.here hx rfl (hb hby d2_14) rfl (tlt (by decide : ((0 : Int32) + (1 : Int32)) < (2 : Int32))).2.1 ?_
    show Sp p e below T1 (mkF m 17 #[.val (.ref w_AES_CBC_PKCS5PADDING), .val (.int p1), .val (.ref kl_AES_CBC_PKCS5PADDING), .val (.int (2 : Int32)), .val (.int ((0 : Int32) + (1 : Int32))), .val (.int (16 : Int32))] []) _
    refine XS.aloadN X1.here hx rfl (hb hby d2_17) rfl rfl ?_
    show Sp p e below T1 (mkF m 18 #[.val (.ref w_AES_CBC_PKCS5PADDING), .val (.int p1), .val (.ref kl_AES_CBC_PKCS5PADDING), .val (.int (2 : Int32)), .val (.int ((0 : Int32) + (1 : Int32))), .val (.int (16 : Int32))] [(.ref kl_AES_CBC_PKCS5PADDING)]) _
    refine XS.iload X1.here hx rfl (hb hby d2_18) rfl ?_
    show Sp p e below T1 (mkF m 20 #[.val (.ref w_AES_CBC_PKCS5PADDING), .val (.int p1), .val (.ref kl_AES_CBC_PKCS5PADDING), .val (.int (2 : Int32)), .val (.int ((0 : Int32) + (1 : Int32))), .val (.int (16 : Int32))] [(.int ((0 : Int32) + (1 : Int32))), (.ref kl_AES_CBC_PKCS5PADDING)]) _
    refine X1.iaload hx (j := ((0 : Int32) + (1 : Int32))) (v := (.int (32 : Int32))) (by rw [e1]; exact Ar4.1) (State.isArrayOf_alike hZ.alike Ar4.2.1) Ar4.2.2 hin4 hat4 (g := (mkF m 20 #[.val (.ref w_AES_CBC_PKCS5PADDING), .val (.int p1), .val (.ref kl_AES_CBC_PKCS5PADDING), .val (.int (2 : Int32)), .val (.int ((0 : Int32) + (1 : Int32))), .val (.int (16 : Int32))] [(.int ((0 : Int32) + (1 : Int32))), (.ref kl_AES_CBC_PKCS5PADDING)])) rfl rfl (hb hby d2_20) _ ?_
    show Sp p e below T1 (mkF m 21 #[.val (.ref w_AES_CBC_PKCS5PADDING), .val (.int p1), .val (.ref kl_AES_CBC_PKCS5PADDING), .val (.int (2 : Int32)), .val (.int ((0 : Int32) + (1 : Int32))), .val (.int (16 : Int32))] [(.int (32 : Int32))]) _
    refine XS.istore X1.here hx rfl (hb hby d2_21) rfl (l' := #[.val (.ref w_AES_CBC_PKCS5PADDING), .val (.int p1), .val (.ref kl_AES_CBC_PKCS5PADDING), .val (.int (2 : Int32)), .val (.int ((0 : Int32) + (1 : Int32))), .val (.int (32 : Int32))]) rfl ?_
    show Sp p e below T1 (mkF m 23 #[.val (.ref w_AES_CBC_PKCS5PADDING), .val (.int p1), .val (.ref kl_AES_CBC_PKCS5PADDING), .val (.int (2 : Int32)), .val (.int ((0 : Int32) + (1 : Int32))), .val (.int (32 : Int32))] []) _
    refine XS.iload X1.here hx rfl (hb hby d2_23) rfl ?_
    show Sp p e below T1 (mkF m 25 #[.val (.ref w_AES_CBC_PKCS5PADDING), .val (.int p1), .val (.ref kl_AES_CBC_PKCS5PADDING), .val (.int (2 : Int32)), .val (.int ((0 : Int32) + (1 : Int32))), .val (.int (32 : Int32))] [(.int (32 : Int32))]) _
    refine XS.iloadN X1.here hx rfl (hb hby d2_25) rfl ?_
    show Sp p e below T1 (mkF m 26 #[.val (.ref w_AES_CBC_PKCS5PADDING), .val (.int p1), .val (.ref kl_AES_CBC_PKCS5PADDING), .val (.int (2 : Int32)), .val (.int ((0 : Int32) + (1 : Int32))), .val (.int (32 : Int32))] [(.int p1), (.int (32 : Int32))]) _
    refine XS.icmpNo X1.here hx rfl (hb hby d2_26) rfl (teq (Eq.symm hc2)).2 ?_
    show Sp p e below T1 (mkF m 29 #[.val (.ref w_AES_CBC_PKCS5PADDING), .val (.int p1), .val (.ref kl_AES_CBC_PKCS5PADDING), .val (.int (2 : Int32)), .val (.int ((0 : Int32) + (1 : Int32))), .val (.int (32 : Int32))] []) _
    refine XS.iconst X1.here hx rfl (hb hby d2_29) ?_
    show Sp p e below T1 (mkF m 30 #[.val (.ref w_AES_CBC_PKCS5PADDING), .val (.int p1), .val (.ref kl_AES_CBC_PKCS5PADDING), .val (.int (2 : Int32)), .val (.int ((0 : Int32) + (1 : Int32))), .val (.int (32 : Int32))] [(.int (1 : Int32))]) _
    exact retN X1 hx (t := .boolean) Bd.returns (by simp) (hb hby d2_30) hr
  · show Q16 Z w_AES_128_GCM w_AES_256_GCM w_AES_CBC_PKCS5PADDING w_AES_128_CBC w_AES_GCM_NOPADDING kl_AES_128_GCM kl_AES_256_GCM kl_AES_CBC_PKCS5PADDING kl_AES_128_CBC kl_AES_GCM_NOPADDING k_kl_AES_128_GCM k_kl_AES_256_GCM k_kl_AES_CBC_PKCS5PADDING k_kl_AES_128_CBC k_kl_AES_GCM_NOPADDING p1 h0 n0 _ T1.heap _
    rw [e1]
    exact ⟨rfl, N0, rfl⟩
set_option maxRecDepth 65536 in
set_option maxHeartbeats 40000000 in
theorem rm17 (l : Launch) (Z : State) (a0 : Array Value) (hw : ∀ d ∈ tables_1, d.before a0 Z = true) (ws : List Jvm.Cond) (w_AES_128_GCM w_AES_256_GCM w_AES_CBC_PKCS5PADDING w_AES_128_CBC w_AES_GCM_NOPADDING kl_AES_128_GCM kl_AES_256_GCM kl_AES_CBC_PKCS5PADDING kl_AES_128_CBC kl_AES_GCM_NOPADDING : Addr) (k_kl_AES_128_GCM : ClassId) (k_kl_AES_256_GCM : ClassId) (k_kl_AES_CBC_PKCS5PADDING : ClassId) (k_kl_AES_128_CBC : ClassId) (k_kl_AES_GCM_NOPADDING : ClassId) (hp : Perm Z w_AES_128_GCM w_AES_256_GCM w_AES_CBC_PKCS5PADDING w_AES_128_CBC w_AES_GCM_NOPADDING kl_AES_128_GCM kl_AES_256_GCM kl_AES_CBC_PKCS5PADDING kl_AES_128_CBC kl_AES_GCM_NOPADDING k_kl_AES_128_GCM k_kl_AES_256_GCM k_kl_AES_CBC_PKCS5PADDING k_kl_AES_128_CBC k_kl_AES_GCM_NOPADDING) (p0 : Int32) (p1 : Int32) (p2 : Int32) (z5 : Int32) (h0 : Heap) (n0 : Nat) (O0 : Old Z n0 h0) (hcut : Cut_0_12 p0 p1 p2 ((p0 &&& (2147483647 : Int32)) % (5 : Int32)) (p1 &&& (3 : Int32)) z5) (hc2 : ¬ (((p0 &&& (2147483647 : Int32)) % (5 : Int32)) = (0 : Int32))) (hc3 : ¬ (((p0 &&& (2147483647 : Int32)) % (5 : Int32)) = (1 : Int32))) (hc4 : ¬ (((p0 &&& (2147483647 : Int32)) % (5 : Int32)) = (2 : Int32))) (hc5 : ¬ (((p0 &&& (2147483647 : Int32)) % (5 : Int32)) = (3 : Int32))) (hc6 : ¬ (z5 = (16 : Int32))) (hc7 : z5 = (32 : Int32)) :
    MetFree l x (head1 (Jvm.Cond.code x code maxLocals ret :: ws) room_1) (fun a U => a = #[(.int p0), (.int p1), (.int p2)] ∧ Z.Warmed39 U.vm ∧ U.heap = h0) (fun _ _ _ _ _ => True) (fun _ U o U' => ∃ v L, o = .returned v ∧ (v = some (.int (1 : Int32)) ∧ Fr n0 L) ∧ FrameEnd U o U' L 0 0) := by
  refine MetFree.of_bodySF (plainFor_of_name pn_1) hisR ?_
  intro p e s m args below meth c s₁ Bd hml0 hP hK
  obtain ⟨rfl, hZ, hh⟩ := hP
  have hx := Bd.exec
  have hby := Bd.bytes
  have hml : c.maxLocals = 10 := hml0
  have hown : s.vm.findClass "com/example/cloakfield/cloakfield/crypto/EncryptionAlgorithmAcceptsKeyLengthPinLaw" = some m.cls := findClass_of_methodNamed Bd.named
  have hnm := (name_of_methodNamed Bd.named Bd.method).1
  have X0 : Stand p l e room_1 s m #[(.int p0), (.int p1), (.int p2)] below meth c s₁ [] 0 0 := Stand.of_body Bd
  have e0 : s₁.heap = h0 := by rw [← hh, Bd.state]; rfl
  have N0 := Fr.nil n0
  have hp' := hp
  obtain ⟨S_w_AES_128_GCM, E_w_AES_128_GCM, S_w_AES_256_GCM, E_w_AES_256_GCM, S_w_AES_CBC_PKCS5PADDING, E_w_AES_CBC_PKCS5PADDING, S_w_AES_128_CBC, E_w_AES_128_CBC, S_w_AES_GCM_NOPADDING, E_w_AES_GCM_NOPADDING, F_keyLengths_w_AES_128_GCM, V_kl_AES_128_GCM, F_keyLengths_w_AES_256_GCM, V_kl_AES_256_GCM, F_keyLengths_w_AES_CBC_PKCS5PADDING, V_kl_AES_CBC_PKCS5PADDING, F_keyLengths_w_AES_128_CBC, V_kl_AES_128_CBC, F_keyLengths_w_AES_GCM_NOPADDING, V_kl_AES_GCM_NOPADDING⟩ := hp'
  have pre0 : ∀ t, Steps p.tables e below (s₁.setTop (mkF m 0 #[.val (.int p0), .val (.int p1), .val (.int p2), .unset, .unset, .unset, .unset, .unset, .unset, .unset] [])) t → Steps p.tables e below (s₁.setTop (entryFrame m #[(.int p0), (.int p1), (.int p2)] maxLocals)) t := fun t k => castTop (ef_0_0 m p0 p1 p2) k
  have st1 := hcut X0 hx hZ hw hby hown
  obtain ⟨_, _, ⟨T2, L2, k2, n2⟩, -, X2, ⟨Lc2, hQ2, l2, y2, z2⟩, st2⟩ := Jvm.LawKit.callS X0 hx (y := y0) hown (mvT hZ (hw _ (List.mem_of_getElem? (i := 1) rfl))) (mvT hZ (hw _ (List.mem_of_getElem? (i := 2) rfl))) (mvT hZ (hw _ (List.mem_of_getElem? (i := 3) rfl))) (mvT hZ (hw _ (List.mem_of_getElem? (i := 4) rfl))) (by decide) (backOf (W := 0) (rm13 l Z a0 hw [] w_AES_128_GCM w_AES_256_GCM w_AES_CBC_PKCS5PADDING w_AES_128_CBC w_AES_GCM_NOPADDING kl_AES_128_GCM kl_AES_256_GCM kl_AES_CBC_PKCS5PADDING kl_AES_128_CBC kl_AES_GCM_NOPADDING k_kl_AES_128_GCM k_kl_AES_256_GCM k_kl_AES_CBC_PKCS5PADDING k_kl_AES_128_CBC k_kl_AES_GCM_NOPADDING hp ((p0 &&& (2147483647 : Int32)) % (5 : Int32)) h0 n0 O0 hc2 hc3 hc4 hc5) hZ (hw _ (List.mem_of_getElem? (i := 4) rfl)) (hw _ (List.mem_of_getElem? (i := 3) rfl)) (by decide) (by decide)) (g := (mkF m 59 #[.val (.int p0), .val (.int p1), .val (.int p2), .val (.int ((p0 &&& (2147483647 : Int32)) % (5 : Int32))), .val (.int (p1 &&& (3 : Int32))), .val (.int z5), .unset, .unset, .unset, .unset] [(.int ((p0 &&& (2147483647 : Int32)) % (5 : Int32)))])) rfl (by rw [hml]; rfl) (argsL := [(.int ((p0 &&& (2147483647 : Int32)) % (5 : Int32)))]) (rest := []) (lenOf pd_0 rfl) rfl (by show 2 * 0 + _ ≤ _; exact Nat.le_of_eq rfl) (hb hby at_59) (fun _ _ => ⟨rfl, e0, (by decide : 0 + 0 ≤ _), (by decide : 0 + 0 ≤ _)⟩)
  dsimp only [Pt.U, Pt.locs, Pt.cells, Pt.slots] at X2 l2 y2 z2 st2 hQ2
  subst l2 y2 z2
  obtain ⟨rfl, Nq2, eq2⟩ := hQ2
  have N2 := Fr.app N0 Nq2
  obtain ⟨cq3, kq3, q3a, q3b, q3c⟩ := isOf hZ eq2 (E_w_AES_CBC_PKCS5PADDING.ext O0.2)
  obtain ⟨_, _, ⟨T3, L3, k3, n3⟩, -, X3, ⟨Lc3, hQ3, l3, y3, z3⟩, st3⟩ := X2.virtualBack hx (y := y1) (z := y1) hown (mvT hZ (hw _ (List.mem_of_getElem? (i := 8) rfl))) (mvT hZ (hw _ (List.mem_of_getElem? (i := 9) rfl))) (notFace_of_selects (args := #[]) (mvT hZ (hw _ (List.mem_of_getElem? (i := 11) rfl)))) (mvT hZ (hw _ (List.mem_of_getElem? (i := 11) rfl))) (mvT hZ (hw _ (List.mem_of_getElem? (i := 10) rfl))) (by decide) (backOf (W := 0) (rm16 l Z a0 hw [] w_AES_128_GCM w_AES_256_GCM w_AES_CBC_PKCS5PADDING w_AES_128_CBC w_AES_GCM_NOPADDING kl_AES_128_GCM kl_AES_256_GCM kl_AES_CBC_PKCS5PADDING kl_AES_128_CBC kl_AES_GCM_NOPADDING k_kl_AES_128_GCM k_kl_AES_256_GCM k_kl_AES_CBC_PKCS5PADDING k_kl_AES_128_CBC k_kl_AES_GCM_NOPADDING hp z5 h0 n0 O0 hc6 hc7) hZ (hw _ (List.mem_of_getElem? (i := 12) rfl)) (hw _ (List.mem_of_getElem? (i := 6) rfl)) (by decide) (by decide)) q3a q3c (g := (mkF m 147 #[.val (.int p0), .val (.int p1), .val (.int p2), .val (.int ((p0 &&& (2147483647 : Int32)) % (5 : Int32))), .val (.int (p1 &&& (3 : Int32))), .val (.int z5), .val (.ref w_AES_CBC_PKCS5PADDING), .val (.int (1 : Int32)), .val (.int (1 : Int32)), .val (.int (1 : Int32))] [(.int z5), (.ref w_AES_CBC_PKCS5PADDING)])) rfl (by rw [hml]; rfl) (Steps.refl _) (argsL := [(.int z5)]) (rest := []) (lenOf pd_1 rfl) rfl (by show 2 * 0 + _ ≤ _; exact Nat.le_of_eq rfl) (hb hby at_147) (fun _ _ => ⟨rfl, eq2, (by decide : 0 + 0 ≤ _), (by decide : 0 + 0 ≤ _)⟩)
  dsimp only [Pt.U, Pt.locs, Pt.cells, Pt.slots] at X3 l3 y3 z3 st3 hQ3
  subst l3 y3 z3
  obtain ⟨rfl, Nq3, eq3⟩ := hQ3
  have N3 := Fr.app N2 Nq3
  obtain ⟨fs, hr, hrun, hended, hW, hsame⟩ := X3.leave (v := some (.int (1 : Int32))) (fun h => by rw [Bd.returns] at h; cases h)
  refine ⟨_, _, pre0 _ ?_, hrun, hended, _, _, rfl, ?_, ⟨_, rfl⟩, hW, hsame.mono (by decide) (by decide)⟩
  · show Sp p e below s₁ (mkF m 0 #[.val (.int p0), .val (.int p1), .val (.int p2), .unset, .unset, .unset, .unset, .unset, .unset, .unset] []) _
    refine XS.iloadN X0.here hx rfl (hb hby at_0) rfl ?_
    show Sp p e below s₁ (mkF m 1 #[.val (.int p0), .val (.int p1), .val (.int p2), .unset, .unset, .unset, .unset, .unset, .unset, .unset] [(.int p0)]) _
    refine X0.ldcI hx hown (mvT hZ (hw _ (List.mem_of_getElem? (i := 0) rfl))) rfl (hb hby at_1) ?_
    show Sp p e below s₁ (mkF m 3 #[.val (.int p0), .val (.int p1), .val (.int p2), .unset, .unset, .unset, .unset, .unset, .unset, .unset] [(.int (2147483647 : Int32)), (.int p0)]) _
    refine XS.iand X0.here hx rfl (hb hby at_3) rfl ?_
    show Sp p e below s₁ (mkF m 4 #[.val (.int p0), .val (.int p1), .val (.int p2), .unset, .unset, .unset, .unset, .unset, .unset, .unset] [(.int (p0 &&& (2147483647 : Int32)))]) _
    refine XS.iconst X0.here hx rfl (hb hby at_4) ?_
    show Sp p e below s₁ (mkF m 5 #[.val (.int p0), .val (.int p1), .val (.int p2), .unset, .unset, .unset, .unset, .unset, .unset, .unset] [(.int (5 : Int32)), (.int (p0 &&& (2147483647 : Int32)))]) _
    refine iremM X0 hx rfl (hb hby at_5) rfl (by decide) ?_
    show Sp p e below s₁ (mkF m 6 #[.val (.int p0), .val (.int p1), .val (.int p2), .unset, .unset, .unset, .unset, .unset, .unset, .unset] [(.int ((p0 &&& (2147483647 : Int32)) % (5 : Int32)))]) _
    refine XS.istoreN X0.here hx rfl (hb hby at_6) rfl (l' := #[.val (.int p0), .val (.int p1), .val (.int p2), .val (.int ((p0 &&& (2147483647 : Int32)) % (5 : Int32))), .unset, .unset, .unset, .unset, .unset, .unset]) rfl ?_
    show Sp p e below s₁ (mkF m 7 #[.val (.int p0), .val (.int p1), .val (.int p2), .val (.int ((p0 &&& (2147483647 : Int32)) % (5 : Int32))), .unset, .unset, .unset, .unset, .unset, .unset] []) _
    refine XS.iloadN X0.here hx rfl (hb hby at_7) rfl ?_
    show Sp p e below s₁ (mkF m 8 #[.val (.int p0), .val (.int p1), .val (.int p2), .val (.int ((p0 &&& (2147483647 : Int32)) % (5 : Int32))), .unset, .unset, .unset, .unset, .unset, .unset] [(.int p1)]) _
    refine XS.iconst X0.here hx rfl (hb hby at_8) ?_
    show Sp p e below s₁ (mkF m 9 #[.val (.int p0), .val (.int p1), .val (.int p2), .val (.int ((p0 &&& (2147483647 : Int32)) % (5 : Int32))), .unset, .unset, .unset, .unset, .unset, .unset] [(.int (3 : Int32)), (.int p1)]) _
    refine XS.iand X0.here hx rfl (hb hby at_9) rfl ?_
    show Sp p e below s₁ (mkF m 10 #[.val (.int p0), .val (.int p1), .val (.int p2), .val (.int ((p0 &&& (2147483647 : Int32)) % (5 : Int32))), .unset, .unset, .unset, .unset, .unset, .unset] [(.int (p1 &&& (3 : Int32)))]) _
    refine XS.istore X0.here hx rfl (hb hby at_10) rfl (l' := #[.val (.int p0), .val (.int p1), .val (.int p2), .val (.int ((p0 &&& (2147483647 : Int32)) % (5 : Int32))), .val (.int (p1 &&& (3 : Int32))), .unset, .unset, .unset, .unset, .unset]) rfl ?_
    show Sp p e below s₁ (mkF m 12 #[.val (.int p0), .val (.int p1), .val (.int p2), .val (.int ((p0 &&& (2147483647 : Int32)) % (5 : Int32))), .val (.int (p1 &&& (3 : Int32))), .unset, .unset, .unset, .unset, .unset] []) _
    refine st1 _ ?_
    show Sp p e below s₁ (mkF m 58 #[.val (.int p0), .val (.int p1), .val (.int p2), .val (.int ((p0 &&& (2147483647 : Int32)) % (5 : Int32))), .val (.int (p1 &&& (3 : Int32))), .val (.int z5), .unset, .unset, .unset, .unset] []) _
    refine XS.iloadN X0.here hx rfl (hb hby at_58) rfl ?_
    show Sp p e below s₁ (mkF m 59 #[.val (.int p0), .val (.int p1), .val (.int p2), .val (.int ((p0 &&& (2147483647 : Int32)) % (5 : Int32))), .val (.int (p1 &&& (3 : Int32))), .val (.int z5), .unset, .unset, .unset, .unset] [(.int ((p0 &&& (2147483647 : Int32)) % (5 : Int32)))]) _
    refine st2 _ ?_
    show Sp p e below T2 (mkF m 62 #[.val (.int p0), .val (.int p1), .val (.int p2), .val (.int ((p0 &&& (2147483647 : Int32)) % (5 : Int32))), .val (.int (p1 &&& (3 : Int32))), .val (.int z5), .unset, .unset, .unset, .unset] [(.ref w_AES_CBC_PKCS5PADDING)]) _
    refine XS.astore X2.here hx rfl (hb hby at_62) rfl rfl (l' := #[.val (.int p0), .val (.int p1), .val (.int p2), .val (.int ((p0 &&& (2147483647 : Int32)) % (5 : Int32))), .val (.int (p1 &&& (3 : Int32))), .val (.int z5), .val (.ref w_AES_CBC_PKCS5PADDING), .unset, .unset, .unset]) rfl ?_
    show Sp p e below T2 (mkF m 64 #[.val (.int p0), .val (.int p1), .val (.int p2), .val (.int ((p0 &&& (2147483647 : Int32)) % (5 : Int32))), .val (.int (p1 &&& (3 : Int32))), .val (.int z5), .val (.ref w_AES_CBC_PKCS5PADDING), .unset, .unset, .unset] []) _
    refine XS.iloadN X2.here hx rfl (hb hby at_64) rfl ?_
    show Sp p e below T2 (mkF m 65 #[.val (.int p0), .val (.int p1), .val (.int p2), .val (.int ((p0 &&& (2147483647 : Int32)) % (5 : Int32))), .val (.int (p1 &&& (3 : Int32))), .val (.int z5), .val (.ref w_AES_CBC_PKCS5PADDING), .unset, .unset, .unset] [(.int ((p0 &&& (2147483647 : Int32)) % (5 : Int32)))]) _
    refine XS.ifNo X2.here hx rfl (hb hby at_65) rfl ((if0 _ _).trans (feq hc2).1) ?_
    show Sp p e below T2 (mkF m 68 #[.val (.int p0), .val (.int p1), .val (.int p2), .val (.int ((p0 &&& (2147483647 : Int32)) % (5 : Int32))), .val (.int (p1 &&& (3 : Int32))), .val (.int z5), .val (.ref w_AES_CBC_PKCS5PADDING), .unset, .unset, .unset] []) _
    refine XS.iloadN X2.here hx rfl (hb hby at_68) rfl ?_
    show Sp p e below T2 (mkF m 69 #[.val (.int p0), .val (.int p1), .val (.int p2), .val (.int ((p0 &&& (2147483647 : Int32)) % (5 : Int32))), .val (.int (p1 &&& (3 : Int32))), .val (.int z5), .val (.ref w_AES_CBC_PKCS5PADDING), .unset, .unset, .unset] [(.int ((p0 &&& (2147483647 : Int32)) % (5 : Int32)))]) _
    refine XS.iconst X2.here hx rfl (hb hby at_69) ?_
    show Sp p e below T2 (mkF m 70 #[.val (.int p0), .val (.int p1), .val (.int p2), .val (.int ((p0 &&& (2147483647 : Int32)) % (5 : Int32))), .val (.int (p1 &&& (3 : Int32))), .val (.int z5), .val (.ref w_AES_CBC_PKCS5PADDING), .unset, .unset, .unset] [(.int (2 : Int32)), (.int ((p0 &&& (2147483647 : Int32)) % (5 : Int32)))]) _
    refine XS.icmpNo X2.here hx rfl (hb hby at_70) rfl (feq hc4).1 ?_
    show Sp p e below T2 (mkF m 73 #[.val (.int p0), .val (.int p1), .val (.int p2), .val (.int ((p0 &&& (2147483647 : Int32)) % (5 : Int32))), .val (.int (p1 &&& (3 : Int32))), .val (.int z5), .val (.ref w_AES_CBC_PKCS5PADDING), .unset, .unset, .unset] []) _
    refine XS.iloadN X2.here hx rfl (hb hby at_73) rfl ?_
    show Sp p e below T2 (mkF m 74 #[.val (.int p0), .val (.int p1), .val (.int p2), .val (.int ((p0 &&& (2147483647 : Int32)) % (5 : Int32))), .val (.int (p1 &&& (3 : Int32))), .val (.int z5), .val (.ref w_AES_CBC_PKCS5PADDING), .unset, .unset, .unset] [(.int ((p0 &&& (2147483647 : Int32)) % (5 : Int32)))]) _
    refine XS.iconst X2.here hx rfl (hb hby at_74) ?_
    show Sp p e below T2 (mkF m 75 #[.val (.int p0), .val (.int p1), .val (.int p2), .val (.int ((p0 &&& (2147483647 : Int32)) % (5 : Int32))), .val (.int (p1 &&& (3 : Int32))), .val (.int z5), .val (.ref w_AES_CBC_PKCS5PADDING), .unset, .unset, .unset] [(.int (3 : Int32)), (.int ((p0 &&& (2147483647 : Int32)) % (5 : Int32)))]) _
    refine XS.icmpNo X2.here hx rfl (hb hby at_75) rfl (feq hc5).1 ?_
    show Sp p e below T2 (mkF m 78 #[.val (.int p0), .val (.int p1), .val (.int p2), .val (.int ((p0 &&& (2147483647 : Int32)) % (5 : Int32))), .val (.int (p1 &&& (3 : Int32))), .val (.int z5), .val (.ref w_AES_CBC_PKCS5PADDING), .unset, .unset, .unset] []) _
    refine XS.iloadN X2.here hx rfl (hb hby at_78) rfl ?_
    show Sp p e below T2 (mkF m 79 #[.val (.int p0), .val (.int p1), .val (.int p2), .val (.int ((p0 &&& (2147483647 : Int32)) % (5 : Int32))), .val (.int (p1 &&& (3 : Int32))), .val (.int z5), .val (.ref w_AES_CBC_PKCS5PADDING), .unset, .unset, .unset] [(.int ((p0 &&& (2147483647 : Int32)) % (5 : Int32)))]) _
    refine XS.iconst X2.here hx rfl (hb hby at_79) ?_
    show Sp p e below T2 (mkF m 80 #[.val (.int p0), .val (.int p1), .val (.int p2), .val (.int ((p0 &&& (2147483647 : Int32)) % (5 : Int32))), .val (.int (p1 &&& (3 : Int32))), .val (.int z5), .val (.ref w_AES_CBC_PKCS5PADDING), .unset, .unset, .unset] [(.int (4 : Int32)), (.int ((p0 &&& (2147483647 : Int32)) % (5 : Int32)))]) _
    refine XS.icmpNo X2.here hx rfl (hb hby at_80) rfl (teq (own_eq (n := 4) rfl (by have r := (own_rem (x := p0) (m := (2147483647 : Int32)) (M := 2147483647) rfl (by decide) (y := (5 : Int32)) (d := 5) rfl (by decide)); have q0 := own_nei hc2 (n := 0) rfl; have q1 := own_nei hc3 (n := 1) rfl; have q2 := own_nei hc4 (n := 2) rfl; have q3 := own_nei hc5 (n := 3) rfl; omega) : ((p0 &&& (2147483647 : Int32)) % (5 : Int32)) = (4 : Int32))).2 ?_
    show Sp p e below T2 (mkF m 83 #[.val (.int p0), .val (.int p1), .val (.int p2), .val (.int ((p0 &&& (2147483647 : Int32)) % (5 : Int32))), .val (.int (p1 &&& (3 : Int32))), .val (.int z5), .val (.ref w_AES_CBC_PKCS5PADDING), .unset, .unset, .unset] []) _
    refine XS.iconst X2.here hx rfl (hb hby at_83) ?_
    show Sp p e below T2 (mkF m 84 #[.val (.int p0), .val (.int p1), .val (.int p2), .val (.int ((p0 &&& (2147483647 : Int32)) % (5 : Int32))), .val (.int (p1 &&& (3 : Int32))), .val (.int z5), .val (.ref w_AES_CBC_PKCS5PADDING), .unset, .unset, .unset] [(.int (1 : Int32))]) _
    refine XS.goto X2.here hx rfl (pc0 := 84) (pc' := 88) rfl (hb hby at_84) (by decide) (by decide) ?_
    show Sp p e below T2 (mkF m 88 #[.val (.int p0), .val (.int p1), .val (.int p2), .val (.int ((p0 &&& (2147483647 : Int32)) % (5 : Int32))), .val (.int (p1 &&& (3 : Int32))), .val (.int z5), .val (.ref w_AES_CBC_PKCS5PADDING), .unset, .unset, .unset] [(.int (1 : Int32))]) _
    refine XS.istore X2.here hx rfl (hb hby at_88) rfl (l' := #[.val (.int p0), .val (.int p1), .val (.int p2), .val (.int ((p0 &&& (2147483647 : Int32)) % (5 : Int32))), .val (.int (p1 &&& (3 : Int32))), .val (.int z5), .val (.ref w_AES_CBC_PKCS5PADDING), .val (.int (1 : Int32)), .unset, .unset]) rfl ?_
    show Sp p e below T2 (mkF m 90 #[.val (.int p0), .val (.int p1), .val (.int p2), .val (.int ((p0 &&& (2147483647 : Int32)) % (5 : Int32))), .val (.int (p1 &&& (3 : Int32))), .val (.int z5), .val (.ref w_AES_CBC_PKCS5PADDING), .val (.int (1 : Int32)), .unset, .unset] []) _
    refine XS.iloadN X2.here hx rfl (hb hby at_90) rfl ?_
    show Sp p e below T2 (mkF m 91 #[.val (.int p0), .val (.int p1), .val (.int p2), .val (.int ((p0 &&& (2147483647 : Int32)) % (5 : Int32))), .val (.int (p1 &&& (3 : Int32))), .val (.int z5), .val (.ref w_AES_CBC_PKCS5PADDING), .val (.int (1 : Int32)), .unset, .unset] [(.int ((p0 &&& (2147483647 : Int32)) % (5 : Int32)))]) _
    refine XS.iconst X2.here hx rfl (hb hby at_91) ?_
    show Sp p e below T2 (mkF m 92 #[.val (.int p0), .val (.int p1), .val (.int p2), .val (.int ((p0 &&& (2147483647 : Int32)) % (5 : Int32))), .val (.int (p1 &&& (3 : Int32))), .val (.int z5), .val (.ref w_AES_CBC_PKCS5PADDING), .val (.int (1 : Int32)), .unset, .unset] [(.int (1 : Int32)), (.int ((p0 &&& (2147483647 : Int32)) % (5 : Int32)))]) _
    refine XS.icmpNo X2.here hx rfl (hb hby at_92) rfl (feq hc3).1 ?_
    show Sp p e below T2 (mkF m 95 #[.val (.int p0), .val (.int p1), .val (.int p2), .val (.int ((p0 &&& (2147483647 : Int32)) % (5 : Int32))), .val (.int (p1 &&& (3 : Int32))), .val (.int z5), .val (.ref w_AES_CBC_PKCS5PADDING), .val (.int (1 : Int32)), .unset, .unset] []) _
    refine XS.iloadN X2.here hx rfl (hb hby at_95) rfl ?_
    show Sp p e below T2 (mkF m 96 #[.val (.int p0), .val (.int p1), .val (.int p2), .val (.int ((p0 &&& (2147483647 : Int32)) % (5 : Int32))), .val (.int (p1 &&& (3 : Int32))), .val (.int z5), .val (.ref w_AES_CBC_PKCS5PADDING), .val (.int (1 : Int32)), .unset, .unset] [(.int ((p0 &&& (2147483647 : Int32)) % (5 : Int32)))]) _
    refine XS.iconst X2.here hx rfl (hb hby at_96) ?_
    show Sp p e below T2 (mkF m 97 #[.val (.int p0), .val (.int p1), .val (.int p2), .val (.int ((p0 &&& (2147483647 : Int32)) % (5 : Int32))), .val (.int (p1 &&& (3 : Int32))), .val (.int z5), .val (.ref w_AES_CBC_PKCS5PADDING), .val (.int (1 : Int32)), .unset, .unset] [(.int (2 : Int32)), (.int ((p0 &&& (2147483647 : Int32)) % (5 : Int32)))]) _
    refine XS.icmpNo X2.here hx rfl (hb hby at_97) rfl (feq hc4).1 ?_
    show Sp p e below T2 (mkF m 100 #[.val (.int p0), .val (.int p1), .val (.int p2), .val (.int ((p0 &&& (2147483647 : Int32)) % (5 : Int32))), .val (.int (p1 &&& (3 : Int32))), .val (.int z5), .val (.ref w_AES_CBC_PKCS5PADDING), .val (.int (1 : Int32)), .unset, .unset] []) _
    refine XS.iloadN X2.here hx rfl (hb hby at_100) rfl ?_
    show Sp p e below T2 (mkF m 101 #[.val (.int p0), .val (.int p1), .val (.int p2), .val (.int ((p0 &&& (2147483647 : Int32)) % (5 : Int32))), .val (.int (p1 &&& (3 : Int32))), .val (.int z5), .val (.ref w_AES_CBC_PKCS5PADDING), .val (.int (1 : Int32)), .unset, .unset] [(.int ((p0 &&& (2147483647 : Int32)) % (5 : Int32)))]) _
    refine XS.iconst X2.here hx rfl (hb hby at_101) ?_
    show Sp p e below T2 (mkF m 102 #[.val (.int p0), .val (.int p1), .val (.int p2), .val (.int ((p0 &&& (2147483647 : Int32)) % (5 : Int32))), .val (.int (p1 &&& (3 : Int32))), .val (.int z5), .val (.ref w_AES_CBC_PKCS5PADDING), .val (.int (1 : Int32)), .unset, .unset] [(.int (4 : Int32)), (.int ((p0 &&& (2147483647 : Int32)) % (5 : Int32)))]) _
    refine XS.icmpNo X2.here hx rfl (hb hby at_102) rfl (teq (own_eq (n := 4) rfl (by have r := (own_rem (x := p0) (m := (2147483647 : Int32)) (M := 2147483647) rfl (by decide) (y := (5 : Int32)) (d := 5) rfl (by decide)); have q0 := own_nei hc2 (n := 0) rfl; have q1 := own_nei hc3 (n := 1) rfl; have q2 := own_nei hc4 (n := 2) rfl; have q3 := own_nei hc5 (n := 3) rfl; omega) : ((p0 &&& (2147483647 : Int32)) % (5 : Int32)) = (4 : Int32))).2 ?_
    show Sp p e below T2 (mkF m 105 #[.val (.int p0), .val (.int p1), .val (.int p2), .val (.int ((p0 &&& (2147483647 : Int32)) % (5 : Int32))), .val (.int (p1 &&& (3 : Int32))), .val (.int z5), .val (.ref w_AES_CBC_PKCS5PADDING), .val (.int (1 : Int32)), .unset, .unset] []) _
    refine XS.iconst X2.here hx rfl (hb hby at_105) ?_
    show Sp p e below T2 (mkF m 106 #[.val (.int p0), .val (.int p1), .val (.int p2), .val (.int ((p0 &&& (2147483647 : Int32)) % (5 : Int32))), .val (.int (p1 &&& (3 : Int32))), .val (.int z5), .val (.ref w_AES_CBC_PKCS5PADDING), .val (.int (1 : Int32)), .unset, .unset] [(.int (1 : Int32))]) _
    refine XS.goto X2.here hx rfl (pc0 := 106) (pc' := 110) rfl (hb hby at_106) (by decide) (by decide) ?_
    show Sp p e below T2 (mkF m 110 #[.val (.int p0), .val (.int p1), .val (.int p2), .val (.int ((p0 &&& (2147483647 : Int32)) % (5 : Int32))), .val (.int (p1 &&& (3 : Int32))), .val (.int z5), .val (.ref w_AES_CBC_PKCS5PADDING), .val (.int (1 : Int32)), .unset, .unset] [(.int (1 : Int32))]) _
    refine XS.istore X2.here hx rfl (hb hby at_110) rfl (l' := #[.val (.int p0), .val (.int p1), .val (.int p2), .val (.int ((p0 &&& (2147483647 : Int32)) % (5 : Int32))), .val (.int (p1 &&& (3 : Int32))), .val (.int z5), .val (.ref w_AES_CBC_PKCS5PADDING), .val (.int (1 : Int32)), .val (.int (1 : Int32)), .unset]) rfl ?_
    show Sp p e below T2 (mkF m 112 #[.val (.int p0), .val (.int p1), .val (.int p2), .val (.int ((p0 &&& (2147483647 : Int32)) % (5 : Int32))), .val (.int (p1 &&& (3 : Int32))), .val (.int z5), .val (.ref w_AES_CBC_PKCS5PADDING), .val (.int (1 : Int32)), .val (.int (1 : Int32)), .unset] []) _
    refine XS.iload X2.here hx rfl (hb hby at_112) rfl ?_
    show Sp p e below T2 (mkF m 114 #[.val (.int p0), .val (.int p1), .val (.int p2), .val (.int ((p0 &&& (2147483647 : Int32)) % (5 : Int32))), .val (.int (p1 &&& (3 : Int32))), .val (.int z5), .val (.ref w_AES_CBC_PKCS5PADDING), .val (.int (1 : Int32)), .val (.int (1 : Int32)), .unset] [(.int z5)]) _
    refine XS.bipush X2.here hx rfl (hb hby at_114) ?_
    show Sp p e below T2 (mkF m 116 #[.val (.int p0), .val (.int p1), .val (.int p2), .val (.int ((p0 &&& (2147483647 : Int32)) % (5 : Int32))), .val (.int (p1 &&& (3 : Int32))), .val (.int z5), .val (.ref w_AES_CBC_PKCS5PADDING), .val (.int (1 : Int32)), .val (.int (1 : Int32)), .unset] [(.int (16 : Int32)), (.int z5)]) _
    refine XS.icmpYes X2.here hx rfl (pc0 := 116) (pc' := 124) rfl (hb hby at_116) rfl (feq hc6).2 (by decide) (by decide) ?_
    show Sp p e below T2 (mkF m 124 #[.val (.int p0), .val (.int p1), .val (.int p2), .val (.int ((p0 &&& (2147483647 : Int32)) % (5 : Int32))), .val (.int (p1 &&& (3 : Int32))), .val (.int z5), .val (.ref w_AES_CBC_PKCS5PADDING), .val (.int (1 : Int32)), .val (.int (1 : Int32)), .unset] []) _
    refine XS.iload X2.here hx rfl (hb hby at_124) rfl ?_
    show Sp p e below T2 (mkF m 126 #[.val (.int p0), .val (.int p1), .val (.int p2), .val (.int ((p0 &&& (2147483647 : Int32)) % (5 : Int32))), .val (.int (p1 &&& (3 : Int32))), .val (.int z5), .val (.ref w_AES_CBC_PKCS5PADDING), .val (.int (1 : Int32)), .val (.int (1 : Int32)), .unset] [(.int z5)]) _
    refine XS.bipush X2.here hx rfl (hb hby at_126) ?_
    show Sp p e below T2 (mkF m 128 #[.val (.int p0), .val (.int p1), .val (.int p2), .val (.int ((p0 &&& (2147483647 : Int32)) % (5 : Int32))), .val (.int (p1 &&& (3 : Int32))), .val (.int z5), .val (.ref w_AES_CBC_PKCS5PADDING), .val (.int (1 : Int32)), .val (.int (1 : Int32)), .unset] [(.int (32 : Int32)), (.int z5)]) _
    refine XS.icmpNo X2.here hx rfl (hb hby at_128) rfl (teq hc7).2 ?_
    show Sp p e below T2 (mkF m 131 #[.val (.int p0), .val (.int p1), .val (.int p2), .val (.int ((p0 &&& (2147483647 : Int32)) % (5 : Int32))), .val (.int (p1 &&& (3 : Int32))), .val (.int z5), .val (.ref w_AES_CBC_PKCS5PADDING), .val (.int (1 : Int32)), .val (.int (1 : Int32)), .unset] []) _
    refine XS.iload X2.here hx rfl (hb hby at_131) rfl ?_
    show Sp p e below T2 (mkF m 133 #[.val (.int p0), .val (.int p1), .val (.int p2), .val (.int ((p0 &&& (2147483647 : Int32)) % (5 : Int32))), .val (.int (p1 &&& (3 : Int32))), .val (.int z5), .val (.ref w_AES_CBC_PKCS5PADDING), .val (.int (1 : Int32)), .val (.int (1 : Int32)), .unset] [(.int (1 : Int32))]) _
    refine XS.ifNo X2.here hx rfl (hb hby at_133) rfl ((if0 _ _).trans (feq (by decide : ¬ ((1 : Int32) = (0 : Int32)))).1) ?_
    show Sp p e below T2 (mkF m 136 #[.val (.int p0), .val (.int p1), .val (.int p2), .val (.int ((p0 &&& (2147483647 : Int32)) % (5 : Int32))), .val (.int (p1 &&& (3 : Int32))), .val (.int z5), .val (.ref w_AES_CBC_PKCS5PADDING), .val (.int (1 : Int32)), .val (.int (1 : Int32)), .unset] []) _
    refine XS.iconst X2.here hx rfl (hb hby at_136) ?_
    show Sp p e below T2 (mkF m 137 #[.val (.int p0), .val (.int p1), .val (.int p2), .val (.int ((p0 &&& (2147483647 : Int32)) % (5 : Int32))), .val (.int (p1 &&& (3 : Int32))), .val (.int z5), .val (.ref w_AES_CBC_PKCS5PADDING), .val (.int (1 : Int32)), .val (.int (1 : Int32)), .unset] [(.int (1 : Int32))]) _
    refine XS.goto X2.here hx rfl (pc0 := 137) (pc' := 141) rfl (hb hby at_137) (by decide) (by decide) ?_
    show Sp p e below T2 (mkF m 141 #[.val (.int p0), .val (.int p1), .val (.int p2), .val (.int ((p0 &&& (2147483647 : Int32)) % (5 : Int32))), .val (.int (p1 &&& (3 : Int32))), .val (.int z5), .val (.ref w_AES_CBC_PKCS5PADDING), .val (.int (1 : Int32)), .val (.int (1 : Int32)), .unset] [(.int (1 : Int32))]) _
    refine XS.istore X2.here hx rfl (hb hby at_141) rfl (l' := #[.val (.int p0), .val (.int p1), .val (.int p2), .val (.int ((p0 &&& (2147483647 : Int32)) % (5 : Int32))), .val (.int (p1 &&& (3 : Int32))), .val (.int z5), .val (.ref w_AES_CBC_PKCS5PADDING), .val (.int (1 : Int32)), .val (.int (1 : Int32)), .val (.int (1 : Int32))]) rfl ?_
    show Sp p e below T2 (mkF m 143 #[.val (.int p0), .val (.int p1), .val (.int p2), .val (.int ((p0 &&& (2147483647 : Int32)) % (5 : Int32))), .val (.int (p1 &&& (3 : Int32))), .val (.int z5), .val (.ref w_AES_CBC_PKCS5PADDING), .val (.int (1 : Int32)), .val (.int (1 : Int32)), .val (.int (1 : Int32))] []) _
    refine XS.aload X2.here hx rfl (hb hby at_143) rfl rfl ?_
    show Sp p e below T2 (mkF m 145 #[.val (.int p0), .val (.int p1), .val (.int p2), .val (.int ((p0 &&& (2147483647 : Int32)) % (5 : Int32))), .val (.int (p1 &&& (3 : Int32))), .val (.int z5), .val (.ref w_AES_CBC_PKCS5PADDING), .val (.int (1 : Int32)), .val (.int (1 : Int32)), .val (.int (1 : Int32))] [(.ref w_AES_CBC_PKCS5PADDING)]) _
    refine XS.iload X2.here hx rfl (hb hby at_145) rfl ?_
    show Sp p e below T2 (mkF m 147 #[.val (.int p0), .val (.int p1), .val (.int p2), .val (.int ((p0 &&& (2147483647 : Int32)) % (5 : Int32))), .val (.int (p1 &&& (3 : Int32))), .val (.int z5), .val (.ref w_AES_CBC_PKCS5PADDING), .val (.int (1 : Int32)), .val (.int (1 : Int32)), .val (.int (1 : Int32))] [(.int z5), (.ref w_AES_CBC_PKCS5PADDING)]) _
    refine st3.trans ?_
    show Sp p e below T3 (mkF m 150 #[.val (.int p0), .val (.int p1), .val (.int p2), .val (.int ((p0 &&& (2147483647 : Int32)) % (5 : Int32))), .val (.int (p1 &&& (3 : Int32))), .val (.int z5), .val (.ref w_AES_CBC_PKCS5PADDING), .val (.int (1 : Int32)), .val (.int (1 : Int32)), .val (.int (1 : Int32))] [(.int (1 : Int32))]) _
    refine XS.iload X3.here hx rfl (hb hby at_150) rfl ?_
    show Sp p e below T3 (mkF m 152 #[.val (.int p0), .val (.int p1), .val (.int p2), .val (.int ((p0 &&& (2147483647 : Int32)) % (5 : Int32))), .val (.int (p1 &&& (3 : Int32))), .val (.int z5), .val (.ref w_AES_CBC_PKCS5PADDING), .val (.int (1 : Int32)), .val (.int (1 : Int32)), .val (.int (1 : Int32))] [(.int (1 : Int32)), (.int (1 : Int32))]) _
    refine XS.icmpNo X3.here hx rfl (hb hby at_152) rfl (teq (by decide : (1 : Int32) = (1 : Int32))).2 ?_
    show Sp p e below T3 (mkF m 155 #[.val (.int p0), .val (.int p1), .val (.int p2), .val (.int ((p0 &&& (2147483647 : Int32)) % (5 : Int32))), .val (.int (p1 &&& (3 : Int32))), .val (.int z5), .val (.ref w_AES_CBC_PKCS5PADDING), .val (.int (1 : Int32)), .val (.int (1 : Int32)), .val (.int (1 : Int32))] []) _
    refine XS.iconst X3.here hx rfl (hb hby at_155) ?_
    show Sp p e below T3 (mkF m 156 #[.val (.int p0), .val (.int p1), .val (.int p2), .val (.int ((p0 &&& (2147483647 : Int32)) % (5 : Int32))), .val (.int (p1 &&& (3 : Int32))), .val (.int z5), .val (.ref w_AES_CBC_PKCS5PADDING), .val (.int (1 : Int32)), .val (.int (1 : Int32)), .val (.int (1 : Int32))] [(.int (1 : Int32))]) _
    refine XS.goto X3.here hx rfl (pc0 := 156) (pc' := 160) rfl (hb hby at_156) (by decide) (by decide) ?_
    show Sp p e below T3 (mkF m 160 #[.val (.int p0), .val (.int p1), .val (.int p2), .val (.int ((p0 &&& (2147483647 : Int32)) % (5 : Int32))), .val (.int (p1 &&& (3 : Int32))), .val (.int z5), .val (.ref w_AES_CBC_PKCS5PADDING), .val (.int (1 : Int32)), .val (.int (1 : Int32)), .val (.int (1 : Int32))] [(.int (1 : Int32))]) _
    exact retN X3 hx (t := .boolean) Bd.returns (by simp) (hb hby at_160) hr
  · skip
    exact ⟨rfl, N3⟩
def Q18 (Z : State) (w_AES_128_GCM : Addr) (w_AES_256_GCM : Addr) (w_AES_CBC_PKCS5PADDING : Addr) (w_AES_128_CBC : Addr) (w_AES_GCM_NOPADDING : Addr) (kl_AES_128_GCM : Addr) (kl_AES_256_GCM : Addr) (kl_AES_CBC_PKCS5PADDING : Addr) (kl_AES_128_CBC : Addr) (kl_AES_GCM_NOPADDING : Addr) (k_kl_AES_128_GCM : ClassId) (k_kl_AES_256_GCM : ClassId) (k_kl_AES_CBC_PKCS5PADDING : ClassId) (k_kl_AES_128_CBC : ClassId) (k_kl_AES_GCM_NOPADDING : ClassId) (p1 : Int32) (h0 : Heap) (n0 : Nat) (v : Option Value) (h : Heap) (L : List Loc) : Prop := v = some (.int (0 : Int32)) ∧ Fr n0 L ∧ h = h0
set_option maxRecDepth 65536 in
set_option maxHeartbeats 40000000 in
theorem rm18 (l : Launch) (Z : State) (a0 : Array Value) (hw : ∀ d ∈ tables_1, d.before a0 Z = true) (ws : List Jvm.Cond) (w_AES_128_GCM w_AES_256_GCM w_AES_CBC_PKCS5PADDING w_AES_128_CBC w_AES_GCM_NOPADDING kl_AES_128_GCM kl_AES_256_GCM kl_AES_CBC_PKCS5PADDING kl_AES_128_CBC kl_AES_GCM_NOPADDING : Addr) (k_kl_AES_128_GCM : ClassId) (k_kl_AES_256_GCM : ClassId) (k_kl_AES_CBC_PKCS5PADDING : ClassId) (k_kl_AES_128_CBC : ClassId) (k_kl_AES_GCM_NOPADDING : ClassId) (hp : Perm Z w_AES_128_GCM w_AES_256_GCM w_AES_CBC_PKCS5PADDING w_AES_128_CBC w_AES_GCM_NOPADDING kl_AES_128_GCM kl_AES_256_GCM kl_AES_CBC_PKCS5PADDING kl_AES_128_CBC kl_AES_GCM_NOPADDING k_kl_AES_128_GCM k_kl_AES_256_GCM k_kl_AES_CBC_PKCS5PADDING k_kl_AES_128_CBC k_kl_AES_GCM_NOPADDING) (p1 : Int32) (h0 : Heap) (n0 : Nat) (O0 : Old Z n0 h0) (hc1 : ¬ (p1 = (16 : Int32))) (hc2 : ¬ (p1 = (32 : Int32))) :
    MetFree l y1 (head1 (Jvm.Cond.code y1 prog_31_method_7_code 6 (some .boolean) :: ws) ({ frames := 0, cells := 0, slots := 0, locals := 0 } : Room)) (fun a U => a = #[(.ref w_AES_CBC_PKCS5PADDING), (.int p1)] ∧ Z.Warmed39 U.vm ∧ U.heap = h0) (fun _ _ _ _ _ => True) (fun _ U o U' => ∃ v L, o = .returned v ∧ Q18 Z w_AES_128_GCM w_AES_256_GCM w_AES_CBC_PKCS5PADDING w_AES_128_CBC w_AES_GCM_NOPADDING kl_AES_128_GCM kl_AES_256_GCM kl_AES_CBC_PKCS5PADDING kl_AES_128_CBC kl_AES_GCM_NOPADDING k_kl_AES_128_GCM k_kl_AES_256_GCM k_kl_AES_CBC_PKCS5PADDING k_kl_AES_128_CBC k_kl_AES_GCM_NOPADDING p1 h0 n0 v U'.heap L ∧ FrameEnd U o U' L ({ frames := 0, cells := 0, slots := 0, locals := 0 } : Room).cells ({ frames := 0, cells := 0, slots := 0, locals := 0 } : Room).slots) := by
  refine MetFree.of_bodySF (plainFor_of_name pn_2) hisR ?_
  intro p e s m args below meth c s₁ Bd hml0 hP hK
  obtain ⟨rfl, hZ, hh⟩ := hP
  have hx := Bd.exec
  have hby := Bd.bytes
  have hml : c.maxLocals = 6 := hml0
  have hown : s.vm.findClass "com/example/cloakfield/cloakfield/crypto/EncryptionAlgorithm" = some m.cls := findClass_of_methodNamed Bd.named
  have hnm := (name_of_methodNamed Bd.named Bd.method).1
  have X0 : Stand p l e ({ frames := 0, cells := 0, slots := 0, locals := 0 } : Room) s m #[(.ref w_AES_CBC_PKCS5PADDING), (.int p1)] below meth c s₁ [] 0 0 := Stand.of_body Bd
  have e0 : s₁.heap = h0 := by rw [← hh, Bd.state]; rfl
  have N0 := Fr.nil n0
  have hp' := hp
  obtain ⟨S_w_AES_128_GCM, E_w_AES_128_GCM, S_w_AES_256_GCM, E_w_AES_256_GCM, S_w_AES_CBC_PKCS5PADDING, E_w_AES_CBC_PKCS5PADDING, S_w_AES_128_CBC, E_w_AES_128_CBC, S_w_AES_GCM_NOPADDING, E_w_AES_GCM_NOPADDING, F_keyLengths_w_AES_128_GCM, V_kl_AES_128_GCM, F_keyLengths_w_AES_256_GCM, V_kl_AES_256_GCM, F_keyLengths_w_AES_CBC_PKCS5PADDING, V_kl_AES_CBC_PKCS5PADDING, F_keyLengths_w_AES_128_CBC, V_kl_AES_128_CBC, F_keyLengths_w_AES_GCM_NOPADDING, V_kl_AES_GCM_NOPADDING⟩ := hp'
  have pre0 : ∀ t, Steps p.tables e below (s₁.setTop (mkF m 0 #[.val (.ref w_AES_CBC_PKCS5PADDING), .val (.int p1), .unset, .unset, .unset, .unset] [])) t → Steps p.tables e below (s₁.setTop (entryFrame m #[(.ref w_AES_CBC_PKCS5PADDING), (.int p1)] 6)) t := fun t k => castTop (ef_2_0 m w_AES_CBC_PKCS5PADDING p1) k
  obtain ⟨T1, X1, e1, st1⟩ := getF X0 hx hZ hown (host := "") (Or.inl (hw _ (List.mem_of_getElem? (i := 13) rfl))) Via.refl e0 (F_keyLengths_w_AES_CBC_PKCS5PADDING.ext O0.2) (g := (mkF m 1 #[.val (.ref w_AES_CBC_PKCS5PADDING), .val (.int p1), .unset, .unset, .unset, .unset] [(.ref w_AES_CBC_PKCS5PADDING)])) rfl rfl (hb hby d2_1)
  obtain ⟨cl2, Ar2, -, S2, Nn2, -, -⟩ := (V_kl_AES_CBC_PKCS5PADDING.ext O0.2)
  obtain ⟨cl3, Ar3, -, S3, -, H3, -⟩ := (V_kl_AES_CBC_PKCS5PADDING.ext O0.2)
  have hin3 : ¬ ((0 : Int32) < 0 ∨ cl3.slots.size ≤ ((0 : Int32)).toNatClampNeg) := inb_of S3 ⟨by decide, by decide⟩
  have hat3 : cl3.slots[((0 : Int32)).toNatClampNeg]? = some (.int (16 : Int32)) := H3.at hin3 rfl
  obtain ⟨cl4, Ar4, -, S4, -, H4, -⟩ := (V_kl_AES_CBC_PKCS5PADDING.ext O0.2)
  have hin4 : ¬ (((0 : Int32) + (1 : Int32)) < 0 ∨ cl4.slots.size ≤ (((0 : Int32) + (1 : Int32))).toNatClampNeg) := inb_of S4 ⟨by decide, by decide⟩
  have hat4 : cl4.slots[(((0 : Int32) + (1 : Int32))).toNatClampNeg]? = some (.int (32 : Int32)) := H4.at hin4 rfl
  obtain ⟨fs, hr, hrun, hended, hW, hsame⟩ := X1.leave (v := some (.int (0 : Int32))) (fun h => by rw [Bd.returns] at h; cases h)
  refine ⟨_, _, pre0 _ ?_, hrun, hended, _, _, rfl, ?_, ⟨_, rfl⟩, hW, hsame.mono (by decide) (by decide)⟩
  · show Sp p e below s₁ (mkF m 0 #[.val (.ref w_AES_CBC_PKCS5PADDING), .val (.int p1), .unset, .unset, .unset, .unset] []) _
    refine XS.aloadN X0.here hx rfl (hb hby d2_0) rfl rfl ?_
    show Sp p e below s₁ (mkF m 1 #[.val (.ref w_AES_CBC_PKCS5PADDING), .val (.int p1), .unset, .unset, .unset, .unset] [(.ref w_AES_CBC_PKCS5PADDING)]) _
    refine st1 _ ?_
    show Sp p e below T1 (mkF m 4 #[.val (.ref w_AES_CBC_PKCS5PADDING), .val (.int p1), .unset, .unset, .unset, .unset] [(.ref kl_AES_CBC_PKCS5PADDING)]) _
    refine XS.astoreN X1.here hx rfl (hb hby d2_4) rfl rfl (l' := #[.val (.ref w_AES_CBC_PKCS5PADDING), .val (.int p1), .val (.ref kl_AES_CBC_PKCS5PADDING), .unset, .unset, .unset]) rfl ?_
    show Sp p e below T1 (mkF m 5 #[.val (.ref w_AES_CBC_PKCS5PADDING), .val (.int p1), .val (.ref kl_AES_CBC_PKCS5PADDING), .unset, .unset, .unset] []) _
    refine XS.aloadN X1.here hx rfl (hb hby d2_5) rfl rfl ?_
    show Sp p e below T1 (mkF m 6 #[.val (.ref w_AES_CBC_PKCS5PADDING), .val (.int p1), .val (.ref kl_AES_CBC_PKCS5PADDING), .unset, .unset, .unset] [(.ref kl_AES_CBC_PKCS5PADDING)]) _
    refine X1.arraylength hx (by rw [e1]; exact Ar2.1) (State.isArrayOf_alike hZ.alike Ar2.2.1) (g := (mkF m 6 #[.val (.ref w_AES_CBC_PKCS5PADDING), .val (.int p1), .val (.ref kl_AES_CBC_PKCS5PADDING), .unset, .unset, .unset] [(.ref kl_AES_CBC_PKCS5PADDING)])) rfl rfl (hb hby d2_6) _ ?_
    rw [len_of S2 Nn2]
    show Sp p e below T1 (mkF m 7 #[.val (.ref w_AES_CBC_PKCS5PADDING), .val (.int p1), .val (.ref kl_AES_CBC_PKCS5PADDING), .unset, .unset, .unset] [(.int (2 : Int32))]) _
    refine XS.istoreN X1.here hx rfl (hb hby d2_7) rfl (l' := #[.val (.ref w_AES_CBC_PKCS5PADDING), .val (.int p1), .val (.ref kl_AES_CBC_PKCS5PADDING), .val (.int (2 : Int32)), .unset, .unset]) rfl ?_
    show Sp p e below T1 (mkF m 8 #[.val (.ref w_AES_CBC_PKCS5PADDING), .val (.int p1), .val (.ref kl_AES_CBC_PKCS5PADDING), .val (.int (2 : Int32)), .unset, .unset] []) _
    refine XS.iconst X1.here hx rfl (hb hby d2_8) ?_
    show Sp p e below T1 (mkF m 9 #[.val (.ref w_AES_CBC_PKCS5PADDING), .val (.int p1), .val (.ref kl_AES_CBC_PKCS5PADDING), .val (.int (2 : Int32)), .unset, .unset] [(.int (0 : Int32))]) _
    refine XS.istore X1.here hx rfl (hb hby d2_9) rfl (l' := #[.val (.ref w_AES_CBC_PKCS5PADDING), .val (.int p1), .val (.ref kl_AES_CBC_PKCS5PADDING), .val (.int (2 : Int32)), .val (.int (0 : Int32)), .unset]) rfl ?_
    show Sp p e below T1 (mkF m 11 #[.val (.ref w_AES_CBC_PKCS5PADDING), .val (.int p1), .val (.ref kl_AES_CBC_PKCS5PADDING), .val (.int (2 : Int32)), .val (.int (0 : Int32)), .unset] []) _
    refine XS.iload X1.here hx rfl (hb hby d2_11) rfl ?_
    show Sp p e below T1 (mkF m 13 #[.val (.ref w_AES_CBC_PKCS5PADDING), .val (.int p1), .val (.ref kl_AES_CBC_PKCS5PADDING), .val (.int (2 : Int32)), .val (.int (0 : Int32)), .unset] [(.int (0 : Int32))]) _
    refine XS.iloadN X1.here hx rfl (hb hby d2_13) rfl ?_
    show Sp p e below T1 (mkF m 14 #[.val (.ref w_AES_CBC_PKCS5PADDING), .val (.int p1), .val (.ref kl_AES_CBC_PKCS5PADDING), .val (.int (2 : Int32)), .val (.int (0 : Int32)), .unset] [(.int (2 : Int32)), (.int (0 : Int32))]) _
    refine XS.icmpNo X1.here hx rfl (hb hby d2_14) rfl (tlt (by decide : (0 : Int32) < (2 : Int32))).2.1 ?_
    show Sp p e below T1 (mkF m 17 #[.val (.ref w_AES_CBC_PKCS5PADDING), .val (.int p1), .val (.ref kl_AES_CBC_PKCS5PADDING), .val (.int (2 : Int32)), .val (.int (0 : Int32)), .unset] []) _
    refine XS.aloadN X1.here hx rfl (hb hby d2_17) rfl rfl ?_
    show Sp p e below T1 (mkF m 18 #[.val (.ref w_AES_CBC_PKCS5PADDING), .val (.int p1), .val (.ref kl_AES_CBC_PKCS5PADDING), .val (.int (2 : Int32)), .val (.int (0 : Int32)), .unset] [(.ref kl_AES_CBC_PKCS5PADDING)]) _
    refine XS.iload X1.here hx rfl (hb hby d2_18) rfl ?_
    show Sp p e below T1 (mkF m 20 #[.val (.ref w_AES_CBC_PKCS5PADDING), .val (.int p1), .val (.ref kl_AES_CBC_PKCS5PADDING), .val (.int (2 : Int32)), .val (.int (0 : Int32)), .unset] [(.int (0 : Int32)), (.ref kl_AES_CBC_PKCS5PADDING)]) _
    refine X1.iaload hx (j := (0 : Int32)) (v := (.int (16 : Int32))) (by rw [e1]; exact Ar3.1) (State.isArrayOf_alike hZ.alike Ar3.2.1) Ar3.2.2 hin3 hat3 (g := (mkF m 20 #[.val (.ref w_AES_CBC_PKCS5PADDING), .val (.int p1), .val (.ref kl_AES_CBC_PKCS5PADDING), .val (.int (2 : Int32)), .val (.int (0 : Int32)), .unset] [(.int (0 : Int32)), (.ref kl_AES_CBC_PKCS5PADDING)])) rfl rfl (hb hby d2_20) _ ?_
    show Sp p e below T1 (mkF m 21 #[.val (.ref w_AES_CBC_PKCS5PADDING), .val (.int p1), .val (.ref kl_AES_CBC_PKCS5PADDING), .val (.int (2 : Int32)), .val (.int (0 : Int32)), .unset] [(.int (16 : Int32))]) _
    refine XS.istore X1.here hx rfl (hb hby d2_21) rfl (l' := #[.val (.ref w_AES_CBC_PKCS5PADDING), .val (.int p1), .val (.ref kl_AES_CBC_PKCS5PADDING), .val (.int (2 : Int32)), .val (.int (0 : Int32)), .val (.int (16 : Int32))]) rfl ?_
    show Sp p e below T1 (mkF m 23 #[.val (.ref w_AES_CBC_PKCS5PADDING), .val (.int p1), .val (.ref kl_AES_CBC_PKCS5PADDING), .val (.int (2 : Int32)), .val (.int (0 : Int32)), .val (.int (16 : Int32))] []) _
    refine XS.iload X1.here hx rfl (hb hby d2_23) rfl ?_
    show Sp p e below T1 (mkF m 25 #[.val (.ref w_AES_CBC_PKCS5PADDING), .val (.int p1), .val (.ref kl_AES_CBC_PKCS5PADDING), .val (.int (2 : Int32)), .val (.int (0 : Int32)), .val (.int (16 : Int32))] [(.int (16 : Int32))]) _
    refine XS.iloadN X1.here hx rfl (hb hby d2_25) rfl ?_
    show Sp p e below T1 (mkF m 26 #[.val (.ref w_AES_CBC_PKCS5PADDING), .val (.int p1), .val (.ref kl_AES_CBC_PKCS5PADDING), .val (.int (2 : Int32)), .val (.int (0 : Int32)), .val (.int (16 : Int32))] [(.int p1), (.int (16 : Int32))]) _
    refine XS.icmpYes X1.here hx rfl (pc0 := 26) (pc' := 31) rfl (hb hby d2_26) rfl (feq (fun q => hc1 (Eq.symm q) : ¬ ((16 : Int32) = p1))).2 (by decide) (by decide) ?_
    show Sp p e below T1 (mkF m 31 #[.val (.ref w_AES_CBC_PKCS5PADDING), .val (.int p1), .val (.ref kl_AES_CBC_PKCS5PADDING), .val (.int (2 : Int32)), .val (.int (0 : Int32)), .val (.int (16 : Int32))] []) _
    refine XS.iinc X1.here hx rfl (hb hby d2_31) rfl (l' := #[.val (.ref w_AES_CBC_PKCS5PADDING), .val (.int p1), .val (.ref kl_AES_CBC_PKCS5PADDING), .val (.int (2 : Int32)), .val (.int ((0 : Int32) + (1 : Int32))), .val (.int (16 : Int32))]) rfl ?_
    show Sp p e below T1 (mkF m 34 #[.val (.ref w_AES_CBC_PKCS5PADDING), .val (.int p1), .val (.ref kl_AES_CBC_PKCS5PADDING), .val (.int (2 : Int32)), .val (.int ((0 : Int32) + (1 : Int32))), .val (.int (16 : Int32))] []) _
    refine XS.goto X1.here hx rfl (pc0 := 34) (pc' := 11) rfl (hb hby d2_34) (by decide) (by decide) ?_
    show Sp p e below T1 (mkF m 11 #[.val (.ref w_AES_CBC_PKCS5PADDING), .val (.int p1), .val (.ref kl_AES_CBC_PKCS5PADDING), .val (.int (2 : Int32)), .val (.int ((0 : Int32) + (1 : Int32))), .val (.int (16 : Int32))] []) _
    refine XS.iload X1.here hx rfl (hb hby d2_11) rfl ?_
    show Sp p e below T1 (mkF m 13 #[.val (.ref w_AES_CBC_PKCS5PADDING), .val (.int p1), .val (.ref kl_AES_CBC_PKCS5PADDING), .val (.int (2 : Int32)), .val (.int ((0 : Int32) + (1 : Int32))), .val (.int (16 : Int32))] [(.int ((0 : Int32) + (1 : Int32)))]) _
    refine XS.iloadN X1.here hx rfl (hb hby d2_13) rfl ?_
    show Sp p e below T1 (mkF m 14 #[.val (.ref w_AES_CBC_PKCS5PADDING), .val (.int p1), .val (.ref kl_AES_CBC_PKCS5PADDING), .val (.int (2 : Int32)), .val (.int ((0 : Int32) + (1 : Int32))), .val (.int (16 : Int32))] [(.int (2 : Int32)), (.int ((0 : Int32) + (1 : Int32)))]) _
    refine XS.icmpNo X1.here hx rfl (hb hby d2_14) rfl (tlt (by decide : ((0 : Int32) + (1 : Int32)) < (2 : Int32))).2.1 ?_
    show Sp p e below T1 (mkF m 17 #[.val (.ref w_AES_CBC_PKCS5PADDING), .val (.int p1), .val (.ref kl_AES_CBC_PKCS5PADDING), .val (.int (2 : Int32)), .val (.int ((0 : Int32) + (1 : Int32))), .val (.int (16 : Int32))] []) _
    refine XS.aloadN X1.here hx rfl (hb hby d2_17) rfl rfl ?_
    show Sp p e below T1 (mkF m 18 #[.val (.ref w_AES_CBC_PKCS5PADDING), .val (.int p1), .val (.ref kl_AES_CBC_PKCS5PADDING), .val (.int (2 : Int32)), .val (.int ((0 : Int32) + (1 : Int32))), .val (.int (16 : Int32))] [(.ref kl_AES_CBC_PKCS5PADDING)]) _
    refine XS.iload X1.here hx rfl (hb hby d2_18) rfl ?_
    show Sp p e below T1 (mkF m 20 #[.val (.ref w_AES_CBC_PKCS5PADDING), .val (.int p1), .val (.ref kl_AES_CBC_PKCS5PADDING), .val (.int (2 : Int32)), .val (.int ((0 : Int32) + (1 : Int32))), .val (.int (16 : Int32))] [(.int ((0 : Int32) + (1 : Int32))), (.ref kl_AES_CBC_PKCS5PADDING)]) _
    refine X1.iaload hx (j := ((0 : Int32) + (1 : Int32))) (v := (.int (32 : Int32))) (by rw [e1]; exact Ar4.1) (State.isArrayOf_alike hZ.alike Ar4.2.1) Ar4.2.2 hin4 hat4 (g := (mkF m 20 #[.val (.ref w_AES_CBC_PKCS5PADDING), .val (.int p1), .val (.ref kl_AES_CBC_PKCS5PADDING), .val (.int (2 : Int32)), .val (.int ((0 : Int32) + (1 : Int32))), .val (.int (16 : Int32))] [(.int ((0 : Int32) + (1 : Int32))), (.ref kl_AES_CBC_PKCS5PADDING)])) rfl rfl (hb hby d2_20) _ ?_
    show Sp p e below T1 (mkF m 21 #[.val (.ref w_AES_CBC_PKCS5PADDING), .val (.int p1), .val (.ref kl_AES_CBC_PKCS5PADDING), .val (.int (2 : Int32)), .val (.int ((0 : Int32) + (1 : Int32))), .val (.int (16 : Int32))] [(.int (32 : Int32))]) _
    refine XS.istore X1.here hx rfl (hb hby d2_21) rfl (l' := #[.val (.ref w_AES_CBC_PKCS5PADDING), .val (.int p1), .val (.ref kl_AES_CBC_PKCS5PADDING), .val (.int (2 : Int32)), .val (.int ((0 : Int32) + (1 : Int32))), .val (.int (32 : Int32))]) rfl ?_
    show Sp p e below T1 (mkF m 23 #[.val (.ref w_AES_CBC_PKCS5PADDING), .val (.int p1), .val (.ref kl_AES_CBC_PKCS5PADDING), .val (.int (2 : Int32)), .val (.int ((0 : Int32) + (1 : Int32))), .val (.int (32 : Int32))] []) _
    refine XS.iload X1.here hx rfl (hb hby d2_23) rfl ?_
    show Sp p e below T1 (mkF m 25 #[.val (.ref w_AES_CBC_PKCS5PADDING), .val (.int p1), .val (.ref kl_AES_CBC_PKCS5PADDING), .val (.int (2 : Int32)), .val (.int ((0 : Int32) + (1 : Int32))), .val (.int (32 : Int32))] [(.int (32 : Int32))]) _
    refine XS.iloadN X1.here hx rfl (hb hby d2_25) rfl ?_
    show Sp p e below T1 (mkF m 26 #[.val (.ref w_AES_CBC_PKCS5PADDING), .val (.int p1), .val (.ref kl_AES_CBC_PKCS5PADDING), .val (.int (2 : Int32)), .val (.int ((0 : Int32) + (1 : Int32))), .val (.int (32 : Int32))] [(.int p1), (.int (32 : Int32))]) _
    refine XS.icmpYes X1.here hx rfl (pc0 := 26) (pc' := 31) rfl (hb hby d2_26) rfl (feq (fun q => hc2 (Eq.symm q) : ¬ ((32 : Int32) = p1))).2 (by decide) (by decide) ?_
    show Sp p e below T1 (mkF m 31 #[.val (.ref w_AES_CBC_PKCS5PADDING), .val (.int p1), .val (.ref kl_AES_CBC_PKCS5PADDING), .val (.int (2 : Int32)), .val (.int ((0 : Int32) + (1 : Int32))), .val (.int (32 : Int32))] []) _
    refine XS.iinc X1.here hx rfl (hb hby d2_31) rfl (l' := #[.val (.ref w_AES_CBC_PKCS5PADDING), .val (.int p1), .val (.ref kl_AES_CBC_PKCS5PADDING), .val (.int (2 : Int32)), .val (.int (((0 : Int32) + (1 : Int32)) + (1 : Int32))), .val (.int (32 : Int32))]) rfl ?_
    show Sp p e below T1 (mkF m 34 #[.val (.ref w_AES_CBC_PKCS5PADDING), .val (.int p1), .val (.ref kl_AES_CBC_PKCS5PADDING), .val (.int (2 : Int32)), .val (.int (((0 : Int32) + (1 : Int32)) + (1 : Int32))), .val (.int (32 : Int32))] []) _
    refine XS.goto X1.here hx rfl (pc0 := 34) (pc' := 11) rfl (hb hby d2_34) (by decide) (by decide) ?_
    show Sp p e below T1 (mkF m 11 #[.val (.ref w_AES_CBC_PKCS5PADDING), .val (.int p1), .val (.ref kl_AES_CBC_PKCS5PADDING), .val (.int (2 : Int32)), .val (.int (((0 : Int32) + (1 : Int32)) + (1 : Int32))), .val (.int (32 : Int32))] []) _
    refine XS.iload X1.here hx rfl (hb hby d2_11) rfl ?_
    show Sp p e below T1 (mkF m 13 #[.val (.ref w_AES_CBC_PKCS5PADDING), .val (.int p1), .val (.ref kl_AES_CBC_PKCS5PADDING), .val (.int (2 : Int32)), .val (.int (((0 : Int32) + (1 : Int32)) + (1 : Int32))), .val (.int (32 : Int32))] [(.int (((0 : Int32) + (1 : Int32)) + (1 : Int32)))]) _
    refine XS.iloadN X1.here hx rfl (hb hby d2_13) rfl ?_
    show Sp p e below T1 (mkF m 14 #[.val (.ref w_AES_CBC_PKCS5PADDING), .val (.int p1), .val (.ref kl_AES_CBC_PKCS5PADDING), .val (.int (2 : Int32)), .val (.int (((0 : Int32) + (1 : Int32)) + (1 : Int32))), .val (.int (32 : Int32))] [(.int (2 : Int32)), (.int (((0 : Int32) + (1 : Int32)) + (1 : Int32)))]) _
    refine XS.icmpYes X1.here hx rfl (pc0 := 14) (pc' := 37) rfl (hb hby d2_14) rfl (flt (by decide : ¬ ((((0 : Int32) + (1 : Int32)) + (1 : Int32)) < (2 : Int32)))).2.1 (by decide) (by decide) ?_
    show Sp p e below T1 (mkF m 37 #[.val (.ref w_AES_CBC_PKCS5PADDING), .val (.int p1), .val (.ref kl_AES_CBC_PKCS5PADDING), .val (.int (2 : Int32)), .val (.int (((0 : Int32) + (1 : Int32)) + (1 : Int32))), .val (.int (32 : Int32))] []) _
    refine XS.iconst X1.here hx rfl (hb hby d2_37) ?_
    show Sp p e below T1 (mkF m 38 #[.val (.ref w_AES_CBC_PKCS5PADDING), .val (.int p1), .val (.ref kl_AES_CBC_PKCS5PADDING), .val (.int (2 : Int32)), .val (.int (((0 : Int32) + (1 : Int32)) + (1 : Int32))), .val (.int (32 : Int32))] [(.int (0 : Int32))]) _
    exact retN X1 hx (t := .boolean) Bd.returns (by simp) (hb hby d2_38) hr
  · show Q18 Z w_AES_128_GCM w_AES_256_GCM w_AES_CBC_PKCS5PADDING w_AES_128_CBC w_AES_GCM_NOPADDING kl_AES_128_GCM kl_AES_256_GCM kl_AES_CBC_PKCS5PADDING kl_AES_128_CBC kl_AES_GCM_NOPADDING k_kl_AES_128_GCM k_kl_AES_256_GCM k_kl_AES_CBC_PKCS5PADDING k_kl_AES_128_CBC k_kl_AES_GCM_NOPADDING p1 h0 n0 _ T1.heap _
    rw [e1]
    exact ⟨rfl, N0, rfl⟩
set_option maxRecDepth 65536 in
set_option maxHeartbeats 40000000 in
theorem rm19 (l : Launch) (Z : State) (a0 : Array Value) (hw : ∀ d ∈ tables_1, d.before a0 Z = true) (ws : List Jvm.Cond) (w_AES_128_GCM w_AES_256_GCM w_AES_CBC_PKCS5PADDING w_AES_128_CBC w_AES_GCM_NOPADDING kl_AES_128_GCM kl_AES_256_GCM kl_AES_CBC_PKCS5PADDING kl_AES_128_CBC kl_AES_GCM_NOPADDING : Addr) (k_kl_AES_128_GCM : ClassId) (k_kl_AES_256_GCM : ClassId) (k_kl_AES_CBC_PKCS5PADDING : ClassId) (k_kl_AES_128_CBC : ClassId) (k_kl_AES_GCM_NOPADDING : ClassId) (hp : Perm Z w_AES_128_GCM w_AES_256_GCM w_AES_CBC_PKCS5PADDING w_AES_128_CBC w_AES_GCM_NOPADDING kl_AES_128_GCM kl_AES_256_GCM kl_AES_CBC_PKCS5PADDING kl_AES_128_CBC kl_AES_GCM_NOPADDING k_kl_AES_128_GCM k_kl_AES_256_GCM k_kl_AES_CBC_PKCS5PADDING k_kl_AES_128_CBC k_kl_AES_GCM_NOPADDING) (p0 : Int32) (p1 : Int32) (p2 : Int32) (z5 : Int32) (h0 : Heap) (n0 : Nat) (O0 : Old Z n0 h0) (hcut : Cut_0_12 p0 p1 p2 ((p0 &&& (2147483647 : Int32)) % (5 : Int32)) (p1 &&& (3 : Int32)) z5) (hc2 : ¬ (((p0 &&& (2147483647 : Int32)) % (5 : Int32)) = (0 : Int32))) (hc3 : ¬ (((p0 &&& (2147483647 : Int32)) % (5 : Int32)) = (1 : Int32))) (hc4 : ¬ (((p0 &&& (2147483647 : Int32)) % (5 : Int32)) = (2 : Int32))) (hc5 : ¬ (((p0 &&& (2147483647 : Int32)) % (5 : Int32)) = (3 : Int32))) (hc6 : ¬ (z5 = (16 : Int32))) (hc7 : ¬ (z5 = (32 : Int32))) :
    MetFree l x (head1 (Jvm.Cond.code x code maxLocals ret :: ws) room_1) (fun a U => a = #[(.int p0), (.int p1), (.int p2)] ∧ Z.Warmed39 U.vm ∧ U.heap = h0) (fun _ _ _ _ _ => True) (fun _ U o U' => ∃ v L, o = .returned v ∧ (v = some (.int (1 : Int32)) ∧ Fr n0 L) ∧ FrameEnd U o U' L 0 0) := by
  refine MetFree.of_bodySF (plainFor_of_name pn_1) hisR ?_
  intro p e s m args below meth c s₁ Bd hml0 hP hK
  obtain ⟨rfl, hZ, hh⟩ := hP
  have hx := Bd.exec
  have hby := Bd.bytes
  have hml : c.maxLocals = 10 := hml0
  have hown : s.vm.findClass "com/example/cloakfield/cloakfield/crypto/EncryptionAlgorithmAcceptsKeyLengthPinLaw" = some m.cls := findClass_of_methodNamed Bd.named
  have hnm := (name_of_methodNamed Bd.named Bd.method).1
  have X0 : Stand p l e room_1 s m #[(.int p0), (.int p1), (.int p2)] below meth c s₁ [] 0 0 := Stand.of_body Bd
  have e0 : s₁.heap = h0 := by rw [← hh, Bd.state]; rfl
  have N0 := Fr.nil n0
  have hp' := hp
  obtain ⟨S_w_AES_128_GCM, E_w_AES_128_GCM, S_w_AES_256_GCM, E_w_AES_256_GCM, S_w_AES_CBC_PKCS5PADDING, E_w_AES_CBC_PKCS5PADDING, S_w_AES_128_CBC, E_w_AES_128_CBC, S_w_AES_GCM_NOPADDING, E_w_AES_GCM_NOPADDING, F_keyLengths_w_AES_128_GCM, V_kl_AES_128_GCM, F_keyLengths_w_AES_256_GCM, V_kl_AES_256_GCM, F_keyLengths_w_AES_CBC_PKCS5PADDING, V_kl_AES_CBC_PKCS5PADDING, F_keyLengths_w_AES_128_CBC, V_kl_AES_128_CBC, F_keyLengths_w_AES_GCM_NOPADDING, V_kl_AES_GCM_NOPADDING⟩ := hp'
  have pre0 : ∀ t, Steps p.tables e below (s₁.setTop (mkF m 0 #[.val (.int p0), .val (.int p1), .val (.int p2), .unset, .unset, .unset, .unset, .unset, .unset, .unset] [])) t → Steps p.tables e below (s₁.setTop (entryFrame m #[(.int p0), (.int p1), (.int p2)] maxLocals)) t := fun t k => castTop (ef_0_0 m p0 p1 p2) k
  have st1 := hcut X0 hx hZ hw hby hown
  obtain ⟨_, _, ⟨T2, L2, k2, n2⟩, -, X2, ⟨Lc2, hQ2, l2, y2, z2⟩, st2⟩ := Jvm.LawKit.callS X0 hx (y := y0) hown (mvT hZ (hw _ (List.mem_of_getElem? (i := 1) rfl))) (mvT hZ (hw _ (List.mem_of_getElem? (i := 2) rfl))) (mvT hZ (hw _ (List.mem_of_getElem? (i := 3) rfl))) (mvT hZ (hw _ (List.mem_of_getElem? (i := 4) rfl))) (by decide) (backOf (W := 0) (rm13 l Z a0 hw [] w_AES_128_GCM w_AES_256_GCM w_AES_CBC_PKCS5PADDING w_AES_128_CBC w_AES_GCM_NOPADDING kl_AES_128_GCM kl_AES_256_GCM kl_AES_CBC_PKCS5PADDING kl_AES_128_CBC kl_AES_GCM_NOPADDING k_kl_AES_128_GCM k_kl_AES_256_GCM k_kl_AES_CBC_PKCS5PADDING k_kl_AES_128_CBC k_kl_AES_GCM_NOPADDING hp ((p0 &&& (2147483647 : Int32)) % (5 : Int32)) h0 n0 O0 hc2 hc3 hc4 hc5) hZ (hw _ (List.mem_of_getElem? (i := 4) rfl)) (hw _ (List.mem_of_getElem? (i := 3) rfl)) (by decide) (by decide)) (g := (mkF m 59 #[.val (.int p0), .val (.int p1), .val (.int p2), .val (.int ((p0 &&& (2147483647 : Int32)) % (5 : Int32))), .val (.int (p1 &&& (3 : Int32))), .val (.int z5), .unset, .unset, .unset, .unset] [(.int ((p0 &&& (2147483647 : Int32)) % (5 : Int32)))])) rfl (by rw [hml]; rfl) (argsL := [(.int ((p0 &&& (2147483647 : Int32)) % (5 : Int32)))]) (rest := []) (lenOf pd_0 rfl) rfl (by show 2 * 0 + _ ≤ _; exact Nat.le_of_eq rfl) (hb hby at_59) (fun _ _ => ⟨rfl, e0, (by decide : 0 + 0 ≤ _), (by decide : 0 + 0 ≤ _)⟩)
  dsimp only [Pt.U, Pt.locs, Pt.cells, Pt.slots] at X2 l2 y2 z2 st2 hQ2
  subst l2 y2 z2
  obtain ⟨rfl, Nq2, eq2⟩ := hQ2
  have N2 := Fr.app N0 Nq2
  obtain ⟨cq3, kq3, q3a, q3b, q3c⟩ := isOf hZ eq2 (E_w_AES_CBC_PKCS5PADDING.ext O0.2)
  obtain ⟨_, _, ⟨T3, L3, k3, n3⟩, -, X3, ⟨Lc3, hQ3, l3, y3, z3⟩, st3⟩ := X2.virtualBack hx (y := y1) (z := y1) hown (mvT hZ (hw _ (List.mem_of_getElem? (i := 8) rfl))) (mvT hZ (hw _ (List.mem_of_getElem? (i := 9) rfl))) (notFace_of_selects (args := #[]) (mvT hZ (hw _ (List.mem_of_getElem? (i := 11) rfl)))) (mvT hZ (hw _ (List.mem_of_getElem? (i := 11) rfl))) (mvT hZ (hw _ (List.mem_of_getElem? (i := 10) rfl))) (by decide) (backOf (W := 0) (rm18 l Z a0 hw [] w_AES_128_GCM w_AES_256_GCM w_AES_CBC_PKCS5PADDING w_AES_128_CBC w_AES_GCM_NOPADDING kl_AES_128_GCM kl_AES_256_GCM kl_AES_CBC_PKCS5PADDING kl_AES_128_CBC kl_AES_GCM_NOPADDING k_kl_AES_128_GCM k_kl_AES_256_GCM k_kl_AES_CBC_PKCS5PADDING k_kl_AES_128_CBC k_kl_AES_GCM_NOPADDING hp z5 h0 n0 O0 hc6 hc7) hZ (hw _ (List.mem_of_getElem? (i := 12) rfl)) (hw _ (List.mem_of_getElem? (i := 6) rfl)) (by decide) (by decide)) q3a q3c (g := (mkF m 147 #[.val (.int p0), .val (.int p1), .val (.int p2), .val (.int ((p0 &&& (2147483647 : Int32)) % (5 : Int32))), .val (.int (p1 &&& (3 : Int32))), .val (.int z5), .val (.ref w_AES_CBC_PKCS5PADDING), .val (.int (1 : Int32)), .val (.int (1 : Int32)), .val (.int (0 : Int32))] [(.int z5), (.ref w_AES_CBC_PKCS5PADDING)])) rfl (by rw [hml]; rfl) (Steps.refl _) (argsL := [(.int z5)]) (rest := []) (lenOf pd_1 rfl) rfl (by show 2 * 0 + _ ≤ _; exact Nat.le_of_eq rfl) (hb hby at_147) (fun _ _ => ⟨rfl, eq2, (by decide : 0 + 0 ≤ _), (by decide : 0 + 0 ≤ _)⟩)
  dsimp only [Pt.U, Pt.locs, Pt.cells, Pt.slots] at X3 l3 y3 z3 st3 hQ3
  subst l3 y3 z3
  obtain ⟨rfl, Nq3, eq3⟩ := hQ3
  have N3 := Fr.app N2 Nq3
  obtain ⟨fs, hr, hrun, hended, hW, hsame⟩ := X3.leave (v := some (.int (1 : Int32))) (fun h => by rw [Bd.returns] at h; cases h)
  refine ⟨_, _, pre0 _ ?_, hrun, hended, _, _, rfl, ?_, ⟨_, rfl⟩, hW, hsame.mono (by decide) (by decide)⟩
  · show Sp p e below s₁ (mkF m 0 #[.val (.int p0), .val (.int p1), .val (.int p2), .unset, .unset, .unset, .unset, .unset, .unset, .unset] []) _
    refine XS.iloadN X0.here hx rfl (hb hby at_0) rfl ?_
    show Sp p e below s₁ (mkF m 1 #[.val (.int p0), .val (.int p1), .val (.int p2), .unset, .unset, .unset, .unset, .unset, .unset, .unset] [(.int p0)]) _
    refine X0.ldcI hx hown (mvT hZ (hw _ (List.mem_of_getElem? (i := 0) rfl))) rfl (hb hby at_1) ?_
    show Sp p e below s₁ (mkF m 3 #[.val (.int p0), .val (.int p1), .val (.int p2), .unset, .unset, .unset, .unset, .unset, .unset, .unset] [(.int (2147483647 : Int32)), (.int p0)]) _
    refine XS.iand X0.here hx rfl (hb hby at_3) rfl ?_
    show Sp p e below s₁ (mkF m 4 #[.val (.int p0), .val (.int p1), .val (.int p2), .unset, .unset, .unset, .unset, .unset, .unset, .unset] [(.int (p0 &&& (2147483647 : Int32)))]) _
    refine XS.iconst X0.here hx rfl (hb hby at_4) ?_
    show Sp p e below s₁ (mkF m 5 #[.val (.int p0), .val (.int p1), .val (.int p2), .unset, .unset, .unset, .unset, .unset, .unset, .unset] [(.int (5 : Int32)), (.int (p0 &&& (2147483647 : Int32)))]) _
    refine iremM X0 hx rfl (hb hby at_5) rfl (by decide) ?_
    show Sp p e below s₁ (mkF m 6 #[.val (.int p0), .val (.int p1), .val (.int p2), .unset, .unset, .unset, .unset, .unset, .unset, .unset] [(.int ((p0 &&& (2147483647 : Int32)) % (5 : Int32)))]) _
    refine XS.istoreN X0.here hx rfl (hb hby at_6) rfl (l' := #[.val (.int p0), .val (.int p1), .val (.int p2), .val (.int ((p0 &&& (2147483647 : Int32)) % (5 : Int32))), .unset, .unset, .unset, .unset, .unset, .unset]) rfl ?_
    show Sp p e below s₁ (mkF m 7 #[.val (.int p0), .val (.int p1), .val (.int p2), .val (.int ((p0 &&& (2147483647 : Int32)) % (5 : Int32))), .unset, .unset, .unset, .unset, .unset, .unset] []) _
    refine XS.iloadN X0.here hx rfl (hb hby at_7) rfl ?_
    show Sp p e below s₁ (mkF m 8 #[.val (.int p0), .val (.int p1), .val (.int p2), .val (.int ((p0 &&& (2147483647 : Int32)) % (5 : Int32))), .unset, .unset, .unset, .unset, .unset, .unset] [(.int p1)]) _
    refine XS.iconst X0.here hx rfl (hb hby at_8) ?_
    show Sp p e below s₁ (mkF m 9 #[.val (.int p0), .val (.int p1), .val (.int p2), .val (.int ((p0 &&& (2147483647 : Int32)) % (5 : Int32))), .unset, .unset, .unset, .unset, .unset, .unset] [(.int (3 : Int32)), (.int p1)]) _
    refine XS.iand X0.here hx rfl (hb hby at_9) rfl ?_
    show Sp p e below s₁ (mkF m 10 #[.val (.int p0), .val (.int p1), .val (.int p2), .val (.int ((p0 &&& (2147483647 : Int32)) % (5 : Int32))), .unset, .unset, .unset, .unset, .unset, .unset] [(.int (p1 &&& (3 : Int32)))]) _
    refine XS.istore X0.here hx rfl (hb hby at_10) rfl (l' := #[.val (.int p0), .val (.int p1), .val (.int p2), .val (.int ((p0 &&& (2147483647 : Int32)) % (5 : Int32))), .val (.int (p1 &&& (3 : Int32))), .unset, .unset, .unset, .unset, .unset]) rfl ?_
    show Sp p e below s₁ (mkF m 12 #[.val (.int p0), .val (.int p1), .val (.int p2), .val (.int ((p0 &&& (2147483647 : Int32)) % (5 : Int32))), .val (.int (p1 &&& (3 : Int32))), .unset, .unset, .unset, .unset, .unset] []) _
    refine st1 _ ?_
    show Sp p e below s₁ (mkF m 58 #[.val (.int p0), .val (.int p1), .val (.int p2), .val (.int ((p0 &&& (2147483647 : Int32)) % (5 : Int32))), .val (.int (p1 &&& (3 : Int32))), .val (.int z5), .unset, .unset, .unset, .unset] []) _
    refine XS.iloadN X0.here hx rfl (hb hby at_58) rfl ?_
    show Sp p e below s₁ (mkF m 59 #[.val (.int p0), .val (.int p1), .val (.int p2), .val (.int ((p0 &&& (2147483647 : Int32)) % (5 : Int32))), .val (.int (p1 &&& (3 : Int32))), .val (.int z5), .unset, .unset, .unset, .unset] [(.int ((p0 &&& (2147483647 : Int32)) % (5 : Int32)))]) _
    refine st2 _ ?_
    show Sp p e below T2 (mkF m 62 #[.val (.int p0), .val (.int p1), .val (.int p2), .val (.int ((p0 &&& (2147483647 : Int32)) % (5 : Int32))), .val (.int (p1 &&& (3 : Int32))), .val (.int z5), .unset, .unset, .unset, .unset] [(.ref w_AES_CBC_PKCS5PADDING)]) _
    refine XS.astore X2.here hx rfl (hb hby at_62) rfl rfl (l' := #[.val (.int p0), .val (.int p1), .val (.int p2), .val (.int ((p0 &&& (2147483647 : Int32)) % (5 : Int32))), .val (.int (p1 &&& (3 : Int32))), .val (.int z5), .val (.ref w_AES_CBC_PKCS5PADDING), .unset, .unset, .unset]) rfl ?_
    show Sp p e below T2 (mkF m 64 #[.val (.int p0), .val (.int p1), .val (.int p2), .val (.int ((p0 &&& (2147483647 : Int32)) % (5 : Int32))), .val (.int (p1 &&& (3 : Int32))), .val (.int z5), .val (.ref w_AES_CBC_PKCS5PADDING), .unset, .unset, .unset] []) _
    refine XS.iloadN X2.here hx rfl (hb hby at_64) rfl ?_
    show Sp p e below T2 (mkF m 65 #[.val (.int p0), .val (.int p1), .val (.int p2), .val (.int ((p0 &&& (2147483647 : Int32)) % (5 : Int32))), .val (.int (p1 &&& (3 : Int32))), .val (.int z5), .val (.ref w_AES_CBC_PKCS5PADDING), .unset, .unset, .unset] [(.int ((p0 &&& (2147483647 : Int32)) % (5 : Int32)))]) _
    refine XS.ifNo X2.here hx rfl (hb hby at_65) rfl ((if0 _ _).trans (feq hc2).1) ?_
    show Sp p e below T2 (mkF m 68 #[.val (.int p0), .val (.int p1), .val (.int p2), .val (.int ((p0 &&& (2147483647 : Int32)) % (5 : Int32))), .val (.int (p1 &&& (3 : Int32))), .val (.int z5), .val (.ref w_AES_CBC_PKCS5PADDING), .unset, .unset, .unset] []) _
    refine XS.iloadN X2.here hx rfl (hb hby at_68) rfl ?_
    show Sp p e below T2 (mkF m 69 #[.val (.int p0), .val (.int p1), .val (.int p2), .val (.int ((p0 &&& (2147483647 : Int32)) % (5 : Int32))), .val (.int (p1 &&& (3 : Int32))), .val (.int z5), .val (.ref w_AES_CBC_PKCS5PADDING), .unset, .unset, .unset] [(.int ((p0 &&& (2147483647 : Int32)) % (5 : Int32)))]) _
    refine XS.iconst X2.here hx rfl (hb hby at_69) ?_
    show Sp p e below T2 (mkF m 70 #[.val (.int p0), .val (.int p1), .val (.int p2), .val (.int ((p0 &&& (2147483647 : Int32)) % (5 : Int32))), .val (.int (p1 &&& (3 : Int32))), .val (.int z5), .val (.ref w_AES_CBC_PKCS5PADDING), .unset, .unset, .unset] [(.int (2 : Int32)), (.int ((p0 &&& (2147483647 : Int32)) % (5 : Int32)))]) _
    refine XS.icmpNo X2.here hx rfl (hb hby at_70) rfl (feq hc4).1 ?_
    show Sp p e below T2 (mkF m 73 #[.val (.int p0), .val (.int p1), .val (.int p2), .val (.int ((p0 &&& (2147483647 : Int32)) % (5 : Int32))), .val (.int (p1 &&& (3 : Int32))), .val (.int z5), .val (.ref w_AES_CBC_PKCS5PADDING), .unset, .unset, .unset] []) _
    refine XS.iloadN X2.here hx rfl (hb hby at_73) rfl ?_
    show Sp p e below T2 (mkF m 74 #[.val (.int p0), .val (.int p1), .val (.int p2), .val (.int ((p0 &&& (2147483647 : Int32)) % (5 : Int32))), .val (.int (p1 &&& (3 : Int32))), .val (.int z5), .val (.ref w_AES_CBC_PKCS5PADDING), .unset, .unset, .unset] [(.int ((p0 &&& (2147483647 : Int32)) % (5 : Int32)))]) _
    refine XS.iconst X2.here hx rfl (hb hby at_74) ?_
    show Sp p e below T2 (mkF m 75 #[.val (.int p0), .val (.int p1), .val (.int p2), .val (.int ((p0 &&& (2147483647 : Int32)) % (5 : Int32))), .val (.int (p1 &&& (3 : Int32))), .val (.int z5), .val (.ref w_AES_CBC_PKCS5PADDING), .unset, .unset, .unset] [(.int (3 : Int32)), (.int ((p0 &&& (2147483647 : Int32)) % (5 : Int32)))]) _
    refine XS.icmpNo X2.here hx rfl (hb hby at_75) rfl (feq hc5).1 ?_
    show Sp p e below T2 (mkF m 78 #[.val (.int p0), .val (.int p1), .val (.int p2), .val (.int ((p0 &&& (2147483647 : Int32)) % (5 : Int32))), .val (.int (p1 &&& (3 : Int32))), .val (.int z5), .val (.ref w_AES_CBC_PKCS5PADDING), .unset, .unset, .unset] []) _
    refine XS.iloadN X2.here hx rfl (hb hby at_78) rfl ?_
    show Sp p e below T2 (mkF m 79 #[.val (.int p0), .val (.int p1), .val (.int p2), .val (.int ((p0 &&& (2147483647 : Int32)) % (5 : Int32))), .val (.int (p1 &&& (3 : Int32))), .val (.int z5), .val (.ref w_AES_CBC_PKCS5PADDING), .unset, .unset, .unset] [(.int ((p0 &&& (2147483647 : Int32)) % (5 : Int32)))]) _
    refine XS.iconst X2.here hx rfl (hb hby at_79) ?_
    show Sp p e below T2 (mkF m 80 #[.val (.int p0), .val (.int p1), .val (.int p2), .val (.int ((p0 &&& (2147483647 : Int32)) % (5 : Int32))), .val (.int (p1 &&& (3 : Int32))), .val (.int z5), .val (.ref w_AES_CBC_PKCS5PADDING), .unset, .unset, .unset] [(.int (4 : Int32)), (.int ((p0 &&& (2147483647 : Int32)) % (5 : Int32)))]) _
    refine XS.icmpNo X2.here hx rfl (hb hby at_80) rfl (teq (own_eq (n := 4) rfl (by have r := (own_rem (x := p0) (m := (2147483647 : Int32)) (M := 2147483647) rfl (by decide) (y := (5 : Int32)) (d := 5) rfl (by decide)); have q0 := own_nei hc2 (n := 0) rfl; have q1 := own_nei hc3 (n := 1) rfl; have q2 := own_nei hc4 (n := 2) rfl; have q3 := own_nei hc5 (n := 3) rfl; omega) : ((p0 &&& (2147483647 : Int32)) % (5 : Int32)) = (4 : Int32))).2 ?_
    show Sp p e below T2 (mkF m 83 #[.val (.int p0), .val (.int p1), .val (.int p2), .val (.int ((p0 &&& (2147483647 : Int32)) % (5 : Int32))), .val (.int (p1 &&& (3 : Int32))), .val (.int z5), .val (.ref w_AES_CBC_PKCS5PADDING), .unset, .unset, .unset] []) _
    refine XS.iconst X2.here hx rfl (hb hby at_83) ?_
    show Sp p e below T2 (mkF m 84 #[.val (.int p0), .val (.int p1), .val (.int p2), .val (.int ((p0 &&& (2147483647 : Int32)) % (5 : Int32))), .val (.int (p1 &&& (3 : Int32))), .val (.int z5), .val (.ref w_AES_CBC_PKCS5PADDING), .unset, .unset, .unset] [(.int (1 : Int32))]) _
    refine XS.goto X2.here hx rfl (pc0 := 84) (pc' := 88) rfl (hb hby at_84) (by decide) (by decide) ?_
    show Sp p e below T2 (mkF m 88 #[.val (.int p0), .val (.int p1), .val (.int p2), .val (.int ((p0 &&& (2147483647 : Int32)) % (5 : Int32))), .val (.int (p1 &&& (3 : Int32))), .val (.int z5), .val (.ref w_AES_CBC_PKCS5PADDING), .unset, .unset, .unset] [(.int (1 : Int32))]) _
    refine XS.istore X2.here hx rfl (hb hby at_88) rfl (l' := #[.val (.int p0), .val (.int p1), .val (.int p2), .val (.int ((p0 &&& (2147483647 : Int32)) % (5 : Int32))), .val (.int (p1 &&& (3 : Int32))), .val (.int z5), .val (.ref w_AES_CBC_PKCS5PADDING), .val (.int (1 : Int32)), .unset, .unset]) rfl ?_
    show Sp p e below T2 (mkF m 90 #[.val (.int p0), .val (.int p1), .val (.int p2), .val (.int ((p0 &&& (2147483647 : Int32)) % (5 : Int32))), .val (.int (p1 &&& (3 : Int32))), .val (.int z5), .val (.ref w_AES_CBC_PKCS5PADDING), .val (.int (1 : Int32)), .unset, .unset] []) _
    refine XS.iloadN X2.here hx rfl (hb hby at_90) rfl ?_
    show Sp p e below T2 (mkF m 91 #[.val (.int p0), .val (.int p1), .val (.int p2), .val (.int ((p0 &&& (2147483647 : Int32)) % (5 : Int32))), .val (.int (p1 &&& (3 : Int32))), .val (.int z5), .val (.ref w_AES_CBC_PKCS5PADDING), .val (.int (1 : Int32)), .unset, .unset] [(.int ((p0 &&& (2147483647 : Int32)) % (5 : Int32)))]) _
    refine XS.iconst X2.here hx rfl (hb hby at_91) ?_
    show Sp p e below T2 (mkF m 92 #[.val (.int p0), .val (.int p1), .val (.int p2), .val (.int ((p0 &&& (2147483647 : Int32)) % (5 : Int32))), .val (.int (p1 &&& (3 : Int32))), .val (.int z5), .val (.ref w_AES_CBC_PKCS5PADDING), .val (.int (1 : Int32)), .unset, .unset] [(.int (1 : Int32)), (.int ((p0 &&& (2147483647 : Int32)) % (5 : Int32)))]) _
    refine XS.icmpNo X2.here hx rfl (hb hby at_92) rfl (feq hc3).1 ?_
    show Sp p e below T2 (mkF m 95 #[.val (.int p0), .val (.int p1), .val (.int p2), .val (.int ((p0 &&& (2147483647 : Int32)) % (5 : Int32))), .val (.int (p1 &&& (3 : Int32))), .val (.int z5), .val (.ref w_AES_CBC_PKCS5PADDING), .val (.int (1 : Int32)), .unset, .unset] []) _
    refine XS.iloadN X2.here hx rfl (hb hby at_95) rfl ?_
    show Sp p e below T2 (mkF m 96 #[.val (.int p0), .val (.int p1), .val (.int p2), .val (.int ((p0 &&& (2147483647 : Int32)) % (5 : Int32))), .val (.int (p1 &&& (3 : Int32))), .val (.int z5), .val (.ref w_AES_CBC_PKCS5PADDING), .val (.int (1 : Int32)), .unset, .unset] [(.int ((p0 &&& (2147483647 : Int32)) % (5 : Int32)))]) _
    refine XS.iconst X2.here hx rfl (hb hby at_96) ?_
    show Sp p e below T2 (mkF m 97 #[.val (.int p0), .val (.int p1), .val (.int p2), .val (.int ((p0 &&& (2147483647 : Int32)) % (5 : Int32))), .val (.int (p1 &&& (3 : Int32))), .val (.int z5), .val (.ref w_AES_CBC_PKCS5PADDING), .val (.int (1 : Int32)), .unset, .unset] [(.int (2 : Int32)), (.int ((p0 &&& (2147483647 : Int32)) % (5 : Int32)))]) _
    refine XS.icmpNo X2.here hx rfl (hb hby at_97) rfl (feq hc4).1 ?_
    show Sp p e below T2 (mkF m 100 #[.val (.int p0), .val (.int p1), .val (.int p2), .val (.int ((p0 &&& (2147483647 : Int32)) % (5 : Int32))), .val (.int (p1 &&& (3 : Int32))), .val (.int z5), .val (.ref w_AES_CBC_PKCS5PADDING), .val (.int (1 : Int32)), .unset, .unset] []) _
    refine XS.iloadN X2.here hx rfl (hb hby at_100) rfl ?_
    show Sp p e below T2 (mkF m 101 #[.val (.int p0), .val (.int p1), .val (.int p2), .val (.int ((p0 &&& (2147483647 : Int32)) % (5 : Int32))), .val (.int (p1 &&& (3 : Int32))), .val (.int z5), .val (.ref w_AES_CBC_PKCS5PADDING), .val (.int (1 : Int32)), .unset, .unset] [(.int ((p0 &&& (2147483647 : Int32)) % (5 : Int32)))]) _
    refine XS.iconst X2.here hx rfl (hb hby at_101) ?_
    show Sp p e below T2 (mkF m 102 #[.val (.int p0), .val (.int p1), .val (.int p2), .val (.int ((p0 &&& (2147483647 : Int32)) % (5 : Int32))), .val (.int (p1 &&& (3 : Int32))), .val (.int z5), .val (.ref w_AES_CBC_PKCS5PADDING), .val (.int (1 : Int32)), .unset, .unset] [(.int (4 : Int32)), (.int ((p0 &&& (2147483647 : Int32)) % (5 : Int32)))]) _
    refine XS.icmpNo X2.here hx rfl (hb hby at_102) rfl (teq (own_eq (n := 4) rfl (by have r := (own_rem (x := p0) (m := (2147483647 : Int32)) (M := 2147483647) rfl (by decide) (y := (5 : Int32)) (d := 5) rfl (by decide)); have q0 := own_nei hc2 (n := 0) rfl; have q1 := own_nei hc3 (n := 1) rfl; have q2 := own_nei hc4 (n := 2) rfl; have q3 := own_nei hc5 (n := 3) rfl; omega) : ((p0 &&& (2147483647 : Int32)) % (5 : Int32)) = (4 : Int32))).2 ?_
    show Sp p e below T2 (mkF m 105 #[.val (.int p0), .val (.int p1), .val (.int p2), .val (.int ((p0 &&& (2147483647 : Int32)) % (5 : Int32))), .val (.int (p1 &&& (3 : Int32))), .val (.int z5), .val (.ref w_AES_CBC_PKCS5PADDING), .val (.int (1 : Int32)), .unset, .unset] []) _
    refine XS.iconst X2.here hx rfl (hb hby at_105) ?_
    show Sp p e below T2 (mkF m 106 #[.val (.int p0), .val (.int p1), .val (.int p2), .val (.int ((p0 &&& (2147483647 : Int32)) % (5 : Int32))), .val (.int (p1 &&& (3 : Int32))), .val (.int z5), .val (.ref w_AES_CBC_PKCS5PADDING), .val (.int (1 : Int32)), .unset, .unset] [(.int (1 : Int32))]) _
    refine XS.goto X2.here hx rfl (pc0 := 106) (pc' := 110) rfl (hb hby at_106) (by decide) (by decide) ?_
    show Sp p e below T2 (mkF m 110 #[.val (.int p0), .val (.int p1), .val (.int p2), .val (.int ((p0 &&& (2147483647 : Int32)) % (5 : Int32))), .val (.int (p1 &&& (3 : Int32))), .val (.int z5), .val (.ref w_AES_CBC_PKCS5PADDING), .val (.int (1 : Int32)), .unset, .unset] [(.int (1 : Int32))]) _
    refine XS.istore X2.here hx rfl (hb hby at_110) rfl (l' := #[.val (.int p0), .val (.int p1), .val (.int p2), .val (.int ((p0 &&& (2147483647 : Int32)) % (5 : Int32))), .val (.int (p1 &&& (3 : Int32))), .val (.int z5), .val (.ref w_AES_CBC_PKCS5PADDING), .val (.int (1 : Int32)), .val (.int (1 : Int32)), .unset]) rfl ?_
    show Sp p e below T2 (mkF m 112 #[.val (.int p0), .val (.int p1), .val (.int p2), .val (.int ((p0 &&& (2147483647 : Int32)) % (5 : Int32))), .val (.int (p1 &&& (3 : Int32))), .val (.int z5), .val (.ref w_AES_CBC_PKCS5PADDING), .val (.int (1 : Int32)), .val (.int (1 : Int32)), .unset] []) _
    refine XS.iload X2.here hx rfl (hb hby at_112) rfl ?_
    show Sp p e below T2 (mkF m 114 #[.val (.int p0), .val (.int p1), .val (.int p2), .val (.int ((p0 &&& (2147483647 : Int32)) % (5 : Int32))), .val (.int (p1 &&& (3 : Int32))), .val (.int z5), .val (.ref w_AES_CBC_PKCS5PADDING), .val (.int (1 : Int32)), .val (.int (1 : Int32)), .unset] [(.int z5)]) _
    refine XS.bipush X2.here hx rfl (hb hby at_114) ?_
    show Sp p e below T2 (mkF m 116 #[.val (.int p0), .val (.int p1), .val (.int p2), .val (.int ((p0 &&& (2147483647 : Int32)) % (5 : Int32))), .val (.int (p1 &&& (3 : Int32))), .val (.int z5), .val (.ref w_AES_CBC_PKCS5PADDING), .val (.int (1 : Int32)), .val (.int (1 : Int32)), .unset] [(.int (16 : Int32)), (.int z5)]) _
    refine XS.icmpYes X2.here hx rfl (pc0 := 116) (pc' := 124) rfl (hb hby at_116) rfl (feq hc6).2 (by decide) (by decide) ?_
    show Sp p e below T2 (mkF m 124 #[.val (.int p0), .val (.int p1), .val (.int p2), .val (.int ((p0 &&& (2147483647 : Int32)) % (5 : Int32))), .val (.int (p1 &&& (3 : Int32))), .val (.int z5), .val (.ref w_AES_CBC_PKCS5PADDING), .val (.int (1 : Int32)), .val (.int (1 : Int32)), .unset] []) _
    refine XS.iload X2.here hx rfl (hb hby at_124) rfl ?_
    show Sp p e below T2 (mkF m 126 #[.val (.int p0), .val (.int p1), .val (.int p2), .val (.int ((p0 &&& (2147483647 : Int32)) % (5 : Int32))), .val (.int (p1 &&& (3 : Int32))), .val (.int z5), .val (.ref w_AES_CBC_PKCS5PADDING), .val (.int (1 : Int32)), .val (.int (1 : Int32)), .unset] [(.int z5)]) _
    refine XS.bipush X2.here hx rfl (hb hby at_126) ?_
    show Sp p e below T2 (mkF m 128 #[.val (.int p0), .val (.int p1), .val (.int p2), .val (.int ((p0 &&& (2147483647 : Int32)) % (5 : Int32))), .val (.int (p1 &&& (3 : Int32))), .val (.int z5), .val (.ref w_AES_CBC_PKCS5PADDING), .val (.int (1 : Int32)), .val (.int (1 : Int32)), .unset] [(.int (32 : Int32)), (.int z5)]) _
    refine XS.icmpYes X2.here hx rfl (pc0 := 128) (pc' := 140) rfl (hb hby at_128) rfl (feq hc7).2 (by decide) (by decide) ?_
    show Sp p e below T2 (mkF m 140 #[.val (.int p0), .val (.int p1), .val (.int p2), .val (.int ((p0 &&& (2147483647 : Int32)) % (5 : Int32))), .val (.int (p1 &&& (3 : Int32))), .val (.int z5), .val (.ref w_AES_CBC_PKCS5PADDING), .val (.int (1 : Int32)), .val (.int (1 : Int32)), .unset] []) _
    refine XS.iconst X2.here hx rfl (hb hby at_140) ?_
    show Sp p e below T2 (mkF m 141 #[.val (.int p0), .val (.int p1), .val (.int p2), .val (.int ((p0 &&& (2147483647 : Int32)) % (5 : Int32))), .val (.int (p1 &&& (3 : Int32))), .val (.int z5), .val (.ref w_AES_CBC_PKCS5PADDING), .val (.int (1 : Int32)), .val (.int (1 : Int32)), .unset] [(.int (0 : Int32))]) _
    refine XS.istore X2.here hx rfl (hb hby at_141) rfl (l' := #[.val (.int p0), .val (.int p1), .val (.int p2), .val (.int ((p0 &&& (2147483647 : Int32)) % (5 : Int32))), .val (.int (p1 &&& (3 : Int32))), .val (.int z5), .val (.ref w_AES_CBC_PKCS5PADDING), .val (.int (1 : Int32)), .val (.int (1 : Int32)), .val (.int (0 : Int32))]) rfl ?_
    show Sp p e below T2 (mkF m 143 #[.val (.int p0), .val (.int p1), .val (.int p2), .val (.int ((p0 &&& (2147483647 : Int32)) % (5 : Int32))), .val (.int (p1 &&& (3 : Int32))), .val (.int z5), .val (.ref w_AES_CBC_PKCS5PADDING), .val (.int (1 : Int32)), .val (.int (1 : Int32)), .val (.int (0 : Int32))] []) _
    refine XS.aload X2.here hx rfl (hb hby at_143) rfl rfl ?_
    show Sp p e below T2 (mkF m 145 #[.val (.int p0), .val (.int p1), .val (.int p2), .val (.int ((p0 &&& (2147483647 : Int32)) % (5 : Int32))), .val (.int (p1 &&& (3 : Int32))), .val (.int z5), .val (.ref w_AES_CBC_PKCS5PADDING), .val (.int (1 : Int32)), .val (.int (1 : Int32)), .val (.int (0 : Int32))] [(.ref w_AES_CBC_PKCS5PADDING)]) _
    refine XS.iload X2.here hx rfl (hb hby at_145) rfl ?_
    show Sp p e below T2 (mkF m 147 #[.val (.int p0), .val (.int p1), .val (.int p2), .val (.int ((p0 &&& (2147483647 : Int32)) % (5 : Int32))), .val (.int (p1 &&& (3 : Int32))), .val (.int z5), .val (.ref w_AES_CBC_PKCS5PADDING), .val (.int (1 : Int32)), .val (.int (1 : Int32)), .val (.int (0 : Int32))] [(.int z5), (.ref w_AES_CBC_PKCS5PADDING)]) _
    refine st3.trans ?_
    show Sp p e below T3 (mkF m 150 #[.val (.int p0), .val (.int p1), .val (.int p2), .val (.int ((p0 &&& (2147483647 : Int32)) % (5 : Int32))), .val (.int (p1 &&& (3 : Int32))), .val (.int z5), .val (.ref w_AES_CBC_PKCS5PADDING), .val (.int (1 : Int32)), .val (.int (1 : Int32)), .val (.int (0 : Int32))] [(.int (0 : Int32))]) _
    refine XS.iload X3.here hx rfl (hb hby at_150) rfl ?_
    show Sp p e below T3 (mkF m 152 #[.val (.int p0), .val (.int p1), .val (.int p2), .val (.int ((p0 &&& (2147483647 : Int32)) % (5 : Int32))), .val (.int (p1 &&& (3 : Int32))), .val (.int z5), .val (.ref w_AES_CBC_PKCS5PADDING), .val (.int (1 : Int32)), .val (.int (1 : Int32)), .val (.int (0 : Int32))] [(.int (0 : Int32)), (.int (0 : Int32))]) _
    refine XS.icmpNo X3.here hx rfl (hb hby at_152) rfl (teq (by decide : (0 : Int32) = (0 : Int32))).2 ?_
    show Sp p e below T3 (mkF m 155 #[.val (.int p0), .val (.int p1), .val (.int p2), .val (.int ((p0 &&& (2147483647 : Int32)) % (5 : Int32))), .val (.int (p1 &&& (3 : Int32))), .val (.int z5), .val (.ref w_AES_CBC_PKCS5PADDING), .val (.int (1 : Int32)), .val (.int (1 : Int32)), .val (.int (0 : Int32))] []) _
    refine XS.iconst X3.here hx rfl (hb hby at_155) ?_
    show Sp p e below T3 (mkF m 156 #[.val (.int p0), .val (.int p1), .val (.int p2), .val (.int ((p0 &&& (2147483647 : Int32)) % (5 : Int32))), .val (.int (p1 &&& (3 : Int32))), .val (.int z5), .val (.ref w_AES_CBC_PKCS5PADDING), .val (.int (1 : Int32)), .val (.int (1 : Int32)), .val (.int (0 : Int32))] [(.int (1 : Int32))]) _
    refine XS.goto X3.here hx rfl (pc0 := 156) (pc' := 160) rfl (hb hby at_156) (by decide) (by decide) ?_
    show Sp p e below T3 (mkF m 160 #[.val (.int p0), .val (.int p1), .val (.int p2), .val (.int ((p0 &&& (2147483647 : Int32)) % (5 : Int32))), .val (.int (p1 &&& (3 : Int32))), .val (.int z5), .val (.ref w_AES_CBC_PKCS5PADDING), .val (.int (1 : Int32)), .val (.int (1 : Int32)), .val (.int (0 : Int32))] [(.int (1 : Int32))]) _
    exact retN X3 hx (t := .boolean) Bd.returns (by simp) (hb hby at_160) hr
  · skip
    exact ⟨rfl, N3⟩
def Q20 (Z : State) (w_AES_128_GCM : Addr) (w_AES_256_GCM : Addr) (w_AES_CBC_PKCS5PADDING : Addr) (w_AES_128_CBC : Addr) (w_AES_GCM_NOPADDING : Addr) (kl_AES_128_GCM : Addr) (kl_AES_256_GCM : Addr) (kl_AES_CBC_PKCS5PADDING : Addr) (kl_AES_128_CBC : Addr) (kl_AES_GCM_NOPADDING : Addr) (k_kl_AES_128_GCM : ClassId) (k_kl_AES_256_GCM : ClassId) (k_kl_AES_CBC_PKCS5PADDING : ClassId) (k_kl_AES_128_CBC : ClassId) (k_kl_AES_GCM_NOPADDING : ClassId) (p1 : Int32) (h0 : Heap) (n0 : Nat) (v : Option Value) (h : Heap) (L : List Loc) : Prop := v = some (.int (0 : Int32)) ∧ Fr n0 L ∧ h = h0
set_option maxRecDepth 65536 in
set_option maxHeartbeats 40000000 in
theorem rm20 (l : Launch) (Z : State) (a0 : Array Value) (hw : ∀ d ∈ tables_1, d.before a0 Z = true) (ws : List Jvm.Cond) (w_AES_128_GCM w_AES_256_GCM w_AES_CBC_PKCS5PADDING w_AES_128_CBC w_AES_GCM_NOPADDING kl_AES_128_GCM kl_AES_256_GCM kl_AES_CBC_PKCS5PADDING kl_AES_128_CBC kl_AES_GCM_NOPADDING : Addr) (k_kl_AES_128_GCM : ClassId) (k_kl_AES_256_GCM : ClassId) (k_kl_AES_CBC_PKCS5PADDING : ClassId) (k_kl_AES_128_CBC : ClassId) (k_kl_AES_GCM_NOPADDING : ClassId) (hp : Perm Z w_AES_128_GCM w_AES_256_GCM w_AES_CBC_PKCS5PADDING w_AES_128_CBC w_AES_GCM_NOPADDING kl_AES_128_GCM kl_AES_256_GCM kl_AES_CBC_PKCS5PADDING kl_AES_128_CBC kl_AES_GCM_NOPADDING k_kl_AES_128_GCM k_kl_AES_256_GCM k_kl_AES_CBC_PKCS5PADDING k_kl_AES_128_CBC k_kl_AES_GCM_NOPADDING) (p1 : Int32) (h0 : Heap) (n0 : Nat) (O0 : Old Z n0 h0) (hc1 : ¬ (p1 = (16 : Int32))) :
    MetFree l y1 (head1 (Jvm.Cond.code y1 prog_31_method_7_code 6 (some .boolean) :: ws) ({ frames := 0, cells := 0, slots := 0, locals := 0 } : Room)) (fun a U => a = #[(.ref w_AES_128_CBC), (.int p1)] ∧ Z.Warmed39 U.vm ∧ U.heap = h0) (fun _ _ _ _ _ => True) (fun _ U o U' => ∃ v L, o = .returned v ∧ Q20 Z w_AES_128_GCM w_AES_256_GCM w_AES_CBC_PKCS5PADDING w_AES_128_CBC w_AES_GCM_NOPADDING kl_AES_128_GCM kl_AES_256_GCM kl_AES_CBC_PKCS5PADDING kl_AES_128_CBC kl_AES_GCM_NOPADDING k_kl_AES_128_GCM k_kl_AES_256_GCM k_kl_AES_CBC_PKCS5PADDING k_kl_AES_128_CBC k_kl_AES_GCM_NOPADDING p1 h0 n0 v U'.heap L ∧ FrameEnd U o U' L ({ frames := 0, cells := 0, slots := 0, locals := 0 } : Room).cells ({ frames := 0, cells := 0, slots := 0, locals := 0 } : Room).slots) := by
  refine MetFree.of_bodySF (plainFor_of_name pn_2) hisR ?_
  intro p e s m args below meth c s₁ Bd hml0 hP hK
  obtain ⟨rfl, hZ, hh⟩ := hP
  have hx := Bd.exec
  have hby := Bd.bytes
  have hml : c.maxLocals = 6 := hml0
  have hown : s.vm.findClass "com/example/cloakfield/cloakfield/crypto/EncryptionAlgorithm" = some m.cls := findClass_of_methodNamed Bd.named
  have hnm := (name_of_methodNamed Bd.named Bd.method).1
  have X0 : Stand p l e ({ frames := 0, cells := 0, slots := 0, locals := 0 } : Room) s m #[(.ref w_AES_128_CBC), (.int p1)] below meth c s₁ [] 0 0 := Stand.of_body Bd
  have e0 : s₁.heap = h0 := by rw [← hh, Bd.state]; rfl
  have N0 := Fr.nil n0
  have hp' := hp
  obtain ⟨S_w_AES_128_GCM, E_w_AES_128_GCM, S_w_AES_256_GCM, E_w_AES_256_GCM, S_w_AES_CBC_PKCS5PADDING, E_w_AES_CBC_PKCS5PADDING, S_w_AES_128_CBC, E_w_AES_128_CBC, S_w_AES_GCM_NOPADDING, E_w_AES_GCM_NOPADDING, F_keyLengths_w_AES_128_GCM, V_kl_AES_128_GCM, F_keyLengths_w_AES_256_GCM, V_kl_AES_256_GCM, F_keyLengths_w_AES_CBC_PKCS5PADDING, V_kl_AES_CBC_PKCS5PADDING, F_keyLengths_w_AES_128_CBC, V_kl_AES_128_CBC, F_keyLengths_w_AES_GCM_NOPADDING, V_kl_AES_GCM_NOPADDING⟩ := hp'
  have pre0 : ∀ t, Steps p.tables e below (s₁.setTop (mkF m 0 #[.val (.ref w_AES_128_CBC), .val (.int p1), .unset, .unset, .unset, .unset] [])) t → Steps p.tables e below (s₁.setTop (entryFrame m #[(.ref w_AES_128_CBC), (.int p1)] 6)) t := fun t k => castTop (ef_2_0 m w_AES_128_CBC p1) k
  obtain ⟨T1, X1, e1, st1⟩ := getF X0 hx hZ hown (host := "") (Or.inl (hw _ (List.mem_of_getElem? (i := 13) rfl))) Via.refl e0 (F_keyLengths_w_AES_128_CBC.ext O0.2) (g := (mkF m 1 #[.val (.ref w_AES_128_CBC), .val (.int p1), .unset, .unset, .unset, .unset] [(.ref w_AES_128_CBC)])) rfl rfl (hb hby d2_1)
  obtain ⟨cl2, Ar2, -, S2, Nn2, -, -⟩ := (V_kl_AES_128_CBC.ext O0.2)
  obtain ⟨cl3, Ar3, -, S3, -, H3, -⟩ := (V_kl_AES_128_CBC.ext O0.2)
  have hin3 : ¬ ((0 : Int32) < 0 ∨ cl3.slots.size ≤ ((0 : Int32)).toNatClampNeg) := inb_of S3 ⟨by decide, by decide⟩
  have hat3 : cl3.slots[((0 : Int32)).toNatClampNeg]? = some (.int (16 : Int32)) := H3.at hin3 rfl
  obtain ⟨fs, hr, hrun, hended, hW, hsame⟩ := X1.leave (v := some (.int (0 : Int32))) (fun h => by rw [Bd.returns] at h; cases h)
  refine ⟨_, _, pre0 _ ?_, hrun, hended, _, _, rfl, ?_, ⟨_, rfl⟩, hW, hsame.mono (by decide) (by decide)⟩
  · show Sp p e below s₁ (mkF m 0 #[.val (.ref w_AES_128_CBC), .val (.int p1), .unset, .unset, .unset, .unset] []) _
    refine XS.aloadN X0.here hx rfl (hb hby d2_0) rfl rfl ?_
    show Sp p e below s₁ (mkF m 1 #[.val (.ref w_AES_128_CBC), .val (.int p1), .unset, .unset, .unset, .unset] [(.ref w_AES_128_CBC)]) _
    refine st1 _ ?_
    show Sp p e below T1 (mkF m 4 #[.val (.ref w_AES_128_CBC), .val (.int p1), .unset, .unset, .unset, .unset] [(.ref kl_AES_128_CBC)]) _
    refine XS.astoreN X1.here hx rfl (hb hby d2_4) rfl rfl (l' := #[.val (.ref w_AES_128_CBC), .val (.int p1), .val (.ref kl_AES_128_CBC), .unset, .unset, .unset]) rfl ?_
    show Sp p e below T1 (mkF m 5 #[.val (.ref w_AES_128_CBC), .val (.int p1), .val (.ref kl_AES_128_CBC), .unset, .unset, .unset] []) _
    refine XS.aloadN X1.here hx rfl (hb hby d2_5) rfl rfl ?_
    show Sp p e below T1 (mkF m 6 #[.val (.ref w_AES_128_CBC), .val (.int p1), .val (.ref kl_AES_128_CBC), .unset, .unset, .unset] [(.ref kl_AES_128_CBC)]) _
    refine X1.arraylength hx (by rw [e1]; exact Ar2.1) (State.isArrayOf_alike hZ.alike Ar2.2.1) (g := (mkF m 6 #[.val (.ref w_AES_128_CBC), .val (.int p1), .val (.ref kl_AES_128_CBC), .unset, .unset, .unset] [(.ref kl_AES_128_CBC)])) rfl rfl (hb hby d2_6) _ ?_
    rw [len_of S2 Nn2]
    show Sp p e below T1 (mkF m 7 #[.val (.ref w_AES_128_CBC), .val (.int p1), .val (.ref kl_AES_128_CBC), .unset, .unset, .unset] [(.int (1 : Int32))]) _
    refine XS.istoreN X1.here hx rfl (hb hby d2_7) rfl (l' := #[.val (.ref w_AES_128_CBC), .val (.int p1), .val (.ref kl_AES_128_CBC), .val (.int (1 : Int32)), .unset, .unset]) rfl ?_
    show Sp p e below T1 (mkF m 8 #[.val (.ref w_AES_128_CBC), .val (.int p1), .val (.ref kl_AES_128_CBC), .val (.int (1 : Int32)), .unset, .unset] []) _
    refine XS.iconst X1.here hx rfl (hb hby d2_8) ?_
    show Sp p e below T1 (mkF m 9 #[.val (.ref w_AES_128_CBC), .val (.int p1), .val (.ref kl_AES_128_CBC), .val (.int (1 : Int32)), .unset, .unset] [(.int (0 : Int32))]) _
    refine XS.istore X1.here hx rfl (hb hby d2_9) rfl (l' := #[.val (.ref w_AES_128_CBC), .val (.int p1), .val (.ref kl_AES_128_CBC), .val (.int (1 : Int32)), .val (.int (0 : Int32)), .unset]) rfl ?_
    show Sp p e below T1 (mkF m 11 #[.val (.ref w_AES_128_CBC), .val (.int p1), .val (.ref kl_AES_128_CBC), .val (.int (1 : Int32)), .val (.int (0 : Int32)), .unset] []) _
    refine XS.iload X1.here hx rfl (hb hby d2_11) rfl ?_
    show Sp p e below T1 (mkF m 13 #[.val (.ref w_AES_128_CBC), .val (.int p1), .val (.ref kl_AES_128_CBC), .val (.int (1 : Int32)), .val (.int (0 : Int32)), .unset] [(.int (0 : Int32))]) _
    refine XS.iloadN X1.here hx rfl (hb hby d2_13) rfl ?_
    show Sp p e below T1 (mkF m 14 #[.val (.ref w_AES_128_CBC), .val (.int p1), .val (.ref kl_AES_128_CBC), .val (.int (1 : Int32)), .val (.int (0 : Int32)), .unset] [(.int (1 : Int32)), (.int (0 : Int32))]) _
    refine XS.icmpNo X1.here hx rfl (hb hby d2_14) rfl (tlt (by decide : (0 : Int32) < (1 : Int32))).2.1 ?_
    show Sp p e below T1 (mkF m 17 #[.val (.ref w_AES_128_CBC), .val (.int p1), .val (.ref kl_AES_128_CBC), .val (.int (1 : Int32)), .val (.int (0 : Int32)), .unset] []) _
    refine XS.aloadN X1.here hx rfl (hb hby d2_17) rfl rfl ?_
    show Sp p e below T1 (mkF m 18 #[.val (.ref w_AES_128_CBC), .val (.int p1), .val (.ref kl_AES_128_CBC), .val (.int (1 : Int32)), .val (.int (0 : Int32)), .unset] [(.ref kl_AES_128_CBC)]) _
    refine XS.iload X1.here hx rfl (hb hby d2_18) rfl ?_
    show Sp p e below T1 (mkF m 20 #[.val (.ref w_AES_128_CBC), .val (.int p1), .val (.ref kl_AES_128_CBC), .val (.int (1 : Int32)), .val (.int (0 : Int32)), .unset] [(.int (0 : Int32)), (.ref kl_AES_128_CBC)]) _
    refine X1.iaload hx (j := (0 : Int32)) (v := (.int (16 : Int32))) (by rw [e1]; exact Ar3.1) (State.isArrayOf_alike hZ.alike Ar3.2.1) Ar3.2.2 hin3 hat3 (g := (mkF m 20 #[.val (.ref w_AES_128_CBC), .val (.int p1), .val (.ref kl_AES_128_CBC), .val (.int (1 : Int32)), .val (.int (0 : Int32)), .unset] [(.int (0 : Int32)), (.ref kl_AES_128_CBC)])) rfl rfl (hb hby d2_20) _ ?_
    show Sp p e below T1 (mkF m 21 #[.val (.ref w_AES_128_CBC), .val (.int p1), .val (.ref kl_AES_128_CBC), .val (.int (1 : Int32)), .val (.int (0 : Int32)), .unset] [(.int (16 : Int32))]) _
    refine XS.istore X1.here hx rfl (hb hby d2_21) rfl (l' := #[.val (.ref w_AES_128_CBC), .val (.int p1), .val (.ref kl_AES_128_CBC), .val (.int (1 : Int32)), .val (.int (0 : Int32)), .val (.int (16 : Int32))]) rfl ?_
    show Sp p e below T1 (mkF m 23 #[.val (.ref w_AES_128_CBC), .val (.int p1), .val (.ref kl_AES_128_CBC), .val (.int (1 : Int32)), .val (.int (0 : Int32)), .val (.int (16 : Int32))] []) _
    refine XS.iload X1.here hx rfl (hb hby d2_23) rfl ?_
    show Sp p e below T1 (mkF m 25 #[.val (.ref w_AES_128_CBC), .val (.int p1), .val (.ref kl_AES_128_CBC), .val (.int (1 : Int32)), .val (.int (0 : Int32)), .val (.int (16 : Int32))] [(.int (16 : Int32))]) _
    refine XS.iloadN X1.here hx rfl (hb hby d2_25) rfl ?_
    show Sp p e below T1 (mkF m 26 #[.val (.ref w_AES_128_CBC), .val (.int p1), .val (.ref kl_AES_128_CBC), .val (.int (1 : Int32)), .val (.int (0 : Int32)), .val (.int (16 : Int32))] [(.int p1), (.int (16 : Int32))]) _
    refine XS.icmpYes X1.here hx rfl (pc0 := 26) (pc' := 31) rfl (hb hby d2_26) rfl (feq (fun q => hc1 (Eq.symm q) : ¬ ((16 : Int32) = p1))).2 (by decide) (by decide) ?_
    show Sp p e below T1 (mkF m 31 #[.val (.ref w_AES_128_CBC), .val (.int p1), .val (.ref kl_AES_128_CBC), .val (.int (1 : Int32)), .val (.int (0 : Int32)), .val (.int (16 : Int32))] []) _
    refine XS.iinc X1.here hx rfl (hb hby d2_31) rfl (l' := #[.val (.ref w_AES_128_CBC), .val (.int p1), .val (.ref kl_AES_128_CBC), .val (.int (1 : Int32)), .val (.int ((0 : Int32) + (1 : Int32))), .val (.int (16 : Int32))]) rfl ?_
    show Sp p e below T1 (mkF m 34 #[.val (.ref w_AES_128_CBC), .val (.int p1), .val (.ref kl_AES_128_CBC), .val (.int (1 : Int32)), .val (.int ((0 : Int32) + (1 : Int32))), .val (.int (16 : Int32))] []) _
    refine XS.goto X1.here hx rfl (pc0 := 34) (pc' := 11) rfl (hb hby d2_34) (by decide) (by decide) ?_
    show Sp p e below T1 (mkF m 11 #[.val (.ref w_AES_128_CBC), .val (.int p1), .val (.ref kl_AES_128_CBC), .val (.int (1 : Int32)), .val (.int ((0 : Int32) + (1 : Int32))), .val (.int (16 : Int32))] []) _
    refine XS.iload X1.here hx rfl (hb hby d2_11) rfl ?_
    show Sp p e below T1 (mkF m 13 #[.val (.ref w_AES_128_CBC), .val (.int p1), .val (.ref kl_AES_128_CBC), .val (.int (1 : Int32)), .val (.int ((0 : Int32) + (1 : Int32))), .val (.int (16 : Int32))] [(.int ((0 : Int32) + (1 : Int32)))]) _
    refine XS.iloadN X1.here hx rfl (hb hby d2_13) rfl ?_
    show Sp p e below T1 (mkF m 14 #[.val (.ref w_AES_128_CBC), .val (.int p1), .val (.ref kl_AES_128_CBC), .val (.int (1 : Int32)), .val (.int ((0 : Int32) + (1 : Int32))), .val (.int (16 : Int32))] [(.int (1 : Int32)), (.int ((0 : Int32) + (1 : Int32)))]) _
    refine XS.icmpYes X1.here hx rfl (pc0 := 14) (pc' := 37) rfl (hb hby d2_14) rfl (flt (by decide : ¬ (((0 : Int32) + (1 : Int32)) < (1 : Int32)))).2.1 (by decide) (by decide) ?_
    show Sp p e below T1 (mkF m 37 #[.val (.ref w_AES_128_CBC), .val (.int p1), .val (.ref kl_AES_128_CBC), .val (.int (1 : Int32)), .val (.int ((0 : Int32) + (1 : Int32))), .val (.int (16 : Int32))] []) _
    refine XS.iconst X1.here hx rfl (hb hby d2_37) ?_
    show Sp p e below T1 (mkF m 38 #[.val (.ref w_AES_128_CBC), .val (.int p1), .val (.ref kl_AES_128_CBC), .val (.int (1 : Int32)), .val (.int ((0 : Int32) + (1 : Int32))), .val (.int (16 : Int32))] [(.int (0 : Int32))]) _
    exact retN X1 hx (t := .boolean) Bd.returns (by simp) (hb hby d2_38) hr
  · show Q20 Z w_AES_128_GCM w_AES_256_GCM w_AES_CBC_PKCS5PADDING w_AES_128_CBC w_AES_GCM_NOPADDING kl_AES_128_GCM kl_AES_256_GCM kl_AES_CBC_PKCS5PADDING kl_AES_128_CBC kl_AES_GCM_NOPADDING k_kl_AES_128_GCM k_kl_AES_256_GCM k_kl_AES_CBC_PKCS5PADDING k_kl_AES_128_CBC k_kl_AES_GCM_NOPADDING p1 h0 n0 _ T1.heap _
    rw [e1]
    exact ⟨rfl, N0, rfl⟩
set_option maxRecDepth 65536 in
set_option maxHeartbeats 40000000 in
theorem rm21 (l : Launch) (Z : State) (a0 : Array Value) (hw : ∀ d ∈ tables_1, d.before a0 Z = true) (ws : List Jvm.Cond) (w_AES_128_GCM w_AES_256_GCM w_AES_CBC_PKCS5PADDING w_AES_128_CBC w_AES_GCM_NOPADDING kl_AES_128_GCM kl_AES_256_GCM kl_AES_CBC_PKCS5PADDING kl_AES_128_CBC kl_AES_GCM_NOPADDING : Addr) (k_kl_AES_128_GCM : ClassId) (k_kl_AES_256_GCM : ClassId) (k_kl_AES_CBC_PKCS5PADDING : ClassId) (k_kl_AES_128_CBC : ClassId) (k_kl_AES_GCM_NOPADDING : ClassId) (hp : Perm Z w_AES_128_GCM w_AES_256_GCM w_AES_CBC_PKCS5PADDING w_AES_128_CBC w_AES_GCM_NOPADDING kl_AES_128_GCM kl_AES_256_GCM kl_AES_CBC_PKCS5PADDING kl_AES_128_CBC kl_AES_GCM_NOPADDING k_kl_AES_128_GCM k_kl_AES_256_GCM k_kl_AES_CBC_PKCS5PADDING k_kl_AES_128_CBC k_kl_AES_GCM_NOPADDING) (p0 : Int32) (p1 : Int32) (p2 : Int32) (z5 : Int32) (h0 : Heap) (n0 : Nat) (O0 : Old Z n0 h0) (hcut : Cut_0_12 p0 p1 p2 ((p0 &&& (2147483647 : Int32)) % (5 : Int32)) (p1 &&& (3 : Int32)) z5) (hc2 : ¬ (((p0 &&& (2147483647 : Int32)) % (5 : Int32)) = (0 : Int32))) (hc3 : ¬ (((p0 &&& (2147483647 : Int32)) % (5 : Int32)) = (1 : Int32))) (hc4 : ¬ (((p0 &&& (2147483647 : Int32)) % (5 : Int32)) = (2 : Int32))) (hc5 : ((p0 &&& (2147483647 : Int32)) % (5 : Int32)) = (3 : Int32)) (hc6 : ¬ (z5 = (16 : Int32))) (hc7 : z5 = (32 : Int32)) :
    MetFree l x (head1 (Jvm.Cond.code x code maxLocals ret :: ws) room_1) (fun a U => a = #[(.int p0), (.int p1), (.int p2)] ∧ Z.Warmed39 U.vm ∧ U.heap = h0) (fun _ _ _ _ _ => True) (fun _ U o U' => ∃ v L, o = .returned v ∧ (v = some (.int (1 : Int32)) ∧ Fr n0 L) ∧ FrameEnd U o U' L 0 0) := by
  refine MetFree.of_bodySF (plainFor_of_name pn_1) hisR ?_
  intro p e s m args below meth c s₁ Bd hml0 hP hK
  obtain ⟨rfl, hZ, hh⟩ := hP
  have hx := Bd.exec
  have hby := Bd.bytes
  have hml : c.maxLocals = 10 := hml0
  have hown : s.vm.findClass "com/example/cloakfield/cloakfield/crypto/EncryptionAlgorithmAcceptsKeyLengthPinLaw" = some m.cls := findClass_of_methodNamed Bd.named
  have hnm := (name_of_methodNamed Bd.named Bd.method).1
  have X0 : Stand p l e room_1 s m #[(.int p0), (.int p1), (.int p2)] below meth c s₁ [] 0 0 := Stand.of_body Bd
  have e0 : s₁.heap = h0 := by rw [← hh, Bd.state]; rfl
  have N0 := Fr.nil n0
  have hp' := hp
  obtain ⟨S_w_AES_128_GCM, E_w_AES_128_GCM, S_w_AES_256_GCM, E_w_AES_256_GCM, S_w_AES_CBC_PKCS5PADDING, E_w_AES_CBC_PKCS5PADDING, S_w_AES_128_CBC, E_w_AES_128_CBC, S_w_AES_GCM_NOPADDING, E_w_AES_GCM_NOPADDING, F_keyLengths_w_AES_128_GCM, V_kl_AES_128_GCM, F_keyLengths_w_AES_256_GCM, V_kl_AES_256_GCM, F_keyLengths_w_AES_CBC_PKCS5PADDING, V_kl_AES_CBC_PKCS5PADDING, F_keyLengths_w_AES_128_CBC, V_kl_AES_128_CBC, F_keyLengths_w_AES_GCM_NOPADDING, V_kl_AES_GCM_NOPADDING⟩ := hp'
  have pre0 : ∀ t, Steps p.tables e below (s₁.setTop (mkF m 0 #[.val (.int p0), .val (.int p1), .val (.int p2), .unset, .unset, .unset, .unset, .unset, .unset, .unset] [])) t → Steps p.tables e below (s₁.setTop (entryFrame m #[(.int p0), (.int p1), (.int p2)] maxLocals)) t := fun t k => castTop (ef_0_0 m p0 p1 p2) k
  have st1 := hcut X0 hx hZ hw hby hown
  obtain ⟨_, _, ⟨T2, L2, k2, n2⟩, -, X2, ⟨Lc2, hQ2, l2, y2, z2⟩, st2⟩ := Jvm.LawKit.callS X0 hx (y := y0) hown (mvT hZ (hw _ (List.mem_of_getElem? (i := 1) rfl))) (mvT hZ (hw _ (List.mem_of_getElem? (i := 2) rfl))) (mvT hZ (hw _ (List.mem_of_getElem? (i := 3) rfl))) (mvT hZ (hw _ (List.mem_of_getElem? (i := 4) rfl))) (by decide) (backOf (W := 0) (rm10 l Z a0 hw [] w_AES_128_GCM w_AES_256_GCM w_AES_CBC_PKCS5PADDING w_AES_128_CBC w_AES_GCM_NOPADDING kl_AES_128_GCM kl_AES_256_GCM kl_AES_CBC_PKCS5PADDING kl_AES_128_CBC kl_AES_GCM_NOPADDING k_kl_AES_128_GCM k_kl_AES_256_GCM k_kl_AES_CBC_PKCS5PADDING k_kl_AES_128_CBC k_kl_AES_GCM_NOPADDING hp ((p0 &&& (2147483647 : Int32)) % (5 : Int32)) h0 n0 O0 hc2 hc3 hc4 hc5) hZ (hw _ (List.mem_of_getElem? (i := 4) rfl)) (hw _ (List.mem_of_getElem? (i := 3) rfl)) (by decide) (by decide)) (g := (mkF m 59 #[.val (.int p0), .val (.int p1), .val (.int p2), .val (.int ((p0 &&& (2147483647 : Int32)) % (5 : Int32))), .val (.int (p1 &&& (3 : Int32))), .val (.int z5), .unset, .unset, .unset, .unset] [(.int ((p0 &&& (2147483647 : Int32)) % (5 : Int32)))])) rfl (by rw [hml]; rfl) (argsL := [(.int ((p0 &&& (2147483647 : Int32)) % (5 : Int32)))]) (rest := []) (lenOf pd_0 rfl) rfl (by show 2 * 0 + _ ≤ _; exact Nat.le_of_eq rfl) (hb hby at_59) (fun _ _ => ⟨rfl, e0, (by decide : 0 + 0 ≤ _), (by decide : 0 + 0 ≤ _)⟩)
  dsimp only [Pt.U, Pt.locs, Pt.cells, Pt.slots] at X2 l2 y2 z2 st2 hQ2
  subst l2 y2 z2
  obtain ⟨rfl, Nq2, eq2⟩ := hQ2
  have N2 := Fr.app N0 Nq2
  obtain ⟨cq3, kq3, q3a, q3b, q3c⟩ := isOf hZ eq2 (E_w_AES_128_CBC.ext O0.2)
  obtain ⟨_, _, ⟨T3, L3, k3, n3⟩, -, X3, ⟨Lc3, hQ3, l3, y3, z3⟩, st3⟩ := X2.virtualBack hx (y := y1) (z := y1) hown (mvT hZ (hw _ (List.mem_of_getElem? (i := 8) rfl))) (mvT hZ (hw _ (List.mem_of_getElem? (i := 9) rfl))) (notFace_of_selects (args := #[]) (mvT hZ (hw _ (List.mem_of_getElem? (i := 11) rfl)))) (mvT hZ (hw _ (List.mem_of_getElem? (i := 11) rfl))) (mvT hZ (hw _ (List.mem_of_getElem? (i := 10) rfl))) (by decide) (backOf (W := 0) (rm20 l Z a0 hw [] w_AES_128_GCM w_AES_256_GCM w_AES_CBC_PKCS5PADDING w_AES_128_CBC w_AES_GCM_NOPADDING kl_AES_128_GCM kl_AES_256_GCM kl_AES_CBC_PKCS5PADDING kl_AES_128_CBC kl_AES_GCM_NOPADDING k_kl_AES_128_GCM k_kl_AES_256_GCM k_kl_AES_CBC_PKCS5PADDING k_kl_AES_128_CBC k_kl_AES_GCM_NOPADDING hp z5 h0 n0 O0 hc6) hZ (hw _ (List.mem_of_getElem? (i := 12) rfl)) (hw _ (List.mem_of_getElem? (i := 6) rfl)) (by decide) (by decide)) q3a q3c (g := (mkF m 147 #[.val (.int p0), .val (.int p1), .val (.int p2), .val (.int ((p0 &&& (2147483647 : Int32)) % (5 : Int32))), .val (.int (p1 &&& (3 : Int32))), .val (.int z5), .val (.ref w_AES_128_CBC), .val (.int (1 : Int32)), .val (.int (0 : Int32)), .val (.int (0 : Int32))] [(.int z5), (.ref w_AES_128_CBC)])) rfl (by rw [hml]; rfl) (Steps.refl _) (argsL := [(.int z5)]) (rest := []) (lenOf pd_1 rfl) rfl (by show 2 * 0 + _ ≤ _; exact Nat.le_of_eq rfl) (hb hby at_147) (fun _ _ => ⟨rfl, eq2, (by decide : 0 + 0 ≤ _), (by decide : 0 + 0 ≤ _)⟩)
  dsimp only [Pt.U, Pt.locs, Pt.cells, Pt.slots] at X3 l3 y3 z3 st3 hQ3
  subst l3 y3 z3
  obtain ⟨rfl, Nq3, eq3⟩ := hQ3
  have N3 := Fr.app N2 Nq3
  obtain ⟨fs, hr, hrun, hended, hW, hsame⟩ := X3.leave (v := some (.int (1 : Int32))) (fun h => by rw [Bd.returns] at h; cases h)
  refine ⟨_, _, pre0 _ ?_, hrun, hended, _, _, rfl, ?_, ⟨_, rfl⟩, hW, hsame.mono (by decide) (by decide)⟩
  · show Sp p e below s₁ (mkF m 0 #[.val (.int p0), .val (.int p1), .val (.int p2), .unset, .unset, .unset, .unset, .unset, .unset, .unset] []) _
    refine XS.iloadN X0.here hx rfl (hb hby at_0) rfl ?_
    show Sp p e below s₁ (mkF m 1 #[.val (.int p0), .val (.int p1), .val (.int p2), .unset, .unset, .unset, .unset, .unset, .unset, .unset] [(.int p0)]) _
    refine X0.ldcI hx hown (mvT hZ (hw _ (List.mem_of_getElem? (i := 0) rfl))) rfl (hb hby at_1) ?_
    show Sp p e below s₁ (mkF m 3 #[.val (.int p0), .val (.int p1), .val (.int p2), .unset, .unset, .unset, .unset, .unset, .unset, .unset] [(.int (2147483647 : Int32)), (.int p0)]) _
    refine XS.iand X0.here hx rfl (hb hby at_3) rfl ?_
    show Sp p e below s₁ (mkF m 4 #[.val (.int p0), .val (.int p1), .val (.int p2), .unset, .unset, .unset, .unset, .unset, .unset, .unset] [(.int (p0 &&& (2147483647 : Int32)))]) _
    refine XS.iconst X0.here hx rfl (hb hby at_4) ?_
    show Sp p e below s₁ (mkF m 5 #[.val (.int p0), .val (.int p1), .val (.int p2), .unset, .unset, .unset, .unset, .unset, .unset, .unset] [(.int (5 : Int32)), (.int (p0 &&& (2147483647 : Int32)))]) _
    refine iremM X0 hx rfl (hb hby at_5) rfl (by decide) ?_
    show Sp p e below s₁ (mkF m 6 #[.val (.int p0), .val (.int p1), .val (.int p2), .unset, .unset, .unset, .unset, .unset, .unset, .unset] [(.int ((p0 &&& (2147483647 : Int32)) % (5 : Int32)))]) _
    refine XS.istoreN X0.here hx rfl (hb hby at_6) rfl (l' := #[.val (.int p0), .val (.int p1), .val (.int p2), .val (.int ((p0 &&& (2147483647 : Int32)) % (5 : Int32))), .unset, .unset, .unset, .unset, .unset, .unset]) rfl ?_
    show Sp p e below s₁ (mkF m 7 #[.val (.int p0), .val (.int p1), .val (.int p2), .val (.int ((p0 &&& (2147483647 : Int32)) % (5 : Int32))), .unset, .unset, .unset, .unset, .unset, .unset] []) _
    refine XS.iloadN X0.here hx rfl (hb hby at_7) rfl ?_
    show Sp p e below s₁ (mkF m 8 #[.val (.int p0), .val (.int p1), .val (.int p2), .val (.int ((p0 &&& (2147483647 : Int32)) % (5 : Int32))), .unset, .unset, .unset, .unset, .unset, .unset] [(.int p1)]) _
    refine XS.iconst X0.here hx rfl (hb hby at_8) ?_
    show Sp p e below s₁ (mkF m 9 #[.val (.int p0), .val (.int p1), .val (.int p2), .val (.int ((p0 &&& (2147483647 : Int32)) % (5 : Int32))), .unset, .unset, .unset, .unset, .unset, .unset] [(.int (3 : Int32)), (.int p1)]) _
    refine XS.iand X0.here hx rfl (hb hby at_9) rfl ?_
    show Sp p e below s₁ (mkF m 10 #[.val (.int p0), .val (.int p1), .val (.int p2), .val (.int ((p0 &&& (2147483647 : Int32)) % (5 : Int32))), .unset, .unset, .unset, .unset, .unset, .unset] [(.int (p1 &&& (3 : Int32)))]) _
    refine XS.istore X0.here hx rfl (hb hby at_10) rfl (l' := #[.val (.int p0), .val (.int p1), .val (.int p2), .val (.int ((p0 &&& (2147483647 : Int32)) % (5 : Int32))), .val (.int (p1 &&& (3 : Int32))), .unset, .unset, .unset, .unset, .unset]) rfl ?_
    show Sp p e below s₁ (mkF m 12 #[.val (.int p0), .val (.int p1), .val (.int p2), .val (.int ((p0 &&& (2147483647 : Int32)) % (5 : Int32))), .val (.int (p1 &&& (3 : Int32))), .unset, .unset, .unset, .unset, .unset] []) _
    refine st1 _ ?_
    show Sp p e below s₁ (mkF m 58 #[.val (.int p0), .val (.int p1), .val (.int p2), .val (.int ((p0 &&& (2147483647 : Int32)) % (5 : Int32))), .val (.int (p1 &&& (3 : Int32))), .val (.int z5), .unset, .unset, .unset, .unset] []) _
    refine XS.iloadN X0.here hx rfl (hb hby at_58) rfl ?_
    show Sp p e below s₁ (mkF m 59 #[.val (.int p0), .val (.int p1), .val (.int p2), .val (.int ((p0 &&& (2147483647 : Int32)) % (5 : Int32))), .val (.int (p1 &&& (3 : Int32))), .val (.int z5), .unset, .unset, .unset, .unset] [(.int ((p0 &&& (2147483647 : Int32)) % (5 : Int32)))]) _
    refine st2 _ ?_
    show Sp p e below T2 (mkF m 62 #[.val (.int p0), .val (.int p1), .val (.int p2), .val (.int ((p0 &&& (2147483647 : Int32)) % (5 : Int32))), .val (.int (p1 &&& (3 : Int32))), .val (.int z5), .unset, .unset, .unset, .unset] [(.ref w_AES_128_CBC)]) _
    refine XS.astore X2.here hx rfl (hb hby at_62) rfl rfl (l' := #[.val (.int p0), .val (.int p1), .val (.int p2), .val (.int ((p0 &&& (2147483647 : Int32)) % (5 : Int32))), .val (.int (p1 &&& (3 : Int32))), .val (.int z5), .val (.ref w_AES_128_CBC), .unset, .unset, .unset]) rfl ?_
    show Sp p e below T2 (mkF m 64 #[.val (.int p0), .val (.int p1), .val (.int p2), .val (.int ((p0 &&& (2147483647 : Int32)) % (5 : Int32))), .val (.int (p1 &&& (3 : Int32))), .val (.int z5), .val (.ref w_AES_128_CBC), .unset, .unset, .unset] []) _
    refine XS.iloadN X2.here hx rfl (hb hby at_64) rfl ?_
    show Sp p e below T2 (mkF m 65 #[.val (.int p0), .val (.int p1), .val (.int p2), .val (.int ((p0 &&& (2147483647 : Int32)) % (5 : Int32))), .val (.int (p1 &&& (3 : Int32))), .val (.int z5), .val (.ref w_AES_128_CBC), .unset, .unset, .unset] [(.int ((p0 &&& (2147483647 : Int32)) % (5 : Int32)))]) _
    refine XS.ifNo X2.here hx rfl (hb hby at_65) rfl ((if0 _ _).trans (feq hc2).1) ?_
    show Sp p e below T2 (mkF m 68 #[.val (.int p0), .val (.int p1), .val (.int p2), .val (.int ((p0 &&& (2147483647 : Int32)) % (5 : Int32))), .val (.int (p1 &&& (3 : Int32))), .val (.int z5), .val (.ref w_AES_128_CBC), .unset, .unset, .unset] []) _
    refine XS.iloadN X2.here hx rfl (hb hby at_68) rfl ?_
    show Sp p e below T2 (mkF m 69 #[.val (.int p0), .val (.int p1), .val (.int p2), .val (.int ((p0 &&& (2147483647 : Int32)) % (5 : Int32))), .val (.int (p1 &&& (3 : Int32))), .val (.int z5), .val (.ref w_AES_128_CBC), .unset, .unset, .unset] [(.int ((p0 &&& (2147483647 : Int32)) % (5 : Int32)))]) _
    refine XS.iconst X2.here hx rfl (hb hby at_69) ?_
    show Sp p e below T2 (mkF m 70 #[.val (.int p0), .val (.int p1), .val (.int p2), .val (.int ((p0 &&& (2147483647 : Int32)) % (5 : Int32))), .val (.int (p1 &&& (3 : Int32))), .val (.int z5), .val (.ref w_AES_128_CBC), .unset, .unset, .unset] [(.int (2 : Int32)), (.int ((p0 &&& (2147483647 : Int32)) % (5 : Int32)))]) _
    refine XS.icmpNo X2.here hx rfl (hb hby at_70) rfl (feq hc4).1 ?_
    show Sp p e below T2 (mkF m 73 #[.val (.int p0), .val (.int p1), .val (.int p2), .val (.int ((p0 &&& (2147483647 : Int32)) % (5 : Int32))), .val (.int (p1 &&& (3 : Int32))), .val (.int z5), .val (.ref w_AES_128_CBC), .unset, .unset, .unset] []) _
    refine XS.iloadN X2.here hx rfl (hb hby at_73) rfl ?_
    show Sp p e below T2 (mkF m 74 #[.val (.int p0), .val (.int p1), .val (.int p2), .val (.int ((p0 &&& (2147483647 : Int32)) % (5 : Int32))), .val (.int (p1 &&& (3 : Int32))), .val (.int z5), .val (.ref w_AES_128_CBC), .unset, .unset, .unset] [(.int ((p0 &&& (2147483647 : Int32)) % (5 : Int32)))]) _
    refine XS.iconst X2.here hx rfl (hb hby at_74) ?_
    show Sp p e below T2 (mkF m 75 #[.val (.int p0), .val (.int p1), .val (.int p2), .val (.int ((p0 &&& (2147483647 : Int32)) % (5 : Int32))), .val (.int (p1 &&& (3 : Int32))), .val (.int z5), .val (.ref w_AES_128_CBC), .unset, .unset, .unset] [(.int (3 : Int32)), (.int ((p0 &&& (2147483647 : Int32)) % (5 : Int32)))]) _
    refine XS.icmpYes X2.here hx rfl (pc0 := 75) (pc' := 83) rfl (hb hby at_75) rfl (teq hc5).1 (by decide) (by decide) ?_
    show Sp p e below T2 (mkF m 83 #[.val (.int p0), .val (.int p1), .val (.int p2), .val (.int ((p0 &&& (2147483647 : Int32)) % (5 : Int32))), .val (.int (p1 &&& (3 : Int32))), .val (.int z5), .val (.ref w_AES_128_CBC), .unset, .unset, .unset] []) _
    refine XS.iconst X2.here hx rfl (hb hby at_83) ?_
    show Sp p e below T2 (mkF m 84 #[.val (.int p0), .val (.int p1), .val (.int p2), .val (.int ((p0 &&& (2147483647 : Int32)) % (5 : Int32))), .val (.int (p1 &&& (3 : Int32))), .val (.int z5), .val (.ref w_AES_128_CBC), .unset, .unset, .unset] [(.int (1 : Int32))]) _
    refine XS.goto X2.here hx rfl (pc0 := 84) (pc' := 88) rfl (hb hby at_84) (by decide) (by decide) ?_
    show Sp p e below T2 (mkF m 88 #[.val (.int p0), .val (.int p1), .val (.int p2), .val (.int ((p0 &&& (2147483647 : Int32)) % (5 : Int32))), .val (.int (p1 &&& (3 : Int32))), .val (.int z5), .val (.ref w_AES_128_CBC), .unset, .unset, .unset] [(.int (1 : Int32))]) _
    refine XS.istore X2.here hx rfl (hb hby at_88) rfl (l' := #[.val (.int p0), .val (.int p1), .val (.int p2), .val (.int ((p0 &&& (2147483647 : Int32)) % (5 : Int32))), .val (.int (p1 &&& (3 : Int32))), .val (.int z5), .val (.ref w_AES_128_CBC), .val (.int (1 : Int32)), .unset, .unset]) rfl ?_
    show Sp p e below T2 (mkF m 90 #[.val (.int p0), .val (.int p1), .val (.int p2), .val (.int ((p0 &&& (2147483647 : Int32)) % (5 : Int32))), .val (.int (p1 &&& (3 : Int32))), .val (.int z5), .val (.ref w_AES_128_CBC), .val (.int (1 : Int32)), .unset, .unset] []) _
    refine XS.iloadN X2.here hx rfl (hb hby at_90) rfl ?_
    show Sp p e below T2 (mkF m 91 #[.val (.int p0), .val (.int p1), .val (.int p2), .val (.int ((p0 &&& (2147483647 : Int32)) % (5 : Int32))), .val (.int (p1 &&& (3 : Int32))), .val (.int z5), .val (.ref w_AES_128_CBC), .val (.int (1 : Int32)), .unset, .unset] [(.int ((p0 &&& (2147483647 : Int32)) % (5 : Int32)))]) _
    refine XS.iconst X2.here hx rfl (hb hby at_91) ?_
    show Sp p e below T2 (mkF m 92 #[.val (.int p0), .val (.int p1), .val (.int p2), .val (.int ((p0 &&& (2147483647 : Int32)) % (5 : Int32))), .val (.int (p1 &&& (3 : Int32))), .val (.int z5), .val (.ref w_AES_128_CBC), .val (.int (1 : Int32)), .unset, .unset] [(.int (1 : Int32)), (.int ((p0 &&& (2147483647 : Int32)) % (5 : Int32)))]) _
    refine XS.icmpNo X2.here hx rfl (hb hby at_92) rfl (feq hc3).1 ?_
    show Sp p e below T2 (mkF m 95 #[.val (.int p0), .val (.int p1), .val (.int p2), .val (.int ((p0 &&& (2147483647 : Int32)) % (5 : Int32))), .val (.int (p1 &&& (3 : Int32))), .val (.int z5), .val (.ref w_AES_128_CBC), .val (.int (1 : Int32)), .unset, .unset] []) _
    refine XS.iloadN X2.here hx rfl (hb hby at_95) rfl ?_
    show Sp p e below T2 (mkF m 96 #[.val (.int p0), .val (.int p1), .val (.int p2), .val (.int ((p0 &&& (2147483647 : Int32)) % (5 : Int32))), .val (.int (p1 &&& (3 : Int32))), .val (.int z5), .val (.ref w_AES_128_CBC), .val (.int (1 : Int32)), .unset, .unset] [(.int ((p0 &&& (2147483647 : Int32)) % (5 : Int32)))]) _
    refine XS.iconst X2.here hx rfl (hb hby at_96) ?_
    show Sp p e below T2 (mkF m 97 #[.val (.int p0), .val (.int p1), .val (.int p2), .val (.int ((p0 &&& (2147483647 : Int32)) % (5 : Int32))), .val (.int (p1 &&& (3 : Int32))), .val (.int z5), .val (.ref w_AES_128_CBC), .val (.int (1 : Int32)), .unset, .unset] [(.int (2 : Int32)), (.int ((p0 &&& (2147483647 : Int32)) % (5 : Int32)))]) _
    refine XS.icmpNo X2.here hx rfl (hb hby at_97) rfl (feq hc4).1 ?_
    show Sp p e below T2 (mkF m 100 #[.val (.int p0), .val (.int p1), .val (.int p2), .val (.int ((p0 &&& (2147483647 : Int32)) % (5 : Int32))), .val (.int (p1 &&& (3 : Int32))), .val (.int z5), .val (.ref w_AES_128_CBC), .val (.int (1 : Int32)), .unset, .unset] []) _
    refine XS.iloadN X2.here hx rfl (hb hby at_100) rfl ?_
    show Sp p e below T2 (mkF m 101 #[.val (.int p0), .val (.int p1), .val (.int p2), .val (.int ((p0 &&& (2147483647 : Int32)) % (5 : Int32))), .val (.int (p1 &&& (3 : Int32))), .val (.int z5), .val (.ref w_AES_128_CBC), .val (.int (1 : Int32)), .unset, .unset] [(.int ((p0 &&& (2147483647 : Int32)) % (5 : Int32)))]) _
    refine XS.iconst X2.here hx rfl (hb hby at_101) ?_
    show Sp p e below T2 (mkF m 102 #[.val (.int p0), .val (.int p1), .val (.int p2), .val (.int ((p0 &&& (2147483647 : Int32)) % (5 : Int32))), .val (.int (p1 &&& (3 : Int32))), .val (.int z5), .val (.ref w_AES_128_CBC), .val (.int (1 : Int32)), .unset, .unset] [(.int (4 : Int32)), (.int ((p0 &&& (2147483647 : Int32)) % (5 : Int32)))]) _
    refine XS.icmpYes X2.here hx rfl (pc0 := 102) (pc' := 109) rfl (hb hby at_102) rfl (feq (by rw [hc5]; decide : ¬ (((p0 &&& (2147483647 : Int32)) % (5 : Int32)) = (4 : Int32)))).2 (by decide) (by decide) ?_
    show Sp p e below T2 (mkF m 109 #[.val (.int p0), .val (.int p1), .val (.int p2), .val (.int ((p0 &&& (2147483647 : Int32)) % (5 : Int32))), .val (.int (p1 &&& (3 : Int32))), .val (.int z5), .val (.ref w_AES_128_CBC), .val (.int (1 : Int32)), .unset, .unset] []) _
    refine XS.iconst X2.here hx rfl (hb hby at_109) ?_
    show Sp p e below T2 (mkF m 110 #[.val (.int p0), .val (.int p1), .val (.int p2), .val (.int ((p0 &&& (2147483647 : Int32)) % (5 : Int32))), .val (.int (p1 &&& (3 : Int32))), .val (.int z5), .val (.ref w_AES_128_CBC), .val (.int (1 : Int32)), .unset, .unset] [(.int (0 : Int32))]) _
    refine XS.istore X2.here hx rfl (hb hby at_110) rfl (l' := #[.val (.int p0), .val (.int p1), .val (.int p2), .val (.int ((p0 &&& (2147483647 : Int32)) % (5 : Int32))), .val (.int (p1 &&& (3 : Int32))), .val (.int z5), .val (.ref w_AES_128_CBC), .val (.int (1 : Int32)), .val (.int (0 : Int32)), .unset]) rfl ?_
    show Sp p e below T2 (mkF m 112 #[.val (.int p0), .val (.int p1), .val (.int p2), .val (.int ((p0 &&& (2147483647 : Int32)) % (5 : Int32))), .val (.int (p1 &&& (3 : Int32))), .val (.int z5), .val (.ref w_AES_128_CBC), .val (.int (1 : Int32)), .val (.int (0 : Int32)), .unset] []) _
    refine XS.iload X2.here hx rfl (hb hby at_112) rfl ?_
    show Sp p e below T2 (mkF m 114 #[.val (.int p0), .val (.int p1), .val (.int p2), .val (.int ((p0 &&& (2147483647 : Int32)) % (5 : Int32))), .val (.int (p1 &&& (3 : Int32))), .val (.int z5), .val (.ref w_AES_128_CBC), .val (.int (1 : Int32)), .val (.int (0 : Int32)), .unset] [(.int z5)]) _
    refine XS.bipush X2.here hx rfl (hb hby at_114) ?_
    show Sp p e below T2 (mkF m 116 #[.val (.int p0), .val (.int p1), .val (.int p2), .val (.int ((p0 &&& (2147483647 : Int32)) % (5 : Int32))), .val (.int (p1 &&& (3 : Int32))), .val (.int z5), .val (.ref w_AES_128_CBC), .val (.int (1 : Int32)), .val (.int (0 : Int32)), .unset] [(.int (16 : Int32)), (.int z5)]) _
    refine XS.icmpYes X2.here hx rfl (pc0 := 116) (pc' := 124) rfl (hb hby at_116) rfl (feq hc6).2 (by decide) (by decide) ?_
    show Sp p e below T2 (mkF m 124 #[.val (.int p0), .val (.int p1), .val (.int p2), .val (.int ((p0 &&& (2147483647 : Int32)) % (5 : Int32))), .val (.int (p1 &&& (3 : Int32))), .val (.int z5), .val (.ref w_AES_128_CBC), .val (.int (1 : Int32)), .val (.int (0 : Int32)), .unset] []) _
    refine XS.iload X2.here hx rfl (hb hby at_124) rfl ?_
    show Sp p e below T2 (mkF m 126 #[.val (.int p0), .val (.int p1), .val (.int p2), .val (.int ((p0 &&& (2147483647 : Int32)) % (5 : Int32))), .val (.int (p1 &&& (3 : Int32))), .val (.int z5), .val (.ref w_AES_128_CBC), .val (.int (1 : Int32)), .val (.int (0 : Int32)), .unset] [(.int z5)]) _
    refine XS.bipush X2.here hx rfl (hb hby at_126) ?_
    show Sp p e below T2 (mkF m 128 #[.val (.int p0), .val (.int p1), .val (.int p2), .val (.int ((p0 &&& (2147483647 : Int32)) % (5 : Int32))), .val (.int (p1 &&& (3 : Int32))), .val (.int z5), .val (.ref w_AES_128_CBC), .val (.int (1 : Int32)), .val (.int (0 : Int32)), .unset] [(.int (32 : Int32)), (.int z5)]) _
    refine XS.icmpNo X2.here hx rfl (hb hby at_128) rfl (teq hc7).2 ?_
    show Sp p e below T2 (mkF m 131 #[.val (.int p0), .val (.int p1), .val (.int p2), .val (.int ((p0 &&& (2147483647 : Int32)) % (5 : Int32))), .val (.int (p1 &&& (3 : Int32))), .val (.int z5), .val (.ref w_AES_128_CBC), .val (.int (1 : Int32)), .val (.int (0 : Int32)), .unset] []) _
    refine XS.iload X2.here hx rfl (hb hby at_131) rfl ?_
    show Sp p e below T2 (mkF m 133 #[.val (.int p0), .val (.int p1), .val (.int p2), .val (.int ((p0 &&& (2147483647 : Int32)) % (5 : Int32))), .val (.int (p1 &&& (3 : Int32))), .val (.int z5), .val (.ref w_AES_128_CBC), .val (.int (1 : Int32)), .val (.int (0 : Int32)), .unset] [(.int (0 : Int32))]) _
    refine XS.ifYes X2.here hx rfl (pc0 := 133) (pc' := 140) rfl (hb hby at_133) rfl ((if0 _ _).trans (teq (by decide : (0 : Int32) = (0 : Int32))).1) (by decide) (by decide) ?_
    show Sp p e below T2 (mkF m 140 #[.val (.int p0), .val (.int p1), .val (.int p2), .val (.int ((p0 &&& (2147483647 : Int32)) % (5 : Int32))), .val (.int (p1 &&& (3 : Int32))), .val (.int z5), .val (.ref w_AES_128_CBC), .val (.int (1 : Int32)), .val (.int (0 : Int32)), .unset] []) _
    refine XS.iconst X2.here hx rfl (hb hby at_140) ?_
    show Sp p e below T2 (mkF m 141 #[.val (.int p0), .val (.int p1), .val (.int p2), .val (.int ((p0 &&& (2147483647 : Int32)) % (5 : Int32))), .val (.int (p1 &&& (3 : Int32))), .val (.int z5), .val (.ref w_AES_128_CBC), .val (.int (1 : Int32)), .val (.int (0 : Int32)), .unset] [(.int (0 : Int32))]) _
    refine XS.istore X2.here hx rfl (hb hby at_141) rfl (l' := #[.val (.int p0), .val (.int p1), .val (.int p2), .val (.int ((p0 &&& (2147483647 : Int32)) % (5 : Int32))), .val (.int (p1 &&& (3 : Int32))), .val (.int z5), .val (.ref w_AES_128_CBC), .val (.int (1 : Int32)), .val (.int (0 : Int32)), .val (.int (0 : Int32))]) rfl ?_
    show Sp p e below T2 (mkF m 143 #[.val (.int p0), .val (.int p1), .val (.int p2), .val (.int ((p0 &&& (2147483647 : Int32)) % (5 : Int32))), .val (.int (p1 &&& (3 : Int32))), .val (.int z5), .val (.ref w_AES_128_CBC), .val (.int (1 : Int32)), .val (.int (0 : Int32)), .val (.int (0 : Int32))] []) _
    refine XS.aload X2.here hx rfl (hb hby at_143) rfl rfl ?_
    show Sp p e below T2 (mkF m 145 #[.val (.int p0), .val (.int p1), .val (.int p2), .val (.int ((p0 &&& (2147483647 : Int32)) % (5 : Int32))), .val (.int (p1 &&& (3 : Int32))), .val (.int z5), .val (.ref w_AES_128_CBC), .val (.int (1 : Int32)), .val (.int (0 : Int32)), .val (.int (0 : Int32))] [(.ref w_AES_128_CBC)]) _
    refine XS.iload X2.here hx rfl (hb hby at_145) rfl ?_
    show Sp p e below T2 (mkF m 147 #[.val (.int p0), .val (.int p1), .val (.int p2), .val (.int ((p0 &&& (2147483647 : Int32)) % (5 : Int32))), .val (.int (p1 &&& (3 : Int32))), .val (.int z5), .val (.ref w_AES_128_CBC), .val (.int (1 : Int32)), .val (.int (0 : Int32)), .val (.int (0 : Int32))] [(.int z5), (.ref w_AES_128_CBC)]) _
    refine st3.trans ?_
    show Sp p e below T3 (mkF m 150 #[.val (.int p0), .val (.int p1), .val (.int p2), .val (.int ((p0 &&& (2147483647 : Int32)) % (5 : Int32))), .val (.int (p1 &&& (3 : Int32))), .val (.int z5), .val (.ref w_AES_128_CBC), .val (.int (1 : Int32)), .val (.int (0 : Int32)), .val (.int (0 : Int32))] [(.int (0 : Int32))]) _
    refine XS.iload X3.here hx rfl (hb hby at_150) rfl ?_
    show Sp p e below T3 (mkF m 152 #[.val (.int p0), .val (.int p1), .val (.int p2), .val (.int ((p0 &&& (2147483647 : Int32)) % (5 : Int32))), .val (.int (p1 &&& (3 : Int32))), .val (.int z5), .val (.ref w_AES_128_CBC), .val (.int (1 : Int32)), .val (.int (0 : Int32)), .val (.int (0 : Int32))] [(.int (0 : Int32)), (.int (0 : Int32))]) _
    refine XS.icmpNo X3.here hx rfl (hb hby at_152) rfl (teq (by decide : (0 : Int32) = (0 : Int32))).2 ?_
    show Sp p e below T3 (mkF m 155 #[.val (.int p0), .val (.int p1), .val (.int p2), .val (.int ((p0 &&& (2147483647 : Int32)) % (5 : Int32))), .val (.int (p1 &&& (3 : Int32))), .val (.int z5), .val (.ref w_AES_128_CBC), .val (.int (1 : Int32)), .val (.int (0 : Int32)), .val (.int (0 : Int32))] []) _
    refine XS.iconst X3.here hx rfl (hb hby at_155) ?_
    show Sp p e below T3 (mkF m 156 #[.val (.int p0), .val (.int p1), .val (.int p2), .val (.int ((p0 &&& (2147483647 : Int32)) % (5 : Int32))), .val (.int (p1 &&& (3 : Int32))), .val (.int z5), .val (.ref w_AES_128_CBC), .val (.int (1 : Int32)), .val (.int (0 : Int32)), .val (.int (0 : Int32))] [(.int (1 : Int32))]) _
    refine XS.goto X3.here hx rfl (pc0 := 156) (pc' := 160) rfl (hb hby at_156) (by decide) (by decide) ?_
    show Sp p e below T3 (mkF m 160 #[.val (.int p0), .val (.int p1), .val (.int p2), .val (.int ((p0 &&& (2147483647 : Int32)) % (5 : Int32))), .val (.int (p1 &&& (3 : Int32))), .val (.int z5), .val (.ref w_AES_128_CBC), .val (.int (1 : Int32)), .val (.int (0 : Int32)), .val (.int (0 : Int32))] [(.int (1 : Int32))]) _
    exact retN X3 hx (t := .boolean) Bd.returns (by simp) (hb hby at_160) hr
  · skip
    exact ⟨rfl, N3⟩
set_option maxRecDepth 65536 in
set_option maxHeartbeats 40000000 in
theorem rm22 (l : Launch) (Z : State) (a0 : Array Value) (hw : ∀ d ∈ tables_1, d.before a0 Z = true) (ws : List Jvm.Cond) (w_AES_128_GCM w_AES_256_GCM w_AES_CBC_PKCS5PADDING w_AES_128_CBC w_AES_GCM_NOPADDING kl_AES_128_GCM kl_AES_256_GCM kl_AES_CBC_PKCS5PADDING kl_AES_128_CBC kl_AES_GCM_NOPADDING : Addr) (k_kl_AES_128_GCM : ClassId) (k_kl_AES_256_GCM : ClassId) (k_kl_AES_CBC_PKCS5PADDING : ClassId) (k_kl_AES_128_CBC : ClassId) (k_kl_AES_GCM_NOPADDING : ClassId) (hp : Perm Z w_AES_128_GCM w_AES_256_GCM w_AES_CBC_PKCS5PADDING w_AES_128_CBC w_AES_GCM_NOPADDING kl_AES_128_GCM kl_AES_256_GCM kl_AES_CBC_PKCS5PADDING kl_AES_128_CBC kl_AES_GCM_NOPADDING k_kl_AES_128_GCM k_kl_AES_256_GCM k_kl_AES_CBC_PKCS5PADDING k_kl_AES_128_CBC k_kl_AES_GCM_NOPADDING) (p0 : Int32) (p1 : Int32) (p2 : Int32) (z5 : Int32) (h0 : Heap) (n0 : Nat) (O0 : Old Z n0 h0) (hcut : Cut_0_12 p0 p1 p2 ((p0 &&& (2147483647 : Int32)) % (5 : Int32)) (p1 &&& (3 : Int32)) z5) (hc2 : ¬ (((p0 &&& (2147483647 : Int32)) % (5 : Int32)) = (0 : Int32))) (hc3 : ¬ (((p0 &&& (2147483647 : Int32)) % (5 : Int32)) = (1 : Int32))) (hc4 : ¬ (((p0 &&& (2147483647 : Int32)) % (5 : Int32)) = (2 : Int32))) (hc5 : ((p0 &&& (2147483647 : Int32)) % (5 : Int32)) = (3 : Int32)) (hc6 : ¬ (z5 = (16 : Int32))) (hc7 : ¬ (z5 = (32 : Int32))) :
    MetFree l x (head1 (Jvm.Cond.code x code maxLocals ret :: ws) room_1) (fun a U => a = #[(.int p0), (.int p1), (.int p2)] ∧ Z.Warmed39 U.vm ∧ U.heap = h0) (fun _ _ _ _ _ => True) (fun _ U o U' => ∃ v L, o = .returned v ∧ (v = some (.int (1 : Int32)) ∧ Fr n0 L) ∧ FrameEnd U o U' L 0 0) := by
  refine MetFree.of_bodySF (plainFor_of_name pn_1) hisR ?_
  intro p e s m args below meth c s₁ Bd hml0 hP hK
  obtain ⟨rfl, hZ, hh⟩ := hP
  have hx := Bd.exec
  have hby := Bd.bytes
  have hml : c.maxLocals = 10 := hml0
  have hown : s.vm.findClass "com/example/cloakfield/cloakfield/crypto/EncryptionAlgorithmAcceptsKeyLengthPinLaw" = some m.cls := findClass_of_methodNamed Bd.named
  have hnm := (name_of_methodNamed Bd.named Bd.method).1
  have X0 : Stand p l e room_1 s m #[(.int p0), (.int p1), (.int p2)] below meth c s₁ [] 0 0 := Stand.of_body Bd
  have e0 : s₁.heap = h0 := by rw [← hh, Bd.state]; rfl
  have N0 := Fr.nil n0
  have hp' := hp
  obtain ⟨S_w_AES_128_GCM, E_w_AES_128_GCM, S_w_AES_256_GCM, E_w_AES_256_GCM, S_w_AES_CBC_PKCS5PADDING, E_w_AES_CBC_PKCS5PADDING, S_w_AES_128_CBC, E_w_AES_128_CBC, S_w_AES_GCM_NOPADDING, E_w_AES_GCM_NOPADDING, F_keyLengths_w_AES_128_GCM, V_kl_AES_128_GCM, F_keyLengths_w_AES_256_GCM, V_kl_AES_256_GCM, F_keyLengths_w_AES_CBC_PKCS5PADDING, V_kl_AES_CBC_PKCS5PADDING, F_keyLengths_w_AES_128_CBC, V_kl_AES_128_CBC, F_keyLengths_w_AES_GCM_NOPADDING, V_kl_AES_GCM_NOPADDING⟩ := hp'
  have pre0 : ∀ t, Steps p.tables e below (s₁.setTop (mkF m 0 #[.val (.int p0), .val (.int p1), .val (.int p2), .unset, .unset, .unset, .unset, .unset, .unset, .unset] [])) t → Steps p.tables e below (s₁.setTop (entryFrame m #[(.int p0), (.int p1), (.int p2)] maxLocals)) t := fun t k => castTop (ef_0_0 m p0 p1 p2) k
  have st1 := hcut X0 hx hZ hw hby hown
  obtain ⟨_, _, ⟨T2, L2, k2, n2⟩, -, X2, ⟨Lc2, hQ2, l2, y2, z2⟩, st2⟩ := Jvm.LawKit.callS X0 hx (y := y0) hown (mvT hZ (hw _ (List.mem_of_getElem? (i := 1) rfl))) (mvT hZ (hw _ (List.mem_of_getElem? (i := 2) rfl))) (mvT hZ (hw _ (List.mem_of_getElem? (i := 3) rfl))) (mvT hZ (hw _ (List.mem_of_getElem? (i := 4) rfl))) (by decide) (backOf (W := 0) (rm10 l Z a0 hw [] w_AES_128_GCM w_AES_256_GCM w_AES_CBC_PKCS5PADDING w_AES_128_CBC w_AES_GCM_NOPADDING kl_AES_128_GCM kl_AES_256_GCM kl_AES_CBC_PKCS5PADDING kl_AES_128_CBC kl_AES_GCM_NOPADDING k_kl_AES_128_GCM k_kl_AES_256_GCM k_kl_AES_CBC_PKCS5PADDING k_kl_AES_128_CBC k_kl_AES_GCM_NOPADDING hp ((p0 &&& (2147483647 : Int32)) % (5 : Int32)) h0 n0 O0 hc2 hc3 hc4 hc5) hZ (hw _ (List.mem_of_getElem? (i := 4) rfl)) (hw _ (List.mem_of_getElem? (i := 3) rfl)) (by decide) (by decide)) (g := (mkF m 59 #[.val (.int p0), .val (.int p1), .val (.int p2), .val (.int ((p0 &&& (2147483647 : Int32)) % (5 : Int32))), .val (.int (p1 &&& (3 : Int32))), .val (.int z5), .unset, .unset, .unset, .unset] [(.int ((p0 &&& (2147483647 : Int32)) % (5 : Int32)))])) rfl (by rw [hml]; rfl) (argsL := [(.int ((p0 &&& (2147483647 : Int32)) % (5 : Int32)))]) (rest := []) (lenOf pd_0 rfl) rfl (by show 2 * 0 + _ ≤ _; exact Nat.le_of_eq rfl) (hb hby at_59) (fun _ _ => ⟨rfl, e0, (by decide : 0 + 0 ≤ _), (by decide : 0 + 0 ≤ _)⟩)
  dsimp only [Pt.U, Pt.locs, Pt.cells, Pt.slots] at X2 l2 y2 z2 st2 hQ2
  subst l2 y2 z2
  obtain ⟨rfl, Nq2, eq2⟩ := hQ2
  have N2 := Fr.app N0 Nq2
  obtain ⟨cq3, kq3, q3a, q3b, q3c⟩ := isOf hZ eq2 (E_w_AES_128_CBC.ext O0.2)
  obtain ⟨_, _, ⟨T3, L3, k3, n3⟩, -, X3, ⟨Lc3, hQ3, l3, y3, z3⟩, st3⟩ := X2.virtualBack hx (y := y1) (z := y1) hown (mvT hZ (hw _ (List.mem_of_getElem? (i := 8) rfl))) (mvT hZ (hw _ (List.mem_of_getElem? (i := 9) rfl))) (notFace_of_selects (args := #[]) (mvT hZ (hw _ (List.mem_of_getElem? (i := 11) rfl)))) (mvT hZ (hw _ (List.mem_of_getElem? (i := 11) rfl))) (mvT hZ (hw _ (List.mem_of_getElem? (i := 10) rfl))) (by decide) (backOf (W := 0) (rm20 l Z a0 hw [] w_AES_128_GCM w_AES_256_GCM w_AES_CBC_PKCS5PADDING w_AES_128_CBC w_AES_GCM_NOPADDING kl_AES_128_GCM kl_AES_256_GCM kl_AES_CBC_PKCS5PADDING kl_AES_128_CBC kl_AES_GCM_NOPADDING k_kl_AES_128_GCM k_kl_AES_256_GCM k_kl_AES_CBC_PKCS5PADDING k_kl_AES_128_CBC k_kl_AES_GCM_NOPADDING hp z5 h0 n0 O0 hc6) hZ (hw _ (List.mem_of_getElem? (i := 12) rfl)) (hw _ (List.mem_of_getElem? (i := 6) rfl)) (by decide) (by decide)) q3a q3c (g := (mkF m 147 #[.val (.int p0), .val (.int p1), .val (.int p2), .val (.int ((p0 &&& (2147483647 : Int32)) % (5 : Int32))), .val (.int (p1 &&& (3 : Int32))), .val (.int z5), .val (.ref w_AES_128_CBC), .val (.int (1 : Int32)), .val (.int (0 : Int32)), .val (.int (0 : Int32))] [(.int z5), (.ref w_AES_128_CBC)])) rfl (by rw [hml]; rfl) (Steps.refl _) (argsL := [(.int z5)]) (rest := []) (lenOf pd_1 rfl) rfl (by show 2 * 0 + _ ≤ _; exact Nat.le_of_eq rfl) (hb hby at_147) (fun _ _ => ⟨rfl, eq2, (by decide : 0 + 0 ≤ _), (by decide : 0 + 0 ≤ _)⟩)
  dsimp only [Pt.U, Pt.locs, Pt.cells, Pt.slots] at X3 l3 y3 z3 st3 hQ3
  subst l3 y3 z3
  obtain ⟨rfl, Nq3, eq3⟩ := hQ3
  have N3 := Fr.app N2 Nq3
  obtain ⟨fs, hr, hrun, hended, hW, hsame⟩ := X3.leave (v := some (.int (1 : Int32))) (fun h => by rw [Bd.returns] at h; cases h)
  refine ⟨_, _, pre0 _ ?_, hrun, hended, _, _, rfl, ?_, ⟨_, rfl⟩, hW, hsame.mono (by decide) (by decide)⟩
  · show Sp p e below s₁ (mkF m 0 #[.val (.int p0), .val (.int p1), .val (.int p2), .unset, .unset, .unset, .unset, .unset, .unset, .unset] []) _
    refine XS.iloadN X0.here hx rfl (hb hby at_0) rfl ?_
    show Sp p e below s₁ (mkF m 1 #[.val (.int p0), .val (.int p1), .val (.int p2), .unset, .unset, .unset, .unset, .unset, .unset, .unset] [(.int p0)]) _
    refine X0.ldcI hx hown (mvT hZ (hw _ (List.mem_of_getElem? (i := 0) rfl))) rfl (hb hby at_1) ?_
    show Sp p e below s₁ (mkF m 3 #[.val (.int p0), .val (.int p1), .val (.int p2), .unset, .unset, .unset, .unset, .unset, .unset, .unset] [(.int (2147483647 : Int32)), (.int p0)]) _
    refine XS.iand X0.here hx rfl (hb hby at_3) rfl ?_
    show Sp p e below s₁ (mkF m 4 #[.val (.int p0), .val (.int p1), .val (.int p2), .unset, .unset, .unset, .unset, .unset, .unset, .unset] [(.int (p0 &&& (2147483647 : Int32)))]) _
    refine XS.iconst X0.here hx rfl (hb hby at_4) ?_
    show Sp p e below s₁ (mkF m 5 #[.val (.int p0), .val (.int p1), .val (.int p2), .unset, .unset, .unset, .unset, .unset, .unset, .unset] [(.int (5 : Int32)), (.int (p0 &&& (2147483647 : Int32)))]) _
    refine iremM X0 hx rfl (hb hby at_5) rfl (by decide) ?_
    show Sp p e below s₁ (mkF m 6 #[.val (.int p0), .val (.int p1), .val (.int p2), .unset, .unset, .unset, .unset, .unset, .unset, .unset] [(.int ((p0 &&& (2147483647 : Int32)) % (5 : Int32)))]) _
    refine XS.istoreN X0.here hx rfl (hb hby at_6) rfl (l' := #[.val (.int p0), .val (.int p1), .val (.int p2), .val (.int ((p0 &&& (2147483647 : Int32)) % (5 : Int32))), .unset, .unset, .unset, .unset, .unset, .unset]) rfl ?_
    show Sp p e below s₁ (mkF m 7 #[.val (.int p0), .val (.int p1), .val (.int p2), .val (.int ((p0 &&& (2147483647 : Int32)) % (5 : Int32))), .unset, .unset, .unset, .unset, .unset, .unset] []) _
    refine XS.iloadN X0.here hx rfl (hb hby at_7) rfl ?_
    show Sp p e below s₁ (mkF m 8 #[.val (.int p0), .val (.int p1), .val (.int p2), .val (.int ((p0 &&& (2147483647 : Int32)) % (5 : Int32))), .unset, .unset, .unset, .unset, .unset, .unset] [(.int p1)]) _
    refine XS.iconst X0.here hx rfl (hb hby at_8) ?_
    show Sp p e below s₁ (mkF m 9 #[.val (.int p0), .val (.int p1), .val (.int p2), .val (.int ((p0 &&& (2147483647 : Int32)) % (5 : Int32))), .unset, .unset, .unset, .unset, .unset, .unset] [(.int (3 : Int32)), (.int p1)]) _
    refine XS.iand X0.here hx rfl (hb hby at_9) rfl ?_
    show Sp p e below s₁ (mkF m 10 #[.val (.int p0), .val (.int p1), .val (.int p2), .val (.int ((p0 &&& (2147483647 : Int32)) % (5 : Int32))), .unset, .unset, .unset, .unset, .unset, .unset] [(.int (p1 &&& (3 : Int32)))]) _
    refine XS.istore X0.here hx rfl (hb hby at_10) rfl (l' := #[.val (.int p0), .val (.int p1), .val (.int p2), .val (.int ((p0 &&& (2147483647 : Int32)) % (5 : Int32))), .val (.int (p1 &&& (3 : Int32))), .unset, .unset, .unset, .unset, .unset]) rfl ?_
    show Sp p e below s₁ (mkF m 12 #[.val (.int p0), .val (.int p1), .val (.int p2), .val (.int ((p0 &&& (2147483647 : Int32)) % (5 : Int32))), .val (.int (p1 &&& (3 : Int32))), .unset, .unset, .unset, .unset, .unset] []) _
    refine st1 _ ?_
    show Sp p e below s₁ (mkF m 58 #[.val (.int p0), .val (.int p1), .val (.int p2), .val (.int ((p0 &&& (2147483647 : Int32)) % (5 : Int32))), .val (.int (p1 &&& (3 : Int32))), .val (.int z5), .unset, .unset, .unset, .unset] []) _
    refine XS.iloadN X0.here hx rfl (hb hby at_58) rfl ?_
    show Sp p e below s₁ (mkF m 59 #[.val (.int p0), .val (.int p1), .val (.int p2), .val (.int ((p0 &&& (2147483647 : Int32)) % (5 : Int32))), .val (.int (p1 &&& (3 : Int32))), .val (.int z5), .unset, .unset, .unset, .unset] [(.int ((p0 &&& (2147483647 : Int32)) % (5 : Int32)))]) _
    refine st2 _ ?_
    show Sp p e below T2 (mkF m 62 #[.val (.int p0), .val (.int p1), .val (.int p2), .val (.int ((p0 &&& (2147483647 : Int32)) % (5 : Int32))), .val (.int (p1 &&& (3 : Int32))), .val (.int z5), .unset, .unset, .unset, .unset] [(.ref w_AES_128_CBC)]) _
    refine XS.astore X2.here hx rfl (hb hby at_62) rfl rfl (l' := #[.val (.int p0), .val (.int p1), .val (.int p2), .val (.int ((p0 &&& (2147483647 : Int32)) % (5 : Int32))), .val (.int (p1 &&& (3 : Int32))), .val (.int z5), .val (.ref w_AES_128_CBC), .unset, .unset, .unset]) rfl ?_
    show Sp p e below T2 (mkF m 64 #[.val (.int p0), .val (.int p1), .val (.int p2), .val (.int ((p0 &&& (2147483647 : Int32)) % (5 : Int32))), .val (.int (p1 &&& (3 : Int32))), .val (.int z5), .val (.ref w_AES_128_CBC), .unset, .unset, .unset] []) _
    refine XS.iloadN X2.here hx rfl (hb hby at_64) rfl ?_
    show Sp p e below T2 (mkF m 65 #[.val (.int p0), .val (.int p1), .val (.int p2), .val (.int ((p0 &&& (2147483647 : Int32)) % (5 : Int32))), .val (.int (p1 &&& (3 : Int32))), .val (.int z5), .val (.ref w_AES_128_CBC), .unset, .unset, .unset] [(.int ((p0 &&& (2147483647 : Int32)) % (5 : Int32)))]) _
    refine XS.ifNo X2.here hx rfl (hb hby at_65) rfl ((if0 _ _).trans (feq hc2).1) ?_
    show Sp p e below T2 (mkF m 68 #[.val (.int p0), .val (.int p1), .val (.int p2), .val (.int ((p0 &&& (2147483647 : Int32)) % (5 : Int32))), .val (.int (p1 &&& (3 : Int32))), .val (.int z5), .val (.ref w_AES_128_CBC), .unset, .unset, .unset] []) _
    refine XS.iloadN X2.here hx rfl (hb hby at_68) rfl ?_
    show Sp p e below T2 (mkF m 69 #[.val (.int p0), .val (.int p1), .val (.int p2), .val (.int ((p0 &&& (2147483647 : Int32)) % (5 : Int32))), .val (.int (p1 &&& (3 : Int32))), .val (.int z5), .val (.ref w_AES_128_CBC), .unset, .unset, .unset] [(.int ((p0 &&& (2147483647 : Int32)) % (5 : Int32)))]) _
    refine XS.iconst X2.here hx rfl (hb hby at_69) ?_
    show Sp p e below T2 (mkF m 70 #[.val (.int p0), .val (.int p1), .val (.int p2), .val (.int ((p0 &&& (2147483647 : Int32)) % (5 : Int32))), .val (.int (p1 &&& (3 : Int32))), .val (.int z5), .val (.ref w_AES_128_CBC), .unset, .unset, .unset] [(.int (2 : Int32)), (.int ((p0 &&& (2147483647 : Int32)) % (5 : Int32)))]) _
    refine XS.icmpNo X2.here hx rfl (hb hby at_70) rfl (feq hc4).1 ?_
    show Sp p e below T2 (mkF m 73 #[.val (.int p0), .val (.int p1), .val (.int p2), .val (.int ((p0 &&& (2147483647 : Int32)) % (5 : Int32))), .val (.int (p1 &&& (3 : Int32))), .val (.int z5), .val (.ref w_AES_128_CBC), .unset, .unset, .unset] []) _
    refine XS.iloadN X2.here hx rfl (hb hby at_73) rfl ?_
    show Sp p e below T2 (mkF m 74 #[.val (.int p0), .val (.int p1), .val (.int p2), .val (.int ((p0 &&& (2147483647 : Int32)) % (5 : Int32))), .val (.int (p1 &&& (3 : Int32))), .val (.int z5), .val (.ref w_AES_128_CBC), .unset, .unset, .unset] [(.int ((p0 &&& (2147483647 : Int32)) % (5 : Int32)))]) _
    refine XS.iconst X2.here hx rfl (hb hby at_74) ?_
    show Sp p e below T2 (mkF m 75 #[.val (.int p0), .val (.int p1), .val (.int p2), .val (.int ((p0 &&& (2147483647 : Int32)) % (5 : Int32))), .val (.int (p1 &&& (3 : Int32))), .val (.int z5), .val (.ref w_AES_128_CBC), .unset, .unset, .unset] [(.int (3 : Int32)), (.int ((p0 &&& (2147483647 : Int32)) % (5 : Int32)))]) _
    refine XS.icmpYes X2.here hx rfl (pc0 := 75) (pc' := 83) rfl (hb hby at_75) rfl (teq hc5).1 (by decide) (by decide) ?_
    show Sp p e below T2 (mkF m 83 #[.val (.int p0), .val (.int p1), .val (.int p2), .val (.int ((p0 &&& (2147483647 : Int32)) % (5 : Int32))), .val (.int (p1 &&& (3 : Int32))), .val (.int z5), .val (.ref w_AES_128_CBC), .unset, .unset, .unset] []) _
    refine XS.iconst X2.here hx rfl (hb hby at_83) ?_
    show Sp p e below T2 (mkF m 84 #[.val (.int p0), .val (.int p1), .val (.int p2), .val (.int ((p0 &&& (2147483647 : Int32)) % (5 : Int32))), .val (.int (p1 &&& (3 : Int32))), .val (.int z5), .val (.ref w_AES_128_CBC), .unset, .unset, .unset] [(.int (1 : Int32))]) _
    refine XS.goto X2.here hx rfl (pc0 := 84) (pc' := 88) rfl (hb hby at_84) (by decide) (by decide) ?_
    show Sp p e below T2 (mkF m 88 #[.val (.int p0), .val (.int p1), .val (.int p2), .val (.int ((p0 &&& (2147483647 : Int32)) % (5 : Int32))), .val (.int (p1 &&& (3 : Int32))), .val (.int z5), .val (.ref w_AES_128_CBC), .unset, .unset, .unset] [(.int (1 : Int32))]) _
    refine XS.istore X2.here hx rfl (hb hby at_88) rfl (l' := #[.val (.int p0), .val (.int p1), .val (.int p2), .val (.int ((p0 &&& (2147483647 : Int32)) % (5 : Int32))), .val (.int (p1 &&& (3 : Int32))), .val (.int z5), .val (.ref w_AES_128_CBC), .val (.int (1 : Int32)), .unset, .unset]) rfl ?_
    show Sp p e below T2 (mkF m 90 #[.val (.int p0), .val (.int p1), .val (.int p2), .val (.int ((p0 &&& (2147483647 : Int32)) % (5 : Int32))), .val (.int (p1 &&& (3 : Int32))), .val (.int z5), .val (.ref w_AES_128_CBC), .val (.int (1 : Int32)), .unset, .unset] []) _
    refine XS.iloadN X2.here hx rfl (hb hby at_90) rfl ?_
    show Sp p e below T2 (mkF m 91 #[.val (.int p0), .val (.int p1), .val (.int p2), .val (.int ((p0 &&& (2147483647 : Int32)) % (5 : Int32))), .val (.int (p1 &&& (3 : Int32))), .val (.int z5), .val (.ref w_AES_128_CBC), .val (.int (1 : Int32)), .unset, .unset] [(.int ((p0 &&& (2147483647 : Int32)) % (5 : Int32)))]) _
    refine XS.iconst X2.here hx rfl (hb hby at_91) ?_
    show Sp p e below T2 (mkF m 92 #[.val (.int p0), .val (.int p1), .val (.int p2), .val (.int ((p0 &&& (2147483647 : Int32)) % (5 : Int32))), .val (.int (p1 &&& (3 : Int32))), .val (.int z5), .val (.ref w_AES_128_CBC), .val (.int (1 : Int32)), .unset, .unset] [(.int (1 : Int32)), (.int ((p0 &&& (2147483647 : Int32)) % (5 : Int32)))]) _
    refine XS.icmpNo X2.here hx rfl (hb hby at_92) rfl (feq hc3).1 ?_
    show Sp p e below T2 (mkF m 95 #[.val (.int p0), .val (.int p1), .val (.int p2), .val (.int ((p0 &&& (2147483647 : Int32)) % (5 : Int32))), .val (.int (p1 &&& (3 : Int32))), .val (.int z5), .val (.ref w_AES_128_CBC), .val (.int (1 : Int32)), .unset, .unset] []) _
    refine XS.iloadN X2.here hx rfl (hb hby at_95) rfl ?_
    show Sp p e below T2 (mkF m 96 #[.val (.int p0), .val (.int p1), .val (.int p2), .val (.int ((p0 &&& (2147483647 : Int32)) % (5 : Int32))), .val (.int (p1 &&& (3 : Int32))), .val (.int z5), .val (.ref w_AES_128_CBC), .val (.int (1 : Int32)), .unset, .unset] [(.int ((p0 &&& (2147483647 : Int32)) % (5 : Int32)))]) _
    refine XS.iconst X2.here hx rfl (hb hby at_96) ?_
    show Sp p e below T2 (mkF m 97 #[.val (.int p0), .val (.int p1), .val (.int p2), .val (.int ((p0 &&& (2147483647 : Int32)) % (5 : Int32))), .val (.int (p1 &&& (3 : Int32))), .val (.int z5), .val (.ref w_AES_128_CBC), .val (.int (1 : Int32)), .unset, .unset] [(.int (2 : Int32)), (.int ((p0 &&& (2147483647 : Int32)) % (5 : Int32)))]) _
    refine XS.icmpNo X2.here hx rfl (hb hby at_97) rfl (feq hc4).1 ?_
    show Sp p e below T2 (mkF m 100 #[.val (.int p0), .val (.int p1), .val (.int p2), .val (.int ((p0 &&& (2147483647 : Int32)) % (5 : Int32))), .val (.int (p1 &&& (3 : Int32))), .val (.int z5), .val (.ref w_AES_128_CBC), .val (.int (1 : Int32)), .unset, .unset] []) _
    refine XS.iloadN X2.here hx rfl (hb hby at_100) rfl ?_
    show Sp p e below T2 (mkF m 101 #[.val (.int p0), .val (.int p1), .val (.int p2), .val (.int ((p0 &&& (2147483647 : Int32)) % (5 : Int32))), .val (.int (p1 &&& (3 : Int32))), .val (.int z5), .val (.ref w_AES_128_CBC), .val (.int (1 : Int32)), .unset, .unset] [(.int ((p0 &&& (2147483647 : Int32)) % (5 : Int32)))]) _
    refine XS.iconst X2.here hx rfl (hb hby at_101) ?_
    show Sp p e below T2 (mkF m 102 #[.val (.int p0), .val (.int p1), .val (.int p2), .val (.int ((p0 &&& (2147483647 : Int32)) % (5 : Int32))), .val (.int (p1 &&& (3 : Int32))), .val (.int z5), .val (.ref w_AES_128_CBC), .val (.int (1 : Int32)), .unset, .unset] [(.int (4 : Int32)), (.int ((p0 &&& (2147483647 : Int32)) % (5 : Int32)))]) _
    refine XS.icmpYes X2.here hx rfl (pc0 := 102) (pc' := 109) rfl (hb hby at_102) rfl (feq (by rw [hc5]; decide : ¬ (((p0 &&& (2147483647 : Int32)) % (5 : Int32)) = (4 : Int32)))).2 (by decide) (by decide) ?_
    show Sp p e below T2 (mkF m 109 #[.val (.int p0), .val (.int p1), .val (.int p2), .val (.int ((p0 &&& (2147483647 : Int32)) % (5 : Int32))), .val (.int (p1 &&& (3 : Int32))), .val (.int z5), .val (.ref w_AES_128_CBC), .val (.int (1 : Int32)), .unset, .unset] []) _
    refine XS.iconst X2.here hx rfl (hb hby at_109) ?_
    show Sp p e below T2 (mkF m 110 #[.val (.int p0), .val (.int p1), .val (.int p2), .val (.int ((p0 &&& (2147483647 : Int32)) % (5 : Int32))), .val (.int (p1 &&& (3 : Int32))), .val (.int z5), .val (.ref w_AES_128_CBC), .val (.int (1 : Int32)), .unset, .unset] [(.int (0 : Int32))]) _
    refine XS.istore X2.here hx rfl (hb hby at_110) rfl (l' := #[.val (.int p0), .val (.int p1), .val (.int p2), .val (.int ((p0 &&& (2147483647 : Int32)) % (5 : Int32))), .val (.int (p1 &&& (3 : Int32))), .val (.int z5), .val (.ref w_AES_128_CBC), .val (.int (1 : Int32)), .val (.int (0 : Int32)), .unset]) rfl ?_
    show Sp p e below T2 (mkF m 112 #[.val (.int p0), .val (.int p1), .val (.int p2), .val (.int ((p0 &&& (2147483647 : Int32)) % (5 : Int32))), .val (.int (p1 &&& (3 : Int32))), .val (.int z5), .val (.ref w_AES_128_CBC), .val (.int (1 : Int32)), .val (.int (0 : Int32)), .unset] []) _
    refine XS.iload X2.here hx rfl (hb hby at_112) rfl ?_
    show Sp p e below T2 (mkF m 114 #[.val (.int p0), .val (.int p1), .val (.int p2), .val (.int ((p0 &&& (2147483647 : Int32)) % (5 : Int32))), .val (.int (p1 &&& (3 : Int32))), .val (.int z5), .val (.ref w_AES_128_CBC), .val (.int (1 : Int32)), .val (.int (0 : Int32)), .unset] [(.int z5)]) _
    refine XS.bipush X2.here hx rfl (hb hby at_114) ?_
    show Sp p e below T2 (mkF m 116 #[.val (.int p0), .val (.int p1), .val (.int p2), .val (.int ((p0 &&& (2147483647 : Int32)) % (5 : Int32))), .val (.int (p1 &&& (3 : Int32))), .val (.int z5), .val (.ref w_AES_128_CBC), .val (.int (1 : Int32)), .val (.int (0 : Int32)), .unset] [(.int (16 : Int32)), (.int z5)]) _
    refine XS.icmpYes X2.here hx rfl (pc0 := 116) (pc' := 124) rfl (hb hby at_116) rfl (feq hc6).2 (by decide) (by decide) ?_
    show Sp p e below T2 (mkF m 124 #[.val (.int p0), .val (.int p1), .val (.int p2), .val (.int ((p0 &&& (2147483647 : Int32)) % (5 : Int32))), .val (.int (p1 &&& (3 : Int32))), .val (.int z5), .val (.ref w_AES_128_CBC), .val (.int (1 : Int32)), .val (.int (0 : Int32)), .unset] []) _
    refine XS.iload X2.here hx rfl (hb hby at_124) rfl ?_
    show Sp p e below T2 (mkF m 126 #[.val (.int p0), .val (.int p1), .val (.int p2), .val (.int ((p0 &&& (2147483647 : Int32)) % (5 : Int32))), .val (.int (p1 &&& (3 : Int32))), .val (.int z5), .val (.ref w_AES_128_CBC), .val (.int (1 : Int32)), .val (.int (0 : Int32)), .unset] [(.int z5)]) _
    refine XS.bipush X2.here hx rfl (hb hby at_126) ?_
    show Sp p e below T2 (mkF m 128 #[.val (.int p0), .val (.int p1), .val (.int p2), .val (.int ((p0 &&& (2147483647 : Int32)) % (5 : Int32))), .val (.int (p1 &&& (3 : Int32))), .val (.int z5), .val (.ref w_AES_128_CBC), .val (.int (1 : Int32)), .val (.int (0 : Int32)), .unset] [(.int (32 : Int32)), (.int z5)]) _
    refine XS.icmpYes X2.here hx rfl (pc0 := 128) (pc' := 140) rfl (hb hby at_128) rfl (feq hc7).2 (by decide) (by decide) ?_
    show Sp p e below T2 (mkF m 140 #[.val (.int p0), .val (.int p1), .val (.int p2), .val (.int ((p0 &&& (2147483647 : Int32)) % (5 : Int32))), .val (.int (p1 &&& (3 : Int32))), .val (.int z5), .val (.ref w_AES_128_CBC), .val (.int (1 : Int32)), .val (.int (0 : Int32)), .unset] []) _
    refine XS.iconst X2.here hx rfl (hb hby at_140) ?_
    show Sp p e below T2 (mkF m 141 #[.val (.int p0), .val (.int p1), .val (.int p2), .val (.int ((p0 &&& (2147483647 : Int32)) % (5 : Int32))), .val (.int (p1 &&& (3 : Int32))), .val (.int z5), .val (.ref w_AES_128_CBC), .val (.int (1 : Int32)), .val (.int (0 : Int32)), .unset] [(.int (0 : Int32))]) _
    refine XS.istore X2.here hx rfl (hb hby at_141) rfl (l' := #[.val (.int p0), .val (.int p1), .val (.int p2), .val (.int ((p0 &&& (2147483647 : Int32)) % (5 : Int32))), .val (.int (p1 &&& (3 : Int32))), .val (.int z5), .val (.ref w_AES_128_CBC), .val (.int (1 : Int32)), .val (.int (0 : Int32)), .val (.int (0 : Int32))]) rfl ?_
    show Sp p e below T2 (mkF m 143 #[.val (.int p0), .val (.int p1), .val (.int p2), .val (.int ((p0 &&& (2147483647 : Int32)) % (5 : Int32))), .val (.int (p1 &&& (3 : Int32))), .val (.int z5), .val (.ref w_AES_128_CBC), .val (.int (1 : Int32)), .val (.int (0 : Int32)), .val (.int (0 : Int32))] []) _
    refine XS.aload X2.here hx rfl (hb hby at_143) rfl rfl ?_
    show Sp p e below T2 (mkF m 145 #[.val (.int p0), .val (.int p1), .val (.int p2), .val (.int ((p0 &&& (2147483647 : Int32)) % (5 : Int32))), .val (.int (p1 &&& (3 : Int32))), .val (.int z5), .val (.ref w_AES_128_CBC), .val (.int (1 : Int32)), .val (.int (0 : Int32)), .val (.int (0 : Int32))] [(.ref w_AES_128_CBC)]) _
    refine XS.iload X2.here hx rfl (hb hby at_145) rfl ?_
    show Sp p e below T2 (mkF m 147 #[.val (.int p0), .val (.int p1), .val (.int p2), .val (.int ((p0 &&& (2147483647 : Int32)) % (5 : Int32))), .val (.int (p1 &&& (3 : Int32))), .val (.int z5), .val (.ref w_AES_128_CBC), .val (.int (1 : Int32)), .val (.int (0 : Int32)), .val (.int (0 : Int32))] [(.int z5), (.ref w_AES_128_CBC)]) _
    refine st3.trans ?_
    show Sp p e below T3 (mkF m 150 #[.val (.int p0), .val (.int p1), .val (.int p2), .val (.int ((p0 &&& (2147483647 : Int32)) % (5 : Int32))), .val (.int (p1 &&& (3 : Int32))), .val (.int z5), .val (.ref w_AES_128_CBC), .val (.int (1 : Int32)), .val (.int (0 : Int32)), .val (.int (0 : Int32))] [(.int (0 : Int32))]) _
    refine XS.iload X3.here hx rfl (hb hby at_150) rfl ?_
    show Sp p e below T3 (mkF m 152 #[.val (.int p0), .val (.int p1), .val (.int p2), .val (.int ((p0 &&& (2147483647 : Int32)) % (5 : Int32))), .val (.int (p1 &&& (3 : Int32))), .val (.int z5), .val (.ref w_AES_128_CBC), .val (.int (1 : Int32)), .val (.int (0 : Int32)), .val (.int (0 : Int32))] [(.int (0 : Int32)), (.int (0 : Int32))]) _
    refine XS.icmpNo X3.here hx rfl (hb hby at_152) rfl (teq (by decide : (0 : Int32) = (0 : Int32))).2 ?_
    show Sp p e below T3 (mkF m 155 #[.val (.int p0), .val (.int p1), .val (.int p2), .val (.int ((p0 &&& (2147483647 : Int32)) % (5 : Int32))), .val (.int (p1 &&& (3 : Int32))), .val (.int z5), .val (.ref w_AES_128_CBC), .val (.int (1 : Int32)), .val (.int (0 : Int32)), .val (.int (0 : Int32))] []) _
    refine XS.iconst X3.here hx rfl (hb hby at_155) ?_
    show Sp p e below T3 (mkF m 156 #[.val (.int p0), .val (.int p1), .val (.int p2), .val (.int ((p0 &&& (2147483647 : Int32)) % (5 : Int32))), .val (.int (p1 &&& (3 : Int32))), .val (.int z5), .val (.ref w_AES_128_CBC), .val (.int (1 : Int32)), .val (.int (0 : Int32)), .val (.int (0 : Int32))] [(.int (1 : Int32))]) _
    refine XS.goto X3.here hx rfl (pc0 := 156) (pc' := 160) rfl (hb hby at_156) (by decide) (by decide) ?_
    show Sp p e below T3 (mkF m 160 #[.val (.int p0), .val (.int p1), .val (.int p2), .val (.int ((p0 &&& (2147483647 : Int32)) % (5 : Int32))), .val (.int (p1 &&& (3 : Int32))), .val (.int z5), .val (.ref w_AES_128_CBC), .val (.int (1 : Int32)), .val (.int (0 : Int32)), .val (.int (0 : Int32))] [(.int (1 : Int32))]) _
    exact retN X3 hx (t := .boolean) Bd.returns (by simp) (hb hby at_160) hr
  · skip
    exact ⟨rfl, N3⟩
def Q23 (Z : State) (w_AES_128_GCM : Addr) (w_AES_256_GCM : Addr) (w_AES_CBC_PKCS5PADDING : Addr) (w_AES_128_CBC : Addr) (w_AES_GCM_NOPADDING : Addr) (kl_AES_128_GCM : Addr) (kl_AES_256_GCM : Addr) (kl_AES_CBC_PKCS5PADDING : Addr) (kl_AES_128_CBC : Addr) (kl_AES_GCM_NOPADDING : Addr) (k_kl_AES_128_GCM : ClassId) (k_kl_AES_256_GCM : ClassId) (k_kl_AES_CBC_PKCS5PADDING : ClassId) (k_kl_AES_128_CBC : ClassId) (k_kl_AES_GCM_NOPADDING : ClassId) (p1 : Int32) (h0 : Heap) (n0 : Nat) (v : Option Value) (h : Heap) (L : List Loc) : Prop := v = some (.int (1 : Int32)) ∧ Fr n0 L ∧ h = h0
set_option maxRecDepth 65536 in
set_option maxHeartbeats 40000000 in
theorem rm23 (l : Launch) (Z : State) (a0 : Array Value) (hw : ∀ d ∈ tables_1, d.before a0 Z = true) (ws : List Jvm.Cond) (w_AES_128_GCM w_AES_256_GCM w_AES_CBC_PKCS5PADDING w_AES_128_CBC w_AES_GCM_NOPADDING kl_AES_128_GCM kl_AES_256_GCM kl_AES_CBC_PKCS5PADDING kl_AES_128_CBC kl_AES_GCM_NOPADDING : Addr) (k_kl_AES_128_GCM : ClassId) (k_kl_AES_256_GCM : ClassId) (k_kl_AES_CBC_PKCS5PADDING : ClassId) (k_kl_AES_128_CBC : ClassId) (k_kl_AES_GCM_NOPADDING : ClassId) (hp : Perm Z w_AES_128_GCM w_AES_256_GCM w_AES_CBC_PKCS5PADDING w_AES_128_CBC w_AES_GCM_NOPADDING kl_AES_128_GCM kl_AES_256_GCM kl_AES_CBC_PKCS5PADDING kl_AES_128_CBC kl_AES_GCM_NOPADDING k_kl_AES_128_GCM k_kl_AES_256_GCM k_kl_AES_CBC_PKCS5PADDING k_kl_AES_128_CBC k_kl_AES_GCM_NOPADDING) (p1 : Int32) (h0 : Heap) (n0 : Nat) (O0 : Old Z n0 h0) (hc1 : ¬ (p1 = (16 : Int32))) (hc2 : p1 = (32 : Int32)) :
    MetFree l y1 (head1 (Jvm.Cond.code y1 prog_31_method_7_code 6 (some .boolean) :: ws) ({ frames := 0, cells := 0, slots := 0, locals := 0 } : Room)) (fun a U => a = #[(.ref w_AES_GCM_NOPADDING), (.int p1)] ∧ Z.Warmed39 U.vm ∧ U.heap = h0) (fun _ _ _ _ _ => True) (fun _ U o U' => ∃ v L, o = .returned v ∧ Q23 Z w_AES_128_GCM w_AES_256_GCM w_AES_CBC_PKCS5PADDING w_AES_128_CBC w_AES_GCM_NOPADDING kl_AES_128_GCM kl_AES_256_GCM kl_AES_CBC_PKCS5PADDING kl_AES_128_CBC kl_AES_GCM_NOPADDING k_kl_AES_128_GCM k_kl_AES_256_GCM k_kl_AES_CBC_PKCS5PADDING k_kl_AES_128_CBC k_kl_AES_GCM_NOPADDING p1 h0 n0 v U'.heap L ∧ FrameEnd U o U' L ({ frames := 0, cells := 0, slots := 0, locals := 0 } : Room).cells ({ frames := 0, cells := 0, slots := 0, locals := 0 } : Room).slots) := by
  refine MetFree.of_bodySF (plainFor_of_name pn_2) hisR ?_
  intro p e s m args below meth c s₁ Bd hml0 hP hK
  obtain ⟨rfl, hZ, hh⟩ := hP
  have hx := Bd.exec
  have hby := Bd.bytes
  have hml : c.maxLocals = 6 := hml0
  have hown : s.vm.findClass "com/example/cloakfield/cloakfield/crypto/EncryptionAlgorithm" = some m.cls := findClass_of_methodNamed Bd.named
  have hnm := (name_of_methodNamed Bd.named Bd.method).1
  have X0 : Stand p l e ({ frames := 0, cells := 0, slots := 0, locals := 0 } : Room) s m #[(.ref w_AES_GCM_NOPADDING), (.int p1)] below meth c s₁ [] 0 0 := Stand.of_body Bd
  have e0 : s₁.heap = h0 := by rw [← hh, Bd.state]; rfl
  have N0 := Fr.nil n0
  have hp' := hp
  obtain ⟨S_w_AES_128_GCM, E_w_AES_128_GCM, S_w_AES_256_GCM, E_w_AES_256_GCM, S_w_AES_CBC_PKCS5PADDING, E_w_AES_CBC_PKCS5PADDING, S_w_AES_128_CBC, E_w_AES_128_CBC, S_w_AES_GCM_NOPADDING, E_w_AES_GCM_NOPADDING, F_keyLengths_w_AES_128_GCM, V_kl_AES_128_GCM, F_keyLengths_w_AES_256_GCM, V_kl_AES_256_GCM, F_keyLengths_w_AES_CBC_PKCS5PADDING, V_kl_AES_CBC_PKCS5PADDING, F_keyLengths_w_AES_128_CBC, V_kl_AES_128_CBC, F_keyLengths_w_AES_GCM_NOPADDING, V_kl_AES_GCM_NOPADDING⟩ := hp'
  have pre0 : ∀ t, Steps p.tables e below (s₁.setTop (mkF m 0 #[.val (.ref w_AES_GCM_NOPADDING), .val (.int p1), .unset, .unset, .unset, .unset] [])) t → Steps p.tables e below (s₁.setTop (entryFrame m #[(.ref w_AES_GCM_NOPADDING), (.int p1)] 6)) t := fun t k => castTop (ef_2_0 m w_AES_GCM_NOPADDING p1) k
  obtain ⟨T1, X1, e1, st1⟩ := getF X0 hx hZ hown (host := "") (Or.inl (hw _ (List.mem_of_getElem? (i := 13) rfl))) Via.refl e0 (F_keyLengths_w_AES_GCM_NOPADDING.ext O0.2) (g := (mkF m 1 #[.val (.ref w_AES_GCM_NOPADDING), .val (.int p1), .unset, .unset, .unset, .unset] [(.ref w_AES_GCM_NOPADDING)])) rfl rfl (hb hby d2_1)
  obtain ⟨cl2, Ar2, -, S2, Nn2, -, -⟩ := (V_kl_AES_GCM_NOPADDING.ext O0.2)
  obtain ⟨cl3, Ar3, -, S3, -, H3, -⟩ := (V_kl_AES_GCM_NOPADDING.ext O0.2)
  have hin3 : ¬ ((0 : Int32) < 0 ∨ cl3.slots.size ≤ ((0 : Int32)).toNatClampNeg) := inb_of S3 ⟨by decide, by decide⟩
  have hat3 : cl3.slots[((0 : Int32)).toNatClampNeg]? = some (.int (16 : Int32)) := H3.at hin3 rfl
  obtain ⟨cl4, Ar4, -, S4, -, H4, -⟩ := (V_kl_AES_GCM_NOPADDING.ext O0.2)
  have hin4 : ¬ (((0 : Int32) + (1 : Int32)) < 0 ∨ cl4.slots.size ≤ (((0 : Int32) + (1 : Int32))).toNatClampNeg) := inb_of S4 ⟨by decide, by decide⟩
  have hat4 : cl4.slots[(((0 : Int32) + (1 : Int32))).toNatClampNeg]? = some (.int (32 : Int32)) := H4.at hin4 rfl
  obtain ⟨fs, hr, hrun, hended, hW, hsame⟩ := X1.leave (v := some (.int (1 : Int32))) (fun h => by rw [Bd.returns] at h; cases h)
  refine ⟨_, _, pre0 _ ?_, hrun, hended, _, _, rfl, ?_, ⟨_, rfl⟩, hW, hsame.mono (by decide) (by decide)⟩
  · show Sp p e below s₁ (mkF m 0 #[.val (.ref w_AES_GCM_NOPADDING), .val (.int p1), .unset, .unset, .unset, .unset] []) _
    refine XS.aloadN X0.here hx rfl (hb hby d2_0) rfl rfl ?_
    show Sp p e below s₁ (mkF m 1 #[.val (.ref w_AES_GCM_NOPADDING), .val (.int p1), .unset, .unset, .unset, .unset] [(.ref w_AES_GCM_NOPADDING)]) _
    refine st1 _ ?_
    show Sp p e below T1 (mkF m 4 #[.val (.ref w_AES_GCM_NOPADDING), .val (.int p1), .unset, .unset, .unset, .unset] [(.ref kl_AES_GCM_NOPADDING)]) _
    refine XS.astoreN X1.here hx rfl (hb hby d2_4) rfl rfl (l' := #[.val (.ref w_AES_GCM_NOPADDING), .val (.int p1), .val (.ref kl_AES_GCM_NOPADDING), .unset, .unset, .unset]) rfl ?_
    show Sp p e below T1 (mkF m 5 #[.val (.ref w_AES_GCM_NOPADDING), .val (.int p1), .val (.ref kl_AES_GCM_NOPADDING), .unset, .unset, .unset] []) _
    refine XS.aloadN X1.here hx rfl (hb hby d2_5) rfl rfl ?_
    show Sp p e below T1 (mkF m 6 #[.val (.ref w_AES_GCM_NOPADDING), .val (.int p1), .val (.ref kl_AES_GCM_NOPADDING), .unset, .unset, .unset] [(.ref kl_AES_GCM_NOPADDING)]) _
    refine X1.arraylength hx (by rw [e1]; exact Ar2.1) (State.isArrayOf_alike hZ.alike Ar2.2.1) (g := (mkF m 6 #[.val (.ref w_AES_GCM_NOPADDING), .val (.int p1), .val (.ref kl_AES_GCM_NOPADDING), .unset, .unset, .unset] [(.ref kl_AES_GCM_NOPADDING)])) rfl rfl (hb hby d2_6) _ ?_
    rw [len_of S2 Nn2]
    show Sp p e below T1 (mkF m 7 #[.val (.ref w_AES_GCM_NOPADDING), .val (.int p1), .val (.ref kl_AES_GCM_NOPADDING), .unset, .unset, .unset] [(.int (2 : Int32))]) _
    refine XS.istoreN X1.here hx rfl (hb hby d2_7) rfl (l' := #[.val (.ref w_AES_GCM_NOPADDING), .val (.int p1), .val (.ref kl_AES_GCM_NOPADDING), .val (.int (2 : Int32)), .unset, .unset]) rfl ?_
    show Sp p e below T1 (mkF m 8 #[.val (.ref w_AES_GCM_NOPADDING), .val (.int p1), .val (.ref kl_AES_GCM_NOPADDING), .val (.int (2 : Int32)), .unset, .unset] []) _
    refine XS.iconst X1.here hx rfl (hb hby d2_8) ?_
    show Sp p e below T1 (mkF m 9 #[.val (.ref w_AES_GCM_NOPADDING), .val (.int p1), .val (.ref kl_AES_GCM_NOPADDING), .val (.int (2 : Int32)), .unset, .unset] [(.int (0 : Int32))]) _
    refine XS.istore X1.here hx rfl (hb hby d2_9) rfl (l' := #[.val (.ref w_AES_GCM_NOPADDING), .val (.int p1), .val (.ref kl_AES_GCM_NOPADDING), .val (.int (2 : Int32)), .val (.int (0 : Int32)), .unset]) rfl ?_
    show Sp p e below T1 (mkF m 11 #[.val (.ref w_AES_GCM_NOPADDING), .val (.int p1), .val (.ref kl_AES_GCM_NOPADDING), .val (.int (2 : Int32)), .val (.int (0 : Int32)), .unset] []) _
    refine XS.iload X1.here hx rfl (hb hby d2_11) rfl ?_
    show Sp p e below T1 (mkF m 13 #[.val (.ref w_AES_GCM_NOPADDING), .val (.int p1), .val (.ref kl_AES_GCM_NOPADDING), .val (.int (2 : Int32)), .val (.int (0 : Int32)), .unset] [(.int (0 : Int32))]) _
    refine XS.iloadN X1.here hx rfl (hb hby d2_13) rfl ?_
    show Sp p e below T1 (mkF m 14 #[.val (.ref w_AES_GCM_NOPADDING), .val (.int p1), .val (.ref kl_AES_GCM_NOPADDING), .val (.int (2 : Int32)), .val (.int (0 : Int32)), .unset] [(.int (2 : Int32)), (.int (0 : Int32))]) _
    refine XS.icmpNo X1.here hx rfl (hb hby d2_14) rfl (tlt (by decide : (0 : Int32) < (2 : Int32))).2.1 ?_
    show Sp p e below T1 (mkF m 17 #[.val (.ref w_AES_GCM_NOPADDING), .val (.int p1), .val (.ref kl_AES_GCM_NOPADDING), .val (.int (2 : Int32)), .val (.int (0 : Int32)), .unset] []) _
    refine XS.aloadN X1.here hx rfl (hb hby d2_17) rfl rfl ?_
    show Sp p e below T1 (mkF m 18 #[.val (.ref w_AES_GCM_NOPADDING), .val (.int p1), .val (.ref kl_AES_GCM_NOPADDING), .val (.int (2 : Int32)), .val (.int (0 : Int32)), .unset] [(.ref kl_AES_GCM_NOPADDING)]) _
    refine XS.iload X1.here hx rfl (hb hby d2_18) rfl ?_
    show Sp p e below T1 (mkF m 20 #[.val (.ref w_AES_GCM_NOPADDING), .val (.int p1), .val (.ref kl_AES_GCM_NOPADDING), .val (.int (2 : Int32)), .val (.int (0 : Int32)), .unset] [(.int (0 : Int32)), (.ref kl_AES_GCM_NOPADDING)]) _
    refine X1.iaload hx (j := (0 : Int32)) (v := (.int (16 : Int32))) (by rw [e1]; exact Ar3.1) (State.isArrayOf_alike hZ.alike Ar3.2.1) Ar3.2.2 hin3 hat3 (g := (mkF m 20 #[.val (.ref w_AES_GCM_NOPADDING), .val (.int p1), .val (.ref kl_AES_GCM_NOPADDING), .val (.int (2 : Int32)), .val (.int (0 : Int32)), .unset] [(.int (0 : Int32)), (.ref kl_AES_GCM_NOPADDING)])) rfl rfl (hb hby d2_20) _ ?_
    show Sp p e below T1 (mkF m 21 #[.val (.ref w_AES_GCM_NOPADDING), .val (.int p1), .val (.ref kl_AES_GCM_NOPADDING), .val (.int (2 : Int32)), .val (.int (0 : Int32)), .unset] [(.int (16 : Int32))]) _
    refine XS.istore X1.here hx rfl (hb hby d2_21) rfl (l' := #[.val (.ref w_AES_GCM_NOPADDING), .val (.int p1), .val (.ref kl_AES_GCM_NOPADDING), .val (.int (2 : Int32)), .val (.int (0 : Int32)), .val (.int (16 : Int32))]) rfl ?_
    show Sp p e below T1 (mkF m 23 #[.val (.ref w_AES_GCM_NOPADDING), .val (.int p1), .val (.ref kl_AES_GCM_NOPADDING), .val (.int (2 : Int32)), .val (.int (0 : Int32)), .val (.int (16 : Int32))] []) _
    refine XS.iload X1.here hx rfl (hb hby d2_23) rfl ?_
    show Sp p e below T1 (mkF m 25 #[.val (.ref w_AES_GCM_NOPADDING), .val (.int p1), .val (.ref kl_AES_GCM_NOPADDING), .val (.int (2 : Int32)), .val (.int (0 : Int32)), .val (.int (16 : Int32))] [(.int (16 : Int32))]) _
    refine XS.iloadN X1.here hx rfl (hb hby d2_25) rfl ?_
    show Sp p e below T1 (mkF m 26 #[.val (.ref w_AES_GCM_NOPADDING), .val (.int p1), .val (.ref kl_AES_GCM_NOPADDING), .val (.int (2 : Int32)), .val (.int (0 : Int32)), .val (.int (16 : Int32))] [(.int p1), (.int (16 : Int32))]) _
    refine XS.icmpYes X1.here hx rfl (pc0 := 26) (pc' := 31) rfl (hb hby d2_26) rfl (feq (fun q => hc1 (Eq.symm q) : ¬ ((16 : Int32) = p1))).2 (by decide) (by decide) ?_
    show Sp p e below T1 (mkF m 31 #[.val (.ref w_AES_GCM_NOPADDING), .val (.int p1), .val (.ref kl_AES_GCM_NOPADDING), .val (.int (2 : Int32)), .val (.int (0 : Int32)), .val (.int (16 : Int32))] []) _
    refine XS.iinc X1.here hx rfl (hb hby d2_31) rfl (l' := #[.val (.ref w_AES_GCM_NOPADDING), .val (.int p1), .val (.ref kl_AES_GCM_NOPADDING), .val (.int (2 : Int32)), .val (.int ((0 : Int32) + (1 : Int32))), .val (.int (16 : Int32))]) rfl ?_
    show Sp p e below T1 (mkF m 34 #[.val (.ref w_AES_GCM_NOPADDING), .val (.int p1), .val (.ref kl_AES_GCM_NOPADDING), .val (.int (2 : Int32)), .val (.int ((0 : Int32) + (1 : Int32))), .val (.int (16 : Int32))] []) _
    refine XS.goto X1.here hx rfl (pc0 := 34) (pc' := 11) rfl (hb hby d2_34) (by decide) (by decide) ?_
    show Sp p e below T1 (mkF m 11 #[.val (.ref w_AES_GCM_NOPADDING), .val (.int p1), .val (.ref kl_AES_GCM_NOPADDING), .val (.int (2 : Int32)), .val (.int ((0 : Int32) + (1 : Int32))), .val (.int (16 : Int32))] []) _
    refine XS.iload X1.here hx rfl (hb hby d2_11) rfl ?_
    show Sp p e below T1 (mkF m 13 #[.val (.ref w_AES_GCM_NOPADDING), .val (.int p1), .val (.ref kl_AES_GCM_NOPADDING), .val (.int (2 : Int32)), .val (.int ((0 : Int32) + (1 : Int32))), .val (.int (16 : Int32))] [(.int ((0 : Int32) + (1 : Int32)))]) _
    refine XS.iloadN X1.here hx rfl (hb hby d2_13) rfl ?_
    show Sp p e below T1 (mkF m 14 #[.val (.ref w_AES_GCM_NOPADDING), .val (.int p1), .val (.ref kl_AES_GCM_NOPADDING), .val (.int (2 : Int32)), .val (.int ((0 : Int32) + (1 : Int32))), .val (.int (16 : Int32))] [(.int (2 : Int32)), (.int ((0 : Int32) + (1 : Int32)))]) _
    refine XS.icmpNo X1.here hx rfl (hb hby d2_14) rfl (tlt (by decide : ((0 : Int32) + (1 : Int32)) < (2 : Int32))).2.1 ?_
    show Sp p e below T1 (mkF m 17 #[.val (.ref w_AES_GCM_NOPADDING), .val (.int p1), .val (.ref kl_AES_GCM_NOPADDING), .val (.int (2 : Int32)), .val (.int ((0 : Int32) + (1 : Int32))), .val (.int (16 : Int32))] []) _
    refine XS.aloadN X1.here hx rfl (hb hby d2_17) rfl rfl ?_
    show Sp p e below T1 (mkF m 18 #[.val (.ref w_AES_GCM_NOPADDING), .val (.int p1), .val (.ref kl_AES_GCM_NOPADDING), .val (.int (2 : Int32)), .val (.int ((0 : Int32) + (1 : Int32))), .val (.int (16 : Int32))] [(.ref kl_AES_GCM_NOPADDING)]) _
    refine XS.iload X1.here hx rfl (hb hby d2_18) rfl ?_
    show Sp p e below T1 (mkF m 20 #[.val (.ref w_AES_GCM_NOPADDING), .val (.int p1), .val (.ref kl_AES_GCM_NOPADDING), .val (.int (2 : Int32)), .val (.int ((0 : Int32) + (1 : Int32))), .val (.int (16 : Int32))] [(.int ((0 : Int32) + (1 : Int32))), (.ref kl_AES_GCM_NOPADDING)]) _
    refine X1.iaload hx (j := ((0 : Int32) + (1 : Int32))) (v := (.int (32 : Int32))) (by rw [e1]; exact Ar4.1) (State.isArrayOf_alike hZ.alike Ar4.2.1) Ar4.2.2 hin4 hat4 (g := (mkF m 20 #[.val (.ref w_AES_GCM_NOPADDING), .val (.int p1), .val (.ref kl_AES_GCM_NOPADDING), .val (.int (2 : Int32)), .val (.int ((0 : Int32) + (1 : Int32))), .val (.int (16 : Int32))] [(.int ((0 : Int32) + (1 : Int32))), (.ref kl_AES_GCM_NOPADDING)])) rfl rfl (hb hby d2_20) _ ?_
    show Sp p e below T1 (mkF m 21 #[.val (.ref w_AES_GCM_NOPADDING), .val (.int p1), .val (.ref kl_AES_GCM_NOPADDING), .val (.int (2 : Int32)), .val (.int ((0 : Int32) + (1 : Int32))), .val (.int (16 : Int32))] [(.int (32 : Int32))]) _
    refine XS.istore X1.here hx rfl (hb hby d2_21) rfl (l' := #[.val (.ref w_AES_GCM_NOPADDING), .val (.int p1), .val (.ref kl_AES_GCM_NOPADDING), .val (.int (2 : Int32)), .val (.int ((0 : Int32) + (1 : Int32))), .val (.int (32 : Int32))]) rfl ?_
    show Sp p e below T1 (mkF m 23 #[.val (.ref w_AES_GCM_NOPADDING), .val (.int p1), .val (.ref kl_AES_GCM_NOPADDING), .val (.int (2 : Int32)), .val (.int ((0 : Int32) + (1 : Int32))), .val (.int (32 : Int32))] []) _
    refine XS.iload X1.here hx rfl (hb hby d2_23) rfl ?_
    show Sp p e below T1 (mkF m 25 #[.val (.ref w_AES_GCM_NOPADDING), .val (.int p1), .val (.ref kl_AES_GCM_NOPADDING), .val (.int (2 : Int32)), .val (.int ((0 : Int32) + (1 : Int32))), .val (.int (32 : Int32))] [(.int (32 : Int32))]) _
    refine XS.iloadN X1.here hx rfl (hb hby d2_25) rfl ?_
    show Sp p e below T1 (mkF m 26 #[.val (.ref w_AES_GCM_NOPADDING), .val (.int p1), .val (.ref kl_AES_GCM_NOPADDING), .val (.int (2 : Int32)), .val (.int ((0 : Int32) + (1 : Int32))), .val (.int (32 : Int32))] [(.int p1), (.int (32 : Int32))]) _
    refine XS.icmpNo X1.here hx rfl (hb hby d2_26) rfl (teq (Eq.symm hc2)).2 ?_
    show Sp p e below T1 (mkF m 29 #[.val (.ref w_AES_GCM_NOPADDING), .val (.int p1), .val (.ref kl_AES_GCM_NOPADDING), .val (.int (2 : Int32)), .val (.int ((0 : Int32) + (1 : Int32))), .val (.int (32 : Int32))] []) _
    refine XS.iconst X1.here hx rfl (hb hby d2_29) ?_
    show Sp p e below T1 (mkF m 30 #[.val (.ref w_AES_GCM_NOPADDING), .val (.int p1), .val (.ref kl_AES_GCM_NOPADDING), .val (.int (2 : Int32)), .val (.int ((0 : Int32) + (1 : Int32))), .val (.int (32 : Int32))] [(.int (1 : Int32))]) _
    exact retN X1 hx (t := .boolean) Bd.returns (by simp) (hb hby d2_30) hr
  · show Q23 Z w_AES_128_GCM w_AES_256_GCM w_AES_CBC_PKCS5PADDING w_AES_128_CBC w_AES_GCM_NOPADDING kl_AES_128_GCM kl_AES_256_GCM kl_AES_CBC_PKCS5PADDING kl_AES_128_CBC kl_AES_GCM_NOPADDING k_kl_AES_128_GCM k_kl_AES_256_GCM k_kl_AES_CBC_PKCS5PADDING k_kl_AES_128_CBC k_kl_AES_GCM_NOPADDING p1 h0 n0 _ T1.heap _
    rw [e1]
    exact ⟨rfl, N0, rfl⟩
set_option maxRecDepth 65536 in
set_option maxHeartbeats 40000000 in
theorem rm24 (l : Launch) (Z : State) (a0 : Array Value) (hw : ∀ d ∈ tables_1, d.before a0 Z = true) (ws : List Jvm.Cond) (w_AES_128_GCM w_AES_256_GCM w_AES_CBC_PKCS5PADDING w_AES_128_CBC w_AES_GCM_NOPADDING kl_AES_128_GCM kl_AES_256_GCM kl_AES_CBC_PKCS5PADDING kl_AES_128_CBC kl_AES_GCM_NOPADDING : Addr) (k_kl_AES_128_GCM : ClassId) (k_kl_AES_256_GCM : ClassId) (k_kl_AES_CBC_PKCS5PADDING : ClassId) (k_kl_AES_128_CBC : ClassId) (k_kl_AES_GCM_NOPADDING : ClassId) (hp : Perm Z w_AES_128_GCM w_AES_256_GCM w_AES_CBC_PKCS5PADDING w_AES_128_CBC w_AES_GCM_NOPADDING kl_AES_128_GCM kl_AES_256_GCM kl_AES_CBC_PKCS5PADDING kl_AES_128_CBC kl_AES_GCM_NOPADDING k_kl_AES_128_GCM k_kl_AES_256_GCM k_kl_AES_CBC_PKCS5PADDING k_kl_AES_128_CBC k_kl_AES_GCM_NOPADDING) (p0 : Int32) (p1 : Int32) (p2 : Int32) (z5 : Int32) (h0 : Heap) (n0 : Nat) (O0 : Old Z n0 h0) (hcut : Cut_0_12 p0 p1 p2 ((p0 &&& (2147483647 : Int32)) % (5 : Int32)) (p1 &&& (3 : Int32)) z5) (hc2 : ¬ (((p0 &&& (2147483647 : Int32)) % (5 : Int32)) = (0 : Int32))) (hc3 : ¬ (((p0 &&& (2147483647 : Int32)) % (5 : Int32)) = (1 : Int32))) (hc4 : ((p0 &&& (2147483647 : Int32)) % (5 : Int32)) = (2 : Int32)) (hc5 : ¬ (z5 = (16 : Int32))) (hc6 : z5 = (32 : Int32)) :
    MetFree l x (head1 (Jvm.Cond.code x code maxLocals ret :: ws) room_1) (fun a U => a = #[(.int p0), (.int p1), (.int p2)] ∧ Z.Warmed39 U.vm ∧ U.heap = h0) (fun _ _ _ _ _ => True) (fun _ U o U' => ∃ v L, o = .returned v ∧ (v = some (.int (1 : Int32)) ∧ Fr n0 L) ∧ FrameEnd U o U' L 0 0) := by
  refine MetFree.of_bodySF (plainFor_of_name pn_1) hisR ?_
  intro p e s m args below meth c s₁ Bd hml0 hP hK
  obtain ⟨rfl, hZ, hh⟩ := hP
  have hx := Bd.exec
  have hby := Bd.bytes
  have hml : c.maxLocals = 10 := hml0
  have hown : s.vm.findClass "com/example/cloakfield/cloakfield/crypto/EncryptionAlgorithmAcceptsKeyLengthPinLaw" = some m.cls := findClass_of_methodNamed Bd.named
  have hnm := (name_of_methodNamed Bd.named Bd.method).1
  have X0 : Stand p l e room_1 s m #[(.int p0), (.int p1), (.int p2)] below meth c s₁ [] 0 0 := Stand.of_body Bd
  have e0 : s₁.heap = h0 := by rw [← hh, Bd.state]; rfl
  have N0 := Fr.nil n0
  have hp' := hp
  obtain ⟨S_w_AES_128_GCM, E_w_AES_128_GCM, S_w_AES_256_GCM, E_w_AES_256_GCM, S_w_AES_CBC_PKCS5PADDING, E_w_AES_CBC_PKCS5PADDING, S_w_AES_128_CBC, E_w_AES_128_CBC, S_w_AES_GCM_NOPADDING, E_w_AES_GCM_NOPADDING, F_keyLengths_w_AES_128_GCM, V_kl_AES_128_GCM, F_keyLengths_w_AES_256_GCM, V_kl_AES_256_GCM, F_keyLengths_w_AES_CBC_PKCS5PADDING, V_kl_AES_CBC_PKCS5PADDING, F_keyLengths_w_AES_128_CBC, V_kl_AES_128_CBC, F_keyLengths_w_AES_GCM_NOPADDING, V_kl_AES_GCM_NOPADDING⟩ := hp'
  have pre0 : ∀ t, Steps p.tables e below (s₁.setTop (mkF m 0 #[.val (.int p0), .val (.int p1), .val (.int p2), .unset, .unset, .unset, .unset, .unset, .unset, .unset] [])) t → Steps p.tables e below (s₁.setTop (entryFrame m #[(.int p0), (.int p1), (.int p2)] maxLocals)) t := fun t k => castTop (ef_0_0 m p0 p1 p2) k
  have st1 := hcut X0 hx hZ hw hby hown
  obtain ⟨_, _, ⟨T2, L2, k2, n2⟩, -, X2, ⟨Lc2, hQ2, l2, y2, z2⟩, st2⟩ := Jvm.LawKit.callS X0 hx (y := y0) hown (mvT hZ (hw _ (List.mem_of_getElem? (i := 1) rfl))) (mvT hZ (hw _ (List.mem_of_getElem? (i := 2) rfl))) (mvT hZ (hw _ (List.mem_of_getElem? (i := 3) rfl))) (mvT hZ (hw _ (List.mem_of_getElem? (i := 4) rfl))) (by decide) (backOf (W := 0) (rm7 l Z a0 hw [] w_AES_128_GCM w_AES_256_GCM w_AES_CBC_PKCS5PADDING w_AES_128_CBC w_AES_GCM_NOPADDING kl_AES_128_GCM kl_AES_256_GCM kl_AES_CBC_PKCS5PADDING kl_AES_128_CBC kl_AES_GCM_NOPADDING k_kl_AES_128_GCM k_kl_AES_256_GCM k_kl_AES_CBC_PKCS5PADDING k_kl_AES_128_CBC k_kl_AES_GCM_NOPADDING hp ((p0 &&& (2147483647 : Int32)) % (5 : Int32)) h0 n0 O0 hc2 hc3 hc4) hZ (hw _ (List.mem_of_getElem? (i := 4) rfl)) (hw _ (List.mem_of_getElem? (i := 3) rfl)) (by decide) (by decide)) (g := (mkF m 59 #[.val (.int p0), .val (.int p1), .val (.int p2), .val (.int ((p0 &&& (2147483647 : Int32)) % (5 : Int32))), .val (.int (p1 &&& (3 : Int32))), .val (.int z5), .unset, .unset, .unset, .unset] [(.int ((p0 &&& (2147483647 : Int32)) % (5 : Int32)))])) rfl (by rw [hml]; rfl) (argsL := [(.int ((p0 &&& (2147483647 : Int32)) % (5 : Int32)))]) (rest := []) (lenOf pd_0 rfl) rfl (by show 2 * 0 + _ ≤ _; exact Nat.le_of_eq rfl) (hb hby at_59) (fun _ _ => ⟨rfl, e0, (by decide : 0 + 0 ≤ _), (by decide : 0 + 0 ≤ _)⟩)
  dsimp only [Pt.U, Pt.locs, Pt.cells, Pt.slots] at X2 l2 y2 z2 st2 hQ2
  subst l2 y2 z2
  obtain ⟨rfl, Nq2, eq2⟩ := hQ2
  have N2 := Fr.app N0 Nq2
  obtain ⟨cq3, kq3, q3a, q3b, q3c⟩ := isOf hZ eq2 (E_w_AES_GCM_NOPADDING.ext O0.2)
  obtain ⟨_, _, ⟨T3, L3, k3, n3⟩, -, X3, ⟨Lc3, hQ3, l3, y3, z3⟩, st3⟩ := X2.virtualBack hx (y := y1) (z := y1) hown (mvT hZ (hw _ (List.mem_of_getElem? (i := 8) rfl))) (mvT hZ (hw _ (List.mem_of_getElem? (i := 9) rfl))) (notFace_of_selects (args := #[]) (mvT hZ (hw _ (List.mem_of_getElem? (i := 11) rfl)))) (mvT hZ (hw _ (List.mem_of_getElem? (i := 11) rfl))) (mvT hZ (hw _ (List.mem_of_getElem? (i := 10) rfl))) (by decide) (backOf (W := 0) (rm23 l Z a0 hw [] w_AES_128_GCM w_AES_256_GCM w_AES_CBC_PKCS5PADDING w_AES_128_CBC w_AES_GCM_NOPADDING kl_AES_128_GCM kl_AES_256_GCM kl_AES_CBC_PKCS5PADDING kl_AES_128_CBC kl_AES_GCM_NOPADDING k_kl_AES_128_GCM k_kl_AES_256_GCM k_kl_AES_CBC_PKCS5PADDING k_kl_AES_128_CBC k_kl_AES_GCM_NOPADDING hp z5 h0 n0 O0 hc5 hc6) hZ (hw _ (List.mem_of_getElem? (i := 12) rfl)) (hw _ (List.mem_of_getElem? (i := 6) rfl)) (by decide) (by decide)) q3a q3c (g := (mkF m 147 #[.val (.int p0), .val (.int p1), .val (.int p2), .val (.int ((p0 &&& (2147483647 : Int32)) % (5 : Int32))), .val (.int (p1 &&& (3 : Int32))), .val (.int z5), .val (.ref w_AES_GCM_NOPADDING), .val (.int (1 : Int32)), .val (.int (1 : Int32)), .val (.int (1 : Int32))] [(.int z5), (.ref w_AES_GCM_NOPADDING)])) rfl (by rw [hml]; rfl) (Steps.refl _) (argsL := [(.int z5)]) (rest := []) (lenOf pd_1 rfl) rfl (by show 2 * 0 + _ ≤ _; exact Nat.le_of_eq rfl) (hb hby at_147) (fun _ _ => ⟨rfl, eq2, (by decide : 0 + 0 ≤ _), (by decide : 0 + 0 ≤ _)⟩)
  dsimp only [Pt.U, Pt.locs, Pt.cells, Pt.slots] at X3 l3 y3 z3 st3 hQ3
  subst l3 y3 z3
  obtain ⟨rfl, Nq3, eq3⟩ := hQ3
  have N3 := Fr.app N2 Nq3
  obtain ⟨fs, hr, hrun, hended, hW, hsame⟩ := X3.leave (v := some (.int (1 : Int32))) (fun h => by rw [Bd.returns] at h; cases h)
  refine ⟨_, _, pre0 _ ?_, hrun, hended, _, _, rfl, ?_, ⟨_, rfl⟩, hW, hsame.mono (by decide) (by decide)⟩
  · show Sp p e below s₁ (mkF m 0 #[.val (.int p0), .val (.int p1), .val (.int p2), .unset, .unset, .unset, .unset, .unset, .unset, .unset] []) _
    refine XS.iloadN X0.here hx rfl (hb hby at_0) rfl ?_
    show Sp p e below s₁ (mkF m 1 #[.val (.int p0), .val (.int p1), .val (.int p2), .unset, .unset, .unset, .unset, .unset, .unset, .unset] [(.int p0)]) _
    refine X0.ldcI hx hown (mvT hZ (hw _ (List.mem_of_getElem? (i := 0) rfl))) rfl (hb hby at_1) ?_
    show Sp p e below s₁ (mkF m 3 #[.val (.int p0), .val (.int p1), .val (.int p2), .unset, .unset, .unset, .unset, .unset, .unset, .unset] [(.int (2147483647 : Int32)), (.int p0)]) _
    refine XS.iand X0.here hx rfl (hb hby at_3) rfl ?_
    show Sp p e below s₁ (mkF m 4 #[.val (.int p0), .val (.int p1), .val (.int p2), .unset, .unset, .unset, .unset, .unset, .unset, .unset] [(.int (p0 &&& (2147483647 : Int32)))]) _
    refine XS.iconst X0.here hx rfl (hb hby at_4) ?_
    show Sp p e below s₁ (mkF m 5 #[.val (.int p0), .val (.int p1), .val (.int p2), .unset, .unset, .unset, .unset, .unset, .unset, .unset] [(.int (5 : Int32)), (.int (p0 &&& (2147483647 : Int32)))]) _
    refine iremM X0 hx rfl (hb hby at_5) rfl (by decide) ?_
    show Sp p e below s₁ (mkF m 6 #[.val (.int p0), .val (.int p1), .val (.int p2), .unset, .unset, .unset, .unset, .unset, .unset, .unset] [(.int ((p0 &&& (2147483647 : Int32)) % (5 : Int32)))]) _
    refine XS.istoreN X0.here hx rfl (hb hby at_6) rfl (l' := #[.val (.int p0), .val (.int p1), .val (.int p2), .val (.int ((p0 &&& (2147483647 : Int32)) % (5 : Int32))), .unset, .unset, .unset, .unset, .unset, .unset]) rfl ?_
    show Sp p e below s₁ (mkF m 7 #[.val (.int p0), .val (.int p1), .val (.int p2), .val (.int ((p0 &&& (2147483647 : Int32)) % (5 : Int32))), .unset, .unset, .unset, .unset, .unset, .unset] []) _
    refine XS.iloadN X0.here hx rfl (hb hby at_7) rfl ?_
    show Sp p e below s₁ (mkF m 8 #[.val (.int p0), .val (.int p1), .val (.int p2), .val (.int ((p0 &&& (2147483647 : Int32)) % (5 : Int32))), .unset, .unset, .unset, .unset, .unset, .unset] [(.int p1)]) _
    refine XS.iconst X0.here hx rfl (hb hby at_8) ?_
    show Sp p e below s₁ (mkF m 9 #[.val (.int p0), .val (.int p1), .val (.int p2), .val (.int ((p0 &&& (2147483647 : Int32)) % (5 : Int32))), .unset, .unset, .unset, .unset, .unset, .unset] [(.int (3 : Int32)), (.int p1)]) _
    refine XS.iand X0.here hx rfl (hb hby at_9) rfl ?_
    show Sp p e below s₁ (mkF m 10 #[.val (.int p0), .val (.int p1), .val (.int p2), .val (.int ((p0 &&& (2147483647 : Int32)) % (5 : Int32))), .unset, .unset, .unset, .unset, .unset, .unset] [(.int (p1 &&& (3 : Int32)))]) _
    refine XS.istore X0.here hx rfl (hb hby at_10) rfl (l' := #[.val (.int p0), .val (.int p1), .val (.int p2), .val (.int ((p0 &&& (2147483647 : Int32)) % (5 : Int32))), .val (.int (p1 &&& (3 : Int32))), .unset, .unset, .unset, .unset, .unset]) rfl ?_
    show Sp p e below s₁ (mkF m 12 #[.val (.int p0), .val (.int p1), .val (.int p2), .val (.int ((p0 &&& (2147483647 : Int32)) % (5 : Int32))), .val (.int (p1 &&& (3 : Int32))), .unset, .unset, .unset, .unset, .unset] []) _
    refine st1 _ ?_
    show Sp p e below s₁ (mkF m 58 #[.val (.int p0), .val (.int p1), .val (.int p2), .val (.int ((p0 &&& (2147483647 : Int32)) % (5 : Int32))), .val (.int (p1 &&& (3 : Int32))), .val (.int z5), .unset, .unset, .unset, .unset] []) _
    refine XS.iloadN X0.here hx rfl (hb hby at_58) rfl ?_
    show Sp p e below s₁ (mkF m 59 #[.val (.int p0), .val (.int p1), .val (.int p2), .val (.int ((p0 &&& (2147483647 : Int32)) % (5 : Int32))), .val (.int (p1 &&& (3 : Int32))), .val (.int z5), .unset, .unset, .unset, .unset] [(.int ((p0 &&& (2147483647 : Int32)) % (5 : Int32)))]) _
    refine st2 _ ?_
    show Sp p e below T2 (mkF m 62 #[.val (.int p0), .val (.int p1), .val (.int p2), .val (.int ((p0 &&& (2147483647 : Int32)) % (5 : Int32))), .val (.int (p1 &&& (3 : Int32))), .val (.int z5), .unset, .unset, .unset, .unset] [(.ref w_AES_GCM_NOPADDING)]) _
    refine XS.astore X2.here hx rfl (hb hby at_62) rfl rfl (l' := #[.val (.int p0), .val (.int p1), .val (.int p2), .val (.int ((p0 &&& (2147483647 : Int32)) % (5 : Int32))), .val (.int (p1 &&& (3 : Int32))), .val (.int z5), .val (.ref w_AES_GCM_NOPADDING), .unset, .unset, .unset]) rfl ?_
    show Sp p e below T2 (mkF m 64 #[.val (.int p0), .val (.int p1), .val (.int p2), .val (.int ((p0 &&& (2147483647 : Int32)) % (5 : Int32))), .val (.int (p1 &&& (3 : Int32))), .val (.int z5), .val (.ref w_AES_GCM_NOPADDING), .unset, .unset, .unset] []) _
    refine XS.iloadN X2.here hx rfl (hb hby at_64) rfl ?_
    show Sp p e below T2 (mkF m 65 #[.val (.int p0), .val (.int p1), .val (.int p2), .val (.int ((p0 &&& (2147483647 : Int32)) % (5 : Int32))), .val (.int (p1 &&& (3 : Int32))), .val (.int z5), .val (.ref w_AES_GCM_NOPADDING), .unset, .unset, .unset] [(.int ((p0 &&& (2147483647 : Int32)) % (5 : Int32)))]) _
    refine XS.ifNo X2.here hx rfl (hb hby at_65) rfl ((if0 _ _).trans (feq hc2).1) ?_
    show Sp p e below T2 (mkF m 68 #[.val (.int p0), .val (.int p1), .val (.int p2), .val (.int ((p0 &&& (2147483647 : Int32)) % (5 : Int32))), .val (.int (p1 &&& (3 : Int32))), .val (.int z5), .val (.ref w_AES_GCM_NOPADDING), .unset, .unset, .unset] []) _
    refine XS.iloadN X2.here hx rfl (hb hby at_68) rfl ?_
    show Sp p e below T2 (mkF m 69 #[.val (.int p0), .val (.int p1), .val (.int p2), .val (.int ((p0 &&& (2147483647 : Int32)) % (5 : Int32))), .val (.int (p1 &&& (3 : Int32))), .val (.int z5), .val (.ref w_AES_GCM_NOPADDING), .unset, .unset, .unset] [(.int ((p0 &&& (2147483647 : Int32)) % (5 : Int32)))]) _
    refine XS.iconst X2.here hx rfl (hb hby at_69) ?_
    show Sp p e below T2 (mkF m 70 #[.val (.int p0), .val (.int p1), .val (.int p2), .val (.int ((p0 &&& (2147483647 : Int32)) % (5 : Int32))), .val (.int (p1 &&& (3 : Int32))), .val (.int z5), .val (.ref w_AES_GCM_NOPADDING), .unset, .unset, .unset] [(.int (2 : Int32)), (.int ((p0 &&& (2147483647 : Int32)) % (5 : Int32)))]) _
    refine XS.icmpYes X2.here hx rfl (pc0 := 70) (pc' := 83) rfl (hb hby at_70) rfl (teq hc4).1 (by decide) (by decide) ?_
    show Sp p e below T2 (mkF m 83 #[.val (.int p0), .val (.int p1), .val (.int p2), .val (.int ((p0 &&& (2147483647 : Int32)) % (5 : Int32))), .val (.int (p1 &&& (3 : Int32))), .val (.int z5), .val (.ref w_AES_GCM_NOPADDING), .unset, .unset, .unset] []) _
    refine XS.iconst X2.here hx rfl (hb hby at_83) ?_
    show Sp p e below T2 (mkF m 84 #[.val (.int p0), .val (.int p1), .val (.int p2), .val (.int ((p0 &&& (2147483647 : Int32)) % (5 : Int32))), .val (.int (p1 &&& (3 : Int32))), .val (.int z5), .val (.ref w_AES_GCM_NOPADDING), .unset, .unset, .unset] [(.int (1 : Int32))]) _
    refine XS.goto X2.here hx rfl (pc0 := 84) (pc' := 88) rfl (hb hby at_84) (by decide) (by decide) ?_
    show Sp p e below T2 (mkF m 88 #[.val (.int p0), .val (.int p1), .val (.int p2), .val (.int ((p0 &&& (2147483647 : Int32)) % (5 : Int32))), .val (.int (p1 &&& (3 : Int32))), .val (.int z5), .val (.ref w_AES_GCM_NOPADDING), .unset, .unset, .unset] [(.int (1 : Int32))]) _
    refine XS.istore X2.here hx rfl (hb hby at_88) rfl (l' := #[.val (.int p0), .val (.int p1), .val (.int p2), .val (.int ((p0 &&& (2147483647 : Int32)) % (5 : Int32))), .val (.int (p1 &&& (3 : Int32))), .val (.int z5), .val (.ref w_AES_GCM_NOPADDING), .val (.int (1 : Int32)), .unset, .unset]) rfl ?_
    show Sp p e below T2 (mkF m 90 #[.val (.int p0), .val (.int p1), .val (.int p2), .val (.int ((p0 &&& (2147483647 : Int32)) % (5 : Int32))), .val (.int (p1 &&& (3 : Int32))), .val (.int z5), .val (.ref w_AES_GCM_NOPADDING), .val (.int (1 : Int32)), .unset, .unset] []) _
    refine XS.iloadN X2.here hx rfl (hb hby at_90) rfl ?_
    show Sp p e below T2 (mkF m 91 #[.val (.int p0), .val (.int p1), .val (.int p2), .val (.int ((p0 &&& (2147483647 : Int32)) % (5 : Int32))), .val (.int (p1 &&& (3 : Int32))), .val (.int z5), .val (.ref w_AES_GCM_NOPADDING), .val (.int (1 : Int32)), .unset, .unset] [(.int ((p0 &&& (2147483647 : Int32)) % (5 : Int32)))]) _
    refine XS.iconst X2.here hx rfl (hb hby at_91) ?_
    show Sp p e below T2 (mkF m 92 #[.val (.int p0), .val (.int p1), .val (.int p2), .val (.int ((p0 &&& (2147483647 : Int32)) % (5 : Int32))), .val (.int (p1 &&& (3 : Int32))), .val (.int z5), .val (.ref w_AES_GCM_NOPADDING), .val (.int (1 : Int32)), .unset, .unset] [(.int (1 : Int32)), (.int ((p0 &&& (2147483647 : Int32)) % (5 : Int32)))]) _
    refine XS.icmpNo X2.here hx rfl (hb hby at_92) rfl (feq hc3).1 ?_
    show Sp p e below T2 (mkF m 95 #[.val (.int p0), .val (.int p1), .val (.int p2), .val (.int ((p0 &&& (2147483647 : Int32)) % (5 : Int32))), .val (.int (p1 &&& (3 : Int32))), .val (.int z5), .val (.ref w_AES_GCM_NOPADDING), .val (.int (1 : Int32)), .unset, .unset] []) _
    refine XS.iloadN X2.here hx rfl (hb hby at_95) rfl ?_
    show Sp p e below T2 (mkF m 96 #[.val (.int p0), .val (.int p1), .val (.int p2), .val (.int ((p0 &&& (2147483647 : Int32)) % (5 : Int32))), .val (.int (p1 &&& (3 : Int32))), .val (.int z5), .val (.ref w_AES_GCM_NOPADDING), .val (.int (1 : Int32)), .unset, .unset] [(.int ((p0 &&& (2147483647 : Int32)) % (5 : Int32)))]) _
    refine XS.iconst X2.here hx rfl (hb hby at_96) ?_
    show Sp p e below T2 (mkF m 97 #[.val (.int p0), .val (.int p1), .val (.int p2), .val (.int ((p0 &&& (2147483647 : Int32)) % (5 : Int32))), .val (.int (p1 &&& (3 : Int32))), .val (.int z5), .val (.ref w_AES_GCM_NOPADDING), .val (.int (1 : Int32)), .unset, .unset] [(.int (2 : Int32)), (.int ((p0 &&& (2147483647 : Int32)) % (5 : Int32)))]) _
    refine XS.icmpYes X2.here hx rfl (pc0 := 97) (pc' := 105) rfl (hb hby at_97) rfl (teq hc4).1 (by decide) (by decide) ?_
    show Sp p e below T2 (mkF m 105 #[.val (.int p0), .val (.int p1), .val (.int p2), .val (.int ((p0 &&& (2147483647 : Int32)) % (5 : Int32))), .val (.int (p1 &&& (3 : Int32))), .val (.int z5), .val (.ref w_AES_GCM_NOPADDING), .val (.int (1 : Int32)), .unset, .unset] []) _
    refine XS.iconst X2.here hx rfl (hb hby at_105) ?_
    show Sp p e below T2 (mkF m 106 #[.val (.int p0), .val (.int p1), .val (.int p2), .val (.int ((p0 &&& (2147483647 : Int32)) % (5 : Int32))), .val (.int (p1 &&& (3 : Int32))), .val (.int z5), .val (.ref w_AES_GCM_NOPADDING), .val (.int (1 : Int32)), .unset, .unset] [(.int (1 : Int32))]) _
    refine XS.goto X2.here hx rfl (pc0 := 106) (pc' := 110) rfl (hb hby at_106) (by decide) (by decide) ?_
    show Sp p e below T2 (mkF m 110 #[.val (.int p0), .val (.int p1), .val (.int p2), .val (.int ((p0 &&& (2147483647 : Int32)) % (5 : Int32))), .val (.int (p1 &&& (3 : Int32))), .val (.int z5), .val (.ref w_AES_GCM_NOPADDING), .val (.int (1 : Int32)), .unset, .unset] [(.int (1 : Int32))]) _
    refine XS.istore X2.here hx rfl (hb hby at_110) rfl (l' := #[.val (.int p0), .val (.int p1), .val (.int p2), .val (.int ((p0 &&& (2147483647 : Int32)) % (5 : Int32))), .val (.int (p1 &&& (3 : Int32))), .val (.int z5), .val (.ref w_AES_GCM_NOPADDING), .val (.int (1 : Int32)), .val (.int (1 : Int32)), .unset]) rfl ?_
    show Sp p e below T2 (mkF m 112 #[.val (.int p0), .val (.int p1), .val (.int p2), .val (.int ((p0 &&& (2147483647 : Int32)) % (5 : Int32))), .val (.int (p1 &&& (3 : Int32))), .val (.int z5), .val (.ref w_AES_GCM_NOPADDING), .val (.int (1 : Int32)), .val (.int (1 : Int32)), .unset] []) _
    refine XS.iload X2.here hx rfl (hb hby at_112) rfl ?_
    show Sp p e below T2 (mkF m 114 #[.val (.int p0), .val (.int p1), .val (.int p2), .val (.int ((p0 &&& (2147483647 : Int32)) % (5 : Int32))), .val (.int (p1 &&& (3 : Int32))), .val (.int z5), .val (.ref w_AES_GCM_NOPADDING), .val (.int (1 : Int32)), .val (.int (1 : Int32)), .unset] [(.int z5)]) _
    refine XS.bipush X2.here hx rfl (hb hby at_114) ?_
    show Sp p e below T2 (mkF m 116 #[.val (.int p0), .val (.int p1), .val (.int p2), .val (.int ((p0 &&& (2147483647 : Int32)) % (5 : Int32))), .val (.int (p1 &&& (3 : Int32))), .val (.int z5), .val (.ref w_AES_GCM_NOPADDING), .val (.int (1 : Int32)), .val (.int (1 : Int32)), .unset] [(.int (16 : Int32)), (.int z5)]) _
    refine XS.icmpYes X2.here hx rfl (pc0 := 116) (pc' := 124) rfl (hb hby at_116) rfl (feq hc5).2 (by decide) (by decide) ?_
    show Sp p e below T2 (mkF m 124 #[.val (.int p0), .val (.int p1), .val (.int p2), .val (.int ((p0 &&& (2147483647 : Int32)) % (5 : Int32))), .val (.int (p1 &&& (3 : Int32))), .val (.int z5), .val (.ref w_AES_GCM_NOPADDING), .val (.int (1 : Int32)), .val (.int (1 : Int32)), .unset] []) _
    refine XS.iload X2.here hx rfl (hb hby at_124) rfl ?_
    show Sp p e below T2 (mkF m 126 #[.val (.int p0), .val (.int p1), .val (.int p2), .val (.int ((p0 &&& (2147483647 : Int32)) % (5 : Int32))), .val (.int (p1 &&& (3 : Int32))), .val (.int z5), .val (.ref w_AES_GCM_NOPADDING), .val (.int (1 : Int32)), .val (.int (1 : Int32)), .unset] [(.int z5)]) _
    refine XS.bipush X2.here hx rfl (hb hby at_126) ?_
    show Sp p e below T2 (mkF m 128 #[.val (.int p0), .val (.int p1), .val (.int p2), .val (.int ((p0 &&& (2147483647 : Int32)) % (5 : Int32))), .val (.int (p1 &&& (3 : Int32))), .val (.int z5), .val (.ref w_AES_GCM_NOPADDING), .val (.int (1 : Int32)), .val (.int (1 : Int32)), .unset] [(.int (32 : Int32)), (.int z5)]) _
    refine XS.icmpNo X2.here hx rfl (hb hby at_128) rfl (teq hc6).2 ?_
    show Sp p e below T2 (mkF m 131 #[.val (.int p0), .val (.int p1), .val (.int p2), .val (.int ((p0 &&& (2147483647 : Int32)) % (5 : Int32))), .val (.int (p1 &&& (3 : Int32))), .val (.int z5), .val (.ref w_AES_GCM_NOPADDING), .val (.int (1 : Int32)), .val (.int (1 : Int32)), .unset] []) _
    refine XS.iload X2.here hx rfl (hb hby at_131) rfl ?_
    show Sp p e below T2 (mkF m 133 #[.val (.int p0), .val (.int p1), .val (.int p2), .val (.int ((p0 &&& (2147483647 : Int32)) % (5 : Int32))), .val (.int (p1 &&& (3 : Int32))), .val (.int z5), .val (.ref w_AES_GCM_NOPADDING), .val (.int (1 : Int32)), .val (.int (1 : Int32)), .unset] [(.int (1 : Int32))]) _
    refine XS.ifNo X2.here hx rfl (hb hby at_133) rfl ((if0 _ _).trans (feq (by decide : ¬ ((1 : Int32) = (0 : Int32)))).1) ?_
    show Sp p e below T2 (mkF m 136 #[.val (.int p0), .val (.int p1), .val (.int p2), .val (.int ((p0 &&& (2147483647 : Int32)) % (5 : Int32))), .val (.int (p1 &&& (3 : Int32))), .val (.int z5), .val (.ref w_AES_GCM_NOPADDING), .val (.int (1 : Int32)), .val (.int (1 : Int32)), .unset] []) _
    refine XS.iconst X2.here hx rfl (hb hby at_136) ?_
    show Sp p e below T2 (mkF m 137 #[.val (.int p0), .val (.int p1), .val (.int p2), .val (.int ((p0 &&& (2147483647 : Int32)) % (5 : Int32))), .val (.int (p1 &&& (3 : Int32))), .val (.int z5), .val (.ref w_AES_GCM_NOPADDING), .val (.int (1 : Int32)), .val (.int (1 : Int32)), .unset] [(.int (1 : Int32))]) _
    refine XS.goto X2.here hx rfl (pc0 := 137) (pc' := 141) rfl (hb hby at_137) (by decide) (by decide) ?_
    show Sp p e below T2 (mkF m 141 #[.val (.int p0), .val (.int p1), .val (.int p2), .val (.int ((p0 &&& (2147483647 : Int32)) % (5 : Int32))), .val (.int (p1 &&& (3 : Int32))), .val (.int z5), .val (.ref w_AES_GCM_NOPADDING), .val (.int (1 : Int32)), .val (.int (1 : Int32)), .unset] [(.int (1 : Int32))]) _
    refine XS.istore X2.here hx rfl (hb hby at_141) rfl (l' := #[.val (.int p0), .val (.int p1), .val (.int p2), .val (.int ((p0 &&& (2147483647 : Int32)) % (5 : Int32))), .val (.int (p1 &&& (3 : Int32))), .val (.int z5), .val (.ref w_AES_GCM_NOPADDING), .val (.int (1 : Int32)), .val (.int (1 : Int32)), .val (.int (1 : Int32))]) rfl ?_
    show Sp p e below T2 (mkF m 143 #[.val (.int p0), .val (.int p1), .val (.int p2), .val (.int ((p0 &&& (2147483647 : Int32)) % (5 : Int32))), .val (.int (p1 &&& (3 : Int32))), .val (.int z5), .val (.ref w_AES_GCM_NOPADDING), .val (.int (1 : Int32)), .val (.int (1 : Int32)), .val (.int (1 : Int32))] []) _
    refine XS.aload X2.here hx rfl (hb hby at_143) rfl rfl ?_
    show Sp p e below T2 (mkF m 145 #[.val (.int p0), .val (.int p1), .val (.int p2), .val (.int ((p0 &&& (2147483647 : Int32)) % (5 : Int32))), .val (.int (p1 &&& (3 : Int32))), .val (.int z5), .val (.ref w_AES_GCM_NOPADDING), .val (.int (1 : Int32)), .val (.int (1 : Int32)), .val (.int (1 : Int32))] [(.ref w_AES_GCM_NOPADDING)]) _
    refine XS.iload X2.here hx rfl (hb hby at_145) rfl ?_
    show Sp p e below T2 (mkF m 147 #[.val (.int p0), .val (.int p1), .val (.int p2), .val (.int ((p0 &&& (2147483647 : Int32)) % (5 : Int32))), .val (.int (p1 &&& (3 : Int32))), .val (.int z5), .val (.ref w_AES_GCM_NOPADDING), .val (.int (1 : Int32)), .val (.int (1 : Int32)), .val (.int (1 : Int32))] [(.int z5), (.ref w_AES_GCM_NOPADDING)]) _
    refine st3.trans ?_
    show Sp p e below T3 (mkF m 150 #[.val (.int p0), .val (.int p1), .val (.int p2), .val (.int ((p0 &&& (2147483647 : Int32)) % (5 : Int32))), .val (.int (p1 &&& (3 : Int32))), .val (.int z5), .val (.ref w_AES_GCM_NOPADDING), .val (.int (1 : Int32)), .val (.int (1 : Int32)), .val (.int (1 : Int32))] [(.int (1 : Int32))]) _
    refine XS.iload X3.here hx rfl (hb hby at_150) rfl ?_
    show Sp p e below T3 (mkF m 152 #[.val (.int p0), .val (.int p1), .val (.int p2), .val (.int ((p0 &&& (2147483647 : Int32)) % (5 : Int32))), .val (.int (p1 &&& (3 : Int32))), .val (.int z5), .val (.ref w_AES_GCM_NOPADDING), .val (.int (1 : Int32)), .val (.int (1 : Int32)), .val (.int (1 : Int32))] [(.int (1 : Int32)), (.int (1 : Int32))]) _
    refine XS.icmpNo X3.here hx rfl (hb hby at_152) rfl (teq (by decide : (1 : Int32) = (1 : Int32))).2 ?_
    show Sp p e below T3 (mkF m 155 #[.val (.int p0), .val (.int p1), .val (.int p2), .val (.int ((p0 &&& (2147483647 : Int32)) % (5 : Int32))), .val (.int (p1 &&& (3 : Int32))), .val (.int z5), .val (.ref w_AES_GCM_NOPADDING), .val (.int (1 : Int32)), .val (.int (1 : Int32)), .val (.int (1 : Int32))] []) _
    refine XS.iconst X3.here hx rfl (hb hby at_155) ?_
    show Sp p e below T3 (mkF m 156 #[.val (.int p0), .val (.int p1), .val (.int p2), .val (.int ((p0 &&& (2147483647 : Int32)) % (5 : Int32))), .val (.int (p1 &&& (3 : Int32))), .val (.int z5), .val (.ref w_AES_GCM_NOPADDING), .val (.int (1 : Int32)), .val (.int (1 : Int32)), .val (.int (1 : Int32))] [(.int (1 : Int32))]) _
    refine XS.goto X3.here hx rfl (pc0 := 156) (pc' := 160) rfl (hb hby at_156) (by decide) (by decide) ?_
    show Sp p e below T3 (mkF m 160 #[.val (.int p0), .val (.int p1), .val (.int p2), .val (.int ((p0 &&& (2147483647 : Int32)) % (5 : Int32))), .val (.int (p1 &&& (3 : Int32))), .val (.int z5), .val (.ref w_AES_GCM_NOPADDING), .val (.int (1 : Int32)), .val (.int (1 : Int32)), .val (.int (1 : Int32))] [(.int (1 : Int32))]) _
    exact retN X3 hx (t := .boolean) Bd.returns (by simp) (hb hby at_160) hr
  · skip
    exact ⟨rfl, N3⟩
def Q25 (Z : State) (w_AES_128_GCM : Addr) (w_AES_256_GCM : Addr) (w_AES_CBC_PKCS5PADDING : Addr) (w_AES_128_CBC : Addr) (w_AES_GCM_NOPADDING : Addr) (kl_AES_128_GCM : Addr) (kl_AES_256_GCM : Addr) (kl_AES_CBC_PKCS5PADDING : Addr) (kl_AES_128_CBC : Addr) (kl_AES_GCM_NOPADDING : Addr) (k_kl_AES_128_GCM : ClassId) (k_kl_AES_256_GCM : ClassId) (k_kl_AES_CBC_PKCS5PADDING : ClassId) (k_kl_AES_128_CBC : ClassId) (k_kl_AES_GCM_NOPADDING : ClassId) (p1 : Int32) (h0 : Heap) (n0 : Nat) (v : Option Value) (h : Heap) (L : List Loc) : Prop := v = some (.int (0 : Int32)) ∧ Fr n0 L ∧ h = h0
set_option maxRecDepth 65536 in
set_option maxHeartbeats 40000000 in
theorem rm25 (l : Launch) (Z : State) (a0 : Array Value) (hw : ∀ d ∈ tables_1, d.before a0 Z = true) (ws : List Jvm.Cond) (w_AES_128_GCM w_AES_256_GCM w_AES_CBC_PKCS5PADDING w_AES_128_CBC w_AES_GCM_NOPADDING kl_AES_128_GCM kl_AES_256_GCM kl_AES_CBC_PKCS5PADDING kl_AES_128_CBC kl_AES_GCM_NOPADDING : Addr) (k_kl_AES_128_GCM : ClassId) (k_kl_AES_256_GCM : ClassId) (k_kl_AES_CBC_PKCS5PADDING : ClassId) (k_kl_AES_128_CBC : ClassId) (k_kl_AES_GCM_NOPADDING : ClassId) (hp : Perm Z w_AES_128_GCM w_AES_256_GCM w_AES_CBC_PKCS5PADDING w_AES_128_CBC w_AES_GCM_NOPADDING kl_AES_128_GCM kl_AES_256_GCM kl_AES_CBC_PKCS5PADDING kl_AES_128_CBC kl_AES_GCM_NOPADDING k_kl_AES_128_GCM k_kl_AES_256_GCM k_kl_AES_CBC_PKCS5PADDING k_kl_AES_128_CBC k_kl_AES_GCM_NOPADDING) (p1 : Int32) (h0 : Heap) (n0 : Nat) (O0 : Old Z n0 h0) (hc1 : ¬ (p1 = (16 : Int32))) (hc2 : ¬ (p1 = (32 : Int32))) :
    MetFree l y1 (head1 (Jvm.Cond.code y1 prog_31_method_7_code 6 (some .boolean) :: ws) ({ frames := 0, cells := 0, slots := 0, locals := 0 } : Room)) (fun a U => a = #[(.ref w_AES_GCM_NOPADDING), (.int p1)] ∧ Z.Warmed39 U.vm ∧ U.heap = h0) (fun _ _ _ _ _ => True) (fun _ U o U' => ∃ v L, o = .returned v ∧ Q25 Z w_AES_128_GCM w_AES_256_GCM w_AES_CBC_PKCS5PADDING w_AES_128_CBC w_AES_GCM_NOPADDING kl_AES_128_GCM kl_AES_256_GCM kl_AES_CBC_PKCS5PADDING kl_AES_128_CBC kl_AES_GCM_NOPADDING k_kl_AES_128_GCM k_kl_AES_256_GCM k_kl_AES_CBC_PKCS5PADDING k_kl_AES_128_CBC k_kl_AES_GCM_NOPADDING p1 h0 n0 v U'.heap L ∧ FrameEnd U o U' L ({ frames := 0, cells := 0, slots := 0, locals := 0 } : Room).cells ({ frames := 0, cells := 0, slots := 0, locals := 0 } : Room).slots) := by
  refine MetFree.of_bodySF (plainFor_of_name pn_2) hisR ?_
  intro p e s m args below meth c s₁ Bd hml0 hP hK
  obtain ⟨rfl, hZ, hh⟩ := hP
  have hx := Bd.exec
  have hby := Bd.bytes
  have hml : c.maxLocals = 6 := hml0
  have hown : s.vm.findClass "com/example/cloakfield/cloakfield/crypto/EncryptionAlgorithm" = some m.cls := findClass_of_methodNamed Bd.named
  have hnm := (name_of_methodNamed Bd.named Bd.method).1
  have X0 : Stand p l e ({ frames := 0, cells := 0, slots := 0, locals := 0 } : Room) s m #[(.ref w_AES_GCM_NOPADDING), (.int p1)] below meth c s₁ [] 0 0 := Stand.of_body Bd
  have e0 : s₁.heap = h0 := by rw [← hh, Bd.state]; rfl
  have N0 := Fr.nil n0
  have hp' := hp
  obtain ⟨S_w_AES_128_GCM, E_w_AES_128_GCM, S_w_AES_256_GCM, E_w_AES_256_GCM, S_w_AES_CBC_PKCS5PADDING, E_w_AES_CBC_PKCS5PADDING, S_w_AES_128_CBC, E_w_AES_128_CBC, S_w_AES_GCM_NOPADDING, E_w_AES_GCM_NOPADDING, F_keyLengths_w_AES_128_GCM, V_kl_AES_128_GCM, F_keyLengths_w_AES_256_GCM, V_kl_AES_256_GCM, F_keyLengths_w_AES_CBC_PKCS5PADDING, V_kl_AES_CBC_PKCS5PADDING, F_keyLengths_w_AES_128_CBC, V_kl_AES_128_CBC, F_keyLengths_w_AES_GCM_NOPADDING, V_kl_AES_GCM_NOPADDING⟩ := hp'
  have pre0 : ∀ t, Steps p.tables e below (s₁.setTop (mkF m 0 #[.val (.ref w_AES_GCM_NOPADDING), .val (.int p1), .unset, .unset, .unset, .unset] [])) t → Steps p.tables e below (s₁.setTop (entryFrame m #[(.ref w_AES_GCM_NOPADDING), (.int p1)] 6)) t := fun t k => castTop (ef_2_0 m w_AES_GCM_NOPADDING p1) k
  obtain ⟨T1, X1, e1, st1⟩ := getF X0 hx hZ hown (host := "") (Or.inl (hw _ (List.mem_of_getElem? (i := 13) rfl))) Via.refl e0 (F_keyLengths_w_AES_GCM_NOPADDING.ext O0.2) (g := (mkF m 1 #[.val (.ref w_AES_GCM_NOPADDING), .val (.int p1), .unset, .unset, .unset, .unset] [(.ref w_AES_GCM_NOPADDING)])) rfl rfl (hb hby d2_1)
  obtain ⟨cl2, Ar2, -, S2, Nn2, -, -⟩ := (V_kl_AES_GCM_NOPADDING.ext O0.2)
  obtain ⟨cl3, Ar3, -, S3, -, H3, -⟩ := (V_kl_AES_GCM_NOPADDING.ext O0.2)
  have hin3 : ¬ ((0 : Int32) < 0 ∨ cl3.slots.size ≤ ((0 : Int32)).toNatClampNeg) := inb_of S3 ⟨by decide, by decide⟩
  have hat3 : cl3.slots[((0 : Int32)).toNatClampNeg]? = some (.int (16 : Int32)) := H3.at hin3 rfl
  obtain ⟨cl4, Ar4, -, S4, -, H4, -⟩ := (V_kl_AES_GCM_NOPADDING.ext O0.2)
  have hin4 : ¬ (((0 : Int32) + (1 : Int32)) < 0 ∨ cl4.slots.size ≤ (((0 : Int32) + (1 : Int32))).toNatClampNeg) := inb_of S4 ⟨by decide, by decide⟩
  have hat4 : cl4.slots[(((0 : Int32) + (1 : Int32))).toNatClampNeg]? = some (.int (32 : Int32)) := H4.at hin4 rfl
  obtain ⟨fs, hr, hrun, hended, hW, hsame⟩ := X1.leave (v := some (.int (0 : Int32))) (fun h => by rw [Bd.returns] at h; cases h)
  refine ⟨_, _, pre0 _ ?_, hrun, hended, _, _, rfl, ?_, ⟨_, rfl⟩, hW, hsame.mono (by decide) (by decide)⟩
  · show Sp p e below s₁ (mkF m 0 #[.val (.ref w_AES_GCM_NOPADDING), .val (.int p1), .unset, .unset, .unset, .unset] []) _
    refine XS.aloadN X0.here hx rfl (hb hby d2_0) rfl rfl ?_
    show Sp p e below s₁ (mkF m 1 #[.val (.ref w_AES_GCM_NOPADDING), .val (.int p1), .unset, .unset, .unset, .unset] [(.ref w_AES_GCM_NOPADDING)]) _
    refine st1 _ ?_
    show Sp p e below T1 (mkF m 4 #[.val (.ref w_AES_GCM_NOPADDING), .val (.int p1), .unset, .unset, .unset, .unset] [(.ref kl_AES_GCM_NOPADDING)]) _
    refine XS.astoreN X1.here hx rfl (hb hby d2_4) rfl rfl (l' := #[.val (.ref w_AES_GCM_NOPADDING), .val (.int p1), .val (.ref kl_AES_GCM_NOPADDING), .unset, .unset, .unset]) rfl ?_
    show Sp p e below T1 (mkF m 5 #[.val (.ref w_AES_GCM_NOPADDING), .val (.int p1), .val (.ref kl_AES_GCM_NOPADDING), .unset, .unset, .unset] []) _
    refine XS.aloadN X1.here hx rfl (hb hby d2_5) rfl rfl ?_
    show Sp p e below T1 (mkF m 6 #[.val (.ref w_AES_GCM_NOPADDING), .val (.int p1), .val (.ref kl_AES_GCM_NOPADDING), .unset, .unset, .unset] [(.ref kl_AES_GCM_NOPADDING)]) _
    refine X1.arraylength hx (by rw [e1]; exact Ar2.1) (State.isArrayOf_alike hZ.alike Ar2.2.1) (g := (mkF m 6 #[.val (.ref w_AES_GCM_NOPADDING), .val (.int p1), .val (.ref kl_AES_GCM_NOPADDING), .unset, .unset, .unset] [(.ref kl_AES_GCM_NOPADDING)])) rfl rfl (hb hby d2_6) _ ?_
    rw [len_of S2 Nn2]
    show Sp p e below T1 (mkF m 7 #[.val (.ref w_AES_GCM_NOPADDING), .val (.int p1), .val (.ref kl_AES_GCM_NOPADDING), .unset, .unset, .unset] [(.int (2 : Int32))]) _
    refine XS.istoreN X1.here hx rfl (hb hby d2_7) rfl (l' := #[.val (.ref w_AES_GCM_NOPADDING), .val (.int p1), .val (.ref kl_AES_GCM_NOPADDING), .val (.int (2 : Int32)), .unset, .unset]) rfl ?_
    show Sp p e below T1 (mkF m 8 #[.val (.ref w_AES_GCM_NOPADDING), .val (.int p1), .val (.ref kl_AES_GCM_NOPADDING), .val (.int (2 : Int32)), .unset, .unset] []) _
    refine XS.iconst X1.here hx rfl (hb hby d2_8) ?_
    show Sp p e below T1 (mkF m 9 #[.val (.ref w_AES_GCM_NOPADDING), .val (.int p1), .val (.ref kl_AES_GCM_NOPADDING), .val (.int (2 : Int32)), .unset, .unset] [(.int (0 : Int32))]) _
    refine XS.istore X1.here hx rfl (hb hby d2_9) rfl (l' := #[.val (.ref w_AES_GCM_NOPADDING), .val (.int p1), .val (.ref kl_AES_GCM_NOPADDING), .val (.int (2 : Int32)), .val (.int (0 : Int32)), .unset]) rfl ?_
    show Sp p e below T1 (mkF m 11 #[.val (.ref w_AES_GCM_NOPADDING), .val (.int p1), .val (.ref kl_AES_GCM_NOPADDING), .val (.int (2 : Int32)), .val (.int (0 : Int32)), .unset] []) _
    refine XS.iload X1.here hx rfl (hb hby d2_11) rfl ?_
    show Sp p e below T1 (mkF m 13 #[.val (.ref w_AES_GCM_NOPADDING), .val (.int p1), .val (.ref kl_AES_GCM_NOPADDING), .val (.int (2 : Int32)), .val (.int (0 : Int32)), .unset] [(.int (0 : Int32))]) _
    refine XS.iloadN X1.here hx rfl (hb hby d2_13) rfl ?_
    show Sp p e below T1 (mkF m 14 #[.val (.ref w_AES_GCM_NOPADDING), .val (.int p1), .val (.ref kl_AES_GCM_NOPADDING), .val (.int (2 : Int32)), .val (.int (0 : Int32)), .unset] [(.int (2 : Int32)), (.int (0 : Int32))]) _
    refine XS.icmpNo X1.here hx rfl (hb hby d2_14) rfl (tlt (by decide : (0 : Int32) < (2 : Int32))).2.1 ?_
    show Sp p e below T1 (mkF m 17 #[.val (.ref w_AES_GCM_NOPADDING), .val (.int p1), .val (.ref kl_AES_GCM_NOPADDING), .val (.int (2 : Int32)), .val (.int (0 : Int32)), .unset] []) _
    refine XS.aloadN X1.here hx rfl (hb hby d2_17) rfl rfl ?_
    show Sp p e below T1 (mkF m 18 #[.val (.ref w_AES_GCM_NOPADDING), .val (.int p1), .val (.ref kl_AES_GCM_NOPADDING), .val (.int (2 : Int32)), .val (.int (0 : Int32)), .unset] [(.ref kl_AES_GCM_NOPADDING)]) _
    refine XS.iload X1.here hx rfl (hb hby d2_18) rfl ?_
    show Sp p e below T1 (mkF m 20 #[.val (.ref w_AES_GCM_NOPADDING), .val (.int p1), .val (.ref kl_AES_GCM_NOPADDING), .val (.int (2 : Int32)), .val (.int (0 : Int32)), .unset] [(.int (0 : Int32)), (.ref kl_AES_GCM_NOPADDING)]) _
    refine X1.iaload hx (j := (0 : Int32)) (v := (.int (16 : Int32))) (by rw [e1]; exact Ar3.1) (State.isArrayOf_alike hZ.alike Ar3.2.1) Ar3.2.2 hin3 hat3 (g := (mkF m 20 #[.val (.ref w_AES_GCM_NOPADDING), .val (.int p1), .val (.ref kl_AES_GCM_NOPADDING), .val (.int (2 : Int32)), .val (.int (0 : Int32)), .unset] [(.int (0 : Int32)), (.ref kl_AES_GCM_NOPADDING)])) rfl rfl (hb hby d2_20) _ ?_
    show Sp p e below T1 (mkF m 21 #[.val (.ref w_AES_GCM_NOPADDING), .val (.int p1), .val (.ref kl_AES_GCM_NOPADDING), .val (.int (2 : Int32)), .val (.int (0 : Int32)), .unset] [(.int (16 : Int32))]) _
    refine XS.istore X1.here hx rfl (hb hby d2_21) rfl (l' := #[.val (.ref w_AES_GCM_NOPADDING), .val (.int p1), .val (.ref kl_AES_GCM_NOPADDING), .val (.int (2 : Int32)), .val (.int (0 : Int32)), .val (.int (16 : Int32))]) rfl ?_
    show Sp p e below T1 (mkF m 23 #[.val (.ref w_AES_GCM_NOPADDING), .val (.int p1), .val (.ref kl_AES_GCM_NOPADDING), .val (.int (2 : Int32)), .val (.int (0 : Int32)), .val (.int (16 : Int32))] []) _
    refine XS.iload X1.here hx rfl (hb hby d2_23) rfl ?_
    show Sp p e below T1 (mkF m 25 #[.val (.ref w_AES_GCM_NOPADDING), .val (.int p1), .val (.ref kl_AES_GCM_NOPADDING), .val (.int (2 : Int32)), .val (.int (0 : Int32)), .val (.int (16 : Int32))] [(.int (16 : Int32))]) _
    refine XS.iloadN X1.here hx rfl (hb hby d2_25) rfl ?_
    show Sp p e below T1 (mkF m 26 #[.val (.ref w_AES_GCM_NOPADDING), .val (.int p1), .val (.ref kl_AES_GCM_NOPADDING), .val (.int (2 : Int32)), .val (.int (0 : Int32)), .val (.int (16 : Int32))] [(.int p1), (.int (16 : Int32))]) _
    refine XS.icmpYes X1.here hx rfl (pc0 := 26) (pc' := 31) rfl (hb hby d2_26) rfl (feq (fun q => hc1 (Eq.symm q) : ¬ ((16 : Int32) = p1))).2 (by decide) (by decide) ?_
    show Sp p e below T1 (mkF m 31 #[.val (.ref w_AES_GCM_NOPADDING), .val (.int p1), .val (.ref kl_AES_GCM_NOPADDING), .val (.int (2 : Int32)), .val (.int (0 : Int32)), .val (.int (16 : Int32))] []) _
    refine XS.iinc X1.here hx rfl (hb hby d2_31) rfl (l' := #[.val (.ref w_AES_GCM_NOPADDING), .val (.int p1), .val (.ref kl_AES_GCM_NOPADDING), .val (.int (2 : Int32)), .val (.int ((0 : Int32) + (1 : Int32))), .val (.int (16 : Int32))]) rfl ?_
    show Sp p e below T1 (mkF m 34 #[.val (.ref w_AES_GCM_NOPADDING), .val (.int p1), .val (.ref kl_AES_GCM_NOPADDING), .val (.int (2 : Int32)), .val (.int ((0 : Int32) + (1 : Int32))), .val (.int (16 : Int32))] []) _
    refine XS.goto X1.here hx rfl (pc0 := 34) (pc' := 11) rfl (hb hby d2_34) (by decide) (by decide) ?_
    show Sp p e below T1 (mkF m 11 #[.val (.ref w_AES_GCM_NOPADDING), .val (.int p1), .val (.ref kl_AES_GCM_NOPADDING), .val (.int (2 : Int32)), .val (.int ((0 : Int32) + (1 : Int32))), .val (.int (16 : Int32))] []) _
    refine XS.iload X1.here hx rfl (hb hby d2_11) rfl ?_
    show Sp p e below T1 (mkF m 13 #[.val (.ref w_AES_GCM_NOPADDING), .val (.int p1), .val (.ref kl_AES_GCM_NOPADDING), .val (.int (2 : Int32)), .val (.int ((0 : Int32) + (1 : Int32))), .val (.int (16 : Int32))] [(.int ((0 : Int32) + (1 : Int32)))]) _
    refine XS.iloadN X1.here hx rfl (hb hby d2_13) rfl ?_
    show Sp p e below T1 (mkF m 14 #[.val (.ref w_AES_GCM_NOPADDING), .val (.int p1), .val (.ref kl_AES_GCM_NOPADDING), .val (.int (2 : Int32)), .val (.int ((0 : Int32) + (1 : Int32))), .val (.int (16 : Int32))] [(.int (2 : Int32)), (.int ((0 : Int32) + (1 : Int32)))]) _
    refine XS.icmpNo X1.here hx rfl (hb hby d2_14) rfl (tlt (by decide : ((0 : Int32) + (1 : Int32)) < (2 : Int32))).2.1 ?_
    show Sp p e below T1 (mkF m 17 #[.val (.ref w_AES_GCM_NOPADDING), .val (.int p1), .val (.ref kl_AES_GCM_NOPADDING), .val (.int (2 : Int32)), .val (.int ((0 : Int32) + (1 : Int32))), .val (.int (16 : Int32))] []) _
    refine XS.aloadN X1.here hx rfl (hb hby d2_17) rfl rfl ?_
    show Sp p e below T1 (mkF m 18 #[.val (.ref w_AES_GCM_NOPADDING), .val (.int p1), .val (.ref kl_AES_GCM_NOPADDING), .val (.int (2 : Int32)), .val (.int ((0 : Int32) + (1 : Int32))), .val (.int (16 : Int32))] [(.ref kl_AES_GCM_NOPADDING)]) _
    refine XS.iload X1.here hx rfl (hb hby d2_18) rfl ?_
    show Sp p e below T1 (mkF m 20 #[.val (.ref w_AES_GCM_NOPADDING), .val (.int p1), .val (.ref kl_AES_GCM_NOPADDING), .val (.int (2 : Int32)), .val (.int ((0 : Int32) + (1 : Int32))), .val (.int (16 : Int32))] [(.int ((0 : Int32) + (1 : Int32))), (.ref kl_AES_GCM_NOPADDING)]) _
    refine X1.iaload hx (j := ((0 : Int32) + (1 : Int32))) (v := (.int (32 : Int32))) (by rw [e1]; exact Ar4.1) (State.isArrayOf_alike hZ.alike Ar4.2.1) Ar4.2.2 hin4 hat4 (g := (mkF m 20 #[.val (.ref w_AES_GCM_NOPADDING), .val (.int p1), .val (.ref kl_AES_GCM_NOPADDING), .val (.int (2 : Int32)), .val (.int ((0 : Int32) + (1 : Int32))), .val (.int (16 : Int32))] [(.int ((0 : Int32) + (1 : Int32))), (.ref kl_AES_GCM_NOPADDING)])) rfl rfl (hb hby d2_20) _ ?_
    show Sp p e below T1 (mkF m 21 #[.val (.ref w_AES_GCM_NOPADDING), .val (.int p1), .val (.ref kl_AES_GCM_NOPADDING), .val (.int (2 : Int32)), .val (.int ((0 : Int32) + (1 : Int32))), .val (.int (16 : Int32))] [(.int (32 : Int32))]) _
    refine XS.istore X1.here hx rfl (hb hby d2_21) rfl (l' := #[.val (.ref w_AES_GCM_NOPADDING), .val (.int p1), .val (.ref kl_AES_GCM_NOPADDING), .val (.int (2 : Int32)), .val (.int ((0 : Int32) + (1 : Int32))), .val (.int (32 : Int32))]) rfl ?_
    show Sp p e below T1 (mkF m 23 #[.val (.ref w_AES_GCM_NOPADDING), .val (.int p1), .val (.ref kl_AES_GCM_NOPADDING), .val (.int (2 : Int32)), .val (.int ((0 : Int32) + (1 : Int32))), .val (.int (32 : Int32))] []) _
    refine XS.iload X1.here hx rfl (hb hby d2_23) rfl ?_
    show Sp p e below T1 (mkF m 25 #[.val (.ref w_AES_GCM_NOPADDING), .val (.int p1), .val (.ref kl_AES_GCM_NOPADDING), .val (.int (2 : Int32)), .val (.int ((0 : Int32) + (1 : Int32))), .val (.int (32 : Int32))] [(.int (32 : Int32))]) _
    refine XS.iloadN X1.here hx rfl (hb hby d2_25) rfl ?_
    show Sp p e below T1 (mkF m 26 #[.val (.ref w_AES_GCM_NOPADDING), .val (.int p1), .val (.ref kl_AES_GCM_NOPADDING), .val (.int (2 : Int32)), .val (.int ((0 : Int32) + (1 : Int32))), .val (.int (32 : Int32))] [(.int p1), (.int (32 : Int32))]) _
    refine XS.icmpYes X1.here hx rfl (pc0 := 26) (pc' := 31) rfl (hb hby d2_26) rfl (feq (fun q => hc2 (Eq.symm q) : ¬ ((32 : Int32) = p1))).2 (by decide) (by decide) ?_
    show Sp p e below T1 (mkF m 31 #[.val (.ref w_AES_GCM_NOPADDING), .val (.int p1), .val (.ref kl_AES_GCM_NOPADDING), .val (.int (2 : Int32)), .val (.int ((0 : Int32) + (1 : Int32))), .val (.int (32 : Int32))] []) _
    refine XS.iinc X1.here hx rfl (hb hby d2_31) rfl (l' := #[.val (.ref w_AES_GCM_NOPADDING), .val (.int p1), .val (.ref kl_AES_GCM_NOPADDING), .val (.int (2 : Int32)), .val (.int (((0 : Int32) + (1 : Int32)) + (1 : Int32))), .val (.int (32 : Int32))]) rfl ?_
    show Sp p e below T1 (mkF m 34 #[.val (.ref w_AES_GCM_NOPADDING), .val (.int p1), .val (.ref kl_AES_GCM_NOPADDING), .val (.int (2 : Int32)), .val (.int (((0 : Int32) + (1 : Int32)) + (1 : Int32))), .val (.int (32 : Int32))] []) _
    refine XS.goto X1.here hx rfl (pc0 := 34) (pc' := 11) rfl (hb hby d2_34) (by decide) (by decide) ?_
    show Sp p e below T1 (mkF m 11 #[.val (.ref w_AES_GCM_NOPADDING), .val (.int p1), .val (.ref kl_AES_GCM_NOPADDING), .val (.int (2 : Int32)), .val (.int (((0 : Int32) + (1 : Int32)) + (1 : Int32))), .val (.int (32 : Int32))] []) _
    refine XS.iload X1.here hx rfl (hb hby d2_11) rfl ?_
    show Sp p e below T1 (mkF m 13 #[.val (.ref w_AES_GCM_NOPADDING), .val (.int p1), .val (.ref kl_AES_GCM_NOPADDING), .val (.int (2 : Int32)), .val (.int (((0 : Int32) + (1 : Int32)) + (1 : Int32))), .val (.int (32 : Int32))] [(.int (((0 : Int32) + (1 : Int32)) + (1 : Int32)))]) _
    refine XS.iloadN X1.here hx rfl (hb hby d2_13) rfl ?_
    show Sp p e below T1 (mkF m 14 #[.val (.ref w_AES_GCM_NOPADDING), .val (.int p1), .val (.ref kl_AES_GCM_NOPADDING), .val (.int (2 : Int32)), .val (.int (((0 : Int32) + (1 : Int32)) + (1 : Int32))), .val (.int (32 : Int32))] [(.int (2 : Int32)), (.int (((0 : Int32) + (1 : Int32)) + (1 : Int32)))]) _
    refine XS.icmpYes X1.here hx rfl (pc0 := 14) (pc' := 37) rfl (hb hby d2_14) rfl (flt (by decide : ¬ ((((0 : Int32) + (1 : Int32)) + (1 : Int32)) < (2 : Int32)))).2.1 (by decide) (by decide) ?_
    show Sp p e below T1 (mkF m 37 #[.val (.ref w_AES_GCM_NOPADDING), .val (.int p1), .val (.ref kl_AES_GCM_NOPADDING), .val (.int (2 : Int32)), .val (.int (((0 : Int32) + (1 : Int32)) + (1 : Int32))), .val (.int (32 : Int32))] []) _
    refine XS.iconst X1.here hx rfl (hb hby d2_37) ?_
    show Sp p e below T1 (mkF m 38 #[.val (.ref w_AES_GCM_NOPADDING), .val (.int p1), .val (.ref kl_AES_GCM_NOPADDING), .val (.int (2 : Int32)), .val (.int (((0 : Int32) + (1 : Int32)) + (1 : Int32))), .val (.int (32 : Int32))] [(.int (0 : Int32))]) _
    exact retN X1 hx (t := .boolean) Bd.returns (by simp) (hb hby d2_38) hr
  · show Q25 Z w_AES_128_GCM w_AES_256_GCM w_AES_CBC_PKCS5PADDING w_AES_128_CBC w_AES_GCM_NOPADDING kl_AES_128_GCM kl_AES_256_GCM kl_AES_CBC_PKCS5PADDING kl_AES_128_CBC kl_AES_GCM_NOPADDING k_kl_AES_128_GCM k_kl_AES_256_GCM k_kl_AES_CBC_PKCS5PADDING k_kl_AES_128_CBC k_kl_AES_GCM_NOPADDING p1 h0 n0 _ T1.heap _
    rw [e1]
    exact ⟨rfl, N0, rfl⟩
set_option maxRecDepth 65536 in
set_option maxHeartbeats 40000000 in
theorem rm26 (l : Launch) (Z : State) (a0 : Array Value) (hw : ∀ d ∈ tables_1, d.before a0 Z = true) (ws : List Jvm.Cond) (w_AES_128_GCM w_AES_256_GCM w_AES_CBC_PKCS5PADDING w_AES_128_CBC w_AES_GCM_NOPADDING kl_AES_128_GCM kl_AES_256_GCM kl_AES_CBC_PKCS5PADDING kl_AES_128_CBC kl_AES_GCM_NOPADDING : Addr) (k_kl_AES_128_GCM : ClassId) (k_kl_AES_256_GCM : ClassId) (k_kl_AES_CBC_PKCS5PADDING : ClassId) (k_kl_AES_128_CBC : ClassId) (k_kl_AES_GCM_NOPADDING : ClassId) (hp : Perm Z w_AES_128_GCM w_AES_256_GCM w_AES_CBC_PKCS5PADDING w_AES_128_CBC w_AES_GCM_NOPADDING kl_AES_128_GCM kl_AES_256_GCM kl_AES_CBC_PKCS5PADDING kl_AES_128_CBC kl_AES_GCM_NOPADDING k_kl_AES_128_GCM k_kl_AES_256_GCM k_kl_AES_CBC_PKCS5PADDING k_kl_AES_128_CBC k_kl_AES_GCM_NOPADDING) (p0 : Int32) (p1 : Int32) (p2 : Int32) (z5 : Int32) (h0 : Heap) (n0 : Nat) (O0 : Old Z n0 h0) (hcut : Cut_0_12 p0 p1 p2 ((p0 &&& (2147483647 : Int32)) % (5 : Int32)) (p1 &&& (3 : Int32)) z5) (hc2 : ¬ (((p0 &&& (2147483647 : Int32)) % (5 : Int32)) = (0 : Int32))) (hc3 : ¬ (((p0 &&& (2147483647 : Int32)) % (5 : Int32)) = (1 : Int32))) (hc4 : ((p0 &&& (2147483647 : Int32)) % (5 : Int32)) = (2 : Int32)) (hc5 : ¬ (z5 = (16 : Int32))) (hc6 : ¬ (z5 = (32 : Int32))) :
    MetFree l x (head1 (Jvm.Cond.code x code maxLocals ret :: ws) room_1) (fun a U => a = #[(.int p0), (.int p1), (.int p2)] ∧ Z.Warmed39 U.vm ∧ U.heap = h0) (fun _ _ _ _ _ => True) (fun _ U o U' => ∃ v L, o = .returned v ∧ (v = some (.int (1 : Int32)) ∧ Fr n0 L) ∧ FrameEnd U o U' L 0 0) := by
  refine MetFree.of_bodySF (plainFor_of_name pn_1) hisR ?_
  intro p e s m args below meth c s₁ Bd hml0 hP hK
  obtain ⟨rfl, hZ, hh⟩ := hP
  have hx := Bd.exec
  have hby := Bd.bytes
  have hml : c.maxLocals = 10 := hml0
  have hown : s.vm.findClass "com/example/cloakfield/cloakfield/crypto/EncryptionAlgorithmAcceptsKeyLengthPinLaw" = some m.cls := findClass_of_methodNamed Bd.named
  have hnm := (name_of_methodNamed Bd.named Bd.method).1
  have X0 : Stand p l e room_1 s m #[(.int p0), (.int p1), (.int p2)] below meth c s₁ [] 0 0 := Stand.of_body Bd
  have e0 : s₁.heap = h0 := by rw [← hh, Bd.state]; rfl
  have N0 := Fr.nil n0
  have hp' := hp
  obtain ⟨S_w_AES_128_GCM, E_w_AES_128_GCM, S_w_AES_256_GCM, E_w_AES_256_GCM, S_w_AES_CBC_PKCS5PADDING, E_w_AES_CBC_PKCS5PADDING, S_w_AES_128_CBC, E_w_AES_128_CBC, S_w_AES_GCM_NOPADDING, E_w_AES_GCM_NOPADDING, F_keyLengths_w_AES_128_GCM, V_kl_AES_128_GCM, F_keyLengths_w_AES_256_GCM, V_kl_AES_256_GCM, F_keyLengths_w_AES_CBC_PKCS5PADDING, V_kl_AES_CBC_PKCS5PADDING, F_keyLengths_w_AES_128_CBC, V_kl_AES_128_CBC, F_keyLengths_w_AES_GCM_NOPADDING, V_kl_AES_GCM_NOPADDING⟩ := hp'
  have pre0 : ∀ t, Steps p.tables e below (s₁.setTop (mkF m 0 #[.val (.int p0), .val (.int p1), .val (.int p2), .unset, .unset, .unset, .unset, .unset, .unset, .unset] [])) t → Steps p.tables e below (s₁.setTop (entryFrame m #[(.int p0), (.int p1), (.int p2)] maxLocals)) t := fun t k => castTop (ef_0_0 m p0 p1 p2) k
  have st1 := hcut X0 hx hZ hw hby hown
  obtain ⟨_, _, ⟨T2, L2, k2, n2⟩, -, X2, ⟨Lc2, hQ2, l2, y2, z2⟩, st2⟩ := Jvm.LawKit.callS X0 hx (y := y0) hown (mvT hZ (hw _ (List.mem_of_getElem? (i := 1) rfl))) (mvT hZ (hw _ (List.mem_of_getElem? (i := 2) rfl))) (mvT hZ (hw _ (List.mem_of_getElem? (i := 3) rfl))) (mvT hZ (hw _ (List.mem_of_getElem? (i := 4) rfl))) (by decide) (backOf (W := 0) (rm7 l Z a0 hw [] w_AES_128_GCM w_AES_256_GCM w_AES_CBC_PKCS5PADDING w_AES_128_CBC w_AES_GCM_NOPADDING kl_AES_128_GCM kl_AES_256_GCM kl_AES_CBC_PKCS5PADDING kl_AES_128_CBC kl_AES_GCM_NOPADDING k_kl_AES_128_GCM k_kl_AES_256_GCM k_kl_AES_CBC_PKCS5PADDING k_kl_AES_128_CBC k_kl_AES_GCM_NOPADDING hp ((p0 &&& (2147483647 : Int32)) % (5 : Int32)) h0 n0 O0 hc2 hc3 hc4) hZ (hw _ (List.mem_of_getElem? (i := 4) rfl)) (hw _ (List.mem_of_getElem? (i := 3) rfl)) (by decide) (by decide)) (g := (mkF m 59 #[.val (.int p0), .val (.int p1), .val (.int p2), .val (.int ((p0 &&& (2147483647 : Int32)) % (5 : Int32))), .val (.int (p1 &&& (3 : Int32))), .val (.int z5), .unset, .unset, .unset, .unset] [(.int ((p0 &&& (2147483647 : Int32)) % (5 : Int32)))])) rfl (by rw [hml]; rfl) (argsL := [(.int ((p0 &&& (2147483647 : Int32)) % (5 : Int32)))]) (rest := []) (lenOf pd_0 rfl) rfl (by show 2 * 0 + _ ≤ _; exact Nat.le_of_eq rfl) (hb hby at_59) (fun _ _ => ⟨rfl, e0, (by decide : 0 + 0 ≤ _), (by decide : 0 + 0 ≤ _)⟩)
  dsimp only [Pt.U, Pt.locs, Pt.cells, Pt.slots] at X2 l2 y2 z2 st2 hQ2
  subst l2 y2 z2
  obtain ⟨rfl, Nq2, eq2⟩ := hQ2
  have N2 := Fr.app N0 Nq2
  obtain ⟨cq3, kq3, q3a, q3b, q3c⟩ := isOf hZ eq2 (E_w_AES_GCM_NOPADDING.ext O0.2)
  obtain ⟨_, _, ⟨T3, L3, k3, n3⟩, -, X3, ⟨Lc3, hQ3, l3, y3, z3⟩, st3⟩ := X2.virtualBack hx (y := y1) (z := y1) hown (mvT hZ (hw _ (List.mem_of_getElem? (i := 8) rfl))) (mvT hZ (hw _ (List.mem_of_getElem? (i := 9) rfl))) (notFace_of_selects (args := #[]) (mvT hZ (hw _ (List.mem_of_getElem? (i := 11) rfl)))) (mvT hZ (hw _ (List.mem_of_getElem? (i := 11) rfl))) (mvT hZ (hw _ (List.mem_of_getElem? (i := 10) rfl))) (by decide) (backOf (W := 0) (rm25 l Z a0 hw [] w_AES_128_GCM w_AES_256_GCM w_AES_CBC_PKCS5PADDING w_AES_128_CBC w_AES_GCM_NOPADDING kl_AES_128_GCM kl_AES_256_GCM kl_AES_CBC_PKCS5PADDING kl_AES_128_CBC kl_AES_GCM_NOPADDING k_kl_AES_128_GCM k_kl_AES_256_GCM k_kl_AES_CBC_PKCS5PADDING k_kl_AES_128_CBC k_kl_AES_GCM_NOPADDING hp z5 h0 n0 O0 hc5 hc6) hZ (hw _ (List.mem_of_getElem? (i := 12) rfl)) (hw _ (List.mem_of_getElem? (i := 6) rfl)) (by decide) (by decide)) q3a q3c (g := (mkF m 147 #[.val (.int p0), .val (.int p1), .val (.int p2), .val (.int ((p0 &&& (2147483647 : Int32)) % (5 : Int32))), .val (.int (p1 &&& (3 : Int32))), .val (.int z5), .val (.ref w_AES_GCM_NOPADDING), .val (.int (1 : Int32)), .val (.int (1 : Int32)), .val (.int (0 : Int32))] [(.int z5), (.ref w_AES_GCM_NOPADDING)])) rfl (by rw [hml]; rfl) (Steps.refl _) (argsL := [(.int z5)]) (rest := []) (lenOf pd_1 rfl) rfl (by show 2 * 0 + _ ≤ _; exact Nat.le_of_eq rfl) (hb hby at_147) (fun _ _ => ⟨rfl, eq2, (by decide : 0 + 0 ≤ _), (by decide : 0 + 0 ≤ _)⟩)
  dsimp only [Pt.U, Pt.locs, Pt.cells, Pt.slots] at X3 l3 y3 z3 st3 hQ3
  subst l3 y3 z3
  obtain ⟨rfl, Nq3, eq3⟩ := hQ3
  have N3 := Fr.app N2 Nq3
  obtain ⟨fs, hr, hrun, hended, hW, hsame⟩ := X3.leave (v := some (.int (1 : Int32))) (fun h => by rw [Bd.returns] at h; cases h)
  refine ⟨_, _, pre0 _ ?_, hrun, hended, _, _, rfl, ?_, ⟨_, rfl⟩, hW, hsame.mono (by decide) (by decide)⟩
  · show Sp p e below s₁ (mkF m 0 #[.val (.int p0), .val (.int p1), .val (.int p2), .unset, .unset, .unset, .unset, .unset, .unset, .unset] []) _
    refine XS.iloadN X0.here hx rfl (hb hby at_0) rfl ?_
    show Sp p e below s₁ (mkF m 1 #[.val (.int p0), .val (.int p1), .val (.int p2), .unset, .unset, .unset, .unset, .unset, .unset, .unset] [(.int p0)]) _
    refine X0.ldcI hx hown (mvT hZ (hw _ (List.mem_of_getElem? (i := 0) rfl))) rfl (hb hby at_1) ?_
    show Sp p e below s₁ (mkF m 3 #[.val (.int p0), .val (.int p1), .val (.int p2), .unset, .unset, .unset, .unset, .unset, .unset, .unset] [(.int (2147483647 : Int32)), (.int p0)]) _
    refine XS.iand X0.here hx rfl (hb hby at_3) rfl ?_
    show Sp p e below s₁ (mkF m 4 #[.val (.int p0), .val (.int p1), .val (.int p2), .unset, .unset, .unset, .unset, .unset, .unset, .unset] [(.int (p0 &&& (2147483647 : Int32)))]) _
    refine XS.iconst X0.here hx rfl (hb hby at_4) ?_
    show Sp p e below s₁ (mkF m 5 #[.val (.int p0), .val (.int p1), .val (.int p2), .unset, .unset, .unset, .unset, .unset, .unset, .unset] [(.int (5 : Int32)), (.int (p0 &&& (2147483647 : Int32)))]) _
    refine iremM X0 hx rfl (hb hby at_5) rfl (by decide) ?_
    show Sp p e below s₁ (mkF m 6 #[.val (.int p0), .val (.int p1), .val (.int p2), .unset, .unset, .unset, .unset, .unset, .unset, .unset] [(.int ((p0 &&& (2147483647 : Int32)) % (5 : Int32)))]) _
    refine XS.istoreN X0.here hx rfl (hb hby at_6) rfl (l' := #[.val (.int p0), .val (.int p1), .val (.int p2), .val (.int ((p0 &&& (2147483647 : Int32)) % (5 : Int32))), .unset, .unset, .unset, .unset, .unset, .unset]) rfl ?_
    show Sp p e below s₁ (mkF m 7 #[.val (.int p0), .val (.int p1), .val (.int p2), .val (.int ((p0 &&& (2147483647 : Int32)) % (5 : Int32))), .unset, .unset, .unset, .unset, .unset, .unset] []) _
    refine XS.iloadN X0.here hx rfl (hb hby at_7) rfl ?_
    show Sp p e below s₁ (mkF m 8 #[.val (.int p0), .val (.int p1), .val (.int p2), .val (.int ((p0 &&& (2147483647 : Int32)) % (5 : Int32))), .unset, .unset, .unset, .unset, .unset, .unset] [(.int p1)]) _
    refine XS.iconst X0.here hx rfl (hb hby at_8) ?_
    show Sp p e below s₁ (mkF m 9 #[.val (.int p0), .val (.int p1), .val (.int p2), .val (.int ((p0 &&& (2147483647 : Int32)) % (5 : Int32))), .unset, .unset, .unset, .unset, .unset, .unset] [(.int (3 : Int32)), (.int p1)]) _
    refine XS.iand X0.here hx rfl (hb hby at_9) rfl ?_
    show Sp p e below s₁ (mkF m 10 #[.val (.int p0), .val (.int p1), .val (.int p2), .val (.int ((p0 &&& (2147483647 : Int32)) % (5 : Int32))), .unset, .unset, .unset, .unset, .unset, .unset] [(.int (p1 &&& (3 : Int32)))]) _
    refine XS.istore X0.here hx rfl (hb hby at_10) rfl (l' := #[.val (.int p0), .val (.int p1), .val (.int p2), .val (.int ((p0 &&& (2147483647 : Int32)) % (5 : Int32))), .val (.int (p1 &&& (3 : Int32))), .unset, .unset, .unset, .unset, .unset]) rfl ?_
    show Sp p e below s₁ (mkF m 12 #[.val (.int p0), .val (.int p1), .val (.int p2), .val (.int ((p0 &&& (2147483647 : Int32)) % (5 : Int32))), .val (.int (p1 &&& (3 : Int32))), .unset, .unset, .unset, .unset, .unset] []) _
    refine st1 _ ?_
    show Sp p e below s₁ (mkF m 58 #[.val (.int p0), .val (.int p1), .val (.int p2), .val (.int ((p0 &&& (2147483647 : Int32)) % (5 : Int32))), .val (.int (p1 &&& (3 : Int32))), .val (.int z5), .unset, .unset, .unset, .unset] []) _
    refine XS.iloadN X0.here hx rfl (hb hby at_58) rfl ?_
    show Sp p e below s₁ (mkF m 59 #[.val (.int p0), .val (.int p1), .val (.int p2), .val (.int ((p0 &&& (2147483647 : Int32)) % (5 : Int32))), .val (.int (p1 &&& (3 : Int32))), .val (.int z5), .unset, .unset, .unset, .unset] [(.int ((p0 &&& (2147483647 : Int32)) % (5 : Int32)))]) _
    refine st2 _ ?_
    show Sp p e below T2 (mkF m 62 #[.val (.int p0), .val (.int p1), .val (.int p2), .val (.int ((p0 &&& (2147483647 : Int32)) % (5 : Int32))), .val (.int (p1 &&& (3 : Int32))), .val (.int z5), .unset, .unset, .unset, .unset] [(.ref w_AES_GCM_NOPADDING)]) _
    refine XS.astore X2.here hx rfl (hb hby at_62) rfl rfl (l' := #[.val (.int p0), .val (.int p1), .val (.int p2), .val (.int ((p0 &&& (2147483647 : Int32)) % (5 : Int32))), .val (.int (p1 &&& (3 : Int32))), .val (.int z5), .val (.ref w_AES_GCM_NOPADDING), .unset, .unset, .unset]) rfl ?_
    show Sp p e below T2 (mkF m 64 #[.val (.int p0), .val (.int p1), .val (.int p2), .val (.int ((p0 &&& (2147483647 : Int32)) % (5 : Int32))), .val (.int (p1 &&& (3 : Int32))), .val (.int z5), .val (.ref w_AES_GCM_NOPADDING), .unset, .unset, .unset] []) _
    refine XS.iloadN X2.here hx rfl (hb hby at_64) rfl ?_
    show Sp p e below T2 (mkF m 65 #[.val (.int p0), .val (.int p1), .val (.int p2), .val (.int ((p0 &&& (2147483647 : Int32)) % (5 : Int32))), .val (.int (p1 &&& (3 : Int32))), .val (.int z5), .val (.ref w_AES_GCM_NOPADDING), .unset, .unset, .unset] [(.int ((p0 &&& (2147483647 : Int32)) % (5 : Int32)))]) _
    refine XS.ifNo X2.here hx rfl (hb hby at_65) rfl ((if0 _ _).trans (feq hc2).1) ?_
    show Sp p e below T2 (mkF m 68 #[.val (.int p0), .val (.int p1), .val (.int p2), .val (.int ((p0 &&& (2147483647 : Int32)) % (5 : Int32))), .val (.int (p1 &&& (3 : Int32))), .val (.int z5), .val (.ref w_AES_GCM_NOPADDING), .unset, .unset, .unset] []) _
    refine XS.iloadN X2.here hx rfl (hb hby at_68) rfl ?_
    show Sp p e below T2 (mkF m 69 #[.val (.int p0), .val (.int p1), .val (.int p2), .val (.int ((p0 &&& (2147483647 : Int32)) % (5 : Int32))), .val (.int (p1 &&& (3 : Int32))), .val (.int z5), .val (.ref w_AES_GCM_NOPADDING), .unset, .unset, .unset] [(.int ((p0 &&& (2147483647 : Int32)) % (5 : Int32)))]) _
    refine XS.iconst X2.here hx rfl (hb hby at_69) ?_
    show Sp p e below T2 (mkF m 70 #[.val (.int p0), .val (.int p1), .val (.int p2), .val (.int ((p0 &&& (2147483647 : Int32)) % (5 : Int32))), .val (.int (p1 &&& (3 : Int32))), .val (.int z5), .val (.ref w_AES_GCM_NOPADDING), .unset, .unset, .unset] [(.int (2 : Int32)), (.int ((p0 &&& (2147483647 : Int32)) % (5 : Int32)))]) _
    refine XS.icmpYes X2.here hx rfl (pc0 := 70) (pc' := 83) rfl (hb hby at_70) rfl (teq hc4).1 (by decide) (by decide) ?_
    show Sp p e below T2 (mkF m 83 #[.val (.int p0), .val (.int p1), .val (.int p2), .val (.int ((p0 &&& (2147483647 : Int32)) % (5 : Int32))), .val (.int (p1 &&& (3 : Int32))), .val (.int z5), .val (.ref w_AES_GCM_NOPADDING), .unset, .unset, .unset] []) _
    refine XS.iconst X2.here hx rfl (hb hby at_83) ?_
    show Sp p e below T2 (mkF m 84 #[.val (.int p0), .val (.int p1), .val (.int p2), .val (.int ((p0 &&& (2147483647 : Int32)) % (5 : Int32))), .val (.int (p1 &&& (3 : Int32))), .val (.int z5), .val (.ref w_AES_GCM_NOPADDING), .unset, .unset, .unset] [(.int (1 : Int32))]) _
    refine XS.goto X2.here hx rfl (pc0 := 84) (pc' := 88) rfl (hb hby at_84) (by decide) (by decide) ?_
    show Sp p e below T2 (mkF m 88 #[.val (.int p0), .val (.int p1), .val (.int p2), .val (.int ((p0 &&& (2147483647 : Int32)) % (5 : Int32))), .val (.int (p1 &&& (3 : Int32))), .val (.int z5), .val (.ref w_AES_GCM_NOPADDING), .unset, .unset, .unset] [(.int (1 : Int32))]) _
    refine XS.istore X2.here hx rfl (hb hby at_88) rfl (l' := #[.val (.int p0), .val (.int p1), .val (.int p2), .val (.int ((p0 &&& (2147483647 : Int32)) % (5 : Int32))), .val (.int (p1 &&& (3 : Int32))), .val (.int z5), .val (.ref w_AES_GCM_NOPADDING), .val (.int (1 : Int32)), .unset, .unset]) rfl ?_
    show Sp p e below T2 (mkF m 90 #[.val (.int p0), .val (.int p1), .val (.int p2), .val (.int ((p0 &&& (2147483647 : Int32)) % (5 : Int32))), .val (.int (p1 &&& (3 : Int32))), .val (.int z5), .val (.ref w_AES_GCM_NOPADDING), .val (.int (1 : Int32)), .unset, .unset] []) _
    refine XS.iloadN X2.here hx rfl (hb hby at_90) rfl ?_
    show Sp p e below T2 (mkF m 91 #[.val (.int p0), .val (.int p1), .val (.int p2), .val (.int ((p0 &&& (2147483647 : Int32)) % (5 : Int32))), .val (.int (p1 &&& (3 : Int32))), .val (.int z5), .val (.ref w_AES_GCM_NOPADDING), .val (.int (1 : Int32)), .unset, .unset] [(.int ((p0 &&& (2147483647 : Int32)) % (5 : Int32)))]) _
    refine XS.iconst X2.here hx rfl (hb hby at_91) ?_
    show Sp p e below T2 (mkF m 92 #[.val (.int p0), .val (.int p1), .val (.int p2), .val (.int ((p0 &&& (2147483647 : Int32)) % (5 : Int32))), .val (.int (p1 &&& (3 : Int32))), .val (.int z5), .val (.ref w_AES_GCM_NOPADDING), .val (.int (1 : Int32)), .unset, .unset] [(.int (1 : Int32)), (.int ((p0 &&& (2147483647 : Int32)) % (5 : Int32)))]) _
    refine XS.icmpNo X2.here hx rfl (hb hby at_92) rfl (feq hc3).1 ?_
    show Sp p e below T2 (mkF m 95 #[.val (.int p0), .val (.int p1), .val (.int p2), .val (.int ((p0 &&& (2147483647 : Int32)) % (5 : Int32))), .val (.int (p1 &&& (3 : Int32))), .val (.int z5), .val (.ref w_AES_GCM_NOPADDING), .val (.int (1 : Int32)), .unset, .unset] []) _
    refine XS.iloadN X2.here hx rfl (hb hby at_95) rfl ?_
    show Sp p e below T2 (mkF m 96 #[.val (.int p0), .val (.int p1), .val (.int p2), .val (.int ((p0 &&& (2147483647 : Int32)) % (5 : Int32))), .val (.int (p1 &&& (3 : Int32))), .val (.int z5), .val (.ref w_AES_GCM_NOPADDING), .val (.int (1 : Int32)), .unset, .unset] [(.int ((p0 &&& (2147483647 : Int32)) % (5 : Int32)))]) _
    refine XS.iconst X2.here hx rfl (hb hby at_96) ?_
    show Sp p e below T2 (mkF m 97 #[.val (.int p0), .val (.int p1), .val (.int p2), .val (.int ((p0 &&& (2147483647 : Int32)) % (5 : Int32))), .val (.int (p1 &&& (3 : Int32))), .val (.int z5), .val (.ref w_AES_GCM_NOPADDING), .val (.int (1 : Int32)), .unset, .unset] [(.int (2 : Int32)), (.int ((p0 &&& (2147483647 : Int32)) % (5 : Int32)))]) _
    refine XS.icmpYes X2.here hx rfl (pc0 := 97) (pc' := 105) rfl (hb hby at_97) rfl (teq hc4).1 (by decide) (by decide) ?_
    show Sp p e below T2 (mkF m 105 #[.val (.int p0), .val (.int p1), .val (.int p2), .val (.int ((p0 &&& (2147483647 : Int32)) % (5 : Int32))), .val (.int (p1 &&& (3 : Int32))), .val (.int z5), .val (.ref w_AES_GCM_NOPADDING), .val (.int (1 : Int32)), .unset, .unset] []) _
    refine XS.iconst X2.here hx rfl (hb hby at_105) ?_
    show Sp p e below T2 (mkF m 106 #[.val (.int p0), .val (.int p1), .val (.int p2), .val (.int ((p0 &&& (2147483647 : Int32)) % (5 : Int32))), .val (.int (p1 &&& (3 : Int32))), .val (.int z5), .val (.ref w_AES_GCM_NOPADDING), .val (.int (1 : Int32)), .unset, .unset] [(.int (1 : Int32))]) _
    refine XS.goto X2.here hx rfl (pc0 := 106) (pc' := 110) rfl (hb hby at_106) (by decide) (by decide) ?_
    show Sp p e below T2 (mkF m 110 #[.val (.int p0), .val (.int p1), .val (.int p2), .val (.int ((p0 &&& (2147483647 : Int32)) % (5 : Int32))), .val (.int (p1 &&& (3 : Int32))), .val (.int z5), .val (.ref w_AES_GCM_NOPADDING), .val (.int (1 : Int32)), .unset, .unset] [(.int (1 : Int32))]) _
    refine XS.istore X2.here hx rfl (hb hby at_110) rfl (l' := #[.val (.int p0), .val (.int p1), .val (.int p2), .val (.int ((p0 &&& (2147483647 : Int32)) % (5 : Int32))), .val (.int (p1 &&& (3 : Int32))), .val (.int z5), .val (.ref w_AES_GCM_NOPADDING), .val (.int (1 : Int32)), .val (.int (1 : Int32)), .unset]) rfl ?_
    show Sp p e below T2 (mkF m 112 #[.val (.int p0), .val (.int p1), .val (.int p2), .val (.int ((p0 &&& (2147483647 : Int32)) % (5 : Int32))), .val (.int (p1 &&& (3 : Int32))), .val (.int z5), .val (.ref w_AES_GCM_NOPADDING), .val (.int (1 : Int32)), .val (.int (1 : Int32)), .unset] []) _
    refine XS.iload X2.here hx rfl (hb hby at_112) rfl ?_
    show Sp p e below T2 (mkF m 114 #[.val (.int p0), .val (.int p1), .val (.int p2), .val (.int ((p0 &&& (2147483647 : Int32)) % (5 : Int32))), .val (.int (p1 &&& (3 : Int32))), .val (.int z5), .val (.ref w_AES_GCM_NOPADDING), .val (.int (1 : Int32)), .val (.int (1 : Int32)), .unset] [(.int z5)]) _
    refine XS.bipush X2.here hx rfl (hb hby at_114) ?_
    show Sp p e below T2 (mkF m 116 #[.val (.int p0), .val (.int p1), .val (.int p2), .val (.int ((p0 &&& (2147483647 : Int32)) % (5 : Int32))), .val (.int (p1 &&& (3 : Int32))), .val (.int z5), .val (.ref w_AES_GCM_NOPADDING), .val (.int (1 : Int32)), .val (.int (1 : Int32)), .unset] [(.int (16 : Int32)), (.int z5)]) _
    refine XS.icmpYes X2.here hx rfl (pc0 := 116) (pc' := 124) rfl (hb hby at_116) rfl (feq hc5).2 (by decide) (by decide) ?_
    show Sp p e below T2 (mkF m 124 #[.val (.int p0), .val (.int p1), .val (.int p2), .val (.int ((p0 &&& (2147483647 : Int32)) % (5 : Int32))), .val (.int (p1 &&& (3 : Int32))), .val (.int z5), .val (.ref w_AES_GCM_NOPADDING), .val (.int (1 : Int32)), .val (.int (1 : Int32)), .unset] []) _
    refine XS.iload X2.here hx rfl (hb hby at_124) rfl ?_
    show Sp p e below T2 (mkF m 126 #[.val (.int p0), .val (.int p1), .val (.int p2), .val (.int ((p0 &&& (2147483647 : Int32)) % (5 : Int32))), .val (.int (p1 &&& (3 : Int32))), .val (.int z5), .val (.ref w_AES_GCM_NOPADDING), .val (.int (1 : Int32)), .val (.int (1 : Int32)), .unset] [(.int z5)]) _
    refine XS.bipush X2.here hx rfl (hb hby at_126) ?_
    show Sp p e below T2 (mkF m 128 #[.val (.int p0), .val (.int p1), .val (.int p2), .val (.int ((p0 &&& (2147483647 : Int32)) % (5 : Int32))), .val (.int (p1 &&& (3 : Int32))), .val (.int z5), .val (.ref w_AES_GCM_NOPADDING), .val (.int (1 : Int32)), .val (.int (1 : Int32)), .unset] [(.int (32 : Int32)), (.int z5)]) _
    refine XS.icmpYes X2.here hx rfl (pc0 := 128) (pc' := 140) rfl (hb hby at_128) rfl (feq hc6).2 (by decide) (by decide) ?_
    show Sp p e below T2 (mkF m 140 #[.val (.int p0), .val (.int p1), .val (.int p2), .val (.int ((p0 &&& (2147483647 : Int32)) % (5 : Int32))), .val (.int (p1 &&& (3 : Int32))), .val (.int z5), .val (.ref w_AES_GCM_NOPADDING), .val (.int (1 : Int32)), .val (.int (1 : Int32)), .unset] []) _
    refine XS.iconst X2.here hx rfl (hb hby at_140) ?_
    show Sp p e below T2 (mkF m 141 #[.val (.int p0), .val (.int p1), .val (.int p2), .val (.int ((p0 &&& (2147483647 : Int32)) % (5 : Int32))), .val (.int (p1 &&& (3 : Int32))), .val (.int z5), .val (.ref w_AES_GCM_NOPADDING), .val (.int (1 : Int32)), .val (.int (1 : Int32)), .unset] [(.int (0 : Int32))]) _
    refine XS.istore X2.here hx rfl (hb hby at_141) rfl (l' := #[.val (.int p0), .val (.int p1), .val (.int p2), .val (.int ((p0 &&& (2147483647 : Int32)) % (5 : Int32))), .val (.int (p1 &&& (3 : Int32))), .val (.int z5), .val (.ref w_AES_GCM_NOPADDING), .val (.int (1 : Int32)), .val (.int (1 : Int32)), .val (.int (0 : Int32))]) rfl ?_
    show Sp p e below T2 (mkF m 143 #[.val (.int p0), .val (.int p1), .val (.int p2), .val (.int ((p0 &&& (2147483647 : Int32)) % (5 : Int32))), .val (.int (p1 &&& (3 : Int32))), .val (.int z5), .val (.ref w_AES_GCM_NOPADDING), .val (.int (1 : Int32)), .val (.int (1 : Int32)), .val (.int (0 : Int32))] []) _
    refine XS.aload X2.here hx rfl (hb hby at_143) rfl rfl ?_
    show Sp p e below T2 (mkF m 145 #[.val (.int p0), .val (.int p1), .val (.int p2), .val (.int ((p0 &&& (2147483647 : Int32)) % (5 : Int32))), .val (.int (p1 &&& (3 : Int32))), .val (.int z5), .val (.ref w_AES_GCM_NOPADDING), .val (.int (1 : Int32)), .val (.int (1 : Int32)), .val (.int (0 : Int32))] [(.ref w_AES_GCM_NOPADDING)]) _
    refine XS.iload X2.here hx rfl (hb hby at_145) rfl ?_
    show Sp p e below T2 (mkF m 147 #[.val (.int p0), .val (.int p1), .val (.int p2), .val (.int ((p0 &&& (2147483647 : Int32)) % (5 : Int32))), .val (.int (p1 &&& (3 : Int32))), .val (.int z5), .val (.ref w_AES_GCM_NOPADDING), .val (.int (1 : Int32)), .val (.int (1 : Int32)), .val (.int (0 : Int32))] [(.int z5), (.ref w_AES_GCM_NOPADDING)]) _
    refine st3.trans ?_
    show Sp p e below T3 (mkF m 150 #[.val (.int p0), .val (.int p1), .val (.int p2), .val (.int ((p0 &&& (2147483647 : Int32)) % (5 : Int32))), .val (.int (p1 &&& (3 : Int32))), .val (.int z5), .val (.ref w_AES_GCM_NOPADDING), .val (.int (1 : Int32)), .val (.int (1 : Int32)), .val (.int (0 : Int32))] [(.int (0 : Int32))]) _
    refine XS.iload X3.here hx rfl (hb hby at_150) rfl ?_
    show Sp p e below T3 (mkF m 152 #[.val (.int p0), .val (.int p1), .val (.int p2), .val (.int ((p0 &&& (2147483647 : Int32)) % (5 : Int32))), .val (.int (p1 &&& (3 : Int32))), .val (.int z5), .val (.ref w_AES_GCM_NOPADDING), .val (.int (1 : Int32)), .val (.int (1 : Int32)), .val (.int (0 : Int32))] [(.int (0 : Int32)), (.int (0 : Int32))]) _
    refine XS.icmpNo X3.here hx rfl (hb hby at_152) rfl (teq (by decide : (0 : Int32) = (0 : Int32))).2 ?_
    show Sp p e below T3 (mkF m 155 #[.val (.int p0), .val (.int p1), .val (.int p2), .val (.int ((p0 &&& (2147483647 : Int32)) % (5 : Int32))), .val (.int (p1 &&& (3 : Int32))), .val (.int z5), .val (.ref w_AES_GCM_NOPADDING), .val (.int (1 : Int32)), .val (.int (1 : Int32)), .val (.int (0 : Int32))] []) _
    refine XS.iconst X3.here hx rfl (hb hby at_155) ?_
    show Sp p e below T3 (mkF m 156 #[.val (.int p0), .val (.int p1), .val (.int p2), .val (.int ((p0 &&& (2147483647 : Int32)) % (5 : Int32))), .val (.int (p1 &&& (3 : Int32))), .val (.int z5), .val (.ref w_AES_GCM_NOPADDING), .val (.int (1 : Int32)), .val (.int (1 : Int32)), .val (.int (0 : Int32))] [(.int (1 : Int32))]) _
    refine XS.goto X3.here hx rfl (pc0 := 156) (pc' := 160) rfl (hb hby at_156) (by decide) (by decide) ?_
    show Sp p e below T3 (mkF m 160 #[.val (.int p0), .val (.int p1), .val (.int p2), .val (.int ((p0 &&& (2147483647 : Int32)) % (5 : Int32))), .val (.int (p1 &&& (3 : Int32))), .val (.int z5), .val (.ref w_AES_GCM_NOPADDING), .val (.int (1 : Int32)), .val (.int (1 : Int32)), .val (.int (0 : Int32))] [(.int (1 : Int32))]) _
    exact retN X3 hx (t := .boolean) Bd.returns (by simp) (hb hby at_160) hr
  · skip
    exact ⟨rfl, N3⟩
def Q27 (Z : State) (w_AES_128_GCM : Addr) (w_AES_256_GCM : Addr) (w_AES_CBC_PKCS5PADDING : Addr) (w_AES_128_CBC : Addr) (w_AES_GCM_NOPADDING : Addr) (kl_AES_128_GCM : Addr) (kl_AES_256_GCM : Addr) (kl_AES_CBC_PKCS5PADDING : Addr) (kl_AES_128_CBC : Addr) (kl_AES_GCM_NOPADDING : Addr) (k_kl_AES_128_GCM : ClassId) (k_kl_AES_256_GCM : ClassId) (k_kl_AES_CBC_PKCS5PADDING : ClassId) (k_kl_AES_128_CBC : ClassId) (k_kl_AES_GCM_NOPADDING : ClassId) (p1 : Int32) (h0 : Heap) (n0 : Nat) (v : Option Value) (h : Heap) (L : List Loc) : Prop := v = some (.int (1 : Int32)) ∧ Fr n0 L ∧ h = h0
set_option maxRecDepth 65536 in
set_option maxHeartbeats 40000000 in
theorem rm27 (l : Launch) (Z : State) (a0 : Array Value) (hw : ∀ d ∈ tables_1, d.before a0 Z = true) (ws : List Jvm.Cond) (w_AES_128_GCM w_AES_256_GCM w_AES_CBC_PKCS5PADDING w_AES_128_CBC w_AES_GCM_NOPADDING kl_AES_128_GCM kl_AES_256_GCM kl_AES_CBC_PKCS5PADDING kl_AES_128_CBC kl_AES_GCM_NOPADDING : Addr) (k_kl_AES_128_GCM : ClassId) (k_kl_AES_256_GCM : ClassId) (k_kl_AES_CBC_PKCS5PADDING : ClassId) (k_kl_AES_128_CBC : ClassId) (k_kl_AES_GCM_NOPADDING : ClassId) (hp : Perm Z w_AES_128_GCM w_AES_256_GCM w_AES_CBC_PKCS5PADDING w_AES_128_CBC w_AES_GCM_NOPADDING kl_AES_128_GCM kl_AES_256_GCM kl_AES_CBC_PKCS5PADDING kl_AES_128_CBC kl_AES_GCM_NOPADDING k_kl_AES_128_GCM k_kl_AES_256_GCM k_kl_AES_CBC_PKCS5PADDING k_kl_AES_128_CBC k_kl_AES_GCM_NOPADDING) (p1 : Int32) (h0 : Heap) (n0 : Nat) (O0 : Old Z n0 h0) (hc1 : p1 = (32 : Int32)) :
    MetFree l y1 (head1 (Jvm.Cond.code y1 prog_31_method_7_code 6 (some .boolean) :: ws) ({ frames := 0, cells := 0, slots := 0, locals := 0 } : Room)) (fun a U => a = #[(.ref w_AES_256_GCM), (.int p1)] ∧ Z.Warmed39 U.vm ∧ U.heap = h0) (fun _ _ _ _ _ => True) (fun _ U o U' => ∃ v L, o = .returned v ∧ Q27 Z w_AES_128_GCM w_AES_256_GCM w_AES_CBC_PKCS5PADDING w_AES_128_CBC w_AES_GCM_NOPADDING kl_AES_128_GCM kl_AES_256_GCM kl_AES_CBC_PKCS5PADDING kl_AES_128_CBC kl_AES_GCM_NOPADDING k_kl_AES_128_GCM k_kl_AES_256_GCM k_kl_AES_CBC_PKCS5PADDING k_kl_AES_128_CBC k_kl_AES_GCM_NOPADDING p1 h0 n0 v U'.heap L ∧ FrameEnd U o U' L ({ frames := 0, cells := 0, slots := 0, locals := 0 } : Room).cells ({ frames := 0, cells := 0, slots := 0, locals := 0 } : Room).slots) := by
  refine MetFree.of_bodySF (plainFor_of_name pn_2) hisR ?_
  intro p e s m args below meth c s₁ Bd hml0 hP hK
  obtain ⟨rfl, hZ, hh⟩ := hP
  have hx := Bd.exec
  have hby := Bd.bytes
  have hml : c.maxLocals = 6 := hml0
  have hown : s.vm.findClass "com/example/cloakfield/cloakfield/crypto/EncryptionAlgorithm" = some m.cls := findClass_of_methodNamed Bd.named
  have hnm := (name_of_methodNamed Bd.named Bd.method).1
  have X0 : Stand p l e ({ frames := 0, cells := 0, slots := 0, locals := 0 } : Room) s m #[(.ref w_AES_256_GCM), (.int p1)] below meth c s₁ [] 0 0 := Stand.of_body Bd
  have e0 : s₁.heap = h0 := by rw [← hh, Bd.state]; rfl
  have N0 := Fr.nil n0
  have hp' := hp
  obtain ⟨S_w_AES_128_GCM, E_w_AES_128_GCM, S_w_AES_256_GCM, E_w_AES_256_GCM, S_w_AES_CBC_PKCS5PADDING, E_w_AES_CBC_PKCS5PADDING, S_w_AES_128_CBC, E_w_AES_128_CBC, S_w_AES_GCM_NOPADDING, E_w_AES_GCM_NOPADDING, F_keyLengths_w_AES_128_GCM, V_kl_AES_128_GCM, F_keyLengths_w_AES_256_GCM, V_kl_AES_256_GCM, F_keyLengths_w_AES_CBC_PKCS5PADDING, V_kl_AES_CBC_PKCS5PADDING, F_keyLengths_w_AES_128_CBC, V_kl_AES_128_CBC, F_keyLengths_w_AES_GCM_NOPADDING, V_kl_AES_GCM_NOPADDING⟩ := hp'
  have pre0 : ∀ t, Steps p.tables e below (s₁.setTop (mkF m 0 #[.val (.ref w_AES_256_GCM), .val (.int p1), .unset, .unset, .unset, .unset] [])) t → Steps p.tables e below (s₁.setTop (entryFrame m #[(.ref w_AES_256_GCM), (.int p1)] 6)) t := fun t k => castTop (ef_2_0 m w_AES_256_GCM p1) k
  obtain ⟨T1, X1, e1, st1⟩ := getF X0 hx hZ hown (host := "") (Or.inl (hw _ (List.mem_of_getElem? (i := 13) rfl))) Via.refl e0 (F_keyLengths_w_AES_256_GCM.ext O0.2) (g := (mkF m 1 #[.val (.ref w_AES_256_GCM), .val (.int p1), .unset, .unset, .unset, .unset] [(.ref w_AES_256_GCM)])) rfl rfl (hb hby d2_1)
  obtain ⟨cl2, Ar2, -, S2, Nn2, -, -⟩ := (V_kl_AES_256_GCM.ext O0.2)
  obtain ⟨cl3, Ar3, -, S3, -, H3, -⟩ := (V_kl_AES_256_GCM.ext O0.2)
  have hin3 : ¬ ((0 : Int32) < 0 ∨ cl3.slots.size ≤ ((0 : Int32)).toNatClampNeg) := inb_of S3 ⟨by decide, by decide⟩
  have hat3 : cl3.slots[((0 : Int32)).toNatClampNeg]? = some (.int (32 : Int32)) := H3.at hin3 rfl
  obtain ⟨fs, hr, hrun, hended, hW, hsame⟩ := X1.leave (v := some (.int (1 : Int32))) (fun h => by rw [Bd.returns] at h; cases h)
  refine ⟨_, _, pre0 _ ?_, hrun, hended, _, _, rfl, ?_, ⟨_, rfl⟩, hW, hsame.mono (by decide) (by decide)⟩
  · show Sp p e below s₁ (mkF m 0 #[.val (.ref w_AES_256_GCM), .val (.int p1), .unset, .unset, .unset, .unset] []) _
    refine XS.aloadN X0.here hx rfl (hb hby d2_0) rfl rfl ?_
    show Sp p e below s₁ (mkF m 1 #[.val (.ref w_AES_256_GCM), .val (.int p1), .unset, .unset, .unset, .unset] [(.ref w_AES_256_GCM)]) _
    refine st1 _ ?_
    show Sp p e below T1 (mkF m 4 #[.val (.ref w_AES_256_GCM), .val (.int p1), .unset, .unset, .unset, .unset] [(.ref kl_AES_256_GCM)]) _
    refine XS.astoreN X1.here hx rfl (hb hby d2_4) rfl rfl (l' := #[.val (.ref w_AES_256_GCM), .val (.int p1), .val (.ref kl_AES_256_GCM), .unset, .unset, .unset]) rfl ?_
    show Sp p e below T1 (mkF m 5 #[.val (.ref w_AES_256_GCM), .val (.int p1), .val (.ref kl_AES_256_GCM), .unset, .unset, .unset] []) _
    refine XS.aloadN X1.here hx rfl (hb hby d2_5) rfl rfl ?_
    show Sp p e below T1 (mkF m 6 #[.val (.ref w_AES_256_GCM), .val (.int p1), .val (.ref kl_AES_256_GCM), .unset, .unset, .unset] [(.ref kl_AES_256_GCM)]) _
    refine X1.arraylength hx (by rw [e1]; exact Ar2.1) (State.isArrayOf_alike hZ.alike Ar2.2.1) (g := (mkF m 6 #[.val (.ref w_AES_256_GCM), .val (.int p1), .val (.ref kl_AES_256_GCM), .unset, .unset, .unset] [(.ref kl_AES_256_GCM)])) rfl rfl (hb hby d2_6) _ ?_
    rw [len_of S2 Nn2]
    show Sp p e below T1 (mkF m 7 #[.val (.ref w_AES_256_GCM), .val (.int p1), .val (.ref kl_AES_256_GCM), .unset, .unset, .unset] [(.int (1 : Int32))]) _
    refine XS.istoreN X1.here hx rfl (hb hby d2_7) rfl (l' := #[.val (.ref w_AES_256_GCM), .val (.int p1), .val (.ref kl_AES_256_GCM), .val (.int (1 : Int32)), .unset, .unset]) rfl ?_
    show Sp p e below T1 (mkF m 8 #[.val (.ref w_AES_256_GCM), .val (.int p1), .val (.ref kl_AES_256_GCM), .val (.int (1 : Int32)), .unset, .unset] []) _
    refine XS.iconst X1.here hx rfl (hb hby d2_8) ?_
    show Sp p e below T1 (mkF m 9 #[.val (.ref w_AES_256_GCM), .val (.int p1), .val (.ref kl_AES_256_GCM), .val (.int (1 : Int32)), .unset, .unset] [(.int (0 : Int32))]) _
    refine XS.istore X1.here hx rfl (hb hby d2_9) rfl (l' := #[.val (.ref w_AES_256_GCM), .val (.int p1), .val (.ref kl_AES_256_GCM), .val (.int (1 : Int32)), .val (.int (0 : Int32)), .unset]) rfl ?_
    show Sp p e below T1 (mkF m 11 #[.val (.ref w_AES_256_GCM), .val (.int p1), .val (.ref kl_AES_256_GCM), .val (.int (1 : Int32)), .val (.int (0 : Int32)), .unset] []) _
    refine XS.iload X1.here hx rfl (hb hby d2_11) rfl ?_
    show Sp p e below T1 (mkF m 13 #[.val (.ref w_AES_256_GCM), .val (.int p1), .val (.ref kl_AES_256_GCM), .val (.int (1 : Int32)), .val (.int (0 : Int32)), .unset] [(.int (0 : Int32))]) _
    refine XS.iloadN X1.here hx rfl (hb hby d2_13) rfl ?_
    show Sp p e below T1 (mkF m 14 #[.val (.ref w_AES_256_GCM), .val (.int p1), .val (.ref kl_AES_256_GCM), .val (.int (1 : Int32)), .val (.int (0 : Int32)), .unset] [(.int (1 : Int32)), (.int (0 : Int32))]) _
    refine XS.icmpNo X1.here hx rfl (hb hby d2_14) rfl (tlt (by decide : (0 : Int32) < (1 : Int32))).2.1 ?_
    show Sp p e below T1 (mkF m 17 #[.val (.ref w_AES_256_GCM), .val (.int p1), .val (.ref kl_AES_256_GCM), .val (.int (1 : Int32)), .val (.int (0 : Int32)), .unset] []) _
    refine XS.aloadN X1.here hx rfl (hb hby d2_17) rfl rfl ?_
    show Sp p e below T1 (mkF m 18 #[.val (.ref w_AES_256_GCM), .val (.int p1), .val (.ref kl_AES_256_GCM), .val (.int (1 : Int32)), .val (.int (0 : Int32)), .unset] [(.ref kl_AES_256_GCM)]) _
    refine XS.iload X1.here hx rfl (hb hby d2_18) rfl ?_
    show Sp p e below T1 (mkF m 20 #[.val (.ref w_AES_256_GCM), .val (.int p1), .val (.ref kl_AES_256_GCM), .val (.int (1 : Int32)), .val (.int (0 : Int32)), .unset] [(.int (0 : Int32)), (.ref kl_AES_256_GCM)]) _
    refine X1.iaload hx (j := (0 : Int32)) (v := (.int (32 : Int32))) (by rw [e1]; exact Ar3.1) (State.isArrayOf_alike hZ.alike Ar3.2.1) Ar3.2.2 hin3 hat3 (g := (mkF m 20 #[.val (.ref w_AES_256_GCM), .val (.int p1), .val (.ref kl_AES_256_GCM), .val (.int (1 : Int32)), .val (.int (0 : Int32)), .unset] [(.int (0 : Int32)), (.ref kl_AES_256_GCM)])) rfl rfl (hb hby d2_20) _ ?_
    show Sp p e below T1 (mkF m 21 #[.val (.ref w_AES_256_GCM), .val (.int p1), .val (.ref kl_AES_256_GCM), .val (.int (1 : Int32)), .val (.int (0 : Int32)), .unset] [(.int (32 : Int32))]) _
    refine XS.istore X1.here hx rfl (hb hby d2_21) rfl (l' := #[.val (.ref w_AES_256_GCM), .val (.int p1), .val (.ref kl_AES_256_GCM), .val (.int (1 : Int32)), .val (.int (0 : Int32)), .val (.int (32 : Int32))]) rfl ?_
    show Sp p e below T1 (mkF m 23 #[.val (.ref w_AES_256_GCM), .val (.int p1), .val (.ref kl_AES_256_GCM), .val (.int (1 : Int32)), .val (.int (0 : Int32)), .val (.int (32 : Int32))] []) _
    refine XS.iload X1.here hx rfl (hb hby d2_23) rfl ?_
    show Sp p e below T1 (mkF m 25 #[.val (.ref w_AES_256_GCM), .val (.int p1), .val (.ref kl_AES_256_GCM), .val (.int (1 : Int32)), .val (.int (0 : Int32)), .val (.int (32 : Int32))] [(.int (32 : Int32))]) _
    refine XS.iloadN X1.here hx rfl (hb hby d2_25) rfl ?_
    show Sp p e below T1 (mkF m 26 #[.val (.ref w_AES_256_GCM), .val (.int p1), .val (.ref kl_AES_256_GCM), .val (.int (1 : Int32)), .val (.int (0 : Int32)), .val (.int (32 : Int32))] [(.int p1), (.int (32 : Int32))]) _
    refine XS.icmpNo X1.here hx rfl (hb hby d2_26) rfl (teq (Eq.symm hc1)).2 ?_
    show Sp p e below T1 (mkF m 29 #[.val (.ref w_AES_256_GCM), .val (.int p1), .val (.ref kl_AES_256_GCM), .val (.int (1 : Int32)), .val (.int (0 : Int32)), .val (.int (32 : Int32))] []) _
    refine XS.iconst X1.here hx rfl (hb hby d2_29) ?_
    show Sp p e below T1 (mkF m 30 #[.val (.ref w_AES_256_GCM), .val (.int p1), .val (.ref kl_AES_256_GCM), .val (.int (1 : Int32)), .val (.int (0 : Int32)), .val (.int (32 : Int32))] [(.int (1 : Int32))]) _
    exact retN X1 hx (t := .boolean) Bd.returns (by simp) (hb hby d2_30) hr
  · show Q27 Z w_AES_128_GCM w_AES_256_GCM w_AES_CBC_PKCS5PADDING w_AES_128_CBC w_AES_GCM_NOPADDING kl_AES_128_GCM kl_AES_256_GCM kl_AES_CBC_PKCS5PADDING kl_AES_128_CBC kl_AES_GCM_NOPADDING k_kl_AES_128_GCM k_kl_AES_256_GCM k_kl_AES_CBC_PKCS5PADDING k_kl_AES_128_CBC k_kl_AES_GCM_NOPADDING p1 h0 n0 _ T1.heap _
    rw [e1]
    exact ⟨rfl, N0, rfl⟩
set_option maxRecDepth 65536 in
set_option maxHeartbeats 40000000 in
theorem rm28 (l : Launch) (Z : State) (a0 : Array Value) (hw : ∀ d ∈ tables_1, d.before a0 Z = true) (ws : List Jvm.Cond) (w_AES_128_GCM w_AES_256_GCM w_AES_CBC_PKCS5PADDING w_AES_128_CBC w_AES_GCM_NOPADDING kl_AES_128_GCM kl_AES_256_GCM kl_AES_CBC_PKCS5PADDING kl_AES_128_CBC kl_AES_GCM_NOPADDING : Addr) (k_kl_AES_128_GCM : ClassId) (k_kl_AES_256_GCM : ClassId) (k_kl_AES_CBC_PKCS5PADDING : ClassId) (k_kl_AES_128_CBC : ClassId) (k_kl_AES_GCM_NOPADDING : ClassId) (hp : Perm Z w_AES_128_GCM w_AES_256_GCM w_AES_CBC_PKCS5PADDING w_AES_128_CBC w_AES_GCM_NOPADDING kl_AES_128_GCM kl_AES_256_GCM kl_AES_CBC_PKCS5PADDING kl_AES_128_CBC kl_AES_GCM_NOPADDING k_kl_AES_128_GCM k_kl_AES_256_GCM k_kl_AES_CBC_PKCS5PADDING k_kl_AES_128_CBC k_kl_AES_GCM_NOPADDING) (p0 : Int32) (p1 : Int32) (p2 : Int32) (z5 : Int32) (h0 : Heap) (n0 : Nat) (O0 : Old Z n0 h0) (hcut : Cut_0_12 p0 p1 p2 ((p0 &&& (2147483647 : Int32)) % (5 : Int32)) (p1 &&& (3 : Int32)) z5) (hc2 : ¬ (((p0 &&& (2147483647 : Int32)) % (5 : Int32)) = (0 : Int32))) (hc3 : ((p0 &&& (2147483647 : Int32)) % (5 : Int32)) = (1 : Int32)) (hc4 : ¬ (z5 = (16 : Int32))) (hc5 : z5 = (32 : Int32)) :
    MetFree l x (head1 (Jvm.Cond.code x code maxLocals ret :: ws) room_1) (fun a U => a = #[(.int p0), (.int p1), (.int p2)] ∧ Z.Warmed39 U.vm ∧ U.heap = h0) (fun _ _ _ _ _ => True) (fun _ U o U' => ∃ v L, o = .returned v ∧ (v = some (.int (1 : Int32)) ∧ Fr n0 L) ∧ FrameEnd U o U' L 0 0) := by
  refine MetFree.of_bodySF (plainFor_of_name pn_1) hisR ?_
  intro p e s m args below meth c s₁ Bd hml0 hP hK
  obtain ⟨rfl, hZ, hh⟩ := hP
  have hx := Bd.exec
  have hby := Bd.bytes
  have hml : c.maxLocals = 10 := hml0
  have hown : s.vm.findClass "com/example/cloakfield/cloakfield/crypto/EncryptionAlgorithmAcceptsKeyLengthPinLaw" = some m.cls := findClass_of_methodNamed Bd.named
  have hnm := (name_of_methodNamed Bd.named Bd.method).1
  have X0 : Stand p l e room_1 s m #[(.int p0), (.int p1), (.int p2)] below meth c s₁ [] 0 0 := Stand.of_body Bd
  have e0 : s₁.heap = h0 := by rw [← hh, Bd.state]; rfl
  have N0 := Fr.nil n0
  have hp' := hp
  obtain ⟨S_w_AES_128_GCM, E_w_AES_128_GCM, S_w_AES_256_GCM, E_w_AES_256_GCM, S_w_AES_CBC_PKCS5PADDING, E_w_AES_CBC_PKCS5PADDING, S_w_AES_128_CBC, E_w_AES_128_CBC, S_w_AES_GCM_NOPADDING, E_w_AES_GCM_NOPADDING, F_keyLengths_w_AES_128_GCM, V_kl_AES_128_GCM, F_keyLengths_w_AES_256_GCM, V_kl_AES_256_GCM, F_keyLengths_w_AES_CBC_PKCS5PADDING, V_kl_AES_CBC_PKCS5PADDING, F_keyLengths_w_AES_128_CBC, V_kl_AES_128_CBC, F_keyLengths_w_AES_GCM_NOPADDING, V_kl_AES_GCM_NOPADDING⟩ := hp'
  have pre0 : ∀ t, Steps p.tables e below (s₁.setTop (mkF m 0 #[.val (.int p0), .val (.int p1), .val (.int p2), .unset, .unset, .unset, .unset, .unset, .unset, .unset] [])) t → Steps p.tables e below (s₁.setTop (entryFrame m #[(.int p0), (.int p1), (.int p2)] maxLocals)) t := fun t k => castTop (ef_0_0 m p0 p1 p2) k
  have st1 := hcut X0 hx hZ hw hby hown
  obtain ⟨_, _, ⟨T2, L2, k2, n2⟩, -, X2, ⟨Lc2, hQ2, l2, y2, z2⟩, st2⟩ := Jvm.LawKit.callS X0 hx (y := y0) hown (mvT hZ (hw _ (List.mem_of_getElem? (i := 1) rfl))) (mvT hZ (hw _ (List.mem_of_getElem? (i := 2) rfl))) (mvT hZ (hw _ (List.mem_of_getElem? (i := 3) rfl))) (mvT hZ (hw _ (List.mem_of_getElem? (i := 4) rfl))) (by decide) (backOf (W := 0) (rm4 l Z a0 hw [] w_AES_128_GCM w_AES_256_GCM w_AES_CBC_PKCS5PADDING w_AES_128_CBC w_AES_GCM_NOPADDING kl_AES_128_GCM kl_AES_256_GCM kl_AES_CBC_PKCS5PADDING kl_AES_128_CBC kl_AES_GCM_NOPADDING k_kl_AES_128_GCM k_kl_AES_256_GCM k_kl_AES_CBC_PKCS5PADDING k_kl_AES_128_CBC k_kl_AES_GCM_NOPADDING hp ((p0 &&& (2147483647 : Int32)) % (5 : Int32)) h0 n0 O0 hc2 hc3) hZ (hw _ (List.mem_of_getElem? (i := 4) rfl)) (hw _ (List.mem_of_getElem? (i := 3) rfl)) (by decide) (by decide)) (g := (mkF m 59 #[.val (.int p0), .val (.int p1), .val (.int p2), .val (.int ((p0 &&& (2147483647 : Int32)) % (5 : Int32))), .val (.int (p1 &&& (3 : Int32))), .val (.int z5), .unset, .unset, .unset, .unset] [(.int ((p0 &&& (2147483647 : Int32)) % (5 : Int32)))])) rfl (by rw [hml]; rfl) (argsL := [(.int ((p0 &&& (2147483647 : Int32)) % (5 : Int32)))]) (rest := []) (lenOf pd_0 rfl) rfl (by show 2 * 0 + _ ≤ _; exact Nat.le_of_eq rfl) (hb hby at_59) (fun _ _ => ⟨rfl, e0, (by decide : 0 + 0 ≤ _), (by decide : 0 + 0 ≤ _)⟩)
  dsimp only [Pt.U, Pt.locs, Pt.cells, Pt.slots] at X2 l2 y2 z2 st2 hQ2
  subst l2 y2 z2
  obtain ⟨rfl, Nq2, eq2⟩ := hQ2
  have N2 := Fr.app N0 Nq2
  obtain ⟨cq3, kq3, q3a, q3b, q3c⟩ := isOf hZ eq2 (E_w_AES_256_GCM.ext O0.2)
  obtain ⟨_, _, ⟨T3, L3, k3, n3⟩, -, X3, ⟨Lc3, hQ3, l3, y3, z3⟩, st3⟩ := X2.virtualBack hx (y := y1) (z := y1) hown (mvT hZ (hw _ (List.mem_of_getElem? (i := 8) rfl))) (mvT hZ (hw _ (List.mem_of_getElem? (i := 9) rfl))) (notFace_of_selects (args := #[]) (mvT hZ (hw _ (List.mem_of_getElem? (i := 11) rfl)))) (mvT hZ (hw _ (List.mem_of_getElem? (i := 11) rfl))) (mvT hZ (hw _ (List.mem_of_getElem? (i := 10) rfl))) (by decide) (backOf (W := 0) (rm27 l Z a0 hw [] w_AES_128_GCM w_AES_256_GCM w_AES_CBC_PKCS5PADDING w_AES_128_CBC w_AES_GCM_NOPADDING kl_AES_128_GCM kl_AES_256_GCM kl_AES_CBC_PKCS5PADDING kl_AES_128_CBC kl_AES_GCM_NOPADDING k_kl_AES_128_GCM k_kl_AES_256_GCM k_kl_AES_CBC_PKCS5PADDING k_kl_AES_128_CBC k_kl_AES_GCM_NOPADDING hp z5 h0 n0 O0 hc5) hZ (hw _ (List.mem_of_getElem? (i := 12) rfl)) (hw _ (List.mem_of_getElem? (i := 6) rfl)) (by decide) (by decide)) q3a q3c (g := (mkF m 147 #[.val (.int p0), .val (.int p1), .val (.int p2), .val (.int ((p0 &&& (2147483647 : Int32)) % (5 : Int32))), .val (.int (p1 &&& (3 : Int32))), .val (.int z5), .val (.ref w_AES_256_GCM), .val (.int (0 : Int32)), .val (.int (1 : Int32)), .val (.int (1 : Int32))] [(.int z5), (.ref w_AES_256_GCM)])) rfl (by rw [hml]; rfl) (Steps.refl _) (argsL := [(.int z5)]) (rest := []) (lenOf pd_1 rfl) rfl (by show 2 * 0 + _ ≤ _; exact Nat.le_of_eq rfl) (hb hby at_147) (fun _ _ => ⟨rfl, eq2, (by decide : 0 + 0 ≤ _), (by decide : 0 + 0 ≤ _)⟩)
  dsimp only [Pt.U, Pt.locs, Pt.cells, Pt.slots] at X3 l3 y3 z3 st3 hQ3
  subst l3 y3 z3
  obtain ⟨rfl, Nq3, eq3⟩ := hQ3
  have N3 := Fr.app N2 Nq3
  obtain ⟨fs, hr, hrun, hended, hW, hsame⟩ := X3.leave (v := some (.int (1 : Int32))) (fun h => by rw [Bd.returns] at h; cases h)
  refine ⟨_, _, pre0 _ ?_, hrun, hended, _, _, rfl, ?_, ⟨_, rfl⟩, hW, hsame.mono (by decide) (by decide)⟩
  · show Sp p e below s₁ (mkF m 0 #[.val (.int p0), .val (.int p1), .val (.int p2), .unset, .unset, .unset, .unset, .unset, .unset, .unset] []) _
    refine XS.iloadN X0.here hx rfl (hb hby at_0) rfl ?_
    show Sp p e below s₁ (mkF m 1 #[.val (.int p0), .val (.int p1), .val (.int p2), .unset, .unset, .unset, .unset, .unset, .unset, .unset] [(.int p0)]) _
    refine X0.ldcI hx hown (mvT hZ (hw _ (List.mem_of_getElem? (i := 0) rfl))) rfl (hb hby at_1) ?_
    show Sp p e below s₁ (mkF m 3 #[.val (.int p0), .val (.int p1), .val (.int p2), .unset, .unset, .unset, .unset, .unset, .unset, .unset] [(.int (2147483647 : Int32)), (.int p0)]) _
    refine XS.iand X0.here hx rfl (hb hby at_3) rfl ?_
    show Sp p e below s₁ (mkF m 4 #[.val (.int p0), .val (.int p1), .val (.int p2), .unset, .unset, .unset, .unset, .unset, .unset, .unset] [(.int (p0 &&& (2147483647 : Int32)))]) _
    refine XS.iconst X0.here hx rfl (hb hby at_4) ?_
    show Sp p e below s₁ (mkF m 5 #[.val (.int p0), .val (.int p1), .val (.int p2), .unset, .unset, .unset, .unset, .unset, .unset, .unset] [(.int (5 : Int32)), (.int (p0 &&& (2147483647 : Int32)))]) _
    refine iremM X0 hx rfl (hb hby at_5) rfl (by decide) ?_
    show Sp p e below s₁ (mkF m 6 #[.val (.int p0), .val (.int p1), .val (.int p2), .unset, .unset, .unset, .unset, .unset, .unset, .unset] [(.int ((p0 &&& (2147483647 : Int32)) % (5 : Int32)))]) _
    refine XS.istoreN X0.here hx rfl (hb hby at_6) rfl (l' := #[.val (.int p0), .val (.int p1), .val (.int p2), .val (.int ((p0 &&& (2147483647 : Int32)) % (5 : Int32))), .unset, .unset, .unset, .unset, .unset, .unset]) rfl ?_
    show Sp p e below s₁ (mkF m 7 #[.val (.int p0), .val (.int p1), .val (.int p2), .val (.int ((p0 &&& (2147483647 : Int32)) % (5 : Int32))), .unset, .unset, .unset, .unset, .unset, .unset] []) _
    refine XS.iloadN X0.here hx rfl (hb hby at_7) rfl ?_
    show Sp p e below s₁ (mkF m 8 #[.val (.int p0), .val (.int p1), .val (.int p2), .val (.int ((p0 &&& (2147483647 : Int32)) % (5 : Int32))), .unset, .unset, .unset, .unset, .unset, .unset] [(.int p1)]) _
    refine XS.iconst X0.here hx rfl (hb hby at_8) ?_
    show Sp p e below s₁ (mkF m 9 #[.val (.int p0), .val (.int p1), .val (.int p2), .val (.int ((p0 &&& (2147483647 : Int32)) % (5 : Int32))), .unset, .unset, .unset, .unset, .unset, .unset] [(.int (3 : Int32)), (.int p1)]) _
    refine XS.iand X0.here hx rfl (hb hby at_9) rfl ?_
    show Sp p e below s₁ (mkF m 10 #[.val (.int p0), .val (.int p1), .val (.int p2), .val (.int ((p0 &&& (2147483647 : Int32)) % (5 : Int32))), .unset, .unset, .unset, .unset, .unset, .unset] [(.int (p1 &&& (3 : Int32)))]) _
    refine XS.istore X0.here hx rfl (hb hby at_10) rfl (l' := #[.val (.int p0), .val (.int p1), .val (.int p2), .val (.int ((p0 &&& (2147483647 : Int32)) % (5 : Int32))), .val (.int (p1 &&& (3 : Int32))), .unset, .unset, .unset, .unset, .unset]) rfl ?_
    show Sp p e below s₁ (mkF m 12 #[.val (.int p0), .val (.int p1), .val (.int p2), .val (.int ((p0 &&& (2147483647 : Int32)) % (5 : Int32))), .val (.int (p1 &&& (3 : Int32))), .unset, .unset, .unset, .unset, .unset] []) _
    refine st1 _ ?_
    show Sp p e below s₁ (mkF m 58 #[.val (.int p0), .val (.int p1), .val (.int p2), .val (.int ((p0 &&& (2147483647 : Int32)) % (5 : Int32))), .val (.int (p1 &&& (3 : Int32))), .val (.int z5), .unset, .unset, .unset, .unset] []) _
    refine XS.iloadN X0.here hx rfl (hb hby at_58) rfl ?_
    show Sp p e below s₁ (mkF m 59 #[.val (.int p0), .val (.int p1), .val (.int p2), .val (.int ((p0 &&& (2147483647 : Int32)) % (5 : Int32))), .val (.int (p1 &&& (3 : Int32))), .val (.int z5), .unset, .unset, .unset, .unset] [(.int ((p0 &&& (2147483647 : Int32)) % (5 : Int32)))]) _
    refine st2 _ ?_
    show Sp p e below T2 (mkF m 62 #[.val (.int p0), .val (.int p1), .val (.int p2), .val (.int ((p0 &&& (2147483647 : Int32)) % (5 : Int32))), .val (.int (p1 &&& (3 : Int32))), .val (.int z5), .unset, .unset, .unset, .unset] [(.ref w_AES_256_GCM)]) _
    refine XS.astore X2.here hx rfl (hb hby at_62) rfl rfl (l' := #[.val (.int p0), .val (.int p1), .val (.int p2), .val (.int ((p0 &&& (2147483647 : Int32)) % (5 : Int32))), .val (.int (p1 &&& (3 : Int32))), .val (.int z5), .val (.ref w_AES_256_GCM), .unset, .unset, .unset]) rfl ?_
    show Sp p e below T2 (mkF m 64 #[.val (.int p0), .val (.int p1), .val (.int p2), .val (.int ((p0 &&& (2147483647 : Int32)) % (5 : Int32))), .val (.int (p1 &&& (3 : Int32))), .val (.int z5), .val (.ref w_AES_256_GCM), .unset, .unset, .unset] []) _
    refine XS.iloadN X2.here hx rfl (hb hby at_64) rfl ?_
    show Sp p e below T2 (mkF m 65 #[.val (.int p0), .val (.int p1), .val (.int p2), .val (.int ((p0 &&& (2147483647 : Int32)) % (5 : Int32))), .val (.int (p1 &&& (3 : Int32))), .val (.int z5), .val (.ref w_AES_256_GCM), .unset, .unset, .unset] [(.int ((p0 &&& (2147483647 : Int32)) % (5 : Int32)))]) _
    refine XS.ifNo X2.here hx rfl (hb hby at_65) rfl ((if0 _ _).trans (feq hc2).1) ?_
    show Sp p e below T2 (mkF m 68 #[.val (.int p0), .val (.int p1), .val (.int p2), .val (.int ((p0 &&& (2147483647 : Int32)) % (5 : Int32))), .val (.int (p1 &&& (3 : Int32))), .val (.int z5), .val (.ref w_AES_256_GCM), .unset, .unset, .unset] []) _
    refine XS.iloadN X2.here hx rfl (hb hby at_68) rfl ?_
    show Sp p e below T2 (mkF m 69 #[.val (.int p0), .val (.int p1), .val (.int p2), .val (.int ((p0 &&& (2147483647 : Int32)) % (5 : Int32))), .val (.int (p1 &&& (3 : Int32))), .val (.int z5), .val (.ref w_AES_256_GCM), .unset, .unset, .unset] [(.int ((p0 &&& (2147483647 : Int32)) % (5 : Int32)))]) _
    refine XS.iconst X2.here hx rfl (hb hby at_69) ?_
    show Sp p e below T2 (mkF m 70 #[.val (.int p0), .val (.int p1), .val (.int p2), .val (.int ((p0 &&& (2147483647 : Int32)) % (5 : Int32))), .val (.int (p1 &&& (3 : Int32))), .val (.int z5), .val (.ref w_AES_256_GCM), .unset, .unset, .unset] [(.int (2 : Int32)), (.int ((p0 &&& (2147483647 : Int32)) % (5 : Int32)))]) _
    refine XS.icmpNo X2.here hx rfl (hb hby at_70) rfl (feq (by rw [hc3]; decide : ¬ (((p0 &&& (2147483647 : Int32)) % (5 : Int32)) = (2 : Int32)))).1 ?_
    show Sp p e below T2 (mkF m 73 #[.val (.int p0), .val (.int p1), .val (.int p2), .val (.int ((p0 &&& (2147483647 : Int32)) % (5 : Int32))), .val (.int (p1 &&& (3 : Int32))), .val (.int z5), .val (.ref w_AES_256_GCM), .unset, .unset, .unset] []) _
    refine XS.iloadN X2.here hx rfl (hb hby at_73) rfl ?_
    show Sp p e below T2 (mkF m 74 #[.val (.int p0), .val (.int p1), .val (.int p2), .val (.int ((p0 &&& (2147483647 : Int32)) % (5 : Int32))), .val (.int (p1 &&& (3 : Int32))), .val (.int z5), .val (.ref w_AES_256_GCM), .unset, .unset, .unset] [(.int ((p0 &&& (2147483647 : Int32)) % (5 : Int32)))]) _
    refine XS.iconst X2.here hx rfl (hb hby at_74) ?_
    show Sp p e below T2 (mkF m 75 #[.val (.int p0), .val (.int p1), .val (.int p2), .val (.int ((p0 &&& (2147483647 : Int32)) % (5 : Int32))), .val (.int (p1 &&& (3 : Int32))), .val (.int z5), .val (.ref w_AES_256_GCM), .unset, .unset, .unset] [(.int (3 : Int32)), (.int ((p0 &&& (2147483647 : Int32)) % (5 : Int32)))]) _
    refine XS.icmpNo X2.here hx rfl (hb hby at_75) rfl (feq (by rw [hc3]; decide : ¬ (((p0 &&& (2147483647 : Int32)) % (5 : Int32)) = (3 : Int32)))).1 ?_
    show Sp p e below T2 (mkF m 78 #[.val (.int p0), .val (.int p1), .val (.int p2), .val (.int ((p0 &&& (2147483647 : Int32)) % (5 : Int32))), .val (.int (p1 &&& (3 : Int32))), .val (.int z5), .val (.ref w_AES_256_GCM), .unset, .unset, .unset] []) _
    refine XS.iloadN X2.here hx rfl (hb hby at_78) rfl ?_
    show Sp p e below T2 (mkF m 79 #[.val (.int p0), .val (.int p1), .val (.int p2), .val (.int ((p0 &&& (2147483647 : Int32)) % (5 : Int32))), .val (.int (p1 &&& (3 : Int32))), .val (.int z5), .val (.ref w_AES_256_GCM), .unset, .unset, .unset] [(.int ((p0 &&& (2147483647 : Int32)) % (5 : Int32)))]) _
    refine XS.iconst X2.here hx rfl (hb hby at_79) ?_
    show Sp p e below T2 (mkF m 80 #[.val (.int p0), .val (.int p1), .val (.int p2), .val (.int ((p0 &&& (2147483647 : Int32)) % (5 : Int32))), .val (.int (p1 &&& (3 : Int32))), .val (.int z5), .val (.ref w_AES_256_GCM), .unset, .unset, .unset] [(.int (4 : Int32)), (.int ((p0 &&& (2147483647 : Int32)) % (5 : Int32)))]) _
    refine XS.icmpYes X2.here hx rfl (pc0 := 80) (pc' := 87) rfl (hb hby at_80) rfl (feq (by rw [hc3]; decide : ¬ (((p0 &&& (2147483647 : Int32)) % (5 : Int32)) = (4 : Int32)))).2 (by decide) (by decide) ?_
    show Sp p e below T2 (mkF m 87 #[.val (.int p0), .val (.int p1), .val (.int p2), .val (.int ((p0 &&& (2147483647 : Int32)) % (5 : Int32))), .val (.int (p1 &&& (3 : Int32))), .val (.int z5), .val (.ref w_AES_256_GCM), .unset, .unset, .unset] []) _
    refine XS.iconst X2.here hx rfl (hb hby at_87) ?_
    show Sp p e below T2 (mkF m 88 #[.val (.int p0), .val (.int p1), .val (.int p2), .val (.int ((p0 &&& (2147483647 : Int32)) % (5 : Int32))), .val (.int (p1 &&& (3 : Int32))), .val (.int z5), .val (.ref w_AES_256_GCM), .unset, .unset, .unset] [(.int (0 : Int32))]) _
    refine XS.istore X2.here hx rfl (hb hby at_88) rfl (l' := #[.val (.int p0), .val (.int p1), .val (.int p2), .val (.int ((p0 &&& (2147483647 : Int32)) % (5 : Int32))), .val (.int (p1 &&& (3 : Int32))), .val (.int z5), .val (.ref w_AES_256_GCM), .val (.int (0 : Int32)), .unset, .unset]) rfl ?_
    show Sp p e below T2 (mkF m 90 #[.val (.int p0), .val (.int p1), .val (.int p2), .val (.int ((p0 &&& (2147483647 : Int32)) % (5 : Int32))), .val (.int (p1 &&& (3 : Int32))), .val (.int z5), .val (.ref w_AES_256_GCM), .val (.int (0 : Int32)), .unset, .unset] []) _
    refine XS.iloadN X2.here hx rfl (hb hby at_90) rfl ?_
    show Sp p e below T2 (mkF m 91 #[.val (.int p0), .val (.int p1), .val (.int p2), .val (.int ((p0 &&& (2147483647 : Int32)) % (5 : Int32))), .val (.int (p1 &&& (3 : Int32))), .val (.int z5), .val (.ref w_AES_256_GCM), .val (.int (0 : Int32)), .unset, .unset] [(.int ((p0 &&& (2147483647 : Int32)) % (5 : Int32)))]) _
    refine XS.iconst X2.here hx rfl (hb hby at_91) ?_
    show Sp p e below T2 (mkF m 92 #[.val (.int p0), .val (.int p1), .val (.int p2), .val (.int ((p0 &&& (2147483647 : Int32)) % (5 : Int32))), .val (.int (p1 &&& (3 : Int32))), .val (.int z5), .val (.ref w_AES_256_GCM), .val (.int (0 : Int32)), .unset, .unset] [(.int (1 : Int32)), (.int ((p0 &&& (2147483647 : Int32)) % (5 : Int32)))]) _
    refine XS.icmpYes X2.here hx rfl (pc0 := 92) (pc' := 105) rfl (hb hby at_92) rfl (teq hc3).1 (by decide) (by decide) ?_
    show Sp p e below T2 (mkF m 105 #[.val (.int p0), .val (.int p1), .val (.int p2), .val (.int ((p0 &&& (2147483647 : Int32)) % (5 : Int32))), .val (.int (p1 &&& (3 : Int32))), .val (.int z5), .val (.ref w_AES_256_GCM), .val (.int (0 : Int32)), .unset, .unset] []) _
    refine XS.iconst X2.here hx rfl (hb hby at_105) ?_
    show Sp p e below T2 (mkF m 106 #[.val (.int p0), .val (.int p1), .val (.int p2), .val (.int ((p0 &&& (2147483647 : Int32)) % (5 : Int32))), .val (.int (p1 &&& (3 : Int32))), .val (.int z5), .val (.ref w_AES_256_GCM), .val (.int (0 : Int32)), .unset, .unset] [(.int (1 : Int32))]) _
    refine XS.goto X2.here hx rfl (pc0 := 106) (pc' := 110) rfl (hb hby at_106) (by decide) (by decide) ?_
    show Sp p e below T2 (mkF m 110 #[.val (.int p0), .val (.int p1), .val (.int p2), .val (.int ((p0 &&& (2147483647 : Int32)) % (5 : Int32))), .val (.int (p1 &&& (3 : Int32))), .val (.int z5), .val (.ref w_AES_256_GCM), .val (.int (0 : Int32)), .unset, .unset] [(.int (1 : Int32))]) _
    refine XS.istore X2.here hx rfl (hb hby at_110) rfl (l' := #[.val (.int p0), .val (.int p1), .val (.int p2), .val (.int ((p0 &&& (2147483647 : Int32)) % (5 : Int32))), .val (.int (p1 &&& (3 : Int32))), .val (.int z5), .val (.ref w_AES_256_GCM), .val (.int (0 : Int32)), .val (.int (1 : Int32)), .unset]) rfl ?_
    show Sp p e below T2 (mkF m 112 #[.val (.int p0), .val (.int p1), .val (.int p2), .val (.int ((p0 &&& (2147483647 : Int32)) % (5 : Int32))), .val (.int (p1 &&& (3 : Int32))), .val (.int z5), .val (.ref w_AES_256_GCM), .val (.int (0 : Int32)), .val (.int (1 : Int32)), .unset] []) _
    refine XS.iload X2.here hx rfl (hb hby at_112) rfl ?_
    show Sp p e below T2 (mkF m 114 #[.val (.int p0), .val (.int p1), .val (.int p2), .val (.int ((p0 &&& (2147483647 : Int32)) % (5 : Int32))), .val (.int (p1 &&& (3 : Int32))), .val (.int z5), .val (.ref w_AES_256_GCM), .val (.int (0 : Int32)), .val (.int (1 : Int32)), .unset] [(.int z5)]) _
    refine XS.bipush X2.here hx rfl (hb hby at_114) ?_
    show Sp p e below T2 (mkF m 116 #[.val (.int p0), .val (.int p1), .val (.int p2), .val (.int ((p0 &&& (2147483647 : Int32)) % (5 : Int32))), .val (.int (p1 &&& (3 : Int32))), .val (.int z5), .val (.ref w_AES_256_GCM), .val (.int (0 : Int32)), .val (.int (1 : Int32)), .unset] [(.int (16 : Int32)), (.int z5)]) _
    refine XS.icmpYes X2.here hx rfl (pc0 := 116) (pc' := 124) rfl (hb hby at_116) rfl (feq hc4).2 (by decide) (by decide) ?_
    show Sp p e below T2 (mkF m 124 #[.val (.int p0), .val (.int p1), .val (.int p2), .val (.int ((p0 &&& (2147483647 : Int32)) % (5 : Int32))), .val (.int (p1 &&& (3 : Int32))), .val (.int z5), .val (.ref w_AES_256_GCM), .val (.int (0 : Int32)), .val (.int (1 : Int32)), .unset] []) _
    refine XS.iload X2.here hx rfl (hb hby at_124) rfl ?_
    show Sp p e below T2 (mkF m 126 #[.val (.int p0), .val (.int p1), .val (.int p2), .val (.int ((p0 &&& (2147483647 : Int32)) % (5 : Int32))), .val (.int (p1 &&& (3 : Int32))), .val (.int z5), .val (.ref w_AES_256_GCM), .val (.int (0 : Int32)), .val (.int (1 : Int32)), .unset] [(.int z5)]) _
    refine XS.bipush X2.here hx rfl (hb hby at_126) ?_
    show Sp p e below T2 (mkF m 128 #[.val (.int p0), .val (.int p1), .val (.int p2), .val (.int ((p0 &&& (2147483647 : Int32)) % (5 : Int32))), .val (.int (p1 &&& (3 : Int32))), .val (.int z5), .val (.ref w_AES_256_GCM), .val (.int (0 : Int32)), .val (.int (1 : Int32)), .unset] [(.int (32 : Int32)), (.int z5)]) _
    refine XS.icmpNo X2.here hx rfl (hb hby at_128) rfl (teq hc5).2 ?_
    show Sp p e below T2 (mkF m 131 #[.val (.int p0), .val (.int p1), .val (.int p2), .val (.int ((p0 &&& (2147483647 : Int32)) % (5 : Int32))), .val (.int (p1 &&& (3 : Int32))), .val (.int z5), .val (.ref w_AES_256_GCM), .val (.int (0 : Int32)), .val (.int (1 : Int32)), .unset] []) _
    refine XS.iload X2.here hx rfl (hb hby at_131) rfl ?_
    show Sp p e below T2 (mkF m 133 #[.val (.int p0), .val (.int p1), .val (.int p2), .val (.int ((p0 &&& (2147483647 : Int32)) % (5 : Int32))), .val (.int (p1 &&& (3 : Int32))), .val (.int z5), .val (.ref w_AES_256_GCM), .val (.int (0 : Int32)), .val (.int (1 : Int32)), .unset] [(.int (1 : Int32))]) _
    refine XS.ifNo X2.here hx rfl (hb hby at_133) rfl ((if0 _ _).trans (feq (by decide : ¬ ((1 : Int32) = (0 : Int32)))).1) ?_
    show Sp p e below T2 (mkF m 136 #[.val (.int p0), .val (.int p1), .val (.int p2), .val (.int ((p0 &&& (2147483647 : Int32)) % (5 : Int32))), .val (.int (p1 &&& (3 : Int32))), .val (.int z5), .val (.ref w_AES_256_GCM), .val (.int (0 : Int32)), .val (.int (1 : Int32)), .unset] []) _
    refine XS.iconst X2.here hx rfl (hb hby at_136) ?_
    show Sp p e below T2 (mkF m 137 #[.val (.int p0), .val (.int p1), .val (.int p2), .val (.int ((p0 &&& (2147483647 : Int32)) % (5 : Int32))), .val (.int (p1 &&& (3 : Int32))), .val (.int z5), .val (.ref w_AES_256_GCM), .val (.int (0 : Int32)), .val (.int (1 : Int32)), .unset] [(.int (1 : Int32))]) _
    refine XS.goto X2.here hx rfl (pc0 := 137) (pc' := 141) rfl (hb hby at_137) (by decide) (by decide) ?_
    show Sp p e below T2 (mkF m 141 #[.val (.int p0), .val (.int p1), .val (.int p2), .val (.int ((p0 &&& (2147483647 : Int32)) % (5 : Int32))), .val (.int (p1 &&& (3 : Int32))), .val (.int z5), .val (.ref w_AES_256_GCM), .val (.int (0 : Int32)), .val (.int (1 : Int32)), .unset] [(.int (1 : Int32))]) _
    refine XS.istore X2.here hx rfl (hb hby at_141) rfl (l' := #[.val (.int p0), .val (.int p1), .val (.int p2), .val (.int ((p0 &&& (2147483647 : Int32)) % (5 : Int32))), .val (.int (p1 &&& (3 : Int32))), .val (.int z5), .val (.ref w_AES_256_GCM), .val (.int (0 : Int32)), .val (.int (1 : Int32)), .val (.int (1 : Int32))]) rfl ?_
    show Sp p e below T2 (mkF m 143 #[.val (.int p0), .val (.int p1), .val (.int p2), .val (.int ((p0 &&& (2147483647 : Int32)) % (5 : Int32))), .val (.int (p1 &&& (3 : Int32))), .val (.int z5), .val (.ref w_AES_256_GCM), .val (.int (0 : Int32)), .val (.int (1 : Int32)), .val (.int (1 : Int32))] []) _
    refine XS.aload X2.here hx rfl (hb hby at_143) rfl rfl ?_
    show Sp p e below T2 (mkF m 145 #[.val (.int p0), .val (.int p1), .val (.int p2), .val (.int ((p0 &&& (2147483647 : Int32)) % (5 : Int32))), .val (.int (p1 &&& (3 : Int32))), .val (.int z5), .val (.ref w_AES_256_GCM), .val (.int (0 : Int32)), .val (.int (1 : Int32)), .val (.int (1 : Int32))] [(.ref w_AES_256_GCM)]) _
    refine XS.iload X2.here hx rfl (hb hby at_145) rfl ?_
    show Sp p e below T2 (mkF m 147 #[.val (.int p0), .val (.int p1), .val (.int p2), .val (.int ((p0 &&& (2147483647 : Int32)) % (5 : Int32))), .val (.int (p1 &&& (3 : Int32))), .val (.int z5), .val (.ref w_AES_256_GCM), .val (.int (0 : Int32)), .val (.int (1 : Int32)), .val (.int (1 : Int32))] [(.int z5), (.ref w_AES_256_GCM)]) _
    refine st3.trans ?_
    show Sp p e below T3 (mkF m 150 #[.val (.int p0), .val (.int p1), .val (.int p2), .val (.int ((p0 &&& (2147483647 : Int32)) % (5 : Int32))), .val (.int (p1 &&& (3 : Int32))), .val (.int z5), .val (.ref w_AES_256_GCM), .val (.int (0 : Int32)), .val (.int (1 : Int32)), .val (.int (1 : Int32))] [(.int (1 : Int32))]) _
    refine XS.iload X3.here hx rfl (hb hby at_150) rfl ?_
    show Sp p e below T3 (mkF m 152 #[.val (.int p0), .val (.int p1), .val (.int p2), .val (.int ((p0 &&& (2147483647 : Int32)) % (5 : Int32))), .val (.int (p1 &&& (3 : Int32))), .val (.int z5), .val (.ref w_AES_256_GCM), .val (.int (0 : Int32)), .val (.int (1 : Int32)), .val (.int (1 : Int32))] [(.int (1 : Int32)), (.int (1 : Int32))]) _
    refine XS.icmpNo X3.here hx rfl (hb hby at_152) rfl (teq (by decide : (1 : Int32) = (1 : Int32))).2 ?_
    show Sp p e below T3 (mkF m 155 #[.val (.int p0), .val (.int p1), .val (.int p2), .val (.int ((p0 &&& (2147483647 : Int32)) % (5 : Int32))), .val (.int (p1 &&& (3 : Int32))), .val (.int z5), .val (.ref w_AES_256_GCM), .val (.int (0 : Int32)), .val (.int (1 : Int32)), .val (.int (1 : Int32))] []) _
    refine XS.iconst X3.here hx rfl (hb hby at_155) ?_
    show Sp p e below T3 (mkF m 156 #[.val (.int p0), .val (.int p1), .val (.int p2), .val (.int ((p0 &&& (2147483647 : Int32)) % (5 : Int32))), .val (.int (p1 &&& (3 : Int32))), .val (.int z5), .val (.ref w_AES_256_GCM), .val (.int (0 : Int32)), .val (.int (1 : Int32)), .val (.int (1 : Int32))] [(.int (1 : Int32))]) _
    refine XS.goto X3.here hx rfl (pc0 := 156) (pc' := 160) rfl (hb hby at_156) (by decide) (by decide) ?_
    show Sp p e below T3 (mkF m 160 #[.val (.int p0), .val (.int p1), .val (.int p2), .val (.int ((p0 &&& (2147483647 : Int32)) % (5 : Int32))), .val (.int (p1 &&& (3 : Int32))), .val (.int z5), .val (.ref w_AES_256_GCM), .val (.int (0 : Int32)), .val (.int (1 : Int32)), .val (.int (1 : Int32))] [(.int (1 : Int32))]) _
    exact retN X3 hx (t := .boolean) Bd.returns (by simp) (hb hby at_160) hr
  · skip
    exact ⟨rfl, N3⟩
set_option maxRecDepth 65536 in
set_option maxHeartbeats 40000000 in
theorem rm29 (l : Launch) (Z : State) (a0 : Array Value) (hw : ∀ d ∈ tables_1, d.before a0 Z = true) (ws : List Jvm.Cond) (w_AES_128_GCM w_AES_256_GCM w_AES_CBC_PKCS5PADDING w_AES_128_CBC w_AES_GCM_NOPADDING kl_AES_128_GCM kl_AES_256_GCM kl_AES_CBC_PKCS5PADDING kl_AES_128_CBC kl_AES_GCM_NOPADDING : Addr) (k_kl_AES_128_GCM : ClassId) (k_kl_AES_256_GCM : ClassId) (k_kl_AES_CBC_PKCS5PADDING : ClassId) (k_kl_AES_128_CBC : ClassId) (k_kl_AES_GCM_NOPADDING : ClassId) (hp : Perm Z w_AES_128_GCM w_AES_256_GCM w_AES_CBC_PKCS5PADDING w_AES_128_CBC w_AES_GCM_NOPADDING kl_AES_128_GCM kl_AES_256_GCM kl_AES_CBC_PKCS5PADDING kl_AES_128_CBC kl_AES_GCM_NOPADDING k_kl_AES_128_GCM k_kl_AES_256_GCM k_kl_AES_CBC_PKCS5PADDING k_kl_AES_128_CBC k_kl_AES_GCM_NOPADDING) (p0 : Int32) (p1 : Int32) (p2 : Int32) (z5 : Int32) (h0 : Heap) (n0 : Nat) (O0 : Old Z n0 h0) (hcut : Cut_0_12 p0 p1 p2 ((p0 &&& (2147483647 : Int32)) % (5 : Int32)) (p1 &&& (3 : Int32)) z5) (hc2 : ¬ (((p0 &&& (2147483647 : Int32)) % (5 : Int32)) = (0 : Int32))) (hc3 : ((p0 &&& (2147483647 : Int32)) % (5 : Int32)) = (1 : Int32)) (hc4 : ¬ (z5 = (16 : Int32))) (hc5 : ¬ (z5 = (32 : Int32))) :
    MetFree l x (head1 (Jvm.Cond.code x code maxLocals ret :: ws) room_1) (fun a U => a = #[(.int p0), (.int p1), (.int p2)] ∧ Z.Warmed39 U.vm ∧ U.heap = h0) (fun _ _ _ _ _ => True) (fun _ U o U' => ∃ v L, o = .returned v ∧ (v = some (.int (1 : Int32)) ∧ Fr n0 L) ∧ FrameEnd U o U' L 0 0) := by
  refine MetFree.of_bodySF (plainFor_of_name pn_1) hisR ?_
  intro p e s m args below meth c s₁ Bd hml0 hP hK
  obtain ⟨rfl, hZ, hh⟩ := hP
  have hx := Bd.exec
  have hby := Bd.bytes
  have hml : c.maxLocals = 10 := hml0
  have hown : s.vm.findClass "com/example/cloakfield/cloakfield/crypto/EncryptionAlgorithmAcceptsKeyLengthPinLaw" = some m.cls := findClass_of_methodNamed Bd.named
  have hnm := (name_of_methodNamed Bd.named Bd.method).1
  have X0 : Stand p l e room_1 s m #[(.int p0), (.int p1), (.int p2)] below meth c s₁ [] 0 0 := Stand.of_body Bd
  have e0 : s₁.heap = h0 := by rw [← hh, Bd.state]; rfl
  have N0 := Fr.nil n0
  have hp' := hp
  obtain ⟨S_w_AES_128_GCM, E_w_AES_128_GCM, S_w_AES_256_GCM, E_w_AES_256_GCM, S_w_AES_CBC_PKCS5PADDING, E_w_AES_CBC_PKCS5PADDING, S_w_AES_128_CBC, E_w_AES_128_CBC, S_w_AES_GCM_NOPADDING, E_w_AES_GCM_NOPADDING, F_keyLengths_w_AES_128_GCM, V_kl_AES_128_GCM, F_keyLengths_w_AES_256_GCM, V_kl_AES_256_GCM, F_keyLengths_w_AES_CBC_PKCS5PADDING, V_kl_AES_CBC_PKCS5PADDING, F_keyLengths_w_AES_128_CBC, V_kl_AES_128_CBC, F_keyLengths_w_AES_GCM_NOPADDING, V_kl_AES_GCM_NOPADDING⟩ := hp'
  have pre0 : ∀ t, Steps p.tables e below (s₁.setTop (mkF m 0 #[.val (.int p0), .val (.int p1), .val (.int p2), .unset, .unset, .unset, .unset, .unset, .unset, .unset] [])) t → Steps p.tables e below (s₁.setTop (entryFrame m #[(.int p0), (.int p1), (.int p2)] maxLocals)) t := fun t k => castTop (ef_0_0 m p0 p1 p2) k
  have st1 := hcut X0 hx hZ hw hby hown
  obtain ⟨_, _, ⟨T2, L2, k2, n2⟩, -, X2, ⟨Lc2, hQ2, l2, y2, z2⟩, st2⟩ := Jvm.LawKit.callS X0 hx (y := y0) hown (mvT hZ (hw _ (List.mem_of_getElem? (i := 1) rfl))) (mvT hZ (hw _ (List.mem_of_getElem? (i := 2) rfl))) (mvT hZ (hw _ (List.mem_of_getElem? (i := 3) rfl))) (mvT hZ (hw _ (List.mem_of_getElem? (i := 4) rfl))) (by decide) (backOf (W := 0) (rm4 l Z a0 hw [] w_AES_128_GCM w_AES_256_GCM w_AES_CBC_PKCS5PADDING w_AES_128_CBC w_AES_GCM_NOPADDING kl_AES_128_GCM kl_AES_256_GCM kl_AES_CBC_PKCS5PADDING kl_AES_128_CBC kl_AES_GCM_NOPADDING k_kl_AES_128_GCM k_kl_AES_256_GCM k_kl_AES_CBC_PKCS5PADDING k_kl_AES_128_CBC k_kl_AES_GCM_NOPADDING hp ((p0 &&& (2147483647 : Int32)) % (5 : Int32)) h0 n0 O0 hc2 hc3) hZ (hw _ (List.mem_of_getElem? (i := 4) rfl)) (hw _ (List.mem_of_getElem? (i := 3) rfl)) (by decide) (by decide)) (g := (mkF m 59 #[.val (.int p0), .val (.int p1), .val (.int p2), .val (.int ((p0 &&& (2147483647 : Int32)) % (5 : Int32))), .val (.int (p1 &&& (3 : Int32))), .val (.int z5), .unset, .unset, .unset, .unset] [(.int ((p0 &&& (2147483647 : Int32)) % (5 : Int32)))])) rfl (by rw [hml]; rfl) (argsL := [(.int ((p0 &&& (2147483647 : Int32)) % (5 : Int32)))]) (rest := []) (lenOf pd_0 rfl) rfl (by show 2 * 0 + _ ≤ _; exact Nat.le_of_eq rfl) (hb hby at_59) (fun _ _ => ⟨rfl, e0, (by decide : 0 + 0 ≤ _), (by decide : 0 + 0 ≤ _)⟩)
  dsimp only [Pt.U, Pt.locs, Pt.cells, Pt.slots] at X2 l2 y2 z2 st2 hQ2
  subst l2 y2 z2
  obtain ⟨rfl, Nq2, eq2⟩ := hQ2
  have N2 := Fr.app N0 Nq2
  obtain ⟨cq3, kq3, q3a, q3b, q3c⟩ := isOf hZ eq2 (E_w_AES_256_GCM.ext O0.2)
  obtain ⟨_, _, ⟨T3, L3, k3, n3⟩, -, X3, ⟨Lc3, hQ3, l3, y3, z3⟩, st3⟩ := X2.virtualBack hx (y := y1) (z := y1) hown (mvT hZ (hw _ (List.mem_of_getElem? (i := 8) rfl))) (mvT hZ (hw _ (List.mem_of_getElem? (i := 9) rfl))) (notFace_of_selects (args := #[]) (mvT hZ (hw _ (List.mem_of_getElem? (i := 11) rfl)))) (mvT hZ (hw _ (List.mem_of_getElem? (i := 11) rfl))) (mvT hZ (hw _ (List.mem_of_getElem? (i := 10) rfl))) (by decide) (backOf (W := 0) (rm5 l Z a0 hw [] w_AES_128_GCM w_AES_256_GCM w_AES_CBC_PKCS5PADDING w_AES_128_CBC w_AES_GCM_NOPADDING kl_AES_128_GCM kl_AES_256_GCM kl_AES_CBC_PKCS5PADDING kl_AES_128_CBC kl_AES_GCM_NOPADDING k_kl_AES_128_GCM k_kl_AES_256_GCM k_kl_AES_CBC_PKCS5PADDING k_kl_AES_128_CBC k_kl_AES_GCM_NOPADDING hp z5 h0 n0 O0 hc5) hZ (hw _ (List.mem_of_getElem? (i := 12) rfl)) (hw _ (List.mem_of_getElem? (i := 6) rfl)) (by decide) (by decide)) q3a q3c (g := (mkF m 147 #[.val (.int p0), .val (.int p1), .val (.int p2), .val (.int ((p0 &&& (2147483647 : Int32)) % (5 : Int32))), .val (.int (p1 &&& (3 : Int32))), .val (.int z5), .val (.ref w_AES_256_GCM), .val (.int (0 : Int32)), .val (.int (1 : Int32)), .val (.int (0 : Int32))] [(.int z5), (.ref w_AES_256_GCM)])) rfl (by rw [hml]; rfl) (Steps.refl _) (argsL := [(.int z5)]) (rest := []) (lenOf pd_1 rfl) rfl (by show 2 * 0 + _ ≤ _; exact Nat.le_of_eq rfl) (hb hby at_147) (fun _ _ => ⟨rfl, eq2, (by decide : 0 + 0 ≤ _), (by decide : 0 + 0 ≤ _)⟩)
  dsimp only [Pt.U, Pt.locs, Pt.cells, Pt.slots] at X3 l3 y3 z3 st3 hQ3
  subst l3 y3 z3
  obtain ⟨rfl, Nq3, eq3⟩ := hQ3
  have N3 := Fr.app N2 Nq3
  obtain ⟨fs, hr, hrun, hended, hW, hsame⟩ := X3.leave (v := some (.int (1 : Int32))) (fun h => by rw [Bd.returns] at h; cases h)
  refine ⟨_, _, pre0 _ ?_, hrun, hended, _, _, rfl, ?_, ⟨_, rfl⟩, hW, hsame.mono (by decide) (by decide)⟩
  · show Sp p e below s₁ (mkF m 0 #[.val (.int p0), .val (.int p1), .val (.int p2), .unset, .unset, .unset, .unset, .unset, .unset, .unset] []) _
    refine XS.iloadN X0.here hx rfl (hb hby at_0) rfl ?_
    show Sp p e below s₁ (mkF m 1 #[.val (.int p0), .val (.int p1), .val (.int p2), .unset, .unset, .unset, .unset, .unset, .unset, .unset] [(.int p0)]) _
    refine X0.ldcI hx hown (mvT hZ (hw _ (List.mem_of_getElem? (i := 0) rfl))) rfl (hb hby at_1) ?_
    show Sp p e below s₁ (mkF m 3 #[.val (.int p0), .val (.int p1), .val (.int p2), .unset, .unset, .unset, .unset, .unset, .unset, .unset] [(.int (2147483647 : Int32)), (.int p0)]) _
    refine XS.iand X0.here hx rfl (hb hby at_3) rfl ?_
    show Sp p e below s₁ (mkF m 4 #[.val (.int p0), .val (.int p1), .val (.int p2), .unset, .unset, .unset, .unset, .unset, .unset, .unset] [(.int (p0 &&& (2147483647 : Int32)))]) _
    refine XS.iconst X0.here hx rfl (hb hby at_4) ?_
    show Sp p e below s₁ (mkF m 5 #[.val (.int p0), .val (.int p1), .val (.int p2), .unset, .unset, .unset, .unset, .unset, .unset, .unset] [(.int (5 : Int32)), (.int (p0 &&& (2147483647 : Int32)))]) _
    refine iremM X0 hx rfl (hb hby at_5) rfl (by decide) ?_
    show Sp p e below s₁ (mkF m 6 #[.val (.int p0), .val (.int p1), .val (.int p2), .unset, .unset, .unset, .unset, .unset, .unset, .unset] [(.int ((p0 &&& (2147483647 : Int32)) % (5 : Int32)))]) _
    refine XS.istoreN X0.here hx rfl (hb hby at_6) rfl (l' := #[.val (.int p0), .val (.int p1), .val (.int p2), .val (.int ((p0 &&& (2147483647 : Int32)) % (5 : Int32))), .unset, .unset, .unset, .unset, .unset, .unset]) rfl ?_
    show Sp p e below s₁ (mkF m 7 #[.val (.int p0), .val (.int p1), .val (.int p2), .val (.int ((p0 &&& (2147483647 : Int32)) % (5 : Int32))), .unset, .unset, .unset, .unset, .unset, .unset] []) _
    refine XS.iloadN X0.here hx rfl (hb hby at_7) rfl ?_
    show Sp p e below s₁ (mkF m 8 #[.val (.int p0), .val (.int p1), .val (.int p2), .val (.int ((p0 &&& (2147483647 : Int32)) % (5 : Int32))), .unset, .unset, .unset, .unset, .unset, .unset] [(.int p1)]) _
    refine XS.iconst X0.here hx rfl (hb hby at_8) ?_
    show Sp p e below s₁ (mkF m 9 #[.val (.int p0), .val (.int p1), .val (.int p2), .val (.int ((p0 &&& (2147483647 : Int32)) % (5 : Int32))), .unset, .unset, .unset, .unset, .unset, .unset] [(.int (3 : Int32)), (.int p1)]) _
    refine XS.iand X0.here hx rfl (hb hby at_9) rfl ?_
    show Sp p e below s₁ (mkF m 10 #[.val (.int p0), .val (.int p1), .val (.int p2), .val (.int ((p0 &&& (2147483647 : Int32)) % (5 : Int32))), .unset, .unset, .unset, .unset, .unset, .unset] [(.int (p1 &&& (3 : Int32)))]) _
    refine XS.istore X0.here hx rfl (hb hby at_10) rfl (l' := #[.val (.int p0), .val (.int p1), .val (.int p2), .val (.int ((p0 &&& (2147483647 : Int32)) % (5 : Int32))), .val (.int (p1 &&& (3 : Int32))), .unset, .unset, .unset, .unset, .unset]) rfl ?_
    show Sp p e below s₁ (mkF m 12 #[.val (.int p0), .val (.int p1), .val (.int p2), .val (.int ((p0 &&& (2147483647 : Int32)) % (5 : Int32))), .val (.int (p1 &&& (3 : Int32))), .unset, .unset, .unset, .unset, .unset] []) _
    refine st1 _ ?_
    show Sp p e below s₁ (mkF m 58 #[.val (.int p0), .val (.int p1), .val (.int p2), .val (.int ((p0 &&& (2147483647 : Int32)) % (5 : Int32))), .val (.int (p1 &&& (3 : Int32))), .val (.int z5), .unset, .unset, .unset, .unset] []) _
    refine XS.iloadN X0.here hx rfl (hb hby at_58) rfl ?_
    show Sp p e below s₁ (mkF m 59 #[.val (.int p0), .val (.int p1), .val (.int p2), .val (.int ((p0 &&& (2147483647 : Int32)) % (5 : Int32))), .val (.int (p1 &&& (3 : Int32))), .val (.int z5), .unset, .unset, .unset, .unset] [(.int ((p0 &&& (2147483647 : Int32)) % (5 : Int32)))]) _
    refine st2 _ ?_
    show Sp p e below T2 (mkF m 62 #[.val (.int p0), .val (.int p1), .val (.int p2), .val (.int ((p0 &&& (2147483647 : Int32)) % (5 : Int32))), .val (.int (p1 &&& (3 : Int32))), .val (.int z5), .unset, .unset, .unset, .unset] [(.ref w_AES_256_GCM)]) _
    refine XS.astore X2.here hx rfl (hb hby at_62) rfl rfl (l' := #[.val (.int p0), .val (.int p1), .val (.int p2), .val (.int ((p0 &&& (2147483647 : Int32)) % (5 : Int32))), .val (.int (p1 &&& (3 : Int32))), .val (.int z5), .val (.ref w_AES_256_GCM), .unset, .unset, .unset]) rfl ?_
    show Sp p e below T2 (mkF m 64 #[.val (.int p0), .val (.int p1), .val (.int p2), .val (.int ((p0 &&& (2147483647 : Int32)) % (5 : Int32))), .val (.int (p1 &&& (3 : Int32))), .val (.int z5), .val (.ref w_AES_256_GCM), .unset, .unset, .unset] []) _
    refine XS.iloadN X2.here hx rfl (hb hby at_64) rfl ?_
    show Sp p e below T2 (mkF m 65 #[.val (.int p0), .val (.int p1), .val (.int p2), .val (.int ((p0 &&& (2147483647 : Int32)) % (5 : Int32))), .val (.int (p1 &&& (3 : Int32))), .val (.int z5), .val (.ref w_AES_256_GCM), .unset, .unset, .unset] [(.int ((p0 &&& (2147483647 : Int32)) % (5 : Int32)))]) _
    refine XS.ifNo X2.here hx rfl (hb hby at_65) rfl ((if0 _ _).trans (feq hc2).1) ?_
    show Sp p e below T2 (mkF m 68 #[.val (.int p0), .val (.int p1), .val (.int p2), .val (.int ((p0 &&& (2147483647 : Int32)) % (5 : Int32))), .val (.int (p1 &&& (3 : Int32))), .val (.int z5), .val (.ref w_AES_256_GCM), .unset, .unset, .unset] []) _
    refine XS.iloadN X2.here hx rfl (hb hby at_68) rfl ?_
    show Sp p e below T2 (mkF m 69 #[.val (.int p0), .val (.int p1), .val (.int p2), .val (.int ((p0 &&& (2147483647 : Int32)) % (5 : Int32))), .val (.int (p1 &&& (3 : Int32))), .val (.int z5), .val (.ref w_AES_256_GCM), .unset, .unset, .unset] [(.int ((p0 &&& (2147483647 : Int32)) % (5 : Int32)))]) _
    refine XS.iconst X2.here hx rfl (hb hby at_69) ?_
    show Sp p e below T2 (mkF m 70 #[.val (.int p0), .val (.int p1), .val (.int p2), .val (.int ((p0 &&& (2147483647 : Int32)) % (5 : Int32))), .val (.int (p1 &&& (3 : Int32))), .val (.int z5), .val (.ref w_AES_256_GCM), .unset, .unset, .unset] [(.int (2 : Int32)), (.int ((p0 &&& (2147483647 : Int32)) % (5 : Int32)))]) _
    refine XS.icmpNo X2.here hx rfl (hb hby at_70) rfl (feq (by rw [hc3]; decide : ¬ (((p0 &&& (2147483647 : Int32)) % (5 : Int32)) = (2 : Int32)))).1 ?_
    show Sp p e below T2 (mkF m 73 #[.val (.int p0), .val (.int p1), .val (.int p2), .val (.int ((p0 &&& (2147483647 : Int32)) % (5 : Int32))), .val (.int (p1 &&& (3 : Int32))), .val (.int z5), .val (.ref w_AES_256_GCM), .unset, .unset, .unset] []) _
    refine XS.iloadN X2.here hx rfl (hb hby at_73) rfl ?_
    show Sp p e below T2 (mkF m 74 #[.val (.int p0), .val (.int p1), .val (.int p2), .val (.int ((p0 &&& (2147483647 : Int32)) % (5 : Int32))), .val (.int (p1 &&& (3 : Int32))), .val (.int z5), .val (.ref w_AES_256_GCM), .unset, .unset, .unset] [(.int ((p0 &&& (2147483647 : Int32)) % (5 : Int32)))]) _
    refine XS.iconst X2.here hx rfl (hb hby at_74) ?_
    show Sp p e below T2 (mkF m 75 #[.val (.int p0), .val (.int p1), .val (.int p2), .val (.int ((p0 &&& (2147483647 : Int32)) % (5 : Int32))), .val (.int (p1 &&& (3 : Int32))), .val (.int z5), .val (.ref w_AES_256_GCM), .unset, .unset, .unset] [(.int (3 : Int32)), (.int ((p0 &&& (2147483647 : Int32)) % (5 : Int32)))]) _
    refine XS.icmpNo X2.here hx rfl (hb hby at_75) rfl (feq (by rw [hc3]; decide : ¬ (((p0 &&& (2147483647 : Int32)) % (5 : Int32)) = (3 : Int32)))).1 ?_
    show Sp p e below T2 (mkF m 78 #[.val (.int p0), .val (.int p1), .val (.int p2), .val (.int ((p0 &&& (2147483647 : Int32)) % (5 : Int32))), .val (.int (p1 &&& (3 : Int32))), .val (.int z5), .val (.ref w_AES_256_GCM), .unset, .unset, .unset] []) _
    refine XS.iloadN X2.here hx rfl (hb hby at_78) rfl ?_
    show Sp p e below T2 (mkF m 79 #[.val (.int p0), .val (.int p1), .val (.int p2), .val (.int ((p0 &&& (2147483647 : Int32)) % (5 : Int32))), .val (.int (p1 &&& (3 : Int32))), .val (.int z5), .val (.ref w_AES_256_GCM), .unset, .unset, .unset] [(.int ((p0 &&& (2147483647 : Int32)) % (5 : Int32)))]) _
    refine XS.iconst X2.here hx rfl (hb hby at_79) ?_
    show Sp p e below T2 (mkF m 80 #[.val (.int p0), .val (.int p1), .val (.int p2), .val (.int ((p0 &&& (2147483647 : Int32)) % (5 : Int32))), .val (.int (p1 &&& (3 : Int32))), .val (.int z5), .val (.ref w_AES_256_GCM), .unset, .unset, .unset] [(.int (4 : Int32)), (.int ((p0 &&& (2147483647 : Int32)) % (5 : Int32)))]) _
    refine XS.icmpYes X2.here hx rfl (pc0 := 80) (pc' := 87) rfl (hb hby at_80) rfl (feq (by rw [hc3]; decide : ¬ (((p0 &&& (2147483647 : Int32)) % (5 : Int32)) = (4 : Int32)))).2 (by decide) (by decide) ?_
    show Sp p e below T2 (mkF m 87 #[.val (.int p0), .val (.int p1), .val (.int p2), .val (.int ((p0 &&& (2147483647 : Int32)) % (5 : Int32))), .val (.int (p1 &&& (3 : Int32))), .val (.int z5), .val (.ref w_AES_256_GCM), .unset, .unset, .unset] []) _
    refine XS.iconst X2.here hx rfl (hb hby at_87) ?_
    show Sp p e below T2 (mkF m 88 #[.val (.int p0), .val (.int p1), .val (.int p2), .val (.int ((p0 &&& (2147483647 : Int32)) % (5 : Int32))), .val (.int (p1 &&& (3 : Int32))), .val (.int z5), .val (.ref w_AES_256_GCM), .unset, .unset, .unset] [(.int (0 : Int32))]) _
    refine XS.istore X2.here hx rfl (hb hby at_88) rfl (l' := #[.val (.int p0), .val (.int p1), .val (.int p2), .val (.int ((p0 &&& (2147483647 : Int32)) % (5 : Int32))), .val (.int (p1 &&& (3 : Int32))), .val (.int z5), .val (.ref w_AES_256_GCM), .val (.int (0 : Int32)), .unset, .unset]) rfl ?_
    show Sp p e below T2 (mkF m 90 #[.val (.int p0), .val (.int p1), .val (.int p2), .val (.int ((p0 &&& (2147483647 : Int32)) % (5 : Int32))), .val (.int (p1 &&& (3 : Int32))), .val (.int z5), .val (.ref w_AES_256_GCM), .val (.int (0 : Int32)), .unset, .unset] []) _
    refine XS.iloadN X2.here hx rfl (hb hby at_90) rfl ?_
    show Sp p e below T2 (mkF m 91 #[.val (.int p0), .val (.int p1), .val (.int p2), .val (.int ((p0 &&& (2147483647 : Int32)) % (5 : Int32))), .val (.int (p1 &&& (3 : Int32))), .val (.int z5), .val (.ref w_AES_256_GCM), .val (.int (0 : Int32)), .unset, .unset] [(.int ((p0 &&& (2147483647 : Int32)) % (5 : Int32)))]) _
    refine XS.iconst X2.here hx rfl (hb hby at_91) ?_
    show Sp p e below T2 (mkF m 92 #[.val (.int p0), .val (.int p1), .val (.int p2), .val (.int ((p0 &&& (2147483647 : Int32)) % (5 : Int32))), .val (.int (p1 &&& (3 : Int32))), .val (.int z5), .val (.ref w_AES_256_GCM), .val (.int (0 : Int32)), .unset, .unset] [(.int (1 : Int32)), (.int ((p0 &&& (2147483647 : Int32)) % (5 : Int32)))]) _
    refine XS.icmpYes X2.here hx rfl (pc0 := 92) (pc' := 105) rfl (hb hby at_92) rfl (teq hc3).1 (by decide) (by decide) ?_
    show Sp p e below T2 (mkF m 105 #[.val (.int p0), .val (.int p1), .val (.int p2), .val (.int ((p0 &&& (2147483647 : Int32)) % (5 : Int32))), .val (.int (p1 &&& (3 : Int32))), .val (.int z5), .val (.ref w_AES_256_GCM), .val (.int (0 : Int32)), .unset, .unset] []) _
    refine XS.iconst X2.here hx rfl (hb hby at_105) ?_
    show Sp p e below T2 (mkF m 106 #[.val (.int p0), .val (.int p1), .val (.int p2), .val (.int ((p0 &&& (2147483647 : Int32)) % (5 : Int32))), .val (.int (p1 &&& (3 : Int32))), .val (.int z5), .val (.ref w_AES_256_GCM), .val (.int (0 : Int32)), .unset, .unset] [(.int (1 : Int32))]) _
    refine XS.goto X2.here hx rfl (pc0 := 106) (pc' := 110) rfl (hb hby at_106) (by decide) (by decide) ?_
    show Sp p e below T2 (mkF m 110 #[.val (.int p0), .val (.int p1), .val (.int p2), .val (.int ((p0 &&& (2147483647 : Int32)) % (5 : Int32))), .val (.int (p1 &&& (3 : Int32))), .val (.int z5), .val (.ref w_AES_256_GCM), .val (.int (0 : Int32)), .unset, .unset] [(.int (1 : Int32))]) _
    refine XS.istore X2.here hx rfl (hb hby at_110) rfl (l' := #[.val (.int p0), .val (.int p1), .val (.int p2), .val (.int ((p0 &&& (2147483647 : Int32)) % (5 : Int32))), .val (.int (p1 &&& (3 : Int32))), .val (.int z5), .val (.ref w_AES_256_GCM), .val (.int (0 : Int32)), .val (.int (1 : Int32)), .unset]) rfl ?_
    show Sp p e below T2 (mkF m 112 #[.val (.int p0), .val (.int p1), .val (.int p2), .val (.int ((p0 &&& (2147483647 : Int32)) % (5 : Int32))), .val (.int (p1 &&& (3 : Int32))), .val (.int z5), .val (.ref w_AES_256_GCM), .val (.int (0 : Int32)), .val (.int (1 : Int32)), .unset] []) _
    refine XS.iload X2.here hx rfl (hb hby at_112) rfl ?_
    show Sp p e below T2 (mkF m 114 #[.val (.int p0), .val (.int p1), .val (.int p2), .val (.int ((p0 &&& (2147483647 : Int32)) % (5 : Int32))), .val (.int (p1 &&& (3 : Int32))), .val (.int z5), .val (.ref w_AES_256_GCM), .val (.int (0 : Int32)), .val (.int (1 : Int32)), .unset] [(.int z5)]) _
    refine XS.bipush X2.here hx rfl (hb hby at_114) ?_
    show Sp p e below T2 (mkF m 116 #[.val (.int p0), .val (.int p1), .val (.int p2), .val (.int ((p0 &&& (2147483647 : Int32)) % (5 : Int32))), .val (.int (p1 &&& (3 : Int32))), .val (.int z5), .val (.ref w_AES_256_GCM), .val (.int (0 : Int32)), .val (.int (1 : Int32)), .unset] [(.int (16 : Int32)), (.int z5)]) _
    refine XS.icmpYes X2.here hx rfl (pc0 := 116) (pc' := 124) rfl (hb hby at_116) rfl (feq hc4).2 (by decide) (by decide) ?_
    show Sp p e below T2 (mkF m 124 #[.val (.int p0), .val (.int p1), .val (.int p2), .val (.int ((p0 &&& (2147483647 : Int32)) % (5 : Int32))), .val (.int (p1 &&& (3 : Int32))), .val (.int z5), .val (.ref w_AES_256_GCM), .val (.int (0 : Int32)), .val (.int (1 : Int32)), .unset] []) _
    refine XS.iload X2.here hx rfl (hb hby at_124) rfl ?_
    show Sp p e below T2 (mkF m 126 #[.val (.int p0), .val (.int p1), .val (.int p2), .val (.int ((p0 &&& (2147483647 : Int32)) % (5 : Int32))), .val (.int (p1 &&& (3 : Int32))), .val (.int z5), .val (.ref w_AES_256_GCM), .val (.int (0 : Int32)), .val (.int (1 : Int32)), .unset] [(.int z5)]) _
    refine XS.bipush X2.here hx rfl (hb hby at_126) ?_
    show Sp p e below T2 (mkF m 128 #[.val (.int p0), .val (.int p1), .val (.int p2), .val (.int ((p0 &&& (2147483647 : Int32)) % (5 : Int32))), .val (.int (p1 &&& (3 : Int32))), .val (.int z5), .val (.ref w_AES_256_GCM), .val (.int (0 : Int32)), .val (.int (1 : Int32)), .unset] [(.int (32 : Int32)), (.int z5)]) _
    refine XS.icmpYes X2.here hx rfl (pc0 := 128) (pc' := 140) rfl (hb hby at_128) rfl (feq hc5).2 (by decide) (by decide) ?_
    show Sp p e below T2 (mkF m 140 #[.val (.int p0), .val (.int p1), .val (.int p2), .val (.int ((p0 &&& (2147483647 : Int32)) % (5 : Int32))), .val (.int (p1 &&& (3 : Int32))), .val (.int z5), .val (.ref w_AES_256_GCM), .val (.int (0 : Int32)), .val (.int (1 : Int32)), .unset] []) _
    refine XS.iconst X2.here hx rfl (hb hby at_140) ?_
    show Sp p e below T2 (mkF m 141 #[.val (.int p0), .val (.int p1), .val (.int p2), .val (.int ((p0 &&& (2147483647 : Int32)) % (5 : Int32))), .val (.int (p1 &&& (3 : Int32))), .val (.int z5), .val (.ref w_AES_256_GCM), .val (.int (0 : Int32)), .val (.int (1 : Int32)), .unset] [(.int (0 : Int32))]) _
    refine XS.istore X2.here hx rfl (hb hby at_141) rfl (l' := #[.val (.int p0), .val (.int p1), .val (.int p2), .val (.int ((p0 &&& (2147483647 : Int32)) % (5 : Int32))), .val (.int (p1 &&& (3 : Int32))), .val (.int z5), .val (.ref w_AES_256_GCM), .val (.int (0 : Int32)), .val (.int (1 : Int32)), .val (.int (0 : Int32))]) rfl ?_
    show Sp p e below T2 (mkF m 143 #[.val (.int p0), .val (.int p1), .val (.int p2), .val (.int ((p0 &&& (2147483647 : Int32)) % (5 : Int32))), .val (.int (p1 &&& (3 : Int32))), .val (.int z5), .val (.ref w_AES_256_GCM), .val (.int (0 : Int32)), .val (.int (1 : Int32)), .val (.int (0 : Int32))] []) _
    refine XS.aload X2.here hx rfl (hb hby at_143) rfl rfl ?_
    show Sp p e below T2 (mkF m 145 #[.val (.int p0), .val (.int p1), .val (.int p2), .val (.int ((p0 &&& (2147483647 : Int32)) % (5 : Int32))), .val (.int (p1 &&& (3 : Int32))), .val (.int z5), .val (.ref w_AES_256_GCM), .val (.int (0 : Int32)), .val (.int (1 : Int32)), .val (.int (0 : Int32))] [(.ref w_AES_256_GCM)]) _
    refine XS.iload X2.here hx rfl (hb hby at_145) rfl ?_
    show Sp p e below T2 (mkF m 147 #[.val (.int p0), .val (.int p1), .val (.int p2), .val (.int ((p0 &&& (2147483647 : Int32)) % (5 : Int32))), .val (.int (p1 &&& (3 : Int32))), .val (.int z5), .val (.ref w_AES_256_GCM), .val (.int (0 : Int32)), .val (.int (1 : Int32)), .val (.int (0 : Int32))] [(.int z5), (.ref w_AES_256_GCM)]) _
    refine st3.trans ?_
    show Sp p e below T3 (mkF m 150 #[.val (.int p0), .val (.int p1), .val (.int p2), .val (.int ((p0 &&& (2147483647 : Int32)) % (5 : Int32))), .val (.int (p1 &&& (3 : Int32))), .val (.int z5), .val (.ref w_AES_256_GCM), .val (.int (0 : Int32)), .val (.int (1 : Int32)), .val (.int (0 : Int32))] [(.int (0 : Int32))]) _
    refine XS.iload X3.here hx rfl (hb hby at_150) rfl ?_
    show Sp p e below T3 (mkF m 152 #[.val (.int p0), .val (.int p1), .val (.int p2), .val (.int ((p0 &&& (2147483647 : Int32)) % (5 : Int32))), .val (.int (p1 &&& (3 : Int32))), .val (.int z5), .val (.ref w_AES_256_GCM), .val (.int (0 : Int32)), .val (.int (1 : Int32)), .val (.int (0 : Int32))] [(.int (0 : Int32)), (.int (0 : Int32))]) _
    refine XS.icmpNo X3.here hx rfl (hb hby at_152) rfl (teq (by decide : (0 : Int32) = (0 : Int32))).2 ?_
    show Sp p e below T3 (mkF m 155 #[.val (.int p0), .val (.int p1), .val (.int p2), .val (.int ((p0 &&& (2147483647 : Int32)) % (5 : Int32))), .val (.int (p1 &&& (3 : Int32))), .val (.int z5), .val (.ref w_AES_256_GCM), .val (.int (0 : Int32)), .val (.int (1 : Int32)), .val (.int (0 : Int32))] []) _
    refine XS.iconst X3.here hx rfl (hb hby at_155) ?_
    show Sp p e below T3 (mkF m 156 #[.val (.int p0), .val (.int p1), .val (.int p2), .val (.int ((p0 &&& (2147483647 : Int32)) % (5 : Int32))), .val (.int (p1 &&& (3 : Int32))), .val (.int z5), .val (.ref w_AES_256_GCM), .val (.int (0 : Int32)), .val (.int (1 : Int32)), .val (.int (0 : Int32))] [(.int (1 : Int32))]) _
    refine XS.goto X3.here hx rfl (pc0 := 156) (pc' := 160) rfl (hb hby at_156) (by decide) (by decide) ?_
    show Sp p e below T3 (mkF m 160 #[.val (.int p0), .val (.int p1), .val (.int p2), .val (.int ((p0 &&& (2147483647 : Int32)) % (5 : Int32))), .val (.int (p1 &&& (3 : Int32))), .val (.int z5), .val (.ref w_AES_256_GCM), .val (.int (0 : Int32)), .val (.int (1 : Int32)), .val (.int (0 : Int32))] [(.int (1 : Int32))]) _
    exact retN X3 hx (t := .boolean) Bd.returns (by simp) (hb hby at_160) hr
  · skip
    exact ⟨rfl, N3⟩
def Q30 (Z : State) (w_AES_128_GCM : Addr) (w_AES_256_GCM : Addr) (w_AES_CBC_PKCS5PADDING : Addr) (w_AES_128_CBC : Addr) (w_AES_GCM_NOPADDING : Addr) (kl_AES_128_GCM : Addr) (kl_AES_256_GCM : Addr) (kl_AES_CBC_PKCS5PADDING : Addr) (kl_AES_128_CBC : Addr) (kl_AES_GCM_NOPADDING : Addr) (k_kl_AES_128_GCM : ClassId) (k_kl_AES_256_GCM : ClassId) (k_kl_AES_CBC_PKCS5PADDING : ClassId) (k_kl_AES_128_CBC : ClassId) (k_kl_AES_GCM_NOPADDING : ClassId) (p1 : Int32) (h0 : Heap) (n0 : Nat) (v : Option Value) (h : Heap) (L : List Loc) : Prop := v = some (.int (0 : Int32)) ∧ Fr n0 L ∧ h = h0
set_option maxRecDepth 65536 in
set_option maxHeartbeats 40000000 in
theorem rm30 (l : Launch) (Z : State) (a0 : Array Value) (hw : ∀ d ∈ tables_1, d.before a0 Z = true) (ws : List Jvm.Cond) (w_AES_128_GCM w_AES_256_GCM w_AES_CBC_PKCS5PADDING w_AES_128_CBC w_AES_GCM_NOPADDING kl_AES_128_GCM kl_AES_256_GCM kl_AES_CBC_PKCS5PADDING kl_AES_128_CBC kl_AES_GCM_NOPADDING : Addr) (k_kl_AES_128_GCM : ClassId) (k_kl_AES_256_GCM : ClassId) (k_kl_AES_CBC_PKCS5PADDING : ClassId) (k_kl_AES_128_CBC : ClassId) (k_kl_AES_GCM_NOPADDING : ClassId) (hp : Perm Z w_AES_128_GCM w_AES_256_GCM w_AES_CBC_PKCS5PADDING w_AES_128_CBC w_AES_GCM_NOPADDING kl_AES_128_GCM kl_AES_256_GCM kl_AES_CBC_PKCS5PADDING kl_AES_128_CBC kl_AES_GCM_NOPADDING k_kl_AES_128_GCM k_kl_AES_256_GCM k_kl_AES_CBC_PKCS5PADDING k_kl_AES_128_CBC k_kl_AES_GCM_NOPADDING) (p1 : Int32) (h0 : Heap) (n0 : Nat) (O0 : Old Z n0 h0) (hc1 : ¬ (p1 = (16 : Int32))) :
    MetFree l y1 (head1 (Jvm.Cond.code y1 prog_31_method_7_code 6 (some .boolean) :: ws) ({ frames := 0, cells := 0, slots := 0, locals := 0 } : Room)) (fun a U => a = #[(.ref w_AES_128_GCM), (.int p1)] ∧ Z.Warmed39 U.vm ∧ U.heap = h0) (fun _ _ _ _ _ => True) (fun _ U o U' => ∃ v L, o = .returned v ∧ Q30 Z w_AES_128_GCM w_AES_256_GCM w_AES_CBC_PKCS5PADDING w_AES_128_CBC w_AES_GCM_NOPADDING kl_AES_128_GCM kl_AES_256_GCM kl_AES_CBC_PKCS5PADDING kl_AES_128_CBC kl_AES_GCM_NOPADDING k_kl_AES_128_GCM k_kl_AES_256_GCM k_kl_AES_CBC_PKCS5PADDING k_kl_AES_128_CBC k_kl_AES_GCM_NOPADDING p1 h0 n0 v U'.heap L ∧ FrameEnd U o U' L ({ frames := 0, cells := 0, slots := 0, locals := 0 } : Room).cells ({ frames := 0, cells := 0, slots := 0, locals := 0 } : Room).slots) := by
  refine MetFree.of_bodySF (plainFor_of_name pn_2) hisR ?_
  intro p e s m args below meth c s₁ Bd hml0 hP hK
  obtain ⟨rfl, hZ, hh⟩ := hP
  have hx := Bd.exec
  have hby := Bd.bytes
  have hml : c.maxLocals = 6 := hml0
  have hown : s.vm.findClass "com/example/cloakfield/cloakfield/crypto/EncryptionAlgorithm" = some m.cls := findClass_of_methodNamed Bd.named
  have hnm := (name_of_methodNamed Bd.named Bd.method).1
  have X0 : Stand p l e ({ frames := 0, cells := 0, slots := 0, locals := 0 } : Room) s m #[(.ref w_AES_128_GCM), (.int p1)] below meth c s₁ [] 0 0 := Stand.of_body Bd
  have e0 : s₁.heap = h0 := by rw [← hh, Bd.state]; rfl
  have N0 := Fr.nil n0
  have hp' := hp
  obtain ⟨S_w_AES_128_GCM, E_w_AES_128_GCM, S_w_AES_256_GCM, E_w_AES_256_GCM, S_w_AES_CBC_PKCS5PADDING, E_w_AES_CBC_PKCS5PADDING, S_w_AES_128_CBC, E_w_AES_128_CBC, S_w_AES_GCM_NOPADDING, E_w_AES_GCM_NOPADDING, F_keyLengths_w_AES_128_GCM, V_kl_AES_128_GCM, F_keyLengths_w_AES_256_GCM, V_kl_AES_256_GCM, F_keyLengths_w_AES_CBC_PKCS5PADDING, V_kl_AES_CBC_PKCS5PADDING, F_keyLengths_w_AES_128_CBC, V_kl_AES_128_CBC, F_keyLengths_w_AES_GCM_NOPADDING, V_kl_AES_GCM_NOPADDING⟩ := hp'
  have pre0 : ∀ t, Steps p.tables e below (s₁.setTop (mkF m 0 #[.val (.ref w_AES_128_GCM), .val (.int p1), .unset, .unset, .unset, .unset] [])) t → Steps p.tables e below (s₁.setTop (entryFrame m #[(.ref w_AES_128_GCM), (.int p1)] 6)) t := fun t k => castTop (ef_2_0 m w_AES_128_GCM p1) k
  obtain ⟨T1, X1, e1, st1⟩ := getF X0 hx hZ hown (host := "") (Or.inl (hw _ (List.mem_of_getElem? (i := 13) rfl))) Via.refl e0 (F_keyLengths_w_AES_128_GCM.ext O0.2) (g := (mkF m 1 #[.val (.ref w_AES_128_GCM), .val (.int p1), .unset, .unset, .unset, .unset] [(.ref w_AES_128_GCM)])) rfl rfl (hb hby d2_1)
  obtain ⟨cl2, Ar2, -, S2, Nn2, -, -⟩ := (V_kl_AES_128_GCM.ext O0.2)
  obtain ⟨cl3, Ar3, -, S3, -, H3, -⟩ := (V_kl_AES_128_GCM.ext O0.2)
  have hin3 : ¬ ((0 : Int32) < 0 ∨ cl3.slots.size ≤ ((0 : Int32)).toNatClampNeg) := inb_of S3 ⟨by decide, by decide⟩
  have hat3 : cl3.slots[((0 : Int32)).toNatClampNeg]? = some (.int (16 : Int32)) := H3.at hin3 rfl
  obtain ⟨fs, hr, hrun, hended, hW, hsame⟩ := X1.leave (v := some (.int (0 : Int32))) (fun h => by rw [Bd.returns] at h; cases h)
  refine ⟨_, _, pre0 _ ?_, hrun, hended, _, _, rfl, ?_, ⟨_, rfl⟩, hW, hsame.mono (by decide) (by decide)⟩
  · show Sp p e below s₁ (mkF m 0 #[.val (.ref w_AES_128_GCM), .val (.int p1), .unset, .unset, .unset, .unset] []) _
    refine XS.aloadN X0.here hx rfl (hb hby d2_0) rfl rfl ?_
    show Sp p e below s₁ (mkF m 1 #[.val (.ref w_AES_128_GCM), .val (.int p1), .unset, .unset, .unset, .unset] [(.ref w_AES_128_GCM)]) _
    refine st1 _ ?_
    show Sp p e below T1 (mkF m 4 #[.val (.ref w_AES_128_GCM), .val (.int p1), .unset, .unset, .unset, .unset] [(.ref kl_AES_128_GCM)]) _
    refine XS.astoreN X1.here hx rfl (hb hby d2_4) rfl rfl (l' := #[.val (.ref w_AES_128_GCM), .val (.int p1), .val (.ref kl_AES_128_GCM), .unset, .unset, .unset]) rfl ?_
    show Sp p e below T1 (mkF m 5 #[.val (.ref w_AES_128_GCM), .val (.int p1), .val (.ref kl_AES_128_GCM), .unset, .unset, .unset] []) _
    refine XS.aloadN X1.here hx rfl (hb hby d2_5) rfl rfl ?_
    show Sp p e below T1 (mkF m 6 #[.val (.ref w_AES_128_GCM), .val (.int p1), .val (.ref kl_AES_128_GCM), .unset, .unset, .unset] [(.ref kl_AES_128_GCM)]) _
    refine X1.arraylength hx (by rw [e1]; exact Ar2.1) (State.isArrayOf_alike hZ.alike Ar2.2.1) (g := (mkF m 6 #[.val (.ref w_AES_128_GCM), .val (.int p1), .val (.ref kl_AES_128_GCM), .unset, .unset, .unset] [(.ref kl_AES_128_GCM)])) rfl rfl (hb hby d2_6) _ ?_
    rw [len_of S2 Nn2]
    show Sp p e below T1 (mkF m 7 #[.val (.ref w_AES_128_GCM), .val (.int p1), .val (.ref kl_AES_128_GCM), .unset, .unset, .unset] [(.int (1 : Int32))]) _
    refine XS.istoreN X1.here hx rfl (hb hby d2_7) rfl (l' := #[.val (.ref w_AES_128_GCM), .val (.int p1), .val (.ref kl_AES_128_GCM), .val (.int (1 : Int32)), .unset, .unset]) rfl ?_
    show Sp p e below T1 (mkF m 8 #[.val (.ref w_AES_128_GCM), .val (.int p1), .val (.ref kl_AES_128_GCM), .val (.int (1 : Int32)), .unset, .unset] []) _
    refine XS.iconst X1.here hx rfl (hb hby d2_8) ?_
    show Sp p e below T1 (mkF m 9 #[.val (.ref w_AES_128_GCM), .val (.int p1), .val (.ref kl_AES_128_GCM), .val (.int (1 : Int32)), .unset, .unset] [(.int (0 : Int32))]) _
    refine XS.istore X1.here hx rfl (hb hby d2_9) rfl (l' := #[.val (.ref w_AES_128_GCM), .val (.int p1), .val (.ref kl_AES_128_GCM), .val (.int (1 : Int32)), .val (.int (0 : Int32)), .unset]) rfl ?_
    show Sp p e below T1 (mkF m 11 #[.val (.ref w_AES_128_GCM), .val (.int p1), .val (.ref kl_AES_128_GCM), .val (.int (1 : Int32)), .val (.int (0 : Int32)), .unset] []) _
    refine XS.iload X1.here hx rfl (hb hby d2_11) rfl ?_
    show Sp p e below T1 (mkF m 13 #[.val (.ref w_AES_128_GCM), .val (.int p1), .val (.ref kl_AES_128_GCM), .val (.int (1 : Int32)), .val (.int (0 : Int32)), .unset] [(.int (0 : Int32))]) _
    refine XS.iloadN X1.here hx rfl (hb hby d2_13) rfl ?_
    show Sp p e below T1 (mkF m 14 #[.val (.ref w_AES_128_GCM), .val (.int p1), .val (.ref kl_AES_128_GCM), .val (.int (1 : Int32)), .val (.int (0 : Int32)), .unset] [(.int (1 : Int32)), (.int (0 : Int32))]) _
    refine XS.icmpNo X1.here hx rfl (hb hby d2_14) rfl (tlt (by decide : (0 : Int32) < (1 : Int32))).2.1 ?_
    show Sp p e below T1 (mkF m 17 #[.val (.ref w_AES_128_GCM), .val (.int p1), .val (.ref kl_AES_128_GCM), .val (.int (1 : Int32)), .val (.int (0 : Int32)), .unset] []) _
    refine XS.aloadN X1.here hx rfl (hb hby d2_17) rfl rfl ?_
    show Sp p e below T1 (mkF m 18 #[.val (.ref w_AES_128_GCM), .val (.int p1), .val (.ref kl_AES_128_GCM), .val (.int (1 : Int32)), .val (.int (0 : Int32)), .unset] [(.ref kl_AES_128_GCM)]) _
    refine XS.iload X1.here hx rfl (hb hby d2_18) rfl ?_
    show Sp p e below T1 (mkF m 20 #[.val (.ref w_AES_128_GCM), .val (.int p1), .val (.ref kl_AES_128_GCM), .val (.int (1 : Int32)), .val (.int (0 : Int32)), .unset] [(.int (0 : Int32)), (.ref kl_AES_128_GCM)]) _
    refine X1.iaload hx (j := (0 : Int32)) (v := (.int (16 : Int32))) (by rw [e1]; exact Ar3.1) (State.isArrayOf_alike hZ.alike Ar3.2.1) Ar3.2.2 hin3 hat3 (g := (mkF m 20 #[.val (.ref w_AES_128_GCM), .val (.int p1), .val (.ref kl_AES_128_GCM), .val (.int (1 : Int32)), .val (.int (0 : Int32)), .unset] [(.int (0 : Int32)), (.ref kl_AES_128_GCM)])) rfl rfl (hb hby d2_20) _ ?_
    show Sp p e below T1 (mkF m 21 #[.val (.ref w_AES_128_GCM), .val (.int p1), .val (.ref kl_AES_128_GCM), .val (.int (1 : Int32)), .val (.int (0 : Int32)), .unset] [(.int (16 : Int32))]) _
    refine XS.istore X1.here hx rfl (hb hby d2_21) rfl (l' := #[.val (.ref w_AES_128_GCM), .val (.int p1), .val (.ref kl_AES_128_GCM), .val (.int (1 : Int32)), .val (.int (0 : Int32)), .val (.int (16 : Int32))]) rfl ?_
    show Sp p e below T1 (mkF m 23 #[.val (.ref w_AES_128_GCM), .val (.int p1), .val (.ref kl_AES_128_GCM), .val (.int (1 : Int32)), .val (.int (0 : Int32)), .val (.int (16 : Int32))] []) _
    refine XS.iload X1.here hx rfl (hb hby d2_23) rfl ?_
    show Sp p e below T1 (mkF m 25 #[.val (.ref w_AES_128_GCM), .val (.int p1), .val (.ref kl_AES_128_GCM), .val (.int (1 : Int32)), .val (.int (0 : Int32)), .val (.int (16 : Int32))] [(.int (16 : Int32))]) _
    refine XS.iloadN X1.here hx rfl (hb hby d2_25) rfl ?_
    show Sp p e below T1 (mkF m 26 #[.val (.ref w_AES_128_GCM), .val (.int p1), .val (.ref kl_AES_128_GCM), .val (.int (1 : Int32)), .val (.int (0 : Int32)), .val (.int (16 : Int32))] [(.int p1), (.int (16 : Int32))]) _
    refine XS.icmpYes X1.here hx rfl (pc0 := 26) (pc' := 31) rfl (hb hby d2_26) rfl (feq (fun q => hc1 (Eq.symm q) : ¬ ((16 : Int32) = p1))).2 (by decide) (by decide) ?_
    show Sp p e below T1 (mkF m 31 #[.val (.ref w_AES_128_GCM), .val (.int p1), .val (.ref kl_AES_128_GCM), .val (.int (1 : Int32)), .val (.int (0 : Int32)), .val (.int (16 : Int32))] []) _
    refine XS.iinc X1.here hx rfl (hb hby d2_31) rfl (l' := #[.val (.ref w_AES_128_GCM), .val (.int p1), .val (.ref kl_AES_128_GCM), .val (.int (1 : Int32)), .val (.int ((0 : Int32) + (1 : Int32))), .val (.int (16 : Int32))]) rfl ?_
    show Sp p e below T1 (mkF m 34 #[.val (.ref w_AES_128_GCM), .val (.int p1), .val (.ref kl_AES_128_GCM), .val (.int (1 : Int32)), .val (.int ((0 : Int32) + (1 : Int32))), .val (.int (16 : Int32))] []) _
    refine XS.goto X1.here hx rfl (pc0 := 34) (pc' := 11) rfl (hb hby d2_34) (by decide) (by decide) ?_
    show Sp p e below T1 (mkF m 11 #[.val (.ref w_AES_128_GCM), .val (.int p1), .val (.ref kl_AES_128_GCM), .val (.int (1 : Int32)), .val (.int ((0 : Int32) + (1 : Int32))), .val (.int (16 : Int32))] []) _
    refine XS.iload X1.here hx rfl (hb hby d2_11) rfl ?_
    show Sp p e below T1 (mkF m 13 #[.val (.ref w_AES_128_GCM), .val (.int p1), .val (.ref kl_AES_128_GCM), .val (.int (1 : Int32)), .val (.int ((0 : Int32) + (1 : Int32))), .val (.int (16 : Int32))] [(.int ((0 : Int32) + (1 : Int32)))]) _
    refine XS.iloadN X1.here hx rfl (hb hby d2_13) rfl ?_
    show Sp p e below T1 (mkF m 14 #[.val (.ref w_AES_128_GCM), .val (.int p1), .val (.ref kl_AES_128_GCM), .val (.int (1 : Int32)), .val (.int ((0 : Int32) + (1 : Int32))), .val (.int (16 : Int32))] [(.int (1 : Int32)), (.int ((0 : Int32) + (1 : Int32)))]) _
    refine XS.icmpYes X1.here hx rfl (pc0 := 14) (pc' := 37) rfl (hb hby d2_14) rfl (flt (by decide : ¬ (((0 : Int32) + (1 : Int32)) < (1 : Int32)))).2.1 (by decide) (by decide) ?_
    show Sp p e below T1 (mkF m 37 #[.val (.ref w_AES_128_GCM), .val (.int p1), .val (.ref kl_AES_128_GCM), .val (.int (1 : Int32)), .val (.int ((0 : Int32) + (1 : Int32))), .val (.int (16 : Int32))] []) _
    refine XS.iconst X1.here hx rfl (hb hby d2_37) ?_
    show Sp p e below T1 (mkF m 38 #[.val (.ref w_AES_128_GCM), .val (.int p1), .val (.ref kl_AES_128_GCM), .val (.int (1 : Int32)), .val (.int ((0 : Int32) + (1 : Int32))), .val (.int (16 : Int32))] [(.int (0 : Int32))]) _
    exact retN X1 hx (t := .boolean) Bd.returns (by simp) (hb hby d2_38) hr
  · show Q30 Z w_AES_128_GCM w_AES_256_GCM w_AES_CBC_PKCS5PADDING w_AES_128_CBC w_AES_GCM_NOPADDING kl_AES_128_GCM kl_AES_256_GCM kl_AES_CBC_PKCS5PADDING kl_AES_128_CBC kl_AES_GCM_NOPADDING k_kl_AES_128_GCM k_kl_AES_256_GCM k_kl_AES_CBC_PKCS5PADDING k_kl_AES_128_CBC k_kl_AES_GCM_NOPADDING p1 h0 n0 _ T1.heap _
    rw [e1]
    exact ⟨rfl, N0, rfl⟩
set_option maxRecDepth 65536 in
set_option maxHeartbeats 40000000 in
theorem rm31 (l : Launch) (Z : State) (a0 : Array Value) (hw : ∀ d ∈ tables_1, d.before a0 Z = true) (ws : List Jvm.Cond) (w_AES_128_GCM w_AES_256_GCM w_AES_CBC_PKCS5PADDING w_AES_128_CBC w_AES_GCM_NOPADDING kl_AES_128_GCM kl_AES_256_GCM kl_AES_CBC_PKCS5PADDING kl_AES_128_CBC kl_AES_GCM_NOPADDING : Addr) (k_kl_AES_128_GCM : ClassId) (k_kl_AES_256_GCM : ClassId) (k_kl_AES_CBC_PKCS5PADDING : ClassId) (k_kl_AES_128_CBC : ClassId) (k_kl_AES_GCM_NOPADDING : ClassId) (hp : Perm Z w_AES_128_GCM w_AES_256_GCM w_AES_CBC_PKCS5PADDING w_AES_128_CBC w_AES_GCM_NOPADDING kl_AES_128_GCM kl_AES_256_GCM kl_AES_CBC_PKCS5PADDING kl_AES_128_CBC kl_AES_GCM_NOPADDING k_kl_AES_128_GCM k_kl_AES_256_GCM k_kl_AES_CBC_PKCS5PADDING k_kl_AES_128_CBC k_kl_AES_GCM_NOPADDING) (p0 : Int32) (p1 : Int32) (p2 : Int32) (z5 : Int32) (h0 : Heap) (n0 : Nat) (O0 : Old Z n0 h0) (hcut : Cut_0_12 p0 p1 p2 ((p0 &&& (2147483647 : Int32)) % (5 : Int32)) (p1 &&& (3 : Int32)) z5) (hc2 : ((p0 &&& (2147483647 : Int32)) % (5 : Int32)) = (0 : Int32)) (hc3 : ¬ (z5 = (16 : Int32))) (hc4 : z5 = (32 : Int32)) :
    MetFree l x (head1 (Jvm.Cond.code x code maxLocals ret :: ws) room_1) (fun a U => a = #[(.int p0), (.int p1), (.int p2)] ∧ Z.Warmed39 U.vm ∧ U.heap = h0) (fun _ _ _ _ _ => True) (fun _ U o U' => ∃ v L, o = .returned v ∧ (v = some (.int (1 : Int32)) ∧ Fr n0 L) ∧ FrameEnd U o U' L 0 0) := by
  refine MetFree.of_bodySF (plainFor_of_name pn_1) hisR ?_
  intro p e s m args below meth c s₁ Bd hml0 hP hK
  obtain ⟨rfl, hZ, hh⟩ := hP
  have hx := Bd.exec
  have hby := Bd.bytes
  have hml : c.maxLocals = 10 := hml0
  have hown : s.vm.findClass "com/example/cloakfield/cloakfield/crypto/EncryptionAlgorithmAcceptsKeyLengthPinLaw" = some m.cls := findClass_of_methodNamed Bd.named
  have hnm := (name_of_methodNamed Bd.named Bd.method).1
  have X0 : Stand p l e room_1 s m #[(.int p0), (.int p1), (.int p2)] below meth c s₁ [] 0 0 := Stand.of_body Bd
  have e0 : s₁.heap = h0 := by rw [← hh, Bd.state]; rfl
  have N0 := Fr.nil n0
  have hp' := hp
  obtain ⟨S_w_AES_128_GCM, E_w_AES_128_GCM, S_w_AES_256_GCM, E_w_AES_256_GCM, S_w_AES_CBC_PKCS5PADDING, E_w_AES_CBC_PKCS5PADDING, S_w_AES_128_CBC, E_w_AES_128_CBC, S_w_AES_GCM_NOPADDING, E_w_AES_GCM_NOPADDING, F_keyLengths_w_AES_128_GCM, V_kl_AES_128_GCM, F_keyLengths_w_AES_256_GCM, V_kl_AES_256_GCM, F_keyLengths_w_AES_CBC_PKCS5PADDING, V_kl_AES_CBC_PKCS5PADDING, F_keyLengths_w_AES_128_CBC, V_kl_AES_128_CBC, F_keyLengths_w_AES_GCM_NOPADDING, V_kl_AES_GCM_NOPADDING⟩ := hp'
  have pre0 : ∀ t, Steps p.tables e below (s₁.setTop (mkF m 0 #[.val (.int p0), .val (.int p1), .val (.int p2), .unset, .unset, .unset, .unset, .unset, .unset, .unset] [])) t → Steps p.tables e below (s₁.setTop (entryFrame m #[(.int p0), (.int p1), (.int p2)] maxLocals)) t := fun t k => castTop (ef_0_0 m p0 p1 p2) k
  have st1 := hcut X0 hx hZ hw hby hown
  obtain ⟨_, _, ⟨T2, L2, k2, n2⟩, -, X2, ⟨Lc2, hQ2, l2, y2, z2⟩, st2⟩ := Jvm.LawKit.callS X0 hx (y := y0) hown (mvT hZ (hw _ (List.mem_of_getElem? (i := 1) rfl))) (mvT hZ (hw _ (List.mem_of_getElem? (i := 2) rfl))) (mvT hZ (hw _ (List.mem_of_getElem? (i := 3) rfl))) (mvT hZ (hw _ (List.mem_of_getElem? (i := 4) rfl))) (by decide) (backOf (W := 0) (rm1 l Z a0 hw [] w_AES_128_GCM w_AES_256_GCM w_AES_CBC_PKCS5PADDING w_AES_128_CBC w_AES_GCM_NOPADDING kl_AES_128_GCM kl_AES_256_GCM kl_AES_CBC_PKCS5PADDING kl_AES_128_CBC kl_AES_GCM_NOPADDING k_kl_AES_128_GCM k_kl_AES_256_GCM k_kl_AES_CBC_PKCS5PADDING k_kl_AES_128_CBC k_kl_AES_GCM_NOPADDING hp ((p0 &&& (2147483647 : Int32)) % (5 : Int32)) h0 n0 O0 hc2) hZ (hw _ (List.mem_of_getElem? (i := 4) rfl)) (hw _ (List.mem_of_getElem? (i := 3) rfl)) (by decide) (by decide)) (g := (mkF m 59 #[.val (.int p0), .val (.int p1), .val (.int p2), .val (.int ((p0 &&& (2147483647 : Int32)) % (5 : Int32))), .val (.int (p1 &&& (3 : Int32))), .val (.int z5), .unset, .unset, .unset, .unset] [(.int ((p0 &&& (2147483647 : Int32)) % (5 : Int32)))])) rfl (by rw [hml]; rfl) (argsL := [(.int ((p0 &&& (2147483647 : Int32)) % (5 : Int32)))]) (rest := []) (lenOf pd_0 rfl) rfl (by show 2 * 0 + _ ≤ _; exact Nat.le_of_eq rfl) (hb hby at_59) (fun _ _ => ⟨rfl, e0, (by decide : 0 + 0 ≤ _), (by decide : 0 + 0 ≤ _)⟩)
  dsimp only [Pt.U, Pt.locs, Pt.cells, Pt.slots] at X2 l2 y2 z2 st2 hQ2
  subst l2 y2 z2
  obtain ⟨rfl, Nq2, eq2⟩ := hQ2
  have N2 := Fr.app N0 Nq2
  obtain ⟨cq3, kq3, q3a, q3b, q3c⟩ := isOf hZ eq2 (E_w_AES_128_GCM.ext O0.2)
  obtain ⟨_, _, ⟨T3, L3, k3, n3⟩, -, X3, ⟨Lc3, hQ3, l3, y3, z3⟩, st3⟩ := X2.virtualBack hx (y := y1) (z := y1) hown (mvT hZ (hw _ (List.mem_of_getElem? (i := 8) rfl))) (mvT hZ (hw _ (List.mem_of_getElem? (i := 9) rfl))) (notFace_of_selects (args := #[]) (mvT hZ (hw _ (List.mem_of_getElem? (i := 11) rfl)))) (mvT hZ (hw _ (List.mem_of_getElem? (i := 11) rfl))) (mvT hZ (hw _ (List.mem_of_getElem? (i := 10) rfl))) (by decide) (backOf (W := 0) (rm30 l Z a0 hw [] w_AES_128_GCM w_AES_256_GCM w_AES_CBC_PKCS5PADDING w_AES_128_CBC w_AES_GCM_NOPADDING kl_AES_128_GCM kl_AES_256_GCM kl_AES_CBC_PKCS5PADDING kl_AES_128_CBC kl_AES_GCM_NOPADDING k_kl_AES_128_GCM k_kl_AES_256_GCM k_kl_AES_CBC_PKCS5PADDING k_kl_AES_128_CBC k_kl_AES_GCM_NOPADDING hp z5 h0 n0 O0 hc3) hZ (hw _ (List.mem_of_getElem? (i := 12) rfl)) (hw _ (List.mem_of_getElem? (i := 6) rfl)) (by decide) (by decide)) q3a q3c (g := (mkF m 147 #[.val (.int p0), .val (.int p1), .val (.int p2), .val (.int ((p0 &&& (2147483647 : Int32)) % (5 : Int32))), .val (.int (p1 &&& (3 : Int32))), .val (.int z5), .val (.ref w_AES_128_GCM), .val (.int (1 : Int32)), .val (.int (0 : Int32)), .val (.int (0 : Int32))] [(.int z5), (.ref w_AES_128_GCM)])) rfl (by rw [hml]; rfl) (Steps.refl _) (argsL := [(.int z5)]) (rest := []) (lenOf pd_1 rfl) rfl (by show 2 * 0 + _ ≤ _; exact Nat.le_of_eq rfl) (hb hby at_147) (fun _ _ => ⟨rfl, eq2, (by decide : 0 + 0 ≤ _), (by decide : 0 + 0 ≤ _)⟩)
  dsimp only [Pt.U, Pt.locs, Pt.cells, Pt.slots] at X3 l3 y3 z3 st3 hQ3
  subst l3 y3 z3
  obtain ⟨rfl, Nq3, eq3⟩ := hQ3
  have N3 := Fr.app N2 Nq3
  obtain ⟨fs, hr, hrun, hended, hW, hsame⟩ := X3.leave (v := some (.int (1 : Int32))) (fun h => by rw [Bd.returns] at h; cases h)
  refine ⟨_, _, pre0 _ ?_, hrun, hended, _, _, rfl, ?_, ⟨_, rfl⟩, hW, hsame.mono (by decide) (by decide)⟩
  · show Sp p e below s₁ (mkF m 0 #[.val (.int p0), .val (.int p1), .val (.int p2), .unset, .unset, .unset, .unset, .unset, .unset, .unset] []) _
    refine XS.iloadN X0.here hx rfl (hb hby at_0) rfl ?_
    show Sp p e below s₁ (mkF m 1 #[.val (.int p0), .val (.int p1), .val (.int p2), .unset, .unset, .unset, .unset, .unset, .unset, .unset] [(.int p0)]) _
    refine X0.ldcI hx hown (mvT hZ (hw _ (List.mem_of_getElem? (i := 0) rfl))) rfl (hb hby at_1) ?_
    show Sp p e below s₁ (mkF m 3 #[.val (.int p0), .val (.int p1), .val (.int p2), .unset, .unset, .unset, .unset, .unset, .unset, .unset] [(.int (2147483647 : Int32)), (.int p0)]) _
    refine XS.iand X0.here hx rfl (hb hby at_3) rfl ?_
    show Sp p e below s₁ (mkF m 4 #[.val (.int p0), .val (.int p1), .val (.int p2), .unset, .unset, .unset, .unset, .unset, .unset, .unset] [(.int (p0 &&& (2147483647 : Int32)))]) _
    refine XS.iconst X0.here hx rfl (hb hby at_4) ?_
    show Sp p e below s₁ (mkF m 5 #[.val (.int p0), .val (.int p1), .val (.int p2), .unset, .unset, .unset, .unset, .unset, .unset, .unset] [(.int (5 : Int32)), (.int (p0 &&& (2147483647 : Int32)))]) _
    refine iremM X0 hx rfl (hb hby at_5) rfl (by decide) ?_
    show Sp p e below s₁ (mkF m 6 #[.val (.int p0), .val (.int p1), .val (.int p2), .unset, .unset, .unset, .unset, .unset, .unset, .unset] [(.int ((p0 &&& (2147483647 : Int32)) % (5 : Int32)))]) _
    refine XS.istoreN X0.here hx rfl (hb hby at_6) rfl (l' := #[.val (.int p0), .val (.int p1), .val (.int p2), .val (.int ((p0 &&& (2147483647 : Int32)) % (5 : Int32))), .unset, .unset, .unset, .unset, .unset, .unset]) rfl ?_
    show Sp p e below s₁ (mkF m 7 #[.val (.int p0), .val (.int p1), .val (.int p2), .val (.int ((p0 &&& (2147483647 : Int32)) % (5 : Int32))), .unset, .unset, .unset, .unset, .unset, .unset] []) _
    refine XS.iloadN X0.here hx rfl (hb hby at_7) rfl ?_
    show Sp p e below s₁ (mkF m 8 #[.val (.int p0), .val (.int p1), .val (.int p2), .val (.int ((p0 &&& (2147483647 : Int32)) % (5 : Int32))), .unset, .unset, .unset, .unset, .unset, .unset] [(.int p1)]) _
    refine XS.iconst X0.here hx rfl (hb hby at_8) ?_
    show Sp p e below s₁ (mkF m 9 #[.val (.int p0), .val (.int p1), .val (.int p2), .val (.int ((p0 &&& (2147483647 : Int32)) % (5 : Int32))), .unset, .unset, .unset, .unset, .unset, .unset] [(.int (3 : Int32)), (.int p1)]) _
    refine XS.iand X0.here hx rfl (hb hby at_9) rfl ?_
    show Sp p e below s₁ (mkF m 10 #[.val (.int p0), .val (.int p1), .val (.int p2), .val (.int ((p0 &&& (2147483647 : Int32)) % (5 : Int32))), .unset, .unset, .unset, .unset, .unset, .unset] [(.int (p1 &&& (3 : Int32)))]) _
    refine XS.istore X0.here hx rfl (hb hby at_10) rfl (l' := #[.val (.int p0), .val (.int p1), .val (.int p2), .val (.int ((p0 &&& (2147483647 : Int32)) % (5 : Int32))), .val (.int (p1 &&& (3 : Int32))), .unset, .unset, .unset, .unset, .unset]) rfl ?_
    show Sp p e below s₁ (mkF m 12 #[.val (.int p0), .val (.int p1), .val (.int p2), .val (.int ((p0 &&& (2147483647 : Int32)) % (5 : Int32))), .val (.int (p1 &&& (3 : Int32))), .unset, .unset, .unset, .unset, .unset] []) _
    refine st1 _ ?_
    show Sp p e below s₁ (mkF m 58 #[.val (.int p0), .val (.int p1), .val (.int p2), .val (.int ((p0 &&& (2147483647 : Int32)) % (5 : Int32))), .val (.int (p1 &&& (3 : Int32))), .val (.int z5), .unset, .unset, .unset, .unset] []) _
    refine XS.iloadN X0.here hx rfl (hb hby at_58) rfl ?_
    show Sp p e below s₁ (mkF m 59 #[.val (.int p0), .val (.int p1), .val (.int p2), .val (.int ((p0 &&& (2147483647 : Int32)) % (5 : Int32))), .val (.int (p1 &&& (3 : Int32))), .val (.int z5), .unset, .unset, .unset, .unset] [(.int ((p0 &&& (2147483647 : Int32)) % (5 : Int32)))]) _
    refine st2 _ ?_
    show Sp p e below T2 (mkF m 62 #[.val (.int p0), .val (.int p1), .val (.int p2), .val (.int ((p0 &&& (2147483647 : Int32)) % (5 : Int32))), .val (.int (p1 &&& (3 : Int32))), .val (.int z5), .unset, .unset, .unset, .unset] [(.ref w_AES_128_GCM)]) _
    refine XS.astore X2.here hx rfl (hb hby at_62) rfl rfl (l' := #[.val (.int p0), .val (.int p1), .val (.int p2), .val (.int ((p0 &&& (2147483647 : Int32)) % (5 : Int32))), .val (.int (p1 &&& (3 : Int32))), .val (.int z5), .val (.ref w_AES_128_GCM), .unset, .unset, .unset]) rfl ?_
    show Sp p e below T2 (mkF m 64 #[.val (.int p0), .val (.int p1), .val (.int p2), .val (.int ((p0 &&& (2147483647 : Int32)) % (5 : Int32))), .val (.int (p1 &&& (3 : Int32))), .val (.int z5), .val (.ref w_AES_128_GCM), .unset, .unset, .unset] []) _
    refine XS.iloadN X2.here hx rfl (hb hby at_64) rfl ?_
    show Sp p e below T2 (mkF m 65 #[.val (.int p0), .val (.int p1), .val (.int p2), .val (.int ((p0 &&& (2147483647 : Int32)) % (5 : Int32))), .val (.int (p1 &&& (3 : Int32))), .val (.int z5), .val (.ref w_AES_128_GCM), .unset, .unset, .unset] [(.int ((p0 &&& (2147483647 : Int32)) % (5 : Int32)))]) _
    refine XS.ifYes X2.here hx rfl (pc0 := 65) (pc' := 83) rfl (hb hby at_65) rfl ((if0 _ _).trans (teq hc2).1) (by decide) (by decide) ?_
    show Sp p e below T2 (mkF m 83 #[.val (.int p0), .val (.int p1), .val (.int p2), .val (.int ((p0 &&& (2147483647 : Int32)) % (5 : Int32))), .val (.int (p1 &&& (3 : Int32))), .val (.int z5), .val (.ref w_AES_128_GCM), .unset, .unset, .unset] []) _
    refine XS.iconst X2.here hx rfl (hb hby at_83) ?_
    show Sp p e below T2 (mkF m 84 #[.val (.int p0), .val (.int p1), .val (.int p2), .val (.int ((p0 &&& (2147483647 : Int32)) % (5 : Int32))), .val (.int (p1 &&& (3 : Int32))), .val (.int z5), .val (.ref w_AES_128_GCM), .unset, .unset, .unset] [(.int (1 : Int32))]) _
    refine XS.goto X2.here hx rfl (pc0 := 84) (pc' := 88) rfl (hb hby at_84) (by decide) (by decide) ?_
    show Sp p e below T2 (mkF m 88 #[.val (.int p0), .val (.int p1), .val (.int p2), .val (.int ((p0 &&& (2147483647 : Int32)) % (5 : Int32))), .val (.int (p1 &&& (3 : Int32))), .val (.int z5), .val (.ref w_AES_128_GCM), .unset, .unset, .unset] [(.int (1 : Int32))]) _
    refine XS.istore X2.here hx rfl (hb hby at_88) rfl (l' := #[.val (.int p0), .val (.int p1), .val (.int p2), .val (.int ((p0 &&& (2147483647 : Int32)) % (5 : Int32))), .val (.int (p1 &&& (3 : Int32))), .val (.int z5), .val (.ref w_AES_128_GCM), .val (.int (1 : Int32)), .unset, .unset]) rfl ?_
    show Sp p e below T2 (mkF m 90 #[.val (.int p0), .val (.int p1), .val (.int p2), .val (.int ((p0 &&& (2147483647 : Int32)) % (5 : Int32))), .val (.int (p1 &&& (3 : Int32))), .val (.int z5), .val (.ref w_AES_128_GCM), .val (.int (1 : Int32)), .unset, .unset] []) _
    refine XS.iloadN X2.here hx rfl (hb hby at_90) rfl ?_
    show Sp p e below T2 (mkF m 91 #[.val (.int p0), .val (.int p1), .val (.int p2), .val (.int ((p0 &&& (2147483647 : Int32)) % (5 : Int32))), .val (.int (p1 &&& (3 : Int32))), .val (.int z5), .val (.ref w_AES_128_GCM), .val (.int (1 : Int32)), .unset, .unset] [(.int ((p0 &&& (2147483647 : Int32)) % (5 : Int32)))]) _
    refine XS.iconst X2.here hx rfl (hb hby at_91) ?_
    show Sp p e below T2 (mkF m 92 #[.val (.int p0), .val (.int p1), .val (.int p2), .val (.int ((p0 &&& (2147483647 : Int32)) % (5 : Int32))), .val (.int (p1 &&& (3 : Int32))), .val (.int z5), .val (.ref w_AES_128_GCM), .val (.int (1 : Int32)), .unset, .unset] [(.int (1 : Int32)), (.int ((p0 &&& (2147483647 : Int32)) % (5 : Int32)))]) _
    refine XS.icmpNo X2.here hx rfl (hb hby at_92) rfl (feq (by rw [hc2]; decide : ¬ (((p0 &&& (2147483647 : Int32)) % (5 : Int32)) = (1 : Int32)))).1 ?_
    show Sp p e below T2 (mkF m 95 #[.val (.int p0), .val (.int p1), .val (.int p2), .val (.int ((p0 &&& (2147483647 : Int32)) % (5 : Int32))), .val (.int (p1 &&& (3 : Int32))), .val (.int z5), .val (.ref w_AES_128_GCM), .val (.int (1 : Int32)), .unset, .unset] []) _
    refine XS.iloadN X2.here hx rfl (hb hby at_95) rfl ?_
    show Sp p e below T2 (mkF m 96 #[.val (.int p0), .val (.int p1), .val (.int p2), .val (.int ((p0 &&& (2147483647 : Int32)) % (5 : Int32))), .val (.int (p1 &&& (3 : Int32))), .val (.int z5), .val (.ref w_AES_128_GCM), .val (.int (1 : Int32)), .unset, .unset] [(.int ((p0 &&& (2147483647 : Int32)) % (5 : Int32)))]) _
    refine XS.iconst X2.here hx rfl (hb hby at_96) ?_
    show Sp p e below T2 (mkF m 97 #[.val (.int p0), .val (.int p1), .val (.int p2), .val (.int ((p0 &&& (2147483647 : Int32)) % (5 : Int32))), .val (.int (p1 &&& (3 : Int32))), .val (.int z5), .val (.ref w_AES_128_GCM), .val (.int (1 : Int32)), .unset, .unset] [(.int (2 : Int32)), (.int ((p0 &&& (2147483647 : Int32)) % (5 : Int32)))]) _
    refine XS.icmpNo X2.here hx rfl (hb hby at_97) rfl (feq (by rw [hc2]; decide : ¬ (((p0 &&& (2147483647 : Int32)) % (5 : Int32)) = (2 : Int32)))).1 ?_
    show Sp p e below T2 (mkF m 100 #[.val (.int p0), .val (.int p1), .val (.int p2), .val (.int ((p0 &&& (2147483647 : Int32)) % (5 : Int32))), .val (.int (p1 &&& (3 : Int32))), .val (.int z5), .val (.ref w_AES_128_GCM), .val (.int (1 : Int32)), .unset, .unset] []) _
    refine XS.iloadN X2.here hx rfl (hb hby at_100) rfl ?_
    show Sp p e below T2 (mkF m 101 #[.val (.int p0), .val (.int p1), .val (.int p2), .val (.int ((p0 &&& (2147483647 : Int32)) % (5 : Int32))), .val (.int (p1 &&& (3 : Int32))), .val (.int z5), .val (.ref w_AES_128_GCM), .val (.int (1 : Int32)), .unset, .unset] [(.int ((p0 &&& (2147483647 : Int32)) % (5 : Int32)))]) _
    refine XS.iconst X2.here hx rfl (hb hby at_101) ?_
    show Sp p e below T2 (mkF m 102 #[.val (.int p0), .val (.int p1), .val (.int p2), .val (.int ((p0 &&& (2147483647 : Int32)) % (5 : Int32))), .val (.int (p1 &&& (3 : Int32))), .val (.int z5), .val (.ref w_AES_128_GCM), .val (.int (1 : Int32)), .unset, .unset] [(.int (4 : Int32)), (.int ((p0 &&& (2147483647 : Int32)) % (5 : Int32)))]) _
    refine XS.icmpYes X2.here hx rfl (pc0 := 102) (pc' := 109) rfl (hb hby at_102) rfl (feq (by rw [hc2]; decide : ¬ (((p0 &&& (2147483647 : Int32)) % (5 : Int32)) = (4 : Int32)))).2 (by decide) (by decide) ?_
    show Sp p e below T2 (mkF m 109 #[.val (.int p0), .val (.int p1), .val (.int p2), .val (.int ((p0 &&& (2147483647 : Int32)) % (5 : Int32))), .val (.int (p1 &&& (3 : Int32))), .val (.int z5), .val (.ref w_AES_128_GCM), .val (.int (1 : Int32)), .unset, .unset] []) _
    refine XS.iconst X2.here hx rfl (hb hby at_109) ?_
    show Sp p e below T2 (mkF m 110 #[.val (.int p0), .val (.int p1), .val (.int p2), .val (.int ((p0 &&& (2147483647 : Int32)) % (5 : Int32))), .val (.int (p1 &&& (3 : Int32))), .val (.int z5), .val (.ref w_AES_128_GCM), .val (.int (1 : Int32)), .unset, .unset] [(.int (0 : Int32))]) _
    refine XS.istore X2.here hx rfl (hb hby at_110) rfl (l' := #[.val (.int p0), .val (.int p1), .val (.int p2), .val (.int ((p0 &&& (2147483647 : Int32)) % (5 : Int32))), .val (.int (p1 &&& (3 : Int32))), .val (.int z5), .val (.ref w_AES_128_GCM), .val (.int (1 : Int32)), .val (.int (0 : Int32)), .unset]) rfl ?_
    show Sp p e below T2 (mkF m 112 #[.val (.int p0), .val (.int p1), .val (.int p2), .val (.int ((p0 &&& (2147483647 : Int32)) % (5 : Int32))), .val (.int (p1 &&& (3 : Int32))), .val (.int z5), .val (.ref w_AES_128_GCM), .val (.int (1 : Int32)), .val (.int (0 : Int32)), .unset] []) _
    refine XS.iload X2.here hx rfl (hb hby at_112) rfl ?_
    show Sp p e below T2 (mkF m 114 #[.val (.int p0), .val (.int p1), .val (.int p2), .val (.int ((p0 &&& (2147483647 : Int32)) % (5 : Int32))), .val (.int (p1 &&& (3 : Int32))), .val (.int z5), .val (.ref w_AES_128_GCM), .val (.int (1 : Int32)), .val (.int (0 : Int32)), .unset] [(.int z5)]) _
    refine XS.bipush X2.here hx rfl (hb hby at_114) ?_
    show Sp p e below T2 (mkF m 116 #[.val (.int p0), .val (.int p1), .val (.int p2), .val (.int ((p0 &&& (2147483647 : Int32)) % (5 : Int32))), .val (.int (p1 &&& (3 : Int32))), .val (.int z5), .val (.ref w_AES_128_GCM), .val (.int (1 : Int32)), .val (.int (0 : Int32)), .unset] [(.int (16 : Int32)), (.int z5)]) _
    refine XS.icmpYes X2.here hx rfl (pc0 := 116) (pc' := 124) rfl (hb hby at_116) rfl (feq hc3).2 (by decide) (by decide) ?_
    show Sp p e below T2 (mkF m 124 #[.val (.int p0), .val (.int p1), .val (.int p2), .val (.int ((p0 &&& (2147483647 : Int32)) % (5 : Int32))), .val (.int (p1 &&& (3 : Int32))), .val (.int z5), .val (.ref w_AES_128_GCM), .val (.int (1 : Int32)), .val (.int (0 : Int32)), .unset] []) _
    refine XS.iload X2.here hx rfl (hb hby at_124) rfl ?_
    show Sp p e below T2 (mkF m 126 #[.val (.int p0), .val (.int p1), .val (.int p2), .val (.int ((p0 &&& (2147483647 : Int32)) % (5 : Int32))), .val (.int (p1 &&& (3 : Int32))), .val (.int z5), .val (.ref w_AES_128_GCM), .val (.int (1 : Int32)), .val (.int (0 : Int32)), .unset] [(.int z5)]) _
    refine XS.bipush X2.here hx rfl (hb hby at_126) ?_
    show Sp p e below T2 (mkF m 128 #[.val (.int p0), .val (.int p1), .val (.int p2), .val (.int ((p0 &&& (2147483647 : Int32)) % (5 : Int32))), .val (.int (p1 &&& (3 : Int32))), .val (.int z5), .val (.ref w_AES_128_GCM), .val (.int (1 : Int32)), .val (.int (0 : Int32)), .unset] [(.int (32 : Int32)), (.int z5)]) _
    refine XS.icmpNo X2.here hx rfl (hb hby at_128) rfl (teq hc4).2 ?_
    show Sp p e below T2 (mkF m 131 #[.val (.int p0), .val (.int p1), .val (.int p2), .val (.int ((p0 &&& (2147483647 : Int32)) % (5 : Int32))), .val (.int (p1 &&& (3 : Int32))), .val (.int z5), .val (.ref w_AES_128_GCM), .val (.int (1 : Int32)), .val (.int (0 : Int32)), .unset] []) _
    refine XS.iload X2.here hx rfl (hb hby at_131) rfl ?_
    show Sp p e below T2 (mkF m 133 #[.val (.int p0), .val (.int p1), .val (.int p2), .val (.int ((p0 &&& (2147483647 : Int32)) % (5 : Int32))), .val (.int (p1 &&& (3 : Int32))), .val (.int z5), .val (.ref w_AES_128_GCM), .val (.int (1 : Int32)), .val (.int (0 : Int32)), .unset] [(.int (0 : Int32))]) _
    refine XS.ifYes X2.here hx rfl (pc0 := 133) (pc' := 140) rfl (hb hby at_133) rfl ((if0 _ _).trans (teq (by decide : (0 : Int32) = (0 : Int32))).1) (by decide) (by decide) ?_
    show Sp p e below T2 (mkF m 140 #[.val (.int p0), .val (.int p1), .val (.int p2), .val (.int ((p0 &&& (2147483647 : Int32)) % (5 : Int32))), .val (.int (p1 &&& (3 : Int32))), .val (.int z5), .val (.ref w_AES_128_GCM), .val (.int (1 : Int32)), .val (.int (0 : Int32)), .unset] []) _
    refine XS.iconst X2.here hx rfl (hb hby at_140) ?_
    show Sp p e below T2 (mkF m 141 #[.val (.int p0), .val (.int p1), .val (.int p2), .val (.int ((p0 &&& (2147483647 : Int32)) % (5 : Int32))), .val (.int (p1 &&& (3 : Int32))), .val (.int z5), .val (.ref w_AES_128_GCM), .val (.int (1 : Int32)), .val (.int (0 : Int32)), .unset] [(.int (0 : Int32))]) _
    refine XS.istore X2.here hx rfl (hb hby at_141) rfl (l' := #[.val (.int p0), .val (.int p1), .val (.int p2), .val (.int ((p0 &&& (2147483647 : Int32)) % (5 : Int32))), .val (.int (p1 &&& (3 : Int32))), .val (.int z5), .val (.ref w_AES_128_GCM), .val (.int (1 : Int32)), .val (.int (0 : Int32)), .val (.int (0 : Int32))]) rfl ?_
    show Sp p e below T2 (mkF m 143 #[.val (.int p0), .val (.int p1), .val (.int p2), .val (.int ((p0 &&& (2147483647 : Int32)) % (5 : Int32))), .val (.int (p1 &&& (3 : Int32))), .val (.int z5), .val (.ref w_AES_128_GCM), .val (.int (1 : Int32)), .val (.int (0 : Int32)), .val (.int (0 : Int32))] []) _
    refine XS.aload X2.here hx rfl (hb hby at_143) rfl rfl ?_
    show Sp p e below T2 (mkF m 145 #[.val (.int p0), .val (.int p1), .val (.int p2), .val (.int ((p0 &&& (2147483647 : Int32)) % (5 : Int32))), .val (.int (p1 &&& (3 : Int32))), .val (.int z5), .val (.ref w_AES_128_GCM), .val (.int (1 : Int32)), .val (.int (0 : Int32)), .val (.int (0 : Int32))] [(.ref w_AES_128_GCM)]) _
    refine XS.iload X2.here hx rfl (hb hby at_145) rfl ?_
    show Sp p e below T2 (mkF m 147 #[.val (.int p0), .val (.int p1), .val (.int p2), .val (.int ((p0 &&& (2147483647 : Int32)) % (5 : Int32))), .val (.int (p1 &&& (3 : Int32))), .val (.int z5), .val (.ref w_AES_128_GCM), .val (.int (1 : Int32)), .val (.int (0 : Int32)), .val (.int (0 : Int32))] [(.int z5), (.ref w_AES_128_GCM)]) _
    refine st3.trans ?_
    show Sp p e below T3 (mkF m 150 #[.val (.int p0), .val (.int p1), .val (.int p2), .val (.int ((p0 &&& (2147483647 : Int32)) % (5 : Int32))), .val (.int (p1 &&& (3 : Int32))), .val (.int z5), .val (.ref w_AES_128_GCM), .val (.int (1 : Int32)), .val (.int (0 : Int32)), .val (.int (0 : Int32))] [(.int (0 : Int32))]) _
    refine XS.iload X3.here hx rfl (hb hby at_150) rfl ?_
    show Sp p e below T3 (mkF m 152 #[.val (.int p0), .val (.int p1), .val (.int p2), .val (.int ((p0 &&& (2147483647 : Int32)) % (5 : Int32))), .val (.int (p1 &&& (3 : Int32))), .val (.int z5), .val (.ref w_AES_128_GCM), .val (.int (1 : Int32)), .val (.int (0 : Int32)), .val (.int (0 : Int32))] [(.int (0 : Int32)), (.int (0 : Int32))]) _
    refine XS.icmpNo X3.here hx rfl (hb hby at_152) rfl (teq (by decide : (0 : Int32) = (0 : Int32))).2 ?_
    show Sp p e below T3 (mkF m 155 #[.val (.int p0), .val (.int p1), .val (.int p2), .val (.int ((p0 &&& (2147483647 : Int32)) % (5 : Int32))), .val (.int (p1 &&& (3 : Int32))), .val (.int z5), .val (.ref w_AES_128_GCM), .val (.int (1 : Int32)), .val (.int (0 : Int32)), .val (.int (0 : Int32))] []) _
    refine XS.iconst X3.here hx rfl (hb hby at_155) ?_
    show Sp p e below T3 (mkF m 156 #[.val (.int p0), .val (.int p1), .val (.int p2), .val (.int ((p0 &&& (2147483647 : Int32)) % (5 : Int32))), .val (.int (p1 &&& (3 : Int32))), .val (.int z5), .val (.ref w_AES_128_GCM), .val (.int (1 : Int32)), .val (.int (0 : Int32)), .val (.int (0 : Int32))] [(.int (1 : Int32))]) _
    refine XS.goto X3.here hx rfl (pc0 := 156) (pc' := 160) rfl (hb hby at_156) (by decide) (by decide) ?_
    show Sp p e below T3 (mkF m 160 #[.val (.int p0), .val (.int p1), .val (.int p2), .val (.int ((p0 &&& (2147483647 : Int32)) % (5 : Int32))), .val (.int (p1 &&& (3 : Int32))), .val (.int z5), .val (.ref w_AES_128_GCM), .val (.int (1 : Int32)), .val (.int (0 : Int32)), .val (.int (0 : Int32))] [(.int (1 : Int32))]) _
    exact retN X3 hx (t := .boolean) Bd.returns (by simp) (hb hby at_160) hr
  · skip
    exact ⟨rfl, N3⟩
set_option maxRecDepth 65536 in
set_option maxHeartbeats 40000000 in
theorem rm32 (l : Launch) (Z : State) (a0 : Array Value) (hw : ∀ d ∈ tables_1, d.before a0 Z = true) (ws : List Jvm.Cond) (w_AES_128_GCM w_AES_256_GCM w_AES_CBC_PKCS5PADDING w_AES_128_CBC w_AES_GCM_NOPADDING kl_AES_128_GCM kl_AES_256_GCM kl_AES_CBC_PKCS5PADDING kl_AES_128_CBC kl_AES_GCM_NOPADDING : Addr) (k_kl_AES_128_GCM : ClassId) (k_kl_AES_256_GCM : ClassId) (k_kl_AES_CBC_PKCS5PADDING : ClassId) (k_kl_AES_128_CBC : ClassId) (k_kl_AES_GCM_NOPADDING : ClassId) (hp : Perm Z w_AES_128_GCM w_AES_256_GCM w_AES_CBC_PKCS5PADDING w_AES_128_CBC w_AES_GCM_NOPADDING kl_AES_128_GCM kl_AES_256_GCM kl_AES_CBC_PKCS5PADDING kl_AES_128_CBC kl_AES_GCM_NOPADDING k_kl_AES_128_GCM k_kl_AES_256_GCM k_kl_AES_CBC_PKCS5PADDING k_kl_AES_128_CBC k_kl_AES_GCM_NOPADDING) (p0 : Int32) (p1 : Int32) (p2 : Int32) (z5 : Int32) (h0 : Heap) (n0 : Nat) (O0 : Old Z n0 h0) (hcut : Cut_0_12 p0 p1 p2 ((p0 &&& (2147483647 : Int32)) % (5 : Int32)) (p1 &&& (3 : Int32)) z5) (hc2 : ((p0 &&& (2147483647 : Int32)) % (5 : Int32)) = (0 : Int32)) (hc3 : ¬ (z5 = (16 : Int32))) (hc4 : ¬ (z5 = (32 : Int32))) :
    MetFree l x (head1 (Jvm.Cond.code x code maxLocals ret :: ws) room_1) (fun a U => a = #[(.int p0), (.int p1), (.int p2)] ∧ Z.Warmed39 U.vm ∧ U.heap = h0) (fun _ _ _ _ _ => True) (fun _ U o U' => ∃ v L, o = .returned v ∧ (v = some (.int (1 : Int32)) ∧ Fr n0 L) ∧ FrameEnd U o U' L 0 0) := by
  refine MetFree.of_bodySF (plainFor_of_name pn_1) hisR ?_
  intro p e s m args below meth c s₁ Bd hml0 hP hK
  obtain ⟨rfl, hZ, hh⟩ := hP
  have hx := Bd.exec
  have hby := Bd.bytes
  have hml : c.maxLocals = 10 := hml0
  have hown : s.vm.findClass "com/example/cloakfield/cloakfield/crypto/EncryptionAlgorithmAcceptsKeyLengthPinLaw" = some m.cls := findClass_of_methodNamed Bd.named
  have hnm := (name_of_methodNamed Bd.named Bd.method).1
  have X0 : Stand p l e room_1 s m #[(.int p0), (.int p1), (.int p2)] below meth c s₁ [] 0 0 := Stand.of_body Bd
  have e0 : s₁.heap = h0 := by rw [← hh, Bd.state]; rfl
  have N0 := Fr.nil n0
  have hp' := hp
  obtain ⟨S_w_AES_128_GCM, E_w_AES_128_GCM, S_w_AES_256_GCM, E_w_AES_256_GCM, S_w_AES_CBC_PKCS5PADDING, E_w_AES_CBC_PKCS5PADDING, S_w_AES_128_CBC, E_w_AES_128_CBC, S_w_AES_GCM_NOPADDING, E_w_AES_GCM_NOPADDING, F_keyLengths_w_AES_128_GCM, V_kl_AES_128_GCM, F_keyLengths_w_AES_256_GCM, V_kl_AES_256_GCM, F_keyLengths_w_AES_CBC_PKCS5PADDING, V_kl_AES_CBC_PKCS5PADDING, F_keyLengths_w_AES_128_CBC, V_kl_AES_128_CBC, F_keyLengths_w_AES_GCM_NOPADDING, V_kl_AES_GCM_NOPADDING⟩ := hp'
  have pre0 : ∀ t, Steps p.tables e below (s₁.setTop (mkF m 0 #[.val (.int p0), .val (.int p1), .val (.int p2), .unset, .unset, .unset, .unset, .unset, .unset, .unset] [])) t → Steps p.tables e below (s₁.setTop (entryFrame m #[(.int p0), (.int p1), (.int p2)] maxLocals)) t := fun t k => castTop (ef_0_0 m p0 p1 p2) k
  have st1 := hcut X0 hx hZ hw hby hown
  obtain ⟨_, _, ⟨T2, L2, k2, n2⟩, -, X2, ⟨Lc2, hQ2, l2, y2, z2⟩, st2⟩ := Jvm.LawKit.callS X0 hx (y := y0) hown (mvT hZ (hw _ (List.mem_of_getElem? (i := 1) rfl))) (mvT hZ (hw _ (List.mem_of_getElem? (i := 2) rfl))) (mvT hZ (hw _ (List.mem_of_getElem? (i := 3) rfl))) (mvT hZ (hw _ (List.mem_of_getElem? (i := 4) rfl))) (by decide) (backOf (W := 0) (rm1 l Z a0 hw [] w_AES_128_GCM w_AES_256_GCM w_AES_CBC_PKCS5PADDING w_AES_128_CBC w_AES_GCM_NOPADDING kl_AES_128_GCM kl_AES_256_GCM kl_AES_CBC_PKCS5PADDING kl_AES_128_CBC kl_AES_GCM_NOPADDING k_kl_AES_128_GCM k_kl_AES_256_GCM k_kl_AES_CBC_PKCS5PADDING k_kl_AES_128_CBC k_kl_AES_GCM_NOPADDING hp ((p0 &&& (2147483647 : Int32)) % (5 : Int32)) h0 n0 O0 hc2) hZ (hw _ (List.mem_of_getElem? (i := 4) rfl)) (hw _ (List.mem_of_getElem? (i := 3) rfl)) (by decide) (by decide)) (g := (mkF m 59 #[.val (.int p0), .val (.int p1), .val (.int p2), .val (.int ((p0 &&& (2147483647 : Int32)) % (5 : Int32))), .val (.int (p1 &&& (3 : Int32))), .val (.int z5), .unset, .unset, .unset, .unset] [(.int ((p0 &&& (2147483647 : Int32)) % (5 : Int32)))])) rfl (by rw [hml]; rfl) (argsL := [(.int ((p0 &&& (2147483647 : Int32)) % (5 : Int32)))]) (rest := []) (lenOf pd_0 rfl) rfl (by show 2 * 0 + _ ≤ _; exact Nat.le_of_eq rfl) (hb hby at_59) (fun _ _ => ⟨rfl, e0, (by decide : 0 + 0 ≤ _), (by decide : 0 + 0 ≤ _)⟩)
  dsimp only [Pt.U, Pt.locs, Pt.cells, Pt.slots] at X2 l2 y2 z2 st2 hQ2
  subst l2 y2 z2
  obtain ⟨rfl, Nq2, eq2⟩ := hQ2
  have N2 := Fr.app N0 Nq2
  obtain ⟨cq3, kq3, q3a, q3b, q3c⟩ := isOf hZ eq2 (E_w_AES_128_GCM.ext O0.2)
  obtain ⟨_, _, ⟨T3, L3, k3, n3⟩, -, X3, ⟨Lc3, hQ3, l3, y3, z3⟩, st3⟩ := X2.virtualBack hx (y := y1) (z := y1) hown (mvT hZ (hw _ (List.mem_of_getElem? (i := 8) rfl))) (mvT hZ (hw _ (List.mem_of_getElem? (i := 9) rfl))) (notFace_of_selects (args := #[]) (mvT hZ (hw _ (List.mem_of_getElem? (i := 11) rfl)))) (mvT hZ (hw _ (List.mem_of_getElem? (i := 11) rfl))) (mvT hZ (hw _ (List.mem_of_getElem? (i := 10) rfl))) (by decide) (backOf (W := 0) (rm30 l Z a0 hw [] w_AES_128_GCM w_AES_256_GCM w_AES_CBC_PKCS5PADDING w_AES_128_CBC w_AES_GCM_NOPADDING kl_AES_128_GCM kl_AES_256_GCM kl_AES_CBC_PKCS5PADDING kl_AES_128_CBC kl_AES_GCM_NOPADDING k_kl_AES_128_GCM k_kl_AES_256_GCM k_kl_AES_CBC_PKCS5PADDING k_kl_AES_128_CBC k_kl_AES_GCM_NOPADDING hp z5 h0 n0 O0 hc3) hZ (hw _ (List.mem_of_getElem? (i := 12) rfl)) (hw _ (List.mem_of_getElem? (i := 6) rfl)) (by decide) (by decide)) q3a q3c (g := (mkF m 147 #[.val (.int p0), .val (.int p1), .val (.int p2), .val (.int ((p0 &&& (2147483647 : Int32)) % (5 : Int32))), .val (.int (p1 &&& (3 : Int32))), .val (.int z5), .val (.ref w_AES_128_GCM), .val (.int (1 : Int32)), .val (.int (0 : Int32)), .val (.int (0 : Int32))] [(.int z5), (.ref w_AES_128_GCM)])) rfl (by rw [hml]; rfl) (Steps.refl _) (argsL := [(.int z5)]) (rest := []) (lenOf pd_1 rfl) rfl (by show 2 * 0 + _ ≤ _; exact Nat.le_of_eq rfl) (hb hby at_147) (fun _ _ => ⟨rfl, eq2, (by decide : 0 + 0 ≤ _), (by decide : 0 + 0 ≤ _)⟩)
  dsimp only [Pt.U, Pt.locs, Pt.cells, Pt.slots] at X3 l3 y3 z3 st3 hQ3
  subst l3 y3 z3
  obtain ⟨rfl, Nq3, eq3⟩ := hQ3
  have N3 := Fr.app N2 Nq3
  obtain ⟨fs, hr, hrun, hended, hW, hsame⟩ := X3.leave (v := some (.int (1 : Int32))) (fun h => by rw [Bd.returns] at h; cases h)
  refine ⟨_, _, pre0 _ ?_, hrun, hended, _, _, rfl, ?_, ⟨_, rfl⟩, hW, hsame.mono (by decide) (by decide)⟩
  · show Sp p e below s₁ (mkF m 0 #[.val (.int p0), .val (.int p1), .val (.int p2), .unset, .unset, .unset, .unset, .unset, .unset, .unset] []) _
    refine XS.iloadN X0.here hx rfl (hb hby at_0) rfl ?_
    show Sp p e below s₁ (mkF m 1 #[.val (.int p0), .val (.int p1), .val (.int p2), .unset, .unset, .unset, .unset, .unset, .unset, .unset] [(.int p0)]) _
    refine X0.ldcI hx hown (mvT hZ (hw _ (List.mem_of_getElem? (i := 0) rfl))) rfl (hb hby at_1) ?_
    show Sp p e below s₁ (mkF m 3 #[.val (.int p0), .val (.int p1), .val (.int p2), .unset, .unset, .unset, .unset, .unset, .unset, .unset] [(.int (2147483647 : Int32)), (.int p0)]) _
    refine XS.iand X0.here hx rfl (hb hby at_3) rfl ?_
    show Sp p e below s₁ (mkF m 4 #[.val (.int p0), .val (.int p1), .val (.int p2), .unset, .unset, .unset, .unset, .unset, .unset, .unset] [(.int (p0 &&& (2147483647 : Int32)))]) _
    refine XS.iconst X0.here hx rfl (hb hby at_4) ?_
    show Sp p e below s₁ (mkF m 5 #[.val (.int p0), .val (.int p1), .val (.int p2), .unset, .unset, .unset, .unset, .unset, .unset, .unset] [(.int (5 : Int32)), (.int (p0 &&& (2147483647 : Int32)))]) _
    refine iremM X0 hx rfl (hb hby at_5) rfl (by decide) ?_
    show Sp p e below s₁ (mkF m 6 #[.val (.int p0), .val (.int p1), .val (.int p2), .unset, .unset, .unset, .unset, .unset, .unset, .unset] [(.int ((p0 &&& (2147483647 : Int32)) % (5 : Int32)))]) _
    refine XS.istoreN X0.here hx rfl (hb hby at_6) rfl (l' := #[.val (.int p0), .val (.int p1), .val (.int p2), .val (.int ((p0 &&& (2147483647 : Int32)) % (5 : Int32))), .unset, .unset, .unset, .unset, .unset, .unset]) rfl ?_
    show Sp p e below s₁ (mkF m 7 #[.val (.int p0), .val (.int p1), .val (.int p2), .val (.int ((p0 &&& (2147483647 : Int32)) % (5 : Int32))), .unset, .unset, .unset, .unset, .unset, .unset] []) _
    refine XS.iloadN X0.here hx rfl (hb hby at_7) rfl ?_
    show Sp p e below s₁ (mkF m 8 #[.val (.int p0), .val (.int p1), .val (.int p2), .val (.int ((p0 &&& (2147483647 : Int32)) % (5 : Int32))), .unset, .unset, .unset, .unset, .unset, .unset] [(.int p1)]) _
    refine XS.iconst X0.here hx rfl (hb hby at_8) ?_
    show Sp p e below s₁ (mkF m 9 #[.val (.int p0), .val (.int p1), .val (.int p2), .val (.int ((p0 &&& (2147483647 : Int32)) % (5 : Int32))), .unset, .unset, .unset, .unset, .unset, .unset] [(.int (3 : Int32)), (.int p1)]) _
    refine XS.iand X0.here hx rfl (hb hby at_9) rfl ?_
    show Sp p e below s₁ (mkF m 10 #[.val (.int p0), .val (.int p1), .val (.int p2), .val (.int ((p0 &&& (2147483647 : Int32)) % (5 : Int32))), .unset, .unset, .unset, .unset, .unset, .unset] [(.int (p1 &&& (3 : Int32)))]) _
    refine XS.istore X0.here hx rfl (hb hby at_10) rfl (l' := #[.val (.int p0), .val (.int p1), .val (.int p2), .val (.int ((p0 &&& (2147483647 : Int32)) % (5 : Int32))), .val (.int (p1 &&& (3 : Int32))), .unset, .unset, .unset, .unset, .unset]) rfl ?_
    show Sp p e below s₁ (mkF m 12 #[.val (.int p0), .val (.int p1), .val (.int p2), .val (.int ((p0 &&& (2147483647 : Int32)) % (5 : Int32))), .val (.int (p1 &&& (3 : Int32))), .unset, .unset, .unset, .unset, .unset] []) _
    refine st1 _ ?_
    show Sp p e below s₁ (mkF m 58 #[.val (.int p0), .val (.int p1), .val (.int p2), .val (.int ((p0 &&& (2147483647 : Int32)) % (5 : Int32))), .val (.int (p1 &&& (3 : Int32))), .val (.int z5), .unset, .unset, .unset, .unset] []) _
    refine XS.iloadN X0.here hx rfl (hb hby at_58) rfl ?_
    show Sp p e below s₁ (mkF m 59 #[.val (.int p0), .val (.int p1), .val (.int p2), .val (.int ((p0 &&& (2147483647 : Int32)) % (5 : Int32))), .val (.int (p1 &&& (3 : Int32))), .val (.int z5), .unset, .unset, .unset, .unset] [(.int ((p0 &&& (2147483647 : Int32)) % (5 : Int32)))]) _
    refine st2 _ ?_
    show Sp p e below T2 (mkF m 62 #[.val (.int p0), .val (.int p1), .val (.int p2), .val (.int ((p0 &&& (2147483647 : Int32)) % (5 : Int32))), .val (.int (p1 &&& (3 : Int32))), .val (.int z5), .unset, .unset, .unset, .unset] [(.ref w_AES_128_GCM)]) _
    refine XS.astore X2.here hx rfl (hb hby at_62) rfl rfl (l' := #[.val (.int p0), .val (.int p1), .val (.int p2), .val (.int ((p0 &&& (2147483647 : Int32)) % (5 : Int32))), .val (.int (p1 &&& (3 : Int32))), .val (.int z5), .val (.ref w_AES_128_GCM), .unset, .unset, .unset]) rfl ?_
    show Sp p e below T2 (mkF m 64 #[.val (.int p0), .val (.int p1), .val (.int p2), .val (.int ((p0 &&& (2147483647 : Int32)) % (5 : Int32))), .val (.int (p1 &&& (3 : Int32))), .val (.int z5), .val (.ref w_AES_128_GCM), .unset, .unset, .unset] []) _
    refine XS.iloadN X2.here hx rfl (hb hby at_64) rfl ?_
    show Sp p e below T2 (mkF m 65 #[.val (.int p0), .val (.int p1), .val (.int p2), .val (.int ((p0 &&& (2147483647 : Int32)) % (5 : Int32))), .val (.int (p1 &&& (3 : Int32))), .val (.int z5), .val (.ref w_AES_128_GCM), .unset, .unset, .unset] [(.int ((p0 &&& (2147483647 : Int32)) % (5 : Int32)))]) _
    refine XS.ifYes X2.here hx rfl (pc0 := 65) (pc' := 83) rfl (hb hby at_65) rfl ((if0 _ _).trans (teq hc2).1) (by decide) (by decide) ?_
    show Sp p e below T2 (mkF m 83 #[.val (.int p0), .val (.int p1), .val (.int p2), .val (.int ((p0 &&& (2147483647 : Int32)) % (5 : Int32))), .val (.int (p1 &&& (3 : Int32))), .val (.int z5), .val (.ref w_AES_128_GCM), .unset, .unset, .unset] []) _
    refine XS.iconst X2.here hx rfl (hb hby at_83) ?_
    show Sp p e below T2 (mkF m 84 #[.val (.int p0), .val (.int p1), .val (.int p2), .val (.int ((p0 &&& (2147483647 : Int32)) % (5 : Int32))), .val (.int (p1 &&& (3 : Int32))), .val (.int z5), .val (.ref w_AES_128_GCM), .unset, .unset, .unset] [(.int (1 : Int32))]) _
    refine XS.goto X2.here hx rfl (pc0 := 84) (pc' := 88) rfl (hb hby at_84) (by decide) (by decide) ?_
    show Sp p e below T2 (mkF m 88 #[.val (.int p0), .val (.int p1), .val (.int p2), .val (.int ((p0 &&& (2147483647 : Int32)) % (5 : Int32))), .val (.int (p1 &&& (3 : Int32))), .val (.int z5), .val (.ref w_AES_128_GCM), .unset, .unset, .unset] [(.int (1 : Int32))]) _
    refine XS.istore X2.here hx rfl (hb hby at_88) rfl (l' := #[.val (.int p0), .val (.int p1), .val (.int p2), .val (.int ((p0 &&& (2147483647 : Int32)) % (5 : Int32))), .val (.int (p1 &&& (3 : Int32))), .val (.int z5), .val (.ref w_AES_128_GCM), .val (.int (1 : Int32)), .unset, .unset]) rfl ?_
    show Sp p e below T2 (mkF m 90 #[.val (.int p0), .val (.int p1), .val (.int p2), .val (.int ((p0 &&& (2147483647 : Int32)) % (5 : Int32))), .val (.int (p1 &&& (3 : Int32))), .val (.int z5), .val (.ref w_AES_128_GCM), .val (.int (1 : Int32)), .unset, .unset] []) _
    refine XS.iloadN X2.here hx rfl (hb hby at_90) rfl ?_
    show Sp p e below T2 (mkF m 91 #[.val (.int p0), .val (.int p1), .val (.int p2), .val (.int ((p0 &&& (2147483647 : Int32)) % (5 : Int32))), .val (.int (p1 &&& (3 : Int32))), .val (.int z5), .val (.ref w_AES_128_GCM), .val (.int (1 : Int32)), .unset, .unset] [(.int ((p0 &&& (2147483647 : Int32)) % (5 : Int32)))]) _
    refine XS.iconst X2.here hx rfl (hb hby at_91) ?_
    show Sp p e below T2 (mkF m 92 #[.val (.int p0), .val (.int p1), .val (.int p2), .val (.int ((p0 &&& (2147483647 : Int32)) % (5 : Int32))), .val (.int (p1 &&& (3 : Int32))), .val (.int z5), .val (.ref w_AES_128_GCM), .val (.int (1 : Int32)), .unset, .unset] [(.int (1 : Int32)), (.int ((p0 &&& (2147483647 : Int32)) % (5 : Int32)))]) _
    refine XS.icmpNo X2.here hx rfl (hb hby at_92) rfl (feq (by rw [hc2]; decide : ¬ (((p0 &&& (2147483647 : Int32)) % (5 : Int32)) = (1 : Int32)))).1 ?_
    show Sp p e below T2 (mkF m 95 #[.val (.int p0), .val (.int p1), .val (.int p2), .val (.int ((p0 &&& (2147483647 : Int32)) % (5 : Int32))), .val (.int (p1 &&& (3 : Int32))), .val (.int z5), .val (.ref w_AES_128_GCM), .val (.int (1 : Int32)), .unset, .unset] []) _
    refine XS.iloadN X2.here hx rfl (hb hby at_95) rfl ?_
    show Sp p e below T2 (mkF m 96 #[.val (.int p0), .val (.int p1), .val (.int p2), .val (.int ((p0 &&& (2147483647 : Int32)) % (5 : Int32))), .val (.int (p1 &&& (3 : Int32))), .val (.int z5), .val (.ref w_AES_128_GCM), .val (.int (1 : Int32)), .unset, .unset] [(.int ((p0 &&& (2147483647 : Int32)) % (5 : Int32)))]) _
    refine XS.iconst X2.here hx rfl (hb hby at_96) ?_
    show Sp p e below T2 (mkF m 97 #[.val (.int p0), .val (.int p1), .val (.int p2), .val (.int ((p0 &&& (2147483647 : Int32)) % (5 : Int32))), .val (.int (p1 &&& (3 : Int32))), .val (.int z5), .val (.ref w_AES_128_GCM), .val (.int (1 : Int32)), .unset, .unset] [(.int (2 : Int32)), (.int ((p0 &&& (2147483647 : Int32)) % (5 : Int32)))]) _
    refine XS.icmpNo X2.here hx rfl (hb hby at_97) rfl (feq (by rw [hc2]; decide : ¬ (((p0 &&& (2147483647 : Int32)) % (5 : Int32)) = (2 : Int32)))).1 ?_
    show Sp p e below T2 (mkF m 100 #[.val (.int p0), .val (.int p1), .val (.int p2), .val (.int ((p0 &&& (2147483647 : Int32)) % (5 : Int32))), .val (.int (p1 &&& (3 : Int32))), .val (.int z5), .val (.ref w_AES_128_GCM), .val (.int (1 : Int32)), .unset, .unset] []) _
    refine XS.iloadN X2.here hx rfl (hb hby at_100) rfl ?_
    show Sp p e below T2 (mkF m 101 #[.val (.int p0), .val (.int p1), .val (.int p2), .val (.int ((p0 &&& (2147483647 : Int32)) % (5 : Int32))), .val (.int (p1 &&& (3 : Int32))), .val (.int z5), .val (.ref w_AES_128_GCM), .val (.int (1 : Int32)), .unset, .unset] [(.int ((p0 &&& (2147483647 : Int32)) % (5 : Int32)))]) _
    refine XS.iconst X2.here hx rfl (hb hby at_101) ?_
    show Sp p e below T2 (mkF m 102 #[.val (.int p0), .val (.int p1), .val (.int p2), .val (.int ((p0 &&& (2147483647 : Int32)) % (5 : Int32))), .val (.int (p1 &&& (3 : Int32))), .val (.int z5), .val (.ref w_AES_128_GCM), .val (.int (1 : Int32)), .unset, .unset] [(.int (4 : Int32)), (.int ((p0 &&& (2147483647 : Int32)) % (5 : Int32)))]) _
    refine XS.icmpYes X2.here hx rfl (pc0 := 102) (pc' := 109) rfl (hb hby at_102) rfl (feq (by rw [hc2]; decide : ¬ (((p0 &&& (2147483647 : Int32)) % (5 : Int32)) = (4 : Int32)))).2 (by decide) (by decide) ?_
    show Sp p e below T2 (mkF m 109 #[.val (.int p0), .val (.int p1), .val (.int p2), .val (.int ((p0 &&& (2147483647 : Int32)) % (5 : Int32))), .val (.int (p1 &&& (3 : Int32))), .val (.int z5), .val (.ref w_AES_128_GCM), .val (.int (1 : Int32)), .unset, .unset] []) _
    refine XS.iconst X2.here hx rfl (hb hby at_109) ?_
    show Sp p e below T2 (mkF m 110 #[.val (.int p0), .val (.int p1), .val (.int p2), .val (.int ((p0 &&& (2147483647 : Int32)) % (5 : Int32))), .val (.int (p1 &&& (3 : Int32))), .val (.int z5), .val (.ref w_AES_128_GCM), .val (.int (1 : Int32)), .unset, .unset] [(.int (0 : Int32))]) _
    refine XS.istore X2.here hx rfl (hb hby at_110) rfl (l' := #[.val (.int p0), .val (.int p1), .val (.int p2), .val (.int ((p0 &&& (2147483647 : Int32)) % (5 : Int32))), .val (.int (p1 &&& (3 : Int32))), .val (.int z5), .val (.ref w_AES_128_GCM), .val (.int (1 : Int32)), .val (.int (0 : Int32)), .unset]) rfl ?_
    show Sp p e below T2 (mkF m 112 #[.val (.int p0), .val (.int p1), .val (.int p2), .val (.int ((p0 &&& (2147483647 : Int32)) % (5 : Int32))), .val (.int (p1 &&& (3 : Int32))), .val (.int z5), .val (.ref w_AES_128_GCM), .val (.int (1 : Int32)), .val (.int (0 : Int32)), .unset] []) _
    refine XS.iload X2.here hx rfl (hb hby at_112) rfl ?_
    show Sp p e below T2 (mkF m 114 #[.val (.int p0), .val (.int p1), .val (.int p2), .val (.int ((p0 &&& (2147483647 : Int32)) % (5 : Int32))), .val (.int (p1 &&& (3 : Int32))), .val (.int z5), .val (.ref w_AES_128_GCM), .val (.int (1 : Int32)), .val (.int (0 : Int32)), .unset] [(.int z5)]) _
    refine XS.bipush X2.here hx rfl (hb hby at_114) ?_
    show Sp p e below T2 (mkF m 116 #[.val (.int p0), .val (.int p1), .val (.int p2), .val (.int ((p0 &&& (2147483647 : Int32)) % (5 : Int32))), .val (.int (p1 &&& (3 : Int32))), .val (.int z5), .val (.ref w_AES_128_GCM), .val (.int (1 : Int32)), .val (.int (0 : Int32)), .unset] [(.int (16 : Int32)), (.int z5)]) _
    refine XS.icmpYes X2.here hx rfl (pc0 := 116) (pc' := 124) rfl (hb hby at_116) rfl (feq hc3).2 (by decide) (by decide) ?_
    show Sp p e below T2 (mkF m 124 #[.val (.int p0), .val (.int p1), .val (.int p2), .val (.int ((p0 &&& (2147483647 : Int32)) % (5 : Int32))), .val (.int (p1 &&& (3 : Int32))), .val (.int z5), .val (.ref w_AES_128_GCM), .val (.int (1 : Int32)), .val (.int (0 : Int32)), .unset] []) _
    refine XS.iload X2.here hx rfl (hb hby at_124) rfl ?_
    show Sp p e below T2 (mkF m 126 #[.val (.int p0), .val (.int p1), .val (.int p2), .val (.int ((p0 &&& (2147483647 : Int32)) % (5 : Int32))), .val (.int (p1 &&& (3 : Int32))), .val (.int z5), .val (.ref w_AES_128_GCM), .val (.int (1 : Int32)), .val (.int (0 : Int32)), .unset] [(.int z5)]) _
    refine XS.bipush X2.here hx rfl (hb hby at_126) ?_
    show Sp p e below T2 (mkF m 128 #[.val (.int p0), .val (.int p1), .val (.int p2), .val (.int ((p0 &&& (2147483647 : Int32)) % (5 : Int32))), .val (.int (p1 &&& (3 : Int32))), .val (.int z5), .val (.ref w_AES_128_GCM), .val (.int (1 : Int32)), .val (.int (0 : Int32)), .unset] [(.int (32 : Int32)), (.int z5)]) _
    refine XS.icmpYes X2.here hx rfl (pc0 := 128) (pc' := 140) rfl (hb hby at_128) rfl (feq hc4).2 (by decide) (by decide) ?_
    show Sp p e below T2 (mkF m 140 #[.val (.int p0), .val (.int p1), .val (.int p2), .val (.int ((p0 &&& (2147483647 : Int32)) % (5 : Int32))), .val (.int (p1 &&& (3 : Int32))), .val (.int z5), .val (.ref w_AES_128_GCM), .val (.int (1 : Int32)), .val (.int (0 : Int32)), .unset] []) _
    refine XS.iconst X2.here hx rfl (hb hby at_140) ?_
    show Sp p e below T2 (mkF m 141 #[.val (.int p0), .val (.int p1), .val (.int p2), .val (.int ((p0 &&& (2147483647 : Int32)) % (5 : Int32))), .val (.int (p1 &&& (3 : Int32))), .val (.int z5), .val (.ref w_AES_128_GCM), .val (.int (1 : Int32)), .val (.int (0 : Int32)), .unset] [(.int (0 : Int32))]) _
    refine XS.istore X2.here hx rfl (hb hby at_141) rfl (l' := #[.val (.int p0), .val (.int p1), .val (.int p2), .val (.int ((p0 &&& (2147483647 : Int32)) % (5 : Int32))), .val (.int (p1 &&& (3 : Int32))), .val (.int z5), .val (.ref w_AES_128_GCM), .val (.int (1 : Int32)), .val (.int (0 : Int32)), .val (.int (0 : Int32))]) rfl ?_
    show Sp p e below T2 (mkF m 143 #[.val (.int p0), .val (.int p1), .val (.int p2), .val (.int ((p0 &&& (2147483647 : Int32)) % (5 : Int32))), .val (.int (p1 &&& (3 : Int32))), .val (.int z5), .val (.ref w_AES_128_GCM), .val (.int (1 : Int32)), .val (.int (0 : Int32)), .val (.int (0 : Int32))] []) _
    refine XS.aload X2.here hx rfl (hb hby at_143) rfl rfl ?_
    show Sp p e below T2 (mkF m 145 #[.val (.int p0), .val (.int p1), .val (.int p2), .val (.int ((p0 &&& (2147483647 : Int32)) % (5 : Int32))), .val (.int (p1 &&& (3 : Int32))), .val (.int z5), .val (.ref w_AES_128_GCM), .val (.int (1 : Int32)), .val (.int (0 : Int32)), .val (.int (0 : Int32))] [(.ref w_AES_128_GCM)]) _
    refine XS.iload X2.here hx rfl (hb hby at_145) rfl ?_
    show Sp p e below T2 (mkF m 147 #[.val (.int p0), .val (.int p1), .val (.int p2), .val (.int ((p0 &&& (2147483647 : Int32)) % (5 : Int32))), .val (.int (p1 &&& (3 : Int32))), .val (.int z5), .val (.ref w_AES_128_GCM), .val (.int (1 : Int32)), .val (.int (0 : Int32)), .val (.int (0 : Int32))] [(.int z5), (.ref w_AES_128_GCM)]) _
    refine st3.trans ?_
    show Sp p e below T3 (mkF m 150 #[.val (.int p0), .val (.int p1), .val (.int p2), .val (.int ((p0 &&& (2147483647 : Int32)) % (5 : Int32))), .val (.int (p1 &&& (3 : Int32))), .val (.int z5), .val (.ref w_AES_128_GCM), .val (.int (1 : Int32)), .val (.int (0 : Int32)), .val (.int (0 : Int32))] [(.int (0 : Int32))]) _
    refine XS.iload X3.here hx rfl (hb hby at_150) rfl ?_
    show Sp p e below T3 (mkF m 152 #[.val (.int p0), .val (.int p1), .val (.int p2), .val (.int ((p0 &&& (2147483647 : Int32)) % (5 : Int32))), .val (.int (p1 &&& (3 : Int32))), .val (.int z5), .val (.ref w_AES_128_GCM), .val (.int (1 : Int32)), .val (.int (0 : Int32)), .val (.int (0 : Int32))] [(.int (0 : Int32)), (.int (0 : Int32))]) _
    refine XS.icmpNo X3.here hx rfl (hb hby at_152) rfl (teq (by decide : (0 : Int32) = (0 : Int32))).2 ?_
    show Sp p e below T3 (mkF m 155 #[.val (.int p0), .val (.int p1), .val (.int p2), .val (.int ((p0 &&& (2147483647 : Int32)) % (5 : Int32))), .val (.int (p1 &&& (3 : Int32))), .val (.int z5), .val (.ref w_AES_128_GCM), .val (.int (1 : Int32)), .val (.int (0 : Int32)), .val (.int (0 : Int32))] []) _
    refine XS.iconst X3.here hx rfl (hb hby at_155) ?_
    show Sp p e below T3 (mkF m 156 #[.val (.int p0), .val (.int p1), .val (.int p2), .val (.int ((p0 &&& (2147483647 : Int32)) % (5 : Int32))), .val (.int (p1 &&& (3 : Int32))), .val (.int z5), .val (.ref w_AES_128_GCM), .val (.int (1 : Int32)), .val (.int (0 : Int32)), .val (.int (0 : Int32))] [(.int (1 : Int32))]) _
    refine XS.goto X3.here hx rfl (pc0 := 156) (pc' := 160) rfl (hb hby at_156) (by decide) (by decide) ?_
    show Sp p e below T3 (mkF m 160 #[.val (.int p0), .val (.int p1), .val (.int p2), .val (.int ((p0 &&& (2147483647 : Int32)) % (5 : Int32))), .val (.int (p1 &&& (3 : Int32))), .val (.int z5), .val (.ref w_AES_128_GCM), .val (.int (1 : Int32)), .val (.int (0 : Int32)), .val (.int (0 : Int32))] [(.int (1 : Int32))]) _
    exact retN X3 hx (t := .boolean) Bd.returns (by simp) (hb hby at_160) hr
  · skip
    exact ⟨rfl, N3⟩
set_option maxRecDepth 65536 in
set_option maxHeartbeats 4000000 in
theorem rm_law (l : Launch) (Z : State) (a0 : Array Value) (hw : ∀ d ∈ tables_1, d.before a0 Z = true) (ws : List Jvm.Cond) (w_AES_128_GCM w_AES_256_GCM w_AES_CBC_PKCS5PADDING w_AES_128_CBC w_AES_GCM_NOPADDING kl_AES_128_GCM kl_AES_256_GCM kl_AES_CBC_PKCS5PADDING kl_AES_128_CBC kl_AES_GCM_NOPADDING : Addr) (k_kl_AES_128_GCM : ClassId) (k_kl_AES_256_GCM : ClassId) (k_kl_AES_CBC_PKCS5PADDING : ClassId) (k_kl_AES_128_CBC : ClassId) (k_kl_AES_GCM_NOPADDING : ClassId) (hp : Perm Z w_AES_128_GCM w_AES_256_GCM w_AES_CBC_PKCS5PADDING w_AES_128_CBC w_AES_GCM_NOPADDING kl_AES_128_GCM kl_AES_256_GCM kl_AES_CBC_PKCS5PADDING kl_AES_128_CBC kl_AES_GCM_NOPADDING k_kl_AES_128_GCM k_kl_AES_256_GCM k_kl_AES_CBC_PKCS5PADDING k_kl_AES_128_CBC k_kl_AES_GCM_NOPADDING) (p0 : Int32) (p1 : Int32) (p2 : Int32) (h0 : Heap) (n0 : Nat) (O0 : Old Z n0 h0) :
    MetFree l x (head1 (Jvm.Cond.code x code maxLocals ret :: ws) room_1) (fun a U => a = #[(.int p0), (.int p1), (.int p2)] ∧ Z.Warmed39 U.vm ∧ U.heap = h0) (fun _ _ _ _ _ => True) (fun _ U o U' => ∃ v L, o = .returned v ∧ (v = some (.int (1 : Int32)) ∧ Fr n0 L) ∧ FrameEnd U o U' L 0 0) := by
  obtain ⟨z5, hcut⟩ := cut_0_12 p0 p1 p2 ((p0 &&& (2147483647 : Int32)) % (5 : Int32)) (p1 &&& (3 : Int32))
  by_cases d0 : ((p0 &&& (2147483647 : Int32)) % (5 : Int32)) = (0 : Int32)
  · skip
    by_cases d1 : z5 = (16 : Int32)
    · skip
      exact rm3 l Z a0 hw ws w_AES_128_GCM w_AES_256_GCM w_AES_CBC_PKCS5PADDING w_AES_128_CBC w_AES_GCM_NOPADDING kl_AES_128_GCM kl_AES_256_GCM kl_AES_CBC_PKCS5PADDING kl_AES_128_CBC kl_AES_GCM_NOPADDING k_kl_AES_128_GCM k_kl_AES_256_GCM k_kl_AES_CBC_PKCS5PADDING k_kl_AES_128_CBC k_kl_AES_GCM_NOPADDING hp p0 p1 p2 z5 h0 n0 O0 hcut d0 d1
    · skip
      by_cases d2 : z5 = (32 : Int32)
      · skip
        exact rm31 l Z a0 hw ws w_AES_128_GCM w_AES_256_GCM w_AES_CBC_PKCS5PADDING w_AES_128_CBC w_AES_GCM_NOPADDING kl_AES_128_GCM kl_AES_256_GCM kl_AES_CBC_PKCS5PADDING kl_AES_128_CBC kl_AES_GCM_NOPADDING k_kl_AES_128_GCM k_kl_AES_256_GCM k_kl_AES_CBC_PKCS5PADDING k_kl_AES_128_CBC k_kl_AES_GCM_NOPADDING hp p0 p1 p2 z5 h0 n0 O0 hcut d0 d1 d2
      · skip
        exact rm32 l Z a0 hw ws w_AES_128_GCM w_AES_256_GCM w_AES_CBC_PKCS5PADDING w_AES_128_CBC w_AES_GCM_NOPADDING kl_AES_128_GCM kl_AES_256_GCM kl_AES_CBC_PKCS5PADDING kl_AES_128_CBC kl_AES_GCM_NOPADDING k_kl_AES_128_GCM k_kl_AES_256_GCM k_kl_AES_CBC_PKCS5PADDING k_kl_AES_128_CBC k_kl_AES_GCM_NOPADDING hp p0 p1 p2 z5 h0 n0 O0 hcut d0 d1 d2
  · skip
    by_cases d1 : ((p0 &&& (2147483647 : Int32)) % (5 : Int32)) = (1 : Int32)
    · skip
      by_cases d2 : z5 = (16 : Int32)
      · skip
        exact rm6 l Z a0 hw ws w_AES_128_GCM w_AES_256_GCM w_AES_CBC_PKCS5PADDING w_AES_128_CBC w_AES_GCM_NOPADDING kl_AES_128_GCM kl_AES_256_GCM kl_AES_CBC_PKCS5PADDING kl_AES_128_CBC kl_AES_GCM_NOPADDING k_kl_AES_128_GCM k_kl_AES_256_GCM k_kl_AES_CBC_PKCS5PADDING k_kl_AES_128_CBC k_kl_AES_GCM_NOPADDING hp p0 p1 p2 z5 h0 n0 O0 hcut d0 d1 d2
      · skip
        by_cases d3 : z5 = (32 : Int32)
        · skip
          exact rm28 l Z a0 hw ws w_AES_128_GCM w_AES_256_GCM w_AES_CBC_PKCS5PADDING w_AES_128_CBC w_AES_GCM_NOPADDING kl_AES_128_GCM kl_AES_256_GCM kl_AES_CBC_PKCS5PADDING kl_AES_128_CBC kl_AES_GCM_NOPADDING k_kl_AES_128_GCM k_kl_AES_256_GCM k_kl_AES_CBC_PKCS5PADDING k_kl_AES_128_CBC k_kl_AES_GCM_NOPADDING hp p0 p1 p2 z5 h0 n0 O0 hcut d0 d1 d2 d3
        · skip
          exact rm29 l Z a0 hw ws w_AES_128_GCM w_AES_256_GCM w_AES_CBC_PKCS5PADDING w_AES_128_CBC w_AES_GCM_NOPADDING kl_AES_128_GCM kl_AES_256_GCM kl_AES_CBC_PKCS5PADDING kl_AES_128_CBC kl_AES_GCM_NOPADDING k_kl_AES_128_GCM k_kl_AES_256_GCM k_kl_AES_CBC_PKCS5PADDING k_kl_AES_128_CBC k_kl_AES_GCM_NOPADDING hp p0 p1 p2 z5 h0 n0 O0 hcut d0 d1 d2 d3
    · skip
      by_cases d2 : ((p0 &&& (2147483647 : Int32)) % (5 : Int32)) = (2 : Int32)
      · skip
        by_cases d3 : z5 = (16 : Int32)
        · skip
          exact rm9 l Z a0 hw ws w_AES_128_GCM w_AES_256_GCM w_AES_CBC_PKCS5PADDING w_AES_128_CBC w_AES_GCM_NOPADDING kl_AES_128_GCM kl_AES_256_GCM kl_AES_CBC_PKCS5PADDING kl_AES_128_CBC kl_AES_GCM_NOPADDING k_kl_AES_128_GCM k_kl_AES_256_GCM k_kl_AES_CBC_PKCS5PADDING k_kl_AES_128_CBC k_kl_AES_GCM_NOPADDING hp p0 p1 p2 z5 h0 n0 O0 hcut d0 d1 d2 d3
        · skip
          by_cases d4 : z5 = (32 : Int32)
          · skip
            exact rm24 l Z a0 hw ws w_AES_128_GCM w_AES_256_GCM w_AES_CBC_PKCS5PADDING w_AES_128_CBC w_AES_GCM_NOPADDING kl_AES_128_GCM kl_AES_256_GCM kl_AES_CBC_PKCS5PADDING kl_AES_128_CBC kl_AES_GCM_NOPADDING k_kl_AES_128_GCM k_kl_AES_256_GCM k_kl_AES_CBC_PKCS5PADDING k_kl_AES_128_CBC k_kl_AES_GCM_NOPADDING hp p0 p1 p2 z5 h0 n0 O0 hcut d0 d1 d2 d3 d4
          · skip
            exact rm26 l Z a0 hw ws w_AES_128_GCM w_AES_256_GCM w_AES_CBC_PKCS5PADDING w_AES_128_CBC w_AES_GCM_NOPADDING kl_AES_128_GCM kl_AES_256_GCM kl_AES_CBC_PKCS5PADDING kl_AES_128_CBC kl_AES_GCM_NOPADDING k_kl_AES_128_GCM k_kl_AES_256_GCM k_kl_AES_CBC_PKCS5PADDING k_kl_AES_128_CBC k_kl_AES_GCM_NOPADDING hp p0 p1 p2 z5 h0 n0 O0 hcut d0 d1 d2 d3 d4
      · skip
        by_cases d3 : ((p0 &&& (2147483647 : Int32)) % (5 : Int32)) = (3 : Int32)
        · skip
          by_cases d4 : z5 = (16 : Int32)
          · skip
            exact rm12 l Z a0 hw ws w_AES_128_GCM w_AES_256_GCM w_AES_CBC_PKCS5PADDING w_AES_128_CBC w_AES_GCM_NOPADDING kl_AES_128_GCM kl_AES_256_GCM kl_AES_CBC_PKCS5PADDING kl_AES_128_CBC kl_AES_GCM_NOPADDING k_kl_AES_128_GCM k_kl_AES_256_GCM k_kl_AES_CBC_PKCS5PADDING k_kl_AES_128_CBC k_kl_AES_GCM_NOPADDING hp p0 p1 p2 z5 h0 n0 O0 hcut d0 d1 d2 d3 d4
          · skip
            by_cases d5 : z5 = (32 : Int32)
            · skip
              exact rm21 l Z a0 hw ws w_AES_128_GCM w_AES_256_GCM w_AES_CBC_PKCS5PADDING w_AES_128_CBC w_AES_GCM_NOPADDING kl_AES_128_GCM kl_AES_256_GCM kl_AES_CBC_PKCS5PADDING kl_AES_128_CBC kl_AES_GCM_NOPADDING k_kl_AES_128_GCM k_kl_AES_256_GCM k_kl_AES_CBC_PKCS5PADDING k_kl_AES_128_CBC k_kl_AES_GCM_NOPADDING hp p0 p1 p2 z5 h0 n0 O0 hcut d0 d1 d2 d3 d4 d5
            · skip
              exact rm22 l Z a0 hw ws w_AES_128_GCM w_AES_256_GCM w_AES_CBC_PKCS5PADDING w_AES_128_CBC w_AES_GCM_NOPADDING kl_AES_128_GCM kl_AES_256_GCM kl_AES_CBC_PKCS5PADDING kl_AES_128_CBC kl_AES_GCM_NOPADDING k_kl_AES_128_GCM k_kl_AES_256_GCM k_kl_AES_CBC_PKCS5PADDING k_kl_AES_128_CBC k_kl_AES_GCM_NOPADDING hp p0 p1 p2 z5 h0 n0 O0 hcut d0 d1 d2 d3 d4 d5
        · skip
          by_cases d4 : z5 = (16 : Int32)
          · skip
            exact rm15 l Z a0 hw ws w_AES_128_GCM w_AES_256_GCM w_AES_CBC_PKCS5PADDING w_AES_128_CBC w_AES_GCM_NOPADDING kl_AES_128_GCM kl_AES_256_GCM kl_AES_CBC_PKCS5PADDING kl_AES_128_CBC kl_AES_GCM_NOPADDING k_kl_AES_128_GCM k_kl_AES_256_GCM k_kl_AES_CBC_PKCS5PADDING k_kl_AES_128_CBC k_kl_AES_GCM_NOPADDING hp p0 p1 p2 z5 h0 n0 O0 hcut d0 d1 d2 d3 d4
          · skip
            by_cases d5 : z5 = (32 : Int32)
            · skip
              exact rm17 l Z a0 hw ws w_AES_128_GCM w_AES_256_GCM w_AES_CBC_PKCS5PADDING w_AES_128_CBC w_AES_GCM_NOPADDING kl_AES_128_GCM kl_AES_256_GCM kl_AES_CBC_PKCS5PADDING kl_AES_128_CBC kl_AES_GCM_NOPADDING k_kl_AES_128_GCM k_kl_AES_256_GCM k_kl_AES_CBC_PKCS5PADDING k_kl_AES_128_CBC k_kl_AES_GCM_NOPADDING hp p0 p1 p2 z5 h0 n0 O0 hcut d0 d1 d2 d3 d4 d5
            · skip
              exact rm19 l Z a0 hw ws w_AES_128_GCM w_AES_256_GCM w_AES_CBC_PKCS5PADDING w_AES_128_CBC w_AES_GCM_NOPADDING kl_AES_128_GCM kl_AES_256_GCM kl_AES_CBC_PKCS5PADDING kl_AES_128_CBC kl_AES_GCM_NOPADDING k_kl_AES_128_GCM k_kl_AES_256_GCM k_kl_AES_CBC_PKCS5PADDING k_kl_AES_128_CBC k_kl_AES_GCM_NOPADDING hp p0 p1 p2 z5 h0 n0 O0 hcut d0 d1 d2 d3 d4 d5
set_option maxRecDepth 65536 in
set_option maxHeartbeats 40000000 in
theorem comes_1 {Post : Tables → Env → Array Value → State → Outcome → State → Prop} (hpost : ∀ tb e args s v u, (limb_1_1.after args s (.returned v) u = true ∧ limb_1_2.after args s (.returned v) u = true ∧ True) → FrameEnd s (.returned v) u (Jvm.fieldLocs frame_1_writes args s ++ Jvm.arrayLocs frame_1_arrays args s ++ Jvm.staticLocs frame_1_statics s) 0 0 → Post tb e args s (.returned v) u) :
    ArmFor flags0 classFile x code maxLocals ret World_1 tables_1 room_1 Calls_1 rest_1 Pre_1 Post := by
  intro l hfl _ _ p e ha hc hk s m args below hf hA hF happ hP
  obtain ⟨hcalls, hrest, hpre⟩ := hP
  obtain ⟨-, -, -, hnamed, -, -, -, hat⟩ := (Spec.applies_iff hf).mp happ
  obtain ⟨hg, hn⟩ := and_e (Cond.before_iff.mp (show (Jvm.Cond.and given_1 narrow_1).before args s = true from hpre))
  obtain ⟨h1, hg⟩ := and_e hg
  obtain ⟨ga0, hg⟩ := and_e hg
  obtain ⟨ga1, hg⟩ := and_e hg
  have ga2 := hg
  obtain ⟨w0, w1, w2, rfl⟩ : ∃ w0 w1 w2 : Value, args = #[w0, w1, w2] := by
    have hs : args.size = 3 := by simpa [Cond.value, given_1] using h1
    obtain ⟨L⟩ := args
    match L, hs with
    | [w0, w1, w2], _ => exact ⟨w0, w1, w2, rfl⟩
  have hw := fun d (hd : d ∈ tables_1) => atoms_spec (ws := Jvm.Cond.code x code maxLocals ret :: tables_1) hat d (List.mem_cons_of_mem _ hd)
  have hfit : Fit s := fun {y c} hc i hi => by
    obtain ⟨ha, rfl⟩ := Array.getElem?_eq_some_iff.mp hc
    have q := List.all_eq_true.mp ((Array.all_eq_true_iff_forall_mem.mp hF) _ (Array.getElem_mem ha)) i (List.mem_range.mpr hi)
    simpa [Array.getElem?_eq_getElem hi] using q
  obtain ⟨i0, ei0⟩ := is_v ga0
  obtain rfl : w0 = (.int i0) := Option.some.inj ei0
  obtain ⟨i1, ei1⟩ := is_v ga1
  obtain rfl : w1 = (.int i1) := Option.some.inj ei1
  obtain ⟨i2, ei2⟩ := is_v ga2
  obtain rfl : w2 = (.int i2) := Option.some.inj ei2
  obtain ⟨nn0, hn⟩ := and_e hn
  obtain ⟨nn1, hn⟩ := and_e hn
  obtain ⟨nn2, hn⟩ := and_e hn
  obtain ⟨nn3, hn⟩ := and_e hn
  obtain ⟨nn4, hn⟩ := and_e hn
  obtain ⟨nn5, hn⟩ := and_e hn
  obtain ⟨nn6, hn⟩ := and_e hn
  obtain ⟨nn7, hn⟩ := and_e hn
  obtain ⟨nn8, hn⟩ := and_e hn
  obtain ⟨nn9, hn⟩ := and_e hn
  obtain ⟨nn10, hn⟩ := and_e hn
  obtain ⟨nn11, hn⟩ := and_e hn
  obtain ⟨nn12, hn⟩ := and_e hn
  obtain ⟨nn13, hn⟩ := and_e hn
  obtain ⟨nn14, hn⟩ := and_e hn
  obtain ⟨nn15, hn⟩ := and_e hn
  obtain ⟨nn16, hn⟩ := and_e hn
  obtain ⟨nn17, hn⟩ := and_e hn
  obtain ⟨nn18, hn⟩ := and_e hn
  obtain ⟨nn19, hn⟩ := and_e hn
  obtain ⟨nn20, hn⟩ := and_e hn
  have nn21 := hn
  obtain ⟨w_AES_128_GCM, ev_w_AES_128_GCM⟩ := exa_v nn0
  have E_w_AES_128_GCM := Exa.start ev_w_AES_128_GCM nn0
  have S_w_AES_128_GCM := Sta.start ev_w_AES_128_GCM (Or.inr ⟨(hw _ (List.mem_of_getElem? (i := 6) rfl)), (hw _ (List.mem_of_getElem? (i := 7) rfl))⟩)
  obtain ⟨w_AES_256_GCM, ev_w_AES_256_GCM⟩ := exa_v nn4
  have E_w_AES_256_GCM := Exa.start ev_w_AES_256_GCM nn4
  have S_w_AES_256_GCM := Sta.start ev_w_AES_256_GCM (Or.inr ⟨(hw _ (List.mem_of_getElem? (i := 6) rfl)), (hw _ (List.mem_of_getElem? (i := 16) rfl))⟩)
  obtain ⟨w_AES_CBC_PKCS5PADDING, ev_w_AES_CBC_PKCS5PADDING⟩ := exa_v nn8
  have E_w_AES_CBC_PKCS5PADDING := Exa.start ev_w_AES_CBC_PKCS5PADDING nn8
  have S_w_AES_CBC_PKCS5PADDING := Sta.start ev_w_AES_CBC_PKCS5PADDING (Or.inr ⟨(hw _ (List.mem_of_getElem? (i := 6) rfl)), (hw _ (List.mem_of_getElem? (i := 18) rfl))⟩)
  obtain ⟨w_AES_128_CBC, ev_w_AES_128_CBC⟩ := exa_v nn13
  have E_w_AES_128_CBC := Exa.start ev_w_AES_128_CBC nn13
  have S_w_AES_128_CBC := Sta.start ev_w_AES_128_CBC (Or.inr ⟨(hw _ (List.mem_of_getElem? (i := 6) rfl)), (hw _ (List.mem_of_getElem? (i := 20) rfl))⟩)
  obtain ⟨w_AES_GCM_NOPADDING, ev_w_AES_GCM_NOPADDING⟩ := exa_v nn17
  have E_w_AES_GCM_NOPADDING := Exa.start ev_w_AES_GCM_NOPADDING nn17
  have S_w_AES_GCM_NOPADDING := Sta.start ev_w_AES_GCM_NOPADDING (Or.inr ⟨(hw _ (List.mem_of_getElem? (i := 6) rfl)), (hw _ (List.mem_of_getElem? (i := 22) rfl))⟩)
  obtain ⟨kl_AES_128_GCM, ev_kl_AES_128_GCM⟩ := arr_v nn1
  have F_keyLengths_w_AES_128_GCM := own_fldv ev_w_AES_128_GCM ev_kl_AES_128_GCM
  obtain ⟨cl_kl_AES_128_GCM, A_kl_AES_128_GCM⟩ := Arr.start ev_kl_AES_128_GCM nn1
  obtain ⟨l_kl_AES_128_GCM, n_kl_AES_128_GCM⟩ := own_valo ev_kl_AES_128_GCM A_kl_AES_128_GCM (Cond.before_iff.mpr nn2)
  have el_kl_AES_128_GCM_0 := own_elem ev_kl_AES_128_GCM A_kl_AES_128_GCM nn3
  obtain ⟨k_kl_AES_128_GCM, V_kl_AES_128_GCM⟩ : ∃ k, Arv s s.heap kl_AES_128_GCM k .int (1 : Int32) [(.int (16 : Int32))] (.int (0 : Int32)) := ⟨_, Arv.start hfit A_kl_AES_128_GCM l_kl_AES_128_GCM n_kl_AES_128_GCM (by decide) rfl ⟨el_kl_AES_128_GCM_0, trivial⟩⟩
  obtain ⟨kl_AES_256_GCM, ev_kl_AES_256_GCM⟩ := arr_v nn5
  have F_keyLengths_w_AES_256_GCM := own_fldv ev_w_AES_256_GCM ev_kl_AES_256_GCM
  obtain ⟨cl_kl_AES_256_GCM, A_kl_AES_256_GCM⟩ := Arr.start ev_kl_AES_256_GCM nn5
  obtain ⟨l_kl_AES_256_GCM, n_kl_AES_256_GCM⟩ := own_valo ev_kl_AES_256_GCM A_kl_AES_256_GCM (Cond.before_iff.mpr nn6)
  have el_kl_AES_256_GCM_0 := own_elem ev_kl_AES_256_GCM A_kl_AES_256_GCM nn7
  obtain ⟨k_kl_AES_256_GCM, V_kl_AES_256_GCM⟩ : ∃ k, Arv s s.heap kl_AES_256_GCM k .int (1 : Int32) [(.int (32 : Int32))] (.int (0 : Int32)) := ⟨_, Arv.start hfit A_kl_AES_256_GCM l_kl_AES_256_GCM n_kl_AES_256_GCM (by decide) rfl ⟨el_kl_AES_256_GCM_0, trivial⟩⟩
  obtain ⟨kl_AES_CBC_PKCS5PADDING, ev_kl_AES_CBC_PKCS5PADDING⟩ := arr_v nn9
  have F_keyLengths_w_AES_CBC_PKCS5PADDING := own_fldv ev_w_AES_CBC_PKCS5PADDING ev_kl_AES_CBC_PKCS5PADDING
  obtain ⟨cl_kl_AES_CBC_PKCS5PADDING, A_kl_AES_CBC_PKCS5PADDING⟩ := Arr.start ev_kl_AES_CBC_PKCS5PADDING nn9
  obtain ⟨l_kl_AES_CBC_PKCS5PADDING, n_kl_AES_CBC_PKCS5PADDING⟩ := own_valo ev_kl_AES_CBC_PKCS5PADDING A_kl_AES_CBC_PKCS5PADDING (Cond.before_iff.mpr nn10)
  have el_kl_AES_CBC_PKCS5PADDING_0 := own_elem ev_kl_AES_CBC_PKCS5PADDING A_kl_AES_CBC_PKCS5PADDING nn11
  have el_kl_AES_CBC_PKCS5PADDING_1 := own_elem ev_kl_AES_CBC_PKCS5PADDING A_kl_AES_CBC_PKCS5PADDING nn12
  obtain ⟨k_kl_AES_CBC_PKCS5PADDING, V_kl_AES_CBC_PKCS5PADDING⟩ : ∃ k, Arv s s.heap kl_AES_CBC_PKCS5PADDING k .int (2 : Int32) [(.int (16 : Int32)), (.int (32 : Int32))] (.int (0 : Int32)) := ⟨_, Arv.start hfit A_kl_AES_CBC_PKCS5PADDING l_kl_AES_CBC_PKCS5PADDING n_kl_AES_CBC_PKCS5PADDING (by decide) rfl ⟨el_kl_AES_CBC_PKCS5PADDING_0, el_kl_AES_CBC_PKCS5PADDING_1, trivial⟩⟩
  obtain ⟨kl_AES_128_CBC, ev_kl_AES_128_CBC⟩ := arr_v nn14
  have F_keyLengths_w_AES_128_CBC := own_fldv ev_w_AES_128_CBC ev_kl_AES_128_CBC
  obtain ⟨cl_kl_AES_128_CBC, A_kl_AES_128_CBC⟩ := Arr.start ev_kl_AES_128_CBC nn14
  obtain ⟨l_kl_AES_128_CBC, n_kl_AES_128_CBC⟩ := own_valo ev_kl_AES_128_CBC A_kl_AES_128_CBC (Cond.before_iff.mpr nn15)
  have el_kl_AES_128_CBC_0 := own_elem ev_kl_AES_128_CBC A_kl_AES_128_CBC nn16
  obtain ⟨k_kl_AES_128_CBC, V_kl_AES_128_CBC⟩ : ∃ k, Arv s s.heap kl_AES_128_CBC k .int (1 : Int32) [(.int (16 : Int32))] (.int (0 : Int32)) := ⟨_, Arv.start hfit A_kl_AES_128_CBC l_kl_AES_128_CBC n_kl_AES_128_CBC (by decide) rfl ⟨el_kl_AES_128_CBC_0, trivial⟩⟩
  obtain ⟨kl_AES_GCM_NOPADDING, ev_kl_AES_GCM_NOPADDING⟩ := arr_v nn18
  have F_keyLengths_w_AES_GCM_NOPADDING := own_fldv ev_w_AES_GCM_NOPADDING ev_kl_AES_GCM_NOPADDING
  obtain ⟨cl_kl_AES_GCM_NOPADDING, A_kl_AES_GCM_NOPADDING⟩ := Arr.start ev_kl_AES_GCM_NOPADDING nn18
  obtain ⟨l_kl_AES_GCM_NOPADDING, n_kl_AES_GCM_NOPADDING⟩ := own_valo ev_kl_AES_GCM_NOPADDING A_kl_AES_GCM_NOPADDING (Cond.before_iff.mpr nn19)
  have el_kl_AES_GCM_NOPADDING_0 := own_elem ev_kl_AES_GCM_NOPADDING A_kl_AES_GCM_NOPADDING nn20
  have el_kl_AES_GCM_NOPADDING_1 := own_elem ev_kl_AES_GCM_NOPADDING A_kl_AES_GCM_NOPADDING nn21
  obtain ⟨k_kl_AES_GCM_NOPADDING, V_kl_AES_GCM_NOPADDING⟩ : ∃ k, Arv s s.heap kl_AES_GCM_NOPADDING k .int (2 : Int32) [(.int (16 : Int32)), (.int (32 : Int32))] (.int (0 : Int32)) := ⟨_, Arv.start hfit A_kl_AES_GCM_NOPADDING l_kl_AES_GCM_NOPADDING n_kl_AES_GCM_NOPADDING (by decide) rfl ⟨el_kl_AES_GCM_NOPADDING_0, el_kl_AES_GCM_NOPADDING_1, trivial⟩⟩
  obtain ⟨n, o, h1, h2, h3, _, L, rfl, ⟨rfl, N⟩, hq⟩ := rm_law l s _ hw tables_1 w_AES_128_GCM w_AES_256_GCM w_AES_CBC_PKCS5PADDING w_AES_128_CBC w_AES_GCM_NOPADDING kl_AES_128_GCM kl_AES_256_GCM kl_AES_CBC_PKCS5PADDING kl_AES_128_CBC kl_AES_GCM_NOPADDING k_kl_AES_128_GCM k_kl_AES_256_GCM k_kl_AES_CBC_PKCS5PADDING k_kl_AES_128_CBC k_kl_AES_GCM_NOPADDING ⟨S_w_AES_128_GCM, E_w_AES_128_GCM, S_w_AES_256_GCM, E_w_AES_256_GCM, S_w_AES_CBC_PKCS5PADDING, E_w_AES_CBC_PKCS5PADDING, S_w_AES_128_CBC, E_w_AES_128_CBC, S_w_AES_GCM_NOPADDING, E_w_AES_GCM_NOPADDING, F_keyLengths_w_AES_128_GCM, V_kl_AES_128_GCM, F_keyLengths_w_AES_256_GCM, V_kl_AES_256_GCM, F_keyLengths_w_AES_CBC_PKCS5PADDING, V_kl_AES_CBC_PKCS5PADDING, F_keyLengths_w_AES_128_CBC, V_kl_AES_128_CBC, F_keyLengths_w_AES_GCM_NOPADDING, V_kl_AES_GCM_NOPADDING⟩ i0 i1 i2 s.heap s.heap.size (Old.start s) p e ha hc hk s m _ below hf ((Spec.applies_iff_loose hf).mp happ).1 ⟨rfl, State.Warmed39.refl s, rfl⟩ trivial
  refine ⟨n, _, h1, h2, h3, hpost _ _ _ _ _ _ ⟨Cond.after_iff.mpr rfl, Cond.after_iff.mpr (eq_i res_at (Term.int_eval (1)) rfl), trivial⟩ ⟨hq.1, hq.2.1, (hq.2.2.sift fun y hy => Or.inr (N y hy)).mono (by decide) (by decide)⟩⟩
theorem main_1_1 : Claimed_1_1 := comes_1 fun _ _ _ _ _ _ h hF => ⟨h.1, hF⟩
theorem main_1_2 : Claimed_1_2 := comes_1 fun _ _ _ _ _ _ h hF => ⟨h.2.1, hF⟩
end Jvm.Pilot.@@N@@
namespace Jvm.Pilot.@@N@@
open Jvm Jvm.ClassFile Sem Op Lib Jvm.Free Jvm.Stand Jvm.Pilot.@@N@@.Jvm.D
/-! MADE BY PROGRAM (witnessworld.py) out of the Statement's table words and the real class files: 12 classes; the members and pool entries that the words name. The judged class is class 1, her method 2. -/
namespace start1
open Jvm.ClassFile
def u (s : String) : CpInfo := .utf8 (stringToUtf16 s)
/-- a pool by its gaps: so many unusable entries, then the entry; so many at the end -/
def gap : Nat → List CpInfo → List CpInfo
  | 0, r => r
  | n + 1, r => .unusable :: gap n r
def poolList (es : List (Nat × CpInfo)) (last : Nat) : List CpInfo := es.foldr (fun e r => gap e.1 (e.2 :: r)) (gap last [])
def pool (es : List (Nat × CpInfo)) (last : Nat) : Array CpInfo := ⟨poolList es last⟩
def fileOf (pool : Array CpInfo) (this : Nat) (attrs : Array Attribute := #[]) (ms : Array MethodInfo := #[]) (fl : Nat := 33) (sup : Nat := 0) (ifs : Array Nat := #[]) (fds : Array FieldInfo := #[]) : ClassFile where
  minorVersion := 0
  majorVersion := 65
  constantPool := pool
  accessFlags := fl
  thisClass := this
  superClass := sup
  interfaces := ifs
  fields := fds
  methods := ms
  attributes := attrs
def plain (name : String) (sup : Option ClassId) : Class where
  name := name
  kind := .ordinary
  loader := none
  accessFlags := 33
  super := sup
  interfaces := #[]
  cf := none
  fields := #[]
  methods := #[]
  instanceTypes := #[]
  staticTypes := #[]
  resolved := #[]
  callSites := []
  init := .initialized
  statics := none
  mirror := none

def pool0 : Array CpInfo := pool [(5, u "<init>"), (0, u "()V"), (1, .class_ 10), (1, u "java/lang/Object")] 113

def k0m0 : Method := { name := "<init>", desc := "()V", sig := { parameters := [], returnType := none }, accessFlags := 1, code := none }
/-- java/lang/Object -/
def k0 : Class := { plain "java/lang/Object" none with
  accessFlags := 33
  interfaces := #[]
  cf := some (fileOf pool0 8 #[] #[{ accessFlags := 1, nameIndex := 5, descriptorIndex := 6, attributes := #[] }] 33 0 #[] #[])
  fields := #[]
  methods := #[k0m0]
  instanceTypes := #[]
  staticTypes := #[]
  resolved := Array.replicate 124 none
  statics := none }

def pool1 : Array CpInfo := pool [(2, .class_ 4), (1, u "java/lang/Object"), (0, u "<init>"), (0, u "()V"), (0, .fieldref 8 9), (0, .class_ 10), (0, .nameAndType 11 12), (0, u "com/example/cloakfield/cloakfield/crypto/EncryptionAlgorithm"), (0, u "AES_128_GCM"), (0, u "Lcom/example/cloakfield/cloakfield/crypto/EncryptionAlgorithm;"), (0, .fieldref 8 14), (0, .nameAndType 15 12), (0, u "AES_256_GCM"), (0, .fieldref 8 17), (0, .nameAndType 18 12), (0, u "AES_GCM_NOPADDING"), (0, .fieldref 8 20), (0, .nameAndType 21 12), (0, u "AES_128_CBC"), (0, .fieldref 8 23), (0, .nameAndType 24 12), (0, u "AES_CBC_PKCS5PADDING"), (0, .integer 2147483647), (0, .methodref 27 28), (0, .class_ 29), (0, .nameAndType 30 31), (0, u "com/example/cloakfield/cloakfield/crypto/EncryptionAlgorithmAcceptsKeyLengthPinLaw"), (0, u "pick"), (0, u "(I)Lcom/example/cloakfield/cloakfield/crypto/EncryptionAlgorithm;"), (0, .methodref 8 33), (0, .nameAndType 34 35), (0, u "acceptsKeyLength"), (0, u "(I)Z"), (3, u "law"), (0, u "(III)Z")] 2

def k1m0 : Method := { name := "<init>", desc := "()V", sig := { parameters := [], returnType := none }, accessFlags := 2, code := none }
def k1c1 : Code := { maxStack := 2, maxLocals := 1, code := method_2_code, exceptionTable := #[], attributes := #[] }
def k1m1 : Method := { name := "pick", desc := "(I)Lcom/example/cloakfield/cloakfield/crypto/EncryptionAlgorithm;", sig := { parameters := [.int], returnType := some (.object "com/example/cloakfield/cloakfield/crypto/EncryptionAlgorithm") }, accessFlags := 10, code := some k1c1 }
def k1c2 : Code := { maxStack := 2, maxLocals := 10, code := code, exceptionTable := #[], attributes := #[] }
def k1m2 : Method := { name := "law", desc := "(III)Z", sig := { parameters := [.int, .int, .int], returnType := some .boolean }, accessFlags := 9, code := some k1c2 }
/-- com/example/cloakfield/cloakfield/crypto/EncryptionAlgorithmAcceptsKeyLengthPinLaw -/
def k1 : Class := { plain "com/example/cloakfield/cloakfield/crypto/EncryptionAlgorithmAcceptsKeyLengthPinLaw" (some 0) with
  accessFlags := 49
  interfaces := #[]
  cf := some (fileOf pool1 27 #[] #[{ accessFlags := 2, nameIndex := 5, descriptorIndex := 6, attributes := #[] }, { accessFlags := 10, nameIndex := 30, descriptorIndex := 31, attributes := #[] }, { accessFlags := 9, nameIndex := 39, descriptorIndex := 40, attributes := #[] }] 49 2 #[] #[])
  fields := #[]
  methods := #[k1m0, k1m1, k1m2]
  instanceTypes := #[]
  staticTypes := #[]
  resolved := Array.replicate 43 none
  statics := none }

def pool2 : Array CpInfo := pool [(1, .class_ 2), (0, u "java/lang/constant/Constable"), (0, .class_ 4), (0, u "java/lang/Object")] 6

/-- java/lang/constant/Constable -/
def k2 : Class := { plain "java/lang/constant/Constable" (some 0) with
  accessFlags := 1537
  interfaces := #[]
  cf := some (fileOf pool2 1 #[] #[] 1537 3 #[] #[])
  fields := #[]
  methods := #[]
  instanceTypes := #[]
  staticTypes := #[]
  resolved := Array.replicate 11 none
  statics := none }

def pool3 : Array CpInfo := pool [(1, .class_ 2), (0, u "java/lang/Comparable"), (0, .class_ 4), (0, u "java/lang/Object")] 7

/-- java/lang/Comparable -/
def k3 : Class := { plain "java/lang/Comparable" (some 0) with
  accessFlags := 1537
  interfaces := #[]
  cf := some (fileOf pool3 1 #[] #[] 1537 3 #[] #[])
  fields := #[]
  methods := #[]
  instanceTypes := #[]
  staticTypes := #[]
  resolved := Array.replicate 12 none
  statics := none }

def pool4 : Array CpInfo := pool [(1, .class_ 2), (0, u "java/io/Serializable"), (0, .class_ 4), (0, u "java/lang/Object")] 2

/-- java/io/Serializable -/
def k4 : Class := { plain "java/io/Serializable" (some 0) with
  accessFlags := 1537
  interfaces := #[]
  cf := some (fileOf pool4 1 #[] #[] 1537 3 #[] #[])
  fields := #[]
  methods := #[]
  instanceTypes := #[]
  staticTypes := #[]
  resolved := Array.replicate 7 none
  statics := none }

def pool5 : Array CpInfo := pool [(2, .class_ 4), (1, u "java/lang/Enum"), (0, u "name"), (0, u "Ljava/lang/String;"), (2, u "ordinal"), (0, u "I"), (1, .class_ 14), (1, u "java/lang/Object"), (4, u "hash"), (86, .class_ 108), (1, u "java/lang/Enum$EnumDesc"), (2, .class_ 112), (0, u "java/lang/constant/Constable"), (0, .class_ 114), (0, u "java/lang/Comparable"), (0, .class_ 116), (0, u "java/io/Serializable")] 87

/-- java/lang/Enum -/
def k5 : Class := { plain "java/lang/Enum" (some 0) with
  accessFlags := 1057
  interfaces := #[2, 3, 4]
  cf := some (fileOf pool5 2 #[.nestMembers #[106]] #[] 1057 12 #[111, 113, 115] #[{ accessFlags := 18, nameIndex := 5, descriptorIndex := 6, attributes := #[] }, { accessFlags := 18, nameIndex := 9, descriptorIndex := 10, attributes := #[] }, { accessFlags := 2, nameIndex := 19, descriptorIndex := 10, attributes := #[] }])
  fields := #[{ name := "name", type := (.object "java/lang/String"), accessFlags := 18, slot := 0, constantValue := 0 }, { name := "ordinal", type := .int, accessFlags := 18, slot := 1, constantValue := 0 }, { name := "hash", type := .int, accessFlags := 2, slot := 2, constantValue := 0 }]
  methods := #[]
  instanceTypes := #[(.object "java/lang/String"), .int, .int]
  staticTypes := #[]
  resolved := Array.replicate 204 none
  statics := none }

def pool6 : Array CpInfo := pool [(1, .class_ 2), (0, u "com/example/cloakfield/cloakfield/crypto/EncryptionAlgorithm"), (2, u "AES_128_GCM"), (0, u "Lcom/example/cloakfield/cloakfield/crypto/EncryptionAlgorithm;"), (2, u "AES_256_GCM"), (2, u "AES_GCM_NOPADDING"), (2, u "AES_128_CBC"), (2, u "AES_CBC_PKCS5PADDING"), (2, u "$VALUES"), (0, u "[Lcom/example/cloakfield/cloakfield/crypto/EncryptionAlgorithm;"), (6, .class_ 31), (1, u "java/lang/Enum"), (8, u "id"), (0, u "Ljava/lang/String;"), (2, u "mode"), (0, u "Lcom/example/cloakfield/cloakfield/crypto/EncryptionAlgorithm$Mode;"), (0, .fieldref 1 47), (0, .nameAndType 48 49), (0, u "keyLengths"), (0, u "[I"), (2, u "ALL"), (11, .class_ 66), (1, u "com/example/cloakfield/cloakfield/crypto/EncryptionAlgorithm$Mode"), (68, u "acceptsKeyLength"), (0, u "(I)Z")] 93

def k6c0 : Code := { maxStack := 2, maxLocals := 6, code := prog_31_method_7_code, exceptionTable := #[], attributes := #[] }
def k6m0 : Method := { name := "acceptsKeyLength", desc := "(I)Z", sig := { parameters := [.int], returnType := some .boolean }, accessFlags := 1, code := some k6c0 }
/-- com/example/cloakfield/cloakfield/crypto/EncryptionAlgorithm -/
def k6 : Class := { plain "com/example/cloakfield/cloakfield/crypto/EncryptionAlgorithm" (some 5) with
  accessFlags := 16433
  interfaces := #[]
  cf := some (fileOf pool6 1 #[.nestMembers #[64]] #[{ accessFlags := 1, nameIndex := 135, descriptorIndex := 136, attributes := #[] }] 16433 29 #[] #[{ accessFlags := 16409, nameIndex := 5, descriptorIndex := 6, attributes := #[] }, { accessFlags := 16409, nameIndex := 9, descriptorIndex := 6, attributes := #[] }, { accessFlags := 16409, nameIndex := 12, descriptorIndex := 6, attributes := #[] }, { accessFlags := 16409, nameIndex := 15, descriptorIndex := 6, attributes := #[] }, { accessFlags := 16409, nameIndex := 18, descriptorIndex := 6, attributes := #[] }, { accessFlags := 26, nameIndex := 52, descriptorIndex := 22, attributes := #[] }, { accessFlags := 18, nameIndex := 40, descriptorIndex := 41, attributes := #[] }, { accessFlags := 18, nameIndex := 44, descriptorIndex := 45, attributes := #[] }, { accessFlags := 18, nameIndex := 48, descriptorIndex := 49, attributes := #[] }, { accessFlags := 4122, nameIndex := 21, descriptorIndex := 22, attributes := #[] }])
  fields := #[{ name := "AES_128_GCM", type := (.object "com/example/cloakfield/cloakfield/crypto/EncryptionAlgorithm"), accessFlags := 16409, slot := 0, constantValue := 0 }, { name := "AES_256_GCM", type := (.object "com/example/cloakfield/cloakfield/crypto/EncryptionAlgorithm"), accessFlags := 16409, slot := 1, constantValue := 0 }, { name := "AES_GCM_NOPADDING", type := (.object "com/example/cloakfield/cloakfield/crypto/EncryptionAlgorithm"), accessFlags := 16409, slot := 2, constantValue := 0 }, { name := "AES_128_CBC", type := (.object "com/example/cloakfield/cloakfield/crypto/EncryptionAlgorithm"), accessFlags := 16409, slot := 3, constantValue := 0 }, { name := "AES_CBC_PKCS5PADDING", type := (.object "com/example/cloakfield/cloakfield/crypto/EncryptionAlgorithm"), accessFlags := 16409, slot := 4, constantValue := 0 }, { name := "ALL", type := (.array (.object "com/example/cloakfield/cloakfield/crypto/EncryptionAlgorithm")), accessFlags := 26, slot := 5, constantValue := 0 }, { name := "id", type := (.object "java/lang/String"), accessFlags := 18, slot := 3, constantValue := 0 }, { name := "mode", type := (.object "com/example/cloakfield/cloakfield/crypto/EncryptionAlgorithm$Mode"), accessFlags := 18, slot := 4, constantValue := 0 }, { name := "keyLengths", type := (.array .int), accessFlags := 18, slot := 5, constantValue := 0 }, { name := "$VALUES", type := (.array (.object "com/example/cloakfield/cloakfield/crypto/EncryptionAlgorithm")), accessFlags := 4122, slot := 6, constantValue := 0 }]
  methods := #[k6m0]
  instanceTypes := #[(.object "java/lang/String"), .int, .int, (.object "java/lang/String"), (.object "com/example/cloakfield/cloakfield/crypto/EncryptionAlgorithm$Mode"), (.array .int)]
  staticTypes := #[(.object "com/example/cloakfield/cloakfield/crypto/EncryptionAlgorithm"), (.object "com/example/cloakfield/cloakfield/crypto/EncryptionAlgorithm"), (.object "com/example/cloakfield/cloakfield/crypto/EncryptionAlgorithm"), (.object "com/example/cloakfield/cloakfield/crypto/EncryptionAlgorithm"), (.object "com/example/cloakfield/cloakfield/crypto/EncryptionAlgorithm"), (.array (.object "com/example/cloakfield/cloakfield/crypto/EncryptionAlgorithm")), (.array (.object "com/example/cloakfield/cloakfield/crypto/EncryptionAlgorithm"))]
  resolved := Array.replicate 230 none
  statics := some 0 }

def pool7 : Array CpInfo := pool [(1, u "java/lang/Cloneable"), (0, .class_ 1), (0, u "java/lang/Object"), (0, .class_ 3)] 3

/-- java/lang/Cloneable -/
def k7 : Class := { plain "java/lang/Cloneable" (some 0) with
  accessFlags := 1537
  interfaces := #[]
  cf := some (fileOf pool7 2 #[] #[] 1537 4 #[] #[])
  fields := #[]
  methods := #[]
  instanceTypes := #[]
  staticTypes := #[]
  resolved := Array.replicate 8 none
  statics := none }

/-- the primitive byte -/
def k8 : Class := { plain "byte" none with kind := .primitive 'B', accessFlags := 0x411 }
/-- [B -/
def k9 : Class := { plain "[B" (some 0) with kind := .array 8 .byte, interfaces := #[7, 4], accessFlags := 1041 }

/-- the primitive int -/
def k10 : Class := { plain "int" none with kind := .primitive 'I', accessFlags := 0x411 }
/-- [I -/
def k11 : Class := { plain "[I" (some 0) with kind := .array 10 .int, interfaces := #[7, 4], accessFlags := 1041 }

def heap : Heap := #[{ cls := 6, slots := #[.ref 1, .ref 2, .ref 5, .ref 4, .ref 3, .null, .null], vm := .statics 6 },
  { cls := 6, slots := #[.null, .int 0, .int 0, .null, .null, .ref 6], vm := .none },
  { cls := 6, slots := #[.null, .int 0, .int 0, .null, .null, .ref 7], vm := .none },
  { cls := 6, slots := #[.null, .int 0, .int 0, .null, .null, .ref 8], vm := .none },
  { cls := 6, slots := #[.null, .int 0, .int 0, .null, .null, .ref 9], vm := .none },
  { cls := 6, slots := #[.null, .int 0, .int 0, .null, .null, .ref 10], vm := .none },
  { cls := 11, slots := #[.int 16], vm := .none },
  { cls := 11, slots := #[.int 32], vm := .none },
  { cls := 11, slots := #[.int 16, .int 32], vm := .none },
  { cls := 11, slots := #[.int 16], vm := .none },
  { cls := 11, slots := #[.int 16, .int 32], vm := .none }]
def classes : Array Class := #[k0, k1, k2, k3, k4, k5, k6, k7, k8, k9, k10, k11]
def interned : List (Array UInt16 × Addr) := []
def slotsUsed : Nat := 44
def theMethod : MethodId := ⟨1, 2⟩
def args0 : Array Value := #[.int 5, .int 1, .int 16]
def aboutOver (below : List Frame) : State where
  vm := { classes := classes, interned := interned.toArray }
  heap := heap
  slotsUsed := slotsUsed
  threads := #[{ frames := .invoking theMethod args0 :: below }]
def below0 : List Frame := [.native { method := ⟨0, 0⟩, args := #[] }]
def about1 : State := aboutOver below0
def p0 : Program := .bare "" "" ""
def e0 : Env := launch0.env 0 0 0
theorem w_frames : about1.frames = Frame.invoking theMethod args0 :: below0 := rfl
set_option maxRecDepth 65536 in
theorem w_args : argsFit about1.vm theMethod args0 = true := by decide +kernel
set_option maxRecDepth 65536 in
theorem w_heap : heapFits about1 = true := by decide +kernel
set_option maxRecDepth 65536 in
theorem w_runnable : about1.curStatus? = some .runnable := by decide +kernel
set_option maxRecDepth 65536 in
theorem w_alone : about1.alone = true := by decide +kernel
set_option maxRecDepth 65536 in
theorem w_named : about1.methodNamed? x = some theMethod := by decide +kernel
set_option maxRecDepth 65536 in
theorem w_hears : about1.hears theMethod below0 = true := by decide +kernel
set_option maxRecDepth 65536 in
theorem w_ripe : about1.ripe theMethod args0 below0 = true := by decide +kernel
theorem w_running : about1.status = .running := rfl
set_option maxRecDepth 65536 in
theorem w_room : about1.hasRoom e0.platform room_1 = true :=
  launch0.hasRoom_least _ room_1 (by decide +kernel) (by decide +kernel) (by decide +kernel) (by decide +kernel) (by decide +kernel) (by decide +kernel)
theorem allAtoms_all (ts : List Jvm.Cond) (a : Array Jvm.Value) (st : Jvm.State) : (allAtoms ts).before a st = ts.all (fun c => c.before a st) := by
  induction ts with
  | nil => rfl
  | cons c t ih =>
    show (Jvm.Cond.and c (allAtoms t)).before a st = _
    rw [Jvm.Cond.before_and, ih, List.all_cons]
def words1 : List Jvm.Cond := Jvm.Cond.code x code maxLocals ret :: tables_1
/-- a 'code' word, met by the world's own term for the bytes: nothing is compared byte by byte -/
theorem code_word {y : MethodName} {bytes : ByteArray} {mx : Nat} {rt : Option FieldType} {a : Array Value} {s : State} {m : MethodId} {meth : Method} {c : Code} (h1 : s.methodNamed? y = some m) (h2 : s.vm.method? m = some meth) (h3 : meth.code = some c) (h4 : c.code = bytes)
    (h5 : (c.maxLocals == mx && c.exceptionTable.isEmpty && decide (c.maxStack ≤ mostOperands) && decide (meth.sig.returnType = rt) && !meth.locks && decide (parseMethodDescriptor y.desc = some meth.sig)) = true) : (Jvm.Cond.code y bytes mx rt).before a s = true := by
  simp only [Bool.and_eq_true, beq_iff_eq, Bool.not_eq_true', decide_eq_true_eq] at h5
  obtain ⟨⟨⟨⟨⟨g1, g2⟩, g3⟩, g4⟩, g5⟩, g6⟩ := h5
  simp [Cond.before, Cond.holds, Cond.value, h1, h2, h3, h4, g1, g2, g3, g4, g5, g6]
def isCode : Jvm.Cond → Bool
  | .code _ _ _ _ => true
  | _ => false
theorem all_split {L : List Jvm.Cond} {P : Jvm.Cond → Bool} (h1 : L.all (fun c => isCode c || P c) = true) (h2 : ∀ c ∈ L.filter isCode, P c = true) : L.all P = true := by
  refine List.all_eq_true.mpr fun c hc => ?_
  have h := List.all_eq_true.mp h1 c hc
  rcases Bool.eq_false_or_eq_true (isCode c) with hi | hi
  · exact h2 c (List.mem_filter.mpr ⟨hc, hi⟩)
  · simpa [hi] using h
set_option maxRecDepth 65536 in
theorem w_c0 : (Jvm.Cond.code x code maxLocals ret).before args0 about1 = true := code_word (m := ⟨1, 2⟩) (meth := k1m2) (c := k1c2) (by decide +kernel) rfl rfl rfl (by decide +kernel)
set_option maxRecDepth 65536 in
theorem w_c1 : (Jvm.Cond.code ({ cls := "com/example/cloakfield/cloakfield/crypto/EncryptionAlgorithmAcceptsKeyLengthPinLaw", name := "pick", desc := "(I)Lcom/example/cloakfield/cloakfield/crypto/EncryptionAlgorithm;" } : Jvm.MethodName) method_2_code (1 : Nat) (Option.some (Jvm.ClassFile.FieldType.object "com/example/cloakfield/cloakfield/crypto/EncryptionAlgorithm"))).before args0 about1 = true := code_word (m := ⟨1, 1⟩) (meth := k1m1) (c := k1c1) (by decide +kernel) rfl rfl rfl (by decide +kernel)
set_option maxRecDepth 65536 in
theorem w_c2 : (Jvm.Cond.code ({ cls := "com/example/cloakfield/cloakfield/crypto/EncryptionAlgorithm", name := "acceptsKeyLength", desc := "(I)Z" } : Jvm.MethodName) prog_31_method_7_code (6 : Nat) (Option.some Jvm.ClassFile.FieldType.boolean)).before args0 about1 = true := code_word (m := ⟨6, 0⟩) (meth := k6m0) (c := k6c0) (by decide +kernel) rfl rfl rfl (by decide +kernel)
def codes1 : List Jvm.Cond := [Jvm.Cond.code x code maxLocals ret, Jvm.Cond.code ({ cls := "com/example/cloakfield/cloakfield/crypto/EncryptionAlgorithmAcceptsKeyLengthPinLaw", name := "pick", desc := "(I)Lcom/example/cloakfield/cloakfield/crypto/EncryptionAlgorithm;" } : Jvm.MethodName) method_2_code (1 : Nat) (Option.some (Jvm.ClassFile.FieldType.object "com/example/cloakfield/cloakfield/crypto/EncryptionAlgorithm")), Jvm.Cond.code ({ cls := "com/example/cloakfield/cloakfield/crypto/EncryptionAlgorithm", name := "acceptsKeyLength", desc := "(I)Z" } : Jvm.MethodName) prog_31_method_7_code (6 : Nat) (Option.some Jvm.ClassFile.FieldType.boolean)]
set_option maxRecDepth 65536 in
theorem codes_eq : words1.filter isCode = codes1 := rfl
theorem w_codes : ∀ c ∈ words1.filter isCode, c.before args0 about1 = true := by
  rw [codes_eq]
  intro c hc
  simp only [codes1, List.mem_cons, List.not_mem_nil, or_false] at hc
  rcases hc with rfl | rfl | rfl
  · exact w_c0
  · exact w_c1
  · exact w_c2
set_option maxRecDepth 65536 in
theorem w_t1 : words1.all (fun c => isCode c || c.before args0 about1) = true := by decide +kernel
theorem w_tables : (allAtoms (Jvm.Cond.code x code maxLocals ret :: tables_1)).before args0 about1 = true := by
  rw [allAtoms_all]
  show words1.all (fun c => c.before args0 about1) = true
  refine all_split ?_ w_codes
  rw [w_t1]
set_option maxRecDepth 65536 in
theorem w_case : (Jvm.Cond.and given_1 narrow_1).before args0 about1 = true := by decide +kernel
theorem w_applies : (headSpec (Jvm.Cond.code x code maxLocals ret :: tables_1) room_1).applies x e0.platform about1 = true :=
  (Spec.applies_iff w_frames).mpr ⟨w_running, w_runnable, w_alone, w_named, w_hears, w_ripe, w_room, w_tables⟩
theorem atStart : AtStart classFile x code maxLocals ret World_1 tables_1 room_1 Calls_1 rest_1 Pre_1 launch0 p0 e0 about1 theMethod args0 below0 :=
  ⟨lists_1, trivial, launch0.admits_env _ _ _, launch0.least_env, fairChoices_fair.cas, fairChoices_fair.clock, w_frames, w_args, w_heap, w_applies, trivial, trivial, w_case⟩
end start1
theorem witness_1 : WitnessClaimed_1 := ⟨start1.p0, start1.e0, start1.about1, start1.theMethod, start1.args0, start1.below0, start1.atStart⟩
end Jvm.Pilot.@@N@@
