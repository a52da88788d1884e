import JvmDerived
import JvmDerived.Pilot.@@N@@Statement
import JvmDerived.Pilot.@@N@@Code
set_option linter.unusedVariables false
set_option linter.unusedSimpArgs false
@@BLOCK:NumsL.lean.txt@@
namespace Jvm.RoadKit
open Sem ClassFile Op Lib Jvm.Stand Jvm.Free Jvm.LawKit
section OwnRuns
variable {p : Program} {l : Launch} {e : Env} {R : Room} {s : State} {m : MethodId} {args : Array Value} {below : List Frame} {meth : Method} {c : Code} {T : State} {locs : List Loc} {cells slots : Nat}
/-- from U the invocation comes to its end, and there Q holds -/
def Runs (p : Program) (e : Env) (below : List Frame) (Q : Outcome → State → Prop) (U : State) : Prop :=
  ∃ s₂ o, Steps p.tables e below U s₂ ∧ s₂.status = .running ∧ Ended s₂ below o ∧ Q o s₂
def QE (s : State) (Q : Option Value → Heap → List Loc → Prop) (C S : Nat) : Outcome → State → Prop :=
  fun o U' => ∃ v L, o = .returned v ∧ Q v U'.heap L ∧ FrameEnd s o U' L C S
theorem Runs.by {Q : Outcome → State → Prop} {U U' : State} (h : ∀ t, Steps p.tables e below U' t → Steps p.tables e below U t) (k : Runs p e below Q U') : Runs p e below Q U := by
  obtain ⟨s2, o, h1, h2⟩ := k
  exact ⟨s2, o, h _ h1, h2⟩
theorem Runs.ret {Q : Option Value → Heap → List Loc → Prop} {C S : Nat} {t : FieldType} {w : Value} {i : Instr} {pc : Nat} {Ls : Array Slot} {rest : List Value}
    (X : Stand p l e R s m args below meth c T locs cells slots) (hx : p.tables.exec = Jvm.exec) (hret : meth.sig.returnType = some t) (hlk : meth.locks = false)
    (hi : (i = .ireturn ∧ (t = .int ∨ t = .boolean ∨ t = .byte ∨ t = .char ∨ t = .short) ∧ ∃ z, w = .int z) ∨ (i = .lreturn ∧ t = .long ∧ ∃ z, w = .long z) ∨ (i = .dreturn ∧ t = .double ∧ ∃ z, w = .double z) ∨ (i = .freturn ∧ t = .float ∧ ∃ z, w = .float z) ∨ (i = .areturn ∧ t.isReference = true ∧ w.isRef = true))
    (hn : narrow t w = w) (hd : decode c.code pc = .ok (i, 1)) (hC : cells ≤ C) (hS : slots ≤ S) (hQ : Q (some w) T.heap locs) : Runs p e below (QE s Q C S) (T.setTop (mkF m pc Ls (w :: rest))) := by
  obtain ⟨fs, hr, hrun, hended, hW, hsame⟩ := X.leave (v := some w) (fun h => by rw [hret] at h; cases h) hlk
  exact ⟨_, _, retOut X hx hret hn hi hd hr, hrun, hended, _, _, rfl, hQ, ⟨_, rfl⟩, hW, hsame.mono hC hS⟩
theorem Runs.retV {Q : Option Value → Heap → List Loc → Prop} {C S : Nat} {pc : Nat} {Ls : Array Slot}
    (X : Stand p l e R s m args below meth c T locs cells slots) (hx : p.tables.exec = Jvm.exec) (hret : meth.sig.returnType = none) (hlk : meth.locks = false)
    (hd : decode c.code pc = .ok (.return_, 1)) (hC : cells ≤ C) (hS : slots ≤ S) (hQ : Q none T.heap locs) : Runs p e below (QE s Q C S) (T.setTop (mkF m pc Ls [])) := by
  obtain ⟨fs, hr, hrun, hended, hW, hsame⟩ := X.leave (v := none) (fun _ => rfl) hlk
  exact ⟨_, _, X.returnOut hx hret hd hr, hrun, hended, _, _, rfl, hQ, ⟨_, rfl⟩, hW, hsame.mono hC hS⟩
theorem own_narrow_b (x : Int32) (h : x = 0 ∨ x = 1) : narrow .boolean (.int x) = .int x := by rcases h with rfl | rfl <;> rfl
end OwnRuns
end Jvm.RoadKit
namespace Jvm.Pilot.@@N@@
open Jvm Jvm.ClassFile Sem Op Lib Jvm.Free Jvm.Stand Jvm.LawKit Jvm.RoadKit Bundle Jvm.Pilot.@@N@@.Jvm.D
def own_buf (f : Nat → Int32) : List Value := [.int (f 0), .int (f 1), .int (f 2), .int (f 3), .int (f 4), .int (f 5), .int (f 6), .int (f 7)]
def own_up (f : Nat → Int32) (a : Nat) (x : Int32) : Nat → Int32 := fun i => if i = a then x else f i
theorem own_set (f : Nat → Int32) (a : Nat) (x : Int32) (h : a < 8) : (own_buf f).set a (.int x) = own_buf (own_up f a x) := by
  rcases (by omega : a = 0 ∨ a = 1 ∨ a = 2 ∨ a = 3 ∨ a = 4 ∨ a = 5 ∨ a = 6 ∨ a = 7) with rfl | rfl | rfl | rfl | rfl | rfl | rfl | rfl <;> rfl
theorem own_get (f : Nat → Int32) (j : Int32) (n : Nat) (h : j.toInt = n) (hn : n < 8) : (own_buf f).getD j.toNatClampNeg (.int (0 : Int32)) = .int (f n) := by
  have e : j.toNatClampNeg = n := by show Int.toNat _ = _; omega
  rw [e]
  rcases (by omega : n = 0 ∨ n = 1 ∨ n = 2 ∨ n = 3 ∨ n = 4 ∨ n = 5 ∨ n = 6 ∨ n = 7) with rfl | rfl | rfl | rfl | rfl | rfl | rfl | rfl <;> rfl
theorem own_inb {j : Int32} (h : 0 ≤ j.toInt ∧ j.toInt < 8) : ¬ j < 0 ∧ j < 8 := by
  have e0 : (0 : Int32).toInt = 0 := by decide
  have e8 : (8 : Int32).toInt = 8 := by decide
  rw [Int32.lt_iff_toInt_lt, Int32.lt_iff_toInt_lt]; omega
def own_n (cp : Int32) : Int32 := if cp < 128 then 1 else if cp < 2048 then 2 else if cp < 65536 then 3 else 4
def own_e1 (cp : Int32) (a : Nat) (f : Nat → Int32) : Nat → Int32 := own_up f a (nar .byte ((cp).toInt8.toInt32))
def own_e2 (cp : Int32) (a : Nat) (f : Nat → Int32) : Nat → Int32 := own_up (own_up f a (nar .byte ((192 ||| (cp >>> ((6 : Int32) &&& 31))).toInt8.toInt32))) (a + 1) (nar .byte ((128 ||| (cp &&& 63)).toInt8.toInt32))
def own_e3 (cp : Int32) (a : Nat) (f : Nat → Int32) : Nat → Int32 := own_up (own_up (own_up f a (nar .byte ((224 ||| (cp >>> ((12 : Int32) &&& 31))).toInt8.toInt32))) (a + 1) (nar .byte ((128 ||| ((cp >>> ((6 : Int32) &&& 31)) &&& 63)).toInt8.toInt32))) (a + 2) (nar .byte ((128 ||| (cp &&& 63)).toInt8.toInt32))
def own_e4 (cp : Int32) (a : Nat) (f : Nat → Int32) : Nat → Int32 := own_up (own_up (own_up (own_up f a (nar .byte ((240 ||| (cp >>> ((18 : Int32) &&& 31))).toInt8.toInt32))) (a + 1) (nar .byte ((128 ||| ((cp >>> ((12 : Int32) &&& 31)) &&& 63)).toInt8.toInt32))) (a + 2) (nar .byte ((128 ||| ((cp >>> ((6 : Int32) &&& 31)) &&& 63)).toInt8.toInt32))) (a + 3) (nar .byte ((128 ||| (cp &&& 63)).toInt8.toInt32))
def own_enc (cp : Int32) (a : Nat) (f : Nat → Int32) : Nat → Int32 := if cp < 128 then own_e1 cp a f else if cp < 2048 then own_e2 cp a f else if cp < 65536 then own_e3 cp a f else own_e4 cp a f
theorem own_a2 (p : Int32) : (p + 1) + 1 = p + 2 := by rw [Int32.add_assoc]; rfl
theorem own_a3 (p : Int32) : ((p + 1) + 1) + 1 = p + 3 := by rw [own_a2, Int32.add_assoc]; rfl
theorem own_a4 (p : Int32) : (((p + 1) + 1) + 1) + 1 = p + 4 := by rw [own_a3, Int32.add_assoc]; rfl
theorem own_of {x : Int32} {n : Nat} (h : x.toInt = n) (hn : n < 2 ^ 31) : x = Int32.ofNat n := by
  apply Int32.toInt_inj.mp
  rw [h]; exact (Int32.toInt_ofNat_small hn).symm
theorem own_or {a b : Nat} (k q : Nat) (ha : a = 2 ^ k * q) (hb : b < 2 ^ k) : Int32.ofNat a ||| Int32.ofNat b = Int32.ofNat (a + b) := by
  apply Int32.toBitVec_inj.mp
  show BitVec.ofNat 32 a ||| BitVec.ofNat 32 b = BitVec.ofNat 32 (a + b)
  apply BitVec.eq_of_toNat_eq
  subst ha
  rw [BitVec.toNat_or, BitVec.toNat_ofNat, BitVec.toNat_ofNat, BitVec.toNat_ofNat, Nat.two_pow_add_eq_or_of_lt hb, Nat.or_mod_two_pow]
def own_lo (x : Int32) : Int32 := (nar .byte (x.toInt8.toInt32)) &&& 255
theorem own_c2 : ∀ k : Fin 32, (own_lo (192 ||| Int32.ofNat k.val) &&& 224) = 192 ∧ ((own_lo (192 ||| Int32.ofNat k.val) &&& 31) <<< ((6 : Int32) &&& 31)) = Int32.ofNat (64 * k.val) := by decide +kernel
theorem own_c3 : ∀ k : Fin 16, (own_lo (224 ||| Int32.ofNat k.val) &&& 240) = 224 ∧ ((own_lo (224 ||| Int32.ofNat k.val) &&& 15) <<< ((12 : Int32) &&& 31)) = Int32.ofNat (4096 * k.val) := by decide +kernel
theorem own_c4 : ∀ k : Fin 8, (own_lo (240 ||| Int32.ofNat k.val) &&& 248) = 240 ∧ ((own_lo (240 ||| Int32.ofNat k.val) &&& 7) <<< ((18 : Int32) &&& 31)) = Int32.ofNat (262144 * k.val) := by decide +kernel
theorem own_cc : ∀ k : Fin 64, (own_lo (128 ||| Int32.ofNat k.val) &&& 192) = 128 ∧ (own_lo (128 ||| Int32.ofNat k.val) &&& 63) = Int32.ofNat k.val ∧ ((own_lo (128 ||| Int32.ofNat k.val) &&& 63) <<< ((6 : Int32) &&& 31)) = Int32.ofNat (64 * k.val) ∧ ((own_lo (128 ||| Int32.ofNat k.val) &&& 63) <<< ((12 : Int32) &&& 31)) = Int32.ofNat (4096 * k.val) := by decide +kernel
theorem own_c1 : ∀ k : Fin 128, own_lo (Int32.ofNat k.val) = Int32.ofNat k.val := by decide +kernel
theorem own_sh {cp : Int32} {c : Nat} (h : cp.toInt = c) (k : Int32) (j : Nat) (hk : ((k &&& 31).toBitVec.smod 32).toNat = j) (hj : j < 32) (hc : c < 2 ^ 31) : cp >>> (k &&& 31) = Int32.ofNat (c / 2 ^ j) := by
  apply own_of
  · have := Jvm.Kit.i32_shr cp (k &&& 31) (k := j) hk
    rw [this, h]; norm_cast
  · exact Nat.lt_of_le_of_lt (Nat.div_le_self _ _) hc
theorem own_m63 (x : Int32) {c : Nat} (h : x.toInt = c) : (x &&& 63) = Int32.ofNat (c % 64) := by
  apply own_of
  · have := Jvm.Kit.i32_mask x 63 (k := 6) (by decide) (by decide)
    rw [this, h]; norm_cast
  · have := Nat.mod_lt c (by decide : 0 < 64); omega
theorem own_n1 {cp : Int32} (h : own_n cp = 1) : cp < 128 := by
  unfold own_n at h; split at h
  · assumption
  · split at h
    · exact absurd h (by decide)
    · split at h <;> exact absurd h (by decide)
theorem own_n2 {cp : Int32} (h : own_n cp = 2) : ¬ cp < 128 ∧ cp < 2048 := by
  unfold own_n at h; split at h
  · exact absurd h (by decide)
  · split at h
    · exact ⟨by assumption, by assumption⟩
    · split at h <;> exact absurd h (by decide)
theorem own_n3 {cp : Int32} (h : own_n cp = 3) : ¬ cp < 128 ∧ ¬ cp < 2048 ∧ cp < 65536 := by
  unfold own_n at h; split at h
  · exact absurd h (by decide)
  · split at h
    · exact absurd h (by decide)
    · split at h
      · exact ⟨by assumption, by assumption, by assumption⟩
      · exact absurd h (by decide)
theorem own_n4 {cp : Int32} (h1 : ¬ own_n cp = 1) (h2 : ¬ own_n cp = 2) (h3 : ¬ own_n cp = 3) : ¬ cp < 128 ∧ ¬ cp < 2048 ∧ ¬ cp < 65536 := by
  refine ⟨fun h => h1 (by simp [own_n, h]), fun h => ?_, fun h => ?_⟩
  · by_cases q : cp < 128
    · exact h1 (by simp [own_n, q])
    · exact h2 (by simp [own_n, q, h])
  · by_cases q : cp < 128
    · exact h1 (by simp [own_n, q])
    · by_cases q2 : cp < 2048
      · exact h2 (by simp [own_n, q, q2])
      · exact h3 (by simp [own_n, q, q2, h])
theorem own_t128 : (128 : Int32).toInt = 128 := by decide
theorem own_t2048 : (2048 : Int32).toInt = 2048 := by decide
theorem own_t65536 : (65536 : Int32).toInt = 65536 := by decide
abbrev Dom (cp : Int32) : Prop := 0 ≤ cp.toInt ∧ cp.toInt < 1114112
theorem own_d1 {cp : Int32} {a : Nat} {f g : Nat → Int32} (hg : g = own_enc cp a f) (hd : Dom cp) (h : own_n cp = 1) : (g a &&& 255) = cp := by
  have q := own_n1 h
  obtain ⟨c, hc⟩ : ∃ c : Nat, cp.toInt = c := ⟨cp.toInt.toNat, by have := hd.1; omega⟩
  have hc' : c < 128 := by rw [Int32.lt_iff_toInt_lt, own_t128] at q; omega
  have e : g a = nar .byte (cp.toInt8.toInt32) := by rw [hg]; simp [own_enc, q, own_e1, own_up]
  have ec : cp = Int32.ofNat c := own_of hc (by omega)
  rw [e]
  show own_lo cp = cp
  rw [ec]; exact own_c1 ⟨c, hc'⟩
theorem own_d2 {cp : Int32} {a : Nat} {f g : Nat → Int32} (hg : g = own_enc cp a f) (hd : Dom cp) (h : own_n cp = 2) : ((g a &&& 255) &&& 224) = 192 ∧ ((g (a + 1) &&& 255) &&& 192) = 128 ∧ ((((g a &&& 255) &&& 31) <<< ((6 : Int32) &&& 31)) ||| ((g (a + 1) &&& 255) &&& 63)) = cp := by
  obtain ⟨q1, q2⟩ := own_n2 h
  obtain ⟨c, hc⟩ : ∃ c : Nat, cp.toInt = c := ⟨cp.toInt.toNat, by have := hd.1; omega⟩
  have hc' : c < 2048 := by rw [Int32.lt_iff_toInt_lt, own_t2048] at q2; omega
  have e0 : g a = nar .byte ((192 ||| (cp >>> ((6 : Int32) &&& 31))).toInt8.toInt32) := by rw [hg]; simp [own_enc, q1, q2, own_e2, own_up]
  have e1 : g (a + 1) = nar .byte ((128 ||| (cp &&& 63)).toInt8.toInt32) := by rw [hg]; simp [own_enc, q1, q2, own_e2, own_up]
  have ec : cp = Int32.ofNat c := own_of hc (by omega)
  have s1 : cp >>> ((6 : Int32) &&& 31) = Int32.ofNat (c / 64) := own_sh hc 6 6 (by decide) (by decide) (by omega)
  have s2 : (cp &&& 63) = Int32.ofNat (c % 64) := own_m63 cp hc
  rw [s1] at e0; rw [s2] at e1
  have f0 := own_c2 ⟨c / 64, by omega⟩
  have f1 := own_cc ⟨c % 64, by omega⟩
  rw [e0, e1]
  refine ⟨f0.1, f1.1, ?_⟩
  have r0 := f0.2; have r1 := f1.2.1
  simp only [own_lo] at r0 r1
  rw [r0, r1, own_or 6 (c / 64) rfl (by omega), ec]
  congr 1; omega
theorem own_d3 {cp : Int32} {a : Nat} {f g : Nat → Int32} (hg : g = own_enc cp a f) (hd : Dom cp) (h : own_n cp = 3) : ((g a &&& 255) &&& 240) = 224 ∧ ((g (a + 1) &&& 255) &&& 192) = 128 ∧ ((g (a + 2) &&& 255) &&& 192) = 128 ∧ (((((g a &&& 255) &&& 15) <<< ((12 : Int32) &&& 31)) ||| (((g (a + 1) &&& 255) &&& 63) <<< ((6 : Int32) &&& 31))) ||| ((g (a + 2) &&& 255) &&& 63)) = cp := by
  obtain ⟨q1, q2, q3⟩ := own_n3 h
  obtain ⟨c, hc⟩ : ∃ c : Nat, cp.toInt = c := ⟨cp.toInt.toNat, by have := hd.1; omega⟩
  have hc' : c < 65536 := by rw [Int32.lt_iff_toInt_lt, own_t65536] at q3; omega
  have e0 : g a = nar .byte ((224 ||| (cp >>> ((12 : Int32) &&& 31))).toInt8.toInt32) := by rw [hg]; simp [own_enc, q1, q2, q3, own_e3, own_up]
  have e1 : g (a + 1) = nar .byte ((128 ||| ((cp >>> ((6 : Int32) &&& 31)) &&& 63)).toInt8.toInt32) := by rw [hg]; simp [own_enc, q1, q2, q3, own_e3, own_up]
  have e2 : g (a + 2) = nar .byte ((128 ||| (cp &&& 63)).toInt8.toInt32) := by rw [hg]; simp [own_enc, q1, q2, q3, own_e3, own_up]
  have ec : cp = Int32.ofNat c := own_of hc (by omega)
  have s0 : cp >>> ((12 : Int32) &&& 31) = Int32.ofNat (c / 4096) := own_sh hc 12 12 (by decide) (by decide) (by omega)
  have s1 : cp >>> ((6 : Int32) &&& 31) = Int32.ofNat (c / 64) := own_sh hc 6 6 (by decide) (by decide) (by omega)
  have s1' : (Int32.ofNat (c / 64) &&& 63) = Int32.ofNat (c / 64 % 64) := own_m63 _ (Int32.toInt_ofNat_small (by omega))
  have s2 : (cp &&& 63) = Int32.ofNat (c % 64) := own_m63 cp hc
  rw [s0] at e0; rw [s1, s1'] at e1; rw [s2] at e2
  have f0 := own_c3 ⟨c / 4096, by omega⟩
  have f1 := own_cc ⟨c / 64 % 64, by omega⟩
  have f2 := own_cc ⟨c % 64, by omega⟩
  rw [e0, e1, e2]
  refine ⟨f0.1, f1.1, f2.1, ?_⟩
  have r0 := f0.2; have r1 := f1.2.2.1; have r2 := f2.2.1
  simp only [own_lo] at r0 r1 r2
  rw [r0, r1, r2, own_or 12 (c / 4096) rfl (by omega), own_or 6 (64 * (c / 4096) + c / 64 % 64) (by omega) (by omega), ec]
  congr 1; omega
theorem own_d4 {cp : Int32} {a : Nat} {f g : Nat → Int32} (hg : g = own_enc cp a f) (hd : Dom cp) (h1 : ¬ own_n cp = 1) (h2 : ¬ own_n cp = 2) (h3 : ¬ own_n cp = 3) : ((g a &&& 255) &&& 248) = 240 ∧ ((g (a + 1) &&& 255) &&& 192) = 128 ∧ ((g (a + 2) &&& 255) &&& 192) = 128 ∧ ((g (a + 3) &&& 255) &&& 192) = 128 ∧ ((((((g a &&& 255) &&& 7) <<< ((18 : Int32) &&& 31)) ||| (((g (a + 1) &&& 255) &&& 63) <<< ((12 : Int32) &&& 31))) ||| (((g (a + 2) &&& 255) &&& 63) <<< ((6 : Int32) &&& 31))) ||| ((g (a + 3) &&& 255) &&& 63)) = cp := by
  obtain ⟨q1, q2, q3⟩ := own_n4 h1 h2 h3
  obtain ⟨c, hc⟩ : ∃ c : Nat, cp.toInt = c := ⟨cp.toInt.toNat, by have := hd.1; omega⟩
  have hc' : c < 1114112 := by have := hd.2; omega
  have e0 : g a = nar .byte ((240 ||| (cp >>> ((18 : Int32) &&& 31))).toInt8.toInt32) := by rw [hg]; simp [own_enc, q1, q2, q3, own_e4, own_up]
  have e1 : g (a + 1) = nar .byte ((128 ||| ((cp >>> ((12 : Int32) &&& 31)) &&& 63)).toInt8.toInt32) := by rw [hg]; simp [own_enc, q1, q2, q3, own_e4, own_up]
  have e2 : g (a + 2) = nar .byte ((128 ||| ((cp >>> ((6 : Int32) &&& 31)) &&& 63)).toInt8.toInt32) := by rw [hg]; simp [own_enc, q1, q2, q3, own_e4, own_up]
  have e3 : g (a + 3) = nar .byte ((128 ||| (cp &&& 63)).toInt8.toInt32) := by rw [hg]; simp [own_enc, q1, q2, q3, own_e4, own_up]
  have ec : cp = Int32.ofNat c := own_of hc (by omega)
  have s0 : cp >>> ((18 : Int32) &&& 31) = Int32.ofNat (c / 262144) := own_sh hc 18 18 (by decide) (by decide) (by omega)
  have s1 : cp >>> ((12 : Int32) &&& 31) = Int32.ofNat (c / 4096) := own_sh hc 12 12 (by decide) (by decide) (by omega)
  have s1' : (Int32.ofNat (c / 4096) &&& 63) = Int32.ofNat (c / 4096 % 64) := own_m63 _ (Int32.toInt_ofNat_small (by omega))
  have s2 : cp >>> ((6 : Int32) &&& 31) = Int32.ofNat (c / 64) := own_sh hc 6 6 (by decide) (by decide) (by omega)
  have s2' : (Int32.ofNat (c / 64) &&& 63) = Int32.ofNat (c / 64 % 64) := own_m63 _ (Int32.toInt_ofNat_small (by omega))
  have s3 : (cp &&& 63) = Int32.ofNat (c % 64) := own_m63 cp hc
  rw [s0] at e0; rw [s1, s1'] at e1; rw [s2, s2'] at e2; rw [s3] at e3
  have f0 := own_c4 ⟨c / 262144, by omega⟩
  have f1 := own_cc ⟨c / 4096 % 64, by omega⟩
  have f2 := own_cc ⟨c / 64 % 64, by omega⟩
  have f3 := own_cc ⟨c % 64, by omega⟩
  rw [e0, e1, e2, e3]
  refine ⟨f0.1, f1.1, f2.1, f3.1, ?_⟩
  have r0 := f0.2; have r1 := f1.2.2.2; have r2 := f2.2.2.1; have r3 := f3.2.1
  simp only [own_lo] at r0 r1 r2 r3
  rw [r0, r1, r2, r3, own_or 18 (c / 262144) rfl (by omega), own_or 12 (64 * (c / 262144) + c / 4096 % 64) (by omega) (by omega), own_or 6 (4096 * (c / 262144) + 64 * (c / 4096 % 64) + c / 64 % 64) (by omega) (by omega), ec]
  congr 1; omega
theorem own_rest {cp a x : Int32} {g : Nat → Int32} (hg : g = own_enc cp a.toInt.toNat (fun _ => nar .byte (x.toInt8.toInt32))) (ha : 0 ≤ a.toInt ∧ a.toInt ≤ 3) (i : Int32) (hi : 0 ≤ i.toInt ∧ i.toInt < 8) : (¬ i < a ∧ i < a + own_n cp) ∨ g i.toInt.toNat = x.toInt8.toInt32 := by
  have hb : nar .byte (x.toInt8.toInt32) = x.toInt8.toInt32 := by simp [nar]
  by_cases q1 : cp < 128
  · have en : own_n cp = 1 := by simp [own_n, q1]
    have e1 : (a + 1).toInt = a.toInt + 1 := Jvm.Kit.i32_add (by have : (1 : Int32).toInt = 1 := by decide
                                                                 omega) (by have : (1 : Int32).toInt = 1 := by decide
                                                                            omega)
    by_cases h : ¬ i < a ∧ i < a + 1
    · left; rw [en]; exact h
    · right; rw [Int32.lt_iff_toInt_lt, Int32.lt_iff_toInt_lt, e1] at h
      rw [hg]; simp only [own_enc, q1, if_true, own_e1, own_up]
      rw [if_neg (by omega)]; exact hb
  · by_cases q2 : cp < 2048
    · have en : own_n cp = 2 := by simp [own_n, q1, q2]
      have t : (2 : Int32).toInt = 2 := by decide
      have e1 : (a + 2).toInt = a.toInt + 2 := Jvm.Kit.i32_add (by omega) (by omega)
      by_cases h : ¬ i < a ∧ i < a + 2
      · left; rw [en]; exact h
      · right; rw [Int32.lt_iff_toInt_lt, Int32.lt_iff_toInt_lt, e1] at h
        rw [hg]; simp only [own_enc, q1, q2, if_true, if_false, own_e2, own_up]
        rw [if_neg (by omega), if_neg (by omega)]; exact hb
    · by_cases q3 : cp < 65536
      · have en : own_n cp = 3 := by simp [own_n, q1, q2, q3]
        have t : (3 : Int32).toInt = 3 := by decide
        have e1 : (a + 3).toInt = a.toInt + 3 := Jvm.Kit.i32_add (by omega) (by omega)
        by_cases h : ¬ i < a ∧ i < a + 3
        · left; rw [en]; exact h
        · right; rw [Int32.lt_iff_toInt_lt, Int32.lt_iff_toInt_lt, e1] at h
          rw [hg]; simp only [own_enc, q1, q2, q3, if_true, if_false, own_e3, own_up]
          rw [if_neg (by omega), if_neg (by omega), if_neg (by omega)]; exact hb
      · have en : own_n cp = 4 := by simp [own_n, q1, q2, q3]
        have t : (4 : Int32).toInt = 4 := by decide
        have e1 : (a + 4).toInt = a.toInt + 4 := Jvm.Kit.i32_add (by omega) (by omega)
        by_cases h : ¬ i < a ∧ i < a + 4
        · left; rw [en]; exact h
        · right; rw [Int32.lt_iff_toInt_lt, Int32.lt_iff_toInt_lt, e1] at h
          rw [hg]; simp only [own_enc, q1, q2, q3, if_false, own_e4, own_up]
          rw [if_neg (by omega), if_neg (by omega), if_neg (by omega), if_neg (by omega)]; exact hb
theorem own_dom (x : Int32) : Dom ((x &&& 2147483647) % 1114112) := by
  have e1 : (x &&& 2147483647).toInt = x.toInt % 2 ^ 31 := Jvm.Kit.i32_mask x 2147483647 (k := 31) (by decide) (by decide)
  generalize x &&& 2147483647 = y at *
  have e2 : (y % 1114112).toInt = y.toInt % 1114112 := by
    rw [Int32.toInt_mod]
    have : (1114112 : Int32).toInt = 1114112 := by decide
    rw [this, Int.tmod_eq_emod_of_nonneg (by omega)]
  unfold Dom; omega
theorem own_at3 (x : Int32) : 0 ≤ (x &&& 3).toInt ∧ (x &&& 3).toInt ≤ 3 := by
  have e1 : (x &&& 3).toInt = x.toInt % 2 ^ 2 := Jvm.Kit.i32_mask x 3 (k := 2) (by decide) (by decide)
  omega
theorem d1_0 : decode prog_28_method_6_code 0 = .ok (.iload_n 2, 1) := by decide +kernel
theorem d1_1 : decode prog_28_method_6_code 1 = .ok (.istore_n 3, 1) := by decide +kernel
theorem d1_2 : decode prog_28_method_6_code 2 = .ok (.iload_n 0, 1) := by decide +kernel
theorem d1_3 : decode prog_28_method_6_code 3 = .ok (.sipush 128, 3) := by decide +kernel
theorem d1_6 : decode prog_28_method_6_code 6 = .ok (.if_icmp .ge 14, 3) := by decide +kernel
theorem d1_9 : decode prog_28_method_6_code 9 = .ok (.aload_n 1, 1) := by decide +kernel
theorem d1_10 : decode prog_28_method_6_code 10 = .ok (.iload_n 3, 1) := by decide +kernel
theorem d1_11 : decode prog_28_method_6_code 11 = .ok (.iinc 3 1, 3) := by decide +kernel
theorem d1_14 : decode prog_28_method_6_code 14 = .ok (.iload_n 0, 1) := by decide +kernel
theorem d1_15 : decode prog_28_method_6_code 15 = .ok (.i2b, 1) := by decide +kernel
theorem d1_16 : decode prog_28_method_6_code 16 = .ok (.bastore, 1) := by decide +kernel
theorem d1_17 : decode prog_28_method_6_code 17 = .ok (.goto 166, 3) := by decide +kernel
theorem d1_20 : decode prog_28_method_6_code 20 = .ok (.iload_n 0, 1) := by decide +kernel
theorem d1_21 : decode prog_28_method_6_code 21 = .ok (.sipush 2048, 3) := by decide +kernel
theorem d1_24 : decode prog_28_method_6_code 24 = .ok (.if_icmp .ge 36, 3) := by decide +kernel
theorem d1_27 : decode prog_28_method_6_code 27 = .ok (.aload_n 1, 1) := by decide +kernel
theorem d1_28 : decode prog_28_method_6_code 28 = .ok (.iload_n 3, 1) := by decide +kernel
theorem d1_29 : decode prog_28_method_6_code 29 = .ok (.iinc 3 1, 3) := by decide +kernel
theorem d1_32 : decode prog_28_method_6_code 32 = .ok (.sipush 192, 3) := by decide +kernel
theorem d1_35 : decode prog_28_method_6_code 35 = .ok (.iload_n 0, 1) := by decide +kernel
theorem d1_36 : decode prog_28_method_6_code 36 = .ok (.bipush 6, 2) := by decide +kernel
theorem d1_38 : decode prog_28_method_6_code 38 = .ok (.ishr, 1) := by decide +kernel
theorem d1_39 : decode prog_28_method_6_code 39 = .ok (.ior, 1) := by decide +kernel
theorem d1_40 : decode prog_28_method_6_code 40 = .ok (.i2b, 1) := by decide +kernel
theorem d1_41 : decode prog_28_method_6_code 41 = .ok (.bastore, 1) := by decide +kernel
theorem d1_42 : decode prog_28_method_6_code 42 = .ok (.aload_n 1, 1) := by decide +kernel
theorem d1_43 : decode prog_28_method_6_code 43 = .ok (.iload_n 3, 1) := by decide +kernel
theorem d1_44 : decode prog_28_method_6_code 44 = .ok (.iinc 3 1, 3) := by decide +kernel
theorem d1_47 : decode prog_28_method_6_code 47 = .ok (.sipush 128, 3) := by decide +kernel
theorem d1_50 : decode prog_28_method_6_code 50 = .ok (.iload_n 0, 1) := by decide +kernel
theorem d1_51 : decode prog_28_method_6_code 51 = .ok (.bipush 63, 2) := by decide +kernel
theorem d1_53 : decode prog_28_method_6_code 53 = .ok (.iand, 1) := by decide +kernel
theorem d1_54 : decode prog_28_method_6_code 54 = .ok (.ior, 1) := by decide +kernel
theorem d1_55 : decode prog_28_method_6_code 55 = .ok (.i2b, 1) := by decide +kernel
theorem d1_56 : decode prog_28_method_6_code 56 = .ok (.bastore, 1) := by decide +kernel
theorem d1_57 : decode prog_28_method_6_code 57 = .ok (.goto 126, 3) := by decide +kernel
theorem d1_60 : decode prog_28_method_6_code 60 = .ok (.iload_n 0, 1) := by decide +kernel
theorem d1_61 : decode prog_28_method_6_code 61 = .ok (.ldc 67, 2) := by decide +kernel
theorem d1_63 : decode prog_28_method_6_code 63 = .ok (.if_icmp .ge 54, 3) := by decide +kernel
theorem d1_66 : decode prog_28_method_6_code 66 = .ok (.aload_n 1, 1) := by decide +kernel
theorem d1_67 : decode prog_28_method_6_code 67 = .ok (.iload_n 3, 1) := by decide +kernel
theorem d1_68 : decode prog_28_method_6_code 68 = .ok (.iinc 3 1, 3) := by decide +kernel
theorem d1_71 : decode prog_28_method_6_code 71 = .ok (.sipush 224, 3) := by decide +kernel
theorem d1_74 : decode prog_28_method_6_code 74 = .ok (.iload_n 0, 1) := by decide +kernel
theorem d1_75 : decode prog_28_method_6_code 75 = .ok (.bipush 12, 2) := by decide +kernel
theorem d1_77 : decode prog_28_method_6_code 77 = .ok (.ishr, 1) := by decide +kernel
theorem d1_78 : decode prog_28_method_6_code 78 = .ok (.ior, 1) := by decide +kernel
theorem d1_79 : decode prog_28_method_6_code 79 = .ok (.i2b, 1) := by decide +kernel
theorem d1_80 : decode prog_28_method_6_code 80 = .ok (.bastore, 1) := by decide +kernel
theorem d1_81 : decode prog_28_method_6_code 81 = .ok (.aload_n 1, 1) := by decide +kernel
theorem d1_82 : decode prog_28_method_6_code 82 = .ok (.iload_n 3, 1) := by decide +kernel
theorem d1_83 : decode prog_28_method_6_code 83 = .ok (.iinc 3 1, 3) := by decide +kernel
theorem d1_86 : decode prog_28_method_6_code 86 = .ok (.sipush 128, 3) := by decide +kernel
theorem d1_89 : decode prog_28_method_6_code 89 = .ok (.iload_n 0, 1) := by decide +kernel
theorem d1_90 : decode prog_28_method_6_code 90 = .ok (.bipush 6, 2) := by decide +kernel
theorem d1_92 : decode prog_28_method_6_code 92 = .ok (.ishr, 1) := by decide +kernel
theorem d1_93 : decode prog_28_method_6_code 93 = .ok (.bipush 63, 2) := by decide +kernel
theorem d1_95 : decode prog_28_method_6_code 95 = .ok (.iand, 1) := by decide +kernel
theorem d1_96 : decode prog_28_method_6_code 96 = .ok (.ior, 1) := by decide +kernel
theorem d1_97 : decode prog_28_method_6_code 97 = .ok (.i2b, 1) := by decide +kernel
theorem d1_98 : decode prog_28_method_6_code 98 = .ok (.bastore, 1) := by decide +kernel
theorem d1_99 : decode prog_28_method_6_code 99 = .ok (.aload_n 1, 1) := by decide +kernel
theorem d1_100 : decode prog_28_method_6_code 100 = .ok (.iload_n 3, 1) := by decide +kernel
theorem d1_101 : decode prog_28_method_6_code 101 = .ok (.iinc 3 1, 3) := by decide +kernel
theorem d1_104 : decode prog_28_method_6_code 104 = .ok (.sipush 128, 3) := by decide +kernel
theorem d1_107 : decode prog_28_method_6_code 107 = .ok (.iload_n 0, 1) := by decide +kernel
theorem d1_108 : decode prog_28_method_6_code 108 = .ok (.bipush 63, 2) := by decide +kernel
theorem d1_110 : decode prog_28_method_6_code 110 = .ok (.iand, 1) := by decide +kernel
theorem d1_111 : decode prog_28_method_6_code 111 = .ok (.ior, 1) := by decide +kernel
theorem d1_112 : decode prog_28_method_6_code 112 = .ok (.i2b, 1) := by decide +kernel
theorem d1_113 : decode prog_28_method_6_code 113 = .ok (.bastore, 1) := by decide +kernel
theorem d1_114 : decode prog_28_method_6_code 114 = .ok (.goto 69, 3) := by decide +kernel
theorem d1_117 : decode prog_28_method_6_code 117 = .ok (.aload_n 1, 1) := by decide +kernel
theorem d1_118 : decode prog_28_method_6_code 118 = .ok (.iload_n 3, 1) := by decide +kernel
theorem d1_119 : decode prog_28_method_6_code 119 = .ok (.iinc 3 1, 3) := by decide +kernel
theorem d1_122 : decode prog_28_method_6_code 122 = .ok (.sipush 240, 3) := by decide +kernel
theorem d1_125 : decode prog_28_method_6_code 125 = .ok (.iload_n 0, 1) := by decide +kernel
theorem d1_126 : decode prog_28_method_6_code 126 = .ok (.bipush 18, 2) := by decide +kernel
theorem d1_128 : decode prog_28_method_6_code 128 = .ok (.ishr, 1) := by decide +kernel
theorem d1_129 : decode prog_28_method_6_code 129 = .ok (.ior, 1) := by decide +kernel
theorem d1_130 : decode prog_28_method_6_code 130 = .ok (.i2b, 1) := by decide +kernel
theorem d1_131 : decode prog_28_method_6_code 131 = .ok (.bastore, 1) := by decide +kernel
theorem d1_132 : decode prog_28_method_6_code 132 = .ok (.aload_n 1, 1) := by decide +kernel
theorem d1_133 : decode prog_28_method_6_code 133 = .ok (.iload_n 3, 1) := by decide +kernel
theorem d1_134 : decode prog_28_method_6_code 134 = .ok (.iinc 3 1, 3) := by decide +kernel
theorem d1_137 : decode prog_28_method_6_code 137 = .ok (.sipush 128, 3) := by decide +kernel
theorem d1_140 : decode prog_28_method_6_code 140 = .ok (.iload_n 0, 1) := by decide +kernel
theorem d1_141 : decode prog_28_method_6_code 141 = .ok (.bipush 12, 2) := by decide +kernel
theorem d1_143 : decode prog_28_method_6_code 143 = .ok (.ishr, 1) := by decide +kernel
theorem d1_144 : decode prog_28_method_6_code 144 = .ok (.bipush 63, 2) := by decide +kernel
theorem d1_146 : decode prog_28_method_6_code 146 = .ok (.iand, 1) := by decide +kernel
theorem d1_147 : decode prog_28_method_6_code 147 = .ok (.ior, 1) := by decide +kernel
theorem d1_148 : decode prog_28_method_6_code 148 = .ok (.i2b, 1) := by decide +kernel
theorem d1_149 : decode prog_28_method_6_code 149 = .ok (.bastore, 1) := by decide +kernel
theorem d1_150 : decode prog_28_method_6_code 150 = .ok (.aload_n 1, 1) := by decide +kernel
theorem d1_151 : decode prog_28_method_6_code 151 = .ok (.iload_n 3, 1) := by decide +kernel
theorem d1_152 : decode prog_28_method_6_code 152 = .ok (.iinc 3 1, 3) := by decide +kernel
theorem d1_155 : decode prog_28_method_6_code 155 = .ok (.sipush 128, 3) := by decide +kernel
theorem d1_158 : decode prog_28_method_6_code 158 = .ok (.iload_n 0, 1) := by decide +kernel
theorem d1_159 : decode prog_28_method_6_code 159 = .ok (.bipush 6, 2) := by decide +kernel
theorem d1_161 : decode prog_28_method_6_code 161 = .ok (.ishr, 1) := by decide +kernel
theorem d1_162 : decode prog_28_method_6_code 162 = .ok (.bipush 63, 2) := by decide +kernel
theorem d1_164 : decode prog_28_method_6_code 164 = .ok (.iand, 1) := by decide +kernel
theorem d1_165 : decode prog_28_method_6_code 165 = .ok (.ior, 1) := by decide +kernel
theorem d1_166 : decode prog_28_method_6_code 166 = .ok (.i2b, 1) := by decide +kernel
theorem d1_167 : decode prog_28_method_6_code 167 = .ok (.bastore, 1) := by decide +kernel
theorem d1_168 : decode prog_28_method_6_code 168 = .ok (.aload_n 1, 1) := by decide +kernel
theorem d1_169 : decode prog_28_method_6_code 169 = .ok (.iload_n 3, 1) := by decide +kernel
theorem d1_170 : decode prog_28_method_6_code 170 = .ok (.iinc 3 1, 3) := by decide +kernel
theorem d1_173 : decode prog_28_method_6_code 173 = .ok (.sipush 128, 3) := by decide +kernel
theorem d1_176 : decode prog_28_method_6_code 176 = .ok (.iload_n 0, 1) := by decide +kernel
theorem d1_177 : decode prog_28_method_6_code 177 = .ok (.bipush 63, 2) := by decide +kernel
theorem d1_179 : decode prog_28_method_6_code 179 = .ok (.iand, 1) := by decide +kernel
theorem d1_180 : decode prog_28_method_6_code 180 = .ok (.ior, 1) := by decide +kernel
theorem d1_181 : decode prog_28_method_6_code 181 = .ok (.i2b, 1) := by decide +kernel
theorem d1_182 : decode prog_28_method_6_code 182 = .ok (.bastore, 1) := by decide +kernel
theorem d1_183 : decode prog_28_method_6_code 183 = .ok (.iload_n 3, 1) := by decide +kernel
theorem d1_184 : decode prog_28_method_6_code 184 = .ok (.ireturn, 1) := by decide +kernel
theorem ef_1_0 (m : MethodId) (p0 : Int32) (o1 : Addr) (p2 : Int32) : entryFrame m #[(.int p0), (.ref o1), (.int p2)] 4 = mkF m 0 #[.val (.int p0), .val (.ref o1), .val (.int p2), .unset] [] := by first | (simp [entryFrame, mkF, argsToLocals, Value.category]; done) | rfl
theorem pn_com_example_usher_usher_Utf8Validator : plainName "com/example/usher/usher/Utf8Validator" = true := by first | (simp [plainName, overriddenIn]; done) | decide +kernel
def Q_rm1 (Z : State) (p0 : Int32) (o1 : Addr) (p2 : Int32) (k : ClassId) (f : Nat → Int32) (h0 : Heap) (n0 : Nat) (v : Option Value) (h : Heap) (L : List Loc) : Prop := v = some (.int (p2 + own_n p0)) ∧ Fr n0 L ∧ Keep h0 h [o1] ∧ Arv Z h o1 k .byte (8 : Int32) (own_buf (own_enc p0 p2.toInt.toNat f)) (.int (0 : Int32))
set_option maxRecDepth 65536 in
set_option maxHeartbeats 40000000 in
theorem rm1 (l : Launch) (Z : State) (a0 : Array Value) (hw : ∀ d ∈ tables_1, d.before a0 Z = true) (ws : List Jvm.Cond) (p0 : Int32) (o1 : Addr) (p2 : Int32) (k : ClassId) (f : Nat → Int32) (h0 : Heap) (n0 : Nat) (Z0 : n0 ≤ h0.size) (V0 : Arv Z h0 o1 k .byte (8 : Int32) (own_buf f) (.int (0 : Int32))) (g_o1 : n0 ≤ o1) (hat : 0 ≤ p2.toInt ∧ p2.toInt ≤ 3) :
    MetFree l (⟨"com/example/usher/usher/Utf8Validator", "encode", "(I[BI)I"⟩ : MethodName) (head1 (Jvm.Cond.code (⟨"com/example/usher/usher/Utf8Validator", "encode", "(I[BI)I"⟩ : MethodName) prog_28_method_6_code 4 (some .int) :: ws) ({ frames := 0, cells := 0, slots := 0, locals := 0 } : Room)) (fun a U => a = #[(.int p0), (.ref o1), (.int p2)] ∧ Z.Warmed39 U.vm ∧ U.heap = h0) (fun _ _ _ _ _ => True) (fun _ U o U' => ∃ v L, o = .returned v ∧ Q_rm1 Z p0 o1 p2 k f h0 n0 v U'.heap L ∧ FrameEnd U o U' L ({ frames := 0, cells := 0, slots := 0, locals := 0 } : Room).cells ({ frames := 0, cells := 0, slots := 0, locals := 0 } : Room).slots) := by
  refine MetFree.of_bodySF (plainFor_of_name pn_com_example_usher_usher_Utf8Validator) hisR ?_
  intro p e s m args below meth c s₁ Bd hml0 hP hK
  obtain ⟨rfl, hZ, hh⟩ := hP
  have hx := Bd.exec
  have hby := Bd.bytes
  have hlk := BodyLoose.notSynchronized Bd
  have hrt := Bd.returns
  have hml : c.maxLocals = 4 := hml0
  have hown : s.vm.findClass "com/example/usher/usher/Utf8Validator" = some m.cls := findClass_of_methodNamed Bd.named
  have hnm := (name_of_methodNamed Bd.named Bd.method).1
  have X0 : Stand p l e ({ frames := 0, cells := 0, slots := 0, locals := 0 } : Room) s m #[(.int p0), (.ref o1), (.int p2)] below meth c s₁ [] 0 0 := Stand.of_body Bd
  have e0 : s₁.heap = h0 := by rw [← hh, Bd.state]; rfl
  have N0 := Fr.nil n0
  have K0 : Keep h0 h0 [o1] := Keep.refl h0 _
  show Runs p e below (QE s (Q_rm1 Z p0 o1 p2 k f h0 n0) ({ frames := 0, cells := 0, slots := 0, locals := 0 } : Room).cells ({ frames := 0, cells := 0, slots := 0, locals := 0 } : Room).slots) (s₁.setTop (entryFrame m #[(.int p0), (.ref o1), (.int p2)] 4))
  rw [ef_1_0 m p0 o1 p2]
  have t1 : (1 : Int32).toInt = 1 := by decide
  have i1 : (p2 + (1 : Int32)).toInt = p2.toInt + 1 := (Jvm.Kit.i32_add (by omega) (by omega)).trans (by omega)
  have i2 : ((p2 + (1 : Int32)) + (1 : Int32)).toInt = p2.toInt + 2 := (Jvm.Kit.i32_add (by omega) (by omega)).trans (by omega)
  have i3 : (((p2 + (1 : Int32)) + (1 : Int32)) + (1 : Int32)).toInt = p2.toInt + 3 := (Jvm.Kit.i32_add (by omega) (by omega)).trans (by omega)
  show Runs p e below _ (s₁.setTop (mkF m 0 #[.val (.int p0), .val (.ref o1), .val (.int p2), .unset] []))
  refine Runs.by (fun _ hr => XS.iloadN X0.here hx rfl (hb hby d1_0) rfl  hr) ?_
  show Runs p e below _ (s₁.setTop (mkF m 1 #[.val (.int p0), .val (.ref o1), .val (.int p2), .unset] [(.int p2)]))
  refine Runs.by (fun _ hr => XS.istoreN X0.here hx rfl (hb hby d1_1) rfl (l' := #[.val (.int p0), .val (.ref o1), .val (.int p2), .val (.int p2)]) rfl hr) ?_
  show Runs p e below _ (s₁.setTop (mkF m 2 #[.val (.int p0), .val (.ref o1), .val (.int p2), .val (.int p2)] []))
  refine Runs.by (fun _ hr => XS.iloadN X0.here hx rfl (hb hby d1_2) rfl  hr) ?_
  show Runs p e below _ (s₁.setTop (mkF m 3 #[.val (.int p0), .val (.ref o1), .val (.int p2), .val (.int p2)] [(.int p0)]))
  refine Runs.by (fun _ hr => XS.sipush X0.here hx rfl (hb hby d1_3) hr) ?_
  show Runs p e below _ (s₁.setTop (mkF m 6 #[.val (.int p0), .val (.ref o1), .val (.int p2), .val (.int p2)] [(.int (128 : Int32)), (.int p0)]))
  by_cases hc6 : p0 < (128 : Int32)
  · -- pc 6: p0 < (128 : Int32)
    refine Runs.by (fun _ hr => XS.icmpNo X0.here hx rfl (hb hby d1_6) rfl (tlt hc6).2.1 hr) ?_
    show Runs p e below _ (s₁.setTop (mkF m 9 #[.val (.int p0), .val (.ref o1), .val (.int p2), .val (.int p2)] []))
    refine Runs.by (fun _ hr => XS.aloadN X0.here hx rfl (hb hby d1_9) rfl rfl hr) ?_
    show Runs p e below _ (s₁.setTop (mkF m 10 #[.val (.int p0), .val (.ref o1), .val (.int p2), .val (.int p2)] [(.ref o1)]))
    refine Runs.by (fun _ hr => XS.iloadN X0.here hx rfl (hb hby d1_10) rfl  hr) ?_
    show Runs p e below _ (s₁.setTop (mkF m 11 #[.val (.int p0), .val (.ref o1), .val (.int p2), .val (.int p2)] [(.int p2), (.ref o1)]))
    refine Runs.by (fun _ hr => XS.iinc X0.here hx rfl (hb hby d1_11) rfl (l' := #[.val (.int p0), .val (.ref o1), .val (.int p2), .val (.int (p2 + (1 : Int32)))]) rfl hr) ?_
    show Runs p e below _ (s₁.setTop (mkF m 14 #[.val (.int p0), .val (.ref o1), .val (.int p2), .val (.int (p2 + (1 : Int32)))] [(.int p2), (.ref o1)]))
    refine Runs.by (fun _ hr => XS.iloadN X0.here hx rfl (hb hby d1_14) rfl  hr) ?_
    show Runs p e below _ (s₁.setTop (mkF m 15 #[.val (.int p0), .val (.ref o1), .val (.int p2), .val (.int (p2 + (1 : Int32)))] [(.int p0), (.int p2), (.ref o1)]))
    refine Runs.by (fun _ hr => XS.i2b X0.here hx rfl (hb hby d1_15) rfl hr) ?_
    show Runs p e below _ (s₁.setTop (mkF m 16 #[.val (.int p0), .val (.ref o1), .val (.int p2), .val (.int (p2 + (1 : Int32)))] [(.int (p0.toInt8.toInt32)), (.int p2), (.ref o1)]))
    obtain ⟨cl1, Ar1, q1, S1, N1', H1, G1⟩ := id V0
    have hin1 : ¬ (p2 < 0 ∨ cl1.slots.size ≤ (p2).toNatClampNeg) := inb_of S1 (own_inb (by omega))
    obtain ⟨T1, h1, X1, e1, W1, st1⟩ := stB X0 hx hZ e0 Ar1 (j := p2) hin1 (g := (mkF m 16 #[.val (.int p0), .val (.ref o1), .val (.int p2), .val (.int (p2 + (1 : Int32)))] [(.int (p0.toInt8.toInt32)), (.int p2), (.ref o1)])) rfl rfl (hb hby d1_16)
    have V1' := Arv.set Ar1 q1 S1 N1' H1 G1 (fits_nar_byte _) W1 (p2.toInt.toNat) (by show Int.toNat _ = _; omega) (by show _ < 8; omega)
    rw [own_set _ _ _ (by omega)] at V1'
    have V1 : Arv Z h1 o1 k .byte (8 : Int32) (own_buf (own_up f p2.toInt.toNat (nar .byte (p0.toInt8.toInt32)))) (.int (0 : Int32)) := V1'
    have K2 : Keep h0 h1 [o1] := K0.wr W1 (Or.inl (List.mem_of_getElem? (i := 0) rfl))
    have N1 := Fr.snoc X1 N0 g_o1
    refine Runs.by st1 ?_
    show Runs p e below _ (T1.setTop (mkF m 17 #[.val (.int p0), .val (.ref o1), .val (.int p2), .val (.int (p2 + (1 : Int32)))] []))
    refine Runs.by (fun _ hr => XS.goto X1.here hx rfl (pc0 := 17) (pc' := 183) rfl (hb hby d1_17) (by decide) (by decide) hr) ?_
    show Runs p e below _ (T1.setTop (mkF m 183 #[.val (.int p0), .val (.ref o1), .val (.int p2), .val (.int (p2 + (1 : Int32)))] []))
    refine Runs.by (fun _ hr => XS.iloadN X1.here hx rfl (hb hby d1_183) rfl  hr) ?_
    show Runs p e below _ (T1.setTop (mkF m 184 #[.val (.int p0), .val (.ref o1), .val (.int p2), .val (.int (p2 + (1 : Int32)))] [(.int (p2 + (1 : Int32)))]))
    refine Runs.ret X1 hx hrt hlk (Or.inl ⟨rfl, by simp, _, rfl⟩) rfl (hb hby d1_184) (by decide) (by decide) ?_
    rw [e1]
    have en : own_n p0 = (1 : Int32) := by simp [own_n, hc6]
    have ee : own_enc p0 p2.toInt.toNat f = own_e1 p0 p2.toInt.toNat f := by simp only [own_enc, hc6, if_true, if_false]
    refine ⟨?_, N1, K2, ?_⟩
    · rw [en]
    · rw [ee]; exact V1
  · -- pc 6: not p0 < (128 : Int32)
    refine Runs.by (fun _ hr => XS.icmpYes X0.here hx rfl (pc0 := 6) (pc' := 20) rfl (hb hby d1_6) rfl (flt hc6).2.1 (by decide) (by decide) hr) ?_
    show Runs p e below _ (s₁.setTop (mkF m 20 #[.val (.int p0), .val (.ref o1), .val (.int p2), .val (.int p2)] []))
    refine Runs.by (fun _ hr => XS.iloadN X0.here hx rfl (hb hby d1_20) rfl  hr) ?_
    show Runs p e below _ (s₁.setTop (mkF m 21 #[.val (.int p0), .val (.ref o1), .val (.int p2), .val (.int p2)] [(.int p0)]))
    refine Runs.by (fun _ hr => XS.sipush X0.here hx rfl (hb hby d1_21) hr) ?_
    show Runs p e below _ (s₁.setTop (mkF m 24 #[.val (.int p0), .val (.ref o1), .val (.int p2), .val (.int p2)] [(.int (2048 : Int32)), (.int p0)]))
    by_cases hc24 : p0 < (2048 : Int32)
    · -- pc 24: p0 < (2048 : Int32)
      refine Runs.by (fun _ hr => XS.icmpNo X0.here hx rfl (hb hby d1_24) rfl (tlt hc24).2.1 hr) ?_
      show Runs p e below _ (s₁.setTop (mkF m 27 #[.val (.int p0), .val (.ref o1), .val (.int p2), .val (.int p2)] []))
      refine Runs.by (fun _ hr => XS.aloadN X0.here hx rfl (hb hby d1_27) rfl rfl hr) ?_
      show Runs p e below _ (s₁.setTop (mkF m 28 #[.val (.int p0), .val (.ref o1), .val (.int p2), .val (.int p2)] [(.ref o1)]))
      refine Runs.by (fun _ hr => XS.iloadN X0.here hx rfl (hb hby d1_28) rfl  hr) ?_
      show Runs p e below _ (s₁.setTop (mkF m 29 #[.val (.int p0), .val (.ref o1), .val (.int p2), .val (.int p2)] [(.int p2), (.ref o1)]))
      refine Runs.by (fun _ hr => XS.iinc X0.here hx rfl (hb hby d1_29) rfl (l' := #[.val (.int p0), .val (.ref o1), .val (.int p2), .val (.int (p2 + (1 : Int32)))]) rfl hr) ?_
      show Runs p e below _ (s₁.setTop (mkF m 32 #[.val (.int p0), .val (.ref o1), .val (.int p2), .val (.int (p2 + (1 : Int32)))] [(.int p2), (.ref o1)]))
      refine Runs.by (fun _ hr => XS.sipush X0.here hx rfl (hb hby d1_32) hr) ?_
      show Runs p e below _ (s₁.setTop (mkF m 35 #[.val (.int p0), .val (.ref o1), .val (.int p2), .val (.int (p2 + (1 : Int32)))] [(.int (192 : Int32)), (.int p2), (.ref o1)]))
      refine Runs.by (fun _ hr => XS.iloadN X0.here hx rfl (hb hby d1_35) rfl  hr) ?_
      show Runs p e below _ (s₁.setTop (mkF m 36 #[.val (.int p0), .val (.ref o1), .val (.int p2), .val (.int (p2 + (1 : Int32)))] [(.int p0), (.int (192 : Int32)), (.int p2), (.ref o1)]))
      refine Runs.by (fun _ hr => XS.bipush X0.here hx rfl (hb hby d1_36) hr) ?_
      show Runs p e below _ (s₁.setTop (mkF m 38 #[.val (.int p0), .val (.ref o1), .val (.int p2), .val (.int (p2 + (1 : Int32)))] [(.int (6 : Int32)), (.int p0), (.int (192 : Int32)), (.int p2), (.ref o1)]))
      refine Runs.by (fun _ hr => XS.ishr X0.here hx rfl (hb hby d1_38) rfl hr) ?_
      show Runs p e below _ (s₁.setTop (mkF m 39 #[.val (.int p0), .val (.ref o1), .val (.int p2), .val (.int (p2 + (1 : Int32)))] [(.int (p0 >>> ((6 : Int32) &&& 31))), (.int (192 : Int32)), (.int p2), (.ref o1)]))
      refine Runs.by (fun _ hr => XS.ior X0.here hx rfl (hb hby d1_39) rfl hr) ?_
      show Runs p e below _ (s₁.setTop (mkF m 40 #[.val (.int p0), .val (.ref o1), .val (.int p2), .val (.int (p2 + (1 : Int32)))] [(.int ((192 : Int32) ||| (p0 >>> ((6 : Int32) &&& 31)))), (.int p2), (.ref o1)]))
      refine Runs.by (fun _ hr => XS.i2b X0.here hx rfl (hb hby d1_40) rfl hr) ?_
      show Runs p e below _ (s₁.setTop (mkF m 41 #[.val (.int p0), .val (.ref o1), .val (.int p2), .val (.int (p2 + (1 : Int32)))] [(.int (((192 : Int32) ||| (p0 >>> ((6 : Int32) &&& 31))).toInt8.toInt32)), (.int p2), (.ref o1)]))
      obtain ⟨cl3, Ar3, q3, S3, N3', H3, G3⟩ := id V0
      have hin3 : ¬ (p2 < 0 ∨ cl3.slots.size ≤ (p2).toNatClampNeg) := inb_of S3 (own_inb (by omega))
      obtain ⟨T3, h3, X3, e3, W3, st3⟩ := stB X0 hx hZ e0 Ar3 (j := p2) hin3 (g := (mkF m 41 #[.val (.int p0), .val (.ref o1), .val (.int p2), .val (.int (p2 + (1 : Int32)))] [(.int (((192 : Int32) ||| (p0 >>> ((6 : Int32) &&& 31))).toInt8.toInt32)), (.int p2), (.ref o1)])) rfl rfl (hb hby d1_41)
      have V3' := Arv.set Ar3 q3 S3 N3' H3 G3 (fits_nar_byte _) W3 (p2.toInt.toNat) (by show Int.toNat _ = _; omega) (by show _ < 8; omega)
      rw [own_set _ _ _ (by omega)] at V3'
      have V3 : Arv Z h3 o1 k .byte (8 : Int32) (own_buf (own_up f p2.toInt.toNat (nar .byte (((192 : Int32) ||| (p0 >>> ((6 : Int32) &&& 31))).toInt8.toInt32)))) (.int (0 : Int32)) := V3'
      have K4 : Keep h0 h3 [o1] := K0.wr W3 (Or.inl (List.mem_of_getElem? (i := 0) rfl))
      have N3 := Fr.snoc X3 N0 g_o1
      refine Runs.by st3 ?_
      show Runs p e below _ (T3.setTop (mkF m 42 #[.val (.int p0), .val (.ref o1), .val (.int p2), .val (.int (p2 + (1 : Int32)))] []))
      refine Runs.by (fun _ hr => XS.aloadN X3.here hx rfl (hb hby d1_42) rfl rfl hr) ?_
      show Runs p e below _ (T3.setTop (mkF m 43 #[.val (.int p0), .val (.ref o1), .val (.int p2), .val (.int (p2 + (1 : Int32)))] [(.ref o1)]))
      refine Runs.by (fun _ hr => XS.iloadN X3.here hx rfl (hb hby d1_43) rfl  hr) ?_
      show Runs p e below _ (T3.setTop (mkF m 44 #[.val (.int p0), .val (.ref o1), .val (.int p2), .val (.int (p2 + (1 : Int32)))] [(.int (p2 + (1 : Int32))), (.ref o1)]))
      refine Runs.by (fun _ hr => XS.iinc X3.here hx rfl (hb hby d1_44) rfl (l' := #[.val (.int p0), .val (.ref o1), .val (.int p2), .val (.int ((p2 + (1 : Int32)) + (1 : Int32)))]) rfl hr) ?_
      show Runs p e below _ (T3.setTop (mkF m 47 #[.val (.int p0), .val (.ref o1), .val (.int p2), .val (.int ((p2 + (1 : Int32)) + (1 : Int32)))] [(.int (p2 + (1 : Int32))), (.ref o1)]))
      refine Runs.by (fun _ hr => XS.sipush X3.here hx rfl (hb hby d1_47) hr) ?_
      show Runs p e below _ (T3.setTop (mkF m 50 #[.val (.int p0), .val (.ref o1), .val (.int p2), .val (.int ((p2 + (1 : Int32)) + (1 : Int32)))] [(.int (128 : Int32)), (.int (p2 + (1 : Int32))), (.ref o1)]))
      refine Runs.by (fun _ hr => XS.iloadN X3.here hx rfl (hb hby d1_50) rfl  hr) ?_
      show Runs p e below _ (T3.setTop (mkF m 51 #[.val (.int p0), .val (.ref o1), .val (.int p2), .val (.int ((p2 + (1 : Int32)) + (1 : Int32)))] [(.int p0), (.int (128 : Int32)), (.int (p2 + (1 : Int32))), (.ref o1)]))
      refine Runs.by (fun _ hr => XS.bipush X3.here hx rfl (hb hby d1_51) hr) ?_
      show Runs p e below _ (T3.setTop (mkF m 53 #[.val (.int p0), .val (.ref o1), .val (.int p2), .val (.int ((p2 + (1 : Int32)) + (1 : Int32)))] [(.int (63 : Int32)), (.int p0), (.int (128 : Int32)), (.int (p2 + (1 : Int32))), (.ref o1)]))
      refine Runs.by (fun _ hr => XS.iand X3.here hx rfl (hb hby d1_53) rfl hr) ?_
      show Runs p e below _ (T3.setTop (mkF m 54 #[.val (.int p0), .val (.ref o1), .val (.int p2), .val (.int ((p2 + (1 : Int32)) + (1 : Int32)))] [(.int (p0 &&& (63 : Int32))), (.int (128 : Int32)), (.int (p2 + (1 : Int32))), (.ref o1)]))
      refine Runs.by (fun _ hr => XS.ior X3.here hx rfl (hb hby d1_54) rfl hr) ?_
      show Runs p e below _ (T3.setTop (mkF m 55 #[.val (.int p0), .val (.ref o1), .val (.int p2), .val (.int ((p2 + (1 : Int32)) + (1 : Int32)))] [(.int ((128 : Int32) ||| (p0 &&& (63 : Int32)))), (.int (p2 + (1 : Int32))), (.ref o1)]))
      refine Runs.by (fun _ hr => XS.i2b X3.here hx rfl (hb hby d1_55) rfl hr) ?_
      show Runs p e below _ (T3.setTop (mkF m 56 #[.val (.int p0), .val (.ref o1), .val (.int p2), .val (.int ((p2 + (1 : Int32)) + (1 : Int32)))] [(.int (((128 : Int32) ||| (p0 &&& (63 : Int32))).toInt8.toInt32)), (.int (p2 + (1 : Int32))), (.ref o1)]))
      obtain ⟨cl5, Ar5, q5, S5, N5', H5, G5⟩ := id V3
      have hin5 : ¬ ((p2 + (1 : Int32)) < 0 ∨ cl5.slots.size ≤ ((p2 + (1 : Int32))).toNatClampNeg) := inb_of S5 (own_inb (by omega))
      obtain ⟨T5, h5, X5, e5, W5, st5⟩ := stB X3 hx hZ e3 Ar5 (j := (p2 + (1 : Int32))) hin5 (g := (mkF m 56 #[.val (.int p0), .val (.ref o1), .val (.int p2), .val (.int ((p2 + (1 : Int32)) + (1 : Int32)))] [(.int (((128 : Int32) ||| (p0 &&& (63 : Int32))).toInt8.toInt32)), (.int (p2 + (1 : Int32))), (.ref o1)])) rfl rfl (hb hby d1_56)
      have V5' := Arv.set Ar5 q5 S5 N5' H5 G5 (fits_nar_byte _) W5 ((p2.toInt.toNat + 1)) (by show Int.toNat _ = _; omega) (by show _ < 8; omega)
      rw [own_set _ _ _ (by omega)] at V5'
      have V5 : Arv Z h5 o1 k .byte (8 : Int32) (own_buf (own_up (own_up f p2.toInt.toNat (nar .byte (((192 : Int32) ||| (p0 >>> ((6 : Int32) &&& 31))).toInt8.toInt32))) (p2.toInt.toNat + 1) (nar .byte (((128 : Int32) ||| (p0 &&& (63 : Int32))).toInt8.toInt32)))) (.int (0 : Int32)) := V5'
      have K6 : Keep h0 h5 [o1] := K4.wr W5 (Or.inl (List.mem_of_getElem? (i := 0) rfl))
      have N5 := Fr.snoc X5 N3 g_o1
      refine Runs.by st5 ?_
      show Runs p e below _ (T5.setTop (mkF m 57 #[.val (.int p0), .val (.ref o1), .val (.int p2), .val (.int ((p2 + (1 : Int32)) + (1 : Int32)))] []))
      refine Runs.by (fun _ hr => XS.goto X5.here hx rfl (pc0 := 57) (pc' := 183) rfl (hb hby d1_57) (by decide) (by decide) hr) ?_
      show Runs p e below _ (T5.setTop (mkF m 183 #[.val (.int p0), .val (.ref o1), .val (.int p2), .val (.int ((p2 + (1 : Int32)) + (1 : Int32)))] []))
      refine Runs.by (fun _ hr => XS.iloadN X5.here hx rfl (hb hby d1_183) rfl  hr) ?_
      show Runs p e below _ (T5.setTop (mkF m 184 #[.val (.int p0), .val (.ref o1), .val (.int p2), .val (.int ((p2 + (1 : Int32)) + (1 : Int32)))] [(.int ((p2 + (1 : Int32)) + (1 : Int32)))]))
      refine Runs.ret X5 hx hrt hlk (Or.inl ⟨rfl, by simp, _, rfl⟩) rfl (hb hby d1_184) (by decide) (by decide) ?_
      rw [e5]
      have en : own_n p0 = (2 : Int32) := by simp [own_n, hc6, hc24]
      have ee : own_enc p0 p2.toInt.toNat f = own_e2 p0 p2.toInt.toNat f := by simp only [own_enc, hc6, hc24, if_true, if_false]
      refine ⟨?_, N5, K6, ?_⟩
      · rw [en]; exact (congrArg (fun z => some (Value.int z)) (own_a2 p2))
      · rw [ee]; exact V5
    · -- pc 24: not p0 < (2048 : Int32)
      refine Runs.by (fun _ hr => XS.icmpYes X0.here hx rfl (pc0 := 24) (pc' := 60) rfl (hb hby d1_24) rfl (flt hc24).2.1 (by decide) (by decide) hr) ?_
      show Runs p e below _ (s₁.setTop (mkF m 60 #[.val (.int p0), .val (.ref o1), .val (.int p2), .val (.int p2)] []))
      refine Runs.by (fun _ hr => XS.iloadN X0.here hx rfl (hb hby d1_60) rfl  hr) ?_
      show Runs p e below _ (s₁.setTop (mkF m 61 #[.val (.int p0), .val (.ref o1), .val (.int p2), .val (.int p2)] [(.int p0)]))
      refine Runs.by (fun _ hr => X0.ldcI hx hown (mvT hZ (hw _ (List.mem_of_getElem? (i := 14) rfl))) (g := (mkF m 61 #[.val (.int p0), .val (.ref o1), .val (.int p2), .val (.int p2)] [(.int p0)])) rfl (hb hby d1_61) hr) ?_
      show Runs p e below _ (s₁.setTop (mkF m 63 #[.val (.int p0), .val (.ref o1), .val (.int p2), .val (.int p2)] [(.int (65536 : Int32)), (.int p0)]))
      by_cases hc63 : p0 < (65536 : Int32)
      · -- pc 63: p0 < (65536 : Int32)
        refine Runs.by (fun _ hr => XS.icmpNo X0.here hx rfl (hb hby d1_63) rfl (tlt hc63).2.1 hr) ?_
        show Runs p e below _ (s₁.setTop (mkF m 66 #[.val (.int p0), .val (.ref o1), .val (.int p2), .val (.int p2)] []))
        refine Runs.by (fun _ hr => XS.aloadN X0.here hx rfl (hb hby d1_66) rfl rfl hr) ?_
        show Runs p e below _ (s₁.setTop (mkF m 67 #[.val (.int p0), .val (.ref o1), .val (.int p2), .val (.int p2)] [(.ref o1)]))
        refine Runs.by (fun _ hr => XS.iloadN X0.here hx rfl (hb hby d1_67) rfl  hr) ?_
        show Runs p e below _ (s₁.setTop (mkF m 68 #[.val (.int p0), .val (.ref o1), .val (.int p2), .val (.int p2)] [(.int p2), (.ref o1)]))
        refine Runs.by (fun _ hr => XS.iinc X0.here hx rfl (hb hby d1_68) rfl (l' := #[.val (.int p0), .val (.ref o1), .val (.int p2), .val (.int (p2 + (1 : Int32)))]) rfl hr) ?_
        show Runs p e below _ (s₁.setTop (mkF m 71 #[.val (.int p0), .val (.ref o1), .val (.int p2), .val (.int (p2 + (1 : Int32)))] [(.int p2), (.ref o1)]))
        refine Runs.by (fun _ hr => XS.sipush X0.here hx rfl (hb hby d1_71) hr) ?_
        show Runs p e below _ (s₁.setTop (mkF m 74 #[.val (.int p0), .val (.ref o1), .val (.int p2), .val (.int (p2 + (1 : Int32)))] [(.int (224 : Int32)), (.int p2), (.ref o1)]))
        refine Runs.by (fun _ hr => XS.iloadN X0.here hx rfl (hb hby d1_74) rfl  hr) ?_
        show Runs p e below _ (s₁.setTop (mkF m 75 #[.val (.int p0), .val (.ref o1), .val (.int p2), .val (.int (p2 + (1 : Int32)))] [(.int p0), (.int (224 : Int32)), (.int p2), (.ref o1)]))
        refine Runs.by (fun _ hr => XS.bipush X0.here hx rfl (hb hby d1_75) hr) ?_
        show Runs p e below _ (s₁.setTop (mkF m 77 #[.val (.int p0), .val (.ref o1), .val (.int p2), .val (.int (p2 + (1 : Int32)))] [(.int (12 : Int32)), (.int p0), (.int (224 : Int32)), (.int p2), (.ref o1)]))
        refine Runs.by (fun _ hr => XS.ishr X0.here hx rfl (hb hby d1_77) rfl hr) ?_
        show Runs p e below _ (s₁.setTop (mkF m 78 #[.val (.int p0), .val (.ref o1), .val (.int p2), .val (.int (p2 + (1 : Int32)))] [(.int (p0 >>> ((12 : Int32) &&& 31))), (.int (224 : Int32)), (.int p2), (.ref o1)]))
        refine Runs.by (fun _ hr => XS.ior X0.here hx rfl (hb hby d1_78) rfl hr) ?_
        show Runs p e below _ (s₁.setTop (mkF m 79 #[.val (.int p0), .val (.ref o1), .val (.int p2), .val (.int (p2 + (1 : Int32)))] [(.int ((224 : Int32) ||| (p0 >>> ((12 : Int32) &&& 31)))), (.int p2), (.ref o1)]))
        refine Runs.by (fun _ hr => XS.i2b X0.here hx rfl (hb hby d1_79) rfl hr) ?_
        show Runs p e below _ (s₁.setTop (mkF m 80 #[.val (.int p0), .val (.ref o1), .val (.int p2), .val (.int (p2 + (1 : Int32)))] [(.int (((224 : Int32) ||| (p0 >>> ((12 : Int32) &&& 31))).toInt8.toInt32)), (.int p2), (.ref o1)]))
        obtain ⟨cl7, Ar7, q7, S7, N7', H7, G7⟩ := id V0
        have hin7 : ¬ (p2 < 0 ∨ cl7.slots.size ≤ (p2).toNatClampNeg) := inb_of S7 (own_inb (by omega))
        obtain ⟨T7, h7, X7, e7, W7, st7⟩ := stB X0 hx hZ e0 Ar7 (j := p2) hin7 (g := (mkF m 80 #[.val (.int p0), .val (.ref o1), .val (.int p2), .val (.int (p2 + (1 : Int32)))] [(.int (((224 : Int32) ||| (p0 >>> ((12 : Int32) &&& 31))).toInt8.toInt32)), (.int p2), (.ref o1)])) rfl rfl (hb hby d1_80)
        have V7' := Arv.set Ar7 q7 S7 N7' H7 G7 (fits_nar_byte _) W7 (p2.toInt.toNat) (by show Int.toNat _ = _; omega) (by show _ < 8; omega)
        rw [own_set _ _ _ (by omega)] at V7'
        have V7 : Arv Z h7 o1 k .byte (8 : Int32) (own_buf (own_up f p2.toInt.toNat (nar .byte (((224 : Int32) ||| (p0 >>> ((12 : Int32) &&& 31))).toInt8.toInt32)))) (.int (0 : Int32)) := V7'
        have K8 : Keep h0 h7 [o1] := K0.wr W7 (Or.inl (List.mem_of_getElem? (i := 0) rfl))
        have N7 := Fr.snoc X7 N0 g_o1
        refine Runs.by st7 ?_
        show Runs p e below _ (T7.setTop (mkF m 81 #[.val (.int p0), .val (.ref o1), .val (.int p2), .val (.int (p2 + (1 : Int32)))] []))
        refine Runs.by (fun _ hr => XS.aloadN X7.here hx rfl (hb hby d1_81) rfl rfl hr) ?_
        show Runs p e below _ (T7.setTop (mkF m 82 #[.val (.int p0), .val (.ref o1), .val (.int p2), .val (.int (p2 + (1 : Int32)))] [(.ref o1)]))
        refine Runs.by (fun _ hr => XS.iloadN X7.here hx rfl (hb hby d1_82) rfl  hr) ?_
        show Runs p e below _ (T7.setTop (mkF m 83 #[.val (.int p0), .val (.ref o1), .val (.int p2), .val (.int (p2 + (1 : Int32)))] [(.int (p2 + (1 : Int32))), (.ref o1)]))
        refine Runs.by (fun _ hr => XS.iinc X7.here hx rfl (hb hby d1_83) rfl (l' := #[.val (.int p0), .val (.ref o1), .val (.int p2), .val (.int ((p2 + (1 : Int32)) + (1 : Int32)))]) rfl hr) ?_
        show Runs p e below _ (T7.setTop (mkF m 86 #[.val (.int p0), .val (.ref o1), .val (.int p2), .val (.int ((p2 + (1 : Int32)) + (1 : Int32)))] [(.int (p2 + (1 : Int32))), (.ref o1)]))
        refine Runs.by (fun _ hr => XS.sipush X7.here hx rfl (hb hby d1_86) hr) ?_
        show Runs p e below _ (T7.setTop (mkF m 89 #[.val (.int p0), .val (.ref o1), .val (.int p2), .val (.int ((p2 + (1 : Int32)) + (1 : Int32)))] [(.int (128 : Int32)), (.int (p2 + (1 : Int32))), (.ref o1)]))
        refine Runs.by (fun _ hr => XS.iloadN X7.here hx rfl (hb hby d1_89) rfl  hr) ?_
        show Runs p e below _ (T7.setTop (mkF m 90 #[.val (.int p0), .val (.ref o1), .val (.int p2), .val (.int ((p2 + (1 : Int32)) + (1 : Int32)))] [(.int p0), (.int (128 : Int32)), (.int (p2 + (1 : Int32))), (.ref o1)]))
        refine Runs.by (fun _ hr => XS.bipush X7.here hx rfl (hb hby d1_90) hr) ?_
        show Runs p e below _ (T7.setTop (mkF m 92 #[.val (.int p0), .val (.ref o1), .val (.int p2), .val (.int ((p2 + (1 : Int32)) + (1 : Int32)))] [(.int (6 : Int32)), (.int p0), (.int (128 : Int32)), (.int (p2 + (1 : Int32))), (.ref o1)]))
        refine Runs.by (fun _ hr => XS.ishr X7.here hx rfl (hb hby d1_92) rfl hr) ?_
        show Runs p e below _ (T7.setTop (mkF m 93 #[.val (.int p0), .val (.ref o1), .val (.int p2), .val (.int ((p2 + (1 : Int32)) + (1 : Int32)))] [(.int (p0 >>> ((6 : Int32) &&& 31))), (.int (128 : Int32)), (.int (p2 + (1 : Int32))), (.ref o1)]))
        refine Runs.by (fun _ hr => XS.bipush X7.here hx rfl (hb hby d1_93) hr) ?_
        show Runs p e below _ (T7.setTop (mkF m 95 #[.val (.int p0), .val (.ref o1), .val (.int p2), .val (.int ((p2 + (1 : Int32)) + (1 : Int32)))] [(.int (63 : Int32)), (.int (p0 >>> ((6 : Int32) &&& 31))), (.int (128 : Int32)), (.int (p2 + (1 : Int32))), (.ref o1)]))
        refine Runs.by (fun _ hr => XS.iand X7.here hx rfl (hb hby d1_95) rfl hr) ?_
        show Runs p e below _ (T7.setTop (mkF m 96 #[.val (.int p0), .val (.ref o1), .val (.int p2), .val (.int ((p2 + (1 : Int32)) + (1 : Int32)))] [(.int ((p0 >>> ((6 : Int32) &&& 31)) &&& (63 : Int32))), (.int (128 : Int32)), (.int (p2 + (1 : Int32))), (.ref o1)]))
        refine Runs.by (fun _ hr => XS.ior X7.here hx rfl (hb hby d1_96) rfl hr) ?_
        show Runs p e below _ (T7.setTop (mkF m 97 #[.val (.int p0), .val (.ref o1), .val (.int p2), .val (.int ((p2 + (1 : Int32)) + (1 : Int32)))] [(.int ((128 : Int32) ||| ((p0 >>> ((6 : Int32) &&& 31)) &&& (63 : Int32)))), (.int (p2 + (1 : Int32))), (.ref o1)]))
        refine Runs.by (fun _ hr => XS.i2b X7.here hx rfl (hb hby d1_97) rfl hr) ?_
        show Runs p e below _ (T7.setTop (mkF m 98 #[.val (.int p0), .val (.ref o1), .val (.int p2), .val (.int ((p2 + (1 : Int32)) + (1 : Int32)))] [(.int (((128 : Int32) ||| ((p0 >>> ((6 : Int32) &&& 31)) &&& (63 : Int32))).toInt8.toInt32)), (.int (p2 + (1 : Int32))), (.ref o1)]))
        obtain ⟨cl9, Ar9, q9, S9, N9', H9, G9⟩ := id V7
        have hin9 : ¬ ((p2 + (1 : Int32)) < 0 ∨ cl9.slots.size ≤ ((p2 + (1 : Int32))).toNatClampNeg) := inb_of S9 (own_inb (by omega))
        obtain ⟨T9, h9, X9, e9, W9, st9⟩ := stB X7 hx hZ e7 Ar9 (j := (p2 + (1 : Int32))) hin9 (g := (mkF m 98 #[.val (.int p0), .val (.ref o1), .val (.int p2), .val (.int ((p2 + (1 : Int32)) + (1 : Int32)))] [(.int (((128 : Int32) ||| ((p0 >>> ((6 : Int32) &&& 31)) &&& (63 : Int32))).toInt8.toInt32)), (.int (p2 + (1 : Int32))), (.ref o1)])) rfl rfl (hb hby d1_98)
        have V9' := Arv.set Ar9 q9 S9 N9' H9 G9 (fits_nar_byte _) W9 ((p2.toInt.toNat + 1)) (by show Int.toNat _ = _; omega) (by show _ < 8; omega)
        rw [own_set _ _ _ (by omega)] at V9'
        have V9 : Arv Z h9 o1 k .byte (8 : Int32) (own_buf (own_up (own_up f p2.toInt.toNat (nar .byte (((224 : Int32) ||| (p0 >>> ((12 : Int32) &&& 31))).toInt8.toInt32))) (p2.toInt.toNat + 1) (nar .byte (((128 : Int32) ||| ((p0 >>> ((6 : Int32) &&& 31)) &&& (63 : Int32))).toInt8.toInt32)))) (.int (0 : Int32)) := V9'
        have K10 : Keep h0 h9 [o1] := K8.wr W9 (Or.inl (List.mem_of_getElem? (i := 0) rfl))
        have N9 := Fr.snoc X9 N7 g_o1
        refine Runs.by st9 ?_
        show Runs p e below _ (T9.setTop (mkF m 99 #[.val (.int p0), .val (.ref o1), .val (.int p2), .val (.int ((p2 + (1 : Int32)) + (1 : Int32)))] []))
        refine Runs.by (fun _ hr => XS.aloadN X9.here hx rfl (hb hby d1_99) rfl rfl hr) ?_
        show Runs p e below _ (T9.setTop (mkF m 100 #[.val (.int p0), .val (.ref o1), .val (.int p2), .val (.int ((p2 + (1 : Int32)) + (1 : Int32)))] [(.ref o1)]))
        refine Runs.by (fun _ hr => XS.iloadN X9.here hx rfl (hb hby d1_100) rfl  hr) ?_
        show Runs p e below _ (T9.setTop (mkF m 101 #[.val (.int p0), .val (.ref o1), .val (.int p2), .val (.int ((p2 + (1 : Int32)) + (1 : Int32)))] [(.int ((p2 + (1 : Int32)) + (1 : Int32))), (.ref o1)]))
        refine Runs.by (fun _ hr => XS.iinc X9.here hx rfl (hb hby d1_101) rfl (l' := #[.val (.int p0), .val (.ref o1), .val (.int p2), .val (.int (((p2 + (1 : Int32)) + (1 : Int32)) + (1 : Int32)))]) rfl hr) ?_
        show Runs p e below _ (T9.setTop (mkF m 104 #[.val (.int p0), .val (.ref o1), .val (.int p2), .val (.int (((p2 + (1 : Int32)) + (1 : Int32)) + (1 : Int32)))] [(.int ((p2 + (1 : Int32)) + (1 : Int32))), (.ref o1)]))
        refine Runs.by (fun _ hr => XS.sipush X9.here hx rfl (hb hby d1_104) hr) ?_
        show Runs p e below _ (T9.setTop (mkF m 107 #[.val (.int p0), .val (.ref o1), .val (.int p2), .val (.int (((p2 + (1 : Int32)) + (1 : Int32)) + (1 : Int32)))] [(.int (128 : Int32)), (.int ((p2 + (1 : Int32)) + (1 : Int32))), (.ref o1)]))
        refine Runs.by (fun _ hr => XS.iloadN X9.here hx rfl (hb hby d1_107) rfl  hr) ?_
        show Runs p e below _ (T9.setTop (mkF m 108 #[.val (.int p0), .val (.ref o1), .val (.int p2), .val (.int (((p2 + (1 : Int32)) + (1 : Int32)) + (1 : Int32)))] [(.int p0), (.int (128 : Int32)), (.int ((p2 + (1 : Int32)) + (1 : Int32))), (.ref o1)]))
        refine Runs.by (fun _ hr => XS.bipush X9.here hx rfl (hb hby d1_108) hr) ?_
        show Runs p e below _ (T9.setTop (mkF m 110 #[.val (.int p0), .val (.ref o1), .val (.int p2), .val (.int (((p2 + (1 : Int32)) + (1 : Int32)) + (1 : Int32)))] [(.int (63 : Int32)), (.int p0), (.int (128 : Int32)), (.int ((p2 + (1 : Int32)) + (1 : Int32))), (.ref o1)]))
        refine Runs.by (fun _ hr => XS.iand X9.here hx rfl (hb hby d1_110) rfl hr) ?_
        show Runs p e below _ (T9.setTop (mkF m 111 #[.val (.int p0), .val (.ref o1), .val (.int p2), .val (.int (((p2 + (1 : Int32)) + (1 : Int32)) + (1 : Int32)))] [(.int (p0 &&& (63 : Int32))), (.int (128 : Int32)), (.int ((p2 + (1 : Int32)) + (1 : Int32))), (.ref o1)]))
        refine Runs.by (fun _ hr => XS.ior X9.here hx rfl (hb hby d1_111) rfl hr) ?_
        show Runs p e below _ (T9.setTop (mkF m 112 #[.val (.int p0), .val (.ref o1), .val (.int p2), .val (.int (((p2 + (1 : Int32)) + (1 : Int32)) + (1 : Int32)))] [(.int ((128 : Int32) ||| (p0 &&& (63 : Int32)))), (.int ((p2 + (1 : Int32)) + (1 : Int32))), (.ref o1)]))
        refine Runs.by (fun _ hr => XS.i2b X9.here hx rfl (hb hby d1_112) rfl hr) ?_
        show Runs p e below _ (T9.setTop (mkF m 113 #[.val (.int p0), .val (.ref o1), .val (.int p2), .val (.int (((p2 + (1 : Int32)) + (1 : Int32)) + (1 : Int32)))] [(.int (((128 : Int32) ||| (p0 &&& (63 : Int32))).toInt8.toInt32)), (.int ((p2 + (1 : Int32)) + (1 : Int32))), (.ref o1)]))
        obtain ⟨cl11, Ar11, q11, S11, N11', H11, G11⟩ := id V9
        have hin11 : ¬ (((p2 + (1 : Int32)) + (1 : Int32)) < 0 ∨ cl11.slots.size ≤ (((p2 + (1 : Int32)) + (1 : Int32))).toNatClampNeg) := inb_of S11 (own_inb (by omega))
        obtain ⟨T11, h11, X11, e11, W11, st11⟩ := stB X9 hx hZ e9 Ar11 (j := ((p2 + (1 : Int32)) + (1 : Int32))) hin11 (g := (mkF m 113 #[.val (.int p0), .val (.ref o1), .val (.int p2), .val (.int (((p2 + (1 : Int32)) + (1 : Int32)) + (1 : Int32)))] [(.int (((128 : Int32) ||| (p0 &&& (63 : Int32))).toInt8.toInt32)), (.int ((p2 + (1 : Int32)) + (1 : Int32))), (.ref o1)])) rfl rfl (hb hby d1_113)
        have V11' := Arv.set Ar11 q11 S11 N11' H11 G11 (fits_nar_byte _) W11 ((p2.toInt.toNat + 2)) (by show Int.toNat _ = _; omega) (by show _ < 8; omega)
        rw [own_set _ _ _ (by omega)] at V11'
        have V11 : Arv Z h11 o1 k .byte (8 : Int32) (own_buf (own_up (own_up (own_up f p2.toInt.toNat (nar .byte (((224 : Int32) ||| (p0 >>> ((12 : Int32) &&& 31))).toInt8.toInt32))) (p2.toInt.toNat + 1) (nar .byte (((128 : Int32) ||| ((p0 >>> ((6 : Int32) &&& 31)) &&& (63 : Int32))).toInt8.toInt32))) (p2.toInt.toNat + 2) (nar .byte (((128 : Int32) ||| (p0 &&& (63 : Int32))).toInt8.toInt32)))) (.int (0 : Int32)) := V11'
        have K12 : Keep h0 h11 [o1] := K10.wr W11 (Or.inl (List.mem_of_getElem? (i := 0) rfl))
        have N11 := Fr.snoc X11 N9 g_o1
        refine Runs.by st11 ?_
        show Runs p e below _ (T11.setTop (mkF m 114 #[.val (.int p0), .val (.ref o1), .val (.int p2), .val (.int (((p2 + (1 : Int32)) + (1 : Int32)) + (1 : Int32)))] []))
        refine Runs.by (fun _ hr => XS.goto X11.here hx rfl (pc0 := 114) (pc' := 183) rfl (hb hby d1_114) (by decide) (by decide) hr) ?_
        show Runs p e below _ (T11.setTop (mkF m 183 #[.val (.int p0), .val (.ref o1), .val (.int p2), .val (.int (((p2 + (1 : Int32)) + (1 : Int32)) + (1 : Int32)))] []))
        refine Runs.by (fun _ hr => XS.iloadN X11.here hx rfl (hb hby d1_183) rfl  hr) ?_
        show Runs p e below _ (T11.setTop (mkF m 184 #[.val (.int p0), .val (.ref o1), .val (.int p2), .val (.int (((p2 + (1 : Int32)) + (1 : Int32)) + (1 : Int32)))] [(.int (((p2 + (1 : Int32)) + (1 : Int32)) + (1 : Int32)))]))
        refine Runs.ret X11 hx hrt hlk (Or.inl ⟨rfl, by simp, _, rfl⟩) rfl (hb hby d1_184) (by decide) (by decide) ?_
        rw [e11]
        have en : own_n p0 = (3 : Int32) := by simp [own_n, hc6, hc24, hc63]
        have ee : own_enc p0 p2.toInt.toNat f = own_e3 p0 p2.toInt.toNat f := by simp only [own_enc, hc6, hc24, hc63, if_true, if_false]
        refine ⟨?_, N11, K12, ?_⟩
        · rw [en]; exact (congrArg (fun z => some (Value.int z)) (own_a3 p2))
        · rw [ee]; exact V11
      · -- pc 63: not p0 < (65536 : Int32)
        refine Runs.by (fun _ hr => XS.icmpYes X0.here hx rfl (pc0 := 63) (pc' := 117) rfl (hb hby d1_63) rfl (flt hc63).2.1 (by decide) (by decide) hr) ?_
        show Runs p e below _ (s₁.setTop (mkF m 117 #[.val (.int p0), .val (.ref o1), .val (.int p2), .val (.int p2)] []))
        refine Runs.by (fun _ hr => XS.aloadN X0.here hx rfl (hb hby d1_117) rfl rfl hr) ?_
        show Runs p e below _ (s₁.setTop (mkF m 118 #[.val (.int p0), .val (.ref o1), .val (.int p2), .val (.int p2)] [(.ref o1)]))
        refine Runs.by (fun _ hr => XS.iloadN X0.here hx rfl (hb hby d1_118) rfl  hr) ?_
        show Runs p e below _ (s₁.setTop (mkF m 119 #[.val (.int p0), .val (.ref o1), .val (.int p2), .val (.int p2)] [(.int p2), (.ref o1)]))
        refine Runs.by (fun _ hr => XS.iinc X0.here hx rfl (hb hby d1_119) rfl (l' := #[.val (.int p0), .val (.ref o1), .val (.int p2), .val (.int (p2 + (1 : Int32)))]) rfl hr) ?_
        show Runs p e below _ (s₁.setTop (mkF m 122 #[.val (.int p0), .val (.ref o1), .val (.int p2), .val (.int (p2 + (1 : Int32)))] [(.int p2), (.ref o1)]))
        refine Runs.by (fun _ hr => XS.sipush X0.here hx rfl (hb hby d1_122) hr) ?_
        show Runs p e below _ (s₁.setTop (mkF m 125 #[.val (.int p0), .val (.ref o1), .val (.int p2), .val (.int (p2 + (1 : Int32)))] [(.int (240 : Int32)), (.int p2), (.ref o1)]))
        refine Runs.by (fun _ hr => XS.iloadN X0.here hx rfl (hb hby d1_125) rfl  hr) ?_
        show Runs p e below _ (s₁.setTop (mkF m 126 #[.val (.int p0), .val (.ref o1), .val (.int p2), .val (.int (p2 + (1 : Int32)))] [(.int p0), (.int (240 : Int32)), (.int p2), (.ref o1)]))
        refine Runs.by (fun _ hr => XS.bipush X0.here hx rfl (hb hby d1_126) hr) ?_
        show Runs p e below _ (s₁.setTop (mkF m 128 #[.val (.int p0), .val (.ref o1), .val (.int p2), .val (.int (p2 + (1 : Int32)))] [(.int (18 : Int32)), (.int p0), (.int (240 : Int32)), (.int p2), (.ref o1)]))
        refine Runs.by (fun _ hr => XS.ishr X0.here hx rfl (hb hby d1_128) rfl hr) ?_
        show Runs p e below _ (s₁.setTop (mkF m 129 #[.val (.int p0), .val (.ref o1), .val (.int p2), .val (.int (p2 + (1 : Int32)))] [(.int (p0 >>> ((18 : Int32) &&& 31))), (.int (240 : Int32)), (.int p2), (.ref o1)]))
        refine Runs.by (fun _ hr => XS.ior X0.here hx rfl (hb hby d1_129) rfl hr) ?_
        show Runs p e below _ (s₁.setTop (mkF m 130 #[.val (.int p0), .val (.ref o1), .val (.int p2), .val (.int (p2 + (1 : Int32)))] [(.int ((240 : Int32) ||| (p0 >>> ((18 : Int32) &&& 31)))), (.int p2), (.ref o1)]))
        refine Runs.by (fun _ hr => XS.i2b X0.here hx rfl (hb hby d1_130) rfl hr) ?_
        show Runs p e below _ (s₁.setTop (mkF m 131 #[.val (.int p0), .val (.ref o1), .val (.int p2), .val (.int (p2 + (1 : Int32)))] [(.int (((240 : Int32) ||| (p0 >>> ((18 : Int32) &&& 31))).toInt8.toInt32)), (.int p2), (.ref o1)]))
        obtain ⟨cl13, Ar13, q13, S13, N13', H13, G13⟩ := id V0
        have hin13 : ¬ (p2 < 0 ∨ cl13.slots.size ≤ (p2).toNatClampNeg) := inb_of S13 (own_inb (by omega))
        obtain ⟨T13, h13, X13, e13, W13, st13⟩ := stB X0 hx hZ e0 Ar13 (j := p2) hin13 (g := (mkF m 131 #[.val (.int p0), .val (.ref o1), .val (.int p2), .val (.int (p2 + (1 : Int32)))] [(.int (((240 : Int32) ||| (p0 >>> ((18 : Int32) &&& 31))).toInt8.toInt32)), (.int p2), (.ref o1)])) rfl rfl (hb hby d1_131)
        have V13' := Arv.set Ar13 q13 S13 N13' H13 G13 (fits_nar_byte _) W13 (p2.toInt.toNat) (by show Int.toNat _ = _; omega) (by show _ < 8; omega)
        rw [own_set _ _ _ (by omega)] at V13'
        have V13 : Arv Z h13 o1 k .byte (8 : Int32) (own_buf (own_up f p2.toInt.toNat (nar .byte (((240 : Int32) ||| (p0 >>> ((18 : Int32) &&& 31))).toInt8.toInt32)))) (.int (0 : Int32)) := V13'
        have K14 : Keep h0 h13 [o1] := K0.wr W13 (Or.inl (List.mem_of_getElem? (i := 0) rfl))
        have N13 := Fr.snoc X13 N0 g_o1
        refine Runs.by st13 ?_
        show Runs p e below _ (T13.setTop (mkF m 132 #[.val (.int p0), .val (.ref o1), .val (.int p2), .val (.int (p2 + (1 : Int32)))] []))
        refine Runs.by (fun _ hr => XS.aloadN X13.here hx rfl (hb hby d1_132) rfl rfl hr) ?_
        show Runs p e below _ (T13.setTop (mkF m 133 #[.val (.int p0), .val (.ref o1), .val (.int p2), .val (.int (p2 + (1 : Int32)))] [(.ref o1)]))
        refine Runs.by (fun _ hr => XS.iloadN X13.here hx rfl (hb hby d1_133) rfl  hr) ?_
        show Runs p e below _ (T13.setTop (mkF m 134 #[.val (.int p0), .val (.ref o1), .val (.int p2), .val (.int (p2 + (1 : Int32)))] [(.int (p2 + (1 : Int32))), (.ref o1)]))
        refine Runs.by (fun _ hr => XS.iinc X13.here hx rfl (hb hby d1_134) rfl (l' := #[.val (.int p0), .val (.ref o1), .val (.int p2), .val (.int ((p2 + (1 : Int32)) + (1 : Int32)))]) rfl hr) ?_
        show Runs p e below _ (T13.setTop (mkF m 137 #[.val (.int p0), .val (.ref o1), .val (.int p2), .val (.int ((p2 + (1 : Int32)) + (1 : Int32)))] [(.int (p2 + (1 : Int32))), (.ref o1)]))
        refine Runs.by (fun _ hr => XS.sipush X13.here hx rfl (hb hby d1_137) hr) ?_
        show Runs p e below _ (T13.setTop (mkF m 140 #[.val (.int p0), .val (.ref o1), .val (.int p2), .val (.int ((p2 + (1 : Int32)) + (1 : Int32)))] [(.int (128 : Int32)), (.int (p2 + (1 : Int32))), (.ref o1)]))
        refine Runs.by (fun _ hr => XS.iloadN X13.here hx rfl (hb hby d1_140) rfl  hr) ?_
        show Runs p e below _ (T13.setTop (mkF m 141 #[.val (.int p0), .val (.ref o1), .val (.int p2), .val (.int ((p2 + (1 : Int32)) + (1 : Int32)))] [(.int p0), (.int (128 : Int32)), (.int (p2 + (1 : Int32))), (.ref o1)]))
        refine Runs.by (fun _ hr => XS.bipush X13.here hx rfl (hb hby d1_141) hr) ?_
        show Runs p e below _ (T13.setTop (mkF m 143 #[.val (.int p0), .val (.ref o1), .val (.int p2), .val (.int ((p2 + (1 : Int32)) + (1 : Int32)))] [(.int (12 : Int32)), (.int p0), (.int (128 : Int32)), (.int (p2 + (1 : Int32))), (.ref o1)]))
        refine Runs.by (fun _ hr => XS.ishr X13.here hx rfl (hb hby d1_143) rfl hr) ?_
        show Runs p e below _ (T13.setTop (mkF m 144 #[.val (.int p0), .val (.ref o1), .val (.int p2), .val (.int ((p2 + (1 : Int32)) + (1 : Int32)))] [(.int (p0 >>> ((12 : Int32) &&& 31))), (.int (128 : Int32)), (.int (p2 + (1 : Int32))), (.ref o1)]))
        refine Runs.by (fun _ hr => XS.bipush X13.here hx rfl (hb hby d1_144) hr) ?_
        show Runs p e below _ (T13.setTop (mkF m 146 #[.val (.int p0), .val (.ref o1), .val (.int p2), .val (.int ((p2 + (1 : Int32)) + (1 : Int32)))] [(.int (63 : Int32)), (.int (p0 >>> ((12 : Int32) &&& 31))), (.int (128 : Int32)), (.int (p2 + (1 : Int32))), (.ref o1)]))
        refine Runs.by (fun _ hr => XS.iand X13.here hx rfl (hb hby d1_146) rfl hr) ?_
        show Runs p e below _ (T13.setTop (mkF m 147 #[.val (.int p0), .val (.ref o1), .val (.int p2), .val (.int ((p2 + (1 : Int32)) + (1 : Int32)))] [(.int ((p0 >>> ((12 : Int32) &&& 31)) &&& (63 : Int32))), (.int (128 : Int32)), (.int (p2 + (1 : Int32))), (.ref o1)]))
        refine Runs.by (fun _ hr => XS.ior X13.here hx rfl (hb hby d1_147) rfl hr) ?_
        show Runs p e below _ (T13.setTop (mkF m 148 #[.val (.int p0), .val (.ref o1), .val (.int p2), .val (.int ((p2 + (1 : Int32)) + (1 : Int32)))] [(.int ((128 : Int32) ||| ((p0 >>> ((12 : Int32) &&& 31)) &&& (63 : Int32)))), (.int (p2 + (1 : Int32))), (.ref o1)]))
        refine Runs.by (fun _ hr => XS.i2b X13.here hx rfl (hb hby d1_148) rfl hr) ?_
        show Runs p e below _ (T13.setTop (mkF m 149 #[.val (.int p0), .val (.ref o1), .val (.int p2), .val (.int ((p2 + (1 : Int32)) + (1 : Int32)))] [(.int (((128 : Int32) ||| ((p0 >>> ((12 : Int32) &&& 31)) &&& (63 : Int32))).toInt8.toInt32)), (.int (p2 + (1 : Int32))), (.ref o1)]))
        obtain ⟨cl15, Ar15, q15, S15, N15', H15, G15⟩ := id V13
        have hin15 : ¬ ((p2 + (1 : Int32)) < 0 ∨ cl15.slots.size ≤ ((p2 + (1 : Int32))).toNatClampNeg) := inb_of S15 (own_inb (by omega))
        obtain ⟨T15, h15, X15, e15, W15, st15⟩ := stB X13 hx hZ e13 Ar15 (j := (p2 + (1 : Int32))) hin15 (g := (mkF m 149 #[.val (.int p0), .val (.ref o1), .val (.int p2), .val (.int ((p2 + (1 : Int32)) + (1 : Int32)))] [(.int (((128 : Int32) ||| ((p0 >>> ((12 : Int32) &&& 31)) &&& (63 : Int32))).toInt8.toInt32)), (.int (p2 + (1 : Int32))), (.ref o1)])) rfl rfl (hb hby d1_149)
        have V15' := Arv.set Ar15 q15 S15 N15' H15 G15 (fits_nar_byte _) W15 ((p2.toInt.toNat + 1)) (by show Int.toNat _ = _; omega) (by show _ < 8; omega)
        rw [own_set _ _ _ (by omega)] at V15'
        have V15 : Arv Z h15 o1 k .byte (8 : Int32) (own_buf (own_up (own_up f p2.toInt.toNat (nar .byte (((240 : Int32) ||| (p0 >>> ((18 : Int32) &&& 31))).toInt8.toInt32))) (p2.toInt.toNat + 1) (nar .byte (((128 : Int32) ||| ((p0 >>> ((12 : Int32) &&& 31)) &&& (63 : Int32))).toInt8.toInt32)))) (.int (0 : Int32)) := V15'
        have K16 : Keep h0 h15 [o1] := K14.wr W15 (Or.inl (List.mem_of_getElem? (i := 0) rfl))
        have N15 := Fr.snoc X15 N13 g_o1
        refine Runs.by st15 ?_
        show Runs p e below _ (T15.setTop (mkF m 150 #[.val (.int p0), .val (.ref o1), .val (.int p2), .val (.int ((p2 + (1 : Int32)) + (1 : Int32)))] []))
        refine Runs.by (fun _ hr => XS.aloadN X15.here hx rfl (hb hby d1_150) rfl rfl hr) ?_
        show Runs p e below _ (T15.setTop (mkF m 151 #[.val (.int p0), .val (.ref o1), .val (.int p2), .val (.int ((p2 + (1 : Int32)) + (1 : Int32)))] [(.ref o1)]))
        refine Runs.by (fun _ hr => XS.iloadN X15.here hx rfl (hb hby d1_151) rfl  hr) ?_
        show Runs p e below _ (T15.setTop (mkF m 152 #[.val (.int p0), .val (.ref o1), .val (.int p2), .val (.int ((p2 + (1 : Int32)) + (1 : Int32)))] [(.int ((p2 + (1 : Int32)) + (1 : Int32))), (.ref o1)]))
        refine Runs.by (fun _ hr => XS.iinc X15.here hx rfl (hb hby d1_152) rfl (l' := #[.val (.int p0), .val (.ref o1), .val (.int p2), .val (.int (((p2 + (1 : Int32)) + (1 : Int32)) + (1 : Int32)))]) rfl hr) ?_
        show Runs p e below _ (T15.setTop (mkF m 155 #[.val (.int p0), .val (.ref o1), .val (.int p2), .val (.int (((p2 + (1 : Int32)) + (1 : Int32)) + (1 : Int32)))] [(.int ((p2 + (1 : Int32)) + (1 : Int32))), (.ref o1)]))
        refine Runs.by (fun _ hr => XS.sipush X15.here hx rfl (hb hby d1_155) hr) ?_
        show Runs p e below _ (T15.setTop (mkF m 158 #[.val (.int p0), .val (.ref o1), .val (.int p2), .val (.int (((p2 + (1 : Int32)) + (1 : Int32)) + (1 : Int32)))] [(.int (128 : Int32)), (.int ((p2 + (1 : Int32)) + (1 : Int32))), (.ref o1)]))
        refine Runs.by (fun _ hr => XS.iloadN X15.here hx rfl (hb hby d1_158) rfl  hr) ?_
        show Runs p e below _ (T15.setTop (mkF m 159 #[.val (.int p0), .val (.ref o1), .val (.int p2), .val (.int (((p2 + (1 : Int32)) + (1 : Int32)) + (1 : Int32)))] [(.int p0), (.int (128 : Int32)), (.int ((p2 + (1 : Int32)) + (1 : Int32))), (.ref o1)]))
        refine Runs.by (fun _ hr => XS.bipush X15.here hx rfl (hb hby d1_159) hr) ?_
        show Runs p e below _ (T15.setTop (mkF m 161 #[.val (.int p0), .val (.ref o1), .val (.int p2), .val (.int (((p2 + (1 : Int32)) + (1 : Int32)) + (1 : Int32)))] [(.int (6 : Int32)), (.int p0), (.int (128 : Int32)), (.int ((p2 + (1 : Int32)) + (1 : Int32))), (.ref o1)]))
        refine Runs.by (fun _ hr => XS.ishr X15.here hx rfl (hb hby d1_161) rfl hr) ?_
        show Runs p e below _ (T15.setTop (mkF m 162 #[.val (.int p0), .val (.ref o1), .val (.int p2), .val (.int (((p2 + (1 : Int32)) + (1 : Int32)) + (1 : Int32)))] [(.int (p0 >>> ((6 : Int32) &&& 31))), (.int (128 : Int32)), (.int ((p2 + (1 : Int32)) + (1 : Int32))), (.ref o1)]))
        refine Runs.by (fun _ hr => XS.bipush X15.here hx rfl (hb hby d1_162) hr) ?_
        show Runs p e below _ (T15.setTop (mkF m 164 #[.val (.int p0), .val (.ref o1), .val (.int p2), .val (.int (((p2 + (1 : Int32)) + (1 : Int32)) + (1 : Int32)))] [(.int (63 : Int32)), (.int (p0 >>> ((6 : Int32) &&& 31))), (.int (128 : Int32)), (.int ((p2 + (1 : Int32)) + (1 : Int32))), (.ref o1)]))
        refine Runs.by (fun _ hr => XS.iand X15.here hx rfl (hb hby d1_164) rfl hr) ?_
        show Runs p e below _ (T15.setTop (mkF m 165 #[.val (.int p0), .val (.ref o1), .val (.int p2), .val (.int (((p2 + (1 : Int32)) + (1 : Int32)) + (1 : Int32)))] [(.int ((p0 >>> ((6 : Int32) &&& 31)) &&& (63 : Int32))), (.int (128 : Int32)), (.int ((p2 + (1 : Int32)) + (1 : Int32))), (.ref o1)]))
        refine Runs.by (fun _ hr => XS.ior X15.here hx rfl (hb hby d1_165) rfl hr) ?_
        show Runs p e below _ (T15.setTop (mkF m 166 #[.val (.int p0), .val (.ref o1), .val (.int p2), .val (.int (((p2 + (1 : Int32)) + (1 : Int32)) + (1 : Int32)))] [(.int ((128 : Int32) ||| ((p0 >>> ((6 : Int32) &&& 31)) &&& (63 : Int32)))), (.int ((p2 + (1 : Int32)) + (1 : Int32))), (.ref o1)]))
        refine Runs.by (fun _ hr => XS.i2b X15.here hx rfl (hb hby d1_166) rfl hr) ?_
        show Runs p e below _ (T15.setTop (mkF m 167 #[.val (.int p0), .val (.ref o1), .val (.int p2), .val (.int (((p2 + (1 : Int32)) + (1 : Int32)) + (1 : Int32)))] [(.int (((128 : Int32) ||| ((p0 >>> ((6 : Int32) &&& 31)) &&& (63 : Int32))).toInt8.toInt32)), (.int ((p2 + (1 : Int32)) + (1 : Int32))), (.ref o1)]))
        obtain ⟨cl17, Ar17, q17, S17, N17', H17, G17⟩ := id V15
        have hin17 : ¬ (((p2 + (1 : Int32)) + (1 : Int32)) < 0 ∨ cl17.slots.size ≤ (((p2 + (1 : Int32)) + (1 : Int32))).toNatClampNeg) := inb_of S17 (own_inb (by omega))
        obtain ⟨T17, h17, X17, e17, W17, st17⟩ := stB X15 hx hZ e15 Ar17 (j := ((p2 + (1 : Int32)) + (1 : Int32))) hin17 (g := (mkF m 167 #[.val (.int p0), .val (.ref o1), .val (.int p2), .val (.int (((p2 + (1 : Int32)) + (1 : Int32)) + (1 : Int32)))] [(.int (((128 : Int32) ||| ((p0 >>> ((6 : Int32) &&& 31)) &&& (63 : Int32))).toInt8.toInt32)), (.int ((p2 + (1 : Int32)) + (1 : Int32))), (.ref o1)])) rfl rfl (hb hby d1_167)
        have V17' := Arv.set Ar17 q17 S17 N17' H17 G17 (fits_nar_byte _) W17 ((p2.toInt.toNat + 2)) (by show Int.toNat _ = _; omega) (by show _ < 8; omega)
        rw [own_set _ _ _ (by omega)] at V17'
        have V17 : Arv Z h17 o1 k .byte (8 : Int32) (own_buf (own_up (own_up (own_up f p2.toInt.toNat (nar .byte (((240 : Int32) ||| (p0 >>> ((18 : Int32) &&& 31))).toInt8.toInt32))) (p2.toInt.toNat + 1) (nar .byte (((128 : Int32) ||| ((p0 >>> ((12 : Int32) &&& 31)) &&& (63 : Int32))).toInt8.toInt32))) (p2.toInt.toNat + 2) (nar .byte (((128 : Int32) ||| ((p0 >>> ((6 : Int32) &&& 31)) &&& (63 : Int32))).toInt8.toInt32)))) (.int (0 : Int32)) := V17'
        have K18 : Keep h0 h17 [o1] := K16.wr W17 (Or.inl (List.mem_of_getElem? (i := 0) rfl))
        have N17 := Fr.snoc X17 N15 g_o1
        refine Runs.by st17 ?_
        show Runs p e below _ (T17.setTop (mkF m 168 #[.val (.int p0), .val (.ref o1), .val (.int p2), .val (.int (((p2 + (1 : Int32)) + (1 : Int32)) + (1 : Int32)))] []))
        refine Runs.by (fun _ hr => XS.aloadN X17.here hx rfl (hb hby d1_168) rfl rfl hr) ?_
        show Runs p e below _ (T17.setTop (mkF m 169 #[.val (.int p0), .val (.ref o1), .val (.int p2), .val (.int (((p2 + (1 : Int32)) + (1 : Int32)) + (1 : Int32)))] [(.ref o1)]))
        refine Runs.by (fun _ hr => XS.iloadN X17.here hx rfl (hb hby d1_169) rfl  hr) ?_
        show Runs p e below _ (T17.setTop (mkF m 170 #[.val (.int p0), .val (.ref o1), .val (.int p2), .val (.int (((p2 + (1 : Int32)) + (1 : Int32)) + (1 : Int32)))] [(.int (((p2 + (1 : Int32)) + (1 : Int32)) + (1 : Int32))), (.ref o1)]))
        refine Runs.by (fun _ hr => XS.iinc X17.here hx rfl (hb hby d1_170) rfl (l' := #[.val (.int p0), .val (.ref o1), .val (.int p2), .val (.int ((((p2 + (1 : Int32)) + (1 : Int32)) + (1 : Int32)) + (1 : Int32)))]) rfl hr) ?_
        show Runs p e below _ (T17.setTop (mkF m 173 #[.val (.int p0), .val (.ref o1), .val (.int p2), .val (.int ((((p2 + (1 : Int32)) + (1 : Int32)) + (1 : Int32)) + (1 : Int32)))] [(.int (((p2 + (1 : Int32)) + (1 : Int32)) + (1 : Int32))), (.ref o1)]))
        refine Runs.by (fun _ hr => XS.sipush X17.here hx rfl (hb hby d1_173) hr) ?_
        show Runs p e below _ (T17.setTop (mkF m 176 #[.val (.int p0), .val (.ref o1), .val (.int p2), .val (.int ((((p2 + (1 : Int32)) + (1 : Int32)) + (1 : Int32)) + (1 : Int32)))] [(.int (128 : Int32)), (.int (((p2 + (1 : Int32)) + (1 : Int32)) + (1 : Int32))), (.ref o1)]))
        refine Runs.by (fun _ hr => XS.iloadN X17.here hx rfl (hb hby d1_176) rfl  hr) ?_
        show Runs p e below _ (T17.setTop (mkF m 177 #[.val (.int p0), .val (.ref o1), .val (.int p2), .val (.int ((((p2 + (1 : Int32)) + (1 : Int32)) + (1 : Int32)) + (1 : Int32)))] [(.int p0), (.int (128 : Int32)), (.int (((p2 + (1 : Int32)) + (1 : Int32)) + (1 : Int32))), (.ref o1)]))
        refine Runs.by (fun _ hr => XS.bipush X17.here hx rfl (hb hby d1_177) hr) ?_
        show Runs p e below _ (T17.setTop (mkF m 179 #[.val (.int p0), .val (.ref o1), .val (.int p2), .val (.int ((((p2 + (1 : Int32)) + (1 : Int32)) + (1 : Int32)) + (1 : Int32)))] [(.int (63 : Int32)), (.int p0), (.int (128 : Int32)), (.int (((p2 + (1 : Int32)) + (1 : Int32)) + (1 : Int32))), (.ref o1)]))
        refine Runs.by (fun _ hr => XS.iand X17.here hx rfl (hb hby d1_179) rfl hr) ?_
        show Runs p e below _ (T17.setTop (mkF m 180 #[.val (.int p0), .val (.ref o1), .val (.int p2), .val (.int ((((p2 + (1 : Int32)) + (1 : Int32)) + (1 : Int32)) + (1 : Int32)))] [(.int (p0 &&& (63 : Int32))), (.int (128 : Int32)), (.int (((p2 + (1 : Int32)) + (1 : Int32)) + (1 : Int32))), (.ref o1)]))
        refine Runs.by (fun _ hr => XS.ior X17.here hx rfl (hb hby d1_180) rfl hr) ?_
        show Runs p e below _ (T17.setTop (mkF m 181 #[.val (.int p0), .val (.ref o1), .val (.int p2), .val (.int ((((p2 + (1 : Int32)) + (1 : Int32)) + (1 : Int32)) + (1 : Int32)))] [(.int ((128 : Int32) ||| (p0 &&& (63 : Int32)))), (.int (((p2 + (1 : Int32)) + (1 : Int32)) + (1 : Int32))), (.ref o1)]))
        refine Runs.by (fun _ hr => XS.i2b X17.here hx rfl (hb hby d1_181) rfl hr) ?_
        show Runs p e below _ (T17.setTop (mkF m 182 #[.val (.int p0), .val (.ref o1), .val (.int p2), .val (.int ((((p2 + (1 : Int32)) + (1 : Int32)) + (1 : Int32)) + (1 : Int32)))] [(.int (((128 : Int32) ||| (p0 &&& (63 : Int32))).toInt8.toInt32)), (.int (((p2 + (1 : Int32)) + (1 : Int32)) + (1 : Int32))), (.ref o1)]))
        obtain ⟨cl19, Ar19, q19, S19, N19', H19, G19⟩ := id V17
        have hin19 : ¬ ((((p2 + (1 : Int32)) + (1 : Int32)) + (1 : Int32)) < 0 ∨ cl19.slots.size ≤ ((((p2 + (1 : Int32)) + (1 : Int32)) + (1 : Int32))).toNatClampNeg) := inb_of S19 (own_inb (by omega))
        obtain ⟨T19, h19, X19, e19, W19, st19⟩ := stB X17 hx hZ e17 Ar19 (j := (((p2 + (1 : Int32)) + (1 : Int32)) + (1 : Int32))) hin19 (g := (mkF m 182 #[.val (.int p0), .val (.ref o1), .val (.int p2), .val (.int ((((p2 + (1 : Int32)) + (1 : Int32)) + (1 : Int32)) + (1 : Int32)))] [(.int (((128 : Int32) ||| (p0 &&& (63 : Int32))).toInt8.toInt32)), (.int (((p2 + (1 : Int32)) + (1 : Int32)) + (1 : Int32))), (.ref o1)])) rfl rfl (hb hby d1_182)
        have V19' := Arv.set Ar19 q19 S19 N19' H19 G19 (fits_nar_byte _) W19 ((p2.toInt.toNat + 3)) (by show Int.toNat _ = _; omega) (by show _ < 8; omega)
        rw [own_set _ _ _ (by omega)] at V19'
        have V19 : Arv Z h19 o1 k .byte (8 : Int32) (own_buf (own_up (own_up (own_up (own_up f p2.toInt.toNat (nar .byte (((240 : Int32) ||| (p0 >>> ((18 : Int32) &&& 31))).toInt8.toInt32))) (p2.toInt.toNat + 1) (nar .byte (((128 : Int32) ||| ((p0 >>> ((12 : Int32) &&& 31)) &&& (63 : Int32))).toInt8.toInt32))) (p2.toInt.toNat + 2) (nar .byte (((128 : Int32) ||| ((p0 >>> ((6 : Int32) &&& 31)) &&& (63 : Int32))).toInt8.toInt32))) (p2.toInt.toNat + 3) (nar .byte (((128 : Int32) ||| (p0 &&& (63 : Int32))).toInt8.toInt32)))) (.int (0 : Int32)) := V19'
        have K20 : Keep h0 h19 [o1] := K18.wr W19 (Or.inl (List.mem_of_getElem? (i := 0) rfl))
        have N19 := Fr.snoc X19 N17 g_o1
        refine Runs.by st19 ?_
        show Runs p e below _ (T19.setTop (mkF m 183 #[.val (.int p0), .val (.ref o1), .val (.int p2), .val (.int ((((p2 + (1 : Int32)) + (1 : Int32)) + (1 : Int32)) + (1 : Int32)))] []))
        refine Runs.by (fun _ hr => XS.iloadN X19.here hx rfl (hb hby d1_183) rfl  hr) ?_
        show Runs p e below _ (T19.setTop (mkF m 184 #[.val (.int p0), .val (.ref o1), .val (.int p2), .val (.int ((((p2 + (1 : Int32)) + (1 : Int32)) + (1 : Int32)) + (1 : Int32)))] [(.int ((((p2 + (1 : Int32)) + (1 : Int32)) + (1 : Int32)) + (1 : Int32)))]))
        refine Runs.ret X19 hx hrt hlk (Or.inl ⟨rfl, by simp, _, rfl⟩) rfl (hb hby d1_184) (by decide) (by decide) ?_
        rw [e19]
        have en : own_n p0 = (4 : Int32) := by simp [own_n, hc6, hc24, hc63]
        have ee : own_enc p0 p2.toInt.toNat f = own_e4 p0 p2.toInt.toNat f := by simp only [own_enc, hc6, hc24, hc63, if_true, if_false]
        refine ⟨?_, N19, K20, ?_⟩
        · rw [en]; exact (congrArg (fun z => some (Value.int z)) (own_a4 p2))
        · rw [ee]; exact V19
theorem d2_0 : decode method_3_code 0 = .ok (.iload_n 1, 1) := by decide +kernel
theorem d2_1 : decode method_3_code 1 = .ok (.iload_n 2, 1) := by decide +kernel
theorem d2_2 : decode method_3_code 2 = .ok (.if_icmp .lt 8, 3) := by decide +kernel
theorem d2_5 : decode method_3_code 5 = .ok (.iload_n 1, 1) := by decide +kernel
theorem d2_6 : decode method_3_code 6 = .ok (.iload_n 3, 1) := by decide +kernel
theorem d2_7 : decode method_3_code 7 = .ok (.if_icmp .lt 11, 3) := by decide +kernel
theorem d2_10 : decode method_3_code 10 = .ok (.aload_n 0, 1) := by decide +kernel
theorem d2_11 : decode method_3_code 11 = .ok (.iload_n 1, 1) := by decide +kernel
theorem d2_12 : decode method_3_code 12 = .ok (.baload, 1) := by decide +kernel
theorem d2_13 : decode method_3_code 13 = .ok (.iload 4, 2) := by decide +kernel
theorem d2_15 : decode method_3_code 15 = .ok (.if_icmp .ne 7, 3) := by decide +kernel
theorem d2_18 : decode method_3_code 18 = .ok (.iconst 1, 1) := by decide +kernel
theorem d2_19 : decode method_3_code 19 = .ok (.goto 4, 3) := by decide +kernel
theorem d2_22 : decode method_3_code 22 = .ok (.iconst 0, 1) := by decide +kernel
theorem d2_23 : decode method_3_code 23 = .ok (.ireturn, 1) := by decide +kernel
theorem ef_2_1 (m : MethodId) (o0 : Addr) (p1 : Int32) (p2 : Int32) (p3 : Int32) (p4 : Int32) : entryFrame m #[(.ref o0), (.int p1), (.int p2), (.int p3), (.int p4)] 5 = mkF m 0 #[.val (.ref o0), .val (.int p1), .val (.int p2), .val (.int p3), .val (.int p4)] [] := by first | (simp [entryFrame, mkF, argsToLocals, Value.category]; done) | rfl
theorem pn_com_example_usher_usher_Utf8ValidatorEncodePinLaw : plainName "com/example/usher/usher/Utf8ValidatorEncodePinLaw" = true := by first | (simp [plainName, overriddenIn]; done) | decide +kernel
def Q_rm2 (Z : State) (o0 : Addr) (p1 : Int32) (p2 : Int32) (p3 : Int32) (p4 : Int32) (k : ClassId) (f : Nat → Int32) (h0 : Heap) (n0 : Nat) (v : Option Value) (h : Heap) (L : List Loc) : Prop := v = some (.int 1) ∧ Fr n0 L ∧ h = h0
set_option maxRecDepth 65536 in
set_option maxHeartbeats 40000000 in
theorem rm2 (l : Launch) (Z : State) (a0 : Array Value) (hw : ∀ d ∈ tables_1, d.before a0 Z = true) (ws : List Jvm.Cond) (o0 : Addr) (p1 : Int32) (p2 : Int32) (p3 : Int32) (p4 : Int32) (k : ClassId) (f : Nat → Int32) (h0 : Heap) (n0 : Nat) (Z0 : n0 ≤ h0.size) (V0 : Arv Z h0 o0 k .byte (8 : Int32) (own_buf f) (.int (0 : Int32))) (hr : 0 ≤ p1.toInt ∧ p1.toInt < 8) (hOK : (¬ p1 < p2 ∧ p1 < p3) ∨ f p1.toInt.toNat = p4) :
    MetFree l (⟨"com/example/usher/usher/Utf8ValidatorEncodePinLaw", "untouched", "([BIIIB)Z"⟩ : MethodName) (head1 (Jvm.Cond.code (⟨"com/example/usher/usher/Utf8ValidatorEncodePinLaw", "untouched", "([BIIIB)Z"⟩ : MethodName) method_3_code 5 (some .boolean) :: ws) ({ frames := 0, cells := 0, slots := 0, locals := 0 } : Room)) (fun a U => a = #[(.ref o0), (.int p1), (.int p2), (.int p3), (.int p4)] ∧ Z.Warmed39 U.vm ∧ U.heap = h0) (fun _ _ _ _ _ => True) (fun _ U o U' => ∃ v L, o = .returned v ∧ Q_rm2 Z o0 p1 p2 p3 p4 k f h0 n0 v U'.heap L ∧ FrameEnd U o U' L ({ frames := 0, cells := 0, slots := 0, locals := 0 } : Room).cells ({ frames := 0, cells := 0, slots := 0, locals := 0 } : Room).slots) := by
  refine MetFree.of_bodySF (plainFor_of_name pn_com_example_usher_usher_Utf8ValidatorEncodePinLaw) hisR ?_
  intro p e s m args below meth c s₁ Bd hml0 hP hK
  obtain ⟨rfl, hZ, hh⟩ := hP
  have hx := Bd.exec
  have hby := Bd.bytes
  have hlk := BodyLoose.notSynchronized Bd
  have hrt := Bd.returns
  have hml : c.maxLocals = 5 := hml0
  have hown : s.vm.findClass "com/example/usher/usher/Utf8ValidatorEncodePinLaw" = some m.cls := findClass_of_methodNamed Bd.named
  have hnm := (name_of_methodNamed Bd.named Bd.method).1
  have X0 : Stand p l e ({ frames := 0, cells := 0, slots := 0, locals := 0 } : Room) s m #[(.ref o0), (.int p1), (.int p2), (.int p3), (.int p4)] below meth c s₁ [] 0 0 := Stand.of_body Bd
  have e0 : s₁.heap = h0 := by rw [← hh, Bd.state]; rfl
  have N0 := Fr.nil n0
  have K0 : Keep h0 h0 [] := Keep.refl h0 _
  show Runs p e below (QE s (Q_rm2 Z o0 p1 p2 p3 p4 k f h0 n0) ({ frames := 0, cells := 0, slots := 0, locals := 0 } : Room).cells ({ frames := 0, cells := 0, slots := 0, locals := 0 } : Room).slots) (s₁.setTop (entryFrame m #[(.ref o0), (.int p1), (.int p2), (.int p3), (.int p4)] 5))
  rw [ef_2_1 m o0 p1 p2 p3 p4]
  show Runs p e below _ (s₁.setTop (mkF m 0 #[.val (.ref o0), .val (.int p1), .val (.int p2), .val (.int p3), .val (.int p4)] []))
  refine Runs.by (fun _ hr => XS.iloadN X0.here hx rfl (hb hby d2_0) rfl  hr) ?_
  show Runs p e below _ (s₁.setTop (mkF m 1 #[.val (.ref o0), .val (.int p1), .val (.int p2), .val (.int p3), .val (.int p4)] [(.int p1)]))
  refine Runs.by (fun _ hr => XS.iloadN X0.here hx rfl (hb hby d2_1) rfl  hr) ?_
  show Runs p e below _ (s₁.setTop (mkF m 2 #[.val (.ref o0), .val (.int p1), .val (.int p2), .val (.int p3), .val (.int p4)] [(.int p2), (.int p1)]))
  by_cases hc2 : p1 < p2
  · -- pc 2: p1 < p2
    refine Runs.by (fun _ hr => XS.icmpYes X0.here hx rfl (pc0 := 2) (pc' := 10) rfl (hb hby d2_2) rfl (tlt hc2).1 (by decide) (by decide) hr) ?_
    show Runs p e below _ (s₁.setTop (mkF m 10 #[.val (.ref o0), .val (.int p1), .val (.int p2), .val (.int p3), .val (.int p4)] []))
    refine Runs.by (fun _ hr => XS.aloadN X0.here hx rfl (hb hby d2_10) rfl rfl hr) ?_
    show Runs p e below _ (s₁.setTop (mkF m 11 #[.val (.ref o0), .val (.int p1), .val (.int p2), .val (.int p3), .val (.int p4)] [(.ref o0)]))
    refine Runs.by (fun _ hr => XS.iloadN X0.here hx rfl (hb hby d2_11) rfl  hr) ?_
    show Runs p e below _ (s₁.setTop (mkF m 12 #[.val (.ref o0), .val (.int p1), .val (.int p2), .val (.int p3), .val (.int p4)] [(.int p1), (.ref o0)]))
    obtain ⟨cl1, Ar1, -, S1, N1', H1, -⟩ := id V0
    have hin1 : ¬ (p1 < 0 ∨ cl1.slots.size ≤ (p1).toNatClampNeg) := inb_of S1 (own_inb hr)
    have hat1 := H1.at hin1 (v := (.int (f p1.toInt.toNat))) (own_get f p1 _ (by omega) (by omega))
    refine Runs.by (fun t hr => X0.baloadBytes hx (j := p1) (v := (.int (f p1.toInt.toNat))) (by rw [e0]; exact Ar1.1) (State.isArrayOf_alike hZ.alike Ar1.2.1) Ar1.2.2 hin1 hat1 (g := (mkF m 12 #[.val (.ref o0), .val (.int p1), .val (.int p2), .val (.int p3), .val (.int p4)] [(.int p1), (.ref o0)])) rfl rfl (hb hby d2_12) t hr) ?_
    show Runs p e below _ (s₁.setTop (mkF m 13 #[.val (.ref o0), .val (.int p1), .val (.int p2), .val (.int p3), .val (.int p4)] [(.int (f p1.toInt.toNat))]))
    refine Runs.by (fun _ hr => XS.iload X0.here hx rfl (hb hby d2_13) rfl  hr) ?_
    show Runs p e below _ (s₁.setTop (mkF m 15 #[.val (.ref o0), .val (.int p1), .val (.int p2), .val (.int p3), .val (.int p4)] [(.int p4), (.int (f p1.toInt.toNat))]))
    by_cases hc15 : (f p1.toInt.toNat) = p4
    · -- pc 15: (f p1.toInt.toNat) = p4
      refine Runs.by (fun _ hr => XS.icmpNo X0.here hx rfl (hb hby d2_15) rfl (teq hc15).2 hr) ?_
      show Runs p e below _ (s₁.setTop (mkF m 18 #[.val (.ref o0), .val (.int p1), .val (.int p2), .val (.int p3), .val (.int p4)] []))
      refine Runs.by (fun _ hr => XS.iconst X0.here hx rfl (hb hby d2_18) hr) ?_
      show Runs p e below _ (s₁.setTop (mkF m 19 #[.val (.ref o0), .val (.int p1), .val (.int p2), .val (.int p3), .val (.int p4)] [(.int (1 : Int32))]))
      refine Runs.by (fun _ hr => XS.goto X0.here hx rfl (pc0 := 19) (pc' := 23) rfl (hb hby d2_19) (by decide) (by decide) hr) ?_
      show Runs p e below _ (s₁.setTop (mkF m 23 #[.val (.ref o0), .val (.int p1), .val (.int p2), .val (.int p3), .val (.int p4)] [(.int (1 : Int32))]))
      refine Runs.ret X0 hx hrt hlk (Or.inl ⟨rfl, by simp, _, rfl⟩) (by rfl) (hb hby d2_23) (by decide) (by decide) ?_
      rw [e0]
      exact ⟨rfl, N0, rfl⟩
    · -- pc 15: not (f p1.toInt.toNat) = p4
      refine Runs.by (fun _ hr => XS.icmpYes X0.here hx rfl (pc0 := 15) (pc' := 22) rfl (hb hby d2_15) rfl (feq hc15).2 (by decide) (by decide) hr) ?_
      exfalso
      rcases hOK with ⟨q1, q2⟩ | q3
      · simp_all
      · exact hc15 q3
  · -- pc 2: not p1 < p2
    refine Runs.by (fun _ hr => XS.icmpNo X0.here hx rfl (hb hby d2_2) rfl (flt hc2).1 hr) ?_
    show Runs p e below _ (s₁.setTop (mkF m 5 #[.val (.ref o0), .val (.int p1), .val (.int p2), .val (.int p3), .val (.int p4)] []))
    refine Runs.by (fun _ hr => XS.iloadN X0.here hx rfl (hb hby d2_5) rfl  hr) ?_
    show Runs p e below _ (s₁.setTop (mkF m 6 #[.val (.ref o0), .val (.int p1), .val (.int p2), .val (.int p3), .val (.int p4)] [(.int p1)]))
    refine Runs.by (fun _ hr => XS.iloadN X0.here hx rfl (hb hby d2_6) rfl  hr) ?_
    show Runs p e below _ (s₁.setTop (mkF m 7 #[.val (.ref o0), .val (.int p1), .val (.int p2), .val (.int p3), .val (.int p4)] [(.int p3), (.int p1)]))
    by_cases hc7 : p1 < p3
    · -- pc 7: p1 < p3
      refine Runs.by (fun _ hr => XS.icmpYes X0.here hx rfl (pc0 := 7) (pc' := 18) rfl (hb hby d2_7) rfl (tlt hc7).1 (by decide) (by decide) hr) ?_
      show Runs p e below _ (s₁.setTop (mkF m 18 #[.val (.ref o0), .val (.int p1), .val (.int p2), .val (.int p3), .val (.int p4)] []))
      refine Runs.by (fun _ hr => XS.iconst X0.here hx rfl (hb hby d2_18) hr) ?_
      show Runs p e below _ (s₁.setTop (mkF m 19 #[.val (.ref o0), .val (.int p1), .val (.int p2), .val (.int p3), .val (.int p4)] [(.int (1 : Int32))]))
      refine Runs.by (fun _ hr => XS.goto X0.here hx rfl (pc0 := 19) (pc' := 23) rfl (hb hby d2_19) (by decide) (by decide) hr) ?_
      show Runs p e below _ (s₁.setTop (mkF m 23 #[.val (.ref o0), .val (.int p1), .val (.int p2), .val (.int p3), .val (.int p4)] [(.int (1 : Int32))]))
      refine Runs.ret X0 hx hrt hlk (Or.inl ⟨rfl, by simp, _, rfl⟩) (by rfl) (hb hby d2_23) (by decide) (by decide) ?_
      rw [e0]
      exact ⟨rfl, N0, rfl⟩
    · -- pc 7: not p1 < p3
      refine Runs.by (fun _ hr => XS.icmpNo X0.here hx rfl (hb hby d2_7) rfl (flt hc7).1 hr) ?_
      show Runs p e below _ (s₁.setTop (mkF m 10 #[.val (.ref o0), .val (.int p1), .val (.int p2), .val (.int p3), .val (.int p4)] []))
      refine Runs.by (fun _ hr => XS.aloadN X0.here hx rfl (hb hby d2_10) rfl rfl hr) ?_
      show Runs p e below _ (s₁.setTop (mkF m 11 #[.val (.ref o0), .val (.int p1), .val (.int p2), .val (.int p3), .val (.int p4)] [(.ref o0)]))
      refine Runs.by (fun _ hr => XS.iloadN X0.here hx rfl (hb hby d2_11) rfl  hr) ?_
      show Runs p e below _ (s₁.setTop (mkF m 12 #[.val (.ref o0), .val (.int p1), .val (.int p2), .val (.int p3), .val (.int p4)] [(.int p1), (.ref o0)]))
      obtain ⟨cl2, Ar2, -, S2, N2', H2, -⟩ := id V0
      have hin2 : ¬ (p1 < 0 ∨ cl2.slots.size ≤ (p1).toNatClampNeg) := inb_of S2 (own_inb hr)
      have hat2 := H2.at hin2 (v := (.int (f p1.toInt.toNat))) (own_get f p1 _ (by omega) (by omega))
      refine Runs.by (fun t hr => X0.baloadBytes hx (j := p1) (v := (.int (f p1.toInt.toNat))) (by rw [e0]; exact Ar2.1) (State.isArrayOf_alike hZ.alike Ar2.2.1) Ar2.2.2 hin2 hat2 (g := (mkF m 12 #[.val (.ref o0), .val (.int p1), .val (.int p2), .val (.int p3), .val (.int p4)] [(.int p1), (.ref o0)])) rfl rfl (hb hby d2_12) t hr) ?_
      show Runs p e below _ (s₁.setTop (mkF m 13 #[.val (.ref o0), .val (.int p1), .val (.int p2), .val (.int p3), .val (.int p4)] [(.int (f p1.toInt.toNat))]))
      refine Runs.by (fun _ hr => XS.iload X0.here hx rfl (hb hby d2_13) rfl  hr) ?_
      show Runs p e below _ (s₁.setTop (mkF m 15 #[.val (.ref o0), .val (.int p1), .val (.int p2), .val (.int p3), .val (.int p4)] [(.int p4), (.int (f p1.toInt.toNat))]))
      by_cases hc15 : (f p1.toInt.toNat) = p4
      · -- pc 15: (f p1.toInt.toNat) = p4
        refine Runs.by (fun _ hr => XS.icmpNo X0.here hx rfl (hb hby d2_15) rfl (teq hc15).2 hr) ?_
        show Runs p e below _ (s₁.setTop (mkF m 18 #[.val (.ref o0), .val (.int p1), .val (.int p2), .val (.int p3), .val (.int p4)] []))
        refine Runs.by (fun _ hr => XS.iconst X0.here hx rfl (hb hby d2_18) hr) ?_
        show Runs p e below _ (s₁.setTop (mkF m 19 #[.val (.ref o0), .val (.int p1), .val (.int p2), .val (.int p3), .val (.int p4)] [(.int (1 : Int32))]))
        refine Runs.by (fun _ hr => XS.goto X0.here hx rfl (pc0 := 19) (pc' := 23) rfl (hb hby d2_19) (by decide) (by decide) hr) ?_
        show Runs p e below _ (s₁.setTop (mkF m 23 #[.val (.ref o0), .val (.int p1), .val (.int p2), .val (.int p3), .val (.int p4)] [(.int (1 : Int32))]))
        refine Runs.ret X0 hx hrt hlk (Or.inl ⟨rfl, by simp, _, rfl⟩) (by rfl) (hb hby d2_23) (by decide) (by decide) ?_
        rw [e0]
        exact ⟨rfl, N0, rfl⟩
      · -- pc 15: not (f p1.toInt.toNat) = p4
        refine Runs.by (fun _ hr => XS.icmpYes X0.here hx rfl (pc0 := 15) (pc' := 22) rfl (hb hby d2_15) rfl (feq hc15).2 (by decide) (by decide) hr) ?_
        exfalso
        rcases hOK with ⟨q1, q2⟩ | q3
        · simp_all
        · exact hc15 q3
theorem d3_0 : decode method_2_code 0 = .ok (.iload_n 0, 1) := by decide +kernel
theorem d3_1 : decode method_2_code 1 = .ok (.sipush 192, 3) := by decide +kernel
theorem d3_4 : decode method_2_code 4 = .ok (.iand, 1) := by decide +kernel
theorem d3_5 : decode method_2_code 5 = .ok (.sipush 128, 3) := by decide +kernel
theorem d3_8 : decode method_2_code 8 = .ok (.if_icmp .ne 7, 3) := by decide +kernel
theorem d3_11 : decode method_2_code 11 = .ok (.iconst 1, 1) := by decide +kernel
theorem d3_12 : decode method_2_code 12 = .ok (.goto 4, 3) := by decide +kernel
theorem d3_15 : decode method_2_code 15 = .ok (.iconst 0, 1) := by decide +kernel
theorem d3_16 : decode method_2_code 16 = .ok (.ireturn, 1) := by decide +kernel
theorem ef_3_2 (m : MethodId) (p0 : Int32) : entryFrame m #[(.int p0)] 1 = mkF m 0 #[.val (.int p0)] [] := by first | (simp [entryFrame, mkF, argsToLocals, Value.category]; done) | rfl
def Q_rm3 (Z : State) (p0 : Int32)  (h0 : Heap) (n0 : Nat) (v : Option Value) (h : Heap) (L : List Loc) : Prop := v = some (.int 1) ∧ Fr n0 L ∧ h = h0
set_option maxRecDepth 65536 in
set_option maxHeartbeats 40000000 in
theorem rm3 (l : Launch) (Z : State) (a0 : Array Value) (hw : ∀ d ∈ tables_1, d.before a0 Z = true) (ws : List Jvm.Cond) (p0 : Int32)  (h0 : Heap) (n0 : Nat) (Z0 : n0 ≤ h0.size) (hq : (p0 &&& (192 : Int32)) = (128 : Int32)) :
    MetFree l (⟨"com/example/usher/usher/Utf8ValidatorEncodePinLaw", "cont", "(I)Z"⟩ : MethodName) (head1 (Jvm.Cond.code (⟨"com/example/usher/usher/Utf8ValidatorEncodePinLaw", "cont", "(I)Z"⟩ : MethodName) method_2_code 1 (some .boolean) :: ws) ({ frames := 0, cells := 0, slots := 0, locals := 0 } : Room)) (fun a U => a = #[(.int p0)] ∧ Z.Warmed39 U.vm ∧ U.heap = h0) (fun _ _ _ _ _ => True) (fun _ U o U' => ∃ v L, o = .returned v ∧ Q_rm3 Z p0 h0 n0 v U'.heap L ∧ FrameEnd U o U' L ({ frames := 0, cells := 0, slots := 0, locals := 0 } : Room).cells ({ frames := 0, cells := 0, slots := 0, locals := 0 } : Room).slots) := by
  refine MetFree.of_bodySF (plainFor_of_name pn_com_example_usher_usher_Utf8ValidatorEncodePinLaw) hisR ?_
  intro p e s m args below meth c s₁ Bd hml0 hP hK
  obtain ⟨rfl, hZ, hh⟩ := hP
  have hx := Bd.exec
  have hby := Bd.bytes
  have hlk := BodyLoose.notSynchronized Bd
  have hrt := Bd.returns
  have hml : c.maxLocals = 1 := hml0
  have hown : s.vm.findClass "com/example/usher/usher/Utf8ValidatorEncodePinLaw" = some m.cls := findClass_of_methodNamed Bd.named
  have hnm := (name_of_methodNamed Bd.named Bd.method).1
  have X0 : Stand p l e ({ frames := 0, cells := 0, slots := 0, locals := 0 } : Room) s m #[(.int p0)] below meth c s₁ [] 0 0 := Stand.of_body Bd
  have e0 : s₁.heap = h0 := by rw [← hh, Bd.state]; rfl
  have N0 := Fr.nil n0
  have K0 : Keep h0 h0 [] := Keep.refl h0 _
  show Runs p e below (QE s (Q_rm3 Z p0 h0 n0) ({ frames := 0, cells := 0, slots := 0, locals := 0 } : Room).cells ({ frames := 0, cells := 0, slots := 0, locals := 0 } : Room).slots) (s₁.setTop (entryFrame m #[(.int p0)] 1))
  rw [ef_3_2 m p0]
  show Runs p e below _ (s₁.setTop (mkF m 0 #[.val (.int p0)] []))
  refine Runs.by (fun _ hr => XS.iloadN X0.here hx rfl (hb hby d3_0) rfl  hr) ?_
  show Runs p e below _ (s₁.setTop (mkF m 1 #[.val (.int p0)] [(.int p0)]))
  refine Runs.by (fun _ hr => XS.sipush X0.here hx rfl (hb hby d3_1) hr) ?_
  show Runs p e below _ (s₁.setTop (mkF m 4 #[.val (.int p0)] [(.int (192 : Int32)), (.int p0)]))
  refine Runs.by (fun _ hr => XS.iand X0.here hx rfl (hb hby d3_4) rfl hr) ?_
  show Runs p e below _ (s₁.setTop (mkF m 5 #[.val (.int p0)] [(.int (p0 &&& (192 : Int32)))]))
  refine Runs.by (fun _ hr => XS.sipush X0.here hx rfl (hb hby d3_5) hr) ?_
  show Runs p e below _ (s₁.setTop (mkF m 8 #[.val (.int p0)] [(.int (128 : Int32)), (.int (p0 &&& (192 : Int32)))]))
  have hc8 : (p0 &&& (192 : Int32)) = (128 : Int32) := hq
  refine Runs.by (fun _ hr => XS.icmpNo X0.here hx rfl (hb hby d3_8) rfl (teq hc8).2 hr) ?_
  show Runs p e below _ (s₁.setTop (mkF m 11 #[.val (.int p0)] []))
  refine Runs.by (fun _ hr => XS.iconst X0.here hx rfl (hb hby d3_11) hr) ?_
  show Runs p e below _ (s₁.setTop (mkF m 12 #[.val (.int p0)] [(.int (1 : Int32))]))
  refine Runs.by (fun _ hr => XS.goto X0.here hx rfl (pc0 := 12) (pc' := 16) rfl (hb hby d3_12) (by decide) (by decide) hr) ?_
  show Runs p e below _ (s₁.setTop (mkF m 16 #[.val (.int p0)] [(.int (1 : Int32))]))
  refine Runs.ret X0 hx hrt hlk (Or.inl ⟨rfl, by simp, _, rfl⟩) (by rfl) (hb hby d3_16) (by decide) (by decide) ?_
  rw [e0]
  exact ⟨rfl, N0, rfl⟩
theorem ef_0_3 (m : MethodId) (p0 : Int32) (p1 : Int32) (p2 : Int32) : entryFrame m #[(.int p0), (.int p1), (.int p2)] maxLocals = mkF m 0 #[.val (.int p0), .val (.int p1), .val (.int p2), .unset, .unset, .unset, .unset, .unset, .unset, .unset, .unset, .unset, .unset, .unset, .unset] [] := by first | (simp [entryFrame, mkF, argsToLocals, Value.category, maxLocals]; done) | rfl
def Q_rm0 (Z : State) (p0 : Int32) (p1 : Int32) (p2 : Int32)  (h0 : Heap) (n0 : Nat) (v : Option Value) (h : Heap) (L : List Loc) : Prop := v = some (.int 1) ∧ Fr n0 L
theorem pd_0 : parseMethodDescriptor "(I[BI)I" = some ⟨[.int, (.array .byte), .int], some .int⟩ := by decide +kernel
theorem pd_1 : parseMethodDescriptor "([BIIIB)Z" = some ⟨[(.array .byte), .int, .int, .int, .byte], some .boolean⟩ := by decide +kernel
theorem pd_2 : parseMethodDescriptor "(I)Z" = some ⟨[.int], some .boolean⟩ := by decide +kernel
set_option maxRecDepth 65536 in
set_option maxHeartbeats 40000000 in
theorem rm0 (l : Launch) (Z : State) (a0 : Array Value) (hw : ∀ d ∈ tables_1, d.before a0 Z = true) (ws : List Jvm.Cond) (p0 : Int32) (p1 : Int32) (p2 : Int32)  (h0 : Heap) (n0 : Nat) (Z0 : n0 ≤ h0.size) :
    MetFree l x (head1 (Jvm.Cond.code x code maxLocals ret :: ws) room_1) (fun a U => a = #[(.int p0), (.int p1), (.int p2)] ∧ Z.Warmed39 U.vm ∧ U.heap = h0) (fun _ _ _ _ _ => True) (fun _ U o U' => ∃ v L, o = .returned v ∧ Q_rm0 Z p0 p1 p2 h0 n0 v U'.heap L ∧ FrameEnd U o U' L room_1.cells room_1.slots) := by
  refine MetFree.of_bodySF (plainFor_of_name pn_com_example_usher_usher_Utf8ValidatorEncodePinLaw) hisR ?_
  intro p e s m args below meth c s₁ Bd hml0 hP hK
  obtain ⟨rfl, hZ, hh⟩ := hP
  have hx := Bd.exec
  have hby := Bd.bytes
  have hlk := BodyLoose.notSynchronized Bd
  have hrt := Bd.returns
  have hml : c.maxLocals = 15 := hml0
  have hown : s.vm.findClass "com/example/usher/usher/Utf8ValidatorEncodePinLaw" = some m.cls := findClass_of_methodNamed Bd.named
  have hnm := (name_of_methodNamed Bd.named Bd.method).1
  have X0 : Stand p l e room_1 s m #[(.int p0), (.int p1), (.int p2)] below meth c s₁ [] 0 0 := Stand.of_body Bd
  have e0 : s₁.heap = h0 := by rw [← hh, Bd.state]; rfl
  have N0 := Fr.nil n0
  have K0 : Keep h0 h0 [] := Keep.refl h0 _
  show Runs p e below (QE s (Q_rm0 Z p0 p1 p2 h0 n0) room_1.cells room_1.slots) (s₁.setTop (entryFrame m #[(.int p0), (.int p1), (.int p2)] maxLocals))
  rw [ef_0_3 m p0 p1 p2]
  show Runs p e below _ (s₁.setTop (mkF m 0 #[.val (.int p0), .val (.int p1), .val (.int p2), .unset, .unset, .unset, .unset, .unset, .unset, .unset, .unset, .unset, .unset, .unset, .unset] []))
  refine Runs.by (fun _ hr => XS.iloadN X0.here hx rfl (hb hby at_0) rfl  hr) ?_
  show Runs p e below _ (s₁.setTop (mkF m 1 #[.val (.int p0), .val (.int p1), .val (.int p2), .unset, .unset, .unset, .unset, .unset, .unset, .unset, .unset, .unset, .unset, .unset, .unset] [(.int p0)]))
  refine Runs.by (fun _ hr => X0.ldcI hx hown (mvT hZ (hw _ (List.mem_of_getElem? (i := 0) rfl))) (g := (mkF m 1 #[.val (.int p0), .val (.int p1), .val (.int p2), .unset, .unset, .unset, .unset, .unset, .unset, .unset, .unset, .unset, .unset, .unset, .unset] [(.int p0)])) rfl (hb hby at_1) hr) ?_
  show Runs p e below _ (s₁.setTop (mkF m 3 #[.val (.int p0), .val (.int p1), .val (.int p2), .unset, .unset, .unset, .unset, .unset, .unset, .unset, .unset, .unset, .unset, .unset, .unset] [(.int (2147483647 : Int32)), (.int p0)]))
  refine Runs.by (fun _ hr => XS.iand X0.here hx rfl (hb hby at_3) rfl hr) ?_
  show Runs p e below _ (s₁.setTop (mkF m 4 #[.val (.int p0), .val (.int p1), .val (.int p2), .unset, .unset, .unset, .unset, .unset, .unset, .unset, .unset, .unset, .unset, .unset, .unset] [(.int (p0 &&& (2147483647 : Int32)))]))
  refine Runs.by (fun _ hr => X0.ldcI hx hown (mvT hZ (hw _ (List.mem_of_getElem? (i := 1) rfl))) (g := (mkF m 4 #[.val (.int p0), .val (.int p1), .val (.int p2), .unset, .unset, .unset, .unset, .unset, .unset, .unset, .unset, .unset, .unset, .unset, .unset] [(.int (p0 &&& (2147483647 : Int32)))])) rfl (hb hby at_4) hr) ?_
  show Runs p e below _ (s₁.setTop (mkF m 6 #[.val (.int p0), .val (.int p1), .val (.int p2), .unset, .unset, .unset, .unset, .unset, .unset, .unset, .unset, .unset, .unset, .unset, .unset] [(.int (1114112 : Int32)), (.int (p0 &&& (2147483647 : Int32)))]))
  refine Runs.by (fun _ hr => iremM X0 hx rfl (hb hby at_6) rfl (by decide) hr) ?_
  show Runs p e below _ (s₁.setTop (mkF m 7 #[.val (.int p0), .val (.int p1), .val (.int p2), .unset, .unset, .unset, .unset, .unset, .unset, .unset, .unset, .unset, .unset, .unset, .unset] [(.int ((p0 &&& (2147483647 : Int32)) % (1114112 : Int32)))]))
  refine Runs.by (fun _ hr => XS.istoreN X0.here hx rfl (hb hby at_7) rfl (l' := #[.val (.int p0), .val (.int p1), .val (.int p2), .val (.int ((p0 &&& (2147483647 : Int32)) % (1114112 : Int32))), .unset, .unset, .unset, .unset, .unset, .unset, .unset, .unset, .unset, .unset, .unset]) rfl hr) ?_
  have hcp := own_dom p0
  generalize ((p0 &&& (2147483647 : Int32)) % (1114112 : Int32)) = cc at hcp ⊢
  show Runs p e below _ (s₁.setTop (mkF m 8 #[.val (.int p0), .val (.int p1), .val (.int p2), .val (.int cc), .unset, .unset, .unset, .unset, .unset, .unset, .unset, .unset, .unset, .unset, .unset] []))
  refine Runs.by (fun _ hr => XS.iloadN X0.here hx rfl (hb hby at_8) rfl  hr) ?_
  show Runs p e below _ (s₁.setTop (mkF m 9 #[.val (.int p0), .val (.int p1), .val (.int p2), .val (.int cc), .unset, .unset, .unset, .unset, .unset, .unset, .unset, .unset, .unset, .unset, .unset] [(.int p1)]))
  refine Runs.by (fun _ hr => XS.iconst X0.here hx rfl (hb hby at_9) hr) ?_
  show Runs p e below _ (s₁.setTop (mkF m 10 #[.val (.int p0), .val (.int p1), .val (.int p2), .val (.int cc), .unset, .unset, .unset, .unset, .unset, .unset, .unset, .unset, .unset, .unset, .unset] [(.int (3 : Int32)), (.int p1)]))
  refine Runs.by (fun _ hr => XS.iand X0.here hx rfl (hb hby at_10) rfl hr) ?_
  show Runs p e below _ (s₁.setTop (mkF m 11 #[.val (.int p0), .val (.int p1), .val (.int p2), .val (.int cc), .unset, .unset, .unset, .unset, .unset, .unset, .unset, .unset, .unset, .unset, .unset] [(.int (p1 &&& (3 : Int32)))]))
  refine Runs.by (fun _ hr => XS.istore X0.here hx rfl (hb hby at_11) rfl (l' := #[.val (.int p0), .val (.int p1), .val (.int p2), .val (.int cc), .val (.int (p1 &&& (3 : Int32))), .unset, .unset, .unset, .unset, .unset, .unset, .unset, .unset, .unset, .unset]) rfl hr) ?_
  have hat := own_at3 p1
  generalize (p1 &&& (3 : Int32)) = aa at hat ⊢
  show Runs p e below _ (s₁.setTop (mkF m 13 #[.val (.int p0), .val (.int p1), .val (.int p2), .val (.int cc), .val (.int aa), .unset, .unset, .unset, .unset, .unset, .unset, .unset, .unset, .unset, .unset] []))
  refine Runs.by (fun _ hr => XS.iloadN X0.here hx rfl (hb hby at_13) rfl  hr) ?_
  show Runs p e below _ (s₁.setTop (mkF m 14 #[.val (.int p0), .val (.int p1), .val (.int p2), .val (.int cc), .val (.int aa), .unset, .unset, .unset, .unset, .unset, .unset, .unset, .unset, .unset, .unset] [(.int p2)]))
  refine Runs.by (fun _ hr => XS.i2b X0.here hx rfl (hb hby at_14) rfl hr) ?_
  show Runs p e below _ (s₁.setTop (mkF m 15 #[.val (.int p0), .val (.int p1), .val (.int p2), .val (.int cc), .val (.int aa), .unset, .unset, .unset, .unset, .unset, .unset, .unset, .unset, .unset, .unset] [(.int (p2.toInt8.toInt32))]))
  refine Runs.by (fun _ hr => XS.istore X0.here hx rfl (hb hby at_15) rfl (l' := #[.val (.int p0), .val (.int p1), .val (.int p2), .val (.int cc), .val (.int aa), .val (.int (p2.toInt8.toInt32)), .unset, .unset, .unset, .unset, .unset, .unset, .unset, .unset, .unset]) rfl hr) ?_
  show Runs p e below _ (s₁.setTop (mkF m 17 #[.val (.int p0), .val (.int p1), .val (.int p2), .val (.int cc), .val (.int aa), .val (.int (p2.toInt8.toInt32)), .unset, .unset, .unset, .unset, .unset, .unset, .unset, .unset, .unset] []))
  refine Runs.by (fun _ hr => XS.bipush X0.here hx rfl (hb hby at_17) hr) ?_
  show Runs p e below _ (s₁.setTop (mkF m 19 #[.val (.int p0), .val (.int p1), .val (.int p2), .val (.int cc), .val (.int aa), .val (.int (p2.toInt8.toInt32)), .unset, .unset, .unset, .unset, .unset, .unset, .unset, .unset, .unset] [(.int (8 : Int32))]))
  obtain ⟨T1, h1, k1, X1, e1, E1, A1, st1⟩ := newP X0 hx hZ (hw _ (List.mem_of_getElem? (i := 2) rfl)) e0 (g := (mkF m 19 #[.val (.int p0), .val (.int p1), .val (.int p2), .val (.int cc), .val (.int aa), .val (.int (p2.toInt8.toInt32)), .unset, .unset, .unset, .unset, .unset, .unset, .unset, .unset, .unset] [(.int (8 : Int32))])) rfl (hb hby at_19) rfl (by decide) (cap := 8) (by decide) (by decide) (by decide) (by decide)
  obtain ⟨b1, gz1⟩ : ∃ z, z = h0.size := ⟨_, rfl⟩
  rw [← gz1] at A1 st1
  have g_b1 : n0 ≤ b1 := Nat.le_trans (Nat.le_trans Z0 K0.1) (Nat.le_of_eq gz1.symm)
  have sz_b1 : h0.size ≤ b1 := Nat.le_trans K0.1 (Nat.le_of_eq gz1.symm)
  have K2 : Keep h0 h1 [] := K0.ext E1
  have V1 : Arv Z h1 b1 k1 .byte (8 : Int32) [(.int (0 : Int32)), (.int (0 : Int32)), (.int (0 : Int32)), (.int (0 : Int32)), (.int (0 : Int32)), (.int (0 : Int32)), (.int (0 : Int32)), (.int (0 : Int32))] (.int (0 : Int32)) := (Arv.new A1 (by decide)).pad (pad_rep [] (.int (0 : Int32)) 8)
  refine Runs.by st1 ?_
  show Runs p e below _ (T1.setTop (mkF m 21 #[.val (.int p0), .val (.int p1), .val (.int p2), .val (.int cc), .val (.int aa), .val (.int (p2.toInt8.toInt32)), .unset, .unset, .unset, .unset, .unset, .unset, .unset, .unset, .unset] [(.ref b1)]))
  refine Runs.by (fun _ hr => XS.astore X1.here hx rfl (hb hby at_21) rfl rfl (l' := #[.val (.int p0), .val (.int p1), .val (.int p2), .val (.int cc), .val (.int aa), .val (.int (p2.toInt8.toInt32)), .val (.ref b1), .unset, .unset, .unset, .unset, .unset, .unset, .unset, .unset]) rfl hr) ?_
  show Runs p e below _ (T1.setTop (mkF m 23 #[.val (.int p0), .val (.int p1), .val (.int p2), .val (.int cc), .val (.int aa), .val (.int (p2.toInt8.toInt32)), .val (.ref b1), .unset, .unset, .unset, .unset, .unset, .unset, .unset, .unset] []))
  refine Runs.by (fun _ hr => XS.aload X1.here hx rfl (hb hby at_23) rfl rfl hr) ?_
  show Runs p e below _ (T1.setTop (mkF m 25 #[.val (.int p0), .val (.int p1), .val (.int p2), .val (.int cc), .val (.int aa), .val (.int (p2.toInt8.toInt32)), .val (.ref b1), .unset, .unset, .unset, .unset, .unset, .unset, .unset, .unset] [(.ref b1)]))
  refine Runs.by (fun _ hr => XS.iconst X1.here hx rfl (hb hby at_25) hr) ?_
  show Runs p e below _ (T1.setTop (mkF m 26 #[.val (.int p0), .val (.int p1), .val (.int p2), .val (.int cc), .val (.int aa), .val (.int (p2.toInt8.toInt32)), .val (.ref b1), .unset, .unset, .unset, .unset, .unset, .unset, .unset, .unset] [(.int (0 : Int32)), (.ref b1)]))
  refine Runs.by (fun _ hr => XS.iload X1.here hx rfl (hb hby at_26) rfl  hr) ?_
  show Runs p e below _ (T1.setTop (mkF m 28 #[.val (.int p0), .val (.int p1), .val (.int p2), .val (.int cc), .val (.int aa), .val (.int (p2.toInt8.toInt32)), .val (.ref b1), .unset, .unset, .unset, .unset, .unset, .unset, .unset, .unset] [(.int (p2.toInt8.toInt32)), (.int (0 : Int32)), (.ref b1)]))
  obtain ⟨cl3, Ar3, q3, S3, N3', H3, G3⟩ := id V1
  have hin3 : ¬ ((0 : Int32) < 0 ∨ cl3.slots.size ≤ ((0 : Int32)).toNatClampNeg) := inb_of S3 ⟨by decide, by decide⟩
  obtain ⟨T3, h3, X3, e3, W3, st3⟩ := stB X1 hx hZ e1 Ar3 (j := (0 : Int32)) hin3 (g := (mkF m 28 #[.val (.int p0), .val (.int p1), .val (.int p2), .val (.int cc), .val (.int aa), .val (.int (p2.toInt8.toInt32)), .val (.ref b1), .unset, .unset, .unset, .unset, .unset, .unset, .unset, .unset] [(.int (p2.toInt8.toInt32)), (.int (0 : Int32)), (.ref b1)])) rfl rfl (hb hby at_28)
  have V3 : Arv Z h3 b1 k1 .byte (8 : Int32) [(.int (nar .byte (p2.toInt8.toInt32))), (.int (0 : Int32)), (.int (0 : Int32)), (.int (0 : Int32)), (.int (0 : Int32)), (.int (0 : Int32)), (.int (0 : Int32)), (.int (0 : Int32))] (.int (0 : Int32)) := Arv.set Ar3 q3 S3 N3' H3 G3 (fits_nar_byte _) W3 (0) rfl (Nat.le_of_ble_eq_true rfl)
  have K4 : Keep h0 h3 [] := K2.wr W3 (Or.inr sz_b1)
  have N3 := Fr.snoc X3 N0 g_b1
  refine Runs.by st3 ?_
  show Runs p e below _ (T3.setTop (mkF m 29 #[.val (.int p0), .val (.int p1), .val (.int p2), .val (.int cc), .val (.int aa), .val (.int (p2.toInt8.toInt32)), .val (.ref b1), .unset, .unset, .unset, .unset, .unset, .unset, .unset, .unset] []))
  refine Runs.by (fun _ hr => XS.aload X3.here hx rfl (hb hby at_29) rfl rfl hr) ?_
  show Runs p e below _ (T3.setTop (mkF m 31 #[.val (.int p0), .val (.int p1), .val (.int p2), .val (.int cc), .val (.int aa), .val (.int (p2.toInt8.toInt32)), .val (.ref b1), .unset, .unset, .unset, .unset, .unset, .unset, .unset, .unset] [(.ref b1)]))
  refine Runs.by (fun _ hr => XS.iconst X3.here hx rfl (hb hby at_31) hr) ?_
  show Runs p e below _ (T3.setTop (mkF m 32 #[.val (.int p0), .val (.int p1), .val (.int p2), .val (.int cc), .val (.int aa), .val (.int (p2.toInt8.toInt32)), .val (.ref b1), .unset, .unset, .unset, .unset, .unset, .unset, .unset, .unset] [(.int (1 : Int32)), (.ref b1)]))
  refine Runs.by (fun _ hr => XS.iload X3.here hx rfl (hb hby at_32) rfl  hr) ?_
  show Runs p e below _ (T3.setTop (mkF m 34 #[.val (.int p0), .val (.int p1), .val (.int p2), .val (.int cc), .val (.int aa), .val (.int (p2.toInt8.toInt32)), .val (.ref b1), .unset, .unset, .unset, .unset, .unset, .unset, .unset, .unset] [(.int (p2.toInt8.toInt32)), (.int (1 : Int32)), (.ref b1)]))
  obtain ⟨cl5, Ar5, q5, S5, N5', H5, G5⟩ := id V3
  have hin5 : ¬ ((1 : Int32) < 0 ∨ cl5.slots.size ≤ ((1 : Int32)).toNatClampNeg) := inb_of S5 ⟨by decide, by decide⟩
  obtain ⟨T5, h5, X5, e5, W5, st5⟩ := stB X3 hx hZ e3 Ar5 (j := (1 : Int32)) hin5 (g := (mkF m 34 #[.val (.int p0), .val (.int p1), .val (.int p2), .val (.int cc), .val (.int aa), .val (.int (p2.toInt8.toInt32)), .val (.ref b1), .unset, .unset, .unset, .unset, .unset, .unset, .unset, .unset] [(.int (p2.toInt8.toInt32)), (.int (1 : Int32)), (.ref b1)])) rfl rfl (hb hby at_34)
  have V5 : Arv Z h5 b1 k1 .byte (8 : Int32) [(.int (nar .byte (p2.toInt8.toInt32))), (.int (nar .byte (p2.toInt8.toInt32))), (.int (0 : Int32)), (.int (0 : Int32)), (.int (0 : Int32)), (.int (0 : Int32)), (.int (0 : Int32)), (.int (0 : Int32))] (.int (0 : Int32)) := Arv.set Ar5 q5 S5 N5' H5 G5 (fits_nar_byte _) W5 (1) rfl (Nat.le_of_ble_eq_true rfl)
  have K6 : Keep h0 h5 [] := K4.wr W5 (Or.inr sz_b1)
  have N5 := Fr.snoc X5 N3 g_b1
  refine Runs.by st5 ?_
  show Runs p e below _ (T5.setTop (mkF m 35 #[.val (.int p0), .val (.int p1), .val (.int p2), .val (.int cc), .val (.int aa), .val (.int (p2.toInt8.toInt32)), .val (.ref b1), .unset, .unset, .unset, .unset, .unset, .unset, .unset, .unset] []))
  refine Runs.by (fun _ hr => XS.aload X5.here hx rfl (hb hby at_35) rfl rfl hr) ?_
  show Runs p e below _ (T5.setTop (mkF m 37 #[.val (.int p0), .val (.int p1), .val (.int p2), .val (.int cc), .val (.int aa), .val (.int (p2.toInt8.toInt32)), .val (.ref b1), .unset, .unset, .unset, .unset, .unset, .unset, .unset, .unset] [(.ref b1)]))
  refine Runs.by (fun _ hr => XS.iconst X5.here hx rfl (hb hby at_37) hr) ?_
  show Runs p e below _ (T5.setTop (mkF m 38 #[.val (.int p0), .val (.int p1), .val (.int p2), .val (.int cc), .val (.int aa), .val (.int (p2.toInt8.toInt32)), .val (.ref b1), .unset, .unset, .unset, .unset, .unset, .unset, .unset, .unset] [(.int (2 : Int32)), (.ref b1)]))
  refine Runs.by (fun _ hr => XS.iload X5.here hx rfl (hb hby at_38) rfl  hr) ?_
  show Runs p e below _ (T5.setTop (mkF m 40 #[.val (.int p0), .val (.int p1), .val (.int p2), .val (.int cc), .val (.int aa), .val (.int (p2.toInt8.toInt32)), .val (.ref b1), .unset, .unset, .unset, .unset, .unset, .unset, .unset, .unset] [(.int (p2.toInt8.toInt32)), (.int (2 : Int32)), (.ref b1)]))
  obtain ⟨cl7, Ar7, q7, S7, N7', H7, G7⟩ := id V5
  have hin7 : ¬ ((2 : Int32) < 0 ∨ cl7.slots.size ≤ ((2 : Int32)).toNatClampNeg) := inb_of S7 ⟨by decide, by decide⟩
  obtain ⟨T7, h7, X7, e7, W7, st7⟩ := stB X5 hx hZ e5 Ar7 (j := (2 : Int32)) hin7 (g := (mkF m 40 #[.val (.int p0), .val (.int p1), .val (.int p2), .val (.int cc), .val (.int aa), .val (.int (p2.toInt8.toInt32)), .val (.ref b1), .unset, .unset, .unset, .unset, .unset, .unset, .unset, .unset] [(.int (p2.toInt8.toInt32)), (.int (2 : Int32)), (.ref b1)])) rfl rfl (hb hby at_40)
  have V7 : Arv Z h7 b1 k1 .byte (8 : Int32) [(.int (nar .byte (p2.toInt8.toInt32))), (.int (nar .byte (p2.toInt8.toInt32))), (.int (nar .byte (p2.toInt8.toInt32))), (.int (0 : Int32)), (.int (0 : Int32)), (.int (0 : Int32)), (.int (0 : Int32)), (.int (0 : Int32))] (.int (0 : Int32)) := Arv.set Ar7 q7 S7 N7' H7 G7 (fits_nar_byte _) W7 (2) rfl (Nat.le_of_ble_eq_true rfl)
  have K8 : Keep h0 h7 [] := K6.wr W7 (Or.inr sz_b1)
  have N7 := Fr.snoc X7 N5 g_b1
  refine Runs.by st7 ?_
  show Runs p e below _ (T7.setTop (mkF m 41 #[.val (.int p0), .val (.int p1), .val (.int p2), .val (.int cc), .val (.int aa), .val (.int (p2.toInt8.toInt32)), .val (.ref b1), .unset, .unset, .unset, .unset, .unset, .unset, .unset, .unset] []))
  refine Runs.by (fun _ hr => XS.aload X7.here hx rfl (hb hby at_41) rfl rfl hr) ?_
  show Runs p e below _ (T7.setTop (mkF m 43 #[.val (.int p0), .val (.int p1), .val (.int p2), .val (.int cc), .val (.int aa), .val (.int (p2.toInt8.toInt32)), .val (.ref b1), .unset, .unset, .unset, .unset, .unset, .unset, .unset, .unset] [(.ref b1)]))
  refine Runs.by (fun _ hr => XS.iconst X7.here hx rfl (hb hby at_43) hr) ?_
  show Runs p e below _ (T7.setTop (mkF m 44 #[.val (.int p0), .val (.int p1), .val (.int p2), .val (.int cc), .val (.int aa), .val (.int (p2.toInt8.toInt32)), .val (.ref b1), .unset, .unset, .unset, .unset, .unset, .unset, .unset, .unset] [(.int (3 : Int32)), (.ref b1)]))
  refine Runs.by (fun _ hr => XS.iload X7.here hx rfl (hb hby at_44) rfl  hr) ?_
  show Runs p e below _ (T7.setTop (mkF m 46 #[.val (.int p0), .val (.int p1), .val (.int p2), .val (.int cc), .val (.int aa), .val (.int (p2.toInt8.toInt32)), .val (.ref b1), .unset, .unset, .unset, .unset, .unset, .unset, .unset, .unset] [(.int (p2.toInt8.toInt32)), (.int (3 : Int32)), (.ref b1)]))
  obtain ⟨cl9, Ar9, q9, S9, N9', H9, G9⟩ := id V7
  have hin9 : ¬ ((3 : Int32) < 0 ∨ cl9.slots.size ≤ ((3 : Int32)).toNatClampNeg) := inb_of S9 ⟨by decide, by decide⟩
  obtain ⟨T9, h9, X9, e9, W9, st9⟩ := stB X7 hx hZ e7 Ar9 (j := (3 : Int32)) hin9 (g := (mkF m 46 #[.val (.int p0), .val (.int p1), .val (.int p2), .val (.int cc), .val (.int aa), .val (.int (p2.toInt8.toInt32)), .val (.ref b1), .unset, .unset, .unset, .unset, .unset, .unset, .unset, .unset] [(.int (p2.toInt8.toInt32)), (.int (3 : Int32)), (.ref b1)])) rfl rfl (hb hby at_46)
  have V9 : Arv Z h9 b1 k1 .byte (8 : Int32) [(.int (nar .byte (p2.toInt8.toInt32))), (.int (nar .byte (p2.toInt8.toInt32))), (.int (nar .byte (p2.toInt8.toInt32))), (.int (nar .byte (p2.toInt8.toInt32))), (.int (0 : Int32)), (.int (0 : Int32)), (.int (0 : Int32)), (.int (0 : Int32))] (.int (0 : Int32)) := Arv.set Ar9 q9 S9 N9' H9 G9 (fits_nar_byte _) W9 (3) rfl (Nat.le_of_ble_eq_true rfl)
  have K10 : Keep h0 h9 [] := K8.wr W9 (Or.inr sz_b1)
  have N9 := Fr.snoc X9 N7 g_b1
  refine Runs.by st9 ?_
  show Runs p e below _ (T9.setTop (mkF m 47 #[.val (.int p0), .val (.int p1), .val (.int p2), .val (.int cc), .val (.int aa), .val (.int (p2.toInt8.toInt32)), .val (.ref b1), .unset, .unset, .unset, .unset, .unset, .unset, .unset, .unset] []))
  refine Runs.by (fun _ hr => XS.aload X9.here hx rfl (hb hby at_47) rfl rfl hr) ?_
  show Runs p e below _ (T9.setTop (mkF m 49 #[.val (.int p0), .val (.int p1), .val (.int p2), .val (.int cc), .val (.int aa), .val (.int (p2.toInt8.toInt32)), .val (.ref b1), .unset, .unset, .unset, .unset, .unset, .unset, .unset, .unset] [(.ref b1)]))
  refine Runs.by (fun _ hr => XS.iconst X9.here hx rfl (hb hby at_49) hr) ?_
  show Runs p e below _ (T9.setTop (mkF m 50 #[.val (.int p0), .val (.int p1), .val (.int p2), .val (.int cc), .val (.int aa), .val (.int (p2.toInt8.toInt32)), .val (.ref b1), .unset, .unset, .unset, .unset, .unset, .unset, .unset, .unset] [(.int (4 : Int32)), (.ref b1)]))
  refine Runs.by (fun _ hr => XS.iload X9.here hx rfl (hb hby at_50) rfl  hr) ?_
  show Runs p e below _ (T9.setTop (mkF m 52 #[.val (.int p0), .val (.int p1), .val (.int p2), .val (.int cc), .val (.int aa), .val (.int (p2.toInt8.toInt32)), .val (.ref b1), .unset, .unset, .unset, .unset, .unset, .unset, .unset, .unset] [(.int (p2.toInt8.toInt32)), (.int (4 : Int32)), (.ref b1)]))
  obtain ⟨cl11, Ar11, q11, S11, N11', H11, G11⟩ := id V9
  have hin11 : ¬ ((4 : Int32) < 0 ∨ cl11.slots.size ≤ ((4 : Int32)).toNatClampNeg) := inb_of S11 ⟨by decide, by decide⟩
  obtain ⟨T11, h11, X11, e11, W11, st11⟩ := stB X9 hx hZ e9 Ar11 (j := (4 : Int32)) hin11 (g := (mkF m 52 #[.val (.int p0), .val (.int p1), .val (.int p2), .val (.int cc), .val (.int aa), .val (.int (p2.toInt8.toInt32)), .val (.ref b1), .unset, .unset, .unset, .unset, .unset, .unset, .unset, .unset] [(.int (p2.toInt8.toInt32)), (.int (4 : Int32)), (.ref b1)])) rfl rfl (hb hby at_52)
  have V11 : Arv Z h11 b1 k1 .byte (8 : Int32) [(.int (nar .byte (p2.toInt8.toInt32))), (.int (nar .byte (p2.toInt8.toInt32))), (.int (nar .byte (p2.toInt8.toInt32))), (.int (nar .byte (p2.toInt8.toInt32))), (.int (nar .byte (p2.toInt8.toInt32))), (.int (0 : Int32)), (.int (0 : Int32)), (.int (0 : Int32))] (.int (0 : Int32)) := Arv.set Ar11 q11 S11 N11' H11 G11 (fits_nar_byte _) W11 (4) rfl (Nat.le_of_ble_eq_true rfl)
  have K12 : Keep h0 h11 [] := K10.wr W11 (Or.inr sz_b1)
  have N11 := Fr.snoc X11 N9 g_b1
  refine Runs.by st11 ?_
  show Runs p e below _ (T11.setTop (mkF m 53 #[.val (.int p0), .val (.int p1), .val (.int p2), .val (.int cc), .val (.int aa), .val (.int (p2.toInt8.toInt32)), .val (.ref b1), .unset, .unset, .unset, .unset, .unset, .unset, .unset, .unset] []))
  refine Runs.by (fun _ hr => XS.aload X11.here hx rfl (hb hby at_53) rfl rfl hr) ?_
  show Runs p e below _ (T11.setTop (mkF m 55 #[.val (.int p0), .val (.int p1), .val (.int p2), .val (.int cc), .val (.int aa), .val (.int (p2.toInt8.toInt32)), .val (.ref b1), .unset, .unset, .unset, .unset, .unset, .unset, .unset, .unset] [(.ref b1)]))
  refine Runs.by (fun _ hr => XS.iconst X11.here hx rfl (hb hby at_55) hr) ?_
  show Runs p e below _ (T11.setTop (mkF m 56 #[.val (.int p0), .val (.int p1), .val (.int p2), .val (.int cc), .val (.int aa), .val (.int (p2.toInt8.toInt32)), .val (.ref b1), .unset, .unset, .unset, .unset, .unset, .unset, .unset, .unset] [(.int (5 : Int32)), (.ref b1)]))
  refine Runs.by (fun _ hr => XS.iload X11.here hx rfl (hb hby at_56) rfl  hr) ?_
  show Runs p e below _ (T11.setTop (mkF m 58 #[.val (.int p0), .val (.int p1), .val (.int p2), .val (.int cc), .val (.int aa), .val (.int (p2.toInt8.toInt32)), .val (.ref b1), .unset, .unset, .unset, .unset, .unset, .unset, .unset, .unset] [(.int (p2.toInt8.toInt32)), (.int (5 : Int32)), (.ref b1)]))
  obtain ⟨cl13, Ar13, q13, S13, N13', H13, G13⟩ := id V11
  have hin13 : ¬ ((5 : Int32) < 0 ∨ cl13.slots.size ≤ ((5 : Int32)).toNatClampNeg) := inb_of S13 ⟨by decide, by decide⟩
  obtain ⟨T13, h13, X13, e13, W13, st13⟩ := stB X11 hx hZ e11 Ar13 (j := (5 : Int32)) hin13 (g := (mkF m 58 #[.val (.int p0), .val (.int p1), .val (.int p2), .val (.int cc), .val (.int aa), .val (.int (p2.toInt8.toInt32)), .val (.ref b1), .unset, .unset, .unset, .unset, .unset, .unset, .unset, .unset] [(.int (p2.toInt8.toInt32)), (.int (5 : Int32)), (.ref b1)])) rfl rfl (hb hby at_58)
  have V13 : Arv Z h13 b1 k1 .byte (8 : Int32) [(.int (nar .byte (p2.toInt8.toInt32))), (.int (nar .byte (p2.toInt8.toInt32))), (.int (nar .byte (p2.toInt8.toInt32))), (.int (nar .byte (p2.toInt8.toInt32))), (.int (nar .byte (p2.toInt8.toInt32))), (.int (nar .byte (p2.toInt8.toInt32))), (.int (0 : Int32)), (.int (0 : Int32))] (.int (0 : Int32)) := Arv.set Ar13 q13 S13 N13' H13 G13 (fits_nar_byte _) W13 (5) rfl (Nat.le_of_ble_eq_true rfl)
  have K14 : Keep h0 h13 [] := K12.wr W13 (Or.inr sz_b1)
  have N13 := Fr.snoc X13 N11 g_b1
  refine Runs.by st13 ?_
  show Runs p e below _ (T13.setTop (mkF m 59 #[.val (.int p0), .val (.int p1), .val (.int p2), .val (.int cc), .val (.int aa), .val (.int (p2.toInt8.toInt32)), .val (.ref b1), .unset, .unset, .unset, .unset, .unset, .unset, .unset, .unset] []))
  refine Runs.by (fun _ hr => XS.aload X13.here hx rfl (hb hby at_59) rfl rfl hr) ?_
  show Runs p e below _ (T13.setTop (mkF m 61 #[.val (.int p0), .val (.int p1), .val (.int p2), .val (.int cc), .val (.int aa), .val (.int (p2.toInt8.toInt32)), .val (.ref b1), .unset, .unset, .unset, .unset, .unset, .unset, .unset, .unset] [(.ref b1)]))
  refine Runs.by (fun _ hr => XS.bipush X13.here hx rfl (hb hby at_61) hr) ?_
  show Runs p e below _ (T13.setTop (mkF m 63 #[.val (.int p0), .val (.int p1), .val (.int p2), .val (.int cc), .val (.int aa), .val (.int (p2.toInt8.toInt32)), .val (.ref b1), .unset, .unset, .unset, .unset, .unset, .unset, .unset, .unset] [(.int (6 : Int32)), (.ref b1)]))
  refine Runs.by (fun _ hr => XS.iload X13.here hx rfl (hb hby at_63) rfl  hr) ?_
  show Runs p e below _ (T13.setTop (mkF m 65 #[.val (.int p0), .val (.int p1), .val (.int p2), .val (.int cc), .val (.int aa), .val (.int (p2.toInt8.toInt32)), .val (.ref b1), .unset, .unset, .unset, .unset, .unset, .unset, .unset, .unset] [(.int (p2.toInt8.toInt32)), (.int (6 : Int32)), (.ref b1)]))
  obtain ⟨cl15, Ar15, q15, S15, N15', H15, G15⟩ := id V13
  have hin15 : ¬ ((6 : Int32) < 0 ∨ cl15.slots.size ≤ ((6 : Int32)).toNatClampNeg) := inb_of S15 ⟨by decide, by decide⟩
  obtain ⟨T15, h15, X15, e15, W15, st15⟩ := stB X13 hx hZ e13 Ar15 (j := (6 : Int32)) hin15 (g := (mkF m 65 #[.val (.int p0), .val (.int p1), .val (.int p2), .val (.int cc), .val (.int aa), .val (.int (p2.toInt8.toInt32)), .val (.ref b1), .unset, .unset, .unset, .unset, .unset, .unset, .unset, .unset] [(.int (p2.toInt8.toInt32)), (.int (6 : Int32)), (.ref b1)])) rfl rfl (hb hby at_65)
  have V15 : Arv Z h15 b1 k1 .byte (8 : Int32) [(.int (nar .byte (p2.toInt8.toInt32))), (.int (nar .byte (p2.toInt8.toInt32))), (.int (nar .byte (p2.toInt8.toInt32))), (.int (nar .byte (p2.toInt8.toInt32))), (.int (nar .byte (p2.toInt8.toInt32))), (.int (nar .byte (p2.toInt8.toInt32))), (.int (nar .byte (p2.toInt8.toInt32))), (.int (0 : Int32))] (.int (0 : Int32)) := Arv.set Ar15 q15 S15 N15' H15 G15 (fits_nar_byte _) W15 (6) rfl (Nat.le_of_ble_eq_true rfl)
  have K16 : Keep h0 h15 [] := K14.wr W15 (Or.inr sz_b1)
  have N15 := Fr.snoc X15 N13 g_b1
  refine Runs.by st15 ?_
  show Runs p e below _ (T15.setTop (mkF m 66 #[.val (.int p0), .val (.int p1), .val (.int p2), .val (.int cc), .val (.int aa), .val (.int (p2.toInt8.toInt32)), .val (.ref b1), .unset, .unset, .unset, .unset, .unset, .unset, .unset, .unset] []))
  refine Runs.by (fun _ hr => XS.aload X15.here hx rfl (hb hby at_66) rfl rfl hr) ?_
  show Runs p e below _ (T15.setTop (mkF m 68 #[.val (.int p0), .val (.int p1), .val (.int p2), .val (.int cc), .val (.int aa), .val (.int (p2.toInt8.toInt32)), .val (.ref b1), .unset, .unset, .unset, .unset, .unset, .unset, .unset, .unset] [(.ref b1)]))
  refine Runs.by (fun _ hr => XS.bipush X15.here hx rfl (hb hby at_68) hr) ?_
  show Runs p e below _ (T15.setTop (mkF m 70 #[.val (.int p0), .val (.int p1), .val (.int p2), .val (.int cc), .val (.int aa), .val (.int (p2.toInt8.toInt32)), .val (.ref b1), .unset, .unset, .unset, .unset, .unset, .unset, .unset, .unset] [(.int (7 : Int32)), (.ref b1)]))
  refine Runs.by (fun _ hr => XS.iload X15.here hx rfl (hb hby at_70) rfl  hr) ?_
  show Runs p e below _ (T15.setTop (mkF m 72 #[.val (.int p0), .val (.int p1), .val (.int p2), .val (.int cc), .val (.int aa), .val (.int (p2.toInt8.toInt32)), .val (.ref b1), .unset, .unset, .unset, .unset, .unset, .unset, .unset, .unset] [(.int (p2.toInt8.toInt32)), (.int (7 : Int32)), (.ref b1)]))
  obtain ⟨cl17, Ar17, q17, S17, N17', H17, G17⟩ := id V15
  have hin17 : ¬ ((7 : Int32) < 0 ∨ cl17.slots.size ≤ ((7 : Int32)).toNatClampNeg) := inb_of S17 ⟨by decide, by decide⟩
  obtain ⟨T17, h17, X17, e17, W17, st17⟩ := stB X15 hx hZ e15 Ar17 (j := (7 : Int32)) hin17 (g := (mkF m 72 #[.val (.int p0), .val (.int p1), .val (.int p2), .val (.int cc), .val (.int aa), .val (.int (p2.toInt8.toInt32)), .val (.ref b1), .unset, .unset, .unset, .unset, .unset, .unset, .unset, .unset] [(.int (p2.toInt8.toInt32)), (.int (7 : Int32)), (.ref b1)])) rfl rfl (hb hby at_72)
  have V17 : Arv Z h17 b1 k1 .byte (8 : Int32) [(.int (nar .byte (p2.toInt8.toInt32))), (.int (nar .byte (p2.toInt8.toInt32))), (.int (nar .byte (p2.toInt8.toInt32))), (.int (nar .byte (p2.toInt8.toInt32))), (.int (nar .byte (p2.toInt8.toInt32))), (.int (nar .byte (p2.toInt8.toInt32))), (.int (nar .byte (p2.toInt8.toInt32))), (.int (nar .byte (p2.toInt8.toInt32)))] (.int (0 : Int32)) := Arv.set Ar17 q17 S17 N17' H17 G17 (fits_nar_byte _) W17 (7) rfl (Nat.le_of_ble_eq_true rfl)
  have K18 : Keep h0 h17 [] := K16.wr W17 (Or.inr sz_b1)
  have N17 := Fr.snoc X17 N15 g_b1
  refine Runs.by st17 ?_
  show Runs p e below _ (T17.setTop (mkF m 73 #[.val (.int p0), .val (.int p1), .val (.int p2), .val (.int cc), .val (.int aa), .val (.int (p2.toInt8.toInt32)), .val (.ref b1), .unset, .unset, .unset, .unset, .unset, .unset, .unset, .unset] []))
  refine Runs.by (fun _ hr => XS.iloadN X17.here hx rfl (hb hby at_73) rfl  hr) ?_
  show Runs p e below _ (T17.setTop (mkF m 74 #[.val (.int p0), .val (.int p1), .val (.int p2), .val (.int cc), .val (.int aa), .val (.int (p2.toInt8.toInt32)), .val (.ref b1), .unset, .unset, .unset, .unset, .unset, .unset, .unset, .unset] [(.int cc)]))
  refine Runs.by (fun _ hr => XS.aload X17.here hx rfl (hb hby at_74) rfl rfl hr) ?_
  show Runs p e below _ (T17.setTop (mkF m 76 #[.val (.int p0), .val (.int p1), .val (.int p2), .val (.int cc), .val (.int aa), .val (.int (p2.toInt8.toInt32)), .val (.ref b1), .unset, .unset, .unset, .unset, .unset, .unset, .unset, .unset] [(.ref b1), (.int cc)]))
  refine Runs.by (fun _ hr => XS.iload X17.here hx rfl (hb hby at_76) rfl  hr) ?_
  show Runs p e below _ (T17.setTop (mkF m 78 #[.val (.int p0), .val (.int p1), .val (.int p2), .val (.int cc), .val (.int aa), .val (.int (p2.toInt8.toInt32)), .val (.ref b1), .unset, .unset, .unset, .unset, .unset, .unset, .unset, .unset] [(.int aa), (.ref b1), (.int cc)]))
  obtain ⟨_, _, ⟨T19, L19, k19, n19⟩, -, X19, ⟨Lc19, hQ19, l19, y19, z19⟩, st19⟩ := Jvm.LawKit.callS X17 hx (y := (⟨"com/example/usher/usher/Utf8Validator", "encode", "(I[BI)I"⟩ : MethodName)) hown (mvT hZ (hw _ (List.mem_of_getElem? (i := 3) rfl))) (mvT hZ (hw _ (List.mem_of_getElem? (i := 4) rfl))) (mvT hZ (hw _ (List.mem_of_getElem? (i := 5) rfl))) (mvT hZ (hw _ (List.mem_of_getElem? (i := 6) rfl))) (by decide) (backOf (W := 0) (rm1 l Z a0 hw [] cc b1 aa k1 (fun _ => nar .byte (p2.toInt8.toInt32)) h17 n0 (Nat.le_trans Z0 K18.1) V17 g_b1 hat) hZ (hw _ (List.mem_of_getElem? (i := 6) rfl)) (hw _ (List.mem_of_getElem? (i := 5) rfl)) (by decide) (by decide)) (g := (mkF m 78 #[.val (.int p0), .val (.int p1), .val (.int p2), .val (.int cc), .val (.int aa), .val (.int (p2.toInt8.toInt32)), .val (.ref b1), .unset, .unset, .unset, .unset, .unset, .unset, .unset, .unset] [(.int aa), (.ref b1), (.int cc)])) rfl (by rw [hml]; rfl) (argsL := [(.int cc), (.ref b1), (.int aa)]) (rest := []) (lenOf pd_0 rfl) rfl (by show 2 * 0 + _ ≤ _; exact Nat.le_of_eq rfl) (hb hby at_78) (fun _ _ => ⟨rfl, e17, (by decide : 1 + 0 ≤ _), (by decide : 8 + 0 ≤ _)⟩)
  dsimp only [Pt.U, Pt.locs, Pt.cells, Pt.slots] at X19 l19 y19 z19 st19 hQ19
  subst l19 y19 z19
  obtain ⟨rfl, Nq19, Kq19, f19_0⟩ := hQ19
  have N19 := Fr.app N17 Nq19
  have K20 : Keep h0 T19.heap [] := Keep.trans (ws := []) K18 Kq19 (allS (Or.inr sz_b1) all0)
  refine Runs.by (fun t hr => st19 t hr) ?_
  obtain ⟨gg, hgg⟩ : ∃ g, g = own_enc cc aa.toInt.toNat (fun _ => nar .byte (p2.toInt8.toInt32)) := ⟨_, rfl⟩
  rw [← hgg] at f19_0
  have t1 : (1 : Int32).toInt = 1 := by decide
  have t2 : (2 : Int32).toInt = 2 := by decide
  have t3 : (3 : Int32).toInt = 3 := by decide
  have i1 : (aa + (1 : Int32)).toInt = aa.toInt + 1 := (Jvm.Kit.i32_add (by omega) (by omega)).trans (by omega)
  have i2 : (aa + (2 : Int32)).toInt = aa.toInt + 2 := (Jvm.Kit.i32_add (by omega) (by omega)).trans (by omega)
  have i3 : (aa + (3 : Int32)).toInt = aa.toInt + 3 := (Jvm.Kit.i32_add (by omega) (by omega)).trans (by omega)
  show Runs p e below _ (T19.setTop (mkF m 81 #[.val (.int p0), .val (.int p1), .val (.int p2), .val (.int cc), .val (.int aa), .val (.int (p2.toInt8.toInt32)), .val (.ref b1), .unset, .unset, .unset, .unset, .unset, .unset, .unset, .unset] [(.int (aa + own_n cc))]))
  refine Runs.by (fun _ hr => XS.istore X19.here hx rfl (hb hby at_81) rfl (l' := #[.val (.int p0), .val (.int p1), .val (.int p2), .val (.int cc), .val (.int aa), .val (.int (p2.toInt8.toInt32)), .val (.ref b1), .val (.int (aa + own_n cc)), .unset, .unset, .unset, .unset, .unset, .unset, .unset]) rfl hr) ?_
  have J124 : ∀  (TJ21 : State) (lJ21 : List Loc) (XJ21 : Stand p l e room_1 s m #[(.int p0), (.int p1), (.int p2)] below meth c TJ21 lJ21 1 8) (eJ21 : TJ21.heap = T19.heap) (NJ21 : Fr n0 lJ21), Runs p e below (QE s (Q_rm0 Z p0 p1 p2 h0 n0) room_1.cells room_1.slots) (TJ21.setTop (mkF m 124 #[.val (.int p0), .val (.int p1), .val (.int p2), .val (.int cc), .val (.int aa), .val (.int (p2.toInt8.toInt32)), .val (.ref b1), .val (.int (aa + own_n cc)), .val (.int (own_n cc)), .unset, .unset, .unset, .unset, .unset, .unset] [])) := by
    intro  TJ21 lJ21 XJ21 eJ21 NJ21 
    show Runs p e below _ (TJ21.setTop (mkF m 124 #[.val (.int p0), .val (.int p1), .val (.int p2), .val (.int cc), .val (.int aa), .val (.int (p2.toInt8.toInt32)), .val (.ref b1), .val (.int (aa + own_n cc)), .val (.int (own_n cc)), .unset, .unset, .unset, .unset, .unset, .unset] []))
    refine Runs.by (fun _ hr => XS.iload XJ21.here hx rfl (hb hby at_124) rfl  hr) ?_
    show Runs p e below _ (TJ21.setTop (mkF m 126 #[.val (.int p0), .val (.int p1), .val (.int p2), .val (.int cc), .val (.int aa), .val (.int (p2.toInt8.toInt32)), .val (.ref b1), .val (.int (aa + own_n cc)), .val (.int (own_n cc)), .unset, .unset, .unset, .unset, .unset, .unset] [(.int (aa + own_n cc))]))
    refine Runs.by (fun _ hr => XS.iload XJ21.here hx rfl (hb hby at_126) rfl  hr) ?_
    show Runs p e below _ (TJ21.setTop (mkF m 128 #[.val (.int p0), .val (.int p1), .val (.int p2), .val (.int cc), .val (.int aa), .val (.int (p2.toInt8.toInt32)), .val (.ref b1), .val (.int (aa + own_n cc)), .val (.int (own_n cc)), .unset, .unset, .unset, .unset, .unset, .unset] [(.int aa), (.int (aa + own_n cc))]))
    refine Runs.by (fun _ hr => XS.iload XJ21.here hx rfl (hb hby at_128) rfl  hr) ?_
    show Runs p e below _ (TJ21.setTop (mkF m 130 #[.val (.int p0), .val (.int p1), .val (.int p2), .val (.int cc), .val (.int aa), .val (.int (p2.toInt8.toInt32)), .val (.ref b1), .val (.int (aa + own_n cc)), .val (.int (own_n cc)), .unset, .unset, .unset, .unset, .unset, .unset] [(.int (own_n cc)), (.int aa), (.int (aa + own_n cc))]))
    refine Runs.by (fun _ hr => XS.iadd XJ21.here hx rfl (hb hby at_130) rfl hr) ?_
    show Runs p e below _ (TJ21.setTop (mkF m 131 #[.val (.int p0), .val (.int p1), .val (.int p2), .val (.int cc), .val (.int aa), .val (.int (p2.toInt8.toInt32)), .val (.ref b1), .val (.int (aa + own_n cc)), .val (.int (own_n cc)), .unset, .unset, .unset, .unset, .unset, .unset] [(.int (aa + (own_n cc))), (.int (aa + own_n cc))]))
    have hc131 : (aa + own_n cc) = (aa + (own_n cc)) := rfl
    refine Runs.by (fun _ hr => XS.icmpYes XJ21.here hx rfl (pc0 := 131) (pc' := 136) rfl (hb hby at_131) rfl (teq hc131).1 (by decide) (by decide) hr) ?_
    show Runs p e below _ (TJ21.setTop (mkF m 136 #[.val (.int p0), .val (.int p1), .val (.int p2), .val (.int cc), .val (.int aa), .val (.int (p2.toInt8.toInt32)), .val (.ref b1), .val (.int (aa + own_n cc)), .val (.int (own_n cc)), .unset, .unset, .unset, .unset, .unset, .unset] []))
    refine Runs.by (fun _ hr => XS.aload XJ21.here hx rfl (hb hby at_136) rfl rfl hr) ?_
    show Runs p e below _ (TJ21.setTop (mkF m 138 #[.val (.int p0), .val (.int p1), .val (.int p2), .val (.int cc), .val (.int aa), .val (.int (p2.toInt8.toInt32)), .val (.ref b1), .val (.int (aa + own_n cc)), .val (.int (own_n cc)), .unset, .unset, .unset, .unset, .unset, .unset] [(.ref b1)]))
    refine Runs.by (fun _ hr => XS.iload XJ21.here hx rfl (hb hby at_138) rfl  hr) ?_
    show Runs p e below _ (TJ21.setTop (mkF m 140 #[.val (.int p0), .val (.int p1), .val (.int p2), .val (.int cc), .val (.int aa), .val (.int (p2.toInt8.toInt32)), .val (.ref b1), .val (.int (aa + own_n cc)), .val (.int (own_n cc)), .unset, .unset, .unset, .unset, .unset, .unset] [(.int aa), (.ref b1)]))
    obtain ⟨cl22, Ar22, -, S22, N22', H22, -⟩ := id f19_0
    have hin22 : ¬ (aa < 0 ∨ cl22.slots.size ≤ (aa).toNatClampNeg) := inb_of S22 (own_inb (by omega))
    have hat22 := H22.at hin22 (v := (.int (gg aa.toInt.toNat))) (own_get gg _ _ (by omega) (by omega))
    refine Runs.by (fun t hr => XJ21.baloadBytes hx (j := aa) (v := (.int (gg aa.toInt.toNat))) (by rw [eJ21]; exact Ar22.1) (State.isArrayOf_alike hZ.alike Ar22.2.1) Ar22.2.2 hin22 hat22 (g := (mkF m 140 #[.val (.int p0), .val (.int p1), .val (.int p2), .val (.int cc), .val (.int aa), .val (.int (p2.toInt8.toInt32)), .val (.ref b1), .val (.int (aa + own_n cc)), .val (.int (own_n cc)), .unset, .unset, .unset, .unset, .unset, .unset] [(.int aa), (.ref b1)])) rfl rfl (hb hby at_140) t hr) ?_
    show Runs p e below _ (TJ21.setTop (mkF m 141 #[.val (.int p0), .val (.int p1), .val (.int p2), .val (.int cc), .val (.int aa), .val (.int (p2.toInt8.toInt32)), .val (.ref b1), .val (.int (aa + own_n cc)), .val (.int (own_n cc)), .unset, .unset, .unset, .unset, .unset, .unset] [(.int (gg aa.toInt.toNat))]))
    refine Runs.by (fun _ hr => XS.sipush XJ21.here hx rfl (hb hby at_141) hr) ?_
    show Runs p e below _ (TJ21.setTop (mkF m 144 #[.val (.int p0), .val (.int p1), .val (.int p2), .val (.int cc), .val (.int aa), .val (.int (p2.toInt8.toInt32)), .val (.ref b1), .val (.int (aa + own_n cc)), .val (.int (own_n cc)), .unset, .unset, .unset, .unset, .unset, .unset] [(.int (255 : Int32)), (.int (gg aa.toInt.toNat))]))
    refine Runs.by (fun _ hr => XS.iand XJ21.here hx rfl (hb hby at_144) rfl hr) ?_
    show Runs p e below _ (TJ21.setTop (mkF m 145 #[.val (.int p0), .val (.int p1), .val (.int p2), .val (.int cc), .val (.int aa), .val (.int (p2.toInt8.toInt32)), .val (.ref b1), .val (.int (aa + own_n cc)), .val (.int (own_n cc)), .unset, .unset, .unset, .unset, .unset, .unset] [(.int ((gg aa.toInt.toNat) &&& (255 : Int32)))]))
    refine Runs.by (fun _ hr => XS.istore XJ21.here hx rfl (hb hby at_145) rfl (l' := #[.val (.int p0), .val (.int p1), .val (.int p2), .val (.int cc), .val (.int aa), .val (.int (p2.toInt8.toInt32)), .val (.ref b1), .val (.int (aa + own_n cc)), .val (.int (own_n cc)), .val (.int ((gg aa.toInt.toNat) &&& (255 : Int32))), .unset, .unset, .unset, .unset, .unset]) rfl hr) ?_
    show Runs p e below _ (TJ21.setTop (mkF m 147 #[.val (.int p0), .val (.int p1), .val (.int p2), .val (.int cc), .val (.int aa), .val (.int (p2.toInt8.toInt32)), .val (.ref b1), .val (.int (aa + own_n cc)), .val (.int (own_n cc)), .val (.int ((gg aa.toInt.toNat) &&& (255 : Int32))), .unset, .unset, .unset, .unset, .unset] []))
    refine Runs.by (fun _ hr => XS.aload XJ21.here hx rfl (hb hby at_147) rfl rfl hr) ?_
    show Runs p e below _ (TJ21.setTop (mkF m 149 #[.val (.int p0), .val (.int p1), .val (.int p2), .val (.int cc), .val (.int aa), .val (.int (p2.toInt8.toInt32)), .val (.ref b1), .val (.int (aa + own_n cc)), .val (.int (own_n cc)), .val (.int ((gg aa.toInt.toNat) &&& (255 : Int32))), .unset, .unset, .unset, .unset, .unset] [(.ref b1)]))
    refine Runs.by (fun _ hr => XS.iload XJ21.here hx rfl (hb hby at_149) rfl  hr) ?_
    show Runs p e below _ (TJ21.setTop (mkF m 151 #[.val (.int p0), .val (.int p1), .val (.int p2), .val (.int cc), .val (.int aa), .val (.int (p2.toInt8.toInt32)), .val (.ref b1), .val (.int (aa + own_n cc)), .val (.int (own_n cc)), .val (.int ((gg aa.toInt.toNat) &&& (255 : Int32))), .unset, .unset, .unset, .unset, .unset] [(.int aa), (.ref b1)]))
    refine Runs.by (fun _ hr => XS.iconst XJ21.here hx rfl (hb hby at_151) hr) ?_
    show Runs p e below _ (TJ21.setTop (mkF m 152 #[.val (.int p0), .val (.int p1), .val (.int p2), .val (.int cc), .val (.int aa), .val (.int (p2.toInt8.toInt32)), .val (.ref b1), .val (.int (aa + own_n cc)), .val (.int (own_n cc)), .val (.int ((gg aa.toInt.toNat) &&& (255 : Int32))), .unset, .unset, .unset, .unset, .unset] [(.int (1 : Int32)), (.int aa), (.ref b1)]))
    refine Runs.by (fun _ hr => XS.iadd XJ21.here hx rfl (hb hby at_152) rfl hr) ?_
    show Runs p e below _ (TJ21.setTop (mkF m 153 #[.val (.int p0), .val (.int p1), .val (.int p2), .val (.int cc), .val (.int aa), .val (.int (p2.toInt8.toInt32)), .val (.ref b1), .val (.int (aa + own_n cc)), .val (.int (own_n cc)), .val (.int ((gg aa.toInt.toNat) &&& (255 : Int32))), .unset, .unset, .unset, .unset, .unset] [(.int (aa + (1 : Int32))), (.ref b1)]))
    obtain ⟨cl23, Ar23, -, S23, N23', H23, -⟩ := id f19_0
    have hin23 : ¬ ((aa + (1 : Int32)) < 0 ∨ cl23.slots.size ≤ ((aa + (1 : Int32))).toNatClampNeg) := inb_of S23 (own_inb (by omega))
    have hat23 := H23.at hin23 (v := (.int (gg (aa.toInt.toNat + 1)))) (own_get gg _ _ (by omega) (by omega))
    refine Runs.by (fun t hr => XJ21.baloadBytes hx (j := (aa + (1 : Int32))) (v := (.int (gg (aa.toInt.toNat + 1)))) (by rw [eJ21]; exact Ar23.1) (State.isArrayOf_alike hZ.alike Ar23.2.1) Ar23.2.2 hin23 hat23 (g := (mkF m 153 #[.val (.int p0), .val (.int p1), .val (.int p2), .val (.int cc), .val (.int aa), .val (.int (p2.toInt8.toInt32)), .val (.ref b1), .val (.int (aa + own_n cc)), .val (.int (own_n cc)), .val (.int ((gg aa.toInt.toNat) &&& (255 : Int32))), .unset, .unset, .unset, .unset, .unset] [(.int (aa + (1 : Int32))), (.ref b1)])) rfl rfl (hb hby at_153) t hr) ?_
    show Runs p e below _ (TJ21.setTop (mkF m 154 #[.val (.int p0), .val (.int p1), .val (.int p2), .val (.int cc), .val (.int aa), .val (.int (p2.toInt8.toInt32)), .val (.ref b1), .val (.int (aa + own_n cc)), .val (.int (own_n cc)), .val (.int ((gg aa.toInt.toNat) &&& (255 : Int32))), .unset, .unset, .unset, .unset, .unset] [(.int (gg (aa.toInt.toNat + 1)))]))
    refine Runs.by (fun _ hr => XS.sipush XJ21.here hx rfl (hb hby at_154) hr) ?_
    show Runs p e below _ (TJ21.setTop (mkF m 157 #[.val (.int p0), .val (.int p1), .val (.int p2), .val (.int cc), .val (.int aa), .val (.int (p2.toInt8.toInt32)), .val (.ref b1), .val (.int (aa + own_n cc)), .val (.int (own_n cc)), .val (.int ((gg aa.toInt.toNat) &&& (255 : Int32))), .unset, .unset, .unset, .unset, .unset] [(.int (255 : Int32)), (.int (gg (aa.toInt.toNat + 1)))]))
    refine Runs.by (fun _ hr => XS.iand XJ21.here hx rfl (hb hby at_157) rfl hr) ?_
    show Runs p e below _ (TJ21.setTop (mkF m 158 #[.val (.int p0), .val (.int p1), .val (.int p2), .val (.int cc), .val (.int aa), .val (.int (p2.toInt8.toInt32)), .val (.ref b1), .val (.int (aa + own_n cc)), .val (.int (own_n cc)), .val (.int ((gg aa.toInt.toNat) &&& (255 : Int32))), .unset, .unset, .unset, .unset, .unset] [(.int ((gg (aa.toInt.toNat + 1)) &&& (255 : Int32)))]))
    refine Runs.by (fun _ hr => XS.istore XJ21.here hx rfl (hb hby at_158) rfl (l' := #[.val (.int p0), .val (.int p1), .val (.int p2), .val (.int cc), .val (.int aa), .val (.int (p2.toInt8.toInt32)), .val (.ref b1), .val (.int (aa + own_n cc)), .val (.int (own_n cc)), .val (.int ((gg aa.toInt.toNat) &&& (255 : Int32))), .val (.int ((gg (aa.toInt.toNat + 1)) &&& (255 : Int32))), .unset, .unset, .unset, .unset]) rfl hr) ?_
    show Runs p e below _ (TJ21.setTop (mkF m 160 #[.val (.int p0), .val (.int p1), .val (.int p2), .val (.int cc), .val (.int aa), .val (.int (p2.toInt8.toInt32)), .val (.ref b1), .val (.int (aa + own_n cc)), .val (.int (own_n cc)), .val (.int ((gg aa.toInt.toNat) &&& (255 : Int32))), .val (.int ((gg (aa.toInt.toNat + 1)) &&& (255 : Int32))), .unset, .unset, .unset, .unset] []))
    refine Runs.by (fun _ hr => XS.aload XJ21.here hx rfl (hb hby at_160) rfl rfl hr) ?_
    show Runs p e below _ (TJ21.setTop (mkF m 162 #[.val (.int p0), .val (.int p1), .val (.int p2), .val (.int cc), .val (.int aa), .val (.int (p2.toInt8.toInt32)), .val (.ref b1), .val (.int (aa + own_n cc)), .val (.int (own_n cc)), .val (.int ((gg aa.toInt.toNat) &&& (255 : Int32))), .val (.int ((gg (aa.toInt.toNat + 1)) &&& (255 : Int32))), .unset, .unset, .unset, .unset] [(.ref b1)]))
    refine Runs.by (fun _ hr => XS.iload XJ21.here hx rfl (hb hby at_162) rfl  hr) ?_
    show Runs p e below _ (TJ21.setTop (mkF m 164 #[.val (.int p0), .val (.int p1), .val (.int p2), .val (.int cc), .val (.int aa), .val (.int (p2.toInt8.toInt32)), .val (.ref b1), .val (.int (aa + own_n cc)), .val (.int (own_n cc)), .val (.int ((gg aa.toInt.toNat) &&& (255 : Int32))), .val (.int ((gg (aa.toInt.toNat + 1)) &&& (255 : Int32))), .unset, .unset, .unset, .unset] [(.int aa), (.ref b1)]))
    refine Runs.by (fun _ hr => XS.iconst XJ21.here hx rfl (hb hby at_164) hr) ?_
    show Runs p e below _ (TJ21.setTop (mkF m 165 #[.val (.int p0), .val (.int p1), .val (.int p2), .val (.int cc), .val (.int aa), .val (.int (p2.toInt8.toInt32)), .val (.ref b1), .val (.int (aa + own_n cc)), .val (.int (own_n cc)), .val (.int ((gg aa.toInt.toNat) &&& (255 : Int32))), .val (.int ((gg (aa.toInt.toNat + 1)) &&& (255 : Int32))), .unset, .unset, .unset, .unset] [(.int (2 : Int32)), (.int aa), (.ref b1)]))
    refine Runs.by (fun _ hr => XS.iadd XJ21.here hx rfl (hb hby at_165) rfl hr) ?_
    show Runs p e below _ (TJ21.setTop (mkF m 166 #[.val (.int p0), .val (.int p1), .val (.int p2), .val (.int cc), .val (.int aa), .val (.int (p2.toInt8.toInt32)), .val (.ref b1), .val (.int (aa + own_n cc)), .val (.int (own_n cc)), .val (.int ((gg aa.toInt.toNat) &&& (255 : Int32))), .val (.int ((gg (aa.toInt.toNat + 1)) &&& (255 : Int32))), .unset, .unset, .unset, .unset] [(.int (aa + (2 : Int32))), (.ref b1)]))
    obtain ⟨cl24, Ar24, -, S24, N24', H24, -⟩ := id f19_0
    have hin24 : ¬ ((aa + (2 : Int32)) < 0 ∨ cl24.slots.size ≤ ((aa + (2 : Int32))).toNatClampNeg) := inb_of S24 (own_inb (by omega))
    have hat24 := H24.at hin24 (v := (.int (gg (aa.toInt.toNat + 2)))) (own_get gg _ _ (by omega) (by omega))
    refine Runs.by (fun t hr => XJ21.baloadBytes hx (j := (aa + (2 : Int32))) (v := (.int (gg (aa.toInt.toNat + 2)))) (by rw [eJ21]; exact Ar24.1) (State.isArrayOf_alike hZ.alike Ar24.2.1) Ar24.2.2 hin24 hat24 (g := (mkF m 166 #[.val (.int p0), .val (.int p1), .val (.int p2), .val (.int cc), .val (.int aa), .val (.int (p2.toInt8.toInt32)), .val (.ref b1), .val (.int (aa + own_n cc)), .val (.int (own_n cc)), .val (.int ((gg aa.toInt.toNat) &&& (255 : Int32))), .val (.int ((gg (aa.toInt.toNat + 1)) &&& (255 : Int32))), .unset, .unset, .unset, .unset] [(.int (aa + (2 : Int32))), (.ref b1)])) rfl rfl (hb hby at_166) t hr) ?_
    show Runs p e below _ (TJ21.setTop (mkF m 167 #[.val (.int p0), .val (.int p1), .val (.int p2), .val (.int cc), .val (.int aa), .val (.int (p2.toInt8.toInt32)), .val (.ref b1), .val (.int (aa + own_n cc)), .val (.int (own_n cc)), .val (.int ((gg aa.toInt.toNat) &&& (255 : Int32))), .val (.int ((gg (aa.toInt.toNat + 1)) &&& (255 : Int32))), .unset, .unset, .unset, .unset] [(.int (gg (aa.toInt.toNat + 2)))]))
    refine Runs.by (fun _ hr => XS.sipush XJ21.here hx rfl (hb hby at_167) hr) ?_
    show Runs p e below _ (TJ21.setTop (mkF m 170 #[.val (.int p0), .val (.int p1), .val (.int p2), .val (.int cc), .val (.int aa), .val (.int (p2.toInt8.toInt32)), .val (.ref b1), .val (.int (aa + own_n cc)), .val (.int (own_n cc)), .val (.int ((gg aa.toInt.toNat) &&& (255 : Int32))), .val (.int ((gg (aa.toInt.toNat + 1)) &&& (255 : Int32))), .unset, .unset, .unset, .unset] [(.int (255 : Int32)), (.int (gg (aa.toInt.toNat + 2)))]))
    refine Runs.by (fun _ hr => XS.iand XJ21.here hx rfl (hb hby at_170) rfl hr) ?_
    show Runs p e below _ (TJ21.setTop (mkF m 171 #[.val (.int p0), .val (.int p1), .val (.int p2), .val (.int cc), .val (.int aa), .val (.int (p2.toInt8.toInt32)), .val (.ref b1), .val (.int (aa + own_n cc)), .val (.int (own_n cc)), .val (.int ((gg aa.toInt.toNat) &&& (255 : Int32))), .val (.int ((gg (aa.toInt.toNat + 1)) &&& (255 : Int32))), .unset, .unset, .unset, .unset] [(.int ((gg (aa.toInt.toNat + 2)) &&& (255 : Int32)))]))
    refine Runs.by (fun _ hr => XS.istore XJ21.here hx rfl (hb hby at_171) rfl (l' := #[.val (.int p0), .val (.int p1), .val (.int p2), .val (.int cc), .val (.int aa), .val (.int (p2.toInt8.toInt32)), .val (.ref b1), .val (.int (aa + own_n cc)), .val (.int (own_n cc)), .val (.int ((gg aa.toInt.toNat) &&& (255 : Int32))), .val (.int ((gg (aa.toInt.toNat + 1)) &&& (255 : Int32))), .val (.int ((gg (aa.toInt.toNat + 2)) &&& (255 : Int32))), .unset, .unset, .unset]) rfl hr) ?_
    show Runs p e below _ (TJ21.setTop (mkF m 173 #[.val (.int p0), .val (.int p1), .val (.int p2), .val (.int cc), .val (.int aa), .val (.int (p2.toInt8.toInt32)), .val (.ref b1), .val (.int (aa + own_n cc)), .val (.int (own_n cc)), .val (.int ((gg aa.toInt.toNat) &&& (255 : Int32))), .val (.int ((gg (aa.toInt.toNat + 1)) &&& (255 : Int32))), .val (.int ((gg (aa.toInt.toNat + 2)) &&& (255 : Int32))), .unset, .unset, .unset] []))
    refine Runs.by (fun _ hr => XS.aload XJ21.here hx rfl (hb hby at_173) rfl rfl hr) ?_
    show Runs p e below _ (TJ21.setTop (mkF m 175 #[.val (.int p0), .val (.int p1), .val (.int p2), .val (.int cc), .val (.int aa), .val (.int (p2.toInt8.toInt32)), .val (.ref b1), .val (.int (aa + own_n cc)), .val (.int (own_n cc)), .val (.int ((gg aa.toInt.toNat) &&& (255 : Int32))), .val (.int ((gg (aa.toInt.toNat + 1)) &&& (255 : Int32))), .val (.int ((gg (aa.toInt.toNat + 2)) &&& (255 : Int32))), .unset, .unset, .unset] [(.ref b1)]))
    refine Runs.by (fun _ hr => XS.iload XJ21.here hx rfl (hb hby at_175) rfl  hr) ?_
    show Runs p e below _ (TJ21.setTop (mkF m 177 #[.val (.int p0), .val (.int p1), .val (.int p2), .val (.int cc), .val (.int aa), .val (.int (p2.toInt8.toInt32)), .val (.ref b1), .val (.int (aa + own_n cc)), .val (.int (own_n cc)), .val (.int ((gg aa.toInt.toNat) &&& (255 : Int32))), .val (.int ((gg (aa.toInt.toNat + 1)) &&& (255 : Int32))), .val (.int ((gg (aa.toInt.toNat + 2)) &&& (255 : Int32))), .unset, .unset, .unset] [(.int aa), (.ref b1)]))
    refine Runs.by (fun _ hr => XS.iconst XJ21.here hx rfl (hb hby at_177) hr) ?_
    show Runs p e below _ (TJ21.setTop (mkF m 178 #[.val (.int p0), .val (.int p1), .val (.int p2), .val (.int cc), .val (.int aa), .val (.int (p2.toInt8.toInt32)), .val (.ref b1), .val (.int (aa + own_n cc)), .val (.int (own_n cc)), .val (.int ((gg aa.toInt.toNat) &&& (255 : Int32))), .val (.int ((gg (aa.toInt.toNat + 1)) &&& (255 : Int32))), .val (.int ((gg (aa.toInt.toNat + 2)) &&& (255 : Int32))), .unset, .unset, .unset] [(.int (3 : Int32)), (.int aa), (.ref b1)]))
    refine Runs.by (fun _ hr => XS.iadd XJ21.here hx rfl (hb hby at_178) rfl hr) ?_
    show Runs p e below _ (TJ21.setTop (mkF m 179 #[.val (.int p0), .val (.int p1), .val (.int p2), .val (.int cc), .val (.int aa), .val (.int (p2.toInt8.toInt32)), .val (.ref b1), .val (.int (aa + own_n cc)), .val (.int (own_n cc)), .val (.int ((gg aa.toInt.toNat) &&& (255 : Int32))), .val (.int ((gg (aa.toInt.toNat + 1)) &&& (255 : Int32))), .val (.int ((gg (aa.toInt.toNat + 2)) &&& (255 : Int32))), .unset, .unset, .unset] [(.int (aa + (3 : Int32))), (.ref b1)]))
    obtain ⟨cl25, Ar25, -, S25, N25', H25, -⟩ := id f19_0
    have hin25 : ¬ ((aa + (3 : Int32)) < 0 ∨ cl25.slots.size ≤ ((aa + (3 : Int32))).toNatClampNeg) := inb_of S25 (own_inb (by omega))
    have hat25 := H25.at hin25 (v := (.int (gg (aa.toInt.toNat + 3)))) (own_get gg _ _ (by omega) (by omega))
    refine Runs.by (fun t hr => XJ21.baloadBytes hx (j := (aa + (3 : Int32))) (v := (.int (gg (aa.toInt.toNat + 3)))) (by rw [eJ21]; exact Ar25.1) (State.isArrayOf_alike hZ.alike Ar25.2.1) Ar25.2.2 hin25 hat25 (g := (mkF m 179 #[.val (.int p0), .val (.int p1), .val (.int p2), .val (.int cc), .val (.int aa), .val (.int (p2.toInt8.toInt32)), .val (.ref b1), .val (.int (aa + own_n cc)), .val (.int (own_n cc)), .val (.int ((gg aa.toInt.toNat) &&& (255 : Int32))), .val (.int ((gg (aa.toInt.toNat + 1)) &&& (255 : Int32))), .val (.int ((gg (aa.toInt.toNat + 2)) &&& (255 : Int32))), .unset, .unset, .unset] [(.int (aa + (3 : Int32))), (.ref b1)])) rfl rfl (hb hby at_179) t hr) ?_
    show Runs p e below _ (TJ21.setTop (mkF m 180 #[.val (.int p0), .val (.int p1), .val (.int p2), .val (.int cc), .val (.int aa), .val (.int (p2.toInt8.toInt32)), .val (.ref b1), .val (.int (aa + own_n cc)), .val (.int (own_n cc)), .val (.int ((gg aa.toInt.toNat) &&& (255 : Int32))), .val (.int ((gg (aa.toInt.toNat + 1)) &&& (255 : Int32))), .val (.int ((gg (aa.toInt.toNat + 2)) &&& (255 : Int32))), .unset, .unset, .unset] [(.int (gg (aa.toInt.toNat + 3)))]))
    refine Runs.by (fun _ hr => XS.sipush XJ21.here hx rfl (hb hby at_180) hr) ?_
    show Runs p e below _ (TJ21.setTop (mkF m 183 #[.val (.int p0), .val (.int p1), .val (.int p2), .val (.int cc), .val (.int aa), .val (.int (p2.toInt8.toInt32)), .val (.ref b1), .val (.int (aa + own_n cc)), .val (.int (own_n cc)), .val (.int ((gg aa.toInt.toNat) &&& (255 : Int32))), .val (.int ((gg (aa.toInt.toNat + 1)) &&& (255 : Int32))), .val (.int ((gg (aa.toInt.toNat + 2)) &&& (255 : Int32))), .unset, .unset, .unset] [(.int (255 : Int32)), (.int (gg (aa.toInt.toNat + 3)))]))
    refine Runs.by (fun _ hr => XS.iand XJ21.here hx rfl (hb hby at_183) rfl hr) ?_
    show Runs p e below _ (TJ21.setTop (mkF m 184 #[.val (.int p0), .val (.int p1), .val (.int p2), .val (.int cc), .val (.int aa), .val (.int (p2.toInt8.toInt32)), .val (.ref b1), .val (.int (aa + own_n cc)), .val (.int (own_n cc)), .val (.int ((gg aa.toInt.toNat) &&& (255 : Int32))), .val (.int ((gg (aa.toInt.toNat + 1)) &&& (255 : Int32))), .val (.int ((gg (aa.toInt.toNat + 2)) &&& (255 : Int32))), .unset, .unset, .unset] [(.int ((gg (aa.toInt.toNat + 3)) &&& (255 : Int32)))]))
    refine Runs.by (fun _ hr => XS.istore XJ21.here hx rfl (hb hby at_184) rfl (l' := #[.val (.int p0), .val (.int p1), .val (.int p2), .val (.int cc), .val (.int aa), .val (.int (p2.toInt8.toInt32)), .val (.ref b1), .val (.int (aa + own_n cc)), .val (.int (own_n cc)), .val (.int ((gg aa.toInt.toNat) &&& (255 : Int32))), .val (.int ((gg (aa.toInt.toNat + 1)) &&& (255 : Int32))), .val (.int ((gg (aa.toInt.toNat + 2)) &&& (255 : Int32))), .val (.int ((gg (aa.toInt.toNat + 3)) &&& (255 : Int32))), .unset, .unset]) rfl hr) ?_
    have J412 : ∀  (TJ26 : State) (lJ26 : List Loc) (XJ26 : Stand p l e room_1 s m #[(.int p0), (.int p1), (.int p2)] below meth c TJ26 lJ26 1 8) (eJ26 : TJ26.heap = T19.heap) (NJ26 : Fr n0 lJ26), Runs p e below (QE s (Q_rm0 Z p0 p1 p2 h0 n0) room_1.cells room_1.slots) (TJ26.setTop (mkF m 412 #[.val (.int p0), .val (.int p1), .val (.int p2), .val (.int cc), .val (.int aa), .val (.int (p2.toInt8.toInt32)), .val (.ref b1), .val (.int (aa + own_n cc)), .val (.int (own_n cc)), .val (.int ((gg aa.toInt.toNat) &&& (255 : Int32))), .val (.int ((gg (aa.toInt.toNat + 1)) &&& (255 : Int32))), .val (.int ((gg (aa.toInt.toNat + 2)) &&& (255 : Int32))), .val (.int ((gg (aa.toInt.toNat + 3)) &&& (255 : Int32))), .val (.int (1 : Int32)), .unset] [])) := by
      intro  TJ26 lJ26 XJ26 eJ26 NJ26 
      show Runs p e below _ (TJ26.setTop (mkF m 412 #[.val (.int p0), .val (.int p1), .val (.int p2), .val (.int cc), .val (.int aa), .val (.int (p2.toInt8.toInt32)), .val (.ref b1), .val (.int (aa + own_n cc)), .val (.int (own_n cc)), .val (.int ((gg aa.toInt.toNat) &&& (255 : Int32))), .val (.int ((gg (aa.toInt.toNat + 1)) &&& (255 : Int32))), .val (.int ((gg (aa.toInt.toNat + 2)) &&& (255 : Int32))), .val (.int ((gg (aa.toInt.toNat + 3)) &&& (255 : Int32))), .val (.int (1 : Int32)), .unset] []))
      refine Runs.by (fun _ hr => XS.aload XJ26.here hx rfl (hb hby at_412) rfl rfl hr) ?_
      show Runs p e below _ (TJ26.setTop (mkF m 414 #[.val (.int p0), .val (.int p1), .val (.int p2), .val (.int cc), .val (.int aa), .val (.int (p2.toInt8.toInt32)), .val (.ref b1), .val (.int (aa + own_n cc)), .val (.int (own_n cc)), .val (.int ((gg aa.toInt.toNat) &&& (255 : Int32))), .val (.int ((gg (aa.toInt.toNat + 1)) &&& (255 : Int32))), .val (.int ((gg (aa.toInt.toNat + 2)) &&& (255 : Int32))), .val (.int ((gg (aa.toInt.toNat + 3)) &&& (255 : Int32))), .val (.int (1 : Int32)), .unset] [(.ref b1)]))
      refine Runs.by (fun _ hr => XS.iconst XJ26.here hx rfl (hb hby at_414) hr) ?_
      show Runs p e below _ (TJ26.setTop (mkF m 415 #[.val (.int p0), .val (.int p1), .val (.int p2), .val (.int cc), .val (.int aa), .val (.int (p2.toInt8.toInt32)), .val (.ref b1), .val (.int (aa + own_n cc)), .val (.int (own_n cc)), .val (.int ((gg aa.toInt.toNat) &&& (255 : Int32))), .val (.int ((gg (aa.toInt.toNat + 1)) &&& (255 : Int32))), .val (.int ((gg (aa.toInt.toNat + 2)) &&& (255 : Int32))), .val (.int ((gg (aa.toInt.toNat + 3)) &&& (255 : Int32))), .val (.int (1 : Int32)), .unset] [(.int (0 : Int32)), (.ref b1)]))
      refine Runs.by (fun _ hr => XS.iload XJ26.here hx rfl (hb hby at_415) rfl  hr) ?_
      show Runs p e below _ (TJ26.setTop (mkF m 417 #[.val (.int p0), .val (.int p1), .val (.int p2), .val (.int cc), .val (.int aa), .val (.int (p2.toInt8.toInt32)), .val (.ref b1), .val (.int (aa + own_n cc)), .val (.int (own_n cc)), .val (.int ((gg aa.toInt.toNat) &&& (255 : Int32))), .val (.int ((gg (aa.toInt.toNat + 1)) &&& (255 : Int32))), .val (.int ((gg (aa.toInt.toNat + 2)) &&& (255 : Int32))), .val (.int ((gg (aa.toInt.toNat + 3)) &&& (255 : Int32))), .val (.int (1 : Int32)), .unset] [(.int aa), (.int (0 : Int32)), (.ref b1)]))
      refine Runs.by (fun _ hr => XS.iload XJ26.here hx rfl (hb hby at_417) rfl  hr) ?_
      show Runs p e below _ (TJ26.setTop (mkF m 419 #[.val (.int p0), .val (.int p1), .val (.int p2), .val (.int cc), .val (.int aa), .val (.int (p2.toInt8.toInt32)), .val (.ref b1), .val (.int (aa + own_n cc)), .val (.int (own_n cc)), .val (.int ((gg aa.toInt.toNat) &&& (255 : Int32))), .val (.int ((gg (aa.toInt.toNat + 1)) &&& (255 : Int32))), .val (.int ((gg (aa.toInt.toNat + 2)) &&& (255 : Int32))), .val (.int ((gg (aa.toInt.toNat + 3)) &&& (255 : Int32))), .val (.int (1 : Int32)), .unset] [(.int (aa + own_n cc)), (.int aa), (.int (0 : Int32)), (.ref b1)]))
      refine Runs.by (fun _ hr => XS.iload XJ26.here hx rfl (hb hby at_419) rfl  hr) ?_
      show Runs p e below _ (TJ26.setTop (mkF m 421 #[.val (.int p0), .val (.int p1), .val (.int p2), .val (.int cc), .val (.int aa), .val (.int (p2.toInt8.toInt32)), .val (.ref b1), .val (.int (aa + own_n cc)), .val (.int (own_n cc)), .val (.int ((gg aa.toInt.toNat) &&& (255 : Int32))), .val (.int ((gg (aa.toInt.toNat + 1)) &&& (255 : Int32))), .val (.int ((gg (aa.toInt.toNat + 2)) &&& (255 : Int32))), .val (.int ((gg (aa.toInt.toNat + 3)) &&& (255 : Int32))), .val (.int (1 : Int32)), .unset] [(.int (p2.toInt8.toInt32)), (.int (aa + own_n cc)), (.int aa), (.int (0 : Int32)), (.ref b1)]))
      obtain ⟨_, _, ⟨T27, L27, k27, n27⟩, -, X27, ⟨Lc27, hQ27, l27, y27, z27⟩, st27⟩ := Jvm.LawKit.callS XJ26 hx (y := (⟨"com/example/usher/usher/Utf8ValidatorEncodePinLaw", "untouched", "([BIIIB)Z"⟩ : MethodName)) hown (mvT hZ (hw _ (List.mem_of_getElem? (i := 7) rfl))) (mvT hZ (hw _ (List.mem_of_getElem? (i := 8) rfl))) (mvT hZ (hw _ (List.mem_of_getElem? (i := 9) rfl))) (mvT hZ (hw _ (List.mem_of_getElem? (i := 10) rfl))) (by decide) (backOf (W := 0) (rm2 l Z a0 hw [] b1 (0 : Int32) aa (aa + own_n cc) (p2.toInt8.toInt32) k1 gg T19.heap n0 (Nat.le_trans Z0 K20.1) f19_0 (by decide) (own_rest hgg hat (0 : Int32) (by decide))) hZ (hw _ (List.mem_of_getElem? (i := 10) rfl)) (hw _ (List.mem_of_getElem? (i := 9) rfl)) (by decide) (by decide)) (g := (mkF m 421 #[.val (.int p0), .val (.int p1), .val (.int p2), .val (.int cc), .val (.int aa), .val (.int (p2.toInt8.toInt32)), .val (.ref b1), .val (.int (aa + own_n cc)), .val (.int (own_n cc)), .val (.int ((gg aa.toInt.toNat) &&& (255 : Int32))), .val (.int ((gg (aa.toInt.toNat + 1)) &&& (255 : Int32))), .val (.int ((gg (aa.toInt.toNat + 2)) &&& (255 : Int32))), .val (.int ((gg (aa.toInt.toNat + 3)) &&& (255 : Int32))), .val (.int (1 : Int32)), .unset] [(.int (p2.toInt8.toInt32)), (.int (aa + own_n cc)), (.int aa), (.int (0 : Int32)), (.ref b1)])) rfl (by rw [hml]; rfl) (argsL := [(.ref b1), (.int (0 : Int32)), (.int aa), (.int (aa + own_n cc)), (.int (p2.toInt8.toInt32))]) (rest := []) (lenOf pd_1 rfl) rfl (by show 2 * 0 + _ ≤ _; exact Nat.le_of_eq rfl) (hb hby at_421) (fun _ _ => ⟨rfl, eJ26, (by decide : 1 + 0 ≤ _), (by decide : 8 + 0 ≤ _)⟩)
      dsimp only [Pt.U, Pt.locs, Pt.cells, Pt.slots] at X27 l27 y27 z27 st27 hQ27
      subst l27 y27 z27
      obtain ⟨rfl, Nq27, eq27⟩ := hQ27
      have N27 := Fr.app NJ26 Nq27
      refine Runs.by (fun t hr => st27 t hr) ?_
      show Runs p e below _ (T27.setTop (mkF m 424 #[.val (.int p0), .val (.int p1), .val (.int p2), .val (.int cc), .val (.int aa), .val (.int (p2.toInt8.toInt32)), .val (.ref b1), .val (.int (aa + own_n cc)), .val (.int (own_n cc)), .val (.int ((gg aa.toInt.toNat) &&& (255 : Int32))), .val (.int ((gg (aa.toInt.toNat + 1)) &&& (255 : Int32))), .val (.int ((gg (aa.toInt.toNat + 2)) &&& (255 : Int32))), .val (.int ((gg (aa.toInt.toNat + 3)) &&& (255 : Int32))), .val (.int (1 : Int32)), .unset] [(.int (1 : Int32))]))
      have hc424 : ¬ ((1 : Int32) = (0 : Int32)) := (by decide)
      refine Runs.by (fun _ hr => XS.ifNo X27.here hx rfl (hb hby at_424) rfl ((if0 _ _).trans (feq hc424).1) hr) ?_
      show Runs p e below _ (T27.setTop (mkF m 427 #[.val (.int p0), .val (.int p1), .val (.int p2), .val (.int cc), .val (.int aa), .val (.int (p2.toInt8.toInt32)), .val (.ref b1), .val (.int (aa + own_n cc)), .val (.int (own_n cc)), .val (.int ((gg aa.toInt.toNat) &&& (255 : Int32))), .val (.int ((gg (aa.toInt.toNat + 1)) &&& (255 : Int32))), .val (.int ((gg (aa.toInt.toNat + 2)) &&& (255 : Int32))), .val (.int ((gg (aa.toInt.toNat + 3)) &&& (255 : Int32))), .val (.int (1 : Int32)), .unset] []))
      refine Runs.by (fun _ hr => XS.aload X27.here hx rfl (hb hby at_427) rfl rfl hr) ?_
      show Runs p e below _ (T27.setTop (mkF m 429 #[.val (.int p0), .val (.int p1), .val (.int p2), .val (.int cc), .val (.int aa), .val (.int (p2.toInt8.toInt32)), .val (.ref b1), .val (.int (aa + own_n cc)), .val (.int (own_n cc)), .val (.int ((gg aa.toInt.toNat) &&& (255 : Int32))), .val (.int ((gg (aa.toInt.toNat + 1)) &&& (255 : Int32))), .val (.int ((gg (aa.toInt.toNat + 2)) &&& (255 : Int32))), .val (.int ((gg (aa.toInt.toNat + 3)) &&& (255 : Int32))), .val (.int (1 : Int32)), .unset] [(.ref b1)]))
      refine Runs.by (fun _ hr => XS.iconst X27.here hx rfl (hb hby at_429) hr) ?_
      show Runs p e below _ (T27.setTop (mkF m 430 #[.val (.int p0), .val (.int p1), .val (.int p2), .val (.int cc), .val (.int aa), .val (.int (p2.toInt8.toInt32)), .val (.ref b1), .val (.int (aa + own_n cc)), .val (.int (own_n cc)), .val (.int ((gg aa.toInt.toNat) &&& (255 : Int32))), .val (.int ((gg (aa.toInt.toNat + 1)) &&& (255 : Int32))), .val (.int ((gg (aa.toInt.toNat + 2)) &&& (255 : Int32))), .val (.int ((gg (aa.toInt.toNat + 3)) &&& (255 : Int32))), .val (.int (1 : Int32)), .unset] [(.int (1 : Int32)), (.ref b1)]))
      refine Runs.by (fun _ hr => XS.iload X27.here hx rfl (hb hby at_430) rfl  hr) ?_
      show Runs p e below _ (T27.setTop (mkF m 432 #[.val (.int p0), .val (.int p1), .val (.int p2), .val (.int cc), .val (.int aa), .val (.int (p2.toInt8.toInt32)), .val (.ref b1), .val (.int (aa + own_n cc)), .val (.int (own_n cc)), .val (.int ((gg aa.toInt.toNat) &&& (255 : Int32))), .val (.int ((gg (aa.toInt.toNat + 1)) &&& (255 : Int32))), .val (.int ((gg (aa.toInt.toNat + 2)) &&& (255 : Int32))), .val (.int ((gg (aa.toInt.toNat + 3)) &&& (255 : Int32))), .val (.int (1 : Int32)), .unset] [(.int aa), (.int (1 : Int32)), (.ref b1)]))
      refine Runs.by (fun _ hr => XS.iload X27.here hx rfl (hb hby at_432) rfl  hr) ?_
      show Runs p e below _ (T27.setTop (mkF m 434 #[.val (.int p0), .val (.int p1), .val (.int p2), .val (.int cc), .val (.int aa), .val (.int (p2.toInt8.toInt32)), .val (.ref b1), .val (.int (aa + own_n cc)), .val (.int (own_n cc)), .val (.int ((gg aa.toInt.toNat) &&& (255 : Int32))), .val (.int ((gg (aa.toInt.toNat + 1)) &&& (255 : Int32))), .val (.int ((gg (aa.toInt.toNat + 2)) &&& (255 : Int32))), .val (.int ((gg (aa.toInt.toNat + 3)) &&& (255 : Int32))), .val (.int (1 : Int32)), .unset] [(.int (aa + own_n cc)), (.int aa), (.int (1 : Int32)), (.ref b1)]))
      refine Runs.by (fun _ hr => XS.iload X27.here hx rfl (hb hby at_434) rfl  hr) ?_
      show Runs p e below _ (T27.setTop (mkF m 436 #[.val (.int p0), .val (.int p1), .val (.int p2), .val (.int cc), .val (.int aa), .val (.int (p2.toInt8.toInt32)), .val (.ref b1), .val (.int (aa + own_n cc)), .val (.int (own_n cc)), .val (.int ((gg aa.toInt.toNat) &&& (255 : Int32))), .val (.int ((gg (aa.toInt.toNat + 1)) &&& (255 : Int32))), .val (.int ((gg (aa.toInt.toNat + 2)) &&& (255 : Int32))), .val (.int ((gg (aa.toInt.toNat + 3)) &&& (255 : Int32))), .val (.int (1 : Int32)), .unset] [(.int (p2.toInt8.toInt32)), (.int (aa + own_n cc)), (.int aa), (.int (1 : Int32)), (.ref b1)]))
      obtain ⟨_, _, ⟨T28, L28, k28, n28⟩, -, X28, ⟨Lc28, hQ28, l28, y28, z28⟩, st28⟩ := Jvm.LawKit.callS X27 hx (y := (⟨"com/example/usher/usher/Utf8ValidatorEncodePinLaw", "untouched", "([BIIIB)Z"⟩ : MethodName)) hown (mvT hZ (hw _ (List.mem_of_getElem? (i := 7) rfl))) (mvT hZ (hw _ (List.mem_of_getElem? (i := 8) rfl))) (mvT hZ (hw _ (List.mem_of_getElem? (i := 9) rfl))) (mvT hZ (hw _ (List.mem_of_getElem? (i := 10) rfl))) (by decide) (backOf (W := 0) (rm2 l Z a0 hw [] b1 (1 : Int32) aa (aa + own_n cc) (p2.toInt8.toInt32) k1 gg T19.heap n0 (Nat.le_trans Z0 K20.1) f19_0 (by decide) (own_rest hgg hat (1 : Int32) (by decide))) hZ (hw _ (List.mem_of_getElem? (i := 10) rfl)) (hw _ (List.mem_of_getElem? (i := 9) rfl)) (by decide) (by decide)) (g := (mkF m 436 #[.val (.int p0), .val (.int p1), .val (.int p2), .val (.int cc), .val (.int aa), .val (.int (p2.toInt8.toInt32)), .val (.ref b1), .val (.int (aa + own_n cc)), .val (.int (own_n cc)), .val (.int ((gg aa.toInt.toNat) &&& (255 : Int32))), .val (.int ((gg (aa.toInt.toNat + 1)) &&& (255 : Int32))), .val (.int ((gg (aa.toInt.toNat + 2)) &&& (255 : Int32))), .val (.int ((gg (aa.toInt.toNat + 3)) &&& (255 : Int32))), .val (.int (1 : Int32)), .unset] [(.int (p2.toInt8.toInt32)), (.int (aa + own_n cc)), (.int aa), (.int (1 : Int32)), (.ref b1)])) rfl (by rw [hml]; rfl) (argsL := [(.ref b1), (.int (1 : Int32)), (.int aa), (.int (aa + own_n cc)), (.int (p2.toInt8.toInt32))]) (rest := []) (lenOf pd_1 rfl) rfl (by show 2 * 0 + _ ≤ _; exact Nat.le_of_eq rfl) (hb hby at_436) (fun _ _ => ⟨rfl, eq27, (by decide : 1 + 0 ≤ _), (by decide : 8 + 0 ≤ _)⟩)
      dsimp only [Pt.U, Pt.locs, Pt.cells, Pt.slots] at X28 l28 y28 z28 st28 hQ28
      subst l28 y28 z28
      obtain ⟨rfl, Nq28, eq28⟩ := hQ28
      have N28 := Fr.app N27 Nq28
      refine Runs.by (fun t hr => st28 t hr) ?_
      show Runs p e below _ (T28.setTop (mkF m 439 #[.val (.int p0), .val (.int p1), .val (.int p2), .val (.int cc), .val (.int aa), .val (.int (p2.toInt8.toInt32)), .val (.ref b1), .val (.int (aa + own_n cc)), .val (.int (own_n cc)), .val (.int ((gg aa.toInt.toNat) &&& (255 : Int32))), .val (.int ((gg (aa.toInt.toNat + 1)) &&& (255 : Int32))), .val (.int ((gg (aa.toInt.toNat + 2)) &&& (255 : Int32))), .val (.int ((gg (aa.toInt.toNat + 3)) &&& (255 : Int32))), .val (.int (1 : Int32)), .unset] [(.int (1 : Int32))]))
      have hc439 : ¬ ((1 : Int32) = (0 : Int32)) := (by decide)
      refine Runs.by (fun _ hr => XS.ifNo X28.here hx rfl (hb hby at_439) rfl ((if0 _ _).trans (feq hc439).1) hr) ?_
      show Runs p e below _ (T28.setTop (mkF m 442 #[.val (.int p0), .val (.int p1), .val (.int p2), .val (.int cc), .val (.int aa), .val (.int (p2.toInt8.toInt32)), .val (.ref b1), .val (.int (aa + own_n cc)), .val (.int (own_n cc)), .val (.int ((gg aa.toInt.toNat) &&& (255 : Int32))), .val (.int ((gg (aa.toInt.toNat + 1)) &&& (255 : Int32))), .val (.int ((gg (aa.toInt.toNat + 2)) &&& (255 : Int32))), .val (.int ((gg (aa.toInt.toNat + 3)) &&& (255 : Int32))), .val (.int (1 : Int32)), .unset] []))
      refine Runs.by (fun _ hr => XS.aload X28.here hx rfl (hb hby at_442) rfl rfl hr) ?_
      show Runs p e below _ (T28.setTop (mkF m 444 #[.val (.int p0), .val (.int p1), .val (.int p2), .val (.int cc), .val (.int aa), .val (.int (p2.toInt8.toInt32)), .val (.ref b1), .val (.int (aa + own_n cc)), .val (.int (own_n cc)), .val (.int ((gg aa.toInt.toNat) &&& (255 : Int32))), .val (.int ((gg (aa.toInt.toNat + 1)) &&& (255 : Int32))), .val (.int ((gg (aa.toInt.toNat + 2)) &&& (255 : Int32))), .val (.int ((gg (aa.toInt.toNat + 3)) &&& (255 : Int32))), .val (.int (1 : Int32)), .unset] [(.ref b1)]))
      refine Runs.by (fun _ hr => XS.iconst X28.here hx rfl (hb hby at_444) hr) ?_
      show Runs p e below _ (T28.setTop (mkF m 445 #[.val (.int p0), .val (.int p1), .val (.int p2), .val (.int cc), .val (.int aa), .val (.int (p2.toInt8.toInt32)), .val (.ref b1), .val (.int (aa + own_n cc)), .val (.int (own_n cc)), .val (.int ((gg aa.toInt.toNat) &&& (255 : Int32))), .val (.int ((gg (aa.toInt.toNat + 1)) &&& (255 : Int32))), .val (.int ((gg (aa.toInt.toNat + 2)) &&& (255 : Int32))), .val (.int ((gg (aa.toInt.toNat + 3)) &&& (255 : Int32))), .val (.int (1 : Int32)), .unset] [(.int (2 : Int32)), (.ref b1)]))
      refine Runs.by (fun _ hr => XS.iload X28.here hx rfl (hb hby at_445) rfl  hr) ?_
      show Runs p e below _ (T28.setTop (mkF m 447 #[.val (.int p0), .val (.int p1), .val (.int p2), .val (.int cc), .val (.int aa), .val (.int (p2.toInt8.toInt32)), .val (.ref b1), .val (.int (aa + own_n cc)), .val (.int (own_n cc)), .val (.int ((gg aa.toInt.toNat) &&& (255 : Int32))), .val (.int ((gg (aa.toInt.toNat + 1)) &&& (255 : Int32))), .val (.int ((gg (aa.toInt.toNat + 2)) &&& (255 : Int32))), .val (.int ((gg (aa.toInt.toNat + 3)) &&& (255 : Int32))), .val (.int (1 : Int32)), .unset] [(.int aa), (.int (2 : Int32)), (.ref b1)]))
      refine Runs.by (fun _ hr => XS.iload X28.here hx rfl (hb hby at_447) rfl  hr) ?_
      show Runs p e below _ (T28.setTop (mkF m 449 #[.val (.int p0), .val (.int p1), .val (.int p2), .val (.int cc), .val (.int aa), .val (.int (p2.toInt8.toInt32)), .val (.ref b1), .val (.int (aa + own_n cc)), .val (.int (own_n cc)), .val (.int ((gg aa.toInt.toNat) &&& (255 : Int32))), .val (.int ((gg (aa.toInt.toNat + 1)) &&& (255 : Int32))), .val (.int ((gg (aa.toInt.toNat + 2)) &&& (255 : Int32))), .val (.int ((gg (aa.toInt.toNat + 3)) &&& (255 : Int32))), .val (.int (1 : Int32)), .unset] [(.int (aa + own_n cc)), (.int aa), (.int (2 : Int32)), (.ref b1)]))
      refine Runs.by (fun _ hr => XS.iload X28.here hx rfl (hb hby at_449) rfl  hr) ?_
      show Runs p e below _ (T28.setTop (mkF m 451 #[.val (.int p0), .val (.int p1), .val (.int p2), .val (.int cc), .val (.int aa), .val (.int (p2.toInt8.toInt32)), .val (.ref b1), .val (.int (aa + own_n cc)), .val (.int (own_n cc)), .val (.int ((gg aa.toInt.toNat) &&& (255 : Int32))), .val (.int ((gg (aa.toInt.toNat + 1)) &&& (255 : Int32))), .val (.int ((gg (aa.toInt.toNat + 2)) &&& (255 : Int32))), .val (.int ((gg (aa.toInt.toNat + 3)) &&& (255 : Int32))), .val (.int (1 : Int32)), .unset] [(.int (p2.toInt8.toInt32)), (.int (aa + own_n cc)), (.int aa), (.int (2 : Int32)), (.ref b1)]))
      obtain ⟨_, _, ⟨T29, L29, k29, n29⟩, -, X29, ⟨Lc29, hQ29, l29, y29, z29⟩, st29⟩ := Jvm.LawKit.callS X28 hx (y := (⟨"com/example/usher/usher/Utf8ValidatorEncodePinLaw", "untouched", "([BIIIB)Z"⟩ : MethodName)) hown (mvT hZ (hw _ (List.mem_of_getElem? (i := 7) rfl))) (mvT hZ (hw _ (List.mem_of_getElem? (i := 8) rfl))) (mvT hZ (hw _ (List.mem_of_getElem? (i := 9) rfl))) (mvT hZ (hw _ (List.mem_of_getElem? (i := 10) rfl))) (by decide) (backOf (W := 0) (rm2 l Z a0 hw [] b1 (2 : Int32) aa (aa + own_n cc) (p2.toInt8.toInt32) k1 gg T19.heap n0 (Nat.le_trans Z0 K20.1) f19_0 (by decide) (own_rest hgg hat (2 : Int32) (by decide))) hZ (hw _ (List.mem_of_getElem? (i := 10) rfl)) (hw _ (List.mem_of_getElem? (i := 9) rfl)) (by decide) (by decide)) (g := (mkF m 451 #[.val (.int p0), .val (.int p1), .val (.int p2), .val (.int cc), .val (.int aa), .val (.int (p2.toInt8.toInt32)), .val (.ref b1), .val (.int (aa + own_n cc)), .val (.int (own_n cc)), .val (.int ((gg aa.toInt.toNat) &&& (255 : Int32))), .val (.int ((gg (aa.toInt.toNat + 1)) &&& (255 : Int32))), .val (.int ((gg (aa.toInt.toNat + 2)) &&& (255 : Int32))), .val (.int ((gg (aa.toInt.toNat + 3)) &&& (255 : Int32))), .val (.int (1 : Int32)), .unset] [(.int (p2.toInt8.toInt32)), (.int (aa + own_n cc)), (.int aa), (.int (2 : Int32)), (.ref b1)])) rfl (by rw [hml]; rfl) (argsL := [(.ref b1), (.int (2 : Int32)), (.int aa), (.int (aa + own_n cc)), (.int (p2.toInt8.toInt32))]) (rest := []) (lenOf pd_1 rfl) rfl (by show 2 * 0 + _ ≤ _; exact Nat.le_of_eq rfl) (hb hby at_451) (fun _ _ => ⟨rfl, eq28, (by decide : 1 + 0 ≤ _), (by decide : 8 + 0 ≤ _)⟩)
      dsimp only [Pt.U, Pt.locs, Pt.cells, Pt.slots] at X29 l29 y29 z29 st29 hQ29
      subst l29 y29 z29
      obtain ⟨rfl, Nq29, eq29⟩ := hQ29
      have N29 := Fr.app N28 Nq29
      refine Runs.by (fun t hr => st29 t hr) ?_
      show Runs p e below _ (T29.setTop (mkF m 454 #[.val (.int p0), .val (.int p1), .val (.int p2), .val (.int cc), .val (.int aa), .val (.int (p2.toInt8.toInt32)), .val (.ref b1), .val (.int (aa + own_n cc)), .val (.int (own_n cc)), .val (.int ((gg aa.toInt.toNat) &&& (255 : Int32))), .val (.int ((gg (aa.toInt.toNat + 1)) &&& (255 : Int32))), .val (.int ((gg (aa.toInt.toNat + 2)) &&& (255 : Int32))), .val (.int ((gg (aa.toInt.toNat + 3)) &&& (255 : Int32))), .val (.int (1 : Int32)), .unset] [(.int (1 : Int32))]))
      have hc454 : ¬ ((1 : Int32) = (0 : Int32)) := (by decide)
      refine Runs.by (fun _ hr => XS.ifNo X29.here hx rfl (hb hby at_454) rfl ((if0 _ _).trans (feq hc454).1) hr) ?_
      show Runs p e below _ (T29.setTop (mkF m 457 #[.val (.int p0), .val (.int p1), .val (.int p2), .val (.int cc), .val (.int aa), .val (.int (p2.toInt8.toInt32)), .val (.ref b1), .val (.int (aa + own_n cc)), .val (.int (own_n cc)), .val (.int ((gg aa.toInt.toNat) &&& (255 : Int32))), .val (.int ((gg (aa.toInt.toNat + 1)) &&& (255 : Int32))), .val (.int ((gg (aa.toInt.toNat + 2)) &&& (255 : Int32))), .val (.int ((gg (aa.toInt.toNat + 3)) &&& (255 : Int32))), .val (.int (1 : Int32)), .unset] []))
      refine Runs.by (fun _ hr => XS.aload X29.here hx rfl (hb hby at_457) rfl rfl hr) ?_
      show Runs p e below _ (T29.setTop (mkF m 459 #[.val (.int p0), .val (.int p1), .val (.int p2), .val (.int cc), .val (.int aa), .val (.int (p2.toInt8.toInt32)), .val (.ref b1), .val (.int (aa + own_n cc)), .val (.int (own_n cc)), .val (.int ((gg aa.toInt.toNat) &&& (255 : Int32))), .val (.int ((gg (aa.toInt.toNat + 1)) &&& (255 : Int32))), .val (.int ((gg (aa.toInt.toNat + 2)) &&& (255 : Int32))), .val (.int ((gg (aa.toInt.toNat + 3)) &&& (255 : Int32))), .val (.int (1 : Int32)), .unset] [(.ref b1)]))
      refine Runs.by (fun _ hr => XS.iconst X29.here hx rfl (hb hby at_459) hr) ?_
      show Runs p e below _ (T29.setTop (mkF m 460 #[.val (.int p0), .val (.int p1), .val (.int p2), .val (.int cc), .val (.int aa), .val (.int (p2.toInt8.toInt32)), .val (.ref b1), .val (.int (aa + own_n cc)), .val (.int (own_n cc)), .val (.int ((gg aa.toInt.toNat) &&& (255 : Int32))), .val (.int ((gg (aa.toInt.toNat + 1)) &&& (255 : Int32))), .val (.int ((gg (aa.toInt.toNat + 2)) &&& (255 : Int32))), .val (.int ((gg (aa.toInt.toNat + 3)) &&& (255 : Int32))), .val (.int (1 : Int32)), .unset] [(.int (3 : Int32)), (.ref b1)]))
      refine Runs.by (fun _ hr => XS.iload X29.here hx rfl (hb hby at_460) rfl  hr) ?_
      show Runs p e below _ (T29.setTop (mkF m 462 #[.val (.int p0), .val (.int p1), .val (.int p2), .val (.int cc), .val (.int aa), .val (.int (p2.toInt8.toInt32)), .val (.ref b1), .val (.int (aa + own_n cc)), .val (.int (own_n cc)), .val (.int ((gg aa.toInt.toNat) &&& (255 : Int32))), .val (.int ((gg (aa.toInt.toNat + 1)) &&& (255 : Int32))), .val (.int ((gg (aa.toInt.toNat + 2)) &&& (255 : Int32))), .val (.int ((gg (aa.toInt.toNat + 3)) &&& (255 : Int32))), .val (.int (1 : Int32)), .unset] [(.int aa), (.int (3 : Int32)), (.ref b1)]))
      refine Runs.by (fun _ hr => XS.iload X29.here hx rfl (hb hby at_462) rfl  hr) ?_
      show Runs p e below _ (T29.setTop (mkF m 464 #[.val (.int p0), .val (.int p1), .val (.int p2), .val (.int cc), .val (.int aa), .val (.int (p2.toInt8.toInt32)), .val (.ref b1), .val (.int (aa + own_n cc)), .val (.int (own_n cc)), .val (.int ((gg aa.toInt.toNat) &&& (255 : Int32))), .val (.int ((gg (aa.toInt.toNat + 1)) &&& (255 : Int32))), .val (.int ((gg (aa.toInt.toNat + 2)) &&& (255 : Int32))), .val (.int ((gg (aa.toInt.toNat + 3)) &&& (255 : Int32))), .val (.int (1 : Int32)), .unset] [(.int (aa + own_n cc)), (.int aa), (.int (3 : Int32)), (.ref b1)]))
      refine Runs.by (fun _ hr => XS.iload X29.here hx rfl (hb hby at_464) rfl  hr) ?_
      show Runs p e below _ (T29.setTop (mkF m 466 #[.val (.int p0), .val (.int p1), .val (.int p2), .val (.int cc), .val (.int aa), .val (.int (p2.toInt8.toInt32)), .val (.ref b1), .val (.int (aa + own_n cc)), .val (.int (own_n cc)), .val (.int ((gg aa.toInt.toNat) &&& (255 : Int32))), .val (.int ((gg (aa.toInt.toNat + 1)) &&& (255 : Int32))), .val (.int ((gg (aa.toInt.toNat + 2)) &&& (255 : Int32))), .val (.int ((gg (aa.toInt.toNat + 3)) &&& (255 : Int32))), .val (.int (1 : Int32)), .unset] [(.int (p2.toInt8.toInt32)), (.int (aa + own_n cc)), (.int aa), (.int (3 : Int32)), (.ref b1)]))
      obtain ⟨_, _, ⟨T30, L30, k30, n30⟩, -, X30, ⟨Lc30, hQ30, l30, y30, z30⟩, st30⟩ := Jvm.LawKit.callS X29 hx (y := (⟨"com/example/usher/usher/Utf8ValidatorEncodePinLaw", "untouched", "([BIIIB)Z"⟩ : MethodName)) hown (mvT hZ (hw _ (List.mem_of_getElem? (i := 7) rfl))) (mvT hZ (hw _ (List.mem_of_getElem? (i := 8) rfl))) (mvT hZ (hw _ (List.mem_of_getElem? (i := 9) rfl))) (mvT hZ (hw _ (List.mem_of_getElem? (i := 10) rfl))) (by decide) (backOf (W := 0) (rm2 l Z a0 hw [] b1 (3 : Int32) aa (aa + own_n cc) (p2.toInt8.toInt32) k1 gg T19.heap n0 (Nat.le_trans Z0 K20.1) f19_0 (by decide) (own_rest hgg hat (3 : Int32) (by decide))) hZ (hw _ (List.mem_of_getElem? (i := 10) rfl)) (hw _ (List.mem_of_getElem? (i := 9) rfl)) (by decide) (by decide)) (g := (mkF m 466 #[.val (.int p0), .val (.int p1), .val (.int p2), .val (.int cc), .val (.int aa), .val (.int (p2.toInt8.toInt32)), .val (.ref b1), .val (.int (aa + own_n cc)), .val (.int (own_n cc)), .val (.int ((gg aa.toInt.toNat) &&& (255 : Int32))), .val (.int ((gg (aa.toInt.toNat + 1)) &&& (255 : Int32))), .val (.int ((gg (aa.toInt.toNat + 2)) &&& (255 : Int32))), .val (.int ((gg (aa.toInt.toNat + 3)) &&& (255 : Int32))), .val (.int (1 : Int32)), .unset] [(.int (p2.toInt8.toInt32)), (.int (aa + own_n cc)), (.int aa), (.int (3 : Int32)), (.ref b1)])) rfl (by rw [hml]; rfl) (argsL := [(.ref b1), (.int (3 : Int32)), (.int aa), (.int (aa + own_n cc)), (.int (p2.toInt8.toInt32))]) (rest := []) (lenOf pd_1 rfl) rfl (by show 2 * 0 + _ ≤ _; exact Nat.le_of_eq rfl) (hb hby at_466) (fun _ _ => ⟨rfl, eq29, (by decide : 1 + 0 ≤ _), (by decide : 8 + 0 ≤ _)⟩)
      dsimp only [Pt.U, Pt.locs, Pt.cells, Pt.slots] at X30 l30 y30 z30 st30 hQ30
      subst l30 y30 z30
      obtain ⟨rfl, Nq30, eq30⟩ := hQ30
      have N30 := Fr.app N29 Nq30
      refine Runs.by (fun t hr => st30 t hr) ?_
      show Runs p e below _ (T30.setTop (mkF m 469 #[.val (.int p0), .val (.int p1), .val (.int p2), .val (.int cc), .val (.int aa), .val (.int (p2.toInt8.toInt32)), .val (.ref b1), .val (.int (aa + own_n cc)), .val (.int (own_n cc)), .val (.int ((gg aa.toInt.toNat) &&& (255 : Int32))), .val (.int ((gg (aa.toInt.toNat + 1)) &&& (255 : Int32))), .val (.int ((gg (aa.toInt.toNat + 2)) &&& (255 : Int32))), .val (.int ((gg (aa.toInt.toNat + 3)) &&& (255 : Int32))), .val (.int (1 : Int32)), .unset] [(.int (1 : Int32))]))
      have hc469 : ¬ ((1 : Int32) = (0 : Int32)) := (by decide)
      refine Runs.by (fun _ hr => XS.ifNo X30.here hx rfl (hb hby at_469) rfl ((if0 _ _).trans (feq hc469).1) hr) ?_
      show Runs p e below _ (T30.setTop (mkF m 472 #[.val (.int p0), .val (.int p1), .val (.int p2), .val (.int cc), .val (.int aa), .val (.int (p2.toInt8.toInt32)), .val (.ref b1), .val (.int (aa + own_n cc)), .val (.int (own_n cc)), .val (.int ((gg aa.toInt.toNat) &&& (255 : Int32))), .val (.int ((gg (aa.toInt.toNat + 1)) &&& (255 : Int32))), .val (.int ((gg (aa.toInt.toNat + 2)) &&& (255 : Int32))), .val (.int ((gg (aa.toInt.toNat + 3)) &&& (255 : Int32))), .val (.int (1 : Int32)), .unset] []))
      refine Runs.by (fun _ hr => XS.aload X30.here hx rfl (hb hby at_472) rfl rfl hr) ?_
      show Runs p e below _ (T30.setTop (mkF m 474 #[.val (.int p0), .val (.int p1), .val (.int p2), .val (.int cc), .val (.int aa), .val (.int (p2.toInt8.toInt32)), .val (.ref b1), .val (.int (aa + own_n cc)), .val (.int (own_n cc)), .val (.int ((gg aa.toInt.toNat) &&& (255 : Int32))), .val (.int ((gg (aa.toInt.toNat + 1)) &&& (255 : Int32))), .val (.int ((gg (aa.toInt.toNat + 2)) &&& (255 : Int32))), .val (.int ((gg (aa.toInt.toNat + 3)) &&& (255 : Int32))), .val (.int (1 : Int32)), .unset] [(.ref b1)]))
      refine Runs.by (fun _ hr => XS.iconst X30.here hx rfl (hb hby at_474) hr) ?_
      show Runs p e below _ (T30.setTop (mkF m 475 #[.val (.int p0), .val (.int p1), .val (.int p2), .val (.int cc), .val (.int aa), .val (.int (p2.toInt8.toInt32)), .val (.ref b1), .val (.int (aa + own_n cc)), .val (.int (own_n cc)), .val (.int ((gg aa.toInt.toNat) &&& (255 : Int32))), .val (.int ((gg (aa.toInt.toNat + 1)) &&& (255 : Int32))), .val (.int ((gg (aa.toInt.toNat + 2)) &&& (255 : Int32))), .val (.int ((gg (aa.toInt.toNat + 3)) &&& (255 : Int32))), .val (.int (1 : Int32)), .unset] [(.int (4 : Int32)), (.ref b1)]))
      refine Runs.by (fun _ hr => XS.iload X30.here hx rfl (hb hby at_475) rfl  hr) ?_
      show Runs p e below _ (T30.setTop (mkF m 477 #[.val (.int p0), .val (.int p1), .val (.int p2), .val (.int cc), .val (.int aa), .val (.int (p2.toInt8.toInt32)), .val (.ref b1), .val (.int (aa + own_n cc)), .val (.int (own_n cc)), .val (.int ((gg aa.toInt.toNat) &&& (255 : Int32))), .val (.int ((gg (aa.toInt.toNat + 1)) &&& (255 : Int32))), .val (.int ((gg (aa.toInt.toNat + 2)) &&& (255 : Int32))), .val (.int ((gg (aa.toInt.toNat + 3)) &&& (255 : Int32))), .val (.int (1 : Int32)), .unset] [(.int aa), (.int (4 : Int32)), (.ref b1)]))
      refine Runs.by (fun _ hr => XS.iload X30.here hx rfl (hb hby at_477) rfl  hr) ?_
      show Runs p e below _ (T30.setTop (mkF m 479 #[.val (.int p0), .val (.int p1), .val (.int p2), .val (.int cc), .val (.int aa), .val (.int (p2.toInt8.toInt32)), .val (.ref b1), .val (.int (aa + own_n cc)), .val (.int (own_n cc)), .val (.int ((gg aa.toInt.toNat) &&& (255 : Int32))), .val (.int ((gg (aa.toInt.toNat + 1)) &&& (255 : Int32))), .val (.int ((gg (aa.toInt.toNat + 2)) &&& (255 : Int32))), .val (.int ((gg (aa.toInt.toNat + 3)) &&& (255 : Int32))), .val (.int (1 : Int32)), .unset] [(.int (aa + own_n cc)), (.int aa), (.int (4 : Int32)), (.ref b1)]))
      refine Runs.by (fun _ hr => XS.iload X30.here hx rfl (hb hby at_479) rfl  hr) ?_
      show Runs p e below _ (T30.setTop (mkF m 481 #[.val (.int p0), .val (.int p1), .val (.int p2), .val (.int cc), .val (.int aa), .val (.int (p2.toInt8.toInt32)), .val (.ref b1), .val (.int (aa + own_n cc)), .val (.int (own_n cc)), .val (.int ((gg aa.toInt.toNat) &&& (255 : Int32))), .val (.int ((gg (aa.toInt.toNat + 1)) &&& (255 : Int32))), .val (.int ((gg (aa.toInt.toNat + 2)) &&& (255 : Int32))), .val (.int ((gg (aa.toInt.toNat + 3)) &&& (255 : Int32))), .val (.int (1 : Int32)), .unset] [(.int (p2.toInt8.toInt32)), (.int (aa + own_n cc)), (.int aa), (.int (4 : Int32)), (.ref b1)]))
      obtain ⟨_, _, ⟨T31, L31, k31, n31⟩, -, X31, ⟨Lc31, hQ31, l31, y31, z31⟩, st31⟩ := Jvm.LawKit.callS X30 hx (y := (⟨"com/example/usher/usher/Utf8ValidatorEncodePinLaw", "untouched", "([BIIIB)Z"⟩ : MethodName)) hown (mvT hZ (hw _ (List.mem_of_getElem? (i := 7) rfl))) (mvT hZ (hw _ (List.mem_of_getElem? (i := 8) rfl))) (mvT hZ (hw _ (List.mem_of_getElem? (i := 9) rfl))) (mvT hZ (hw _ (List.mem_of_getElem? (i := 10) rfl))) (by decide) (backOf (W := 0) (rm2 l Z a0 hw [] b1 (4 : Int32) aa (aa + own_n cc) (p2.toInt8.toInt32) k1 gg T19.heap n0 (Nat.le_trans Z0 K20.1) f19_0 (by decide) (own_rest hgg hat (4 : Int32) (by decide))) hZ (hw _ (List.mem_of_getElem? (i := 10) rfl)) (hw _ (List.mem_of_getElem? (i := 9) rfl)) (by decide) (by decide)) (g := (mkF m 481 #[.val (.int p0), .val (.int p1), .val (.int p2), .val (.int cc), .val (.int aa), .val (.int (p2.toInt8.toInt32)), .val (.ref b1), .val (.int (aa + own_n cc)), .val (.int (own_n cc)), .val (.int ((gg aa.toInt.toNat) &&& (255 : Int32))), .val (.int ((gg (aa.toInt.toNat + 1)) &&& (255 : Int32))), .val (.int ((gg (aa.toInt.toNat + 2)) &&& (255 : Int32))), .val (.int ((gg (aa.toInt.toNat + 3)) &&& (255 : Int32))), .val (.int (1 : Int32)), .unset] [(.int (p2.toInt8.toInt32)), (.int (aa + own_n cc)), (.int aa), (.int (4 : Int32)), (.ref b1)])) rfl (by rw [hml]; rfl) (argsL := [(.ref b1), (.int (4 : Int32)), (.int aa), (.int (aa + own_n cc)), (.int (p2.toInt8.toInt32))]) (rest := []) (lenOf pd_1 rfl) rfl (by show 2 * 0 + _ ≤ _; exact Nat.le_of_eq rfl) (hb hby at_481) (fun _ _ => ⟨rfl, eq30, (by decide : 1 + 0 ≤ _), (by decide : 8 + 0 ≤ _)⟩)
      dsimp only [Pt.U, Pt.locs, Pt.cells, Pt.slots] at X31 l31 y31 z31 st31 hQ31
      subst l31 y31 z31
      obtain ⟨rfl, Nq31, eq31⟩ := hQ31
      have N31 := Fr.app N30 Nq31
      refine Runs.by (fun t hr => st31 t hr) ?_
      show Runs p e below _ (T31.setTop (mkF m 484 #[.val (.int p0), .val (.int p1), .val (.int p2), .val (.int cc), .val (.int aa), .val (.int (p2.toInt8.toInt32)), .val (.ref b1), .val (.int (aa + own_n cc)), .val (.int (own_n cc)), .val (.int ((gg aa.toInt.toNat) &&& (255 : Int32))), .val (.int ((gg (aa.toInt.toNat + 1)) &&& (255 : Int32))), .val (.int ((gg (aa.toInt.toNat + 2)) &&& (255 : Int32))), .val (.int ((gg (aa.toInt.toNat + 3)) &&& (255 : Int32))), .val (.int (1 : Int32)), .unset] [(.int (1 : Int32))]))
      have hc484 : ¬ ((1 : Int32) = (0 : Int32)) := (by decide)
      refine Runs.by (fun _ hr => XS.ifNo X31.here hx rfl (hb hby at_484) rfl ((if0 _ _).trans (feq hc484).1) hr) ?_
      show Runs p e below _ (T31.setTop (mkF m 487 #[.val (.int p0), .val (.int p1), .val (.int p2), .val (.int cc), .val (.int aa), .val (.int (p2.toInt8.toInt32)), .val (.ref b1), .val (.int (aa + own_n cc)), .val (.int (own_n cc)), .val (.int ((gg aa.toInt.toNat) &&& (255 : Int32))), .val (.int ((gg (aa.toInt.toNat + 1)) &&& (255 : Int32))), .val (.int ((gg (aa.toInt.toNat + 2)) &&& (255 : Int32))), .val (.int ((gg (aa.toInt.toNat + 3)) &&& (255 : Int32))), .val (.int (1 : Int32)), .unset] []))
      refine Runs.by (fun _ hr => XS.aload X31.here hx rfl (hb hby at_487) rfl rfl hr) ?_
      show Runs p e below _ (T31.setTop (mkF m 489 #[.val (.int p0), .val (.int p1), .val (.int p2), .val (.int cc), .val (.int aa), .val (.int (p2.toInt8.toInt32)), .val (.ref b1), .val (.int (aa + own_n cc)), .val (.int (own_n cc)), .val (.int ((gg aa.toInt.toNat) &&& (255 : Int32))), .val (.int ((gg (aa.toInt.toNat + 1)) &&& (255 : Int32))), .val (.int ((gg (aa.toInt.toNat + 2)) &&& (255 : Int32))), .val (.int ((gg (aa.toInt.toNat + 3)) &&& (255 : Int32))), .val (.int (1 : Int32)), .unset] [(.ref b1)]))
      refine Runs.by (fun _ hr => XS.iconst X31.here hx rfl (hb hby at_489) hr) ?_
      show Runs p e below _ (T31.setTop (mkF m 490 #[.val (.int p0), .val (.int p1), .val (.int p2), .val (.int cc), .val (.int aa), .val (.int (p2.toInt8.toInt32)), .val (.ref b1), .val (.int (aa + own_n cc)), .val (.int (own_n cc)), .val (.int ((gg aa.toInt.toNat) &&& (255 : Int32))), .val (.int ((gg (aa.toInt.toNat + 1)) &&& (255 : Int32))), .val (.int ((gg (aa.toInt.toNat + 2)) &&& (255 : Int32))), .val (.int ((gg (aa.toInt.toNat + 3)) &&& (255 : Int32))), .val (.int (1 : Int32)), .unset] [(.int (5 : Int32)), (.ref b1)]))
      refine Runs.by (fun _ hr => XS.iload X31.here hx rfl (hb hby at_490) rfl  hr) ?_
      show Runs p e below _ (T31.setTop (mkF m 492 #[.val (.int p0), .val (.int p1), .val (.int p2), .val (.int cc), .val (.int aa), .val (.int (p2.toInt8.toInt32)), .val (.ref b1), .val (.int (aa + own_n cc)), .val (.int (own_n cc)), .val (.int ((gg aa.toInt.toNat) &&& (255 : Int32))), .val (.int ((gg (aa.toInt.toNat + 1)) &&& (255 : Int32))), .val (.int ((gg (aa.toInt.toNat + 2)) &&& (255 : Int32))), .val (.int ((gg (aa.toInt.toNat + 3)) &&& (255 : Int32))), .val (.int (1 : Int32)), .unset] [(.int aa), (.int (5 : Int32)), (.ref b1)]))
      refine Runs.by (fun _ hr => XS.iload X31.here hx rfl (hb hby at_492) rfl  hr) ?_
      show Runs p e below _ (T31.setTop (mkF m 494 #[.val (.int p0), .val (.int p1), .val (.int p2), .val (.int cc), .val (.int aa), .val (.int (p2.toInt8.toInt32)), .val (.ref b1), .val (.int (aa + own_n cc)), .val (.int (own_n cc)), .val (.int ((gg aa.toInt.toNat) &&& (255 : Int32))), .val (.int ((gg (aa.toInt.toNat + 1)) &&& (255 : Int32))), .val (.int ((gg (aa.toInt.toNat + 2)) &&& (255 : Int32))), .val (.int ((gg (aa.toInt.toNat + 3)) &&& (255 : Int32))), .val (.int (1 : Int32)), .unset] [(.int (aa + own_n cc)), (.int aa), (.int (5 : Int32)), (.ref b1)]))
      refine Runs.by (fun _ hr => XS.iload X31.here hx rfl (hb hby at_494) rfl  hr) ?_
      show Runs p e below _ (T31.setTop (mkF m 496 #[.val (.int p0), .val (.int p1), .val (.int p2), .val (.int cc), .val (.int aa), .val (.int (p2.toInt8.toInt32)), .val (.ref b1), .val (.int (aa + own_n cc)), .val (.int (own_n cc)), .val (.int ((gg aa.toInt.toNat) &&& (255 : Int32))), .val (.int ((gg (aa.toInt.toNat + 1)) &&& (255 : Int32))), .val (.int ((gg (aa.toInt.toNat + 2)) &&& (255 : Int32))), .val (.int ((gg (aa.toInt.toNat + 3)) &&& (255 : Int32))), .val (.int (1 : Int32)), .unset] [(.int (p2.toInt8.toInt32)), (.int (aa + own_n cc)), (.int aa), (.int (5 : Int32)), (.ref b1)]))
      obtain ⟨_, _, ⟨T32, L32, k32, n32⟩, -, X32, ⟨Lc32, hQ32, l32, y32, z32⟩, st32⟩ := Jvm.LawKit.callS X31 hx (y := (⟨"com/example/usher/usher/Utf8ValidatorEncodePinLaw", "untouched", "([BIIIB)Z"⟩ : MethodName)) hown (mvT hZ (hw _ (List.mem_of_getElem? (i := 7) rfl))) (mvT hZ (hw _ (List.mem_of_getElem? (i := 8) rfl))) (mvT hZ (hw _ (List.mem_of_getElem? (i := 9) rfl))) (mvT hZ (hw _ (List.mem_of_getElem? (i := 10) rfl))) (by decide) (backOf (W := 0) (rm2 l Z a0 hw [] b1 (5 : Int32) aa (aa + own_n cc) (p2.toInt8.toInt32) k1 gg T19.heap n0 (Nat.le_trans Z0 K20.1) f19_0 (by decide) (own_rest hgg hat (5 : Int32) (by decide))) hZ (hw _ (List.mem_of_getElem? (i := 10) rfl)) (hw _ (List.mem_of_getElem? (i := 9) rfl)) (by decide) (by decide)) (g := (mkF m 496 #[.val (.int p0), .val (.int p1), .val (.int p2), .val (.int cc), .val (.int aa), .val (.int (p2.toInt8.toInt32)), .val (.ref b1), .val (.int (aa + own_n cc)), .val (.int (own_n cc)), .val (.int ((gg aa.toInt.toNat) &&& (255 : Int32))), .val (.int ((gg (aa.toInt.toNat + 1)) &&& (255 : Int32))), .val (.int ((gg (aa.toInt.toNat + 2)) &&& (255 : Int32))), .val (.int ((gg (aa.toInt.toNat + 3)) &&& (255 : Int32))), .val (.int (1 : Int32)), .unset] [(.int (p2.toInt8.toInt32)), (.int (aa + own_n cc)), (.int aa), (.int (5 : Int32)), (.ref b1)])) rfl (by rw [hml]; rfl) (argsL := [(.ref b1), (.int (5 : Int32)), (.int aa), (.int (aa + own_n cc)), (.int (p2.toInt8.toInt32))]) (rest := []) (lenOf pd_1 rfl) rfl (by show 2 * 0 + _ ≤ _; exact Nat.le_of_eq rfl) (hb hby at_496) (fun _ _ => ⟨rfl, eq31, (by decide : 1 + 0 ≤ _), (by decide : 8 + 0 ≤ _)⟩)
      dsimp only [Pt.U, Pt.locs, Pt.cells, Pt.slots] at X32 l32 y32 z32 st32 hQ32
      subst l32 y32 z32
      obtain ⟨rfl, Nq32, eq32⟩ := hQ32
      have N32 := Fr.app N31 Nq32
      refine Runs.by (fun t hr => st32 t hr) ?_
      show Runs p e below _ (T32.setTop (mkF m 499 #[.val (.int p0), .val (.int p1), .val (.int p2), .val (.int cc), .val (.int aa), .val (.int (p2.toInt8.toInt32)), .val (.ref b1), .val (.int (aa + own_n cc)), .val (.int (own_n cc)), .val (.int ((gg aa.toInt.toNat) &&& (255 : Int32))), .val (.int ((gg (aa.toInt.toNat + 1)) &&& (255 : Int32))), .val (.int ((gg (aa.toInt.toNat + 2)) &&& (255 : Int32))), .val (.int ((gg (aa.toInt.toNat + 3)) &&& (255 : Int32))), .val (.int (1 : Int32)), .unset] [(.int (1 : Int32))]))
      have hc499 : ¬ ((1 : Int32) = (0 : Int32)) := (by decide)
      refine Runs.by (fun _ hr => XS.ifNo X32.here hx rfl (hb hby at_499) rfl ((if0 _ _).trans (feq hc499).1) hr) ?_
      show Runs p e below _ (T32.setTop (mkF m 502 #[.val (.int p0), .val (.int p1), .val (.int p2), .val (.int cc), .val (.int aa), .val (.int (p2.toInt8.toInt32)), .val (.ref b1), .val (.int (aa + own_n cc)), .val (.int (own_n cc)), .val (.int ((gg aa.toInt.toNat) &&& (255 : Int32))), .val (.int ((gg (aa.toInt.toNat + 1)) &&& (255 : Int32))), .val (.int ((gg (aa.toInt.toNat + 2)) &&& (255 : Int32))), .val (.int ((gg (aa.toInt.toNat + 3)) &&& (255 : Int32))), .val (.int (1 : Int32)), .unset] []))
      refine Runs.by (fun _ hr => XS.aload X32.here hx rfl (hb hby at_502) rfl rfl hr) ?_
      show Runs p e below _ (T32.setTop (mkF m 504 #[.val (.int p0), .val (.int p1), .val (.int p2), .val (.int cc), .val (.int aa), .val (.int (p2.toInt8.toInt32)), .val (.ref b1), .val (.int (aa + own_n cc)), .val (.int (own_n cc)), .val (.int ((gg aa.toInt.toNat) &&& (255 : Int32))), .val (.int ((gg (aa.toInt.toNat + 1)) &&& (255 : Int32))), .val (.int ((gg (aa.toInt.toNat + 2)) &&& (255 : Int32))), .val (.int ((gg (aa.toInt.toNat + 3)) &&& (255 : Int32))), .val (.int (1 : Int32)), .unset] [(.ref b1)]))
      refine Runs.by (fun _ hr => XS.bipush X32.here hx rfl (hb hby at_504) hr) ?_
      show Runs p e below _ (T32.setTop (mkF m 506 #[.val (.int p0), .val (.int p1), .val (.int p2), .val (.int cc), .val (.int aa), .val (.int (p2.toInt8.toInt32)), .val (.ref b1), .val (.int (aa + own_n cc)), .val (.int (own_n cc)), .val (.int ((gg aa.toInt.toNat) &&& (255 : Int32))), .val (.int ((gg (aa.toInt.toNat + 1)) &&& (255 : Int32))), .val (.int ((gg (aa.toInt.toNat + 2)) &&& (255 : Int32))), .val (.int ((gg (aa.toInt.toNat + 3)) &&& (255 : Int32))), .val (.int (1 : Int32)), .unset] [(.int (6 : Int32)), (.ref b1)]))
      refine Runs.by (fun _ hr => XS.iload X32.here hx rfl (hb hby at_506) rfl  hr) ?_
      show Runs p e below _ (T32.setTop (mkF m 508 #[.val (.int p0), .val (.int p1), .val (.int p2), .val (.int cc), .val (.int aa), .val (.int (p2.toInt8.toInt32)), .val (.ref b1), .val (.int (aa + own_n cc)), .val (.int (own_n cc)), .val (.int ((gg aa.toInt.toNat) &&& (255 : Int32))), .val (.int ((gg (aa.toInt.toNat + 1)) &&& (255 : Int32))), .val (.int ((gg (aa.toInt.toNat + 2)) &&& (255 : Int32))), .val (.int ((gg (aa.toInt.toNat + 3)) &&& (255 : Int32))), .val (.int (1 : Int32)), .unset] [(.int aa), (.int (6 : Int32)), (.ref b1)]))
      refine Runs.by (fun _ hr => XS.iload X32.here hx rfl (hb hby at_508) rfl  hr) ?_
      show Runs p e below _ (T32.setTop (mkF m 510 #[.val (.int p0), .val (.int p1), .val (.int p2), .val (.int cc), .val (.int aa), .val (.int (p2.toInt8.toInt32)), .val (.ref b1), .val (.int (aa + own_n cc)), .val (.int (own_n cc)), .val (.int ((gg aa.toInt.toNat) &&& (255 : Int32))), .val (.int ((gg (aa.toInt.toNat + 1)) &&& (255 : Int32))), .val (.int ((gg (aa.toInt.toNat + 2)) &&& (255 : Int32))), .val (.int ((gg (aa.toInt.toNat + 3)) &&& (255 : Int32))), .val (.int (1 : Int32)), .unset] [(.int (aa + own_n cc)), (.int aa), (.int (6 : Int32)), (.ref b1)]))
      refine Runs.by (fun _ hr => XS.iload X32.here hx rfl (hb hby at_510) rfl  hr) ?_
      show Runs p e below _ (T32.setTop (mkF m 512 #[.val (.int p0), .val (.int p1), .val (.int p2), .val (.int cc), .val (.int aa), .val (.int (p2.toInt8.toInt32)), .val (.ref b1), .val (.int (aa + own_n cc)), .val (.int (own_n cc)), .val (.int ((gg aa.toInt.toNat) &&& (255 : Int32))), .val (.int ((gg (aa.toInt.toNat + 1)) &&& (255 : Int32))), .val (.int ((gg (aa.toInt.toNat + 2)) &&& (255 : Int32))), .val (.int ((gg (aa.toInt.toNat + 3)) &&& (255 : Int32))), .val (.int (1 : Int32)), .unset] [(.int (p2.toInt8.toInt32)), (.int (aa + own_n cc)), (.int aa), (.int (6 : Int32)), (.ref b1)]))
      obtain ⟨_, _, ⟨T33, L33, k33, n33⟩, -, X33, ⟨Lc33, hQ33, l33, y33, z33⟩, st33⟩ := Jvm.LawKit.callS X32 hx (y := (⟨"com/example/usher/usher/Utf8ValidatorEncodePinLaw", "untouched", "([BIIIB)Z"⟩ : MethodName)) hown (mvT hZ (hw _ (List.mem_of_getElem? (i := 7) rfl))) (mvT hZ (hw _ (List.mem_of_getElem? (i := 8) rfl))) (mvT hZ (hw _ (List.mem_of_getElem? (i := 9) rfl))) (mvT hZ (hw _ (List.mem_of_getElem? (i := 10) rfl))) (by decide) (backOf (W := 0) (rm2 l Z a0 hw [] b1 (6 : Int32) aa (aa + own_n cc) (p2.toInt8.toInt32) k1 gg T19.heap n0 (Nat.le_trans Z0 K20.1) f19_0 (by decide) (own_rest hgg hat (6 : Int32) (by decide))) hZ (hw _ (List.mem_of_getElem? (i := 10) rfl)) (hw _ (List.mem_of_getElem? (i := 9) rfl)) (by decide) (by decide)) (g := (mkF m 512 #[.val (.int p0), .val (.int p1), .val (.int p2), .val (.int cc), .val (.int aa), .val (.int (p2.toInt8.toInt32)), .val (.ref b1), .val (.int (aa + own_n cc)), .val (.int (own_n cc)), .val (.int ((gg aa.toInt.toNat) &&& (255 : Int32))), .val (.int ((gg (aa.toInt.toNat + 1)) &&& (255 : Int32))), .val (.int ((gg (aa.toInt.toNat + 2)) &&& (255 : Int32))), .val (.int ((gg (aa.toInt.toNat + 3)) &&& (255 : Int32))), .val (.int (1 : Int32)), .unset] [(.int (p2.toInt8.toInt32)), (.int (aa + own_n cc)), (.int aa), (.int (6 : Int32)), (.ref b1)])) rfl (by rw [hml]; rfl) (argsL := [(.ref b1), (.int (6 : Int32)), (.int aa), (.int (aa + own_n cc)), (.int (p2.toInt8.toInt32))]) (rest := []) (lenOf pd_1 rfl) rfl (by show 2 * 0 + _ ≤ _; exact Nat.le_of_eq rfl) (hb hby at_512) (fun _ _ => ⟨rfl, eq32, (by decide : 1 + 0 ≤ _), (by decide : 8 + 0 ≤ _)⟩)
      dsimp only [Pt.U, Pt.locs, Pt.cells, Pt.slots] at X33 l33 y33 z33 st33 hQ33
      subst l33 y33 z33
      obtain ⟨rfl, Nq33, eq33⟩ := hQ33
      have N33 := Fr.app N32 Nq33
      refine Runs.by (fun t hr => st33 t hr) ?_
      show Runs p e below _ (T33.setTop (mkF m 515 #[.val (.int p0), .val (.int p1), .val (.int p2), .val (.int cc), .val (.int aa), .val (.int (p2.toInt8.toInt32)), .val (.ref b1), .val (.int (aa + own_n cc)), .val (.int (own_n cc)), .val (.int ((gg aa.toInt.toNat) &&& (255 : Int32))), .val (.int ((gg (aa.toInt.toNat + 1)) &&& (255 : Int32))), .val (.int ((gg (aa.toInt.toNat + 2)) &&& (255 : Int32))), .val (.int ((gg (aa.toInt.toNat + 3)) &&& (255 : Int32))), .val (.int (1 : Int32)), .unset] [(.int (1 : Int32))]))
      have hc515 : ¬ ((1 : Int32) = (0 : Int32)) := (by decide)
      refine Runs.by (fun _ hr => XS.ifNo X33.here hx rfl (hb hby at_515) rfl ((if0 _ _).trans (feq hc515).1) hr) ?_
      show Runs p e below _ (T33.setTop (mkF m 518 #[.val (.int p0), .val (.int p1), .val (.int p2), .val (.int cc), .val (.int aa), .val (.int (p2.toInt8.toInt32)), .val (.ref b1), .val (.int (aa + own_n cc)), .val (.int (own_n cc)), .val (.int ((gg aa.toInt.toNat) &&& (255 : Int32))), .val (.int ((gg (aa.toInt.toNat + 1)) &&& (255 : Int32))), .val (.int ((gg (aa.toInt.toNat + 2)) &&& (255 : Int32))), .val (.int ((gg (aa.toInt.toNat + 3)) &&& (255 : Int32))), .val (.int (1 : Int32)), .unset] []))
      refine Runs.by (fun _ hr => XS.aload X33.here hx rfl (hb hby at_518) rfl rfl hr) ?_
      show Runs p e below _ (T33.setTop (mkF m 520 #[.val (.int p0), .val (.int p1), .val (.int p2), .val (.int cc), .val (.int aa), .val (.int (p2.toInt8.toInt32)), .val (.ref b1), .val (.int (aa + own_n cc)), .val (.int (own_n cc)), .val (.int ((gg aa.toInt.toNat) &&& (255 : Int32))), .val (.int ((gg (aa.toInt.toNat + 1)) &&& (255 : Int32))), .val (.int ((gg (aa.toInt.toNat + 2)) &&& (255 : Int32))), .val (.int ((gg (aa.toInt.toNat + 3)) &&& (255 : Int32))), .val (.int (1 : Int32)), .unset] [(.ref b1)]))
      refine Runs.by (fun _ hr => XS.bipush X33.here hx rfl (hb hby at_520) hr) ?_
      show Runs p e below _ (T33.setTop (mkF m 522 #[.val (.int p0), .val (.int p1), .val (.int p2), .val (.int cc), .val (.int aa), .val (.int (p2.toInt8.toInt32)), .val (.ref b1), .val (.int (aa + own_n cc)), .val (.int (own_n cc)), .val (.int ((gg aa.toInt.toNat) &&& (255 : Int32))), .val (.int ((gg (aa.toInt.toNat + 1)) &&& (255 : Int32))), .val (.int ((gg (aa.toInt.toNat + 2)) &&& (255 : Int32))), .val (.int ((gg (aa.toInt.toNat + 3)) &&& (255 : Int32))), .val (.int (1 : Int32)), .unset] [(.int (7 : Int32)), (.ref b1)]))
      refine Runs.by (fun _ hr => XS.iload X33.here hx rfl (hb hby at_522) rfl  hr) ?_
      show Runs p e below _ (T33.setTop (mkF m 524 #[.val (.int p0), .val (.int p1), .val (.int p2), .val (.int cc), .val (.int aa), .val (.int (p2.toInt8.toInt32)), .val (.ref b1), .val (.int (aa + own_n cc)), .val (.int (own_n cc)), .val (.int ((gg aa.toInt.toNat) &&& (255 : Int32))), .val (.int ((gg (aa.toInt.toNat + 1)) &&& (255 : Int32))), .val (.int ((gg (aa.toInt.toNat + 2)) &&& (255 : Int32))), .val (.int ((gg (aa.toInt.toNat + 3)) &&& (255 : Int32))), .val (.int (1 : Int32)), .unset] [(.int aa), (.int (7 : Int32)), (.ref b1)]))
      refine Runs.by (fun _ hr => XS.iload X33.here hx rfl (hb hby at_524) rfl  hr) ?_
      show Runs p e below _ (T33.setTop (mkF m 526 #[.val (.int p0), .val (.int p1), .val (.int p2), .val (.int cc), .val (.int aa), .val (.int (p2.toInt8.toInt32)), .val (.ref b1), .val (.int (aa + own_n cc)), .val (.int (own_n cc)), .val (.int ((gg aa.toInt.toNat) &&& (255 : Int32))), .val (.int ((gg (aa.toInt.toNat + 1)) &&& (255 : Int32))), .val (.int ((gg (aa.toInt.toNat + 2)) &&& (255 : Int32))), .val (.int ((gg (aa.toInt.toNat + 3)) &&& (255 : Int32))), .val (.int (1 : Int32)), .unset] [(.int (aa + own_n cc)), (.int aa), (.int (7 : Int32)), (.ref b1)]))
      refine Runs.by (fun _ hr => XS.iload X33.here hx rfl (hb hby at_526) rfl  hr) ?_
      show Runs p e below _ (T33.setTop (mkF m 528 #[.val (.int p0), .val (.int p1), .val (.int p2), .val (.int cc), .val (.int aa), .val (.int (p2.toInt8.toInt32)), .val (.ref b1), .val (.int (aa + own_n cc)), .val (.int (own_n cc)), .val (.int ((gg aa.toInt.toNat) &&& (255 : Int32))), .val (.int ((gg (aa.toInt.toNat + 1)) &&& (255 : Int32))), .val (.int ((gg (aa.toInt.toNat + 2)) &&& (255 : Int32))), .val (.int ((gg (aa.toInt.toNat + 3)) &&& (255 : Int32))), .val (.int (1 : Int32)), .unset] [(.int (p2.toInt8.toInt32)), (.int (aa + own_n cc)), (.int aa), (.int (7 : Int32)), (.ref b1)]))
      obtain ⟨_, _, ⟨T34, L34, k34, n34⟩, -, X34, ⟨Lc34, hQ34, l34, y34, z34⟩, st34⟩ := Jvm.LawKit.callS X33 hx (y := (⟨"com/example/usher/usher/Utf8ValidatorEncodePinLaw", "untouched", "([BIIIB)Z"⟩ : MethodName)) hown (mvT hZ (hw _ (List.mem_of_getElem? (i := 7) rfl))) (mvT hZ (hw _ (List.mem_of_getElem? (i := 8) rfl))) (mvT hZ (hw _ (List.mem_of_getElem? (i := 9) rfl))) (mvT hZ (hw _ (List.mem_of_getElem? (i := 10) rfl))) (by decide) (backOf (W := 0) (rm2 l Z a0 hw [] b1 (7 : Int32) aa (aa + own_n cc) (p2.toInt8.toInt32) k1 gg T19.heap n0 (Nat.le_trans Z0 K20.1) f19_0 (by decide) (own_rest hgg hat (7 : Int32) (by decide))) hZ (hw _ (List.mem_of_getElem? (i := 10) rfl)) (hw _ (List.mem_of_getElem? (i := 9) rfl)) (by decide) (by decide)) (g := (mkF m 528 #[.val (.int p0), .val (.int p1), .val (.int p2), .val (.int cc), .val (.int aa), .val (.int (p2.toInt8.toInt32)), .val (.ref b1), .val (.int (aa + own_n cc)), .val (.int (own_n cc)), .val (.int ((gg aa.toInt.toNat) &&& (255 : Int32))), .val (.int ((gg (aa.toInt.toNat + 1)) &&& (255 : Int32))), .val (.int ((gg (aa.toInt.toNat + 2)) &&& (255 : Int32))), .val (.int ((gg (aa.toInt.toNat + 3)) &&& (255 : Int32))), .val (.int (1 : Int32)), .unset] [(.int (p2.toInt8.toInt32)), (.int (aa + own_n cc)), (.int aa), (.int (7 : Int32)), (.ref b1)])) rfl (by rw [hml]; rfl) (argsL := [(.ref b1), (.int (7 : Int32)), (.int aa), (.int (aa + own_n cc)), (.int (p2.toInt8.toInt32))]) (rest := []) (lenOf pd_1 rfl) rfl (by show 2 * 0 + _ ≤ _; exact Nat.le_of_eq rfl) (hb hby at_528) (fun _ _ => ⟨rfl, eq33, (by decide : 1 + 0 ≤ _), (by decide : 8 + 0 ≤ _)⟩)
      dsimp only [Pt.U, Pt.locs, Pt.cells, Pt.slots] at X34 l34 y34 z34 st34 hQ34
      subst l34 y34 z34
      obtain ⟨rfl, Nq34, eq34⟩ := hQ34
      have N34 := Fr.app N33 Nq34
      refine Runs.by (fun t hr => st34 t hr) ?_
      show Runs p e below _ (T34.setTop (mkF m 531 #[.val (.int p0), .val (.int p1), .val (.int p2), .val (.int cc), .val (.int aa), .val (.int (p2.toInt8.toInt32)), .val (.ref b1), .val (.int (aa + own_n cc)), .val (.int (own_n cc)), .val (.int ((gg aa.toInt.toNat) &&& (255 : Int32))), .val (.int ((gg (aa.toInt.toNat + 1)) &&& (255 : Int32))), .val (.int ((gg (aa.toInt.toNat + 2)) &&& (255 : Int32))), .val (.int ((gg (aa.toInt.toNat + 3)) &&& (255 : Int32))), .val (.int (1 : Int32)), .unset] [(.int (1 : Int32))]))
      have hc531 : ¬ ((1 : Int32) = (0 : Int32)) := (by decide)
      refine Runs.by (fun _ hr => XS.ifNo X34.here hx rfl (hb hby at_531) rfl ((if0 _ _).trans (feq hc531).1) hr) ?_
      show Runs p e below _ (T34.setTop (mkF m 534 #[.val (.int p0), .val (.int p1), .val (.int p2), .val (.int cc), .val (.int aa), .val (.int (p2.toInt8.toInt32)), .val (.ref b1), .val (.int (aa + own_n cc)), .val (.int (own_n cc)), .val (.int ((gg aa.toInt.toNat) &&& (255 : Int32))), .val (.int ((gg (aa.toInt.toNat + 1)) &&& (255 : Int32))), .val (.int ((gg (aa.toInt.toNat + 2)) &&& (255 : Int32))), .val (.int ((gg (aa.toInt.toNat + 3)) &&& (255 : Int32))), .val (.int (1 : Int32)), .unset] []))
      refine Runs.by (fun _ hr => XS.iconst X34.here hx rfl (hb hby at_534) hr) ?_
      show Runs p e below _ (T34.setTop (mkF m 535 #[.val (.int p0), .val (.int p1), .val (.int p2), .val (.int cc), .val (.int aa), .val (.int (p2.toInt8.toInt32)), .val (.ref b1), .val (.int (aa + own_n cc)), .val (.int (own_n cc)), .val (.int ((gg aa.toInt.toNat) &&& (255 : Int32))), .val (.int ((gg (aa.toInt.toNat + 1)) &&& (255 : Int32))), .val (.int ((gg (aa.toInt.toNat + 2)) &&& (255 : Int32))), .val (.int ((gg (aa.toInt.toNat + 3)) &&& (255 : Int32))), .val (.int (1 : Int32)), .unset] [(.int (1 : Int32))]))
      refine Runs.by (fun _ hr => XS.goto X34.here hx rfl (pc0 := 535) (pc' := 539) rfl (hb hby at_535) (by decide) (by decide) hr) ?_
      show Runs p e below _ (T34.setTop (mkF m 539 #[.val (.int p0), .val (.int p1), .val (.int p2), .val (.int cc), .val (.int aa), .val (.int (p2.toInt8.toInt32)), .val (.ref b1), .val (.int (aa + own_n cc)), .val (.int (own_n cc)), .val (.int ((gg aa.toInt.toNat) &&& (255 : Int32))), .val (.int ((gg (aa.toInt.toNat + 1)) &&& (255 : Int32))), .val (.int ((gg (aa.toInt.toNat + 2)) &&& (255 : Int32))), .val (.int ((gg (aa.toInt.toNat + 3)) &&& (255 : Int32))), .val (.int (1 : Int32)), .unset] [(.int (1 : Int32))]))
      refine Runs.by (fun _ hr => XS.istore X34.here hx rfl (hb hby at_539) rfl (l' := #[.val (.int p0), .val (.int p1), .val (.int p2), .val (.int cc), .val (.int aa), .val (.int (p2.toInt8.toInt32)), .val (.ref b1), .val (.int (aa + own_n cc)), .val (.int (own_n cc)), .val (.int ((gg aa.toInt.toNat) &&& (255 : Int32))), .val (.int ((gg (aa.toInt.toNat + 1)) &&& (255 : Int32))), .val (.int ((gg (aa.toInt.toNat + 2)) &&& (255 : Int32))), .val (.int ((gg (aa.toInt.toNat + 3)) &&& (255 : Int32))), .val (.int (1 : Int32)), .val (.int (1 : Int32))]) rfl hr) ?_
      show Runs p e below _ (T34.setTop (mkF m 541 #[.val (.int p0), .val (.int p1), .val (.int p2), .val (.int cc), .val (.int aa), .val (.int (p2.toInt8.toInt32)), .val (.ref b1), .val (.int (aa + own_n cc)), .val (.int (own_n cc)), .val (.int ((gg aa.toInt.toNat) &&& (255 : Int32))), .val (.int ((gg (aa.toInt.toNat + 1)) &&& (255 : Int32))), .val (.int ((gg (aa.toInt.toNat + 2)) &&& (255 : Int32))), .val (.int ((gg (aa.toInt.toNat + 3)) &&& (255 : Int32))), .val (.int (1 : Int32)), .val (.int (1 : Int32))] []))
      refine Runs.by (fun _ hr => XS.iload X34.here hx rfl (hb hby at_541) rfl  hr) ?_
      show Runs p e below _ (T34.setTop (mkF m 543 #[.val (.int p0), .val (.int p1), .val (.int p2), .val (.int cc), .val (.int aa), .val (.int (p2.toInt8.toInt32)), .val (.ref b1), .val (.int (aa + own_n cc)), .val (.int (own_n cc)), .val (.int ((gg aa.toInt.toNat) &&& (255 : Int32))), .val (.int ((gg (aa.toInt.toNat + 1)) &&& (255 : Int32))), .val (.int ((gg (aa.toInt.toNat + 2)) &&& (255 : Int32))), .val (.int ((gg (aa.toInt.toNat + 3)) &&& (255 : Int32))), .val (.int (1 : Int32)), .val (.int (1 : Int32))] [(.int (1 : Int32))]))
      have hc543 : ¬ ((1 : Int32) = (0 : Int32)) := (by decide)
      refine Runs.by (fun _ hr => XS.ifNo X34.here hx rfl (hb hby at_543) rfl ((if0 _ _).trans (feq hc543).1) hr) ?_
      show Runs p e below _ (T34.setTop (mkF m 546 #[.val (.int p0), .val (.int p1), .val (.int p2), .val (.int cc), .val (.int aa), .val (.int (p2.toInt8.toInt32)), .val (.ref b1), .val (.int (aa + own_n cc)), .val (.int (own_n cc)), .val (.int ((gg aa.toInt.toNat) &&& (255 : Int32))), .val (.int ((gg (aa.toInt.toNat + 1)) &&& (255 : Int32))), .val (.int ((gg (aa.toInt.toNat + 2)) &&& (255 : Int32))), .val (.int ((gg (aa.toInt.toNat + 3)) &&& (255 : Int32))), .val (.int (1 : Int32)), .val (.int (1 : Int32))] []))
      refine Runs.by (fun _ hr => XS.iload X34.here hx rfl (hb hby at_546) rfl  hr) ?_
      show Runs p e below _ (T34.setTop (mkF m 548 #[.val (.int p0), .val (.int p1), .val (.int p2), .val (.int cc), .val (.int aa), .val (.int (p2.toInt8.toInt32)), .val (.ref b1), .val (.int (aa + own_n cc)), .val (.int (own_n cc)), .val (.int ((gg aa.toInt.toNat) &&& (255 : Int32))), .val (.int ((gg (aa.toInt.toNat + 1)) &&& (255 : Int32))), .val (.int ((gg (aa.toInt.toNat + 2)) &&& (255 : Int32))), .val (.int ((gg (aa.toInt.toNat + 3)) &&& (255 : Int32))), .val (.int (1 : Int32)), .val (.int (1 : Int32))] [(.int (1 : Int32))]))
      have hc548 : ¬ ((1 : Int32) = (0 : Int32)) := (by decide)
      refine Runs.by (fun _ hr => XS.ifNo X34.here hx rfl (hb hby at_548) rfl ((if0 _ _).trans (feq hc548).1) hr) ?_
      show Runs p e below _ (T34.setTop (mkF m 551 #[.val (.int p0), .val (.int p1), .val (.int p2), .val (.int cc), .val (.int aa), .val (.int (p2.toInt8.toInt32)), .val (.ref b1), .val (.int (aa + own_n cc)), .val (.int (own_n cc)), .val (.int ((gg aa.toInt.toNat) &&& (255 : Int32))), .val (.int ((gg (aa.toInt.toNat + 1)) &&& (255 : Int32))), .val (.int ((gg (aa.toInt.toNat + 2)) &&& (255 : Int32))), .val (.int ((gg (aa.toInt.toNat + 3)) &&& (255 : Int32))), .val (.int (1 : Int32)), .val (.int (1 : Int32))] []))
      refine Runs.by (fun _ hr => XS.iconst X34.here hx rfl (hb hby at_551) hr) ?_
      show Runs p e below _ (T34.setTop (mkF m 552 #[.val (.int p0), .val (.int p1), .val (.int p2), .val (.int cc), .val (.int aa), .val (.int (p2.toInt8.toInt32)), .val (.ref b1), .val (.int (aa + own_n cc)), .val (.int (own_n cc)), .val (.int ((gg aa.toInt.toNat) &&& (255 : Int32))), .val (.int ((gg (aa.toInt.toNat + 1)) &&& (255 : Int32))), .val (.int ((gg (aa.toInt.toNat + 2)) &&& (255 : Int32))), .val (.int ((gg (aa.toInt.toNat + 3)) &&& (255 : Int32))), .val (.int (1 : Int32)), .val (.int (1 : Int32))] [(.int (1 : Int32))]))
      refine Runs.by (fun _ hr => XS.goto X34.here hx rfl (pc0 := 552) (pc' := 556) rfl (hb hby at_552) (by decide) (by decide) hr) ?_
      show Runs p e below _ (T34.setTop (mkF m 556 #[.val (.int p0), .val (.int p1), .val (.int p2), .val (.int cc), .val (.int aa), .val (.int (p2.toInt8.toInt32)), .val (.ref b1), .val (.int (aa + own_n cc)), .val (.int (own_n cc)), .val (.int ((gg aa.toInt.toNat) &&& (255 : Int32))), .val (.int ((gg (aa.toInt.toNat + 1)) &&& (255 : Int32))), .val (.int ((gg (aa.toInt.toNat + 2)) &&& (255 : Int32))), .val (.int ((gg (aa.toInt.toNat + 3)) &&& (255 : Int32))), .val (.int (1 : Int32)), .val (.int (1 : Int32))] [(.int (1 : Int32))]))
      refine Runs.ret X34 hx hrt hlk (Or.inl ⟨rfl, by simp, _, rfl⟩) (by rfl) (hb hby at_556) (by decide) (by decide) ?_
      rw [eq34]
      exact ⟨rfl, N34⟩
    show Runs p e below _ (TJ21.setTop (mkF m 186 #[.val (.int p0), .val (.int p1), .val (.int p2), .val (.int cc), .val (.int aa), .val (.int (p2.toInt8.toInt32)), .val (.ref b1), .val (.int (aa + own_n cc)), .val (.int (own_n cc)), .val (.int ((gg aa.toInt.toNat) &&& (255 : Int32))), .val (.int ((gg (aa.toInt.toNat + 1)) &&& (255 : Int32))), .val (.int ((gg (aa.toInt.toNat + 2)) &&& (255 : Int32))), .val (.int ((gg (aa.toInt.toNat + 3)) &&& (255 : Int32))), .unset, .unset] []))
    refine Runs.by (fun _ hr => XS.iload XJ21.here hx rfl (hb hby at_186) rfl  hr) ?_
    show Runs p e below _ (TJ21.setTop (mkF m 188 #[.val (.int p0), .val (.int p1), .val (.int p2), .val (.int cc), .val (.int aa), .val (.int (p2.toInt8.toInt32)), .val (.ref b1), .val (.int (aa + own_n cc)), .val (.int (own_n cc)), .val (.int ((gg aa.toInt.toNat) &&& (255 : Int32))), .val (.int ((gg (aa.toInt.toNat + 1)) &&& (255 : Int32))), .val (.int ((gg (aa.toInt.toNat + 2)) &&& (255 : Int32))), .val (.int ((gg (aa.toInt.toNat + 3)) &&& (255 : Int32))), .unset, .unset] [(.int (own_n cc))]))
    refine Runs.by (fun _ hr => XS.iconst XJ21.here hx rfl (hb hby at_188) hr) ?_
    show Runs p e below _ (TJ21.setTop (mkF m 189 #[.val (.int p0), .val (.int p1), .val (.int p2), .val (.int cc), .val (.int aa), .val (.int (p2.toInt8.toInt32)), .val (.ref b1), .val (.int (aa + own_n cc)), .val (.int (own_n cc)), .val (.int ((gg aa.toInt.toNat) &&& (255 : Int32))), .val (.int ((gg (aa.toInt.toNat + 1)) &&& (255 : Int32))), .val (.int ((gg (aa.toInt.toNat + 2)) &&& (255 : Int32))), .val (.int ((gg (aa.toInt.toNat + 3)) &&& (255 : Int32))), .unset, .unset] [(.int (1 : Int32)), (.int (own_n cc))]))
    by_cases hc189 : (own_n cc) = (1 : Int32)
    · -- pc 189: (own_n cc) = (1 : Int32)
      refine Runs.by (fun _ hr => XS.icmpNo XJ21.here hx rfl (hb hby at_189) rfl (teq hc189).2 hr) ?_
      show Runs p e below _ (TJ21.setTop (mkF m 192 #[.val (.int p0), .val (.int p1), .val (.int p2), .val (.int cc), .val (.int aa), .val (.int (p2.toInt8.toInt32)), .val (.ref b1), .val (.int (aa + own_n cc)), .val (.int (own_n cc)), .val (.int ((gg aa.toInt.toNat) &&& (255 : Int32))), .val (.int ((gg (aa.toInt.toNat + 1)) &&& (255 : Int32))), .val (.int ((gg (aa.toInt.toNat + 2)) &&& (255 : Int32))), .val (.int ((gg (aa.toInt.toNat + 3)) &&& (255 : Int32))), .unset, .unset] []))
      refine Runs.by (fun _ hr => XS.iload XJ21.here hx rfl (hb hby at_192) rfl  hr) ?_
      show Runs p e below _ (TJ21.setTop (mkF m 194 #[.val (.int p0), .val (.int p1), .val (.int p2), .val (.int cc), .val (.int aa), .val (.int (p2.toInt8.toInt32)), .val (.ref b1), .val (.int (aa + own_n cc)), .val (.int (own_n cc)), .val (.int ((gg aa.toInt.toNat) &&& (255 : Int32))), .val (.int ((gg (aa.toInt.toNat + 1)) &&& (255 : Int32))), .val (.int ((gg (aa.toInt.toNat + 2)) &&& (255 : Int32))), .val (.int ((gg (aa.toInt.toNat + 3)) &&& (255 : Int32))), .unset, .unset] [(.int ((gg aa.toInt.toNat) &&& (255 : Int32)))]))
      refine Runs.by (fun _ hr => XS.iloadN XJ21.here hx rfl (hb hby at_194) rfl  hr) ?_
      show Runs p e below _ (TJ21.setTop (mkF m 195 #[.val (.int p0), .val (.int p1), .val (.int p2), .val (.int cc), .val (.int aa), .val (.int (p2.toInt8.toInt32)), .val (.ref b1), .val (.int (aa + own_n cc)), .val (.int (own_n cc)), .val (.int ((gg aa.toInt.toNat) &&& (255 : Int32))), .val (.int ((gg (aa.toInt.toNat + 1)) &&& (255 : Int32))), .val (.int ((gg (aa.toInt.toNat + 2)) &&& (255 : Int32))), .val (.int ((gg (aa.toInt.toNat + 3)) &&& (255 : Int32))), .unset, .unset] [(.int cc), (.int ((gg aa.toInt.toNat) &&& (255 : Int32)))]))
      have hc195 : ((gg aa.toInt.toNat) &&& (255 : Int32)) = cc := own_d1 hgg hcp hc189
      refine Runs.by (fun _ hr => XS.icmpNo XJ21.here hx rfl (hb hby at_195) rfl (teq hc195).2 hr) ?_
      show Runs p e below _ (TJ21.setTop (mkF m 198 #[.val (.int p0), .val (.int p1), .val (.int p2), .val (.int cc), .val (.int aa), .val (.int (p2.toInt8.toInt32)), .val (.ref b1), .val (.int (aa + own_n cc)), .val (.int (own_n cc)), .val (.int ((gg aa.toInt.toNat) &&& (255 : Int32))), .val (.int ((gg (aa.toInt.toNat + 1)) &&& (255 : Int32))), .val (.int ((gg (aa.toInt.toNat + 2)) &&& (255 : Int32))), .val (.int ((gg (aa.toInt.toNat + 3)) &&& (255 : Int32))), .unset, .unset] []))
      refine Runs.by (fun _ hr => XS.iconst XJ21.here hx rfl (hb hby at_198) hr) ?_
      show Runs p e below _ (TJ21.setTop (mkF m 199 #[.val (.int p0), .val (.int p1), .val (.int p2), .val (.int cc), .val (.int aa), .val (.int (p2.toInt8.toInt32)), .val (.ref b1), .val (.int (aa + own_n cc)), .val (.int (own_n cc)), .val (.int ((gg aa.toInt.toNat) &&& (255 : Int32))), .val (.int ((gg (aa.toInt.toNat + 1)) &&& (255 : Int32))), .val (.int ((gg (aa.toInt.toNat + 2)) &&& (255 : Int32))), .val (.int ((gg (aa.toInt.toNat + 3)) &&& (255 : Int32))), .unset, .unset] [(.int (1 : Int32))]))
      refine Runs.by (fun _ hr => XS.goto XJ21.here hx rfl (pc0 := 199) (pc' := 203) rfl (hb hby at_199) (by decide) (by decide) hr) ?_
      show Runs p e below _ (TJ21.setTop (mkF m 203 #[.val (.int p0), .val (.int p1), .val (.int p2), .val (.int cc), .val (.int aa), .val (.int (p2.toInt8.toInt32)), .val (.ref b1), .val (.int (aa + own_n cc)), .val (.int (own_n cc)), .val (.int ((gg aa.toInt.toNat) &&& (255 : Int32))), .val (.int ((gg (aa.toInt.toNat + 1)) &&& (255 : Int32))), .val (.int ((gg (aa.toInt.toNat + 2)) &&& (255 : Int32))), .val (.int ((gg (aa.toInt.toNat + 3)) &&& (255 : Int32))), .unset, .unset] [(.int (1 : Int32))]))
      refine Runs.by (fun _ hr => XS.istore XJ21.here hx rfl (hb hby at_203) rfl (l' := #[.val (.int p0), .val (.int p1), .val (.int p2), .val (.int cc), .val (.int aa), .val (.int (p2.toInt8.toInt32)), .val (.ref b1), .val (.int (aa + own_n cc)), .val (.int (own_n cc)), .val (.int ((gg aa.toInt.toNat) &&& (255 : Int32))), .val (.int ((gg (aa.toInt.toNat + 1)) &&& (255 : Int32))), .val (.int ((gg (aa.toInt.toNat + 2)) &&& (255 : Int32))), .val (.int ((gg (aa.toInt.toNat + 3)) &&& (255 : Int32))), .val (.int (1 : Int32)), .unset]) rfl hr) ?_
      show Runs p e below _ (TJ21.setTop (mkF m 205 #[.val (.int p0), .val (.int p1), .val (.int p2), .val (.int cc), .val (.int aa), .val (.int (p2.toInt8.toInt32)), .val (.ref b1), .val (.int (aa + own_n cc)), .val (.int (own_n cc)), .val (.int ((gg aa.toInt.toNat) &&& (255 : Int32))), .val (.int ((gg (aa.toInt.toNat + 1)) &&& (255 : Int32))), .val (.int ((gg (aa.toInt.toNat + 2)) &&& (255 : Int32))), .val (.int ((gg (aa.toInt.toNat + 3)) &&& (255 : Int32))), .val (.int (1 : Int32)), .unset] []))
      refine Runs.by (fun _ hr => XS.goto XJ21.here hx rfl (pc0 := 205) (pc' := 412) rfl (hb hby at_205) (by decide) (by decide) hr) ?_
      exact J412  _ _ XJ21 eJ21 NJ21 
    · -- pc 189: not (own_n cc) = (1 : Int32)
      refine Runs.by (fun _ hr => XS.icmpYes XJ21.here hx rfl (pc0 := 189) (pc' := 208) rfl (hb hby at_189) rfl (feq hc189).2 (by decide) (by decide) hr) ?_
      show Runs p e below _ (TJ21.setTop (mkF m 208 #[.val (.int p0), .val (.int p1), .val (.int p2), .val (.int cc), .val (.int aa), .val (.int (p2.toInt8.toInt32)), .val (.ref b1), .val (.int (aa + own_n cc)), .val (.int (own_n cc)), .val (.int ((gg aa.toInt.toNat) &&& (255 : Int32))), .val (.int ((gg (aa.toInt.toNat + 1)) &&& (255 : Int32))), .val (.int ((gg (aa.toInt.toNat + 2)) &&& (255 : Int32))), .val (.int ((gg (aa.toInt.toNat + 3)) &&& (255 : Int32))), .unset, .unset] []))
      refine Runs.by (fun _ hr => XS.iload XJ21.here hx rfl (hb hby at_208) rfl  hr) ?_
      show Runs p e below _ (TJ21.setTop (mkF m 210 #[.val (.int p0), .val (.int p1), .val (.int p2), .val (.int cc), .val (.int aa), .val (.int (p2.toInt8.toInt32)), .val (.ref b1), .val (.int (aa + own_n cc)), .val (.int (own_n cc)), .val (.int ((gg aa.toInt.toNat) &&& (255 : Int32))), .val (.int ((gg (aa.toInt.toNat + 1)) &&& (255 : Int32))), .val (.int ((gg (aa.toInt.toNat + 2)) &&& (255 : Int32))), .val (.int ((gg (aa.toInt.toNat + 3)) &&& (255 : Int32))), .unset, .unset] [(.int (own_n cc))]))
      refine Runs.by (fun _ hr => XS.iconst XJ21.here hx rfl (hb hby at_210) hr) ?_
      show Runs p e below _ (TJ21.setTop (mkF m 211 #[.val (.int p0), .val (.int p1), .val (.int p2), .val (.int cc), .val (.int aa), .val (.int (p2.toInt8.toInt32)), .val (.ref b1), .val (.int (aa + own_n cc)), .val (.int (own_n cc)), .val (.int ((gg aa.toInt.toNat) &&& (255 : Int32))), .val (.int ((gg (aa.toInt.toNat + 1)) &&& (255 : Int32))), .val (.int ((gg (aa.toInt.toNat + 2)) &&& (255 : Int32))), .val (.int ((gg (aa.toInt.toNat + 3)) &&& (255 : Int32))), .unset, .unset] [(.int (2 : Int32)), (.int (own_n cc))]))
      by_cases hc211 : (own_n cc) = (2 : Int32)
      · -- pc 211: (own_n cc) = (2 : Int32)
        refine Runs.by (fun _ hr => XS.icmpNo XJ21.here hx rfl (hb hby at_211) rfl (teq hc211).2 hr) ?_
        show Runs p e below _ (TJ21.setTop (mkF m 214 #[.val (.int p0), .val (.int p1), .val (.int p2), .val (.int cc), .val (.int aa), .val (.int (p2.toInt8.toInt32)), .val (.ref b1), .val (.int (aa + own_n cc)), .val (.int (own_n cc)), .val (.int ((gg aa.toInt.toNat) &&& (255 : Int32))), .val (.int ((gg (aa.toInt.toNat + 1)) &&& (255 : Int32))), .val (.int ((gg (aa.toInt.toNat + 2)) &&& (255 : Int32))), .val (.int ((gg (aa.toInt.toNat + 3)) &&& (255 : Int32))), .unset, .unset] []))
        refine Runs.by (fun _ hr => XS.iload XJ21.here hx rfl (hb hby at_214) rfl  hr) ?_
        show Runs p e below _ (TJ21.setTop (mkF m 216 #[.val (.int p0), .val (.int p1), .val (.int p2), .val (.int cc), .val (.int aa), .val (.int (p2.toInt8.toInt32)), .val (.ref b1), .val (.int (aa + own_n cc)), .val (.int (own_n cc)), .val (.int ((gg aa.toInt.toNat) &&& (255 : Int32))), .val (.int ((gg (aa.toInt.toNat + 1)) &&& (255 : Int32))), .val (.int ((gg (aa.toInt.toNat + 2)) &&& (255 : Int32))), .val (.int ((gg (aa.toInt.toNat + 3)) &&& (255 : Int32))), .unset, .unset] [(.int ((gg aa.toInt.toNat) &&& (255 : Int32)))]))
        refine Runs.by (fun _ hr => XS.sipush XJ21.here hx rfl (hb hby at_216) hr) ?_
        show Runs p e below _ (TJ21.setTop (mkF m 219 #[.val (.int p0), .val (.int p1), .val (.int p2), .val (.int cc), .val (.int aa), .val (.int (p2.toInt8.toInt32)), .val (.ref b1), .val (.int (aa + own_n cc)), .val (.int (own_n cc)), .val (.int ((gg aa.toInt.toNat) &&& (255 : Int32))), .val (.int ((gg (aa.toInt.toNat + 1)) &&& (255 : Int32))), .val (.int ((gg (aa.toInt.toNat + 2)) &&& (255 : Int32))), .val (.int ((gg (aa.toInt.toNat + 3)) &&& (255 : Int32))), .unset, .unset] [(.int (224 : Int32)), (.int ((gg aa.toInt.toNat) &&& (255 : Int32)))]))
        refine Runs.by (fun _ hr => XS.iand XJ21.here hx rfl (hb hby at_219) rfl hr) ?_
        show Runs p e below _ (TJ21.setTop (mkF m 220 #[.val (.int p0), .val (.int p1), .val (.int p2), .val (.int cc), .val (.int aa), .val (.int (p2.toInt8.toInt32)), .val (.ref b1), .val (.int (aa + own_n cc)), .val (.int (own_n cc)), .val (.int ((gg aa.toInt.toNat) &&& (255 : Int32))), .val (.int ((gg (aa.toInt.toNat + 1)) &&& (255 : Int32))), .val (.int ((gg (aa.toInt.toNat + 2)) &&& (255 : Int32))), .val (.int ((gg (aa.toInt.toNat + 3)) &&& (255 : Int32))), .unset, .unset] [(.int (((gg aa.toInt.toNat) &&& (255 : Int32)) &&& (224 : Int32)))]))
        refine Runs.by (fun _ hr => XS.sipush XJ21.here hx rfl (hb hby at_220) hr) ?_
        show Runs p e below _ (TJ21.setTop (mkF m 223 #[.val (.int p0), .val (.int p1), .val (.int p2), .val (.int cc), .val (.int aa), .val (.int (p2.toInt8.toInt32)), .val (.ref b1), .val (.int (aa + own_n cc)), .val (.int (own_n cc)), .val (.int ((gg aa.toInt.toNat) &&& (255 : Int32))), .val (.int ((gg (aa.toInt.toNat + 1)) &&& (255 : Int32))), .val (.int ((gg (aa.toInt.toNat + 2)) &&& (255 : Int32))), .val (.int ((gg (aa.toInt.toNat + 3)) &&& (255 : Int32))), .unset, .unset] [(.int (192 : Int32)), (.int (((gg aa.toInt.toNat) &&& (255 : Int32)) &&& (224 : Int32)))]))
        have hc223 : (((gg aa.toInt.toNat) &&& (255 : Int32)) &&& (224 : Int32)) = (192 : Int32) := (own_d2 hgg hcp hc211).1
        refine Runs.by (fun _ hr => XS.icmpNo XJ21.here hx rfl (hb hby at_223) rfl (teq hc223).2 hr) ?_
        show Runs p e below _ (TJ21.setTop (mkF m 226 #[.val (.int p0), .val (.int p1), .val (.int p2), .val (.int cc), .val (.int aa), .val (.int (p2.toInt8.toInt32)), .val (.ref b1), .val (.int (aa + own_n cc)), .val (.int (own_n cc)), .val (.int ((gg aa.toInt.toNat) &&& (255 : Int32))), .val (.int ((gg (aa.toInt.toNat + 1)) &&& (255 : Int32))), .val (.int ((gg (aa.toInt.toNat + 2)) &&& (255 : Int32))), .val (.int ((gg (aa.toInt.toNat + 3)) &&& (255 : Int32))), .unset, .unset] []))
        refine Runs.by (fun _ hr => XS.iload XJ21.here hx rfl (hb hby at_226) rfl  hr) ?_
        show Runs p e below _ (TJ21.setTop (mkF m 228 #[.val (.int p0), .val (.int p1), .val (.int p2), .val (.int cc), .val (.int aa), .val (.int (p2.toInt8.toInt32)), .val (.ref b1), .val (.int (aa + own_n cc)), .val (.int (own_n cc)), .val (.int ((gg aa.toInt.toNat) &&& (255 : Int32))), .val (.int ((gg (aa.toInt.toNat + 1)) &&& (255 : Int32))), .val (.int ((gg (aa.toInt.toNat + 2)) &&& (255 : Int32))), .val (.int ((gg (aa.toInt.toNat + 3)) &&& (255 : Int32))), .unset, .unset] [(.int ((gg (aa.toInt.toNat + 1)) &&& (255 : Int32)))]))
        obtain ⟨_, _, ⟨T35, L35, k35, n35⟩, -, X35, ⟨Lc35, hQ35, l35, y35, z35⟩, st35⟩ := Jvm.LawKit.callS XJ21 hx (y := (⟨"com/example/usher/usher/Utf8ValidatorEncodePinLaw", "cont", "(I)Z"⟩ : MethodName)) hown (mvT hZ (hw _ (List.mem_of_getElem? (i := 11) rfl))) (mvT hZ (hw _ (List.mem_of_getElem? (i := 12) rfl))) (mvT hZ (hw _ (List.mem_of_getElem? (i := 9) rfl))) (mvT hZ (hw _ (List.mem_of_getElem? (i := 13) rfl))) (by decide) (backOf (W := 0) (rm3 l Z a0 hw [] ((gg (aa.toInt.toNat + 1)) &&& (255 : Int32))  T19.heap n0 (Nat.le_trans Z0 K20.1) (own_d2 hgg hcp hc211).2.1) hZ (hw _ (List.mem_of_getElem? (i := 13) rfl)) (hw _ (List.mem_of_getElem? (i := 9) rfl)) (by decide) (by decide)) (g := (mkF m 228 #[.val (.int p0), .val (.int p1), .val (.int p2), .val (.int cc), .val (.int aa), .val (.int (p2.toInt8.toInt32)), .val (.ref b1), .val (.int (aa + own_n cc)), .val (.int (own_n cc)), .val (.int ((gg aa.toInt.toNat) &&& (255 : Int32))), .val (.int ((gg (aa.toInt.toNat + 1)) &&& (255 : Int32))), .val (.int ((gg (aa.toInt.toNat + 2)) &&& (255 : Int32))), .val (.int ((gg (aa.toInt.toNat + 3)) &&& (255 : Int32))), .unset, .unset] [(.int ((gg (aa.toInt.toNat + 1)) &&& (255 : Int32)))])) rfl (by rw [hml]; rfl) (argsL := [(.int ((gg (aa.toInt.toNat + 1)) &&& (255 : Int32)))]) (rest := []) (lenOf pd_2 rfl) rfl (by show 2 * 0 + _ ≤ _; exact Nat.le_of_eq rfl) (hb hby at_228) (fun _ _ => ⟨rfl, eJ21, (by decide : 1 + 0 ≤ _), (by decide : 8 + 0 ≤ _)⟩)
        dsimp only [Pt.U, Pt.locs, Pt.cells, Pt.slots] at X35 l35 y35 z35 st35 hQ35
        subst l35 y35 z35
        obtain ⟨rfl, Nq35, eq35⟩ := hQ35
        have N35 := Fr.app NJ21 Nq35
        refine Runs.by (fun t hr => st35 t hr) ?_
        show Runs p e below _ (T35.setTop (mkF m 231 #[.val (.int p0), .val (.int p1), .val (.int p2), .val (.int cc), .val (.int aa), .val (.int (p2.toInt8.toInt32)), .val (.ref b1), .val (.int (aa + own_n cc)), .val (.int (own_n cc)), .val (.int ((gg aa.toInt.toNat) &&& (255 : Int32))), .val (.int ((gg (aa.toInt.toNat + 1)) &&& (255 : Int32))), .val (.int ((gg (aa.toInt.toNat + 2)) &&& (255 : Int32))), .val (.int ((gg (aa.toInt.toNat + 3)) &&& (255 : Int32))), .unset, .unset] [(.int (1 : Int32))]))
        have hc231 : ¬ ((1 : Int32) = (0 : Int32)) := (by decide)
        refine Runs.by (fun _ hr => XS.ifNo X35.here hx rfl (hb hby at_231) rfl ((if0 _ _).trans (feq hc231).1) hr) ?_
        show Runs p e below _ (T35.setTop (mkF m 234 #[.val (.int p0), .val (.int p1), .val (.int p2), .val (.int cc), .val (.int aa), .val (.int (p2.toInt8.toInt32)), .val (.ref b1), .val (.int (aa + own_n cc)), .val (.int (own_n cc)), .val (.int ((gg aa.toInt.toNat) &&& (255 : Int32))), .val (.int ((gg (aa.toInt.toNat + 1)) &&& (255 : Int32))), .val (.int ((gg (aa.toInt.toNat + 2)) &&& (255 : Int32))), .val (.int ((gg (aa.toInt.toNat + 3)) &&& (255 : Int32))), .unset, .unset] []))
        refine Runs.by (fun _ hr => XS.iload X35.here hx rfl (hb hby at_234) rfl  hr) ?_
        show Runs p e below _ (T35.setTop (mkF m 236 #[.val (.int p0), .val (.int p1), .val (.int p2), .val (.int cc), .val (.int aa), .val (.int (p2.toInt8.toInt32)), .val (.ref b1), .val (.int (aa + own_n cc)), .val (.int (own_n cc)), .val (.int ((gg aa.toInt.toNat) &&& (255 : Int32))), .val (.int ((gg (aa.toInt.toNat + 1)) &&& (255 : Int32))), .val (.int ((gg (aa.toInt.toNat + 2)) &&& (255 : Int32))), .val (.int ((gg (aa.toInt.toNat + 3)) &&& (255 : Int32))), .unset, .unset] [(.int ((gg aa.toInt.toNat) &&& (255 : Int32)))]))
        refine Runs.by (fun _ hr => XS.bipush X35.here hx rfl (hb hby at_236) hr) ?_
        show Runs p e below _ (T35.setTop (mkF m 238 #[.val (.int p0), .val (.int p1), .val (.int p2), .val (.int cc), .val (.int aa), .val (.int (p2.toInt8.toInt32)), .val (.ref b1), .val (.int (aa + own_n cc)), .val (.int (own_n cc)), .val (.int ((gg aa.toInt.toNat) &&& (255 : Int32))), .val (.int ((gg (aa.toInt.toNat + 1)) &&& (255 : Int32))), .val (.int ((gg (aa.toInt.toNat + 2)) &&& (255 : Int32))), .val (.int ((gg (aa.toInt.toNat + 3)) &&& (255 : Int32))), .unset, .unset] [(.int (31 : Int32)), (.int ((gg aa.toInt.toNat) &&& (255 : Int32)))]))
        refine Runs.by (fun _ hr => XS.iand X35.here hx rfl (hb hby at_238) rfl hr) ?_
        show Runs p e below _ (T35.setTop (mkF m 239 #[.val (.int p0), .val (.int p1), .val (.int p2), .val (.int cc), .val (.int aa), .val (.int (p2.toInt8.toInt32)), .val (.ref b1), .val (.int (aa + own_n cc)), .val (.int (own_n cc)), .val (.int ((gg aa.toInt.toNat) &&& (255 : Int32))), .val (.int ((gg (aa.toInt.toNat + 1)) &&& (255 : Int32))), .val (.int ((gg (aa.toInt.toNat + 2)) &&& (255 : Int32))), .val (.int ((gg (aa.toInt.toNat + 3)) &&& (255 : Int32))), .unset, .unset] [(.int (((gg aa.toInt.toNat) &&& (255 : Int32)) &&& (31 : Int32)))]))
        refine Runs.by (fun _ hr => XS.bipush X35.here hx rfl (hb hby at_239) hr) ?_
        show Runs p e below _ (T35.setTop (mkF m 241 #[.val (.int p0), .val (.int p1), .val (.int p2), .val (.int cc), .val (.int aa), .val (.int (p2.toInt8.toInt32)), .val (.ref b1), .val (.int (aa + own_n cc)), .val (.int (own_n cc)), .val (.int ((gg aa.toInt.toNat) &&& (255 : Int32))), .val (.int ((gg (aa.toInt.toNat + 1)) &&& (255 : Int32))), .val (.int ((gg (aa.toInt.toNat + 2)) &&& (255 : Int32))), .val (.int ((gg (aa.toInt.toNat + 3)) &&& (255 : Int32))), .unset, .unset] [(.int (6 : Int32)), (.int (((gg aa.toInt.toNat) &&& (255 : Int32)) &&& (31 : Int32)))]))
        refine Runs.by (fun _ hr => XS.ishl X35.here hx rfl (hb hby at_241) rfl hr) ?_
        show Runs p e below _ (T35.setTop (mkF m 242 #[.val (.int p0), .val (.int p1), .val (.int p2), .val (.int cc), .val (.int aa), .val (.int (p2.toInt8.toInt32)), .val (.ref b1), .val (.int (aa + own_n cc)), .val (.int (own_n cc)), .val (.int ((gg aa.toInt.toNat) &&& (255 : Int32))), .val (.int ((gg (aa.toInt.toNat + 1)) &&& (255 : Int32))), .val (.int ((gg (aa.toInt.toNat + 2)) &&& (255 : Int32))), .val (.int ((gg (aa.toInt.toNat + 3)) &&& (255 : Int32))), .unset, .unset] [(.int ((((gg aa.toInt.toNat) &&& (255 : Int32)) &&& (31 : Int32)) <<< ((6 : Int32) &&& 31)))]))
        refine Runs.by (fun _ hr => XS.iload X35.here hx rfl (hb hby at_242) rfl  hr) ?_
        show Runs p e below _ (T35.setTop (mkF m 244 #[.val (.int p0), .val (.int p1), .val (.int p2), .val (.int cc), .val (.int aa), .val (.int (p2.toInt8.toInt32)), .val (.ref b1), .val (.int (aa + own_n cc)), .val (.int (own_n cc)), .val (.int ((gg aa.toInt.toNat) &&& (255 : Int32))), .val (.int ((gg (aa.toInt.toNat + 1)) &&& (255 : Int32))), .val (.int ((gg (aa.toInt.toNat + 2)) &&& (255 : Int32))), .val (.int ((gg (aa.toInt.toNat + 3)) &&& (255 : Int32))), .unset, .unset] [(.int ((gg (aa.toInt.toNat + 1)) &&& (255 : Int32))), (.int ((((gg aa.toInt.toNat) &&& (255 : Int32)) &&& (31 : Int32)) <<< ((6 : Int32) &&& 31)))]))
        refine Runs.by (fun _ hr => XS.bipush X35.here hx rfl (hb hby at_244) hr) ?_
        show Runs p e below _ (T35.setTop (mkF m 246 #[.val (.int p0), .val (.int p1), .val (.int p2), .val (.int cc), .val (.int aa), .val (.int (p2.toInt8.toInt32)), .val (.ref b1), .val (.int (aa + own_n cc)), .val (.int (own_n cc)), .val (.int ((gg aa.toInt.toNat) &&& (255 : Int32))), .val (.int ((gg (aa.toInt.toNat + 1)) &&& (255 : Int32))), .val (.int ((gg (aa.toInt.toNat + 2)) &&& (255 : Int32))), .val (.int ((gg (aa.toInt.toNat + 3)) &&& (255 : Int32))), .unset, .unset] [(.int (63 : Int32)), (.int ((gg (aa.toInt.toNat + 1)) &&& (255 : Int32))), (.int ((((gg aa.toInt.toNat) &&& (255 : Int32)) &&& (31 : Int32)) <<< ((6 : Int32) &&& 31)))]))
        refine Runs.by (fun _ hr => XS.iand X35.here hx rfl (hb hby at_246) rfl hr) ?_
        show Runs p e below _ (T35.setTop (mkF m 247 #[.val (.int p0), .val (.int p1), .val (.int p2), .val (.int cc), .val (.int aa), .val (.int (p2.toInt8.toInt32)), .val (.ref b1), .val (.int (aa + own_n cc)), .val (.int (own_n cc)), .val (.int ((gg aa.toInt.toNat) &&& (255 : Int32))), .val (.int ((gg (aa.toInt.toNat + 1)) &&& (255 : Int32))), .val (.int ((gg (aa.toInt.toNat + 2)) &&& (255 : Int32))), .val (.int ((gg (aa.toInt.toNat + 3)) &&& (255 : Int32))), .unset, .unset] [(.int (((gg (aa.toInt.toNat + 1)) &&& (255 : Int32)) &&& (63 : Int32))), (.int ((((gg aa.toInt.toNat) &&& (255 : Int32)) &&& (31 : Int32)) <<< ((6 : Int32) &&& 31)))]))
        refine Runs.by (fun _ hr => XS.ior X35.here hx rfl (hb hby at_247) rfl hr) ?_
        show Runs p e below _ (T35.setTop (mkF m 248 #[.val (.int p0), .val (.int p1), .val (.int p2), .val (.int cc), .val (.int aa), .val (.int (p2.toInt8.toInt32)), .val (.ref b1), .val (.int (aa + own_n cc)), .val (.int (own_n cc)), .val (.int ((gg aa.toInt.toNat) &&& (255 : Int32))), .val (.int ((gg (aa.toInt.toNat + 1)) &&& (255 : Int32))), .val (.int ((gg (aa.toInt.toNat + 2)) &&& (255 : Int32))), .val (.int ((gg (aa.toInt.toNat + 3)) &&& (255 : Int32))), .unset, .unset] [(.int (((((gg aa.toInt.toNat) &&& (255 : Int32)) &&& (31 : Int32)) <<< ((6 : Int32) &&& 31)) ||| (((gg (aa.toInt.toNat + 1)) &&& (255 : Int32)) &&& (63 : Int32))))]))
        refine Runs.by (fun _ hr => XS.iloadN X35.here hx rfl (hb hby at_248) rfl  hr) ?_
        show Runs p e below _ (T35.setTop (mkF m 249 #[.val (.int p0), .val (.int p1), .val (.int p2), .val (.int cc), .val (.int aa), .val (.int (p2.toInt8.toInt32)), .val (.ref b1), .val (.int (aa + own_n cc)), .val (.int (own_n cc)), .val (.int ((gg aa.toInt.toNat) &&& (255 : Int32))), .val (.int ((gg (aa.toInt.toNat + 1)) &&& (255 : Int32))), .val (.int ((gg (aa.toInt.toNat + 2)) &&& (255 : Int32))), .val (.int ((gg (aa.toInt.toNat + 3)) &&& (255 : Int32))), .unset, .unset] [(.int cc), (.int (((((gg aa.toInt.toNat) &&& (255 : Int32)) &&& (31 : Int32)) <<< ((6 : Int32) &&& 31)) ||| (((gg (aa.toInt.toNat + 1)) &&& (255 : Int32)) &&& (63 : Int32))))]))
        have hc249 : (((((gg aa.toInt.toNat) &&& (255 : Int32)) &&& (31 : Int32)) <<< ((6 : Int32) &&& 31)) ||| (((gg (aa.toInt.toNat + 1)) &&& (255 : Int32)) &&& (63 : Int32))) = cc := (own_d2 hgg hcp hc211).2.2
        refine Runs.by (fun _ hr => XS.icmpNo X35.here hx rfl (hb hby at_249) rfl (teq hc249).2 hr) ?_
        show Runs p e below _ (T35.setTop (mkF m 252 #[.val (.int p0), .val (.int p1), .val (.int p2), .val (.int cc), .val (.int aa), .val (.int (p2.toInt8.toInt32)), .val (.ref b1), .val (.int (aa + own_n cc)), .val (.int (own_n cc)), .val (.int ((gg aa.toInt.toNat) &&& (255 : Int32))), .val (.int ((gg (aa.toInt.toNat + 1)) &&& (255 : Int32))), .val (.int ((gg (aa.toInt.toNat + 2)) &&& (255 : Int32))), .val (.int ((gg (aa.toInt.toNat + 3)) &&& (255 : Int32))), .unset, .unset] []))
        refine Runs.by (fun _ hr => XS.iconst X35.here hx rfl (hb hby at_252) hr) ?_
        show Runs p e below _ (T35.setTop (mkF m 253 #[.val (.int p0), .val (.int p1), .val (.int p2), .val (.int cc), .val (.int aa), .val (.int (p2.toInt8.toInt32)), .val (.ref b1), .val (.int (aa + own_n cc)), .val (.int (own_n cc)), .val (.int ((gg aa.toInt.toNat) &&& (255 : Int32))), .val (.int ((gg (aa.toInt.toNat + 1)) &&& (255 : Int32))), .val (.int ((gg (aa.toInt.toNat + 2)) &&& (255 : Int32))), .val (.int ((gg (aa.toInt.toNat + 3)) &&& (255 : Int32))), .unset, .unset] [(.int (1 : Int32))]))
        refine Runs.by (fun _ hr => XS.goto X35.here hx rfl (pc0 := 253) (pc' := 257) rfl (hb hby at_253) (by decide) (by decide) hr) ?_
        show Runs p e below _ (T35.setTop (mkF m 257 #[.val (.int p0), .val (.int p1), .val (.int p2), .val (.int cc), .val (.int aa), .val (.int (p2.toInt8.toInt32)), .val (.ref b1), .val (.int (aa + own_n cc)), .val (.int (own_n cc)), .val (.int ((gg aa.toInt.toNat) &&& (255 : Int32))), .val (.int ((gg (aa.toInt.toNat + 1)) &&& (255 : Int32))), .val (.int ((gg (aa.toInt.toNat + 2)) &&& (255 : Int32))), .val (.int ((gg (aa.toInt.toNat + 3)) &&& (255 : Int32))), .unset, .unset] [(.int (1 : Int32))]))
        refine Runs.by (fun _ hr => XS.istore X35.here hx rfl (hb hby at_257) rfl (l' := #[.val (.int p0), .val (.int p1), .val (.int p2), .val (.int cc), .val (.int aa), .val (.int (p2.toInt8.toInt32)), .val (.ref b1), .val (.int (aa + own_n cc)), .val (.int (own_n cc)), .val (.int ((gg aa.toInt.toNat) &&& (255 : Int32))), .val (.int ((gg (aa.toInt.toNat + 1)) &&& (255 : Int32))), .val (.int ((gg (aa.toInt.toNat + 2)) &&& (255 : Int32))), .val (.int ((gg (aa.toInt.toNat + 3)) &&& (255 : Int32))), .val (.int (1 : Int32)), .unset]) rfl hr) ?_
        show Runs p e below _ (T35.setTop (mkF m 259 #[.val (.int p0), .val (.int p1), .val (.int p2), .val (.int cc), .val (.int aa), .val (.int (p2.toInt8.toInt32)), .val (.ref b1), .val (.int (aa + own_n cc)), .val (.int (own_n cc)), .val (.int ((gg aa.toInt.toNat) &&& (255 : Int32))), .val (.int ((gg (aa.toInt.toNat + 1)) &&& (255 : Int32))), .val (.int ((gg (aa.toInt.toNat + 2)) &&& (255 : Int32))), .val (.int ((gg (aa.toInt.toNat + 3)) &&& (255 : Int32))), .val (.int (1 : Int32)), .unset] []))
        refine Runs.by (fun _ hr => XS.goto X35.here hx rfl (pc0 := 259) (pc' := 412) rfl (hb hby at_259) (by decide) (by decide) hr) ?_
        exact J412  _ _ X35 eq35 N35 
      · -- pc 211: not (own_n cc) = (2 : Int32)
        refine Runs.by (fun _ hr => XS.icmpYes XJ21.here hx rfl (pc0 := 211) (pc' := 262) rfl (hb hby at_211) rfl (feq hc211).2 (by decide) (by decide) hr) ?_
        show Runs p e below _ (TJ21.setTop (mkF m 262 #[.val (.int p0), .val (.int p1), .val (.int p2), .val (.int cc), .val (.int aa), .val (.int (p2.toInt8.toInt32)), .val (.ref b1), .val (.int (aa + own_n cc)), .val (.int (own_n cc)), .val (.int ((gg aa.toInt.toNat) &&& (255 : Int32))), .val (.int ((gg (aa.toInt.toNat + 1)) &&& (255 : Int32))), .val (.int ((gg (aa.toInt.toNat + 2)) &&& (255 : Int32))), .val (.int ((gg (aa.toInt.toNat + 3)) &&& (255 : Int32))), .unset, .unset] []))
        refine Runs.by (fun _ hr => XS.iload XJ21.here hx rfl (hb hby at_262) rfl  hr) ?_
        show Runs p e below _ (TJ21.setTop (mkF m 264 #[.val (.int p0), .val (.int p1), .val (.int p2), .val (.int cc), .val (.int aa), .val (.int (p2.toInt8.toInt32)), .val (.ref b1), .val (.int (aa + own_n cc)), .val (.int (own_n cc)), .val (.int ((gg aa.toInt.toNat) &&& (255 : Int32))), .val (.int ((gg (aa.toInt.toNat + 1)) &&& (255 : Int32))), .val (.int ((gg (aa.toInt.toNat + 2)) &&& (255 : Int32))), .val (.int ((gg (aa.toInt.toNat + 3)) &&& (255 : Int32))), .unset, .unset] [(.int (own_n cc))]))
        refine Runs.by (fun _ hr => XS.iconst XJ21.here hx rfl (hb hby at_264) hr) ?_
        show Runs p e below _ (TJ21.setTop (mkF m 265 #[.val (.int p0), .val (.int p1), .val (.int p2), .val (.int cc), .val (.int aa), .val (.int (p2.toInt8.toInt32)), .val (.ref b1), .val (.int (aa + own_n cc)), .val (.int (own_n cc)), .val (.int ((gg aa.toInt.toNat) &&& (255 : Int32))), .val (.int ((gg (aa.toInt.toNat + 1)) &&& (255 : Int32))), .val (.int ((gg (aa.toInt.toNat + 2)) &&& (255 : Int32))), .val (.int ((gg (aa.toInt.toNat + 3)) &&& (255 : Int32))), .unset, .unset] [(.int (3 : Int32)), (.int (own_n cc))]))
        by_cases hc265 : (own_n cc) = (3 : Int32)
        · -- pc 265: (own_n cc) = (3 : Int32)
          refine Runs.by (fun _ hr => XS.icmpNo XJ21.here hx rfl (hb hby at_265) rfl (teq hc265).2 hr) ?_
          show Runs p e below _ (TJ21.setTop (mkF m 268 #[.val (.int p0), .val (.int p1), .val (.int p2), .val (.int cc), .val (.int aa), .val (.int (p2.toInt8.toInt32)), .val (.ref b1), .val (.int (aa + own_n cc)), .val (.int (own_n cc)), .val (.int ((gg aa.toInt.toNat) &&& (255 : Int32))), .val (.int ((gg (aa.toInt.toNat + 1)) &&& (255 : Int32))), .val (.int ((gg (aa.toInt.toNat + 2)) &&& (255 : Int32))), .val (.int ((gg (aa.toInt.toNat + 3)) &&& (255 : Int32))), .unset, .unset] []))
          refine Runs.by (fun _ hr => XS.iload XJ21.here hx rfl (hb hby at_268) rfl  hr) ?_
          show Runs p e below _ (TJ21.setTop (mkF m 270 #[.val (.int p0), .val (.int p1), .val (.int p2), .val (.int cc), .val (.int aa), .val (.int (p2.toInt8.toInt32)), .val (.ref b1), .val (.int (aa + own_n cc)), .val (.int (own_n cc)), .val (.int ((gg aa.toInt.toNat) &&& (255 : Int32))), .val (.int ((gg (aa.toInt.toNat + 1)) &&& (255 : Int32))), .val (.int ((gg (aa.toInt.toNat + 2)) &&& (255 : Int32))), .val (.int ((gg (aa.toInt.toNat + 3)) &&& (255 : Int32))), .unset, .unset] [(.int ((gg aa.toInt.toNat) &&& (255 : Int32)))]))
          refine Runs.by (fun _ hr => XS.sipush XJ21.here hx rfl (hb hby at_270) hr) ?_
          show Runs p e below _ (TJ21.setTop (mkF m 273 #[.val (.int p0), .val (.int p1), .val (.int p2), .val (.int cc), .val (.int aa), .val (.int (p2.toInt8.toInt32)), .val (.ref b1), .val (.int (aa + own_n cc)), .val (.int (own_n cc)), .val (.int ((gg aa.toInt.toNat) &&& (255 : Int32))), .val (.int ((gg (aa.toInt.toNat + 1)) &&& (255 : Int32))), .val (.int ((gg (aa.toInt.toNat + 2)) &&& (255 : Int32))), .val (.int ((gg (aa.toInt.toNat + 3)) &&& (255 : Int32))), .unset, .unset] [(.int (240 : Int32)), (.int ((gg aa.toInt.toNat) &&& (255 : Int32)))]))
          refine Runs.by (fun _ hr => XS.iand XJ21.here hx rfl (hb hby at_273) rfl hr) ?_
          show Runs p e below _ (TJ21.setTop (mkF m 274 #[.val (.int p0), .val (.int p1), .val (.int p2), .val (.int cc), .val (.int aa), .val (.int (p2.toInt8.toInt32)), .val (.ref b1), .val (.int (aa + own_n cc)), .val (.int (own_n cc)), .val (.int ((gg aa.toInt.toNat) &&& (255 : Int32))), .val (.int ((gg (aa.toInt.toNat + 1)) &&& (255 : Int32))), .val (.int ((gg (aa.toInt.toNat + 2)) &&& (255 : Int32))), .val (.int ((gg (aa.toInt.toNat + 3)) &&& (255 : Int32))), .unset, .unset] [(.int (((gg aa.toInt.toNat) &&& (255 : Int32)) &&& (240 : Int32)))]))
          refine Runs.by (fun _ hr => XS.sipush XJ21.here hx rfl (hb hby at_274) hr) ?_
          show Runs p e below _ (TJ21.setTop (mkF m 277 #[.val (.int p0), .val (.int p1), .val (.int p2), .val (.int cc), .val (.int aa), .val (.int (p2.toInt8.toInt32)), .val (.ref b1), .val (.int (aa + own_n cc)), .val (.int (own_n cc)), .val (.int ((gg aa.toInt.toNat) &&& (255 : Int32))), .val (.int ((gg (aa.toInt.toNat + 1)) &&& (255 : Int32))), .val (.int ((gg (aa.toInt.toNat + 2)) &&& (255 : Int32))), .val (.int ((gg (aa.toInt.toNat + 3)) &&& (255 : Int32))), .unset, .unset] [(.int (224 : Int32)), (.int (((gg aa.toInt.toNat) &&& (255 : Int32)) &&& (240 : Int32)))]))
          have hc277 : (((gg aa.toInt.toNat) &&& (255 : Int32)) &&& (240 : Int32)) = (224 : Int32) := (own_d3 hgg hcp hc265).1
          refine Runs.by (fun _ hr => XS.icmpNo XJ21.here hx rfl (hb hby at_277) rfl (teq hc277).2 hr) ?_
          show Runs p e below _ (TJ21.setTop (mkF m 280 #[.val (.int p0), .val (.int p1), .val (.int p2), .val (.int cc), .val (.int aa), .val (.int (p2.toInt8.toInt32)), .val (.ref b1), .val (.int (aa + own_n cc)), .val (.int (own_n cc)), .val (.int ((gg aa.toInt.toNat) &&& (255 : Int32))), .val (.int ((gg (aa.toInt.toNat + 1)) &&& (255 : Int32))), .val (.int ((gg (aa.toInt.toNat + 2)) &&& (255 : Int32))), .val (.int ((gg (aa.toInt.toNat + 3)) &&& (255 : Int32))), .unset, .unset] []))
          refine Runs.by (fun _ hr => XS.iload XJ21.here hx rfl (hb hby at_280) rfl  hr) ?_
          show Runs p e below _ (TJ21.setTop (mkF m 282 #[.val (.int p0), .val (.int p1), .val (.int p2), .val (.int cc), .val (.int aa), .val (.int (p2.toInt8.toInt32)), .val (.ref b1), .val (.int (aa + own_n cc)), .val (.int (own_n cc)), .val (.int ((gg aa.toInt.toNat) &&& (255 : Int32))), .val (.int ((gg (aa.toInt.toNat + 1)) &&& (255 : Int32))), .val (.int ((gg (aa.toInt.toNat + 2)) &&& (255 : Int32))), .val (.int ((gg (aa.toInt.toNat + 3)) &&& (255 : Int32))), .unset, .unset] [(.int ((gg (aa.toInt.toNat + 1)) &&& (255 : Int32)))]))
          obtain ⟨_, _, ⟨T36, L36, k36, n36⟩, -, X36, ⟨Lc36, hQ36, l36, y36, z36⟩, st36⟩ := Jvm.LawKit.callS XJ21 hx (y := (⟨"com/example/usher/usher/Utf8ValidatorEncodePinLaw", "cont", "(I)Z"⟩ : MethodName)) hown (mvT hZ (hw _ (List.mem_of_getElem? (i := 11) rfl))) (mvT hZ (hw _ (List.mem_of_getElem? (i := 12) rfl))) (mvT hZ (hw _ (List.mem_of_getElem? (i := 9) rfl))) (mvT hZ (hw _ (List.mem_of_getElem? (i := 13) rfl))) (by decide) (backOf (W := 0) (rm3 l Z a0 hw [] ((gg (aa.toInt.toNat + 1)) &&& (255 : Int32))  T19.heap n0 (Nat.le_trans Z0 K20.1) (own_d3 hgg hcp hc265).2.1) hZ (hw _ (List.mem_of_getElem? (i := 13) rfl)) (hw _ (List.mem_of_getElem? (i := 9) rfl)) (by decide) (by decide)) (g := (mkF m 282 #[.val (.int p0), .val (.int p1), .val (.int p2), .val (.int cc), .val (.int aa), .val (.int (p2.toInt8.toInt32)), .val (.ref b1), .val (.int (aa + own_n cc)), .val (.int (own_n cc)), .val (.int ((gg aa.toInt.toNat) &&& (255 : Int32))), .val (.int ((gg (aa.toInt.toNat + 1)) &&& (255 : Int32))), .val (.int ((gg (aa.toInt.toNat + 2)) &&& (255 : Int32))), .val (.int ((gg (aa.toInt.toNat + 3)) &&& (255 : Int32))), .unset, .unset] [(.int ((gg (aa.toInt.toNat + 1)) &&& (255 : Int32)))])) rfl (by rw [hml]; rfl) (argsL := [(.int ((gg (aa.toInt.toNat + 1)) &&& (255 : Int32)))]) (rest := []) (lenOf pd_2 rfl) rfl (by show 2 * 0 + _ ≤ _; exact Nat.le_of_eq rfl) (hb hby at_282) (fun _ _ => ⟨rfl, eJ21, (by decide : 1 + 0 ≤ _), (by decide : 8 + 0 ≤ _)⟩)
          dsimp only [Pt.U, Pt.locs, Pt.cells, Pt.slots] at X36 l36 y36 z36 st36 hQ36
          subst l36 y36 z36
          obtain ⟨rfl, Nq36, eq36⟩ := hQ36
          have N36 := Fr.app NJ21 Nq36
          refine Runs.by (fun t hr => st36 t hr) ?_
          show Runs p e below _ (T36.setTop (mkF m 285 #[.val (.int p0), .val (.int p1), .val (.int p2), .val (.int cc), .val (.int aa), .val (.int (p2.toInt8.toInt32)), .val (.ref b1), .val (.int (aa + own_n cc)), .val (.int (own_n cc)), .val (.int ((gg aa.toInt.toNat) &&& (255 : Int32))), .val (.int ((gg (aa.toInt.toNat + 1)) &&& (255 : Int32))), .val (.int ((gg (aa.toInt.toNat + 2)) &&& (255 : Int32))), .val (.int ((gg (aa.toInt.toNat + 3)) &&& (255 : Int32))), .unset, .unset] [(.int (1 : Int32))]))
          have hc285 : ¬ ((1 : Int32) = (0 : Int32)) := (by decide)
          refine Runs.by (fun _ hr => XS.ifNo X36.here hx rfl (hb hby at_285) rfl ((if0 _ _).trans (feq hc285).1) hr) ?_
          show Runs p e below _ (T36.setTop (mkF m 288 #[.val (.int p0), .val (.int p1), .val (.int p2), .val (.int cc), .val (.int aa), .val (.int (p2.toInt8.toInt32)), .val (.ref b1), .val (.int (aa + own_n cc)), .val (.int (own_n cc)), .val (.int ((gg aa.toInt.toNat) &&& (255 : Int32))), .val (.int ((gg (aa.toInt.toNat + 1)) &&& (255 : Int32))), .val (.int ((gg (aa.toInt.toNat + 2)) &&& (255 : Int32))), .val (.int ((gg (aa.toInt.toNat + 3)) &&& (255 : Int32))), .unset, .unset] []))
          refine Runs.by (fun _ hr => XS.iload X36.here hx rfl (hb hby at_288) rfl  hr) ?_
          show Runs p e below _ (T36.setTop (mkF m 290 #[.val (.int p0), .val (.int p1), .val (.int p2), .val (.int cc), .val (.int aa), .val (.int (p2.toInt8.toInt32)), .val (.ref b1), .val (.int (aa + own_n cc)), .val (.int (own_n cc)), .val (.int ((gg aa.toInt.toNat) &&& (255 : Int32))), .val (.int ((gg (aa.toInt.toNat + 1)) &&& (255 : Int32))), .val (.int ((gg (aa.toInt.toNat + 2)) &&& (255 : Int32))), .val (.int ((gg (aa.toInt.toNat + 3)) &&& (255 : Int32))), .unset, .unset] [(.int ((gg (aa.toInt.toNat + 2)) &&& (255 : Int32)))]))
          obtain ⟨_, _, ⟨T37, L37, k37, n37⟩, -, X37, ⟨Lc37, hQ37, l37, y37, z37⟩, st37⟩ := Jvm.LawKit.callS X36 hx (y := (⟨"com/example/usher/usher/Utf8ValidatorEncodePinLaw", "cont", "(I)Z"⟩ : MethodName)) hown (mvT hZ (hw _ (List.mem_of_getElem? (i := 11) rfl))) (mvT hZ (hw _ (List.mem_of_getElem? (i := 12) rfl))) (mvT hZ (hw _ (List.mem_of_getElem? (i := 9) rfl))) (mvT hZ (hw _ (List.mem_of_getElem? (i := 13) rfl))) (by decide) (backOf (W := 0) (rm3 l Z a0 hw [] ((gg (aa.toInt.toNat + 2)) &&& (255 : Int32))  T19.heap n0 (Nat.le_trans Z0 K20.1) (own_d3 hgg hcp hc265).2.2.1) hZ (hw _ (List.mem_of_getElem? (i := 13) rfl)) (hw _ (List.mem_of_getElem? (i := 9) rfl)) (by decide) (by decide)) (g := (mkF m 290 #[.val (.int p0), .val (.int p1), .val (.int p2), .val (.int cc), .val (.int aa), .val (.int (p2.toInt8.toInt32)), .val (.ref b1), .val (.int (aa + own_n cc)), .val (.int (own_n cc)), .val (.int ((gg aa.toInt.toNat) &&& (255 : Int32))), .val (.int ((gg (aa.toInt.toNat + 1)) &&& (255 : Int32))), .val (.int ((gg (aa.toInt.toNat + 2)) &&& (255 : Int32))), .val (.int ((gg (aa.toInt.toNat + 3)) &&& (255 : Int32))), .unset, .unset] [(.int ((gg (aa.toInt.toNat + 2)) &&& (255 : Int32)))])) rfl (by rw [hml]; rfl) (argsL := [(.int ((gg (aa.toInt.toNat + 2)) &&& (255 : Int32)))]) (rest := []) (lenOf pd_2 rfl) rfl (by show 2 * 0 + _ ≤ _; exact Nat.le_of_eq rfl) (hb hby at_290) (fun _ _ => ⟨rfl, eq36, (by decide : 1 + 0 ≤ _), (by decide : 8 + 0 ≤ _)⟩)
          dsimp only [Pt.U, Pt.locs, Pt.cells, Pt.slots] at X37 l37 y37 z37 st37 hQ37
          subst l37 y37 z37
          obtain ⟨rfl, Nq37, eq37⟩ := hQ37
          have N37 := Fr.app N36 Nq37
          refine Runs.by (fun t hr => st37 t hr) ?_
          show Runs p e below _ (T37.setTop (mkF m 293 #[.val (.int p0), .val (.int p1), .val (.int p2), .val (.int cc), .val (.int aa), .val (.int (p2.toInt8.toInt32)), .val (.ref b1), .val (.int (aa + own_n cc)), .val (.int (own_n cc)), .val (.int ((gg aa.toInt.toNat) &&& (255 : Int32))), .val (.int ((gg (aa.toInt.toNat + 1)) &&& (255 : Int32))), .val (.int ((gg (aa.toInt.toNat + 2)) &&& (255 : Int32))), .val (.int ((gg (aa.toInt.toNat + 3)) &&& (255 : Int32))), .unset, .unset] [(.int (1 : Int32))]))
          have hc293 : ¬ ((1 : Int32) = (0 : Int32)) := (by decide)
          refine Runs.by (fun _ hr => XS.ifNo X37.here hx rfl (hb hby at_293) rfl ((if0 _ _).trans (feq hc293).1) hr) ?_
          show Runs p e below _ (T37.setTop (mkF m 296 #[.val (.int p0), .val (.int p1), .val (.int p2), .val (.int cc), .val (.int aa), .val (.int (p2.toInt8.toInt32)), .val (.ref b1), .val (.int (aa + own_n cc)), .val (.int (own_n cc)), .val (.int ((gg aa.toInt.toNat) &&& (255 : Int32))), .val (.int ((gg (aa.toInt.toNat + 1)) &&& (255 : Int32))), .val (.int ((gg (aa.toInt.toNat + 2)) &&& (255 : Int32))), .val (.int ((gg (aa.toInt.toNat + 3)) &&& (255 : Int32))), .unset, .unset] []))
          refine Runs.by (fun _ hr => XS.iload X37.here hx rfl (hb hby at_296) rfl  hr) ?_
          show Runs p e below _ (T37.setTop (mkF m 298 #[.val (.int p0), .val (.int p1), .val (.int p2), .val (.int cc), .val (.int aa), .val (.int (p2.toInt8.toInt32)), .val (.ref b1), .val (.int (aa + own_n cc)), .val (.int (own_n cc)), .val (.int ((gg aa.toInt.toNat) &&& (255 : Int32))), .val (.int ((gg (aa.toInt.toNat + 1)) &&& (255 : Int32))), .val (.int ((gg (aa.toInt.toNat + 2)) &&& (255 : Int32))), .val (.int ((gg (aa.toInt.toNat + 3)) &&& (255 : Int32))), .unset, .unset] [(.int ((gg aa.toInt.toNat) &&& (255 : Int32)))]))
          refine Runs.by (fun _ hr => XS.bipush X37.here hx rfl (hb hby at_298) hr) ?_
          show Runs p e below _ (T37.setTop (mkF m 300 #[.val (.int p0), .val (.int p1), .val (.int p2), .val (.int cc), .val (.int aa), .val (.int (p2.toInt8.toInt32)), .val (.ref b1), .val (.int (aa + own_n cc)), .val (.int (own_n cc)), .val (.int ((gg aa.toInt.toNat) &&& (255 : Int32))), .val (.int ((gg (aa.toInt.toNat + 1)) &&& (255 : Int32))), .val (.int ((gg (aa.toInt.toNat + 2)) &&& (255 : Int32))), .val (.int ((gg (aa.toInt.toNat + 3)) &&& (255 : Int32))), .unset, .unset] [(.int (15 : Int32)), (.int ((gg aa.toInt.toNat) &&& (255 : Int32)))]))
          refine Runs.by (fun _ hr => XS.iand X37.here hx rfl (hb hby at_300) rfl hr) ?_
          show Runs p e below _ (T37.setTop (mkF m 301 #[.val (.int p0), .val (.int p1), .val (.int p2), .val (.int cc), .val (.int aa), .val (.int (p2.toInt8.toInt32)), .val (.ref b1), .val (.int (aa + own_n cc)), .val (.int (own_n cc)), .val (.int ((gg aa.toInt.toNat) &&& (255 : Int32))), .val (.int ((gg (aa.toInt.toNat + 1)) &&& (255 : Int32))), .val (.int ((gg (aa.toInt.toNat + 2)) &&& (255 : Int32))), .val (.int ((gg (aa.toInt.toNat + 3)) &&& (255 : Int32))), .unset, .unset] [(.int (((gg aa.toInt.toNat) &&& (255 : Int32)) &&& (15 : Int32)))]))
          refine Runs.by (fun _ hr => XS.bipush X37.here hx rfl (hb hby at_301) hr) ?_
          show Runs p e below _ (T37.setTop (mkF m 303 #[.val (.int p0), .val (.int p1), .val (.int p2), .val (.int cc), .val (.int aa), .val (.int (p2.toInt8.toInt32)), .val (.ref b1), .val (.int (aa + own_n cc)), .val (.int (own_n cc)), .val (.int ((gg aa.toInt.toNat) &&& (255 : Int32))), .val (.int ((gg (aa.toInt.toNat + 1)) &&& (255 : Int32))), .val (.int ((gg (aa.toInt.toNat + 2)) &&& (255 : Int32))), .val (.int ((gg (aa.toInt.toNat + 3)) &&& (255 : Int32))), .unset, .unset] [(.int (12 : Int32)), (.int (((gg aa.toInt.toNat) &&& (255 : Int32)) &&& (15 : Int32)))]))
          refine Runs.by (fun _ hr => XS.ishl X37.here hx rfl (hb hby at_303) rfl hr) ?_
          show Runs p e below _ (T37.setTop (mkF m 304 #[.val (.int p0), .val (.int p1), .val (.int p2), .val (.int cc), .val (.int aa), .val (.int (p2.toInt8.toInt32)), .val (.ref b1), .val (.int (aa + own_n cc)), .val (.int (own_n cc)), .val (.int ((gg aa.toInt.toNat) &&& (255 : Int32))), .val (.int ((gg (aa.toInt.toNat + 1)) &&& (255 : Int32))), .val (.int ((gg (aa.toInt.toNat + 2)) &&& (255 : Int32))), .val (.int ((gg (aa.toInt.toNat + 3)) &&& (255 : Int32))), .unset, .unset] [(.int ((((gg aa.toInt.toNat) &&& (255 : Int32)) &&& (15 : Int32)) <<< ((12 : Int32) &&& 31)))]))
          refine Runs.by (fun _ hr => XS.iload X37.here hx rfl (hb hby at_304) rfl  hr) ?_
          show Runs p e below _ (T37.setTop (mkF m 306 #[.val (.int p0), .val (.int p1), .val (.int p2), .val (.int cc), .val (.int aa), .val (.int (p2.toInt8.toInt32)), .val (.ref b1), .val (.int (aa + own_n cc)), .val (.int (own_n cc)), .val (.int ((gg aa.toInt.toNat) &&& (255 : Int32))), .val (.int ((gg (aa.toInt.toNat + 1)) &&& (255 : Int32))), .val (.int ((gg (aa.toInt.toNat + 2)) &&& (255 : Int32))), .val (.int ((gg (aa.toInt.toNat + 3)) &&& (255 : Int32))), .unset, .unset] [(.int ((gg (aa.toInt.toNat + 1)) &&& (255 : Int32))), (.int ((((gg aa.toInt.toNat) &&& (255 : Int32)) &&& (15 : Int32)) <<< ((12 : Int32) &&& 31)))]))
          refine Runs.by (fun _ hr => XS.bipush X37.here hx rfl (hb hby at_306) hr) ?_
          show Runs p e below _ (T37.setTop (mkF m 308 #[.val (.int p0), .val (.int p1), .val (.int p2), .val (.int cc), .val (.int aa), .val (.int (p2.toInt8.toInt32)), .val (.ref b1), .val (.int (aa + own_n cc)), .val (.int (own_n cc)), .val (.int ((gg aa.toInt.toNat) &&& (255 : Int32))), .val (.int ((gg (aa.toInt.toNat + 1)) &&& (255 : Int32))), .val (.int ((gg (aa.toInt.toNat + 2)) &&& (255 : Int32))), .val (.int ((gg (aa.toInt.toNat + 3)) &&& (255 : Int32))), .unset, .unset] [(.int (63 : Int32)), (.int ((gg (aa.toInt.toNat + 1)) &&& (255 : Int32))), (.int ((((gg aa.toInt.toNat) &&& (255 : Int32)) &&& (15 : Int32)) <<< ((12 : Int32) &&& 31)))]))
          refine Runs.by (fun _ hr => XS.iand X37.here hx rfl (hb hby at_308) rfl hr) ?_
          show Runs p e below _ (T37.setTop (mkF m 309 #[.val (.int p0), .val (.int p1), .val (.int p2), .val (.int cc), .val (.int aa), .val (.int (p2.toInt8.toInt32)), .val (.ref b1), .val (.int (aa + own_n cc)), .val (.int (own_n cc)), .val (.int ((gg aa.toInt.toNat) &&& (255 : Int32))), .val (.int ((gg (aa.toInt.toNat + 1)) &&& (255 : Int32))), .val (.int ((gg (aa.toInt.toNat + 2)) &&& (255 : Int32))), .val (.int ((gg (aa.toInt.toNat + 3)) &&& (255 : Int32))), .unset, .unset] [(.int (((gg (aa.toInt.toNat + 1)) &&& (255 : Int32)) &&& (63 : Int32))), (.int ((((gg aa.toInt.toNat) &&& (255 : Int32)) &&& (15 : Int32)) <<< ((12 : Int32) &&& 31)))]))
          refine Runs.by (fun _ hr => XS.bipush X37.here hx rfl (hb hby at_309) hr) ?_
          show Runs p e below _ (T37.setTop (mkF m 311 #[.val (.int p0), .val (.int p1), .val (.int p2), .val (.int cc), .val (.int aa), .val (.int (p2.toInt8.toInt32)), .val (.ref b1), .val (.int (aa + own_n cc)), .val (.int (own_n cc)), .val (.int ((gg aa.toInt.toNat) &&& (255 : Int32))), .val (.int ((gg (aa.toInt.toNat + 1)) &&& (255 : Int32))), .val (.int ((gg (aa.toInt.toNat + 2)) &&& (255 : Int32))), .val (.int ((gg (aa.toInt.toNat + 3)) &&& (255 : Int32))), .unset, .unset] [(.int (6 : Int32)), (.int (((gg (aa.toInt.toNat + 1)) &&& (255 : Int32)) &&& (63 : Int32))), (.int ((((gg aa.toInt.toNat) &&& (255 : Int32)) &&& (15 : Int32)) <<< ((12 : Int32) &&& 31)))]))
          refine Runs.by (fun _ hr => XS.ishl X37.here hx rfl (hb hby at_311) rfl hr) ?_
          show Runs p e below _ (T37.setTop (mkF m 312 #[.val (.int p0), .val (.int p1), .val (.int p2), .val (.int cc), .val (.int aa), .val (.int (p2.toInt8.toInt32)), .val (.ref b1), .val (.int (aa + own_n cc)), .val (.int (own_n cc)), .val (.int ((gg aa.toInt.toNat) &&& (255 : Int32))), .val (.int ((gg (aa.toInt.toNat + 1)) &&& (255 : Int32))), .val (.int ((gg (aa.toInt.toNat + 2)) &&& (255 : Int32))), .val (.int ((gg (aa.toInt.toNat + 3)) &&& (255 : Int32))), .unset, .unset] [(.int ((((gg (aa.toInt.toNat + 1)) &&& (255 : Int32)) &&& (63 : Int32)) <<< ((6 : Int32) &&& 31))), (.int ((((gg aa.toInt.toNat) &&& (255 : Int32)) &&& (15 : Int32)) <<< ((12 : Int32) &&& 31)))]))
          refine Runs.by (fun _ hr => XS.ior X37.here hx rfl (hb hby at_312) rfl hr) ?_
          show Runs p e below _ (T37.setTop (mkF m 313 #[.val (.int p0), .val (.int p1), .val (.int p2), .val (.int cc), .val (.int aa), .val (.int (p2.toInt8.toInt32)), .val (.ref b1), .val (.int (aa + own_n cc)), .val (.int (own_n cc)), .val (.int ((gg aa.toInt.toNat) &&& (255 : Int32))), .val (.int ((gg (aa.toInt.toNat + 1)) &&& (255 : Int32))), .val (.int ((gg (aa.toInt.toNat + 2)) &&& (255 : Int32))), .val (.int ((gg (aa.toInt.toNat + 3)) &&& (255 : Int32))), .unset, .unset] [(.int (((((gg aa.toInt.toNat) &&& (255 : Int32)) &&& (15 : Int32)) <<< ((12 : Int32) &&& 31)) ||| ((((gg (aa.toInt.toNat + 1)) &&& (255 : Int32)) &&& (63 : Int32)) <<< ((6 : Int32) &&& 31))))]))
          refine Runs.by (fun _ hr => XS.iload X37.here hx rfl (hb hby at_313) rfl  hr) ?_
          show Runs p e below _ (T37.setTop (mkF m 315 #[.val (.int p0), .val (.int p1), .val (.int p2), .val (.int cc), .val (.int aa), .val (.int (p2.toInt8.toInt32)), .val (.ref b1), .val (.int (aa + own_n cc)), .val (.int (own_n cc)), .val (.int ((gg aa.toInt.toNat) &&& (255 : Int32))), .val (.int ((gg (aa.toInt.toNat + 1)) &&& (255 : Int32))), .val (.int ((gg (aa.toInt.toNat + 2)) &&& (255 : Int32))), .val (.int ((gg (aa.toInt.toNat + 3)) &&& (255 : Int32))), .unset, .unset] [(.int ((gg (aa.toInt.toNat + 2)) &&& (255 : Int32))), (.int (((((gg aa.toInt.toNat) &&& (255 : Int32)) &&& (15 : Int32)) <<< ((12 : Int32) &&& 31)) ||| ((((gg (aa.toInt.toNat + 1)) &&& (255 : Int32)) &&& (63 : Int32)) <<< ((6 : Int32) &&& 31))))]))
          refine Runs.by (fun _ hr => XS.bipush X37.here hx rfl (hb hby at_315) hr) ?_
          show Runs p e below _ (T37.setTop (mkF m 317 #[.val (.int p0), .val (.int p1), .val (.int p2), .val (.int cc), .val (.int aa), .val (.int (p2.toInt8.toInt32)), .val (.ref b1), .val (.int (aa + own_n cc)), .val (.int (own_n cc)), .val (.int ((gg aa.toInt.toNat) &&& (255 : Int32))), .val (.int ((gg (aa.toInt.toNat + 1)) &&& (255 : Int32))), .val (.int ((gg (aa.toInt.toNat + 2)) &&& (255 : Int32))), .val (.int ((gg (aa.toInt.toNat + 3)) &&& (255 : Int32))), .unset, .unset] [(.int (63 : Int32)), (.int ((gg (aa.toInt.toNat + 2)) &&& (255 : Int32))), (.int (((((gg aa.toInt.toNat) &&& (255 : Int32)) &&& (15 : Int32)) <<< ((12 : Int32) &&& 31)) ||| ((((gg (aa.toInt.toNat + 1)) &&& (255 : Int32)) &&& (63 : Int32)) <<< ((6 : Int32) &&& 31))))]))
          refine Runs.by (fun _ hr => XS.iand X37.here hx rfl (hb hby at_317) rfl hr) ?_
          show Runs p e below _ (T37.setTop (mkF m 318 #[.val (.int p0), .val (.int p1), .val (.int p2), .val (.int cc), .val (.int aa), .val (.int (p2.toInt8.toInt32)), .val (.ref b1), .val (.int (aa + own_n cc)), .val (.int (own_n cc)), .val (.int ((gg aa.toInt.toNat) &&& (255 : Int32))), .val (.int ((gg (aa.toInt.toNat + 1)) &&& (255 : Int32))), .val (.int ((gg (aa.toInt.toNat + 2)) &&& (255 : Int32))), .val (.int ((gg (aa.toInt.toNat + 3)) &&& (255 : Int32))), .unset, .unset] [(.int (((gg (aa.toInt.toNat + 2)) &&& (255 : Int32)) &&& (63 : Int32))), (.int (((((gg aa.toInt.toNat) &&& (255 : Int32)) &&& (15 : Int32)) <<< ((12 : Int32) &&& 31)) ||| ((((gg (aa.toInt.toNat + 1)) &&& (255 : Int32)) &&& (63 : Int32)) <<< ((6 : Int32) &&& 31))))]))
          refine Runs.by (fun _ hr => XS.ior X37.here hx rfl (hb hby at_318) rfl hr) ?_
          show Runs p e below _ (T37.setTop (mkF m 319 #[.val (.int p0), .val (.int p1), .val (.int p2), .val (.int cc), .val (.int aa), .val (.int (p2.toInt8.toInt32)), .val (.ref b1), .val (.int (aa + own_n cc)), .val (.int (own_n cc)), .val (.int ((gg aa.toInt.toNat) &&& (255 : Int32))), .val (.int ((gg (aa.toInt.toNat + 1)) &&& (255 : Int32))), .val (.int ((gg (aa.toInt.toNat + 2)) &&& (255 : Int32))), .val (.int ((gg (aa.toInt.toNat + 3)) &&& (255 : Int32))), .unset, .unset] [(.int ((((((gg aa.toInt.toNat) &&& (255 : Int32)) &&& (15 : Int32)) <<< ((12 : Int32) &&& 31)) ||| ((((gg (aa.toInt.toNat + 1)) &&& (255 : Int32)) &&& (63 : Int32)) <<< ((6 : Int32) &&& 31))) ||| (((gg (aa.toInt.toNat + 2)) &&& (255 : Int32)) &&& (63 : Int32))))]))
          refine Runs.by (fun _ hr => XS.iloadN X37.here hx rfl (hb hby at_319) rfl  hr) ?_
          show Runs p e below _ (T37.setTop (mkF m 320 #[.val (.int p0), .val (.int p1), .val (.int p2), .val (.int cc), .val (.int aa), .val (.int (p2.toInt8.toInt32)), .val (.ref b1), .val (.int (aa + own_n cc)), .val (.int (own_n cc)), .val (.int ((gg aa.toInt.toNat) &&& (255 : Int32))), .val (.int ((gg (aa.toInt.toNat + 1)) &&& (255 : Int32))), .val (.int ((gg (aa.toInt.toNat + 2)) &&& (255 : Int32))), .val (.int ((gg (aa.toInt.toNat + 3)) &&& (255 : Int32))), .unset, .unset] [(.int cc), (.int ((((((gg aa.toInt.toNat) &&& (255 : Int32)) &&& (15 : Int32)) <<< ((12 : Int32) &&& 31)) ||| ((((gg (aa.toInt.toNat + 1)) &&& (255 : Int32)) &&& (63 : Int32)) <<< ((6 : Int32) &&& 31))) ||| (((gg (aa.toInt.toNat + 2)) &&& (255 : Int32)) &&& (63 : Int32))))]))
          have hc320 : ((((((gg aa.toInt.toNat) &&& (255 : Int32)) &&& (15 : Int32)) <<< ((12 : Int32) &&& 31)) ||| ((((gg (aa.toInt.toNat + 1)) &&& (255 : Int32)) &&& (63 : Int32)) <<< ((6 : Int32) &&& 31))) ||| (((gg (aa.toInt.toNat + 2)) &&& (255 : Int32)) &&& (63 : Int32))) = cc := (own_d3 hgg hcp hc265).2.2.2
          refine Runs.by (fun _ hr => XS.icmpNo X37.here hx rfl (hb hby at_320) rfl (teq hc320).2 hr) ?_
          show Runs p e below _ (T37.setTop (mkF m 323 #[.val (.int p0), .val (.int p1), .val (.int p2), .val (.int cc), .val (.int aa), .val (.int (p2.toInt8.toInt32)), .val (.ref b1), .val (.int (aa + own_n cc)), .val (.int (own_n cc)), .val (.int ((gg aa.toInt.toNat) &&& (255 : Int32))), .val (.int ((gg (aa.toInt.toNat + 1)) &&& (255 : Int32))), .val (.int ((gg (aa.toInt.toNat + 2)) &&& (255 : Int32))), .val (.int ((gg (aa.toInt.toNat + 3)) &&& (255 : Int32))), .unset, .unset] []))
          refine Runs.by (fun _ hr => XS.iconst X37.here hx rfl (hb hby at_323) hr) ?_
          show Runs p e below _ (T37.setTop (mkF m 324 #[.val (.int p0), .val (.int p1), .val (.int p2), .val (.int cc), .val (.int aa), .val (.int (p2.toInt8.toInt32)), .val (.ref b1), .val (.int (aa + own_n cc)), .val (.int (own_n cc)), .val (.int ((gg aa.toInt.toNat) &&& (255 : Int32))), .val (.int ((gg (aa.toInt.toNat + 1)) &&& (255 : Int32))), .val (.int ((gg (aa.toInt.toNat + 2)) &&& (255 : Int32))), .val (.int ((gg (aa.toInt.toNat + 3)) &&& (255 : Int32))), .unset, .unset] [(.int (1 : Int32))]))
          refine Runs.by (fun _ hr => XS.goto X37.here hx rfl (pc0 := 324) (pc' := 328) rfl (hb hby at_324) (by decide) (by decide) hr) ?_
          show Runs p e below _ (T37.setTop (mkF m 328 #[.val (.int p0), .val (.int p1), .val (.int p2), .val (.int cc), .val (.int aa), .val (.int (p2.toInt8.toInt32)), .val (.ref b1), .val (.int (aa + own_n cc)), .val (.int (own_n cc)), .val (.int ((gg aa.toInt.toNat) &&& (255 : Int32))), .val (.int ((gg (aa.toInt.toNat + 1)) &&& (255 : Int32))), .val (.int ((gg (aa.toInt.toNat + 2)) &&& (255 : Int32))), .val (.int ((gg (aa.toInt.toNat + 3)) &&& (255 : Int32))), .unset, .unset] [(.int (1 : Int32))]))
          refine Runs.by (fun _ hr => XS.istore X37.here hx rfl (hb hby at_328) rfl (l' := #[.val (.int p0), .val (.int p1), .val (.int p2), .val (.int cc), .val (.int aa), .val (.int (p2.toInt8.toInt32)), .val (.ref b1), .val (.int (aa + own_n cc)), .val (.int (own_n cc)), .val (.int ((gg aa.toInt.toNat) &&& (255 : Int32))), .val (.int ((gg (aa.toInt.toNat + 1)) &&& (255 : Int32))), .val (.int ((gg (aa.toInt.toNat + 2)) &&& (255 : Int32))), .val (.int ((gg (aa.toInt.toNat + 3)) &&& (255 : Int32))), .val (.int (1 : Int32)), .unset]) rfl hr) ?_
          show Runs p e below _ (T37.setTop (mkF m 330 #[.val (.int p0), .val (.int p1), .val (.int p2), .val (.int cc), .val (.int aa), .val (.int (p2.toInt8.toInt32)), .val (.ref b1), .val (.int (aa + own_n cc)), .val (.int (own_n cc)), .val (.int ((gg aa.toInt.toNat) &&& (255 : Int32))), .val (.int ((gg (aa.toInt.toNat + 1)) &&& (255 : Int32))), .val (.int ((gg (aa.toInt.toNat + 2)) &&& (255 : Int32))), .val (.int ((gg (aa.toInt.toNat + 3)) &&& (255 : Int32))), .val (.int (1 : Int32)), .unset] []))
          refine Runs.by (fun _ hr => XS.goto X37.here hx rfl (pc0 := 330) (pc' := 412) rfl (hb hby at_330) (by decide) (by decide) hr) ?_
          exact J412  _ _ X37 eq37 N37 
        · -- pc 265: not (own_n cc) = (3 : Int32)
          refine Runs.by (fun _ hr => XS.icmpYes XJ21.here hx rfl (pc0 := 265) (pc' := 333) rfl (hb hby at_265) rfl (feq hc265).2 (by decide) (by decide) hr) ?_
          show Runs p e below _ (TJ21.setTop (mkF m 333 #[.val (.int p0), .val (.int p1), .val (.int p2), .val (.int cc), .val (.int aa), .val (.int (p2.toInt8.toInt32)), .val (.ref b1), .val (.int (aa + own_n cc)), .val (.int (own_n cc)), .val (.int ((gg aa.toInt.toNat) &&& (255 : Int32))), .val (.int ((gg (aa.toInt.toNat + 1)) &&& (255 : Int32))), .val (.int ((gg (aa.toInt.toNat + 2)) &&& (255 : Int32))), .val (.int ((gg (aa.toInt.toNat + 3)) &&& (255 : Int32))), .unset, .unset] []))
          refine Runs.by (fun _ hr => XS.iload XJ21.here hx rfl (hb hby at_333) rfl  hr) ?_
          show Runs p e below _ (TJ21.setTop (mkF m 335 #[.val (.int p0), .val (.int p1), .val (.int p2), .val (.int cc), .val (.int aa), .val (.int (p2.toInt8.toInt32)), .val (.ref b1), .val (.int (aa + own_n cc)), .val (.int (own_n cc)), .val (.int ((gg aa.toInt.toNat) &&& (255 : Int32))), .val (.int ((gg (aa.toInt.toNat + 1)) &&& (255 : Int32))), .val (.int ((gg (aa.toInt.toNat + 2)) &&& (255 : Int32))), .val (.int ((gg (aa.toInt.toNat + 3)) &&& (255 : Int32))), .unset, .unset] [(.int ((gg aa.toInt.toNat) &&& (255 : Int32)))]))
          refine Runs.by (fun _ hr => XS.sipush XJ21.here hx rfl (hb hby at_335) hr) ?_
          show Runs p e below _ (TJ21.setTop (mkF m 338 #[.val (.int p0), .val (.int p1), .val (.int p2), .val (.int cc), .val (.int aa), .val (.int (p2.toInt8.toInt32)), .val (.ref b1), .val (.int (aa + own_n cc)), .val (.int (own_n cc)), .val (.int ((gg aa.toInt.toNat) &&& (255 : Int32))), .val (.int ((gg (aa.toInt.toNat + 1)) &&& (255 : Int32))), .val (.int ((gg (aa.toInt.toNat + 2)) &&& (255 : Int32))), .val (.int ((gg (aa.toInt.toNat + 3)) &&& (255 : Int32))), .unset, .unset] [(.int (248 : Int32)), (.int ((gg aa.toInt.toNat) &&& (255 : Int32)))]))
          refine Runs.by (fun _ hr => XS.iand XJ21.here hx rfl (hb hby at_338) rfl hr) ?_
          show Runs p e below _ (TJ21.setTop (mkF m 339 #[.val (.int p0), .val (.int p1), .val (.int p2), .val (.int cc), .val (.int aa), .val (.int (p2.toInt8.toInt32)), .val (.ref b1), .val (.int (aa + own_n cc)), .val (.int (own_n cc)), .val (.int ((gg aa.toInt.toNat) &&& (255 : Int32))), .val (.int ((gg (aa.toInt.toNat + 1)) &&& (255 : Int32))), .val (.int ((gg (aa.toInt.toNat + 2)) &&& (255 : Int32))), .val (.int ((gg (aa.toInt.toNat + 3)) &&& (255 : Int32))), .unset, .unset] [(.int (((gg aa.toInt.toNat) &&& (255 : Int32)) &&& (248 : Int32)))]))
          refine Runs.by (fun _ hr => XS.sipush XJ21.here hx rfl (hb hby at_339) hr) ?_
          show Runs p e below _ (TJ21.setTop (mkF m 342 #[.val (.int p0), .val (.int p1), .val (.int p2), .val (.int cc), .val (.int aa), .val (.int (p2.toInt8.toInt32)), .val (.ref b1), .val (.int (aa + own_n cc)), .val (.int (own_n cc)), .val (.int ((gg aa.toInt.toNat) &&& (255 : Int32))), .val (.int ((gg (aa.toInt.toNat + 1)) &&& (255 : Int32))), .val (.int ((gg (aa.toInt.toNat + 2)) &&& (255 : Int32))), .val (.int ((gg (aa.toInt.toNat + 3)) &&& (255 : Int32))), .unset, .unset] [(.int (240 : Int32)), (.int (((gg aa.toInt.toNat) &&& (255 : Int32)) &&& (248 : Int32)))]))
          have hc342 : (((gg aa.toInt.toNat) &&& (255 : Int32)) &&& (248 : Int32)) = (240 : Int32) := (own_d4 hgg hcp hc189 hc211 hc265).1
          refine Runs.by (fun _ hr => XS.icmpNo XJ21.here hx rfl (hb hby at_342) rfl (teq hc342).2 hr) ?_
          show Runs p e below _ (TJ21.setTop (mkF m 345 #[.val (.int p0), .val (.int p1), .val (.int p2), .val (.int cc), .val (.int aa), .val (.int (p2.toInt8.toInt32)), .val (.ref b1), .val (.int (aa + own_n cc)), .val (.int (own_n cc)), .val (.int ((gg aa.toInt.toNat) &&& (255 : Int32))), .val (.int ((gg (aa.toInt.toNat + 1)) &&& (255 : Int32))), .val (.int ((gg (aa.toInt.toNat + 2)) &&& (255 : Int32))), .val (.int ((gg (aa.toInt.toNat + 3)) &&& (255 : Int32))), .unset, .unset] []))
          refine Runs.by (fun _ hr => XS.iload XJ21.here hx rfl (hb hby at_345) rfl  hr) ?_
          show Runs p e below _ (TJ21.setTop (mkF m 347 #[.val (.int p0), .val (.int p1), .val (.int p2), .val (.int cc), .val (.int aa), .val (.int (p2.toInt8.toInt32)), .val (.ref b1), .val (.int (aa + own_n cc)), .val (.int (own_n cc)), .val (.int ((gg aa.toInt.toNat) &&& (255 : Int32))), .val (.int ((gg (aa.toInt.toNat + 1)) &&& (255 : Int32))), .val (.int ((gg (aa.toInt.toNat + 2)) &&& (255 : Int32))), .val (.int ((gg (aa.toInt.toNat + 3)) &&& (255 : Int32))), .unset, .unset] [(.int ((gg (aa.toInt.toNat + 1)) &&& (255 : Int32)))]))
          obtain ⟨_, _, ⟨T38, L38, k38, n38⟩, -, X38, ⟨Lc38, hQ38, l38, y38, z38⟩, st38⟩ := Jvm.LawKit.callS XJ21 hx (y := (⟨"com/example/usher/usher/Utf8ValidatorEncodePinLaw", "cont", "(I)Z"⟩ : MethodName)) hown (mvT hZ (hw _ (List.mem_of_getElem? (i := 11) rfl))) (mvT hZ (hw _ (List.mem_of_getElem? (i := 12) rfl))) (mvT hZ (hw _ (List.mem_of_getElem? (i := 9) rfl))) (mvT hZ (hw _ (List.mem_of_getElem? (i := 13) rfl))) (by decide) (backOf (W := 0) (rm3 l Z a0 hw [] ((gg (aa.toInt.toNat + 1)) &&& (255 : Int32))  T19.heap n0 (Nat.le_trans Z0 K20.1) (own_d4 hgg hcp hc189 hc211 hc265).2.1) hZ (hw _ (List.mem_of_getElem? (i := 13) rfl)) (hw _ (List.mem_of_getElem? (i := 9) rfl)) (by decide) (by decide)) (g := (mkF m 347 #[.val (.int p0), .val (.int p1), .val (.int p2), .val (.int cc), .val (.int aa), .val (.int (p2.toInt8.toInt32)), .val (.ref b1), .val (.int (aa + own_n cc)), .val (.int (own_n cc)), .val (.int ((gg aa.toInt.toNat) &&& (255 : Int32))), .val (.int ((gg (aa.toInt.toNat + 1)) &&& (255 : Int32))), .val (.int ((gg (aa.toInt.toNat + 2)) &&& (255 : Int32))), .val (.int ((gg (aa.toInt.toNat + 3)) &&& (255 : Int32))), .unset, .unset] [(.int ((gg (aa.toInt.toNat + 1)) &&& (255 : Int32)))])) rfl (by rw [hml]; rfl) (argsL := [(.int ((gg (aa.toInt.toNat + 1)) &&& (255 : Int32)))]) (rest := []) (lenOf pd_2 rfl) rfl (by show 2 * 0 + _ ≤ _; exact Nat.le_of_eq rfl) (hb hby at_347) (fun _ _ => ⟨rfl, eJ21, (by decide : 1 + 0 ≤ _), (by decide : 8 + 0 ≤ _)⟩)
          dsimp only [Pt.U, Pt.locs, Pt.cells, Pt.slots] at X38 l38 y38 z38 st38 hQ38
          subst l38 y38 z38
          obtain ⟨rfl, Nq38, eq38⟩ := hQ38
          have N38 := Fr.app NJ21 Nq38
          refine Runs.by (fun t hr => st38 t hr) ?_
          show Runs p e below _ (T38.setTop (mkF m 350 #[.val (.int p0), .val (.int p1), .val (.int p2), .val (.int cc), .val (.int aa), .val (.int (p2.toInt8.toInt32)), .val (.ref b1), .val (.int (aa + own_n cc)), .val (.int (own_n cc)), .val (.int ((gg aa.toInt.toNat) &&& (255 : Int32))), .val (.int ((gg (aa.toInt.toNat + 1)) &&& (255 : Int32))), .val (.int ((gg (aa.toInt.toNat + 2)) &&& (255 : Int32))), .val (.int ((gg (aa.toInt.toNat + 3)) &&& (255 : Int32))), .unset, .unset] [(.int (1 : Int32))]))
          have hc350 : ¬ ((1 : Int32) = (0 : Int32)) := (by decide)
          refine Runs.by (fun _ hr => XS.ifNo X38.here hx rfl (hb hby at_350) rfl ((if0 _ _).trans (feq hc350).1) hr) ?_
          show Runs p e below _ (T38.setTop (mkF m 353 #[.val (.int p0), .val (.int p1), .val (.int p2), .val (.int cc), .val (.int aa), .val (.int (p2.toInt8.toInt32)), .val (.ref b1), .val (.int (aa + own_n cc)), .val (.int (own_n cc)), .val (.int ((gg aa.toInt.toNat) &&& (255 : Int32))), .val (.int ((gg (aa.toInt.toNat + 1)) &&& (255 : Int32))), .val (.int ((gg (aa.toInt.toNat + 2)) &&& (255 : Int32))), .val (.int ((gg (aa.toInt.toNat + 3)) &&& (255 : Int32))), .unset, .unset] []))
          refine Runs.by (fun _ hr => XS.iload X38.here hx rfl (hb hby at_353) rfl  hr) ?_
          show Runs p e below _ (T38.setTop (mkF m 355 #[.val (.int p0), .val (.int p1), .val (.int p2), .val (.int cc), .val (.int aa), .val (.int (p2.toInt8.toInt32)), .val (.ref b1), .val (.int (aa + own_n cc)), .val (.int (own_n cc)), .val (.int ((gg aa.toInt.toNat) &&& (255 : Int32))), .val (.int ((gg (aa.toInt.toNat + 1)) &&& (255 : Int32))), .val (.int ((gg (aa.toInt.toNat + 2)) &&& (255 : Int32))), .val (.int ((gg (aa.toInt.toNat + 3)) &&& (255 : Int32))), .unset, .unset] [(.int ((gg (aa.toInt.toNat + 2)) &&& (255 : Int32)))]))
          obtain ⟨_, _, ⟨T39, L39, k39, n39⟩, -, X39, ⟨Lc39, hQ39, l39, y39, z39⟩, st39⟩ := Jvm.LawKit.callS X38 hx (y := (⟨"com/example/usher/usher/Utf8ValidatorEncodePinLaw", "cont", "(I)Z"⟩ : MethodName)) hown (mvT hZ (hw _ (List.mem_of_getElem? (i := 11) rfl))) (mvT hZ (hw _ (List.mem_of_getElem? (i := 12) rfl))) (mvT hZ (hw _ (List.mem_of_getElem? (i := 9) rfl))) (mvT hZ (hw _ (List.mem_of_getElem? (i := 13) rfl))) (by decide) (backOf (W := 0) (rm3 l Z a0 hw [] ((gg (aa.toInt.toNat + 2)) &&& (255 : Int32))  T19.heap n0 (Nat.le_trans Z0 K20.1) (own_d4 hgg hcp hc189 hc211 hc265).2.2.1) hZ (hw _ (List.mem_of_getElem? (i := 13) rfl)) (hw _ (List.mem_of_getElem? (i := 9) rfl)) (by decide) (by decide)) (g := (mkF m 355 #[.val (.int p0), .val (.int p1), .val (.int p2), .val (.int cc), .val (.int aa), .val (.int (p2.toInt8.toInt32)), .val (.ref b1), .val (.int (aa + own_n cc)), .val (.int (own_n cc)), .val (.int ((gg aa.toInt.toNat) &&& (255 : Int32))), .val (.int ((gg (aa.toInt.toNat + 1)) &&& (255 : Int32))), .val (.int ((gg (aa.toInt.toNat + 2)) &&& (255 : Int32))), .val (.int ((gg (aa.toInt.toNat + 3)) &&& (255 : Int32))), .unset, .unset] [(.int ((gg (aa.toInt.toNat + 2)) &&& (255 : Int32)))])) rfl (by rw [hml]; rfl) (argsL := [(.int ((gg (aa.toInt.toNat + 2)) &&& (255 : Int32)))]) (rest := []) (lenOf pd_2 rfl) rfl (by show 2 * 0 + _ ≤ _; exact Nat.le_of_eq rfl) (hb hby at_355) (fun _ _ => ⟨rfl, eq38, (by decide : 1 + 0 ≤ _), (by decide : 8 + 0 ≤ _)⟩)
          dsimp only [Pt.U, Pt.locs, Pt.cells, Pt.slots] at X39 l39 y39 z39 st39 hQ39
          subst l39 y39 z39
          obtain ⟨rfl, Nq39, eq39⟩ := hQ39
          have N39 := Fr.app N38 Nq39
          refine Runs.by (fun t hr => st39 t hr) ?_
          show Runs p e below _ (T39.setTop (mkF m 358 #[.val (.int p0), .val (.int p1), .val (.int p2), .val (.int cc), .val (.int aa), .val (.int (p2.toInt8.toInt32)), .val (.ref b1), .val (.int (aa + own_n cc)), .val (.int (own_n cc)), .val (.int ((gg aa.toInt.toNat) &&& (255 : Int32))), .val (.int ((gg (aa.toInt.toNat + 1)) &&& (255 : Int32))), .val (.int ((gg (aa.toInt.toNat + 2)) &&& (255 : Int32))), .val (.int ((gg (aa.toInt.toNat + 3)) &&& (255 : Int32))), .unset, .unset] [(.int (1 : Int32))]))
          have hc358 : ¬ ((1 : Int32) = (0 : Int32)) := (by decide)
          refine Runs.by (fun _ hr => XS.ifNo X39.here hx rfl (hb hby at_358) rfl ((if0 _ _).trans (feq hc358).1) hr) ?_
          show Runs p e below _ (T39.setTop (mkF m 361 #[.val (.int p0), .val (.int p1), .val (.int p2), .val (.int cc), .val (.int aa), .val (.int (p2.toInt8.toInt32)), .val (.ref b1), .val (.int (aa + own_n cc)), .val (.int (own_n cc)), .val (.int ((gg aa.toInt.toNat) &&& (255 : Int32))), .val (.int ((gg (aa.toInt.toNat + 1)) &&& (255 : Int32))), .val (.int ((gg (aa.toInt.toNat + 2)) &&& (255 : Int32))), .val (.int ((gg (aa.toInt.toNat + 3)) &&& (255 : Int32))), .unset, .unset] []))
          refine Runs.by (fun _ hr => XS.iload X39.here hx rfl (hb hby at_361) rfl  hr) ?_
          show Runs p e below _ (T39.setTop (mkF m 363 #[.val (.int p0), .val (.int p1), .val (.int p2), .val (.int cc), .val (.int aa), .val (.int (p2.toInt8.toInt32)), .val (.ref b1), .val (.int (aa + own_n cc)), .val (.int (own_n cc)), .val (.int ((gg aa.toInt.toNat) &&& (255 : Int32))), .val (.int ((gg (aa.toInt.toNat + 1)) &&& (255 : Int32))), .val (.int ((gg (aa.toInt.toNat + 2)) &&& (255 : Int32))), .val (.int ((gg (aa.toInt.toNat + 3)) &&& (255 : Int32))), .unset, .unset] [(.int ((gg (aa.toInt.toNat + 3)) &&& (255 : Int32)))]))
          obtain ⟨_, _, ⟨T40, L40, k40, n40⟩, -, X40, ⟨Lc40, hQ40, l40, y40, z40⟩, st40⟩ := Jvm.LawKit.callS X39 hx (y := (⟨"com/example/usher/usher/Utf8ValidatorEncodePinLaw", "cont", "(I)Z"⟩ : MethodName)) hown (mvT hZ (hw _ (List.mem_of_getElem? (i := 11) rfl))) (mvT hZ (hw _ (List.mem_of_getElem? (i := 12) rfl))) (mvT hZ (hw _ (List.mem_of_getElem? (i := 9) rfl))) (mvT hZ (hw _ (List.mem_of_getElem? (i := 13) rfl))) (by decide) (backOf (W := 0) (rm3 l Z a0 hw [] ((gg (aa.toInt.toNat + 3)) &&& (255 : Int32))  T19.heap n0 (Nat.le_trans Z0 K20.1) (own_d4 hgg hcp hc189 hc211 hc265).2.2.2.1) hZ (hw _ (List.mem_of_getElem? (i := 13) rfl)) (hw _ (List.mem_of_getElem? (i := 9) rfl)) (by decide) (by decide)) (g := (mkF m 363 #[.val (.int p0), .val (.int p1), .val (.int p2), .val (.int cc), .val (.int aa), .val (.int (p2.toInt8.toInt32)), .val (.ref b1), .val (.int (aa + own_n cc)), .val (.int (own_n cc)), .val (.int ((gg aa.toInt.toNat) &&& (255 : Int32))), .val (.int ((gg (aa.toInt.toNat + 1)) &&& (255 : Int32))), .val (.int ((gg (aa.toInt.toNat + 2)) &&& (255 : Int32))), .val (.int ((gg (aa.toInt.toNat + 3)) &&& (255 : Int32))), .unset, .unset] [(.int ((gg (aa.toInt.toNat + 3)) &&& (255 : Int32)))])) rfl (by rw [hml]; rfl) (argsL := [(.int ((gg (aa.toInt.toNat + 3)) &&& (255 : Int32)))]) (rest := []) (lenOf pd_2 rfl) rfl (by show 2 * 0 + _ ≤ _; exact Nat.le_of_eq rfl) (hb hby at_363) (fun _ _ => ⟨rfl, eq39, (by decide : 1 + 0 ≤ _), (by decide : 8 + 0 ≤ _)⟩)
          dsimp only [Pt.U, Pt.locs, Pt.cells, Pt.slots] at X40 l40 y40 z40 st40 hQ40
          subst l40 y40 z40
          obtain ⟨rfl, Nq40, eq40⟩ := hQ40
          have N40 := Fr.app N39 Nq40
          refine Runs.by (fun t hr => st40 t hr) ?_
          show Runs p e below _ (T40.setTop (mkF m 366 #[.val (.int p0), .val (.int p1), .val (.int p2), .val (.int cc), .val (.int aa), .val (.int (p2.toInt8.toInt32)), .val (.ref b1), .val (.int (aa + own_n cc)), .val (.int (own_n cc)), .val (.int ((gg aa.toInt.toNat) &&& (255 : Int32))), .val (.int ((gg (aa.toInt.toNat + 1)) &&& (255 : Int32))), .val (.int ((gg (aa.toInt.toNat + 2)) &&& (255 : Int32))), .val (.int ((gg (aa.toInt.toNat + 3)) &&& (255 : Int32))), .unset, .unset] [(.int (1 : Int32))]))
          have hc366 : ¬ ((1 : Int32) = (0 : Int32)) := (by decide)
          refine Runs.by (fun _ hr => XS.ifNo X40.here hx rfl (hb hby at_366) rfl ((if0 _ _).trans (feq hc366).1) hr) ?_
          show Runs p e below _ (T40.setTop (mkF m 369 #[.val (.int p0), .val (.int p1), .val (.int p2), .val (.int cc), .val (.int aa), .val (.int (p2.toInt8.toInt32)), .val (.ref b1), .val (.int (aa + own_n cc)), .val (.int (own_n cc)), .val (.int ((gg aa.toInt.toNat) &&& (255 : Int32))), .val (.int ((gg (aa.toInt.toNat + 1)) &&& (255 : Int32))), .val (.int ((gg (aa.toInt.toNat + 2)) &&& (255 : Int32))), .val (.int ((gg (aa.toInt.toNat + 3)) &&& (255 : Int32))), .unset, .unset] []))
          refine Runs.by (fun _ hr => XS.iload X40.here hx rfl (hb hby at_369) rfl  hr) ?_
          show Runs p e below _ (T40.setTop (mkF m 371 #[.val (.int p0), .val (.int p1), .val (.int p2), .val (.int cc), .val (.int aa), .val (.int (p2.toInt8.toInt32)), .val (.ref b1), .val (.int (aa + own_n cc)), .val (.int (own_n cc)), .val (.int ((gg aa.toInt.toNat) &&& (255 : Int32))), .val (.int ((gg (aa.toInt.toNat + 1)) &&& (255 : Int32))), .val (.int ((gg (aa.toInt.toNat + 2)) &&& (255 : Int32))), .val (.int ((gg (aa.toInt.toNat + 3)) &&& (255 : Int32))), .unset, .unset] [(.int ((gg aa.toInt.toNat) &&& (255 : Int32)))]))
          refine Runs.by (fun _ hr => XS.bipush X40.here hx rfl (hb hby at_371) hr) ?_
          show Runs p e below _ (T40.setTop (mkF m 373 #[.val (.int p0), .val (.int p1), .val (.int p2), .val (.int cc), .val (.int aa), .val (.int (p2.toInt8.toInt32)), .val (.ref b1), .val (.int (aa + own_n cc)), .val (.int (own_n cc)), .val (.int ((gg aa.toInt.toNat) &&& (255 : Int32))), .val (.int ((gg (aa.toInt.toNat + 1)) &&& (255 : Int32))), .val (.int ((gg (aa.toInt.toNat + 2)) &&& (255 : Int32))), .val (.int ((gg (aa.toInt.toNat + 3)) &&& (255 : Int32))), .unset, .unset] [(.int (7 : Int32)), (.int ((gg aa.toInt.toNat) &&& (255 : Int32)))]))
          refine Runs.by (fun _ hr => XS.iand X40.here hx rfl (hb hby at_373) rfl hr) ?_
          show Runs p e below _ (T40.setTop (mkF m 374 #[.val (.int p0), .val (.int p1), .val (.int p2), .val (.int cc), .val (.int aa), .val (.int (p2.toInt8.toInt32)), .val (.ref b1), .val (.int (aa + own_n cc)), .val (.int (own_n cc)), .val (.int ((gg aa.toInt.toNat) &&& (255 : Int32))), .val (.int ((gg (aa.toInt.toNat + 1)) &&& (255 : Int32))), .val (.int ((gg (aa.toInt.toNat + 2)) &&& (255 : Int32))), .val (.int ((gg (aa.toInt.toNat + 3)) &&& (255 : Int32))), .unset, .unset] [(.int (((gg aa.toInt.toNat) &&& (255 : Int32)) &&& (7 : Int32)))]))
          refine Runs.by (fun _ hr => XS.bipush X40.here hx rfl (hb hby at_374) hr) ?_
          show Runs p e below _ (T40.setTop (mkF m 376 #[.val (.int p0), .val (.int p1), .val (.int p2), .val (.int cc), .val (.int aa), .val (.int (p2.toInt8.toInt32)), .val (.ref b1), .val (.int (aa + own_n cc)), .val (.int (own_n cc)), .val (.int ((gg aa.toInt.toNat) &&& (255 : Int32))), .val (.int ((gg (aa.toInt.toNat + 1)) &&& (255 : Int32))), .val (.int ((gg (aa.toInt.toNat + 2)) &&& (255 : Int32))), .val (.int ((gg (aa.toInt.toNat + 3)) &&& (255 : Int32))), .unset, .unset] [(.int (18 : Int32)), (.int (((gg aa.toInt.toNat) &&& (255 : Int32)) &&& (7 : Int32)))]))
          refine Runs.by (fun _ hr => XS.ishl X40.here hx rfl (hb hby at_376) rfl hr) ?_
          show Runs p e below _ (T40.setTop (mkF m 377 #[.val (.int p0), .val (.int p1), .val (.int p2), .val (.int cc), .val (.int aa), .val (.int (p2.toInt8.toInt32)), .val (.ref b1), .val (.int (aa + own_n cc)), .val (.int (own_n cc)), .val (.int ((gg aa.toInt.toNat) &&& (255 : Int32))), .val (.int ((gg (aa.toInt.toNat + 1)) &&& (255 : Int32))), .val (.int ((gg (aa.toInt.toNat + 2)) &&& (255 : Int32))), .val (.int ((gg (aa.toInt.toNat + 3)) &&& (255 : Int32))), .unset, .unset] [(.int ((((gg aa.toInt.toNat) &&& (255 : Int32)) &&& (7 : Int32)) <<< ((18 : Int32) &&& 31)))]))
          refine Runs.by (fun _ hr => XS.iload X40.here hx rfl (hb hby at_377) rfl  hr) ?_
          show Runs p e below _ (T40.setTop (mkF m 379 #[.val (.int p0), .val (.int p1), .val (.int p2), .val (.int cc), .val (.int aa), .val (.int (p2.toInt8.toInt32)), .val (.ref b1), .val (.int (aa + own_n cc)), .val (.int (own_n cc)), .val (.int ((gg aa.toInt.toNat) &&& (255 : Int32))), .val (.int ((gg (aa.toInt.toNat + 1)) &&& (255 : Int32))), .val (.int ((gg (aa.toInt.toNat + 2)) &&& (255 : Int32))), .val (.int ((gg (aa.toInt.toNat + 3)) &&& (255 : Int32))), .unset, .unset] [(.int ((gg (aa.toInt.toNat + 1)) &&& (255 : Int32))), (.int ((((gg aa.toInt.toNat) &&& (255 : Int32)) &&& (7 : Int32)) <<< ((18 : Int32) &&& 31)))]))
          refine Runs.by (fun _ hr => XS.bipush X40.here hx rfl (hb hby at_379) hr) ?_
          show Runs p e below _ (T40.setTop (mkF m 381 #[.val (.int p0), .val (.int p1), .val (.int p2), .val (.int cc), .val (.int aa), .val (.int (p2.toInt8.toInt32)), .val (.ref b1), .val (.int (aa + own_n cc)), .val (.int (own_n cc)), .val (.int ((gg aa.toInt.toNat) &&& (255 : Int32))), .val (.int ((gg (aa.toInt.toNat + 1)) &&& (255 : Int32))), .val (.int ((gg (aa.toInt.toNat + 2)) &&& (255 : Int32))), .val (.int ((gg (aa.toInt.toNat + 3)) &&& (255 : Int32))), .unset, .unset] [(.int (63 : Int32)), (.int ((gg (aa.toInt.toNat + 1)) &&& (255 : Int32))), (.int ((((gg aa.toInt.toNat) &&& (255 : Int32)) &&& (7 : Int32)) <<< ((18 : Int32) &&& 31)))]))
          refine Runs.by (fun _ hr => XS.iand X40.here hx rfl (hb hby at_381) rfl hr) ?_
          show Runs p e below _ (T40.setTop (mkF m 382 #[.val (.int p0), .val (.int p1), .val (.int p2), .val (.int cc), .val (.int aa), .val (.int (p2.toInt8.toInt32)), .val (.ref b1), .val (.int (aa + own_n cc)), .val (.int (own_n cc)), .val (.int ((gg aa.toInt.toNat) &&& (255 : Int32))), .val (.int ((gg (aa.toInt.toNat + 1)) &&& (255 : Int32))), .val (.int ((gg (aa.toInt.toNat + 2)) &&& (255 : Int32))), .val (.int ((gg (aa.toInt.toNat + 3)) &&& (255 : Int32))), .unset, .unset] [(.int (((gg (aa.toInt.toNat + 1)) &&& (255 : Int32)) &&& (63 : Int32))), (.int ((((gg aa.toInt.toNat) &&& (255 : Int32)) &&& (7 : Int32)) <<< ((18 : Int32) &&& 31)))]))
          refine Runs.by (fun _ hr => XS.bipush X40.here hx rfl (hb hby at_382) hr) ?_
          show Runs p e below _ (T40.setTop (mkF m 384 #[.val (.int p0), .val (.int p1), .val (.int p2), .val (.int cc), .val (.int aa), .val (.int (p2.toInt8.toInt32)), .val (.ref b1), .val (.int (aa + own_n cc)), .val (.int (own_n cc)), .val (.int ((gg aa.toInt.toNat) &&& (255 : Int32))), .val (.int ((gg (aa.toInt.toNat + 1)) &&& (255 : Int32))), .val (.int ((gg (aa.toInt.toNat + 2)) &&& (255 : Int32))), .val (.int ((gg (aa.toInt.toNat + 3)) &&& (255 : Int32))), .unset, .unset] [(.int (12 : Int32)), (.int (((gg (aa.toInt.toNat + 1)) &&& (255 : Int32)) &&& (63 : Int32))), (.int ((((gg aa.toInt.toNat) &&& (255 : Int32)) &&& (7 : Int32)) <<< ((18 : Int32) &&& 31)))]))
          refine Runs.by (fun _ hr => XS.ishl X40.here hx rfl (hb hby at_384) rfl hr) ?_
          show Runs p e below _ (T40.setTop (mkF m 385 #[.val (.int p0), .val (.int p1), .val (.int p2), .val (.int cc), .val (.int aa), .val (.int (p2.toInt8.toInt32)), .val (.ref b1), .val (.int (aa + own_n cc)), .val (.int (own_n cc)), .val (.int ((gg aa.toInt.toNat) &&& (255 : Int32))), .val (.int ((gg (aa.toInt.toNat + 1)) &&& (255 : Int32))), .val (.int ((gg (aa.toInt.toNat + 2)) &&& (255 : Int32))), .val (.int ((gg (aa.toInt.toNat + 3)) &&& (255 : Int32))), .unset, .unset] [(.int ((((gg (aa.toInt.toNat + 1)) &&& (255 : Int32)) &&& (63 : Int32)) <<< ((12 : Int32) &&& 31))), (.int ((((gg aa.toInt.toNat) &&& (255 : Int32)) &&& (7 : Int32)) <<< ((18 : Int32) &&& 31)))]))
          refine Runs.by (fun _ hr => XS.ior X40.here hx rfl (hb hby at_385) rfl hr) ?_
          show Runs p e below _ (T40.setTop (mkF m 386 #[.val (.int p0), .val (.int p1), .val (.int p2), .val (.int cc), .val (.int aa), .val (.int (p2.toInt8.toInt32)), .val (.ref b1), .val (.int (aa + own_n cc)), .val (.int (own_n cc)), .val (.int ((gg aa.toInt.toNat) &&& (255 : Int32))), .val (.int ((gg (aa.toInt.toNat + 1)) &&& (255 : Int32))), .val (.int ((gg (aa.toInt.toNat + 2)) &&& (255 : Int32))), .val (.int ((gg (aa.toInt.toNat + 3)) &&& (255 : Int32))), .unset, .unset] [(.int (((((gg aa.toInt.toNat) &&& (255 : Int32)) &&& (7 : Int32)) <<< ((18 : Int32) &&& 31)) ||| ((((gg (aa.toInt.toNat + 1)) &&& (255 : Int32)) &&& (63 : Int32)) <<< ((12 : Int32) &&& 31))))]))
          refine Runs.by (fun _ hr => XS.iload X40.here hx rfl (hb hby at_386) rfl  hr) ?_
          show Runs p e below _ (T40.setTop (mkF m 388 #[.val (.int p0), .val (.int p1), .val (.int p2), .val (.int cc), .val (.int aa), .val (.int (p2.toInt8.toInt32)), .val (.ref b1), .val (.int (aa + own_n cc)), .val (.int (own_n cc)), .val (.int ((gg aa.toInt.toNat) &&& (255 : Int32))), .val (.int ((gg (aa.toInt.toNat + 1)) &&& (255 : Int32))), .val (.int ((gg (aa.toInt.toNat + 2)) &&& (255 : Int32))), .val (.int ((gg (aa.toInt.toNat + 3)) &&& (255 : Int32))), .unset, .unset] [(.int ((gg (aa.toInt.toNat + 2)) &&& (255 : Int32))), (.int (((((gg aa.toInt.toNat) &&& (255 : Int32)) &&& (7 : Int32)) <<< ((18 : Int32) &&& 31)) ||| ((((gg (aa.toInt.toNat + 1)) &&& (255 : Int32)) &&& (63 : Int32)) <<< ((12 : Int32) &&& 31))))]))
          refine Runs.by (fun _ hr => XS.bipush X40.here hx rfl (hb hby at_388) hr) ?_
          show Runs p e below _ (T40.setTop (mkF m 390 #[.val (.int p0), .val (.int p1), .val (.int p2), .val (.int cc), .val (.int aa), .val (.int (p2.toInt8.toInt32)), .val (.ref b1), .val (.int (aa + own_n cc)), .val (.int (own_n cc)), .val (.int ((gg aa.toInt.toNat) &&& (255 : Int32))), .val (.int ((gg (aa.toInt.toNat + 1)) &&& (255 : Int32))), .val (.int ((gg (aa.toInt.toNat + 2)) &&& (255 : Int32))), .val (.int ((gg (aa.toInt.toNat + 3)) &&& (255 : Int32))), .unset, .unset] [(.int (63 : Int32)), (.int ((gg (aa.toInt.toNat + 2)) &&& (255 : Int32))), (.int (((((gg aa.toInt.toNat) &&& (255 : Int32)) &&& (7 : Int32)) <<< ((18 : Int32) &&& 31)) ||| ((((gg (aa.toInt.toNat + 1)) &&& (255 : Int32)) &&& (63 : Int32)) <<< ((12 : Int32) &&& 31))))]))
          refine Runs.by (fun _ hr => XS.iand X40.here hx rfl (hb hby at_390) rfl hr) ?_
          show Runs p e below _ (T40.setTop (mkF m 391 #[.val (.int p0), .val (.int p1), .val (.int p2), .val (.int cc), .val (.int aa), .val (.int (p2.toInt8.toInt32)), .val (.ref b1), .val (.int (aa + own_n cc)), .val (.int (own_n cc)), .val (.int ((gg aa.toInt.toNat) &&& (255 : Int32))), .val (.int ((gg (aa.toInt.toNat + 1)) &&& (255 : Int32))), .val (.int ((gg (aa.toInt.toNat + 2)) &&& (255 : Int32))), .val (.int ((gg (aa.toInt.toNat + 3)) &&& (255 : Int32))), .unset, .unset] [(.int (((gg (aa.toInt.toNat + 2)) &&& (255 : Int32)) &&& (63 : Int32))), (.int (((((gg aa.toInt.toNat) &&& (255 : Int32)) &&& (7 : Int32)) <<< ((18 : Int32) &&& 31)) ||| ((((gg (aa.toInt.toNat + 1)) &&& (255 : Int32)) &&& (63 : Int32)) <<< ((12 : Int32) &&& 31))))]))
          refine Runs.by (fun _ hr => XS.bipush X40.here hx rfl (hb hby at_391) hr) ?_
          show Runs p e below _ (T40.setTop (mkF m 393 #[.val (.int p0), .val (.int p1), .val (.int p2), .val (.int cc), .val (.int aa), .val (.int (p2.toInt8.toInt32)), .val (.ref b1), .val (.int (aa + own_n cc)), .val (.int (own_n cc)), .val (.int ((gg aa.toInt.toNat) &&& (255 : Int32))), .val (.int ((gg (aa.toInt.toNat + 1)) &&& (255 : Int32))), .val (.int ((gg (aa.toInt.toNat + 2)) &&& (255 : Int32))), .val (.int ((gg (aa.toInt.toNat + 3)) &&& (255 : Int32))), .unset, .unset] [(.int (6 : Int32)), (.int (((gg (aa.toInt.toNat + 2)) &&& (255 : Int32)) &&& (63 : Int32))), (.int (((((gg aa.toInt.toNat) &&& (255 : Int32)) &&& (7 : Int32)) <<< ((18 : Int32) &&& 31)) ||| ((((gg (aa.toInt.toNat + 1)) &&& (255 : Int32)) &&& (63 : Int32)) <<< ((12 : Int32) &&& 31))))]))
          refine Runs.by (fun _ hr => XS.ishl X40.here hx rfl (hb hby at_393) rfl hr) ?_
          show Runs p e below _ (T40.setTop (mkF m 394 #[.val (.int p0), .val (.int p1), .val (.int p2), .val (.int cc), .val (.int aa), .val (.int (p2.toInt8.toInt32)), .val (.ref b1), .val (.int (aa + own_n cc)), .val (.int (own_n cc)), .val (.int ((gg aa.toInt.toNat) &&& (255 : Int32))), .val (.int ((gg (aa.toInt.toNat + 1)) &&& (255 : Int32))), .val (.int ((gg (aa.toInt.toNat + 2)) &&& (255 : Int32))), .val (.int ((gg (aa.toInt.toNat + 3)) &&& (255 : Int32))), .unset, .unset] [(.int ((((gg (aa.toInt.toNat + 2)) &&& (255 : Int32)) &&& (63 : Int32)) <<< ((6 : Int32) &&& 31))), (.int (((((gg aa.toInt.toNat) &&& (255 : Int32)) &&& (7 : Int32)) <<< ((18 : Int32) &&& 31)) ||| ((((gg (aa.toInt.toNat + 1)) &&& (255 : Int32)) &&& (63 : Int32)) <<< ((12 : Int32) &&& 31))))]))
          refine Runs.by (fun _ hr => XS.ior X40.here hx rfl (hb hby at_394) rfl hr) ?_
          show Runs p e below _ (T40.setTop (mkF m 395 #[.val (.int p0), .val (.int p1), .val (.int p2), .val (.int cc), .val (.int aa), .val (.int (p2.toInt8.toInt32)), .val (.ref b1), .val (.int (aa + own_n cc)), .val (.int (own_n cc)), .val (.int ((gg aa.toInt.toNat) &&& (255 : Int32))), .val (.int ((gg (aa.toInt.toNat + 1)) &&& (255 : Int32))), .val (.int ((gg (aa.toInt.toNat + 2)) &&& (255 : Int32))), .val (.int ((gg (aa.toInt.toNat + 3)) &&& (255 : Int32))), .unset, .unset] [(.int ((((((gg aa.toInt.toNat) &&& (255 : Int32)) &&& (7 : Int32)) <<< ((18 : Int32) &&& 31)) ||| ((((gg (aa.toInt.toNat + 1)) &&& (255 : Int32)) &&& (63 : Int32)) <<< ((12 : Int32) &&& 31))) ||| ((((gg (aa.toInt.toNat + 2)) &&& (255 : Int32)) &&& (63 : Int32)) <<< ((6 : Int32) &&& 31))))]))
          refine Runs.by (fun _ hr => XS.iload X40.here hx rfl (hb hby at_395) rfl  hr) ?_
          show Runs p e below _ (T40.setTop (mkF m 397 #[.val (.int p0), .val (.int p1), .val (.int p2), .val (.int cc), .val (.int aa), .val (.int (p2.toInt8.toInt32)), .val (.ref b1), .val (.int (aa + own_n cc)), .val (.int (own_n cc)), .val (.int ((gg aa.toInt.toNat) &&& (255 : Int32))), .val (.int ((gg (aa.toInt.toNat + 1)) &&& (255 : Int32))), .val (.int ((gg (aa.toInt.toNat + 2)) &&& (255 : Int32))), .val (.int ((gg (aa.toInt.toNat + 3)) &&& (255 : Int32))), .unset, .unset] [(.int ((gg (aa.toInt.toNat + 3)) &&& (255 : Int32))), (.int ((((((gg aa.toInt.toNat) &&& (255 : Int32)) &&& (7 : Int32)) <<< ((18 : Int32) &&& 31)) ||| ((((gg (aa.toInt.toNat + 1)) &&& (255 : Int32)) &&& (63 : Int32)) <<< ((12 : Int32) &&& 31))) ||| ((((gg (aa.toInt.toNat + 2)) &&& (255 : Int32)) &&& (63 : Int32)) <<< ((6 : Int32) &&& 31))))]))
          refine Runs.by (fun _ hr => XS.bipush X40.here hx rfl (hb hby at_397) hr) ?_
          show Runs p e below _ (T40.setTop (mkF m 399 #[.val (.int p0), .val (.int p1), .val (.int p2), .val (.int cc), .val (.int aa), .val (.int (p2.toInt8.toInt32)), .val (.ref b1), .val (.int (aa + own_n cc)), .val (.int (own_n cc)), .val (.int ((gg aa.toInt.toNat) &&& (255 : Int32))), .val (.int ((gg (aa.toInt.toNat + 1)) &&& (255 : Int32))), .val (.int ((gg (aa.toInt.toNat + 2)) &&& (255 : Int32))), .val (.int ((gg (aa.toInt.toNat + 3)) &&& (255 : Int32))), .unset, .unset] [(.int (63 : Int32)), (.int ((gg (aa.toInt.toNat + 3)) &&& (255 : Int32))), (.int ((((((gg aa.toInt.toNat) &&& (255 : Int32)) &&& (7 : Int32)) <<< ((18 : Int32) &&& 31)) ||| ((((gg (aa.toInt.toNat + 1)) &&& (255 : Int32)) &&& (63 : Int32)) <<< ((12 : Int32) &&& 31))) ||| ((((gg (aa.toInt.toNat + 2)) &&& (255 : Int32)) &&& (63 : Int32)) <<< ((6 : Int32) &&& 31))))]))
          refine Runs.by (fun _ hr => XS.iand X40.here hx rfl (hb hby at_399) rfl hr) ?_
          show Runs p e below _ (T40.setTop (mkF m 400 #[.val (.int p0), .val (.int p1), .val (.int p2), .val (.int cc), .val (.int aa), .val (.int (p2.toInt8.toInt32)), .val (.ref b1), .val (.int (aa + own_n cc)), .val (.int (own_n cc)), .val (.int ((gg aa.toInt.toNat) &&& (255 : Int32))), .val (.int ((gg (aa.toInt.toNat + 1)) &&& (255 : Int32))), .val (.int ((gg (aa.toInt.toNat + 2)) &&& (255 : Int32))), .val (.int ((gg (aa.toInt.toNat + 3)) &&& (255 : Int32))), .unset, .unset] [(.int (((gg (aa.toInt.toNat + 3)) &&& (255 : Int32)) &&& (63 : Int32))), (.int ((((((gg aa.toInt.toNat) &&& (255 : Int32)) &&& (7 : Int32)) <<< ((18 : Int32) &&& 31)) ||| ((((gg (aa.toInt.toNat + 1)) &&& (255 : Int32)) &&& (63 : Int32)) <<< ((12 : Int32) &&& 31))) ||| ((((gg (aa.toInt.toNat + 2)) &&& (255 : Int32)) &&& (63 : Int32)) <<< ((6 : Int32) &&& 31))))]))
          refine Runs.by (fun _ hr => XS.ior X40.here hx rfl (hb hby at_400) rfl hr) ?_
          show Runs p e below _ (T40.setTop (mkF m 401 #[.val (.int p0), .val (.int p1), .val (.int p2), .val (.int cc), .val (.int aa), .val (.int (p2.toInt8.toInt32)), .val (.ref b1), .val (.int (aa + own_n cc)), .val (.int (own_n cc)), .val (.int ((gg aa.toInt.toNat) &&& (255 : Int32))), .val (.int ((gg (aa.toInt.toNat + 1)) &&& (255 : Int32))), .val (.int ((gg (aa.toInt.toNat + 2)) &&& (255 : Int32))), .val (.int ((gg (aa.toInt.toNat + 3)) &&& (255 : Int32))), .unset, .unset] [(.int (((((((gg aa.toInt.toNat) &&& (255 : Int32)) &&& (7 : Int32)) <<< ((18 : Int32) &&& 31)) ||| ((((gg (aa.toInt.toNat + 1)) &&& (255 : Int32)) &&& (63 : Int32)) <<< ((12 : Int32) &&& 31))) ||| ((((gg (aa.toInt.toNat + 2)) &&& (255 : Int32)) &&& (63 : Int32)) <<< ((6 : Int32) &&& 31))) ||| (((gg (aa.toInt.toNat + 3)) &&& (255 : Int32)) &&& (63 : Int32))))]))
          refine Runs.by (fun _ hr => XS.iloadN X40.here hx rfl (hb hby at_401) rfl  hr) ?_
          show Runs p e below _ (T40.setTop (mkF m 402 #[.val (.int p0), .val (.int p1), .val (.int p2), .val (.int cc), .val (.int aa), .val (.int (p2.toInt8.toInt32)), .val (.ref b1), .val (.int (aa + own_n cc)), .val (.int (own_n cc)), .val (.int ((gg aa.toInt.toNat) &&& (255 : Int32))), .val (.int ((gg (aa.toInt.toNat + 1)) &&& (255 : Int32))), .val (.int ((gg (aa.toInt.toNat + 2)) &&& (255 : Int32))), .val (.int ((gg (aa.toInt.toNat + 3)) &&& (255 : Int32))), .unset, .unset] [(.int cc), (.int (((((((gg aa.toInt.toNat) &&& (255 : Int32)) &&& (7 : Int32)) <<< ((18 : Int32) &&& 31)) ||| ((((gg (aa.toInt.toNat + 1)) &&& (255 : Int32)) &&& (63 : Int32)) <<< ((12 : Int32) &&& 31))) ||| ((((gg (aa.toInt.toNat + 2)) &&& (255 : Int32)) &&& (63 : Int32)) <<< ((6 : Int32) &&& 31))) ||| (((gg (aa.toInt.toNat + 3)) &&& (255 : Int32)) &&& (63 : Int32))))]))
          have hc402 : (((((((gg aa.toInt.toNat) &&& (255 : Int32)) &&& (7 : Int32)) <<< ((18 : Int32) &&& 31)) ||| ((((gg (aa.toInt.toNat + 1)) &&& (255 : Int32)) &&& (63 : Int32)) <<< ((12 : Int32) &&& 31))) ||| ((((gg (aa.toInt.toNat + 2)) &&& (255 : Int32)) &&& (63 : Int32)) <<< ((6 : Int32) &&& 31))) ||| (((gg (aa.toInt.toNat + 3)) &&& (255 : Int32)) &&& (63 : Int32))) = cc := (own_d4 hgg hcp hc189 hc211 hc265).2.2.2.2
          refine Runs.by (fun _ hr => XS.icmpNo X40.here hx rfl (hb hby at_402) rfl (teq hc402).2 hr) ?_
          show Runs p e below _ (T40.setTop (mkF m 405 #[.val (.int p0), .val (.int p1), .val (.int p2), .val (.int cc), .val (.int aa), .val (.int (p2.toInt8.toInt32)), .val (.ref b1), .val (.int (aa + own_n cc)), .val (.int (own_n cc)), .val (.int ((gg aa.toInt.toNat) &&& (255 : Int32))), .val (.int ((gg (aa.toInt.toNat + 1)) &&& (255 : Int32))), .val (.int ((gg (aa.toInt.toNat + 2)) &&& (255 : Int32))), .val (.int ((gg (aa.toInt.toNat + 3)) &&& (255 : Int32))), .unset, .unset] []))
          refine Runs.by (fun _ hr => XS.iconst X40.here hx rfl (hb hby at_405) hr) ?_
          show Runs p e below _ (T40.setTop (mkF m 406 #[.val (.int p0), .val (.int p1), .val (.int p2), .val (.int cc), .val (.int aa), .val (.int (p2.toInt8.toInt32)), .val (.ref b1), .val (.int (aa + own_n cc)), .val (.int (own_n cc)), .val (.int ((gg aa.toInt.toNat) &&& (255 : Int32))), .val (.int ((gg (aa.toInt.toNat + 1)) &&& (255 : Int32))), .val (.int ((gg (aa.toInt.toNat + 2)) &&& (255 : Int32))), .val (.int ((gg (aa.toInt.toNat + 3)) &&& (255 : Int32))), .unset, .unset] [(.int (1 : Int32))]))
          refine Runs.by (fun _ hr => XS.goto X40.here hx rfl (pc0 := 406) (pc' := 410) rfl (hb hby at_406) (by decide) (by decide) hr) ?_
          show Runs p e below _ (T40.setTop (mkF m 410 #[.val (.int p0), .val (.int p1), .val (.int p2), .val (.int cc), .val (.int aa), .val (.int (p2.toInt8.toInt32)), .val (.ref b1), .val (.int (aa + own_n cc)), .val (.int (own_n cc)), .val (.int ((gg aa.toInt.toNat) &&& (255 : Int32))), .val (.int ((gg (aa.toInt.toNat + 1)) &&& (255 : Int32))), .val (.int ((gg (aa.toInt.toNat + 2)) &&& (255 : Int32))), .val (.int ((gg (aa.toInt.toNat + 3)) &&& (255 : Int32))), .unset, .unset] [(.int (1 : Int32))]))
          refine Runs.by (fun _ hr => XS.istore X40.here hx rfl (hb hby at_410) rfl (l' := #[.val (.int p0), .val (.int p1), .val (.int p2), .val (.int cc), .val (.int aa), .val (.int (p2.toInt8.toInt32)), .val (.ref b1), .val (.int (aa + own_n cc)), .val (.int (own_n cc)), .val (.int ((gg aa.toInt.toNat) &&& (255 : Int32))), .val (.int ((gg (aa.toInt.toNat + 1)) &&& (255 : Int32))), .val (.int ((gg (aa.toInt.toNat + 2)) &&& (255 : Int32))), .val (.int ((gg (aa.toInt.toNat + 3)) &&& (255 : Int32))), .val (.int (1 : Int32)), .unset]) rfl hr) ?_
          exact J412  _ _ X40 eq40 N40 
  show Runs p e below _ (T19.setTop (mkF m 83 #[.val (.int p0), .val (.int p1), .val (.int p2), .val (.int cc), .val (.int aa), .val (.int (p2.toInt8.toInt32)), .val (.ref b1), .val (.int (aa + own_n cc)), .unset, .unset, .unset, .unset, .unset, .unset, .unset] []))
  refine Runs.by (fun _ hr => XS.iloadN X19.here hx rfl (hb hby at_83) rfl  hr) ?_
  show Runs p e below _ (T19.setTop (mkF m 84 #[.val (.int p0), .val (.int p1), .val (.int p2), .val (.int cc), .val (.int aa), .val (.int (p2.toInt8.toInt32)), .val (.ref b1), .val (.int (aa + own_n cc)), .unset, .unset, .unset, .unset, .unset, .unset, .unset] [(.int cc)]))
  refine Runs.by (fun _ hr => XS.sipush X19.here hx rfl (hb hby at_84) hr) ?_
  show Runs p e below _ (T19.setTop (mkF m 87 #[.val (.int p0), .val (.int p1), .val (.int p2), .val (.int cc), .val (.int aa), .val (.int (p2.toInt8.toInt32)), .val (.ref b1), .val (.int (aa + own_n cc)), .unset, .unset, .unset, .unset, .unset, .unset, .unset] [(.int (128 : Int32)), (.int cc)]))
  by_cases hc87 : cc < (128 : Int32)
  · -- pc 87: cc < (128 : Int32)
    refine Runs.by (fun _ hr => XS.icmpNo X19.here hx rfl (hb hby at_87) rfl (tlt hc87).2.1 hr) ?_
    show Runs p e below _ (T19.setTop (mkF m 90 #[.val (.int p0), .val (.int p1), .val (.int p2), .val (.int cc), .val (.int aa), .val (.int (p2.toInt8.toInt32)), .val (.ref b1), .val (.int (aa + own_n cc)), .unset, .unset, .unset, .unset, .unset, .unset, .unset] []))
    refine Runs.by (fun _ hr => XS.iconst X19.here hx rfl (hb hby at_90) hr) ?_
    show Runs p e below _ (T19.setTop (mkF m 91 #[.val (.int p0), .val (.int p1), .val (.int p2), .val (.int cc), .val (.int aa), .val (.int (p2.toInt8.toInt32)), .val (.ref b1), .val (.int (aa + own_n cc)), .unset, .unset, .unset, .unset, .unset, .unset, .unset] [(.int (1 : Int32))]))
    refine Runs.by (fun _ hr => XS.istore X19.here hx rfl (hb hby at_91) rfl (l' := #[.val (.int p0), .val (.int p1), .val (.int p2), .val (.int cc), .val (.int aa), .val (.int (p2.toInt8.toInt32)), .val (.ref b1), .val (.int (aa + own_n cc)), .val (.int (1 : Int32)), .unset, .unset, .unset, .unset, .unset, .unset]) rfl hr) ?_
    show Runs p e below _ (T19.setTop (mkF m 93 #[.val (.int p0), .val (.int p1), .val (.int p2), .val (.int cc), .val (.int aa), .val (.int (p2.toInt8.toInt32)), .val (.ref b1), .val (.int (aa + own_n cc)), .val (.int (1 : Int32)), .unset, .unset, .unset, .unset, .unset, .unset] []))
    refine Runs.by (fun _ hr => XS.goto X19.here hx rfl (pc0 := 93) (pc' := 124) rfl (hb hby at_93) (by decide) (by decide) hr) ?_
    have en : own_n cc = (1 : Int32) := by simp [own_n, *]
    rw [en] at J124
    show Runs p e below _ (T19.setTop (mkF m 124 #[.val (.int p0), .val (.int p1), .val (.int p2), .val (.int cc), .val (.int aa), .val (.int (p2.toInt8.toInt32)), .val (.ref b1), .val (.int (aa + own_n cc)), .val (.int (1 : Int32)), .unset, .unset, .unset, .unset, .unset, .unset] []))
    rw [en]
    exact J124  _ _ X19 rfl N19 
  · -- pc 87: not cc < (128 : Int32)
    refine Runs.by (fun _ hr => XS.icmpYes X19.here hx rfl (pc0 := 87) (pc' := 96) rfl (hb hby at_87) rfl (flt hc87).2.1 (by decide) (by decide) hr) ?_
    show Runs p e below _ (T19.setTop (mkF m 96 #[.val (.int p0), .val (.int p1), .val (.int p2), .val (.int cc), .val (.int aa), .val (.int (p2.toInt8.toInt32)), .val (.ref b1), .val (.int (aa + own_n cc)), .unset, .unset, .unset, .unset, .unset, .unset, .unset] []))
    refine Runs.by (fun _ hr => XS.iloadN X19.here hx rfl (hb hby at_96) rfl  hr) ?_
    show Runs p e below _ (T19.setTop (mkF m 97 #[.val (.int p0), .val (.int p1), .val (.int p2), .val (.int cc), .val (.int aa), .val (.int (p2.toInt8.toInt32)), .val (.ref b1), .val (.int (aa + own_n cc)), .unset, .unset, .unset, .unset, .unset, .unset, .unset] [(.int cc)]))
    refine Runs.by (fun _ hr => XS.sipush X19.here hx rfl (hb hby at_97) hr) ?_
    show Runs p e below _ (T19.setTop (mkF m 100 #[.val (.int p0), .val (.int p1), .val (.int p2), .val (.int cc), .val (.int aa), .val (.int (p2.toInt8.toInt32)), .val (.ref b1), .val (.int (aa + own_n cc)), .unset, .unset, .unset, .unset, .unset, .unset, .unset] [(.int (2048 : Int32)), (.int cc)]))
    by_cases hc100 : cc < (2048 : Int32)
    · -- pc 100: cc < (2048 : Int32)
      refine Runs.by (fun _ hr => XS.icmpNo X19.here hx rfl (hb hby at_100) rfl (tlt hc100).2.1 hr) ?_
      show Runs p e below _ (T19.setTop (mkF m 103 #[.val (.int p0), .val (.int p1), .val (.int p2), .val (.int cc), .val (.int aa), .val (.int (p2.toInt8.toInt32)), .val (.ref b1), .val (.int (aa + own_n cc)), .unset, .unset, .unset, .unset, .unset, .unset, .unset] []))
      refine Runs.by (fun _ hr => XS.iconst X19.here hx rfl (hb hby at_103) hr) ?_
      show Runs p e below _ (T19.setTop (mkF m 104 #[.val (.int p0), .val (.int p1), .val (.int p2), .val (.int cc), .val (.int aa), .val (.int (p2.toInt8.toInt32)), .val (.ref b1), .val (.int (aa + own_n cc)), .unset, .unset, .unset, .unset, .unset, .unset, .unset] [(.int (2 : Int32))]))
      refine Runs.by (fun _ hr => XS.istore X19.here hx rfl (hb hby at_104) rfl (l' := #[.val (.int p0), .val (.int p1), .val (.int p2), .val (.int cc), .val (.int aa), .val (.int (p2.toInt8.toInt32)), .val (.ref b1), .val (.int (aa + own_n cc)), .val (.int (2 : Int32)), .unset, .unset, .unset, .unset, .unset, .unset]) rfl hr) ?_
      show Runs p e below _ (T19.setTop (mkF m 106 #[.val (.int p0), .val (.int p1), .val (.int p2), .val (.int cc), .val (.int aa), .val (.int (p2.toInt8.toInt32)), .val (.ref b1), .val (.int (aa + own_n cc)), .val (.int (2 : Int32)), .unset, .unset, .unset, .unset, .unset, .unset] []))
      refine Runs.by (fun _ hr => XS.goto X19.here hx rfl (pc0 := 106) (pc' := 124) rfl (hb hby at_106) (by decide) (by decide) hr) ?_
      have en : own_n cc = (2 : Int32) := by simp [own_n, *]
      rw [en] at J124
      show Runs p e below _ (T19.setTop (mkF m 124 #[.val (.int p0), .val (.int p1), .val (.int p2), .val (.int cc), .val (.int aa), .val (.int (p2.toInt8.toInt32)), .val (.ref b1), .val (.int (aa + own_n cc)), .val (.int (2 : Int32)), .unset, .unset, .unset, .unset, .unset, .unset] []))
      rw [en]
      exact J124  _ _ X19 rfl N19 
    · -- pc 100: not cc < (2048 : Int32)
      refine Runs.by (fun _ hr => XS.icmpYes X19.here hx rfl (pc0 := 100) (pc' := 109) rfl (hb hby at_100) rfl (flt hc100).2.1 (by decide) (by decide) hr) ?_
      show Runs p e below _ (T19.setTop (mkF m 109 #[.val (.int p0), .val (.int p1), .val (.int p2), .val (.int cc), .val (.int aa), .val (.int (p2.toInt8.toInt32)), .val (.ref b1), .val (.int (aa + own_n cc)), .unset, .unset, .unset, .unset, .unset, .unset, .unset] []))
      refine Runs.by (fun _ hr => XS.iloadN X19.here hx rfl (hb hby at_109) rfl  hr) ?_
      show Runs p e below _ (T19.setTop (mkF m 110 #[.val (.int p0), .val (.int p1), .val (.int p2), .val (.int cc), .val (.int aa), .val (.int (p2.toInt8.toInt32)), .val (.ref b1), .val (.int (aa + own_n cc)), .unset, .unset, .unset, .unset, .unset, .unset, .unset] [(.int cc)]))
      refine Runs.by (fun _ hr => X19.ldcI hx hown (mvT hZ (hw _ (List.mem_of_getElem? (i := 15) rfl))) (g := (mkF m 110 #[.val (.int p0), .val (.int p1), .val (.int p2), .val (.int cc), .val (.int aa), .val (.int (p2.toInt8.toInt32)), .val (.ref b1), .val (.int (aa + own_n cc)), .unset, .unset, .unset, .unset, .unset, .unset, .unset] [(.int cc)])) rfl (hb hby at_110) hr) ?_
      show Runs p e below _ (T19.setTop (mkF m 112 #[.val (.int p0), .val (.int p1), .val (.int p2), .val (.int cc), .val (.int aa), .val (.int (p2.toInt8.toInt32)), .val (.ref b1), .val (.int (aa + own_n cc)), .unset, .unset, .unset, .unset, .unset, .unset, .unset] [(.int (65536 : Int32)), (.int cc)]))
      by_cases hc112 : cc < (65536 : Int32)
      · -- pc 112: cc < (65536 : Int32)
        refine Runs.by (fun _ hr => XS.icmpNo X19.here hx rfl (hb hby at_112) rfl (tlt hc112).2.1 hr) ?_
        show Runs p e below _ (T19.setTop (mkF m 115 #[.val (.int p0), .val (.int p1), .val (.int p2), .val (.int cc), .val (.int aa), .val (.int (p2.toInt8.toInt32)), .val (.ref b1), .val (.int (aa + own_n cc)), .unset, .unset, .unset, .unset, .unset, .unset, .unset] []))
        refine Runs.by (fun _ hr => XS.iconst X19.here hx rfl (hb hby at_115) hr) ?_
        show Runs p e below _ (T19.setTop (mkF m 116 #[.val (.int p0), .val (.int p1), .val (.int p2), .val (.int cc), .val (.int aa), .val (.int (p2.toInt8.toInt32)), .val (.ref b1), .val (.int (aa + own_n cc)), .unset, .unset, .unset, .unset, .unset, .unset, .unset] [(.int (3 : Int32))]))
        refine Runs.by (fun _ hr => XS.istore X19.here hx rfl (hb hby at_116) rfl (l' := #[.val (.int p0), .val (.int p1), .val (.int p2), .val (.int cc), .val (.int aa), .val (.int (p2.toInt8.toInt32)), .val (.ref b1), .val (.int (aa + own_n cc)), .val (.int (3 : Int32)), .unset, .unset, .unset, .unset, .unset, .unset]) rfl hr) ?_
        show Runs p e below _ (T19.setTop (mkF m 118 #[.val (.int p0), .val (.int p1), .val (.int p2), .val (.int cc), .val (.int aa), .val (.int (p2.toInt8.toInt32)), .val (.ref b1), .val (.int (aa + own_n cc)), .val (.int (3 : Int32)), .unset, .unset, .unset, .unset, .unset, .unset] []))
        refine Runs.by (fun _ hr => XS.goto X19.here hx rfl (pc0 := 118) (pc' := 124) rfl (hb hby at_118) (by decide) (by decide) hr) ?_
        have en : own_n cc = (3 : Int32) := by simp [own_n, *]
        rw [en] at J124
        show Runs p e below _ (T19.setTop (mkF m 124 #[.val (.int p0), .val (.int p1), .val (.int p2), .val (.int cc), .val (.int aa), .val (.int (p2.toInt8.toInt32)), .val (.ref b1), .val (.int (aa + own_n cc)), .val (.int (3 : Int32)), .unset, .unset, .unset, .unset, .unset, .unset] []))
        rw [en]
        exact J124  _ _ X19 rfl N19 
      · -- pc 112: not cc < (65536 : Int32)
        refine Runs.by (fun _ hr => XS.icmpYes X19.here hx rfl (pc0 := 112) (pc' := 121) rfl (hb hby at_112) rfl (flt hc112).2.1 (by decide) (by decide) hr) ?_
        show Runs p e below _ (T19.setTop (mkF m 121 #[.val (.int p0), .val (.int p1), .val (.int p2), .val (.int cc), .val (.int aa), .val (.int (p2.toInt8.toInt32)), .val (.ref b1), .val (.int (aa + own_n cc)), .unset, .unset, .unset, .unset, .unset, .unset, .unset] []))
        refine Runs.by (fun _ hr => XS.iconst X19.here hx rfl (hb hby at_121) hr) ?_
        show Runs p e below _ (T19.setTop (mkF m 122 #[.val (.int p0), .val (.int p1), .val (.int p2), .val (.int cc), .val (.int aa), .val (.int (p2.toInt8.toInt32)), .val (.ref b1), .val (.int (aa + own_n cc)), .unset, .unset, .unset, .unset, .unset, .unset, .unset] [(.int (4 : Int32))]))
        refine Runs.by (fun _ hr => XS.istore X19.here hx rfl (hb hby at_122) rfl (l' := #[.val (.int p0), .val (.int p1), .val (.int p2), .val (.int cc), .val (.int aa), .val (.int (p2.toInt8.toInt32)), .val (.ref b1), .val (.int (aa + own_n cc)), .val (.int (4 : Int32)), .unset, .unset, .unset, .unset, .unset, .unset]) rfl hr) ?_
        have en : own_n cc = (4 : Int32) := by simp [own_n, *]
        rw [en] at J124
        show Runs p e below _ (T19.setTop (mkF m 124 #[.val (.int p0), .val (.int p1), .val (.int p2), .val (.int cc), .val (.int aa), .val (.int (p2.toInt8.toInt32)), .val (.ref b1), .val (.int (aa + own_n cc)), .val (.int (4 : Int32)), .unset, .unset, .unset, .unset, .unset, .unset] []))
        rw [en]
        exact J124  _ _ X19 rfl N19 
set_option maxRecDepth 65536 in
set_option maxHeartbeats 40000000 in
theorem comes_1 {Post : Tables → Env → Array Value → State → Outcome → State → Prop} (hpost : ∀ tb e args s v u, (limb_1_1.after args s (.returned v) u = true ∧ limb_1_2.after args s (.returned v) u = true ∧ True) → FrameEnd s (.returned v) u (Jvm.fieldLocs frame_1_writes args s ++ Jvm.arrayLocs frame_1_arrays args s ++ Jvm.staticLocs frame_1_statics s) 16 128 → Post tb e args s (.returned v) u) :
    ArmFor flags0 classFile x code maxLocals ret World_1 tables_1 room_1 Calls_1 rest_1 Pre_1 Post := by
  intro l hfl _ _ p e ha hc hk s m args below hf hA hF happ hP
  obtain ⟨hcalls, hrest, hpre⟩ := hP
  obtain ⟨-, -, -, hnamed, -, -, -, hat⟩ := (Spec.applies_iff hf).mp happ
  obtain ⟨hg, hn⟩ := and_e (Cond.before_iff.mp (show (Jvm.Cond.and given_1 narrow_1).before args s = true from hpre))
  obtain ⟨g1, g2⟩ := and_e hg
  obtain ⟨g3, g4⟩ := and_e g2
  obtain ⟨g5, g6⟩ := and_e g4
  obtain ⟨w0, w1, w2, rfl⟩ : ∃ w0 w1 w2 : Value, args = #[w0, w1, w2] := by
    have hs : args.size = 3 := by simpa [Cond.value, given_1] using g1
    obtain ⟨L⟩ := args
    match L, hs with
    | [w0, w1, w2], _ => exact ⟨w0, w1, w2, rfl⟩
  have hw := fun d (hd : d ∈ tables_1) => atoms_spec (ws := Jvm.Cond.code x code maxLocals ret :: tables_1) hat d (List.mem_cons_of_mem _ hd)
  have hfit : Fit s := fun {y c} hc i hi => by
    obtain ⟨ha, rfl⟩ := Array.getElem?_eq_some_iff.mp hc
    have q := List.all_eq_true.mp ((Array.all_eq_true_iff_forall_mem.mp hF) _ (Array.getElem_mem ha)) i (List.mem_range.mpr hi)
    simpa [Array.getElem?_eq_getElem hi] using q
  obtain ⟨i0, ei0⟩ := is_v g3
  obtain rfl : w0 = (.int i0) := Option.some.inj ei0
  obtain ⟨i1, ei1⟩ := is_v g5
  obtain rfl : w1 = (.int i1) := Option.some.inj ei1
  obtain ⟨i2, ei2⟩ := is_v g6
  obtain rfl : w2 = (.int i2) := Option.some.inj ei2
  obtain ⟨n, o, h1, h2, h3, _, L, rfl, ⟨rfl, N⟩, hq⟩ := rm0 l s _ hw tables_1 i0 i1 i2 s.heap s.heap.size (Nat.le_refl _)  p e ha hc hk s m _ below hf ((Spec.applies_iff_loose hf).mp happ).1 ⟨rfl, State.Warmed39.refl s, rfl⟩ trivial
  refine ⟨n, _, h1, h2, h3, hpost _ _ _ _ _ _ ⟨Cond.after_iff.mpr rfl, Cond.after_iff.mpr (eq_i res_at (Term.int_eval (1)) rfl), trivial⟩ ⟨hq.1, hq.2.1, (hq.2.2.sift fun y hy => Or.inr (N y hy)).mono (by decide) (by decide)⟩⟩
theorem main_1_1 : Claimed_1_1 := comes_1 fun _ _ _ _ _ _ h hF => ⟨h.1, hF⟩
theorem main_1_2 : Claimed_1_2 := comes_1 fun _ _ _ _ _ _ h hF => ⟨h.2.1, hF⟩
end Jvm.Pilot.@@N@@
namespace Jvm.Pilot.@@N@@
open Jvm Jvm.ClassFile Sem Op Lib Jvm.Free Jvm.Stand Jvm.Pilot.@@N@@.Jvm.D
/-! MADE BY PROGRAM (witnessworld.py) out of the Statement's table words and the real class files: 9 classes; the members and pool entries that the words name. The judged class is class 1, her method 3. -/
namespace start1
open Jvm.ClassFile
def u (s : String) : CpInfo := .utf8 (stringToUtf16 s)
/-- a pool by its gaps: so many unusable entries, then the entry; so many at the end -/
def gap : Nat → List CpInfo → List CpInfo
  | 0, r => r
  | n + 1, r => .unusable :: gap n r
def poolList (es : List (Nat × CpInfo)) (last : Nat) : List CpInfo := es.foldr (fun e r => gap e.1 (e.2 :: r)) (gap last [])
def pool (es : List (Nat × CpInfo)) (last : Nat) : Array CpInfo := ⟨poolList es last⟩
def fileOf (pool : Array CpInfo) (this : Nat) (attrs : Array Attribute := #[]) (ms : Array MethodInfo := #[]) (fl : Nat := 33) (sup : Nat := 0) (ifs : Array Nat := #[]) (fds : Array FieldInfo := #[]) : ClassFile where
  minorVersion := 0
  majorVersion := 65
  constantPool := pool
  accessFlags := fl
  thisClass := this
  superClass := sup
  interfaces := ifs
  fields := fds
  methods := ms
  attributes := attrs
def plain (name : String) (sup : Option ClassId) : Class where
  name := name
  kind := .ordinary
  loader := none
  accessFlags := 33
  super := sup
  interfaces := #[]
  cf := none
  fields := #[]
  methods := #[]
  instanceTypes := #[]
  staticTypes := #[]
  resolved := #[]
  callSites := []
  init := .initialized
  statics := none
  mirror := none

def pool0 : Array CpInfo := pool [(5, u "<init>"), (0, u "()V"), (1, .class_ 10), (1, u "java/lang/Object")] 113

def k0m0 : Method := { name := "<init>", desc := "()V", sig := { parameters := [], returnType := none }, accessFlags := 1, code := none }
/-- java/lang/Object -/
def k0 : Class := { plain "java/lang/Object" none with
  accessFlags := 33
  interfaces := #[]
  cf := some (fileOf pool0 8 #[] #[{ accessFlags := 1, nameIndex := 5, descriptorIndex := 6, attributes := #[] }] 33 0 #[] #[])
  fields := #[]
  methods := #[k0m0]
  instanceTypes := #[]
  staticTypes := #[]
  resolved := Array.replicate 124 none
  statics := none }

def pool1 : Array CpInfo := pool [(2, .class_ 4), (1, u "java/lang/Object"), (0, u "<init>"), (0, u "()V"), (0, .integer 2147483647), (0, .integer 1114112), (0, .methodref 10 11), (0, .class_ 12), (0, .nameAndType 13 14), (0, u "com/example/usher/usher/Utf8Validator"), (0, u "encode"), (0, u "(I[BI)I"), (0, .integer 65536), (0, .methodref 17 18), (0, .class_ 19), (0, .nameAndType 20 21), (0, u "com/example/usher/usher/Utf8ValidatorEncodePinLaw"), (0, u "cont"), (0, u "(I)Z"), (0, .methodref 17 23), (0, .nameAndType 24 25), (0, u "untouched"), (0, u "([BIIIB)Z"), (3, u "law"), (0, u "(III)Z")] 4

def k1m0 : Method := { name := "<init>", desc := "()V", sig := { parameters := [], returnType := none }, accessFlags := 1, code := none }
def k1c1 : Code := { maxStack := 2, maxLocals := 1, code := method_2_code, exceptionTable := #[], attributes := #[] }
def k1m1 : Method := { name := "cont", desc := "(I)Z", sig := { parameters := [.int], returnType := some .boolean }, accessFlags := 10, code := some k1c1 }
def k1c2 : Code := { maxStack := 2, maxLocals := 5, code := method_3_code, exceptionTable := #[], attributes := #[] }
def k1m2 : Method := { name := "untouched", desc := "([BIIIB)Z", sig := { parameters := [(.array .byte), .int, .int, .int, .byte], returnType := some .boolean }, accessFlags := 10, code := some k1c2 }
def k1c3 : Code := { maxStack := 5, maxLocals := 15, code := code, exceptionTable := #[], attributes := #[] }
def k1m3 : Method := { name := "law", desc := "(III)Z", sig := { parameters := [.int, .int, .int], returnType := some .boolean }, accessFlags := 9, code := some k1c3 }
/-- com/example/usher/usher/Utf8ValidatorEncodePinLaw -/
def k1 : Class := { plain "com/example/usher/usher/Utf8ValidatorEncodePinLaw" (some 0) with
  accessFlags := 49
  interfaces := #[]
  cf := some (fileOf pool1 17 #[] #[{ accessFlags := 1, nameIndex := 5, descriptorIndex := 6, attributes := #[] }, { accessFlags := 10, nameIndex := 20, descriptorIndex := 21, attributes := #[] }, { accessFlags := 10, nameIndex := 24, descriptorIndex := 25, attributes := #[] }, { accessFlags := 9, nameIndex := 29, descriptorIndex := 30, attributes := #[] }] 49 2 #[] #[])
  fields := #[]
  methods := #[k1m0, k1m1, k1m2, k1m3]
  instanceTypes := #[]
  staticTypes := #[]
  resolved := Array.replicate 35 none
  statics := none }

def pool2 : Array CpInfo := pool [(2, .class_ 4), (1, u "java/lang/Object"), (0, u "<init>"), (0, u "()V"), (1, .class_ 10), (1, u "com/example/usher/usher/Utf8Validator"), (0, u "lowest"), (0, u "I"), (2, u "highest"), (2, u "following"), (48, .integer 65536), (19, u "encode"), (0, u "(I[BI)I")] 2

def k2m0 : Method := { name := "<init>", desc := "()V", sig := { parameters := [], returnType := none }, accessFlags := 0, code := none }
def k2c1 : Code := { maxStack := 5, maxLocals := 4, code := prog_28_method_6_code, exceptionTable := #[], attributes := #[] }
def k2m1 : Method := { name := "encode", desc := "(I[BI)I", sig := { parameters := [.int, (.array .byte), .int], returnType := some .int }, accessFlags := 8, code := some k2c1 }
/-- com/example/usher/usher/Utf8Validator -/
def k2 : Class := { plain "com/example/usher/usher/Utf8Validator" (some 0) with
  accessFlags := 48
  interfaces := #[]
  cf := some (fileOf pool2 8 #[] #[{ accessFlags := 0, nameIndex := 5, descriptorIndex := 6, attributes := #[] }, { accessFlags := 8, nameIndex := 87, descriptorIndex := 88, attributes := #[] }] 48 2 #[] #[{ accessFlags := 2, nameIndex := 18, descriptorIndex := 12, attributes := #[] }, { accessFlags := 2, nameIndex := 11, descriptorIndex := 12, attributes := #[] }, { accessFlags := 2, nameIndex := 15, descriptorIndex := 12, attributes := #[] }])
  fields := #[{ name := "following", type := .int, accessFlags := 2, slot := 0, constantValue := 0 }, { name := "lowest", type := .int, accessFlags := 2, slot := 1, constantValue := 0 }, { name := "highest", type := .int, accessFlags := 2, slot := 2, constantValue := 0 }]
  methods := #[k2m0, k2m1]
  instanceTypes := #[.int, .int, .int]
  staticTypes := #[]
  resolved := Array.replicate 91 none
  statics := none }

def pool3 : Array CpInfo := pool [(1, u "java/lang/Cloneable"), (0, .class_ 1), (0, u "java/lang/Object"), (0, .class_ 3)] 3

/-- java/lang/Cloneable -/
def k3 : Class := { plain "java/lang/Cloneable" (some 0) with
  accessFlags := 1537
  interfaces := #[]
  cf := some (fileOf pool3 2 #[] #[] 1537 4 #[] #[])
  fields := #[]
  methods := #[]
  instanceTypes := #[]
  staticTypes := #[]
  resolved := Array.replicate 8 none
  statics := none }

def pool4 : Array CpInfo := pool [(1, u "java/io/Serializable"), (0, .class_ 1), (0, u "java/lang/Object"), (0, .class_ 3)] 3

/-- java/io/Serializable -/
def k4 : Class := { plain "java/io/Serializable" (some 0) with
  accessFlags := 1537
  interfaces := #[]
  cf := some (fileOf pool4 2 #[] #[] 1537 4 #[] #[])
  fields := #[]
  methods := #[]
  instanceTypes := #[]
  staticTypes := #[]
  resolved := Array.replicate 8 none
  statics := none }

/-- the primitive byte -/
def k5 : Class := { plain "byte" none with kind := .primitive 'B', accessFlags := 0x411 }
/-- [B -/
def k6 : Class := { plain "[B" (some 0) with kind := .array 5 .byte, interfaces := #[3, 4], accessFlags := 1041 }

/-- the primitive int -/
def k7 : Class := { plain "int" none with kind := .primitive 'I', accessFlags := 0x411 }
/-- [I -/
def k8 : Class := { plain "[I" (some 0) with kind := .array 7 .int, interfaces := #[3, 4], accessFlags := 1041 }

def heap : Heap := #[]
def classes : Array Class := #[k0, k1, k2, k3, k4, k5, k6, k7, k8]
def interned : List (Array UInt16 × Addr) := []
def slotsUsed : Nat := 0
def theMethod : MethodId := ⟨1, 3⟩
def args0 : Array Value := #[.int 3, .int 5, .int 7]
def aboutOver (below : List Frame) : State where
  vm := { classes := classes, interned := interned.toArray }
  heap := heap
  slotsUsed := slotsUsed
  threads := #[{ frames := .invoking theMethod args0 :: below }]
def below0 : List Frame := [.native { method := ⟨0, 0⟩, args := #[] }]
def about1 : State := aboutOver below0
def p0 : Program := .bare "" "" ""
def e0 : Env := launch0.env 0 0 0
theorem w_frames : about1.frames = Frame.invoking theMethod args0 :: below0 := rfl
set_option maxRecDepth 65536 in
theorem w_args : argsFit about1.vm theMethod args0 = true := by decide +kernel
set_option maxRecDepth 65536 in
theorem w_heap : heapFits about1 = true := by decide +kernel
set_option maxRecDepth 65536 in
theorem w_runnable : about1.curStatus? = some .runnable := by decide +kernel
set_option maxRecDepth 65536 in
theorem w_alone : about1.alone = true := by decide +kernel
set_option maxRecDepth 65536 in
theorem w_named : about1.methodNamed? x = some theMethod := by decide +kernel
set_option maxRecDepth 65536 in
theorem w_hears : about1.hears theMethod below0 = true := by decide +kernel
set_option maxRecDepth 65536 in
theorem w_ripe : about1.ripe theMethod args0 below0 = true := by decide +kernel
theorem w_running : about1.status = .running := rfl
set_option maxRecDepth 65536 in
theorem w_room : about1.hasRoom e0.platform room_1 = true :=
  launch0.hasRoom_least _ room_1 (by decide +kernel) (by decide +kernel) (by decide +kernel) (by decide +kernel) (by decide +kernel) (by decide +kernel)
theorem allAtoms_all (ts : List Jvm.Cond) (a : Array Jvm.Value) (st : Jvm.State) : (allAtoms ts).before a st = ts.all (fun c => c.before a st) := by
  induction ts with
  | nil => rfl
  | cons c t ih =>
    show (Jvm.Cond.and c (allAtoms t)).before a st = _
    rw [Jvm.Cond.before_and, ih, List.all_cons]
def words1 : List Jvm.Cond := Jvm.Cond.code x code maxLocals ret :: tables_1
/-- a 'code' word, met by the world's own term for the bytes: nothing is compared byte by byte -/
theorem code_word {y : MethodName} {bytes : ByteArray} {mx : Nat} {rt : Option FieldType} {a : Array Value} {s : State} {m : MethodId} {meth : Method} {c : Code} (h1 : s.methodNamed? y = some m) (h2 : s.vm.method? m = some meth) (h3 : meth.code = some c) (h4 : c.code = bytes)
    (h5 : (c.maxLocals == mx && c.exceptionTable.isEmpty && decide (c.maxStack ≤ mostOperands) && decide (meth.sig.returnType = rt) && !meth.locks && decide (parseMethodDescriptor y.desc = some meth.sig)) = true) : (Jvm.Cond.code y bytes mx rt).before a s = true := by
  simp only [Bool.and_eq_true, beq_iff_eq, Bool.not_eq_true', decide_eq_true_eq] at h5
  obtain ⟨⟨⟨⟨⟨g1, g2⟩, g3⟩, g4⟩, g5⟩, g6⟩ := h5
  simp [Cond.before, Cond.holds, Cond.value, h1, h2, h3, h4, g1, g2, g3, g4, g5, g6]
def isCode : Jvm.Cond → Bool
  | .code _ _ _ _ => true
  | _ => false
theorem all_split {L : List Jvm.Cond} {P : Jvm.Cond → Bool} (h1 : L.all (fun c => isCode c || P c) = true) (h2 : ∀ c ∈ L.filter isCode, P c = true) : L.all P = true := by
  refine List.all_eq_true.mpr fun c hc => ?_
  have h := List.all_eq_true.mp h1 c hc
  rcases Bool.eq_false_or_eq_true (isCode c) with hi | hi
  · exact h2 c (List.mem_filter.mpr ⟨hc, hi⟩)
  · simpa [hi] using h
set_option maxRecDepth 65536 in
theorem w_c0 : (Jvm.Cond.code x code maxLocals ret).before args0 about1 = true := code_word (m := ⟨1, 3⟩) (meth := k1m3) (c := k1c3) (by decide +kernel) rfl rfl rfl (by decide +kernel)
set_option maxRecDepth 65536 in
theorem w_c1 : (Jvm.Cond.code ({ cls := "com/example/usher/usher/Utf8Validator", name := "encode", desc := "(I[BI)I" } : Jvm.MethodName) prog_28_method_6_code (4 : Nat) (Option.some Jvm.ClassFile.FieldType.int)).before args0 about1 = true := code_word (m := ⟨2, 1⟩) (meth := k2m1) (c := k2c1) (by decide +kernel) rfl rfl rfl (by decide +kernel)
set_option maxRecDepth 65536 in
theorem w_c2 : (Jvm.Cond.code ({ cls := "com/example/usher/usher/Utf8ValidatorEncodePinLaw", name := "untouched", desc := "([BIIIB)Z" } : Jvm.MethodName) method_3_code (5 : Nat) (Option.some Jvm.ClassFile.FieldType.boolean)).before args0 about1 = true := code_word (m := ⟨1, 2⟩) (meth := k1m2) (c := k1c2) (by decide +kernel) rfl rfl rfl (by decide +kernel)
set_option maxRecDepth 65536 in
theorem w_c3 : (Jvm.Cond.code ({ cls := "com/example/usher/usher/Utf8ValidatorEncodePinLaw", name := "cont", desc := "(I)Z" } : Jvm.MethodName) method_2_code (1 : Nat) (Option.some Jvm.ClassFile.FieldType.boolean)).before args0 about1 = true := code_word (m := ⟨1, 1⟩) (meth := k1m1) (c := k1c1) (by decide +kernel) rfl rfl rfl (by decide +kernel)
def codes1 : List Jvm.Cond := [Jvm.Cond.code x code maxLocals ret, Jvm.Cond.code ({ cls := "com/example/usher/usher/Utf8Validator", name := "encode", desc := "(I[BI)I" } : Jvm.MethodName) prog_28_method_6_code (4 : Nat) (Option.some Jvm.ClassFile.FieldType.int), Jvm.Cond.code ({ cls := "com/example/usher/usher/Utf8ValidatorEncodePinLaw", name := "untouched", desc := "([BIIIB)Z" } : Jvm.MethodName) method_3_code (5 : Nat) (Option.some Jvm.ClassFile.FieldType.boolean), Jvm.Cond.code ({ cls := "com/example/usher/usher/Utf8ValidatorEncodePinLaw", name := "cont", desc := "(I)Z" } : Jvm.MethodName) method_2_code (1 : Nat) (Option.some Jvm.ClassFile.FieldType.boolean)]
set_option maxRecDepth 65536 in
theorem codes_eq : words1.filter isCode = codes1 := rfl
theorem w_codes : ∀ c ∈ words1.filter isCode, c.before args0 about1 = true := by
  rw [codes_eq]
  intro c hc
  simp only [codes1, List.mem_cons, List.not_mem_nil, or_false] at hc
  rcases hc with rfl | rfl | rfl | rfl
  · exact w_c0
  · exact w_c1
  · exact w_c2
  · exact w_c3
set_option maxRecDepth 65536 in
theorem w_t1 : words1.all (fun c => isCode c || c.before args0 about1) = true := by decide +kernel
theorem w_tables : (allAtoms (Jvm.Cond.code x code maxLocals ret :: tables_1)).before args0 about1 = true := by
  rw [allAtoms_all]
  show words1.all (fun c => c.before args0 about1) = true
  refine all_split ?_ w_codes
  rw [w_t1]
set_option maxRecDepth 65536 in
theorem w_case : (Jvm.Cond.and given_1 narrow_1).before args0 about1 = true := by decide +kernel
theorem w_applies : (headSpec (Jvm.Cond.code x code maxLocals ret :: tables_1) room_1).applies x e0.platform about1 = true :=
  (Spec.applies_iff w_frames).mpr ⟨w_running, w_runnable, w_alone, w_named, w_hears, w_ripe, w_room, w_tables⟩
theorem atStart : AtStart classFile x code maxLocals ret World_1 tables_1 room_1 Calls_1 rest_1 Pre_1 launch0 p0 e0 about1 theMethod args0 below0 :=
  ⟨lists_1, trivial, launch0.admits_env _ _ _, launch0.least_env, fairChoices_fair.cas, fairChoices_fair.clock, w_frames, w_args, w_heap, w_applies, trivial, trivial, w_case⟩
end start1
theorem witness_1 : WitnessClaimed_1 := ⟨start1.p0, start1.e0, start1.about1, start1.theMethod, start1.args0, start1.below0, start1.atStart⟩
end Jvm.Pilot.@@N@@
