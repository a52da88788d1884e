import JvmDerived
import JvmDerived.Pilot.@@N@@Statement
import JvmDerived.Pilot.@@N@@Code
set_option linter.unusedVariables false
set_option linter.unusedSimpArgs false
@@BLOCK:NumsL.lean.txt@@
namespace Jvm.RoadKit
open Sem ClassFile Op Lib Jvm.Stand Jvm.Free Jvm.LawKit
section OwnRuns
variable {p : Program} {l : Launch} {e : Env} {R : Room} {s : State} {m : MethodId} {args : Array Value} {below : List Frame} {meth : Method} {c : Code} {T : State} {locs : List Loc} {cells slots : Nat}
/-- from U the invocation comes to its end, and there Q holds -/
def Runs (p : Program) (e : Env) (below : List Frame) (Q : Outcome → State → Prop) (U : State) : Prop :=
  ∃ s₂ o, Steps p.tables e below U s₂ ∧ s₂.status = .running ∧ Ended s₂ below o ∧ Q o s₂
def QE (s : State) (Q : Option Value → Heap → List Loc → Prop) (C S : Nat) : Outcome → State → Prop :=
  fun o U' => ∃ v L, o = .returned v ∧ Q v U'.heap L ∧ FrameEnd s o U' L C S
theorem Runs.by {Q : Outcome → State → Prop} {U U' : State} (h : ∀ t, Steps p.tables e below U' t → Steps p.tables e below U t) (k : Runs p e below Q U') : Runs p e below Q U := by
  obtain ⟨s2, o, h1, h2⟩ := k
  exact ⟨s2, o, h _ h1, h2⟩
theorem Runs.ret {Q : Option Value → Heap → List Loc → Prop} {C S : Nat} {t : FieldType} {w : Value} {i : Instr} {pc : Nat} {Ls : Array Slot} {rest : List Value}
    (X : Stand p l e R s m args below meth c T locs cells slots) (hx : p.tables.exec = Jvm.exec) (hret : meth.sig.returnType = some t) (hlk : meth.locks = false)
    (hi : (i = .ireturn ∧ (t = .int ∨ t = .boolean ∨ t = .byte ∨ t = .char ∨ t = .short) ∧ ∃ z, w = .int z) ∨ (i = .lreturn ∧ t = .long ∧ ∃ z, w = .long z) ∨ (i = .dreturn ∧ t = .double ∧ ∃ z, w = .double z) ∨ (i = .freturn ∧ t = .float ∧ ∃ z, w = .float z) ∨ (i = .areturn ∧ t.isReference = true ∧ w.isRef = true))
    (hn : narrow t w = w) (hd : decode c.code pc = .ok (i, 1)) (hC : cells ≤ C) (hS : slots ≤ S) (hQ : Q (some w) T.heap locs) : Runs p e below (QE s Q C S) (T.setTop (mkF m pc Ls (w :: rest))) := by
  obtain ⟨fs, hr, hrun, hended, hW, hsame⟩ := X.leave (v := some w) (fun h => by rw [hret] at h; cases h) hlk
  exact ⟨_, _, retOut X hx hret hn hi hd hr, hrun, hended, _, _, rfl, hQ, ⟨_, rfl⟩, hW, hsame.mono hC hS⟩
theorem Runs.retV {Q : Option Value → Heap → List Loc → Prop} {C S : Nat} {pc : Nat} {Ls : Array Slot}
    (X : Stand p l e R s m args below meth c T locs cells slots) (hx : p.tables.exec = Jvm.exec) (hret : meth.sig.returnType = none) (hlk : meth.locks = false)
    (hd : decode c.code pc = .ok (.return_, 1)) (hC : cells ≤ C) (hS : slots ≤ S) (hQ : Q none T.heap locs) : Runs p e below (QE s Q C S) (T.setTop (mkF m pc Ls [])) := by
  obtain ⟨fs, hr, hrun, hended, hW, hsame⟩ := X.leave (v := none) (fun _ => rfl) hlk
  exact ⟨_, _, X.returnOut hx hret hd hr, hrun, hended, _, _, rfl, hQ, ⟨_, rfl⟩, hW, hsame.mono hC hS⟩
theorem own_narrow_b (x : Int32) (h : x = 0 ∨ x = 1) : narrow .boolean (.int x) = .int x := by rcases h with rfl | rfl <;> rfl
end OwnRuns
theorem own_selp {Z s : State} {a0 args : Array Value} {y : MethodName} {n : Nat} (hZ : Z.Warmed39 s.vm) (wi : (Cond.instantiable y.cls n).before a0 Z = true) (wp : (Cond.privateMethod y).before a0 Z = true) (wm : (Cond.instanceMethod y).before a0 Z = true) (hy : y.cls ≠ "java/lang/invoke/MethodHandle" ∧ y.cls ≠ "java/lang/invoke/VarHandle") : (Cond.selects y.cls y y).before args s = true := by
  obtain ⟨c, k, h1, h2, h3, h4, -⟩ := Cond.instantiable_spec (mvT (args := args) hZ wi)
  exact selects_self_of_private h1 h2 (by simp only [Bool.or_eq_false_iff] at h4; exact h4.1) (Cond.privateMethod_at (mvP hZ wp (args := args))) (mvT hZ wm) hy
theorem own_nneg {z : Int32} (h : 0 ≤ z.toInt) : ¬ z < 0 := by
  have e0 : (0 : Int32).toInt = 0 := by decide
  rw [Int32.lt_iff_toInt_lt]; omega
theorem own_cap {z : Int32} {n : Nat} (h : z.toInt ≤ n) : z.toNatClampNeg ≤ n := by show Int.toNat _ ≤ _; omega
section OwnArf
variable {Z : State} {h h' : Heap} {a b : Addr} {k : ClassId} {ty : FieldType} {z j : Int32} {f g : Nat → Value} {v w : Value} {sl : Nat} {ws : List Addr} {c : Cell}
def own_up {α : Type} (f : Nat → α) (n : Nat) (x : α) : Nat → α := fun i => if i = n then x else f i
theorem own_up_same {α : Type} (f : Nat → α) (n : Nat) (x : α) : own_up f n x n = x := by simp [own_up]
theorem own_up_ne {α : Type} (f : Nat → α) {n i : Nat} (x : α) (q : i ≠ n) : own_up f n x i = f i := by simp [own_up, q]
/-- an array: its class, its length, what stands at each place -/
def Arf (Z : State) (h : Heap) (a : Addr) (k : ClassId) (ty : FieldType) (z : Int32) (f : Nat → Value) : Prop :=
  ∃ c : Cell, Arr Z h a c ty ∧ c.cls = k ∧ c.slots.size = z.toNatClampNeg ∧ ¬ z < 0 ∧ ∀ i, i < z.toNatClampNeg → c.slots[i]? = some (f i)
theorem Arf.lt (F : Arf Z h a k ty z f) : a < h.size := by obtain ⟨c, A, -⟩ := F; exact A.lt
theorem Arf.ext (F : Arf Z h a k ty z f) (E : Ext h h') : Arf Z h' a k ty z f := by obtain ⟨c, A, r⟩ := F; exact ⟨c, A.ext E, r⟩
theorem Arf.other (F : Arf Z h b k ty z f) (W : Wr h h' a sl v) (q : b ≠ a) : Arf Z h' b k ty z f := by obtain ⟨c, A, r⟩ := F; exact ⟨c, A.other W q, r⟩
theorem Arf.keep (F : Arf Z h a k ty z f) (K : Keep h h' ws) (q : a ∉ ws) : Arf Z h' a k ty z f := by obtain ⟨c, A, r⟩ := F; exact ⟨c, ⟨K.2.1 a c A.1 q, A.2⟩, r⟩
theorem Arf.cast (F : Arf Z h a k ty z f) (e : ∀ i, i < z.toNatClampNeg → f i = g i) : Arf Z h a k ty z g := by obtain ⟨c, A, r1, r2, r3, H⟩ := F; exact ⟨c, A, r1, r2, r3, fun i hi => by rw [H i hi, e i hi]⟩
theorem Arf.new (A : Arr Z h a (newA k ty z) ty) (q : ¬ z < 0) : Arf Z h a k ty z (fun _ => defaultValue ty) := ⟨_, A, rfl, sz_new _ _ _, q, fun i hi => by simp [newA, hi]⟩
theorem Arf.set {n : Nat} (A : Arr Z h a c ty) (q1 : c.cls = k) (S : c.slots.size = z.toNatClampNeg) (q3 : ¬ z < 0) (H : ∀ i, i < z.toNatClampNeg → c.slots[i]? = some (f i)) (W : Wr h h' a j.toNatClampNeg v) (hj : j.toNatClampNeg = n) : Arf Z h' a k ty z (own_up f n v) := by
  refine ⟨_, A.same W, q1, by rw [sz_set]; exact S, q3, fun i hi => ?_⟩
  rw [hj]
  by_cases u : i = n
  · subst u; simp [Cell.setSlot, own_up, S, hi]
  · have := H i hi; simp only [Cell.setSlot, own_up, u, if_false] at this ⊢
    rw [Array.getElem?_setIfInBounds_ne (Ne.symm u)]; exact this
theorem own_ix {j z : Int32} {n : Nat} (hj : j.toInt = n) (hz : j.toInt < z.toInt) : (¬ j < 0 ∧ j < z) ∧ j.toNatClampNeg = n ∧ n < z.toNatClampNeg := by
  have e0 : (0 : Int32).toInt = 0 := by decide
  refine ⟨⟨by rw [Int32.lt_iff_toInt_lt]; omega, by rw [Int32.lt_iff_toInt_lt]; exact hz⟩, ?_, ?_⟩
  · show Int.toNat _ = _; omega
  · show _ < Int.toNat _; omega
theorem own_cl {z : Int32} {j : Nat} (h : j < z.toNatClampNeg) : (j : Int) < z.toInt := by
  have e : z.toNatClampNeg = z.toInt.toNat := rfl
  omega
end OwnArf
end Jvm.RoadKit
namespace Jvm.Pilot.@@N@@
open Jvm Jvm.ClassFile Sem Op Lib Jvm.Free Jvm.Stand Jvm.LawKit Jvm.RoadKit Bundle Jvm.Pilot.@@N@@.Jvm.D
def own_c2 : Nat → Nat
  | 0 => 0
  | m + 1 => own_c2 m + m
def own_c3 : Nat → Nat
  | 0 => 0
  | m + 1 => own_c3 m + own_c2 m
def own_L (x : Nat) : Int64 := Int64.ofNat x
theorem own_c2_mul : ∀ m : Nat, (m + 1) * m = 2 * own_c2 (m + 1)
  | 0 => rfl
  | m + 1 => by
    have ih := own_c2_mul m
    have e : own_c2 (m + 1 + 1) = own_c2 (m + 1) + (m + 1) := rfl
    rw [e]
    simp only [Nat.add_mul, Nat.mul_add, Nat.one_mul, Nat.mul_one] at ih ⊢
    omega
theorem own_c3_mul : ∀ m : Nat, (m + 2) * (m + 1) * m = 6 * own_c3 (m + 2)
  | 0 => rfl
  | m + 1 => by
    have ih := own_c3_mul m
    have i2 := own_c2_mul (m + 1)
    have e : own_c3 (m + 1 + 2) = own_c3 (m + 2) + own_c2 (m + 2) := rfl
    have e6 : 6 * (own_c3 (m + 2) + own_c2 (m + 2)) = 6 * own_c3 (m + 2) + 6 * own_c2 (m + 2) := Nat.mul_add _ _ _
    rw [e, e6, ← ih]
    have i3 : 6 * own_c2 (m + 2) = 3 * ((m + 1 + 1) * (m + 1)) := by rw [i2]; show 6 * own_c2 (m + 2) = 3 * (2 * own_c2 (m + 2)); omega
    rw [i3]
    have a1 : (m + 1 + 2) * (m + 1 + 1) * (m + 1) = (m + 3) * ((m + 2) * (m + 1)) := by rw [Nat.mul_assoc]
    have a2 : (m + 2) * (m + 1) * m = m * ((m + 2) * (m + 1)) := Nat.mul_comm _ _
    rw [a1, a2]
    show (m + 3) * ((m + 2) * (m + 1)) = m * ((m + 2) * (m + 1)) + 3 * ((m + 2) * (m + 1))
    rw [← Nat.add_mul]
theorem own_c2_mono {a b : Nat} (h : a ≤ b) : own_c2 a ≤ own_c2 b := by
  induction h with
  | refl => exact Nat.le_refl _
  | step _ ih => exact Nat.le_trans ih (Nat.le_add_right _ _)
theorem own_c3_mono {a b : Nat} (h : a ≤ b) : own_c3 a ≤ own_c3 b := by
  induction h with
  | refl => exact Nat.le_refl _
  | step _ ih => exact Nat.le_trans ih (Nat.le_add_right _ _)
theorem own_c2_top {n : Nat} (h : n ≤ 2344) : own_c2 n ≤ 2745996 := by
  have q := own_c2_mono h
  have e := own_c2_mul 2343
  have e2 : own_c2 2344 = own_c2 (2343 + 1) := rfl
  omega
theorem own_c3_top {n : Nat} (h : n ≤ 2344) : own_c3 n ≤ 2143707544 := by
  have q := own_c3_mono h
  have e := own_c3_mul 2342
  have e2 : own_c3 2344 = own_c3 (2342 + 2) := rfl
  omega
def own_ps (n i : Nat) : Nat := own_c2 n - own_c2 (n - i)
def own_ts (n i : Nat) : Nat := own_c3 n - own_c3 (n - i)
theorem own_c2_at {n i : Nat} (h : i < n) : own_c2 (n - i) = own_c2 (n - (i + 1)) + (n - (i + 1)) := by
  obtain ⟨k, hk⟩ : ∃ k, n - i = k + 1 := ⟨n - (i + 1), by omega⟩
  have : n - (i + 1) = k := by omega
  rw [hk, this]; rfl
theorem own_c3_at {n i : Nat} (h : i < n) : own_c3 (n - i) = own_c3 (n - (i + 1)) + own_c2 (n - (i + 1)) := by
  obtain ⟨k, hk⟩ : ∃ k, n - i = k + 1 := ⟨n - (i + 1), by omega⟩
  have : n - (i + 1) = k := by omega
  rw [hk, this]; rfl
theorem own_ps0 (n : Nat) : own_ps n 0 = 0 := by unfold own_ps; rw [Nat.sub_zero]; omega
theorem own_ts0 (n : Nat) : own_ts n 0 = 0 := by unfold own_ts; rw [Nat.sub_zero]; omega
theorem own_ps_succ {n i : Nat} (h : i < n) : own_ps n (i + 1) = own_ps n i + (n - (i + 1)) := by
  have e := own_c2_at h
  have m1 := own_c2_mono (show n - i ≤ n by omega)
  have m2 := own_c2_mono (show n - (i + 1) ≤ n by omega)
  unfold own_ps; omega
theorem own_ts_succ {n i : Nat} (h : i < n) : own_ts n (i + 1) = own_ts n i + own_c2 (n - (i + 1)) := by
  have e := own_c3_at h
  have m1 := own_c3_mono (show n - i ≤ n by omega)
  have m2 := own_c3_mono (show n - (i + 1) ≤ n by omega)
  unfold own_ts; omega
theorem own_psn (n : Nat) : own_ps n n = own_c2 n := by unfold own_ps; rw [Nat.sub_self]; rfl
theorem own_tsn (n : Nat) : own_ts n n = own_c3 n := by unfold own_ts; rw [Nat.sub_self]; rfl
theorem own_ps_mono (n : Nat) {a b : Nat} (h : a ≤ b) : own_ps n a ≤ own_ps n b := by
  have m1 := own_c2_mono (show n - b ≤ n - a by omega)
  unfold own_ps; omega
theorem own_ts_mono (n : Nat) {a b : Nat} (h : a ≤ b) : own_ts n a ≤ own_ts n b := by
  have m1 := own_c3_mono (show n - b ≤ n - a by omega)
  unfold own_ts; omega
theorem own_ps_le (n i : Nat) : own_ps n i ≤ own_c2 n := Nat.sub_le _ _
theorem own_ts_le (n i : Nat) : own_ts n i ≤ own_c3 n := Nat.sub_le _ _
/-! the longs -/
theorem own_LI {x : Nat} (h : x < 2 ^ 62) : (own_L x).toInt = x := Int64.toInt_ofNat_of_lt (by omega)
theorem own_Ladd {x y : Nat} (h : x + y < 2 ^ 62) : own_L x + own_L y = own_L (x + y) := by
  apply Int64.toInt_inj.mp
  rw [Jvm.Kit.i64_add (by rw [own_LI (by omega), own_LI (by omega)]; omega) (by rw [own_LI (by omega), own_LI (by omega)]; omega), own_LI (by omega), own_LI (by omega), own_LI h]; omega
theorem own_Lsub {x y : Nat} (h : x < 2 ^ 62) (hy : y ≤ x) : own_L x - own_L y = own_L (x - y) := by
  apply Int64.toInt_inj.mp
  rw [Jvm.Kit.i64_sub (by rw [own_LI (by omega), own_LI (by omega)]; omega) (by rw [own_LI (by omega), own_LI (by omega)]; omega), own_LI (by omega), own_LI (by omega), own_LI (by omega)]; omega
theorem own_wide {x : Int32} {n : Nat} (h : x.toInt = n) : x.toInt64 = own_L n := by
  apply Int64.toInt_inj.mp
  have := x.toInt_lt
  rw [Int32.toInt_toInt64, own_LI (by omega), h]
theorem own_L1 : (1 : Int64) = own_L 1 := rfl
theorem own_L2 : (2 : Int64) = own_L 2 := rfl
theorem own_L6 : (6 : Int64) = own_L 6 := rfl
theorem own_Lmul {x y : Nat} (h : x * y < 2 ^ 62) (hx : x < 2 ^ 62) (hy : y < 2 ^ 62) : own_L x * own_L y = own_L (x * y) := by
  apply Int64.toInt_inj.mp
  have e : ((x * y : Nat) : Int) = (x : Int) * (y : Int) := by push_cast; rfl
  rw [Jvm.Kit.i64_mul (by rw [own_LI hx, own_LI hy, ← e]; omega) (by rw [own_LI hx, own_LI hy, ← e]; omega), own_LI hx, own_LI hy, own_LI h, e]
theorem own_Ldiv {x k q : Nat} (hx : x < 2 ^ 62) (hk : k < 2 ^ 62) (h0 : 0 < k) (e : x = k * q) : own_L x / own_L k = own_L q := by
  apply Int64.toInt_inj.mp
  have hq : q ≤ x := by rw [e]; exact Nat.le_mul_of_pos_left _ h0
  rw [Jvm.Kit.i64_div (by rw [own_LI hx, own_LI hk]; omega), own_LI hx, own_LI hk, own_LI (by omega)]
  rw [Int.tdiv_eq_ediv_of_nonneg (by omega)]
  subst e
  rw [Int.natCast_mul]
  exact Int.mul_ediv_cancel_left _ (by omega)
def own_c2J (x : Int64) : Int64 := (x * (x - (1 : Int64))) / (2 : Int64)
def own_c3J (x : Int64) : Int64 := ((x * (x - (1 : Int64))) * (x - (2 : Int64))) / (6 : Int64)
theorem own_c2J_eq {a : Nat} (h : a ≤ 3000) : own_c2J (own_L a) = own_L (own_c2 a) := by
  unfold own_c2J
  match a, h with
  | 0, _ => rfl
  | b + 1, h =>
    have hb : (b + 1) * b ≤ 3000 * 3000 := Nat.mul_le_mul h (by omega)
    rw [own_L1, own_Lsub (by omega) (by omega), Nat.add_sub_cancel, own_Lmul (by omega) (by omega) (by omega), own_L2, own_Ldiv (by omega) (by omega) (by omega) (own_c2_mul b)]
theorem own_c3J_eq {a : Nat} (h : a ≤ 3000) : own_c3J (own_L a) = own_L (own_c3 a) := by
  unfold own_c3J
  match a, h with
  | 0, _ => rfl
  | 1, _ => rfl
  | b + 2, h =>
    have hb : (b + 2) * (b + 1) ≤ 3000 * 3000 := Nat.mul_le_mul h (by omega)
    have hb2 : (b + 2) * (b + 1) * b ≤ 3000 * 3000 * 3000 := Nat.mul_le_mul hb (by omega)
    have e1 : b + 2 - 1 = b + 1 := by omega
    rw [own_L1, own_Lsub (by omega) (by omega), e1, own_Lmul (by omega) (by omega) (by omega), own_L2, own_Lsub (by omega) (by omega), Nat.add_sub_cancel, own_Lmul (by omega) (by omega) (by omega), own_L6, own_Ldiv (by omega) (by omega) (by omega) (own_c3_mul b)]
theorem own_lcle {x y : Nat} (hx : x < 2 ^ 62) (hy : y < 2 ^ 62) : (0 < lcmpW (own_L x) (own_L y)) ↔ y < x := by
  rw [lcW, lc_gt, Int64.lt_iff_toInt_lt, own_LI hx, own_LI hy]; omega
theorem own_lclt {x y : Nat} (hx : x < 2 ^ 62) (hy : y < 2 ^ 62) : (lcmpW (own_L x) (own_L y) < 0) ↔ x < y := by
  rw [lcW, lc_lt, Int64.lt_iff_toInt_lt, own_LI hx, own_LI hy]; omega
theorem own_lceq {x y : Int64} (h : x = y) : lcmpW x y = 0 := by rw [lcW, lc_eq]; exact h
theorem own_LI32 {x : Nat} (h : x < 2 ^ 31) : (own_L x).toInt32.toInt = x := by
  rw [Jvm.Kit.i32_of_i64 (by rw [own_LI (by omega)]; omega) (by rw [own_LI (by omega)]; omega), own_LI (by omega)]
theorem own_LI32w {x : Nat} (h : x < 2 ^ 31) : (own_L x).toInt32.toInt64 = own_L x := own_wide (own_LI32 h)
/-- the unsigned half of a sum of two places -/
theorem own_half {x : Int32} {n : Nat} (h : x.toInt = n) : ((x.toUInt32 >>> ((1 : Int32) &&& 31).toUInt32).toInt32).toInt = ((n / 2 : Nat) : Int) := by
  have e : x = Int32.ofNat n := Int32.toInt_inj.mp (by rw [show (Int32.ofNat n).toInt = (n : Int) from Int32.toInt_ofNat_small (by have := x.toInt_lt; omega), h])
  have hn : n < 2 ^ 31 := by have := x.toInt_lt; omega
  have hb : x.toBitVec.toNat = n := by rw [e]; show (BitVec.ofNat 32 n).toNat = n; rw [BitVec.toNat_ofNat]; omega
  have e2 : ((x.toUInt32 >>> ((1 : Int32) &&& 31).toUInt32).toInt32) = Int32.ofNat (n / 2) := by
    apply Int32.toBitVec_inj.mp
    apply BitVec.eq_of_toNat_eq
    show (x.toBitVec >>> 1).toNat = (BitVec.ofNat 32 (n / 2)).toNat
    rw [BitVec.toNat_ushiftRight, hb, BitVec.toNat_ofNat, Nat.shiftRight_eq_div_pow]; omega
  rw [e2]; exact Int32.toInt_ofNat_small (by omega)
/-- a place is told by what stands there -/
theorem own_place {F : Nat → Nat} (mono : ∀ {a b : Nat}, a ≤ b → F a ≤ F b) {i j V : Nat} (h1 : F i ≤ V) (h2 : V < F (i + 1)) (h3 : F j ≤ V) (h4 : V < F (j + 1)) : i = j := by
  by_cases q : i < j
  · have := mono (show i + 1 ≤ j by omega); omega
  · by_cases q2 : j < i
    · have := mono (show j + 1 ≤ i by omega); omega
    · omega
/-! the numbers of the law -/
theorem own_num1 {nn i j : Int32} {n I J : Nat} (hn : nn.toInt = n) (hi : i.toInt = I) (hj : j.toInt = J) (h1 : I < J) (h2 : J < n) (h3 : n ≤ 2344) : ((nn.toInt64 + own_c2J nn.toInt64) - own_c2J (nn.toInt64 - i.toInt64)) + ((j - i) - (1 : Int32)).toInt64 = own_L (n + own_ps n I + (J - I - 1)) := by
  have t1 : (1 : Int32).toInt = 1 := by decide
  have a1 : (j - i).toInt = j.toInt - i.toInt := Jvm.Kit.i32_sub (by omega) (by omega)
  have a2 : ((j - i) - (1 : Int32)).toInt = ((J - I - 1 : Nat) : Int) := by rw [Jvm.Kit.i32_sub (by omega) (by omega), a1]; omega
  have b1 := own_c2_top h3
  have b2 := own_c2_mono (show n - I ≤ n by omega)
  rw [own_wide hn, own_wide hi, own_wide a2, own_Lsub (by omega) (by omega), own_c2J_eq (by omega), own_c2J_eq (by omega), own_Ladd (by omega), own_Lsub (by omega) (by omega), own_Ladd (by omega)]
  unfold own_ps; congr 1; omega
theorem own_num2 {nn i j l : Int32} {n I J L : Nat} (hn : nn.toInt = n) (hi : i.toInt = I) (hj : j.toInt = J) (hl : l.toInt = L) (h1 : I < J) (h2 : J < L) (h3 : L < n) (h4 : n ≤ 2344) :
    ((((((nn.toInt64 + own_c2J nn.toInt64) + own_c3J nn.toInt64) - own_c3J (nn.toInt64 - i.toInt64)) + own_c2J ((nn.toInt64 - (1 : Int64)) - i.toInt64)) - own_c2J (((nn.toInt64 - (1 : Int64)) - i.toInt64) - ((j - i) - (1 : Int32)).toInt64)) + ((((l - i) - (1 : Int32)).toInt64 - ((j - i) - (1 : Int32)).toInt64) - (1 : Int64))) = own_L (n + own_c2 n + own_ts n I + (own_c2 (n - (I + 1)) - own_c2 (n - J) + (L - J - 1))) := by
  have t1 : (1 : Int32).toInt = 1 := by decide
  have a1 : (j - i).toInt = j.toInt - i.toInt := Jvm.Kit.i32_sub (by omega) (by omega)
  have a2 : ((j - i) - (1 : Int32)).toInt = ((J - I - 1 : Nat) : Int) := by rw [Jvm.Kit.i32_sub (by omega) (by omega), a1]; omega
  have a3 : (l - i).toInt = l.toInt - i.toInt := Jvm.Kit.i32_sub (by omega) (by omega)
  have a4 : ((l - i) - (1 : Int32)).toInt = ((L - I - 1 : Nat) : Int) := by rw [Jvm.Kit.i32_sub (by omega) (by omega), a3]; omega
  have b1 := own_c2_top h4
  have b3 := own_c3_top h4
  have b4 := own_c3_mono (show n - I ≤ n by omega)
  have b5 := own_c2_mono (show n - J ≤ n - (I + 1) by omega)
  have b6 := own_c2_mono (show n - (I + 1) ≤ n by omega)
  have k1 : n - 1 - I = n - (I + 1) := by omega
  have k2 : n - (I + 1) - (J - I - 1) = n - J := by omega
  rw [own_wide hn, own_wide hi, own_wide a2, own_wide a4, own_L1, own_Lsub (x := n) (y := I) (by omega) (by omega), own_Lsub (x := n) (y := 1) (by omega) (by omega), own_Lsub (x := n - 1) (y := I) (by omega) (by omega), k1, own_Lsub (x := n - (I + 1)) (y := J - I - 1) (by omega) (by omega), k2, own_Lsub (x := L - I - 1) (y := J - I - 1) (by omega) (by omega), own_Lsub (x := L - I - 1 - (J - I - 1)) (y := 1) (by omega) (by omega), own_c2J_eq (by omega), own_c3J_eq (by omega), own_c3J_eq (by omega), own_c2J_eq (by omega), own_c2J_eq (by omega), own_Ladd (by omega), own_Ladd (by omega), own_Lsub (by omega) (by omega), own_Ladd (by omega), own_Lsub (by omega) (by omega), own_Ladd (by omega)]
  unfold own_ts; congr 1; omega
def own_FL (F : Nat → Nat) : Nat → Int64 := fun i => own_L (F i)
theorem own_notmax {x : Nat} (h : x ≤ 2147483647) : ¬ (0 : Int32) < lcmpW (own_L x) (2147483647 : Int64) := fun q => by
  have := (own_lcle (x := x) (y := 2147483647) (by omega) (by omega)).mp q
  omega
theorem own_i32e {a b : Int32} (h : a.toInt = b.toInt) : a = b := Int32.toInt_inj.mp h
theorem d1_0 : decode prog_7_method_1_code 0 = .ok (.aload_n 0, 1) := by decide +kernel
theorem d1_1 : decode prog_7_method_1_code 1 = .ok (.invokespecial 1, 3) := by decide +kernel
theorem d1_4 : decode prog_7_method_1_code 4 = .ok (.aload_n 0, 1) := by decide +kernel
theorem d1_5 : decode prog_7_method_1_code 5 = .ok (.iload_n 1, 1) := by decide +kernel
theorem d1_6 : decode prog_7_method_1_code 6 = .ok (.putfield 7, 3) := by decide +kernel
theorem d1_9 : decode prog_7_method_1_code 9 = .ok (.aload_n 0, 1) := by decide +kernel
theorem d1_10 : decode prog_7_method_1_code 10 = .ok (.iload_n 1, 1) := by decide +kernel
theorem d1_11 : decode prog_7_method_1_code 11 = .ok (.iconst 1, 1) := by decide +kernel
theorem d1_12 : decode prog_7_method_1_code 12 = .ok (.iadd, 1) := by decide +kernel
theorem d1_13 : decode prog_7_method_1_code 13 = .ok (.newarray .long, 2) := by decide +kernel
theorem d1_15 : decode prog_7_method_1_code 15 = .ok (.putfield 13, 3) := by decide +kernel
theorem d1_18 : decode prog_7_method_1_code 18 = .ok (.aload_n 0, 1) := by decide +kernel
theorem d1_19 : decode prog_7_method_1_code 19 = .ok (.iload_n 1, 1) := by decide +kernel
theorem d1_20 : decode prog_7_method_1_code 20 = .ok (.iconst 1, 1) := by decide +kernel
theorem d1_21 : decode prog_7_method_1_code 21 = .ok (.iadd, 1) := by decide +kernel
theorem d1_22 : decode prog_7_method_1_code 22 = .ok (.newarray .long, 2) := by decide +kernel
theorem d1_24 : decode prog_7_method_1_code 24 = .ok (.putfield 17, 3) := by decide +kernel
theorem d1_27 : decode prog_7_method_1_code 27 = .ok (.iconst 0, 1) := by decide +kernel
theorem d1_28 : decode prog_7_method_1_code 28 = .ok (.istore_n 2, 1) := by decide +kernel
theorem d1_29 : decode prog_7_method_1_code 29 = .ok (.iload_n 2, 1) := by decide +kernel
theorem d1_30 : decode prog_7_method_1_code 30 = .ok (.iload_n 1, 1) := by decide +kernel
theorem d1_31 : decode prog_7_method_1_code 31 = .ok (.if_icmp .ge 56, 3) := by decide +kernel
theorem d1_34 : decode prog_7_method_1_code 34 = .ok (.iload_n 1, 1) := by decide +kernel
theorem d1_35 : decode prog_7_method_1_code 35 = .ok (.iconst 1, 1) := by decide +kernel
theorem d1_36 : decode prog_7_method_1_code 36 = .ok (.isub, 1) := by decide +kernel
theorem d1_37 : decode prog_7_method_1_code 37 = .ok (.iload_n 2, 1) := by decide +kernel
theorem d1_38 : decode prog_7_method_1_code 38 = .ok (.isub, 1) := by decide +kernel
theorem d1_39 : decode prog_7_method_1_code 39 = .ok (.i2l, 1) := by decide +kernel
theorem d1_40 : decode prog_7_method_1_code 40 = .ok (.lstore_n 3, 1) := by decide +kernel
theorem d1_41 : decode prog_7_method_1_code 41 = .ok (.aload_n 0, 1) := by decide +kernel
theorem d1_42 : decode prog_7_method_1_code 42 = .ok (.getfield 13, 3) := by decide +kernel
theorem d1_45 : decode prog_7_method_1_code 45 = .ok (.iload_n 2, 1) := by decide +kernel
theorem d1_46 : decode prog_7_method_1_code 46 = .ok (.iconst 1, 1) := by decide +kernel
theorem d1_47 : decode prog_7_method_1_code 47 = .ok (.iadd, 1) := by decide +kernel
theorem d1_48 : decode prog_7_method_1_code 48 = .ok (.aload_n 0, 1) := by decide +kernel
theorem d1_49 : decode prog_7_method_1_code 49 = .ok (.getfield 13, 3) := by decide +kernel
theorem d1_52 : decode prog_7_method_1_code 52 = .ok (.iload_n 2, 1) := by decide +kernel
theorem d1_53 : decode prog_7_method_1_code 53 = .ok (.laload, 1) := by decide +kernel
theorem d1_54 : decode prog_7_method_1_code 54 = .ok (.lload_n 3, 1) := by decide +kernel
theorem d1_55 : decode prog_7_method_1_code 55 = .ok (.ladd, 1) := by decide +kernel
theorem d1_56 : decode prog_7_method_1_code 56 = .ok (.lastore, 1) := by decide +kernel
theorem d1_57 : decode prog_7_method_1_code 57 = .ok (.aload_n 0, 1) := by decide +kernel
theorem d1_58 : decode prog_7_method_1_code 58 = .ok (.getfield 17, 3) := by decide +kernel
theorem d1_61 : decode prog_7_method_1_code 61 = .ok (.iload_n 2, 1) := by decide +kernel
theorem d1_62 : decode prog_7_method_1_code 62 = .ok (.iconst 1, 1) := by decide +kernel
theorem d1_63 : decode prog_7_method_1_code 63 = .ok (.iadd, 1) := by decide +kernel
theorem d1_64 : decode prog_7_method_1_code 64 = .ok (.aload_n 0, 1) := by decide +kernel
theorem d1_65 : decode prog_7_method_1_code 65 = .ok (.getfield 17, 3) := by decide +kernel
theorem d1_68 : decode prog_7_method_1_code 68 = .ok (.iload_n 2, 1) := by decide +kernel
theorem d1_69 : decode prog_7_method_1_code 69 = .ok (.laload, 1) := by decide +kernel
theorem d1_70 : decode prog_7_method_1_code 70 = .ok (.lload_n 3, 1) := by decide +kernel
theorem d1_71 : decode prog_7_method_1_code 71 = .ok (.lload_n 3, 1) := by decide +kernel
theorem d1_72 : decode prog_7_method_1_code 72 = .ok (.lconst 1, 1) := by decide +kernel
theorem d1_73 : decode prog_7_method_1_code 73 = .ok (.lsub, 1) := by decide +kernel
theorem d1_74 : decode prog_7_method_1_code 74 = .ok (.lmul, 1) := by decide +kernel
theorem d1_75 : decode prog_7_method_1_code 75 = .ok (.ldc2_w 20, 3) := by decide +kernel
theorem d1_78 : decode prog_7_method_1_code 78 = .ok (.ldiv, 1) := by decide +kernel
theorem d1_79 : decode prog_7_method_1_code 79 = .ok (.ladd, 1) := by decide +kernel
theorem d1_80 : decode prog_7_method_1_code 80 = .ok (.lastore, 1) := by decide +kernel
theorem d1_81 : decode prog_7_method_1_code 81 = .ok (.iinc 2 1, 3) := by decide +kernel
theorem d1_84 : decode prog_7_method_1_code 84 = .ok (.goto (-55), 3) := by decide +kernel
theorem d1_87 : decode prog_7_method_1_code 87 = .ok (.aload_n 0, 1) := by decide +kernel
theorem d1_88 : decode prog_7_method_1_code 88 = .ok (.aload_n 0, 1) := by decide +kernel
theorem d1_89 : decode prog_7_method_1_code 89 = .ok (.getfield 13, 3) := by decide +kernel
theorem d1_92 : decode prog_7_method_1_code 92 = .ok (.iload_n 1, 1) := by decide +kernel
theorem d1_93 : decode prog_7_method_1_code 93 = .ok (.laload, 1) := by decide +kernel
theorem d1_94 : decode prog_7_method_1_code 94 = .ok (.putfield 22, 3) := by decide +kernel
theorem d1_97 : decode prog_7_method_1_code 97 = .ok (.iload_n 1, 1) := by decide +kernel
theorem d1_98 : decode prog_7_method_1_code 98 = .ok (.i2l, 1) := by decide +kernel
theorem d1_99 : decode prog_7_method_1_code 99 = .ok (.aload_n 0, 1) := by decide +kernel
theorem d1_100 : decode prog_7_method_1_code 100 = .ok (.getfield 22, 3) := by decide +kernel
theorem d1_103 : decode prog_7_method_1_code 103 = .ok (.ladd, 1) := by decide +kernel
theorem d1_104 : decode prog_7_method_1_code 104 = .ok (.aload_n 0, 1) := by decide +kernel
theorem d1_105 : decode prog_7_method_1_code 105 = .ok (.getfield 17, 3) := by decide +kernel
theorem d1_108 : decode prog_7_method_1_code 108 = .ok (.iload_n 1, 1) := by decide +kernel
theorem d1_109 : decode prog_7_method_1_code 109 = .ok (.laload, 1) := by decide +kernel
theorem d1_110 : decode prog_7_method_1_code 110 = .ok (.ladd, 1) := by decide +kernel
theorem d1_111 : decode prog_7_method_1_code 111 = .ok (.lstore_n 2, 1) := by decide +kernel
theorem d1_112 : decode prog_7_method_1_code 112 = .ok (.lload_n 2, 1) := by decide +kernel
theorem d1_113 : decode prog_7_method_1_code 113 = .ok (.ldc2_w 28, 3) := by decide +kernel
theorem d1_116 : decode prog_7_method_1_code 116 = .ok (.lcmp, 1) := by decide +kernel
theorem d1_117 : decode prog_7_method_1_code 117 = .ok (.ifCond .le 18, 3) := by decide +kernel
theorem d1_120 : decode prog_7_method_1_code 120 = .ok (.new 30, 3) := by decide +kernel
theorem d1_123 : decode prog_7_method_1_code 123 = .ok (.dup, 1) := by decide +kernel
theorem d1_124 : decode prog_7_method_1_code 124 = .ok (.iload_n 1, 1) := by decide +kernel
theorem d1_125 : decode prog_7_method_1_code 125 = .ok (.lload_n 2, 1) := by decide +kernel
theorem d1_126 : decode prog_7_method_1_code 126 = .ok (.invokedynamic 32, 5) := by decide +kernel
theorem d1_131 : decode prog_7_method_1_code 131 = .ok (.invokespecial 36, 3) := by decide +kernel
theorem d1_134 : decode prog_7_method_1_code 134 = .ok (.athrow, 1) := by decide +kernel
theorem d1_135 : decode prog_7_method_1_code 135 = .ok (.aload_n 0, 1) := by decide +kernel
theorem d1_136 : decode prog_7_method_1_code 136 = .ok (.lload_n 2, 1) := by decide +kernel
theorem d1_137 : decode prog_7_method_1_code 137 = .ok (.l2i, 1) := by decide +kernel
theorem d1_138 : decode prog_7_method_1_code 138 = .ok (.putfield 39, 3) := by decide +kernel
theorem d1_141 : decode prog_7_method_1_code 141 = .ok (.return_, 1) := by decide +kernel
theorem ef_1_0 (m : MethodId) (o0 : Addr) (p1 : Int32) : entryFrame m #[(.ref o0), (.int p1)] 5 = mkF m 0 #[.val (.ref o0), .val (.int p1), .unset, .unset, .unset] [] := by first | (simp [entryFrame, mkF, argsToLocals, Value.category]; done) | rfl
theorem pn_com_example_fapre_fapre_KeywordSets : plainName "com/example/fapre/fapre/KeywordSets" = true := by first | (simp [plainName, overriddenIn]; done) | decide +kernel
def Q_rm1 (Z : State) (o0 : Addr) (p1 : Int32) (n : Nat) (h0 : Heap) (n0 : Nat) (v : Option Value) (h : Heap) (L : List Loc) : Prop := v = none ∧ Fr n0 L ∧ Keep h0 h [o0] ∧ Exa Z h o0 "com/example/fapre/fapre/KeywordSets" ∧ Fld Z h o0 "com/example/fapre/fapre/KeywordSets" "keywords" "I" (.int p1) ∧ Fld Z h o0 "com/example/fapre/fapre/KeywordSets" "pairs" "J" (.long (own_L (own_c2 n))) ∧ Fld Z h o0 "com/example/fapre/fapre/KeywordSets" "size" "I" (.int (own_L (n + own_c2 n + own_c3 n)).toInt32) ∧ ∃ (b1 : Addr) (k1 : ClassId), n0 ≤ b1 ∧ h0.size ≤ b1 ∧ Fld Z h o0 "com/example/fapre/fapre/KeywordSets" "pairStarts" "[J" (.ref b1) ∧ Arf Z h b1 k1 .long (p1 + (1 : Int32)) (fun i => .long (own_FL (own_ps n) i)) ∧ ∃ (b2 : Addr) (k2 : ClassId), n0 ≤ b2 ∧ h0.size ≤ b2 ∧ Fld Z h o0 "com/example/fapre/fapre/KeywordSets" "tripleStarts" "[J" (.ref b2) ∧ Arf Z h b2 k2 .long (p1 + (1 : Int32)) (fun i => .long (own_FL (own_ts n) i))
set_option maxRecDepth 65536 in
set_option maxHeartbeats 40000000 in
theorem rm1 (l : Launch) (Z : State) (a0 : Array Value) (hw : ∀ d ∈ tables_1, d.before a0 Z = true) (ws : List Jvm.Cond) (o0 : Addr) (p1 : Int32) (n : Nat) (h0 : Heap) (n0 : Nat) (Z0 : n0 ≤ h0.size) (E0 : Exa Z h0 o0 "com/example/fapre/fapre/KeywordSets") (Fk : Fld Z h0 o0 "com/example/fapre/fapre/KeywordSets" "keywords" "I" (.int (0 : Int32))) (Fq : Fld Z h0 o0 "com/example/fapre/fapre/KeywordSets" "pairs" "J" (.long (0 : Int64))) (Fs : Fld Z h0 o0 "com/example/fapre/fapre/KeywordSets" "size" "I" (.int (0 : Int32))) (Fp : Fld Z h0 o0 "com/example/fapre/fapre/KeywordSets" "pairStarts" "[J" .null) (Ft : Fld Z h0 o0 "com/example/fapre/fapre/KeywordSets" "tripleStarts" "[J" .null) (g_o0 : n0 ≤ o0) (hn : p1.toInt = n) (hbn : 1 ≤ n ∧ n ≤ 2344) :
    MetFree l (⟨"com/example/fapre/fapre/KeywordSets", "<init>", "(I)V"⟩ : MethodName) (head1 (Jvm.Cond.code (⟨"com/example/fapre/fapre/KeywordSets", "<init>", "(I)V"⟩ : MethodName) prog_7_method_1_code 5 none :: ws) ({ frames := 1, cells := 2, slots := 4690, locals := 12 } : Room)) (fun a U => a = #[(.ref o0), (.int p1)] ∧ Z.Warmed39 U.vm ∧ U.heap = h0) (fun _ _ _ _ _ => True) (fun _ U o U' => ∃ v L, o = .returned v ∧ Q_rm1 Z o0 p1 n h0 n0 v U'.heap L ∧ FrameEnd U o U' L ({ frames := 1, cells := 2, slots := 4690, locals := 12 } : Room).cells ({ frames := 1, cells := 2, slots := 4690, locals := 12 } : Room).slots) := by
  refine MetFree.of_bodySF (plainFor_of_name pn_com_example_fapre_fapre_KeywordSets) hisR ?_
  intro p e s m args below meth c s₁ Bd hml0 hP hK
  obtain ⟨rfl, hZ, hh⟩ := hP
  have hx := Bd.exec
  have hby := Bd.bytes
  have hlk := BodyLoose.notSynchronized Bd
  have hrt := Bd.returns
  have hml : c.maxLocals = 5 := hml0
  have hown : s.vm.findClass "com/example/fapre/fapre/KeywordSets" = some m.cls := findClass_of_methodNamed Bd.named
  have hnm := (name_of_methodNamed Bd.named Bd.method).1
  have X0 : Stand p l e ({ frames := 1, cells := 2, slots := 4690, locals := 12 } : Room) s m #[(.ref o0), (.int p1)] below meth c s₁ [] 0 0 := Stand.of_body Bd
  have e0 : s₁.heap = h0 := by rw [← hh, Bd.state]; rfl
  have N0 := Fr.nil n0
  have K0 : Keep h0 h0 [o0] := Keep.refl h0 _
  show Runs p e below (QE s (Q_rm1 Z o0 p1 n h0 n0) ({ frames := 1, cells := 2, slots := 4690, locals := 12 } : Room).cells ({ frames := 1, cells := 2, slots := 4690, locals := 12 } : Room).slots) (s₁.setTop (entryFrame m #[(.ref o0), (.int p1)] 5))
  rw [ef_1_0 m o0 p1]
  have t1 : (1 : Int32).toInt = 1 := by decide
  have t0 : (0 : Int32).toInt = 0 := by decide
  have ez : (p1 + (1 : Int32)).toInt = p1.toInt + 1 := (Jvm.Kit.i32_add (by omega) (by omega)).trans (by omega)
  show Runs p e below _ (s₁.setTop (mkF m 0 #[.val (.ref o0), .val (.int p1), .unset, .unset, .unset] []))
  refine Runs.by (fun _ hr => XS.aloadN X0.here hx rfl (hb hby d1_0) rfl rfl hr) ?_
  show Runs p e below _ (s₁.setTop (mkF m 1 #[.val (.ref o0), .val (.int p1), .unset, .unset, .unset] [(.ref o0)]))
  obtain ⟨T1, X1, e1, st1⟩ := initO X0 hx hZ hown (hw _ (List.mem_of_getElem? (i := 7) rfl)) (hw _ (List.mem_of_getElem? (i := 8) rfl)) (hw _ (List.mem_of_getElem? (i := 9) rfl)) e0 (g := (mkF m 1 #[.val (.ref o0), .val (.int p1), .unset, .unset, .unset] [(.ref o0)])) rfl (by rw [hml]; rfl) rfl (hb hby d1_1) (by decide) (W := 0) (by show 2 * 0 + _ ≤ _; exact Nat.le_of_eq rfl) (by decide)
  refine Runs.by st1 ?_
  show Runs p e below _ (T1.setTop (mkF m 4 #[.val (.ref o0), .val (.int p1), .unset, .unset, .unset] []))
  refine Runs.by (fun _ hr => XS.aloadN X1.here hx rfl (hb hby d1_4) rfl rfl hr) ?_
  show Runs p e below _ (T1.setTop (mkF m 5 #[.val (.ref o0), .val (.int p1), .unset, .unset, .unset] [(.ref o0)]))
  refine Runs.by (fun _ hr => XS.iloadN X1.here hx rfl (hb hby d1_5) rfl  hr) ?_
  show Runs p e below _ (T1.setTop (mkF m 6 #[.val (.ref o0), .val (.int p1), .unset, .unset, .unset] [(.int p1), (.ref o0)]))
  obtain ⟨T2, h2, X2, e2, W2, st2⟩ := putF X1 hx hZ hown (host := "") (Or.inl (hw _ (List.mem_of_getElem? (i := 10) rfl))) Via.refl e1 Fk E0 (Or.inr ⟨(hw _ (List.mem_of_getElem? (i := 11) rfl)), rfl, hnm⟩) (hw _ (List.mem_of_getElem? (i := 2) rfl)) (ty := .int) (by decide) rfl rfl (g := (mkF m 6 #[.val (.ref o0), .val (.int p1), .unset, .unset, .unset] [(.int p1), (.ref o0)])) rfl rfl (hb hby d1_6)
  have Fw2 := Fk.same W2
  have K3 : Keep h0 h2 [o0] := K0.wr W2 (Or.inl (List.mem_of_getElem? (i := 0) rfl))
  have N2 := Fr.snoc X2 N0 g_o0
  refine Runs.by st2 ?_
  show Runs p e below _ (T2.setTop (mkF m 9 #[.val (.ref o0), .val (.int p1), .unset, .unset, .unset] []))
  refine Runs.by (fun _ hr => XS.aloadN X2.here hx rfl (hb hby d1_9) rfl rfl hr) ?_
  show Runs p e below _ (T2.setTop (mkF m 10 #[.val (.ref o0), .val (.int p1), .unset, .unset, .unset] [(.ref o0)]))
  refine Runs.by (fun _ hr => XS.iloadN X2.here hx rfl (hb hby d1_10) rfl  hr) ?_
  show Runs p e below _ (T2.setTop (mkF m 11 #[.val (.ref o0), .val (.int p1), .unset, .unset, .unset] [(.int p1), (.ref o0)]))
  refine Runs.by (fun _ hr => XS.iconst X2.here hx rfl (hb hby d1_11) hr) ?_
  show Runs p e below _ (T2.setTop (mkF m 12 #[.val (.ref o0), .val (.int p1), .unset, .unset, .unset] [(.int (1 : Int32)), (.int p1), (.ref o0)]))
  refine Runs.by (fun _ hr => XS.iadd X2.here hx rfl (hb hby d1_12) rfl hr) ?_
  show Runs p e below _ (T2.setTop (mkF m 13 #[.val (.ref o0), .val (.int p1), .unset, .unset, .unset] [(.int (p1 + (1 : Int32))), (.ref o0)]))
  obtain ⟨T4, h4, k4, X4, e4, E4, A4, st4⟩ := newP X2 hx hZ (hw _ (List.mem_of_getElem? (i := 12) rfl)) e2 (g := (mkF m 13 #[.val (.ref o0), .val (.int p1), .unset, .unset, .unset] [(.int (p1 + (1 : Int32))), (.ref o0)])) rfl (hb hby d1_13) rfl (own_nneg (by omega)) (cap := 2345) (own_cap (by omega)) (by decide) (by decide) (by decide)
  obtain ⟨b4, gz4⟩ : ∃ z, z = h2.size := ⟨_, rfl⟩
  rw [← gz4] at A4 st4
  have ne_o0_b4 : o0 ≠ b4 := Nat.ne_of_lt (Nat.lt_of_lt_of_le (E0.wr W2).lt (Nat.le_of_eq gz4.symm))
  have g_b4 : n0 ≤ b4 := Nat.le_trans (Nat.le_trans Z0 K3.1) (Nat.le_of_eq gz4.symm)
  have sz_b4 : h0.size ≤ b4 := Nat.le_trans K3.1 (Nat.le_of_eq gz4.symm)
  have K5 : Keep h0 h4 [o0] := K3.ext E4
  have G4 : Arf Z h4 b4 k4 .long (p1 + (1 : Int32)) (fun j_ => .long ((fun _ => (0 : Int64)) j_)) := Arf.new A4 (own_nneg (by omega))
  refine Runs.by st4 ?_
  show Runs p e below _ (T4.setTop (mkF m 15 #[.val (.ref o0), .val (.int p1), .unset, .unset, .unset] [(.ref b4), (.ref o0)]))
  obtain ⟨T6, h6, X6, e6, W6, st6⟩ := putF X4 hx hZ hown (host := "") (Or.inl (hw _ (List.mem_of_getElem? (i := 13) rfl))) Via.refl e4 ((Fp.other W2 (Or.inr (slot_ne (Or.inr (hw _ (List.mem_of_getElem? (i := 14) rfl))) (Or.inr (hw _ (List.mem_of_getElem? (i := 11) rfl))) (by decide) (t := (.array .long)) (t' := .int) (by decide) (by decide)))).ext E4) ((E0.wr W2).ext E4) (Or.inr ⟨(hw _ (List.mem_of_getElem? (i := 14) rfl)), rfl, hnm⟩) (hw _ (List.mem_of_getElem? (i := 2) rfl)) (ty := (.array .long)) (by decide) rfl rfl (g := (mkF m 15 #[.val (.ref o0), .val (.int p1), .unset, .unset, .unset] [(.ref b4), (.ref o0)])) rfl rfl (hb hby d1_15)
  have Fw6 := ((Fp.other W2 (Or.inr (slot_ne (Or.inr (hw _ (List.mem_of_getElem? (i := 14) rfl))) (Or.inr (hw _ (List.mem_of_getElem? (i := 11) rfl))) (by decide) (t := (.array .long)) (t' := .int) (by decide) (by decide)))).ext E4).same W6
  have K7 : Keep h0 h6 [o0] := K5.wr W6 (Or.inl (List.mem_of_getElem? (i := 0) rfl))
  have N6 := Fr.snoc X6 N2 g_o0
  refine Runs.by st6 ?_
  show Runs p e below _ (T6.setTop (mkF m 18 #[.val (.ref o0), .val (.int p1), .unset, .unset, .unset] []))
  refine Runs.by (fun _ hr => XS.aloadN X6.here hx rfl (hb hby d1_18) rfl rfl hr) ?_
  show Runs p e below _ (T6.setTop (mkF m 19 #[.val (.ref o0), .val (.int p1), .unset, .unset, .unset] [(.ref o0)]))
  refine Runs.by (fun _ hr => XS.iloadN X6.here hx rfl (hb hby d1_19) rfl  hr) ?_
  show Runs p e below _ (T6.setTop (mkF m 20 #[.val (.ref o0), .val (.int p1), .unset, .unset, .unset] [(.int p1), (.ref o0)]))
  refine Runs.by (fun _ hr => XS.iconst X6.here hx rfl (hb hby d1_20) hr) ?_
  show Runs p e below _ (T6.setTop (mkF m 21 #[.val (.ref o0), .val (.int p1), .unset, .unset, .unset] [(.int (1 : Int32)), (.int p1), (.ref o0)]))
  refine Runs.by (fun _ hr => XS.iadd X6.here hx rfl (hb hby d1_21) rfl hr) ?_
  show Runs p e below _ (T6.setTop (mkF m 22 #[.val (.ref o0), .val (.int p1), .unset, .unset, .unset] [(.int (p1 + (1 : Int32))), (.ref o0)]))
  obtain ⟨T8, h8, k8, X8, e8, E8, A8, st8⟩ := newP X6 hx hZ (hw _ (List.mem_of_getElem? (i := 12) rfl)) e6 (g := (mkF m 22 #[.val (.ref o0), .val (.int p1), .unset, .unset, .unset] [(.int (p1 + (1 : Int32))), (.ref o0)])) rfl (hb hby d1_22) rfl (own_nneg (by omega)) (cap := 2345) (own_cap (by omega)) (by decide) (by decide) (by decide)
  obtain ⟨b8, gz8⟩ : ∃ z, z = h6.size := ⟨_, rfl⟩
  rw [← gz8] at A8 st8
  have ne_o0_b8 : o0 ≠ b8 := Nat.ne_of_lt (Nat.lt_of_lt_of_le (((E0.wr W2).ext E4).wr W6).lt (Nat.le_of_eq gz8.symm))
  have ne_b4_b8 : b4 ≠ b8 := Nat.ne_of_lt (Nat.lt_of_lt_of_le (G4.other W6 (Ne.symm ne_o0_b4)).lt (Nat.le_of_eq gz8.symm))
  have g_b8 : n0 ≤ b8 := Nat.le_trans (Nat.le_trans Z0 K7.1) (Nat.le_of_eq gz8.symm)
  have sz_b8 : h0.size ≤ b8 := Nat.le_trans K7.1 (Nat.le_of_eq gz8.symm)
  have K9 : Keep h0 h8 [o0] := K7.ext E8
  have G8 : Arf Z h8 b8 k8 .long (p1 + (1 : Int32)) (fun j_ => .long ((fun _ => (0 : Int64)) j_)) := Arf.new A8 (own_nneg (by omega))
  refine Runs.by st8 ?_
  show Runs p e below _ (T8.setTop (mkF m 24 #[.val (.ref o0), .val (.int p1), .unset, .unset, .unset] [(.ref b8), (.ref o0)]))
  obtain ⟨T10, h10, X10, e10, W10, st10⟩ := putF X8 hx hZ hown (host := "") (Or.inl (hw _ (List.mem_of_getElem? (i := 15) rfl))) Via.refl e8 ((((Ft.other W2 (Or.inr (slot_ne (Or.inr (hw _ (List.mem_of_getElem? (i := 16) rfl))) (Or.inr (hw _ (List.mem_of_getElem? (i := 11) rfl))) (by decide) (t := (.array .long)) (t' := .int) (by decide) (by decide)))).ext E4).other W6 (Or.inr (slot_ne (Or.inr (hw _ (List.mem_of_getElem? (i := 16) rfl))) (Or.inr (hw _ (List.mem_of_getElem? (i := 14) rfl))) (by decide) (t := (.array .long)) (t' := (.array .long)) (by decide) (by decide)))).ext E8) ((((E0.wr W2).ext E4).wr W6).ext E8) (Or.inr ⟨(hw _ (List.mem_of_getElem? (i := 16) rfl)), rfl, hnm⟩) (hw _ (List.mem_of_getElem? (i := 2) rfl)) (ty := (.array .long)) (by decide) rfl rfl (g := (mkF m 24 #[.val (.ref o0), .val (.int p1), .unset, .unset, .unset] [(.ref b8), (.ref o0)])) rfl rfl (hb hby d1_24)
  have Fw10 := ((((Ft.other W2 (Or.inr (slot_ne (Or.inr (hw _ (List.mem_of_getElem? (i := 16) rfl))) (Or.inr (hw _ (List.mem_of_getElem? (i := 11) rfl))) (by decide) (t := (.array .long)) (t' := .int) (by decide) (by decide)))).ext E4).other W6 (Or.inr (slot_ne (Or.inr (hw _ (List.mem_of_getElem? (i := 16) rfl))) (Or.inr (hw _ (List.mem_of_getElem? (i := 14) rfl))) (by decide) (t := (.array .long)) (t' := (.array .long)) (by decide) (by decide)))).ext E8).same W10
  have K11 : Keep h0 h10 [o0] := K9.wr W10 (Or.inl (List.mem_of_getElem? (i := 0) rfl))
  have N10 := Fr.snoc X10 N6 g_o0
  refine Runs.by st10 ?_
  show Runs p e below _ (T10.setTop (mkF m 27 #[.val (.ref o0), .val (.int p1), .unset, .unset, .unset] []))
  refine Runs.by (fun _ hr => XS.iconst X10.here hx rfl (hb hby d1_27) hr) ?_
  show Runs p e below _ (T10.setTop (mkF m 28 #[.val (.ref o0), .val (.int p1), .unset, .unset, .unset] [(.int (0 : Int32))]))
  refine Runs.by (fun _ hr => XS.istoreN X10.here hx rfl (hb hby d1_28) rfl (l' := #[.val (.ref o0), .val (.int p1), .val (.int (0 : Int32)), .unset, .unset]) rfl hr) ?_
  have LC : ∀ (d : Nat) (i : Int32) (af : Int64) (g1 : Nat → Int64) (g2 : Nat → Int64) (TL12 : State) (hL12 : Heap) (lL12 : List Loc) (XL12 : Stand p l e ({ frames := 1, cells := 2, slots := 4690, locals := 12 } : Room) s m #[(.ref o0), (.int p1)] below meth c TL12 lL12 2 4690) (eL12 : TL12.heap = hL12) (NL12 : Fr n0 lL12) (KL12 : Keep h0 hL12 [o0]) (fL12_0 : Exa Z hL12 o0 "com/example/fapre/fapre/KeywordSets") (fL12_1 : Fld Z hL12 o0 "com/example/fapre/fapre/KeywordSets" "keywords" "I" (.int p1)) (fL12_2 : Fld Z hL12 o0 "com/example/fapre/fapre/KeywordSets" "pairs" "J" (.long (0 : Int64))) (fL12_3 : Fld Z hL12 o0 "com/example/fapre/fapre/KeywordSets" "size" "I" (.int (0 : Int32))) (fL12_4 : Fld Z hL12 o0 "com/example/fapre/fapre/KeywordSets" "pairStarts" "[J" (.ref b4)) (fL12_5 : Fld Z hL12 o0 "com/example/fapre/fapre/KeywordSets" "tripleStarts" "[J" (.ref b8)) (fL12_6 : Arf Z hL12 b4 k4 .long (p1 + (1 : Int32)) (fun j_ => .long (g1 j_))) (fL12_7 : Arf Z hL12 b8 k8 .long (p1 + (1 : Int32)) (fun j_ => .long (g2 j_))) (hd : p1.toInt - i.toInt = d) (hi : 0 ≤ i.toInt ∧ i.toInt ≤ p1.toInt) (hg1 : ∀ j : Nat, (j : Int) ≤ i.toInt → g1 j = own_L (own_ps n j)) (hg2 : ∀ j : Nat, (j : Int) ≤ i.toInt → g2 j = own_L (own_ts n j)), Runs p e below (QE s (Q_rm1 Z o0 p1 n h0 n0) ({ frames := 1, cells := 2, slots := 4690, locals := 12 } : Room).cells ({ frames := 1, cells := 2, slots := 4690, locals := 12 } : Room).slots) (TL12.setTop (mkF m 29 #[.val (.ref o0), .val (.int p1), .val (.int i), .val (.long af), .second] [])) := by
    intro d
    induction d using Nat.strongRecOn with
    | _ d ih =>
      intro i af g1 g2 TL12 hL12 lL12 XL12 eL12 NL12 KL12  fL12_0 fL12_1 fL12_2 fL12_3 fL12_4 fL12_5 fL12_6 fL12_7 hd hi hg1 hg2
      show Runs p e below _ (TL12.setTop (mkF m 29 #[.val (.ref o0), .val (.int p1), .val (.int i), .val (.long af), .second] []))
      refine Runs.by (fun _ hr => XS.iloadN XL12.here hx rfl (hb hby d1_29) rfl  hr) ?_
      show Runs p e below _ (TL12.setTop (mkF m 30 #[.val (.ref o0), .val (.int p1), .val (.int i), .val (.long af), .second] [(.int i)]))
      refine Runs.by (fun _ hr => XS.iloadN XL12.here hx rfl (hb hby d1_30) rfl  hr) ?_
      show Runs p e below _ (TL12.setTop (mkF m 31 #[.val (.ref o0), .val (.int p1), .val (.int i), .val (.long af), .second] [(.int p1), (.int i)]))
      by_cases hc31 : i < p1
      · -- pc 31: i < p1
        refine Runs.by (fun _ hr => XS.icmpNo XL12.here hx rfl (hb hby d1_31) rfl (tlt hc31).2.1 hr) ?_
        have hlt : i.toInt < p1.toInt := Int32.lt_iff_toInt_lt.mp hc31
        have ei : (i + (1 : Int32)).toInt = i.toInt + 1 := (Jvm.Kit.i32_add (by omega) (by omega)).trans (by omega)
        show Runs p e below _ (TL12.setTop (mkF m 34 #[.val (.ref o0), .val (.int p1), .val (.int i), .val (.long af), .second] []))
        refine Runs.by (fun _ hr => XS.iloadN XL12.here hx rfl (hb hby d1_34) rfl  hr) ?_
        show Runs p e below _ (TL12.setTop (mkF m 35 #[.val (.ref o0), .val (.int p1), .val (.int i), .val (.long af), .second] [(.int p1)]))
        refine Runs.by (fun _ hr => XS.iconst XL12.here hx rfl (hb hby d1_35) hr) ?_
        show Runs p e below _ (TL12.setTop (mkF m 36 #[.val (.ref o0), .val (.int p1), .val (.int i), .val (.long af), .second] [(.int (1 : Int32)), (.int p1)]))
        refine Runs.by (fun _ hr => XS.isub XL12.here hx rfl (hb hby d1_36) rfl hr) ?_
        show Runs p e below _ (TL12.setTop (mkF m 37 #[.val (.ref o0), .val (.int p1), .val (.int i), .val (.long af), .second] [(.int (p1 - (1 : Int32)))]))
        refine Runs.by (fun _ hr => XS.iloadN XL12.here hx rfl (hb hby d1_37) rfl  hr) ?_
        show Runs p e below _ (TL12.setTop (mkF m 38 #[.val (.ref o0), .val (.int p1), .val (.int i), .val (.long af), .second] [(.int i), (.int (p1 - (1 : Int32)))]))
        refine Runs.by (fun _ hr => XS.isub XL12.here hx rfl (hb hby d1_38) rfl hr) ?_
        show Runs p e below _ (TL12.setTop (mkF m 39 #[.val (.ref o0), .val (.int p1), .val (.int i), .val (.long af), .second] [(.int ((p1 - (1 : Int32)) - i))]))
        refine Runs.by (fun _ hr => XS.i2l XL12.here hx rfl (hb hby d1_39) rfl hr) ?_
        show Runs p e below _ (TL12.setTop (mkF m 40 #[.val (.ref o0), .val (.int p1), .val (.int i), .val (.long af), .second] [(.long (((p1 - (1 : Int32)) - i).toInt64))]))
        refine Runs.by (fun _ hr => XS.lstoreN XL12.here hx rfl (hb hby d1_40) rfl (l' := #[.val (.ref o0), .val (.int p1), .val (.int i), .val (.long (((p1 - (1 : Int32)) - i).toInt64)), .second]) rfl hr) ?_
        have ea : ((p1 - (1 : Int32)) - i).toInt = ((n - (i.toInt.toNat + 1) : Nat) : Int) := by
          have a1 : (p1 - (1 : Int32)).toInt = p1.toInt - 1 := (Jvm.Kit.i32_sub (by omega) (by omega)).trans (by omega)
          rw [Jvm.Kit.i32_sub (by omega) (by omega), a1]; omega
        have haf : (((p1 - (1 : Int32)) - i).toInt64) = own_L (n - (i.toInt.toNat + 1)) := own_wide ea
        show Runs p e below _ (TL12.setTop (mkF m 41 #[.val (.ref o0), .val (.int p1), .val (.int i), .val (.long (((p1 - (1 : Int32)) - i).toInt64)), .second] []))
        rw [haf]
        show Runs p e below _ (TL12.setTop (mkF m 41 #[.val (.ref o0), .val (.int p1), .val (.int i), .val (.long (own_L (n - (i.toInt.toNat + 1)))), .second] []))
        refine Runs.by (fun _ hr => XS.aloadN XL12.here hx rfl (hb hby d1_41) rfl rfl hr) ?_
        show Runs p e below _ (TL12.setTop (mkF m 42 #[.val (.ref o0), .val (.int p1), .val (.int i), .val (.long (own_L (n - (i.toInt.toNat + 1)))), .second] [(.ref o0)]))
        obtain ⟨T13, X13, e13, st13⟩ := getF XL12 hx hZ hown (host := "") (Or.inl (hw _ (List.mem_of_getElem? (i := 13) rfl))) Via.refl eL12 fL12_4 (g := (mkF m 42 #[.val (.ref o0), .val (.int p1), .val (.int i), .val (.long (own_L (n - (i.toInt.toNat + 1)))), .second] [(.ref o0)])) rfl rfl (hb hby d1_42)
        refine Runs.by st13 ?_
        show Runs p e below _ (T13.setTop (mkF m 45 #[.val (.ref o0), .val (.int p1), .val (.int i), .val (.long (own_L (n - (i.toInt.toNat + 1)))), .second] [(.ref b4)]))
        refine Runs.by (fun _ hr => XS.iloadN X13.here hx rfl (hb hby d1_45) rfl  hr) ?_
        show Runs p e below _ (T13.setTop (mkF m 46 #[.val (.ref o0), .val (.int p1), .val (.int i), .val (.long (own_L (n - (i.toInt.toNat + 1)))), .second] [(.int i), (.ref b4)]))
        refine Runs.by (fun _ hr => XS.iconst X13.here hx rfl (hb hby d1_46) hr) ?_
        show Runs p e below _ (T13.setTop (mkF m 47 #[.val (.ref o0), .val (.int p1), .val (.int i), .val (.long (own_L (n - (i.toInt.toNat + 1)))), .second] [(.int (1 : Int32)), (.int i), (.ref b4)]))
        refine Runs.by (fun _ hr => XS.iadd X13.here hx rfl (hb hby d1_47) rfl hr) ?_
        show Runs p e below _ (T13.setTop (mkF m 48 #[.val (.ref o0), .val (.int p1), .val (.int i), .val (.long (own_L (n - (i.toInt.toNat + 1)))), .second] [(.int (i + (1 : Int32))), (.ref b4)]))
        refine Runs.by (fun _ hr => XS.aloadN X13.here hx rfl (hb hby d1_48) rfl rfl hr) ?_
        show Runs p e below _ (T13.setTop (mkF m 49 #[.val (.ref o0), .val (.int p1), .val (.int i), .val (.long (own_L (n - (i.toInt.toNat + 1)))), .second] [(.ref o0), (.int (i + (1 : Int32))), (.ref b4)]))
        obtain ⟨T14, X14, e14, st14⟩ := getF X13 hx hZ hown (host := "") (Or.inl (hw _ (List.mem_of_getElem? (i := 13) rfl))) Via.refl e13 fL12_4 (g := (mkF m 49 #[.val (.ref o0), .val (.int p1), .val (.int i), .val (.long (own_L (n - (i.toInt.toNat + 1)))), .second] [(.ref o0), (.int (i + (1 : Int32))), (.ref b4)])) rfl rfl (hb hby d1_49)
        refine Runs.by st14 ?_
        show Runs p e below _ (T14.setTop (mkF m 52 #[.val (.ref o0), .val (.int p1), .val (.int i), .val (.long (own_L (n - (i.toInt.toNat + 1)))), .second] [(.ref b4), (.int (i + (1 : Int32))), (.ref b4)]))
        refine Runs.by (fun _ hr => XS.iloadN X14.here hx rfl (hb hby d1_52) rfl  hr) ?_
        show Runs p e below _ (T14.setTop (mkF m 53 #[.val (.ref o0), .val (.int p1), .val (.int i), .val (.long (own_L (n - (i.toInt.toNat + 1)))), .second] [(.int i), (.ref b4), (.int (i + (1 : Int32))), (.ref b4)]))
        obtain ⟨cl15, Ar15, -, S15, N15', H15⟩ := id fL12_6
        have ix15 := own_ix (j := i) (z := (p1 + (1 : Int32))) (n := i.toInt.toNat) (by omega) (by omega)
        have hin15 : ¬ (i < 0 ∨ cl15.slots.size ≤ (i).toNatClampNeg) := inb_of S15 ix15.1
        have hat15 : cl15.slots[(i).toNatClampNeg]? = some (.long (g1 (i.toInt.toNat))) := by rw [ix15.2.1]; exact H15 _ ix15.2.2
        refine Runs.by (fun t hr => X14.laload hx (j := i) (v := (.long (g1 (i.toInt.toNat)))) (by rw [e14]; exact Ar15.1) (State.isArrayOf_alike hZ.alike Ar15.2.1) Ar15.2.2 hin15 hat15 (g := (mkF m 53 #[.val (.ref o0), .val (.int p1), .val (.int i), .val (.long (own_L (n - (i.toInt.toNat + 1)))), .second] [(.int i), (.ref b4), (.int (i + (1 : Int32))), (.ref b4)])) rfl rfl (hb hby d1_53) t hr) ?_
        show Runs p e below _ (T14.setTop (mkF m 54 #[.val (.ref o0), .val (.int p1), .val (.int i), .val (.long (own_L (n - (i.toInt.toNat + 1)))), .second] [(.long (g1 (i.toInt.toNat))), (.int (i + (1 : Int32))), (.ref b4)]))
        refine Runs.by (fun _ hr => XS.lloadN X14.here hx rfl (hb hby d1_54) rfl  hr) ?_
        show Runs p e below _ (T14.setTop (mkF m 55 #[.val (.ref o0), .val (.int p1), .val (.int i), .val (.long (own_L (n - (i.toInt.toNat + 1)))), .second] [(.long (own_L (n - (i.toInt.toNat + 1)))), (.long (g1 (i.toInt.toNat))), (.int (i + (1 : Int32))), (.ref b4)]))
        refine Runs.by (fun _ hr => XS.ladd X14.here hx rfl (hb hby d1_55) rfl hr) ?_
        show Runs p e below _ (T14.setTop (mkF m 56 #[.val (.ref o0), .val (.int p1), .val (.int i), .val (.long (own_L (n - (i.toInt.toNat + 1)))), .second] [(.long ((g1 (i.toInt.toNat)) + (own_L (n - (i.toInt.toNat + 1))))), (.int (i + (1 : Int32))), (.ref b4)]))
        obtain ⟨cl16, Ar16, q16, S16, N16', H16⟩ := id fL12_6
        have ix16 := own_ix (j := (i + (1 : Int32))) (z := (p1 + (1 : Int32))) (n := i.toInt.toNat + 1) (by omega) (by omega)
        have hin16 : ¬ ((i + (1 : Int32)) < 0 ∨ cl16.slots.size ≤ ((i + (1 : Int32))).toNatClampNeg) := inb_of S16 ix16.1
        obtain ⟨T16, h16, X16, e16, W16, st16⟩ := stJ X14 hx hZ e14 Ar16 (j := (i + (1 : Int32))) hin16 (g := (mkF m 56 #[.val (.ref o0), .val (.int p1), .val (.int i), .val (.long (own_L (n - (i.toInt.toNat + 1)))), .second] [(.long ((g1 (i.toInt.toNat)) + (own_L (n - (i.toInt.toNat + 1))))), (.int (i + (1 : Int32))), (.ref b4)])) rfl rfl (hb hby d1_56)
        have G16 : Arf Z h16 b4 k4 .long (p1 + (1 : Int32)) (fun j_ => .long ((own_up g1 (i.toInt.toNat + 1) ((g1 (i.toInt.toNat)) + (own_L (n - (i.toInt.toNat + 1))))) j_)) := (Arf.set Ar16 q16 S16 N16' H16 W16 ix16.2.1).cast (fun j_ _ => by simp only [own_up]; split <;> rfl)
        have K17 : Keep h0 h16 [o0] := KL12.wr W16 (Or.inr sz_b4)
        have N16 := Fr.snoc X16 NL12 g_b4
        refine Runs.by st16 ?_
        show Runs p e below _ (T16.setTop (mkF m 57 #[.val (.ref o0), .val (.int p1), .val (.int i), .val (.long (own_L (n - (i.toInt.toNat + 1)))), .second] []))
        refine Runs.by (fun _ hr => XS.aloadN X16.here hx rfl (hb hby d1_57) rfl rfl hr) ?_
        show Runs p e below _ (T16.setTop (mkF m 58 #[.val (.ref o0), .val (.int p1), .val (.int i), .val (.long (own_L (n - (i.toInt.toNat + 1)))), .second] [(.ref o0)]))
        obtain ⟨T18, X18, e18, st18⟩ := getF X16 hx hZ hown (host := "") (Or.inl (hw _ (List.mem_of_getElem? (i := 15) rfl))) Via.refl e16 (fL12_5.other W16 (Or.inl ne_o0_b4)) (g := (mkF m 58 #[.val (.ref o0), .val (.int p1), .val (.int i), .val (.long (own_L (n - (i.toInt.toNat + 1)))), .second] [(.ref o0)])) rfl rfl (hb hby d1_58)
        refine Runs.by st18 ?_
        show Runs p e below _ (T18.setTop (mkF m 61 #[.val (.ref o0), .val (.int p1), .val (.int i), .val (.long (own_L (n - (i.toInt.toNat + 1)))), .second] [(.ref b8)]))
        refine Runs.by (fun _ hr => XS.iloadN X18.here hx rfl (hb hby d1_61) rfl  hr) ?_
        show Runs p e below _ (T18.setTop (mkF m 62 #[.val (.ref o0), .val (.int p1), .val (.int i), .val (.long (own_L (n - (i.toInt.toNat + 1)))), .second] [(.int i), (.ref b8)]))
        refine Runs.by (fun _ hr => XS.iconst X18.here hx rfl (hb hby d1_62) hr) ?_
        show Runs p e below _ (T18.setTop (mkF m 63 #[.val (.ref o0), .val (.int p1), .val (.int i), .val (.long (own_L (n - (i.toInt.toNat + 1)))), .second] [(.int (1 : Int32)), (.int i), (.ref b8)]))
        refine Runs.by (fun _ hr => XS.iadd X18.here hx rfl (hb hby d1_63) rfl hr) ?_
        show Runs p e below _ (T18.setTop (mkF m 64 #[.val (.ref o0), .val (.int p1), .val (.int i), .val (.long (own_L (n - (i.toInt.toNat + 1)))), .second] [(.int (i + (1 : Int32))), (.ref b8)]))
        refine Runs.by (fun _ hr => XS.aloadN X18.here hx rfl (hb hby d1_64) rfl rfl hr) ?_
        show Runs p e below _ (T18.setTop (mkF m 65 #[.val (.ref o0), .val (.int p1), .val (.int i), .val (.long (own_L (n - (i.toInt.toNat + 1)))), .second] [(.ref o0), (.int (i + (1 : Int32))), (.ref b8)]))
        obtain ⟨T19, X19, e19, st19⟩ := getF X18 hx hZ hown (host := "") (Or.inl (hw _ (List.mem_of_getElem? (i := 15) rfl))) Via.refl e18 (fL12_5.other W16 (Or.inl ne_o0_b4)) (g := (mkF m 65 #[.val (.ref o0), .val (.int p1), .val (.int i), .val (.long (own_L (n - (i.toInt.toNat + 1)))), .second] [(.ref o0), (.int (i + (1 : Int32))), (.ref b8)])) rfl rfl (hb hby d1_65)
        refine Runs.by st19 ?_
        show Runs p e below _ (T19.setTop (mkF m 68 #[.val (.ref o0), .val (.int p1), .val (.int i), .val (.long (own_L (n - (i.toInt.toNat + 1)))), .second] [(.ref b8), (.int (i + (1 : Int32))), (.ref b8)]))
        refine Runs.by (fun _ hr => XS.iloadN X19.here hx rfl (hb hby d1_68) rfl  hr) ?_
        show Runs p e below _ (T19.setTop (mkF m 69 #[.val (.ref o0), .val (.int p1), .val (.int i), .val (.long (own_L (n - (i.toInt.toNat + 1)))), .second] [(.int i), (.ref b8), (.int (i + (1 : Int32))), (.ref b8)]))
        obtain ⟨cl20, Ar20, -, S20, N20', H20⟩ := id (fL12_7.other W16 (Ne.symm ne_b4_b8))
        have ix20 := own_ix (j := i) (z := (p1 + (1 : Int32))) (n := i.toInt.toNat) (by omega) (by omega)
        have hin20 : ¬ (i < 0 ∨ cl20.slots.size ≤ (i).toNatClampNeg) := inb_of S20 ix20.1
        have hat20 : cl20.slots[(i).toNatClampNeg]? = some (.long (g2 (i.toInt.toNat))) := by rw [ix20.2.1]; exact H20 _ ix20.2.2
        refine Runs.by (fun t hr => X19.laload hx (j := i) (v := (.long (g2 (i.toInt.toNat)))) (by rw [e19]; exact Ar20.1) (State.isArrayOf_alike hZ.alike Ar20.2.1) Ar20.2.2 hin20 hat20 (g := (mkF m 69 #[.val (.ref o0), .val (.int p1), .val (.int i), .val (.long (own_L (n - (i.toInt.toNat + 1)))), .second] [(.int i), (.ref b8), (.int (i + (1 : Int32))), (.ref b8)])) rfl rfl (hb hby d1_69) t hr) ?_
        show Runs p e below _ (T19.setTop (mkF m 70 #[.val (.ref o0), .val (.int p1), .val (.int i), .val (.long (own_L (n - (i.toInt.toNat + 1)))), .second] [(.long (g2 (i.toInt.toNat))), (.int (i + (1 : Int32))), (.ref b8)]))
        refine Runs.by (fun _ hr => XS.lloadN X19.here hx rfl (hb hby d1_70) rfl  hr) ?_
        show Runs p e below _ (T19.setTop (mkF m 71 #[.val (.ref o0), .val (.int p1), .val (.int i), .val (.long (own_L (n - (i.toInt.toNat + 1)))), .second] [(.long (own_L (n - (i.toInt.toNat + 1)))), (.long (g2 (i.toInt.toNat))), (.int (i + (1 : Int32))), (.ref b8)]))
        refine Runs.by (fun _ hr => XS.lloadN X19.here hx rfl (hb hby d1_71) rfl  hr) ?_
        show Runs p e below _ (T19.setTop (mkF m 72 #[.val (.ref o0), .val (.int p1), .val (.int i), .val (.long (own_L (n - (i.toInt.toNat + 1)))), .second] [(.long (own_L (n - (i.toInt.toNat + 1)))), (.long (own_L (n - (i.toInt.toNat + 1)))), (.long (g2 (i.toInt.toNat))), (.int (i + (1 : Int32))), (.ref b8)]))
        refine Runs.by (fun _ hr => XS.lconst X19.here hx rfl (hb hby d1_72) hr) ?_
        show Runs p e below _ (T19.setTop (mkF m 73 #[.val (.ref o0), .val (.int p1), .val (.int i), .val (.long (own_L (n - (i.toInt.toNat + 1)))), .second] [(.long (1 : Int64)), (.long (own_L (n - (i.toInt.toNat + 1)))), (.long (own_L (n - (i.toInt.toNat + 1)))), (.long (g2 (i.toInt.toNat))), (.int (i + (1 : Int32))), (.ref b8)]))
        refine Runs.by (fun _ hr => XS.lsub X19.here hx rfl (hb hby d1_73) rfl hr) ?_
        show Runs p e below _ (T19.setTop (mkF m 74 #[.val (.ref o0), .val (.int p1), .val (.int i), .val (.long (own_L (n - (i.toInt.toNat + 1)))), .second] [(.long ((own_L (n - (i.toInt.toNat + 1))) - (1 : Int64))), (.long (own_L (n - (i.toInt.toNat + 1)))), (.long (g2 (i.toInt.toNat))), (.int (i + (1 : Int32))), (.ref b8)]))
        refine Runs.by (fun _ hr => XS.lmul X19.here hx rfl (hb hby d1_74) rfl hr) ?_
        show Runs p e below _ (T19.setTop (mkF m 75 #[.val (.ref o0), .val (.int p1), .val (.int i), .val (.long (own_L (n - (i.toInt.toNat + 1)))), .second] [(.long ((own_L (n - (i.toInt.toNat + 1))) * ((own_L (n - (i.toInt.toNat + 1))) - (1 : Int64)))), (.long (g2 (i.toInt.toNat))), (.int (i + (1 : Int32))), (.ref b8)]))
        refine Runs.by (fun _ hr => X19.ldc2J hx hown (mvT hZ (hw _ (List.mem_of_getElem? (i := 17) rfl))) (g := (mkF m 75 #[.val (.ref o0), .val (.int p1), .val (.int i), .val (.long (own_L (n - (i.toInt.toNat + 1)))), .second] [(.long ((own_L (n - (i.toInt.toNat + 1))) * ((own_L (n - (i.toInt.toNat + 1))) - (1 : Int64)))), (.long (g2 (i.toInt.toNat))), (.int (i + (1 : Int32))), (.ref b8)])) rfl (hb hby d1_75) hr) ?_
        show Runs p e below _ (T19.setTop (mkF m 78 #[.val (.ref o0), .val (.int p1), .val (.int i), .val (.long (own_L (n - (i.toInt.toNat + 1)))), .second] [(.long (2 : Int64)), (.long ((own_L (n - (i.toInt.toNat + 1))) * ((own_L (n - (i.toInt.toNat + 1))) - (1 : Int64)))), (.long (g2 (i.toInt.toNat))), (.int (i + (1 : Int32))), (.ref b8)]))
        refine Runs.by (fun _ hr => XS.ldiv X19.here hx rfl (hb hby d1_78) rfl (by decide) hr) ?_
        show Runs p e below _ (T19.setTop (mkF m 79 #[.val (.ref o0), .val (.int p1), .val (.int i), .val (.long (own_L (n - (i.toInt.toNat + 1)))), .second] [(.long (((own_L (n - (i.toInt.toNat + 1))) * ((own_L (n - (i.toInt.toNat + 1))) - (1 : Int64))) / (2 : Int64))), (.long (g2 (i.toInt.toNat))), (.int (i + (1 : Int32))), (.ref b8)]))
        refine Runs.by (fun _ hr => XS.ladd X19.here hx rfl (hb hby d1_79) rfl hr) ?_
        show Runs p e below _ (T19.setTop (mkF m 80 #[.val (.ref o0), .val (.int p1), .val (.int i), .val (.long (own_L (n - (i.toInt.toNat + 1)))), .second] [(.long ((g2 (i.toInt.toNat)) + (((own_L (n - (i.toInt.toNat + 1))) * ((own_L (n - (i.toInt.toNat + 1))) - (1 : Int64))) / (2 : Int64)))), (.int (i + (1 : Int32))), (.ref b8)]))
        obtain ⟨cl21, Ar21, q21, S21, N21', H21⟩ := id (fL12_7.other W16 (Ne.symm ne_b4_b8))
        have ix21 := own_ix (j := (i + (1 : Int32))) (z := (p1 + (1 : Int32))) (n := i.toInt.toNat + 1) (by omega) (by omega)
        have hin21 : ¬ ((i + (1 : Int32)) < 0 ∨ cl21.slots.size ≤ ((i + (1 : Int32))).toNatClampNeg) := inb_of S21 ix21.1
        obtain ⟨T21, h21, X21, e21, W21, st21⟩ := stJ X19 hx hZ e19 Ar21 (j := (i + (1 : Int32))) hin21 (g := (mkF m 80 #[.val (.ref o0), .val (.int p1), .val (.int i), .val (.long (own_L (n - (i.toInt.toNat + 1)))), .second] [(.long ((g2 (i.toInt.toNat)) + (((own_L (n - (i.toInt.toNat + 1))) * ((own_L (n - (i.toInt.toNat + 1))) - (1 : Int64))) / (2 : Int64)))), (.int (i + (1 : Int32))), (.ref b8)])) rfl rfl (hb hby d1_80)
        have G21 : Arf Z h21 b8 k8 .long (p1 + (1 : Int32)) (fun j_ => .long ((own_up g2 (i.toInt.toNat + 1) ((g2 (i.toInt.toNat)) + (((own_L (n - (i.toInt.toNat + 1))) * ((own_L (n - (i.toInt.toNat + 1))) - (1 : Int64))) / (2 : Int64)))) j_)) := (Arf.set Ar21 q21 S21 N21' H21 W21 ix21.2.1).cast (fun j_ _ => by simp only [own_up]; split <;> rfl)
        have K22 : Keep h0 h21 [o0] := K17.wr W21 (Or.inr sz_b8)
        have N21 := Fr.snoc X21 N16 g_b8
        refine Runs.by st21 ?_
        show Runs p e below _ (T21.setTop (mkF m 81 #[.val (.ref o0), .val (.int p1), .val (.int i), .val (.long (own_L (n - (i.toInt.toNat + 1)))), .second] []))
        refine Runs.by (fun _ hr => XS.iinc X21.here hx rfl (hb hby d1_81) rfl (l' := #[.val (.ref o0), .val (.int p1), .val (.int (i + (1 : Int32))), .val (.long (own_L (n - (i.toInt.toNat + 1)))), .second]) rfl hr) ?_
        show Runs p e below _ (T21.setTop (mkF m 84 #[.val (.ref o0), .val (.int p1), .val (.int (i + (1 : Int32))), .val (.long (own_L (n - (i.toInt.toNat + 1)))), .second] []))
        refine Runs.by (fun _ hr => XS.goto X21.here hx rfl (pc0 := 84) (pc' := 29) rfl (hb hby d1_84) (by decide) (by decide) hr) ?_
        have hlt2 : own_ps n (i.toInt.toNat + 1) ≤ own_c2 n := own_ps_le _ _
        have hlt3 : own_ts n (i.toInt.toNat + 1) ≤ own_c3 n := own_ts_le _ _
        have ht2 := own_c2_top hbn.2
        have ht3 := own_c3_top hbn.2
        have hsp := own_ps_succ (n := n) (i := i.toInt.toNat) (by omega)
        have hst := own_ts_succ (n := n) (i := i.toInt.toNat) (by omega)
        have ng1 : ∀ j : Nat, (j : Int) ≤ (i + (1 : Int32)).toInt → (own_up g1 (i.toInt.toNat + 1) ((g1 (i.toInt.toNat)) + (own_L (n - (i.toInt.toNat + 1))))) j = own_L (own_ps n j) := by
          intro j hj
          by_cases q : j = i.toInt.toNat + 1
          · subst q; rw [own_up_same, show g1 i.toInt.toNat = own_L (own_ps n i.toInt.toNat) from hg1 _ (by omega), own_Ladd (by omega), ← hsp]
          · rw [own_up_ne _ _ q]; exact hg1 j (by omega)
        have ng2 : ∀ j : Nat, (j : Int) ≤ (i + (1 : Int32)).toInt → (own_up g2 (i.toInt.toNat + 1) ((g2 (i.toInt.toNat)) + (((own_L (n - (i.toInt.toNat + 1))) * ((own_L (n - (i.toInt.toNat + 1))) - (1 : Int64))) / (2 : Int64)))) j = own_L (own_ts n j) := by
          intro j hj
          by_cases q : j = i.toInt.toNat + 1
          · subst q; rw [own_up_same, show g2 i.toInt.toNat = own_L (own_ts n i.toInt.toNat) from hg2 _ (by omega)]
            show own_L _ + own_c2J (own_L (n - (i.toInt.toNat + 1))) = _
            rw [own_c2J_eq (by omega), own_Ladd (by omega), ← hst]
          · rw [own_up_ne _ _ q]; exact hg2 j (by omega)
        exact ih (p1.toInt - (i + (1 : Int32)).toInt).toNat (by omega) (i + (1 : Int32)) (own_L (n - (i.toInt.toNat + 1))) (own_up g1 (i.toInt.toNat + 1) ((g1 (i.toInt.toNat)) + (own_L (n - (i.toInt.toNat + 1))))) (own_up g2 (i.toInt.toNat + 1) ((g2 (i.toInt.toNat)) + (((own_L (n - (i.toInt.toNat + 1))) * ((own_L (n - (i.toInt.toNat + 1))) - (1 : Int64))) / (2 : Int64)))) _ _ _ X21 e21 N21 K22  ((fL12_0.wr W16).wr W21) ((fL12_1.other W16 (Or.inl ne_o0_b4)).other W21 (Or.inl ne_o0_b8)) ((fL12_2.other W16 (Or.inl ne_o0_b4)).other W21 (Or.inl ne_o0_b8)) ((fL12_3.other W16 (Or.inl ne_o0_b4)).other W21 (Or.inl ne_o0_b8)) ((fL12_4.other W16 (Or.inl ne_o0_b4)).other W21 (Or.inl ne_o0_b8)) ((fL12_5.other W16 (Or.inl ne_o0_b4)).other W21 (Or.inl ne_o0_b8)) (G16.other W21 ne_b4_b8) G21 (by omega) (by omega) ng1 ng2
      · -- pc 31: not i < p1
        refine Runs.by (fun _ hr => XS.icmpYes XL12.here hx rfl (pc0 := 31) (pc' := 87) rfl (hb hby d1_31) rfl (flt hc31).2.1 (by decide) (by decide) hr) ?_
        have hz2 : ¬ i.toInt < p1.toInt := fun q => hc31 (Int32.lt_iff_toInt_lt.mpr q)
        have hin : i.toInt = n := by omega
        have ht2 := own_c2_top hbn.2
        have ht3 := own_c3_top hbn.2
        show Runs p e below _ (TL12.setTop (mkF m 87 #[.val (.ref o0), .val (.int p1), .val (.int i), .val (.long af), .second] []))
        refine Runs.by (fun _ hr => XS.aloadN XL12.here hx rfl (hb hby d1_87) rfl rfl hr) ?_
        show Runs p e below _ (TL12.setTop (mkF m 88 #[.val (.ref o0), .val (.int p1), .val (.int i), .val (.long af), .second] [(.ref o0)]))
        refine Runs.by (fun _ hr => XS.aloadN XL12.here hx rfl (hb hby d1_88) rfl rfl hr) ?_
        show Runs p e below _ (TL12.setTop (mkF m 89 #[.val (.ref o0), .val (.int p1), .val (.int i), .val (.long af), .second] [(.ref o0), (.ref o0)]))
        obtain ⟨T23, X23, e23, st23⟩ := getF XL12 hx hZ hown (host := "") (Or.inl (hw _ (List.mem_of_getElem? (i := 13) rfl))) Via.refl eL12 fL12_4 (g := (mkF m 89 #[.val (.ref o0), .val (.int p1), .val (.int i), .val (.long af), .second] [(.ref o0), (.ref o0)])) rfl rfl (hb hby d1_89)
        refine Runs.by st23 ?_
        show Runs p e below _ (T23.setTop (mkF m 92 #[.val (.ref o0), .val (.int p1), .val (.int i), .val (.long af), .second] [(.ref b4), (.ref o0)]))
        refine Runs.by (fun _ hr => XS.iloadN X23.here hx rfl (hb hby d1_92) rfl  hr) ?_
        show Runs p e below _ (T23.setTop (mkF m 93 #[.val (.ref o0), .val (.int p1), .val (.int i), .val (.long af), .second] [(.int p1), (.ref b4), (.ref o0)]))
        obtain ⟨cl24, Ar24, -, S24, N24', H24⟩ := id fL12_6
        have ix24 := own_ix (j := p1) (z := (p1 + (1 : Int32))) (n := n) hn (by omega)
        have hin24 : ¬ (p1 < 0 ∨ cl24.slots.size ≤ (p1).toNatClampNeg) := inb_of S24 ix24.1
        have hat24 : cl24.slots[(p1).toNatClampNeg]? = some (.long (g1 n)) := by rw [ix24.2.1]; exact H24 _ ix24.2.2
        refine Runs.by (fun t hr => X23.laload hx (j := p1) (v := (.long (g1 n))) (by rw [e23]; exact Ar24.1) (State.isArrayOf_alike hZ.alike Ar24.2.1) Ar24.2.2 hin24 hat24 (g := (mkF m 93 #[.val (.ref o0), .val (.int p1), .val (.int i), .val (.long af), .second] [(.int p1), (.ref b4), (.ref o0)])) rfl rfl (hb hby d1_93) t hr) ?_
        have e1 : g1 n = own_L (own_c2 n) := (hg1 n (by omega)).trans (by rw [own_psn])
        show Runs p e below _ (T23.setTop (mkF m 94 #[.val (.ref o0), .val (.int p1), .val (.int i), .val (.long af), .second] [(.long (g1 n)), (.ref o0)]))
        rw [e1]
        show Runs p e below _ (T23.setTop (mkF m 94 #[.val (.ref o0), .val (.int p1), .val (.int i), .val (.long af), .second] [(.long (own_L (own_c2 n))), (.ref o0)]))
        obtain ⟨T25, h25, X25, e25, W25, st25⟩ := putF X23 hx hZ hown (host := "") (Or.inl (hw _ (List.mem_of_getElem? (i := 18) rfl))) Via.refl e23 fL12_2 fL12_0 (Or.inr ⟨(hw _ (List.mem_of_getElem? (i := 19) rfl)), rfl, hnm⟩) (hw _ (List.mem_of_getElem? (i := 2) rfl)) (ty := .long) (by decide) rfl rfl (g := (mkF m 94 #[.val (.ref o0), .val (.int p1), .val (.int i), .val (.long af), .second] [(.long (own_L (own_c2 n))), (.ref o0)])) rfl rfl (hb hby d1_94)
        have Fw25 := fL12_2.same W25
        have K26 : Keep h0 h25 [o0] := KL12.wr W25 (Or.inl (List.mem_of_getElem? (i := 0) rfl))
        have N25 := Fr.snoc X25 NL12 g_o0
        refine Runs.by st25 ?_
        show Runs p e below _ (T25.setTop (mkF m 97 #[.val (.ref o0), .val (.int p1), .val (.int i), .val (.long af), .second] []))
        refine Runs.by (fun _ hr => XS.iloadN X25.here hx rfl (hb hby d1_97) rfl  hr) ?_
        show Runs p e below _ (T25.setTop (mkF m 98 #[.val (.ref o0), .val (.int p1), .val (.int i), .val (.long af), .second] [(.int p1)]))
        refine Runs.by (fun _ hr => XS.i2l X25.here hx rfl (hb hby d1_98) rfl hr) ?_
        show Runs p e below _ (T25.setTop (mkF m 99 #[.val (.ref o0), .val (.int p1), .val (.int i), .val (.long af), .second] [(.long (p1.toInt64))]))
        refine Runs.by (fun _ hr => XS.aloadN X25.here hx rfl (hb hby d1_99) rfl rfl hr) ?_
        show Runs p e below _ (T25.setTop (mkF m 100 #[.val (.ref o0), .val (.int p1), .val (.int i), .val (.long af), .second] [(.ref o0), (.long (p1.toInt64))]))
        obtain ⟨T27, X27, e27, st27⟩ := getF X25 hx hZ hown (host := "") (Or.inl (hw _ (List.mem_of_getElem? (i := 18) rfl))) Via.refl e25 Fw25 (g := (mkF m 100 #[.val (.ref o0), .val (.int p1), .val (.int i), .val (.long af), .second] [(.ref o0), (.long (p1.toInt64))])) rfl rfl (hb hby d1_100)
        refine Runs.by st27 ?_
        show Runs p e below _ (T27.setTop (mkF m 103 #[.val (.ref o0), .val (.int p1), .val (.int i), .val (.long af), .second] [(.long (own_L (own_c2 n))), (.long (p1.toInt64))]))
        refine Runs.by (fun _ hr => XS.ladd X27.here hx rfl (hb hby d1_103) rfl hr) ?_
        show Runs p e below _ (T27.setTop (mkF m 104 #[.val (.ref o0), .val (.int p1), .val (.int i), .val (.long af), .second] [(.long ((p1.toInt64) + (own_L (own_c2 n))))]))
        refine Runs.by (fun _ hr => XS.aloadN X27.here hx rfl (hb hby d1_104) rfl rfl hr) ?_
        show Runs p e below _ (T27.setTop (mkF m 105 #[.val (.ref o0), .val (.int p1), .val (.int i), .val (.long af), .second] [(.ref o0), (.long ((p1.toInt64) + (own_L (own_c2 n))))]))
        obtain ⟨T28, X28, e28, st28⟩ := getF X27 hx hZ hown (host := "") (Or.inl (hw _ (List.mem_of_getElem? (i := 15) rfl))) Via.refl e27 (fL12_5.other W25 (Or.inr (slot_ne (Or.inr (hw _ (List.mem_of_getElem? (i := 16) rfl))) (Or.inr (hw _ (List.mem_of_getElem? (i := 19) rfl))) (by decide) (t := (.array .long)) (t' := .long) (by decide) (by decide)))) (g := (mkF m 105 #[.val (.ref o0), .val (.int p1), .val (.int i), .val (.long af), .second] [(.ref o0), (.long ((p1.toInt64) + (own_L (own_c2 n))))])) rfl rfl (hb hby d1_105)
        refine Runs.by st28 ?_
        show Runs p e below _ (T28.setTop (mkF m 108 #[.val (.ref o0), .val (.int p1), .val (.int i), .val (.long af), .second] [(.ref b8), (.long ((p1.toInt64) + (own_L (own_c2 n))))]))
        refine Runs.by (fun _ hr => XS.iloadN X28.here hx rfl (hb hby d1_108) rfl  hr) ?_
        show Runs p e below _ (T28.setTop (mkF m 109 #[.val (.ref o0), .val (.int p1), .val (.int i), .val (.long af), .second] [(.int p1), (.ref b8), (.long ((p1.toInt64) + (own_L (own_c2 n))))]))
        obtain ⟨cl29, Ar29, -, S29, N29', H29⟩ := id (fL12_7.other W25 (Ne.symm ne_o0_b8))
        have ix29 := own_ix (j := p1) (z := (p1 + (1 : Int32))) (n := n) hn (by omega)
        have hin29 : ¬ (p1 < 0 ∨ cl29.slots.size ≤ (p1).toNatClampNeg) := inb_of S29 ix29.1
        have hat29 : cl29.slots[(p1).toNatClampNeg]? = some (.long (g2 n)) := by rw [ix29.2.1]; exact H29 _ ix29.2.2
        refine Runs.by (fun t hr => X28.laload hx (j := p1) (v := (.long (g2 n))) (by rw [e28]; exact Ar29.1) (State.isArrayOf_alike hZ.alike Ar29.2.1) Ar29.2.2 hin29 hat29 (g := (mkF m 109 #[.val (.ref o0), .val (.int p1), .val (.int i), .val (.long af), .second] [(.int p1), (.ref b8), (.long ((p1.toInt64) + (own_L (own_c2 n))))])) rfl rfl (hb hby d1_109) t hr) ?_
        show Runs p e below _ (T28.setTop (mkF m 110 #[.val (.ref o0), .val (.int p1), .val (.int i), .val (.long af), .second] [(.long (g2 n)), (.long ((p1.toInt64) + (own_L (own_c2 n))))]))
        refine Runs.by (fun _ hr => XS.ladd X28.here hx rfl (hb hby d1_110) rfl hr) ?_
        show Runs p e below _ (T28.setTop (mkF m 111 #[.val (.ref o0), .val (.int p1), .val (.int i), .val (.long af), .second] [(.long (((p1.toInt64) + (own_L (own_c2 n))) + (g2 n)))]))
        refine Runs.by (fun _ hr => XS.lstoreN X28.here hx rfl (hb hby d1_111) rfl (l' := #[.val (.ref o0), .val (.int p1), .val (.long (((p1.toInt64) + (own_L (own_c2 n))) + (g2 n))), .second, .unset]) rfl hr) ?_
        have e2 : (((p1.toInt64) + (own_L (own_c2 n))) + (g2 n)) = own_L (n + own_c2 n + own_c3 n) := by
          rw [own_wide hn, (hg2 n (by omega)).trans (by rw [own_tsn] : own_L (own_ts n n) = own_L (own_c3 n)), own_Ladd (by omega), own_Ladd (by omega)]
        show Runs p e below _ (T28.setTop (mkF m 112 #[.val (.ref o0), .val (.int p1), .val (.long (((p1.toInt64) + (own_L (own_c2 n))) + (g2 n))), .second, .unset] []))
        rw [e2]
        show Runs p e below _ (T28.setTop (mkF m 112 #[.val (.ref o0), .val (.int p1), .val (.long (own_L (n + own_c2 n + own_c3 n))), .second, .unset] []))
        refine Runs.by (fun _ hr => XS.lloadN X28.here hx rfl (hb hby d1_112) rfl  hr) ?_
        show Runs p e below _ (T28.setTop (mkF m 113 #[.val (.ref o0), .val (.int p1), .val (.long (own_L (n + own_c2 n + own_c3 n))), .second, .unset] [(.long (own_L (n + own_c2 n + own_c3 n)))]))
        refine Runs.by (fun _ hr => X28.ldc2J hx hown (mvT hZ (hw _ (List.mem_of_getElem? (i := 20) rfl))) (g := (mkF m 113 #[.val (.ref o0), .val (.int p1), .val (.long (own_L (n + own_c2 n + own_c3 n))), .second, .unset] [(.long (own_L (n + own_c2 n + own_c3 n)))])) rfl (hb hby d1_113) hr) ?_
        show Runs p e below _ (T28.setTop (mkF m 116 #[.val (.ref o0), .val (.int p1), .val (.long (own_L (n + own_c2 n + own_c3 n))), .second, .unset] [(.long (2147483647 : Int64)), (.long (own_L (n + own_c2 n + own_c3 n)))]))
        refine Runs.by (fun _ hr => XS.lcmp X28.here hx rfl (hb hby d1_116) rfl hr) ?_
        show Runs p e below _ (T28.setTop (mkF m 117 #[.val (.ref o0), .val (.int p1), .val (.long (own_L (n + own_c2 n + own_c3 n))), .second, .unset] [(.int (lcmpW (own_L (n + own_c2 n + own_c3 n)) (2147483647 : Int64)))]))
        have hc117 : ¬ ((0 : Int32) < (lcmpW (own_L (n + own_c2 n + own_c3 n)) (2147483647 : Int64))) := own_notmax (by omega)
        refine Runs.by (fun _ hr => XS.ifYes X28.here hx rfl (pc0 := 117) (pc' := 135) rfl (hb hby d1_117) rfl ((if0 _ _).trans (flt hc117).2.2.2) (by decide) (by decide) hr) ?_
        show Runs p e below _ (T28.setTop (mkF m 135 #[.val (.ref o0), .val (.int p1), .val (.long (own_L (n + own_c2 n + own_c3 n))), .second, .unset] []))
        refine Runs.by (fun _ hr => XS.aloadN X28.here hx rfl (hb hby d1_135) rfl rfl hr) ?_
        show Runs p e below _ (T28.setTop (mkF m 136 #[.val (.ref o0), .val (.int p1), .val (.long (own_L (n + own_c2 n + own_c3 n))), .second, .unset] [(.ref o0)]))
        refine Runs.by (fun _ hr => XS.lloadN X28.here hx rfl (hb hby d1_136) rfl  hr) ?_
        show Runs p e below _ (T28.setTop (mkF m 137 #[.val (.ref o0), .val (.int p1), .val (.long (own_L (n + own_c2 n + own_c3 n))), .second, .unset] [(.long (own_L (n + own_c2 n + own_c3 n))), (.ref o0)]))
        refine Runs.by (fun _ hr => XS.l2i X28.here hx rfl (hb hby d1_137) rfl hr) ?_
        show Runs p e below _ (T28.setTop (mkF m 138 #[.val (.ref o0), .val (.int p1), .val (.long (own_L (n + own_c2 n + own_c3 n))), .second, .unset] [(.int ((own_L (n + own_c2 n + own_c3 n)).toInt32)), (.ref o0)]))
        obtain ⟨T30, h30, X30, e30, W30, st30⟩ := putF X28 hx hZ hown (host := "") (Or.inl (hw _ (List.mem_of_getElem? (i := 21) rfl))) Via.refl e28 (fL12_3.other W25 (Or.inr (slot_ne (Or.inr (hw _ (List.mem_of_getElem? (i := 22) rfl))) (Or.inr (hw _ (List.mem_of_getElem? (i := 19) rfl))) (by decide) (t := .int) (t' := .long) (by decide) (by decide)))) (fL12_0.wr W25) (Or.inr ⟨(hw _ (List.mem_of_getElem? (i := 22) rfl)), rfl, hnm⟩) (hw _ (List.mem_of_getElem? (i := 2) rfl)) (ty := .int) (by decide) rfl rfl (g := (mkF m 138 #[.val (.ref o0), .val (.int p1), .val (.long (own_L (n + own_c2 n + own_c3 n))), .second, .unset] [(.int ((own_L (n + own_c2 n + own_c3 n)).toInt32)), (.ref o0)])) rfl rfl (hb hby d1_138)
        have Fw30 := (fL12_3.other W25 (Or.inr (slot_ne (Or.inr (hw _ (List.mem_of_getElem? (i := 22) rfl))) (Or.inr (hw _ (List.mem_of_getElem? (i := 19) rfl))) (by decide) (t := .int) (t' := .long) (by decide) (by decide)))).same W30
        have K31 : Keep h0 h30 [o0] := K26.wr W30 (Or.inl (List.mem_of_getElem? (i := 0) rfl))
        have N30 := Fr.snoc X30 N25 g_o0
        refine Runs.by st30 ?_
        show Runs p e below _ (T30.setTop (mkF m 141 #[.val (.ref o0), .val (.int p1), .val (.long (own_L (n + own_c2 n + own_c3 n))), .second, .unset] []))
        refine Runs.retV X30 hx hrt hlk (hb hby d1_141) (by decide) (by decide) ?_
        rw [e30]
        exact ⟨rfl, N30, K31, ((fL12_0.wr W25).wr W30), ((fL12_1.other W25 (Or.inr (slot_ne (Or.inr (hw _ (List.mem_of_getElem? (i := 11) rfl))) (Or.inr (hw _ (List.mem_of_getElem? (i := 19) rfl))) (by decide) (t := .int) (t' := .long) (by decide) (by decide)))).other W30 (Or.inr (slot_ne (Or.inr (hw _ (List.mem_of_getElem? (i := 11) rfl))) (Or.inr (hw _ (List.mem_of_getElem? (i := 22) rfl))) (by decide) (t := .int) (t' := .int) (by decide) (by decide)))), (Fw25.other W30 (Or.inr (slot_ne (Or.inr (hw _ (List.mem_of_getElem? (i := 19) rfl))) (Or.inr (hw _ (List.mem_of_getElem? (i := 22) rfl))) (by decide) (t := .long) (t' := .int) (by decide) (by decide)))), Fw30, b4, k4, g_b4, sz_b4, ((fL12_4.other W25 (Or.inr (slot_ne (Or.inr (hw _ (List.mem_of_getElem? (i := 14) rfl))) (Or.inr (hw _ (List.mem_of_getElem? (i := 19) rfl))) (by decide) (t := (.array .long)) (t' := .long) (by decide) (by decide)))).other W30 (Or.inr (slot_ne (Or.inr (hw _ (List.mem_of_getElem? (i := 14) rfl))) (Or.inr (hw _ (List.mem_of_getElem? (i := 22) rfl))) (by decide) (t := (.array .long)) (t' := .int) (by decide) (by decide)))), ((fL12_6.other W25 (Ne.symm ne_o0_b4)).other W30 (Ne.symm ne_o0_b4)).cast (fun j hj => by rw [hg1 j (by have q := own_cl hj; omega)]; rfl), b8, k8, g_b8, sz_b8, ((fL12_5.other W25 (Or.inr (slot_ne (Or.inr (hw _ (List.mem_of_getElem? (i := 16) rfl))) (Or.inr (hw _ (List.mem_of_getElem? (i := 19) rfl))) (by decide) (t := (.array .long)) (t' := .long) (by decide) (by decide)))).other W30 (Or.inr (slot_ne (Or.inr (hw _ (List.mem_of_getElem? (i := 16) rfl))) (Or.inr (hw _ (List.mem_of_getElem? (i := 22) rfl))) (by decide) (t := (.array .long)) (t' := .int) (by decide) (by decide)))), ((fL12_7.other W25 (Ne.symm ne_o0_b8)).other W30 (Ne.symm ne_o0_b8)).cast (fun j hj => by rw [hg2 j (by have q := own_cl hj; omega)]; rfl)⟩
  have hg1 : ∀ j : Nat, (j : Int) ≤ (0 : Int32).toInt → (fun _ => (0 : Int64)) j = own_L (own_ps n j) := fun j hj => by
    have e : j = 0 := by omega
    subst e; rw [own_ps0]; rfl
  have hg2 : ∀ j : Nat, (j : Int) ≤ (0 : Int32).toInt → (fun _ => (0 : Int64)) j = own_L (own_ts n j) := fun j hj => by
    have e : j = 0 := by omega
    subst e; rw [own_ts0]; rfl
  show Runs p e below _ (T10.setTop (mkF m 29 #[.val (.ref o0), .val (.int p1), .val (.int (0 : Int32)), .unset, .unset] []))
  refine Runs.by (fun _ hr => XS.iloadN X10.here hx rfl (hb hby d1_29) rfl  hr) ?_
  show Runs p e below _ (T10.setTop (mkF m 30 #[.val (.ref o0), .val (.int p1), .val (.int (0 : Int32)), .unset, .unset] [(.int (0 : Int32))]))
  refine Runs.by (fun _ hr => XS.iloadN X10.here hx rfl (hb hby d1_30) rfl  hr) ?_
  show Runs p e below _ (T10.setTop (mkF m 31 #[.val (.ref o0), .val (.int p1), .val (.int (0 : Int32)), .unset, .unset] [(.int p1), (.int (0 : Int32))]))
  have hc31 : (0 : Int32) < p1 := (Int32.lt_iff_toInt_lt.mpr (by omega))
  refine Runs.by (fun _ hr => XS.icmpNo X10.here hx rfl (hb hby d1_31) rfl (tlt hc31).2.1 hr) ?_
  have hlt : (0 : Int32).toInt < p1.toInt := Int32.lt_iff_toInt_lt.mp hc31
  have ei : (1 : Int32).toInt = (0 : Int32).toInt + 1 := by decide
  show Runs p e below _ (T10.setTop (mkF m 34 #[.val (.ref o0), .val (.int p1), .val (.int (0 : Int32)), .unset, .unset] []))
  refine Runs.by (fun _ hr => XS.iloadN X10.here hx rfl (hb hby d1_34) rfl  hr) ?_
  show Runs p e below _ (T10.setTop (mkF m 35 #[.val (.ref o0), .val (.int p1), .val (.int (0 : Int32)), .unset, .unset] [(.int p1)]))
  refine Runs.by (fun _ hr => XS.iconst X10.here hx rfl (hb hby d1_35) hr) ?_
  show Runs p e below _ (T10.setTop (mkF m 36 #[.val (.ref o0), .val (.int p1), .val (.int (0 : Int32)), .unset, .unset] [(.int (1 : Int32)), (.int p1)]))
  refine Runs.by (fun _ hr => XS.isub X10.here hx rfl (hb hby d1_36) rfl hr) ?_
  show Runs p e below _ (T10.setTop (mkF m 37 #[.val (.ref o0), .val (.int p1), .val (.int (0 : Int32)), .unset, .unset] [(.int (p1 - (1 : Int32)))]))
  refine Runs.by (fun _ hr => XS.iloadN X10.here hx rfl (hb hby d1_37) rfl  hr) ?_
  show Runs p e below _ (T10.setTop (mkF m 38 #[.val (.ref o0), .val (.int p1), .val (.int (0 : Int32)), .unset, .unset] [(.int (0 : Int32)), (.int (p1 - (1 : Int32)))]))
  refine Runs.by (fun _ hr => XS.isub X10.here hx rfl (hb hby d1_38) rfl hr) ?_
  show Runs p e below _ (T10.setTop (mkF m 39 #[.val (.ref o0), .val (.int p1), .val (.int (0 : Int32)), .unset, .unset] [(.int ((p1 - (1 : Int32)) - (0 : Int32)))]))
  refine Runs.by (fun _ hr => XS.i2l X10.here hx rfl (hb hby d1_39) rfl hr) ?_
  show Runs p e below _ (T10.setTop (mkF m 40 #[.val (.ref o0), .val (.int p1), .val (.int (0 : Int32)), .unset, .unset] [(.long (((p1 - (1 : Int32)) - (0 : Int32)).toInt64))]))
  refine Runs.by (fun _ hr => XS.lstoreN X10.here hx rfl (hb hby d1_40) rfl (l' := #[.val (.ref o0), .val (.int p1), .val (.int (0 : Int32)), .val (.long (((p1 - (1 : Int32)) - (0 : Int32)).toInt64)), .second]) rfl hr) ?_
  have ea : ((p1 - (1 : Int32)) - (0 : Int32)).toInt = ((n - (0 + 1) : Nat) : Int) := by
    have a1 : (p1 - (1 : Int32)).toInt = p1.toInt - 1 := (Jvm.Kit.i32_sub (by omega) (by omega)).trans (by omega)
    rw [Jvm.Kit.i32_sub (by omega) (by omega), a1]; omega
  have haf : (((p1 - (1 : Int32)) - (0 : Int32)).toInt64) = own_L (n - (0 + 1)) := own_wide ea
  show Runs p e below _ (T10.setTop (mkF m 41 #[.val (.ref o0), .val (.int p1), .val (.int (0 : Int32)), .val (.long (((p1 - (1 : Int32)) - (0 : Int32)).toInt64)), .second] []))
  rw [haf]
  show Runs p e below _ (T10.setTop (mkF m 41 #[.val (.ref o0), .val (.int p1), .val (.int (0 : Int32)), .val (.long (own_L (n - (0 + 1)))), .second] []))
  refine Runs.by (fun _ hr => XS.aloadN X10.here hx rfl (hb hby d1_41) rfl rfl hr) ?_
  show Runs p e below _ (T10.setTop (mkF m 42 #[.val (.ref o0), .val (.int p1), .val (.int (0 : Int32)), .val (.long (own_L (n - (0 + 1)))), .second] [(.ref o0)]))
  obtain ⟨T32, X32, e32, st32⟩ := getF X10 hx hZ hown (host := "") (Or.inl (hw _ (List.mem_of_getElem? (i := 13) rfl))) Via.refl e10 ((Fw6.ext E8).other W10 (Or.inr (slot_ne (Or.inr (hw _ (List.mem_of_getElem? (i := 14) rfl))) (Or.inr (hw _ (List.mem_of_getElem? (i := 16) rfl))) (by decide) (t := (.array .long)) (t' := (.array .long)) (by decide) (by decide)))) (g := (mkF m 42 #[.val (.ref o0), .val (.int p1), .val (.int (0 : Int32)), .val (.long (own_L (n - (0 + 1)))), .second] [(.ref o0)])) rfl rfl (hb hby d1_42)
  refine Runs.by st32 ?_
  show Runs p e below _ (T32.setTop (mkF m 45 #[.val (.ref o0), .val (.int p1), .val (.int (0 : Int32)), .val (.long (own_L (n - (0 + 1)))), .second] [(.ref b4)]))
  refine Runs.by (fun _ hr => XS.iloadN X32.here hx rfl (hb hby d1_45) rfl  hr) ?_
  show Runs p e below _ (T32.setTop (mkF m 46 #[.val (.ref o0), .val (.int p1), .val (.int (0 : Int32)), .val (.long (own_L (n - (0 + 1)))), .second] [(.int (0 : Int32)), (.ref b4)]))
  refine Runs.by (fun _ hr => XS.iconst X32.here hx rfl (hb hby d1_46) hr) ?_
  show Runs p e below _ (T32.setTop (mkF m 47 #[.val (.ref o0), .val (.int p1), .val (.int (0 : Int32)), .val (.long (own_L (n - (0 + 1)))), .second] [(.int (1 : Int32)), (.int (0 : Int32)), (.ref b4)]))
  refine Runs.by (fun _ hr => XS.iadd X32.here hx rfl (hb hby d1_47) rfl hr) ?_
  show Runs p e below _ (T32.setTop (mkF m 48 #[.val (.ref o0), .val (.int p1), .val (.int (0 : Int32)), .val (.long (own_L (n - (0 + 1)))), .second] [(.int (1 : Int32)), (.ref b4)]))
  refine Runs.by (fun _ hr => XS.aloadN X32.here hx rfl (hb hby d1_48) rfl rfl hr) ?_
  show Runs p e below _ (T32.setTop (mkF m 49 #[.val (.ref o0), .val (.int p1), .val (.int (0 : Int32)), .val (.long (own_L (n - (0 + 1)))), .second] [(.ref o0), (.int (1 : Int32)), (.ref b4)]))
  obtain ⟨T33, X33, e33, st33⟩ := getF X32 hx hZ hown (host := "") (Or.inl (hw _ (List.mem_of_getElem? (i := 13) rfl))) Via.refl e32 ((Fw6.ext E8).other W10 (Or.inr (slot_ne (Or.inr (hw _ (List.mem_of_getElem? (i := 14) rfl))) (Or.inr (hw _ (List.mem_of_getElem? (i := 16) rfl))) (by decide) (t := (.array .long)) (t' := (.array .long)) (by decide) (by decide)))) (g := (mkF m 49 #[.val (.ref o0), .val (.int p1), .val (.int (0 : Int32)), .val (.long (own_L (n - (0 + 1)))), .second] [(.ref o0), (.int (1 : Int32)), (.ref b4)])) rfl rfl (hb hby d1_49)
  refine Runs.by st33 ?_
  show Runs p e below _ (T33.setTop (mkF m 52 #[.val (.ref o0), .val (.int p1), .val (.int (0 : Int32)), .val (.long (own_L (n - (0 + 1)))), .second] [(.ref b4), (.int (1 : Int32)), (.ref b4)]))
  refine Runs.by (fun _ hr => XS.iloadN X33.here hx rfl (hb hby d1_52) rfl  hr) ?_
  show Runs p e below _ (T33.setTop (mkF m 53 #[.val (.ref o0), .val (.int p1), .val (.int (0 : Int32)), .val (.long (own_L (n - (0 + 1)))), .second] [(.int (0 : Int32)), (.ref b4), (.int (1 : Int32)), (.ref b4)]))
  obtain ⟨cl34, Ar34, -, S34, N34', H34⟩ := id (((G4.other W6 (Ne.symm ne_o0_b4)).ext E8).other W10 (Ne.symm ne_o0_b4))
  have ix34 := own_ix (j := (0 : Int32)) (z := (p1 + (1 : Int32))) (n := 0) (by omega) (by omega)
  have hin34 : ¬ ((0 : Int32) < 0 ∨ cl34.slots.size ≤ ((0 : Int32)).toNatClampNeg) := inb_of S34 ix34.1
  have hat34 : cl34.slots[((0 : Int32)).toNatClampNeg]? = some (.long (0 : Int64)) := by rw [ix34.2.1]; exact H34 _ ix34.2.2
  refine Runs.by (fun t hr => X33.laload hx (j := (0 : Int32)) (v := (.long (0 : Int64))) (by rw [e33]; exact Ar34.1) (State.isArrayOf_alike hZ.alike Ar34.2.1) Ar34.2.2 hin34 hat34 (g := (mkF m 53 #[.val (.ref o0), .val (.int p1), .val (.int (0 : Int32)), .val (.long (own_L (n - (0 + 1)))), .second] [(.int (0 : Int32)), (.ref b4), (.int (1 : Int32)), (.ref b4)])) rfl rfl (hb hby d1_53) t hr) ?_
  show Runs p e below _ (T33.setTop (mkF m 54 #[.val (.ref o0), .val (.int p1), .val (.int (0 : Int32)), .val (.long (own_L (n - (0 + 1)))), .second] [(.long (0 : Int64)), (.int (1 : Int32)), (.ref b4)]))
  refine Runs.by (fun _ hr => XS.lloadN X33.here hx rfl (hb hby d1_54) rfl  hr) ?_
  show Runs p e below _ (T33.setTop (mkF m 55 #[.val (.ref o0), .val (.int p1), .val (.int (0 : Int32)), .val (.long (own_L (n - (0 + 1)))), .second] [(.long (own_L (n - (0 + 1)))), (.long (0 : Int64)), (.int (1 : Int32)), (.ref b4)]))
  refine Runs.by (fun _ hr => XS.ladd X33.here hx rfl (hb hby d1_55) rfl hr) ?_
  show Runs p e below _ (T33.setTop (mkF m 56 #[.val (.ref o0), .val (.int p1), .val (.int (0 : Int32)), .val (.long (own_L (n - (0 + 1)))), .second] [(.long ((0 : Int64) + (own_L (n - (0 + 1))))), (.int (1 : Int32)), (.ref b4)]))
  obtain ⟨cl35, Ar35, q35, S35, N35', H35⟩ := id (((G4.other W6 (Ne.symm ne_o0_b4)).ext E8).other W10 (Ne.symm ne_o0_b4))
  have ix35 := own_ix (j := (1 : Int32)) (z := (p1 + (1 : Int32))) (n := 0 + 1) (by omega) (by omega)
  have hin35 : ¬ ((1 : Int32) < 0 ∨ cl35.slots.size ≤ ((1 : Int32)).toNatClampNeg) := inb_of S35 ix35.1
  obtain ⟨T35, h35, X35, e35, W35, st35⟩ := stJ X33 hx hZ e33 Ar35 (j := (1 : Int32)) hin35 (g := (mkF m 56 #[.val (.ref o0), .val (.int p1), .val (.int (0 : Int32)), .val (.long (own_L (n - (0 + 1)))), .second] [(.long ((0 : Int64) + (own_L (n - (0 + 1))))), (.int (1 : Int32)), (.ref b4)])) rfl rfl (hb hby d1_56)
  have G35 : Arf Z h35 b4 k4 .long (p1 + (1 : Int32)) (fun j_ => .long ((own_up (fun _ => (0 : Int64)) (0 + 1) ((0 : Int64) + (own_L (n - (0 + 1))))) j_)) := (Arf.set Ar35 q35 S35 N35' H35 W35 ix35.2.1).cast (fun j_ _ => by simp only [own_up]; split <;> rfl)
  have K36 : Keep h0 h35 [o0] := K11.wr W35 (Or.inr sz_b4)
  have N35 := Fr.snoc X35 N10 g_b4
  refine Runs.by st35 ?_
  show Runs p e below _ (T35.setTop (mkF m 57 #[.val (.ref o0), .val (.int p1), .val (.int (0 : Int32)), .val (.long (own_L (n - (0 + 1)))), .second] []))
  refine Runs.by (fun _ hr => XS.aloadN X35.here hx rfl (hb hby d1_57) rfl rfl hr) ?_
  show Runs p e below _ (T35.setTop (mkF m 58 #[.val (.ref o0), .val (.int p1), .val (.int (0 : Int32)), .val (.long (own_L (n - (0 + 1)))), .second] [(.ref o0)]))
  obtain ⟨T37, X37, e37, st37⟩ := getF X35 hx hZ hown (host := "") (Or.inl (hw _ (List.mem_of_getElem? (i := 15) rfl))) Via.refl e35 (Fw10.other W35 (Or.inl ne_o0_b4)) (g := (mkF m 58 #[.val (.ref o0), .val (.int p1), .val (.int (0 : Int32)), .val (.long (own_L (n - (0 + 1)))), .second] [(.ref o0)])) rfl rfl (hb hby d1_58)
  refine Runs.by st37 ?_
  show Runs p e below _ (T37.setTop (mkF m 61 #[.val (.ref o0), .val (.int p1), .val (.int (0 : Int32)), .val (.long (own_L (n - (0 + 1)))), .second] [(.ref b8)]))
  refine Runs.by (fun _ hr => XS.iloadN X37.here hx rfl (hb hby d1_61) rfl  hr) ?_
  show Runs p e below _ (T37.setTop (mkF m 62 #[.val (.ref o0), .val (.int p1), .val (.int (0 : Int32)), .val (.long (own_L (n - (0 + 1)))), .second] [(.int (0 : Int32)), (.ref b8)]))
  refine Runs.by (fun _ hr => XS.iconst X37.here hx rfl (hb hby d1_62) hr) ?_
  show Runs p e below _ (T37.setTop (mkF m 63 #[.val (.ref o0), .val (.int p1), .val (.int (0 : Int32)), .val (.long (own_L (n - (0 + 1)))), .second] [(.int (1 : Int32)), (.int (0 : Int32)), (.ref b8)]))
  refine Runs.by (fun _ hr => XS.iadd X37.here hx rfl (hb hby d1_63) rfl hr) ?_
  show Runs p e below _ (T37.setTop (mkF m 64 #[.val (.ref o0), .val (.int p1), .val (.int (0 : Int32)), .val (.long (own_L (n - (0 + 1)))), .second] [(.int (1 : Int32)), (.ref b8)]))
  refine Runs.by (fun _ hr => XS.aloadN X37.here hx rfl (hb hby d1_64) rfl rfl hr) ?_
  show Runs p e below _ (T37.setTop (mkF m 65 #[.val (.ref o0), .val (.int p1), .val (.int (0 : Int32)), .val (.long (own_L (n - (0 + 1)))), .second] [(.ref o0), (.int (1 : Int32)), (.ref b8)]))
  obtain ⟨T38, X38, e38, st38⟩ := getF X37 hx hZ hown (host := "") (Or.inl (hw _ (List.mem_of_getElem? (i := 15) rfl))) Via.refl e37 (Fw10.other W35 (Or.inl ne_o0_b4)) (g := (mkF m 65 #[.val (.ref o0), .val (.int p1), .val (.int (0 : Int32)), .val (.long (own_L (n - (0 + 1)))), .second] [(.ref o0), (.int (1 : Int32)), (.ref b8)])) rfl rfl (hb hby d1_65)
  refine Runs.by st38 ?_
  show Runs p e below _ (T38.setTop (mkF m 68 #[.val (.ref o0), .val (.int p1), .val (.int (0 : Int32)), .val (.long (own_L (n - (0 + 1)))), .second] [(.ref b8), (.int (1 : Int32)), (.ref b8)]))
  refine Runs.by (fun _ hr => XS.iloadN X38.here hx rfl (hb hby d1_68) rfl  hr) ?_
  show Runs p e below _ (T38.setTop (mkF m 69 #[.val (.ref o0), .val (.int p1), .val (.int (0 : Int32)), .val (.long (own_L (n - (0 + 1)))), .second] [(.int (0 : Int32)), (.ref b8), (.int (1 : Int32)), (.ref b8)]))
  obtain ⟨cl39, Ar39, -, S39, N39', H39⟩ := id ((G8.other W10 (Ne.symm ne_o0_b8)).other W35 (Ne.symm ne_b4_b8))
  have ix39 := own_ix (j := (0 : Int32)) (z := (p1 + (1 : Int32))) (n := 0) (by omega) (by omega)
  have hin39 : ¬ ((0 : Int32) < 0 ∨ cl39.slots.size ≤ ((0 : Int32)).toNatClampNeg) := inb_of S39 ix39.1
  have hat39 : cl39.slots[((0 : Int32)).toNatClampNeg]? = some (.long (0 : Int64)) := by rw [ix39.2.1]; exact H39 _ ix39.2.2
  refine Runs.by (fun t hr => X38.laload hx (j := (0 : Int32)) (v := (.long (0 : Int64))) (by rw [e38]; exact Ar39.1) (State.isArrayOf_alike hZ.alike Ar39.2.1) Ar39.2.2 hin39 hat39 (g := (mkF m 69 #[.val (.ref o0), .val (.int p1), .val (.int (0 : Int32)), .val (.long (own_L (n - (0 + 1)))), .second] [(.int (0 : Int32)), (.ref b8), (.int (1 : Int32)), (.ref b8)])) rfl rfl (hb hby d1_69) t hr) ?_
  show Runs p e below _ (T38.setTop (mkF m 70 #[.val (.ref o0), .val (.int p1), .val (.int (0 : Int32)), .val (.long (own_L (n - (0 + 1)))), .second] [(.long (0 : Int64)), (.int (1 : Int32)), (.ref b8)]))
  refine Runs.by (fun _ hr => XS.lloadN X38.here hx rfl (hb hby d1_70) rfl  hr) ?_
  show Runs p e below _ (T38.setTop (mkF m 71 #[.val (.ref o0), .val (.int p1), .val (.int (0 : Int32)), .val (.long (own_L (n - (0 + 1)))), .second] [(.long (own_L (n - (0 + 1)))), (.long (0 : Int64)), (.int (1 : Int32)), (.ref b8)]))
  refine Runs.by (fun _ hr => XS.lloadN X38.here hx rfl (hb hby d1_71) rfl  hr) ?_
  show Runs p e below _ (T38.setTop (mkF m 72 #[.val (.ref o0), .val (.int p1), .val (.int (0 : Int32)), .val (.long (own_L (n - (0 + 1)))), .second] [(.long (own_L (n - (0 + 1)))), (.long (own_L (n - (0 + 1)))), (.long (0 : Int64)), (.int (1 : Int32)), (.ref b8)]))
  refine Runs.by (fun _ hr => XS.lconst X38.here hx rfl (hb hby d1_72) hr) ?_
  show Runs p e below _ (T38.setTop (mkF m 73 #[.val (.ref o0), .val (.int p1), .val (.int (0 : Int32)), .val (.long (own_L (n - (0 + 1)))), .second] [(.long (1 : Int64)), (.long (own_L (n - (0 + 1)))), (.long (own_L (n - (0 + 1)))), (.long (0 : Int64)), (.int (1 : Int32)), (.ref b8)]))
  refine Runs.by (fun _ hr => XS.lsub X38.here hx rfl (hb hby d1_73) rfl hr) ?_
  show Runs p e below _ (T38.setTop (mkF m 74 #[.val (.ref o0), .val (.int p1), .val (.int (0 : Int32)), .val (.long (own_L (n - (0 + 1)))), .second] [(.long ((own_L (n - (0 + 1))) - (1 : Int64))), (.long (own_L (n - (0 + 1)))), (.long (0 : Int64)), (.int (1 : Int32)), (.ref b8)]))
  refine Runs.by (fun _ hr => XS.lmul X38.here hx rfl (hb hby d1_74) rfl hr) ?_
  show Runs p e below _ (T38.setTop (mkF m 75 #[.val (.ref o0), .val (.int p1), .val (.int (0 : Int32)), .val (.long (own_L (n - (0 + 1)))), .second] [(.long ((own_L (n - (0 + 1))) * ((own_L (n - (0 + 1))) - (1 : Int64)))), (.long (0 : Int64)), (.int (1 : Int32)), (.ref b8)]))
  refine Runs.by (fun _ hr => X38.ldc2J hx hown (mvT hZ (hw _ (List.mem_of_getElem? (i := 17) rfl))) (g := (mkF m 75 #[.val (.ref o0), .val (.int p1), .val (.int (0 : Int32)), .val (.long (own_L (n - (0 + 1)))), .second] [(.long ((own_L (n - (0 + 1))) * ((own_L (n - (0 + 1))) - (1 : Int64)))), (.long (0 : Int64)), (.int (1 : Int32)), (.ref b8)])) rfl (hb hby d1_75) hr) ?_
  show Runs p e below _ (T38.setTop (mkF m 78 #[.val (.ref o0), .val (.int p1), .val (.int (0 : Int32)), .val (.long (own_L (n - (0 + 1)))), .second] [(.long (2 : Int64)), (.long ((own_L (n - (0 + 1))) * ((own_L (n - (0 + 1))) - (1 : Int64)))), (.long (0 : Int64)), (.int (1 : Int32)), (.ref b8)]))
  refine Runs.by (fun _ hr => XS.ldiv X38.here hx rfl (hb hby d1_78) rfl (by decide) hr) ?_
  show Runs p e below _ (T38.setTop (mkF m 79 #[.val (.ref o0), .val (.int p1), .val (.int (0 : Int32)), .val (.long (own_L (n - (0 + 1)))), .second] [(.long (((own_L (n - (0 + 1))) * ((own_L (n - (0 + 1))) - (1 : Int64))) / (2 : Int64))), (.long (0 : Int64)), (.int (1 : Int32)), (.ref b8)]))
  refine Runs.by (fun _ hr => XS.ladd X38.here hx rfl (hb hby d1_79) rfl hr) ?_
  show Runs p e below _ (T38.setTop (mkF m 80 #[.val (.ref o0), .val (.int p1), .val (.int (0 : Int32)), .val (.long (own_L (n - (0 + 1)))), .second] [(.long ((0 : Int64) + (((own_L (n - (0 + 1))) * ((own_L (n - (0 + 1))) - (1 : Int64))) / (2 : Int64)))), (.int (1 : Int32)), (.ref b8)]))
  obtain ⟨cl40, Ar40, q40, S40, N40', H40⟩ := id ((G8.other W10 (Ne.symm ne_o0_b8)).other W35 (Ne.symm ne_b4_b8))
  have ix40 := own_ix (j := (1 : Int32)) (z := (p1 + (1 : Int32))) (n := 0 + 1) (by omega) (by omega)
  have hin40 : ¬ ((1 : Int32) < 0 ∨ cl40.slots.size ≤ ((1 : Int32)).toNatClampNeg) := inb_of S40 ix40.1
  obtain ⟨T40, h40, X40, e40, W40, st40⟩ := stJ X38 hx hZ e38 Ar40 (j := (1 : Int32)) hin40 (g := (mkF m 80 #[.val (.ref o0), .val (.int p1), .val (.int (0 : Int32)), .val (.long (own_L (n - (0 + 1)))), .second] [(.long ((0 : Int64) + (((own_L (n - (0 + 1))) * ((own_L (n - (0 + 1))) - (1 : Int64))) / (2 : Int64)))), (.int (1 : Int32)), (.ref b8)])) rfl rfl (hb hby d1_80)
  have G40 : Arf Z h40 b8 k8 .long (p1 + (1 : Int32)) (fun j_ => .long ((own_up (fun _ => (0 : Int64)) (0 + 1) ((0 : Int64) + (((own_L (n - (0 + 1))) * ((own_L (n - (0 + 1))) - (1 : Int64))) / (2 : Int64)))) j_)) := (Arf.set Ar40 q40 S40 N40' H40 W40 ix40.2.1).cast (fun j_ _ => by simp only [own_up]; split <;> rfl)
  have K41 : Keep h0 h40 [o0] := K36.wr W40 (Or.inr sz_b8)
  have N40 := Fr.snoc X40 N35 g_b8
  refine Runs.by st40 ?_
  show Runs p e below _ (T40.setTop (mkF m 81 #[.val (.ref o0), .val (.int p1), .val (.int (0 : Int32)), .val (.long (own_L (n - (0 + 1)))), .second] []))
  refine Runs.by (fun _ hr => XS.iinc X40.here hx rfl (hb hby d1_81) rfl (l' := #[.val (.ref o0), .val (.int p1), .val (.int (1 : Int32)), .val (.long (own_L (n - (0 + 1)))), .second]) rfl hr) ?_
  show Runs p e below _ (T40.setTop (mkF m 84 #[.val (.ref o0), .val (.int p1), .val (.int (1 : Int32)), .val (.long (own_L (n - (0 + 1)))), .second] []))
  refine Runs.by (fun _ hr => XS.goto X40.here hx rfl (pc0 := 84) (pc' := 29) rfl (hb hby d1_84) (by decide) (by decide) hr) ?_
  have hlt2 : own_ps n (0 + 1) ≤ own_c2 n := own_ps_le _ _
  have hlt3 : own_ts n (0 + 1) ≤ own_c3 n := own_ts_le _ _
  have ht2 := own_c2_top hbn.2
  have ht3 := own_c3_top hbn.2
  have hsp := own_ps_succ (n := n) (i := 0) (by omega)
  have hst := own_ts_succ (n := n) (i := 0) (by omega)
  have ng1 : ∀ j : Nat, (j : Int) ≤ (1 : Int32).toInt → (own_up (fun _ => (0 : Int64)) (0 + 1) ((0 : Int64) + (own_L (n - (0 + 1))))) j = own_L (own_ps n j) := by
    intro j hj
    by_cases q : j = 0 + 1
    · subst q; rw [own_up_same]; show own_L 0 + own_L _ = _; rw [own_Ladd (by omega), hsp, own_ps0]
    · rw [own_up_ne _ _ q]; exact hg1 j (by omega)
  have ng2 : ∀ j : Nat, (j : Int) ≤ (1 : Int32).toInt → (own_up (fun _ => (0 : Int64)) (0 + 1) ((0 : Int64) + (((own_L (n - (0 + 1))) * ((own_L (n - (0 + 1))) - (1 : Int64))) / (2 : Int64)))) j = own_L (own_ts n j) := by
    intro j hj
    by_cases q : j = 0 + 1
    · subst q; rw [own_up_same]; show own_L 0 + own_c2J (own_L (n - (0 + 1))) = _; rw [own_c2J_eq (by omega), own_Ladd (by omega), hst, own_ts0]
    · rw [own_up_ne _ _ q]; exact hg2 j (by omega)
  exact LC (p1.toInt - (1 : Int32).toInt).toNat (1 : Int32) (own_L (n - (0 + 1))) (own_up (fun _ => (0 : Int64)) (0 + 1) ((0 : Int64) + (own_L (n - (0 + 1))))) (own_up (fun _ => (0 : Int64)) (0 + 1) ((0 : Int64) + (((own_L (n - (0 + 1))) * ((own_L (n - (0 + 1))) - (1 : Int64))) / (2 : Int64)))) _ _ _ X40 e40 N40 K41  (((((((E0.wr W2).ext E4).wr W6).ext E8).wr W10).wr W35).wr W40) ((((((Fw2.ext E4).other W6 (Or.inr (slot_ne (Or.inr (hw _ (List.mem_of_getElem? (i := 11) rfl))) (Or.inr (hw _ (List.mem_of_getElem? (i := 14) rfl))) (by decide) (t := .int) (t' := (.array .long)) (by decide) (by decide)))).ext E8).other W10 (Or.inr (slot_ne (Or.inr (hw _ (List.mem_of_getElem? (i := 11) rfl))) (Or.inr (hw _ (List.mem_of_getElem? (i := 16) rfl))) (by decide) (t := .int) (t' := (.array .long)) (by decide) (by decide)))).other W35 (Or.inl ne_o0_b4)).other W40 (Or.inl ne_o0_b8)) (((((((Fq.other W2 (Or.inr (slot_ne (Or.inr (hw _ (List.mem_of_getElem? (i := 19) rfl))) (Or.inr (hw _ (List.mem_of_getElem? (i := 11) rfl))) (by decide) (t := .long) (t' := .int) (by decide) (by decide)))).ext E4).other W6 (Or.inr (slot_ne (Or.inr (hw _ (List.mem_of_getElem? (i := 19) rfl))) (Or.inr (hw _ (List.mem_of_getElem? (i := 14) rfl))) (by decide) (t := .long) (t' := (.array .long)) (by decide) (by decide)))).ext E8).other W10 (Or.inr (slot_ne (Or.inr (hw _ (List.mem_of_getElem? (i := 19) rfl))) (Or.inr (hw _ (List.mem_of_getElem? (i := 16) rfl))) (by decide) (t := .long) (t' := (.array .long)) (by decide) (by decide)))).other W35 (Or.inl ne_o0_b4)).other W40 (Or.inl ne_o0_b8)) (((((((Fs.other W2 (Or.inr (slot_ne (Or.inr (hw _ (List.mem_of_getElem? (i := 22) rfl))) (Or.inr (hw _ (List.mem_of_getElem? (i := 11) rfl))) (by decide) (t := .int) (t' := .int) (by decide) (by decide)))).ext E4).other W6 (Or.inr (slot_ne (Or.inr (hw _ (List.mem_of_getElem? (i := 22) rfl))) (Or.inr (hw _ (List.mem_of_getElem? (i := 14) rfl))) (by decide) (t := .int) (t' := (.array .long)) (by decide) (by decide)))).ext E8).other W10 (Or.inr (slot_ne (Or.inr (hw _ (List.mem_of_getElem? (i := 22) rfl))) (Or.inr (hw _ (List.mem_of_getElem? (i := 16) rfl))) (by decide) (t := .int) (t' := (.array .long)) (by decide) (by decide)))).other W35 (Or.inl ne_o0_b4)).other W40 (Or.inl ne_o0_b8)) ((((Fw6.ext E8).other W10 (Or.inr (slot_ne (Or.inr (hw _ (List.mem_of_getElem? (i := 14) rfl))) (Or.inr (hw _ (List.mem_of_getElem? (i := 16) rfl))) (by decide) (t := (.array .long)) (t' := (.array .long)) (by decide) (by decide)))).other W35 (Or.inl ne_o0_b4)).other W40 (Or.inl ne_o0_b8)) ((Fw10.other W35 (Or.inl ne_o0_b4)).other W40 (Or.inl ne_o0_b8)) (G35.other W40 ne_b4_b8) G40 (by omega) (by omega) ng1 ng2
theorem d3_0 : decode method_2_code 0 = .ok (.lload_n 0, 1) := by decide +kernel
theorem d3_1 : decode method_2_code 1 = .ok (.lload_n 0, 1) := by decide +kernel
theorem d3_2 : decode method_2_code 2 = .ok (.lconst 1, 1) := by decide +kernel
theorem d3_3 : decode method_2_code 3 = .ok (.lsub, 1) := by decide +kernel
theorem d3_4 : decode method_2_code 4 = .ok (.lmul, 1) := by decide +kernel
theorem d3_5 : decode method_2_code 5 = .ok (.ldc2_w 7, 3) := by decide +kernel
theorem d3_8 : decode method_2_code 8 = .ok (.ldiv, 1) := by decide +kernel
theorem d3_9 : decode method_2_code 9 = .ok (.lreturn, 1) := by decide +kernel
theorem ef_3_1 (m : MethodId) (q0 : Int64) : entryFrame m #[(.long q0)] 2 = mkF m 0 #[.val (.long q0), .second] [] := by first | (simp [entryFrame, mkF, argsToLocals, Value.category]; done) | rfl
theorem pn_com_example_fapre_fapre_KeywordSetsPlacesPinLaw : plainName "com/example/fapre/fapre/KeywordSetsPlacesPinLaw" = true := by first | (simp [plainName, overriddenIn]; done) | decide +kernel
def Q_rm3 (Z : State) (q0 : Int64)  (h0 : Heap) (n0 : Nat) (v : Option Value) (h : Heap) (L : List Loc) : Prop := v = some (.long (own_c2J q0)) ∧ Fr n0 L ∧ h = h0
set_option maxRecDepth 65536 in
set_option maxHeartbeats 40000000 in
theorem rm3 (l : Launch) (Z : State) (a0 : Array Value) (hw : ∀ d ∈ tables_1, d.before a0 Z = true) (ws : List Jvm.Cond) (q0 : Int64)  (h0 : Heap) (n0 : Nat) (Z0 : n0 ≤ h0.size) :
    MetFree l (⟨"com/example/fapre/fapre/KeywordSetsPlacesPinLaw", "c2", "(J)J"⟩ : MethodName) (head1 (Jvm.Cond.code (⟨"com/example/fapre/fapre/KeywordSetsPlacesPinLaw", "c2", "(J)J"⟩ : MethodName) method_2_code 2 (some .long) :: ws) ({ frames := 0, cells := 0, slots := 0, locals := 0 } : Room)) (fun a U => a = #[(.long q0)] ∧ Z.Warmed39 U.vm ∧ U.heap = h0) (fun _ _ _ _ _ => True) (fun _ U o U' => ∃ v L, o = .returned v ∧ Q_rm3 Z q0 h0 n0 v U'.heap L ∧ FrameEnd U o U' L ({ frames := 0, cells := 0, slots := 0, locals := 0 } : Room).cells ({ frames := 0, cells := 0, slots := 0, locals := 0 } : Room).slots) := by
  refine MetFree.of_bodySF (plainFor_of_name pn_com_example_fapre_fapre_KeywordSetsPlacesPinLaw) hisR ?_
  intro p e s m args below meth c s₁ Bd hml0 hP hK
  obtain ⟨rfl, hZ, hh⟩ := hP
  have hx := Bd.exec
  have hby := Bd.bytes
  have hlk := BodyLoose.notSynchronized Bd
  have hrt := Bd.returns
  have hml : c.maxLocals = 2 := hml0
  have hown : s.vm.findClass "com/example/fapre/fapre/KeywordSetsPlacesPinLaw" = some m.cls := findClass_of_methodNamed Bd.named
  have hnm := (name_of_methodNamed Bd.named Bd.method).1
  have X0 : Stand p l e ({ frames := 0, cells := 0, slots := 0, locals := 0 } : Room) s m #[(.long q0)] below meth c s₁ [] 0 0 := Stand.of_body Bd
  have e0 : s₁.heap = h0 := by rw [← hh, Bd.state]; rfl
  have N0 := Fr.nil n0
  have K0 : Keep h0 h0 [] := Keep.refl h0 _
  show Runs p e below (QE s (Q_rm3 Z q0 h0 n0) ({ frames := 0, cells := 0, slots := 0, locals := 0 } : Room).cells ({ frames := 0, cells := 0, slots := 0, locals := 0 } : Room).slots) (s₁.setTop (entryFrame m #[(.long q0)] 2))
  rw [ef_3_1 m q0]
  show Runs p e below _ (s₁.setTop (mkF m 0 #[.val (.long q0), .second] []))
  refine Runs.by (fun _ hr => XS.lloadN X0.here hx rfl (hb hby d3_0) rfl  hr) ?_
  show Runs p e below _ (s₁.setTop (mkF m 1 #[.val (.long q0), .second] [(.long q0)]))
  refine Runs.by (fun _ hr => XS.lloadN X0.here hx rfl (hb hby d3_1) rfl  hr) ?_
  show Runs p e below _ (s₁.setTop (mkF m 2 #[.val (.long q0), .second] [(.long q0), (.long q0)]))
  refine Runs.by (fun _ hr => XS.lconst X0.here hx rfl (hb hby d3_2) hr) ?_
  show Runs p e below _ (s₁.setTop (mkF m 3 #[.val (.long q0), .second] [(.long (1 : Int64)), (.long q0), (.long q0)]))
  refine Runs.by (fun _ hr => XS.lsub X0.here hx rfl (hb hby d3_3) rfl hr) ?_
  show Runs p e below _ (s₁.setTop (mkF m 4 #[.val (.long q0), .second] [(.long (q0 - (1 : Int64))), (.long q0)]))
  refine Runs.by (fun _ hr => XS.lmul X0.here hx rfl (hb hby d3_4) rfl hr) ?_
  show Runs p e below _ (s₁.setTop (mkF m 5 #[.val (.long q0), .second] [(.long (q0 * (q0 - (1 : Int64))))]))
  refine Runs.by (fun _ hr => X0.ldc2J hx hown (mvT hZ (hw _ (List.mem_of_getElem? (i := 27) rfl))) (g := (mkF m 5 #[.val (.long q0), .second] [(.long (q0 * (q0 - (1 : Int64))))])) rfl (hb hby d3_5) hr) ?_
  show Runs p e below _ (s₁.setTop (mkF m 8 #[.val (.long q0), .second] [(.long (2 : Int64)), (.long (q0 * (q0 - (1 : Int64))))]))
  refine Runs.by (fun _ hr => XS.ldiv X0.here hx rfl (hb hby d3_8) rfl (by decide) hr) ?_
  show Runs p e below _ (s₁.setTop (mkF m 9 #[.val (.long q0), .second] [(.long ((q0 * (q0 - (1 : Int64))) / (2 : Int64)))]))
  refine Runs.ret X0 hx hrt hlk (Or.inr (Or.inl ⟨rfl, rfl, _, rfl⟩)) rfl (hb hby d3_9) (by decide) (by decide) ?_
  rw [e0]
  exact ⟨rfl, N0, rfl⟩
theorem d4_0 : decode method_3_code 0 = .ok (.lload_n 0, 1) := by decide +kernel
theorem d4_1 : decode method_3_code 1 = .ok (.lload_n 0, 1) := by decide +kernel
theorem d4_2 : decode method_3_code 2 = .ok (.lconst 1, 1) := by decide +kernel
theorem d4_3 : decode method_3_code 3 = .ok (.lsub, 1) := by decide +kernel
theorem d4_4 : decode method_3_code 4 = .ok (.lmul, 1) := by decide +kernel
theorem d4_5 : decode method_3_code 5 = .ok (.lload_n 0, 1) := by decide +kernel
theorem d4_6 : decode method_3_code 6 = .ok (.ldc2_w 7, 3) := by decide +kernel
theorem d4_9 : decode method_3_code 9 = .ok (.lsub, 1) := by decide +kernel
theorem d4_10 : decode method_3_code 10 = .ok (.lmul, 1) := by decide +kernel
theorem d4_11 : decode method_3_code 11 = .ok (.ldc2_w 9, 3) := by decide +kernel
theorem d4_14 : decode method_3_code 14 = .ok (.ldiv, 1) := by decide +kernel
theorem d4_15 : decode method_3_code 15 = .ok (.lreturn, 1) := by decide +kernel
theorem ef_4_2 (m : MethodId) (q0 : Int64) : entryFrame m #[(.long q0)] 2 = mkF m 0 #[.val (.long q0), .second] [] := by first | (simp [entryFrame, mkF, argsToLocals, Value.category]; done) | rfl
def Q_rm4 (Z : State) (q0 : Int64)  (h0 : Heap) (n0 : Nat) (v : Option Value) (h : Heap) (L : List Loc) : Prop := v = some (.long (own_c3J q0)) ∧ Fr n0 L ∧ h = h0
set_option maxRecDepth 65536 in
set_option maxHeartbeats 40000000 in
theorem rm4 (l : Launch) (Z : State) (a0 : Array Value) (hw : ∀ d ∈ tables_1, d.before a0 Z = true) (ws : List Jvm.Cond) (q0 : Int64)  (h0 : Heap) (n0 : Nat) (Z0 : n0 ≤ h0.size) :
    MetFree l (⟨"com/example/fapre/fapre/KeywordSetsPlacesPinLaw", "c3", "(J)J"⟩ : MethodName) (head1 (Jvm.Cond.code (⟨"com/example/fapre/fapre/KeywordSetsPlacesPinLaw", "c3", "(J)J"⟩ : MethodName) method_3_code 2 (some .long) :: ws) ({ frames := 0, cells := 0, slots := 0, locals := 0 } : Room)) (fun a U => a = #[(.long q0)] ∧ Z.Warmed39 U.vm ∧ U.heap = h0) (fun _ _ _ _ _ => True) (fun _ U o U' => ∃ v L, o = .returned v ∧ Q_rm4 Z q0 h0 n0 v U'.heap L ∧ FrameEnd U o U' L ({ frames := 0, cells := 0, slots := 0, locals := 0 } : Room).cells ({ frames := 0, cells := 0, slots := 0, locals := 0 } : Room).slots) := by
  refine MetFree.of_bodySF (plainFor_of_name pn_com_example_fapre_fapre_KeywordSetsPlacesPinLaw) hisR ?_
  intro p e s m args below meth c s₁ Bd hml0 hP hK
  obtain ⟨rfl, hZ, hh⟩ := hP
  have hx := Bd.exec
  have hby := Bd.bytes
  have hlk := BodyLoose.notSynchronized Bd
  have hrt := Bd.returns
  have hml : c.maxLocals = 2 := hml0
  have hown : s.vm.findClass "com/example/fapre/fapre/KeywordSetsPlacesPinLaw" = some m.cls := findClass_of_methodNamed Bd.named
  have hnm := (name_of_methodNamed Bd.named Bd.method).1
  have X0 : Stand p l e ({ frames := 0, cells := 0, slots := 0, locals := 0 } : Room) s m #[(.long q0)] below meth c s₁ [] 0 0 := Stand.of_body Bd
  have e0 : s₁.heap = h0 := by rw [← hh, Bd.state]; rfl
  have N0 := Fr.nil n0
  have K0 : Keep h0 h0 [] := Keep.refl h0 _
  show Runs p e below (QE s (Q_rm4 Z q0 h0 n0) ({ frames := 0, cells := 0, slots := 0, locals := 0 } : Room).cells ({ frames := 0, cells := 0, slots := 0, locals := 0 } : Room).slots) (s₁.setTop (entryFrame m #[(.long q0)] 2))
  rw [ef_4_2 m q0]
  show Runs p e below _ (s₁.setTop (mkF m 0 #[.val (.long q0), .second] []))
  refine Runs.by (fun _ hr => XS.lloadN X0.here hx rfl (hb hby d4_0) rfl  hr) ?_
  show Runs p e below _ (s₁.setTop (mkF m 1 #[.val (.long q0), .second] [(.long q0)]))
  refine Runs.by (fun _ hr => XS.lloadN X0.here hx rfl (hb hby d4_1) rfl  hr) ?_
  show Runs p e below _ (s₁.setTop (mkF m 2 #[.val (.long q0), .second] [(.long q0), (.long q0)]))
  refine Runs.by (fun _ hr => XS.lconst X0.here hx rfl (hb hby d4_2) hr) ?_
  show Runs p e below _ (s₁.setTop (mkF m 3 #[.val (.long q0), .second] [(.long (1 : Int64)), (.long q0), (.long q0)]))
  refine Runs.by (fun _ hr => XS.lsub X0.here hx rfl (hb hby d4_3) rfl hr) ?_
  show Runs p e below _ (s₁.setTop (mkF m 4 #[.val (.long q0), .second] [(.long (q0 - (1 : Int64))), (.long q0)]))
  refine Runs.by (fun _ hr => XS.lmul X0.here hx rfl (hb hby d4_4) rfl hr) ?_
  show Runs p e below _ (s₁.setTop (mkF m 5 #[.val (.long q0), .second] [(.long (q0 * (q0 - (1 : Int64))))]))
  refine Runs.by (fun _ hr => XS.lloadN X0.here hx rfl (hb hby d4_5) rfl  hr) ?_
  show Runs p e below _ (s₁.setTop (mkF m 6 #[.val (.long q0), .second] [(.long q0), (.long (q0 * (q0 - (1 : Int64))))]))
  refine Runs.by (fun _ hr => X0.ldc2J hx hown (mvT hZ (hw _ (List.mem_of_getElem? (i := 27) rfl))) (g := (mkF m 6 #[.val (.long q0), .second] [(.long q0), (.long (q0 * (q0 - (1 : Int64))))])) rfl (hb hby d4_6) hr) ?_
  show Runs p e below _ (s₁.setTop (mkF m 9 #[.val (.long q0), .second] [(.long (2 : Int64)), (.long q0), (.long (q0 * (q0 - (1 : Int64))))]))
  refine Runs.by (fun _ hr => XS.lsub X0.here hx rfl (hb hby d4_9) rfl hr) ?_
  show Runs p e below _ (s₁.setTop (mkF m 10 #[.val (.long q0), .second] [(.long (q0 - (2 : Int64))), (.long (q0 * (q0 - (1 : Int64))))]))
  refine Runs.by (fun _ hr => XS.lmul X0.here hx rfl (hb hby d4_10) rfl hr) ?_
  show Runs p e below _ (s₁.setTop (mkF m 11 #[.val (.long q0), .second] [(.long ((q0 * (q0 - (1 : Int64))) * (q0 - (2 : Int64))))]))
  refine Runs.by (fun _ hr => X0.ldc2J hx hown (mvT hZ (hw _ (List.mem_of_getElem? (i := 31) rfl))) (g := (mkF m 11 #[.val (.long q0), .second] [(.long ((q0 * (q0 - (1 : Int64))) * (q0 - (2 : Int64))))])) rfl (hb hby d4_11) hr) ?_
  show Runs p e below _ (s₁.setTop (mkF m 14 #[.val (.long q0), .second] [(.long (6 : Int64)), (.long ((q0 * (q0 - (1 : Int64))) * (q0 - (2 : Int64))))]))
  refine Runs.by (fun _ hr => XS.ldiv X0.here hx rfl (hb hby d4_14) rfl (by decide) hr) ?_
  show Runs p e below _ (s₁.setTop (mkF m 15 #[.val (.long q0), .second] [(.long (((q0 * (q0 - (1 : Int64))) * (q0 - (2 : Int64))) / (6 : Int64)))]))
  refine Runs.ret X0 hx hrt hlk (Or.inr (Or.inl ⟨rfl, rfl, _, rfl⟩)) rfl (hb hby d4_15) (by decide) (by decide) ?_
  rw [e0]
  exact ⟨rfl, N0, rfl⟩
theorem d5_0 : decode prog_7_method_2_code 0 = .ok (.aload_n 0, 1) := by decide +kernel
theorem d5_1 : decode prog_7_method_2_code 1 = .ok (.getfield 39, 3) := by decide +kernel
theorem d5_4 : decode prog_7_method_2_code 4 = .ok (.ireturn, 1) := by decide +kernel
theorem ef_5_3 (m : MethodId) (o0 : Addr) : entryFrame m #[(.ref o0)] 1 = mkF m 0 #[.val (.ref o0)] [] := by first | (simp [entryFrame, mkF, argsToLocals, Value.category]; done) | rfl
def Q_rm5 (Z : State) (o0 : Addr) (sz : Int32) (h0 : Heap) (n0 : Nat) (v : Option Value) (h : Heap) (L : List Loc) : Prop := v = some (.int sz) ∧ Fr n0 L ∧ h = h0
set_option maxRecDepth 65536 in
set_option maxHeartbeats 40000000 in
theorem rm5 (l : Launch) (Z : State) (a0 : Array Value) (hw : ∀ d ∈ tables_1, d.before a0 Z = true) (ws : List Jvm.Cond) (o0 : Addr) (sz : Int32) (h0 : Heap) (n0 : Nat) (Z0 : n0 ≤ h0.size) (Fs : Fld Z h0 o0 "com/example/fapre/fapre/KeywordSets" "size" "I" (.int sz)) :
    MetFree l (⟨"com/example/fapre/fapre/KeywordSets", "size", "()I"⟩ : MethodName) (head1 (Jvm.Cond.code (⟨"com/example/fapre/fapre/KeywordSets", "size", "()I"⟩ : MethodName) prog_7_method_2_code 1 (some .int) :: ws) ({ frames := 0, cells := 0, slots := 0, locals := 0 } : Room)) (fun a U => a = #[(.ref o0)] ∧ Z.Warmed39 U.vm ∧ U.heap = h0) (fun _ _ _ _ _ => True) (fun _ U o U' => ∃ v L, o = .returned v ∧ Q_rm5 Z o0 sz h0 n0 v U'.heap L ∧ FrameEnd U o U' L ({ frames := 0, cells := 0, slots := 0, locals := 0 } : Room).cells ({ frames := 0, cells := 0, slots := 0, locals := 0 } : Room).slots) := by
  refine MetFree.of_bodySF (plainFor_of_name pn_com_example_fapre_fapre_KeywordSets) hisR ?_
  intro p e s m args below meth c s₁ Bd hml0 hP hK
  obtain ⟨rfl, hZ, hh⟩ := hP
  have hx := Bd.exec
  have hby := Bd.bytes
  have hlk := BodyLoose.notSynchronized Bd
  have hrt := Bd.returns
  have hml : c.maxLocals = 1 := hml0
  have hown : s.vm.findClass "com/example/fapre/fapre/KeywordSets" = some m.cls := findClass_of_methodNamed Bd.named
  have hnm := (name_of_methodNamed Bd.named Bd.method).1
  have X0 : Stand p l e ({ frames := 0, cells := 0, slots := 0, locals := 0 } : Room) s m #[(.ref o0)] below meth c s₁ [] 0 0 := Stand.of_body Bd
  have e0 : s₁.heap = h0 := by rw [← hh, Bd.state]; rfl
  have N0 := Fr.nil n0
  have K0 : Keep h0 h0 [] := Keep.refl h0 _
  show Runs p e below (QE s (Q_rm5 Z o0 sz h0 n0) ({ frames := 0, cells := 0, slots := 0, locals := 0 } : Room).cells ({ frames := 0, cells := 0, slots := 0, locals := 0 } : Room).slots) (s₁.setTop (entryFrame m #[(.ref o0)] 1))
  rw [ef_5_3 m o0]
  show Runs p e below _ (s₁.setTop (mkF m 0 #[.val (.ref o0)] []))
  refine Runs.by (fun _ hr => XS.aloadN X0.here hx rfl (hb hby d5_0) rfl rfl hr) ?_
  show Runs p e below _ (s₁.setTop (mkF m 1 #[.val (.ref o0)] [(.ref o0)]))
  obtain ⟨T1, X1, e1, st1⟩ := getF X0 hx hZ hown (host := "") (Or.inl (hw _ (List.mem_of_getElem? (i := 21) rfl))) Via.refl e0 Fs (g := (mkF m 1 #[.val (.ref o0)] [(.ref o0)])) rfl rfl (hb hby d5_1)
  refine Runs.by st1 ?_
  show Runs p e below _ (T1.setTop (mkF m 4 #[.val (.ref o0)] [(.int sz)]))
  refine Runs.ret X1 hx hrt hlk (Or.inl ⟨rfl, by simp, _, rfl⟩) rfl (hb hby d5_4) (by decide) (by decide) ?_
  rw [e1]
  exact ⟨rfl, N0, rfl⟩
theorem d8_0 : decode prog_7_method_5_code 0 = .ok (.iconst 0, 1) := by decide +kernel
theorem d8_1 : decode prog_7_method_5_code 1 = .ok (.istore 4, 2) := by decide +kernel
theorem d8_3 : decode prog_7_method_5_code 3 = .ok (.aload_n 0, 1) := by decide +kernel
theorem d8_4 : decode prog_7_method_5_code 4 = .ok (.getfield 7, 3) := by decide +kernel
theorem d8_7 : decode prog_7_method_5_code 7 = .ok (.istore 5, 2) := by decide +kernel
theorem d8_9 : decode prog_7_method_5_code 9 = .ok (.iload 5, 2) := by decide +kernel
theorem d8_11 : decode prog_7_method_5_code 11 = .ok (.iload 4, 2) := by decide +kernel
theorem d8_13 : decode prog_7_method_5_code 13 = .ok (.isub, 1) := by decide +kernel
theorem d8_14 : decode prog_7_method_5_code 14 = .ok (.iconst 1, 1) := by decide +kernel
theorem d8_15 : decode prog_7_method_5_code 15 = .ok (.if_icmp .le 35, 3) := by decide +kernel
theorem d8_18 : decode prog_7_method_5_code 18 = .ok (.iload 4, 2) := by decide +kernel
theorem d8_20 : decode prog_7_method_5_code 20 = .ok (.iload 5, 2) := by decide +kernel
theorem d8_22 : decode prog_7_method_5_code 22 = .ok (.iadd, 1) := by decide +kernel
theorem d8_23 : decode prog_7_method_5_code 23 = .ok (.iconst 1, 1) := by decide +kernel
theorem d8_24 : decode prog_7_method_5_code 24 = .ok (.iushr, 1) := by decide +kernel
theorem d8_25 : decode prog_7_method_5_code 25 = .ok (.istore 6, 2) := by decide +kernel
theorem d8_27 : decode prog_7_method_5_code 27 = .ok (.aload_n 1, 1) := by decide +kernel
theorem d8_28 : decode prog_7_method_5_code 28 = .ok (.iload 6, 2) := by decide +kernel
theorem d8_30 : decode prog_7_method_5_code 30 = .ok (.laload, 1) := by decide +kernel
theorem d8_31 : decode prog_7_method_5_code 31 = .ok (.lload_n 2, 1) := by decide +kernel
theorem d8_32 : decode prog_7_method_5_code 32 = .ok (.lcmp, 1) := by decide +kernel
theorem d8_33 : decode prog_7_method_5_code 33 = .ok (.ifCond .gt 10, 3) := by decide +kernel
theorem d8_36 : decode prog_7_method_5_code 36 = .ok (.iload 6, 2) := by decide +kernel
theorem d8_38 : decode prog_7_method_5_code 38 = .ok (.istore 4, 2) := by decide +kernel
theorem d8_40 : decode prog_7_method_5_code 40 = .ok (.goto 7, 3) := by decide +kernel
theorem d8_43 : decode prog_7_method_5_code 43 = .ok (.iload 6, 2) := by decide +kernel
theorem d8_45 : decode prog_7_method_5_code 45 = .ok (.istore 5, 2) := by decide +kernel
theorem d8_47 : decode prog_7_method_5_code 47 = .ok (.goto (-38), 3) := by decide +kernel
theorem d8_50 : decode prog_7_method_5_code 50 = .ok (.iload 4, 2) := by decide +kernel
theorem d8_52 : decode prog_7_method_5_code 52 = .ok (.ireturn, 1) := by decide +kernel
theorem ef_8_4 (m : MethodId) (o0 : Addr) (o1 : Addr) (q2 : Int64) : entryFrame m #[(.ref o0), (.ref o1), (.long q2)] 7 = mkF m 0 #[.val (.ref o0), .val (.ref o1), .val (.long q2), .second, .unset, .unset, .unset] [] := by first | (simp [entryFrame, mkF, argsToLocals, Value.category]; done) | rfl
def Q_rm8 (Z : State) (o0 : Addr) (o1 : Addr) (q2 : Int64) (k : ClassId) (z nn ii : Int32) (n I V : Nat) (F : Nat → Nat) (h0 : Heap) (n0 : Nat) (v : Option Value) (h : Heap) (L : List Loc) : Prop := v = some (.int ii) ∧ Fr n0 L ∧ h = h0
set_option maxRecDepth 65536 in
set_option maxHeartbeats 40000000 in
theorem rm8 (l : Launch) (Z : State) (a0 : Array Value) (hw : ∀ d ∈ tables_1, d.before a0 Z = true) (ws : List Jvm.Cond) (o0 : Addr) (o1 : Addr) (q2 : Int64) (k : ClassId) (z nn ii : Int32) (n I V : Nat) (F : Nat → Nat) (h0 : Heap) (n0 : Nat) (Z0 : n0 ≤ h0.size) (Fk : Fld Z h0 o0 "com/example/fapre/fapre/KeywordSets" "keywords" "I" (.int nn)) (G0 : Arf Z h0 o1 k .long z (fun j_ => .long (own_FL F j_))) (hn : nn.toInt = n) (hbn : 1 ≤ n ∧ n ≤ 2344) (hz : z.toInt = n + 1) (hq : q2 = own_L V) (hV : V < 2 ^ 62) (hF : ∀ i : Nat, F i < 2 ^ 62) (mono : ∀ {a b : Nat}, a ≤ b → F a ≤ F b) (hI : F I ≤ V ∧ V < F (I + 1)) (hIn : I < n) (hii : ii.toInt = I) :
    MetFree l (⟨"com/example/fapre/fapre/KeywordSets", "lastAtMost", "([JJ)I"⟩ : MethodName) (head1 (Jvm.Cond.code (⟨"com/example/fapre/fapre/KeywordSets", "lastAtMost", "([JJ)I"⟩ : MethodName) prog_7_method_5_code 7 (some .int) :: ws) ({ frames := 0, cells := 0, slots := 0, locals := 0 } : Room)) (fun a U => a = #[(.ref o0), (.ref o1), (.long q2)] ∧ Z.Warmed39 U.vm ∧ U.heap = h0) (fun _ _ _ _ _ => True) (fun _ U o U' => ∃ v L, o = .returned v ∧ Q_rm8 Z o0 o1 q2 k z nn ii n I V F h0 n0 v U'.heap L ∧ FrameEnd U o U' L ({ frames := 0, cells := 0, slots := 0, locals := 0 } : Room).cells ({ frames := 0, cells := 0, slots := 0, locals := 0 } : Room).slots) := by
  refine MetFree.of_bodySF (plainFor_of_name pn_com_example_fapre_fapre_KeywordSets) hisR ?_
  intro p e s m args below meth c s₁ Bd hml0 hP hK
  obtain ⟨rfl, hZ, hh⟩ := hP
  have hx := Bd.exec
  have hby := Bd.bytes
  have hlk := BodyLoose.notSynchronized Bd
  have hrt := Bd.returns
  have hml : c.maxLocals = 7 := hml0
  have hown : s.vm.findClass "com/example/fapre/fapre/KeywordSets" = some m.cls := findClass_of_methodNamed Bd.named
  have hnm := (name_of_methodNamed Bd.named Bd.method).1
  have X0 : Stand p l e ({ frames := 0, cells := 0, slots := 0, locals := 0 } : Room) s m #[(.ref o0), (.ref o1), (.long q2)] below meth c s₁ [] 0 0 := Stand.of_body Bd
  have e0 : s₁.heap = h0 := by rw [← hh, Bd.state]; rfl
  have N0 := Fr.nil n0
  have K0 : Keep h0 h0 [] := Keep.refl h0 _
  show Runs p e below (QE s (Q_rm8 Z o0 o1 q2 k z nn ii n I V F h0 n0) ({ frames := 0, cells := 0, slots := 0, locals := 0 } : Room).cells ({ frames := 0, cells := 0, slots := 0, locals := 0 } : Room).slots) (s₁.setTop (entryFrame m #[(.ref o0), (.ref o1), (.long q2)] 7))
  rw [ef_8_4 m o0 o1 q2]
  have t1 : (1 : Int32).toInt = 1 := by decide
  have t0 : (0 : Int32).toInt = 0 := by decide
  show Runs p e below _ (s₁.setTop (mkF m 0 #[.val (.ref o0), .val (.ref o1), .val (.long q2), .second, .unset, .unset, .unset] []))
  refine Runs.by (fun _ hr => XS.iconst X0.here hx rfl (hb hby d8_0) hr) ?_
  show Runs p e below _ (s₁.setTop (mkF m 1 #[.val (.ref o0), .val (.ref o1), .val (.long q2), .second, .unset, .unset, .unset] [(.int (0 : Int32))]))
  refine Runs.by (fun _ hr => XS.istore X0.here hx rfl (hb hby d8_1) rfl (l' := #[.val (.ref o0), .val (.ref o1), .val (.long q2), .second, .val (.int (0 : Int32)), .unset, .unset]) rfl hr) ?_
  show Runs p e below _ (s₁.setTop (mkF m 3 #[.val (.ref o0), .val (.ref o1), .val (.long q2), .second, .val (.int (0 : Int32)), .unset, .unset] []))
  refine Runs.by (fun _ hr => XS.aloadN X0.here hx rfl (hb hby d8_3) rfl rfl hr) ?_
  show Runs p e below _ (s₁.setTop (mkF m 4 #[.val (.ref o0), .val (.ref o1), .val (.long q2), .second, .val (.int (0 : Int32)), .unset, .unset] [(.ref o0)]))
  obtain ⟨T1, X1, e1, st1⟩ := getF X0 hx hZ hown (host := "") (Or.inl (hw _ (List.mem_of_getElem? (i := 10) rfl))) Via.refl e0 Fk (g := (mkF m 4 #[.val (.ref o0), .val (.ref o1), .val (.long q2), .second, .val (.int (0 : Int32)), .unset, .unset] [(.ref o0)])) rfl rfl (hb hby d8_4)
  refine Runs.by st1 ?_
  show Runs p e below _ (T1.setTop (mkF m 7 #[.val (.ref o0), .val (.ref o1), .val (.long q2), .second, .val (.int (0 : Int32)), .unset, .unset] [(.int nn)]))
  refine Runs.by (fun _ hr => XS.istore X1.here hx rfl (hb hby d8_7) rfl (l' := #[.val (.ref o0), .val (.ref o1), .val (.long q2), .second, .val (.int (0 : Int32)), .val (.int nn), .unset]) rfl hr) ?_
  have LB : ∀ (d : Nat) (lo : Int32) (hi : Int32) (mi : Int32) (TL2 : State) (hL2 : Heap) (lL2 : List Loc) (XL2 : Stand p l e ({ frames := 0, cells := 0, slots := 0, locals := 0 } : Room) s m #[(.ref o0), (.ref o1), (.long q2)] below meth c TL2 lL2 0 0) (eL2 : TL2.heap = hL2) (NL2 : Fr n0 lL2) (KL2 : Keep h0 hL2 []) (fL2_0 : Arf Z hL2 o1 k .long z (fun j_ => .long (own_FL F j_))) (hd : hi.toInt - lo.toInt = d) (hlo : 0 ≤ lo.toInt ∧ lo.toInt < hi.toInt ∧ hi.toInt ≤ n) (hFl : F lo.toInt.toNat ≤ V) (hFh : V < F hi.toInt.toNat) (hsame : hL2 = h0), Runs p e below (QE s (Q_rm8 Z o0 o1 q2 k z nn ii n I V F h0 n0) ({ frames := 0, cells := 0, slots := 0, locals := 0 } : Room).cells ({ frames := 0, cells := 0, slots := 0, locals := 0 } : Room).slots) (TL2.setTop (mkF m 9 #[.val (.ref o0), .val (.ref o1), .val (.long q2), .second, .val (.int lo), .val (.int hi), .val (.int mi)] [])) := by
    intro d
    induction d using Nat.strongRecOn with
    | _ d ih =>
      intro lo hi mi TL2 hL2 lL2 XL2 eL2 NL2 KL2  fL2_0 hd hlo hFl hFh hsame
      show Runs p e below _ (TL2.setTop (mkF m 9 #[.val (.ref o0), .val (.ref o1), .val (.long q2), .second, .val (.int lo), .val (.int hi), .val (.int mi)] []))
      refine Runs.by (fun _ hr => XS.iload XL2.here hx rfl (hb hby d8_9) rfl  hr) ?_
      show Runs p e below _ (TL2.setTop (mkF m 11 #[.val (.ref o0), .val (.ref o1), .val (.long q2), .second, .val (.int lo), .val (.int hi), .val (.int mi)] [(.int hi)]))
      refine Runs.by (fun _ hr => XS.iload XL2.here hx rfl (hb hby d8_11) rfl  hr) ?_
      show Runs p e below _ (TL2.setTop (mkF m 13 #[.val (.ref o0), .val (.ref o1), .val (.long q2), .second, .val (.int lo), .val (.int hi), .val (.int mi)] [(.int lo), (.int hi)]))
      refine Runs.by (fun _ hr => XS.isub XL2.here hx rfl (hb hby d8_13) rfl hr) ?_
      show Runs p e below _ (TL2.setTop (mkF m 14 #[.val (.ref o0), .val (.ref o1), .val (.long q2), .second, .val (.int lo), .val (.int hi), .val (.int mi)] [(.int (hi - lo))]))
      refine Runs.by (fun _ hr => XS.iconst XL2.here hx rfl (hb hby d8_14) hr) ?_
      show Runs p e below _ (TL2.setTop (mkF m 15 #[.val (.ref o0), .val (.ref o1), .val (.long q2), .second, .val (.int lo), .val (.int hi), .val (.int mi)] [(.int (1 : Int32)), (.int (hi - lo))]))
      by_cases hc15 : (1 : Int32) < (hi - lo)
      · -- pc 15: (1 : Int32) < (hi - lo)
        refine Runs.by (fun _ hr => XS.icmpNo XL2.here hx rfl (hb hby d8_15) rfl (tlt hc15).2.2.2 hr) ?_
        have esub : (hi - lo).toInt = hi.toInt - lo.toInt := Jvm.Kit.i32_sub (by omega) (by omega)
        have h1lt : 1 < hi.toInt - lo.toInt := by have q := Int32.lt_iff_toInt_lt.mp hc15; omega
        have eadd : (lo + hi).toInt = ((lo.toInt.toNat + hi.toInt.toNat : Nat) : Int) := (Jvm.Kit.i32_add (by omega) (by omega)).trans (by omega)
        have hm := own_half eadd
        show Runs p e below _ (TL2.setTop (mkF m 18 #[.val (.ref o0), .val (.ref o1), .val (.long q2), .second, .val (.int lo), .val (.int hi), .val (.int mi)] []))
        refine Runs.by (fun _ hr => XS.iload XL2.here hx rfl (hb hby d8_18) rfl  hr) ?_
        show Runs p e below _ (TL2.setTop (mkF m 20 #[.val (.ref o0), .val (.ref o1), .val (.long q2), .second, .val (.int lo), .val (.int hi), .val (.int mi)] [(.int lo)]))
        refine Runs.by (fun _ hr => XS.iload XL2.here hx rfl (hb hby d8_20) rfl  hr) ?_
        show Runs p e below _ (TL2.setTop (mkF m 22 #[.val (.ref o0), .val (.ref o1), .val (.long q2), .second, .val (.int lo), .val (.int hi), .val (.int mi)] [(.int hi), (.int lo)]))
        refine Runs.by (fun _ hr => XS.iadd XL2.here hx rfl (hb hby d8_22) rfl hr) ?_
        show Runs p e below _ (TL2.setTop (mkF m 23 #[.val (.ref o0), .val (.ref o1), .val (.long q2), .second, .val (.int lo), .val (.int hi), .val (.int mi)] [(.int (lo + hi))]))
        refine Runs.by (fun _ hr => XS.iconst XL2.here hx rfl (hb hby d8_23) hr) ?_
        show Runs p e below _ (TL2.setTop (mkF m 24 #[.val (.ref o0), .val (.ref o1), .val (.long q2), .second, .val (.int lo), .val (.int hi), .val (.int mi)] [(.int (1 : Int32)), (.int (lo + hi))]))
        refine Runs.by (fun _ hr => XS.iushr XL2.here hx rfl (hb hby d8_24) rfl hr) ?_
        show Runs p e below _ (TL2.setTop (mkF m 25 #[.val (.ref o0), .val (.ref o1), .val (.long q2), .second, .val (.int lo), .val (.int hi), .val (.int mi)] [(.int (((lo + hi).toUInt32 >>> ((1 : Int32) &&& 31).toUInt32).toInt32))]))
        refine Runs.by (fun _ hr => XS.istore XL2.here hx rfl (hb hby d8_25) rfl (l' := #[.val (.ref o0), .val (.ref o1), .val (.long q2), .second, .val (.int lo), .val (.int hi), .val (.int (((lo + hi).toUInt32 >>> ((1 : Int32) &&& 31).toUInt32).toInt32))]) rfl hr) ?_
        generalize (((lo + hi).toUInt32 >>> ((1 : Int32) &&& 31).toUInt32).toInt32) = md at hm ⊢
        show Runs p e below _ (TL2.setTop (mkF m 27 #[.val (.ref o0), .val (.ref o1), .val (.long q2), .second, .val (.int lo), .val (.int hi), .val (.int md)] []))
        refine Runs.by (fun _ hr => XS.aloadN XL2.here hx rfl (hb hby d8_27) rfl rfl hr) ?_
        show Runs p e below _ (TL2.setTop (mkF m 28 #[.val (.ref o0), .val (.ref o1), .val (.long q2), .second, .val (.int lo), .val (.int hi), .val (.int md)] [(.ref o1)]))
        refine Runs.by (fun _ hr => XS.iload XL2.here hx rfl (hb hby d8_28) rfl  hr) ?_
        show Runs p e below _ (TL2.setTop (mkF m 30 #[.val (.ref o0), .val (.ref o1), .val (.long q2), .second, .val (.int lo), .val (.int hi), .val (.int md)] [(.int md), (.ref o1)]))
        obtain ⟨cl3, Ar3, -, S3, N3', H3⟩ := id fL2_0
        have ix3 := own_ix (j := md) (z := z) (n := md.toInt.toNat) (by omega) (by omega)
        have hin3 : ¬ (md < 0 ∨ cl3.slots.size ≤ (md).toNatClampNeg) := inb_of S3 ix3.1
        have hat3 : cl3.slots[(md).toNatClampNeg]? = some (.long ((own_FL F) (md.toInt.toNat))) := by rw [ix3.2.1]; exact H3 _ ix3.2.2
        refine Runs.by (fun t hr => XL2.laload hx (j := md) (v := (.long ((own_FL F) (md.toInt.toNat)))) (by rw [eL2]; exact Ar3.1) (State.isArrayOf_alike hZ.alike Ar3.2.1) Ar3.2.2 hin3 hat3 (g := (mkF m 30 #[.val (.ref o0), .val (.ref o1), .val (.long q2), .second, .val (.int lo), .val (.int hi), .val (.int md)] [(.int md), (.ref o1)])) rfl rfl (hb hby d8_30) t hr) ?_
        show Runs p e below _ (TL2.setTop (mkF m 31 #[.val (.ref o0), .val (.ref o1), .val (.long q2), .second, .val (.int lo), .val (.int hi), .val (.int md)] [(.long ((own_FL F) (md.toInt.toNat)))]))
        refine Runs.by (fun _ hr => XS.lloadN XL2.here hx rfl (hb hby d8_31) rfl  hr) ?_
        show Runs p e below _ (TL2.setTop (mkF m 32 #[.val (.ref o0), .val (.ref o1), .val (.long q2), .second, .val (.int lo), .val (.int hi), .val (.int md)] [(.long q2), (.long ((own_FL F) (md.toInt.toNat)))]))
        refine Runs.by (fun _ hr => XS.lcmp XL2.here hx rfl (hb hby d8_32) rfl hr) ?_
        show Runs p e below _ (TL2.setTop (mkF m 33 #[.val (.ref o0), .val (.ref o1), .val (.long q2), .second, .val (.int lo), .val (.int hi), .val (.int md)] [(.int (lcmpW ((own_FL F) (md.toInt.toNat)) q2))]))
        by_cases hc33 : (0 : Int32) < (lcmpW ((own_FL F) (md.toInt.toNat)) q2)
        · -- pc 33: (0 : Int32) < (lcmpW ((own_FL F) (md.toInt.toNat)) q2)
          refine Runs.by (fun _ hr => XS.ifYes XL2.here hx rfl (pc0 := 33) (pc' := 43) rfl (hb hby d8_33) rfl ((if0 _ _).trans (tlt hc33).2.2.1) (by decide) (by decide) hr) ?_
          show Runs p e below _ (TL2.setTop (mkF m 43 #[.val (.ref o0), .val (.ref o1), .val (.long q2), .second, .val (.int lo), .val (.int hi), .val (.int md)] []))
          refine Runs.by (fun _ hr => XS.iload XL2.here hx rfl (hb hby d8_43) rfl  hr) ?_
          show Runs p e below _ (TL2.setTop (mkF m 45 #[.val (.ref o0), .val (.ref o1), .val (.long q2), .second, .val (.int lo), .val (.int hi), .val (.int md)] [(.int md)]))
          refine Runs.by (fun _ hr => XS.istore XL2.here hx rfl (hb hby d8_45) rfl (l' := #[.val (.ref o0), .val (.ref o1), .val (.long q2), .second, .val (.int lo), .val (.int md), .val (.int md)]) rfl hr) ?_
          show Runs p e below _ (TL2.setTop (mkF m 47 #[.val (.ref o0), .val (.ref o1), .val (.long q2), .second, .val (.int lo), .val (.int md), .val (.int md)] []))
          refine Runs.by (fun _ hr => XS.goto XL2.here hx rfl (pc0 := 47) (pc' := 9) rfl (hb hby d8_47) (by decide) (by decide) hr) ?_
          have hv2 : V < F md.toInt.toNat := by
            have q := hc33; rw [hq] at q; exact (own_lcle (hF _) hV).mp q
          exact ih (md.toInt - lo.toInt).toNat (by omega) lo md md _ _ _ XL2 eL2 NL2 KL2  fL2_0 (by omega) (by omega) hFl hv2 hsame
        · -- pc 33: not (0 : Int32) < (lcmpW ((own_FL F) (md.toInt.toNat)) q2)
          refine Runs.by (fun _ hr => XS.ifNo XL2.here hx rfl (hb hby d8_33) rfl ((if0 _ _).trans (flt hc33).2.2.1) hr) ?_
          show Runs p e below _ (TL2.setTop (mkF m 36 #[.val (.ref o0), .val (.ref o1), .val (.long q2), .second, .val (.int lo), .val (.int hi), .val (.int md)] []))
          refine Runs.by (fun _ hr => XS.iload XL2.here hx rfl (hb hby d8_36) rfl  hr) ?_
          show Runs p e below _ (TL2.setTop (mkF m 38 #[.val (.ref o0), .val (.ref o1), .val (.long q2), .second, .val (.int lo), .val (.int hi), .val (.int md)] [(.int md)]))
          refine Runs.by (fun _ hr => XS.istore XL2.here hx rfl (hb hby d8_38) rfl (l' := #[.val (.ref o0), .val (.ref o1), .val (.long q2), .second, .val (.int md), .val (.int hi), .val (.int md)]) rfl hr) ?_
          show Runs p e below _ (TL2.setTop (mkF m 40 #[.val (.ref o0), .val (.ref o1), .val (.long q2), .second, .val (.int md), .val (.int hi), .val (.int md)] []))
          refine Runs.by (fun _ hr => XS.goto XL2.here hx rfl (pc0 := 40) (pc' := 47) rfl (hb hby d8_40) (by decide) (by decide) hr) ?_
          show Runs p e below _ (TL2.setTop (mkF m 47 #[.val (.ref o0), .val (.ref o1), .val (.long q2), .second, .val (.int md), .val (.int hi), .val (.int md)] []))
          refine Runs.by (fun _ hr => XS.goto XL2.here hx rfl (pc0 := 47) (pc' := 9) rfl (hb hby d8_47) (by decide) (by decide) hr) ?_
          have hv2 : F md.toInt.toNat ≤ V := by
            have q := hc33; rw [hq] at q; exact Nat.le_of_not_lt (fun r => q ((own_lcle (hF _) hV).mpr r))
          exact ih (hi.toInt - md.toInt).toNat (by omega) md hi md _ _ _ XL2 eL2 NL2 KL2  fL2_0 (by omega) (by omega) hv2 hFh hsame
      · -- pc 15: not (1 : Int32) < (hi - lo)
        refine Runs.by (fun _ hr => XS.icmpYes XL2.here hx rfl (pc0 := 15) (pc' := 50) rfl (hb hby d8_15) rfl (flt hc15).2.2.2 (by decide) (by decide) hr) ?_
        show Runs p e below _ (TL2.setTop (mkF m 50 #[.val (.ref o0), .val (.ref o1), .val (.long q2), .second, .val (.int lo), .val (.int hi), .val (.int mi)] []))
        refine Runs.by (fun _ hr => XS.iload XL2.here hx rfl (hb hby d8_50) rfl  hr) ?_
        show Runs p e below _ (TL2.setTop (mkF m 52 #[.val (.ref o0), .val (.ref o1), .val (.long q2), .second, .val (.int lo), .val (.int hi), .val (.int mi)] [(.int lo)]))
        refine Runs.ret XL2 hx hrt hlk (Or.inl ⟨rfl, by simp, _, rfl⟩) rfl (hb hby d8_52) (by decide) (by decide) ?_
        rw [eL2]
        have esub : (hi - lo).toInt = hi.toInt - lo.toInt := Jvm.Kit.i32_sub (by omega) (by omega)
        have h1le : hi.toInt - lo.toInt ≤ 1 := by have q : ¬ (1 : Int32).toInt < (hi - lo).toInt := fun r => hc15 (Int32.lt_iff_toInt_lt.mpr r); omega
        have ehl : hi.toInt.toNat = lo.toInt.toNat + 1 := by omega
        rw [ehl] at hFh
        have epl := own_place mono hFl hFh hI.1 hI.2
        have eii : lo = ii := own_i32e (by omega)
        exact ⟨congrArg (fun z => some (Value.int z)) eii, NL2, hsame⟩
  have hlo : 0 ≤ (0 : Int32).toInt ∧ (0 : Int32).toInt < nn.toInt ∧ nn.toInt ≤ n := by omega
  have hFl : F (0 : Int32).toInt.toNat ≤ V := Nat.le_trans (mono (show (0 : Int32).toInt.toNat ≤ I by omega)) hI.1
  have hFh : V < F nn.toInt.toNat := Nat.lt_of_lt_of_le hI.2 (mono (by omega))
  have hsame : h0 = h0 := rfl
  show Runs p e below _ (T1.setTop (mkF m 9 #[.val (.ref o0), .val (.ref o1), .val (.long q2), .second, .val (.int (0 : Int32)), .val (.int nn), .unset] []))
  refine Runs.by (fun _ hr => XS.iload X1.here hx rfl (hb hby d8_9) rfl  hr) ?_
  show Runs p e below _ (T1.setTop (mkF m 11 #[.val (.ref o0), .val (.ref o1), .val (.long q2), .second, .val (.int (0 : Int32)), .val (.int nn), .unset] [(.int nn)]))
  refine Runs.by (fun _ hr => XS.iload X1.here hx rfl (hb hby d8_11) rfl  hr) ?_
  show Runs p e below _ (T1.setTop (mkF m 13 #[.val (.ref o0), .val (.ref o1), .val (.long q2), .second, .val (.int (0 : Int32)), .val (.int nn), .unset] [(.int (0 : Int32)), (.int nn)]))
  refine Runs.by (fun _ hr => XS.isub X1.here hx rfl (hb hby d8_13) rfl hr) ?_
  show Runs p e below _ (T1.setTop (mkF m 14 #[.val (.ref o0), .val (.ref o1), .val (.long q2), .second, .val (.int (0 : Int32)), .val (.int nn), .unset] [(.int (nn - (0 : Int32)))]))
  refine Runs.by (fun _ hr => XS.iconst X1.here hx rfl (hb hby d8_14) hr) ?_
  show Runs p e below _ (T1.setTop (mkF m 15 #[.val (.ref o0), .val (.ref o1), .val (.long q2), .second, .val (.int (0 : Int32)), .val (.int nn), .unset] [(.int (1 : Int32)), (.int (nn - (0 : Int32)))]))
  by_cases hc15 : (1 : Int32) < (nn - (0 : Int32))
  · -- pc 15: (1 : Int32) < (nn - (0 : Int32))
    refine Runs.by (fun _ hr => XS.icmpNo X1.here hx rfl (hb hby d8_15) rfl (tlt hc15).2.2.2 hr) ?_
    have esub : (nn - (0 : Int32)).toInt = nn.toInt - (0 : Int32).toInt := Jvm.Kit.i32_sub (by omega) (by omega)
    have h1lt : 1 < nn.toInt - (0 : Int32).toInt := by have q := Int32.lt_iff_toInt_lt.mp hc15; omega
    have eadd : ((0 : Int32) + nn).toInt = (((0 : Int32).toInt.toNat + nn.toInt.toNat : Nat) : Int) := (Jvm.Kit.i32_add (by omega) (by omega)).trans (by omega)
    have hm := own_half eadd
    show Runs p e below _ (T1.setTop (mkF m 18 #[.val (.ref o0), .val (.ref o1), .val (.long q2), .second, .val (.int (0 : Int32)), .val (.int nn), .unset] []))
    refine Runs.by (fun _ hr => XS.iload X1.here hx rfl (hb hby d8_18) rfl  hr) ?_
    show Runs p e below _ (T1.setTop (mkF m 20 #[.val (.ref o0), .val (.ref o1), .val (.long q2), .second, .val (.int (0 : Int32)), .val (.int nn), .unset] [(.int (0 : Int32))]))
    refine Runs.by (fun _ hr => XS.iload X1.here hx rfl (hb hby d8_20) rfl  hr) ?_
    show Runs p e below _ (T1.setTop (mkF m 22 #[.val (.ref o0), .val (.ref o1), .val (.long q2), .second, .val (.int (0 : Int32)), .val (.int nn), .unset] [(.int nn), (.int (0 : Int32))]))
    refine Runs.by (fun _ hr => XS.iadd X1.here hx rfl (hb hby d8_22) rfl hr) ?_
    show Runs p e below _ (T1.setTop (mkF m 23 #[.val (.ref o0), .val (.ref o1), .val (.long q2), .second, .val (.int (0 : Int32)), .val (.int nn), .unset] [(.int ((0 : Int32) + nn))]))
    refine Runs.by (fun _ hr => XS.iconst X1.here hx rfl (hb hby d8_23) hr) ?_
    show Runs p e below _ (T1.setTop (mkF m 24 #[.val (.ref o0), .val (.ref o1), .val (.long q2), .second, .val (.int (0 : Int32)), .val (.int nn), .unset] [(.int (1 : Int32)), (.int ((0 : Int32) + nn))]))
    refine Runs.by (fun _ hr => XS.iushr X1.here hx rfl (hb hby d8_24) rfl hr) ?_
    show Runs p e below _ (T1.setTop (mkF m 25 #[.val (.ref o0), .val (.ref o1), .val (.long q2), .second, .val (.int (0 : Int32)), .val (.int nn), .unset] [(.int ((((0 : Int32) + nn).toUInt32 >>> ((1 : Int32) &&& 31).toUInt32).toInt32))]))
    refine Runs.by (fun _ hr => XS.istore X1.here hx rfl (hb hby d8_25) rfl (l' := #[.val (.ref o0), .val (.ref o1), .val (.long q2), .second, .val (.int (0 : Int32)), .val (.int nn), .val (.int ((((0 : Int32) + nn).toUInt32 >>> ((1 : Int32) &&& 31).toUInt32).toInt32))]) rfl hr) ?_
    generalize ((((0 : Int32) + nn).toUInt32 >>> ((1 : Int32) &&& 31).toUInt32).toInt32) = md at hm ⊢
    show Runs p e below _ (T1.setTop (mkF m 27 #[.val (.ref o0), .val (.ref o1), .val (.long q2), .second, .val (.int (0 : Int32)), .val (.int nn), .val (.int md)] []))
    refine Runs.by (fun _ hr => XS.aloadN X1.here hx rfl (hb hby d8_27) rfl rfl hr) ?_
    show Runs p e below _ (T1.setTop (mkF m 28 #[.val (.ref o0), .val (.ref o1), .val (.long q2), .second, .val (.int (0 : Int32)), .val (.int nn), .val (.int md)] [(.ref o1)]))
    refine Runs.by (fun _ hr => XS.iload X1.here hx rfl (hb hby d8_28) rfl  hr) ?_
    show Runs p e below _ (T1.setTop (mkF m 30 #[.val (.ref o0), .val (.ref o1), .val (.long q2), .second, .val (.int (0 : Int32)), .val (.int nn), .val (.int md)] [(.int md), (.ref o1)]))
    obtain ⟨cl4, Ar4, -, S4, N4', H4⟩ := id G0
    have ix4 := own_ix (j := md) (z := z) (n := md.toInt.toNat) (by omega) (by omega)
    have hin4 : ¬ (md < 0 ∨ cl4.slots.size ≤ (md).toNatClampNeg) := inb_of S4 ix4.1
    have hat4 : cl4.slots[(md).toNatClampNeg]? = some (.long ((own_FL F) (md.toInt.toNat))) := by rw [ix4.2.1]; exact H4 _ ix4.2.2
    refine Runs.by (fun t hr => X1.laload hx (j := md) (v := (.long ((own_FL F) (md.toInt.toNat)))) (by rw [e1]; exact Ar4.1) (State.isArrayOf_alike hZ.alike Ar4.2.1) Ar4.2.2 hin4 hat4 (g := (mkF m 30 #[.val (.ref o0), .val (.ref o1), .val (.long q2), .second, .val (.int (0 : Int32)), .val (.int nn), .val (.int md)] [(.int md), (.ref o1)])) rfl rfl (hb hby d8_30) t hr) ?_
    show Runs p e below _ (T1.setTop (mkF m 31 #[.val (.ref o0), .val (.ref o1), .val (.long q2), .second, .val (.int (0 : Int32)), .val (.int nn), .val (.int md)] [(.long ((own_FL F) (md.toInt.toNat)))]))
    refine Runs.by (fun _ hr => XS.lloadN X1.here hx rfl (hb hby d8_31) rfl  hr) ?_
    show Runs p e below _ (T1.setTop (mkF m 32 #[.val (.ref o0), .val (.ref o1), .val (.long q2), .second, .val (.int (0 : Int32)), .val (.int nn), .val (.int md)] [(.long q2), (.long ((own_FL F) (md.toInt.toNat)))]))
    refine Runs.by (fun _ hr => XS.lcmp X1.here hx rfl (hb hby d8_32) rfl hr) ?_
    show Runs p e below _ (T1.setTop (mkF m 33 #[.val (.ref o0), .val (.ref o1), .val (.long q2), .second, .val (.int (0 : Int32)), .val (.int nn), .val (.int md)] [(.int (lcmpW ((own_FL F) (md.toInt.toNat)) q2))]))
    by_cases hc33 : (0 : Int32) < (lcmpW ((own_FL F) (md.toInt.toNat)) q2)
    · -- pc 33: (0 : Int32) < (lcmpW ((own_FL F) (md.toInt.toNat)) q2)
      refine Runs.by (fun _ hr => XS.ifYes X1.here hx rfl (pc0 := 33) (pc' := 43) rfl (hb hby d8_33) rfl ((if0 _ _).trans (tlt hc33).2.2.1) (by decide) (by decide) hr) ?_
      show Runs p e below _ (T1.setTop (mkF m 43 #[.val (.ref o0), .val (.ref o1), .val (.long q2), .second, .val (.int (0 : Int32)), .val (.int nn), .val (.int md)] []))
      refine Runs.by (fun _ hr => XS.iload X1.here hx rfl (hb hby d8_43) rfl  hr) ?_
      show Runs p e below _ (T1.setTop (mkF m 45 #[.val (.ref o0), .val (.ref o1), .val (.long q2), .second, .val (.int (0 : Int32)), .val (.int nn), .val (.int md)] [(.int md)]))
      refine Runs.by (fun _ hr => XS.istore X1.here hx rfl (hb hby d8_45) rfl (l' := #[.val (.ref o0), .val (.ref o1), .val (.long q2), .second, .val (.int (0 : Int32)), .val (.int md), .val (.int md)]) rfl hr) ?_
      show Runs p e below _ (T1.setTop (mkF m 47 #[.val (.ref o0), .val (.ref o1), .val (.long q2), .second, .val (.int (0 : Int32)), .val (.int md), .val (.int md)] []))
      refine Runs.by (fun _ hr => XS.goto X1.here hx rfl (pc0 := 47) (pc' := 9) rfl (hb hby d8_47) (by decide) (by decide) hr) ?_
      have hv2 : V < F md.toInt.toNat := by
        have q := hc33; rw [hq] at q; exact (own_lcle (hF _) hV).mp q
      exact LB (md.toInt - (0 : Int32).toInt).toNat (0 : Int32) md md _ _ _ X1 e1 N0 K0  G0 (by omega) (by omega) hFl hv2 hsame
    · -- pc 33: not (0 : Int32) < (lcmpW ((own_FL F) (md.toInt.toNat)) q2)
      refine Runs.by (fun _ hr => XS.ifNo X1.here hx rfl (hb hby d8_33) rfl ((if0 _ _).trans (flt hc33).2.2.1) hr) ?_
      show Runs p e below _ (T1.setTop (mkF m 36 #[.val (.ref o0), .val (.ref o1), .val (.long q2), .second, .val (.int (0 : Int32)), .val (.int nn), .val (.int md)] []))
      refine Runs.by (fun _ hr => XS.iload X1.here hx rfl (hb hby d8_36) rfl  hr) ?_
      show Runs p e below _ (T1.setTop (mkF m 38 #[.val (.ref o0), .val (.ref o1), .val (.long q2), .second, .val (.int (0 : Int32)), .val (.int nn), .val (.int md)] [(.int md)]))
      refine Runs.by (fun _ hr => XS.istore X1.here hx rfl (hb hby d8_38) rfl (l' := #[.val (.ref o0), .val (.ref o1), .val (.long q2), .second, .val (.int md), .val (.int nn), .val (.int md)]) rfl hr) ?_
      show Runs p e below _ (T1.setTop (mkF m 40 #[.val (.ref o0), .val (.ref o1), .val (.long q2), .second, .val (.int md), .val (.int nn), .val (.int md)] []))
      refine Runs.by (fun _ hr => XS.goto X1.here hx rfl (pc0 := 40) (pc' := 47) rfl (hb hby d8_40) (by decide) (by decide) hr) ?_
      show Runs p e below _ (T1.setTop (mkF m 47 #[.val (.ref o0), .val (.ref o1), .val (.long q2), .second, .val (.int md), .val (.int nn), .val (.int md)] []))
      refine Runs.by (fun _ hr => XS.goto X1.here hx rfl (pc0 := 47) (pc' := 9) rfl (hb hby d8_47) (by decide) (by decide) hr) ?_
      have hv2 : F md.toInt.toNat ≤ V := by
        have q := hc33; rw [hq] at q; exact Nat.le_of_not_lt (fun r => q ((own_lcle (hF _) hV).mpr r))
      exact LB (nn.toInt - md.toInt).toNat md nn md _ _ _ X1 e1 N0 K0  G0 (by omega) (by omega) hv2 hFh hsame
  · -- pc 15: not (1 : Int32) < (nn - (0 : Int32))
    refine Runs.by (fun _ hr => XS.icmpYes X1.here hx rfl (pc0 := 15) (pc' := 50) rfl (hb hby d8_15) rfl (flt hc15).2.2.2 (by decide) (by decide) hr) ?_
    show Runs p e below _ (T1.setTop (mkF m 50 #[.val (.ref o0), .val (.ref o1), .val (.long q2), .second, .val (.int (0 : Int32)), .val (.int nn), .unset] []))
    refine Runs.by (fun _ hr => XS.iload X1.here hx rfl (hb hby d8_50) rfl  hr) ?_
    show Runs p e below _ (T1.setTop (mkF m 52 #[.val (.ref o0), .val (.ref o1), .val (.long q2), .second, .val (.int (0 : Int32)), .val (.int nn), .unset] [(.int (0 : Int32))]))
    refine Runs.ret X1 hx hrt hlk (Or.inl ⟨rfl, by simp, _, rfl⟩) rfl (hb hby d8_52) (by decide) (by decide) ?_
    rw [e1]
    have esub : (nn - (0 : Int32)).toInt = nn.toInt - (0 : Int32).toInt := Jvm.Kit.i32_sub (by omega) (by omega)
    have h1le : nn.toInt - (0 : Int32).toInt ≤ 1 := by have q : ¬ (1 : Int32).toInt < (nn - (0 : Int32)).toInt := fun r => hc15 (Int32.lt_iff_toInt_lt.mpr r); omega
    have ehl : nn.toInt.toNat = (0 : Int32).toInt.toNat + 1 := by omega
    rw [ehl] at hFh
    have epl := own_place mono hFl hFh hI.1 hI.2
    have eii : (0 : Int32) = ii := own_i32e (by omega)
    exact ⟨congrArg (fun z => some (Value.int z)) eii, N0, hsame⟩
theorem d7_0 : decode prog_7_method_4_code 0 = .ok (.aload_n 0, 1) := by decide +kernel
theorem d7_1 : decode prog_7_method_4_code 1 = .ok (.aload_n 0, 1) := by decide +kernel
theorem d7_2 : decode prog_7_method_4_code 2 = .ok (.getfield 13, 3) := by decide +kernel
theorem d7_5 : decode prog_7_method_4_code 5 = .ok (.lload_n 1, 1) := by decide +kernel
theorem d7_6 : decode prog_7_method_4_code 6 = .ok (.invokevirtual 52, 3) := by decide +kernel
theorem d7_9 : decode prog_7_method_4_code 9 = .ok (.istore_n 3, 1) := by decide +kernel
theorem d7_10 : decode prog_7_method_4_code 10 = .ok (.iconst 2, 1) := by decide +kernel
theorem d7_11 : decode prog_7_method_4_code 11 = .ok (.newarray .int, 2) := by decide +kernel
theorem d7_13 : decode prog_7_method_4_code 13 = .ok (.dup, 1) := by decide +kernel
theorem d7_14 : decode prog_7_method_4_code 14 = .ok (.iconst 0, 1) := by decide +kernel
theorem d7_15 : decode prog_7_method_4_code 15 = .ok (.iload_n 3, 1) := by decide +kernel
theorem d7_16 : decode prog_7_method_4_code 16 = .ok (.iastore, 1) := by decide +kernel
theorem d7_17 : decode prog_7_method_4_code 17 = .ok (.dup, 1) := by decide +kernel
theorem d7_18 : decode prog_7_method_4_code 18 = .ok (.iconst 1, 1) := by decide +kernel
theorem d7_19 : decode prog_7_method_4_code 19 = .ok (.iload_n 3, 1) := by decide +kernel
theorem d7_20 : decode prog_7_method_4_code 20 = .ok (.iconst 1, 1) := by decide +kernel
theorem d7_21 : decode prog_7_method_4_code 21 = .ok (.iadd, 1) := by decide +kernel
theorem d7_22 : decode prog_7_method_4_code 22 = .ok (.i2l, 1) := by decide +kernel
theorem d7_23 : decode prog_7_method_4_code 23 = .ok (.lload_n 1, 1) := by decide +kernel
theorem d7_24 : decode prog_7_method_4_code 24 = .ok (.ladd, 1) := by decide +kernel
theorem d7_25 : decode prog_7_method_4_code 25 = .ok (.aload_n 0, 1) := by decide +kernel
theorem d7_26 : decode prog_7_method_4_code 26 = .ok (.getfield 13, 3) := by decide +kernel
theorem d7_29 : decode prog_7_method_4_code 29 = .ok (.iload_n 3, 1) := by decide +kernel
theorem d7_30 : decode prog_7_method_4_code 30 = .ok (.laload, 1) := by decide +kernel
theorem d7_31 : decode prog_7_method_4_code 31 = .ok (.lsub, 1) := by decide +kernel
theorem d7_32 : decode prog_7_method_4_code 32 = .ok (.l2i, 1) := by decide +kernel
theorem d7_33 : decode prog_7_method_4_code 33 = .ok (.iastore, 1) := by decide +kernel
theorem d7_34 : decode prog_7_method_4_code 34 = .ok (.areturn, 1) := by decide +kernel
theorem ef_7_5 (m : MethodId) (o0 : Addr) (q1 : Int64) : entryFrame m #[(.ref o0), (.long q1)] 4 = mkF m 0 #[.val (.ref o0), .val (.long q1), .second, .unset] [] := by first | (simp [entryFrame, mkF, argsToLocals, Value.category]; done) | rfl
def Q_rm7 (Z : State) (o0 : Addr) (q1 : Int64) (nn : Int32) (n I J : Nat) (ii jj : Int32) (pa : Addr) (k : ClassId) (z : Int32) (h0 : Heap) (n0 : Nat) (v : Option Value) (h : Heap) (L : List Loc) : Prop := ∃ (b : Addr) (kb : ClassId), v = some (.ref b) ∧ Fr n0 L ∧ Keep h0 h [] ∧ n0 ≤ b ∧ h0.size ≤ b ∧ Arf Z h b kb .int (2 : Int32) (fun j_ => .int ((own_up (own_up (fun _ => (0 : Int32)) (0) ii) (1) jj) j_))
theorem pd_0 : parseMethodDescriptor "([JJ)I" = some ⟨[(.array .long), .long], some .int⟩ := by decide +kernel
set_option maxRecDepth 65536 in
set_option maxHeartbeats 40000000 in
theorem rm7 (l : Launch) (Z : State) (a0 : Array Value) (hw : ∀ d ∈ tables_1, d.before a0 Z = true) (ws : List Jvm.Cond) (o0 : Addr) (q1 : Int64) (nn : Int32) (n I J : Nat) (ii jj : Int32) (pa : Addr) (k : ClassId) (z : Int32) (h0 : Heap) (n0 : Nat) (Z0 : n0 ≤ h0.size) (E0 : Exa Z h0 o0 "com/example/fapre/fapre/KeywordSets") (Fk : Fld Z h0 o0 "com/example/fapre/fapre/KeywordSets" "keywords" "I" (.int nn)) (Fp : Fld Z h0 o0 "com/example/fapre/fapre/KeywordSets" "pairStarts" "[J" (.ref pa)) (G0 : Arf Z h0 pa k .long z (fun j_ => .long (own_FL (own_ps n) j_))) (hn : nn.toInt = n) (hbn : 1 ≤ n ∧ n ≤ 2344) (hz : z.toInt = n + 1) (hIJ : I < J ∧ J < n) (hii : ii.toInt = I) (hjj : jj.toInt = J) (hq : q1 = own_L (own_ps n I + (J - I - 1))) :
    MetFree l (⟨"com/example/fapre/fapre/KeywordSets", "pairAt", "(J)[I"⟩ : MethodName) (head1 (Jvm.Cond.code (⟨"com/example/fapre/fapre/KeywordSets", "pairAt", "(J)[I"⟩ : MethodName) prog_7_method_4_code 4 (some (.array .int)) :: ws) ({ frames := 1, cells := 1, slots := 2, locals := 18 } : Room)) (fun a U => a = #[(.ref o0), (.long q1)] ∧ Z.Warmed39 U.vm ∧ U.heap = h0) (fun _ _ _ _ _ => True) (fun _ U o U' => ∃ v L, o = .returned v ∧ Q_rm7 Z o0 q1 nn n I J ii jj pa k z h0 n0 v U'.heap L ∧ FrameEnd U o U' L ({ frames := 1, cells := 1, slots := 2, locals := 18 } : Room).cells ({ frames := 1, cells := 1, slots := 2, locals := 18 } : Room).slots) := by
  refine MetFree.of_bodySF (plainFor_of_name pn_com_example_fapre_fapre_KeywordSets) hisR ?_
  intro p e s m args below meth c s₁ Bd hml0 hP hK
  obtain ⟨rfl, hZ, hh⟩ := hP
  have hx := Bd.exec
  have hby := Bd.bytes
  have hlk := BodyLoose.notSynchronized Bd
  have hrt := Bd.returns
  have hml : c.maxLocals = 4 := hml0
  have hown : s.vm.findClass "com/example/fapre/fapre/KeywordSets" = some m.cls := findClass_of_methodNamed Bd.named
  have hnm := (name_of_methodNamed Bd.named Bd.method).1
  have X0 : Stand p l e ({ frames := 1, cells := 1, slots := 2, locals := 18 } : Room) s m #[(.ref o0), (.long q1)] below meth c s₁ [] 0 0 := Stand.of_body Bd
  have e0 : s₁.heap = h0 := by rw [← hh, Bd.state]; rfl
  have N0 := Fr.nil n0
  have K0 : Keep h0 h0 [] := Keep.refl h0 _
  show Runs p e below (QE s (Q_rm7 Z o0 q1 nn n I J ii jj pa k z h0 n0) ({ frames := 1, cells := 1, slots := 2, locals := 18 } : Room).cells ({ frames := 1, cells := 1, slots := 2, locals := 18 } : Room).slots) (s₁.setTop (entryFrame m #[(.ref o0), (.long q1)] 4))
  rw [ef_7_5 m o0 q1]
  have t1 : (1 : Int32).toInt = 1 := by decide
  have ht2 := own_c2_top hbn.2
  have ht3 := own_c3_top hbn.2
  have hsp := own_ps_succ (n := n) (i := I) (by omega)
  have hpl := own_ps_le n I
  have hpl1 := own_ps_le n (I + 1)
  show Runs p e below _ (s₁.setTop (mkF m 0 #[.val (.ref o0), .val (.long q1), .second, .unset] []))
  refine Runs.by (fun _ hr => XS.aloadN X0.here hx rfl (hb hby d7_0) rfl rfl hr) ?_
  show Runs p e below _ (s₁.setTop (mkF m 1 #[.val (.ref o0), .val (.long q1), .second, .unset] [(.ref o0)]))
  refine Runs.by (fun _ hr => XS.aloadN X0.here hx rfl (hb hby d7_1) rfl rfl hr) ?_
  show Runs p e below _ (s₁.setTop (mkF m 2 #[.val (.ref o0), .val (.long q1), .second, .unset] [(.ref o0), (.ref o0)]))
  obtain ⟨T1, X1, e1, st1⟩ := getF X0 hx hZ hown (host := "") (Or.inl (hw _ (List.mem_of_getElem? (i := 13) rfl))) Via.refl e0 Fp (g := (mkF m 2 #[.val (.ref o0), .val (.long q1), .second, .unset] [(.ref o0), (.ref o0)])) rfl rfl (hb hby d7_2)
  refine Runs.by st1 ?_
  show Runs p e below _ (T1.setTop (mkF m 5 #[.val (.ref o0), .val (.long q1), .second, .unset] [(.ref pa), (.ref o0)]))
  refine Runs.by (fun _ hr => XS.lloadN X1.here hx rfl (hb hby d7_5) rfl  hr) ?_
  show Runs p e below _ (T1.setTop (mkF m 6 #[.val (.ref o0), .val (.long q1), .second, .unset] [(.long q1), (.ref pa), (.ref o0)]))
  obtain ⟨cq2, q2, q2'⟩ := E0.cell
  obtain ⟨_, _, ⟨T2, L2, k2, n2⟩, -, X2, ⟨Lc2, hQ2, l2, y2, z2⟩, st2⟩ := X1.privateBack hx (y := (⟨"com/example/fapre/fapre/KeywordSets", "lastAtMost", "([JJ)I"⟩ : MethodName)) hown (mvT hZ (hw _ (List.mem_of_getElem? (i := 47) rfl))) (mvT hZ (hw _ (List.mem_of_getElem? (i := 48) rfl))) (own_selp hZ (hw _ (List.mem_of_getElem? (i := 2) rfl)) (hw _ (List.mem_of_getElem? (i := 49) rfl)) (hw _ (List.mem_of_getElem? (i := 48) rfl)) (by decide)) (Cond.privateMethod_at (mvP hZ (hw _ (List.mem_of_getElem? (i := 49) rfl)) (args := #[]))) (mvT hZ (hw _ (List.mem_of_getElem? (i := 50) rfl))) (by decide) (backOf (W := 0) (rm8 l Z a0 hw [] o0 pa q1 k z nn ii n I ((own_ps n I + (J - I - 1))) (own_ps n) h0 n0 (Nat.le_trans Z0 K0.1) Fk G0 hn hbn hz hq (by omega) (fun i => by have q := own_ps_le n i; omega) (own_ps_mono n) ⟨Nat.le_add_right _ _, by omega⟩ (by omega) hii) hZ (hw _ (List.mem_of_getElem? (i := 50) rfl)) (hw _ (List.mem_of_getElem? (i := 3) rfl)) (by decide) (by decide)) (g := (mkF m 6 #[.val (.ref o0), .val (.long q1), .second, .unset] [(.long q1), (.ref pa), (.ref o0)])) rfl (by rw [hml]; rfl) (Steps.refl _) (a := o0) (by rw [e1]; exact q2) q2' (argsL := [(.ref pa), (.long q1)]) (rest := []) (lenOf pd_0 rfl) rfl (by show 2 * 0 + _ ≤ _; exact Nat.le_of_eq rfl) (hb hby d7_6) (fun _ _ => ⟨rfl, e1, (by decide : 0 + 0 ≤ _), (by decide : 0 + 0 ≤ _)⟩)
  dsimp only [Pt.U, Pt.locs, Pt.cells, Pt.slots] at X2 l2 y2 z2 st2 hQ2
  subst l2 y2 z2
  obtain ⟨rfl, Nq2, eq2⟩ := hQ2
  have N2 := Fr.app N0 Nq2
  refine Runs.by (fun _ hr => st2.trans hr) ?_
  show Runs p e below _ (T2.setTop (mkF m 9 #[.val (.ref o0), .val (.long q1), .second, .unset] [(.int ii)]))
  refine Runs.by (fun _ hr => XS.istoreN X2.here hx rfl (hb hby d7_9) rfl (l' := #[.val (.ref o0), .val (.long q1), .second, .val (.int ii)]) rfl hr) ?_
  show Runs p e below _ (T2.setTop (mkF m 10 #[.val (.ref o0), .val (.long q1), .second, .val (.int ii)] []))
  refine Runs.by (fun _ hr => XS.iconst X2.here hx rfl (hb hby d7_10) hr) ?_
  show Runs p e below _ (T2.setTop (mkF m 11 #[.val (.ref o0), .val (.long q1), .second, .val (.int ii)] [(.int (2 : Int32))]))
  obtain ⟨T3, h3, k3, X3, e3, E3, A3, st3⟩ := newP X2 hx hZ (hw _ (List.mem_of_getElem? (i := 42) rfl)) eq2 (g := (mkF m 11 #[.val (.ref o0), .val (.long q1), .second, .val (.int ii)] [(.int (2 : Int32))])) rfl (hb hby d7_11) rfl (by decide) (cap := 2) (by decide) (by decide) (by decide) (by decide)
  obtain ⟨b3, gz3⟩ : ∃ z, z = h0.size := ⟨_, rfl⟩
  rw [← gz3] at A3 st3
  have ne_o0_b3 : o0 ≠ b3 := Nat.ne_of_lt (Nat.lt_of_lt_of_le E0.lt (Nat.le_of_eq gz3.symm))
  have ne_pa_b3 : pa ≠ b3 := Nat.ne_of_lt (Nat.lt_of_lt_of_le G0.lt (Nat.le_of_eq gz3.symm))
  have g_b3 : n0 ≤ b3 := Nat.le_trans (Nat.le_trans Z0 K0.1) (Nat.le_of_eq gz3.symm)
  have sz_b3 : h0.size ≤ b3 := Nat.le_trans K0.1 (Nat.le_of_eq gz3.symm)
  have K4 : Keep h0 h3 [] := K0.ext E3
  have G3 : Arf Z h3 b3 k3 .int (2 : Int32) (fun j_ => .int ((fun _ => (0 : Int32)) j_)) := Arf.new A3 (by decide)
  refine Runs.by st3 ?_
  show Runs p e below _ (T3.setTop (mkF m 13 #[.val (.ref o0), .val (.long q1), .second, .val (.int ii)] [(.ref b3)]))
  refine Runs.by (fun _ hr => XS.dup X3.here hx rfl (hb hby d7_13) rfl rfl hr) ?_
  show Runs p e below _ (T3.setTop (mkF m 14 #[.val (.ref o0), .val (.long q1), .second, .val (.int ii)] [(.ref b3), (.ref b3)]))
  refine Runs.by (fun _ hr => XS.iconst X3.here hx rfl (hb hby d7_14) hr) ?_
  show Runs p e below _ (T3.setTop (mkF m 15 #[.val (.ref o0), .val (.long q1), .second, .val (.int ii)] [(.int (0 : Int32)), (.ref b3), (.ref b3)]))
  refine Runs.by (fun _ hr => XS.iloadN X3.here hx rfl (hb hby d7_15) rfl  hr) ?_
  show Runs p e below _ (T3.setTop (mkF m 16 #[.val (.ref o0), .val (.long q1), .second, .val (.int ii)] [(.int ii), (.int (0 : Int32)), (.ref b3), (.ref b3)]))
  obtain ⟨cl5, Ar5, q5, S5, N5', H5⟩ := id G3
  have ix5 := own_ix (j := (0 : Int32)) (z := (2 : Int32)) (n := 0) rfl (by decide)
  have hin5 : ¬ ((0 : Int32) < 0 ∨ cl5.slots.size ≤ ((0 : Int32)).toNatClampNeg) := inb_of S5 ix5.1
  obtain ⟨T5, h5, X5, e5, W5, st5⟩ := stI X3 hx hZ e3 Ar5 (j := (0 : Int32)) hin5 (g := (mkF m 16 #[.val (.ref o0), .val (.long q1), .second, .val (.int ii)] [(.int ii), (.int (0 : Int32)), (.ref b3), (.ref b3)])) rfl rfl (hb hby d7_16)
  have G5 : Arf Z h5 b3 k3 .int (2 : Int32) (fun j_ => .int ((own_up (fun _ => (0 : Int32)) 0 ii) j_)) := (Arf.set Ar5 q5 S5 N5' H5 W5 ix5.2.1).cast (fun j_ _ => by simp only [own_up]; split <;> rfl)
  have K6 : Keep h0 h5 [] := K4.wr W5 (Or.inr sz_b3)
  have N5 := Fr.snoc X5 N2 g_b3
  refine Runs.by st5 ?_
  show Runs p e below _ (T5.setTop (mkF m 17 #[.val (.ref o0), .val (.long q1), .second, .val (.int ii)] [(.ref b3)]))
  refine Runs.by (fun _ hr => XS.dup X5.here hx rfl (hb hby d7_17) rfl rfl hr) ?_
  show Runs p e below _ (T5.setTop (mkF m 18 #[.val (.ref o0), .val (.long q1), .second, .val (.int ii)] [(.ref b3), (.ref b3)]))
  refine Runs.by (fun _ hr => XS.iconst X5.here hx rfl (hb hby d7_18) hr) ?_
  show Runs p e below _ (T5.setTop (mkF m 19 #[.val (.ref o0), .val (.long q1), .second, .val (.int ii)] [(.int (1 : Int32)), (.ref b3), (.ref b3)]))
  refine Runs.by (fun _ hr => XS.iloadN X5.here hx rfl (hb hby d7_19) rfl  hr) ?_
  show Runs p e below _ (T5.setTop (mkF m 20 #[.val (.ref o0), .val (.long q1), .second, .val (.int ii)] [(.int ii), (.int (1 : Int32)), (.ref b3), (.ref b3)]))
  refine Runs.by (fun _ hr => XS.iconst X5.here hx rfl (hb hby d7_20) hr) ?_
  show Runs p e below _ (T5.setTop (mkF m 21 #[.val (.ref o0), .val (.long q1), .second, .val (.int ii)] [(.int (1 : Int32)), (.int ii), (.int (1 : Int32)), (.ref b3), (.ref b3)]))
  refine Runs.by (fun _ hr => XS.iadd X5.here hx rfl (hb hby d7_21) rfl hr) ?_
  show Runs p e below _ (T5.setTop (mkF m 22 #[.val (.ref o0), .val (.long q1), .second, .val (.int ii)] [(.int (ii + (1 : Int32))), (.int (1 : Int32)), (.ref b3), (.ref b3)]))
  refine Runs.by (fun _ hr => XS.i2l X5.here hx rfl (hb hby d7_22) rfl hr) ?_
  show Runs p e below _ (T5.setTop (mkF m 23 #[.val (.ref o0), .val (.long q1), .second, .val (.int ii)] [(.long ((ii + (1 : Int32)).toInt64)), (.int (1 : Int32)), (.ref b3), (.ref b3)]))
  refine Runs.by (fun _ hr => XS.lloadN X5.here hx rfl (hb hby d7_23) rfl  hr) ?_
  show Runs p e below _ (T5.setTop (mkF m 24 #[.val (.ref o0), .val (.long q1), .second, .val (.int ii)] [(.long q1), (.long ((ii + (1 : Int32)).toInt64)), (.int (1 : Int32)), (.ref b3), (.ref b3)]))
  refine Runs.by (fun _ hr => XS.ladd X5.here hx rfl (hb hby d7_24) rfl hr) ?_
  show Runs p e below _ (T5.setTop (mkF m 25 #[.val (.ref o0), .val (.long q1), .second, .val (.int ii)] [(.long (((ii + (1 : Int32)).toInt64) + q1)), (.int (1 : Int32)), (.ref b3), (.ref b3)]))
  refine Runs.by (fun _ hr => XS.aloadN X5.here hx rfl (hb hby d7_25) rfl rfl hr) ?_
  show Runs p e below _ (T5.setTop (mkF m 26 #[.val (.ref o0), .val (.long q1), .second, .val (.int ii)] [(.ref o0), (.long (((ii + (1 : Int32)).toInt64) + q1)), (.int (1 : Int32)), (.ref b3), (.ref b3)]))
  obtain ⟨T7, X7, e7, st7⟩ := getF X5 hx hZ hown (host := "") (Or.inl (hw _ (List.mem_of_getElem? (i := 13) rfl))) Via.refl e5 ((Fp.ext E3).other W5 (Or.inl ne_o0_b3)) (g := (mkF m 26 #[.val (.ref o0), .val (.long q1), .second, .val (.int ii)] [(.ref o0), (.long (((ii + (1 : Int32)).toInt64) + q1)), (.int (1 : Int32)), (.ref b3), (.ref b3)])) rfl rfl (hb hby d7_26)
  refine Runs.by st7 ?_
  show Runs p e below _ (T7.setTop (mkF m 29 #[.val (.ref o0), .val (.long q1), .second, .val (.int ii)] [(.ref pa), (.long (((ii + (1 : Int32)).toInt64) + q1)), (.int (1 : Int32)), (.ref b3), (.ref b3)]))
  refine Runs.by (fun _ hr => XS.iloadN X7.here hx rfl (hb hby d7_29) rfl  hr) ?_
  show Runs p e below _ (T7.setTop (mkF m 30 #[.val (.ref o0), .val (.long q1), .second, .val (.int ii)] [(.int ii), (.ref pa), (.long (((ii + (1 : Int32)).toInt64) + q1)), (.int (1 : Int32)), (.ref b3), (.ref b3)]))
  obtain ⟨cl8, Ar8, -, S8, N8', H8⟩ := id ((G0.ext E3).other W5 ne_pa_b3)
  have ix8 := own_ix (j := ii) (z := z) (n := I) hii (by omega)
  have hin8 : ¬ (ii < 0 ∨ cl8.slots.size ≤ (ii).toNatClampNeg) := inb_of S8 ix8.1
  have hat8 : cl8.slots[(ii).toNatClampNeg]? = some (.long ((own_FL (own_ps n)) I)) := by rw [ix8.2.1]; exact H8 _ ix8.2.2
  refine Runs.by (fun t hr => X7.laload hx (j := ii) (v := (.long ((own_FL (own_ps n)) I))) (by rw [e7]; exact Ar8.1) (State.isArrayOf_alike hZ.alike Ar8.2.1) Ar8.2.2 hin8 hat8 (g := (mkF m 30 #[.val (.ref o0), .val (.long q1), .second, .val (.int ii)] [(.int ii), (.ref pa), (.long (((ii + (1 : Int32)).toInt64) + q1)), (.int (1 : Int32)), (.ref b3), (.ref b3)])) rfl rfl (hb hby d7_30) t hr) ?_
  show Runs p e below _ (T7.setTop (mkF m 31 #[.val (.ref o0), .val (.long q1), .second, .val (.int ii)] [(.long ((own_FL (own_ps n)) I)), (.long (((ii + (1 : Int32)).toInt64) + q1)), (.int (1 : Int32)), (.ref b3), (.ref b3)]))
  refine Runs.by (fun _ hr => XS.lsub X7.here hx rfl (hb hby d7_31) rfl hr) ?_
  show Runs p e below _ (T7.setTop (mkF m 32 #[.val (.ref o0), .val (.long q1), .second, .val (.int ii)] [(.long ((((ii + (1 : Int32)).toInt64) + q1) - ((own_FL (own_ps n)) I))), (.int (1 : Int32)), (.ref b3), (.ref b3)]))
  refine Runs.by (fun _ hr => XS.l2i X7.here hx rfl (hb hby d7_32) rfl hr) ?_
  have e1 : (ii + (1 : Int32)).toInt = ((I + 1 : Nat) : Int) := (Jvm.Kit.i32_add (by omega) (by omega)).trans (by omega)
  have ej : (((((ii + (1 : Int32)).toInt64) + q1) - ((own_FL (own_ps n)) I)).toInt32) = jj := by
    show (((ii + (1 : Int32)).toInt64 + q1) - own_L (own_ps n I)).toInt32 = jj
    rw [own_wide e1, hq, own_Ladd (by omega), own_Lsub (by omega) (by omega)]
    exact own_i32e (by rw [own_LI32 (by omega)]; omega)
  show Runs p e below _ (T7.setTop (mkF m 33 #[.val (.ref o0), .val (.long q1), .second, .val (.int ii)] [(.int (((((ii + (1 : Int32)).toInt64) + q1) - ((own_FL (own_ps n)) I)).toInt32)), (.int (1 : Int32)), (.ref b3), (.ref b3)]))
  rw [ej]
  show Runs p e below _ (T7.setTop (mkF m 33 #[.val (.ref o0), .val (.long q1), .second, .val (.int ii)] [(.int jj), (.int (1 : Int32)), (.ref b3), (.ref b3)]))
  obtain ⟨cl9, Ar9, q9, S9, N9', H9⟩ := id G5
  have ix9 := own_ix (j := (1 : Int32)) (z := (2 : Int32)) (n := 1) rfl (by decide)
  have hin9 : ¬ ((1 : Int32) < 0 ∨ cl9.slots.size ≤ ((1 : Int32)).toNatClampNeg) := inb_of S9 ix9.1
  obtain ⟨T9, h9, X9, e9, W9, st9⟩ := stI X7 hx hZ e7 Ar9 (j := (1 : Int32)) hin9 (g := (mkF m 33 #[.val (.ref o0), .val (.long q1), .second, .val (.int ii)] [(.int jj), (.int (1 : Int32)), (.ref b3), (.ref b3)])) rfl rfl (hb hby d7_33)
  have G9 : Arf Z h9 b3 k3 .int (2 : Int32) (fun j_ => .int ((own_up (own_up (fun _ => (0 : Int32)) 0 ii) 1 jj) j_)) := (Arf.set Ar9 q9 S9 N9' H9 W9 ix9.2.1).cast (fun j_ _ => by simp only [own_up]; split <;> rfl)
  have K10 : Keep h0 h9 [] := K6.wr W9 (Or.inr sz_b3)
  have N9 := Fr.snoc X9 N5 g_b3
  refine Runs.by st9 ?_
  show Runs p e below _ (T9.setTop (mkF m 34 #[.val (.ref o0), .val (.long q1), .second, .val (.int ii)] [(.ref b3)]))
  refine Runs.ret X9 hx hrt hlk (Or.inr (Or.inr (Or.inr (Or.inr ⟨rfl, rfl, rfl⟩)))) rfl (hb hby d7_34) (by decide) (by decide) ?_
  rw [e9]
  exact ⟨_, _, rfl, N9, K10, g_b3, sz_b3, G9⟩
theorem d6_0 : decode prog_7_method_3_code 0 = .ok (.iload_n 1, 1) := by decide +kernel
theorem d6_1 : decode prog_7_method_3_code 1 = .ok (.ifCond .lt 11, 3) := by decide +kernel
theorem d6_4 : decode prog_7_method_3_code 4 = .ok (.iload_n 1, 1) := by decide +kernel
theorem d6_5 : decode prog_7_method_3_code 5 = .ok (.aload_n 0, 1) := by decide +kernel
theorem d6_6 : decode prog_7_method_3_code 6 = .ok (.getfield 39, 3) := by decide +kernel
theorem d6_9 : decode prog_7_method_3_code 9 = .ok (.if_icmp .lt 21, 3) := by decide +kernel
theorem d6_12 : decode prog_7_method_3_code 12 = .ok (.new 42, 3) := by decide +kernel
theorem d6_15 : decode prog_7_method_3_code 15 = .ok (.dup, 1) := by decide +kernel
theorem d6_16 : decode prog_7_method_3_code 16 = .ok (.aload_n 0, 1) := by decide +kernel
theorem d6_17 : decode prog_7_method_3_code 17 = .ok (.getfield 7, 3) := by decide +kernel
theorem d6_20 : decode prog_7_method_3_code 20 = .ok (.iload_n 1, 1) := by decide +kernel
theorem d6_21 : decode prog_7_method_3_code 21 = .ok (.invokedynamic 44, 5) := by decide +kernel
theorem d6_26 : decode prog_7_method_3_code 26 = .ok (.invokespecial 47, 3) := by decide +kernel
theorem d6_29 : decode prog_7_method_3_code 29 = .ok (.athrow, 1) := by decide +kernel
theorem d6_30 : decode prog_7_method_3_code 30 = .ok (.iload_n 1, 1) := by decide +kernel
theorem d6_31 : decode prog_7_method_3_code 31 = .ok (.aload_n 0, 1) := by decide +kernel
theorem d6_32 : decode prog_7_method_3_code 32 = .ok (.getfield 7, 3) := by decide +kernel
theorem d6_35 : decode prog_7_method_3_code 35 = .ok (.if_icmp .ge 11, 3) := by decide +kernel
theorem d6_38 : decode prog_7_method_3_code 38 = .ok (.iconst 1, 1) := by decide +kernel
theorem d6_39 : decode prog_7_method_3_code 39 = .ok (.newarray .int, 2) := by decide +kernel
theorem d6_41 : decode prog_7_method_3_code 41 = .ok (.dup, 1) := by decide +kernel
theorem d6_42 : decode prog_7_method_3_code 42 = .ok (.iconst 0, 1) := by decide +kernel
theorem d6_43 : decode prog_7_method_3_code 43 = .ok (.iload_n 1, 1) := by decide +kernel
theorem d6_44 : decode prog_7_method_3_code 44 = .ok (.iastore, 1) := by decide +kernel
theorem d6_45 : decode prog_7_method_3_code 45 = .ok (.areturn, 1) := by decide +kernel
theorem d6_46 : decode prog_7_method_3_code 46 = .ok (.iload_n 1, 1) := by decide +kernel
theorem d6_47 : decode prog_7_method_3_code 47 = .ok (.aload_n 0, 1) := by decide +kernel
theorem d6_48 : decode prog_7_method_3_code 48 = .ok (.getfield 7, 3) := by decide +kernel
theorem d6_51 : decode prog_7_method_3_code 51 = .ok (.isub, 1) := by decide +kernel
theorem d6_52 : decode prog_7_method_3_code 52 = .ok (.i2l, 1) := by decide +kernel
theorem d6_53 : decode prog_7_method_3_code 53 = .ok (.lstore_n 2, 1) := by decide +kernel
theorem d6_54 : decode prog_7_method_3_code 54 = .ok (.lload_n 2, 1) := by decide +kernel
theorem d6_55 : decode prog_7_method_3_code 55 = .ok (.aload_n 0, 1) := by decide +kernel
theorem d6_56 : decode prog_7_method_3_code 56 = .ok (.getfield 22, 3) := by decide +kernel
theorem d6_59 : decode prog_7_method_3_code 59 = .ok (.lcmp, 1) := by decide +kernel
theorem d6_60 : decode prog_7_method_3_code 60 = .ok (.ifCond .ge 9, 3) := by decide +kernel
theorem d6_63 : decode prog_7_method_3_code 63 = .ok (.aload_n 0, 1) := by decide +kernel
theorem d6_64 : decode prog_7_method_3_code 64 = .ok (.lload_n 2, 1) := by decide +kernel
theorem d6_65 : decode prog_7_method_3_code 65 = .ok (.invokevirtual 48, 3) := by decide +kernel
theorem d6_68 : decode prog_7_method_3_code 68 = .ok (.areturn, 1) := by decide +kernel
theorem d6_69 : decode prog_7_method_3_code 69 = .ok (.lload_n 2, 1) := by decide +kernel
theorem d6_70 : decode prog_7_method_3_code 70 = .ok (.aload_n 0, 1) := by decide +kernel
theorem d6_71 : decode prog_7_method_3_code 71 = .ok (.getfield 22, 3) := by decide +kernel
theorem d6_74 : decode prog_7_method_3_code 74 = .ok (.lsub, 1) := by decide +kernel
theorem d6_75 : decode prog_7_method_3_code 75 = .ok (.lstore 4, 2) := by decide +kernel
theorem d6_77 : decode prog_7_method_3_code 77 = .ok (.aload_n 0, 1) := by decide +kernel
theorem d6_78 : decode prog_7_method_3_code 78 = .ok (.aload_n 0, 1) := by decide +kernel
theorem d6_79 : decode prog_7_method_3_code 79 = .ok (.getfield 17, 3) := by decide +kernel
theorem d6_82 : decode prog_7_method_3_code 82 = .ok (.lload 4, 2) := by decide +kernel
theorem d6_84 : decode prog_7_method_3_code 84 = .ok (.invokevirtual 52, 3) := by decide +kernel
theorem d6_87 : decode prog_7_method_3_code 87 = .ok (.istore 6, 2) := by decide +kernel
theorem d6_89 : decode prog_7_method_3_code 89 = .ok (.aload_n 0, 1) := by decide +kernel
theorem d6_90 : decode prog_7_method_3_code 90 = .ok (.aload_n 0, 1) := by decide +kernel
theorem d6_91 : decode prog_7_method_3_code 91 = .ok (.getfield 13, 3) := by decide +kernel
theorem d6_94 : decode prog_7_method_3_code 94 = .ok (.iload 6, 2) := by decide +kernel
theorem d6_96 : decode prog_7_method_3_code 96 = .ok (.iconst 1, 1) := by decide +kernel
theorem d6_97 : decode prog_7_method_3_code 97 = .ok (.iadd, 1) := by decide +kernel
theorem d6_98 : decode prog_7_method_3_code 98 = .ok (.laload, 1) := by decide +kernel
theorem d6_99 : decode prog_7_method_3_code 99 = .ok (.lload 4, 2) := by decide +kernel
theorem d6_101 : decode prog_7_method_3_code 101 = .ok (.ladd, 1) := by decide +kernel
theorem d6_102 : decode prog_7_method_3_code 102 = .ok (.aload_n 0, 1) := by decide +kernel
theorem d6_103 : decode prog_7_method_3_code 103 = .ok (.getfield 17, 3) := by decide +kernel
theorem d6_106 : decode prog_7_method_3_code 106 = .ok (.iload 6, 2) := by decide +kernel
theorem d6_108 : decode prog_7_method_3_code 108 = .ok (.laload, 1) := by decide +kernel
theorem d6_109 : decode prog_7_method_3_code 109 = .ok (.lsub, 1) := by decide +kernel
theorem d6_110 : decode prog_7_method_3_code 110 = .ok (.invokevirtual 48, 3) := by decide +kernel
theorem d6_113 : decode prog_7_method_3_code 113 = .ok (.astore 7, 2) := by decide +kernel
theorem d6_115 : decode prog_7_method_3_code 115 = .ok (.iconst 3, 1) := by decide +kernel
theorem d6_116 : decode prog_7_method_3_code 116 = .ok (.newarray .int, 2) := by decide +kernel
theorem d6_118 : decode prog_7_method_3_code 118 = .ok (.dup, 1) := by decide +kernel
theorem d6_119 : decode prog_7_method_3_code 119 = .ok (.iconst 0, 1) := by decide +kernel
theorem d6_120 : decode prog_7_method_3_code 120 = .ok (.iload 6, 2) := by decide +kernel
theorem d6_122 : decode prog_7_method_3_code 122 = .ok (.iastore, 1) := by decide +kernel
theorem d6_123 : decode prog_7_method_3_code 123 = .ok (.dup, 1) := by decide +kernel
theorem d6_124 : decode prog_7_method_3_code 124 = .ok (.iconst 1, 1) := by decide +kernel
theorem d6_125 : decode prog_7_method_3_code 125 = .ok (.aload 7, 2) := by decide +kernel
theorem d6_127 : decode prog_7_method_3_code 127 = .ok (.iconst 0, 1) := by decide +kernel
theorem d6_128 : decode prog_7_method_3_code 128 = .ok (.iaload, 1) := by decide +kernel
theorem d6_129 : decode prog_7_method_3_code 129 = .ok (.iastore, 1) := by decide +kernel
theorem d6_130 : decode prog_7_method_3_code 130 = .ok (.dup, 1) := by decide +kernel
theorem d6_131 : decode prog_7_method_3_code 131 = .ok (.iconst 2, 1) := by decide +kernel
theorem d6_132 : decode prog_7_method_3_code 132 = .ok (.aload 7, 2) := by decide +kernel
theorem d6_134 : decode prog_7_method_3_code 134 = .ok (.iconst 1, 1) := by decide +kernel
theorem d6_135 : decode prog_7_method_3_code 135 = .ok (.iaload, 1) := by decide +kernel
theorem d6_136 : decode prog_7_method_3_code 136 = .ok (.iastore, 1) := by decide +kernel
theorem d6_137 : decode prog_7_method_3_code 137 = .ok (.areturn, 1) := by decide +kernel
theorem ef_6_6 (m : MethodId) (o0 : Addr) (p1 : Int32) : entryFrame m #[(.ref o0), (.int p1)] 8 = mkF m 0 #[.val (.ref o0), .val (.int p1), .unset, .unset, .unset, .unset, .unset, .unset] [] := by first | (simp [entryFrame, mkF, argsToLocals, Value.category]; done) | rfl
def Q_rm6_0 (Z : State) (o0 : Addr) (p1 : Int32) (nn : Int32) (n : Nat) (pa : Addr) (k : ClassId) (ta : Addr) (kt : ClassId) (z : Int32) (h0 : Heap) (n0 : Nat) (v : Option Value) (h : Heap) (L : List Loc) : Prop := ∃ (b : Addr) (kb : ClassId), v = some (.ref b) ∧ Fr n0 L ∧ Keep h0 h [] ∧ n0 ≤ b ∧ h0.size ≤ b ∧ Arf Z h b kb .int (1 : Int32) (fun j_ => .int ((own_up (fun _ => (0 : Int32)) (0) p1) j_))
set_option maxRecDepth 65536 in
set_option maxHeartbeats 40000000 in
theorem rm6_0 (l : Launch) (Z : State) (a0 : Array Value) (hw : ∀ d ∈ tables_1, d.before a0 Z = true) (ws : List Jvm.Cond) (o0 : Addr) (p1 : Int32) (nn : Int32) (n : Nat) (pa : Addr) (k : ClassId) (ta : Addr) (kt : ClassId) (z : Int32) (h0 : Heap) (n0 : Nat) (Z0 : n0 ≤ h0.size) (E0 : Exa Z h0 o0 "com/example/fapre/fapre/KeywordSets") (Fk : Fld Z h0 o0 "com/example/fapre/fapre/KeywordSets" "keywords" "I" (.int nn)) (Fq : Fld Z h0 o0 "com/example/fapre/fapre/KeywordSets" "pairs" "J" (.long (own_L (own_c2 n)))) (Fs : Fld Z h0 o0 "com/example/fapre/fapre/KeywordSets" "size" "I" (.int (own_L (n + own_c2 n + own_c3 n)).toInt32)) (Fp : Fld Z h0 o0 "com/example/fapre/fapre/KeywordSets" "pairStarts" "[J" (.ref pa)) (Ft : Fld Z h0 o0 "com/example/fapre/fapre/KeywordSets" "tripleStarts" "[J" (.ref ta)) (G0 : Arf Z h0 pa k .long z (fun j_ => .long (own_FL (own_ps n) j_))) (G1 : Arf Z h0 ta kt .long z (fun j_ => .long (own_FL (own_ts n) j_))) (hn : nn.toInt = n) (hbn : 1 ≤ n ∧ n ≤ 2344) (hz : z.toInt = n + 1) (hp : 0 ≤ p1.toInt ∧ p1.toInt < n) :
    MetFree l (⟨"com/example/fapre/fapre/KeywordSets", "places", "(I)[I"⟩ : MethodName) (head1 (Jvm.Cond.code (⟨"com/example/fapre/fapre/KeywordSets", "places", "(I)[I"⟩ : MethodName) prog_7_method_3_code 8 (some (.array .int)) :: ws) ({ frames := 0, cells := 1, slots := 1, locals := 0 } : Room)) (fun a U => a = #[(.ref o0), (.int p1)] ∧ Z.Warmed39 U.vm ∧ U.heap = h0) (fun _ _ _ _ _ => True) (fun _ U o U' => ∃ v L, o = .returned v ∧ Q_rm6_0 Z o0 p1 nn n pa k ta kt z h0 n0 v U'.heap L ∧ FrameEnd U o U' L ({ frames := 0, cells := 1, slots := 1, locals := 0 } : Room).cells ({ frames := 0, cells := 1, slots := 1, locals := 0 } : Room).slots) := by
  refine MetFree.of_bodySF (plainFor_of_name pn_com_example_fapre_fapre_KeywordSets) hisR ?_
  intro p e s m args below meth c s₁ Bd hml0 hP hK
  obtain ⟨rfl, hZ, hh⟩ := hP
  have hx := Bd.exec
  have hby := Bd.bytes
  have hlk := BodyLoose.notSynchronized Bd
  have hrt := Bd.returns
  have hml : c.maxLocals = 8 := hml0
  have hown : s.vm.findClass "com/example/fapre/fapre/KeywordSets" = some m.cls := findClass_of_methodNamed Bd.named
  have hnm := (name_of_methodNamed Bd.named Bd.method).1
  have X0 : Stand p l e ({ frames := 0, cells := 1, slots := 1, locals := 0 } : Room) s m #[(.ref o0), (.int p1)] below meth c s₁ [] 0 0 := Stand.of_body Bd
  have e0 : s₁.heap = h0 := by rw [← hh, Bd.state]; rfl
  have N0 := Fr.nil n0
  have K0 : Keep h0 h0 [] := Keep.refl h0 _
  show Runs p e below (QE s (Q_rm6_0 Z o0 p1 nn n pa k ta kt z h0 n0) ({ frames := 0, cells := 1, slots := 1, locals := 0 } : Room).cells ({ frames := 0, cells := 1, slots := 1, locals := 0 } : Room).slots) (s₁.setTop (entryFrame m #[(.ref o0), (.int p1)] 8))
  rw [ef_6_6 m o0 p1]
  have t0 : (0 : Int32).toInt = 0 := by decide
  have t1 : (1 : Int32).toInt = 1 := by decide
  have ht2 := own_c2_top hbn.2
  have ht3 := own_c3_top hbn.2
  have hsz : ((own_L (n + own_c2 n + own_c3 n)).toInt32).toInt = ((n + own_c2 n + own_c3 n) : Nat) := own_LI32 (by omega)
  show Runs p e below _ (s₁.setTop (mkF m 0 #[.val (.ref o0), .val (.int p1), .unset, .unset, .unset, .unset, .unset, .unset] []))
  refine Runs.by (fun _ hr => XS.iloadN X0.here hx rfl (hb hby d6_0) rfl  hr) ?_
  show Runs p e below _ (s₁.setTop (mkF m 1 #[.val (.ref o0), .val (.int p1), .unset, .unset, .unset, .unset, .unset, .unset] [(.int p1)]))
  have hc1 : ¬ (p1 < (0 : Int32)) := (fun q => by have r := Int32.lt_iff_toInt_lt.mp q; omega)
  refine Runs.by (fun _ hr => XS.ifNo X0.here hx rfl (hb hby d6_1) rfl ((if0 _ _).trans (flt hc1).1) hr) ?_
  show Runs p e below _ (s₁.setTop (mkF m 4 #[.val (.ref o0), .val (.int p1), .unset, .unset, .unset, .unset, .unset, .unset] []))
  refine Runs.by (fun _ hr => XS.iloadN X0.here hx rfl (hb hby d6_4) rfl  hr) ?_
  show Runs p e below _ (s₁.setTop (mkF m 5 #[.val (.ref o0), .val (.int p1), .unset, .unset, .unset, .unset, .unset, .unset] [(.int p1)]))
  refine Runs.by (fun _ hr => XS.aloadN X0.here hx rfl (hb hby d6_5) rfl rfl hr) ?_
  show Runs p e below _ (s₁.setTop (mkF m 6 #[.val (.ref o0), .val (.int p1), .unset, .unset, .unset, .unset, .unset, .unset] [(.ref o0), (.int p1)]))
  obtain ⟨T1, X1, e1, st1⟩ := getF X0 hx hZ hown (host := "") (Or.inl (hw _ (List.mem_of_getElem? (i := 21) rfl))) Via.refl e0 Fs (g := (mkF m 6 #[.val (.ref o0), .val (.int p1), .unset, .unset, .unset, .unset, .unset, .unset] [(.ref o0), (.int p1)])) rfl rfl (hb hby d6_6)
  refine Runs.by st1 ?_
  show Runs p e below _ (T1.setTop (mkF m 9 #[.val (.ref o0), .val (.int p1), .unset, .unset, .unset, .unset, .unset, .unset] [(.int (own_L (n + own_c2 n + own_c3 n)).toInt32), (.int p1)]))
  have hc9 : p1 < (own_L (n + own_c2 n + own_c3 n)).toInt32 := (Int32.lt_iff_toInt_lt.mpr (by omega))
  refine Runs.by (fun _ hr => XS.icmpYes X1.here hx rfl (pc0 := 9) (pc' := 30) rfl (hb hby d6_9) rfl (tlt hc9).1 (by decide) (by decide) hr) ?_
  show Runs p e below _ (T1.setTop (mkF m 30 #[.val (.ref o0), .val (.int p1), .unset, .unset, .unset, .unset, .unset, .unset] []))
  refine Runs.by (fun _ hr => XS.iloadN X1.here hx rfl (hb hby d6_30) rfl  hr) ?_
  show Runs p e below _ (T1.setTop (mkF m 31 #[.val (.ref o0), .val (.int p1), .unset, .unset, .unset, .unset, .unset, .unset] [(.int p1)]))
  refine Runs.by (fun _ hr => XS.aloadN X1.here hx rfl (hb hby d6_31) rfl rfl hr) ?_
  show Runs p e below _ (T1.setTop (mkF m 32 #[.val (.ref o0), .val (.int p1), .unset, .unset, .unset, .unset, .unset, .unset] [(.ref o0), (.int p1)]))
  obtain ⟨T2, X2, e2, st2⟩ := getF X1 hx hZ hown (host := "") (Or.inl (hw _ (List.mem_of_getElem? (i := 10) rfl))) Via.refl e1 Fk (g := (mkF m 32 #[.val (.ref o0), .val (.int p1), .unset, .unset, .unset, .unset, .unset, .unset] [(.ref o0), (.int p1)])) rfl rfl (hb hby d6_32)
  refine Runs.by st2 ?_
  show Runs p e below _ (T2.setTop (mkF m 35 #[.val (.ref o0), .val (.int p1), .unset, .unset, .unset, .unset, .unset, .unset] [(.int nn), (.int p1)]))
  have hc35 : p1 < nn := (Int32.lt_iff_toInt_lt.mpr (by omega))
  refine Runs.by (fun _ hr => XS.icmpNo X2.here hx rfl (hb hby d6_35) rfl (tlt hc35).2.1 hr) ?_
  show Runs p e below _ (T2.setTop (mkF m 38 #[.val (.ref o0), .val (.int p1), .unset, .unset, .unset, .unset, .unset, .unset] []))
  refine Runs.by (fun _ hr => XS.iconst X2.here hx rfl (hb hby d6_38) hr) ?_
  show Runs p e below _ (T2.setTop (mkF m 39 #[.val (.ref o0), .val (.int p1), .unset, .unset, .unset, .unset, .unset, .unset] [(.int (1 : Int32))]))
  obtain ⟨T3, h3, k3, X3, e3, E3, A3, st3⟩ := newP X2 hx hZ (hw _ (List.mem_of_getElem? (i := 42) rfl)) e2 (g := (mkF m 39 #[.val (.ref o0), .val (.int p1), .unset, .unset, .unset, .unset, .unset, .unset] [(.int (1 : Int32))])) rfl (hb hby d6_39) rfl (by decide) (cap := 1) (by decide) (by decide) (by decide) (by decide)
  obtain ⟨b3, gz3⟩ : ∃ z, z = h0.size := ⟨_, rfl⟩
  rw [← gz3] at A3 st3
  have ne_o0_b3 : o0 ≠ b3 := Nat.ne_of_lt (Nat.lt_of_lt_of_le E0.lt (Nat.le_of_eq gz3.symm))
  have ne_pa_b3 : pa ≠ b3 := Nat.ne_of_lt (Nat.lt_of_lt_of_le G0.lt (Nat.le_of_eq gz3.symm))
  have ne_ta_b3 : ta ≠ b3 := Nat.ne_of_lt (Nat.lt_of_lt_of_le G1.lt (Nat.le_of_eq gz3.symm))
  have g_b3 : n0 ≤ b3 := Nat.le_trans (Nat.le_trans Z0 K0.1) (Nat.le_of_eq gz3.symm)
  have sz_b3 : h0.size ≤ b3 := Nat.le_trans K0.1 (Nat.le_of_eq gz3.symm)
  have K4 : Keep h0 h3 [] := K0.ext E3
  have G3 : Arf Z h3 b3 k3 .int (1 : Int32) (fun j_ => .int ((fun _ => (0 : Int32)) j_)) := Arf.new A3 (by decide)
  refine Runs.by st3 ?_
  show Runs p e below _ (T3.setTop (mkF m 41 #[.val (.ref o0), .val (.int p1), .unset, .unset, .unset, .unset, .unset, .unset] [(.ref b3)]))
  refine Runs.by (fun _ hr => XS.dup X3.here hx rfl (hb hby d6_41) rfl rfl hr) ?_
  show Runs p e below _ (T3.setTop (mkF m 42 #[.val (.ref o0), .val (.int p1), .unset, .unset, .unset, .unset, .unset, .unset] [(.ref b3), (.ref b3)]))
  refine Runs.by (fun _ hr => XS.iconst X3.here hx rfl (hb hby d6_42) hr) ?_
  show Runs p e below _ (T3.setTop (mkF m 43 #[.val (.ref o0), .val (.int p1), .unset, .unset, .unset, .unset, .unset, .unset] [(.int (0 : Int32)), (.ref b3), (.ref b3)]))
  refine Runs.by (fun _ hr => XS.iloadN X3.here hx rfl (hb hby d6_43) rfl  hr) ?_
  show Runs p e below _ (T3.setTop (mkF m 44 #[.val (.ref o0), .val (.int p1), .unset, .unset, .unset, .unset, .unset, .unset] [(.int p1), (.int (0 : Int32)), (.ref b3), (.ref b3)]))
  obtain ⟨cl5, Ar5, q5, S5, N5', H5⟩ := id G3
  have ix5 := own_ix (j := (0 : Int32)) (z := (1 : Int32)) (n := 0) rfl (by decide)
  have hin5 : ¬ ((0 : Int32) < 0 ∨ cl5.slots.size ≤ ((0 : Int32)).toNatClampNeg) := inb_of S5 ix5.1
  obtain ⟨T5, h5, X5, e5, W5, st5⟩ := stI X3 hx hZ e3 Ar5 (j := (0 : Int32)) hin5 (g := (mkF m 44 #[.val (.ref o0), .val (.int p1), .unset, .unset, .unset, .unset, .unset, .unset] [(.int p1), (.int (0 : Int32)), (.ref b3), (.ref b3)])) rfl rfl (hb hby d6_44)
  have G5 : Arf Z h5 b3 k3 .int (1 : Int32) (fun j_ => .int ((own_up (fun _ => (0 : Int32)) 0 p1) j_)) := (Arf.set Ar5 q5 S5 N5' H5 W5 ix5.2.1).cast (fun j_ _ => by simp only [own_up]; split <;> rfl)
  have K6 : Keep h0 h5 [] := K4.wr W5 (Or.inr sz_b3)
  have N5 := Fr.snoc X5 N0 g_b3
  refine Runs.by st5 ?_
  show Runs p e below _ (T5.setTop (mkF m 45 #[.val (.ref o0), .val (.int p1), .unset, .unset, .unset, .unset, .unset, .unset] [(.ref b3)]))
  refine Runs.ret X5 hx hrt hlk (Or.inr (Or.inr (Or.inr (Or.inr ⟨rfl, rfl, rfl⟩)))) rfl (hb hby d6_45) (by decide) (by decide) ?_
  rw [e5]
  exact ⟨_, _, rfl, N5, K6, g_b3, sz_b3, G5⟩
def Q_rm6_1 (Z : State) (o0 : Addr) (p1 : Int32) (nn : Int32) (n : Nat) (pa : Addr) (k : ClassId) (ta : Addr) (kt : ClassId) (z : Int32) (I J : Nat) (ii jj : Int32) (h0 : Heap) (n0 : Nat) (v : Option Value) (h : Heap) (L : List Loc) : Prop := ∃ (b : Addr) (kb : ClassId), v = some (.ref b) ∧ Fr n0 L ∧ Keep h0 h [] ∧ n0 ≤ b ∧ h0.size ≤ b ∧ Arf Z h b kb .int (2 : Int32) (fun j_ => .int ((own_up (own_up (fun _ => (0 : Int32)) (0) ii) (1) jj) j_))
theorem pd_1 : parseMethodDescriptor "(J)[I" = some ⟨[.long], some (.array .int)⟩ := by decide +kernel
set_option maxRecDepth 65536 in
set_option maxHeartbeats 40000000 in
theorem rm6_1 (l : Launch) (Z : State) (a0 : Array Value) (hw : ∀ d ∈ tables_1, d.before a0 Z = true) (ws : List Jvm.Cond) (o0 : Addr) (p1 : Int32) (nn : Int32) (n : Nat) (pa : Addr) (k : ClassId) (ta : Addr) (kt : ClassId) (z : Int32) (I J : Nat) (ii jj : Int32) (h0 : Heap) (n0 : Nat) (Z0 : n0 ≤ h0.size) (E0 : Exa Z h0 o0 "com/example/fapre/fapre/KeywordSets") (Fk : Fld Z h0 o0 "com/example/fapre/fapre/KeywordSets" "keywords" "I" (.int nn)) (Fq : Fld Z h0 o0 "com/example/fapre/fapre/KeywordSets" "pairs" "J" (.long (own_L (own_c2 n)))) (Fs : Fld Z h0 o0 "com/example/fapre/fapre/KeywordSets" "size" "I" (.int (own_L (n + own_c2 n + own_c3 n)).toInt32)) (Fp : Fld Z h0 o0 "com/example/fapre/fapre/KeywordSets" "pairStarts" "[J" (.ref pa)) (Ft : Fld Z h0 o0 "com/example/fapre/fapre/KeywordSets" "tripleStarts" "[J" (.ref ta)) (G0 : Arf Z h0 pa k .long z (fun j_ => .long (own_FL (own_ps n) j_))) (G1 : Arf Z h0 ta kt .long z (fun j_ => .long (own_FL (own_ts n) j_))) (hn : nn.toInt = n) (hbn : 1 ≤ n ∧ n ≤ 2344) (hz : z.toInt = n + 1) (hIJ : I < J ∧ J < n) (hii : ii.toInt = I) (hjj : jj.toInt = J) (hp : p1.toInt = ((n + own_ps n I + (J - I - 1) : Nat) : Int)) :
    MetFree l (⟨"com/example/fapre/fapre/KeywordSets", "places", "(I)[I"⟩ : MethodName) (head1 (Jvm.Cond.code (⟨"com/example/fapre/fapre/KeywordSets", "places", "(I)[I"⟩ : MethodName) prog_7_method_3_code 8 (some (.array .int)) :: ws) ({ frames := 2, cells := 1, slots := 2, locals := 33 } : Room)) (fun a U => a = #[(.ref o0), (.int p1)] ∧ Z.Warmed39 U.vm ∧ U.heap = h0) (fun _ _ _ _ _ => True) (fun _ U o U' => ∃ v L, o = .returned v ∧ Q_rm6_1 Z o0 p1 nn n pa k ta kt z I J ii jj h0 n0 v U'.heap L ∧ FrameEnd U o U' L ({ frames := 2, cells := 1, slots := 2, locals := 33 } : Room).cells ({ frames := 2, cells := 1, slots := 2, locals := 33 } : Room).slots) := by
  refine MetFree.of_bodySF (plainFor_of_name pn_com_example_fapre_fapre_KeywordSets) hisR ?_
  intro p e s m args below meth c s₁ Bd hml0 hP hK
  obtain ⟨rfl, hZ, hh⟩ := hP
  have hx := Bd.exec
  have hby := Bd.bytes
  have hlk := BodyLoose.notSynchronized Bd
  have hrt := Bd.returns
  have hml : c.maxLocals = 8 := hml0
  have hown : s.vm.findClass "com/example/fapre/fapre/KeywordSets" = some m.cls := findClass_of_methodNamed Bd.named
  have hnm := (name_of_methodNamed Bd.named Bd.method).1
  have X0 : Stand p l e ({ frames := 2, cells := 1, slots := 2, locals := 33 } : Room) s m #[(.ref o0), (.int p1)] below meth c s₁ [] 0 0 := Stand.of_body Bd
  have e0 : s₁.heap = h0 := by rw [← hh, Bd.state]; rfl
  have N0 := Fr.nil n0
  have K0 : Keep h0 h0 [] := Keep.refl h0 _
  show Runs p e below (QE s (Q_rm6_1 Z o0 p1 nn n pa k ta kt z I J ii jj h0 n0) ({ frames := 2, cells := 1, slots := 2, locals := 33 } : Room).cells ({ frames := 2, cells := 1, slots := 2, locals := 33 } : Room).slots) (s₁.setTop (entryFrame m #[(.ref o0), (.int p1)] 8))
  rw [ef_6_6 m o0 p1]
  have t0 : (0 : Int32).toInt = 0 := by decide
  have t1 : (1 : Int32).toInt = 1 := by decide
  have ht2 := own_c2_top hbn.2
  have ht3 := own_c3_top hbn.2
  have hsz : ((own_L (n + own_c2 n + own_c3 n)).toInt32).toInt = ((n + own_c2 n + own_c3 n) : Nat) := own_LI32 (by omega)
  have hsp := own_ps_succ (n := n) (i := I) (by omega)
  have hpl1 := own_ps_le n (I + 1)
  show Runs p e below _ (s₁.setTop (mkF m 0 #[.val (.ref o0), .val (.int p1), .unset, .unset, .unset, .unset, .unset, .unset] []))
  refine Runs.by (fun _ hr => XS.iloadN X0.here hx rfl (hb hby d6_0) rfl  hr) ?_
  show Runs p e below _ (s₁.setTop (mkF m 1 #[.val (.ref o0), .val (.int p1), .unset, .unset, .unset, .unset, .unset, .unset] [(.int p1)]))
  have hc1 : ¬ (p1 < (0 : Int32)) := (fun q => by have r := Int32.lt_iff_toInt_lt.mp q; omega)
  refine Runs.by (fun _ hr => XS.ifNo X0.here hx rfl (hb hby d6_1) rfl ((if0 _ _).trans (flt hc1).1) hr) ?_
  show Runs p e below _ (s₁.setTop (mkF m 4 #[.val (.ref o0), .val (.int p1), .unset, .unset, .unset, .unset, .unset, .unset] []))
  refine Runs.by (fun _ hr => XS.iloadN X0.here hx rfl (hb hby d6_4) rfl  hr) ?_
  show Runs p e below _ (s₁.setTop (mkF m 5 #[.val (.ref o0), .val (.int p1), .unset, .unset, .unset, .unset, .unset, .unset] [(.int p1)]))
  refine Runs.by (fun _ hr => XS.aloadN X0.here hx rfl (hb hby d6_5) rfl rfl hr) ?_
  show Runs p e below _ (s₁.setTop (mkF m 6 #[.val (.ref o0), .val (.int p1), .unset, .unset, .unset, .unset, .unset, .unset] [(.ref o0), (.int p1)]))
  obtain ⟨T1, X1, e1, st1⟩ := getF X0 hx hZ hown (host := "") (Or.inl (hw _ (List.mem_of_getElem? (i := 21) rfl))) Via.refl e0 Fs (g := (mkF m 6 #[.val (.ref o0), .val (.int p1), .unset, .unset, .unset, .unset, .unset, .unset] [(.ref o0), (.int p1)])) rfl rfl (hb hby d6_6)
  refine Runs.by st1 ?_
  show Runs p e below _ (T1.setTop (mkF m 9 #[.val (.ref o0), .val (.int p1), .unset, .unset, .unset, .unset, .unset, .unset] [(.int (own_L (n + own_c2 n + own_c3 n)).toInt32), (.int p1)]))
  have hc9 : p1 < (own_L (n + own_c2 n + own_c3 n)).toInt32 := (Int32.lt_iff_toInt_lt.mpr (by omega))
  refine Runs.by (fun _ hr => XS.icmpYes X1.here hx rfl (pc0 := 9) (pc' := 30) rfl (hb hby d6_9) rfl (tlt hc9).1 (by decide) (by decide) hr) ?_
  show Runs p e below _ (T1.setTop (mkF m 30 #[.val (.ref o0), .val (.int p1), .unset, .unset, .unset, .unset, .unset, .unset] []))
  refine Runs.by (fun _ hr => XS.iloadN X1.here hx rfl (hb hby d6_30) rfl  hr) ?_
  show Runs p e below _ (T1.setTop (mkF m 31 #[.val (.ref o0), .val (.int p1), .unset, .unset, .unset, .unset, .unset, .unset] [(.int p1)]))
  refine Runs.by (fun _ hr => XS.aloadN X1.here hx rfl (hb hby d6_31) rfl rfl hr) ?_
  show Runs p e below _ (T1.setTop (mkF m 32 #[.val (.ref o0), .val (.int p1), .unset, .unset, .unset, .unset, .unset, .unset] [(.ref o0), (.int p1)]))
  obtain ⟨T2, X2, e2, st2⟩ := getF X1 hx hZ hown (host := "") (Or.inl (hw _ (List.mem_of_getElem? (i := 10) rfl))) Via.refl e1 Fk (g := (mkF m 32 #[.val (.ref o0), .val (.int p1), .unset, .unset, .unset, .unset, .unset, .unset] [(.ref o0), (.int p1)])) rfl rfl (hb hby d6_32)
  refine Runs.by st2 ?_
  show Runs p e below _ (T2.setTop (mkF m 35 #[.val (.ref o0), .val (.int p1), .unset, .unset, .unset, .unset, .unset, .unset] [(.int nn), (.int p1)]))
  have hc35 : ¬ (p1 < nn) := (fun q => by have r := Int32.lt_iff_toInt_lt.mp q; omega)
  refine Runs.by (fun _ hr => XS.icmpYes X2.here hx rfl (pc0 := 35) (pc' := 46) rfl (hb hby d6_35) rfl (flt hc35).2.1 (by decide) (by decide) hr) ?_
  show Runs p e below _ (T2.setTop (mkF m 46 #[.val (.ref o0), .val (.int p1), .unset, .unset, .unset, .unset, .unset, .unset] []))
  refine Runs.by (fun _ hr => XS.iloadN X2.here hx rfl (hb hby d6_46) rfl  hr) ?_
  show Runs p e below _ (T2.setTop (mkF m 47 #[.val (.ref o0), .val (.int p1), .unset, .unset, .unset, .unset, .unset, .unset] [(.int p1)]))
  refine Runs.by (fun _ hr => XS.aloadN X2.here hx rfl (hb hby d6_47) rfl rfl hr) ?_
  show Runs p e below _ (T2.setTop (mkF m 48 #[.val (.ref o0), .val (.int p1), .unset, .unset, .unset, .unset, .unset, .unset] [(.ref o0), (.int p1)]))
  obtain ⟨T3, X3, e3, st3⟩ := getF X2 hx hZ hown (host := "") (Or.inl (hw _ (List.mem_of_getElem? (i := 10) rfl))) Via.refl e2 Fk (g := (mkF m 48 #[.val (.ref o0), .val (.int p1), .unset, .unset, .unset, .unset, .unset, .unset] [(.ref o0), (.int p1)])) rfl rfl (hb hby d6_48)
  refine Runs.by st3 ?_
  show Runs p e below _ (T3.setTop (mkF m 51 #[.val (.ref o0), .val (.int p1), .unset, .unset, .unset, .unset, .unset, .unset] [(.int nn), (.int p1)]))
  refine Runs.by (fun _ hr => XS.isub X3.here hx rfl (hb hby d6_51) rfl hr) ?_
  show Runs p e below _ (T3.setTop (mkF m 52 #[.val (.ref o0), .val (.int p1), .unset, .unset, .unset, .unset, .unset, .unset] [(.int (p1 - nn))]))
  refine Runs.by (fun _ hr => XS.i2l X3.here hx rfl (hb hby d6_52) rfl hr) ?_
  show Runs p e below _ (T3.setTop (mkF m 53 #[.val (.ref o0), .val (.int p1), .unset, .unset, .unset, .unset, .unset, .unset] [(.long ((p1 - nn).toInt64))]))
  refine Runs.by (fun _ hr => XS.lstoreN X3.here hx rfl (hb hby d6_53) rfl (l' := #[.val (.ref o0), .val (.int p1), .val (.long ((p1 - nn).toInt64)), .second, .unset, .unset, .unset, .unset]) rfl hr) ?_
  have e0 : (p1 - nn).toInt = ((own_ps n I + (J - I - 1)) : Nat) := (Jvm.Kit.i32_sub (by omega) (by omega)).trans (by omega)
  have ev : ((p1 - nn).toInt64) = own_L (own_ps n I + (J - I - 1)) := own_wide e0
  show Runs p e below _ (T3.setTop (mkF m 54 #[.val (.ref o0), .val (.int p1), .val (.long ((p1 - nn).toInt64)), .second, .unset, .unset, .unset, .unset] []))
  rw [ev]
  show Runs p e below _ (T3.setTop (mkF m 54 #[.val (.ref o0), .val (.int p1), .val (.long (own_L (own_ps n I + (J - I - 1)))), .second, .unset, .unset, .unset, .unset] []))
  refine Runs.by (fun _ hr => XS.lloadN X3.here hx rfl (hb hby d6_54) rfl  hr) ?_
  show Runs p e below _ (T3.setTop (mkF m 55 #[.val (.ref o0), .val (.int p1), .val (.long (own_L (own_ps n I + (J - I - 1)))), .second, .unset, .unset, .unset, .unset] [(.long (own_L (own_ps n I + (J - I - 1))))]))
  refine Runs.by (fun _ hr => XS.aloadN X3.here hx rfl (hb hby d6_55) rfl rfl hr) ?_
  show Runs p e below _ (T3.setTop (mkF m 56 #[.val (.ref o0), .val (.int p1), .val (.long (own_L (own_ps n I + (J - I - 1)))), .second, .unset, .unset, .unset, .unset] [(.ref o0), (.long (own_L (own_ps n I + (J - I - 1))))]))
  obtain ⟨T4, X4, e4, st4⟩ := getF X3 hx hZ hown (host := "") (Or.inl (hw _ (List.mem_of_getElem? (i := 18) rfl))) Via.refl e3 Fq (g := (mkF m 56 #[.val (.ref o0), .val (.int p1), .val (.long (own_L (own_ps n I + (J - I - 1)))), .second, .unset, .unset, .unset, .unset] [(.ref o0), (.long (own_L (own_ps n I + (J - I - 1))))])) rfl rfl (hb hby d6_56)
  refine Runs.by st4 ?_
  show Runs p e below _ (T4.setTop (mkF m 59 #[.val (.ref o0), .val (.int p1), .val (.long (own_L (own_ps n I + (J - I - 1)))), .second, .unset, .unset, .unset, .unset] [(.long (own_L (own_c2 n))), (.long (own_L (own_ps n I + (J - I - 1))))]))
  refine Runs.by (fun _ hr => XS.lcmp X4.here hx rfl (hb hby d6_59) rfl hr) ?_
  show Runs p e below _ (T4.setTop (mkF m 60 #[.val (.ref o0), .val (.int p1), .val (.long (own_L (own_ps n I + (J - I - 1)))), .second, .unset, .unset, .unset, .unset] [(.int (lcmpW (own_L (own_ps n I + (J - I - 1))) (own_L (own_c2 n))))]))
  have hc60 : (lcmpW (own_L (own_ps n I + (J - I - 1))) (own_L (own_c2 n))) < (0 : Int32) := (own_lclt (by omega) (by omega)).mpr (by omega)
  refine Runs.by (fun _ hr => XS.ifNo X4.here hx rfl (hb hby d6_60) rfl ((if0 _ _).trans (tlt hc60).2.1) hr) ?_
  show Runs p e below _ (T4.setTop (mkF m 63 #[.val (.ref o0), .val (.int p1), .val (.long (own_L (own_ps n I + (J - I - 1)))), .second, .unset, .unset, .unset, .unset] []))
  refine Runs.by (fun _ hr => XS.aloadN X4.here hx rfl (hb hby d6_63) rfl rfl hr) ?_
  show Runs p e below _ (T4.setTop (mkF m 64 #[.val (.ref o0), .val (.int p1), .val (.long (own_L (own_ps n I + (J - I - 1)))), .second, .unset, .unset, .unset, .unset] [(.ref o0)]))
  refine Runs.by (fun _ hr => XS.lloadN X4.here hx rfl (hb hby d6_64) rfl  hr) ?_
  show Runs p e below _ (T4.setTop (mkF m 65 #[.val (.ref o0), .val (.int p1), .val (.long (own_L (own_ps n I + (J - I - 1)))), .second, .unset, .unset, .unset, .unset] [(.long (own_L (own_ps n I + (J - I - 1)))), (.ref o0)]))
  obtain ⟨cq5, q5, q5'⟩ := E0.cell
  obtain ⟨_, _, ⟨T5, L5, k5, n5⟩, -, X5, ⟨Lc5, hQ5, l5, y5, z5⟩, st5⟩ := X4.privateBack hx (y := (⟨"com/example/fapre/fapre/KeywordSets", "pairAt", "(J)[I"⟩ : MethodName)) hown (mvT hZ (hw _ (List.mem_of_getElem? (i := 43) rfl))) (mvT hZ (hw _ (List.mem_of_getElem? (i := 44) rfl))) (own_selp hZ (hw _ (List.mem_of_getElem? (i := 2) rfl)) (hw _ (List.mem_of_getElem? (i := 45) rfl)) (hw _ (List.mem_of_getElem? (i := 44) rfl)) (by decide)) (Cond.privateMethod_at (mvP hZ (hw _ (List.mem_of_getElem? (i := 45) rfl)) (args := #[]))) (mvT hZ (hw _ (List.mem_of_getElem? (i := 46) rfl))) (by decide) (backOf (W := 0) (rm7 l Z a0 hw [] o0 (own_L (own_ps n I + (J - I - 1))) nn n I J ii jj pa k z h0 n0 (Nat.le_trans Z0 K0.1) E0 Fk Fp G0 hn hbn hz hIJ hii hjj rfl) hZ (hw _ (List.mem_of_getElem? (i := 46) rfl)) (hw _ (List.mem_of_getElem? (i := 3) rfl)) (by decide) (by decide)) (g := (mkF m 65 #[.val (.ref o0), .val (.int p1), .val (.long (own_L (own_ps n I + (J - I - 1)))), .second, .unset, .unset, .unset, .unset] [(.long (own_L (own_ps n I + (J - I - 1)))), (.ref o0)])) rfl (by rw [hml]; rfl) (Steps.refl _) (a := o0) (by rw [e4]; exact q5) q5' (argsL := [(.long (own_L (own_ps n I + (J - I - 1))))]) (rest := []) (lenOf pd_1 rfl) rfl (by show 2 * 0 + _ ≤ _; exact Nat.le_of_eq rfl) (hb hby d6_65) (fun _ _ => ⟨rfl, e4, (by decide : 0 + 1 ≤ _), (by decide : 0 + 2 ≤ _)⟩)
  dsimp only [Pt.U, Pt.locs, Pt.cells, Pt.slots] at X5 l5 y5 z5 st5 hQ5
  subst l5 y5 z5
  obtain ⟨y5, ky5, rfl, Nq5, Kq5, g_y5, szq_y5, f5_0⟩ := hQ5
  have N5 := Fr.app N0 Nq5
  have ne_o0_y5 : o0 ≠ y5 := Nat.ne_of_lt (Nat.lt_of_lt_of_le E0.lt szq_y5)
  have ne_pa_y5 : pa ≠ y5 := Nat.ne_of_lt (Nat.lt_of_lt_of_le G0.lt szq_y5)
  have ne_ta_y5 : ta ≠ y5 := Nat.ne_of_lt (Nat.lt_of_lt_of_le G1.lt szq_y5)
  have sz_y5 : h0.size ≤ y5 := Nat.le_trans K0.1 szq_y5
  have K6 : Keep h0 T5.heap [] := Keep.trans (ws := []) K0 Kq5 all0
  refine Runs.by (fun _ hr => st5.trans hr) ?_
  show Runs p e below _ (T5.setTop (mkF m 68 #[.val (.ref o0), .val (.int p1), .val (.long (own_L (own_ps n I + (J - I - 1)))), .second, .unset, .unset, .unset, .unset] [(.ref y5)]))
  refine Runs.ret X5 hx hrt hlk (Or.inr (Or.inr (Or.inr (Or.inr ⟨rfl, rfl, rfl⟩)))) rfl (hb hby d6_68) (by decide) (by decide) ?_
  exact ⟨_, _, rfl, N5, K6, g_y5, sz_y5, f5_0⟩
def Q_rm6_2 (Z : State) (o0 : Addr) (p1 : Int32) (nn : Int32) (n : Nat) (pa : Addr) (k : ClassId) (ta : Addr) (kt : ClassId) (z : Int32) (I J E : Nat) (ii jj ll : Int32) (h0 : Heap) (n0 : Nat) (v : Option Value) (h : Heap) (L : List Loc) : Prop := ∃ (b : Addr) (kb : ClassId), v = some (.ref b) ∧ Fr n0 L ∧ Keep h0 h [] ∧ n0 ≤ b ∧ h0.size ≤ b ∧ Arf Z h b kb .int (3 : Int32) (fun j_ => .int ((own_up (own_up (own_up (fun _ => (0 : Int32)) (0) ii) (1) jj) (2) ll) j_))
set_option maxRecDepth 65536 in
set_option maxHeartbeats 40000000 in
theorem rm6_2 (l : Launch) (Z : State) (a0 : Array Value) (hw : ∀ d ∈ tables_1, d.before a0 Z = true) (ws : List Jvm.Cond) (o0 : Addr) (p1 : Int32) (nn : Int32) (n : Nat) (pa : Addr) (k : ClassId) (ta : Addr) (kt : ClassId) (z : Int32) (I J E : Nat) (ii jj ll : Int32) (h0 : Heap) (n0 : Nat) (Z0 : n0 ≤ h0.size) (E0 : Exa Z h0 o0 "com/example/fapre/fapre/KeywordSets") (Fk : Fld Z h0 o0 "com/example/fapre/fapre/KeywordSets" "keywords" "I" (.int nn)) (Fq : Fld Z h0 o0 "com/example/fapre/fapre/KeywordSets" "pairs" "J" (.long (own_L (own_c2 n)))) (Fs : Fld Z h0 o0 "com/example/fapre/fapre/KeywordSets" "size" "I" (.int (own_L (n + own_c2 n + own_c3 n)).toInt32)) (Fp : Fld Z h0 o0 "com/example/fapre/fapre/KeywordSets" "pairStarts" "[J" (.ref pa)) (Ft : Fld Z h0 o0 "com/example/fapre/fapre/KeywordSets" "tripleStarts" "[J" (.ref ta)) (G0 : Arf Z h0 pa k .long z (fun j_ => .long (own_FL (own_ps n) j_))) (G1 : Arf Z h0 ta kt .long z (fun j_ => .long (own_FL (own_ts n) j_))) (hn : nn.toInt = n) (hbn : 1 ≤ n ∧ n ≤ 2344) (hz : z.toInt = n + 1) (hIJ : I < J ∧ J < E ∧ E < n) (hii : ii.toInt = I) (hjj : jj.toInt = J) (hll : ll.toInt = E) (hp : p1.toInt = ((n + (own_c2 n + own_ts n I + (own_c2 (n - (I + 1)) - own_c2 (n - J) + (E - J - 1))) : Nat) : Int)) :
    MetFree l (⟨"com/example/fapre/fapre/KeywordSets", "places", "(I)[I"⟩ : MethodName) (head1 (Jvm.Cond.code (⟨"com/example/fapre/fapre/KeywordSets", "places", "(I)[I"⟩ : MethodName) prog_7_method_3_code 8 (some (.array .int)) :: ws) ({ frames := 2, cells := 2, slots := 5, locals := 33 } : Room)) (fun a U => a = #[(.ref o0), (.int p1)] ∧ Z.Warmed39 U.vm ∧ U.heap = h0) (fun _ _ _ _ _ => True) (fun _ U o U' => ∃ v L, o = .returned v ∧ Q_rm6_2 Z o0 p1 nn n pa k ta kt z I J E ii jj ll h0 n0 v U'.heap L ∧ FrameEnd U o U' L ({ frames := 2, cells := 2, slots := 5, locals := 33 } : Room).cells ({ frames := 2, cells := 2, slots := 5, locals := 33 } : Room).slots) := by
  refine MetFree.of_bodySF (plainFor_of_name pn_com_example_fapre_fapre_KeywordSets) hisR ?_
  intro p e s m args below meth c s₁ Bd hml0 hP hK
  obtain ⟨rfl, hZ, hh⟩ := hP
  have hx := Bd.exec
  have hby := Bd.bytes
  have hlk := BodyLoose.notSynchronized Bd
  have hrt := Bd.returns
  have hml : c.maxLocals = 8 := hml0
  have hown : s.vm.findClass "com/example/fapre/fapre/KeywordSets" = some m.cls := findClass_of_methodNamed Bd.named
  have hnm := (name_of_methodNamed Bd.named Bd.method).1
  have X0 : Stand p l e ({ frames := 2, cells := 2, slots := 5, locals := 33 } : Room) s m #[(.ref o0), (.int p1)] below meth c s₁ [] 0 0 := Stand.of_body Bd
  have e0 : s₁.heap = h0 := by rw [← hh, Bd.state]; rfl
  have N0 := Fr.nil n0
  have K0 : Keep h0 h0 [] := Keep.refl h0 _
  show Runs p e below (QE s (Q_rm6_2 Z o0 p1 nn n pa k ta kt z I J E ii jj ll h0 n0) ({ frames := 2, cells := 2, slots := 5, locals := 33 } : Room).cells ({ frames := 2, cells := 2, slots := 5, locals := 33 } : Room).slots) (s₁.setTop (entryFrame m #[(.ref o0), (.int p1)] 8))
  rw [ef_6_6 m o0 p1]
  have t0 : (0 : Int32).toInt = 0 := by decide
  have t1 : (1 : Int32).toInt = 1 := by decide
  have ht2 := own_c2_top hbn.2
  have ht3 := own_c3_top hbn.2
  have hsz : ((own_L (n + own_c2 n + own_c3 n)).toInt32).toInt = ((n + own_c2 n + own_c3 n) : Nat) := own_LI32 (by omega)
  have hst := own_ts_succ (n := n) (i := I) (by omega)
  have htl := own_ts_le n (I + 1)
  have hpJ := own_ps_le n J
  have hp1 := own_ps_le n (I + 1)
  have m1 := own_c2_mono (show n - J ≤ n - (I + 1) by omega)
  have m2 := own_c2_mono (show n - (I + 1) ≤ n by omega)
  have aJ := own_c2_at (n := n) (i := J) (by omega)
  have m3 := own_c2_mono (show n - (J + 1) ≤ n by omega)
  have m4 := own_c2_mono (show n - J ≤ n by omega)
  have dJ : own_ps n J = own_c2 n - own_c2 (n - J) := rfl
  have d1 : own_ps n (I + 1) = own_c2 n - own_c2 (n - (I + 1)) := rfl
  show Runs p e below _ (s₁.setTop (mkF m 0 #[.val (.ref o0), .val (.int p1), .unset, .unset, .unset, .unset, .unset, .unset] []))
  refine Runs.by (fun _ hr => XS.iloadN X0.here hx rfl (hb hby d6_0) rfl  hr) ?_
  show Runs p e below _ (s₁.setTop (mkF m 1 #[.val (.ref o0), .val (.int p1), .unset, .unset, .unset, .unset, .unset, .unset] [(.int p1)]))
  have hc1 : ¬ (p1 < (0 : Int32)) := (fun q => by have r := Int32.lt_iff_toInt_lt.mp q; omega)
  refine Runs.by (fun _ hr => XS.ifNo X0.here hx rfl (hb hby d6_1) rfl ((if0 _ _).trans (flt hc1).1) hr) ?_
  show Runs p e below _ (s₁.setTop (mkF m 4 #[.val (.ref o0), .val (.int p1), .unset, .unset, .unset, .unset, .unset, .unset] []))
  refine Runs.by (fun _ hr => XS.iloadN X0.here hx rfl (hb hby d6_4) rfl  hr) ?_
  show Runs p e below _ (s₁.setTop (mkF m 5 #[.val (.ref o0), .val (.int p1), .unset, .unset, .unset, .unset, .unset, .unset] [(.int p1)]))
  refine Runs.by (fun _ hr => XS.aloadN X0.here hx rfl (hb hby d6_5) rfl rfl hr) ?_
  show Runs p e below _ (s₁.setTop (mkF m 6 #[.val (.ref o0), .val (.int p1), .unset, .unset, .unset, .unset, .unset, .unset] [(.ref o0), (.int p1)]))
  obtain ⟨T1, X1, e1, st1⟩ := getF X0 hx hZ hown (host := "") (Or.inl (hw _ (List.mem_of_getElem? (i := 21) rfl))) Via.refl e0 Fs (g := (mkF m 6 #[.val (.ref o0), .val (.int p1), .unset, .unset, .unset, .unset, .unset, .unset] [(.ref o0), (.int p1)])) rfl rfl (hb hby d6_6)
  refine Runs.by st1 ?_
  show Runs p e below _ (T1.setTop (mkF m 9 #[.val (.ref o0), .val (.int p1), .unset, .unset, .unset, .unset, .unset, .unset] [(.int (own_L (n + own_c2 n + own_c3 n)).toInt32), (.int p1)]))
  have hc9 : p1 < (own_L (n + own_c2 n + own_c3 n)).toInt32 := (Int32.lt_iff_toInt_lt.mpr (by omega))
  refine Runs.by (fun _ hr => XS.icmpYes X1.here hx rfl (pc0 := 9) (pc' := 30) rfl (hb hby d6_9) rfl (tlt hc9).1 (by decide) (by decide) hr) ?_
  show Runs p e below _ (T1.setTop (mkF m 30 #[.val (.ref o0), .val (.int p1), .unset, .unset, .unset, .unset, .unset, .unset] []))
  refine Runs.by (fun _ hr => XS.iloadN X1.here hx rfl (hb hby d6_30) rfl  hr) ?_
  show Runs p e below _ (T1.setTop (mkF m 31 #[.val (.ref o0), .val (.int p1), .unset, .unset, .unset, .unset, .unset, .unset] [(.int p1)]))
  refine Runs.by (fun _ hr => XS.aloadN X1.here hx rfl (hb hby d6_31) rfl rfl hr) ?_
  show Runs p e below _ (T1.setTop (mkF m 32 #[.val (.ref o0), .val (.int p1), .unset, .unset, .unset, .unset, .unset, .unset] [(.ref o0), (.int p1)]))
  obtain ⟨T2, X2, e2, st2⟩ := getF X1 hx hZ hown (host := "") (Or.inl (hw _ (List.mem_of_getElem? (i := 10) rfl))) Via.refl e1 Fk (g := (mkF m 32 #[.val (.ref o0), .val (.int p1), .unset, .unset, .unset, .unset, .unset, .unset] [(.ref o0), (.int p1)])) rfl rfl (hb hby d6_32)
  refine Runs.by st2 ?_
  show Runs p e below _ (T2.setTop (mkF m 35 #[.val (.ref o0), .val (.int p1), .unset, .unset, .unset, .unset, .unset, .unset] [(.int nn), (.int p1)]))
  have hc35 : ¬ (p1 < nn) := (fun q => by have r := Int32.lt_iff_toInt_lt.mp q; omega)
  refine Runs.by (fun _ hr => XS.icmpYes X2.here hx rfl (pc0 := 35) (pc' := 46) rfl (hb hby d6_35) rfl (flt hc35).2.1 (by decide) (by decide) hr) ?_
  show Runs p e below _ (T2.setTop (mkF m 46 #[.val (.ref o0), .val (.int p1), .unset, .unset, .unset, .unset, .unset, .unset] []))
  refine Runs.by (fun _ hr => XS.iloadN X2.here hx rfl (hb hby d6_46) rfl  hr) ?_
  show Runs p e below _ (T2.setTop (mkF m 47 #[.val (.ref o0), .val (.int p1), .unset, .unset, .unset, .unset, .unset, .unset] [(.int p1)]))
  refine Runs.by (fun _ hr => XS.aloadN X2.here hx rfl (hb hby d6_47) rfl rfl hr) ?_
  show Runs p e below _ (T2.setTop (mkF m 48 #[.val (.ref o0), .val (.int p1), .unset, .unset, .unset, .unset, .unset, .unset] [(.ref o0), (.int p1)]))
  obtain ⟨T3, X3, e3, st3⟩ := getF X2 hx hZ hown (host := "") (Or.inl (hw _ (List.mem_of_getElem? (i := 10) rfl))) Via.refl e2 Fk (g := (mkF m 48 #[.val (.ref o0), .val (.int p1), .unset, .unset, .unset, .unset, .unset, .unset] [(.ref o0), (.int p1)])) rfl rfl (hb hby d6_48)
  refine Runs.by st3 ?_
  show Runs p e below _ (T3.setTop (mkF m 51 #[.val (.ref o0), .val (.int p1), .unset, .unset, .unset, .unset, .unset, .unset] [(.int nn), (.int p1)]))
  refine Runs.by (fun _ hr => XS.isub X3.here hx rfl (hb hby d6_51) rfl hr) ?_
  show Runs p e below _ (T3.setTop (mkF m 52 #[.val (.ref o0), .val (.int p1), .unset, .unset, .unset, .unset, .unset, .unset] [(.int (p1 - nn))]))
  refine Runs.by (fun _ hr => XS.i2l X3.here hx rfl (hb hby d6_52) rfl hr) ?_
  show Runs p e below _ (T3.setTop (mkF m 53 #[.val (.ref o0), .val (.int p1), .unset, .unset, .unset, .unset, .unset, .unset] [(.long ((p1 - nn).toInt64))]))
  refine Runs.by (fun _ hr => XS.lstoreN X3.here hx rfl (hb hby d6_53) rfl (l' := #[.val (.ref o0), .val (.int p1), .val (.long ((p1 - nn).toInt64)), .second, .unset, .unset, .unset, .unset]) rfl hr) ?_
  have e0 : (p1 - nn).toInt = ((own_c2 n + own_ts n I + (own_c2 (n - (I + 1)) - own_c2 (n - J) + (E - J - 1))) : Nat) := (Jvm.Kit.i32_sub (by omega) (by omega)).trans (by omega)
  have ev : ((p1 - nn).toInt64) = own_L (own_c2 n + own_ts n I + (own_c2 (n - (I + 1)) - own_c2 (n - J) + (E - J - 1))) := own_wide e0
  show Runs p e below _ (T3.setTop (mkF m 54 #[.val (.ref o0), .val (.int p1), .val (.long ((p1 - nn).toInt64)), .second, .unset, .unset, .unset, .unset] []))
  rw [ev]
  show Runs p e below _ (T3.setTop (mkF m 54 #[.val (.ref o0), .val (.int p1), .val (.long (own_L (own_c2 n + own_ts n I + (own_c2 (n - (I + 1)) - own_c2 (n - J) + (E - J - 1))))), .second, .unset, .unset, .unset, .unset] []))
  refine Runs.by (fun _ hr => XS.lloadN X3.here hx rfl (hb hby d6_54) rfl  hr) ?_
  show Runs p e below _ (T3.setTop (mkF m 55 #[.val (.ref o0), .val (.int p1), .val (.long (own_L (own_c2 n + own_ts n I + (own_c2 (n - (I + 1)) - own_c2 (n - J) + (E - J - 1))))), .second, .unset, .unset, .unset, .unset] [(.long (own_L (own_c2 n + own_ts n I + (own_c2 (n - (I + 1)) - own_c2 (n - J) + (E - J - 1)))))]))
  refine Runs.by (fun _ hr => XS.aloadN X3.here hx rfl (hb hby d6_55) rfl rfl hr) ?_
  show Runs p e below _ (T3.setTop (mkF m 56 #[.val (.ref o0), .val (.int p1), .val (.long (own_L (own_c2 n + own_ts n I + (own_c2 (n - (I + 1)) - own_c2 (n - J) + (E - J - 1))))), .second, .unset, .unset, .unset, .unset] [(.ref o0), (.long (own_L (own_c2 n + own_ts n I + (own_c2 (n - (I + 1)) - own_c2 (n - J) + (E - J - 1)))))]))
  obtain ⟨T4, X4, e4, st4⟩ := getF X3 hx hZ hown (host := "") (Or.inl (hw _ (List.mem_of_getElem? (i := 18) rfl))) Via.refl e3 Fq (g := (mkF m 56 #[.val (.ref o0), .val (.int p1), .val (.long (own_L (own_c2 n + own_ts n I + (own_c2 (n - (I + 1)) - own_c2 (n - J) + (E - J - 1))))), .second, .unset, .unset, .unset, .unset] [(.ref o0), (.long (own_L (own_c2 n + own_ts n I + (own_c2 (n - (I + 1)) - own_c2 (n - J) + (E - J - 1)))))])) rfl rfl (hb hby d6_56)
  refine Runs.by st4 ?_
  show Runs p e below _ (T4.setTop (mkF m 59 #[.val (.ref o0), .val (.int p1), .val (.long (own_L (own_c2 n + own_ts n I + (own_c2 (n - (I + 1)) - own_c2 (n - J) + (E - J - 1))))), .second, .unset, .unset, .unset, .unset] [(.long (own_L (own_c2 n))), (.long (own_L (own_c2 n + own_ts n I + (own_c2 (n - (I + 1)) - own_c2 (n - J) + (E - J - 1)))))]))
  refine Runs.by (fun _ hr => XS.lcmp X4.here hx rfl (hb hby d6_59) rfl hr) ?_
  show Runs p e below _ (T4.setTop (mkF m 60 #[.val (.ref o0), .val (.int p1), .val (.long (own_L (own_c2 n + own_ts n I + (own_c2 (n - (I + 1)) - own_c2 (n - J) + (E - J - 1))))), .second, .unset, .unset, .unset, .unset] [(.int (lcmpW (own_L (own_c2 n + own_ts n I + (own_c2 (n - (I + 1)) - own_c2 (n - J) + (E - J - 1)))) (own_L (own_c2 n))))]))
  have hc60 : ¬ ((lcmpW (own_L (own_c2 n + own_ts n I + (own_c2 (n - (I + 1)) - own_c2 (n - J) + (E - J - 1)))) (own_L (own_c2 n))) < (0 : Int32)) := (fun q => by have r := (own_lclt (by omega) (by omega)).mp q; omega)
  refine Runs.by (fun _ hr => XS.ifYes X4.here hx rfl (pc0 := 60) (pc' := 69) rfl (hb hby d6_60) rfl ((if0 _ _).trans (flt hc60).2.1) (by decide) (by decide) hr) ?_
  show Runs p e below _ (T4.setTop (mkF m 69 #[.val (.ref o0), .val (.int p1), .val (.long (own_L (own_c2 n + own_ts n I + (own_c2 (n - (I + 1)) - own_c2 (n - J) + (E - J - 1))))), .second, .unset, .unset, .unset, .unset] []))
  refine Runs.by (fun _ hr => XS.lloadN X4.here hx rfl (hb hby d6_69) rfl  hr) ?_
  show Runs p e below _ (T4.setTop (mkF m 70 #[.val (.ref o0), .val (.int p1), .val (.long (own_L (own_c2 n + own_ts n I + (own_c2 (n - (I + 1)) - own_c2 (n - J) + (E - J - 1))))), .second, .unset, .unset, .unset, .unset] [(.long (own_L (own_c2 n + own_ts n I + (own_c2 (n - (I + 1)) - own_c2 (n - J) + (E - J - 1)))))]))
  refine Runs.by (fun _ hr => XS.aloadN X4.here hx rfl (hb hby d6_70) rfl rfl hr) ?_
  show Runs p e below _ (T4.setTop (mkF m 71 #[.val (.ref o0), .val (.int p1), .val (.long (own_L (own_c2 n + own_ts n I + (own_c2 (n - (I + 1)) - own_c2 (n - J) + (E - J - 1))))), .second, .unset, .unset, .unset, .unset] [(.ref o0), (.long (own_L (own_c2 n + own_ts n I + (own_c2 (n - (I + 1)) - own_c2 (n - J) + (E - J - 1)))))]))
  obtain ⟨T5, X5, e5, st5⟩ := getF X4 hx hZ hown (host := "") (Or.inl (hw _ (List.mem_of_getElem? (i := 18) rfl))) Via.refl e4 Fq (g := (mkF m 71 #[.val (.ref o0), .val (.int p1), .val (.long (own_L (own_c2 n + own_ts n I + (own_c2 (n - (I + 1)) - own_c2 (n - J) + (E - J - 1))))), .second, .unset, .unset, .unset, .unset] [(.ref o0), (.long (own_L (own_c2 n + own_ts n I + (own_c2 (n - (I + 1)) - own_c2 (n - J) + (E - J - 1)))))])) rfl rfl (hb hby d6_71)
  refine Runs.by st5 ?_
  show Runs p e below _ (T5.setTop (mkF m 74 #[.val (.ref o0), .val (.int p1), .val (.long (own_L (own_c2 n + own_ts n I + (own_c2 (n - (I + 1)) - own_c2 (n - J) + (E - J - 1))))), .second, .unset, .unset, .unset, .unset] [(.long (own_L (own_c2 n))), (.long (own_L (own_c2 n + own_ts n I + (own_c2 (n - (I + 1)) - own_c2 (n - J) + (E - J - 1)))))]))
  refine Runs.by (fun _ hr => XS.lsub X5.here hx rfl (hb hby d6_74) rfl hr) ?_
  show Runs p e below _ (T5.setTop (mkF m 75 #[.val (.ref o0), .val (.int p1), .val (.long (own_L (own_c2 n + own_ts n I + (own_c2 (n - (I + 1)) - own_c2 (n - J) + (E - J - 1))))), .second, .unset, .unset, .unset, .unset] [(.long ((own_L (own_c2 n + own_ts n I + (own_c2 (n - (I + 1)) - own_c2 (n - J) + (E - J - 1)))) - (own_L (own_c2 n))))]))
  refine Runs.by (fun _ hr => XS.lstore X5.here hx rfl (hb hby d6_75) rfl (l' := #[.val (.ref o0), .val (.int p1), .val (.long (own_L (own_c2 n + own_ts n I + (own_c2 (n - (I + 1)) - own_c2 (n - J) + (E - J - 1))))), .second, .val (.long ((own_L (own_c2 n + own_ts n I + (own_c2 (n - (I + 1)) - own_c2 (n - J) + (E - J - 1)))) - (own_L (own_c2 n)))), .second, .unset, .unset]) rfl hr) ?_
  have ev3 : ((own_L (own_c2 n + own_ts n I + (own_c2 (n - (I + 1)) - own_c2 (n - J) + (E - J - 1)))) - (own_L (own_c2 n))) = own_L (own_ts n I + (own_c2 (n - (I + 1)) - own_c2 (n - J) + (E - J - 1))) := by rw [own_Lsub (by omega) (by omega)]; congr 1; omega
  show Runs p e below _ (T5.setTop (mkF m 77 #[.val (.ref o0), .val (.int p1), .val (.long (own_L (own_c2 n + own_ts n I + (own_c2 (n - (I + 1)) - own_c2 (n - J) + (E - J - 1))))), .second, .val (.long ((own_L (own_c2 n + own_ts n I + (own_c2 (n - (I + 1)) - own_c2 (n - J) + (E - J - 1)))) - (own_L (own_c2 n)))), .second, .unset, .unset] []))
  rw [ev3]
  show Runs p e below _ (T5.setTop (mkF m 77 #[.val (.ref o0), .val (.int p1), .val (.long (own_L (own_c2 n + own_ts n I + (own_c2 (n - (I + 1)) - own_c2 (n - J) + (E - J - 1))))), .second, .val (.long (own_L (own_ts n I + (own_c2 (n - (I + 1)) - own_c2 (n - J) + (E - J - 1))))), .second, .unset, .unset] []))
  refine Runs.by (fun _ hr => XS.aloadN X5.here hx rfl (hb hby d6_77) rfl rfl hr) ?_
  show Runs p e below _ (T5.setTop (mkF m 78 #[.val (.ref o0), .val (.int p1), .val (.long (own_L (own_c2 n + own_ts n I + (own_c2 (n - (I + 1)) - own_c2 (n - J) + (E - J - 1))))), .second, .val (.long (own_L (own_ts n I + (own_c2 (n - (I + 1)) - own_c2 (n - J) + (E - J - 1))))), .second, .unset, .unset] [(.ref o0)]))
  refine Runs.by (fun _ hr => XS.aloadN X5.here hx rfl (hb hby d6_78) rfl rfl hr) ?_
  show Runs p e below _ (T5.setTop (mkF m 79 #[.val (.ref o0), .val (.int p1), .val (.long (own_L (own_c2 n + own_ts n I + (own_c2 (n - (I + 1)) - own_c2 (n - J) + (E - J - 1))))), .second, .val (.long (own_L (own_ts n I + (own_c2 (n - (I + 1)) - own_c2 (n - J) + (E - J - 1))))), .second, .unset, .unset] [(.ref o0), (.ref o0)]))
  obtain ⟨T6, X6, e6, st6⟩ := getF X5 hx hZ hown (host := "") (Or.inl (hw _ (List.mem_of_getElem? (i := 15) rfl))) Via.refl e5 Ft (g := (mkF m 79 #[.val (.ref o0), .val (.int p1), .val (.long (own_L (own_c2 n + own_ts n I + (own_c2 (n - (I + 1)) - own_c2 (n - J) + (E - J - 1))))), .second, .val (.long (own_L (own_ts n I + (own_c2 (n - (I + 1)) - own_c2 (n - J) + (E - J - 1))))), .second, .unset, .unset] [(.ref o0), (.ref o0)])) rfl rfl (hb hby d6_79)
  refine Runs.by st6 ?_
  show Runs p e below _ (T6.setTop (mkF m 82 #[.val (.ref o0), .val (.int p1), .val (.long (own_L (own_c2 n + own_ts n I + (own_c2 (n - (I + 1)) - own_c2 (n - J) + (E - J - 1))))), .second, .val (.long (own_L (own_ts n I + (own_c2 (n - (I + 1)) - own_c2 (n - J) + (E - J - 1))))), .second, .unset, .unset] [(.ref ta), (.ref o0)]))
  refine Runs.by (fun _ hr => XS.lload X6.here hx rfl (hb hby d6_82) rfl  hr) ?_
  show Runs p e below _ (T6.setTop (mkF m 84 #[.val (.ref o0), .val (.int p1), .val (.long (own_L (own_c2 n + own_ts n I + (own_c2 (n - (I + 1)) - own_c2 (n - J) + (E - J - 1))))), .second, .val (.long (own_L (own_ts n I + (own_c2 (n - (I + 1)) - own_c2 (n - J) + (E - J - 1))))), .second, .unset, .unset] [(.long (own_L (own_ts n I + (own_c2 (n - (I + 1)) - own_c2 (n - J) + (E - J - 1))))), (.ref ta), (.ref o0)]))
  obtain ⟨cq7, q7, q7'⟩ := E0.cell
  obtain ⟨_, _, ⟨T7, L7, k7, n7⟩, -, X7, ⟨Lc7, hQ7, l7, y7, z7⟩, st7⟩ := X6.privateBack hx (y := (⟨"com/example/fapre/fapre/KeywordSets", "lastAtMost", "([JJ)I"⟩ : MethodName)) hown (mvT hZ (hw _ (List.mem_of_getElem? (i := 47) rfl))) (mvT hZ (hw _ (List.mem_of_getElem? (i := 48) rfl))) (own_selp hZ (hw _ (List.mem_of_getElem? (i := 2) rfl)) (hw _ (List.mem_of_getElem? (i := 49) rfl)) (hw _ (List.mem_of_getElem? (i := 48) rfl)) (by decide)) (Cond.privateMethod_at (mvP hZ (hw _ (List.mem_of_getElem? (i := 49) rfl)) (args := #[]))) (mvT hZ (hw _ (List.mem_of_getElem? (i := 50) rfl))) (by decide) (backOf (W := 0) (rm8 l Z a0 hw [] o0 ta (own_L (own_ts n I + (own_c2 (n - (I + 1)) - own_c2 (n - J) + (E - J - 1)))) kt z nn ii n I ((own_ts n I + (own_c2 (n - (I + 1)) - own_c2 (n - J) + (E - J - 1)))) (own_ts n) h0 n0 (Nat.le_trans Z0 K0.1) Fk G1 hn hbn hz rfl (by omega) (fun i => by have q := own_ts_le n i; omega) (own_ts_mono n) ⟨Nat.le_add_right _ _, by omega⟩ (by omega) hii) hZ (hw _ (List.mem_of_getElem? (i := 50) rfl)) (hw _ (List.mem_of_getElem? (i := 3) rfl)) (by decide) (by decide)) (g := (mkF m 84 #[.val (.ref o0), .val (.int p1), .val (.long (own_L (own_c2 n + own_ts n I + (own_c2 (n - (I + 1)) - own_c2 (n - J) + (E - J - 1))))), .second, .val (.long (own_L (own_ts n I + (own_c2 (n - (I + 1)) - own_c2 (n - J) + (E - J - 1))))), .second, .unset, .unset] [(.long (own_L (own_ts n I + (own_c2 (n - (I + 1)) - own_c2 (n - J) + (E - J - 1))))), (.ref ta), (.ref o0)])) rfl (by rw [hml]; rfl) (Steps.refl _) (a := o0) (by rw [e6]; exact q7) q7' (argsL := [(.ref ta), (.long (own_L (own_ts n I + (own_c2 (n - (I + 1)) - own_c2 (n - J) + (E - J - 1)))))]) (rest := []) (lenOf pd_0 rfl) rfl (by show 2 * 0 + _ ≤ _; exact Nat.le_of_eq rfl) (hb hby d6_84) (fun _ _ => ⟨rfl, e6, (by decide : 0 + 0 ≤ _), (by decide : 0 + 0 ≤ _)⟩)
  dsimp only [Pt.U, Pt.locs, Pt.cells, Pt.slots] at X7 l7 y7 z7 st7 hQ7
  subst l7 y7 z7
  obtain ⟨rfl, Nq7, eq7⟩ := hQ7
  have N7 := Fr.app N0 Nq7
  refine Runs.by (fun _ hr => st7.trans hr) ?_
  show Runs p e below _ (T7.setTop (mkF m 87 #[.val (.ref o0), .val (.int p1), .val (.long (own_L (own_c2 n + own_ts n I + (own_c2 (n - (I + 1)) - own_c2 (n - J) + (E - J - 1))))), .second, .val (.long (own_L (own_ts n I + (own_c2 (n - (I + 1)) - own_c2 (n - J) + (E - J - 1))))), .second, .unset, .unset] [(.int ii)]))
  refine Runs.by (fun _ hr => XS.istore X7.here hx rfl (hb hby d6_87) rfl (l' := #[.val (.ref o0), .val (.int p1), .val (.long (own_L (own_c2 n + own_ts n I + (own_c2 (n - (I + 1)) - own_c2 (n - J) + (E - J - 1))))), .second, .val (.long (own_L (own_ts n I + (own_c2 (n - (I + 1)) - own_c2 (n - J) + (E - J - 1))))), .second, .val (.int ii), .unset]) rfl hr) ?_
  show Runs p e below _ (T7.setTop (mkF m 89 #[.val (.ref o0), .val (.int p1), .val (.long (own_L (own_c2 n + own_ts n I + (own_c2 (n - (I + 1)) - own_c2 (n - J) + (E - J - 1))))), .second, .val (.long (own_L (own_ts n I + (own_c2 (n - (I + 1)) - own_c2 (n - J) + (E - J - 1))))), .second, .val (.int ii), .unset] []))
  refine Runs.by (fun _ hr => XS.aloadN X7.here hx rfl (hb hby d6_89) rfl rfl hr) ?_
  show Runs p e below _ (T7.setTop (mkF m 90 #[.val (.ref o0), .val (.int p1), .val (.long (own_L (own_c2 n + own_ts n I + (own_c2 (n - (I + 1)) - own_c2 (n - J) + (E - J - 1))))), .second, .val (.long (own_L (own_ts n I + (own_c2 (n - (I + 1)) - own_c2 (n - J) + (E - J - 1))))), .second, .val (.int ii), .unset] [(.ref o0)]))
  refine Runs.by (fun _ hr => XS.aloadN X7.here hx rfl (hb hby d6_90) rfl rfl hr) ?_
  show Runs p e below _ (T7.setTop (mkF m 91 #[.val (.ref o0), .val (.int p1), .val (.long (own_L (own_c2 n + own_ts n I + (own_c2 (n - (I + 1)) - own_c2 (n - J) + (E - J - 1))))), .second, .val (.long (own_L (own_ts n I + (own_c2 (n - (I + 1)) - own_c2 (n - J) + (E - J - 1))))), .second, .val (.int ii), .unset] [(.ref o0), (.ref o0)]))
  obtain ⟨T8, X8, e8, st8⟩ := getF X7 hx hZ hown (host := "") (Or.inl (hw _ (List.mem_of_getElem? (i := 13) rfl))) Via.refl eq7 Fp (g := (mkF m 91 #[.val (.ref o0), .val (.int p1), .val (.long (own_L (own_c2 n + own_ts n I + (own_c2 (n - (I + 1)) - own_c2 (n - J) + (E - J - 1))))), .second, .val (.long (own_L (own_ts n I + (own_c2 (n - (I + 1)) - own_c2 (n - J) + (E - J - 1))))), .second, .val (.int ii), .unset] [(.ref o0), (.ref o0)])) rfl rfl (hb hby d6_91)
  refine Runs.by st8 ?_
  show Runs p e below _ (T8.setTop (mkF m 94 #[.val (.ref o0), .val (.int p1), .val (.long (own_L (own_c2 n + own_ts n I + (own_c2 (n - (I + 1)) - own_c2 (n - J) + (E - J - 1))))), .second, .val (.long (own_L (own_ts n I + (own_c2 (n - (I + 1)) - own_c2 (n - J) + (E - J - 1))))), .second, .val (.int ii), .unset] [(.ref pa), (.ref o0)]))
  refine Runs.by (fun _ hr => XS.iload X8.here hx rfl (hb hby d6_94) rfl  hr) ?_
  show Runs p e below _ (T8.setTop (mkF m 96 #[.val (.ref o0), .val (.int p1), .val (.long (own_L (own_c2 n + own_ts n I + (own_c2 (n - (I + 1)) - own_c2 (n - J) + (E - J - 1))))), .second, .val (.long (own_L (own_ts n I + (own_c2 (n - (I + 1)) - own_c2 (n - J) + (E - J - 1))))), .second, .val (.int ii), .unset] [(.int ii), (.ref pa), (.ref o0)]))
  refine Runs.by (fun _ hr => XS.iconst X8.here hx rfl (hb hby d6_96) hr) ?_
  show Runs p e below _ (T8.setTop (mkF m 97 #[.val (.ref o0), .val (.int p1), .val (.long (own_L (own_c2 n + own_ts n I + (own_c2 (n - (I + 1)) - own_c2 (n - J) + (E - J - 1))))), .second, .val (.long (own_L (own_ts n I + (own_c2 (n - (I + 1)) - own_c2 (n - J) + (E - J - 1))))), .second, .val (.int ii), .unset] [(.int (1 : Int32)), (.int ii), (.ref pa), (.ref o0)]))
  refine Runs.by (fun _ hr => XS.iadd X8.here hx rfl (hb hby d6_97) rfl hr) ?_
  show Runs p e below _ (T8.setTop (mkF m 98 #[.val (.ref o0), .val (.int p1), .val (.long (own_L (own_c2 n + own_ts n I + (own_c2 (n - (I + 1)) - own_c2 (n - J) + (E - J - 1))))), .second, .val (.long (own_L (own_ts n I + (own_c2 (n - (I + 1)) - own_c2 (n - J) + (E - J - 1))))), .second, .val (.int ii), .unset] [(.int (ii + (1 : Int32))), (.ref pa), (.ref o0)]))
  obtain ⟨cl9, Ar9, -, S9, N9', H9⟩ := id G0
  have ix9 := own_ix (j := (ii + (1 : Int32))) (z := z) (n := I + 1) ((Jvm.Kit.i32_add (by omega) (by omega)).trans (by omega)) (by rw [Jvm.Kit.i32_add (by omega) (by omega)]; omega)
  have hin9 : ¬ ((ii + (1 : Int32)) < 0 ∨ cl9.slots.size ≤ ((ii + (1 : Int32))).toNatClampNeg) := inb_of S9 ix9.1
  have hat9 : cl9.slots[((ii + (1 : Int32))).toNatClampNeg]? = some (.long ((own_FL (own_ps n)) (I + 1))) := by rw [ix9.2.1]; exact H9 _ ix9.2.2
  refine Runs.by (fun t hr => X8.laload hx (j := (ii + (1 : Int32))) (v := (.long ((own_FL (own_ps n)) (I + 1)))) (by rw [e8]; exact Ar9.1) (State.isArrayOf_alike hZ.alike Ar9.2.1) Ar9.2.2 hin9 hat9 (g := (mkF m 98 #[.val (.ref o0), .val (.int p1), .val (.long (own_L (own_c2 n + own_ts n I + (own_c2 (n - (I + 1)) - own_c2 (n - J) + (E - J - 1))))), .second, .val (.long (own_L (own_ts n I + (own_c2 (n - (I + 1)) - own_c2 (n - J) + (E - J - 1))))), .second, .val (.int ii), .unset] [(.int (ii + (1 : Int32))), (.ref pa), (.ref o0)])) rfl rfl (hb hby d6_98) t hr) ?_
  show Runs p e below _ (T8.setTop (mkF m 99 #[.val (.ref o0), .val (.int p1), .val (.long (own_L (own_c2 n + own_ts n I + (own_c2 (n - (I + 1)) - own_c2 (n - J) + (E - J - 1))))), .second, .val (.long (own_L (own_ts n I + (own_c2 (n - (I + 1)) - own_c2 (n - J) + (E - J - 1))))), .second, .val (.int ii), .unset] [(.long ((own_FL (own_ps n)) (I + 1))), (.ref o0)]))
  refine Runs.by (fun _ hr => XS.lload X8.here hx rfl (hb hby d6_99) rfl  hr) ?_
  show Runs p e below _ (T8.setTop (mkF m 101 #[.val (.ref o0), .val (.int p1), .val (.long (own_L (own_c2 n + own_ts n I + (own_c2 (n - (I + 1)) - own_c2 (n - J) + (E - J - 1))))), .second, .val (.long (own_L (own_ts n I + (own_c2 (n - (I + 1)) - own_c2 (n - J) + (E - J - 1))))), .second, .val (.int ii), .unset] [(.long (own_L (own_ts n I + (own_c2 (n - (I + 1)) - own_c2 (n - J) + (E - J - 1))))), (.long ((own_FL (own_ps n)) (I + 1))), (.ref o0)]))
  refine Runs.by (fun _ hr => XS.ladd X8.here hx rfl (hb hby d6_101) rfl hr) ?_
  show Runs p e below _ (T8.setTop (mkF m 102 #[.val (.ref o0), .val (.int p1), .val (.long (own_L (own_c2 n + own_ts n I + (own_c2 (n - (I + 1)) - own_c2 (n - J) + (E - J - 1))))), .second, .val (.long (own_L (own_ts n I + (own_c2 (n - (I + 1)) - own_c2 (n - J) + (E - J - 1))))), .second, .val (.int ii), .unset] [(.long (((own_FL (own_ps n)) (I + 1)) + (own_L (own_ts n I + (own_c2 (n - (I + 1)) - own_c2 (n - J) + (E - J - 1)))))), (.ref o0)]))
  refine Runs.by (fun _ hr => XS.aloadN X8.here hx rfl (hb hby d6_102) rfl rfl hr) ?_
  show Runs p e below _ (T8.setTop (mkF m 103 #[.val (.ref o0), .val (.int p1), .val (.long (own_L (own_c2 n + own_ts n I + (own_c2 (n - (I + 1)) - own_c2 (n - J) + (E - J - 1))))), .second, .val (.long (own_L (own_ts n I + (own_c2 (n - (I + 1)) - own_c2 (n - J) + (E - J - 1))))), .second, .val (.int ii), .unset] [(.ref o0), (.long (((own_FL (own_ps n)) (I + 1)) + (own_L (own_ts n I + (own_c2 (n - (I + 1)) - own_c2 (n - J) + (E - J - 1)))))), (.ref o0)]))
  obtain ⟨T10, X10, e10, st10⟩ := getF X8 hx hZ hown (host := "") (Or.inl (hw _ (List.mem_of_getElem? (i := 15) rfl))) Via.refl e8 Ft (g := (mkF m 103 #[.val (.ref o0), .val (.int p1), .val (.long (own_L (own_c2 n + own_ts n I + (own_c2 (n - (I + 1)) - own_c2 (n - J) + (E - J - 1))))), .second, .val (.long (own_L (own_ts n I + (own_c2 (n - (I + 1)) - own_c2 (n - J) + (E - J - 1))))), .second, .val (.int ii), .unset] [(.ref o0), (.long (((own_FL (own_ps n)) (I + 1)) + (own_L (own_ts n I + (own_c2 (n - (I + 1)) - own_c2 (n - J) + (E - J - 1)))))), (.ref o0)])) rfl rfl (hb hby d6_103)
  refine Runs.by st10 ?_
  show Runs p e below _ (T10.setTop (mkF m 106 #[.val (.ref o0), .val (.int p1), .val (.long (own_L (own_c2 n + own_ts n I + (own_c2 (n - (I + 1)) - own_c2 (n - J) + (E - J - 1))))), .second, .val (.long (own_L (own_ts n I + (own_c2 (n - (I + 1)) - own_c2 (n - J) + (E - J - 1))))), .second, .val (.int ii), .unset] [(.ref ta), (.long (((own_FL (own_ps n)) (I + 1)) + (own_L (own_ts n I + (own_c2 (n - (I + 1)) - own_c2 (n - J) + (E - J - 1)))))), (.ref o0)]))
  refine Runs.by (fun _ hr => XS.iload X10.here hx rfl (hb hby d6_106) rfl  hr) ?_
  show Runs p e below _ (T10.setTop (mkF m 108 #[.val (.ref o0), .val (.int p1), .val (.long (own_L (own_c2 n + own_ts n I + (own_c2 (n - (I + 1)) - own_c2 (n - J) + (E - J - 1))))), .second, .val (.long (own_L (own_ts n I + (own_c2 (n - (I + 1)) - own_c2 (n - J) + (E - J - 1))))), .second, .val (.int ii), .unset] [(.int ii), (.ref ta), (.long (((own_FL (own_ps n)) (I + 1)) + (own_L (own_ts n I + (own_c2 (n - (I + 1)) - own_c2 (n - J) + (E - J - 1)))))), (.ref o0)]))
  obtain ⟨cl11, Ar11, -, S11, N11', H11⟩ := id G1
  have ix11 := own_ix (j := ii) (z := z) (n := I) hii (by omega)
  have hin11 : ¬ (ii < 0 ∨ cl11.slots.size ≤ (ii).toNatClampNeg) := inb_of S11 ix11.1
  have hat11 : cl11.slots[(ii).toNatClampNeg]? = some (.long ((own_FL (own_ts n)) I)) := by rw [ix11.2.1]; exact H11 _ ix11.2.2
  refine Runs.by (fun t hr => X10.laload hx (j := ii) (v := (.long ((own_FL (own_ts n)) I))) (by rw [e10]; exact Ar11.1) (State.isArrayOf_alike hZ.alike Ar11.2.1) Ar11.2.2 hin11 hat11 (g := (mkF m 108 #[.val (.ref o0), .val (.int p1), .val (.long (own_L (own_c2 n + own_ts n I + (own_c2 (n - (I + 1)) - own_c2 (n - J) + (E - J - 1))))), .second, .val (.long (own_L (own_ts n I + (own_c2 (n - (I + 1)) - own_c2 (n - J) + (E - J - 1))))), .second, .val (.int ii), .unset] [(.int ii), (.ref ta), (.long (((own_FL (own_ps n)) (I + 1)) + (own_L (own_ts n I + (own_c2 (n - (I + 1)) - own_c2 (n - J) + (E - J - 1)))))), (.ref o0)])) rfl rfl (hb hby d6_108) t hr) ?_
  show Runs p e below _ (T10.setTop (mkF m 109 #[.val (.ref o0), .val (.int p1), .val (.long (own_L (own_c2 n + own_ts n I + (own_c2 (n - (I + 1)) - own_c2 (n - J) + (E - J - 1))))), .second, .val (.long (own_L (own_ts n I + (own_c2 (n - (I + 1)) - own_c2 (n - J) + (E - J - 1))))), .second, .val (.int ii), .unset] [(.long ((own_FL (own_ts n)) I)), (.long (((own_FL (own_ps n)) (I + 1)) + (own_L (own_ts n I + (own_c2 (n - (I + 1)) - own_c2 (n - J) + (E - J - 1)))))), (.ref o0)]))
  refine Runs.by (fun _ hr => XS.lsub X10.here hx rfl (hb hby d6_109) rfl hr) ?_
  have ev4 : ((((own_FL (own_ps n)) (I + 1)) + (own_L (own_ts n I + (own_c2 (n - (I + 1)) - own_c2 (n - J) + (E - J - 1))))) - ((own_FL (own_ts n)) I)) = own_L (own_ps n J + (E - J - 1)) := by
    show (own_L (own_ps n (I + 1)) + own_L (own_ts n I + (own_c2 (n - (I + 1)) - own_c2 (n - J) + (E - J - 1)))) - own_L (own_ts n I) = _
    rw [own_Ladd (by omega), own_Lsub (by omega) (by omega)]; congr 1; omega
  show Runs p e below _ (T10.setTop (mkF m 110 #[.val (.ref o0), .val (.int p1), .val (.long (own_L (own_c2 n + own_ts n I + (own_c2 (n - (I + 1)) - own_c2 (n - J) + (E - J - 1))))), .second, .val (.long (own_L (own_ts n I + (own_c2 (n - (I + 1)) - own_c2 (n - J) + (E - J - 1))))), .second, .val (.int ii), .unset] [(.long ((((own_FL (own_ps n)) (I + 1)) + (own_L (own_ts n I + (own_c2 (n - (I + 1)) - own_c2 (n - J) + (E - J - 1))))) - ((own_FL (own_ts n)) I))), (.ref o0)]))
  rw [ev4]
  show Runs p e below _ (T10.setTop (mkF m 110 #[.val (.ref o0), .val (.int p1), .val (.long (own_L (own_c2 n + own_ts n I + (own_c2 (n - (I + 1)) - own_c2 (n - J) + (E - J - 1))))), .second, .val (.long (own_L (own_ts n I + (own_c2 (n - (I + 1)) - own_c2 (n - J) + (E - J - 1))))), .second, .val (.int ii), .unset] [(.long (own_L (own_ps n J + (E - J - 1)))), (.ref o0)]))
  obtain ⟨cq12, q12, q12'⟩ := E0.cell
  obtain ⟨_, _, ⟨T12, L12, k12, n12⟩, -, X12, ⟨Lc12, hQ12, l12, y12, z12⟩, st12⟩ := X10.privateBack hx (y := (⟨"com/example/fapre/fapre/KeywordSets", "pairAt", "(J)[I"⟩ : MethodName)) hown (mvT hZ (hw _ (List.mem_of_getElem? (i := 43) rfl))) (mvT hZ (hw _ (List.mem_of_getElem? (i := 44) rfl))) (own_selp hZ (hw _ (List.mem_of_getElem? (i := 2) rfl)) (hw _ (List.mem_of_getElem? (i := 45) rfl)) (hw _ (List.mem_of_getElem? (i := 44) rfl)) (by decide)) (Cond.privateMethod_at (mvP hZ (hw _ (List.mem_of_getElem? (i := 45) rfl)) (args := #[]))) (mvT hZ (hw _ (List.mem_of_getElem? (i := 46) rfl))) (by decide) (backOf (W := 0) (rm7 l Z a0 hw [] o0 (own_L (own_ps n J + (E - J - 1))) nn n J E jj ll pa k z h0 n0 (Nat.le_trans Z0 K0.1) E0 Fk Fp G0 hn hbn hz hIJ.2 hjj hll rfl) hZ (hw _ (List.mem_of_getElem? (i := 46) rfl)) (hw _ (List.mem_of_getElem? (i := 3) rfl)) (by decide) (by decide)) (g := (mkF m 110 #[.val (.ref o0), .val (.int p1), .val (.long (own_L (own_c2 n + own_ts n I + (own_c2 (n - (I + 1)) - own_c2 (n - J) + (E - J - 1))))), .second, .val (.long (own_L (own_ts n I + (own_c2 (n - (I + 1)) - own_c2 (n - J) + (E - J - 1))))), .second, .val (.int ii), .unset] [(.long (own_L (own_ps n J + (E - J - 1)))), (.ref o0)])) rfl (by rw [hml]; rfl) (Steps.refl _) (a := o0) (by rw [e10]; exact q12) q12' (argsL := [(.long (own_L (own_ps n J + (E - J - 1))))]) (rest := []) (lenOf pd_1 rfl) rfl (by show 2 * 0 + _ ≤ _; exact Nat.le_of_eq rfl) (hb hby d6_110) (fun _ _ => ⟨rfl, e10, (by decide : 0 + 1 ≤ _), (by decide : 0 + 2 ≤ _)⟩)
  dsimp only [Pt.U, Pt.locs, Pt.cells, Pt.slots] at X12 l12 y12 z12 st12 hQ12
  subst l12 y12 z12
  obtain ⟨y12, ky12, rfl, Nq12, Kq12, g_y12, szq_y12, f12_0⟩ := hQ12
  have N12 := Fr.app N7 Nq12
  have ne_o0_y12 : o0 ≠ y12 := Nat.ne_of_lt (Nat.lt_of_lt_of_le E0.lt szq_y12)
  have ne_pa_y12 : pa ≠ y12 := Nat.ne_of_lt (Nat.lt_of_lt_of_le G0.lt szq_y12)
  have ne_ta_y12 : ta ≠ y12 := Nat.ne_of_lt (Nat.lt_of_lt_of_le G1.lt szq_y12)
  have sz_y12 : h0.size ≤ y12 := Nat.le_trans K0.1 szq_y12
  have K13 : Keep h0 T12.heap [] := Keep.trans (ws := []) K0 Kq12 all0
  refine Runs.by (fun _ hr => st12.trans hr) ?_
  show Runs p e below _ (T12.setTop (mkF m 113 #[.val (.ref o0), .val (.int p1), .val (.long (own_L (own_c2 n + own_ts n I + (own_c2 (n - (I + 1)) - own_c2 (n - J) + (E - J - 1))))), .second, .val (.long (own_L (own_ts n I + (own_c2 (n - (I + 1)) - own_c2 (n - J) + (E - J - 1))))), .second, .val (.int ii), .unset] [(.ref y12)]))
  refine Runs.by (fun _ hr => XS.astore X12.here hx rfl (hb hby d6_113) rfl rfl (l' := #[.val (.ref o0), .val (.int p1), .val (.long (own_L (own_c2 n + own_ts n I + (own_c2 (n - (I + 1)) - own_c2 (n - J) + (E - J - 1))))), .second, .val (.long (own_L (own_ts n I + (own_c2 (n - (I + 1)) - own_c2 (n - J) + (E - J - 1))))), .second, .val (.int ii), .val (.ref y12)]) rfl hr) ?_
  show Runs p e below _ (T12.setTop (mkF m 115 #[.val (.ref o0), .val (.int p1), .val (.long (own_L (own_c2 n + own_ts n I + (own_c2 (n - (I + 1)) - own_c2 (n - J) + (E - J - 1))))), .second, .val (.long (own_L (own_ts n I + (own_c2 (n - (I + 1)) - own_c2 (n - J) + (E - J - 1))))), .second, .val (.int ii), .val (.ref y12)] []))
  refine Runs.by (fun _ hr => XS.iconst X12.here hx rfl (hb hby d6_115) hr) ?_
  show Runs p e below _ (T12.setTop (mkF m 116 #[.val (.ref o0), .val (.int p1), .val (.long (own_L (own_c2 n + own_ts n I + (own_c2 (n - (I + 1)) - own_c2 (n - J) + (E - J - 1))))), .second, .val (.long (own_L (own_ts n I + (own_c2 (n - (I + 1)) - own_c2 (n - J) + (E - J - 1))))), .second, .val (.int ii), .val (.ref y12)] [(.int (3 : Int32))]))
  obtain ⟨T14, h14, k14, X14, e14, E14, A14, st14⟩ := newP X12 hx hZ (hw _ (List.mem_of_getElem? (i := 42) rfl)) rfl (g := (mkF m 116 #[.val (.ref o0), .val (.int p1), .val (.long (own_L (own_c2 n + own_ts n I + (own_c2 (n - (I + 1)) - own_c2 (n - J) + (E - J - 1))))), .second, .val (.long (own_L (own_ts n I + (own_c2 (n - (I + 1)) - own_c2 (n - J) + (E - J - 1))))), .second, .val (.int ii), .val (.ref y12)] [(.int (3 : Int32))])) rfl (hb hby d6_116) rfl (by decide) (cap := 3) (by decide) (by decide) (by decide) (by decide)
  obtain ⟨b14, gz14⟩ : ∃ z, z = T12.heap.size := ⟨_, rfl⟩
  rw [← gz14] at A14 st14
  have ne_o0_b14 : o0 ≠ b14 := Nat.ne_of_lt (Nat.lt_of_lt_of_le (E0.keep Kq12).lt (Nat.le_of_eq gz14.symm))
  have ne_pa_b14 : pa ≠ b14 := Nat.ne_of_lt (Nat.lt_of_lt_of_le (G0.keep Kq12 nin0).lt (Nat.le_of_eq gz14.symm))
  have ne_ta_b14 : ta ≠ b14 := Nat.ne_of_lt (Nat.lt_of_lt_of_le (G1.keep Kq12 nin0).lt (Nat.le_of_eq gz14.symm))
  have ne_y12_b14 : y12 ≠ b14 := Nat.ne_of_lt (Nat.lt_of_lt_of_le f12_0.lt (Nat.le_of_eq gz14.symm))
  have g_b14 : n0 ≤ b14 := Nat.le_trans (Nat.le_trans Z0 K13.1) (Nat.le_of_eq gz14.symm)
  have sz_b14 : h0.size ≤ b14 := Nat.le_trans K13.1 (Nat.le_of_eq gz14.symm)
  have K15 : Keep h0 h14 [] := K13.ext E14
  have G14 : Arf Z h14 b14 k14 .int (3 : Int32) (fun j_ => .int ((fun _ => (0 : Int32)) j_)) := Arf.new A14 (by decide)
  refine Runs.by st14 ?_
  show Runs p e below _ (T14.setTop (mkF m 118 #[.val (.ref o0), .val (.int p1), .val (.long (own_L (own_c2 n + own_ts n I + (own_c2 (n - (I + 1)) - own_c2 (n - J) + (E - J - 1))))), .second, .val (.long (own_L (own_ts n I + (own_c2 (n - (I + 1)) - own_c2 (n - J) + (E - J - 1))))), .second, .val (.int ii), .val (.ref y12)] [(.ref b14)]))
  refine Runs.by (fun _ hr => XS.dup X14.here hx rfl (hb hby d6_118) rfl rfl hr) ?_
  show Runs p e below _ (T14.setTop (mkF m 119 #[.val (.ref o0), .val (.int p1), .val (.long (own_L (own_c2 n + own_ts n I + (own_c2 (n - (I + 1)) - own_c2 (n - J) + (E - J - 1))))), .second, .val (.long (own_L (own_ts n I + (own_c2 (n - (I + 1)) - own_c2 (n - J) + (E - J - 1))))), .second, .val (.int ii), .val (.ref y12)] [(.ref b14), (.ref b14)]))
  refine Runs.by (fun _ hr => XS.iconst X14.here hx rfl (hb hby d6_119) hr) ?_
  show Runs p e below _ (T14.setTop (mkF m 120 #[.val (.ref o0), .val (.int p1), .val (.long (own_L (own_c2 n + own_ts n I + (own_c2 (n - (I + 1)) - own_c2 (n - J) + (E - J - 1))))), .second, .val (.long (own_L (own_ts n I + (own_c2 (n - (I + 1)) - own_c2 (n - J) + (E - J - 1))))), .second, .val (.int ii), .val (.ref y12)] [(.int (0 : Int32)), (.ref b14), (.ref b14)]))
  refine Runs.by (fun _ hr => XS.iload X14.here hx rfl (hb hby d6_120) rfl  hr) ?_
  show Runs p e below _ (T14.setTop (mkF m 122 #[.val (.ref o0), .val (.int p1), .val (.long (own_L (own_c2 n + own_ts n I + (own_c2 (n - (I + 1)) - own_c2 (n - J) + (E - J - 1))))), .second, .val (.long (own_L (own_ts n I + (own_c2 (n - (I + 1)) - own_c2 (n - J) + (E - J - 1))))), .second, .val (.int ii), .val (.ref y12)] [(.int ii), (.int (0 : Int32)), (.ref b14), (.ref b14)]))
  obtain ⟨cl16, Ar16, q16, S16, N16', H16⟩ := id G14
  have ix16 := own_ix (j := (0 : Int32)) (z := (3 : Int32)) (n := 0) rfl (by decide)
  have hin16 : ¬ ((0 : Int32) < 0 ∨ cl16.slots.size ≤ ((0 : Int32)).toNatClampNeg) := inb_of S16 ix16.1
  obtain ⟨T16, h16, X16, e16, W16, st16⟩ := stI X14 hx hZ e14 Ar16 (j := (0 : Int32)) hin16 (g := (mkF m 122 #[.val (.ref o0), .val (.int p1), .val (.long (own_L (own_c2 n + own_ts n I + (own_c2 (n - (I + 1)) - own_c2 (n - J) + (E - J - 1))))), .second, .val (.long (own_L (own_ts n I + (own_c2 (n - (I + 1)) - own_c2 (n - J) + (E - J - 1))))), .second, .val (.int ii), .val (.ref y12)] [(.int ii), (.int (0 : Int32)), (.ref b14), (.ref b14)])) rfl rfl (hb hby d6_122)
  have G16 : Arf Z h16 b14 k14 .int (3 : Int32) (fun j_ => .int ((own_up (fun _ => (0 : Int32)) 0 ii) j_)) := (Arf.set Ar16 q16 S16 N16' H16 W16 ix16.2.1).cast (fun j_ _ => by simp only [own_up]; split <;> rfl)
  have K17 : Keep h0 h16 [] := K15.wr W16 (Or.inr sz_b14)
  have N16 := Fr.snoc X16 N12 g_b14
  refine Runs.by st16 ?_
  show Runs p e below _ (T16.setTop (mkF m 123 #[.val (.ref o0), .val (.int p1), .val (.long (own_L (own_c2 n + own_ts n I + (own_c2 (n - (I + 1)) - own_c2 (n - J) + (E - J - 1))))), .second, .val (.long (own_L (own_ts n I + (own_c2 (n - (I + 1)) - own_c2 (n - J) + (E - J - 1))))), .second, .val (.int ii), .val (.ref y12)] [(.ref b14)]))
  refine Runs.by (fun _ hr => XS.dup X16.here hx rfl (hb hby d6_123) rfl rfl hr) ?_
  show Runs p e below _ (T16.setTop (mkF m 124 #[.val (.ref o0), .val (.int p1), .val (.long (own_L (own_c2 n + own_ts n I + (own_c2 (n - (I + 1)) - own_c2 (n - J) + (E - J - 1))))), .second, .val (.long (own_L (own_ts n I + (own_c2 (n - (I + 1)) - own_c2 (n - J) + (E - J - 1))))), .second, .val (.int ii), .val (.ref y12)] [(.ref b14), (.ref b14)]))
  refine Runs.by (fun _ hr => XS.iconst X16.here hx rfl (hb hby d6_124) hr) ?_
  show Runs p e below _ (T16.setTop (mkF m 125 #[.val (.ref o0), .val (.int p1), .val (.long (own_L (own_c2 n + own_ts n I + (own_c2 (n - (I + 1)) - own_c2 (n - J) + (E - J - 1))))), .second, .val (.long (own_L (own_ts n I + (own_c2 (n - (I + 1)) - own_c2 (n - J) + (E - J - 1))))), .second, .val (.int ii), .val (.ref y12)] [(.int (1 : Int32)), (.ref b14), (.ref b14)]))
  refine Runs.by (fun _ hr => XS.aload X16.here hx rfl (hb hby d6_125) rfl rfl hr) ?_
  show Runs p e below _ (T16.setTop (mkF m 127 #[.val (.ref o0), .val (.int p1), .val (.long (own_L (own_c2 n + own_ts n I + (own_c2 (n - (I + 1)) - own_c2 (n - J) + (E - J - 1))))), .second, .val (.long (own_L (own_ts n I + (own_c2 (n - (I + 1)) - own_c2 (n - J) + (E - J - 1))))), .second, .val (.int ii), .val (.ref y12)] [(.ref y12), (.int (1 : Int32)), (.ref b14), (.ref b14)]))
  refine Runs.by (fun _ hr => XS.iconst X16.here hx rfl (hb hby d6_127) hr) ?_
  show Runs p e below _ (T16.setTop (mkF m 128 #[.val (.ref o0), .val (.int p1), .val (.long (own_L (own_c2 n + own_ts n I + (own_c2 (n - (I + 1)) - own_c2 (n - J) + (E - J - 1))))), .second, .val (.long (own_L (own_ts n I + (own_c2 (n - (I + 1)) - own_c2 (n - J) + (E - J - 1))))), .second, .val (.int ii), .val (.ref y12)] [(.int (0 : Int32)), (.ref y12), (.int (1 : Int32)), (.ref b14), (.ref b14)]))
  obtain ⟨cl18, Ar18, -, S18, N18', H18⟩ := id ((f12_0.ext E14).other W16 ne_y12_b14)
  have ix18 := own_ix (j := (0 : Int32)) (z := (2 : Int32)) (n := 0) rfl (by decide)
  have hin18 : ¬ ((0 : Int32) < 0 ∨ cl18.slots.size ≤ ((0 : Int32)).toNatClampNeg) := inb_of S18 ix18.1
  have hat18 : cl18.slots[((0 : Int32)).toNatClampNeg]? = some (.int ((own_up (own_up (fun _ => (0 : Int32)) (0) jj) (1) ll) 0)) := by rw [ix18.2.1]; exact H18 _ ix18.2.2
  refine Runs.by (fun t hr => X16.iaload hx (j := (0 : Int32)) (v := (.int ((own_up (own_up (fun _ => (0 : Int32)) (0) jj) (1) ll) 0))) (by rw [e16]; exact Ar18.1) (State.isArrayOf_alike hZ.alike Ar18.2.1) Ar18.2.2 hin18 hat18 (g := (mkF m 128 #[.val (.ref o0), .val (.int p1), .val (.long (own_L (own_c2 n + own_ts n I + (own_c2 (n - (I + 1)) - own_c2 (n - J) + (E - J - 1))))), .second, .val (.long (own_L (own_ts n I + (own_c2 (n - (I + 1)) - own_c2 (n - J) + (E - J - 1))))), .second, .val (.int ii), .val (.ref y12)] [(.int (0 : Int32)), (.ref y12), (.int (1 : Int32)), (.ref b14), (.ref b14)])) rfl rfl (hb hby d6_128) t hr) ?_
  show Runs p e below _ (T16.setTop (mkF m 129 #[.val (.ref o0), .val (.int p1), .val (.long (own_L (own_c2 n + own_ts n I + (own_c2 (n - (I + 1)) - own_c2 (n - J) + (E - J - 1))))), .second, .val (.long (own_L (own_ts n I + (own_c2 (n - (I + 1)) - own_c2 (n - J) + (E - J - 1))))), .second, .val (.int ii), .val (.ref y12)] [(.int ((own_up (own_up (fun _ => (0 : Int32)) (0) jj) (1) ll) 0)), (.int (1 : Int32)), (.ref b14), (.ref b14)]))
  obtain ⟨cl19, Ar19, q19, S19, N19', H19⟩ := id G16
  have ix19 := own_ix (j := (1 : Int32)) (z := (3 : Int32)) (n := 1) rfl (by decide)
  have hin19 : ¬ ((1 : Int32) < 0 ∨ cl19.slots.size ≤ ((1 : Int32)).toNatClampNeg) := inb_of S19 ix19.1
  obtain ⟨T19, h19, X19, e19, W19, st19⟩ := stI X16 hx hZ e16 Ar19 (j := (1 : Int32)) hin19 (g := (mkF m 129 #[.val (.ref o0), .val (.int p1), .val (.long (own_L (own_c2 n + own_ts n I + (own_c2 (n - (I + 1)) - own_c2 (n - J) + (E - J - 1))))), .second, .val (.long (own_L (own_ts n I + (own_c2 (n - (I + 1)) - own_c2 (n - J) + (E - J - 1))))), .second, .val (.int ii), .val (.ref y12)] [(.int ((own_up (own_up (fun _ => (0 : Int32)) (0) jj) (1) ll) 0)), (.int (1 : Int32)), (.ref b14), (.ref b14)])) rfl rfl (hb hby d6_129)
  have G19 : Arf Z h19 b14 k14 .int (3 : Int32) (fun j_ => .int ((own_up (own_up (fun _ => (0 : Int32)) 0 ii) 1 ((own_up (own_up (fun _ => (0 : Int32)) (0) jj) (1) ll) 0)) j_)) := (Arf.set Ar19 q19 S19 N19' H19 W19 ix19.2.1).cast (fun j_ _ => by simp only [own_up]; split <;> rfl)
  have K20 : Keep h0 h19 [] := K17.wr W19 (Or.inr sz_b14)
  have N19 := Fr.snoc X19 N16 g_b14
  refine Runs.by st19 ?_
  show Runs p e below _ (T19.setTop (mkF m 130 #[.val (.ref o0), .val (.int p1), .val (.long (own_L (own_c2 n + own_ts n I + (own_c2 (n - (I + 1)) - own_c2 (n - J) + (E - J - 1))))), .second, .val (.long (own_L (own_ts n I + (own_c2 (n - (I + 1)) - own_c2 (n - J) + (E - J - 1))))), .second, .val (.int ii), .val (.ref y12)] [(.ref b14)]))
  refine Runs.by (fun _ hr => XS.dup X19.here hx rfl (hb hby d6_130) rfl rfl hr) ?_
  show Runs p e below _ (T19.setTop (mkF m 131 #[.val (.ref o0), .val (.int p1), .val (.long (own_L (own_c2 n + own_ts n I + (own_c2 (n - (I + 1)) - own_c2 (n - J) + (E - J - 1))))), .second, .val (.long (own_L (own_ts n I + (own_c2 (n - (I + 1)) - own_c2 (n - J) + (E - J - 1))))), .second, .val (.int ii), .val (.ref y12)] [(.ref b14), (.ref b14)]))
  refine Runs.by (fun _ hr => XS.iconst X19.here hx rfl (hb hby d6_131) hr) ?_
  show Runs p e below _ (T19.setTop (mkF m 132 #[.val (.ref o0), .val (.int p1), .val (.long (own_L (own_c2 n + own_ts n I + (own_c2 (n - (I + 1)) - own_c2 (n - J) + (E - J - 1))))), .second, .val (.long (own_L (own_ts n I + (own_c2 (n - (I + 1)) - own_c2 (n - J) + (E - J - 1))))), .second, .val (.int ii), .val (.ref y12)] [(.int (2 : Int32)), (.ref b14), (.ref b14)]))
  refine Runs.by (fun _ hr => XS.aload X19.here hx rfl (hb hby d6_132) rfl rfl hr) ?_
  show Runs p e below _ (T19.setTop (mkF m 134 #[.val (.ref o0), .val (.int p1), .val (.long (own_L (own_c2 n + own_ts n I + (own_c2 (n - (I + 1)) - own_c2 (n - J) + (E - J - 1))))), .second, .val (.long (own_L (own_ts n I + (own_c2 (n - (I + 1)) - own_c2 (n - J) + (E - J - 1))))), .second, .val (.int ii), .val (.ref y12)] [(.ref y12), (.int (2 : Int32)), (.ref b14), (.ref b14)]))
  refine Runs.by (fun _ hr => XS.iconst X19.here hx rfl (hb hby d6_134) hr) ?_
  show Runs p e below _ (T19.setTop (mkF m 135 #[.val (.ref o0), .val (.int p1), .val (.long (own_L (own_c2 n + own_ts n I + (own_c2 (n - (I + 1)) - own_c2 (n - J) + (E - J - 1))))), .second, .val (.long (own_L (own_ts n I + (own_c2 (n - (I + 1)) - own_c2 (n - J) + (E - J - 1))))), .second, .val (.int ii), .val (.ref y12)] [(.int (1 : Int32)), (.ref y12), (.int (2 : Int32)), (.ref b14), (.ref b14)]))
  obtain ⟨cl21, Ar21, -, S21, N21', H21⟩ := id (((f12_0.ext E14).other W16 ne_y12_b14).other W19 ne_y12_b14)
  have ix21 := own_ix (j := (1 : Int32)) (z := (2 : Int32)) (n := 1) rfl (by decide)
  have hin21 : ¬ ((1 : Int32) < 0 ∨ cl21.slots.size ≤ ((1 : Int32)).toNatClampNeg) := inb_of S21 ix21.1
  have hat21 : cl21.slots[((1 : Int32)).toNatClampNeg]? = some (.int ((own_up (own_up (fun _ => (0 : Int32)) (0) jj) (1) ll) 1)) := by rw [ix21.2.1]; exact H21 _ ix21.2.2
  refine Runs.by (fun t hr => X19.iaload hx (j := (1 : Int32)) (v := (.int ((own_up (own_up (fun _ => (0 : Int32)) (0) jj) (1) ll) 1))) (by rw [e19]; exact Ar21.1) (State.isArrayOf_alike hZ.alike Ar21.2.1) Ar21.2.2 hin21 hat21 (g := (mkF m 135 #[.val (.ref o0), .val (.int p1), .val (.long (own_L (own_c2 n + own_ts n I + (own_c2 (n - (I + 1)) - own_c2 (n - J) + (E - J - 1))))), .second, .val (.long (own_L (own_ts n I + (own_c2 (n - (I + 1)) - own_c2 (n - J) + (E - J - 1))))), .second, .val (.int ii), .val (.ref y12)] [(.int (1 : Int32)), (.ref y12), (.int (2 : Int32)), (.ref b14), (.ref b14)])) rfl rfl (hb hby d6_135) t hr) ?_
  show Runs p e below _ (T19.setTop (mkF m 136 #[.val (.ref o0), .val (.int p1), .val (.long (own_L (own_c2 n + own_ts n I + (own_c2 (n - (I + 1)) - own_c2 (n - J) + (E - J - 1))))), .second, .val (.long (own_L (own_ts n I + (own_c2 (n - (I + 1)) - own_c2 (n - J) + (E - J - 1))))), .second, .val (.int ii), .val (.ref y12)] [(.int ((own_up (own_up (fun _ => (0 : Int32)) (0) jj) (1) ll) 1)), (.int (2 : Int32)), (.ref b14), (.ref b14)]))
  obtain ⟨cl22, Ar22, q22, S22, N22', H22⟩ := id G19
  have ix22 := own_ix (j := (2 : Int32)) (z := (3 : Int32)) (n := 2) rfl (by decide)
  have hin22 : ¬ ((2 : Int32) < 0 ∨ cl22.slots.size ≤ ((2 : Int32)).toNatClampNeg) := inb_of S22 ix22.1
  obtain ⟨T22, h22, X22, e22, W22, st22⟩ := stI X19 hx hZ e19 Ar22 (j := (2 : Int32)) hin22 (g := (mkF m 136 #[.val (.ref o0), .val (.int p1), .val (.long (own_L (own_c2 n + own_ts n I + (own_c2 (n - (I + 1)) - own_c2 (n - J) + (E - J - 1))))), .second, .val (.long (own_L (own_ts n I + (own_c2 (n - (I + 1)) - own_c2 (n - J) + (E - J - 1))))), .second, .val (.int ii), .val (.ref y12)] [(.int ((own_up (own_up (fun _ => (0 : Int32)) (0) jj) (1) ll) 1)), (.int (2 : Int32)), (.ref b14), (.ref b14)])) rfl rfl (hb hby d6_136)
  have G22 : Arf Z h22 b14 k14 .int (3 : Int32) (fun j_ => .int ((own_up (own_up (own_up (fun _ => (0 : Int32)) 0 ii) 1 ((own_up (own_up (fun _ => (0 : Int32)) (0) jj) (1) ll) 0)) 2 ((own_up (own_up (fun _ => (0 : Int32)) (0) jj) (1) ll) 1)) j_)) := (Arf.set Ar22 q22 S22 N22' H22 W22 ix22.2.1).cast (fun j_ _ => by simp only [own_up]; split <;> rfl)
  have K23 : Keep h0 h22 [] := K20.wr W22 (Or.inr sz_b14)
  have N22 := Fr.snoc X22 N19 g_b14
  refine Runs.by st22 ?_
  show Runs p e below _ (T22.setTop (mkF m 137 #[.val (.ref o0), .val (.int p1), .val (.long (own_L (own_c2 n + own_ts n I + (own_c2 (n - (I + 1)) - own_c2 (n - J) + (E - J - 1))))), .second, .val (.long (own_L (own_ts n I + (own_c2 (n - (I + 1)) - own_c2 (n - J) + (E - J - 1))))), .second, .val (.int ii), .val (.ref y12)] [(.ref b14)]))
  refine Runs.ret X22 hx hrt hlk (Or.inr (Or.inr (Or.inr (Or.inr ⟨rfl, rfl, rfl⟩)))) rfl (hb hby d6_137) (by decide) (by decide) ?_
  rw [e22]
  exact ⟨_, _, rfl, N22, K23, g_b14, sz_b14, G22⟩
theorem own_nn (x : Int32) : 1 ≤ ((1 : Int32) + (x &&& 2147483647) % 2344).toInt ∧ ((1 : Int32) + (x &&& 2147483647) % 2344).toInt ≤ 2344 := by
  have e1 : (x &&& 2147483647).toInt = x.toInt % 2 ^ 31 := Jvm.Kit.i32_mask x 2147483647 (k := 31) (by decide) (by decide)
  have t1 : (1 : Int32).toInt = 1 := by decide
  have t : (2344 : Int32).toInt = 2344 := by decide
  have e2 : ((x &&& 2147483647) % 2344).toInt = (x &&& 2147483647).toInt % 2344 := by rw [Int32.toInt_mod, t, Int.tmod_eq_emod_of_nonneg (by omega)]
  rw [Jvm.Kit.i32_add (by omega) (by omega)]; omega
theorem own_rm (x : Int32) {m : Int32} (hm : 0 < m.toInt) : 0 ≤ ((x &&& 2147483647) % m).toInt ∧ ((x &&& 2147483647) % m).toInt < m.toInt := by
  have e1 : (x &&& 2147483647).toInt = x.toInt % 2 ^ 31 := Jvm.Kit.i32_mask x 2147483647 (k := 31) (by decide) (by decide)
  rw [Int32.toInt_mod, Int.tmod_eq_emod_of_nonneg (by omega)]
  exact ⟨Int.emod_nonneg _ (by omega), Int.emod_lt_of_pos _ hm⟩
theorem own_mod3 (x : Int32) : (x &&& 2147483647) % 3 = 0 ∨ (x &&& 2147483647) % 3 = 1 ∨ (x &&& 2147483647) % 3 = 2 := by
  have q := own_rm x (m := 3) (by decide)
  have t : (3 : Int32).toInt = 3 := by decide
  generalize (x &&& 2147483647) % 3 = y at *
  rcases (by omega : y.toInt = 0 ∨ y.toInt = 1 ∨ y.toInt = 2) with h | h | h
  · exact Or.inl (Int32.toInt_inj.mp h)
  · exact Or.inr (Or.inl (Int32.toInt_inj.mp h))
  · exact Or.inr (Or.inr (Int32.toInt_inj.mp h))
theorem own_ne0 {m : Int32} (h : 0 < m.toInt) : ¬ m = 0 := fun q => by subst q; exact absurd h (by decide)
theorem ef_0_7 (m : MethodId) (p0 : Int32) (p1 : Int32) (p2 : Int32) (p3 : Int32) (p4 : Int32) : entryFrame m #[(.int p0), (.int p1), (.int p2), (.int p3), (.int p4)] maxLocals = mkF m 0 #[.val (.int p0), .val (.int p1), .val (.int p2), .val (.int p3), .val (.int p4), .unset, .unset, .unset, .unset, .unset, .unset, .unset, .unset, .unset, .unset, .unset, .unset, .unset, .unset, .unset] [] := by first | (simp [entryFrame, mkF, argsToLocals, Value.category, maxLocals]; done) | rfl
def Q_rm0 (Z : State) (p0 : Int32) (p1 : Int32) (p2 : Int32) (p3 : Int32) (p4 : Int32)  (h0 : Heap) (n0 : Nat) (v : Option Value) (h : Heap) (L : List Loc) : Prop := v = some (.int 1) ∧ Fr n0 L
theorem pd_2 : parseMethodDescriptor "(I)V" = some ⟨[.int], none⟩ := by decide +kernel
theorem pd_3 : parseMethodDescriptor "(J)J" = some ⟨[.long], some .long⟩ := by decide +kernel
theorem pd_4 : parseMethodDescriptor "()I" = some ⟨[], some .int⟩ := by decide +kernel
theorem pd_5 : parseMethodDescriptor "(I)[I" = some ⟨[.int], some (.array .int)⟩ := by decide +kernel
set_option maxRecDepth 65536 in
set_option maxHeartbeats 40000000 in
theorem rm0 (l : Launch) (Z : State) (a0 : Array Value) (hw : ∀ d ∈ tables_1, d.before a0 Z = true) (ws : List Jvm.Cond) (p0 : Int32) (p1 : Int32) (p2 : Int32) (p3 : Int32) (p4 : Int32)  (h0 : Heap) (n0 : Nat) (Z0 : n0 ≤ h0.size) :
    MetFree l x (head1 (Jvm.Cond.code x code maxLocals ret :: ws) room_1) (fun a U => a = #[(.int p0), (.int p1), (.int p2), (.int p3), (.int p4)] ∧ Z.Warmed39 U.vm ∧ U.heap = h0) (fun _ _ _ _ _ => True) (fun _ U o U' => ∃ v L, o = .returned v ∧ Q_rm0 Z p0 p1 p2 p3 p4 h0 n0 v U'.heap L ∧ FrameEnd U o U' L room_1.cells room_1.slots) := by
  refine MetFree.of_bodySF (plainFor_of_name pn_com_example_fapre_fapre_KeywordSetsPlacesPinLaw) hisR ?_
  intro p e s m args below meth c s₁ Bd hml0 hP hK
  obtain ⟨rfl, hZ, hh⟩ := hP
  have hx := Bd.exec
  have hby := Bd.bytes
  have hlk := BodyLoose.notSynchronized Bd
  have hrt := Bd.returns
  have hml : c.maxLocals = 20 := hml0
  have hown : s.vm.findClass "com/example/fapre/fapre/KeywordSetsPlacesPinLaw" = some m.cls := findClass_of_methodNamed Bd.named
  have hnm := (name_of_methodNamed Bd.named Bd.method).1
  have X0 : Stand p l e room_1 s m #[(.int p0), (.int p1), (.int p2), (.int p3), (.int p4)] below meth c s₁ [] 0 0 := Stand.of_body Bd
  have e0 : s₁.heap = h0 := by rw [← hh, Bd.state]; rfl
  have N0 := Fr.nil n0
  have K0 : Keep h0 h0 [] := Keep.refl h0 _
  show Runs p e below (QE s (Q_rm0 Z p0 p1 p2 p3 p4 h0 n0) room_1.cells room_1.slots) (s₁.setTop (entryFrame m #[(.int p0), (.int p1), (.int p2), (.int p3), (.int p4)] maxLocals))
  rw [ef_0_7 m p0 p1 p2 p3 p4]
  show Runs p e below _ (s₁.setTop (mkF m 0 #[.val (.int p0), .val (.int p1), .val (.int p2), .val (.int p3), .val (.int p4), .unset, .unset, .unset, .unset, .unset, .unset, .unset, .unset, .unset, .unset, .unset, .unset, .unset, .unset, .unset] []))
  refine Runs.by (fun _ hr => XS.iconst X0.here hx rfl (hb hby at_0) hr) ?_
  show Runs p e below _ (s₁.setTop (mkF m 1 #[.val (.int p0), .val (.int p1), .val (.int p2), .val (.int p3), .val (.int p4), .unset, .unset, .unset, .unset, .unset, .unset, .unset, .unset, .unset, .unset, .unset, .unset, .unset, .unset, .unset] [(.int (1 : Int32))]))
  refine Runs.by (fun _ hr => XS.iloadN X0.here hx rfl (hb hby at_1) rfl  hr) ?_
  show Runs p e below _ (s₁.setTop (mkF m 2 #[.val (.int p0), .val (.int p1), .val (.int p2), .val (.int p3), .val (.int p4), .unset, .unset, .unset, .unset, .unset, .unset, .unset, .unset, .unset, .unset, .unset, .unset, .unset, .unset, .unset] [(.int p0), (.int (1 : Int32))]))
  refine Runs.by (fun _ hr => X0.ldcI hx hown (mvT hZ (hw _ (List.mem_of_getElem? (i := 0) rfl))) (g := (mkF m 2 #[.val (.int p0), .val (.int p1), .val (.int p2), .val (.int p3), .val (.int p4), .unset, .unset, .unset, .unset, .unset, .unset, .unset, .unset, .unset, .unset, .unset, .unset, .unset, .unset, .unset] [(.int p0), (.int (1 : Int32))])) rfl (hb hby at_2) hr) ?_
  show Runs p e below _ (s₁.setTop (mkF m 4 #[.val (.int p0), .val (.int p1), .val (.int p2), .val (.int p3), .val (.int p4), .unset, .unset, .unset, .unset, .unset, .unset, .unset, .unset, .unset, .unset, .unset, .unset, .unset, .unset, .unset] [(.int (2147483647 : Int32)), (.int p0), (.int (1 : Int32))]))
  refine Runs.by (fun _ hr => XS.iand X0.here hx rfl (hb hby at_4) rfl hr) ?_
  show Runs p e below _ (s₁.setTop (mkF m 5 #[.val (.int p0), .val (.int p1), .val (.int p2), .val (.int p3), .val (.int p4), .unset, .unset, .unset, .unset, .unset, .unset, .unset, .unset, .unset, .unset, .unset, .unset, .unset, .unset, .unset] [(.int (p0 &&& (2147483647 : Int32))), (.int (1 : Int32))]))
  refine Runs.by (fun _ hr => XS.sipush X0.here hx rfl (hb hby at_5) hr) ?_
  show Runs p e below _ (s₁.setTop (mkF m 8 #[.val (.int p0), .val (.int p1), .val (.int p2), .val (.int p3), .val (.int p4), .unset, .unset, .unset, .unset, .unset, .unset, .unset, .unset, .unset, .unset, .unset, .unset, .unset, .unset, .unset] [(.int (2344 : Int32)), (.int (p0 &&& (2147483647 : Int32))), (.int (1 : Int32))]))
  refine Runs.by (fun _ hr => iremM X0 hx rfl (hb hby at_8) rfl (by decide) hr) ?_
  show Runs p e below _ (s₁.setTop (mkF m 9 #[.val (.int p0), .val (.int p1), .val (.int p2), .val (.int p3), .val (.int p4), .unset, .unset, .unset, .unset, .unset, .unset, .unset, .unset, .unset, .unset, .unset, .unset, .unset, .unset, .unset] [(.int ((p0 &&& (2147483647 : Int32)) % (2344 : Int32))), (.int (1 : Int32))]))
  refine Runs.by (fun _ hr => XS.iadd X0.here hx rfl (hb hby at_9) rfl hr) ?_
  show Runs p e below _ (s₁.setTop (mkF m 10 #[.val (.int p0), .val (.int p1), .val (.int p2), .val (.int p3), .val (.int p4), .unset, .unset, .unset, .unset, .unset, .unset, .unset, .unset, .unset, .unset, .unset, .unset, .unset, .unset, .unset] [(.int ((1 : Int32) + ((p0 &&& (2147483647 : Int32)) % (2344 : Int32))))]))
  refine Runs.by (fun _ hr => XS.istore X0.here hx rfl (hb hby at_10) rfl (l' := #[.val (.int p0), .val (.int p1), .val (.int p2), .val (.int p3), .val (.int p4), .val (.int ((1 : Int32) + ((p0 &&& (2147483647 : Int32)) % (2344 : Int32)))), .unset, .unset, .unset, .unset, .unset, .unset, .unset, .unset, .unset, .unset, .unset, .unset, .unset, .unset]) rfl hr) ?_
  have hnb := own_nn p0
  generalize ((1 : Int32) + ((p0 &&& (2147483647 : Int32)) % (2344 : Int32))) = nn at hnb ⊢
  obtain ⟨n, hn⟩ : ∃ n : Nat, nn.toInt = n := ⟨nn.toInt.toNat, by omega⟩
  have hbn : 1 ≤ n ∧ n ≤ 2344 := by omega
  have t0 : (0 : Int32).toInt = 0 := by decide
  have t1 : (1 : Int32).toInt = 1 := by decide
  have t2 : (2 : Int32).toInt = 2 := by decide
  have t3 : (3 : Int32).toInt = 3 := by decide
  have ht2 := own_c2_top hbn.2
  have ht3 := own_c3_top hbn.2
  have ez1 : (nn + (1 : Int32)).toInt = nn.toInt + 1 := (Jvm.Kit.i32_add (by omega) (by omega)).trans (by omega)
  have hz : (nn + (1 : Int32)).toInt = n + 1 := by omega
  have em1 : (nn - (1 : Int32)).toInt = nn.toInt - 1 := (Jvm.Kit.i32_sub (by omega) (by omega)).trans (by omega)
  have em2 : (nn - (2 : Int32)).toInt = nn.toInt - 2 := (Jvm.Kit.i32_sub (by omega) (by omega)).trans (by omega)
  show Runs p e below _ (s₁.setTop (mkF m 12 #[.val (.int p0), .val (.int p1), .val (.int p2), .val (.int p3), .val (.int p4), .val (.int nn), .unset, .unset, .unset, .unset, .unset, .unset, .unset, .unset, .unset, .unset, .unset, .unset, .unset, .unset] []))
  refine Runs.by (fun _ hr => XS.iloadN X0.here hx rfl (hb hby at_12) rfl  hr) ?_
  show Runs p e below _ (s₁.setTop (mkF m 13 #[.val (.int p0), .val (.int p1), .val (.int p2), .val (.int p3), .val (.int p4), .val (.int nn), .unset, .unset, .unset, .unset, .unset, .unset, .unset, .unset, .unset, .unset, .unset, .unset, .unset, .unset] [(.int p1)]))
  refine Runs.by (fun _ hr => X0.ldcI hx hown (mvT hZ (hw _ (List.mem_of_getElem? (i := 0) rfl))) (g := (mkF m 13 #[.val (.int p0), .val (.int p1), .val (.int p2), .val (.int p3), .val (.int p4), .val (.int nn), .unset, .unset, .unset, .unset, .unset, .unset, .unset, .unset, .unset, .unset, .unset, .unset, .unset, .unset] [(.int p1)])) rfl (hb hby at_13) hr) ?_
  show Runs p e below _ (s₁.setTop (mkF m 15 #[.val (.int p0), .val (.int p1), .val (.int p2), .val (.int p3), .val (.int p4), .val (.int nn), .unset, .unset, .unset, .unset, .unset, .unset, .unset, .unset, .unset, .unset, .unset, .unset, .unset, .unset] [(.int (2147483647 : Int32)), (.int p1)]))
  refine Runs.by (fun _ hr => XS.iand X0.here hx rfl (hb hby at_15) rfl hr) ?_
  show Runs p e below _ (s₁.setTop (mkF m 16 #[.val (.int p0), .val (.int p1), .val (.int p2), .val (.int p3), .val (.int p4), .val (.int nn), .unset, .unset, .unset, .unset, .unset, .unset, .unset, .unset, .unset, .unset, .unset, .unset, .unset, .unset] [(.int (p1 &&& (2147483647 : Int32)))]))
  refine Runs.by (fun _ hr => XS.iconst X0.here hx rfl (hb hby at_16) hr) ?_
  show Runs p e below _ (s₁.setTop (mkF m 17 #[.val (.int p0), .val (.int p1), .val (.int p2), .val (.int p3), .val (.int p4), .val (.int nn), .unset, .unset, .unset, .unset, .unset, .unset, .unset, .unset, .unset, .unset, .unset, .unset, .unset, .unset] [(.int (3 : Int32)), (.int (p1 &&& (2147483647 : Int32)))]))
  refine Runs.by (fun _ hr => iremM X0 hx rfl (hb hby at_17) rfl (by decide) hr) ?_
  show Runs p e below _ (s₁.setTop (mkF m 18 #[.val (.int p0), .val (.int p1), .val (.int p2), .val (.int p3), .val (.int p4), .val (.int nn), .unset, .unset, .unset, .unset, .unset, .unset, .unset, .unset, .unset, .unset, .unset, .unset, .unset, .unset] [(.int ((p1 &&& (2147483647 : Int32)) % (3 : Int32)))]))
  refine Runs.by (fun _ hr => XS.istore X0.here hx rfl (hb hby at_18) rfl (l' := #[.val (.int p0), .val (.int p1), .val (.int p2), .val (.int p3), .val (.int p4), .val (.int nn), .val (.int ((p1 &&& (2147483647 : Int32)) % (3 : Int32))), .unset, .unset, .unset, .unset, .unset, .unset, .unset, .unset, .unset, .unset, .unset, .unset, .unset]) rfl hr) ?_
  have hk := own_mod3 p1
  generalize (p1 &&& (2147483647 : Int32)) % (3 : Int32) = kk at hk ⊢
  rcases hk with rfl | rfl | rfl
  · skip
    show Runs p e below _ (s₁.setTop (mkF m 20 #[.val (.int p0), .val (.int p1), .val (.int p2), .val (.int p3), .val (.int p4), .val (.int nn), .val (.int (0 : Int32)), .unset, .unset, .unset, .unset, .unset, .unset, .unset, .unset, .unset, .unset, .unset, .unset, .unset] []))
    refine Runs.by (fun _ hr => XS.iload X0.here hx rfl (hb hby at_20) rfl  hr) ?_
    show Runs p e below _ (s₁.setTop (mkF m 22 #[.val (.int p0), .val (.int p1), .val (.int p2), .val (.int p3), .val (.int p4), .val (.int nn), .val (.int (0 : Int32)), .unset, .unset, .unset, .unset, .unset, .unset, .unset, .unset, .unset, .unset, .unset, .unset, .unset] [(.int (0 : Int32))]))
    refine Runs.by (fun _ hr => XS.iconst X0.here hx rfl (hb hby at_22) hr) ?_
    show Runs p e below _ (s₁.setTop (mkF m 23 #[.val (.int p0), .val (.int p1), .val (.int p2), .val (.int p3), .val (.int p4), .val (.int nn), .val (.int (0 : Int32)), .unset, .unset, .unset, .unset, .unset, .unset, .unset, .unset, .unset, .unset, .unset, .unset, .unset] [(.int (1 : Int32)), (.int (0 : Int32))]))
    have hc23 : ¬ ((0 : Int32) = (1 : Int32)) := (by decide)
    refine Runs.by (fun _ hr => XS.icmpYes X0.here hx rfl (pc0 := 23) (pc' := 34) rfl (hb hby at_23) rfl (feq hc23).2 (by decide) (by decide) hr) ?_
    show Runs p e below _ (s₁.setTop (mkF m 34 #[.val (.int p0), .val (.int p1), .val (.int p2), .val (.int p3), .val (.int p4), .val (.int nn), .val (.int (0 : Int32)), .unset, .unset, .unset, .unset, .unset, .unset, .unset, .unset, .unset, .unset, .unset, .unset, .unset] []))
    refine Runs.by (fun _ hr => XS.iload X0.here hx rfl (hb hby at_34) rfl  hr) ?_
    show Runs p e below _ (s₁.setTop (mkF m 36 #[.val (.int p0), .val (.int p1), .val (.int p2), .val (.int p3), .val (.int p4), .val (.int nn), .val (.int (0 : Int32)), .unset, .unset, .unset, .unset, .unset, .unset, .unset, .unset, .unset, .unset, .unset, .unset, .unset] [(.int (0 : Int32))]))
    refine Runs.by (fun _ hr => XS.iconst X0.here hx rfl (hb hby at_36) hr) ?_
    show Runs p e below _ (s₁.setTop (mkF m 37 #[.val (.int p0), .val (.int p1), .val (.int p2), .val (.int p3), .val (.int p4), .val (.int nn), .val (.int (0 : Int32)), .unset, .unset, .unset, .unset, .unset, .unset, .unset, .unset, .unset, .unset, .unset, .unset, .unset] [(.int (2 : Int32)), (.int (0 : Int32))]))
    have hc37 : ¬ ((0 : Int32) = (2 : Int32)) := (by decide)
    refine Runs.by (fun _ hr => XS.icmpYes X0.here hx rfl (pc0 := 37) (pc' := 48) rfl (hb hby at_37) rfl (feq hc37).2 (by decide) (by decide) hr) ?_
    show Runs p e below _ (s₁.setTop (mkF m 48 #[.val (.int p0), .val (.int p1), .val (.int p2), .val (.int p3), .val (.int p4), .val (.int nn), .val (.int (0 : Int32)), .unset, .unset, .unset, .unset, .unset, .unset, .unset, .unset, .unset, .unset, .unset, .unset, .unset] []))
    refine Runs.by (fun _ hr => XS.iconst X0.here hx rfl (hb hby at_48) hr) ?_
    show Runs p e below _ (s₁.setTop (mkF m 49 #[.val (.int p0), .val (.int p1), .val (.int p2), .val (.int p3), .val (.int p4), .val (.int nn), .val (.int (0 : Int32)), .unset, .unset, .unset, .unset, .unset, .unset, .unset, .unset, .unset, .unset, .unset, .unset, .unset] [(.int (0 : Int32))]))
    refine Runs.by (fun _ hr => XS.istore X0.here hx rfl (hb hby at_49) rfl (l' := #[.val (.int p0), .val (.int p1), .val (.int p2), .val (.int p3), .val (.int p4), .val (.int nn), .val (.int (0 : Int32)), .unset, .val (.int (0 : Int32)), .unset, .unset, .unset, .unset, .unset, .unset, .unset, .unset, .unset, .unset, .unset]) rfl hr) ?_
    show Runs p e below _ (s₁.setTop (mkF m 51 #[.val (.int p0), .val (.int p1), .val (.int p2), .val (.int p3), .val (.int p4), .val (.int nn), .val (.int (0 : Int32)), .unset, .val (.int (0 : Int32)), .unset, .unset, .unset, .unset, .unset, .unset, .unset, .unset, .unset, .unset, .unset] []))
    refine Runs.by (fun _ hr => XS.iconst X0.here hx rfl (hb hby at_51) hr) ?_
    show Runs p e below _ (s₁.setTop (mkF m 52 #[.val (.int p0), .val (.int p1), .val (.int p2), .val (.int p3), .val (.int p4), .val (.int nn), .val (.int (0 : Int32)), .unset, .val (.int (0 : Int32)), .unset, .unset, .unset, .unset, .unset, .unset, .unset, .unset, .unset, .unset, .unset] [(.int (0 : Int32))]))
    refine Runs.by (fun _ hr => XS.istore X0.here hx rfl (hb hby at_52) rfl (l' := #[.val (.int p0), .val (.int p1), .val (.int p2), .val (.int p3), .val (.int p4), .val (.int nn), .val (.int (0 : Int32)), .unset, .val (.int (0 : Int32)), .val (.int (0 : Int32)), .unset, .unset, .unset, .unset, .unset, .unset, .unset, .unset, .unset, .unset]) rfl hr) ?_
    show Runs p e below _ (s₁.setTop (mkF m 54 #[.val (.int p0), .val (.int p1), .val (.int p2), .val (.int p3), .val (.int p4), .val (.int nn), .val (.int (0 : Int32)), .unset, .val (.int (0 : Int32)), .val (.int (0 : Int32)), .unset, .unset, .unset, .unset, .unset, .unset, .unset, .unset, .unset, .unset] []))
    refine Runs.by (fun _ hr => XS.iload X0.here hx rfl (hb hby at_54) rfl  hr) ?_
    show Runs p e below _ (s₁.setTop (mkF m 56 #[.val (.int p0), .val (.int p1), .val (.int p2), .val (.int p3), .val (.int p4), .val (.int nn), .val (.int (0 : Int32)), .unset, .val (.int (0 : Int32)), .val (.int (0 : Int32)), .unset, .unset, .unset, .unset, .unset, .unset, .unset, .unset, .unset, .unset] [(.int nn)]))
    refine Runs.by (fun _ hr => XS.i2l X0.here hx rfl (hb hby at_56) rfl hr) ?_
    show Runs p e below _ (s₁.setTop (mkF m 57 #[.val (.int p0), .val (.int p1), .val (.int p2), .val (.int p3), .val (.int p4), .val (.int nn), .val (.int (0 : Int32)), .unset, .val (.int (0 : Int32)), .val (.int (0 : Int32)), .unset, .unset, .unset, .unset, .unset, .unset, .unset, .unset, .unset, .unset] [(.long (nn.toInt64))]))
    refine Runs.by (fun _ hr => XS.lstore X0.here hx rfl (hb hby at_57) rfl (l' := #[.val (.int p0), .val (.int p1), .val (.int p2), .val (.int p3), .val (.int p4), .val (.int nn), .val (.int (0 : Int32)), .unset, .val (.int (0 : Int32)), .val (.int (0 : Int32)), .unset, .unset, .val (.long (nn.toInt64)), .second, .unset, .unset, .unset, .unset, .unset, .unset]) rfl hr) ?_
    show Runs p e below _ (s₁.setTop (mkF m 59 #[.val (.int p0), .val (.int p1), .val (.int p2), .val (.int p3), .val (.int p4), .val (.int nn), .val (.int (0 : Int32)), .unset, .val (.int (0 : Int32)), .val (.int (0 : Int32)), .unset, .unset, .val (.long (nn.toInt64)), .second, .unset, .unset, .unset, .unset, .unset, .unset] []))
    refine Runs.by (fun _ hr => XS.iload X0.here hx rfl (hb hby at_59) rfl  hr) ?_
    show Runs p e below _ (s₁.setTop (mkF m 61 #[.val (.int p0), .val (.int p1), .val (.int p2), .val (.int p3), .val (.int p4), .val (.int nn), .val (.int (0 : Int32)), .unset, .val (.int (0 : Int32)), .val (.int (0 : Int32)), .unset, .unset, .val (.long (nn.toInt64)), .second, .unset, .unset, .unset, .unset, .unset, .unset] [(.int (0 : Int32))]))
    have hc61 : (0 : Int32) = (0 : Int32) := (by decide)
    refine Runs.by (fun _ hr => XS.ifNo X0.here hx rfl (hb hby at_61) rfl ((if0 _ _).trans (teq hc61).2) hr) ?_
    show Runs p e below _ (s₁.setTop (mkF m 64 #[.val (.int p0), .val (.int p1), .val (.int p2), .val (.int p3), .val (.int p4), .val (.int nn), .val (.int (0 : Int32)), .unset, .val (.int (0 : Int32)), .val (.int (0 : Int32)), .unset, .unset, .val (.long (nn.toInt64)), .second, .unset, .unset, .unset, .unset, .unset, .unset] []))
    refine Runs.by (fun _ hr => XS.iloadN X0.here hx rfl (hb hby at_64) rfl  hr) ?_
    show Runs p e below _ (s₁.setTop (mkF m 65 #[.val (.int p0), .val (.int p1), .val (.int p2), .val (.int p3), .val (.int p4), .val (.int nn), .val (.int (0 : Int32)), .unset, .val (.int (0 : Int32)), .val (.int (0 : Int32)), .unset, .unset, .val (.long (nn.toInt64)), .second, .unset, .unset, .unset, .unset, .unset, .unset] [(.int p2)]))
    refine Runs.by (fun _ hr => X0.ldcI hx hown (mvT hZ (hw _ (List.mem_of_getElem? (i := 0) rfl))) (g := (mkF m 65 #[.val (.int p0), .val (.int p1), .val (.int p2), .val (.int p3), .val (.int p4), .val (.int nn), .val (.int (0 : Int32)), .unset, .val (.int (0 : Int32)), .val (.int (0 : Int32)), .unset, .unset, .val (.long (nn.toInt64)), .second, .unset, .unset, .unset, .unset, .unset, .unset] [(.int p2)])) rfl (hb hby at_65) hr) ?_
    show Runs p e below _ (s₁.setTop (mkF m 67 #[.val (.int p0), .val (.int p1), .val (.int p2), .val (.int p3), .val (.int p4), .val (.int nn), .val (.int (0 : Int32)), .unset, .val (.int (0 : Int32)), .val (.int (0 : Int32)), .unset, .unset, .val (.long (nn.toInt64)), .second, .unset, .unset, .unset, .unset, .unset, .unset] [(.int (2147483647 : Int32)), (.int p2)]))
    refine Runs.by (fun _ hr => XS.iand X0.here hx rfl (hb hby at_67) rfl hr) ?_
    show Runs p e below _ (s₁.setTop (mkF m 68 #[.val (.int p0), .val (.int p1), .val (.int p2), .val (.int p3), .val (.int p4), .val (.int nn), .val (.int (0 : Int32)), .unset, .val (.int (0 : Int32)), .val (.int (0 : Int32)), .unset, .unset, .val (.long (nn.toInt64)), .second, .unset, .unset, .unset, .unset, .unset, .unset] [(.int (p2 &&& (2147483647 : Int32)))]))
    refine Runs.by (fun _ hr => XS.iload X0.here hx rfl (hb hby at_68) rfl  hr) ?_
    show Runs p e below _ (s₁.setTop (mkF m 70 #[.val (.int p0), .val (.int p1), .val (.int p2), .val (.int p3), .val (.int p4), .val (.int nn), .val (.int (0 : Int32)), .unset, .val (.int (0 : Int32)), .val (.int (0 : Int32)), .unset, .unset, .val (.long (nn.toInt64)), .second, .unset, .unset, .unset, .unset, .unset, .unset] [(.int nn), (.int (p2 &&& (2147483647 : Int32)))]))
    refine Runs.by (fun _ hr => iremM X0 hx rfl (hb hby at_70) rfl (own_ne0 (by omega)) hr) ?_
    show Runs p e below _ (s₁.setTop (mkF m 71 #[.val (.int p0), .val (.int p1), .val (.int p2), .val (.int p3), .val (.int p4), .val (.int nn), .val (.int (0 : Int32)), .unset, .val (.int (0 : Int32)), .val (.int (0 : Int32)), .unset, .unset, .val (.long (nn.toInt64)), .second, .unset, .unset, .unset, .unset, .unset, .unset] [(.int ((p2 &&& (2147483647 : Int32)) % nn))]))
    refine Runs.by (fun _ hr => XS.istore X0.here hx rfl (hb hby at_71) rfl (l' := #[.val (.int p0), .val (.int p1), .val (.int p2), .val (.int p3), .val (.int p4), .val (.int nn), .val (.int (0 : Int32)), .val (.int ((p2 &&& (2147483647 : Int32)) % nn)), .val (.int (0 : Int32)), .val (.int (0 : Int32)), .unset, .unset, .val (.long (nn.toInt64)), .second, .unset, .unset, .unset, .unset, .unset, .unset]) rfl hr) ?_
    have hii := own_rm p2 (m := nn) (by omega)
    generalize ((p2 &&& (2147483647 : Int32)) % nn) = ii at hii ⊢
    obtain ⟨I, eii⟩ : ∃ I : Nat, ii.toInt = I := ⟨ii.toInt.toNat, by omega⟩
    show Runs p e below _ (s₁.setTop (mkF m 73 #[.val (.int p0), .val (.int p1), .val (.int p2), .val (.int p3), .val (.int p4), .val (.int nn), .val (.int (0 : Int32)), .val (.int ii), .val (.int (0 : Int32)), .val (.int (0 : Int32)), .unset, .unset, .val (.long (nn.toInt64)), .second, .unset, .unset, .unset, .unset, .unset, .unset] []))
    refine Runs.by (fun _ hr => XS.iload X0.here hx rfl (hb hby at_73) rfl  hr) ?_
    show Runs p e below _ (s₁.setTop (mkF m 75 #[.val (.int p0), .val (.int p1), .val (.int p2), .val (.int p3), .val (.int p4), .val (.int nn), .val (.int (0 : Int32)), .val (.int ii), .val (.int (0 : Int32)), .val (.int (0 : Int32)), .unset, .unset, .val (.long (nn.toInt64)), .second, .unset, .unset, .unset, .unset, .unset, .unset] [(.int ii)]))
    refine Runs.by (fun _ hr => XS.i2l X0.here hx rfl (hb hby at_75) rfl hr) ?_
    show Runs p e below _ (s₁.setTop (mkF m 76 #[.val (.int p0), .val (.int p1), .val (.int p2), .val (.int p3), .val (.int p4), .val (.int nn), .val (.int (0 : Int32)), .val (.int ii), .val (.int (0 : Int32)), .val (.int (0 : Int32)), .unset, .unset, .val (.long (nn.toInt64)), .second, .unset, .unset, .unset, .unset, .unset, .unset] [(.long (ii.toInt64))]))
    refine Runs.by (fun _ hr => XS.lstore X0.here hx rfl (hb hby at_76) rfl (l' := #[.val (.int p0), .val (.int p1), .val (.int p2), .val (.int p3), .val (.int p4), .val (.int nn), .val (.int (0 : Int32)), .val (.int ii), .val (.int (0 : Int32)), .val (.int (0 : Int32)), .val (.long (ii.toInt64)), .second, .val (.long (nn.toInt64)), .second, .unset, .unset, .unset, .unset, .unset, .unset]) rfl hr) ?_
    show Runs p e below _ (s₁.setTop (mkF m 78 #[.val (.int p0), .val (.int p1), .val (.int p2), .val (.int p3), .val (.int p4), .val (.int nn), .val (.int (0 : Int32)), .val (.int ii), .val (.int (0 : Int32)), .val (.int (0 : Int32)), .val (.long (ii.toInt64)), .second, .val (.long (nn.toInt64)), .second, .unset, .unset, .unset, .unset, .unset, .unset] []))
    refine Runs.by (fun _ hr => XS.goto X0.here hx rfl (pc0 := 78) (pc' := 278) rfl (hb hby at_78) (by decide) (by decide) hr) ?_
    have hnum : (ii.toInt64) = own_L I := own_wide eii
    show Runs p e below _ (s₁.setTop (mkF m 278 #[.val (.int p0), .val (.int p1), .val (.int p2), .val (.int p3), .val (.int p4), .val (.int nn), .val (.int (0 : Int32)), .val (.int ii), .val (.int (0 : Int32)), .val (.int (0 : Int32)), .val (.long (ii.toInt64)), .second, .val (.long (nn.toInt64)), .second, .unset, .unset, .unset, .unset, .unset, .unset] []))
    rw [hnum]
    have hN : I < 2 ^ 31 := by omega
    show Runs p e below _ (s₁.setTop (mkF m 278 #[.val (.int p0), .val (.int p1), .val (.int p2), .val (.int p3), .val (.int p4), .val (.int nn), .val (.int (0 : Int32)), .val (.int ii), .val (.int (0 : Int32)), .val (.int (0 : Int32)), .val (.long (own_L I)), .second, .val (.long (nn.toInt64)), .second, .unset, .unset, .unset, .unset, .unset, .unset] []))
    obtain ⟨T1, h1, X1, e1, E1, A1, D1, -, st1⟩ := newO X0 hx hZ hown (hw _ (List.mem_of_getElem? (i := 1) rfl)) (hw _ (List.mem_of_getElem? (i := 2) rfl)) (hw _ (List.mem_of_getElem? (i := 3) rfl)) e0 (g := (mkF m 278 #[.val (.int p0), .val (.int p1), .val (.int p2), .val (.int p3), .val (.int p4), .val (.int nn), .val (.int (0 : Int32)), .val (.int ii), .val (.int (0 : Int32)), .val (.int (0 : Int32)), .val (.long (own_L I)), .second, .val (.long (nn.toInt64)), .second, .unset, .unset, .unset, .unset, .unset, .unset] [])) rfl (hb hby at_278) (by decide) (by decide)
    obtain ⟨b1, gz1⟩ : ∃ z, z = h0.size := ⟨_, rfl⟩
    rw [← gz1] at A1 D1 st1
    have g_b1 : n0 ≤ b1 := Nat.le_trans (Nat.le_trans Z0 K0.1) (Nat.le_of_eq gz1.symm)
    have sz_b1 : h0.size ≤ b1 := Nat.le_trans K0.1 (Nat.le_of_eq gz1.symm)
    have K2 : Keep h0 h1 [] := K0.ext E1
    have F_keywords_b1 : Fld Z h1 b1 "com/example/fapre/fapre/KeywordSets" "keywords" "I" (.int (0 : Int32)) := D1 (Or.inr (hw _ (List.mem_of_getElem? (i := 11) rfl))) (ty := .int) (by decide)
    have F_pairStarts_b1 : Fld Z h1 b1 "com/example/fapre/fapre/KeywordSets" "pairStarts" "[J" .null := D1 (Or.inr (hw _ (List.mem_of_getElem? (i := 14) rfl))) (ty := (.array .long)) (by decide)
    have F_tripleStarts_b1 : Fld Z h1 b1 "com/example/fapre/fapre/KeywordSets" "tripleStarts" "[J" .null := D1 (Or.inr (hw _ (List.mem_of_getElem? (i := 16) rfl))) (ty := (.array .long)) (by decide)
    have F_pairs_b1 : Fld Z h1 b1 "com/example/fapre/fapre/KeywordSets" "pairs" "J" (.long (0 : Int64)) := D1 (Or.inr (hw _ (List.mem_of_getElem? (i := 19) rfl))) (ty := .long) (by decide)
    have F_size_b1 : Fld Z h1 b1 "com/example/fapre/fapre/KeywordSets" "size" "I" (.int (0 : Int32)) := D1 (Or.inr (hw _ (List.mem_of_getElem? (i := 22) rfl))) (ty := .int) (by decide)
    refine Runs.by st1 ?_
    show Runs p e below _ (T1.setTop (mkF m 281 #[.val (.int p0), .val (.int p1), .val (.int p2), .val (.int p3), .val (.int p4), .val (.int nn), .val (.int (0 : Int32)), .val (.int ii), .val (.int (0 : Int32)), .val (.int (0 : Int32)), .val (.long (own_L I)), .second, .val (.long (nn.toInt64)), .second, .unset, .unset, .unset, .unset, .unset, .unset] [(.ref b1)]))
    refine Runs.by (fun _ hr => XS.dup X1.here hx rfl (hb hby at_281) rfl rfl hr) ?_
    show Runs p e below _ (T1.setTop (mkF m 282 #[.val (.int p0), .val (.int p1), .val (.int p2), .val (.int p3), .val (.int p4), .val (.int nn), .val (.int (0 : Int32)), .val (.int ii), .val (.int (0 : Int32)), .val (.int (0 : Int32)), .val (.long (own_L I)), .second, .val (.long (nn.toInt64)), .second, .unset, .unset, .unset, .unset, .unset, .unset] [(.ref b1), (.ref b1)]))
    refine Runs.by (fun _ hr => XS.iload X1.here hx rfl (hb hby at_282) rfl  hr) ?_
    show Runs p e below _ (T1.setTop (mkF m 284 #[.val (.int p0), .val (.int p1), .val (.int p2), .val (.int p3), .val (.int p4), .val (.int nn), .val (.int (0 : Int32)), .val (.int ii), .val (.int (0 : Int32)), .val (.int (0 : Int32)), .val (.long (own_L I)), .second, .val (.long (nn.toInt64)), .second, .unset, .unset, .unset, .unset, .unset, .unset] [(.int nn), (.ref b1), (.ref b1)]))
    obtain ⟨_, _, ⟨T3, L3, k3, n3⟩, -, X3, ⟨Lc3, hQ3, l3, y3, z3⟩, st3⟩ := X1.specialBack hx (y := (⟨"com/example/fapre/fapre/KeywordSets", "<init>", "(I)V"⟩ : MethodName)) rfl hown (mvT hZ (hw _ (List.mem_of_getElem? (i := 4) rfl))) (mvT hZ (hw _ (List.mem_of_getElem? (i := 5) rfl))) (mvT hZ (hw _ (List.mem_of_getElem? (i := 6) rfl))) (by decide) (backOf (W := 1) (rm1 l Z a0 hw [] b1 nn n h1 n0 (Nat.le_trans Z0 K2.1) A1 F_keywords_b1 F_pairs_b1 F_size_b1 F_pairStarts_b1 F_tripleStarts_b1 g_b1 hn hbn) hZ (hw _ (List.mem_of_getElem? (i := 6) rfl)) (hw _ (List.mem_of_getElem? (i := 3) rfl)) (by decide) (by decide)) (g := (mkF m 284 #[.val (.int p0), .val (.int p1), .val (.int p2), .val (.int p3), .val (.int p4), .val (.int nn), .val (.int (0 : Int32)), .val (.int ii), .val (.int (0 : Int32)), .val (.int (0 : Int32)), .val (.long (own_L I)), .second, .val (.long (nn.toInt64)), .second, .unset, .unset, .unset, .unset, .unset, .unset] [(.int nn), (.ref b1), (.ref b1)])) rfl (by rw [hml]; rfl) (Steps.refl _) (a := b1) (argsL := [(.int nn)]) (rest := [(.ref b1)]) (lenOf pd_2 rfl) rfl (by show 2 * 0 + _ ≤ _; exact Nat.le_of_eq rfl) (hb hby at_284) (fun _ _ => ⟨rfl, e1, (by decide : 1 + 2 ≤ _), (by decide : 5 + 4690 ≤ _)⟩)
    dsimp only [Pt.U, Pt.locs, Pt.cells, Pt.slots] at X3 l3 y3 z3 st3 hQ3
    subst l3 y3 z3
    obtain ⟨rfl, Nq3, Kq3, f3_0, f3_1, f3_2, f3_3, y3, ky3, g_y3, szq_y3, f3_4, f3_5, u3, ku3, g_u3, szq_u3, f3_6, f3_7⟩ := hQ3
    have N3 := Fr.app N0 Nq3
    have ne_b1_y3 : b1 ≠ y3 := Nat.ne_of_lt (Nat.lt_of_lt_of_le A1.lt szq_y3)
    have sz_y3 : h0.size ≤ y3 := Nat.le_trans K2.1 szq_y3
    have ne_b1_u3 : b1 ≠ u3 := Nat.ne_of_lt (Nat.lt_of_lt_of_le A1.lt szq_u3)
    have sz_u3 : h0.size ≤ u3 := Nat.le_trans K2.1 szq_u3
    have K4 : Keep h0 T3.heap [] := Keep.trans (ws := []) K2 Kq3 (allS (Or.inr sz_b1) all0)
    refine Runs.by (fun _ hr => st3.trans hr) ?_
    show Runs p e below _ (T3.setTop (mkF m 287 #[.val (.int p0), .val (.int p1), .val (.int p2), .val (.int p3), .val (.int p4), .val (.int nn), .val (.int (0 : Int32)), .val (.int ii), .val (.int (0 : Int32)), .val (.int (0 : Int32)), .val (.long (own_L I)), .second, .val (.long (nn.toInt64)), .second, .unset, .unset, .unset, .unset, .unset, .unset] [(.ref b1)]))
    refine Runs.by (fun _ hr => XS.astore X3.here hx rfl (hb hby at_287) rfl rfl (l' := #[.val (.int p0), .val (.int p1), .val (.int p2), .val (.int p3), .val (.int p4), .val (.int nn), .val (.int (0 : Int32)), .val (.int ii), .val (.int (0 : Int32)), .val (.int (0 : Int32)), .val (.long (own_L I)), .second, .val (.long (nn.toInt64)), .second, .val (.ref b1), .unset, .unset, .unset, .unset, .unset]) rfl hr) ?_
    show Runs p e below _ (T3.setTop (mkF m 289 #[.val (.int p0), .val (.int p1), .val (.int p2), .val (.int p3), .val (.int p4), .val (.int nn), .val (.int (0 : Int32)), .val (.int ii), .val (.int (0 : Int32)), .val (.int (0 : Int32)), .val (.long (own_L I)), .second, .val (.long (nn.toInt64)), .second, .val (.ref b1), .unset, .unset, .unset, .unset, .unset] []))
    refine Runs.by (fun _ hr => XS.lload X3.here hx rfl (hb hby at_289) rfl  hr) ?_
    show Runs p e below _ (T3.setTop (mkF m 291 #[.val (.int p0), .val (.int p1), .val (.int p2), .val (.int p3), .val (.int p4), .val (.int nn), .val (.int (0 : Int32)), .val (.int ii), .val (.int (0 : Int32)), .val (.int (0 : Int32)), .val (.long (own_L I)), .second, .val (.long (nn.toInt64)), .second, .val (.ref b1), .unset, .unset, .unset, .unset, .unset] [(.long (nn.toInt64))]))
    refine Runs.by (fun _ hr => XS.lload X3.here hx rfl (hb hby at_291) rfl  hr) ?_
    show Runs p e below _ (T3.setTop (mkF m 293 #[.val (.int p0), .val (.int p1), .val (.int p2), .val (.int p3), .val (.int p4), .val (.int nn), .val (.int (0 : Int32)), .val (.int ii), .val (.int (0 : Int32)), .val (.int (0 : Int32)), .val (.long (own_L I)), .second, .val (.long (nn.toInt64)), .second, .val (.ref b1), .unset, .unset, .unset, .unset, .unset] [(.long (nn.toInt64)), (.long (nn.toInt64))]))
    obtain ⟨_, _, ⟨T5, L5, k5, n5⟩, -, X5, ⟨Lc5, hQ5, l5, y5, z5⟩, st5⟩ := Jvm.LawKit.callS X3 hx (y := (⟨"com/example/fapre/fapre/KeywordSetsPlacesPinLaw", "c2", "(J)J"⟩ : MethodName)) hown (mvT hZ (hw _ (List.mem_of_getElem? (i := 23) rfl))) (mvT hZ (hw _ (List.mem_of_getElem? (i := 24) rfl))) (mvT hZ (hw _ (List.mem_of_getElem? (i := 25) rfl))) (mvT hZ (hw _ (List.mem_of_getElem? (i := 26) rfl))) (by decide) (backOf (W := 2) (rm3 l Z a0 hw [] (nn.toInt64)  T3.heap n0 (Nat.le_trans Z0 K4.1) ) hZ (hw _ (List.mem_of_getElem? (i := 26) rfl)) (hw _ (List.mem_of_getElem? (i := 25) rfl)) (by decide) (by decide)) (g := (mkF m 293 #[.val (.int p0), .val (.int p1), .val (.int p2), .val (.int p3), .val (.int p4), .val (.int nn), .val (.int (0 : Int32)), .val (.int ii), .val (.int (0 : Int32)), .val (.int (0 : Int32)), .val (.long (own_L I)), .second, .val (.long (nn.toInt64)), .second, .val (.ref b1), .unset, .unset, .unset, .unset, .unset] [(.long (nn.toInt64)), (.long (nn.toInt64))])) rfl (by rw [hml]; rfl) (argsL := [(.long (nn.toInt64))]) (rest := [(.long (nn.toInt64))]) (lenOf pd_3 rfl) rfl (by show 2 * 0 + _ ≤ _; exact Nat.le_of_eq rfl) (hb hby at_293) (fun _ _ => ⟨rfl, rfl, (by decide : 3 + 0 ≤ _), (by decide : 4695 + 0 ≤ _)⟩)
    dsimp only [Pt.U, Pt.locs, Pt.cells, Pt.slots] at X5 l5 y5 z5 st5 hQ5
    subst l5 y5 z5
    obtain ⟨rfl, Nq5, eq5⟩ := hQ5
    have N5 := Fr.app N3 Nq5
    refine Runs.by (fun t hr => st5 t hr) ?_
    show Runs p e below _ (T5.setTop (mkF m 296 #[.val (.int p0), .val (.int p1), .val (.int p2), .val (.int p3), .val (.int p4), .val (.int nn), .val (.int (0 : Int32)), .val (.int ii), .val (.int (0 : Int32)), .val (.int (0 : Int32)), .val (.long (own_L I)), .second, .val (.long (nn.toInt64)), .second, .val (.ref b1), .unset, .unset, .unset, .unset, .unset] [(.long (own_c2J (nn.toInt64))), (.long (nn.toInt64))]))
    refine Runs.by (fun _ hr => XS.ladd X5.here hx rfl (hb hby at_296) rfl hr) ?_
    show Runs p e below _ (T5.setTop (mkF m 297 #[.val (.int p0), .val (.int p1), .val (.int p2), .val (.int p3), .val (.int p4), .val (.int nn), .val (.int (0 : Int32)), .val (.int ii), .val (.int (0 : Int32)), .val (.int (0 : Int32)), .val (.long (own_L I)), .second, .val (.long (nn.toInt64)), .second, .val (.ref b1), .unset, .unset, .unset, .unset, .unset] [(.long ((nn.toInt64) + (own_c2J (nn.toInt64))))]))
    refine Runs.by (fun _ hr => XS.lload X5.here hx rfl (hb hby at_297) rfl  hr) ?_
    show Runs p e below _ (T5.setTop (mkF m 299 #[.val (.int p0), .val (.int p1), .val (.int p2), .val (.int p3), .val (.int p4), .val (.int nn), .val (.int (0 : Int32)), .val (.int ii), .val (.int (0 : Int32)), .val (.int (0 : Int32)), .val (.long (own_L I)), .second, .val (.long (nn.toInt64)), .second, .val (.ref b1), .unset, .unset, .unset, .unset, .unset] [(.long (nn.toInt64)), (.long ((nn.toInt64) + (own_c2J (nn.toInt64))))]))
    obtain ⟨_, _, ⟨T6, L6, k6, n6⟩, -, X6, ⟨Lc6, hQ6, l6, y6, z6⟩, st6⟩ := Jvm.LawKit.callS X5 hx (y := (⟨"com/example/fapre/fapre/KeywordSetsPlacesPinLaw", "c3", "(J)J"⟩ : MethodName)) hown (mvT hZ (hw _ (List.mem_of_getElem? (i := 28) rfl))) (mvT hZ (hw _ (List.mem_of_getElem? (i := 29) rfl))) (mvT hZ (hw _ (List.mem_of_getElem? (i := 25) rfl))) (mvT hZ (hw _ (List.mem_of_getElem? (i := 30) rfl))) (by decide) (backOf (W := 2) (rm4 l Z a0 hw [] (nn.toInt64)  T3.heap n0 (Nat.le_trans Z0 K4.1) ) hZ (hw _ (List.mem_of_getElem? (i := 30) rfl)) (hw _ (List.mem_of_getElem? (i := 25) rfl)) (by decide) (by decide)) (g := (mkF m 299 #[.val (.int p0), .val (.int p1), .val (.int p2), .val (.int p3), .val (.int p4), .val (.int nn), .val (.int (0 : Int32)), .val (.int ii), .val (.int (0 : Int32)), .val (.int (0 : Int32)), .val (.long (own_L I)), .second, .val (.long (nn.toInt64)), .second, .val (.ref b1), .unset, .unset, .unset, .unset, .unset] [(.long (nn.toInt64)), (.long ((nn.toInt64) + (own_c2J (nn.toInt64))))])) rfl (by rw [hml]; rfl) (argsL := [(.long (nn.toInt64))]) (rest := [(.long ((nn.toInt64) + (own_c2J (nn.toInt64))))]) (lenOf pd_3 rfl) rfl (by show 2 * 0 + _ ≤ _; exact Nat.le_of_eq rfl) (hb hby at_299) (fun _ _ => ⟨rfl, eq5, (by decide : 3 + 0 ≤ _), (by decide : 4695 + 0 ≤ _)⟩)
    dsimp only [Pt.U, Pt.locs, Pt.cells, Pt.slots] at X6 l6 y6 z6 st6 hQ6
    subst l6 y6 z6
    obtain ⟨rfl, Nq6, eq6⟩ := hQ6
    have N6 := Fr.app N5 Nq6
    refine Runs.by (fun t hr => st6 t hr) ?_
    show Runs p e below _ (T6.setTop (mkF m 302 #[.val (.int p0), .val (.int p1), .val (.int p2), .val (.int p3), .val (.int p4), .val (.int nn), .val (.int (0 : Int32)), .val (.int ii), .val (.int (0 : Int32)), .val (.int (0 : Int32)), .val (.long (own_L I)), .second, .val (.long (nn.toInt64)), .second, .val (.ref b1), .unset, .unset, .unset, .unset, .unset] [(.long (own_c3J (nn.toInt64))), (.long ((nn.toInt64) + (own_c2J (nn.toInt64))))]))
    refine Runs.by (fun _ hr => XS.ladd X6.here hx rfl (hb hby at_302) rfl hr) ?_
    show Runs p e below _ (T6.setTop (mkF m 303 #[.val (.int p0), .val (.int p1), .val (.int p2), .val (.int p3), .val (.int p4), .val (.int nn), .val (.int (0 : Int32)), .val (.int ii), .val (.int (0 : Int32)), .val (.int (0 : Int32)), .val (.long (own_L I)), .second, .val (.long (nn.toInt64)), .second, .val (.ref b1), .unset, .unset, .unset, .unset, .unset] [(.long (((nn.toInt64) + (own_c2J (nn.toInt64))) + (own_c3J (nn.toInt64))))]))
    refine Runs.by (fun _ hr => XS.lstore X6.here hx rfl (hb hby at_303) rfl (l' := #[.val (.int p0), .val (.int p1), .val (.int p2), .val (.int p3), .val (.int p4), .val (.int nn), .val (.int (0 : Int32)), .val (.int ii), .val (.int (0 : Int32)), .val (.int (0 : Int32)), .val (.long (own_L I)), .second, .val (.long (nn.toInt64)), .second, .val (.ref b1), .val (.long (((nn.toInt64) + (own_c2J (nn.toInt64))) + (own_c3J (nn.toInt64)))), .second, .unset, .unset, .unset]) rfl hr) ?_
    have hexp : (((nn.toInt64) + (own_c2J (nn.toInt64))) + (own_c3J (nn.toInt64))) = own_L (n + own_c2 n + own_c3 n) := by rw [own_wide hn, own_c2J_eq (by omega), own_c3J_eq (by omega), own_Ladd (by omega), own_Ladd (by omega)]
    show Runs p e below _ (T6.setTop (mkF m 305 #[.val (.int p0), .val (.int p1), .val (.int p2), .val (.int p3), .val (.int p4), .val (.int nn), .val (.int (0 : Int32)), .val (.int ii), .val (.int (0 : Int32)), .val (.int (0 : Int32)), .val (.long (own_L I)), .second, .val (.long (nn.toInt64)), .second, .val (.ref b1), .val (.long (((nn.toInt64) + (own_c2J (nn.toInt64))) + (own_c3J (nn.toInt64)))), .second, .unset, .unset, .unset] []))
    rw [hexp]
    show Runs p e below _ (T6.setTop (mkF m 305 #[.val (.int p0), .val (.int p1), .val (.int p2), .val (.int p3), .val (.int p4), .val (.int nn), .val (.int (0 : Int32)), .val (.int ii), .val (.int (0 : Int32)), .val (.int (0 : Int32)), .val (.long (own_L I)), .second, .val (.long (nn.toInt64)), .second, .val (.ref b1), .val (.long (own_L (n + own_c2 n + own_c3 n))), .second, .unset, .unset, .unset] []))
    refine Runs.by (fun _ hr => XS.aload X6.here hx rfl (hb hby at_305) rfl rfl hr) ?_
    show Runs p e below _ (T6.setTop (mkF m 307 #[.val (.int p0), .val (.int p1), .val (.int p2), .val (.int p3), .val (.int p4), .val (.int nn), .val (.int (0 : Int32)), .val (.int ii), .val (.int (0 : Int32)), .val (.int (0 : Int32)), .val (.long (own_L I)), .second, .val (.long (nn.toInt64)), .second, .val (.ref b1), .val (.long (own_L (n + own_c2 n + own_c3 n))), .second, .unset, .unset, .unset] [(.ref b1)]))
    obtain ⟨cq7, kq7, q7a, q7b, q7c⟩ := isOf hZ eq6 f3_0
    obtain ⟨_, _, ⟨T7, L7, k7, n7⟩, -, X7, ⟨Lc7, hQ7, l7, y7, z7⟩, st7⟩ := X6.virtualBack hx (y := (⟨"com/example/fapre/fapre/KeywordSets", "size", "()I"⟩ : MethodName)) (z := (⟨"com/example/fapre/fapre/KeywordSets", "size", "()I"⟩ : MethodName)) hown (mvT hZ (hw _ (List.mem_of_getElem? (i := 32) rfl))) (mvT hZ (hw _ (List.mem_of_getElem? (i := 33) rfl))) (notFace_of_selects (args := #[]) (mvT hZ (hw _ (List.mem_of_getElem? (i := 35) rfl)))) (mvT hZ (hw _ (List.mem_of_getElem? (i := 35) rfl))) (mvT hZ (hw _ (List.mem_of_getElem? (i := 34) rfl))) (by decide) (backOf (W := 0) (rm5 l Z a0 hw [] b1 ((own_L (n + own_c2 n + own_c3 n)).toInt32) T3.heap n0 (Nat.le_trans Z0 K4.1) f3_3) hZ (hw _ (List.mem_of_getElem? (i := 36) rfl)) (hw _ (List.mem_of_getElem? (i := 3) rfl)) (by decide) (by decide)) q7a q7c (g := (mkF m 307 #[.val (.int p0), .val (.int p1), .val (.int p2), .val (.int p3), .val (.int p4), .val (.int nn), .val (.int (0 : Int32)), .val (.int ii), .val (.int (0 : Int32)), .val (.int (0 : Int32)), .val (.long (own_L I)), .second, .val (.long (nn.toInt64)), .second, .val (.ref b1), .val (.long (own_L (n + own_c2 n + own_c3 n))), .second, .unset, .unset, .unset] [(.ref b1)])) rfl (by rw [hml]; rfl) (Steps.refl _) (argsL := []) (rest := []) (lenOf pd_4 rfl) rfl (by show 2 * 0 + _ ≤ _; exact Nat.le_of_eq rfl) (hb hby at_307) (fun _ _ => ⟨rfl, eq6, (by decide : 3 + 0 ≤ _), (by decide : 4695 + 0 ≤ _)⟩)
    dsimp only [Pt.U, Pt.locs, Pt.cells, Pt.slots] at X7 l7 y7 z7 st7 hQ7
    subst l7 y7 z7
    obtain ⟨rfl, Nq7, eq7⟩ := hQ7
    have N7 := Fr.app N6 Nq7
    refine Runs.by (fun _ hr => st7.trans hr) ?_
    show Runs p e below _ (T7.setTop (mkF m 310 #[.val (.int p0), .val (.int p1), .val (.int p2), .val (.int p3), .val (.int p4), .val (.int nn), .val (.int (0 : Int32)), .val (.int ii), .val (.int (0 : Int32)), .val (.int (0 : Int32)), .val (.long (own_L I)), .second, .val (.long (nn.toInt64)), .second, .val (.ref b1), .val (.long (own_L (n + own_c2 n + own_c3 n))), .second, .unset, .unset, .unset] [(.int (own_L (n + own_c2 n + own_c3 n)).toInt32)]))
    refine Runs.by (fun _ hr => XS.i2l X7.here hx rfl (hb hby at_310) rfl hr) ?_
    show Runs p e below _ (T7.setTop (mkF m 311 #[.val (.int p0), .val (.int p1), .val (.int p2), .val (.int p3), .val (.int p4), .val (.int nn), .val (.int (0 : Int32)), .val (.int ii), .val (.int (0 : Int32)), .val (.int (0 : Int32)), .val (.long (own_L I)), .second, .val (.long (nn.toInt64)), .second, .val (.ref b1), .val (.long (own_L (n + own_c2 n + own_c3 n))), .second, .unset, .unset, .unset] [(.long ((own_L (n + own_c2 n + own_c3 n)).toInt32.toInt64))]))
    refine Runs.by (fun _ hr => XS.lload X7.here hx rfl (hb hby at_311) rfl  hr) ?_
    show Runs p e below _ (T7.setTop (mkF m 313 #[.val (.int p0), .val (.int p1), .val (.int p2), .val (.int p3), .val (.int p4), .val (.int nn), .val (.int (0 : Int32)), .val (.int ii), .val (.int (0 : Int32)), .val (.int (0 : Int32)), .val (.long (own_L I)), .second, .val (.long (nn.toInt64)), .second, .val (.ref b1), .val (.long (own_L (n + own_c2 n + own_c3 n))), .second, .unset, .unset, .unset] [(.long (own_L (n + own_c2 n + own_c3 n))), (.long ((own_L (n + own_c2 n + own_c3 n)).toInt32.toInt64))]))
    refine Runs.by (fun _ hr => XS.lcmp X7.here hx rfl (hb hby at_313) rfl hr) ?_
    show Runs p e below _ (T7.setTop (mkF m 314 #[.val (.int p0), .val (.int p1), .val (.int p2), .val (.int p3), .val (.int p4), .val (.int nn), .val (.int (0 : Int32)), .val (.int ii), .val (.int (0 : Int32)), .val (.int (0 : Int32)), .val (.long (own_L I)), .second, .val (.long (nn.toInt64)), .second, .val (.ref b1), .val (.long (own_L (n + own_c2 n + own_c3 n))), .second, .unset, .unset, .unset] [(.int (lcmpW ((own_L (n + own_c2 n + own_c3 n)).toInt32.toInt64) (own_L (n + own_c2 n + own_c3 n))))]))
    have hc314 : (lcmpW ((own_L (n + own_c2 n + own_c3 n)).toInt32.toInt64) (own_L (n + own_c2 n + own_c3 n))) = (0 : Int32) := own_lceq (own_LI32w (by omega))
    refine Runs.by (fun _ hr => XS.ifYes X7.here hx rfl (pc0 := 314) (pc' := 319) rfl (hb hby at_314) rfl ((if0 _ _).trans (teq hc314).1) (by decide) (by decide) hr) ?_
    show Runs p e below _ (T7.setTop (mkF m 319 #[.val (.int p0), .val (.int p1), .val (.int p2), .val (.int p3), .val (.int p4), .val (.int nn), .val (.int (0 : Int32)), .val (.int ii), .val (.int (0 : Int32)), .val (.int (0 : Int32)), .val (.long (own_L I)), .second, .val (.long (nn.toInt64)), .second, .val (.ref b1), .val (.long (own_L (n + own_c2 n + own_c3 n))), .second, .unset, .unset, .unset] []))
    refine Runs.by (fun _ hr => XS.aload X7.here hx rfl (hb hby at_319) rfl rfl hr) ?_
    show Runs p e below _ (T7.setTop (mkF m 321 #[.val (.int p0), .val (.int p1), .val (.int p2), .val (.int p3), .val (.int p4), .val (.int nn), .val (.int (0 : Int32)), .val (.int ii), .val (.int (0 : Int32)), .val (.int (0 : Int32)), .val (.long (own_L I)), .second, .val (.long (nn.toInt64)), .second, .val (.ref b1), .val (.long (own_L (n + own_c2 n + own_c3 n))), .second, .unset, .unset, .unset] [(.ref b1)]))
    refine Runs.by (fun _ hr => XS.lload X7.here hx rfl (hb hby at_321) rfl  hr) ?_
    show Runs p e below _ (T7.setTop (mkF m 323 #[.val (.int p0), .val (.int p1), .val (.int p2), .val (.int p3), .val (.int p4), .val (.int nn), .val (.int (0 : Int32)), .val (.int ii), .val (.int (0 : Int32)), .val (.int (0 : Int32)), .val (.long (own_L I)), .second, .val (.long (nn.toInt64)), .second, .val (.ref b1), .val (.long (own_L (n + own_c2 n + own_c3 n))), .second, .unset, .unset, .unset] [(.long (own_L I)), (.ref b1)]))
    refine Runs.by (fun _ hr => XS.l2i X7.here hx rfl (hb hby at_323) rfl hr) ?_
    have hNi : ((own_L I).toInt32).toInt = (I : Nat) := own_LI32 hN
    show Runs p e below _ (T7.setTop (mkF m 324 #[.val (.int p0), .val (.int p1), .val (.int p2), .val (.int p3), .val (.int p4), .val (.int nn), .val (.int (0 : Int32)), .val (.int ii), .val (.int (0 : Int32)), .val (.int (0 : Int32)), .val (.long (own_L I)), .second, .val (.long (nn.toInt64)), .second, .val (.ref b1), .val (.long (own_L (n + own_c2 n + own_c3 n))), .second, .unset, .unset, .unset] [(.int ((own_L I).toInt32)), (.ref b1)]))
    obtain ⟨cq8, kq8, q8a, q8b, q8c⟩ := isOf hZ eq7 f3_0
    obtain ⟨_, _, ⟨T8, L8, k8, n8⟩, -, X8, ⟨Lc8, hQ8, l8, y8, z8⟩, st8⟩ := X7.virtualBack hx (y := (⟨"com/example/fapre/fapre/KeywordSets", "places", "(I)[I"⟩ : MethodName)) (z := (⟨"com/example/fapre/fapre/KeywordSets", "places", "(I)[I"⟩ : MethodName)) hown (mvT hZ (hw _ (List.mem_of_getElem? (i := 37) rfl))) (mvT hZ (hw _ (List.mem_of_getElem? (i := 38) rfl))) (notFace_of_selects (args := #[]) (mvT hZ (hw _ (List.mem_of_getElem? (i := 40) rfl)))) (mvT hZ (hw _ (List.mem_of_getElem? (i := 40) rfl))) (mvT hZ (hw _ (List.mem_of_getElem? (i := 39) rfl))) (by decide) (backOf (W := 0) (rm6_0 l Z a0 hw [] b1 ((own_L I).toInt32) nn n y3 ky3 u3 ku3 (nn + (1 : Int32))  T3.heap n0 (Nat.le_trans Z0 K4.1) f3_0 f3_1 f3_2 f3_3 f3_4 f3_6 f3_5 f3_7 hn hbn hz (by omega)) hZ (hw _ (List.mem_of_getElem? (i := 41) rfl)) (hw _ (List.mem_of_getElem? (i := 3) rfl)) (by decide) (by decide)) q8a q8c (g := (mkF m 324 #[.val (.int p0), .val (.int p1), .val (.int p2), .val (.int p3), .val (.int p4), .val (.int nn), .val (.int (0 : Int32)), .val (.int ii), .val (.int (0 : Int32)), .val (.int (0 : Int32)), .val (.long (own_L I)), .second, .val (.long (nn.toInt64)), .second, .val (.ref b1), .val (.long (own_L (n + own_c2 n + own_c3 n))), .second, .unset, .unset, .unset] [(.int ((own_L I).toInt32)), (.ref b1)])) rfl (by rw [hml]; rfl) (Steps.refl _) (argsL := [(.int ((own_L I).toInt32))]) (rest := []) (lenOf pd_5 rfl) rfl (by show 2 * 0 + _ ≤ _; exact Nat.le_of_eq rfl) (hb hby at_324) (fun _ _ => ⟨rfl, eq7, (by decide : 3 + 1 ≤ _), (by decide : 4695 + 1 ≤ _)⟩)
    dsimp only [Pt.U, Pt.locs, Pt.cells, Pt.slots] at X8 l8 y8 z8 st8 hQ8
    subst l8 y8 z8
    obtain ⟨y8, ky8, rfl, Nq8, Kq8, g_y8, szq_y8, f8_0⟩ := hQ8
    have N8 := Fr.app N7 Nq8
    have ne_b1_y8 : b1 ≠ y8 := Nat.ne_of_lt (Nat.lt_of_lt_of_le f3_0.lt szq_y8)
    have ne_y3_y8 : y3 ≠ y8 := Nat.ne_of_lt (Nat.lt_of_lt_of_le f3_5.lt szq_y8)
    have ne_u3_y8 : u3 ≠ y8 := Nat.ne_of_lt (Nat.lt_of_lt_of_le f3_7.lt szq_y8)
    have sz_y8 : h0.size ≤ y8 := Nat.le_trans K4.1 szq_y8
    have K9 : Keep h0 T8.heap [] := Keep.trans (ws := []) K4 Kq8 all0
    refine Runs.by (fun _ hr => st8.trans hr) ?_
    show Runs p e below _ (T8.setTop (mkF m 327 #[.val (.int p0), .val (.int p1), .val (.int p2), .val (.int p3), .val (.int p4), .val (.int nn), .val (.int (0 : Int32)), .val (.int ii), .val (.int (0 : Int32)), .val (.int (0 : Int32)), .val (.long (own_L I)), .second, .val (.long (nn.toInt64)), .second, .val (.ref b1), .val (.long (own_L (n + own_c2 n + own_c3 n))), .second, .unset, .unset, .unset] [(.ref y8)]))
    refine Runs.by (fun _ hr => XS.astore X8.here hx rfl (hb hby at_327) rfl rfl (l' := #[.val (.int p0), .val (.int p1), .val (.int p2), .val (.int p3), .val (.int p4), .val (.int nn), .val (.int (0 : Int32)), .val (.int ii), .val (.int (0 : Int32)), .val (.int (0 : Int32)), .val (.long (own_L I)), .second, .val (.long (nn.toInt64)), .second, .val (.ref b1), .val (.long (own_L (n + own_c2 n + own_c3 n))), .second, .val (.ref y8), .unset, .unset]) rfl hr) ?_
    show Runs p e below _ (T8.setTop (mkF m 329 #[.val (.int p0), .val (.int p1), .val (.int p2), .val (.int p3), .val (.int p4), .val (.int nn), .val (.int (0 : Int32)), .val (.int ii), .val (.int (0 : Int32)), .val (.int (0 : Int32)), .val (.long (own_L I)), .second, .val (.long (nn.toInt64)), .second, .val (.ref b1), .val (.long (own_L (n + own_c2 n + own_c3 n))), .second, .val (.ref y8), .unset, .unset] []))
    refine Runs.by (fun _ hr => XS.aload X8.here hx rfl (hb hby at_329) rfl rfl hr) ?_
    show Runs p e below _ (T8.setTop (mkF m 331 #[.val (.int p0), .val (.int p1), .val (.int p2), .val (.int p3), .val (.int p4), .val (.int nn), .val (.int (0 : Int32)), .val (.int ii), .val (.int (0 : Int32)), .val (.int (0 : Int32)), .val (.long (own_L I)), .second, .val (.long (nn.toInt64)), .second, .val (.ref b1), .val (.long (own_L (n + own_c2 n + own_c3 n))), .second, .val (.ref y8), .unset, .unset] [(.ref y8)]))
    refine Runs.by (fun _ hr => XS.ifnonnullYes X8.here hx rfl (pc0 := 331) (pc' := 336) rfl (hb hby at_331) rfl (by decide) (by decide) hr) ?_
    show Runs p e below _ (T8.setTop (mkF m 336 #[.val (.int p0), .val (.int p1), .val (.int p2), .val (.int p3), .val (.int p4), .val (.int nn), .val (.int (0 : Int32)), .val (.int ii), .val (.int (0 : Int32)), .val (.int (0 : Int32)), .val (.long (own_L I)), .second, .val (.long (nn.toInt64)), .second, .val (.ref b1), .val (.long (own_L (n + own_c2 n + own_c3 n))), .second, .val (.ref y8), .unset, .unset] []))
    refine Runs.by (fun _ hr => XS.iload X8.here hx rfl (hb hby at_336) rfl  hr) ?_
    show Runs p e below _ (T8.setTop (mkF m 338 #[.val (.int p0), .val (.int p1), .val (.int p2), .val (.int p3), .val (.int p4), .val (.int nn), .val (.int (0 : Int32)), .val (.int ii), .val (.int (0 : Int32)), .val (.int (0 : Int32)), .val (.long (own_L I)), .second, .val (.long (nn.toInt64)), .second, .val (.ref b1), .val (.long (own_L (n + own_c2 n + own_c3 n))), .second, .val (.ref y8), .unset, .unset] [(.int (0 : Int32))]))
    have hc338 : (0 : Int32) = (0 : Int32) := (by decide)
    refine Runs.by (fun _ hr => XS.ifNo X8.here hx rfl (hb hby at_338) rfl ((if0 _ _).trans (teq hc338).2) hr) ?_
    show Runs p e below _ (T8.setTop (mkF m 341 #[.val (.int p0), .val (.int p1), .val (.int p2), .val (.int p3), .val (.int p4), .val (.int nn), .val (.int (0 : Int32)), .val (.int ii), .val (.int (0 : Int32)), .val (.int (0 : Int32)), .val (.long (own_L I)), .second, .val (.long (nn.toInt64)), .second, .val (.ref b1), .val (.long (own_L (n + own_c2 n + own_c3 n))), .second, .val (.ref y8), .unset, .unset] []))
    refine Runs.by (fun _ hr => XS.aload X8.here hx rfl (hb hby at_341) rfl rfl hr) ?_
    show Runs p e below _ (T8.setTop (mkF m 343 #[.val (.int p0), .val (.int p1), .val (.int p2), .val (.int p3), .val (.int p4), .val (.int nn), .val (.int (0 : Int32)), .val (.int ii), .val (.int (0 : Int32)), .val (.int (0 : Int32)), .val (.long (own_L I)), .second, .val (.long (nn.toInt64)), .second, .val (.ref b1), .val (.long (own_L (n + own_c2 n + own_c3 n))), .second, .val (.ref y8), .unset, .unset] [(.ref y8)]))
    obtain ⟨cl10, Ar10, -, S10, N10', -⟩ := id f8_0
    refine Runs.by (fun t hr => X8.arraylength hx (by exact Ar10.1) (State.isArrayOf_alike hZ.alike Ar10.2.1) (g := (mkF m 343 #[.val (.int p0), .val (.int p1), .val (.int p2), .val (.int p3), .val (.int p4), .val (.int nn), .val (.int (0 : Int32)), .val (.int ii), .val (.int (0 : Int32)), .val (.int (0 : Int32)), .val (.long (own_L I)), .second, .val (.long (nn.toInt64)), .second, .val (.ref b1), .val (.long (own_L (n + own_c2 n + own_c3 n))), .second, .val (.ref y8), .unset, .unset] [(.ref y8)])) rfl rfl (hb hby at_343) t hr) ?_
    rw [len_of S10 N10']
    show Runs p e below _ (T8.setTop (mkF m 344 #[.val (.int p0), .val (.int p1), .val (.int p2), .val (.int p3), .val (.int p4), .val (.int nn), .val (.int (0 : Int32)), .val (.int ii), .val (.int (0 : Int32)), .val (.int (0 : Int32)), .val (.long (own_L I)), .second, .val (.long (nn.toInt64)), .second, .val (.ref b1), .val (.long (own_L (n + own_c2 n + own_c3 n))), .second, .val (.ref y8), .unset, .unset] [(.int (1 : Int32))]))
    refine Runs.by (fun _ hr => XS.iconst X8.here hx rfl (hb hby at_344) hr) ?_
    show Runs p e below _ (T8.setTop (mkF m 345 #[.val (.int p0), .val (.int p1), .val (.int p2), .val (.int p3), .val (.int p4), .val (.int nn), .val (.int (0 : Int32)), .val (.int ii), .val (.int (0 : Int32)), .val (.int (0 : Int32)), .val (.long (own_L I)), .second, .val (.long (nn.toInt64)), .second, .val (.ref b1), .val (.long (own_L (n + own_c2 n + own_c3 n))), .second, .val (.ref y8), .unset, .unset] [(.int (1 : Int32)), (.int (1 : Int32))]))
    have hc345 : (1 : Int32) = (1 : Int32) := (by decide)
    refine Runs.by (fun _ hr => XS.icmpNo X8.here hx rfl (hb hby at_345) rfl (teq hc345).2 hr) ?_
    show Runs p e below _ (T8.setTop (mkF m 348 #[.val (.int p0), .val (.int p1), .val (.int p2), .val (.int p3), .val (.int p4), .val (.int nn), .val (.int (0 : Int32)), .val (.int ii), .val (.int (0 : Int32)), .val (.int (0 : Int32)), .val (.long (own_L I)), .second, .val (.long (nn.toInt64)), .second, .val (.ref b1), .val (.long (own_L (n + own_c2 n + own_c3 n))), .second, .val (.ref y8), .unset, .unset] []))
    refine Runs.by (fun _ hr => XS.aload X8.here hx rfl (hb hby at_348) rfl rfl hr) ?_
    show Runs p e below _ (T8.setTop (mkF m 350 #[.val (.int p0), .val (.int p1), .val (.int p2), .val (.int p3), .val (.int p4), .val (.int nn), .val (.int (0 : Int32)), .val (.int ii), .val (.int (0 : Int32)), .val (.int (0 : Int32)), .val (.long (own_L I)), .second, .val (.long (nn.toInt64)), .second, .val (.ref b1), .val (.long (own_L (n + own_c2 n + own_c3 n))), .second, .val (.ref y8), .unset, .unset] [(.ref y8)]))
    refine Runs.by (fun _ hr => XS.iconst X8.here hx rfl (hb hby at_350) hr) ?_
    show Runs p e below _ (T8.setTop (mkF m 351 #[.val (.int p0), .val (.int p1), .val (.int p2), .val (.int p3), .val (.int p4), .val (.int nn), .val (.int (0 : Int32)), .val (.int ii), .val (.int (0 : Int32)), .val (.int (0 : Int32)), .val (.long (own_L I)), .second, .val (.long (nn.toInt64)), .second, .val (.ref b1), .val (.long (own_L (n + own_c2 n + own_c3 n))), .second, .val (.ref y8), .unset, .unset] [(.int (0 : Int32)), (.ref y8)]))
    obtain ⟨cl11, Ar11, -, S11, N11', H11⟩ := id f8_0
    have ix11 := own_ix (j := (0 : Int32)) (z := (1 : Int32)) (n := 0) rfl (by decide)
    have hin11 : ¬ ((0 : Int32) < 0 ∨ cl11.slots.size ≤ ((0 : Int32)).toNatClampNeg) := inb_of S11 ix11.1
    have hat11 : cl11.slots[((0 : Int32)).toNatClampNeg]? = some (.int ((own_up (fun _ => (0 : Int32)) (0) (own_L I).toInt32) 0)) := by rw [ix11.2.1]; exact H11 _ ix11.2.2
    refine Runs.by (fun t hr => X8.iaload hx (j := (0 : Int32)) (v := (.int ((own_up (fun _ => (0 : Int32)) (0) (own_L I).toInt32) 0))) (by exact Ar11.1) (State.isArrayOf_alike hZ.alike Ar11.2.1) Ar11.2.2 hin11 hat11 (g := (mkF m 351 #[.val (.int p0), .val (.int p1), .val (.int p2), .val (.int p3), .val (.int p4), .val (.int nn), .val (.int (0 : Int32)), .val (.int ii), .val (.int (0 : Int32)), .val (.int (0 : Int32)), .val (.long (own_L I)), .second, .val (.long (nn.toInt64)), .second, .val (.ref b1), .val (.long (own_L (n + own_c2 n + own_c3 n))), .second, .val (.ref y8), .unset, .unset] [(.int (0 : Int32)), (.ref y8)])) rfl rfl (hb hby at_351) t hr) ?_
    show Runs p e below _ (T8.setTop (mkF m 352 #[.val (.int p0), .val (.int p1), .val (.int p2), .val (.int p3), .val (.int p4), .val (.int nn), .val (.int (0 : Int32)), .val (.int ii), .val (.int (0 : Int32)), .val (.int (0 : Int32)), .val (.long (own_L I)), .second, .val (.long (nn.toInt64)), .second, .val (.ref b1), .val (.long (own_L (n + own_c2 n + own_c3 n))), .second, .val (.ref y8), .unset, .unset] [(.int ((own_up (fun _ => (0 : Int32)) (0) (own_L I).toInt32) 0))]))
    refine Runs.by (fun _ hr => XS.iload X8.here hx rfl (hb hby at_352) rfl  hr) ?_
    show Runs p e below _ (T8.setTop (mkF m 354 #[.val (.int p0), .val (.int p1), .val (.int p2), .val (.int p3), .val (.int p4), .val (.int nn), .val (.int (0 : Int32)), .val (.int ii), .val (.int (0 : Int32)), .val (.int (0 : Int32)), .val (.long (own_L I)), .second, .val (.long (nn.toInt64)), .second, .val (.ref b1), .val (.long (own_L (n + own_c2 n + own_c3 n))), .second, .val (.ref y8), .unset, .unset] [(.int ii), (.int ((own_up (fun _ => (0 : Int32)) (0) (own_L I).toInt32) 0))]))
    have hc354 : ((own_up (fun _ => (0 : Int32)) (0) (own_L I).toInt32) 0) = ii := own_i32e (by show ((own_L I).toInt32).toInt = _; omega)
    refine Runs.by (fun _ hr => XS.icmpNo X8.here hx rfl (hb hby at_354) rfl (teq hc354).2 hr) ?_
    show Runs p e below _ (T8.setTop (mkF m 357 #[.val (.int p0), .val (.int p1), .val (.int p2), .val (.int p3), .val (.int p4), .val (.int nn), .val (.int (0 : Int32)), .val (.int ii), .val (.int (0 : Int32)), .val (.int (0 : Int32)), .val (.long (own_L I)), .second, .val (.long (nn.toInt64)), .second, .val (.ref b1), .val (.long (own_L (n + own_c2 n + own_c3 n))), .second, .val (.ref y8), .unset, .unset] []))
    refine Runs.by (fun _ hr => XS.iconst X8.here hx rfl (hb hby at_357) hr) ?_
    show Runs p e below _ (T8.setTop (mkF m 358 #[.val (.int p0), .val (.int p1), .val (.int p2), .val (.int p3), .val (.int p4), .val (.int nn), .val (.int (0 : Int32)), .val (.int ii), .val (.int (0 : Int32)), .val (.int (0 : Int32)), .val (.long (own_L I)), .second, .val (.long (nn.toInt64)), .second, .val (.ref b1), .val (.long (own_L (n + own_c2 n + own_c3 n))), .second, .val (.ref y8), .unset, .unset] [(.int (1 : Int32))]))
    refine Runs.by (fun _ hr => XS.goto X8.here hx rfl (pc0 := 358) (pc' := 362) rfl (hb hby at_358) (by decide) (by decide) hr) ?_
    show Runs p e below _ (T8.setTop (mkF m 362 #[.val (.int p0), .val (.int p1), .val (.int p2), .val (.int p3), .val (.int p4), .val (.int nn), .val (.int (0 : Int32)), .val (.int ii), .val (.int (0 : Int32)), .val (.int (0 : Int32)), .val (.long (own_L I)), .second, .val (.long (nn.toInt64)), .second, .val (.ref b1), .val (.long (own_L (n + own_c2 n + own_c3 n))), .second, .val (.ref y8), .unset, .unset] [(.int (1 : Int32))]))
    refine Runs.ret X8 hx hrt hlk (Or.inl ⟨rfl, by simp, _, rfl⟩) (by rfl) (hb hby at_362) (by decide) (by decide) ?_
    exact ⟨rfl, N8⟩
  · skip
    show Runs p e below _ (s₁.setTop (mkF m 20 #[.val (.int p0), .val (.int p1), .val (.int p2), .val (.int p3), .val (.int p4), .val (.int nn), .val (.int (1 : Int32)), .unset, .unset, .unset, .unset, .unset, .unset, .unset, .unset, .unset, .unset, .unset, .unset, .unset] []))
    refine Runs.by (fun _ hr => XS.iload X0.here hx rfl (hb hby at_20) rfl  hr) ?_
    show Runs p e below _ (s₁.setTop (mkF m 22 #[.val (.int p0), .val (.int p1), .val (.int p2), .val (.int p3), .val (.int p4), .val (.int nn), .val (.int (1 : Int32)), .unset, .unset, .unset, .unset, .unset, .unset, .unset, .unset, .unset, .unset, .unset, .unset, .unset] [(.int (1 : Int32))]))
    refine Runs.by (fun _ hr => XS.iconst X0.here hx rfl (hb hby at_22) hr) ?_
    show Runs p e below _ (s₁.setTop (mkF m 23 #[.val (.int p0), .val (.int p1), .val (.int p2), .val (.int p3), .val (.int p4), .val (.int nn), .val (.int (1 : Int32)), .unset, .unset, .unset, .unset, .unset, .unset, .unset, .unset, .unset, .unset, .unset, .unset, .unset] [(.int (1 : Int32)), (.int (1 : Int32))]))
    have hc23 : (1 : Int32) = (1 : Int32) := (by decide)
    refine Runs.by (fun _ hr => XS.icmpNo X0.here hx rfl (hb hby at_23) rfl (teq hc23).2 hr) ?_
    show Runs p e below _ (s₁.setTop (mkF m 26 #[.val (.int p0), .val (.int p1), .val (.int p2), .val (.int p3), .val (.int p4), .val (.int nn), .val (.int (1 : Int32)), .unset, .unset, .unset, .unset, .unset, .unset, .unset, .unset, .unset, .unset, .unset, .unset, .unset] []))
    refine Runs.by (fun _ hr => XS.iload X0.here hx rfl (hb hby at_26) rfl  hr) ?_
    show Runs p e below _ (s₁.setTop (mkF m 28 #[.val (.int p0), .val (.int p1), .val (.int p2), .val (.int p3), .val (.int p4), .val (.int nn), .val (.int (1 : Int32)), .unset, .unset, .unset, .unset, .unset, .unset, .unset, .unset, .unset, .unset, .unset, .unset, .unset] [(.int nn)]))
    refine Runs.by (fun _ hr => XS.iconst X0.here hx rfl (hb hby at_28) hr) ?_
    show Runs p e below _ (s₁.setTop (mkF m 29 #[.val (.int p0), .val (.int p1), .val (.int p2), .val (.int p3), .val (.int p4), .val (.int nn), .val (.int (1 : Int32)), .unset, .unset, .unset, .unset, .unset, .unset, .unset, .unset, .unset, .unset, .unset, .unset, .unset] [(.int (2 : Int32)), (.int nn)]))
    by_cases hc29 : nn < (2 : Int32)
    · -- pc 29: nn < (2 : Int32)
      refine Runs.by (fun _ hr => XS.icmpNo X0.here hx rfl (hb hby at_29) rfl (tlt hc29).2.1 hr) ?_
      show Runs p e below _ (s₁.setTop (mkF m 32 #[.val (.int p0), .val (.int p1), .val (.int p2), .val (.int p3), .val (.int p4), .val (.int nn), .val (.int (1 : Int32)), .unset, .unset, .unset, .unset, .unset, .unset, .unset, .unset, .unset, .unset, .unset, .unset, .unset] []))
      refine Runs.by (fun _ hr => XS.iconst X0.here hx rfl (hb hby at_32) hr) ?_
      show Runs p e below _ (s₁.setTop (mkF m 33 #[.val (.int p0), .val (.int p1), .val (.int p2), .val (.int p3), .val (.int p4), .val (.int nn), .val (.int (1 : Int32)), .unset, .unset, .unset, .unset, .unset, .unset, .unset, .unset, .unset, .unset, .unset, .unset, .unset] [(.int (1 : Int32))]))
      refine Runs.ret X0 hx hrt hlk (Or.inl ⟨rfl, by simp, _, rfl⟩) (by rfl) (hb hby at_33) (by decide) (by decide) ?_
      rw [e0]
      exact ⟨rfl, N0⟩
    · -- pc 29: not nn < (2 : Int32)
      refine Runs.by (fun _ hr => XS.icmpYes X0.here hx rfl (pc0 := 29) (pc' := 34) rfl (hb hby at_29) rfl (flt hc29).2.1 (by decide) (by decide) hr) ?_
      have hn2 : 2 ≤ nn.toInt := by have q : ¬ nn.toInt < (2 : Int32).toInt := fun r => hc29 (Int32.lt_iff_toInt_lt.mpr r); omega
      show Runs p e below _ (s₁.setTop (mkF m 34 #[.val (.int p0), .val (.int p1), .val (.int p2), .val (.int p3), .val (.int p4), .val (.int nn), .val (.int (1 : Int32)), .unset, .unset, .unset, .unset, .unset, .unset, .unset, .unset, .unset, .unset, .unset, .unset, .unset] []))
      refine Runs.by (fun _ hr => XS.iload X0.here hx rfl (hb hby at_34) rfl  hr) ?_
      show Runs p e below _ (s₁.setTop (mkF m 36 #[.val (.int p0), .val (.int p1), .val (.int p2), .val (.int p3), .val (.int p4), .val (.int nn), .val (.int (1 : Int32)), .unset, .unset, .unset, .unset, .unset, .unset, .unset, .unset, .unset, .unset, .unset, .unset, .unset] [(.int (1 : Int32))]))
      refine Runs.by (fun _ hr => XS.iconst X0.here hx rfl (hb hby at_36) hr) ?_
      show Runs p e below _ (s₁.setTop (mkF m 37 #[.val (.int p0), .val (.int p1), .val (.int p2), .val (.int p3), .val (.int p4), .val (.int nn), .val (.int (1 : Int32)), .unset, .unset, .unset, .unset, .unset, .unset, .unset, .unset, .unset, .unset, .unset, .unset, .unset] [(.int (2 : Int32)), (.int (1 : Int32))]))
      have hc37 : ¬ ((1 : Int32) = (2 : Int32)) := (by decide)
      refine Runs.by (fun _ hr => XS.icmpYes X0.here hx rfl (pc0 := 37) (pc' := 48) rfl (hb hby at_37) rfl (feq hc37).2 (by decide) (by decide) hr) ?_
      show Runs p e below _ (s₁.setTop (mkF m 48 #[.val (.int p0), .val (.int p1), .val (.int p2), .val (.int p3), .val (.int p4), .val (.int nn), .val (.int (1 : Int32)), .unset, .unset, .unset, .unset, .unset, .unset, .unset, .unset, .unset, .unset, .unset, .unset, .unset] []))
      refine Runs.by (fun _ hr => XS.iconst X0.here hx rfl (hb hby at_48) hr) ?_
      show Runs p e below _ (s₁.setTop (mkF m 49 #[.val (.int p0), .val (.int p1), .val (.int p2), .val (.int p3), .val (.int p4), .val (.int nn), .val (.int (1 : Int32)), .unset, .unset, .unset, .unset, .unset, .unset, .unset, .unset, .unset, .unset, .unset, .unset, .unset] [(.int (0 : Int32))]))
      refine Runs.by (fun _ hr => XS.istore X0.here hx rfl (hb hby at_49) rfl (l' := #[.val (.int p0), .val (.int p1), .val (.int p2), .val (.int p3), .val (.int p4), .val (.int nn), .val (.int (1 : Int32)), .unset, .val (.int (0 : Int32)), .unset, .unset, .unset, .unset, .unset, .unset, .unset, .unset, .unset, .unset, .unset]) rfl hr) ?_
      show Runs p e below _ (s₁.setTop (mkF m 51 #[.val (.int p0), .val (.int p1), .val (.int p2), .val (.int p3), .val (.int p4), .val (.int nn), .val (.int (1 : Int32)), .unset, .val (.int (0 : Int32)), .unset, .unset, .unset, .unset, .unset, .unset, .unset, .unset, .unset, .unset, .unset] []))
      refine Runs.by (fun _ hr => XS.iconst X0.here hx rfl (hb hby at_51) hr) ?_
      show Runs p e below _ (s₁.setTop (mkF m 52 #[.val (.int p0), .val (.int p1), .val (.int p2), .val (.int p3), .val (.int p4), .val (.int nn), .val (.int (1 : Int32)), .unset, .val (.int (0 : Int32)), .unset, .unset, .unset, .unset, .unset, .unset, .unset, .unset, .unset, .unset, .unset] [(.int (0 : Int32))]))
      refine Runs.by (fun _ hr => XS.istore X0.here hx rfl (hb hby at_52) rfl (l' := #[.val (.int p0), .val (.int p1), .val (.int p2), .val (.int p3), .val (.int p4), .val (.int nn), .val (.int (1 : Int32)), .unset, .val (.int (0 : Int32)), .val (.int (0 : Int32)), .unset, .unset, .unset, .unset, .unset, .unset, .unset, .unset, .unset, .unset]) rfl hr) ?_
      show Runs p e below _ (s₁.setTop (mkF m 54 #[.val (.int p0), .val (.int p1), .val (.int p2), .val (.int p3), .val (.int p4), .val (.int nn), .val (.int (1 : Int32)), .unset, .val (.int (0 : Int32)), .val (.int (0 : Int32)), .unset, .unset, .unset, .unset, .unset, .unset, .unset, .unset, .unset, .unset] []))
      refine Runs.by (fun _ hr => XS.iload X0.here hx rfl (hb hby at_54) rfl  hr) ?_
      show Runs p e below _ (s₁.setTop (mkF m 56 #[.val (.int p0), .val (.int p1), .val (.int p2), .val (.int p3), .val (.int p4), .val (.int nn), .val (.int (1 : Int32)), .unset, .val (.int (0 : Int32)), .val (.int (0 : Int32)), .unset, .unset, .unset, .unset, .unset, .unset, .unset, .unset, .unset, .unset] [(.int nn)]))
      refine Runs.by (fun _ hr => XS.i2l X0.here hx rfl (hb hby at_56) rfl hr) ?_
      show Runs p e below _ (s₁.setTop (mkF m 57 #[.val (.int p0), .val (.int p1), .val (.int p2), .val (.int p3), .val (.int p4), .val (.int nn), .val (.int (1 : Int32)), .unset, .val (.int (0 : Int32)), .val (.int (0 : Int32)), .unset, .unset, .unset, .unset, .unset, .unset, .unset, .unset, .unset, .unset] [(.long (nn.toInt64))]))
      refine Runs.by (fun _ hr => XS.lstore X0.here hx rfl (hb hby at_57) rfl (l' := #[.val (.int p0), .val (.int p1), .val (.int p2), .val (.int p3), .val (.int p4), .val (.int nn), .val (.int (1 : Int32)), .unset, .val (.int (0 : Int32)), .val (.int (0 : Int32)), .unset, .unset, .val (.long (nn.toInt64)), .second, .unset, .unset, .unset, .unset, .unset, .unset]) rfl hr) ?_
      show Runs p e below _ (s₁.setTop (mkF m 59 #[.val (.int p0), .val (.int p1), .val (.int p2), .val (.int p3), .val (.int p4), .val (.int nn), .val (.int (1 : Int32)), .unset, .val (.int (0 : Int32)), .val (.int (0 : Int32)), .unset, .unset, .val (.long (nn.toInt64)), .second, .unset, .unset, .unset, .unset, .unset, .unset] []))
      refine Runs.by (fun _ hr => XS.iload X0.here hx rfl (hb hby at_59) rfl  hr) ?_
      show Runs p e below _ (s₁.setTop (mkF m 61 #[.val (.int p0), .val (.int p1), .val (.int p2), .val (.int p3), .val (.int p4), .val (.int nn), .val (.int (1 : Int32)), .unset, .val (.int (0 : Int32)), .val (.int (0 : Int32)), .unset, .unset, .val (.long (nn.toInt64)), .second, .unset, .unset, .unset, .unset, .unset, .unset] [(.int (1 : Int32))]))
      have hc61 : ¬ ((1 : Int32) = (0 : Int32)) := (by decide)
      refine Runs.by (fun _ hr => XS.ifYes X0.here hx rfl (pc0 := 61) (pc' := 81) rfl (hb hby at_61) rfl ((if0 _ _).trans (feq hc61).2) (by decide) (by decide) hr) ?_
      show Runs p e below _ (s₁.setTop (mkF m 81 #[.val (.int p0), .val (.int p1), .val (.int p2), .val (.int p3), .val (.int p4), .val (.int nn), .val (.int (1 : Int32)), .unset, .val (.int (0 : Int32)), .val (.int (0 : Int32)), .unset, .unset, .val (.long (nn.toInt64)), .second, .unset, .unset, .unset, .unset, .unset, .unset] []))
      refine Runs.by (fun _ hr => XS.iload X0.here hx rfl (hb hby at_81) rfl  hr) ?_
      show Runs p e below _ (s₁.setTop (mkF m 83 #[.val (.int p0), .val (.int p1), .val (.int p2), .val (.int p3), .val (.int p4), .val (.int nn), .val (.int (1 : Int32)), .unset, .val (.int (0 : Int32)), .val (.int (0 : Int32)), .unset, .unset, .val (.long (nn.toInt64)), .second, .unset, .unset, .unset, .unset, .unset, .unset] [(.int (1 : Int32))]))
      refine Runs.by (fun _ hr => XS.iconst X0.here hx rfl (hb hby at_83) hr) ?_
      show Runs p e below _ (s₁.setTop (mkF m 84 #[.val (.int p0), .val (.int p1), .val (.int p2), .val (.int p3), .val (.int p4), .val (.int nn), .val (.int (1 : Int32)), .unset, .val (.int (0 : Int32)), .val (.int (0 : Int32)), .unset, .unset, .val (.long (nn.toInt64)), .second, .unset, .unset, .unset, .unset, .unset, .unset] [(.int (1 : Int32)), (.int (1 : Int32))]))
      have hc84 : (1 : Int32) = (1 : Int32) := (by decide)
      refine Runs.by (fun _ hr => XS.icmpNo X0.here hx rfl (hb hby at_84) rfl (teq hc84).2 hr) ?_
      show Runs p e below _ (s₁.setTop (mkF m 87 #[.val (.int p0), .val (.int p1), .val (.int p2), .val (.int p3), .val (.int p4), .val (.int nn), .val (.int (1 : Int32)), .unset, .val (.int (0 : Int32)), .val (.int (0 : Int32)), .unset, .unset, .val (.long (nn.toInt64)), .second, .unset, .unset, .unset, .unset, .unset, .unset] []))
      refine Runs.by (fun _ hr => XS.iloadN X0.here hx rfl (hb hby at_87) rfl  hr) ?_
      show Runs p e below _ (s₁.setTop (mkF m 88 #[.val (.int p0), .val (.int p1), .val (.int p2), .val (.int p3), .val (.int p4), .val (.int nn), .val (.int (1 : Int32)), .unset, .val (.int (0 : Int32)), .val (.int (0 : Int32)), .unset, .unset, .val (.long (nn.toInt64)), .second, .unset, .unset, .unset, .unset, .unset, .unset] [(.int p2)]))
      refine Runs.by (fun _ hr => X0.ldcI hx hown (mvT hZ (hw _ (List.mem_of_getElem? (i := 0) rfl))) (g := (mkF m 88 #[.val (.int p0), .val (.int p1), .val (.int p2), .val (.int p3), .val (.int p4), .val (.int nn), .val (.int (1 : Int32)), .unset, .val (.int (0 : Int32)), .val (.int (0 : Int32)), .unset, .unset, .val (.long (nn.toInt64)), .second, .unset, .unset, .unset, .unset, .unset, .unset] [(.int p2)])) rfl (hb hby at_88) hr) ?_
      show Runs p e below _ (s₁.setTop (mkF m 90 #[.val (.int p0), .val (.int p1), .val (.int p2), .val (.int p3), .val (.int p4), .val (.int nn), .val (.int (1 : Int32)), .unset, .val (.int (0 : Int32)), .val (.int (0 : Int32)), .unset, .unset, .val (.long (nn.toInt64)), .second, .unset, .unset, .unset, .unset, .unset, .unset] [(.int (2147483647 : Int32)), (.int p2)]))
      refine Runs.by (fun _ hr => XS.iand X0.here hx rfl (hb hby at_90) rfl hr) ?_
      show Runs p e below _ (s₁.setTop (mkF m 91 #[.val (.int p0), .val (.int p1), .val (.int p2), .val (.int p3), .val (.int p4), .val (.int nn), .val (.int (1 : Int32)), .unset, .val (.int (0 : Int32)), .val (.int (0 : Int32)), .unset, .unset, .val (.long (nn.toInt64)), .second, .unset, .unset, .unset, .unset, .unset, .unset] [(.int (p2 &&& (2147483647 : Int32)))]))
      refine Runs.by (fun _ hr => XS.iload X0.here hx rfl (hb hby at_91) rfl  hr) ?_
      show Runs p e below _ (s₁.setTop (mkF m 93 #[.val (.int p0), .val (.int p1), .val (.int p2), .val (.int p3), .val (.int p4), .val (.int nn), .val (.int (1 : Int32)), .unset, .val (.int (0 : Int32)), .val (.int (0 : Int32)), .unset, .unset, .val (.long (nn.toInt64)), .second, .unset, .unset, .unset, .unset, .unset, .unset] [(.int nn), (.int (p2 &&& (2147483647 : Int32)))]))
      refine Runs.by (fun _ hr => XS.iconst X0.here hx rfl (hb hby at_93) hr) ?_
      show Runs p e below _ (s₁.setTop (mkF m 94 #[.val (.int p0), .val (.int p1), .val (.int p2), .val (.int p3), .val (.int p4), .val (.int nn), .val (.int (1 : Int32)), .unset, .val (.int (0 : Int32)), .val (.int (0 : Int32)), .unset, .unset, .val (.long (nn.toInt64)), .second, .unset, .unset, .unset, .unset, .unset, .unset] [(.int (1 : Int32)), (.int nn), (.int (p2 &&& (2147483647 : Int32)))]))
      refine Runs.by (fun _ hr => XS.isub X0.here hx rfl (hb hby at_94) rfl hr) ?_
      show Runs p e below _ (s₁.setTop (mkF m 95 #[.val (.int p0), .val (.int p1), .val (.int p2), .val (.int p3), .val (.int p4), .val (.int nn), .val (.int (1 : Int32)), .unset, .val (.int (0 : Int32)), .val (.int (0 : Int32)), .unset, .unset, .val (.long (nn.toInt64)), .second, .unset, .unset, .unset, .unset, .unset, .unset] [(.int (nn - (1 : Int32))), (.int (p2 &&& (2147483647 : Int32)))]))
      refine Runs.by (fun _ hr => iremM X0 hx rfl (hb hby at_95) rfl (own_ne0 (by omega)) hr) ?_
      show Runs p e below _ (s₁.setTop (mkF m 96 #[.val (.int p0), .val (.int p1), .val (.int p2), .val (.int p3), .val (.int p4), .val (.int nn), .val (.int (1 : Int32)), .unset, .val (.int (0 : Int32)), .val (.int (0 : Int32)), .unset, .unset, .val (.long (nn.toInt64)), .second, .unset, .unset, .unset, .unset, .unset, .unset] [(.int ((p2 &&& (2147483647 : Int32)) % (nn - (1 : Int32))))]))
      refine Runs.by (fun _ hr => XS.istore X0.here hx rfl (hb hby at_96) rfl (l' := #[.val (.int p0), .val (.int p1), .val (.int p2), .val (.int p3), .val (.int p4), .val (.int nn), .val (.int (1 : Int32)), .val (.int ((p2 &&& (2147483647 : Int32)) % (nn - (1 : Int32)))), .val (.int (0 : Int32)), .val (.int (0 : Int32)), .unset, .unset, .val (.long (nn.toInt64)), .second, .unset, .unset, .unset, .unset, .unset, .unset]) rfl hr) ?_
      have hii := own_rm p2 (m := nn - (1 : Int32)) (by omega)
      generalize ((p2 &&& (2147483647 : Int32)) % (nn - (1 : Int32))) = ii at hii ⊢
      obtain ⟨I, eii⟩ : ∃ I : Nat, ii.toInt = I := ⟨ii.toInt.toNat, by omega⟩
      show Runs p e below _ (s₁.setTop (mkF m 98 #[.val (.int p0), .val (.int p1), .val (.int p2), .val (.int p3), .val (.int p4), .val (.int nn), .val (.int (1 : Int32)), .val (.int ii), .val (.int (0 : Int32)), .val (.int (0 : Int32)), .unset, .unset, .val (.long (nn.toInt64)), .second, .unset, .unset, .unset, .unset, .unset, .unset] []))
      refine Runs.by (fun _ hr => XS.iload X0.here hx rfl (hb hby at_98) rfl  hr) ?_
      show Runs p e below _ (s₁.setTop (mkF m 100 #[.val (.int p0), .val (.int p1), .val (.int p2), .val (.int p3), .val (.int p4), .val (.int nn), .val (.int (1 : Int32)), .val (.int ii), .val (.int (0 : Int32)), .val (.int (0 : Int32)), .unset, .unset, .val (.long (nn.toInt64)), .second, .unset, .unset, .unset, .unset, .unset, .unset] [(.int ii)]))
      refine Runs.by (fun _ hr => XS.iconst X0.here hx rfl (hb hby at_100) hr) ?_
      show Runs p e below _ (s₁.setTop (mkF m 101 #[.val (.int p0), .val (.int p1), .val (.int p2), .val (.int p3), .val (.int p4), .val (.int nn), .val (.int (1 : Int32)), .val (.int ii), .val (.int (0 : Int32)), .val (.int (0 : Int32)), .unset, .unset, .val (.long (nn.toInt64)), .second, .unset, .unset, .unset, .unset, .unset, .unset] [(.int (1 : Int32)), (.int ii)]))
      refine Runs.by (fun _ hr => XS.iadd X0.here hx rfl (hb hby at_101) rfl hr) ?_
      show Runs p e below _ (s₁.setTop (mkF m 102 #[.val (.int p0), .val (.int p1), .val (.int p2), .val (.int p3), .val (.int p4), .val (.int nn), .val (.int (1 : Int32)), .val (.int ii), .val (.int (0 : Int32)), .val (.int (0 : Int32)), .unset, .unset, .val (.long (nn.toInt64)), .second, .unset, .unset, .unset, .unset, .unset, .unset] [(.int (ii + (1 : Int32)))]))
      refine Runs.by (fun _ hr => XS.iloadN X0.here hx rfl (hb hby at_102) rfl  hr) ?_
      show Runs p e below _ (s₁.setTop (mkF m 103 #[.val (.int p0), .val (.int p1), .val (.int p2), .val (.int p3), .val (.int p4), .val (.int nn), .val (.int (1 : Int32)), .val (.int ii), .val (.int (0 : Int32)), .val (.int (0 : Int32)), .unset, .unset, .val (.long (nn.toInt64)), .second, .unset, .unset, .unset, .unset, .unset, .unset] [(.int p3), (.int (ii + (1 : Int32)))]))
      refine Runs.by (fun _ hr => X0.ldcI hx hown (mvT hZ (hw _ (List.mem_of_getElem? (i := 0) rfl))) (g := (mkF m 103 #[.val (.int p0), .val (.int p1), .val (.int p2), .val (.int p3), .val (.int p4), .val (.int nn), .val (.int (1 : Int32)), .val (.int ii), .val (.int (0 : Int32)), .val (.int (0 : Int32)), .unset, .unset, .val (.long (nn.toInt64)), .second, .unset, .unset, .unset, .unset, .unset, .unset] [(.int p3), (.int (ii + (1 : Int32)))])) rfl (hb hby at_103) hr) ?_
      show Runs p e below _ (s₁.setTop (mkF m 105 #[.val (.int p0), .val (.int p1), .val (.int p2), .val (.int p3), .val (.int p4), .val (.int nn), .val (.int (1 : Int32)), .val (.int ii), .val (.int (0 : Int32)), .val (.int (0 : Int32)), .unset, .unset, .val (.long (nn.toInt64)), .second, .unset, .unset, .unset, .unset, .unset, .unset] [(.int (2147483647 : Int32)), (.int p3), (.int (ii + (1 : Int32)))]))
      refine Runs.by (fun _ hr => XS.iand X0.here hx rfl (hb hby at_105) rfl hr) ?_
      show Runs p e below _ (s₁.setTop (mkF m 106 #[.val (.int p0), .val (.int p1), .val (.int p2), .val (.int p3), .val (.int p4), .val (.int nn), .val (.int (1 : Int32)), .val (.int ii), .val (.int (0 : Int32)), .val (.int (0 : Int32)), .unset, .unset, .val (.long (nn.toInt64)), .second, .unset, .unset, .unset, .unset, .unset, .unset] [(.int (p3 &&& (2147483647 : Int32))), (.int (ii + (1 : Int32)))]))
      refine Runs.by (fun _ hr => XS.iload X0.here hx rfl (hb hby at_106) rfl  hr) ?_
      show Runs p e below _ (s₁.setTop (mkF m 108 #[.val (.int p0), .val (.int p1), .val (.int p2), .val (.int p3), .val (.int p4), .val (.int nn), .val (.int (1 : Int32)), .val (.int ii), .val (.int (0 : Int32)), .val (.int (0 : Int32)), .unset, .unset, .val (.long (nn.toInt64)), .second, .unset, .unset, .unset, .unset, .unset, .unset] [(.int nn), (.int (p3 &&& (2147483647 : Int32))), (.int (ii + (1 : Int32)))]))
      refine Runs.by (fun _ hr => XS.iconst X0.here hx rfl (hb hby at_108) hr) ?_
      show Runs p e below _ (s₁.setTop (mkF m 109 #[.val (.int p0), .val (.int p1), .val (.int p2), .val (.int p3), .val (.int p4), .val (.int nn), .val (.int (1 : Int32)), .val (.int ii), .val (.int (0 : Int32)), .val (.int (0 : Int32)), .unset, .unset, .val (.long (nn.toInt64)), .second, .unset, .unset, .unset, .unset, .unset, .unset] [(.int (1 : Int32)), (.int nn), (.int (p3 &&& (2147483647 : Int32))), (.int (ii + (1 : Int32)))]))
      refine Runs.by (fun _ hr => XS.isub X0.here hx rfl (hb hby at_109) rfl hr) ?_
      show Runs p e below _ (s₁.setTop (mkF m 110 #[.val (.int p0), .val (.int p1), .val (.int p2), .val (.int p3), .val (.int p4), .val (.int nn), .val (.int (1 : Int32)), .val (.int ii), .val (.int (0 : Int32)), .val (.int (0 : Int32)), .unset, .unset, .val (.long (nn.toInt64)), .second, .unset, .unset, .unset, .unset, .unset, .unset] [(.int (nn - (1 : Int32))), (.int (p3 &&& (2147483647 : Int32))), (.int (ii + (1 : Int32)))]))
      refine Runs.by (fun _ hr => XS.iload X0.here hx rfl (hb hby at_110) rfl  hr) ?_
      show Runs p e below _ (s₁.setTop (mkF m 112 #[.val (.int p0), .val (.int p1), .val (.int p2), .val (.int p3), .val (.int p4), .val (.int nn), .val (.int (1 : Int32)), .val (.int ii), .val (.int (0 : Int32)), .val (.int (0 : Int32)), .unset, .unset, .val (.long (nn.toInt64)), .second, .unset, .unset, .unset, .unset, .unset, .unset] [(.int ii), (.int (nn - (1 : Int32))), (.int (p3 &&& (2147483647 : Int32))), (.int (ii + (1 : Int32)))]))
      refine Runs.by (fun _ hr => XS.isub X0.here hx rfl (hb hby at_112) rfl hr) ?_
      have emi : ((nn - (1 : Int32)) - ii).toInt = nn.toInt - 1 - ii.toInt := (Jvm.Kit.i32_sub (by omega) (by omega)).trans (by omega)
      show Runs p e below _ (s₁.setTop (mkF m 113 #[.val (.int p0), .val (.int p1), .val (.int p2), .val (.int p3), .val (.int p4), .val (.int nn), .val (.int (1 : Int32)), .val (.int ii), .val (.int (0 : Int32)), .val (.int (0 : Int32)), .unset, .unset, .val (.long (nn.toInt64)), .second, .unset, .unset, .unset, .unset, .unset, .unset] [(.int ((nn - (1 : Int32)) - ii)), (.int (p3 &&& (2147483647 : Int32))), (.int (ii + (1 : Int32)))]))
      refine Runs.by (fun _ hr => iremM X0 hx rfl (hb hby at_113) rfl (own_ne0 (by omega)) hr) ?_
      show Runs p e below _ (s₁.setTop (mkF m 114 #[.val (.int p0), .val (.int p1), .val (.int p2), .val (.int p3), .val (.int p4), .val (.int nn), .val (.int (1 : Int32)), .val (.int ii), .val (.int (0 : Int32)), .val (.int (0 : Int32)), .unset, .unset, .val (.long (nn.toInt64)), .second, .unset, .unset, .unset, .unset, .unset, .unset] [(.int ((p3 &&& (2147483647 : Int32)) % ((nn - (1 : Int32)) - ii))), (.int (ii + (1 : Int32)))]))
      refine Runs.by (fun _ hr => XS.iadd X0.here hx rfl (hb hby at_114) rfl hr) ?_
      show Runs p e below _ (s₁.setTop (mkF m 115 #[.val (.int p0), .val (.int p1), .val (.int p2), .val (.int p3), .val (.int p4), .val (.int nn), .val (.int (1 : Int32)), .val (.int ii), .val (.int (0 : Int32)), .val (.int (0 : Int32)), .unset, .unset, .val (.long (nn.toInt64)), .second, .unset, .unset, .unset, .unset, .unset, .unset] [(.int ((ii + (1 : Int32)) + ((p3 &&& (2147483647 : Int32)) % ((nn - (1 : Int32)) - ii))))]))
      refine Runs.by (fun _ hr => XS.istore X0.here hx rfl (hb hby at_115) rfl (l' := #[.val (.int p0), .val (.int p1), .val (.int p2), .val (.int p3), .val (.int p4), .val (.int nn), .val (.int (1 : Int32)), .val (.int ii), .val (.int ((ii + (1 : Int32)) + ((p3 &&& (2147483647 : Int32)) % ((nn - (1 : Int32)) - ii)))), .val (.int (0 : Int32)), .unset, .unset, .val (.long (nn.toInt64)), .second, .unset, .unset, .unset, .unset, .unset, .unset]) rfl hr) ?_
      have hrjj := own_rm p3 (m := ((nn - (1 : Int32)) - ii)) (by omega)
      have epjj : (ii + (1 : Int32)).toInt = ii.toInt + 1 := (Jvm.Kit.i32_add (by omega) (by omega)).trans (by omega)
      have esjj : ((ii + (1 : Int32)) + ((p3 &&& (2147483647 : Int32)) % ((nn - (1 : Int32)) - ii))).toInt = ii.toInt + 1 + ((p3 &&& (2147483647 : Int32)) % ((nn - (1 : Int32)) - ii)).toInt := (Jvm.Kit.i32_add (by omega) (by omega)).trans (by omega)
      generalize ((ii + (1 : Int32)) + ((p3 &&& (2147483647 : Int32)) % ((nn - (1 : Int32)) - ii))) = jj at esjj ⊢
      obtain ⟨J, ejj⟩ : ∃ J : Nat, jj.toInt = J := ⟨jj.toInt.toNat, by omega⟩
      show Runs p e below _ (s₁.setTop (mkF m 117 #[.val (.int p0), .val (.int p1), .val (.int p2), .val (.int p3), .val (.int p4), .val (.int nn), .val (.int (1 : Int32)), .val (.int ii), .val (.int jj), .val (.int (0 : Int32)), .unset, .unset, .val (.long (nn.toInt64)), .second, .unset, .unset, .unset, .unset, .unset, .unset] []))
      refine Runs.by (fun _ hr => XS.lload X0.here hx rfl (hb hby at_117) rfl  hr) ?_
      show Runs p e below _ (s₁.setTop (mkF m 119 #[.val (.int p0), .val (.int p1), .val (.int p2), .val (.int p3), .val (.int p4), .val (.int nn), .val (.int (1 : Int32)), .val (.int ii), .val (.int jj), .val (.int (0 : Int32)), .unset, .unset, .val (.long (nn.toInt64)), .second, .unset, .unset, .unset, .unset, .unset, .unset] [(.long (nn.toInt64))]))
      refine Runs.by (fun _ hr => XS.lload X0.here hx rfl (hb hby at_119) rfl  hr) ?_
      show Runs p e below _ (s₁.setTop (mkF m 121 #[.val (.int p0), .val (.int p1), .val (.int p2), .val (.int p3), .val (.int p4), .val (.int nn), .val (.int (1 : Int32)), .val (.int ii), .val (.int jj), .val (.int (0 : Int32)), .unset, .unset, .val (.long (nn.toInt64)), .second, .unset, .unset, .unset, .unset, .unset, .unset] [(.long (nn.toInt64)), (.long (nn.toInt64))]))
      obtain ⟨_, _, ⟨T12, L12, k12, n12⟩, -, X12, ⟨Lc12, hQ12, l12, y12, z12⟩, st12⟩ := Jvm.LawKit.callS X0 hx (y := (⟨"com/example/fapre/fapre/KeywordSetsPlacesPinLaw", "c2", "(J)J"⟩ : MethodName)) hown (mvT hZ (hw _ (List.mem_of_getElem? (i := 23) rfl))) (mvT hZ (hw _ (List.mem_of_getElem? (i := 24) rfl))) (mvT hZ (hw _ (List.mem_of_getElem? (i := 25) rfl))) (mvT hZ (hw _ (List.mem_of_getElem? (i := 26) rfl))) (by decide) (backOf (W := 2) (rm3 l Z a0 hw [] (nn.toInt64)  h0 n0 (Nat.le_trans Z0 K0.1) ) hZ (hw _ (List.mem_of_getElem? (i := 26) rfl)) (hw _ (List.mem_of_getElem? (i := 25) rfl)) (by decide) (by decide)) (g := (mkF m 121 #[.val (.int p0), .val (.int p1), .val (.int p2), .val (.int p3), .val (.int p4), .val (.int nn), .val (.int (1 : Int32)), .val (.int ii), .val (.int jj), .val (.int (0 : Int32)), .unset, .unset, .val (.long (nn.toInt64)), .second, .unset, .unset, .unset, .unset, .unset, .unset] [(.long (nn.toInt64)), (.long (nn.toInt64))])) rfl (by rw [hml]; rfl) (argsL := [(.long (nn.toInt64))]) (rest := [(.long (nn.toInt64))]) (lenOf pd_3 rfl) rfl (by show 2 * 0 + _ ≤ _; exact Nat.le_of_eq rfl) (hb hby at_121) (fun _ _ => ⟨rfl, e0, (by decide : 0 + 0 ≤ _), (by decide : 0 + 0 ≤ _)⟩)
      dsimp only [Pt.U, Pt.locs, Pt.cells, Pt.slots] at X12 l12 y12 z12 st12 hQ12
      subst l12 y12 z12
      obtain ⟨rfl, Nq12, eq12⟩ := hQ12
      have N12 := Fr.app N0 Nq12
      refine Runs.by (fun t hr => st12 t hr) ?_
      show Runs p e below _ (T12.setTop (mkF m 124 #[.val (.int p0), .val (.int p1), .val (.int p2), .val (.int p3), .val (.int p4), .val (.int nn), .val (.int (1 : Int32)), .val (.int ii), .val (.int jj), .val (.int (0 : Int32)), .unset, .unset, .val (.long (nn.toInt64)), .second, .unset, .unset, .unset, .unset, .unset, .unset] [(.long (own_c2J (nn.toInt64))), (.long (nn.toInt64))]))
      refine Runs.by (fun _ hr => XS.ladd X12.here hx rfl (hb hby at_124) rfl hr) ?_
      show Runs p e below _ (T12.setTop (mkF m 125 #[.val (.int p0), .val (.int p1), .val (.int p2), .val (.int p3), .val (.int p4), .val (.int nn), .val (.int (1 : Int32)), .val (.int ii), .val (.int jj), .val (.int (0 : Int32)), .unset, .unset, .val (.long (nn.toInt64)), .second, .unset, .unset, .unset, .unset, .unset, .unset] [(.long ((nn.toInt64) + (own_c2J (nn.toInt64))))]))
      refine Runs.by (fun _ hr => XS.lload X12.here hx rfl (hb hby at_125) rfl  hr) ?_
      show Runs p e below _ (T12.setTop (mkF m 127 #[.val (.int p0), .val (.int p1), .val (.int p2), .val (.int p3), .val (.int p4), .val (.int nn), .val (.int (1 : Int32)), .val (.int ii), .val (.int jj), .val (.int (0 : Int32)), .unset, .unset, .val (.long (nn.toInt64)), .second, .unset, .unset, .unset, .unset, .unset, .unset] [(.long (nn.toInt64)), (.long ((nn.toInt64) + (own_c2J (nn.toInt64))))]))
      refine Runs.by (fun _ hr => XS.iload X12.here hx rfl (hb hby at_127) rfl  hr) ?_
      show Runs p e below _ (T12.setTop (mkF m 129 #[.val (.int p0), .val (.int p1), .val (.int p2), .val (.int p3), .val (.int p4), .val (.int nn), .val (.int (1 : Int32)), .val (.int ii), .val (.int jj), .val (.int (0 : Int32)), .unset, .unset, .val (.long (nn.toInt64)), .second, .unset, .unset, .unset, .unset, .unset, .unset] [(.int ii), (.long (nn.toInt64)), (.long ((nn.toInt64) + (own_c2J (nn.toInt64))))]))
      refine Runs.by (fun _ hr => XS.i2l X12.here hx rfl (hb hby at_129) rfl hr) ?_
      show Runs p e below _ (T12.setTop (mkF m 130 #[.val (.int p0), .val (.int p1), .val (.int p2), .val (.int p3), .val (.int p4), .val (.int nn), .val (.int (1 : Int32)), .val (.int ii), .val (.int jj), .val (.int (0 : Int32)), .unset, .unset, .val (.long (nn.toInt64)), .second, .unset, .unset, .unset, .unset, .unset, .unset] [(.long (ii.toInt64)), (.long (nn.toInt64)), (.long ((nn.toInt64) + (own_c2J (nn.toInt64))))]))
      refine Runs.by (fun _ hr => XS.lsub X12.here hx rfl (hb hby at_130) rfl hr) ?_
      show Runs p e below _ (T12.setTop (mkF m 131 #[.val (.int p0), .val (.int p1), .val (.int p2), .val (.int p3), .val (.int p4), .val (.int nn), .val (.int (1 : Int32)), .val (.int ii), .val (.int jj), .val (.int (0 : Int32)), .unset, .unset, .val (.long (nn.toInt64)), .second, .unset, .unset, .unset, .unset, .unset, .unset] [(.long ((nn.toInt64) - (ii.toInt64))), (.long ((nn.toInt64) + (own_c2J (nn.toInt64))))]))
      obtain ⟨_, _, ⟨T13, L13, k13, n13⟩, -, X13, ⟨Lc13, hQ13, l13, y13, z13⟩, st13⟩ := Jvm.LawKit.callS X12 hx (y := (⟨"com/example/fapre/fapre/KeywordSetsPlacesPinLaw", "c2", "(J)J"⟩ : MethodName)) hown (mvT hZ (hw _ (List.mem_of_getElem? (i := 23) rfl))) (mvT hZ (hw _ (List.mem_of_getElem? (i := 24) rfl))) (mvT hZ (hw _ (List.mem_of_getElem? (i := 25) rfl))) (mvT hZ (hw _ (List.mem_of_getElem? (i := 26) rfl))) (by decide) (backOf (W := 2) (rm3 l Z a0 hw [] ((nn.toInt64) - (ii.toInt64))  h0 n0 (Nat.le_trans Z0 K0.1) ) hZ (hw _ (List.mem_of_getElem? (i := 26) rfl)) (hw _ (List.mem_of_getElem? (i := 25) rfl)) (by decide) (by decide)) (g := (mkF m 131 #[.val (.int p0), .val (.int p1), .val (.int p2), .val (.int p3), .val (.int p4), .val (.int nn), .val (.int (1 : Int32)), .val (.int ii), .val (.int jj), .val (.int (0 : Int32)), .unset, .unset, .val (.long (nn.toInt64)), .second, .unset, .unset, .unset, .unset, .unset, .unset] [(.long ((nn.toInt64) - (ii.toInt64))), (.long ((nn.toInt64) + (own_c2J (nn.toInt64))))])) rfl (by rw [hml]; rfl) (argsL := [(.long ((nn.toInt64) - (ii.toInt64)))]) (rest := [(.long ((nn.toInt64) + (own_c2J (nn.toInt64))))]) (lenOf pd_3 rfl) rfl (by show 2 * 0 + _ ≤ _; exact Nat.le_of_eq rfl) (hb hby at_131) (fun _ _ => ⟨rfl, eq12, (by decide : 0 + 0 ≤ _), (by decide : 0 + 0 ≤ _)⟩)
      dsimp only [Pt.U, Pt.locs, Pt.cells, Pt.slots] at X13 l13 y13 z13 st13 hQ13
      subst l13 y13 z13
      obtain ⟨rfl, Nq13, eq13⟩ := hQ13
      have N13 := Fr.app N12 Nq13
      refine Runs.by (fun t hr => st13 t hr) ?_
      show Runs p e below _ (T13.setTop (mkF m 134 #[.val (.int p0), .val (.int p1), .val (.int p2), .val (.int p3), .val (.int p4), .val (.int nn), .val (.int (1 : Int32)), .val (.int ii), .val (.int jj), .val (.int (0 : Int32)), .unset, .unset, .val (.long (nn.toInt64)), .second, .unset, .unset, .unset, .unset, .unset, .unset] [(.long (own_c2J ((nn.toInt64) - (ii.toInt64)))), (.long ((nn.toInt64) + (own_c2J (nn.toInt64))))]))
      refine Runs.by (fun _ hr => XS.lsub X13.here hx rfl (hb hby at_134) rfl hr) ?_
      show Runs p e below _ (T13.setTop (mkF m 135 #[.val (.int p0), .val (.int p1), .val (.int p2), .val (.int p3), .val (.int p4), .val (.int nn), .val (.int (1 : Int32)), .val (.int ii), .val (.int jj), .val (.int (0 : Int32)), .unset, .unset, .val (.long (nn.toInt64)), .second, .unset, .unset, .unset, .unset, .unset, .unset] [(.long (((nn.toInt64) + (own_c2J (nn.toInt64))) - (own_c2J ((nn.toInt64) - (ii.toInt64)))))]))
      refine Runs.by (fun _ hr => XS.iload X13.here hx rfl (hb hby at_135) rfl  hr) ?_
      show Runs p e below _ (T13.setTop (mkF m 137 #[.val (.int p0), .val (.int p1), .val (.int p2), .val (.int p3), .val (.int p4), .val (.int nn), .val (.int (1 : Int32)), .val (.int ii), .val (.int jj), .val (.int (0 : Int32)), .unset, .unset, .val (.long (nn.toInt64)), .second, .unset, .unset, .unset, .unset, .unset, .unset] [(.int jj), (.long (((nn.toInt64) + (own_c2J (nn.toInt64))) - (own_c2J ((nn.toInt64) - (ii.toInt64)))))]))
      refine Runs.by (fun _ hr => XS.iload X13.here hx rfl (hb hby at_137) rfl  hr) ?_
      show Runs p e below _ (T13.setTop (mkF m 139 #[.val (.int p0), .val (.int p1), .val (.int p2), .val (.int p3), .val (.int p4), .val (.int nn), .val (.int (1 : Int32)), .val (.int ii), .val (.int jj), .val (.int (0 : Int32)), .unset, .unset, .val (.long (nn.toInt64)), .second, .unset, .unset, .unset, .unset, .unset, .unset] [(.int ii), (.int jj), (.long (((nn.toInt64) + (own_c2J (nn.toInt64))) - (own_c2J ((nn.toInt64) - (ii.toInt64)))))]))
      refine Runs.by (fun _ hr => XS.isub X13.here hx rfl (hb hby at_139) rfl hr) ?_
      show Runs p e below _ (T13.setTop (mkF m 140 #[.val (.int p0), .val (.int p1), .val (.int p2), .val (.int p3), .val (.int p4), .val (.int nn), .val (.int (1 : Int32)), .val (.int ii), .val (.int jj), .val (.int (0 : Int32)), .unset, .unset, .val (.long (nn.toInt64)), .second, .unset, .unset, .unset, .unset, .unset, .unset] [(.int (jj - ii)), (.long (((nn.toInt64) + (own_c2J (nn.toInt64))) - (own_c2J ((nn.toInt64) - (ii.toInt64)))))]))
      refine Runs.by (fun _ hr => XS.iconst X13.here hx rfl (hb hby at_140) hr) ?_
      show Runs p e below _ (T13.setTop (mkF m 141 #[.val (.int p0), .val (.int p1), .val (.int p2), .val (.int p3), .val (.int p4), .val (.int nn), .val (.int (1 : Int32)), .val (.int ii), .val (.int jj), .val (.int (0 : Int32)), .unset, .unset, .val (.long (nn.toInt64)), .second, .unset, .unset, .unset, .unset, .unset, .unset] [(.int (1 : Int32)), (.int (jj - ii)), (.long (((nn.toInt64) + (own_c2J (nn.toInt64))) - (own_c2J ((nn.toInt64) - (ii.toInt64)))))]))
      refine Runs.by (fun _ hr => XS.isub X13.here hx rfl (hb hby at_141) rfl hr) ?_
      show Runs p e below _ (T13.setTop (mkF m 142 #[.val (.int p0), .val (.int p1), .val (.int p2), .val (.int p3), .val (.int p4), .val (.int nn), .val (.int (1 : Int32)), .val (.int ii), .val (.int jj), .val (.int (0 : Int32)), .unset, .unset, .val (.long (nn.toInt64)), .second, .unset, .unset, .unset, .unset, .unset, .unset] [(.int ((jj - ii) - (1 : Int32))), (.long (((nn.toInt64) + (own_c2J (nn.toInt64))) - (own_c2J ((nn.toInt64) - (ii.toInt64)))))]))
      refine Runs.by (fun _ hr => XS.i2l X13.here hx rfl (hb hby at_142) rfl hr) ?_
      show Runs p e below _ (T13.setTop (mkF m 143 #[.val (.int p0), .val (.int p1), .val (.int p2), .val (.int p3), .val (.int p4), .val (.int nn), .val (.int (1 : Int32)), .val (.int ii), .val (.int jj), .val (.int (0 : Int32)), .unset, .unset, .val (.long (nn.toInt64)), .second, .unset, .unset, .unset, .unset, .unset, .unset] [(.long (((jj - ii) - (1 : Int32)).toInt64)), (.long (((nn.toInt64) + (own_c2J (nn.toInt64))) - (own_c2J ((nn.toInt64) - (ii.toInt64)))))]))
      refine Runs.by (fun _ hr => XS.ladd X13.here hx rfl (hb hby at_143) rfl hr) ?_
      show Runs p e below _ (T13.setTop (mkF m 144 #[.val (.int p0), .val (.int p1), .val (.int p2), .val (.int p3), .val (.int p4), .val (.int nn), .val (.int (1 : Int32)), .val (.int ii), .val (.int jj), .val (.int (0 : Int32)), .unset, .unset, .val (.long (nn.toInt64)), .second, .unset, .unset, .unset, .unset, .unset, .unset] [(.long ((((nn.toInt64) + (own_c2J (nn.toInt64))) - (own_c2J ((nn.toInt64) - (ii.toInt64)))) + (((jj - ii) - (1 : Int32)).toInt64)))]))
      refine Runs.by (fun _ hr => XS.lstore X13.here hx rfl (hb hby at_144) rfl (l' := #[.val (.int p0), .val (.int p1), .val (.int p2), .val (.int p3), .val (.int p4), .val (.int nn), .val (.int (1 : Int32)), .val (.int ii), .val (.int jj), .val (.int (0 : Int32)), .val (.long ((((nn.toInt64) + (own_c2J (nn.toInt64))) - (own_c2J ((nn.toInt64) - (ii.toInt64)))) + (((jj - ii) - (1 : Int32)).toInt64))), .second, .val (.long (nn.toInt64)), .second, .unset, .unset, .unset, .unset, .unset, .unset]) rfl hr) ?_
      show Runs p e below _ (T13.setTop (mkF m 146 #[.val (.int p0), .val (.int p1), .val (.int p2), .val (.int p3), .val (.int p4), .val (.int nn), .val (.int (1 : Int32)), .val (.int ii), .val (.int jj), .val (.int (0 : Int32)), .val (.long ((((nn.toInt64) + (own_c2J (nn.toInt64))) - (own_c2J ((nn.toInt64) - (ii.toInt64)))) + (((jj - ii) - (1 : Int32)).toInt64))), .second, .val (.long (nn.toInt64)), .second, .unset, .unset, .unset, .unset, .unset, .unset] []))
      refine Runs.by (fun _ hr => XS.goto X13.here hx rfl (pc0 := 146) (pc' := 278) rfl (hb hby at_146) (by decide) (by decide) hr) ?_
      have hnum : ((((nn.toInt64) + (own_c2J (nn.toInt64))) - (own_c2J ((nn.toInt64) - (ii.toInt64)))) + (((jj - ii) - (1 : Int32)).toInt64)) = own_L (n + own_ps n I + (J - I - 1)) := own_num1 hn eii ejj (by omega) (by omega) hbn.2
      show Runs p e below _ (T13.setTop (mkF m 278 #[.val (.int p0), .val (.int p1), .val (.int p2), .val (.int p3), .val (.int p4), .val (.int nn), .val (.int (1 : Int32)), .val (.int ii), .val (.int jj), .val (.int (0 : Int32)), .val (.long ((((nn.toInt64) + (own_c2J (nn.toInt64))) - (own_c2J ((nn.toInt64) - (ii.toInt64)))) + (((jj - ii) - (1 : Int32)).toInt64))), .second, .val (.long (nn.toInt64)), .second, .unset, .unset, .unset, .unset, .unset, .unset] []))
      rw [hnum]
      have hsp := own_ps_succ (n := n) (i := I) (by omega)
      have hpl1 := own_ps_le n (I + 1)
      have hN : (n + own_ps n I + (J - I - 1)) < 2 ^ 31 := by omega
      show Runs p e below _ (T13.setTop (mkF m 278 #[.val (.int p0), .val (.int p1), .val (.int p2), .val (.int p3), .val (.int p4), .val (.int nn), .val (.int (1 : Int32)), .val (.int ii), .val (.int jj), .val (.int (0 : Int32)), .val (.long (own_L (n + own_ps n I + (J - I - 1)))), .second, .val (.long (nn.toInt64)), .second, .unset, .unset, .unset, .unset, .unset, .unset] []))
      obtain ⟨T14, h14, X14, e14, E14, A14, D14, -, st14⟩ := newO X13 hx hZ hown (hw _ (List.mem_of_getElem? (i := 1) rfl)) (hw _ (List.mem_of_getElem? (i := 2) rfl)) (hw _ (List.mem_of_getElem? (i := 3) rfl)) eq13 (g := (mkF m 278 #[.val (.int p0), .val (.int p1), .val (.int p2), .val (.int p3), .val (.int p4), .val (.int nn), .val (.int (1 : Int32)), .val (.int ii), .val (.int jj), .val (.int (0 : Int32)), .val (.long (own_L (n + own_ps n I + (J - I - 1)))), .second, .val (.long (nn.toInt64)), .second, .unset, .unset, .unset, .unset, .unset, .unset] [])) rfl (hb hby at_278) (by decide) (by decide)
      obtain ⟨b14, gz14⟩ : ∃ z, z = h0.size := ⟨_, rfl⟩
      rw [← gz14] at A14 D14 st14
      have g_b14 : n0 ≤ b14 := Nat.le_trans (Nat.le_trans Z0 K0.1) (Nat.le_of_eq gz14.symm)
      have sz_b14 : h0.size ≤ b14 := Nat.le_trans K0.1 (Nat.le_of_eq gz14.symm)
      have K15 : Keep h0 h14 [] := K0.ext E14
      have F_keywords_b14 : Fld Z h14 b14 "com/example/fapre/fapre/KeywordSets" "keywords" "I" (.int (0 : Int32)) := D14 (Or.inr (hw _ (List.mem_of_getElem? (i := 11) rfl))) (ty := .int) (by decide)
      have F_pairStarts_b14 : Fld Z h14 b14 "com/example/fapre/fapre/KeywordSets" "pairStarts" "[J" .null := D14 (Or.inr (hw _ (List.mem_of_getElem? (i := 14) rfl))) (ty := (.array .long)) (by decide)
      have F_tripleStarts_b14 : Fld Z h14 b14 "com/example/fapre/fapre/KeywordSets" "tripleStarts" "[J" .null := D14 (Or.inr (hw _ (List.mem_of_getElem? (i := 16) rfl))) (ty := (.array .long)) (by decide)
      have F_pairs_b14 : Fld Z h14 b14 "com/example/fapre/fapre/KeywordSets" "pairs" "J" (.long (0 : Int64)) := D14 (Or.inr (hw _ (List.mem_of_getElem? (i := 19) rfl))) (ty := .long) (by decide)
      have F_size_b14 : Fld Z h14 b14 "com/example/fapre/fapre/KeywordSets" "size" "I" (.int (0 : Int32)) := D14 (Or.inr (hw _ (List.mem_of_getElem? (i := 22) rfl))) (ty := .int) (by decide)
      refine Runs.by st14 ?_
      show Runs p e below _ (T14.setTop (mkF m 281 #[.val (.int p0), .val (.int p1), .val (.int p2), .val (.int p3), .val (.int p4), .val (.int nn), .val (.int (1 : Int32)), .val (.int ii), .val (.int jj), .val (.int (0 : Int32)), .val (.long (own_L (n + own_ps n I + (J - I - 1)))), .second, .val (.long (nn.toInt64)), .second, .unset, .unset, .unset, .unset, .unset, .unset] [(.ref b14)]))
      refine Runs.by (fun _ hr => XS.dup X14.here hx rfl (hb hby at_281) rfl rfl hr) ?_
      show Runs p e below _ (T14.setTop (mkF m 282 #[.val (.int p0), .val (.int p1), .val (.int p2), .val (.int p3), .val (.int p4), .val (.int nn), .val (.int (1 : Int32)), .val (.int ii), .val (.int jj), .val (.int (0 : Int32)), .val (.long (own_L (n + own_ps n I + (J - I - 1)))), .second, .val (.long (nn.toInt64)), .second, .unset, .unset, .unset, .unset, .unset, .unset] [(.ref b14), (.ref b14)]))
      refine Runs.by (fun _ hr => XS.iload X14.here hx rfl (hb hby at_282) rfl  hr) ?_
      show Runs p e below _ (T14.setTop (mkF m 284 #[.val (.int p0), .val (.int p1), .val (.int p2), .val (.int p3), .val (.int p4), .val (.int nn), .val (.int (1 : Int32)), .val (.int ii), .val (.int jj), .val (.int (0 : Int32)), .val (.long (own_L (n + own_ps n I + (J - I - 1)))), .second, .val (.long (nn.toInt64)), .second, .unset, .unset, .unset, .unset, .unset, .unset] [(.int nn), (.ref b14), (.ref b14)]))
      obtain ⟨_, _, ⟨T16, L16, k16, n16⟩, -, X16, ⟨Lc16, hQ16, l16, y16, z16⟩, st16⟩ := X14.specialBack hx (y := (⟨"com/example/fapre/fapre/KeywordSets", "<init>", "(I)V"⟩ : MethodName)) rfl hown (mvT hZ (hw _ (List.mem_of_getElem? (i := 4) rfl))) (mvT hZ (hw _ (List.mem_of_getElem? (i := 5) rfl))) (mvT hZ (hw _ (List.mem_of_getElem? (i := 6) rfl))) (by decide) (backOf (W := 1) (rm1 l Z a0 hw [] b14 nn n h14 n0 (Nat.le_trans Z0 K15.1) A14 F_keywords_b14 F_pairs_b14 F_size_b14 F_pairStarts_b14 F_tripleStarts_b14 g_b14 hn hbn) hZ (hw _ (List.mem_of_getElem? (i := 6) rfl)) (hw _ (List.mem_of_getElem? (i := 3) rfl)) (by decide) (by decide)) (g := (mkF m 284 #[.val (.int p0), .val (.int p1), .val (.int p2), .val (.int p3), .val (.int p4), .val (.int nn), .val (.int (1 : Int32)), .val (.int ii), .val (.int jj), .val (.int (0 : Int32)), .val (.long (own_L (n + own_ps n I + (J - I - 1)))), .second, .val (.long (nn.toInt64)), .second, .unset, .unset, .unset, .unset, .unset, .unset] [(.int nn), (.ref b14), (.ref b14)])) rfl (by rw [hml]; rfl) (Steps.refl _) (a := b14) (argsL := [(.int nn)]) (rest := [(.ref b14)]) (lenOf pd_2 rfl) rfl (by show 2 * 0 + _ ≤ _; exact Nat.le_of_eq rfl) (hb hby at_284) (fun _ _ => ⟨rfl, e14, (by decide : 1 + 2 ≤ _), (by decide : 5 + 4690 ≤ _)⟩)
      dsimp only [Pt.U, Pt.locs, Pt.cells, Pt.slots] at X16 l16 y16 z16 st16 hQ16
      subst l16 y16 z16
      obtain ⟨rfl, Nq16, Kq16, f16_0, f16_1, f16_2, f16_3, y16, ky16, g_y16, szq_y16, f16_4, f16_5, u16, ku16, g_u16, szq_u16, f16_6, f16_7⟩ := hQ16
      have N16 := Fr.app N13 Nq16
      have ne_b14_y16 : b14 ≠ y16 := Nat.ne_of_lt (Nat.lt_of_lt_of_le A14.lt szq_y16)
      have sz_y16 : h0.size ≤ y16 := Nat.le_trans K15.1 szq_y16
      have ne_b14_u16 : b14 ≠ u16 := Nat.ne_of_lt (Nat.lt_of_lt_of_le A14.lt szq_u16)
      have sz_u16 : h0.size ≤ u16 := Nat.le_trans K15.1 szq_u16
      have K17 : Keep h0 T16.heap [] := Keep.trans (ws := []) K15 Kq16 (allS (Or.inr sz_b14) all0)
      refine Runs.by (fun _ hr => st16.trans hr) ?_
      show Runs p e below _ (T16.setTop (mkF m 287 #[.val (.int p0), .val (.int p1), .val (.int p2), .val (.int p3), .val (.int p4), .val (.int nn), .val (.int (1 : Int32)), .val (.int ii), .val (.int jj), .val (.int (0 : Int32)), .val (.long (own_L (n + own_ps n I + (J - I - 1)))), .second, .val (.long (nn.toInt64)), .second, .unset, .unset, .unset, .unset, .unset, .unset] [(.ref b14)]))
      refine Runs.by (fun _ hr => XS.astore X16.here hx rfl (hb hby at_287) rfl rfl (l' := #[.val (.int p0), .val (.int p1), .val (.int p2), .val (.int p3), .val (.int p4), .val (.int nn), .val (.int (1 : Int32)), .val (.int ii), .val (.int jj), .val (.int (0 : Int32)), .val (.long (own_L (n + own_ps n I + (J - I - 1)))), .second, .val (.long (nn.toInt64)), .second, .val (.ref b14), .unset, .unset, .unset, .unset, .unset]) rfl hr) ?_
      show Runs p e below _ (T16.setTop (mkF m 289 #[.val (.int p0), .val (.int p1), .val (.int p2), .val (.int p3), .val (.int p4), .val (.int nn), .val (.int (1 : Int32)), .val (.int ii), .val (.int jj), .val (.int (0 : Int32)), .val (.long (own_L (n + own_ps n I + (J - I - 1)))), .second, .val (.long (nn.toInt64)), .second, .val (.ref b14), .unset, .unset, .unset, .unset, .unset] []))
      refine Runs.by (fun _ hr => XS.lload X16.here hx rfl (hb hby at_289) rfl  hr) ?_
      show Runs p e below _ (T16.setTop (mkF m 291 #[.val (.int p0), .val (.int p1), .val (.int p2), .val (.int p3), .val (.int p4), .val (.int nn), .val (.int (1 : Int32)), .val (.int ii), .val (.int jj), .val (.int (0 : Int32)), .val (.long (own_L (n + own_ps n I + (J - I - 1)))), .second, .val (.long (nn.toInt64)), .second, .val (.ref b14), .unset, .unset, .unset, .unset, .unset] [(.long (nn.toInt64))]))
      refine Runs.by (fun _ hr => XS.lload X16.here hx rfl (hb hby at_291) rfl  hr) ?_
      show Runs p e below _ (T16.setTop (mkF m 293 #[.val (.int p0), .val (.int p1), .val (.int p2), .val (.int p3), .val (.int p4), .val (.int nn), .val (.int (1 : Int32)), .val (.int ii), .val (.int jj), .val (.int (0 : Int32)), .val (.long (own_L (n + own_ps n I + (J - I - 1)))), .second, .val (.long (nn.toInt64)), .second, .val (.ref b14), .unset, .unset, .unset, .unset, .unset] [(.long (nn.toInt64)), (.long (nn.toInt64))]))
      obtain ⟨_, _, ⟨T18, L18, k18, n18⟩, -, X18, ⟨Lc18, hQ18, l18, y18, z18⟩, st18⟩ := Jvm.LawKit.callS X16 hx (y := (⟨"com/example/fapre/fapre/KeywordSetsPlacesPinLaw", "c2", "(J)J"⟩ : MethodName)) hown (mvT hZ (hw _ (List.mem_of_getElem? (i := 23) rfl))) (mvT hZ (hw _ (List.mem_of_getElem? (i := 24) rfl))) (mvT hZ (hw _ (List.mem_of_getElem? (i := 25) rfl))) (mvT hZ (hw _ (List.mem_of_getElem? (i := 26) rfl))) (by decide) (backOf (W := 2) (rm3 l Z a0 hw [] (nn.toInt64)  T16.heap n0 (Nat.le_trans Z0 K17.1) ) hZ (hw _ (List.mem_of_getElem? (i := 26) rfl)) (hw _ (List.mem_of_getElem? (i := 25) rfl)) (by decide) (by decide)) (g := (mkF m 293 #[.val (.int p0), .val (.int p1), .val (.int p2), .val (.int p3), .val (.int p4), .val (.int nn), .val (.int (1 : Int32)), .val (.int ii), .val (.int jj), .val (.int (0 : Int32)), .val (.long (own_L (n + own_ps n I + (J - I - 1)))), .second, .val (.long (nn.toInt64)), .second, .val (.ref b14), .unset, .unset, .unset, .unset, .unset] [(.long (nn.toInt64)), (.long (nn.toInt64))])) rfl (by rw [hml]; rfl) (argsL := [(.long (nn.toInt64))]) (rest := [(.long (nn.toInt64))]) (lenOf pd_3 rfl) rfl (by show 2 * 0 + _ ≤ _; exact Nat.le_of_eq rfl) (hb hby at_293) (fun _ _ => ⟨rfl, rfl, (by decide : 3 + 0 ≤ _), (by decide : 4695 + 0 ≤ _)⟩)
      dsimp only [Pt.U, Pt.locs, Pt.cells, Pt.slots] at X18 l18 y18 z18 st18 hQ18
      subst l18 y18 z18
      obtain ⟨rfl, Nq18, eq18⟩ := hQ18
      have N18 := Fr.app N16 Nq18
      refine Runs.by (fun t hr => st18 t hr) ?_
      show Runs p e below _ (T18.setTop (mkF m 296 #[.val (.int p0), .val (.int p1), .val (.int p2), .val (.int p3), .val (.int p4), .val (.int nn), .val (.int (1 : Int32)), .val (.int ii), .val (.int jj), .val (.int (0 : Int32)), .val (.long (own_L (n + own_ps n I + (J - I - 1)))), .second, .val (.long (nn.toInt64)), .second, .val (.ref b14), .unset, .unset, .unset, .unset, .unset] [(.long (own_c2J (nn.toInt64))), (.long (nn.toInt64))]))
      refine Runs.by (fun _ hr => XS.ladd X18.here hx rfl (hb hby at_296) rfl hr) ?_
      show Runs p e below _ (T18.setTop (mkF m 297 #[.val (.int p0), .val (.int p1), .val (.int p2), .val (.int p3), .val (.int p4), .val (.int nn), .val (.int (1 : Int32)), .val (.int ii), .val (.int jj), .val (.int (0 : Int32)), .val (.long (own_L (n + own_ps n I + (J - I - 1)))), .second, .val (.long (nn.toInt64)), .second, .val (.ref b14), .unset, .unset, .unset, .unset, .unset] [(.long ((nn.toInt64) + (own_c2J (nn.toInt64))))]))
      refine Runs.by (fun _ hr => XS.lload X18.here hx rfl (hb hby at_297) rfl  hr) ?_
      show Runs p e below _ (T18.setTop (mkF m 299 #[.val (.int p0), .val (.int p1), .val (.int p2), .val (.int p3), .val (.int p4), .val (.int nn), .val (.int (1 : Int32)), .val (.int ii), .val (.int jj), .val (.int (0 : Int32)), .val (.long (own_L (n + own_ps n I + (J - I - 1)))), .second, .val (.long (nn.toInt64)), .second, .val (.ref b14), .unset, .unset, .unset, .unset, .unset] [(.long (nn.toInt64)), (.long ((nn.toInt64) + (own_c2J (nn.toInt64))))]))
      obtain ⟨_, _, ⟨T19, L19, k19, n19⟩, -, X19, ⟨Lc19, hQ19, l19, y19, z19⟩, st19⟩ := Jvm.LawKit.callS X18 hx (y := (⟨"com/example/fapre/fapre/KeywordSetsPlacesPinLaw", "c3", "(J)J"⟩ : MethodName)) hown (mvT hZ (hw _ (List.mem_of_getElem? (i := 28) rfl))) (mvT hZ (hw _ (List.mem_of_getElem? (i := 29) rfl))) (mvT hZ (hw _ (List.mem_of_getElem? (i := 25) rfl))) (mvT hZ (hw _ (List.mem_of_getElem? (i := 30) rfl))) (by decide) (backOf (W := 2) (rm4 l Z a0 hw [] (nn.toInt64)  T16.heap n0 (Nat.le_trans Z0 K17.1) ) hZ (hw _ (List.mem_of_getElem? (i := 30) rfl)) (hw _ (List.mem_of_getElem? (i := 25) rfl)) (by decide) (by decide)) (g := (mkF m 299 #[.val (.int p0), .val (.int p1), .val (.int p2), .val (.int p3), .val (.int p4), .val (.int nn), .val (.int (1 : Int32)), .val (.int ii), .val (.int jj), .val (.int (0 : Int32)), .val (.long (own_L (n + own_ps n I + (J - I - 1)))), .second, .val (.long (nn.toInt64)), .second, .val (.ref b14), .unset, .unset, .unset, .unset, .unset] [(.long (nn.toInt64)), (.long ((nn.toInt64) + (own_c2J (nn.toInt64))))])) rfl (by rw [hml]; rfl) (argsL := [(.long (nn.toInt64))]) (rest := [(.long ((nn.toInt64) + (own_c2J (nn.toInt64))))]) (lenOf pd_3 rfl) rfl (by show 2 * 0 + _ ≤ _; exact Nat.le_of_eq rfl) (hb hby at_299) (fun _ _ => ⟨rfl, eq18, (by decide : 3 + 0 ≤ _), (by decide : 4695 + 0 ≤ _)⟩)
      dsimp only [Pt.U, Pt.locs, Pt.cells, Pt.slots] at X19 l19 y19 z19 st19 hQ19
      subst l19 y19 z19
      obtain ⟨rfl, Nq19, eq19⟩ := hQ19
      have N19 := Fr.app N18 Nq19
      refine Runs.by (fun t hr => st19 t hr) ?_
      show Runs p e below _ (T19.setTop (mkF m 302 #[.val (.int p0), .val (.int p1), .val (.int p2), .val (.int p3), .val (.int p4), .val (.int nn), .val (.int (1 : Int32)), .val (.int ii), .val (.int jj), .val (.int (0 : Int32)), .val (.long (own_L (n + own_ps n I + (J - I - 1)))), .second, .val (.long (nn.toInt64)), .second, .val (.ref b14), .unset, .unset, .unset, .unset, .unset] [(.long (own_c3J (nn.toInt64))), (.long ((nn.toInt64) + (own_c2J (nn.toInt64))))]))
      refine Runs.by (fun _ hr => XS.ladd X19.here hx rfl (hb hby at_302) rfl hr) ?_
      show Runs p e below _ (T19.setTop (mkF m 303 #[.val (.int p0), .val (.int p1), .val (.int p2), .val (.int p3), .val (.int p4), .val (.int nn), .val (.int (1 : Int32)), .val (.int ii), .val (.int jj), .val (.int (0 : Int32)), .val (.long (own_L (n + own_ps n I + (J - I - 1)))), .second, .val (.long (nn.toInt64)), .second, .val (.ref b14), .unset, .unset, .unset, .unset, .unset] [(.long (((nn.toInt64) + (own_c2J (nn.toInt64))) + (own_c3J (nn.toInt64))))]))
      refine Runs.by (fun _ hr => XS.lstore X19.here hx rfl (hb hby at_303) rfl (l' := #[.val (.int p0), .val (.int p1), .val (.int p2), .val (.int p3), .val (.int p4), .val (.int nn), .val (.int (1 : Int32)), .val (.int ii), .val (.int jj), .val (.int (0 : Int32)), .val (.long (own_L (n + own_ps n I + (J - I - 1)))), .second, .val (.long (nn.toInt64)), .second, .val (.ref b14), .val (.long (((nn.toInt64) + (own_c2J (nn.toInt64))) + (own_c3J (nn.toInt64)))), .second, .unset, .unset, .unset]) rfl hr) ?_
      have hexp : (((nn.toInt64) + (own_c2J (nn.toInt64))) + (own_c3J (nn.toInt64))) = own_L (n + own_c2 n + own_c3 n) := by rw [own_wide hn, own_c2J_eq (by omega), own_c3J_eq (by omega), own_Ladd (by omega), own_Ladd (by omega)]
      show Runs p e below _ (T19.setTop (mkF m 305 #[.val (.int p0), .val (.int p1), .val (.int p2), .val (.int p3), .val (.int p4), .val (.int nn), .val (.int (1 : Int32)), .val (.int ii), .val (.int jj), .val (.int (0 : Int32)), .val (.long (own_L (n + own_ps n I + (J - I - 1)))), .second, .val (.long (nn.toInt64)), .second, .val (.ref b14), .val (.long (((nn.toInt64) + (own_c2J (nn.toInt64))) + (own_c3J (nn.toInt64)))), .second, .unset, .unset, .unset] []))
      rw [hexp]
      show Runs p e below _ (T19.setTop (mkF m 305 #[.val (.int p0), .val (.int p1), .val (.int p2), .val (.int p3), .val (.int p4), .val (.int nn), .val (.int (1 : Int32)), .val (.int ii), .val (.int jj), .val (.int (0 : Int32)), .val (.long (own_L (n + own_ps n I + (J - I - 1)))), .second, .val (.long (nn.toInt64)), .second, .val (.ref b14), .val (.long (own_L (n + own_c2 n + own_c3 n))), .second, .unset, .unset, .unset] []))
      refine Runs.by (fun _ hr => XS.aload X19.here hx rfl (hb hby at_305) rfl rfl hr) ?_
      show Runs p e below _ (T19.setTop (mkF m 307 #[.val (.int p0), .val (.int p1), .val (.int p2), .val (.int p3), .val (.int p4), .val (.int nn), .val (.int (1 : Int32)), .val (.int ii), .val (.int jj), .val (.int (0 : Int32)), .val (.long (own_L (n + own_ps n I + (J - I - 1)))), .second, .val (.long (nn.toInt64)), .second, .val (.ref b14), .val (.long (own_L (n + own_c2 n + own_c3 n))), .second, .unset, .unset, .unset] [(.ref b14)]))
      obtain ⟨cq20, kq20, q20a, q20b, q20c⟩ := isOf hZ eq19 f16_0
      obtain ⟨_, _, ⟨T20, L20, k20, n20⟩, -, X20, ⟨Lc20, hQ20, l20, y20, z20⟩, st20⟩ := X19.virtualBack hx (y := (⟨"com/example/fapre/fapre/KeywordSets", "size", "()I"⟩ : MethodName)) (z := (⟨"com/example/fapre/fapre/KeywordSets", "size", "()I"⟩ : MethodName)) hown (mvT hZ (hw _ (List.mem_of_getElem? (i := 32) rfl))) (mvT hZ (hw _ (List.mem_of_getElem? (i := 33) rfl))) (notFace_of_selects (args := #[]) (mvT hZ (hw _ (List.mem_of_getElem? (i := 35) rfl)))) (mvT hZ (hw _ (List.mem_of_getElem? (i := 35) rfl))) (mvT hZ (hw _ (List.mem_of_getElem? (i := 34) rfl))) (by decide) (backOf (W := 0) (rm5 l Z a0 hw [] b14 ((own_L (n + own_c2 n + own_c3 n)).toInt32) T16.heap n0 (Nat.le_trans Z0 K17.1) f16_3) hZ (hw _ (List.mem_of_getElem? (i := 36) rfl)) (hw _ (List.mem_of_getElem? (i := 3) rfl)) (by decide) (by decide)) q20a q20c (g := (mkF m 307 #[.val (.int p0), .val (.int p1), .val (.int p2), .val (.int p3), .val (.int p4), .val (.int nn), .val (.int (1 : Int32)), .val (.int ii), .val (.int jj), .val (.int (0 : Int32)), .val (.long (own_L (n + own_ps n I + (J - I - 1)))), .second, .val (.long (nn.toInt64)), .second, .val (.ref b14), .val (.long (own_L (n + own_c2 n + own_c3 n))), .second, .unset, .unset, .unset] [(.ref b14)])) rfl (by rw [hml]; rfl) (Steps.refl _) (argsL := []) (rest := []) (lenOf pd_4 rfl) rfl (by show 2 * 0 + _ ≤ _; exact Nat.le_of_eq rfl) (hb hby at_307) (fun _ _ => ⟨rfl, eq19, (by decide : 3 + 0 ≤ _), (by decide : 4695 + 0 ≤ _)⟩)
      dsimp only [Pt.U, Pt.locs, Pt.cells, Pt.slots] at X20 l20 y20 z20 st20 hQ20
      subst l20 y20 z20
      obtain ⟨rfl, Nq20, eq20⟩ := hQ20
      have N20 := Fr.app N19 Nq20
      refine Runs.by (fun _ hr => st20.trans hr) ?_
      show Runs p e below _ (T20.setTop (mkF m 310 #[.val (.int p0), .val (.int p1), .val (.int p2), .val (.int p3), .val (.int p4), .val (.int nn), .val (.int (1 : Int32)), .val (.int ii), .val (.int jj), .val (.int (0 : Int32)), .val (.long (own_L (n + own_ps n I + (J - I - 1)))), .second, .val (.long (nn.toInt64)), .second, .val (.ref b14), .val (.long (own_L (n + own_c2 n + own_c3 n))), .second, .unset, .unset, .unset] [(.int (own_L (n + own_c2 n + own_c3 n)).toInt32)]))
      refine Runs.by (fun _ hr => XS.i2l X20.here hx rfl (hb hby at_310) rfl hr) ?_
      show Runs p e below _ (T20.setTop (mkF m 311 #[.val (.int p0), .val (.int p1), .val (.int p2), .val (.int p3), .val (.int p4), .val (.int nn), .val (.int (1 : Int32)), .val (.int ii), .val (.int jj), .val (.int (0 : Int32)), .val (.long (own_L (n + own_ps n I + (J - I - 1)))), .second, .val (.long (nn.toInt64)), .second, .val (.ref b14), .val (.long (own_L (n + own_c2 n + own_c3 n))), .second, .unset, .unset, .unset] [(.long ((own_L (n + own_c2 n + own_c3 n)).toInt32.toInt64))]))
      refine Runs.by (fun _ hr => XS.lload X20.here hx rfl (hb hby at_311) rfl  hr) ?_
      show Runs p e below _ (T20.setTop (mkF m 313 #[.val (.int p0), .val (.int p1), .val (.int p2), .val (.int p3), .val (.int p4), .val (.int nn), .val (.int (1 : Int32)), .val (.int ii), .val (.int jj), .val (.int (0 : Int32)), .val (.long (own_L (n + own_ps n I + (J - I - 1)))), .second, .val (.long (nn.toInt64)), .second, .val (.ref b14), .val (.long (own_L (n + own_c2 n + own_c3 n))), .second, .unset, .unset, .unset] [(.long (own_L (n + own_c2 n + own_c3 n))), (.long ((own_L (n + own_c2 n + own_c3 n)).toInt32.toInt64))]))
      refine Runs.by (fun _ hr => XS.lcmp X20.here hx rfl (hb hby at_313) rfl hr) ?_
      show Runs p e below _ (T20.setTop (mkF m 314 #[.val (.int p0), .val (.int p1), .val (.int p2), .val (.int p3), .val (.int p4), .val (.int nn), .val (.int (1 : Int32)), .val (.int ii), .val (.int jj), .val (.int (0 : Int32)), .val (.long (own_L (n + own_ps n I + (J - I - 1)))), .second, .val (.long (nn.toInt64)), .second, .val (.ref b14), .val (.long (own_L (n + own_c2 n + own_c3 n))), .second, .unset, .unset, .unset] [(.int (lcmpW ((own_L (n + own_c2 n + own_c3 n)).toInt32.toInt64) (own_L (n + own_c2 n + own_c3 n))))]))
      have hc314 : (lcmpW ((own_L (n + own_c2 n + own_c3 n)).toInt32.toInt64) (own_L (n + own_c2 n + own_c3 n))) = (0 : Int32) := own_lceq (own_LI32w (by omega))
      refine Runs.by (fun _ hr => XS.ifYes X20.here hx rfl (pc0 := 314) (pc' := 319) rfl (hb hby at_314) rfl ((if0 _ _).trans (teq hc314).1) (by decide) (by decide) hr) ?_
      show Runs p e below _ (T20.setTop (mkF m 319 #[.val (.int p0), .val (.int p1), .val (.int p2), .val (.int p3), .val (.int p4), .val (.int nn), .val (.int (1 : Int32)), .val (.int ii), .val (.int jj), .val (.int (0 : Int32)), .val (.long (own_L (n + own_ps n I + (J - I - 1)))), .second, .val (.long (nn.toInt64)), .second, .val (.ref b14), .val (.long (own_L (n + own_c2 n + own_c3 n))), .second, .unset, .unset, .unset] []))
      refine Runs.by (fun _ hr => XS.aload X20.here hx rfl (hb hby at_319) rfl rfl hr) ?_
      show Runs p e below _ (T20.setTop (mkF m 321 #[.val (.int p0), .val (.int p1), .val (.int p2), .val (.int p3), .val (.int p4), .val (.int nn), .val (.int (1 : Int32)), .val (.int ii), .val (.int jj), .val (.int (0 : Int32)), .val (.long (own_L (n + own_ps n I + (J - I - 1)))), .second, .val (.long (nn.toInt64)), .second, .val (.ref b14), .val (.long (own_L (n + own_c2 n + own_c3 n))), .second, .unset, .unset, .unset] [(.ref b14)]))
      refine Runs.by (fun _ hr => XS.lload X20.here hx rfl (hb hby at_321) rfl  hr) ?_
      show Runs p e below _ (T20.setTop (mkF m 323 #[.val (.int p0), .val (.int p1), .val (.int p2), .val (.int p3), .val (.int p4), .val (.int nn), .val (.int (1 : Int32)), .val (.int ii), .val (.int jj), .val (.int (0 : Int32)), .val (.long (own_L (n + own_ps n I + (J - I - 1)))), .second, .val (.long (nn.toInt64)), .second, .val (.ref b14), .val (.long (own_L (n + own_c2 n + own_c3 n))), .second, .unset, .unset, .unset] [(.long (own_L (n + own_ps n I + (J - I - 1)))), (.ref b14)]))
      refine Runs.by (fun _ hr => XS.l2i X20.here hx rfl (hb hby at_323) rfl hr) ?_
      have hNi : ((own_L (n + own_ps n I + (J - I - 1))).toInt32).toInt = ((n + own_ps n I + (J - I - 1)) : Nat) := own_LI32 hN
      show Runs p e below _ (T20.setTop (mkF m 324 #[.val (.int p0), .val (.int p1), .val (.int p2), .val (.int p3), .val (.int p4), .val (.int nn), .val (.int (1 : Int32)), .val (.int ii), .val (.int jj), .val (.int (0 : Int32)), .val (.long (own_L (n + own_ps n I + (J - I - 1)))), .second, .val (.long (nn.toInt64)), .second, .val (.ref b14), .val (.long (own_L (n + own_c2 n + own_c3 n))), .second, .unset, .unset, .unset] [(.int ((own_L (n + own_ps n I + (J - I - 1))).toInt32)), (.ref b14)]))
      obtain ⟨cq21, kq21, q21a, q21b, q21c⟩ := isOf hZ eq20 f16_0
      obtain ⟨_, _, ⟨T21, L21, k21, n21⟩, -, X21, ⟨Lc21, hQ21, l21, y21, z21⟩, st21⟩ := X20.virtualBack hx (y := (⟨"com/example/fapre/fapre/KeywordSets", "places", "(I)[I"⟩ : MethodName)) (z := (⟨"com/example/fapre/fapre/KeywordSets", "places", "(I)[I"⟩ : MethodName)) hown (mvT hZ (hw _ (List.mem_of_getElem? (i := 37) rfl))) (mvT hZ (hw _ (List.mem_of_getElem? (i := 38) rfl))) (notFace_of_selects (args := #[]) (mvT hZ (hw _ (List.mem_of_getElem? (i := 40) rfl)))) (mvT hZ (hw _ (List.mem_of_getElem? (i := 40) rfl))) (mvT hZ (hw _ (List.mem_of_getElem? (i := 39) rfl))) (by decide) (backOf (W := 0) (rm6_1 l Z a0 hw [] b14 ((own_L (n + own_ps n I + (J - I - 1))).toInt32) nn n y16 ky16 u16 ku16 (nn + (1 : Int32)) I J ii jj T16.heap n0 (Nat.le_trans Z0 K17.1) f16_0 f16_1 f16_2 f16_3 f16_4 f16_6 f16_5 f16_7 hn hbn hz (by omega) eii ejj (by rw [hNi])) hZ (hw _ (List.mem_of_getElem? (i := 41) rfl)) (hw _ (List.mem_of_getElem? (i := 3) rfl)) (by decide) (by decide)) q21a q21c (g := (mkF m 324 #[.val (.int p0), .val (.int p1), .val (.int p2), .val (.int p3), .val (.int p4), .val (.int nn), .val (.int (1 : Int32)), .val (.int ii), .val (.int jj), .val (.int (0 : Int32)), .val (.long (own_L (n + own_ps n I + (J - I - 1)))), .second, .val (.long (nn.toInt64)), .second, .val (.ref b14), .val (.long (own_L (n + own_c2 n + own_c3 n))), .second, .unset, .unset, .unset] [(.int ((own_L (n + own_ps n I + (J - I - 1))).toInt32)), (.ref b14)])) rfl (by rw [hml]; rfl) (Steps.refl _) (argsL := [(.int ((own_L (n + own_ps n I + (J - I - 1))).toInt32))]) (rest := []) (lenOf pd_5 rfl) rfl (by show 2 * 0 + _ ≤ _; exact Nat.le_of_eq rfl) (hb hby at_324) (fun _ _ => ⟨rfl, eq20, (by decide : 3 + 1 ≤ _), (by decide : 4695 + 2 ≤ _)⟩)
      dsimp only [Pt.U, Pt.locs, Pt.cells, Pt.slots] at X21 l21 y21 z21 st21 hQ21
      subst l21 y21 z21
      obtain ⟨y21, ky21, rfl, Nq21, Kq21, g_y21, szq_y21, f21_0⟩ := hQ21
      have N21 := Fr.app N20 Nq21
      have ne_b14_y21 : b14 ≠ y21 := Nat.ne_of_lt (Nat.lt_of_lt_of_le f16_0.lt szq_y21)
      have ne_y16_y21 : y16 ≠ y21 := Nat.ne_of_lt (Nat.lt_of_lt_of_le f16_5.lt szq_y21)
      have ne_u16_y21 : u16 ≠ y21 := Nat.ne_of_lt (Nat.lt_of_lt_of_le f16_7.lt szq_y21)
      have sz_y21 : h0.size ≤ y21 := Nat.le_trans K17.1 szq_y21
      have K22 : Keep h0 T21.heap [] := Keep.trans (ws := []) K17 Kq21 all0
      refine Runs.by (fun _ hr => st21.trans hr) ?_
      show Runs p e below _ (T21.setTop (mkF m 327 #[.val (.int p0), .val (.int p1), .val (.int p2), .val (.int p3), .val (.int p4), .val (.int nn), .val (.int (1 : Int32)), .val (.int ii), .val (.int jj), .val (.int (0 : Int32)), .val (.long (own_L (n + own_ps n I + (J - I - 1)))), .second, .val (.long (nn.toInt64)), .second, .val (.ref b14), .val (.long (own_L (n + own_c2 n + own_c3 n))), .second, .unset, .unset, .unset] [(.ref y21)]))
      refine Runs.by (fun _ hr => XS.astore X21.here hx rfl (hb hby at_327) rfl rfl (l' := #[.val (.int p0), .val (.int p1), .val (.int p2), .val (.int p3), .val (.int p4), .val (.int nn), .val (.int (1 : Int32)), .val (.int ii), .val (.int jj), .val (.int (0 : Int32)), .val (.long (own_L (n + own_ps n I + (J - I - 1)))), .second, .val (.long (nn.toInt64)), .second, .val (.ref b14), .val (.long (own_L (n + own_c2 n + own_c3 n))), .second, .val (.ref y21), .unset, .unset]) rfl hr) ?_
      show Runs p e below _ (T21.setTop (mkF m 329 #[.val (.int p0), .val (.int p1), .val (.int p2), .val (.int p3), .val (.int p4), .val (.int nn), .val (.int (1 : Int32)), .val (.int ii), .val (.int jj), .val (.int (0 : Int32)), .val (.long (own_L (n + own_ps n I + (J - I - 1)))), .second, .val (.long (nn.toInt64)), .second, .val (.ref b14), .val (.long (own_L (n + own_c2 n + own_c3 n))), .second, .val (.ref y21), .unset, .unset] []))
      refine Runs.by (fun _ hr => XS.aload X21.here hx rfl (hb hby at_329) rfl rfl hr) ?_
      show Runs p e below _ (T21.setTop (mkF m 331 #[.val (.int p0), .val (.int p1), .val (.int p2), .val (.int p3), .val (.int p4), .val (.int nn), .val (.int (1 : Int32)), .val (.int ii), .val (.int jj), .val (.int (0 : Int32)), .val (.long (own_L (n + own_ps n I + (J - I - 1)))), .second, .val (.long (nn.toInt64)), .second, .val (.ref b14), .val (.long (own_L (n + own_c2 n + own_c3 n))), .second, .val (.ref y21), .unset, .unset] [(.ref y21)]))
      refine Runs.by (fun _ hr => XS.ifnonnullYes X21.here hx rfl (pc0 := 331) (pc' := 336) rfl (hb hby at_331) rfl (by decide) (by decide) hr) ?_
      show Runs p e below _ (T21.setTop (mkF m 336 #[.val (.int p0), .val (.int p1), .val (.int p2), .val (.int p3), .val (.int p4), .val (.int nn), .val (.int (1 : Int32)), .val (.int ii), .val (.int jj), .val (.int (0 : Int32)), .val (.long (own_L (n + own_ps n I + (J - I - 1)))), .second, .val (.long (nn.toInt64)), .second, .val (.ref b14), .val (.long (own_L (n + own_c2 n + own_c3 n))), .second, .val (.ref y21), .unset, .unset] []))
      refine Runs.by (fun _ hr => XS.iload X21.here hx rfl (hb hby at_336) rfl  hr) ?_
      show Runs p e below _ (T21.setTop (mkF m 338 #[.val (.int p0), .val (.int p1), .val (.int p2), .val (.int p3), .val (.int p4), .val (.int nn), .val (.int (1 : Int32)), .val (.int ii), .val (.int jj), .val (.int (0 : Int32)), .val (.long (own_L (n + own_ps n I + (J - I - 1)))), .second, .val (.long (nn.toInt64)), .second, .val (.ref b14), .val (.long (own_L (n + own_c2 n + own_c3 n))), .second, .val (.ref y21), .unset, .unset] [(.int (1 : Int32))]))
      have hc338 : ¬ ((1 : Int32) = (0 : Int32)) := (by decide)
      refine Runs.by (fun _ hr => XS.ifYes X21.here hx rfl (pc0 := 338) (pc' := 363) rfl (hb hby at_338) rfl ((if0 _ _).trans (feq hc338).2) (by decide) (by decide) hr) ?_
      show Runs p e below _ (T21.setTop (mkF m 363 #[.val (.int p0), .val (.int p1), .val (.int p2), .val (.int p3), .val (.int p4), .val (.int nn), .val (.int (1 : Int32)), .val (.int ii), .val (.int jj), .val (.int (0 : Int32)), .val (.long (own_L (n + own_ps n I + (J - I - 1)))), .second, .val (.long (nn.toInt64)), .second, .val (.ref b14), .val (.long (own_L (n + own_c2 n + own_c3 n))), .second, .val (.ref y21), .unset, .unset] []))
      refine Runs.by (fun _ hr => XS.iload X21.here hx rfl (hb hby at_363) rfl  hr) ?_
      show Runs p e below _ (T21.setTop (mkF m 365 #[.val (.int p0), .val (.int p1), .val (.int p2), .val (.int p3), .val (.int p4), .val (.int nn), .val (.int (1 : Int32)), .val (.int ii), .val (.int jj), .val (.int (0 : Int32)), .val (.long (own_L (n + own_ps n I + (J - I - 1)))), .second, .val (.long (nn.toInt64)), .second, .val (.ref b14), .val (.long (own_L (n + own_c2 n + own_c3 n))), .second, .val (.ref y21), .unset, .unset] [(.int (1 : Int32))]))
      refine Runs.by (fun _ hr => XS.iconst X21.here hx rfl (hb hby at_365) hr) ?_
      show Runs p e below _ (T21.setTop (mkF m 366 #[.val (.int p0), .val (.int p1), .val (.int p2), .val (.int p3), .val (.int p4), .val (.int nn), .val (.int (1 : Int32)), .val (.int ii), .val (.int jj), .val (.int (0 : Int32)), .val (.long (own_L (n + own_ps n I + (J - I - 1)))), .second, .val (.long (nn.toInt64)), .second, .val (.ref b14), .val (.long (own_L (n + own_c2 n + own_c3 n))), .second, .val (.ref y21), .unset, .unset] [(.int (1 : Int32)), (.int (1 : Int32))]))
      have hc366 : (1 : Int32) = (1 : Int32) := (by decide)
      refine Runs.by (fun _ hr => XS.icmpNo X21.here hx rfl (hb hby at_366) rfl (teq hc366).2 hr) ?_
      show Runs p e below _ (T21.setTop (mkF m 369 #[.val (.int p0), .val (.int p1), .val (.int p2), .val (.int p3), .val (.int p4), .val (.int nn), .val (.int (1 : Int32)), .val (.int ii), .val (.int jj), .val (.int (0 : Int32)), .val (.long (own_L (n + own_ps n I + (J - I - 1)))), .second, .val (.long (nn.toInt64)), .second, .val (.ref b14), .val (.long (own_L (n + own_c2 n + own_c3 n))), .second, .val (.ref y21), .unset, .unset] []))
      refine Runs.by (fun _ hr => XS.aload X21.here hx rfl (hb hby at_369) rfl rfl hr) ?_
      show Runs p e below _ (T21.setTop (mkF m 371 #[.val (.int p0), .val (.int p1), .val (.int p2), .val (.int p3), .val (.int p4), .val (.int nn), .val (.int (1 : Int32)), .val (.int ii), .val (.int jj), .val (.int (0 : Int32)), .val (.long (own_L (n + own_ps n I + (J - I - 1)))), .second, .val (.long (nn.toInt64)), .second, .val (.ref b14), .val (.long (own_L (n + own_c2 n + own_c3 n))), .second, .val (.ref y21), .unset, .unset] [(.ref y21)]))
      obtain ⟨cl23, Ar23, -, S23, N23', -⟩ := id f21_0
      refine Runs.by (fun t hr => X21.arraylength hx (by exact Ar23.1) (State.isArrayOf_alike hZ.alike Ar23.2.1) (g := (mkF m 371 #[.val (.int p0), .val (.int p1), .val (.int p2), .val (.int p3), .val (.int p4), .val (.int nn), .val (.int (1 : Int32)), .val (.int ii), .val (.int jj), .val (.int (0 : Int32)), .val (.long (own_L (n + own_ps n I + (J - I - 1)))), .second, .val (.long (nn.toInt64)), .second, .val (.ref b14), .val (.long (own_L (n + own_c2 n + own_c3 n))), .second, .val (.ref y21), .unset, .unset] [(.ref y21)])) rfl rfl (hb hby at_371) t hr) ?_
      rw [len_of S23 N23']
      show Runs p e below _ (T21.setTop (mkF m 372 #[.val (.int p0), .val (.int p1), .val (.int p2), .val (.int p3), .val (.int p4), .val (.int nn), .val (.int (1 : Int32)), .val (.int ii), .val (.int jj), .val (.int (0 : Int32)), .val (.long (own_L (n + own_ps n I + (J - I - 1)))), .second, .val (.long (nn.toInt64)), .second, .val (.ref b14), .val (.long (own_L (n + own_c2 n + own_c3 n))), .second, .val (.ref y21), .unset, .unset] [(.int (2 : Int32))]))
      refine Runs.by (fun _ hr => XS.iconst X21.here hx rfl (hb hby at_372) hr) ?_
      show Runs p e below _ (T21.setTop (mkF m 373 #[.val (.int p0), .val (.int p1), .val (.int p2), .val (.int p3), .val (.int p4), .val (.int nn), .val (.int (1 : Int32)), .val (.int ii), .val (.int jj), .val (.int (0 : Int32)), .val (.long (own_L (n + own_ps n I + (J - I - 1)))), .second, .val (.long (nn.toInt64)), .second, .val (.ref b14), .val (.long (own_L (n + own_c2 n + own_c3 n))), .second, .val (.ref y21), .unset, .unset] [(.int (2 : Int32)), (.int (2 : Int32))]))
      have hc373 : (2 : Int32) = (2 : Int32) := (by decide)
      refine Runs.by (fun _ hr => XS.icmpNo X21.here hx rfl (hb hby at_373) rfl (teq hc373).2 hr) ?_
      show Runs p e below _ (T21.setTop (mkF m 376 #[.val (.int p0), .val (.int p1), .val (.int p2), .val (.int p3), .val (.int p4), .val (.int nn), .val (.int (1 : Int32)), .val (.int ii), .val (.int jj), .val (.int (0 : Int32)), .val (.long (own_L (n + own_ps n I + (J - I - 1)))), .second, .val (.long (nn.toInt64)), .second, .val (.ref b14), .val (.long (own_L (n + own_c2 n + own_c3 n))), .second, .val (.ref y21), .unset, .unset] []))
      refine Runs.by (fun _ hr => XS.aload X21.here hx rfl (hb hby at_376) rfl rfl hr) ?_
      show Runs p e below _ (T21.setTop (mkF m 378 #[.val (.int p0), .val (.int p1), .val (.int p2), .val (.int p3), .val (.int p4), .val (.int nn), .val (.int (1 : Int32)), .val (.int ii), .val (.int jj), .val (.int (0 : Int32)), .val (.long (own_L (n + own_ps n I + (J - I - 1)))), .second, .val (.long (nn.toInt64)), .second, .val (.ref b14), .val (.long (own_L (n + own_c2 n + own_c3 n))), .second, .val (.ref y21), .unset, .unset] [(.ref y21)]))
      refine Runs.by (fun _ hr => XS.iconst X21.here hx rfl (hb hby at_378) hr) ?_
      show Runs p e below _ (T21.setTop (mkF m 379 #[.val (.int p0), .val (.int p1), .val (.int p2), .val (.int p3), .val (.int p4), .val (.int nn), .val (.int (1 : Int32)), .val (.int ii), .val (.int jj), .val (.int (0 : Int32)), .val (.long (own_L (n + own_ps n I + (J - I - 1)))), .second, .val (.long (nn.toInt64)), .second, .val (.ref b14), .val (.long (own_L (n + own_c2 n + own_c3 n))), .second, .val (.ref y21), .unset, .unset] [(.int (0 : Int32)), (.ref y21)]))
      obtain ⟨cl24, Ar24, -, S24, N24', H24⟩ := id f21_0
      have ix24 := own_ix (j := (0 : Int32)) (z := (2 : Int32)) (n := 0) rfl (by decide)
      have hin24 : ¬ ((0 : Int32) < 0 ∨ cl24.slots.size ≤ ((0 : Int32)).toNatClampNeg) := inb_of S24 ix24.1
      have hat24 : cl24.slots[((0 : Int32)).toNatClampNeg]? = some (.int ((own_up (own_up (fun _ => (0 : Int32)) (0) ii) (1) jj) 0)) := by rw [ix24.2.1]; exact H24 _ ix24.2.2
      refine Runs.by (fun t hr => X21.iaload hx (j := (0 : Int32)) (v := (.int ((own_up (own_up (fun _ => (0 : Int32)) (0) ii) (1) jj) 0))) (by exact Ar24.1) (State.isArrayOf_alike hZ.alike Ar24.2.1) Ar24.2.2 hin24 hat24 (g := (mkF m 379 #[.val (.int p0), .val (.int p1), .val (.int p2), .val (.int p3), .val (.int p4), .val (.int nn), .val (.int (1 : Int32)), .val (.int ii), .val (.int jj), .val (.int (0 : Int32)), .val (.long (own_L (n + own_ps n I + (J - I - 1)))), .second, .val (.long (nn.toInt64)), .second, .val (.ref b14), .val (.long (own_L (n + own_c2 n + own_c3 n))), .second, .val (.ref y21), .unset, .unset] [(.int (0 : Int32)), (.ref y21)])) rfl rfl (hb hby at_379) t hr) ?_
      show Runs p e below _ (T21.setTop (mkF m 380 #[.val (.int p0), .val (.int p1), .val (.int p2), .val (.int p3), .val (.int p4), .val (.int nn), .val (.int (1 : Int32)), .val (.int ii), .val (.int jj), .val (.int (0 : Int32)), .val (.long (own_L (n + own_ps n I + (J - I - 1)))), .second, .val (.long (nn.toInt64)), .second, .val (.ref b14), .val (.long (own_L (n + own_c2 n + own_c3 n))), .second, .val (.ref y21), .unset, .unset] [(.int ((own_up (own_up (fun _ => (0 : Int32)) (0) ii) (1) jj) 0))]))
      refine Runs.by (fun _ hr => XS.iload X21.here hx rfl (hb hby at_380) rfl  hr) ?_
      show Runs p e below _ (T21.setTop (mkF m 382 #[.val (.int p0), .val (.int p1), .val (.int p2), .val (.int p3), .val (.int p4), .val (.int nn), .val (.int (1 : Int32)), .val (.int ii), .val (.int jj), .val (.int (0 : Int32)), .val (.long (own_L (n + own_ps n I + (J - I - 1)))), .second, .val (.long (nn.toInt64)), .second, .val (.ref b14), .val (.long (own_L (n + own_c2 n + own_c3 n))), .second, .val (.ref y21), .unset, .unset] [(.int ii), (.int ((own_up (own_up (fun _ => (0 : Int32)) (0) ii) (1) jj) 0))]))
      have hc382 : ((own_up (own_up (fun _ => (0 : Int32)) (0) ii) (1) jj) 0) = ii := rfl
      refine Runs.by (fun _ hr => XS.icmpNo X21.here hx rfl (hb hby at_382) rfl (teq hc382).2 hr) ?_
      show Runs p e below _ (T21.setTop (mkF m 385 #[.val (.int p0), .val (.int p1), .val (.int p2), .val (.int p3), .val (.int p4), .val (.int nn), .val (.int (1 : Int32)), .val (.int ii), .val (.int jj), .val (.int (0 : Int32)), .val (.long (own_L (n + own_ps n I + (J - I - 1)))), .second, .val (.long (nn.toInt64)), .second, .val (.ref b14), .val (.long (own_L (n + own_c2 n + own_c3 n))), .second, .val (.ref y21), .unset, .unset] []))
      refine Runs.by (fun _ hr => XS.aload X21.here hx rfl (hb hby at_385) rfl rfl hr) ?_
      show Runs p e below _ (T21.setTop (mkF m 387 #[.val (.int p0), .val (.int p1), .val (.int p2), .val (.int p3), .val (.int p4), .val (.int nn), .val (.int (1 : Int32)), .val (.int ii), .val (.int jj), .val (.int (0 : Int32)), .val (.long (own_L (n + own_ps n I + (J - I - 1)))), .second, .val (.long (nn.toInt64)), .second, .val (.ref b14), .val (.long (own_L (n + own_c2 n + own_c3 n))), .second, .val (.ref y21), .unset, .unset] [(.ref y21)]))
      refine Runs.by (fun _ hr => XS.iconst X21.here hx rfl (hb hby at_387) hr) ?_
      show Runs p e below _ (T21.setTop (mkF m 388 #[.val (.int p0), .val (.int p1), .val (.int p2), .val (.int p3), .val (.int p4), .val (.int nn), .val (.int (1 : Int32)), .val (.int ii), .val (.int jj), .val (.int (0 : Int32)), .val (.long (own_L (n + own_ps n I + (J - I - 1)))), .second, .val (.long (nn.toInt64)), .second, .val (.ref b14), .val (.long (own_L (n + own_c2 n + own_c3 n))), .second, .val (.ref y21), .unset, .unset] [(.int (1 : Int32)), (.ref y21)]))
      obtain ⟨cl25, Ar25, -, S25, N25', H25⟩ := id f21_0
      have ix25 := own_ix (j := (1 : Int32)) (z := (2 : Int32)) (n := 1) rfl (by decide)
      have hin25 : ¬ ((1 : Int32) < 0 ∨ cl25.slots.size ≤ ((1 : Int32)).toNatClampNeg) := inb_of S25 ix25.1
      have hat25 : cl25.slots[((1 : Int32)).toNatClampNeg]? = some (.int ((own_up (own_up (fun _ => (0 : Int32)) (0) ii) (1) jj) 1)) := by rw [ix25.2.1]; exact H25 _ ix25.2.2
      refine Runs.by (fun t hr => X21.iaload hx (j := (1 : Int32)) (v := (.int ((own_up (own_up (fun _ => (0 : Int32)) (0) ii) (1) jj) 1))) (by exact Ar25.1) (State.isArrayOf_alike hZ.alike Ar25.2.1) Ar25.2.2 hin25 hat25 (g := (mkF m 388 #[.val (.int p0), .val (.int p1), .val (.int p2), .val (.int p3), .val (.int p4), .val (.int nn), .val (.int (1 : Int32)), .val (.int ii), .val (.int jj), .val (.int (0 : Int32)), .val (.long (own_L (n + own_ps n I + (J - I - 1)))), .second, .val (.long (nn.toInt64)), .second, .val (.ref b14), .val (.long (own_L (n + own_c2 n + own_c3 n))), .second, .val (.ref y21), .unset, .unset] [(.int (1 : Int32)), (.ref y21)])) rfl rfl (hb hby at_388) t hr) ?_
      show Runs p e below _ (T21.setTop (mkF m 389 #[.val (.int p0), .val (.int p1), .val (.int p2), .val (.int p3), .val (.int p4), .val (.int nn), .val (.int (1 : Int32)), .val (.int ii), .val (.int jj), .val (.int (0 : Int32)), .val (.long (own_L (n + own_ps n I + (J - I - 1)))), .second, .val (.long (nn.toInt64)), .second, .val (.ref b14), .val (.long (own_L (n + own_c2 n + own_c3 n))), .second, .val (.ref y21), .unset, .unset] [(.int ((own_up (own_up (fun _ => (0 : Int32)) (0) ii) (1) jj) 1))]))
      refine Runs.by (fun _ hr => XS.iload X21.here hx rfl (hb hby at_389) rfl  hr) ?_
      show Runs p e below _ (T21.setTop (mkF m 391 #[.val (.int p0), .val (.int p1), .val (.int p2), .val (.int p3), .val (.int p4), .val (.int nn), .val (.int (1 : Int32)), .val (.int ii), .val (.int jj), .val (.int (0 : Int32)), .val (.long (own_L (n + own_ps n I + (J - I - 1)))), .second, .val (.long (nn.toInt64)), .second, .val (.ref b14), .val (.long (own_L (n + own_c2 n + own_c3 n))), .second, .val (.ref y21), .unset, .unset] [(.int jj), (.int ((own_up (own_up (fun _ => (0 : Int32)) (0) ii) (1) jj) 1))]))
      have hc391 : ((own_up (own_up (fun _ => (0 : Int32)) (0) ii) (1) jj) 1) = jj := rfl
      refine Runs.by (fun _ hr => XS.icmpNo X21.here hx rfl (hb hby at_391) rfl (teq hc391).2 hr) ?_
      show Runs p e below _ (T21.setTop (mkF m 394 #[.val (.int p0), .val (.int p1), .val (.int p2), .val (.int p3), .val (.int p4), .val (.int nn), .val (.int (1 : Int32)), .val (.int ii), .val (.int jj), .val (.int (0 : Int32)), .val (.long (own_L (n + own_ps n I + (J - I - 1)))), .second, .val (.long (nn.toInt64)), .second, .val (.ref b14), .val (.long (own_L (n + own_c2 n + own_c3 n))), .second, .val (.ref y21), .unset, .unset] []))
      refine Runs.by (fun _ hr => XS.iconst X21.here hx rfl (hb hby at_394) hr) ?_
      show Runs p e below _ (T21.setTop (mkF m 395 #[.val (.int p0), .val (.int p1), .val (.int p2), .val (.int p3), .val (.int p4), .val (.int nn), .val (.int (1 : Int32)), .val (.int ii), .val (.int jj), .val (.int (0 : Int32)), .val (.long (own_L (n + own_ps n I + (J - I - 1)))), .second, .val (.long (nn.toInt64)), .second, .val (.ref b14), .val (.long (own_L (n + own_c2 n + own_c3 n))), .second, .val (.ref y21), .unset, .unset] [(.int (1 : Int32))]))
      refine Runs.by (fun _ hr => XS.goto X21.here hx rfl (pc0 := 395) (pc' := 399) rfl (hb hby at_395) (by decide) (by decide) hr) ?_
      show Runs p e below _ (T21.setTop (mkF m 399 #[.val (.int p0), .val (.int p1), .val (.int p2), .val (.int p3), .val (.int p4), .val (.int nn), .val (.int (1 : Int32)), .val (.int ii), .val (.int jj), .val (.int (0 : Int32)), .val (.long (own_L (n + own_ps n I + (J - I - 1)))), .second, .val (.long (nn.toInt64)), .second, .val (.ref b14), .val (.long (own_L (n + own_c2 n + own_c3 n))), .second, .val (.ref y21), .unset, .unset] [(.int (1 : Int32))]))
      refine Runs.ret X21 hx hrt hlk (Or.inl ⟨rfl, by simp, _, rfl⟩) (by rfl) (hb hby at_399) (by decide) (by decide) ?_
      exact ⟨rfl, N21⟩
  · skip
    show Runs p e below _ (s₁.setTop (mkF m 20 #[.val (.int p0), .val (.int p1), .val (.int p2), .val (.int p3), .val (.int p4), .val (.int nn), .val (.int (2 : Int32)), .unset, .unset, .unset, .unset, .unset, .unset, .unset, .unset, .unset, .unset, .unset, .unset, .unset] []))
    refine Runs.by (fun _ hr => XS.iload X0.here hx rfl (hb hby at_20) rfl  hr) ?_
    show Runs p e below _ (s₁.setTop (mkF m 22 #[.val (.int p0), .val (.int p1), .val (.int p2), .val (.int p3), .val (.int p4), .val (.int nn), .val (.int (2 : Int32)), .unset, .unset, .unset, .unset, .unset, .unset, .unset, .unset, .unset, .unset, .unset, .unset, .unset] [(.int (2 : Int32))]))
    refine Runs.by (fun _ hr => XS.iconst X0.here hx rfl (hb hby at_22) hr) ?_
    show Runs p e below _ (s₁.setTop (mkF m 23 #[.val (.int p0), .val (.int p1), .val (.int p2), .val (.int p3), .val (.int p4), .val (.int nn), .val (.int (2 : Int32)), .unset, .unset, .unset, .unset, .unset, .unset, .unset, .unset, .unset, .unset, .unset, .unset, .unset] [(.int (1 : Int32)), (.int (2 : Int32))]))
    have hc23 : ¬ ((2 : Int32) = (1 : Int32)) := (by decide)
    refine Runs.by (fun _ hr => XS.icmpYes X0.here hx rfl (pc0 := 23) (pc' := 34) rfl (hb hby at_23) rfl (feq hc23).2 (by decide) (by decide) hr) ?_
    show Runs p e below _ (s₁.setTop (mkF m 34 #[.val (.int p0), .val (.int p1), .val (.int p2), .val (.int p3), .val (.int p4), .val (.int nn), .val (.int (2 : Int32)), .unset, .unset, .unset, .unset, .unset, .unset, .unset, .unset, .unset, .unset, .unset, .unset, .unset] []))
    refine Runs.by (fun _ hr => XS.iload X0.here hx rfl (hb hby at_34) rfl  hr) ?_
    show Runs p e below _ (s₁.setTop (mkF m 36 #[.val (.int p0), .val (.int p1), .val (.int p2), .val (.int p3), .val (.int p4), .val (.int nn), .val (.int (2 : Int32)), .unset, .unset, .unset, .unset, .unset, .unset, .unset, .unset, .unset, .unset, .unset, .unset, .unset] [(.int (2 : Int32))]))
    refine Runs.by (fun _ hr => XS.iconst X0.here hx rfl (hb hby at_36) hr) ?_
    show Runs p e below _ (s₁.setTop (mkF m 37 #[.val (.int p0), .val (.int p1), .val (.int p2), .val (.int p3), .val (.int p4), .val (.int nn), .val (.int (2 : Int32)), .unset, .unset, .unset, .unset, .unset, .unset, .unset, .unset, .unset, .unset, .unset, .unset, .unset] [(.int (2 : Int32)), (.int (2 : Int32))]))
    have hc37 : (2 : Int32) = (2 : Int32) := (by decide)
    refine Runs.by (fun _ hr => XS.icmpNo X0.here hx rfl (hb hby at_37) rfl (teq hc37).2 hr) ?_
    show Runs p e below _ (s₁.setTop (mkF m 40 #[.val (.int p0), .val (.int p1), .val (.int p2), .val (.int p3), .val (.int p4), .val (.int nn), .val (.int (2 : Int32)), .unset, .unset, .unset, .unset, .unset, .unset, .unset, .unset, .unset, .unset, .unset, .unset, .unset] []))
    refine Runs.by (fun _ hr => XS.iload X0.here hx rfl (hb hby at_40) rfl  hr) ?_
    show Runs p e below _ (s₁.setTop (mkF m 42 #[.val (.int p0), .val (.int p1), .val (.int p2), .val (.int p3), .val (.int p4), .val (.int nn), .val (.int (2 : Int32)), .unset, .unset, .unset, .unset, .unset, .unset, .unset, .unset, .unset, .unset, .unset, .unset, .unset] [(.int nn)]))
    refine Runs.by (fun _ hr => XS.iconst X0.here hx rfl (hb hby at_42) hr) ?_
    show Runs p e below _ (s₁.setTop (mkF m 43 #[.val (.int p0), .val (.int p1), .val (.int p2), .val (.int p3), .val (.int p4), .val (.int nn), .val (.int (2 : Int32)), .unset, .unset, .unset, .unset, .unset, .unset, .unset, .unset, .unset, .unset, .unset, .unset, .unset] [(.int (3 : Int32)), (.int nn)]))
    by_cases hc43 : nn < (3 : Int32)
    · -- pc 43: nn < (3 : Int32)
      refine Runs.by (fun _ hr => XS.icmpNo X0.here hx rfl (hb hby at_43) rfl (tlt hc43).2.1 hr) ?_
      show Runs p e below _ (s₁.setTop (mkF m 46 #[.val (.int p0), .val (.int p1), .val (.int p2), .val (.int p3), .val (.int p4), .val (.int nn), .val (.int (2 : Int32)), .unset, .unset, .unset, .unset, .unset, .unset, .unset, .unset, .unset, .unset, .unset, .unset, .unset] []))
      refine Runs.by (fun _ hr => XS.iconst X0.here hx rfl (hb hby at_46) hr) ?_
      show Runs p e below _ (s₁.setTop (mkF m 47 #[.val (.int p0), .val (.int p1), .val (.int p2), .val (.int p3), .val (.int p4), .val (.int nn), .val (.int (2 : Int32)), .unset, .unset, .unset, .unset, .unset, .unset, .unset, .unset, .unset, .unset, .unset, .unset, .unset] [(.int (1 : Int32))]))
      refine Runs.ret X0 hx hrt hlk (Or.inl ⟨rfl, by simp, _, rfl⟩) (by rfl) (hb hby at_47) (by decide) (by decide) ?_
      rw [e0]
      exact ⟨rfl, N0⟩
    · -- pc 43: not nn < (3 : Int32)
      refine Runs.by (fun _ hr => XS.icmpYes X0.here hx rfl (pc0 := 43) (pc' := 48) rfl (hb hby at_43) rfl (flt hc43).2.1 (by decide) (by decide) hr) ?_
      have hn3 : 3 ≤ nn.toInt := by have q : ¬ nn.toInt < (3 : Int32).toInt := fun r => hc43 (Int32.lt_iff_toInt_lt.mpr r); omega
      show Runs p e below _ (s₁.setTop (mkF m 48 #[.val (.int p0), .val (.int p1), .val (.int p2), .val (.int p3), .val (.int p4), .val (.int nn), .val (.int (2 : Int32)), .unset, .unset, .unset, .unset, .unset, .unset, .unset, .unset, .unset, .unset, .unset, .unset, .unset] []))
      refine Runs.by (fun _ hr => XS.iconst X0.here hx rfl (hb hby at_48) hr) ?_
      show Runs p e below _ (s₁.setTop (mkF m 49 #[.val (.int p0), .val (.int p1), .val (.int p2), .val (.int p3), .val (.int p4), .val (.int nn), .val (.int (2 : Int32)), .unset, .unset, .unset, .unset, .unset, .unset, .unset, .unset, .unset, .unset, .unset, .unset, .unset] [(.int (0 : Int32))]))
      refine Runs.by (fun _ hr => XS.istore X0.here hx rfl (hb hby at_49) rfl (l' := #[.val (.int p0), .val (.int p1), .val (.int p2), .val (.int p3), .val (.int p4), .val (.int nn), .val (.int (2 : Int32)), .unset, .val (.int (0 : Int32)), .unset, .unset, .unset, .unset, .unset, .unset, .unset, .unset, .unset, .unset, .unset]) rfl hr) ?_
      show Runs p e below _ (s₁.setTop (mkF m 51 #[.val (.int p0), .val (.int p1), .val (.int p2), .val (.int p3), .val (.int p4), .val (.int nn), .val (.int (2 : Int32)), .unset, .val (.int (0 : Int32)), .unset, .unset, .unset, .unset, .unset, .unset, .unset, .unset, .unset, .unset, .unset] []))
      refine Runs.by (fun _ hr => XS.iconst X0.here hx rfl (hb hby at_51) hr) ?_
      show Runs p e below _ (s₁.setTop (mkF m 52 #[.val (.int p0), .val (.int p1), .val (.int p2), .val (.int p3), .val (.int p4), .val (.int nn), .val (.int (2 : Int32)), .unset, .val (.int (0 : Int32)), .unset, .unset, .unset, .unset, .unset, .unset, .unset, .unset, .unset, .unset, .unset] [(.int (0 : Int32))]))
      refine Runs.by (fun _ hr => XS.istore X0.here hx rfl (hb hby at_52) rfl (l' := #[.val (.int p0), .val (.int p1), .val (.int p2), .val (.int p3), .val (.int p4), .val (.int nn), .val (.int (2 : Int32)), .unset, .val (.int (0 : Int32)), .val (.int (0 : Int32)), .unset, .unset, .unset, .unset, .unset, .unset, .unset, .unset, .unset, .unset]) rfl hr) ?_
      show Runs p e below _ (s₁.setTop (mkF m 54 #[.val (.int p0), .val (.int p1), .val (.int p2), .val (.int p3), .val (.int p4), .val (.int nn), .val (.int (2 : Int32)), .unset, .val (.int (0 : Int32)), .val (.int (0 : Int32)), .unset, .unset, .unset, .unset, .unset, .unset, .unset, .unset, .unset, .unset] []))
      refine Runs.by (fun _ hr => XS.iload X0.here hx rfl (hb hby at_54) rfl  hr) ?_
      show Runs p e below _ (s₁.setTop (mkF m 56 #[.val (.int p0), .val (.int p1), .val (.int p2), .val (.int p3), .val (.int p4), .val (.int nn), .val (.int (2 : Int32)), .unset, .val (.int (0 : Int32)), .val (.int (0 : Int32)), .unset, .unset, .unset, .unset, .unset, .unset, .unset, .unset, .unset, .unset] [(.int nn)]))
      refine Runs.by (fun _ hr => XS.i2l X0.here hx rfl (hb hby at_56) rfl hr) ?_
      show Runs p e below _ (s₁.setTop (mkF m 57 #[.val (.int p0), .val (.int p1), .val (.int p2), .val (.int p3), .val (.int p4), .val (.int nn), .val (.int (2 : Int32)), .unset, .val (.int (0 : Int32)), .val (.int (0 : Int32)), .unset, .unset, .unset, .unset, .unset, .unset, .unset, .unset, .unset, .unset] [(.long (nn.toInt64))]))
      refine Runs.by (fun _ hr => XS.lstore X0.here hx rfl (hb hby at_57) rfl (l' := #[.val (.int p0), .val (.int p1), .val (.int p2), .val (.int p3), .val (.int p4), .val (.int nn), .val (.int (2 : Int32)), .unset, .val (.int (0 : Int32)), .val (.int (0 : Int32)), .unset, .unset, .val (.long (nn.toInt64)), .second, .unset, .unset, .unset, .unset, .unset, .unset]) rfl hr) ?_
      show Runs p e below _ (s₁.setTop (mkF m 59 #[.val (.int p0), .val (.int p1), .val (.int p2), .val (.int p3), .val (.int p4), .val (.int nn), .val (.int (2 : Int32)), .unset, .val (.int (0 : Int32)), .val (.int (0 : Int32)), .unset, .unset, .val (.long (nn.toInt64)), .second, .unset, .unset, .unset, .unset, .unset, .unset] []))
      refine Runs.by (fun _ hr => XS.iload X0.here hx rfl (hb hby at_59) rfl  hr) ?_
      show Runs p e below _ (s₁.setTop (mkF m 61 #[.val (.int p0), .val (.int p1), .val (.int p2), .val (.int p3), .val (.int p4), .val (.int nn), .val (.int (2 : Int32)), .unset, .val (.int (0 : Int32)), .val (.int (0 : Int32)), .unset, .unset, .val (.long (nn.toInt64)), .second, .unset, .unset, .unset, .unset, .unset, .unset] [(.int (2 : Int32))]))
      have hc61 : ¬ ((2 : Int32) = (0 : Int32)) := (by decide)
      refine Runs.by (fun _ hr => XS.ifYes X0.here hx rfl (pc0 := 61) (pc' := 81) rfl (hb hby at_61) rfl ((if0 _ _).trans (feq hc61).2) (by decide) (by decide) hr) ?_
      show Runs p e below _ (s₁.setTop (mkF m 81 #[.val (.int p0), .val (.int p1), .val (.int p2), .val (.int p3), .val (.int p4), .val (.int nn), .val (.int (2 : Int32)), .unset, .val (.int (0 : Int32)), .val (.int (0 : Int32)), .unset, .unset, .val (.long (nn.toInt64)), .second, .unset, .unset, .unset, .unset, .unset, .unset] []))
      refine Runs.by (fun _ hr => XS.iload X0.here hx rfl (hb hby at_81) rfl  hr) ?_
      show Runs p e below _ (s₁.setTop (mkF m 83 #[.val (.int p0), .val (.int p1), .val (.int p2), .val (.int p3), .val (.int p4), .val (.int nn), .val (.int (2 : Int32)), .unset, .val (.int (0 : Int32)), .val (.int (0 : Int32)), .unset, .unset, .val (.long (nn.toInt64)), .second, .unset, .unset, .unset, .unset, .unset, .unset] [(.int (2 : Int32))]))
      refine Runs.by (fun _ hr => XS.iconst X0.here hx rfl (hb hby at_83) hr) ?_
      show Runs p e below _ (s₁.setTop (mkF m 84 #[.val (.int p0), .val (.int p1), .val (.int p2), .val (.int p3), .val (.int p4), .val (.int nn), .val (.int (2 : Int32)), .unset, .val (.int (0 : Int32)), .val (.int (0 : Int32)), .unset, .unset, .val (.long (nn.toInt64)), .second, .unset, .unset, .unset, .unset, .unset, .unset] [(.int (1 : Int32)), (.int (2 : Int32))]))
      have hc84 : ¬ ((2 : Int32) = (1 : Int32)) := (by decide)
      refine Runs.by (fun _ hr => XS.icmpYes X0.here hx rfl (pc0 := 84) (pc' := 149) rfl (hb hby at_84) rfl (feq hc84).2 (by decide) (by decide) hr) ?_
      show Runs p e below _ (s₁.setTop (mkF m 149 #[.val (.int p0), .val (.int p1), .val (.int p2), .val (.int p3), .val (.int p4), .val (.int nn), .val (.int (2 : Int32)), .unset, .val (.int (0 : Int32)), .val (.int (0 : Int32)), .unset, .unset, .val (.long (nn.toInt64)), .second, .unset, .unset, .unset, .unset, .unset, .unset] []))
      refine Runs.by (fun _ hr => XS.iloadN X0.here hx rfl (hb hby at_149) rfl  hr) ?_
      show Runs p e below _ (s₁.setTop (mkF m 150 #[.val (.int p0), .val (.int p1), .val (.int p2), .val (.int p3), .val (.int p4), .val (.int nn), .val (.int (2 : Int32)), .unset, .val (.int (0 : Int32)), .val (.int (0 : Int32)), .unset, .unset, .val (.long (nn.toInt64)), .second, .unset, .unset, .unset, .unset, .unset, .unset] [(.int p2)]))
      refine Runs.by (fun _ hr => X0.ldcI hx hown (mvT hZ (hw _ (List.mem_of_getElem? (i := 0) rfl))) (g := (mkF m 150 #[.val (.int p0), .val (.int p1), .val (.int p2), .val (.int p3), .val (.int p4), .val (.int nn), .val (.int (2 : Int32)), .unset, .val (.int (0 : Int32)), .val (.int (0 : Int32)), .unset, .unset, .val (.long (nn.toInt64)), .second, .unset, .unset, .unset, .unset, .unset, .unset] [(.int p2)])) rfl (hb hby at_150) hr) ?_
      show Runs p e below _ (s₁.setTop (mkF m 152 #[.val (.int p0), .val (.int p1), .val (.int p2), .val (.int p3), .val (.int p4), .val (.int nn), .val (.int (2 : Int32)), .unset, .val (.int (0 : Int32)), .val (.int (0 : Int32)), .unset, .unset, .val (.long (nn.toInt64)), .second, .unset, .unset, .unset, .unset, .unset, .unset] [(.int (2147483647 : Int32)), (.int p2)]))
      refine Runs.by (fun _ hr => XS.iand X0.here hx rfl (hb hby at_152) rfl hr) ?_
      show Runs p e below _ (s₁.setTop (mkF m 153 #[.val (.int p0), .val (.int p1), .val (.int p2), .val (.int p3), .val (.int p4), .val (.int nn), .val (.int (2 : Int32)), .unset, .val (.int (0 : Int32)), .val (.int (0 : Int32)), .unset, .unset, .val (.long (nn.toInt64)), .second, .unset, .unset, .unset, .unset, .unset, .unset] [(.int (p2 &&& (2147483647 : Int32)))]))
      refine Runs.by (fun _ hr => XS.iload X0.here hx rfl (hb hby at_153) rfl  hr) ?_
      show Runs p e below _ (s₁.setTop (mkF m 155 #[.val (.int p0), .val (.int p1), .val (.int p2), .val (.int p3), .val (.int p4), .val (.int nn), .val (.int (2 : Int32)), .unset, .val (.int (0 : Int32)), .val (.int (0 : Int32)), .unset, .unset, .val (.long (nn.toInt64)), .second, .unset, .unset, .unset, .unset, .unset, .unset] [(.int nn), (.int (p2 &&& (2147483647 : Int32)))]))
      refine Runs.by (fun _ hr => XS.iconst X0.here hx rfl (hb hby at_155) hr) ?_
      show Runs p e below _ (s₁.setTop (mkF m 156 #[.val (.int p0), .val (.int p1), .val (.int p2), .val (.int p3), .val (.int p4), .val (.int nn), .val (.int (2 : Int32)), .unset, .val (.int (0 : Int32)), .val (.int (0 : Int32)), .unset, .unset, .val (.long (nn.toInt64)), .second, .unset, .unset, .unset, .unset, .unset, .unset] [(.int (2 : Int32)), (.int nn), (.int (p2 &&& (2147483647 : Int32)))]))
      refine Runs.by (fun _ hr => XS.isub X0.here hx rfl (hb hby at_156) rfl hr) ?_
      show Runs p e below _ (s₁.setTop (mkF m 157 #[.val (.int p0), .val (.int p1), .val (.int p2), .val (.int p3), .val (.int p4), .val (.int nn), .val (.int (2 : Int32)), .unset, .val (.int (0 : Int32)), .val (.int (0 : Int32)), .unset, .unset, .val (.long (nn.toInt64)), .second, .unset, .unset, .unset, .unset, .unset, .unset] [(.int (nn - (2 : Int32))), (.int (p2 &&& (2147483647 : Int32)))]))
      refine Runs.by (fun _ hr => iremM X0 hx rfl (hb hby at_157) rfl (own_ne0 (by omega)) hr) ?_
      show Runs p e below _ (s₁.setTop (mkF m 158 #[.val (.int p0), .val (.int p1), .val (.int p2), .val (.int p3), .val (.int p4), .val (.int nn), .val (.int (2 : Int32)), .unset, .val (.int (0 : Int32)), .val (.int (0 : Int32)), .unset, .unset, .val (.long (nn.toInt64)), .second, .unset, .unset, .unset, .unset, .unset, .unset] [(.int ((p2 &&& (2147483647 : Int32)) % (nn - (2 : Int32))))]))
      refine Runs.by (fun _ hr => XS.istore X0.here hx rfl (hb hby at_158) rfl (l' := #[.val (.int p0), .val (.int p1), .val (.int p2), .val (.int p3), .val (.int p4), .val (.int nn), .val (.int (2 : Int32)), .val (.int ((p2 &&& (2147483647 : Int32)) % (nn - (2 : Int32)))), .val (.int (0 : Int32)), .val (.int (0 : Int32)), .unset, .unset, .val (.long (nn.toInt64)), .second, .unset, .unset, .unset, .unset, .unset, .unset]) rfl hr) ?_
      have hii := own_rm p2 (m := nn - (2 : Int32)) (by omega)
      generalize ((p2 &&& (2147483647 : Int32)) % (nn - (2 : Int32))) = ii at hii ⊢
      obtain ⟨I, eii⟩ : ∃ I : Nat, ii.toInt = I := ⟨ii.toInt.toNat, by omega⟩
      show Runs p e below _ (s₁.setTop (mkF m 160 #[.val (.int p0), .val (.int p1), .val (.int p2), .val (.int p3), .val (.int p4), .val (.int nn), .val (.int (2 : Int32)), .val (.int ii), .val (.int (0 : Int32)), .val (.int (0 : Int32)), .unset, .unset, .val (.long (nn.toInt64)), .second, .unset, .unset, .unset, .unset, .unset, .unset] []))
      refine Runs.by (fun _ hr => XS.iload X0.here hx rfl (hb hby at_160) rfl  hr) ?_
      show Runs p e below _ (s₁.setTop (mkF m 162 #[.val (.int p0), .val (.int p1), .val (.int p2), .val (.int p3), .val (.int p4), .val (.int nn), .val (.int (2 : Int32)), .val (.int ii), .val (.int (0 : Int32)), .val (.int (0 : Int32)), .unset, .unset, .val (.long (nn.toInt64)), .second, .unset, .unset, .unset, .unset, .unset, .unset] [(.int ii)]))
      refine Runs.by (fun _ hr => XS.iconst X0.here hx rfl (hb hby at_162) hr) ?_
      show Runs p e below _ (s₁.setTop (mkF m 163 #[.val (.int p0), .val (.int p1), .val (.int p2), .val (.int p3), .val (.int p4), .val (.int nn), .val (.int (2 : Int32)), .val (.int ii), .val (.int (0 : Int32)), .val (.int (0 : Int32)), .unset, .unset, .val (.long (nn.toInt64)), .second, .unset, .unset, .unset, .unset, .unset, .unset] [(.int (1 : Int32)), (.int ii)]))
      refine Runs.by (fun _ hr => XS.iadd X0.here hx rfl (hb hby at_163) rfl hr) ?_
      show Runs p e below _ (s₁.setTop (mkF m 164 #[.val (.int p0), .val (.int p1), .val (.int p2), .val (.int p3), .val (.int p4), .val (.int nn), .val (.int (2 : Int32)), .val (.int ii), .val (.int (0 : Int32)), .val (.int (0 : Int32)), .unset, .unset, .val (.long (nn.toInt64)), .second, .unset, .unset, .unset, .unset, .unset, .unset] [(.int (ii + (1 : Int32)))]))
      refine Runs.by (fun _ hr => XS.iloadN X0.here hx rfl (hb hby at_164) rfl  hr) ?_
      show Runs p e below _ (s₁.setTop (mkF m 165 #[.val (.int p0), .val (.int p1), .val (.int p2), .val (.int p3), .val (.int p4), .val (.int nn), .val (.int (2 : Int32)), .val (.int ii), .val (.int (0 : Int32)), .val (.int (0 : Int32)), .unset, .unset, .val (.long (nn.toInt64)), .second, .unset, .unset, .unset, .unset, .unset, .unset] [(.int p3), (.int (ii + (1 : Int32)))]))
      refine Runs.by (fun _ hr => X0.ldcI hx hown (mvT hZ (hw _ (List.mem_of_getElem? (i := 0) rfl))) (g := (mkF m 165 #[.val (.int p0), .val (.int p1), .val (.int p2), .val (.int p3), .val (.int p4), .val (.int nn), .val (.int (2 : Int32)), .val (.int ii), .val (.int (0 : Int32)), .val (.int (0 : Int32)), .unset, .unset, .val (.long (nn.toInt64)), .second, .unset, .unset, .unset, .unset, .unset, .unset] [(.int p3), (.int (ii + (1 : Int32)))])) rfl (hb hby at_165) hr) ?_
      show Runs p e below _ (s₁.setTop (mkF m 167 #[.val (.int p0), .val (.int p1), .val (.int p2), .val (.int p3), .val (.int p4), .val (.int nn), .val (.int (2 : Int32)), .val (.int ii), .val (.int (0 : Int32)), .val (.int (0 : Int32)), .unset, .unset, .val (.long (nn.toInt64)), .second, .unset, .unset, .unset, .unset, .unset, .unset] [(.int (2147483647 : Int32)), (.int p3), (.int (ii + (1 : Int32)))]))
      refine Runs.by (fun _ hr => XS.iand X0.here hx rfl (hb hby at_167) rfl hr) ?_
      show Runs p e below _ (s₁.setTop (mkF m 168 #[.val (.int p0), .val (.int p1), .val (.int p2), .val (.int p3), .val (.int p4), .val (.int nn), .val (.int (2 : Int32)), .val (.int ii), .val (.int (0 : Int32)), .val (.int (0 : Int32)), .unset, .unset, .val (.long (nn.toInt64)), .second, .unset, .unset, .unset, .unset, .unset, .unset] [(.int (p3 &&& (2147483647 : Int32))), (.int (ii + (1 : Int32)))]))
      refine Runs.by (fun _ hr => XS.iload X0.here hx rfl (hb hby at_168) rfl  hr) ?_
      show Runs p e below _ (s₁.setTop (mkF m 170 #[.val (.int p0), .val (.int p1), .val (.int p2), .val (.int p3), .val (.int p4), .val (.int nn), .val (.int (2 : Int32)), .val (.int ii), .val (.int (0 : Int32)), .val (.int (0 : Int32)), .unset, .unset, .val (.long (nn.toInt64)), .second, .unset, .unset, .unset, .unset, .unset, .unset] [(.int nn), (.int (p3 &&& (2147483647 : Int32))), (.int (ii + (1 : Int32)))]))
      refine Runs.by (fun _ hr => XS.iconst X0.here hx rfl (hb hby at_170) hr) ?_
      show Runs p e below _ (s₁.setTop (mkF m 171 #[.val (.int p0), .val (.int p1), .val (.int p2), .val (.int p3), .val (.int p4), .val (.int nn), .val (.int (2 : Int32)), .val (.int ii), .val (.int (0 : Int32)), .val (.int (0 : Int32)), .unset, .unset, .val (.long (nn.toInt64)), .second, .unset, .unset, .unset, .unset, .unset, .unset] [(.int (2 : Int32)), (.int nn), (.int (p3 &&& (2147483647 : Int32))), (.int (ii + (1 : Int32)))]))
      refine Runs.by (fun _ hr => XS.isub X0.here hx rfl (hb hby at_171) rfl hr) ?_
      show Runs p e below _ (s₁.setTop (mkF m 172 #[.val (.int p0), .val (.int p1), .val (.int p2), .val (.int p3), .val (.int p4), .val (.int nn), .val (.int (2 : Int32)), .val (.int ii), .val (.int (0 : Int32)), .val (.int (0 : Int32)), .unset, .unset, .val (.long (nn.toInt64)), .second, .unset, .unset, .unset, .unset, .unset, .unset] [(.int (nn - (2 : Int32))), (.int (p3 &&& (2147483647 : Int32))), (.int (ii + (1 : Int32)))]))
      refine Runs.by (fun _ hr => XS.iload X0.here hx rfl (hb hby at_172) rfl  hr) ?_
      show Runs p e below _ (s₁.setTop (mkF m 174 #[.val (.int p0), .val (.int p1), .val (.int p2), .val (.int p3), .val (.int p4), .val (.int nn), .val (.int (2 : Int32)), .val (.int ii), .val (.int (0 : Int32)), .val (.int (0 : Int32)), .unset, .unset, .val (.long (nn.toInt64)), .second, .unset, .unset, .unset, .unset, .unset, .unset] [(.int ii), (.int (nn - (2 : Int32))), (.int (p3 &&& (2147483647 : Int32))), (.int (ii + (1 : Int32)))]))
      refine Runs.by (fun _ hr => XS.isub X0.here hx rfl (hb hby at_174) rfl hr) ?_
      have emi : ((nn - (2 : Int32)) - ii).toInt = nn.toInt - 2 - ii.toInt := (Jvm.Kit.i32_sub (by omega) (by omega)).trans (by omega)
      show Runs p e below _ (s₁.setTop (mkF m 175 #[.val (.int p0), .val (.int p1), .val (.int p2), .val (.int p3), .val (.int p4), .val (.int nn), .val (.int (2 : Int32)), .val (.int ii), .val (.int (0 : Int32)), .val (.int (0 : Int32)), .unset, .unset, .val (.long (nn.toInt64)), .second, .unset, .unset, .unset, .unset, .unset, .unset] [(.int ((nn - (2 : Int32)) - ii)), (.int (p3 &&& (2147483647 : Int32))), (.int (ii + (1 : Int32)))]))
      refine Runs.by (fun _ hr => iremM X0 hx rfl (hb hby at_175) rfl (own_ne0 (by omega)) hr) ?_
      show Runs p e below _ (s₁.setTop (mkF m 176 #[.val (.int p0), .val (.int p1), .val (.int p2), .val (.int p3), .val (.int p4), .val (.int nn), .val (.int (2 : Int32)), .val (.int ii), .val (.int (0 : Int32)), .val (.int (0 : Int32)), .unset, .unset, .val (.long (nn.toInt64)), .second, .unset, .unset, .unset, .unset, .unset, .unset] [(.int ((p3 &&& (2147483647 : Int32)) % ((nn - (2 : Int32)) - ii))), (.int (ii + (1 : Int32)))]))
      refine Runs.by (fun _ hr => XS.iadd X0.here hx rfl (hb hby at_176) rfl hr) ?_
      show Runs p e below _ (s₁.setTop (mkF m 177 #[.val (.int p0), .val (.int p1), .val (.int p2), .val (.int p3), .val (.int p4), .val (.int nn), .val (.int (2 : Int32)), .val (.int ii), .val (.int (0 : Int32)), .val (.int (0 : Int32)), .unset, .unset, .val (.long (nn.toInt64)), .second, .unset, .unset, .unset, .unset, .unset, .unset] [(.int ((ii + (1 : Int32)) + ((p3 &&& (2147483647 : Int32)) % ((nn - (2 : Int32)) - ii))))]))
      refine Runs.by (fun _ hr => XS.istore X0.here hx rfl (hb hby at_177) rfl (l' := #[.val (.int p0), .val (.int p1), .val (.int p2), .val (.int p3), .val (.int p4), .val (.int nn), .val (.int (2 : Int32)), .val (.int ii), .val (.int ((ii + (1 : Int32)) + ((p3 &&& (2147483647 : Int32)) % ((nn - (2 : Int32)) - ii)))), .val (.int (0 : Int32)), .unset, .unset, .val (.long (nn.toInt64)), .second, .unset, .unset, .unset, .unset, .unset, .unset]) rfl hr) ?_
      have hrjj := own_rm p3 (m := ((nn - (2 : Int32)) - ii)) (by omega)
      have epjj : (ii + (1 : Int32)).toInt = ii.toInt + 1 := (Jvm.Kit.i32_add (by omega) (by omega)).trans (by omega)
      have esjj : ((ii + (1 : Int32)) + ((p3 &&& (2147483647 : Int32)) % ((nn - (2 : Int32)) - ii))).toInt = ii.toInt + 1 + ((p3 &&& (2147483647 : Int32)) % ((nn - (2 : Int32)) - ii)).toInt := (Jvm.Kit.i32_add (by omega) (by omega)).trans (by omega)
      generalize ((ii + (1 : Int32)) + ((p3 &&& (2147483647 : Int32)) % ((nn - (2 : Int32)) - ii))) = jj at esjj ⊢
      obtain ⟨J, ejj⟩ : ∃ J : Nat, jj.toInt = J := ⟨jj.toInt.toNat, by omega⟩
      show Runs p e below _ (s₁.setTop (mkF m 179 #[.val (.int p0), .val (.int p1), .val (.int p2), .val (.int p3), .val (.int p4), .val (.int nn), .val (.int (2 : Int32)), .val (.int ii), .val (.int jj), .val (.int (0 : Int32)), .unset, .unset, .val (.long (nn.toInt64)), .second, .unset, .unset, .unset, .unset, .unset, .unset] []))
      refine Runs.by (fun _ hr => XS.iload X0.here hx rfl (hb hby at_179) rfl  hr) ?_
      show Runs p e below _ (s₁.setTop (mkF m 181 #[.val (.int p0), .val (.int p1), .val (.int p2), .val (.int p3), .val (.int p4), .val (.int nn), .val (.int (2 : Int32)), .val (.int ii), .val (.int jj), .val (.int (0 : Int32)), .unset, .unset, .val (.long (nn.toInt64)), .second, .unset, .unset, .unset, .unset, .unset, .unset] [(.int jj)]))
      refine Runs.by (fun _ hr => XS.iconst X0.here hx rfl (hb hby at_181) hr) ?_
      show Runs p e below _ (s₁.setTop (mkF m 182 #[.val (.int p0), .val (.int p1), .val (.int p2), .val (.int p3), .val (.int p4), .val (.int nn), .val (.int (2 : Int32)), .val (.int ii), .val (.int jj), .val (.int (0 : Int32)), .unset, .unset, .val (.long (nn.toInt64)), .second, .unset, .unset, .unset, .unset, .unset, .unset] [(.int (1 : Int32)), (.int jj)]))
      refine Runs.by (fun _ hr => XS.iadd X0.here hx rfl (hb hby at_182) rfl hr) ?_
      show Runs p e below _ (s₁.setTop (mkF m 183 #[.val (.int p0), .val (.int p1), .val (.int p2), .val (.int p3), .val (.int p4), .val (.int nn), .val (.int (2 : Int32)), .val (.int ii), .val (.int jj), .val (.int (0 : Int32)), .unset, .unset, .val (.long (nn.toInt64)), .second, .unset, .unset, .unset, .unset, .unset, .unset] [(.int (jj + (1 : Int32)))]))
      refine Runs.by (fun _ hr => XS.iload X0.here hx rfl (hb hby at_183) rfl  hr) ?_
      show Runs p e below _ (s₁.setTop (mkF m 185 #[.val (.int p0), .val (.int p1), .val (.int p2), .val (.int p3), .val (.int p4), .val (.int nn), .val (.int (2 : Int32)), .val (.int ii), .val (.int jj), .val (.int (0 : Int32)), .unset, .unset, .val (.long (nn.toInt64)), .second, .unset, .unset, .unset, .unset, .unset, .unset] [(.int p4), (.int (jj + (1 : Int32)))]))
      refine Runs.by (fun _ hr => X0.ldcI hx hown (mvT hZ (hw _ (List.mem_of_getElem? (i := 0) rfl))) (g := (mkF m 185 #[.val (.int p0), .val (.int p1), .val (.int p2), .val (.int p3), .val (.int p4), .val (.int nn), .val (.int (2 : Int32)), .val (.int ii), .val (.int jj), .val (.int (0 : Int32)), .unset, .unset, .val (.long (nn.toInt64)), .second, .unset, .unset, .unset, .unset, .unset, .unset] [(.int p4), (.int (jj + (1 : Int32)))])) rfl (hb hby at_185) hr) ?_
      show Runs p e below _ (s₁.setTop (mkF m 187 #[.val (.int p0), .val (.int p1), .val (.int p2), .val (.int p3), .val (.int p4), .val (.int nn), .val (.int (2 : Int32)), .val (.int ii), .val (.int jj), .val (.int (0 : Int32)), .unset, .unset, .val (.long (nn.toInt64)), .second, .unset, .unset, .unset, .unset, .unset, .unset] [(.int (2147483647 : Int32)), (.int p4), (.int (jj + (1 : Int32)))]))
      refine Runs.by (fun _ hr => XS.iand X0.here hx rfl (hb hby at_187) rfl hr) ?_
      show Runs p e below _ (s₁.setTop (mkF m 188 #[.val (.int p0), .val (.int p1), .val (.int p2), .val (.int p3), .val (.int p4), .val (.int nn), .val (.int (2 : Int32)), .val (.int ii), .val (.int jj), .val (.int (0 : Int32)), .unset, .unset, .val (.long (nn.toInt64)), .second, .unset, .unset, .unset, .unset, .unset, .unset] [(.int (p4 &&& (2147483647 : Int32))), (.int (jj + (1 : Int32)))]))
      refine Runs.by (fun _ hr => XS.iload X0.here hx rfl (hb hby at_188) rfl  hr) ?_
      show Runs p e below _ (s₁.setTop (mkF m 190 #[.val (.int p0), .val (.int p1), .val (.int p2), .val (.int p3), .val (.int p4), .val (.int nn), .val (.int (2 : Int32)), .val (.int ii), .val (.int jj), .val (.int (0 : Int32)), .unset, .unset, .val (.long (nn.toInt64)), .second, .unset, .unset, .unset, .unset, .unset, .unset] [(.int nn), (.int (p4 &&& (2147483647 : Int32))), (.int (jj + (1 : Int32)))]))
      refine Runs.by (fun _ hr => XS.iconst X0.here hx rfl (hb hby at_190) hr) ?_
      show Runs p e below _ (s₁.setTop (mkF m 191 #[.val (.int p0), .val (.int p1), .val (.int p2), .val (.int p3), .val (.int p4), .val (.int nn), .val (.int (2 : Int32)), .val (.int ii), .val (.int jj), .val (.int (0 : Int32)), .unset, .unset, .val (.long (nn.toInt64)), .second, .unset, .unset, .unset, .unset, .unset, .unset] [(.int (1 : Int32)), (.int nn), (.int (p4 &&& (2147483647 : Int32))), (.int (jj + (1 : Int32)))]))
      refine Runs.by (fun _ hr => XS.isub X0.here hx rfl (hb hby at_191) rfl hr) ?_
      show Runs p e below _ (s₁.setTop (mkF m 192 #[.val (.int p0), .val (.int p1), .val (.int p2), .val (.int p3), .val (.int p4), .val (.int nn), .val (.int (2 : Int32)), .val (.int ii), .val (.int jj), .val (.int (0 : Int32)), .unset, .unset, .val (.long (nn.toInt64)), .second, .unset, .unset, .unset, .unset, .unset, .unset] [(.int (nn - (1 : Int32))), (.int (p4 &&& (2147483647 : Int32))), (.int (jj + (1 : Int32)))]))
      refine Runs.by (fun _ hr => XS.iload X0.here hx rfl (hb hby at_192) rfl  hr) ?_
      show Runs p e below _ (s₁.setTop (mkF m 194 #[.val (.int p0), .val (.int p1), .val (.int p2), .val (.int p3), .val (.int p4), .val (.int nn), .val (.int (2 : Int32)), .val (.int ii), .val (.int jj), .val (.int (0 : Int32)), .unset, .unset, .val (.long (nn.toInt64)), .second, .unset, .unset, .unset, .unset, .unset, .unset] [(.int jj), (.int (nn - (1 : Int32))), (.int (p4 &&& (2147483647 : Int32))), (.int (jj + (1 : Int32)))]))
      refine Runs.by (fun _ hr => XS.isub X0.here hx rfl (hb hby at_194) rfl hr) ?_
      have emj : ((nn - (1 : Int32)) - jj).toInt = nn.toInt - 1 - jj.toInt := (Jvm.Kit.i32_sub (by omega) (by omega)).trans (by omega)
      show Runs p e below _ (s₁.setTop (mkF m 195 #[.val (.int p0), .val (.int p1), .val (.int p2), .val (.int p3), .val (.int p4), .val (.int nn), .val (.int (2 : Int32)), .val (.int ii), .val (.int jj), .val (.int (0 : Int32)), .unset, .unset, .val (.long (nn.toInt64)), .second, .unset, .unset, .unset, .unset, .unset, .unset] [(.int ((nn - (1 : Int32)) - jj)), (.int (p4 &&& (2147483647 : Int32))), (.int (jj + (1 : Int32)))]))
      refine Runs.by (fun _ hr => iremM X0 hx rfl (hb hby at_195) rfl (own_ne0 (by omega)) hr) ?_
      show Runs p e below _ (s₁.setTop (mkF m 196 #[.val (.int p0), .val (.int p1), .val (.int p2), .val (.int p3), .val (.int p4), .val (.int nn), .val (.int (2 : Int32)), .val (.int ii), .val (.int jj), .val (.int (0 : Int32)), .unset, .unset, .val (.long (nn.toInt64)), .second, .unset, .unset, .unset, .unset, .unset, .unset] [(.int ((p4 &&& (2147483647 : Int32)) % ((nn - (1 : Int32)) - jj))), (.int (jj + (1 : Int32)))]))
      refine Runs.by (fun _ hr => XS.iadd X0.here hx rfl (hb hby at_196) rfl hr) ?_
      show Runs p e below _ (s₁.setTop (mkF m 197 #[.val (.int p0), .val (.int p1), .val (.int p2), .val (.int p3), .val (.int p4), .val (.int nn), .val (.int (2 : Int32)), .val (.int ii), .val (.int jj), .val (.int (0 : Int32)), .unset, .unset, .val (.long (nn.toInt64)), .second, .unset, .unset, .unset, .unset, .unset, .unset] [(.int ((jj + (1 : Int32)) + ((p4 &&& (2147483647 : Int32)) % ((nn - (1 : Int32)) - jj))))]))
      refine Runs.by (fun _ hr => XS.istore X0.here hx rfl (hb hby at_197) rfl (l' := #[.val (.int p0), .val (.int p1), .val (.int p2), .val (.int p3), .val (.int p4), .val (.int nn), .val (.int (2 : Int32)), .val (.int ii), .val (.int jj), .val (.int ((jj + (1 : Int32)) + ((p4 &&& (2147483647 : Int32)) % ((nn - (1 : Int32)) - jj)))), .unset, .unset, .val (.long (nn.toInt64)), .second, .unset, .unset, .unset, .unset, .unset, .unset]) rfl hr) ?_
      have hrll := own_rm p4 (m := ((nn - (1 : Int32)) - jj)) (by omega)
      have epll : (jj + (1 : Int32)).toInt = jj.toInt + 1 := (Jvm.Kit.i32_add (by omega) (by omega)).trans (by omega)
      have esll : ((jj + (1 : Int32)) + ((p4 &&& (2147483647 : Int32)) % ((nn - (1 : Int32)) - jj))).toInt = jj.toInt + 1 + ((p4 &&& (2147483647 : Int32)) % ((nn - (1 : Int32)) - jj)).toInt := (Jvm.Kit.i32_add (by omega) (by omega)).trans (by omega)
      generalize ((jj + (1 : Int32)) + ((p4 &&& (2147483647 : Int32)) % ((nn - (1 : Int32)) - jj))) = ll at esll ⊢
      obtain ⟨E, ell⟩ : ∃ E : Nat, ll.toInt = E := ⟨ll.toInt.toNat, by omega⟩
      show Runs p e below _ (s₁.setTop (mkF m 199 #[.val (.int p0), .val (.int p1), .val (.int p2), .val (.int p3), .val (.int p4), .val (.int nn), .val (.int (2 : Int32)), .val (.int ii), .val (.int jj), .val (.int ll), .unset, .unset, .val (.long (nn.toInt64)), .second, .unset, .unset, .unset, .unset, .unset, .unset] []))
      refine Runs.by (fun _ hr => XS.lload X0.here hx rfl (hb hby at_199) rfl  hr) ?_
      show Runs p e below _ (s₁.setTop (mkF m 201 #[.val (.int p0), .val (.int p1), .val (.int p2), .val (.int p3), .val (.int p4), .val (.int nn), .val (.int (2 : Int32)), .val (.int ii), .val (.int jj), .val (.int ll), .unset, .unset, .val (.long (nn.toInt64)), .second, .unset, .unset, .unset, .unset, .unset, .unset] [(.long (nn.toInt64))]))
      refine Runs.by (fun _ hr => XS.lconst X0.here hx rfl (hb hby at_201) hr) ?_
      show Runs p e below _ (s₁.setTop (mkF m 202 #[.val (.int p0), .val (.int p1), .val (.int p2), .val (.int p3), .val (.int p4), .val (.int nn), .val (.int (2 : Int32)), .val (.int ii), .val (.int jj), .val (.int ll), .unset, .unset, .val (.long (nn.toInt64)), .second, .unset, .unset, .unset, .unset, .unset, .unset] [(.long (1 : Int64)), (.long (nn.toInt64))]))
      refine Runs.by (fun _ hr => XS.lsub X0.here hx rfl (hb hby at_202) rfl hr) ?_
      show Runs p e below _ (s₁.setTop (mkF m 203 #[.val (.int p0), .val (.int p1), .val (.int p2), .val (.int p3), .val (.int p4), .val (.int nn), .val (.int (2 : Int32)), .val (.int ii), .val (.int jj), .val (.int ll), .unset, .unset, .val (.long (nn.toInt64)), .second, .unset, .unset, .unset, .unset, .unset, .unset] [(.long ((nn.toInt64) - (1 : Int64)))]))
      refine Runs.by (fun _ hr => XS.iload X0.here hx rfl (hb hby at_203) rfl  hr) ?_
      show Runs p e below _ (s₁.setTop (mkF m 205 #[.val (.int p0), .val (.int p1), .val (.int p2), .val (.int p3), .val (.int p4), .val (.int nn), .val (.int (2 : Int32)), .val (.int ii), .val (.int jj), .val (.int ll), .unset, .unset, .val (.long (nn.toInt64)), .second, .unset, .unset, .unset, .unset, .unset, .unset] [(.int ii), (.long ((nn.toInt64) - (1 : Int64)))]))
      refine Runs.by (fun _ hr => XS.i2l X0.here hx rfl (hb hby at_205) rfl hr) ?_
      show Runs p e below _ (s₁.setTop (mkF m 206 #[.val (.int p0), .val (.int p1), .val (.int p2), .val (.int p3), .val (.int p4), .val (.int nn), .val (.int (2 : Int32)), .val (.int ii), .val (.int jj), .val (.int ll), .unset, .unset, .val (.long (nn.toInt64)), .second, .unset, .unset, .unset, .unset, .unset, .unset] [(.long (ii.toInt64)), (.long ((nn.toInt64) - (1 : Int64)))]))
      refine Runs.by (fun _ hr => XS.lsub X0.here hx rfl (hb hby at_206) rfl hr) ?_
      show Runs p e below _ (s₁.setTop (mkF m 207 #[.val (.int p0), .val (.int p1), .val (.int p2), .val (.int p3), .val (.int p4), .val (.int nn), .val (.int (2 : Int32)), .val (.int ii), .val (.int jj), .val (.int ll), .unset, .unset, .val (.long (nn.toInt64)), .second, .unset, .unset, .unset, .unset, .unset, .unset] [(.long (((nn.toInt64) - (1 : Int64)) - (ii.toInt64)))]))
      refine Runs.by (fun _ hr => XS.lstore X0.here hx rfl (hb hby at_207) rfl (l' := #[.val (.int p0), .val (.int p1), .val (.int p2), .val (.int p3), .val (.int p4), .val (.int nn), .val (.int (2 : Int32)), .val (.int ii), .val (.int jj), .val (.int ll), .unset, .unset, .val (.long (nn.toInt64)), .second, .val (.long (((nn.toInt64) - (1 : Int64)) - (ii.toInt64))), .second, .unset, .unset, .unset, .unset]) rfl hr) ?_
      show Runs p e below _ (s₁.setTop (mkF m 209 #[.val (.int p0), .val (.int p1), .val (.int p2), .val (.int p3), .val (.int p4), .val (.int nn), .val (.int (2 : Int32)), .val (.int ii), .val (.int jj), .val (.int ll), .unset, .unset, .val (.long (nn.toInt64)), .second, .val (.long (((nn.toInt64) - (1 : Int64)) - (ii.toInt64))), .second, .unset, .unset, .unset, .unset] []))
      refine Runs.by (fun _ hr => XS.iload X0.here hx rfl (hb hby at_209) rfl  hr) ?_
      show Runs p e below _ (s₁.setTop (mkF m 211 #[.val (.int p0), .val (.int p1), .val (.int p2), .val (.int p3), .val (.int p4), .val (.int nn), .val (.int (2 : Int32)), .val (.int ii), .val (.int jj), .val (.int ll), .unset, .unset, .val (.long (nn.toInt64)), .second, .val (.long (((nn.toInt64) - (1 : Int64)) - (ii.toInt64))), .second, .unset, .unset, .unset, .unset] [(.int jj)]))
      refine Runs.by (fun _ hr => XS.iload X0.here hx rfl (hb hby at_211) rfl  hr) ?_
      show Runs p e below _ (s₁.setTop (mkF m 213 #[.val (.int p0), .val (.int p1), .val (.int p2), .val (.int p3), .val (.int p4), .val (.int nn), .val (.int (2 : Int32)), .val (.int ii), .val (.int jj), .val (.int ll), .unset, .unset, .val (.long (nn.toInt64)), .second, .val (.long (((nn.toInt64) - (1 : Int64)) - (ii.toInt64))), .second, .unset, .unset, .unset, .unset] [(.int ii), (.int jj)]))
      refine Runs.by (fun _ hr => XS.isub X0.here hx rfl (hb hby at_213) rfl hr) ?_
      show Runs p e below _ (s₁.setTop (mkF m 214 #[.val (.int p0), .val (.int p1), .val (.int p2), .val (.int p3), .val (.int p4), .val (.int nn), .val (.int (2 : Int32)), .val (.int ii), .val (.int jj), .val (.int ll), .unset, .unset, .val (.long (nn.toInt64)), .second, .val (.long (((nn.toInt64) - (1 : Int64)) - (ii.toInt64))), .second, .unset, .unset, .unset, .unset] [(.int (jj - ii))]))
      refine Runs.by (fun _ hr => XS.iconst X0.here hx rfl (hb hby at_214) hr) ?_
      show Runs p e below _ (s₁.setTop (mkF m 215 #[.val (.int p0), .val (.int p1), .val (.int p2), .val (.int p3), .val (.int p4), .val (.int nn), .val (.int (2 : Int32)), .val (.int ii), .val (.int jj), .val (.int ll), .unset, .unset, .val (.long (nn.toInt64)), .second, .val (.long (((nn.toInt64) - (1 : Int64)) - (ii.toInt64))), .second, .unset, .unset, .unset, .unset] [(.int (1 : Int32)), (.int (jj - ii))]))
      refine Runs.by (fun _ hr => XS.isub X0.here hx rfl (hb hby at_215) rfl hr) ?_
      show Runs p e below _ (s₁.setTop (mkF m 216 #[.val (.int p0), .val (.int p1), .val (.int p2), .val (.int p3), .val (.int p4), .val (.int nn), .val (.int (2 : Int32)), .val (.int ii), .val (.int jj), .val (.int ll), .unset, .unset, .val (.long (nn.toInt64)), .second, .val (.long (((nn.toInt64) - (1 : Int64)) - (ii.toInt64))), .second, .unset, .unset, .unset, .unset] [(.int ((jj - ii) - (1 : Int32)))]))
      refine Runs.by (fun _ hr => XS.i2l X0.here hx rfl (hb hby at_216) rfl hr) ?_
      show Runs p e below _ (s₁.setTop (mkF m 217 #[.val (.int p0), .val (.int p1), .val (.int p2), .val (.int p3), .val (.int p4), .val (.int nn), .val (.int (2 : Int32)), .val (.int ii), .val (.int jj), .val (.int ll), .unset, .unset, .val (.long (nn.toInt64)), .second, .val (.long (((nn.toInt64) - (1 : Int64)) - (ii.toInt64))), .second, .unset, .unset, .unset, .unset] [(.long (((jj - ii) - (1 : Int32)).toInt64))]))
      refine Runs.by (fun _ hr => XS.lstore X0.here hx rfl (hb hby at_217) rfl (l' := #[.val (.int p0), .val (.int p1), .val (.int p2), .val (.int p3), .val (.int p4), .val (.int nn), .val (.int (2 : Int32)), .val (.int ii), .val (.int jj), .val (.int ll), .unset, .unset, .val (.long (nn.toInt64)), .second, .val (.long (((nn.toInt64) - (1 : Int64)) - (ii.toInt64))), .second, .val (.long (((jj - ii) - (1 : Int32)).toInt64)), .second, .unset, .unset]) rfl hr) ?_
      show Runs p e below _ (s₁.setTop (mkF m 219 #[.val (.int p0), .val (.int p1), .val (.int p2), .val (.int p3), .val (.int p4), .val (.int nn), .val (.int (2 : Int32)), .val (.int ii), .val (.int jj), .val (.int ll), .unset, .unset, .val (.long (nn.toInt64)), .second, .val (.long (((nn.toInt64) - (1 : Int64)) - (ii.toInt64))), .second, .val (.long (((jj - ii) - (1 : Int32)).toInt64)), .second, .unset, .unset] []))
      refine Runs.by (fun _ hr => XS.iload X0.here hx rfl (hb hby at_219) rfl  hr) ?_
      show Runs p e below _ (s₁.setTop (mkF m 221 #[.val (.int p0), .val (.int p1), .val (.int p2), .val (.int p3), .val (.int p4), .val (.int nn), .val (.int (2 : Int32)), .val (.int ii), .val (.int jj), .val (.int ll), .unset, .unset, .val (.long (nn.toInt64)), .second, .val (.long (((nn.toInt64) - (1 : Int64)) - (ii.toInt64))), .second, .val (.long (((jj - ii) - (1 : Int32)).toInt64)), .second, .unset, .unset] [(.int ll)]))
      refine Runs.by (fun _ hr => XS.iload X0.here hx rfl (hb hby at_221) rfl  hr) ?_
      show Runs p e below _ (s₁.setTop (mkF m 223 #[.val (.int p0), .val (.int p1), .val (.int p2), .val (.int p3), .val (.int p4), .val (.int nn), .val (.int (2 : Int32)), .val (.int ii), .val (.int jj), .val (.int ll), .unset, .unset, .val (.long (nn.toInt64)), .second, .val (.long (((nn.toInt64) - (1 : Int64)) - (ii.toInt64))), .second, .val (.long (((jj - ii) - (1 : Int32)).toInt64)), .second, .unset, .unset] [(.int ii), (.int ll)]))
      refine Runs.by (fun _ hr => XS.isub X0.here hx rfl (hb hby at_223) rfl hr) ?_
      show Runs p e below _ (s₁.setTop (mkF m 224 #[.val (.int p0), .val (.int p1), .val (.int p2), .val (.int p3), .val (.int p4), .val (.int nn), .val (.int (2 : Int32)), .val (.int ii), .val (.int jj), .val (.int ll), .unset, .unset, .val (.long (nn.toInt64)), .second, .val (.long (((nn.toInt64) - (1 : Int64)) - (ii.toInt64))), .second, .val (.long (((jj - ii) - (1 : Int32)).toInt64)), .second, .unset, .unset] [(.int (ll - ii))]))
      refine Runs.by (fun _ hr => XS.iconst X0.here hx rfl (hb hby at_224) hr) ?_
      show Runs p e below _ (s₁.setTop (mkF m 225 #[.val (.int p0), .val (.int p1), .val (.int p2), .val (.int p3), .val (.int p4), .val (.int nn), .val (.int (2 : Int32)), .val (.int ii), .val (.int jj), .val (.int ll), .unset, .unset, .val (.long (nn.toInt64)), .second, .val (.long (((nn.toInt64) - (1 : Int64)) - (ii.toInt64))), .second, .val (.long (((jj - ii) - (1 : Int32)).toInt64)), .second, .unset, .unset] [(.int (1 : Int32)), (.int (ll - ii))]))
      refine Runs.by (fun _ hr => XS.isub X0.here hx rfl (hb hby at_225) rfl hr) ?_
      show Runs p e below _ (s₁.setTop (mkF m 226 #[.val (.int p0), .val (.int p1), .val (.int p2), .val (.int p3), .val (.int p4), .val (.int nn), .val (.int (2 : Int32)), .val (.int ii), .val (.int jj), .val (.int ll), .unset, .unset, .val (.long (nn.toInt64)), .second, .val (.long (((nn.toInt64) - (1 : Int64)) - (ii.toInt64))), .second, .val (.long (((jj - ii) - (1 : Int32)).toInt64)), .second, .unset, .unset] [(.int ((ll - ii) - (1 : Int32)))]))
      refine Runs.by (fun _ hr => XS.i2l X0.here hx rfl (hb hby at_226) rfl hr) ?_
      show Runs p e below _ (s₁.setTop (mkF m 227 #[.val (.int p0), .val (.int p1), .val (.int p2), .val (.int p3), .val (.int p4), .val (.int nn), .val (.int (2 : Int32)), .val (.int ii), .val (.int jj), .val (.int ll), .unset, .unset, .val (.long (nn.toInt64)), .second, .val (.long (((nn.toInt64) - (1 : Int64)) - (ii.toInt64))), .second, .val (.long (((jj - ii) - (1 : Int32)).toInt64)), .second, .unset, .unset] [(.long (((ll - ii) - (1 : Int32)).toInt64))]))
      refine Runs.by (fun _ hr => XS.lstore X0.here hx rfl (hb hby at_227) rfl (l' := #[.val (.int p0), .val (.int p1), .val (.int p2), .val (.int p3), .val (.int p4), .val (.int nn), .val (.int (2 : Int32)), .val (.int ii), .val (.int jj), .val (.int ll), .unset, .unset, .val (.long (nn.toInt64)), .second, .val (.long (((nn.toInt64) - (1 : Int64)) - (ii.toInt64))), .second, .val (.long (((jj - ii) - (1 : Int32)).toInt64)), .second, .val (.long (((ll - ii) - (1 : Int32)).toInt64)), .second]) rfl hr) ?_
      show Runs p e below _ (s₁.setTop (mkF m 229 #[.val (.int p0), .val (.int p1), .val (.int p2), .val (.int p3), .val (.int p4), .val (.int nn), .val (.int (2 : Int32)), .val (.int ii), .val (.int jj), .val (.int ll), .unset, .unset, .val (.long (nn.toInt64)), .second, .val (.long (((nn.toInt64) - (1 : Int64)) - (ii.toInt64))), .second, .val (.long (((jj - ii) - (1 : Int32)).toInt64)), .second, .val (.long (((ll - ii) - (1 : Int32)).toInt64)), .second] []))
      refine Runs.by (fun _ hr => XS.lload X0.here hx rfl (hb hby at_229) rfl  hr) ?_
      show Runs p e below _ (s₁.setTop (mkF m 231 #[.val (.int p0), .val (.int p1), .val (.int p2), .val (.int p3), .val (.int p4), .val (.int nn), .val (.int (2 : Int32)), .val (.int ii), .val (.int jj), .val (.int ll), .unset, .unset, .val (.long (nn.toInt64)), .second, .val (.long (((nn.toInt64) - (1 : Int64)) - (ii.toInt64))), .second, .val (.long (((jj - ii) - (1 : Int32)).toInt64)), .second, .val (.long (((ll - ii) - (1 : Int32)).toInt64)), .second] [(.long (nn.toInt64))]))
      refine Runs.by (fun _ hr => XS.lload X0.here hx rfl (hb hby at_231) rfl  hr) ?_
      show Runs p e below _ (s₁.setTop (mkF m 233 #[.val (.int p0), .val (.int p1), .val (.int p2), .val (.int p3), .val (.int p4), .val (.int nn), .val (.int (2 : Int32)), .val (.int ii), .val (.int jj), .val (.int ll), .unset, .unset, .val (.long (nn.toInt64)), .second, .val (.long (((nn.toInt64) - (1 : Int64)) - (ii.toInt64))), .second, .val (.long (((jj - ii) - (1 : Int32)).toInt64)), .second, .val (.long (((ll - ii) - (1 : Int32)).toInt64)), .second] [(.long (nn.toInt64)), (.long (nn.toInt64))]))
      obtain ⟨_, _, ⟨T26, L26, k26, n26⟩, -, X26, ⟨Lc26, hQ26, l26, y26, z26⟩, st26⟩ := Jvm.LawKit.callS X0 hx (y := (⟨"com/example/fapre/fapre/KeywordSetsPlacesPinLaw", "c2", "(J)J"⟩ : MethodName)) hown (mvT hZ (hw _ (List.mem_of_getElem? (i := 23) rfl))) (mvT hZ (hw _ (List.mem_of_getElem? (i := 24) rfl))) (mvT hZ (hw _ (List.mem_of_getElem? (i := 25) rfl))) (mvT hZ (hw _ (List.mem_of_getElem? (i := 26) rfl))) (by decide) (backOf (W := 2) (rm3 l Z a0 hw [] (nn.toInt64)  h0 n0 (Nat.le_trans Z0 K0.1) ) hZ (hw _ (List.mem_of_getElem? (i := 26) rfl)) (hw _ (List.mem_of_getElem? (i := 25) rfl)) (by decide) (by decide)) (g := (mkF m 233 #[.val (.int p0), .val (.int p1), .val (.int p2), .val (.int p3), .val (.int p4), .val (.int nn), .val (.int (2 : Int32)), .val (.int ii), .val (.int jj), .val (.int ll), .unset, .unset, .val (.long (nn.toInt64)), .second, .val (.long (((nn.toInt64) - (1 : Int64)) - (ii.toInt64))), .second, .val (.long (((jj - ii) - (1 : Int32)).toInt64)), .second, .val (.long (((ll - ii) - (1 : Int32)).toInt64)), .second] [(.long (nn.toInt64)), (.long (nn.toInt64))])) rfl (by rw [hml]; rfl) (argsL := [(.long (nn.toInt64))]) (rest := [(.long (nn.toInt64))]) (lenOf pd_3 rfl) rfl (by show 2 * 0 + _ ≤ _; exact Nat.le_of_eq rfl) (hb hby at_233) (fun _ _ => ⟨rfl, e0, (by decide : 0 + 0 ≤ _), (by decide : 0 + 0 ≤ _)⟩)
      dsimp only [Pt.U, Pt.locs, Pt.cells, Pt.slots] at X26 l26 y26 z26 st26 hQ26
      subst l26 y26 z26
      obtain ⟨rfl, Nq26, eq26⟩ := hQ26
      have N26 := Fr.app N0 Nq26
      refine Runs.by (fun t hr => st26 t hr) ?_
      show Runs p e below _ (T26.setTop (mkF m 236 #[.val (.int p0), .val (.int p1), .val (.int p2), .val (.int p3), .val (.int p4), .val (.int nn), .val (.int (2 : Int32)), .val (.int ii), .val (.int jj), .val (.int ll), .unset, .unset, .val (.long (nn.toInt64)), .second, .val (.long (((nn.toInt64) - (1 : Int64)) - (ii.toInt64))), .second, .val (.long (((jj - ii) - (1 : Int32)).toInt64)), .second, .val (.long (((ll - ii) - (1 : Int32)).toInt64)), .second] [(.long (own_c2J (nn.toInt64))), (.long (nn.toInt64))]))
      refine Runs.by (fun _ hr => XS.ladd X26.here hx rfl (hb hby at_236) rfl hr) ?_
      show Runs p e below _ (T26.setTop (mkF m 237 #[.val (.int p0), .val (.int p1), .val (.int p2), .val (.int p3), .val (.int p4), .val (.int nn), .val (.int (2 : Int32)), .val (.int ii), .val (.int jj), .val (.int ll), .unset, .unset, .val (.long (nn.toInt64)), .second, .val (.long (((nn.toInt64) - (1 : Int64)) - (ii.toInt64))), .second, .val (.long (((jj - ii) - (1 : Int32)).toInt64)), .second, .val (.long (((ll - ii) - (1 : Int32)).toInt64)), .second] [(.long ((nn.toInt64) + (own_c2J (nn.toInt64))))]))
      refine Runs.by (fun _ hr => XS.lload X26.here hx rfl (hb hby at_237) rfl  hr) ?_
      show Runs p e below _ (T26.setTop (mkF m 239 #[.val (.int p0), .val (.int p1), .val (.int p2), .val (.int p3), .val (.int p4), .val (.int nn), .val (.int (2 : Int32)), .val (.int ii), .val (.int jj), .val (.int ll), .unset, .unset, .val (.long (nn.toInt64)), .second, .val (.long (((nn.toInt64) - (1 : Int64)) - (ii.toInt64))), .second, .val (.long (((jj - ii) - (1 : Int32)).toInt64)), .second, .val (.long (((ll - ii) - (1 : Int32)).toInt64)), .second] [(.long (nn.toInt64)), (.long ((nn.toInt64) + (own_c2J (nn.toInt64))))]))
      obtain ⟨_, _, ⟨T27, L27, k27, n27⟩, -, X27, ⟨Lc27, hQ27, l27, y27, z27⟩, st27⟩ := Jvm.LawKit.callS X26 hx (y := (⟨"com/example/fapre/fapre/KeywordSetsPlacesPinLaw", "c3", "(J)J"⟩ : MethodName)) hown (mvT hZ (hw _ (List.mem_of_getElem? (i := 28) rfl))) (mvT hZ (hw _ (List.mem_of_getElem? (i := 29) rfl))) (mvT hZ (hw _ (List.mem_of_getElem? (i := 25) rfl))) (mvT hZ (hw _ (List.mem_of_getElem? (i := 30) rfl))) (by decide) (backOf (W := 2) (rm4 l Z a0 hw [] (nn.toInt64)  h0 n0 (Nat.le_trans Z0 K0.1) ) hZ (hw _ (List.mem_of_getElem? (i := 30) rfl)) (hw _ (List.mem_of_getElem? (i := 25) rfl)) (by decide) (by decide)) (g := (mkF m 239 #[.val (.int p0), .val (.int p1), .val (.int p2), .val (.int p3), .val (.int p4), .val (.int nn), .val (.int (2 : Int32)), .val (.int ii), .val (.int jj), .val (.int ll), .unset, .unset, .val (.long (nn.toInt64)), .second, .val (.long (((nn.toInt64) - (1 : Int64)) - (ii.toInt64))), .second, .val (.long (((jj - ii) - (1 : Int32)).toInt64)), .second, .val (.long (((ll - ii) - (1 : Int32)).toInt64)), .second] [(.long (nn.toInt64)), (.long ((nn.toInt64) + (own_c2J (nn.toInt64))))])) rfl (by rw [hml]; rfl) (argsL := [(.long (nn.toInt64))]) (rest := [(.long ((nn.toInt64) + (own_c2J (nn.toInt64))))]) (lenOf pd_3 rfl) rfl (by show 2 * 0 + _ ≤ _; exact Nat.le_of_eq rfl) (hb hby at_239) (fun _ _ => ⟨rfl, eq26, (by decide : 0 + 0 ≤ _), (by decide : 0 + 0 ≤ _)⟩)
      dsimp only [Pt.U, Pt.locs, Pt.cells, Pt.slots] at X27 l27 y27 z27 st27 hQ27
      subst l27 y27 z27
      obtain ⟨rfl, Nq27, eq27⟩ := hQ27
      have N27 := Fr.app N26 Nq27
      refine Runs.by (fun t hr => st27 t hr) ?_
      show Runs p e below _ (T27.setTop (mkF m 242 #[.val (.int p0), .val (.int p1), .val (.int p2), .val (.int p3), .val (.int p4), .val (.int nn), .val (.int (2 : Int32)), .val (.int ii), .val (.int jj), .val (.int ll), .unset, .unset, .val (.long (nn.toInt64)), .second, .val (.long (((nn.toInt64) - (1 : Int64)) - (ii.toInt64))), .second, .val (.long (((jj - ii) - (1 : Int32)).toInt64)), .second, .val (.long (((ll - ii) - (1 : Int32)).toInt64)), .second] [(.long (own_c3J (nn.toInt64))), (.long ((nn.toInt64) + (own_c2J (nn.toInt64))))]))
      refine Runs.by (fun _ hr => XS.ladd X27.here hx rfl (hb hby at_242) rfl hr) ?_
      show Runs p e below _ (T27.setTop (mkF m 243 #[.val (.int p0), .val (.int p1), .val (.int p2), .val (.int p3), .val (.int p4), .val (.int nn), .val (.int (2 : Int32)), .val (.int ii), .val (.int jj), .val (.int ll), .unset, .unset, .val (.long (nn.toInt64)), .second, .val (.long (((nn.toInt64) - (1 : Int64)) - (ii.toInt64))), .second, .val (.long (((jj - ii) - (1 : Int32)).toInt64)), .second, .val (.long (((ll - ii) - (1 : Int32)).toInt64)), .second] [(.long (((nn.toInt64) + (own_c2J (nn.toInt64))) + (own_c3J (nn.toInt64))))]))
      refine Runs.by (fun _ hr => XS.lload X27.here hx rfl (hb hby at_243) rfl  hr) ?_
      show Runs p e below _ (T27.setTop (mkF m 245 #[.val (.int p0), .val (.int p1), .val (.int p2), .val (.int p3), .val (.int p4), .val (.int nn), .val (.int (2 : Int32)), .val (.int ii), .val (.int jj), .val (.int ll), .unset, .unset, .val (.long (nn.toInt64)), .second, .val (.long (((nn.toInt64) - (1 : Int64)) - (ii.toInt64))), .second, .val (.long (((jj - ii) - (1 : Int32)).toInt64)), .second, .val (.long (((ll - ii) - (1 : Int32)).toInt64)), .second] [(.long (nn.toInt64)), (.long (((nn.toInt64) + (own_c2J (nn.toInt64))) + (own_c3J (nn.toInt64))))]))
      refine Runs.by (fun _ hr => XS.iload X27.here hx rfl (hb hby at_245) rfl  hr) ?_
      show Runs p e below _ (T27.setTop (mkF m 247 #[.val (.int p0), .val (.int p1), .val (.int p2), .val (.int p3), .val (.int p4), .val (.int nn), .val (.int (2 : Int32)), .val (.int ii), .val (.int jj), .val (.int ll), .unset, .unset, .val (.long (nn.toInt64)), .second, .val (.long (((nn.toInt64) - (1 : Int64)) - (ii.toInt64))), .second, .val (.long (((jj - ii) - (1 : Int32)).toInt64)), .second, .val (.long (((ll - ii) - (1 : Int32)).toInt64)), .second] [(.int ii), (.long (nn.toInt64)), (.long (((nn.toInt64) + (own_c2J (nn.toInt64))) + (own_c3J (nn.toInt64))))]))
      refine Runs.by (fun _ hr => XS.i2l X27.here hx rfl (hb hby at_247) rfl hr) ?_
      show Runs p e below _ (T27.setTop (mkF m 248 #[.val (.int p0), .val (.int p1), .val (.int p2), .val (.int p3), .val (.int p4), .val (.int nn), .val (.int (2 : Int32)), .val (.int ii), .val (.int jj), .val (.int ll), .unset, .unset, .val (.long (nn.toInt64)), .second, .val (.long (((nn.toInt64) - (1 : Int64)) - (ii.toInt64))), .second, .val (.long (((jj - ii) - (1 : Int32)).toInt64)), .second, .val (.long (((ll - ii) - (1 : Int32)).toInt64)), .second] [(.long (ii.toInt64)), (.long (nn.toInt64)), (.long (((nn.toInt64) + (own_c2J (nn.toInt64))) + (own_c3J (nn.toInt64))))]))
      refine Runs.by (fun _ hr => XS.lsub X27.here hx rfl (hb hby at_248) rfl hr) ?_
      show Runs p e below _ (T27.setTop (mkF m 249 #[.val (.int p0), .val (.int p1), .val (.int p2), .val (.int p3), .val (.int p4), .val (.int nn), .val (.int (2 : Int32)), .val (.int ii), .val (.int jj), .val (.int ll), .unset, .unset, .val (.long (nn.toInt64)), .second, .val (.long (((nn.toInt64) - (1 : Int64)) - (ii.toInt64))), .second, .val (.long (((jj - ii) - (1 : Int32)).toInt64)), .second, .val (.long (((ll - ii) - (1 : Int32)).toInt64)), .second] [(.long ((nn.toInt64) - (ii.toInt64))), (.long (((nn.toInt64) + (own_c2J (nn.toInt64))) + (own_c3J (nn.toInt64))))]))
      obtain ⟨_, _, ⟨T28, L28, k28, n28⟩, -, X28, ⟨Lc28, hQ28, l28, y28, z28⟩, st28⟩ := Jvm.LawKit.callS X27 hx (y := (⟨"com/example/fapre/fapre/KeywordSetsPlacesPinLaw", "c3", "(J)J"⟩ : MethodName)) hown (mvT hZ (hw _ (List.mem_of_getElem? (i := 28) rfl))) (mvT hZ (hw _ (List.mem_of_getElem? (i := 29) rfl))) (mvT hZ (hw _ (List.mem_of_getElem? (i := 25) rfl))) (mvT hZ (hw _ (List.mem_of_getElem? (i := 30) rfl))) (by decide) (backOf (W := 2) (rm4 l Z a0 hw [] ((nn.toInt64) - (ii.toInt64))  h0 n0 (Nat.le_trans Z0 K0.1) ) hZ (hw _ (List.mem_of_getElem? (i := 30) rfl)) (hw _ (List.mem_of_getElem? (i := 25) rfl)) (by decide) (by decide)) (g := (mkF m 249 #[.val (.int p0), .val (.int p1), .val (.int p2), .val (.int p3), .val (.int p4), .val (.int nn), .val (.int (2 : Int32)), .val (.int ii), .val (.int jj), .val (.int ll), .unset, .unset, .val (.long (nn.toInt64)), .second, .val (.long (((nn.toInt64) - (1 : Int64)) - (ii.toInt64))), .second, .val (.long (((jj - ii) - (1 : Int32)).toInt64)), .second, .val (.long (((ll - ii) - (1 : Int32)).toInt64)), .second] [(.long ((nn.toInt64) - (ii.toInt64))), (.long (((nn.toInt64) + (own_c2J (nn.toInt64))) + (own_c3J (nn.toInt64))))])) rfl (by rw [hml]; rfl) (argsL := [(.long ((nn.toInt64) - (ii.toInt64)))]) (rest := [(.long (((nn.toInt64) + (own_c2J (nn.toInt64))) + (own_c3J (nn.toInt64))))]) (lenOf pd_3 rfl) rfl (by show 2 * 0 + _ ≤ _; exact Nat.le_of_eq rfl) (hb hby at_249) (fun _ _ => ⟨rfl, eq27, (by decide : 0 + 0 ≤ _), (by decide : 0 + 0 ≤ _)⟩)
      dsimp only [Pt.U, Pt.locs, Pt.cells, Pt.slots] at X28 l28 y28 z28 st28 hQ28
      subst l28 y28 z28
      obtain ⟨rfl, Nq28, eq28⟩ := hQ28
      have N28 := Fr.app N27 Nq28
      refine Runs.by (fun t hr => st28 t hr) ?_
      show Runs p e below _ (T28.setTop (mkF m 252 #[.val (.int p0), .val (.int p1), .val (.int p2), .val (.int p3), .val (.int p4), .val (.int nn), .val (.int (2 : Int32)), .val (.int ii), .val (.int jj), .val (.int ll), .unset, .unset, .val (.long (nn.toInt64)), .second, .val (.long (((nn.toInt64) - (1 : Int64)) - (ii.toInt64))), .second, .val (.long (((jj - ii) - (1 : Int32)).toInt64)), .second, .val (.long (((ll - ii) - (1 : Int32)).toInt64)), .second] [(.long (own_c3J ((nn.toInt64) - (ii.toInt64)))), (.long (((nn.toInt64) + (own_c2J (nn.toInt64))) + (own_c3J (nn.toInt64))))]))
      refine Runs.by (fun _ hr => XS.lsub X28.here hx rfl (hb hby at_252) rfl hr) ?_
      show Runs p e below _ (T28.setTop (mkF m 253 #[.val (.int p0), .val (.int p1), .val (.int p2), .val (.int p3), .val (.int p4), .val (.int nn), .val (.int (2 : Int32)), .val (.int ii), .val (.int jj), .val (.int ll), .unset, .unset, .val (.long (nn.toInt64)), .second, .val (.long (((nn.toInt64) - (1 : Int64)) - (ii.toInt64))), .second, .val (.long (((jj - ii) - (1 : Int32)).toInt64)), .second, .val (.long (((ll - ii) - (1 : Int32)).toInt64)), .second] [(.long ((((nn.toInt64) + (own_c2J (nn.toInt64))) + (own_c3J (nn.toInt64))) - (own_c3J ((nn.toInt64) - (ii.toInt64)))))]))
      refine Runs.by (fun _ hr => XS.lload X28.here hx rfl (hb hby at_253) rfl  hr) ?_
      show Runs p e below _ (T28.setTop (mkF m 255 #[.val (.int p0), .val (.int p1), .val (.int p2), .val (.int p3), .val (.int p4), .val (.int nn), .val (.int (2 : Int32)), .val (.int ii), .val (.int jj), .val (.int ll), .unset, .unset, .val (.long (nn.toInt64)), .second, .val (.long (((nn.toInt64) - (1 : Int64)) - (ii.toInt64))), .second, .val (.long (((jj - ii) - (1 : Int32)).toInt64)), .second, .val (.long (((ll - ii) - (1 : Int32)).toInt64)), .second] [(.long (((nn.toInt64) - (1 : Int64)) - (ii.toInt64))), (.long ((((nn.toInt64) + (own_c2J (nn.toInt64))) + (own_c3J (nn.toInt64))) - (own_c3J ((nn.toInt64) - (ii.toInt64)))))]))
      obtain ⟨_, _, ⟨T29, L29, k29, n29⟩, -, X29, ⟨Lc29, hQ29, l29, y29, z29⟩, st29⟩ := Jvm.LawKit.callS X28 hx (y := (⟨"com/example/fapre/fapre/KeywordSetsPlacesPinLaw", "c2", "(J)J"⟩ : MethodName)) hown (mvT hZ (hw _ (List.mem_of_getElem? (i := 23) rfl))) (mvT hZ (hw _ (List.mem_of_getElem? (i := 24) rfl))) (mvT hZ (hw _ (List.mem_of_getElem? (i := 25) rfl))) (mvT hZ (hw _ (List.mem_of_getElem? (i := 26) rfl))) (by decide) (backOf (W := 2) (rm3 l Z a0 hw [] (((nn.toInt64) - (1 : Int64)) - (ii.toInt64))  h0 n0 (Nat.le_trans Z0 K0.1) ) hZ (hw _ (List.mem_of_getElem? (i := 26) rfl)) (hw _ (List.mem_of_getElem? (i := 25) rfl)) (by decide) (by decide)) (g := (mkF m 255 #[.val (.int p0), .val (.int p1), .val (.int p2), .val (.int p3), .val (.int p4), .val (.int nn), .val (.int (2 : Int32)), .val (.int ii), .val (.int jj), .val (.int ll), .unset, .unset, .val (.long (nn.toInt64)), .second, .val (.long (((nn.toInt64) - (1 : Int64)) - (ii.toInt64))), .second, .val (.long (((jj - ii) - (1 : Int32)).toInt64)), .second, .val (.long (((ll - ii) - (1 : Int32)).toInt64)), .second] [(.long (((nn.toInt64) - (1 : Int64)) - (ii.toInt64))), (.long ((((nn.toInt64) + (own_c2J (nn.toInt64))) + (own_c3J (nn.toInt64))) - (own_c3J ((nn.toInt64) - (ii.toInt64)))))])) rfl (by rw [hml]; rfl) (argsL := [(.long (((nn.toInt64) - (1 : Int64)) - (ii.toInt64)))]) (rest := [(.long ((((nn.toInt64) + (own_c2J (nn.toInt64))) + (own_c3J (nn.toInt64))) - (own_c3J ((nn.toInt64) - (ii.toInt64)))))]) (lenOf pd_3 rfl) rfl (by show 2 * 0 + _ ≤ _; exact Nat.le_of_eq rfl) (hb hby at_255) (fun _ _ => ⟨rfl, eq28, (by decide : 0 + 0 ≤ _), (by decide : 0 + 0 ≤ _)⟩)
      dsimp only [Pt.U, Pt.locs, Pt.cells, Pt.slots] at X29 l29 y29 z29 st29 hQ29
      subst l29 y29 z29
      obtain ⟨rfl, Nq29, eq29⟩ := hQ29
      have N29 := Fr.app N28 Nq29
      refine Runs.by (fun t hr => st29 t hr) ?_
      show Runs p e below _ (T29.setTop (mkF m 258 #[.val (.int p0), .val (.int p1), .val (.int p2), .val (.int p3), .val (.int p4), .val (.int nn), .val (.int (2 : Int32)), .val (.int ii), .val (.int jj), .val (.int ll), .unset, .unset, .val (.long (nn.toInt64)), .second, .val (.long (((nn.toInt64) - (1 : Int64)) - (ii.toInt64))), .second, .val (.long (((jj - ii) - (1 : Int32)).toInt64)), .second, .val (.long (((ll - ii) - (1 : Int32)).toInt64)), .second] [(.long (own_c2J (((nn.toInt64) - (1 : Int64)) - (ii.toInt64)))), (.long ((((nn.toInt64) + (own_c2J (nn.toInt64))) + (own_c3J (nn.toInt64))) - (own_c3J ((nn.toInt64) - (ii.toInt64)))))]))
      refine Runs.by (fun _ hr => XS.ladd X29.here hx rfl (hb hby at_258) rfl hr) ?_
      show Runs p e below _ (T29.setTop (mkF m 259 #[.val (.int p0), .val (.int p1), .val (.int p2), .val (.int p3), .val (.int p4), .val (.int nn), .val (.int (2 : Int32)), .val (.int ii), .val (.int jj), .val (.int ll), .unset, .unset, .val (.long (nn.toInt64)), .second, .val (.long (((nn.toInt64) - (1 : Int64)) - (ii.toInt64))), .second, .val (.long (((jj - ii) - (1 : Int32)).toInt64)), .second, .val (.long (((ll - ii) - (1 : Int32)).toInt64)), .second] [(.long (((((nn.toInt64) + (own_c2J (nn.toInt64))) + (own_c3J (nn.toInt64))) - (own_c3J ((nn.toInt64) - (ii.toInt64)))) + (own_c2J (((nn.toInt64) - (1 : Int64)) - (ii.toInt64)))))]))
      refine Runs.by (fun _ hr => XS.lload X29.here hx rfl (hb hby at_259) rfl  hr) ?_
      show Runs p e below _ (T29.setTop (mkF m 261 #[.val (.int p0), .val (.int p1), .val (.int p2), .val (.int p3), .val (.int p4), .val (.int nn), .val (.int (2 : Int32)), .val (.int ii), .val (.int jj), .val (.int ll), .unset, .unset, .val (.long (nn.toInt64)), .second, .val (.long (((nn.toInt64) - (1 : Int64)) - (ii.toInt64))), .second, .val (.long (((jj - ii) - (1 : Int32)).toInt64)), .second, .val (.long (((ll - ii) - (1 : Int32)).toInt64)), .second] [(.long (((nn.toInt64) - (1 : Int64)) - (ii.toInt64))), (.long (((((nn.toInt64) + (own_c2J (nn.toInt64))) + (own_c3J (nn.toInt64))) - (own_c3J ((nn.toInt64) - (ii.toInt64)))) + (own_c2J (((nn.toInt64) - (1 : Int64)) - (ii.toInt64)))))]))
      refine Runs.by (fun _ hr => XS.lload X29.here hx rfl (hb hby at_261) rfl  hr) ?_
      show Runs p e below _ (T29.setTop (mkF m 263 #[.val (.int p0), .val (.int p1), .val (.int p2), .val (.int p3), .val (.int p4), .val (.int nn), .val (.int (2 : Int32)), .val (.int ii), .val (.int jj), .val (.int ll), .unset, .unset, .val (.long (nn.toInt64)), .second, .val (.long (((nn.toInt64) - (1 : Int64)) - (ii.toInt64))), .second, .val (.long (((jj - ii) - (1 : Int32)).toInt64)), .second, .val (.long (((ll - ii) - (1 : Int32)).toInt64)), .second] [(.long (((jj - ii) - (1 : Int32)).toInt64)), (.long (((nn.toInt64) - (1 : Int64)) - (ii.toInt64))), (.long (((((nn.toInt64) + (own_c2J (nn.toInt64))) + (own_c3J (nn.toInt64))) - (own_c3J ((nn.toInt64) - (ii.toInt64)))) + (own_c2J (((nn.toInt64) - (1 : Int64)) - (ii.toInt64)))))]))
      refine Runs.by (fun _ hr => XS.lsub X29.here hx rfl (hb hby at_263) rfl hr) ?_
      show Runs p e below _ (T29.setTop (mkF m 264 #[.val (.int p0), .val (.int p1), .val (.int p2), .val (.int p3), .val (.int p4), .val (.int nn), .val (.int (2 : Int32)), .val (.int ii), .val (.int jj), .val (.int ll), .unset, .unset, .val (.long (nn.toInt64)), .second, .val (.long (((nn.toInt64) - (1 : Int64)) - (ii.toInt64))), .second, .val (.long (((jj - ii) - (1 : Int32)).toInt64)), .second, .val (.long (((ll - ii) - (1 : Int32)).toInt64)), .second] [(.long ((((nn.toInt64) - (1 : Int64)) - (ii.toInt64)) - (((jj - ii) - (1 : Int32)).toInt64))), (.long (((((nn.toInt64) + (own_c2J (nn.toInt64))) + (own_c3J (nn.toInt64))) - (own_c3J ((nn.toInt64) - (ii.toInt64)))) + (own_c2J (((nn.toInt64) - (1 : Int64)) - (ii.toInt64)))))]))
      obtain ⟨_, _, ⟨T30, L30, k30, n30⟩, -, X30, ⟨Lc30, hQ30, l30, y30, z30⟩, st30⟩ := Jvm.LawKit.callS X29 hx (y := (⟨"com/example/fapre/fapre/KeywordSetsPlacesPinLaw", "c2", "(J)J"⟩ : MethodName)) hown (mvT hZ (hw _ (List.mem_of_getElem? (i := 23) rfl))) (mvT hZ (hw _ (List.mem_of_getElem? (i := 24) rfl))) (mvT hZ (hw _ (List.mem_of_getElem? (i := 25) rfl))) (mvT hZ (hw _ (List.mem_of_getElem? (i := 26) rfl))) (by decide) (backOf (W := 2) (rm3 l Z a0 hw [] ((((nn.toInt64) - (1 : Int64)) - (ii.toInt64)) - (((jj - ii) - (1 : Int32)).toInt64))  h0 n0 (Nat.le_trans Z0 K0.1) ) hZ (hw _ (List.mem_of_getElem? (i := 26) rfl)) (hw _ (List.mem_of_getElem? (i := 25) rfl)) (by decide) (by decide)) (g := (mkF m 264 #[.val (.int p0), .val (.int p1), .val (.int p2), .val (.int p3), .val (.int p4), .val (.int nn), .val (.int (2 : Int32)), .val (.int ii), .val (.int jj), .val (.int ll), .unset, .unset, .val (.long (nn.toInt64)), .second, .val (.long (((nn.toInt64) - (1 : Int64)) - (ii.toInt64))), .second, .val (.long (((jj - ii) - (1 : Int32)).toInt64)), .second, .val (.long (((ll - ii) - (1 : Int32)).toInt64)), .second] [(.long ((((nn.toInt64) - (1 : Int64)) - (ii.toInt64)) - (((jj - ii) - (1 : Int32)).toInt64))), (.long (((((nn.toInt64) + (own_c2J (nn.toInt64))) + (own_c3J (nn.toInt64))) - (own_c3J ((nn.toInt64) - (ii.toInt64)))) + (own_c2J (((nn.toInt64) - (1 : Int64)) - (ii.toInt64)))))])) rfl (by rw [hml]; rfl) (argsL := [(.long ((((nn.toInt64) - (1 : Int64)) - (ii.toInt64)) - (((jj - ii) - (1 : Int32)).toInt64)))]) (rest := [(.long (((((nn.toInt64) + (own_c2J (nn.toInt64))) + (own_c3J (nn.toInt64))) - (own_c3J ((nn.toInt64) - (ii.toInt64)))) + (own_c2J (((nn.toInt64) - (1 : Int64)) - (ii.toInt64)))))]) (lenOf pd_3 rfl) rfl (by show 2 * 0 + _ ≤ _; exact Nat.le_of_eq rfl) (hb hby at_264) (fun _ _ => ⟨rfl, eq29, (by decide : 0 + 0 ≤ _), (by decide : 0 + 0 ≤ _)⟩)
      dsimp only [Pt.U, Pt.locs, Pt.cells, Pt.slots] at X30 l30 y30 z30 st30 hQ30
      subst l30 y30 z30
      obtain ⟨rfl, Nq30, eq30⟩ := hQ30
      have N30 := Fr.app N29 Nq30
      refine Runs.by (fun t hr => st30 t hr) ?_
      show Runs p e below _ (T30.setTop (mkF m 267 #[.val (.int p0), .val (.int p1), .val (.int p2), .val (.int p3), .val (.int p4), .val (.int nn), .val (.int (2 : Int32)), .val (.int ii), .val (.int jj), .val (.int ll), .unset, .unset, .val (.long (nn.toInt64)), .second, .val (.long (((nn.toInt64) - (1 : Int64)) - (ii.toInt64))), .second, .val (.long (((jj - ii) - (1 : Int32)).toInt64)), .second, .val (.long (((ll - ii) - (1 : Int32)).toInt64)), .second] [(.long (own_c2J ((((nn.toInt64) - (1 : Int64)) - (ii.toInt64)) - (((jj - ii) - (1 : Int32)).toInt64)))), (.long (((((nn.toInt64) + (own_c2J (nn.toInt64))) + (own_c3J (nn.toInt64))) - (own_c3J ((nn.toInt64) - (ii.toInt64)))) + (own_c2J (((nn.toInt64) - (1 : Int64)) - (ii.toInt64)))))]))
      refine Runs.by (fun _ hr => XS.lsub X30.here hx rfl (hb hby at_267) rfl hr) ?_
      show Runs p e below _ (T30.setTop (mkF m 268 #[.val (.int p0), .val (.int p1), .val (.int p2), .val (.int p3), .val (.int p4), .val (.int nn), .val (.int (2 : Int32)), .val (.int ii), .val (.int jj), .val (.int ll), .unset, .unset, .val (.long (nn.toInt64)), .second, .val (.long (((nn.toInt64) - (1 : Int64)) - (ii.toInt64))), .second, .val (.long (((jj - ii) - (1 : Int32)).toInt64)), .second, .val (.long (((ll - ii) - (1 : Int32)).toInt64)), .second] [(.long ((((((nn.toInt64) + (own_c2J (nn.toInt64))) + (own_c3J (nn.toInt64))) - (own_c3J ((nn.toInt64) - (ii.toInt64)))) + (own_c2J (((nn.toInt64) - (1 : Int64)) - (ii.toInt64)))) - (own_c2J ((((nn.toInt64) - (1 : Int64)) - (ii.toInt64)) - (((jj - ii) - (1 : Int32)).toInt64)))))]))
      refine Runs.by (fun _ hr => XS.lload X30.here hx rfl (hb hby at_268) rfl  hr) ?_
      show Runs p e below _ (T30.setTop (mkF m 270 #[.val (.int p0), .val (.int p1), .val (.int p2), .val (.int p3), .val (.int p4), .val (.int nn), .val (.int (2 : Int32)), .val (.int ii), .val (.int jj), .val (.int ll), .unset, .unset, .val (.long (nn.toInt64)), .second, .val (.long (((nn.toInt64) - (1 : Int64)) - (ii.toInt64))), .second, .val (.long (((jj - ii) - (1 : Int32)).toInt64)), .second, .val (.long (((ll - ii) - (1 : Int32)).toInt64)), .second] [(.long (((ll - ii) - (1 : Int32)).toInt64)), (.long ((((((nn.toInt64) + (own_c2J (nn.toInt64))) + (own_c3J (nn.toInt64))) - (own_c3J ((nn.toInt64) - (ii.toInt64)))) + (own_c2J (((nn.toInt64) - (1 : Int64)) - (ii.toInt64)))) - (own_c2J ((((nn.toInt64) - (1 : Int64)) - (ii.toInt64)) - (((jj - ii) - (1 : Int32)).toInt64)))))]))
      refine Runs.by (fun _ hr => XS.lload X30.here hx rfl (hb hby at_270) rfl  hr) ?_
      show Runs p e below _ (T30.setTop (mkF m 272 #[.val (.int p0), .val (.int p1), .val (.int p2), .val (.int p3), .val (.int p4), .val (.int nn), .val (.int (2 : Int32)), .val (.int ii), .val (.int jj), .val (.int ll), .unset, .unset, .val (.long (nn.toInt64)), .second, .val (.long (((nn.toInt64) - (1 : Int64)) - (ii.toInt64))), .second, .val (.long (((jj - ii) - (1 : Int32)).toInt64)), .second, .val (.long (((ll - ii) - (1 : Int32)).toInt64)), .second] [(.long (((jj - ii) - (1 : Int32)).toInt64)), (.long (((ll - ii) - (1 : Int32)).toInt64)), (.long ((((((nn.toInt64) + (own_c2J (nn.toInt64))) + (own_c3J (nn.toInt64))) - (own_c3J ((nn.toInt64) - (ii.toInt64)))) + (own_c2J (((nn.toInt64) - (1 : Int64)) - (ii.toInt64)))) - (own_c2J ((((nn.toInt64) - (1 : Int64)) - (ii.toInt64)) - (((jj - ii) - (1 : Int32)).toInt64)))))]))
      refine Runs.by (fun _ hr => XS.lsub X30.here hx rfl (hb hby at_272) rfl hr) ?_
      show Runs p e below _ (T30.setTop (mkF m 273 #[.val (.int p0), .val (.int p1), .val (.int p2), .val (.int p3), .val (.int p4), .val (.int nn), .val (.int (2 : Int32)), .val (.int ii), .val (.int jj), .val (.int ll), .unset, .unset, .val (.long (nn.toInt64)), .second, .val (.long (((nn.toInt64) - (1 : Int64)) - (ii.toInt64))), .second, .val (.long (((jj - ii) - (1 : Int32)).toInt64)), .second, .val (.long (((ll - ii) - (1 : Int32)).toInt64)), .second] [(.long ((((ll - ii) - (1 : Int32)).toInt64) - (((jj - ii) - (1 : Int32)).toInt64))), (.long ((((((nn.toInt64) + (own_c2J (nn.toInt64))) + (own_c3J (nn.toInt64))) - (own_c3J ((nn.toInt64) - (ii.toInt64)))) + (own_c2J (((nn.toInt64) - (1 : Int64)) - (ii.toInt64)))) - (own_c2J ((((nn.toInt64) - (1 : Int64)) - (ii.toInt64)) - (((jj - ii) - (1 : Int32)).toInt64)))))]))
      refine Runs.by (fun _ hr => XS.lconst X30.here hx rfl (hb hby at_273) hr) ?_
      show Runs p e below _ (T30.setTop (mkF m 274 #[.val (.int p0), .val (.int p1), .val (.int p2), .val (.int p3), .val (.int p4), .val (.int nn), .val (.int (2 : Int32)), .val (.int ii), .val (.int jj), .val (.int ll), .unset, .unset, .val (.long (nn.toInt64)), .second, .val (.long (((nn.toInt64) - (1 : Int64)) - (ii.toInt64))), .second, .val (.long (((jj - ii) - (1 : Int32)).toInt64)), .second, .val (.long (((ll - ii) - (1 : Int32)).toInt64)), .second] [(.long (1 : Int64)), (.long ((((ll - ii) - (1 : Int32)).toInt64) - (((jj - ii) - (1 : Int32)).toInt64))), (.long ((((((nn.toInt64) + (own_c2J (nn.toInt64))) + (own_c3J (nn.toInt64))) - (own_c3J ((nn.toInt64) - (ii.toInt64)))) + (own_c2J (((nn.toInt64) - (1 : Int64)) - (ii.toInt64)))) - (own_c2J ((((nn.toInt64) - (1 : Int64)) - (ii.toInt64)) - (((jj - ii) - (1 : Int32)).toInt64)))))]))
      refine Runs.by (fun _ hr => XS.lsub X30.here hx rfl (hb hby at_274) rfl hr) ?_
      show Runs p e below _ (T30.setTop (mkF m 275 #[.val (.int p0), .val (.int p1), .val (.int p2), .val (.int p3), .val (.int p4), .val (.int nn), .val (.int (2 : Int32)), .val (.int ii), .val (.int jj), .val (.int ll), .unset, .unset, .val (.long (nn.toInt64)), .second, .val (.long (((nn.toInt64) - (1 : Int64)) - (ii.toInt64))), .second, .val (.long (((jj - ii) - (1 : Int32)).toInt64)), .second, .val (.long (((ll - ii) - (1 : Int32)).toInt64)), .second] [(.long (((((ll - ii) - (1 : Int32)).toInt64) - (((jj - ii) - (1 : Int32)).toInt64)) - (1 : Int64))), (.long ((((((nn.toInt64) + (own_c2J (nn.toInt64))) + (own_c3J (nn.toInt64))) - (own_c3J ((nn.toInt64) - (ii.toInt64)))) + (own_c2J (((nn.toInt64) - (1 : Int64)) - (ii.toInt64)))) - (own_c2J ((((nn.toInt64) - (1 : Int64)) - (ii.toInt64)) - (((jj - ii) - (1 : Int32)).toInt64)))))]))
      refine Runs.by (fun _ hr => XS.ladd X30.here hx rfl (hb hby at_275) rfl hr) ?_
      show Runs p e below _ (T30.setTop (mkF m 276 #[.val (.int p0), .val (.int p1), .val (.int p2), .val (.int p3), .val (.int p4), .val (.int nn), .val (.int (2 : Int32)), .val (.int ii), .val (.int jj), .val (.int ll), .unset, .unset, .val (.long (nn.toInt64)), .second, .val (.long (((nn.toInt64) - (1 : Int64)) - (ii.toInt64))), .second, .val (.long (((jj - ii) - (1 : Int32)).toInt64)), .second, .val (.long (((ll - ii) - (1 : Int32)).toInt64)), .second] [(.long (((((((nn.toInt64) + (own_c2J (nn.toInt64))) + (own_c3J (nn.toInt64))) - (own_c3J ((nn.toInt64) - (ii.toInt64)))) + (own_c2J (((nn.toInt64) - (1 : Int64)) - (ii.toInt64)))) - (own_c2J ((((nn.toInt64) - (1 : Int64)) - (ii.toInt64)) - (((jj - ii) - (1 : Int32)).toInt64)))) + (((((ll - ii) - (1 : Int32)).toInt64) - (((jj - ii) - (1 : Int32)).toInt64)) - (1 : Int64))))]))
      refine Runs.by (fun _ hr => XS.lstore X30.here hx rfl (hb hby at_276) rfl (l' := #[.val (.int p0), .val (.int p1), .val (.int p2), .val (.int p3), .val (.int p4), .val (.int nn), .val (.int (2 : Int32)), .val (.int ii), .val (.int jj), .val (.int ll), .val (.long (((((((nn.toInt64) + (own_c2J (nn.toInt64))) + (own_c3J (nn.toInt64))) - (own_c3J ((nn.toInt64) - (ii.toInt64)))) + (own_c2J (((nn.toInt64) - (1 : Int64)) - (ii.toInt64)))) - (own_c2J ((((nn.toInt64) - (1 : Int64)) - (ii.toInt64)) - (((jj - ii) - (1 : Int32)).toInt64)))) + (((((ll - ii) - (1 : Int32)).toInt64) - (((jj - ii) - (1 : Int32)).toInt64)) - (1 : Int64)))), .second, .val (.long (nn.toInt64)), .second, .val (.long (((nn.toInt64) - (1 : Int64)) - (ii.toInt64))), .second, .val (.long (((jj - ii) - (1 : Int32)).toInt64)), .second, .val (.long (((ll - ii) - (1 : Int32)).toInt64)), .second]) rfl hr) ?_
      have hnum : (((((((nn.toInt64) + (own_c2J (nn.toInt64))) + (own_c3J (nn.toInt64))) - (own_c3J ((nn.toInt64) - (ii.toInt64)))) + (own_c2J (((nn.toInt64) - (1 : Int64)) - (ii.toInt64)))) - (own_c2J ((((nn.toInt64) - (1 : Int64)) - (ii.toInt64)) - (((jj - ii) - (1 : Int32)).toInt64)))) + (((((ll - ii) - (1 : Int32)).toInt64) - (((jj - ii) - (1 : Int32)).toInt64)) - (1 : Int64))) = own_L (n + own_c2 n + own_ts n I + (own_c2 (n - (I + 1)) - own_c2 (n - J) + (E - J - 1))) := own_num2 hn eii ejj ell (by omega) (by omega) (by omega) hbn.2
      show Runs p e below _ (T30.setTop (mkF m 278 #[.val (.int p0), .val (.int p1), .val (.int p2), .val (.int p3), .val (.int p4), .val (.int nn), .val (.int (2 : Int32)), .val (.int ii), .val (.int jj), .val (.int ll), .val (.long (((((((nn.toInt64) + (own_c2J (nn.toInt64))) + (own_c3J (nn.toInt64))) - (own_c3J ((nn.toInt64) - (ii.toInt64)))) + (own_c2J (((nn.toInt64) - (1 : Int64)) - (ii.toInt64)))) - (own_c2J ((((nn.toInt64) - (1 : Int64)) - (ii.toInt64)) - (((jj - ii) - (1 : Int32)).toInt64)))) + (((((ll - ii) - (1 : Int32)).toInt64) - (((jj - ii) - (1 : Int32)).toInt64)) - (1 : Int64)))), .second, .val (.long (nn.toInt64)), .second, .val (.long (((nn.toInt64) - (1 : Int64)) - (ii.toInt64))), .second, .val (.long (((jj - ii) - (1 : Int32)).toInt64)), .second, .val (.long (((ll - ii) - (1 : Int32)).toInt64)), .second] []))
      rw [hnum]
      have hst := own_ts_succ (n := n) (i := I) (by omega)
      have htl := own_ts_le n (I + 1)
      have m1 := own_c2_mono (show n - J ≤ n - (I + 1) by omega)
      have aJ := own_c2_at (n := n) (i := J) (by omega)
      have hN : (n + own_c2 n + own_ts n I + (own_c2 (n - (I + 1)) - own_c2 (n - J) + (E - J - 1))) < 2 ^ 31 := by omega
      show Runs p e below _ (T30.setTop (mkF m 278 #[.val (.int p0), .val (.int p1), .val (.int p2), .val (.int p3), .val (.int p4), .val (.int nn), .val (.int (2 : Int32)), .val (.int ii), .val (.int jj), .val (.int ll), .val (.long (own_L (n + own_c2 n + own_ts n I + (own_c2 (n - (I + 1)) - own_c2 (n - J) + (E - J - 1))))), .second, .val (.long (nn.toInt64)), .second, .val (.long (((nn.toInt64) - (1 : Int64)) - (ii.toInt64))), .second, .val (.long (((jj - ii) - (1 : Int32)).toInt64)), .second, .val (.long (((ll - ii) - (1 : Int32)).toInt64)), .second] []))
      obtain ⟨T31, h31, X31, e31, E31, A31, D31, -, st31⟩ := newO X30 hx hZ hown (hw _ (List.mem_of_getElem? (i := 1) rfl)) (hw _ (List.mem_of_getElem? (i := 2) rfl)) (hw _ (List.mem_of_getElem? (i := 3) rfl)) eq30 (g := (mkF m 278 #[.val (.int p0), .val (.int p1), .val (.int p2), .val (.int p3), .val (.int p4), .val (.int nn), .val (.int (2 : Int32)), .val (.int ii), .val (.int jj), .val (.int ll), .val (.long (own_L (n + own_c2 n + own_ts n I + (own_c2 (n - (I + 1)) - own_c2 (n - J) + (E - J - 1))))), .second, .val (.long (nn.toInt64)), .second, .val (.long (((nn.toInt64) - (1 : Int64)) - (ii.toInt64))), .second, .val (.long (((jj - ii) - (1 : Int32)).toInt64)), .second, .val (.long (((ll - ii) - (1 : Int32)).toInt64)), .second] [])) rfl (hb hby at_278) (by decide) (by decide)
      obtain ⟨b31, gz31⟩ : ∃ z, z = h0.size := ⟨_, rfl⟩
      rw [← gz31] at A31 D31 st31
      have g_b31 : n0 ≤ b31 := Nat.le_trans (Nat.le_trans Z0 K0.1) (Nat.le_of_eq gz31.symm)
      have sz_b31 : h0.size ≤ b31 := Nat.le_trans K0.1 (Nat.le_of_eq gz31.symm)
      have K32 : Keep h0 h31 [] := K0.ext E31
      have F_keywords_b31 : Fld Z h31 b31 "com/example/fapre/fapre/KeywordSets" "keywords" "I" (.int (0 : Int32)) := D31 (Or.inr (hw _ (List.mem_of_getElem? (i := 11) rfl))) (ty := .int) (by decide)
      have F_pairStarts_b31 : Fld Z h31 b31 "com/example/fapre/fapre/KeywordSets" "pairStarts" "[J" .null := D31 (Or.inr (hw _ (List.mem_of_getElem? (i := 14) rfl))) (ty := (.array .long)) (by decide)
      have F_tripleStarts_b31 : Fld Z h31 b31 "com/example/fapre/fapre/KeywordSets" "tripleStarts" "[J" .null := D31 (Or.inr (hw _ (List.mem_of_getElem? (i := 16) rfl))) (ty := (.array .long)) (by decide)
      have F_pairs_b31 : Fld Z h31 b31 "com/example/fapre/fapre/KeywordSets" "pairs" "J" (.long (0 : Int64)) := D31 (Or.inr (hw _ (List.mem_of_getElem? (i := 19) rfl))) (ty := .long) (by decide)
      have F_size_b31 : Fld Z h31 b31 "com/example/fapre/fapre/KeywordSets" "size" "I" (.int (0 : Int32)) := D31 (Or.inr (hw _ (List.mem_of_getElem? (i := 22) rfl))) (ty := .int) (by decide)
      refine Runs.by st31 ?_
      show Runs p e below _ (T31.setTop (mkF m 281 #[.val (.int p0), .val (.int p1), .val (.int p2), .val (.int p3), .val (.int p4), .val (.int nn), .val (.int (2 : Int32)), .val (.int ii), .val (.int jj), .val (.int ll), .val (.long (own_L (n + own_c2 n + own_ts n I + (own_c2 (n - (I + 1)) - own_c2 (n - J) + (E - J - 1))))), .second, .val (.long (nn.toInt64)), .second, .val (.long (((nn.toInt64) - (1 : Int64)) - (ii.toInt64))), .second, .val (.long (((jj - ii) - (1 : Int32)).toInt64)), .second, .val (.long (((ll - ii) - (1 : Int32)).toInt64)), .second] [(.ref b31)]))
      refine Runs.by (fun _ hr => XS.dup X31.here hx rfl (hb hby at_281) rfl rfl hr) ?_
      show Runs p e below _ (T31.setTop (mkF m 282 #[.val (.int p0), .val (.int p1), .val (.int p2), .val (.int p3), .val (.int p4), .val (.int nn), .val (.int (2 : Int32)), .val (.int ii), .val (.int jj), .val (.int ll), .val (.long (own_L (n + own_c2 n + own_ts n I + (own_c2 (n - (I + 1)) - own_c2 (n - J) + (E - J - 1))))), .second, .val (.long (nn.toInt64)), .second, .val (.long (((nn.toInt64) - (1 : Int64)) - (ii.toInt64))), .second, .val (.long (((jj - ii) - (1 : Int32)).toInt64)), .second, .val (.long (((ll - ii) - (1 : Int32)).toInt64)), .second] [(.ref b31), (.ref b31)]))
      refine Runs.by (fun _ hr => XS.iload X31.here hx rfl (hb hby at_282) rfl  hr) ?_
      show Runs p e below _ (T31.setTop (mkF m 284 #[.val (.int p0), .val (.int p1), .val (.int p2), .val (.int p3), .val (.int p4), .val (.int nn), .val (.int (2 : Int32)), .val (.int ii), .val (.int jj), .val (.int ll), .val (.long (own_L (n + own_c2 n + own_ts n I + (own_c2 (n - (I + 1)) - own_c2 (n - J) + (E - J - 1))))), .second, .val (.long (nn.toInt64)), .second, .val (.long (((nn.toInt64) - (1 : Int64)) - (ii.toInt64))), .second, .val (.long (((jj - ii) - (1 : Int32)).toInt64)), .second, .val (.long (((ll - ii) - (1 : Int32)).toInt64)), .second] [(.int nn), (.ref b31), (.ref b31)]))
      obtain ⟨_, _, ⟨T33, L33, k33, n33⟩, -, X33, ⟨Lc33, hQ33, l33, y33, z33⟩, st33⟩ := X31.specialBack hx (y := (⟨"com/example/fapre/fapre/KeywordSets", "<init>", "(I)V"⟩ : MethodName)) rfl hown (mvT hZ (hw _ (List.mem_of_getElem? (i := 4) rfl))) (mvT hZ (hw _ (List.mem_of_getElem? (i := 5) rfl))) (mvT hZ (hw _ (List.mem_of_getElem? (i := 6) rfl))) (by decide) (backOf (W := 1) (rm1 l Z a0 hw [] b31 nn n h31 n0 (Nat.le_trans Z0 K32.1) A31 F_keywords_b31 F_pairs_b31 F_size_b31 F_pairStarts_b31 F_tripleStarts_b31 g_b31 hn hbn) hZ (hw _ (List.mem_of_getElem? (i := 6) rfl)) (hw _ (List.mem_of_getElem? (i := 3) rfl)) (by decide) (by decide)) (g := (mkF m 284 #[.val (.int p0), .val (.int p1), .val (.int p2), .val (.int p3), .val (.int p4), .val (.int nn), .val (.int (2 : Int32)), .val (.int ii), .val (.int jj), .val (.int ll), .val (.long (own_L (n + own_c2 n + own_ts n I + (own_c2 (n - (I + 1)) - own_c2 (n - J) + (E - J - 1))))), .second, .val (.long (nn.toInt64)), .second, .val (.long (((nn.toInt64) - (1 : Int64)) - (ii.toInt64))), .second, .val (.long (((jj - ii) - (1 : Int32)).toInt64)), .second, .val (.long (((ll - ii) - (1 : Int32)).toInt64)), .second] [(.int nn), (.ref b31), (.ref b31)])) rfl (by rw [hml]; rfl) (Steps.refl _) (a := b31) (argsL := [(.int nn)]) (rest := [(.ref b31)]) (lenOf pd_2 rfl) rfl (by show 2 * 0 + _ ≤ _; exact Nat.le_of_eq rfl) (hb hby at_284) (fun _ _ => ⟨rfl, e31, (by decide : 1 + 2 ≤ _), (by decide : 5 + 4690 ≤ _)⟩)
      dsimp only [Pt.U, Pt.locs, Pt.cells, Pt.slots] at X33 l33 y33 z33 st33 hQ33
      subst l33 y33 z33
      obtain ⟨rfl, Nq33, Kq33, f33_0, f33_1, f33_2, f33_3, y33, ky33, g_y33, szq_y33, f33_4, f33_5, u33, ku33, g_u33, szq_u33, f33_6, f33_7⟩ := hQ33
      have N33 := Fr.app N30 Nq33
      have ne_b31_y33 : b31 ≠ y33 := Nat.ne_of_lt (Nat.lt_of_lt_of_le A31.lt szq_y33)
      have sz_y33 : h0.size ≤ y33 := Nat.le_trans K32.1 szq_y33
      have ne_b31_u33 : b31 ≠ u33 := Nat.ne_of_lt (Nat.lt_of_lt_of_le A31.lt szq_u33)
      have sz_u33 : h0.size ≤ u33 := Nat.le_trans K32.1 szq_u33
      have K34 : Keep h0 T33.heap [] := Keep.trans (ws := []) K32 Kq33 (allS (Or.inr sz_b31) all0)
      refine Runs.by (fun _ hr => st33.trans hr) ?_
      show Runs p e below _ (T33.setTop (mkF m 287 #[.val (.int p0), .val (.int p1), .val (.int p2), .val (.int p3), .val (.int p4), .val (.int nn), .val (.int (2 : Int32)), .val (.int ii), .val (.int jj), .val (.int ll), .val (.long (own_L (n + own_c2 n + own_ts n I + (own_c2 (n - (I + 1)) - own_c2 (n - J) + (E - J - 1))))), .second, .val (.long (nn.toInt64)), .second, .val (.long (((nn.toInt64) - (1 : Int64)) - (ii.toInt64))), .second, .val (.long (((jj - ii) - (1 : Int32)).toInt64)), .second, .val (.long (((ll - ii) - (1 : Int32)).toInt64)), .second] [(.ref b31)]))
      refine Runs.by (fun _ hr => XS.astore X33.here hx rfl (hb hby at_287) rfl rfl (l' := #[.val (.int p0), .val (.int p1), .val (.int p2), .val (.int p3), .val (.int p4), .val (.int nn), .val (.int (2 : Int32)), .val (.int ii), .val (.int jj), .val (.int ll), .val (.long (own_L (n + own_c2 n + own_ts n I + (own_c2 (n - (I + 1)) - own_c2 (n - J) + (E - J - 1))))), .second, .val (.long (nn.toInt64)), .second, .val (.ref b31), .unset, .val (.long (((jj - ii) - (1 : Int32)).toInt64)), .second, .val (.long (((ll - ii) - (1 : Int32)).toInt64)), .second]) rfl hr) ?_
      show Runs p e below _ (T33.setTop (mkF m 289 #[.val (.int p0), .val (.int p1), .val (.int p2), .val (.int p3), .val (.int p4), .val (.int nn), .val (.int (2 : Int32)), .val (.int ii), .val (.int jj), .val (.int ll), .val (.long (own_L (n + own_c2 n + own_ts n I + (own_c2 (n - (I + 1)) - own_c2 (n - J) + (E - J - 1))))), .second, .val (.long (nn.toInt64)), .second, .val (.ref b31), .unset, .val (.long (((jj - ii) - (1 : Int32)).toInt64)), .second, .val (.long (((ll - ii) - (1 : Int32)).toInt64)), .second] []))
      refine Runs.by (fun _ hr => XS.lload X33.here hx rfl (hb hby at_289) rfl  hr) ?_
      show Runs p e below _ (T33.setTop (mkF m 291 #[.val (.int p0), .val (.int p1), .val (.int p2), .val (.int p3), .val (.int p4), .val (.int nn), .val (.int (2 : Int32)), .val (.int ii), .val (.int jj), .val (.int ll), .val (.long (own_L (n + own_c2 n + own_ts n I + (own_c2 (n - (I + 1)) - own_c2 (n - J) + (E - J - 1))))), .second, .val (.long (nn.toInt64)), .second, .val (.ref b31), .unset, .val (.long (((jj - ii) - (1 : Int32)).toInt64)), .second, .val (.long (((ll - ii) - (1 : Int32)).toInt64)), .second] [(.long (nn.toInt64))]))
      refine Runs.by (fun _ hr => XS.lload X33.here hx rfl (hb hby at_291) rfl  hr) ?_
      show Runs p e below _ (T33.setTop (mkF m 293 #[.val (.int p0), .val (.int p1), .val (.int p2), .val (.int p3), .val (.int p4), .val (.int nn), .val (.int (2 : Int32)), .val (.int ii), .val (.int jj), .val (.int ll), .val (.long (own_L (n + own_c2 n + own_ts n I + (own_c2 (n - (I + 1)) - own_c2 (n - J) + (E - J - 1))))), .second, .val (.long (nn.toInt64)), .second, .val (.ref b31), .unset, .val (.long (((jj - ii) - (1 : Int32)).toInt64)), .second, .val (.long (((ll - ii) - (1 : Int32)).toInt64)), .second] [(.long (nn.toInt64)), (.long (nn.toInt64))]))
      obtain ⟨_, _, ⟨T35, L35, k35, n35⟩, -, X35, ⟨Lc35, hQ35, l35, y35, z35⟩, st35⟩ := Jvm.LawKit.callS X33 hx (y := (⟨"com/example/fapre/fapre/KeywordSetsPlacesPinLaw", "c2", "(J)J"⟩ : MethodName)) hown (mvT hZ (hw _ (List.mem_of_getElem? (i := 23) rfl))) (mvT hZ (hw _ (List.mem_of_getElem? (i := 24) rfl))) (mvT hZ (hw _ (List.mem_of_getElem? (i := 25) rfl))) (mvT hZ (hw _ (List.mem_of_getElem? (i := 26) rfl))) (by decide) (backOf (W := 2) (rm3 l Z a0 hw [] (nn.toInt64)  T33.heap n0 (Nat.le_trans Z0 K34.1) ) hZ (hw _ (List.mem_of_getElem? (i := 26) rfl)) (hw _ (List.mem_of_getElem? (i := 25) rfl)) (by decide) (by decide)) (g := (mkF m 293 #[.val (.int p0), .val (.int p1), .val (.int p2), .val (.int p3), .val (.int p4), .val (.int nn), .val (.int (2 : Int32)), .val (.int ii), .val (.int jj), .val (.int ll), .val (.long (own_L (n + own_c2 n + own_ts n I + (own_c2 (n - (I + 1)) - own_c2 (n - J) + (E - J - 1))))), .second, .val (.long (nn.toInt64)), .second, .val (.ref b31), .unset, .val (.long (((jj - ii) - (1 : Int32)).toInt64)), .second, .val (.long (((ll - ii) - (1 : Int32)).toInt64)), .second] [(.long (nn.toInt64)), (.long (nn.toInt64))])) rfl (by rw [hml]; rfl) (argsL := [(.long (nn.toInt64))]) (rest := [(.long (nn.toInt64))]) (lenOf pd_3 rfl) rfl (by show 2 * 0 + _ ≤ _; exact Nat.le_of_eq rfl) (hb hby at_293) (fun _ _ => ⟨rfl, rfl, (by decide : 3 + 0 ≤ _), (by decide : 4695 + 0 ≤ _)⟩)
      dsimp only [Pt.U, Pt.locs, Pt.cells, Pt.slots] at X35 l35 y35 z35 st35 hQ35
      subst l35 y35 z35
      obtain ⟨rfl, Nq35, eq35⟩ := hQ35
      have N35 := Fr.app N33 Nq35
      refine Runs.by (fun t hr => st35 t hr) ?_
      show Runs p e below _ (T35.setTop (mkF m 296 #[.val (.int p0), .val (.int p1), .val (.int p2), .val (.int p3), .val (.int p4), .val (.int nn), .val (.int (2 : Int32)), .val (.int ii), .val (.int jj), .val (.int ll), .val (.long (own_L (n + own_c2 n + own_ts n I + (own_c2 (n - (I + 1)) - own_c2 (n - J) + (E - J - 1))))), .second, .val (.long (nn.toInt64)), .second, .val (.ref b31), .unset, .val (.long (((jj - ii) - (1 : Int32)).toInt64)), .second, .val (.long (((ll - ii) - (1 : Int32)).toInt64)), .second] [(.long (own_c2J (nn.toInt64))), (.long (nn.toInt64))]))
      refine Runs.by (fun _ hr => XS.ladd X35.here hx rfl (hb hby at_296) rfl hr) ?_
      show Runs p e below _ (T35.setTop (mkF m 297 #[.val (.int p0), .val (.int p1), .val (.int p2), .val (.int p3), .val (.int p4), .val (.int nn), .val (.int (2 : Int32)), .val (.int ii), .val (.int jj), .val (.int ll), .val (.long (own_L (n + own_c2 n + own_ts n I + (own_c2 (n - (I + 1)) - own_c2 (n - J) + (E - J - 1))))), .second, .val (.long (nn.toInt64)), .second, .val (.ref b31), .unset, .val (.long (((jj - ii) - (1 : Int32)).toInt64)), .second, .val (.long (((ll - ii) - (1 : Int32)).toInt64)), .second] [(.long ((nn.toInt64) + (own_c2J (nn.toInt64))))]))
      refine Runs.by (fun _ hr => XS.lload X35.here hx rfl (hb hby at_297) rfl  hr) ?_
      show Runs p e below _ (T35.setTop (mkF m 299 #[.val (.int p0), .val (.int p1), .val (.int p2), .val (.int p3), .val (.int p4), .val (.int nn), .val (.int (2 : Int32)), .val (.int ii), .val (.int jj), .val (.int ll), .val (.long (own_L (n + own_c2 n + own_ts n I + (own_c2 (n - (I + 1)) - own_c2 (n - J) + (E - J - 1))))), .second, .val (.long (nn.toInt64)), .second, .val (.ref b31), .unset, .val (.long (((jj - ii) - (1 : Int32)).toInt64)), .second, .val (.long (((ll - ii) - (1 : Int32)).toInt64)), .second] [(.long (nn.toInt64)), (.long ((nn.toInt64) + (own_c2J (nn.toInt64))))]))
      obtain ⟨_, _, ⟨T36, L36, k36, n36⟩, -, X36, ⟨Lc36, hQ36, l36, y36, z36⟩, st36⟩ := Jvm.LawKit.callS X35 hx (y := (⟨"com/example/fapre/fapre/KeywordSetsPlacesPinLaw", "c3", "(J)J"⟩ : MethodName)) hown (mvT hZ (hw _ (List.mem_of_getElem? (i := 28) rfl))) (mvT hZ (hw _ (List.mem_of_getElem? (i := 29) rfl))) (mvT hZ (hw _ (List.mem_of_getElem? (i := 25) rfl))) (mvT hZ (hw _ (List.mem_of_getElem? (i := 30) rfl))) (by decide) (backOf (W := 2) (rm4 l Z a0 hw [] (nn.toInt64)  T33.heap n0 (Nat.le_trans Z0 K34.1) ) hZ (hw _ (List.mem_of_getElem? (i := 30) rfl)) (hw _ (List.mem_of_getElem? (i := 25) rfl)) (by decide) (by decide)) (g := (mkF m 299 #[.val (.int p0), .val (.int p1), .val (.int p2), .val (.int p3), .val (.int p4), .val (.int nn), .val (.int (2 : Int32)), .val (.int ii), .val (.int jj), .val (.int ll), .val (.long (own_L (n + own_c2 n + own_ts n I + (own_c2 (n - (I + 1)) - own_c2 (n - J) + (E - J - 1))))), .second, .val (.long (nn.toInt64)), .second, .val (.ref b31), .unset, .val (.long (((jj - ii) - (1 : Int32)).toInt64)), .second, .val (.long (((ll - ii) - (1 : Int32)).toInt64)), .second] [(.long (nn.toInt64)), (.long ((nn.toInt64) + (own_c2J (nn.toInt64))))])) rfl (by rw [hml]; rfl) (argsL := [(.long (nn.toInt64))]) (rest := [(.long ((nn.toInt64) + (own_c2J (nn.toInt64))))]) (lenOf pd_3 rfl) rfl (by show 2 * 0 + _ ≤ _; exact Nat.le_of_eq rfl) (hb hby at_299) (fun _ _ => ⟨rfl, eq35, (by decide : 3 + 0 ≤ _), (by decide : 4695 + 0 ≤ _)⟩)
      dsimp only [Pt.U, Pt.locs, Pt.cells, Pt.slots] at X36 l36 y36 z36 st36 hQ36
      subst l36 y36 z36
      obtain ⟨rfl, Nq36, eq36⟩ := hQ36
      have N36 := Fr.app N35 Nq36
      refine Runs.by (fun t hr => st36 t hr) ?_
      show Runs p e below _ (T36.setTop (mkF m 302 #[.val (.int p0), .val (.int p1), .val (.int p2), .val (.int p3), .val (.int p4), .val (.int nn), .val (.int (2 : Int32)), .val (.int ii), .val (.int jj), .val (.int ll), .val (.long (own_L (n + own_c2 n + own_ts n I + (own_c2 (n - (I + 1)) - own_c2 (n - J) + (E - J - 1))))), .second, .val (.long (nn.toInt64)), .second, .val (.ref b31), .unset, .val (.long (((jj - ii) - (1 : Int32)).toInt64)), .second, .val (.long (((ll - ii) - (1 : Int32)).toInt64)), .second] [(.long (own_c3J (nn.toInt64))), (.long ((nn.toInt64) + (own_c2J (nn.toInt64))))]))
      refine Runs.by (fun _ hr => XS.ladd X36.here hx rfl (hb hby at_302) rfl hr) ?_
      show Runs p e below _ (T36.setTop (mkF m 303 #[.val (.int p0), .val (.int p1), .val (.int p2), .val (.int p3), .val (.int p4), .val (.int nn), .val (.int (2 : Int32)), .val (.int ii), .val (.int jj), .val (.int ll), .val (.long (own_L (n + own_c2 n + own_ts n I + (own_c2 (n - (I + 1)) - own_c2 (n - J) + (E - J - 1))))), .second, .val (.long (nn.toInt64)), .second, .val (.ref b31), .unset, .val (.long (((jj - ii) - (1 : Int32)).toInt64)), .second, .val (.long (((ll - ii) - (1 : Int32)).toInt64)), .second] [(.long (((nn.toInt64) + (own_c2J (nn.toInt64))) + (own_c3J (nn.toInt64))))]))
      refine Runs.by (fun _ hr => XS.lstore X36.here hx rfl (hb hby at_303) rfl (l' := #[.val (.int p0), .val (.int p1), .val (.int p2), .val (.int p3), .val (.int p4), .val (.int nn), .val (.int (2 : Int32)), .val (.int ii), .val (.int jj), .val (.int ll), .val (.long (own_L (n + own_c2 n + own_ts n I + (own_c2 (n - (I + 1)) - own_c2 (n - J) + (E - J - 1))))), .second, .val (.long (nn.toInt64)), .second, .val (.ref b31), .val (.long (((nn.toInt64) + (own_c2J (nn.toInt64))) + (own_c3J (nn.toInt64)))), .second, .unset, .val (.long (((ll - ii) - (1 : Int32)).toInt64)), .second]) rfl hr) ?_
      have hexp : (((nn.toInt64) + (own_c2J (nn.toInt64))) + (own_c3J (nn.toInt64))) = own_L (n + own_c2 n + own_c3 n) := by rw [own_wide hn, own_c2J_eq (by omega), own_c3J_eq (by omega), own_Ladd (by omega), own_Ladd (by omega)]
      show Runs p e below _ (T36.setTop (mkF m 305 #[.val (.int p0), .val (.int p1), .val (.int p2), .val (.int p3), .val (.int p4), .val (.int nn), .val (.int (2 : Int32)), .val (.int ii), .val (.int jj), .val (.int ll), .val (.long (own_L (n + own_c2 n + own_ts n I + (own_c2 (n - (I + 1)) - own_c2 (n - J) + (E - J - 1))))), .second, .val (.long (nn.toInt64)), .second, .val (.ref b31), .val (.long (((nn.toInt64) + (own_c2J (nn.toInt64))) + (own_c3J (nn.toInt64)))), .second, .unset, .val (.long (((ll - ii) - (1 : Int32)).toInt64)), .second] []))
      rw [hexp]
      show Runs p e below _ (T36.setTop (mkF m 305 #[.val (.int p0), .val (.int p1), .val (.int p2), .val (.int p3), .val (.int p4), .val (.int nn), .val (.int (2 : Int32)), .val (.int ii), .val (.int jj), .val (.int ll), .val (.long (own_L (n + own_c2 n + own_ts n I + (own_c2 (n - (I + 1)) - own_c2 (n - J) + (E - J - 1))))), .second, .val (.long (nn.toInt64)), .second, .val (.ref b31), .val (.long (own_L (n + own_c2 n + own_c3 n))), .second, .unset, .val (.long (((ll - ii) - (1 : Int32)).toInt64)), .second] []))
      refine Runs.by (fun _ hr => XS.aload X36.here hx rfl (hb hby at_305) rfl rfl hr) ?_
      show Runs p e below _ (T36.setTop (mkF m 307 #[.val (.int p0), .val (.int p1), .val (.int p2), .val (.int p3), .val (.int p4), .val (.int nn), .val (.int (2 : Int32)), .val (.int ii), .val (.int jj), .val (.int ll), .val (.long (own_L (n + own_c2 n + own_ts n I + (own_c2 (n - (I + 1)) - own_c2 (n - J) + (E - J - 1))))), .second, .val (.long (nn.toInt64)), .second, .val (.ref b31), .val (.long (own_L (n + own_c2 n + own_c3 n))), .second, .unset, .val (.long (((ll - ii) - (1 : Int32)).toInt64)), .second] [(.ref b31)]))
      obtain ⟨cq37, kq37, q37a, q37b, q37c⟩ := isOf hZ eq36 f33_0
      obtain ⟨_, _, ⟨T37, L37, k37, n37⟩, -, X37, ⟨Lc37, hQ37, l37, y37, z37⟩, st37⟩ := X36.virtualBack hx (y := (⟨"com/example/fapre/fapre/KeywordSets", "size", "()I"⟩ : MethodName)) (z := (⟨"com/example/fapre/fapre/KeywordSets", "size", "()I"⟩ : MethodName)) hown (mvT hZ (hw _ (List.mem_of_getElem? (i := 32) rfl))) (mvT hZ (hw _ (List.mem_of_getElem? (i := 33) rfl))) (notFace_of_selects (args := #[]) (mvT hZ (hw _ (List.mem_of_getElem? (i := 35) rfl)))) (mvT hZ (hw _ (List.mem_of_getElem? (i := 35) rfl))) (mvT hZ (hw _ (List.mem_of_getElem? (i := 34) rfl))) (by decide) (backOf (W := 0) (rm5 l Z a0 hw [] b31 ((own_L (n + own_c2 n + own_c3 n)).toInt32) T33.heap n0 (Nat.le_trans Z0 K34.1) f33_3) hZ (hw _ (List.mem_of_getElem? (i := 36) rfl)) (hw _ (List.mem_of_getElem? (i := 3) rfl)) (by decide) (by decide)) q37a q37c (g := (mkF m 307 #[.val (.int p0), .val (.int p1), .val (.int p2), .val (.int p3), .val (.int p4), .val (.int nn), .val (.int (2 : Int32)), .val (.int ii), .val (.int jj), .val (.int ll), .val (.long (own_L (n + own_c2 n + own_ts n I + (own_c2 (n - (I + 1)) - own_c2 (n - J) + (E - J - 1))))), .second, .val (.long (nn.toInt64)), .second, .val (.ref b31), .val (.long (own_L (n + own_c2 n + own_c3 n))), .second, .unset, .val (.long (((ll - ii) - (1 : Int32)).toInt64)), .second] [(.ref b31)])) rfl (by rw [hml]; rfl) (Steps.refl _) (argsL := []) (rest := []) (lenOf pd_4 rfl) rfl (by show 2 * 0 + _ ≤ _; exact Nat.le_of_eq rfl) (hb hby at_307) (fun _ _ => ⟨rfl, eq36, (by decide : 3 + 0 ≤ _), (by decide : 4695 + 0 ≤ _)⟩)
      dsimp only [Pt.U, Pt.locs, Pt.cells, Pt.slots] at X37 l37 y37 z37 st37 hQ37
      subst l37 y37 z37
      obtain ⟨rfl, Nq37, eq37⟩ := hQ37
      have N37 := Fr.app N36 Nq37
      refine Runs.by (fun _ hr => st37.trans hr) ?_
      show Runs p e below _ (T37.setTop (mkF m 310 #[.val (.int p0), .val (.int p1), .val (.int p2), .val (.int p3), .val (.int p4), .val (.int nn), .val (.int (2 : Int32)), .val (.int ii), .val (.int jj), .val (.int ll), .val (.long (own_L (n + own_c2 n + own_ts n I + (own_c2 (n - (I + 1)) - own_c2 (n - J) + (E - J - 1))))), .second, .val (.long (nn.toInt64)), .second, .val (.ref b31), .val (.long (own_L (n + own_c2 n + own_c3 n))), .second, .unset, .val (.long (((ll - ii) - (1 : Int32)).toInt64)), .second] [(.int (own_L (n + own_c2 n + own_c3 n)).toInt32)]))
      refine Runs.by (fun _ hr => XS.i2l X37.here hx rfl (hb hby at_310) rfl hr) ?_
      show Runs p e below _ (T37.setTop (mkF m 311 #[.val (.int p0), .val (.int p1), .val (.int p2), .val (.int p3), .val (.int p4), .val (.int nn), .val (.int (2 : Int32)), .val (.int ii), .val (.int jj), .val (.int ll), .val (.long (own_L (n + own_c2 n + own_ts n I + (own_c2 (n - (I + 1)) - own_c2 (n - J) + (E - J - 1))))), .second, .val (.long (nn.toInt64)), .second, .val (.ref b31), .val (.long (own_L (n + own_c2 n + own_c3 n))), .second, .unset, .val (.long (((ll - ii) - (1 : Int32)).toInt64)), .second] [(.long ((own_L (n + own_c2 n + own_c3 n)).toInt32.toInt64))]))
      refine Runs.by (fun _ hr => XS.lload X37.here hx rfl (hb hby at_311) rfl  hr) ?_
      show Runs p e below _ (T37.setTop (mkF m 313 #[.val (.int p0), .val (.int p1), .val (.int p2), .val (.int p3), .val (.int p4), .val (.int nn), .val (.int (2 : Int32)), .val (.int ii), .val (.int jj), .val (.int ll), .val (.long (own_L (n + own_c2 n + own_ts n I + (own_c2 (n - (I + 1)) - own_c2 (n - J) + (E - J - 1))))), .second, .val (.long (nn.toInt64)), .second, .val (.ref b31), .val (.long (own_L (n + own_c2 n + own_c3 n))), .second, .unset, .val (.long (((ll - ii) - (1 : Int32)).toInt64)), .second] [(.long (own_L (n + own_c2 n + own_c3 n))), (.long ((own_L (n + own_c2 n + own_c3 n)).toInt32.toInt64))]))
      refine Runs.by (fun _ hr => XS.lcmp X37.here hx rfl (hb hby at_313) rfl hr) ?_
      show Runs p e below _ (T37.setTop (mkF m 314 #[.val (.int p0), .val (.int p1), .val (.int p2), .val (.int p3), .val (.int p4), .val (.int nn), .val (.int (2 : Int32)), .val (.int ii), .val (.int jj), .val (.int ll), .val (.long (own_L (n + own_c2 n + own_ts n I + (own_c2 (n - (I + 1)) - own_c2 (n - J) + (E - J - 1))))), .second, .val (.long (nn.toInt64)), .second, .val (.ref b31), .val (.long (own_L (n + own_c2 n + own_c3 n))), .second, .unset, .val (.long (((ll - ii) - (1 : Int32)).toInt64)), .second] [(.int (lcmpW ((own_L (n + own_c2 n + own_c3 n)).toInt32.toInt64) (own_L (n + own_c2 n + own_c3 n))))]))
      have hc314 : (lcmpW ((own_L (n + own_c2 n + own_c3 n)).toInt32.toInt64) (own_L (n + own_c2 n + own_c3 n))) = (0 : Int32) := own_lceq (own_LI32w (by omega))
      refine Runs.by (fun _ hr => XS.ifYes X37.here hx rfl (pc0 := 314) (pc' := 319) rfl (hb hby at_314) rfl ((if0 _ _).trans (teq hc314).1) (by decide) (by decide) hr) ?_
      show Runs p e below _ (T37.setTop (mkF m 319 #[.val (.int p0), .val (.int p1), .val (.int p2), .val (.int p3), .val (.int p4), .val (.int nn), .val (.int (2 : Int32)), .val (.int ii), .val (.int jj), .val (.int ll), .val (.long (own_L (n + own_c2 n + own_ts n I + (own_c2 (n - (I + 1)) - own_c2 (n - J) + (E - J - 1))))), .second, .val (.long (nn.toInt64)), .second, .val (.ref b31), .val (.long (own_L (n + own_c2 n + own_c3 n))), .second, .unset, .val (.long (((ll - ii) - (1 : Int32)).toInt64)), .second] []))
      refine Runs.by (fun _ hr => XS.aload X37.here hx rfl (hb hby at_319) rfl rfl hr) ?_
      show Runs p e below _ (T37.setTop (mkF m 321 #[.val (.int p0), .val (.int p1), .val (.int p2), .val (.int p3), .val (.int p4), .val (.int nn), .val (.int (2 : Int32)), .val (.int ii), .val (.int jj), .val (.int ll), .val (.long (own_L (n + own_c2 n + own_ts n I + (own_c2 (n - (I + 1)) - own_c2 (n - J) + (E - J - 1))))), .second, .val (.long (nn.toInt64)), .second, .val (.ref b31), .val (.long (own_L (n + own_c2 n + own_c3 n))), .second, .unset, .val (.long (((ll - ii) - (1 : Int32)).toInt64)), .second] [(.ref b31)]))
      refine Runs.by (fun _ hr => XS.lload X37.here hx rfl (hb hby at_321) rfl  hr) ?_
      show Runs p e below _ (T37.setTop (mkF m 323 #[.val (.int p0), .val (.int p1), .val (.int p2), .val (.int p3), .val (.int p4), .val (.int nn), .val (.int (2 : Int32)), .val (.int ii), .val (.int jj), .val (.int ll), .val (.long (own_L (n + own_c2 n + own_ts n I + (own_c2 (n - (I + 1)) - own_c2 (n - J) + (E - J - 1))))), .second, .val (.long (nn.toInt64)), .second, .val (.ref b31), .val (.long (own_L (n + own_c2 n + own_c3 n))), .second, .unset, .val (.long (((ll - ii) - (1 : Int32)).toInt64)), .second] [(.long (own_L (n + own_c2 n + own_ts n I + (own_c2 (n - (I + 1)) - own_c2 (n - J) + (E - J - 1))))), (.ref b31)]))
      refine Runs.by (fun _ hr => XS.l2i X37.here hx rfl (hb hby at_323) rfl hr) ?_
      have hNi : ((own_L (n + own_c2 n + own_ts n I + (own_c2 (n - (I + 1)) - own_c2 (n - J) + (E - J - 1)))).toInt32).toInt = ((n + own_c2 n + own_ts n I + (own_c2 (n - (I + 1)) - own_c2 (n - J) + (E - J - 1))) : Nat) := own_LI32 hN
      show Runs p e below _ (T37.setTop (mkF m 324 #[.val (.int p0), .val (.int p1), .val (.int p2), .val (.int p3), .val (.int p4), .val (.int nn), .val (.int (2 : Int32)), .val (.int ii), .val (.int jj), .val (.int ll), .val (.long (own_L (n + own_c2 n + own_ts n I + (own_c2 (n - (I + 1)) - own_c2 (n - J) + (E - J - 1))))), .second, .val (.long (nn.toInt64)), .second, .val (.ref b31), .val (.long (own_L (n + own_c2 n + own_c3 n))), .second, .unset, .val (.long (((ll - ii) - (1 : Int32)).toInt64)), .second] [(.int ((own_L (n + own_c2 n + own_ts n I + (own_c2 (n - (I + 1)) - own_c2 (n - J) + (E - J - 1)))).toInt32)), (.ref b31)]))
      obtain ⟨cq38, kq38, q38a, q38b, q38c⟩ := isOf hZ eq37 f33_0
      obtain ⟨_, _, ⟨T38, L38, k38, n38⟩, -, X38, ⟨Lc38, hQ38, l38, y38, z38⟩, st38⟩ := X37.virtualBack hx (y := (⟨"com/example/fapre/fapre/KeywordSets", "places", "(I)[I"⟩ : MethodName)) (z := (⟨"com/example/fapre/fapre/KeywordSets", "places", "(I)[I"⟩ : MethodName)) hown (mvT hZ (hw _ (List.mem_of_getElem? (i := 37) rfl))) (mvT hZ (hw _ (List.mem_of_getElem? (i := 38) rfl))) (notFace_of_selects (args := #[]) (mvT hZ (hw _ (List.mem_of_getElem? (i := 40) rfl)))) (mvT hZ (hw _ (List.mem_of_getElem? (i := 40) rfl))) (mvT hZ (hw _ (List.mem_of_getElem? (i := 39) rfl))) (by decide) (backOf (W := 0) (rm6_2 l Z a0 hw [] b31 ((own_L (n + own_c2 n + own_ts n I + (own_c2 (n - (I + 1)) - own_c2 (n - J) + (E - J - 1)))).toInt32) nn n y33 ky33 u33 ku33 (nn + (1 : Int32)) I J E ii jj ll T33.heap n0 (Nat.le_trans Z0 K34.1) f33_0 f33_1 f33_2 f33_3 f33_4 f33_6 f33_5 f33_7 hn hbn hz (by omega) eii ejj ell (by rw [hNi]; congr 1; omega)) hZ (hw _ (List.mem_of_getElem? (i := 41) rfl)) (hw _ (List.mem_of_getElem? (i := 3) rfl)) (by decide) (by decide)) q38a q38c (g := (mkF m 324 #[.val (.int p0), .val (.int p1), .val (.int p2), .val (.int p3), .val (.int p4), .val (.int nn), .val (.int (2 : Int32)), .val (.int ii), .val (.int jj), .val (.int ll), .val (.long (own_L (n + own_c2 n + own_ts n I + (own_c2 (n - (I + 1)) - own_c2 (n - J) + (E - J - 1))))), .second, .val (.long (nn.toInt64)), .second, .val (.ref b31), .val (.long (own_L (n + own_c2 n + own_c3 n))), .second, .unset, .val (.long (((ll - ii) - (1 : Int32)).toInt64)), .second] [(.int ((own_L (n + own_c2 n + own_ts n I + (own_c2 (n - (I + 1)) - own_c2 (n - J) + (E - J - 1)))).toInt32)), (.ref b31)])) rfl (by rw [hml]; rfl) (Steps.refl _) (argsL := [(.int ((own_L (n + own_c2 n + own_ts n I + (own_c2 (n - (I + 1)) - own_c2 (n - J) + (E - J - 1)))).toInt32))]) (rest := []) (lenOf pd_5 rfl) rfl (by show 2 * 0 + _ ≤ _; exact Nat.le_of_eq rfl) (hb hby at_324) (fun _ _ => ⟨rfl, eq37, (by decide : 3 + 2 ≤ _), (by decide : 4695 + 5 ≤ _)⟩)
      dsimp only [Pt.U, Pt.locs, Pt.cells, Pt.slots] at X38 l38 y38 z38 st38 hQ38
      subst l38 y38 z38
      obtain ⟨y38, ky38, rfl, Nq38, Kq38, g_y38, szq_y38, f38_0⟩ := hQ38
      have N38 := Fr.app N37 Nq38
      have ne_b31_y38 : b31 ≠ y38 := Nat.ne_of_lt (Nat.lt_of_lt_of_le f33_0.lt szq_y38)
      have ne_y33_y38 : y33 ≠ y38 := Nat.ne_of_lt (Nat.lt_of_lt_of_le f33_5.lt szq_y38)
      have ne_u33_y38 : u33 ≠ y38 := Nat.ne_of_lt (Nat.lt_of_lt_of_le f33_7.lt szq_y38)
      have sz_y38 : h0.size ≤ y38 := Nat.le_trans K34.1 szq_y38
      have K39 : Keep h0 T38.heap [] := Keep.trans (ws := []) K34 Kq38 all0
      refine Runs.by (fun _ hr => st38.trans hr) ?_
      show Runs p e below _ (T38.setTop (mkF m 327 #[.val (.int p0), .val (.int p1), .val (.int p2), .val (.int p3), .val (.int p4), .val (.int nn), .val (.int (2 : Int32)), .val (.int ii), .val (.int jj), .val (.int ll), .val (.long (own_L (n + own_c2 n + own_ts n I + (own_c2 (n - (I + 1)) - own_c2 (n - J) + (E - J - 1))))), .second, .val (.long (nn.toInt64)), .second, .val (.ref b31), .val (.long (own_L (n + own_c2 n + own_c3 n))), .second, .unset, .val (.long (((ll - ii) - (1 : Int32)).toInt64)), .second] [(.ref y38)]))
      refine Runs.by (fun _ hr => XS.astore X38.here hx rfl (hb hby at_327) rfl rfl (l' := #[.val (.int p0), .val (.int p1), .val (.int p2), .val (.int p3), .val (.int p4), .val (.int nn), .val (.int (2 : Int32)), .val (.int ii), .val (.int jj), .val (.int ll), .val (.long (own_L (n + own_c2 n + own_ts n I + (own_c2 (n - (I + 1)) - own_c2 (n - J) + (E - J - 1))))), .second, .val (.long (nn.toInt64)), .second, .val (.ref b31), .val (.long (own_L (n + own_c2 n + own_c3 n))), .second, .val (.ref y38), .val (.long (((ll - ii) - (1 : Int32)).toInt64)), .second]) rfl hr) ?_
      show Runs p e below _ (T38.setTop (mkF m 329 #[.val (.int p0), .val (.int p1), .val (.int p2), .val (.int p3), .val (.int p4), .val (.int nn), .val (.int (2 : Int32)), .val (.int ii), .val (.int jj), .val (.int ll), .val (.long (own_L (n + own_c2 n + own_ts n I + (own_c2 (n - (I + 1)) - own_c2 (n - J) + (E - J - 1))))), .second, .val (.long (nn.toInt64)), .second, .val (.ref b31), .val (.long (own_L (n + own_c2 n + own_c3 n))), .second, .val (.ref y38), .val (.long (((ll - ii) - (1 : Int32)).toInt64)), .second] []))
      refine Runs.by (fun _ hr => XS.aload X38.here hx rfl (hb hby at_329) rfl rfl hr) ?_
      show Runs p e below _ (T38.setTop (mkF m 331 #[.val (.int p0), .val (.int p1), .val (.int p2), .val (.int p3), .val (.int p4), .val (.int nn), .val (.int (2 : Int32)), .val (.int ii), .val (.int jj), .val (.int ll), .val (.long (own_L (n + own_c2 n + own_ts n I + (own_c2 (n - (I + 1)) - own_c2 (n - J) + (E - J - 1))))), .second, .val (.long (nn.toInt64)), .second, .val (.ref b31), .val (.long (own_L (n + own_c2 n + own_c3 n))), .second, .val (.ref y38), .val (.long (((ll - ii) - (1 : Int32)).toInt64)), .second] [(.ref y38)]))
      refine Runs.by (fun _ hr => XS.ifnonnullYes X38.here hx rfl (pc0 := 331) (pc' := 336) rfl (hb hby at_331) rfl (by decide) (by decide) hr) ?_
      show Runs p e below _ (T38.setTop (mkF m 336 #[.val (.int p0), .val (.int p1), .val (.int p2), .val (.int p3), .val (.int p4), .val (.int nn), .val (.int (2 : Int32)), .val (.int ii), .val (.int jj), .val (.int ll), .val (.long (own_L (n + own_c2 n + own_ts n I + (own_c2 (n - (I + 1)) - own_c2 (n - J) + (E - J - 1))))), .second, .val (.long (nn.toInt64)), .second, .val (.ref b31), .val (.long (own_L (n + own_c2 n + own_c3 n))), .second, .val (.ref y38), .val (.long (((ll - ii) - (1 : Int32)).toInt64)), .second] []))
      refine Runs.by (fun _ hr => XS.iload X38.here hx rfl (hb hby at_336) rfl  hr) ?_
      show Runs p e below _ (T38.setTop (mkF m 338 #[.val (.int p0), .val (.int p1), .val (.int p2), .val (.int p3), .val (.int p4), .val (.int nn), .val (.int (2 : Int32)), .val (.int ii), .val (.int jj), .val (.int ll), .val (.long (own_L (n + own_c2 n + own_ts n I + (own_c2 (n - (I + 1)) - own_c2 (n - J) + (E - J - 1))))), .second, .val (.long (nn.toInt64)), .second, .val (.ref b31), .val (.long (own_L (n + own_c2 n + own_c3 n))), .second, .val (.ref y38), .val (.long (((ll - ii) - (1 : Int32)).toInt64)), .second] [(.int (2 : Int32))]))
      have hc338 : ¬ ((2 : Int32) = (0 : Int32)) := (by decide)
      refine Runs.by (fun _ hr => XS.ifYes X38.here hx rfl (pc0 := 338) (pc' := 363) rfl (hb hby at_338) rfl ((if0 _ _).trans (feq hc338).2) (by decide) (by decide) hr) ?_
      show Runs p e below _ (T38.setTop (mkF m 363 #[.val (.int p0), .val (.int p1), .val (.int p2), .val (.int p3), .val (.int p4), .val (.int nn), .val (.int (2 : Int32)), .val (.int ii), .val (.int jj), .val (.int ll), .val (.long (own_L (n + own_c2 n + own_ts n I + (own_c2 (n - (I + 1)) - own_c2 (n - J) + (E - J - 1))))), .second, .val (.long (nn.toInt64)), .second, .val (.ref b31), .val (.long (own_L (n + own_c2 n + own_c3 n))), .second, .val (.ref y38), .val (.long (((ll - ii) - (1 : Int32)).toInt64)), .second] []))
      refine Runs.by (fun _ hr => XS.iload X38.here hx rfl (hb hby at_363) rfl  hr) ?_
      show Runs p e below _ (T38.setTop (mkF m 365 #[.val (.int p0), .val (.int p1), .val (.int p2), .val (.int p3), .val (.int p4), .val (.int nn), .val (.int (2 : Int32)), .val (.int ii), .val (.int jj), .val (.int ll), .val (.long (own_L (n + own_c2 n + own_ts n I + (own_c2 (n - (I + 1)) - own_c2 (n - J) + (E - J - 1))))), .second, .val (.long (nn.toInt64)), .second, .val (.ref b31), .val (.long (own_L (n + own_c2 n + own_c3 n))), .second, .val (.ref y38), .val (.long (((ll - ii) - (1 : Int32)).toInt64)), .second] [(.int (2 : Int32))]))
      refine Runs.by (fun _ hr => XS.iconst X38.here hx rfl (hb hby at_365) hr) ?_
      show Runs p e below _ (T38.setTop (mkF m 366 #[.val (.int p0), .val (.int p1), .val (.int p2), .val (.int p3), .val (.int p4), .val (.int nn), .val (.int (2 : Int32)), .val (.int ii), .val (.int jj), .val (.int ll), .val (.long (own_L (n + own_c2 n + own_ts n I + (own_c2 (n - (I + 1)) - own_c2 (n - J) + (E - J - 1))))), .second, .val (.long (nn.toInt64)), .second, .val (.ref b31), .val (.long (own_L (n + own_c2 n + own_c3 n))), .second, .val (.ref y38), .val (.long (((ll - ii) - (1 : Int32)).toInt64)), .second] [(.int (1 : Int32)), (.int (2 : Int32))]))
      have hc366 : ¬ ((2 : Int32) = (1 : Int32)) := (by decide)
      refine Runs.by (fun _ hr => XS.icmpYes X38.here hx rfl (pc0 := 366) (pc' := 400) rfl (hb hby at_366) rfl (feq hc366).2 (by decide) (by decide) hr) ?_
      show Runs p e below _ (T38.setTop (mkF m 400 #[.val (.int p0), .val (.int p1), .val (.int p2), .val (.int p3), .val (.int p4), .val (.int nn), .val (.int (2 : Int32)), .val (.int ii), .val (.int jj), .val (.int ll), .val (.long (own_L (n + own_c2 n + own_ts n I + (own_c2 (n - (I + 1)) - own_c2 (n - J) + (E - J - 1))))), .second, .val (.long (nn.toInt64)), .second, .val (.ref b31), .val (.long (own_L (n + own_c2 n + own_c3 n))), .second, .val (.ref y38), .val (.long (((ll - ii) - (1 : Int32)).toInt64)), .second] []))
      refine Runs.by (fun _ hr => XS.aload X38.here hx rfl (hb hby at_400) rfl rfl hr) ?_
      show Runs p e below _ (T38.setTop (mkF m 402 #[.val (.int p0), .val (.int p1), .val (.int p2), .val (.int p3), .val (.int p4), .val (.int nn), .val (.int (2 : Int32)), .val (.int ii), .val (.int jj), .val (.int ll), .val (.long (own_L (n + own_c2 n + own_ts n I + (own_c2 (n - (I + 1)) - own_c2 (n - J) + (E - J - 1))))), .second, .val (.long (nn.toInt64)), .second, .val (.ref b31), .val (.long (own_L (n + own_c2 n + own_c3 n))), .second, .val (.ref y38), .val (.long (((ll - ii) - (1 : Int32)).toInt64)), .second] [(.ref y38)]))
      obtain ⟨cl40, Ar40, -, S40, N40', -⟩ := id f38_0
      refine Runs.by (fun t hr => X38.arraylength hx (by exact Ar40.1) (State.isArrayOf_alike hZ.alike Ar40.2.1) (g := (mkF m 402 #[.val (.int p0), .val (.int p1), .val (.int p2), .val (.int p3), .val (.int p4), .val (.int nn), .val (.int (2 : Int32)), .val (.int ii), .val (.int jj), .val (.int ll), .val (.long (own_L (n + own_c2 n + own_ts n I + (own_c2 (n - (I + 1)) - own_c2 (n - J) + (E - J - 1))))), .second, .val (.long (nn.toInt64)), .second, .val (.ref b31), .val (.long (own_L (n + own_c2 n + own_c3 n))), .second, .val (.ref y38), .val (.long (((ll - ii) - (1 : Int32)).toInt64)), .second] [(.ref y38)])) rfl rfl (hb hby at_402) t hr) ?_
      rw [len_of S40 N40']
      show Runs p e below _ (T38.setTop (mkF m 403 #[.val (.int p0), .val (.int p1), .val (.int p2), .val (.int p3), .val (.int p4), .val (.int nn), .val (.int (2 : Int32)), .val (.int ii), .val (.int jj), .val (.int ll), .val (.long (own_L (n + own_c2 n + own_ts n I + (own_c2 (n - (I + 1)) - own_c2 (n - J) + (E - J - 1))))), .second, .val (.long (nn.toInt64)), .second, .val (.ref b31), .val (.long (own_L (n + own_c2 n + own_c3 n))), .second, .val (.ref y38), .val (.long (((ll - ii) - (1 : Int32)).toInt64)), .second] [(.int (3 : Int32))]))
      refine Runs.by (fun _ hr => XS.iconst X38.here hx rfl (hb hby at_403) hr) ?_
      show Runs p e below _ (T38.setTop (mkF m 404 #[.val (.int p0), .val (.int p1), .val (.int p2), .val (.int p3), .val (.int p4), .val (.int nn), .val (.int (2 : Int32)), .val (.int ii), .val (.int jj), .val (.int ll), .val (.long (own_L (n + own_c2 n + own_ts n I + (own_c2 (n - (I + 1)) - own_c2 (n - J) + (E - J - 1))))), .second, .val (.long (nn.toInt64)), .second, .val (.ref b31), .val (.long (own_L (n + own_c2 n + own_c3 n))), .second, .val (.ref y38), .val (.long (((ll - ii) - (1 : Int32)).toInt64)), .second] [(.int (3 : Int32)), (.int (3 : Int32))]))
      have hc404 : (3 : Int32) = (3 : Int32) := (by decide)
      refine Runs.by (fun _ hr => XS.icmpNo X38.here hx rfl (hb hby at_404) rfl (teq hc404).2 hr) ?_
      show Runs p e below _ (T38.setTop (mkF m 407 #[.val (.int p0), .val (.int p1), .val (.int p2), .val (.int p3), .val (.int p4), .val (.int nn), .val (.int (2 : Int32)), .val (.int ii), .val (.int jj), .val (.int ll), .val (.long (own_L (n + own_c2 n + own_ts n I + (own_c2 (n - (I + 1)) - own_c2 (n - J) + (E - J - 1))))), .second, .val (.long (nn.toInt64)), .second, .val (.ref b31), .val (.long (own_L (n + own_c2 n + own_c3 n))), .second, .val (.ref y38), .val (.long (((ll - ii) - (1 : Int32)).toInt64)), .second] []))
      refine Runs.by (fun _ hr => XS.aload X38.here hx rfl (hb hby at_407) rfl rfl hr) ?_
      show Runs p e below _ (T38.setTop (mkF m 409 #[.val (.int p0), .val (.int p1), .val (.int p2), .val (.int p3), .val (.int p4), .val (.int nn), .val (.int (2 : Int32)), .val (.int ii), .val (.int jj), .val (.int ll), .val (.long (own_L (n + own_c2 n + own_ts n I + (own_c2 (n - (I + 1)) - own_c2 (n - J) + (E - J - 1))))), .second, .val (.long (nn.toInt64)), .second, .val (.ref b31), .val (.long (own_L (n + own_c2 n + own_c3 n))), .second, .val (.ref y38), .val (.long (((ll - ii) - (1 : Int32)).toInt64)), .second] [(.ref y38)]))
      refine Runs.by (fun _ hr => XS.iconst X38.here hx rfl (hb hby at_409) hr) ?_
      show Runs p e below _ (T38.setTop (mkF m 410 #[.val (.int p0), .val (.int p1), .val (.int p2), .val (.int p3), .val (.int p4), .val (.int nn), .val (.int (2 : Int32)), .val (.int ii), .val (.int jj), .val (.int ll), .val (.long (own_L (n + own_c2 n + own_ts n I + (own_c2 (n - (I + 1)) - own_c2 (n - J) + (E - J - 1))))), .second, .val (.long (nn.toInt64)), .second, .val (.ref b31), .val (.long (own_L (n + own_c2 n + own_c3 n))), .second, .val (.ref y38), .val (.long (((ll - ii) - (1 : Int32)).toInt64)), .second] [(.int (0 : Int32)), (.ref y38)]))
      obtain ⟨cl41, Ar41, -, S41, N41', H41⟩ := id f38_0
      have ix41 := own_ix (j := (0 : Int32)) (z := (3 : Int32)) (n := 0) rfl (by decide)
      have hin41 : ¬ ((0 : Int32) < 0 ∨ cl41.slots.size ≤ ((0 : Int32)).toNatClampNeg) := inb_of S41 ix41.1
      have hat41 : cl41.slots[((0 : Int32)).toNatClampNeg]? = some (.int ((own_up (own_up (own_up (fun _ => (0 : Int32)) (0) ii) (1) jj) (2) ll) 0)) := by rw [ix41.2.1]; exact H41 _ ix41.2.2
      refine Runs.by (fun t hr => X38.iaload hx (j := (0 : Int32)) (v := (.int ((own_up (own_up (own_up (fun _ => (0 : Int32)) (0) ii) (1) jj) (2) ll) 0))) (by exact Ar41.1) (State.isArrayOf_alike hZ.alike Ar41.2.1) Ar41.2.2 hin41 hat41 (g := (mkF m 410 #[.val (.int p0), .val (.int p1), .val (.int p2), .val (.int p3), .val (.int p4), .val (.int nn), .val (.int (2 : Int32)), .val (.int ii), .val (.int jj), .val (.int ll), .val (.long (own_L (n + own_c2 n + own_ts n I + (own_c2 (n - (I + 1)) - own_c2 (n - J) + (E - J - 1))))), .second, .val (.long (nn.toInt64)), .second, .val (.ref b31), .val (.long (own_L (n + own_c2 n + own_c3 n))), .second, .val (.ref y38), .val (.long (((ll - ii) - (1 : Int32)).toInt64)), .second] [(.int (0 : Int32)), (.ref y38)])) rfl rfl (hb hby at_410) t hr) ?_
      show Runs p e below _ (T38.setTop (mkF m 411 #[.val (.int p0), .val (.int p1), .val (.int p2), .val (.int p3), .val (.int p4), .val (.int nn), .val (.int (2 : Int32)), .val (.int ii), .val (.int jj), .val (.int ll), .val (.long (own_L (n + own_c2 n + own_ts n I + (own_c2 (n - (I + 1)) - own_c2 (n - J) + (E - J - 1))))), .second, .val (.long (nn.toInt64)), .second, .val (.ref b31), .val (.long (own_L (n + own_c2 n + own_c3 n))), .second, .val (.ref y38), .val (.long (((ll - ii) - (1 : Int32)).toInt64)), .second] [(.int ((own_up (own_up (own_up (fun _ => (0 : Int32)) (0) ii) (1) jj) (2) ll) 0))]))
      refine Runs.by (fun _ hr => XS.iload X38.here hx rfl (hb hby at_411) rfl  hr) ?_
      show Runs p e below _ (T38.setTop (mkF m 413 #[.val (.int p0), .val (.int p1), .val (.int p2), .val (.int p3), .val (.int p4), .val (.int nn), .val (.int (2 : Int32)), .val (.int ii), .val (.int jj), .val (.int ll), .val (.long (own_L (n + own_c2 n + own_ts n I + (own_c2 (n - (I + 1)) - own_c2 (n - J) + (E - J - 1))))), .second, .val (.long (nn.toInt64)), .second, .val (.ref b31), .val (.long (own_L (n + own_c2 n + own_c3 n))), .second, .val (.ref y38), .val (.long (((ll - ii) - (1 : Int32)).toInt64)), .second] [(.int ii), (.int ((own_up (own_up (own_up (fun _ => (0 : Int32)) (0) ii) (1) jj) (2) ll) 0))]))
      have hc413 : ((own_up (own_up (own_up (fun _ => (0 : Int32)) (0) ii) (1) jj) (2) ll) 0) = ii := rfl
      refine Runs.by (fun _ hr => XS.icmpNo X38.here hx rfl (hb hby at_413) rfl (teq hc413).2 hr) ?_
      show Runs p e below _ (T38.setTop (mkF m 416 #[.val (.int p0), .val (.int p1), .val (.int p2), .val (.int p3), .val (.int p4), .val (.int nn), .val (.int (2 : Int32)), .val (.int ii), .val (.int jj), .val (.int ll), .val (.long (own_L (n + own_c2 n + own_ts n I + (own_c2 (n - (I + 1)) - own_c2 (n - J) + (E - J - 1))))), .second, .val (.long (nn.toInt64)), .second, .val (.ref b31), .val (.long (own_L (n + own_c2 n + own_c3 n))), .second, .val (.ref y38), .val (.long (((ll - ii) - (1 : Int32)).toInt64)), .second] []))
      refine Runs.by (fun _ hr => XS.aload X38.here hx rfl (hb hby at_416) rfl rfl hr) ?_
      show Runs p e below _ (T38.setTop (mkF m 418 #[.val (.int p0), .val (.int p1), .val (.int p2), .val (.int p3), .val (.int p4), .val (.int nn), .val (.int (2 : Int32)), .val (.int ii), .val (.int jj), .val (.int ll), .val (.long (own_L (n + own_c2 n + own_ts n I + (own_c2 (n - (I + 1)) - own_c2 (n - J) + (E - J - 1))))), .second, .val (.long (nn.toInt64)), .second, .val (.ref b31), .val (.long (own_L (n + own_c2 n + own_c3 n))), .second, .val (.ref y38), .val (.long (((ll - ii) - (1 : Int32)).toInt64)), .second] [(.ref y38)]))
      refine Runs.by (fun _ hr => XS.iconst X38.here hx rfl (hb hby at_418) hr) ?_
      show Runs p e below _ (T38.setTop (mkF m 419 #[.val (.int p0), .val (.int p1), .val (.int p2), .val (.int p3), .val (.int p4), .val (.int nn), .val (.int (2 : Int32)), .val (.int ii), .val (.int jj), .val (.int ll), .val (.long (own_L (n + own_c2 n + own_ts n I + (own_c2 (n - (I + 1)) - own_c2 (n - J) + (E - J - 1))))), .second, .val (.long (nn.toInt64)), .second, .val (.ref b31), .val (.long (own_L (n + own_c2 n + own_c3 n))), .second, .val (.ref y38), .val (.long (((ll - ii) - (1 : Int32)).toInt64)), .second] [(.int (1 : Int32)), (.ref y38)]))
      obtain ⟨cl42, Ar42, -, S42, N42', H42⟩ := id f38_0
      have ix42 := own_ix (j := (1 : Int32)) (z := (3 : Int32)) (n := 1) rfl (by decide)
      have hin42 : ¬ ((1 : Int32) < 0 ∨ cl42.slots.size ≤ ((1 : Int32)).toNatClampNeg) := inb_of S42 ix42.1
      have hat42 : cl42.slots[((1 : Int32)).toNatClampNeg]? = some (.int ((own_up (own_up (own_up (fun _ => (0 : Int32)) (0) ii) (1) jj) (2) ll) 1)) := by rw [ix42.2.1]; exact H42 _ ix42.2.2
      refine Runs.by (fun t hr => X38.iaload hx (j := (1 : Int32)) (v := (.int ((own_up (own_up (own_up (fun _ => (0 : Int32)) (0) ii) (1) jj) (2) ll) 1))) (by exact Ar42.1) (State.isArrayOf_alike hZ.alike Ar42.2.1) Ar42.2.2 hin42 hat42 (g := (mkF m 419 #[.val (.int p0), .val (.int p1), .val (.int p2), .val (.int p3), .val (.int p4), .val (.int nn), .val (.int (2 : Int32)), .val (.int ii), .val (.int jj), .val (.int ll), .val (.long (own_L (n + own_c2 n + own_ts n I + (own_c2 (n - (I + 1)) - own_c2 (n - J) + (E - J - 1))))), .second, .val (.long (nn.toInt64)), .second, .val (.ref b31), .val (.long (own_L (n + own_c2 n + own_c3 n))), .second, .val (.ref y38), .val (.long (((ll - ii) - (1 : Int32)).toInt64)), .second] [(.int (1 : Int32)), (.ref y38)])) rfl rfl (hb hby at_419) t hr) ?_
      show Runs p e below _ (T38.setTop (mkF m 420 #[.val (.int p0), .val (.int p1), .val (.int p2), .val (.int p3), .val (.int p4), .val (.int nn), .val (.int (2 : Int32)), .val (.int ii), .val (.int jj), .val (.int ll), .val (.long (own_L (n + own_c2 n + own_ts n I + (own_c2 (n - (I + 1)) - own_c2 (n - J) + (E - J - 1))))), .second, .val (.long (nn.toInt64)), .second, .val (.ref b31), .val (.long (own_L (n + own_c2 n + own_c3 n))), .second, .val (.ref y38), .val (.long (((ll - ii) - (1 : Int32)).toInt64)), .second] [(.int ((own_up (own_up (own_up (fun _ => (0 : Int32)) (0) ii) (1) jj) (2) ll) 1))]))
      refine Runs.by (fun _ hr => XS.iload X38.here hx rfl (hb hby at_420) rfl  hr) ?_
      show Runs p e below _ (T38.setTop (mkF m 422 #[.val (.int p0), .val (.int p1), .val (.int p2), .val (.int p3), .val (.int p4), .val (.int nn), .val (.int (2 : Int32)), .val (.int ii), .val (.int jj), .val (.int ll), .val (.long (own_L (n + own_c2 n + own_ts n I + (own_c2 (n - (I + 1)) - own_c2 (n - J) + (E - J - 1))))), .second, .val (.long (nn.toInt64)), .second, .val (.ref b31), .val (.long (own_L (n + own_c2 n + own_c3 n))), .second, .val (.ref y38), .val (.long (((ll - ii) - (1 : Int32)).toInt64)), .second] [(.int jj), (.int ((own_up (own_up (own_up (fun _ => (0 : Int32)) (0) ii) (1) jj) (2) ll) 1))]))
      have hc422 : ((own_up (own_up (own_up (fun _ => (0 : Int32)) (0) ii) (1) jj) (2) ll) 1) = jj := rfl
      refine Runs.by (fun _ hr => XS.icmpNo X38.here hx rfl (hb hby at_422) rfl (teq hc422).2 hr) ?_
      show Runs p e below _ (T38.setTop (mkF m 425 #[.val (.int p0), .val (.int p1), .val (.int p2), .val (.int p3), .val (.int p4), .val (.int nn), .val (.int (2 : Int32)), .val (.int ii), .val (.int jj), .val (.int ll), .val (.long (own_L (n + own_c2 n + own_ts n I + (own_c2 (n - (I + 1)) - own_c2 (n - J) + (E - J - 1))))), .second, .val (.long (nn.toInt64)), .second, .val (.ref b31), .val (.long (own_L (n + own_c2 n + own_c3 n))), .second, .val (.ref y38), .val (.long (((ll - ii) - (1 : Int32)).toInt64)), .second] []))
      refine Runs.by (fun _ hr => XS.aload X38.here hx rfl (hb hby at_425) rfl rfl hr) ?_
      show Runs p e below _ (T38.setTop (mkF m 427 #[.val (.int p0), .val (.int p1), .val (.int p2), .val (.int p3), .val (.int p4), .val (.int nn), .val (.int (2 : Int32)), .val (.int ii), .val (.int jj), .val (.int ll), .val (.long (own_L (n + own_c2 n + own_ts n I + (own_c2 (n - (I + 1)) - own_c2 (n - J) + (E - J - 1))))), .second, .val (.long (nn.toInt64)), .second, .val (.ref b31), .val (.long (own_L (n + own_c2 n + own_c3 n))), .second, .val (.ref y38), .val (.long (((ll - ii) - (1 : Int32)).toInt64)), .second] [(.ref y38)]))
      refine Runs.by (fun _ hr => XS.iconst X38.here hx rfl (hb hby at_427) hr) ?_
      show Runs p e below _ (T38.setTop (mkF m 428 #[.val (.int p0), .val (.int p1), .val (.int p2), .val (.int p3), .val (.int p4), .val (.int nn), .val (.int (2 : Int32)), .val (.int ii), .val (.int jj), .val (.int ll), .val (.long (own_L (n + own_c2 n + own_ts n I + (own_c2 (n - (I + 1)) - own_c2 (n - J) + (E - J - 1))))), .second, .val (.long (nn.toInt64)), .second, .val (.ref b31), .val (.long (own_L (n + own_c2 n + own_c3 n))), .second, .val (.ref y38), .val (.long (((ll - ii) - (1 : Int32)).toInt64)), .second] [(.int (2 : Int32)), (.ref y38)]))
      obtain ⟨cl43, Ar43, -, S43, N43', H43⟩ := id f38_0
      have ix43 := own_ix (j := (2 : Int32)) (z := (3 : Int32)) (n := 2) rfl (by decide)
      have hin43 : ¬ ((2 : Int32) < 0 ∨ cl43.slots.size ≤ ((2 : Int32)).toNatClampNeg) := inb_of S43 ix43.1
      have hat43 : cl43.slots[((2 : Int32)).toNatClampNeg]? = some (.int ((own_up (own_up (own_up (fun _ => (0 : Int32)) (0) ii) (1) jj) (2) ll) 2)) := by rw [ix43.2.1]; exact H43 _ ix43.2.2
      refine Runs.by (fun t hr => X38.iaload hx (j := (2 : Int32)) (v := (.int ((own_up (own_up (own_up (fun _ => (0 : Int32)) (0) ii) (1) jj) (2) ll) 2))) (by exact Ar43.1) (State.isArrayOf_alike hZ.alike Ar43.2.1) Ar43.2.2 hin43 hat43 (g := (mkF m 428 #[.val (.int p0), .val (.int p1), .val (.int p2), .val (.int p3), .val (.int p4), .val (.int nn), .val (.int (2 : Int32)), .val (.int ii), .val (.int jj), .val (.int ll), .val (.long (own_L (n + own_c2 n + own_ts n I + (own_c2 (n - (I + 1)) - own_c2 (n - J) + (E - J - 1))))), .second, .val (.long (nn.toInt64)), .second, .val (.ref b31), .val (.long (own_L (n + own_c2 n + own_c3 n))), .second, .val (.ref y38), .val (.long (((ll - ii) - (1 : Int32)).toInt64)), .second] [(.int (2 : Int32)), (.ref y38)])) rfl rfl (hb hby at_428) t hr) ?_
      show Runs p e below _ (T38.setTop (mkF m 429 #[.val (.int p0), .val (.int p1), .val (.int p2), .val (.int p3), .val (.int p4), .val (.int nn), .val (.int (2 : Int32)), .val (.int ii), .val (.int jj), .val (.int ll), .val (.long (own_L (n + own_c2 n + own_ts n I + (own_c2 (n - (I + 1)) - own_c2 (n - J) + (E - J - 1))))), .second, .val (.long (nn.toInt64)), .second, .val (.ref b31), .val (.long (own_L (n + own_c2 n + own_c3 n))), .second, .val (.ref y38), .val (.long (((ll - ii) - (1 : Int32)).toInt64)), .second] [(.int ((own_up (own_up (own_up (fun _ => (0 : Int32)) (0) ii) (1) jj) (2) ll) 2))]))
      refine Runs.by (fun _ hr => XS.iload X38.here hx rfl (hb hby at_429) rfl  hr) ?_
      show Runs p e below _ (T38.setTop (mkF m 431 #[.val (.int p0), .val (.int p1), .val (.int p2), .val (.int p3), .val (.int p4), .val (.int nn), .val (.int (2 : Int32)), .val (.int ii), .val (.int jj), .val (.int ll), .val (.long (own_L (n + own_c2 n + own_ts n I + (own_c2 (n - (I + 1)) - own_c2 (n - J) + (E - J - 1))))), .second, .val (.long (nn.toInt64)), .second, .val (.ref b31), .val (.long (own_L (n + own_c2 n + own_c3 n))), .second, .val (.ref y38), .val (.long (((ll - ii) - (1 : Int32)).toInt64)), .second] [(.int ll), (.int ((own_up (own_up (own_up (fun _ => (0 : Int32)) (0) ii) (1) jj) (2) ll) 2))]))
      have hc431 : ((own_up (own_up (own_up (fun _ => (0 : Int32)) (0) ii) (1) jj) (2) ll) 2) = ll := rfl
      refine Runs.by (fun _ hr => XS.icmpNo X38.here hx rfl (hb hby at_431) rfl (teq hc431).2 hr) ?_
      show Runs p e below _ (T38.setTop (mkF m 434 #[.val (.int p0), .val (.int p1), .val (.int p2), .val (.int p3), .val (.int p4), .val (.int nn), .val (.int (2 : Int32)), .val (.int ii), .val (.int jj), .val (.int ll), .val (.long (own_L (n + own_c2 n + own_ts n I + (own_c2 (n - (I + 1)) - own_c2 (n - J) + (E - J - 1))))), .second, .val (.long (nn.toInt64)), .second, .val (.ref b31), .val (.long (own_L (n + own_c2 n + own_c3 n))), .second, .val (.ref y38), .val (.long (((ll - ii) - (1 : Int32)).toInt64)), .second] []))
      refine Runs.by (fun _ hr => XS.iconst X38.here hx rfl (hb hby at_434) hr) ?_
      show Runs p e below _ (T38.setTop (mkF m 435 #[.val (.int p0), .val (.int p1), .val (.int p2), .val (.int p3), .val (.int p4), .val (.int nn), .val (.int (2 : Int32)), .val (.int ii), .val (.int jj), .val (.int ll), .val (.long (own_L (n + own_c2 n + own_ts n I + (own_c2 (n - (I + 1)) - own_c2 (n - J) + (E - J - 1))))), .second, .val (.long (nn.toInt64)), .second, .val (.ref b31), .val (.long (own_L (n + own_c2 n + own_c3 n))), .second, .val (.ref y38), .val (.long (((ll - ii) - (1 : Int32)).toInt64)), .second] [(.int (1 : Int32))]))
      refine Runs.by (fun _ hr => XS.goto X38.here hx rfl (pc0 := 435) (pc' := 439) rfl (hb hby at_435) (by decide) (by decide) hr) ?_
      show Runs p e below _ (T38.setTop (mkF m 439 #[.val (.int p0), .val (.int p1), .val (.int p2), .val (.int p3), .val (.int p4), .val (.int nn), .val (.int (2 : Int32)), .val (.int ii), .val (.int jj), .val (.int ll), .val (.long (own_L (n + own_c2 n + own_ts n I + (own_c2 (n - (I + 1)) - own_c2 (n - J) + (E - J - 1))))), .second, .val (.long (nn.toInt64)), .second, .val (.ref b31), .val (.long (own_L (n + own_c2 n + own_c3 n))), .second, .val (.ref y38), .val (.long (((ll - ii) - (1 : Int32)).toInt64)), .second] [(.int (1 : Int32))]))
      refine Runs.ret X38 hx hrt hlk (Or.inl ⟨rfl, by simp, _, rfl⟩) (by rfl) (hb hby at_439) (by decide) (by decide) ?_
      exact ⟨rfl, N38⟩
set_option maxRecDepth 65536 in
set_option maxHeartbeats 40000000 in
theorem comes_1 {Post : Tables → Env → Array Value → State → Outcome → State → Prop} (hpost : ∀ tb e args s v u, (limb_1_1.after args s (.returned v) u = true ∧ limb_1_2.after args s (.returned v) u = true ∧ True) → FrameEnd s (.returned v) u (Jvm.fieldLocs frame_1_writes args s ++ Jvm.arrayLocs frame_1_arrays args s ++ Jvm.staticLocs frame_1_statics s) 24 9472 → Post tb e args s (.returned v) u) :
    ArmFor flags0 classFile x code maxLocals ret World_1 tables_1 room_1 Calls_1 rest_1 Pre_1 Post := by
  intro l hfl _ _ p e ha hc hk s m args below hf hA hF happ hP
  obtain ⟨hcalls, hrest, hpre⟩ := hP
  obtain ⟨-, -, -, hnamed, -, -, -, hat⟩ := (Spec.applies_iff hf).mp happ
  obtain ⟨hg, hn⟩ := and_e (Cond.before_iff.mp (show (Jvm.Cond.and given_1 narrow_1).before args s = true from hpre))
  obtain ⟨g1, g2⟩ := and_e hg
  obtain ⟨g3, g4⟩ := and_e g2
  obtain ⟨g5, g6⟩ := and_e g4
  obtain ⟨g7, g8⟩ := and_e g6
  obtain ⟨g9, g10⟩ := and_e g8
  obtain ⟨w0, w1, w2, w3, w4, rfl⟩ : ∃ w0 w1 w2 w3 w4 : Value, args = #[w0, w1, w2, w3, w4] := by
    have hs : args.size = 5 := by simpa [Cond.value, given_1] using g1
    obtain ⟨L⟩ := args
    match L, hs with
    | [w0, w1, w2, w3, w4], _ => exact ⟨w0, w1, w2, w3, w4, rfl⟩
  have hw := fun d (hd : d ∈ tables_1) => atoms_spec (ws := Jvm.Cond.code x code maxLocals ret :: tables_1) hat d (List.mem_cons_of_mem _ hd)
  have hfit : Fit s := fun {y c} hc i hi => by
    obtain ⟨ha, rfl⟩ := Array.getElem?_eq_some_iff.mp hc
    have q := List.all_eq_true.mp ((Array.all_eq_true_iff_forall_mem.mp hF) _ (Array.getElem_mem ha)) i (List.mem_range.mpr hi)
    simpa [Array.getElem?_eq_getElem hi] using q
  obtain ⟨i0, ei0⟩ := is_v g3
  obtain rfl : w0 = (.int i0) := Option.some.inj ei0
  obtain ⟨i1, ei1⟩ := is_v g5
  obtain rfl : w1 = (.int i1) := Option.some.inj ei1
  obtain ⟨i2, ei2⟩ := is_v g7
  obtain rfl : w2 = (.int i2) := Option.some.inj ei2
  obtain ⟨i3, ei3⟩ := is_v g9
  obtain rfl : w3 = (.int i3) := Option.some.inj ei3
  obtain ⟨i4, ei4⟩ := is_v g10
  obtain rfl : w4 = (.int i4) := Option.some.inj ei4
  obtain ⟨n, o, h1, h2, h3, _, L, rfl, ⟨rfl, N⟩, hq⟩ := rm0 l s _ hw tables_1 i0 i1 i2 i3 i4 s.heap s.heap.size (Nat.le_refl _)  p e ha hc hk s m _ below hf ((Spec.applies_iff_loose hf).mp happ).1 ⟨rfl, State.Warmed39.refl s, rfl⟩ trivial
  refine ⟨n, _, h1, h2, h3, hpost _ _ _ _ _ _ ⟨Cond.after_iff.mpr rfl, Cond.after_iff.mpr (eq_i res_at (Term.int_eval (1)) rfl), trivial⟩ ⟨hq.1, hq.2.1, (hq.2.2.sift fun y hy => Or.inr (N y hy)).mono (by decide) (by decide)⟩⟩
theorem main_1_1 : Claimed_1_1 := comes_1 fun _ _ _ _ _ _ h hF => ⟨h.1, hF⟩
theorem main_1_2 : Claimed_1_2 := comes_1 fun _ _ _ _ _ _ h hF => ⟨h.2.1, hF⟩
end Jvm.Pilot.@@N@@
namespace Jvm.Pilot.@@N@@
open Jvm Jvm.ClassFile Sem Op Lib Jvm.Free Jvm.Stand Jvm.Pilot.@@N@@.Jvm.D
/-! MADE BY PROGRAM (witnessworld.py) out of the Statement's table words and the real class files: 11 classes; the members and pool entries that the words name. The judged class is class 1, her method 3. -/
namespace start1
open Jvm.ClassFile
def u (s : String) : CpInfo := .utf8 (stringToUtf16 s)
/-- a pool by its gaps: so many unusable entries, then the entry; so many at the end -/
def gap : Nat → List CpInfo → List CpInfo
  | 0, r => r
  | n + 1, r => .unusable :: gap n r
def poolList (es : List (Nat × CpInfo)) (last : Nat) : List CpInfo := es.foldr (fun e r => gap e.1 (e.2 :: r)) (gap last [])
def pool (es : List (Nat × CpInfo)) (last : Nat) : Array CpInfo := ⟨poolList es last⟩
def fileOf (pool : Array CpInfo) (this : Nat) (attrs : Array Attribute := #[]) (ms : Array MethodInfo := #[]) (fl : Nat := 33) (sup : Nat := 0) (ifs : Array Nat := #[]) (fds : Array FieldInfo := #[]) : ClassFile where
  minorVersion := 0
  majorVersion := 65
  constantPool := pool
  accessFlags := fl
  thisClass := this
  superClass := sup
  interfaces := ifs
  fields := fds
  methods := ms
  attributes := attrs
def plain (name : String) (sup : Option ClassId) : Class where
  name := name
  kind := .ordinary
  loader := none
  accessFlags := 33
  super := sup
  interfaces := #[]
  cf := none
  fields := #[]
  methods := #[]
  instanceTypes := #[]
  staticTypes := #[]
  resolved := #[]
  callSites := []
  init := .initialized
  statics := none
  mirror := none

def pool0 : Array CpInfo := pool [(5, u "<init>"), (0, u "()V"), (1, .class_ 10), (1, u "java/lang/Object")] 113

def k0c0 : Code := { maxStack := 0, maxLocals := 1, code := object_method_1_code, exceptionTable := #[], attributes := #[] }
def k0m0 : Method := { name := "<init>", desc := "()V", sig := { parameters := [], returnType := none }, accessFlags := 1, code := some k0c0 }
/-- java/lang/Object -/
def k0 : Class := { plain "java/lang/Object" none with
  accessFlags := 33
  interfaces := #[]
  cf := some (fileOf pool0 8 #[] #[{ accessFlags := 1, nameIndex := 5, descriptorIndex := 6, attributes := #[] }] 33 0 #[] #[])
  fields := #[]
  methods := #[k0m0]
  instanceTypes := #[]
  staticTypes := #[]
  resolved := Array.replicate 124 none
  statics := none }

def pool1 : Array CpInfo := pool [(2, .class_ 4), (1, u "java/lang/Object"), (0, u "<init>"), (0, u "()V"), (0, .long 2), (1, .long 6), (1, .class_ 12), (0, u "com/example/fapre/fapre/KeywordSetsPlacesPinLaw"), (0, .integer 2147483647), (0, .methodref 11 15), (0, .nameAndType 16 17), (0, u "c2"), (0, u "(J)J"), (0, .methodref 11 19), (0, .nameAndType 20 17), (0, u "c3"), (0, .class_ 22), (0, u "com/example/fapre/fapre/KeywordSets"), (0, .methodref 21 24), (0, .nameAndType 5 25), (0, u "(I)V"), (0, .methodref 21 27), (0, .nameAndType 28 29), (0, u "size"), (0, u "()I"), (0, .methodref 21 31), (0, .nameAndType 32 33), (0, u "places"), (0, u "(I)[I"), (0, u "M"), (0, u "I"), (3, u "law"), (0, u "(IIIII)Z")] 5

def k1m0 : Method := { name := "<init>", desc := "()V", sig := { parameters := [], returnType := none }, accessFlags := 1, code := none }
def k1c1 : Code := { maxStack := 6, maxLocals := 2, code := method_2_code, exceptionTable := #[], attributes := #[] }
def k1m1 : Method := { name := "c2", desc := "(J)J", sig := { parameters := [.long], returnType := some .long }, accessFlags := 10, code := some k1c1 }
def k1c2 : Code := { maxStack := 6, maxLocals := 2, code := method_3_code, exceptionTable := #[], attributes := #[] }
def k1m2 : Method := { name := "c3", desc := "(J)J", sig := { parameters := [.long], returnType := some .long }, accessFlags := 10, code := some k1c2 }
def k1c3 : Code := { maxStack := 6, maxLocals := 20, code := code, exceptionTable := #[], attributes := #[] }
def k1m3 : Method := { name := "law", desc := "(IIIII)Z", sig := { parameters := [.int, .int, .int, .int, .int], returnType := some .boolean }, accessFlags := 9, code := some k1c3 }
/-- com/example/fapre/fapre/KeywordSetsPlacesPinLaw -/
def k1 : Class := { plain "com/example/fapre/fapre/KeywordSetsPlacesPinLaw" (some 0) with
  accessFlags := 49
  interfaces := #[]
  cf := some (fileOf pool1 11 #[] #[{ accessFlags := 1, nameIndex := 5, descriptorIndex := 6, attributes := #[] }, { accessFlags := 10, nameIndex := 16, descriptorIndex := 17, attributes := #[] }, { accessFlags := 10, nameIndex := 20, descriptorIndex := 17, attributes := #[] }, { accessFlags := 9, nameIndex := 39, descriptorIndex := 40, attributes := #[] }] 49 2 #[] #[{ accessFlags := 26, nameIndex := 34, descriptorIndex := 35, attributes := #[] }])
  fields := #[{ name := "M", type := .int, accessFlags := 26, slot := 0, constantValue := 0 }]
  methods := #[k1m0, k1m1, k1m2, k1m3]
  instanceTypes := #[]
  staticTypes := #[.int]
  resolved := Array.replicate 46 none
  statics := none }

def pool2 : Array CpInfo := pool [(1, .methodref 2 3), (0, .class_ 4), (0, .nameAndType 5 6), (0, u "java/lang/Object"), (0, u "<init>"), (0, u "()V"), (0, .fieldref 8 9), (0, .class_ 10), (0, .nameAndType 11 12), (0, u "com/example/fapre/fapre/KeywordSets"), (0, u "keywords"), (0, u "I"), (0, .fieldref 8 14), (0, .nameAndType 15 16), (0, u "pairStarts"), (0, u "[J"), (0, .fieldref 8 18), (0, .nameAndType 19 16), (0, u "tripleStarts"), (0, .long 2), (1, .fieldref 8 23), (0, .nameAndType 24 25), (0, u "pairs"), (0, u "J"), (2, .long 2147483647), (10, .fieldref 8 40), (0, .nameAndType 41 12), (0, u "size"), (6, .methodref 8 49), (0, .nameAndType 50 51), (0, u "pairAt"), (0, u "(J)[I"), (0, .methodref 8 53), (0, .nameAndType 54 55), (0, u "lastAtMost"), (0, u "([JJ)I"), (0, u "(I)V"), (3, u "()I"), (0, u "places"), (0, u "(I)[I")] 19

def k2c0 : Code := { maxStack := 10, maxLocals := 5, code := prog_7_method_1_code, exceptionTable := #[], attributes := #[] }
def k2m0 : Method := { name := "<init>", desc := "(I)V", sig := { parameters := [.int], returnType := none }, accessFlags := 0, code := some k2c0 }
def k2c1 : Code := { maxStack := 1, maxLocals := 1, code := prog_7_method_2_code, exceptionTable := #[], attributes := #[] }
def k2m1 : Method := { name := "size", desc := "()I", sig := { parameters := [], returnType := some .int }, accessFlags := 0, code := some k2c1 }
def k2c2 : Code := { maxStack := 5, maxLocals := 8, code := prog_7_method_3_code, exceptionTable := #[], attributes := #[] }
def k2m2 : Method := { name := "places", desc := "(I)[I", sig := { parameters := [.int], returnType := some (.array .int) }, accessFlags := 0, code := some k2c2 }
def k2c3 : Code := { maxStack := 7, maxLocals := 4, code := prog_7_method_4_code, exceptionTable := #[], attributes := #[] }
def k2m3 : Method := { name := "pairAt", desc := "(J)[I", sig := { parameters := [.long], returnType := some (.array .int) }, accessFlags := 2, code := some k2c3 }
def k2c4 : Code := { maxStack := 4, maxLocals := 7, code := prog_7_method_5_code, exceptionTable := #[], attributes := #[] }
def k2m4 : Method := { name := "lastAtMost", desc := "([JJ)I", sig := { parameters := [(.array .long), .long], returnType := some .int }, accessFlags := 2, code := some k2c4 }
/-- com/example/fapre/fapre/KeywordSets -/
def k2 : Class := { plain "com/example/fapre/fapre/KeywordSets" (some 0) with
  accessFlags := 32
  interfaces := #[]
  cf := some (fileOf pool2 8 #[] #[{ accessFlags := 0, nameIndex := 5, descriptorIndex := 56, attributes := #[] }, { accessFlags := 0, nameIndex := 41, descriptorIndex := 60, attributes := #[] }, { accessFlags := 0, nameIndex := 61, descriptorIndex := 62, attributes := #[] }, { accessFlags := 2, nameIndex := 50, descriptorIndex := 51, attributes := #[] }, { accessFlags := 2, nameIndex := 54, descriptorIndex := 55, attributes := #[] }] 32 2 #[] #[{ accessFlags := 18, nameIndex := 11, descriptorIndex := 12, attributes := #[] }, { accessFlags := 18, nameIndex := 24, descriptorIndex := 25, attributes := #[] }, { accessFlags := 18, nameIndex := 41, descriptorIndex := 12, attributes := #[] }, { accessFlags := 18, nameIndex := 15, descriptorIndex := 16, attributes := #[] }, { accessFlags := 18, nameIndex := 19, descriptorIndex := 16, attributes := #[] }])
  fields := #[{ name := "keywords", type := .int, accessFlags := 18, slot := 0, constantValue := 0 }, { name := "pairs", type := .long, accessFlags := 18, slot := 1, constantValue := 0 }, { name := "size", type := .int, accessFlags := 18, slot := 2, constantValue := 0 }, { name := "pairStarts", type := (.array .long), accessFlags := 18, slot := 3, constantValue := 0 }, { name := "tripleStarts", type := (.array .long), accessFlags := 18, slot := 4, constantValue := 0 }]
  methods := #[k2m0, k2m1, k2m2, k2m3, k2m4]
  instanceTypes := #[.int, .long, .int, (.array .long), (.array .long)]
  staticTypes := #[]
  resolved := Array.replicate 82 none
  statics := none }

def pool3 : Array CpInfo := pool [(1, u "java/lang/Cloneable"), (0, .class_ 1), (0, u "java/lang/Object"), (0, .class_ 3)] 3

/-- java/lang/Cloneable -/
def k3 : Class := { plain "java/lang/Cloneable" (some 0) with
  accessFlags := 1537
  interfaces := #[]
  cf := some (fileOf pool3 2 #[] #[] 1537 4 #[] #[])
  fields := #[]
  methods := #[]
  instanceTypes := #[]
  staticTypes := #[]
  resolved := Array.replicate 8 none
  statics := none }

def pool4 : Array CpInfo := pool [(1, u "java/io/Serializable"), (0, .class_ 1), (0, u "java/lang/Object"), (0, .class_ 3)] 3

/-- java/io/Serializable -/
def k4 : Class := { plain "java/io/Serializable" (some 0) with
  accessFlags := 1537
  interfaces := #[]
  cf := some (fileOf pool4 2 #[] #[] 1537 4 #[] #[])
  fields := #[]
  methods := #[]
  instanceTypes := #[]
  staticTypes := #[]
  resolved := Array.replicate 8 none
  statics := none }

/-- the primitive byte -/
def k5 : Class := { plain "byte" none with kind := .primitive 'B', accessFlags := 0x411 }
/-- [B -/
def k6 : Class := { plain "[B" (some 0) with kind := .array 5 .byte, interfaces := #[3, 4], accessFlags := 1041 }

/-- the primitive int -/
def k7 : Class := { plain "int" none with kind := .primitive 'I', accessFlags := 0x411 }
/-- [I -/
def k8 : Class := { plain "[I" (some 0) with kind := .array 7 .int, interfaces := #[3, 4], accessFlags := 1041 }

/-- the primitive long -/
def k9 : Class := { plain "long" none with kind := .primitive 'J', accessFlags := 0x411 }
/-- [J -/
def k10 : Class := { plain "[J" (some 0) with kind := .array 9 .long, interfaces := #[3, 4], accessFlags := 1041 }

def heap : Heap := #[]
def classes : Array Class := #[k0, k1, k2, k3, k4, k5, k6, k7, k8, k9, k10]
def interned : List (Array UInt16 × Addr) := []
def slotsUsed : Nat := 0
def theMethod : MethodId := ⟨1, 3⟩
def args0 : Array Value := #[.int 3, .int 5, .int 7, .int 2, .int 3]
def aboutOver (below : List Frame) : State where
  vm := { classes := classes, interned := interned.toArray }
  heap := heap
  slotsUsed := slotsUsed
  threads := #[{ frames := .invoking theMethod args0 :: below }]
def below0 : List Frame := [.native { method := ⟨0, 0⟩, args := #[] }]
def about1 : State := aboutOver below0
def p0 : Program := .bare "" "" ""
def e0 : Env := launch0.env 0 0 0
theorem w_frames : about1.frames = Frame.invoking theMethod args0 :: below0 := rfl
set_option maxRecDepth 65536 in
theorem w_args : argsFit about1.vm theMethod args0 = true := by decide +kernel
set_option maxRecDepth 65536 in
theorem w_heap : heapFits about1 = true := by decide +kernel
set_option maxRecDepth 65536 in
theorem w_runnable : about1.curStatus? = some .runnable := by decide +kernel
set_option maxRecDepth 65536 in
theorem w_alone : about1.alone = true := by decide +kernel
set_option maxRecDepth 65536 in
theorem w_named : about1.methodNamed? x = some theMethod := by decide +kernel
set_option maxRecDepth 65536 in
theorem w_hears : about1.hears theMethod below0 = true := by decide +kernel
set_option maxRecDepth 65536 in
theorem w_ripe : about1.ripe theMethod args0 below0 = true := by decide +kernel
theorem w_running : about1.status = .running := rfl
set_option maxRecDepth 65536 in
theorem w_room : about1.hasRoom e0.platform room_1 = true :=
  launch0.hasRoom_least _ room_1 (by decide +kernel) (by decide +kernel) (by decide +kernel) (by decide +kernel) (by decide +kernel) (by decide +kernel)
theorem allAtoms_all (ts : List Jvm.Cond) (a : Array Jvm.Value) (st : Jvm.State) : (allAtoms ts).before a st = ts.all (fun c => c.before a st) := by
  induction ts with
  | nil => rfl
  | cons c t ih =>
    show (Jvm.Cond.and c (allAtoms t)).before a st = _
    rw [Jvm.Cond.before_and, ih, List.all_cons]
def words1 : List Jvm.Cond := Jvm.Cond.code x code maxLocals ret :: tables_1
/-- a 'code' word, met by the world's own term for the bytes: nothing is compared byte by byte -/
theorem code_word {y : MethodName} {bytes : ByteArray} {mx : Nat} {rt : Option FieldType} {a : Array Value} {s : State} {m : MethodId} {meth : Method} {c : Code} (h1 : s.methodNamed? y = some m) (h2 : s.vm.method? m = some meth) (h3 : meth.code = some c) (h4 : c.code = bytes)
    (h5 : (c.maxLocals == mx && c.exceptionTable.isEmpty && decide (c.maxStack ≤ mostOperands) && decide (meth.sig.returnType = rt) && !meth.locks && decide (parseMethodDescriptor y.desc = some meth.sig)) = true) : (Jvm.Cond.code y bytes mx rt).before a s = true := by
  simp only [Bool.and_eq_true, beq_iff_eq, Bool.not_eq_true', decide_eq_true_eq] at h5
  obtain ⟨⟨⟨⟨⟨g1, g2⟩, g3⟩, g4⟩, g5⟩, g6⟩ := h5
  simp [Cond.before, Cond.holds, Cond.value, h1, h2, h3, h4, g1, g2, g3, g4, g5, g6]
def isCode : Jvm.Cond → Bool
  | .code _ _ _ _ => true
  | _ => false
theorem all_split {L : List Jvm.Cond} {P : Jvm.Cond → Bool} (h1 : L.all (fun c => isCode c || P c) = true) (h2 : ∀ c ∈ L.filter isCode, P c = true) : L.all P = true := by
  refine List.all_eq_true.mpr fun c hc => ?_
  have h := List.all_eq_true.mp h1 c hc
  rcases Bool.eq_false_or_eq_true (isCode c) with hi | hi
  · exact h2 c (List.mem_filter.mpr ⟨hc, hi⟩)
  · simpa [hi] using h
set_option maxRecDepth 65536 in
theorem w_c0 : (Jvm.Cond.code x code maxLocals ret).before args0 about1 = true := code_word (m := ⟨1, 3⟩) (meth := k1m3) (c := k1c3) (by decide +kernel) rfl rfl rfl (by decide +kernel)
set_option maxRecDepth 65536 in
theorem w_c1 : (Jvm.Cond.code ({ cls := "com/example/fapre/fapre/KeywordSets", name := "<init>", desc := "(I)V" } : Jvm.MethodName) prog_7_method_1_code (5 : Nat) (Option.none : Option Jvm.ClassFile.FieldType)).before args0 about1 = true := code_word (m := ⟨2, 0⟩) (meth := k2m0) (c := k2c0) (by decide +kernel) rfl rfl rfl (by decide +kernel)
set_option maxRecDepth 65536 in
theorem w_c2 : (Jvm.Cond.code ({ cls := "java/lang/Object", name := "<init>", desc := "()V" } : Jvm.MethodName) object_method_1_code (1 : Nat) (Option.none : Option Jvm.ClassFile.FieldType)).before args0 about1 = true := code_word (m := ⟨0, 0⟩) (meth := k0m0) (c := k0c0) (by decide +kernel) rfl rfl rfl (by decide +kernel)
set_option maxRecDepth 65536 in
theorem w_c3 : (Jvm.Cond.code ({ cls := "com/example/fapre/fapre/KeywordSetsPlacesPinLaw", name := "c2", desc := "(J)J" } : Jvm.MethodName) method_2_code (2 : Nat) (Option.some Jvm.ClassFile.FieldType.long)).before args0 about1 = true := code_word (m := ⟨1, 1⟩) (meth := k1m1) (c := k1c1) (by decide +kernel) rfl rfl rfl (by decide +kernel)
set_option maxRecDepth 65536 in
theorem w_c4 : (Jvm.Cond.code ({ cls := "com/example/fapre/fapre/KeywordSetsPlacesPinLaw", name := "c3", desc := "(J)J" } : Jvm.MethodName) method_3_code (2 : Nat) (Option.some Jvm.ClassFile.FieldType.long)).before args0 about1 = true := code_word (m := ⟨1, 2⟩) (meth := k1m2) (c := k1c2) (by decide +kernel) rfl rfl rfl (by decide +kernel)
set_option maxRecDepth 65536 in
theorem w_c5 : (Jvm.Cond.code ({ cls := "com/example/fapre/fapre/KeywordSets", name := "size", desc := "()I" } : Jvm.MethodName) prog_7_method_2_code (1 : Nat) (Option.some Jvm.ClassFile.FieldType.int)).before args0 about1 = true := code_word (m := ⟨2, 1⟩) (meth := k2m1) (c := k2c1) (by decide +kernel) rfl rfl rfl (by decide +kernel)
set_option maxRecDepth 65536 in
theorem w_c6 : (Jvm.Cond.code ({ cls := "com/example/fapre/fapre/KeywordSets", name := "places", desc := "(I)[I" } : Jvm.MethodName) prog_7_method_3_code (8 : Nat) (Option.some (Jvm.ClassFile.FieldType.array Jvm.ClassFile.FieldType.int))).before args0 about1 = true := code_word (m := ⟨2, 2⟩) (meth := k2m2) (c := k2c2) (by decide +kernel) rfl rfl rfl (by decide +kernel)
set_option maxRecDepth 65536 in
theorem w_c7 : (Jvm.Cond.code ({ cls := "com/example/fapre/fapre/KeywordSets", name := "pairAt", desc := "(J)[I" } : Jvm.MethodName) prog_7_method_4_code (4 : Nat) (Option.some (Jvm.ClassFile.FieldType.array Jvm.ClassFile.FieldType.int))).before args0 about1 = true := code_word (m := ⟨2, 3⟩) (meth := k2m3) (c := k2c3) (by decide +kernel) rfl rfl rfl (by decide +kernel)
set_option maxRecDepth 65536 in
theorem w_c8 : (Jvm.Cond.code ({ cls := "com/example/fapre/fapre/KeywordSets", name := "lastAtMost", desc := "([JJ)I" } : Jvm.MethodName) prog_7_method_5_code (7 : Nat) (Option.some Jvm.ClassFile.FieldType.int)).before args0 about1 = true := code_word (m := ⟨2, 4⟩) (meth := k2m4) (c := k2c4) (by decide +kernel) rfl rfl rfl (by decide +kernel)
def codes1 : List Jvm.Cond := [Jvm.Cond.code x code maxLocals ret, Jvm.Cond.code ({ cls := "com/example/fapre/fapre/KeywordSets", name := "<init>", desc := "(I)V" } : Jvm.MethodName) prog_7_method_1_code (5 : Nat) (Option.none : Option Jvm.ClassFile.FieldType), Jvm.Cond.code ({ cls := "java/lang/Object", name := "<init>", desc := "()V" } : Jvm.MethodName) object_method_1_code (1 : Nat) (Option.none : Option Jvm.ClassFile.FieldType), Jvm.Cond.code ({ cls := "com/example/fapre/fapre/KeywordSetsPlacesPinLaw", name := "c2", desc := "(J)J" } : Jvm.MethodName) method_2_code (2 : Nat) (Option.some Jvm.ClassFile.FieldType.long), Jvm.Cond.code ({ cls := "com/example/fapre/fapre/KeywordSetsPlacesPinLaw", name := "c3", desc := "(J)J" } : Jvm.MethodName) method_3_code (2 : Nat) (Option.some Jvm.ClassFile.FieldType.long), Jvm.Cond.code ({ cls := "com/example/fapre/fapre/KeywordSets", name := "size", desc := "()I" } : Jvm.MethodName) prog_7_method_2_code (1 : Nat) (Option.some Jvm.ClassFile.FieldType.int), Jvm.Cond.code ({ cls := "com/example/fapre/fapre/KeywordSets", name := "places", desc := "(I)[I" } : Jvm.MethodName) prog_7_method_3_code (8 : Nat) (Option.some (Jvm.ClassFile.FieldType.array Jvm.ClassFile.FieldType.int)), Jvm.Cond.code ({ cls := "com/example/fapre/fapre/KeywordSets", name := "pairAt", desc := "(J)[I" } : Jvm.MethodName) prog_7_method_4_code (4 : Nat) (Option.some (Jvm.ClassFile.FieldType.array Jvm.ClassFile.FieldType.int)), Jvm.Cond.code ({ cls := "com/example/fapre/fapre/KeywordSets", name := "lastAtMost", desc := "([JJ)I" } : Jvm.MethodName) prog_7_method_5_code (7 : Nat) (Option.some Jvm.ClassFile.FieldType.int)]
set_option maxRecDepth 65536 in
theorem codes_eq : words1.filter isCode = codes1 := rfl
theorem w_codes : ∀ c ∈ words1.filter isCode, c.before args0 about1 = true := by
  rw [codes_eq]
  intro c hc
  simp only [codes1, List.mem_cons, List.not_mem_nil, or_false] at hc
  rcases hc with rfl | rfl | rfl | rfl | rfl | rfl | rfl | rfl | rfl
  · exact w_c0
  · exact w_c1
  · exact w_c2
  · exact w_c3
  · exact w_c4
  · exact w_c5
  · exact w_c6
  · exact w_c7
  · exact w_c8
set_option maxRecDepth 65536 in
theorem w_t1 : (words1.take 24).all (fun c => isCode c || c.before args0 about1) = true := by decide +kernel
set_option maxRecDepth 65536 in
theorem w_t2 : ((words1.drop 24).take 24).all (fun c => isCode c || c.before args0 about1) = true := by decide +kernel
set_option maxRecDepth 65536 in
theorem w_t3 : ((words1.drop 24).drop 24).all (fun c => isCode c || c.before args0 about1) = true := by decide +kernel
theorem w_tables : (allAtoms (Jvm.Cond.code x code maxLocals ret :: tables_1)).before args0 about1 = true := by
  rw [allAtoms_all]
  show words1.all (fun c => c.before args0 about1) = true
  refine all_split ?_ w_codes
  rw [← List.take_append_drop 24 words1, List.all_append, w_t1, ← List.take_append_drop 24 (words1.drop 24), List.all_append, w_t2, w_t3]
  rfl
set_option maxRecDepth 65536 in
theorem w_case : (Jvm.Cond.and given_1 narrow_1).before args0 about1 = true := by decide +kernel
theorem w_applies : (headSpec (Jvm.Cond.code x code maxLocals ret :: tables_1) room_1).applies x e0.platform about1 = true :=
  (Spec.applies_iff w_frames).mpr ⟨w_running, w_runnable, w_alone, w_named, w_hears, w_ripe, w_room, w_tables⟩
theorem atStart : AtStart classFile x code maxLocals ret World_1 tables_1 room_1 Calls_1 rest_1 Pre_1 launch0 p0 e0 about1 theMethod args0 below0 :=
  ⟨lists_1, trivial, launch0.admits_env _ _ _, launch0.least_env, fairChoices_fair.cas, fairChoices_fair.clock, w_frames, w_args, w_heap, w_applies, trivial, trivial, w_case⟩
end start1
theorem witness_1 : WitnessClaimed_1 := ⟨start1.p0, start1.e0, start1.about1, start1.theMethod, start1.args0, start1.below0, start1.atStart⟩
end Jvm.Pilot.@@N@@
