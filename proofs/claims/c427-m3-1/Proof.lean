import JvmDerived
import JvmDerived.Pilot.@@N@@Statement
import JvmDerived.Pilot.@@N@@Code
set_option linter.unusedVariables false
set_option linter.unusedSimpArgs false
@@BLOCK:NumsL.lean.txt@@
namespace Jvm.RoadKit
open Sem ClassFile Op Lib Jvm.Stand Jvm.Free Jvm.LawKit
section OwnRuns
variable {p : Program} {l : Launch} {e : Env} {R : Room} {s : State} {m : MethodId} {args : Array Value} {below : List Frame} {meth : Method} {c : Code} {T : State} {locs : List Loc} {cells slots : Nat}
/-- from U the invocation comes to its end, and there Q holds -/
def Runs (p : Program) (e : Env) (below : List Frame) (Q : Outcome → State → Prop) (U : State) : Prop :=
  ∃ s₂ o, Steps p.tables e below U s₂ ∧ s₂.status = .running ∧ Ended s₂ below o ∧ Q o s₂
def QE (s : State) (Q : Option Value → Heap → List Loc → Prop) (C S : Nat) : Outcome → State → Prop :=
  fun o U' => ∃ v L, o = .returned v ∧ Q v U'.heap L ∧ FrameEnd s o U' L C S
theorem Runs.by {Q : Outcome → State → Prop} {U U' : State} (h : ∀ t, Steps p.tables e below U' t → Steps p.tables e below U t) (k : Runs p e below Q U') : Runs p e below Q U := by
  obtain ⟨s2, o, h1, h2⟩ := k
  exact ⟨s2, o, h _ h1, h2⟩
theorem Runs.ret {Q : Option Value → Heap → List Loc → Prop} {C S : Nat} {t : FieldType} {w : Value} {i : Instr} {pc : Nat} {Ls : Array Slot} {rest : List Value}
    (X : Stand p l e R s m args below meth c T locs cells slots) (hx : p.tables.exec = Jvm.exec) (hret : meth.sig.returnType = some t) (hlk : meth.locks = false)
    (hi : (i = .ireturn ∧ (t = .int ∨ t = .boolean ∨ t = .byte ∨ t = .char ∨ t = .short) ∧ ∃ z, w = .int z) ∨ (i = .lreturn ∧ t = .long ∧ ∃ z, w = .long z) ∨ (i = .dreturn ∧ t = .double ∧ ∃ z, w = .double z) ∨ (i = .freturn ∧ t = .float ∧ ∃ z, w = .float z) ∨ (i = .areturn ∧ t.isReference = true ∧ w.isRef = true))
    (hn : narrow t w = w) (hd : decode c.code pc = .ok (i, 1)) (hC : cells ≤ C) (hS : slots ≤ S) (hQ : Q (some w) T.heap locs) : Runs p e below (QE s Q C S) (T.setTop (mkF m pc Ls (w :: rest))) := by
  obtain ⟨fs, hr, hrun, hended, hW, hsame⟩ := X.leave (v := some w) (fun h => by rw [hret] at h; cases h) hlk
  exact ⟨_, _, retOut X hx hret hn hi hd hr, hrun, hended, _, _, rfl, hQ, ⟨_, rfl⟩, hW, hsame.mono hC hS⟩
theorem Runs.retV {Q : Option Value → Heap → List Loc → Prop} {C S : Nat} {pc : Nat} {Ls : Array Slot}
    (X : Stand p l e R s m args below meth c T locs cells slots) (hx : p.tables.exec = Jvm.exec) (hret : meth.sig.returnType = none) (hlk : meth.locks = false)
    (hd : decode c.code pc = .ok (.return_, 1)) (hC : cells ≤ C) (hS : slots ≤ S) (hQ : Q none T.heap locs) : Runs p e below (QE s Q C S) (T.setTop (mkF m pc Ls [])) := by
  obtain ⟨fs, hr, hrun, hended, hW, hsame⟩ := X.leave (v := none) (fun _ => rfl) hlk
  exact ⟨_, _, X.returnOut hx hret hd hr, hrun, hended, _, _, rfl, hQ, ⟨_, rfl⟩, hW, hsame.mono hC hS⟩
theorem own_narrow_b (x : Int32) (h : x = 0 ∨ x = 1) : narrow .boolean (.int x) = .int x := by rcases h with rfl | rfl <;> rfl
end OwnRuns
section OwnArf
variable {Z : State} {h h' : Heap} {a b : Addr} {k : ClassId} {ty : FieldType} {z j : Int32} {f g : Nat → Value} {v w : Value} {sl : Nat} {ws : List Addr} {c : Cell}
def own_up {α : Type} (f : Nat → α) (n : Nat) (x : α) : Nat → α := fun i => if i = n then x else f i
theorem own_up_same {α : Type} (f : Nat → α) (n : Nat) (x : α) : own_up f n x n = x := by simp [own_up]
theorem own_up_ne {α : Type} (f : Nat → α) {n i : Nat} (x : α) (q : i ≠ n) : own_up f n x i = f i := by simp [own_up, q]
/-- an array: its class, its length, what stands at each place -/
def Arf (Z : State) (h : Heap) (a : Addr) (k : ClassId) (ty : FieldType) (z : Int32) (f : Nat → Value) : Prop :=
  ∃ c : Cell, Arr Z h a c ty ∧ c.cls = k ∧ c.slots.size = z.toNatClampNeg ∧ ¬ z < 0 ∧ ∀ i, i < z.toNatClampNeg → c.slots[i]? = some (f i)
theorem Arf.lt (F : Arf Z h a k ty z f) : a < h.size := by obtain ⟨c, A, -⟩ := F; exact A.lt
theorem Arf.ext (F : Arf Z h a k ty z f) (E : Ext h h') : Arf Z h' a k ty z f := by obtain ⟨c, A, r⟩ := F; exact ⟨c, A.ext E, r⟩
theorem Arf.other (F : Arf Z h b k ty z f) (W : Wr h h' a sl v) (q : b ≠ a) : Arf Z h' b k ty z f := by obtain ⟨c, A, r⟩ := F; exact ⟨c, A.other W q, r⟩
theorem Arf.keep (F : Arf Z h a k ty z f) (K : Keep h h' ws) (q : a ∉ ws) : Arf Z h' a k ty z f := by obtain ⟨c, A, r⟩ := F; exact ⟨c, ⟨K.2.1 a c A.1 q, A.2⟩, r⟩
theorem Arf.cast (F : Arf Z h a k ty z f) (e : ∀ i, i < z.toNatClampNeg → f i = g i) : Arf Z h a k ty z g := by obtain ⟨c, A, r1, r2, r3, H⟩ := F; exact ⟨c, A, r1, r2, r3, fun i hi => by rw [H i hi, e i hi]⟩
theorem Arf.new (A : Arr Z h a (newA k ty z) ty) (q : ¬ z < 0) : Arf Z h a k ty z (fun _ => defaultValue ty) := ⟨_, A, rfl, sz_new _ _ _, q, fun i hi => by simp [newA, hi]⟩
theorem Arf.set {n : Nat} (A : Arr Z h a c ty) (q1 : c.cls = k) (S : c.slots.size = z.toNatClampNeg) (q3 : ¬ z < 0) (H : ∀ i, i < z.toNatClampNeg → c.slots[i]? = some (f i)) (W : Wr h h' a j.toNatClampNeg v) (hj : j.toNatClampNeg = n) : Arf Z h' a k ty z (own_up f n v) := by
  refine ⟨_, A.same W, q1, by rw [sz_set]; exact S, q3, fun i hi => ?_⟩
  rw [hj]
  by_cases u : i = n
  · subst u; simp [Cell.setSlot, own_up, S, hi]
  · have := H i hi; simp only [Cell.setSlot, own_up, u, if_false] at this ⊢
    rw [Array.getElem?_setIfInBounds_ne (Ne.symm u)]; exact this
theorem own_ix {j z : Int32} {n : Nat} (hj : j.toInt = n) (hz : j.toInt < z.toInt) : (¬ j < 0 ∧ j < z) ∧ j.toNatClampNeg = n ∧ n < z.toNatClampNeg := by
  have e0 : (0 : Int32).toInt = 0 := by decide
  refine ⟨⟨by rw [Int32.lt_iff_toInt_lt]; omega, by rw [Int32.lt_iff_toInt_lt]; exact hz⟩, ?_, ?_⟩
  · show Int.toNat _ = _; omega
  · show _ < Int.toNat _; omega
theorem own_cl {z : Int32} {j : Nat} (h : j < z.toNatClampNeg) : (j : Int) < z.toInt := by
  have e : z.toNatClampNeg = z.toInt.toNat := rfl
  omega
end OwnArf
end Jvm.RoadKit
namespace Jvm.Pilot.@@N@@
open Jvm Jvm.ClassFile Sem Op Lib Jvm.Free Jvm.Stand Jvm.LawKit Jvm.RoadKit Bundle Jvm.Pilot.@@N@@.Jvm.D
def own_bit (u : Int32) : Int64 := (1 : Int64) <<< (u &&& 0x3f).toInt64
def own_bn (k : Nat) : Int64 := own_bit (Int32.ofNat k)
def own_nw (u : Int32) : Int32 := ((u + (64 : Int32)) - (1 : Int32)) / (64 : Int32)
def own_b1 (x : Int64) : Int64 := x - (((x.toUInt64 >>> ((1 : Int32) &&& 0x3f).toInt64.toUInt64).toInt64) &&& (6148914691236517205 : Int64))
def own_b2 (x : Int64) : Int64 := (x &&& (3689348814741910323 : Int64)) + (((x.toUInt64 >>> ((2 : Int32) &&& 0x3f).toInt64.toUInt64).toInt64) &&& (3689348814741910323 : Int64))
def own_b3 (x : Int64) : Int64 := (x + ((x.toUInt64 >>> ((4 : Int32) &&& 0x3f).toInt64.toUInt64).toInt64)) &&& (1085102592571150095 : Int64)
def own_b4 (x : Int64) : Int64 := x + ((x.toUInt64 >>> ((8 : Int32) &&& 0x3f).toInt64.toUInt64).toInt64)
def own_b5 (x : Int64) : Int64 := x + ((x.toUInt64 >>> ((16 : Int32) &&& 0x3f).toInt64.toUInt64).toInt64)
def own_b6 (x : Int64) : Int64 := x + ((x.toUInt64 >>> ((32 : Int32) &&& 0x3f).toInt64.toUInt64).toInt64)
def own_bc (x : Int64) : Int32 := (own_b6 (own_b5 (own_b4 (own_b3 (own_b2 (own_b1 x)))))).toInt32 &&& (127 : Int32)
def own_us (x : Int32) (k : Int32) : Int32 := (x.toUInt32 >>> (k &&& 31).toUInt32).toInt32
def own_z5 (n i : Int32) : Int32 := n + own_us i 1
def own_z4 (n i : Int32) : Int32 := if (4 : Int32) < i then own_z5 (n + 2) (own_us i 2) else own_z5 n i
def own_z3 (n i : Int32) : Int32 := if (16 : Int32) < i then own_z4 (n + 4) (own_us i 4) else own_z4 n i
def own_z2 (n i : Int32) : Int32 := if (256 : Int32) < i then own_z3 (n + 8) (own_us i 8) else own_z3 n i
def own_z1 (n i : Int32) : Int32 := if (65536 : Int32) < i then own_z2 (n + 16) (own_us i 16) else own_z2 n i
def own_zb (x : Int32) : Int32 := (x ^^^ (-1 : Int32)) &&& (x - (1 : Int32))
def own_ntzI (x : Int32) : Int32 := if (0 : Int32) < own_zb x then own_z1 1 (own_zb x) else own_zb x &&& 32
def own_ntz (x : Int64) : Int32 := if x.toInt32 = 0 then (32 : Int32) + own_ntzI ((x.toUInt64 >>> ((32 : Int32) &&& 0x3f).toInt64.toUInt64).toInt64).toInt32 else own_ntzI x.toInt32
def own_mk (w : Nat → Int64) (u : Int32) : Nat → Int64 := own_up w (u.toInt.toNat / 64) (w (u.toInt.toNat / 64) ||| own_bit u)
def own_pre (w : Nat → Int64) : Nat → Int32
  | 0 => 0
  | i + 1 => own_pre w i + own_bc (w i)
/-! finite facts -/
theorem own_f1 : ∀ j k : Fin 64, (own_bn j.val &&& own_bn k.val = 0) ↔ j ≠ k := by decide +kernel
theorem own_f2 : ∀ j k : Fin 64, own_bn j.val &&& (own_bn k.val - 1) = if j.val < k.val then own_bn j.val else 0 := by decide +kernel
theorem own_f3 : ∀ j : Fin 64, own_bc (own_bn j.val) = 1 := by decide +kernel
theorem own_f3z : own_bc 0 = 0 := by decide +kernel
theorem own_f4 : ∀ j k : Fin 64, j ≠ k → own_bc (own_bn j.val ||| own_bn k.val) = 2 := by decide +kernel
theorem own_f5 : ∀ j : Fin 64, own_bn j.val ≠ 0 ∧ own_bn j.val &&& (own_bn j.val - 1) = 0 ∧ own_ntz (own_bn j.val) = Int32.ofNat j.val := by decide +kernel
theorem own_f6 : ∀ j k : Fin 64, j.val < k.val → (own_bn j.val ||| own_bn k.val) ≠ 0 ∧ (own_bn j.val ||| own_bn k.val) &&& ((own_bn j.val ||| own_bn k.val) - 1) = own_bn k.val ∧ own_ntz (own_bn j.val ||| own_bn k.val) = Int32.ofNat j.val := by decide +kernel
theorem own_or0 (x : Int64) : x ||| 0 = x := by apply Int64.toBitVec_inj.mp; show x.toBitVec ||| 0#64 = _; exact BitVec.or_zero
theorem own_0or (x : Int64) : 0 ||| x = x := by apply Int64.toBitVec_inj.mp; show 0#64 ||| x.toBitVec = _; exact BitVec.zero_or
theorem own_0and (x : Int64) : 0 &&& x = 0 := by apply Int64.toBitVec_inj.mp; show 0#64 &&& x.toBitVec = _; exact BitVec.zero_and
theorem own_orc (x y : Int64) : x ||| y = y ||| x := by apply Int64.toBitVec_inj.mp; exact BitVec.or_comm _ _
theorem own_dist (x y z : Int64) : (x ||| y) &&& z = (x &&& z) ||| (y &&& z) := by apply Int64.toBitVec_inj.mp; exact BitVec.and_or_distrib_right
theorem own_or_eq0 (x y : Int64) : (x ||| y = 0) ↔ (x = 0 ∧ y = 0) := by
  constructor
  · intro h
    have hb : x.toBitVec ||| y.toBitVec = 0#64 := congrArg Int64.toBitVec h
    have := BitVec.or_eq_zero_iff.mp hb
    exact ⟨Int64.toBitVec_inj.mp this.1, Int64.toBitVec_inj.mp this.2⟩
  · rintro ⟨rfl, rfl⟩; rfl
theorem own_bit_eq {u : Int32} {A : Nat} (h : u.toInt = A) : own_bit u = own_bn (A % 64) := by
  have e1 : (u &&& 63).toInt = u.toInt % 2 ^ 6 := Jvm.Kit.i32_mask u 63 (k := 6) (by decide) (by decide)
  have hs : (Int32.ofNat (A % 64)).toInt = ((A % 64 : Nat) : Int) := Int32.toInt_ofNat_small (by omega)
  have e2 : ((Int32.ofNat (A % 64)) &&& 63).toInt = (Int32.ofNat (A % 64)).toInt % 2 ^ 6 := Jvm.Kit.i32_mask _ 63 (k := 6) (by decide) (by decide)
  have e : (u &&& 63) = ((Int32.ofNat (A % 64)) &&& 63) := Int32.toInt_inj.mp (by rw [e1, e2, hs, h]; omega)
  show (1 : Int64) <<< (u &&& 63).toInt64 = (1 : Int64) <<< ((Int32.ofNat (A % 64)) &&& 63).toInt64
  rw [e]
def own_w1 (A : Nat) : Nat → Int64 := fun i => if i = A / 64 then own_bn (A % 64) else 0
def own_w2 (A B : Nat) : Nat → Int64 := fun i => own_w1 A i ||| own_w1 B i
theorem own_w2c (A B : Nat) : own_w2 A B = own_w2 B A := funext fun i => own_orc _ _
theorem own_mk1 {a : Int32} {A : Nat} (h : a.toInt = A) : own_mk (fun _ => 0) a = own_w1 A := by
  funext i
  have e : a.toInt.toNat = A := by omega
  simp only [own_mk, own_up, own_w1, e, own_bit_eq h, own_0or]
theorem own_mk2 {a b : Int32} {A B : Nat} (h : a.toInt = A) (hb : b.toInt = B) : own_mk (own_mk (fun _ => 0) a) b = own_w2 A B := by
  rw [own_mk1 h]
  funext i
  have e : b.toInt.toNat = B := by omega
  simp only [own_mk, own_up, own_w2, own_w1, e, own_bit_eq hb]
  by_cases q : i = B / 64
  · subst q; simp
  · simp [q, own_or0]
/-- is it marked -/
theorem own_im1 (A P : Nat) : (own_w1 A (P / 64) &&& own_bn (P % 64) = 0) ↔ P ≠ A := by
  unfold own_w1
  by_cases q : P / 64 = A / 64
  · rw [if_pos q]
    have f := own_f1 ⟨A % 64, by omega⟩ ⟨P % 64, by omega⟩
    rw [f]
    simp only [ne_eq, Fin.mk.injEq]
    omega
  · rw [if_neg q, own_0and]
    simp only [true_iff]
    intro h; subst h; exact q rfl
theorem own_im2 (A B P : Nat) : (own_w2 A B (P / 64) &&& own_bn (P % 64) = 0) ↔ (P ≠ A ∧ P ≠ B) := by
  unfold own_w2
  rw [own_dist, own_or_eq0, own_im1, own_im1]
/-- ranks -/
theorem own_bcw1 (A i : Nat) : own_bc (own_w1 A i) = if i = A / 64 then 1 else 0 := by
  unfold own_w1; split
  · exact own_f3 ⟨A % 64, by omega⟩
  · exact own_f3z
theorem own_bcw2 {A B : Nat} (h : A ≠ B) (i : Nat) : own_bc (own_w2 A B i) = (if i = A / 64 then (1 : Int32) else 0) + (if i = B / 64 then 1 else 0) := by
  unfold own_w2 own_w1
  by_cases q1 : i = A / 64 <;> by_cases q2 : i = B / 64
  · rw [if_pos q1, if_pos q2, if_pos q1, if_pos q2]
    exact own_f4 ⟨A % 64, by omega⟩ ⟨B % 64, by omega⟩ (by simp only [ne_eq, Fin.mk.injEq]; omega)
  · rw [if_pos q1, if_neg q2, if_pos q1, if_neg q2, own_or0]; exact own_f3 ⟨A % 64, by omega⟩
  · rw [if_neg q1, if_pos q2, if_neg q1, if_pos q2, own_0or]; exact own_f3 ⟨B % 64, by omega⟩
  · rw [if_neg q1, if_neg q2, if_neg q1, if_neg q2, own_0or]; exact own_f3z
theorem own_pre1 (A : Nat) : ∀ i, own_pre (own_w1 A) i = if A / 64 < i then 1 else 0
  | 0 => by simp [own_pre]
  | i + 1 => by
    rw [own_pre, own_pre1 A i, own_bcw1]
    by_cases q1 : A / 64 < i
    · rw [if_pos q1, if_neg (by omega), if_pos (by omega)]; rfl
    · by_cases q2 : i = A / 64
      · rw [if_neg q1, if_pos q2, if_pos (by omega)]; rfl
      · rw [if_neg q1, if_neg q2, if_neg (by omega)]; rfl
theorem own_pre2 {A B : Nat} (h : A ≠ B) : ∀ i, own_pre (own_w2 A B) i = (if A / 64 < i then (1 : Int32) else 0) + (if B / 64 < i then 1 else 0)
  | 0 => by simp [own_pre]
  | i + 1 => by
    rw [own_pre, own_pre2 h i, own_bcw2 h]
    have k : ∀ A : Nat, (if A / 64 < i + 1 then (1 : Int32) else 0) = (if A / 64 < i then (1 : Int32) else 0) + (if i = A / 64 then 1 else 0) := fun A => by
      by_cases q1 : A / 64 < i
      · rw [if_pos (show A / 64 < i + 1 by omega), if_pos q1, if_neg (show ¬ i = A / 64 by omega)]; rfl
      · by_cases q2 : i = A / 64
        · rw [if_pos (show A / 64 < i + 1 by omega), if_neg q1, if_pos q2]; rfl
        · rw [if_neg (show ¬ A / 64 < i + 1 by omega), if_neg q1, if_neg q2]; rfl
    rw [k A, k B]
    simp only [Int32.add_assoc]
    congr 1
    simp only [← Int32.add_assoc]
    congr 1
    exact Int32.add_comm _ _
theorem own_mask1 (A P : Nat) : own_w1 A (P / 64) &&& (own_bn (P % 64) - 1) = if A / 64 = P / 64 ∧ A % 64 < P % 64 then own_bn (A % 64) else 0 := by
  unfold own_w1
  by_cases q : P / 64 = A / 64
  · rw [if_pos q, own_f2 ⟨A % 64, by omega⟩ ⟨P % 64, by omega⟩]
    by_cases r : A % 64 < P % 64
    · rw [if_pos r, if_pos ⟨q.symm, r⟩]
    · rw [if_neg r, if_neg (fun z => r z.2)]
  · rw [if_neg q, own_0and, if_neg (fun z => q z.1.symm)]
theorem own_rk1 (A P : Nat) : own_pre (own_w1 A) (P / 64) + own_bc (own_w1 A (P / 64) &&& (own_bn (P % 64) - 1)) = if A < P then 1 else 0 := by
  rw [own_pre1, own_mask1]
  by_cases q : A / 64 < P / 64
  · rw [if_pos q, if_neg (by omega), if_pos (by omega), own_f3z]; rfl
  · by_cases r : A / 64 = P / 64 ∧ A % 64 < P % 64
    · rw [if_neg q, if_pos r, if_pos (by omega)]; rw [own_f3 ⟨A % 64, by omega⟩]; rfl
    · rw [if_neg q, if_neg r, if_neg (by omega), own_f3z]; rfl
theorem own_tri (A P : Nat) : ((if A / 64 < P / 64 then (1 : Int32) else 0) = 1 ∧ own_w1 A (P / 64) &&& (own_bn (P % 64) - 1) = 0 ∧ (if A < P then (1 : Int32) else 0) = 1) ∨
    ((if A / 64 < P / 64 then (1 : Int32) else 0) = 0 ∧ own_w1 A (P / 64) &&& (own_bn (P % 64) - 1) = own_bn (A % 64) ∧ (if A < P then (1 : Int32) else 0) = 1 ∧ A / 64 = P / 64) ∨
    ((if A / 64 < P / 64 then (1 : Int32) else 0) = 0 ∧ own_w1 A (P / 64) &&& (own_bn (P % 64) - 1) = 0 ∧ (if A < P then (1 : Int32) else 0) = 0) := by
  rw [own_mask1]
  by_cases q : A / 64 < P / 64
  · left; exact ⟨if_pos q, if_neg (by omega), if_pos (by omega)⟩
  · by_cases r : A / 64 = P / 64 ∧ A % 64 < P % 64
    · right; left; exact ⟨if_neg q, if_pos r, if_pos (by omega), r.1⟩
    · right; right; exact ⟨if_neg q, if_neg r, if_neg (by omega)⟩
theorem own_rk2 {A B : Nat} (h : A ≠ B) (P : Nat) : own_pre (own_w2 A B) (P / 64) + own_bc (own_w2 A B (P / 64) &&& (own_bn (P % 64) - 1)) = (if A < P then (1 : Int32) else 0) + (if B < P then 1 else 0) := by
  rw [own_pre2 h]
  have e : own_w2 A B (P / 64) &&& (own_bn (P % 64) - 1) = (own_w1 A (P / 64) &&& (own_bn (P % 64) - 1)) ||| (own_w1 B (P / 64) &&& (own_bn (P % 64) - 1)) := own_dist _ _ _
  rw [e]
  have fA : own_bc (own_bn (A % 64)) = 1 := own_f3 ⟨A % 64, by omega⟩
  have fB : own_bc (own_bn (B % 64)) = 1 := own_f3 ⟨B % 64, by omega⟩
  rcases own_tri A P with ⟨x1, x2, x3⟩ | ⟨x1, x2, x3, x4⟩ | ⟨x1, x2, x3⟩ <;> rcases own_tri B P with ⟨y1, y2, y3⟩ | ⟨y1, y2, y3, y4⟩ | ⟨y1, y2, y3⟩ <;> rw [x1, x2, x3, y1, y2, y3]
  · rw [own_0or, own_f3z]; rfl
  · rw [own_0or, fB]; rfl
  · rw [own_0or, own_f3z]; rfl
  · rw [own_or0, fA]; rfl
  · rw [own_f4 ⟨A % 64, by omega⟩ ⟨B % 64, by omega⟩ (by simp only [ne_eq, Fin.mk.injEq]; omega)]; rfl
  · rw [own_or0, fA]; rfl
  · rw [own_0or, own_f3z]; rfl
  · rw [own_0or, fB]; rfl
  · rw [own_0or, own_f3z]; rfl
/-- the ascending list -/
def own_spec (w : Nat → Int64) (cnt : Nat → Nat) (ev : Nat → Int32) (i : Nat) : Prop :=
  (w i = 0 ∧ cnt (i + 1) = cnt i) ∨
  (w i ≠ 0 ∧ w i &&& (w i - 1) = 0 ∧ cnt (i + 1) = cnt i + 1 ∧ ev (cnt i) = Int32.ofNat i * 64 + own_ntz (w i)) ∨
  (w i ≠ 0 ∧ w i &&& (w i - 1) ≠ 0 ∧ (w i &&& (w i - 1)) &&& ((w i &&& (w i - 1)) - 1) = 0 ∧ cnt (i + 1) = cnt i + 1 + 1 ∧ ev (cnt i) = Int32.ofNat i * 64 + own_ntz (w i) ∧ ev (cnt i + 1) = Int32.ofNat i * 64 + own_ntz (w i &&& (w i - 1)))
theorem own_at64 {A : Nat} (h : A < 1000) : Int32.ofNat (A / 64) * 64 + Int32.ofNat (A % 64) = Int32.ofNat A := by
  apply Int32.toInt_inj.mp
  have s1 : (Int32.ofNat (A / 64)).toInt = ((A / 64 : Nat) : Int) := Int32.toInt_ofNat_small (by omega)
  have s2 : (Int32.ofNat (A % 64)).toInt = ((A % 64 : Nat) : Int) := Int32.toInt_ofNat_small (by omega)
  have s3 : (Int32.ofNat A).toInt = (A : Int) := Int32.toInt_ofNat_small (by omega)
  have t : (64 : Int32).toInt = 64 := by decide
  have m : (Int32.ofNat (A / 64) * 64).toInt = ((A / 64 : Nat) : Int) * 64 := by
    rw [Jvm.Kit.i32_mul (by rw [s1, t]; omega) (by rw [s1, t]; omega), s1, t]
  rw [Jvm.Kit.i32_add (by rw [m, s2]; omega) (by rw [m, s2]; omega), m, s2, s3]; omega
theorem own_sp1 {A : Nat} (h : A < 1000) (i : Nat) : own_spec (own_w1 A) (fun i => if A / 64 < i then 1 else 0) (fun _ => Int32.ofNat A) i := by
  unfold own_spec own_w1
  by_cases q : i = A / 64
  · right; left
    obtain ⟨f1, f2, f3⟩ := own_f5 ⟨A % 64, by omega⟩
    simp only [if_pos q]
    refine ⟨f1, f2, ?_, ?_⟩
    · rw [if_pos (by omega), if_neg (by omega)]
    · have f3' : own_ntz (own_bn (A % 64)) = Int32.ofNat (A % 64) := f3
      rw [f3', q]; exact (own_at64 h).symm
  · left
    simp only [if_neg q]
    refine ⟨trivial, ?_⟩
    by_cases r : A / 64 < i
    · rw [if_pos r, if_pos (by omega)]
    · rw [if_neg r, if_neg (by omega)]
theorem own_sp2 {A B : Nat} (hAB : A < B) (h : B < 1000) (i : Nat) : own_spec (own_w2 A B) (fun i => (if A / 64 < i then 1 else 0) + (if B / 64 < i then 1 else 0)) (fun j => if j = 0 then Int32.ofNat A else Int32.ofNat B) i := by
  unfold own_spec own_w2 own_w1
  have hd : A / 64 ≤ B / 64 := Nat.div_le_div_right (by omega)
  by_cases q1 : i = A / 64 <;> by_cases q2 : i = B / 64
  · right; right
    obtain ⟨f1, f2, f3⟩ := own_f6 ⟨A % 64, by omega⟩ ⟨B % 64, by omega⟩ (by show A % 64 < B % 64; omega)
    obtain ⟨g1, g2, g3⟩ := own_f5 ⟨B % 64, by omega⟩
    have f2' : (own_bn (A % 64) ||| own_bn (B % 64)) &&& ((own_bn (A % 64) ||| own_bn (B % 64)) - 1) = own_bn (B % 64) := f2
    have f3' : own_ntz (own_bn (A % 64) ||| own_bn (B % 64)) = Int32.ofNat (A % 64) := f3
    have g3' : own_ntz (own_bn (B % 64)) = Int32.ofNat (B % 64) := g3
    simp only [if_pos q1, if_pos q2, f2', f3', g3']
    have n1 : ¬ A / 64 < i := by omega
    have n2 : ¬ B / 64 < i := by omega
    have n3 : A / 64 < i + 1 := by omega
    have n4 : B / 64 < i + 1 := by omega
    simp only [n1, n2, n3, n4, if_true, if_false]
    refine ⟨f1, g1, g2, by first | rfl | trivial, ?_, ?_⟩
    · show Int32.ofNat A = _; rw [q1]; exact (own_at64 (by omega)).symm
    · show Int32.ofNat B = _; rw [q2]; exact (own_at64 (by omega)).symm
  · right; left
    obtain ⟨f1, f2, f3⟩ := own_f5 ⟨A % 64, by omega⟩
    have f3' : own_ntz (own_bn (A % 64)) = Int32.ofNat (A % 64) := f3
    have n1 : ¬ A / 64 < i := by omega
    have n2 : ¬ B / 64 < i := by omega
    have n3 : A / 64 < i + 1 := by omega
    have n4 : ¬ B / 64 < i + 1 := by omega
    simp only [if_pos q1, if_neg q2, own_or0, f3', n1, n2, n3, n4, if_true, if_false]
    refine ⟨f1, f2, by first | rfl | trivial, ?_⟩
    show Int32.ofNat A = _; rw [q1]; exact (own_at64 (by omega)).symm
  · right; left
    obtain ⟨f1, f2, f3⟩ := own_f5 ⟨B % 64, by omega⟩
    have f3' : own_ntz (own_bn (B % 64)) = Int32.ofNat (B % 64) := f3
    have n1 : A / 64 < i := by omega
    have n2 : ¬ B / 64 < i := by omega
    have n3 : A / 64 < i + 1 := by omega
    have n4 : B / 64 < i + 1 := by omega
    simp only [if_neg q1, if_pos q2, own_0or, f3', n1, n2, n3, n4, if_true, if_false]
    refine ⟨f1, f2, by first | rfl | trivial, ?_⟩
    show Int32.ofNat B = _; rw [q2]; exact (own_at64 (by omega)).symm
  · left
    have k : ∀ A : Nat, ¬ i = A / 64 → (if A / 64 < i + 1 then 1 else 0) = (if A / 64 < i then 1 else 0) := fun A q => by
      by_cases r : A / 64 < i
      · rw [if_pos r, if_pos (by omega)]
      · rw [if_neg r, if_neg (by omega)]
    simp only [if_neg q1, if_neg q2, own_0or]
    exact ⟨trivial, by rw [k A q1, k B q2]⟩
theorem own_d64 {u : Int32} (h : 0 ≤ u.toInt) : (u / (64 : Int32)).toInt = ((u.toInt.toNat / 64 : Nat) : Int) := by
  have t : (64 : Int32).toInt = 64 := by decide
  rw [Jvm.Kit.i32_div (by rw [t]; omega), t, Int.tdiv_eq_ediv_of_nonneg h]; omega
theorem own_nw_b {u : Int32} (h : 2 ≤ u.toInt ∧ u.toInt ≤ 257) : (own_nw u).toInt = (u.toInt + 63) / 64 ∧ 1 ≤ (own_nw u).toInt ∧ (own_nw u).toInt ≤ 5 := by
  have t : (64 : Int32).toInt = 64 := by decide
  have t1 : (1 : Int32).toInt = 1 := by decide
  have e1 : (u + (64 : Int32)).toInt = u.toInt + 64 := by rw [Jvm.Kit.i32_add (by omega) (by omega), t]
  have e2 : ((u + (64 : Int32)) - (1 : Int32)).toInt = u.toInt + 63 := by rw [Jvm.Kit.i32_sub (by omega) (by omega), e1, t1]; omega
  have e3 : (own_nw u).toInt = (u.toInt + 63) / 64 := by
    unfold own_nw
    rw [Jvm.Kit.i32_div (by rw [t]; omega), t, e2, Int.tdiv_eq_ediv_of_nonneg (by omega)]
  omega
theorem own_nneg {z : Int32} (h : 0 ≤ z.toInt) : ¬ z < 0 := by
  have e0 : (0 : Int32).toInt = 0 := by decide
  rw [Int32.lt_iff_toInt_lt]; omega
theorem own_cap {z : Int32} {n : Nat} (h : z.toInt ≤ n) : z.toNatClampNeg ≤ n := by show Int.toNat _ ≤ _; omega
theorem own_j0 {w : Nat → Int64} : ∀ j : Nat, (j : Int) < (1 : Int32).toInt → (fun _ => (0 : Int32)) j = own_pre w j := by
  intro j hj
  have t : (1 : Int32).toInt = 1 := by decide
  have e : j = 0 := by omega
  subst e; rfl
theorem own_lc {x y : Int64} : lcmpW x y = 0 ↔ x = y := by rw [lcW]; exact lc_eq x y
theorem d3_0 : decode prog_41_method_3_code 0 = .ok (.iload_n 0, 1) := by decide +kernel
theorem d3_1 : decode prog_41_method_3_code 1 = .ok (.bipush 64, 2) := by decide +kernel
theorem d3_3 : decode prog_41_method_3_code 3 = .ok (.iadd, 1) := by decide +kernel
theorem d3_4 : decode prog_41_method_3_code 4 = .ok (.iconst 1, 1) := by decide +kernel
theorem d3_5 : decode prog_41_method_3_code 5 = .ok (.isub, 1) := by decide +kernel
theorem d3_6 : decode prog_41_method_3_code 6 = .ok (.bipush 64, 2) := by decide +kernel
theorem d3_8 : decode prog_41_method_3_code 8 = .ok (.idiv, 1) := by decide +kernel
theorem d3_9 : decode prog_41_method_3_code 9 = .ok (.ireturn, 1) := by decide +kernel
theorem ef_3_0 (m : MethodId) (p0 : Int32) : entryFrame m #[(.int p0)] 1 = mkF m 0 #[.val (.int p0)] [] := by first | (simp [entryFrame, mkF, argsToLocals, Value.category]; done) | rfl
theorem pn_com_example_threshold_threshold_engine_UnitBits : plainName "com/example/threshold/threshold/engine/UnitBits" = true := by first | (simp [plainName, overriddenIn]; done) | decide +kernel
def Q_rm3 (Z : State) (p0 : Int32)  (h0 : Heap) (n0 : Nat) (v : Option Value) (h : Heap) (L : List Loc) : Prop := v = some (.int (own_nw p0)) ∧ Fr n0 L ∧ h = h0
set_option maxRecDepth 65536 in
set_option maxHeartbeats 40000000 in
theorem rm3 (l : Launch) (Z : State) (a0 : Array Value) (hw : ∀ d ∈ tables_1, d.before a0 Z = true) (ws : List Jvm.Cond) (p0 : Int32)  (h0 : Heap) (n0 : Nat) (Z0 : n0 ≤ h0.size) :
    MetFree l (⟨"com/example/threshold/threshold/engine/UnitBits", "words", "(I)I"⟩ : MethodName) (head1 (Jvm.Cond.code (⟨"com/example/threshold/threshold/engine/UnitBits", "words", "(I)I"⟩ : MethodName) prog_41_method_3_code 1 (some .int) :: ws) ({ frames := 0, cells := 0, slots := 0, locals := 0 } : Room)) (fun a U => a = #[(.int p0)] ∧ Z.Warmed39 U.vm ∧ U.heap = h0) (fun _ _ _ _ _ => True) (fun _ U o U' => ∃ v L, o = .returned v ∧ Q_rm3 Z p0 h0 n0 v U'.heap L ∧ FrameEnd U o U' L ({ frames := 0, cells := 0, slots := 0, locals := 0 } : Room).cells ({ frames := 0, cells := 0, slots := 0, locals := 0 } : Room).slots) := by
  refine MetFree.of_bodySF (plainFor_of_name pn_com_example_threshold_threshold_engine_UnitBits) hisR ?_
  intro p e s m args below meth c s₁ Bd hml0 hP hK
  obtain ⟨rfl, hZ, hh⟩ := hP
  have hx := Bd.exec
  have hby := Bd.bytes
  have hlk := BodyLoose.notSynchronized Bd
  have hrt := Bd.returns
  have hml : c.maxLocals = 1 := hml0
  have hown : s.vm.findClass "com/example/threshold/threshold/engine/UnitBits" = some m.cls := findClass_of_methodNamed Bd.named
  have hnm := (name_of_methodNamed Bd.named Bd.method).1
  have X0 : Stand p l e ({ frames := 0, cells := 0, slots := 0, locals := 0 } : Room) s m #[(.int p0)] below meth c s₁ [] 0 0 := Stand.of_body Bd
  have e0 : s₁.heap = h0 := by rw [← hh, Bd.state]; rfl
  have N0 := Fr.nil n0
  have K0 : Keep h0 h0 [] := Keep.refl h0 _
  show Runs p e below (QE s (Q_rm3 Z p0 h0 n0) ({ frames := 0, cells := 0, slots := 0, locals := 0 } : Room).cells ({ frames := 0, cells := 0, slots := 0, locals := 0 } : Room).slots) (s₁.setTop (entryFrame m #[(.int p0)] 1))
  rw [ef_3_0 m p0]
  show Runs p e below _ (s₁.setTop (mkF m 0 #[.val (.int p0)] []))
  refine Runs.by (fun _ hr => XS.iloadN X0.here hx rfl (hb hby d3_0) rfl  hr) ?_
  show Runs p e below _ (s₁.setTop (mkF m 1 #[.val (.int p0)] [(.int p0)]))
  refine Runs.by (fun _ hr => XS.bipush X0.here hx rfl (hb hby d3_1) hr) ?_
  show Runs p e below _ (s₁.setTop (mkF m 3 #[.val (.int p0)] [(.int (64 : Int32)), (.int p0)]))
  refine Runs.by (fun _ hr => XS.iadd X0.here hx rfl (hb hby d3_3) rfl hr) ?_
  show Runs p e below _ (s₁.setTop (mkF m 4 #[.val (.int p0)] [(.int (p0 + (64 : Int32)))]))
  refine Runs.by (fun _ hr => XS.iconst X0.here hx rfl (hb hby d3_4) hr) ?_
  show Runs p e below _ (s₁.setTop (mkF m 5 #[.val (.int p0)] [(.int (1 : Int32)), (.int (p0 + (64 : Int32)))]))
  refine Runs.by (fun _ hr => XS.isub X0.here hx rfl (hb hby d3_5) rfl hr) ?_
  show Runs p e below _ (s₁.setTop (mkF m 6 #[.val (.int p0)] [(.int ((p0 + (64 : Int32)) - (1 : Int32)))]))
  refine Runs.by (fun _ hr => XS.bipush X0.here hx rfl (hb hby d3_6) hr) ?_
  show Runs p e below _ (s₁.setTop (mkF m 8 #[.val (.int p0)] [(.int (64 : Int32)), (.int ((p0 + (64 : Int32)) - (1 : Int32)))]))
  refine Runs.by (fun _ hr => XS.idiv X0.here hx rfl (hb hby d3_8) rfl (by decide) hr) ?_
  show Runs p e below _ (s₁.setTop (mkF m 9 #[.val (.int p0)] [(.int (((p0 + (64 : Int32)) - (1 : Int32)) / (64 : Int32)))]))
  refine Runs.ret X0 hx hrt hlk (Or.inl ⟨rfl, by simp, _, rfl⟩) rfl (hb hby d3_9) (by decide) (by decide) ?_
  rw [e0]
  exact ⟨rfl, N0, rfl⟩
theorem d1_0 : decode prog_41_method_1_code 0 = .ok (.aload_n 0, 1) := by decide +kernel
theorem d1_1 : decode prog_41_method_1_code 1 = .ok (.invokespecial 1, 3) := by decide +kernel
theorem d1_4 : decode prog_41_method_1_code 4 = .ok (.aload_n 0, 1) := by decide +kernel
theorem d1_5 : decode prog_41_method_1_code 5 = .ok (.iload_n 1, 1) := by decide +kernel
theorem d1_6 : decode prog_41_method_1_code 6 = .ok (.invokestatic 7, 3) := by decide +kernel
theorem d1_9 : decode prog_41_method_1_code 9 = .ok (.newarray .long, 2) := by decide +kernel
theorem d1_11 : decode prog_41_method_1_code 11 = .ok (.putfield 13, 3) := by decide +kernel
theorem d1_14 : decode prog_41_method_1_code 14 = .ok (.return_, 1) := by decide +kernel
theorem ef_1_1 (m : MethodId) (o0 : Addr) (p1 : Int32) : entryFrame m #[(.ref o0), (.int p1)] 2 = mkF m 0 #[.val (.ref o0), .val (.int p1)] [] := by first | (simp [entryFrame, mkF, argsToLocals, Value.category]; done) | rfl
def Q_rm1 (Z : State) (o0 : Addr) (p1 : Int32)  (h0 : Heap) (n0 : Nat) (v : Option Value) (h : Heap) (L : List Loc) : Prop := v = none ∧ Fr n0 L ∧ Keep h0 h [o0] ∧ Exa Z h o0 "com/example/threshold/threshold/engine/UnitBits" ∧ Fld Z h o0 "com/example/threshold/threshold/engine/UnitBits" "count" "I" (.int (0 : Int32)) ∧ Fld Z h o0 "com/example/threshold/threshold/engine/UnitBits" "before" "[I" .null ∧ ∃ (b : Addr) (k : ClassId), n0 ≤ b ∧ h0.size ≤ b ∧ Fld Z h o0 "com/example/threshold/threshold/engine/UnitBits" "words" "[J" (.ref b) ∧ Arf Z h b k .long (own_nw p1) (fun i => .long ((fun _ => (0 : Int64)) i))
theorem pd_0 : parseMethodDescriptor "(I)I" = some ⟨[.int], some .int⟩ := by decide +kernel
set_option maxRecDepth 65536 in
set_option maxHeartbeats 40000000 in
theorem rm1 (l : Launch) (Z : State) (a0 : Array Value) (hw : ∀ d ∈ tables_1, d.before a0 Z = true) (ws : List Jvm.Cond) (o0 : Addr) (p1 : Int32)  (h0 : Heap) (n0 : Nat) (Z0 : n0 ≤ h0.size) (E0 : Exa Z h0 o0 "com/example/threshold/threshold/engine/UnitBits") (Fw : Fld Z h0 o0 "com/example/threshold/threshold/engine/UnitBits" "words" "[J" .null) (Fc : Fld Z h0 o0 "com/example/threshold/threshold/engine/UnitBits" "count" "I" (.int (0 : Int32))) (Fb : Fld Z h0 o0 "com/example/threshold/threshold/engine/UnitBits" "before" "[I" .null) (g_o0 : n0 ≤ o0) (hu : 2 ≤ p1.toInt ∧ p1.toInt ≤ 257) :
    MetFree l (⟨"com/example/threshold/threshold/engine/UnitBits", "<init>", "(I)V"⟩ : MethodName) (head1 (Jvm.Cond.code (⟨"com/example/threshold/threshold/engine/UnitBits", "<init>", "(I)V"⟩ : MethodName) prog_41_method_1_code 2 none :: ws) ({ frames := 1, cells := 1, slots := 5, locals := 13 } : Room)) (fun a U => a = #[(.ref o0), (.int p1)] ∧ Z.Warmed39 U.vm ∧ U.heap = h0) (fun _ _ _ _ _ => True) (fun _ U o U' => ∃ v L, o = .returned v ∧ Q_rm1 Z o0 p1 h0 n0 v U'.heap L ∧ FrameEnd U o U' L ({ frames := 1, cells := 1, slots := 5, locals := 13 } : Room).cells ({ frames := 1, cells := 1, slots := 5, locals := 13 } : Room).slots) := by
  refine MetFree.of_bodySF (plainFor_of_name pn_com_example_threshold_threshold_engine_UnitBits) hisR ?_
  intro p e s m args below meth c s₁ Bd hml0 hP hK
  obtain ⟨rfl, hZ, hh⟩ := hP
  have hx := Bd.exec
  have hby := Bd.bytes
  have hlk := BodyLoose.notSynchronized Bd
  have hrt := Bd.returns
  have hml : c.maxLocals = 2 := hml0
  have hown : s.vm.findClass "com/example/threshold/threshold/engine/UnitBits" = some m.cls := findClass_of_methodNamed Bd.named
  have hnm := (name_of_methodNamed Bd.named Bd.method).1
  have X0 : Stand p l e ({ frames := 1, cells := 1, slots := 5, locals := 13 } : Room) s m #[(.ref o0), (.int p1)] below meth c s₁ [] 0 0 := Stand.of_body Bd
  have e0 : s₁.heap = h0 := by rw [← hh, Bd.state]; rfl
  have N0 := Fr.nil n0
  have K0 : Keep h0 h0 [o0] := Keep.refl h0 _
  show Runs p e below (QE s (Q_rm1 Z o0 p1 h0 n0) ({ frames := 1, cells := 1, slots := 5, locals := 13 } : Room).cells ({ frames := 1, cells := 1, slots := 5, locals := 13 } : Room).slots) (s₁.setTop (entryFrame m #[(.ref o0), (.int p1)] 2))
  rw [ef_1_1 m o0 p1]
  show Runs p e below _ (s₁.setTop (mkF m 0 #[.val (.ref o0), .val (.int p1)] []))
  refine Runs.by (fun _ hr => XS.aloadN X0.here hx rfl (hb hby d1_0) rfl rfl hr) ?_
  show Runs p e below _ (s₁.setTop (mkF m 1 #[.val (.ref o0), .val (.int p1)] [(.ref o0)]))
  obtain ⟨T1, X1, e1, st1⟩ := initO X0 hx hZ hown (hw _ (List.mem_of_getElem? (i := 7) rfl)) (hw _ (List.mem_of_getElem? (i := 8) rfl)) (hw _ (List.mem_of_getElem? (i := 9) rfl)) e0 (g := (mkF m 1 #[.val (.ref o0), .val (.int p1)] [(.ref o0)])) rfl (by rw [hml]; rfl) rfl (hb hby d1_1) (by decide) (W := 0) (by show 2 * 0 + _ ≤ _; exact Nat.le_of_eq rfl) (by decide)
  refine Runs.by st1 ?_
  show Runs p e below _ (T1.setTop (mkF m 4 #[.val (.ref o0), .val (.int p1)] []))
  refine Runs.by (fun _ hr => XS.aloadN X1.here hx rfl (hb hby d1_4) rfl rfl hr) ?_
  show Runs p e below _ (T1.setTop (mkF m 5 #[.val (.ref o0), .val (.int p1)] [(.ref o0)]))
  refine Runs.by (fun _ hr => XS.iloadN X1.here hx rfl (hb hby d1_5) rfl  hr) ?_
  show Runs p e below _ (T1.setTop (mkF m 6 #[.val (.ref o0), .val (.int p1)] [(.int p1), (.ref o0)]))
  obtain ⟨_, _, ⟨T2, L2, k2, n2⟩, -, X2, ⟨Lc2, hQ2, l2, y2, z2⟩, st2⟩ := Jvm.LawKit.callS X1 hx (y := (⟨"com/example/threshold/threshold/engine/UnitBits", "words", "(I)I"⟩ : MethodName)) hown (mvT hZ (hw _ (List.mem_of_getElem? (i := 10) rfl))) (mvT hZ (hw _ (List.mem_of_getElem? (i := 11) rfl))) (mvT hZ (hw _ (List.mem_of_getElem? (i := 3) rfl))) (mvT hZ (hw _ (List.mem_of_getElem? (i := 12) rfl))) (by decide) (backOf (W := 1) (rm3 l Z a0 hw [] p1  h0 n0 (Nat.le_trans Z0 K0.1) ) hZ (hw _ (List.mem_of_getElem? (i := 12) rfl)) (hw _ (List.mem_of_getElem? (i := 3) rfl)) (by decide) (by decide)) (g := (mkF m 6 #[.val (.ref o0), .val (.int p1)] [(.int p1), (.ref o0)])) rfl (by rw [hml]; rfl) (argsL := [(.int p1)]) (rest := [(.ref o0)]) (lenOf pd_0 rfl) rfl (by show 2 * 0 + _ ≤ _; exact Nat.le_of_eq rfl) (hb hby d1_6) (fun _ _ => ⟨rfl, e1, (by decide : 0 + 0 ≤ _), (by decide : 0 + 0 ≤ _)⟩)
  dsimp only [Pt.U, Pt.locs, Pt.cells, Pt.slots] at X2 l2 y2 z2 st2 hQ2
  subst l2 y2 z2
  obtain ⟨rfl, Nq2, eq2⟩ := hQ2
  have N2 := Fr.app N0 Nq2
  refine Runs.by (fun t hr => st2 t hr) ?_
  show Runs p e below _ (T2.setTop (mkF m 9 #[.val (.ref o0), .val (.int p1)] [(.int (own_nw p1)), (.ref o0)]))
  obtain ⟨T3, h3, k3, X3, e3, E3, A3, st3⟩ := newP X2 hx hZ (hw _ (List.mem_of_getElem? (i := 13) rfl)) eq2 (g := (mkF m 9 #[.val (.ref o0), .val (.int p1)] [(.int (own_nw p1)), (.ref o0)])) rfl (hb hby d1_9) rfl (own_nneg (by have := own_nw_b hu; omega)) (cap := 5) (own_cap (by have := own_nw_b hu; omega)) (by decide) (by decide) (by decide)
  obtain ⟨b3, gz3⟩ : ∃ z, z = h0.size := ⟨_, rfl⟩
  rw [← gz3] at A3 st3
  have ne_o0_b3 : o0 ≠ b3 := Nat.ne_of_lt (Nat.lt_of_lt_of_le E0.lt (Nat.le_of_eq gz3.symm))
  have g_b3 : n0 ≤ b3 := Nat.le_trans (Nat.le_trans Z0 K0.1) (Nat.le_of_eq gz3.symm)
  have sz_b3 : h0.size ≤ b3 := Nat.le_trans K0.1 (Nat.le_of_eq gz3.symm)
  have K4 : Keep h0 h3 [o0] := K0.ext E3
  have G3 : Arf Z h3 b3 k3 .long (own_nw p1) (fun j_ => .long ((fun _ => (0 : Int64)) j_)) := Arf.new A3 (own_nneg (by have := own_nw_b hu; omega))
  refine Runs.by st3 ?_
  show Runs p e below _ (T3.setTop (mkF m 11 #[.val (.ref o0), .val (.int p1)] [(.ref b3), (.ref o0)]))
  obtain ⟨T5, h5, X5, e5, W5, st5⟩ := putF X3 hx hZ hown (host := "") (Or.inl (hw _ (List.mem_of_getElem? (i := 14) rfl))) Via.refl e3 (Fw.ext E3) (E0.ext E3) (Or.inr ⟨(hw _ (List.mem_of_getElem? (i := 15) rfl)), rfl, hnm⟩) (hw _ (List.mem_of_getElem? (i := 2) rfl)) (ty := (.array .long)) (by decide) rfl rfl (g := (mkF m 11 #[.val (.ref o0), .val (.int p1)] [(.ref b3), (.ref o0)])) rfl rfl (hb hby d1_11)
  have Fw5 := (Fw.ext E3).same W5
  have K6 : Keep h0 h5 [o0] := K4.wr W5 (Or.inl (List.mem_of_getElem? (i := 0) rfl))
  have N5 := Fr.snoc X5 N2 g_o0
  refine Runs.by st5 ?_
  show Runs p e below _ (T5.setTop (mkF m 14 #[.val (.ref o0), .val (.int p1)] []))
  refine Runs.retV X5 hx hrt hlk (hb hby d1_14) (by decide) (by decide) ?_
  rw [e5]
  exact ⟨rfl, N5, K6, ((E0.ext E3).wr W5), ((Fc.ext E3).other W5 (Or.inr (slot_ne (Or.inl (hw _ (List.mem_of_getElem? (i := 22) rfl))) (Or.inr (hw _ (List.mem_of_getElem? (i := 15) rfl))) (by decide) (t := .int) (t' := (.array .long)) (by decide) (by decide)))), ((Fb.ext E3).other W5 (Or.inr (slot_ne (Or.inl (hw _ (List.mem_of_getElem? (i := 35) rfl))) (Or.inr (hw _ (List.mem_of_getElem? (i := 15) rfl))) (by decide) (t := (.array .int)) (t' := (.array .long)) (by decide) (by decide)))), b3, k3, g_b3, sz_b3, Fw5, (G3.other W5 (Ne.symm ne_o0_b3))⟩
theorem d4_0 : decode prog_41_method_4_code 0 = .ok (.aload_n 0, 1) := by decide +kernel
theorem d4_1 : decode prog_41_method_4_code 1 = .ok (.getfield 13, 3) := by decide +kernel
theorem d4_4 : decode prog_41_method_4_code 4 = .ok (.iload_n 1, 1) := by decide +kernel
theorem d4_5 : decode prog_41_method_4_code 5 = .ok (.bipush 64, 2) := by decide +kernel
theorem d4_7 : decode prog_41_method_4_code 7 = .ok (.idiv, 1) := by decide +kernel
theorem d4_8 : decode prog_41_method_4_code 8 = .ok (.dup2, 1) := by decide +kernel
theorem d4_9 : decode prog_41_method_4_code 9 = .ok (.laload, 1) := by decide +kernel
theorem d4_10 : decode prog_41_method_4_code 10 = .ok (.lconst 1, 1) := by decide +kernel
theorem d4_11 : decode prog_41_method_4_code 11 = .ok (.iload_n 1, 1) := by decide +kernel
theorem d4_12 : decode prog_41_method_4_code 12 = .ok (.lshl, 1) := by decide +kernel
theorem d4_13 : decode prog_41_method_4_code 13 = .ok (.lor, 1) := by decide +kernel
theorem d4_14 : decode prog_41_method_4_code 14 = .ok (.lastore, 1) := by decide +kernel
theorem d4_15 : decode prog_41_method_4_code 15 = .ok (.aload_n 0, 1) := by decide +kernel
theorem d4_16 : decode prog_41_method_4_code 16 = .ok (.dup, 1) := by decide +kernel
theorem d4_17 : decode prog_41_method_4_code 17 = .ok (.getfield 18, 3) := by decide +kernel
theorem d4_20 : decode prog_41_method_4_code 20 = .ok (.iconst 1, 1) := by decide +kernel
theorem d4_21 : decode prog_41_method_4_code 21 = .ok (.iadd, 1) := by decide +kernel
theorem d4_22 : decode prog_41_method_4_code 22 = .ok (.putfield 18, 3) := by decide +kernel
theorem d4_25 : decode prog_41_method_4_code 25 = .ok (.return_, 1) := by decide +kernel
theorem ef_4_2 (m : MethodId) (o0 : Addr) (p1 : Int32) : entryFrame m #[(.ref o0), (.int p1)] 2 = mkF m 0 #[.val (.ref o0), .val (.int p1)] [] := by first | (simp [entryFrame, mkF, argsToLocals, Value.category]; done) | rfl
def Q_rm4 (Z : State) (o0 : Addr) (p1 : Int32) (wa : Addr) (k : ClassId) (z : Int32) (w : Nat → Int64) (cc : Int32) (vb : Value) (h0 : Heap) (n0 : Nat) (v : Option Value) (h : Heap) (L : List Loc) : Prop := v = none ∧ Fr n0 L ∧ Keep h0 h [wa, o0] ∧ Exa Z h o0 "com/example/threshold/threshold/engine/UnitBits" ∧ Fld Z h o0 "com/example/threshold/threshold/engine/UnitBits" "words" "[J" (.ref wa) ∧ Fld Z h o0 "com/example/threshold/threshold/engine/UnitBits" "count" "I" (.int (cc + (1 : Int32))) ∧ Fld Z h o0 "com/example/threshold/threshold/engine/UnitBits" "before" "[I" vb ∧ Arf Z h wa k .long z (fun i => .long (own_mk w p1 i))
set_option maxRecDepth 65536 in
set_option maxHeartbeats 40000000 in
theorem rm4 (l : Launch) (Z : State) (a0 : Array Value) (hw : ∀ d ∈ tables_1, d.before a0 Z = true) (ws : List Jvm.Cond) (o0 : Addr) (p1 : Int32) (wa : Addr) (k : ClassId) (z : Int32) (w : Nat → Int64) (cc : Int32) (vb : Value) (h0 : Heap) (n0 : Nat) (Z0 : n0 ≤ h0.size) (E0 : Exa Z h0 o0 "com/example/threshold/threshold/engine/UnitBits") (Fw : Fld Z h0 o0 "com/example/threshold/threshold/engine/UnitBits" "words" "[J" (.ref wa)) (Fc : Fld Z h0 o0 "com/example/threshold/threshold/engine/UnitBits" "count" "I" (.int cc)) (Fb : Fld Z h0 o0 "com/example/threshold/threshold/engine/UnitBits" "before" "[I" vb) (G0 : Arf Z h0 wa k .long z (fun i => .long (w i))) (ne0 : wa ≠ o0) (g_wa : n0 ≤ wa) (g_o0 : n0 ≤ o0) (hu : 0 ≤ p1.toInt ∧ p1.toInt / 64 < z.toInt) :
    MetFree l (⟨"com/example/threshold/threshold/engine/UnitBits", "mark", "(I)V"⟩ : MethodName) (head1 (Jvm.Cond.code (⟨"com/example/threshold/threshold/engine/UnitBits", "mark", "(I)V"⟩ : MethodName) prog_41_method_4_code 2 none :: ws) ({ frames := 0, cells := 0, slots := 0, locals := 0 } : Room)) (fun a U => a = #[(.ref o0), (.int p1)] ∧ Z.Warmed39 U.vm ∧ U.heap = h0) (fun _ _ _ _ _ => True) (fun _ U o U' => ∃ v L, o = .returned v ∧ Q_rm4 Z o0 p1 wa k z w cc vb h0 n0 v U'.heap L ∧ FrameEnd U o U' L ({ frames := 0, cells := 0, slots := 0, locals := 0 } : Room).cells ({ frames := 0, cells := 0, slots := 0, locals := 0 } : Room).slots) := by
  refine MetFree.of_bodySF (plainFor_of_name pn_com_example_threshold_threshold_engine_UnitBits) hisR ?_
  intro p e s m args below meth c s₁ Bd hml0 hP hK
  obtain ⟨rfl, hZ, hh⟩ := hP
  have hx := Bd.exec
  have hby := Bd.bytes
  have hlk := BodyLoose.notSynchronized Bd
  have hrt := Bd.returns
  have hml : c.maxLocals = 2 := hml0
  have hown : s.vm.findClass "com/example/threshold/threshold/engine/UnitBits" = some m.cls := findClass_of_methodNamed Bd.named
  have hnm := (name_of_methodNamed Bd.named Bd.method).1
  have X0 : Stand p l e ({ frames := 0, cells := 0, slots := 0, locals := 0 } : Room) s m #[(.ref o0), (.int p1)] below meth c s₁ [] 0 0 := Stand.of_body Bd
  have e0 : s₁.heap = h0 := by rw [← hh, Bd.state]; rfl
  have N0 := Fr.nil n0
  have K0 : Keep h0 h0 [wa, o0] := Keep.refl h0 _
  show Runs p e below (QE s (Q_rm4 Z o0 p1 wa k z w cc vb h0 n0) ({ frames := 0, cells := 0, slots := 0, locals := 0 } : Room).cells ({ frames := 0, cells := 0, slots := 0, locals := 0 } : Room).slots) (s₁.setTop (entryFrame m #[(.ref o0), (.int p1)] 2))
  rw [ef_4_2 m o0 p1]
  have hd64 := own_d64 (u := p1) (by omega)
  show Runs p e below _ (s₁.setTop (mkF m 0 #[.val (.ref o0), .val (.int p1)] []))
  refine Runs.by (fun _ hr => XS.aloadN X0.here hx rfl (hb hby d4_0) rfl rfl hr) ?_
  show Runs p e below _ (s₁.setTop (mkF m 1 #[.val (.ref o0), .val (.int p1)] [(.ref o0)]))
  obtain ⟨T1, X1, e1, st1⟩ := getF X0 hx hZ hown (host := "") (Or.inl (hw _ (List.mem_of_getElem? (i := 14) rfl))) Via.refl e0 Fw (g := (mkF m 1 #[.val (.ref o0), .val (.int p1)] [(.ref o0)])) rfl rfl (hb hby d4_1)
  refine Runs.by st1 ?_
  show Runs p e below _ (T1.setTop (mkF m 4 #[.val (.ref o0), .val (.int p1)] [(.ref wa)]))
  refine Runs.by (fun _ hr => XS.iloadN X1.here hx rfl (hb hby d4_4) rfl  hr) ?_
  show Runs p e below _ (T1.setTop (mkF m 5 #[.val (.ref o0), .val (.int p1)] [(.int p1), (.ref wa)]))
  refine Runs.by (fun _ hr => XS.bipush X1.here hx rfl (hb hby d4_5) hr) ?_
  show Runs p e below _ (T1.setTop (mkF m 7 #[.val (.ref o0), .val (.int p1)] [(.int (64 : Int32)), (.int p1), (.ref wa)]))
  refine Runs.by (fun _ hr => XS.idiv X1.here hx rfl (hb hby d4_7) rfl (by decide) hr) ?_
  show Runs p e below _ (T1.setTop (mkF m 8 #[.val (.ref o0), .val (.int p1)] [(.int (p1 / (64 : Int32))), (.ref wa)]))
  refine Runs.by (U' := T1.setTop (mkF m 9 #[.val (.ref o0), .val (.int p1)] [(.int (p1 / (64 : Int32))), (.ref wa), (.int (p1 / (64 : Int32))), (.ref wa)])) (fun _ hr => ?_) ?_
  · jvm_step X1.here [X1.here.top, hx, (hb hby d4_8), Value.category]
    exact hr
  show Runs p e below _ (T1.setTop (mkF m 9 #[.val (.ref o0), .val (.int p1)] [(.int (p1 / (64 : Int32))), (.ref wa), (.int (p1 / (64 : Int32))), (.ref wa)]))
  obtain ⟨cl2, Ar2, -, S2, N2', H2⟩ := id G0
  have ix2 := own_ix (j := (p1 / (64 : Int32))) (z := z) (n := p1.toInt.toNat / 64) hd64 (by rw [hd64]; omega)
  have hin2 : ¬ ((p1 / (64 : Int32)) < 0 ∨ cl2.slots.size ≤ ((p1 / (64 : Int32))).toNatClampNeg) := inb_of S2 ix2.1
  have hat2 : cl2.slots[((p1 / (64 : Int32))).toNatClampNeg]? = some (.long (w (p1.toInt.toNat / 64))) := by rw [ix2.2.1]; exact H2 _ ix2.2.2
  refine Runs.by (fun t hr => X1.laload hx (j := (p1 / (64 : Int32))) (v := (.long (w (p1.toInt.toNat / 64)))) (by rw [e1]; exact Ar2.1) (State.isArrayOf_alike hZ.alike Ar2.2.1) Ar2.2.2 hin2 hat2 (g := (mkF m 9 #[.val (.ref o0), .val (.int p1)] [(.int (p1 / (64 : Int32))), (.ref wa), (.int (p1 / (64 : Int32))), (.ref wa)])) rfl rfl (hb hby d4_9) t hr) ?_
  show Runs p e below _ (T1.setTop (mkF m 10 #[.val (.ref o0), .val (.int p1)] [(.long (w (p1.toInt.toNat / 64))), (.int (p1 / (64 : Int32))), (.ref wa)]))
  refine Runs.by (fun _ hr => XS.lconst X1.here hx rfl (hb hby d4_10) hr) ?_
  show Runs p e below _ (T1.setTop (mkF m 11 #[.val (.ref o0), .val (.int p1)] [(.long (1 : Int64)), (.long (w (p1.toInt.toNat / 64))), (.int (p1 / (64 : Int32))), (.ref wa)]))
  refine Runs.by (fun _ hr => XS.iloadN X1.here hx rfl (hb hby d4_11) rfl  hr) ?_
  show Runs p e below _ (T1.setTop (mkF m 12 #[.val (.ref o0), .val (.int p1)] [(.int p1), (.long (1 : Int64)), (.long (w (p1.toInt.toNat / 64))), (.int (p1 / (64 : Int32))), (.ref wa)]))
  refine Runs.by (fun _ hr => XS.lshl X1.here hx rfl (hb hby d4_12) rfl hr) ?_
  show Runs p e below _ (T1.setTop (mkF m 13 #[.val (.ref o0), .val (.int p1)] [(.long ((1 : Int64) <<< (p1 &&& 0x3f).toInt64)), (.long (w (p1.toInt.toNat / 64))), (.int (p1 / (64 : Int32))), (.ref wa)]))
  refine Runs.by (fun _ hr => XS.lor X1.here hx rfl (hb hby d4_13) rfl hr) ?_
  show Runs p e below _ (T1.setTop (mkF m 14 #[.val (.ref o0), .val (.int p1)] [(.long ((w (p1.toInt.toNat / 64)) ||| ((1 : Int64) <<< (p1 &&& 0x3f).toInt64))), (.int (p1 / (64 : Int32))), (.ref wa)]))
  obtain ⟨cl3, Ar3, q3, S3, N3', H3⟩ := id G0
  have ix3 := own_ix (j := (p1 / (64 : Int32))) (z := z) (n := p1.toInt.toNat / 64) hd64 (by rw [hd64]; omega)
  have hin3 : ¬ ((p1 / (64 : Int32)) < 0 ∨ cl3.slots.size ≤ ((p1 / (64 : Int32))).toNatClampNeg) := inb_of S3 ix3.1
  obtain ⟨T3, h3, X3, e3, W3, st3⟩ := stJ X1 hx hZ e1 Ar3 (j := (p1 / (64 : Int32))) hin3 (g := (mkF m 14 #[.val (.ref o0), .val (.int p1)] [(.long ((w (p1.toInt.toNat / 64)) ||| ((1 : Int64) <<< (p1 &&& 0x3f).toInt64))), (.int (p1 / (64 : Int32))), (.ref wa)])) rfl rfl (hb hby d4_14)
  have G3 : Arf Z h3 wa k .long z (fun j_ => .long ((own_up w (p1.toInt.toNat / 64) ((w (p1.toInt.toNat / 64)) ||| ((1 : Int64) <<< (p1 &&& 0x3f).toInt64))) j_)) := (Arf.set Ar3 q3 S3 N3' H3 W3 ix3.2.1).cast (fun j_ _ => by simp only [own_up]; split <;> rfl)
  have K4 : Keep h0 h3 [wa, o0] := K0.wr W3 (Or.inl (List.mem_of_getElem? (i := 0) rfl))
  have N3 := Fr.snoc X3 N0 g_wa
  refine Runs.by st3 ?_
  show Runs p e below _ (T3.setTop (mkF m 15 #[.val (.ref o0), .val (.int p1)] []))
  refine Runs.by (fun _ hr => XS.aloadN X3.here hx rfl (hb hby d4_15) rfl rfl hr) ?_
  show Runs p e below _ (T3.setTop (mkF m 16 #[.val (.ref o0), .val (.int p1)] [(.ref o0)]))
  refine Runs.by (fun _ hr => XS.dup X3.here hx rfl (hb hby d4_16) rfl rfl hr) ?_
  show Runs p e below _ (T3.setTop (mkF m 17 #[.val (.ref o0), .val (.int p1)] [(.ref o0), (.ref o0)]))
  obtain ⟨T5, X5, e5, st5⟩ := getF X3 hx hZ hown (host := "") (Or.inl (hw _ (List.mem_of_getElem? (i := 21) rfl))) Via.refl e3 (Fc.other W3 (Or.inl (Ne.symm ne0))) (g := (mkF m 17 #[.val (.ref o0), .val (.int p1)] [(.ref o0), (.ref o0)])) rfl rfl (hb hby d4_17)
  refine Runs.by st5 ?_
  show Runs p e below _ (T5.setTop (mkF m 20 #[.val (.ref o0), .val (.int p1)] [(.int cc), (.ref o0)]))
  refine Runs.by (fun _ hr => XS.iconst X5.here hx rfl (hb hby d4_20) hr) ?_
  show Runs p e below _ (T5.setTop (mkF m 21 #[.val (.ref o0), .val (.int p1)] [(.int (1 : Int32)), (.int cc), (.ref o0)]))
  refine Runs.by (fun _ hr => XS.iadd X5.here hx rfl (hb hby d4_21) rfl hr) ?_
  show Runs p e below _ (T5.setTop (mkF m 22 #[.val (.ref o0), .val (.int p1)] [(.int (cc + (1 : Int32))), (.ref o0)]))
  obtain ⟨T6, h6, X6, e6, W6, st6⟩ := putF X5 hx hZ hown (host := "") (Or.inl (hw _ (List.mem_of_getElem? (i := 21) rfl))) Via.refl e5 (Fc.other W3 (Or.inl (Ne.symm ne0))) (E0.wr W3) (Or.inl (hw _ (List.mem_of_getElem? (i := 22) rfl))) (hw _ (List.mem_of_getElem? (i := 2) rfl)) (ty := .int) (by decide) rfl rfl (g := (mkF m 22 #[.val (.ref o0), .val (.int p1)] [(.int (cc + (1 : Int32))), (.ref o0)])) rfl rfl (hb hby d4_22)
  have Fw6 := (Fc.other W3 (Or.inl (Ne.symm ne0))).same W6
  have K7 : Keep h0 h6 [wa, o0] := K4.wr W6 (Or.inl (List.mem_of_getElem? (i := 1) rfl))
  have N6 := Fr.snoc X6 N3 g_o0
  refine Runs.by st6 ?_
  show Runs p e below _ (T6.setTop (mkF m 25 #[.val (.ref o0), .val (.int p1)] []))
  refine Runs.retV X6 hx hrt hlk (hb hby d4_25) (by decide) (by decide) ?_
  rw [e6]
  exact ⟨rfl, N6, K7, ((E0.wr W3).wr W6), ((Fw.other W3 (Or.inl (Ne.symm ne0))).other W6 (Or.inr (slot_ne (Or.inr (hw _ (List.mem_of_getElem? (i := 15) rfl))) (Or.inl (hw _ (List.mem_of_getElem? (i := 22) rfl))) (by decide) (t := (.array .long)) (t' := .int) (by decide) (by decide)))), Fw6, ((Fb.other W3 (Or.inl (Ne.symm ne0))).other W6 (Or.inr (slot_ne (Or.inl (hw _ (List.mem_of_getElem? (i := 35) rfl))) (Or.inl (hw _ (List.mem_of_getElem? (i := 22) rfl))) (by decide) (t := (.array .int)) (t' := .int) (by decide) (by decide)))), (G3.other W6 ne0)⟩
theorem d5_0 : decode prog_41_method_5_code 0 = .ok (.aload_n 0, 1) := by decide +kernel
theorem d5_1 : decode prog_41_method_5_code 1 = .ok (.getfield 13, 3) := by decide +kernel
theorem d5_4 : decode prog_41_method_5_code 4 = .ok (.iload_n 1, 1) := by decide +kernel
theorem d5_5 : decode prog_41_method_5_code 5 = .ok (.bipush 64, 2) := by decide +kernel
theorem d5_7 : decode prog_41_method_5_code 7 = .ok (.idiv, 1) := by decide +kernel
theorem d5_8 : decode prog_41_method_5_code 8 = .ok (.laload, 1) := by decide +kernel
theorem d5_9 : decode prog_41_method_5_code 9 = .ok (.lconst 1, 1) := by decide +kernel
theorem d5_10 : decode prog_41_method_5_code 10 = .ok (.iload_n 1, 1) := by decide +kernel
theorem d5_11 : decode prog_41_method_5_code 11 = .ok (.lshl, 1) := by decide +kernel
theorem d5_12 : decode prog_41_method_5_code 12 = .ok (.land, 1) := by decide +kernel
theorem d5_13 : decode prog_41_method_5_code 13 = .ok (.lconst 0, 1) := by decide +kernel
theorem d5_14 : decode prog_41_method_5_code 14 = .ok (.lcmp, 1) := by decide +kernel
theorem d5_15 : decode prog_41_method_5_code 15 = .ok (.ifCond .eq 7, 3) := by decide +kernel
theorem d5_18 : decode prog_41_method_5_code 18 = .ok (.iconst 1, 1) := by decide +kernel
theorem d5_19 : decode prog_41_method_5_code 19 = .ok (.goto 4, 3) := by decide +kernel
theorem d5_22 : decode prog_41_method_5_code 22 = .ok (.iconst 0, 1) := by decide +kernel
theorem d5_23 : decode prog_41_method_5_code 23 = .ok (.ireturn, 1) := by decide +kernel
theorem ef_5_3 (m : MethodId) (o0 : Addr) (p1 : Int32) : entryFrame m #[(.ref o0), (.int p1)] 2 = mkF m 0 #[.val (.ref o0), .val (.int p1)] [] := by first | (simp [entryFrame, mkF, argsToLocals, Value.category]; done) | rfl
def Q_rm5 (Z : State) (o0 : Addr) (p1 : Int32) (wa : Addr) (k : ClassId) (z : Int32) (w : Nat → Int64) (h0 : Heap) (n0 : Nat) (v : Option Value) (h : Heap) (L : List Loc) : Prop := v = some (.int (if w (p1.toInt.toNat / 64) &&& own_bit p1 = 0 then 0 else 1)) ∧ Fr n0 L ∧ h = h0
set_option maxRecDepth 65536 in
set_option maxHeartbeats 40000000 in
theorem rm5 (l : Launch) (Z : State) (a0 : Array Value) (hw : ∀ d ∈ tables_1, d.before a0 Z = true) (ws : List Jvm.Cond) (o0 : Addr) (p1 : Int32) (wa : Addr) (k : ClassId) (z : Int32) (w : Nat → Int64) (h0 : Heap) (n0 : Nat) (Z0 : n0 ≤ h0.size) (Fw : Fld Z h0 o0 "com/example/threshold/threshold/engine/UnitBits" "words" "[J" (.ref wa)) (G0 : Arf Z h0 wa k .long z (fun i => .long (w i))) (hu : 0 ≤ p1.toInt ∧ p1.toInt / 64 < z.toInt) :
    MetFree l (⟨"com/example/threshold/threshold/engine/UnitBits", "isMarked", "(I)Z"⟩ : MethodName) (head1 (Jvm.Cond.code (⟨"com/example/threshold/threshold/engine/UnitBits", "isMarked", "(I)Z"⟩ : MethodName) prog_41_method_5_code 2 (some .boolean) :: ws) ({ frames := 0, cells := 0, slots := 0, locals := 0 } : Room)) (fun a U => a = #[(.ref o0), (.int p1)] ∧ Z.Warmed39 U.vm ∧ U.heap = h0) (fun _ _ _ _ _ => True) (fun _ U o U' => ∃ v L, o = .returned v ∧ Q_rm5 Z o0 p1 wa k z w h0 n0 v U'.heap L ∧ FrameEnd U o U' L ({ frames := 0, cells := 0, slots := 0, locals := 0 } : Room).cells ({ frames := 0, cells := 0, slots := 0, locals := 0 } : Room).slots) := by
  refine MetFree.of_bodySF (plainFor_of_name pn_com_example_threshold_threshold_engine_UnitBits) hisR ?_
  intro p e s m args below meth c s₁ Bd hml0 hP hK
  obtain ⟨rfl, hZ, hh⟩ := hP
  have hx := Bd.exec
  have hby := Bd.bytes
  have hlk := BodyLoose.notSynchronized Bd
  have hrt := Bd.returns
  have hml : c.maxLocals = 2 := hml0
  have hown : s.vm.findClass "com/example/threshold/threshold/engine/UnitBits" = some m.cls := findClass_of_methodNamed Bd.named
  have hnm := (name_of_methodNamed Bd.named Bd.method).1
  have X0 : Stand p l e ({ frames := 0, cells := 0, slots := 0, locals := 0 } : Room) s m #[(.ref o0), (.int p1)] below meth c s₁ [] 0 0 := Stand.of_body Bd
  have e0 : s₁.heap = h0 := by rw [← hh, Bd.state]; rfl
  have N0 := Fr.nil n0
  have K0 : Keep h0 h0 [] := Keep.refl h0 _
  show Runs p e below (QE s (Q_rm5 Z o0 p1 wa k z w h0 n0) ({ frames := 0, cells := 0, slots := 0, locals := 0 } : Room).cells ({ frames := 0, cells := 0, slots := 0, locals := 0 } : Room).slots) (s₁.setTop (entryFrame m #[(.ref o0), (.int p1)] 2))
  rw [ef_5_3 m o0 p1]
  have hd64 := own_d64 (u := p1) (by omega)
  show Runs p e below _ (s₁.setTop (mkF m 0 #[.val (.ref o0), .val (.int p1)] []))
  refine Runs.by (fun _ hr => XS.aloadN X0.here hx rfl (hb hby d5_0) rfl rfl hr) ?_
  show Runs p e below _ (s₁.setTop (mkF m 1 #[.val (.ref o0), .val (.int p1)] [(.ref o0)]))
  obtain ⟨T1, X1, e1, st1⟩ := getF X0 hx hZ hown (host := "") (Or.inl (hw _ (List.mem_of_getElem? (i := 14) rfl))) Via.refl e0 Fw (g := (mkF m 1 #[.val (.ref o0), .val (.int p1)] [(.ref o0)])) rfl rfl (hb hby d5_1)
  refine Runs.by st1 ?_
  show Runs p e below _ (T1.setTop (mkF m 4 #[.val (.ref o0), .val (.int p1)] [(.ref wa)]))
  refine Runs.by (fun _ hr => XS.iloadN X1.here hx rfl (hb hby d5_4) rfl  hr) ?_
  show Runs p e below _ (T1.setTop (mkF m 5 #[.val (.ref o0), .val (.int p1)] [(.int p1), (.ref wa)]))
  refine Runs.by (fun _ hr => XS.bipush X1.here hx rfl (hb hby d5_5) hr) ?_
  show Runs p e below _ (T1.setTop (mkF m 7 #[.val (.ref o0), .val (.int p1)] [(.int (64 : Int32)), (.int p1), (.ref wa)]))
  refine Runs.by (fun _ hr => XS.idiv X1.here hx rfl (hb hby d5_7) rfl (by decide) hr) ?_
  show Runs p e below _ (T1.setTop (mkF m 8 #[.val (.ref o0), .val (.int p1)] [(.int (p1 / (64 : Int32))), (.ref wa)]))
  obtain ⟨cl2, Ar2, -, S2, N2', H2⟩ := id G0
  have ix2 := own_ix (j := (p1 / (64 : Int32))) (z := z) (n := p1.toInt.toNat / 64) hd64 (by rw [hd64]; omega)
  have hin2 : ¬ ((p1 / (64 : Int32)) < 0 ∨ cl2.slots.size ≤ ((p1 / (64 : Int32))).toNatClampNeg) := inb_of S2 ix2.1
  have hat2 : cl2.slots[((p1 / (64 : Int32))).toNatClampNeg]? = some (.long (w (p1.toInt.toNat / 64))) := by rw [ix2.2.1]; exact H2 _ ix2.2.2
  refine Runs.by (fun t hr => X1.laload hx (j := (p1 / (64 : Int32))) (v := (.long (w (p1.toInt.toNat / 64)))) (by rw [e1]; exact Ar2.1) (State.isArrayOf_alike hZ.alike Ar2.2.1) Ar2.2.2 hin2 hat2 (g := (mkF m 8 #[.val (.ref o0), .val (.int p1)] [(.int (p1 / (64 : Int32))), (.ref wa)])) rfl rfl (hb hby d5_8) t hr) ?_
  show Runs p e below _ (T1.setTop (mkF m 9 #[.val (.ref o0), .val (.int p1)] [(.long (w (p1.toInt.toNat / 64)))]))
  refine Runs.by (fun _ hr => XS.lconst X1.here hx rfl (hb hby d5_9) hr) ?_
  show Runs p e below _ (T1.setTop (mkF m 10 #[.val (.ref o0), .val (.int p1)] [(.long (1 : Int64)), (.long (w (p1.toInt.toNat / 64)))]))
  refine Runs.by (fun _ hr => XS.iloadN X1.here hx rfl (hb hby d5_10) rfl  hr) ?_
  show Runs p e below _ (T1.setTop (mkF m 11 #[.val (.ref o0), .val (.int p1)] [(.int p1), (.long (1 : Int64)), (.long (w (p1.toInt.toNat / 64)))]))
  refine Runs.by (fun _ hr => XS.lshl X1.here hx rfl (hb hby d5_11) rfl hr) ?_
  show Runs p e below _ (T1.setTop (mkF m 12 #[.val (.ref o0), .val (.int p1)] [(.long ((1 : Int64) <<< (p1 &&& 0x3f).toInt64)), (.long (w (p1.toInt.toNat / 64)))]))
  refine Runs.by (fun _ hr => XS.land X1.here hx rfl (hb hby d5_12) rfl hr) ?_
  show Runs p e below _ (T1.setTop (mkF m 13 #[.val (.ref o0), .val (.int p1)] [(.long ((w (p1.toInt.toNat / 64)) &&& ((1 : Int64) <<< (p1 &&& 0x3f).toInt64)))]))
  refine Runs.by (fun _ hr => XS.lconst X1.here hx rfl (hb hby d5_13) hr) ?_
  show Runs p e below _ (T1.setTop (mkF m 14 #[.val (.ref o0), .val (.int p1)] [(.long (0 : Int64)), (.long ((w (p1.toInt.toNat / 64)) &&& ((1 : Int64) <<< (p1 &&& 0x3f).toInt64)))]))
  refine Runs.by (fun _ hr => XS.lcmp X1.here hx rfl (hb hby d5_14) rfl hr) ?_
  show Runs p e below _ (T1.setTop (mkF m 15 #[.val (.ref o0), .val (.int p1)] [(.int (lcmpW ((w (p1.toInt.toNat / 64)) &&& ((1 : Int64) <<< (p1 &&& 0x3f).toInt64)) (0 : Int64)))]))
  by_cases hc15 : (lcmpW ((w (p1.toInt.toNat / 64)) &&& ((1 : Int64) <<< (p1 &&& 0x3f).toInt64)) (0 : Int64)) = (0 : Int32)
  · -- pc 15: (lcmpW ((w (p1.toInt.toNat / 64)) &&& ((1 : Int64) <<< (p1 &&& 0x3f).toInt64)) (0 : Int64)) = (0 : Int32)
    refine Runs.by (fun _ hr => XS.ifYes X1.here hx rfl (pc0 := 15) (pc' := 22) rfl (hb hby d5_15) rfl ((if0 _ _).trans (teq hc15).1) (by decide) (by decide) hr) ?_
    show Runs p e below _ (T1.setTop (mkF m 22 #[.val (.ref o0), .val (.int p1)] []))
    refine Runs.by (fun _ hr => XS.iconst X1.here hx rfl (hb hby d5_22) hr) ?_
    show Runs p e below _ (T1.setTop (mkF m 23 #[.val (.ref o0), .val (.int p1)] [(.int (0 : Int32))]))
    refine Runs.ret X1 hx hrt hlk (Or.inl ⟨rfl, by simp, _, rfl⟩) (by rfl) (hb hby d5_23) (by decide) (by decide) ?_
    rw [e1]
    refine ⟨?_, N0, rfl⟩
    first
      | exact congrArg (fun z => some (Value.int z)) (if_pos (own_lc.mp hc15)).symm
      | exact congrArg (fun z => some (Value.int z)) (if_neg (fun q => hc15 (own_lc.mpr q))).symm
  · -- pc 15: not (lcmpW ((w (p1.toInt.toNat / 64)) &&& ((1 : Int64) <<< (p1 &&& 0x3f).toInt64)) (0 : Int64)) = (0 : Int32)
    refine Runs.by (fun _ hr => XS.ifNo X1.here hx rfl (hb hby d5_15) rfl ((if0 _ _).trans (feq hc15).1) hr) ?_
    show Runs p e below _ (T1.setTop (mkF m 18 #[.val (.ref o0), .val (.int p1)] []))
    refine Runs.by (fun _ hr => XS.iconst X1.here hx rfl (hb hby d5_18) hr) ?_
    show Runs p e below _ (T1.setTop (mkF m 19 #[.val (.ref o0), .val (.int p1)] [(.int (1 : Int32))]))
    refine Runs.by (fun _ hr => XS.goto X1.here hx rfl (pc0 := 19) (pc' := 23) rfl (hb hby d5_19) (by decide) (by decide) hr) ?_
    show Runs p e below _ (T1.setTop (mkF m 23 #[.val (.ref o0), .val (.int p1)] [(.int (1 : Int32))]))
    refine Runs.ret X1 hx hrt hlk (Or.inl ⟨rfl, by simp, _, rfl⟩) (by rfl) (hb hby d5_23) (by decide) (by decide) ?_
    rw [e1]
    refine ⟨?_, N0, rfl⟩
    first
      | exact congrArg (fun z => some (Value.int z)) (if_pos (own_lc.mp hc15)).symm
      | exact congrArg (fun z => some (Value.int z)) (if_neg (fun q => hc15 (own_lc.mpr q))).symm
theorem d8_0 : decode jdk_35_method_50_code 0 = .ok (.lload_n 0, 1) := by decide +kernel
theorem d8_1 : decode jdk_35_method_50_code 1 = .ok (.lload_n 0, 1) := by decide +kernel
theorem d8_2 : decode jdk_35_method_50_code 2 = .ok (.iconst 1, 1) := by decide +kernel
theorem d8_3 : decode jdk_35_method_50_code 3 = .ok (.lushr, 1) := by decide +kernel
theorem d8_4 : decode jdk_35_method_50_code 4 = .ok (.ldc2_w 314, 3) := by decide +kernel
theorem d8_7 : decode jdk_35_method_50_code 7 = .ok (.land, 1) := by decide +kernel
theorem d8_8 : decode jdk_35_method_50_code 8 = .ok (.lsub, 1) := by decide +kernel
theorem d8_9 : decode jdk_35_method_50_code 9 = .ok (.lstore_n 0, 1) := by decide +kernel
theorem d8_10 : decode jdk_35_method_50_code 10 = .ok (.lload_n 0, 1) := by decide +kernel
theorem d8_11 : decode jdk_35_method_50_code 11 = .ok (.ldc2_w 316, 3) := by decide +kernel
theorem d8_14 : decode jdk_35_method_50_code 14 = .ok (.land, 1) := by decide +kernel
theorem d8_15 : decode jdk_35_method_50_code 15 = .ok (.lload_n 0, 1) := by decide +kernel
theorem d8_16 : decode jdk_35_method_50_code 16 = .ok (.iconst 2, 1) := by decide +kernel
theorem d8_17 : decode jdk_35_method_50_code 17 = .ok (.lushr, 1) := by decide +kernel
theorem d8_18 : decode jdk_35_method_50_code 18 = .ok (.ldc2_w 316, 3) := by decide +kernel
theorem d8_21 : decode jdk_35_method_50_code 21 = .ok (.land, 1) := by decide +kernel
theorem d8_22 : decode jdk_35_method_50_code 22 = .ok (.ladd, 1) := by decide +kernel
theorem d8_23 : decode jdk_35_method_50_code 23 = .ok (.lstore_n 0, 1) := by decide +kernel
theorem d8_24 : decode jdk_35_method_50_code 24 = .ok (.lload_n 0, 1) := by decide +kernel
theorem d8_25 : decode jdk_35_method_50_code 25 = .ok (.lload_n 0, 1) := by decide +kernel
theorem d8_26 : decode jdk_35_method_50_code 26 = .ok (.iconst 4, 1) := by decide +kernel
theorem d8_27 : decode jdk_35_method_50_code 27 = .ok (.lushr, 1) := by decide +kernel
theorem d8_28 : decode jdk_35_method_50_code 28 = .ok (.ladd, 1) := by decide +kernel
theorem d8_29 : decode jdk_35_method_50_code 29 = .ok (.ldc2_w 318, 3) := by decide +kernel
theorem d8_32 : decode jdk_35_method_50_code 32 = .ok (.land, 1) := by decide +kernel
theorem d8_33 : decode jdk_35_method_50_code 33 = .ok (.lstore_n 0, 1) := by decide +kernel
theorem d8_34 : decode jdk_35_method_50_code 34 = .ok (.lload_n 0, 1) := by decide +kernel
theorem d8_35 : decode jdk_35_method_50_code 35 = .ok (.lload_n 0, 1) := by decide +kernel
theorem d8_36 : decode jdk_35_method_50_code 36 = .ok (.bipush 8, 2) := by decide +kernel
theorem d8_38 : decode jdk_35_method_50_code 38 = .ok (.lushr, 1) := by decide +kernel
theorem d8_39 : decode jdk_35_method_50_code 39 = .ok (.ladd, 1) := by decide +kernel
theorem d8_40 : decode jdk_35_method_50_code 40 = .ok (.lstore_n 0, 1) := by decide +kernel
theorem d8_41 : decode jdk_35_method_50_code 41 = .ok (.lload_n 0, 1) := by decide +kernel
theorem d8_42 : decode jdk_35_method_50_code 42 = .ok (.lload_n 0, 1) := by decide +kernel
theorem d8_43 : decode jdk_35_method_50_code 43 = .ok (.bipush 16, 2) := by decide +kernel
theorem d8_45 : decode jdk_35_method_50_code 45 = .ok (.lushr, 1) := by decide +kernel
theorem d8_46 : decode jdk_35_method_50_code 46 = .ok (.ladd, 1) := by decide +kernel
theorem d8_47 : decode jdk_35_method_50_code 47 = .ok (.lstore_n 0, 1) := by decide +kernel
theorem d8_48 : decode jdk_35_method_50_code 48 = .ok (.lload_n 0, 1) := by decide +kernel
theorem d8_49 : decode jdk_35_method_50_code 49 = .ok (.lload_n 0, 1) := by decide +kernel
theorem d8_50 : decode jdk_35_method_50_code 50 = .ok (.bipush 32, 2) := by decide +kernel
theorem d8_52 : decode jdk_35_method_50_code 52 = .ok (.lushr, 1) := by decide +kernel
theorem d8_53 : decode jdk_35_method_50_code 53 = .ok (.ladd, 1) := by decide +kernel
theorem d8_54 : decode jdk_35_method_50_code 54 = .ok (.lstore_n 0, 1) := by decide +kernel
theorem d8_55 : decode jdk_35_method_50_code 55 = .ok (.lload_n 0, 1) := by decide +kernel
theorem d8_56 : decode jdk_35_method_50_code 56 = .ok (.l2i, 1) := by decide +kernel
theorem d8_57 : decode jdk_35_method_50_code 57 = .ok (.bipush 127, 2) := by decide +kernel
theorem d8_59 : decode jdk_35_method_50_code 59 = .ok (.iand, 1) := by decide +kernel
theorem d8_60 : decode jdk_35_method_50_code 60 = .ok (.ireturn, 1) := by decide +kernel
theorem ef_8_4 (m : MethodId) (q0 : Int64) : entryFrame m #[(.long q0)] 2 = mkF m 0 #[.val (.long q0), .second] [] := by first | (simp [entryFrame, mkF, argsToLocals, Value.category]; done) | rfl
theorem pn_java_lang_Long : plainName "java/lang/Long" = true := by first | (simp [plainName, overriddenIn]; done) | decide +kernel
def Q_rm8 (Z : State) (q0 : Int64)  (h0 : Heap) (n0 : Nat) (v : Option Value) (h : Heap) (L : List Loc) : Prop := v = some (.int (own_bc q0)) ∧ Fr n0 L ∧ h = h0
set_option maxRecDepth 65536 in
set_option maxHeartbeats 40000000 in
theorem rm8 (l : Launch) (Z : State) (a0 : Array Value) (hw : ∀ d ∈ tables_1, d.before a0 Z = true) (ws : List Jvm.Cond) (q0 : Int64)  (h0 : Heap) (n0 : Nat) (Z0 : n0 ≤ h0.size) :
    MetFree l (⟨"java/lang/Long", "bitCount", "(J)I"⟩ : MethodName) (head1 (Jvm.Cond.code (⟨"java/lang/Long", "bitCount", "(J)I"⟩ : MethodName) jdk_35_method_50_code 2 (some .int) :: ws) ({ frames := 0, cells := 0, slots := 0, locals := 0 } : Room)) (fun a U => a = #[(.long q0)] ∧ Z.Warmed39 U.vm ∧ U.heap = h0) (fun _ _ _ _ _ => True) (fun _ U o U' => ∃ v L, o = .returned v ∧ Q_rm8 Z q0 h0 n0 v U'.heap L ∧ FrameEnd U o U' L ({ frames := 0, cells := 0, slots := 0, locals := 0 } : Room).cells ({ frames := 0, cells := 0, slots := 0, locals := 0 } : Room).slots) := by
  refine MetFree.of_bodySF (plainFor_of_name pn_java_lang_Long) hisR ?_
  intro p e s m args below meth c s₁ Bd hml0 hP hK
  obtain ⟨rfl, hZ, hh⟩ := hP
  have hx := Bd.exec
  have hby := Bd.bytes
  have hlk := BodyLoose.notSynchronized Bd
  have hrt := Bd.returns
  have hml : c.maxLocals = 2 := hml0
  have hown : s.vm.findClass "java/lang/Long" = some m.cls := findClass_of_methodNamed Bd.named
  have hnm := (name_of_methodNamed Bd.named Bd.method).1
  have X0 : Stand p l e ({ frames := 0, cells := 0, slots := 0, locals := 0 } : Room) s m #[(.long q0)] below meth c s₁ [] 0 0 := Stand.of_body Bd
  have e0 : s₁.heap = h0 := by rw [← hh, Bd.state]; rfl
  have N0 := Fr.nil n0
  have K0 : Keep h0 h0 [] := Keep.refl h0 _
  show Runs p e below (QE s (Q_rm8 Z q0 h0 n0) ({ frames := 0, cells := 0, slots := 0, locals := 0 } : Room).cells ({ frames := 0, cells := 0, slots := 0, locals := 0 } : Room).slots) (s₁.setTop (entryFrame m #[(.long q0)] 2))
  rw [ef_8_4 m q0]
  show Runs p e below _ (s₁.setTop (mkF m 0 #[.val (.long q0), .second] []))
  refine Runs.by (fun _ hr => XS.lloadN X0.here hx rfl (hb hby d8_0) rfl  hr) ?_
  show Runs p e below _ (s₁.setTop (mkF m 1 #[.val (.long q0), .second] [(.long q0)]))
  refine Runs.by (fun _ hr => XS.lloadN X0.here hx rfl (hb hby d8_1) rfl  hr) ?_
  show Runs p e below _ (s₁.setTop (mkF m 2 #[.val (.long q0), .second] [(.long q0), (.long q0)]))
  refine Runs.by (fun _ hr => XS.iconst X0.here hx rfl (hb hby d8_2) hr) ?_
  show Runs p e below _ (s₁.setTop (mkF m 3 #[.val (.long q0), .second] [(.int (1 : Int32)), (.long q0), (.long q0)]))
  refine Runs.by (fun _ hr => XS.lushr X0.here hx rfl (hb hby d8_3) rfl hr) ?_
  show Runs p e below _ (s₁.setTop (mkF m 4 #[.val (.long q0), .second] [(.long ((q0.toUInt64 >>> ((1 : Int32) &&& 0x3f).toInt64.toUInt64).toInt64)), (.long q0)]))
  refine Runs.by (fun _ hr => X0.ldc2J hx hown (mvT hZ (hw _ (List.mem_of_getElem? (i := 45) rfl))) (g := (mkF m 4 #[.val (.long q0), .second] [(.long ((q0.toUInt64 >>> ((1 : Int32) &&& 0x3f).toInt64.toUInt64).toInt64)), (.long q0)])) rfl (hb hby d8_4) hr) ?_
  show Runs p e below _ (s₁.setTop (mkF m 7 #[.val (.long q0), .second] [(.long (6148914691236517205 : Int64)), (.long ((q0.toUInt64 >>> ((1 : Int32) &&& 0x3f).toInt64.toUInt64).toInt64)), (.long q0)]))
  refine Runs.by (fun _ hr => XS.land X0.here hx rfl (hb hby d8_7) rfl hr) ?_
  show Runs p e below _ (s₁.setTop (mkF m 8 #[.val (.long q0), .second] [(.long (((q0.toUInt64 >>> ((1 : Int32) &&& 0x3f).toInt64.toUInt64).toInt64) &&& (6148914691236517205 : Int64))), (.long q0)]))
  refine Runs.by (fun _ hr => XS.lsub X0.here hx rfl (hb hby d8_8) rfl hr) ?_
  show Runs p e below _ (s₁.setTop (mkF m 9 #[.val (.long q0), .second] [(.long (q0 - (((q0.toUInt64 >>> ((1 : Int32) &&& 0x3f).toInt64.toUInt64).toInt64) &&& (6148914691236517205 : Int64))))]))
  refine Runs.by (fun _ hr => XS.lstoreN X0.here hx rfl (hb hby d8_9) rfl (l' := #[.val (.long (q0 - (((q0.toUInt64 >>> ((1 : Int32) &&& 0x3f).toInt64.toUInt64).toInt64) &&& (6148914691236517205 : Int64)))), .second]) rfl hr) ?_
  show Runs p e below _ (s₁.setTop (mkF m 10 #[.val (.long (own_b1 q0)), .second] []))
  refine Runs.by (fun _ hr => XS.lloadN X0.here hx rfl (hb hby d8_10) rfl  hr) ?_
  show Runs p e below _ (s₁.setTop (mkF m 11 #[.val (.long (own_b1 q0)), .second] [(.long (own_b1 q0))]))
  refine Runs.by (fun _ hr => X0.ldc2J hx hown (mvT hZ (hw _ (List.mem_of_getElem? (i := 46) rfl))) (g := (mkF m 11 #[.val (.long (own_b1 q0)), .second] [(.long (own_b1 q0))])) rfl (hb hby d8_11) hr) ?_
  show Runs p e below _ (s₁.setTop (mkF m 14 #[.val (.long (own_b1 q0)), .second] [(.long (3689348814741910323 : Int64)), (.long (own_b1 q0))]))
  refine Runs.by (fun _ hr => XS.land X0.here hx rfl (hb hby d8_14) rfl hr) ?_
  show Runs p e below _ (s₁.setTop (mkF m 15 #[.val (.long (own_b1 q0)), .second] [(.long ((own_b1 q0) &&& (3689348814741910323 : Int64)))]))
  refine Runs.by (fun _ hr => XS.lloadN X0.here hx rfl (hb hby d8_15) rfl  hr) ?_
  show Runs p e below _ (s₁.setTop (mkF m 16 #[.val (.long (own_b1 q0)), .second] [(.long (own_b1 q0)), (.long ((own_b1 q0) &&& (3689348814741910323 : Int64)))]))
  refine Runs.by (fun _ hr => XS.iconst X0.here hx rfl (hb hby d8_16) hr) ?_
  show Runs p e below _ (s₁.setTop (mkF m 17 #[.val (.long (own_b1 q0)), .second] [(.int (2 : Int32)), (.long (own_b1 q0)), (.long ((own_b1 q0) &&& (3689348814741910323 : Int64)))]))
  refine Runs.by (fun _ hr => XS.lushr X0.here hx rfl (hb hby d8_17) rfl hr) ?_
  show Runs p e below _ (s₁.setTop (mkF m 18 #[.val (.long (own_b1 q0)), .second] [(.long (((own_b1 q0).toUInt64 >>> ((2 : Int32) &&& 0x3f).toInt64.toUInt64).toInt64)), (.long ((own_b1 q0) &&& (3689348814741910323 : Int64)))]))
  refine Runs.by (fun _ hr => X0.ldc2J hx hown (mvT hZ (hw _ (List.mem_of_getElem? (i := 46) rfl))) (g := (mkF m 18 #[.val (.long (own_b1 q0)), .second] [(.long (((own_b1 q0).toUInt64 >>> ((2 : Int32) &&& 0x3f).toInt64.toUInt64).toInt64)), (.long ((own_b1 q0) &&& (3689348814741910323 : Int64)))])) rfl (hb hby d8_18) hr) ?_
  show Runs p e below _ (s₁.setTop (mkF m 21 #[.val (.long (own_b1 q0)), .second] [(.long (3689348814741910323 : Int64)), (.long (((own_b1 q0).toUInt64 >>> ((2 : Int32) &&& 0x3f).toInt64.toUInt64).toInt64)), (.long ((own_b1 q0) &&& (3689348814741910323 : Int64)))]))
  refine Runs.by (fun _ hr => XS.land X0.here hx rfl (hb hby d8_21) rfl hr) ?_
  show Runs p e below _ (s₁.setTop (mkF m 22 #[.val (.long (own_b1 q0)), .second] [(.long ((((own_b1 q0).toUInt64 >>> ((2 : Int32) &&& 0x3f).toInt64.toUInt64).toInt64) &&& (3689348814741910323 : Int64))), (.long ((own_b1 q0) &&& (3689348814741910323 : Int64)))]))
  refine Runs.by (fun _ hr => XS.ladd X0.here hx rfl (hb hby d8_22) rfl hr) ?_
  show Runs p e below _ (s₁.setTop (mkF m 23 #[.val (.long (own_b1 q0)), .second] [(.long (((own_b1 q0) &&& (3689348814741910323 : Int64)) + ((((own_b1 q0).toUInt64 >>> ((2 : Int32) &&& 0x3f).toInt64.toUInt64).toInt64) &&& (3689348814741910323 : Int64))))]))
  refine Runs.by (fun _ hr => XS.lstoreN X0.here hx rfl (hb hby d8_23) rfl (l' := #[.val (.long (((own_b1 q0) &&& (3689348814741910323 : Int64)) + ((((own_b1 q0).toUInt64 >>> ((2 : Int32) &&& 0x3f).toInt64.toUInt64).toInt64) &&& (3689348814741910323 : Int64)))), .second]) rfl hr) ?_
  show Runs p e below _ (s₁.setTop (mkF m 24 #[.val (.long (own_b2 (own_b1 q0))), .second] []))
  refine Runs.by (fun _ hr => XS.lloadN X0.here hx rfl (hb hby d8_24) rfl  hr) ?_
  show Runs p e below _ (s₁.setTop (mkF m 25 #[.val (.long (own_b2 (own_b1 q0))), .second] [(.long (own_b2 (own_b1 q0)))]))
  refine Runs.by (fun _ hr => XS.lloadN X0.here hx rfl (hb hby d8_25) rfl  hr) ?_
  show Runs p e below _ (s₁.setTop (mkF m 26 #[.val (.long (own_b2 (own_b1 q0))), .second] [(.long (own_b2 (own_b1 q0))), (.long (own_b2 (own_b1 q0)))]))
  refine Runs.by (fun _ hr => XS.iconst X0.here hx rfl (hb hby d8_26) hr) ?_
  show Runs p e below _ (s₁.setTop (mkF m 27 #[.val (.long (own_b2 (own_b1 q0))), .second] [(.int (4 : Int32)), (.long (own_b2 (own_b1 q0))), (.long (own_b2 (own_b1 q0)))]))
  refine Runs.by (fun _ hr => XS.lushr X0.here hx rfl (hb hby d8_27) rfl hr) ?_
  show Runs p e below _ (s₁.setTop (mkF m 28 #[.val (.long (own_b2 (own_b1 q0))), .second] [(.long (((own_b2 (own_b1 q0)).toUInt64 >>> ((4 : Int32) &&& 0x3f).toInt64.toUInt64).toInt64)), (.long (own_b2 (own_b1 q0)))]))
  refine Runs.by (fun _ hr => XS.ladd X0.here hx rfl (hb hby d8_28) rfl hr) ?_
  show Runs p e below _ (s₁.setTop (mkF m 29 #[.val (.long (own_b2 (own_b1 q0))), .second] [(.long ((own_b2 (own_b1 q0)) + (((own_b2 (own_b1 q0)).toUInt64 >>> ((4 : Int32) &&& 0x3f).toInt64.toUInt64).toInt64)))]))
  refine Runs.by (fun _ hr => X0.ldc2J hx hown (mvT hZ (hw _ (List.mem_of_getElem? (i := 47) rfl))) (g := (mkF m 29 #[.val (.long (own_b2 (own_b1 q0))), .second] [(.long ((own_b2 (own_b1 q0)) + (((own_b2 (own_b1 q0)).toUInt64 >>> ((4 : Int32) &&& 0x3f).toInt64.toUInt64).toInt64)))])) rfl (hb hby d8_29) hr) ?_
  show Runs p e below _ (s₁.setTop (mkF m 32 #[.val (.long (own_b2 (own_b1 q0))), .second] [(.long (1085102592571150095 : Int64)), (.long ((own_b2 (own_b1 q0)) + (((own_b2 (own_b1 q0)).toUInt64 >>> ((4 : Int32) &&& 0x3f).toInt64.toUInt64).toInt64)))]))
  refine Runs.by (fun _ hr => XS.land X0.here hx rfl (hb hby d8_32) rfl hr) ?_
  show Runs p e below _ (s₁.setTop (mkF m 33 #[.val (.long (own_b2 (own_b1 q0))), .second] [(.long (((own_b2 (own_b1 q0)) + (((own_b2 (own_b1 q0)).toUInt64 >>> ((4 : Int32) &&& 0x3f).toInt64.toUInt64).toInt64)) &&& (1085102592571150095 : Int64)))]))
  refine Runs.by (fun _ hr => XS.lstoreN X0.here hx rfl (hb hby d8_33) rfl (l' := #[.val (.long (((own_b2 (own_b1 q0)) + (((own_b2 (own_b1 q0)).toUInt64 >>> ((4 : Int32) &&& 0x3f).toInt64.toUInt64).toInt64)) &&& (1085102592571150095 : Int64))), .second]) rfl hr) ?_
  show Runs p e below _ (s₁.setTop (mkF m 34 #[.val (.long (own_b3 (own_b2 (own_b1 q0)))), .second] []))
  refine Runs.by (fun _ hr => XS.lloadN X0.here hx rfl (hb hby d8_34) rfl  hr) ?_
  show Runs p e below _ (s₁.setTop (mkF m 35 #[.val (.long (own_b3 (own_b2 (own_b1 q0)))), .second] [(.long (own_b3 (own_b2 (own_b1 q0))))]))
  refine Runs.by (fun _ hr => XS.lloadN X0.here hx rfl (hb hby d8_35) rfl  hr) ?_
  show Runs p e below _ (s₁.setTop (mkF m 36 #[.val (.long (own_b3 (own_b2 (own_b1 q0)))), .second] [(.long (own_b3 (own_b2 (own_b1 q0)))), (.long (own_b3 (own_b2 (own_b1 q0))))]))
  refine Runs.by (fun _ hr => XS.bipush X0.here hx rfl (hb hby d8_36) hr) ?_
  show Runs p e below _ (s₁.setTop (mkF m 38 #[.val (.long (own_b3 (own_b2 (own_b1 q0)))), .second] [(.int (8 : Int32)), (.long (own_b3 (own_b2 (own_b1 q0)))), (.long (own_b3 (own_b2 (own_b1 q0))))]))
  refine Runs.by (fun _ hr => XS.lushr X0.here hx rfl (hb hby d8_38) rfl hr) ?_
  show Runs p e below _ (s₁.setTop (mkF m 39 #[.val (.long (own_b3 (own_b2 (own_b1 q0)))), .second] [(.long (((own_b3 (own_b2 (own_b1 q0))).toUInt64 >>> ((8 : Int32) &&& 0x3f).toInt64.toUInt64).toInt64)), (.long (own_b3 (own_b2 (own_b1 q0))))]))
  refine Runs.by (fun _ hr => XS.ladd X0.here hx rfl (hb hby d8_39) rfl hr) ?_
  show Runs p e below _ (s₁.setTop (mkF m 40 #[.val (.long (own_b3 (own_b2 (own_b1 q0)))), .second] [(.long ((own_b3 (own_b2 (own_b1 q0))) + (((own_b3 (own_b2 (own_b1 q0))).toUInt64 >>> ((8 : Int32) &&& 0x3f).toInt64.toUInt64).toInt64)))]))
  refine Runs.by (fun _ hr => XS.lstoreN X0.here hx rfl (hb hby d8_40) rfl (l' := #[.val (.long ((own_b3 (own_b2 (own_b1 q0))) + (((own_b3 (own_b2 (own_b1 q0))).toUInt64 >>> ((8 : Int32) &&& 0x3f).toInt64.toUInt64).toInt64))), .second]) rfl hr) ?_
  show Runs p e below _ (s₁.setTop (mkF m 41 #[.val (.long (own_b4 (own_b3 (own_b2 (own_b1 q0))))), .second] []))
  refine Runs.by (fun _ hr => XS.lloadN X0.here hx rfl (hb hby d8_41) rfl  hr) ?_
  show Runs p e below _ (s₁.setTop (mkF m 42 #[.val (.long (own_b4 (own_b3 (own_b2 (own_b1 q0))))), .second] [(.long (own_b4 (own_b3 (own_b2 (own_b1 q0)))))]))
  refine Runs.by (fun _ hr => XS.lloadN X0.here hx rfl (hb hby d8_42) rfl  hr) ?_
  show Runs p e below _ (s₁.setTop (mkF m 43 #[.val (.long (own_b4 (own_b3 (own_b2 (own_b1 q0))))), .second] [(.long (own_b4 (own_b3 (own_b2 (own_b1 q0))))), (.long (own_b4 (own_b3 (own_b2 (own_b1 q0)))))]))
  refine Runs.by (fun _ hr => XS.bipush X0.here hx rfl (hb hby d8_43) hr) ?_
  show Runs p e below _ (s₁.setTop (mkF m 45 #[.val (.long (own_b4 (own_b3 (own_b2 (own_b1 q0))))), .second] [(.int (16 : Int32)), (.long (own_b4 (own_b3 (own_b2 (own_b1 q0))))), (.long (own_b4 (own_b3 (own_b2 (own_b1 q0)))))]))
  refine Runs.by (fun _ hr => XS.lushr X0.here hx rfl (hb hby d8_45) rfl hr) ?_
  show Runs p e below _ (s₁.setTop (mkF m 46 #[.val (.long (own_b4 (own_b3 (own_b2 (own_b1 q0))))), .second] [(.long (((own_b4 (own_b3 (own_b2 (own_b1 q0)))).toUInt64 >>> ((16 : Int32) &&& 0x3f).toInt64.toUInt64).toInt64)), (.long (own_b4 (own_b3 (own_b2 (own_b1 q0)))))]))
  refine Runs.by (fun _ hr => XS.ladd X0.here hx rfl (hb hby d8_46) rfl hr) ?_
  show Runs p e below _ (s₁.setTop (mkF m 47 #[.val (.long (own_b4 (own_b3 (own_b2 (own_b1 q0))))), .second] [(.long ((own_b4 (own_b3 (own_b2 (own_b1 q0)))) + (((own_b4 (own_b3 (own_b2 (own_b1 q0)))).toUInt64 >>> ((16 : Int32) &&& 0x3f).toInt64.toUInt64).toInt64)))]))
  refine Runs.by (fun _ hr => XS.lstoreN X0.here hx rfl (hb hby d8_47) rfl (l' := #[.val (.long ((own_b4 (own_b3 (own_b2 (own_b1 q0)))) + (((own_b4 (own_b3 (own_b2 (own_b1 q0)))).toUInt64 >>> ((16 : Int32) &&& 0x3f).toInt64.toUInt64).toInt64))), .second]) rfl hr) ?_
  show Runs p e below _ (s₁.setTop (mkF m 48 #[.val (.long (own_b5 (own_b4 (own_b3 (own_b2 (own_b1 q0)))))), .second] []))
  refine Runs.by (fun _ hr => XS.lloadN X0.here hx rfl (hb hby d8_48) rfl  hr) ?_
  show Runs p e below _ (s₁.setTop (mkF m 49 #[.val (.long (own_b5 (own_b4 (own_b3 (own_b2 (own_b1 q0)))))), .second] [(.long (own_b5 (own_b4 (own_b3 (own_b2 (own_b1 q0))))))]))
  refine Runs.by (fun _ hr => XS.lloadN X0.here hx rfl (hb hby d8_49) rfl  hr) ?_
  show Runs p e below _ (s₁.setTop (mkF m 50 #[.val (.long (own_b5 (own_b4 (own_b3 (own_b2 (own_b1 q0)))))), .second] [(.long (own_b5 (own_b4 (own_b3 (own_b2 (own_b1 q0)))))), (.long (own_b5 (own_b4 (own_b3 (own_b2 (own_b1 q0))))))]))
  refine Runs.by (fun _ hr => XS.bipush X0.here hx rfl (hb hby d8_50) hr) ?_
  show Runs p e below _ (s₁.setTop (mkF m 52 #[.val (.long (own_b5 (own_b4 (own_b3 (own_b2 (own_b1 q0)))))), .second] [(.int (32 : Int32)), (.long (own_b5 (own_b4 (own_b3 (own_b2 (own_b1 q0)))))), (.long (own_b5 (own_b4 (own_b3 (own_b2 (own_b1 q0))))))]))
  refine Runs.by (fun _ hr => XS.lushr X0.here hx rfl (hb hby d8_52) rfl hr) ?_
  show Runs p e below _ (s₁.setTop (mkF m 53 #[.val (.long (own_b5 (own_b4 (own_b3 (own_b2 (own_b1 q0)))))), .second] [(.long (((own_b5 (own_b4 (own_b3 (own_b2 (own_b1 q0))))).toUInt64 >>> ((32 : Int32) &&& 0x3f).toInt64.toUInt64).toInt64)), (.long (own_b5 (own_b4 (own_b3 (own_b2 (own_b1 q0))))))]))
  refine Runs.by (fun _ hr => XS.ladd X0.here hx rfl (hb hby d8_53) rfl hr) ?_
  show Runs p e below _ (s₁.setTop (mkF m 54 #[.val (.long (own_b5 (own_b4 (own_b3 (own_b2 (own_b1 q0)))))), .second] [(.long ((own_b5 (own_b4 (own_b3 (own_b2 (own_b1 q0))))) + (((own_b5 (own_b4 (own_b3 (own_b2 (own_b1 q0))))).toUInt64 >>> ((32 : Int32) &&& 0x3f).toInt64.toUInt64).toInt64)))]))
  refine Runs.by (fun _ hr => XS.lstoreN X0.here hx rfl (hb hby d8_54) rfl (l' := #[.val (.long ((own_b5 (own_b4 (own_b3 (own_b2 (own_b1 q0))))) + (((own_b5 (own_b4 (own_b3 (own_b2 (own_b1 q0))))).toUInt64 >>> ((32 : Int32) &&& 0x3f).toInt64.toUInt64).toInt64))), .second]) rfl hr) ?_
  show Runs p e below _ (s₁.setTop (mkF m 55 #[.val (.long (own_b6 (own_b5 (own_b4 (own_b3 (own_b2 (own_b1 q0))))))), .second] []))
  refine Runs.by (fun _ hr => XS.lloadN X0.here hx rfl (hb hby d8_55) rfl  hr) ?_
  show Runs p e below _ (s₁.setTop (mkF m 56 #[.val (.long (own_b6 (own_b5 (own_b4 (own_b3 (own_b2 (own_b1 q0))))))), .second] [(.long (own_b6 (own_b5 (own_b4 (own_b3 (own_b2 (own_b1 q0)))))))]))
  refine Runs.by (fun _ hr => XS.l2i X0.here hx rfl (hb hby d8_56) rfl hr) ?_
  show Runs p e below _ (s₁.setTop (mkF m 57 #[.val (.long (own_b6 (own_b5 (own_b4 (own_b3 (own_b2 (own_b1 q0))))))), .second] [(.int ((own_b6 (own_b5 (own_b4 (own_b3 (own_b2 (own_b1 q0)))))).toInt32))]))
  refine Runs.by (fun _ hr => XS.bipush X0.here hx rfl (hb hby d8_57) hr) ?_
  show Runs p e below _ (s₁.setTop (mkF m 59 #[.val (.long (own_b6 (own_b5 (own_b4 (own_b3 (own_b2 (own_b1 q0))))))), .second] [(.int (127 : Int32)), (.int ((own_b6 (own_b5 (own_b4 (own_b3 (own_b2 (own_b1 q0)))))).toInt32))]))
  refine Runs.by (fun _ hr => XS.iand X0.here hx rfl (hb hby d8_59) rfl hr) ?_
  show Runs p e below _ (s₁.setTop (mkF m 60 #[.val (.long (own_b6 (own_b5 (own_b4 (own_b3 (own_b2 (own_b1 q0))))))), .second] [(.int (((own_b6 (own_b5 (own_b4 (own_b3 (own_b2 (own_b1 q0)))))).toInt32) &&& (127 : Int32)))]))
  refine Runs.ret X0 hx hrt hlk (Or.inl ⟨rfl, by simp, _, rfl⟩) rfl (hb hby d8_60) (by decide) (by decide) ?_
  rw [e0]
  exact ⟨rfl, N0, rfl⟩
theorem d6_0 : decode prog_41_method_6_code 0 = .ok (.aload_n 0, 1) := by decide +kernel
theorem d6_1 : decode prog_41_method_6_code 1 = .ok (.aload_n 0, 1) := by decide +kernel
theorem d6_2 : decode prog_41_method_6_code 2 = .ok (.getfield 13, 3) := by decide +kernel
theorem d6_5 : decode prog_41_method_6_code 5 = .ok (.arraylength, 1) := by decide +kernel
theorem d6_6 : decode prog_41_method_6_code 6 = .ok (.newarray .int, 2) := by decide +kernel
theorem d6_8 : decode prog_41_method_6_code 8 = .ok (.putfield 22, 3) := by decide +kernel
theorem d6_11 : decode prog_41_method_6_code 11 = .ok (.iconst 1, 1) := by decide +kernel
theorem d6_12 : decode prog_41_method_6_code 12 = .ok (.istore_n 1, 1) := by decide +kernel
theorem d6_13 : decode prog_41_method_6_code 13 = .ok (.iload_n 1, 1) := by decide +kernel
theorem d6_14 : decode prog_41_method_6_code 14 = .ok (.aload_n 0, 1) := by decide +kernel
theorem d6_15 : decode prog_41_method_6_code 15 = .ok (.getfield 13, 3) := by decide +kernel
theorem d6_18 : decode prog_41_method_6_code 18 = .ok (.arraylength, 1) := by decide +kernel
theorem d6_19 : decode prog_41_method_6_code 19 = .ok (.if_icmp .ge 35, 3) := by decide +kernel
theorem d6_22 : decode prog_41_method_6_code 22 = .ok (.aload_n 0, 1) := by decide +kernel
theorem d6_23 : decode prog_41_method_6_code 23 = .ok (.getfield 22, 3) := by decide +kernel
theorem d6_26 : decode prog_41_method_6_code 26 = .ok (.iload_n 1, 1) := by decide +kernel
theorem d6_27 : decode prog_41_method_6_code 27 = .ok (.aload_n 0, 1) := by decide +kernel
theorem d6_28 : decode prog_41_method_6_code 28 = .ok (.getfield 22, 3) := by decide +kernel
theorem d6_31 : decode prog_41_method_6_code 31 = .ok (.iload_n 1, 1) := by decide +kernel
theorem d6_32 : decode prog_41_method_6_code 32 = .ok (.iconst 1, 1) := by decide +kernel
theorem d6_33 : decode prog_41_method_6_code 33 = .ok (.isub, 1) := by decide +kernel
theorem d6_34 : decode prog_41_method_6_code 34 = .ok (.iaload, 1) := by decide +kernel
theorem d6_35 : decode prog_41_method_6_code 35 = .ok (.aload_n 0, 1) := by decide +kernel
theorem d6_36 : decode prog_41_method_6_code 36 = .ok (.getfield 13, 3) := by decide +kernel
theorem d6_39 : decode prog_41_method_6_code 39 = .ok (.iload_n 1, 1) := by decide +kernel
theorem d6_40 : decode prog_41_method_6_code 40 = .ok (.iconst 1, 1) := by decide +kernel
theorem d6_41 : decode prog_41_method_6_code 41 = .ok (.isub, 1) := by decide +kernel
theorem d6_42 : decode prog_41_method_6_code 42 = .ok (.laload, 1) := by decide +kernel
theorem d6_43 : decode prog_41_method_6_code 43 = .ok (.invokestatic 26, 3) := by decide +kernel
theorem d6_46 : decode prog_41_method_6_code 46 = .ok (.iadd, 1) := by decide +kernel
theorem d6_47 : decode prog_41_method_6_code 47 = .ok (.iastore, 1) := by decide +kernel
theorem d6_48 : decode prog_41_method_6_code 48 = .ok (.iinc 1 1, 3) := by decide +kernel
theorem d6_51 : decode prog_41_method_6_code 51 = .ok (.goto (-38), 3) := by decide +kernel
theorem d6_54 : decode prog_41_method_6_code 54 = .ok (.return_, 1) := by decide +kernel
theorem ef_6_5 (m : MethodId) (o0 : Addr) : entryFrame m #[(.ref o0)] 2 = mkF m 0 #[.val (.ref o0), .unset] [] := by first | (simp [entryFrame, mkF, argsToLocals, Value.category]; done) | rfl
def Q_rm6 (Z : State) (o0 : Addr) (wa : Addr) (k : ClassId) (z : Int32) (w : Nat → Int64) (cc : Int32) (h0 : Heap) (n0 : Nat) (v : Option Value) (h : Heap) (L : List Loc) : Prop := v = none ∧ Fr n0 L ∧ Keep h0 h [o0] ∧ Exa Z h o0 "com/example/threshold/threshold/engine/UnitBits" ∧ Fld Z h o0 "com/example/threshold/threshold/engine/UnitBits" "words" "[J" (.ref wa) ∧ Fld Z h o0 "com/example/threshold/threshold/engine/UnitBits" "count" "I" (.int cc) ∧ ∃ (b : Addr) (kb : ClassId), n0 ≤ b ∧ h0.size ≤ b ∧ Fld Z h o0 "com/example/threshold/threshold/engine/UnitBits" "before" "[I" (.ref b) ∧ Arf Z h b kb .int z (fun i => .int (own_pre w i))
theorem pd_1 : parseMethodDescriptor "(J)I" = some ⟨[.long], some .int⟩ := by decide +kernel
set_option maxRecDepth 65536 in
set_option maxHeartbeats 40000000 in
theorem rm6 (l : Launch) (Z : State) (a0 : Array Value) (hw : ∀ d ∈ tables_1, d.before a0 Z = true) (ws : List Jvm.Cond) (o0 : Addr) (wa : Addr) (k : ClassId) (z : Int32) (w : Nat → Int64) (cc : Int32) (h0 : Heap) (n0 : Nat) (Z0 : n0 ≤ h0.size) (E0 : Exa Z h0 o0 "com/example/threshold/threshold/engine/UnitBits") (Fw : Fld Z h0 o0 "com/example/threshold/threshold/engine/UnitBits" "words" "[J" (.ref wa)) (Fc : Fld Z h0 o0 "com/example/threshold/threshold/engine/UnitBits" "count" "I" (.int cc)) (Fb : Fld Z h0 o0 "com/example/threshold/threshold/engine/UnitBits" "before" "[I" .null) (G0 : Arf Z h0 wa k .long z (fun i => .long (w i))) (ne0 : wa ≠ o0) (g_o0 : n0 ≤ o0) (hz : 1 ≤ z.toInt ∧ z.toInt ≤ 5) :
    MetFree l (⟨"com/example/threshold/threshold/engine/UnitBits", "countRanks", "()V"⟩ : MethodName) (head1 (Jvm.Cond.code (⟨"com/example/threshold/threshold/engine/UnitBits", "countRanks", "()V"⟩ : MethodName) prog_41_method_6_code 2 none :: ws) ({ frames := 1, cells := 1, slots := 5, locals := 16 } : Room)) (fun a U => a = #[(.ref o0)] ∧ Z.Warmed39 U.vm ∧ U.heap = h0) (fun _ _ _ _ _ => True) (fun _ U o U' => ∃ v L, o = .returned v ∧ Q_rm6 Z o0 wa k z w cc h0 n0 v U'.heap L ∧ FrameEnd U o U' L ({ frames := 1, cells := 1, slots := 5, locals := 16 } : Room).cells ({ frames := 1, cells := 1, slots := 5, locals := 16 } : Room).slots) := by
  refine MetFree.of_bodySF (plainFor_of_name pn_com_example_threshold_threshold_engine_UnitBits) hisR ?_
  intro p e s m args below meth c s₁ Bd hml0 hP hK
  obtain ⟨rfl, hZ, hh⟩ := hP
  have hx := Bd.exec
  have hby := Bd.bytes
  have hlk := BodyLoose.notSynchronized Bd
  have hrt := Bd.returns
  have hml : c.maxLocals = 2 := hml0
  have hown : s.vm.findClass "com/example/threshold/threshold/engine/UnitBits" = some m.cls := findClass_of_methodNamed Bd.named
  have hnm := (name_of_methodNamed Bd.named Bd.method).1
  have X0 : Stand p l e ({ frames := 1, cells := 1, slots := 5, locals := 16 } : Room) s m #[(.ref o0)] below meth c s₁ [] 0 0 := Stand.of_body Bd
  have e0 : s₁.heap = h0 := by rw [← hh, Bd.state]; rfl
  have N0 := Fr.nil n0
  have K0 : Keep h0 h0 [o0] := Keep.refl h0 _
  show Runs p e below (QE s (Q_rm6 Z o0 wa k z w cc h0 n0) ({ frames := 1, cells := 1, slots := 5, locals := 16 } : Room).cells ({ frames := 1, cells := 1, slots := 5, locals := 16 } : Room).slots) (s₁.setTop (entryFrame m #[(.ref o0)] 2))
  rw [ef_6_5 m o0]
  have t1 : (1 : Int32).toInt = 1 := by decide
  show Runs p e below _ (s₁.setTop (mkF m 0 #[.val (.ref o0), .unset] []))
  refine Runs.by (fun _ hr => XS.aloadN X0.here hx rfl (hb hby d6_0) rfl rfl hr) ?_
  show Runs p e below _ (s₁.setTop (mkF m 1 #[.val (.ref o0), .unset] [(.ref o0)]))
  refine Runs.by (fun _ hr => XS.aloadN X0.here hx rfl (hb hby d6_1) rfl rfl hr) ?_
  show Runs p e below _ (s₁.setTop (mkF m 2 #[.val (.ref o0), .unset] [(.ref o0), (.ref o0)]))
  obtain ⟨T1, X1, e1, st1⟩ := getF X0 hx hZ hown (host := "") (Or.inl (hw _ (List.mem_of_getElem? (i := 14) rfl))) Via.refl e0 Fw (g := (mkF m 2 #[.val (.ref o0), .unset] [(.ref o0), (.ref o0)])) rfl rfl (hb hby d6_2)
  refine Runs.by st1 ?_
  show Runs p e below _ (T1.setTop (mkF m 5 #[.val (.ref o0), .unset] [(.ref wa), (.ref o0)]))
  obtain ⟨cl2, Ar2, -, S2, N2', -⟩ := id G0
  refine Runs.by (fun t hr => X1.arraylength hx (by rw [e1]; exact Ar2.1) (State.isArrayOf_alike hZ.alike Ar2.2.1) (g := (mkF m 5 #[.val (.ref o0), .unset] [(.ref wa), (.ref o0)])) rfl rfl (hb hby d6_5) t hr) ?_
  rw [len_of S2 N2']
  show Runs p e below _ (T1.setTop (mkF m 6 #[.val (.ref o0), .unset] [(.int z), (.ref o0)]))
  obtain ⟨T3, h3, k3, X3, e3, E3, A3, st3⟩ := newP X1 hx hZ (hw _ (List.mem_of_getElem? (i := 33) rfl)) e1 (g := (mkF m 6 #[.val (.ref o0), .unset] [(.int z), (.ref o0)])) rfl (hb hby d6_6) rfl (own_nneg (by omega)) (cap := 5) (own_cap (by omega)) (by decide) (by decide) (by decide)
  obtain ⟨b3, gz3⟩ : ∃ z, z = h0.size := ⟨_, rfl⟩
  rw [← gz3] at A3 st3
  have ne_o0_b3 : o0 ≠ b3 := Nat.ne_of_lt (Nat.lt_of_lt_of_le E0.lt (Nat.le_of_eq gz3.symm))
  have ne_wa_b3 : wa ≠ b3 := Nat.ne_of_lt (Nat.lt_of_lt_of_le G0.lt (Nat.le_of_eq gz3.symm))
  have g_b3 : n0 ≤ b3 := Nat.le_trans (Nat.le_trans Z0 K0.1) (Nat.le_of_eq gz3.symm)
  have sz_b3 : h0.size ≤ b3 := Nat.le_trans K0.1 (Nat.le_of_eq gz3.symm)
  have K4 : Keep h0 h3 [o0] := K0.ext E3
  have G3 : Arf Z h3 b3 k3 .int z (fun j_ => .int ((fun _ => (0 : Int32)) j_)) := Arf.new A3 (own_nneg (by omega))
  refine Runs.by st3 ?_
  show Runs p e below _ (T3.setTop (mkF m 8 #[.val (.ref o0), .unset] [(.ref b3), (.ref o0)]))
  obtain ⟨T5, h5, X5, e5, W5, st5⟩ := putF X3 hx hZ hown (host := "") (Or.inl (hw _ (List.mem_of_getElem? (i := 34) rfl))) Via.refl e3 (Fb.ext E3) (E0.ext E3) (Or.inl (hw _ (List.mem_of_getElem? (i := 35) rfl))) (hw _ (List.mem_of_getElem? (i := 2) rfl)) (ty := (.array .int)) (by decide) rfl rfl (g := (mkF m 8 #[.val (.ref o0), .unset] [(.ref b3), (.ref o0)])) rfl rfl (hb hby d6_8)
  have Fw5 := (Fb.ext E3).same W5
  have K6 : Keep h0 h5 [o0] := K4.wr W5 (Or.inl (List.mem_of_getElem? (i := 0) rfl))
  have N5 := Fr.snoc X5 N0 g_o0
  refine Runs.by st5 ?_
  show Runs p e below _ (T5.setTop (mkF m 11 #[.val (.ref o0), .unset] []))
  refine Runs.by (fun _ hr => XS.iconst X5.here hx rfl (hb hby d6_11) hr) ?_
  show Runs p e below _ (T5.setTop (mkF m 12 #[.val (.ref o0), .unset] [(.int (1 : Int32))]))
  refine Runs.by (fun _ hr => XS.istoreN X5.here hx rfl (hb hby d6_12) rfl (l' := #[.val (.ref o0), .val (.int (1 : Int32))]) rfl hr) ?_
  have LP : ∀ (d : Nat) (i : Int32) (g : Nat → Int32) (TL7 : State) (hL7 : Heap) (lL7 : List Loc) (XL7 : Stand p l e ({ frames := 1, cells := 1, slots := 5, locals := 16 } : Room) s m #[(.ref o0)] below meth c TL7 lL7 1 5) (eL7 : TL7.heap = hL7) (NL7 : Fr n0 lL7) (KL7 : Keep h0 hL7 [o0]) (fL7_0 : Exa Z hL7 o0 "com/example/threshold/threshold/engine/UnitBits") (fL7_1 : Fld Z hL7 o0 "com/example/threshold/threshold/engine/UnitBits" "words" "[J" (.ref wa)) (fL7_2 : Fld Z hL7 o0 "com/example/threshold/threshold/engine/UnitBits" "count" "I" (.int cc)) (fL7_3 : Fld Z hL7 o0 "com/example/threshold/threshold/engine/UnitBits" "before" "[I" (.ref b3)) (fL7_4 : Arf Z hL7 wa k .long z (fun i => .long (w i))) (fL7_5 : Arf Z hL7 b3 k3 .int z (fun i => .int (g i))) (hd : z.toInt - i.toInt = d) (hi : 1 ≤ i.toInt ∧ i.toInt ≤ z.toInt) (hg : ∀ j : Nat, (j : Int) < i.toInt → g j = own_pre w j), Runs p e below (QE s (Q_rm6 Z o0 wa k z w cc h0 n0) ({ frames := 1, cells := 1, slots := 5, locals := 16 } : Room).cells ({ frames := 1, cells := 1, slots := 5, locals := 16 } : Room).slots) (TL7.setTop (mkF m 13 #[.val (.ref o0), .val (.int i)] [])) := by
    intro d
    induction d using Nat.strongRecOn with
    | _ d ih =>
      intro i g TL7 hL7 lL7 XL7 eL7 NL7 KL7  fL7_0 fL7_1 fL7_2 fL7_3 fL7_4 fL7_5 hd hi hg
      show Runs p e below _ (TL7.setTop (mkF m 13 #[.val (.ref o0), .val (.int i)] []))
      refine Runs.by (fun _ hr => XS.iloadN XL7.here hx rfl (hb hby d6_13) rfl  hr) ?_
      show Runs p e below _ (TL7.setTop (mkF m 14 #[.val (.ref o0), .val (.int i)] [(.int i)]))
      refine Runs.by (fun _ hr => XS.aloadN XL7.here hx rfl (hb hby d6_14) rfl rfl hr) ?_
      show Runs p e below _ (TL7.setTop (mkF m 15 #[.val (.ref o0), .val (.int i)] [(.ref o0), (.int i)]))
      obtain ⟨T8, X8, e8, st8⟩ := getF XL7 hx hZ hown (host := "") (Or.inl (hw _ (List.mem_of_getElem? (i := 14) rfl))) Via.refl eL7 fL7_1 (g := (mkF m 15 #[.val (.ref o0), .val (.int i)] [(.ref o0), (.int i)])) rfl rfl (hb hby d6_15)
      refine Runs.by st8 ?_
      show Runs p e below _ (T8.setTop (mkF m 18 #[.val (.ref o0), .val (.int i)] [(.ref wa), (.int i)]))
      obtain ⟨cl9, Ar9, -, S9, N9', -⟩ := id fL7_4
      refine Runs.by (fun t hr => X8.arraylength hx (by rw [e8]; exact Ar9.1) (State.isArrayOf_alike hZ.alike Ar9.2.1) (g := (mkF m 18 #[.val (.ref o0), .val (.int i)] [(.ref wa), (.int i)])) rfl rfl (hb hby d6_18) t hr) ?_
      rw [len_of S9 N9']
      show Runs p e below _ (T8.setTop (mkF m 19 #[.val (.ref o0), .val (.int i)] [(.int z), (.int i)]))
      by_cases hc19 : i < z
      · -- pc 19: i < z
        refine Runs.by (fun _ hr => XS.icmpNo X8.here hx rfl (hb hby d6_19) rfl (tlt hc19).2.1 hr) ?_
        have em : (i - (1 : Int32)).toInt = i.toInt - 1 := (Jvm.Kit.i32_sub (by omega) (by omega)).trans (by omega)
        have hlt : i.toInt < z.toInt := Int32.lt_iff_toInt_lt.mp hc19
        show Runs p e below _ (T8.setTop (mkF m 22 #[.val (.ref o0), .val (.int i)] []))
        refine Runs.by (fun _ hr => XS.aloadN X8.here hx rfl (hb hby d6_22) rfl rfl hr) ?_
        show Runs p e below _ (T8.setTop (mkF m 23 #[.val (.ref o0), .val (.int i)] [(.ref o0)]))
        obtain ⟨T10, X10, e10, st10⟩ := getF X8 hx hZ hown (host := "") (Or.inl (hw _ (List.mem_of_getElem? (i := 34) rfl))) Via.refl e8 fL7_3 (g := (mkF m 23 #[.val (.ref o0), .val (.int i)] [(.ref o0)])) rfl rfl (hb hby d6_23)
        refine Runs.by st10 ?_
        show Runs p e below _ (T10.setTop (mkF m 26 #[.val (.ref o0), .val (.int i)] [(.ref b3)]))
        refine Runs.by (fun _ hr => XS.iloadN X10.here hx rfl (hb hby d6_26) rfl  hr) ?_
        show Runs p e below _ (T10.setTop (mkF m 27 #[.val (.ref o0), .val (.int i)] [(.int i), (.ref b3)]))
        refine Runs.by (fun _ hr => XS.aloadN X10.here hx rfl (hb hby d6_27) rfl rfl hr) ?_
        show Runs p e below _ (T10.setTop (mkF m 28 #[.val (.ref o0), .val (.int i)] [(.ref o0), (.int i), (.ref b3)]))
        obtain ⟨T11, X11, e11, st11⟩ := getF X10 hx hZ hown (host := "") (Or.inl (hw _ (List.mem_of_getElem? (i := 34) rfl))) Via.refl e10 fL7_3 (g := (mkF m 28 #[.val (.ref o0), .val (.int i)] [(.ref o0), (.int i), (.ref b3)])) rfl rfl (hb hby d6_28)
        refine Runs.by st11 ?_
        show Runs p e below _ (T11.setTop (mkF m 31 #[.val (.ref o0), .val (.int i)] [(.ref b3), (.int i), (.ref b3)]))
        refine Runs.by (fun _ hr => XS.iloadN X11.here hx rfl (hb hby d6_31) rfl  hr) ?_
        show Runs p e below _ (T11.setTop (mkF m 32 #[.val (.ref o0), .val (.int i)] [(.int i), (.ref b3), (.int i), (.ref b3)]))
        refine Runs.by (fun _ hr => XS.iconst X11.here hx rfl (hb hby d6_32) hr) ?_
        show Runs p e below _ (T11.setTop (mkF m 33 #[.val (.ref o0), .val (.int i)] [(.int (1 : Int32)), (.int i), (.ref b3), (.int i), (.ref b3)]))
        refine Runs.by (fun _ hr => XS.isub X11.here hx rfl (hb hby d6_33) rfl hr) ?_
        show Runs p e below _ (T11.setTop (mkF m 34 #[.val (.ref o0), .val (.int i)] [(.int (i - (1 : Int32))), (.ref b3), (.int i), (.ref b3)]))
        obtain ⟨cl12, Ar12, -, S12, N12', H12⟩ := id fL7_5
        have ix12 := own_ix (j := (i - (1 : Int32))) (z := z) (n := i.toInt.toNat - 1) (by rw [em]; omega) (by rw [em]; omega)
        have hin12 : ¬ ((i - (1 : Int32)) < 0 ∨ cl12.slots.size ≤ ((i - (1 : Int32))).toNatClampNeg) := inb_of S12 ix12.1
        have hat12 : cl12.slots[((i - (1 : Int32))).toNatClampNeg]? = some (.int (g (i.toInt.toNat - 1))) := by rw [ix12.2.1]; exact H12 _ ix12.2.2
        refine Runs.by (fun t hr => X11.iaload hx (j := (i - (1 : Int32))) (v := (.int (g (i.toInt.toNat - 1)))) (by rw [e11]; exact Ar12.1) (State.isArrayOf_alike hZ.alike Ar12.2.1) Ar12.2.2 hin12 hat12 (g := (mkF m 34 #[.val (.ref o0), .val (.int i)] [(.int (i - (1 : Int32))), (.ref b3), (.int i), (.ref b3)])) rfl rfl (hb hby d6_34) t hr) ?_
        show Runs p e below _ (T11.setTop (mkF m 35 #[.val (.ref o0), .val (.int i)] [(.int (g (i.toInt.toNat - 1))), (.int i), (.ref b3)]))
        refine Runs.by (fun _ hr => XS.aloadN X11.here hx rfl (hb hby d6_35) rfl rfl hr) ?_
        show Runs p e below _ (T11.setTop (mkF m 36 #[.val (.ref o0), .val (.int i)] [(.ref o0), (.int (g (i.toInt.toNat - 1))), (.int i), (.ref b3)]))
        obtain ⟨T13, X13, e13, st13⟩ := getF X11 hx hZ hown (host := "") (Or.inl (hw _ (List.mem_of_getElem? (i := 14) rfl))) Via.refl e11 fL7_1 (g := (mkF m 36 #[.val (.ref o0), .val (.int i)] [(.ref o0), (.int (g (i.toInt.toNat - 1))), (.int i), (.ref b3)])) rfl rfl (hb hby d6_36)
        refine Runs.by st13 ?_
        show Runs p e below _ (T13.setTop (mkF m 39 #[.val (.ref o0), .val (.int i)] [(.ref wa), (.int (g (i.toInt.toNat - 1))), (.int i), (.ref b3)]))
        refine Runs.by (fun _ hr => XS.iloadN X13.here hx rfl (hb hby d6_39) rfl  hr) ?_
        show Runs p e below _ (T13.setTop (mkF m 40 #[.val (.ref o0), .val (.int i)] [(.int i), (.ref wa), (.int (g (i.toInt.toNat - 1))), (.int i), (.ref b3)]))
        refine Runs.by (fun _ hr => XS.iconst X13.here hx rfl (hb hby d6_40) hr) ?_
        show Runs p e below _ (T13.setTop (mkF m 41 #[.val (.ref o0), .val (.int i)] [(.int (1 : Int32)), (.int i), (.ref wa), (.int (g (i.toInt.toNat - 1))), (.int i), (.ref b3)]))
        refine Runs.by (fun _ hr => XS.isub X13.here hx rfl (hb hby d6_41) rfl hr) ?_
        show Runs p e below _ (T13.setTop (mkF m 42 #[.val (.ref o0), .val (.int i)] [(.int (i - (1 : Int32))), (.ref wa), (.int (g (i.toInt.toNat - 1))), (.int i), (.ref b3)]))
        obtain ⟨cl14, Ar14, -, S14, N14', H14⟩ := id fL7_4
        have ix14 := own_ix (j := (i - (1 : Int32))) (z := z) (n := i.toInt.toNat - 1) (by rw [em]; omega) (by rw [em]; omega)
        have hin14 : ¬ ((i - (1 : Int32)) < 0 ∨ cl14.slots.size ≤ ((i - (1 : Int32))).toNatClampNeg) := inb_of S14 ix14.1
        have hat14 : cl14.slots[((i - (1 : Int32))).toNatClampNeg]? = some (.long (w (i.toInt.toNat - 1))) := by rw [ix14.2.1]; exact H14 _ ix14.2.2
        refine Runs.by (fun t hr => X13.laload hx (j := (i - (1 : Int32))) (v := (.long (w (i.toInt.toNat - 1)))) (by rw [e13]; exact Ar14.1) (State.isArrayOf_alike hZ.alike Ar14.2.1) Ar14.2.2 hin14 hat14 (g := (mkF m 42 #[.val (.ref o0), .val (.int i)] [(.int (i - (1 : Int32))), (.ref wa), (.int (g (i.toInt.toNat - 1))), (.int i), (.ref b3)])) rfl rfl (hb hby d6_42) t hr) ?_
        show Runs p e below _ (T13.setTop (mkF m 43 #[.val (.ref o0), .val (.int i)] [(.long (w (i.toInt.toNat - 1))), (.int (g (i.toInt.toNat - 1))), (.int i), (.ref b3)]))
        obtain ⟨_, _, ⟨T15, L15, k15, n15⟩, -, X15, ⟨Lc15, hQ15, l15, y15, z15⟩, st15⟩ := Jvm.LawKit.callS X13 hx (y := (⟨"java/lang/Long", "bitCount", "(J)I"⟩ : MethodName)) hown (mvT hZ (hw _ (List.mem_of_getElem? (i := 41) rfl))) (mvT hZ (hw _ (List.mem_of_getElem? (i := 42) rfl))) (mvT hZ (hw _ (List.mem_of_getElem? (i := 43) rfl))) (mvT hZ (hw _ (List.mem_of_getElem? (i := 44) rfl))) (by decide) (backOf (W := 3) (rm8 l Z a0 hw [] (w (i.toInt.toNat - 1))  hL7 n0 (Nat.le_trans Z0 KL7.1) ) hZ (hw _ (List.mem_of_getElem? (i := 44) rfl)) (hw _ (List.mem_of_getElem? (i := 43) rfl)) (by decide) (by decide)) (g := (mkF m 43 #[.val (.ref o0), .val (.int i)] [(.long (w (i.toInt.toNat - 1))), (.int (g (i.toInt.toNat - 1))), (.int i), (.ref b3)])) rfl (by rw [hml]; rfl) (argsL := [(.long (w (i.toInt.toNat - 1)))]) (rest := [(.int (g (i.toInt.toNat - 1))), (.int i), (.ref b3)]) (lenOf pd_1 rfl) rfl (by show 2 * 0 + _ ≤ _; exact Nat.le_of_eq rfl) (hb hby d6_43) (fun _ _ => ⟨rfl, e13, (by decide : 1 + 0 ≤ _), (by decide : 5 + 0 ≤ _)⟩)
        dsimp only [Pt.U, Pt.locs, Pt.cells, Pt.slots] at X15 l15 y15 z15 st15 hQ15
        subst l15 y15 z15
        obtain ⟨rfl, Nq15, eq15⟩ := hQ15
        have N15 := Fr.app NL7 Nq15
        refine Runs.by (fun t hr => st15 t hr) ?_
        show Runs p e below _ (T15.setTop (mkF m 46 #[.val (.ref o0), .val (.int i)] [(.int (own_bc (w (i.toInt.toNat - 1)))), (.int (g (i.toInt.toNat - 1))), (.int i), (.ref b3)]))
        refine Runs.by (fun _ hr => XS.iadd X15.here hx rfl (hb hby d6_46) rfl hr) ?_
        show Runs p e below _ (T15.setTop (mkF m 47 #[.val (.ref o0), .val (.int i)] [(.int ((g (i.toInt.toNat - 1)) + (own_bc (w (i.toInt.toNat - 1))))), (.int i), (.ref b3)]))
        obtain ⟨cl16, Ar16, q16, S16, N16', H16⟩ := id fL7_5
        have ix16 := own_ix (j := i) (z := z) (n := i.toInt.toNat) (by omega) hlt
        have hin16 : ¬ (i < 0 ∨ cl16.slots.size ≤ (i).toNatClampNeg) := inb_of S16 ix16.1
        obtain ⟨T16, h16, X16, e16, W16, st16⟩ := stI X15 hx hZ eq15 Ar16 (j := i) hin16 (g := (mkF m 47 #[.val (.ref o0), .val (.int i)] [(.int ((g (i.toInt.toNat - 1)) + (own_bc (w (i.toInt.toNat - 1))))), (.int i), (.ref b3)])) rfl rfl (hb hby d6_47)
        have G16 : Arf Z h16 b3 k3 .int z (fun j_ => .int ((own_up g (i.toInt.toNat) ((g (i.toInt.toNat - 1)) + (own_bc (w (i.toInt.toNat - 1))))) j_)) := (Arf.set Ar16 q16 S16 N16' H16 W16 ix16.2.1).cast (fun j_ _ => by simp only [own_up]; split <;> rfl)
        have K17 : Keep h0 h16 [o0] := KL7.wr W16 (Or.inr sz_b3)
        have N16 := Fr.snoc X16 N15 g_b3
        refine Runs.by st16 ?_
        show Runs p e below _ (T16.setTop (mkF m 48 #[.val (.ref o0), .val (.int i)] []))
        refine Runs.by (fun _ hr => XS.iinc X16.here hx rfl (hb hby d6_48) rfl (l' := #[.val (.ref o0), .val (.int (i + (1 : Int32)))]) rfl hr) ?_
        show Runs p e below _ (T16.setTop (mkF m 51 #[.val (.ref o0), .val (.int (i + (1 : Int32)))] []))
        refine Runs.by (fun _ hr => XS.goto X16.here hx rfl (pc0 := 51) (pc' := 13) rfl (hb hby d6_51) (by decide) (by decide) hr) ?_
        have ei : (i + (1 : Int32)).toInt = i.toInt + 1 := (Jvm.Kit.i32_add (by omega) (by omega)).trans (by omega)
        have hg2 : ∀ j : Nat, (j : Int) < (i + (1 : Int32)).toInt → (own_up g (i.toInt.toNat) ((g (i.toInt.toNat - 1)) + (own_bc (w (i.toInt.toNat - 1))))) j = own_pre w j := by
          intro j hj
          by_cases q : j = i.toInt.toNat
          · subst q; rw [own_up_same, hg _ (by omega)]; obtain ⟨q0, hq0⟩ : ∃ q0, i.toInt.toNat = q0 + 1 := ⟨i.toInt.toNat - 1, by omega⟩
            rw [hq0]; rfl
          · rw [own_up_ne _ _ q]; exact hg j (by omega)
        exact ih (z.toInt - i.toInt - 1).toNat (by omega) (i + (1 : Int32)) (own_up g (i.toInt.toNat) ((g (i.toInt.toNat - 1)) + (own_bc (w (i.toInt.toNat - 1))))) _ _ _ X16 e16 N16 K17  (fL7_0.wr W16) (fL7_1.other W16 (Or.inl ne_o0_b3)) (fL7_2.other W16 (Or.inl ne_o0_b3)) (fL7_3.other W16 (Or.inl ne_o0_b3)) (fL7_4.other W16 ne_wa_b3) G16 (by omega) (by omega) hg2
      · -- pc 19: not i < z
        refine Runs.by (fun _ hr => XS.icmpYes X8.here hx rfl (pc0 := 19) (pc' := 54) rfl (hb hby d6_19) rfl (flt hc19).2.1 (by decide) (by decide) hr) ?_
        show Runs p e below _ (T8.setTop (mkF m 54 #[.val (.ref o0), .val (.int i)] []))
        refine Runs.retV X8 hx hrt hlk (hb hby d6_54) (by decide) (by decide) ?_
        rw [e8]
        have hz2 : ¬ i.toInt < z.toInt := fun q => hc19 (Int32.lt_iff_toInt_lt.mpr q)
        exact ⟨rfl, NL7, KL7, fL7_0, fL7_1, fL7_2, b3, k3, g_b3, sz_b3, fL7_3, fL7_5.cast (fun j hj => by rw [hg j (by have q := own_cl hj; omega)])⟩
  exact LP (z.toInt - 1).toNat (1 : Int32) (fun _ => (0 : Int32)) _ _ _ X5 e5 N5 K6  ((E0.ext E3).wr W5) ((Fw.ext E3).other W5 (Or.inr (slot_ne (Or.inr (hw _ (List.mem_of_getElem? (i := 15) rfl))) (Or.inl (hw _ (List.mem_of_getElem? (i := 35) rfl))) (by decide) (t := (.array .long)) (t' := (.array .int)) (by decide) (by decide)))) ((Fc.ext E3).other W5 (Or.inr (slot_ne (Or.inl (hw _ (List.mem_of_getElem? (i := 22) rfl))) (Or.inl (hw _ (List.mem_of_getElem? (i := 35) rfl))) (by decide) (t := .int) (t' := (.array .int)) (by decide) (by decide)))) Fw5 ((G0.ext E3).other W5 ne0) (G3.other W5 (Ne.symm ne_o0_b3)) (by omega) (by omega) own_j0
theorem d7_0 : decode prog_41_method_7_code 0 = .ok (.iload_n 1, 1) := by decide +kernel
theorem d7_1 : decode prog_41_method_7_code 1 = .ok (.aload_n 0, 1) := by decide +kernel
theorem d7_2 : decode prog_41_method_7_code 2 = .ok (.getfield 13, 3) := by decide +kernel
theorem d7_5 : decode prog_41_method_7_code 5 = .ok (.arraylength, 1) := by decide +kernel
theorem d7_6 : decode prog_41_method_7_code 6 = .ok (.bipush 64, 2) := by decide +kernel
theorem d7_8 : decode prog_41_method_7_code 8 = .ok (.imul, 1) := by decide +kernel
theorem d7_9 : decode prog_41_method_7_code 9 = .ok (.if_icmp .lt 8, 3) := by decide +kernel
theorem d7_12 : decode prog_41_method_7_code 12 = .ok (.aload_n 0, 1) := by decide +kernel
theorem d7_13 : decode prog_41_method_7_code 13 = .ok (.getfield 18, 3) := by decide +kernel
theorem d7_16 : decode prog_41_method_7_code 16 = .ok (.ireturn, 1) := by decide +kernel
theorem d7_17 : decode prog_41_method_7_code 17 = .ok (.iload_n 1, 1) := by decide +kernel
theorem d7_18 : decode prog_41_method_7_code 18 = .ok (.bipush 64, 2) := by decide +kernel
theorem d7_20 : decode prog_41_method_7_code 20 = .ok (.idiv, 1) := by decide +kernel
theorem d7_21 : decode prog_41_method_7_code 21 = .ok (.istore_n 2, 1) := by decide +kernel
theorem d7_22 : decode prog_41_method_7_code 22 = .ok (.aload_n 0, 1) := by decide +kernel
theorem d7_23 : decode prog_41_method_7_code 23 = .ok (.getfield 22, 3) := by decide +kernel
theorem d7_26 : decode prog_41_method_7_code 26 = .ok (.iload_n 2, 1) := by decide +kernel
theorem d7_27 : decode prog_41_method_7_code 27 = .ok (.iaload, 1) := by decide +kernel
theorem d7_28 : decode prog_41_method_7_code 28 = .ok (.aload_n 0, 1) := by decide +kernel
theorem d7_29 : decode prog_41_method_7_code 29 = .ok (.getfield 13, 3) := by decide +kernel
theorem d7_32 : decode prog_41_method_7_code 32 = .ok (.iload_n 2, 1) := by decide +kernel
theorem d7_33 : decode prog_41_method_7_code 33 = .ok (.laload, 1) := by decide +kernel
theorem d7_34 : decode prog_41_method_7_code 34 = .ok (.lconst 1, 1) := by decide +kernel
theorem d7_35 : decode prog_41_method_7_code 35 = .ok (.iload_n 1, 1) := by decide +kernel
theorem d7_36 : decode prog_41_method_7_code 36 = .ok (.lshl, 1) := by decide +kernel
theorem d7_37 : decode prog_41_method_7_code 37 = .ok (.lconst 1, 1) := by decide +kernel
theorem d7_38 : decode prog_41_method_7_code 38 = .ok (.lsub, 1) := by decide +kernel
theorem d7_39 : decode prog_41_method_7_code 39 = .ok (.land, 1) := by decide +kernel
theorem d7_40 : decode prog_41_method_7_code 40 = .ok (.invokestatic 26, 3) := by decide +kernel
theorem d7_43 : decode prog_41_method_7_code 43 = .ok (.iadd, 1) := by decide +kernel
theorem d7_44 : decode prog_41_method_7_code 44 = .ok (.ireturn, 1) := by decide +kernel
theorem ef_7_6 (m : MethodId) (o0 : Addr) (p1 : Int32) : entryFrame m #[(.ref o0), (.int p1)] 3 = mkF m 0 #[.val (.ref o0), .val (.int p1), .unset] [] := by first | (simp [entryFrame, mkF, argsToLocals, Value.category]; done) | rfl
def Q_rm7 (Z : State) (o0 : Addr) (p1 : Int32) (wa : Addr) (k : ClassId) (z : Int32) (w : Nat → Int64) (cc : Int32) (ba : Addr) (kb : ClassId) (bf : Nat → Int32) (h0 : Heap) (n0 : Nat) (v : Option Value) (h : Heap) (L : List Loc) : Prop := v = some (.int (if p1 < z * (64 : Int32) then bf (p1.toInt.toNat / 64) + own_bc (w (p1.toInt.toNat / 64) &&& (own_bit p1 - (1 : Int64))) else cc)) ∧ Fr n0 L ∧ h = h0
set_option maxRecDepth 65536 in
set_option maxHeartbeats 40000000 in
theorem rm7 (l : Launch) (Z : State) (a0 : Array Value) (hw : ∀ d ∈ tables_1, d.before a0 Z = true) (ws : List Jvm.Cond) (o0 : Addr) (p1 : Int32) (wa : Addr) (k : ClassId) (z : Int32) (w : Nat → Int64) (cc : Int32) (ba : Addr) (kb : ClassId) (bf : Nat → Int32) (h0 : Heap) (n0 : Nat) (Z0 : n0 ≤ h0.size) (Fw : Fld Z h0 o0 "com/example/threshold/threshold/engine/UnitBits" "words" "[J" (.ref wa)) (Fc : Fld Z h0 o0 "com/example/threshold/threshold/engine/UnitBits" "count" "I" (.int cc)) (Fb : Fld Z h0 o0 "com/example/threshold/threshold/engine/UnitBits" "before" "[I" (.ref ba)) (G0 : Arf Z h0 wa k .long z (fun i => .long (w i))) (Gb : Arf Z h0 ba kb .int z (fun i => .int (bf i))) (hz : 1 ≤ z.toInt ∧ z.toInt ≤ 5) (hu : 0 ≤ p1.toInt) :
    MetFree l (⟨"com/example/threshold/threshold/engine/UnitBits", "rank", "(I)I"⟩ : MethodName) (head1 (Jvm.Cond.code (⟨"com/example/threshold/threshold/engine/UnitBits", "rank", "(I)I"⟩ : MethodName) prog_41_method_7_code 3 (some .int) :: ws) ({ frames := 1, cells := 0, slots := 0, locals := 14 } : Room)) (fun a U => a = #[(.ref o0), (.int p1)] ∧ Z.Warmed39 U.vm ∧ U.heap = h0) (fun _ _ _ _ _ => True) (fun _ U o U' => ∃ v L, o = .returned v ∧ Q_rm7 Z o0 p1 wa k z w cc ba kb bf h0 n0 v U'.heap L ∧ FrameEnd U o U' L ({ frames := 1, cells := 0, slots := 0, locals := 14 } : Room).cells ({ frames := 1, cells := 0, slots := 0, locals := 14 } : Room).slots) := by
  refine MetFree.of_bodySF (plainFor_of_name pn_com_example_threshold_threshold_engine_UnitBits) hisR ?_
  intro p e s m args below meth c s₁ Bd hml0 hP hK
  obtain ⟨rfl, hZ, hh⟩ := hP
  have hx := Bd.exec
  have hby := Bd.bytes
  have hlk := BodyLoose.notSynchronized Bd
  have hrt := Bd.returns
  have hml : c.maxLocals = 3 := hml0
  have hown : s.vm.findClass "com/example/threshold/threshold/engine/UnitBits" = some m.cls := findClass_of_methodNamed Bd.named
  have hnm := (name_of_methodNamed Bd.named Bd.method).1
  have X0 : Stand p l e ({ frames := 1, cells := 0, slots := 0, locals := 14 } : Room) s m #[(.ref o0), (.int p1)] below meth c s₁ [] 0 0 := Stand.of_body Bd
  have e0 : s₁.heap = h0 := by rw [← hh, Bd.state]; rfl
  have N0 := Fr.nil n0
  have K0 : Keep h0 h0 [] := Keep.refl h0 _
  show Runs p e below (QE s (Q_rm7 Z o0 p1 wa k z w cc ba kb bf h0 n0) ({ frames := 1, cells := 0, slots := 0, locals := 14 } : Room).cells ({ frames := 1, cells := 0, slots := 0, locals := 14 } : Room).slots) (s₁.setTop (entryFrame m #[(.ref o0), (.int p1)] 3))
  rw [ef_7_6 m o0 p1]
  have hd64 := own_d64 (u := p1) hu
  have t64 : (64 : Int32).toInt = 64 := by decide
  show Runs p e below _ (s₁.setTop (mkF m 0 #[.val (.ref o0), .val (.int p1), .unset] []))
  refine Runs.by (fun _ hr => XS.iloadN X0.here hx rfl (hb hby d7_0) rfl  hr) ?_
  show Runs p e below _ (s₁.setTop (mkF m 1 #[.val (.ref o0), .val (.int p1), .unset] [(.int p1)]))
  refine Runs.by (fun _ hr => XS.aloadN X0.here hx rfl (hb hby d7_1) rfl rfl hr) ?_
  show Runs p e below _ (s₁.setTop (mkF m 2 #[.val (.ref o0), .val (.int p1), .unset] [(.ref o0), (.int p1)]))
  obtain ⟨T1, X1, e1, st1⟩ := getF X0 hx hZ hown (host := "") (Or.inl (hw _ (List.mem_of_getElem? (i := 14) rfl))) Via.refl e0 Fw (g := (mkF m 2 #[.val (.ref o0), .val (.int p1), .unset] [(.ref o0), (.int p1)])) rfl rfl (hb hby d7_2)
  refine Runs.by st1 ?_
  show Runs p e below _ (T1.setTop (mkF m 5 #[.val (.ref o0), .val (.int p1), .unset] [(.ref wa), (.int p1)]))
  obtain ⟨cl2, Ar2, -, S2, N2', -⟩ := id G0
  refine Runs.by (fun t hr => X1.arraylength hx (by rw [e1]; exact Ar2.1) (State.isArrayOf_alike hZ.alike Ar2.2.1) (g := (mkF m 5 #[.val (.ref o0), .val (.int p1), .unset] [(.ref wa), (.int p1)])) rfl rfl (hb hby d7_5) t hr) ?_
  rw [len_of S2 N2']
  show Runs p e below _ (T1.setTop (mkF m 6 #[.val (.ref o0), .val (.int p1), .unset] [(.int z), (.int p1)]))
  refine Runs.by (fun _ hr => XS.bipush X1.here hx rfl (hb hby d7_6) hr) ?_
  show Runs p e below _ (T1.setTop (mkF m 8 #[.val (.ref o0), .val (.int p1), .unset] [(.int (64 : Int32)), (.int z), (.int p1)]))
  refine Runs.by (fun _ hr => XS.imul X1.here hx rfl (hb hby d7_8) rfl hr) ?_
  show Runs p e below _ (T1.setTop (mkF m 9 #[.val (.ref o0), .val (.int p1), .unset] [(.int (z * (64 : Int32))), (.int p1)]))
  by_cases hc9 : p1 < (z * (64 : Int32))
  · -- pc 9: p1 < (z * (64 : Int32))
    refine Runs.by (fun _ hr => XS.icmpYes X1.here hx rfl (pc0 := 9) (pc' := 17) rfl (hb hby d7_9) rfl (tlt hc9).1 (by decide) (by decide) hr) ?_
    have ez : (z * (64 : Int32)).toInt = z.toInt * 64 := (Jvm.Kit.i32_mul (by rw [t64]; omega) (by rw [t64]; omega)).trans (by rw [t64])
    have hlt : p1.toInt < z.toInt * 64 := by rw [← ez]; exact Int32.lt_iff_toInt_lt.mp hc9
    show Runs p e below _ (T1.setTop (mkF m 17 #[.val (.ref o0), .val (.int p1), .unset] []))
    refine Runs.by (fun _ hr => XS.iloadN X1.here hx rfl (hb hby d7_17) rfl  hr) ?_
    show Runs p e below _ (T1.setTop (mkF m 18 #[.val (.ref o0), .val (.int p1), .unset] [(.int p1)]))
    refine Runs.by (fun _ hr => XS.bipush X1.here hx rfl (hb hby d7_18) hr) ?_
    show Runs p e below _ (T1.setTop (mkF m 20 #[.val (.ref o0), .val (.int p1), .unset] [(.int (64 : Int32)), (.int p1)]))
    refine Runs.by (fun _ hr => XS.idiv X1.here hx rfl (hb hby d7_20) rfl (by decide) hr) ?_
    show Runs p e below _ (T1.setTop (mkF m 21 #[.val (.ref o0), .val (.int p1), .unset] [(.int (p1 / (64 : Int32)))]))
    refine Runs.by (fun _ hr => XS.istoreN X1.here hx rfl (hb hby d7_21) rfl (l' := #[.val (.ref o0), .val (.int p1), .val (.int (p1 / (64 : Int32)))]) rfl hr) ?_
    show Runs p e below _ (T1.setTop (mkF m 22 #[.val (.ref o0), .val (.int p1), .val (.int (p1 / (64 : Int32)))] []))
    refine Runs.by (fun _ hr => XS.aloadN X1.here hx rfl (hb hby d7_22) rfl rfl hr) ?_
    show Runs p e below _ (T1.setTop (mkF m 23 #[.val (.ref o0), .val (.int p1), .val (.int (p1 / (64 : Int32)))] [(.ref o0)]))
    obtain ⟨T3, X3, e3, st3⟩ := getF X1 hx hZ hown (host := "") (Or.inl (hw _ (List.mem_of_getElem? (i := 34) rfl))) Via.refl e1 Fb (g := (mkF m 23 #[.val (.ref o0), .val (.int p1), .val (.int (p1 / (64 : Int32)))] [(.ref o0)])) rfl rfl (hb hby d7_23)
    refine Runs.by st3 ?_
    show Runs p e below _ (T3.setTop (mkF m 26 #[.val (.ref o0), .val (.int p1), .val (.int (p1 / (64 : Int32)))] [(.ref ba)]))
    refine Runs.by (fun _ hr => XS.iloadN X3.here hx rfl (hb hby d7_26) rfl  hr) ?_
    show Runs p e below _ (T3.setTop (mkF m 27 #[.val (.ref o0), .val (.int p1), .val (.int (p1 / (64 : Int32)))] [(.int (p1 / (64 : Int32))), (.ref ba)]))
    obtain ⟨cl4, Ar4, -, S4, N4', H4⟩ := id Gb
    have ix4 := own_ix (j := (p1 / (64 : Int32))) (z := z) (n := p1.toInt.toNat / 64) hd64 (by rw [hd64]; omega)
    have hin4 : ¬ ((p1 / (64 : Int32)) < 0 ∨ cl4.slots.size ≤ ((p1 / (64 : Int32))).toNatClampNeg) := inb_of S4 ix4.1
    have hat4 : cl4.slots[((p1 / (64 : Int32))).toNatClampNeg]? = some (.int (bf (p1.toInt.toNat / 64))) := by rw [ix4.2.1]; exact H4 _ ix4.2.2
    refine Runs.by (fun t hr => X3.iaload hx (j := (p1 / (64 : Int32))) (v := (.int (bf (p1.toInt.toNat / 64)))) (by rw [e3]; exact Ar4.1) (State.isArrayOf_alike hZ.alike Ar4.2.1) Ar4.2.2 hin4 hat4 (g := (mkF m 27 #[.val (.ref o0), .val (.int p1), .val (.int (p1 / (64 : Int32)))] [(.int (p1 / (64 : Int32))), (.ref ba)])) rfl rfl (hb hby d7_27) t hr) ?_
    show Runs p e below _ (T3.setTop (mkF m 28 #[.val (.ref o0), .val (.int p1), .val (.int (p1 / (64 : Int32)))] [(.int (bf (p1.toInt.toNat / 64)))]))
    refine Runs.by (fun _ hr => XS.aloadN X3.here hx rfl (hb hby d7_28) rfl rfl hr) ?_
    show Runs p e below _ (T3.setTop (mkF m 29 #[.val (.ref o0), .val (.int p1), .val (.int (p1 / (64 : Int32)))] [(.ref o0), (.int (bf (p1.toInt.toNat / 64)))]))
    obtain ⟨T5, X5, e5, st5⟩ := getF X3 hx hZ hown (host := "") (Or.inl (hw _ (List.mem_of_getElem? (i := 14) rfl))) Via.refl e3 Fw (g := (mkF m 29 #[.val (.ref o0), .val (.int p1), .val (.int (p1 / (64 : Int32)))] [(.ref o0), (.int (bf (p1.toInt.toNat / 64)))])) rfl rfl (hb hby d7_29)
    refine Runs.by st5 ?_
    show Runs p e below _ (T5.setTop (mkF m 32 #[.val (.ref o0), .val (.int p1), .val (.int (p1 / (64 : Int32)))] [(.ref wa), (.int (bf (p1.toInt.toNat / 64)))]))
    refine Runs.by (fun _ hr => XS.iloadN X5.here hx rfl (hb hby d7_32) rfl  hr) ?_
    show Runs p e below _ (T5.setTop (mkF m 33 #[.val (.ref o0), .val (.int p1), .val (.int (p1 / (64 : Int32)))] [(.int (p1 / (64 : Int32))), (.ref wa), (.int (bf (p1.toInt.toNat / 64)))]))
    obtain ⟨cl6, Ar6, -, S6, N6', H6⟩ := id G0
    have ix6 := own_ix (j := (p1 / (64 : Int32))) (z := z) (n := p1.toInt.toNat / 64) hd64 (by rw [hd64]; omega)
    have hin6 : ¬ ((p1 / (64 : Int32)) < 0 ∨ cl6.slots.size ≤ ((p1 / (64 : Int32))).toNatClampNeg) := inb_of S6 ix6.1
    have hat6 : cl6.slots[((p1 / (64 : Int32))).toNatClampNeg]? = some (.long (w (p1.toInt.toNat / 64))) := by rw [ix6.2.1]; exact H6 _ ix6.2.2
    refine Runs.by (fun t hr => X5.laload hx (j := (p1 / (64 : Int32))) (v := (.long (w (p1.toInt.toNat / 64)))) (by rw [e5]; exact Ar6.1) (State.isArrayOf_alike hZ.alike Ar6.2.1) Ar6.2.2 hin6 hat6 (g := (mkF m 33 #[.val (.ref o0), .val (.int p1), .val (.int (p1 / (64 : Int32)))] [(.int (p1 / (64 : Int32))), (.ref wa), (.int (bf (p1.toInt.toNat / 64)))])) rfl rfl (hb hby d7_33) t hr) ?_
    show Runs p e below _ (T5.setTop (mkF m 34 #[.val (.ref o0), .val (.int p1), .val (.int (p1 / (64 : Int32)))] [(.long (w (p1.toInt.toNat / 64))), (.int (bf (p1.toInt.toNat / 64)))]))
    refine Runs.by (fun _ hr => XS.lconst X5.here hx rfl (hb hby d7_34) hr) ?_
    show Runs p e below _ (T5.setTop (mkF m 35 #[.val (.ref o0), .val (.int p1), .val (.int (p1 / (64 : Int32)))] [(.long (1 : Int64)), (.long (w (p1.toInt.toNat / 64))), (.int (bf (p1.toInt.toNat / 64)))]))
    refine Runs.by (fun _ hr => XS.iloadN X5.here hx rfl (hb hby d7_35) rfl  hr) ?_
    show Runs p e below _ (T5.setTop (mkF m 36 #[.val (.ref o0), .val (.int p1), .val (.int (p1 / (64 : Int32)))] [(.int p1), (.long (1 : Int64)), (.long (w (p1.toInt.toNat / 64))), (.int (bf (p1.toInt.toNat / 64)))]))
    refine Runs.by (fun _ hr => XS.lshl X5.here hx rfl (hb hby d7_36) rfl hr) ?_
    show Runs p e below _ (T5.setTop (mkF m 37 #[.val (.ref o0), .val (.int p1), .val (.int (p1 / (64 : Int32)))] [(.long ((1 : Int64) <<< (p1 &&& 0x3f).toInt64)), (.long (w (p1.toInt.toNat / 64))), (.int (bf (p1.toInt.toNat / 64)))]))
    refine Runs.by (fun _ hr => XS.lconst X5.here hx rfl (hb hby d7_37) hr) ?_
    show Runs p e below _ (T5.setTop (mkF m 38 #[.val (.ref o0), .val (.int p1), .val (.int (p1 / (64 : Int32)))] [(.long (1 : Int64)), (.long ((1 : Int64) <<< (p1 &&& 0x3f).toInt64)), (.long (w (p1.toInt.toNat / 64))), (.int (bf (p1.toInt.toNat / 64)))]))
    refine Runs.by (fun _ hr => XS.lsub X5.here hx rfl (hb hby d7_38) rfl hr) ?_
    show Runs p e below _ (T5.setTop (mkF m 39 #[.val (.ref o0), .val (.int p1), .val (.int (p1 / (64 : Int32)))] [(.long (((1 : Int64) <<< (p1 &&& 0x3f).toInt64) - (1 : Int64))), (.long (w (p1.toInt.toNat / 64))), (.int (bf (p1.toInt.toNat / 64)))]))
    refine Runs.by (fun _ hr => XS.land X5.here hx rfl (hb hby d7_39) rfl hr) ?_
    show Runs p e below _ (T5.setTop (mkF m 40 #[.val (.ref o0), .val (.int p1), .val (.int (p1 / (64 : Int32)))] [(.long ((w (p1.toInt.toNat / 64)) &&& (((1 : Int64) <<< (p1 &&& 0x3f).toInt64) - (1 : Int64)))), (.int (bf (p1.toInt.toNat / 64)))]))
    obtain ⟨_, _, ⟨T7, L7, k7, n7⟩, -, X7, ⟨Lc7, hQ7, l7, y7, z7⟩, st7⟩ := Jvm.LawKit.callS X5 hx (y := (⟨"java/lang/Long", "bitCount", "(J)I"⟩ : MethodName)) hown (mvT hZ (hw _ (List.mem_of_getElem? (i := 41) rfl))) (mvT hZ (hw _ (List.mem_of_getElem? (i := 42) rfl))) (mvT hZ (hw _ (List.mem_of_getElem? (i := 43) rfl))) (mvT hZ (hw _ (List.mem_of_getElem? (i := 44) rfl))) (by decide) (backOf (W := 1) (rm8 l Z a0 hw [] ((w (p1.toInt.toNat / 64)) &&& (((1 : Int64) <<< (p1 &&& 0x3f).toInt64) - (1 : Int64)))  h0 n0 (Nat.le_trans Z0 K0.1) ) hZ (hw _ (List.mem_of_getElem? (i := 44) rfl)) (hw _ (List.mem_of_getElem? (i := 43) rfl)) (by decide) (by decide)) (g := (mkF m 40 #[.val (.ref o0), .val (.int p1), .val (.int (p1 / (64 : Int32)))] [(.long ((w (p1.toInt.toNat / 64)) &&& (((1 : Int64) <<< (p1 &&& 0x3f).toInt64) - (1 : Int64)))), (.int (bf (p1.toInt.toNat / 64)))])) rfl (by rw [hml]; rfl) (argsL := [(.long ((w (p1.toInt.toNat / 64)) &&& (((1 : Int64) <<< (p1 &&& 0x3f).toInt64) - (1 : Int64))))]) (rest := [(.int (bf (p1.toInt.toNat / 64)))]) (lenOf pd_1 rfl) rfl (by show 2 * 0 + _ ≤ _; exact Nat.le_of_eq rfl) (hb hby d7_40) (fun _ _ => ⟨rfl, e5, (by decide : 0 + 0 ≤ _), (by decide : 0 + 0 ≤ _)⟩)
    dsimp only [Pt.U, Pt.locs, Pt.cells, Pt.slots] at X7 l7 y7 z7 st7 hQ7
    subst l7 y7 z7
    obtain ⟨rfl, Nq7, eq7⟩ := hQ7
    have N7 := Fr.app N0 Nq7
    refine Runs.by (fun t hr => st7 t hr) ?_
    show Runs p e below _ (T7.setTop (mkF m 43 #[.val (.ref o0), .val (.int p1), .val (.int (p1 / (64 : Int32)))] [(.int (own_bc ((w (p1.toInt.toNat / 64)) &&& (((1 : Int64) <<< (p1 &&& 0x3f).toInt64) - (1 : Int64))))), (.int (bf (p1.toInt.toNat / 64)))]))
    refine Runs.by (fun _ hr => XS.iadd X7.here hx rfl (hb hby d7_43) rfl hr) ?_
    show Runs p e below _ (T7.setTop (mkF m 44 #[.val (.ref o0), .val (.int p1), .val (.int (p1 / (64 : Int32)))] [(.int ((bf (p1.toInt.toNat / 64)) + (own_bc ((w (p1.toInt.toNat / 64)) &&& (((1 : Int64) <<< (p1 &&& 0x3f).toInt64) - (1 : Int64))))))]))
    refine Runs.ret X7 hx hrt hlk (Or.inl ⟨rfl, by simp, _, rfl⟩) rfl (hb hby d7_44) (by decide) (by decide) ?_
    rw [eq7]
    refine ⟨?_, N7, rfl⟩
    first
      | exact congrArg (fun z => some (Value.int z)) (if_pos hc9).symm
      | exact congrArg (fun z => some (Value.int z)) (if_neg hc9).symm
  · -- pc 9: not p1 < (z * (64 : Int32))
    refine Runs.by (fun _ hr => XS.icmpNo X1.here hx rfl (hb hby d7_9) rfl (flt hc9).1 hr) ?_
    show Runs p e below _ (T1.setTop (mkF m 12 #[.val (.ref o0), .val (.int p1), .unset] []))
    refine Runs.by (fun _ hr => XS.aloadN X1.here hx rfl (hb hby d7_12) rfl rfl hr) ?_
    show Runs p e below _ (T1.setTop (mkF m 13 #[.val (.ref o0), .val (.int p1), .unset] [(.ref o0)]))
    obtain ⟨T8, X8, e8, st8⟩ := getF X1 hx hZ hown (host := "") (Or.inl (hw _ (List.mem_of_getElem? (i := 21) rfl))) Via.refl e1 Fc (g := (mkF m 13 #[.val (.ref o0), .val (.int p1), .unset] [(.ref o0)])) rfl rfl (hb hby d7_13)
    refine Runs.by st8 ?_
    show Runs p e below _ (T8.setTop (mkF m 16 #[.val (.ref o0), .val (.int p1), .unset] [(.int cc)]))
    refine Runs.ret X8 hx hrt hlk (Or.inl ⟨rfl, by simp, _, rfl⟩) rfl (hb hby d7_16) (by decide) (by decide) ?_
    rw [e8]
    refine ⟨?_, N0, rfl⟩
    first
      | exact congrArg (fun z => some (Value.int z)) (if_pos hc9).symm
      | exact congrArg (fun z => some (Value.int z)) (if_neg hc9).symm
theorem d11_0 : decode jdk_33_method_48_code 0 = .ok (.iload_n 0, 1) := by decide +kernel
theorem d11_1 : decode jdk_33_method_48_code 1 = .ok (.iconst (-1), 1) := by decide +kernel
theorem d11_2 : decode jdk_33_method_48_code 2 = .ok (.ixor, 1) := by decide +kernel
theorem d11_3 : decode jdk_33_method_48_code 3 = .ok (.iload_n 0, 1) := by decide +kernel
theorem d11_4 : decode jdk_33_method_48_code 4 = .ok (.iconst 1, 1) := by decide +kernel
theorem d11_5 : decode jdk_33_method_48_code 5 = .ok (.isub, 1) := by decide +kernel
theorem d11_6 : decode jdk_33_method_48_code 6 = .ok (.iand, 1) := by decide +kernel
theorem d11_7 : decode jdk_33_method_48_code 7 = .ok (.istore_n 0, 1) := by decide +kernel
theorem d11_8 : decode jdk_33_method_48_code 8 = .ok (.iload_n 0, 1) := by decide +kernel
theorem d11_9 : decode jdk_33_method_48_code 9 = .ok (.ifCond .gt 8, 3) := by decide +kernel
theorem d11_12 : decode jdk_33_method_48_code 12 = .ok (.iload_n 0, 1) := by decide +kernel
theorem d11_13 : decode jdk_33_method_48_code 13 = .ok (.bipush 32, 2) := by decide +kernel
theorem d11_15 : decode jdk_33_method_48_code 15 = .ok (.iand, 1) := by decide +kernel
theorem d11_16 : decode jdk_33_method_48_code 16 = .ok (.ireturn, 1) := by decide +kernel
theorem d11_17 : decode jdk_33_method_48_code 17 = .ok (.iconst 1, 1) := by decide +kernel
theorem d11_18 : decode jdk_33_method_48_code 18 = .ok (.istore_n 1, 1) := by decide +kernel
theorem d11_19 : decode jdk_33_method_48_code 19 = .ok (.iload_n 0, 1) := by decide +kernel
theorem d11_20 : decode jdk_33_method_48_code 20 = .ok (.ldc_w 264, 3) := by decide +kernel
theorem d11_23 : decode jdk_33_method_48_code 23 = .ok (.if_icmp .le 11, 3) := by decide +kernel
theorem d11_26 : decode jdk_33_method_48_code 26 = .ok (.iinc 1 16, 3) := by decide +kernel
theorem d11_29 : decode jdk_33_method_48_code 29 = .ok (.iload_n 0, 1) := by decide +kernel
theorem d11_30 : decode jdk_33_method_48_code 30 = .ok (.bipush 16, 2) := by decide +kernel
theorem d11_32 : decode jdk_33_method_48_code 32 = .ok (.iushr, 1) := by decide +kernel
theorem d11_33 : decode jdk_33_method_48_code 33 = .ok (.istore_n 0, 1) := by decide +kernel
theorem d11_34 : decode jdk_33_method_48_code 34 = .ok (.iload_n 0, 1) := by decide +kernel
theorem d11_35 : decode jdk_33_method_48_code 35 = .ok (.sipush 256, 3) := by decide +kernel
theorem d11_38 : decode jdk_33_method_48_code 38 = .ok (.if_icmp .le 11, 3) := by decide +kernel
theorem d11_41 : decode jdk_33_method_48_code 41 = .ok (.iinc 1 8, 3) := by decide +kernel
theorem d11_44 : decode jdk_33_method_48_code 44 = .ok (.iload_n 0, 1) := by decide +kernel
theorem d11_45 : decode jdk_33_method_48_code 45 = .ok (.bipush 8, 2) := by decide +kernel
theorem d11_47 : decode jdk_33_method_48_code 47 = .ok (.iushr, 1) := by decide +kernel
theorem d11_48 : decode jdk_33_method_48_code 48 = .ok (.istore_n 0, 1) := by decide +kernel
theorem d11_49 : decode jdk_33_method_48_code 49 = .ok (.iload_n 0, 1) := by decide +kernel
theorem d11_50 : decode jdk_33_method_48_code 50 = .ok (.bipush 16, 2) := by decide +kernel
theorem d11_52 : decode jdk_33_method_48_code 52 = .ok (.if_icmp .le 10, 3) := by decide +kernel
theorem d11_55 : decode jdk_33_method_48_code 55 = .ok (.iinc 1 4, 3) := by decide +kernel
theorem d11_58 : decode jdk_33_method_48_code 58 = .ok (.iload_n 0, 1) := by decide +kernel
theorem d11_59 : decode jdk_33_method_48_code 59 = .ok (.iconst 4, 1) := by decide +kernel
theorem d11_60 : decode jdk_33_method_48_code 60 = .ok (.iushr, 1) := by decide +kernel
theorem d11_61 : decode jdk_33_method_48_code 61 = .ok (.istore_n 0, 1) := by decide +kernel
theorem d11_62 : decode jdk_33_method_48_code 62 = .ok (.iload_n 0, 1) := by decide +kernel
theorem d11_63 : decode jdk_33_method_48_code 63 = .ok (.iconst 4, 1) := by decide +kernel
theorem d11_64 : decode jdk_33_method_48_code 64 = .ok (.if_icmp .le 10, 3) := by decide +kernel
theorem d11_67 : decode jdk_33_method_48_code 67 = .ok (.iinc 1 2, 3) := by decide +kernel
theorem d11_70 : decode jdk_33_method_48_code 70 = .ok (.iload_n 0, 1) := by decide +kernel
theorem d11_71 : decode jdk_33_method_48_code 71 = .ok (.iconst 2, 1) := by decide +kernel
theorem d11_72 : decode jdk_33_method_48_code 72 = .ok (.iushr, 1) := by decide +kernel
theorem d11_73 : decode jdk_33_method_48_code 73 = .ok (.istore_n 0, 1) := by decide +kernel
theorem d11_74 : decode jdk_33_method_48_code 74 = .ok (.iload_n 1, 1) := by decide +kernel
theorem d11_75 : decode jdk_33_method_48_code 75 = .ok (.iload_n 0, 1) := by decide +kernel
theorem d11_76 : decode jdk_33_method_48_code 76 = .ok (.iconst 1, 1) := by decide +kernel
theorem d11_77 : decode jdk_33_method_48_code 77 = .ok (.iushr, 1) := by decide +kernel
theorem d11_78 : decode jdk_33_method_48_code 78 = .ok (.iadd, 1) := by decide +kernel
theorem d11_79 : decode jdk_33_method_48_code 79 = .ok (.ireturn, 1) := by decide +kernel
theorem ef_11_7 (m : MethodId) (p0 : Int32) : entryFrame m #[(.int p0)] 2 = mkF m 0 #[.val (.int p0), .unset] [] := by first | (simp [entryFrame, mkF, argsToLocals, Value.category]; done) | rfl
theorem pn_java_lang_Integer : plainName "java/lang/Integer" = true := by first | (simp [plainName, overriddenIn]; done) | decide +kernel
def Q_rm11 (Z : State) (p0 : Int32)  (h0 : Heap) (n0 : Nat) (v : Option Value) (h : Heap) (L : List Loc) : Prop := v = some (.int (own_ntzI p0)) ∧ Fr n0 L ∧ h = h0
set_option maxRecDepth 65536 in
set_option maxHeartbeats 40000000 in
theorem rm11 (l : Launch) (Z : State) (a0 : Array Value) (hw : ∀ d ∈ tables_1, d.before a0 Z = true) (ws : List Jvm.Cond) (p0 : Int32)  (h0 : Heap) (n0 : Nat) (Z0 : n0 ≤ h0.size) :
    MetFree l (⟨"java/lang/Integer", "numberOfTrailingZeros", "(I)I"⟩ : MethodName) (head1 (Jvm.Cond.code (⟨"java/lang/Integer", "numberOfTrailingZeros", "(I)I"⟩ : MethodName) jdk_33_method_48_code 2 (some .int) :: ws) ({ frames := 0, cells := 0, slots := 0, locals := 0 } : Room)) (fun a U => a = #[(.int p0)] ∧ Z.Warmed39 U.vm ∧ U.heap = h0) (fun _ _ _ _ _ => True) (fun _ U o U' => ∃ v L, o = .returned v ∧ Q_rm11 Z p0 h0 n0 v U'.heap L ∧ FrameEnd U o U' L ({ frames := 0, cells := 0, slots := 0, locals := 0 } : Room).cells ({ frames := 0, cells := 0, slots := 0, locals := 0 } : Room).slots) := by
  refine MetFree.of_bodySF (plainFor_of_name pn_java_lang_Integer) hisR ?_
  intro p e s m args below meth c s₁ Bd hml0 hP hK
  obtain ⟨rfl, hZ, hh⟩ := hP
  have hx := Bd.exec
  have hby := Bd.bytes
  have hlk := BodyLoose.notSynchronized Bd
  have hrt := Bd.returns
  have hml : c.maxLocals = 2 := hml0
  have hown : s.vm.findClass "java/lang/Integer" = some m.cls := findClass_of_methodNamed Bd.named
  have hnm := (name_of_methodNamed Bd.named Bd.method).1
  have X0 : Stand p l e ({ frames := 0, cells := 0, slots := 0, locals := 0 } : Room) s m #[(.int p0)] below meth c s₁ [] 0 0 := Stand.of_body Bd
  have e0 : s₁.heap = h0 := by rw [← hh, Bd.state]; rfl
  have N0 := Fr.nil n0
  have K0 : Keep h0 h0 [] := Keep.refl h0 _
  show Runs p e below (QE s (Q_rm11 Z p0 h0 n0) ({ frames := 0, cells := 0, slots := 0, locals := 0 } : Room).cells ({ frames := 0, cells := 0, slots := 0, locals := 0 } : Room).slots) (s₁.setTop (entryFrame m #[(.int p0)] 2))
  rw [ef_11_7 m p0]
  show Runs p e below _ (s₁.setTop (mkF m 0 #[.val (.int p0), .unset] []))
  refine Runs.by (fun _ hr => XS.iloadN X0.here hx rfl (hb hby d11_0) rfl  hr) ?_
  show Runs p e below _ (s₁.setTop (mkF m 1 #[.val (.int p0), .unset] [(.int p0)]))
  refine Runs.by (fun _ hr => XS.iconst X0.here hx rfl (hb hby d11_1) hr) ?_
  show Runs p e below _ (s₁.setTop (mkF m 2 #[.val (.int p0), .unset] [(.int (-1 : Int32)), (.int p0)]))
  refine Runs.by (fun _ hr => XS.ixor X0.here hx rfl (hb hby d11_2) rfl hr) ?_
  show Runs p e below _ (s₁.setTop (mkF m 3 #[.val (.int p0), .unset] [(.int (p0 ^^^ (-1 : Int32)))]))
  refine Runs.by (fun _ hr => XS.iloadN X0.here hx rfl (hb hby d11_3) rfl  hr) ?_
  show Runs p e below _ (s₁.setTop (mkF m 4 #[.val (.int p0), .unset] [(.int p0), (.int (p0 ^^^ (-1 : Int32)))]))
  refine Runs.by (fun _ hr => XS.iconst X0.here hx rfl (hb hby d11_4) hr) ?_
  show Runs p e below _ (s₁.setTop (mkF m 5 #[.val (.int p0), .unset] [(.int (1 : Int32)), (.int p0), (.int (p0 ^^^ (-1 : Int32)))]))
  refine Runs.by (fun _ hr => XS.isub X0.here hx rfl (hb hby d11_5) rfl hr) ?_
  show Runs p e below _ (s₁.setTop (mkF m 6 #[.val (.int p0), .unset] [(.int (p0 - (1 : Int32))), (.int (p0 ^^^ (-1 : Int32)))]))
  refine Runs.by (fun _ hr => XS.iand X0.here hx rfl (hb hby d11_6) rfl hr) ?_
  show Runs p e below _ (s₁.setTop (mkF m 7 #[.val (.int p0), .unset] [(.int ((p0 ^^^ (-1 : Int32)) &&& (p0 - (1 : Int32))))]))
  refine Runs.by (fun _ hr => XS.istoreN X0.here hx rfl (hb hby d11_7) rfl (l' := #[.val (.int ((p0 ^^^ (-1 : Int32)) &&& (p0 - (1 : Int32)))), .unset]) rfl hr) ?_
  show Runs p e below _ (s₁.setTop (mkF m 8 #[.val (.int (own_zb p0)), .unset] []))
  refine Runs.by (fun _ hr => XS.iloadN X0.here hx rfl (hb hby d11_8) rfl  hr) ?_
  show Runs p e below _ (s₁.setTop (mkF m 9 #[.val (.int (own_zb p0)), .unset] [(.int (own_zb p0))]))
  by_cases hc9 : (0 : Int32) < (own_zb p0)
  · -- pc 9: (0 : Int32) < (own_zb p0)
    refine Runs.by (fun _ hr => XS.ifYes X0.here hx rfl (pc0 := 9) (pc' := 17) rfl (hb hby d11_9) rfl ((if0 _ _).trans (tlt hc9).2.2.1) (by decide) (by decide) hr) ?_
    have en : own_ntzI p0 = own_z1 1 (own_zb p0) := if_pos hc9
    generalize own_zb p0 = z0 at *
    show Runs p e below _ (s₁.setTop (mkF m 17 #[.val (.int z0), .unset] []))
    refine Runs.by (fun _ hr => XS.iconst X0.here hx rfl (hb hby d11_17) hr) ?_
    show Runs p e below _ (s₁.setTop (mkF m 18 #[.val (.int z0), .unset] [(.int (1 : Int32))]))
    refine Runs.by (fun _ hr => XS.istoreN X0.here hx rfl (hb hby d11_18) rfl (l' := #[.val (.int z0), .val (.int (1 : Int32))]) rfl hr) ?_
    show Runs p e below _ (s₁.setTop (mkF m 19 #[.val (.int z0), .val (.int (1 : Int32))] []))
    refine Runs.by (fun _ hr => XS.iloadN X0.here hx rfl (hb hby d11_19) rfl  hr) ?_
    show Runs p e below _ (s₁.setTop (mkF m 20 #[.val (.int z0), .val (.int (1 : Int32))] [(.int z0)]))
    refine Runs.by (fun _ hr => X0.ldcWI hx hown (mvT hZ (hw _ (List.mem_of_getElem? (i := 60) rfl))) (g := (mkF m 20 #[.val (.int z0), .val (.int (1 : Int32))] [(.int z0)])) rfl (hb hby d11_20) hr) ?_
    show Runs p e below _ (s₁.setTop (mkF m 23 #[.val (.int z0), .val (.int (1 : Int32))] [(.int (65536 : Int32)), (.int z0)]))
    by_cases hc23 : (65536 : Int32) < z0
    · -- pc 23: (65536 : Int32) < z0
      refine Runs.by (fun _ hr => XS.icmpNo X0.here hx rfl (hb hby d11_23) rfl (tlt hc23).2.2.2 hr) ?_
      show Runs p e below _ (s₁.setTop (mkF m 26 #[.val (.int z0), .val (.int (1 : Int32))] []))
      refine Runs.by (fun _ hr => XS.iinc X0.here hx rfl (hb hby d11_26) rfl (l' := #[.val (.int z0), .val (.int (17 : Int32))]) rfl hr) ?_
      show Runs p e below _ (s₁.setTop (mkF m 29 #[.val (.int z0), .val (.int (17 : Int32))] []))
      refine Runs.by (fun _ hr => XS.iloadN X0.here hx rfl (hb hby d11_29) rfl  hr) ?_
      show Runs p e below _ (s₁.setTop (mkF m 30 #[.val (.int z0), .val (.int (17 : Int32))] [(.int z0)]))
      refine Runs.by (fun _ hr => XS.bipush X0.here hx rfl (hb hby d11_30) hr) ?_
      show Runs p e below _ (s₁.setTop (mkF m 32 #[.val (.int z0), .val (.int (17 : Int32))] [(.int (16 : Int32)), (.int z0)]))
      refine Runs.by (fun _ hr => XS.iushr X0.here hx rfl (hb hby d11_32) rfl hr) ?_
      show Runs p e below _ (s₁.setTop (mkF m 33 #[.val (.int z0), .val (.int (17 : Int32))] [(.int ((z0.toUInt32 >>> ((16 : Int32) &&& 31).toUInt32).toInt32))]))
      refine Runs.by (fun _ hr => XS.istoreN X0.here hx rfl (hb hby d11_33) rfl (l' := #[.val (.int ((z0.toUInt32 >>> ((16 : Int32) &&& 31).toUInt32).toInt32)), .val (.int (17 : Int32))]) rfl hr) ?_
      show Runs p e below _ (s₁.setTop (mkF m 34 #[.val (.int ((z0.toUInt32 >>> ((16 : Int32) &&& 31).toUInt32).toInt32)), .val (.int (17 : Int32))] []))
      refine Runs.by (fun _ hr => XS.iloadN X0.here hx rfl (hb hby d11_34) rfl  hr) ?_
      show Runs p e below _ (s₁.setTop (mkF m 35 #[.val (.int ((z0.toUInt32 >>> ((16 : Int32) &&& 31).toUInt32).toInt32)), .val (.int (17 : Int32))] [(.int ((z0.toUInt32 >>> ((16 : Int32) &&& 31).toUInt32).toInt32))]))
      refine Runs.by (fun _ hr => XS.sipush X0.here hx rfl (hb hby d11_35) hr) ?_
      show Runs p e below _ (s₁.setTop (mkF m 38 #[.val (.int ((z0.toUInt32 >>> ((16 : Int32) &&& 31).toUInt32).toInt32)), .val (.int (17 : Int32))] [(.int (256 : Int32)), (.int ((z0.toUInt32 >>> ((16 : Int32) &&& 31).toUInt32).toInt32))]))
      by_cases hc38 : (256 : Int32) < ((z0.toUInt32 >>> ((16 : Int32) &&& 31).toUInt32).toInt32)
      · -- pc 38: (256 : Int32) < ((z0.toUInt32 >>> ((16 : Int32) &&& 31).toUInt32).toInt32)
        refine Runs.by (fun _ hr => XS.icmpNo X0.here hx rfl (hb hby d11_38) rfl (tlt hc38).2.2.2 hr) ?_
        show Runs p e below _ (s₁.setTop (mkF m 41 #[.val (.int ((z0.toUInt32 >>> ((16 : Int32) &&& 31).toUInt32).toInt32)), .val (.int (17 : Int32))] []))
        refine Runs.by (fun _ hr => XS.iinc X0.here hx rfl (hb hby d11_41) rfl (l' := #[.val (.int ((z0.toUInt32 >>> ((16 : Int32) &&& 31).toUInt32).toInt32)), .val (.int (25 : Int32))]) rfl hr) ?_
        show Runs p e below _ (s₁.setTop (mkF m 44 #[.val (.int ((z0.toUInt32 >>> ((16 : Int32) &&& 31).toUInt32).toInt32)), .val (.int (25 : Int32))] []))
        refine Runs.by (fun _ hr => XS.iloadN X0.here hx rfl (hb hby d11_44) rfl  hr) ?_
        show Runs p e below _ (s₁.setTop (mkF m 45 #[.val (.int ((z0.toUInt32 >>> ((16 : Int32) &&& 31).toUInt32).toInt32)), .val (.int (25 : Int32))] [(.int ((z0.toUInt32 >>> ((16 : Int32) &&& 31).toUInt32).toInt32))]))
        refine Runs.by (fun _ hr => XS.bipush X0.here hx rfl (hb hby d11_45) hr) ?_
        show Runs p e below _ (s₁.setTop (mkF m 47 #[.val (.int ((z0.toUInt32 >>> ((16 : Int32) &&& 31).toUInt32).toInt32)), .val (.int (25 : Int32))] [(.int (8 : Int32)), (.int ((z0.toUInt32 >>> ((16 : Int32) &&& 31).toUInt32).toInt32))]))
        refine Runs.by (fun _ hr => XS.iushr X0.here hx rfl (hb hby d11_47) rfl hr) ?_
        show Runs p e below _ (s₁.setTop (mkF m 48 #[.val (.int ((z0.toUInt32 >>> ((16 : Int32) &&& 31).toUInt32).toInt32)), .val (.int (25 : Int32))] [(.int ((((z0.toUInt32 >>> ((16 : Int32) &&& 31).toUInt32).toInt32).toUInt32 >>> ((8 : Int32) &&& 31).toUInt32).toInt32))]))
        refine Runs.by (fun _ hr => XS.istoreN X0.here hx rfl (hb hby d11_48) rfl (l' := #[.val (.int ((((z0.toUInt32 >>> ((16 : Int32) &&& 31).toUInt32).toInt32).toUInt32 >>> ((8 : Int32) &&& 31).toUInt32).toInt32)), .val (.int (25 : Int32))]) rfl hr) ?_
        show Runs p e below _ (s₁.setTop (mkF m 49 #[.val (.int ((((z0.toUInt32 >>> ((16 : Int32) &&& 31).toUInt32).toInt32).toUInt32 >>> ((8 : Int32) &&& 31).toUInt32).toInt32)), .val (.int (25 : Int32))] []))
        refine Runs.by (fun _ hr => XS.iloadN X0.here hx rfl (hb hby d11_49) rfl  hr) ?_
        show Runs p e below _ (s₁.setTop (mkF m 50 #[.val (.int ((((z0.toUInt32 >>> ((16 : Int32) &&& 31).toUInt32).toInt32).toUInt32 >>> ((8 : Int32) &&& 31).toUInt32).toInt32)), .val (.int (25 : Int32))] [(.int ((((z0.toUInt32 >>> ((16 : Int32) &&& 31).toUInt32).toInt32).toUInt32 >>> ((8 : Int32) &&& 31).toUInt32).toInt32))]))
        refine Runs.by (fun _ hr => XS.bipush X0.here hx rfl (hb hby d11_50) hr) ?_
        show Runs p e below _ (s₁.setTop (mkF m 52 #[.val (.int ((((z0.toUInt32 >>> ((16 : Int32) &&& 31).toUInt32).toInt32).toUInt32 >>> ((8 : Int32) &&& 31).toUInt32).toInt32)), .val (.int (25 : Int32))] [(.int (16 : Int32)), (.int ((((z0.toUInt32 >>> ((16 : Int32) &&& 31).toUInt32).toInt32).toUInt32 >>> ((8 : Int32) &&& 31).toUInt32).toInt32))]))
        by_cases hc52 : (16 : Int32) < ((((z0.toUInt32 >>> ((16 : Int32) &&& 31).toUInt32).toInt32).toUInt32 >>> ((8 : Int32) &&& 31).toUInt32).toInt32)
        · -- pc 52: (16 : Int32) < ((((z0.toUInt32 >>> ((16 : Int32) &&& 31).toUInt32).toInt32).toUInt32 >>> ((8 : Int32) &&& 31).toUInt32).toInt32)
          refine Runs.by (fun _ hr => XS.icmpNo X0.here hx rfl (hb hby d11_52) rfl (tlt hc52).2.2.2 hr) ?_
          show Runs p e below _ (s₁.setTop (mkF m 55 #[.val (.int ((((z0.toUInt32 >>> ((16 : Int32) &&& 31).toUInt32).toInt32).toUInt32 >>> ((8 : Int32) &&& 31).toUInt32).toInt32)), .val (.int (25 : Int32))] []))
          refine Runs.by (fun _ hr => XS.iinc X0.here hx rfl (hb hby d11_55) rfl (l' := #[.val (.int ((((z0.toUInt32 >>> ((16 : Int32) &&& 31).toUInt32).toInt32).toUInt32 >>> ((8 : Int32) &&& 31).toUInt32).toInt32)), .val (.int (29 : Int32))]) rfl hr) ?_
          show Runs p e below _ (s₁.setTop (mkF m 58 #[.val (.int ((((z0.toUInt32 >>> ((16 : Int32) &&& 31).toUInt32).toInt32).toUInt32 >>> ((8 : Int32) &&& 31).toUInt32).toInt32)), .val (.int (29 : Int32))] []))
          refine Runs.by (fun _ hr => XS.iloadN X0.here hx rfl (hb hby d11_58) rfl  hr) ?_
          show Runs p e below _ (s₁.setTop (mkF m 59 #[.val (.int ((((z0.toUInt32 >>> ((16 : Int32) &&& 31).toUInt32).toInt32).toUInt32 >>> ((8 : Int32) &&& 31).toUInt32).toInt32)), .val (.int (29 : Int32))] [(.int ((((z0.toUInt32 >>> ((16 : Int32) &&& 31).toUInt32).toInt32).toUInt32 >>> ((8 : Int32) &&& 31).toUInt32).toInt32))]))
          refine Runs.by (fun _ hr => XS.iconst X0.here hx rfl (hb hby d11_59) hr) ?_
          show Runs p e below _ (s₁.setTop (mkF m 60 #[.val (.int ((((z0.toUInt32 >>> ((16 : Int32) &&& 31).toUInt32).toInt32).toUInt32 >>> ((8 : Int32) &&& 31).toUInt32).toInt32)), .val (.int (29 : Int32))] [(.int (4 : Int32)), (.int ((((z0.toUInt32 >>> ((16 : Int32) &&& 31).toUInt32).toInt32).toUInt32 >>> ((8 : Int32) &&& 31).toUInt32).toInt32))]))
          refine Runs.by (fun _ hr => XS.iushr X0.here hx rfl (hb hby d11_60) rfl hr) ?_
          show Runs p e below _ (s₁.setTop (mkF m 61 #[.val (.int ((((z0.toUInt32 >>> ((16 : Int32) &&& 31).toUInt32).toInt32).toUInt32 >>> ((8 : Int32) &&& 31).toUInt32).toInt32)), .val (.int (29 : Int32))] [(.int ((((((z0.toUInt32 >>> ((16 : Int32) &&& 31).toUInt32).toInt32).toUInt32 >>> ((8 : Int32) &&& 31).toUInt32).toInt32).toUInt32 >>> ((4 : Int32) &&& 31).toUInt32).toInt32))]))
          refine Runs.by (fun _ hr => XS.istoreN X0.here hx rfl (hb hby d11_61) rfl (l' := #[.val (.int ((((((z0.toUInt32 >>> ((16 : Int32) &&& 31).toUInt32).toInt32).toUInt32 >>> ((8 : Int32) &&& 31).toUInt32).toInt32).toUInt32 >>> ((4 : Int32) &&& 31).toUInt32).toInt32)), .val (.int (29 : Int32))]) rfl hr) ?_
          show Runs p e below _ (s₁.setTop (mkF m 62 #[.val (.int ((((((z0.toUInt32 >>> ((16 : Int32) &&& 31).toUInt32).toInt32).toUInt32 >>> ((8 : Int32) &&& 31).toUInt32).toInt32).toUInt32 >>> ((4 : Int32) &&& 31).toUInt32).toInt32)), .val (.int (29 : Int32))] []))
          refine Runs.by (fun _ hr => XS.iloadN X0.here hx rfl (hb hby d11_62) rfl  hr) ?_
          show Runs p e below _ (s₁.setTop (mkF m 63 #[.val (.int ((((((z0.toUInt32 >>> ((16 : Int32) &&& 31).toUInt32).toInt32).toUInt32 >>> ((8 : Int32) &&& 31).toUInt32).toInt32).toUInt32 >>> ((4 : Int32) &&& 31).toUInt32).toInt32)), .val (.int (29 : Int32))] [(.int ((((((z0.toUInt32 >>> ((16 : Int32) &&& 31).toUInt32).toInt32).toUInt32 >>> ((8 : Int32) &&& 31).toUInt32).toInt32).toUInt32 >>> ((4 : Int32) &&& 31).toUInt32).toInt32))]))
          refine Runs.by (fun _ hr => XS.iconst X0.here hx rfl (hb hby d11_63) hr) ?_
          show Runs p e below _ (s₁.setTop (mkF m 64 #[.val (.int ((((((z0.toUInt32 >>> ((16 : Int32) &&& 31).toUInt32).toInt32).toUInt32 >>> ((8 : Int32) &&& 31).toUInt32).toInt32).toUInt32 >>> ((4 : Int32) &&& 31).toUInt32).toInt32)), .val (.int (29 : Int32))] [(.int (4 : Int32)), (.int ((((((z0.toUInt32 >>> ((16 : Int32) &&& 31).toUInt32).toInt32).toUInt32 >>> ((8 : Int32) &&& 31).toUInt32).toInt32).toUInt32 >>> ((4 : Int32) &&& 31).toUInt32).toInt32))]))
          by_cases hc64 : (4 : Int32) < ((((((z0.toUInt32 >>> ((16 : Int32) &&& 31).toUInt32).toInt32).toUInt32 >>> ((8 : Int32) &&& 31).toUInt32).toInt32).toUInt32 >>> ((4 : Int32) &&& 31).toUInt32).toInt32)
          · -- pc 64: (4 : Int32) < ((((((z0.toUInt32 >>> ((16 : Int32) &&& 31).toUInt32).toInt32).toUInt32 >>> ((8 : Int32) &&& 31).toUInt32).toInt32).toUInt32 >>> ((4 : Int32) &&& 31).toUInt32).toInt32)
            refine Runs.by (fun _ hr => XS.icmpNo X0.here hx rfl (hb hby d11_64) rfl (tlt hc64).2.2.2 hr) ?_
            show Runs p e below _ (s₁.setTop (mkF m 67 #[.val (.int ((((((z0.toUInt32 >>> ((16 : Int32) &&& 31).toUInt32).toInt32).toUInt32 >>> ((8 : Int32) &&& 31).toUInt32).toInt32).toUInt32 >>> ((4 : Int32) &&& 31).toUInt32).toInt32)), .val (.int (29 : Int32))] []))
            refine Runs.by (fun _ hr => XS.iinc X0.here hx rfl (hb hby d11_67) rfl (l' := #[.val (.int ((((((z0.toUInt32 >>> ((16 : Int32) &&& 31).toUInt32).toInt32).toUInt32 >>> ((8 : Int32) &&& 31).toUInt32).toInt32).toUInt32 >>> ((4 : Int32) &&& 31).toUInt32).toInt32)), .val (.int (31 : Int32))]) rfl hr) ?_
            show Runs p e below _ (s₁.setTop (mkF m 70 #[.val (.int ((((((z0.toUInt32 >>> ((16 : Int32) &&& 31).toUInt32).toInt32).toUInt32 >>> ((8 : Int32) &&& 31).toUInt32).toInt32).toUInt32 >>> ((4 : Int32) &&& 31).toUInt32).toInt32)), .val (.int (31 : Int32))] []))
            refine Runs.by (fun _ hr => XS.iloadN X0.here hx rfl (hb hby d11_70) rfl  hr) ?_
            show Runs p e below _ (s₁.setTop (mkF m 71 #[.val (.int ((((((z0.toUInt32 >>> ((16 : Int32) &&& 31).toUInt32).toInt32).toUInt32 >>> ((8 : Int32) &&& 31).toUInt32).toInt32).toUInt32 >>> ((4 : Int32) &&& 31).toUInt32).toInt32)), .val (.int (31 : Int32))] [(.int ((((((z0.toUInt32 >>> ((16 : Int32) &&& 31).toUInt32).toInt32).toUInt32 >>> ((8 : Int32) &&& 31).toUInt32).toInt32).toUInt32 >>> ((4 : Int32) &&& 31).toUInt32).toInt32))]))
            refine Runs.by (fun _ hr => XS.iconst X0.here hx rfl (hb hby d11_71) hr) ?_
            show Runs p e below _ (s₁.setTop (mkF m 72 #[.val (.int ((((((z0.toUInt32 >>> ((16 : Int32) &&& 31).toUInt32).toInt32).toUInt32 >>> ((8 : Int32) &&& 31).toUInt32).toInt32).toUInt32 >>> ((4 : Int32) &&& 31).toUInt32).toInt32)), .val (.int (31 : Int32))] [(.int (2 : Int32)), (.int ((((((z0.toUInt32 >>> ((16 : Int32) &&& 31).toUInt32).toInt32).toUInt32 >>> ((8 : Int32) &&& 31).toUInt32).toInt32).toUInt32 >>> ((4 : Int32) &&& 31).toUInt32).toInt32))]))
            refine Runs.by (fun _ hr => XS.iushr X0.here hx rfl (hb hby d11_72) rfl hr) ?_
            show Runs p e below _ (s₁.setTop (mkF m 73 #[.val (.int ((((((z0.toUInt32 >>> ((16 : Int32) &&& 31).toUInt32).toInt32).toUInt32 >>> ((8 : Int32) &&& 31).toUInt32).toInt32).toUInt32 >>> ((4 : Int32) &&& 31).toUInt32).toInt32)), .val (.int (31 : Int32))] [(.int ((((((((z0.toUInt32 >>> ((16 : Int32) &&& 31).toUInt32).toInt32).toUInt32 >>> ((8 : Int32) &&& 31).toUInt32).toInt32).toUInt32 >>> ((4 : Int32) &&& 31).toUInt32).toInt32).toUInt32 >>> ((2 : Int32) &&& 31).toUInt32).toInt32))]))
            refine Runs.by (fun _ hr => XS.istoreN X0.here hx rfl (hb hby d11_73) rfl (l' := #[.val (.int ((((((((z0.toUInt32 >>> ((16 : Int32) &&& 31).toUInt32).toInt32).toUInt32 >>> ((8 : Int32) &&& 31).toUInt32).toInt32).toUInt32 >>> ((4 : Int32) &&& 31).toUInt32).toInt32).toUInt32 >>> ((2 : Int32) &&& 31).toUInt32).toInt32)), .val (.int (31 : Int32))]) rfl hr) ?_
            show Runs p e below _ (s₁.setTop (mkF m 74 #[.val (.int ((((((((z0.toUInt32 >>> ((16 : Int32) &&& 31).toUInt32).toInt32).toUInt32 >>> ((8 : Int32) &&& 31).toUInt32).toInt32).toUInt32 >>> ((4 : Int32) &&& 31).toUInt32).toInt32).toUInt32 >>> ((2 : Int32) &&& 31).toUInt32).toInt32)), .val (.int (31 : Int32))] []))
            refine Runs.by (fun _ hr => XS.iloadN X0.here hx rfl (hb hby d11_74) rfl  hr) ?_
            show Runs p e below _ (s₁.setTop (mkF m 75 #[.val (.int ((((((((z0.toUInt32 >>> ((16 : Int32) &&& 31).toUInt32).toInt32).toUInt32 >>> ((8 : Int32) &&& 31).toUInt32).toInt32).toUInt32 >>> ((4 : Int32) &&& 31).toUInt32).toInt32).toUInt32 >>> ((2 : Int32) &&& 31).toUInt32).toInt32)), .val (.int (31 : Int32))] [(.int (31 : Int32))]))
            refine Runs.by (fun _ hr => XS.iloadN X0.here hx rfl (hb hby d11_75) rfl  hr) ?_
            show Runs p e below _ (s₁.setTop (mkF m 76 #[.val (.int ((((((((z0.toUInt32 >>> ((16 : Int32) &&& 31).toUInt32).toInt32).toUInt32 >>> ((8 : Int32) &&& 31).toUInt32).toInt32).toUInt32 >>> ((4 : Int32) &&& 31).toUInt32).toInt32).toUInt32 >>> ((2 : Int32) &&& 31).toUInt32).toInt32)), .val (.int (31 : Int32))] [(.int ((((((((z0.toUInt32 >>> ((16 : Int32) &&& 31).toUInt32).toInt32).toUInt32 >>> ((8 : Int32) &&& 31).toUInt32).toInt32).toUInt32 >>> ((4 : Int32) &&& 31).toUInt32).toInt32).toUInt32 >>> ((2 : Int32) &&& 31).toUInt32).toInt32)), (.int (31 : Int32))]))
            refine Runs.by (fun _ hr => XS.iconst X0.here hx rfl (hb hby d11_76) hr) ?_
            show Runs p e below _ (s₁.setTop (mkF m 77 #[.val (.int ((((((((z0.toUInt32 >>> ((16 : Int32) &&& 31).toUInt32).toInt32).toUInt32 >>> ((8 : Int32) &&& 31).toUInt32).toInt32).toUInt32 >>> ((4 : Int32) &&& 31).toUInt32).toInt32).toUInt32 >>> ((2 : Int32) &&& 31).toUInt32).toInt32)), .val (.int (31 : Int32))] [(.int (1 : Int32)), (.int ((((((((z0.toUInt32 >>> ((16 : Int32) &&& 31).toUInt32).toInt32).toUInt32 >>> ((8 : Int32) &&& 31).toUInt32).toInt32).toUInt32 >>> ((4 : Int32) &&& 31).toUInt32).toInt32).toUInt32 >>> ((2 : Int32) &&& 31).toUInt32).toInt32)), (.int (31 : Int32))]))
            refine Runs.by (fun _ hr => XS.iushr X0.here hx rfl (hb hby d11_77) rfl hr) ?_
            show Runs p e below _ (s₁.setTop (mkF m 78 #[.val (.int ((((((((z0.toUInt32 >>> ((16 : Int32) &&& 31).toUInt32).toInt32).toUInt32 >>> ((8 : Int32) &&& 31).toUInt32).toInt32).toUInt32 >>> ((4 : Int32) &&& 31).toUInt32).toInt32).toUInt32 >>> ((2 : Int32) &&& 31).toUInt32).toInt32)), .val (.int (31 : Int32))] [(.int ((((((((((z0.toUInt32 >>> ((16 : Int32) &&& 31).toUInt32).toInt32).toUInt32 >>> ((8 : Int32) &&& 31).toUInt32).toInt32).toUInt32 >>> ((4 : Int32) &&& 31).toUInt32).toInt32).toUInt32 >>> ((2 : Int32) &&& 31).toUInt32).toInt32).toUInt32 >>> ((1 : Int32) &&& 31).toUInt32).toInt32)), (.int (31 : Int32))]))
            refine Runs.by (fun _ hr => XS.iadd X0.here hx rfl (hb hby d11_78) rfl hr) ?_
            show Runs p e below _ (s₁.setTop (mkF m 79 #[.val (.int ((((((((z0.toUInt32 >>> ((16 : Int32) &&& 31).toUInt32).toInt32).toUInt32 >>> ((8 : Int32) &&& 31).toUInt32).toInt32).toUInt32 >>> ((4 : Int32) &&& 31).toUInt32).toInt32).toUInt32 >>> ((2 : Int32) &&& 31).toUInt32).toInt32)), .val (.int (31 : Int32))] [(.int ((31 : Int32) + ((((((((((z0.toUInt32 >>> ((16 : Int32) &&& 31).toUInt32).toInt32).toUInt32 >>> ((8 : Int32) &&& 31).toUInt32).toInt32).toUInt32 >>> ((4 : Int32) &&& 31).toUInt32).toInt32).toUInt32 >>> ((2 : Int32) &&& 31).toUInt32).toInt32).toUInt32 >>> ((1 : Int32) &&& 31).toUInt32).toInt32)))]))
            refine Runs.ret X0 hx hrt hlk (Or.inl ⟨rfl, by simp, _, rfl⟩) rfl (hb hby d11_79) (by decide) (by decide) ?_
            rw [e0]
            exact ⟨congrArg (fun z => some (Value.int z)) (en.trans ((if_pos hc23).trans ((if_pos hc38).trans ((if_pos hc52).trans ((if_pos hc64).trans rfl))))).symm, N0, rfl⟩
          · -- pc 64: not (4 : Int32) < ((((((z0.toUInt32 >>> ((16 : Int32) &&& 31).toUInt32).toInt32).toUInt32 >>> ((8 : Int32) &&& 31).toUInt32).toInt32).toUInt32 >>> ((4 : Int32) &&& 31).toUInt32).toInt32)
            refine Runs.by (fun _ hr => XS.icmpYes X0.here hx rfl (pc0 := 64) (pc' := 74) rfl (hb hby d11_64) rfl (flt hc64).2.2.2 (by decide) (by decide) hr) ?_
            show Runs p e below _ (s₁.setTop (mkF m 74 #[.val (.int ((((((z0.toUInt32 >>> ((16 : Int32) &&& 31).toUInt32).toInt32).toUInt32 >>> ((8 : Int32) &&& 31).toUInt32).toInt32).toUInt32 >>> ((4 : Int32) &&& 31).toUInt32).toInt32)), .val (.int (29 : Int32))] []))
            refine Runs.by (fun _ hr => XS.iloadN X0.here hx rfl (hb hby d11_74) rfl  hr) ?_
            show Runs p e below _ (s₁.setTop (mkF m 75 #[.val (.int ((((((z0.toUInt32 >>> ((16 : Int32) &&& 31).toUInt32).toInt32).toUInt32 >>> ((8 : Int32) &&& 31).toUInt32).toInt32).toUInt32 >>> ((4 : Int32) &&& 31).toUInt32).toInt32)), .val (.int (29 : Int32))] [(.int (29 : Int32))]))
            refine Runs.by (fun _ hr => XS.iloadN X0.here hx rfl (hb hby d11_75) rfl  hr) ?_
            show Runs p e below _ (s₁.setTop (mkF m 76 #[.val (.int ((((((z0.toUInt32 >>> ((16 : Int32) &&& 31).toUInt32).toInt32).toUInt32 >>> ((8 : Int32) &&& 31).toUInt32).toInt32).toUInt32 >>> ((4 : Int32) &&& 31).toUInt32).toInt32)), .val (.int (29 : Int32))] [(.int ((((((z0.toUInt32 >>> ((16 : Int32) &&& 31).toUInt32).toInt32).toUInt32 >>> ((8 : Int32) &&& 31).toUInt32).toInt32).toUInt32 >>> ((4 : Int32) &&& 31).toUInt32).toInt32)), (.int (29 : Int32))]))
            refine Runs.by (fun _ hr => XS.iconst X0.here hx rfl (hb hby d11_76) hr) ?_
            show Runs p e below _ (s₁.setTop (mkF m 77 #[.val (.int ((((((z0.toUInt32 >>> ((16 : Int32) &&& 31).toUInt32).toInt32).toUInt32 >>> ((8 : Int32) &&& 31).toUInt32).toInt32).toUInt32 >>> ((4 : Int32) &&& 31).toUInt32).toInt32)), .val (.int (29 : Int32))] [(.int (1 : Int32)), (.int ((((((z0.toUInt32 >>> ((16 : Int32) &&& 31).toUInt32).toInt32).toUInt32 >>> ((8 : Int32) &&& 31).toUInt32).toInt32).toUInt32 >>> ((4 : Int32) &&& 31).toUInt32).toInt32)), (.int (29 : Int32))]))
            refine Runs.by (fun _ hr => XS.iushr X0.here hx rfl (hb hby d11_77) rfl hr) ?_
            show Runs p e below _ (s₁.setTop (mkF m 78 #[.val (.int ((((((z0.toUInt32 >>> ((16 : Int32) &&& 31).toUInt32).toInt32).toUInt32 >>> ((8 : Int32) &&& 31).toUInt32).toInt32).toUInt32 >>> ((4 : Int32) &&& 31).toUInt32).toInt32)), .val (.int (29 : Int32))] [(.int ((((((((z0.toUInt32 >>> ((16 : Int32) &&& 31).toUInt32).toInt32).toUInt32 >>> ((8 : Int32) &&& 31).toUInt32).toInt32).toUInt32 >>> ((4 : Int32) &&& 31).toUInt32).toInt32).toUInt32 >>> ((1 : Int32) &&& 31).toUInt32).toInt32)), (.int (29 : Int32))]))
            refine Runs.by (fun _ hr => XS.iadd X0.here hx rfl (hb hby d11_78) rfl hr) ?_
            show Runs p e below _ (s₁.setTop (mkF m 79 #[.val (.int ((((((z0.toUInt32 >>> ((16 : Int32) &&& 31).toUInt32).toInt32).toUInt32 >>> ((8 : Int32) &&& 31).toUInt32).toInt32).toUInt32 >>> ((4 : Int32) &&& 31).toUInt32).toInt32)), .val (.int (29 : Int32))] [(.int ((29 : Int32) + ((((((((z0.toUInt32 >>> ((16 : Int32) &&& 31).toUInt32).toInt32).toUInt32 >>> ((8 : Int32) &&& 31).toUInt32).toInt32).toUInt32 >>> ((4 : Int32) &&& 31).toUInt32).toInt32).toUInt32 >>> ((1 : Int32) &&& 31).toUInt32).toInt32)))]))
            refine Runs.ret X0 hx hrt hlk (Or.inl ⟨rfl, by simp, _, rfl⟩) rfl (hb hby d11_79) (by decide) (by decide) ?_
            rw [e0]
            exact ⟨congrArg (fun z => some (Value.int z)) (en.trans ((if_pos hc23).trans ((if_pos hc38).trans ((if_pos hc52).trans ((if_neg hc64).trans rfl))))).symm, N0, rfl⟩
        · -- pc 52: not (16 : Int32) < ((((z0.toUInt32 >>> ((16 : Int32) &&& 31).toUInt32).toInt32).toUInt32 >>> ((8 : Int32) &&& 31).toUInt32).toInt32)
          refine Runs.by (fun _ hr => XS.icmpYes X0.here hx rfl (pc0 := 52) (pc' := 62) rfl (hb hby d11_52) rfl (flt hc52).2.2.2 (by decide) (by decide) hr) ?_
          show Runs p e below _ (s₁.setTop (mkF m 62 #[.val (.int ((((z0.toUInt32 >>> ((16 : Int32) &&& 31).toUInt32).toInt32).toUInt32 >>> ((8 : Int32) &&& 31).toUInt32).toInt32)), .val (.int (25 : Int32))] []))
          refine Runs.by (fun _ hr => XS.iloadN X0.here hx rfl (hb hby d11_62) rfl  hr) ?_
          show Runs p e below _ (s₁.setTop (mkF m 63 #[.val (.int ((((z0.toUInt32 >>> ((16 : Int32) &&& 31).toUInt32).toInt32).toUInt32 >>> ((8 : Int32) &&& 31).toUInt32).toInt32)), .val (.int (25 : Int32))] [(.int ((((z0.toUInt32 >>> ((16 : Int32) &&& 31).toUInt32).toInt32).toUInt32 >>> ((8 : Int32) &&& 31).toUInt32).toInt32))]))
          refine Runs.by (fun _ hr => XS.iconst X0.here hx rfl (hb hby d11_63) hr) ?_
          show Runs p e below _ (s₁.setTop (mkF m 64 #[.val (.int ((((z0.toUInt32 >>> ((16 : Int32) &&& 31).toUInt32).toInt32).toUInt32 >>> ((8 : Int32) &&& 31).toUInt32).toInt32)), .val (.int (25 : Int32))] [(.int (4 : Int32)), (.int ((((z0.toUInt32 >>> ((16 : Int32) &&& 31).toUInt32).toInt32).toUInt32 >>> ((8 : Int32) &&& 31).toUInt32).toInt32))]))
          by_cases hc64 : (4 : Int32) < ((((z0.toUInt32 >>> ((16 : Int32) &&& 31).toUInt32).toInt32).toUInt32 >>> ((8 : Int32) &&& 31).toUInt32).toInt32)
          · -- pc 64: (4 : Int32) < ((((z0.toUInt32 >>> ((16 : Int32) &&& 31).toUInt32).toInt32).toUInt32 >>> ((8 : Int32) &&& 31).toUInt32).toInt32)
            refine Runs.by (fun _ hr => XS.icmpNo X0.here hx rfl (hb hby d11_64) rfl (tlt hc64).2.2.2 hr) ?_
            show Runs p e below _ (s₁.setTop (mkF m 67 #[.val (.int ((((z0.toUInt32 >>> ((16 : Int32) &&& 31).toUInt32).toInt32).toUInt32 >>> ((8 : Int32) &&& 31).toUInt32).toInt32)), .val (.int (25 : Int32))] []))
            refine Runs.by (fun _ hr => XS.iinc X0.here hx rfl (hb hby d11_67) rfl (l' := #[.val (.int ((((z0.toUInt32 >>> ((16 : Int32) &&& 31).toUInt32).toInt32).toUInt32 >>> ((8 : Int32) &&& 31).toUInt32).toInt32)), .val (.int (27 : Int32))]) rfl hr) ?_
            show Runs p e below _ (s₁.setTop (mkF m 70 #[.val (.int ((((z0.toUInt32 >>> ((16 : Int32) &&& 31).toUInt32).toInt32).toUInt32 >>> ((8 : Int32) &&& 31).toUInt32).toInt32)), .val (.int (27 : Int32))] []))
            refine Runs.by (fun _ hr => XS.iloadN X0.here hx rfl (hb hby d11_70) rfl  hr) ?_
            show Runs p e below _ (s₁.setTop (mkF m 71 #[.val (.int ((((z0.toUInt32 >>> ((16 : Int32) &&& 31).toUInt32).toInt32).toUInt32 >>> ((8 : Int32) &&& 31).toUInt32).toInt32)), .val (.int (27 : Int32))] [(.int ((((z0.toUInt32 >>> ((16 : Int32) &&& 31).toUInt32).toInt32).toUInt32 >>> ((8 : Int32) &&& 31).toUInt32).toInt32))]))
            refine Runs.by (fun _ hr => XS.iconst X0.here hx rfl (hb hby d11_71) hr) ?_
            show Runs p e below _ (s₁.setTop (mkF m 72 #[.val (.int ((((z0.toUInt32 >>> ((16 : Int32) &&& 31).toUInt32).toInt32).toUInt32 >>> ((8 : Int32) &&& 31).toUInt32).toInt32)), .val (.int (27 : Int32))] [(.int (2 : Int32)), (.int ((((z0.toUInt32 >>> ((16 : Int32) &&& 31).toUInt32).toInt32).toUInt32 >>> ((8 : Int32) &&& 31).toUInt32).toInt32))]))
            refine Runs.by (fun _ hr => XS.iushr X0.here hx rfl (hb hby d11_72) rfl hr) ?_
            show Runs p e below _ (s₁.setTop (mkF m 73 #[.val (.int ((((z0.toUInt32 >>> ((16 : Int32) &&& 31).toUInt32).toInt32).toUInt32 >>> ((8 : Int32) &&& 31).toUInt32).toInt32)), .val (.int (27 : Int32))] [(.int ((((((z0.toUInt32 >>> ((16 : Int32) &&& 31).toUInt32).toInt32).toUInt32 >>> ((8 : Int32) &&& 31).toUInt32).toInt32).toUInt32 >>> ((2 : Int32) &&& 31).toUInt32).toInt32))]))
            refine Runs.by (fun _ hr => XS.istoreN X0.here hx rfl (hb hby d11_73) rfl (l' := #[.val (.int ((((((z0.toUInt32 >>> ((16 : Int32) &&& 31).toUInt32).toInt32).toUInt32 >>> ((8 : Int32) &&& 31).toUInt32).toInt32).toUInt32 >>> ((2 : Int32) &&& 31).toUInt32).toInt32)), .val (.int (27 : Int32))]) rfl hr) ?_
            show Runs p e below _ (s₁.setTop (mkF m 74 #[.val (.int ((((((z0.toUInt32 >>> ((16 : Int32) &&& 31).toUInt32).toInt32).toUInt32 >>> ((8 : Int32) &&& 31).toUInt32).toInt32).toUInt32 >>> ((2 : Int32) &&& 31).toUInt32).toInt32)), .val (.int (27 : Int32))] []))
            refine Runs.by (fun _ hr => XS.iloadN X0.here hx rfl (hb hby d11_74) rfl  hr) ?_
            show Runs p e below _ (s₁.setTop (mkF m 75 #[.val (.int ((((((z0.toUInt32 >>> ((16 : Int32) &&& 31).toUInt32).toInt32).toUInt32 >>> ((8 : Int32) &&& 31).toUInt32).toInt32).toUInt32 >>> ((2 : Int32) &&& 31).toUInt32).toInt32)), .val (.int (27 : Int32))] [(.int (27 : Int32))]))
            refine Runs.by (fun _ hr => XS.iloadN X0.here hx rfl (hb hby d11_75) rfl  hr) ?_
            show Runs p e below _ (s₁.setTop (mkF m 76 #[.val (.int ((((((z0.toUInt32 >>> ((16 : Int32) &&& 31).toUInt32).toInt32).toUInt32 >>> ((8 : Int32) &&& 31).toUInt32).toInt32).toUInt32 >>> ((2 : Int32) &&& 31).toUInt32).toInt32)), .val (.int (27 : Int32))] [(.int ((((((z0.toUInt32 >>> ((16 : Int32) &&& 31).toUInt32).toInt32).toUInt32 >>> ((8 : Int32) &&& 31).toUInt32).toInt32).toUInt32 >>> ((2 : Int32) &&& 31).toUInt32).toInt32)), (.int (27 : Int32))]))
            refine Runs.by (fun _ hr => XS.iconst X0.here hx rfl (hb hby d11_76) hr) ?_
            show Runs p e below _ (s₁.setTop (mkF m 77 #[.val (.int ((((((z0.toUInt32 >>> ((16 : Int32) &&& 31).toUInt32).toInt32).toUInt32 >>> ((8 : Int32) &&& 31).toUInt32).toInt32).toUInt32 >>> ((2 : Int32) &&& 31).toUInt32).toInt32)), .val (.int (27 : Int32))] [(.int (1 : Int32)), (.int ((((((z0.toUInt32 >>> ((16 : Int32) &&& 31).toUInt32).toInt32).toUInt32 >>> ((8 : Int32) &&& 31).toUInt32).toInt32).toUInt32 >>> ((2 : Int32) &&& 31).toUInt32).toInt32)), (.int (27 : Int32))]))
            refine Runs.by (fun _ hr => XS.iushr X0.here hx rfl (hb hby d11_77) rfl hr) ?_
            show Runs p e below _ (s₁.setTop (mkF m 78 #[.val (.int ((((((z0.toUInt32 >>> ((16 : Int32) &&& 31).toUInt32).toInt32).toUInt32 >>> ((8 : Int32) &&& 31).toUInt32).toInt32).toUInt32 >>> ((2 : Int32) &&& 31).toUInt32).toInt32)), .val (.int (27 : Int32))] [(.int ((((((((z0.toUInt32 >>> ((16 : Int32) &&& 31).toUInt32).toInt32).toUInt32 >>> ((8 : Int32) &&& 31).toUInt32).toInt32).toUInt32 >>> ((2 : Int32) &&& 31).toUInt32).toInt32).toUInt32 >>> ((1 : Int32) &&& 31).toUInt32).toInt32)), (.int (27 : Int32))]))
            refine Runs.by (fun _ hr => XS.iadd X0.here hx rfl (hb hby d11_78) rfl hr) ?_
            show Runs p e below _ (s₁.setTop (mkF m 79 #[.val (.int ((((((z0.toUInt32 >>> ((16 : Int32) &&& 31).toUInt32).toInt32).toUInt32 >>> ((8 : Int32) &&& 31).toUInt32).toInt32).toUInt32 >>> ((2 : Int32) &&& 31).toUInt32).toInt32)), .val (.int (27 : Int32))] [(.int ((27 : Int32) + ((((((((z0.toUInt32 >>> ((16 : Int32) &&& 31).toUInt32).toInt32).toUInt32 >>> ((8 : Int32) &&& 31).toUInt32).toInt32).toUInt32 >>> ((2 : Int32) &&& 31).toUInt32).toInt32).toUInt32 >>> ((1 : Int32) &&& 31).toUInt32).toInt32)))]))
            refine Runs.ret X0 hx hrt hlk (Or.inl ⟨rfl, by simp, _, rfl⟩) rfl (hb hby d11_79) (by decide) (by decide) ?_
            rw [e0]
            exact ⟨congrArg (fun z => some (Value.int z)) (en.trans ((if_pos hc23).trans ((if_pos hc38).trans ((if_neg hc52).trans ((if_pos hc64).trans rfl))))).symm, N0, rfl⟩
          · -- pc 64: not (4 : Int32) < ((((z0.toUInt32 >>> ((16 : Int32) &&& 31).toUInt32).toInt32).toUInt32 >>> ((8 : Int32) &&& 31).toUInt32).toInt32)
            refine Runs.by (fun _ hr => XS.icmpYes X0.here hx rfl (pc0 := 64) (pc' := 74) rfl (hb hby d11_64) rfl (flt hc64).2.2.2 (by decide) (by decide) hr) ?_
            show Runs p e below _ (s₁.setTop (mkF m 74 #[.val (.int ((((z0.toUInt32 >>> ((16 : Int32) &&& 31).toUInt32).toInt32).toUInt32 >>> ((8 : Int32) &&& 31).toUInt32).toInt32)), .val (.int (25 : Int32))] []))
            refine Runs.by (fun _ hr => XS.iloadN X0.here hx rfl (hb hby d11_74) rfl  hr) ?_
            show Runs p e below _ (s₁.setTop (mkF m 75 #[.val (.int ((((z0.toUInt32 >>> ((16 : Int32) &&& 31).toUInt32).toInt32).toUInt32 >>> ((8 : Int32) &&& 31).toUInt32).toInt32)), .val (.int (25 : Int32))] [(.int (25 : Int32))]))
            refine Runs.by (fun _ hr => XS.iloadN X0.here hx rfl (hb hby d11_75) rfl  hr) ?_
            show Runs p e below _ (s₁.setTop (mkF m 76 #[.val (.int ((((z0.toUInt32 >>> ((16 : Int32) &&& 31).toUInt32).toInt32).toUInt32 >>> ((8 : Int32) &&& 31).toUInt32).toInt32)), .val (.int (25 : Int32))] [(.int ((((z0.toUInt32 >>> ((16 : Int32) &&& 31).toUInt32).toInt32).toUInt32 >>> ((8 : Int32) &&& 31).toUInt32).toInt32)), (.int (25 : Int32))]))
            refine Runs.by (fun _ hr => XS.iconst X0.here hx rfl (hb hby d11_76) hr) ?_
            show Runs p e below _ (s₁.setTop (mkF m 77 #[.val (.int ((((z0.toUInt32 >>> ((16 : Int32) &&& 31).toUInt32).toInt32).toUInt32 >>> ((8 : Int32) &&& 31).toUInt32).toInt32)), .val (.int (25 : Int32))] [(.int (1 : Int32)), (.int ((((z0.toUInt32 >>> ((16 : Int32) &&& 31).toUInt32).toInt32).toUInt32 >>> ((8 : Int32) &&& 31).toUInt32).toInt32)), (.int (25 : Int32))]))
            refine Runs.by (fun _ hr => XS.iushr X0.here hx rfl (hb hby d11_77) rfl hr) ?_
            show Runs p e below _ (s₁.setTop (mkF m 78 #[.val (.int ((((z0.toUInt32 >>> ((16 : Int32) &&& 31).toUInt32).toInt32).toUInt32 >>> ((8 : Int32) &&& 31).toUInt32).toInt32)), .val (.int (25 : Int32))] [(.int ((((((z0.toUInt32 >>> ((16 : Int32) &&& 31).toUInt32).toInt32).toUInt32 >>> ((8 : Int32) &&& 31).toUInt32).toInt32).toUInt32 >>> ((1 : Int32) &&& 31).toUInt32).toInt32)), (.int (25 : Int32))]))
            refine Runs.by (fun _ hr => XS.iadd X0.here hx rfl (hb hby d11_78) rfl hr) ?_
            show Runs p e below _ (s₁.setTop (mkF m 79 #[.val (.int ((((z0.toUInt32 >>> ((16 : Int32) &&& 31).toUInt32).toInt32).toUInt32 >>> ((8 : Int32) &&& 31).toUInt32).toInt32)), .val (.int (25 : Int32))] [(.int ((25 : Int32) + ((((((z0.toUInt32 >>> ((16 : Int32) &&& 31).toUInt32).toInt32).toUInt32 >>> ((8 : Int32) &&& 31).toUInt32).toInt32).toUInt32 >>> ((1 : Int32) &&& 31).toUInt32).toInt32)))]))
            refine Runs.ret X0 hx hrt hlk (Or.inl ⟨rfl, by simp, _, rfl⟩) rfl (hb hby d11_79) (by decide) (by decide) ?_
            rw [e0]
            exact ⟨congrArg (fun z => some (Value.int z)) (en.trans ((if_pos hc23).trans ((if_pos hc38).trans ((if_neg hc52).trans ((if_neg hc64).trans rfl))))).symm, N0, rfl⟩
      · -- pc 38: not (256 : Int32) < ((z0.toUInt32 >>> ((16 : Int32) &&& 31).toUInt32).toInt32)
        refine Runs.by (fun _ hr => XS.icmpYes X0.here hx rfl (pc0 := 38) (pc' := 49) rfl (hb hby d11_38) rfl (flt hc38).2.2.2 (by decide) (by decide) hr) ?_
        show Runs p e below _ (s₁.setTop (mkF m 49 #[.val (.int ((z0.toUInt32 >>> ((16 : Int32) &&& 31).toUInt32).toInt32)), .val (.int (17 : Int32))] []))
        refine Runs.by (fun _ hr => XS.iloadN X0.here hx rfl (hb hby d11_49) rfl  hr) ?_
        show Runs p e below _ (s₁.setTop (mkF m 50 #[.val (.int ((z0.toUInt32 >>> ((16 : Int32) &&& 31).toUInt32).toInt32)), .val (.int (17 : Int32))] [(.int ((z0.toUInt32 >>> ((16 : Int32) &&& 31).toUInt32).toInt32))]))
        refine Runs.by (fun _ hr => XS.bipush X0.here hx rfl (hb hby d11_50) hr) ?_
        show Runs p e below _ (s₁.setTop (mkF m 52 #[.val (.int ((z0.toUInt32 >>> ((16 : Int32) &&& 31).toUInt32).toInt32)), .val (.int (17 : Int32))] [(.int (16 : Int32)), (.int ((z0.toUInt32 >>> ((16 : Int32) &&& 31).toUInt32).toInt32))]))
        by_cases hc52 : (16 : Int32) < ((z0.toUInt32 >>> ((16 : Int32) &&& 31).toUInt32).toInt32)
        · -- pc 52: (16 : Int32) < ((z0.toUInt32 >>> ((16 : Int32) &&& 31).toUInt32).toInt32)
          refine Runs.by (fun _ hr => XS.icmpNo X0.here hx rfl (hb hby d11_52) rfl (tlt hc52).2.2.2 hr) ?_
          show Runs p e below _ (s₁.setTop (mkF m 55 #[.val (.int ((z0.toUInt32 >>> ((16 : Int32) &&& 31).toUInt32).toInt32)), .val (.int (17 : Int32))] []))
          refine Runs.by (fun _ hr => XS.iinc X0.here hx rfl (hb hby d11_55) rfl (l' := #[.val (.int ((z0.toUInt32 >>> ((16 : Int32) &&& 31).toUInt32).toInt32)), .val (.int (21 : Int32))]) rfl hr) ?_
          show Runs p e below _ (s₁.setTop (mkF m 58 #[.val (.int ((z0.toUInt32 >>> ((16 : Int32) &&& 31).toUInt32).toInt32)), .val (.int (21 : Int32))] []))
          refine Runs.by (fun _ hr => XS.iloadN X0.here hx rfl (hb hby d11_58) rfl  hr) ?_
          show Runs p e below _ (s₁.setTop (mkF m 59 #[.val (.int ((z0.toUInt32 >>> ((16 : Int32) &&& 31).toUInt32).toInt32)), .val (.int (21 : Int32))] [(.int ((z0.toUInt32 >>> ((16 : Int32) &&& 31).toUInt32).toInt32))]))
          refine Runs.by (fun _ hr => XS.iconst X0.here hx rfl (hb hby d11_59) hr) ?_
          show Runs p e below _ (s₁.setTop (mkF m 60 #[.val (.int ((z0.toUInt32 >>> ((16 : Int32) &&& 31).toUInt32).toInt32)), .val (.int (21 : Int32))] [(.int (4 : Int32)), (.int ((z0.toUInt32 >>> ((16 : Int32) &&& 31).toUInt32).toInt32))]))
          refine Runs.by (fun _ hr => XS.iushr X0.here hx rfl (hb hby d11_60) rfl hr) ?_
          show Runs p e below _ (s₁.setTop (mkF m 61 #[.val (.int ((z0.toUInt32 >>> ((16 : Int32) &&& 31).toUInt32).toInt32)), .val (.int (21 : Int32))] [(.int ((((z0.toUInt32 >>> ((16 : Int32) &&& 31).toUInt32).toInt32).toUInt32 >>> ((4 : Int32) &&& 31).toUInt32).toInt32))]))
          refine Runs.by (fun _ hr => XS.istoreN X0.here hx rfl (hb hby d11_61) rfl (l' := #[.val (.int ((((z0.toUInt32 >>> ((16 : Int32) &&& 31).toUInt32).toInt32).toUInt32 >>> ((4 : Int32) &&& 31).toUInt32).toInt32)), .val (.int (21 : Int32))]) rfl hr) ?_
          show Runs p e below _ (s₁.setTop (mkF m 62 #[.val (.int ((((z0.toUInt32 >>> ((16 : Int32) &&& 31).toUInt32).toInt32).toUInt32 >>> ((4 : Int32) &&& 31).toUInt32).toInt32)), .val (.int (21 : Int32))] []))
          refine Runs.by (fun _ hr => XS.iloadN X0.here hx rfl (hb hby d11_62) rfl  hr) ?_
          show Runs p e below _ (s₁.setTop (mkF m 63 #[.val (.int ((((z0.toUInt32 >>> ((16 : Int32) &&& 31).toUInt32).toInt32).toUInt32 >>> ((4 : Int32) &&& 31).toUInt32).toInt32)), .val (.int (21 : Int32))] [(.int ((((z0.toUInt32 >>> ((16 : Int32) &&& 31).toUInt32).toInt32).toUInt32 >>> ((4 : Int32) &&& 31).toUInt32).toInt32))]))
          refine Runs.by (fun _ hr => XS.iconst X0.here hx rfl (hb hby d11_63) hr) ?_
          show Runs p e below _ (s₁.setTop (mkF m 64 #[.val (.int ((((z0.toUInt32 >>> ((16 : Int32) &&& 31).toUInt32).toInt32).toUInt32 >>> ((4 : Int32) &&& 31).toUInt32).toInt32)), .val (.int (21 : Int32))] [(.int (4 : Int32)), (.int ((((z0.toUInt32 >>> ((16 : Int32) &&& 31).toUInt32).toInt32).toUInt32 >>> ((4 : Int32) &&& 31).toUInt32).toInt32))]))
          by_cases hc64 : (4 : Int32) < ((((z0.toUInt32 >>> ((16 : Int32) &&& 31).toUInt32).toInt32).toUInt32 >>> ((4 : Int32) &&& 31).toUInt32).toInt32)
          · -- pc 64: (4 : Int32) < ((((z0.toUInt32 >>> ((16 : Int32) &&& 31).toUInt32).toInt32).toUInt32 >>> ((4 : Int32) &&& 31).toUInt32).toInt32)
            refine Runs.by (fun _ hr => XS.icmpNo X0.here hx rfl (hb hby d11_64) rfl (tlt hc64).2.2.2 hr) ?_
            show Runs p e below _ (s₁.setTop (mkF m 67 #[.val (.int ((((z0.toUInt32 >>> ((16 : Int32) &&& 31).toUInt32).toInt32).toUInt32 >>> ((4 : Int32) &&& 31).toUInt32).toInt32)), .val (.int (21 : Int32))] []))
            refine Runs.by (fun _ hr => XS.iinc X0.here hx rfl (hb hby d11_67) rfl (l' := #[.val (.int ((((z0.toUInt32 >>> ((16 : Int32) &&& 31).toUInt32).toInt32).toUInt32 >>> ((4 : Int32) &&& 31).toUInt32).toInt32)), .val (.int (23 : Int32))]) rfl hr) ?_
            show Runs p e below _ (s₁.setTop (mkF m 70 #[.val (.int ((((z0.toUInt32 >>> ((16 : Int32) &&& 31).toUInt32).toInt32).toUInt32 >>> ((4 : Int32) &&& 31).toUInt32).toInt32)), .val (.int (23 : Int32))] []))
            refine Runs.by (fun _ hr => XS.iloadN X0.here hx rfl (hb hby d11_70) rfl  hr) ?_
            show Runs p e below _ (s₁.setTop (mkF m 71 #[.val (.int ((((z0.toUInt32 >>> ((16 : Int32) &&& 31).toUInt32).toInt32).toUInt32 >>> ((4 : Int32) &&& 31).toUInt32).toInt32)), .val (.int (23 : Int32))] [(.int ((((z0.toUInt32 >>> ((16 : Int32) &&& 31).toUInt32).toInt32).toUInt32 >>> ((4 : Int32) &&& 31).toUInt32).toInt32))]))
            refine Runs.by (fun _ hr => XS.iconst X0.here hx rfl (hb hby d11_71) hr) ?_
            show Runs p e below _ (s₁.setTop (mkF m 72 #[.val (.int ((((z0.toUInt32 >>> ((16 : Int32) &&& 31).toUInt32).toInt32).toUInt32 >>> ((4 : Int32) &&& 31).toUInt32).toInt32)), .val (.int (23 : Int32))] [(.int (2 : Int32)), (.int ((((z0.toUInt32 >>> ((16 : Int32) &&& 31).toUInt32).toInt32).toUInt32 >>> ((4 : Int32) &&& 31).toUInt32).toInt32))]))
            refine Runs.by (fun _ hr => XS.iushr X0.here hx rfl (hb hby d11_72) rfl hr) ?_
            show Runs p e below _ (s₁.setTop (mkF m 73 #[.val (.int ((((z0.toUInt32 >>> ((16 : Int32) &&& 31).toUInt32).toInt32).toUInt32 >>> ((4 : Int32) &&& 31).toUInt32).toInt32)), .val (.int (23 : Int32))] [(.int ((((((z0.toUInt32 >>> ((16 : Int32) &&& 31).toUInt32).toInt32).toUInt32 >>> ((4 : Int32) &&& 31).toUInt32).toInt32).toUInt32 >>> ((2 : Int32) &&& 31).toUInt32).toInt32))]))
            refine Runs.by (fun _ hr => XS.istoreN X0.here hx rfl (hb hby d11_73) rfl (l' := #[.val (.int ((((((z0.toUInt32 >>> ((16 : Int32) &&& 31).toUInt32).toInt32).toUInt32 >>> ((4 : Int32) &&& 31).toUInt32).toInt32).toUInt32 >>> ((2 : Int32) &&& 31).toUInt32).toInt32)), .val (.int (23 : Int32))]) rfl hr) ?_
            show Runs p e below _ (s₁.setTop (mkF m 74 #[.val (.int ((((((z0.toUInt32 >>> ((16 : Int32) &&& 31).toUInt32).toInt32).toUInt32 >>> ((4 : Int32) &&& 31).toUInt32).toInt32).toUInt32 >>> ((2 : Int32) &&& 31).toUInt32).toInt32)), .val (.int (23 : Int32))] []))
            refine Runs.by (fun _ hr => XS.iloadN X0.here hx rfl (hb hby d11_74) rfl  hr) ?_
            show Runs p e below _ (s₁.setTop (mkF m 75 #[.val (.int ((((((z0.toUInt32 >>> ((16 : Int32) &&& 31).toUInt32).toInt32).toUInt32 >>> ((4 : Int32) &&& 31).toUInt32).toInt32).toUInt32 >>> ((2 : Int32) &&& 31).toUInt32).toInt32)), .val (.int (23 : Int32))] [(.int (23 : Int32))]))
            refine Runs.by (fun _ hr => XS.iloadN X0.here hx rfl (hb hby d11_75) rfl  hr) ?_
            show Runs p e below _ (s₁.setTop (mkF m 76 #[.val (.int ((((((z0.toUInt32 >>> ((16 : Int32) &&& 31).toUInt32).toInt32).toUInt32 >>> ((4 : Int32) &&& 31).toUInt32).toInt32).toUInt32 >>> ((2 : Int32) &&& 31).toUInt32).toInt32)), .val (.int (23 : Int32))] [(.int ((((((z0.toUInt32 >>> ((16 : Int32) &&& 31).toUInt32).toInt32).toUInt32 >>> ((4 : Int32) &&& 31).toUInt32).toInt32).toUInt32 >>> ((2 : Int32) &&& 31).toUInt32).toInt32)), (.int (23 : Int32))]))
            refine Runs.by (fun _ hr => XS.iconst X0.here hx rfl (hb hby d11_76) hr) ?_
            show Runs p e below _ (s₁.setTop (mkF m 77 #[.val (.int ((((((z0.toUInt32 >>> ((16 : Int32) &&& 31).toUInt32).toInt32).toUInt32 >>> ((4 : Int32) &&& 31).toUInt32).toInt32).toUInt32 >>> ((2 : Int32) &&& 31).toUInt32).toInt32)), .val (.int (23 : Int32))] [(.int (1 : Int32)), (.int ((((((z0.toUInt32 >>> ((16 : Int32) &&& 31).toUInt32).toInt32).toUInt32 >>> ((4 : Int32) &&& 31).toUInt32).toInt32).toUInt32 >>> ((2 : Int32) &&& 31).toUInt32).toInt32)), (.int (23 : Int32))]))
            refine Runs.by (fun _ hr => XS.iushr X0.here hx rfl (hb hby d11_77) rfl hr) ?_
            show Runs p e below _ (s₁.setTop (mkF m 78 #[.val (.int ((((((z0.toUInt32 >>> ((16 : Int32) &&& 31).toUInt32).toInt32).toUInt32 >>> ((4 : Int32) &&& 31).toUInt32).toInt32).toUInt32 >>> ((2 : Int32) &&& 31).toUInt32).toInt32)), .val (.int (23 : Int32))] [(.int ((((((((z0.toUInt32 >>> ((16 : Int32) &&& 31).toUInt32).toInt32).toUInt32 >>> ((4 : Int32) &&& 31).toUInt32).toInt32).toUInt32 >>> ((2 : Int32) &&& 31).toUInt32).toInt32).toUInt32 >>> ((1 : Int32) &&& 31).toUInt32).toInt32)), (.int (23 : Int32))]))
            refine Runs.by (fun _ hr => XS.iadd X0.here hx rfl (hb hby d11_78) rfl hr) ?_
            show Runs p e below _ (s₁.setTop (mkF m 79 #[.val (.int ((((((z0.toUInt32 >>> ((16 : Int32) &&& 31).toUInt32).toInt32).toUInt32 >>> ((4 : Int32) &&& 31).toUInt32).toInt32).toUInt32 >>> ((2 : Int32) &&& 31).toUInt32).toInt32)), .val (.int (23 : Int32))] [(.int ((23 : Int32) + ((((((((z0.toUInt32 >>> ((16 : Int32) &&& 31).toUInt32).toInt32).toUInt32 >>> ((4 : Int32) &&& 31).toUInt32).toInt32).toUInt32 >>> ((2 : Int32) &&& 31).toUInt32).toInt32).toUInt32 >>> ((1 : Int32) &&& 31).toUInt32).toInt32)))]))
            refine Runs.ret X0 hx hrt hlk (Or.inl ⟨rfl, by simp, _, rfl⟩) rfl (hb hby d11_79) (by decide) (by decide) ?_
            rw [e0]
            exact ⟨congrArg (fun z => some (Value.int z)) (en.trans ((if_pos hc23).trans ((if_neg hc38).trans ((if_pos hc52).trans ((if_pos hc64).trans rfl))))).symm, N0, rfl⟩
          · -- pc 64: not (4 : Int32) < ((((z0.toUInt32 >>> ((16 : Int32) &&& 31).toUInt32).toInt32).toUInt32 >>> ((4 : Int32) &&& 31).toUInt32).toInt32)
            refine Runs.by (fun _ hr => XS.icmpYes X0.here hx rfl (pc0 := 64) (pc' := 74) rfl (hb hby d11_64) rfl (flt hc64).2.2.2 (by decide) (by decide) hr) ?_
            show Runs p e below _ (s₁.setTop (mkF m 74 #[.val (.int ((((z0.toUInt32 >>> ((16 : Int32) &&& 31).toUInt32).toInt32).toUInt32 >>> ((4 : Int32) &&& 31).toUInt32).toInt32)), .val (.int (21 : Int32))] []))
            refine Runs.by (fun _ hr => XS.iloadN X0.here hx rfl (hb hby d11_74) rfl  hr) ?_
            show Runs p e below _ (s₁.setTop (mkF m 75 #[.val (.int ((((z0.toUInt32 >>> ((16 : Int32) &&& 31).toUInt32).toInt32).toUInt32 >>> ((4 : Int32) &&& 31).toUInt32).toInt32)), .val (.int (21 : Int32))] [(.int (21 : Int32))]))
            refine Runs.by (fun _ hr => XS.iloadN X0.here hx rfl (hb hby d11_75) rfl  hr) ?_
            show Runs p e below _ (s₁.setTop (mkF m 76 #[.val (.int ((((z0.toUInt32 >>> ((16 : Int32) &&& 31).toUInt32).toInt32).toUInt32 >>> ((4 : Int32) &&& 31).toUInt32).toInt32)), .val (.int (21 : Int32))] [(.int ((((z0.toUInt32 >>> ((16 : Int32) &&& 31).toUInt32).toInt32).toUInt32 >>> ((4 : Int32) &&& 31).toUInt32).toInt32)), (.int (21 : Int32))]))
            refine Runs.by (fun _ hr => XS.iconst X0.here hx rfl (hb hby d11_76) hr) ?_
            show Runs p e below _ (s₁.setTop (mkF m 77 #[.val (.int ((((z0.toUInt32 >>> ((16 : Int32) &&& 31).toUInt32).toInt32).toUInt32 >>> ((4 : Int32) &&& 31).toUInt32).toInt32)), .val (.int (21 : Int32))] [(.int (1 : Int32)), (.int ((((z0.toUInt32 >>> ((16 : Int32) &&& 31).toUInt32).toInt32).toUInt32 >>> ((4 : Int32) &&& 31).toUInt32).toInt32)), (.int (21 : Int32))]))
            refine Runs.by (fun _ hr => XS.iushr X0.here hx rfl (hb hby d11_77) rfl hr) ?_
            show Runs p e below _ (s₁.setTop (mkF m 78 #[.val (.int ((((z0.toUInt32 >>> ((16 : Int32) &&& 31).toUInt32).toInt32).toUInt32 >>> ((4 : Int32) &&& 31).toUInt32).toInt32)), .val (.int (21 : Int32))] [(.int ((((((z0.toUInt32 >>> ((16 : Int32) &&& 31).toUInt32).toInt32).toUInt32 >>> ((4 : Int32) &&& 31).toUInt32).toInt32).toUInt32 >>> ((1 : Int32) &&& 31).toUInt32).toInt32)), (.int (21 : Int32))]))
            refine Runs.by (fun _ hr => XS.iadd X0.here hx rfl (hb hby d11_78) rfl hr) ?_
            show Runs p e below _ (s₁.setTop (mkF m 79 #[.val (.int ((((z0.toUInt32 >>> ((16 : Int32) &&& 31).toUInt32).toInt32).toUInt32 >>> ((4 : Int32) &&& 31).toUInt32).toInt32)), .val (.int (21 : Int32))] [(.int ((21 : Int32) + ((((((z0.toUInt32 >>> ((16 : Int32) &&& 31).toUInt32).toInt32).toUInt32 >>> ((4 : Int32) &&& 31).toUInt32).toInt32).toUInt32 >>> ((1 : Int32) &&& 31).toUInt32).toInt32)))]))
            refine Runs.ret X0 hx hrt hlk (Or.inl ⟨rfl, by simp, _, rfl⟩) rfl (hb hby d11_79) (by decide) (by decide) ?_
            rw [e0]
            exact ⟨congrArg (fun z => some (Value.int z)) (en.trans ((if_pos hc23).trans ((if_neg hc38).trans ((if_pos hc52).trans ((if_neg hc64).trans rfl))))).symm, N0, rfl⟩
        · -- pc 52: not (16 : Int32) < ((z0.toUInt32 >>> ((16 : Int32) &&& 31).toUInt32).toInt32)
          refine Runs.by (fun _ hr => XS.icmpYes X0.here hx rfl (pc0 := 52) (pc' := 62) rfl (hb hby d11_52) rfl (flt hc52).2.2.2 (by decide) (by decide) hr) ?_
          show Runs p e below _ (s₁.setTop (mkF m 62 #[.val (.int ((z0.toUInt32 >>> ((16 : Int32) &&& 31).toUInt32).toInt32)), .val (.int (17 : Int32))] []))
          refine Runs.by (fun _ hr => XS.iloadN X0.here hx rfl (hb hby d11_62) rfl  hr) ?_
          show Runs p e below _ (s₁.setTop (mkF m 63 #[.val (.int ((z0.toUInt32 >>> ((16 : Int32) &&& 31).toUInt32).toInt32)), .val (.int (17 : Int32))] [(.int ((z0.toUInt32 >>> ((16 : Int32) &&& 31).toUInt32).toInt32))]))
          refine Runs.by (fun _ hr => XS.iconst X0.here hx rfl (hb hby d11_63) hr) ?_
          show Runs p e below _ (s₁.setTop (mkF m 64 #[.val (.int ((z0.toUInt32 >>> ((16 : Int32) &&& 31).toUInt32).toInt32)), .val (.int (17 : Int32))] [(.int (4 : Int32)), (.int ((z0.toUInt32 >>> ((16 : Int32) &&& 31).toUInt32).toInt32))]))
          by_cases hc64 : (4 : Int32) < ((z0.toUInt32 >>> ((16 : Int32) &&& 31).toUInt32).toInt32)
          · -- pc 64: (4 : Int32) < ((z0.toUInt32 >>> ((16 : Int32) &&& 31).toUInt32).toInt32)
            refine Runs.by (fun _ hr => XS.icmpNo X0.here hx rfl (hb hby d11_64) rfl (tlt hc64).2.2.2 hr) ?_
            show Runs p e below _ (s₁.setTop (mkF m 67 #[.val (.int ((z0.toUInt32 >>> ((16 : Int32) &&& 31).toUInt32).toInt32)), .val (.int (17 : Int32))] []))
            refine Runs.by (fun _ hr => XS.iinc X0.here hx rfl (hb hby d11_67) rfl (l' := #[.val (.int ((z0.toUInt32 >>> ((16 : Int32) &&& 31).toUInt32).toInt32)), .val (.int (19 : Int32))]) rfl hr) ?_
            show Runs p e below _ (s₁.setTop (mkF m 70 #[.val (.int ((z0.toUInt32 >>> ((16 : Int32) &&& 31).toUInt32).toInt32)), .val (.int (19 : Int32))] []))
            refine Runs.by (fun _ hr => XS.iloadN X0.here hx rfl (hb hby d11_70) rfl  hr) ?_
            show Runs p e below _ (s₁.setTop (mkF m 71 #[.val (.int ((z0.toUInt32 >>> ((16 : Int32) &&& 31).toUInt32).toInt32)), .val (.int (19 : Int32))] [(.int ((z0.toUInt32 >>> ((16 : Int32) &&& 31).toUInt32).toInt32))]))
            refine Runs.by (fun _ hr => XS.iconst X0.here hx rfl (hb hby d11_71) hr) ?_
            show Runs p e below _ (s₁.setTop (mkF m 72 #[.val (.int ((z0.toUInt32 >>> ((16 : Int32) &&& 31).toUInt32).toInt32)), .val (.int (19 : Int32))] [(.int (2 : Int32)), (.int ((z0.toUInt32 >>> ((16 : Int32) &&& 31).toUInt32).toInt32))]))
            refine Runs.by (fun _ hr => XS.iushr X0.here hx rfl (hb hby d11_72) rfl hr) ?_
            show Runs p e below _ (s₁.setTop (mkF m 73 #[.val (.int ((z0.toUInt32 >>> ((16 : Int32) &&& 31).toUInt32).toInt32)), .val (.int (19 : Int32))] [(.int ((((z0.toUInt32 >>> ((16 : Int32) &&& 31).toUInt32).toInt32).toUInt32 >>> ((2 : Int32) &&& 31).toUInt32).toInt32))]))
            refine Runs.by (fun _ hr => XS.istoreN X0.here hx rfl (hb hby d11_73) rfl (l' := #[.val (.int ((((z0.toUInt32 >>> ((16 : Int32) &&& 31).toUInt32).toInt32).toUInt32 >>> ((2 : Int32) &&& 31).toUInt32).toInt32)), .val (.int (19 : Int32))]) rfl hr) ?_
            show Runs p e below _ (s₁.setTop (mkF m 74 #[.val (.int ((((z0.toUInt32 >>> ((16 : Int32) &&& 31).toUInt32).toInt32).toUInt32 >>> ((2 : Int32) &&& 31).toUInt32).toInt32)), .val (.int (19 : Int32))] []))
            refine Runs.by (fun _ hr => XS.iloadN X0.here hx rfl (hb hby d11_74) rfl  hr) ?_
            show Runs p e below _ (s₁.setTop (mkF m 75 #[.val (.int ((((z0.toUInt32 >>> ((16 : Int32) &&& 31).toUInt32).toInt32).toUInt32 >>> ((2 : Int32) &&& 31).toUInt32).toInt32)), .val (.int (19 : Int32))] [(.int (19 : Int32))]))
            refine Runs.by (fun _ hr => XS.iloadN X0.here hx rfl (hb hby d11_75) rfl  hr) ?_
            show Runs p e below _ (s₁.setTop (mkF m 76 #[.val (.int ((((z0.toUInt32 >>> ((16 : Int32) &&& 31).toUInt32).toInt32).toUInt32 >>> ((2 : Int32) &&& 31).toUInt32).toInt32)), .val (.int (19 : Int32))] [(.int ((((z0.toUInt32 >>> ((16 : Int32) &&& 31).toUInt32).toInt32).toUInt32 >>> ((2 : Int32) &&& 31).toUInt32).toInt32)), (.int (19 : Int32))]))
            refine Runs.by (fun _ hr => XS.iconst X0.here hx rfl (hb hby d11_76) hr) ?_
            show Runs p e below _ (s₁.setTop (mkF m 77 #[.val (.int ((((z0.toUInt32 >>> ((16 : Int32) &&& 31).toUInt32).toInt32).toUInt32 >>> ((2 : Int32) &&& 31).toUInt32).toInt32)), .val (.int (19 : Int32))] [(.int (1 : Int32)), (.int ((((z0.toUInt32 >>> ((16 : Int32) &&& 31).toUInt32).toInt32).toUInt32 >>> ((2 : Int32) &&& 31).toUInt32).toInt32)), (.int (19 : Int32))]))
            refine Runs.by (fun _ hr => XS.iushr X0.here hx rfl (hb hby d11_77) rfl hr) ?_
            show Runs p e below _ (s₁.setTop (mkF m 78 #[.val (.int ((((z0.toUInt32 >>> ((16 : Int32) &&& 31).toUInt32).toInt32).toUInt32 >>> ((2 : Int32) &&& 31).toUInt32).toInt32)), .val (.int (19 : Int32))] [(.int ((((((z0.toUInt32 >>> ((16 : Int32) &&& 31).toUInt32).toInt32).toUInt32 >>> ((2 : Int32) &&& 31).toUInt32).toInt32).toUInt32 >>> ((1 : Int32) &&& 31).toUInt32).toInt32)), (.int (19 : Int32))]))
            refine Runs.by (fun _ hr => XS.iadd X0.here hx rfl (hb hby d11_78) rfl hr) ?_
            show Runs p e below _ (s₁.setTop (mkF m 79 #[.val (.int ((((z0.toUInt32 >>> ((16 : Int32) &&& 31).toUInt32).toInt32).toUInt32 >>> ((2 : Int32) &&& 31).toUInt32).toInt32)), .val (.int (19 : Int32))] [(.int ((19 : Int32) + ((((((z0.toUInt32 >>> ((16 : Int32) &&& 31).toUInt32).toInt32).toUInt32 >>> ((2 : Int32) &&& 31).toUInt32).toInt32).toUInt32 >>> ((1 : Int32) &&& 31).toUInt32).toInt32)))]))
            refine Runs.ret X0 hx hrt hlk (Or.inl ⟨rfl, by simp, _, rfl⟩) rfl (hb hby d11_79) (by decide) (by decide) ?_
            rw [e0]
            exact ⟨congrArg (fun z => some (Value.int z)) (en.trans ((if_pos hc23).trans ((if_neg hc38).trans ((if_neg hc52).trans ((if_pos hc64).trans rfl))))).symm, N0, rfl⟩
          · -- pc 64: not (4 : Int32) < ((z0.toUInt32 >>> ((16 : Int32) &&& 31).toUInt32).toInt32)
            refine Runs.by (fun _ hr => XS.icmpYes X0.here hx rfl (pc0 := 64) (pc' := 74) rfl (hb hby d11_64) rfl (flt hc64).2.2.2 (by decide) (by decide) hr) ?_
            show Runs p e below _ (s₁.setTop (mkF m 74 #[.val (.int ((z0.toUInt32 >>> ((16 : Int32) &&& 31).toUInt32).toInt32)), .val (.int (17 : Int32))] []))
            refine Runs.by (fun _ hr => XS.iloadN X0.here hx rfl (hb hby d11_74) rfl  hr) ?_
            show Runs p e below _ (s₁.setTop (mkF m 75 #[.val (.int ((z0.toUInt32 >>> ((16 : Int32) &&& 31).toUInt32).toInt32)), .val (.int (17 : Int32))] [(.int (17 : Int32))]))
            refine Runs.by (fun _ hr => XS.iloadN X0.here hx rfl (hb hby d11_75) rfl  hr) ?_
            show Runs p e below _ (s₁.setTop (mkF m 76 #[.val (.int ((z0.toUInt32 >>> ((16 : Int32) &&& 31).toUInt32).toInt32)), .val (.int (17 : Int32))] [(.int ((z0.toUInt32 >>> ((16 : Int32) &&& 31).toUInt32).toInt32)), (.int (17 : Int32))]))
            refine Runs.by (fun _ hr => XS.iconst X0.here hx rfl (hb hby d11_76) hr) ?_
            show Runs p e below _ (s₁.setTop (mkF m 77 #[.val (.int ((z0.toUInt32 >>> ((16 : Int32) &&& 31).toUInt32).toInt32)), .val (.int (17 : Int32))] [(.int (1 : Int32)), (.int ((z0.toUInt32 >>> ((16 : Int32) &&& 31).toUInt32).toInt32)), (.int (17 : Int32))]))
            refine Runs.by (fun _ hr => XS.iushr X0.here hx rfl (hb hby d11_77) rfl hr) ?_
            show Runs p e below _ (s₁.setTop (mkF m 78 #[.val (.int ((z0.toUInt32 >>> ((16 : Int32) &&& 31).toUInt32).toInt32)), .val (.int (17 : Int32))] [(.int ((((z0.toUInt32 >>> ((16 : Int32) &&& 31).toUInt32).toInt32).toUInt32 >>> ((1 : Int32) &&& 31).toUInt32).toInt32)), (.int (17 : Int32))]))
            refine Runs.by (fun _ hr => XS.iadd X0.here hx rfl (hb hby d11_78) rfl hr) ?_
            show Runs p e below _ (s₁.setTop (mkF m 79 #[.val (.int ((z0.toUInt32 >>> ((16 : Int32) &&& 31).toUInt32).toInt32)), .val (.int (17 : Int32))] [(.int ((17 : Int32) + ((((z0.toUInt32 >>> ((16 : Int32) &&& 31).toUInt32).toInt32).toUInt32 >>> ((1 : Int32) &&& 31).toUInt32).toInt32)))]))
            refine Runs.ret X0 hx hrt hlk (Or.inl ⟨rfl, by simp, _, rfl⟩) rfl (hb hby d11_79) (by decide) (by decide) ?_
            rw [e0]
            exact ⟨congrArg (fun z => some (Value.int z)) (en.trans ((if_pos hc23).trans ((if_neg hc38).trans ((if_neg hc52).trans ((if_neg hc64).trans rfl))))).symm, N0, rfl⟩
    · -- pc 23: not (65536 : Int32) < z0
      refine Runs.by (fun _ hr => XS.icmpYes X0.here hx rfl (pc0 := 23) (pc' := 34) rfl (hb hby d11_23) rfl (flt hc23).2.2.2 (by decide) (by decide) hr) ?_
      show Runs p e below _ (s₁.setTop (mkF m 34 #[.val (.int z0), .val (.int (1 : Int32))] []))
      refine Runs.by (fun _ hr => XS.iloadN X0.here hx rfl (hb hby d11_34) rfl  hr) ?_
      show Runs p e below _ (s₁.setTop (mkF m 35 #[.val (.int z0), .val (.int (1 : Int32))] [(.int z0)]))
      refine Runs.by (fun _ hr => XS.sipush X0.here hx rfl (hb hby d11_35) hr) ?_
      show Runs p e below _ (s₁.setTop (mkF m 38 #[.val (.int z0), .val (.int (1 : Int32))] [(.int (256 : Int32)), (.int z0)]))
      by_cases hc38 : (256 : Int32) < z0
      · -- pc 38: (256 : Int32) < z0
        refine Runs.by (fun _ hr => XS.icmpNo X0.here hx rfl (hb hby d11_38) rfl (tlt hc38).2.2.2 hr) ?_
        show Runs p e below _ (s₁.setTop (mkF m 41 #[.val (.int z0), .val (.int (1 : Int32))] []))
        refine Runs.by (fun _ hr => XS.iinc X0.here hx rfl (hb hby d11_41) rfl (l' := #[.val (.int z0), .val (.int (9 : Int32))]) rfl hr) ?_
        show Runs p e below _ (s₁.setTop (mkF m 44 #[.val (.int z0), .val (.int (9 : Int32))] []))
        refine Runs.by (fun _ hr => XS.iloadN X0.here hx rfl (hb hby d11_44) rfl  hr) ?_
        show Runs p e below _ (s₁.setTop (mkF m 45 #[.val (.int z0), .val (.int (9 : Int32))] [(.int z0)]))
        refine Runs.by (fun _ hr => XS.bipush X0.here hx rfl (hb hby d11_45) hr) ?_
        show Runs p e below _ (s₁.setTop (mkF m 47 #[.val (.int z0), .val (.int (9 : Int32))] [(.int (8 : Int32)), (.int z0)]))
        refine Runs.by (fun _ hr => XS.iushr X0.here hx rfl (hb hby d11_47) rfl hr) ?_
        show Runs p e below _ (s₁.setTop (mkF m 48 #[.val (.int z0), .val (.int (9 : Int32))] [(.int ((z0.toUInt32 >>> ((8 : Int32) &&& 31).toUInt32).toInt32))]))
        refine Runs.by (fun _ hr => XS.istoreN X0.here hx rfl (hb hby d11_48) rfl (l' := #[.val (.int ((z0.toUInt32 >>> ((8 : Int32) &&& 31).toUInt32).toInt32)), .val (.int (9 : Int32))]) rfl hr) ?_
        show Runs p e below _ (s₁.setTop (mkF m 49 #[.val (.int ((z0.toUInt32 >>> ((8 : Int32) &&& 31).toUInt32).toInt32)), .val (.int (9 : Int32))] []))
        refine Runs.by (fun _ hr => XS.iloadN X0.here hx rfl (hb hby d11_49) rfl  hr) ?_
        show Runs p e below _ (s₁.setTop (mkF m 50 #[.val (.int ((z0.toUInt32 >>> ((8 : Int32) &&& 31).toUInt32).toInt32)), .val (.int (9 : Int32))] [(.int ((z0.toUInt32 >>> ((8 : Int32) &&& 31).toUInt32).toInt32))]))
        refine Runs.by (fun _ hr => XS.bipush X0.here hx rfl (hb hby d11_50) hr) ?_
        show Runs p e below _ (s₁.setTop (mkF m 52 #[.val (.int ((z0.toUInt32 >>> ((8 : Int32) &&& 31).toUInt32).toInt32)), .val (.int (9 : Int32))] [(.int (16 : Int32)), (.int ((z0.toUInt32 >>> ((8 : Int32) &&& 31).toUInt32).toInt32))]))
        by_cases hc52 : (16 : Int32) < ((z0.toUInt32 >>> ((8 : Int32) &&& 31).toUInt32).toInt32)
        · -- pc 52: (16 : Int32) < ((z0.toUInt32 >>> ((8 : Int32) &&& 31).toUInt32).toInt32)
          refine Runs.by (fun _ hr => XS.icmpNo X0.here hx rfl (hb hby d11_52) rfl (tlt hc52).2.2.2 hr) ?_
          show Runs p e below _ (s₁.setTop (mkF m 55 #[.val (.int ((z0.toUInt32 >>> ((8 : Int32) &&& 31).toUInt32).toInt32)), .val (.int (9 : Int32))] []))
          refine Runs.by (fun _ hr => XS.iinc X0.here hx rfl (hb hby d11_55) rfl (l' := #[.val (.int ((z0.toUInt32 >>> ((8 : Int32) &&& 31).toUInt32).toInt32)), .val (.int (13 : Int32))]) rfl hr) ?_
          show Runs p e below _ (s₁.setTop (mkF m 58 #[.val (.int ((z0.toUInt32 >>> ((8 : Int32) &&& 31).toUInt32).toInt32)), .val (.int (13 : Int32))] []))
          refine Runs.by (fun _ hr => XS.iloadN X0.here hx rfl (hb hby d11_58) rfl  hr) ?_
          show Runs p e below _ (s₁.setTop (mkF m 59 #[.val (.int ((z0.toUInt32 >>> ((8 : Int32) &&& 31).toUInt32).toInt32)), .val (.int (13 : Int32))] [(.int ((z0.toUInt32 >>> ((8 : Int32) &&& 31).toUInt32).toInt32))]))
          refine Runs.by (fun _ hr => XS.iconst X0.here hx rfl (hb hby d11_59) hr) ?_
          show Runs p e below _ (s₁.setTop (mkF m 60 #[.val (.int ((z0.toUInt32 >>> ((8 : Int32) &&& 31).toUInt32).toInt32)), .val (.int (13 : Int32))] [(.int (4 : Int32)), (.int ((z0.toUInt32 >>> ((8 : Int32) &&& 31).toUInt32).toInt32))]))
          refine Runs.by (fun _ hr => XS.iushr X0.here hx rfl (hb hby d11_60) rfl hr) ?_
          show Runs p e below _ (s₁.setTop (mkF m 61 #[.val (.int ((z0.toUInt32 >>> ((8 : Int32) &&& 31).toUInt32).toInt32)), .val (.int (13 : Int32))] [(.int ((((z0.toUInt32 >>> ((8 : Int32) &&& 31).toUInt32).toInt32).toUInt32 >>> ((4 : Int32) &&& 31).toUInt32).toInt32))]))
          refine Runs.by (fun _ hr => XS.istoreN X0.here hx rfl (hb hby d11_61) rfl (l' := #[.val (.int ((((z0.toUInt32 >>> ((8 : Int32) &&& 31).toUInt32).toInt32).toUInt32 >>> ((4 : Int32) &&& 31).toUInt32).toInt32)), .val (.int (13 : Int32))]) rfl hr) ?_
          show Runs p e below _ (s₁.setTop (mkF m 62 #[.val (.int ((((z0.toUInt32 >>> ((8 : Int32) &&& 31).toUInt32).toInt32).toUInt32 >>> ((4 : Int32) &&& 31).toUInt32).toInt32)), .val (.int (13 : Int32))] []))
          refine Runs.by (fun _ hr => XS.iloadN X0.here hx rfl (hb hby d11_62) rfl  hr) ?_
          show Runs p e below _ (s₁.setTop (mkF m 63 #[.val (.int ((((z0.toUInt32 >>> ((8 : Int32) &&& 31).toUInt32).toInt32).toUInt32 >>> ((4 : Int32) &&& 31).toUInt32).toInt32)), .val (.int (13 : Int32))] [(.int ((((z0.toUInt32 >>> ((8 : Int32) &&& 31).toUInt32).toInt32).toUInt32 >>> ((4 : Int32) &&& 31).toUInt32).toInt32))]))
          refine Runs.by (fun _ hr => XS.iconst X0.here hx rfl (hb hby d11_63) hr) ?_
          show Runs p e below _ (s₁.setTop (mkF m 64 #[.val (.int ((((z0.toUInt32 >>> ((8 : Int32) &&& 31).toUInt32).toInt32).toUInt32 >>> ((4 : Int32) &&& 31).toUInt32).toInt32)), .val (.int (13 : Int32))] [(.int (4 : Int32)), (.int ((((z0.toUInt32 >>> ((8 : Int32) &&& 31).toUInt32).toInt32).toUInt32 >>> ((4 : Int32) &&& 31).toUInt32).toInt32))]))
          by_cases hc64 : (4 : Int32) < ((((z0.toUInt32 >>> ((8 : Int32) &&& 31).toUInt32).toInt32).toUInt32 >>> ((4 : Int32) &&& 31).toUInt32).toInt32)
          · -- pc 64: (4 : Int32) < ((((z0.toUInt32 >>> ((8 : Int32) &&& 31).toUInt32).toInt32).toUInt32 >>> ((4 : Int32) &&& 31).toUInt32).toInt32)
            refine Runs.by (fun _ hr => XS.icmpNo X0.here hx rfl (hb hby d11_64) rfl (tlt hc64).2.2.2 hr) ?_
            show Runs p e below _ (s₁.setTop (mkF m 67 #[.val (.int ((((z0.toUInt32 >>> ((8 : Int32) &&& 31).toUInt32).toInt32).toUInt32 >>> ((4 : Int32) &&& 31).toUInt32).toInt32)), .val (.int (13 : Int32))] []))
            refine Runs.by (fun _ hr => XS.iinc X0.here hx rfl (hb hby d11_67) rfl (l' := #[.val (.int ((((z0.toUInt32 >>> ((8 : Int32) &&& 31).toUInt32).toInt32).toUInt32 >>> ((4 : Int32) &&& 31).toUInt32).toInt32)), .val (.int (15 : Int32))]) rfl hr) ?_
            show Runs p e below _ (s₁.setTop (mkF m 70 #[.val (.int ((((z0.toUInt32 >>> ((8 : Int32) &&& 31).toUInt32).toInt32).toUInt32 >>> ((4 : Int32) &&& 31).toUInt32).toInt32)), .val (.int (15 : Int32))] []))
            refine Runs.by (fun _ hr => XS.iloadN X0.here hx rfl (hb hby d11_70) rfl  hr) ?_
            show Runs p e below _ (s₁.setTop (mkF m 71 #[.val (.int ((((z0.toUInt32 >>> ((8 : Int32) &&& 31).toUInt32).toInt32).toUInt32 >>> ((4 : Int32) &&& 31).toUInt32).toInt32)), .val (.int (15 : Int32))] [(.int ((((z0.toUInt32 >>> ((8 : Int32) &&& 31).toUInt32).toInt32).toUInt32 >>> ((4 : Int32) &&& 31).toUInt32).toInt32))]))
            refine Runs.by (fun _ hr => XS.iconst X0.here hx rfl (hb hby d11_71) hr) ?_
            show Runs p e below _ (s₁.setTop (mkF m 72 #[.val (.int ((((z0.toUInt32 >>> ((8 : Int32) &&& 31).toUInt32).toInt32).toUInt32 >>> ((4 : Int32) &&& 31).toUInt32).toInt32)), .val (.int (15 : Int32))] [(.int (2 : Int32)), (.int ((((z0.toUInt32 >>> ((8 : Int32) &&& 31).toUInt32).toInt32).toUInt32 >>> ((4 : Int32) &&& 31).toUInt32).toInt32))]))
            refine Runs.by (fun _ hr => XS.iushr X0.here hx rfl (hb hby d11_72) rfl hr) ?_
            show Runs p e below _ (s₁.setTop (mkF m 73 #[.val (.int ((((z0.toUInt32 >>> ((8 : Int32) &&& 31).toUInt32).toInt32).toUInt32 >>> ((4 : Int32) &&& 31).toUInt32).toInt32)), .val (.int (15 : Int32))] [(.int ((((((z0.toUInt32 >>> ((8 : Int32) &&& 31).toUInt32).toInt32).toUInt32 >>> ((4 : Int32) &&& 31).toUInt32).toInt32).toUInt32 >>> ((2 : Int32) &&& 31).toUInt32).toInt32))]))
            refine Runs.by (fun _ hr => XS.istoreN X0.here hx rfl (hb hby d11_73) rfl (l' := #[.val (.int ((((((z0.toUInt32 >>> ((8 : Int32) &&& 31).toUInt32).toInt32).toUInt32 >>> ((4 : Int32) &&& 31).toUInt32).toInt32).toUInt32 >>> ((2 : Int32) &&& 31).toUInt32).toInt32)), .val (.int (15 : Int32))]) rfl hr) ?_
            show Runs p e below _ (s₁.setTop (mkF m 74 #[.val (.int ((((((z0.toUInt32 >>> ((8 : Int32) &&& 31).toUInt32).toInt32).toUInt32 >>> ((4 : Int32) &&& 31).toUInt32).toInt32).toUInt32 >>> ((2 : Int32) &&& 31).toUInt32).toInt32)), .val (.int (15 : Int32))] []))
            refine Runs.by (fun _ hr => XS.iloadN X0.here hx rfl (hb hby d11_74) rfl  hr) ?_
            show Runs p e below _ (s₁.setTop (mkF m 75 #[.val (.int ((((((z0.toUInt32 >>> ((8 : Int32) &&& 31).toUInt32).toInt32).toUInt32 >>> ((4 : Int32) &&& 31).toUInt32).toInt32).toUInt32 >>> ((2 : Int32) &&& 31).toUInt32).toInt32)), .val (.int (15 : Int32))] [(.int (15 : Int32))]))
            refine Runs.by (fun _ hr => XS.iloadN X0.here hx rfl (hb hby d11_75) rfl  hr) ?_
            show Runs p e below _ (s₁.setTop (mkF m 76 #[.val (.int ((((((z0.toUInt32 >>> ((8 : Int32) &&& 31).toUInt32).toInt32).toUInt32 >>> ((4 : Int32) &&& 31).toUInt32).toInt32).toUInt32 >>> ((2 : Int32) &&& 31).toUInt32).toInt32)), .val (.int (15 : Int32))] [(.int ((((((z0.toUInt32 >>> ((8 : Int32) &&& 31).toUInt32).toInt32).toUInt32 >>> ((4 : Int32) &&& 31).toUInt32).toInt32).toUInt32 >>> ((2 : Int32) &&& 31).toUInt32).toInt32)), (.int (15 : Int32))]))
            refine Runs.by (fun _ hr => XS.iconst X0.here hx rfl (hb hby d11_76) hr) ?_
            show Runs p e below _ (s₁.setTop (mkF m 77 #[.val (.int ((((((z0.toUInt32 >>> ((8 : Int32) &&& 31).toUInt32).toInt32).toUInt32 >>> ((4 : Int32) &&& 31).toUInt32).toInt32).toUInt32 >>> ((2 : Int32) &&& 31).toUInt32).toInt32)), .val (.int (15 : Int32))] [(.int (1 : Int32)), (.int ((((((z0.toUInt32 >>> ((8 : Int32) &&& 31).toUInt32).toInt32).toUInt32 >>> ((4 : Int32) &&& 31).toUInt32).toInt32).toUInt32 >>> ((2 : Int32) &&& 31).toUInt32).toInt32)), (.int (15 : Int32))]))
            refine Runs.by (fun _ hr => XS.iushr X0.here hx rfl (hb hby d11_77) rfl hr) ?_
            show Runs p e below _ (s₁.setTop (mkF m 78 #[.val (.int ((((((z0.toUInt32 >>> ((8 : Int32) &&& 31).toUInt32).toInt32).toUInt32 >>> ((4 : Int32) &&& 31).toUInt32).toInt32).toUInt32 >>> ((2 : Int32) &&& 31).toUInt32).toInt32)), .val (.int (15 : Int32))] [(.int ((((((((z0.toUInt32 >>> ((8 : Int32) &&& 31).toUInt32).toInt32).toUInt32 >>> ((4 : Int32) &&& 31).toUInt32).toInt32).toUInt32 >>> ((2 : Int32) &&& 31).toUInt32).toInt32).toUInt32 >>> ((1 : Int32) &&& 31).toUInt32).toInt32)), (.int (15 : Int32))]))
            refine Runs.by (fun _ hr => XS.iadd X0.here hx rfl (hb hby d11_78) rfl hr) ?_
            show Runs p e below _ (s₁.setTop (mkF m 79 #[.val (.int ((((((z0.toUInt32 >>> ((8 : Int32) &&& 31).toUInt32).toInt32).toUInt32 >>> ((4 : Int32) &&& 31).toUInt32).toInt32).toUInt32 >>> ((2 : Int32) &&& 31).toUInt32).toInt32)), .val (.int (15 : Int32))] [(.int ((15 : Int32) + ((((((((z0.toUInt32 >>> ((8 : Int32) &&& 31).toUInt32).toInt32).toUInt32 >>> ((4 : Int32) &&& 31).toUInt32).toInt32).toUInt32 >>> ((2 : Int32) &&& 31).toUInt32).toInt32).toUInt32 >>> ((1 : Int32) &&& 31).toUInt32).toInt32)))]))
            refine Runs.ret X0 hx hrt hlk (Or.inl ⟨rfl, by simp, _, rfl⟩) rfl (hb hby d11_79) (by decide) (by decide) ?_
            rw [e0]
            exact ⟨congrArg (fun z => some (Value.int z)) (en.trans ((if_neg hc23).trans ((if_pos hc38).trans ((if_pos hc52).trans ((if_pos hc64).trans rfl))))).symm, N0, rfl⟩
          · -- pc 64: not (4 : Int32) < ((((z0.toUInt32 >>> ((8 : Int32) &&& 31).toUInt32).toInt32).toUInt32 >>> ((4 : Int32) &&& 31).toUInt32).toInt32)
            refine Runs.by (fun _ hr => XS.icmpYes X0.here hx rfl (pc0 := 64) (pc' := 74) rfl (hb hby d11_64) rfl (flt hc64).2.2.2 (by decide) (by decide) hr) ?_
            show Runs p e below _ (s₁.setTop (mkF m 74 #[.val (.int ((((z0.toUInt32 >>> ((8 : Int32) &&& 31).toUInt32).toInt32).toUInt32 >>> ((4 : Int32) &&& 31).toUInt32).toInt32)), .val (.int (13 : Int32))] []))
            refine Runs.by (fun _ hr => XS.iloadN X0.here hx rfl (hb hby d11_74) rfl  hr) ?_
            show Runs p e below _ (s₁.setTop (mkF m 75 #[.val (.int ((((z0.toUInt32 >>> ((8 : Int32) &&& 31).toUInt32).toInt32).toUInt32 >>> ((4 : Int32) &&& 31).toUInt32).toInt32)), .val (.int (13 : Int32))] [(.int (13 : Int32))]))
            refine Runs.by (fun _ hr => XS.iloadN X0.here hx rfl (hb hby d11_75) rfl  hr) ?_
            show Runs p e below _ (s₁.setTop (mkF m 76 #[.val (.int ((((z0.toUInt32 >>> ((8 : Int32) &&& 31).toUInt32).toInt32).toUInt32 >>> ((4 : Int32) &&& 31).toUInt32).toInt32)), .val (.int (13 : Int32))] [(.int ((((z0.toUInt32 >>> ((8 : Int32) &&& 31).toUInt32).toInt32).toUInt32 >>> ((4 : Int32) &&& 31).toUInt32).toInt32)), (.int (13 : Int32))]))
            refine Runs.by (fun _ hr => XS.iconst X0.here hx rfl (hb hby d11_76) hr) ?_
            show Runs p e below _ (s₁.setTop (mkF m 77 #[.val (.int ((((z0.toUInt32 >>> ((8 : Int32) &&& 31).toUInt32).toInt32).toUInt32 >>> ((4 : Int32) &&& 31).toUInt32).toInt32)), .val (.int (13 : Int32))] [(.int (1 : Int32)), (.int ((((z0.toUInt32 >>> ((8 : Int32) &&& 31).toUInt32).toInt32).toUInt32 >>> ((4 : Int32) &&& 31).toUInt32).toInt32)), (.int (13 : Int32))]))
            refine Runs.by (fun _ hr => XS.iushr X0.here hx rfl (hb hby d11_77) rfl hr) ?_
            show Runs p e below _ (s₁.setTop (mkF m 78 #[.val (.int ((((z0.toUInt32 >>> ((8 : Int32) &&& 31).toUInt32).toInt32).toUInt32 >>> ((4 : Int32) &&& 31).toUInt32).toInt32)), .val (.int (13 : Int32))] [(.int ((((((z0.toUInt32 >>> ((8 : Int32) &&& 31).toUInt32).toInt32).toUInt32 >>> ((4 : Int32) &&& 31).toUInt32).toInt32).toUInt32 >>> ((1 : Int32) &&& 31).toUInt32).toInt32)), (.int (13 : Int32))]))
            refine Runs.by (fun _ hr => XS.iadd X0.here hx rfl (hb hby d11_78) rfl hr) ?_
            show Runs p e below _ (s₁.setTop (mkF m 79 #[.val (.int ((((z0.toUInt32 >>> ((8 : Int32) &&& 31).toUInt32).toInt32).toUInt32 >>> ((4 : Int32) &&& 31).toUInt32).toInt32)), .val (.int (13 : Int32))] [(.int ((13 : Int32) + ((((((z0.toUInt32 >>> ((8 : Int32) &&& 31).toUInt32).toInt32).toUInt32 >>> ((4 : Int32) &&& 31).toUInt32).toInt32).toUInt32 >>> ((1 : Int32) &&& 31).toUInt32).toInt32)))]))
            refine Runs.ret X0 hx hrt hlk (Or.inl ⟨rfl, by simp, _, rfl⟩) rfl (hb hby d11_79) (by decide) (by decide) ?_
            rw [e0]
            exact ⟨congrArg (fun z => some (Value.int z)) (en.trans ((if_neg hc23).trans ((if_pos hc38).trans ((if_pos hc52).trans ((if_neg hc64).trans rfl))))).symm, N0, rfl⟩
        · -- pc 52: not (16 : Int32) < ((z0.toUInt32 >>> ((8 : Int32) &&& 31).toUInt32).toInt32)
          refine Runs.by (fun _ hr => XS.icmpYes X0.here hx rfl (pc0 := 52) (pc' := 62) rfl (hb hby d11_52) rfl (flt hc52).2.2.2 (by decide) (by decide) hr) ?_
          show Runs p e below _ (s₁.setTop (mkF m 62 #[.val (.int ((z0.toUInt32 >>> ((8 : Int32) &&& 31).toUInt32).toInt32)), .val (.int (9 : Int32))] []))
          refine Runs.by (fun _ hr => XS.iloadN X0.here hx rfl (hb hby d11_62) rfl  hr) ?_
          show Runs p e below _ (s₁.setTop (mkF m 63 #[.val (.int ((z0.toUInt32 >>> ((8 : Int32) &&& 31).toUInt32).toInt32)), .val (.int (9 : Int32))] [(.int ((z0.toUInt32 >>> ((8 : Int32) &&& 31).toUInt32).toInt32))]))
          refine Runs.by (fun _ hr => XS.iconst X0.here hx rfl (hb hby d11_63) hr) ?_
          show Runs p e below _ (s₁.setTop (mkF m 64 #[.val (.int ((z0.toUInt32 >>> ((8 : Int32) &&& 31).toUInt32).toInt32)), .val (.int (9 : Int32))] [(.int (4 : Int32)), (.int ((z0.toUInt32 >>> ((8 : Int32) &&& 31).toUInt32).toInt32))]))
          by_cases hc64 : (4 : Int32) < ((z0.toUInt32 >>> ((8 : Int32) &&& 31).toUInt32).toInt32)
          · -- pc 64: (4 : Int32) < ((z0.toUInt32 >>> ((8 : Int32) &&& 31).toUInt32).toInt32)
            refine Runs.by (fun _ hr => XS.icmpNo X0.here hx rfl (hb hby d11_64) rfl (tlt hc64).2.2.2 hr) ?_
            show Runs p e below _ (s₁.setTop (mkF m 67 #[.val (.int ((z0.toUInt32 >>> ((8 : Int32) &&& 31).toUInt32).toInt32)), .val (.int (9 : Int32))] []))
            refine Runs.by (fun _ hr => XS.iinc X0.here hx rfl (hb hby d11_67) rfl (l' := #[.val (.int ((z0.toUInt32 >>> ((8 : Int32) &&& 31).toUInt32).toInt32)), .val (.int (11 : Int32))]) rfl hr) ?_
            show Runs p e below _ (s₁.setTop (mkF m 70 #[.val (.int ((z0.toUInt32 >>> ((8 : Int32) &&& 31).toUInt32).toInt32)), .val (.int (11 : Int32))] []))
            refine Runs.by (fun _ hr => XS.iloadN X0.here hx rfl (hb hby d11_70) rfl  hr) ?_
            show Runs p e below _ (s₁.setTop (mkF m 71 #[.val (.int ((z0.toUInt32 >>> ((8 : Int32) &&& 31).toUInt32).toInt32)), .val (.int (11 : Int32))] [(.int ((z0.toUInt32 >>> ((8 : Int32) &&& 31).toUInt32).toInt32))]))
            refine Runs.by (fun _ hr => XS.iconst X0.here hx rfl (hb hby d11_71) hr) ?_
            show Runs p e below _ (s₁.setTop (mkF m 72 #[.val (.int ((z0.toUInt32 >>> ((8 : Int32) &&& 31).toUInt32).toInt32)), .val (.int (11 : Int32))] [(.int (2 : Int32)), (.int ((z0.toUInt32 >>> ((8 : Int32) &&& 31).toUInt32).toInt32))]))
            refine Runs.by (fun _ hr => XS.iushr X0.here hx rfl (hb hby d11_72) rfl hr) ?_
            show Runs p e below _ (s₁.setTop (mkF m 73 #[.val (.int ((z0.toUInt32 >>> ((8 : Int32) &&& 31).toUInt32).toInt32)), .val (.int (11 : Int32))] [(.int ((((z0.toUInt32 >>> ((8 : Int32) &&& 31).toUInt32).toInt32).toUInt32 >>> ((2 : Int32) &&& 31).toUInt32).toInt32))]))
            refine Runs.by (fun _ hr => XS.istoreN X0.here hx rfl (hb hby d11_73) rfl (l' := #[.val (.int ((((z0.toUInt32 >>> ((8 : Int32) &&& 31).toUInt32).toInt32).toUInt32 >>> ((2 : Int32) &&& 31).toUInt32).toInt32)), .val (.int (11 : Int32))]) rfl hr) ?_
            show Runs p e below _ (s₁.setTop (mkF m 74 #[.val (.int ((((z0.toUInt32 >>> ((8 : Int32) &&& 31).toUInt32).toInt32).toUInt32 >>> ((2 : Int32) &&& 31).toUInt32).toInt32)), .val (.int (11 : Int32))] []))
            refine Runs.by (fun _ hr => XS.iloadN X0.here hx rfl (hb hby d11_74) rfl  hr) ?_
            show Runs p e below _ (s₁.setTop (mkF m 75 #[.val (.int ((((z0.toUInt32 >>> ((8 : Int32) &&& 31).toUInt32).toInt32).toUInt32 >>> ((2 : Int32) &&& 31).toUInt32).toInt32)), .val (.int (11 : Int32))] [(.int (11 : Int32))]))
            refine Runs.by (fun _ hr => XS.iloadN X0.here hx rfl (hb hby d11_75) rfl  hr) ?_
            show Runs p e below _ (s₁.setTop (mkF m 76 #[.val (.int ((((z0.toUInt32 >>> ((8 : Int32) &&& 31).toUInt32).toInt32).toUInt32 >>> ((2 : Int32) &&& 31).toUInt32).toInt32)), .val (.int (11 : Int32))] [(.int ((((z0.toUInt32 >>> ((8 : Int32) &&& 31).toUInt32).toInt32).toUInt32 >>> ((2 : Int32) &&& 31).toUInt32).toInt32)), (.int (11 : Int32))]))
            refine Runs.by (fun _ hr => XS.iconst X0.here hx rfl (hb hby d11_76) hr) ?_
            show Runs p e below _ (s₁.setTop (mkF m 77 #[.val (.int ((((z0.toUInt32 >>> ((8 : Int32) &&& 31).toUInt32).toInt32).toUInt32 >>> ((2 : Int32) &&& 31).toUInt32).toInt32)), .val (.int (11 : Int32))] [(.int (1 : Int32)), (.int ((((z0.toUInt32 >>> ((8 : Int32) &&& 31).toUInt32).toInt32).toUInt32 >>> ((2 : Int32) &&& 31).toUInt32).toInt32)), (.int (11 : Int32))]))
            refine Runs.by (fun _ hr => XS.iushr X0.here hx rfl (hb hby d11_77) rfl hr) ?_
            show Runs p e below _ (s₁.setTop (mkF m 78 #[.val (.int ((((z0.toUInt32 >>> ((8 : Int32) &&& 31).toUInt32).toInt32).toUInt32 >>> ((2 : Int32) &&& 31).toUInt32).toInt32)), .val (.int (11 : Int32))] [(.int ((((((z0.toUInt32 >>> ((8 : Int32) &&& 31).toUInt32).toInt32).toUInt32 >>> ((2 : Int32) &&& 31).toUInt32).toInt32).toUInt32 >>> ((1 : Int32) &&& 31).toUInt32).toInt32)), (.int (11 : Int32))]))
            refine Runs.by (fun _ hr => XS.iadd X0.here hx rfl (hb hby d11_78) rfl hr) ?_
            show Runs p e below _ (s₁.setTop (mkF m 79 #[.val (.int ((((z0.toUInt32 >>> ((8 : Int32) &&& 31).toUInt32).toInt32).toUInt32 >>> ((2 : Int32) &&& 31).toUInt32).toInt32)), .val (.int (11 : Int32))] [(.int ((11 : Int32) + ((((((z0.toUInt32 >>> ((8 : Int32) &&& 31).toUInt32).toInt32).toUInt32 >>> ((2 : Int32) &&& 31).toUInt32).toInt32).toUInt32 >>> ((1 : Int32) &&& 31).toUInt32).toInt32)))]))
            refine Runs.ret X0 hx hrt hlk (Or.inl ⟨rfl, by simp, _, rfl⟩) rfl (hb hby d11_79) (by decide) (by decide) ?_
            rw [e0]
            exact ⟨congrArg (fun z => some (Value.int z)) (en.trans ((if_neg hc23).trans ((if_pos hc38).trans ((if_neg hc52).trans ((if_pos hc64).trans rfl))))).symm, N0, rfl⟩
          · -- pc 64: not (4 : Int32) < ((z0.toUInt32 >>> ((8 : Int32) &&& 31).toUInt32).toInt32)
            refine Runs.by (fun _ hr => XS.icmpYes X0.here hx rfl (pc0 := 64) (pc' := 74) rfl (hb hby d11_64) rfl (flt hc64).2.2.2 (by decide) (by decide) hr) ?_
            show Runs p e below _ (s₁.setTop (mkF m 74 #[.val (.int ((z0.toUInt32 >>> ((8 : Int32) &&& 31).toUInt32).toInt32)), .val (.int (9 : Int32))] []))
            refine Runs.by (fun _ hr => XS.iloadN X0.here hx rfl (hb hby d11_74) rfl  hr) ?_
            show Runs p e below _ (s₁.setTop (mkF m 75 #[.val (.int ((z0.toUInt32 >>> ((8 : Int32) &&& 31).toUInt32).toInt32)), .val (.int (9 : Int32))] [(.int (9 : Int32))]))
            refine Runs.by (fun _ hr => XS.iloadN X0.here hx rfl (hb hby d11_75) rfl  hr) ?_
            show Runs p e below _ (s₁.setTop (mkF m 76 #[.val (.int ((z0.toUInt32 >>> ((8 : Int32) &&& 31).toUInt32).toInt32)), .val (.int (9 : Int32))] [(.int ((z0.toUInt32 >>> ((8 : Int32) &&& 31).toUInt32).toInt32)), (.int (9 : Int32))]))
            refine Runs.by (fun _ hr => XS.iconst X0.here hx rfl (hb hby d11_76) hr) ?_
            show Runs p e below _ (s₁.setTop (mkF m 77 #[.val (.int ((z0.toUInt32 >>> ((8 : Int32) &&& 31).toUInt32).toInt32)), .val (.int (9 : Int32))] [(.int (1 : Int32)), (.int ((z0.toUInt32 >>> ((8 : Int32) &&& 31).toUInt32).toInt32)), (.int (9 : Int32))]))
            refine Runs.by (fun _ hr => XS.iushr X0.here hx rfl (hb hby d11_77) rfl hr) ?_
            show Runs p e below _ (s₁.setTop (mkF m 78 #[.val (.int ((z0.toUInt32 >>> ((8 : Int32) &&& 31).toUInt32).toInt32)), .val (.int (9 : Int32))] [(.int ((((z0.toUInt32 >>> ((8 : Int32) &&& 31).toUInt32).toInt32).toUInt32 >>> ((1 : Int32) &&& 31).toUInt32).toInt32)), (.int (9 : Int32))]))
            refine Runs.by (fun _ hr => XS.iadd X0.here hx rfl (hb hby d11_78) rfl hr) ?_
            show Runs p e below _ (s₁.setTop (mkF m 79 #[.val (.int ((z0.toUInt32 >>> ((8 : Int32) &&& 31).toUInt32).toInt32)), .val (.int (9 : Int32))] [(.int ((9 : Int32) + ((((z0.toUInt32 >>> ((8 : Int32) &&& 31).toUInt32).toInt32).toUInt32 >>> ((1 : Int32) &&& 31).toUInt32).toInt32)))]))
            refine Runs.ret X0 hx hrt hlk (Or.inl ⟨rfl, by simp, _, rfl⟩) rfl (hb hby d11_79) (by decide) (by decide) ?_
            rw [e0]
            exact ⟨congrArg (fun z => some (Value.int z)) (en.trans ((if_neg hc23).trans ((if_pos hc38).trans ((if_neg hc52).trans ((if_neg hc64).trans rfl))))).symm, N0, rfl⟩
      · -- pc 38: not (256 : Int32) < z0
        refine Runs.by (fun _ hr => XS.icmpYes X0.here hx rfl (pc0 := 38) (pc' := 49) rfl (hb hby d11_38) rfl (flt hc38).2.2.2 (by decide) (by decide) hr) ?_
        show Runs p e below _ (s₁.setTop (mkF m 49 #[.val (.int z0), .val (.int (1 : Int32))] []))
        refine Runs.by (fun _ hr => XS.iloadN X0.here hx rfl (hb hby d11_49) rfl  hr) ?_
        show Runs p e below _ (s₁.setTop (mkF m 50 #[.val (.int z0), .val (.int (1 : Int32))] [(.int z0)]))
        refine Runs.by (fun _ hr => XS.bipush X0.here hx rfl (hb hby d11_50) hr) ?_
        show Runs p e below _ (s₁.setTop (mkF m 52 #[.val (.int z0), .val (.int (1 : Int32))] [(.int (16 : Int32)), (.int z0)]))
        by_cases hc52 : (16 : Int32) < z0
        · -- pc 52: (16 : Int32) < z0
          refine Runs.by (fun _ hr => XS.icmpNo X0.here hx rfl (hb hby d11_52) rfl (tlt hc52).2.2.2 hr) ?_
          show Runs p e below _ (s₁.setTop (mkF m 55 #[.val (.int z0), .val (.int (1 : Int32))] []))
          refine Runs.by (fun _ hr => XS.iinc X0.here hx rfl (hb hby d11_55) rfl (l' := #[.val (.int z0), .val (.int (5 : Int32))]) rfl hr) ?_
          show Runs p e below _ (s₁.setTop (mkF m 58 #[.val (.int z0), .val (.int (5 : Int32))] []))
          refine Runs.by (fun _ hr => XS.iloadN X0.here hx rfl (hb hby d11_58) rfl  hr) ?_
          show Runs p e below _ (s₁.setTop (mkF m 59 #[.val (.int z0), .val (.int (5 : Int32))] [(.int z0)]))
          refine Runs.by (fun _ hr => XS.iconst X0.here hx rfl (hb hby d11_59) hr) ?_
          show Runs p e below _ (s₁.setTop (mkF m 60 #[.val (.int z0), .val (.int (5 : Int32))] [(.int (4 : Int32)), (.int z0)]))
          refine Runs.by (fun _ hr => XS.iushr X0.here hx rfl (hb hby d11_60) rfl hr) ?_
          show Runs p e below _ (s₁.setTop (mkF m 61 #[.val (.int z0), .val (.int (5 : Int32))] [(.int ((z0.toUInt32 >>> ((4 : Int32) &&& 31).toUInt32).toInt32))]))
          refine Runs.by (fun _ hr => XS.istoreN X0.here hx rfl (hb hby d11_61) rfl (l' := #[.val (.int ((z0.toUInt32 >>> ((4 : Int32) &&& 31).toUInt32).toInt32)), .val (.int (5 : Int32))]) rfl hr) ?_
          show Runs p e below _ (s₁.setTop (mkF m 62 #[.val (.int ((z0.toUInt32 >>> ((4 : Int32) &&& 31).toUInt32).toInt32)), .val (.int (5 : Int32))] []))
          refine Runs.by (fun _ hr => XS.iloadN X0.here hx rfl (hb hby d11_62) rfl  hr) ?_
          show Runs p e below _ (s₁.setTop (mkF m 63 #[.val (.int ((z0.toUInt32 >>> ((4 : Int32) &&& 31).toUInt32).toInt32)), .val (.int (5 : Int32))] [(.int ((z0.toUInt32 >>> ((4 : Int32) &&& 31).toUInt32).toInt32))]))
          refine Runs.by (fun _ hr => XS.iconst X0.here hx rfl (hb hby d11_63) hr) ?_
          show Runs p e below _ (s₁.setTop (mkF m 64 #[.val (.int ((z0.toUInt32 >>> ((4 : Int32) &&& 31).toUInt32).toInt32)), .val (.int (5 : Int32))] [(.int (4 : Int32)), (.int ((z0.toUInt32 >>> ((4 : Int32) &&& 31).toUInt32).toInt32))]))
          by_cases hc64 : (4 : Int32) < ((z0.toUInt32 >>> ((4 : Int32) &&& 31).toUInt32).toInt32)
          · -- pc 64: (4 : Int32) < ((z0.toUInt32 >>> ((4 : Int32) &&& 31).toUInt32).toInt32)
            refine Runs.by (fun _ hr => XS.icmpNo X0.here hx rfl (hb hby d11_64) rfl (tlt hc64).2.2.2 hr) ?_
            show Runs p e below _ (s₁.setTop (mkF m 67 #[.val (.int ((z0.toUInt32 >>> ((4 : Int32) &&& 31).toUInt32).toInt32)), .val (.int (5 : Int32))] []))
            refine Runs.by (fun _ hr => XS.iinc X0.here hx rfl (hb hby d11_67) rfl (l' := #[.val (.int ((z0.toUInt32 >>> ((4 : Int32) &&& 31).toUInt32).toInt32)), .val (.int (7 : Int32))]) rfl hr) ?_
            show Runs p e below _ (s₁.setTop (mkF m 70 #[.val (.int ((z0.toUInt32 >>> ((4 : Int32) &&& 31).toUInt32).toInt32)), .val (.int (7 : Int32))] []))
            refine Runs.by (fun _ hr => XS.iloadN X0.here hx rfl (hb hby d11_70) rfl  hr) ?_
            show Runs p e below _ (s₁.setTop (mkF m 71 #[.val (.int ((z0.toUInt32 >>> ((4 : Int32) &&& 31).toUInt32).toInt32)), .val (.int (7 : Int32))] [(.int ((z0.toUInt32 >>> ((4 : Int32) &&& 31).toUInt32).toInt32))]))
            refine Runs.by (fun _ hr => XS.iconst X0.here hx rfl (hb hby d11_71) hr) ?_
            show Runs p e below _ (s₁.setTop (mkF m 72 #[.val (.int ((z0.toUInt32 >>> ((4 : Int32) &&& 31).toUInt32).toInt32)), .val (.int (7 : Int32))] [(.int (2 : Int32)), (.int ((z0.toUInt32 >>> ((4 : Int32) &&& 31).toUInt32).toInt32))]))
            refine Runs.by (fun _ hr => XS.iushr X0.here hx rfl (hb hby d11_72) rfl hr) ?_
            show Runs p e below _ (s₁.setTop (mkF m 73 #[.val (.int ((z0.toUInt32 >>> ((4 : Int32) &&& 31).toUInt32).toInt32)), .val (.int (7 : Int32))] [(.int ((((z0.toUInt32 >>> ((4 : Int32) &&& 31).toUInt32).toInt32).toUInt32 >>> ((2 : Int32) &&& 31).toUInt32).toInt32))]))
            refine Runs.by (fun _ hr => XS.istoreN X0.here hx rfl (hb hby d11_73) rfl (l' := #[.val (.int ((((z0.toUInt32 >>> ((4 : Int32) &&& 31).toUInt32).toInt32).toUInt32 >>> ((2 : Int32) &&& 31).toUInt32).toInt32)), .val (.int (7 : Int32))]) rfl hr) ?_
            show Runs p e below _ (s₁.setTop (mkF m 74 #[.val (.int ((((z0.toUInt32 >>> ((4 : Int32) &&& 31).toUInt32).toInt32).toUInt32 >>> ((2 : Int32) &&& 31).toUInt32).toInt32)), .val (.int (7 : Int32))] []))
            refine Runs.by (fun _ hr => XS.iloadN X0.here hx rfl (hb hby d11_74) rfl  hr) ?_
            show Runs p e below _ (s₁.setTop (mkF m 75 #[.val (.int ((((z0.toUInt32 >>> ((4 : Int32) &&& 31).toUInt32).toInt32).toUInt32 >>> ((2 : Int32) &&& 31).toUInt32).toInt32)), .val (.int (7 : Int32))] [(.int (7 : Int32))]))
            refine Runs.by (fun _ hr => XS.iloadN X0.here hx rfl (hb hby d11_75) rfl  hr) ?_
            show Runs p e below _ (s₁.setTop (mkF m 76 #[.val (.int ((((z0.toUInt32 >>> ((4 : Int32) &&& 31).toUInt32).toInt32).toUInt32 >>> ((2 : Int32) &&& 31).toUInt32).toInt32)), .val (.int (7 : Int32))] [(.int ((((z0.toUInt32 >>> ((4 : Int32) &&& 31).toUInt32).toInt32).toUInt32 >>> ((2 : Int32) &&& 31).toUInt32).toInt32)), (.int (7 : Int32))]))
            refine Runs.by (fun _ hr => XS.iconst X0.here hx rfl (hb hby d11_76) hr) ?_
            show Runs p e below _ (s₁.setTop (mkF m 77 #[.val (.int ((((z0.toUInt32 >>> ((4 : Int32) &&& 31).toUInt32).toInt32).toUInt32 >>> ((2 : Int32) &&& 31).toUInt32).toInt32)), .val (.int (7 : Int32))] [(.int (1 : Int32)), (.int ((((z0.toUInt32 >>> ((4 : Int32) &&& 31).toUInt32).toInt32).toUInt32 >>> ((2 : Int32) &&& 31).toUInt32).toInt32)), (.int (7 : Int32))]))
            refine Runs.by (fun _ hr => XS.iushr X0.here hx rfl (hb hby d11_77) rfl hr) ?_
            show Runs p e below _ (s₁.setTop (mkF m 78 #[.val (.int ((((z0.toUInt32 >>> ((4 : Int32) &&& 31).toUInt32).toInt32).toUInt32 >>> ((2 : Int32) &&& 31).toUInt32).toInt32)), .val (.int (7 : Int32))] [(.int ((((((z0.toUInt32 >>> ((4 : Int32) &&& 31).toUInt32).toInt32).toUInt32 >>> ((2 : Int32) &&& 31).toUInt32).toInt32).toUInt32 >>> ((1 : Int32) &&& 31).toUInt32).toInt32)), (.int (7 : Int32))]))
            refine Runs.by (fun _ hr => XS.iadd X0.here hx rfl (hb hby d11_78) rfl hr) ?_
            show Runs p e below _ (s₁.setTop (mkF m 79 #[.val (.int ((((z0.toUInt32 >>> ((4 : Int32) &&& 31).toUInt32).toInt32).toUInt32 >>> ((2 : Int32) &&& 31).toUInt32).toInt32)), .val (.int (7 : Int32))] [(.int ((7 : Int32) + ((((((z0.toUInt32 >>> ((4 : Int32) &&& 31).toUInt32).toInt32).toUInt32 >>> ((2 : Int32) &&& 31).toUInt32).toInt32).toUInt32 >>> ((1 : Int32) &&& 31).toUInt32).toInt32)))]))
            refine Runs.ret X0 hx hrt hlk (Or.inl ⟨rfl, by simp, _, rfl⟩) rfl (hb hby d11_79) (by decide) (by decide) ?_
            rw [e0]
            exact ⟨congrArg (fun z => some (Value.int z)) (en.trans ((if_neg hc23).trans ((if_neg hc38).trans ((if_pos hc52).trans ((if_pos hc64).trans rfl))))).symm, N0, rfl⟩
          · -- pc 64: not (4 : Int32) < ((z0.toUInt32 >>> ((4 : Int32) &&& 31).toUInt32).toInt32)
            refine Runs.by (fun _ hr => XS.icmpYes X0.here hx rfl (pc0 := 64) (pc' := 74) rfl (hb hby d11_64) rfl (flt hc64).2.2.2 (by decide) (by decide) hr) ?_
            show Runs p e below _ (s₁.setTop (mkF m 74 #[.val (.int ((z0.toUInt32 >>> ((4 : Int32) &&& 31).toUInt32).toInt32)), .val (.int (5 : Int32))] []))
            refine Runs.by (fun _ hr => XS.iloadN X0.here hx rfl (hb hby d11_74) rfl  hr) ?_
            show Runs p e below _ (s₁.setTop (mkF m 75 #[.val (.int ((z0.toUInt32 >>> ((4 : Int32) &&& 31).toUInt32).toInt32)), .val (.int (5 : Int32))] [(.int (5 : Int32))]))
            refine Runs.by (fun _ hr => XS.iloadN X0.here hx rfl (hb hby d11_75) rfl  hr) ?_
            show Runs p e below _ (s₁.setTop (mkF m 76 #[.val (.int ((z0.toUInt32 >>> ((4 : Int32) &&& 31).toUInt32).toInt32)), .val (.int (5 : Int32))] [(.int ((z0.toUInt32 >>> ((4 : Int32) &&& 31).toUInt32).toInt32)), (.int (5 : Int32))]))
            refine Runs.by (fun _ hr => XS.iconst X0.here hx rfl (hb hby d11_76) hr) ?_
            show Runs p e below _ (s₁.setTop (mkF m 77 #[.val (.int ((z0.toUInt32 >>> ((4 : Int32) &&& 31).toUInt32).toInt32)), .val (.int (5 : Int32))] [(.int (1 : Int32)), (.int ((z0.toUInt32 >>> ((4 : Int32) &&& 31).toUInt32).toInt32)), (.int (5 : Int32))]))
            refine Runs.by (fun _ hr => XS.iushr X0.here hx rfl (hb hby d11_77) rfl hr) ?_
            show Runs p e below _ (s₁.setTop (mkF m 78 #[.val (.int ((z0.toUInt32 >>> ((4 : Int32) &&& 31).toUInt32).toInt32)), .val (.int (5 : Int32))] [(.int ((((z0.toUInt32 >>> ((4 : Int32) &&& 31).toUInt32).toInt32).toUInt32 >>> ((1 : Int32) &&& 31).toUInt32).toInt32)), (.int (5 : Int32))]))
            refine Runs.by (fun _ hr => XS.iadd X0.here hx rfl (hb hby d11_78) rfl hr) ?_
            show Runs p e below _ (s₁.setTop (mkF m 79 #[.val (.int ((z0.toUInt32 >>> ((4 : Int32) &&& 31).toUInt32).toInt32)), .val (.int (5 : Int32))] [(.int ((5 : Int32) + ((((z0.toUInt32 >>> ((4 : Int32) &&& 31).toUInt32).toInt32).toUInt32 >>> ((1 : Int32) &&& 31).toUInt32).toInt32)))]))
            refine Runs.ret X0 hx hrt hlk (Or.inl ⟨rfl, by simp, _, rfl⟩) rfl (hb hby d11_79) (by decide) (by decide) ?_
            rw [e0]
            exact ⟨congrArg (fun z => some (Value.int z)) (en.trans ((if_neg hc23).trans ((if_neg hc38).trans ((if_pos hc52).trans ((if_neg hc64).trans rfl))))).symm, N0, rfl⟩
        · -- pc 52: not (16 : Int32) < z0
          refine Runs.by (fun _ hr => XS.icmpYes X0.here hx rfl (pc0 := 52) (pc' := 62) rfl (hb hby d11_52) rfl (flt hc52).2.2.2 (by decide) (by decide) hr) ?_
          show Runs p e below _ (s₁.setTop (mkF m 62 #[.val (.int z0), .val (.int (1 : Int32))] []))
          refine Runs.by (fun _ hr => XS.iloadN X0.here hx rfl (hb hby d11_62) rfl  hr) ?_
          show Runs p e below _ (s₁.setTop (mkF m 63 #[.val (.int z0), .val (.int (1 : Int32))] [(.int z0)]))
          refine Runs.by (fun _ hr => XS.iconst X0.here hx rfl (hb hby d11_63) hr) ?_
          show Runs p e below _ (s₁.setTop (mkF m 64 #[.val (.int z0), .val (.int (1 : Int32))] [(.int (4 : Int32)), (.int z0)]))
          by_cases hc64 : (4 : Int32) < z0
          · -- pc 64: (4 : Int32) < z0
            refine Runs.by (fun _ hr => XS.icmpNo X0.here hx rfl (hb hby d11_64) rfl (tlt hc64).2.2.2 hr) ?_
            show Runs p e below _ (s₁.setTop (mkF m 67 #[.val (.int z0), .val (.int (1 : Int32))] []))
            refine Runs.by (fun _ hr => XS.iinc X0.here hx rfl (hb hby d11_67) rfl (l' := #[.val (.int z0), .val (.int (3 : Int32))]) rfl hr) ?_
            show Runs p e below _ (s₁.setTop (mkF m 70 #[.val (.int z0), .val (.int (3 : Int32))] []))
            refine Runs.by (fun _ hr => XS.iloadN X0.here hx rfl (hb hby d11_70) rfl  hr) ?_
            show Runs p e below _ (s₁.setTop (mkF m 71 #[.val (.int z0), .val (.int (3 : Int32))] [(.int z0)]))
            refine Runs.by (fun _ hr => XS.iconst X0.here hx rfl (hb hby d11_71) hr) ?_
            show Runs p e below _ (s₁.setTop (mkF m 72 #[.val (.int z0), .val (.int (3 : Int32))] [(.int (2 : Int32)), (.int z0)]))
            refine Runs.by (fun _ hr => XS.iushr X0.here hx rfl (hb hby d11_72) rfl hr) ?_
            show Runs p e below _ (s₁.setTop (mkF m 73 #[.val (.int z0), .val (.int (3 : Int32))] [(.int ((z0.toUInt32 >>> ((2 : Int32) &&& 31).toUInt32).toInt32))]))
            refine Runs.by (fun _ hr => XS.istoreN X0.here hx rfl (hb hby d11_73) rfl (l' := #[.val (.int ((z0.toUInt32 >>> ((2 : Int32) &&& 31).toUInt32).toInt32)), .val (.int (3 : Int32))]) rfl hr) ?_
            show Runs p e below _ (s₁.setTop (mkF m 74 #[.val (.int ((z0.toUInt32 >>> ((2 : Int32) &&& 31).toUInt32).toInt32)), .val (.int (3 : Int32))] []))
            refine Runs.by (fun _ hr => XS.iloadN X0.here hx rfl (hb hby d11_74) rfl  hr) ?_
            show Runs p e below _ (s₁.setTop (mkF m 75 #[.val (.int ((z0.toUInt32 >>> ((2 : Int32) &&& 31).toUInt32).toInt32)), .val (.int (3 : Int32))] [(.int (3 : Int32))]))
            refine Runs.by (fun _ hr => XS.iloadN X0.here hx rfl (hb hby d11_75) rfl  hr) ?_
            show Runs p e below _ (s₁.setTop (mkF m 76 #[.val (.int ((z0.toUInt32 >>> ((2 : Int32) &&& 31).toUInt32).toInt32)), .val (.int (3 : Int32))] [(.int ((z0.toUInt32 >>> ((2 : Int32) &&& 31).toUInt32).toInt32)), (.int (3 : Int32))]))
            refine Runs.by (fun _ hr => XS.iconst X0.here hx rfl (hb hby d11_76) hr) ?_
            show Runs p e below _ (s₁.setTop (mkF m 77 #[.val (.int ((z0.toUInt32 >>> ((2 : Int32) &&& 31).toUInt32).toInt32)), .val (.int (3 : Int32))] [(.int (1 : Int32)), (.int ((z0.toUInt32 >>> ((2 : Int32) &&& 31).toUInt32).toInt32)), (.int (3 : Int32))]))
            refine Runs.by (fun _ hr => XS.iushr X0.here hx rfl (hb hby d11_77) rfl hr) ?_
            show Runs p e below _ (s₁.setTop (mkF m 78 #[.val (.int ((z0.toUInt32 >>> ((2 : Int32) &&& 31).toUInt32).toInt32)), .val (.int (3 : Int32))] [(.int ((((z0.toUInt32 >>> ((2 : Int32) &&& 31).toUInt32).toInt32).toUInt32 >>> ((1 : Int32) &&& 31).toUInt32).toInt32)), (.int (3 : Int32))]))
            refine Runs.by (fun _ hr => XS.iadd X0.here hx rfl (hb hby d11_78) rfl hr) ?_
            show Runs p e below _ (s₁.setTop (mkF m 79 #[.val (.int ((z0.toUInt32 >>> ((2 : Int32) &&& 31).toUInt32).toInt32)), .val (.int (3 : Int32))] [(.int ((3 : Int32) + ((((z0.toUInt32 >>> ((2 : Int32) &&& 31).toUInt32).toInt32).toUInt32 >>> ((1 : Int32) &&& 31).toUInt32).toInt32)))]))
            refine Runs.ret X0 hx hrt hlk (Or.inl ⟨rfl, by simp, _, rfl⟩) rfl (hb hby d11_79) (by decide) (by decide) ?_
            rw [e0]
            exact ⟨congrArg (fun z => some (Value.int z)) (en.trans ((if_neg hc23).trans ((if_neg hc38).trans ((if_neg hc52).trans ((if_pos hc64).trans rfl))))).symm, N0, rfl⟩
          · -- pc 64: not (4 : Int32) < z0
            refine Runs.by (fun _ hr => XS.icmpYes X0.here hx rfl (pc0 := 64) (pc' := 74) rfl (hb hby d11_64) rfl (flt hc64).2.2.2 (by decide) (by decide) hr) ?_
            show Runs p e below _ (s₁.setTop (mkF m 74 #[.val (.int z0), .val (.int (1 : Int32))] []))
            refine Runs.by (fun _ hr => XS.iloadN X0.here hx rfl (hb hby d11_74) rfl  hr) ?_
            show Runs p e below _ (s₁.setTop (mkF m 75 #[.val (.int z0), .val (.int (1 : Int32))] [(.int (1 : Int32))]))
            refine Runs.by (fun _ hr => XS.iloadN X0.here hx rfl (hb hby d11_75) rfl  hr) ?_
            show Runs p e below _ (s₁.setTop (mkF m 76 #[.val (.int z0), .val (.int (1 : Int32))] [(.int z0), (.int (1 : Int32))]))
            refine Runs.by (fun _ hr => XS.iconst X0.here hx rfl (hb hby d11_76) hr) ?_
            show Runs p e below _ (s₁.setTop (mkF m 77 #[.val (.int z0), .val (.int (1 : Int32))] [(.int (1 : Int32)), (.int z0), (.int (1 : Int32))]))
            refine Runs.by (fun _ hr => XS.iushr X0.here hx rfl (hb hby d11_77) rfl hr) ?_
            show Runs p e below _ (s₁.setTop (mkF m 78 #[.val (.int z0), .val (.int (1 : Int32))] [(.int ((z0.toUInt32 >>> ((1 : Int32) &&& 31).toUInt32).toInt32)), (.int (1 : Int32))]))
            refine Runs.by (fun _ hr => XS.iadd X0.here hx rfl (hb hby d11_78) rfl hr) ?_
            show Runs p e below _ (s₁.setTop (mkF m 79 #[.val (.int z0), .val (.int (1 : Int32))] [(.int ((1 : Int32) + ((z0.toUInt32 >>> ((1 : Int32) &&& 31).toUInt32).toInt32)))]))
            refine Runs.ret X0 hx hrt hlk (Or.inl ⟨rfl, by simp, _, rfl⟩) rfl (hb hby d11_79) (by decide) (by decide) ?_
            rw [e0]
            exact ⟨congrArg (fun z => some (Value.int z)) (en.trans ((if_neg hc23).trans ((if_neg hc38).trans ((if_neg hc52).trans ((if_neg hc64).trans rfl))))).symm, N0, rfl⟩
  · -- pc 9: not (0 : Int32) < (own_zb p0)
    refine Runs.by (fun _ hr => XS.ifNo X0.here hx rfl (hb hby d11_9) rfl ((if0 _ _).trans (flt hc9).2.2.1) hr) ?_
    show Runs p e below _ (s₁.setTop (mkF m 12 #[.val (.int (own_zb p0)), .unset] []))
    refine Runs.by (fun _ hr => XS.iloadN X0.here hx rfl (hb hby d11_12) rfl  hr) ?_
    show Runs p e below _ (s₁.setTop (mkF m 13 #[.val (.int (own_zb p0)), .unset] [(.int (own_zb p0))]))
    refine Runs.by (fun _ hr => XS.bipush X0.here hx rfl (hb hby d11_13) hr) ?_
    show Runs p e below _ (s₁.setTop (mkF m 15 #[.val (.int (own_zb p0)), .unset] [(.int (32 : Int32)), (.int (own_zb p0))]))
    refine Runs.by (fun _ hr => XS.iand X0.here hx rfl (hb hby d11_15) rfl hr) ?_
    show Runs p e below _ (s₁.setTop (mkF m 16 #[.val (.int (own_zb p0)), .unset] [(.int ((own_zb p0) &&& (32 : Int32)))]))
    refine Runs.ret X0 hx hrt hlk (Or.inl ⟨rfl, by simp, _, rfl⟩) rfl (hb hby d11_16) (by decide) (by decide) ?_
    rw [e0]
    exact ⟨congrArg (fun z => some (Value.int z)) (if_neg hc9).symm, N0, rfl⟩
theorem d10_0 : decode jdk_35_method_49_code 0 = .ok (.lload_n 0, 1) := by decide +kernel
theorem d10_1 : decode jdk_35_method_49_code 1 = .ok (.l2i, 1) := by decide +kernel
theorem d10_2 : decode jdk_35_method_49_code 2 = .ok (.istore_n 2, 1) := by decide +kernel
theorem d10_3 : decode jdk_35_method_49_code 3 = .ok (.iload_n 2, 1) := by decide +kernel
theorem d10_4 : decode jdk_35_method_49_code 4 = .ok (.ifCond .ne 17, 3) := by decide +kernel
theorem d10_7 : decode jdk_35_method_49_code 7 = .ok (.bipush 32, 2) := by decide +kernel
theorem d10_9 : decode jdk_35_method_49_code 9 = .ok (.lload_n 0, 1) := by decide +kernel
theorem d10_10 : decode jdk_35_method_49_code 10 = .ok (.bipush 32, 2) := by decide +kernel
theorem d10_12 : decode jdk_35_method_49_code 12 = .ok (.lushr, 1) := by decide +kernel
theorem d10_13 : decode jdk_35_method_49_code 13 = .ok (.l2i, 1) := by decide +kernel
theorem d10_14 : decode jdk_35_method_49_code 14 = .ok (.invokestatic 311, 3) := by decide +kernel
theorem d10_17 : decode jdk_35_method_49_code 17 = .ok (.iadd, 1) := by decide +kernel
theorem d10_18 : decode jdk_35_method_49_code 18 = .ok (.goto 7, 3) := by decide +kernel
theorem d10_21 : decode jdk_35_method_49_code 21 = .ok (.iload_n 2, 1) := by decide +kernel
theorem d10_22 : decode jdk_35_method_49_code 22 = .ok (.invokestatic 311, 3) := by decide +kernel
theorem d10_25 : decode jdk_35_method_49_code 25 = .ok (.ireturn, 1) := by decide +kernel
theorem ef_10_8 (m : MethodId) (q0 : Int64) : entryFrame m #[(.long q0)] 3 = mkF m 0 #[.val (.long q0), .second, .unset] [] := by first | (simp [entryFrame, mkF, argsToLocals, Value.category]; done) | rfl
def Q_rm10 (Z : State) (q0 : Int64)  (h0 : Heap) (n0 : Nat) (v : Option Value) (h : Heap) (L : List Loc) : Prop := v = some (.int (own_ntz q0)) ∧ Fr n0 L ∧ h = h0
set_option maxRecDepth 65536 in
set_option maxHeartbeats 40000000 in
theorem rm10 (l : Launch) (Z : State) (a0 : Array Value) (hw : ∀ d ∈ tables_1, d.before a0 Z = true) (ws : List Jvm.Cond) (q0 : Int64)  (h0 : Heap) (n0 : Nat) (Z0 : n0 ≤ h0.size) :
    MetFree l (⟨"java/lang/Long", "numberOfTrailingZeros", "(J)I"⟩ : MethodName) (head1 (Jvm.Cond.code (⟨"java/lang/Long", "numberOfTrailingZeros", "(J)I"⟩ : MethodName) jdk_35_method_49_code 3 (some .int) :: ws) ({ frames := 1, cells := 0, slots := 0, locals := 14 } : Room)) (fun a U => a = #[(.long q0)] ∧ Z.Warmed39 U.vm ∧ U.heap = h0) (fun _ _ _ _ _ => True) (fun _ U o U' => ∃ v L, o = .returned v ∧ Q_rm10 Z q0 h0 n0 v U'.heap L ∧ FrameEnd U o U' L ({ frames := 1, cells := 0, slots := 0, locals := 14 } : Room).cells ({ frames := 1, cells := 0, slots := 0, locals := 14 } : Room).slots) := by
  refine MetFree.of_bodySF (plainFor_of_name pn_java_lang_Long) hisR ?_
  intro p e s m args below meth c s₁ Bd hml0 hP hK
  obtain ⟨rfl, hZ, hh⟩ := hP
  have hx := Bd.exec
  have hby := Bd.bytes
  have hlk := BodyLoose.notSynchronized Bd
  have hrt := Bd.returns
  have hml : c.maxLocals = 3 := hml0
  have hown : s.vm.findClass "java/lang/Long" = some m.cls := findClass_of_methodNamed Bd.named
  have hnm := (name_of_methodNamed Bd.named Bd.method).1
  have X0 : Stand p l e ({ frames := 1, cells := 0, slots := 0, locals := 14 } : Room) s m #[(.long q0)] below meth c s₁ [] 0 0 := Stand.of_body Bd
  have e0 : s₁.heap = h0 := by rw [← hh, Bd.state]; rfl
  have N0 := Fr.nil n0
  have K0 : Keep h0 h0 [] := Keep.refl h0 _
  show Runs p e below (QE s (Q_rm10 Z q0 h0 n0) ({ frames := 1, cells := 0, slots := 0, locals := 14 } : Room).cells ({ frames := 1, cells := 0, slots := 0, locals := 14 } : Room).slots) (s₁.setTop (entryFrame m #[(.long q0)] 3))
  rw [ef_10_8 m q0]
  show Runs p e below _ (s₁.setTop (mkF m 0 #[.val (.long q0), .second, .unset] []))
  refine Runs.by (fun _ hr => XS.lloadN X0.here hx rfl (hb hby d10_0) rfl  hr) ?_
  show Runs p e below _ (s₁.setTop (mkF m 1 #[.val (.long q0), .second, .unset] [(.long q0)]))
  refine Runs.by (fun _ hr => XS.l2i X0.here hx rfl (hb hby d10_1) rfl hr) ?_
  show Runs p e below _ (s₁.setTop (mkF m 2 #[.val (.long q0), .second, .unset] [(.int (q0.toInt32))]))
  refine Runs.by (fun _ hr => XS.istoreN X0.here hx rfl (hb hby d10_2) rfl (l' := #[.val (.long q0), .second, .val (.int (q0.toInt32))]) rfl hr) ?_
  show Runs p e below _ (s₁.setTop (mkF m 3 #[.val (.long q0), .second, .val (.int (q0.toInt32))] []))
  refine Runs.by (fun _ hr => XS.iloadN X0.here hx rfl (hb hby d10_3) rfl  hr) ?_
  show Runs p e below _ (s₁.setTop (mkF m 4 #[.val (.long q0), .second, .val (.int (q0.toInt32))] [(.int (q0.toInt32))]))
  by_cases hc4 : (q0.toInt32) = (0 : Int32)
  · -- pc 4: (q0.toInt32) = (0 : Int32)
    refine Runs.by (fun _ hr => XS.ifNo X0.here hx rfl (hb hby d10_4) rfl ((if0 _ _).trans (teq hc4).2) hr) ?_
    show Runs p e below _ (s₁.setTop (mkF m 7 #[.val (.long q0), .second, .val (.int (q0.toInt32))] []))
    refine Runs.by (fun _ hr => XS.bipush X0.here hx rfl (hb hby d10_7) hr) ?_
    show Runs p e below _ (s₁.setTop (mkF m 9 #[.val (.long q0), .second, .val (.int (q0.toInt32))] [(.int (32 : Int32))]))
    refine Runs.by (fun _ hr => XS.lloadN X0.here hx rfl (hb hby d10_9) rfl  hr) ?_
    show Runs p e below _ (s₁.setTop (mkF m 10 #[.val (.long q0), .second, .val (.int (q0.toInt32))] [(.long q0), (.int (32 : Int32))]))
    refine Runs.by (fun _ hr => XS.bipush X0.here hx rfl (hb hby d10_10) hr) ?_
    show Runs p e below _ (s₁.setTop (mkF m 12 #[.val (.long q0), .second, .val (.int (q0.toInt32))] [(.int (32 : Int32)), (.long q0), (.int (32 : Int32))]))
    refine Runs.by (fun _ hr => XS.lushr X0.here hx rfl (hb hby d10_12) rfl hr) ?_
    show Runs p e below _ (s₁.setTop (mkF m 13 #[.val (.long q0), .second, .val (.int (q0.toInt32))] [(.long ((q0.toUInt64 >>> ((32 : Int32) &&& 0x3f).toInt64.toUInt64).toInt64)), (.int (32 : Int32))]))
    refine Runs.by (fun _ hr => XS.l2i X0.here hx rfl (hb hby d10_13) rfl hr) ?_
    show Runs p e below _ (s₁.setTop (mkF m 14 #[.val (.long q0), .second, .val (.int (q0.toInt32))] [(.int (((q0.toUInt64 >>> ((32 : Int32) &&& 0x3f).toInt64.toUInt64).toInt64).toInt32)), (.int (32 : Int32))]))
    obtain ⟨_, _, ⟨T1, L1, k1, n1⟩, -, X1, ⟨Lc1, hQ1, l1, y1, z1⟩, st1⟩ := Jvm.LawKit.callS X0 hx (y := (⟨"java/lang/Integer", "numberOfTrailingZeros", "(I)I"⟩ : MethodName)) hown (mvT hZ (hw _ (List.mem_of_getElem? (i := 56) rfl))) (mvT hZ (hw _ (List.mem_of_getElem? (i := 57) rfl))) (mvT hZ (hw _ (List.mem_of_getElem? (i := 58) rfl))) (mvT hZ (hw _ (List.mem_of_getElem? (i := 59) rfl))) (by decide) (backOf (W := 1) (rm11 l Z a0 hw [] (((q0.toUInt64 >>> ((32 : Int32) &&& 0x3f).toInt64.toUInt64).toInt64).toInt32)  h0 n0 (Nat.le_trans Z0 K0.1) ) hZ (hw _ (List.mem_of_getElem? (i := 59) rfl)) (hw _ (List.mem_of_getElem? (i := 58) rfl)) (by decide) (by decide)) (g := (mkF m 14 #[.val (.long q0), .second, .val (.int (q0.toInt32))] [(.int (((q0.toUInt64 >>> ((32 : Int32) &&& 0x3f).toInt64.toUInt64).toInt64).toInt32)), (.int (32 : Int32))])) rfl (by rw [hml]; rfl) (argsL := [(.int (((q0.toUInt64 >>> ((32 : Int32) &&& 0x3f).toInt64.toUInt64).toInt64).toInt32))]) (rest := [(.int (32 : Int32))]) (lenOf pd_0 rfl) rfl (by show 2 * 0 + _ ≤ _; exact Nat.le_of_eq rfl) (hb hby d10_14) (fun _ _ => ⟨rfl, e0, (by decide : 0 + 0 ≤ _), (by decide : 0 + 0 ≤ _)⟩)
    dsimp only [Pt.U, Pt.locs, Pt.cells, Pt.slots] at X1 l1 y1 z1 st1 hQ1
    subst l1 y1 z1
    obtain ⟨rfl, Nq1, eq1⟩ := hQ1
    have N1 := Fr.app N0 Nq1
    refine Runs.by (fun t hr => st1 t hr) ?_
    show Runs p e below _ (T1.setTop (mkF m 17 #[.val (.long q0), .second, .val (.int (q0.toInt32))] [(.int (own_ntzI (((q0.toUInt64 >>> ((32 : Int32) &&& 0x3f).toInt64.toUInt64).toInt64).toInt32))), (.int (32 : Int32))]))
    refine Runs.by (fun _ hr => XS.iadd X1.here hx rfl (hb hby d10_17) rfl hr) ?_
    show Runs p e below _ (T1.setTop (mkF m 18 #[.val (.long q0), .second, .val (.int (q0.toInt32))] [(.int ((32 : Int32) + (own_ntzI (((q0.toUInt64 >>> ((32 : Int32) &&& 0x3f).toInt64.toUInt64).toInt64).toInt32))))]))
    refine Runs.by (fun _ hr => XS.goto X1.here hx rfl (pc0 := 18) (pc' := 25) rfl (hb hby d10_18) (by decide) (by decide) hr) ?_
    show Runs p e below _ (T1.setTop (mkF m 25 #[.val (.long q0), .second, .val (.int (q0.toInt32))] [(.int ((32 : Int32) + (own_ntzI (((q0.toUInt64 >>> ((32 : Int32) &&& 0x3f).toInt64.toUInt64).toInt64).toInt32))))]))
    refine Runs.ret X1 hx hrt hlk (Or.inl ⟨rfl, by simp, _, rfl⟩) rfl (hb hby d10_25) (by decide) (by decide) ?_
    rw [eq1]
    refine ⟨?_, N1, rfl⟩
    first
      | exact congrArg (fun z => some (Value.int z)) (if_pos hc4).symm
      | exact congrArg (fun z => some (Value.int z)) (if_neg hc4).symm
  · -- pc 4: not (q0.toInt32) = (0 : Int32)
    refine Runs.by (fun _ hr => XS.ifYes X0.here hx rfl (pc0 := 4) (pc' := 21) rfl (hb hby d10_4) rfl ((if0 _ _).trans (feq hc4).2) (by decide) (by decide) hr) ?_
    show Runs p e below _ (s₁.setTop (mkF m 21 #[.val (.long q0), .second, .val (.int (q0.toInt32))] []))
    refine Runs.by (fun _ hr => XS.iloadN X0.here hx rfl (hb hby d10_21) rfl  hr) ?_
    show Runs p e below _ (s₁.setTop (mkF m 22 #[.val (.long q0), .second, .val (.int (q0.toInt32))] [(.int (q0.toInt32))]))
    obtain ⟨_, _, ⟨T2, L2, k2, n2⟩, -, X2, ⟨Lc2, hQ2, l2, y2, z2⟩, st2⟩ := Jvm.LawKit.callS X0 hx (y := (⟨"java/lang/Integer", "numberOfTrailingZeros", "(I)I"⟩ : MethodName)) hown (mvT hZ (hw _ (List.mem_of_getElem? (i := 56) rfl))) (mvT hZ (hw _ (List.mem_of_getElem? (i := 57) rfl))) (mvT hZ (hw _ (List.mem_of_getElem? (i := 58) rfl))) (mvT hZ (hw _ (List.mem_of_getElem? (i := 59) rfl))) (by decide) (backOf (W := 0) (rm11 l Z a0 hw [] (q0.toInt32)  h0 n0 (Nat.le_trans Z0 K0.1) ) hZ (hw _ (List.mem_of_getElem? (i := 59) rfl)) (hw _ (List.mem_of_getElem? (i := 58) rfl)) (by decide) (by decide)) (g := (mkF m 22 #[.val (.long q0), .second, .val (.int (q0.toInt32))] [(.int (q0.toInt32))])) rfl (by rw [hml]; rfl) (argsL := [(.int (q0.toInt32))]) (rest := []) (lenOf pd_0 rfl) rfl (by show 2 * 0 + _ ≤ _; exact Nat.le_of_eq rfl) (hb hby d10_22) (fun _ _ => ⟨rfl, e0, (by decide : 0 + 0 ≤ _), (by decide : 0 + 0 ≤ _)⟩)
    dsimp only [Pt.U, Pt.locs, Pt.cells, Pt.slots] at X2 l2 y2 z2 st2 hQ2
    subst l2 y2 z2
    obtain ⟨rfl, Nq2, eq2⟩ := hQ2
    have N2 := Fr.app N0 Nq2
    refine Runs.by (fun t hr => st2 t hr) ?_
    show Runs p e below _ (T2.setTop (mkF m 25 #[.val (.long q0), .second, .val (.int (q0.toInt32))] [(.int (own_ntzI (q0.toInt32)))]))
    refine Runs.ret X2 hx hrt hlk (Or.inl ⟨rfl, by simp, _, rfl⟩) rfl (hb hby d10_25) (by decide) (by decide) ?_
    rw [eq2]
    refine ⟨?_, N2, rfl⟩
    first
      | exact congrArg (fun z => some (Value.int z)) (if_pos hc4).symm
      | exact congrArg (fun z => some (Value.int z)) (if_neg hc4).symm
theorem d9_0 : decode prog_41_method_8_code 0 = .ok (.aload_n 0, 1) := by decide +kernel
theorem d9_1 : decode prog_41_method_8_code 1 = .ok (.getfield 18, 3) := by decide +kernel
theorem d9_4 : decode prog_41_method_8_code 4 = .ok (.newarray .int, 2) := by decide +kernel
theorem d9_6 : decode prog_41_method_8_code 6 = .ok (.astore_n 1, 1) := by decide +kernel
theorem d9_7 : decode prog_41_method_8_code 7 = .ok (.iconst 0, 1) := by decide +kernel
theorem d9_8 : decode prog_41_method_8_code 8 = .ok (.istore_n 2, 1) := by decide +kernel
theorem d9_9 : decode prog_41_method_8_code 9 = .ok (.iconst 0, 1) := by decide +kernel
theorem d9_10 : decode prog_41_method_8_code 10 = .ok (.istore_n 3, 1) := by decide +kernel
theorem d9_11 : decode prog_41_method_8_code 11 = .ok (.iload_n 3, 1) := by decide +kernel
theorem d9_12 : decode prog_41_method_8_code 12 = .ok (.aload_n 0, 1) := by decide +kernel
theorem d9_13 : decode prog_41_method_8_code 13 = .ok (.getfield 13, 3) := by decide +kernel
theorem d9_16 : decode prog_41_method_8_code 16 = .ok (.arraylength, 1) := by decide +kernel
theorem d9_17 : decode prog_41_method_8_code 17 = .ok (.if_icmp .ge 52, 3) := by decide +kernel
theorem d9_20 : decode prog_41_method_8_code 20 = .ok (.aload_n 0, 1) := by decide +kernel
theorem d9_21 : decode prog_41_method_8_code 21 = .ok (.getfield 13, 3) := by decide +kernel
theorem d9_24 : decode prog_41_method_8_code 24 = .ok (.iload_n 3, 1) := by decide +kernel
theorem d9_25 : decode prog_41_method_8_code 25 = .ok (.laload, 1) := by decide +kernel
theorem d9_26 : decode prog_41_method_8_code 26 = .ok (.lstore 4, 2) := by decide +kernel
theorem d9_28 : decode prog_41_method_8_code 28 = .ok (.lload 4, 2) := by decide +kernel
theorem d9_30 : decode prog_41_method_8_code 30 = .ok (.lconst 0, 1) := by decide +kernel
theorem d9_31 : decode prog_41_method_8_code 31 = .ok (.lcmp, 1) := by decide +kernel
theorem d9_32 : decode prog_41_method_8_code 32 = .ok (.ifCond .eq 31, 3) := by decide +kernel
theorem d9_35 : decode prog_41_method_8_code 35 = .ok (.aload_n 1, 1) := by decide +kernel
theorem d9_36 : decode prog_41_method_8_code 36 = .ok (.iload_n 2, 1) := by decide +kernel
theorem d9_37 : decode prog_41_method_8_code 37 = .ok (.iinc 2 1, 3) := by decide +kernel
theorem d9_40 : decode prog_41_method_8_code 40 = .ok (.iload_n 3, 1) := by decide +kernel
theorem d9_41 : decode prog_41_method_8_code 41 = .ok (.bipush 64, 2) := by decide +kernel
theorem d9_43 : decode prog_41_method_8_code 43 = .ok (.imul, 1) := by decide +kernel
theorem d9_44 : decode prog_41_method_8_code 44 = .ok (.lload 4, 2) := by decide +kernel
theorem d9_46 : decode prog_41_method_8_code 46 = .ok (.invokestatic 30, 3) := by decide +kernel
theorem d9_49 : decode prog_41_method_8_code 49 = .ok (.iadd, 1) := by decide +kernel
theorem d9_50 : decode prog_41_method_8_code 50 = .ok (.iastore, 1) := by decide +kernel
theorem d9_51 : decode prog_41_method_8_code 51 = .ok (.lload 4, 2) := by decide +kernel
theorem d9_53 : decode prog_41_method_8_code 53 = .ok (.lload 4, 2) := by decide +kernel
theorem d9_55 : decode prog_41_method_8_code 55 = .ok (.lconst 1, 1) := by decide +kernel
theorem d9_56 : decode prog_41_method_8_code 56 = .ok (.lsub, 1) := by decide +kernel
theorem d9_57 : decode prog_41_method_8_code 57 = .ok (.land, 1) := by decide +kernel
theorem d9_58 : decode prog_41_method_8_code 58 = .ok (.lstore 4, 2) := by decide +kernel
theorem d9_60 : decode prog_41_method_8_code 60 = .ok (.goto (-32), 3) := by decide +kernel
theorem d9_63 : decode prog_41_method_8_code 63 = .ok (.iinc 3 1, 3) := by decide +kernel
theorem d9_66 : decode prog_41_method_8_code 66 = .ok (.goto (-55), 3) := by decide +kernel
theorem d9_69 : decode prog_41_method_8_code 69 = .ok (.aload_n 1, 1) := by decide +kernel
theorem d9_70 : decode prog_41_method_8_code 70 = .ok (.areturn, 1) := by decide +kernel
theorem ef_9_9 (m : MethodId) (o0 : Addr) : entryFrame m #[(.ref o0)] 6 = mkF m 0 #[.val (.ref o0), .unset, .unset, .unset, .unset, .unset] [] := by first | (simp [entryFrame, mkF, argsToLocals, Value.category]; done) | rfl
def Q_rm9 (Z : State) (o0 : Addr) (wa : Addr) (k : ClassId) (z : Int32) (w : Nat → Int64) (cc : Int32) (cnt : Nat → Nat) (ev : Nat → Int32) (h0 : Heap) (n0 : Nat) (v : Option Value) (h : Heap) (L : List Loc) : Prop := ∃ (b : Addr) (kb : ClassId), v = some (.ref b) ∧ Fr n0 L ∧ Keep h0 h [] ∧ n0 ≤ b ∧ h0.size ≤ b ∧ Arf Z h b kb .int cc (fun i => .int (ev i))
set_option maxRecDepth 65536 in
set_option maxHeartbeats 40000000 in
theorem rm9 (l : Launch) (Z : State) (a0 : Array Value) (hw : ∀ d ∈ tables_1, d.before a0 Z = true) (ws : List Jvm.Cond) (o0 : Addr) (wa : Addr) (k : ClassId) (z : Int32) (w : Nat → Int64) (cc : Int32) (cnt : Nat → Nat) (ev : Nat → Int32) (h0 : Heap) (n0 : Nat) (Z0 : n0 ≤ h0.size) (Fw : Fld Z h0 o0 "com/example/threshold/threshold/engine/UnitBits" "words" "[J" (.ref wa)) (Fc : Fld Z h0 o0 "com/example/threshold/threshold/engine/UnitBits" "count" "I" (.int cc)) (G0 : Arf Z h0 wa k .long z (fun i => .long (w i))) (hz : 1 ≤ z.toInt ∧ z.toInt ≤ 5) (hcc : 0 ≤ cc.toInt ∧ cc.toInt ≤ 2) (hc0 : cnt 0 = 0) (hcn : (cnt z.toInt.toNat : Int) = cc.toInt) (hle : ∀ i : Nat, (i : Int) ≤ z.toInt → (cnt i : Int) ≤ cc.toInt) (hsp : ∀ i : Nat, (i : Int) < z.toInt → own_spec w cnt ev i) :
    MetFree l (⟨"com/example/threshold/threshold/engine/UnitBits", "ascending", "()[I"⟩ : MethodName) (head1 (Jvm.Cond.code (⟨"com/example/threshold/threshold/engine/UnitBits", "ascending", "()[I"⟩ : MethodName) prog_41_method_8_code 6 (some (.array .int)) :: ws) ({ frames := 2, cells := 1, slots := 2, locals := 31 } : Room)) (fun a U => a = #[(.ref o0)] ∧ Z.Warmed39 U.vm ∧ U.heap = h0) (fun _ _ _ _ _ => True) (fun _ U o U' => ∃ v L, o = .returned v ∧ Q_rm9 Z o0 wa k z w cc cnt ev h0 n0 v U'.heap L ∧ FrameEnd U o U' L ({ frames := 2, cells := 1, slots := 2, locals := 31 } : Room).cells ({ frames := 2, cells := 1, slots := 2, locals := 31 } : Room).slots) := by
  refine MetFree.of_bodySF (plainFor_of_name pn_com_example_threshold_threshold_engine_UnitBits) hisR ?_
  intro p e s m args below meth c s₁ Bd hml0 hP hK
  obtain ⟨rfl, hZ, hh⟩ := hP
  have hx := Bd.exec
  have hby := Bd.bytes
  have hlk := BodyLoose.notSynchronized Bd
  have hrt := Bd.returns
  have hml : c.maxLocals = 6 := hml0
  have hown : s.vm.findClass "com/example/threshold/threshold/engine/UnitBits" = some m.cls := findClass_of_methodNamed Bd.named
  have hnm := (name_of_methodNamed Bd.named Bd.method).1
  have X0 : Stand p l e ({ frames := 2, cells := 1, slots := 2, locals := 31 } : Room) s m #[(.ref o0)] below meth c s₁ [] 0 0 := Stand.of_body Bd
  have e0 : s₁.heap = h0 := by rw [← hh, Bd.state]; rfl
  have N0 := Fr.nil n0
  have K0 : Keep h0 h0 [] := Keep.refl h0 _
  show Runs p e below (QE s (Q_rm9 Z o0 wa k z w cc cnt ev h0 n0) ({ frames := 2, cells := 1, slots := 2, locals := 31 } : Room).cells ({ frames := 2, cells := 1, slots := 2, locals := 31 } : Room).slots) (s₁.setTop (entryFrame m #[(.ref o0)] 6))
  rw [ef_9_9 m o0]
  have t1 : (1 : Int32).toInt = 1 := by decide
  have t0 : (0 : Int32).toInt = 0 := by decide
  have t2 : (2 : Int32).toInt = 2 := by decide
  have hk0 := hc0
  show Runs p e below _ (s₁.setTop (mkF m 0 #[.val (.ref o0), .unset, .unset, .unset, .unset, .unset] []))
  refine Runs.by (fun _ hr => XS.aloadN X0.here hx rfl (hb hby d9_0) rfl rfl hr) ?_
  show Runs p e below _ (s₁.setTop (mkF m 1 #[.val (.ref o0), .unset, .unset, .unset, .unset, .unset] [(.ref o0)]))
  obtain ⟨T1, X1, e1, st1⟩ := getF X0 hx hZ hown (host := "") (Or.inl (hw _ (List.mem_of_getElem? (i := 21) rfl))) Via.refl e0 Fc (g := (mkF m 1 #[.val (.ref o0), .unset, .unset, .unset, .unset, .unset] [(.ref o0)])) rfl rfl (hb hby d9_1)
  refine Runs.by st1 ?_
  show Runs p e below _ (T1.setTop (mkF m 4 #[.val (.ref o0), .unset, .unset, .unset, .unset, .unset] [(.int cc)]))
  obtain ⟨T2, h2, k2, X2, e2, E2, A2, st2⟩ := newP X1 hx hZ (hw _ (List.mem_of_getElem? (i := 33) rfl)) e1 (g := (mkF m 4 #[.val (.ref o0), .unset, .unset, .unset, .unset, .unset] [(.int cc)])) rfl (hb hby d9_4) rfl (own_nneg (by omega)) (cap := 2) (own_cap (by omega)) (by decide) (by decide) (by decide)
  obtain ⟨b2, gz2⟩ : ∃ z, z = h0.size := ⟨_, rfl⟩
  rw [← gz2] at A2 st2
  have ne_o0_b2 : o0 ≠ b2 := Nat.ne_of_lt (Nat.lt_of_lt_of_le Fw.lt (Nat.le_of_eq gz2.symm))
  have ne_wa_b2 : wa ≠ b2 := Nat.ne_of_lt (Nat.lt_of_lt_of_le G0.lt (Nat.le_of_eq gz2.symm))
  have g_b2 : n0 ≤ b2 := Nat.le_trans (Nat.le_trans Z0 K0.1) (Nat.le_of_eq gz2.symm)
  have sz_b2 : h0.size ≤ b2 := Nat.le_trans K0.1 (Nat.le_of_eq gz2.symm)
  have K3 : Keep h0 h2 [] := K0.ext E2
  have G2 : Arf Z h2 b2 k2 .int cc (fun j_ => .int ((fun _ => (0 : Int32)) j_)) := Arf.new A2 (own_nneg (by omega))
  refine Runs.by st2 ?_
  show Runs p e below _ (T2.setTop (mkF m 6 #[.val (.ref o0), .unset, .unset, .unset, .unset, .unset] [(.ref b2)]))
  refine Runs.by (fun _ hr => XS.astoreN X2.here hx rfl (hb hby d9_6) rfl rfl (l' := #[.val (.ref o0), .val (.ref b2), .unset, .unset, .unset, .unset]) rfl hr) ?_
  show Runs p e below _ (T2.setTop (mkF m 7 #[.val (.ref o0), .val (.ref b2), .unset, .unset, .unset, .unset] []))
  refine Runs.by (fun _ hr => XS.iconst X2.here hx rfl (hb hby d9_7) hr) ?_
  show Runs p e below _ (T2.setTop (mkF m 8 #[.val (.ref o0), .val (.ref b2), .unset, .unset, .unset, .unset] [(.int (0 : Int32))]))
  refine Runs.by (fun _ hr => XS.istoreN X2.here hx rfl (hb hby d9_8) rfl (l' := #[.val (.ref o0), .val (.ref b2), .val (.int (0 : Int32)), .unset, .unset, .unset]) rfl hr) ?_
  show Runs p e below _ (T2.setTop (mkF m 9 #[.val (.ref o0), .val (.ref b2), .val (.int (0 : Int32)), .unset, .unset, .unset] []))
  refine Runs.by (fun _ hr => XS.iconst X2.here hx rfl (hb hby d9_9) hr) ?_
  show Runs p e below _ (T2.setTop (mkF m 10 #[.val (.ref o0), .val (.ref b2), .val (.int (0 : Int32)), .unset, .unset, .unset] [(.int (0 : Int32))]))
  refine Runs.by (fun _ hr => XS.istoreN X2.here hx rfl (hb hby d9_10) rfl (l' := #[.val (.ref o0), .val (.ref b2), .val (.int (0 : Int32)), .val (.int (0 : Int32)), .unset, .unset]) rfl hr) ?_
  have LA : ∀ (d : Nat) (i : Int32) (pl : Int32) (bb : Int64) (g : Nat → Int32) (TL4 : State) (hL4 : Heap) (lL4 : List Loc) (XL4 : Stand p l e ({ frames := 2, cells := 1, slots := 2, locals := 31 } : Room) s m #[(.ref o0)] below meth c TL4 lL4 1 2) (eL4 : TL4.heap = hL4) (NL4 : Fr n0 lL4) (KL4 : Keep h0 hL4 []) (fL4_0 : Fld Z hL4 o0 "com/example/threshold/threshold/engine/UnitBits" "words" "[J" (.ref wa)) (fL4_1 : Arf Z hL4 wa k .long z (fun i => .long (w i))) (fL4_2 : Arf Z hL4 b2 k2 .int cc (fun i => .int (g i))) (hd : z.toInt - i.toInt = d) (hi : 0 ≤ i.toInt ∧ i.toInt ≤ z.toInt) (hp : pl.toInt = (cnt i.toInt.toNat : Int)) (hg : ∀ j : Nat, j < cnt i.toInt.toNat → g j = ev j), Runs p e below (QE s (Q_rm9 Z o0 wa k z w cc cnt ev h0 n0) ({ frames := 2, cells := 1, slots := 2, locals := 31 } : Room).cells ({ frames := 2, cells := 1, slots := 2, locals := 31 } : Room).slots) (TL4.setTop (mkF m 11 #[.val (.ref o0), .val (.ref b2), .val (.int pl), .val (.int i), .val (.long bb), .second] [])) := by
    intro d
    induction d using Nat.strongRecOn with
    | _ d ih =>
      intro i pl bb g TL4 hL4 lL4 XL4 eL4 NL4 KL4  fL4_0 fL4_1 fL4_2 hd hi hp hg
      show Runs p e below _ (TL4.setTop (mkF m 11 #[.val (.ref o0), .val (.ref b2), .val (.int pl), .val (.int i), .val (.long bb), .second] []))
      refine Runs.by (fun _ hr => XS.iloadN XL4.here hx rfl (hb hby d9_11) rfl  hr) ?_
      show Runs p e below _ (TL4.setTop (mkF m 12 #[.val (.ref o0), .val (.ref b2), .val (.int pl), .val (.int i), .val (.long bb), .second] [(.int i)]))
      refine Runs.by (fun _ hr => XS.aloadN XL4.here hx rfl (hb hby d9_12) rfl rfl hr) ?_
      show Runs p e below _ (TL4.setTop (mkF m 13 #[.val (.ref o0), .val (.ref b2), .val (.int pl), .val (.int i), .val (.long bb), .second] [(.ref o0), (.int i)]))
      obtain ⟨T5, X5, e5, st5⟩ := getF XL4 hx hZ hown (host := "") (Or.inl (hw _ (List.mem_of_getElem? (i := 14) rfl))) Via.refl eL4 fL4_0 (g := (mkF m 13 #[.val (.ref o0), .val (.ref b2), .val (.int pl), .val (.int i), .val (.long bb), .second] [(.ref o0), (.int i)])) rfl rfl (hb hby d9_13)
      refine Runs.by st5 ?_
      show Runs p e below _ (T5.setTop (mkF m 16 #[.val (.ref o0), .val (.ref b2), .val (.int pl), .val (.int i), .val (.long bb), .second] [(.ref wa), (.int i)]))
      obtain ⟨cl6, Ar6, -, S6, N6', -⟩ := id fL4_1
      refine Runs.by (fun t hr => X5.arraylength hx (by rw [e5]; exact Ar6.1) (State.isArrayOf_alike hZ.alike Ar6.2.1) (g := (mkF m 16 #[.val (.ref o0), .val (.ref b2), .val (.int pl), .val (.int i), .val (.long bb), .second] [(.ref wa), (.int i)])) rfl rfl (hb hby d9_16) t hr) ?_
      rw [len_of S6 N6']
      show Runs p e below _ (T5.setTop (mkF m 17 #[.val (.ref o0), .val (.ref b2), .val (.int pl), .val (.int i), .val (.long bb), .second] [(.int z), (.int i)]))
      by_cases hc17 : i < z
      · -- pc 17: i < z
        refine Runs.by (fun _ hr => XS.icmpNo X5.here hx rfl (hb hby d9_17) rfl (tlt hc17).2.1 hr) ?_
        have hlt : i.toInt < z.toInt := Int32.lt_iff_toInt_lt.mp hc17
        have hofn0 : i = Int32.ofNat i.toInt.toNat := Int32.toInt_inj.mp (by rw [show (Int32.ofNat i.toInt.toNat).toInt = ((i.toInt.toNat : Nat) : Int) from Int32.toInt_ofNat_small (by omega)]; omega)
        have hofn : i * (64 : Int32) = Int32.ofNat i.toInt.toNat * 64 := by rw [← hofn0]
        show Runs p e below _ (T5.setTop (mkF m 20 #[.val (.ref o0), .val (.ref b2), .val (.int pl), .val (.int i), .val (.long bb), .second] []))
        refine Runs.by (fun _ hr => XS.aloadN X5.here hx rfl (hb hby d9_20) rfl rfl hr) ?_
        show Runs p e below _ (T5.setTop (mkF m 21 #[.val (.ref o0), .val (.ref b2), .val (.int pl), .val (.int i), .val (.long bb), .second] [(.ref o0)]))
        obtain ⟨T7, X7, e7, st7⟩ := getF X5 hx hZ hown (host := "") (Or.inl (hw _ (List.mem_of_getElem? (i := 14) rfl))) Via.refl e5 fL4_0 (g := (mkF m 21 #[.val (.ref o0), .val (.ref b2), .val (.int pl), .val (.int i), .val (.long bb), .second] [(.ref o0)])) rfl rfl (hb hby d9_21)
        refine Runs.by st7 ?_
        show Runs p e below _ (T7.setTop (mkF m 24 #[.val (.ref o0), .val (.ref b2), .val (.int pl), .val (.int i), .val (.long bb), .second] [(.ref wa)]))
        refine Runs.by (fun _ hr => XS.iloadN X7.here hx rfl (hb hby d9_24) rfl  hr) ?_
        show Runs p e below _ (T7.setTop (mkF m 25 #[.val (.ref o0), .val (.ref b2), .val (.int pl), .val (.int i), .val (.long bb), .second] [(.int i), (.ref wa)]))
        obtain ⟨cl8, Ar8, -, S8, N8', H8⟩ := id fL4_1
        have ix8 := own_ix (j := i) (z := z) (n := i.toInt.toNat) (by omega) hlt
        have hin8 : ¬ (i < 0 ∨ cl8.slots.size ≤ (i).toNatClampNeg) := inb_of S8 ix8.1
        have hat8 : cl8.slots[(i).toNatClampNeg]? = some (.long (w (i.toInt.toNat))) := by rw [ix8.2.1]; exact H8 _ ix8.2.2
        refine Runs.by (fun t hr => X7.laload hx (j := i) (v := (.long (w (i.toInt.toNat)))) (by rw [e7]; exact Ar8.1) (State.isArrayOf_alike hZ.alike Ar8.2.1) Ar8.2.2 hin8 hat8 (g := (mkF m 25 #[.val (.ref o0), .val (.ref b2), .val (.int pl), .val (.int i), .val (.long bb), .second] [(.int i), (.ref wa)])) rfl rfl (hb hby d9_25) t hr) ?_
        show Runs p e below _ (T7.setTop (mkF m 26 #[.val (.ref o0), .val (.ref b2), .val (.int pl), .val (.int i), .val (.long bb), .second] [(.long (w (i.toInt.toNat)))]))
        refine Runs.by (fun _ hr => XS.lstore X7.here hx rfl (hb hby d9_26) rfl (l' := #[.val (.ref o0), .val (.ref b2), .val (.int pl), .val (.int i), .val (.long (w (i.toInt.toNat))), .second]) rfl hr) ?_
        rcases hsp i.toInt.toNat (by omega) with ⟨hw0, hcnt⟩ | ⟨hw1, hw2, hcnt, hev⟩ | ⟨hw1, hw2, hw3, hcnt, hev, hev2⟩
        · skip
          show Runs p e below _ (T7.setTop (mkF m 28 #[.val (.ref o0), .val (.ref b2), .val (.int pl), .val (.int i), .val (.long (w (i.toInt.toNat))), .second] []))
          refine Runs.by (fun _ hr => XS.lload X7.here hx rfl (hb hby d9_28) rfl  hr) ?_
          show Runs p e below _ (T7.setTop (mkF m 30 #[.val (.ref o0), .val (.ref b2), .val (.int pl), .val (.int i), .val (.long (w (i.toInt.toNat))), .second] [(.long (w (i.toInt.toNat)))]))
          refine Runs.by (fun _ hr => XS.lconst X7.here hx rfl (hb hby d9_30) hr) ?_
          show Runs p e below _ (T7.setTop (mkF m 31 #[.val (.ref o0), .val (.ref b2), .val (.int pl), .val (.int i), .val (.long (w (i.toInt.toNat))), .second] [(.long (0 : Int64)), (.long (w (i.toInt.toNat)))]))
          refine Runs.by (fun _ hr => XS.lcmp X7.here hx rfl (hb hby d9_31) rfl hr) ?_
          show Runs p e below _ (T7.setTop (mkF m 32 #[.val (.ref o0), .val (.ref b2), .val (.int pl), .val (.int i), .val (.long (w (i.toInt.toNat))), .second] [(.int (lcmpW (w (i.toInt.toNat)) (0 : Int64)))]))
          have hc32 : (lcmpW (w (i.toInt.toNat)) (0 : Int64)) = (0 : Int32) := own_lc.mpr hw0
          refine Runs.by (fun _ hr => XS.ifYes X7.here hx rfl (pc0 := 32) (pc' := 63) rfl (hb hby d9_32) rfl ((if0 _ _).trans (teq hc32).1) (by decide) (by decide) hr) ?_
          show Runs p e below _ (T7.setTop (mkF m 63 #[.val (.ref o0), .val (.ref b2), .val (.int pl), .val (.int i), .val (.long (w (i.toInt.toNat))), .second] []))
          refine Runs.by (fun _ hr => XS.iinc X7.here hx rfl (hb hby d9_63) rfl (l' := #[.val (.ref o0), .val (.ref b2), .val (.int pl), .val (.int (i + (1 : Int32))), .val (.long (w (i.toInt.toNat))), .second]) rfl hr) ?_
          show Runs p e below _ (T7.setTop (mkF m 66 #[.val (.ref o0), .val (.ref b2), .val (.int pl), .val (.int (i + (1 : Int32))), .val (.long (w (i.toInt.toNat))), .second] []))
          refine Runs.by (fun _ hr => XS.goto X7.here hx rfl (pc0 := 66) (pc' := 11) rfl (hb hby d9_66) (by decide) (by decide) hr) ?_
          have ei : (i + (1 : Int32)).toInt = i.toInt + 1 := (Jvm.Kit.i32_add (by omega) (by omega)).trans (by omega)
          have en : (i + (1 : Int32)).toInt.toNat = i.toInt.toNat + 1 := by omega
          have hp2 : pl.toInt = (cnt (i + (1 : Int32)).toInt.toNat : Int) := by rw [en, hcnt]; omega
          have hg2 : ∀ j : Nat, j < cnt (i + (1 : Int32)).toInt.toNat → g j = ev j := by
            intro j hj; rw [en, hcnt] at hj
            exact hg j hj
          exact ih (z.toInt - i.toInt - 1).toNat (by omega) (i + (1 : Int32)) pl (w (i.toInt.toNat)) g _ _ _ X7 e7 NL4 KL4  fL4_0 fL4_1 fL4_2 (by omega) (by omega) hp2 hg2
        · skip
          have hle1 := hle (i.toInt.toNat + 1) (by omega)
          rw [hcnt] at hle1
          have ep1 : (pl + (1 : Int32)).toInt = pl.toInt + 1 := (Jvm.Kit.i32_add (by omega) (by omega)).trans (by omega)
          show Runs p e below _ (T7.setTop (mkF m 28 #[.val (.ref o0), .val (.ref b2), .val (.int pl), .val (.int i), .val (.long (w (i.toInt.toNat))), .second] []))
          refine Runs.by (fun _ hr => XS.lload X7.here hx rfl (hb hby d9_28) rfl  hr) ?_
          show Runs p e below _ (T7.setTop (mkF m 30 #[.val (.ref o0), .val (.ref b2), .val (.int pl), .val (.int i), .val (.long (w (i.toInt.toNat))), .second] [(.long (w (i.toInt.toNat)))]))
          refine Runs.by (fun _ hr => XS.lconst X7.here hx rfl (hb hby d9_30) hr) ?_
          show Runs p e below _ (T7.setTop (mkF m 31 #[.val (.ref o0), .val (.ref b2), .val (.int pl), .val (.int i), .val (.long (w (i.toInt.toNat))), .second] [(.long (0 : Int64)), (.long (w (i.toInt.toNat)))]))
          refine Runs.by (fun _ hr => XS.lcmp X7.here hx rfl (hb hby d9_31) rfl hr) ?_
          show Runs p e below _ (T7.setTop (mkF m 32 #[.val (.ref o0), .val (.ref b2), .val (.int pl), .val (.int i), .val (.long (w (i.toInt.toNat))), .second] [(.int (lcmpW (w (i.toInt.toNat)) (0 : Int64)))]))
          have hc32 : ¬ ((lcmpW (w (i.toInt.toNat)) (0 : Int64)) = (0 : Int32)) := (fun q => hw1 (own_lc.mp q))
          refine Runs.by (fun _ hr => XS.ifNo X7.here hx rfl (hb hby d9_32) rfl ((if0 _ _).trans (feq hc32).1) hr) ?_
          show Runs p e below _ (T7.setTop (mkF m 35 #[.val (.ref o0), .val (.ref b2), .val (.int pl), .val (.int i), .val (.long (w (i.toInt.toNat))), .second] []))
          refine Runs.by (fun _ hr => XS.aloadN X7.here hx rfl (hb hby d9_35) rfl rfl hr) ?_
          show Runs p e below _ (T7.setTop (mkF m 36 #[.val (.ref o0), .val (.ref b2), .val (.int pl), .val (.int i), .val (.long (w (i.toInt.toNat))), .second] [(.ref b2)]))
          refine Runs.by (fun _ hr => XS.iloadN X7.here hx rfl (hb hby d9_36) rfl  hr) ?_
          show Runs p e below _ (T7.setTop (mkF m 37 #[.val (.ref o0), .val (.ref b2), .val (.int pl), .val (.int i), .val (.long (w (i.toInt.toNat))), .second] [(.int pl), (.ref b2)]))
          refine Runs.by (fun _ hr => XS.iinc X7.here hx rfl (hb hby d9_37) rfl (l' := #[.val (.ref o0), .val (.ref b2), .val (.int (pl + (1 : Int32))), .val (.int i), .val (.long (w (i.toInt.toNat))), .second]) rfl hr) ?_
          show Runs p e below _ (T7.setTop (mkF m 40 #[.val (.ref o0), .val (.ref b2), .val (.int (pl + (1 : Int32))), .val (.int i), .val (.long (w (i.toInt.toNat))), .second] [(.int pl), (.ref b2)]))
          refine Runs.by (fun _ hr => XS.iloadN X7.here hx rfl (hb hby d9_40) rfl  hr) ?_
          show Runs p e below _ (T7.setTop (mkF m 41 #[.val (.ref o0), .val (.ref b2), .val (.int (pl + (1 : Int32))), .val (.int i), .val (.long (w (i.toInt.toNat))), .second] [(.int i), (.int pl), (.ref b2)]))
          refine Runs.by (fun _ hr => XS.bipush X7.here hx rfl (hb hby d9_41) hr) ?_
          show Runs p e below _ (T7.setTop (mkF m 43 #[.val (.ref o0), .val (.ref b2), .val (.int (pl + (1 : Int32))), .val (.int i), .val (.long (w (i.toInt.toNat))), .second] [(.int (64 : Int32)), (.int i), (.int pl), (.ref b2)]))
          refine Runs.by (fun _ hr => XS.imul X7.here hx rfl (hb hby d9_43) rfl hr) ?_
          show Runs p e below _ (T7.setTop (mkF m 44 #[.val (.ref o0), .val (.ref b2), .val (.int (pl + (1 : Int32))), .val (.int i), .val (.long (w (i.toInt.toNat))), .second] [(.int (i * (64 : Int32))), (.int pl), (.ref b2)]))
          refine Runs.by (fun _ hr => XS.lload X7.here hx rfl (hb hby d9_44) rfl  hr) ?_
          show Runs p e below _ (T7.setTop (mkF m 46 #[.val (.ref o0), .val (.ref b2), .val (.int (pl + (1 : Int32))), .val (.int i), .val (.long (w (i.toInt.toNat))), .second] [(.long (w (i.toInt.toNat))), (.int (i * (64 : Int32))), (.int pl), (.ref b2)]))
          obtain ⟨_, _, ⟨T9, L9, k9, n9⟩, -, X9, ⟨Lc9, hQ9, l9, y9, z9⟩, st9⟩ := Jvm.LawKit.callS X7 hx (y := (⟨"java/lang/Long", "numberOfTrailingZeros", "(J)I"⟩ : MethodName)) hown (mvT hZ (hw _ (List.mem_of_getElem? (i := 53) rfl))) (mvT hZ (hw _ (List.mem_of_getElem? (i := 54) rfl))) (mvT hZ (hw _ (List.mem_of_getElem? (i := 43) rfl))) (mvT hZ (hw _ (List.mem_of_getElem? (i := 55) rfl))) (by decide) (backOf (W := 3) (rm10 l Z a0 hw [] (w (i.toInt.toNat))  hL4 n0 (Nat.le_trans Z0 KL4.1) ) hZ (hw _ (List.mem_of_getElem? (i := 55) rfl)) (hw _ (List.mem_of_getElem? (i := 43) rfl)) (by decide) (by decide)) (g := (mkF m 46 #[.val (.ref o0), .val (.ref b2), .val (.int (pl + (1 : Int32))), .val (.int i), .val (.long (w (i.toInt.toNat))), .second] [(.long (w (i.toInt.toNat))), (.int (i * (64 : Int32))), (.int pl), (.ref b2)])) rfl (by rw [hml]; rfl) (argsL := [(.long (w (i.toInt.toNat)))]) (rest := [(.int (i * (64 : Int32))), (.int pl), (.ref b2)]) (lenOf pd_1 rfl) rfl (by show 2 * 0 + _ ≤ _; exact Nat.le_of_eq rfl) (hb hby d9_46) (fun _ _ => ⟨rfl, e7, (by decide : 1 + 0 ≤ _), (by decide : 2 + 0 ≤ _)⟩)
          dsimp only [Pt.U, Pt.locs, Pt.cells, Pt.slots] at X9 l9 y9 z9 st9 hQ9
          subst l9 y9 z9
          obtain ⟨rfl, Nq9, eq9⟩ := hQ9
          have N9 := Fr.app NL4 Nq9
          refine Runs.by (fun t hr => st9 t hr) ?_
          show Runs p e below _ (T9.setTop (mkF m 49 #[.val (.ref o0), .val (.ref b2), .val (.int (pl + (1 : Int32))), .val (.int i), .val (.long (w (i.toInt.toNat))), .second] [(.int (own_ntz (w (i.toInt.toNat)))), (.int (i * (64 : Int32))), (.int pl), (.ref b2)]))
          refine Runs.by (fun _ hr => XS.iadd X9.here hx rfl (hb hby d9_49) rfl hr) ?_
          show Runs p e below _ (T9.setTop (mkF m 50 #[.val (.ref o0), .val (.ref b2), .val (.int (pl + (1 : Int32))), .val (.int i), .val (.long (w (i.toInt.toNat))), .second] [(.int ((i * (64 : Int32)) + (own_ntz (w (i.toInt.toNat))))), (.int pl), (.ref b2)]))
          obtain ⟨cl10, Ar10, q10, S10, N10', H10⟩ := id fL4_2
          have ix10 := own_ix (j := pl) (z := cc) (n := cnt i.toInt.toNat) (by omega) (by omega)
          have hin10 : ¬ (pl < 0 ∨ cl10.slots.size ≤ (pl).toNatClampNeg) := inb_of S10 ix10.1
          obtain ⟨T10, h10, X10, e10, W10, st10⟩ := stI X9 hx hZ eq9 Ar10 (j := pl) hin10 (g := (mkF m 50 #[.val (.ref o0), .val (.ref b2), .val (.int (pl + (1 : Int32))), .val (.int i), .val (.long (w (i.toInt.toNat))), .second] [(.int ((i * (64 : Int32)) + (own_ntz (w (i.toInt.toNat))))), (.int pl), (.ref b2)])) rfl rfl (hb hby d9_50)
          have G10 : Arf Z h10 b2 k2 .int cc (fun j_ => .int ((own_up g (cnt i.toInt.toNat) ((i * (64 : Int32)) + (own_ntz (w (i.toInt.toNat))))) j_)) := (Arf.set Ar10 q10 S10 N10' H10 W10 ix10.2.1).cast (fun j_ _ => by simp only [own_up]; split <;> rfl)
          have K11 : Keep h0 h10 [] := KL4.wr W10 (Or.inr sz_b2)
          have N10 := Fr.snoc X10 N9 g_b2
          refine Runs.by st10 ?_
          show Runs p e below _ (T10.setTop (mkF m 51 #[.val (.ref o0), .val (.ref b2), .val (.int (pl + (1 : Int32))), .val (.int i), .val (.long (w (i.toInt.toNat))), .second] []))
          refine Runs.by (fun _ hr => XS.lload X10.here hx rfl (hb hby d9_51) rfl  hr) ?_
          show Runs p e below _ (T10.setTop (mkF m 53 #[.val (.ref o0), .val (.ref b2), .val (.int (pl + (1 : Int32))), .val (.int i), .val (.long (w (i.toInt.toNat))), .second] [(.long (w (i.toInt.toNat)))]))
          refine Runs.by (fun _ hr => XS.lload X10.here hx rfl (hb hby d9_53) rfl  hr) ?_
          show Runs p e below _ (T10.setTop (mkF m 55 #[.val (.ref o0), .val (.ref b2), .val (.int (pl + (1 : Int32))), .val (.int i), .val (.long (w (i.toInt.toNat))), .second] [(.long (w (i.toInt.toNat))), (.long (w (i.toInt.toNat)))]))
          refine Runs.by (fun _ hr => XS.lconst X10.here hx rfl (hb hby d9_55) hr) ?_
          show Runs p e below _ (T10.setTop (mkF m 56 #[.val (.ref o0), .val (.ref b2), .val (.int (pl + (1 : Int32))), .val (.int i), .val (.long (w (i.toInt.toNat))), .second] [(.long (1 : Int64)), (.long (w (i.toInt.toNat))), (.long (w (i.toInt.toNat)))]))
          refine Runs.by (fun _ hr => XS.lsub X10.here hx rfl (hb hby d9_56) rfl hr) ?_
          show Runs p e below _ (T10.setTop (mkF m 57 #[.val (.ref o0), .val (.ref b2), .val (.int (pl + (1 : Int32))), .val (.int i), .val (.long (w (i.toInt.toNat))), .second] [(.long ((w (i.toInt.toNat)) - (1 : Int64))), (.long (w (i.toInt.toNat)))]))
          refine Runs.by (fun _ hr => XS.land X10.here hx rfl (hb hby d9_57) rfl hr) ?_
          show Runs p e below _ (T10.setTop (mkF m 58 #[.val (.ref o0), .val (.ref b2), .val (.int (pl + (1 : Int32))), .val (.int i), .val (.long (w (i.toInt.toNat))), .second] [(.long ((w (i.toInt.toNat)) &&& ((w (i.toInt.toNat)) - (1 : Int64))))]))
          refine Runs.by (fun _ hr => XS.lstore X10.here hx rfl (hb hby d9_58) rfl (l' := #[.val (.ref o0), .val (.ref b2), .val (.int (pl + (1 : Int32))), .val (.int i), .val (.long ((w (i.toInt.toNat)) &&& ((w (i.toInt.toNat)) - (1 : Int64)))), .second]) rfl hr) ?_
          show Runs p e below _ (T10.setTop (mkF m 60 #[.val (.ref o0), .val (.ref b2), .val (.int (pl + (1 : Int32))), .val (.int i), .val (.long ((w (i.toInt.toNat)) &&& ((w (i.toInt.toNat)) - (1 : Int64)))), .second] []))
          refine Runs.by (fun _ hr => XS.goto X10.here hx rfl (pc0 := 60) (pc' := 28) rfl (hb hby d9_60) (by decide) (by decide) hr) ?_
          show Runs p e below _ (T10.setTop (mkF m 28 #[.val (.ref o0), .val (.ref b2), .val (.int (pl + (1 : Int32))), .val (.int i), .val (.long ((w (i.toInt.toNat)) &&& ((w (i.toInt.toNat)) - (1 : Int64)))), .second] []))
          refine Runs.by (fun _ hr => XS.lload X10.here hx rfl (hb hby d9_28) rfl  hr) ?_
          show Runs p e below _ (T10.setTop (mkF m 30 #[.val (.ref o0), .val (.ref b2), .val (.int (pl + (1 : Int32))), .val (.int i), .val (.long ((w (i.toInt.toNat)) &&& ((w (i.toInt.toNat)) - (1 : Int64)))), .second] [(.long ((w (i.toInt.toNat)) &&& ((w (i.toInt.toNat)) - (1 : Int64))))]))
          refine Runs.by (fun _ hr => XS.lconst X10.here hx rfl (hb hby d9_30) hr) ?_
          show Runs p e below _ (T10.setTop (mkF m 31 #[.val (.ref o0), .val (.ref b2), .val (.int (pl + (1 : Int32))), .val (.int i), .val (.long ((w (i.toInt.toNat)) &&& ((w (i.toInt.toNat)) - (1 : Int64)))), .second] [(.long (0 : Int64)), (.long ((w (i.toInt.toNat)) &&& ((w (i.toInt.toNat)) - (1 : Int64))))]))
          refine Runs.by (fun _ hr => XS.lcmp X10.here hx rfl (hb hby d9_31) rfl hr) ?_
          show Runs p e below _ (T10.setTop (mkF m 32 #[.val (.ref o0), .val (.ref b2), .val (.int (pl + (1 : Int32))), .val (.int i), .val (.long ((w (i.toInt.toNat)) &&& ((w (i.toInt.toNat)) - (1 : Int64)))), .second] [(.int (lcmpW ((w (i.toInt.toNat)) &&& ((w (i.toInt.toNat)) - (1 : Int64))) (0 : Int64)))]))
          have hc32 : (lcmpW ((w (i.toInt.toNat)) &&& ((w (i.toInt.toNat)) - (1 : Int64))) (0 : Int64)) = (0 : Int32) := own_lc.mpr hw2
          refine Runs.by (fun _ hr => XS.ifYes X10.here hx rfl (pc0 := 32) (pc' := 63) rfl (hb hby d9_32) rfl ((if0 _ _).trans (teq hc32).1) (by decide) (by decide) hr) ?_
          show Runs p e below _ (T10.setTop (mkF m 63 #[.val (.ref o0), .val (.ref b2), .val (.int (pl + (1 : Int32))), .val (.int i), .val (.long ((w (i.toInt.toNat)) &&& ((w (i.toInt.toNat)) - (1 : Int64)))), .second] []))
          refine Runs.by (fun _ hr => XS.iinc X10.here hx rfl (hb hby d9_63) rfl (l' := #[.val (.ref o0), .val (.ref b2), .val (.int (pl + (1 : Int32))), .val (.int (i + (1 : Int32))), .val (.long ((w (i.toInt.toNat)) &&& ((w (i.toInt.toNat)) - (1 : Int64)))), .second]) rfl hr) ?_
          show Runs p e below _ (T10.setTop (mkF m 66 #[.val (.ref o0), .val (.ref b2), .val (.int (pl + (1 : Int32))), .val (.int (i + (1 : Int32))), .val (.long ((w (i.toInt.toNat)) &&& ((w (i.toInt.toNat)) - (1 : Int64)))), .second] []))
          refine Runs.by (fun _ hr => XS.goto X10.here hx rfl (pc0 := 66) (pc' := 11) rfl (hb hby d9_66) (by decide) (by decide) hr) ?_
          have ei : (i + (1 : Int32)).toInt = i.toInt + 1 := (Jvm.Kit.i32_add (by omega) (by omega)).trans (by omega)
          have en : (i + (1 : Int32)).toInt.toNat = i.toInt.toNat + 1 := by omega
          have hp2 : (pl + (1 : Int32)).toInt = (cnt (i + (1 : Int32)).toInt.toNat : Int) := by rw [en, hcnt]; omega
          have hg2 : ∀ j : Nat, j < cnt (i + (1 : Int32)).toInt.toNat → (own_up g (cnt i.toInt.toNat) ((i * (64 : Int32)) + (own_ntz (w (i.toInt.toNat))))) j = ev j := by
            intro j hj; rw [en, hcnt] at hj
            by_cases q : j = cnt i.toInt.toNat
            · subst q; rw [own_up_same, hev, hofn]
            · rw [own_up_ne _ _ q]; exact hg j (by omega)
          exact ih (z.toInt - i.toInt - 1).toNat (by omega) (i + (1 : Int32)) (pl + (1 : Int32)) ((w (i.toInt.toNat)) &&& ((w (i.toInt.toNat)) - (1 : Int64))) (own_up g (cnt i.toInt.toNat) ((i * (64 : Int32)) + (own_ntz (w (i.toInt.toNat))))) _ _ _ X10 e10 N10 K11  (fL4_0.other W10 (Or.inl ne_o0_b2)) (fL4_1.other W10 ne_wa_b2) G10 (by omega) (by omega) hp2 hg2
        · skip
          have hle1 := hle (i.toInt.toNat + 1) (by omega)
          rw [hcnt] at hle1
          have ep1 : (pl + (1 : Int32)).toInt = pl.toInt + 1 := (Jvm.Kit.i32_add (by omega) (by omega)).trans (by omega)
          have ep2 : ((pl + (1 : Int32)) + (1 : Int32)).toInt = pl.toInt + 2 := (Jvm.Kit.i32_add (by omega) (by omega)).trans (by omega)
          show Runs p e below _ (T7.setTop (mkF m 28 #[.val (.ref o0), .val (.ref b2), .val (.int pl), .val (.int i), .val (.long (w (i.toInt.toNat))), .second] []))
          refine Runs.by (fun _ hr => XS.lload X7.here hx rfl (hb hby d9_28) rfl  hr) ?_
          show Runs p e below _ (T7.setTop (mkF m 30 #[.val (.ref o0), .val (.ref b2), .val (.int pl), .val (.int i), .val (.long (w (i.toInt.toNat))), .second] [(.long (w (i.toInt.toNat)))]))
          refine Runs.by (fun _ hr => XS.lconst X7.here hx rfl (hb hby d9_30) hr) ?_
          show Runs p e below _ (T7.setTop (mkF m 31 #[.val (.ref o0), .val (.ref b2), .val (.int pl), .val (.int i), .val (.long (w (i.toInt.toNat))), .second] [(.long (0 : Int64)), (.long (w (i.toInt.toNat)))]))
          refine Runs.by (fun _ hr => XS.lcmp X7.here hx rfl (hb hby d9_31) rfl hr) ?_
          show Runs p e below _ (T7.setTop (mkF m 32 #[.val (.ref o0), .val (.ref b2), .val (.int pl), .val (.int i), .val (.long (w (i.toInt.toNat))), .second] [(.int (lcmpW (w (i.toInt.toNat)) (0 : Int64)))]))
          have hc32 : ¬ ((lcmpW (w (i.toInt.toNat)) (0 : Int64)) = (0 : Int32)) := (fun q => hw1 (own_lc.mp q))
          refine Runs.by (fun _ hr => XS.ifNo X7.here hx rfl (hb hby d9_32) rfl ((if0 _ _).trans (feq hc32).1) hr) ?_
          show Runs p e below _ (T7.setTop (mkF m 35 #[.val (.ref o0), .val (.ref b2), .val (.int pl), .val (.int i), .val (.long (w (i.toInt.toNat))), .second] []))
          refine Runs.by (fun _ hr => XS.aloadN X7.here hx rfl (hb hby d9_35) rfl rfl hr) ?_
          show Runs p e below _ (T7.setTop (mkF m 36 #[.val (.ref o0), .val (.ref b2), .val (.int pl), .val (.int i), .val (.long (w (i.toInt.toNat))), .second] [(.ref b2)]))
          refine Runs.by (fun _ hr => XS.iloadN X7.here hx rfl (hb hby d9_36) rfl  hr) ?_
          show Runs p e below _ (T7.setTop (mkF m 37 #[.val (.ref o0), .val (.ref b2), .val (.int pl), .val (.int i), .val (.long (w (i.toInt.toNat))), .second] [(.int pl), (.ref b2)]))
          refine Runs.by (fun _ hr => XS.iinc X7.here hx rfl (hb hby d9_37) rfl (l' := #[.val (.ref o0), .val (.ref b2), .val (.int (pl + (1 : Int32))), .val (.int i), .val (.long (w (i.toInt.toNat))), .second]) rfl hr) ?_
          show Runs p e below _ (T7.setTop (mkF m 40 #[.val (.ref o0), .val (.ref b2), .val (.int (pl + (1 : Int32))), .val (.int i), .val (.long (w (i.toInt.toNat))), .second] [(.int pl), (.ref b2)]))
          refine Runs.by (fun _ hr => XS.iloadN X7.here hx rfl (hb hby d9_40) rfl  hr) ?_
          show Runs p e below _ (T7.setTop (mkF m 41 #[.val (.ref o0), .val (.ref b2), .val (.int (pl + (1 : Int32))), .val (.int i), .val (.long (w (i.toInt.toNat))), .second] [(.int i), (.int pl), (.ref b2)]))
          refine Runs.by (fun _ hr => XS.bipush X7.here hx rfl (hb hby d9_41) hr) ?_
          show Runs p e below _ (T7.setTop (mkF m 43 #[.val (.ref o0), .val (.ref b2), .val (.int (pl + (1 : Int32))), .val (.int i), .val (.long (w (i.toInt.toNat))), .second] [(.int (64 : Int32)), (.int i), (.int pl), (.ref b2)]))
          refine Runs.by (fun _ hr => XS.imul X7.here hx rfl (hb hby d9_43) rfl hr) ?_
          show Runs p e below _ (T7.setTop (mkF m 44 #[.val (.ref o0), .val (.ref b2), .val (.int (pl + (1 : Int32))), .val (.int i), .val (.long (w (i.toInt.toNat))), .second] [(.int (i * (64 : Int32))), (.int pl), (.ref b2)]))
          refine Runs.by (fun _ hr => XS.lload X7.here hx rfl (hb hby d9_44) rfl  hr) ?_
          show Runs p e below _ (T7.setTop (mkF m 46 #[.val (.ref o0), .val (.ref b2), .val (.int (pl + (1 : Int32))), .val (.int i), .val (.long (w (i.toInt.toNat))), .second] [(.long (w (i.toInt.toNat))), (.int (i * (64 : Int32))), (.int pl), (.ref b2)]))
          obtain ⟨_, _, ⟨T12, L12, k12, n12⟩, -, X12, ⟨Lc12, hQ12, l12, y12, z12⟩, st12⟩ := Jvm.LawKit.callS X7 hx (y := (⟨"java/lang/Long", "numberOfTrailingZeros", "(J)I"⟩ : MethodName)) hown (mvT hZ (hw _ (List.mem_of_getElem? (i := 53) rfl))) (mvT hZ (hw _ (List.mem_of_getElem? (i := 54) rfl))) (mvT hZ (hw _ (List.mem_of_getElem? (i := 43) rfl))) (mvT hZ (hw _ (List.mem_of_getElem? (i := 55) rfl))) (by decide) (backOf (W := 3) (rm10 l Z a0 hw [] (w (i.toInt.toNat))  hL4 n0 (Nat.le_trans Z0 KL4.1) ) hZ (hw _ (List.mem_of_getElem? (i := 55) rfl)) (hw _ (List.mem_of_getElem? (i := 43) rfl)) (by decide) (by decide)) (g := (mkF m 46 #[.val (.ref o0), .val (.ref b2), .val (.int (pl + (1 : Int32))), .val (.int i), .val (.long (w (i.toInt.toNat))), .second] [(.long (w (i.toInt.toNat))), (.int (i * (64 : Int32))), (.int pl), (.ref b2)])) rfl (by rw [hml]; rfl) (argsL := [(.long (w (i.toInt.toNat)))]) (rest := [(.int (i * (64 : Int32))), (.int pl), (.ref b2)]) (lenOf pd_1 rfl) rfl (by show 2 * 0 + _ ≤ _; exact Nat.le_of_eq rfl) (hb hby d9_46) (fun _ _ => ⟨rfl, e7, (by decide : 1 + 0 ≤ _), (by decide : 2 + 0 ≤ _)⟩)
          dsimp only [Pt.U, Pt.locs, Pt.cells, Pt.slots] at X12 l12 y12 z12 st12 hQ12
          subst l12 y12 z12
          obtain ⟨rfl, Nq12, eq12⟩ := hQ12
          have N12 := Fr.app NL4 Nq12
          refine Runs.by (fun t hr => st12 t hr) ?_
          show Runs p e below _ (T12.setTop (mkF m 49 #[.val (.ref o0), .val (.ref b2), .val (.int (pl + (1 : Int32))), .val (.int i), .val (.long (w (i.toInt.toNat))), .second] [(.int (own_ntz (w (i.toInt.toNat)))), (.int (i * (64 : Int32))), (.int pl), (.ref b2)]))
          refine Runs.by (fun _ hr => XS.iadd X12.here hx rfl (hb hby d9_49) rfl hr) ?_
          show Runs p e below _ (T12.setTop (mkF m 50 #[.val (.ref o0), .val (.ref b2), .val (.int (pl + (1 : Int32))), .val (.int i), .val (.long (w (i.toInt.toNat))), .second] [(.int ((i * (64 : Int32)) + (own_ntz (w (i.toInt.toNat))))), (.int pl), (.ref b2)]))
          obtain ⟨cl13, Ar13, q13, S13, N13', H13⟩ := id fL4_2
          have ix13 := own_ix (j := pl) (z := cc) (n := cnt i.toInt.toNat) (by omega) (by omega)
          have hin13 : ¬ (pl < 0 ∨ cl13.slots.size ≤ (pl).toNatClampNeg) := inb_of S13 ix13.1
          obtain ⟨T13, h13, X13, e13, W13, st13⟩ := stI X12 hx hZ eq12 Ar13 (j := pl) hin13 (g := (mkF m 50 #[.val (.ref o0), .val (.ref b2), .val (.int (pl + (1 : Int32))), .val (.int i), .val (.long (w (i.toInt.toNat))), .second] [(.int ((i * (64 : Int32)) + (own_ntz (w (i.toInt.toNat))))), (.int pl), (.ref b2)])) rfl rfl (hb hby d9_50)
          have G13 : Arf Z h13 b2 k2 .int cc (fun j_ => .int ((own_up g (cnt i.toInt.toNat) ((i * (64 : Int32)) + (own_ntz (w (i.toInt.toNat))))) j_)) := (Arf.set Ar13 q13 S13 N13' H13 W13 ix13.2.1).cast (fun j_ _ => by simp only [own_up]; split <;> rfl)
          have K14 : Keep h0 h13 [] := KL4.wr W13 (Or.inr sz_b2)
          have N13 := Fr.snoc X13 N12 g_b2
          refine Runs.by st13 ?_
          show Runs p e below _ (T13.setTop (mkF m 51 #[.val (.ref o0), .val (.ref b2), .val (.int (pl + (1 : Int32))), .val (.int i), .val (.long (w (i.toInt.toNat))), .second] []))
          refine Runs.by (fun _ hr => XS.lload X13.here hx rfl (hb hby d9_51) rfl  hr) ?_
          show Runs p e below _ (T13.setTop (mkF m 53 #[.val (.ref o0), .val (.ref b2), .val (.int (pl + (1 : Int32))), .val (.int i), .val (.long (w (i.toInt.toNat))), .second] [(.long (w (i.toInt.toNat)))]))
          refine Runs.by (fun _ hr => XS.lload X13.here hx rfl (hb hby d9_53) rfl  hr) ?_
          show Runs p e below _ (T13.setTop (mkF m 55 #[.val (.ref o0), .val (.ref b2), .val (.int (pl + (1 : Int32))), .val (.int i), .val (.long (w (i.toInt.toNat))), .second] [(.long (w (i.toInt.toNat))), (.long (w (i.toInt.toNat)))]))
          refine Runs.by (fun _ hr => XS.lconst X13.here hx rfl (hb hby d9_55) hr) ?_
          show Runs p e below _ (T13.setTop (mkF m 56 #[.val (.ref o0), .val (.ref b2), .val (.int (pl + (1 : Int32))), .val (.int i), .val (.long (w (i.toInt.toNat))), .second] [(.long (1 : Int64)), (.long (w (i.toInt.toNat))), (.long (w (i.toInt.toNat)))]))
          refine Runs.by (fun _ hr => XS.lsub X13.here hx rfl (hb hby d9_56) rfl hr) ?_
          show Runs p e below _ (T13.setTop (mkF m 57 #[.val (.ref o0), .val (.ref b2), .val (.int (pl + (1 : Int32))), .val (.int i), .val (.long (w (i.toInt.toNat))), .second] [(.long ((w (i.toInt.toNat)) - (1 : Int64))), (.long (w (i.toInt.toNat)))]))
          refine Runs.by (fun _ hr => XS.land X13.here hx rfl (hb hby d9_57) rfl hr) ?_
          show Runs p e below _ (T13.setTop (mkF m 58 #[.val (.ref o0), .val (.ref b2), .val (.int (pl + (1 : Int32))), .val (.int i), .val (.long (w (i.toInt.toNat))), .second] [(.long ((w (i.toInt.toNat)) &&& ((w (i.toInt.toNat)) - (1 : Int64))))]))
          refine Runs.by (fun _ hr => XS.lstore X13.here hx rfl (hb hby d9_58) rfl (l' := #[.val (.ref o0), .val (.ref b2), .val (.int (pl + (1 : Int32))), .val (.int i), .val (.long ((w (i.toInt.toNat)) &&& ((w (i.toInt.toNat)) - (1 : Int64)))), .second]) rfl hr) ?_
          show Runs p e below _ (T13.setTop (mkF m 60 #[.val (.ref o0), .val (.ref b2), .val (.int (pl + (1 : Int32))), .val (.int i), .val (.long ((w (i.toInt.toNat)) &&& ((w (i.toInt.toNat)) - (1 : Int64)))), .second] []))
          refine Runs.by (fun _ hr => XS.goto X13.here hx rfl (pc0 := 60) (pc' := 28) rfl (hb hby d9_60) (by decide) (by decide) hr) ?_
          show Runs p e below _ (T13.setTop (mkF m 28 #[.val (.ref o0), .val (.ref b2), .val (.int (pl + (1 : Int32))), .val (.int i), .val (.long ((w (i.toInt.toNat)) &&& ((w (i.toInt.toNat)) - (1 : Int64)))), .second] []))
          refine Runs.by (fun _ hr => XS.lload X13.here hx rfl (hb hby d9_28) rfl  hr) ?_
          show Runs p e below _ (T13.setTop (mkF m 30 #[.val (.ref o0), .val (.ref b2), .val (.int (pl + (1 : Int32))), .val (.int i), .val (.long ((w (i.toInt.toNat)) &&& ((w (i.toInt.toNat)) - (1 : Int64)))), .second] [(.long ((w (i.toInt.toNat)) &&& ((w (i.toInt.toNat)) - (1 : Int64))))]))
          refine Runs.by (fun _ hr => XS.lconst X13.here hx rfl (hb hby d9_30) hr) ?_
          show Runs p e below _ (T13.setTop (mkF m 31 #[.val (.ref o0), .val (.ref b2), .val (.int (pl + (1 : Int32))), .val (.int i), .val (.long ((w (i.toInt.toNat)) &&& ((w (i.toInt.toNat)) - (1 : Int64)))), .second] [(.long (0 : Int64)), (.long ((w (i.toInt.toNat)) &&& ((w (i.toInt.toNat)) - (1 : Int64))))]))
          refine Runs.by (fun _ hr => XS.lcmp X13.here hx rfl (hb hby d9_31) rfl hr) ?_
          show Runs p e below _ (T13.setTop (mkF m 32 #[.val (.ref o0), .val (.ref b2), .val (.int (pl + (1 : Int32))), .val (.int i), .val (.long ((w (i.toInt.toNat)) &&& ((w (i.toInt.toNat)) - (1 : Int64)))), .second] [(.int (lcmpW ((w (i.toInt.toNat)) &&& ((w (i.toInt.toNat)) - (1 : Int64))) (0 : Int64)))]))
          have hc32 : ¬ ((lcmpW ((w (i.toInt.toNat)) &&& ((w (i.toInt.toNat)) - (1 : Int64))) (0 : Int64)) = (0 : Int32)) := (fun q => hw2 (own_lc.mp q))
          refine Runs.by (fun _ hr => XS.ifNo X13.here hx rfl (hb hby d9_32) rfl ((if0 _ _).trans (feq hc32).1) hr) ?_
          show Runs p e below _ (T13.setTop (mkF m 35 #[.val (.ref o0), .val (.ref b2), .val (.int (pl + (1 : Int32))), .val (.int i), .val (.long ((w (i.toInt.toNat)) &&& ((w (i.toInt.toNat)) - (1 : Int64)))), .second] []))
          refine Runs.by (fun _ hr => XS.aloadN X13.here hx rfl (hb hby d9_35) rfl rfl hr) ?_
          show Runs p e below _ (T13.setTop (mkF m 36 #[.val (.ref o0), .val (.ref b2), .val (.int (pl + (1 : Int32))), .val (.int i), .val (.long ((w (i.toInt.toNat)) &&& ((w (i.toInt.toNat)) - (1 : Int64)))), .second] [(.ref b2)]))
          refine Runs.by (fun _ hr => XS.iloadN X13.here hx rfl (hb hby d9_36) rfl  hr) ?_
          show Runs p e below _ (T13.setTop (mkF m 37 #[.val (.ref o0), .val (.ref b2), .val (.int (pl + (1 : Int32))), .val (.int i), .val (.long ((w (i.toInt.toNat)) &&& ((w (i.toInt.toNat)) - (1 : Int64)))), .second] [(.int (pl + (1 : Int32))), (.ref b2)]))
          refine Runs.by (fun _ hr => XS.iinc X13.here hx rfl (hb hby d9_37) rfl (l' := #[.val (.ref o0), .val (.ref b2), .val (.int ((pl + (1 : Int32)) + (1 : Int32))), .val (.int i), .val (.long ((w (i.toInt.toNat)) &&& ((w (i.toInt.toNat)) - (1 : Int64)))), .second]) rfl hr) ?_
          show Runs p e below _ (T13.setTop (mkF m 40 #[.val (.ref o0), .val (.ref b2), .val (.int ((pl + (1 : Int32)) + (1 : Int32))), .val (.int i), .val (.long ((w (i.toInt.toNat)) &&& ((w (i.toInt.toNat)) - (1 : Int64)))), .second] [(.int (pl + (1 : Int32))), (.ref b2)]))
          refine Runs.by (fun _ hr => XS.iloadN X13.here hx rfl (hb hby d9_40) rfl  hr) ?_
          show Runs p e below _ (T13.setTop (mkF m 41 #[.val (.ref o0), .val (.ref b2), .val (.int ((pl + (1 : Int32)) + (1 : Int32))), .val (.int i), .val (.long ((w (i.toInt.toNat)) &&& ((w (i.toInt.toNat)) - (1 : Int64)))), .second] [(.int i), (.int (pl + (1 : Int32))), (.ref b2)]))
          refine Runs.by (fun _ hr => XS.bipush X13.here hx rfl (hb hby d9_41) hr) ?_
          show Runs p e below _ (T13.setTop (mkF m 43 #[.val (.ref o0), .val (.ref b2), .val (.int ((pl + (1 : Int32)) + (1 : Int32))), .val (.int i), .val (.long ((w (i.toInt.toNat)) &&& ((w (i.toInt.toNat)) - (1 : Int64)))), .second] [(.int (64 : Int32)), (.int i), (.int (pl + (1 : Int32))), (.ref b2)]))
          refine Runs.by (fun _ hr => XS.imul X13.here hx rfl (hb hby d9_43) rfl hr) ?_
          show Runs p e below _ (T13.setTop (mkF m 44 #[.val (.ref o0), .val (.ref b2), .val (.int ((pl + (1 : Int32)) + (1 : Int32))), .val (.int i), .val (.long ((w (i.toInt.toNat)) &&& ((w (i.toInt.toNat)) - (1 : Int64)))), .second] [(.int (i * (64 : Int32))), (.int (pl + (1 : Int32))), (.ref b2)]))
          refine Runs.by (fun _ hr => XS.lload X13.here hx rfl (hb hby d9_44) rfl  hr) ?_
          show Runs p e below _ (T13.setTop (mkF m 46 #[.val (.ref o0), .val (.ref b2), .val (.int ((pl + (1 : Int32)) + (1 : Int32))), .val (.int i), .val (.long ((w (i.toInt.toNat)) &&& ((w (i.toInt.toNat)) - (1 : Int64)))), .second] [(.long ((w (i.toInt.toNat)) &&& ((w (i.toInt.toNat)) - (1 : Int64)))), (.int (i * (64 : Int32))), (.int (pl + (1 : Int32))), (.ref b2)]))
          obtain ⟨_, _, ⟨T15, L15, k15, n15⟩, -, X15, ⟨Lc15, hQ15, l15, y15, z15⟩, st15⟩ := Jvm.LawKit.callS X13 hx (y := (⟨"java/lang/Long", "numberOfTrailingZeros", "(J)I"⟩ : MethodName)) hown (mvT hZ (hw _ (List.mem_of_getElem? (i := 53) rfl))) (mvT hZ (hw _ (List.mem_of_getElem? (i := 54) rfl))) (mvT hZ (hw _ (List.mem_of_getElem? (i := 43) rfl))) (mvT hZ (hw _ (List.mem_of_getElem? (i := 55) rfl))) (by decide) (backOf (W := 3) (rm10 l Z a0 hw [] ((w (i.toInt.toNat)) &&& ((w (i.toInt.toNat)) - (1 : Int64)))  h13 n0 (Nat.le_trans Z0 K14.1) ) hZ (hw _ (List.mem_of_getElem? (i := 55) rfl)) (hw _ (List.mem_of_getElem? (i := 43) rfl)) (by decide) (by decide)) (g := (mkF m 46 #[.val (.ref o0), .val (.ref b2), .val (.int ((pl + (1 : Int32)) + (1 : Int32))), .val (.int i), .val (.long ((w (i.toInt.toNat)) &&& ((w (i.toInt.toNat)) - (1 : Int64)))), .second] [(.long ((w (i.toInt.toNat)) &&& ((w (i.toInt.toNat)) - (1 : Int64)))), (.int (i * (64 : Int32))), (.int (pl + (1 : Int32))), (.ref b2)])) rfl (by rw [hml]; rfl) (argsL := [(.long ((w (i.toInt.toNat)) &&& ((w (i.toInt.toNat)) - (1 : Int64))))]) (rest := [(.int (i * (64 : Int32))), (.int (pl + (1 : Int32))), (.ref b2)]) (lenOf pd_1 rfl) rfl (by show 2 * 0 + _ ≤ _; exact Nat.le_of_eq rfl) (hb hby d9_46) (fun _ _ => ⟨rfl, e13, (by decide : 1 + 0 ≤ _), (by decide : 2 + 0 ≤ _)⟩)
          dsimp only [Pt.U, Pt.locs, Pt.cells, Pt.slots] at X15 l15 y15 z15 st15 hQ15
          subst l15 y15 z15
          obtain ⟨rfl, Nq15, eq15⟩ := hQ15
          have N15 := Fr.app N13 Nq15
          refine Runs.by (fun t hr => st15 t hr) ?_
          show Runs p e below _ (T15.setTop (mkF m 49 #[.val (.ref o0), .val (.ref b2), .val (.int ((pl + (1 : Int32)) + (1 : Int32))), .val (.int i), .val (.long ((w (i.toInt.toNat)) &&& ((w (i.toInt.toNat)) - (1 : Int64)))), .second] [(.int (own_ntz ((w (i.toInt.toNat)) &&& ((w (i.toInt.toNat)) - (1 : Int64))))), (.int (i * (64 : Int32))), (.int (pl + (1 : Int32))), (.ref b2)]))
          refine Runs.by (fun _ hr => XS.iadd X15.here hx rfl (hb hby d9_49) rfl hr) ?_
          show Runs p e below _ (T15.setTop (mkF m 50 #[.val (.ref o0), .val (.ref b2), .val (.int ((pl + (1 : Int32)) + (1 : Int32))), .val (.int i), .val (.long ((w (i.toInt.toNat)) &&& ((w (i.toInt.toNat)) - (1 : Int64)))), .second] [(.int ((i * (64 : Int32)) + (own_ntz ((w (i.toInt.toNat)) &&& ((w (i.toInt.toNat)) - (1 : Int64)))))), (.int (pl + (1 : Int32))), (.ref b2)]))
          obtain ⟨cl16, Ar16, q16, S16, N16', H16⟩ := id G13
          have ix16 := own_ix (j := (pl + (1 : Int32))) (z := cc) (n := cnt i.toInt.toNat + 1) (by omega) (by omega)
          have hin16 : ¬ ((pl + (1 : Int32)) < 0 ∨ cl16.slots.size ≤ ((pl + (1 : Int32))).toNatClampNeg) := inb_of S16 ix16.1
          obtain ⟨T16, h16, X16, e16, W16, st16⟩ := stI X15 hx hZ eq15 Ar16 (j := (pl + (1 : Int32))) hin16 (g := (mkF m 50 #[.val (.ref o0), .val (.ref b2), .val (.int ((pl + (1 : Int32)) + (1 : Int32))), .val (.int i), .val (.long ((w (i.toInt.toNat)) &&& ((w (i.toInt.toNat)) - (1 : Int64)))), .second] [(.int ((i * (64 : Int32)) + (own_ntz ((w (i.toInt.toNat)) &&& ((w (i.toInt.toNat)) - (1 : Int64)))))), (.int (pl + (1 : Int32))), (.ref b2)])) rfl rfl (hb hby d9_50)
          have G16 : Arf Z h16 b2 k2 .int cc (fun j_ => .int ((own_up (own_up g (cnt i.toInt.toNat) ((i * (64 : Int32)) + (own_ntz (w (i.toInt.toNat))))) (cnt i.toInt.toNat + 1) ((i * (64 : Int32)) + (own_ntz ((w (i.toInt.toNat)) &&& ((w (i.toInt.toNat)) - (1 : Int64)))))) j_)) := (Arf.set Ar16 q16 S16 N16' H16 W16 ix16.2.1).cast (fun j_ _ => by simp only [own_up]; split <;> rfl)
          have K17 : Keep h0 h16 [] := K14.wr W16 (Or.inr sz_b2)
          have N16 := Fr.snoc X16 N15 g_b2
          refine Runs.by st16 ?_
          show Runs p e below _ (T16.setTop (mkF m 51 #[.val (.ref o0), .val (.ref b2), .val (.int ((pl + (1 : Int32)) + (1 : Int32))), .val (.int i), .val (.long ((w (i.toInt.toNat)) &&& ((w (i.toInt.toNat)) - (1 : Int64)))), .second] []))
          refine Runs.by (fun _ hr => XS.lload X16.here hx rfl (hb hby d9_51) rfl  hr) ?_
          show Runs p e below _ (T16.setTop (mkF m 53 #[.val (.ref o0), .val (.ref b2), .val (.int ((pl + (1 : Int32)) + (1 : Int32))), .val (.int i), .val (.long ((w (i.toInt.toNat)) &&& ((w (i.toInt.toNat)) - (1 : Int64)))), .second] [(.long ((w (i.toInt.toNat)) &&& ((w (i.toInt.toNat)) - (1 : Int64))))]))
          refine Runs.by (fun _ hr => XS.lload X16.here hx rfl (hb hby d9_53) rfl  hr) ?_
          show Runs p e below _ (T16.setTop (mkF m 55 #[.val (.ref o0), .val (.ref b2), .val (.int ((pl + (1 : Int32)) + (1 : Int32))), .val (.int i), .val (.long ((w (i.toInt.toNat)) &&& ((w (i.toInt.toNat)) - (1 : Int64)))), .second] [(.long ((w (i.toInt.toNat)) &&& ((w (i.toInt.toNat)) - (1 : Int64)))), (.long ((w (i.toInt.toNat)) &&& ((w (i.toInt.toNat)) - (1 : Int64))))]))
          refine Runs.by (fun _ hr => XS.lconst X16.here hx rfl (hb hby d9_55) hr) ?_
          show Runs p e below _ (T16.setTop (mkF m 56 #[.val (.ref o0), .val (.ref b2), .val (.int ((pl + (1 : Int32)) + (1 : Int32))), .val (.int i), .val (.long ((w (i.toInt.toNat)) &&& ((w (i.toInt.toNat)) - (1 : Int64)))), .second] [(.long (1 : Int64)), (.long ((w (i.toInt.toNat)) &&& ((w (i.toInt.toNat)) - (1 : Int64)))), (.long ((w (i.toInt.toNat)) &&& ((w (i.toInt.toNat)) - (1 : Int64))))]))
          refine Runs.by (fun _ hr => XS.lsub X16.here hx rfl (hb hby d9_56) rfl hr) ?_
          show Runs p e below _ (T16.setTop (mkF m 57 #[.val (.ref o0), .val (.ref b2), .val (.int ((pl + (1 : Int32)) + (1 : Int32))), .val (.int i), .val (.long ((w (i.toInt.toNat)) &&& ((w (i.toInt.toNat)) - (1 : Int64)))), .second] [(.long (((w (i.toInt.toNat)) &&& ((w (i.toInt.toNat)) - (1 : Int64))) - (1 : Int64))), (.long ((w (i.toInt.toNat)) &&& ((w (i.toInt.toNat)) - (1 : Int64))))]))
          refine Runs.by (fun _ hr => XS.land X16.here hx rfl (hb hby d9_57) rfl hr) ?_
          show Runs p e below _ (T16.setTop (mkF m 58 #[.val (.ref o0), .val (.ref b2), .val (.int ((pl + (1 : Int32)) + (1 : Int32))), .val (.int i), .val (.long ((w (i.toInt.toNat)) &&& ((w (i.toInt.toNat)) - (1 : Int64)))), .second] [(.long (((w (i.toInt.toNat)) &&& ((w (i.toInt.toNat)) - (1 : Int64))) &&& (((w (i.toInt.toNat)) &&& ((w (i.toInt.toNat)) - (1 : Int64))) - (1 : Int64))))]))
          refine Runs.by (fun _ hr => XS.lstore X16.here hx rfl (hb hby d9_58) rfl (l' := #[.val (.ref o0), .val (.ref b2), .val (.int ((pl + (1 : Int32)) + (1 : Int32))), .val (.int i), .val (.long (((w (i.toInt.toNat)) &&& ((w (i.toInt.toNat)) - (1 : Int64))) &&& (((w (i.toInt.toNat)) &&& ((w (i.toInt.toNat)) - (1 : Int64))) - (1 : Int64)))), .second]) rfl hr) ?_
          show Runs p e below _ (T16.setTop (mkF m 60 #[.val (.ref o0), .val (.ref b2), .val (.int ((pl + (1 : Int32)) + (1 : Int32))), .val (.int i), .val (.long (((w (i.toInt.toNat)) &&& ((w (i.toInt.toNat)) - (1 : Int64))) &&& (((w (i.toInt.toNat)) &&& ((w (i.toInt.toNat)) - (1 : Int64))) - (1 : Int64)))), .second] []))
          refine Runs.by (fun _ hr => XS.goto X16.here hx rfl (pc0 := 60) (pc' := 28) rfl (hb hby d9_60) (by decide) (by decide) hr) ?_
          show Runs p e below _ (T16.setTop (mkF m 28 #[.val (.ref o0), .val (.ref b2), .val (.int ((pl + (1 : Int32)) + (1 : Int32))), .val (.int i), .val (.long (((w (i.toInt.toNat)) &&& ((w (i.toInt.toNat)) - (1 : Int64))) &&& (((w (i.toInt.toNat)) &&& ((w (i.toInt.toNat)) - (1 : Int64))) - (1 : Int64)))), .second] []))
          refine Runs.by (fun _ hr => XS.lload X16.here hx rfl (hb hby d9_28) rfl  hr) ?_
          show Runs p e below _ (T16.setTop (mkF m 30 #[.val (.ref o0), .val (.ref b2), .val (.int ((pl + (1 : Int32)) + (1 : Int32))), .val (.int i), .val (.long (((w (i.toInt.toNat)) &&& ((w (i.toInt.toNat)) - (1 : Int64))) &&& (((w (i.toInt.toNat)) &&& ((w (i.toInt.toNat)) - (1 : Int64))) - (1 : Int64)))), .second] [(.long (((w (i.toInt.toNat)) &&& ((w (i.toInt.toNat)) - (1 : Int64))) &&& (((w (i.toInt.toNat)) &&& ((w (i.toInt.toNat)) - (1 : Int64))) - (1 : Int64))))]))
          refine Runs.by (fun _ hr => XS.lconst X16.here hx rfl (hb hby d9_30) hr) ?_
          show Runs p e below _ (T16.setTop (mkF m 31 #[.val (.ref o0), .val (.ref b2), .val (.int ((pl + (1 : Int32)) + (1 : Int32))), .val (.int i), .val (.long (((w (i.toInt.toNat)) &&& ((w (i.toInt.toNat)) - (1 : Int64))) &&& (((w (i.toInt.toNat)) &&& ((w (i.toInt.toNat)) - (1 : Int64))) - (1 : Int64)))), .second] [(.long (0 : Int64)), (.long (((w (i.toInt.toNat)) &&& ((w (i.toInt.toNat)) - (1 : Int64))) &&& (((w (i.toInt.toNat)) &&& ((w (i.toInt.toNat)) - (1 : Int64))) - (1 : Int64))))]))
          refine Runs.by (fun _ hr => XS.lcmp X16.here hx rfl (hb hby d9_31) rfl hr) ?_
          show Runs p e below _ (T16.setTop (mkF m 32 #[.val (.ref o0), .val (.ref b2), .val (.int ((pl + (1 : Int32)) + (1 : Int32))), .val (.int i), .val (.long (((w (i.toInt.toNat)) &&& ((w (i.toInt.toNat)) - (1 : Int64))) &&& (((w (i.toInt.toNat)) &&& ((w (i.toInt.toNat)) - (1 : Int64))) - (1 : Int64)))), .second] [(.int (lcmpW (((w (i.toInt.toNat)) &&& ((w (i.toInt.toNat)) - (1 : Int64))) &&& (((w (i.toInt.toNat)) &&& ((w (i.toInt.toNat)) - (1 : Int64))) - (1 : Int64))) (0 : Int64)))]))
          have hc32 : (lcmpW (((w (i.toInt.toNat)) &&& ((w (i.toInt.toNat)) - (1 : Int64))) &&& (((w (i.toInt.toNat)) &&& ((w (i.toInt.toNat)) - (1 : Int64))) - (1 : Int64))) (0 : Int64)) = (0 : Int32) := own_lc.mpr hw3
          refine Runs.by (fun _ hr => XS.ifYes X16.here hx rfl (pc0 := 32) (pc' := 63) rfl (hb hby d9_32) rfl ((if0 _ _).trans (teq hc32).1) (by decide) (by decide) hr) ?_
          show Runs p e below _ (T16.setTop (mkF m 63 #[.val (.ref o0), .val (.ref b2), .val (.int ((pl + (1 : Int32)) + (1 : Int32))), .val (.int i), .val (.long (((w (i.toInt.toNat)) &&& ((w (i.toInt.toNat)) - (1 : Int64))) &&& (((w (i.toInt.toNat)) &&& ((w (i.toInt.toNat)) - (1 : Int64))) - (1 : Int64)))), .second] []))
          refine Runs.by (fun _ hr => XS.iinc X16.here hx rfl (hb hby d9_63) rfl (l' := #[.val (.ref o0), .val (.ref b2), .val (.int ((pl + (1 : Int32)) + (1 : Int32))), .val (.int (i + (1 : Int32))), .val (.long (((w (i.toInt.toNat)) &&& ((w (i.toInt.toNat)) - (1 : Int64))) &&& (((w (i.toInt.toNat)) &&& ((w (i.toInt.toNat)) - (1 : Int64))) - (1 : Int64)))), .second]) rfl hr) ?_
          show Runs p e below _ (T16.setTop (mkF m 66 #[.val (.ref o0), .val (.ref b2), .val (.int ((pl + (1 : Int32)) + (1 : Int32))), .val (.int (i + (1 : Int32))), .val (.long (((w (i.toInt.toNat)) &&& ((w (i.toInt.toNat)) - (1 : Int64))) &&& (((w (i.toInt.toNat)) &&& ((w (i.toInt.toNat)) - (1 : Int64))) - (1 : Int64)))), .second] []))
          refine Runs.by (fun _ hr => XS.goto X16.here hx rfl (pc0 := 66) (pc' := 11) rfl (hb hby d9_66) (by decide) (by decide) hr) ?_
          have ei : (i + (1 : Int32)).toInt = i.toInt + 1 := (Jvm.Kit.i32_add (by omega) (by omega)).trans (by omega)
          have en : (i + (1 : Int32)).toInt.toNat = i.toInt.toNat + 1 := by omega
          have hp2 : ((pl + (1 : Int32)) + (1 : Int32)).toInt = (cnt (i + (1 : Int32)).toInt.toNat : Int) := by rw [en, hcnt]; omega
          have hg2 : ∀ j : Nat, j < cnt (i + (1 : Int32)).toInt.toNat → (own_up (own_up g (cnt i.toInt.toNat) ((i * (64 : Int32)) + (own_ntz (w (i.toInt.toNat))))) (cnt i.toInt.toNat + 1) ((i * (64 : Int32)) + (own_ntz ((w (i.toInt.toNat)) &&& ((w (i.toInt.toNat)) - (1 : Int64)))))) j = ev j := by
            intro j hj; rw [en, hcnt] at hj
            by_cases q2 : j = cnt i.toInt.toNat + 1
            · subst q2; rw [own_up_same, hev2, hofn]
            · rw [own_up_ne _ _ q2]
              by_cases q : j = cnt i.toInt.toNat
              · subst q; rw [own_up_same, hev, hofn]
              · rw [own_up_ne _ _ q]; exact hg j (by omega)
          exact ih (z.toInt - i.toInt - 1).toNat (by omega) (i + (1 : Int32)) ((pl + (1 : Int32)) + (1 : Int32)) (((w (i.toInt.toNat)) &&& ((w (i.toInt.toNat)) - (1 : Int64))) &&& (((w (i.toInt.toNat)) &&& ((w (i.toInt.toNat)) - (1 : Int64))) - (1 : Int64))) (own_up (own_up g (cnt i.toInt.toNat) ((i * (64 : Int32)) + (own_ntz (w (i.toInt.toNat))))) (cnt i.toInt.toNat + 1) ((i * (64 : Int32)) + (own_ntz ((w (i.toInt.toNat)) &&& ((w (i.toInt.toNat)) - (1 : Int64)))))) _ _ _ X16 e16 N16 K17  ((fL4_0.other W13 (Or.inl ne_o0_b2)).other W16 (Or.inl ne_o0_b2)) ((fL4_1.other W13 ne_wa_b2).other W16 ne_wa_b2) G16 (by omega) (by omega) hp2 hg2
      · -- pc 17: not i < z
        refine Runs.by (fun _ hr => XS.icmpYes X5.here hx rfl (pc0 := 17) (pc' := 69) rfl (hb hby d9_17) rfl (flt hc17).2.1 (by decide) (by decide) hr) ?_
        show Runs p e below _ (T5.setTop (mkF m 69 #[.val (.ref o0), .val (.ref b2), .val (.int pl), .val (.int i), .val (.long bb), .second] []))
        refine Runs.by (fun _ hr => XS.aloadN X5.here hx rfl (hb hby d9_69) rfl rfl hr) ?_
        show Runs p e below _ (T5.setTop (mkF m 70 #[.val (.ref o0), .val (.ref b2), .val (.int pl), .val (.int i), .val (.long bb), .second] [(.ref b2)]))
        refine Runs.ret X5 hx hrt hlk (Or.inr (Or.inr (Or.inr (Or.inr ⟨rfl, rfl, rfl⟩)))) rfl (hb hby d9_70) (by decide) (by decide) ?_
        rw [e5]
        have hz2 : ¬ i.toInt < z.toInt := fun q => hc17 (Int32.lt_iff_toInt_lt.mpr q)
        have hez : i.toInt.toNat = z.toInt.toNat := by omega
        exact ⟨_, _, rfl, NL4, KL4, g_b2, sz_b2, fL4_2.cast (fun j hj => by rw [hg j (by have q := own_cl hj; rw [hez]; omega)])⟩
  show Runs p e below _ (T2.setTop (mkF m 11 #[.val (.ref o0), .val (.ref b2), .val (.int (0 : Int32)), .val (.int (0 : Int32)), .unset, .unset] []))
  refine Runs.by (fun _ hr => XS.iloadN X2.here hx rfl (hb hby d9_11) rfl  hr) ?_
  show Runs p e below _ (T2.setTop (mkF m 12 #[.val (.ref o0), .val (.ref b2), .val (.int (0 : Int32)), .val (.int (0 : Int32)), .unset, .unset] [(.int (0 : Int32))]))
  refine Runs.by (fun _ hr => XS.aloadN X2.here hx rfl (hb hby d9_12) rfl rfl hr) ?_
  show Runs p e below _ (T2.setTop (mkF m 13 #[.val (.ref o0), .val (.ref b2), .val (.int (0 : Int32)), .val (.int (0 : Int32)), .unset, .unset] [(.ref o0), (.int (0 : Int32))]))
  obtain ⟨T18, X18, e18, st18⟩ := getF X2 hx hZ hown (host := "") (Or.inl (hw _ (List.mem_of_getElem? (i := 14) rfl))) Via.refl e2 (Fw.ext E2) (g := (mkF m 13 #[.val (.ref o0), .val (.ref b2), .val (.int (0 : Int32)), .val (.int (0 : Int32)), .unset, .unset] [(.ref o0), (.int (0 : Int32))])) rfl rfl (hb hby d9_13)
  refine Runs.by st18 ?_
  show Runs p e below _ (T18.setTop (mkF m 16 #[.val (.ref o0), .val (.ref b2), .val (.int (0 : Int32)), .val (.int (0 : Int32)), .unset, .unset] [(.ref wa), (.int (0 : Int32))]))
  obtain ⟨cl19, Ar19, -, S19, N19', -⟩ := id (G0.ext E2)
  refine Runs.by (fun t hr => X18.arraylength hx (by rw [e18]; exact Ar19.1) (State.isArrayOf_alike hZ.alike Ar19.2.1) (g := (mkF m 16 #[.val (.ref o0), .val (.ref b2), .val (.int (0 : Int32)), .val (.int (0 : Int32)), .unset, .unset] [(.ref wa), (.int (0 : Int32))])) rfl rfl (hb hby d9_16) t hr) ?_
  rw [len_of S19 N19']
  show Runs p e below _ (T18.setTop (mkF m 17 #[.val (.ref o0), .val (.ref b2), .val (.int (0 : Int32)), .val (.int (0 : Int32)), .unset, .unset] [(.int z), (.int (0 : Int32))]))
  have hc17 : (0 : Int32) < z := (Int32.lt_iff_toInt_lt.mpr (by rw [t0]; omega))
  refine Runs.by (fun _ hr => XS.icmpNo X18.here hx rfl (hb hby d9_17) rfl (tlt hc17).2.1 hr) ?_
  have hlt : (0 : Int32).toInt < z.toInt := Int32.lt_iff_toInt_lt.mp hc17
  have hofn : (0 : Int32) * (64 : Int32) = Int32.ofNat 0 * 64 := rfl
  have hp : (0 : Int32).toInt = (cnt 0 : Int) := by rw [hc0]; decide
  show Runs p e below _ (T18.setTop (mkF m 20 #[.val (.ref o0), .val (.ref b2), .val (.int (0 : Int32)), .val (.int (0 : Int32)), .unset, .unset] []))
  refine Runs.by (fun _ hr => XS.aloadN X18.here hx rfl (hb hby d9_20) rfl rfl hr) ?_
  show Runs p e below _ (T18.setTop (mkF m 21 #[.val (.ref o0), .val (.ref b2), .val (.int (0 : Int32)), .val (.int (0 : Int32)), .unset, .unset] [(.ref o0)]))
  obtain ⟨T20, X20, e20, st20⟩ := getF X18 hx hZ hown (host := "") (Or.inl (hw _ (List.mem_of_getElem? (i := 14) rfl))) Via.refl e18 (Fw.ext E2) (g := (mkF m 21 #[.val (.ref o0), .val (.ref b2), .val (.int (0 : Int32)), .val (.int (0 : Int32)), .unset, .unset] [(.ref o0)])) rfl rfl (hb hby d9_21)
  refine Runs.by st20 ?_
  show Runs p e below _ (T20.setTop (mkF m 24 #[.val (.ref o0), .val (.ref b2), .val (.int (0 : Int32)), .val (.int (0 : Int32)), .unset, .unset] [(.ref wa)]))
  refine Runs.by (fun _ hr => XS.iloadN X20.here hx rfl (hb hby d9_24) rfl  hr) ?_
  show Runs p e below _ (T20.setTop (mkF m 25 #[.val (.ref o0), .val (.ref b2), .val (.int (0 : Int32)), .val (.int (0 : Int32)), .unset, .unset] [(.int (0 : Int32)), (.ref wa)]))
  obtain ⟨cl21, Ar21, -, S21, N21', H21⟩ := id (G0.ext E2)
  have ix21 := own_ix (j := (0 : Int32)) (z := z) (n := 0) (by decide) hlt
  have hin21 : ¬ ((0 : Int32) < 0 ∨ cl21.slots.size ≤ ((0 : Int32)).toNatClampNeg) := inb_of S21 ix21.1
  have hat21 : cl21.slots[((0 : Int32)).toNatClampNeg]? = some (.long (w 0)) := by rw [ix21.2.1]; exact H21 _ ix21.2.2
  refine Runs.by (fun t hr => X20.laload hx (j := (0 : Int32)) (v := (.long (w 0))) (by rw [e20]; exact Ar21.1) (State.isArrayOf_alike hZ.alike Ar21.2.1) Ar21.2.2 hin21 hat21 (g := (mkF m 25 #[.val (.ref o0), .val (.ref b2), .val (.int (0 : Int32)), .val (.int (0 : Int32)), .unset, .unset] [(.int (0 : Int32)), (.ref wa)])) rfl rfl (hb hby d9_25) t hr) ?_
  show Runs p e below _ (T20.setTop (mkF m 26 #[.val (.ref o0), .val (.ref b2), .val (.int (0 : Int32)), .val (.int (0 : Int32)), .unset, .unset] [(.long (w 0))]))
  refine Runs.by (fun _ hr => XS.lstore X20.here hx rfl (hb hby d9_26) rfl (l' := #[.val (.ref o0), .val (.ref b2), .val (.int (0 : Int32)), .val (.int (0 : Int32)), .val (.long (w 0)), .second]) rfl hr) ?_
  rcases hsp 0 (by omega) with ⟨hw0, hcnt⟩ | ⟨hw1, hw2, hcnt, hev⟩ | ⟨hw1, hw2, hw3, hcnt, hev, hev2⟩
  · skip
    show Runs p e below _ (T20.setTop (mkF m 28 #[.val (.ref o0), .val (.ref b2), .val (.int (0 : Int32)), .val (.int (0 : Int32)), .val (.long (w 0)), .second] []))
    refine Runs.by (fun _ hr => XS.lload X20.here hx rfl (hb hby d9_28) rfl  hr) ?_
    show Runs p e below _ (T20.setTop (mkF m 30 #[.val (.ref o0), .val (.ref b2), .val (.int (0 : Int32)), .val (.int (0 : Int32)), .val (.long (w 0)), .second] [(.long (w 0))]))
    refine Runs.by (fun _ hr => XS.lconst X20.here hx rfl (hb hby d9_30) hr) ?_
    show Runs p e below _ (T20.setTop (mkF m 31 #[.val (.ref o0), .val (.ref b2), .val (.int (0 : Int32)), .val (.int (0 : Int32)), .val (.long (w 0)), .second] [(.long (0 : Int64)), (.long (w 0))]))
    refine Runs.by (fun _ hr => XS.lcmp X20.here hx rfl (hb hby d9_31) rfl hr) ?_
    show Runs p e below _ (T20.setTop (mkF m 32 #[.val (.ref o0), .val (.ref b2), .val (.int (0 : Int32)), .val (.int (0 : Int32)), .val (.long (w 0)), .second] [(.int (lcmpW (w 0) (0 : Int64)))]))
    have hc32 : (lcmpW (w 0) (0 : Int64)) = (0 : Int32) := own_lc.mpr hw0
    refine Runs.by (fun _ hr => XS.ifYes X20.here hx rfl (pc0 := 32) (pc' := 63) rfl (hb hby d9_32) rfl ((if0 _ _).trans (teq hc32).1) (by decide) (by decide) hr) ?_
    show Runs p e below _ (T20.setTop (mkF m 63 #[.val (.ref o0), .val (.ref b2), .val (.int (0 : Int32)), .val (.int (0 : Int32)), .val (.long (w 0)), .second] []))
    refine Runs.by (fun _ hr => XS.iinc X20.here hx rfl (hb hby d9_63) rfl (l' := #[.val (.ref o0), .val (.ref b2), .val (.int (0 : Int32)), .val (.int (1 : Int32)), .val (.long (w 0)), .second]) rfl hr) ?_
    show Runs p e below _ (T20.setTop (mkF m 66 #[.val (.ref o0), .val (.ref b2), .val (.int (0 : Int32)), .val (.int (1 : Int32)), .val (.long (w 0)), .second] []))
    refine Runs.by (fun _ hr => XS.goto X20.here hx rfl (pc0 := 66) (pc' := 11) rfl (hb hby d9_66) (by decide) (by decide) hr) ?_
    have ei : (1 : Int32).toInt = 1 := by decide
    have en : (1 : Int32).toInt.toNat = 0 + 1 := by omega
    have hp2 : (0 : Int32).toInt = (cnt (1 : Int32).toInt.toNat : Int) := by rw [en, hcnt]; omega
    have hg2 : ∀ j : Nat, j < cnt (1 : Int32).toInt.toNat → (fun _ => (0 : Int32)) j = ev j := by
      intro j hj; rw [en, hcnt] at hj
      exact absurd hj (by omega)
    exact LA (z.toInt - 1).toNat (1 : Int32) (0 : Int32) (w 0) (fun _ => (0 : Int32)) _ _ _ X20 e20 N0 K3  (Fw.ext E2) (G0.ext E2) G2 (by omega) (by omega) hp2 hg2
  · skip
    have hle1 := hle (0 + 1) (by omega)
    rw [hcnt] at hle1
    have ep1 : ((0 : Int32) + (1 : Int32)).toInt = (0 : Int32).toInt + 1 := (Jvm.Kit.i32_add (by omega) (by omega)).trans (by omega)
    show Runs p e below _ (T20.setTop (mkF m 28 #[.val (.ref o0), .val (.ref b2), .val (.int (0 : Int32)), .val (.int (0 : Int32)), .val (.long (w 0)), .second] []))
    refine Runs.by (fun _ hr => XS.lload X20.here hx rfl (hb hby d9_28) rfl  hr) ?_
    show Runs p e below _ (T20.setTop (mkF m 30 #[.val (.ref o0), .val (.ref b2), .val (.int (0 : Int32)), .val (.int (0 : Int32)), .val (.long (w 0)), .second] [(.long (w 0))]))
    refine Runs.by (fun _ hr => XS.lconst X20.here hx rfl (hb hby d9_30) hr) ?_
    show Runs p e below _ (T20.setTop (mkF m 31 #[.val (.ref o0), .val (.ref b2), .val (.int (0 : Int32)), .val (.int (0 : Int32)), .val (.long (w 0)), .second] [(.long (0 : Int64)), (.long (w 0))]))
    refine Runs.by (fun _ hr => XS.lcmp X20.here hx rfl (hb hby d9_31) rfl hr) ?_
    show Runs p e below _ (T20.setTop (mkF m 32 #[.val (.ref o0), .val (.ref b2), .val (.int (0 : Int32)), .val (.int (0 : Int32)), .val (.long (w 0)), .second] [(.int (lcmpW (w 0) (0 : Int64)))]))
    have hc32 : ¬ ((lcmpW (w 0) (0 : Int64)) = (0 : Int32)) := (fun q => hw1 (own_lc.mp q))
    refine Runs.by (fun _ hr => XS.ifNo X20.here hx rfl (hb hby d9_32) rfl ((if0 _ _).trans (feq hc32).1) hr) ?_
    show Runs p e below _ (T20.setTop (mkF m 35 #[.val (.ref o0), .val (.ref b2), .val (.int (0 : Int32)), .val (.int (0 : Int32)), .val (.long (w 0)), .second] []))
    refine Runs.by (fun _ hr => XS.aloadN X20.here hx rfl (hb hby d9_35) rfl rfl hr) ?_
    show Runs p e below _ (T20.setTop (mkF m 36 #[.val (.ref o0), .val (.ref b2), .val (.int (0 : Int32)), .val (.int (0 : Int32)), .val (.long (w 0)), .second] [(.ref b2)]))
    refine Runs.by (fun _ hr => XS.iloadN X20.here hx rfl (hb hby d9_36) rfl  hr) ?_
    show Runs p e below _ (T20.setTop (mkF m 37 #[.val (.ref o0), .val (.ref b2), .val (.int (0 : Int32)), .val (.int (0 : Int32)), .val (.long (w 0)), .second] [(.int (0 : Int32)), (.ref b2)]))
    refine Runs.by (fun _ hr => XS.iinc X20.here hx rfl (hb hby d9_37) rfl (l' := #[.val (.ref o0), .val (.ref b2), .val (.int (1 : Int32)), .val (.int (0 : Int32)), .val (.long (w 0)), .second]) rfl hr) ?_
    show Runs p e below _ (T20.setTop (mkF m 40 #[.val (.ref o0), .val (.ref b2), .val (.int (1 : Int32)), .val (.int (0 : Int32)), .val (.long (w 0)), .second] [(.int (0 : Int32)), (.ref b2)]))
    refine Runs.by (fun _ hr => XS.iloadN X20.here hx rfl (hb hby d9_40) rfl  hr) ?_
    show Runs p e below _ (T20.setTop (mkF m 41 #[.val (.ref o0), .val (.ref b2), .val (.int (1 : Int32)), .val (.int (0 : Int32)), .val (.long (w 0)), .second] [(.int (0 : Int32)), (.int (0 : Int32)), (.ref b2)]))
    refine Runs.by (fun _ hr => XS.bipush X20.here hx rfl (hb hby d9_41) hr) ?_
    show Runs p e below _ (T20.setTop (mkF m 43 #[.val (.ref o0), .val (.ref b2), .val (.int (1 : Int32)), .val (.int (0 : Int32)), .val (.long (w 0)), .second] [(.int (64 : Int32)), (.int (0 : Int32)), (.int (0 : Int32)), (.ref b2)]))
    refine Runs.by (fun _ hr => XS.imul X20.here hx rfl (hb hby d9_43) rfl hr) ?_
    show Runs p e below _ (T20.setTop (mkF m 44 #[.val (.ref o0), .val (.ref b2), .val (.int (1 : Int32)), .val (.int (0 : Int32)), .val (.long (w 0)), .second] [(.int (0 : Int32)), (.int (0 : Int32)), (.ref b2)]))
    refine Runs.by (fun _ hr => XS.lload X20.here hx rfl (hb hby d9_44) rfl  hr) ?_
    show Runs p e below _ (T20.setTop (mkF m 46 #[.val (.ref o0), .val (.ref b2), .val (.int (1 : Int32)), .val (.int (0 : Int32)), .val (.long (w 0)), .second] [(.long (w 0)), (.int (0 : Int32)), (.int (0 : Int32)), (.ref b2)]))
    obtain ⟨_, _, ⟨T22, L22, k22, n22⟩, -, X22, ⟨Lc22, hQ22, l22, y22, z22⟩, st22⟩ := Jvm.LawKit.callS X20 hx (y := (⟨"java/lang/Long", "numberOfTrailingZeros", "(J)I"⟩ : MethodName)) hown (mvT hZ (hw _ (List.mem_of_getElem? (i := 53) rfl))) (mvT hZ (hw _ (List.mem_of_getElem? (i := 54) rfl))) (mvT hZ (hw _ (List.mem_of_getElem? (i := 43) rfl))) (mvT hZ (hw _ (List.mem_of_getElem? (i := 55) rfl))) (by decide) (backOf (W := 3) (rm10 l Z a0 hw [] (w 0)  h2 n0 (Nat.le_trans Z0 K3.1) ) hZ (hw _ (List.mem_of_getElem? (i := 55) rfl)) (hw _ (List.mem_of_getElem? (i := 43) rfl)) (by decide) (by decide)) (g := (mkF m 46 #[.val (.ref o0), .val (.ref b2), .val (.int (1 : Int32)), .val (.int (0 : Int32)), .val (.long (w 0)), .second] [(.long (w 0)), (.int (0 : Int32)), (.int (0 : Int32)), (.ref b2)])) rfl (by rw [hml]; rfl) (argsL := [(.long (w 0))]) (rest := [(.int (0 : Int32)), (.int (0 : Int32)), (.ref b2)]) (lenOf pd_1 rfl) rfl (by show 2 * 0 + _ ≤ _; exact Nat.le_of_eq rfl) (hb hby d9_46) (fun _ _ => ⟨rfl, e20, (by decide : 1 + 0 ≤ _), (by decide : 2 + 0 ≤ _)⟩)
    dsimp only [Pt.U, Pt.locs, Pt.cells, Pt.slots] at X22 l22 y22 z22 st22 hQ22
    subst l22 y22 z22
    obtain ⟨rfl, Nq22, eq22⟩ := hQ22
    have N22 := Fr.app N0 Nq22
    refine Runs.by (fun t hr => st22 t hr) ?_
    show Runs p e below _ (T22.setTop (mkF m 49 #[.val (.ref o0), .val (.ref b2), .val (.int (1 : Int32)), .val (.int (0 : Int32)), .val (.long (w 0)), .second] [(.int (own_ntz (w 0))), (.int (0 : Int32)), (.int (0 : Int32)), (.ref b2)]))
    refine Runs.by (fun _ hr => XS.iadd X22.here hx rfl (hb hby d9_49) rfl hr) ?_
    show Runs p e below _ (T22.setTop (mkF m 50 #[.val (.ref o0), .val (.ref b2), .val (.int (1 : Int32)), .val (.int (0 : Int32)), .val (.long (w 0)), .second] [(.int ((0 : Int32) + (own_ntz (w 0)))), (.int (0 : Int32)), (.ref b2)]))
    obtain ⟨cl23, Ar23, q23, S23, N23', H23⟩ := id G2
    have ix23 := own_ix (j := (0 : Int32)) (z := cc) (n := cnt 0) (by omega) (by omega)
    have hin23 : ¬ ((0 : Int32) < 0 ∨ cl23.slots.size ≤ ((0 : Int32)).toNatClampNeg) := inb_of S23 ix23.1
    obtain ⟨T23, h23, X23, e23, W23, st23⟩ := stI X22 hx hZ eq22 Ar23 (j := (0 : Int32)) hin23 (g := (mkF m 50 #[.val (.ref o0), .val (.ref b2), .val (.int (1 : Int32)), .val (.int (0 : Int32)), .val (.long (w 0)), .second] [(.int ((0 : Int32) + (own_ntz (w 0)))), (.int (0 : Int32)), (.ref b2)])) rfl rfl (hb hby d9_50)
    have G23 : Arf Z h23 b2 k2 .int cc (fun j_ => .int ((own_up (fun _ => (0 : Int32)) (cnt 0) ((0 : Int32) + (own_ntz (w 0)))) j_)) := (Arf.set Ar23 q23 S23 N23' H23 W23 ix23.2.1).cast (fun j_ _ => by simp only [own_up]; split <;> rfl)
    have K24 : Keep h0 h23 [] := K3.wr W23 (Or.inr sz_b2)
    have N23 := Fr.snoc X23 N22 g_b2
    refine Runs.by st23 ?_
    show Runs p e below _ (T23.setTop (mkF m 51 #[.val (.ref o0), .val (.ref b2), .val (.int (1 : Int32)), .val (.int (0 : Int32)), .val (.long (w 0)), .second] []))
    refine Runs.by (fun _ hr => XS.lload X23.here hx rfl (hb hby d9_51) rfl  hr) ?_
    show Runs p e below _ (T23.setTop (mkF m 53 #[.val (.ref o0), .val (.ref b2), .val (.int (1 : Int32)), .val (.int (0 : Int32)), .val (.long (w 0)), .second] [(.long (w 0))]))
    refine Runs.by (fun _ hr => XS.lload X23.here hx rfl (hb hby d9_53) rfl  hr) ?_
    show Runs p e below _ (T23.setTop (mkF m 55 #[.val (.ref o0), .val (.ref b2), .val (.int (1 : Int32)), .val (.int (0 : Int32)), .val (.long (w 0)), .second] [(.long (w 0)), (.long (w 0))]))
    refine Runs.by (fun _ hr => XS.lconst X23.here hx rfl (hb hby d9_55) hr) ?_
    show Runs p e below _ (T23.setTop (mkF m 56 #[.val (.ref o0), .val (.ref b2), .val (.int (1 : Int32)), .val (.int (0 : Int32)), .val (.long (w 0)), .second] [(.long (1 : Int64)), (.long (w 0)), (.long (w 0))]))
    refine Runs.by (fun _ hr => XS.lsub X23.here hx rfl (hb hby d9_56) rfl hr) ?_
    show Runs p e below _ (T23.setTop (mkF m 57 #[.val (.ref o0), .val (.ref b2), .val (.int (1 : Int32)), .val (.int (0 : Int32)), .val (.long (w 0)), .second] [(.long ((w 0) - (1 : Int64))), (.long (w 0))]))
    refine Runs.by (fun _ hr => XS.land X23.here hx rfl (hb hby d9_57) rfl hr) ?_
    show Runs p e below _ (T23.setTop (mkF m 58 #[.val (.ref o0), .val (.ref b2), .val (.int (1 : Int32)), .val (.int (0 : Int32)), .val (.long (w 0)), .second] [(.long ((w 0) &&& ((w 0) - (1 : Int64))))]))
    refine Runs.by (fun _ hr => XS.lstore X23.here hx rfl (hb hby d9_58) rfl (l' := #[.val (.ref o0), .val (.ref b2), .val (.int (1 : Int32)), .val (.int (0 : Int32)), .val (.long ((w 0) &&& ((w 0) - (1 : Int64)))), .second]) rfl hr) ?_
    show Runs p e below _ (T23.setTop (mkF m 60 #[.val (.ref o0), .val (.ref b2), .val (.int (1 : Int32)), .val (.int (0 : Int32)), .val (.long ((w 0) &&& ((w 0) - (1 : Int64)))), .second] []))
    refine Runs.by (fun _ hr => XS.goto X23.here hx rfl (pc0 := 60) (pc' := 28) rfl (hb hby d9_60) (by decide) (by decide) hr) ?_
    show Runs p e below _ (T23.setTop (mkF m 28 #[.val (.ref o0), .val (.ref b2), .val (.int (1 : Int32)), .val (.int (0 : Int32)), .val (.long ((w 0) &&& ((w 0) - (1 : Int64)))), .second] []))
    refine Runs.by (fun _ hr => XS.lload X23.here hx rfl (hb hby d9_28) rfl  hr) ?_
    show Runs p e below _ (T23.setTop (mkF m 30 #[.val (.ref o0), .val (.ref b2), .val (.int (1 : Int32)), .val (.int (0 : Int32)), .val (.long ((w 0) &&& ((w 0) - (1 : Int64)))), .second] [(.long ((w 0) &&& ((w 0) - (1 : Int64))))]))
    refine Runs.by (fun _ hr => XS.lconst X23.here hx rfl (hb hby d9_30) hr) ?_
    show Runs p e below _ (T23.setTop (mkF m 31 #[.val (.ref o0), .val (.ref b2), .val (.int (1 : Int32)), .val (.int (0 : Int32)), .val (.long ((w 0) &&& ((w 0) - (1 : Int64)))), .second] [(.long (0 : Int64)), (.long ((w 0) &&& ((w 0) - (1 : Int64))))]))
    refine Runs.by (fun _ hr => XS.lcmp X23.here hx rfl (hb hby d9_31) rfl hr) ?_
    show Runs p e below _ (T23.setTop (mkF m 32 #[.val (.ref o0), .val (.ref b2), .val (.int (1 : Int32)), .val (.int (0 : Int32)), .val (.long ((w 0) &&& ((w 0) - (1 : Int64)))), .second] [(.int (lcmpW ((w 0) &&& ((w 0) - (1 : Int64))) (0 : Int64)))]))
    have hc32 : (lcmpW ((w 0) &&& ((w 0) - (1 : Int64))) (0 : Int64)) = (0 : Int32) := own_lc.mpr hw2
    refine Runs.by (fun _ hr => XS.ifYes X23.here hx rfl (pc0 := 32) (pc' := 63) rfl (hb hby d9_32) rfl ((if0 _ _).trans (teq hc32).1) (by decide) (by decide) hr) ?_
    show Runs p e below _ (T23.setTop (mkF m 63 #[.val (.ref o0), .val (.ref b2), .val (.int (1 : Int32)), .val (.int (0 : Int32)), .val (.long ((w 0) &&& ((w 0) - (1 : Int64)))), .second] []))
    refine Runs.by (fun _ hr => XS.iinc X23.here hx rfl (hb hby d9_63) rfl (l' := #[.val (.ref o0), .val (.ref b2), .val (.int (1 : Int32)), .val (.int (1 : Int32)), .val (.long ((w 0) &&& ((w 0) - (1 : Int64)))), .second]) rfl hr) ?_
    show Runs p e below _ (T23.setTop (mkF m 66 #[.val (.ref o0), .val (.ref b2), .val (.int (1 : Int32)), .val (.int (1 : Int32)), .val (.long ((w 0) &&& ((w 0) - (1 : Int64)))), .second] []))
    refine Runs.by (fun _ hr => XS.goto X23.here hx rfl (pc0 := 66) (pc' := 11) rfl (hb hby d9_66) (by decide) (by decide) hr) ?_
    have ei : (1 : Int32).toInt = 1 := by decide
    have en : (1 : Int32).toInt.toNat = 0 + 1 := by omega
    have hp2 : (1 : Int32).toInt = (cnt (1 : Int32).toInt.toNat : Int) := by rw [en, hcnt]; omega
    have hg2 : ∀ j : Nat, j < cnt (1 : Int32).toInt.toNat → (own_up (fun _ => (0 : Int32)) (cnt 0) ((0 : Int32) + (own_ntz (w 0)))) j = ev j := by
      intro j hj; rw [en, hcnt] at hj
      by_cases q : j = cnt 0
      · subst q; rw [own_up_same, hev]; rfl
      · rw [own_up_ne _ _ q]; exact absurd hj (by omega)
    exact LA (z.toInt - 1).toNat (1 : Int32) (1 : Int32) ((w 0) &&& ((w 0) - (1 : Int64))) (own_up (fun _ => (0 : Int32)) (cnt 0) ((0 : Int32) + (own_ntz (w 0)))) _ _ _ X23 e23 N23 K24  ((Fw.ext E2).other W23 (Or.inl ne_o0_b2)) ((G0.ext E2).other W23 ne_wa_b2) G23 (by omega) (by omega) hp2 hg2
  · skip
    have hle1 := hle (0 + 1) (by omega)
    rw [hcnt] at hle1
    have ep1 : ((0 : Int32) + (1 : Int32)).toInt = (0 : Int32).toInt + 1 := (Jvm.Kit.i32_add (by omega) (by omega)).trans (by omega)
    have ep2 : (((0 : Int32) + (1 : Int32)) + (1 : Int32)).toInt = (0 : Int32).toInt + 2 := (Jvm.Kit.i32_add (by omega) (by omega)).trans (by omega)
    show Runs p e below _ (T20.setTop (mkF m 28 #[.val (.ref o0), .val (.ref b2), .val (.int (0 : Int32)), .val (.int (0 : Int32)), .val (.long (w 0)), .second] []))
    refine Runs.by (fun _ hr => XS.lload X20.here hx rfl (hb hby d9_28) rfl  hr) ?_
    show Runs p e below _ (T20.setTop (mkF m 30 #[.val (.ref o0), .val (.ref b2), .val (.int (0 : Int32)), .val (.int (0 : Int32)), .val (.long (w 0)), .second] [(.long (w 0))]))
    refine Runs.by (fun _ hr => XS.lconst X20.here hx rfl (hb hby d9_30) hr) ?_
    show Runs p e below _ (T20.setTop (mkF m 31 #[.val (.ref o0), .val (.ref b2), .val (.int (0 : Int32)), .val (.int (0 : Int32)), .val (.long (w 0)), .second] [(.long (0 : Int64)), (.long (w 0))]))
    refine Runs.by (fun _ hr => XS.lcmp X20.here hx rfl (hb hby d9_31) rfl hr) ?_
    show Runs p e below _ (T20.setTop (mkF m 32 #[.val (.ref o0), .val (.ref b2), .val (.int (0 : Int32)), .val (.int (0 : Int32)), .val (.long (w 0)), .second] [(.int (lcmpW (w 0) (0 : Int64)))]))
    have hc32 : ¬ ((lcmpW (w 0) (0 : Int64)) = (0 : Int32)) := (fun q => hw1 (own_lc.mp q))
    refine Runs.by (fun _ hr => XS.ifNo X20.here hx rfl (hb hby d9_32) rfl ((if0 _ _).trans (feq hc32).1) hr) ?_
    show Runs p e below _ (T20.setTop (mkF m 35 #[.val (.ref o0), .val (.ref b2), .val (.int (0 : Int32)), .val (.int (0 : Int32)), .val (.long (w 0)), .second] []))
    refine Runs.by (fun _ hr => XS.aloadN X20.here hx rfl (hb hby d9_35) rfl rfl hr) ?_
    show Runs p e below _ (T20.setTop (mkF m 36 #[.val (.ref o0), .val (.ref b2), .val (.int (0 : Int32)), .val (.int (0 : Int32)), .val (.long (w 0)), .second] [(.ref b2)]))
    refine Runs.by (fun _ hr => XS.iloadN X20.here hx rfl (hb hby d9_36) rfl  hr) ?_
    show Runs p e below _ (T20.setTop (mkF m 37 #[.val (.ref o0), .val (.ref b2), .val (.int (0 : Int32)), .val (.int (0 : Int32)), .val (.long (w 0)), .second] [(.int (0 : Int32)), (.ref b2)]))
    refine Runs.by (fun _ hr => XS.iinc X20.here hx rfl (hb hby d9_37) rfl (l' := #[.val (.ref o0), .val (.ref b2), .val (.int (1 : Int32)), .val (.int (0 : Int32)), .val (.long (w 0)), .second]) rfl hr) ?_
    show Runs p e below _ (T20.setTop (mkF m 40 #[.val (.ref o0), .val (.ref b2), .val (.int (1 : Int32)), .val (.int (0 : Int32)), .val (.long (w 0)), .second] [(.int (0 : Int32)), (.ref b2)]))
    refine Runs.by (fun _ hr => XS.iloadN X20.here hx rfl (hb hby d9_40) rfl  hr) ?_
    show Runs p e below _ (T20.setTop (mkF m 41 #[.val (.ref o0), .val (.ref b2), .val (.int (1 : Int32)), .val (.int (0 : Int32)), .val (.long (w 0)), .second] [(.int (0 : Int32)), (.int (0 : Int32)), (.ref b2)]))
    refine Runs.by (fun _ hr => XS.bipush X20.here hx rfl (hb hby d9_41) hr) ?_
    show Runs p e below _ (T20.setTop (mkF m 43 #[.val (.ref o0), .val (.ref b2), .val (.int (1 : Int32)), .val (.int (0 : Int32)), .val (.long (w 0)), .second] [(.int (64 : Int32)), (.int (0 : Int32)), (.int (0 : Int32)), (.ref b2)]))
    refine Runs.by (fun _ hr => XS.imul X20.here hx rfl (hb hby d9_43) rfl hr) ?_
    show Runs p e below _ (T20.setTop (mkF m 44 #[.val (.ref o0), .val (.ref b2), .val (.int (1 : Int32)), .val (.int (0 : Int32)), .val (.long (w 0)), .second] [(.int (0 : Int32)), (.int (0 : Int32)), (.ref b2)]))
    refine Runs.by (fun _ hr => XS.lload X20.here hx rfl (hb hby d9_44) rfl  hr) ?_
    show Runs p e below _ (T20.setTop (mkF m 46 #[.val (.ref o0), .val (.ref b2), .val (.int (1 : Int32)), .val (.int (0 : Int32)), .val (.long (w 0)), .second] [(.long (w 0)), (.int (0 : Int32)), (.int (0 : Int32)), (.ref b2)]))
    obtain ⟨_, _, ⟨T25, L25, k25, n25⟩, -, X25, ⟨Lc25, hQ25, l25, y25, z25⟩, st25⟩ := Jvm.LawKit.callS X20 hx (y := (⟨"java/lang/Long", "numberOfTrailingZeros", "(J)I"⟩ : MethodName)) hown (mvT hZ (hw _ (List.mem_of_getElem? (i := 53) rfl))) (mvT hZ (hw _ (List.mem_of_getElem? (i := 54) rfl))) (mvT hZ (hw _ (List.mem_of_getElem? (i := 43) rfl))) (mvT hZ (hw _ (List.mem_of_getElem? (i := 55) rfl))) (by decide) (backOf (W := 3) (rm10 l Z a0 hw [] (w 0)  h2 n0 (Nat.le_trans Z0 K3.1) ) hZ (hw _ (List.mem_of_getElem? (i := 55) rfl)) (hw _ (List.mem_of_getElem? (i := 43) rfl)) (by decide) (by decide)) (g := (mkF m 46 #[.val (.ref o0), .val (.ref b2), .val (.int (1 : Int32)), .val (.int (0 : Int32)), .val (.long (w 0)), .second] [(.long (w 0)), (.int (0 : Int32)), (.int (0 : Int32)), (.ref b2)])) rfl (by rw [hml]; rfl) (argsL := [(.long (w 0))]) (rest := [(.int (0 : Int32)), (.int (0 : Int32)), (.ref b2)]) (lenOf pd_1 rfl) rfl (by show 2 * 0 + _ ≤ _; exact Nat.le_of_eq rfl) (hb hby d9_46) (fun _ _ => ⟨rfl, e20, (by decide : 1 + 0 ≤ _), (by decide : 2 + 0 ≤ _)⟩)
    dsimp only [Pt.U, Pt.locs, Pt.cells, Pt.slots] at X25 l25 y25 z25 st25 hQ25
    subst l25 y25 z25
    obtain ⟨rfl, Nq25, eq25⟩ := hQ25
    have N25 := Fr.app N0 Nq25
    refine Runs.by (fun t hr => st25 t hr) ?_
    show Runs p e below _ (T25.setTop (mkF m 49 #[.val (.ref o0), .val (.ref b2), .val (.int (1 : Int32)), .val (.int (0 : Int32)), .val (.long (w 0)), .second] [(.int (own_ntz (w 0))), (.int (0 : Int32)), (.int (0 : Int32)), (.ref b2)]))
    refine Runs.by (fun _ hr => XS.iadd X25.here hx rfl (hb hby d9_49) rfl hr) ?_
    show Runs p e below _ (T25.setTop (mkF m 50 #[.val (.ref o0), .val (.ref b2), .val (.int (1 : Int32)), .val (.int (0 : Int32)), .val (.long (w 0)), .second] [(.int ((0 : Int32) + (own_ntz (w 0)))), (.int (0 : Int32)), (.ref b2)]))
    obtain ⟨cl26, Ar26, q26, S26, N26', H26⟩ := id G2
    have ix26 := own_ix (j := (0 : Int32)) (z := cc) (n := cnt 0) (by omega) (by omega)
    have hin26 : ¬ ((0 : Int32) < 0 ∨ cl26.slots.size ≤ ((0 : Int32)).toNatClampNeg) := inb_of S26 ix26.1
    obtain ⟨T26, h26, X26, e26, W26, st26⟩ := stI X25 hx hZ eq25 Ar26 (j := (0 : Int32)) hin26 (g := (mkF m 50 #[.val (.ref o0), .val (.ref b2), .val (.int (1 : Int32)), .val (.int (0 : Int32)), .val (.long (w 0)), .second] [(.int ((0 : Int32) + (own_ntz (w 0)))), (.int (0 : Int32)), (.ref b2)])) rfl rfl (hb hby d9_50)
    have G26 : Arf Z h26 b2 k2 .int cc (fun j_ => .int ((own_up (fun _ => (0 : Int32)) (cnt 0) ((0 : Int32) + (own_ntz (w 0)))) j_)) := (Arf.set Ar26 q26 S26 N26' H26 W26 ix26.2.1).cast (fun j_ _ => by simp only [own_up]; split <;> rfl)
    have K27 : Keep h0 h26 [] := K3.wr W26 (Or.inr sz_b2)
    have N26 := Fr.snoc X26 N25 g_b2
    refine Runs.by st26 ?_
    show Runs p e below _ (T26.setTop (mkF m 51 #[.val (.ref o0), .val (.ref b2), .val (.int (1 : Int32)), .val (.int (0 : Int32)), .val (.long (w 0)), .second] []))
    refine Runs.by (fun _ hr => XS.lload X26.here hx rfl (hb hby d9_51) rfl  hr) ?_
    show Runs p e below _ (T26.setTop (mkF m 53 #[.val (.ref o0), .val (.ref b2), .val (.int (1 : Int32)), .val (.int (0 : Int32)), .val (.long (w 0)), .second] [(.long (w 0))]))
    refine Runs.by (fun _ hr => XS.lload X26.here hx rfl (hb hby d9_53) rfl  hr) ?_
    show Runs p e below _ (T26.setTop (mkF m 55 #[.val (.ref o0), .val (.ref b2), .val (.int (1 : Int32)), .val (.int (0 : Int32)), .val (.long (w 0)), .second] [(.long (w 0)), (.long (w 0))]))
    refine Runs.by (fun _ hr => XS.lconst X26.here hx rfl (hb hby d9_55) hr) ?_
    show Runs p e below _ (T26.setTop (mkF m 56 #[.val (.ref o0), .val (.ref b2), .val (.int (1 : Int32)), .val (.int (0 : Int32)), .val (.long (w 0)), .second] [(.long (1 : Int64)), (.long (w 0)), (.long (w 0))]))
    refine Runs.by (fun _ hr => XS.lsub X26.here hx rfl (hb hby d9_56) rfl hr) ?_
    show Runs p e below _ (T26.setTop (mkF m 57 #[.val (.ref o0), .val (.ref b2), .val (.int (1 : Int32)), .val (.int (0 : Int32)), .val (.long (w 0)), .second] [(.long ((w 0) - (1 : Int64))), (.long (w 0))]))
    refine Runs.by (fun _ hr => XS.land X26.here hx rfl (hb hby d9_57) rfl hr) ?_
    show Runs p e below _ (T26.setTop (mkF m 58 #[.val (.ref o0), .val (.ref b2), .val (.int (1 : Int32)), .val (.int (0 : Int32)), .val (.long (w 0)), .second] [(.long ((w 0) &&& ((w 0) - (1 : Int64))))]))
    refine Runs.by (fun _ hr => XS.lstore X26.here hx rfl (hb hby d9_58) rfl (l' := #[.val (.ref o0), .val (.ref b2), .val (.int (1 : Int32)), .val (.int (0 : Int32)), .val (.long ((w 0) &&& ((w 0) - (1 : Int64)))), .second]) rfl hr) ?_
    show Runs p e below _ (T26.setTop (mkF m 60 #[.val (.ref o0), .val (.ref b2), .val (.int (1 : Int32)), .val (.int (0 : Int32)), .val (.long ((w 0) &&& ((w 0) - (1 : Int64)))), .second] []))
    refine Runs.by (fun _ hr => XS.goto X26.here hx rfl (pc0 := 60) (pc' := 28) rfl (hb hby d9_60) (by decide) (by decide) hr) ?_
    show Runs p e below _ (T26.setTop (mkF m 28 #[.val (.ref o0), .val (.ref b2), .val (.int (1 : Int32)), .val (.int (0 : Int32)), .val (.long ((w 0) &&& ((w 0) - (1 : Int64)))), .second] []))
    refine Runs.by (fun _ hr => XS.lload X26.here hx rfl (hb hby d9_28) rfl  hr) ?_
    show Runs p e below _ (T26.setTop (mkF m 30 #[.val (.ref o0), .val (.ref b2), .val (.int (1 : Int32)), .val (.int (0 : Int32)), .val (.long ((w 0) &&& ((w 0) - (1 : Int64)))), .second] [(.long ((w 0) &&& ((w 0) - (1 : Int64))))]))
    refine Runs.by (fun _ hr => XS.lconst X26.here hx rfl (hb hby d9_30) hr) ?_
    show Runs p e below _ (T26.setTop (mkF m 31 #[.val (.ref o0), .val (.ref b2), .val (.int (1 : Int32)), .val (.int (0 : Int32)), .val (.long ((w 0) &&& ((w 0) - (1 : Int64)))), .second] [(.long (0 : Int64)), (.long ((w 0) &&& ((w 0) - (1 : Int64))))]))
    refine Runs.by (fun _ hr => XS.lcmp X26.here hx rfl (hb hby d9_31) rfl hr) ?_
    show Runs p e below _ (T26.setTop (mkF m 32 #[.val (.ref o0), .val (.ref b2), .val (.int (1 : Int32)), .val (.int (0 : Int32)), .val (.long ((w 0) &&& ((w 0) - (1 : Int64)))), .second] [(.int (lcmpW ((w 0) &&& ((w 0) - (1 : Int64))) (0 : Int64)))]))
    have hc32 : ¬ ((lcmpW ((w 0) &&& ((w 0) - (1 : Int64))) (0 : Int64)) = (0 : Int32)) := (fun q => hw2 (own_lc.mp q))
    refine Runs.by (fun _ hr => XS.ifNo X26.here hx rfl (hb hby d9_32) rfl ((if0 _ _).trans (feq hc32).1) hr) ?_
    show Runs p e below _ (T26.setTop (mkF m 35 #[.val (.ref o0), .val (.ref b2), .val (.int (1 : Int32)), .val (.int (0 : Int32)), .val (.long ((w 0) &&& ((w 0) - (1 : Int64)))), .second] []))
    refine Runs.by (fun _ hr => XS.aloadN X26.here hx rfl (hb hby d9_35) rfl rfl hr) ?_
    show Runs p e below _ (T26.setTop (mkF m 36 #[.val (.ref o0), .val (.ref b2), .val (.int (1 : Int32)), .val (.int (0 : Int32)), .val (.long ((w 0) &&& ((w 0) - (1 : Int64)))), .second] [(.ref b2)]))
    refine Runs.by (fun _ hr => XS.iloadN X26.here hx rfl (hb hby d9_36) rfl  hr) ?_
    show Runs p e below _ (T26.setTop (mkF m 37 #[.val (.ref o0), .val (.ref b2), .val (.int (1 : Int32)), .val (.int (0 : Int32)), .val (.long ((w 0) &&& ((w 0) - (1 : Int64)))), .second] [(.int (1 : Int32)), (.ref b2)]))
    refine Runs.by (fun _ hr => XS.iinc X26.here hx rfl (hb hby d9_37) rfl (l' := #[.val (.ref o0), .val (.ref b2), .val (.int (2 : Int32)), .val (.int (0 : Int32)), .val (.long ((w 0) &&& ((w 0) - (1 : Int64)))), .second]) rfl hr) ?_
    show Runs p e below _ (T26.setTop (mkF m 40 #[.val (.ref o0), .val (.ref b2), .val (.int (2 : Int32)), .val (.int (0 : Int32)), .val (.long ((w 0) &&& ((w 0) - (1 : Int64)))), .second] [(.int (1 : Int32)), (.ref b2)]))
    refine Runs.by (fun _ hr => XS.iloadN X26.here hx rfl (hb hby d9_40) rfl  hr) ?_
    show Runs p e below _ (T26.setTop (mkF m 41 #[.val (.ref o0), .val (.ref b2), .val (.int (2 : Int32)), .val (.int (0 : Int32)), .val (.long ((w 0) &&& ((w 0) - (1 : Int64)))), .second] [(.int (0 : Int32)), (.int (1 : Int32)), (.ref b2)]))
    refine Runs.by (fun _ hr => XS.bipush X26.here hx rfl (hb hby d9_41) hr) ?_
    show Runs p e below _ (T26.setTop (mkF m 43 #[.val (.ref o0), .val (.ref b2), .val (.int (2 : Int32)), .val (.int (0 : Int32)), .val (.long ((w 0) &&& ((w 0) - (1 : Int64)))), .second] [(.int (64 : Int32)), (.int (0 : Int32)), (.int (1 : Int32)), (.ref b2)]))
    refine Runs.by (fun _ hr => XS.imul X26.here hx rfl (hb hby d9_43) rfl hr) ?_
    show Runs p e below _ (T26.setTop (mkF m 44 #[.val (.ref o0), .val (.ref b2), .val (.int (2 : Int32)), .val (.int (0 : Int32)), .val (.long ((w 0) &&& ((w 0) - (1 : Int64)))), .second] [(.int (0 : Int32)), (.int (1 : Int32)), (.ref b2)]))
    refine Runs.by (fun _ hr => XS.lload X26.here hx rfl (hb hby d9_44) rfl  hr) ?_
    show Runs p e below _ (T26.setTop (mkF m 46 #[.val (.ref o0), .val (.ref b2), .val (.int (2 : Int32)), .val (.int (0 : Int32)), .val (.long ((w 0) &&& ((w 0) - (1 : Int64)))), .second] [(.long ((w 0) &&& ((w 0) - (1 : Int64)))), (.int (0 : Int32)), (.int (1 : Int32)), (.ref b2)]))
    obtain ⟨_, _, ⟨T28, L28, k28, n28⟩, -, X28, ⟨Lc28, hQ28, l28, y28, z28⟩, st28⟩ := Jvm.LawKit.callS X26 hx (y := (⟨"java/lang/Long", "numberOfTrailingZeros", "(J)I"⟩ : MethodName)) hown (mvT hZ (hw _ (List.mem_of_getElem? (i := 53) rfl))) (mvT hZ (hw _ (List.mem_of_getElem? (i := 54) rfl))) (mvT hZ (hw _ (List.mem_of_getElem? (i := 43) rfl))) (mvT hZ (hw _ (List.mem_of_getElem? (i := 55) rfl))) (by decide) (backOf (W := 3) (rm10 l Z a0 hw [] ((w 0) &&& ((w 0) - (1 : Int64)))  h26 n0 (Nat.le_trans Z0 K27.1) ) hZ (hw _ (List.mem_of_getElem? (i := 55) rfl)) (hw _ (List.mem_of_getElem? (i := 43) rfl)) (by decide) (by decide)) (g := (mkF m 46 #[.val (.ref o0), .val (.ref b2), .val (.int (2 : Int32)), .val (.int (0 : Int32)), .val (.long ((w 0) &&& ((w 0) - (1 : Int64)))), .second] [(.long ((w 0) &&& ((w 0) - (1 : Int64)))), (.int (0 : Int32)), (.int (1 : Int32)), (.ref b2)])) rfl (by rw [hml]; rfl) (argsL := [(.long ((w 0) &&& ((w 0) - (1 : Int64))))]) (rest := [(.int (0 : Int32)), (.int (1 : Int32)), (.ref b2)]) (lenOf pd_1 rfl) rfl (by show 2 * 0 + _ ≤ _; exact Nat.le_of_eq rfl) (hb hby d9_46) (fun _ _ => ⟨rfl, e26, (by decide : 1 + 0 ≤ _), (by decide : 2 + 0 ≤ _)⟩)
    dsimp only [Pt.U, Pt.locs, Pt.cells, Pt.slots] at X28 l28 y28 z28 st28 hQ28
    subst l28 y28 z28
    obtain ⟨rfl, Nq28, eq28⟩ := hQ28
    have N28 := Fr.app N26 Nq28
    refine Runs.by (fun t hr => st28 t hr) ?_
    show Runs p e below _ (T28.setTop (mkF m 49 #[.val (.ref o0), .val (.ref b2), .val (.int (2 : Int32)), .val (.int (0 : Int32)), .val (.long ((w 0) &&& ((w 0) - (1 : Int64)))), .second] [(.int (own_ntz ((w 0) &&& ((w 0) - (1 : Int64))))), (.int (0 : Int32)), (.int (1 : Int32)), (.ref b2)]))
    refine Runs.by (fun _ hr => XS.iadd X28.here hx rfl (hb hby d9_49) rfl hr) ?_
    show Runs p e below _ (T28.setTop (mkF m 50 #[.val (.ref o0), .val (.ref b2), .val (.int (2 : Int32)), .val (.int (0 : Int32)), .val (.long ((w 0) &&& ((w 0) - (1 : Int64)))), .second] [(.int ((0 : Int32) + (own_ntz ((w 0) &&& ((w 0) - (1 : Int64)))))), (.int (1 : Int32)), (.ref b2)]))
    obtain ⟨cl29, Ar29, q29, S29, N29', H29⟩ := id G26
    have ix29 := own_ix (j := (1 : Int32)) (z := cc) (n := cnt 0 + 1) (by omega) (by omega)
    have hin29 : ¬ ((1 : Int32) < 0 ∨ cl29.slots.size ≤ ((1 : Int32)).toNatClampNeg) := inb_of S29 ix29.1
    obtain ⟨T29, h29, X29, e29, W29, st29⟩ := stI X28 hx hZ eq28 Ar29 (j := (1 : Int32)) hin29 (g := (mkF m 50 #[.val (.ref o0), .val (.ref b2), .val (.int (2 : Int32)), .val (.int (0 : Int32)), .val (.long ((w 0) &&& ((w 0) - (1 : Int64)))), .second] [(.int ((0 : Int32) + (own_ntz ((w 0) &&& ((w 0) - (1 : Int64)))))), (.int (1 : Int32)), (.ref b2)])) rfl rfl (hb hby d9_50)
    have G29 : Arf Z h29 b2 k2 .int cc (fun j_ => .int ((own_up (own_up (fun _ => (0 : Int32)) (cnt 0) ((0 : Int32) + (own_ntz (w 0)))) (cnt 0 + 1) ((0 : Int32) + (own_ntz ((w 0) &&& ((w 0) - (1 : Int64)))))) j_)) := (Arf.set Ar29 q29 S29 N29' H29 W29 ix29.2.1).cast (fun j_ _ => by simp only [own_up]; split <;> rfl)
    have K30 : Keep h0 h29 [] := K27.wr W29 (Or.inr sz_b2)
    have N29 := Fr.snoc X29 N28 g_b2
    refine Runs.by st29 ?_
    show Runs p e below _ (T29.setTop (mkF m 51 #[.val (.ref o0), .val (.ref b2), .val (.int (2 : Int32)), .val (.int (0 : Int32)), .val (.long ((w 0) &&& ((w 0) - (1 : Int64)))), .second] []))
    refine Runs.by (fun _ hr => XS.lload X29.here hx rfl (hb hby d9_51) rfl  hr) ?_
    show Runs p e below _ (T29.setTop (mkF m 53 #[.val (.ref o0), .val (.ref b2), .val (.int (2 : Int32)), .val (.int (0 : Int32)), .val (.long ((w 0) &&& ((w 0) - (1 : Int64)))), .second] [(.long ((w 0) &&& ((w 0) - (1 : Int64))))]))
    refine Runs.by (fun _ hr => XS.lload X29.here hx rfl (hb hby d9_53) rfl  hr) ?_
    show Runs p e below _ (T29.setTop (mkF m 55 #[.val (.ref o0), .val (.ref b2), .val (.int (2 : Int32)), .val (.int (0 : Int32)), .val (.long ((w 0) &&& ((w 0) - (1 : Int64)))), .second] [(.long ((w 0) &&& ((w 0) - (1 : Int64)))), (.long ((w 0) &&& ((w 0) - (1 : Int64))))]))
    refine Runs.by (fun _ hr => XS.lconst X29.here hx rfl (hb hby d9_55) hr) ?_
    show Runs p e below _ (T29.setTop (mkF m 56 #[.val (.ref o0), .val (.ref b2), .val (.int (2 : Int32)), .val (.int (0 : Int32)), .val (.long ((w 0) &&& ((w 0) - (1 : Int64)))), .second] [(.long (1 : Int64)), (.long ((w 0) &&& ((w 0) - (1 : Int64)))), (.long ((w 0) &&& ((w 0) - (1 : Int64))))]))
    refine Runs.by (fun _ hr => XS.lsub X29.here hx rfl (hb hby d9_56) rfl hr) ?_
    show Runs p e below _ (T29.setTop (mkF m 57 #[.val (.ref o0), .val (.ref b2), .val (.int (2 : Int32)), .val (.int (0 : Int32)), .val (.long ((w 0) &&& ((w 0) - (1 : Int64)))), .second] [(.long (((w 0) &&& ((w 0) - (1 : Int64))) - (1 : Int64))), (.long ((w 0) &&& ((w 0) - (1 : Int64))))]))
    refine Runs.by (fun _ hr => XS.land X29.here hx rfl (hb hby d9_57) rfl hr) ?_
    show Runs p e below _ (T29.setTop (mkF m 58 #[.val (.ref o0), .val (.ref b2), .val (.int (2 : Int32)), .val (.int (0 : Int32)), .val (.long ((w 0) &&& ((w 0) - (1 : Int64)))), .second] [(.long (((w 0) &&& ((w 0) - (1 : Int64))) &&& (((w 0) &&& ((w 0) - (1 : Int64))) - (1 : Int64))))]))
    refine Runs.by (fun _ hr => XS.lstore X29.here hx rfl (hb hby d9_58) rfl (l' := #[.val (.ref o0), .val (.ref b2), .val (.int (2 : Int32)), .val (.int (0 : Int32)), .val (.long (((w 0) &&& ((w 0) - (1 : Int64))) &&& (((w 0) &&& ((w 0) - (1 : Int64))) - (1 : Int64)))), .second]) rfl hr) ?_
    show Runs p e below _ (T29.setTop (mkF m 60 #[.val (.ref o0), .val (.ref b2), .val (.int (2 : Int32)), .val (.int (0 : Int32)), .val (.long (((w 0) &&& ((w 0) - (1 : Int64))) &&& (((w 0) &&& ((w 0) - (1 : Int64))) - (1 : Int64)))), .second] []))
    refine Runs.by (fun _ hr => XS.goto X29.here hx rfl (pc0 := 60) (pc' := 28) rfl (hb hby d9_60) (by decide) (by decide) hr) ?_
    show Runs p e below _ (T29.setTop (mkF m 28 #[.val (.ref o0), .val (.ref b2), .val (.int (2 : Int32)), .val (.int (0 : Int32)), .val (.long (((w 0) &&& ((w 0) - (1 : Int64))) &&& (((w 0) &&& ((w 0) - (1 : Int64))) - (1 : Int64)))), .second] []))
    refine Runs.by (fun _ hr => XS.lload X29.here hx rfl (hb hby d9_28) rfl  hr) ?_
    show Runs p e below _ (T29.setTop (mkF m 30 #[.val (.ref o0), .val (.ref b2), .val (.int (2 : Int32)), .val (.int (0 : Int32)), .val (.long (((w 0) &&& ((w 0) - (1 : Int64))) &&& (((w 0) &&& ((w 0) - (1 : Int64))) - (1 : Int64)))), .second] [(.long (((w 0) &&& ((w 0) - (1 : Int64))) &&& (((w 0) &&& ((w 0) - (1 : Int64))) - (1 : Int64))))]))
    refine Runs.by (fun _ hr => XS.lconst X29.here hx rfl (hb hby d9_30) hr) ?_
    show Runs p e below _ (T29.setTop (mkF m 31 #[.val (.ref o0), .val (.ref b2), .val (.int (2 : Int32)), .val (.int (0 : Int32)), .val (.long (((w 0) &&& ((w 0) - (1 : Int64))) &&& (((w 0) &&& ((w 0) - (1 : Int64))) - (1 : Int64)))), .second] [(.long (0 : Int64)), (.long (((w 0) &&& ((w 0) - (1 : Int64))) &&& (((w 0) &&& ((w 0) - (1 : Int64))) - (1 : Int64))))]))
    refine Runs.by (fun _ hr => XS.lcmp X29.here hx rfl (hb hby d9_31) rfl hr) ?_
    show Runs p e below _ (T29.setTop (mkF m 32 #[.val (.ref o0), .val (.ref b2), .val (.int (2 : Int32)), .val (.int (0 : Int32)), .val (.long (((w 0) &&& ((w 0) - (1 : Int64))) &&& (((w 0) &&& ((w 0) - (1 : Int64))) - (1 : Int64)))), .second] [(.int (lcmpW (((w 0) &&& ((w 0) - (1 : Int64))) &&& (((w 0) &&& ((w 0) - (1 : Int64))) - (1 : Int64))) (0 : Int64)))]))
    have hc32 : (lcmpW (((w 0) &&& ((w 0) - (1 : Int64))) &&& (((w 0) &&& ((w 0) - (1 : Int64))) - (1 : Int64))) (0 : Int64)) = (0 : Int32) := own_lc.mpr hw3
    refine Runs.by (fun _ hr => XS.ifYes X29.here hx rfl (pc0 := 32) (pc' := 63) rfl (hb hby d9_32) rfl ((if0 _ _).trans (teq hc32).1) (by decide) (by decide) hr) ?_
    show Runs p e below _ (T29.setTop (mkF m 63 #[.val (.ref o0), .val (.ref b2), .val (.int (2 : Int32)), .val (.int (0 : Int32)), .val (.long (((w 0) &&& ((w 0) - (1 : Int64))) &&& (((w 0) &&& ((w 0) - (1 : Int64))) - (1 : Int64)))), .second] []))
    refine Runs.by (fun _ hr => XS.iinc X29.here hx rfl (hb hby d9_63) rfl (l' := #[.val (.ref o0), .val (.ref b2), .val (.int (2 : Int32)), .val (.int (1 : Int32)), .val (.long (((w 0) &&& ((w 0) - (1 : Int64))) &&& (((w 0) &&& ((w 0) - (1 : Int64))) - (1 : Int64)))), .second]) rfl hr) ?_
    show Runs p e below _ (T29.setTop (mkF m 66 #[.val (.ref o0), .val (.ref b2), .val (.int (2 : Int32)), .val (.int (1 : Int32)), .val (.long (((w 0) &&& ((w 0) - (1 : Int64))) &&& (((w 0) &&& ((w 0) - (1 : Int64))) - (1 : Int64)))), .second] []))
    refine Runs.by (fun _ hr => XS.goto X29.here hx rfl (pc0 := 66) (pc' := 11) rfl (hb hby d9_66) (by decide) (by decide) hr) ?_
    have ei : (1 : Int32).toInt = 1 := by decide
    have en : (1 : Int32).toInt.toNat = 0 + 1 := by omega
    have hp2 : (2 : Int32).toInt = (cnt (1 : Int32).toInt.toNat : Int) := by rw [en, hcnt]; omega
    have hg2 : ∀ j : Nat, j < cnt (1 : Int32).toInt.toNat → (own_up (own_up (fun _ => (0 : Int32)) (cnt 0) ((0 : Int32) + (own_ntz (w 0)))) (cnt 0 + 1) ((0 : Int32) + (own_ntz ((w 0) &&& ((w 0) - (1 : Int64)))))) j = ev j := by
      intro j hj; rw [en, hcnt] at hj
      by_cases q2 : j = cnt 0 + 1
      · subst q2; rw [own_up_same, hev2]; rfl
      · rw [own_up_ne _ _ q2]
        by_cases q : j = cnt 0
        · subst q; rw [own_up_same, hev]; rfl
        · rw [own_up_ne _ _ q]; exact absurd hj (by omega)
    exact LA (z.toInt - 1).toNat (1 : Int32) (2 : Int32) (((w 0) &&& ((w 0) - (1 : Int64))) &&& (((w 0) &&& ((w 0) - (1 : Int64))) - (1 : Int64))) (own_up (own_up (fun _ => (0 : Int32)) (cnt 0) ((0 : Int32) + (own_ntz (w 0)))) (cnt 0 + 1) ((0 : Int32) + (own_ntz ((w 0) &&& ((w 0) - (1 : Int64)))))) _ _ _ X29 e29 N29 K30  (((Fw.ext E2).other W26 (Or.inl ne_o0_b2)).other W29 (Or.inl ne_o0_b2)) (((G0.ext E2).other W26 ne_wa_b2).other W29 ne_wa_b2) G29 (by omega) (by omega) hp2 hg2
def own_min (a b : Int32) : Int32 := if b < a then b else a
def own_max (a b : Int32) : Int32 := if a < b then b else a
theorem d12_0 : decode jdk_29_method_69_code 0 = .ok (.iload_n 0, 1) := by decide +kernel
theorem d12_1 : decode jdk_29_method_69_code 1 = .ok (.iload_n 1, 1) := by decide +kernel
theorem d12_2 : decode jdk_29_method_69_code 2 = .ok (.if_icmp .gt 7, 3) := by decide +kernel
theorem d12_5 : decode jdk_29_method_69_code 5 = .ok (.iload_n 0, 1) := by decide +kernel
theorem d12_6 : decode jdk_29_method_69_code 6 = .ok (.goto 4, 3) := by decide +kernel
theorem d12_9 : decode jdk_29_method_69_code 9 = .ok (.iload_n 1, 1) := by decide +kernel
theorem d12_10 : decode jdk_29_method_69_code 10 = .ok (.ireturn, 1) := by decide +kernel
theorem ef_12_10 (m : MethodId) (p0 : Int32) (p1 : Int32) : entryFrame m #[(.int p0), (.int p1)] 2 = mkF m 0 #[.val (.int p0), .val (.int p1)] [] := by first | (simp [entryFrame, mkF, argsToLocals, Value.category]; done) | rfl
def Q_rm12 (Z : State) (p0 : Int32) (p1 : Int32)  (h0 : Heap) (n0 : Nat) (v : Option Value) (h : Heap) (L : List Loc) : Prop := v = some (.int (own_min p0 p1)) ∧ Fr n0 L ∧ h = h0
set_option maxRecDepth 65536 in
set_option maxHeartbeats 40000000 in
theorem rm12 (l : Launch) (Z : State) (a0 : Array Value) (hw : ∀ d ∈ tables_1, d.before a0 Z = true) (ws : List Jvm.Cond) (p0 : Int32) (p1 : Int32)  (h0 : Heap) (n0 : Nat) (Z0 : n0 ≤ h0.size) :
    MetFree l (⟨"java/lang/Math", "min", "(II)I"⟩ : MethodName) (head1 (Jvm.Cond.code (⟨"java/lang/Math", "min", "(II)I"⟩ : MethodName) jdk_29_method_69_code 2 (some .int) :: ws) ({ frames := 0, cells := 0, slots := 0, locals := 0 } : Room)) (fun a U => a = #[(.int p0), (.int p1)] ∧ Z.Warmed39 U.vm ∧ U.heap = h0) (fun _ _ _ _ _ => True) (fun _ U o U' => ∃ v L, o = .returned v ∧ Q_rm12 Z p0 p1 h0 n0 v U'.heap L ∧ FrameEnd U o U' L ({ frames := 0, cells := 0, slots := 0, locals := 0 } : Room).cells ({ frames := 0, cells := 0, slots := 0, locals := 0 } : Room).slots) := by
  refine MetFree.of_bodySF (Jvm.Free.JP.mathPlain rfl (by decide +kernel)) hisR ?_
  intro p e s m args below meth c s₁ Bd hml0 hP hK
  obtain ⟨rfl, hZ, hh⟩ := hP
  have hx := Bd.exec
  have hby := Bd.bytes
  have hlk := BodyLoose.notSynchronized Bd
  have hrt := Bd.returns
  have hml : c.maxLocals = 2 := hml0
  have hown : s.vm.findClass "java/lang/Math" = some m.cls := findClass_of_methodNamed Bd.named
  have hnm := (name_of_methodNamed Bd.named Bd.method).1
  have X0 : Stand p l e ({ frames := 0, cells := 0, slots := 0, locals := 0 } : Room) s m #[(.int p0), (.int p1)] below meth c s₁ [] 0 0 := Stand.of_body Bd
  have e0 : s₁.heap = h0 := by rw [← hh, Bd.state]; rfl
  have N0 := Fr.nil n0
  have K0 : Keep h0 h0 [] := Keep.refl h0 _
  show Runs p e below (QE s (Q_rm12 Z p0 p1 h0 n0) ({ frames := 0, cells := 0, slots := 0, locals := 0 } : Room).cells ({ frames := 0, cells := 0, slots := 0, locals := 0 } : Room).slots) (s₁.setTop (entryFrame m #[(.int p0), (.int p1)] 2))
  rw [ef_12_10 m p0 p1]
  show Runs p e below _ (s₁.setTop (mkF m 0 #[.val (.int p0), .val (.int p1)] []))
  refine Runs.by (fun _ hr => XS.iloadN X0.here hx rfl (hb hby d12_0) rfl  hr) ?_
  show Runs p e below _ (s₁.setTop (mkF m 1 #[.val (.int p0), .val (.int p1)] [(.int p0)]))
  refine Runs.by (fun _ hr => XS.iloadN X0.here hx rfl (hb hby d12_1) rfl  hr) ?_
  show Runs p e below _ (s₁.setTop (mkF m 2 #[.val (.int p0), .val (.int p1)] [(.int p1), (.int p0)]))
  by_cases hc2 : p1 < p0
  · -- pc 2: p1 < p0
    refine Runs.by (fun _ hr => XS.icmpYes X0.here hx rfl (pc0 := 2) (pc' := 9) rfl (hb hby d12_2) rfl (tlt hc2).2.2.1 (by decide) (by decide) hr) ?_
    show Runs p e below _ (s₁.setTop (mkF m 9 #[.val (.int p0), .val (.int p1)] []))
    refine Runs.by (fun _ hr => XS.iloadN X0.here hx rfl (hb hby d12_9) rfl  hr) ?_
    show Runs p e below _ (s₁.setTop (mkF m 10 #[.val (.int p0), .val (.int p1)] [(.int p1)]))
    refine Runs.ret X0 hx hrt hlk (Or.inl ⟨rfl, by simp, _, rfl⟩) rfl (hb hby d12_10) (by decide) (by decide) ?_
    rw [e0]
    exact ⟨by simp [own_min, *], N0, rfl⟩
  · -- pc 2: not p1 < p0
    refine Runs.by (fun _ hr => XS.icmpNo X0.here hx rfl (hb hby d12_2) rfl (flt hc2).2.2.1 hr) ?_
    show Runs p e below _ (s₁.setTop (mkF m 5 #[.val (.int p0), .val (.int p1)] []))
    refine Runs.by (fun _ hr => XS.iloadN X0.here hx rfl (hb hby d12_5) rfl  hr) ?_
    show Runs p e below _ (s₁.setTop (mkF m 6 #[.val (.int p0), .val (.int p1)] [(.int p0)]))
    refine Runs.by (fun _ hr => XS.goto X0.here hx rfl (pc0 := 6) (pc' := 10) rfl (hb hby d12_6) (by decide) (by decide) hr) ?_
    show Runs p e below _ (s₁.setTop (mkF m 10 #[.val (.int p0), .val (.int p1)] [(.int p0)]))
    refine Runs.ret X0 hx hrt hlk (Or.inl ⟨rfl, by simp, _, rfl⟩) rfl (hb hby d12_10) (by decide) (by decide) ?_
    rw [e0]
    exact ⟨by simp [own_min, *], N0, rfl⟩
theorem d13_0 : decode jdk_29_method_65_code 0 = .ok (.iload_n 0, 1) := by decide +kernel
theorem d13_1 : decode jdk_29_method_65_code 1 = .ok (.iload_n 1, 1) := by decide +kernel
theorem d13_2 : decode jdk_29_method_65_code 2 = .ok (.if_icmp .lt 7, 3) := by decide +kernel
theorem d13_5 : decode jdk_29_method_65_code 5 = .ok (.iload_n 0, 1) := by decide +kernel
theorem d13_6 : decode jdk_29_method_65_code 6 = .ok (.goto 4, 3) := by decide +kernel
theorem d13_9 : decode jdk_29_method_65_code 9 = .ok (.iload_n 1, 1) := by decide +kernel
theorem d13_10 : decode jdk_29_method_65_code 10 = .ok (.ireturn, 1) := by decide +kernel
theorem ef_13_11 (m : MethodId) (p0 : Int32) (p1 : Int32) : entryFrame m #[(.int p0), (.int p1)] 2 = mkF m 0 #[.val (.int p0), .val (.int p1)] [] := by first | (simp [entryFrame, mkF, argsToLocals, Value.category]; done) | rfl
def Q_rm13 (Z : State) (p0 : Int32) (p1 : Int32)  (h0 : Heap) (n0 : Nat) (v : Option Value) (h : Heap) (L : List Loc) : Prop := v = some (.int (own_max p0 p1)) ∧ Fr n0 L ∧ h = h0
set_option maxRecDepth 65536 in
set_option maxHeartbeats 40000000 in
theorem rm13 (l : Launch) (Z : State) (a0 : Array Value) (hw : ∀ d ∈ tables_1, d.before a0 Z = true) (ws : List Jvm.Cond) (p0 : Int32) (p1 : Int32)  (h0 : Heap) (n0 : Nat) (Z0 : n0 ≤ h0.size) :
    MetFree l (⟨"java/lang/Math", "max", "(II)I"⟩ : MethodName) (head1 (Jvm.Cond.code (⟨"java/lang/Math", "max", "(II)I"⟩ : MethodName) jdk_29_method_65_code 2 (some .int) :: ws) ({ frames := 0, cells := 0, slots := 0, locals := 0 } : Room)) (fun a U => a = #[(.int p0), (.int p1)] ∧ Z.Warmed39 U.vm ∧ U.heap = h0) (fun _ _ _ _ _ => True) (fun _ U o U' => ∃ v L, o = .returned v ∧ Q_rm13 Z p0 p1 h0 n0 v U'.heap L ∧ FrameEnd U o U' L ({ frames := 0, cells := 0, slots := 0, locals := 0 } : Room).cells ({ frames := 0, cells := 0, slots := 0, locals := 0 } : Room).slots) := by
  refine MetFree.of_bodySF (Jvm.Free.JP.mathPlain rfl (by decide +kernel)) hisR ?_
  intro p e s m args below meth c s₁ Bd hml0 hP hK
  obtain ⟨rfl, hZ, hh⟩ := hP
  have hx := Bd.exec
  have hby := Bd.bytes
  have hlk := BodyLoose.notSynchronized Bd
  have hrt := Bd.returns
  have hml : c.maxLocals = 2 := hml0
  have hown : s.vm.findClass "java/lang/Math" = some m.cls := findClass_of_methodNamed Bd.named
  have hnm := (name_of_methodNamed Bd.named Bd.method).1
  have X0 : Stand p l e ({ frames := 0, cells := 0, slots := 0, locals := 0 } : Room) s m #[(.int p0), (.int p1)] below meth c s₁ [] 0 0 := Stand.of_body Bd
  have e0 : s₁.heap = h0 := by rw [← hh, Bd.state]; rfl
  have N0 := Fr.nil n0
  have K0 : Keep h0 h0 [] := Keep.refl h0 _
  show Runs p e below (QE s (Q_rm13 Z p0 p1 h0 n0) ({ frames := 0, cells := 0, slots := 0, locals := 0 } : Room).cells ({ frames := 0, cells := 0, slots := 0, locals := 0 } : Room).slots) (s₁.setTop (entryFrame m #[(.int p0), (.int p1)] 2))
  rw [ef_13_11 m p0 p1]
  show Runs p e below _ (s₁.setTop (mkF m 0 #[.val (.int p0), .val (.int p1)] []))
  refine Runs.by (fun _ hr => XS.iloadN X0.here hx rfl (hb hby d13_0) rfl  hr) ?_
  show Runs p e below _ (s₁.setTop (mkF m 1 #[.val (.int p0), .val (.int p1)] [(.int p0)]))
  refine Runs.by (fun _ hr => XS.iloadN X0.here hx rfl (hb hby d13_1) rfl  hr) ?_
  show Runs p e below _ (s₁.setTop (mkF m 2 #[.val (.int p0), .val (.int p1)] [(.int p1), (.int p0)]))
  by_cases hc2 : p0 < p1
  · -- pc 2: p0 < p1
    refine Runs.by (fun _ hr => XS.icmpYes X0.here hx rfl (pc0 := 2) (pc' := 9) rfl (hb hby d13_2) rfl (tlt hc2).1 (by decide) (by decide) hr) ?_
    show Runs p e below _ (s₁.setTop (mkF m 9 #[.val (.int p0), .val (.int p1)] []))
    refine Runs.by (fun _ hr => XS.iloadN X0.here hx rfl (hb hby d13_9) rfl  hr) ?_
    show Runs p e below _ (s₁.setTop (mkF m 10 #[.val (.int p0), .val (.int p1)] [(.int p1)]))
    refine Runs.ret X0 hx hrt hlk (Or.inl ⟨rfl, by simp, _, rfl⟩) rfl (hb hby d13_10) (by decide) (by decide) ?_
    rw [e0]
    exact ⟨by simp [own_max, *], N0, rfl⟩
  · -- pc 2: not p0 < p1
    refine Runs.by (fun _ hr => XS.icmpNo X0.here hx rfl (hb hby d13_2) rfl (flt hc2).1 hr) ?_
    show Runs p e below _ (s₁.setTop (mkF m 5 #[.val (.int p0), .val (.int p1)] []))
    refine Runs.by (fun _ hr => XS.iloadN X0.here hx rfl (hb hby d13_5) rfl  hr) ?_
    show Runs p e below _ (s₁.setTop (mkF m 6 #[.val (.int p0), .val (.int p1)] [(.int p0)]))
    refine Runs.by (fun _ hr => XS.goto X0.here hx rfl (pc0 := 6) (pc' := 10) rfl (hb hby d13_6) (by decide) (by decide) hr) ?_
    show Runs p e below _ (s₁.setTop (mkF m 10 #[.val (.int p0), .val (.int p1)] [(.int p0)]))
    refine Runs.ret X0 hx hrt hlk (Or.inl ⟨rfl, by simp, _, rfl⟩) rfl (hb hby d13_10) (by decide) (by decide) ?_
    rw [e0]
    exact ⟨by simp [own_max, *], N0, rfl⟩
theorem own_uu (x : Int32) : 2 ≤ ((2 : Int32) + (x &&& 255)).toInt ∧ ((2 : Int32) + (x &&& 255)).toInt ≤ 257 := by
  have e1 : (x &&& 255).toInt = x.toInt % 2 ^ 8 := Jvm.Kit.i32_mask x 255 (k := 8) (by decide) (by decide)
  have t : (2 : Int32).toInt = 2 := by decide
  rw [Jvm.Kit.i32_add (by omega) (by omega)]; omega
theorem own_rm (x : Int32) {m : Int32} (hm : 0 < m.toInt) : 0 ≤ ((x &&& 2147483647) % m).toInt ∧ ((x &&& 2147483647) % m).toInt < m.toInt := by
  have e1 : (x &&& 2147483647).toInt = x.toInt % 2 ^ 31 := Jvm.Kit.i32_mask x 2147483647 (k := 31) (by decide) (by decide)
  rw [Int32.toInt_mod, Int.tmod_eq_emod_of_nonneg (by omega)]
  exact ⟨Int.emod_nonneg _ (by omega), Int.emod_lt_of_pos _ hm⟩
theorem own_bb {a r u : Int32} (hu : 2 ≤ u.toInt ∧ u.toInt ≤ 257) (ha : 0 ≤ a.toInt ∧ a.toInt < u.toInt) (hr : 0 ≤ r.toInt ∧ r.toInt < u.toInt - 1) : (0 ≤ (((a + 1) + r) % u).toInt ∧ (((a + 1) + r) % u).toInt < u.toInt) ∧ (((a + 1) + r) % u).toInt ≠ a.toInt := by
  have t1 : (1 : Int32).toInt = 1 := by decide
  have e1 : (a + 1).toInt = a.toInt + 1 := by rw [Jvm.Kit.i32_add (by omega) (by omega), t1]
  have e2 : ((a + 1) + r).toInt = a.toInt + 1 + r.toInt := by rw [Jvm.Kit.i32_add (by omega) (by omega), e1]
  rw [Int32.toInt_mod, Int.tmod_eq_emod_of_nonneg (by omega), e2]
  refine ⟨⟨Int.emod_nonneg _ (by omega), Int.emod_lt_of_pos _ (by omega)⟩, ?_⟩
  by_cases q : a.toInt + 1 + r.toInt < u.toInt
  · rw [Int.emod_eq_of_lt (by omega) q]; omega
  · have : (a.toInt + 1 + r.toInt) % u.toInt = a.toInt + 1 + r.toInt - u.toInt := by
      rw [← Int.sub_emod_right]; exact Int.emod_eq_of_lt (by omega) (by omega)
    omega
theorem own_ne0 {m : Int32} (h : 0 < m.toInt) : ¬ m = 0 := fun q => by subst q; exact absurd h (by decide)
theorem own_lt {a b : Int32} {A B : Nat} (ha : a.toInt = A) (hb : b.toInt = B) : (a < b) ↔ A < B := by rw [Int32.lt_iff_toInt_lt]; omega
theorem own_eqi {a b : Int32} {A B : Nat} (ha : a.toInt = A) (hb : b.toInt = B) : (a = b) ↔ A = B := by rw [← Int32.toInt_inj]; omega
def own_em1 (a p : Int32) : Int32 := if p = a then 1 else 0
def own_em2 (a b p : Int32) : Int32 := if p = a then 1 else if p = b then 1 else 0
def own_er1 (a r : Int32) : Int32 := (if a < r then (1 : Int32) else 0) + 0
def own_er2 (a b r : Int32) : Int32 := (if a < r then (1 : Int32) else 0) + (if b < r then 1 else 0)
theorem own_L1 {a p : Int32} {A P : Nat} (ha : a.toInt = A) (hp : p.toInt = P) : (if own_mk (fun _ => 0) a (p.toInt.toNat / 64) &&& own_bit p = 0 then (0 : Int32) else 1) = own_em1 a p := by
  have e : p.toInt.toNat = P := by omega
  rw [own_mk1 ha, own_bit_eq hp, e]
  unfold own_em1
  by_cases q : P = A
  · rw [if_neg (fun h => (own_im1 A P).mp h q), if_pos ((own_eqi hp ha).mpr q)]
  · rw [if_pos ((own_im1 A P).mpr q), if_neg (fun h => q ((own_eqi hp ha).mp h))]
theorem own_L2 {a b p : Int32} {A B P : Nat} (ha : a.toInt = A) (hb : b.toInt = B) (hp : p.toInt = P) : (if own_mk (own_mk (fun _ => 0) a) b (p.toInt.toNat / 64) &&& own_bit p = 0 then (0 : Int32) else 1) = own_em2 a b p := by
  have e : p.toInt.toNat = P := by omega
  rw [own_mk2 ha hb, own_bit_eq hp, e]
  unfold own_em2
  by_cases q : P = A
  · rw [if_neg (fun h => ((own_im2 A B P).mp h).1 q), if_pos ((own_eqi hp ha).mpr q)]
  · rw [if_neg (fun h : p = a => q ((own_eqi hp ha).mp h))]
    by_cases r : P = B
    · rw [if_neg (fun h => ((own_im2 A B P).mp h).2 r), if_pos ((own_eqi hp hb).mpr r)]
    · rw [if_pos ((own_im2 A B P).mpr ⟨q, r⟩), if_neg (fun h => r ((own_eqi hp hb).mp h))]
theorem own_L3 {a r u : Int32} {A P : Nat} (hu : 2 ≤ u.toInt ∧ u.toInt ≤ 257) (ha : a.toInt = A) (hA : a.toInt < u.toInt) (hr : r.toInt = P) : (if r < own_nw u * (64 : Int32) then own_pre (own_mk (fun _ => 0) a) (r.toInt.toNat / 64) + own_bc (own_mk (fun _ => 0) a (r.toInt.toNat / 64) &&& (own_bit r - (1 : Int64))) else (1 : Int32)) = own_er1 a r := by
  have e : r.toInt.toNat = P := by omega
  have nb := own_nw_b hu
  have t64 : (64 : Int32).toInt = 64 := by decide
  have ez : (own_nw u * (64 : Int32)).toInt = (own_nw u).toInt * 64 := (Jvm.Kit.i32_mul (by rw [t64]; omega) (by rw [t64]; omega)).trans (by rw [t64])
  rw [own_mk1 ha, own_bit_eq hr, e, own_rk1]
  have k : (if a < r then (1 : Int32) else 0) = if A < P then 1 else 0 := by
    by_cases q : A < P
    · rw [if_pos q, if_pos ((own_lt ha hr).mpr q)]
    · rw [if_neg q, if_neg (fun h => q ((own_lt ha hr).mp h))]
  unfold own_er1; rw [k]
  split
  · by_cases q : A < P
    · rw [if_pos q]; rfl
    · rw [if_neg q]; rfl
  · rename_i h; rw [Int32.lt_iff_toInt_lt, ez] at h; rw [if_pos (by omega)]; rfl
theorem own_L4 {a b r u : Int32} {A B P : Nat} (hu : 2 ≤ u.toInt ∧ u.toInt ≤ 257) (ha : a.toInt = A) (hb : b.toInt = B) (hA : a.toInt < u.toInt) (hB : b.toInt < u.toInt) (hn : A ≠ B) (hr : r.toInt = P) : (if r < own_nw u * (64 : Int32) then own_pre (own_mk (own_mk (fun _ => 0) a) b) (r.toInt.toNat / 64) + own_bc (own_mk (own_mk (fun _ => 0) a) b (r.toInt.toNat / 64) &&& (own_bit r - (1 : Int64))) else (2 : Int32)) = own_er2 a b r := by
  have e : r.toInt.toNat = P := by omega
  have nb := own_nw_b hu
  have t64 : (64 : Int32).toInt = 64 := by decide
  have ez : (own_nw u * (64 : Int32)).toInt = (own_nw u).toInt * 64 := (Jvm.Kit.i32_mul (by rw [t64]; omega) (by rw [t64]; omega)).trans (by rw [t64])
  rw [own_mk2 ha hb, own_bit_eq hr, e, own_rk2 hn]
  have k : ∀ {c : Int32} {D : Nat}, c.toInt = D → (if c < r then (1 : Int32) else 0) = if D < P then 1 else 0 := fun {c D} hc => by
    by_cases q : D < P
    · rw [if_pos q, if_pos ((own_lt hc hr).mpr q)]
    · rw [if_neg q, if_neg (fun h => q ((own_lt hc hr).mp h))]
  unfold own_er2; rw [k ha, k hb]
  split
  · rfl
  · rename_i h; rw [Int32.lt_iff_toInt_lt, ez] at h; rw [if_pos (by omega), if_pos (by omega)]; rfl
theorem own_ofn {a : Int32} {A : Nat} (h : a.toInt = A) (hA : A < 1000) : Int32.ofNat A = a := Int32.toInt_inj.mp (by rw [show (Int32.ofNat A).toInt = (A : Int) from Int32.toInt_ofNat_small (by omega), h])
theorem own_A1 {a : Int32} {A : Nat} (h : a.toInt = A) (hA : A < 1000) (i : Nat) : own_spec (own_mk (fun _ => 0) a) (fun i => if A / 64 < i then 1 else 0) (fun _ => a) i := by
  have q := own_sp1 hA i
  rw [own_ofn h hA] at q; rw [own_mk1 h]; exact q
def own_c2 (A B : Nat) : Nat → Nat := fun i => (if A / 64 < i then 1 else 0) + (if B / 64 < i then 1 else 0)
theorem own_A2 {a b : Int32} {A B : Nat} (h : a.toInt = A) (hb : b.toInt = B) (hA : A < 1000) (hB : B < 1000) (hn : A ≠ B) (i : Nat) : own_spec (own_mk (own_mk (fun _ => 0) a) b) (own_c2 A B) (fun j => if j = 0 then own_min a b else own_max a b) i := by
  rw [own_mk2 h hb]
  by_cases q : A < B
  · have m1 : own_min a b = a := by unfold own_min; rw [if_neg (fun z => by have := (own_lt hb h).mp z; omega)]
    have m2 : own_max a b = b := by unfold own_max; rw [if_pos ((own_lt h hb).mpr q)]
    have s := own_sp2 q hB i
    rw [own_ofn h hA, own_ofn hb hB] at s; rw [m1, m2]; exact s
  · have m1 : own_min a b = b := by unfold own_min; rw [if_pos ((own_lt hb h).mpr (by omega))]
    have m2 : own_max a b = a := by unfold own_max; rw [if_neg (fun z => q ((own_lt h hb).mp z))]
    have s := own_sp2 (show B < A by omega) hA i
    rw [own_ofn h hA, own_ofn hb hB] at s; rw [m1, m2, own_w2c]
    have e : own_c2 A B = (fun i => (if B / 64 < i then 1 else 0) + (if A / 64 < i then 1 else 0)) := funext fun i => Nat.add_comm _ _
    rw [e]; exact s
theorem ef_0_12 (m : MethodId) (p0 : Int32) (p1 : Int32) (p2 : Int32) (p3 : Int32) (p4 : Int32) (p5 : Int32) : entryFrame m #[(.int p0), (.int p1), (.int p2), (.int p3), (.int p4), (.int p5)] maxLocals = mkF m 0 #[.val (.int p0), .val (.int p1), .val (.int p2), .val (.int p3), .val (.int p4), .val (.int p5), .unset, .unset, .unset, .unset, .unset, .unset, .unset, .unset, .unset, .unset, .unset, .unset, .unset] [] := by first | (simp [entryFrame, mkF, argsToLocals, Value.category, maxLocals]; done) | rfl
theorem pn_com_example_threshold_threshold_engine_UnitBitsMarkPinLaw : plainName "com/example/threshold/threshold/engine/UnitBitsMarkPinLaw" = true := by first | (simp [plainName, overriddenIn]; done) | decide +kernel
def Q_rm0 (Z : State) (p0 : Int32) (p1 : Int32) (p2 : Int32) (p3 : Int32) (p4 : Int32) (p5 : Int32)  (h0 : Heap) (n0 : Nat) (v : Option Value) (h : Heap) (L : List Loc) : Prop := v = some (.int 1) ∧ Fr n0 L
theorem pd_2 : parseMethodDescriptor "(I)V" = some ⟨[.int], none⟩ := by decide +kernel
theorem pd_3 : parseMethodDescriptor "(I)Z" = some ⟨[.int], some .boolean⟩ := by decide +kernel
theorem pd_4 : parseMethodDescriptor "()V" = some ⟨[], none⟩ := by decide +kernel
theorem pd_5 : parseMethodDescriptor "()[I" = some ⟨[], some (.array .int)⟩ := by decide +kernel
theorem pd_6 : parseMethodDescriptor "(II)I" = some ⟨[.int, .int], some .int⟩ := by decide +kernel
set_option maxRecDepth 65536 in
set_option maxHeartbeats 40000000 in
theorem rm0 (l : Launch) (Z : State) (a0 : Array Value) (hw : ∀ d ∈ tables_1, d.before a0 Z = true) (ws : List Jvm.Cond) (p0 : Int32) (p1 : Int32) (p2 : Int32) (p3 : Int32) (p4 : Int32) (p5 : Int32)  (h0 : Heap) (n0 : Nat) (Z0 : n0 ≤ h0.size) :
    MetFree l x (head1 (Jvm.Cond.code x code maxLocals ret :: ws) room_1) (fun a U => a = #[(.int p0), (.int p1), (.int p2), (.int p3), (.int p4), (.int p5)] ∧ Z.Warmed39 U.vm ∧ U.heap = h0) (fun _ _ _ _ _ => True) (fun _ U o U' => ∃ v L, o = .returned v ∧ Q_rm0 Z p0 p1 p2 p3 p4 p5 h0 n0 v U'.heap L ∧ FrameEnd U o U' L room_1.cells room_1.slots) := by
  refine MetFree.of_bodySF (plainFor_of_name pn_com_example_threshold_threshold_engine_UnitBitsMarkPinLaw) hisR ?_
  intro p e s m args below meth c s₁ Bd hml0 hP hK
  obtain ⟨rfl, hZ, hh⟩ := hP
  have hx := Bd.exec
  have hby := Bd.bytes
  have hlk := BodyLoose.notSynchronized Bd
  have hrt := Bd.returns
  have hml : c.maxLocals = 19 := hml0
  have hown : s.vm.findClass "com/example/threshold/threshold/engine/UnitBitsMarkPinLaw" = some m.cls := findClass_of_methodNamed Bd.named
  have hnm := (name_of_methodNamed Bd.named Bd.method).1
  have X0 : Stand p l e room_1 s m #[(.int p0), (.int p1), (.int p2), (.int p3), (.int p4), (.int p5)] below meth c s₁ [] 0 0 := Stand.of_body Bd
  have e0 : s₁.heap = h0 := by rw [← hh, Bd.state]; rfl
  have N0 := Fr.nil n0
  have K0 : Keep h0 h0 [] := Keep.refl h0 _
  show Runs p e below (QE s (Q_rm0 Z p0 p1 p2 p3 p4 p5 h0 n0) room_1.cells room_1.slots) (s₁.setTop (entryFrame m #[(.int p0), (.int p1), (.int p2), (.int p3), (.int p4), (.int p5)] maxLocals))
  rw [ef_0_12 m p0 p1 p2 p3 p4 p5]
  show Runs p e below _ (s₁.setTop (mkF m 0 #[.val (.int p0), .val (.int p1), .val (.int p2), .val (.int p3), .val (.int p4), .val (.int p5), .unset, .unset, .unset, .unset, .unset, .unset, .unset, .unset, .unset, .unset, .unset, .unset, .unset] []))
  refine Runs.by (fun _ hr => XS.iconst X0.here hx rfl (hb hby at_0) hr) ?_
  show Runs p e below _ (s₁.setTop (mkF m 1 #[.val (.int p0), .val (.int p1), .val (.int p2), .val (.int p3), .val (.int p4), .val (.int p5), .unset, .unset, .unset, .unset, .unset, .unset, .unset, .unset, .unset, .unset, .unset, .unset, .unset] [(.int (2 : Int32))]))
  refine Runs.by (fun _ hr => XS.iloadN X0.here hx rfl (hb hby at_1) rfl  hr) ?_
  show Runs p e below _ (s₁.setTop (mkF m 2 #[.val (.int p0), .val (.int p1), .val (.int p2), .val (.int p3), .val (.int p4), .val (.int p5), .unset, .unset, .unset, .unset, .unset, .unset, .unset, .unset, .unset, .unset, .unset, .unset, .unset] [(.int p0), (.int (2 : Int32))]))
  refine Runs.by (fun _ hr => XS.sipush X0.here hx rfl (hb hby at_2) hr) ?_
  show Runs p e below _ (s₁.setTop (mkF m 5 #[.val (.int p0), .val (.int p1), .val (.int p2), .val (.int p3), .val (.int p4), .val (.int p5), .unset, .unset, .unset, .unset, .unset, .unset, .unset, .unset, .unset, .unset, .unset, .unset, .unset] [(.int (255 : Int32)), (.int p0), (.int (2 : Int32))]))
  refine Runs.by (fun _ hr => XS.iand X0.here hx rfl (hb hby at_5) rfl hr) ?_
  show Runs p e below _ (s₁.setTop (mkF m 6 #[.val (.int p0), .val (.int p1), .val (.int p2), .val (.int p3), .val (.int p4), .val (.int p5), .unset, .unset, .unset, .unset, .unset, .unset, .unset, .unset, .unset, .unset, .unset, .unset, .unset] [(.int (p0 &&& (255 : Int32))), (.int (2 : Int32))]))
  refine Runs.by (fun _ hr => XS.iadd X0.here hx rfl (hb hby at_6) rfl hr) ?_
  show Runs p e below _ (s₁.setTop (mkF m 7 #[.val (.int p0), .val (.int p1), .val (.int p2), .val (.int p3), .val (.int p4), .val (.int p5), .unset, .unset, .unset, .unset, .unset, .unset, .unset, .unset, .unset, .unset, .unset, .unset, .unset] [(.int ((2 : Int32) + (p0 &&& (255 : Int32))))]))
  refine Runs.by (fun _ hr => XS.istore X0.here hx rfl (hb hby at_7) rfl (l' := #[.val (.int p0), .val (.int p1), .val (.int p2), .val (.int p3), .val (.int p4), .val (.int p5), .val (.int ((2 : Int32) + (p0 &&& (255 : Int32)))), .unset, .unset, .unset, .unset, .unset, .unset, .unset, .unset, .unset, .unset, .unset, .unset]) rfl hr) ?_
  have hu := own_uu p0
  generalize ((2 : Int32) + (p0 &&& (255 : Int32))) = uu at hu ⊢
  have t1 : (1 : Int32).toInt = 1 := by decide
  have eu1 : (uu - (1 : Int32)).toInt = uu.toInt - 1 := (Jvm.Kit.i32_sub (by omega) (by omega)).trans (by omega)
  have eu2 : (uu + (1 : Int32)).toInt = uu.toInt + 1 := (Jvm.Kit.i32_add (by omega) (by omega)).trans (by omega)
  have nb := own_nw_b hu
  have hz : 1 ≤ (own_nw uu).toInt ∧ (own_nw uu).toInt ≤ 5 := nb.2
  show Runs p e below _ (s₁.setTop (mkF m 9 #[.val (.int p0), .val (.int p1), .val (.int p2), .val (.int p3), .val (.int p4), .val (.int p5), .val (.int uu), .unset, .unset, .unset, .unset, .unset, .unset, .unset, .unset, .unset, .unset, .unset, .unset] []))
  refine Runs.by (fun _ hr => XS.iloadN X0.here hx rfl (hb hby at_9) rfl  hr) ?_
  show Runs p e below _ (s₁.setTop (mkF m 10 #[.val (.int p0), .val (.int p1), .val (.int p2), .val (.int p3), .val (.int p4), .val (.int p5), .val (.int uu), .unset, .unset, .unset, .unset, .unset, .unset, .unset, .unset, .unset, .unset, .unset, .unset] [(.int p1)]))
  refine Runs.by (fun _ hr => X0.ldcI hx hown (mvT hZ (hw _ (List.mem_of_getElem? (i := 0) rfl))) (g := (mkF m 10 #[.val (.int p0), .val (.int p1), .val (.int p2), .val (.int p3), .val (.int p4), .val (.int p5), .val (.int uu), .unset, .unset, .unset, .unset, .unset, .unset, .unset, .unset, .unset, .unset, .unset, .unset] [(.int p1)])) rfl (hb hby at_10) hr) ?_
  show Runs p e below _ (s₁.setTop (mkF m 12 #[.val (.int p0), .val (.int p1), .val (.int p2), .val (.int p3), .val (.int p4), .val (.int p5), .val (.int uu), .unset, .unset, .unset, .unset, .unset, .unset, .unset, .unset, .unset, .unset, .unset, .unset] [(.int (2147483647 : Int32)), (.int p1)]))
  refine Runs.by (fun _ hr => XS.iand X0.here hx rfl (hb hby at_12) rfl hr) ?_
  show Runs p e below _ (s₁.setTop (mkF m 13 #[.val (.int p0), .val (.int p1), .val (.int p2), .val (.int p3), .val (.int p4), .val (.int p5), .val (.int uu), .unset, .unset, .unset, .unset, .unset, .unset, .unset, .unset, .unset, .unset, .unset, .unset] [(.int (p1 &&& (2147483647 : Int32)))]))
  refine Runs.by (fun _ hr => XS.iload X0.here hx rfl (hb hby at_13) rfl  hr) ?_
  show Runs p e below _ (s₁.setTop (mkF m 15 #[.val (.int p0), .val (.int p1), .val (.int p2), .val (.int p3), .val (.int p4), .val (.int p5), .val (.int uu), .unset, .unset, .unset, .unset, .unset, .unset, .unset, .unset, .unset, .unset, .unset, .unset] [(.int uu), (.int (p1 &&& (2147483647 : Int32)))]))
  refine Runs.by (fun _ hr => iremM X0 hx rfl (hb hby at_15) rfl (own_ne0 (by omega)) hr) ?_
  show Runs p e below _ (s₁.setTop (mkF m 16 #[.val (.int p0), .val (.int p1), .val (.int p2), .val (.int p3), .val (.int p4), .val (.int p5), .val (.int uu), .unset, .unset, .unset, .unset, .unset, .unset, .unset, .unset, .unset, .unset, .unset, .unset] [(.int ((p1 &&& (2147483647 : Int32)) % uu))]))
  refine Runs.by (fun _ hr => XS.istore X0.here hx rfl (hb hby at_16) rfl (l' := #[.val (.int p0), .val (.int p1), .val (.int p2), .val (.int p3), .val (.int p4), .val (.int p5), .val (.int uu), .val (.int ((p1 &&& (2147483647 : Int32)) % uu)), .unset, .unset, .unset, .unset, .unset, .unset, .unset, .unset, .unset, .unset, .unset]) rfl hr) ?_
  have ha := own_rm p1 (m := uu) (by omega)
  generalize ((p1 &&& (2147483647 : Int32)) % uu) = aa at ha ⊢
  show Runs p e below _ (s₁.setTop (mkF m 18 #[.val (.int p0), .val (.int p1), .val (.int p2), .val (.int p3), .val (.int p4), .val (.int p5), .val (.int uu), .val (.int aa), .unset, .unset, .unset, .unset, .unset, .unset, .unset, .unset, .unset, .unset, .unset] []))
  refine Runs.by (fun _ hr => XS.iload X0.here hx rfl (hb hby at_18) rfl  hr) ?_
  show Runs p e below _ (s₁.setTop (mkF m 20 #[.val (.int p0), .val (.int p1), .val (.int p2), .val (.int p3), .val (.int p4), .val (.int p5), .val (.int uu), .val (.int aa), .unset, .unset, .unset, .unset, .unset, .unset, .unset, .unset, .unset, .unset, .unset] [(.int aa)]))
  refine Runs.by (fun _ hr => XS.iconst X0.here hx rfl (hb hby at_20) hr) ?_
  show Runs p e below _ (s₁.setTop (mkF m 21 #[.val (.int p0), .val (.int p1), .val (.int p2), .val (.int p3), .val (.int p4), .val (.int p5), .val (.int uu), .val (.int aa), .unset, .unset, .unset, .unset, .unset, .unset, .unset, .unset, .unset, .unset, .unset] [(.int (1 : Int32)), (.int aa)]))
  refine Runs.by (fun _ hr => XS.iadd X0.here hx rfl (hb hby at_21) rfl hr) ?_
  show Runs p e below _ (s₁.setTop (mkF m 22 #[.val (.int p0), .val (.int p1), .val (.int p2), .val (.int p3), .val (.int p4), .val (.int p5), .val (.int uu), .val (.int aa), .unset, .unset, .unset, .unset, .unset, .unset, .unset, .unset, .unset, .unset, .unset] [(.int (aa + (1 : Int32)))]))
  refine Runs.by (fun _ hr => XS.iloadN X0.here hx rfl (hb hby at_22) rfl  hr) ?_
  show Runs p e below _ (s₁.setTop (mkF m 23 #[.val (.int p0), .val (.int p1), .val (.int p2), .val (.int p3), .val (.int p4), .val (.int p5), .val (.int uu), .val (.int aa), .unset, .unset, .unset, .unset, .unset, .unset, .unset, .unset, .unset, .unset, .unset] [(.int p2), (.int (aa + (1 : Int32)))]))
  refine Runs.by (fun _ hr => X0.ldcI hx hown (mvT hZ (hw _ (List.mem_of_getElem? (i := 0) rfl))) (g := (mkF m 23 #[.val (.int p0), .val (.int p1), .val (.int p2), .val (.int p3), .val (.int p4), .val (.int p5), .val (.int uu), .val (.int aa), .unset, .unset, .unset, .unset, .unset, .unset, .unset, .unset, .unset, .unset, .unset] [(.int p2), (.int (aa + (1 : Int32)))])) rfl (hb hby at_23) hr) ?_
  show Runs p e below _ (s₁.setTop (mkF m 25 #[.val (.int p0), .val (.int p1), .val (.int p2), .val (.int p3), .val (.int p4), .val (.int p5), .val (.int uu), .val (.int aa), .unset, .unset, .unset, .unset, .unset, .unset, .unset, .unset, .unset, .unset, .unset] [(.int (2147483647 : Int32)), (.int p2), (.int (aa + (1 : Int32)))]))
  refine Runs.by (fun _ hr => XS.iand X0.here hx rfl (hb hby at_25) rfl hr) ?_
  show Runs p e below _ (s₁.setTop (mkF m 26 #[.val (.int p0), .val (.int p1), .val (.int p2), .val (.int p3), .val (.int p4), .val (.int p5), .val (.int uu), .val (.int aa), .unset, .unset, .unset, .unset, .unset, .unset, .unset, .unset, .unset, .unset, .unset] [(.int (p2 &&& (2147483647 : Int32))), (.int (aa + (1 : Int32)))]))
  refine Runs.by (fun _ hr => XS.iload X0.here hx rfl (hb hby at_26) rfl  hr) ?_
  show Runs p e below _ (s₁.setTop (mkF m 28 #[.val (.int p0), .val (.int p1), .val (.int p2), .val (.int p3), .val (.int p4), .val (.int p5), .val (.int uu), .val (.int aa), .unset, .unset, .unset, .unset, .unset, .unset, .unset, .unset, .unset, .unset, .unset] [(.int uu), (.int (p2 &&& (2147483647 : Int32))), (.int (aa + (1 : Int32)))]))
  refine Runs.by (fun _ hr => XS.iconst X0.here hx rfl (hb hby at_28) hr) ?_
  show Runs p e below _ (s₁.setTop (mkF m 29 #[.val (.int p0), .val (.int p1), .val (.int p2), .val (.int p3), .val (.int p4), .val (.int p5), .val (.int uu), .val (.int aa), .unset, .unset, .unset, .unset, .unset, .unset, .unset, .unset, .unset, .unset, .unset] [(.int (1 : Int32)), (.int uu), (.int (p2 &&& (2147483647 : Int32))), (.int (aa + (1 : Int32)))]))
  refine Runs.by (fun _ hr => XS.isub X0.here hx rfl (hb hby at_29) rfl hr) ?_
  show Runs p e below _ (s₁.setTop (mkF m 30 #[.val (.int p0), .val (.int p1), .val (.int p2), .val (.int p3), .val (.int p4), .val (.int p5), .val (.int uu), .val (.int aa), .unset, .unset, .unset, .unset, .unset, .unset, .unset, .unset, .unset, .unset, .unset] [(.int (uu - (1 : Int32))), (.int (p2 &&& (2147483647 : Int32))), (.int (aa + (1 : Int32)))]))
  refine Runs.by (fun _ hr => iremM X0 hx rfl (hb hby at_30) rfl (own_ne0 (by omega)) hr) ?_
  show Runs p e below _ (s₁.setTop (mkF m 31 #[.val (.int p0), .val (.int p1), .val (.int p2), .val (.int p3), .val (.int p4), .val (.int p5), .val (.int uu), .val (.int aa), .unset, .unset, .unset, .unset, .unset, .unset, .unset, .unset, .unset, .unset, .unset] [(.int ((p2 &&& (2147483647 : Int32)) % (uu - (1 : Int32)))), (.int (aa + (1 : Int32)))]))
  refine Runs.by (fun _ hr => XS.iadd X0.here hx rfl (hb hby at_31) rfl hr) ?_
  show Runs p e below _ (s₁.setTop (mkF m 32 #[.val (.int p0), .val (.int p1), .val (.int p2), .val (.int p3), .val (.int p4), .val (.int p5), .val (.int uu), .val (.int aa), .unset, .unset, .unset, .unset, .unset, .unset, .unset, .unset, .unset, .unset, .unset] [(.int ((aa + (1 : Int32)) + ((p2 &&& (2147483647 : Int32)) % (uu - (1 : Int32)))))]))
  refine Runs.by (fun _ hr => XS.iload X0.here hx rfl (hb hby at_32) rfl  hr) ?_
  show Runs p e below _ (s₁.setTop (mkF m 34 #[.val (.int p0), .val (.int p1), .val (.int p2), .val (.int p3), .val (.int p4), .val (.int p5), .val (.int uu), .val (.int aa), .unset, .unset, .unset, .unset, .unset, .unset, .unset, .unset, .unset, .unset, .unset] [(.int uu), (.int ((aa + (1 : Int32)) + ((p2 &&& (2147483647 : Int32)) % (uu - (1 : Int32)))))]))
  refine Runs.by (fun _ hr => iremM X0 hx rfl (hb hby at_34) rfl (own_ne0 (by omega)) hr) ?_
  show Runs p e below _ (s₁.setTop (mkF m 35 #[.val (.int p0), .val (.int p1), .val (.int p2), .val (.int p3), .val (.int p4), .val (.int p5), .val (.int uu), .val (.int aa), .unset, .unset, .unset, .unset, .unset, .unset, .unset, .unset, .unset, .unset, .unset] [(.int (((aa + (1 : Int32)) + ((p2 &&& (2147483647 : Int32)) % (uu - (1 : Int32)))) % uu))]))
  refine Runs.by (fun _ hr => XS.istore X0.here hx rfl (hb hby at_35) rfl (l' := #[.val (.int p0), .val (.int p1), .val (.int p2), .val (.int p3), .val (.int p4), .val (.int p5), .val (.int uu), .val (.int aa), .val (.int (((aa + (1 : Int32)) + ((p2 &&& (2147483647 : Int32)) % (uu - (1 : Int32)))) % uu)), .unset, .unset, .unset, .unset, .unset, .unset, .unset, .unset, .unset, .unset]) rfl hr) ?_
  have hbb := own_bb hu ha (own_rm p2 (m := uu - (1 : Int32)) (by omega) |> fun q => ⟨q.1, by omega⟩)
  generalize (((aa + (1 : Int32)) + ((p2 &&& (2147483647 : Int32)) % (uu - (1 : Int32)))) % uu) = bb at hbb ⊢
  obtain ⟨hbd, hnab⟩ := hbb
  show Runs p e below _ (s₁.setTop (mkF m 37 #[.val (.int p0), .val (.int p1), .val (.int p2), .val (.int p3), .val (.int p4), .val (.int p5), .val (.int uu), .val (.int aa), .val (.int bb), .unset, .unset, .unset, .unset, .unset, .unset, .unset, .unset, .unset, .unset] []))
  refine Runs.by (fun _ hr => XS.iload X0.here hx rfl (hb hby at_37) rfl  hr) ?_
  show Runs p e below _ (s₁.setTop (mkF m 39 #[.val (.int p0), .val (.int p1), .val (.int p2), .val (.int p3), .val (.int p4), .val (.int p5), .val (.int uu), .val (.int aa), .val (.int bb), .unset, .unset, .unset, .unset, .unset, .unset, .unset, .unset, .unset, .unset] [(.int p5)]))
  refine Runs.by (fun _ hr => XS.iconst X0.here hx rfl (hb hby at_39) hr) ?_
  show Runs p e below _ (s₁.setTop (mkF m 40 #[.val (.int p0), .val (.int p1), .val (.int p2), .val (.int p3), .val (.int p4), .val (.int p5), .val (.int uu), .val (.int aa), .val (.int bb), .unset, .unset, .unset, .unset, .unset, .unset, .unset, .unset, .unset, .unset] [(.int (1 : Int32)), (.int p5)]))
  refine Runs.by (fun _ hr => XS.iand X0.here hx rfl (hb hby at_40) rfl hr) ?_
  show Runs p e below _ (s₁.setTop (mkF m 41 #[.val (.int p0), .val (.int p1), .val (.int p2), .val (.int p3), .val (.int p4), .val (.int p5), .val (.int uu), .val (.int aa), .val (.int bb), .unset, .unset, .unset, .unset, .unset, .unset, .unset, .unset, .unset, .unset] [(.int (p5 &&& (1 : Int32)))]))
  by_cases hc41 : (p5 &&& (1 : Int32)) = (0 : Int32)
  · -- pc 41: (p5 &&& (1 : Int32)) = (0 : Int32)
    refine Runs.by (fun _ hr => XS.ifYes X0.here hx rfl (pc0 := 41) (pc' := 48) rfl (hb hby at_41) rfl ((if0 _ _).trans (teq hc41).1) (by decide) (by decide) hr) ?_
    show Runs p e below _ (s₁.setTop (mkF m 48 #[.val (.int p0), .val (.int p1), .val (.int p2), .val (.int p3), .val (.int p4), .val (.int p5), .val (.int uu), .val (.int aa), .val (.int bb), .unset, .unset, .unset, .unset, .unset, .unset, .unset, .unset, .unset, .unset] []))
    refine Runs.by (fun _ hr => XS.iconst X0.here hx rfl (hb hby at_48) hr) ?_
    show Runs p e below _ (s₁.setTop (mkF m 49 #[.val (.int p0), .val (.int p1), .val (.int p2), .val (.int p3), .val (.int p4), .val (.int p5), .val (.int uu), .val (.int aa), .val (.int bb), .unset, .unset, .unset, .unset, .unset, .unset, .unset, .unset, .unset, .unset] [(.int (0 : Int32))]))
    refine Runs.by (fun _ hr => XS.istore X0.here hx rfl (hb hby at_49) rfl (l' := #[.val (.int p0), .val (.int p1), .val (.int p2), .val (.int p3), .val (.int p4), .val (.int p5), .val (.int uu), .val (.int aa), .val (.int bb), .val (.int (0 : Int32)), .unset, .unset, .unset, .unset, .unset, .unset, .unset, .unset, .unset]) rfl hr) ?_
    show Runs p e below _ (s₁.setTop (mkF m 51 #[.val (.int p0), .val (.int p1), .val (.int p2), .val (.int p3), .val (.int p4), .val (.int p5), .val (.int uu), .val (.int aa), .val (.int bb), .val (.int (0 : Int32)), .unset, .unset, .unset, .unset, .unset, .unset, .unset, .unset, .unset] []))
    refine Runs.by (fun _ hr => XS.iloadN X0.here hx rfl (hb hby at_51) rfl  hr) ?_
    show Runs p e below _ (s₁.setTop (mkF m 52 #[.val (.int p0), .val (.int p1), .val (.int p2), .val (.int p3), .val (.int p4), .val (.int p5), .val (.int uu), .val (.int aa), .val (.int bb), .val (.int (0 : Int32)), .unset, .unset, .unset, .unset, .unset, .unset, .unset, .unset, .unset] [(.int p3)]))
    refine Runs.by (fun _ hr => X0.ldcI hx hown (mvT hZ (hw _ (List.mem_of_getElem? (i := 0) rfl))) (g := (mkF m 52 #[.val (.int p0), .val (.int p1), .val (.int p2), .val (.int p3), .val (.int p4), .val (.int p5), .val (.int uu), .val (.int aa), .val (.int bb), .val (.int (0 : Int32)), .unset, .unset, .unset, .unset, .unset, .unset, .unset, .unset, .unset] [(.int p3)])) rfl (hb hby at_52) hr) ?_
    show Runs p e below _ (s₁.setTop (mkF m 54 #[.val (.int p0), .val (.int p1), .val (.int p2), .val (.int p3), .val (.int p4), .val (.int p5), .val (.int uu), .val (.int aa), .val (.int bb), .val (.int (0 : Int32)), .unset, .unset, .unset, .unset, .unset, .unset, .unset, .unset, .unset] [(.int (2147483647 : Int32)), (.int p3)]))
    refine Runs.by (fun _ hr => XS.iand X0.here hx rfl (hb hby at_54) rfl hr) ?_
    show Runs p e below _ (s₁.setTop (mkF m 55 #[.val (.int p0), .val (.int p1), .val (.int p2), .val (.int p3), .val (.int p4), .val (.int p5), .val (.int uu), .val (.int aa), .val (.int bb), .val (.int (0 : Int32)), .unset, .unset, .unset, .unset, .unset, .unset, .unset, .unset, .unset] [(.int (p3 &&& (2147483647 : Int32)))]))
    refine Runs.by (fun _ hr => XS.iload X0.here hx rfl (hb hby at_55) rfl  hr) ?_
    show Runs p e below _ (s₁.setTop (mkF m 57 #[.val (.int p0), .val (.int p1), .val (.int p2), .val (.int p3), .val (.int p4), .val (.int p5), .val (.int uu), .val (.int aa), .val (.int bb), .val (.int (0 : Int32)), .unset, .unset, .unset, .unset, .unset, .unset, .unset, .unset, .unset] [(.int uu), (.int (p3 &&& (2147483647 : Int32)))]))
    refine Runs.by (fun _ hr => iremM X0 hx rfl (hb hby at_57) rfl (own_ne0 (by omega)) hr) ?_
    show Runs p e below _ (s₁.setTop (mkF m 58 #[.val (.int p0), .val (.int p1), .val (.int p2), .val (.int p3), .val (.int p4), .val (.int p5), .val (.int uu), .val (.int aa), .val (.int bb), .val (.int (0 : Int32)), .unset, .unset, .unset, .unset, .unset, .unset, .unset, .unset, .unset] [(.int ((p3 &&& (2147483647 : Int32)) % uu))]))
    refine Runs.by (fun _ hr => XS.istore X0.here hx rfl (hb hby at_58) rfl (l' := #[.val (.int p0), .val (.int p1), .val (.int p2), .val (.int p3), .val (.int p4), .val (.int p5), .val (.int uu), .val (.int aa), .val (.int bb), .val (.int (0 : Int32)), .val (.int ((p3 &&& (2147483647 : Int32)) % uu)), .unset, .unset, .unset, .unset, .unset, .unset, .unset, .unset]) rfl hr) ?_
    have hpm := own_rm p3 (m := uu) (by omega)
    generalize ((p3 &&& (2147483647 : Int32)) % uu) = pm at hpm ⊢
    show Runs p e below _ (s₁.setTop (mkF m 60 #[.val (.int p0), .val (.int p1), .val (.int p2), .val (.int p3), .val (.int p4), .val (.int p5), .val (.int uu), .val (.int aa), .val (.int bb), .val (.int (0 : Int32)), .val (.int pm), .unset, .unset, .unset, .unset, .unset, .unset, .unset, .unset] []))
    refine Runs.by (fun _ hr => XS.iload X0.here hx rfl (hb hby at_60) rfl  hr) ?_
    show Runs p e below _ (s₁.setTop (mkF m 62 #[.val (.int p0), .val (.int p1), .val (.int p2), .val (.int p3), .val (.int p4), .val (.int p5), .val (.int uu), .val (.int aa), .val (.int bb), .val (.int (0 : Int32)), .val (.int pm), .unset, .unset, .unset, .unset, .unset, .unset, .unset, .unset] [(.int p4)]))
    refine Runs.by (fun _ hr => X0.ldcI hx hown (mvT hZ (hw _ (List.mem_of_getElem? (i := 0) rfl))) (g := (mkF m 62 #[.val (.int p0), .val (.int p1), .val (.int p2), .val (.int p3), .val (.int p4), .val (.int p5), .val (.int uu), .val (.int aa), .val (.int bb), .val (.int (0 : Int32)), .val (.int pm), .unset, .unset, .unset, .unset, .unset, .unset, .unset, .unset] [(.int p4)])) rfl (hb hby at_62) hr) ?_
    show Runs p e below _ (s₁.setTop (mkF m 64 #[.val (.int p0), .val (.int p1), .val (.int p2), .val (.int p3), .val (.int p4), .val (.int p5), .val (.int uu), .val (.int aa), .val (.int bb), .val (.int (0 : Int32)), .val (.int pm), .unset, .unset, .unset, .unset, .unset, .unset, .unset, .unset] [(.int (2147483647 : Int32)), (.int p4)]))
    refine Runs.by (fun _ hr => XS.iand X0.here hx rfl (hb hby at_64) rfl hr) ?_
    show Runs p e below _ (s₁.setTop (mkF m 65 #[.val (.int p0), .val (.int p1), .val (.int p2), .val (.int p3), .val (.int p4), .val (.int p5), .val (.int uu), .val (.int aa), .val (.int bb), .val (.int (0 : Int32)), .val (.int pm), .unset, .unset, .unset, .unset, .unset, .unset, .unset, .unset] [(.int (p4 &&& (2147483647 : Int32)))]))
    refine Runs.by (fun _ hr => XS.iload X0.here hx rfl (hb hby at_65) rfl  hr) ?_
    show Runs p e below _ (s₁.setTop (mkF m 67 #[.val (.int p0), .val (.int p1), .val (.int p2), .val (.int p3), .val (.int p4), .val (.int p5), .val (.int uu), .val (.int aa), .val (.int bb), .val (.int (0 : Int32)), .val (.int pm), .unset, .unset, .unset, .unset, .unset, .unset, .unset, .unset] [(.int uu), (.int (p4 &&& (2147483647 : Int32)))]))
    refine Runs.by (fun _ hr => XS.iconst X0.here hx rfl (hb hby at_67) hr) ?_
    show Runs p e below _ (s₁.setTop (mkF m 68 #[.val (.int p0), .val (.int p1), .val (.int p2), .val (.int p3), .val (.int p4), .val (.int p5), .val (.int uu), .val (.int aa), .val (.int bb), .val (.int (0 : Int32)), .val (.int pm), .unset, .unset, .unset, .unset, .unset, .unset, .unset, .unset] [(.int (1 : Int32)), (.int uu), (.int (p4 &&& (2147483647 : Int32)))]))
    refine Runs.by (fun _ hr => XS.iadd X0.here hx rfl (hb hby at_68) rfl hr) ?_
    show Runs p e below _ (s₁.setTop (mkF m 69 #[.val (.int p0), .val (.int p1), .val (.int p2), .val (.int p3), .val (.int p4), .val (.int p5), .val (.int uu), .val (.int aa), .val (.int bb), .val (.int (0 : Int32)), .val (.int pm), .unset, .unset, .unset, .unset, .unset, .unset, .unset, .unset] [(.int (uu + (1 : Int32))), (.int (p4 &&& (2147483647 : Int32)))]))
    refine Runs.by (fun _ hr => iremM X0 hx rfl (hb hby at_69) rfl (own_ne0 (by omega)) hr) ?_
    show Runs p e below _ (s₁.setTop (mkF m 70 #[.val (.int p0), .val (.int p1), .val (.int p2), .val (.int p3), .val (.int p4), .val (.int p5), .val (.int uu), .val (.int aa), .val (.int bb), .val (.int (0 : Int32)), .val (.int pm), .unset, .unset, .unset, .unset, .unset, .unset, .unset, .unset] [(.int ((p4 &&& (2147483647 : Int32)) % (uu + (1 : Int32))))]))
    refine Runs.by (fun _ hr => XS.istore X0.here hx rfl (hb hby at_70) rfl (l' := #[.val (.int p0), .val (.int p1), .val (.int p2), .val (.int p3), .val (.int p4), .val (.int p5), .val (.int uu), .val (.int aa), .val (.int bb), .val (.int (0 : Int32)), .val (.int pm), .val (.int ((p4 &&& (2147483647 : Int32)) % (uu + (1 : Int32)))), .unset, .unset, .unset, .unset, .unset, .unset, .unset]) rfl hr) ?_
    have hpr := own_rm p4 (m := uu + (1 : Int32)) (by omega)
    generalize ((p4 &&& (2147483647 : Int32)) % (uu + (1 : Int32))) = pr at hpr ⊢
    obtain ⟨A, hA⟩ : ∃ A : Nat, aa.toInt = A := ⟨aa.toInt.toNat, by omega⟩
    obtain ⟨B, hB⟩ : ∃ B : Nat, bb.toInt = B := ⟨bb.toInt.toNat, by omega⟩
    obtain ⟨P, hP⟩ : ∃ P : Nat, pm.toInt = P := ⟨pm.toInt.toNat, by omega⟩
    obtain ⟨R', hR'⟩ : ∃ R' : Nat, pr.toInt = R' := ⟨pr.toInt.toNat, by omega⟩
    have hAB : A ≠ B := by omega
    show Runs p e below _ (s₁.setTop (mkF m 72 #[.val (.int p0), .val (.int p1), .val (.int p2), .val (.int p3), .val (.int p4), .val (.int p5), .val (.int uu), .val (.int aa), .val (.int bb), .val (.int (0 : Int32)), .val (.int pm), .val (.int pr), .unset, .unset, .unset, .unset, .unset, .unset, .unset] []))
    obtain ⟨T1, h1, X1, e1, E1, A1, D1, -, st1⟩ := newO X0 hx hZ hown (hw _ (List.mem_of_getElem? (i := 1) rfl)) (hw _ (List.mem_of_getElem? (i := 2) rfl)) (hw _ (List.mem_of_getElem? (i := 3) rfl)) e0 (g := (mkF m 72 #[.val (.int p0), .val (.int p1), .val (.int p2), .val (.int p3), .val (.int p4), .val (.int p5), .val (.int uu), .val (.int aa), .val (.int bb), .val (.int (0 : Int32)), .val (.int pm), .val (.int pr), .unset, .unset, .unset, .unset, .unset, .unset, .unset] [])) rfl (hb hby at_72) (by decide) (by decide)
    obtain ⟨b1, gz1⟩ : ∃ z, z = h0.size := ⟨_, rfl⟩
    rw [← gz1] at A1 D1 st1
    have g_b1 : n0 ≤ b1 := Nat.le_trans (Nat.le_trans Z0 K0.1) (Nat.le_of_eq gz1.symm)
    have sz_b1 : h0.size ≤ b1 := Nat.le_trans K0.1 (Nat.le_of_eq gz1.symm)
    have K2 : Keep h0 h1 [] := K0.ext E1
    have F_words_b1 : Fld Z h1 b1 "com/example/threshold/threshold/engine/UnitBits" "words" "[J" .null := D1 (Or.inr (hw _ (List.mem_of_getElem? (i := 15) rfl))) (ty := (.array .long)) (by decide)
    have F_count_b1 : Fld Z h1 b1 "com/example/threshold/threshold/engine/UnitBits" "count" "I" (.int (0 : Int32)) := D1 (Or.inl (hw _ (List.mem_of_getElem? (i := 22) rfl))) (ty := .int) (by decide)
    have F_before_b1 : Fld Z h1 b1 "com/example/threshold/threshold/engine/UnitBits" "before" "[I" .null := D1 (Or.inl (hw _ (List.mem_of_getElem? (i := 35) rfl))) (ty := (.array .int)) (by decide)
    refine Runs.by st1 ?_
    show Runs p e below _ (T1.setTop (mkF m 75 #[.val (.int p0), .val (.int p1), .val (.int p2), .val (.int p3), .val (.int p4), .val (.int p5), .val (.int uu), .val (.int aa), .val (.int bb), .val (.int (0 : Int32)), .val (.int pm), .val (.int pr), .unset, .unset, .unset, .unset, .unset, .unset, .unset] [(.ref b1)]))
    refine Runs.by (fun _ hr => XS.dup X1.here hx rfl (hb hby at_75) rfl rfl hr) ?_
    show Runs p e below _ (T1.setTop (mkF m 76 #[.val (.int p0), .val (.int p1), .val (.int p2), .val (.int p3), .val (.int p4), .val (.int p5), .val (.int uu), .val (.int aa), .val (.int bb), .val (.int (0 : Int32)), .val (.int pm), .val (.int pr), .unset, .unset, .unset, .unset, .unset, .unset, .unset] [(.ref b1), (.ref b1)]))
    refine Runs.by (fun _ hr => XS.iload X1.here hx rfl (hb hby at_76) rfl  hr) ?_
    show Runs p e below _ (T1.setTop (mkF m 78 #[.val (.int p0), .val (.int p1), .val (.int p2), .val (.int p3), .val (.int p4), .val (.int p5), .val (.int uu), .val (.int aa), .val (.int bb), .val (.int (0 : Int32)), .val (.int pm), .val (.int pr), .unset, .unset, .unset, .unset, .unset, .unset, .unset] [(.int uu), (.ref b1), (.ref b1)]))
    obtain ⟨_, _, ⟨T3, L3, k3, n3⟩, -, X3, ⟨Lc3, hQ3, l3, y3, z3⟩, st3⟩ := X1.specialBack hx (y := (⟨"com/example/threshold/threshold/engine/UnitBits", "<init>", "(I)V"⟩ : MethodName)) rfl hown (mvT hZ (hw _ (List.mem_of_getElem? (i := 4) rfl))) (mvT hZ (hw _ (List.mem_of_getElem? (i := 5) rfl))) (mvT hZ (hw _ (List.mem_of_getElem? (i := 6) rfl))) (by decide) (backOf (W := 1) (rm1 l Z a0 hw [] b1 uu  h1 n0 (Nat.le_trans Z0 K2.1) A1 F_words_b1 F_count_b1 F_before_b1 g_b1 hu) hZ (hw _ (List.mem_of_getElem? (i := 6) rfl)) (hw _ (List.mem_of_getElem? (i := 3) rfl)) (by decide) (by decide)) (g := (mkF m 78 #[.val (.int p0), .val (.int p1), .val (.int p2), .val (.int p3), .val (.int p4), .val (.int p5), .val (.int uu), .val (.int aa), .val (.int bb), .val (.int (0 : Int32)), .val (.int pm), .val (.int pr), .unset, .unset, .unset, .unset, .unset, .unset, .unset] [(.int uu), (.ref b1), (.ref b1)])) rfl (by rw [hml]; rfl) (Steps.refl _) (a := b1) (argsL := [(.int uu)]) (rest := [(.ref b1)]) (lenOf pd_2 rfl) rfl (by show 2 * 0 + _ ≤ _; exact Nat.le_of_eq rfl) (hb hby at_78) (fun _ _ => ⟨rfl, e1, (by decide : 1 + 1 ≤ _), (by decide : 3 + 5 ≤ _)⟩)
    dsimp only [Pt.U, Pt.locs, Pt.cells, Pt.slots] at X3 l3 y3 z3 st3 hQ3
    subst l3 y3 z3
    obtain ⟨rfl, Nq3, Kq3, f3_0, f3_1, f3_2, y3, ky3, g_y3, szq_y3, f3_3, f3_4⟩ := hQ3
    have N3 := Fr.app N0 Nq3
    have ne_b1_y3 : b1 ≠ y3 := Nat.ne_of_lt (Nat.lt_of_lt_of_le A1.lt szq_y3)
    have sz_y3 : h0.size ≤ y3 := Nat.le_trans K2.1 szq_y3
    have K4 : Keep h0 T3.heap [] := Keep.trans (ws := []) K2 Kq3 (allS (Or.inr sz_b1) all0)
    refine Runs.by (fun _ hr => st3.trans hr) ?_
    show Runs p e below _ (T3.setTop (mkF m 81 #[.val (.int p0), .val (.int p1), .val (.int p2), .val (.int p3), .val (.int p4), .val (.int p5), .val (.int uu), .val (.int aa), .val (.int bb), .val (.int (0 : Int32)), .val (.int pm), .val (.int pr), .unset, .unset, .unset, .unset, .unset, .unset, .unset] [(.ref b1)]))
    refine Runs.by (fun _ hr => XS.astore X3.here hx rfl (hb hby at_81) rfl rfl (l' := #[.val (.int p0), .val (.int p1), .val (.int p2), .val (.int p3), .val (.int p4), .val (.int p5), .val (.int uu), .val (.int aa), .val (.int bb), .val (.int (0 : Int32)), .val (.int pm), .val (.int pr), .val (.ref b1), .unset, .unset, .unset, .unset, .unset, .unset]) rfl hr) ?_
    show Runs p e below _ (T3.setTop (mkF m 83 #[.val (.int p0), .val (.int p1), .val (.int p2), .val (.int p3), .val (.int p4), .val (.int p5), .val (.int uu), .val (.int aa), .val (.int bb), .val (.int (0 : Int32)), .val (.int pm), .val (.int pr), .val (.ref b1), .unset, .unset, .unset, .unset, .unset, .unset] []))
    refine Runs.by (fun _ hr => XS.aload X3.here hx rfl (hb hby at_83) rfl rfl hr) ?_
    show Runs p e below _ (T3.setTop (mkF m 85 #[.val (.int p0), .val (.int p1), .val (.int p2), .val (.int p3), .val (.int p4), .val (.int p5), .val (.int uu), .val (.int aa), .val (.int bb), .val (.int (0 : Int32)), .val (.int pm), .val (.int pr), .val (.ref b1), .unset, .unset, .unset, .unset, .unset, .unset] [(.ref b1)]))
    refine Runs.by (fun _ hr => XS.iload X3.here hx rfl (hb hby at_85) rfl  hr) ?_
    show Runs p e below _ (T3.setTop (mkF m 87 #[.val (.int p0), .val (.int p1), .val (.int p2), .val (.int p3), .val (.int p4), .val (.int p5), .val (.int uu), .val (.int aa), .val (.int bb), .val (.int (0 : Int32)), .val (.int pm), .val (.int pr), .val (.ref b1), .unset, .unset, .unset, .unset, .unset, .unset] [(.int aa), (.ref b1)]))
    obtain ⟨cq5, kq5, q5a, q5b, q5c⟩ := isOf hZ rfl f3_0
    obtain ⟨_, _, ⟨T5, L5, k5, n5⟩, -, X5, ⟨Lc5, hQ5, l5, y5, z5⟩, st5⟩ := X3.virtualBack hx (y := (⟨"com/example/threshold/threshold/engine/UnitBits", "mark", "(I)V"⟩ : MethodName)) (z := (⟨"com/example/threshold/threshold/engine/UnitBits", "mark", "(I)V"⟩ : MethodName)) hown (mvT hZ (hw _ (List.mem_of_getElem? (i := 16) rfl))) (mvT hZ (hw _ (List.mem_of_getElem? (i := 17) rfl))) (notFace_of_selects (args := #[]) (mvT hZ (hw _ (List.mem_of_getElem? (i := 19) rfl)))) (mvT hZ (hw _ (List.mem_of_getElem? (i := 19) rfl))) (mvT hZ (hw _ (List.mem_of_getElem? (i := 18) rfl))) (by decide) (backOf (W := 0) (rm4 l Z a0 hw [] b1 aa y3 ky3 (own_nw uu) (fun _ => (0 : Int64)) (0 : Int32) .null T3.heap n0 (Nat.le_trans Z0 K4.1) f3_0 f3_3 f3_1 f3_2 f3_4 (Ne.symm ne_b1_y3) g_y3 g_b1 (by omega)) hZ (hw _ (List.mem_of_getElem? (i := 20) rfl)) (hw _ (List.mem_of_getElem? (i := 3) rfl)) (by decide) (by decide)) q5a q5c (g := (mkF m 87 #[.val (.int p0), .val (.int p1), .val (.int p2), .val (.int p3), .val (.int p4), .val (.int p5), .val (.int uu), .val (.int aa), .val (.int bb), .val (.int (0 : Int32)), .val (.int pm), .val (.int pr), .val (.ref b1), .unset, .unset, .unset, .unset, .unset, .unset] [(.int aa), (.ref b1)])) rfl (by rw [hml]; rfl) (Steps.refl _) (argsL := [(.int aa)]) (rest := []) (lenOf pd_2 rfl) rfl (by show 2 * 0 + _ ≤ _; exact Nat.le_of_eq rfl) (hb hby at_87) (fun _ _ => ⟨rfl, rfl, (by decide : 2 + 0 ≤ _), (by decide : 8 + 0 ≤ _)⟩)
    dsimp only [Pt.U, Pt.locs, Pt.cells, Pt.slots] at X5 l5 y5 z5 st5 hQ5
    subst l5 y5 z5
    obtain ⟨rfl, Nq5, Kq5, f5_0, f5_1, f5_2, f5_3, f5_4⟩ := hQ5
    have N5 := Fr.app N3 Nq5
    have K6 : Keep h0 T5.heap [] := Keep.trans (ws := []) K4 Kq5 (allS (Or.inr sz_y3) (allS (Or.inr sz_b1) all0))
    refine Runs.by (fun _ hr => st5.trans hr) ?_
    show Runs p e below _ (T5.setTop (mkF m 90 #[.val (.int p0), .val (.int p1), .val (.int p2), .val (.int p3), .val (.int p4), .val (.int p5), .val (.int uu), .val (.int aa), .val (.int bb), .val (.int (0 : Int32)), .val (.int pm), .val (.int pr), .val (.ref b1), .unset, .unset, .unset, .unset, .unset, .unset] []))
    refine Runs.by (fun _ hr => XS.iload X5.here hx rfl (hb hby at_90) rfl  hr) ?_
    show Runs p e below _ (T5.setTop (mkF m 92 #[.val (.int p0), .val (.int p1), .val (.int p2), .val (.int p3), .val (.int p4), .val (.int p5), .val (.int uu), .val (.int aa), .val (.int bb), .val (.int (0 : Int32)), .val (.int pm), .val (.int pr), .val (.ref b1), .unset, .unset, .unset, .unset, .unset, .unset] [(.int (0 : Int32))]))
    have hc92 : (0 : Int32) = (0 : Int32) := (by decide)
    refine Runs.by (fun _ hr => XS.ifYes X5.here hx rfl (pc0 := 92) (pc' := 102) rfl (hb hby at_92) rfl ((if0 _ _).trans (teq hc92).1) (by decide) (by decide) hr) ?_
    have J128 : ∀  (TJ7 : State) (lJ7 : List Loc) (XJ7 : Stand p l e room_1 s m #[(.int p0), (.int p1), (.int p2), (.int p3), (.int p4), (.int p5)] below meth c TJ7 lJ7 2 8) (eJ7 : TJ7.heap = T5.heap) (NJ7 : Fr n0 lJ7), Runs p e below (QE s (Q_rm0 Z p0 p1 p2 p3 p4 p5 h0 n0) room_1.cells room_1.slots) (TJ7.setTop (mkF m 128 #[.val (.int p0), .val (.int p1), .val (.int p2), .val (.int p3), .val (.int p4), .val (.int p5), .val (.int uu), .val (.int aa), .val (.int bb), .val (.int (0 : Int32)), .val (.int pm), .val (.int pr), .val (.ref b1), .val (.int (own_em1 aa pm)), .unset, .unset, .unset, .unset, .unset] [])) := by
      intro  TJ7 lJ7 XJ7 eJ7 NJ7 
      show Runs p e below _ (TJ7.setTop (mkF m 128 #[.val (.int p0), .val (.int p1), .val (.int p2), .val (.int p3), .val (.int p4), .val (.int p5), .val (.int uu), .val (.int aa), .val (.int bb), .val (.int (0 : Int32)), .val (.int pm), .val (.int pr), .val (.ref b1), .val (.int (own_em1 aa pm)), .unset, .unset, .unset, .unset, .unset] []))
      refine Runs.by (fun _ hr => XS.aload XJ7.here hx rfl (hb hby at_128) rfl rfl hr) ?_
      show Runs p e below _ (TJ7.setTop (mkF m 130 #[.val (.int p0), .val (.int p1), .val (.int p2), .val (.int p3), .val (.int p4), .val (.int p5), .val (.int uu), .val (.int aa), .val (.int bb), .val (.int (0 : Int32)), .val (.int pm), .val (.int pr), .val (.ref b1), .val (.int (own_em1 aa pm)), .unset, .unset, .unset, .unset, .unset] [(.ref b1)]))
      refine Runs.by (fun _ hr => XS.iload XJ7.here hx rfl (hb hby at_130) rfl  hr) ?_
      show Runs p e below _ (TJ7.setTop (mkF m 132 #[.val (.int p0), .val (.int p1), .val (.int p2), .val (.int p3), .val (.int p4), .val (.int p5), .val (.int uu), .val (.int aa), .val (.int bb), .val (.int (0 : Int32)), .val (.int pm), .val (.int pr), .val (.ref b1), .val (.int (own_em1 aa pm)), .unset, .unset, .unset, .unset, .unset] [(.int pm), (.ref b1)]))
      obtain ⟨cq8, kq8, q8a, q8b, q8c⟩ := isOf hZ eJ7 f5_0
      obtain ⟨_, _, ⟨T8, L8, k8, n8⟩, -, X8, ⟨Lc8, hQ8, l8, y8, z8⟩, st8⟩ := XJ7.virtualBack hx (y := (⟨"com/example/threshold/threshold/engine/UnitBits", "isMarked", "(I)Z"⟩ : MethodName)) (z := (⟨"com/example/threshold/threshold/engine/UnitBits", "isMarked", "(I)Z"⟩ : MethodName)) hown (mvT hZ (hw _ (List.mem_of_getElem? (i := 23) rfl))) (mvT hZ (hw _ (List.mem_of_getElem? (i := 24) rfl))) (notFace_of_selects (args := #[]) (mvT hZ (hw _ (List.mem_of_getElem? (i := 26) rfl)))) (mvT hZ (hw _ (List.mem_of_getElem? (i := 26) rfl))) (mvT hZ (hw _ (List.mem_of_getElem? (i := 25) rfl))) (by decide) (backOf (W := 0) (rm5 l Z a0 hw [] b1 pm y3 ky3 (own_nw uu) (own_mk (fun _ => (0 : Int64)) aa) T5.heap n0 (Nat.le_trans Z0 K6.1) f5_1 f5_4 (by omega)) hZ (hw _ (List.mem_of_getElem? (i := 27) rfl)) (hw _ (List.mem_of_getElem? (i := 3) rfl)) (by decide) (by decide)) q8a q8c (g := (mkF m 132 #[.val (.int p0), .val (.int p1), .val (.int p2), .val (.int p3), .val (.int p4), .val (.int p5), .val (.int uu), .val (.int aa), .val (.int bb), .val (.int (0 : Int32)), .val (.int pm), .val (.int pr), .val (.ref b1), .val (.int (own_em1 aa pm)), .unset, .unset, .unset, .unset, .unset] [(.int pm), (.ref b1)])) rfl (by rw [hml]; rfl) (Steps.refl _) (argsL := [(.int pm)]) (rest := []) (lenOf pd_3 rfl) rfl (by show 2 * 0 + _ ≤ _; exact Nat.le_of_eq rfl) (hb hby at_132) (fun _ _ => ⟨rfl, eJ7, (by decide : 2 + 0 ≤ _), (by decide : 8 + 0 ≤ _)⟩)
      dsimp only [Pt.U, Pt.locs, Pt.cells, Pt.slots] at X8 l8 y8 z8 st8 hQ8
      subst l8 y8 z8
      obtain ⟨rfl, Nq8, eq8⟩ := hQ8
      have N8 := Fr.app NJ7 Nq8
      refine Runs.by (fun _ hr => st8.trans hr) ?_
      show Runs p e below _ (T8.setTop (mkF m 135 #[.val (.int p0), .val (.int p1), .val (.int p2), .val (.int p3), .val (.int p4), .val (.int p5), .val (.int uu), .val (.int aa), .val (.int bb), .val (.int (0 : Int32)), .val (.int pm), .val (.int pr), .val (.ref b1), .val (.int (own_em1 aa pm)), .unset, .unset, .unset, .unset, .unset] [(.int (if (own_mk (fun _ => (0 : Int64)) aa) (pm.toInt.toNat / 64) &&& own_bit pm = 0 then 0 else 1))]))
      refine Runs.by (fun _ hr => XS.iload X8.here hx rfl (hb hby at_135) rfl  hr) ?_
      show Runs p e below _ (T8.setTop (mkF m 137 #[.val (.int p0), .val (.int p1), .val (.int p2), .val (.int p3), .val (.int p4), .val (.int p5), .val (.int uu), .val (.int aa), .val (.int bb), .val (.int (0 : Int32)), .val (.int pm), .val (.int pr), .val (.ref b1), .val (.int (own_em1 aa pm)), .unset, .unset, .unset, .unset, .unset] [(.int (own_em1 aa pm)), (.int (if (own_mk (fun _ => (0 : Int64)) aa) (pm.toInt.toNat / 64) &&& own_bit pm = 0 then 0 else 1))]))
      have hc137 : (if (own_mk (fun _ => (0 : Int64)) aa) (pm.toInt.toNat / 64) &&& own_bit pm = 0 then 0 else 1) = (own_em1 aa pm) := own_L1 hA hP
      refine Runs.by (fun _ hr => XS.icmpNo X8.here hx rfl (hb hby at_137) rfl (teq hc137).2 hr) ?_
      show Runs p e below _ (T8.setTop (mkF m 140 #[.val (.int p0), .val (.int p1), .val (.int p2), .val (.int p3), .val (.int p4), .val (.int p5), .val (.int uu), .val (.int aa), .val (.int bb), .val (.int (0 : Int32)), .val (.int pm), .val (.int pr), .val (.ref b1), .val (.int (own_em1 aa pm)), .unset, .unset, .unset, .unset, .unset] []))
      refine Runs.by (fun _ hr => XS.iconst X8.here hx rfl (hb hby at_140) hr) ?_
      show Runs p e below _ (T8.setTop (mkF m 141 #[.val (.int p0), .val (.int p1), .val (.int p2), .val (.int p3), .val (.int p4), .val (.int p5), .val (.int uu), .val (.int aa), .val (.int bb), .val (.int (0 : Int32)), .val (.int pm), .val (.int pr), .val (.ref b1), .val (.int (own_em1 aa pm)), .unset, .unset, .unset, .unset, .unset] [(.int (1 : Int32))]))
      refine Runs.by (fun _ hr => XS.goto X8.here hx rfl (pc0 := 141) (pc' := 145) rfl (hb hby at_141) (by decide) (by decide) hr) ?_
      show Runs p e below _ (T8.setTop (mkF m 145 #[.val (.int p0), .val (.int p1), .val (.int p2), .val (.int p3), .val (.int p4), .val (.int p5), .val (.int uu), .val (.int aa), .val (.int bb), .val (.int (0 : Int32)), .val (.int pm), .val (.int pr), .val (.ref b1), .val (.int (own_em1 aa pm)), .unset, .unset, .unset, .unset, .unset] [(.int (1 : Int32))]))
      refine Runs.by (fun _ hr => XS.istore X8.here hx rfl (hb hby at_145) rfl (l' := #[.val (.int p0), .val (.int p1), .val (.int p2), .val (.int p3), .val (.int p4), .val (.int p5), .val (.int uu), .val (.int aa), .val (.int bb), .val (.int (0 : Int32)), .val (.int pm), .val (.int pr), .val (.ref b1), .val (.int (own_em1 aa pm)), .val (.int (1 : Int32)), .unset, .unset, .unset, .unset]) rfl hr) ?_
      show Runs p e below _ (T8.setTop (mkF m 147 #[.val (.int p0), .val (.int p1), .val (.int p2), .val (.int p3), .val (.int p4), .val (.int p5), .val (.int uu), .val (.int aa), .val (.int bb), .val (.int (0 : Int32)), .val (.int pm), .val (.int pr), .val (.ref b1), .val (.int (own_em1 aa pm)), .val (.int (1 : Int32)), .unset, .unset, .unset, .unset] []))
      refine Runs.by (fun _ hr => XS.aload X8.here hx rfl (hb hby at_147) rfl rfl hr) ?_
      show Runs p e below _ (T8.setTop (mkF m 149 #[.val (.int p0), .val (.int p1), .val (.int p2), .val (.int p3), .val (.int p4), .val (.int p5), .val (.int uu), .val (.int aa), .val (.int bb), .val (.int (0 : Int32)), .val (.int pm), .val (.int pr), .val (.ref b1), .val (.int (own_em1 aa pm)), .val (.int (1 : Int32)), .unset, .unset, .unset, .unset] [(.ref b1)]))
      obtain ⟨cq9, kq9, q9a, q9b, q9c⟩ := isOf hZ eq8 f5_0
      obtain ⟨_, _, ⟨T9, L9, k9, n9⟩, -, X9, ⟨Lc9, hQ9, l9, y9, z9⟩, st9⟩ := X8.virtualBack hx (y := (⟨"com/example/threshold/threshold/engine/UnitBits", "countRanks", "()V"⟩ : MethodName)) (z := (⟨"com/example/threshold/threshold/engine/UnitBits", "countRanks", "()V"⟩ : MethodName)) hown (mvT hZ (hw _ (List.mem_of_getElem? (i := 28) rfl))) (mvT hZ (hw _ (List.mem_of_getElem? (i := 29) rfl))) (notFace_of_selects (args := #[]) (mvT hZ (hw _ (List.mem_of_getElem? (i := 31) rfl)))) (mvT hZ (hw _ (List.mem_of_getElem? (i := 31) rfl))) (mvT hZ (hw _ (List.mem_of_getElem? (i := 30) rfl))) (by decide) (backOf (W := 0) (rm6 l Z a0 hw [] b1 y3 ky3 (own_nw uu) (own_mk (fun _ => (0 : Int64)) aa) (1 : Int32) T5.heap n0 (Nat.le_trans Z0 K6.1) f5_0 f5_1 f5_2 f5_3 f5_4 (Ne.symm ne_b1_y3) g_b1 hz) hZ (hw _ (List.mem_of_getElem? (i := 32) rfl)) (hw _ (List.mem_of_getElem? (i := 3) rfl)) (by decide) (by decide)) q9a q9c (g := (mkF m 149 #[.val (.int p0), .val (.int p1), .val (.int p2), .val (.int p3), .val (.int p4), .val (.int p5), .val (.int uu), .val (.int aa), .val (.int bb), .val (.int (0 : Int32)), .val (.int pm), .val (.int pr), .val (.ref b1), .val (.int (own_em1 aa pm)), .val (.int (1 : Int32)), .unset, .unset, .unset, .unset] [(.ref b1)])) rfl (by rw [hml]; rfl) (Steps.refl _) (argsL := []) (rest := []) (lenOf pd_4 rfl) rfl (by show 2 * 0 + _ ≤ _; exact Nat.le_of_eq rfl) (hb hby at_149) (fun _ _ => ⟨rfl, eq8, (by decide : 2 + 1 ≤ _), (by decide : 8 + 5 ≤ _)⟩)
      dsimp only [Pt.U, Pt.locs, Pt.cells, Pt.slots] at X9 l9 y9 z9 st9 hQ9
      subst l9 y9 z9
      obtain ⟨rfl, Nq9, Kq9, f9_0, f9_1, f9_2, y9, ky9, g_y9, szq_y9, f9_3, f9_4⟩ := hQ9
      have N9 := Fr.app N8 Nq9
      have ne_b1_y9 : b1 ≠ y9 := Nat.ne_of_lt (Nat.lt_of_lt_of_le f5_0.lt szq_y9)
      have ne_y3_y9 : y3 ≠ y9 := Nat.ne_of_lt (Nat.lt_of_lt_of_le f5_4.lt szq_y9)
      have sz_y9 : h0.size ≤ y9 := Nat.le_trans K6.1 szq_y9
      have K10 : Keep h0 T9.heap [] := Keep.trans (ws := []) K6 Kq9 (allS (Or.inr sz_b1) all0)
      refine Runs.by (fun _ hr => st9.trans hr) ?_
      have J184 : ∀  (TJ11 : State) (lJ11 : List Loc) (XJ11 : Stand p l e room_1 s m #[(.int p0), (.int p1), (.int p2), (.int p3), (.int p4), (.int p5)] below meth c TJ11 lJ11 3 13) (eJ11 : TJ11.heap = T9.heap) (NJ11 : Fr n0 lJ11), Runs p e below (QE s (Q_rm0 Z p0 p1 p2 p3 p4 p5 h0 n0) room_1.cells room_1.slots) (TJ11.setTop (mkF m 184 #[.val (.int p0), .val (.int p1), .val (.int p2), .val (.int p3), .val (.int p4), .val (.int p5), .val (.int uu), .val (.int aa), .val (.int bb), .val (.int (0 : Int32)), .val (.int pm), .val (.int pr), .val (.ref b1), .val (.int (own_em1 aa pm)), .val (.int (1 : Int32)), .val (.int (own_er1 aa pr)), .unset, .unset, .unset] [])) := by
        intro  TJ11 lJ11 XJ11 eJ11 NJ11 
        show Runs p e below _ (TJ11.setTop (mkF m 184 #[.val (.int p0), .val (.int p1), .val (.int p2), .val (.int p3), .val (.int p4), .val (.int p5), .val (.int uu), .val (.int aa), .val (.int bb), .val (.int (0 : Int32)), .val (.int pm), .val (.int pr), .val (.ref b1), .val (.int (own_em1 aa pm)), .val (.int (1 : Int32)), .val (.int (own_er1 aa pr)), .unset, .unset, .unset] []))
        refine Runs.by (fun _ hr => XS.aload XJ11.here hx rfl (hb hby at_184) rfl rfl hr) ?_
        show Runs p e below _ (TJ11.setTop (mkF m 186 #[.val (.int p0), .val (.int p1), .val (.int p2), .val (.int p3), .val (.int p4), .val (.int p5), .val (.int uu), .val (.int aa), .val (.int bb), .val (.int (0 : Int32)), .val (.int pm), .val (.int pr), .val (.ref b1), .val (.int (own_em1 aa pm)), .val (.int (1 : Int32)), .val (.int (own_er1 aa pr)), .unset, .unset, .unset] [(.ref b1)]))
        refine Runs.by (fun _ hr => XS.iload XJ11.here hx rfl (hb hby at_186) rfl  hr) ?_
        show Runs p e below _ (TJ11.setTop (mkF m 188 #[.val (.int p0), .val (.int p1), .val (.int p2), .val (.int p3), .val (.int p4), .val (.int p5), .val (.int uu), .val (.int aa), .val (.int bb), .val (.int (0 : Int32)), .val (.int pm), .val (.int pr), .val (.ref b1), .val (.int (own_em1 aa pm)), .val (.int (1 : Int32)), .val (.int (own_er1 aa pr)), .unset, .unset, .unset] [(.int pr), (.ref b1)]))
        obtain ⟨cq12, kq12, q12a, q12b, q12c⟩ := isOf hZ eJ11 f9_0
        obtain ⟨_, _, ⟨T12, L12, k12, n12⟩, -, X12, ⟨Lc12, hQ12, l12, y12, z12⟩, st12⟩ := XJ11.virtualBack hx (y := (⟨"com/example/threshold/threshold/engine/UnitBits", "rank", "(I)I"⟩ : MethodName)) (z := (⟨"com/example/threshold/threshold/engine/UnitBits", "rank", "(I)I"⟩ : MethodName)) hown (mvT hZ (hw _ (List.mem_of_getElem? (i := 36) rfl))) (mvT hZ (hw _ (List.mem_of_getElem? (i := 37) rfl))) (notFace_of_selects (args := #[]) (mvT hZ (hw _ (List.mem_of_getElem? (i := 39) rfl)))) (mvT hZ (hw _ (List.mem_of_getElem? (i := 39) rfl))) (mvT hZ (hw _ (List.mem_of_getElem? (i := 38) rfl))) (by decide) (backOf (W := 0) (rm7 l Z a0 hw [] b1 pr y3 ky3 (own_nw uu) (own_mk (fun _ => (0 : Int64)) aa) (1 : Int32) y9 ky9 (own_pre (own_mk (fun _ => (0 : Int64)) aa)) T9.heap n0 (Nat.le_trans Z0 K10.1) f9_1 f9_2 f9_3 (f5_4.keep Kq9 (ninS (Ne.symm ne_b1_y3) nin0)) f9_4 hz (by omega)) hZ (hw _ (List.mem_of_getElem? (i := 40) rfl)) (hw _ (List.mem_of_getElem? (i := 3) rfl)) (by decide) (by decide)) q12a q12c (g := (mkF m 188 #[.val (.int p0), .val (.int p1), .val (.int p2), .val (.int p3), .val (.int p4), .val (.int p5), .val (.int uu), .val (.int aa), .val (.int bb), .val (.int (0 : Int32)), .val (.int pm), .val (.int pr), .val (.ref b1), .val (.int (own_em1 aa pm)), .val (.int (1 : Int32)), .val (.int (own_er1 aa pr)), .unset, .unset, .unset] [(.int pr), (.ref b1)])) rfl (by rw [hml]; rfl) (Steps.refl _) (argsL := [(.int pr)]) (rest := []) (lenOf pd_0 rfl) rfl (by show 2 * 0 + _ ≤ _; exact Nat.le_of_eq rfl) (hb hby at_188) (fun _ _ => ⟨rfl, eJ11, (by decide : 3 + 0 ≤ _), (by decide : 13 + 0 ≤ _)⟩)
        dsimp only [Pt.U, Pt.locs, Pt.cells, Pt.slots] at X12 l12 y12 z12 st12 hQ12
        subst l12 y12 z12
        obtain ⟨rfl, Nq12, eq12⟩ := hQ12
        have N12 := Fr.app NJ11 Nq12
        refine Runs.by (fun _ hr => st12.trans hr) ?_
        show Runs p e below _ (T12.setTop (mkF m 191 #[.val (.int p0), .val (.int p1), .val (.int p2), .val (.int p3), .val (.int p4), .val (.int p5), .val (.int uu), .val (.int aa), .val (.int bb), .val (.int (0 : Int32)), .val (.int pm), .val (.int pr), .val (.ref b1), .val (.int (own_em1 aa pm)), .val (.int (1 : Int32)), .val (.int (own_er1 aa pr)), .unset, .unset, .unset] [(.int (if pr < (own_nw uu) * (64 : Int32) then (own_pre (own_mk (fun _ => (0 : Int64)) aa)) (pr.toInt.toNat / 64) + own_bc ((own_mk (fun _ => (0 : Int64)) aa) (pr.toInt.toNat / 64) &&& (own_bit pr - (1 : Int64))) else (1 : Int32)))]))
        refine Runs.by (fun _ hr => XS.iload X12.here hx rfl (hb hby at_191) rfl  hr) ?_
        show Runs p e below _ (T12.setTop (mkF m 193 #[.val (.int p0), .val (.int p1), .val (.int p2), .val (.int p3), .val (.int p4), .val (.int p5), .val (.int uu), .val (.int aa), .val (.int bb), .val (.int (0 : Int32)), .val (.int pm), .val (.int pr), .val (.ref b1), .val (.int (own_em1 aa pm)), .val (.int (1 : Int32)), .val (.int (own_er1 aa pr)), .unset, .unset, .unset] [(.int (own_er1 aa pr)), (.int (if pr < (own_nw uu) * (64 : Int32) then (own_pre (own_mk (fun _ => (0 : Int64)) aa)) (pr.toInt.toNat / 64) + own_bc ((own_mk (fun _ => (0 : Int64)) aa) (pr.toInt.toNat / 64) &&& (own_bit pr - (1 : Int64))) else (1 : Int32)))]))
        have hc193 : (if pr < (own_nw uu) * (64 : Int32) then (own_pre (own_mk (fun _ => (0 : Int64)) aa)) (pr.toInt.toNat / 64) + own_bc ((own_mk (fun _ => (0 : Int64)) aa) (pr.toInt.toNat / 64) &&& (own_bit pr - (1 : Int64))) else (1 : Int32)) = (own_er1 aa pr) := own_L3 hu hA (by omega) hR'
        refine Runs.by (fun _ hr => XS.icmpNo X12.here hx rfl (hb hby at_193) rfl (teq hc193).2 hr) ?_
        show Runs p e below _ (T12.setTop (mkF m 196 #[.val (.int p0), .val (.int p1), .val (.int p2), .val (.int p3), .val (.int p4), .val (.int p5), .val (.int uu), .val (.int aa), .val (.int bb), .val (.int (0 : Int32)), .val (.int pm), .val (.int pr), .val (.ref b1), .val (.int (own_em1 aa pm)), .val (.int (1 : Int32)), .val (.int (own_er1 aa pr)), .unset, .unset, .unset] []))
        refine Runs.by (fun _ hr => XS.iconst X12.here hx rfl (hb hby at_196) hr) ?_
        show Runs p e below _ (T12.setTop (mkF m 197 #[.val (.int p0), .val (.int p1), .val (.int p2), .val (.int p3), .val (.int p4), .val (.int p5), .val (.int uu), .val (.int aa), .val (.int bb), .val (.int (0 : Int32)), .val (.int pm), .val (.int pr), .val (.ref b1), .val (.int (own_em1 aa pm)), .val (.int (1 : Int32)), .val (.int (own_er1 aa pr)), .unset, .unset, .unset] [(.int (1 : Int32))]))
        refine Runs.by (fun _ hr => XS.goto X12.here hx rfl (pc0 := 197) (pc' := 201) rfl (hb hby at_197) (by decide) (by decide) hr) ?_
        show Runs p e below _ (T12.setTop (mkF m 201 #[.val (.int p0), .val (.int p1), .val (.int p2), .val (.int p3), .val (.int p4), .val (.int p5), .val (.int uu), .val (.int aa), .val (.int bb), .val (.int (0 : Int32)), .val (.int pm), .val (.int pr), .val (.ref b1), .val (.int (own_em1 aa pm)), .val (.int (1 : Int32)), .val (.int (own_er1 aa pr)), .unset, .unset, .unset] [(.int (1 : Int32))]))
        refine Runs.by (fun _ hr => XS.istore X12.here hx rfl (hb hby at_201) rfl (l' := #[.val (.int p0), .val (.int p1), .val (.int p2), .val (.int p3), .val (.int p4), .val (.int p5), .val (.int uu), .val (.int aa), .val (.int bb), .val (.int (0 : Int32)), .val (.int pm), .val (.int pr), .val (.ref b1), .val (.int (own_em1 aa pm)), .val (.int (1 : Int32)), .val (.int (own_er1 aa pr)), .val (.int (1 : Int32)), .unset, .unset]) rfl hr) ?_
        show Runs p e below _ (T12.setTop (mkF m 203 #[.val (.int p0), .val (.int p1), .val (.int p2), .val (.int p3), .val (.int p4), .val (.int p5), .val (.int uu), .val (.int aa), .val (.int bb), .val (.int (0 : Int32)), .val (.int pm), .val (.int pr), .val (.ref b1), .val (.int (own_em1 aa pm)), .val (.int (1 : Int32)), .val (.int (own_er1 aa pr)), .val (.int (1 : Int32)), .unset, .unset] []))
        refine Runs.by (fun _ hr => XS.aload X12.here hx rfl (hb hby at_203) rfl rfl hr) ?_
        show Runs p e below _ (T12.setTop (mkF m 205 #[.val (.int p0), .val (.int p1), .val (.int p2), .val (.int p3), .val (.int p4), .val (.int p5), .val (.int uu), .val (.int aa), .val (.int bb), .val (.int (0 : Int32)), .val (.int pm), .val (.int pr), .val (.ref b1), .val (.int (own_em1 aa pm)), .val (.int (1 : Int32)), .val (.int (own_er1 aa pr)), .val (.int (1 : Int32)), .unset, .unset] [(.ref b1)]))
        obtain ⟨cq13, kq13, q13a, q13b, q13c⟩ := isOf hZ eq12 f9_0
        obtain ⟨_, _, ⟨T13, L13, k13, n13⟩, -, X13, ⟨Lc13, hQ13, l13, y13, z13⟩, st13⟩ := X12.virtualBack hx (y := (⟨"com/example/threshold/threshold/engine/UnitBits", "ascending", "()[I"⟩ : MethodName)) (z := (⟨"com/example/threshold/threshold/engine/UnitBits", "ascending", "()[I"⟩ : MethodName)) hown (mvT hZ (hw _ (List.mem_of_getElem? (i := 48) rfl))) (mvT hZ (hw _ (List.mem_of_getElem? (i := 49) rfl))) (notFace_of_selects (args := #[]) (mvT hZ (hw _ (List.mem_of_getElem? (i := 51) rfl)))) (mvT hZ (hw _ (List.mem_of_getElem? (i := 51) rfl))) (mvT hZ (hw _ (List.mem_of_getElem? (i := 50) rfl))) (by decide) (backOf (W := 0) (rm9 l Z a0 hw [] b1 y3 ky3 (own_nw uu) (own_mk (fun _ => (0 : Int64)) aa) (1 : Int32) (fun i => if A / 64 < i then 1 else 0) (fun _ => aa) T9.heap n0 (Nat.le_trans Z0 K10.1) f9_1 f9_2 (f5_4.keep Kq9 (ninS (Ne.symm ne_b1_y3) nin0)) hz (by decide) rfl (by rw [if_pos (by omega)]; decide) (fun i hi => by split <;> decide) (fun i hi => own_A1 hA (by omega) i)) hZ (hw _ (List.mem_of_getElem? (i := 52) rfl)) (hw _ (List.mem_of_getElem? (i := 3) rfl)) (by decide) (by decide)) q13a q13c (g := (mkF m 205 #[.val (.int p0), .val (.int p1), .val (.int p2), .val (.int p3), .val (.int p4), .val (.int p5), .val (.int uu), .val (.int aa), .val (.int bb), .val (.int (0 : Int32)), .val (.int pm), .val (.int pr), .val (.ref b1), .val (.int (own_em1 aa pm)), .val (.int (1 : Int32)), .val (.int (own_er1 aa pr)), .val (.int (1 : Int32)), .unset, .unset] [(.ref b1)])) rfl (by rw [hml]; rfl) (Steps.refl _) (argsL := []) (rest := []) (lenOf pd_5 rfl) rfl (by show 2 * 0 + _ ≤ _; exact Nat.le_of_eq rfl) (hb hby at_205) (fun _ _ => ⟨rfl, eq12, (by decide : 3 + 1 ≤ _), (by decide : 13 + 2 ≤ _)⟩)
        dsimp only [Pt.U, Pt.locs, Pt.cells, Pt.slots] at X13 l13 y13 z13 st13 hQ13
        subst l13 y13 z13
        obtain ⟨y13, ky13, rfl, Nq13, Kq13, g_y13, szq_y13, f13_0⟩ := hQ13
        have N13 := Fr.app N12 Nq13
        have ne_b1_y13 : b1 ≠ y13 := Nat.ne_of_lt (Nat.lt_of_lt_of_le f9_0.lt szq_y13)
        have ne_y3_y13 : y3 ≠ y13 := Nat.ne_of_lt (Nat.lt_of_lt_of_le (f5_4.keep Kq9 (ninS (Ne.symm ne_b1_y3) nin0)).lt szq_y13)
        have ne_y9_y13 : y9 ≠ y13 := Nat.ne_of_lt (Nat.lt_of_lt_of_le f9_4.lt szq_y13)
        have sz_y13 : h0.size ≤ y13 := Nat.le_trans K10.1 szq_y13
        have K14 : Keep h0 T13.heap [] := Keep.trans (ws := []) K10 Kq13 all0
        refine Runs.by (fun _ hr => st13.trans hr) ?_
        show Runs p e below _ (T13.setTop (mkF m 208 #[.val (.int p0), .val (.int p1), .val (.int p2), .val (.int p3), .val (.int p4), .val (.int p5), .val (.int uu), .val (.int aa), .val (.int bb), .val (.int (0 : Int32)), .val (.int pm), .val (.int pr), .val (.ref b1), .val (.int (own_em1 aa pm)), .val (.int (1 : Int32)), .val (.int (own_er1 aa pr)), .val (.int (1 : Int32)), .unset, .unset] [(.ref y13)]))
        refine Runs.by (fun _ hr => XS.astore X13.here hx rfl (hb hby at_208) rfl rfl (l' := #[.val (.int p0), .val (.int p1), .val (.int p2), .val (.int p3), .val (.int p4), .val (.int p5), .val (.int uu), .val (.int aa), .val (.int bb), .val (.int (0 : Int32)), .val (.int pm), .val (.int pr), .val (.ref b1), .val (.int (own_em1 aa pm)), .val (.int (1 : Int32)), .val (.int (own_er1 aa pr)), .val (.int (1 : Int32)), .val (.ref y13), .unset]) rfl hr) ?_
        show Runs p e below _ (T13.setTop (mkF m 210 #[.val (.int p0), .val (.int p1), .val (.int p2), .val (.int p3), .val (.int p4), .val (.int p5), .val (.int uu), .val (.int aa), .val (.int bb), .val (.int (0 : Int32)), .val (.int pm), .val (.int pr), .val (.ref b1), .val (.int (own_em1 aa pm)), .val (.int (1 : Int32)), .val (.int (own_er1 aa pr)), .val (.int (1 : Int32)), .val (.ref y13), .unset] []))
        refine Runs.by (fun _ hr => XS.iload X13.here hx rfl (hb hby at_210) rfl  hr) ?_
        show Runs p e below _ (T13.setTop (mkF m 212 #[.val (.int p0), .val (.int p1), .val (.int p2), .val (.int p3), .val (.int p4), .val (.int p5), .val (.int uu), .val (.int aa), .val (.int bb), .val (.int (0 : Int32)), .val (.int pm), .val (.int pr), .val (.ref b1), .val (.int (own_em1 aa pm)), .val (.int (1 : Int32)), .val (.int (own_er1 aa pr)), .val (.int (1 : Int32)), .val (.ref y13), .unset] [(.int (0 : Int32))]))
        have hc212 : (0 : Int32) = (0 : Int32) := (by decide)
        refine Runs.by (fun _ hr => XS.ifYes X13.here hx rfl (pc0 := 212) (pc' := 260) rfl (hb hby at_212) rfl ((if0 _ _).trans (teq hc212).1) (by decide) (by decide) hr) ?_
        show Runs p e below _ (T13.setTop (mkF m 260 #[.val (.int p0), .val (.int p1), .val (.int p2), .val (.int p3), .val (.int p4), .val (.int p5), .val (.int uu), .val (.int aa), .val (.int bb), .val (.int (0 : Int32)), .val (.int pm), .val (.int pr), .val (.ref b1), .val (.int (own_em1 aa pm)), .val (.int (1 : Int32)), .val (.int (own_er1 aa pr)), .val (.int (1 : Int32)), .val (.ref y13), .unset] []))
        refine Runs.by (fun _ hr => XS.aload X13.here hx rfl (hb hby at_260) rfl rfl hr) ?_
        show Runs p e below _ (T13.setTop (mkF m 262 #[.val (.int p0), .val (.int p1), .val (.int p2), .val (.int p3), .val (.int p4), .val (.int p5), .val (.int uu), .val (.int aa), .val (.int bb), .val (.int (0 : Int32)), .val (.int pm), .val (.int pr), .val (.ref b1), .val (.int (own_em1 aa pm)), .val (.int (1 : Int32)), .val (.int (own_er1 aa pr)), .val (.int (1 : Int32)), .val (.ref y13), .unset] [(.ref y13)]))
        obtain ⟨cl15, Ar15, -, S15, N15', -⟩ := id f13_0
        refine Runs.by (fun t hr => X13.arraylength hx (by exact Ar15.1) (State.isArrayOf_alike hZ.alike Ar15.2.1) (g := (mkF m 262 #[.val (.int p0), .val (.int p1), .val (.int p2), .val (.int p3), .val (.int p4), .val (.int p5), .val (.int uu), .val (.int aa), .val (.int bb), .val (.int (0 : Int32)), .val (.int pm), .val (.int pr), .val (.ref b1), .val (.int (own_em1 aa pm)), .val (.int (1 : Int32)), .val (.int (own_er1 aa pr)), .val (.int (1 : Int32)), .val (.ref y13), .unset] [(.ref y13)])) rfl rfl (hb hby at_262) t hr) ?_
        rw [len_of S15 N15']
        show Runs p e below _ (T13.setTop (mkF m 263 #[.val (.int p0), .val (.int p1), .val (.int p2), .val (.int p3), .val (.int p4), .val (.int p5), .val (.int uu), .val (.int aa), .val (.int bb), .val (.int (0 : Int32)), .val (.int pm), .val (.int pr), .val (.ref b1), .val (.int (own_em1 aa pm)), .val (.int (1 : Int32)), .val (.int (own_er1 aa pr)), .val (.int (1 : Int32)), .val (.ref y13), .unset] [(.int (1 : Int32))]))
        refine Runs.by (fun _ hr => XS.iconst X13.here hx rfl (hb hby at_263) hr) ?_
        show Runs p e below _ (T13.setTop (mkF m 264 #[.val (.int p0), .val (.int p1), .val (.int p2), .val (.int p3), .val (.int p4), .val (.int p5), .val (.int uu), .val (.int aa), .val (.int bb), .val (.int (0 : Int32)), .val (.int pm), .val (.int pr), .val (.ref b1), .val (.int (own_em1 aa pm)), .val (.int (1 : Int32)), .val (.int (own_er1 aa pr)), .val (.int (1 : Int32)), .val (.ref y13), .unset] [(.int (1 : Int32)), (.int (1 : Int32))]))
        have hc264 : (1 : Int32) = (1 : Int32) := (by decide)
        refine Runs.by (fun _ hr => XS.icmpNo X13.here hx rfl (hb hby at_264) rfl (teq hc264).2 hr) ?_
        show Runs p e below _ (T13.setTop (mkF m 267 #[.val (.int p0), .val (.int p1), .val (.int p2), .val (.int p3), .val (.int p4), .val (.int p5), .val (.int uu), .val (.int aa), .val (.int bb), .val (.int (0 : Int32)), .val (.int pm), .val (.int pr), .val (.ref b1), .val (.int (own_em1 aa pm)), .val (.int (1 : Int32)), .val (.int (own_er1 aa pr)), .val (.int (1 : Int32)), .val (.ref y13), .unset] []))
        refine Runs.by (fun _ hr => XS.aload X13.here hx rfl (hb hby at_267) rfl rfl hr) ?_
        show Runs p e below _ (T13.setTop (mkF m 269 #[.val (.int p0), .val (.int p1), .val (.int p2), .val (.int p3), .val (.int p4), .val (.int p5), .val (.int uu), .val (.int aa), .val (.int bb), .val (.int (0 : Int32)), .val (.int pm), .val (.int pr), .val (.ref b1), .val (.int (own_em1 aa pm)), .val (.int (1 : Int32)), .val (.int (own_er1 aa pr)), .val (.int (1 : Int32)), .val (.ref y13), .unset] [(.ref y13)]))
        refine Runs.by (fun _ hr => XS.iconst X13.here hx rfl (hb hby at_269) hr) ?_
        show Runs p e below _ (T13.setTop (mkF m 270 #[.val (.int p0), .val (.int p1), .val (.int p2), .val (.int p3), .val (.int p4), .val (.int p5), .val (.int uu), .val (.int aa), .val (.int bb), .val (.int (0 : Int32)), .val (.int pm), .val (.int pr), .val (.ref b1), .val (.int (own_em1 aa pm)), .val (.int (1 : Int32)), .val (.int (own_er1 aa pr)), .val (.int (1 : Int32)), .val (.ref y13), .unset] [(.int (0 : Int32)), (.ref y13)]))
        obtain ⟨cl16, Ar16, -, S16, N16', H16⟩ := id f13_0
        have ix16 := own_ix (j := (0 : Int32)) (z := (1 : Int32)) (n := 0) rfl (by decide)
        have hin16 : ¬ ((0 : Int32) < 0 ∨ cl16.slots.size ≤ ((0 : Int32)).toNatClampNeg) := inb_of S16 ix16.1
        have hat16 : cl16.slots[((0 : Int32)).toNatClampNeg]? = some (.int ((fun _ => aa) 0)) := by rw [ix16.2.1]; exact H16 _ ix16.2.2
        refine Runs.by (fun t hr => X13.iaload hx (j := (0 : Int32)) (v := (.int ((fun _ => aa) 0))) (by exact Ar16.1) (State.isArrayOf_alike hZ.alike Ar16.2.1) Ar16.2.2 hin16 hat16 (g := (mkF m 270 #[.val (.int p0), .val (.int p1), .val (.int p2), .val (.int p3), .val (.int p4), .val (.int p5), .val (.int uu), .val (.int aa), .val (.int bb), .val (.int (0 : Int32)), .val (.int pm), .val (.int pr), .val (.ref b1), .val (.int (own_em1 aa pm)), .val (.int (1 : Int32)), .val (.int (own_er1 aa pr)), .val (.int (1 : Int32)), .val (.ref y13), .unset] [(.int (0 : Int32)), (.ref y13)])) rfl rfl (hb hby at_270) t hr) ?_
        show Runs p e below _ (T13.setTop (mkF m 271 #[.val (.int p0), .val (.int p1), .val (.int p2), .val (.int p3), .val (.int p4), .val (.int p5), .val (.int uu), .val (.int aa), .val (.int bb), .val (.int (0 : Int32)), .val (.int pm), .val (.int pr), .val (.ref b1), .val (.int (own_em1 aa pm)), .val (.int (1 : Int32)), .val (.int (own_er1 aa pr)), .val (.int (1 : Int32)), .val (.ref y13), .unset] [(.int ((fun _ => aa) 0))]))
        refine Runs.by (fun _ hr => XS.iload X13.here hx rfl (hb hby at_271) rfl  hr) ?_
        show Runs p e below _ (T13.setTop (mkF m 273 #[.val (.int p0), .val (.int p1), .val (.int p2), .val (.int p3), .val (.int p4), .val (.int p5), .val (.int uu), .val (.int aa), .val (.int bb), .val (.int (0 : Int32)), .val (.int pm), .val (.int pr), .val (.ref b1), .val (.int (own_em1 aa pm)), .val (.int (1 : Int32)), .val (.int (own_er1 aa pr)), .val (.int (1 : Int32)), .val (.ref y13), .unset] [(.int aa), (.int ((fun _ => aa) 0))]))
        have hc273 : ((fun _ => aa) 0) = aa := rfl
        refine Runs.by (fun _ hr => XS.icmpNo X13.here hx rfl (hb hby at_273) rfl (teq hc273).2 hr) ?_
        show Runs p e below _ (T13.setTop (mkF m 276 #[.val (.int p0), .val (.int p1), .val (.int p2), .val (.int p3), .val (.int p4), .val (.int p5), .val (.int uu), .val (.int aa), .val (.int bb), .val (.int (0 : Int32)), .val (.int pm), .val (.int pr), .val (.ref b1), .val (.int (own_em1 aa pm)), .val (.int (1 : Int32)), .val (.int (own_er1 aa pr)), .val (.int (1 : Int32)), .val (.ref y13), .unset] []))
        refine Runs.by (fun _ hr => XS.iconst X13.here hx rfl (hb hby at_276) hr) ?_
        show Runs p e below _ (T13.setTop (mkF m 277 #[.val (.int p0), .val (.int p1), .val (.int p2), .val (.int p3), .val (.int p4), .val (.int p5), .val (.int uu), .val (.int aa), .val (.int bb), .val (.int (0 : Int32)), .val (.int pm), .val (.int pr), .val (.ref b1), .val (.int (own_em1 aa pm)), .val (.int (1 : Int32)), .val (.int (own_er1 aa pr)), .val (.int (1 : Int32)), .val (.ref y13), .unset] [(.int (1 : Int32))]))
        refine Runs.by (fun _ hr => XS.goto X13.here hx rfl (pc0 := 277) (pc' := 281) rfl (hb hby at_277) (by decide) (by decide) hr) ?_
        show Runs p e below _ (T13.setTop (mkF m 281 #[.val (.int p0), .val (.int p1), .val (.int p2), .val (.int p3), .val (.int p4), .val (.int p5), .val (.int uu), .val (.int aa), .val (.int bb), .val (.int (0 : Int32)), .val (.int pm), .val (.int pr), .val (.ref b1), .val (.int (own_em1 aa pm)), .val (.int (1 : Int32)), .val (.int (own_er1 aa pr)), .val (.int (1 : Int32)), .val (.ref y13), .unset] [(.int (1 : Int32))]))
        refine Runs.by (fun _ hr => XS.istore X13.here hx rfl (hb hby at_281) rfl (l' := #[.val (.int p0), .val (.int p1), .val (.int p2), .val (.int p3), .val (.int p4), .val (.int p5), .val (.int uu), .val (.int aa), .val (.int bb), .val (.int (0 : Int32)), .val (.int pm), .val (.int pr), .val (.ref b1), .val (.int (own_em1 aa pm)), .val (.int (1 : Int32)), .val (.int (own_er1 aa pr)), .val (.int (1 : Int32)), .val (.ref y13), .val (.int (1 : Int32))]) rfl hr) ?_
        show Runs p e below _ (T13.setTop (mkF m 283 #[.val (.int p0), .val (.int p1), .val (.int p2), .val (.int p3), .val (.int p4), .val (.int p5), .val (.int uu), .val (.int aa), .val (.int bb), .val (.int (0 : Int32)), .val (.int pm), .val (.int pr), .val (.ref b1), .val (.int (own_em1 aa pm)), .val (.int (1 : Int32)), .val (.int (own_er1 aa pr)), .val (.int (1 : Int32)), .val (.ref y13), .val (.int (1 : Int32))] []))
        refine Runs.by (fun _ hr => XS.iload X13.here hx rfl (hb hby at_283) rfl  hr) ?_
        show Runs p e below _ (T13.setTop (mkF m 285 #[.val (.int p0), .val (.int p1), .val (.int p2), .val (.int p3), .val (.int p4), .val (.int p5), .val (.int uu), .val (.int aa), .val (.int bb), .val (.int (0 : Int32)), .val (.int pm), .val (.int pr), .val (.ref b1), .val (.int (own_em1 aa pm)), .val (.int (1 : Int32)), .val (.int (own_er1 aa pr)), .val (.int (1 : Int32)), .val (.ref y13), .val (.int (1 : Int32))] [(.int (1 : Int32))]))
        have hc285 : ¬ ((1 : Int32) = (0 : Int32)) := (by decide)
        refine Runs.by (fun _ hr => XS.ifNo X13.here hx rfl (hb hby at_285) rfl ((if0 _ _).trans (feq hc285).1) hr) ?_
        show Runs p e below _ (T13.setTop (mkF m 288 #[.val (.int p0), .val (.int p1), .val (.int p2), .val (.int p3), .val (.int p4), .val (.int p5), .val (.int uu), .val (.int aa), .val (.int bb), .val (.int (0 : Int32)), .val (.int pm), .val (.int pr), .val (.ref b1), .val (.int (own_em1 aa pm)), .val (.int (1 : Int32)), .val (.int (own_er1 aa pr)), .val (.int (1 : Int32)), .val (.ref y13), .val (.int (1 : Int32))] []))
        refine Runs.by (fun _ hr => XS.iload X13.here hx rfl (hb hby at_288) rfl  hr) ?_
        show Runs p e below _ (T13.setTop (mkF m 290 #[.val (.int p0), .val (.int p1), .val (.int p2), .val (.int p3), .val (.int p4), .val (.int p5), .val (.int uu), .val (.int aa), .val (.int bb), .val (.int (0 : Int32)), .val (.int pm), .val (.int pr), .val (.ref b1), .val (.int (own_em1 aa pm)), .val (.int (1 : Int32)), .val (.int (own_er1 aa pr)), .val (.int (1 : Int32)), .val (.ref y13), .val (.int (1 : Int32))] [(.int (1 : Int32))]))
        have hc290 : ¬ ((1 : Int32) = (0 : Int32)) := (by decide)
        refine Runs.by (fun _ hr => XS.ifNo X13.here hx rfl (hb hby at_290) rfl ((if0 _ _).trans (feq hc290).1) hr) ?_
        show Runs p e below _ (T13.setTop (mkF m 293 #[.val (.int p0), .val (.int p1), .val (.int p2), .val (.int p3), .val (.int p4), .val (.int p5), .val (.int uu), .val (.int aa), .val (.int bb), .val (.int (0 : Int32)), .val (.int pm), .val (.int pr), .val (.ref b1), .val (.int (own_em1 aa pm)), .val (.int (1 : Int32)), .val (.int (own_er1 aa pr)), .val (.int (1 : Int32)), .val (.ref y13), .val (.int (1 : Int32))] []))
        refine Runs.by (fun _ hr => XS.iload X13.here hx rfl (hb hby at_293) rfl  hr) ?_
        show Runs p e below _ (T13.setTop (mkF m 295 #[.val (.int p0), .val (.int p1), .val (.int p2), .val (.int p3), .val (.int p4), .val (.int p5), .val (.int uu), .val (.int aa), .val (.int bb), .val (.int (0 : Int32)), .val (.int pm), .val (.int pr), .val (.ref b1), .val (.int (own_em1 aa pm)), .val (.int (1 : Int32)), .val (.int (own_er1 aa pr)), .val (.int (1 : Int32)), .val (.ref y13), .val (.int (1 : Int32))] [(.int (1 : Int32))]))
        have hc295 : ¬ ((1 : Int32) = (0 : Int32)) := (by decide)
        refine Runs.by (fun _ hr => XS.ifNo X13.here hx rfl (hb hby at_295) rfl ((if0 _ _).trans (feq hc295).1) hr) ?_
        show Runs p e below _ (T13.setTop (mkF m 298 #[.val (.int p0), .val (.int p1), .val (.int p2), .val (.int p3), .val (.int p4), .val (.int p5), .val (.int uu), .val (.int aa), .val (.int bb), .val (.int (0 : Int32)), .val (.int pm), .val (.int pr), .val (.ref b1), .val (.int (own_em1 aa pm)), .val (.int (1 : Int32)), .val (.int (own_er1 aa pr)), .val (.int (1 : Int32)), .val (.ref y13), .val (.int (1 : Int32))] []))
        refine Runs.by (fun _ hr => XS.iconst X13.here hx rfl (hb hby at_298) hr) ?_
        show Runs p e below _ (T13.setTop (mkF m 299 #[.val (.int p0), .val (.int p1), .val (.int p2), .val (.int p3), .val (.int p4), .val (.int p5), .val (.int uu), .val (.int aa), .val (.int bb), .val (.int (0 : Int32)), .val (.int pm), .val (.int pr), .val (.ref b1), .val (.int (own_em1 aa pm)), .val (.int (1 : Int32)), .val (.int (own_er1 aa pr)), .val (.int (1 : Int32)), .val (.ref y13), .val (.int (1 : Int32))] [(.int (1 : Int32))]))
        refine Runs.by (fun _ hr => XS.goto X13.here hx rfl (pc0 := 299) (pc' := 303) rfl (hb hby at_299) (by decide) (by decide) hr) ?_
        show Runs p e below _ (T13.setTop (mkF m 303 #[.val (.int p0), .val (.int p1), .val (.int p2), .val (.int p3), .val (.int p4), .val (.int p5), .val (.int uu), .val (.int aa), .val (.int bb), .val (.int (0 : Int32)), .val (.int pm), .val (.int pr), .val (.ref b1), .val (.int (own_em1 aa pm)), .val (.int (1 : Int32)), .val (.int (own_er1 aa pr)), .val (.int (1 : Int32)), .val (.ref y13), .val (.int (1 : Int32))] [(.int (1 : Int32))]))
        refine Runs.ret X13 hx hrt hlk (Or.inl ⟨rfl, by simp, _, rfl⟩) (by rfl) (hb hby at_303) (by decide) (by decide) ?_
        exact ⟨rfl, N13⟩
      show Runs p e below _ (T9.setTop (mkF m 152 #[.val (.int p0), .val (.int p1), .val (.int p2), .val (.int p3), .val (.int p4), .val (.int p5), .val (.int uu), .val (.int aa), .val (.int bb), .val (.int (0 : Int32)), .val (.int pm), .val (.int pr), .val (.ref b1), .val (.int (own_em1 aa pm)), .val (.int (1 : Int32)), .unset, .unset, .unset, .unset] []))
      refine Runs.by (fun _ hr => XS.iload X9.here hx rfl (hb hby at_152) rfl  hr) ?_
      show Runs p e below _ (T9.setTop (mkF m 154 #[.val (.int p0), .val (.int p1), .val (.int p2), .val (.int p3), .val (.int p4), .val (.int p5), .val (.int uu), .val (.int aa), .val (.int bb), .val (.int (0 : Int32)), .val (.int pm), .val (.int pr), .val (.ref b1), .val (.int (own_em1 aa pm)), .val (.int (1 : Int32)), .unset, .unset, .unset, .unset] [(.int aa)]))
      refine Runs.by (fun _ hr => XS.iload X9.here hx rfl (hb hby at_154) rfl  hr) ?_
      show Runs p e below _ (T9.setTop (mkF m 156 #[.val (.int p0), .val (.int p1), .val (.int p2), .val (.int p3), .val (.int p4), .val (.int p5), .val (.int uu), .val (.int aa), .val (.int bb), .val (.int (0 : Int32)), .val (.int pm), .val (.int pr), .val (.ref b1), .val (.int (own_em1 aa pm)), .val (.int (1 : Int32)), .unset, .unset, .unset, .unset] [(.int pr), (.int aa)]))
      by_cases hc156 : aa < pr
      · -- pc 156: aa < pr
        refine Runs.by (fun _ hr => XS.icmpNo X9.here hx rfl (hb hby at_156) rfl (tlt hc156).2.1 hr) ?_
        show Runs p e below _ (T9.setTop (mkF m 159 #[.val (.int p0), .val (.int p1), .val (.int p2), .val (.int p3), .val (.int p4), .val (.int p5), .val (.int uu), .val (.int aa), .val (.int bb), .val (.int (0 : Int32)), .val (.int pm), .val (.int pr), .val (.ref b1), .val (.int (own_em1 aa pm)), .val (.int (1 : Int32)), .unset, .unset, .unset, .unset] []))
        refine Runs.by (fun _ hr => XS.iconst X9.here hx rfl (hb hby at_159) hr) ?_
        show Runs p e below _ (T9.setTop (mkF m 160 #[.val (.int p0), .val (.int p1), .val (.int p2), .val (.int p3), .val (.int p4), .val (.int p5), .val (.int uu), .val (.int aa), .val (.int bb), .val (.int (0 : Int32)), .val (.int pm), .val (.int pr), .val (.ref b1), .val (.int (own_em1 aa pm)), .val (.int (1 : Int32)), .unset, .unset, .unset, .unset] [(.int (1 : Int32))]))
        refine Runs.by (fun _ hr => XS.goto X9.here hx rfl (pc0 := 160) (pc' := 164) rfl (hb hby at_160) (by decide) (by decide) hr) ?_
        show Runs p e below _ (T9.setTop (mkF m 164 #[.val (.int p0), .val (.int p1), .val (.int p2), .val (.int p3), .val (.int p4), .val (.int p5), .val (.int uu), .val (.int aa), .val (.int bb), .val (.int (0 : Int32)), .val (.int pm), .val (.int pr), .val (.ref b1), .val (.int (own_em1 aa pm)), .val (.int (1 : Int32)), .unset, .unset, .unset, .unset] [(.int (1 : Int32))]))
        refine Runs.by (fun _ hr => XS.iload X9.here hx rfl (hb hby at_164) rfl  hr) ?_
        show Runs p e below _ (T9.setTop (mkF m 166 #[.val (.int p0), .val (.int p1), .val (.int p2), .val (.int p3), .val (.int p4), .val (.int p5), .val (.int uu), .val (.int aa), .val (.int bb), .val (.int (0 : Int32)), .val (.int pm), .val (.int pr), .val (.ref b1), .val (.int (own_em1 aa pm)), .val (.int (1 : Int32)), .unset, .unset, .unset, .unset] [(.int (0 : Int32)), (.int (1 : Int32))]))
        have hc166 : (0 : Int32) = (0 : Int32) := (by decide)
        refine Runs.by (fun _ hr => XS.ifYes X9.here hx rfl (pc0 := 166) (pc' := 180) rfl (hb hby at_166) rfl ((if0 _ _).trans (teq hc166).1) (by decide) (by decide) hr) ?_
        show Runs p e below _ (T9.setTop (mkF m 180 #[.val (.int p0), .val (.int p1), .val (.int p2), .val (.int p3), .val (.int p4), .val (.int p5), .val (.int uu), .val (.int aa), .val (.int bb), .val (.int (0 : Int32)), .val (.int pm), .val (.int pr), .val (.ref b1), .val (.int (own_em1 aa pm)), .val (.int (1 : Int32)), .unset, .unset, .unset, .unset] [(.int (1 : Int32))]))
        refine Runs.by (fun _ hr => XS.iconst X9.here hx rfl (hb hby at_180) hr) ?_
        show Runs p e below _ (T9.setTop (mkF m 181 #[.val (.int p0), .val (.int p1), .val (.int p2), .val (.int p3), .val (.int p4), .val (.int p5), .val (.int uu), .val (.int aa), .val (.int bb), .val (.int (0 : Int32)), .val (.int pm), .val (.int pr), .val (.ref b1), .val (.int (own_em1 aa pm)), .val (.int (1 : Int32)), .unset, .unset, .unset, .unset] [(.int (0 : Int32)), (.int (1 : Int32))]))
        refine Runs.by (fun _ hr => XS.iadd X9.here hx rfl (hb hby at_181) rfl hr) ?_
        show Runs p e below _ (T9.setTop (mkF m 182 #[.val (.int p0), .val (.int p1), .val (.int p2), .val (.int p3), .val (.int p4), .val (.int p5), .val (.int uu), .val (.int aa), .val (.int bb), .val (.int (0 : Int32)), .val (.int pm), .val (.int pr), .val (.ref b1), .val (.int (own_em1 aa pm)), .val (.int (1 : Int32)), .unset, .unset, .unset, .unset] [(.int (1 : Int32))]))
        refine Runs.by (fun _ hr => XS.istore X9.here hx rfl (hb hby at_182) rfl (l' := #[.val (.int p0), .val (.int p1), .val (.int p2), .val (.int p3), .val (.int p4), .val (.int p5), .val (.int uu), .val (.int aa), .val (.int bb), .val (.int (0 : Int32)), .val (.int pm), .val (.int pr), .val (.ref b1), .val (.int (own_em1 aa pm)), .val (.int (1 : Int32)), .val (.int (1 : Int32)), .unset, .unset, .unset]) rfl hr) ?_
        have e15 : own_er1 aa pr = (1 : Int32) := by simp only [own_er1, own_er2, *, if_true, if_false]; rfl
        rw [e15] at J184
        exact J184  _ _ X9 rfl N9 
      · -- pc 156: not aa < pr
        refine Runs.by (fun _ hr => XS.icmpYes X9.here hx rfl (pc0 := 156) (pc' := 163) rfl (hb hby at_156) rfl (flt hc156).2.1 (by decide) (by decide) hr) ?_
        show Runs p e below _ (T9.setTop (mkF m 163 #[.val (.int p0), .val (.int p1), .val (.int p2), .val (.int p3), .val (.int p4), .val (.int p5), .val (.int uu), .val (.int aa), .val (.int bb), .val (.int (0 : Int32)), .val (.int pm), .val (.int pr), .val (.ref b1), .val (.int (own_em1 aa pm)), .val (.int (1 : Int32)), .unset, .unset, .unset, .unset] []))
        refine Runs.by (fun _ hr => XS.iconst X9.here hx rfl (hb hby at_163) hr) ?_
        show Runs p e below _ (T9.setTop (mkF m 164 #[.val (.int p0), .val (.int p1), .val (.int p2), .val (.int p3), .val (.int p4), .val (.int p5), .val (.int uu), .val (.int aa), .val (.int bb), .val (.int (0 : Int32)), .val (.int pm), .val (.int pr), .val (.ref b1), .val (.int (own_em1 aa pm)), .val (.int (1 : Int32)), .unset, .unset, .unset, .unset] [(.int (0 : Int32))]))
        refine Runs.by (fun _ hr => XS.iload X9.here hx rfl (hb hby at_164) rfl  hr) ?_
        show Runs p e below _ (T9.setTop (mkF m 166 #[.val (.int p0), .val (.int p1), .val (.int p2), .val (.int p3), .val (.int p4), .val (.int p5), .val (.int uu), .val (.int aa), .val (.int bb), .val (.int (0 : Int32)), .val (.int pm), .val (.int pr), .val (.ref b1), .val (.int (own_em1 aa pm)), .val (.int (1 : Int32)), .unset, .unset, .unset, .unset] [(.int (0 : Int32)), (.int (0 : Int32))]))
        have hc166 : (0 : Int32) = (0 : Int32) := (by decide)
        refine Runs.by (fun _ hr => XS.ifYes X9.here hx rfl (pc0 := 166) (pc' := 180) rfl (hb hby at_166) rfl ((if0 _ _).trans (teq hc166).1) (by decide) (by decide) hr) ?_
        show Runs p e below _ (T9.setTop (mkF m 180 #[.val (.int p0), .val (.int p1), .val (.int p2), .val (.int p3), .val (.int p4), .val (.int p5), .val (.int uu), .val (.int aa), .val (.int bb), .val (.int (0 : Int32)), .val (.int pm), .val (.int pr), .val (.ref b1), .val (.int (own_em1 aa pm)), .val (.int (1 : Int32)), .unset, .unset, .unset, .unset] [(.int (0 : Int32))]))
        refine Runs.by (fun _ hr => XS.iconst X9.here hx rfl (hb hby at_180) hr) ?_
        show Runs p e below _ (T9.setTop (mkF m 181 #[.val (.int p0), .val (.int p1), .val (.int p2), .val (.int p3), .val (.int p4), .val (.int p5), .val (.int uu), .val (.int aa), .val (.int bb), .val (.int (0 : Int32)), .val (.int pm), .val (.int pr), .val (.ref b1), .val (.int (own_em1 aa pm)), .val (.int (1 : Int32)), .unset, .unset, .unset, .unset] [(.int (0 : Int32)), (.int (0 : Int32))]))
        refine Runs.by (fun _ hr => XS.iadd X9.here hx rfl (hb hby at_181) rfl hr) ?_
        show Runs p e below _ (T9.setTop (mkF m 182 #[.val (.int p0), .val (.int p1), .val (.int p2), .val (.int p3), .val (.int p4), .val (.int p5), .val (.int uu), .val (.int aa), .val (.int bb), .val (.int (0 : Int32)), .val (.int pm), .val (.int pr), .val (.ref b1), .val (.int (own_em1 aa pm)), .val (.int (1 : Int32)), .unset, .unset, .unset, .unset] [(.int (0 : Int32))]))
        refine Runs.by (fun _ hr => XS.istore X9.here hx rfl (hb hby at_182) rfl (l' := #[.val (.int p0), .val (.int p1), .val (.int p2), .val (.int p3), .val (.int p4), .val (.int p5), .val (.int uu), .val (.int aa), .val (.int bb), .val (.int (0 : Int32)), .val (.int pm), .val (.int pr), .val (.ref b1), .val (.int (own_em1 aa pm)), .val (.int (1 : Int32)), .val (.int (0 : Int32)), .unset, .unset, .unset]) rfl hr) ?_
        have e15 : own_er1 aa pr = (0 : Int32) := by simp only [own_er1, own_er2, *, if_true, if_false]; rfl
        rw [e15] at J184
        exact J184  _ _ X9 rfl N9 
    show Runs p e below _ (T5.setTop (mkF m 102 #[.val (.int p0), .val (.int p1), .val (.int p2), .val (.int p3), .val (.int p4), .val (.int p5), .val (.int uu), .val (.int aa), .val (.int bb), .val (.int (0 : Int32)), .val (.int pm), .val (.int pr), .val (.ref b1), .unset, .unset, .unset, .unset, .unset, .unset] []))
    refine Runs.by (fun _ hr => XS.iload X5.here hx rfl (hb hby at_102) rfl  hr) ?_
    show Runs p e below _ (T5.setTop (mkF m 104 #[.val (.int p0), .val (.int p1), .val (.int p2), .val (.int p3), .val (.int p4), .val (.int p5), .val (.int uu), .val (.int aa), .val (.int bb), .val (.int (0 : Int32)), .val (.int pm), .val (.int pr), .val (.ref b1), .unset, .unset, .unset, .unset, .unset, .unset] [(.int pm)]))
    refine Runs.by (fun _ hr => XS.iload X5.here hx rfl (hb hby at_104) rfl  hr) ?_
    show Runs p e below _ (T5.setTop (mkF m 106 #[.val (.int p0), .val (.int p1), .val (.int p2), .val (.int p3), .val (.int p4), .val (.int p5), .val (.int uu), .val (.int aa), .val (.int bb), .val (.int (0 : Int32)), .val (.int pm), .val (.int pr), .val (.ref b1), .unset, .unset, .unset, .unset, .unset, .unset] [(.int aa), (.int pm)]))
    by_cases hc106 : pm = aa
    · -- pc 106: pm = aa
      refine Runs.by (fun _ hr => XS.icmpYes X5.here hx rfl (pc0 := 106) (pc' := 121) rfl (hb hby at_106) rfl (teq hc106).1 (by decide) (by decide) hr) ?_
      show Runs p e below _ (T5.setTop (mkF m 121 #[.val (.int p0), .val (.int p1), .val (.int p2), .val (.int p3), .val (.int p4), .val (.int p5), .val (.int uu), .val (.int aa), .val (.int bb), .val (.int (0 : Int32)), .val (.int pm), .val (.int pr), .val (.ref b1), .unset, .unset, .unset, .unset, .unset, .unset] []))
      refine Runs.by (fun _ hr => XS.iconst X5.here hx rfl (hb hby at_121) hr) ?_
      show Runs p e below _ (T5.setTop (mkF m 122 #[.val (.int p0), .val (.int p1), .val (.int p2), .val (.int p3), .val (.int p4), .val (.int p5), .val (.int uu), .val (.int aa), .val (.int bb), .val (.int (0 : Int32)), .val (.int pm), .val (.int pr), .val (.ref b1), .unset, .unset, .unset, .unset, .unset, .unset] [(.int (1 : Int32))]))
      refine Runs.by (fun _ hr => XS.goto X5.here hx rfl (pc0 := 122) (pc' := 126) rfl (hb hby at_122) (by decide) (by decide) hr) ?_
      show Runs p e below _ (T5.setTop (mkF m 126 #[.val (.int p0), .val (.int p1), .val (.int p2), .val (.int p3), .val (.int p4), .val (.int p5), .val (.int uu), .val (.int aa), .val (.int bb), .val (.int (0 : Int32)), .val (.int pm), .val (.int pr), .val (.ref b1), .unset, .unset, .unset, .unset, .unset, .unset] [(.int (1 : Int32))]))
      refine Runs.by (fun _ hr => XS.istore X5.here hx rfl (hb hby at_126) rfl (l' := #[.val (.int p0), .val (.int p1), .val (.int p2), .val (.int p3), .val (.int p4), .val (.int p5), .val (.int uu), .val (.int aa), .val (.int bb), .val (.int (0 : Int32)), .val (.int pm), .val (.int pr), .val (.ref b1), .val (.int (1 : Int32)), .unset, .unset, .unset, .unset, .unset]) rfl hr) ?_
      have e13 : own_em1 aa pm = (1 : Int32) := by simp [own_em1, own_em2, *]
      rw [e13] at J128
      exact J128  _ _ X5 rfl N5 
    · -- pc 106: not pm = aa
      refine Runs.by (fun _ hr => XS.icmpNo X5.here hx rfl (hb hby at_106) rfl (feq hc106).1 hr) ?_
      show Runs p e below _ (T5.setTop (mkF m 109 #[.val (.int p0), .val (.int p1), .val (.int p2), .val (.int p3), .val (.int p4), .val (.int p5), .val (.int uu), .val (.int aa), .val (.int bb), .val (.int (0 : Int32)), .val (.int pm), .val (.int pr), .val (.ref b1), .unset, .unset, .unset, .unset, .unset, .unset] []))
      refine Runs.by (fun _ hr => XS.iload X5.here hx rfl (hb hby at_109) rfl  hr) ?_
      show Runs p e below _ (T5.setTop (mkF m 111 #[.val (.int p0), .val (.int p1), .val (.int p2), .val (.int p3), .val (.int p4), .val (.int p5), .val (.int uu), .val (.int aa), .val (.int bb), .val (.int (0 : Int32)), .val (.int pm), .val (.int pr), .val (.ref b1), .unset, .unset, .unset, .unset, .unset, .unset] [(.int (0 : Int32))]))
      have hc111 : (0 : Int32) = (0 : Int32) := (by decide)
      refine Runs.by (fun _ hr => XS.ifYes X5.here hx rfl (pc0 := 111) (pc' := 125) rfl (hb hby at_111) rfl ((if0 _ _).trans (teq hc111).1) (by decide) (by decide) hr) ?_
      show Runs p e below _ (T5.setTop (mkF m 125 #[.val (.int p0), .val (.int p1), .val (.int p2), .val (.int p3), .val (.int p4), .val (.int p5), .val (.int uu), .val (.int aa), .val (.int bb), .val (.int (0 : Int32)), .val (.int pm), .val (.int pr), .val (.ref b1), .unset, .unset, .unset, .unset, .unset, .unset] []))
      refine Runs.by (fun _ hr => XS.iconst X5.here hx rfl (hb hby at_125) hr) ?_
      show Runs p e below _ (T5.setTop (mkF m 126 #[.val (.int p0), .val (.int p1), .val (.int p2), .val (.int p3), .val (.int p4), .val (.int p5), .val (.int uu), .val (.int aa), .val (.int bb), .val (.int (0 : Int32)), .val (.int pm), .val (.int pr), .val (.ref b1), .unset, .unset, .unset, .unset, .unset, .unset] [(.int (0 : Int32))]))
      refine Runs.by (fun _ hr => XS.istore X5.here hx rfl (hb hby at_126) rfl (l' := #[.val (.int p0), .val (.int p1), .val (.int p2), .val (.int p3), .val (.int p4), .val (.int p5), .val (.int uu), .val (.int aa), .val (.int bb), .val (.int (0 : Int32)), .val (.int pm), .val (.int pr), .val (.ref b1), .val (.int (0 : Int32)), .unset, .unset, .unset, .unset, .unset]) rfl hr) ?_
      have e13 : own_em1 aa pm = (0 : Int32) := by simp [own_em1, own_em2, *]
      rw [e13] at J128
      exact J128  _ _ X5 rfl N5 
  · -- pc 41: not (p5 &&& (1 : Int32)) = (0 : Int32)
    refine Runs.by (fun _ hr => XS.ifNo X0.here hx rfl (hb hby at_41) rfl ((if0 _ _).trans (feq hc41).1) hr) ?_
    show Runs p e below _ (s₁.setTop (mkF m 44 #[.val (.int p0), .val (.int p1), .val (.int p2), .val (.int p3), .val (.int p4), .val (.int p5), .val (.int uu), .val (.int aa), .val (.int bb), .unset, .unset, .unset, .unset, .unset, .unset, .unset, .unset, .unset, .unset] []))
    refine Runs.by (fun _ hr => XS.iconst X0.here hx rfl (hb hby at_44) hr) ?_
    show Runs p e below _ (s₁.setTop (mkF m 45 #[.val (.int p0), .val (.int p1), .val (.int p2), .val (.int p3), .val (.int p4), .val (.int p5), .val (.int uu), .val (.int aa), .val (.int bb), .unset, .unset, .unset, .unset, .unset, .unset, .unset, .unset, .unset, .unset] [(.int (1 : Int32))]))
    refine Runs.by (fun _ hr => XS.goto X0.here hx rfl (pc0 := 45) (pc' := 49) rfl (hb hby at_45) (by decide) (by decide) hr) ?_
    show Runs p e below _ (s₁.setTop (mkF m 49 #[.val (.int p0), .val (.int p1), .val (.int p2), .val (.int p3), .val (.int p4), .val (.int p5), .val (.int uu), .val (.int aa), .val (.int bb), .unset, .unset, .unset, .unset, .unset, .unset, .unset, .unset, .unset, .unset] [(.int (1 : Int32))]))
    refine Runs.by (fun _ hr => XS.istore X0.here hx rfl (hb hby at_49) rfl (l' := #[.val (.int p0), .val (.int p1), .val (.int p2), .val (.int p3), .val (.int p4), .val (.int p5), .val (.int uu), .val (.int aa), .val (.int bb), .val (.int (1 : Int32)), .unset, .unset, .unset, .unset, .unset, .unset, .unset, .unset, .unset]) rfl hr) ?_
    show Runs p e below _ (s₁.setTop (mkF m 51 #[.val (.int p0), .val (.int p1), .val (.int p2), .val (.int p3), .val (.int p4), .val (.int p5), .val (.int uu), .val (.int aa), .val (.int bb), .val (.int (1 : Int32)), .unset, .unset, .unset, .unset, .unset, .unset, .unset, .unset, .unset] []))
    refine Runs.by (fun _ hr => XS.iloadN X0.here hx rfl (hb hby at_51) rfl  hr) ?_
    show Runs p e below _ (s₁.setTop (mkF m 52 #[.val (.int p0), .val (.int p1), .val (.int p2), .val (.int p3), .val (.int p4), .val (.int p5), .val (.int uu), .val (.int aa), .val (.int bb), .val (.int (1 : Int32)), .unset, .unset, .unset, .unset, .unset, .unset, .unset, .unset, .unset] [(.int p3)]))
    refine Runs.by (fun _ hr => X0.ldcI hx hown (mvT hZ (hw _ (List.mem_of_getElem? (i := 0) rfl))) (g := (mkF m 52 #[.val (.int p0), .val (.int p1), .val (.int p2), .val (.int p3), .val (.int p4), .val (.int p5), .val (.int uu), .val (.int aa), .val (.int bb), .val (.int (1 : Int32)), .unset, .unset, .unset, .unset, .unset, .unset, .unset, .unset, .unset] [(.int p3)])) rfl (hb hby at_52) hr) ?_
    show Runs p e below _ (s₁.setTop (mkF m 54 #[.val (.int p0), .val (.int p1), .val (.int p2), .val (.int p3), .val (.int p4), .val (.int p5), .val (.int uu), .val (.int aa), .val (.int bb), .val (.int (1 : Int32)), .unset, .unset, .unset, .unset, .unset, .unset, .unset, .unset, .unset] [(.int (2147483647 : Int32)), (.int p3)]))
    refine Runs.by (fun _ hr => XS.iand X0.here hx rfl (hb hby at_54) rfl hr) ?_
    show Runs p e below _ (s₁.setTop (mkF m 55 #[.val (.int p0), .val (.int p1), .val (.int p2), .val (.int p3), .val (.int p4), .val (.int p5), .val (.int uu), .val (.int aa), .val (.int bb), .val (.int (1 : Int32)), .unset, .unset, .unset, .unset, .unset, .unset, .unset, .unset, .unset] [(.int (p3 &&& (2147483647 : Int32)))]))
    refine Runs.by (fun _ hr => XS.iload X0.here hx rfl (hb hby at_55) rfl  hr) ?_
    show Runs p e below _ (s₁.setTop (mkF m 57 #[.val (.int p0), .val (.int p1), .val (.int p2), .val (.int p3), .val (.int p4), .val (.int p5), .val (.int uu), .val (.int aa), .val (.int bb), .val (.int (1 : Int32)), .unset, .unset, .unset, .unset, .unset, .unset, .unset, .unset, .unset] [(.int uu), (.int (p3 &&& (2147483647 : Int32)))]))
    refine Runs.by (fun _ hr => iremM X0 hx rfl (hb hby at_57) rfl (own_ne0 (by omega)) hr) ?_
    show Runs p e below _ (s₁.setTop (mkF m 58 #[.val (.int p0), .val (.int p1), .val (.int p2), .val (.int p3), .val (.int p4), .val (.int p5), .val (.int uu), .val (.int aa), .val (.int bb), .val (.int (1 : Int32)), .unset, .unset, .unset, .unset, .unset, .unset, .unset, .unset, .unset] [(.int ((p3 &&& (2147483647 : Int32)) % uu))]))
    refine Runs.by (fun _ hr => XS.istore X0.here hx rfl (hb hby at_58) rfl (l' := #[.val (.int p0), .val (.int p1), .val (.int p2), .val (.int p3), .val (.int p4), .val (.int p5), .val (.int uu), .val (.int aa), .val (.int bb), .val (.int (1 : Int32)), .val (.int ((p3 &&& (2147483647 : Int32)) % uu)), .unset, .unset, .unset, .unset, .unset, .unset, .unset, .unset]) rfl hr) ?_
    have hpm := own_rm p3 (m := uu) (by omega)
    generalize ((p3 &&& (2147483647 : Int32)) % uu) = pm at hpm ⊢
    show Runs p e below _ (s₁.setTop (mkF m 60 #[.val (.int p0), .val (.int p1), .val (.int p2), .val (.int p3), .val (.int p4), .val (.int p5), .val (.int uu), .val (.int aa), .val (.int bb), .val (.int (1 : Int32)), .val (.int pm), .unset, .unset, .unset, .unset, .unset, .unset, .unset, .unset] []))
    refine Runs.by (fun _ hr => XS.iload X0.here hx rfl (hb hby at_60) rfl  hr) ?_
    show Runs p e below _ (s₁.setTop (mkF m 62 #[.val (.int p0), .val (.int p1), .val (.int p2), .val (.int p3), .val (.int p4), .val (.int p5), .val (.int uu), .val (.int aa), .val (.int bb), .val (.int (1 : Int32)), .val (.int pm), .unset, .unset, .unset, .unset, .unset, .unset, .unset, .unset] [(.int p4)]))
    refine Runs.by (fun _ hr => X0.ldcI hx hown (mvT hZ (hw _ (List.mem_of_getElem? (i := 0) rfl))) (g := (mkF m 62 #[.val (.int p0), .val (.int p1), .val (.int p2), .val (.int p3), .val (.int p4), .val (.int p5), .val (.int uu), .val (.int aa), .val (.int bb), .val (.int (1 : Int32)), .val (.int pm), .unset, .unset, .unset, .unset, .unset, .unset, .unset, .unset] [(.int p4)])) rfl (hb hby at_62) hr) ?_
    show Runs p e below _ (s₁.setTop (mkF m 64 #[.val (.int p0), .val (.int p1), .val (.int p2), .val (.int p3), .val (.int p4), .val (.int p5), .val (.int uu), .val (.int aa), .val (.int bb), .val (.int (1 : Int32)), .val (.int pm), .unset, .unset, .unset, .unset, .unset, .unset, .unset, .unset] [(.int (2147483647 : Int32)), (.int p4)]))
    refine Runs.by (fun _ hr => XS.iand X0.here hx rfl (hb hby at_64) rfl hr) ?_
    show Runs p e below _ (s₁.setTop (mkF m 65 #[.val (.int p0), .val (.int p1), .val (.int p2), .val (.int p3), .val (.int p4), .val (.int p5), .val (.int uu), .val (.int aa), .val (.int bb), .val (.int (1 : Int32)), .val (.int pm), .unset, .unset, .unset, .unset, .unset, .unset, .unset, .unset] [(.int (p4 &&& (2147483647 : Int32)))]))
    refine Runs.by (fun _ hr => XS.iload X0.here hx rfl (hb hby at_65) rfl  hr) ?_
    show Runs p e below _ (s₁.setTop (mkF m 67 #[.val (.int p0), .val (.int p1), .val (.int p2), .val (.int p3), .val (.int p4), .val (.int p5), .val (.int uu), .val (.int aa), .val (.int bb), .val (.int (1 : Int32)), .val (.int pm), .unset, .unset, .unset, .unset, .unset, .unset, .unset, .unset] [(.int uu), (.int (p4 &&& (2147483647 : Int32)))]))
    refine Runs.by (fun _ hr => XS.iconst X0.here hx rfl (hb hby at_67) hr) ?_
    show Runs p e below _ (s₁.setTop (mkF m 68 #[.val (.int p0), .val (.int p1), .val (.int p2), .val (.int p3), .val (.int p4), .val (.int p5), .val (.int uu), .val (.int aa), .val (.int bb), .val (.int (1 : Int32)), .val (.int pm), .unset, .unset, .unset, .unset, .unset, .unset, .unset, .unset] [(.int (1 : Int32)), (.int uu), (.int (p4 &&& (2147483647 : Int32)))]))
    refine Runs.by (fun _ hr => XS.iadd X0.here hx rfl (hb hby at_68) rfl hr) ?_
    show Runs p e below _ (s₁.setTop (mkF m 69 #[.val (.int p0), .val (.int p1), .val (.int p2), .val (.int p3), .val (.int p4), .val (.int p5), .val (.int uu), .val (.int aa), .val (.int bb), .val (.int (1 : Int32)), .val (.int pm), .unset, .unset, .unset, .unset, .unset, .unset, .unset, .unset] [(.int (uu + (1 : Int32))), (.int (p4 &&& (2147483647 : Int32)))]))
    refine Runs.by (fun _ hr => iremM X0 hx rfl (hb hby at_69) rfl (own_ne0 (by omega)) hr) ?_
    show Runs p e below _ (s₁.setTop (mkF m 70 #[.val (.int p0), .val (.int p1), .val (.int p2), .val (.int p3), .val (.int p4), .val (.int p5), .val (.int uu), .val (.int aa), .val (.int bb), .val (.int (1 : Int32)), .val (.int pm), .unset, .unset, .unset, .unset, .unset, .unset, .unset, .unset] [(.int ((p4 &&& (2147483647 : Int32)) % (uu + (1 : Int32))))]))
    refine Runs.by (fun _ hr => XS.istore X0.here hx rfl (hb hby at_70) rfl (l' := #[.val (.int p0), .val (.int p1), .val (.int p2), .val (.int p3), .val (.int p4), .val (.int p5), .val (.int uu), .val (.int aa), .val (.int bb), .val (.int (1 : Int32)), .val (.int pm), .val (.int ((p4 &&& (2147483647 : Int32)) % (uu + (1 : Int32)))), .unset, .unset, .unset, .unset, .unset, .unset, .unset]) rfl hr) ?_
    have hpr := own_rm p4 (m := uu + (1 : Int32)) (by omega)
    generalize ((p4 &&& (2147483647 : Int32)) % (uu + (1 : Int32))) = pr at hpr ⊢
    obtain ⟨A, hA⟩ : ∃ A : Nat, aa.toInt = A := ⟨aa.toInt.toNat, by omega⟩
    obtain ⟨B, hB⟩ : ∃ B : Nat, bb.toInt = B := ⟨bb.toInt.toNat, by omega⟩
    obtain ⟨P, hP⟩ : ∃ P : Nat, pm.toInt = P := ⟨pm.toInt.toNat, by omega⟩
    obtain ⟨R', hR'⟩ : ∃ R' : Nat, pr.toInt = R' := ⟨pr.toInt.toNat, by omega⟩
    have hAB : A ≠ B := by omega
    show Runs p e below _ (s₁.setTop (mkF m 72 #[.val (.int p0), .val (.int p1), .val (.int p2), .val (.int p3), .val (.int p4), .val (.int p5), .val (.int uu), .val (.int aa), .val (.int bb), .val (.int (1 : Int32)), .val (.int pm), .val (.int pr), .unset, .unset, .unset, .unset, .unset, .unset, .unset] []))
    obtain ⟨T17, h17, X17, e17, E17, A17, D17, -, st17⟩ := newO X0 hx hZ hown (hw _ (List.mem_of_getElem? (i := 1) rfl)) (hw _ (List.mem_of_getElem? (i := 2) rfl)) (hw _ (List.mem_of_getElem? (i := 3) rfl)) e0 (g := (mkF m 72 #[.val (.int p0), .val (.int p1), .val (.int p2), .val (.int p3), .val (.int p4), .val (.int p5), .val (.int uu), .val (.int aa), .val (.int bb), .val (.int (1 : Int32)), .val (.int pm), .val (.int pr), .unset, .unset, .unset, .unset, .unset, .unset, .unset] [])) rfl (hb hby at_72) (by decide) (by decide)
    obtain ⟨b17, gz17⟩ : ∃ z, z = h0.size := ⟨_, rfl⟩
    rw [← gz17] at A17 D17 st17
    have g_b17 : n0 ≤ b17 := Nat.le_trans (Nat.le_trans Z0 K0.1) (Nat.le_of_eq gz17.symm)
    have sz_b17 : h0.size ≤ b17 := Nat.le_trans K0.1 (Nat.le_of_eq gz17.symm)
    have K18 : Keep h0 h17 [] := K0.ext E17
    have F_words_b17 : Fld Z h17 b17 "com/example/threshold/threshold/engine/UnitBits" "words" "[J" .null := D17 (Or.inr (hw _ (List.mem_of_getElem? (i := 15) rfl))) (ty := (.array .long)) (by decide)
    have F_count_b17 : Fld Z h17 b17 "com/example/threshold/threshold/engine/UnitBits" "count" "I" (.int (0 : Int32)) := D17 (Or.inl (hw _ (List.mem_of_getElem? (i := 22) rfl))) (ty := .int) (by decide)
    have F_before_b17 : Fld Z h17 b17 "com/example/threshold/threshold/engine/UnitBits" "before" "[I" .null := D17 (Or.inl (hw _ (List.mem_of_getElem? (i := 35) rfl))) (ty := (.array .int)) (by decide)
    refine Runs.by st17 ?_
    show Runs p e below _ (T17.setTop (mkF m 75 #[.val (.int p0), .val (.int p1), .val (.int p2), .val (.int p3), .val (.int p4), .val (.int p5), .val (.int uu), .val (.int aa), .val (.int bb), .val (.int (1 : Int32)), .val (.int pm), .val (.int pr), .unset, .unset, .unset, .unset, .unset, .unset, .unset] [(.ref b17)]))
    refine Runs.by (fun _ hr => XS.dup X17.here hx rfl (hb hby at_75) rfl rfl hr) ?_
    show Runs p e below _ (T17.setTop (mkF m 76 #[.val (.int p0), .val (.int p1), .val (.int p2), .val (.int p3), .val (.int p4), .val (.int p5), .val (.int uu), .val (.int aa), .val (.int bb), .val (.int (1 : Int32)), .val (.int pm), .val (.int pr), .unset, .unset, .unset, .unset, .unset, .unset, .unset] [(.ref b17), (.ref b17)]))
    refine Runs.by (fun _ hr => XS.iload X17.here hx rfl (hb hby at_76) rfl  hr) ?_
    show Runs p e below _ (T17.setTop (mkF m 78 #[.val (.int p0), .val (.int p1), .val (.int p2), .val (.int p3), .val (.int p4), .val (.int p5), .val (.int uu), .val (.int aa), .val (.int bb), .val (.int (1 : Int32)), .val (.int pm), .val (.int pr), .unset, .unset, .unset, .unset, .unset, .unset, .unset] [(.int uu), (.ref b17), (.ref b17)]))
    obtain ⟨_, _, ⟨T19, L19, k19, n19⟩, -, X19, ⟨Lc19, hQ19, l19, y19, z19⟩, st19⟩ := X17.specialBack hx (y := (⟨"com/example/threshold/threshold/engine/UnitBits", "<init>", "(I)V"⟩ : MethodName)) rfl hown (mvT hZ (hw _ (List.mem_of_getElem? (i := 4) rfl))) (mvT hZ (hw _ (List.mem_of_getElem? (i := 5) rfl))) (mvT hZ (hw _ (List.mem_of_getElem? (i := 6) rfl))) (by decide) (backOf (W := 1) (rm1 l Z a0 hw [] b17 uu  h17 n0 (Nat.le_trans Z0 K18.1) A17 F_words_b17 F_count_b17 F_before_b17 g_b17 hu) hZ (hw _ (List.mem_of_getElem? (i := 6) rfl)) (hw _ (List.mem_of_getElem? (i := 3) rfl)) (by decide) (by decide)) (g := (mkF m 78 #[.val (.int p0), .val (.int p1), .val (.int p2), .val (.int p3), .val (.int p4), .val (.int p5), .val (.int uu), .val (.int aa), .val (.int bb), .val (.int (1 : Int32)), .val (.int pm), .val (.int pr), .unset, .unset, .unset, .unset, .unset, .unset, .unset] [(.int uu), (.ref b17), (.ref b17)])) rfl (by rw [hml]; rfl) (Steps.refl _) (a := b17) (argsL := [(.int uu)]) (rest := [(.ref b17)]) (lenOf pd_2 rfl) rfl (by show 2 * 0 + _ ≤ _; exact Nat.le_of_eq rfl) (hb hby at_78) (fun _ _ => ⟨rfl, e17, (by decide : 1 + 1 ≤ _), (by decide : 3 + 5 ≤ _)⟩)
    dsimp only [Pt.U, Pt.locs, Pt.cells, Pt.slots] at X19 l19 y19 z19 st19 hQ19
    subst l19 y19 z19
    obtain ⟨rfl, Nq19, Kq19, f19_0, f19_1, f19_2, y19, ky19, g_y19, szq_y19, f19_3, f19_4⟩ := hQ19
    have N19 := Fr.app N0 Nq19
    have ne_b17_y19 : b17 ≠ y19 := Nat.ne_of_lt (Nat.lt_of_lt_of_le A17.lt szq_y19)
    have sz_y19 : h0.size ≤ y19 := Nat.le_trans K18.1 szq_y19
    have K20 : Keep h0 T19.heap [] := Keep.trans (ws := []) K18 Kq19 (allS (Or.inr sz_b17) all0)
    refine Runs.by (fun _ hr => st19.trans hr) ?_
    show Runs p e below _ (T19.setTop (mkF m 81 #[.val (.int p0), .val (.int p1), .val (.int p2), .val (.int p3), .val (.int p4), .val (.int p5), .val (.int uu), .val (.int aa), .val (.int bb), .val (.int (1 : Int32)), .val (.int pm), .val (.int pr), .unset, .unset, .unset, .unset, .unset, .unset, .unset] [(.ref b17)]))
    refine Runs.by (fun _ hr => XS.astore X19.here hx rfl (hb hby at_81) rfl rfl (l' := #[.val (.int p0), .val (.int p1), .val (.int p2), .val (.int p3), .val (.int p4), .val (.int p5), .val (.int uu), .val (.int aa), .val (.int bb), .val (.int (1 : Int32)), .val (.int pm), .val (.int pr), .val (.ref b17), .unset, .unset, .unset, .unset, .unset, .unset]) rfl hr) ?_
    show Runs p e below _ (T19.setTop (mkF m 83 #[.val (.int p0), .val (.int p1), .val (.int p2), .val (.int p3), .val (.int p4), .val (.int p5), .val (.int uu), .val (.int aa), .val (.int bb), .val (.int (1 : Int32)), .val (.int pm), .val (.int pr), .val (.ref b17), .unset, .unset, .unset, .unset, .unset, .unset] []))
    refine Runs.by (fun _ hr => XS.aload X19.here hx rfl (hb hby at_83) rfl rfl hr) ?_
    show Runs p e below _ (T19.setTop (mkF m 85 #[.val (.int p0), .val (.int p1), .val (.int p2), .val (.int p3), .val (.int p4), .val (.int p5), .val (.int uu), .val (.int aa), .val (.int bb), .val (.int (1 : Int32)), .val (.int pm), .val (.int pr), .val (.ref b17), .unset, .unset, .unset, .unset, .unset, .unset] [(.ref b17)]))
    refine Runs.by (fun _ hr => XS.iload X19.here hx rfl (hb hby at_85) rfl  hr) ?_
    show Runs p e below _ (T19.setTop (mkF m 87 #[.val (.int p0), .val (.int p1), .val (.int p2), .val (.int p3), .val (.int p4), .val (.int p5), .val (.int uu), .val (.int aa), .val (.int bb), .val (.int (1 : Int32)), .val (.int pm), .val (.int pr), .val (.ref b17), .unset, .unset, .unset, .unset, .unset, .unset] [(.int aa), (.ref b17)]))
    obtain ⟨cq21, kq21, q21a, q21b, q21c⟩ := isOf hZ rfl f19_0
    obtain ⟨_, _, ⟨T21, L21, k21, n21⟩, -, X21, ⟨Lc21, hQ21, l21, y21, z21⟩, st21⟩ := X19.virtualBack hx (y := (⟨"com/example/threshold/threshold/engine/UnitBits", "mark", "(I)V"⟩ : MethodName)) (z := (⟨"com/example/threshold/threshold/engine/UnitBits", "mark", "(I)V"⟩ : MethodName)) hown (mvT hZ (hw _ (List.mem_of_getElem? (i := 16) rfl))) (mvT hZ (hw _ (List.mem_of_getElem? (i := 17) rfl))) (notFace_of_selects (args := #[]) (mvT hZ (hw _ (List.mem_of_getElem? (i := 19) rfl)))) (mvT hZ (hw _ (List.mem_of_getElem? (i := 19) rfl))) (mvT hZ (hw _ (List.mem_of_getElem? (i := 18) rfl))) (by decide) (backOf (W := 0) (rm4 l Z a0 hw [] b17 aa y19 ky19 (own_nw uu) (fun _ => (0 : Int64)) (0 : Int32) .null T19.heap n0 (Nat.le_trans Z0 K20.1) f19_0 f19_3 f19_1 f19_2 f19_4 (Ne.symm ne_b17_y19) g_y19 g_b17 (by omega)) hZ (hw _ (List.mem_of_getElem? (i := 20) rfl)) (hw _ (List.mem_of_getElem? (i := 3) rfl)) (by decide) (by decide)) q21a q21c (g := (mkF m 87 #[.val (.int p0), .val (.int p1), .val (.int p2), .val (.int p3), .val (.int p4), .val (.int p5), .val (.int uu), .val (.int aa), .val (.int bb), .val (.int (1 : Int32)), .val (.int pm), .val (.int pr), .val (.ref b17), .unset, .unset, .unset, .unset, .unset, .unset] [(.int aa), (.ref b17)])) rfl (by rw [hml]; rfl) (Steps.refl _) (argsL := [(.int aa)]) (rest := []) (lenOf pd_2 rfl) rfl (by show 2 * 0 + _ ≤ _; exact Nat.le_of_eq rfl) (hb hby at_87) (fun _ _ => ⟨rfl, rfl, (by decide : 2 + 0 ≤ _), (by decide : 8 + 0 ≤ _)⟩)
    dsimp only [Pt.U, Pt.locs, Pt.cells, Pt.slots] at X21 l21 y21 z21 st21 hQ21
    subst l21 y21 z21
    obtain ⟨rfl, Nq21, Kq21, f21_0, f21_1, f21_2, f21_3, f21_4⟩ := hQ21
    have N21 := Fr.app N19 Nq21
    have K22 : Keep h0 T21.heap [] := Keep.trans (ws := []) K20 Kq21 (allS (Or.inr sz_y19) (allS (Or.inr sz_b17) all0))
    refine Runs.by (fun _ hr => st21.trans hr) ?_
    show Runs p e below _ (T21.setTop (mkF m 90 #[.val (.int p0), .val (.int p1), .val (.int p2), .val (.int p3), .val (.int p4), .val (.int p5), .val (.int uu), .val (.int aa), .val (.int bb), .val (.int (1 : Int32)), .val (.int pm), .val (.int pr), .val (.ref b17), .unset, .unset, .unset, .unset, .unset, .unset] []))
    refine Runs.by (fun _ hr => XS.iload X21.here hx rfl (hb hby at_90) rfl  hr) ?_
    show Runs p e below _ (T21.setTop (mkF m 92 #[.val (.int p0), .val (.int p1), .val (.int p2), .val (.int p3), .val (.int p4), .val (.int p5), .val (.int uu), .val (.int aa), .val (.int bb), .val (.int (1 : Int32)), .val (.int pm), .val (.int pr), .val (.ref b17), .unset, .unset, .unset, .unset, .unset, .unset] [(.int (1 : Int32))]))
    have hc92 : ¬ ((1 : Int32) = (0 : Int32)) := (by decide)
    refine Runs.by (fun _ hr => XS.ifNo X21.here hx rfl (hb hby at_92) rfl ((if0 _ _).trans (feq hc92).1) hr) ?_
    show Runs p e below _ (T21.setTop (mkF m 95 #[.val (.int p0), .val (.int p1), .val (.int p2), .val (.int p3), .val (.int p4), .val (.int p5), .val (.int uu), .val (.int aa), .val (.int bb), .val (.int (1 : Int32)), .val (.int pm), .val (.int pr), .val (.ref b17), .unset, .unset, .unset, .unset, .unset, .unset] []))
    refine Runs.by (fun _ hr => XS.aload X21.here hx rfl (hb hby at_95) rfl rfl hr) ?_
    show Runs p e below _ (T21.setTop (mkF m 97 #[.val (.int p0), .val (.int p1), .val (.int p2), .val (.int p3), .val (.int p4), .val (.int p5), .val (.int uu), .val (.int aa), .val (.int bb), .val (.int (1 : Int32)), .val (.int pm), .val (.int pr), .val (.ref b17), .unset, .unset, .unset, .unset, .unset, .unset] [(.ref b17)]))
    refine Runs.by (fun _ hr => XS.iload X21.here hx rfl (hb hby at_97) rfl  hr) ?_
    show Runs p e below _ (T21.setTop (mkF m 99 #[.val (.int p0), .val (.int p1), .val (.int p2), .val (.int p3), .val (.int p4), .val (.int p5), .val (.int uu), .val (.int aa), .val (.int bb), .val (.int (1 : Int32)), .val (.int pm), .val (.int pr), .val (.ref b17), .unset, .unset, .unset, .unset, .unset, .unset] [(.int bb), (.ref b17)]))
    obtain ⟨cq23, kq23, q23a, q23b, q23c⟩ := isOf hZ rfl f21_0
    obtain ⟨_, _, ⟨T23, L23, k23, n23⟩, -, X23, ⟨Lc23, hQ23, l23, y23, z23⟩, st23⟩ := X21.virtualBack hx (y := (⟨"com/example/threshold/threshold/engine/UnitBits", "mark", "(I)V"⟩ : MethodName)) (z := (⟨"com/example/threshold/threshold/engine/UnitBits", "mark", "(I)V"⟩ : MethodName)) hown (mvT hZ (hw _ (List.mem_of_getElem? (i := 16) rfl))) (mvT hZ (hw _ (List.mem_of_getElem? (i := 17) rfl))) (notFace_of_selects (args := #[]) (mvT hZ (hw _ (List.mem_of_getElem? (i := 19) rfl)))) (mvT hZ (hw _ (List.mem_of_getElem? (i := 19) rfl))) (mvT hZ (hw _ (List.mem_of_getElem? (i := 18) rfl))) (by decide) (backOf (W := 0) (rm4 l Z a0 hw [] b17 bb y19 ky19 (own_nw uu) (own_mk (fun _ => (0 : Int64)) aa) (1 : Int32) .null T21.heap n0 (Nat.le_trans Z0 K22.1) f21_0 f21_1 f21_2 f21_3 f21_4 (Ne.symm ne_b17_y19) g_y19 g_b17 (by omega)) hZ (hw _ (List.mem_of_getElem? (i := 20) rfl)) (hw _ (List.mem_of_getElem? (i := 3) rfl)) (by decide) (by decide)) q23a q23c (g := (mkF m 99 #[.val (.int p0), .val (.int p1), .val (.int p2), .val (.int p3), .val (.int p4), .val (.int p5), .val (.int uu), .val (.int aa), .val (.int bb), .val (.int (1 : Int32)), .val (.int pm), .val (.int pr), .val (.ref b17), .unset, .unset, .unset, .unset, .unset, .unset] [(.int bb), (.ref b17)])) rfl (by rw [hml]; rfl) (Steps.refl _) (argsL := [(.int bb)]) (rest := []) (lenOf pd_2 rfl) rfl (by show 2 * 0 + _ ≤ _; exact Nat.le_of_eq rfl) (hb hby at_99) (fun _ _ => ⟨rfl, rfl, (by decide : 2 + 0 ≤ _), (by decide : 8 + 0 ≤ _)⟩)
    dsimp only [Pt.U, Pt.locs, Pt.cells, Pt.slots] at X23 l23 y23 z23 st23 hQ23
    subst l23 y23 z23
    obtain ⟨rfl, Nq23, Kq23, f23_0, f23_1, f23_2, f23_3, f23_4⟩ := hQ23
    have N23 := Fr.app N21 Nq23
    have K24 : Keep h0 T23.heap [] := Keep.trans (ws := []) K22 Kq23 (allS (Or.inr sz_y19) (allS (Or.inr sz_b17) all0))
    refine Runs.by (fun _ hr => st23.trans hr) ?_
    have J128 : ∀  (TJ25 : State) (lJ25 : List Loc) (XJ25 : Stand p l e room_1 s m #[(.int p0), (.int p1), (.int p2), (.int p3), (.int p4), (.int p5)] below meth c TJ25 lJ25 2 8) (eJ25 : TJ25.heap = T23.heap) (NJ25 : Fr n0 lJ25), Runs p e below (QE s (Q_rm0 Z p0 p1 p2 p3 p4 p5 h0 n0) room_1.cells room_1.slots) (TJ25.setTop (mkF m 128 #[.val (.int p0), .val (.int p1), .val (.int p2), .val (.int p3), .val (.int p4), .val (.int p5), .val (.int uu), .val (.int aa), .val (.int bb), .val (.int (1 : Int32)), .val (.int pm), .val (.int pr), .val (.ref b17), .val (.int (own_em2 aa bb pm)), .unset, .unset, .unset, .unset, .unset] [])) := by
      intro  TJ25 lJ25 XJ25 eJ25 NJ25 
      show Runs p e below _ (TJ25.setTop (mkF m 128 #[.val (.int p0), .val (.int p1), .val (.int p2), .val (.int p3), .val (.int p4), .val (.int p5), .val (.int uu), .val (.int aa), .val (.int bb), .val (.int (1 : Int32)), .val (.int pm), .val (.int pr), .val (.ref b17), .val (.int (own_em2 aa bb pm)), .unset, .unset, .unset, .unset, .unset] []))
      refine Runs.by (fun _ hr => XS.aload XJ25.here hx rfl (hb hby at_128) rfl rfl hr) ?_
      show Runs p e below _ (TJ25.setTop (mkF m 130 #[.val (.int p0), .val (.int p1), .val (.int p2), .val (.int p3), .val (.int p4), .val (.int p5), .val (.int uu), .val (.int aa), .val (.int bb), .val (.int (1 : Int32)), .val (.int pm), .val (.int pr), .val (.ref b17), .val (.int (own_em2 aa bb pm)), .unset, .unset, .unset, .unset, .unset] [(.ref b17)]))
      refine Runs.by (fun _ hr => XS.iload XJ25.here hx rfl (hb hby at_130) rfl  hr) ?_
      show Runs p e below _ (TJ25.setTop (mkF m 132 #[.val (.int p0), .val (.int p1), .val (.int p2), .val (.int p3), .val (.int p4), .val (.int p5), .val (.int uu), .val (.int aa), .val (.int bb), .val (.int (1 : Int32)), .val (.int pm), .val (.int pr), .val (.ref b17), .val (.int (own_em2 aa bb pm)), .unset, .unset, .unset, .unset, .unset] [(.int pm), (.ref b17)]))
      obtain ⟨cq26, kq26, q26a, q26b, q26c⟩ := isOf hZ eJ25 f23_0
      obtain ⟨_, _, ⟨T26, L26, k26, n26⟩, -, X26, ⟨Lc26, hQ26, l26, y26, z26⟩, st26⟩ := XJ25.virtualBack hx (y := (⟨"com/example/threshold/threshold/engine/UnitBits", "isMarked", "(I)Z"⟩ : MethodName)) (z := (⟨"com/example/threshold/threshold/engine/UnitBits", "isMarked", "(I)Z"⟩ : MethodName)) hown (mvT hZ (hw _ (List.mem_of_getElem? (i := 23) rfl))) (mvT hZ (hw _ (List.mem_of_getElem? (i := 24) rfl))) (notFace_of_selects (args := #[]) (mvT hZ (hw _ (List.mem_of_getElem? (i := 26) rfl)))) (mvT hZ (hw _ (List.mem_of_getElem? (i := 26) rfl))) (mvT hZ (hw _ (List.mem_of_getElem? (i := 25) rfl))) (by decide) (backOf (W := 0) (rm5 l Z a0 hw [] b17 pm y19 ky19 (own_nw uu) (own_mk (own_mk (fun _ => (0 : Int64)) aa) bb) T23.heap n0 (Nat.le_trans Z0 K24.1) f23_1 f23_4 (by omega)) hZ (hw _ (List.mem_of_getElem? (i := 27) rfl)) (hw _ (List.mem_of_getElem? (i := 3) rfl)) (by decide) (by decide)) q26a q26c (g := (mkF m 132 #[.val (.int p0), .val (.int p1), .val (.int p2), .val (.int p3), .val (.int p4), .val (.int p5), .val (.int uu), .val (.int aa), .val (.int bb), .val (.int (1 : Int32)), .val (.int pm), .val (.int pr), .val (.ref b17), .val (.int (own_em2 aa bb pm)), .unset, .unset, .unset, .unset, .unset] [(.int pm), (.ref b17)])) rfl (by rw [hml]; rfl) (Steps.refl _) (argsL := [(.int pm)]) (rest := []) (lenOf pd_3 rfl) rfl (by show 2 * 0 + _ ≤ _; exact Nat.le_of_eq rfl) (hb hby at_132) (fun _ _ => ⟨rfl, eJ25, (by decide : 2 + 0 ≤ _), (by decide : 8 + 0 ≤ _)⟩)
      dsimp only [Pt.U, Pt.locs, Pt.cells, Pt.slots] at X26 l26 y26 z26 st26 hQ26
      subst l26 y26 z26
      obtain ⟨rfl, Nq26, eq26⟩ := hQ26
      have N26 := Fr.app NJ25 Nq26
      refine Runs.by (fun _ hr => st26.trans hr) ?_
      show Runs p e below _ (T26.setTop (mkF m 135 #[.val (.int p0), .val (.int p1), .val (.int p2), .val (.int p3), .val (.int p4), .val (.int p5), .val (.int uu), .val (.int aa), .val (.int bb), .val (.int (1 : Int32)), .val (.int pm), .val (.int pr), .val (.ref b17), .val (.int (own_em2 aa bb pm)), .unset, .unset, .unset, .unset, .unset] [(.int (if (own_mk (own_mk (fun _ => (0 : Int64)) aa) bb) (pm.toInt.toNat / 64) &&& own_bit pm = 0 then 0 else 1))]))
      refine Runs.by (fun _ hr => XS.iload X26.here hx rfl (hb hby at_135) rfl  hr) ?_
      show Runs p e below _ (T26.setTop (mkF m 137 #[.val (.int p0), .val (.int p1), .val (.int p2), .val (.int p3), .val (.int p4), .val (.int p5), .val (.int uu), .val (.int aa), .val (.int bb), .val (.int (1 : Int32)), .val (.int pm), .val (.int pr), .val (.ref b17), .val (.int (own_em2 aa bb pm)), .unset, .unset, .unset, .unset, .unset] [(.int (own_em2 aa bb pm)), (.int (if (own_mk (own_mk (fun _ => (0 : Int64)) aa) bb) (pm.toInt.toNat / 64) &&& own_bit pm = 0 then 0 else 1))]))
      have hc137 : (if (own_mk (own_mk (fun _ => (0 : Int64)) aa) bb) (pm.toInt.toNat / 64) &&& own_bit pm = 0 then 0 else 1) = (own_em2 aa bb pm) := own_L2 hA hB hP
      refine Runs.by (fun _ hr => XS.icmpNo X26.here hx rfl (hb hby at_137) rfl (teq hc137).2 hr) ?_
      show Runs p e below _ (T26.setTop (mkF m 140 #[.val (.int p0), .val (.int p1), .val (.int p2), .val (.int p3), .val (.int p4), .val (.int p5), .val (.int uu), .val (.int aa), .val (.int bb), .val (.int (1 : Int32)), .val (.int pm), .val (.int pr), .val (.ref b17), .val (.int (own_em2 aa bb pm)), .unset, .unset, .unset, .unset, .unset] []))
      refine Runs.by (fun _ hr => XS.iconst X26.here hx rfl (hb hby at_140) hr) ?_
      show Runs p e below _ (T26.setTop (mkF m 141 #[.val (.int p0), .val (.int p1), .val (.int p2), .val (.int p3), .val (.int p4), .val (.int p5), .val (.int uu), .val (.int aa), .val (.int bb), .val (.int (1 : Int32)), .val (.int pm), .val (.int pr), .val (.ref b17), .val (.int (own_em2 aa bb pm)), .unset, .unset, .unset, .unset, .unset] [(.int (1 : Int32))]))
      refine Runs.by (fun _ hr => XS.goto X26.here hx rfl (pc0 := 141) (pc' := 145) rfl (hb hby at_141) (by decide) (by decide) hr) ?_
      show Runs p e below _ (T26.setTop (mkF m 145 #[.val (.int p0), .val (.int p1), .val (.int p2), .val (.int p3), .val (.int p4), .val (.int p5), .val (.int uu), .val (.int aa), .val (.int bb), .val (.int (1 : Int32)), .val (.int pm), .val (.int pr), .val (.ref b17), .val (.int (own_em2 aa bb pm)), .unset, .unset, .unset, .unset, .unset] [(.int (1 : Int32))]))
      refine Runs.by (fun _ hr => XS.istore X26.here hx rfl (hb hby at_145) rfl (l' := #[.val (.int p0), .val (.int p1), .val (.int p2), .val (.int p3), .val (.int p4), .val (.int p5), .val (.int uu), .val (.int aa), .val (.int bb), .val (.int (1 : Int32)), .val (.int pm), .val (.int pr), .val (.ref b17), .val (.int (own_em2 aa bb pm)), .val (.int (1 : Int32)), .unset, .unset, .unset, .unset]) rfl hr) ?_
      show Runs p e below _ (T26.setTop (mkF m 147 #[.val (.int p0), .val (.int p1), .val (.int p2), .val (.int p3), .val (.int p4), .val (.int p5), .val (.int uu), .val (.int aa), .val (.int bb), .val (.int (1 : Int32)), .val (.int pm), .val (.int pr), .val (.ref b17), .val (.int (own_em2 aa bb pm)), .val (.int (1 : Int32)), .unset, .unset, .unset, .unset] []))
      refine Runs.by (fun _ hr => XS.aload X26.here hx rfl (hb hby at_147) rfl rfl hr) ?_
      show Runs p e below _ (T26.setTop (mkF m 149 #[.val (.int p0), .val (.int p1), .val (.int p2), .val (.int p3), .val (.int p4), .val (.int p5), .val (.int uu), .val (.int aa), .val (.int bb), .val (.int (1 : Int32)), .val (.int pm), .val (.int pr), .val (.ref b17), .val (.int (own_em2 aa bb pm)), .val (.int (1 : Int32)), .unset, .unset, .unset, .unset] [(.ref b17)]))
      obtain ⟨cq27, kq27, q27a, q27b, q27c⟩ := isOf hZ eq26 f23_0
      obtain ⟨_, _, ⟨T27, L27, k27, n27⟩, -, X27, ⟨Lc27, hQ27, l27, y27, z27⟩, st27⟩ := X26.virtualBack hx (y := (⟨"com/example/threshold/threshold/engine/UnitBits", "countRanks", "()V"⟩ : MethodName)) (z := (⟨"com/example/threshold/threshold/engine/UnitBits", "countRanks", "()V"⟩ : MethodName)) hown (mvT hZ (hw _ (List.mem_of_getElem? (i := 28) rfl))) (mvT hZ (hw _ (List.mem_of_getElem? (i := 29) rfl))) (notFace_of_selects (args := #[]) (mvT hZ (hw _ (List.mem_of_getElem? (i := 31) rfl)))) (mvT hZ (hw _ (List.mem_of_getElem? (i := 31) rfl))) (mvT hZ (hw _ (List.mem_of_getElem? (i := 30) rfl))) (by decide) (backOf (W := 0) (rm6 l Z a0 hw [] b17 y19 ky19 (own_nw uu) (own_mk (own_mk (fun _ => (0 : Int64)) aa) bb) (2 : Int32) T23.heap n0 (Nat.le_trans Z0 K24.1) f23_0 f23_1 f23_2 f23_3 f23_4 (Ne.symm ne_b17_y19) g_b17 hz) hZ (hw _ (List.mem_of_getElem? (i := 32) rfl)) (hw _ (List.mem_of_getElem? (i := 3) rfl)) (by decide) (by decide)) q27a q27c (g := (mkF m 149 #[.val (.int p0), .val (.int p1), .val (.int p2), .val (.int p3), .val (.int p4), .val (.int p5), .val (.int uu), .val (.int aa), .val (.int bb), .val (.int (1 : Int32)), .val (.int pm), .val (.int pr), .val (.ref b17), .val (.int (own_em2 aa bb pm)), .val (.int (1 : Int32)), .unset, .unset, .unset, .unset] [(.ref b17)])) rfl (by rw [hml]; rfl) (Steps.refl _) (argsL := []) (rest := []) (lenOf pd_4 rfl) rfl (by show 2 * 0 + _ ≤ _; exact Nat.le_of_eq rfl) (hb hby at_149) (fun _ _ => ⟨rfl, eq26, (by decide : 2 + 1 ≤ _), (by decide : 8 + 5 ≤ _)⟩)
      dsimp only [Pt.U, Pt.locs, Pt.cells, Pt.slots] at X27 l27 y27 z27 st27 hQ27
      subst l27 y27 z27
      obtain ⟨rfl, Nq27, Kq27, f27_0, f27_1, f27_2, y27, ky27, g_y27, szq_y27, f27_3, f27_4⟩ := hQ27
      have N27 := Fr.app N26 Nq27
      have ne_b17_y27 : b17 ≠ y27 := Nat.ne_of_lt (Nat.lt_of_lt_of_le f23_0.lt szq_y27)
      have ne_y19_y27 : y19 ≠ y27 := Nat.ne_of_lt (Nat.lt_of_lt_of_le f23_4.lt szq_y27)
      have sz_y27 : h0.size ≤ y27 := Nat.le_trans K24.1 szq_y27
      have K28 : Keep h0 T27.heap [] := Keep.trans (ws := []) K24 Kq27 (allS (Or.inr sz_b17) all0)
      refine Runs.by (fun _ hr => st27.trans hr) ?_
      have J184 : ∀  (TJ29 : State) (lJ29 : List Loc) (XJ29 : Stand p l e room_1 s m #[(.int p0), (.int p1), (.int p2), (.int p3), (.int p4), (.int p5)] below meth c TJ29 lJ29 3 13) (eJ29 : TJ29.heap = T27.heap) (NJ29 : Fr n0 lJ29), Runs p e below (QE s (Q_rm0 Z p0 p1 p2 p3 p4 p5 h0 n0) room_1.cells room_1.slots) (TJ29.setTop (mkF m 184 #[.val (.int p0), .val (.int p1), .val (.int p2), .val (.int p3), .val (.int p4), .val (.int p5), .val (.int uu), .val (.int aa), .val (.int bb), .val (.int (1 : Int32)), .val (.int pm), .val (.int pr), .val (.ref b17), .val (.int (own_em2 aa bb pm)), .val (.int (1 : Int32)), .val (.int (own_er2 aa bb pr)), .unset, .unset, .unset] [])) := by
        intro  TJ29 lJ29 XJ29 eJ29 NJ29 
        show Runs p e below _ (TJ29.setTop (mkF m 184 #[.val (.int p0), .val (.int p1), .val (.int p2), .val (.int p3), .val (.int p4), .val (.int p5), .val (.int uu), .val (.int aa), .val (.int bb), .val (.int (1 : Int32)), .val (.int pm), .val (.int pr), .val (.ref b17), .val (.int (own_em2 aa bb pm)), .val (.int (1 : Int32)), .val (.int (own_er2 aa bb pr)), .unset, .unset, .unset] []))
        refine Runs.by (fun _ hr => XS.aload XJ29.here hx rfl (hb hby at_184) rfl rfl hr) ?_
        show Runs p e below _ (TJ29.setTop (mkF m 186 #[.val (.int p0), .val (.int p1), .val (.int p2), .val (.int p3), .val (.int p4), .val (.int p5), .val (.int uu), .val (.int aa), .val (.int bb), .val (.int (1 : Int32)), .val (.int pm), .val (.int pr), .val (.ref b17), .val (.int (own_em2 aa bb pm)), .val (.int (1 : Int32)), .val (.int (own_er2 aa bb pr)), .unset, .unset, .unset] [(.ref b17)]))
        refine Runs.by (fun _ hr => XS.iload XJ29.here hx rfl (hb hby at_186) rfl  hr) ?_
        show Runs p e below _ (TJ29.setTop (mkF m 188 #[.val (.int p0), .val (.int p1), .val (.int p2), .val (.int p3), .val (.int p4), .val (.int p5), .val (.int uu), .val (.int aa), .val (.int bb), .val (.int (1 : Int32)), .val (.int pm), .val (.int pr), .val (.ref b17), .val (.int (own_em2 aa bb pm)), .val (.int (1 : Int32)), .val (.int (own_er2 aa bb pr)), .unset, .unset, .unset] [(.int pr), (.ref b17)]))
        obtain ⟨cq30, kq30, q30a, q30b, q30c⟩ := isOf hZ eJ29 f27_0
        obtain ⟨_, _, ⟨T30, L30, k30, n30⟩, -, X30, ⟨Lc30, hQ30, l30, y30, z30⟩, st30⟩ := XJ29.virtualBack hx (y := (⟨"com/example/threshold/threshold/engine/UnitBits", "rank", "(I)I"⟩ : MethodName)) (z := (⟨"com/example/threshold/threshold/engine/UnitBits", "rank", "(I)I"⟩ : MethodName)) hown (mvT hZ (hw _ (List.mem_of_getElem? (i := 36) rfl))) (mvT hZ (hw _ (List.mem_of_getElem? (i := 37) rfl))) (notFace_of_selects (args := #[]) (mvT hZ (hw _ (List.mem_of_getElem? (i := 39) rfl)))) (mvT hZ (hw _ (List.mem_of_getElem? (i := 39) rfl))) (mvT hZ (hw _ (List.mem_of_getElem? (i := 38) rfl))) (by decide) (backOf (W := 0) (rm7 l Z a0 hw [] b17 pr y19 ky19 (own_nw uu) (own_mk (own_mk (fun _ => (0 : Int64)) aa) bb) (2 : Int32) y27 ky27 (own_pre (own_mk (own_mk (fun _ => (0 : Int64)) aa) bb)) T27.heap n0 (Nat.le_trans Z0 K28.1) f27_1 f27_2 f27_3 (f23_4.keep Kq27 (ninS (Ne.symm ne_b17_y19) nin0)) f27_4 hz (by omega)) hZ (hw _ (List.mem_of_getElem? (i := 40) rfl)) (hw _ (List.mem_of_getElem? (i := 3) rfl)) (by decide) (by decide)) q30a q30c (g := (mkF m 188 #[.val (.int p0), .val (.int p1), .val (.int p2), .val (.int p3), .val (.int p4), .val (.int p5), .val (.int uu), .val (.int aa), .val (.int bb), .val (.int (1 : Int32)), .val (.int pm), .val (.int pr), .val (.ref b17), .val (.int (own_em2 aa bb pm)), .val (.int (1 : Int32)), .val (.int (own_er2 aa bb pr)), .unset, .unset, .unset] [(.int pr), (.ref b17)])) rfl (by rw [hml]; rfl) (Steps.refl _) (argsL := [(.int pr)]) (rest := []) (lenOf pd_0 rfl) rfl (by show 2 * 0 + _ ≤ _; exact Nat.le_of_eq rfl) (hb hby at_188) (fun _ _ => ⟨rfl, eJ29, (by decide : 3 + 0 ≤ _), (by decide : 13 + 0 ≤ _)⟩)
        dsimp only [Pt.U, Pt.locs, Pt.cells, Pt.slots] at X30 l30 y30 z30 st30 hQ30
        subst l30 y30 z30
        obtain ⟨rfl, Nq30, eq30⟩ := hQ30
        have N30 := Fr.app NJ29 Nq30
        refine Runs.by (fun _ hr => st30.trans hr) ?_
        show Runs p e below _ (T30.setTop (mkF m 191 #[.val (.int p0), .val (.int p1), .val (.int p2), .val (.int p3), .val (.int p4), .val (.int p5), .val (.int uu), .val (.int aa), .val (.int bb), .val (.int (1 : Int32)), .val (.int pm), .val (.int pr), .val (.ref b17), .val (.int (own_em2 aa bb pm)), .val (.int (1 : Int32)), .val (.int (own_er2 aa bb pr)), .unset, .unset, .unset] [(.int (if pr < (own_nw uu) * (64 : Int32) then (own_pre (own_mk (own_mk (fun _ => (0 : Int64)) aa) bb)) (pr.toInt.toNat / 64) + own_bc ((own_mk (own_mk (fun _ => (0 : Int64)) aa) bb) (pr.toInt.toNat / 64) &&& (own_bit pr - (1 : Int64))) else (2 : Int32)))]))
        refine Runs.by (fun _ hr => XS.iload X30.here hx rfl (hb hby at_191) rfl  hr) ?_
        show Runs p e below _ (T30.setTop (mkF m 193 #[.val (.int p0), .val (.int p1), .val (.int p2), .val (.int p3), .val (.int p4), .val (.int p5), .val (.int uu), .val (.int aa), .val (.int bb), .val (.int (1 : Int32)), .val (.int pm), .val (.int pr), .val (.ref b17), .val (.int (own_em2 aa bb pm)), .val (.int (1 : Int32)), .val (.int (own_er2 aa bb pr)), .unset, .unset, .unset] [(.int (own_er2 aa bb pr)), (.int (if pr < (own_nw uu) * (64 : Int32) then (own_pre (own_mk (own_mk (fun _ => (0 : Int64)) aa) bb)) (pr.toInt.toNat / 64) + own_bc ((own_mk (own_mk (fun _ => (0 : Int64)) aa) bb) (pr.toInt.toNat / 64) &&& (own_bit pr - (1 : Int64))) else (2 : Int32)))]))
        have hc193 : (if pr < (own_nw uu) * (64 : Int32) then (own_pre (own_mk (own_mk (fun _ => (0 : Int64)) aa) bb)) (pr.toInt.toNat / 64) + own_bc ((own_mk (own_mk (fun _ => (0 : Int64)) aa) bb) (pr.toInt.toNat / 64) &&& (own_bit pr - (1 : Int64))) else (2 : Int32)) = (own_er2 aa bb pr) := own_L4 hu hA hB (by omega) (by omega) hAB hR'
        refine Runs.by (fun _ hr => XS.icmpNo X30.here hx rfl (hb hby at_193) rfl (teq hc193).2 hr) ?_
        show Runs p e below _ (T30.setTop (mkF m 196 #[.val (.int p0), .val (.int p1), .val (.int p2), .val (.int p3), .val (.int p4), .val (.int p5), .val (.int uu), .val (.int aa), .val (.int bb), .val (.int (1 : Int32)), .val (.int pm), .val (.int pr), .val (.ref b17), .val (.int (own_em2 aa bb pm)), .val (.int (1 : Int32)), .val (.int (own_er2 aa bb pr)), .unset, .unset, .unset] []))
        refine Runs.by (fun _ hr => XS.iconst X30.here hx rfl (hb hby at_196) hr) ?_
        show Runs p e below _ (T30.setTop (mkF m 197 #[.val (.int p0), .val (.int p1), .val (.int p2), .val (.int p3), .val (.int p4), .val (.int p5), .val (.int uu), .val (.int aa), .val (.int bb), .val (.int (1 : Int32)), .val (.int pm), .val (.int pr), .val (.ref b17), .val (.int (own_em2 aa bb pm)), .val (.int (1 : Int32)), .val (.int (own_er2 aa bb pr)), .unset, .unset, .unset] [(.int (1 : Int32))]))
        refine Runs.by (fun _ hr => XS.goto X30.here hx rfl (pc0 := 197) (pc' := 201) rfl (hb hby at_197) (by decide) (by decide) hr) ?_
        show Runs p e below _ (T30.setTop (mkF m 201 #[.val (.int p0), .val (.int p1), .val (.int p2), .val (.int p3), .val (.int p4), .val (.int p5), .val (.int uu), .val (.int aa), .val (.int bb), .val (.int (1 : Int32)), .val (.int pm), .val (.int pr), .val (.ref b17), .val (.int (own_em2 aa bb pm)), .val (.int (1 : Int32)), .val (.int (own_er2 aa bb pr)), .unset, .unset, .unset] [(.int (1 : Int32))]))
        refine Runs.by (fun _ hr => XS.istore X30.here hx rfl (hb hby at_201) rfl (l' := #[.val (.int p0), .val (.int p1), .val (.int p2), .val (.int p3), .val (.int p4), .val (.int p5), .val (.int uu), .val (.int aa), .val (.int bb), .val (.int (1 : Int32)), .val (.int pm), .val (.int pr), .val (.ref b17), .val (.int (own_em2 aa bb pm)), .val (.int (1 : Int32)), .val (.int (own_er2 aa bb pr)), .val (.int (1 : Int32)), .unset, .unset]) rfl hr) ?_
        show Runs p e below _ (T30.setTop (mkF m 203 #[.val (.int p0), .val (.int p1), .val (.int p2), .val (.int p3), .val (.int p4), .val (.int p5), .val (.int uu), .val (.int aa), .val (.int bb), .val (.int (1 : Int32)), .val (.int pm), .val (.int pr), .val (.ref b17), .val (.int (own_em2 aa bb pm)), .val (.int (1 : Int32)), .val (.int (own_er2 aa bb pr)), .val (.int (1 : Int32)), .unset, .unset] []))
        refine Runs.by (fun _ hr => XS.aload X30.here hx rfl (hb hby at_203) rfl rfl hr) ?_
        show Runs p e below _ (T30.setTop (mkF m 205 #[.val (.int p0), .val (.int p1), .val (.int p2), .val (.int p3), .val (.int p4), .val (.int p5), .val (.int uu), .val (.int aa), .val (.int bb), .val (.int (1 : Int32)), .val (.int pm), .val (.int pr), .val (.ref b17), .val (.int (own_em2 aa bb pm)), .val (.int (1 : Int32)), .val (.int (own_er2 aa bb pr)), .val (.int (1 : Int32)), .unset, .unset] [(.ref b17)]))
        obtain ⟨cq31, kq31, q31a, q31b, q31c⟩ := isOf hZ eq30 f27_0
        obtain ⟨_, _, ⟨T31, L31, k31, n31⟩, -, X31, ⟨Lc31, hQ31, l31, y31, z31⟩, st31⟩ := X30.virtualBack hx (y := (⟨"com/example/threshold/threshold/engine/UnitBits", "ascending", "()[I"⟩ : MethodName)) (z := (⟨"com/example/threshold/threshold/engine/UnitBits", "ascending", "()[I"⟩ : MethodName)) hown (mvT hZ (hw _ (List.mem_of_getElem? (i := 48) rfl))) (mvT hZ (hw _ (List.mem_of_getElem? (i := 49) rfl))) (notFace_of_selects (args := #[]) (mvT hZ (hw _ (List.mem_of_getElem? (i := 51) rfl)))) (mvT hZ (hw _ (List.mem_of_getElem? (i := 51) rfl))) (mvT hZ (hw _ (List.mem_of_getElem? (i := 50) rfl))) (by decide) (backOf (W := 0) (rm9 l Z a0 hw [] b17 y19 ky19 (own_nw uu) (own_mk (own_mk (fun _ => (0 : Int64)) aa) bb) (2 : Int32) (own_c2 A B) (fun j => if j = 0 then own_min aa bb else own_max aa bb) T27.heap n0 (Nat.le_trans Z0 K28.1) f27_1 f27_2 (f23_4.keep Kq27 (ninS (Ne.symm ne_b17_y19) nin0)) hz (by decide) rfl (by unfold own_c2; rw [if_pos (by omega), if_pos (by omega)]; decide) (fun i hi => by unfold own_c2; split <;> split <;> decide) (fun i hi => own_A2 hA hB (by omega) (by omega) hAB i)) hZ (hw _ (List.mem_of_getElem? (i := 52) rfl)) (hw _ (List.mem_of_getElem? (i := 3) rfl)) (by decide) (by decide)) q31a q31c (g := (mkF m 205 #[.val (.int p0), .val (.int p1), .val (.int p2), .val (.int p3), .val (.int p4), .val (.int p5), .val (.int uu), .val (.int aa), .val (.int bb), .val (.int (1 : Int32)), .val (.int pm), .val (.int pr), .val (.ref b17), .val (.int (own_em2 aa bb pm)), .val (.int (1 : Int32)), .val (.int (own_er2 aa bb pr)), .val (.int (1 : Int32)), .unset, .unset] [(.ref b17)])) rfl (by rw [hml]; rfl) (Steps.refl _) (argsL := []) (rest := []) (lenOf pd_5 rfl) rfl (by show 2 * 0 + _ ≤ _; exact Nat.le_of_eq rfl) (hb hby at_205) (fun _ _ => ⟨rfl, eq30, (by decide : 3 + 1 ≤ _), (by decide : 13 + 2 ≤ _)⟩)
        dsimp only [Pt.U, Pt.locs, Pt.cells, Pt.slots] at X31 l31 y31 z31 st31 hQ31
        subst l31 y31 z31
        obtain ⟨y31, ky31, rfl, Nq31, Kq31, g_y31, szq_y31, f31_0⟩ := hQ31
        have N31 := Fr.app N30 Nq31
        have ne_b17_y31 : b17 ≠ y31 := Nat.ne_of_lt (Nat.lt_of_lt_of_le f27_0.lt szq_y31)
        have ne_y19_y31 : y19 ≠ y31 := Nat.ne_of_lt (Nat.lt_of_lt_of_le (f23_4.keep Kq27 (ninS (Ne.symm ne_b17_y19) nin0)).lt szq_y31)
        have ne_y27_y31 : y27 ≠ y31 := Nat.ne_of_lt (Nat.lt_of_lt_of_le f27_4.lt szq_y31)
        have sz_y31 : h0.size ≤ y31 := Nat.le_trans K28.1 szq_y31
        have K32 : Keep h0 T31.heap [] := Keep.trans (ws := []) K28 Kq31 all0
        refine Runs.by (fun _ hr => st31.trans hr) ?_
        show Runs p e below _ (T31.setTop (mkF m 208 #[.val (.int p0), .val (.int p1), .val (.int p2), .val (.int p3), .val (.int p4), .val (.int p5), .val (.int uu), .val (.int aa), .val (.int bb), .val (.int (1 : Int32)), .val (.int pm), .val (.int pr), .val (.ref b17), .val (.int (own_em2 aa bb pm)), .val (.int (1 : Int32)), .val (.int (own_er2 aa bb pr)), .val (.int (1 : Int32)), .unset, .unset] [(.ref y31)]))
        refine Runs.by (fun _ hr => XS.astore X31.here hx rfl (hb hby at_208) rfl rfl (l' := #[.val (.int p0), .val (.int p1), .val (.int p2), .val (.int p3), .val (.int p4), .val (.int p5), .val (.int uu), .val (.int aa), .val (.int bb), .val (.int (1 : Int32)), .val (.int pm), .val (.int pr), .val (.ref b17), .val (.int (own_em2 aa bb pm)), .val (.int (1 : Int32)), .val (.int (own_er2 aa bb pr)), .val (.int (1 : Int32)), .val (.ref y31), .unset]) rfl hr) ?_
        show Runs p e below _ (T31.setTop (mkF m 210 #[.val (.int p0), .val (.int p1), .val (.int p2), .val (.int p3), .val (.int p4), .val (.int p5), .val (.int uu), .val (.int aa), .val (.int bb), .val (.int (1 : Int32)), .val (.int pm), .val (.int pr), .val (.ref b17), .val (.int (own_em2 aa bb pm)), .val (.int (1 : Int32)), .val (.int (own_er2 aa bb pr)), .val (.int (1 : Int32)), .val (.ref y31), .unset] []))
        refine Runs.by (fun _ hr => XS.iload X31.here hx rfl (hb hby at_210) rfl  hr) ?_
        show Runs p e below _ (T31.setTop (mkF m 212 #[.val (.int p0), .val (.int p1), .val (.int p2), .val (.int p3), .val (.int p4), .val (.int p5), .val (.int uu), .val (.int aa), .val (.int bb), .val (.int (1 : Int32)), .val (.int pm), .val (.int pr), .val (.ref b17), .val (.int (own_em2 aa bb pm)), .val (.int (1 : Int32)), .val (.int (own_er2 aa bb pr)), .val (.int (1 : Int32)), .val (.ref y31), .unset] [(.int (1 : Int32))]))
        have hc212 : ¬ ((1 : Int32) = (0 : Int32)) := (by decide)
        refine Runs.by (fun _ hr => XS.ifNo X31.here hx rfl (hb hby at_212) rfl ((if0 _ _).trans (feq hc212).1) hr) ?_
        show Runs p e below _ (T31.setTop (mkF m 215 #[.val (.int p0), .val (.int p1), .val (.int p2), .val (.int p3), .val (.int p4), .val (.int p5), .val (.int uu), .val (.int aa), .val (.int bb), .val (.int (1 : Int32)), .val (.int pm), .val (.int pr), .val (.ref b17), .val (.int (own_em2 aa bb pm)), .val (.int (1 : Int32)), .val (.int (own_er2 aa bb pr)), .val (.int (1 : Int32)), .val (.ref y31), .unset] []))
        refine Runs.by (fun _ hr => XS.aload X31.here hx rfl (hb hby at_215) rfl rfl hr) ?_
        show Runs p e below _ (T31.setTop (mkF m 217 #[.val (.int p0), .val (.int p1), .val (.int p2), .val (.int p3), .val (.int p4), .val (.int p5), .val (.int uu), .val (.int aa), .val (.int bb), .val (.int (1 : Int32)), .val (.int pm), .val (.int pr), .val (.ref b17), .val (.int (own_em2 aa bb pm)), .val (.int (1 : Int32)), .val (.int (own_er2 aa bb pr)), .val (.int (1 : Int32)), .val (.ref y31), .unset] [(.ref y31)]))
        obtain ⟨cl33, Ar33, -, S33, N33', -⟩ := id f31_0
        refine Runs.by (fun t hr => X31.arraylength hx (by exact Ar33.1) (State.isArrayOf_alike hZ.alike Ar33.2.1) (g := (mkF m 217 #[.val (.int p0), .val (.int p1), .val (.int p2), .val (.int p3), .val (.int p4), .val (.int p5), .val (.int uu), .val (.int aa), .val (.int bb), .val (.int (1 : Int32)), .val (.int pm), .val (.int pr), .val (.ref b17), .val (.int (own_em2 aa bb pm)), .val (.int (1 : Int32)), .val (.int (own_er2 aa bb pr)), .val (.int (1 : Int32)), .val (.ref y31), .unset] [(.ref y31)])) rfl rfl (hb hby at_217) t hr) ?_
        rw [len_of S33 N33']
        show Runs p e below _ (T31.setTop (mkF m 218 #[.val (.int p0), .val (.int p1), .val (.int p2), .val (.int p3), .val (.int p4), .val (.int p5), .val (.int uu), .val (.int aa), .val (.int bb), .val (.int (1 : Int32)), .val (.int pm), .val (.int pr), .val (.ref b17), .val (.int (own_em2 aa bb pm)), .val (.int (1 : Int32)), .val (.int (own_er2 aa bb pr)), .val (.int (1 : Int32)), .val (.ref y31), .unset] [(.int (2 : Int32))]))
        refine Runs.by (fun _ hr => XS.iconst X31.here hx rfl (hb hby at_218) hr) ?_
        show Runs p e below _ (T31.setTop (mkF m 219 #[.val (.int p0), .val (.int p1), .val (.int p2), .val (.int p3), .val (.int p4), .val (.int p5), .val (.int uu), .val (.int aa), .val (.int bb), .val (.int (1 : Int32)), .val (.int pm), .val (.int pr), .val (.ref b17), .val (.int (own_em2 aa bb pm)), .val (.int (1 : Int32)), .val (.int (own_er2 aa bb pr)), .val (.int (1 : Int32)), .val (.ref y31), .unset] [(.int (2 : Int32)), (.int (2 : Int32))]))
        have hc219 : (2 : Int32) = (2 : Int32) := (by decide)
        refine Runs.by (fun _ hr => XS.icmpNo X31.here hx rfl (hb hby at_219) rfl (teq hc219).2 hr) ?_
        show Runs p e below _ (T31.setTop (mkF m 222 #[.val (.int p0), .val (.int p1), .val (.int p2), .val (.int p3), .val (.int p4), .val (.int p5), .val (.int uu), .val (.int aa), .val (.int bb), .val (.int (1 : Int32)), .val (.int pm), .val (.int pr), .val (.ref b17), .val (.int (own_em2 aa bb pm)), .val (.int (1 : Int32)), .val (.int (own_er2 aa bb pr)), .val (.int (1 : Int32)), .val (.ref y31), .unset] []))
        refine Runs.by (fun _ hr => XS.aload X31.here hx rfl (hb hby at_222) rfl rfl hr) ?_
        show Runs p e below _ (T31.setTop (mkF m 224 #[.val (.int p0), .val (.int p1), .val (.int p2), .val (.int p3), .val (.int p4), .val (.int p5), .val (.int uu), .val (.int aa), .val (.int bb), .val (.int (1 : Int32)), .val (.int pm), .val (.int pr), .val (.ref b17), .val (.int (own_em2 aa bb pm)), .val (.int (1 : Int32)), .val (.int (own_er2 aa bb pr)), .val (.int (1 : Int32)), .val (.ref y31), .unset] [(.ref y31)]))
        refine Runs.by (fun _ hr => XS.iconst X31.here hx rfl (hb hby at_224) hr) ?_
        show Runs p e below _ (T31.setTop (mkF m 225 #[.val (.int p0), .val (.int p1), .val (.int p2), .val (.int p3), .val (.int p4), .val (.int p5), .val (.int uu), .val (.int aa), .val (.int bb), .val (.int (1 : Int32)), .val (.int pm), .val (.int pr), .val (.ref b17), .val (.int (own_em2 aa bb pm)), .val (.int (1 : Int32)), .val (.int (own_er2 aa bb pr)), .val (.int (1 : Int32)), .val (.ref y31), .unset] [(.int (0 : Int32)), (.ref y31)]))
        obtain ⟨cl34, Ar34, -, S34, N34', H34⟩ := id f31_0
        have ix34 := own_ix (j := (0 : Int32)) (z := (2 : Int32)) (n := 0) rfl (by decide)
        have hin34 : ¬ ((0 : Int32) < 0 ∨ cl34.slots.size ≤ ((0 : Int32)).toNatClampNeg) := inb_of S34 ix34.1
        have hat34 : cl34.slots[((0 : Int32)).toNatClampNeg]? = some (.int ((fun j => if j = 0 then own_min aa bb else own_max aa bb) 0)) := by rw [ix34.2.1]; exact H34 _ ix34.2.2
        refine Runs.by (fun t hr => X31.iaload hx (j := (0 : Int32)) (v := (.int ((fun j => if j = 0 then own_min aa bb else own_max aa bb) 0))) (by exact Ar34.1) (State.isArrayOf_alike hZ.alike Ar34.2.1) Ar34.2.2 hin34 hat34 (g := (mkF m 225 #[.val (.int p0), .val (.int p1), .val (.int p2), .val (.int p3), .val (.int p4), .val (.int p5), .val (.int uu), .val (.int aa), .val (.int bb), .val (.int (1 : Int32)), .val (.int pm), .val (.int pr), .val (.ref b17), .val (.int (own_em2 aa bb pm)), .val (.int (1 : Int32)), .val (.int (own_er2 aa bb pr)), .val (.int (1 : Int32)), .val (.ref y31), .unset] [(.int (0 : Int32)), (.ref y31)])) rfl rfl (hb hby at_225) t hr) ?_
        show Runs p e below _ (T31.setTop (mkF m 226 #[.val (.int p0), .val (.int p1), .val (.int p2), .val (.int p3), .val (.int p4), .val (.int p5), .val (.int uu), .val (.int aa), .val (.int bb), .val (.int (1 : Int32)), .val (.int pm), .val (.int pr), .val (.ref b17), .val (.int (own_em2 aa bb pm)), .val (.int (1 : Int32)), .val (.int (own_er2 aa bb pr)), .val (.int (1 : Int32)), .val (.ref y31), .unset] [(.int ((fun j => if j = 0 then own_min aa bb else own_max aa bb) 0))]))
        refine Runs.by (fun _ hr => XS.iload X31.here hx rfl (hb hby at_226) rfl  hr) ?_
        show Runs p e below _ (T31.setTop (mkF m 228 #[.val (.int p0), .val (.int p1), .val (.int p2), .val (.int p3), .val (.int p4), .val (.int p5), .val (.int uu), .val (.int aa), .val (.int bb), .val (.int (1 : Int32)), .val (.int pm), .val (.int pr), .val (.ref b17), .val (.int (own_em2 aa bb pm)), .val (.int (1 : Int32)), .val (.int (own_er2 aa bb pr)), .val (.int (1 : Int32)), .val (.ref y31), .unset] [(.int aa), (.int ((fun j => if j = 0 then own_min aa bb else own_max aa bb) 0))]))
        refine Runs.by (fun _ hr => XS.iload X31.here hx rfl (hb hby at_228) rfl  hr) ?_
        show Runs p e below _ (T31.setTop (mkF m 230 #[.val (.int p0), .val (.int p1), .val (.int p2), .val (.int p3), .val (.int p4), .val (.int p5), .val (.int uu), .val (.int aa), .val (.int bb), .val (.int (1 : Int32)), .val (.int pm), .val (.int pr), .val (.ref b17), .val (.int (own_em2 aa bb pm)), .val (.int (1 : Int32)), .val (.int (own_er2 aa bb pr)), .val (.int (1 : Int32)), .val (.ref y31), .unset] [(.int bb), (.int aa), (.int ((fun j => if j = 0 then own_min aa bb else own_max aa bb) 0))]))
        obtain ⟨_, _, ⟨T35, L35, k35, n35⟩, -, X35, ⟨Lc35, hQ35, l35, y35, z35⟩, st35⟩ := Jvm.LawKit.callS X31 hx (y := (⟨"java/lang/Math", "min", "(II)I"⟩ : MethodName)) hown (mvT hZ (hw _ (List.mem_of_getElem? (i := 61) rfl))) (mvT hZ (hw _ (List.mem_of_getElem? (i := 62) rfl))) (mvT hZ (hw _ (List.mem_of_getElem? (i := 63) rfl))) (mvT hZ (hw _ (List.mem_of_getElem? (i := 64) rfl))) (by decide) (backOf (W := 1) (rm12 l Z a0 hw [] aa bb  T31.heap n0 (Nat.le_trans Z0 K32.1) ) hZ (hw _ (List.mem_of_getElem? (i := 64) rfl)) (hw _ (List.mem_of_getElem? (i := 63) rfl)) (by decide) (by decide)) (g := (mkF m 230 #[.val (.int p0), .val (.int p1), .val (.int p2), .val (.int p3), .val (.int p4), .val (.int p5), .val (.int uu), .val (.int aa), .val (.int bb), .val (.int (1 : Int32)), .val (.int pm), .val (.int pr), .val (.ref b17), .val (.int (own_em2 aa bb pm)), .val (.int (1 : Int32)), .val (.int (own_er2 aa bb pr)), .val (.int (1 : Int32)), .val (.ref y31), .unset] [(.int bb), (.int aa), (.int ((fun j => if j = 0 then own_min aa bb else own_max aa bb) 0))])) rfl (by rw [hml]; rfl) (argsL := [(.int aa), (.int bb)]) (rest := [(.int ((fun j => if j = 0 then own_min aa bb else own_max aa bb) 0))]) (lenOf pd_6 rfl) rfl (by show 2 * 0 + _ ≤ _; exact Nat.le_of_eq rfl) (hb hby at_230) (fun _ _ => ⟨rfl, rfl, (by decide : 4 + 0 ≤ _), (by decide : 15 + 0 ≤ _)⟩)
        dsimp only [Pt.U, Pt.locs, Pt.cells, Pt.slots] at X35 l35 y35 z35 st35 hQ35
        subst l35 y35 z35
        obtain ⟨rfl, Nq35, eq35⟩ := hQ35
        have N35 := Fr.app N31 Nq35
        refine Runs.by (fun t hr => st35 t hr) ?_
        show Runs p e below _ (T35.setTop (mkF m 233 #[.val (.int p0), .val (.int p1), .val (.int p2), .val (.int p3), .val (.int p4), .val (.int p5), .val (.int uu), .val (.int aa), .val (.int bb), .val (.int (1 : Int32)), .val (.int pm), .val (.int pr), .val (.ref b17), .val (.int (own_em2 aa bb pm)), .val (.int (1 : Int32)), .val (.int (own_er2 aa bb pr)), .val (.int (1 : Int32)), .val (.ref y31), .unset] [(.int (own_min aa bb)), (.int ((fun j => if j = 0 then own_min aa bb else own_max aa bb) 0))]))
        have hc233 : ((fun j => if j = 0 then own_min aa bb else own_max aa bb) 0) = (own_min aa bb) := rfl
        refine Runs.by (fun _ hr => XS.icmpNo X35.here hx rfl (hb hby at_233) rfl (teq hc233).2 hr) ?_
        show Runs p e below _ (T35.setTop (mkF m 236 #[.val (.int p0), .val (.int p1), .val (.int p2), .val (.int p3), .val (.int p4), .val (.int p5), .val (.int uu), .val (.int aa), .val (.int bb), .val (.int (1 : Int32)), .val (.int pm), .val (.int pr), .val (.ref b17), .val (.int (own_em2 aa bb pm)), .val (.int (1 : Int32)), .val (.int (own_er2 aa bb pr)), .val (.int (1 : Int32)), .val (.ref y31), .unset] []))
        refine Runs.by (fun _ hr => XS.aload X35.here hx rfl (hb hby at_236) rfl rfl hr) ?_
        show Runs p e below _ (T35.setTop (mkF m 238 #[.val (.int p0), .val (.int p1), .val (.int p2), .val (.int p3), .val (.int p4), .val (.int p5), .val (.int uu), .val (.int aa), .val (.int bb), .val (.int (1 : Int32)), .val (.int pm), .val (.int pr), .val (.ref b17), .val (.int (own_em2 aa bb pm)), .val (.int (1 : Int32)), .val (.int (own_er2 aa bb pr)), .val (.int (1 : Int32)), .val (.ref y31), .unset] [(.ref y31)]))
        refine Runs.by (fun _ hr => XS.iconst X35.here hx rfl (hb hby at_238) hr) ?_
        show Runs p e below _ (T35.setTop (mkF m 239 #[.val (.int p0), .val (.int p1), .val (.int p2), .val (.int p3), .val (.int p4), .val (.int p5), .val (.int uu), .val (.int aa), .val (.int bb), .val (.int (1 : Int32)), .val (.int pm), .val (.int pr), .val (.ref b17), .val (.int (own_em2 aa bb pm)), .val (.int (1 : Int32)), .val (.int (own_er2 aa bb pr)), .val (.int (1 : Int32)), .val (.ref y31), .unset] [(.int (1 : Int32)), (.ref y31)]))
        obtain ⟨cl36, Ar36, -, S36, N36', H36⟩ := id f31_0
        have ix36 := own_ix (j := (1 : Int32)) (z := (2 : Int32)) (n := 1) rfl (by decide)
        have hin36 : ¬ ((1 : Int32) < 0 ∨ cl36.slots.size ≤ ((1 : Int32)).toNatClampNeg) := inb_of S36 ix36.1
        have hat36 : cl36.slots[((1 : Int32)).toNatClampNeg]? = some (.int ((fun j => if j = 0 then own_min aa bb else own_max aa bb) 1)) := by rw [ix36.2.1]; exact H36 _ ix36.2.2
        refine Runs.by (fun t hr => X35.iaload hx (j := (1 : Int32)) (v := (.int ((fun j => if j = 0 then own_min aa bb else own_max aa bb) 1))) (by rw [eq35]; exact Ar36.1) (State.isArrayOf_alike hZ.alike Ar36.2.1) Ar36.2.2 hin36 hat36 (g := (mkF m 239 #[.val (.int p0), .val (.int p1), .val (.int p2), .val (.int p3), .val (.int p4), .val (.int p5), .val (.int uu), .val (.int aa), .val (.int bb), .val (.int (1 : Int32)), .val (.int pm), .val (.int pr), .val (.ref b17), .val (.int (own_em2 aa bb pm)), .val (.int (1 : Int32)), .val (.int (own_er2 aa bb pr)), .val (.int (1 : Int32)), .val (.ref y31), .unset] [(.int (1 : Int32)), (.ref y31)])) rfl rfl (hb hby at_239) t hr) ?_
        show Runs p e below _ (T35.setTop (mkF m 240 #[.val (.int p0), .val (.int p1), .val (.int p2), .val (.int p3), .val (.int p4), .val (.int p5), .val (.int uu), .val (.int aa), .val (.int bb), .val (.int (1 : Int32)), .val (.int pm), .val (.int pr), .val (.ref b17), .val (.int (own_em2 aa bb pm)), .val (.int (1 : Int32)), .val (.int (own_er2 aa bb pr)), .val (.int (1 : Int32)), .val (.ref y31), .unset] [(.int ((fun j => if j = 0 then own_min aa bb else own_max aa bb) 1))]))
        refine Runs.by (fun _ hr => XS.iload X35.here hx rfl (hb hby at_240) rfl  hr) ?_
        show Runs p e below _ (T35.setTop (mkF m 242 #[.val (.int p0), .val (.int p1), .val (.int p2), .val (.int p3), .val (.int p4), .val (.int p5), .val (.int uu), .val (.int aa), .val (.int bb), .val (.int (1 : Int32)), .val (.int pm), .val (.int pr), .val (.ref b17), .val (.int (own_em2 aa bb pm)), .val (.int (1 : Int32)), .val (.int (own_er2 aa bb pr)), .val (.int (1 : Int32)), .val (.ref y31), .unset] [(.int aa), (.int ((fun j => if j = 0 then own_min aa bb else own_max aa bb) 1))]))
        refine Runs.by (fun _ hr => XS.iload X35.here hx rfl (hb hby at_242) rfl  hr) ?_
        show Runs p e below _ (T35.setTop (mkF m 244 #[.val (.int p0), .val (.int p1), .val (.int p2), .val (.int p3), .val (.int p4), .val (.int p5), .val (.int uu), .val (.int aa), .val (.int bb), .val (.int (1 : Int32)), .val (.int pm), .val (.int pr), .val (.ref b17), .val (.int (own_em2 aa bb pm)), .val (.int (1 : Int32)), .val (.int (own_er2 aa bb pr)), .val (.int (1 : Int32)), .val (.ref y31), .unset] [(.int bb), (.int aa), (.int ((fun j => if j = 0 then own_min aa bb else own_max aa bb) 1))]))
        obtain ⟨_, _, ⟨T37, L37, k37, n37⟩, -, X37, ⟨Lc37, hQ37, l37, y37, z37⟩, st37⟩ := Jvm.LawKit.callS X35 hx (y := (⟨"java/lang/Math", "max", "(II)I"⟩ : MethodName)) hown (mvT hZ (hw _ (List.mem_of_getElem? (i := 65) rfl))) (mvT hZ (hw _ (List.mem_of_getElem? (i := 66) rfl))) (mvT hZ (hw _ (List.mem_of_getElem? (i := 63) rfl))) (mvT hZ (hw _ (List.mem_of_getElem? (i := 67) rfl))) (by decide) (backOf (W := 1) (rm13 l Z a0 hw [] aa bb  T31.heap n0 (Nat.le_trans Z0 K32.1) ) hZ (hw _ (List.mem_of_getElem? (i := 67) rfl)) (hw _ (List.mem_of_getElem? (i := 63) rfl)) (by decide) (by decide)) (g := (mkF m 244 #[.val (.int p0), .val (.int p1), .val (.int p2), .val (.int p3), .val (.int p4), .val (.int p5), .val (.int uu), .val (.int aa), .val (.int bb), .val (.int (1 : Int32)), .val (.int pm), .val (.int pr), .val (.ref b17), .val (.int (own_em2 aa bb pm)), .val (.int (1 : Int32)), .val (.int (own_er2 aa bb pr)), .val (.int (1 : Int32)), .val (.ref y31), .unset] [(.int bb), (.int aa), (.int ((fun j => if j = 0 then own_min aa bb else own_max aa bb) 1))])) rfl (by rw [hml]; rfl) (argsL := [(.int aa), (.int bb)]) (rest := [(.int ((fun j => if j = 0 then own_min aa bb else own_max aa bb) 1))]) (lenOf pd_6 rfl) rfl (by show 2 * 0 + _ ≤ _; exact Nat.le_of_eq rfl) (hb hby at_244) (fun _ _ => ⟨rfl, eq35, (by decide : 4 + 0 ≤ _), (by decide : 15 + 0 ≤ _)⟩)
        dsimp only [Pt.U, Pt.locs, Pt.cells, Pt.slots] at X37 l37 y37 z37 st37 hQ37
        subst l37 y37 z37
        obtain ⟨rfl, Nq37, eq37⟩ := hQ37
        have N37 := Fr.app N35 Nq37
        refine Runs.by (fun t hr => st37 t hr) ?_
        show Runs p e below _ (T37.setTop (mkF m 247 #[.val (.int p0), .val (.int p1), .val (.int p2), .val (.int p3), .val (.int p4), .val (.int p5), .val (.int uu), .val (.int aa), .val (.int bb), .val (.int (1 : Int32)), .val (.int pm), .val (.int pr), .val (.ref b17), .val (.int (own_em2 aa bb pm)), .val (.int (1 : Int32)), .val (.int (own_er2 aa bb pr)), .val (.int (1 : Int32)), .val (.ref y31), .unset] [(.int (own_max aa bb)), (.int ((fun j => if j = 0 then own_min aa bb else own_max aa bb) 1))]))
        have hc247 : ((fun j => if j = 0 then own_min aa bb else own_max aa bb) 1) = (own_max aa bb) := rfl
        refine Runs.by (fun _ hr => XS.icmpNo X37.here hx rfl (hb hby at_247) rfl (teq hc247).2 hr) ?_
        show Runs p e below _ (T37.setTop (mkF m 250 #[.val (.int p0), .val (.int p1), .val (.int p2), .val (.int p3), .val (.int p4), .val (.int p5), .val (.int uu), .val (.int aa), .val (.int bb), .val (.int (1 : Int32)), .val (.int pm), .val (.int pr), .val (.ref b17), .val (.int (own_em2 aa bb pm)), .val (.int (1 : Int32)), .val (.int (own_er2 aa bb pr)), .val (.int (1 : Int32)), .val (.ref y31), .unset] []))
        refine Runs.by (fun _ hr => XS.iconst X37.here hx rfl (hb hby at_250) hr) ?_
        show Runs p e below _ (T37.setTop (mkF m 251 #[.val (.int p0), .val (.int p1), .val (.int p2), .val (.int p3), .val (.int p4), .val (.int p5), .val (.int uu), .val (.int aa), .val (.int bb), .val (.int (1 : Int32)), .val (.int pm), .val (.int pr), .val (.ref b17), .val (.int (own_em2 aa bb pm)), .val (.int (1 : Int32)), .val (.int (own_er2 aa bb pr)), .val (.int (1 : Int32)), .val (.ref y31), .unset] [(.int (1 : Int32))]))
        refine Runs.by (fun _ hr => XS.goto X37.here hx rfl (pc0 := 251) (pc' := 255) rfl (hb hby at_251) (by decide) (by decide) hr) ?_
        show Runs p e below _ (T37.setTop (mkF m 255 #[.val (.int p0), .val (.int p1), .val (.int p2), .val (.int p3), .val (.int p4), .val (.int p5), .val (.int uu), .val (.int aa), .val (.int bb), .val (.int (1 : Int32)), .val (.int pm), .val (.int pr), .val (.ref b17), .val (.int (own_em2 aa bb pm)), .val (.int (1 : Int32)), .val (.int (own_er2 aa bb pr)), .val (.int (1 : Int32)), .val (.ref y31), .unset] [(.int (1 : Int32))]))
        refine Runs.by (fun _ hr => XS.istore X37.here hx rfl (hb hby at_255) rfl (l' := #[.val (.int p0), .val (.int p1), .val (.int p2), .val (.int p3), .val (.int p4), .val (.int p5), .val (.int uu), .val (.int aa), .val (.int bb), .val (.int (1 : Int32)), .val (.int pm), .val (.int pr), .val (.ref b17), .val (.int (own_em2 aa bb pm)), .val (.int (1 : Int32)), .val (.int (own_er2 aa bb pr)), .val (.int (1 : Int32)), .val (.ref y31), .val (.int (1 : Int32))]) rfl hr) ?_
        show Runs p e below _ (T37.setTop (mkF m 257 #[.val (.int p0), .val (.int p1), .val (.int p2), .val (.int p3), .val (.int p4), .val (.int p5), .val (.int uu), .val (.int aa), .val (.int bb), .val (.int (1 : Int32)), .val (.int pm), .val (.int pr), .val (.ref b17), .val (.int (own_em2 aa bb pm)), .val (.int (1 : Int32)), .val (.int (own_er2 aa bb pr)), .val (.int (1 : Int32)), .val (.ref y31), .val (.int (1 : Int32))] []))
        refine Runs.by (fun _ hr => XS.goto X37.here hx rfl (pc0 := 257) (pc' := 283) rfl (hb hby at_257) (by decide) (by decide) hr) ?_
        show Runs p e below _ (T37.setTop (mkF m 283 #[.val (.int p0), .val (.int p1), .val (.int p2), .val (.int p3), .val (.int p4), .val (.int p5), .val (.int uu), .val (.int aa), .val (.int bb), .val (.int (1 : Int32)), .val (.int pm), .val (.int pr), .val (.ref b17), .val (.int (own_em2 aa bb pm)), .val (.int (1 : Int32)), .val (.int (own_er2 aa bb pr)), .val (.int (1 : Int32)), .val (.ref y31), .val (.int (1 : Int32))] []))
        refine Runs.by (fun _ hr => XS.iload X37.here hx rfl (hb hby at_283) rfl  hr) ?_
        show Runs p e below _ (T37.setTop (mkF m 285 #[.val (.int p0), .val (.int p1), .val (.int p2), .val (.int p3), .val (.int p4), .val (.int p5), .val (.int uu), .val (.int aa), .val (.int bb), .val (.int (1 : Int32)), .val (.int pm), .val (.int pr), .val (.ref b17), .val (.int (own_em2 aa bb pm)), .val (.int (1 : Int32)), .val (.int (own_er2 aa bb pr)), .val (.int (1 : Int32)), .val (.ref y31), .val (.int (1 : Int32))] [(.int (1 : Int32))]))
        have hc285 : ¬ ((1 : Int32) = (0 : Int32)) := (by decide)
        refine Runs.by (fun _ hr => XS.ifNo X37.here hx rfl (hb hby at_285) rfl ((if0 _ _).trans (feq hc285).1) hr) ?_
        show Runs p e below _ (T37.setTop (mkF m 288 #[.val (.int p0), .val (.int p1), .val (.int p2), .val (.int p3), .val (.int p4), .val (.int p5), .val (.int uu), .val (.int aa), .val (.int bb), .val (.int (1 : Int32)), .val (.int pm), .val (.int pr), .val (.ref b17), .val (.int (own_em2 aa bb pm)), .val (.int (1 : Int32)), .val (.int (own_er2 aa bb pr)), .val (.int (1 : Int32)), .val (.ref y31), .val (.int (1 : Int32))] []))
        refine Runs.by (fun _ hr => XS.iload X37.here hx rfl (hb hby at_288) rfl  hr) ?_
        show Runs p e below _ (T37.setTop (mkF m 290 #[.val (.int p0), .val (.int p1), .val (.int p2), .val (.int p3), .val (.int p4), .val (.int p5), .val (.int uu), .val (.int aa), .val (.int bb), .val (.int (1 : Int32)), .val (.int pm), .val (.int pr), .val (.ref b17), .val (.int (own_em2 aa bb pm)), .val (.int (1 : Int32)), .val (.int (own_er2 aa bb pr)), .val (.int (1 : Int32)), .val (.ref y31), .val (.int (1 : Int32))] [(.int (1 : Int32))]))
        have hc290 : ¬ ((1 : Int32) = (0 : Int32)) := (by decide)
        refine Runs.by (fun _ hr => XS.ifNo X37.here hx rfl (hb hby at_290) rfl ((if0 _ _).trans (feq hc290).1) hr) ?_
        show Runs p e below _ (T37.setTop (mkF m 293 #[.val (.int p0), .val (.int p1), .val (.int p2), .val (.int p3), .val (.int p4), .val (.int p5), .val (.int uu), .val (.int aa), .val (.int bb), .val (.int (1 : Int32)), .val (.int pm), .val (.int pr), .val (.ref b17), .val (.int (own_em2 aa bb pm)), .val (.int (1 : Int32)), .val (.int (own_er2 aa bb pr)), .val (.int (1 : Int32)), .val (.ref y31), .val (.int (1 : Int32))] []))
        refine Runs.by (fun _ hr => XS.iload X37.here hx rfl (hb hby at_293) rfl  hr) ?_
        show Runs p e below _ (T37.setTop (mkF m 295 #[.val (.int p0), .val (.int p1), .val (.int p2), .val (.int p3), .val (.int p4), .val (.int p5), .val (.int uu), .val (.int aa), .val (.int bb), .val (.int (1 : Int32)), .val (.int pm), .val (.int pr), .val (.ref b17), .val (.int (own_em2 aa bb pm)), .val (.int (1 : Int32)), .val (.int (own_er2 aa bb pr)), .val (.int (1 : Int32)), .val (.ref y31), .val (.int (1 : Int32))] [(.int (1 : Int32))]))
        have hc295 : ¬ ((1 : Int32) = (0 : Int32)) := (by decide)
        refine Runs.by (fun _ hr => XS.ifNo X37.here hx rfl (hb hby at_295) rfl ((if0 _ _).trans (feq hc295).1) hr) ?_
        show Runs p e below _ (T37.setTop (mkF m 298 #[.val (.int p0), .val (.int p1), .val (.int p2), .val (.int p3), .val (.int p4), .val (.int p5), .val (.int uu), .val (.int aa), .val (.int bb), .val (.int (1 : Int32)), .val (.int pm), .val (.int pr), .val (.ref b17), .val (.int (own_em2 aa bb pm)), .val (.int (1 : Int32)), .val (.int (own_er2 aa bb pr)), .val (.int (1 : Int32)), .val (.ref y31), .val (.int (1 : Int32))] []))
        refine Runs.by (fun _ hr => XS.iconst X37.here hx rfl (hb hby at_298) hr) ?_
        show Runs p e below _ (T37.setTop (mkF m 299 #[.val (.int p0), .val (.int p1), .val (.int p2), .val (.int p3), .val (.int p4), .val (.int p5), .val (.int uu), .val (.int aa), .val (.int bb), .val (.int (1 : Int32)), .val (.int pm), .val (.int pr), .val (.ref b17), .val (.int (own_em2 aa bb pm)), .val (.int (1 : Int32)), .val (.int (own_er2 aa bb pr)), .val (.int (1 : Int32)), .val (.ref y31), .val (.int (1 : Int32))] [(.int (1 : Int32))]))
        refine Runs.by (fun _ hr => XS.goto X37.here hx rfl (pc0 := 299) (pc' := 303) rfl (hb hby at_299) (by decide) (by decide) hr) ?_
        show Runs p e below _ (T37.setTop (mkF m 303 #[.val (.int p0), .val (.int p1), .val (.int p2), .val (.int p3), .val (.int p4), .val (.int p5), .val (.int uu), .val (.int aa), .val (.int bb), .val (.int (1 : Int32)), .val (.int pm), .val (.int pr), .val (.ref b17), .val (.int (own_em2 aa bb pm)), .val (.int (1 : Int32)), .val (.int (own_er2 aa bb pr)), .val (.int (1 : Int32)), .val (.ref y31), .val (.int (1 : Int32))] [(.int (1 : Int32))]))
        refine Runs.ret X37 hx hrt hlk (Or.inl ⟨rfl, by simp, _, rfl⟩) (by rfl) (hb hby at_303) (by decide) (by decide) ?_
        rw [eq37]
        exact ⟨rfl, N37⟩
      show Runs p e below _ (T27.setTop (mkF m 152 #[.val (.int p0), .val (.int p1), .val (.int p2), .val (.int p3), .val (.int p4), .val (.int p5), .val (.int uu), .val (.int aa), .val (.int bb), .val (.int (1 : Int32)), .val (.int pm), .val (.int pr), .val (.ref b17), .val (.int (own_em2 aa bb pm)), .val (.int (1 : Int32)), .unset, .unset, .unset, .unset] []))
      refine Runs.by (fun _ hr => XS.iload X27.here hx rfl (hb hby at_152) rfl  hr) ?_
      show Runs p e below _ (T27.setTop (mkF m 154 #[.val (.int p0), .val (.int p1), .val (.int p2), .val (.int p3), .val (.int p4), .val (.int p5), .val (.int uu), .val (.int aa), .val (.int bb), .val (.int (1 : Int32)), .val (.int pm), .val (.int pr), .val (.ref b17), .val (.int (own_em2 aa bb pm)), .val (.int (1 : Int32)), .unset, .unset, .unset, .unset] [(.int aa)]))
      refine Runs.by (fun _ hr => XS.iload X27.here hx rfl (hb hby at_154) rfl  hr) ?_
      show Runs p e below _ (T27.setTop (mkF m 156 #[.val (.int p0), .val (.int p1), .val (.int p2), .val (.int p3), .val (.int p4), .val (.int p5), .val (.int uu), .val (.int aa), .val (.int bb), .val (.int (1 : Int32)), .val (.int pm), .val (.int pr), .val (.ref b17), .val (.int (own_em2 aa bb pm)), .val (.int (1 : Int32)), .unset, .unset, .unset, .unset] [(.int pr), (.int aa)]))
      by_cases hc156 : aa < pr
      · -- pc 156: aa < pr
        refine Runs.by (fun _ hr => XS.icmpNo X27.here hx rfl (hb hby at_156) rfl (tlt hc156).2.1 hr) ?_
        show Runs p e below _ (T27.setTop (mkF m 159 #[.val (.int p0), .val (.int p1), .val (.int p2), .val (.int p3), .val (.int p4), .val (.int p5), .val (.int uu), .val (.int aa), .val (.int bb), .val (.int (1 : Int32)), .val (.int pm), .val (.int pr), .val (.ref b17), .val (.int (own_em2 aa bb pm)), .val (.int (1 : Int32)), .unset, .unset, .unset, .unset] []))
        refine Runs.by (fun _ hr => XS.iconst X27.here hx rfl (hb hby at_159) hr) ?_
        show Runs p e below _ (T27.setTop (mkF m 160 #[.val (.int p0), .val (.int p1), .val (.int p2), .val (.int p3), .val (.int p4), .val (.int p5), .val (.int uu), .val (.int aa), .val (.int bb), .val (.int (1 : Int32)), .val (.int pm), .val (.int pr), .val (.ref b17), .val (.int (own_em2 aa bb pm)), .val (.int (1 : Int32)), .unset, .unset, .unset, .unset] [(.int (1 : Int32))]))
        refine Runs.by (fun _ hr => XS.goto X27.here hx rfl (pc0 := 160) (pc' := 164) rfl (hb hby at_160) (by decide) (by decide) hr) ?_
        show Runs p e below _ (T27.setTop (mkF m 164 #[.val (.int p0), .val (.int p1), .val (.int p2), .val (.int p3), .val (.int p4), .val (.int p5), .val (.int uu), .val (.int aa), .val (.int bb), .val (.int (1 : Int32)), .val (.int pm), .val (.int pr), .val (.ref b17), .val (.int (own_em2 aa bb pm)), .val (.int (1 : Int32)), .unset, .unset, .unset, .unset] [(.int (1 : Int32))]))
        refine Runs.by (fun _ hr => XS.iload X27.here hx rfl (hb hby at_164) rfl  hr) ?_
        show Runs p e below _ (T27.setTop (mkF m 166 #[.val (.int p0), .val (.int p1), .val (.int p2), .val (.int p3), .val (.int p4), .val (.int p5), .val (.int uu), .val (.int aa), .val (.int bb), .val (.int (1 : Int32)), .val (.int pm), .val (.int pr), .val (.ref b17), .val (.int (own_em2 aa bb pm)), .val (.int (1 : Int32)), .unset, .unset, .unset, .unset] [(.int (1 : Int32)), (.int (1 : Int32))]))
        have hc166 : ¬ ((1 : Int32) = (0 : Int32)) := (by decide)
        refine Runs.by (fun _ hr => XS.ifNo X27.here hx rfl (hb hby at_166) rfl ((if0 _ _).trans (feq hc166).1) hr) ?_
        show Runs p e below _ (T27.setTop (mkF m 169 #[.val (.int p0), .val (.int p1), .val (.int p2), .val (.int p3), .val (.int p4), .val (.int p5), .val (.int uu), .val (.int aa), .val (.int bb), .val (.int (1 : Int32)), .val (.int pm), .val (.int pr), .val (.ref b17), .val (.int (own_em2 aa bb pm)), .val (.int (1 : Int32)), .unset, .unset, .unset, .unset] [(.int (1 : Int32))]))
        refine Runs.by (fun _ hr => XS.iload X27.here hx rfl (hb hby at_169) rfl  hr) ?_
        show Runs p e below _ (T27.setTop (mkF m 171 #[.val (.int p0), .val (.int p1), .val (.int p2), .val (.int p3), .val (.int p4), .val (.int p5), .val (.int uu), .val (.int aa), .val (.int bb), .val (.int (1 : Int32)), .val (.int pm), .val (.int pr), .val (.ref b17), .val (.int (own_em2 aa bb pm)), .val (.int (1 : Int32)), .unset, .unset, .unset, .unset] [(.int bb), (.int (1 : Int32))]))
        refine Runs.by (fun _ hr => XS.iload X27.here hx rfl (hb hby at_171) rfl  hr) ?_
        show Runs p e below _ (T27.setTop (mkF m 173 #[.val (.int p0), .val (.int p1), .val (.int p2), .val (.int p3), .val (.int p4), .val (.int p5), .val (.int uu), .val (.int aa), .val (.int bb), .val (.int (1 : Int32)), .val (.int pm), .val (.int pr), .val (.ref b17), .val (.int (own_em2 aa bb pm)), .val (.int (1 : Int32)), .unset, .unset, .unset, .unset] [(.int pr), (.int bb), (.int (1 : Int32))]))
        by_cases hc173 : bb < pr
        · -- pc 173: bb < pr
          refine Runs.by (fun _ hr => XS.icmpNo X27.here hx rfl (hb hby at_173) rfl (tlt hc173).2.1 hr) ?_
          show Runs p e below _ (T27.setTop (mkF m 176 #[.val (.int p0), .val (.int p1), .val (.int p2), .val (.int p3), .val (.int p4), .val (.int p5), .val (.int uu), .val (.int aa), .val (.int bb), .val (.int (1 : Int32)), .val (.int pm), .val (.int pr), .val (.ref b17), .val (.int (own_em2 aa bb pm)), .val (.int (1 : Int32)), .unset, .unset, .unset, .unset] [(.int (1 : Int32))]))
          refine Runs.by (fun _ hr => XS.iconst X27.here hx rfl (hb hby at_176) hr) ?_
          show Runs p e below _ (T27.setTop (mkF m 177 #[.val (.int p0), .val (.int p1), .val (.int p2), .val (.int p3), .val (.int p4), .val (.int p5), .val (.int uu), .val (.int aa), .val (.int bb), .val (.int (1 : Int32)), .val (.int pm), .val (.int pr), .val (.ref b17), .val (.int (own_em2 aa bb pm)), .val (.int (1 : Int32)), .unset, .unset, .unset, .unset] [(.int (1 : Int32)), (.int (1 : Int32))]))
          refine Runs.by (fun _ hr => XS.goto X27.here hx rfl (pc0 := 177) (pc' := 181) rfl (hb hby at_177) (by decide) (by decide) hr) ?_
          show Runs p e below _ (T27.setTop (mkF m 181 #[.val (.int p0), .val (.int p1), .val (.int p2), .val (.int p3), .val (.int p4), .val (.int p5), .val (.int uu), .val (.int aa), .val (.int bb), .val (.int (1 : Int32)), .val (.int pm), .val (.int pr), .val (.ref b17), .val (.int (own_em2 aa bb pm)), .val (.int (1 : Int32)), .unset, .unset, .unset, .unset] [(.int (1 : Int32)), (.int (1 : Int32))]))
          refine Runs.by (fun _ hr => XS.iadd X27.here hx rfl (hb hby at_181) rfl hr) ?_
          show Runs p e below _ (T27.setTop (mkF m 182 #[.val (.int p0), .val (.int p1), .val (.int p2), .val (.int p3), .val (.int p4), .val (.int p5), .val (.int uu), .val (.int aa), .val (.int bb), .val (.int (1 : Int32)), .val (.int pm), .val (.int pr), .val (.ref b17), .val (.int (own_em2 aa bb pm)), .val (.int (1 : Int32)), .unset, .unset, .unset, .unset] [(.int (2 : Int32))]))
          refine Runs.by (fun _ hr => XS.istore X27.here hx rfl (hb hby at_182) rfl (l' := #[.val (.int p0), .val (.int p1), .val (.int p2), .val (.int p3), .val (.int p4), .val (.int p5), .val (.int uu), .val (.int aa), .val (.int bb), .val (.int (1 : Int32)), .val (.int pm), .val (.int pr), .val (.ref b17), .val (.int (own_em2 aa bb pm)), .val (.int (1 : Int32)), .val (.int (2 : Int32)), .unset, .unset, .unset]) rfl hr) ?_
          have e15 : own_er2 aa bb pr = (2 : Int32) := by simp only [own_er1, own_er2, *, if_true, if_false]; rfl
          rw [e15] at J184
          exact J184  _ _ X27 rfl N27 
        · -- pc 173: not bb < pr
          refine Runs.by (fun _ hr => XS.icmpYes X27.here hx rfl (pc0 := 173) (pc' := 180) rfl (hb hby at_173) rfl (flt hc173).2.1 (by decide) (by decide) hr) ?_
          show Runs p e below _ (T27.setTop (mkF m 180 #[.val (.int p0), .val (.int p1), .val (.int p2), .val (.int p3), .val (.int p4), .val (.int p5), .val (.int uu), .val (.int aa), .val (.int bb), .val (.int (1 : Int32)), .val (.int pm), .val (.int pr), .val (.ref b17), .val (.int (own_em2 aa bb pm)), .val (.int (1 : Int32)), .unset, .unset, .unset, .unset] [(.int (1 : Int32))]))
          refine Runs.by (fun _ hr => XS.iconst X27.here hx rfl (hb hby at_180) hr) ?_
          show Runs p e below _ (T27.setTop (mkF m 181 #[.val (.int p0), .val (.int p1), .val (.int p2), .val (.int p3), .val (.int p4), .val (.int p5), .val (.int uu), .val (.int aa), .val (.int bb), .val (.int (1 : Int32)), .val (.int pm), .val (.int pr), .val (.ref b17), .val (.int (own_em2 aa bb pm)), .val (.int (1 : Int32)), .unset, .unset, .unset, .unset] [(.int (0 : Int32)), (.int (1 : Int32))]))
          refine Runs.by (fun _ hr => XS.iadd X27.here hx rfl (hb hby at_181) rfl hr) ?_
          show Runs p e below _ (T27.setTop (mkF m 182 #[.val (.int p0), .val (.int p1), .val (.int p2), .val (.int p3), .val (.int p4), .val (.int p5), .val (.int uu), .val (.int aa), .val (.int bb), .val (.int (1 : Int32)), .val (.int pm), .val (.int pr), .val (.ref b17), .val (.int (own_em2 aa bb pm)), .val (.int (1 : Int32)), .unset, .unset, .unset, .unset] [(.int (1 : Int32))]))
          refine Runs.by (fun _ hr => XS.istore X27.here hx rfl (hb hby at_182) rfl (l' := #[.val (.int p0), .val (.int p1), .val (.int p2), .val (.int p3), .val (.int p4), .val (.int p5), .val (.int uu), .val (.int aa), .val (.int bb), .val (.int (1 : Int32)), .val (.int pm), .val (.int pr), .val (.ref b17), .val (.int (own_em2 aa bb pm)), .val (.int (1 : Int32)), .val (.int (1 : Int32)), .unset, .unset, .unset]) rfl hr) ?_
          have e15 : own_er2 aa bb pr = (1 : Int32) := by simp only [own_er1, own_er2, *, if_true, if_false]; rfl
          rw [e15] at J184
          exact J184  _ _ X27 rfl N27 
      · -- pc 156: not aa < pr
        refine Runs.by (fun _ hr => XS.icmpYes X27.here hx rfl (pc0 := 156) (pc' := 163) rfl (hb hby at_156) rfl (flt hc156).2.1 (by decide) (by decide) hr) ?_
        show Runs p e below _ (T27.setTop (mkF m 163 #[.val (.int p0), .val (.int p1), .val (.int p2), .val (.int p3), .val (.int p4), .val (.int p5), .val (.int uu), .val (.int aa), .val (.int bb), .val (.int (1 : Int32)), .val (.int pm), .val (.int pr), .val (.ref b17), .val (.int (own_em2 aa bb pm)), .val (.int (1 : Int32)), .unset, .unset, .unset, .unset] []))
        refine Runs.by (fun _ hr => XS.iconst X27.here hx rfl (hb hby at_163) hr) ?_
        show Runs p e below _ (T27.setTop (mkF m 164 #[.val (.int p0), .val (.int p1), .val (.int p2), .val (.int p3), .val (.int p4), .val (.int p5), .val (.int uu), .val (.int aa), .val (.int bb), .val (.int (1 : Int32)), .val (.int pm), .val (.int pr), .val (.ref b17), .val (.int (own_em2 aa bb pm)), .val (.int (1 : Int32)), .unset, .unset, .unset, .unset] [(.int (0 : Int32))]))
        refine Runs.by (fun _ hr => XS.iload X27.here hx rfl (hb hby at_164) rfl  hr) ?_
        show Runs p e below _ (T27.setTop (mkF m 166 #[.val (.int p0), .val (.int p1), .val (.int p2), .val (.int p3), .val (.int p4), .val (.int p5), .val (.int uu), .val (.int aa), .val (.int bb), .val (.int (1 : Int32)), .val (.int pm), .val (.int pr), .val (.ref b17), .val (.int (own_em2 aa bb pm)), .val (.int (1 : Int32)), .unset, .unset, .unset, .unset] [(.int (1 : Int32)), (.int (0 : Int32))]))
        have hc166 : ¬ ((1 : Int32) = (0 : Int32)) := (by decide)
        refine Runs.by (fun _ hr => XS.ifNo X27.here hx rfl (hb hby at_166) rfl ((if0 _ _).trans (feq hc166).1) hr) ?_
        show Runs p e below _ (T27.setTop (mkF m 169 #[.val (.int p0), .val (.int p1), .val (.int p2), .val (.int p3), .val (.int p4), .val (.int p5), .val (.int uu), .val (.int aa), .val (.int bb), .val (.int (1 : Int32)), .val (.int pm), .val (.int pr), .val (.ref b17), .val (.int (own_em2 aa bb pm)), .val (.int (1 : Int32)), .unset, .unset, .unset, .unset] [(.int (0 : Int32))]))
        refine Runs.by (fun _ hr => XS.iload X27.here hx rfl (hb hby at_169) rfl  hr) ?_
        show Runs p e below _ (T27.setTop (mkF m 171 #[.val (.int p0), .val (.int p1), .val (.int p2), .val (.int p3), .val (.int p4), .val (.int p5), .val (.int uu), .val (.int aa), .val (.int bb), .val (.int (1 : Int32)), .val (.int pm), .val (.int pr), .val (.ref b17), .val (.int (own_em2 aa bb pm)), .val (.int (1 : Int32)), .unset, .unset, .unset, .unset] [(.int bb), (.int (0 : Int32))]))
        refine Runs.by (fun _ hr => XS.iload X27.here hx rfl (hb hby at_171) rfl  hr) ?_
        show Runs p e below _ (T27.setTop (mkF m 173 #[.val (.int p0), .val (.int p1), .val (.int p2), .val (.int p3), .val (.int p4), .val (.int p5), .val (.int uu), .val (.int aa), .val (.int bb), .val (.int (1 : Int32)), .val (.int pm), .val (.int pr), .val (.ref b17), .val (.int (own_em2 aa bb pm)), .val (.int (1 : Int32)), .unset, .unset, .unset, .unset] [(.int pr), (.int bb), (.int (0 : Int32))]))
        by_cases hc173 : bb < pr
        · -- pc 173: bb < pr
          refine Runs.by (fun _ hr => XS.icmpNo X27.here hx rfl (hb hby at_173) rfl (tlt hc173).2.1 hr) ?_
          show Runs p e below _ (T27.setTop (mkF m 176 #[.val (.int p0), .val (.int p1), .val (.int p2), .val (.int p3), .val (.int p4), .val (.int p5), .val (.int uu), .val (.int aa), .val (.int bb), .val (.int (1 : Int32)), .val (.int pm), .val (.int pr), .val (.ref b17), .val (.int (own_em2 aa bb pm)), .val (.int (1 : Int32)), .unset, .unset, .unset, .unset] [(.int (0 : Int32))]))
          refine Runs.by (fun _ hr => XS.iconst X27.here hx rfl (hb hby at_176) hr) ?_
          show Runs p e below _ (T27.setTop (mkF m 177 #[.val (.int p0), .val (.int p1), .val (.int p2), .val (.int p3), .val (.int p4), .val (.int p5), .val (.int uu), .val (.int aa), .val (.int bb), .val (.int (1 : Int32)), .val (.int pm), .val (.int pr), .val (.ref b17), .val (.int (own_em2 aa bb pm)), .val (.int (1 : Int32)), .unset, .unset, .unset, .unset] [(.int (1 : Int32)), (.int (0 : Int32))]))
          refine Runs.by (fun _ hr => XS.goto X27.here hx rfl (pc0 := 177) (pc' := 181) rfl (hb hby at_177) (by decide) (by decide) hr) ?_
          show Runs p e below _ (T27.setTop (mkF m 181 #[.val (.int p0), .val (.int p1), .val (.int p2), .val (.int p3), .val (.int p4), .val (.int p5), .val (.int uu), .val (.int aa), .val (.int bb), .val (.int (1 : Int32)), .val (.int pm), .val (.int pr), .val (.ref b17), .val (.int (own_em2 aa bb pm)), .val (.int (1 : Int32)), .unset, .unset, .unset, .unset] [(.int (1 : Int32)), (.int (0 : Int32))]))
          refine Runs.by (fun _ hr => XS.iadd X27.here hx rfl (hb hby at_181) rfl hr) ?_
          show Runs p e below _ (T27.setTop (mkF m 182 #[.val (.int p0), .val (.int p1), .val (.int p2), .val (.int p3), .val (.int p4), .val (.int p5), .val (.int uu), .val (.int aa), .val (.int bb), .val (.int (1 : Int32)), .val (.int pm), .val (.int pr), .val (.ref b17), .val (.int (own_em2 aa bb pm)), .val (.int (1 : Int32)), .unset, .unset, .unset, .unset] [(.int (1 : Int32))]))
          refine Runs.by (fun _ hr => XS.istore X27.here hx rfl (hb hby at_182) rfl (l' := #[.val (.int p0), .val (.int p1), .val (.int p2), .val (.int p3), .val (.int p4), .val (.int p5), .val (.int uu), .val (.int aa), .val (.int bb), .val (.int (1 : Int32)), .val (.int pm), .val (.int pr), .val (.ref b17), .val (.int (own_em2 aa bb pm)), .val (.int (1 : Int32)), .val (.int (1 : Int32)), .unset, .unset, .unset]) rfl hr) ?_
          have e15 : own_er2 aa bb pr = (1 : Int32) := by simp only [own_er1, own_er2, *, if_true, if_false]; rfl
          rw [e15] at J184
          exact J184  _ _ X27 rfl N27 
        · -- pc 173: not bb < pr
          refine Runs.by (fun _ hr => XS.icmpYes X27.here hx rfl (pc0 := 173) (pc' := 180) rfl (hb hby at_173) rfl (flt hc173).2.1 (by decide) (by decide) hr) ?_
          show Runs p e below _ (T27.setTop (mkF m 180 #[.val (.int p0), .val (.int p1), .val (.int p2), .val (.int p3), .val (.int p4), .val (.int p5), .val (.int uu), .val (.int aa), .val (.int bb), .val (.int (1 : Int32)), .val (.int pm), .val (.int pr), .val (.ref b17), .val (.int (own_em2 aa bb pm)), .val (.int (1 : Int32)), .unset, .unset, .unset, .unset] [(.int (0 : Int32))]))
          refine Runs.by (fun _ hr => XS.iconst X27.here hx rfl (hb hby at_180) hr) ?_
          show Runs p e below _ (T27.setTop (mkF m 181 #[.val (.int p0), .val (.int p1), .val (.int p2), .val (.int p3), .val (.int p4), .val (.int p5), .val (.int uu), .val (.int aa), .val (.int bb), .val (.int (1 : Int32)), .val (.int pm), .val (.int pr), .val (.ref b17), .val (.int (own_em2 aa bb pm)), .val (.int (1 : Int32)), .unset, .unset, .unset, .unset] [(.int (0 : Int32)), (.int (0 : Int32))]))
          refine Runs.by (fun _ hr => XS.iadd X27.here hx rfl (hb hby at_181) rfl hr) ?_
          show Runs p e below _ (T27.setTop (mkF m 182 #[.val (.int p0), .val (.int p1), .val (.int p2), .val (.int p3), .val (.int p4), .val (.int p5), .val (.int uu), .val (.int aa), .val (.int bb), .val (.int (1 : Int32)), .val (.int pm), .val (.int pr), .val (.ref b17), .val (.int (own_em2 aa bb pm)), .val (.int (1 : Int32)), .unset, .unset, .unset, .unset] [(.int (0 : Int32))]))
          refine Runs.by (fun _ hr => XS.istore X27.here hx rfl (hb hby at_182) rfl (l' := #[.val (.int p0), .val (.int p1), .val (.int p2), .val (.int p3), .val (.int p4), .val (.int p5), .val (.int uu), .val (.int aa), .val (.int bb), .val (.int (1 : Int32)), .val (.int pm), .val (.int pr), .val (.ref b17), .val (.int (own_em2 aa bb pm)), .val (.int (1 : Int32)), .val (.int (0 : Int32)), .unset, .unset, .unset]) rfl hr) ?_
          have e15 : own_er2 aa bb pr = (0 : Int32) := by simp only [own_er1, own_er2, *, if_true, if_false]; rfl
          rw [e15] at J184
          exact J184  _ _ X27 rfl N27 
    show Runs p e below _ (T23.setTop (mkF m 102 #[.val (.int p0), .val (.int p1), .val (.int p2), .val (.int p3), .val (.int p4), .val (.int p5), .val (.int uu), .val (.int aa), .val (.int bb), .val (.int (1 : Int32)), .val (.int pm), .val (.int pr), .val (.ref b17), .unset, .unset, .unset, .unset, .unset, .unset] []))
    refine Runs.by (fun _ hr => XS.iload X23.here hx rfl (hb hby at_102) rfl  hr) ?_
    show Runs p e below _ (T23.setTop (mkF m 104 #[.val (.int p0), .val (.int p1), .val (.int p2), .val (.int p3), .val (.int p4), .val (.int p5), .val (.int uu), .val (.int aa), .val (.int bb), .val (.int (1 : Int32)), .val (.int pm), .val (.int pr), .val (.ref b17), .unset, .unset, .unset, .unset, .unset, .unset] [(.int pm)]))
    refine Runs.by (fun _ hr => XS.iload X23.here hx rfl (hb hby at_104) rfl  hr) ?_
    show Runs p e below _ (T23.setTop (mkF m 106 #[.val (.int p0), .val (.int p1), .val (.int p2), .val (.int p3), .val (.int p4), .val (.int p5), .val (.int uu), .val (.int aa), .val (.int bb), .val (.int (1 : Int32)), .val (.int pm), .val (.int pr), .val (.ref b17), .unset, .unset, .unset, .unset, .unset, .unset] [(.int aa), (.int pm)]))
    by_cases hc106 : pm = aa
    · -- pc 106: pm = aa
      refine Runs.by (fun _ hr => XS.icmpYes X23.here hx rfl (pc0 := 106) (pc' := 121) rfl (hb hby at_106) rfl (teq hc106).1 (by decide) (by decide) hr) ?_
      show Runs p e below _ (T23.setTop (mkF m 121 #[.val (.int p0), .val (.int p1), .val (.int p2), .val (.int p3), .val (.int p4), .val (.int p5), .val (.int uu), .val (.int aa), .val (.int bb), .val (.int (1 : Int32)), .val (.int pm), .val (.int pr), .val (.ref b17), .unset, .unset, .unset, .unset, .unset, .unset] []))
      refine Runs.by (fun _ hr => XS.iconst X23.here hx rfl (hb hby at_121) hr) ?_
      show Runs p e below _ (T23.setTop (mkF m 122 #[.val (.int p0), .val (.int p1), .val (.int p2), .val (.int p3), .val (.int p4), .val (.int p5), .val (.int uu), .val (.int aa), .val (.int bb), .val (.int (1 : Int32)), .val (.int pm), .val (.int pr), .val (.ref b17), .unset, .unset, .unset, .unset, .unset, .unset] [(.int (1 : Int32))]))
      refine Runs.by (fun _ hr => XS.goto X23.here hx rfl (pc0 := 122) (pc' := 126) rfl (hb hby at_122) (by decide) (by decide) hr) ?_
      show Runs p e below _ (T23.setTop (mkF m 126 #[.val (.int p0), .val (.int p1), .val (.int p2), .val (.int p3), .val (.int p4), .val (.int p5), .val (.int uu), .val (.int aa), .val (.int bb), .val (.int (1 : Int32)), .val (.int pm), .val (.int pr), .val (.ref b17), .unset, .unset, .unset, .unset, .unset, .unset] [(.int (1 : Int32))]))
      refine Runs.by (fun _ hr => XS.istore X23.here hx rfl (hb hby at_126) rfl (l' := #[.val (.int p0), .val (.int p1), .val (.int p2), .val (.int p3), .val (.int p4), .val (.int p5), .val (.int uu), .val (.int aa), .val (.int bb), .val (.int (1 : Int32)), .val (.int pm), .val (.int pr), .val (.ref b17), .val (.int (1 : Int32)), .unset, .unset, .unset, .unset, .unset]) rfl hr) ?_
      have e13 : own_em2 aa bb pm = (1 : Int32) := by simp [own_em1, own_em2, *]
      rw [e13] at J128
      exact J128  _ _ X23 rfl N23 
    · -- pc 106: not pm = aa
      refine Runs.by (fun _ hr => XS.icmpNo X23.here hx rfl (hb hby at_106) rfl (feq hc106).1 hr) ?_
      show Runs p e below _ (T23.setTop (mkF m 109 #[.val (.int p0), .val (.int p1), .val (.int p2), .val (.int p3), .val (.int p4), .val (.int p5), .val (.int uu), .val (.int aa), .val (.int bb), .val (.int (1 : Int32)), .val (.int pm), .val (.int pr), .val (.ref b17), .unset, .unset, .unset, .unset, .unset, .unset] []))
      refine Runs.by (fun _ hr => XS.iload X23.here hx rfl (hb hby at_109) rfl  hr) ?_
      show Runs p e below _ (T23.setTop (mkF m 111 #[.val (.int p0), .val (.int p1), .val (.int p2), .val (.int p3), .val (.int p4), .val (.int p5), .val (.int uu), .val (.int aa), .val (.int bb), .val (.int (1 : Int32)), .val (.int pm), .val (.int pr), .val (.ref b17), .unset, .unset, .unset, .unset, .unset, .unset] [(.int (1 : Int32))]))
      have hc111 : ¬ ((1 : Int32) = (0 : Int32)) := (by decide)
      refine Runs.by (fun _ hr => XS.ifNo X23.here hx rfl (hb hby at_111) rfl ((if0 _ _).trans (feq hc111).1) hr) ?_
      show Runs p e below _ (T23.setTop (mkF m 114 #[.val (.int p0), .val (.int p1), .val (.int p2), .val (.int p3), .val (.int p4), .val (.int p5), .val (.int uu), .val (.int aa), .val (.int bb), .val (.int (1 : Int32)), .val (.int pm), .val (.int pr), .val (.ref b17), .unset, .unset, .unset, .unset, .unset, .unset] []))
      refine Runs.by (fun _ hr => XS.iload X23.here hx rfl (hb hby at_114) rfl  hr) ?_
      show Runs p e below _ (T23.setTop (mkF m 116 #[.val (.int p0), .val (.int p1), .val (.int p2), .val (.int p3), .val (.int p4), .val (.int p5), .val (.int uu), .val (.int aa), .val (.int bb), .val (.int (1 : Int32)), .val (.int pm), .val (.int pr), .val (.ref b17), .unset, .unset, .unset, .unset, .unset, .unset] [(.int pm)]))
      refine Runs.by (fun _ hr => XS.iload X23.here hx rfl (hb hby at_116) rfl  hr) ?_
      show Runs p e below _ (T23.setTop (mkF m 118 #[.val (.int p0), .val (.int p1), .val (.int p2), .val (.int p3), .val (.int p4), .val (.int p5), .val (.int uu), .val (.int aa), .val (.int bb), .val (.int (1 : Int32)), .val (.int pm), .val (.int pr), .val (.ref b17), .unset, .unset, .unset, .unset, .unset, .unset] [(.int bb), (.int pm)]))
      by_cases hc118 : pm = bb
      · -- pc 118: pm = bb
        refine Runs.by (fun _ hr => XS.icmpNo X23.here hx rfl (hb hby at_118) rfl (teq hc118).2 hr) ?_
        show Runs p e below _ (T23.setTop (mkF m 121 #[.val (.int p0), .val (.int p1), .val (.int p2), .val (.int p3), .val (.int p4), .val (.int p5), .val (.int uu), .val (.int aa), .val (.int bb), .val (.int (1 : Int32)), .val (.int pm), .val (.int pr), .val (.ref b17), .unset, .unset, .unset, .unset, .unset, .unset] []))
        refine Runs.by (fun _ hr => XS.iconst X23.here hx rfl (hb hby at_121) hr) ?_
        show Runs p e below _ (T23.setTop (mkF m 122 #[.val (.int p0), .val (.int p1), .val (.int p2), .val (.int p3), .val (.int p4), .val (.int p5), .val (.int uu), .val (.int aa), .val (.int bb), .val (.int (1 : Int32)), .val (.int pm), .val (.int pr), .val (.ref b17), .unset, .unset, .unset, .unset, .unset, .unset] [(.int (1 : Int32))]))
        refine Runs.by (fun _ hr => XS.goto X23.here hx rfl (pc0 := 122) (pc' := 126) rfl (hb hby at_122) (by decide) (by decide) hr) ?_
        show Runs p e below _ (T23.setTop (mkF m 126 #[.val (.int p0), .val (.int p1), .val (.int p2), .val (.int p3), .val (.int p4), .val (.int p5), .val (.int uu), .val (.int aa), .val (.int bb), .val (.int (1 : Int32)), .val (.int pm), .val (.int pr), .val (.ref b17), .unset, .unset, .unset, .unset, .unset, .unset] [(.int (1 : Int32))]))
        refine Runs.by (fun _ hr => XS.istore X23.here hx rfl (hb hby at_126) rfl (l' := #[.val (.int p0), .val (.int p1), .val (.int p2), .val (.int p3), .val (.int p4), .val (.int p5), .val (.int uu), .val (.int aa), .val (.int bb), .val (.int (1 : Int32)), .val (.int pm), .val (.int pr), .val (.ref b17), .val (.int (1 : Int32)), .unset, .unset, .unset, .unset, .unset]) rfl hr) ?_
        have e13 : own_em2 aa bb pm = (1 : Int32) := by simp [own_em1, own_em2, *]
        rw [e13] at J128
        exact J128  _ _ X23 rfl N23 
      · -- pc 118: not pm = bb
        refine Runs.by (fun _ hr => XS.icmpYes X23.here hx rfl (pc0 := 118) (pc' := 125) rfl (hb hby at_118) rfl (feq hc118).2 (by decide) (by decide) hr) ?_
        show Runs p e below _ (T23.setTop (mkF m 125 #[.val (.int p0), .val (.int p1), .val (.int p2), .val (.int p3), .val (.int p4), .val (.int p5), .val (.int uu), .val (.int aa), .val (.int bb), .val (.int (1 : Int32)), .val (.int pm), .val (.int pr), .val (.ref b17), .unset, .unset, .unset, .unset, .unset, .unset] []))
        refine Runs.by (fun _ hr => XS.iconst X23.here hx rfl (hb hby at_125) hr) ?_
        show Runs p e below _ (T23.setTop (mkF m 126 #[.val (.int p0), .val (.int p1), .val (.int p2), .val (.int p3), .val (.int p4), .val (.int p5), .val (.int uu), .val (.int aa), .val (.int bb), .val (.int (1 : Int32)), .val (.int pm), .val (.int pr), .val (.ref b17), .unset, .unset, .unset, .unset, .unset, .unset] [(.int (0 : Int32))]))
        refine Runs.by (fun _ hr => XS.istore X23.here hx rfl (hb hby at_126) rfl (l' := #[.val (.int p0), .val (.int p1), .val (.int p2), .val (.int p3), .val (.int p4), .val (.int p5), .val (.int uu), .val (.int aa), .val (.int bb), .val (.int (1 : Int32)), .val (.int pm), .val (.int pr), .val (.ref b17), .val (.int (0 : Int32)), .unset, .unset, .unset, .unset, .unset]) rfl hr) ?_
        have e13 : own_em2 aa bb pm = (0 : Int32) := by simp [own_em1, own_em2, *]
        rw [e13] at J128
        exact J128  _ _ X23 rfl N23 
set_option maxRecDepth 65536 in
set_option maxHeartbeats 40000000 in
theorem comes_1 {Post : Tables → Env → Array Value → State → Outcome → State → Prop} (hpost : ∀ tb e args s v u, (limb_1_1.after args s (.returned v) u = true ∧ limb_1_2.after args s (.returned v) u = true ∧ True) → FrameEnd s (.returned v) u (Jvm.fieldLocs frame_1_writes args s ++ Jvm.arrayLocs frame_1_arrays args s ++ Jvm.staticLocs frame_1_statics s) 16 128 → Post tb e args s (.returned v) u) :
    ArmFor flags0 classFile x code maxLocals ret World_1 tables_1 room_1 Calls_1 rest_1 Pre_1 Post := by
  intro l hfl _ _ p e ha hc hk s m args below hf hA hF happ hP
  obtain ⟨hcalls, hrest, hpre⟩ := hP
  obtain ⟨-, -, -, hnamed, -, -, -, hat⟩ := (Spec.applies_iff hf).mp happ
  obtain ⟨hg, hn⟩ := and_e (Cond.before_iff.mp (show (Jvm.Cond.and given_1 narrow_1).before args s = true from hpre))
  obtain ⟨g1, g2⟩ := and_e hg
  obtain ⟨g3, g4⟩ := and_e g2
  obtain ⟨g5, g6⟩ := and_e g4
  obtain ⟨g7, g8⟩ := and_e g6
  obtain ⟨g9, g10⟩ := and_e g8
  obtain ⟨g11, g12⟩ := and_e g10
  obtain ⟨w0, w1, w2, w3, w4, w5, rfl⟩ : ∃ w0 w1 w2 w3 w4 w5 : Value, args = #[w0, w1, w2, w3, w4, w5] := by
    have hs : args.size = 6 := by simpa [Cond.value, given_1] using g1
    obtain ⟨L⟩ := args
    match L, hs with
    | [w0, w1, w2, w3, w4, w5], _ => exact ⟨w0, w1, w2, w3, w4, w5, rfl⟩
  have hw := fun d (hd : d ∈ tables_1) => atoms_spec (ws := Jvm.Cond.code x code maxLocals ret :: tables_1) hat d (List.mem_cons_of_mem _ hd)
  have hfit : Fit s := fun {y c} hc i hi => by
    obtain ⟨ha, rfl⟩ := Array.getElem?_eq_some_iff.mp hc
    have q := List.all_eq_true.mp ((Array.all_eq_true_iff_forall_mem.mp hF) _ (Array.getElem_mem ha)) i (List.mem_range.mpr hi)
    simpa [Array.getElem?_eq_getElem hi] using q
  obtain ⟨i0, ei0⟩ := is_v g3
  obtain rfl : w0 = (.int i0) := Option.some.inj ei0
  obtain ⟨i1, ei1⟩ := is_v g5
  obtain rfl : w1 = (.int i1) := Option.some.inj ei1
  obtain ⟨i2, ei2⟩ := is_v g7
  obtain rfl : w2 = (.int i2) := Option.some.inj ei2
  obtain ⟨i3, ei3⟩ := is_v g9
  obtain rfl : w3 = (.int i3) := Option.some.inj ei3
  obtain ⟨i4, ei4⟩ := is_v g11
  obtain rfl : w4 = (.int i4) := Option.some.inj ei4
  obtain ⟨i5, ei5⟩ := is_v g12
  obtain rfl : w5 = (.int i5) := Option.some.inj ei5
  obtain ⟨n, o, h1, h2, h3, _, L, rfl, ⟨rfl, N⟩, hq⟩ := rm0 l s _ hw tables_1 i0 i1 i2 i3 i4 i5 s.heap s.heap.size (Nat.le_refl _)  p e ha hc hk s m _ below hf ((Spec.applies_iff_loose hf).mp happ).1 ⟨rfl, State.Warmed39.refl s, rfl⟩ trivial
  refine ⟨n, _, h1, h2, h3, hpost _ _ _ _ _ _ ⟨Cond.after_iff.mpr rfl, Cond.after_iff.mpr (eq_i res_at (Term.int_eval (1)) rfl), trivial⟩ ⟨hq.1, hq.2.1, (hq.2.2.sift fun y hy => Or.inr (N y hy)).mono (by decide) (by decide)⟩⟩
theorem main_1_1 : Claimed_1_1 := comes_1 fun _ _ _ _ _ _ h hF => ⟨h.1, hF⟩
theorem main_1_2 : Claimed_1_2 := comes_1 fun _ _ _ _ _ _ h hF => ⟨h.2.1, hF⟩
end Jvm.Pilot.@@N@@
namespace Jvm.Pilot.@@N@@
open Jvm Jvm.ClassFile Sem Op Lib Jvm.Free Jvm.Stand Jvm.Pilot.@@N@@.Jvm.D
/-! MADE BY PROGRAM (witnessworld.py) out of the Statement's table words and the real class files: 18 classes; the members and pool entries that the words name. The judged class is class 1, her method 1. -/
namespace start1
open Jvm.ClassFile
def u (s : String) : CpInfo := .utf8 (stringToUtf16 s)
/-- a pool by its gaps: so many unusable entries, then the entry; so many at the end -/
def gap : Nat → List CpInfo → List CpInfo
  | 0, r => r
  | n + 1, r => .unusable :: gap n r
def poolList (es : List (Nat × CpInfo)) (last : Nat) : List CpInfo := es.foldr (fun e r => gap e.1 (e.2 :: r)) (gap last [])
def pool (es : List (Nat × CpInfo)) (last : Nat) : Array CpInfo := ⟨poolList es last⟩
def fileOf (pool : Array CpInfo) (this : Nat) (attrs : Array Attribute := #[]) (ms : Array MethodInfo := #[]) (fl : Nat := 33) (sup : Nat := 0) (ifs : Array Nat := #[]) (fds : Array FieldInfo := #[]) : ClassFile where
  minorVersion := 0
  majorVersion := 65
  constantPool := pool
  accessFlags := fl
  thisClass := this
  superClass := sup
  interfaces := ifs
  fields := fds
  methods := ms
  attributes := attrs
def plain (name : String) (sup : Option ClassId) : Class where
  name := name
  kind := .ordinary
  loader := none
  accessFlags := 33
  super := sup
  interfaces := #[]
  cf := none
  fields := #[]
  methods := #[]
  instanceTypes := #[]
  staticTypes := #[]
  resolved := #[]
  callSites := []
  init := .initialized
  statics := none
  mirror := none

def pool0 : Array CpInfo := pool [(5, u "<init>"), (0, u "()V"), (1, .class_ 10), (1, u "java/lang/Object")] 113

def k0c0 : Code := { maxStack := 0, maxLocals := 1, code := object_method_1_code, exceptionTable := #[], attributes := #[] }
def k0m0 : Method := { name := "<init>", desc := "()V", sig := { parameters := [], returnType := none }, accessFlags := 1, code := some k0c0 }
/-- java/lang/Object -/
def k0 : Class := { plain "java/lang/Object" none with
  accessFlags := 33
  interfaces := #[]
  cf := some (fileOf pool0 8 #[] #[{ accessFlags := 1, nameIndex := 5, descriptorIndex := 6, attributes := #[] }] 33 0 #[] #[])
  fields := #[]
  methods := #[k0m0]
  instanceTypes := #[]
  staticTypes := #[]
  resolved := Array.replicate 124 none
  statics := none }

def pool1 : Array CpInfo := pool [(2, .class_ 4), (1, u "java/lang/Object"), (0, u "<init>"), (0, u "()V"), (0, .integer 2147483647), (0, .class_ 9), (0, u "com/example/threshold/threshold/engine/UnitBits"), (0, .methodref 8 11), (0, .nameAndType 5 12), (0, u "(I)V"), (0, .methodref 8 14), (0, .nameAndType 15 12), (0, u "mark"), (0, .methodref 8 17), (0, .nameAndType 18 19), (0, u "isMarked"), (0, u "(I)Z"), (0, .methodref 8 21), (0, .nameAndType 22 6), (0, u "countRanks"), (0, .methodref 8 24), (0, .nameAndType 25 26), (0, u "rank"), (0, u "(I)I"), (0, .methodref 8 28), (0, .nameAndType 29 30), (0, u "ascending"), (0, u "()[I"), (0, .methodref 32 33), (0, .class_ 34), (0, .nameAndType 35 36), (0, u "java/lang/Math"), (0, u "min"), (0, u "(II)I"), (0, .methodref 32 38), (0, .nameAndType 39 36), (0, u "max"), (0, .class_ 41), (0, u "com/example/threshold/threshold/engine/UnitBitsMarkPinLaw"), (2, u "law"), (0, u "(IIIIII)Z")] 5

def k1m0 : Method := { name := "<init>", desc := "()V", sig := { parameters := [], returnType := none }, accessFlags := 2, code := none }
def k1c1 : Code := { maxStack := 4, maxLocals := 19, code := code, exceptionTable := #[], attributes := #[] }
def k1m1 : Method := { name := "law", desc := "(IIIIII)Z", sig := { parameters := [.int, .int, .int, .int, .int, .int], returnType := some .boolean }, accessFlags := 9, code := some k1c1 }
/-- com/example/threshold/threshold/engine/UnitBitsMarkPinLaw -/
def k1 : Class := { plain "com/example/threshold/threshold/engine/UnitBitsMarkPinLaw" (some 0) with
  accessFlags := 49
  interfaces := #[]
  cf := some (fileOf pool1 40 #[] #[{ accessFlags := 2, nameIndex := 5, descriptorIndex := 6, attributes := #[] }, { accessFlags := 9, nameIndex := 44, descriptorIndex := 45, attributes := #[] }] 49 2 #[] #[])
  fields := #[]
  methods := #[k1m0, k1m1]
  instanceTypes := #[]
  staticTypes := #[]
  resolved := Array.replicate 51 none
  statics := none }

def pool2 : Array CpInfo := pool [(1, .methodref 2 3), (0, .class_ 4), (0, .nameAndType 5 6), (0, u "java/lang/Object"), (0, u "<init>"), (0, u "()V"), (0, .methodref 8 9), (0, .class_ 10), (0, .nameAndType 11 12), (0, u "com/example/threshold/threshold/engine/UnitBits"), (0, u "words"), (0, u "(I)I"), (0, .fieldref 8 14), (0, .nameAndType 11 15), (0, u "[J"), (0, .class_ 17), (0, u "java/lang/Long"), (0, .fieldref 8 19), (0, .nameAndType 20 21), (0, u "count"), (0, u "I"), (0, .fieldref 8 23), (0, .nameAndType 24 25), (0, u "before"), (0, u "[I"), (0, .methodref 16 27), (0, .nameAndType 28 29), (0, u "bitCount"), (0, u "(J)I"), (0, .methodref 16 31), (0, .nameAndType 32 29), (0, u "numberOfTrailingZeros"), (0, u "(I)V"), (5, u "mark"), (0, u "isMarked"), (0, u "(I)Z"), (0, u "countRanks"), (0, u "rank"), (0, u "ascending"), (0, u "()[I")] 3

def k2c0 : Code := { maxStack := 2, maxLocals := 2, code := prog_41_method_1_code, exceptionTable := #[], attributes := #[] }
def k2m0 : Method := { name := "<init>", desc := "(I)V", sig := { parameters := [.int], returnType := none }, accessFlags := 0, code := some k2c0 }
def k2c1 : Code := { maxStack := 2, maxLocals := 1, code := prog_41_method_3_code, exceptionTable := #[], attributes := #[] }
def k2m1 : Method := { name := "words", desc := "(I)I", sig := { parameters := [.int], returnType := some .int }, accessFlags := 10, code := some k2c1 }
def k2c2 : Code := { maxStack := 7, maxLocals := 2, code := prog_41_method_4_code, exceptionTable := #[], attributes := #[] }
def k2m2 : Method := { name := "mark", desc := "(I)V", sig := { parameters := [.int], returnType := none }, accessFlags := 0, code := some k2c2 }
def k2c3 : Code := { maxStack := 5, maxLocals := 2, code := prog_41_method_5_code, exceptionTable := #[], attributes := #[] }
def k2m3 : Method := { name := "isMarked", desc := "(I)Z", sig := { parameters := [.int], returnType := some .boolean }, accessFlags := 0, code := some k2c3 }
def k2c4 : Code := { maxStack := 6, maxLocals := 2, code := prog_41_method_6_code, exceptionTable := #[], attributes := #[] }
def k2m4 : Method := { name := "countRanks", desc := "()V", sig := { parameters := [], returnType := none }, accessFlags := 0, code := some k2c4 }
def k2c5 : Code := { maxStack := 7, maxLocals := 3, code := prog_41_method_7_code, exceptionTable := #[], attributes := #[] }
def k2m5 : Method := { name := "rank", desc := "(I)I", sig := { parameters := [.int], returnType := some .int }, accessFlags := 0, code := some k2c5 }
def k2c6 : Code := { maxStack := 6, maxLocals := 6, code := prog_41_method_8_code, exceptionTable := #[], attributes := #[] }
def k2m6 : Method := { name := "ascending", desc := "()[I", sig := { parameters := [], returnType := some (.array .int) }, accessFlags := 0, code := some k2c6 }
/-- com/example/threshold/threshold/engine/UnitBits -/
def k2 : Class := { plain "com/example/threshold/threshold/engine/UnitBits" (some 0) with
  accessFlags := 48
  interfaces := #[]
  cf := some (fileOf pool2 8 #[] #[{ accessFlags := 0, nameIndex := 5, descriptorIndex := 33, attributes := #[] }, { accessFlags := 10, nameIndex := 11, descriptorIndex := 12, attributes := #[] }, { accessFlags := 0, nameIndex := 39, descriptorIndex := 33, attributes := #[] }, { accessFlags := 0, nameIndex := 40, descriptorIndex := 41, attributes := #[] }, { accessFlags := 0, nameIndex := 42, descriptorIndex := 6, attributes := #[] }, { accessFlags := 0, nameIndex := 43, descriptorIndex := 12, attributes := #[] }, { accessFlags := 0, nameIndex := 44, descriptorIndex := 45, attributes := #[] }] 48 2 #[] #[{ accessFlags := 18, nameIndex := 11, descriptorIndex := 15, attributes := #[] }, { accessFlags := 2, nameIndex := 20, descriptorIndex := 21, attributes := #[] }, { accessFlags := 2, nameIndex := 24, descriptorIndex := 25, attributes := #[] }])
  fields := #[{ name := "words", type := (.array .long), accessFlags := 18, slot := 0, constantValue := 0 }, { name := "count", type := .int, accessFlags := 2, slot := 1, constantValue := 0 }, { name := "before", type := (.array .int), accessFlags := 2, slot := 2, constantValue := 0 }]
  methods := #[k2m0, k2m1, k2m2, k2m3, k2m4, k2m5, k2m6]
  instanceTypes := #[(.array .long), .int, (.array .int)]
  staticTypes := #[]
  resolved := Array.replicate 49 none
  statics := none }

def pool3 : Array CpInfo := pool [(1, .class_ 2), (0, u "java/io/Serializable"), (0, .class_ 4), (0, u "java/lang/Object")] 2

/-- java/io/Serializable -/
def k3 : Class := { plain "java/io/Serializable" (some 0) with
  accessFlags := 1537
  interfaces := #[]
  cf := some (fileOf pool3 1 #[] #[] 1537 3 #[] #[])
  fields := #[]
  methods := #[]
  instanceTypes := #[]
  staticTypes := #[]
  resolved := Array.replicate 7 none
  statics := none }

def pool4 : Array CpInfo := pool [(2, .class_ 4), (1, u "java/lang/Object"), (0, u "<init>"), (0, u "()V"), (1, .class_ 10), (1, u "java/lang/Number"), (2, .class_ 14), (0, u "java/io/Serializable"), (0, u "serialVersionUID"), (0, u "J")] 20

def k4m0 : Method := { name := "<init>", desc := "()V", sig := { parameters := [], returnType := none }, accessFlags := 1, code := none }
/-- java/lang/Number -/
def k4 : Class := { plain "java/lang/Number" (some 0) with
  accessFlags := 1057
  interfaces := #[3]
  cf := some (fileOf pool4 8 #[] #[{ accessFlags := 1, nameIndex := 5, descriptorIndex := 6, attributes := #[] }] 1057 2 #[13] #[{ accessFlags := 26, nameIndex := 15, descriptorIndex := 16, attributes := #[] }])
  fields := #[{ name := "serialVersionUID", type := .long, accessFlags := 26, slot := 0, constantValue := 0 }]
  methods := #[k4m0]
  instanceTypes := #[]
  staticTypes := #[.long]
  resolved := Array.replicate 37 none
  statics := none }

def pool5 : Array CpInfo := pool [(1, .class_ 2), (0, u "java/lang/Comparable"), (0, .class_ 4), (0, u "java/lang/Object")] 7

/-- java/lang/Comparable -/
def k5 : Class := { plain "java/lang/Comparable" (some 0) with
  accessFlags := 1537
  interfaces := #[]
  cf := some (fileOf pool5 1 #[] #[] 1537 3 #[] #[])
  fields := #[]
  methods := #[]
  instanceTypes := #[]
  staticTypes := #[]
  resolved := Array.replicate 12 none
  statics := none }

def pool6 : Array CpInfo := pool [(1, .class_ 2), (0, u "java/lang/constant/Constable"), (0, .class_ 4), (0, u "java/lang/Object")] 6

/-- java/lang/constant/Constable -/
def k6 : Class := { plain "java/lang/constant/Constable" (some 0) with
  accessFlags := 1537
  interfaces := #[]
  cf := some (fileOf pool6 1 #[] #[] 1537 3 #[] #[])
  fields := #[]
  methods := #[]
  instanceTypes := #[]
  staticTypes := #[]
  resolved := Array.replicate 11 none
  statics := none }

def pool7 : Array CpInfo := pool [(1, .class_ 2), (0, u "java/lang/constant/ConstantDesc"), (0, .class_ 4), (0, u "java/lang/Object")] 32

/-- java/lang/constant/ConstantDesc -/
def k7 : Class := { plain "java/lang/constant/ConstantDesc" (some 0) with
  accessFlags := 1537
  interfaces := #[]
  cf := some (fileOf pool7 1 #[] #[] 1537 3 #[] #[])
  fields := #[]
  methods := #[]
  instanceTypes := #[]
  staticTypes := #[]
  resolved := Array.replicate 37 none
  statics := none }

def pool8 : Array CpInfo := pool [(1, .class_ 2), (0, u "java/lang/Long"), (15, .class_ 20), (1, u "java/lang/Integer"), (80, u "(J)I"), (133, .class_ 237), (1, u "java/lang/Long$LongCache"), (33, .class_ 272), (0, u "java/lang/Number"), (2, u "value"), (0, u "J"), (33, u "(I)I"), (0, .methodref 18 312), (0, .nameAndType 313 310), (0, u "numberOfTrailingZeros"), (0, .long 6148914691236517205), (1, .long 3689348814741910323), (1, .long 1085102592571150095), (42, u "TYPE"), (0, u "Ljava/lang/Class;"), (0, .class_ 364), (0, u "java/lang/Comparable"), (0, .class_ 366), (0, u "java/lang/constant/Constable"), (0, .class_ 368), (0, u "java/lang/constant/ConstantDesc"), (0, u "MIN_VALUE"), (1, u "MAX_VALUE"), (4, u "SIZE"), (0, u "I"), (1, u "BYTES"), (1, u "serialVersionUID"), (94, u "bitCount")] 47

def k8c0 : Code := { maxStack := 4, maxLocals := 3, code := jdk_35_method_49_code, exceptionTable := #[], attributes := #[] }
def k8m0 : Method := { name := "numberOfTrailingZeros", desc := "(J)I", sig := { parameters := [.long], returnType := some .int }, accessFlags := 9, code := some k8c0 }
def k8c1 : Code := { maxStack := 6, maxLocals := 2, code := jdk_35_method_50_code, exceptionTable := #[], attributes := #[] }
def k8m1 : Method := { name := "bitCount", desc := "(J)I", sig := { parameters := [.long], returnType := some .int }, accessFlags := 9, code := some k8c1 }
/-- java/lang/Long -/
def k8 : Class := { plain "java/lang/Long" (some 4) with
  accessFlags := 49
  interfaces := #[5, 6, 7]
  cf := some (fileOf pool8 1 #[.nestMembers #[235]] #[{ accessFlags := 9, nameIndex := 313, descriptorIndex := 101, attributes := #[] }, { accessFlags := 9, nameIndex := 476, descriptorIndex := 101, attributes := #[] }] 49 271 #[363, 365, 367] #[{ accessFlags := 25, nameIndex := 369, descriptorIndex := 276, attributes := #[] }, { accessFlags := 25, nameIndex := 371, descriptorIndex := 276, attributes := #[] }, { accessFlags := 25, nameIndex := 361, descriptorIndex := 362, attributes := #[] }, { accessFlags := 18, nameIndex := 275, descriptorIndex := 276, attributes := #[] }, { accessFlags := 25, nameIndex := 376, descriptorIndex := 377, attributes := #[] }, { accessFlags := 25, nameIndex := 379, descriptorIndex := 377, attributes := #[] }, { accessFlags := 26, nameIndex := 381, descriptorIndex := 276, attributes := #[] }])
  fields := #[{ name := "MIN_VALUE", type := .long, accessFlags := 25, slot := 0, constantValue := 0 }, { name := "MAX_VALUE", type := .long, accessFlags := 25, slot := 1, constantValue := 0 }, { name := "TYPE", type := (.object "java/lang/Class"), accessFlags := 25, slot := 2, constantValue := 0 }, { name := "value", type := .long, accessFlags := 18, slot := 0, constantValue := 0 }, { name := "SIZE", type := .int, accessFlags := 25, slot := 3, constantValue := 0 }, { name := "BYTES", type := .int, accessFlags := 25, slot := 4, constantValue := 0 }, { name := "serialVersionUID", type := .long, accessFlags := 26, slot := 5, constantValue := 0 }]
  methods := #[k8m0, k8m1]
  instanceTypes := #[.long]
  staticTypes := #[.long, .long, (.object "java/lang/Class"), .int, .int, .long]
  resolved := Array.replicate 524 none
  statics := none }

def pool9 : Array CpInfo := pool [(1, .class_ 2), (0, u "java/lang/Integer"), (16, u "digits"), (0, u "[C"), (33, u "(I)I"), (30, u "DigitOnes"), (0, u "[B"), (2, u "DigitTens"), (99, .class_ 190), (0, u "java/lang/Integer$IntegerCache"), (3, u "I"), (8, .class_ 204), (0, u "java/lang/Number"), (2, u "value"), (56, .integer 65536), (37, u "TYPE"), (0, u "Ljava/lang/Class;"), (0, .class_ 305), (0, u "java/lang/Comparable"), (0, .class_ 307), (0, u "java/lang/constant/Constable"), (0, .class_ 309), (0, u "java/lang/constant/ConstantDesc"), (0, u "MIN_VALUE"), (1, u "MAX_VALUE"), (3, u "SIZE"), (1, u "BYTES"), (1, u "serialVersionUID"), (0, u "J"), (84, u "numberOfTrailingZeros")] 46

def k9c0 : Code := { maxStack := 3, maxLocals := 2, code := jdk_33_method_48_code, exceptionTable := #[], attributes := #[] }
def k9m0 : Method := { name := "numberOfTrailingZeros", desc := "(I)I", sig := { parameters := [.int], returnType := some .int }, accessFlags := 9, code := some k9c0 }
/-- java/lang/Integer -/
def k9 : Class := { plain "java/lang/Integer" (some 4) with
  accessFlags := 49
  interfaces := #[5, 6, 7]
  cf := some (fileOf pool9 1 #[.nestMembers #[189]] #[{ accessFlags := 9, nameIndex := 406, descriptorIndex := 54, attributes := #[] }] 49 203 #[304, 306, 308] #[{ accessFlags := 25, nameIndex := 310, descriptorIndex := 194, attributes := #[] }, { accessFlags := 25, nameIndex := 312, descriptorIndex := 194, attributes := #[] }, { accessFlags := 25, nameIndex := 302, descriptorIndex := 303, attributes := #[] }, { accessFlags := 24, nameIndex := 19, descriptorIndex := 20, attributes := #[] }, { accessFlags := 24, nameIndex := 89, descriptorIndex := 86, attributes := #[] }, { accessFlags := 24, nameIndex := 85, descriptorIndex := 86, attributes := #[] }, { accessFlags := 18, nameIndex := 207, descriptorIndex := 194, attributes := #[] }, { accessFlags := 25, nameIndex := 316, descriptorIndex := 194, attributes := #[] }, { accessFlags := 25, nameIndex := 318, descriptorIndex := 194, attributes := #[] }, { accessFlags := 26, nameIndex := 320, descriptorIndex := 321, attributes := #[] }])
  fields := #[{ name := "MIN_VALUE", type := .int, accessFlags := 25, slot := 0, constantValue := 0 }, { name := "MAX_VALUE", type := .int, accessFlags := 25, slot := 1, constantValue := 0 }, { name := "TYPE", type := (.object "java/lang/Class"), accessFlags := 25, slot := 2, constantValue := 0 }, { name := "digits", type := (.array .char), accessFlags := 24, slot := 3, constantValue := 0 }, { name := "DigitTens", type := (.array .byte), accessFlags := 24, slot := 4, constantValue := 0 }, { name := "DigitOnes", type := (.array .byte), accessFlags := 24, slot := 5, constantValue := 0 }, { name := "value", type := .int, accessFlags := 18, slot := 0, constantValue := 0 }, { name := "SIZE", type := .int, accessFlags := 25, slot := 6, constantValue := 0 }, { name := "BYTES", type := .int, accessFlags := 25, slot := 7, constantValue := 0 }, { name := "serialVersionUID", type := .long, accessFlags := 26, slot := 8, constantValue := 0 }]
  methods := #[k9m0]
  instanceTypes := #[.int]
  staticTypes := #[.int, .int, (.object "java/lang/Class"), (.array .char), (.array .byte), (.array .byte), .int, .int, .long]
  resolved := Array.replicate 453 none
  statics := none }

def pool10 : Array CpInfo := pool [(1, .class_ 2), (0, u "java/lang/Math"), (1, .class_ 6), (1, u "java/lang/Object"), (0, u "<init>"), (0, u "()V"), (89, .class_ 100), (1, u "java/lang/Math$RandomNumberGeneratorHolder"), (71, u "negativeZeroFloatBits"), (0, u "J"), (2, u "negativeZeroDoubleBits"), (21, u "max"), (2, u "min"), (43, u "$assertionsDisabled"), (0, u "Z"), (88, u "(II)I"), (2, u "twoToTheDoubleScaleDown"), (0, u "D"), (4, u "twoToTheDoubleScaleUp"), (9, u "E"), (3, u "PI"), (2, u "TAU"), (2, u "DEGREES_TO_RADIANS"), (0, u "RADIANS_TO_DEGREES")] 94

def k10m0 : Method := { name := "<init>", desc := "()V", sig := { parameters := [], returnType := none }, accessFlags := 2, code := none }
def k10c1 : Code := { maxStack := 2, maxLocals := 2, code := jdk_29_method_65_code, exceptionTable := #[], attributes := #[] }
def k10m1 : Method := { name := "max", desc := "(II)I", sig := { parameters := [.int, .int], returnType := some .int }, accessFlags := 9, code := some k10c1 }
def k10c2 : Code := { maxStack := 2, maxLocals := 2, code := jdk_29_method_69_code, exceptionTable := #[], attributes := #[] }
def k10m2 : Method := { name := "min", desc := "(II)I", sig := { parameters := [.int, .int], returnType := some .int }, accessFlags := 9, code := some k10c2 }
/-- java/lang/Math -/
def k10 : Class := { plain "java/lang/Math" (some 0) with
  accessFlags := 49
  interfaces := #[]
  cf := some (fileOf pool10 1 #[.nestMembers #[98]] #[{ accessFlags := 2, nameIndex := 7, descriptorIndex := 8, attributes := #[] }, { accessFlags := 9, nameIndex := 198, descriptorIndex := 335, attributes := #[] }, { accessFlags := 9, nameIndex := 201, descriptorIndex := 335, attributes := #[] }] 49 4 #[] #[{ accessFlags := 25, nameIndex := 354, descriptorIndex := 339, attributes := #[] }, { accessFlags := 25, nameIndex := 358, descriptorIndex := 339, attributes := #[] }, { accessFlags := 25, nameIndex := 361, descriptorIndex := 339, attributes := #[] }, { accessFlags := 26, nameIndex := 364, descriptorIndex := 339, attributes := #[] }, { accessFlags := 26, nameIndex := 365, descriptorIndex := 339, attributes := #[] }, { accessFlags := 26, nameIndex := 172, descriptorIndex := 173, attributes := #[] }, { accessFlags := 26, nameIndex := 176, descriptorIndex := 173, attributes := #[] }, { accessFlags := 8, nameIndex := 344, descriptorIndex := 339, attributes := #[] }, { accessFlags := 8, nameIndex := 338, descriptorIndex := 339, attributes := #[] }, { accessFlags := 4120, nameIndex := 245, descriptorIndex := 246, attributes := #[] }])
  fields := #[{ name := "E", type := .double, accessFlags := 25, slot := 0, constantValue := 0 }, { name := "PI", type := .double, accessFlags := 25, slot := 1, constantValue := 0 }, { name := "TAU", type := .double, accessFlags := 25, slot := 2, constantValue := 0 }, { name := "DEGREES_TO_RADIANS", type := .double, accessFlags := 26, slot := 3, constantValue := 0 }, { name := "RADIANS_TO_DEGREES", type := .double, accessFlags := 26, slot := 4, constantValue := 0 }, { name := "negativeZeroFloatBits", type := .long, accessFlags := 26, slot := 5, constantValue := 0 }, { name := "negativeZeroDoubleBits", type := .long, accessFlags := 26, slot := 6, constantValue := 0 }, { name := "twoToTheDoubleScaleUp", type := .double, accessFlags := 8, slot := 7, constantValue := 0 }, { name := "twoToTheDoubleScaleDown", type := .double, accessFlags := 8, slot := 8, constantValue := 0 }, { name := "$assertionsDisabled", type := .boolean, accessFlags := 4120, slot := 9, constantValue := 0 }]
  methods := #[k10m0, k10m1, k10m2]
  instanceTypes := #[]
  staticTypes := #[.double, .double, .double, .double, .double, .long, .long, .double, .double, .boolean]
  resolved := Array.replicate 460 none
  statics := none }

def pool11 : Array CpInfo := pool [(1, u "java/lang/Cloneable"), (0, .class_ 1), (0, u "java/lang/Object"), (0, .class_ 3)] 3

/-- java/lang/Cloneable -/
def k11 : Class := { plain "java/lang/Cloneable" (some 0) with
  accessFlags := 1537
  interfaces := #[]
  cf := some (fileOf pool11 2 #[] #[] 1537 4 #[] #[])
  fields := #[]
  methods := #[]
  instanceTypes := #[]
  staticTypes := #[]
  resolved := Array.replicate 8 none
  statics := none }

/-- the primitive byte -/
def k12 : Class := { plain "byte" none with kind := .primitive 'B', accessFlags := 0x411 }
/-- [B -/
def k13 : Class := { plain "[B" (some 0) with kind := .array 12 .byte, interfaces := #[11, 3], accessFlags := 1041 }

/-- the primitive int -/
def k14 : Class := { plain "int" none with kind := .primitive 'I', accessFlags := 0x411 }
/-- [I -/
def k15 : Class := { plain "[I" (some 0) with kind := .array 14 .int, interfaces := #[11, 3], accessFlags := 1041 }

/-- the primitive long -/
def k16 : Class := { plain "long" none with kind := .primitive 'J', accessFlags := 0x411 }
/-- [J -/
def k17 : Class := { plain "[J" (some 0) with kind := .array 16 .long, interfaces := #[11, 3], accessFlags := 1041 }

def heap : Heap := #[]
def classes : Array Class := #[k0, k1, k2, k3, k4, k5, k6, k7, k8, k9, k10, k11, k12, k13, k14, k15, k16, k17]
def interned : List (Array UInt16 × Addr) := []
def slotsUsed : Nat := 0
def theMethod : MethodId := ⟨1, 1⟩
def args0 : Array Value := #[.int 3, .int 5, .int 7, .int 2, .int 3, .int 1]
def aboutOver (below : List Frame) : State where
  vm := { classes := classes, interned := interned.toArray }
  heap := heap
  slotsUsed := slotsUsed
  threads := #[{ frames := .invoking theMethod args0 :: below }]
def below0 : List Frame := [.native { method := ⟨0, 0⟩, args := #[] }]
def about1 : State := aboutOver below0
def p0 : Program := .bare "" "" ""
def e0 : Env := launch0.env 0 0 0
theorem w_frames : about1.frames = Frame.invoking theMethod args0 :: below0 := rfl
set_option maxRecDepth 65536 in
theorem w_args : argsFit about1.vm theMethod args0 = true := by decide +kernel
set_option maxRecDepth 65536 in
theorem w_heap : heapFits about1 = true := by decide +kernel
set_option maxRecDepth 65536 in
theorem w_runnable : about1.curStatus? = some .runnable := by decide +kernel
set_option maxRecDepth 65536 in
theorem w_alone : about1.alone = true := by decide +kernel
set_option maxRecDepth 65536 in
theorem w_named : about1.methodNamed? x = some theMethod := by decide +kernel
set_option maxRecDepth 65536 in
theorem w_hears : about1.hears theMethod below0 = true := by decide +kernel
set_option maxRecDepth 65536 in
theorem w_ripe : about1.ripe theMethod args0 below0 = true := by decide +kernel
theorem w_running : about1.status = .running := rfl
set_option maxRecDepth 65536 in
theorem w_room : about1.hasRoom e0.platform room_1 = true :=
  launch0.hasRoom_least _ room_1 (by decide +kernel) (by decide +kernel) (by decide +kernel) (by decide +kernel) (by decide +kernel) (by decide +kernel)
theorem allAtoms_all (ts : List Jvm.Cond) (a : Array Jvm.Value) (st : Jvm.State) : (allAtoms ts).before a st = ts.all (fun c => c.before a st) := by
  induction ts with
  | nil => rfl
  | cons c t ih =>
    show (Jvm.Cond.and c (allAtoms t)).before a st = _
    rw [Jvm.Cond.before_and, ih, List.all_cons]
def words1 : List Jvm.Cond := Jvm.Cond.code x code maxLocals ret :: tables_1
/-- a 'code' word, met by the world's own term for the bytes: nothing is compared byte by byte -/
theorem code_word {y : MethodName} {bytes : ByteArray} {mx : Nat} {rt : Option FieldType} {a : Array Value} {s : State} {m : MethodId} {meth : Method} {c : Code} (h1 : s.methodNamed? y = some m) (h2 : s.vm.method? m = some meth) (h3 : meth.code = some c) (h4 : c.code = bytes)
    (h5 : (c.maxLocals == mx && c.exceptionTable.isEmpty && decide (c.maxStack ≤ mostOperands) && decide (meth.sig.returnType = rt) && !meth.locks && decide (parseMethodDescriptor y.desc = some meth.sig)) = true) : (Jvm.Cond.code y bytes mx rt).before a s = true := by
  simp only [Bool.and_eq_true, beq_iff_eq, Bool.not_eq_true', decide_eq_true_eq] at h5
  obtain ⟨⟨⟨⟨⟨g1, g2⟩, g3⟩, g4⟩, g5⟩, g6⟩ := h5
  simp [Cond.before, Cond.holds, Cond.value, h1, h2, h3, h4, g1, g2, g3, g4, g5, g6]
def isCode : Jvm.Cond → Bool
  | .code _ _ _ _ => true
  | _ => false
theorem all_split {L : List Jvm.Cond} {P : Jvm.Cond → Bool} (h1 : L.all (fun c => isCode c || P c) = true) (h2 : ∀ c ∈ L.filter isCode, P c = true) : L.all P = true := by
  refine List.all_eq_true.mpr fun c hc => ?_
  have h := List.all_eq_true.mp h1 c hc
  rcases Bool.eq_false_or_eq_true (isCode c) with hi | hi
  · exact h2 c (List.mem_filter.mpr ⟨hc, hi⟩)
  · simpa [hi] using h
set_option maxRecDepth 65536 in
theorem w_c0 : (Jvm.Cond.code x code maxLocals ret).before args0 about1 = true := code_word (m := ⟨1, 1⟩) (meth := k1m1) (c := k1c1) (by decide +kernel) rfl rfl rfl (by decide +kernel)
set_option maxRecDepth 65536 in
theorem w_c1 : (Jvm.Cond.code ({ cls := "com/example/threshold/threshold/engine/UnitBits", name := "<init>", desc := "(I)V" } : Jvm.MethodName) prog_41_method_1_code (2 : Nat) (Option.none : Option Jvm.ClassFile.FieldType)).before args0 about1 = true := code_word (m := ⟨2, 0⟩) (meth := k2m0) (c := k2c0) (by decide +kernel) rfl rfl rfl (by decide +kernel)
set_option maxRecDepth 65536 in
theorem w_c2 : (Jvm.Cond.code ({ cls := "java/lang/Object", name := "<init>", desc := "()V" } : Jvm.MethodName) object_method_1_code (1 : Nat) (Option.none : Option Jvm.ClassFile.FieldType)).before args0 about1 = true := code_word (m := ⟨0, 0⟩) (meth := k0m0) (c := k0c0) (by decide +kernel) rfl rfl rfl (by decide +kernel)
set_option maxRecDepth 65536 in
theorem w_c3 : (Jvm.Cond.code ({ cls := "com/example/threshold/threshold/engine/UnitBits", name := "words", desc := "(I)I" } : Jvm.MethodName) prog_41_method_3_code (1 : Nat) (Option.some Jvm.ClassFile.FieldType.int)).before args0 about1 = true := code_word (m := ⟨2, 1⟩) (meth := k2m1) (c := k2c1) (by decide +kernel) rfl rfl rfl (by decide +kernel)
set_option maxRecDepth 65536 in
theorem w_c4 : (Jvm.Cond.code ({ cls := "com/example/threshold/threshold/engine/UnitBits", name := "mark", desc := "(I)V" } : Jvm.MethodName) prog_41_method_4_code (2 : Nat) (Option.none : Option Jvm.ClassFile.FieldType)).before args0 about1 = true := code_word (m := ⟨2, 2⟩) (meth := k2m2) (c := k2c2) (by decide +kernel) rfl rfl rfl (by decide +kernel)
set_option maxRecDepth 65536 in
theorem w_c5 : (Jvm.Cond.code ({ cls := "com/example/threshold/threshold/engine/UnitBits", name := "isMarked", desc := "(I)Z" } : Jvm.MethodName) prog_41_method_5_code (2 : Nat) (Option.some Jvm.ClassFile.FieldType.boolean)).before args0 about1 = true := code_word (m := ⟨2, 3⟩) (meth := k2m3) (c := k2c3) (by decide +kernel) rfl rfl rfl (by decide +kernel)
set_option maxRecDepth 65536 in
theorem w_c6 : (Jvm.Cond.code ({ cls := "com/example/threshold/threshold/engine/UnitBits", name := "countRanks", desc := "()V" } : Jvm.MethodName) prog_41_method_6_code (2 : Nat) (Option.none : Option Jvm.ClassFile.FieldType)).before args0 about1 = true := code_word (m := ⟨2, 4⟩) (meth := k2m4) (c := k2c4) (by decide +kernel) rfl rfl rfl (by decide +kernel)
set_option maxRecDepth 65536 in
theorem w_c7 : (Jvm.Cond.code ({ cls := "com/example/threshold/threshold/engine/UnitBits", name := "rank", desc := "(I)I" } : Jvm.MethodName) prog_41_method_7_code (3 : Nat) (Option.some Jvm.ClassFile.FieldType.int)).before args0 about1 = true := code_word (m := ⟨2, 5⟩) (meth := k2m5) (c := k2c5) (by decide +kernel) rfl rfl rfl (by decide +kernel)
set_option maxRecDepth 65536 in
theorem w_c8 : (Jvm.Cond.code ({ cls := "java/lang/Long", name := "bitCount", desc := "(J)I" } : Jvm.MethodName) jdk_35_method_50_code (2 : Nat) (Option.some Jvm.ClassFile.FieldType.int)).before args0 about1 = true := code_word (m := ⟨8, 1⟩) (meth := k8m1) (c := k8c1) (by decide +kernel) rfl rfl rfl (by decide +kernel)
set_option maxRecDepth 65536 in
theorem w_c9 : (Jvm.Cond.code ({ cls := "com/example/threshold/threshold/engine/UnitBits", name := "ascending", desc := "()[I" } : Jvm.MethodName) prog_41_method_8_code (6 : Nat) (Option.some (Jvm.ClassFile.FieldType.array Jvm.ClassFile.FieldType.int))).before args0 about1 = true := code_word (m := ⟨2, 6⟩) (meth := k2m6) (c := k2c6) (by decide +kernel) rfl rfl rfl (by decide +kernel)
set_option maxRecDepth 65536 in
theorem w_c10 : (Jvm.Cond.code ({ cls := "java/lang/Long", name := "numberOfTrailingZeros", desc := "(J)I" } : Jvm.MethodName) jdk_35_method_49_code (3 : Nat) (Option.some Jvm.ClassFile.FieldType.int)).before args0 about1 = true := code_word (m := ⟨8, 0⟩) (meth := k8m0) (c := k8c0) (by decide +kernel) rfl rfl rfl (by decide +kernel)
set_option maxRecDepth 65536 in
theorem w_c11 : (Jvm.Cond.code ({ cls := "java/lang/Integer", name := "numberOfTrailingZeros", desc := "(I)I" } : Jvm.MethodName) jdk_33_method_48_code (2 : Nat) (Option.some Jvm.ClassFile.FieldType.int)).before args0 about1 = true := code_word (m := ⟨9, 0⟩) (meth := k9m0) (c := k9c0) (by decide +kernel) rfl rfl rfl (by decide +kernel)
set_option maxRecDepth 65536 in
theorem w_c12 : (Jvm.Cond.code ({ cls := "java/lang/Math", name := "min", desc := "(II)I" } : Jvm.MethodName) jdk_29_method_69_code (2 : Nat) (Option.some Jvm.ClassFile.FieldType.int)).before args0 about1 = true := code_word (m := ⟨10, 2⟩) (meth := k10m2) (c := k10c2) (by decide +kernel) rfl rfl rfl (by decide +kernel)
set_option maxRecDepth 65536 in
theorem w_c13 : (Jvm.Cond.code ({ cls := "java/lang/Math", name := "max", desc := "(II)I" } : Jvm.MethodName) jdk_29_method_65_code (2 : Nat) (Option.some Jvm.ClassFile.FieldType.int)).before args0 about1 = true := code_word (m := ⟨10, 1⟩) (meth := k10m1) (c := k10c1) (by decide +kernel) rfl rfl rfl (by decide +kernel)
def codes1 : List Jvm.Cond := [Jvm.Cond.code x code maxLocals ret, Jvm.Cond.code ({ cls := "com/example/threshold/threshold/engine/UnitBits", name := "<init>", desc := "(I)V" } : Jvm.MethodName) prog_41_method_1_code (2 : Nat) (Option.none : Option Jvm.ClassFile.FieldType), Jvm.Cond.code ({ cls := "java/lang/Object", name := "<init>", desc := "()V" } : Jvm.MethodName) object_method_1_code (1 : Nat) (Option.none : Option Jvm.ClassFile.FieldType), Jvm.Cond.code ({ cls := "com/example/threshold/threshold/engine/UnitBits", name := "words", desc := "(I)I" } : Jvm.MethodName) prog_41_method_3_code (1 : Nat) (Option.some Jvm.ClassFile.FieldType.int), Jvm.Cond.code ({ cls := "com/example/threshold/threshold/engine/UnitBits", name := "mark", desc := "(I)V" } : Jvm.MethodName) prog_41_method_4_code (2 : Nat) (Option.none : Option Jvm.ClassFile.FieldType), Jvm.Cond.code ({ cls := "com/example/threshold/threshold/engine/UnitBits", name := "isMarked", desc := "(I)Z" } : Jvm.MethodName) prog_41_method_5_code (2 : Nat) (Option.some Jvm.ClassFile.FieldType.boolean), Jvm.Cond.code ({ cls := "com/example/threshold/threshold/engine/UnitBits", name := "countRanks", desc := "()V" } : Jvm.MethodName) prog_41_method_6_code (2 : Nat) (Option.none : Option Jvm.ClassFile.FieldType), Jvm.Cond.code ({ cls := "com/example/threshold/threshold/engine/UnitBits", name := "rank", desc := "(I)I" } : Jvm.MethodName) prog_41_method_7_code (3 : Nat) (Option.some Jvm.ClassFile.FieldType.int), Jvm.Cond.code ({ cls := "java/lang/Long", name := "bitCount", desc := "(J)I" } : Jvm.MethodName) jdk_35_method_50_code (2 : Nat) (Option.some Jvm.ClassFile.FieldType.int), Jvm.Cond.code ({ cls := "com/example/threshold/threshold/engine/UnitBits", name := "ascending", desc := "()[I" } : Jvm.MethodName) prog_41_method_8_code (6 : Nat) (Option.some (Jvm.ClassFile.FieldType.array Jvm.ClassFile.FieldType.int)), Jvm.Cond.code ({ cls := "java/lang/Long", name := "numberOfTrailingZeros", desc := "(J)I" } : Jvm.MethodName) jdk_35_method_49_code (3 : Nat) (Option.some Jvm.ClassFile.FieldType.int), Jvm.Cond.code ({ cls := "java/lang/Integer", name := "numberOfTrailingZeros", desc := "(I)I" } : Jvm.MethodName) jdk_33_method_48_code (2 : Nat) (Option.some Jvm.ClassFile.FieldType.int), Jvm.Cond.code ({ cls := "java/lang/Math", name := "min", desc := "(II)I" } : Jvm.MethodName) jdk_29_method_69_code (2 : Nat) (Option.some Jvm.ClassFile.FieldType.int), Jvm.Cond.code ({ cls := "java/lang/Math", name := "max", desc := "(II)I" } : Jvm.MethodName) jdk_29_method_65_code (2 : Nat) (Option.some Jvm.ClassFile.FieldType.int)]
set_option maxRecDepth 65536 in
theorem codes_eq : words1.filter isCode = codes1 := rfl
theorem w_codes : ∀ c ∈ words1.filter isCode, c.before args0 about1 = true := by
  rw [codes_eq]
  intro c hc
  simp only [codes1, List.mem_cons, List.not_mem_nil, or_false] at hc
  rcases hc with rfl | rfl | rfl | rfl | rfl | rfl | rfl | rfl | rfl | rfl | rfl | rfl | rfl | rfl
  · exact w_c0
  · exact w_c1
  · exact w_c2
  · exact w_c3
  · exact w_c4
  · exact w_c5
  · exact w_c6
  · exact w_c7
  · exact w_c8
  · exact w_c9
  · exact w_c10
  · exact w_c11
  · exact w_c12
  · exact w_c13
set_option maxRecDepth 65536 in
theorem w_t1 : (words1.take 24).all (fun c => isCode c || c.before args0 about1) = true := by decide +kernel
set_option maxRecDepth 65536 in
theorem w_t2 : ((words1.drop 24).take 24).all (fun c => isCode c || c.before args0 about1) = true := by decide +kernel
set_option maxRecDepth 65536 in
theorem w_t3 : ((words1.drop 24).drop 24).all (fun c => isCode c || c.before args0 about1) = true := by decide +kernel
theorem w_tables : (allAtoms (Jvm.Cond.code x code maxLocals ret :: tables_1)).before args0 about1 = true := by
  rw [allAtoms_all]
  show words1.all (fun c => c.before args0 about1) = true
  refine all_split ?_ w_codes
  rw [← List.take_append_drop 24 words1, List.all_append, w_t1, ← List.take_append_drop 24 (words1.drop 24), List.all_append, w_t2, w_t3]
  rfl
set_option maxRecDepth 65536 in
theorem w_case : (Jvm.Cond.and given_1 narrow_1).before args0 about1 = true := by decide +kernel
theorem w_applies : (headSpec (Jvm.Cond.code x code maxLocals ret :: tables_1) room_1).applies x e0.platform about1 = true :=
  (Spec.applies_iff w_frames).mpr ⟨w_running, w_runnable, w_alone, w_named, w_hears, w_ripe, w_room, w_tables⟩
theorem atStart : AtStart classFile x code maxLocals ret World_1 tables_1 room_1 Calls_1 rest_1 Pre_1 launch0 p0 e0 about1 theMethod args0 below0 :=
  ⟨lists_1, trivial, launch0.admits_env _ _ _, launch0.least_env, fairChoices_fair.cas, fairChoices_fair.clock, w_frames, w_args, w_heap, w_applies, trivial, trivial, w_case⟩
end start1
theorem witness_1 : WitnessClaimed_1 := ⟨start1.p0, start1.e0, start1.about1, start1.theMethod, start1.args0, start1.below0, start1.atStart⟩
end Jvm.Pilot.@@N@@
