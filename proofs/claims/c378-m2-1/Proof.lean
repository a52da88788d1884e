import JvmDerived
import JvmDerived.Pilot.@@N@@Statement
import JvmDerived.Pilot.@@N@@Code
set_option linter.unusedVariables false
set_option linter.unusedSimpArgs false
@@BLOCK:NumsL.lean.txt@@
namespace Jvm.RoadKit
open Sem ClassFile Op Lib Jvm.Stand Jvm.Free Jvm.LawKit
section OwnRuns
variable {p : Program} {l : Launch} {e : Env} {R : Room} {s : State} {m : MethodId} {args : Array Value} {below : List Frame} {meth : Method} {c : Code} {T : State} {locs : List Loc} {cells slots : Nat}
/-- from U the invocation comes to its end, and there Q holds -/
def Runs (p : Program) (e : Env) (below : List Frame) (Q : Outcome → State → Prop) (U : State) : Prop :=
  ∃ s₂ o, Steps p.tables e below U s₂ ∧ s₂.status = .running ∧ Ended s₂ below o ∧ Q o s₂
def QE (s : State) (Q : Option Value → Heap → List Loc → Prop) (C S : Nat) : Outcome → State → Prop :=
  fun o U' => ∃ v L, o = .returned v ∧ Q v U'.heap L ∧ FrameEnd s o U' L C S
theorem Runs.by {Q : Outcome → State → Prop} {U U' : State} (h : ∀ t, Steps p.tables e below U' t → Steps p.tables e below U t) (k : Runs p e below Q U') : Runs p e below Q U := by
  obtain ⟨s2, o, h1, h2⟩ := k
  exact ⟨s2, o, h _ h1, h2⟩
theorem Runs.ret {Q : Option Value → Heap → List Loc → Prop} {C S : Nat} {t : FieldType} {w : Value} {i : Instr} {pc : Nat} {Ls : Array Slot} {rest : List Value}
    (X : Stand p l e R s m args below meth c T locs cells slots) (hx : p.tables.exec = Jvm.exec) (hret : meth.sig.returnType = some t) (hlk : meth.locks = false)
    (hi : (i = .ireturn ∧ (t = .int ∨ t = .boolean ∨ t = .byte ∨ t = .char ∨ t = .short) ∧ ∃ z, w = .int z) ∨ (i = .lreturn ∧ t = .long ∧ ∃ z, w = .long z) ∨ (i = .dreturn ∧ t = .double ∧ ∃ z, w = .double z) ∨ (i = .freturn ∧ t = .float ∧ ∃ z, w = .float z) ∨ (i = .areturn ∧ t.isReference = true ∧ w.isRef = true))
    (hn : narrow t w = w) (hd : decode c.code pc = .ok (i, 1)) (hC : cells ≤ C) (hS : slots ≤ S) (hQ : Q (some w) T.heap locs) : Runs p e below (QE s Q C S) (T.setTop (mkF m pc Ls (w :: rest))) := by
  obtain ⟨fs, hr, hrun, hended, hW, hsame⟩ := X.leave (v := some w) (fun h => by rw [hret] at h; cases h) hlk
  exact ⟨_, _, retOut X hx hret hn hi hd hr, hrun, hended, _, _, rfl, hQ, ⟨_, rfl⟩, hW, hsame.mono hC hS⟩
theorem Runs.retV {Q : Option Value → Heap → List Loc → Prop} {C S : Nat} {pc : Nat} {Ls : Array Slot}
    (X : Stand p l e R s m args below meth c T locs cells slots) (hx : p.tables.exec = Jvm.exec) (hret : meth.sig.returnType = none) (hlk : meth.locks = false)
    (hd : decode c.code pc = .ok (.return_, 1)) (hC : cells ≤ C) (hS : slots ≤ S) (hQ : Q none T.heap locs) : Runs p e below (QE s Q C S) (T.setTop (mkF m pc Ls [])) := by
  obtain ⟨fs, hr, hrun, hended, hW, hsame⟩ := X.leave (v := none) (fun _ => rfl) hlk
  exact ⟨_, _, X.returnOut hx hret hd hr, hrun, hended, _, _, rfl, hQ, ⟨_, rfl⟩, hW, hsame.mono hC hS⟩
theorem own_narrow_b (x : Int32) (h : x = 0 ∨ x = 1) : narrow .boolean (.int x) = .int x := by rcases h with rfl | rfl <;> rfl
end OwnRuns
section OwnWide
variable {p : Program} {l : Launch} {e : Env} {R : Room} {s Z : State} {m : MethodId} {args : Array Value} {below : List Frame} {meth : Method} {c : Code} {T : State} {locs : List Loc} {cells slots : Nat} {vm1 : Vm} {EL : List (String × Nat)} {a0 : Array Value} {h : Heap}
/-- as QE, for a body that may load String constants -/
def QEW (Z : State) (EL : List (String × Nat)) (s : State) (Q : Option Value → Heap → List Loc → Prop) (C S : Nat) : Outcome → State → Prop :=
  fun o U' => ∃ v L, o = .returned v ∧ Q v U'.heap L ∧ CHr Z EL s.vm s.heap U'.vm U'.heap ∧ ReturnedEndW s o U' L C S
theorem own_monoW {t : State} {o : Outcome} {L : List Loc} {k n k' n' : Nat} (h : ReturnedEndW s o t L k n) (hk : k ≤ k') (hn : n ≤ n') : ReturnedEndW s o t L k' n' := ⟨h.1, h.2.1, h.2.2.1, h.2.2.2.mono hk hn⟩
theorem Runs.retW {Q : Option Value → Heap → List Loc → Prop} {C S n : Nat} {t : FieldType} {w : Value} {i : Instr} {pc : Nat} {Ls : Array Slot} {rest : List Value}
    (X : Stand p l e R (s.setVm vm1) m args below meth c T locs cells slots) (hx : p.tables.exec = Jvm.exec) (hret : meth.sig.returnType = some t) (hlk : meth.locks = false) (eT : T.heap = h) (hS : s.Since vm1 n) (hk : n ≤ h.size) (hZ : Z.Warmed39 vm1) (hEL : EW Z a0 EL) (hC : CHr Z EL s.vm s.heap vm1 h)
    (hi : (i = .ireturn ∧ (t = .int ∨ t = .boolean ∨ t = .byte ∨ t = .char ∨ t = .short) ∧ ∃ z, w = .int z) ∨ (i = .lreturn ∧ t = .long ∧ ∃ z, w = .long z) ∨ (i = .dreturn ∧ t = .double ∧ ∃ z, w = .double z) ∨ (i = .freturn ∧ t = .float ∧ ∃ z, w = .float z) ∨ (i = .areturn ∧ t.isReference = true ∧ w.isRef = true))
    (hn : narrow t w = w) (hd : decode c.code pc = .ok (i, 1)) (hCc : cells ≤ C) (hSs : slots ≤ S) (hQ : Q (some w) h locs) : Runs p e below (QEW Z EL s Q C S) (T.setTop (mkF m pc Ls (w :: rest))) := by
  subst eT
  obtain ⟨fs, hr, hrun, hended, hW⟩ := X.leaveW hS hk (v := some w) (fun h => by rw [hret] at h; cases h) hlk
  have hA := hC.trans (CHv.at X hZ hEL hC.1)
  exact ⟨_, _, retOut X hx hret hn hi hd hr, hrun, hended, _, _, rfl, hQ, hA, own_monoW hW hCc hSs⟩
theorem Runs.retVW {Q : Option Value → Heap → List Loc → Prop} {C S n : Nat} {pc : Nat} {Ls : Array Slot}
    (X : Stand p l e R (s.setVm vm1) m args below meth c T locs cells slots) (hx : p.tables.exec = Jvm.exec) (hret : meth.sig.returnType = none) (hlk : meth.locks = false) (eT : T.heap = h) (hS : s.Since vm1 n) (hk : n ≤ h.size) (hZ : Z.Warmed39 vm1) (hEL : EW Z a0 EL) (hC : CHr Z EL s.vm s.heap vm1 h)
    (hd : decode c.code pc = .ok (.return_, 1)) (hCc : cells ≤ C) (hSs : slots ≤ S) (hQ : Q none h locs) : Runs p e below (QEW Z EL s Q C S) (T.setTop (mkF m pc Ls [])) := by
  subst eT
  obtain ⟨fs, hr, hrun, hended, hW⟩ := X.leaveW hS hk (v := none) (fun _ => rfl) hlk
  have hA := hC.trans (CHv.at X hZ hEL hC.1)
  exact ⟨_, _, X.returnOut hx hret hd hr, hrun, hended, _, _, rfl, hQ, hA, own_monoW hW hCc hSs⟩
/-- a callee that may load String constants and writes the object at x, of which is known that no constant books it -/
theorem own_backSH {y : MethodName} {bytes : ByteArray} {maxL : Nat} {ret : Option FieldType} {rm : Room} {len W : Nat} {as' : Array Value} {Q : Option Value → Heap → List Loc → Prop} {vm0 : Vm} {x : Addr}
    (hM : MetFree l y (head1 [Cond.code y bytes maxL ret] rm) (fun a U => a = as' ∧ Z.Warmed39 U.vm ∧ U.heap = h ∧ CHv Z EL U.vm h ∧ Safe Z EL U.vm h x) (fun _ _ _ _ _ => True) (fun _ U o U' => ∃ v L, o = .returned v ∧ Q v U'.heap L ∧ CHr Z EL U.vm U.heap U'.vm U'.heap ∧ ReturnedEndW U o U' L rm.cells rm.slots))
    (hZ : Z.Warmed39 vm0) (wc : (Cond.code y bytes maxL ret).before a0 Z = true) (wz : (Cond.initialized y.cls).before a0 Z = true) (hf : rm.frames + 1 ≤ R.frames) (hl : W + (maxL + 11) + rm.locals ≤ R.locals) (hEL : EW Z a0 EL) (H : CHv Z EL vm0 h) (hxl : x < h.size) (Sx : Safe Z EL vm0 h x) :
    BackS l R p e below (s.setVm vm0) args y len W (fun A a => a = as' ∧ A.U.heap = h ∧ A.cells + rm.cells ≤ R.cells ∧ A.slots + rm.slots ≤ R.slots)
      (fun A _ v B => ∃ L, Q v B.U.heap L ∧ B.locs = A.locs ++ L ∧ B.cells = A.cells + rm.cells ∧ B.slots = A.slots + rm.slots ∧ CHr Z EL vm0 h B.U.vm B.U.heap) := by
  refine BackS.of_freeW (bytes := bytes) (maxL := maxL) (ret := ret) (E := fun _ first o t L k n => k = rm.cells ∧ n = rm.slots ∧ (∃ v, o = .returned v ∧ Q v t.heap L) ∧ CHr Z EL first.vm first.heap t.vm t.heap) hM hf hl ?_ ?_ (fun _ _ _ _ _ _ _ _ _ => trivial) ?_ ?_
  · intro m meth c A a Y hp
    have hU : Z.Warmed39 A.U.vm := wtrans (s := s.setVm vm0) hZ Y.warmed
    exact ⟨by show (Cond.and _ .tt).before a A.U = true; rw [Cond.before_and, mv hU wc]; rfl, mv hU wc, mv hU wz, hp.2.2.1, hp.2.2.2⟩
  · intro m meth c A a g mk Y hp
    have hr := CHv.at Y hZ hEL H
    exact ⟨hp.1, wtrans (s := s.setVm vm0) hZ Y.warmed, hp.2.1, hr.1, hr.safe hxl Sx⟩
  · rintro _ _ _ _ ⟨v, L, h1, h2, h3, h4⟩
    exact ⟨L, _, _, h4, rfl, rfl, ⟨v, h1, h2⟩, h3⟩
  · rintro m meth c A a g mk v t L k n Y hp _ _ ⟨e1, e2, ⟨v', e3, e4⟩, e5⟩
    cases e3; subst e1 e2
    refine ⟨L, e4, rfl, rfl, rfl, (CHv.at Y hZ hEL H).trans ?_⟩
    rw [← hp.2.1]; exact e5
theorem own_safe_arv {x : Addr} {k : ClassId} {ty : FieldType} {z : Int32} {vs : List Value} {d : Value} {vm : Vm} (hal : Z.vm.Alike vm) (V : Arv Z h x k ty z vs d) (ht : ty ≠ .byte) : Safe Z EL vm h x := by
  obtain ⟨c, A, -⟩ := V; exact Safe.arr hal A ht
end OwnWide
theorem own_selp {Z s : State} {a0 args : Array Value} {y : MethodName} {n : Nat} (hZ : Z.Warmed39 s.vm) (wi : (Cond.instantiable y.cls n).before a0 Z = true) (wp : (Cond.privateMethod y).before a0 Z = true) (wm : (Cond.instanceMethod y).before a0 Z = true) (hy : y.cls ≠ "java/lang/invoke/MethodHandle" ∧ y.cls ≠ "java/lang/invoke/VarHandle") : (Cond.selects y.cls y y).before args s = true := by
  obtain ⟨c, k, h1, h2, h3, h4, -⟩ := Cond.instantiable_spec (mvT (args := args) hZ wi)
  exact selects_self_of_private h1 h2 (by simp only [Bool.or_eq_false_iff] at h4; exact h4.1) (Cond.privateMethod_at (mvP hZ wp (args := args))) (mvT hZ wm) hy
theorem own_nneg {z : Int32} (h : 0 ≤ z.toInt) : ¬ z < 0 := by
  have e0 : (0 : Int32).toInt = 0 := by decide
  rw [Int32.lt_iff_toInt_lt]; omega
theorem own_cap {z : Int32} {n : Nat} (h : z.toInt ≤ n) : z.toNatClampNeg ≤ n := by show Int.toNat _ ≤ _; omega
section OwnArf
variable {Z : State} {h h' : Heap} {a b : Addr} {k : ClassId} {ty : FieldType} {z j : Int32} {f g : Nat → Value} {v w : Value} {sl : Nat} {ws : List Addr} {c : Cell}
def own_up {α : Type} (f : Nat → α) (n : Nat) (x : α) : Nat → α := fun i => if i = n then x else f i
theorem own_up_same {α : Type} (f : Nat → α) (n : Nat) (x : α) : own_up f n x n = x := by simp [own_up]
theorem own_up_ne {α : Type} (f : Nat → α) {n i : Nat} (x : α) (q : i ≠ n) : own_up f n x i = f i := by simp [own_up, q]
/-- an array: its class, its length, what stands at each place -/
def Arf (Z : State) (h : Heap) (a : Addr) (k : ClassId) (ty : FieldType) (z : Int32) (f : Nat → Value) : Prop :=
  ∃ c : Cell, Arr Z h a c ty ∧ c.cls = k ∧ c.slots.size = z.toNatClampNeg ∧ ¬ z < 0 ∧ ∀ i, i < z.toNatClampNeg → c.slots[i]? = some (f i)
theorem Arf.lt (F : Arf Z h a k ty z f) : a < h.size := by obtain ⟨c, A, -⟩ := F; exact A.lt
theorem Arf.ext (F : Arf Z h a k ty z f) (E : Ext h h') : Arf Z h' a k ty z f := by obtain ⟨c, A, r⟩ := F; exact ⟨c, A.ext E, r⟩
theorem Arf.other (F : Arf Z h b k ty z f) (W : Wr h h' a sl v) (q : b ≠ a) : Arf Z h' b k ty z f := by obtain ⟨c, A, r⟩ := F; exact ⟨c, A.other W q, r⟩
theorem Arf.keep (F : Arf Z h a k ty z f) (K : Keep h h' ws) (q : a ∉ ws) : Arf Z h' a k ty z f := by obtain ⟨c, A, r⟩ := F; exact ⟨c, ⟨K.2.1 a c A.1 q, A.2⟩, r⟩
theorem Arf.cast (F : Arf Z h a k ty z f) (e : ∀ i, i < z.toNatClampNeg → f i = g i) : Arf Z h a k ty z g := by obtain ⟨c, A, r1, r2, r3, H⟩ := F; exact ⟨c, A, r1, r2, r3, fun i hi => by rw [H i hi, e i hi]⟩
theorem Arf.new (A : Arr Z h a (newA k ty z) ty) (q : ¬ z < 0) : Arf Z h a k ty z (fun _ => defaultValue ty) := ⟨_, A, rfl, sz_new _ _ _, q, fun i hi => by simp [newA, hi]⟩
theorem Arf.set {n : Nat} (A : Arr Z h a c ty) (q1 : c.cls = k) (S : c.slots.size = z.toNatClampNeg) (q3 : ¬ z < 0) (H : ∀ i, i < z.toNatClampNeg → c.slots[i]? = some (f i)) (W : Wr h h' a j.toNatClampNeg v) (hj : j.toNatClampNeg = n) : Arf Z h' a k ty z (own_up f n v) := by
  refine ⟨_, A.same W, q1, by rw [sz_set]; exact S, q3, fun i hi => ?_⟩
  rw [hj]
  by_cases u : i = n
  · subst u; simp [Cell.setSlot, own_up, S, hi]
  · have := H i hi; simp only [Cell.setSlot, own_up, u, if_false] at this ⊢
    rw [Array.getElem?_setIfInBounds_ne (Ne.symm u)]; exact this
theorem own_ix {j z : Int32} {n : Nat} (hj : j.toInt = n) (hz : j.toInt < z.toInt) : (¬ j < 0 ∧ j < z) ∧ j.toNatClampNeg = n ∧ n < z.toNatClampNeg := by
  have e0 : (0 : Int32).toInt = 0 := by decide
  refine ⟨⟨by rw [Int32.lt_iff_toInt_lt]; omega, by rw [Int32.lt_iff_toInt_lt]; exact hz⟩, ?_, ?_⟩
  · show Int.toNat _ = _; omega
  · show _ < Int.toNat _; omega
theorem own_cl {z : Int32} {j : Nat} (h : j < z.toNatClampNeg) : (j : Int) < z.toInt := by
  have e : z.toNatClampNeg = z.toInt.toNat := rfl
  omega
end OwnArf
end Jvm.RoadKit
/- laws to paste: Road.backV (cut by pick.py; bodies as the Statement names them) -/
namespace Jvm.Pilot.@@N@@
namespace StrChars
open Jvm Sem ClassFile Op Lib Jvm.Stand Jvm.Free.XT Jvm.Free.ALB Jvm.Free.JM Jvm.Free
open Jvm.Lib.Cold (StaticIs)
/-- a char array whose places are chars -/
def Ch (a : Addr) (A : Cell) (U : State) : Prop := Arr .char a A U ∧ Typed .char A
theorem Ch.mv {a : Addr} {A : Cell} {U U' : State} (h : Ch a A U) (hal : U.vm.Alike U'.vm) (hh : U'.heap = U.heap) : Ch a A U' := ⟨h.1.mv hal hh, h.2⟩
theorem Ch.keep {a : Addr} {A : Cell} {U U' : State} (h : Ch a A U) (hal : U.vm.Alike U'.vm) (hk : U'.heap[a]? = some A) : Ch a A U' := ⟨h.1.keep hal hk, h.2⟩
/-- what place i of a char[]'s cell holds -/
def cv (A : Cell) (i : Nat) : Int32 := match A.slots[i]? with | some (.int x) => x | _ => 0
theorem Ch.get {a : Addr} {A : Cell} {U : State} (h : Ch a A U) {i : Nat} (hi : i < A.slots.size) : A.slots[i]? = some (.int (cv A i)) := by
  have e := Array.getElem?_eq_getElem hi
  have f := h.2 i _ e
  unfold cv; rw [e]
  generalize A.slots[i] = v at f
  cases v <;> simp [fits] at f ⊢
/-- the byte that i2b leaves of a char -/
def lo8 (x : Int32) : Int32 := x.toInt8.toInt32
theorem fits_lo8 (y : Int32) : fits .byte (.int (lo8 y)) = true := by
  have h1 := y.toInt8.le_toInt
  have h2 := y.toInt8.toInt_lt
  simp only [lo8, fits, Bool.and_eq_true, decide_eq_true_eq, Int32.le_iff_toInt_le, Int8.toInt_toInt32, show (-128 : Int32).toInt = -128 from by decide, show (127 : Int32).toInt = 127 from by decide]
  omega
/-- A' is A but that each place j of lo .. hi - 1 holds f j -/
def Laid (A A' : Cell) (lo hi : Nat) (f : Nat → Value) : Prop := A'.cls = A.cls ∧ A'.vm = A.vm ∧ A'.slots.size = A.slots.size ∧ ∀ i, A'.slots[i]? = if lo ≤ i ∧ i < hi then some (f i) else A.slots[i]?
theorem Laid.zero (A : Cell) (lo : Nat) (f : Nat → Value) : Laid A A lo (lo + 0) f := ⟨rfl, rfl, rfl, fun i => by rw [if_neg (by omega)]⟩
theorem Laid.step {A Ak : Cell} {lo k : Nat} {f : Nat → Value} {v : Value} (h : Laid A Ak lo k f) (hlo : lo ≤ k) (hk : k < Ak.slots.size) (hv : v = f k) : Laid A (Ak.setSlot k v) lo (k + 1) f := by
  refine ⟨h.1, h.2.1, by simpa [Cell.setSlot] using h.2.2.1, fun i => ?_⟩
  by_cases e : k = i
  · subst e; rw [Cell.slots_setSlot_self v hk, if_pos (by omega), hv]
  · rw [Cell.slots_setSlot_ne v e, h.2.2.2 i]
    by_cases q : lo ≤ i ∧ i < k
    · rw [if_pos q, if_pos (by omega)]
    · rw [if_neg q, if_neg (by omega)]
def U16 : String := "java/lang/StringUTF16"
namespace Cmp5
def yN : MethodName := ⟨"java/lang/StringUTF16", "compress", "([CI[BII)I"⟩
abbrev yB : ByteArray := jdk_52_method_21_code
theorem d0 : decode yB 0 = .ok (.iconst 0, 1) := by decide +kernel
theorem d1 : decode yB 1 = .ok (.istore 5, 2) := by decide +kernel
theorem d3 : decode yB 3 = .ok (.iload 5, 2) := by decide +kernel
theorem d5 : decode yB 5 = .ok (.iload 4, 2) := by decide +kernel
theorem d7 : decode yB 7 = .ok (.if_icmp (.ge) 37, 3) := by decide +kernel
theorem d10 : decode yB 10 = .ok (.aload_n 0, 1) := by decide +kernel
theorem d11 : decode yB 11 = .ok (.iload_n 1, 1) := by decide +kernel
theorem d12 : decode yB 12 = .ok (.caload, 1) := by decide +kernel
theorem d13 : decode yB 13 = .ok (.istore 6, 2) := by decide +kernel
theorem d15 : decode yB 15 = .ok (.iload 6, 2) := by decide +kernel
theorem d17 : decode yB 17 = .ok (.sipush 255, 3) := by decide +kernel
theorem d20 : decode yB 20 = .ok (.if_icmp (.le) 6, 3) := by decide +kernel
theorem d26 : decode yB 26 = .ok (.aload_n 2, 1) := by decide +kernel
theorem d27 : decode yB 27 = .ok (.iload_n 3, 1) := by decide +kernel
theorem d28 : decode yB 28 = .ok (.iload 6, 2) := by decide +kernel
theorem d30 : decode yB 30 = .ok (.i2b, 1) := by decide +kernel
theorem d31 : decode yB 31 = .ok (.bastore, 1) := by decide +kernel
theorem d32 : decode yB 32 = .ok (.iinc 1 1, 3) := by decide +kernel
theorem d35 : decode yB 35 = .ok (.iinc 3 1, 3) := by decide +kernel
theorem d38 : decode yB 38 = .ok (.iinc 5 1, 3) := by decide +kernel
theorem d41 : decode yB 41 = .ok (.goto (-38), 3) := by decide +kernel
theorem d44 : decode yB 44 = .ok (.iload 4, 2) := by decide +kernel
theorem d46 : decode yB 46 = .ok (.ireturn, 1) := by decide +kernel
def site : List Cond := []
def tab : Cond := tabOf yN yB 7 (some .int) site
def P (b : Addr) (A : Cell) (d : Addr) (B : Cell) (o q len : Nat) (args : Array Value) (s : State) : Prop := args = #[.ref b, .int (Int32.ofNat o), .ref d, .int (Int32.ofNat q), .int (Int32.ofNat len)] ∧ Ch b A s ∧ Arr .byte d B s ∧ b ≠ d ∧ o + len ≤ A.slots.size ∧ q + len ≤ B.slots.size ∧ ∀ i, i < len → ¬ 255 < cv A (o + i)
def E (b : Addr) (A : Cell) (d : Addr) (B : Cell) (o q len : Nat) (r : Option Value) (s u : State) : Prop := r = some (.int (Int32.ofNat len)) ∧ ∃ B', Put d B' s u ∧ Laid B B' q (q + len) (fun j => Value.int (lo8 (cv A (o + (j - q)))))
/-- no char of the range above 255: len; the places written hold each char's low byte -/
theorem law (l : Launch) (b : Addr) (A : Cell) (d : Addr) (B : Cell) (o q len : Nat) : Law l yN 5 5 0 0 yB 7 (some .int) site (P b A d B o q len) (E b A d B o q len) (copyLocs d q len) 0 0 := by
  refine Law.of_walk (plainFor_of_name (by decide +kernel)) (by decide +kernel) (by decide +kernel) (by decide) (fun _ _ h => by rw [h.1]; rfl) (fun _ U U' hal hh h => ⟨h.1, h.2.1.mv hal hh, h.2.2.1.mv hal hh, h.2.2.2⟩) (fun r U U' V V' h1 hal h2 h => ⟨h.1, h.2.elim fun B' q => ⟨B', q.1.mv h1 h2, q.2⟩⟩) ?_
  intro p e s m args below meth c s₁ X0 hexec hbytes hml hret hlk hnm hown hh0 W hP
  obtain ⟨rfl, hA, hB, hne, l1, l2, hp⟩ := hP
  have c1 : Steps p.tables e below (s₁.setTop (entryFrame m #[.ref b, .int (Int32.ofNat o), .ref d, .int (Int32.ofNat q), .int (Int32.ofNat len)] 7)) (s₁.setTop (mkF m 0 #[.val (.ref b), .val (.int (Int32.ofNat o)), .val (.ref d), .val (.int (Int32.ofNat q)), .val (.int (Int32.ofNat len)), .unset, .unset] [])) := entry rfl
  have hA0 := hA.1.mv X0.warmed.alike hh0
  have hB0 := hB.mv X0.warmed.alike hh0
  have a31 := hA.1.2.2.2
  have c2 : Steps p.tables e below (s₁.setTop (entryFrame m #[.ref b, .int (Int32.ofNat o), .ref d, .int (Int32.ofNat q), .int (Int32.ofNat len)] 7)) (s₁.setTop (mkF m 3 #[.val (.ref b), .val (.int (Int32.ofNat o)), .val (.ref d), .val (.int (Int32.ofNat q)), .val (.int (Int32.ofNat len)), .val (.int 0), .unset] [])) := c1.trans (by
    refine iconstV X0.here hexec rfl 0 (hb hbytes d0) (by decide) ?_
    refine XS.istore X0.here hexec rfl (hb hbytes d1) rfl rfl ?_
    exact Steps.refl _)
  have loop : ∀ (r i : Nat), i + r = len → ∀ (z : Slot), (z = .unset ∨ ∃ w, z = .val w ∧ w.category = 1) → ∀ (Tl : State) (Bk : Cell), Stand p l e { frames := 0, locals := 0, cells := 0, slots := 0 } s m #[.ref b, .int (Int32.ofNat o), .ref d, .int (Int32.ofNat q), .int (Int32.ofNat len)] below meth c Tl ([] ++ copyLocs d q i) 0 0 → Put d Bk s₁ Tl → Laid B Bk q (q + i) (fun j => Value.int (lo8 (cv A (o + (j - q))))) →
      Steps p.tables e below (s₁.setTop (entryFrame m #[.ref b, .int (Int32.ofNat o), .ref d, .int (Int32.ofNat q), .int (Int32.ofNat len)] 7)) (Tl.setTop (mkF m 3 #[.val (.ref b), .val (.int (Int32.ofNat (o + i))), .val (.ref d), .val (.int (Int32.ofNat (q + i))), .val (.int (Int32.ofNat len)), .val (.int (Int32.ofNat i)), z] [])) → ∃ (T' : State) (B' : Cell) (z' : Slot), Stand p l e { frames := 0, locals := 0, cells := 0, slots := 0 } s m #[.ref b, .int (Int32.ofNat o), .ref d, .int (Int32.ofNat q), .int (Int32.ofNat len)] below meth c T' ([] ++ copyLocs d q len) 0 0 ∧ Put d B' s₁ T' ∧ Laid B B' q (q + len) (fun j => Value.int (lo8 (cv A (o + (j - q))))) ∧
      Steps p.tables e below (s₁.setTop (entryFrame m #[.ref b, .int (Int32.ofNat o), .ref d, .int (Int32.ofNat q), .int (Int32.ofNat len)] 7)) (T'.setTop (mkF m 3 #[.val (.ref b), .val (.int (Int32.ofNat (o + len))), .val (.ref d), .val (.int (Int32.ofNat (q + len))), .val (.int (Int32.ofNat len)), .val (.int (Int32.ofNat len)), z'] [])) := by
    intro r
    induction r with
    | zero =>
      intro i hi z hz Tl Bk Xl pl fl cl
      have hil : i = len := by omega
      rw [hil] at Xl fl cl
      exact ⟨Tl, Bk, z, Xl, pl, fl, cl⟩
    | succ r ih =>
      intro i hi z hz Tl Bk Xl pl fl cl
      have all := X0.warmed.alike.symm.trans Xl.warmed.alike
      have hAl := hA0.keep all (pl.other hne hA0.1)
      have hBk := hB0.like all pl.1 fl.1 fl.2.1 fl.2.2.1
      have hlt : q + i < Bk.slots.size := by rw [fl.2.2.1]; omega
      have c3 : Steps p.tables e below (s₁.setTop (entryFrame m #[.ref b, .int (Int32.ofNat o), .ref d, .int (Int32.ofNat q), .int (Int32.ofNat len)] 7)) (Tl.setTop (mkF m 12 #[.val (.ref b), .val (.int (Int32.ofNat (o + i))), .val (.ref d), .val (.int (Int32.ofNat (q + i))), .val (.int (Int32.ofNat len)), .val (.int (Int32.ofNat i)), z] [.int (Int32.ofNat (o + i)), .ref b])) := cl.trans (by
        refine XS.iload Xl.here hexec rfl (hb hbytes d3) rfl ?_
        refine XS.iload Xl.here hexec rfl (hb hbytes d5) rfl ?_
        refine XS.icmpNo Xl.here hexec rfl (hb hbytes d7) rfl (ii_ge_f (lt32 (by omega) (by omega))) ?_
        refine XS.aloadN Xl.here hexec rfl (hb hbytes d10) rfl rfl ?_
        refine XS.iloadN Xl.here hexec rfl (hb hbytes d11) rfl ?_
        exact Steps.refl _)
      have c4 : Steps p.tables e below (s₁.setTop (entryFrame m #[.ref b, .int (Int32.ofNat o), .ref d, .int (Int32.ofNat q), .int (Int32.ofNat len)] 7)) (Tl.setTop (mkF m 13 #[.val (.ref b), .val (.int (Int32.ofNat (o + i))), .val (.ref d), .val (.int (Int32.ofNat (q + i))), .val (.int (Int32.ofNat len)), .val (.int (Int32.ofNat i)), z] [.int (cv A (o + i))])) := c3.trans (by
        refine Xl.aget hexec hAl rfl (hA.get (i := o + i) (by omega)) rfl rfl (hb hbytes d12) ?_
        exact Steps.refl _)
      have c5 : Steps p.tables e below (s₁.setTop (entryFrame m #[.ref b, .int (Int32.ofNat o), .ref d, .int (Int32.ofNat q), .int (Int32.ofNat len)] 7)) (Tl.setTop (mkF m 15 #[.val (.ref b), .val (.int (Int32.ofNat (o + i))), .val (.ref d), .val (.int (Int32.ofNat (q + i))), .val (.int (Int32.ofNat len)), .val (.int (Int32.ofNat i)), .val (.int (cv A (o + i)))] [])) := c4.trans (by
        refine XS.istoreS Xl.here hexec rfl (hb hbytes d13) rfl rfl hz ?_
        exact Steps.refl _)
      have c6 : Steps p.tables e below (s₁.setTop (entryFrame m #[.ref b, .int (Int32.ofNat o), .ref d, .int (Int32.ofNat q), .int (Int32.ofNat len)] 7)) (Tl.setTop (mkF m 31 #[.val (.ref b), .val (.int (Int32.ofNat (o + i))), .val (.ref d), .val (.int (Int32.ofNat (q + i))), .val (.int (Int32.ofNat len)), .val (.int (Int32.ofNat i)), .val (.int (cv A (o + i)))] [.int (lo8 (cv A (o + i))), .int (Int32.ofNat (q + i)), .ref d])) := c5.trans (by
        refine XS.iload Xl.here hexec rfl (hb hbytes d15) rfl ?_
        refine sipushV Xl.here hexec rfl 255 (hb hbytes d17) (by decide) ?_
        refine XS.icmpYes Xl.here hexec rfl (pc0 := 20) rfl (hb hbytes d20) rfl (ii_le_t (hp i (by omega))) (by decide) rfl ?_
        refine XS.aloadN Xl.here hexec rfl (hb hbytes d26) rfl rfl ?_
        refine XS.iloadN Xl.here hexec rfl (hb hbytes d27) rfl ?_
        refine XS.iload Xl.here hexec rfl (hb hbytes d28) rfl ?_
        refine i2b Xl.here hexec rfl (hb hbytes d30) rfl ?_
        exact Steps.refl _)
      obtain ⟨T7, X7, p7, st7⟩ := Xl.aput hexec hBk rfl hlt rfl (fits_lo8 (cv A (o + i))) (g := (mkF m 31 #[.val (.ref b), .val (.int (Int32.ofNat (o + i))), .val (.ref d), .val (.int (Int32.ofNat (q + i))), .val (.int (Int32.ofNat len)), .val (.int (Int32.ofNat i)), .val (.int (cv A (o + i)))] [.int (lo8 (cv A (o + i))), .int (Int32.ofNat (q + i)), .ref d])) rfl (rest := []) rfl (hb hbytes d31)
      have c8 : Steps p.tables e below (s₁.setTop (entryFrame m #[.ref b, .int (Int32.ofNat o), .ref d, .int (Int32.ofNat q), .int (Int32.ofNat len)] 7)) (T7.setTop (mkF m 32 #[.val (.ref b), .val (.int (Int32.ofNat (o + i))), .val (.ref d), .val (.int (Int32.ofNat (q + i))), .val (.int (Int32.ofNat len)), .val (.int (Int32.ofNat i)), .val (.int (cv A (o + i)))] [])) := c6.trans (st7 _ (Steps.refl _))
      have c9 : Steps p.tables e below (s₁.setTop (entryFrame m #[.ref b, .int (Int32.ofNat o), .ref d, .int (Int32.ofNat q), .int (Int32.ofNat len)] 7)) (T7.setTop (mkF m 3 #[.val (.ref b), .val (.int (Int32.ofNat (o + i) + 1)), .val (.ref d), .val (.int (Int32.ofNat (q + i) + 1)), .val (.int (Int32.ofNat len)), .val (.int (Int32.ofNat i + 1)), .val (.int (cv A (o + i)))] [])) := c8.trans (by
        refine iincV X7.here hexec rfl 1 (hb hbytes d32) (by decide) rfl rfl ?_
        refine iincV X7.here hexec rfl 1 (hb hbytes d35) (by decide) rfl rfl ?_
        refine iincV X7.here hexec rfl 1 (hb hbytes d38) (by decide) rfl rfl ?_
        refine XS.goto X7.here hexec rfl (pc0 := 41) rfl (hb hbytes d41) (by decide) rfl ?_
        exact Steps.refl _)
      have c10 : Steps p.tables e below (s₁.setTop (entryFrame m #[.ref b, .int (Int32.ofNat o), .ref d, .int (Int32.ofNat q), .int (Int32.ofNat len)] 7)) (T7.setTop (mkF m 3 #[.val (.ref b), .val (.int (Int32.ofNat (o + (i + 1)))), .val (.ref d), .val (.int (Int32.ofNat (q + (i + 1)))), .val (.int (Int32.ofNat len)), .val (.int (Int32.ofNat (i + 1))), .val (.int (cv A (o + i)))] [])) := by
        have := c9
        rw [succ32, succ32, succ32] at this
        exact this
      exact ih (i + 1) (by omega) _ (Or.inr ⟨_, rfl, rfl⟩) T7 _ (by rw [copyLocs_step, ← List.append_assoc]; exact X7) (pl.trans p7) (fl.step (by omega) hlt (by simp)) c10
  obtain ⟨T9, B9, z9, X9, p9, f9, g9⟩ := loop len 0 (by omega) .unset (Or.inl rfl) s₁ B (by simpa [copyLocs] using X0) ⟨hB0.1, fun _ _ => rfl, rfl⟩ (Laid.zero _ _ _) c2
  have c11 : Steps p.tables e below (s₁.setTop (entryFrame m #[.ref b, .int (Int32.ofNat o), .ref d, .int (Int32.ofNat q), .int (Int32.ofNat len)] 7)) (T9.setTop (mkF m 46 #[.val (.ref b), .val (.int (Int32.ofNat (o + len))), .val (.ref d), .val (.int (Int32.ofNat (q + len))), .val (.int (Int32.ofNat len)), .val (.int (Int32.ofNat len)), z9] [.int (Int32.ofNat len)])) := g9.trans (by
    refine XS.iload X9.here hexec rfl (hb hbytes d3) rfl ?_
    refine XS.iload X9.here hexec rfl (hb hbytes d5) rfl ?_
    refine XS.icmpYes X9.here hexec rfl (pc0 := 7) rfl (hb hbytes d7) rfl (ii_ge_t (nlt32 (by omega) (Nat.le_refl _))) (by decide) rfl ?_
    refine XS.iload X9.here hexec rfl (hb hbytes d44) rfl ?_
    exact Steps.refl _)
  exact ⟨T9, some (.int (Int32.ofNat len)), _, _, _, X9, by simp, rfl, rfl, (fun h => by cases h), ⟨rfl, B9, p9.from hh0, f9⟩, fun fs hl => c11.trans (X9.ireturnOut hexec hret rfl (Or.inl rfl) (hb hbytes d46) hl)⟩
end Cmp5
namespace Cmp3
def yN : MethodName := ⟨"java/lang/StringUTF16", "compress", "([CII)[B"⟩
abbrev yB : ByteArray := jdk_52_method_16_code
theorem d0 : decode yB 0 = .ok (.iload_n 2, 1) := by decide +kernel
theorem d1 : decode yB 1 = .ok (.newarray .byte, 2) := by decide +kernel
theorem d3 : decode yB 3 = .ok (.astore_n 3, 1) := by decide +kernel
theorem d4 : decode yB 4 = .ok (.aload_n 0, 1) := by decide +kernel
theorem d5 : decode yB 5 = .ok (.iload_n 1, 1) := by decide +kernel
theorem d6 : decode yB 6 = .ok (.aload_n 3, 1) := by decide +kernel
theorem d7 : decode yB 7 = .ok (.iconst 0, 1) := by decide +kernel
theorem d8 : decode yB 8 = .ok (.iload_n 2, 1) := by decide +kernel
theorem d9 : decode yB 9 = .ok (.invokestatic 115, 3) := by decide +kernel
theorem d12 : decode yB 12 = .ok (.istore 4, 2) := by decide +kernel
theorem d14 : decode yB 14 = .ok (.iload 4, 2) := by decide +kernel
theorem d16 : decode yB 16 = .ok (.iload_n 2, 1) := by decide +kernel
theorem d17 : decode yB 17 = .ok (.if_icmp (.eq) 40, 3) := by decide +kernel
theorem d57 : decode yB 57 = .ok (.aload_n 3, 1) := by decide +kernel
theorem d58 : decode yB 58 = .ok (.areturn, 1) := by decide +kernel
def site : List Cond := [.arrayClass .byte, Cmp5.tab] ++ staticW U16 115 Cmp5.yN
def tab : Cond := tabOf yN yB 6 (some (.array .byte)) site
def P (b : Addr) (A : Cell) (o len : Nat) (args : Array Value) (s : State) : Prop := args = #[.ref b, .int (Int32.ofNat o), .int (Int32.ofNat len)] ∧ Ch b A s ∧ o + len ≤ A.slots.size ∧ len ≤ 536870912 ∧ ∀ i, i < len → ¬ 255 < cv A (o + i)
def E (b : Addr) (A : Cell) (o len : Nat) (r : Option Value) (s u : State) : Prop := NewArr .byte "[B" len (fun j => .int (lo8 (cv A (o + j)))) r s u ∧ u.heap.size = s.heap.size + 1
/-- no char of the range above 255: a new byte[] of their low bytes -/
theorem law (l : Launch) (b : Addr) (A : Cell) (o len : Nat) : Law l yN 3 3 1 18 yB 6 (some (.array .byte)) site (P b A o len) (E b A o len) [] 1 len := by
  refine Law.of_walk (plainFor_of_name (by decide +kernel)) (by decide +kernel) (by decide +kernel) (by decide) (fun _ _ h => by rw [h.1]; rfl) (fun _ U U' hal hh h => ⟨h.1, h.2.1.mv hal hh, h.2.2⟩) (fun r U U' V V' h1 hal h2 h => ⟨NewArr.mv r U U' V V' h1 hal h2 h.1, by rw [h1, h2]; exact h.2⟩) ?_
  intro p e s m args below meth c s₁ X0 hexec hbytes hml hret hlk hnm hown hh0 W hP
  obtain ⟨rfl, hA, l1, l2, hp⟩ := hP
  have a31 := hA.1.2.2.2
  have c1 : Steps p.tables e below (s₁.setTop (entryFrame m #[.ref b, .int (Int32.ofNat o), .int (Int32.ofNat len)] 6)) (s₁.setTop (mkF m 0 #[.val (.ref b), .val (.int (Int32.ofNat o)), .val (.int (Int32.ofNat len)), .unset, .unset, .unset] [])) := entry rfl
  have c2 : Steps p.tables e below (s₁.setTop (entryFrame m #[.ref b, .int (Int32.ofNat o), .int (Int32.ofNat len)] 6)) (s₁.setTop (mkF m 1 #[.val (.ref b), .val (.int (Int32.ofNat o)), .val (.int (Int32.ofNat len)), .unset, .unset, .unset] [.int (Int32.ofNat len)])) := c1.trans (by
    refine XS.iloadN X0.here hexec rfl (hb hbytes d0) rfl ?_
    exact Steps.refl _)
  obtain ⟨T3, B3, X3, ba3, bs3, bv3, bh3, bf3, st3⟩ := X0.anew hexec (atype := .byte) (wk W (.arrayClass .byte)) rfl (by show len * 1 ≤ _; omega) (by omega) (g := (mkF m 1 #[.val (.ref b), .val (.int (Int32.ofNat o)), .val (.int (Int32.ofNat len)), .unset, .unset, .unset] [.int (Int32.ofNat len)])) rfl (hb hbytes d1) (rest := []) rfl (Nat.le_refl _) (by show 0 + len ≤ len; omega)
  rw [hh0] at ba3 st3
  have kp3 : XT.Kept s T3 := (XT.Kept.of_eq hh0).push bh3
  have hA3 := hA.keep X3.warmed.alike (kp3 _ _ hA.1.1)
  have hne : b ≠ s.heap.size := hA.1.ne
  have c4 : Steps p.tables e below (s₁.setTop (entryFrame m #[.ref b, .int (Int32.ofNat o), .int (Int32.ofNat len)] 6)) (T3.setTop (mkF m 3 #[.val (.ref b), .val (.int (Int32.ofNat o)), .val (.int (Int32.ofNat len)), .unset, .unset, .unset] [.ref s.heap.size])) := c2.trans (st3 _ (Steps.refl _))
  have c5 : Steps p.tables e below (s₁.setTop (entryFrame m #[.ref b, .int (Int32.ofNat o), .int (Int32.ofNat len)] 6)) (T3.setTop (mkF m 9 #[.val (.ref b), .val (.int (Int32.ofNat o)), .val (.int (Int32.ofNat len)), .val (.ref s.heap.size), .unset, .unset] [.int (Int32.ofNat len), .int 0, .ref s.heap.size, .int (Int32.ofNat o), .ref b])) := c4.trans (by
    refine XS.astoreN X3.here hexec rfl (hb hbytes d3) rfl rfl rfl ?_
    refine XS.aloadN X3.here hexec rfl (hb hbytes d4) rfl rfl ?_
    refine XS.iloadN X3.here hexec rfl (hb hbytes d5) rfl ?_
    refine XS.aloadN X3.here hexec rfl (hb hbytes d6) rfl rfl ?_
    refine iconstV X3.here hexec rfl 0 (hb hbytes d7) (by decide) ?_
    refine XS.iloadN X3.here hexec rfl (hb hbytes d8) rfl ?_
    exact Steps.refl _)
  obtain ⟨v6, T6, X6, E6, g6⟩ := X3.callS hexec (Cmp5.law l b A s.heap.size B3 o 0 len) hown (wks W (staticW U16 115 Cmp5.yN)) (wk W Cmp5.tab) (W := 0) (Nat.le_of_ble_eq_true rfl) (Nat.le_of_ble_eq_true rfl) (Nat.le_refl _) (by show 0 + len + 0 ≤ len; omega) (g := (mkF m 9 #[.val (.ref b), .val (.int (Int32.ofNat o)), .val (.int (Int32.ofNat len)), .val (.ref s.heap.size), .unset, .unset] [.int (Int32.ofNat len), .int (Int32.ofNat 0), .ref s.heap.size, .int (Int32.ofNat o), .ref b])) rfl (by rw [hml]; rfl) c5 (argsL := [.ref b, .int (Int32.ofNat o), .ref s.heap.size, .int (Int32.ofNat 0), .int (Int32.ofNat len)]) (rest := []) rfl rfl (by show 2 * 0 + 0 ≤ _; decide) (hb hbytes d9) (⟨rfl, hA3, ba3, hne, l1, by rw [bs3]; simp, hp⟩)
  obtain ⟨rfl, B6, p6, f6⟩ := E6
  have c7 : Steps p.tables e below (s₁.setTop (entryFrame m #[.ref b, .int (Int32.ofNat o), .int (Int32.ofNat len)] 6)) (T6.setTop (mkF m 12 #[.val (.ref b), .val (.int (Int32.ofNat o)), .val (.int (Int32.ofNat len)), .val (.ref s.heap.size), .unset, .unset] [.int (Int32.ofNat len)])) := g6
  have c8 : Steps p.tables e below (s₁.setTop (entryFrame m #[.ref b, .int (Int32.ofNat o), .int (Int32.ofNat len)] 6)) (T6.setTop (mkF m 58 #[.val (.ref b), .val (.int (Int32.ofNat o)), .val (.int (Int32.ofNat len)), .val (.ref s.heap.size), .val (.int (Int32.ofNat len)), .unset] [.ref s.heap.size])) := c7.trans (by
    refine XS.istore X6.here hexec rfl (hb hbytes d12) rfl rfl ?_
    refine XS.iload X6.here hexec rfl (hb hbytes d14) rfl ?_
    refine XS.iloadN X6.here hexec rfl (hb hbytes d16) rfl ?_
    refine XS.icmpYes X6.here hexec rfl (pc0 := 17) rfl (hb hbytes d17) rfl (ii_eq_t rfl) (by decide) rfl ?_
    refine XS.aloadN X6.here hexec rfl (hb hbytes d57) rfl rfl ?_
    exact Steps.refl _)
  have X8 := X6.wide (L' := []) (cells' := 1) (slots' := len) (fun x hx hlt => by
    simp only [List.nil_append, copyLocs, List.mem_map, List.mem_range] at hx
    obtain ⟨i, -, rfl⟩ := hx
    exact absurd hlt (Nat.lt_irrefl _)) (Nat.le_refl _) (by omega)
  exact ⟨T6, some (.ref s.heap.size), _, _, _, X8, rfl, rfl, rfl, (fun h => by cases h), ⟨⟨rfl, B6, ba3.like (X3.warmed.alike.symm.trans X6.warmed.alike) p6.1 f6.1 f6.2.1 f6.2.2.1, f6.2.1.trans bv3, by rw [X6.warmed.alike.findClass, f6.1]; exact bf3, by rw [f6.2.2.1, bs3]; simp, fun j hj => by rw [f6.2.2.2 j, if_pos (by omega)]; rfl, kp3.put p6 (Nat.le_refl _)⟩, by rw [p6.2.2, bh3, hh0]; simp⟩, fun fs hl => c8.trans (X8.areturnOut hexec rfl hret rfl (hb hbytes d58) hl)⟩
end Cmp3
namespace CodL
def yN : MethodName := ⟨"java/lang/StringUTF16", "coderFromArrayLen", "([BI)B"⟩
abbrev yB : ByteArray := jdk_52_method_15_code
theorem d0 : decode yB 0 = .ok (.iload_n 1, 1) := by decide +kernel
theorem d1 : decode yB 1 = .ok (.aload_n 0, 1) := by decide +kernel
theorem d2 : decode yB 2 = .ok (.arraylength, 1) := by decide +kernel
theorem d3 : decode yB 3 = .ok (.isub, 1) := by decide +kernel
theorem d4 : decode yB 4 = .ok (.bipush 31, 2) := by decide +kernel
theorem d6 : decode yB 6 = .ok (.iushr, 1) := by decide +kernel
theorem d7 : decode yB 7 = .ok (.i2b, 1) := by decide +kernel
theorem d8 : decode yB 8 = .ok (.ireturn, 1) := by decide +kernel
def site : List Cond := []
def tab : Cond := tabOf yN yB 2 (some .byte) site
def P (d : Addr) (B : Cell) (args : Array Value) (s : State) : Prop := args = #[.ref d, .int (Int32.ofNat B.slots.size)] ∧ Arr .byte d B s
def E (r : Option Value) (s u : State) : Prop := XT.PureE (some (.int 0)) r s u
/-- an array as long as the number of chars: LATIN1 -/
theorem law (l : Launch) (d : Addr) (B : Cell) : Law l yN 2 2 0 0 yB 2 (some .byte) site (P d B) E [] 0 0 := by
  refine Law.of_walk (plainFor_of_name (by decide +kernel)) (by decide +kernel) (by decide +kernel) (by decide) (fun _ _ h => by rw [h.1]; rfl) (fun _ U U' hal hh h => ⟨h.1, h.2.mv hal hh⟩) (fun r U U' V V' h1 hal h2 h => XT.PureE.mv r U U' V V' h1 hal h2 h) ?_
  intro p e s m args below meth c s₁ X0 hexec hbytes hml hret hlk hnm hown hh0 W hP
  obtain ⟨rfl, hB⟩ := hP
  have hB0 := hB.mv X0.warmed.alike hh0
  have c1 : Steps p.tables e below (s₁.setTop (entryFrame m #[.ref d, .int (Int32.ofNat B.slots.size)] 2)) (s₁.setTop (mkF m 0 #[.val (.ref d), .val (.int (Int32.ofNat B.slots.size))] [])) := entry rfl
  have c2 : Steps p.tables e below (s₁.setTop (entryFrame m #[.ref d, .int (Int32.ofNat B.slots.size)] 2)) (s₁.setTop (mkF m 2 #[.val (.ref d), .val (.int (Int32.ofNat B.slots.size))] [.ref d, .int (Int32.ofNat B.slots.size)])) := c1.trans (by
    refine XS.iloadN X0.here hexec rfl (hb hbytes d0) rfl ?_
    refine XS.aloadN X0.here hexec rfl (hb hbytes d1) rfl rfl ?_
    exact Steps.refl _)
  have c3 : Steps p.tables e below (s₁.setTop (entryFrame m #[.ref d, .int (Int32.ofNat B.slots.size)] 2)) (s₁.setTop (mkF m 8 #[.val (.ref d), .val (.int (Int32.ofNat B.slots.size))] [.int (lo8 (ushr (Int32.ofNat B.slots.size - Int32.ofNat B.slots.size) 31))])) := c2.trans (by
    refine X0.alen hexec hB0 rfl rfl (hb hbytes d2) ?_
    refine XS.isub X0.here hexec rfl (hb hbytes d3) rfl ?_
    refine bipushV X0.here hexec rfl 31 (hb hbytes d4) (by decide) ?_
    refine iushr X0.here hexec rfl (hb hbytes d6) rfl ?_
    refine i2b X0.here hexec rfl (hb hbytes d7) rfl ?_
    exact Steps.refl _)
  have e0 : lo8 (ushr (Int32.ofNat B.slots.size - Int32.ofNat B.slots.size) 31) = 0 := by rw [Int32.sub_self]; decide
  rw [e0] at c3
  exact ⟨s₁, some (.int 0), _, _, _, X0, rfl, rfl, rfl, (fun h => by cases h), ⟨rfl, hh0⟩, fun fs hl => c3.trans (X0.ireturnOut hexec hret rfl (Or.inr (Or.inr (Or.inl rfl))) (hb hbytes d8) hl)⟩
end CodL
/-- the String at a is Latin-1 over a new byte[] (the heap's one new cell): the low bytes of the len chars of A from o on; every cell but a is kept -/
def Got (a : Addr) (D : Cell) (fV fC : Field) (A : Cell) (o len : Nat) (r : Option Value) (s u : State) : Prop := r = none ∧ ∃ D' V : Cell, Blank "java/lang/String" a D' u ∧ Same D D' [fV.slot, fC.slot] ∧ D'.slots[fV.slot]? = some (.ref s.heap.size) ∧ D'.slots[fC.slot]? = some (.int 0) ∧ Arr .byte s.heap.size V u ∧ V.vm = .none ∧ u.vm.findClass "[B" = some V.cls ∧ V.slots.size = len ∧ (∀ j, j < len → V.slots[j]? = some (.int (lo8 (cv A (o + j))))) ∧ (∀ (y : Addr) (c : Cell), y ≠ a → s.heap[y]? = some c → u.heap[y]? = some c) ∧ u.heap.size = s.heap.size + 1
theorem Got.mv {a : Addr} {D A : Cell} {fV fC : Field} {o len : Nat} : ∀ r (U U' V V' : State), U'.heap = U.heap → V.vm.Alike V'.vm → V'.heap = V.heap → Got a D fV fC A o len r U V → Got a D fV fC A o len r U' V' :=
  fun r U U' V V' h1 hal h2 ⟨e0, D', X, a1, a2, a3, a4, a5, a6, a7, a8, a9, a10, a11⟩ => ⟨e0, D', X, a1.mv hal h2, a2, by rw [h1]; exact a3, a4, by rw [h1]; exact a5.mv hal h2, a6, by rw [hal.findClass]; exact a7, a8, a9, by rw [h1, h2]; exact a10, by rw [h1, h2]; exact a11⟩
namespace New4
def yN : MethodName := ⟨"java/lang/String", "<init>", "([CIILjava/lang/Void;)V"⟩
abbrev yB : ByteArray := jdk_42_method_149_code
theorem d0 : decode yB 0 = .ok (.aload_n 0, 1) := by decide +kernel
theorem d1 : decode yB 1 = .ok (.invokespecial 1, 3) := by decide +kernel
theorem d4 : decode yB 4 = .ok (.iload_n 3, 1) := by decide +kernel
theorem d5 : decode yB 5 = .ok (.ifCond (.ne) 22, 3) := by decide +kernel
theorem d27 : decode yB 27 = .ok (.getstatic 38, 3) := by decide +kernel
theorem d30 : decode yB 30 = .ok (.ifCond (.eq) 28, 3) := by decide +kernel
theorem d33 : decode yB 33 = .ok (.aload_n 1, 1) := by decide +kernel
theorem d34 : decode yB 34 = .ok (.iload_n 2, 1) := by decide +kernel
theorem d35 : decode yB 35 = .ok (.iload_n 3, 1) := by decide +kernel
theorem d36 : decode yB 36 = .ok (.invokestatic 177, 3) := by decide +kernel
theorem d39 : decode yB 39 = .ok (.astore 5, 2) := by decide +kernel
theorem d41 : decode yB 41 = .ok (.aload_n 0, 1) := by decide +kernel
theorem d42 : decode yB 42 = .ok (.aload 5, 2) := by decide +kernel
theorem d44 : decode yB 44 = .ok (.iload_n 3, 1) := by decide +kernel
theorem d45 : decode yB 45 = .ok (.invokestatic 47, 3) := by decide +kernel
theorem d48 : decode yB 48 = .ok (.putfield 15, 3) := by decide +kernel
theorem d51 : decode yB 51 = .ok (.aload_n 0, 1) := by decide +kernel
theorem d52 : decode yB 52 = .ok (.aload 5, 2) := by decide +kernel
theorem d54 : decode yB 54 = .ok (.putfield 9, 3) := by decide +kernel
theorem d57 : decode yB 57 = .ok (.return_, 1) := by decide +kernel
def site : List Cond := [.fieldLink "java/lang/String" 38 "java/lang/String" "COMPACT_STRINGS" "Z", Cmp3.tab, CodL.tab, .laysFinal "java/lang/String" "java/lang/String" "value" "[B", .fieldLink "java/lang/String" 9 "java/lang/String" "value" "[B", .laysFinal "java/lang/String" "java/lang/String" "coder" "B", .fieldLink "java/lang/String" 15 "java/lang/String" "coder" "B"] ++ objW "java/lang/String" 1 ++ staticW "java/lang/String" 177 Cmp3.yN ++ staticW "java/lang/String" 47 CodL.yN
def tab : Cond := tabOf yN yB 6 none site
def P (a : Addr) (D : Cell) (fV fC : Field) (b : Addr) (A : Cell) (z : Int32) (o len : Nat) (args : Array Value) (s : State) : Prop := args = #[.ref a, .ref b, .int (Int32.ofNat o), .int (Int32.ofNat len), .null] ∧ Blank "java/lang/String" a D s ∧ Found "java/lang/String" "value" "[B" fV s ∧ Found "java/lang/String" "coder" "B" fC s ∧ Ch b A s ∧ StaticIs s "java/lang/String" "COMPACT_STRINGS" "Z" (.int z) ∧ ¬ z = 0 ∧ 0 < len ∧ o + len ≤ A.slots.size ∧ len ≤ 536870912 ∧ ∀ i, i < len → ¬ 255 < cv A (o + i)
def E (a : Addr) (D : Cell) (fV fC : Field) (A : Cell) (o len : Nat) (r : Option Value) (s u : State) : Prop := Got a D fV fC A o len r s u
/-- len > 0, no char of the range above 255: a Latin-1 String of their low bytes -/
theorem law (l : Launch) (a : Addr) (D : Cell) (fV fC : Field) (b : Addr) (A : Cell) (z : Int32) (o len : Nat) : Law l yN 5 4 2 35 yB 6 none site (P a D fV fC b A z o len) (E a D fV fC A o len) [⟨a, fC.slot⟩, ⟨a, fV.slot⟩] 1 len := by
  refine Law.of_walk (plainFor_of_name (by decide +kernel)) (by decide +kernel) (by decide +kernel) (by decide) (fun _ _ h => by rw [h.1]; rfl) (fun _ U U' hal hh h => ⟨h.1, h.2.1.mv hal hh, h.2.2.1.al hal, h.2.2.2.1.al hal, h.2.2.2.2.1.mv hal hh, h.2.2.2.2.2.1.there hal hh, h.2.2.2.2.2.2⟩) (fun r U U' V V' h1 hal h2 h => Got.mv r U U' V V' h1 hal h2 h) ?_
  intro p e s m args below meth c s₁ X0 hexec hbytes hml hret hlk hnm hown hh0 W hP
  obtain ⟨rfl, hB, f1, f2, hA, s1, hz, l0, l1, l2, hp⟩ := hP
  have a31 := hA.1.2.2.2
  have c1 : Steps p.tables e below (s₁.setTop (entryFrame m #[.ref a, .ref b, .int (Int32.ofNat o), .int (Int32.ofNat len), .null] 6)) (s₁.setTop (mkF m 0 #[.val (.ref a), .val (.ref b), .val (.int (Int32.ofNat o)), .val (.int (Int32.ofNat len)), .val .null, .unset] [])) := entry rfl
  have c2 : Steps p.tables e below (s₁.setTop (entryFrame m #[.ref a, .ref b, .int (Int32.ofNat o), .int (Int32.ofNat len), .null] 6)) (s₁.setTop (mkF m 1 #[.val (.ref a), .val (.ref b), .val (.int (Int32.ofNat o)), .val (.int (Int32.ofNat len)), .val .null, .unset] [.ref a])) := c1.trans (by
    refine XS.aloadN X0.here hexec rfl (hb hbytes d0) rfl rfl ?_
    exact Steps.refl _)
  obtain ⟨T3, X3, q3, st3⟩ := X0.oinit hexec hown (wks W (objW "java/lang/String" 1)) (g := (mkF m 1 #[.val (.ref a), .val (.ref b), .val (.int (Int32.ofNat o)), .val (.int (Int32.ofNat len)), .val .null, .unset] [.ref a])) rfl (by rw [hml]; rfl) (rest := []) rfl (hb hbytes d1) (W := 0) (by show 2 * 0 + 0 ≤ _; decide) (Nat.le_of_ble_eq_true rfl) (Nat.le_of_ble_eq_true rfl)
  have hh3 := q3.trans hh0
  have c4 : Steps p.tables e below (s₁.setTop (entryFrame m #[.ref a, .ref b, .int (Int32.ofNat o), .int (Int32.ofNat len), .null] 6)) (T3.setTop (mkF m 27 #[.val (.ref a), .val (.ref b), .val (.int (Int32.ofNat o)), .val (.int (Int32.ofNat len)), .val .null, .unset] [])) := (c2.trans (st3 _ (Steps.refl _))).trans (by
    refine XS.iloadN X3.here hexec rfl (hb hbytes d4) rfl ?_
    refine XS.ifYes X3.here hexec rfl (pc0 := 5) rfl (hb hbytes d5) rfl (i0_ne_t (nz32 (by omega) l0)) (by decide) rfl ?_
    exact Steps.refl _)
  obtain ⟨T5, X5, q5, st5⟩ := X3.sget hexec hown (wk W (.fieldLink "java/lang/String" 38 "java/lang/String" "COMPACT_STRINGS" "Z")) s1 (fun _ _ h => by rw [hh3]; exact h) (g := (mkF m 27 #[.val (.ref a), .val (.ref b), .val (.int (Int32.ofNat o)), .val (.int (Int32.ofNat len)), .val .null, .unset] [])) rfl (hb hbytes d27)
  have hh5 := q5.trans hh3
  have c6 : Steps p.tables e below (s₁.setTop (entryFrame m #[.ref a, .ref b, .int (Int32.ofNat o), .int (Int32.ofNat len), .null] 6)) (T5.setTop (mkF m 30 #[.val (.ref a), .val (.ref b), .val (.int (Int32.ofNat o)), .val (.int (Int32.ofNat len)), .val .null, .unset] [.int z])) := c4.trans (st5 _ (Steps.refl _))
  have c7 : Steps p.tables e below (s₁.setTop (entryFrame m #[.ref a, .ref b, .int (Int32.ofNat o), .int (Int32.ofNat len), .null] 6)) (T5.setTop (mkF m 36 #[.val (.ref a), .val (.ref b), .val (.int (Int32.ofNat o)), .val (.int (Int32.ofNat len)), .val .null, .unset] [.int (Int32.ofNat len), .int (Int32.ofNat o), .ref b])) := c6.trans (by
    refine XS.ifNo X5.here hexec rfl (hb hbytes d30) rfl (i0_eq_f hz) ?_
    refine XS.aloadN X5.here hexec rfl (hb hbytes d33) rfl rfl ?_
    refine XS.iloadN X5.here hexec rfl (hb hbytes d34) rfl ?_
    refine XS.iloadN X5.here hexec rfl (hb hbytes d35) rfl ?_
    exact Steps.refl _)
  obtain ⟨v8, T8, X8, E8, g8⟩ := X5.callS hexec (Cmp3.law l b A o len) hown (wks W (staticW "java/lang/String" 177 Cmp3.yN)) (wk W Cmp3.tab) (W := 0) (Nat.le_of_ble_eq_true rfl) (Nat.le_of_ble_eq_true rfl) (Nat.le_refl _) (by show 0 + len ≤ len; omega) (g := (mkF m 36 #[.val (.ref a), .val (.ref b), .val (.int (Int32.ofNat o)), .val (.int (Int32.ofNat len)), .val .null, .unset] [.int (Int32.ofNat len), .int (Int32.ofNat o), .ref b])) rfl (by rw [hml]; rfl) c7 (argsL := [.ref b, .int (Int32.ofNat o), .int (Int32.ofNat len)]) (rest := []) rfl rfl (by show 2 * 0 + 0 ≤ _; decide) (hb hbytes d36) (⟨rfl, hA.mv X5.warmed.alike hh5, l1, l2, hp⟩)
  obtain ⟨e8, z8⟩ := E8
  obtain ⟨rfl, N, n1, n2, n3, n4, n5, n6⟩ := NewArr.mv _ T5 s _ _ hh5.symm (Vm.Alike.refl _) rfl e8
  rw [hh5] at z8
  have hB1 := hB.keep X8.warmed.alike (n6 _ _ hB.1)
  have hne : s.heap.size ≠ a := (Nat.ne_of_lt (Array.getElem?_eq_some_iff.mp hB.1).1).symm
  have c9 : Steps p.tables e below (s₁.setTop (entryFrame m #[.ref a, .ref b, .int (Int32.ofNat o), .int (Int32.ofNat len), .null] 6)) (T8.setTop (mkF m 39 #[.val (.ref a), .val (.ref b), .val (.int (Int32.ofNat o)), .val (.int (Int32.ofNat len)), .val .null, .unset] [.ref s.heap.size])) := g8
  have c10 : Steps p.tables e below (s₁.setTop (entryFrame m #[.ref a, .ref b, .int (Int32.ofNat o), .int (Int32.ofNat len), .null] 6)) (T8.setTop (mkF m 45 #[.val (.ref a), .val (.ref b), .val (.int (Int32.ofNat o)), .val (.int (Int32.ofNat len)), .val .null, .val (.ref s.heap.size)] [.int (Int32.ofNat N.slots.size), .ref s.heap.size, .ref a])) := by
    have hc : Steps p.tables e below (s₁.setTop (entryFrame m #[.ref a, .ref b, .int (Int32.ofNat o), .int (Int32.ofNat len), .null] 6)) (T8.setTop (mkF m 45 #[.val (.ref a), .val (.ref b), .val (.int (Int32.ofNat o)), .val (.int (Int32.ofNat len)), .val .null, .val (.ref s.heap.size)] [.int (Int32.ofNat len), .ref s.heap.size, .ref a])) := c9.trans (by
      refine XS.astore X8.here hexec rfl (hb hbytes d39) rfl rfl rfl ?_
      refine XS.aloadN X8.here hexec rfl (hb hbytes d41) rfl rfl ?_
      refine XS.aload X8.here hexec rfl (hb hbytes d42) rfl rfl ?_
      refine XS.iloadN X8.here hexec rfl (hb hbytes d44) rfl ?_
      exact Steps.refl _)
    rw [n4]; exact hc
  obtain ⟨v11, T11, X11, E11, g11⟩ := X8.callS hexec (CodL.law l s.heap.size N) hown (wks W (staticW "java/lang/String" 47 CodL.yN)) (wk W CodL.tab) (W := 1) (Nat.le_of_ble_eq_true rfl) (Nat.le_of_ble_eq_true rfl) (Nat.le_refl _) (by show 0 + len + 0 ≤ len; omega) (g := (mkF m 45 #[.val (.ref a), .val (.ref b), .val (.int (Int32.ofNat o)), .val (.int (Int32.ofNat len)), .val .null, .val (.ref s.heap.size)] [.int (Int32.ofNat N.slots.size), .ref s.heap.size, .ref a])) rfl (by rw [hml]; rfl) c10 (argsL := [.ref s.heap.size, .int (Int32.ofNat N.slots.size)]) (rest := [.ref a]) rfl rfl (by show 2 * 0 + (1 + 0) ≤ _; decide) (hb hbytes d45) (⟨rfl, n1⟩)
  obtain ⟨rfl, q11⟩ := E11
  have hB11 := hB1.mv (X8.warmed.alike.symm.trans X11.warmed.alike) q11
  have c12 : Steps p.tables e below (s₁.setTop (entryFrame m #[.ref a, .ref b, .int (Int32.ofNat o), .int (Int32.ofNat len), .null] 6)) (T11.setTop (mkF m 48 #[.val (.ref a), .val (.ref b), .val (.int (Int32.ofNat o)), .val (.int (Int32.ofNat len)), .val .null, .val (.ref s.heap.size)] [.int 0, .ref a])) := g11
  obtain ⟨T13, X13, p13, bl13, sl13, st13⟩ := X11.finit hexec hown (wk W (.fieldLink "java/lang/String" 15 "java/lang/String" "coder" "B")) (Or.inr ⟨_, (wk W (.laysFinal "java/lang/String" "java/lang/String" "coder" "B"))⟩) (Or.inl ⟨rfl, hnm⟩) f2 (Or.inl rfl) hB11 (t := .byte) (by decide +kernel) rfl (g := (mkF m 48 #[.val (.ref a), .val (.ref b), .val (.int (Int32.ofNat o)), .val (.int (Int32.ofNat len)), .val .null, .val (.ref s.heap.size)] [.int 0, .ref a])) rfl (rest := []) rfl (hb hbytes d48)
  have c14 : Steps p.tables e below (s₁.setTop (entryFrame m #[.ref a, .ref b, .int (Int32.ofNat o), .int (Int32.ofNat len), .null] 6)) (T13.setTop (mkF m 54 #[.val (.ref a), .val (.ref b), .val (.int (Int32.ofNat o)), .val (.int (Int32.ofNat len)), .val .null, .val (.ref s.heap.size)] [.ref s.heap.size, .ref a])) := (c12.trans (st13 _ (Steps.refl _))).trans (by
    refine XS.aloadN X13.here hexec rfl (hb hbytes d51) rfl rfl ?_
    refine XS.aload X13.here hexec rfl (hb hbytes d52) rfl rfl ?_
    exact Steps.refl _)
  obtain ⟨T15, X15, p15, bl15, sl15, st15⟩ := X13.finit hexec hown (wk W (.fieldLink "java/lang/String" 9 "java/lang/String" "value" "[B")) (Or.inr ⟨_, (wk W (.laysFinal "java/lang/String" "java/lang/String" "value" "[B"))⟩) (Or.inl ⟨rfl, hnm⟩) f1 (Or.inl rfl) bl13 (t := (.array .byte)) (by decide +kernel) rfl (g := (mkF m 54 #[.val (.ref a), .val (.ref b), .val (.int (Int32.ofNat o)), .val (.int (Int32.ofNat len)), .val .null, .val (.ref s.heap.size)] [.ref s.heap.size, .ref a])) rfl (rest := []) rfl (hb hbytes d54)
  have c16 : Steps p.tables e below (s₁.setTop (entryFrame m #[.ref a, .ref b, .int (Int32.ofNat o), .int (Int32.ofNat len), .null] 6)) (T15.setTop (mkF m 57 #[.val (.ref a), .val (.ref b), .val (.int (Int32.ofNat o)), .val (.int (Int32.ofNat len)), .val .null, .val (.ref s.heap.size)] [])) := c14.trans (st15 _ (Steps.refl _))
  have ap := apart (Or.inr ⟨_, (wk W (.laysFinal "java/lang/String" "java/lang/String" "value" "[B"))⟩) (Or.inr ⟨_, (wk W (.laysFinal "java/lang/String" "java/lang/String" "coder" "B"))⟩) f1 f2 (t₁ := .array .byte) (t₂ := .byte) (by decide +kernel) (by decide +kernel) (by decide)
  have al := X8.warmed.alike.symm.trans X15.warmed.alike
  have n7 : T11.heap[s.heap.size]? = some N := by rw [q11]; exact n1.1
  exact ⟨T15, none, _, _, _, X15, by simp, rfl, by omega, (fun _ => rfl), ⟨rfl, _, N, bl15, ((Same.refl D _).set _ (by simp)).set _ (by simp), sl15, (Cell.slots_setSlot_ne _ ap).trans sl13, n1.keep al (p15.other hne (p13.other hne n7)), n2, by rw [al.findClass]; exact n3, n4, n5, fun y c h1 h2 => p15.other h1 (p13.other h1 (by rw [q11]; exact n6 y c h2)), by rw [p15.2.2, p13.2.2, q11]; exact z8⟩, fun fs hl => c16.trans (X15.returnOut hexec hret (hb hbytes d57) hl)⟩
end New4
namespace New1
def yN : MethodName := ⟨"java/lang/String", "<init>", "([C)V"⟩
abbrev yB : ByteArray := jdk_42_method_3_code
theorem d0 : decode yB 0 = .ok (.aload_n 0, 1) := by decide +kernel
theorem d1 : decode yB 1 = .ok (.aload_n 1, 1) := by decide +kernel
theorem d2 : decode yB 2 = .ok (.iconst 0, 1) := by decide +kernel
theorem d3 : decode yB 3 = .ok (.aload_n 1, 1) := by decide +kernel
theorem d4 : decode yB 4 = .ok (.arraylength, 1) := by decide +kernel
theorem d5 : decode yB 5 = .ok (.aconst_null, 1) := by decide +kernel
theorem d6 : decode yB 6 = .ok (.invokespecial 27, 3) := by decide +kernel
theorem d9 : decode yB 9 = .ok (.return_, 1) := by decide +kernel
def site : List Cond := [New4.tab] ++ initW "java/lang/String" 27 New4.yN
def tab : Cond := tabOf yN yB 2 none site
def P (a : Addr) (D : Cell) (fV fC : Field) (b : Addr) (A : Cell) (z : Int32) (args : Array Value) (s : State) : Prop := args = #[.ref a, .ref b] ∧ Blank "java/lang/String" a D s ∧ Found "java/lang/String" "value" "[B" fV s ∧ Found "java/lang/String" "coder" "B" fC s ∧ Ch b A s ∧ StaticIs s "java/lang/String" "COMPACT_STRINGS" "Z" (.int z) ∧ ¬ z = 0 ∧ 0 < A.slots.size ∧ A.slots.size ≤ 536870912 ∧ ∀ i, i < A.slots.size → ¬ 255 < cv A i
def E (a : Addr) (D : Cell) (fV fC : Field) (A : Cell) (r : Option Value) (s u : State) : Prop := Got a D fV fC A 0 A.slots.size r s u
/-- new String(chars), not empty, no char above 255: a Latin-1 String of their low bytes -/
theorem law (l : Launch) (a : Addr) (D : Cell) (fV fC : Field) (b : Addr) (A : Cell) (z : Int32) : Law l yN 2 1 3 52 yB 2 none site (P a D fV fC b A z) (E a D fV fC A) [⟨a, fC.slot⟩, ⟨a, fV.slot⟩] 1 A.slots.size := by
  refine Law.of_walk (plainFor_of_name (by decide +kernel)) (by decide +kernel) (by decide +kernel) (by decide) (fun _ _ h => by rw [h.1]; rfl) (fun _ U U' hal hh h => ⟨h.1, h.2.1.mv hal hh, h.2.2.1.al hal, h.2.2.2.1.al hal, h.2.2.2.2.1.mv hal hh, h.2.2.2.2.2.1.there hal hh, h.2.2.2.2.2.2⟩) (fun r U U' V V' h1 hal h2 h => Got.mv r U U' V V' h1 hal h2 h) ?_
  intro p e s m args below meth c s₁ X0 hexec hbytes hml hret hlk hnm hown hh0 W hP
  obtain ⟨rfl, hB, f1, f2, hA, s1, hz, l0, l2, hp⟩ := hP
  have c1 : Steps p.tables e below (s₁.setTop (entryFrame m #[.ref a, .ref b] 2)) (s₁.setTop (mkF m 0 #[.val (.ref a), .val (.ref b)] [])) := entry rfl
  have c2 : Steps p.tables e below (s₁.setTop (entryFrame m #[.ref a, .ref b] 2)) (s₁.setTop (mkF m 6 #[.val (.ref a), .val (.ref b)] [.null, .int (Int32.ofNat A.slots.size), .int 0, .ref b, .ref a])) := c1.trans (by
    refine XS.aloadN X0.here hexec rfl (hb hbytes d0) rfl rfl ?_
    refine XS.aloadN X0.here hexec rfl (hb hbytes d1) rfl rfl ?_
    refine iconstV X0.here hexec rfl 0 (hb hbytes d2) (by decide) ?_
    refine XS.aloadN X0.here hexec rfl (hb hbytes d3) rfl rfl ?_
    refine X0.alen hexec (hA.1.mv X0.warmed.alike hh0) rfl rfl (hb hbytes d4) ?_
    refine XS.aconstNull X0.here hexec rfl (hb hbytes d5) ?_
    exact Steps.refl _)
  obtain ⟨v3, T3, X3, E3, g3⟩ := X0.callN hexec (New4.law l a D fV fC b A z 0 A.slots.size) rfl hown (wks W (initW "java/lang/String" 27 New4.yN)) (W New4.tab (by simp only [site, List.mem_cons, List.mem_append, true_or, or_true])) (W := 0) (Nat.le_of_ble_eq_true rfl) (Nat.le_of_ble_eq_true rfl) (Nat.le_refl _) (by show 0 + A.slots.size ≤ A.slots.size; omega) (g := (mkF m 6 #[.val (.ref a), .val (.ref b)] [.null, .int (Int32.ofNat A.slots.size), .int (Int32.ofNat 0), .ref b, .ref a])) rfl (by rw [hml]; rfl) c2 (argsL := [.ref b, .int (Int32.ofNat 0), .int (Int32.ofNat A.slots.size), .null]) (rest := []) rfl rfl (by show 2 * 0 + 0 ≤ _; decide) (hb hbytes d6) (⟨rfl, hB.mv X0.warmed.alike hh0, f1.al X0.warmed.alike, f2.al X0.warmed.alike, hA.mv X0.warmed.alike hh0, s1.there X0.warmed.alike hh0, hz, l0, by omega, l2, fun i hi => by rw [Nat.zero_add]; exact hp i hi⟩)
  have e0 := Got.mv _ s₁ s _ _ hh0.symm (Vm.Alike.refl _) rfl E3
  obtain rfl := e0.1
  have c4 : Steps p.tables e below (s₁.setTop (entryFrame m #[.ref a, .ref b] 2)) (T3.setTop (mkF m 9 #[.val (.ref a), .val (.ref b)] [])) := g3
  exact ⟨T3, none, _, _, _, X3, by simp, rfl, by omega, (fun _ => rfl), e0, fun fs hl => c4.trans (X3.returnOut hexec hret (hb hbytes d9) hl)⟩
theorem pays {l : Launch} {R : Room} {p : Program} {e : Env} {below : List Frame} {s : State} {sargs : Array Value} {len W : Nat} (a : Addr) (D : Cell) (fV fC : Field) (b : Addr) (A : Cell) (z : Int32) (htab : tab.before sargs s = true) (hfr : 4 ≤ R.frames) (hlo : W + 65 ≤ R.locals) :
    Back l R p e below s sargs yN len W (fun A₁ a₁ => A₁.cells + 1 ≤ R.cells ∧ A₁.slots + A.slots.size ≤ R.slots ∧ P a D fV fC b A z a₁ A₁.U) (fun A₁ _ v₁ B₁ => E a D fV fC A v₁ A₁.U B₁.U ∧ B₁.locs = A₁.locs ++ [⟨a, fC.slot⟩, ⟨a, fV.slot⟩] ∧ B₁.cells = A₁.cells + 1 ∧ B₁.slots = A₁.slots + A.slots.size) :=
  (law l a D fV fC b A z).pays htab hfr (by omega)
end New1
end StrChars
namespace StrChars.Road
open Jvm Sem ClassFile Op Lib Jvm.Stand Jvm.Free Jvm.Free.XT
open Jvm.Lib.Cold (StaticIs)
abbrev ST : String := "java/lang/String"
/-- every table word that New1's law asks, flat -/
abbrev words : List Jvm.Cond := [.code New1.yN New1.yB 2 none, .initialized ST, .methodLink ST 27 New4.yN, .instanceMethod New4.yN,
  .code New4.yN New4.yB 6 none, .fieldLink ST 38 ST "COMPACT_STRINGS" "Z", .laysFinal ST ST "value" "[B", .fieldLink ST 9 ST "value" "[B", .laysFinal ST ST "coder" "B", .fieldLink ST 15 ST "coder" "B",
  .methodLink ST 1 Lib.objectInit, .instanceMethod Lib.objectInit, .code Lib.objectInit ⟨#[0xb1]⟩ 1 none, .methodLink ST 177 Cmp3.yN, .static Cmp3.yN, .methodLink ST 47 CodL.yN, .static CodL.yN,
  .code Cmp3.yN Cmp3.yB 6 (some (.array .byte)), .initialized U16, .arrayClass .byte, .methodLink U16 115 Cmp5.yN, .static Cmp5.yN, .code Cmp5.yN Cmp5.yB 7 (some .int), .code CodL.yN CodL.yB 2 (some .byte)]
theorem tab_of {a : Array Value} {s : State} (h : ∀ w ∈ words, w.before a s = true) : New1.tab.before a s = true := by
  have h5 : Cmp5.tab.before a s = true := unparts (wk h (.code Cmp5.yN Cmp5.yB 7 (some .int))) (wks h (.initialized Cmp5.yN.cls :: Cmp5.site))
  have hc : CodL.tab.before a s = true := unparts (wk h (.code CodL.yN CodL.yB 2 (some .byte))) (wks h (.initialized CodL.yN.cls :: CodL.site))
  have q5 : ∀ w ∈ Cmp5.tab :: words, w.before a s = true := fun w hw => (List.mem_cons.mp hw).elim (fun e => e ▸ h5) (h w)
  have h3 : Cmp3.tab.before a s = true := unparts (wk q5 (.code Cmp3.yN Cmp3.yB 6 (some (.array .byte)))) (wks q5 (.initialized Cmp3.yN.cls :: Cmp3.site))
  have q3 : ∀ w ∈ Cmp3.tab :: CodL.tab :: words, w.before a s = true := fun w hw => (List.mem_cons.mp hw).elim (fun e => e ▸ h3) fun hw => (List.mem_cons.mp hw).elim (fun e => e ▸ hc) (h w)
  have h4 : New4.tab.before a s = true := unparts (wk q3 (.code New4.yN New4.yB 6 none)) (wks q3 (.initialized New4.yN.cls :: New4.site))
  have q4 : ∀ w ∈ New4.tab :: words, w.before a s = true := fun w hw => (List.mem_cons.mp hw).elim (fun e => e ▸ h4) (h w)
  exact unparts (wk q4 (.code New1.yN New1.yB 2 none)) (wks q4 (.initialized New1.yN.cls :: New1.site))
/-- the words ride from the start Z to the walk's own state -/
theorem moved {Z s : State} {a0 args : Array Value} (hZ : Z.Warmed39 s.vm) (hw : ∀ d ∈ words, d.before a0 Z = true) : ∀ d ∈ words, d.before args s = true := fun d hd => by
  have q := hw d hd
  have t : ∀ d ∈ words, d = .arrayClass .byte ∨ (d.onTables && d.keepsFace) = true := by decide +kernel
  rcases t d hd with rfl | t
  · exact RoadKit.mvA hZ q
  · exact RoadKit.mv hZ q t
/-- WHAT COMES BACK, over the tables of the start Z: h the heap at the call, h' behind it -/
def Q (Z : State) (x : Addr) (A : Cell) (h : Heap) (v : Option Value) (h' : Heap) (L : List Loc) : Prop := v = none ∧ (∀ y ∈ L, y.base = x) ∧ RoadKit.Keep h h' [x] ∧ h'.size = h.size + 1 ∧ RoadKit.Exa Z h' x ST ∧ RoadKit.Fld Z h' x ST "value" "[B" (.ref h.size) ∧ RoadKit.Fld Z h' x ST "coder" "B" (.int 0) ∧
  (∃ V : Cell, RoadKit.Arr Z h' h.size V .byte ∧ V.vm = .none ∧ Z.vm.findClass "[B" = some V.cls ∧ V.slots.size = A.slots.size ∧ ∀ j, j < A.slots.size → V.slots[j]? = some (.int (lo8 (cv A j)))) ∧
  ∀ (O n d : String) (w : Value), RoadKit.Fld Z h x O n d w → RoadKit.slotOf Z O n d ≠ RoadKit.slotOf Z ST "value" "[B" → RoadKit.slotOf Z O n d ≠ RoadKit.slotOf Z ST "coder" "B" → RoadKit.Fld Z h' x O n d w
/-- **new String(chars) AT A CALL, IN THE ROAD'S FORM**: for specialBack behind newO: x the fresh String, b the char[] with the cell A -/
theorem back {p : Program} {l : Launch} {e : Env} {R : Room} {s : State} {args : Array Value} {below : List Frame} {len W : Nat} {Z : State} {a0 : Array Value} {h : Heap} (hZ : Z.Warmed39 s.vm) (hw : ∀ d ∈ words, d.before a0 Z = true) {kI : Nat} (wi : (Jvm.Cond.instantiable ST kI).before a0 Z = true)
    {x b : Addr} {A : Cell} {z : Int32} {v0 c0 : Value} (E : RoadKit.Exa Z h x ST) (V : RoadKit.Fld Z h x ST "value" "[B" v0) (C : RoadKit.Fld Z h x ST "coder" "B" c0) (K : RoadKit.Arr Z h b A .char) (hty : Typed .char A) (S : RoadKit.Sta Z h ST "COMPACT_STRINGS" "Z" (.int z)) (hz : ¬ z = 0)
    (l0 : 0 < A.slots.size) (l2 : A.slots.size ≤ 536870912) (hp : ∀ i, i < A.slots.size → ¬ 255 < cv A i) (hfr : 4 ≤ R.frames) (hlo : W + 65 ≤ R.locals) :
    Back l R p e below s args New1.yN len W (fun P a => a = #[.ref x, .ref b] ∧ P.U.heap = h ∧ P.cells + 1 ≤ R.cells ∧ P.slots + A.slots.size ≤ R.slots)
      (fun P _ v B => ∃ L, Q Z x A h v B.U.heap L ∧ B.locs = P.locs ++ L ∧ B.cells = P.cells + 1 ∧ B.slots = P.slots + A.slots.size) := by
  intro m meth c P g ig mk a X hg hsize hdg hW hn hp'
  obtain ⟨rfl, rfl, r1, r2⟩ := hp'
  have al : Z.vm.Alike P.U.vm := hZ.alike.trans X.warmed.alike
  obtain ⟨D, cfV, kV, iV, fV, hD, gV, stV, knV, obV, asV, slV⟩ := id V
  obtain ⟨D', cfC, kC, iC, fC, hD', gC, stC, -, -, asC, slC⟩ := id C
  cases hD.symm.trans hD'
  obtain ⟨D2, kD, e1, e2, e3, e4, e5⟩ := id E
  cases hD.symm.trans e1
  obtain ⟨c2, k2, i1, i2, i3, -⟩ := Cond.instantiable_spec wi
  cases e2.symm.trans i1
  cases e3.symm.trans i2
  obtain ⟨kU, u1, u2⟩ := al.2.2 _ _ e3
  have hB : Blank ST x D P.U := ⟨hD, ⟨knV, fun q hq => by rw [hq] at obV; cases obV⟩, by rw [al.findClass]; exact e2, kU, u1, by rw [u2]; exact i3, by rw [u2]; exact e5 i3⟩
  have F1 : Found ST "value" "[B" fV P.U := ⟨SBG.found_only al ⟨cfV, kV, iV, gV⟩, stV⟩
  have F2 : Found ST "coder" "B" fC P.U := ⟨SBG.found_only al ⟨cfC, kC, iC, gC⟩, stC⟩
  have hA : Ch b A P.U := ⟨⟨K.1, State.isArrayOf_alike al K.2.1, K.2.2, by omega⟩, hty⟩
  have hS : StaticIs P.U ST "COMPACT_STRINGS" "Z" (.int z) := by
    obtain ⟨cfS, iS, kS, fS, st, cS, t1, t2, t3, t4, t5, t6, t7⟩ := S
    exact StaticIs.there (s := { Z with heap := P.U.heap }) ⟨cfS, iS, kS, fS, st, cS, t1, t2, t3, t4, t5, (fun q => by rw [q] at t6; cases t6), t7⟩ al rfl
  obtain ⟨v, B, X', ⟨⟨hv, E', V', q1, q2, q3, q4, q5, q6, q7, q8, q9, q10, q11⟩, hl, hc, hs⟩, st⟩ := New1.pays x D fV fC b A z (tab_of (moved hZ hw)) hfr hlo m meth c P g ig mk _ X hg hsize hdg hW hn ⟨r1, r2, rfl, hB, F1, F2, hA, hS, hz, l0, l2, hp⟩
  have al' : Z.vm.Alike B.U.vm := hZ.alike.trans X'.warmed.alike
  have hsz : E'.slots.size = D.slots.size := by
    obtain ⟨-, -, -, kB, w1, w2, w3⟩ := q1
    obtain ⟨kB', y1, y2⟩ := al'.2.2 _ _ e3
    rw [q2.2.1] at w1
    cases w1.symm.trans y1
    rw [w3, e5 i3, y2]
  refine ⟨v, B, X', ⟨_, ⟨hv, ?_, ⟨by omega, fun y cy hy hn' => q10 y cy (by simpa using hn') hy, fun y cy hy => ?_⟩, q11, ⟨E', _, q1.1, by rw [q2.2.1]; exact e2, by rw [q2.2.1]; exact e3, by rw [q2.1]; exact obV, fun _ => by rw [hsz]; exact e5 i3⟩,
    ⟨E', cfV, kV, iV, fV, q1.1, gV, stV, by rw [q2.1]; exact knV, by rw [q2.1]; exact obV, by rw [q2.2.1]; exact asV, q3⟩, ⟨E', cfC, kC, iC, fC, q1.1, gC, stC, by rw [q2.1]; exact knV, by rw [q2.1]; exact obV, by rw [q2.2.1]; exact asC, q4⟩,
    ⟨V', ⟨q5.1, State.isArrayOf_alike al'.symm q5.2.1, q5.2.2.1⟩, q6, by rw [← al'.findClass]; exact q7, q8, fun j hj => by have := q9 j hj; rwa [Nat.zero_add] at this⟩, fun O n d w F n1 n2 => ?_⟩, hl, hc, hs⟩, st⟩
  · intro y hy
    simp only [List.mem_cons, List.not_mem_nil, or_false] at hy
    rcases hy with rfl | rfl <;> rfl
  · by_cases q : y = x
    · subst q
      cases hD.symm.trans hy
      exact ⟨E', q1.1, q2.2.1, q2.1, hsz⟩
    · exact ⟨cy, q10 y cy q hy, rfl, rfl, rfl⟩
  · obtain ⟨D3, cf, k, i, f, g1, g2, g3, g4, g5, g6, g7⟩ := F
    cases hD.symm.trans g1
    simp only [RoadKit.slotOf, g2, gV, gC, Option.map_some, Option.getD_some] at n1 n2
    exact ⟨E', cf, k, i, f, q1.1, g2, g3, by rw [q2.1]; exact g4, by rw [q2.1]; exact g5, by rw [q2.2.1]; exact g6, by rw [q2.2.2 f.slot (by simp [n1, n2])]; exact g7⟩
end StrChars.Road
namespace StrChars.Road
open Jvm Sem ClassFile Op Lib Jvm.Stand Jvm.Free Jvm.Free.XT
/-- WHAT COMES BACK, the byte[] as a list of values -/
def QA (Z : State) (x : Addr) (zn : Int32) (cs : List Int32) (h : Heap) (v : Option Value) (h' : Heap) (L : List Loc) : Prop := v = none ∧ (∀ y ∈ L, y.base = x) ∧ RoadKit.Keep h h' [x] ∧ h'.size = h.size + 1 ∧ RoadKit.Exa Z h' x ST ∧ RoadKit.Fld Z h' x ST "value" "[B" (.ref h.size) ∧ RoadKit.Fld Z h' x ST "coder" "B" (.int 0) ∧
  (∃ kb, Z.vm.findClass "[B" = some kb ∧ RoadKit.Arv Z h' h.size kb .byte zn (cs.map fun c => .int (lo8 c)) (.int 0)) ∧
  ∀ (O n d : String) (w : Value), RoadKit.Fld Z h x O n d w → RoadKit.slotOf Z O n d ≠ RoadKit.slotOf Z ST "value" "[B" → RoadKit.slotOf Z O n d ≠ RoadKit.slotOf Z ST "coder" "B" → RoadKit.Fld Z h' x O n d w
/-- **new String(chars) AT A CALL, THE ARRAYS AS LISTS**: the char[] at b holds cs, not empty, no char above 255 -/
theorem backArv {p : Program} {l : Launch} {e : Env} {R : Room} {s : State} {args : Array Value} {below : List Frame} {len W : Nat} {Z : State} {a0 : Array Value} {h : Heap} (hZ : Z.Warmed39 s.vm) (hw : ∀ d ∈ words, d.before a0 Z = true) {kI : Nat} (wi : (Jvm.Cond.instantiable ST kI).before a0 Z = true)
    {x b : Addr} {k : ClassId} {zn z : Int32} {cs : List Int32} {dv v0 c0 : Value} (E : RoadKit.Exa Z h x ST) (V : RoadKit.Fld Z h x ST "value" "[B" v0) (C : RoadKit.Fld Z h x ST "coder" "B" c0) (K : RoadKit.Arv Z h b k .char zn (cs.map Value.int) dv) (S : RoadKit.Sta Z h ST "COMPACT_STRINGS" "Z" (.int z)) (hz : ¬ z = 0)
    (hlen : zn.toNatClampNeg = cs.length) (h0 : 0 < cs.length) (hbig : cs.length ≤ 536870912) (hall : ∀ c ∈ cs, ¬ 255 < c) (hfr : 4 ≤ R.frames) (hlo : W + 65 ≤ R.locals) :
    Back l R p e below s args New1.yN len W (fun P a => a = #[.ref x, .ref b] ∧ P.U.heap = h ∧ P.cells + 1 ≤ R.cells ∧ P.slots + cs.length ≤ R.slots)
      (fun P _ v B => ∃ L, QA Z x zn cs h v B.U.heap L ∧ B.locs = P.locs ++ L ∧ B.cells = P.cells + 1 ∧ B.slots = P.slots + cs.length) := by
  obtain ⟨A, K1, K2, K3, K4, K5, K6⟩ := K
  have e : A.slots.size = cs.length := K3.trans hlen
  have hat : ∀ (i : Nat) (hi : i < cs.length), A.slots[i]? = some (.int cs[i]) := fun i hi => by rw [K5 i (by omega)]; simp [List.getD_eq_getElem?_getD, hi]
  have hcv : ∀ (i : Nat) (hi : i < cs.length), cv A i = cs[i] := fun i hi => by unfold cv; rw [hat i hi]
  have hty : Typed .char A := fun i v hv => by
    have hi : i < A.slots.size := (Array.getElem?_eq_some_iff.mp hv).1
    have q := K5 i hi
    rw [hv] at q
    rw [Option.some.inj q]
    exact K6 i hi
  refine Back.mono (back hZ hw wi E V C K1 hty S hz (by omega) (by omega) (fun i hi => by rw [hcv i (by omega)]; exact hall _ (List.getElem_mem _)) hfr hlo) (fun P a hp => ⟨hp.1, hp.2.1, hp.2.2.1, by rw [e]; exact hp.2.2.2⟩) (fun P a v B hp hq => ?_)
  obtain ⟨L, ⟨q1, q2, q3, q4, q5, q6, q7, ⟨V', v1, v2, v3, v4, v5⟩, q9⟩, hl, hc, hs⟩ := hq
  refine ⟨L, ⟨q1, q2, q3, q4, q5, q6, q7, ⟨V'.cls, v3, V', v1, rfl, by rw [v4, e, hlen], K4, fun i hi => ?_, fun i hi => ?_⟩, q9⟩, hl, hc, by rw [hs, e]⟩
  · have hi' : i < cs.length := by omega
    rw [v5 i (by omega), hcv i hi']; simp [List.getD_eq_getElem?_getD, hi']
  · have hi' : i < cs.length := by omega
    simp only [List.getD_eq_getElem?_getD, List.getElem?_map, List.getElem?_eq_getElem hi', Option.map_some, Option.getD_some]
    exact fits_lo8 _
end StrChars.Road
namespace StrChars.Road
open Jvm Sem ClassFile Op Lib Jvm.Stand Jvm.Free Jvm.Free.XT
/-- WHAT COMES BACK, in the writer's own shape -/
def QV (Z : State) (x : Addr) (N : Int32) (bs : List Int32) (h : Heap) (n0 : Nat) (v : Option Value) (h' : Heap) (L : List Loc) : Prop := v = none ∧ RoadKit.Fr n0 L ∧ RoadKit.Keep h h' [x] ∧ RoadKit.Exa Z h' x ST ∧ RoadKit.Fld Z h' x ST "coder" "B" (.int 0) ∧
  ∃ (t : Addr) (kb : ClassId), n0 ≤ t ∧ h.size ≤ t ∧ ¬ t = x ∧ RoadKit.Fld Z h' x ST "value" "[B" (.ref t) ∧ RoadKit.Arv Z h' t kb .byte N (bs.map Value.int) (.int 0)
/-- **new String(chars) AT A CALL, FOR THE WRITER**: a char[] of n known ints, each 0 to 255 -/
theorem backV {p : Program} {l : Launch} {e : Env} {R : Room} {s : State} {args : Array Value} {below : List Frame} {len W : Nat} {Z : State} {a0 : Array Value} {h : Heap} (hZ : Z.Warmed39 s.vm) (hw : ∀ d ∈ words, d.before a0 Z = true) {kI : Nat} (wi : (Jvm.Cond.instantiable ST kI).before a0 Z = true)
    {x b : Addr} {kC : ClassId} {cs bs : List Int32} {d v0 c0 : Value} {z N : Int32} {n n0 : Nat} (hx0 : n0 ≤ x) (hh0 : n0 ≤ h.size) (E : RoadKit.Exa Z h x ST) (V : RoadKit.Fld Z h x ST "value" "[B" v0) (C : RoadKit.Fld Z h x ST "coder" "B" c0) (K : RoadKit.Arv Z h b kC .char N (cs.map Value.int) d) (S : RoadKit.Sta Z h ST "COMPACT_STRINGS" "Z" (.int z)) (hz : ¬ z = 0)
    (hn : cs.length = n) (hN : N = Int32.ofNat n) (l0 : 0 < n) (l2 : n ≤ 4000) (hp : ∀ c ∈ cs, ¬ c < 0 ∧ ¬ (255 : Int32) < c) (hb : bs = cs.map (fun c => c.toInt8.toInt32)) (hfr : 4 ≤ R.frames) (hlo : W + 65 ≤ R.locals) :
    Back l R p e below s args (⟨"java/lang/String", "<init>", "([C)V"⟩ : MethodName) len W (fun P a => a = #[.ref x, .ref b] ∧ P.U.heap = h ∧ P.cells + 1 ≤ R.cells ∧ P.slots + n ≤ R.slots)
      (fun P _ v B => ∃ L, QV Z x N bs h n0 v B.U.heap L ∧ B.locs = P.locs ++ L ∧ B.cells = P.cells + 1 ∧ B.slots = P.slots + n) := by
  subst hn hN hb
  refine Back.mono (backArv hZ hw wi E V C K S hz (n32 (by omega)) l0 (by omega) (fun c hc => (hp c hc).2) hfr hlo) (fun P a hp => hp) (fun P a v B hp hq => ?_)
  obtain ⟨L, ⟨q1, q2, q3, q4, q5, q6, q7, ⟨kb, v1, v2⟩, q9⟩, hl, hc, hs⟩ := hq
  exact ⟨L, ⟨q1, fun y hy => by rw [q2 y hy]; exact hx0, q3, q5, q7, h.size, kb, hh0, Nat.le_refl _, Nat.ne_of_gt E.lt, q6, by rw [List.map_map]; exact v2⟩, hl, hc, hs⟩
end StrChars.Road
end Jvm.Pilot.@@N@@

namespace Jvm.Pilot.@@N@@
open Jvm Jvm.ClassFile Sem Op Lib Jvm.Free Jvm.Stand Jvm.LawKit Jvm.RoadKit Bundle Jvm.Pilot.@@N@@.Jvm.D
def own_max (a b : Int32) : Int32 := if a < b then b else a
def own_is (z : Int32) (wf : Nat → Int32) (c : Int32) : Int32 := if c < z then (if wf c.toNatClampNeg = 0 then 0 else 1) else 0
theorem own_f256 {P : Int32 → Prop} (t : ∀ k : Fin 256, P (Int32.ofNat k.val)) {c : Int32} (hc : ¬ c < 0 ∧ ¬ (255 : Int32) < c) : P c := by
  have e0 : (0 : Int32).toInt = 0 := by decide
  have e1 : (255 : Int32).toInt = 255 := by decide
  rw [Int32.lt_iff_toInt_lt, Int32.lt_iff_toInt_lt] at hc
  have h2 : c.toInt.toNat < 256 := by omega
  have e : c = Int32.ofNat c.toInt.toNat := by
    apply Int32.toInt_inj.mp
    rw [Int32.toInt_ofNat_of_lt (by omega)]; omega
  rw [e]; exact t ⟨_, h2⟩
theorem own_nc (x : Int32) : nar .char (x.toUInt32.toUInt16.toUInt32.toInt32) = x.toUInt32.toUInt16.toUInt32.toInt32 := by simp only [nar, UInt32.toUInt32_toInt32, UInt16.toUInt16_toUInt32]
theorem own_cc {c : Int32} (hc : ¬ c < 0 ∧ ¬ (255 : Int32) < c) : (((c.toInt8.toInt32) &&& (255 : Int32)).toUInt32.toUInt16.toUInt32.toInt32) = c := own_f256 (P := fun c => (((c.toInt8.toInt32) &&& (255 : Int32)).toUInt32.toUInt16.toUInt32.toInt32) = c) (by decide +kernel) hc
theorem own_2048 {c : Int32} (hc : ¬ c < 0 ∧ ¬ (255 : Int32) < c) : c < (2048 : Int32) := own_f256 (P := fun c => c < (2048 : Int32)) (by decide +kernel) hc
theorem own_fb2 {c : Int32} (hc : ¬ c < 0 ∧ ¬ (255 : Int32) < c) : 0 ≤ ((192 : Int32) ||| (c >>> ((6 : Int32) &&& 31))).toInt ∧ ((192 : Int32) ||| (c >>> ((6 : Int32) &&& 31))).toInt < 256 := own_f256 (P := fun c => 0 ≤ ((192 : Int32) ||| (c >>> ((6 : Int32) &&& 31))).toInt ∧ ((192 : Int32) ||| (c >>> ((6 : Int32) &&& 31))).toInt < 256) (by decide +kernel) hc
theorem own_rng {c : Int32} (hc : ¬ c < 0 ∧ ¬ (255 : Int32) < c) : 0 ≤ c.toInt ∧ c.toInt < 256 := own_f256 (P := fun c => 0 ≤ c.toInt ∧ c.toInt < 256) (by decide +kernel) hc
theorem own_tn {j : Int32} (hj : 0 ≤ j.toInt) : j.toInt = (j.toNatClampNeg : Int) := by show _ = ((Int.toNat _ : Nat) : Int); omega
theorem own_nn {j : Int32} (hj : ¬ j < 0) : 0 ≤ j.toInt := by
  have e0 : (0 : Int32).toInt = 0 := by decide
  rw [Int32.lt_iff_toInt_lt] at hj; omega
theorem own_lti {a b : Int32} (q : a < b) : a.toInt < b.toInt := Int32.lt_iff_toInt_lt.mp q
theorem own_mxs {a b : Int32} (ha : -1 ≤ a.toInt) (ha2 : a.toInt ≤ 255) (q : ¬ b < 0 ∧ ¬ (255 : Int32) < b) : -1 ≤ (own_max a b).toInt ∧ (own_max a b).toInt ≤ 255 ∧ a.toInt ≤ (own_max a b).toInt ∧ b.toInt ≤ (own_max a b).toInt := by
  have r := own_rng q
  unfold own_max
  by_cases u : a < b
  · rw [if_pos u]; have := own_lti u; omega
  · rw [if_neg u]; rw [Int32.lt_iff_toInt_lt] at u; omega
theorem own_suc {m : Int32} (h1 : -1 ≤ m.toInt) (h2 : m.toInt ≤ 255) : (m + (1 : Int32)).toInt = m.toInt + 1 := by
  have e1 : (1 : Int32).toInt = 1 := by decide
  rw [Int32.toInt_add, e1, Int.bmod_eq_of_le (by omega) (by omega)]
theorem own_max0 (x : Int32) : ¬ own_max (0 : Int32) x < 0 := by
  unfold own_max
  by_cases u : (0 : Int32) < x
  · rw [if_pos u]; rw [Int32.lt_iff_toInt_lt] at u ⊢; omega
  · rw [if_neg u]; decide
theorem own_m31 (x : Int32) : ¬ (x &&& (2147483647 : Int32)) < 0 := by
  have e1 : (x &&& 2147483647).toInt = x.toInt % 2 ^ 31 := Jvm.Kit.i32_mask x 2147483647 (k := 31) (by decide) (by decide)
  have e0 : (0 : Int32).toInt = 0 := by decide
  rw [Int32.lt_iff_toInt_lt]; omega
theorem own_and3 (x : Int32) : (x &&& 3) = 0 ∨ (x &&& 3) = 1 ∨ (x &&& 3) = 2 ∨ (x &&& 3) = 3 := by
  have e1 : (x &&& 3).toInt = x.toInt % 2 ^ 2 := Jvm.Kit.i32_mask x 3 (k := 2) (by decide) (by decide)
  rcases (by omega : (x &&& 3).toInt = 0 ∨ (x &&& 3).toInt = 1 ∨ (x &&& 3).toInt = 2 ∨ (x &&& 3).toInt = 3) with h | h | h | h
  · exact Or.inl (Int32.toInt_inj.mp h)
  · exact Or.inr (Or.inl (Int32.toInt_inj.mp h))
  · exact Or.inr (Or.inr (Or.inl (Int32.toInt_inj.mp h)))
  · exact Or.inr (Or.inr (Or.inr (Int32.toInt_inj.mp h)))
theorem own_ti {a b : Int32} (ha : 0 ≤ a.toInt) (hb' : 0 ≤ b.toInt) : a.toNatClampNeg = b.toNatClampNeg ↔ a = b := by
  constructor
  · intro q
    have h1 := own_tn ha
    have h2 := own_tn hb'
    exact Int32.toInt_inj.mp (by omega)
  · intro q; rw [q]
theorem own_s0 (c : Int32) (hc : ¬ c < 0) : own_is (0 : Int32) (fun _ => (0 : Int32)) c = 0 := by simp only [own_is]; split <;> simp
theorem own_s1 {z c0 : Int32} (r0 : 0 ≤ c0.toInt) (q0 : c0.toInt < z.toInt) (c : Int32) (hc : ¬ c < 0) : own_is z (own_up (fun _ => (0 : Int32)) c0.toNatClampNeg (nar .boolean (1 : Int32))) c = if c = c0 then 1 else 0 := by
  have k0 := own_ti (own_nn hc) r0
  have n1 : nar .boolean (1 : Int32) = 1 := by decide
  simp only [own_is, own_up, k0, n1]
  by_cases u0 : c = c0
  · have : c < z := by rw [u0]; exact Int32.lt_iff_toInt_lt.mpr q0
    simp [u0, u0 ▸ this]
  · simp [u0]
theorem own_s2 {z c0 c1 : Int32} (r0 : 0 ≤ c0.toInt) (q0 : c0.toInt < z.toInt) (r1 : 0 ≤ c1.toInt) (q1 : c1.toInt < z.toInt) (c : Int32) (hc : ¬ c < 0) : own_is z (own_up (own_up (fun _ => (0 : Int32)) c0.toNatClampNeg (nar .boolean (1 : Int32))) c1.toNatClampNeg (nar .boolean (1 : Int32))) c = if c = c0 then 1 else if c = c1 then 1 else 0 := by
  have k0 := own_ti (own_nn hc) r0
  have k1 := own_ti (own_nn hc) r1
  have n1 : nar .boolean (1 : Int32) = 1 := by decide
  simp only [own_is, own_up, k0, k1, n1]
  by_cases u0 : c = c0
  · have : c < z := by rw [u0]; exact Int32.lt_iff_toInt_lt.mpr q0
    rw [if_pos this, if_pos u0, if_pos u0]; split <;> first | rfl | simp | (rename_i a; exact absurd a (by split <;> decide))
  · by_cases u1 : c = c1
    · have : c < z := by rw [u1]; exact Int32.lt_iff_toInt_lt.mpr q1
      simp only [if_pos this, if_neg u0, if_pos u1]; decide
    · simp [u0, u1]
theorem own_s3 {z c0 c1 c2 : Int32} (r0 : 0 ≤ c0.toInt) (q0 : c0.toInt < z.toInt) (r1 : 0 ≤ c1.toInt) (q1 : c1.toInt < z.toInt) (r2 : 0 ≤ c2.toInt) (q2 : c2.toInt < z.toInt) (c : Int32) (hc : ¬ c < 0) : own_is z (own_up (own_up (own_up (fun _ => (0 : Int32)) c0.toNatClampNeg (nar .boolean (1 : Int32))) c1.toNatClampNeg (nar .boolean (1 : Int32))) c2.toNatClampNeg (nar .boolean (1 : Int32))) c = if c = c0 then 1 else if c = c1 then 1 else if c = c2 then 1 else 0 := by
  have k0 := own_ti (own_nn hc) r0
  have k1 := own_ti (own_nn hc) r1
  have k2 := own_ti (own_nn hc) r2
  have n1 : nar .boolean (1 : Int32) = 1 := by decide
  simp only [own_is, own_up, k0, k1, k2, n1]
  have l0 : c = c0 → c < z := fun u => by rw [u]; exact Int32.lt_iff_toInt_lt.mpr q0
  have l1 : c = c1 → c < z := fun u => by rw [u]; exact Int32.lt_iff_toInt_lt.mpr q1
  have l2 : c = c2 → c < z := fun u => by rw [u]; exact Int32.lt_iff_toInt_lt.mpr q2
  by_cases u0 : c = c0
  · simp only [if_pos (l0 u0), if_pos u0]; by_cases u2 : c = c2 <;> by_cases u1 : c = c1 <;> simp only [if_pos, if_neg, u1, u2, if_true, if_false, ite_self] <;> decide
  · by_cases u1 : c = c1
    · simp only [if_pos (l1 u1), if_neg u0, if_pos u1]; by_cases u2 : c = c2 <;> simp only [if_pos, if_neg, u2, if_true, if_false, ite_self] <;> decide
    · by_cases u2 : c = c2
      · simp only [if_pos (l2 u2), if_neg u0, if_neg u1, if_pos u2]; decide
      · simp [u0, u1, u2]
theorem own_and255 (x : Int32) : ¬ nar .char ((x &&& (255 : Int32)).toUInt32.toUInt16.toUInt32.toInt32) < 0 ∧ ¬ (255 : Int32) < nar .char ((x &&& (255 : Int32)).toUInt32.toUInt16.toUInt32.toInt32) := by
  have t : ∀ k : Fin 256, ¬ nar .char ((Int32.ofNat k.val).toUInt32.toUInt16.toUInt32.toInt32) < 0 ∧ ¬ (255 : Int32) < nar .char ((Int32.ofNat k.val).toUInt32.toUInt16.toUInt32.toInt32) := by decide +kernel
  have h : (x &&& 255).toBitVec.toNat < 256 := by
    simp only [Int32.toBitVec_and, BitVec.toNat_and]
    exact Nat.lt_succ_of_le Nat.and_le_right
  have e : (x &&& 255) = Int32.ofNat (x &&& 255).toBitVec.toNat := by
    apply Int32.toBitVec_inj.mp
    show _ = BitVec.ofNat 32 _
    rw [BitVec.ofNat_toNat]; simp
  rw [e]
  exact t ⟨_, h⟩
theorem d2_0 : decode jdk_42_method_149_code 0 = .ok (.aload_n 0, 1) := by decide +kernel
theorem d2_1 : decode jdk_42_method_149_code 1 = .ok (.invokespecial 1, 3) := by decide +kernel
theorem d2_4 : decode jdk_42_method_149_code 4 = .ok (.iload_n 3, 1) := by decide +kernel
theorem d2_5 : decode jdk_42_method_149_code 5 = .ok (.ifCond .ne 22, 3) := by decide +kernel
theorem d2_8 : decode jdk_42_method_149_code 8 = .ok (.aload_n 0, 1) := by decide +kernel
theorem d2_9 : decode jdk_42_method_149_code 9 = .ok (.ldc 7, 2) := by decide +kernel
theorem d2_11 : decode jdk_42_method_149_code 11 = .ok (.getfield 9, 3) := by decide +kernel
theorem d2_14 : decode jdk_42_method_149_code 14 = .ok (.putfield 9, 3) := by decide +kernel
theorem d2_17 : decode jdk_42_method_149_code 17 = .ok (.aload_n 0, 1) := by decide +kernel
theorem d2_18 : decode jdk_42_method_149_code 18 = .ok (.ldc 7, 2) := by decide +kernel
theorem d2_20 : decode jdk_42_method_149_code 20 = .ok (.getfield 15, 3) := by decide +kernel
theorem d2_23 : decode jdk_42_method_149_code 23 = .ok (.putfield 15, 3) := by decide +kernel
theorem d2_26 : decode jdk_42_method_149_code 26 = .ok (.return_, 1) := by decide +kernel
theorem d2_27 : decode jdk_42_method_149_code 27 = .ok (.getstatic 38, 3) := by decide +kernel
theorem d2_30 : decode jdk_42_method_149_code 30 = .ok (.ifCond .eq 28, 3) := by decide +kernel
theorem d2_33 : decode jdk_42_method_149_code 33 = .ok (.aload_n 1, 1) := by decide +kernel
theorem d2_34 : decode jdk_42_method_149_code 34 = .ok (.iload_n 2, 1) := by decide +kernel
theorem d2_35 : decode jdk_42_method_149_code 35 = .ok (.iload_n 3, 1) := by decide +kernel
theorem d2_36 : decode jdk_42_method_149_code 36 = .ok (.invokestatic 177, 3) := by decide +kernel
theorem d2_39 : decode jdk_42_method_149_code 39 = .ok (.astore 5, 2) := by decide +kernel
theorem d2_41 : decode jdk_42_method_149_code 41 = .ok (.aload_n 0, 1) := by decide +kernel
theorem d2_42 : decode jdk_42_method_149_code 42 = .ok (.aload 5, 2) := by decide +kernel
theorem d2_44 : decode jdk_42_method_149_code 44 = .ok (.iload_n 3, 1) := by decide +kernel
theorem d2_45 : decode jdk_42_method_149_code 45 = .ok (.invokestatic 47, 3) := by decide +kernel
theorem d2_48 : decode jdk_42_method_149_code 48 = .ok (.putfield 15, 3) := by decide +kernel
theorem d2_51 : decode jdk_42_method_149_code 51 = .ok (.aload_n 0, 1) := by decide +kernel
theorem d2_52 : decode jdk_42_method_149_code 52 = .ok (.aload 5, 2) := by decide +kernel
theorem d2_54 : decode jdk_42_method_149_code 54 = .ok (.putfield 9, 3) := by decide +kernel
theorem d2_57 : decode jdk_42_method_149_code 57 = .ok (.return_, 1) := by decide +kernel
theorem d2_58 : decode jdk_42_method_149_code 58 = .ok (.aload_n 0, 1) := by decide +kernel
theorem d2_59 : decode jdk_42_method_149_code 59 = .ok (.iconst 1, 1) := by decide +kernel
theorem d2_60 : decode jdk_42_method_149_code 60 = .ok (.putfield 15, 3) := by decide +kernel
theorem d2_63 : decode jdk_42_method_149_code 63 = .ok (.aload_n 0, 1) := by decide +kernel
theorem d2_64 : decode jdk_42_method_149_code 64 = .ok (.aload_n 1, 1) := by decide +kernel
theorem d2_65 : decode jdk_42_method_149_code 65 = .ok (.iload_n 2, 1) := by decide +kernel
theorem d2_66 : decode jdk_42_method_149_code 66 = .ok (.iload_n 3, 1) := by decide +kernel
theorem d2_67 : decode jdk_42_method_149_code 67 = .ok (.invokestatic 180, 3) := by decide +kernel
theorem d2_70 : decode jdk_42_method_149_code 70 = .ok (.putfield 9, 3) := by decide +kernel
theorem d2_73 : decode jdk_42_method_149_code 73 = .ok (.return_, 1) := by decide +kernel
theorem ef_2_0 (m : MethodId) (o0 : Addr) (o1 : Addr) : entryFrame m #[(.ref o0), (.ref o1), (.int (0 : Int32)), (.int (0 : Int32)), .null] 6 = mkF m 0 #[.val (.ref o0), .val (.ref o1), .val (.int (0 : Int32)), .val (.int (0 : Int32)), .val .null, .unset] [] := by first | (simp [entryFrame, mkF, argsToLocals, Value.category]; done) | rfl
theorem pn_java_lang_String : plainName "java/lang/String" = true := by first | (simp [plainName, overriddenIn]; done) | decide +kernel
def Q_rmSV (Z : State) (o0 : Addr) (o1 : Addr)  (h0 : Heap) (n0 : Nat) (v : Option Value) (h : Heap) (L : List Loc) : Prop := v = none ∧ Fr n0 L ∧ Keep h0 h [o0] ∧ Exa Z h o0 "java/lang/String" ∧ Fld Z h o0 "java/lang/String" "coder" "B" (.int (0 : Int32)) ∧ ∃ (t : Addr) (kt : ClassId), t ≠ o0 ∧ Fld Z h o0 "java/lang/String" "value" "[B" (.ref t) ∧ Arv Z h t kt .byte (0 : Int32) [] (.int 0)
set_option maxRecDepth 65536 in
set_option maxHeartbeats 40000000 in
theorem rmSV (l : Launch) (Z : State) (a0 : Array Value) (hw : ∀ d ∈ tables_1, d.before a0 Z = true) (ws : List Jvm.Cond) (o0 : Addr) (o1 : Addr)  (h0 : Heap) (n0 : Nat) (Z0 : n0 ≤ h0.size) (E0 : Exa Z h0 o0 "java/lang/String") (FV : Fld Z h0 o0 "java/lang/String" "value" "[B" .null) (FC : Fld Z h0 o0 "java/lang/String" "coder" "B" (.int (0 : Int32))) (g_o0 : n0 ≤ o0) (hEL : EW Z a0 consts_1) :
    MetFree l (⟨"java/lang/String", "<init>", "([CIILjava/lang/Void;)V"⟩ : MethodName) (head1 (Jvm.Cond.code (⟨"java/lang/String", "<init>", "([CIILjava/lang/Void;)V"⟩ : MethodName) jdk_42_method_149_code 6 none :: ws) ({ frames := 1, cells := 4, slots := 8, locals := 12 } : Room)) (fun a U => a = #[(.ref o0), (.ref o1), (.int (0 : Int32)), (.int (0 : Int32)), .null] ∧ Z.Warmed39 U.vm ∧ U.heap = h0 ∧ CHv Z consts_1 U.vm h0 ∧ Safe Z consts_1 U.vm h0 o0) (fun _ _ _ _ _ => True) (fun _ U o U' => ∃ v L, o = .returned v ∧ Q_rmSV Z o0 o1 h0 n0 v U'.heap L ∧ CHr Z consts_1 U.vm U.heap U'.vm U'.heap ∧ ReturnedEndW U o U' L ({ frames := 1, cells := 4, slots := 8, locals := 12 } : Room).cells ({ frames := 1, cells := 4, slots := 8, locals := 12 } : Room).slots) := by
  refine MetFree.of_bodySF (plainFor_of_name pn_java_lang_String) hisR ?_
  intro p e s m args below meth c s₁ Bd hml0 hP hK
  obtain ⟨rfl, hZ, hh, hCv, Sf_o0⟩ := hP
  have hx := Bd.exec
  have hby := Bd.bytes
  have hlk := BodyLoose.notSynchronized Bd
  have hrt := Bd.returns
  have hml : c.maxLocals = 6 := hml0
  have hown : s.vm.findClass "java/lang/String" = some m.cls := findClass_of_methodNamed Bd.named
  have hnm := (name_of_methodNamed Bd.named Bd.method).1
  have X0 : Stand p l e ({ frames := 1, cells := 4, slots := 8, locals := 12 } : Room) (s.setVm s.vm) m #[(.ref o0), (.ref o1), (.int (0 : Int32)), (.int (0 : Int32)), .null] below meth c s₁ [] 0 0 := Stand.of_body Bd
  have e0 : s₁.heap = h0 := by rw [← hh, Bd.state]; rfl
  have N0 := Fr.nil n0
  have K0 : Keep h0 h0 [o0] := Keep.refl h0 _
  have hC : CHr Z consts_1 s.vm s.heap s.vm h0 := by rw [hh]; exact CHr.refl hCv
  have hS : s.Since s.vm h0.size := (State.WarmedH.refl s).since _
  have hk : h0.size ≤ h0.size := Nat.le_refl _
  show Runs p e below (QEW Z consts_1 s (Q_rmSV Z o0 o1 h0 n0) ({ frames := 1, cells := 4, slots := 8, locals := 12 } : Room).cells ({ frames := 1, cells := 4, slots := 8, locals := 12 } : Room).slots) (s₁.setTop (entryFrame m #[(.ref o0), (.ref o1), (.int (0 : Int32)), (.int (0 : Int32)), .null] 6))
  rw [ef_2_0 m o0 o1]
  have wS : ∀ a ∈ Bundle.stringAtoms, a.before a0 Z = true := fun d hd => hw d ((by decide +kernel : ∀ d ∈ Bundle.stringAtoms, d ∈ tables_1) d hd)
  show Runs p e below _ (s₁.setTop (mkF m 0 #[.val (.ref o0), .val (.ref o1), .val (.int (0 : Int32)), .val (.int (0 : Int32)), .val .null, .unset] []))
  refine Runs.by (fun _ hr => XS.aloadN X0.here hx rfl (hb hby d2_0) rfl rfl hr) ?_
  show Runs p e below _ (s₁.setTop (mkF m 1 #[.val (.ref o0), .val (.ref o1), .val (.int (0 : Int32)), .val (.int (0 : Int32)), .val .null, .unset] [(.ref o0)]))
  obtain ⟨T1, X1, e1, st1⟩ := initO X0 hx hZ hown (hw _ (List.mem_of_getElem? (i := 11) rfl)) (hw _ (List.mem_of_getElem? (i := 12) rfl)) (hw _ (List.mem_of_getElem? (i := 13) rfl)) e0 (g := (mkF m 1 #[.val (.ref o0), .val (.ref o1), .val (.int (0 : Int32)), .val (.int (0 : Int32)), .val .null, .unset] [(.ref o0)])) rfl (by rw [hml]; rfl) rfl (hb hby d2_1) (by decide) (W := 0) (by show 2 * 0 + _ ≤ _; exact Nat.le_of_eq rfl) (by decide)
  refine Runs.by st1 ?_
  show Runs p e below _ (T1.setTop (mkF m 4 #[.val (.ref o0), .val (.ref o1), .val (.int (0 : Int32)), .val (.int (0 : Int32)), .val .null, .unset] []))
  refine Runs.by (fun _ hr => XS.iloadN X1.here hx rfl (hb hby d2_4) rfl  hr) ?_
  show Runs p e below _ (T1.setTop (mkF m 5 #[.val (.ref o0), .val (.ref o1), .val (.int (0 : Int32)), .val (.int (0 : Int32)), .val .null, .unset] [(.int (0 : Int32))]))
  have hc5 : (0 : Int32) = (0 : Int32) := (by decide)
  refine Runs.by (fun _ hr => XS.ifNo X1.here hx rfl (hb hby d2_5) rfl ((if0 _ _).trans (teq hc5).2) hr) ?_
  show Runs p e below _ (T1.setTop (mkF m 8 #[.val (.ref o0), .val (.ref o1), .val (.int (0 : Int32)), .val (.int (0 : Int32)), .val .null, .unset] []))
  refine Runs.by (fun _ hr => XS.aloadN X1.here hx rfl (hb hby d2_8) rfl rfl hr) ?_
  show Runs p e below _ (T1.setTop (mkF m 9 #[.val (.ref o0), .val (.ref o1), .val (.int (0 : Int32)), .val (.int (0 : Int32)), .val .null, .unset] [(.ref o0)]))
  obtain ⟨c2, T2, h2, kk2, cb2, kc2, X2, e2, E2, hS2, hk2, hZ2, ho2, fE2, fC2, fV2, fA2, lt2, ltb2, hr2, -, sf2, st2⟩ := ldcCH X1 hx hZ hown (hw _ (List.mem_of_getElem? (i := 84) rfl)) wS e1 hS hk hEL (by decide) hC.1 (vs := []) (z := (0 : Int32)) (by decide +kernel) (by decide) rfl (g := (mkF m 9 #[.val (.ref o0), .val (.ref o1), .val (.int (0 : Int32)), .val (.int (0 : Int32)), .val .null, .unset] [(.ref o0)])) rfl (hb hby d2_9) (n := 0) (by decide) (by decide) (by decide) (by decide)
  have Sf_o0__L2 := CHr.safe hr2 E0.lt Sf_o0
  have ne_o0_c2 : o0 ≠ c2 := (sf2 _ Sf_o0__L2).1
  have ne_o0_cb2 : o0 ≠ cb2 := (sf2 _ Sf_o0__L2).2
  have K3 : Keep h0 h2 [o0] := K0.ext E2
  have hC := hC.trans hr2
  have hS := hS2
  have hk := hk2
  have hZ := hZ2
  have hown := ho2
  refine Runs.by st2 ?_
  show Runs p e below _ (T2.setTop (mkF m 11 #[.val (.ref o0), .val (.ref o1), .val (.int (0 : Int32)), .val (.int (0 : Int32)), .val .null, .unset] [(.ref c2), (.ref o0)]))
  obtain ⟨T4, X4, e4, st4⟩ := getF X2 hx hZ hown (host := "") (Or.inl (hw _ (List.mem_of_getElem? (i := 28) rfl))) Via.refl e2 fV2 (g := (mkF m 11 #[.val (.ref o0), .val (.ref o1), .val (.int (0 : Int32)), .val (.int (0 : Int32)), .val .null, .unset] [(.ref c2), (.ref o0)])) rfl rfl (hb hby d2_11)
  refine Runs.by st4 ?_
  show Runs p e below _ (T4.setTop (mkF m 14 #[.val (.ref o0), .val (.ref o1), .val (.int (0 : Int32)), .val (.int (0 : Int32)), .val .null, .unset] [(.ref cb2), (.ref o0)]))
  obtain ⟨T5, h5, X5, e5, W5, st5⟩ := putF X4 hx hZ hown (host := "") (Or.inl (hw _ (List.mem_of_getElem? (i := 28) rfl))) Via.refl e4 (FV.ext E2) (E0.ext E2) (Or.inr ⟨(hw _ (List.mem_of_getElem? (i := 29) rfl)), rfl, hnm⟩) (hw _ (List.mem_of_getElem? (i := 1) rfl)) (ty := (.array .byte)) (by decide) rfl rfl (g := (mkF m 14 #[.val (.ref o0), .val (.ref o1), .val (.int (0 : Int32)), .val (.int (0 : Int32)), .val .null, .unset] [(.ref cb2), (.ref o0)])) rfl rfl (hb hby d2_14)
  have Fw5 := (FV.ext E2).same W5
  have K6 : Keep h0 h5 [o0] := K3.wr W5 (Or.inl (List.mem_of_getElem? (i := 0) rfl))
  have Sf_o0__K6 := Safe.wr W5 Sf_o0__L2 hC.1 Sf_o0__L2
  have hk : _ ≤ h5.size := Nat.le_trans hk (Keep.of_wr W5).1
  have hC := hC.trans (CHr.wr W5 Sf_o0__L2 hC.1)
  have N5 := Fr.snoc X5 N0 g_o0
  refine Runs.by st5 ?_
  show Runs p e below _ (T5.setTop (mkF m 17 #[.val (.ref o0), .val (.ref o1), .val (.int (0 : Int32)), .val (.int (0 : Int32)), .val .null, .unset] []))
  refine Runs.by (fun _ hr => XS.aloadN X5.here hx rfl (hb hby d2_17) rfl rfl hr) ?_
  show Runs p e below _ (T5.setTop (mkF m 18 #[.val (.ref o0), .val (.ref o1), .val (.int (0 : Int32)), .val (.int (0 : Int32)), .val .null, .unset] [(.ref o0)]))
  obtain ⟨c7, T7, h7, kk7, cb7, kc7, X7, e7, E7, hS7, hk7, hZ7, ho7, fE7, fC7, fV7, fA7, lt7, ltb7, hr7, -, sf7, st7⟩ := ldcCH X5 hx hZ hown (hw _ (List.mem_of_getElem? (i := 84) rfl)) wS e5 hS hk hEL (by decide) hC.1 (vs := []) (z := (0 : Int32)) (by decide +kernel) (by decide) rfl (g := (mkF m 18 #[.val (.ref o0), .val (.ref o1), .val (.int (0 : Int32)), .val (.int (0 : Int32)), .val .null, .unset] [(.ref o0)])) rfl (hb hby d2_18) (n := 0) (by decide) (by decide) (by decide) (by decide)
  have Sf_o0__L7 := CHr.safe hr7 ((E0.ext E2).wr W5).lt Sf_o0__K6
  have ne_o0_c7 : o0 ≠ c7 := (sf7 _ Sf_o0__L7).1
  have ne_o0_cb7 : o0 ≠ cb7 := (sf7 _ Sf_o0__L7).2
  have K8 : Keep h0 h7 [o0] := K6.ext E7
  have hC := hC.trans hr7
  have hS := hS7
  have hk := hk7
  have hZ := hZ7
  have hown := ho7
  refine Runs.by st7 ?_
  show Runs p e below _ (T7.setTop (mkF m 20 #[.val (.ref o0), .val (.ref o1), .val (.int (0 : Int32)), .val (.int (0 : Int32)), .val .null, .unset] [(.ref c7), (.ref o0)]))
  obtain ⟨T9, X9, e9, st9⟩ := getF X7 hx hZ hown (host := "") (Or.inl (hw _ (List.mem_of_getElem? (i := 26) rfl))) Via.refl e7 fC7 (g := (mkF m 20 #[.val (.ref o0), .val (.ref o1), .val (.int (0 : Int32)), .val (.int (0 : Int32)), .val .null, .unset] [(.ref c7), (.ref o0)])) rfl rfl (hb hby d2_20)
  refine Runs.by st9 ?_
  show Runs p e below _ (T9.setTop (mkF m 23 #[.val (.ref o0), .val (.ref o1), .val (.int (0 : Int32)), .val (.int (0 : Int32)), .val .null, .unset] [(.int (0 : Int32)), (.ref o0)]))
  obtain ⟨T10, h10, X10, e10, W10, st10⟩ := putFN X9 hx hZ hown (hw _ (List.mem_of_getElem? (i := 26) rfl)) Via.refl e9 (((FC.ext E2).other W5 (Or.inr (slot_ne (Or.inr (hw _ (List.mem_of_getElem? (i := 27) rfl))) (Or.inr (hw _ (List.mem_of_getElem? (i := 29) rfl))) (by decide) (t := .byte) (t' := (.array .byte)) (by decide) (by decide)))).ext E7) (((E0.ext E2).wr W5).ext E7) (Or.inr ⟨(hw _ (List.mem_of_getElem? (i := 27) rfl)), rfl, hnm⟩) (hw _ (List.mem_of_getElem? (i := 1) rfl)) (ty := .byte) (v' := (.int (0 : Int32))) (by decide) rfl (by first | rfl | exact fits_nar_byte _) (g := (mkF m 23 #[.val (.ref o0), .val (.ref o1), .val (.int (0 : Int32)), .val (.int (0 : Int32)), .val .null, .unset] [(.int (0 : Int32)), (.ref o0)])) rfl rfl (hb hby d2_23)
  have Fw10 := (((FC.ext E2).other W5 (Or.inr (slot_ne (Or.inr (hw _ (List.mem_of_getElem? (i := 27) rfl))) (Or.inr (hw _ (List.mem_of_getElem? (i := 29) rfl))) (by decide) (t := .byte) (t' := (.array .byte)) (by decide) (by decide)))).ext E7).same W10
  have K11 : Keep h0 h10 [o0] := K8.wr W10 (Or.inl (List.mem_of_getElem? (i := 0) rfl))
  have Sf_o0__K11 := Safe.wr W10 Sf_o0__L7 hC.1 Sf_o0__L7
  have hk : _ ≤ h10.size := Nat.le_trans hk (Keep.of_wr W10).1
  have hC := hC.trans (CHr.wr W10 Sf_o0__L7 hC.1)
  have N10 := Fr.snoc X10 N5 g_o0
  refine Runs.by st10 ?_
  show Runs p e below _ (T10.setTop (mkF m 26 #[.val (.ref o0), .val (.ref o1), .val (.int (0 : Int32)), .val (.int (0 : Int32)), .val .null, .unset] []))
  refine Runs.retVW X10 hx hrt hlk e10 hS hk hZ hEL hC (hb hby d2_26) (by decide) (by decide) ?_
  exact ⟨rfl, N10, K11, ((((E0.ext E2).wr W5).ext E7).wr W10), Fw10, cb2, kc2, (Ne.symm ne_o0_cb2), ((Fw5.ext E7).other W10 (Or.inr (slot_ne (Or.inr (hw _ (List.mem_of_getElem? (i := 29) rfl))) (Or.inr (hw _ (List.mem_of_getElem? (i := 27) rfl))) (by decide) (t := (.array .byte)) (t' := .byte) (by decide) (by decide)))), (((fA2.other W5 (Ne.symm ne_o0_cb2)).ext E7).other W10 (Ne.symm ne_o0_cb2))⟩
theorem d1_0 : decode jdk_42_method_3_code 0 = .ok (.aload_n 0, 1) := by decide +kernel
theorem d1_1 : decode jdk_42_method_3_code 1 = .ok (.aload_n 1, 1) := by decide +kernel
theorem d1_2 : decode jdk_42_method_3_code 2 = .ok (.iconst 0, 1) := by decide +kernel
theorem d1_3 : decode jdk_42_method_3_code 3 = .ok (.aload_n 1, 1) := by decide +kernel
theorem d1_4 : decode jdk_42_method_3_code 4 = .ok (.arraylength, 1) := by decide +kernel
theorem d1_5 : decode jdk_42_method_3_code 5 = .ok (.aconst_null, 1) := by decide +kernel
theorem d1_6 : decode jdk_42_method_3_code 6 = .ok (.invokespecial 27, 3) := by decide +kernel
theorem d1_9 : decode jdk_42_method_3_code 9 = .ok (.return_, 1) := by decide +kernel
theorem ef_1_1 (m : MethodId) (o0 : Addr) (o1 : Addr) : entryFrame m #[(.ref o0), (.ref o1)] 2 = mkF m 0 #[.val (.ref o0), .val (.ref o1)] [] := by first | (simp [entryFrame, mkF, argsToLocals, Value.category]; done) | rfl
def Q_rmSI (Z : State) (o0 : Addr) (o1 : Addr) (k : ClassId) (h0 : Heap) (n0 : Nat) (v : Option Value) (h : Heap) (L : List Loc) : Prop := v = none ∧ Fr n0 L ∧ Keep h0 h [o0] ∧ Exa Z h o0 "java/lang/String" ∧ Fld Z h o0 "java/lang/String" "coder" "B" (.int (0 : Int32)) ∧ ∃ (t : Addr) (kt : ClassId), t ≠ o0 ∧ Fld Z h o0 "java/lang/String" "value" "[B" (.ref t) ∧ Arv Z h t kt .byte (0 : Int32) [] (.int 0)
theorem pd_0 : parseMethodDescriptor "([CIILjava/lang/Void;)V" = some ⟨[(.array .char), .int, .int, (.object "java/lang/Void")], none⟩ := by decide +kernel
set_option maxRecDepth 65536 in
set_option maxHeartbeats 40000000 in
theorem rmSI (l : Launch) (Z : State) (a0 : Array Value) (hw : ∀ d ∈ tables_1, d.before a0 Z = true) (ws : List Jvm.Cond) (o0 : Addr) (o1 : Addr) (k : ClassId) (h0 : Heap) (n0 : Nat) (Z0 : n0 ≤ h0.size) (E0 : Exa Z h0 o0 "java/lang/String") (FV : Fld Z h0 o0 "java/lang/String" "value" "[B" .null) (FC : Fld Z h0 o0 "java/lang/String" "coder" "B" (.int (0 : Int32))) (g_o0 : n0 ≤ o0) (V1 : Arv Z h0 o1 k .char (0 : Int32) [] (.int (0 : Int32))) (hEL : EW Z a0 consts_1) :
    MetFree l (⟨"java/lang/String", "<init>", "([C)V"⟩ : MethodName) (head1 (Jvm.Cond.code (⟨"java/lang/String", "<init>", "([C)V"⟩ : MethodName) jdk_42_method_3_code 2 none :: ws) ({ frames := 2, cells := 4, slots := 8, locals := 29 } : Room)) (fun a U => a = #[(.ref o0), (.ref o1)] ∧ Z.Warmed39 U.vm ∧ U.heap = h0 ∧ CHv Z consts_1 U.vm h0 ∧ Safe Z consts_1 U.vm h0 o0) (fun _ _ _ _ _ => True) (fun _ U o U' => ∃ v L, o = .returned v ∧ Q_rmSI Z o0 o1 k h0 n0 v U'.heap L ∧ CHr Z consts_1 U.vm U.heap U'.vm U'.heap ∧ ReturnedEndW U o U' L ({ frames := 2, cells := 4, slots := 8, locals := 29 } : Room).cells ({ frames := 2, cells := 4, slots := 8, locals := 29 } : Room).slots) := by
  refine MetFree.of_bodySF (plainFor_of_name pn_java_lang_String) hisR ?_
  intro p e s m args below meth c s₁ Bd hml0 hP hK
  obtain ⟨rfl, hZ, hh, hCv, Sf_o0⟩ := hP
  have hx := Bd.exec
  have hby := Bd.bytes
  have hlk := BodyLoose.notSynchronized Bd
  have hrt := Bd.returns
  have hml : c.maxLocals = 2 := hml0
  have hown : s.vm.findClass "java/lang/String" = some m.cls := findClass_of_methodNamed Bd.named
  have hnm := (name_of_methodNamed Bd.named Bd.method).1
  have X0 : Stand p l e ({ frames := 2, cells := 4, slots := 8, locals := 29 } : Room) (s.setVm s.vm) m #[(.ref o0), (.ref o1)] below meth c s₁ [] 0 0 := Stand.of_body Bd
  have e0 : s₁.heap = h0 := by rw [← hh, Bd.state]; rfl
  have N0 := Fr.nil n0
  have K0 : Keep h0 h0 [o0] := Keep.refl h0 _
  have hC : CHr Z consts_1 s.vm s.heap s.vm h0 := by rw [hh]; exact CHr.refl hCv
  have hS : s.Since s.vm h0.size := (State.WarmedH.refl s).since _
  have hk : h0.size ≤ h0.size := Nat.le_refl _
  show Runs p e below (QEW Z consts_1 s (Q_rmSI Z o0 o1 k h0 n0) ({ frames := 2, cells := 4, slots := 8, locals := 29 } : Room).cells ({ frames := 2, cells := 4, slots := 8, locals := 29 } : Room).slots) (s₁.setTop (entryFrame m #[(.ref o0), (.ref o1)] 2))
  rw [ef_1_1 m o0 o1]
  show Runs p e below _ (s₁.setTop (mkF m 0 #[.val (.ref o0), .val (.ref o1)] []))
  refine Runs.by (fun _ hr => XS.aloadN X0.here hx rfl (hb hby d1_0) rfl rfl hr) ?_
  show Runs p e below _ (s₁.setTop (mkF m 1 #[.val (.ref o0), .val (.ref o1)] [(.ref o0)]))
  refine Runs.by (fun _ hr => XS.aloadN X0.here hx rfl (hb hby d1_1) rfl rfl hr) ?_
  show Runs p e below _ (s₁.setTop (mkF m 2 #[.val (.ref o0), .val (.ref o1)] [(.ref o1), (.ref o0)]))
  refine Runs.by (fun _ hr => XS.iconst X0.here hx rfl (hb hby d1_2) hr) ?_
  show Runs p e below _ (s₁.setTop (mkF m 3 #[.val (.ref o0), .val (.ref o1)] [(.int (0 : Int32)), (.ref o1), (.ref o0)]))
  refine Runs.by (fun _ hr => XS.aloadN X0.here hx rfl (hb hby d1_3) rfl rfl hr) ?_
  show Runs p e below _ (s₁.setTop (mkF m 4 #[.val (.ref o0), .val (.ref o1)] [(.ref o1), (.int (0 : Int32)), (.ref o1), (.ref o0)]))
  obtain ⟨cl1, Ar1, -, S1, N1', -, -⟩ := id V1
  refine Runs.by (fun t hr => X0.arraylength hx (by rw [e0]; exact Ar1.1) (State.isArrayOf_alike hZ.alike Ar1.2.1) (g := (mkF m 4 #[.val (.ref o0), .val (.ref o1)] [(.ref o1), (.int (0 : Int32)), (.ref o1), (.ref o0)])) rfl rfl (hb hby d1_4) t hr) ?_
  rw [len_of S1 N1']
  show Runs p e below _ (s₁.setTop (mkF m 5 #[.val (.ref o0), .val (.ref o1)] [(.int (0 : Int32)), (.int (0 : Int32)), (.ref o1), (.ref o0)]))
  refine Runs.by (fun _ hr => XS.aconstNull X0.here hx rfl (hb hby d1_5) hr) ?_
  show Runs p e below _ (s₁.setTop (mkF m 6 #[.val (.ref o0), .val (.ref o1)] [.null, (.int (0 : Int32)), (.int (0 : Int32)), (.ref o1), (.ref o0)]))
  obtain ⟨_, _, ⟨T2, L2, k2, n2⟩, -, X2, hSq2, hgq2, ⟨Lc2, hQ2, l2, y2, z2, hr2⟩, st2⟩ := X0.specialBackS hx (y := (⟨"java/lang/String", "<init>", "([CIILjava/lang/Void;)V"⟩ : MethodName)) rfl hown (mvT hZ (hw _ (List.mem_of_getElem? (i := 7) rfl))) (mvT hZ (hw _ (List.mem_of_getElem? (i := 8) rfl))) (mvT hZ (hw _ (List.mem_of_getElem? (i := 10) rfl))) (by decide) (own_backSH (W := 0) (rmSV l Z a0 hw [] o0 o1 h0 n0 (Nat.le_trans Z0 K0.1) E0 FV FC g_o0 hEL) hZ (hw _ (List.mem_of_getElem? (i := 10) rfl)) (hw _ (List.mem_of_getElem? (i := 2) rfl)) (by decide) (by decide) hEL hC.1 E0.lt Sf_o0) (g := (mkF m 6 #[.val (.ref o0), .val (.ref o1)] [.null, (.int (0 : Int32)), (.int (0 : Int32)), (.ref o1), (.ref o0)])) rfl (by rw [hml]; rfl) (Steps.refl _) (a := o0) (argsL := [(.ref o1), (.int (0 : Int32)), (.int (0 : Int32)), .null]) (rest := []) (lenOf pd_0 rfl) rfl (by show 2 * 0 + _ ≤ _; exact Nat.le_of_eq rfl) (hb hby d1_6) (fun _ _ => ⟨rfl, e0, (by decide : 0 + 4 ≤ _), (by decide : 0 + 8 ≤ _)⟩)
  dsimp only [Pt.U, Pt.locs, Pt.cells, Pt.slots] at X2 l2 y2 z2 st2 hQ2
  subst l2 y2 z2
  dsimp only [Pt.U, Pt.locs, Pt.cells, Pt.slots] at hSq2 hgq2 hr2
  obtain ⟨X2, hS, hZ, hown⟩ := rebS hS (by rw [e0]; exact hk) X2 hSq2 hgq2 hZ hown
  have hk := Nat.le_refl T2.heap.size
  have Sf_o0__C2 := CHr.safe hr2 E0.lt Sf_o0
  have hC := hC.trans hr2
  obtain ⟨rfl, Nq2, Kq2, f2_0, f2_1, t2, kt2, net2, f2_2, f2_3⟩ := hQ2
  have N2 := Fr.app N0 Nq2
  have K3 : Keep h0 T2.heap [o0] := Keep.trans (ws := [o0]) K0 Kq2 (allS (Or.inl (List.mem_of_getElem? (i := 0) rfl)) all0)
  refine Runs.by (fun _ hr => st2.trans hr) ?_
  show Runs p e below _ (T2.setTop (mkF m 9 #[.val (.ref o0), .val (.ref o1)] []))
  refine Runs.retVW X2 hx hrt hlk rfl hS hk hZ hEL hC (hb hby d1_9) (by decide) (by decide) ?_
  exact ⟨rfl, N2, K3, f2_0, f2_1, t2, kt2, net2, f2_2, f2_3⟩
theorem own_shr0 (z : Int32) : z >>> ((0 : Int32) &&& 31) = z := by
  apply Int32.toInt_inj.mp
  have e : ((0 : Int32) &&& 31) = 0 := by decide
  rw [e]; simp
theorem d9_0 : decode jdk_42_method_152_code 0 = .ok (.getstatic 38, 3) := by decide +kernel
theorem d9_3 : decode jdk_42_method_152_code 3 = .ok (.ifCond .eq 10, 3) := by decide +kernel
theorem d9_6 : decode jdk_42_method_152_code 6 = .ok (.aload_n 0, 1) := by decide +kernel
theorem d9_7 : decode jdk_42_method_152_code 7 = .ok (.getfield 15, 3) := by decide +kernel
theorem d9_10 : decode jdk_42_method_152_code 10 = .ok (.goto 4, 3) := by decide +kernel
theorem d9_13 : decode jdk_42_method_152_code 13 = .ok (.iconst 1, 1) := by decide +kernel
theorem d9_14 : decode jdk_42_method_152_code 14 = .ok (.ireturn, 1) := by decide +kernel
theorem ef_9_2 (m : MethodId) (o0 : Addr) : entryFrame m #[(.ref o0)] 1 = mkF m 0 #[.val (.ref o0)] [] := by first | (simp [entryFrame, mkF, argsToLocals, Value.category]; done) | rfl
def Q_rm9 (Z : State) (o0 : Addr) (gC : Int32) (h0 : Heap) (n0 : Nat) (v : Option Value) (h : Heap) (L : List Loc) : Prop := v = some (.int 0) ∧ Fr n0 L ∧ h = h0
set_option maxRecDepth 65536 in
set_option maxHeartbeats 40000000 in
theorem rm9 (l : Launch) (Z : State) (a0 : Array Value) (hw : ∀ d ∈ tables_1, d.before a0 Z = true) (ws : List Jvm.Cond) (o0 : Addr) (gC : Int32) (h0 : Heap) (n0 : Nat) (Z0 : n0 ≤ h0.size) (SC : Sta Z h0 "java/lang/String" "COMPACT_STRINGS" "Z" (.int gC)) (cC : ¬ (gC = (0 : Int32))) (FC : Fld Z h0 o0 "java/lang/String" "coder" "B" (.int (0 : Int32))) :
    MetFree l (⟨"java/lang/String", "coder", "()B"⟩ : MethodName) (head1 (Jvm.Cond.code (⟨"java/lang/String", "coder", "()B"⟩ : MethodName) jdk_42_method_152_code 1 (some .byte) :: ws) ({ frames := 0, cells := 0, slots := 0, locals := 0 } : Room)) (fun a U => a = #[(.ref o0)] ∧ Z.Warmed39 U.vm ∧ U.heap = h0) (fun _ _ _ _ _ => True) (fun _ U o U' => ∃ v L, o = .returned v ∧ Q_rm9 Z o0 gC h0 n0 v U'.heap L ∧ FrameEnd U o U' L ({ frames := 0, cells := 0, slots := 0, locals := 0 } : Room).cells ({ frames := 0, cells := 0, slots := 0, locals := 0 } : Room).slots) := by
  refine MetFree.of_bodySF (plainFor_of_name pn_java_lang_String) hisR ?_
  intro p e s m args below meth c s₁ Bd hml0 hP hK
  obtain ⟨rfl, hZ, hh⟩ := hP
  have hx := Bd.exec
  have hby := Bd.bytes
  have hlk := BodyLoose.notSynchronized Bd
  have hrt := Bd.returns
  have hml : c.maxLocals = 1 := hml0
  have hown : s.vm.findClass "java/lang/String" = some m.cls := findClass_of_methodNamed Bd.named
  have hnm := (name_of_methodNamed Bd.named Bd.method).1
  have X0 : Stand p l e ({ frames := 0, cells := 0, slots := 0, locals := 0 } : Room) s m #[(.ref o0)] below meth c s₁ [] 0 0 := Stand.of_body Bd
  have e0 : s₁.heap = h0 := by rw [← hh, Bd.state]; rfl
  have N0 := Fr.nil n0
  have K0 : Keep h0 h0 [] := Keep.refl h0 _
  show Runs p e below (QE s (Q_rm9 Z o0 gC h0 n0) ({ frames := 0, cells := 0, slots := 0, locals := 0 } : Room).cells ({ frames := 0, cells := 0, slots := 0, locals := 0 } : Room).slots) (s₁.setTop (entryFrame m #[(.ref o0)] 1))
  rw [ef_9_2 m o0]
  show Runs p e below _ (s₁.setTop (mkF m 0 #[.val (.ref o0)] []))
  obtain ⟨T1, X1, e1, st1⟩ := getS2 X0 hx hZ hown (host := "") (Or.inl (hw _ (List.mem_of_getElem? (i := 14) rfl))) Via.refl e0 SC (g := (mkF m 0 #[.val (.ref o0)] [])) rfl (hb hby d9_0)
  refine Runs.by st1 ?_
  show Runs p e below _ (T1.setTop (mkF m 3 #[.val (.ref o0)] [(.int gC)]))
  have hc3 : ¬ (gC = (0 : Int32)) := cC
  refine Runs.by (fun _ hr => XS.ifNo X1.here hx rfl (hb hby d9_3) rfl ((if0 _ _).trans (feq hc3).1) hr) ?_
  show Runs p e below _ (T1.setTop (mkF m 6 #[.val (.ref o0)] []))
  refine Runs.by (fun _ hr => XS.aloadN X1.here hx rfl (hb hby d9_6) rfl rfl hr) ?_
  show Runs p e below _ (T1.setTop (mkF m 7 #[.val (.ref o0)] [(.ref o0)]))
  obtain ⟨T2, X2, e2, st2⟩ := getF X1 hx hZ hown (host := "") (Or.inl (hw _ (List.mem_of_getElem? (i := 26) rfl))) Via.refl e1 FC (g := (mkF m 7 #[.val (.ref o0)] [(.ref o0)])) rfl rfl (hb hby d9_7)
  refine Runs.by st2 ?_
  show Runs p e below _ (T2.setTop (mkF m 10 #[.val (.ref o0)] [(.int (0 : Int32))]))
  refine Runs.by (fun _ hr => XS.goto X2.here hx rfl (pc0 := 10) (pc' := 14) rfl (hb hby d9_10) (by decide) (by decide) hr) ?_
  show Runs p e below _ (T2.setTop (mkF m 14 #[.val (.ref o0)] [(.int (0 : Int32))]))
  refine Runs.ret X2 hx hrt hlk (Or.inl ⟨rfl, by simp, _, rfl⟩) (by rfl) (hb hby d9_14) (by decide) (by decide) ?_
  rw [e2]
  exact ⟨rfl, N0, rfl⟩
theorem d8_0 : decode jdk_42_method_54_code 0 = .ok (.aload_n 0, 1) := by decide +kernel
theorem d8_1 : decode jdk_42_method_54_code 1 = .ok (.getfield 9, 3) := by decide +kernel
theorem d8_4 : decode jdk_42_method_54_code 4 = .ok (.arraylength, 1) := by decide +kernel
theorem d8_5 : decode jdk_42_method_54_code 5 = .ok (.aload_n 0, 1) := by decide +kernel
theorem d8_6 : decode jdk_42_method_54_code 6 = .ok (.invokevirtual 335, 3) := by decide +kernel
theorem d8_9 : decode jdk_42_method_54_code 9 = .ok (.ishr, 1) := by decide +kernel
theorem d8_10 : decode jdk_42_method_54_code 10 = .ok (.ireturn, 1) := by decide +kernel
theorem ef_8_3 (m : MethodId) (o0 : Addr) : entryFrame m #[(.ref o0)] 1 = mkF m 0 #[.val (.ref o0)] [] := by first | (simp [entryFrame, mkF, argsToLocals, Value.category]; done) | rfl
def Q_rm8 (Z : State) (o0 : Addr) (gC : Int32) (va : Addr) (k : ClassId) (z : Int32) (vs : List Value) (dv : Value) (h0 : Heap) (n0 : Nat) (v : Option Value) (h : Heap) (L : List Loc) : Prop := v = some (.int z) ∧ Fr n0 L ∧ h = h0
theorem pd_1 : parseMethodDescriptor "()B" = some ⟨[], some .byte⟩ := by decide +kernel
set_option maxRecDepth 65536 in
set_option maxHeartbeats 40000000 in
theorem rm8 (l : Launch) (Z : State) (a0 : Array Value) (hw : ∀ d ∈ tables_1, d.before a0 Z = true) (ws : List Jvm.Cond) (o0 : Addr) (gC : Int32) (va : Addr) (k : ClassId) (z : Int32) (vs : List Value) (dv : Value) (h0 : Heap) (n0 : Nat) (Z0 : n0 ≤ h0.size) (E0 : Exa Z h0 o0 "java/lang/String") (SC : Sta Z h0 "java/lang/String" "COMPACT_STRINGS" "Z" (.int gC)) (cC : ¬ (gC = (0 : Int32))) (FC : Fld Z h0 o0 "java/lang/String" "coder" "B" (.int (0 : Int32))) (FV : Fld Z h0 o0 "java/lang/String" "value" "[B" (.ref va)) (V0 : Arv Z h0 va k .byte z vs dv) :
    MetFree l (⟨"java/lang/String", "length", "()I"⟩ : MethodName) (head1 (Jvm.Cond.code (⟨"java/lang/String", "length", "()I"⟩ : MethodName) jdk_42_method_54_code 1 (some .int) :: ws) ({ frames := 1, cells := 0, slots := 0, locals := 14 } : Room)) (fun a U => a = #[(.ref o0)] ∧ Z.Warmed39 U.vm ∧ U.heap = h0) (fun _ _ _ _ _ => True) (fun _ U o U' => ∃ v L, o = .returned v ∧ Q_rm8 Z o0 gC va k z vs dv h0 n0 v U'.heap L ∧ FrameEnd U o U' L ({ frames := 1, cells := 0, slots := 0, locals := 14 } : Room).cells ({ frames := 1, cells := 0, slots := 0, locals := 14 } : Room).slots) := by
  refine MetFree.of_bodySF (plainFor_of_name pn_java_lang_String) hisR ?_
  intro p e s m args below meth c s₁ Bd hml0 hP hK
  obtain ⟨rfl, hZ, hh⟩ := hP
  have hx := Bd.exec
  have hby := Bd.bytes
  have hlk := BodyLoose.notSynchronized Bd
  have hrt := Bd.returns
  have hml : c.maxLocals = 1 := hml0
  have hown : s.vm.findClass "java/lang/String" = some m.cls := findClass_of_methodNamed Bd.named
  have hnm := (name_of_methodNamed Bd.named Bd.method).1
  have X0 : Stand p l e ({ frames := 1, cells := 0, slots := 0, locals := 14 } : Room) s m #[(.ref o0)] below meth c s₁ [] 0 0 := Stand.of_body Bd
  have e0 : s₁.heap = h0 := by rw [← hh, Bd.state]; rfl
  have N0 := Fr.nil n0
  have K0 : Keep h0 h0 [] := Keep.refl h0 _
  show Runs p e below (QE s (Q_rm8 Z o0 gC va k z vs dv h0 n0) ({ frames := 1, cells := 0, slots := 0, locals := 14 } : Room).cells ({ frames := 1, cells := 0, slots := 0, locals := 14 } : Room).slots) (s₁.setTop (entryFrame m #[(.ref o0)] 1))
  rw [ef_8_3 m o0]
  show Runs p e below _ (s₁.setTop (mkF m 0 #[.val (.ref o0)] []))
  refine Runs.by (fun _ hr => XS.aloadN X0.here hx rfl (hb hby d8_0) rfl rfl hr) ?_
  show Runs p e below _ (s₁.setTop (mkF m 1 #[.val (.ref o0)] [(.ref o0)]))
  obtain ⟨T1, X1, e1, st1⟩ := getF X0 hx hZ hown (host := "") (Or.inl (hw _ (List.mem_of_getElem? (i := 28) rfl))) Via.refl e0 FV (g := (mkF m 1 #[.val (.ref o0)] [(.ref o0)])) rfl rfl (hb hby d8_1)
  refine Runs.by st1 ?_
  show Runs p e below _ (T1.setTop (mkF m 4 #[.val (.ref o0)] [(.ref va)]))
  obtain ⟨cl2, Ar2, -, S2, N2', -, -⟩ := id V0
  refine Runs.by (fun t hr => X1.arraylength hx (by rw [e1]; exact Ar2.1) (State.isArrayOf_alike hZ.alike Ar2.2.1) (g := (mkF m 4 #[.val (.ref o0)] [(.ref va)])) rfl rfl (hb hby d8_4) t hr) ?_
  rw [len_of S2 N2']
  show Runs p e below _ (T1.setTop (mkF m 5 #[.val (.ref o0)] [(.int z)]))
  refine Runs.by (fun _ hr => XS.aloadN X1.here hx rfl (hb hby d8_5) rfl rfl hr) ?_
  show Runs p e below _ (T1.setTop (mkF m 6 #[.val (.ref o0)] [(.ref o0), (.int z)]))
  obtain ⟨cq3, kq3, q3a, q3b, q3c⟩ := isOf hZ e1 E0
  obtain ⟨_, _, ⟨T3, L3, k3, n3⟩, -, X3, ⟨Lc3, hQ3, l3, y3, z3⟩, st3⟩ := X1.virtualBack hx (y := (⟨"java/lang/String", "coder", "()B"⟩ : MethodName)) (z := (⟨"java/lang/String", "coder", "()B"⟩ : MethodName)) hown (mvT hZ (hw _ (List.mem_of_getElem? (i := 45) rfl))) (mvT hZ (hw _ (List.mem_of_getElem? (i := 46) rfl))) (notFace_of_selects (args := #[]) (mvT hZ (hw _ (List.mem_of_getElem? (i := 48) rfl)))) (mvT hZ (hw _ (List.mem_of_getElem? (i := 48) rfl))) (mvT hZ (hw _ (List.mem_of_getElem? (i := 47) rfl))) (by decide) (backOf (W := 1) (rm9 l Z a0 hw [] o0 gC h0 n0 (Nat.le_trans Z0 K0.1) SC cC FC) hZ (hw _ (List.mem_of_getElem? (i := 49) rfl)) (hw _ (List.mem_of_getElem? (i := 2) rfl)) (by decide) (by decide)) q3a q3c (g := (mkF m 6 #[.val (.ref o0)] [(.ref o0), (.int z)])) rfl (by rw [hml]; rfl) (Steps.refl _) (argsL := []) (rest := [(.int z)]) (lenOf pd_1 rfl) rfl (by show 2 * 0 + _ ≤ _; exact Nat.le_of_eq rfl) (hb hby d8_6) (fun _ _ => ⟨rfl, e1, (by decide : 0 + 0 ≤ _), (by decide : 0 + 0 ≤ _)⟩)
  dsimp only [Pt.U, Pt.locs, Pt.cells, Pt.slots] at X3 l3 y3 z3 st3 hQ3
  subst l3 y3 z3
  obtain ⟨rfl, Nq3, eq3⟩ := hQ3
  have N3 := Fr.app N0 Nq3
  refine Runs.by (fun _ hr => st3.trans hr) ?_
  show Runs p e below _ (T3.setTop (mkF m 9 #[.val (.ref o0)] [(.int (0 : Int32)), (.int z)]))
  refine Runs.by (fun _ hr => XS.ishr X3.here hx rfl (hb hby d8_9) rfl hr) ?_
  show Runs p e below _ (T3.setTop (mkF m 10 #[.val (.ref o0)] [(.int (z >>> ((0 : Int32) &&& 31)))]))
  refine Runs.ret X3 hx hrt hlk (Or.inl ⟨rfl, by simp, _, rfl⟩) rfl (hb hby d8_10) (by decide) (by decide) ?_
  rw [eq3]
  exact ⟨by rw [own_shr0], N3, rfl⟩
theorem d11_0 : decode jdk_42_method_154_code 0 = .ok (.getstatic 38, 3) := by decide +kernel
theorem d11_3 : decode jdk_42_method_154_code 3 = .ok (.ifCond .eq 14, 3) := by decide +kernel
theorem d11_6 : decode jdk_42_method_154_code 6 = .ok (.aload_n 0, 1) := by decide +kernel
theorem d11_7 : decode jdk_42_method_154_code 7 = .ok (.getfield 15, 3) := by decide +kernel
theorem d11_10 : decode jdk_42_method_154_code 10 = .ok (.ifCond .ne 7, 3) := by decide +kernel
theorem d11_13 : decode jdk_42_method_154_code 13 = .ok (.iconst 1, 1) := by decide +kernel
theorem d11_14 : decode jdk_42_method_154_code 14 = .ok (.goto 4, 3) := by decide +kernel
theorem d11_17 : decode jdk_42_method_154_code 17 = .ok (.iconst 0, 1) := by decide +kernel
theorem d11_18 : decode jdk_42_method_154_code 18 = .ok (.ireturn, 1) := by decide +kernel
theorem ef_11_4 (m : MethodId) (o0 : Addr) : entryFrame m #[(.ref o0)] 1 = mkF m 0 #[.val (.ref o0)] [] := by first | (simp [entryFrame, mkF, argsToLocals, Value.category]; done) | rfl
def Q_rm11 (Z : State) (o0 : Addr) (gC : Int32) (h0 : Heap) (n0 : Nat) (v : Option Value) (h : Heap) (L : List Loc) : Prop := v = some (.int 1) ∧ Fr n0 L ∧ h = h0
set_option maxRecDepth 65536 in
set_option maxHeartbeats 40000000 in
theorem rm11 (l : Launch) (Z : State) (a0 : Array Value) (hw : ∀ d ∈ tables_1, d.before a0 Z = true) (ws : List Jvm.Cond) (o0 : Addr) (gC : Int32) (h0 : Heap) (n0 : Nat) (Z0 : n0 ≤ h0.size) (SC : Sta Z h0 "java/lang/String" "COMPACT_STRINGS" "Z" (.int gC)) (cC : ¬ (gC = (0 : Int32))) (FC : Fld Z h0 o0 "java/lang/String" "coder" "B" (.int (0 : Int32))) :
    MetFree l (⟨"java/lang/String", "isLatin1", "()Z"⟩ : MethodName) (head1 (Jvm.Cond.code (⟨"java/lang/String", "isLatin1", "()Z"⟩ : MethodName) jdk_42_method_154_code 1 (some .boolean) :: ws) ({ frames := 0, cells := 0, slots := 0, locals := 0 } : Room)) (fun a U => a = #[(.ref o0)] ∧ Z.Warmed39 U.vm ∧ U.heap = h0) (fun _ _ _ _ _ => True) (fun _ U o U' => ∃ v L, o = .returned v ∧ Q_rm11 Z o0 gC h0 n0 v U'.heap L ∧ FrameEnd U o U' L ({ frames := 0, cells := 0, slots := 0, locals := 0 } : Room).cells ({ frames := 0, cells := 0, slots := 0, locals := 0 } : Room).slots) := by
  refine MetFree.of_bodySF (plainFor_of_name pn_java_lang_String) hisR ?_
  intro p e s m args below meth c s₁ Bd hml0 hP hK
  obtain ⟨rfl, hZ, hh⟩ := hP
  have hx := Bd.exec
  have hby := Bd.bytes
  have hlk := BodyLoose.notSynchronized Bd
  have hrt := Bd.returns
  have hml : c.maxLocals = 1 := hml0
  have hown : s.vm.findClass "java/lang/String" = some m.cls := findClass_of_methodNamed Bd.named
  have hnm := (name_of_methodNamed Bd.named Bd.method).1
  have X0 : Stand p l e ({ frames := 0, cells := 0, slots := 0, locals := 0 } : Room) s m #[(.ref o0)] below meth c s₁ [] 0 0 := Stand.of_body Bd
  have e0 : s₁.heap = h0 := by rw [← hh, Bd.state]; rfl
  have N0 := Fr.nil n0
  have K0 : Keep h0 h0 [] := Keep.refl h0 _
  show Runs p e below (QE s (Q_rm11 Z o0 gC h0 n0) ({ frames := 0, cells := 0, slots := 0, locals := 0 } : Room).cells ({ frames := 0, cells := 0, slots := 0, locals := 0 } : Room).slots) (s₁.setTop (entryFrame m #[(.ref o0)] 1))
  rw [ef_11_4 m o0]
  show Runs p e below _ (s₁.setTop (mkF m 0 #[.val (.ref o0)] []))
  obtain ⟨T1, X1, e1, st1⟩ := getS2 X0 hx hZ hown (host := "") (Or.inl (hw _ (List.mem_of_getElem? (i := 14) rfl))) Via.refl e0 SC (g := (mkF m 0 #[.val (.ref o0)] [])) rfl (hb hby d11_0)
  refine Runs.by st1 ?_
  show Runs p e below _ (T1.setTop (mkF m 3 #[.val (.ref o0)] [(.int gC)]))
  have hc3 : ¬ (gC = (0 : Int32)) := cC
  refine Runs.by (fun _ hr => XS.ifNo X1.here hx rfl (hb hby d11_3) rfl ((if0 _ _).trans (feq hc3).1) hr) ?_
  show Runs p e below _ (T1.setTop (mkF m 6 #[.val (.ref o0)] []))
  refine Runs.by (fun _ hr => XS.aloadN X1.here hx rfl (hb hby d11_6) rfl rfl hr) ?_
  show Runs p e below _ (T1.setTop (mkF m 7 #[.val (.ref o0)] [(.ref o0)]))
  obtain ⟨T2, X2, e2, st2⟩ := getF X1 hx hZ hown (host := "") (Or.inl (hw _ (List.mem_of_getElem? (i := 26) rfl))) Via.refl e1 FC (g := (mkF m 7 #[.val (.ref o0)] [(.ref o0)])) rfl rfl (hb hby d11_7)
  refine Runs.by st2 ?_
  show Runs p e below _ (T2.setTop (mkF m 10 #[.val (.ref o0)] [(.int (0 : Int32))]))
  have hc10 : (0 : Int32) = (0 : Int32) := (by decide)
  refine Runs.by (fun _ hr => XS.ifNo X2.here hx rfl (hb hby d11_10) rfl ((if0 _ _).trans (teq hc10).2) hr) ?_
  show Runs p e below _ (T2.setTop (mkF m 13 #[.val (.ref o0)] []))
  refine Runs.by (fun _ hr => XS.iconst X2.here hx rfl (hb hby d11_13) hr) ?_
  show Runs p e below _ (T2.setTop (mkF m 14 #[.val (.ref o0)] [(.int (1 : Int32))]))
  refine Runs.by (fun _ hr => XS.goto X2.here hx rfl (pc0 := 14) (pc' := 18) rfl (hb hby d11_14) (by decide) (by decide) hr) ?_
  show Runs p e below _ (T2.setTop (mkF m 18 #[.val (.ref o0)] [(.int (1 : Int32))]))
  refine Runs.ret X2 hx hrt hlk (Or.inl ⟨rfl, by simp, _, rfl⟩) (by rfl) (hb hby d11_18) (by decide) (by decide) ?_
  rw [e2]
  exact ⟨rfl, N0, rfl⟩
theorem d14_0 : decode jdk_41_method_11_code 0 = .ok (.iload_n 0, 1) := by decide +kernel
theorem d14_1 : decode jdk_41_method_11_code 1 = .ok (.ifCond .lt 8, 3) := by decide +kernel
theorem d14_4 : decode jdk_41_method_11_code 4 = .ok (.iload_n 0, 1) := by decide +kernel
theorem d14_5 : decode jdk_41_method_11_code 5 = .ok (.iload_n 1, 1) := by decide +kernel
theorem d14_6 : decode jdk_41_method_11_code 6 = .ok (.if_icmp .lt 10, 3) := by decide +kernel
theorem d14_16 : decode jdk_41_method_11_code 16 = .ok (.iload_n 0, 1) := by decide +kernel
theorem d14_17 : decode jdk_41_method_11_code 17 = .ok (.ireturn, 1) := by decide +kernel
theorem ef_14_5 (m : MethodId) (p0 : Int32) (p1 : Int32) (vG : Value) (hvG : vG.isRef = true) : entryFrame m #[(.int p0), (.int p1), vG] 3 = mkF m 0 #[.val (.int p0), .val (.int p1), .val vG] [] := by rcases ref_cases hvG with rfl | ⟨_, rfl⟩ <;> first | (simp [entryFrame, mkF, argsToLocals, Value.category]; done) | rfl
theorem pn_jdk_internal_util_Preconditions : plainName "jdk/internal/util/Preconditions" = true := by first | (simp [plainName, overriddenIn]; done) | decide +kernel
def Q_rm14 (Z : State) (p0 : Int32) (p1 : Int32) (vG : Value)  (h0 : Heap) (n0 : Nat) (v : Option Value) (h : Heap) (L : List Loc) : Prop := v = some (.int p0) ∧ Fr n0 L ∧ h = h0
set_option maxRecDepth 65536 in
set_option maxHeartbeats 40000000 in
theorem rm14 (l : Launch) (Z : State) (a0 : Array Value) (hw : ∀ d ∈ tables_1, d.before a0 Z = true) (ws : List Jvm.Cond) (p0 : Int32) (p1 : Int32) (vG : Value)  (h0 : Heap) (n0 : Nat) (Z0 : n0 ≤ h0.size) (hvG : vG.isRef = true) (hin : ¬ (p0 < 0) ∧ p0 < p1) :
    MetFree l (⟨"jdk/internal/util/Preconditions", "checkIndex", "(IILjava/util/function/BiFunction;)I"⟩ : MethodName) (head1 (Jvm.Cond.code (⟨"jdk/internal/util/Preconditions", "checkIndex", "(IILjava/util/function/BiFunction;)I"⟩ : MethodName) jdk_41_method_11_code 3 (some .int) :: ws) ({ frames := 0, cells := 0, slots := 0, locals := 0 } : Room)) (fun a U => a = #[(.int p0), (.int p1), vG] ∧ Z.Warmed39 U.vm ∧ U.heap = h0) (fun _ _ _ _ _ => True) (fun _ U o U' => ∃ v L, o = .returned v ∧ Q_rm14 Z p0 p1 vG h0 n0 v U'.heap L ∧ FrameEnd U o U' L ({ frames := 0, cells := 0, slots := 0, locals := 0 } : Room).cells ({ frames := 0, cells := 0, slots := 0, locals := 0 } : Room).slots) := by
  refine MetFree.of_bodySF (plainFor_of_name pn_jdk_internal_util_Preconditions) hisR ?_
  intro p e s m args below meth c s₁ Bd hml0 hP hK
  obtain ⟨rfl, hZ, hh⟩ := hP
  have hx := Bd.exec
  have hby := Bd.bytes
  have hlk := BodyLoose.notSynchronized Bd
  have hrt := Bd.returns
  have hml : c.maxLocals = 3 := hml0
  have hown : s.vm.findClass "jdk/internal/util/Preconditions" = some m.cls := findClass_of_methodNamed Bd.named
  have hnm := (name_of_methodNamed Bd.named Bd.method).1
  have X0 : Stand p l e ({ frames := 0, cells := 0, slots := 0, locals := 0 } : Room) s m #[(.int p0), (.int p1), vG] below meth c s₁ [] 0 0 := Stand.of_body Bd
  have e0 : s₁.heap = h0 := by rw [← hh, Bd.state]; rfl
  have N0 := Fr.nil n0
  have K0 : Keep h0 h0 [] := Keep.refl h0 _
  show Runs p e below (QE s (Q_rm14 Z p0 p1 vG h0 n0) ({ frames := 0, cells := 0, slots := 0, locals := 0 } : Room).cells ({ frames := 0, cells := 0, slots := 0, locals := 0 } : Room).slots) (s₁.setTop (entryFrame m #[(.int p0), (.int p1), vG] 3))
  rw [ef_14_5 m p0 p1 vG hvG]
  show Runs p e below _ (s₁.setTop (mkF m 0 #[.val (.int p0), .val (.int p1), .val vG] []))
  refine Runs.by (fun _ hr => XS.iloadN X0.here hx rfl (hb hby d14_0) rfl  hr) ?_
  show Runs p e below _ (s₁.setTop (mkF m 1 #[.val (.int p0), .val (.int p1), .val vG] [(.int p0)]))
  have hc1 : ¬ (p0 < (0 : Int32)) := hin.1
  refine Runs.by (fun _ hr => XS.ifNo X0.here hx rfl (hb hby d14_1) rfl ((if0 _ _).trans (flt hc1).1) hr) ?_
  show Runs p e below _ (s₁.setTop (mkF m 4 #[.val (.int p0), .val (.int p1), .val vG] []))
  refine Runs.by (fun _ hr => XS.iloadN X0.here hx rfl (hb hby d14_4) rfl  hr) ?_
  show Runs p e below _ (s₁.setTop (mkF m 5 #[.val (.int p0), .val (.int p1), .val vG] [(.int p0)]))
  refine Runs.by (fun _ hr => XS.iloadN X0.here hx rfl (hb hby d14_5) rfl  hr) ?_
  show Runs p e below _ (s₁.setTop (mkF m 6 #[.val (.int p0), .val (.int p1), .val vG] [(.int p1), (.int p0)]))
  have hc6 : p0 < p1 := hin.2
  refine Runs.by (fun _ hr => XS.icmpYes X0.here hx rfl (pc0 := 6) (pc' := 16) rfl (hb hby d14_6) rfl (tlt hc6).1 (by decide) (by decide) hr) ?_
  show Runs p e below _ (s₁.setTop (mkF m 16 #[.val (.int p0), .val (.int p1), .val vG] []))
  refine Runs.by (fun _ hr => XS.iloadN X0.here hx rfl (hb hby d14_16) rfl  hr) ?_
  show Runs p e below _ (s₁.setTop (mkF m 17 #[.val (.int p0), .val (.int p1), .val vG] [(.int p0)]))
  refine Runs.ret X0 hx hrt hlk (Or.inl ⟨rfl, by simp, _, rfl⟩) rfl (hb hby d14_17) (by decide) (by decide) ?_
  rw [e0]
  exact ⟨rfl, N0, rfl⟩
theorem d13_0 : decode jdk_42_method_155_code 0 = .ok (.iload_n 0, 1) := by decide +kernel
theorem d13_1 : decode jdk_42_method_155_code 1 = .ok (.iload_n 1, 1) := by decide +kernel
theorem d13_2 : decode jdk_42_method_155_code 2 = .ok (.getstatic 1053, 3) := by decide +kernel
theorem d13_5 : decode jdk_42_method_155_code 5 = .ok (.invokestatic 1059, 3) := by decide +kernel
theorem d13_8 : decode jdk_42_method_155_code 8 = .ok (.pop, 1) := by decide +kernel
theorem d13_9 : decode jdk_42_method_155_code 9 = .ok (.return_, 1) := by decide +kernel
theorem ef_13_6 (m : MethodId) (p0 : Int32) (p1 : Int32) : entryFrame m #[(.int p0), (.int p1)] 2 = mkF m 0 #[.val (.int p0), .val (.int p1)] [] := by first | (simp [entryFrame, mkF, argsToLocals, Value.category]; done) | rfl
def Q_rm13 (Z : State) (p0 : Int32) (p1 : Int32) (vG : Value) (h0 : Heap) (n0 : Nat) (v : Option Value) (h : Heap) (L : List Loc) : Prop := v = none ∧ Fr n0 L ∧ h = h0
theorem pd_2 : parseMethodDescriptor "(IILjava/util/function/BiFunction;)I" = some ⟨[.int, .int, (.object "java/util/function/BiFunction")], some .int⟩ := by decide +kernel
set_option maxRecDepth 65536 in
set_option maxHeartbeats 40000000 in
theorem rm13 (l : Launch) (Z : State) (a0 : Array Value) (hw : ∀ d ∈ tables_1, d.before a0 Z = true) (ws : List Jvm.Cond) (p0 : Int32) (p1 : Int32) (vG : Value) (h0 : Heap) (n0 : Nat) (Z0 : n0 ≤ h0.size) (hvG : vG.isRef = true) (hin : ¬ (p0 < 0) ∧ p0 < p1) (SG : Sta Z h0 "jdk/internal/util/Preconditions" "SIOOBE_FORMATTER" "Ljava/util/function/BiFunction;" vG) :
    MetFree l (⟨"java/lang/String", "checkIndex", "(II)V"⟩ : MethodName) (head1 (Jvm.Cond.code (⟨"java/lang/String", "checkIndex", "(II)V"⟩ : MethodName) jdk_42_method_155_code 2 none :: ws) ({ frames := 1, cells := 0, slots := 0, locals := 14 } : Room)) (fun a U => a = #[(.int p0), (.int p1)] ∧ Z.Warmed39 U.vm ∧ U.heap = h0) (fun _ _ _ _ _ => True) (fun _ U o U' => ∃ v L, o = .returned v ∧ Q_rm13 Z p0 p1 vG h0 n0 v U'.heap L ∧ FrameEnd U o U' L ({ frames := 1, cells := 0, slots := 0, locals := 14 } : Room).cells ({ frames := 1, cells := 0, slots := 0, locals := 14 } : Room).slots) := by
  refine MetFree.of_bodySF (plainFor_of_name pn_java_lang_String) hisR ?_
  intro p e s m args below meth c s₁ Bd hml0 hP hK
  obtain ⟨rfl, hZ, hh⟩ := hP
  have hx := Bd.exec
  have hby := Bd.bytes
  have hlk := BodyLoose.notSynchronized Bd
  have hrt := Bd.returns
  have hml : c.maxLocals = 2 := hml0
  have hown : s.vm.findClass "java/lang/String" = some m.cls := findClass_of_methodNamed Bd.named
  have hnm := (name_of_methodNamed Bd.named Bd.method).1
  have X0 : Stand p l e ({ frames := 1, cells := 0, slots := 0, locals := 14 } : Room) s m #[(.int p0), (.int p1)] below meth c s₁ [] 0 0 := Stand.of_body Bd
  have e0 : s₁.heap = h0 := by rw [← hh, Bd.state]; rfl
  have N0 := Fr.nil n0
  have K0 : Keep h0 h0 [] := Keep.refl h0 _
  show Runs p e below (QE s (Q_rm13 Z p0 p1 vG h0 n0) ({ frames := 1, cells := 0, slots := 0, locals := 14 } : Room).cells ({ frames := 1, cells := 0, slots := 0, locals := 14 } : Room).slots) (s₁.setTop (entryFrame m #[(.int p0), (.int p1)] 2))
  rw [ef_13_6 m p0 p1]
  show Runs p e below _ (s₁.setTop (mkF m 0 #[.val (.int p0), .val (.int p1)] []))
  refine Runs.by (fun _ hr => XS.iloadN X0.here hx rfl (hb hby d13_0) rfl  hr) ?_
  show Runs p e below _ (s₁.setTop (mkF m 1 #[.val (.int p0), .val (.int p1)] [(.int p0)]))
  refine Runs.by (fun _ hr => XS.iloadN X0.here hx rfl (hb hby d13_1) rfl  hr) ?_
  show Runs p e below _ (s₁.setTop (mkF m 2 #[.val (.int p0), .val (.int p1)] [(.int p1), (.int p0)]))
  obtain ⟨T1, X1, e1, st1⟩ := getS2 X0 hx hZ hown (host := "") (Or.inl (hw _ (List.mem_of_getElem? (i := 67) rfl))) Via.refl e0 SG (g := (mkF m 2 #[.val (.int p0), .val (.int p1)] [(.int p1), (.int p0)])) rfl (hb hby d13_2)
  refine Runs.by st1 ?_
  show Runs p e below _ (T1.setTop (mkF m 5 #[.val (.int p0), .val (.int p1)] [vG, (.int p1), (.int p0)]))
  obtain ⟨_, _, ⟨T2, L2, k2, n2⟩, -, X2, ⟨Lc2, hQ2, l2, y2, z2⟩, st2⟩ := Jvm.LawKit.callS X1 hx (y := (⟨"jdk/internal/util/Preconditions", "checkIndex", "(IILjava/util/function/BiFunction;)I"⟩ : MethodName)) hown (mvT hZ (hw _ (List.mem_of_getElem? (i := 69) rfl))) (mvT hZ (hw _ (List.mem_of_getElem? (i := 70) rfl))) (mvT hZ (hw _ (List.mem_of_getElem? (i := 68) rfl))) (mvT hZ (hw _ (List.mem_of_getElem? (i := 71) rfl))) (by decide) (backOf (W := 0) (rm14 l Z a0 hw [] p0 p1 vG  h0 n0 (Nat.le_trans Z0 K0.1) hvG hin) hZ (hw _ (List.mem_of_getElem? (i := 71) rfl)) (hw _ (List.mem_of_getElem? (i := 68) rfl)) (by decide) (by decide)) (g := (mkF m 5 #[.val (.int p0), .val (.int p1)] [vG, (.int p1), (.int p0)])) rfl (by rw [hml]; rfl) (argsL := [(.int p0), (.int p1), vG]) (rest := []) (lenOf pd_2 rfl) rfl (by show 2 * 0 + _ ≤ _; exact Nat.le_of_eq rfl) (hb hby d13_5) (fun _ _ => ⟨rfl, e1, (by decide : 0 + 0 ≤ _), (by decide : 0 + 0 ≤ _)⟩)
  dsimp only [Pt.U, Pt.locs, Pt.cells, Pt.slots] at X2 l2 y2 z2 st2 hQ2
  subst l2 y2 z2
  obtain ⟨rfl, Nq2, eq2⟩ := hQ2
  have N2 := Fr.app N0 Nq2
  refine Runs.by (fun t hr => st2 t hr) ?_
  show Runs p e below _ (T2.setTop (mkF m 8 #[.val (.int p0), .val (.int p1)] [(.int p0)]))
  refine Runs.by (fun _ hr => XS.pop X2.here hx rfl (hb hby d13_8) rfl rfl hr) ?_
  show Runs p e below _ (T2.setTop (mkF m 9 #[.val (.int p0), .val (.int p1)] []))
  refine Runs.retV X2 hx hrt hlk (hb hby d13_9) (by decide) (by decide) ?_
  rw [eq2]
  exact ⟨rfl, N2, rfl⟩
theorem d12_0 : decode jdk_43_method_2_code 0 = .ok (.iload_n 1, 1) := by decide +kernel
theorem d12_1 : decode jdk_43_method_2_code 1 = .ok (.aload_n 0, 1) := by decide +kernel
theorem d12_2 : decode jdk_43_method_2_code 2 = .ok (.arraylength, 1) := by decide +kernel
theorem d12_3 : decode jdk_43_method_2_code 3 = .ok (.invokestatic 9, 3) := by decide +kernel
theorem d12_6 : decode jdk_43_method_2_code 6 = .ok (.aload_n 0, 1) := by decide +kernel
theorem d12_7 : decode jdk_43_method_2_code 7 = .ok (.iload_n 1, 1) := by decide +kernel
theorem d12_8 : decode jdk_43_method_2_code 8 = .ok (.baload, 1) := by decide +kernel
theorem d12_9 : decode jdk_43_method_2_code 9 = .ok (.sipush 255, 3) := by decide +kernel
theorem d12_12 : decode jdk_43_method_2_code 12 = .ok (.iand, 1) := by decide +kernel
theorem d12_13 : decode jdk_43_method_2_code 13 = .ok (.i2c, 1) := by decide +kernel
theorem d12_14 : decode jdk_43_method_2_code 14 = .ok (.ireturn, 1) := by decide +kernel
theorem ef_12_7 (m : MethodId) (o0 : Addr) (p1 : Int32) : entryFrame m #[(.ref o0), (.int p1)] 2 = mkF m 0 #[.val (.ref o0), .val (.int p1)] [] := by first | (simp [entryFrame, mkF, argsToLocals, Value.category]; done) | rfl
theorem pn_java_lang_StringLatin1 : plainName "java/lang/StringLatin1" = true := by first | (simp [plainName, overriddenIn]; done) | decide +kernel
def Q_rm12 (Z : State) (o0 : Addr) (p1 : Int32) (vG : Value) (k : ClassId) (z : Int32) (vs : List Value) (dv : Value) (bb : Int32) (h0 : Heap) (n0 : Nat) (v : Option Value) (h : Heap) (L : List Loc) : Prop := v = some (.int ((bb &&& (255 : Int32)).toUInt32.toUInt16.toUInt32.toInt32)) ∧ Fr n0 L ∧ h = h0
theorem pd_3 : parseMethodDescriptor "(II)V" = some ⟨[.int, .int], none⟩ := by decide +kernel
set_option maxRecDepth 65536 in
set_option maxHeartbeats 40000000 in
theorem rm12 (l : Launch) (Z : State) (a0 : Array Value) (hw : ∀ d ∈ tables_1, d.before a0 Z = true) (ws : List Jvm.Cond) (o0 : Addr) (p1 : Int32) (vG : Value) (k : ClassId) (z : Int32) (vs : List Value) (dv : Value) (bb : Int32) (h0 : Heap) (n0 : Nat) (Z0 : n0 ≤ h0.size) (hvG : vG.isRef = true) (hin : ¬ (p1 < 0) ∧ p1 < z) (SG : Sta Z h0 "jdk/internal/util/Preconditions" "SIOOBE_FORMATTER" "Ljava/util/function/BiFunction;" vG) (V0 : Arv Z h0 o0 k .byte z vs dv) (hat : vs.getD p1.toNatClampNeg dv = .int bb) :
    MetFree l (⟨"java/lang/StringLatin1", "charAt", "([BI)C"⟩ : MethodName) (head1 (Jvm.Cond.code (⟨"java/lang/StringLatin1", "charAt", "([BI)C"⟩ : MethodName) jdk_43_method_2_code 2 (some .char) :: ws) ({ frames := 2, cells := 0, slots := 0, locals := 27 } : Room)) (fun a U => a = #[(.ref o0), (.int p1)] ∧ Z.Warmed39 U.vm ∧ U.heap = h0) (fun _ _ _ _ _ => True) (fun _ U o U' => ∃ v L, o = .returned v ∧ Q_rm12 Z o0 p1 vG k z vs dv bb h0 n0 v U'.heap L ∧ FrameEnd U o U' L ({ frames := 2, cells := 0, slots := 0, locals := 27 } : Room).cells ({ frames := 2, cells := 0, slots := 0, locals := 27 } : Room).slots) := by
  refine MetFree.of_bodySF (plainFor_of_name pn_java_lang_StringLatin1) hisR ?_
  intro p e s m args below meth c s₁ Bd hml0 hP hK
  obtain ⟨rfl, hZ, hh⟩ := hP
  have hx := Bd.exec
  have hby := Bd.bytes
  have hlk := BodyLoose.notSynchronized Bd
  have hrt := Bd.returns
  have hml : c.maxLocals = 2 := hml0
  have hown : s.vm.findClass "java/lang/StringLatin1" = some m.cls := findClass_of_methodNamed Bd.named
  have hnm := (name_of_methodNamed Bd.named Bd.method).1
  have X0 : Stand p l e ({ frames := 2, cells := 0, slots := 0, locals := 27 } : Room) s m #[(.ref o0), (.int p1)] below meth c s₁ [] 0 0 := Stand.of_body Bd
  have e0 : s₁.heap = h0 := by rw [← hh, Bd.state]; rfl
  have N0 := Fr.nil n0
  have K0 : Keep h0 h0 [] := Keep.refl h0 _
  show Runs p e below (QE s (Q_rm12 Z o0 p1 vG k z vs dv bb h0 n0) ({ frames := 2, cells := 0, slots := 0, locals := 27 } : Room).cells ({ frames := 2, cells := 0, slots := 0, locals := 27 } : Room).slots) (s₁.setTop (entryFrame m #[(.ref o0), (.int p1)] 2))
  rw [ef_12_7 m o0 p1]
  show Runs p e below _ (s₁.setTop (mkF m 0 #[.val (.ref o0), .val (.int p1)] []))
  refine Runs.by (fun _ hr => XS.iloadN X0.here hx rfl (hb hby d12_0) rfl  hr) ?_
  show Runs p e below _ (s₁.setTop (mkF m 1 #[.val (.ref o0), .val (.int p1)] [(.int p1)]))
  refine Runs.by (fun _ hr => XS.aloadN X0.here hx rfl (hb hby d12_1) rfl rfl hr) ?_
  show Runs p e below _ (s₁.setTop (mkF m 2 #[.val (.ref o0), .val (.int p1)] [(.ref o0), (.int p1)]))
  obtain ⟨cl1, Ar1, -, S1, N1', -, -⟩ := id V0
  refine Runs.by (fun t hr => X0.arraylength hx (by rw [e0]; exact Ar1.1) (State.isArrayOf_alike hZ.alike Ar1.2.1) (g := (mkF m 2 #[.val (.ref o0), .val (.int p1)] [(.ref o0), (.int p1)])) rfl rfl (hb hby d12_2) t hr) ?_
  rw [len_of S1 N1']
  show Runs p e below _ (s₁.setTop (mkF m 3 #[.val (.ref o0), .val (.int p1)] [(.int z), (.int p1)]))
  obtain ⟨_, _, ⟨T2, L2, k2, n2⟩, -, X2, ⟨Lc2, hQ2, l2, y2, z2⟩, st2⟩ := Jvm.LawKit.callS X0 hx (y := (⟨"java/lang/String", "checkIndex", "(II)V"⟩ : MethodName)) hown (mvT hZ (hw _ (List.mem_of_getElem? (i := 64) rfl))) (mvT hZ (hw _ (List.mem_of_getElem? (i := 65) rfl))) (mvT hZ (hw _ (List.mem_of_getElem? (i := 2) rfl))) (mvT hZ (hw _ (List.mem_of_getElem? (i := 66) rfl))) (by decide) (backOf (W := 0) (rm13 l Z a0 hw [] p1 z vG h0 n0 (Nat.le_trans Z0 K0.1) hvG hin SG) hZ (hw _ (List.mem_of_getElem? (i := 66) rfl)) (hw _ (List.mem_of_getElem? (i := 2) rfl)) (by decide) (by decide)) (g := (mkF m 3 #[.val (.ref o0), .val (.int p1)] [(.int z), (.int p1)])) rfl (by rw [hml]; rfl) (argsL := [(.int p1), (.int z)]) (rest := []) (lenOf pd_3 rfl) rfl (by show 2 * 0 + _ ≤ _; exact Nat.le_of_eq rfl) (hb hby d12_3) (fun _ _ => ⟨rfl, e0, (by decide : 0 + 0 ≤ _), (by decide : 0 + 0 ≤ _)⟩)
  dsimp only [Pt.U, Pt.locs, Pt.cells, Pt.slots] at X2 l2 y2 z2 st2 hQ2
  subst l2 y2 z2
  obtain ⟨rfl, Nq2, eq2⟩ := hQ2
  have N2 := Fr.app N0 Nq2
  refine Runs.by (fun t hr => st2 t hr) ?_
  show Runs p e below _ (T2.setTop (mkF m 6 #[.val (.ref o0), .val (.int p1)] []))
  refine Runs.by (fun _ hr => XS.aloadN X2.here hx rfl (hb hby d12_6) rfl rfl hr) ?_
  show Runs p e below _ (T2.setTop (mkF m 7 #[.val (.ref o0), .val (.int p1)] [(.ref o0)]))
  refine Runs.by (fun _ hr => XS.iloadN X2.here hx rfl (hb hby d12_7) rfl  hr) ?_
  show Runs p e below _ (T2.setTop (mkF m 8 #[.val (.ref o0), .val (.int p1)] [(.int p1), (.ref o0)]))
  obtain ⟨cl3, Ar3, -, S3, N3', H3, -⟩ := id V0
  have hin3 : ¬ (p1 < 0 ∨ cl3.slots.size ≤ (p1).toNatClampNeg) := inb_of S3 hin
  have hat3 := H3.at hin3 (v := (.int bb)) hat
  refine Runs.by (fun t hr => X2.baloadBytes hx (j := p1) (v := (.int bb)) (by rw [eq2]; exact Ar3.1) (State.isArrayOf_alike hZ.alike Ar3.2.1) Ar3.2.2 hin3 hat3 (g := (mkF m 8 #[.val (.ref o0), .val (.int p1)] [(.int p1), (.ref o0)])) rfl rfl (hb hby d12_8) t hr) ?_
  show Runs p e below _ (T2.setTop (mkF m 9 #[.val (.ref o0), .val (.int p1)] [(.int bb)]))
  refine Runs.by (fun _ hr => XS.sipush X2.here hx rfl (hb hby d12_9) hr) ?_
  show Runs p e below _ (T2.setTop (mkF m 12 #[.val (.ref o0), .val (.int p1)] [(.int (255 : Int32)), (.int bb)]))
  refine Runs.by (fun _ hr => XS.iand X2.here hx rfl (hb hby d12_12) rfl hr) ?_
  show Runs p e below _ (T2.setTop (mkF m 13 #[.val (.ref o0), .val (.int p1)] [(.int (bb &&& (255 : Int32)))]))
  refine Runs.by (fun _ hr => XS.i2c X2.here hx rfl (hb hby d12_13) rfl hr) ?_
  show Runs p e below _ (T2.setTop (mkF m 14 #[.val (.ref o0), .val (.int p1)] [(.int ((bb &&& (255 : Int32)).toUInt32.toUInt16.toUInt32.toInt32))]))
  refine Runs.ret X2 hx hrt hlk (Or.inl ⟨rfl, by simp, _, rfl⟩) (Jvm.Free.XT.narrow_c _) (hb hby d12_14) (by decide) (by decide) ?_
  rw [eq2]
  exact ⟨rfl, N2, rfl⟩
theorem d10_0 : decode jdk_42_method_56_code 0 = .ok (.aload_n 0, 1) := by decide +kernel
theorem d10_1 : decode jdk_42_method_56_code 1 = .ok (.invokevirtual 492, 3) := by decide +kernel
theorem d10_4 : decode jdk_42_method_56_code 4 = .ok (.ifCond .eq 12, 3) := by decide +kernel
theorem d10_7 : decode jdk_42_method_56_code 7 = .ok (.aload_n 0, 1) := by decide +kernel
theorem d10_8 : decode jdk_42_method_56_code 8 = .ok (.getfield 9, 3) := by decide +kernel
theorem d10_11 : decode jdk_42_method_56_code 11 = .ok (.iload_n 1, 1) := by decide +kernel
theorem d10_12 : decode jdk_42_method_56_code 12 = .ok (.invokestatic 495, 3) := by decide +kernel
theorem d10_15 : decode jdk_42_method_56_code 15 = .ok (.ireturn, 1) := by decide +kernel
theorem ef_10_8 (m : MethodId) (o0 : Addr) (p1 : Int32) : entryFrame m #[(.ref o0), (.int p1)] 2 = mkF m 0 #[.val (.ref o0), .val (.int p1)] [] := by first | (simp [entryFrame, mkF, argsToLocals, Value.category]; done) | rfl
def Q_rm10 (Z : State) (o0 : Addr) (p1 : Int32) (gC : Int32) (vG : Value) (va : Addr) (k : ClassId) (z : Int32) (vs : List Value) (dv : Value) (bb cc : Int32) (h0 : Heap) (n0 : Nat) (v : Option Value) (h : Heap) (L : List Loc) : Prop := v = some (.int cc) ∧ Fr n0 L ∧ h = h0
theorem pd_4 : parseMethodDescriptor "()Z" = some ⟨[], some .boolean⟩ := by decide +kernel
theorem pd_5 : parseMethodDescriptor "([BI)C" = some ⟨[(.array .byte), .int], some .char⟩ := by decide +kernel
set_option maxRecDepth 65536 in
set_option maxHeartbeats 40000000 in
theorem rm10 (l : Launch) (Z : State) (a0 : Array Value) (hw : ∀ d ∈ tables_1, d.before a0 Z = true) (ws : List Jvm.Cond) (o0 : Addr) (p1 : Int32) (gC : Int32) (vG : Value) (va : Addr) (k : ClassId) (z : Int32) (vs : List Value) (dv : Value) (bb cc : Int32) (h0 : Heap) (n0 : Nat) (Z0 : n0 ≤ h0.size) (E0 : Exa Z h0 o0 "java/lang/String") (SC : Sta Z h0 "java/lang/String" "COMPACT_STRINGS" "Z" (.int gC)) (cC : ¬ (gC = (0 : Int32))) (FC : Fld Z h0 o0 "java/lang/String" "coder" "B" (.int (0 : Int32))) (FV : Fld Z h0 o0 "java/lang/String" "value" "[B" (.ref va)) (hvG : vG.isRef = true) (hin : ¬ (p1 < 0) ∧ p1 < z) (SG : Sta Z h0 "jdk/internal/util/Preconditions" "SIOOBE_FORMATTER" "Ljava/util/function/BiFunction;" vG) (V0 : Arv Z h0 va k .byte z vs dv) (hat : vs.getD p1.toNatClampNeg dv = .int bb) (hcc : ((bb &&& (255 : Int32)).toUInt32.toUInt16.toUInt32.toInt32) = cc) :
    MetFree l (⟨"java/lang/String", "charAt", "(I)C"⟩ : MethodName) (head1 (Jvm.Cond.code (⟨"java/lang/String", "charAt", "(I)C"⟩ : MethodName) jdk_42_method_56_code 2 (some .char) :: ws) ({ frames := 3, cells := 0, slots := 0, locals := 40 } : Room)) (fun a U => a = #[(.ref o0), (.int p1)] ∧ Z.Warmed39 U.vm ∧ U.heap = h0) (fun _ _ _ _ _ => True) (fun _ U o U' => ∃ v L, o = .returned v ∧ Q_rm10 Z o0 p1 gC vG va k z vs dv bb cc h0 n0 v U'.heap L ∧ FrameEnd U o U' L ({ frames := 3, cells := 0, slots := 0, locals := 40 } : Room).cells ({ frames := 3, cells := 0, slots := 0, locals := 40 } : Room).slots) := by
  refine MetFree.of_bodySF (plainFor_of_name pn_java_lang_String) hisR ?_
  intro p e s m args below meth c s₁ Bd hml0 hP hK
  obtain ⟨rfl, hZ, hh⟩ := hP
  have hx := Bd.exec
  have hby := Bd.bytes
  have hlk := BodyLoose.notSynchronized Bd
  have hrt := Bd.returns
  have hml : c.maxLocals = 2 := hml0
  have hown : s.vm.findClass "java/lang/String" = some m.cls := findClass_of_methodNamed Bd.named
  have hnm := (name_of_methodNamed Bd.named Bd.method).1
  have X0 : Stand p l e ({ frames := 3, cells := 0, slots := 0, locals := 40 } : Room) s m #[(.ref o0), (.int p1)] below meth c s₁ [] 0 0 := Stand.of_body Bd
  have e0 : s₁.heap = h0 := by rw [← hh, Bd.state]; rfl
  have N0 := Fr.nil n0
  have K0 : Keep h0 h0 [] := Keep.refl h0 _
  show Runs p e below (QE s (Q_rm10 Z o0 p1 gC vG va k z vs dv bb cc h0 n0) ({ frames := 3, cells := 0, slots := 0, locals := 40 } : Room).cells ({ frames := 3, cells := 0, slots := 0, locals := 40 } : Room).slots) (s₁.setTop (entryFrame m #[(.ref o0), (.int p1)] 2))
  rw [ef_10_8 m o0 p1]
  show Runs p e below _ (s₁.setTop (mkF m 0 #[.val (.ref o0), .val (.int p1)] []))
  refine Runs.by (fun _ hr => XS.aloadN X0.here hx rfl (hb hby d10_0) rfl rfl hr) ?_
  show Runs p e below _ (s₁.setTop (mkF m 1 #[.val (.ref o0), .val (.int p1)] [(.ref o0)]))
  obtain ⟨cq1, kq1, q1a, q1b, q1c⟩ := isOf hZ e0 E0
  obtain ⟨_, _, ⟨T1, L1, k1, n1⟩, -, X1, ⟨Lc1, hQ1, l1, y1, z1⟩, st1⟩ := X0.virtualBack hx (y := (⟨"java/lang/String", "isLatin1", "()Z"⟩ : MethodName)) (z := (⟨"java/lang/String", "isLatin1", "()Z"⟩ : MethodName)) hown (mvT hZ (hw _ (List.mem_of_getElem? (i := 55) rfl))) (mvT hZ (hw _ (List.mem_of_getElem? (i := 56) rfl))) (notFace_of_selects (args := #[]) (mvT hZ (hw _ (List.mem_of_getElem? (i := 58) rfl)))) (mvT hZ (hw _ (List.mem_of_getElem? (i := 58) rfl))) (mvT hZ (hw _ (List.mem_of_getElem? (i := 57) rfl))) (by decide) (backOf (W := 0) (rm11 l Z a0 hw [] o0 gC h0 n0 (Nat.le_trans Z0 K0.1) SC cC FC) hZ (hw _ (List.mem_of_getElem? (i := 59) rfl)) (hw _ (List.mem_of_getElem? (i := 2) rfl)) (by decide) (by decide)) q1a q1c (g := (mkF m 1 #[.val (.ref o0), .val (.int p1)] [(.ref o0)])) rfl (by rw [hml]; rfl) (Steps.refl _) (argsL := []) (rest := []) (lenOf pd_4 rfl) rfl (by show 2 * 0 + _ ≤ _; exact Nat.le_of_eq rfl) (hb hby d10_1) (fun _ _ => ⟨rfl, e0, (by decide : 0 + 0 ≤ _), (by decide : 0 + 0 ≤ _)⟩)
  dsimp only [Pt.U, Pt.locs, Pt.cells, Pt.slots] at X1 l1 y1 z1 st1 hQ1
  subst l1 y1 z1
  obtain ⟨rfl, Nq1, eq1⟩ := hQ1
  have N1 := Fr.app N0 Nq1
  refine Runs.by (fun _ hr => st1.trans hr) ?_
  show Runs p e below _ (T1.setTop (mkF m 4 #[.val (.ref o0), .val (.int p1)] [(.int (1 : Int32))]))
  have hc4 : ¬ ((1 : Int32) = (0 : Int32)) := (by decide)
  refine Runs.by (fun _ hr => XS.ifNo X1.here hx rfl (hb hby d10_4) rfl ((if0 _ _).trans (feq hc4).1) hr) ?_
  show Runs p e below _ (T1.setTop (mkF m 7 #[.val (.ref o0), .val (.int p1)] []))
  refine Runs.by (fun _ hr => XS.aloadN X1.here hx rfl (hb hby d10_7) rfl rfl hr) ?_
  show Runs p e below _ (T1.setTop (mkF m 8 #[.val (.ref o0), .val (.int p1)] [(.ref o0)]))
  obtain ⟨T2, X2, e2, st2⟩ := getF X1 hx hZ hown (host := "") (Or.inl (hw _ (List.mem_of_getElem? (i := 28) rfl))) Via.refl eq1 FV (g := (mkF m 8 #[.val (.ref o0), .val (.int p1)] [(.ref o0)])) rfl rfl (hb hby d10_8)
  refine Runs.by st2 ?_
  show Runs p e below _ (T2.setTop (mkF m 11 #[.val (.ref o0), .val (.int p1)] [(.ref va)]))
  refine Runs.by (fun _ hr => XS.iloadN X2.here hx rfl (hb hby d10_11) rfl  hr) ?_
  show Runs p e below _ (T2.setTop (mkF m 12 #[.val (.ref o0), .val (.int p1)] [(.int p1), (.ref va)]))
  obtain ⟨_, _, ⟨T3, L3, k3, n3⟩, -, X3, ⟨Lc3, hQ3, l3, y3, z3⟩, st3⟩ := Jvm.LawKit.callS X2 hx (y := (⟨"java/lang/StringLatin1", "charAt", "([BI)C"⟩ : MethodName)) hown (mvT hZ (hw _ (List.mem_of_getElem? (i := 60) rfl))) (mvT hZ (hw _ (List.mem_of_getElem? (i := 61) rfl))) (mvT hZ (hw _ (List.mem_of_getElem? (i := 62) rfl))) (mvT hZ (hw _ (List.mem_of_getElem? (i := 63) rfl))) (by decide) (backOf (W := 0) (rm12 l Z a0 hw [] va p1 vG k z vs dv bb h0 n0 (Nat.le_trans Z0 K0.1) hvG hin SG V0 hat) hZ (hw _ (List.mem_of_getElem? (i := 63) rfl)) (hw _ (List.mem_of_getElem? (i := 62) rfl)) (by decide) (by decide)) (g := (mkF m 12 #[.val (.ref o0), .val (.int p1)] [(.int p1), (.ref va)])) rfl (by rw [hml]; rfl) (argsL := [(.ref va), (.int p1)]) (rest := []) (lenOf pd_5 rfl) rfl (by show 2 * 0 + _ ≤ _; exact Nat.le_of_eq rfl) (hb hby d10_12) (fun _ _ => ⟨rfl, e2, (by decide : 0 + 0 ≤ _), (by decide : 0 + 0 ≤ _)⟩)
  dsimp only [Pt.U, Pt.locs, Pt.cells, Pt.slots] at X3 l3 y3 z3 st3 hQ3
  subst l3 y3 z3
  obtain ⟨rfl, Nq3, eq3⟩ := hQ3
  have N3 := Fr.app N1 Nq3
  refine Runs.by (fun t hr => st3 t hr) ?_
  show Runs p e below _ (T3.setTop (mkF m 15 #[.val (.ref o0), .val (.int p1)] [(.int ((bb &&& (255 : Int32)).toUInt32.toUInt16.toUInt32.toInt32))]))
  refine Runs.ret X3 hx hrt hlk (Or.inl ⟨rfl, by simp, _, rfl⟩) (Jvm.Free.XT.narrow_c _) (hb hby d10_15) (by decide) (by decide) ?_
  rw [eq3]
  exact ⟨by rw [hcc], N3, rfl⟩
theorem d15_0 : decode jdk_29_method_65_code 0 = .ok (.iload_n 0, 1) := by decide +kernel
theorem d15_1 : decode jdk_29_method_65_code 1 = .ok (.iload_n 1, 1) := by decide +kernel
theorem d15_2 : decode jdk_29_method_65_code 2 = .ok (.if_icmp .lt 7, 3) := by decide +kernel
theorem d15_5 : decode jdk_29_method_65_code 5 = .ok (.iload_n 0, 1) := by decide +kernel
theorem d15_6 : decode jdk_29_method_65_code 6 = .ok (.goto 4, 3) := by decide +kernel
theorem d15_9 : decode jdk_29_method_65_code 9 = .ok (.iload_n 1, 1) := by decide +kernel
theorem d15_10 : decode jdk_29_method_65_code 10 = .ok (.ireturn, 1) := by decide +kernel
theorem ef_15_9 (m : MethodId) (p0 : Int32) (p1 : Int32) : entryFrame m #[(.int p0), (.int p1)] 2 = mkF m 0 #[.val (.int p0), .val (.int p1)] [] := by first | (simp [entryFrame, mkF, argsToLocals, Value.category]; done) | rfl
def Q_rm15 (Z : State) (p0 : Int32) (p1 : Int32)  (h0 : Heap) (n0 : Nat) (v : Option Value) (h : Heap) (L : List Loc) : Prop := v = some (.int (own_max p0 p1)) ∧ Fr n0 L ∧ h = h0
set_option maxRecDepth 65536 in
set_option maxHeartbeats 40000000 in
theorem rm15 (l : Launch) (Z : State) (a0 : Array Value) (hw : ∀ d ∈ tables_1, d.before a0 Z = true) (ws : List Jvm.Cond) (p0 : Int32) (p1 : Int32)  (h0 : Heap) (n0 : Nat) (Z0 : n0 ≤ h0.size) :
    MetFree l (⟨"java/lang/Math", "max", "(II)I"⟩ : MethodName) (head1 (Jvm.Cond.code (⟨"java/lang/Math", "max", "(II)I"⟩ : MethodName) jdk_29_method_65_code 2 (some .int) :: ws) ({ frames := 0, cells := 0, slots := 0, locals := 0 } : Room)) (fun a U => a = #[(.int p0), (.int p1)] ∧ Z.Warmed39 U.vm ∧ U.heap = h0) (fun _ _ _ _ _ => True) (fun _ U o U' => ∃ v L, o = .returned v ∧ Q_rm15 Z p0 p1 h0 n0 v U'.heap L ∧ FrameEnd U o U' L ({ frames := 0, cells := 0, slots := 0, locals := 0 } : Room).cells ({ frames := 0, cells := 0, slots := 0, locals := 0 } : Room).slots) := by
  refine MetFree.of_bodySF (Jvm.Free.JP.mathPlain rfl (by decide +kernel)) hisR ?_
  intro p e s m args below meth c s₁ Bd hml0 hP hK
  obtain ⟨rfl, hZ, hh⟩ := hP
  have hx := Bd.exec
  have hby := Bd.bytes
  have hlk := BodyLoose.notSynchronized Bd
  have hrt := Bd.returns
  have hml : c.maxLocals = 2 := hml0
  have hown : s.vm.findClass "java/lang/Math" = some m.cls := findClass_of_methodNamed Bd.named
  have hnm := (name_of_methodNamed Bd.named Bd.method).1
  have X0 : Stand p l e ({ frames := 0, cells := 0, slots := 0, locals := 0 } : Room) s m #[(.int p0), (.int p1)] below meth c s₁ [] 0 0 := Stand.of_body Bd
  have e0 : s₁.heap = h0 := by rw [← hh, Bd.state]; rfl
  have N0 := Fr.nil n0
  have K0 : Keep h0 h0 [] := Keep.refl h0 _
  show Runs p e below (QE s (Q_rm15 Z p0 p1 h0 n0) ({ frames := 0, cells := 0, slots := 0, locals := 0 } : Room).cells ({ frames := 0, cells := 0, slots := 0, locals := 0 } : Room).slots) (s₁.setTop (entryFrame m #[(.int p0), (.int p1)] 2))
  rw [ef_15_9 m p0 p1]
  show Runs p e below _ (s₁.setTop (mkF m 0 #[.val (.int p0), .val (.int p1)] []))
  refine Runs.by (fun _ hr => XS.iloadN X0.here hx rfl (hb hby d15_0) rfl  hr) ?_
  show Runs p e below _ (s₁.setTop (mkF m 1 #[.val (.int p0), .val (.int p1)] [(.int p0)]))
  refine Runs.by (fun _ hr => XS.iloadN X0.here hx rfl (hb hby d15_1) rfl  hr) ?_
  show Runs p e below _ (s₁.setTop (mkF m 2 #[.val (.int p0), .val (.int p1)] [(.int p1), (.int p0)]))
  by_cases hc2 : p0 < p1
  · -- pc 2: p0 < p1
    refine Runs.by (fun _ hr => XS.icmpYes X0.here hx rfl (pc0 := 2) (pc' := 9) rfl (hb hby d15_2) rfl (tlt hc2).1 (by decide) (by decide) hr) ?_
    show Runs p e below _ (s₁.setTop (mkF m 9 #[.val (.int p0), .val (.int p1)] []))
    refine Runs.by (fun _ hr => XS.iloadN X0.here hx rfl (hb hby d15_9) rfl  hr) ?_
    show Runs p e below _ (s₁.setTop (mkF m 10 #[.val (.int p0), .val (.int p1)] [(.int p1)]))
    refine Runs.ret X0 hx hrt hlk (Or.inl ⟨rfl, by simp, _, rfl⟩) rfl (hb hby d15_10) (by decide) (by decide) ?_
    rw [e0]
    exact ⟨by simp only [own_max, if_pos hc2], N0, rfl⟩
  · -- pc 2: not p0 < p1
    refine Runs.by (fun _ hr => XS.icmpNo X0.here hx rfl (hb hby d15_2) rfl (flt hc2).1 hr) ?_
    show Runs p e below _ (s₁.setTop (mkF m 5 #[.val (.int p0), .val (.int p1)] []))
    refine Runs.by (fun _ hr => XS.iloadN X0.here hx rfl (hb hby d15_5) rfl  hr) ?_
    show Runs p e below _ (s₁.setTop (mkF m 6 #[.val (.int p0), .val (.int p1)] [(.int p0)]))
    refine Runs.by (fun _ hr => XS.goto X0.here hx rfl (pc0 := 6) (pc' := 10) rfl (hb hby d15_6) (by decide) (by decide) hr) ?_
    show Runs p e below _ (s₁.setTop (mkF m 10 #[.val (.int p0), .val (.int p1)] [(.int p0)]))
    refine Runs.ret X0 hx hrt hlk (Or.inl ⟨rfl, by simp, _, rfl⟩) rfl (hb hby d15_10) (by decide) (by decide) ?_
    rw [e0]
    exact ⟨by simp only [own_max, if_neg hc2], N0, rfl⟩
theorem d16_0 : decode prog_35_method_3_code 0 = .ok (.iload_n 1, 1) := by decide +kernel
theorem d16_1 : decode prog_35_method_3_code 1 = .ok (.aload_n 0, 1) := by decide +kernel
theorem d16_2 : decode prog_35_method_3_code 2 = .ok (.getfield 29, 3) := by decide +kernel
theorem d16_5 : decode prog_35_method_3_code 5 = .ok (.arraylength, 1) := by decide +kernel
theorem d16_6 : decode prog_35_method_3_code 6 = .ok (.if_icmp .ge 16, 3) := by decide +kernel
theorem d16_9 : decode prog_35_method_3_code 9 = .ok (.aload_n 0, 1) := by decide +kernel
theorem d16_10 : decode prog_35_method_3_code 10 = .ok (.getfield 29, 3) := by decide +kernel
theorem d16_13 : decode prog_35_method_3_code 13 = .ok (.iload_n 1, 1) := by decide +kernel
theorem d16_14 : decode prog_35_method_3_code 14 = .ok (.baload, 1) := by decide +kernel
theorem d16_15 : decode prog_35_method_3_code 15 = .ok (.ifCond .eq 7, 3) := by decide +kernel
theorem d16_18 : decode prog_35_method_3_code 18 = .ok (.iconst 1, 1) := by decide +kernel
theorem d16_19 : decode prog_35_method_3_code 19 = .ok (.goto 4, 3) := by decide +kernel
theorem d16_22 : decode prog_35_method_3_code 22 = .ok (.iconst 0, 1) := by decide +kernel
theorem d16_23 : decode prog_35_method_3_code 23 = .ok (.ireturn, 1) := by decide +kernel
theorem ef_16_10 (m : MethodId) (o0 : Addr) (p1 : Int32) : entryFrame m #[(.ref o0), (.int p1)] 2 = mkF m 0 #[.val (.ref o0), .val (.int p1)] [] := by first | (simp [entryFrame, mkF, argsToLocals, Value.category]; done) | rfl
theorem pn_com_example_vedette_vedette_io_Utf8Buffer_Stops : plainName "com/example/vedette/vedette/io/Utf8Buffer$Stops" = true := by first | (simp [plainName, overriddenIn]; done) | decide +kernel
def Q_rm16 (Z : State) (o0 : Addr) (p1 : Int32) (ta : Addr) (kt : ClassId) (z : Int32) (wf : Nat → Int32) (h0 : Heap) (n0 : Nat) (v : Option Value) (h : Heap) (L : List Loc) : Prop := v = some (.int (own_is z wf p1)) ∧ Fr n0 L ∧ h = h0
set_option maxRecDepth 65536 in
set_option maxHeartbeats 40000000 in
theorem rm16 (l : Launch) (Z : State) (a0 : Array Value) (hw : ∀ d ∈ tables_1, d.before a0 Z = true) (ws : List Jvm.Cond) (o0 : Addr) (p1 : Int32) (ta : Addr) (kt : ClassId) (z : Int32) (wf : Nat → Int32) (h0 : Heap) (n0 : Nat) (Z0 : n0 ≤ h0.size) (F0 : Fld Z h0 o0 "com/example/vedette/vedette/io/Utf8Buffer$Stops" "chars" "[Z" (.ref ta)) (G0 : Arf Z h0 ta kt .boolean z (fun j_ => .int (wf j_))) (hnn : ¬ p1 < 0) :
    MetFree l (⟨"com/example/vedette/vedette/io/Utf8Buffer$Stops", "isStop", "(I)Z"⟩ : MethodName) (head1 (Jvm.Cond.code (⟨"com/example/vedette/vedette/io/Utf8Buffer$Stops", "isStop", "(I)Z"⟩ : MethodName) prog_35_method_3_code 2 (some .boolean) :: ws) ({ frames := 0, cells := 0, slots := 0, locals := 0 } : Room)) (fun a U => a = #[(.ref o0), (.int p1)] ∧ Z.Warmed39 U.vm ∧ U.heap = h0) (fun _ _ _ _ _ => True) (fun _ U o U' => ∃ v L, o = .returned v ∧ Q_rm16 Z o0 p1 ta kt z wf h0 n0 v U'.heap L ∧ FrameEnd U o U' L ({ frames := 0, cells := 0, slots := 0, locals := 0 } : Room).cells ({ frames := 0, cells := 0, slots := 0, locals := 0 } : Room).slots) := by
  refine MetFree.of_bodySF (plainFor_of_name pn_com_example_vedette_vedette_io_Utf8Buffer_Stops) hisR ?_
  intro p e s m args below meth c s₁ Bd hml0 hP hK
  obtain ⟨rfl, hZ, hh⟩ := hP
  have hx := Bd.exec
  have hby := Bd.bytes
  have hlk := BodyLoose.notSynchronized Bd
  have hrt := Bd.returns
  have hml : c.maxLocals = 2 := hml0
  have hown : s.vm.findClass "com/example/vedette/vedette/io/Utf8Buffer$Stops" = some m.cls := findClass_of_methodNamed Bd.named
  have hnm := (name_of_methodNamed Bd.named Bd.method).1
  have X0 : Stand p l e ({ frames := 0, cells := 0, slots := 0, locals := 0 } : Room) s m #[(.ref o0), (.int p1)] below meth c s₁ [] 0 0 := Stand.of_body Bd
  have e0 : s₁.heap = h0 := by rw [← hh, Bd.state]; rfl
  have N0 := Fr.nil n0
  have K0 : Keep h0 h0 [] := Keep.refl h0 _
  show Runs p e below (QE s (Q_rm16 Z o0 p1 ta kt z wf h0 n0) ({ frames := 0, cells := 0, slots := 0, locals := 0 } : Room).cells ({ frames := 0, cells := 0, slots := 0, locals := 0 } : Room).slots) (s₁.setTop (entryFrame m #[(.ref o0), (.int p1)] 2))
  rw [ef_16_10 m o0 p1]
  show Runs p e below _ (s₁.setTop (mkF m 0 #[.val (.ref o0), .val (.int p1)] []))
  refine Runs.by (fun _ hr => XS.iloadN X0.here hx rfl (hb hby d16_0) rfl  hr) ?_
  show Runs p e below _ (s₁.setTop (mkF m 1 #[.val (.ref o0), .val (.int p1)] [(.int p1)]))
  refine Runs.by (fun _ hr => XS.aloadN X0.here hx rfl (hb hby d16_1) rfl rfl hr) ?_
  show Runs p e below _ (s₁.setTop (mkF m 2 #[.val (.ref o0), .val (.int p1)] [(.ref o0), (.int p1)]))
  obtain ⟨T1, X1, e1, st1⟩ := getF X0 hx hZ hown (host := "") (Or.inl (hw _ (List.mem_of_getElem? (i := 76) rfl))) Via.refl e0 F0 (g := (mkF m 2 #[.val (.ref o0), .val (.int p1)] [(.ref o0), (.int p1)])) rfl rfl (hb hby d16_2)
  refine Runs.by st1 ?_
  show Runs p e below _ (T1.setTop (mkF m 5 #[.val (.ref o0), .val (.int p1)] [(.ref ta), (.int p1)]))
  obtain ⟨cl2, Ar2, -, S2, N2', -⟩ := id G0
  refine Runs.by (fun t hr => X1.arraylength hx (by rw [e1]; exact Ar2.1) (State.isArrayOf_alike hZ.alike Ar2.2.1) (g := (mkF m 5 #[.val (.ref o0), .val (.int p1)] [(.ref ta), (.int p1)])) rfl rfl (hb hby d16_5) t hr) ?_
  rw [len_of S2 N2']
  show Runs p e below _ (T1.setTop (mkF m 6 #[.val (.ref o0), .val (.int p1)] [(.int z), (.int p1)]))
  by_cases hc6 : p1 < z
  · -- pc 6: p1 < z
    refine Runs.by (fun _ hr => XS.icmpNo X1.here hx rfl (hb hby d16_6) rfl (tlt hc6).2.1 hr) ?_
    show Runs p e below _ (T1.setTop (mkF m 9 #[.val (.ref o0), .val (.int p1)] []))
    refine Runs.by (fun _ hr => XS.aloadN X1.here hx rfl (hb hby d16_9) rfl rfl hr) ?_
    show Runs p e below _ (T1.setTop (mkF m 10 #[.val (.ref o0), .val (.int p1)] [(.ref o0)]))
    obtain ⟨T3, X3, e3, st3⟩ := getF X1 hx hZ hown (host := "") (Or.inl (hw _ (List.mem_of_getElem? (i := 76) rfl))) Via.refl e1 F0 (g := (mkF m 10 #[.val (.ref o0), .val (.int p1)] [(.ref o0)])) rfl rfl (hb hby d16_10)
    refine Runs.by st3 ?_
    show Runs p e below _ (T3.setTop (mkF m 13 #[.val (.ref o0), .val (.int p1)] [(.ref ta)]))
    refine Runs.by (fun _ hr => XS.iloadN X3.here hx rfl (hb hby d16_13) rfl  hr) ?_
    show Runs p e below _ (T3.setTop (mkF m 14 #[.val (.ref o0), .val (.int p1)] [(.int p1), (.ref ta)]))
    obtain ⟨cl4, Ar4, -, S4, N4', H4⟩ := id G0
    have ix4 := own_ix (j := p1) (z := z) (n := p1.toNatClampNeg) (own_tn (own_nn hnn)) (own_lti hc6)
    have hin4 : ¬ (p1 < 0 ∨ cl4.slots.size ≤ (p1).toNatClampNeg) := inb_of S4 ix4.1
    have hat4 : cl4.slots[(p1).toNatClampNeg]? = some (.int (wf (p1.toNatClampNeg))) := by rw [ix4.2.1]; exact H4 _ ix4.2.2
    refine Runs.by (fun t hr => X3.baloadBooleans hx (j := p1) (v := (.int (wf (p1.toNatClampNeg)))) (by rw [e3]; exact Ar4.1) (State.isArrayOf_alike hZ.alike Ar4.2.1) Ar4.2.2 hin4 hat4 (g := (mkF m 14 #[.val (.ref o0), .val (.int p1)] [(.int p1), (.ref ta)])) rfl rfl (hb hby d16_14) t hr) ?_
    show Runs p e below _ (T3.setTop (mkF m 15 #[.val (.ref o0), .val (.int p1)] [(.int (wf (p1.toNatClampNeg)))]))
    by_cases hc15 : (wf (p1.toNatClampNeg)) = (0 : Int32)
    · -- pc 15: (wf (p1.toNatClampNeg)) = (0 : Int32)
      refine Runs.by (fun _ hr => XS.ifYes X3.here hx rfl (pc0 := 15) (pc' := 22) rfl (hb hby d16_15) rfl ((if0 _ _).trans (teq hc15).1) (by decide) (by decide) hr) ?_
      show Runs p e below _ (T3.setTop (mkF m 22 #[.val (.ref o0), .val (.int p1)] []))
      refine Runs.by (fun _ hr => XS.iconst X3.here hx rfl (hb hby d16_22) hr) ?_
      show Runs p e below _ (T3.setTop (mkF m 23 #[.val (.ref o0), .val (.int p1)] [(.int (0 : Int32))]))
      refine Runs.ret X3 hx hrt hlk (Or.inl ⟨rfl, by simp, _, rfl⟩) (by rfl) (hb hby d16_23) (by decide) (by decide) ?_
      rw [e3]
      exact ⟨by simp only [own_is, if_pos hc6, if_pos hc15], N0, rfl⟩
    · -- pc 15: not (wf (p1.toNatClampNeg)) = (0 : Int32)
      refine Runs.by (fun _ hr => XS.ifNo X3.here hx rfl (hb hby d16_15) rfl ((if0 _ _).trans (feq hc15).1) hr) ?_
      show Runs p e below _ (T3.setTop (mkF m 18 #[.val (.ref o0), .val (.int p1)] []))
      refine Runs.by (fun _ hr => XS.iconst X3.here hx rfl (hb hby d16_18) hr) ?_
      show Runs p e below _ (T3.setTop (mkF m 19 #[.val (.ref o0), .val (.int p1)] [(.int (1 : Int32))]))
      refine Runs.by (fun _ hr => XS.goto X3.here hx rfl (pc0 := 19) (pc' := 23) rfl (hb hby d16_19) (by decide) (by decide) hr) ?_
      show Runs p e below _ (T3.setTop (mkF m 23 #[.val (.ref o0), .val (.int p1)] [(.int (1 : Int32))]))
      refine Runs.ret X3 hx hrt hlk (Or.inl ⟨rfl, by simp, _, rfl⟩) (by rfl) (hb hby d16_23) (by decide) (by decide) ?_
      rw [e3]
      exact ⟨by simp only [own_is, if_pos hc6, if_neg hc15], N0, rfl⟩
  · -- pc 6: not p1 < z
    refine Runs.by (fun _ hr => XS.icmpYes X1.here hx rfl (pc0 := 6) (pc' := 22) rfl (hb hby d16_6) rfl (flt hc6).2.1 (by decide) (by decide) hr) ?_
    show Runs p e below _ (T1.setTop (mkF m 22 #[.val (.ref o0), .val (.int p1)] []))
    refine Runs.by (fun _ hr => XS.iconst X1.here hx rfl (hb hby d16_22) hr) ?_
    show Runs p e below _ (T1.setTop (mkF m 23 #[.val (.ref o0), .val (.int p1)] [(.int (0 : Int32))]))
    refine Runs.ret X1 hx hrt hlk (Or.inl ⟨rfl, by simp, _, rfl⟩) (by rfl) (hb hby d16_23) (by decide) (by decide) ?_
    rw [e1]
    exact ⟨by simp only [own_is, if_neg hc6], N0, rfl⟩
theorem d7_0 : decode prog_35_method_1_code 0 = .ok (.aload_n 0, 1) := by decide +kernel
theorem d7_1 : decode prog_35_method_1_code 1 = .ok (.invokespecial 1, 3) := by decide +kernel
theorem d7_4 : decode prog_35_method_1_code 4 = .ok (.aload_n 0, 1) := by decide +kernel
theorem d7_5 : decode prog_35_method_1_code 5 = .ok (.sipush 256, 3) := by decide +kernel
theorem d7_8 : decode prog_35_method_1_code 8 = .ok (.newarray .boolean, 2) := by decide +kernel
theorem d7_10 : decode prog_35_method_1_code 10 = .ok (.putfield 7, 3) := by decide +kernel
theorem d7_13 : decode prog_35_method_1_code 13 = .ok (.iconst (-1), 1) := by decide +kernel
theorem d7_14 : decode prog_35_method_1_code 14 = .ok (.istore_n 2, 1) := by decide +kernel
theorem d7_15 : decode prog_35_method_1_code 15 = .ok (.iconst 0, 1) := by decide +kernel
theorem d7_16 : decode prog_35_method_1_code 16 = .ok (.istore_n 3, 1) := by decide +kernel
theorem d7_17 : decode prog_35_method_1_code 17 = .ok (.iload_n 3, 1) := by decide +kernel
theorem d7_18 : decode prog_35_method_1_code 18 = .ok (.aload_n 1, 1) := by decide +kernel
theorem d7_19 : decode prog_35_method_1_code 19 = .ok (.invokevirtual 13, 3) := by decide +kernel
theorem d7_22 : decode prog_35_method_1_code 22 = .ok (.if_icmp .ge 19, 3) := by decide +kernel
theorem d7_25 : decode prog_35_method_1_code 25 = .ok (.iload_n 2, 1) := by decide +kernel
theorem d7_26 : decode prog_35_method_1_code 26 = .ok (.aload_n 1, 1) := by decide +kernel
theorem d7_27 : decode prog_35_method_1_code 27 = .ok (.iload_n 3, 1) := by decide +kernel
theorem d7_28 : decode prog_35_method_1_code 28 = .ok (.invokevirtual 19, 3) := by decide +kernel
theorem d7_31 : decode prog_35_method_1_code 31 = .ok (.invokestatic 23, 3) := by decide +kernel
theorem d7_34 : decode prog_35_method_1_code 34 = .ok (.istore_n 2, 1) := by decide +kernel
theorem d7_35 : decode prog_35_method_1_code 35 = .ok (.iinc 3 1, 3) := by decide +kernel
theorem d7_38 : decode prog_35_method_1_code 38 = .ok (.goto (-21), 3) := by decide +kernel
theorem d7_41 : decode prog_35_method_1_code 41 = .ok (.aload_n 0, 1) := by decide +kernel
theorem d7_42 : decode prog_35_method_1_code 42 = .ok (.iload_n 2, 1) := by decide +kernel
theorem d7_43 : decode prog_35_method_1_code 43 = .ok (.iconst 1, 1) := by decide +kernel
theorem d7_44 : decode prog_35_method_1_code 44 = .ok (.iadd, 1) := by decide +kernel
theorem d7_45 : decode prog_35_method_1_code 45 = .ok (.newarray .boolean, 2) := by decide +kernel
theorem d7_47 : decode prog_35_method_1_code 47 = .ok (.putfield 29, 3) := by decide +kernel
theorem d7_50 : decode prog_35_method_1_code 50 = .ok (.iconst 0, 1) := by decide +kernel
theorem d7_51 : decode prog_35_method_1_code 51 = .ok (.istore_n 3, 1) := by decide +kernel
theorem d7_52 : decode prog_35_method_1_code 52 = .ok (.iload_n 3, 1) := by decide +kernel
theorem d7_53 : decode prog_35_method_1_code 53 = .ok (.aload_n 1, 1) := by decide +kernel
theorem d7_54 : decode prog_35_method_1_code 54 = .ok (.invokevirtual 13, 3) := by decide +kernel
theorem d7_57 : decode prog_35_method_1_code 57 = .ok (.if_icmp .ge 72, 3) := by decide +kernel
theorem d7_60 : decode prog_35_method_1_code 60 = .ok (.aload_n 1, 1) := by decide +kernel
theorem d7_61 : decode prog_35_method_1_code 61 = .ok (.iload_n 3, 1) := by decide +kernel
theorem d7_62 : decode prog_35_method_1_code 62 = .ok (.invokevirtual 19, 3) := by decide +kernel
theorem d7_65 : decode prog_35_method_1_code 65 = .ok (.istore 4, 2) := by decide +kernel
theorem d7_67 : decode prog_35_method_1_code 67 = .ok (.aload_n 0, 1) := by decide +kernel
theorem d7_68 : decode prog_35_method_1_code 68 = .ok (.getfield 29, 3) := by decide +kernel
theorem d7_71 : decode prog_35_method_1_code 71 = .ok (.iload 4, 2) := by decide +kernel
theorem d7_73 : decode prog_35_method_1_code 73 = .ok (.iconst 1, 1) := by decide +kernel
theorem d7_74 : decode prog_35_method_1_code 74 = .ok (.bastore, 1) := by decide +kernel
theorem d7_75 : decode prog_35_method_1_code 75 = .ok (.aload_n 0, 1) := by decide +kernel
theorem d7_76 : decode prog_35_method_1_code 76 = .ok (.getfield 7, 3) := by decide +kernel
theorem d7_79 : decode prog_35_method_1_code 79 = .ok (.iload 4, 2) := by decide +kernel
theorem d7_81 : decode prog_35_method_1_code 81 = .ok (.sipush 128, 3) := by decide +kernel
theorem d7_84 : decode prog_35_method_1_code 84 = .ok (.if_icmp .ge 8, 3) := by decide +kernel
theorem d7_87 : decode prog_35_method_1_code 87 = .ok (.iload 4, 2) := by decide +kernel
theorem d7_89 : decode prog_35_method_1_code 89 = .ok (.goto 32, 3) := by decide +kernel
theorem d7_92 : decode prog_35_method_1_code 92 = .ok (.iload 4, 2) := by decide +kernel
theorem d7_94 : decode prog_35_method_1_code 94 = .ok (.sipush 2048, 3) := by decide +kernel
theorem d7_97 : decode prog_35_method_1_code 97 = .ok (.if_icmp .ge 15, 3) := by decide +kernel
theorem d7_100 : decode prog_35_method_1_code 100 = .ok (.sipush 192, 3) := by decide +kernel
theorem d7_103 : decode prog_35_method_1_code 103 = .ok (.iload 4, 2) := by decide +kernel
theorem d7_105 : decode prog_35_method_1_code 105 = .ok (.bipush 6, 2) := by decide +kernel
theorem d7_107 : decode prog_35_method_1_code 107 = .ok (.ishr, 1) := by decide +kernel
theorem d7_108 : decode prog_35_method_1_code 108 = .ok (.ior, 1) := by decide +kernel
theorem d7_109 : decode prog_35_method_1_code 109 = .ok (.goto 12, 3) := by decide +kernel
theorem d7_112 : decode prog_35_method_1_code 112 = .ok (.sipush 224, 3) := by decide +kernel
theorem d7_115 : decode prog_35_method_1_code 115 = .ok (.iload 4, 2) := by decide +kernel
theorem d7_117 : decode prog_35_method_1_code 117 = .ok (.bipush 12, 2) := by decide +kernel
theorem d7_119 : decode prog_35_method_1_code 119 = .ok (.ishr, 1) := by decide +kernel
theorem d7_120 : decode prog_35_method_1_code 120 = .ok (.ior, 1) := by decide +kernel
theorem d7_121 : decode prog_35_method_1_code 121 = .ok (.iconst 1, 1) := by decide +kernel
theorem d7_122 : decode prog_35_method_1_code 122 = .ok (.bastore, 1) := by decide +kernel
theorem d7_123 : decode prog_35_method_1_code 123 = .ok (.iinc 3 1, 3) := by decide +kernel
theorem d7_126 : decode prog_35_method_1_code 126 = .ok (.goto (-74), 3) := by decide +kernel
theorem d7_129 : decode prog_35_method_1_code 129 = .ok (.return_, 1) := by decide +kernel
theorem ef_7_11 (m : MethodId) (o0 : Addr) (o1 : Addr) : entryFrame m #[(.ref o0), (.ref o1)] 5 = mkF m 0 #[.val (.ref o0), .val (.ref o1), .unset, .unset, .unset] [] := by first | (simp [entryFrame, mkF, argsToLocals, Value.category]; done) | rfl
def Q_rm7_0 (Z : State) (o0 : Addr) (o1 : Addr) (gC : Int32) (vG : Value) (va : Addr) (kv : ClassId) (h0 : Heap) (n0 : Nat) (v : Option Value) (h : Heap) (L : List Loc) : Prop := v = none ∧ Fr n0 L ∧ Keep h0 h [o0] ∧ Exa Z h o0 "com/example/vedette/vedette/io/Utf8Buffer$Stops" ∧ ∃ (t : Addr) (kt : ClassId) (z : Int32) (wf : Nat → Int32), Fld Z h o0 "com/example/vedette/vedette/io/Utf8Buffer$Stops" "chars" "[Z" (.ref t) ∧ Arf Z h t kt .boolean z (fun j_ => .int (wf j_)) ∧ ∀ c : Int32, ¬ c < 0 → own_is z wf c = (0 : Int32)
theorem pd_6 : parseMethodDescriptor "()I" = some ⟨[], some .int⟩ := by decide +kernel
set_option maxRecDepth 65536 in
set_option maxHeartbeats 40000000 in
theorem rm7_0 (l : Launch) (Z : State) (a0 : Array Value) (hw : ∀ d ∈ tables_1, d.before a0 Z = true) (ws : List Jvm.Cond) (o0 : Addr) (o1 : Addr) (gC : Int32) (vG : Value) (va : Addr) (kv : ClassId) (h0 : Heap) (n0 : Nat) (Z0 : n0 ≤ h0.size) (E0 : Exa Z h0 o0 "com/example/vedette/vedette/io/Utf8Buffer$Stops") (F0 : Fld Z h0 o0 "com/example/vedette/vedette/io/Utf8Buffer$Stops" "firstBytes" "[Z" .null) (F1 : Fld Z h0 o0 "com/example/vedette/vedette/io/Utf8Buffer$Stops" "chars" "[Z" .null) (g_o0 : n0 ≤ o0) (E1 : Exa Z h0 o1 "java/lang/String") (SC : Sta Z Z.heap "java/lang/String" "COMPACT_STRINGS" "Z" (.int gC)) (cC : ¬ (gC = (0 : Int32))) (hvG : vG.isRef = true) (SG : Sta Z Z.heap "jdk/internal/util/Preconditions" "SIOOBE_FORMATTER" "Ljava/util/function/BiFunction;" vG) (FC1 : Fld Z h0 o1 "java/lang/String" "coder" "B" (.int (0 : Int32))) (FV1 : Fld Z h0 o1 "java/lang/String" "value" "[B" (.ref va)) (V1 : Arv Z h0 va kv .byte (0 : Int32) [] (.int 0)) (ne_o1_o0 : o1 ≠ o0) (ne_va_o0 : va ≠ o0) (O0 : Old Z n0 h0) :
    MetFree l (⟨"com/example/vedette/vedette/io/Utf8Buffer$Stops", "<init>", "(Ljava/lang/String;)V"⟩ : MethodName) (head1 (Jvm.Cond.code (⟨"com/example/vedette/vedette/io/Utf8Buffer$Stops", "<init>", "(Ljava/lang/String;)V"⟩ : MethodName) prog_35_method_1_code 5 none :: ws) ({ frames := 4, cells := 2, slots := 512, locals := 60 } : Room)) (fun a U => a = #[(.ref o0), (.ref o1)] ∧ Z.Warmed39 U.vm ∧ U.heap = h0) (fun _ _ _ _ _ => True) (fun _ U o U' => ∃ v L, o = .returned v ∧ Q_rm7_0 Z o0 o1 gC vG va kv h0 n0 v U'.heap L ∧ FrameEnd U o U' L ({ frames := 4, cells := 2, slots := 512, locals := 60 } : Room).cells ({ frames := 4, cells := 2, slots := 512, locals := 60 } : Room).slots) := by
  refine MetFree.of_bodySF (plainFor_of_name pn_com_example_vedette_vedette_io_Utf8Buffer_Stops) hisR ?_
  intro p e s m args below meth c s₁ Bd hml0 hP hK
  obtain ⟨rfl, hZ, hh⟩ := hP
  have hx := Bd.exec
  have hby := Bd.bytes
  have hlk := BodyLoose.notSynchronized Bd
  have hrt := Bd.returns
  have hml : c.maxLocals = 5 := hml0
  have hown : s.vm.findClass "com/example/vedette/vedette/io/Utf8Buffer$Stops" = some m.cls := findClass_of_methodNamed Bd.named
  have hnm := (name_of_methodNamed Bd.named Bd.method).1
  have X0 : Stand p l e ({ frames := 4, cells := 2, slots := 512, locals := 60 } : Room) s m #[(.ref o0), (.ref o1)] below meth c s₁ [] 0 0 := Stand.of_body Bd
  have e0 : s₁.heap = h0 := by rw [← hh, Bd.state]; rfl
  have N0 := Fr.nil n0
  have K0 : Keep h0 h0 [o0] := Keep.refl h0 _
  show Runs p e below (QE s (Q_rm7_0 Z o0 o1 gC vG va kv h0 n0) ({ frames := 4, cells := 2, slots := 512, locals := 60 } : Room).cells ({ frames := 4, cells := 2, slots := 512, locals := 60 } : Room).slots) (s₁.setTop (entryFrame m #[(.ref o0), (.ref o1)] 5))
  rw [ef_7_11 m o0 o1]
  show Runs p e below _ (s₁.setTop (mkF m 0 #[.val (.ref o0), .val (.ref o1), .unset, .unset, .unset] []))
  refine Runs.by (fun _ hr => XS.aloadN X0.here hx rfl (hb hby d7_0) rfl rfl hr) ?_
  show Runs p e below _ (s₁.setTop (mkF m 1 #[.val (.ref o0), .val (.ref o1), .unset, .unset, .unset] [(.ref o0)]))
  obtain ⟨T1, X1, e1, st1⟩ := initO X0 hx hZ hown (hw _ (List.mem_of_getElem? (i := 36) rfl)) (hw _ (List.mem_of_getElem? (i := 12) rfl)) (hw _ (List.mem_of_getElem? (i := 13) rfl)) e0 (g := (mkF m 1 #[.val (.ref o0), .val (.ref o1), .unset, .unset, .unset] [(.ref o0)])) rfl (by rw [hml]; rfl) rfl (hb hby d7_1) (by decide) (W := 0) (by show 2 * 0 + _ ≤ _; exact Nat.le_of_eq rfl) (by decide)
  refine Runs.by st1 ?_
  show Runs p e below _ (T1.setTop (mkF m 4 #[.val (.ref o0), .val (.ref o1), .unset, .unset, .unset] []))
  refine Runs.by (fun _ hr => XS.aloadN X1.here hx rfl (hb hby d7_4) rfl rfl hr) ?_
  show Runs p e below _ (T1.setTop (mkF m 5 #[.val (.ref o0), .val (.ref o1), .unset, .unset, .unset] [(.ref o0)]))
  refine Runs.by (fun _ hr => XS.sipush X1.here hx rfl (hb hby d7_5) hr) ?_
  show Runs p e below _ (T1.setTop (mkF m 8 #[.val (.ref o0), .val (.ref o1), .unset, .unset, .unset] [(.int (256 : Int32)), (.ref o0)]))
  obtain ⟨T2, h2, k2, X2, e2, E2, A2, st2⟩ := newP X1 hx hZ (hw _ (List.mem_of_getElem? (i := 37) rfl)) e1 (g := (mkF m 8 #[.val (.ref o0), .val (.ref o1), .unset, .unset, .unset] [(.int (256 : Int32)), (.ref o0)])) rfl (hb hby d7_8) rfl (by decide) (cap := 256) (by decide) (by decide) (by decide) (by decide)
  obtain ⟨b2, gz2⟩ : ∃ z, z = h0.size := ⟨_, rfl⟩
  rw [← gz2] at A2 st2
  have ne_o0_b2 : o0 ≠ b2 := Nat.ne_of_lt (Nat.lt_of_lt_of_le E0.lt (Nat.le_of_eq gz2.symm))
  have ne_o1_b2 : o1 ≠ b2 := Nat.ne_of_lt (Nat.lt_of_lt_of_le E1.lt (Nat.le_of_eq gz2.symm))
  have ne_va_b2 : va ≠ b2 := Nat.ne_of_lt (Nat.lt_of_lt_of_le V1.lt (Nat.le_of_eq gz2.symm))
  have g_b2 : n0 ≤ b2 := Nat.le_trans (Nat.le_trans Z0 K0.1) (Nat.le_of_eq gz2.symm)
  have sz_b2 : h0.size ≤ b2 := Nat.le_trans K0.1 (Nat.le_of_eq gz2.symm)
  have K3 : Keep h0 h2 [o0] := K0.ext E2
  have O_3 : Old Z n0 h2 := O0.ext E2
  have G2 : Arf Z h2 b2 k2 .boolean (256 : Int32) (fun j_ => .int ((fun _ => (0 : Int32)) j_)) := Arf.new A2 (by decide)
  refine Runs.by st2 ?_
  show Runs p e below _ (T2.setTop (mkF m 10 #[.val (.ref o0), .val (.ref o1), .unset, .unset, .unset] [(.ref b2), (.ref o0)]))
  obtain ⟨T4, h4, X4, e4, W4, st4⟩ := putF X2 hx hZ hown (host := "") (Or.inl (hw _ (List.mem_of_getElem? (i := 38) rfl))) Via.refl e2 (F0.ext E2) (E0.ext E2) (Or.inr ⟨(hw _ (List.mem_of_getElem? (i := 39) rfl)), rfl, hnm⟩) (hw _ (List.mem_of_getElem? (i := 31) rfl)) (ty := (.array .boolean)) (by decide) rfl rfl (g := (mkF m 10 #[.val (.ref o0), .val (.ref o1), .unset, .unset, .unset] [(.ref b2), (.ref o0)])) rfl rfl (hb hby d7_10)
  have Fw4 := (F0.ext E2).same W4
  have K5 : Keep h0 h4 [o0] := K3.wr W4 (Or.inl (List.mem_of_getElem? (i := 0) rfl))
  have O_5 : Old Z n0 h4 := O_3.wr W4 g_o0
  have N4 := Fr.snoc X4 N0 g_o0
  refine Runs.by st4 ?_
  show Runs p e below _ (T4.setTop (mkF m 13 #[.val (.ref o0), .val (.ref o1), .unset, .unset, .unset] []))
  refine Runs.by (fun _ hr => XS.iconst X4.here hx rfl (hb hby d7_13) hr) ?_
  show Runs p e below _ (T4.setTop (mkF m 14 #[.val (.ref o0), .val (.ref o1), .unset, .unset, .unset] [(.int (-1 : Int32))]))
  refine Runs.by (fun _ hr => XS.istoreN X4.here hx rfl (hb hby d7_14) rfl (l' := #[.val (.ref o0), .val (.ref o1), .val (.int (-1 : Int32)), .unset, .unset]) rfl hr) ?_
  show Runs p e below _ (T4.setTop (mkF m 15 #[.val (.ref o0), .val (.ref o1), .val (.int (-1 : Int32)), .unset, .unset] []))
  refine Runs.by (fun _ hr => XS.iconst X4.here hx rfl (hb hby d7_15) hr) ?_
  show Runs p e below _ (T4.setTop (mkF m 16 #[.val (.ref o0), .val (.ref o1), .val (.int (-1 : Int32)), .unset, .unset] [(.int (0 : Int32))]))
  refine Runs.by (fun _ hr => XS.istoreN X4.here hx rfl (hb hby d7_16) rfl (l' := #[.val (.ref o0), .val (.ref o1), .val (.int (-1 : Int32)), .val (.int (0 : Int32)), .unset]) rfl hr) ?_
  show Runs p e below _ (T4.setTop (mkF m 17 #[.val (.ref o0), .val (.ref o1), .val (.int (-1 : Int32)), .val (.int (0 : Int32)), .unset] []))
  refine Runs.by (fun _ hr => XS.iloadN X4.here hx rfl (hb hby d7_17) rfl  hr) ?_
  show Runs p e below _ (T4.setTop (mkF m 18 #[.val (.ref o0), .val (.ref o1), .val (.int (-1 : Int32)), .val (.int (0 : Int32)), .unset] [(.int (0 : Int32))]))
  refine Runs.by (fun _ hr => XS.aloadN X4.here hx rfl (hb hby d7_18) rfl rfl hr) ?_
  show Runs p e below _ (T4.setTop (mkF m 19 #[.val (.ref o0), .val (.ref o1), .val (.int (-1 : Int32)), .val (.int (0 : Int32)), .unset] [(.ref o1), (.int (0 : Int32))]))
  obtain ⟨cq6, kq6, q6a, q6b, q6c⟩ := isOf hZ e4 ((E1.ext E2).wr W4)
  obtain ⟨_, _, ⟨T6, L6, k6, n6⟩, -, X6, ⟨Lc6, hQ6, l6, y6, z6⟩, st6⟩ := X4.virtualBack hx (y := (⟨"java/lang/String", "length", "()I"⟩ : MethodName)) (z := (⟨"java/lang/String", "length", "()I"⟩ : MethodName)) hown (mvT hZ (hw _ (List.mem_of_getElem? (i := 40) rfl))) (mvT hZ (hw _ (List.mem_of_getElem? (i := 41) rfl))) (notFace_of_selects (args := #[]) (mvT hZ (hw _ (List.mem_of_getElem? (i := 43) rfl)))) (mvT hZ (hw _ (List.mem_of_getElem? (i := 43) rfl))) (mvT hZ (hw _ (List.mem_of_getElem? (i := 42) rfl))) (by decide) (backOf (W := 1) (rm8 l Z a0 hw [] o1 gC va kv (0 : Int32) [] (.int 0) h4 n0 (Nat.le_trans Z0 K5.1) ((E1.ext E2).wr W4) (SC.ext O_5.2) cC ((FC1.ext E2).other W4 (Or.inl ne_o1_o0)) ((FV1.ext E2).other W4 (Or.inl ne_o1_o0)) ((V1.ext E2).other W4 ne_va_o0)) hZ (hw _ (List.mem_of_getElem? (i := 44) rfl)) (hw _ (List.mem_of_getElem? (i := 2) rfl)) (by decide) (by decide)) q6a q6c (g := (mkF m 19 #[.val (.ref o0), .val (.ref o1), .val (.int (-1 : Int32)), .val (.int (0 : Int32)), .unset] [(.ref o1), (.int (0 : Int32))])) rfl (by rw [hml]; rfl) (Steps.refl _) (argsL := []) (rest := [(.int (0 : Int32))]) (lenOf pd_6 rfl) rfl (by show 2 * 0 + _ ≤ _; exact Nat.le_of_eq rfl) (hb hby d7_19) (fun _ _ => ⟨rfl, e4, (by decide : 1 + 0 ≤ _), (by decide : 256 + 0 ≤ _)⟩)
  dsimp only [Pt.U, Pt.locs, Pt.cells, Pt.slots] at X6 l6 y6 z6 st6 hQ6
  subst l6 y6 z6
  obtain ⟨rfl, Nq6, eq6⟩ := hQ6
  have N6 := Fr.app N4 Nq6
  refine Runs.by (fun _ hr => st6.trans hr) ?_
  show Runs p e below _ (T6.setTop (mkF m 22 #[.val (.ref o0), .val (.ref o1), .val (.int (-1 : Int32)), .val (.int (0 : Int32)), .unset] [(.int (0 : Int32)), (.int (0 : Int32))]))
  have hc22 : ¬ ((0 : Int32) < (0 : Int32)) := (by decide)
  refine Runs.by (fun _ hr => XS.icmpYes X6.here hx rfl (pc0 := 22) (pc' := 41) rfl (hb hby d7_22) rfl (flt hc22).2.1 (by decide) (by decide) hr) ?_
  show Runs p e below _ (T6.setTop (mkF m 41 #[.val (.ref o0), .val (.ref o1), .val (.int (-1 : Int32)), .val (.int (0 : Int32)), .unset] []))
  refine Runs.by (fun _ hr => XS.aloadN X6.here hx rfl (hb hby d7_41) rfl rfl hr) ?_
  show Runs p e below _ (T6.setTop (mkF m 42 #[.val (.ref o0), .val (.ref o1), .val (.int (-1 : Int32)), .val (.int (0 : Int32)), .unset] [(.ref o0)]))
  refine Runs.by (fun _ hr => XS.iloadN X6.here hx rfl (hb hby d7_42) rfl  hr) ?_
  show Runs p e below _ (T6.setTop (mkF m 43 #[.val (.ref o0), .val (.ref o1), .val (.int (-1 : Int32)), .val (.int (0 : Int32)), .unset] [(.int (-1 : Int32)), (.ref o0)]))
  refine Runs.by (fun _ hr => XS.iconst X6.here hx rfl (hb hby d7_43) hr) ?_
  show Runs p e below _ (T6.setTop (mkF m 44 #[.val (.ref o0), .val (.ref o1), .val (.int (-1 : Int32)), .val (.int (0 : Int32)), .unset] [(.int (1 : Int32)), (.int (-1 : Int32)), (.ref o0)]))
  refine Runs.by (fun _ hr => XS.iadd X6.here hx rfl (hb hby d7_44) rfl hr) ?_
  show Runs p e below _ (T6.setTop (mkF m 45 #[.val (.ref o0), .val (.ref o1), .val (.int (-1 : Int32)), .val (.int (0 : Int32)), .unset] [(.int (0 : Int32)), (.ref o0)]))
  obtain ⟨T7, h7, k7, X7, e7, E7, A7, st7⟩ := newP X6 hx hZ (hw _ (List.mem_of_getElem? (i := 37) rfl)) eq6 (g := (mkF m 45 #[.val (.ref o0), .val (.ref o1), .val (.int (-1 : Int32)), .val (.int (0 : Int32)), .unset] [(.int (0 : Int32)), (.ref o0)])) rfl (hb hby d7_45) rfl (by decide) (cap := 0) (by decide) (by decide) (by decide) (by decide)
  obtain ⟨b7, gz7⟩ : ∃ z, z = h4.size := ⟨_, rfl⟩
  rw [← gz7] at A7 st7
  have ne_o0_b7 : o0 ≠ b7 := Nat.ne_of_lt (Nat.lt_of_lt_of_le ((E0.ext E2).wr W4).lt (Nat.le_of_eq gz7.symm))
  have ne_o1_b7 : o1 ≠ b7 := Nat.ne_of_lt (Nat.lt_of_lt_of_le ((E1.ext E2).wr W4).lt (Nat.le_of_eq gz7.symm))
  have ne_va_b7 : va ≠ b7 := Nat.ne_of_lt (Nat.lt_of_lt_of_le ((V1.ext E2).other W4 ne_va_o0).lt (Nat.le_of_eq gz7.symm))
  have ne_b2_b7 : b2 ≠ b7 := Nat.ne_of_lt (Nat.lt_of_lt_of_le (G2.other W4 (Ne.symm ne_o0_b2)).lt (Nat.le_of_eq gz7.symm))
  have g_b7 : n0 ≤ b7 := Nat.le_trans (Nat.le_trans Z0 K5.1) (Nat.le_of_eq gz7.symm)
  have sz_b7 : h0.size ≤ b7 := Nat.le_trans K5.1 (Nat.le_of_eq gz7.symm)
  have K8 : Keep h0 h7 [o0] := K5.ext E7
  have O_8 : Old Z n0 h7 := O_5.ext E7
  have G7 : Arf Z h7 b7 k7 .boolean (0 : Int32) (fun j_ => .int ((fun _ => (0 : Int32)) j_)) := Arf.new A7 (by decide)
  refine Runs.by st7 ?_
  show Runs p e below _ (T7.setTop (mkF m 47 #[.val (.ref o0), .val (.ref o1), .val (.int (-1 : Int32)), .val (.int (0 : Int32)), .unset] [(.ref b7), (.ref o0)]))
  obtain ⟨T9, h9, X9, e9, W9, st9⟩ := putF X7 hx hZ hown (host := "") (Or.inl (hw _ (List.mem_of_getElem? (i := 76) rfl))) Via.refl e7 (((F1.ext E2).other W4 (Or.inr (slot_ne (Or.inr (hw _ (List.mem_of_getElem? (i := 77) rfl))) (Or.inr (hw _ (List.mem_of_getElem? (i := 39) rfl))) (by decide) (t := (.array .boolean)) (t' := (.array .boolean)) (by decide) (by decide)))).ext E7) (((E0.ext E2).wr W4).ext E7) (Or.inr ⟨(hw _ (List.mem_of_getElem? (i := 77) rfl)), rfl, hnm⟩) (hw _ (List.mem_of_getElem? (i := 31) rfl)) (ty := (.array .boolean)) (by decide) rfl rfl (g := (mkF m 47 #[.val (.ref o0), .val (.ref o1), .val (.int (-1 : Int32)), .val (.int (0 : Int32)), .unset] [(.ref b7), (.ref o0)])) rfl rfl (hb hby d7_47)
  have Fw9 := (((F1.ext E2).other W4 (Or.inr (slot_ne (Or.inr (hw _ (List.mem_of_getElem? (i := 77) rfl))) (Or.inr (hw _ (List.mem_of_getElem? (i := 39) rfl))) (by decide) (t := (.array .boolean)) (t' := (.array .boolean)) (by decide) (by decide)))).ext E7).same W9
  have K10 : Keep h0 h9 [o0] := K8.wr W9 (Or.inl (List.mem_of_getElem? (i := 0) rfl))
  have O_10 : Old Z n0 h9 := O_8.wr W9 g_o0
  have N9 := Fr.snoc X9 N6 g_o0
  refine Runs.by st9 ?_
  show Runs p e below _ (T9.setTop (mkF m 50 #[.val (.ref o0), .val (.ref o1), .val (.int (-1 : Int32)), .val (.int (0 : Int32)), .unset] []))
  refine Runs.by (fun _ hr => XS.iconst X9.here hx rfl (hb hby d7_50) hr) ?_
  show Runs p e below _ (T9.setTop (mkF m 51 #[.val (.ref o0), .val (.ref o1), .val (.int (-1 : Int32)), .val (.int (0 : Int32)), .unset] [(.int (0 : Int32))]))
  refine Runs.by (fun _ hr => XS.istoreN X9.here hx rfl (hb hby d7_51) rfl (l' := #[.val (.ref o0), .val (.ref o1), .val (.int (-1 : Int32)), .val (.int (0 : Int32)), .unset]) rfl hr) ?_
  show Runs p e below _ (T9.setTop (mkF m 52 #[.val (.ref o0), .val (.ref o1), .val (.int (-1 : Int32)), .val (.int (0 : Int32)), .unset] []))
  refine Runs.by (fun _ hr => XS.iloadN X9.here hx rfl (hb hby d7_52) rfl  hr) ?_
  show Runs p e below _ (T9.setTop (mkF m 53 #[.val (.ref o0), .val (.ref o1), .val (.int (-1 : Int32)), .val (.int (0 : Int32)), .unset] [(.int (0 : Int32))]))
  refine Runs.by (fun _ hr => XS.aloadN X9.here hx rfl (hb hby d7_53) rfl rfl hr) ?_
  show Runs p e below _ (T9.setTop (mkF m 54 #[.val (.ref o0), .val (.ref o1), .val (.int (-1 : Int32)), .val (.int (0 : Int32)), .unset] [(.ref o1), (.int (0 : Int32))]))
  obtain ⟨cq11, kq11, q11a, q11b, q11c⟩ := isOf hZ e9 ((((E1.ext E2).wr W4).ext E7).wr W9)
  obtain ⟨_, _, ⟨T11, L11, k11, n11⟩, -, X11, ⟨Lc11, hQ11, l11, y11, z11⟩, st11⟩ := X9.virtualBack hx (y := (⟨"java/lang/String", "length", "()I"⟩ : MethodName)) (z := (⟨"java/lang/String", "length", "()I"⟩ : MethodName)) hown (mvT hZ (hw _ (List.mem_of_getElem? (i := 40) rfl))) (mvT hZ (hw _ (List.mem_of_getElem? (i := 41) rfl))) (notFace_of_selects (args := #[]) (mvT hZ (hw _ (List.mem_of_getElem? (i := 43) rfl)))) (mvT hZ (hw _ (List.mem_of_getElem? (i := 43) rfl))) (mvT hZ (hw _ (List.mem_of_getElem? (i := 42) rfl))) (by decide) (backOf (W := 1) (rm8 l Z a0 hw [] o1 gC va kv (0 : Int32) [] (.int 0) h9 n0 (Nat.le_trans Z0 K10.1) ((((E1.ext E2).wr W4).ext E7).wr W9) (SC.ext O_10.2) cC ((((FC1.ext E2).other W4 (Or.inl ne_o1_o0)).ext E7).other W9 (Or.inl ne_o1_o0)) ((((FV1.ext E2).other W4 (Or.inl ne_o1_o0)).ext E7).other W9 (Or.inl ne_o1_o0)) ((((V1.ext E2).other W4 ne_va_o0).ext E7).other W9 ne_va_o0)) hZ (hw _ (List.mem_of_getElem? (i := 44) rfl)) (hw _ (List.mem_of_getElem? (i := 2) rfl)) (by decide) (by decide)) q11a q11c (g := (mkF m 54 #[.val (.ref o0), .val (.ref o1), .val (.int (-1 : Int32)), .val (.int (0 : Int32)), .unset] [(.ref o1), (.int (0 : Int32))])) rfl (by rw [hml]; rfl) (Steps.refl _) (argsL := []) (rest := [(.int (0 : Int32))]) (lenOf pd_6 rfl) rfl (by show 2 * 0 + _ ≤ _; exact Nat.le_of_eq rfl) (hb hby d7_54) (fun _ _ => ⟨rfl, e9, (by decide : 2 + 0 ≤ _), (by decide : 256 + 0 ≤ _)⟩)
  dsimp only [Pt.U, Pt.locs, Pt.cells, Pt.slots] at X11 l11 y11 z11 st11 hQ11
  subst l11 y11 z11
  obtain ⟨rfl, Nq11, eq11⟩ := hQ11
  have N11 := Fr.app N9 Nq11
  refine Runs.by (fun _ hr => st11.trans hr) ?_
  show Runs p e below _ (T11.setTop (mkF m 57 #[.val (.ref o0), .val (.ref o1), .val (.int (-1 : Int32)), .val (.int (0 : Int32)), .unset] [(.int (0 : Int32)), (.int (0 : Int32))]))
  have hc57 : ¬ ((0 : Int32) < (0 : Int32)) := (by decide)
  refine Runs.by (fun _ hr => XS.icmpYes X11.here hx rfl (pc0 := 57) (pc' := 129) rfl (hb hby d7_57) rfl (flt hc57).2.1 (by decide) (by decide) hr) ?_
  show Runs p e below _ (T11.setTop (mkF m 129 #[.val (.ref o0), .val (.ref o1), .val (.int (-1 : Int32)), .val (.int (0 : Int32)), .unset] []))
  refine Runs.retV X11 hx hrt hlk (hb hby d7_129) (by decide) (by decide) ?_
  rw [eq11]
  exact ⟨rfl, N11, K10, ((((E0.ext E2).wr W4).ext E7).wr W9), b7, k7, (0 : Int32), (fun _ => (0 : Int32)), Fw9, (G7.other W9 (Ne.symm ne_o0_b7)), own_s0⟩
def Q_rm7_1 (Z : State) (o0 : Addr) (o1 : Addr) (gC : Int32) (vG : Value) (va : Addr) (kv : ClassId) (c0 : Int32) (h0 : Heap) (n0 : Nat) (v : Option Value) (h : Heap) (L : List Loc) : Prop := v = none ∧ Fr n0 L ∧ Keep h0 h [o0] ∧ Exa Z h o0 "com/example/vedette/vedette/io/Utf8Buffer$Stops" ∧ ∃ (t : Addr) (kt : ClassId) (z : Int32) (wf : Nat → Int32), Fld Z h o0 "com/example/vedette/vedette/io/Utf8Buffer$Stops" "chars" "[Z" (.ref t) ∧ Arf Z h t kt .boolean z (fun j_ => .int (wf j_)) ∧ ∀ c : Int32, ¬ c < 0 → own_is z wf c = if c = c0 then (1 : Int32) else (0 : Int32)
theorem pd_7 : parseMethodDescriptor "(I)C" = some ⟨[.int], some .char⟩ := by decide +kernel
theorem pd_8 : parseMethodDescriptor "(II)I" = some ⟨[.int, .int], some .int⟩ := by decide +kernel
set_option maxRecDepth 65536 in
set_option maxHeartbeats 40000000 in
theorem rm7_1 (l : Launch) (Z : State) (a0 : Array Value) (hw : ∀ d ∈ tables_1, d.before a0 Z = true) (ws : List Jvm.Cond) (o0 : Addr) (o1 : Addr) (gC : Int32) (vG : Value) (va : Addr) (kv : ClassId) (c0 : Int32) (h0 : Heap) (n0 : Nat) (Z0 : n0 ≤ h0.size) (E0 : Exa Z h0 o0 "com/example/vedette/vedette/io/Utf8Buffer$Stops") (F0 : Fld Z h0 o0 "com/example/vedette/vedette/io/Utf8Buffer$Stops" "firstBytes" "[Z" .null) (F1 : Fld Z h0 o0 "com/example/vedette/vedette/io/Utf8Buffer$Stops" "chars" "[Z" .null) (g_o0 : n0 ≤ o0) (E1 : Exa Z h0 o1 "java/lang/String") (SC : Sta Z Z.heap "java/lang/String" "COMPACT_STRINGS" "Z" (.int gC)) (cC : ¬ (gC = (0 : Int32))) (hvG : vG.isRef = true) (SG : Sta Z Z.heap "jdk/internal/util/Preconditions" "SIOOBE_FORMATTER" "Ljava/util/function/BiFunction;" vG) (FC1 : Fld Z h0 o1 "java/lang/String" "coder" "B" (.int (0 : Int32))) (FV1 : Fld Z h0 o1 "java/lang/String" "value" "[B" (.ref va)) (V1 : Arv Z h0 va kv .byte (1 : Int32) [(.int (c0.toInt8.toInt32))] (.int 0)) (ne_o1_o0 : o1 ≠ o0) (ne_va_o0 : va ≠ o0) (pc0 : ¬ c0 < 0 ∧ ¬ (255 : Int32) < c0) (O0 : Old Z n0 h0) :
    MetFree l (⟨"com/example/vedette/vedette/io/Utf8Buffer$Stops", "<init>", "(Ljava/lang/String;)V"⟩ : MethodName) (head1 (Jvm.Cond.code (⟨"com/example/vedette/vedette/io/Utf8Buffer$Stops", "<init>", "(Ljava/lang/String;)V"⟩ : MethodName) prog_35_method_1_code 5 none :: ws) ({ frames := 4, cells := 2, slots := 512, locals := 60 } : Room)) (fun a U => a = #[(.ref o0), (.ref o1)] ∧ Z.Warmed39 U.vm ∧ U.heap = h0) (fun _ _ _ _ _ => True) (fun _ U o U' => ∃ v L, o = .returned v ∧ Q_rm7_1 Z o0 o1 gC vG va kv c0 h0 n0 v U'.heap L ∧ FrameEnd U o U' L ({ frames := 4, cells := 2, slots := 512, locals := 60 } : Room).cells ({ frames := 4, cells := 2, slots := 512, locals := 60 } : Room).slots) := by
  refine MetFree.of_bodySF (plainFor_of_name pn_com_example_vedette_vedette_io_Utf8Buffer_Stops) hisR ?_
  intro p e s m args below meth c s₁ Bd hml0 hP hK
  obtain ⟨rfl, hZ, hh⟩ := hP
  have hx := Bd.exec
  have hby := Bd.bytes
  have hlk := BodyLoose.notSynchronized Bd
  have hrt := Bd.returns
  have hml : c.maxLocals = 5 := hml0
  have hown : s.vm.findClass "com/example/vedette/vedette/io/Utf8Buffer$Stops" = some m.cls := findClass_of_methodNamed Bd.named
  have hnm := (name_of_methodNamed Bd.named Bd.method).1
  have X0 : Stand p l e ({ frames := 4, cells := 2, slots := 512, locals := 60 } : Room) s m #[(.ref o0), (.ref o1)] below meth c s₁ [] 0 0 := Stand.of_body Bd
  have e0 : s₁.heap = h0 := by rw [← hh, Bd.state]; rfl
  have N0 := Fr.nil n0
  have K0 : Keep h0 h0 [o0] := Keep.refl h0 _
  show Runs p e below (QE s (Q_rm7_1 Z o0 o1 gC vG va kv c0 h0 n0) ({ frames := 4, cells := 2, slots := 512, locals := 60 } : Room).cells ({ frames := 4, cells := 2, slots := 512, locals := 60 } : Room).slots) (s₁.setTop (entryFrame m #[(.ref o0), (.ref o1)] 5))
  rw [ef_7_11 m o0 o1]
  show Runs p e below _ (s₁.setTop (mkF m 0 #[.val (.ref o0), .val (.ref o1), .unset, .unset, .unset] []))
  refine Runs.by (fun _ hr => XS.aloadN X0.here hx rfl (hb hby d7_0) rfl rfl hr) ?_
  show Runs p e below _ (s₁.setTop (mkF m 1 #[.val (.ref o0), .val (.ref o1), .unset, .unset, .unset] [(.ref o0)]))
  obtain ⟨T1, X1, e1, st1⟩ := initO X0 hx hZ hown (hw _ (List.mem_of_getElem? (i := 36) rfl)) (hw _ (List.mem_of_getElem? (i := 12) rfl)) (hw _ (List.mem_of_getElem? (i := 13) rfl)) e0 (g := (mkF m 1 #[.val (.ref o0), .val (.ref o1), .unset, .unset, .unset] [(.ref o0)])) rfl (by rw [hml]; rfl) rfl (hb hby d7_1) (by decide) (W := 0) (by show 2 * 0 + _ ≤ _; exact Nat.le_of_eq rfl) (by decide)
  refine Runs.by st1 ?_
  show Runs p e below _ (T1.setTop (mkF m 4 #[.val (.ref o0), .val (.ref o1), .unset, .unset, .unset] []))
  refine Runs.by (fun _ hr => XS.aloadN X1.here hx rfl (hb hby d7_4) rfl rfl hr) ?_
  show Runs p e below _ (T1.setTop (mkF m 5 #[.val (.ref o0), .val (.ref o1), .unset, .unset, .unset] [(.ref o0)]))
  refine Runs.by (fun _ hr => XS.sipush X1.here hx rfl (hb hby d7_5) hr) ?_
  show Runs p e below _ (T1.setTop (mkF m 8 #[.val (.ref o0), .val (.ref o1), .unset, .unset, .unset] [(.int (256 : Int32)), (.ref o0)]))
  obtain ⟨T2, h2, k2, X2, e2, E2, A2, st2⟩ := newP X1 hx hZ (hw _ (List.mem_of_getElem? (i := 37) rfl)) e1 (g := (mkF m 8 #[.val (.ref o0), .val (.ref o1), .unset, .unset, .unset] [(.int (256 : Int32)), (.ref o0)])) rfl (hb hby d7_8) rfl (by decide) (cap := 256) (by decide) (by decide) (by decide) (by decide)
  obtain ⟨b2, gz2⟩ : ∃ z, z = h0.size := ⟨_, rfl⟩
  rw [← gz2] at A2 st2
  have ne_o0_b2 : o0 ≠ b2 := Nat.ne_of_lt (Nat.lt_of_lt_of_le E0.lt (Nat.le_of_eq gz2.symm))
  have ne_o1_b2 : o1 ≠ b2 := Nat.ne_of_lt (Nat.lt_of_lt_of_le E1.lt (Nat.le_of_eq gz2.symm))
  have ne_va_b2 : va ≠ b2 := Nat.ne_of_lt (Nat.lt_of_lt_of_le V1.lt (Nat.le_of_eq gz2.symm))
  have g_b2 : n0 ≤ b2 := Nat.le_trans (Nat.le_trans Z0 K0.1) (Nat.le_of_eq gz2.symm)
  have sz_b2 : h0.size ≤ b2 := Nat.le_trans K0.1 (Nat.le_of_eq gz2.symm)
  have K3 : Keep h0 h2 [o0] := K0.ext E2
  have O_3 : Old Z n0 h2 := O0.ext E2
  have G2 : Arf Z h2 b2 k2 .boolean (256 : Int32) (fun j_ => .int ((fun _ => (0 : Int32)) j_)) := Arf.new A2 (by decide)
  refine Runs.by st2 ?_
  show Runs p e below _ (T2.setTop (mkF m 10 #[.val (.ref o0), .val (.ref o1), .unset, .unset, .unset] [(.ref b2), (.ref o0)]))
  obtain ⟨T4, h4, X4, e4, W4, st4⟩ := putF X2 hx hZ hown (host := "") (Or.inl (hw _ (List.mem_of_getElem? (i := 38) rfl))) Via.refl e2 (F0.ext E2) (E0.ext E2) (Or.inr ⟨(hw _ (List.mem_of_getElem? (i := 39) rfl)), rfl, hnm⟩) (hw _ (List.mem_of_getElem? (i := 31) rfl)) (ty := (.array .boolean)) (by decide) rfl rfl (g := (mkF m 10 #[.val (.ref o0), .val (.ref o1), .unset, .unset, .unset] [(.ref b2), (.ref o0)])) rfl rfl (hb hby d7_10)
  have Fw4 := (F0.ext E2).same W4
  have K5 : Keep h0 h4 [o0] := K3.wr W4 (Or.inl (List.mem_of_getElem? (i := 0) rfl))
  have O_5 : Old Z n0 h4 := O_3.wr W4 g_o0
  have N4 := Fr.snoc X4 N0 g_o0
  refine Runs.by st4 ?_
  show Runs p e below _ (T4.setTop (mkF m 13 #[.val (.ref o0), .val (.ref o1), .unset, .unset, .unset] []))
  refine Runs.by (fun _ hr => XS.iconst X4.here hx rfl (hb hby d7_13) hr) ?_
  show Runs p e below _ (T4.setTop (mkF m 14 #[.val (.ref o0), .val (.ref o1), .unset, .unset, .unset] [(.int (-1 : Int32))]))
  refine Runs.by (fun _ hr => XS.istoreN X4.here hx rfl (hb hby d7_14) rfl (l' := #[.val (.ref o0), .val (.ref o1), .val (.int (-1 : Int32)), .unset, .unset]) rfl hr) ?_
  show Runs p e below _ (T4.setTop (mkF m 15 #[.val (.ref o0), .val (.ref o1), .val (.int (-1 : Int32)), .unset, .unset] []))
  refine Runs.by (fun _ hr => XS.iconst X4.here hx rfl (hb hby d7_15) hr) ?_
  show Runs p e below _ (T4.setTop (mkF m 16 #[.val (.ref o0), .val (.ref o1), .val (.int (-1 : Int32)), .unset, .unset] [(.int (0 : Int32))]))
  refine Runs.by (fun _ hr => XS.istoreN X4.here hx rfl (hb hby d7_16) rfl (l' := #[.val (.ref o0), .val (.ref o1), .val (.int (-1 : Int32)), .val (.int (0 : Int32)), .unset]) rfl hr) ?_
  show Runs p e below _ (T4.setTop (mkF m 17 #[.val (.ref o0), .val (.ref o1), .val (.int (-1 : Int32)), .val (.int (0 : Int32)), .unset] []))
  refine Runs.by (fun _ hr => XS.iloadN X4.here hx rfl (hb hby d7_17) rfl  hr) ?_
  show Runs p e below _ (T4.setTop (mkF m 18 #[.val (.ref o0), .val (.ref o1), .val (.int (-1 : Int32)), .val (.int (0 : Int32)), .unset] [(.int (0 : Int32))]))
  refine Runs.by (fun _ hr => XS.aloadN X4.here hx rfl (hb hby d7_18) rfl rfl hr) ?_
  show Runs p e below _ (T4.setTop (mkF m 19 #[.val (.ref o0), .val (.ref o1), .val (.int (-1 : Int32)), .val (.int (0 : Int32)), .unset] [(.ref o1), (.int (0 : Int32))]))
  obtain ⟨cq6, kq6, q6a, q6b, q6c⟩ := isOf hZ e4 ((E1.ext E2).wr W4)
  obtain ⟨_, _, ⟨T6, L6, k6, n6⟩, -, X6, ⟨Lc6, hQ6, l6, y6, z6⟩, st6⟩ := X4.virtualBack hx (y := (⟨"java/lang/String", "length", "()I"⟩ : MethodName)) (z := (⟨"java/lang/String", "length", "()I"⟩ : MethodName)) hown (mvT hZ (hw _ (List.mem_of_getElem? (i := 40) rfl))) (mvT hZ (hw _ (List.mem_of_getElem? (i := 41) rfl))) (notFace_of_selects (args := #[]) (mvT hZ (hw _ (List.mem_of_getElem? (i := 43) rfl)))) (mvT hZ (hw _ (List.mem_of_getElem? (i := 43) rfl))) (mvT hZ (hw _ (List.mem_of_getElem? (i := 42) rfl))) (by decide) (backOf (W := 1) (rm8 l Z a0 hw [] o1 gC va kv (1 : Int32) [(.int (c0.toInt8.toInt32))] (.int 0) h4 n0 (Nat.le_trans Z0 K5.1) ((E1.ext E2).wr W4) (SC.ext O_5.2) cC ((FC1.ext E2).other W4 (Or.inl ne_o1_o0)) ((FV1.ext E2).other W4 (Or.inl ne_o1_o0)) ((V1.ext E2).other W4 ne_va_o0)) hZ (hw _ (List.mem_of_getElem? (i := 44) rfl)) (hw _ (List.mem_of_getElem? (i := 2) rfl)) (by decide) (by decide)) q6a q6c (g := (mkF m 19 #[.val (.ref o0), .val (.ref o1), .val (.int (-1 : Int32)), .val (.int (0 : Int32)), .unset] [(.ref o1), (.int (0 : Int32))])) rfl (by rw [hml]; rfl) (Steps.refl _) (argsL := []) (rest := [(.int (0 : Int32))]) (lenOf pd_6 rfl) rfl (by show 2 * 0 + _ ≤ _; exact Nat.le_of_eq rfl) (hb hby d7_19) (fun _ _ => ⟨rfl, e4, (by decide : 1 + 0 ≤ _), (by decide : 256 + 0 ≤ _)⟩)
  dsimp only [Pt.U, Pt.locs, Pt.cells, Pt.slots] at X6 l6 y6 z6 st6 hQ6
  subst l6 y6 z6
  obtain ⟨rfl, Nq6, eq6⟩ := hQ6
  have N6 := Fr.app N4 Nq6
  refine Runs.by (fun _ hr => st6.trans hr) ?_
  show Runs p e below _ (T6.setTop (mkF m 22 #[.val (.ref o0), .val (.ref o1), .val (.int (-1 : Int32)), .val (.int (0 : Int32)), .unset] [(.int (1 : Int32)), (.int (0 : Int32))]))
  have hc22 : (0 : Int32) < (1 : Int32) := (by decide)
  refine Runs.by (fun _ hr => XS.icmpNo X6.here hx rfl (hb hby d7_22) rfl (tlt hc22).2.1 hr) ?_
  show Runs p e below _ (T6.setTop (mkF m 25 #[.val (.ref o0), .val (.ref o1), .val (.int (-1 : Int32)), .val (.int (0 : Int32)), .unset] []))
  refine Runs.by (fun _ hr => XS.iloadN X6.here hx rfl (hb hby d7_25) rfl  hr) ?_
  show Runs p e below _ (T6.setTop (mkF m 26 #[.val (.ref o0), .val (.ref o1), .val (.int (-1 : Int32)), .val (.int (0 : Int32)), .unset] [(.int (-1 : Int32))]))
  refine Runs.by (fun _ hr => XS.aloadN X6.here hx rfl (hb hby d7_26) rfl rfl hr) ?_
  show Runs p e below _ (T6.setTop (mkF m 27 #[.val (.ref o0), .val (.ref o1), .val (.int (-1 : Int32)), .val (.int (0 : Int32)), .unset] [(.ref o1), (.int (-1 : Int32))]))
  refine Runs.by (fun _ hr => XS.iloadN X6.here hx rfl (hb hby d7_27) rfl  hr) ?_
  show Runs p e below _ (T6.setTop (mkF m 28 #[.val (.ref o0), .val (.ref o1), .val (.int (-1 : Int32)), .val (.int (0 : Int32)), .unset] [(.int (0 : Int32)), (.ref o1), (.int (-1 : Int32))]))
  obtain ⟨cq7, kq7, q7a, q7b, q7c⟩ := isOf hZ eq6 ((E1.ext E2).wr W4)
  obtain ⟨_, _, ⟨T7, L7, k7, n7⟩, -, X7, ⟨Lc7, hQ7, l7, y7, z7⟩, st7⟩ := X6.virtualBack hx (y := (⟨"java/lang/String", "charAt", "(I)C"⟩ : MethodName)) (z := (⟨"java/lang/String", "charAt", "(I)C"⟩ : MethodName)) hown (mvT hZ (hw _ (List.mem_of_getElem? (i := 50) rfl))) (mvT hZ (hw _ (List.mem_of_getElem? (i := 51) rfl))) (notFace_of_selects (args := #[]) (mvT hZ (hw _ (List.mem_of_getElem? (i := 53) rfl)))) (mvT hZ (hw _ (List.mem_of_getElem? (i := 53) rfl))) (mvT hZ (hw _ (List.mem_of_getElem? (i := 52) rfl))) (by decide) (backOf (W := 1) (rm10 l Z a0 hw [] o1 (0 : Int32) gC vG va kv (1 : Int32) [(.int (c0.toInt8.toInt32))] (.int 0) (c0.toInt8.toInt32) c0 h4 n0 (Nat.le_trans Z0 K5.1) ((E1.ext E2).wr W4) (SC.ext O_5.2) cC ((FC1.ext E2).other W4 (Or.inl ne_o1_o0)) ((FV1.ext E2).other W4 (Or.inl ne_o1_o0)) hvG ⟨by decide, by decide⟩ (SG.ext O_5.2) ((V1.ext E2).other W4 ne_va_o0) rfl (own_cc pc0)) hZ (hw _ (List.mem_of_getElem? (i := 54) rfl)) (hw _ (List.mem_of_getElem? (i := 2) rfl)) (by decide) (by decide)) q7a q7c (g := (mkF m 28 #[.val (.ref o0), .val (.ref o1), .val (.int (-1 : Int32)), .val (.int (0 : Int32)), .unset] [(.int (0 : Int32)), (.ref o1), (.int (-1 : Int32))])) rfl (by rw [hml]; rfl) (Steps.refl _) (argsL := [(.int (0 : Int32))]) (rest := [(.int (-1 : Int32))]) (lenOf pd_7 rfl) rfl (by show 2 * 0 + _ ≤ _; exact Nat.le_of_eq rfl) (hb hby d7_28) (fun _ _ => ⟨rfl, eq6, (by decide : 1 + 0 ≤ _), (by decide : 256 + 0 ≤ _)⟩)
  dsimp only [Pt.U, Pt.locs, Pt.cells, Pt.slots] at X7 l7 y7 z7 st7 hQ7
  subst l7 y7 z7
  obtain ⟨rfl, Nq7, eq7⟩ := hQ7
  have N7 := Fr.app N6 Nq7
  refine Runs.by (fun _ hr => st7.trans hr) ?_
  show Runs p e below _ (T7.setTop (mkF m 31 #[.val (.ref o0), .val (.ref o1), .val (.int (-1 : Int32)), .val (.int (0 : Int32)), .unset] [(.int c0), (.int (-1 : Int32))]))
  obtain ⟨_, _, ⟨T8, L8, k8, n8⟩, -, X8, ⟨Lc8, hQ8, l8, y8, z8⟩, st8⟩ := Jvm.LawKit.callS X7 hx (y := (⟨"java/lang/Math", "max", "(II)I"⟩ : MethodName)) hown (mvT hZ (hw _ (List.mem_of_getElem? (i := 72) rfl))) (mvT hZ (hw _ (List.mem_of_getElem? (i := 73) rfl))) (mvT hZ (hw _ (List.mem_of_getElem? (i := 74) rfl))) (mvT hZ (hw _ (List.mem_of_getElem? (i := 75) rfl))) (by decide) (backOf (W := 0) (rm15 l Z a0 hw [] (-1 : Int32) c0  h4 n0 (Nat.le_trans Z0 K5.1) ) hZ (hw _ (List.mem_of_getElem? (i := 75) rfl)) (hw _ (List.mem_of_getElem? (i := 74) rfl)) (by decide) (by decide)) (g := (mkF m 31 #[.val (.ref o0), .val (.ref o1), .val (.int (-1 : Int32)), .val (.int (0 : Int32)), .unset] [(.int c0), (.int (-1 : Int32))])) rfl (by rw [hml]; rfl) (argsL := [(.int (-1 : Int32)), (.int c0)]) (rest := []) (lenOf pd_8 rfl) rfl (by show 2 * 0 + _ ≤ _; exact Nat.le_of_eq rfl) (hb hby d7_31) (fun _ _ => ⟨rfl, eq7, (by decide : 1 + 0 ≤ _), (by decide : 256 + 0 ≤ _)⟩)
  dsimp only [Pt.U, Pt.locs, Pt.cells, Pt.slots] at X8 l8 y8 z8 st8 hQ8
  subst l8 y8 z8
  obtain ⟨rfl, Nq8, eq8⟩ := hQ8
  have N8 := Fr.app N7 Nq8
  refine Runs.by (fun t hr => st8 t hr) ?_
  have hm1 := own_mxs (a := (-1 : Int32)) (by decide) (by decide) pc0
  generalize own_max (-1 : Int32) c0 = m1 at hm1 ⊢
  show Runs p e below _ (T8.setTop (mkF m 34 #[.val (.ref o0), .val (.ref o1), .val (.int (-1 : Int32)), .val (.int (0 : Int32)), .unset] [(.int m1)]))
  refine Runs.by (fun _ hr => XS.istoreN X8.here hx rfl (hb hby d7_34) rfl (l' := #[.val (.ref o0), .val (.ref o1), .val (.int m1), .val (.int (0 : Int32)), .unset]) rfl hr) ?_
  show Runs p e below _ (T8.setTop (mkF m 35 #[.val (.ref o0), .val (.ref o1), .val (.int m1), .val (.int (0 : Int32)), .unset] []))
  refine Runs.by (fun _ hr => XS.iinc X8.here hx rfl (hb hby d7_35) rfl (l' := #[.val (.ref o0), .val (.ref o1), .val (.int m1), .val (.int (1 : Int32)), .unset]) rfl hr) ?_
  show Runs p e below _ (T8.setTop (mkF m 38 #[.val (.ref o0), .val (.ref o1), .val (.int m1), .val (.int (1 : Int32)), .unset] []))
  refine Runs.by (fun _ hr => XS.goto X8.here hx rfl (pc0 := 38) (pc' := 17) rfl (hb hby d7_38) (by decide) (by decide) hr) ?_
  show Runs p e below _ (T8.setTop (mkF m 17 #[.val (.ref o0), .val (.ref o1), .val (.int m1), .val (.int (1 : Int32)), .unset] []))
  refine Runs.by (fun _ hr => XS.iloadN X8.here hx rfl (hb hby d7_17) rfl  hr) ?_
  show Runs p e below _ (T8.setTop (mkF m 18 #[.val (.ref o0), .val (.ref o1), .val (.int m1), .val (.int (1 : Int32)), .unset] [(.int (1 : Int32))]))
  refine Runs.by (fun _ hr => XS.aloadN X8.here hx rfl (hb hby d7_18) rfl rfl hr) ?_
  show Runs p e below _ (T8.setTop (mkF m 19 #[.val (.ref o0), .val (.ref o1), .val (.int m1), .val (.int (1 : Int32)), .unset] [(.ref o1), (.int (1 : Int32))]))
  obtain ⟨cq9, kq9, q9a, q9b, q9c⟩ := isOf hZ eq8 ((E1.ext E2).wr W4)
  obtain ⟨_, _, ⟨T9, L9, k9, n9⟩, -, X9, ⟨Lc9, hQ9, l9, y9, z9⟩, st9⟩ := X8.virtualBack hx (y := (⟨"java/lang/String", "length", "()I"⟩ : MethodName)) (z := (⟨"java/lang/String", "length", "()I"⟩ : MethodName)) hown (mvT hZ (hw _ (List.mem_of_getElem? (i := 40) rfl))) (mvT hZ (hw _ (List.mem_of_getElem? (i := 41) rfl))) (notFace_of_selects (args := #[]) (mvT hZ (hw _ (List.mem_of_getElem? (i := 43) rfl)))) (mvT hZ (hw _ (List.mem_of_getElem? (i := 43) rfl))) (mvT hZ (hw _ (List.mem_of_getElem? (i := 42) rfl))) (by decide) (backOf (W := 1) (rm8 l Z a0 hw [] o1 gC va kv (1 : Int32) [(.int (c0.toInt8.toInt32))] (.int 0) h4 n0 (Nat.le_trans Z0 K5.1) ((E1.ext E2).wr W4) (SC.ext O_5.2) cC ((FC1.ext E2).other W4 (Or.inl ne_o1_o0)) ((FV1.ext E2).other W4 (Or.inl ne_o1_o0)) ((V1.ext E2).other W4 ne_va_o0)) hZ (hw _ (List.mem_of_getElem? (i := 44) rfl)) (hw _ (List.mem_of_getElem? (i := 2) rfl)) (by decide) (by decide)) q9a q9c (g := (mkF m 19 #[.val (.ref o0), .val (.ref o1), .val (.int m1), .val (.int (1 : Int32)), .unset] [(.ref o1), (.int (1 : Int32))])) rfl (by rw [hml]; rfl) (Steps.refl _) (argsL := []) (rest := [(.int (1 : Int32))]) (lenOf pd_6 rfl) rfl (by show 2 * 0 + _ ≤ _; exact Nat.le_of_eq rfl) (hb hby d7_19) (fun _ _ => ⟨rfl, eq8, (by decide : 1 + 0 ≤ _), (by decide : 256 + 0 ≤ _)⟩)
  dsimp only [Pt.U, Pt.locs, Pt.cells, Pt.slots] at X9 l9 y9 z9 st9 hQ9
  subst l9 y9 z9
  obtain ⟨rfl, Nq9, eq9⟩ := hQ9
  have N9 := Fr.app N8 Nq9
  refine Runs.by (fun _ hr => st9.trans hr) ?_
  show Runs p e below _ (T9.setTop (mkF m 22 #[.val (.ref o0), .val (.ref o1), .val (.int m1), .val (.int (1 : Int32)), .unset] [(.int (1 : Int32)), (.int (1 : Int32))]))
  have hc22 : ¬ ((1 : Int32) < (1 : Int32)) := (by decide)
  refine Runs.by (fun _ hr => XS.icmpYes X9.here hx rfl (pc0 := 22) (pc' := 41) rfl (hb hby d7_22) rfl (flt hc22).2.1 (by decide) (by decide) hr) ?_
  show Runs p e below _ (T9.setTop (mkF m 41 #[.val (.ref o0), .val (.ref o1), .val (.int m1), .val (.int (1 : Int32)), .unset] []))
  refine Runs.by (fun _ hr => XS.aloadN X9.here hx rfl (hb hby d7_41) rfl rfl hr) ?_
  show Runs p e below _ (T9.setTop (mkF m 42 #[.val (.ref o0), .val (.ref o1), .val (.int m1), .val (.int (1 : Int32)), .unset] [(.ref o0)]))
  refine Runs.by (fun _ hr => XS.iloadN X9.here hx rfl (hb hby d7_42) rfl  hr) ?_
  show Runs p e below _ (T9.setTop (mkF m 43 #[.val (.ref o0), .val (.ref o1), .val (.int m1), .val (.int (1 : Int32)), .unset] [(.int m1), (.ref o0)]))
  refine Runs.by (fun _ hr => XS.iconst X9.here hx rfl (hb hby d7_43) hr) ?_
  show Runs p e below _ (T9.setTop (mkF m 44 #[.val (.ref o0), .val (.ref o1), .val (.int m1), .val (.int (1 : Int32)), .unset] [(.int (1 : Int32)), (.int m1), (.ref o0)]))
  refine Runs.by (fun _ hr => XS.iadd X9.here hx rfl (hb hby d7_44) rfl hr) ?_
  have hz := own_suc hm1.1 hm1.2.1
  have hz_c0 : c0.toInt < (m1 + (1 : Int32)).toInt := by omega
  have hr_c0 := own_rng pc0
  show Runs p e below _ (T9.setTop (mkF m 45 #[.val (.ref o0), .val (.ref o1), .val (.int m1), .val (.int (1 : Int32)), .unset] [(.int (m1 + (1 : Int32))), (.ref o0)]))
  obtain ⟨T10, h10, k10, X10, e10, E10, A10, st10⟩ := newP X9 hx hZ (hw _ (List.mem_of_getElem? (i := 37) rfl)) eq9 (g := (mkF m 45 #[.val (.ref o0), .val (.ref o1), .val (.int m1), .val (.int (1 : Int32)), .unset] [(.int (m1 + (1 : Int32))), (.ref o0)])) rfl (hb hby d7_45) rfl (own_nneg (by omega)) (cap := 256) (own_cap (by omega)) (by decide) (by decide) (by decide)
  obtain ⟨b10, gz10⟩ : ∃ z, z = h4.size := ⟨_, rfl⟩
  rw [← gz10] at A10 st10
  have ne_o0_b10 : o0 ≠ b10 := Nat.ne_of_lt (Nat.lt_of_lt_of_le ((E0.ext E2).wr W4).lt (Nat.le_of_eq gz10.symm))
  have ne_o1_b10 : o1 ≠ b10 := Nat.ne_of_lt (Nat.lt_of_lt_of_le ((E1.ext E2).wr W4).lt (Nat.le_of_eq gz10.symm))
  have ne_va_b10 : va ≠ b10 := Nat.ne_of_lt (Nat.lt_of_lt_of_le ((V1.ext E2).other W4 ne_va_o0).lt (Nat.le_of_eq gz10.symm))
  have ne_b2_b10 : b2 ≠ b10 := Nat.ne_of_lt (Nat.lt_of_lt_of_le (G2.other W4 (Ne.symm ne_o0_b2)).lt (Nat.le_of_eq gz10.symm))
  have g_b10 : n0 ≤ b10 := Nat.le_trans (Nat.le_trans Z0 K5.1) (Nat.le_of_eq gz10.symm)
  have sz_b10 : h0.size ≤ b10 := Nat.le_trans K5.1 (Nat.le_of_eq gz10.symm)
  have K11 : Keep h0 h10 [o0] := K5.ext E10
  have O_11 : Old Z n0 h10 := O_5.ext E10
  have G10 : Arf Z h10 b10 k10 .boolean (m1 + (1 : Int32)) (fun j_ => .int ((fun _ => (0 : Int32)) j_)) := Arf.new A10 (own_nneg (by omega))
  refine Runs.by st10 ?_
  show Runs p e below _ (T10.setTop (mkF m 47 #[.val (.ref o0), .val (.ref o1), .val (.int m1), .val (.int (1 : Int32)), .unset] [(.ref b10), (.ref o0)]))
  obtain ⟨T12, h12, X12, e12, W12, st12⟩ := putF X10 hx hZ hown (host := "") (Or.inl (hw _ (List.mem_of_getElem? (i := 76) rfl))) Via.refl e10 (((F1.ext E2).other W4 (Or.inr (slot_ne (Or.inr (hw _ (List.mem_of_getElem? (i := 77) rfl))) (Or.inr (hw _ (List.mem_of_getElem? (i := 39) rfl))) (by decide) (t := (.array .boolean)) (t' := (.array .boolean)) (by decide) (by decide)))).ext E10) (((E0.ext E2).wr W4).ext E10) (Or.inr ⟨(hw _ (List.mem_of_getElem? (i := 77) rfl)), rfl, hnm⟩) (hw _ (List.mem_of_getElem? (i := 31) rfl)) (ty := (.array .boolean)) (by decide) rfl rfl (g := (mkF m 47 #[.val (.ref o0), .val (.ref o1), .val (.int m1), .val (.int (1 : Int32)), .unset] [(.ref b10), (.ref o0)])) rfl rfl (hb hby d7_47)
  have Fw12 := (((F1.ext E2).other W4 (Or.inr (slot_ne (Or.inr (hw _ (List.mem_of_getElem? (i := 77) rfl))) (Or.inr (hw _ (List.mem_of_getElem? (i := 39) rfl))) (by decide) (t := (.array .boolean)) (t' := (.array .boolean)) (by decide) (by decide)))).ext E10).same W12
  have K13 : Keep h0 h12 [o0] := K11.wr W12 (Or.inl (List.mem_of_getElem? (i := 0) rfl))
  have O_13 : Old Z n0 h12 := O_11.wr W12 g_o0
  have N12 := Fr.snoc X12 N9 g_o0
  refine Runs.by st12 ?_
  show Runs p e below _ (T12.setTop (mkF m 50 #[.val (.ref o0), .val (.ref o1), .val (.int m1), .val (.int (1 : Int32)), .unset] []))
  refine Runs.by (fun _ hr => XS.iconst X12.here hx rfl (hb hby d7_50) hr) ?_
  show Runs p e below _ (T12.setTop (mkF m 51 #[.val (.ref o0), .val (.ref o1), .val (.int m1), .val (.int (1 : Int32)), .unset] [(.int (0 : Int32))]))
  refine Runs.by (fun _ hr => XS.istoreN X12.here hx rfl (hb hby d7_51) rfl (l' := #[.val (.ref o0), .val (.ref o1), .val (.int m1), .val (.int (0 : Int32)), .unset]) rfl hr) ?_
  show Runs p e below _ (T12.setTop (mkF m 52 #[.val (.ref o0), .val (.ref o1), .val (.int m1), .val (.int (0 : Int32)), .unset] []))
  refine Runs.by (fun _ hr => XS.iloadN X12.here hx rfl (hb hby d7_52) rfl  hr) ?_
  show Runs p e below _ (T12.setTop (mkF m 53 #[.val (.ref o0), .val (.ref o1), .val (.int m1), .val (.int (0 : Int32)), .unset] [(.int (0 : Int32))]))
  refine Runs.by (fun _ hr => XS.aloadN X12.here hx rfl (hb hby d7_53) rfl rfl hr) ?_
  show Runs p e below _ (T12.setTop (mkF m 54 #[.val (.ref o0), .val (.ref o1), .val (.int m1), .val (.int (0 : Int32)), .unset] [(.ref o1), (.int (0 : Int32))]))
  obtain ⟨cq14, kq14, q14a, q14b, q14c⟩ := isOf hZ e12 ((((E1.ext E2).wr W4).ext E10).wr W12)
  obtain ⟨_, _, ⟨T14, L14, k14, n14⟩, -, X14, ⟨Lc14, hQ14, l14, y14, z14⟩, st14⟩ := X12.virtualBack hx (y := (⟨"java/lang/String", "length", "()I"⟩ : MethodName)) (z := (⟨"java/lang/String", "length", "()I"⟩ : MethodName)) hown (mvT hZ (hw _ (List.mem_of_getElem? (i := 40) rfl))) (mvT hZ (hw _ (List.mem_of_getElem? (i := 41) rfl))) (notFace_of_selects (args := #[]) (mvT hZ (hw _ (List.mem_of_getElem? (i := 43) rfl)))) (mvT hZ (hw _ (List.mem_of_getElem? (i := 43) rfl))) (mvT hZ (hw _ (List.mem_of_getElem? (i := 42) rfl))) (by decide) (backOf (W := 1) (rm8 l Z a0 hw [] o1 gC va kv (1 : Int32) [(.int (c0.toInt8.toInt32))] (.int 0) h12 n0 (Nat.le_trans Z0 K13.1) ((((E1.ext E2).wr W4).ext E10).wr W12) (SC.ext O_13.2) cC ((((FC1.ext E2).other W4 (Or.inl ne_o1_o0)).ext E10).other W12 (Or.inl ne_o1_o0)) ((((FV1.ext E2).other W4 (Or.inl ne_o1_o0)).ext E10).other W12 (Or.inl ne_o1_o0)) ((((V1.ext E2).other W4 ne_va_o0).ext E10).other W12 ne_va_o0)) hZ (hw _ (List.mem_of_getElem? (i := 44) rfl)) (hw _ (List.mem_of_getElem? (i := 2) rfl)) (by decide) (by decide)) q14a q14c (g := (mkF m 54 #[.val (.ref o0), .val (.ref o1), .val (.int m1), .val (.int (0 : Int32)), .unset] [(.ref o1), (.int (0 : Int32))])) rfl (by rw [hml]; rfl) (Steps.refl _) (argsL := []) (rest := [(.int (0 : Int32))]) (lenOf pd_6 rfl) rfl (by show 2 * 0 + _ ≤ _; exact Nat.le_of_eq rfl) (hb hby d7_54) (fun _ _ => ⟨rfl, e12, (by decide : 2 + 0 ≤ _), (by decide : 512 + 0 ≤ _)⟩)
  dsimp only [Pt.U, Pt.locs, Pt.cells, Pt.slots] at X14 l14 y14 z14 st14 hQ14
  subst l14 y14 z14
  obtain ⟨rfl, Nq14, eq14⟩ := hQ14
  have N14 := Fr.app N12 Nq14
  refine Runs.by (fun _ hr => st14.trans hr) ?_
  show Runs p e below _ (T14.setTop (mkF m 57 #[.val (.ref o0), .val (.ref o1), .val (.int m1), .val (.int (0 : Int32)), .unset] [(.int (1 : Int32)), (.int (0 : Int32))]))
  have hc57 : (0 : Int32) < (1 : Int32) := (by decide)
  refine Runs.by (fun _ hr => XS.icmpNo X14.here hx rfl (hb hby d7_57) rfl (tlt hc57).2.1 hr) ?_
  show Runs p e below _ (T14.setTop (mkF m 60 #[.val (.ref o0), .val (.ref o1), .val (.int m1), .val (.int (0 : Int32)), .unset] []))
  refine Runs.by (fun _ hr => XS.aloadN X14.here hx rfl (hb hby d7_60) rfl rfl hr) ?_
  show Runs p e below _ (T14.setTop (mkF m 61 #[.val (.ref o0), .val (.ref o1), .val (.int m1), .val (.int (0 : Int32)), .unset] [(.ref o1)]))
  refine Runs.by (fun _ hr => XS.iloadN X14.here hx rfl (hb hby d7_61) rfl  hr) ?_
  show Runs p e below _ (T14.setTop (mkF m 62 #[.val (.ref o0), .val (.ref o1), .val (.int m1), .val (.int (0 : Int32)), .unset] [(.int (0 : Int32)), (.ref o1)]))
  obtain ⟨cq15, kq15, q15a, q15b, q15c⟩ := isOf hZ eq14 ((((E1.ext E2).wr W4).ext E10).wr W12)
  obtain ⟨_, _, ⟨T15, L15, k15, n15⟩, -, X15, ⟨Lc15, hQ15, l15, y15, z15⟩, st15⟩ := X14.virtualBack hx (y := (⟨"java/lang/String", "charAt", "(I)C"⟩ : MethodName)) (z := (⟨"java/lang/String", "charAt", "(I)C"⟩ : MethodName)) hown (mvT hZ (hw _ (List.mem_of_getElem? (i := 50) rfl))) (mvT hZ (hw _ (List.mem_of_getElem? (i := 51) rfl))) (notFace_of_selects (args := #[]) (mvT hZ (hw _ (List.mem_of_getElem? (i := 53) rfl)))) (mvT hZ (hw _ (List.mem_of_getElem? (i := 53) rfl))) (mvT hZ (hw _ (List.mem_of_getElem? (i := 52) rfl))) (by decide) (backOf (W := 0) (rm10 l Z a0 hw [] o1 (0 : Int32) gC vG va kv (1 : Int32) [(.int (c0.toInt8.toInt32))] (.int 0) (c0.toInt8.toInt32) c0 h12 n0 (Nat.le_trans Z0 K13.1) ((((E1.ext E2).wr W4).ext E10).wr W12) (SC.ext O_13.2) cC ((((FC1.ext E2).other W4 (Or.inl ne_o1_o0)).ext E10).other W12 (Or.inl ne_o1_o0)) ((((FV1.ext E2).other W4 (Or.inl ne_o1_o0)).ext E10).other W12 (Or.inl ne_o1_o0)) hvG ⟨by decide, by decide⟩ (SG.ext O_13.2) ((((V1.ext E2).other W4 ne_va_o0).ext E10).other W12 ne_va_o0) rfl (own_cc pc0)) hZ (hw _ (List.mem_of_getElem? (i := 54) rfl)) (hw _ (List.mem_of_getElem? (i := 2) rfl)) (by decide) (by decide)) q15a q15c (g := (mkF m 62 #[.val (.ref o0), .val (.ref o1), .val (.int m1), .val (.int (0 : Int32)), .unset] [(.int (0 : Int32)), (.ref o1)])) rfl (by rw [hml]; rfl) (Steps.refl _) (argsL := [(.int (0 : Int32))]) (rest := []) (lenOf pd_7 rfl) rfl (by show 2 * 0 + _ ≤ _; exact Nat.le_of_eq rfl) (hb hby d7_62) (fun _ _ => ⟨rfl, eq14, (by decide : 2 + 0 ≤ _), (by decide : 512 + 0 ≤ _)⟩)
  dsimp only [Pt.U, Pt.locs, Pt.cells, Pt.slots] at X15 l15 y15 z15 st15 hQ15
  subst l15 y15 z15
  obtain ⟨rfl, Nq15, eq15⟩ := hQ15
  have N15 := Fr.app N14 Nq15
  refine Runs.by (fun _ hr => st15.trans hr) ?_
  show Runs p e below _ (T15.setTop (mkF m 65 #[.val (.ref o0), .val (.ref o1), .val (.int m1), .val (.int (0 : Int32)), .unset] [(.int c0)]))
  refine Runs.by (fun _ hr => XS.istore X15.here hx rfl (hb hby d7_65) rfl (l' := #[.val (.ref o0), .val (.ref o1), .val (.int m1), .val (.int (0 : Int32)), .val (.int c0)]) rfl hr) ?_
  show Runs p e below _ (T15.setTop (mkF m 67 #[.val (.ref o0), .val (.ref o1), .val (.int m1), .val (.int (0 : Int32)), .val (.int c0)] []))
  refine Runs.by (fun _ hr => XS.aloadN X15.here hx rfl (hb hby d7_67) rfl rfl hr) ?_
  show Runs p e below _ (T15.setTop (mkF m 68 #[.val (.ref o0), .val (.ref o1), .val (.int m1), .val (.int (0 : Int32)), .val (.int c0)] [(.ref o0)]))
  obtain ⟨T16, X16, e16, st16⟩ := getF X15 hx hZ hown (host := "") (Or.inl (hw _ (List.mem_of_getElem? (i := 76) rfl))) Via.refl eq15 Fw12 (g := (mkF m 68 #[.val (.ref o0), .val (.ref o1), .val (.int m1), .val (.int (0 : Int32)), .val (.int c0)] [(.ref o0)])) rfl rfl (hb hby d7_68)
  refine Runs.by st16 ?_
  show Runs p e below _ (T16.setTop (mkF m 71 #[.val (.ref o0), .val (.ref o1), .val (.int m1), .val (.int (0 : Int32)), .val (.int c0)] [(.ref b10)]))
  refine Runs.by (fun _ hr => XS.iload X16.here hx rfl (hb hby d7_71) rfl  hr) ?_
  show Runs p e below _ (T16.setTop (mkF m 73 #[.val (.ref o0), .val (.ref o1), .val (.int m1), .val (.int (0 : Int32)), .val (.int c0)] [(.int c0), (.ref b10)]))
  refine Runs.by (fun _ hr => XS.iconst X16.here hx rfl (hb hby d7_73) hr) ?_
  show Runs p e below _ (T16.setTop (mkF m 74 #[.val (.ref o0), .val (.ref o1), .val (.int m1), .val (.int (0 : Int32)), .val (.int c0)] [(.int (1 : Int32)), (.int c0), (.ref b10)]))
  obtain ⟨cl17, Ar17, q17, S17, N17', H17⟩ := id (G10.other W12 (Ne.symm ne_o0_b10))
  have ix17 := own_ix (j := c0) (z := (m1 + (1 : Int32))) (n := c0.toNatClampNeg) (own_tn hr_c0.1) hz_c0
  have hin17 : ¬ (c0 < 0 ∨ cl17.slots.size ≤ (c0).toNatClampNeg) := inb_of S17 ix17.1
  obtain ⟨T17, h17, X17, e17, W17, st17⟩ := stZ X16 hx hZ e16 Ar17 (j := c0) hin17 (g := (mkF m 74 #[.val (.ref o0), .val (.ref o1), .val (.int m1), .val (.int (0 : Int32)), .val (.int c0)] [(.int (1 : Int32)), (.int c0), (.ref b10)])) rfl rfl (hb hby d7_74)
  have G17 : Arf Z h17 b10 k10 .boolean (m1 + (1 : Int32)) (fun j_ => .int ((own_up (fun _ => (0 : Int32)) (c0.toNatClampNeg) (nar .boolean (1 : Int32))) j_)) := (Arf.set Ar17 q17 S17 N17' H17 W17 ix17.2.1).cast (fun j_ _ => by simp only [own_up]; split <;> rfl)
  have K18 : Keep h0 h17 [o0] := K13.wr W17 (Or.inr sz_b10)
  have O_18 : Old Z n0 h17 := O_13.wr W17 g_b10
  have N17 := Fr.snoc X17 N15 g_b10
  refine Runs.by st17 ?_
  show Runs p e below _ (T17.setTop (mkF m 75 #[.val (.ref o0), .val (.ref o1), .val (.int m1), .val (.int (0 : Int32)), .val (.int c0)] []))
  refine Runs.by (fun _ hr => XS.aloadN X17.here hx rfl (hb hby d7_75) rfl rfl hr) ?_
  show Runs p e below _ (T17.setTop (mkF m 76 #[.val (.ref o0), .val (.ref o1), .val (.int m1), .val (.int (0 : Int32)), .val (.int c0)] [(.ref o0)]))
  obtain ⟨T19, X19, e19, st19⟩ := getF X17 hx hZ hown (host := "") (Or.inl (hw _ (List.mem_of_getElem? (i := 38) rfl))) Via.refl e17 (((Fw4.ext E10).other W12 (Or.inr (slot_ne (Or.inr (hw _ (List.mem_of_getElem? (i := 39) rfl))) (Or.inr (hw _ (List.mem_of_getElem? (i := 77) rfl))) (by decide) (t := (.array .boolean)) (t' := (.array .boolean)) (by decide) (by decide)))).other W17 (Or.inl ne_o0_b10)) (g := (mkF m 76 #[.val (.ref o0), .val (.ref o1), .val (.int m1), .val (.int (0 : Int32)), .val (.int c0)] [(.ref o0)])) rfl rfl (hb hby d7_76)
  refine Runs.by st19 ?_
  have JJ20 : ∀ (ixJJ20 : Int32) (TJ21 : State) (lJ21 : List Loc) (XJ21 : Stand p l e ({ frames := 4, cells := 2, slots := 512, locals := 60 } : Room) s m #[(.ref o0), (.ref o1)] below meth c TJ21 lJ21 2 512) (eJ21 : TJ21.heap = h17) (NJ21 : Fr n0 lJ21) (hixJJ20 : 0 ≤ ixJJ20.toInt ∧ ixJJ20.toInt < (256 : Int32).toInt), Runs p e below (QE s (Q_rm7_1 Z o0 o1 gC vG va kv c0 h0 n0) ({ frames := 4, cells := 2, slots := 512, locals := 60 } : Room).cells ({ frames := 4, cells := 2, slots := 512, locals := 60 } : Room).slots) (TJ21.setTop (mkF m 121 #[.val (.ref o0), .val (.ref o1), .val (.int m1), .val (.int (0 : Int32)), .val (.int c0)] [(.int ixJJ20), (.ref b2)])) := by
    intro ixJJ20 TJ21 lJ21 XJ21 eJ21 NJ21 hixJJ20
    show Runs p e below _ (TJ21.setTop (mkF m 121 #[.val (.ref o0), .val (.ref o1), .val (.int m1), .val (.int (0 : Int32)), .val (.int c0)] [(.int ixJJ20), (.ref b2)]))
    refine Runs.by (fun _ hr => XS.iconst XJ21.here hx rfl (hb hby d7_121) hr) ?_
    show Runs p e below _ (TJ21.setTop (mkF m 122 #[.val (.ref o0), .val (.ref o1), .val (.int m1), .val (.int (0 : Int32)), .val (.int c0)] [(.int (1 : Int32)), (.int ixJJ20), (.ref b2)]))
    obtain ⟨cl22, Ar22, q22, S22, N22', H22⟩ := id ((((G2.other W4 (Ne.symm ne_o0_b2)).ext E10).other W12 (Ne.symm ne_o0_b2)).other W17 ne_b2_b10)
    have ix22 := own_ix (j := ixJJ20) (z := (256 : Int32)) (n := ixJJ20.toNatClampNeg) (own_tn hixJJ20.1) hixJJ20.2
    have hin22 : ¬ (ixJJ20 < 0 ∨ cl22.slots.size ≤ (ixJJ20).toNatClampNeg) := inb_of S22 ix22.1
    obtain ⟨T22, h22, X22, e22, W22, st22⟩ := stZ XJ21 hx hZ eJ21 Ar22 (j := ixJJ20) hin22 (g := (mkF m 122 #[.val (.ref o0), .val (.ref o1), .val (.int m1), .val (.int (0 : Int32)), .val (.int c0)] [(.int (1 : Int32)), (.int ixJJ20), (.ref b2)])) rfl rfl (hb hby d7_122)
    have G22 : Arf Z h22 b2 k2 .boolean (256 : Int32) (fun j_ => .int ((own_up (fun _ => (0 : Int32)) (ixJJ20.toNatClampNeg) (nar .boolean (1 : Int32))) j_)) := (Arf.set Ar22 q22 S22 N22' H22 W22 ix22.2.1).cast (fun j_ _ => by simp only [own_up]; split <;> rfl)
    have K23 : Keep h0 h22 [o0] := K18.wr W22 (Or.inr sz_b2)
    have O_23 : Old Z n0 h22 := O_18.wr W22 g_b2
    have N22 := Fr.snoc X22 NJ21 g_b2
    refine Runs.by st22 ?_
    show Runs p e below _ (T22.setTop (mkF m 123 #[.val (.ref o0), .val (.ref o1), .val (.int m1), .val (.int (0 : Int32)), .val (.int c0)] []))
    refine Runs.by (fun _ hr => XS.iinc X22.here hx rfl (hb hby d7_123) rfl (l' := #[.val (.ref o0), .val (.ref o1), .val (.int m1), .val (.int (1 : Int32)), .val (.int c0)]) rfl hr) ?_
    show Runs p e below _ (T22.setTop (mkF m 126 #[.val (.ref o0), .val (.ref o1), .val (.int m1), .val (.int (1 : Int32)), .val (.int c0)] []))
    refine Runs.by (fun _ hr => XS.goto X22.here hx rfl (pc0 := 126) (pc' := 52) rfl (hb hby d7_126) (by decide) (by decide) hr) ?_
    show Runs p e below _ (T22.setTop (mkF m 52 #[.val (.ref o0), .val (.ref o1), .val (.int m1), .val (.int (1 : Int32)), .val (.int c0)] []))
    refine Runs.by (fun _ hr => XS.iloadN X22.here hx rfl (hb hby d7_52) rfl  hr) ?_
    show Runs p e below _ (T22.setTop (mkF m 53 #[.val (.ref o0), .val (.ref o1), .val (.int m1), .val (.int (1 : Int32)), .val (.int c0)] [(.int (1 : Int32))]))
    refine Runs.by (fun _ hr => XS.aloadN X22.here hx rfl (hb hby d7_53) rfl rfl hr) ?_
    show Runs p e below _ (T22.setTop (mkF m 54 #[.val (.ref o0), .val (.ref o1), .val (.int m1), .val (.int (1 : Int32)), .val (.int c0)] [(.ref o1), (.int (1 : Int32))]))
    obtain ⟨cq24, kq24, q24a, q24b, q24c⟩ := isOf hZ e22 ((((((E1.ext E2).wr W4).ext E10).wr W12).wr W17).wr W22)
    obtain ⟨_, _, ⟨T24, L24, k24, n24⟩, -, X24, ⟨Lc24, hQ24, l24, y24, z24⟩, st24⟩ := X22.virtualBack hx (y := (⟨"java/lang/String", "length", "()I"⟩ : MethodName)) (z := (⟨"java/lang/String", "length", "()I"⟩ : MethodName)) hown (mvT hZ (hw _ (List.mem_of_getElem? (i := 40) rfl))) (mvT hZ (hw _ (List.mem_of_getElem? (i := 41) rfl))) (notFace_of_selects (args := #[]) (mvT hZ (hw _ (List.mem_of_getElem? (i := 43) rfl)))) (mvT hZ (hw _ (List.mem_of_getElem? (i := 43) rfl))) (mvT hZ (hw _ (List.mem_of_getElem? (i := 42) rfl))) (by decide) (backOf (W := 1) (rm8 l Z a0 hw [] o1 gC va kv (1 : Int32) [(.int (c0.toInt8.toInt32))] (.int 0) h22 n0 (Nat.le_trans Z0 K23.1) ((((((E1.ext E2).wr W4).ext E10).wr W12).wr W17).wr W22) (SC.ext O_23.2) cC ((((((FC1.ext E2).other W4 (Or.inl ne_o1_o0)).ext E10).other W12 (Or.inl ne_o1_o0)).other W17 (Or.inl ne_o1_b10)).other W22 (Or.inl ne_o1_b2)) ((((((FV1.ext E2).other W4 (Or.inl ne_o1_o0)).ext E10).other W12 (Or.inl ne_o1_o0)).other W17 (Or.inl ne_o1_b10)).other W22 (Or.inl ne_o1_b2)) ((((((V1.ext E2).other W4 ne_va_o0).ext E10).other W12 ne_va_o0).other W17 ne_va_b10).other W22 ne_va_b2)) hZ (hw _ (List.mem_of_getElem? (i := 44) rfl)) (hw _ (List.mem_of_getElem? (i := 2) rfl)) (by decide) (by decide)) q24a q24c (g := (mkF m 54 #[.val (.ref o0), .val (.ref o1), .val (.int m1), .val (.int (1 : Int32)), .val (.int c0)] [(.ref o1), (.int (1 : Int32))])) rfl (by rw [hml]; rfl) (Steps.refl _) (argsL := []) (rest := [(.int (1 : Int32))]) (lenOf pd_6 rfl) rfl (by show 2 * 0 + _ ≤ _; exact Nat.le_of_eq rfl) (hb hby d7_54) (fun _ _ => ⟨rfl, e22, (by decide : 2 + 0 ≤ _), (by decide : 512 + 0 ≤ _)⟩)
    dsimp only [Pt.U, Pt.locs, Pt.cells, Pt.slots] at X24 l24 y24 z24 st24 hQ24
    subst l24 y24 z24
    obtain ⟨rfl, Nq24, eq24⟩ := hQ24
    have N24 := Fr.app N22 Nq24
    refine Runs.by (fun _ hr => st24.trans hr) ?_
    show Runs p e below _ (T24.setTop (mkF m 57 #[.val (.ref o0), .val (.ref o1), .val (.int m1), .val (.int (1 : Int32)), .val (.int c0)] [(.int (1 : Int32)), (.int (1 : Int32))]))
    have hc57 : ¬ ((1 : Int32) < (1 : Int32)) := (by decide)
    refine Runs.by (fun _ hr => XS.icmpYes X24.here hx rfl (pc0 := 57) (pc' := 129) rfl (hb hby d7_57) rfl (flt hc57).2.1 (by decide) (by decide) hr) ?_
    show Runs p e below _ (T24.setTop (mkF m 129 #[.val (.ref o0), .val (.ref o1), .val (.int m1), .val (.int (1 : Int32)), .val (.int c0)] []))
    refine Runs.retV X24 hx hrt hlk (hb hby d7_129) (by decide) (by decide) ?_
    rw [eq24]
    exact ⟨rfl, N24, K23, ((((((E0.ext E2).wr W4).ext E10).wr W12).wr W17).wr W22), b10, k10, (m1 + (1 : Int32)), (own_up (fun _ => (0 : Int32)) (c0.toNatClampNeg) (nar .boolean (1 : Int32))), ((Fw12.other W17 (Or.inl ne_o0_b10)).other W22 (Or.inl ne_o0_b2)), (G17.other W22 (Ne.symm ne_b2_b10)), own_s1 hr_c0.1 hz_c0⟩
  show Runs p e below _ (T19.setTop (mkF m 79 #[.val (.ref o0), .val (.ref o1), .val (.int m1), .val (.int (0 : Int32)), .val (.int c0)] [(.ref b2)]))
  refine Runs.by (fun _ hr => XS.iload X19.here hx rfl (hb hby d7_79) rfl  hr) ?_
  show Runs p e below _ (T19.setTop (mkF m 81 #[.val (.ref o0), .val (.ref o1), .val (.int m1), .val (.int (0 : Int32)), .val (.int c0)] [(.int c0), (.ref b2)]))
  refine Runs.by (fun _ hr => XS.sipush X19.here hx rfl (hb hby d7_81) hr) ?_
  show Runs p e below _ (T19.setTop (mkF m 84 #[.val (.ref o0), .val (.ref o1), .val (.int m1), .val (.int (0 : Int32)), .val (.int c0)] [(.int (128 : Int32)), (.int c0), (.ref b2)]))
  by_cases hc84 : c0 < (128 : Int32)
  · -- pc 84: c0 < (128 : Int32)
    refine Runs.by (fun _ hr => XS.icmpNo X19.here hx rfl (hb hby d7_84) rfl (tlt hc84).2.1 hr) ?_
    show Runs p e below _ (T19.setTop (mkF m 87 #[.val (.ref o0), .val (.ref o1), .val (.int m1), .val (.int (0 : Int32)), .val (.int c0)] [(.ref b2)]))
    refine Runs.by (fun _ hr => XS.iload X19.here hx rfl (hb hby d7_87) rfl  hr) ?_
    show Runs p e below _ (T19.setTop (mkF m 89 #[.val (.ref o0), .val (.ref o1), .val (.int m1), .val (.int (0 : Int32)), .val (.int c0)] [(.int c0), (.ref b2)]))
    refine Runs.by (fun _ hr => XS.goto X19.here hx rfl (pc0 := 89) (pc' := 121) rfl (hb hby d7_89) (by decide) (by decide) hr) ?_
    exact JJ20 c0 _ _ X19 e19 N17 (own_rng pc0)
  · -- pc 84: not c0 < (128 : Int32)
    refine Runs.by (fun _ hr => XS.icmpYes X19.here hx rfl (pc0 := 84) (pc' := 92) rfl (hb hby d7_84) rfl (flt hc84).2.1 (by decide) (by decide) hr) ?_
    show Runs p e below _ (T19.setTop (mkF m 92 #[.val (.ref o0), .val (.ref o1), .val (.int m1), .val (.int (0 : Int32)), .val (.int c0)] [(.ref b2)]))
    refine Runs.by (fun _ hr => XS.iload X19.here hx rfl (hb hby d7_92) rfl  hr) ?_
    show Runs p e below _ (T19.setTop (mkF m 94 #[.val (.ref o0), .val (.ref o1), .val (.int m1), .val (.int (0 : Int32)), .val (.int c0)] [(.int c0), (.ref b2)]))
    refine Runs.by (fun _ hr => XS.sipush X19.here hx rfl (hb hby d7_94) hr) ?_
    show Runs p e below _ (T19.setTop (mkF m 97 #[.val (.ref o0), .val (.ref o1), .val (.int m1), .val (.int (0 : Int32)), .val (.int c0)] [(.int (2048 : Int32)), (.int c0), (.ref b2)]))
    have hc97 : c0 < (2048 : Int32) := (own_2048 pc0)
    refine Runs.by (fun _ hr => XS.icmpNo X19.here hx rfl (hb hby d7_97) rfl (tlt hc97).2.1 hr) ?_
    show Runs p e below _ (T19.setTop (mkF m 100 #[.val (.ref o0), .val (.ref o1), .val (.int m1), .val (.int (0 : Int32)), .val (.int c0)] [(.ref b2)]))
    refine Runs.by (fun _ hr => XS.sipush X19.here hx rfl (hb hby d7_100) hr) ?_
    show Runs p e below _ (T19.setTop (mkF m 103 #[.val (.ref o0), .val (.ref o1), .val (.int m1), .val (.int (0 : Int32)), .val (.int c0)] [(.int (192 : Int32)), (.ref b2)]))
    refine Runs.by (fun _ hr => XS.iload X19.here hx rfl (hb hby d7_103) rfl  hr) ?_
    show Runs p e below _ (T19.setTop (mkF m 105 #[.val (.ref o0), .val (.ref o1), .val (.int m1), .val (.int (0 : Int32)), .val (.int c0)] [(.int c0), (.int (192 : Int32)), (.ref b2)]))
    refine Runs.by (fun _ hr => XS.bipush X19.here hx rfl (hb hby d7_105) hr) ?_
    show Runs p e below _ (T19.setTop (mkF m 107 #[.val (.ref o0), .val (.ref o1), .val (.int m1), .val (.int (0 : Int32)), .val (.int c0)] [(.int (6 : Int32)), (.int c0), (.int (192 : Int32)), (.ref b2)]))
    refine Runs.by (fun _ hr => XS.ishr X19.here hx rfl (hb hby d7_107) rfl hr) ?_
    show Runs p e below _ (T19.setTop (mkF m 108 #[.val (.ref o0), .val (.ref o1), .val (.int m1), .val (.int (0 : Int32)), .val (.int c0)] [(.int (c0 >>> ((6 : Int32) &&& 31))), (.int (192 : Int32)), (.ref b2)]))
    refine Runs.by (fun _ hr => XS.ior X19.here hx rfl (hb hby d7_108) rfl hr) ?_
    show Runs p e below _ (T19.setTop (mkF m 109 #[.val (.ref o0), .val (.ref o1), .val (.int m1), .val (.int (0 : Int32)), .val (.int c0)] [(.int ((192 : Int32) ||| (c0 >>> ((6 : Int32) &&& 31)))), (.ref b2)]))
    refine Runs.by (fun _ hr => XS.goto X19.here hx rfl (pc0 := 109) (pc' := 121) rfl (hb hby d7_109) (by decide) (by decide) hr) ?_
    exact JJ20 ((192 : Int32) ||| (c0 >>> ((6 : Int32) &&& 31))) _ _ X19 e19 N17 (own_fb2 pc0)
def Q_rm7_2 (Z : State) (o0 : Addr) (o1 : Addr) (gC : Int32) (vG : Value) (va : Addr) (kv : ClassId) (c0 c1 : Int32) (h0 : Heap) (n0 : Nat) (v : Option Value) (h : Heap) (L : List Loc) : Prop := v = none ∧ Fr n0 L ∧ Keep h0 h [o0] ∧ Exa Z h o0 "com/example/vedette/vedette/io/Utf8Buffer$Stops" ∧ ∃ (t : Addr) (kt : ClassId) (z : Int32) (wf : Nat → Int32), Fld Z h o0 "com/example/vedette/vedette/io/Utf8Buffer$Stops" "chars" "[Z" (.ref t) ∧ Arf Z h t kt .boolean z (fun j_ => .int (wf j_)) ∧ ∀ c : Int32, ¬ c < 0 → own_is z wf c = if c = c0 then (1 : Int32) else if c = c1 then (1 : Int32) else (0 : Int32)
set_option maxRecDepth 65536 in
set_option maxHeartbeats 40000000 in
theorem rm7_2 (l : Launch) (Z : State) (a0 : Array Value) (hw : ∀ d ∈ tables_1, d.before a0 Z = true) (ws : List Jvm.Cond) (o0 : Addr) (o1 : Addr) (gC : Int32) (vG : Value) (va : Addr) (kv : ClassId) (c0 c1 : Int32) (h0 : Heap) (n0 : Nat) (Z0 : n0 ≤ h0.size) (E0 : Exa Z h0 o0 "com/example/vedette/vedette/io/Utf8Buffer$Stops") (F0 : Fld Z h0 o0 "com/example/vedette/vedette/io/Utf8Buffer$Stops" "firstBytes" "[Z" .null) (F1 : Fld Z h0 o0 "com/example/vedette/vedette/io/Utf8Buffer$Stops" "chars" "[Z" .null) (g_o0 : n0 ≤ o0) (E1 : Exa Z h0 o1 "java/lang/String") (SC : Sta Z Z.heap "java/lang/String" "COMPACT_STRINGS" "Z" (.int gC)) (cC : ¬ (gC = (0 : Int32))) (hvG : vG.isRef = true) (SG : Sta Z Z.heap "jdk/internal/util/Preconditions" "SIOOBE_FORMATTER" "Ljava/util/function/BiFunction;" vG) (FC1 : Fld Z h0 o1 "java/lang/String" "coder" "B" (.int (0 : Int32))) (FV1 : Fld Z h0 o1 "java/lang/String" "value" "[B" (.ref va)) (V1 : Arv Z h0 va kv .byte (2 : Int32) [(.int (c0.toInt8.toInt32)), (.int (c1.toInt8.toInt32))] (.int 0)) (ne_o1_o0 : o1 ≠ o0) (ne_va_o0 : va ≠ o0) (pc0 : ¬ c0 < 0 ∧ ¬ (255 : Int32) < c0) (pc1 : ¬ c1 < 0 ∧ ¬ (255 : Int32) < c1) (O0 : Old Z n0 h0) :
    MetFree l (⟨"com/example/vedette/vedette/io/Utf8Buffer$Stops", "<init>", "(Ljava/lang/String;)V"⟩ : MethodName) (head1 (Jvm.Cond.code (⟨"com/example/vedette/vedette/io/Utf8Buffer$Stops", "<init>", "(Ljava/lang/String;)V"⟩ : MethodName) prog_35_method_1_code 5 none :: ws) ({ frames := 4, cells := 2, slots := 512, locals := 60 } : Room)) (fun a U => a = #[(.ref o0), (.ref o1)] ∧ Z.Warmed39 U.vm ∧ U.heap = h0) (fun _ _ _ _ _ => True) (fun _ U o U' => ∃ v L, o = .returned v ∧ Q_rm7_2 Z o0 o1 gC vG va kv c0 c1 h0 n0 v U'.heap L ∧ FrameEnd U o U' L ({ frames := 4, cells := 2, slots := 512, locals := 60 } : Room).cells ({ frames := 4, cells := 2, slots := 512, locals := 60 } : Room).slots) := by
  refine MetFree.of_bodySF (plainFor_of_name pn_com_example_vedette_vedette_io_Utf8Buffer_Stops) hisR ?_
  intro p e s m args below meth c s₁ Bd hml0 hP hK
  obtain ⟨rfl, hZ, hh⟩ := hP
  have hx := Bd.exec
  have hby := Bd.bytes
  have hlk := BodyLoose.notSynchronized Bd
  have hrt := Bd.returns
  have hml : c.maxLocals = 5 := hml0
  have hown : s.vm.findClass "com/example/vedette/vedette/io/Utf8Buffer$Stops" = some m.cls := findClass_of_methodNamed Bd.named
  have hnm := (name_of_methodNamed Bd.named Bd.method).1
  have X0 : Stand p l e ({ frames := 4, cells := 2, slots := 512, locals := 60 } : Room) s m #[(.ref o0), (.ref o1)] below meth c s₁ [] 0 0 := Stand.of_body Bd
  have e0 : s₁.heap = h0 := by rw [← hh, Bd.state]; rfl
  have N0 := Fr.nil n0
  have K0 : Keep h0 h0 [o0] := Keep.refl h0 _
  show Runs p e below (QE s (Q_rm7_2 Z o0 o1 gC vG va kv c0 c1 h0 n0) ({ frames := 4, cells := 2, slots := 512, locals := 60 } : Room).cells ({ frames := 4, cells := 2, slots := 512, locals := 60 } : Room).slots) (s₁.setTop (entryFrame m #[(.ref o0), (.ref o1)] 5))
  rw [ef_7_11 m o0 o1]
  show Runs p e below _ (s₁.setTop (mkF m 0 #[.val (.ref o0), .val (.ref o1), .unset, .unset, .unset] []))
  refine Runs.by (fun _ hr => XS.aloadN X0.here hx rfl (hb hby d7_0) rfl rfl hr) ?_
  show Runs p e below _ (s₁.setTop (mkF m 1 #[.val (.ref o0), .val (.ref o1), .unset, .unset, .unset] [(.ref o0)]))
  obtain ⟨T1, X1, e1, st1⟩ := initO X0 hx hZ hown (hw _ (List.mem_of_getElem? (i := 36) rfl)) (hw _ (List.mem_of_getElem? (i := 12) rfl)) (hw _ (List.mem_of_getElem? (i := 13) rfl)) e0 (g := (mkF m 1 #[.val (.ref o0), .val (.ref o1), .unset, .unset, .unset] [(.ref o0)])) rfl (by rw [hml]; rfl) rfl (hb hby d7_1) (by decide) (W := 0) (by show 2 * 0 + _ ≤ _; exact Nat.le_of_eq rfl) (by decide)
  refine Runs.by st1 ?_
  show Runs p e below _ (T1.setTop (mkF m 4 #[.val (.ref o0), .val (.ref o1), .unset, .unset, .unset] []))
  refine Runs.by (fun _ hr => XS.aloadN X1.here hx rfl (hb hby d7_4) rfl rfl hr) ?_
  show Runs p e below _ (T1.setTop (mkF m 5 #[.val (.ref o0), .val (.ref o1), .unset, .unset, .unset] [(.ref o0)]))
  refine Runs.by (fun _ hr => XS.sipush X1.here hx rfl (hb hby d7_5) hr) ?_
  show Runs p e below _ (T1.setTop (mkF m 8 #[.val (.ref o0), .val (.ref o1), .unset, .unset, .unset] [(.int (256 : Int32)), (.ref o0)]))
  obtain ⟨T2, h2, k2, X2, e2, E2, A2, st2⟩ := newP X1 hx hZ (hw _ (List.mem_of_getElem? (i := 37) rfl)) e1 (g := (mkF m 8 #[.val (.ref o0), .val (.ref o1), .unset, .unset, .unset] [(.int (256 : Int32)), (.ref o0)])) rfl (hb hby d7_8) rfl (by decide) (cap := 256) (by decide) (by decide) (by decide) (by decide)
  obtain ⟨b2, gz2⟩ : ∃ z, z = h0.size := ⟨_, rfl⟩
  rw [← gz2] at A2 st2
  have ne_o0_b2 : o0 ≠ b2 := Nat.ne_of_lt (Nat.lt_of_lt_of_le E0.lt (Nat.le_of_eq gz2.symm))
  have ne_o1_b2 : o1 ≠ b2 := Nat.ne_of_lt (Nat.lt_of_lt_of_le E1.lt (Nat.le_of_eq gz2.symm))
  have ne_va_b2 : va ≠ b2 := Nat.ne_of_lt (Nat.lt_of_lt_of_le V1.lt (Nat.le_of_eq gz2.symm))
  have g_b2 : n0 ≤ b2 := Nat.le_trans (Nat.le_trans Z0 K0.1) (Nat.le_of_eq gz2.symm)
  have sz_b2 : h0.size ≤ b2 := Nat.le_trans K0.1 (Nat.le_of_eq gz2.symm)
  have K3 : Keep h0 h2 [o0] := K0.ext E2
  have O_3 : Old Z n0 h2 := O0.ext E2
  have G2 : Arf Z h2 b2 k2 .boolean (256 : Int32) (fun j_ => .int ((fun _ => (0 : Int32)) j_)) := Arf.new A2 (by decide)
  refine Runs.by st2 ?_
  show Runs p e below _ (T2.setTop (mkF m 10 #[.val (.ref o0), .val (.ref o1), .unset, .unset, .unset] [(.ref b2), (.ref o0)]))
  obtain ⟨T4, h4, X4, e4, W4, st4⟩ := putF X2 hx hZ hown (host := "") (Or.inl (hw _ (List.mem_of_getElem? (i := 38) rfl))) Via.refl e2 (F0.ext E2) (E0.ext E2) (Or.inr ⟨(hw _ (List.mem_of_getElem? (i := 39) rfl)), rfl, hnm⟩) (hw _ (List.mem_of_getElem? (i := 31) rfl)) (ty := (.array .boolean)) (by decide) rfl rfl (g := (mkF m 10 #[.val (.ref o0), .val (.ref o1), .unset, .unset, .unset] [(.ref b2), (.ref o0)])) rfl rfl (hb hby d7_10)
  have Fw4 := (F0.ext E2).same W4
  have K5 : Keep h0 h4 [o0] := K3.wr W4 (Or.inl (List.mem_of_getElem? (i := 0) rfl))
  have O_5 : Old Z n0 h4 := O_3.wr W4 g_o0
  have N4 := Fr.snoc X4 N0 g_o0
  refine Runs.by st4 ?_
  show Runs p e below _ (T4.setTop (mkF m 13 #[.val (.ref o0), .val (.ref o1), .unset, .unset, .unset] []))
  refine Runs.by (fun _ hr => XS.iconst X4.here hx rfl (hb hby d7_13) hr) ?_
  show Runs p e below _ (T4.setTop (mkF m 14 #[.val (.ref o0), .val (.ref o1), .unset, .unset, .unset] [(.int (-1 : Int32))]))
  refine Runs.by (fun _ hr => XS.istoreN X4.here hx rfl (hb hby d7_14) rfl (l' := #[.val (.ref o0), .val (.ref o1), .val (.int (-1 : Int32)), .unset, .unset]) rfl hr) ?_
  show Runs p e below _ (T4.setTop (mkF m 15 #[.val (.ref o0), .val (.ref o1), .val (.int (-1 : Int32)), .unset, .unset] []))
  refine Runs.by (fun _ hr => XS.iconst X4.here hx rfl (hb hby d7_15) hr) ?_
  show Runs p e below _ (T4.setTop (mkF m 16 #[.val (.ref o0), .val (.ref o1), .val (.int (-1 : Int32)), .unset, .unset] [(.int (0 : Int32))]))
  refine Runs.by (fun _ hr => XS.istoreN X4.here hx rfl (hb hby d7_16) rfl (l' := #[.val (.ref o0), .val (.ref o1), .val (.int (-1 : Int32)), .val (.int (0 : Int32)), .unset]) rfl hr) ?_
  show Runs p e below _ (T4.setTop (mkF m 17 #[.val (.ref o0), .val (.ref o1), .val (.int (-1 : Int32)), .val (.int (0 : Int32)), .unset] []))
  refine Runs.by (fun _ hr => XS.iloadN X4.here hx rfl (hb hby d7_17) rfl  hr) ?_
  show Runs p e below _ (T4.setTop (mkF m 18 #[.val (.ref o0), .val (.ref o1), .val (.int (-1 : Int32)), .val (.int (0 : Int32)), .unset] [(.int (0 : Int32))]))
  refine Runs.by (fun _ hr => XS.aloadN X4.here hx rfl (hb hby d7_18) rfl rfl hr) ?_
  show Runs p e below _ (T4.setTop (mkF m 19 #[.val (.ref o0), .val (.ref o1), .val (.int (-1 : Int32)), .val (.int (0 : Int32)), .unset] [(.ref o1), (.int (0 : Int32))]))
  obtain ⟨cq6, kq6, q6a, q6b, q6c⟩ := isOf hZ e4 ((E1.ext E2).wr W4)
  obtain ⟨_, _, ⟨T6, L6, k6, n6⟩, -, X6, ⟨Lc6, hQ6, l6, y6, z6⟩, st6⟩ := X4.virtualBack hx (y := (⟨"java/lang/String", "length", "()I"⟩ : MethodName)) (z := (⟨"java/lang/String", "length", "()I"⟩ : MethodName)) hown (mvT hZ (hw _ (List.mem_of_getElem? (i := 40) rfl))) (mvT hZ (hw _ (List.mem_of_getElem? (i := 41) rfl))) (notFace_of_selects (args := #[]) (mvT hZ (hw _ (List.mem_of_getElem? (i := 43) rfl)))) (mvT hZ (hw _ (List.mem_of_getElem? (i := 43) rfl))) (mvT hZ (hw _ (List.mem_of_getElem? (i := 42) rfl))) (by decide) (backOf (W := 1) (rm8 l Z a0 hw [] o1 gC va kv (2 : Int32) [(.int (c0.toInt8.toInt32)), (.int (c1.toInt8.toInt32))] (.int 0) h4 n0 (Nat.le_trans Z0 K5.1) ((E1.ext E2).wr W4) (SC.ext O_5.2) cC ((FC1.ext E2).other W4 (Or.inl ne_o1_o0)) ((FV1.ext E2).other W4 (Or.inl ne_o1_o0)) ((V1.ext E2).other W4 ne_va_o0)) hZ (hw _ (List.mem_of_getElem? (i := 44) rfl)) (hw _ (List.mem_of_getElem? (i := 2) rfl)) (by decide) (by decide)) q6a q6c (g := (mkF m 19 #[.val (.ref o0), .val (.ref o1), .val (.int (-1 : Int32)), .val (.int (0 : Int32)), .unset] [(.ref o1), (.int (0 : Int32))])) rfl (by rw [hml]; rfl) (Steps.refl _) (argsL := []) (rest := [(.int (0 : Int32))]) (lenOf pd_6 rfl) rfl (by show 2 * 0 + _ ≤ _; exact Nat.le_of_eq rfl) (hb hby d7_19) (fun _ _ => ⟨rfl, e4, (by decide : 1 + 0 ≤ _), (by decide : 256 + 0 ≤ _)⟩)
  dsimp only [Pt.U, Pt.locs, Pt.cells, Pt.slots] at X6 l6 y6 z6 st6 hQ6
  subst l6 y6 z6
  obtain ⟨rfl, Nq6, eq6⟩ := hQ6
  have N6 := Fr.app N4 Nq6
  refine Runs.by (fun _ hr => st6.trans hr) ?_
  show Runs p e below _ (T6.setTop (mkF m 22 #[.val (.ref o0), .val (.ref o1), .val (.int (-1 : Int32)), .val (.int (0 : Int32)), .unset] [(.int (2 : Int32)), (.int (0 : Int32))]))
  have hc22 : (0 : Int32) < (2 : Int32) := (by decide)
  refine Runs.by (fun _ hr => XS.icmpNo X6.here hx rfl (hb hby d7_22) rfl (tlt hc22).2.1 hr) ?_
  show Runs p e below _ (T6.setTop (mkF m 25 #[.val (.ref o0), .val (.ref o1), .val (.int (-1 : Int32)), .val (.int (0 : Int32)), .unset] []))
  refine Runs.by (fun _ hr => XS.iloadN X6.here hx rfl (hb hby d7_25) rfl  hr) ?_
  show Runs p e below _ (T6.setTop (mkF m 26 #[.val (.ref o0), .val (.ref o1), .val (.int (-1 : Int32)), .val (.int (0 : Int32)), .unset] [(.int (-1 : Int32))]))
  refine Runs.by (fun _ hr => XS.aloadN X6.here hx rfl (hb hby d7_26) rfl rfl hr) ?_
  show Runs p e below _ (T6.setTop (mkF m 27 #[.val (.ref o0), .val (.ref o1), .val (.int (-1 : Int32)), .val (.int (0 : Int32)), .unset] [(.ref o1), (.int (-1 : Int32))]))
  refine Runs.by (fun _ hr => XS.iloadN X6.here hx rfl (hb hby d7_27) rfl  hr) ?_
  show Runs p e below _ (T6.setTop (mkF m 28 #[.val (.ref o0), .val (.ref o1), .val (.int (-1 : Int32)), .val (.int (0 : Int32)), .unset] [(.int (0 : Int32)), (.ref o1), (.int (-1 : Int32))]))
  obtain ⟨cq7, kq7, q7a, q7b, q7c⟩ := isOf hZ eq6 ((E1.ext E2).wr W4)
  obtain ⟨_, _, ⟨T7, L7, k7, n7⟩, -, X7, ⟨Lc7, hQ7, l7, y7, z7⟩, st7⟩ := X6.virtualBack hx (y := (⟨"java/lang/String", "charAt", "(I)C"⟩ : MethodName)) (z := (⟨"java/lang/String", "charAt", "(I)C"⟩ : MethodName)) hown (mvT hZ (hw _ (List.mem_of_getElem? (i := 50) rfl))) (mvT hZ (hw _ (List.mem_of_getElem? (i := 51) rfl))) (notFace_of_selects (args := #[]) (mvT hZ (hw _ (List.mem_of_getElem? (i := 53) rfl)))) (mvT hZ (hw _ (List.mem_of_getElem? (i := 53) rfl))) (mvT hZ (hw _ (List.mem_of_getElem? (i := 52) rfl))) (by decide) (backOf (W := 1) (rm10 l Z a0 hw [] o1 (0 : Int32) gC vG va kv (2 : Int32) [(.int (c0.toInt8.toInt32)), (.int (c1.toInt8.toInt32))] (.int 0) (c0.toInt8.toInt32) c0 h4 n0 (Nat.le_trans Z0 K5.1) ((E1.ext E2).wr W4) (SC.ext O_5.2) cC ((FC1.ext E2).other W4 (Or.inl ne_o1_o0)) ((FV1.ext E2).other W4 (Or.inl ne_o1_o0)) hvG ⟨by decide, by decide⟩ (SG.ext O_5.2) ((V1.ext E2).other W4 ne_va_o0) rfl (own_cc pc0)) hZ (hw _ (List.mem_of_getElem? (i := 54) rfl)) (hw _ (List.mem_of_getElem? (i := 2) rfl)) (by decide) (by decide)) q7a q7c (g := (mkF m 28 #[.val (.ref o0), .val (.ref o1), .val (.int (-1 : Int32)), .val (.int (0 : Int32)), .unset] [(.int (0 : Int32)), (.ref o1), (.int (-1 : Int32))])) rfl (by rw [hml]; rfl) (Steps.refl _) (argsL := [(.int (0 : Int32))]) (rest := [(.int (-1 : Int32))]) (lenOf pd_7 rfl) rfl (by show 2 * 0 + _ ≤ _; exact Nat.le_of_eq rfl) (hb hby d7_28) (fun _ _ => ⟨rfl, eq6, (by decide : 1 + 0 ≤ _), (by decide : 256 + 0 ≤ _)⟩)
  dsimp only [Pt.U, Pt.locs, Pt.cells, Pt.slots] at X7 l7 y7 z7 st7 hQ7
  subst l7 y7 z7
  obtain ⟨rfl, Nq7, eq7⟩ := hQ7
  have N7 := Fr.app N6 Nq7
  refine Runs.by (fun _ hr => st7.trans hr) ?_
  show Runs p e below _ (T7.setTop (mkF m 31 #[.val (.ref o0), .val (.ref o1), .val (.int (-1 : Int32)), .val (.int (0 : Int32)), .unset] [(.int c0), (.int (-1 : Int32))]))
  obtain ⟨_, _, ⟨T8, L8, k8, n8⟩, -, X8, ⟨Lc8, hQ8, l8, y8, z8⟩, st8⟩ := Jvm.LawKit.callS X7 hx (y := (⟨"java/lang/Math", "max", "(II)I"⟩ : MethodName)) hown (mvT hZ (hw _ (List.mem_of_getElem? (i := 72) rfl))) (mvT hZ (hw _ (List.mem_of_getElem? (i := 73) rfl))) (mvT hZ (hw _ (List.mem_of_getElem? (i := 74) rfl))) (mvT hZ (hw _ (List.mem_of_getElem? (i := 75) rfl))) (by decide) (backOf (W := 0) (rm15 l Z a0 hw [] (-1 : Int32) c0  h4 n0 (Nat.le_trans Z0 K5.1) ) hZ (hw _ (List.mem_of_getElem? (i := 75) rfl)) (hw _ (List.mem_of_getElem? (i := 74) rfl)) (by decide) (by decide)) (g := (mkF m 31 #[.val (.ref o0), .val (.ref o1), .val (.int (-1 : Int32)), .val (.int (0 : Int32)), .unset] [(.int c0), (.int (-1 : Int32))])) rfl (by rw [hml]; rfl) (argsL := [(.int (-1 : Int32)), (.int c0)]) (rest := []) (lenOf pd_8 rfl) rfl (by show 2 * 0 + _ ≤ _; exact Nat.le_of_eq rfl) (hb hby d7_31) (fun _ _ => ⟨rfl, eq7, (by decide : 1 + 0 ≤ _), (by decide : 256 + 0 ≤ _)⟩)
  dsimp only [Pt.U, Pt.locs, Pt.cells, Pt.slots] at X8 l8 y8 z8 st8 hQ8
  subst l8 y8 z8
  obtain ⟨rfl, Nq8, eq8⟩ := hQ8
  have N8 := Fr.app N7 Nq8
  refine Runs.by (fun t hr => st8 t hr) ?_
  have hm1 := own_mxs (a := (-1 : Int32)) (by decide) (by decide) pc0
  generalize own_max (-1 : Int32) c0 = m1 at hm1 ⊢
  show Runs p e below _ (T8.setTop (mkF m 34 #[.val (.ref o0), .val (.ref o1), .val (.int (-1 : Int32)), .val (.int (0 : Int32)), .unset] [(.int m1)]))
  refine Runs.by (fun _ hr => XS.istoreN X8.here hx rfl (hb hby d7_34) rfl (l' := #[.val (.ref o0), .val (.ref o1), .val (.int m1), .val (.int (0 : Int32)), .unset]) rfl hr) ?_
  show Runs p e below _ (T8.setTop (mkF m 35 #[.val (.ref o0), .val (.ref o1), .val (.int m1), .val (.int (0 : Int32)), .unset] []))
  refine Runs.by (fun _ hr => XS.iinc X8.here hx rfl (hb hby d7_35) rfl (l' := #[.val (.ref o0), .val (.ref o1), .val (.int m1), .val (.int (1 : Int32)), .unset]) rfl hr) ?_
  show Runs p e below _ (T8.setTop (mkF m 38 #[.val (.ref o0), .val (.ref o1), .val (.int m1), .val (.int (1 : Int32)), .unset] []))
  refine Runs.by (fun _ hr => XS.goto X8.here hx rfl (pc0 := 38) (pc' := 17) rfl (hb hby d7_38) (by decide) (by decide) hr) ?_
  show Runs p e below _ (T8.setTop (mkF m 17 #[.val (.ref o0), .val (.ref o1), .val (.int m1), .val (.int (1 : Int32)), .unset] []))
  refine Runs.by (fun _ hr => XS.iloadN X8.here hx rfl (hb hby d7_17) rfl  hr) ?_
  show Runs p e below _ (T8.setTop (mkF m 18 #[.val (.ref o0), .val (.ref o1), .val (.int m1), .val (.int (1 : Int32)), .unset] [(.int (1 : Int32))]))
  refine Runs.by (fun _ hr => XS.aloadN X8.here hx rfl (hb hby d7_18) rfl rfl hr) ?_
  show Runs p e below _ (T8.setTop (mkF m 19 #[.val (.ref o0), .val (.ref o1), .val (.int m1), .val (.int (1 : Int32)), .unset] [(.ref o1), (.int (1 : Int32))]))
  obtain ⟨cq9, kq9, q9a, q9b, q9c⟩ := isOf hZ eq8 ((E1.ext E2).wr W4)
  obtain ⟨_, _, ⟨T9, L9, k9, n9⟩, -, X9, ⟨Lc9, hQ9, l9, y9, z9⟩, st9⟩ := X8.virtualBack hx (y := (⟨"java/lang/String", "length", "()I"⟩ : MethodName)) (z := (⟨"java/lang/String", "length", "()I"⟩ : MethodName)) hown (mvT hZ (hw _ (List.mem_of_getElem? (i := 40) rfl))) (mvT hZ (hw _ (List.mem_of_getElem? (i := 41) rfl))) (notFace_of_selects (args := #[]) (mvT hZ (hw _ (List.mem_of_getElem? (i := 43) rfl)))) (mvT hZ (hw _ (List.mem_of_getElem? (i := 43) rfl))) (mvT hZ (hw _ (List.mem_of_getElem? (i := 42) rfl))) (by decide) (backOf (W := 1) (rm8 l Z a0 hw [] o1 gC va kv (2 : Int32) [(.int (c0.toInt8.toInt32)), (.int (c1.toInt8.toInt32))] (.int 0) h4 n0 (Nat.le_trans Z0 K5.1) ((E1.ext E2).wr W4) (SC.ext O_5.2) cC ((FC1.ext E2).other W4 (Or.inl ne_o1_o0)) ((FV1.ext E2).other W4 (Or.inl ne_o1_o0)) ((V1.ext E2).other W4 ne_va_o0)) hZ (hw _ (List.mem_of_getElem? (i := 44) rfl)) (hw _ (List.mem_of_getElem? (i := 2) rfl)) (by decide) (by decide)) q9a q9c (g := (mkF m 19 #[.val (.ref o0), .val (.ref o1), .val (.int m1), .val (.int (1 : Int32)), .unset] [(.ref o1), (.int (1 : Int32))])) rfl (by rw [hml]; rfl) (Steps.refl _) (argsL := []) (rest := [(.int (1 : Int32))]) (lenOf pd_6 rfl) rfl (by show 2 * 0 + _ ≤ _; exact Nat.le_of_eq rfl) (hb hby d7_19) (fun _ _ => ⟨rfl, eq8, (by decide : 1 + 0 ≤ _), (by decide : 256 + 0 ≤ _)⟩)
  dsimp only [Pt.U, Pt.locs, Pt.cells, Pt.slots] at X9 l9 y9 z9 st9 hQ9
  subst l9 y9 z9
  obtain ⟨rfl, Nq9, eq9⟩ := hQ9
  have N9 := Fr.app N8 Nq9
  refine Runs.by (fun _ hr => st9.trans hr) ?_
  show Runs p e below _ (T9.setTop (mkF m 22 #[.val (.ref o0), .val (.ref o1), .val (.int m1), .val (.int (1 : Int32)), .unset] [(.int (2 : Int32)), (.int (1 : Int32))]))
  have hc22 : (1 : Int32) < (2 : Int32) := (by decide)
  refine Runs.by (fun _ hr => XS.icmpNo X9.here hx rfl (hb hby d7_22) rfl (tlt hc22).2.1 hr) ?_
  show Runs p e below _ (T9.setTop (mkF m 25 #[.val (.ref o0), .val (.ref o1), .val (.int m1), .val (.int (1 : Int32)), .unset] []))
  refine Runs.by (fun _ hr => XS.iloadN X9.here hx rfl (hb hby d7_25) rfl  hr) ?_
  show Runs p e below _ (T9.setTop (mkF m 26 #[.val (.ref o0), .val (.ref o1), .val (.int m1), .val (.int (1 : Int32)), .unset] [(.int m1)]))
  refine Runs.by (fun _ hr => XS.aloadN X9.here hx rfl (hb hby d7_26) rfl rfl hr) ?_
  show Runs p e below _ (T9.setTop (mkF m 27 #[.val (.ref o0), .val (.ref o1), .val (.int m1), .val (.int (1 : Int32)), .unset] [(.ref o1), (.int m1)]))
  refine Runs.by (fun _ hr => XS.iloadN X9.here hx rfl (hb hby d7_27) rfl  hr) ?_
  show Runs p e below _ (T9.setTop (mkF m 28 #[.val (.ref o0), .val (.ref o1), .val (.int m1), .val (.int (1 : Int32)), .unset] [(.int (1 : Int32)), (.ref o1), (.int m1)]))
  obtain ⟨cq10, kq10, q10a, q10b, q10c⟩ := isOf hZ eq9 ((E1.ext E2).wr W4)
  obtain ⟨_, _, ⟨T10, L10, k10, n10⟩, -, X10, ⟨Lc10, hQ10, l10, y10, z10⟩, st10⟩ := X9.virtualBack hx (y := (⟨"java/lang/String", "charAt", "(I)C"⟩ : MethodName)) (z := (⟨"java/lang/String", "charAt", "(I)C"⟩ : MethodName)) hown (mvT hZ (hw _ (List.mem_of_getElem? (i := 50) rfl))) (mvT hZ (hw _ (List.mem_of_getElem? (i := 51) rfl))) (notFace_of_selects (args := #[]) (mvT hZ (hw _ (List.mem_of_getElem? (i := 53) rfl)))) (mvT hZ (hw _ (List.mem_of_getElem? (i := 53) rfl))) (mvT hZ (hw _ (List.mem_of_getElem? (i := 52) rfl))) (by decide) (backOf (W := 1) (rm10 l Z a0 hw [] o1 (1 : Int32) gC vG va kv (2 : Int32) [(.int (c0.toInt8.toInt32)), (.int (c1.toInt8.toInt32))] (.int 0) (c1.toInt8.toInt32) c1 h4 n0 (Nat.le_trans Z0 K5.1) ((E1.ext E2).wr W4) (SC.ext O_5.2) cC ((FC1.ext E2).other W4 (Or.inl ne_o1_o0)) ((FV1.ext E2).other W4 (Or.inl ne_o1_o0)) hvG ⟨by decide, by decide⟩ (SG.ext O_5.2) ((V1.ext E2).other W4 ne_va_o0) rfl (own_cc pc1)) hZ (hw _ (List.mem_of_getElem? (i := 54) rfl)) (hw _ (List.mem_of_getElem? (i := 2) rfl)) (by decide) (by decide)) q10a q10c (g := (mkF m 28 #[.val (.ref o0), .val (.ref o1), .val (.int m1), .val (.int (1 : Int32)), .unset] [(.int (1 : Int32)), (.ref o1), (.int m1)])) rfl (by rw [hml]; rfl) (Steps.refl _) (argsL := [(.int (1 : Int32))]) (rest := [(.int m1)]) (lenOf pd_7 rfl) rfl (by show 2 * 0 + _ ≤ _; exact Nat.le_of_eq rfl) (hb hby d7_28) (fun _ _ => ⟨rfl, eq9, (by decide : 1 + 0 ≤ _), (by decide : 256 + 0 ≤ _)⟩)
  dsimp only [Pt.U, Pt.locs, Pt.cells, Pt.slots] at X10 l10 y10 z10 st10 hQ10
  subst l10 y10 z10
  obtain ⟨rfl, Nq10, eq10⟩ := hQ10
  have N10 := Fr.app N9 Nq10
  refine Runs.by (fun _ hr => st10.trans hr) ?_
  show Runs p e below _ (T10.setTop (mkF m 31 #[.val (.ref o0), .val (.ref o1), .val (.int m1), .val (.int (1 : Int32)), .unset] [(.int c1), (.int m1)]))
  obtain ⟨_, _, ⟨T11, L11, k11, n11⟩, -, X11, ⟨Lc11, hQ11, l11, y11, z11⟩, st11⟩ := Jvm.LawKit.callS X10 hx (y := (⟨"java/lang/Math", "max", "(II)I"⟩ : MethodName)) hown (mvT hZ (hw _ (List.mem_of_getElem? (i := 72) rfl))) (mvT hZ (hw _ (List.mem_of_getElem? (i := 73) rfl))) (mvT hZ (hw _ (List.mem_of_getElem? (i := 74) rfl))) (mvT hZ (hw _ (List.mem_of_getElem? (i := 75) rfl))) (by decide) (backOf (W := 0) (rm15 l Z a0 hw [] m1 c1  h4 n0 (Nat.le_trans Z0 K5.1) ) hZ (hw _ (List.mem_of_getElem? (i := 75) rfl)) (hw _ (List.mem_of_getElem? (i := 74) rfl)) (by decide) (by decide)) (g := (mkF m 31 #[.val (.ref o0), .val (.ref o1), .val (.int m1), .val (.int (1 : Int32)), .unset] [(.int c1), (.int m1)])) rfl (by rw [hml]; rfl) (argsL := [(.int m1), (.int c1)]) (rest := []) (lenOf pd_8 rfl) rfl (by show 2 * 0 + _ ≤ _; exact Nat.le_of_eq rfl) (hb hby d7_31) (fun _ _ => ⟨rfl, eq10, (by decide : 1 + 0 ≤ _), (by decide : 256 + 0 ≤ _)⟩)
  dsimp only [Pt.U, Pt.locs, Pt.cells, Pt.slots] at X11 l11 y11 z11 st11 hQ11
  subst l11 y11 z11
  obtain ⟨rfl, Nq11, eq11⟩ := hQ11
  have N11 := Fr.app N10 Nq11
  refine Runs.by (fun t hr => st11 t hr) ?_
  have hm2 := own_mxs hm1.1 hm1.2.1 pc1
  generalize own_max m1 c1 = m2 at hm2 ⊢
  show Runs p e below _ (T11.setTop (mkF m 34 #[.val (.ref o0), .val (.ref o1), .val (.int m1), .val (.int (1 : Int32)), .unset] [(.int m2)]))
  refine Runs.by (fun _ hr => XS.istoreN X11.here hx rfl (hb hby d7_34) rfl (l' := #[.val (.ref o0), .val (.ref o1), .val (.int m2), .val (.int (1 : Int32)), .unset]) rfl hr) ?_
  show Runs p e below _ (T11.setTop (mkF m 35 #[.val (.ref o0), .val (.ref o1), .val (.int m2), .val (.int (1 : Int32)), .unset] []))
  refine Runs.by (fun _ hr => XS.iinc X11.here hx rfl (hb hby d7_35) rfl (l' := #[.val (.ref o0), .val (.ref o1), .val (.int m2), .val (.int (2 : Int32)), .unset]) rfl hr) ?_
  show Runs p e below _ (T11.setTop (mkF m 38 #[.val (.ref o0), .val (.ref o1), .val (.int m2), .val (.int (2 : Int32)), .unset] []))
  refine Runs.by (fun _ hr => XS.goto X11.here hx rfl (pc0 := 38) (pc' := 17) rfl (hb hby d7_38) (by decide) (by decide) hr) ?_
  show Runs p e below _ (T11.setTop (mkF m 17 #[.val (.ref o0), .val (.ref o1), .val (.int m2), .val (.int (2 : Int32)), .unset] []))
  refine Runs.by (fun _ hr => XS.iloadN X11.here hx rfl (hb hby d7_17) rfl  hr) ?_
  show Runs p e below _ (T11.setTop (mkF m 18 #[.val (.ref o0), .val (.ref o1), .val (.int m2), .val (.int (2 : Int32)), .unset] [(.int (2 : Int32))]))
  refine Runs.by (fun _ hr => XS.aloadN X11.here hx rfl (hb hby d7_18) rfl rfl hr) ?_
  show Runs p e below _ (T11.setTop (mkF m 19 #[.val (.ref o0), .val (.ref o1), .val (.int m2), .val (.int (2 : Int32)), .unset] [(.ref o1), (.int (2 : Int32))]))
  obtain ⟨cq12, kq12, q12a, q12b, q12c⟩ := isOf hZ eq11 ((E1.ext E2).wr W4)
  obtain ⟨_, _, ⟨T12, L12, k12, n12⟩, -, X12, ⟨Lc12, hQ12, l12, y12, z12⟩, st12⟩ := X11.virtualBack hx (y := (⟨"java/lang/String", "length", "()I"⟩ : MethodName)) (z := (⟨"java/lang/String", "length", "()I"⟩ : MethodName)) hown (mvT hZ (hw _ (List.mem_of_getElem? (i := 40) rfl))) (mvT hZ (hw _ (List.mem_of_getElem? (i := 41) rfl))) (notFace_of_selects (args := #[]) (mvT hZ (hw _ (List.mem_of_getElem? (i := 43) rfl)))) (mvT hZ (hw _ (List.mem_of_getElem? (i := 43) rfl))) (mvT hZ (hw _ (List.mem_of_getElem? (i := 42) rfl))) (by decide) (backOf (W := 1) (rm8 l Z a0 hw [] o1 gC va kv (2 : Int32) [(.int (c0.toInt8.toInt32)), (.int (c1.toInt8.toInt32))] (.int 0) h4 n0 (Nat.le_trans Z0 K5.1) ((E1.ext E2).wr W4) (SC.ext O_5.2) cC ((FC1.ext E2).other W4 (Or.inl ne_o1_o0)) ((FV1.ext E2).other W4 (Or.inl ne_o1_o0)) ((V1.ext E2).other W4 ne_va_o0)) hZ (hw _ (List.mem_of_getElem? (i := 44) rfl)) (hw _ (List.mem_of_getElem? (i := 2) rfl)) (by decide) (by decide)) q12a q12c (g := (mkF m 19 #[.val (.ref o0), .val (.ref o1), .val (.int m2), .val (.int (2 : Int32)), .unset] [(.ref o1), (.int (2 : Int32))])) rfl (by rw [hml]; rfl) (Steps.refl _) (argsL := []) (rest := [(.int (2 : Int32))]) (lenOf pd_6 rfl) rfl (by show 2 * 0 + _ ≤ _; exact Nat.le_of_eq rfl) (hb hby d7_19) (fun _ _ => ⟨rfl, eq11, (by decide : 1 + 0 ≤ _), (by decide : 256 + 0 ≤ _)⟩)
  dsimp only [Pt.U, Pt.locs, Pt.cells, Pt.slots] at X12 l12 y12 z12 st12 hQ12
  subst l12 y12 z12
  obtain ⟨rfl, Nq12, eq12⟩ := hQ12
  have N12 := Fr.app N11 Nq12
  refine Runs.by (fun _ hr => st12.trans hr) ?_
  show Runs p e below _ (T12.setTop (mkF m 22 #[.val (.ref o0), .val (.ref o1), .val (.int m2), .val (.int (2 : Int32)), .unset] [(.int (2 : Int32)), (.int (2 : Int32))]))
  have hc22 : ¬ ((2 : Int32) < (2 : Int32)) := (by decide)
  refine Runs.by (fun _ hr => XS.icmpYes X12.here hx rfl (pc0 := 22) (pc' := 41) rfl (hb hby d7_22) rfl (flt hc22).2.1 (by decide) (by decide) hr) ?_
  show Runs p e below _ (T12.setTop (mkF m 41 #[.val (.ref o0), .val (.ref o1), .val (.int m2), .val (.int (2 : Int32)), .unset] []))
  refine Runs.by (fun _ hr => XS.aloadN X12.here hx rfl (hb hby d7_41) rfl rfl hr) ?_
  show Runs p e below _ (T12.setTop (mkF m 42 #[.val (.ref o0), .val (.ref o1), .val (.int m2), .val (.int (2 : Int32)), .unset] [(.ref o0)]))
  refine Runs.by (fun _ hr => XS.iloadN X12.here hx rfl (hb hby d7_42) rfl  hr) ?_
  show Runs p e below _ (T12.setTop (mkF m 43 #[.val (.ref o0), .val (.ref o1), .val (.int m2), .val (.int (2 : Int32)), .unset] [(.int m2), (.ref o0)]))
  refine Runs.by (fun _ hr => XS.iconst X12.here hx rfl (hb hby d7_43) hr) ?_
  show Runs p e below _ (T12.setTop (mkF m 44 #[.val (.ref o0), .val (.ref o1), .val (.int m2), .val (.int (2 : Int32)), .unset] [(.int (1 : Int32)), (.int m2), (.ref o0)]))
  refine Runs.by (fun _ hr => XS.iadd X12.here hx rfl (hb hby d7_44) rfl hr) ?_
  have hz := own_suc hm2.1 hm2.2.1
  have hz_c0 : c0.toInt < (m2 + (1 : Int32)).toInt := by omega
  have hr_c0 := own_rng pc0
  have hz_c1 : c1.toInt < (m2 + (1 : Int32)).toInt := by omega
  have hr_c1 := own_rng pc1
  show Runs p e below _ (T12.setTop (mkF m 45 #[.val (.ref o0), .val (.ref o1), .val (.int m2), .val (.int (2 : Int32)), .unset] [(.int (m2 + (1 : Int32))), (.ref o0)]))
  obtain ⟨T13, h13, k13, X13, e13, E13, A13, st13⟩ := newP X12 hx hZ (hw _ (List.mem_of_getElem? (i := 37) rfl)) eq12 (g := (mkF m 45 #[.val (.ref o0), .val (.ref o1), .val (.int m2), .val (.int (2 : Int32)), .unset] [(.int (m2 + (1 : Int32))), (.ref o0)])) rfl (hb hby d7_45) rfl (own_nneg (by omega)) (cap := 256) (own_cap (by omega)) (by decide) (by decide) (by decide)
  obtain ⟨b13, gz13⟩ : ∃ z, z = h4.size := ⟨_, rfl⟩
  rw [← gz13] at A13 st13
  have ne_o0_b13 : o0 ≠ b13 := Nat.ne_of_lt (Nat.lt_of_lt_of_le ((E0.ext E2).wr W4).lt (Nat.le_of_eq gz13.symm))
  have ne_o1_b13 : o1 ≠ b13 := Nat.ne_of_lt (Nat.lt_of_lt_of_le ((E1.ext E2).wr W4).lt (Nat.le_of_eq gz13.symm))
  have ne_va_b13 : va ≠ b13 := Nat.ne_of_lt (Nat.lt_of_lt_of_le ((V1.ext E2).other W4 ne_va_o0).lt (Nat.le_of_eq gz13.symm))
  have ne_b2_b13 : b2 ≠ b13 := Nat.ne_of_lt (Nat.lt_of_lt_of_le (G2.other W4 (Ne.symm ne_o0_b2)).lt (Nat.le_of_eq gz13.symm))
  have g_b13 : n0 ≤ b13 := Nat.le_trans (Nat.le_trans Z0 K5.1) (Nat.le_of_eq gz13.symm)
  have sz_b13 : h0.size ≤ b13 := Nat.le_trans K5.1 (Nat.le_of_eq gz13.symm)
  have K14 : Keep h0 h13 [o0] := K5.ext E13
  have O_14 : Old Z n0 h13 := O_5.ext E13
  have G13 : Arf Z h13 b13 k13 .boolean (m2 + (1 : Int32)) (fun j_ => .int ((fun _ => (0 : Int32)) j_)) := Arf.new A13 (own_nneg (by omega))
  refine Runs.by st13 ?_
  show Runs p e below _ (T13.setTop (mkF m 47 #[.val (.ref o0), .val (.ref o1), .val (.int m2), .val (.int (2 : Int32)), .unset] [(.ref b13), (.ref o0)]))
  obtain ⟨T15, h15, X15, e15, W15, st15⟩ := putF X13 hx hZ hown (host := "") (Or.inl (hw _ (List.mem_of_getElem? (i := 76) rfl))) Via.refl e13 (((F1.ext E2).other W4 (Or.inr (slot_ne (Or.inr (hw _ (List.mem_of_getElem? (i := 77) rfl))) (Or.inr (hw _ (List.mem_of_getElem? (i := 39) rfl))) (by decide) (t := (.array .boolean)) (t' := (.array .boolean)) (by decide) (by decide)))).ext E13) (((E0.ext E2).wr W4).ext E13) (Or.inr ⟨(hw _ (List.mem_of_getElem? (i := 77) rfl)), rfl, hnm⟩) (hw _ (List.mem_of_getElem? (i := 31) rfl)) (ty := (.array .boolean)) (by decide) rfl rfl (g := (mkF m 47 #[.val (.ref o0), .val (.ref o1), .val (.int m2), .val (.int (2 : Int32)), .unset] [(.ref b13), (.ref o0)])) rfl rfl (hb hby d7_47)
  have Fw15 := (((F1.ext E2).other W4 (Or.inr (slot_ne (Or.inr (hw _ (List.mem_of_getElem? (i := 77) rfl))) (Or.inr (hw _ (List.mem_of_getElem? (i := 39) rfl))) (by decide) (t := (.array .boolean)) (t' := (.array .boolean)) (by decide) (by decide)))).ext E13).same W15
  have K16 : Keep h0 h15 [o0] := K14.wr W15 (Or.inl (List.mem_of_getElem? (i := 0) rfl))
  have O_16 : Old Z n0 h15 := O_14.wr W15 g_o0
  have N15 := Fr.snoc X15 N12 g_o0
  refine Runs.by st15 ?_
  show Runs p e below _ (T15.setTop (mkF m 50 #[.val (.ref o0), .val (.ref o1), .val (.int m2), .val (.int (2 : Int32)), .unset] []))
  refine Runs.by (fun _ hr => XS.iconst X15.here hx rfl (hb hby d7_50) hr) ?_
  show Runs p e below _ (T15.setTop (mkF m 51 #[.val (.ref o0), .val (.ref o1), .val (.int m2), .val (.int (2 : Int32)), .unset] [(.int (0 : Int32))]))
  refine Runs.by (fun _ hr => XS.istoreN X15.here hx rfl (hb hby d7_51) rfl (l' := #[.val (.ref o0), .val (.ref o1), .val (.int m2), .val (.int (0 : Int32)), .unset]) rfl hr) ?_
  show Runs p e below _ (T15.setTop (mkF m 52 #[.val (.ref o0), .val (.ref o1), .val (.int m2), .val (.int (0 : Int32)), .unset] []))
  refine Runs.by (fun _ hr => XS.iloadN X15.here hx rfl (hb hby d7_52) rfl  hr) ?_
  show Runs p e below _ (T15.setTop (mkF m 53 #[.val (.ref o0), .val (.ref o1), .val (.int m2), .val (.int (0 : Int32)), .unset] [(.int (0 : Int32))]))
  refine Runs.by (fun _ hr => XS.aloadN X15.here hx rfl (hb hby d7_53) rfl rfl hr) ?_
  show Runs p e below _ (T15.setTop (mkF m 54 #[.val (.ref o0), .val (.ref o1), .val (.int m2), .val (.int (0 : Int32)), .unset] [(.ref o1), (.int (0 : Int32))]))
  obtain ⟨cq17, kq17, q17a, q17b, q17c⟩ := isOf hZ e15 ((((E1.ext E2).wr W4).ext E13).wr W15)
  obtain ⟨_, _, ⟨T17, L17, k17, n17⟩, -, X17, ⟨Lc17, hQ17, l17, y17, z17⟩, st17⟩ := X15.virtualBack hx (y := (⟨"java/lang/String", "length", "()I"⟩ : MethodName)) (z := (⟨"java/lang/String", "length", "()I"⟩ : MethodName)) hown (mvT hZ (hw _ (List.mem_of_getElem? (i := 40) rfl))) (mvT hZ (hw _ (List.mem_of_getElem? (i := 41) rfl))) (notFace_of_selects (args := #[]) (mvT hZ (hw _ (List.mem_of_getElem? (i := 43) rfl)))) (mvT hZ (hw _ (List.mem_of_getElem? (i := 43) rfl))) (mvT hZ (hw _ (List.mem_of_getElem? (i := 42) rfl))) (by decide) (backOf (W := 1) (rm8 l Z a0 hw [] o1 gC va kv (2 : Int32) [(.int (c0.toInt8.toInt32)), (.int (c1.toInt8.toInt32))] (.int 0) h15 n0 (Nat.le_trans Z0 K16.1) ((((E1.ext E2).wr W4).ext E13).wr W15) (SC.ext O_16.2) cC ((((FC1.ext E2).other W4 (Or.inl ne_o1_o0)).ext E13).other W15 (Or.inl ne_o1_o0)) ((((FV1.ext E2).other W4 (Or.inl ne_o1_o0)).ext E13).other W15 (Or.inl ne_o1_o0)) ((((V1.ext E2).other W4 ne_va_o0).ext E13).other W15 ne_va_o0)) hZ (hw _ (List.mem_of_getElem? (i := 44) rfl)) (hw _ (List.mem_of_getElem? (i := 2) rfl)) (by decide) (by decide)) q17a q17c (g := (mkF m 54 #[.val (.ref o0), .val (.ref o1), .val (.int m2), .val (.int (0 : Int32)), .unset] [(.ref o1), (.int (0 : Int32))])) rfl (by rw [hml]; rfl) (Steps.refl _) (argsL := []) (rest := [(.int (0 : Int32))]) (lenOf pd_6 rfl) rfl (by show 2 * 0 + _ ≤ _; exact Nat.le_of_eq rfl) (hb hby d7_54) (fun _ _ => ⟨rfl, e15, (by decide : 2 + 0 ≤ _), (by decide : 512 + 0 ≤ _)⟩)
  dsimp only [Pt.U, Pt.locs, Pt.cells, Pt.slots] at X17 l17 y17 z17 st17 hQ17
  subst l17 y17 z17
  obtain ⟨rfl, Nq17, eq17⟩ := hQ17
  have N17 := Fr.app N15 Nq17
  refine Runs.by (fun _ hr => st17.trans hr) ?_
  show Runs p e below _ (T17.setTop (mkF m 57 #[.val (.ref o0), .val (.ref o1), .val (.int m2), .val (.int (0 : Int32)), .unset] [(.int (2 : Int32)), (.int (0 : Int32))]))
  have hc57 : (0 : Int32) < (2 : Int32) := (by decide)
  refine Runs.by (fun _ hr => XS.icmpNo X17.here hx rfl (hb hby d7_57) rfl (tlt hc57).2.1 hr) ?_
  show Runs p e below _ (T17.setTop (mkF m 60 #[.val (.ref o0), .val (.ref o1), .val (.int m2), .val (.int (0 : Int32)), .unset] []))
  refine Runs.by (fun _ hr => XS.aloadN X17.here hx rfl (hb hby d7_60) rfl rfl hr) ?_
  show Runs p e below _ (T17.setTop (mkF m 61 #[.val (.ref o0), .val (.ref o1), .val (.int m2), .val (.int (0 : Int32)), .unset] [(.ref o1)]))
  refine Runs.by (fun _ hr => XS.iloadN X17.here hx rfl (hb hby d7_61) rfl  hr) ?_
  show Runs p e below _ (T17.setTop (mkF m 62 #[.val (.ref o0), .val (.ref o1), .val (.int m2), .val (.int (0 : Int32)), .unset] [(.int (0 : Int32)), (.ref o1)]))
  obtain ⟨cq18, kq18, q18a, q18b, q18c⟩ := isOf hZ eq17 ((((E1.ext E2).wr W4).ext E13).wr W15)
  obtain ⟨_, _, ⟨T18, L18, k18, n18⟩, -, X18, ⟨Lc18, hQ18, l18, y18, z18⟩, st18⟩ := X17.virtualBack hx (y := (⟨"java/lang/String", "charAt", "(I)C"⟩ : MethodName)) (z := (⟨"java/lang/String", "charAt", "(I)C"⟩ : MethodName)) hown (mvT hZ (hw _ (List.mem_of_getElem? (i := 50) rfl))) (mvT hZ (hw _ (List.mem_of_getElem? (i := 51) rfl))) (notFace_of_selects (args := #[]) (mvT hZ (hw _ (List.mem_of_getElem? (i := 53) rfl)))) (mvT hZ (hw _ (List.mem_of_getElem? (i := 53) rfl))) (mvT hZ (hw _ (List.mem_of_getElem? (i := 52) rfl))) (by decide) (backOf (W := 0) (rm10 l Z a0 hw [] o1 (0 : Int32) gC vG va kv (2 : Int32) [(.int (c0.toInt8.toInt32)), (.int (c1.toInt8.toInt32))] (.int 0) (c0.toInt8.toInt32) c0 h15 n0 (Nat.le_trans Z0 K16.1) ((((E1.ext E2).wr W4).ext E13).wr W15) (SC.ext O_16.2) cC ((((FC1.ext E2).other W4 (Or.inl ne_o1_o0)).ext E13).other W15 (Or.inl ne_o1_o0)) ((((FV1.ext E2).other W4 (Or.inl ne_o1_o0)).ext E13).other W15 (Or.inl ne_o1_o0)) hvG ⟨by decide, by decide⟩ (SG.ext O_16.2) ((((V1.ext E2).other W4 ne_va_o0).ext E13).other W15 ne_va_o0) rfl (own_cc pc0)) hZ (hw _ (List.mem_of_getElem? (i := 54) rfl)) (hw _ (List.mem_of_getElem? (i := 2) rfl)) (by decide) (by decide)) q18a q18c (g := (mkF m 62 #[.val (.ref o0), .val (.ref o1), .val (.int m2), .val (.int (0 : Int32)), .unset] [(.int (0 : Int32)), (.ref o1)])) rfl (by rw [hml]; rfl) (Steps.refl _) (argsL := [(.int (0 : Int32))]) (rest := []) (lenOf pd_7 rfl) rfl (by show 2 * 0 + _ ≤ _; exact Nat.le_of_eq rfl) (hb hby d7_62) (fun _ _ => ⟨rfl, eq17, (by decide : 2 + 0 ≤ _), (by decide : 512 + 0 ≤ _)⟩)
  dsimp only [Pt.U, Pt.locs, Pt.cells, Pt.slots] at X18 l18 y18 z18 st18 hQ18
  subst l18 y18 z18
  obtain ⟨rfl, Nq18, eq18⟩ := hQ18
  have N18 := Fr.app N17 Nq18
  refine Runs.by (fun _ hr => st18.trans hr) ?_
  show Runs p e below _ (T18.setTop (mkF m 65 #[.val (.ref o0), .val (.ref o1), .val (.int m2), .val (.int (0 : Int32)), .unset] [(.int c0)]))
  refine Runs.by (fun _ hr => XS.istore X18.here hx rfl (hb hby d7_65) rfl (l' := #[.val (.ref o0), .val (.ref o1), .val (.int m2), .val (.int (0 : Int32)), .val (.int c0)]) rfl hr) ?_
  show Runs p e below _ (T18.setTop (mkF m 67 #[.val (.ref o0), .val (.ref o1), .val (.int m2), .val (.int (0 : Int32)), .val (.int c0)] []))
  refine Runs.by (fun _ hr => XS.aloadN X18.here hx rfl (hb hby d7_67) rfl rfl hr) ?_
  show Runs p e below _ (T18.setTop (mkF m 68 #[.val (.ref o0), .val (.ref o1), .val (.int m2), .val (.int (0 : Int32)), .val (.int c0)] [(.ref o0)]))
  obtain ⟨T19, X19, e19, st19⟩ := getF X18 hx hZ hown (host := "") (Or.inl (hw _ (List.mem_of_getElem? (i := 76) rfl))) Via.refl eq18 Fw15 (g := (mkF m 68 #[.val (.ref o0), .val (.ref o1), .val (.int m2), .val (.int (0 : Int32)), .val (.int c0)] [(.ref o0)])) rfl rfl (hb hby d7_68)
  refine Runs.by st19 ?_
  show Runs p e below _ (T19.setTop (mkF m 71 #[.val (.ref o0), .val (.ref o1), .val (.int m2), .val (.int (0 : Int32)), .val (.int c0)] [(.ref b13)]))
  refine Runs.by (fun _ hr => XS.iload X19.here hx rfl (hb hby d7_71) rfl  hr) ?_
  show Runs p e below _ (T19.setTop (mkF m 73 #[.val (.ref o0), .val (.ref o1), .val (.int m2), .val (.int (0 : Int32)), .val (.int c0)] [(.int c0), (.ref b13)]))
  refine Runs.by (fun _ hr => XS.iconst X19.here hx rfl (hb hby d7_73) hr) ?_
  show Runs p e below _ (T19.setTop (mkF m 74 #[.val (.ref o0), .val (.ref o1), .val (.int m2), .val (.int (0 : Int32)), .val (.int c0)] [(.int (1 : Int32)), (.int c0), (.ref b13)]))
  obtain ⟨cl20, Ar20, q20, S20, N20', H20⟩ := id (G13.other W15 (Ne.symm ne_o0_b13))
  have ix20 := own_ix (j := c0) (z := (m2 + (1 : Int32))) (n := c0.toNatClampNeg) (own_tn hr_c0.1) hz_c0
  have hin20 : ¬ (c0 < 0 ∨ cl20.slots.size ≤ (c0).toNatClampNeg) := inb_of S20 ix20.1
  obtain ⟨T20, h20, X20, e20, W20, st20⟩ := stZ X19 hx hZ e19 Ar20 (j := c0) hin20 (g := (mkF m 74 #[.val (.ref o0), .val (.ref o1), .val (.int m2), .val (.int (0 : Int32)), .val (.int c0)] [(.int (1 : Int32)), (.int c0), (.ref b13)])) rfl rfl (hb hby d7_74)
  have G20 : Arf Z h20 b13 k13 .boolean (m2 + (1 : Int32)) (fun j_ => .int ((own_up (fun _ => (0 : Int32)) (c0.toNatClampNeg) (nar .boolean (1 : Int32))) j_)) := (Arf.set Ar20 q20 S20 N20' H20 W20 ix20.2.1).cast (fun j_ _ => by simp only [own_up]; split <;> rfl)
  have K21 : Keep h0 h20 [o0] := K16.wr W20 (Or.inr sz_b13)
  have O_21 : Old Z n0 h20 := O_16.wr W20 g_b13
  have N20 := Fr.snoc X20 N18 g_b13
  refine Runs.by st20 ?_
  show Runs p e below _ (T20.setTop (mkF m 75 #[.val (.ref o0), .val (.ref o1), .val (.int m2), .val (.int (0 : Int32)), .val (.int c0)] []))
  refine Runs.by (fun _ hr => XS.aloadN X20.here hx rfl (hb hby d7_75) rfl rfl hr) ?_
  show Runs p e below _ (T20.setTop (mkF m 76 #[.val (.ref o0), .val (.ref o1), .val (.int m2), .val (.int (0 : Int32)), .val (.int c0)] [(.ref o0)]))
  obtain ⟨T22, X22, e22, st22⟩ := getF X20 hx hZ hown (host := "") (Or.inl (hw _ (List.mem_of_getElem? (i := 38) rfl))) Via.refl e20 (((Fw4.ext E13).other W15 (Or.inr (slot_ne (Or.inr (hw _ (List.mem_of_getElem? (i := 39) rfl))) (Or.inr (hw _ (List.mem_of_getElem? (i := 77) rfl))) (by decide) (t := (.array .boolean)) (t' := (.array .boolean)) (by decide) (by decide)))).other W20 (Or.inl ne_o0_b13)) (g := (mkF m 76 #[.val (.ref o0), .val (.ref o1), .val (.int m2), .val (.int (0 : Int32)), .val (.int c0)] [(.ref o0)])) rfl rfl (hb hby d7_76)
  refine Runs.by st22 ?_
  have JJ23 : ∀ (ixJJ23 : Int32) (TJ24 : State) (lJ24 : List Loc) (XJ24 : Stand p l e ({ frames := 4, cells := 2, slots := 512, locals := 60 } : Room) s m #[(.ref o0), (.ref o1)] below meth c TJ24 lJ24 2 512) (eJ24 : TJ24.heap = h20) (NJ24 : Fr n0 lJ24) (hixJJ23 : 0 ≤ ixJJ23.toInt ∧ ixJJ23.toInt < (256 : Int32).toInt), Runs p e below (QE s (Q_rm7_2 Z o0 o1 gC vG va kv c0 c1 h0 n0) ({ frames := 4, cells := 2, slots := 512, locals := 60 } : Room).cells ({ frames := 4, cells := 2, slots := 512, locals := 60 } : Room).slots) (TJ24.setTop (mkF m 121 #[.val (.ref o0), .val (.ref o1), .val (.int m2), .val (.int (0 : Int32)), .val (.int c0)] [(.int ixJJ23), (.ref b2)])) := by
    intro ixJJ23 TJ24 lJ24 XJ24 eJ24 NJ24 hixJJ23
    show Runs p e below _ (TJ24.setTop (mkF m 121 #[.val (.ref o0), .val (.ref o1), .val (.int m2), .val (.int (0 : Int32)), .val (.int c0)] [(.int ixJJ23), (.ref b2)]))
    refine Runs.by (fun _ hr => XS.iconst XJ24.here hx rfl (hb hby d7_121) hr) ?_
    show Runs p e below _ (TJ24.setTop (mkF m 122 #[.val (.ref o0), .val (.ref o1), .val (.int m2), .val (.int (0 : Int32)), .val (.int c0)] [(.int (1 : Int32)), (.int ixJJ23), (.ref b2)]))
    obtain ⟨cl25, Ar25, q25, S25, N25', H25⟩ := id ((((G2.other W4 (Ne.symm ne_o0_b2)).ext E13).other W15 (Ne.symm ne_o0_b2)).other W20 ne_b2_b13)
    have ix25 := own_ix (j := ixJJ23) (z := (256 : Int32)) (n := ixJJ23.toNatClampNeg) (own_tn hixJJ23.1) hixJJ23.2
    have hin25 : ¬ (ixJJ23 < 0 ∨ cl25.slots.size ≤ (ixJJ23).toNatClampNeg) := inb_of S25 ix25.1
    obtain ⟨T25, h25, X25, e25, W25, st25⟩ := stZ XJ24 hx hZ eJ24 Ar25 (j := ixJJ23) hin25 (g := (mkF m 122 #[.val (.ref o0), .val (.ref o1), .val (.int m2), .val (.int (0 : Int32)), .val (.int c0)] [(.int (1 : Int32)), (.int ixJJ23), (.ref b2)])) rfl rfl (hb hby d7_122)
    have G25 : Arf Z h25 b2 k2 .boolean (256 : Int32) (fun j_ => .int ((own_up (fun _ => (0 : Int32)) (ixJJ23.toNatClampNeg) (nar .boolean (1 : Int32))) j_)) := (Arf.set Ar25 q25 S25 N25' H25 W25 ix25.2.1).cast (fun j_ _ => by simp only [own_up]; split <;> rfl)
    have K26 : Keep h0 h25 [o0] := K21.wr W25 (Or.inr sz_b2)
    have O_26 : Old Z n0 h25 := O_21.wr W25 g_b2
    have N25 := Fr.snoc X25 NJ24 g_b2
    refine Runs.by st25 ?_
    show Runs p e below _ (T25.setTop (mkF m 123 #[.val (.ref o0), .val (.ref o1), .val (.int m2), .val (.int (0 : Int32)), .val (.int c0)] []))
    refine Runs.by (fun _ hr => XS.iinc X25.here hx rfl (hb hby d7_123) rfl (l' := #[.val (.ref o0), .val (.ref o1), .val (.int m2), .val (.int (1 : Int32)), .val (.int c0)]) rfl hr) ?_
    show Runs p e below _ (T25.setTop (mkF m 126 #[.val (.ref o0), .val (.ref o1), .val (.int m2), .val (.int (1 : Int32)), .val (.int c0)] []))
    refine Runs.by (fun _ hr => XS.goto X25.here hx rfl (pc0 := 126) (pc' := 52) rfl (hb hby d7_126) (by decide) (by decide) hr) ?_
    show Runs p e below _ (T25.setTop (mkF m 52 #[.val (.ref o0), .val (.ref o1), .val (.int m2), .val (.int (1 : Int32)), .val (.int c0)] []))
    refine Runs.by (fun _ hr => XS.iloadN X25.here hx rfl (hb hby d7_52) rfl  hr) ?_
    show Runs p e below _ (T25.setTop (mkF m 53 #[.val (.ref o0), .val (.ref o1), .val (.int m2), .val (.int (1 : Int32)), .val (.int c0)] [(.int (1 : Int32))]))
    refine Runs.by (fun _ hr => XS.aloadN X25.here hx rfl (hb hby d7_53) rfl rfl hr) ?_
    show Runs p e below _ (T25.setTop (mkF m 54 #[.val (.ref o0), .val (.ref o1), .val (.int m2), .val (.int (1 : Int32)), .val (.int c0)] [(.ref o1), (.int (1 : Int32))]))
    obtain ⟨cq27, kq27, q27a, q27b, q27c⟩ := isOf hZ e25 ((((((E1.ext E2).wr W4).ext E13).wr W15).wr W20).wr W25)
    obtain ⟨_, _, ⟨T27, L27, k27, n27⟩, -, X27, ⟨Lc27, hQ27, l27, y27, z27⟩, st27⟩ := X25.virtualBack hx (y := (⟨"java/lang/String", "length", "()I"⟩ : MethodName)) (z := (⟨"java/lang/String", "length", "()I"⟩ : MethodName)) hown (mvT hZ (hw _ (List.mem_of_getElem? (i := 40) rfl))) (mvT hZ (hw _ (List.mem_of_getElem? (i := 41) rfl))) (notFace_of_selects (args := #[]) (mvT hZ (hw _ (List.mem_of_getElem? (i := 43) rfl)))) (mvT hZ (hw _ (List.mem_of_getElem? (i := 43) rfl))) (mvT hZ (hw _ (List.mem_of_getElem? (i := 42) rfl))) (by decide) (backOf (W := 1) (rm8 l Z a0 hw [] o1 gC va kv (2 : Int32) [(.int (c0.toInt8.toInt32)), (.int (c1.toInt8.toInt32))] (.int 0) h25 n0 (Nat.le_trans Z0 K26.1) ((((((E1.ext E2).wr W4).ext E13).wr W15).wr W20).wr W25) (SC.ext O_26.2) cC ((((((FC1.ext E2).other W4 (Or.inl ne_o1_o0)).ext E13).other W15 (Or.inl ne_o1_o0)).other W20 (Or.inl ne_o1_b13)).other W25 (Or.inl ne_o1_b2)) ((((((FV1.ext E2).other W4 (Or.inl ne_o1_o0)).ext E13).other W15 (Or.inl ne_o1_o0)).other W20 (Or.inl ne_o1_b13)).other W25 (Or.inl ne_o1_b2)) ((((((V1.ext E2).other W4 ne_va_o0).ext E13).other W15 ne_va_o0).other W20 ne_va_b13).other W25 ne_va_b2)) hZ (hw _ (List.mem_of_getElem? (i := 44) rfl)) (hw _ (List.mem_of_getElem? (i := 2) rfl)) (by decide) (by decide)) q27a q27c (g := (mkF m 54 #[.val (.ref o0), .val (.ref o1), .val (.int m2), .val (.int (1 : Int32)), .val (.int c0)] [(.ref o1), (.int (1 : Int32))])) rfl (by rw [hml]; rfl) (Steps.refl _) (argsL := []) (rest := [(.int (1 : Int32))]) (lenOf pd_6 rfl) rfl (by show 2 * 0 + _ ≤ _; exact Nat.le_of_eq rfl) (hb hby d7_54) (fun _ _ => ⟨rfl, e25, (by decide : 2 + 0 ≤ _), (by decide : 512 + 0 ≤ _)⟩)
    dsimp only [Pt.U, Pt.locs, Pt.cells, Pt.slots] at X27 l27 y27 z27 st27 hQ27
    subst l27 y27 z27
    obtain ⟨rfl, Nq27, eq27⟩ := hQ27
    have N27 := Fr.app N25 Nq27
    refine Runs.by (fun _ hr => st27.trans hr) ?_
    show Runs p e below _ (T27.setTop (mkF m 57 #[.val (.ref o0), .val (.ref o1), .val (.int m2), .val (.int (1 : Int32)), .val (.int c0)] [(.int (2 : Int32)), (.int (1 : Int32))]))
    have hc57 : (1 : Int32) < (2 : Int32) := (by decide)
    refine Runs.by (fun _ hr => XS.icmpNo X27.here hx rfl (hb hby d7_57) rfl (tlt hc57).2.1 hr) ?_
    show Runs p e below _ (T27.setTop (mkF m 60 #[.val (.ref o0), .val (.ref o1), .val (.int m2), .val (.int (1 : Int32)), .val (.int c0)] []))
    refine Runs.by (fun _ hr => XS.aloadN X27.here hx rfl (hb hby d7_60) rfl rfl hr) ?_
    show Runs p e below _ (T27.setTop (mkF m 61 #[.val (.ref o0), .val (.ref o1), .val (.int m2), .val (.int (1 : Int32)), .val (.int c0)] [(.ref o1)]))
    refine Runs.by (fun _ hr => XS.iloadN X27.here hx rfl (hb hby d7_61) rfl  hr) ?_
    show Runs p e below _ (T27.setTop (mkF m 62 #[.val (.ref o0), .val (.ref o1), .val (.int m2), .val (.int (1 : Int32)), .val (.int c0)] [(.int (1 : Int32)), (.ref o1)]))
    obtain ⟨cq28, kq28, q28a, q28b, q28c⟩ := isOf hZ eq27 ((((((E1.ext E2).wr W4).ext E13).wr W15).wr W20).wr W25)
    obtain ⟨_, _, ⟨T28, L28, k28, n28⟩, -, X28, ⟨Lc28, hQ28, l28, y28, z28⟩, st28⟩ := X27.virtualBack hx (y := (⟨"java/lang/String", "charAt", "(I)C"⟩ : MethodName)) (z := (⟨"java/lang/String", "charAt", "(I)C"⟩ : MethodName)) hown (mvT hZ (hw _ (List.mem_of_getElem? (i := 50) rfl))) (mvT hZ (hw _ (List.mem_of_getElem? (i := 51) rfl))) (notFace_of_selects (args := #[]) (mvT hZ (hw _ (List.mem_of_getElem? (i := 53) rfl)))) (mvT hZ (hw _ (List.mem_of_getElem? (i := 53) rfl))) (mvT hZ (hw _ (List.mem_of_getElem? (i := 52) rfl))) (by decide) (backOf (W := 0) (rm10 l Z a0 hw [] o1 (1 : Int32) gC vG va kv (2 : Int32) [(.int (c0.toInt8.toInt32)), (.int (c1.toInt8.toInt32))] (.int 0) (c1.toInt8.toInt32) c1 h25 n0 (Nat.le_trans Z0 K26.1) ((((((E1.ext E2).wr W4).ext E13).wr W15).wr W20).wr W25) (SC.ext O_26.2) cC ((((((FC1.ext E2).other W4 (Or.inl ne_o1_o0)).ext E13).other W15 (Or.inl ne_o1_o0)).other W20 (Or.inl ne_o1_b13)).other W25 (Or.inl ne_o1_b2)) ((((((FV1.ext E2).other W4 (Or.inl ne_o1_o0)).ext E13).other W15 (Or.inl ne_o1_o0)).other W20 (Or.inl ne_o1_b13)).other W25 (Or.inl ne_o1_b2)) hvG ⟨by decide, by decide⟩ (SG.ext O_26.2) ((((((V1.ext E2).other W4 ne_va_o0).ext E13).other W15 ne_va_o0).other W20 ne_va_b13).other W25 ne_va_b2) rfl (own_cc pc1)) hZ (hw _ (List.mem_of_getElem? (i := 54) rfl)) (hw _ (List.mem_of_getElem? (i := 2) rfl)) (by decide) (by decide)) q28a q28c (g := (mkF m 62 #[.val (.ref o0), .val (.ref o1), .val (.int m2), .val (.int (1 : Int32)), .val (.int c0)] [(.int (1 : Int32)), (.ref o1)])) rfl (by rw [hml]; rfl) (Steps.refl _) (argsL := [(.int (1 : Int32))]) (rest := []) (lenOf pd_7 rfl) rfl (by show 2 * 0 + _ ≤ _; exact Nat.le_of_eq rfl) (hb hby d7_62) (fun _ _ => ⟨rfl, eq27, (by decide : 2 + 0 ≤ _), (by decide : 512 + 0 ≤ _)⟩)
    dsimp only [Pt.U, Pt.locs, Pt.cells, Pt.slots] at X28 l28 y28 z28 st28 hQ28
    subst l28 y28 z28
    obtain ⟨rfl, Nq28, eq28⟩ := hQ28
    have N28 := Fr.app N27 Nq28
    refine Runs.by (fun _ hr => st28.trans hr) ?_
    show Runs p e below _ (T28.setTop (mkF m 65 #[.val (.ref o0), .val (.ref o1), .val (.int m2), .val (.int (1 : Int32)), .val (.int c0)] [(.int c1)]))
    refine Runs.by (fun _ hr => XS.istore X28.here hx rfl (hb hby d7_65) rfl (l' := #[.val (.ref o0), .val (.ref o1), .val (.int m2), .val (.int (1 : Int32)), .val (.int c1)]) rfl hr) ?_
    show Runs p e below _ (T28.setTop (mkF m 67 #[.val (.ref o0), .val (.ref o1), .val (.int m2), .val (.int (1 : Int32)), .val (.int c1)] []))
    refine Runs.by (fun _ hr => XS.aloadN X28.here hx rfl (hb hby d7_67) rfl rfl hr) ?_
    show Runs p e below _ (T28.setTop (mkF m 68 #[.val (.ref o0), .val (.ref o1), .val (.int m2), .val (.int (1 : Int32)), .val (.int c1)] [(.ref o0)]))
    obtain ⟨T29, X29, e29, st29⟩ := getF X28 hx hZ hown (host := "") (Or.inl (hw _ (List.mem_of_getElem? (i := 76) rfl))) Via.refl eq28 ((Fw15.other W20 (Or.inl ne_o0_b13)).other W25 (Or.inl ne_o0_b2)) (g := (mkF m 68 #[.val (.ref o0), .val (.ref o1), .val (.int m2), .val (.int (1 : Int32)), .val (.int c1)] [(.ref o0)])) rfl rfl (hb hby d7_68)
    refine Runs.by st29 ?_
    show Runs p e below _ (T29.setTop (mkF m 71 #[.val (.ref o0), .val (.ref o1), .val (.int m2), .val (.int (1 : Int32)), .val (.int c1)] [(.ref b13)]))
    refine Runs.by (fun _ hr => XS.iload X29.here hx rfl (hb hby d7_71) rfl  hr) ?_
    show Runs p e below _ (T29.setTop (mkF m 73 #[.val (.ref o0), .val (.ref o1), .val (.int m2), .val (.int (1 : Int32)), .val (.int c1)] [(.int c1), (.ref b13)]))
    refine Runs.by (fun _ hr => XS.iconst X29.here hx rfl (hb hby d7_73) hr) ?_
    show Runs p e below _ (T29.setTop (mkF m 74 #[.val (.ref o0), .val (.ref o1), .val (.int m2), .val (.int (1 : Int32)), .val (.int c1)] [(.int (1 : Int32)), (.int c1), (.ref b13)]))
    obtain ⟨cl30, Ar30, q30, S30, N30', H30⟩ := id (G20.other W25 (Ne.symm ne_b2_b13))
    have ix30 := own_ix (j := c1) (z := (m2 + (1 : Int32))) (n := c1.toNatClampNeg) (own_tn hr_c1.1) hz_c1
    have hin30 : ¬ (c1 < 0 ∨ cl30.slots.size ≤ (c1).toNatClampNeg) := inb_of S30 ix30.1
    obtain ⟨T30, h30, X30, e30, W30, st30⟩ := stZ X29 hx hZ e29 Ar30 (j := c1) hin30 (g := (mkF m 74 #[.val (.ref o0), .val (.ref o1), .val (.int m2), .val (.int (1 : Int32)), .val (.int c1)] [(.int (1 : Int32)), (.int c1), (.ref b13)])) rfl rfl (hb hby d7_74)
    have G30 : Arf Z h30 b13 k13 .boolean (m2 + (1 : Int32)) (fun j_ => .int ((own_up (own_up (fun _ => (0 : Int32)) (c0.toNatClampNeg) (nar .boolean (1 : Int32))) (c1.toNatClampNeg) (nar .boolean (1 : Int32))) j_)) := (Arf.set Ar30 q30 S30 N30' H30 W30 ix30.2.1).cast (fun j_ _ => by simp only [own_up]; split <;> rfl)
    have K31 : Keep h0 h30 [o0] := K26.wr W30 (Or.inr sz_b13)
    have O_31 : Old Z n0 h30 := O_26.wr W30 g_b13
    have N30 := Fr.snoc X30 N28 g_b13
    refine Runs.by st30 ?_
    show Runs p e below _ (T30.setTop (mkF m 75 #[.val (.ref o0), .val (.ref o1), .val (.int m2), .val (.int (1 : Int32)), .val (.int c1)] []))
    refine Runs.by (fun _ hr => XS.aloadN X30.here hx rfl (hb hby d7_75) rfl rfl hr) ?_
    show Runs p e below _ (T30.setTop (mkF m 76 #[.val (.ref o0), .val (.ref o1), .val (.int m2), .val (.int (1 : Int32)), .val (.int c1)] [(.ref o0)]))
    obtain ⟨T32, X32, e32, st32⟩ := getF X30 hx hZ hown (host := "") (Or.inl (hw _ (List.mem_of_getElem? (i := 38) rfl))) Via.refl e30 (((((Fw4.ext E13).other W15 (Or.inr (slot_ne (Or.inr (hw _ (List.mem_of_getElem? (i := 39) rfl))) (Or.inr (hw _ (List.mem_of_getElem? (i := 77) rfl))) (by decide) (t := (.array .boolean)) (t' := (.array .boolean)) (by decide) (by decide)))).other W20 (Or.inl ne_o0_b13)).other W25 (Or.inl ne_o0_b2)).other W30 (Or.inl ne_o0_b13)) (g := (mkF m 76 #[.val (.ref o0), .val (.ref o1), .val (.int m2), .val (.int (1 : Int32)), .val (.int c1)] [(.ref o0)])) rfl rfl (hb hby d7_76)
    refine Runs.by st32 ?_
    have JJ33 : ∀ (ixJJ33 : Int32) (TJ34 : State) (lJ34 : List Loc) (XJ34 : Stand p l e ({ frames := 4, cells := 2, slots := 512, locals := 60 } : Room) s m #[(.ref o0), (.ref o1)] below meth c TJ34 lJ34 2 512) (eJ34 : TJ34.heap = h30) (NJ34 : Fr n0 lJ34) (hixJJ33 : 0 ≤ ixJJ33.toInt ∧ ixJJ33.toInt < (256 : Int32).toInt), Runs p e below (QE s (Q_rm7_2 Z o0 o1 gC vG va kv c0 c1 h0 n0) ({ frames := 4, cells := 2, slots := 512, locals := 60 } : Room).cells ({ frames := 4, cells := 2, slots := 512, locals := 60 } : Room).slots) (TJ34.setTop (mkF m 121 #[.val (.ref o0), .val (.ref o1), .val (.int m2), .val (.int (1 : Int32)), .val (.int c1)] [(.int ixJJ33), (.ref b2)])) := by
      intro ixJJ33 TJ34 lJ34 XJ34 eJ34 NJ34 hixJJ33
      show Runs p e below _ (TJ34.setTop (mkF m 121 #[.val (.ref o0), .val (.ref o1), .val (.int m2), .val (.int (1 : Int32)), .val (.int c1)] [(.int ixJJ33), (.ref b2)]))
      refine Runs.by (fun _ hr => XS.iconst XJ34.here hx rfl (hb hby d7_121) hr) ?_
      show Runs p e below _ (TJ34.setTop (mkF m 122 #[.val (.ref o0), .val (.ref o1), .val (.int m2), .val (.int (1 : Int32)), .val (.int c1)] [(.int (1 : Int32)), (.int ixJJ33), (.ref b2)]))
      obtain ⟨cl35, Ar35, q35, S35, N35', H35⟩ := id (G25.other W30 ne_b2_b13)
      have ix35 := own_ix (j := ixJJ33) (z := (256 : Int32)) (n := ixJJ33.toNatClampNeg) (own_tn hixJJ33.1) hixJJ33.2
      have hin35 : ¬ (ixJJ33 < 0 ∨ cl35.slots.size ≤ (ixJJ33).toNatClampNeg) := inb_of S35 ix35.1
      obtain ⟨T35, h35, X35, e35, W35, st35⟩ := stZ XJ34 hx hZ eJ34 Ar35 (j := ixJJ33) hin35 (g := (mkF m 122 #[.val (.ref o0), .val (.ref o1), .val (.int m2), .val (.int (1 : Int32)), .val (.int c1)] [(.int (1 : Int32)), (.int ixJJ33), (.ref b2)])) rfl rfl (hb hby d7_122)
      have G35 : Arf Z h35 b2 k2 .boolean (256 : Int32) (fun j_ => .int ((own_up (own_up (fun _ => (0 : Int32)) (ixJJ23.toNatClampNeg) (nar .boolean (1 : Int32))) (ixJJ33.toNatClampNeg) (nar .boolean (1 : Int32))) j_)) := (Arf.set Ar35 q35 S35 N35' H35 W35 ix35.2.1).cast (fun j_ _ => by simp only [own_up]; split <;> rfl)
      have K36 : Keep h0 h35 [o0] := K31.wr W35 (Or.inr sz_b2)
      have O_36 : Old Z n0 h35 := O_31.wr W35 g_b2
      have N35 := Fr.snoc X35 NJ34 g_b2
      refine Runs.by st35 ?_
      show Runs p e below _ (T35.setTop (mkF m 123 #[.val (.ref o0), .val (.ref o1), .val (.int m2), .val (.int (1 : Int32)), .val (.int c1)] []))
      refine Runs.by (fun _ hr => XS.iinc X35.here hx rfl (hb hby d7_123) rfl (l' := #[.val (.ref o0), .val (.ref o1), .val (.int m2), .val (.int (2 : Int32)), .val (.int c1)]) rfl hr) ?_
      show Runs p e below _ (T35.setTop (mkF m 126 #[.val (.ref o0), .val (.ref o1), .val (.int m2), .val (.int (2 : Int32)), .val (.int c1)] []))
      refine Runs.by (fun _ hr => XS.goto X35.here hx rfl (pc0 := 126) (pc' := 52) rfl (hb hby d7_126) (by decide) (by decide) hr) ?_
      show Runs p e below _ (T35.setTop (mkF m 52 #[.val (.ref o0), .val (.ref o1), .val (.int m2), .val (.int (2 : Int32)), .val (.int c1)] []))
      refine Runs.by (fun _ hr => XS.iloadN X35.here hx rfl (hb hby d7_52) rfl  hr) ?_
      show Runs p e below _ (T35.setTop (mkF m 53 #[.val (.ref o0), .val (.ref o1), .val (.int m2), .val (.int (2 : Int32)), .val (.int c1)] [(.int (2 : Int32))]))
      refine Runs.by (fun _ hr => XS.aloadN X35.here hx rfl (hb hby d7_53) rfl rfl hr) ?_
      show Runs p e below _ (T35.setTop (mkF m 54 #[.val (.ref o0), .val (.ref o1), .val (.int m2), .val (.int (2 : Int32)), .val (.int c1)] [(.ref o1), (.int (2 : Int32))]))
      obtain ⟨cq37, kq37, q37a, q37b, q37c⟩ := isOf hZ e35 ((((((((E1.ext E2).wr W4).ext E13).wr W15).wr W20).wr W25).wr W30).wr W35)
      obtain ⟨_, _, ⟨T37, L37, k37, n37⟩, -, X37, ⟨Lc37, hQ37, l37, y37, z37⟩, st37⟩ := X35.virtualBack hx (y := (⟨"java/lang/String", "length", "()I"⟩ : MethodName)) (z := (⟨"java/lang/String", "length", "()I"⟩ : MethodName)) hown (mvT hZ (hw _ (List.mem_of_getElem? (i := 40) rfl))) (mvT hZ (hw _ (List.mem_of_getElem? (i := 41) rfl))) (notFace_of_selects (args := #[]) (mvT hZ (hw _ (List.mem_of_getElem? (i := 43) rfl)))) (mvT hZ (hw _ (List.mem_of_getElem? (i := 43) rfl))) (mvT hZ (hw _ (List.mem_of_getElem? (i := 42) rfl))) (by decide) (backOf (W := 1) (rm8 l Z a0 hw [] o1 gC va kv (2 : Int32) [(.int (c0.toInt8.toInt32)), (.int (c1.toInt8.toInt32))] (.int 0) h35 n0 (Nat.le_trans Z0 K36.1) ((((((((E1.ext E2).wr W4).ext E13).wr W15).wr W20).wr W25).wr W30).wr W35) (SC.ext O_36.2) cC ((((((((FC1.ext E2).other W4 (Or.inl ne_o1_o0)).ext E13).other W15 (Or.inl ne_o1_o0)).other W20 (Or.inl ne_o1_b13)).other W25 (Or.inl ne_o1_b2)).other W30 (Or.inl ne_o1_b13)).other W35 (Or.inl ne_o1_b2)) ((((((((FV1.ext E2).other W4 (Or.inl ne_o1_o0)).ext E13).other W15 (Or.inl ne_o1_o0)).other W20 (Or.inl ne_o1_b13)).other W25 (Or.inl ne_o1_b2)).other W30 (Or.inl ne_o1_b13)).other W35 (Or.inl ne_o1_b2)) ((((((((V1.ext E2).other W4 ne_va_o0).ext E13).other W15 ne_va_o0).other W20 ne_va_b13).other W25 ne_va_b2).other W30 ne_va_b13).other W35 ne_va_b2)) hZ (hw _ (List.mem_of_getElem? (i := 44) rfl)) (hw _ (List.mem_of_getElem? (i := 2) rfl)) (by decide) (by decide)) q37a q37c (g := (mkF m 54 #[.val (.ref o0), .val (.ref o1), .val (.int m2), .val (.int (2 : Int32)), .val (.int c1)] [(.ref o1), (.int (2 : Int32))])) rfl (by rw [hml]; rfl) (Steps.refl _) (argsL := []) (rest := [(.int (2 : Int32))]) (lenOf pd_6 rfl) rfl (by show 2 * 0 + _ ≤ _; exact Nat.le_of_eq rfl) (hb hby d7_54) (fun _ _ => ⟨rfl, e35, (by decide : 2 + 0 ≤ _), (by decide : 512 + 0 ≤ _)⟩)
      dsimp only [Pt.U, Pt.locs, Pt.cells, Pt.slots] at X37 l37 y37 z37 st37 hQ37
      subst l37 y37 z37
      obtain ⟨rfl, Nq37, eq37⟩ := hQ37
      have N37 := Fr.app N35 Nq37
      refine Runs.by (fun _ hr => st37.trans hr) ?_
      show Runs p e below _ (T37.setTop (mkF m 57 #[.val (.ref o0), .val (.ref o1), .val (.int m2), .val (.int (2 : Int32)), .val (.int c1)] [(.int (2 : Int32)), (.int (2 : Int32))]))
      have hc57 : ¬ ((2 : Int32) < (2 : Int32)) := (by decide)
      refine Runs.by (fun _ hr => XS.icmpYes X37.here hx rfl (pc0 := 57) (pc' := 129) rfl (hb hby d7_57) rfl (flt hc57).2.1 (by decide) (by decide) hr) ?_
      show Runs p e below _ (T37.setTop (mkF m 129 #[.val (.ref o0), .val (.ref o1), .val (.int m2), .val (.int (2 : Int32)), .val (.int c1)] []))
      refine Runs.retV X37 hx hrt hlk (hb hby d7_129) (by decide) (by decide) ?_
      rw [eq37]
      exact ⟨rfl, N37, K36, ((((((((E0.ext E2).wr W4).ext E13).wr W15).wr W20).wr W25).wr W30).wr W35), b13, k13, (m2 + (1 : Int32)), (own_up (own_up (fun _ => (0 : Int32)) (c0.toNatClampNeg) (nar .boolean (1 : Int32))) (c1.toNatClampNeg) (nar .boolean (1 : Int32))), ((((Fw15.other W20 (Or.inl ne_o0_b13)).other W25 (Or.inl ne_o0_b2)).other W30 (Or.inl ne_o0_b13)).other W35 (Or.inl ne_o0_b2)), (G30.other W35 (Ne.symm ne_b2_b13)), own_s2 hr_c0.1 hz_c0 hr_c1.1 hz_c1⟩
    show Runs p e below _ (T32.setTop (mkF m 79 #[.val (.ref o0), .val (.ref o1), .val (.int m2), .val (.int (1 : Int32)), .val (.int c1)] [(.ref b2)]))
    refine Runs.by (fun _ hr => XS.iload X32.here hx rfl (hb hby d7_79) rfl  hr) ?_
    show Runs p e below _ (T32.setTop (mkF m 81 #[.val (.ref o0), .val (.ref o1), .val (.int m2), .val (.int (1 : Int32)), .val (.int c1)] [(.int c1), (.ref b2)]))
    refine Runs.by (fun _ hr => XS.sipush X32.here hx rfl (hb hby d7_81) hr) ?_
    show Runs p e below _ (T32.setTop (mkF m 84 #[.val (.ref o0), .val (.ref o1), .val (.int m2), .val (.int (1 : Int32)), .val (.int c1)] [(.int (128 : Int32)), (.int c1), (.ref b2)]))
    by_cases hc84 : c1 < (128 : Int32)
    · -- pc 84: c1 < (128 : Int32)
      refine Runs.by (fun _ hr => XS.icmpNo X32.here hx rfl (hb hby d7_84) rfl (tlt hc84).2.1 hr) ?_
      show Runs p e below _ (T32.setTop (mkF m 87 #[.val (.ref o0), .val (.ref o1), .val (.int m2), .val (.int (1 : Int32)), .val (.int c1)] [(.ref b2)]))
      refine Runs.by (fun _ hr => XS.iload X32.here hx rfl (hb hby d7_87) rfl  hr) ?_
      show Runs p e below _ (T32.setTop (mkF m 89 #[.val (.ref o0), .val (.ref o1), .val (.int m2), .val (.int (1 : Int32)), .val (.int c1)] [(.int c1), (.ref b2)]))
      refine Runs.by (fun _ hr => XS.goto X32.here hx rfl (pc0 := 89) (pc' := 121) rfl (hb hby d7_89) (by decide) (by decide) hr) ?_
      exact JJ33 c1 _ _ X32 e32 N30 (own_rng pc1)
    · -- pc 84: not c1 < (128 : Int32)
      refine Runs.by (fun _ hr => XS.icmpYes X32.here hx rfl (pc0 := 84) (pc' := 92) rfl (hb hby d7_84) rfl (flt hc84).2.1 (by decide) (by decide) hr) ?_
      show Runs p e below _ (T32.setTop (mkF m 92 #[.val (.ref o0), .val (.ref o1), .val (.int m2), .val (.int (1 : Int32)), .val (.int c1)] [(.ref b2)]))
      refine Runs.by (fun _ hr => XS.iload X32.here hx rfl (hb hby d7_92) rfl  hr) ?_
      show Runs p e below _ (T32.setTop (mkF m 94 #[.val (.ref o0), .val (.ref o1), .val (.int m2), .val (.int (1 : Int32)), .val (.int c1)] [(.int c1), (.ref b2)]))
      refine Runs.by (fun _ hr => XS.sipush X32.here hx rfl (hb hby d7_94) hr) ?_
      show Runs p e below _ (T32.setTop (mkF m 97 #[.val (.ref o0), .val (.ref o1), .val (.int m2), .val (.int (1 : Int32)), .val (.int c1)] [(.int (2048 : Int32)), (.int c1), (.ref b2)]))
      have hc97 : c1 < (2048 : Int32) := (own_2048 pc1)
      refine Runs.by (fun _ hr => XS.icmpNo X32.here hx rfl (hb hby d7_97) rfl (tlt hc97).2.1 hr) ?_
      show Runs p e below _ (T32.setTop (mkF m 100 #[.val (.ref o0), .val (.ref o1), .val (.int m2), .val (.int (1 : Int32)), .val (.int c1)] [(.ref b2)]))
      refine Runs.by (fun _ hr => XS.sipush X32.here hx rfl (hb hby d7_100) hr) ?_
      show Runs p e below _ (T32.setTop (mkF m 103 #[.val (.ref o0), .val (.ref o1), .val (.int m2), .val (.int (1 : Int32)), .val (.int c1)] [(.int (192 : Int32)), (.ref b2)]))
      refine Runs.by (fun _ hr => XS.iload X32.here hx rfl (hb hby d7_103) rfl  hr) ?_
      show Runs p e below _ (T32.setTop (mkF m 105 #[.val (.ref o0), .val (.ref o1), .val (.int m2), .val (.int (1 : Int32)), .val (.int c1)] [(.int c1), (.int (192 : Int32)), (.ref b2)]))
      refine Runs.by (fun _ hr => XS.bipush X32.here hx rfl (hb hby d7_105) hr) ?_
      show Runs p e below _ (T32.setTop (mkF m 107 #[.val (.ref o0), .val (.ref o1), .val (.int m2), .val (.int (1 : Int32)), .val (.int c1)] [(.int (6 : Int32)), (.int c1), (.int (192 : Int32)), (.ref b2)]))
      refine Runs.by (fun _ hr => XS.ishr X32.here hx rfl (hb hby d7_107) rfl hr) ?_
      show Runs p e below _ (T32.setTop (mkF m 108 #[.val (.ref o0), .val (.ref o1), .val (.int m2), .val (.int (1 : Int32)), .val (.int c1)] [(.int (c1 >>> ((6 : Int32) &&& 31))), (.int (192 : Int32)), (.ref b2)]))
      refine Runs.by (fun _ hr => XS.ior X32.here hx rfl (hb hby d7_108) rfl hr) ?_
      show Runs p e below _ (T32.setTop (mkF m 109 #[.val (.ref o0), .val (.ref o1), .val (.int m2), .val (.int (1 : Int32)), .val (.int c1)] [(.int ((192 : Int32) ||| (c1 >>> ((6 : Int32) &&& 31)))), (.ref b2)]))
      refine Runs.by (fun _ hr => XS.goto X32.here hx rfl (pc0 := 109) (pc' := 121) rfl (hb hby d7_109) (by decide) (by decide) hr) ?_
      exact JJ33 ((192 : Int32) ||| (c1 >>> ((6 : Int32) &&& 31))) _ _ X32 e32 N30 (own_fb2 pc1)
  show Runs p e below _ (T22.setTop (mkF m 79 #[.val (.ref o0), .val (.ref o1), .val (.int m2), .val (.int (0 : Int32)), .val (.int c0)] [(.ref b2)]))
  refine Runs.by (fun _ hr => XS.iload X22.here hx rfl (hb hby d7_79) rfl  hr) ?_
  show Runs p e below _ (T22.setTop (mkF m 81 #[.val (.ref o0), .val (.ref o1), .val (.int m2), .val (.int (0 : Int32)), .val (.int c0)] [(.int c0), (.ref b2)]))
  refine Runs.by (fun _ hr => XS.sipush X22.here hx rfl (hb hby d7_81) hr) ?_
  show Runs p e below _ (T22.setTop (mkF m 84 #[.val (.ref o0), .val (.ref o1), .val (.int m2), .val (.int (0 : Int32)), .val (.int c0)] [(.int (128 : Int32)), (.int c0), (.ref b2)]))
  by_cases hc84 : c0 < (128 : Int32)
  · -- pc 84: c0 < (128 : Int32)
    refine Runs.by (fun _ hr => XS.icmpNo X22.here hx rfl (hb hby d7_84) rfl (tlt hc84).2.1 hr) ?_
    show Runs p e below _ (T22.setTop (mkF m 87 #[.val (.ref o0), .val (.ref o1), .val (.int m2), .val (.int (0 : Int32)), .val (.int c0)] [(.ref b2)]))
    refine Runs.by (fun _ hr => XS.iload X22.here hx rfl (hb hby d7_87) rfl  hr) ?_
    show Runs p e below _ (T22.setTop (mkF m 89 #[.val (.ref o0), .val (.ref o1), .val (.int m2), .val (.int (0 : Int32)), .val (.int c0)] [(.int c0), (.ref b2)]))
    refine Runs.by (fun _ hr => XS.goto X22.here hx rfl (pc0 := 89) (pc' := 121) rfl (hb hby d7_89) (by decide) (by decide) hr) ?_
    exact JJ23 c0 _ _ X22 e22 N20 (own_rng pc0)
  · -- pc 84: not c0 < (128 : Int32)
    refine Runs.by (fun _ hr => XS.icmpYes X22.here hx rfl (pc0 := 84) (pc' := 92) rfl (hb hby d7_84) rfl (flt hc84).2.1 (by decide) (by decide) hr) ?_
    show Runs p e below _ (T22.setTop (mkF m 92 #[.val (.ref o0), .val (.ref o1), .val (.int m2), .val (.int (0 : Int32)), .val (.int c0)] [(.ref b2)]))
    refine Runs.by (fun _ hr => XS.iload X22.here hx rfl (hb hby d7_92) rfl  hr) ?_
    show Runs p e below _ (T22.setTop (mkF m 94 #[.val (.ref o0), .val (.ref o1), .val (.int m2), .val (.int (0 : Int32)), .val (.int c0)] [(.int c0), (.ref b2)]))
    refine Runs.by (fun _ hr => XS.sipush X22.here hx rfl (hb hby d7_94) hr) ?_
    show Runs p e below _ (T22.setTop (mkF m 97 #[.val (.ref o0), .val (.ref o1), .val (.int m2), .val (.int (0 : Int32)), .val (.int c0)] [(.int (2048 : Int32)), (.int c0), (.ref b2)]))
    have hc97 : c0 < (2048 : Int32) := (own_2048 pc0)
    refine Runs.by (fun _ hr => XS.icmpNo X22.here hx rfl (hb hby d7_97) rfl (tlt hc97).2.1 hr) ?_
    show Runs p e below _ (T22.setTop (mkF m 100 #[.val (.ref o0), .val (.ref o1), .val (.int m2), .val (.int (0 : Int32)), .val (.int c0)] [(.ref b2)]))
    refine Runs.by (fun _ hr => XS.sipush X22.here hx rfl (hb hby d7_100) hr) ?_
    show Runs p e below _ (T22.setTop (mkF m 103 #[.val (.ref o0), .val (.ref o1), .val (.int m2), .val (.int (0 : Int32)), .val (.int c0)] [(.int (192 : Int32)), (.ref b2)]))
    refine Runs.by (fun _ hr => XS.iload X22.here hx rfl (hb hby d7_103) rfl  hr) ?_
    show Runs p e below _ (T22.setTop (mkF m 105 #[.val (.ref o0), .val (.ref o1), .val (.int m2), .val (.int (0 : Int32)), .val (.int c0)] [(.int c0), (.int (192 : Int32)), (.ref b2)]))
    refine Runs.by (fun _ hr => XS.bipush X22.here hx rfl (hb hby d7_105) hr) ?_
    show Runs p e below _ (T22.setTop (mkF m 107 #[.val (.ref o0), .val (.ref o1), .val (.int m2), .val (.int (0 : Int32)), .val (.int c0)] [(.int (6 : Int32)), (.int c0), (.int (192 : Int32)), (.ref b2)]))
    refine Runs.by (fun _ hr => XS.ishr X22.here hx rfl (hb hby d7_107) rfl hr) ?_
    show Runs p e below _ (T22.setTop (mkF m 108 #[.val (.ref o0), .val (.ref o1), .val (.int m2), .val (.int (0 : Int32)), .val (.int c0)] [(.int (c0 >>> ((6 : Int32) &&& 31))), (.int (192 : Int32)), (.ref b2)]))
    refine Runs.by (fun _ hr => XS.ior X22.here hx rfl (hb hby d7_108) rfl hr) ?_
    show Runs p e below _ (T22.setTop (mkF m 109 #[.val (.ref o0), .val (.ref o1), .val (.int m2), .val (.int (0 : Int32)), .val (.int c0)] [(.int ((192 : Int32) ||| (c0 >>> ((6 : Int32) &&& 31)))), (.ref b2)]))
    refine Runs.by (fun _ hr => XS.goto X22.here hx rfl (pc0 := 109) (pc' := 121) rfl (hb hby d7_109) (by decide) (by decide) hr) ?_
    exact JJ23 ((192 : Int32) ||| (c0 >>> ((6 : Int32) &&& 31))) _ _ X22 e22 N20 (own_fb2 pc0)
def Q_rm7_3 (Z : State) (o0 : Addr) (o1 : Addr) (gC : Int32) (vG : Value) (va : Addr) (kv : ClassId) (c0 c1 c2 : Int32) (h0 : Heap) (n0 : Nat) (v : Option Value) (h : Heap) (L : List Loc) : Prop := v = none ∧ Fr n0 L ∧ Keep h0 h [o0] ∧ Exa Z h o0 "com/example/vedette/vedette/io/Utf8Buffer$Stops" ∧ ∃ (t : Addr) (kt : ClassId) (z : Int32) (wf : Nat → Int32), Fld Z h o0 "com/example/vedette/vedette/io/Utf8Buffer$Stops" "chars" "[Z" (.ref t) ∧ Arf Z h t kt .boolean z (fun j_ => .int (wf j_)) ∧ ∀ c : Int32, ¬ c < 0 → own_is z wf c = if c = c0 then (1 : Int32) else if c = c1 then (1 : Int32) else if c = c2 then (1 : Int32) else (0 : Int32)
set_option maxRecDepth 65536 in
set_option maxHeartbeats 40000000 in
theorem rm7_3 (l : Launch) (Z : State) (a0 : Array Value) (hw : ∀ d ∈ tables_1, d.before a0 Z = true) (ws : List Jvm.Cond) (o0 : Addr) (o1 : Addr) (gC : Int32) (vG : Value) (va : Addr) (kv : ClassId) (c0 c1 c2 : Int32) (h0 : Heap) (n0 : Nat) (Z0 : n0 ≤ h0.size) (E0 : Exa Z h0 o0 "com/example/vedette/vedette/io/Utf8Buffer$Stops") (F0 : Fld Z h0 o0 "com/example/vedette/vedette/io/Utf8Buffer$Stops" "firstBytes" "[Z" .null) (F1 : Fld Z h0 o0 "com/example/vedette/vedette/io/Utf8Buffer$Stops" "chars" "[Z" .null) (g_o0 : n0 ≤ o0) (E1 : Exa Z h0 o1 "java/lang/String") (SC : Sta Z Z.heap "java/lang/String" "COMPACT_STRINGS" "Z" (.int gC)) (cC : ¬ (gC = (0 : Int32))) (hvG : vG.isRef = true) (SG : Sta Z Z.heap "jdk/internal/util/Preconditions" "SIOOBE_FORMATTER" "Ljava/util/function/BiFunction;" vG) (FC1 : Fld Z h0 o1 "java/lang/String" "coder" "B" (.int (0 : Int32))) (FV1 : Fld Z h0 o1 "java/lang/String" "value" "[B" (.ref va)) (V1 : Arv Z h0 va kv .byte (3 : Int32) [(.int (c0.toInt8.toInt32)), (.int (c1.toInt8.toInt32)), (.int (c2.toInt8.toInt32))] (.int 0)) (ne_o1_o0 : o1 ≠ o0) (ne_va_o0 : va ≠ o0) (pc0 : ¬ c0 < 0 ∧ ¬ (255 : Int32) < c0) (pc1 : ¬ c1 < 0 ∧ ¬ (255 : Int32) < c1) (pc2 : ¬ c2 < 0 ∧ ¬ (255 : Int32) < c2) (O0 : Old Z n0 h0) :
    MetFree l (⟨"com/example/vedette/vedette/io/Utf8Buffer$Stops", "<init>", "(Ljava/lang/String;)V"⟩ : MethodName) (head1 (Jvm.Cond.code (⟨"com/example/vedette/vedette/io/Utf8Buffer$Stops", "<init>", "(Ljava/lang/String;)V"⟩ : MethodName) prog_35_method_1_code 5 none :: ws) ({ frames := 4, cells := 2, slots := 512, locals := 60 } : Room)) (fun a U => a = #[(.ref o0), (.ref o1)] ∧ Z.Warmed39 U.vm ∧ U.heap = h0) (fun _ _ _ _ _ => True) (fun _ U o U' => ∃ v L, o = .returned v ∧ Q_rm7_3 Z o0 o1 gC vG va kv c0 c1 c2 h0 n0 v U'.heap L ∧ FrameEnd U o U' L ({ frames := 4, cells := 2, slots := 512, locals := 60 } : Room).cells ({ frames := 4, cells := 2, slots := 512, locals := 60 } : Room).slots) := by
  refine MetFree.of_bodySF (plainFor_of_name pn_com_example_vedette_vedette_io_Utf8Buffer_Stops) hisR ?_
  intro p e s m args below meth c s₁ Bd hml0 hP hK
  obtain ⟨rfl, hZ, hh⟩ := hP
  have hx := Bd.exec
  have hby := Bd.bytes
  have hlk := BodyLoose.notSynchronized Bd
  have hrt := Bd.returns
  have hml : c.maxLocals = 5 := hml0
  have hown : s.vm.findClass "com/example/vedette/vedette/io/Utf8Buffer$Stops" = some m.cls := findClass_of_methodNamed Bd.named
  have hnm := (name_of_methodNamed Bd.named Bd.method).1
  have X0 : Stand p l e ({ frames := 4, cells := 2, slots := 512, locals := 60 } : Room) s m #[(.ref o0), (.ref o1)] below meth c s₁ [] 0 0 := Stand.of_body Bd
  have e0 : s₁.heap = h0 := by rw [← hh, Bd.state]; rfl
  have N0 := Fr.nil n0
  have K0 : Keep h0 h0 [o0] := Keep.refl h0 _
  show Runs p e below (QE s (Q_rm7_3 Z o0 o1 gC vG va kv c0 c1 c2 h0 n0) ({ frames := 4, cells := 2, slots := 512, locals := 60 } : Room).cells ({ frames := 4, cells := 2, slots := 512, locals := 60 } : Room).slots) (s₁.setTop (entryFrame m #[(.ref o0), (.ref o1)] 5))
  rw [ef_7_11 m o0 o1]
  show Runs p e below _ (s₁.setTop (mkF m 0 #[.val (.ref o0), .val (.ref o1), .unset, .unset, .unset] []))
  refine Runs.by (fun _ hr => XS.aloadN X0.here hx rfl (hb hby d7_0) rfl rfl hr) ?_
  show Runs p e below _ (s₁.setTop (mkF m 1 #[.val (.ref o0), .val (.ref o1), .unset, .unset, .unset] [(.ref o0)]))
  obtain ⟨T1, X1, e1, st1⟩ := initO X0 hx hZ hown (hw _ (List.mem_of_getElem? (i := 36) rfl)) (hw _ (List.mem_of_getElem? (i := 12) rfl)) (hw _ (List.mem_of_getElem? (i := 13) rfl)) e0 (g := (mkF m 1 #[.val (.ref o0), .val (.ref o1), .unset, .unset, .unset] [(.ref o0)])) rfl (by rw [hml]; rfl) rfl (hb hby d7_1) (by decide) (W := 0) (by show 2 * 0 + _ ≤ _; exact Nat.le_of_eq rfl) (by decide)
  refine Runs.by st1 ?_
  show Runs p e below _ (T1.setTop (mkF m 4 #[.val (.ref o0), .val (.ref o1), .unset, .unset, .unset] []))
  refine Runs.by (fun _ hr => XS.aloadN X1.here hx rfl (hb hby d7_4) rfl rfl hr) ?_
  show Runs p e below _ (T1.setTop (mkF m 5 #[.val (.ref o0), .val (.ref o1), .unset, .unset, .unset] [(.ref o0)]))
  refine Runs.by (fun _ hr => XS.sipush X1.here hx rfl (hb hby d7_5) hr) ?_
  show Runs p e below _ (T1.setTop (mkF m 8 #[.val (.ref o0), .val (.ref o1), .unset, .unset, .unset] [(.int (256 : Int32)), (.ref o0)]))
  obtain ⟨T2, h2, k2, X2, e2, E2, A2, st2⟩ := newP X1 hx hZ (hw _ (List.mem_of_getElem? (i := 37) rfl)) e1 (g := (mkF m 8 #[.val (.ref o0), .val (.ref o1), .unset, .unset, .unset] [(.int (256 : Int32)), (.ref o0)])) rfl (hb hby d7_8) rfl (by decide) (cap := 256) (by decide) (by decide) (by decide) (by decide)
  obtain ⟨b2, gz2⟩ : ∃ z, z = h0.size := ⟨_, rfl⟩
  rw [← gz2] at A2 st2
  have ne_o0_b2 : o0 ≠ b2 := Nat.ne_of_lt (Nat.lt_of_lt_of_le E0.lt (Nat.le_of_eq gz2.symm))
  have ne_o1_b2 : o1 ≠ b2 := Nat.ne_of_lt (Nat.lt_of_lt_of_le E1.lt (Nat.le_of_eq gz2.symm))
  have ne_va_b2 : va ≠ b2 := Nat.ne_of_lt (Nat.lt_of_lt_of_le V1.lt (Nat.le_of_eq gz2.symm))
  have g_b2 : n0 ≤ b2 := Nat.le_trans (Nat.le_trans Z0 K0.1) (Nat.le_of_eq gz2.symm)
  have sz_b2 : h0.size ≤ b2 := Nat.le_trans K0.1 (Nat.le_of_eq gz2.symm)
  have K3 : Keep h0 h2 [o0] := K0.ext E2
  have O_3 : Old Z n0 h2 := O0.ext E2
  have G2 : Arf Z h2 b2 k2 .boolean (256 : Int32) (fun j_ => .int ((fun _ => (0 : Int32)) j_)) := Arf.new A2 (by decide)
  refine Runs.by st2 ?_
  show Runs p e below _ (T2.setTop (mkF m 10 #[.val (.ref o0), .val (.ref o1), .unset, .unset, .unset] [(.ref b2), (.ref o0)]))
  obtain ⟨T4, h4, X4, e4, W4, st4⟩ := putF X2 hx hZ hown (host := "") (Or.inl (hw _ (List.mem_of_getElem? (i := 38) rfl))) Via.refl e2 (F0.ext E2) (E0.ext E2) (Or.inr ⟨(hw _ (List.mem_of_getElem? (i := 39) rfl)), rfl, hnm⟩) (hw _ (List.mem_of_getElem? (i := 31) rfl)) (ty := (.array .boolean)) (by decide) rfl rfl (g := (mkF m 10 #[.val (.ref o0), .val (.ref o1), .unset, .unset, .unset] [(.ref b2), (.ref o0)])) rfl rfl (hb hby d7_10)
  have Fw4 := (F0.ext E2).same W4
  have K5 : Keep h0 h4 [o0] := K3.wr W4 (Or.inl (List.mem_of_getElem? (i := 0) rfl))
  have O_5 : Old Z n0 h4 := O_3.wr W4 g_o0
  have N4 := Fr.snoc X4 N0 g_o0
  refine Runs.by st4 ?_
  show Runs p e below _ (T4.setTop (mkF m 13 #[.val (.ref o0), .val (.ref o1), .unset, .unset, .unset] []))
  refine Runs.by (fun _ hr => XS.iconst X4.here hx rfl (hb hby d7_13) hr) ?_
  show Runs p e below _ (T4.setTop (mkF m 14 #[.val (.ref o0), .val (.ref o1), .unset, .unset, .unset] [(.int (-1 : Int32))]))
  refine Runs.by (fun _ hr => XS.istoreN X4.here hx rfl (hb hby d7_14) rfl (l' := #[.val (.ref o0), .val (.ref o1), .val (.int (-1 : Int32)), .unset, .unset]) rfl hr) ?_
  show Runs p e below _ (T4.setTop (mkF m 15 #[.val (.ref o0), .val (.ref o1), .val (.int (-1 : Int32)), .unset, .unset] []))
  refine Runs.by (fun _ hr => XS.iconst X4.here hx rfl (hb hby d7_15) hr) ?_
  show Runs p e below _ (T4.setTop (mkF m 16 #[.val (.ref o0), .val (.ref o1), .val (.int (-1 : Int32)), .unset, .unset] [(.int (0 : Int32))]))
  refine Runs.by (fun _ hr => XS.istoreN X4.here hx rfl (hb hby d7_16) rfl (l' := #[.val (.ref o0), .val (.ref o1), .val (.int (-1 : Int32)), .val (.int (0 : Int32)), .unset]) rfl hr) ?_
  show Runs p e below _ (T4.setTop (mkF m 17 #[.val (.ref o0), .val (.ref o1), .val (.int (-1 : Int32)), .val (.int (0 : Int32)), .unset] []))
  refine Runs.by (fun _ hr => XS.iloadN X4.here hx rfl (hb hby d7_17) rfl  hr) ?_
  show Runs p e below _ (T4.setTop (mkF m 18 #[.val (.ref o0), .val (.ref o1), .val (.int (-1 : Int32)), .val (.int (0 : Int32)), .unset] [(.int (0 : Int32))]))
  refine Runs.by (fun _ hr => XS.aloadN X4.here hx rfl (hb hby d7_18) rfl rfl hr) ?_
  show Runs p e below _ (T4.setTop (mkF m 19 #[.val (.ref o0), .val (.ref o1), .val (.int (-1 : Int32)), .val (.int (0 : Int32)), .unset] [(.ref o1), (.int (0 : Int32))]))
  obtain ⟨cq6, kq6, q6a, q6b, q6c⟩ := isOf hZ e4 ((E1.ext E2).wr W4)
  obtain ⟨_, _, ⟨T6, L6, k6, n6⟩, -, X6, ⟨Lc6, hQ6, l6, y6, z6⟩, st6⟩ := X4.virtualBack hx (y := (⟨"java/lang/String", "length", "()I"⟩ : MethodName)) (z := (⟨"java/lang/String", "length", "()I"⟩ : MethodName)) hown (mvT hZ (hw _ (List.mem_of_getElem? (i := 40) rfl))) (mvT hZ (hw _ (List.mem_of_getElem? (i := 41) rfl))) (notFace_of_selects (args := #[]) (mvT hZ (hw _ (List.mem_of_getElem? (i := 43) rfl)))) (mvT hZ (hw _ (List.mem_of_getElem? (i := 43) rfl))) (mvT hZ (hw _ (List.mem_of_getElem? (i := 42) rfl))) (by decide) (backOf (W := 1) (rm8 l Z a0 hw [] o1 gC va kv (3 : Int32) [(.int (c0.toInt8.toInt32)), (.int (c1.toInt8.toInt32)), (.int (c2.toInt8.toInt32))] (.int 0) h4 n0 (Nat.le_trans Z0 K5.1) ((E1.ext E2).wr W4) (SC.ext O_5.2) cC ((FC1.ext E2).other W4 (Or.inl ne_o1_o0)) ((FV1.ext E2).other W4 (Or.inl ne_o1_o0)) ((V1.ext E2).other W4 ne_va_o0)) hZ (hw _ (List.mem_of_getElem? (i := 44) rfl)) (hw _ (List.mem_of_getElem? (i := 2) rfl)) (by decide) (by decide)) q6a q6c (g := (mkF m 19 #[.val (.ref o0), .val (.ref o1), .val (.int (-1 : Int32)), .val (.int (0 : Int32)), .unset] [(.ref o1), (.int (0 : Int32))])) rfl (by rw [hml]; rfl) (Steps.refl _) (argsL := []) (rest := [(.int (0 : Int32))]) (lenOf pd_6 rfl) rfl (by show 2 * 0 + _ ≤ _; exact Nat.le_of_eq rfl) (hb hby d7_19) (fun _ _ => ⟨rfl, e4, (by decide : 1 + 0 ≤ _), (by decide : 256 + 0 ≤ _)⟩)
  dsimp only [Pt.U, Pt.locs, Pt.cells, Pt.slots] at X6 l6 y6 z6 st6 hQ6
  subst l6 y6 z6
  obtain ⟨rfl, Nq6, eq6⟩ := hQ6
  have N6 := Fr.app N4 Nq6
  refine Runs.by (fun _ hr => st6.trans hr) ?_
  show Runs p e below _ (T6.setTop (mkF m 22 #[.val (.ref o0), .val (.ref o1), .val (.int (-1 : Int32)), .val (.int (0 : Int32)), .unset] [(.int (3 : Int32)), (.int (0 : Int32))]))
  have hc22 : (0 : Int32) < (3 : Int32) := (by decide)
  refine Runs.by (fun _ hr => XS.icmpNo X6.here hx rfl (hb hby d7_22) rfl (tlt hc22).2.1 hr) ?_
  show Runs p e below _ (T6.setTop (mkF m 25 #[.val (.ref o0), .val (.ref o1), .val (.int (-1 : Int32)), .val (.int (0 : Int32)), .unset] []))
  refine Runs.by (fun _ hr => XS.iloadN X6.here hx rfl (hb hby d7_25) rfl  hr) ?_
  show Runs p e below _ (T6.setTop (mkF m 26 #[.val (.ref o0), .val (.ref o1), .val (.int (-1 : Int32)), .val (.int (0 : Int32)), .unset] [(.int (-1 : Int32))]))
  refine Runs.by (fun _ hr => XS.aloadN X6.here hx rfl (hb hby d7_26) rfl rfl hr) ?_
  show Runs p e below _ (T6.setTop (mkF m 27 #[.val (.ref o0), .val (.ref o1), .val (.int (-1 : Int32)), .val (.int (0 : Int32)), .unset] [(.ref o1), (.int (-1 : Int32))]))
  refine Runs.by (fun _ hr => XS.iloadN X6.here hx rfl (hb hby d7_27) rfl  hr) ?_
  show Runs p e below _ (T6.setTop (mkF m 28 #[.val (.ref o0), .val (.ref o1), .val (.int (-1 : Int32)), .val (.int (0 : Int32)), .unset] [(.int (0 : Int32)), (.ref o1), (.int (-1 : Int32))]))
  obtain ⟨cq7, kq7, q7a, q7b, q7c⟩ := isOf hZ eq6 ((E1.ext E2).wr W4)
  obtain ⟨_, _, ⟨T7, L7, k7, n7⟩, -, X7, ⟨Lc7, hQ7, l7, y7, z7⟩, st7⟩ := X6.virtualBack hx (y := (⟨"java/lang/String", "charAt", "(I)C"⟩ : MethodName)) (z := (⟨"java/lang/String", "charAt", "(I)C"⟩ : MethodName)) hown (mvT hZ (hw _ (List.mem_of_getElem? (i := 50) rfl))) (mvT hZ (hw _ (List.mem_of_getElem? (i := 51) rfl))) (notFace_of_selects (args := #[]) (mvT hZ (hw _ (List.mem_of_getElem? (i := 53) rfl)))) (mvT hZ (hw _ (List.mem_of_getElem? (i := 53) rfl))) (mvT hZ (hw _ (List.mem_of_getElem? (i := 52) rfl))) (by decide) (backOf (W := 1) (rm10 l Z a0 hw [] o1 (0 : Int32) gC vG va kv (3 : Int32) [(.int (c0.toInt8.toInt32)), (.int (c1.toInt8.toInt32)), (.int (c2.toInt8.toInt32))] (.int 0) (c0.toInt8.toInt32) c0 h4 n0 (Nat.le_trans Z0 K5.1) ((E1.ext E2).wr W4) (SC.ext O_5.2) cC ((FC1.ext E2).other W4 (Or.inl ne_o1_o0)) ((FV1.ext E2).other W4 (Or.inl ne_o1_o0)) hvG ⟨by decide, by decide⟩ (SG.ext O_5.2) ((V1.ext E2).other W4 ne_va_o0) rfl (own_cc pc0)) hZ (hw _ (List.mem_of_getElem? (i := 54) rfl)) (hw _ (List.mem_of_getElem? (i := 2) rfl)) (by decide) (by decide)) q7a q7c (g := (mkF m 28 #[.val (.ref o0), .val (.ref o1), .val (.int (-1 : Int32)), .val (.int (0 : Int32)), .unset] [(.int (0 : Int32)), (.ref o1), (.int (-1 : Int32))])) rfl (by rw [hml]; rfl) (Steps.refl _) (argsL := [(.int (0 : Int32))]) (rest := [(.int (-1 : Int32))]) (lenOf pd_7 rfl) rfl (by show 2 * 0 + _ ≤ _; exact Nat.le_of_eq rfl) (hb hby d7_28) (fun _ _ => ⟨rfl, eq6, (by decide : 1 + 0 ≤ _), (by decide : 256 + 0 ≤ _)⟩)
  dsimp only [Pt.U, Pt.locs, Pt.cells, Pt.slots] at X7 l7 y7 z7 st7 hQ7
  subst l7 y7 z7
  obtain ⟨rfl, Nq7, eq7⟩ := hQ7
  have N7 := Fr.app N6 Nq7
  refine Runs.by (fun _ hr => st7.trans hr) ?_
  show Runs p e below _ (T7.setTop (mkF m 31 #[.val (.ref o0), .val (.ref o1), .val (.int (-1 : Int32)), .val (.int (0 : Int32)), .unset] [(.int c0), (.int (-1 : Int32))]))
  obtain ⟨_, _, ⟨T8, L8, k8, n8⟩, -, X8, ⟨Lc8, hQ8, l8, y8, z8⟩, st8⟩ := Jvm.LawKit.callS X7 hx (y := (⟨"java/lang/Math", "max", "(II)I"⟩ : MethodName)) hown (mvT hZ (hw _ (List.mem_of_getElem? (i := 72) rfl))) (mvT hZ (hw _ (List.mem_of_getElem? (i := 73) rfl))) (mvT hZ (hw _ (List.mem_of_getElem? (i := 74) rfl))) (mvT hZ (hw _ (List.mem_of_getElem? (i := 75) rfl))) (by decide) (backOf (W := 0) (rm15 l Z a0 hw [] (-1 : Int32) c0  h4 n0 (Nat.le_trans Z0 K5.1) ) hZ (hw _ (List.mem_of_getElem? (i := 75) rfl)) (hw _ (List.mem_of_getElem? (i := 74) rfl)) (by decide) (by decide)) (g := (mkF m 31 #[.val (.ref o0), .val (.ref o1), .val (.int (-1 : Int32)), .val (.int (0 : Int32)), .unset] [(.int c0), (.int (-1 : Int32))])) rfl (by rw [hml]; rfl) (argsL := [(.int (-1 : Int32)), (.int c0)]) (rest := []) (lenOf pd_8 rfl) rfl (by show 2 * 0 + _ ≤ _; exact Nat.le_of_eq rfl) (hb hby d7_31) (fun _ _ => ⟨rfl, eq7, (by decide : 1 + 0 ≤ _), (by decide : 256 + 0 ≤ _)⟩)
  dsimp only [Pt.U, Pt.locs, Pt.cells, Pt.slots] at X8 l8 y8 z8 st8 hQ8
  subst l8 y8 z8
  obtain ⟨rfl, Nq8, eq8⟩ := hQ8
  have N8 := Fr.app N7 Nq8
  refine Runs.by (fun t hr => st8 t hr) ?_
  have hm1 := own_mxs (a := (-1 : Int32)) (by decide) (by decide) pc0
  generalize own_max (-1 : Int32) c0 = m1 at hm1 ⊢
  show Runs p e below _ (T8.setTop (mkF m 34 #[.val (.ref o0), .val (.ref o1), .val (.int (-1 : Int32)), .val (.int (0 : Int32)), .unset] [(.int m1)]))
  refine Runs.by (fun _ hr => XS.istoreN X8.here hx rfl (hb hby d7_34) rfl (l' := #[.val (.ref o0), .val (.ref o1), .val (.int m1), .val (.int (0 : Int32)), .unset]) rfl hr) ?_
  show Runs p e below _ (T8.setTop (mkF m 35 #[.val (.ref o0), .val (.ref o1), .val (.int m1), .val (.int (0 : Int32)), .unset] []))
  refine Runs.by (fun _ hr => XS.iinc X8.here hx rfl (hb hby d7_35) rfl (l' := #[.val (.ref o0), .val (.ref o1), .val (.int m1), .val (.int (1 : Int32)), .unset]) rfl hr) ?_
  show Runs p e below _ (T8.setTop (mkF m 38 #[.val (.ref o0), .val (.ref o1), .val (.int m1), .val (.int (1 : Int32)), .unset] []))
  refine Runs.by (fun _ hr => XS.goto X8.here hx rfl (pc0 := 38) (pc' := 17) rfl (hb hby d7_38) (by decide) (by decide) hr) ?_
  show Runs p e below _ (T8.setTop (mkF m 17 #[.val (.ref o0), .val (.ref o1), .val (.int m1), .val (.int (1 : Int32)), .unset] []))
  refine Runs.by (fun _ hr => XS.iloadN X8.here hx rfl (hb hby d7_17) rfl  hr) ?_
  show Runs p e below _ (T8.setTop (mkF m 18 #[.val (.ref o0), .val (.ref o1), .val (.int m1), .val (.int (1 : Int32)), .unset] [(.int (1 : Int32))]))
  refine Runs.by (fun _ hr => XS.aloadN X8.here hx rfl (hb hby d7_18) rfl rfl hr) ?_
  show Runs p e below _ (T8.setTop (mkF m 19 #[.val (.ref o0), .val (.ref o1), .val (.int m1), .val (.int (1 : Int32)), .unset] [(.ref o1), (.int (1 : Int32))]))
  obtain ⟨cq9, kq9, q9a, q9b, q9c⟩ := isOf hZ eq8 ((E1.ext E2).wr W4)
  obtain ⟨_, _, ⟨T9, L9, k9, n9⟩, -, X9, ⟨Lc9, hQ9, l9, y9, z9⟩, st9⟩ := X8.virtualBack hx (y := (⟨"java/lang/String", "length", "()I"⟩ : MethodName)) (z := (⟨"java/lang/String", "length", "()I"⟩ : MethodName)) hown (mvT hZ (hw _ (List.mem_of_getElem? (i := 40) rfl))) (mvT hZ (hw _ (List.mem_of_getElem? (i := 41) rfl))) (notFace_of_selects (args := #[]) (mvT hZ (hw _ (List.mem_of_getElem? (i := 43) rfl)))) (mvT hZ (hw _ (List.mem_of_getElem? (i := 43) rfl))) (mvT hZ (hw _ (List.mem_of_getElem? (i := 42) rfl))) (by decide) (backOf (W := 1) (rm8 l Z a0 hw [] o1 gC va kv (3 : Int32) [(.int (c0.toInt8.toInt32)), (.int (c1.toInt8.toInt32)), (.int (c2.toInt8.toInt32))] (.int 0) h4 n0 (Nat.le_trans Z0 K5.1) ((E1.ext E2).wr W4) (SC.ext O_5.2) cC ((FC1.ext E2).other W4 (Or.inl ne_o1_o0)) ((FV1.ext E2).other W4 (Or.inl ne_o1_o0)) ((V1.ext E2).other W4 ne_va_o0)) hZ (hw _ (List.mem_of_getElem? (i := 44) rfl)) (hw _ (List.mem_of_getElem? (i := 2) rfl)) (by decide) (by decide)) q9a q9c (g := (mkF m 19 #[.val (.ref o0), .val (.ref o1), .val (.int m1), .val (.int (1 : Int32)), .unset] [(.ref o1), (.int (1 : Int32))])) rfl (by rw [hml]; rfl) (Steps.refl _) (argsL := []) (rest := [(.int (1 : Int32))]) (lenOf pd_6 rfl) rfl (by show 2 * 0 + _ ≤ _; exact Nat.le_of_eq rfl) (hb hby d7_19) (fun _ _ => ⟨rfl, eq8, (by decide : 1 + 0 ≤ _), (by decide : 256 + 0 ≤ _)⟩)
  dsimp only [Pt.U, Pt.locs, Pt.cells, Pt.slots] at X9 l9 y9 z9 st9 hQ9
  subst l9 y9 z9
  obtain ⟨rfl, Nq9, eq9⟩ := hQ9
  have N9 := Fr.app N8 Nq9
  refine Runs.by (fun _ hr => st9.trans hr) ?_
  show Runs p e below _ (T9.setTop (mkF m 22 #[.val (.ref o0), .val (.ref o1), .val (.int m1), .val (.int (1 : Int32)), .unset] [(.int (3 : Int32)), (.int (1 : Int32))]))
  have hc22 : (1 : Int32) < (3 : Int32) := (by decide)
  refine Runs.by (fun _ hr => XS.icmpNo X9.here hx rfl (hb hby d7_22) rfl (tlt hc22).2.1 hr) ?_
  show Runs p e below _ (T9.setTop (mkF m 25 #[.val (.ref o0), .val (.ref o1), .val (.int m1), .val (.int (1 : Int32)), .unset] []))
  refine Runs.by (fun _ hr => XS.iloadN X9.here hx rfl (hb hby d7_25) rfl  hr) ?_
  show Runs p e below _ (T9.setTop (mkF m 26 #[.val (.ref o0), .val (.ref o1), .val (.int m1), .val (.int (1 : Int32)), .unset] [(.int m1)]))
  refine Runs.by (fun _ hr => XS.aloadN X9.here hx rfl (hb hby d7_26) rfl rfl hr) ?_
  show Runs p e below _ (T9.setTop (mkF m 27 #[.val (.ref o0), .val (.ref o1), .val (.int m1), .val (.int (1 : Int32)), .unset] [(.ref o1), (.int m1)]))
  refine Runs.by (fun _ hr => XS.iloadN X9.here hx rfl (hb hby d7_27) rfl  hr) ?_
  show Runs p e below _ (T9.setTop (mkF m 28 #[.val (.ref o0), .val (.ref o1), .val (.int m1), .val (.int (1 : Int32)), .unset] [(.int (1 : Int32)), (.ref o1), (.int m1)]))
  obtain ⟨cq10, kq10, q10a, q10b, q10c⟩ := isOf hZ eq9 ((E1.ext E2).wr W4)
  obtain ⟨_, _, ⟨T10, L10, k10, n10⟩, -, X10, ⟨Lc10, hQ10, l10, y10, z10⟩, st10⟩ := X9.virtualBack hx (y := (⟨"java/lang/String", "charAt", "(I)C"⟩ : MethodName)) (z := (⟨"java/lang/String", "charAt", "(I)C"⟩ : MethodName)) hown (mvT hZ (hw _ (List.mem_of_getElem? (i := 50) rfl))) (mvT hZ (hw _ (List.mem_of_getElem? (i := 51) rfl))) (notFace_of_selects (args := #[]) (mvT hZ (hw _ (List.mem_of_getElem? (i := 53) rfl)))) (mvT hZ (hw _ (List.mem_of_getElem? (i := 53) rfl))) (mvT hZ (hw _ (List.mem_of_getElem? (i := 52) rfl))) (by decide) (backOf (W := 1) (rm10 l Z a0 hw [] o1 (1 : Int32) gC vG va kv (3 : Int32) [(.int (c0.toInt8.toInt32)), (.int (c1.toInt8.toInt32)), (.int (c2.toInt8.toInt32))] (.int 0) (c1.toInt8.toInt32) c1 h4 n0 (Nat.le_trans Z0 K5.1) ((E1.ext E2).wr W4) (SC.ext O_5.2) cC ((FC1.ext E2).other W4 (Or.inl ne_o1_o0)) ((FV1.ext E2).other W4 (Or.inl ne_o1_o0)) hvG ⟨by decide, by decide⟩ (SG.ext O_5.2) ((V1.ext E2).other W4 ne_va_o0) rfl (own_cc pc1)) hZ (hw _ (List.mem_of_getElem? (i := 54) rfl)) (hw _ (List.mem_of_getElem? (i := 2) rfl)) (by decide) (by decide)) q10a q10c (g := (mkF m 28 #[.val (.ref o0), .val (.ref o1), .val (.int m1), .val (.int (1 : Int32)), .unset] [(.int (1 : Int32)), (.ref o1), (.int m1)])) rfl (by rw [hml]; rfl) (Steps.refl _) (argsL := [(.int (1 : Int32))]) (rest := [(.int m1)]) (lenOf pd_7 rfl) rfl (by show 2 * 0 + _ ≤ _; exact Nat.le_of_eq rfl) (hb hby d7_28) (fun _ _ => ⟨rfl, eq9, (by decide : 1 + 0 ≤ _), (by decide : 256 + 0 ≤ _)⟩)
  dsimp only [Pt.U, Pt.locs, Pt.cells, Pt.slots] at X10 l10 y10 z10 st10 hQ10
  subst l10 y10 z10
  obtain ⟨rfl, Nq10, eq10⟩ := hQ10
  have N10 := Fr.app N9 Nq10
  refine Runs.by (fun _ hr => st10.trans hr) ?_
  show Runs p e below _ (T10.setTop (mkF m 31 #[.val (.ref o0), .val (.ref o1), .val (.int m1), .val (.int (1 : Int32)), .unset] [(.int c1), (.int m1)]))
  obtain ⟨_, _, ⟨T11, L11, k11, n11⟩, -, X11, ⟨Lc11, hQ11, l11, y11, z11⟩, st11⟩ := Jvm.LawKit.callS X10 hx (y := (⟨"java/lang/Math", "max", "(II)I"⟩ : MethodName)) hown (mvT hZ (hw _ (List.mem_of_getElem? (i := 72) rfl))) (mvT hZ (hw _ (List.mem_of_getElem? (i := 73) rfl))) (mvT hZ (hw _ (List.mem_of_getElem? (i := 74) rfl))) (mvT hZ (hw _ (List.mem_of_getElem? (i := 75) rfl))) (by decide) (backOf (W := 0) (rm15 l Z a0 hw [] m1 c1  h4 n0 (Nat.le_trans Z0 K5.1) ) hZ (hw _ (List.mem_of_getElem? (i := 75) rfl)) (hw _ (List.mem_of_getElem? (i := 74) rfl)) (by decide) (by decide)) (g := (mkF m 31 #[.val (.ref o0), .val (.ref o1), .val (.int m1), .val (.int (1 : Int32)), .unset] [(.int c1), (.int m1)])) rfl (by rw [hml]; rfl) (argsL := [(.int m1), (.int c1)]) (rest := []) (lenOf pd_8 rfl) rfl (by show 2 * 0 + _ ≤ _; exact Nat.le_of_eq rfl) (hb hby d7_31) (fun _ _ => ⟨rfl, eq10, (by decide : 1 + 0 ≤ _), (by decide : 256 + 0 ≤ _)⟩)
  dsimp only [Pt.U, Pt.locs, Pt.cells, Pt.slots] at X11 l11 y11 z11 st11 hQ11
  subst l11 y11 z11
  obtain ⟨rfl, Nq11, eq11⟩ := hQ11
  have N11 := Fr.app N10 Nq11
  refine Runs.by (fun t hr => st11 t hr) ?_
  have hm2 := own_mxs hm1.1 hm1.2.1 pc1
  generalize own_max m1 c1 = m2 at hm2 ⊢
  show Runs p e below _ (T11.setTop (mkF m 34 #[.val (.ref o0), .val (.ref o1), .val (.int m1), .val (.int (1 : Int32)), .unset] [(.int m2)]))
  refine Runs.by (fun _ hr => XS.istoreN X11.here hx rfl (hb hby d7_34) rfl (l' := #[.val (.ref o0), .val (.ref o1), .val (.int m2), .val (.int (1 : Int32)), .unset]) rfl hr) ?_
  show Runs p e below _ (T11.setTop (mkF m 35 #[.val (.ref o0), .val (.ref o1), .val (.int m2), .val (.int (1 : Int32)), .unset] []))
  refine Runs.by (fun _ hr => XS.iinc X11.here hx rfl (hb hby d7_35) rfl (l' := #[.val (.ref o0), .val (.ref o1), .val (.int m2), .val (.int (2 : Int32)), .unset]) rfl hr) ?_
  show Runs p e below _ (T11.setTop (mkF m 38 #[.val (.ref o0), .val (.ref o1), .val (.int m2), .val (.int (2 : Int32)), .unset] []))
  refine Runs.by (fun _ hr => XS.goto X11.here hx rfl (pc0 := 38) (pc' := 17) rfl (hb hby d7_38) (by decide) (by decide) hr) ?_
  show Runs p e below _ (T11.setTop (mkF m 17 #[.val (.ref o0), .val (.ref o1), .val (.int m2), .val (.int (2 : Int32)), .unset] []))
  refine Runs.by (fun _ hr => XS.iloadN X11.here hx rfl (hb hby d7_17) rfl  hr) ?_
  show Runs p e below _ (T11.setTop (mkF m 18 #[.val (.ref o0), .val (.ref o1), .val (.int m2), .val (.int (2 : Int32)), .unset] [(.int (2 : Int32))]))
  refine Runs.by (fun _ hr => XS.aloadN X11.here hx rfl (hb hby d7_18) rfl rfl hr) ?_
  show Runs p e below _ (T11.setTop (mkF m 19 #[.val (.ref o0), .val (.ref o1), .val (.int m2), .val (.int (2 : Int32)), .unset] [(.ref o1), (.int (2 : Int32))]))
  obtain ⟨cq12, kq12, q12a, q12b, q12c⟩ := isOf hZ eq11 ((E1.ext E2).wr W4)
  obtain ⟨_, _, ⟨T12, L12, k12, n12⟩, -, X12, ⟨Lc12, hQ12, l12, y12, z12⟩, st12⟩ := X11.virtualBack hx (y := (⟨"java/lang/String", "length", "()I"⟩ : MethodName)) (z := (⟨"java/lang/String", "length", "()I"⟩ : MethodName)) hown (mvT hZ (hw _ (List.mem_of_getElem? (i := 40) rfl))) (mvT hZ (hw _ (List.mem_of_getElem? (i := 41) rfl))) (notFace_of_selects (args := #[]) (mvT hZ (hw _ (List.mem_of_getElem? (i := 43) rfl)))) (mvT hZ (hw _ (List.mem_of_getElem? (i := 43) rfl))) (mvT hZ (hw _ (List.mem_of_getElem? (i := 42) rfl))) (by decide) (backOf (W := 1) (rm8 l Z a0 hw [] o1 gC va kv (3 : Int32) [(.int (c0.toInt8.toInt32)), (.int (c1.toInt8.toInt32)), (.int (c2.toInt8.toInt32))] (.int 0) h4 n0 (Nat.le_trans Z0 K5.1) ((E1.ext E2).wr W4) (SC.ext O_5.2) cC ((FC1.ext E2).other W4 (Or.inl ne_o1_o0)) ((FV1.ext E2).other W4 (Or.inl ne_o1_o0)) ((V1.ext E2).other W4 ne_va_o0)) hZ (hw _ (List.mem_of_getElem? (i := 44) rfl)) (hw _ (List.mem_of_getElem? (i := 2) rfl)) (by decide) (by decide)) q12a q12c (g := (mkF m 19 #[.val (.ref o0), .val (.ref o1), .val (.int m2), .val (.int (2 : Int32)), .unset] [(.ref o1), (.int (2 : Int32))])) rfl (by rw [hml]; rfl) (Steps.refl _) (argsL := []) (rest := [(.int (2 : Int32))]) (lenOf pd_6 rfl) rfl (by show 2 * 0 + _ ≤ _; exact Nat.le_of_eq rfl) (hb hby d7_19) (fun _ _ => ⟨rfl, eq11, (by decide : 1 + 0 ≤ _), (by decide : 256 + 0 ≤ _)⟩)
  dsimp only [Pt.U, Pt.locs, Pt.cells, Pt.slots] at X12 l12 y12 z12 st12 hQ12
  subst l12 y12 z12
  obtain ⟨rfl, Nq12, eq12⟩ := hQ12
  have N12 := Fr.app N11 Nq12
  refine Runs.by (fun _ hr => st12.trans hr) ?_
  show Runs p e below _ (T12.setTop (mkF m 22 #[.val (.ref o0), .val (.ref o1), .val (.int m2), .val (.int (2 : Int32)), .unset] [(.int (3 : Int32)), (.int (2 : Int32))]))
  have hc22 : (2 : Int32) < (3 : Int32) := (by decide)
  refine Runs.by (fun _ hr => XS.icmpNo X12.here hx rfl (hb hby d7_22) rfl (tlt hc22).2.1 hr) ?_
  show Runs p e below _ (T12.setTop (mkF m 25 #[.val (.ref o0), .val (.ref o1), .val (.int m2), .val (.int (2 : Int32)), .unset] []))
  refine Runs.by (fun _ hr => XS.iloadN X12.here hx rfl (hb hby d7_25) rfl  hr) ?_
  show Runs p e below _ (T12.setTop (mkF m 26 #[.val (.ref o0), .val (.ref o1), .val (.int m2), .val (.int (2 : Int32)), .unset] [(.int m2)]))
  refine Runs.by (fun _ hr => XS.aloadN X12.here hx rfl (hb hby d7_26) rfl rfl hr) ?_
  show Runs p e below _ (T12.setTop (mkF m 27 #[.val (.ref o0), .val (.ref o1), .val (.int m2), .val (.int (2 : Int32)), .unset] [(.ref o1), (.int m2)]))
  refine Runs.by (fun _ hr => XS.iloadN X12.here hx rfl (hb hby d7_27) rfl  hr) ?_
  show Runs p e below _ (T12.setTop (mkF m 28 #[.val (.ref o0), .val (.ref o1), .val (.int m2), .val (.int (2 : Int32)), .unset] [(.int (2 : Int32)), (.ref o1), (.int m2)]))
  obtain ⟨cq13, kq13, q13a, q13b, q13c⟩ := isOf hZ eq12 ((E1.ext E2).wr W4)
  obtain ⟨_, _, ⟨T13, L13, k13, n13⟩, -, X13, ⟨Lc13, hQ13, l13, y13, z13⟩, st13⟩ := X12.virtualBack hx (y := (⟨"java/lang/String", "charAt", "(I)C"⟩ : MethodName)) (z := (⟨"java/lang/String", "charAt", "(I)C"⟩ : MethodName)) hown (mvT hZ (hw _ (List.mem_of_getElem? (i := 50) rfl))) (mvT hZ (hw _ (List.mem_of_getElem? (i := 51) rfl))) (notFace_of_selects (args := #[]) (mvT hZ (hw _ (List.mem_of_getElem? (i := 53) rfl)))) (mvT hZ (hw _ (List.mem_of_getElem? (i := 53) rfl))) (mvT hZ (hw _ (List.mem_of_getElem? (i := 52) rfl))) (by decide) (backOf (W := 1) (rm10 l Z a0 hw [] o1 (2 : Int32) gC vG va kv (3 : Int32) [(.int (c0.toInt8.toInt32)), (.int (c1.toInt8.toInt32)), (.int (c2.toInt8.toInt32))] (.int 0) (c2.toInt8.toInt32) c2 h4 n0 (Nat.le_trans Z0 K5.1) ((E1.ext E2).wr W4) (SC.ext O_5.2) cC ((FC1.ext E2).other W4 (Or.inl ne_o1_o0)) ((FV1.ext E2).other W4 (Or.inl ne_o1_o0)) hvG ⟨by decide, by decide⟩ (SG.ext O_5.2) ((V1.ext E2).other W4 ne_va_o0) rfl (own_cc pc2)) hZ (hw _ (List.mem_of_getElem? (i := 54) rfl)) (hw _ (List.mem_of_getElem? (i := 2) rfl)) (by decide) (by decide)) q13a q13c (g := (mkF m 28 #[.val (.ref o0), .val (.ref o1), .val (.int m2), .val (.int (2 : Int32)), .unset] [(.int (2 : Int32)), (.ref o1), (.int m2)])) rfl (by rw [hml]; rfl) (Steps.refl _) (argsL := [(.int (2 : Int32))]) (rest := [(.int m2)]) (lenOf pd_7 rfl) rfl (by show 2 * 0 + _ ≤ _; exact Nat.le_of_eq rfl) (hb hby d7_28) (fun _ _ => ⟨rfl, eq12, (by decide : 1 + 0 ≤ _), (by decide : 256 + 0 ≤ _)⟩)
  dsimp only [Pt.U, Pt.locs, Pt.cells, Pt.slots] at X13 l13 y13 z13 st13 hQ13
  subst l13 y13 z13
  obtain ⟨rfl, Nq13, eq13⟩ := hQ13
  have N13 := Fr.app N12 Nq13
  refine Runs.by (fun _ hr => st13.trans hr) ?_
  show Runs p e below _ (T13.setTop (mkF m 31 #[.val (.ref o0), .val (.ref o1), .val (.int m2), .val (.int (2 : Int32)), .unset] [(.int c2), (.int m2)]))
  obtain ⟨_, _, ⟨T14, L14, k14, n14⟩, -, X14, ⟨Lc14, hQ14, l14, y14, z14⟩, st14⟩ := Jvm.LawKit.callS X13 hx (y := (⟨"java/lang/Math", "max", "(II)I"⟩ : MethodName)) hown (mvT hZ (hw _ (List.mem_of_getElem? (i := 72) rfl))) (mvT hZ (hw _ (List.mem_of_getElem? (i := 73) rfl))) (mvT hZ (hw _ (List.mem_of_getElem? (i := 74) rfl))) (mvT hZ (hw _ (List.mem_of_getElem? (i := 75) rfl))) (by decide) (backOf (W := 0) (rm15 l Z a0 hw [] m2 c2  h4 n0 (Nat.le_trans Z0 K5.1) ) hZ (hw _ (List.mem_of_getElem? (i := 75) rfl)) (hw _ (List.mem_of_getElem? (i := 74) rfl)) (by decide) (by decide)) (g := (mkF m 31 #[.val (.ref o0), .val (.ref o1), .val (.int m2), .val (.int (2 : Int32)), .unset] [(.int c2), (.int m2)])) rfl (by rw [hml]; rfl) (argsL := [(.int m2), (.int c2)]) (rest := []) (lenOf pd_8 rfl) rfl (by show 2 * 0 + _ ≤ _; exact Nat.le_of_eq rfl) (hb hby d7_31) (fun _ _ => ⟨rfl, eq13, (by decide : 1 + 0 ≤ _), (by decide : 256 + 0 ≤ _)⟩)
  dsimp only [Pt.U, Pt.locs, Pt.cells, Pt.slots] at X14 l14 y14 z14 st14 hQ14
  subst l14 y14 z14
  obtain ⟨rfl, Nq14, eq14⟩ := hQ14
  have N14 := Fr.app N13 Nq14
  refine Runs.by (fun t hr => st14 t hr) ?_
  have hm3 := own_mxs hm2.1 hm2.2.1 pc2
  generalize own_max m2 c2 = m3 at hm3 ⊢
  show Runs p e below _ (T14.setTop (mkF m 34 #[.val (.ref o0), .val (.ref o1), .val (.int m2), .val (.int (2 : Int32)), .unset] [(.int m3)]))
  refine Runs.by (fun _ hr => XS.istoreN X14.here hx rfl (hb hby d7_34) rfl (l' := #[.val (.ref o0), .val (.ref o1), .val (.int m3), .val (.int (2 : Int32)), .unset]) rfl hr) ?_
  show Runs p e below _ (T14.setTop (mkF m 35 #[.val (.ref o0), .val (.ref o1), .val (.int m3), .val (.int (2 : Int32)), .unset] []))
  refine Runs.by (fun _ hr => XS.iinc X14.here hx rfl (hb hby d7_35) rfl (l' := #[.val (.ref o0), .val (.ref o1), .val (.int m3), .val (.int (3 : Int32)), .unset]) rfl hr) ?_
  show Runs p e below _ (T14.setTop (mkF m 38 #[.val (.ref o0), .val (.ref o1), .val (.int m3), .val (.int (3 : Int32)), .unset] []))
  refine Runs.by (fun _ hr => XS.goto X14.here hx rfl (pc0 := 38) (pc' := 17) rfl (hb hby d7_38) (by decide) (by decide) hr) ?_
  show Runs p e below _ (T14.setTop (mkF m 17 #[.val (.ref o0), .val (.ref o1), .val (.int m3), .val (.int (3 : Int32)), .unset] []))
  refine Runs.by (fun _ hr => XS.iloadN X14.here hx rfl (hb hby d7_17) rfl  hr) ?_
  show Runs p e below _ (T14.setTop (mkF m 18 #[.val (.ref o0), .val (.ref o1), .val (.int m3), .val (.int (3 : Int32)), .unset] [(.int (3 : Int32))]))
  refine Runs.by (fun _ hr => XS.aloadN X14.here hx rfl (hb hby d7_18) rfl rfl hr) ?_
  show Runs p e below _ (T14.setTop (mkF m 19 #[.val (.ref o0), .val (.ref o1), .val (.int m3), .val (.int (3 : Int32)), .unset] [(.ref o1), (.int (3 : Int32))]))
  obtain ⟨cq15, kq15, q15a, q15b, q15c⟩ := isOf hZ eq14 ((E1.ext E2).wr W4)
  obtain ⟨_, _, ⟨T15, L15, k15, n15⟩, -, X15, ⟨Lc15, hQ15, l15, y15, z15⟩, st15⟩ := X14.virtualBack hx (y := (⟨"java/lang/String", "length", "()I"⟩ : MethodName)) (z := (⟨"java/lang/String", "length", "()I"⟩ : MethodName)) hown (mvT hZ (hw _ (List.mem_of_getElem? (i := 40) rfl))) (mvT hZ (hw _ (List.mem_of_getElem? (i := 41) rfl))) (notFace_of_selects (args := #[]) (mvT hZ (hw _ (List.mem_of_getElem? (i := 43) rfl)))) (mvT hZ (hw _ (List.mem_of_getElem? (i := 43) rfl))) (mvT hZ (hw _ (List.mem_of_getElem? (i := 42) rfl))) (by decide) (backOf (W := 1) (rm8 l Z a0 hw [] o1 gC va kv (3 : Int32) [(.int (c0.toInt8.toInt32)), (.int (c1.toInt8.toInt32)), (.int (c2.toInt8.toInt32))] (.int 0) h4 n0 (Nat.le_trans Z0 K5.1) ((E1.ext E2).wr W4) (SC.ext O_5.2) cC ((FC1.ext E2).other W4 (Or.inl ne_o1_o0)) ((FV1.ext E2).other W4 (Or.inl ne_o1_o0)) ((V1.ext E2).other W4 ne_va_o0)) hZ (hw _ (List.mem_of_getElem? (i := 44) rfl)) (hw _ (List.mem_of_getElem? (i := 2) rfl)) (by decide) (by decide)) q15a q15c (g := (mkF m 19 #[.val (.ref o0), .val (.ref o1), .val (.int m3), .val (.int (3 : Int32)), .unset] [(.ref o1), (.int (3 : Int32))])) rfl (by rw [hml]; rfl) (Steps.refl _) (argsL := []) (rest := [(.int (3 : Int32))]) (lenOf pd_6 rfl) rfl (by show 2 * 0 + _ ≤ _; exact Nat.le_of_eq rfl) (hb hby d7_19) (fun _ _ => ⟨rfl, eq14, (by decide : 1 + 0 ≤ _), (by decide : 256 + 0 ≤ _)⟩)
  dsimp only [Pt.U, Pt.locs, Pt.cells, Pt.slots] at X15 l15 y15 z15 st15 hQ15
  subst l15 y15 z15
  obtain ⟨rfl, Nq15, eq15⟩ := hQ15
  have N15 := Fr.app N14 Nq15
  refine Runs.by (fun _ hr => st15.trans hr) ?_
  show Runs p e below _ (T15.setTop (mkF m 22 #[.val (.ref o0), .val (.ref o1), .val (.int m3), .val (.int (3 : Int32)), .unset] [(.int (3 : Int32)), (.int (3 : Int32))]))
  have hc22 : ¬ ((3 : Int32) < (3 : Int32)) := (by decide)
  refine Runs.by (fun _ hr => XS.icmpYes X15.here hx rfl (pc0 := 22) (pc' := 41) rfl (hb hby d7_22) rfl (flt hc22).2.1 (by decide) (by decide) hr) ?_
  show Runs p e below _ (T15.setTop (mkF m 41 #[.val (.ref o0), .val (.ref o1), .val (.int m3), .val (.int (3 : Int32)), .unset] []))
  refine Runs.by (fun _ hr => XS.aloadN X15.here hx rfl (hb hby d7_41) rfl rfl hr) ?_
  show Runs p e below _ (T15.setTop (mkF m 42 #[.val (.ref o0), .val (.ref o1), .val (.int m3), .val (.int (3 : Int32)), .unset] [(.ref o0)]))
  refine Runs.by (fun _ hr => XS.iloadN X15.here hx rfl (hb hby d7_42) rfl  hr) ?_
  show Runs p e below _ (T15.setTop (mkF m 43 #[.val (.ref o0), .val (.ref o1), .val (.int m3), .val (.int (3 : Int32)), .unset] [(.int m3), (.ref o0)]))
  refine Runs.by (fun _ hr => XS.iconst X15.here hx rfl (hb hby d7_43) hr) ?_
  show Runs p e below _ (T15.setTop (mkF m 44 #[.val (.ref o0), .val (.ref o1), .val (.int m3), .val (.int (3 : Int32)), .unset] [(.int (1 : Int32)), (.int m3), (.ref o0)]))
  refine Runs.by (fun _ hr => XS.iadd X15.here hx rfl (hb hby d7_44) rfl hr) ?_
  have hz := own_suc hm3.1 hm3.2.1
  have hz_c0 : c0.toInt < (m3 + (1 : Int32)).toInt := by omega
  have hr_c0 := own_rng pc0
  have hz_c1 : c1.toInt < (m3 + (1 : Int32)).toInt := by omega
  have hr_c1 := own_rng pc1
  have hz_c2 : c2.toInt < (m3 + (1 : Int32)).toInt := by omega
  have hr_c2 := own_rng pc2
  show Runs p e below _ (T15.setTop (mkF m 45 #[.val (.ref o0), .val (.ref o1), .val (.int m3), .val (.int (3 : Int32)), .unset] [(.int (m3 + (1 : Int32))), (.ref o0)]))
  obtain ⟨T16, h16, k16, X16, e16, E16, A16, st16⟩ := newP X15 hx hZ (hw _ (List.mem_of_getElem? (i := 37) rfl)) eq15 (g := (mkF m 45 #[.val (.ref o0), .val (.ref o1), .val (.int m3), .val (.int (3 : Int32)), .unset] [(.int (m3 + (1 : Int32))), (.ref o0)])) rfl (hb hby d7_45) rfl (own_nneg (by omega)) (cap := 256) (own_cap (by omega)) (by decide) (by decide) (by decide)
  obtain ⟨b16, gz16⟩ : ∃ z, z = h4.size := ⟨_, rfl⟩
  rw [← gz16] at A16 st16
  have ne_o0_b16 : o0 ≠ b16 := Nat.ne_of_lt (Nat.lt_of_lt_of_le ((E0.ext E2).wr W4).lt (Nat.le_of_eq gz16.symm))
  have ne_o1_b16 : o1 ≠ b16 := Nat.ne_of_lt (Nat.lt_of_lt_of_le ((E1.ext E2).wr W4).lt (Nat.le_of_eq gz16.symm))
  have ne_va_b16 : va ≠ b16 := Nat.ne_of_lt (Nat.lt_of_lt_of_le ((V1.ext E2).other W4 ne_va_o0).lt (Nat.le_of_eq gz16.symm))
  have ne_b2_b16 : b2 ≠ b16 := Nat.ne_of_lt (Nat.lt_of_lt_of_le (G2.other W4 (Ne.symm ne_o0_b2)).lt (Nat.le_of_eq gz16.symm))
  have g_b16 : n0 ≤ b16 := Nat.le_trans (Nat.le_trans Z0 K5.1) (Nat.le_of_eq gz16.symm)
  have sz_b16 : h0.size ≤ b16 := Nat.le_trans K5.1 (Nat.le_of_eq gz16.symm)
  have K17 : Keep h0 h16 [o0] := K5.ext E16
  have O_17 : Old Z n0 h16 := O_5.ext E16
  have G16 : Arf Z h16 b16 k16 .boolean (m3 + (1 : Int32)) (fun j_ => .int ((fun _ => (0 : Int32)) j_)) := Arf.new A16 (own_nneg (by omega))
  refine Runs.by st16 ?_
  show Runs p e below _ (T16.setTop (mkF m 47 #[.val (.ref o0), .val (.ref o1), .val (.int m3), .val (.int (3 : Int32)), .unset] [(.ref b16), (.ref o0)]))
  obtain ⟨T18, h18, X18, e18, W18, st18⟩ := putF X16 hx hZ hown (host := "") (Or.inl (hw _ (List.mem_of_getElem? (i := 76) rfl))) Via.refl e16 (((F1.ext E2).other W4 (Or.inr (slot_ne (Or.inr (hw _ (List.mem_of_getElem? (i := 77) rfl))) (Or.inr (hw _ (List.mem_of_getElem? (i := 39) rfl))) (by decide) (t := (.array .boolean)) (t' := (.array .boolean)) (by decide) (by decide)))).ext E16) (((E0.ext E2).wr W4).ext E16) (Or.inr ⟨(hw _ (List.mem_of_getElem? (i := 77) rfl)), rfl, hnm⟩) (hw _ (List.mem_of_getElem? (i := 31) rfl)) (ty := (.array .boolean)) (by decide) rfl rfl (g := (mkF m 47 #[.val (.ref o0), .val (.ref o1), .val (.int m3), .val (.int (3 : Int32)), .unset] [(.ref b16), (.ref o0)])) rfl rfl (hb hby d7_47)
  have Fw18 := (((F1.ext E2).other W4 (Or.inr (slot_ne (Or.inr (hw _ (List.mem_of_getElem? (i := 77) rfl))) (Or.inr (hw _ (List.mem_of_getElem? (i := 39) rfl))) (by decide) (t := (.array .boolean)) (t' := (.array .boolean)) (by decide) (by decide)))).ext E16).same W18
  have K19 : Keep h0 h18 [o0] := K17.wr W18 (Or.inl (List.mem_of_getElem? (i := 0) rfl))
  have O_19 : Old Z n0 h18 := O_17.wr W18 g_o0
  have N18 := Fr.snoc X18 N15 g_o0
  refine Runs.by st18 ?_
  show Runs p e below _ (T18.setTop (mkF m 50 #[.val (.ref o0), .val (.ref o1), .val (.int m3), .val (.int (3 : Int32)), .unset] []))
  refine Runs.by (fun _ hr => XS.iconst X18.here hx rfl (hb hby d7_50) hr) ?_
  show Runs p e below _ (T18.setTop (mkF m 51 #[.val (.ref o0), .val (.ref o1), .val (.int m3), .val (.int (3 : Int32)), .unset] [(.int (0 : Int32))]))
  refine Runs.by (fun _ hr => XS.istoreN X18.here hx rfl (hb hby d7_51) rfl (l' := #[.val (.ref o0), .val (.ref o1), .val (.int m3), .val (.int (0 : Int32)), .unset]) rfl hr) ?_
  show Runs p e below _ (T18.setTop (mkF m 52 #[.val (.ref o0), .val (.ref o1), .val (.int m3), .val (.int (0 : Int32)), .unset] []))
  refine Runs.by (fun _ hr => XS.iloadN X18.here hx rfl (hb hby d7_52) rfl  hr) ?_
  show Runs p e below _ (T18.setTop (mkF m 53 #[.val (.ref o0), .val (.ref o1), .val (.int m3), .val (.int (0 : Int32)), .unset] [(.int (0 : Int32))]))
  refine Runs.by (fun _ hr => XS.aloadN X18.here hx rfl (hb hby d7_53) rfl rfl hr) ?_
  show Runs p e below _ (T18.setTop (mkF m 54 #[.val (.ref o0), .val (.ref o1), .val (.int m3), .val (.int (0 : Int32)), .unset] [(.ref o1), (.int (0 : Int32))]))
  obtain ⟨cq20, kq20, q20a, q20b, q20c⟩ := isOf hZ e18 ((((E1.ext E2).wr W4).ext E16).wr W18)
  obtain ⟨_, _, ⟨T20, L20, k20, n20⟩, -, X20, ⟨Lc20, hQ20, l20, y20, z20⟩, st20⟩ := X18.virtualBack hx (y := (⟨"java/lang/String", "length", "()I"⟩ : MethodName)) (z := (⟨"java/lang/String", "length", "()I"⟩ : MethodName)) hown (mvT hZ (hw _ (List.mem_of_getElem? (i := 40) rfl))) (mvT hZ (hw _ (List.mem_of_getElem? (i := 41) rfl))) (notFace_of_selects (args := #[]) (mvT hZ (hw _ (List.mem_of_getElem? (i := 43) rfl)))) (mvT hZ (hw _ (List.mem_of_getElem? (i := 43) rfl))) (mvT hZ (hw _ (List.mem_of_getElem? (i := 42) rfl))) (by decide) (backOf (W := 1) (rm8 l Z a0 hw [] o1 gC va kv (3 : Int32) [(.int (c0.toInt8.toInt32)), (.int (c1.toInt8.toInt32)), (.int (c2.toInt8.toInt32))] (.int 0) h18 n0 (Nat.le_trans Z0 K19.1) ((((E1.ext E2).wr W4).ext E16).wr W18) (SC.ext O_19.2) cC ((((FC1.ext E2).other W4 (Or.inl ne_o1_o0)).ext E16).other W18 (Or.inl ne_o1_o0)) ((((FV1.ext E2).other W4 (Or.inl ne_o1_o0)).ext E16).other W18 (Or.inl ne_o1_o0)) ((((V1.ext E2).other W4 ne_va_o0).ext E16).other W18 ne_va_o0)) hZ (hw _ (List.mem_of_getElem? (i := 44) rfl)) (hw _ (List.mem_of_getElem? (i := 2) rfl)) (by decide) (by decide)) q20a q20c (g := (mkF m 54 #[.val (.ref o0), .val (.ref o1), .val (.int m3), .val (.int (0 : Int32)), .unset] [(.ref o1), (.int (0 : Int32))])) rfl (by rw [hml]; rfl) (Steps.refl _) (argsL := []) (rest := [(.int (0 : Int32))]) (lenOf pd_6 rfl) rfl (by show 2 * 0 + _ ≤ _; exact Nat.le_of_eq rfl) (hb hby d7_54) (fun _ _ => ⟨rfl, e18, (by decide : 2 + 0 ≤ _), (by decide : 512 + 0 ≤ _)⟩)
  dsimp only [Pt.U, Pt.locs, Pt.cells, Pt.slots] at X20 l20 y20 z20 st20 hQ20
  subst l20 y20 z20
  obtain ⟨rfl, Nq20, eq20⟩ := hQ20
  have N20 := Fr.app N18 Nq20
  refine Runs.by (fun _ hr => st20.trans hr) ?_
  show Runs p e below _ (T20.setTop (mkF m 57 #[.val (.ref o0), .val (.ref o1), .val (.int m3), .val (.int (0 : Int32)), .unset] [(.int (3 : Int32)), (.int (0 : Int32))]))
  have hc57 : (0 : Int32) < (3 : Int32) := (by decide)
  refine Runs.by (fun _ hr => XS.icmpNo X20.here hx rfl (hb hby d7_57) rfl (tlt hc57).2.1 hr) ?_
  show Runs p e below _ (T20.setTop (mkF m 60 #[.val (.ref o0), .val (.ref o1), .val (.int m3), .val (.int (0 : Int32)), .unset] []))
  refine Runs.by (fun _ hr => XS.aloadN X20.here hx rfl (hb hby d7_60) rfl rfl hr) ?_
  show Runs p e below _ (T20.setTop (mkF m 61 #[.val (.ref o0), .val (.ref o1), .val (.int m3), .val (.int (0 : Int32)), .unset] [(.ref o1)]))
  refine Runs.by (fun _ hr => XS.iloadN X20.here hx rfl (hb hby d7_61) rfl  hr) ?_
  show Runs p e below _ (T20.setTop (mkF m 62 #[.val (.ref o0), .val (.ref o1), .val (.int m3), .val (.int (0 : Int32)), .unset] [(.int (0 : Int32)), (.ref o1)]))
  obtain ⟨cq21, kq21, q21a, q21b, q21c⟩ := isOf hZ eq20 ((((E1.ext E2).wr W4).ext E16).wr W18)
  obtain ⟨_, _, ⟨T21, L21, k21, n21⟩, -, X21, ⟨Lc21, hQ21, l21, y21, z21⟩, st21⟩ := X20.virtualBack hx (y := (⟨"java/lang/String", "charAt", "(I)C"⟩ : MethodName)) (z := (⟨"java/lang/String", "charAt", "(I)C"⟩ : MethodName)) hown (mvT hZ (hw _ (List.mem_of_getElem? (i := 50) rfl))) (mvT hZ (hw _ (List.mem_of_getElem? (i := 51) rfl))) (notFace_of_selects (args := #[]) (mvT hZ (hw _ (List.mem_of_getElem? (i := 53) rfl)))) (mvT hZ (hw _ (List.mem_of_getElem? (i := 53) rfl))) (mvT hZ (hw _ (List.mem_of_getElem? (i := 52) rfl))) (by decide) (backOf (W := 0) (rm10 l Z a0 hw [] o1 (0 : Int32) gC vG va kv (3 : Int32) [(.int (c0.toInt8.toInt32)), (.int (c1.toInt8.toInt32)), (.int (c2.toInt8.toInt32))] (.int 0) (c0.toInt8.toInt32) c0 h18 n0 (Nat.le_trans Z0 K19.1) ((((E1.ext E2).wr W4).ext E16).wr W18) (SC.ext O_19.2) cC ((((FC1.ext E2).other W4 (Or.inl ne_o1_o0)).ext E16).other W18 (Or.inl ne_o1_o0)) ((((FV1.ext E2).other W4 (Or.inl ne_o1_o0)).ext E16).other W18 (Or.inl ne_o1_o0)) hvG ⟨by decide, by decide⟩ (SG.ext O_19.2) ((((V1.ext E2).other W4 ne_va_o0).ext E16).other W18 ne_va_o0) rfl (own_cc pc0)) hZ (hw _ (List.mem_of_getElem? (i := 54) rfl)) (hw _ (List.mem_of_getElem? (i := 2) rfl)) (by decide) (by decide)) q21a q21c (g := (mkF m 62 #[.val (.ref o0), .val (.ref o1), .val (.int m3), .val (.int (0 : Int32)), .unset] [(.int (0 : Int32)), (.ref o1)])) rfl (by rw [hml]; rfl) (Steps.refl _) (argsL := [(.int (0 : Int32))]) (rest := []) (lenOf pd_7 rfl) rfl (by show 2 * 0 + _ ≤ _; exact Nat.le_of_eq rfl) (hb hby d7_62) (fun _ _ => ⟨rfl, eq20, (by decide : 2 + 0 ≤ _), (by decide : 512 + 0 ≤ _)⟩)
  dsimp only [Pt.U, Pt.locs, Pt.cells, Pt.slots] at X21 l21 y21 z21 st21 hQ21
  subst l21 y21 z21
  obtain ⟨rfl, Nq21, eq21⟩ := hQ21
  have N21 := Fr.app N20 Nq21
  refine Runs.by (fun _ hr => st21.trans hr) ?_
  show Runs p e below _ (T21.setTop (mkF m 65 #[.val (.ref o0), .val (.ref o1), .val (.int m3), .val (.int (0 : Int32)), .unset] [(.int c0)]))
  refine Runs.by (fun _ hr => XS.istore X21.here hx rfl (hb hby d7_65) rfl (l' := #[.val (.ref o0), .val (.ref o1), .val (.int m3), .val (.int (0 : Int32)), .val (.int c0)]) rfl hr) ?_
  show Runs p e below _ (T21.setTop (mkF m 67 #[.val (.ref o0), .val (.ref o1), .val (.int m3), .val (.int (0 : Int32)), .val (.int c0)] []))
  refine Runs.by (fun _ hr => XS.aloadN X21.here hx rfl (hb hby d7_67) rfl rfl hr) ?_
  show Runs p e below _ (T21.setTop (mkF m 68 #[.val (.ref o0), .val (.ref o1), .val (.int m3), .val (.int (0 : Int32)), .val (.int c0)] [(.ref o0)]))
  obtain ⟨T22, X22, e22, st22⟩ := getF X21 hx hZ hown (host := "") (Or.inl (hw _ (List.mem_of_getElem? (i := 76) rfl))) Via.refl eq21 Fw18 (g := (mkF m 68 #[.val (.ref o0), .val (.ref o1), .val (.int m3), .val (.int (0 : Int32)), .val (.int c0)] [(.ref o0)])) rfl rfl (hb hby d7_68)
  refine Runs.by st22 ?_
  show Runs p e below _ (T22.setTop (mkF m 71 #[.val (.ref o0), .val (.ref o1), .val (.int m3), .val (.int (0 : Int32)), .val (.int c0)] [(.ref b16)]))
  refine Runs.by (fun _ hr => XS.iload X22.here hx rfl (hb hby d7_71) rfl  hr) ?_
  show Runs p e below _ (T22.setTop (mkF m 73 #[.val (.ref o0), .val (.ref o1), .val (.int m3), .val (.int (0 : Int32)), .val (.int c0)] [(.int c0), (.ref b16)]))
  refine Runs.by (fun _ hr => XS.iconst X22.here hx rfl (hb hby d7_73) hr) ?_
  show Runs p e below _ (T22.setTop (mkF m 74 #[.val (.ref o0), .val (.ref o1), .val (.int m3), .val (.int (0 : Int32)), .val (.int c0)] [(.int (1 : Int32)), (.int c0), (.ref b16)]))
  obtain ⟨cl23, Ar23, q23, S23, N23', H23⟩ := id (G16.other W18 (Ne.symm ne_o0_b16))
  have ix23 := own_ix (j := c0) (z := (m3 + (1 : Int32))) (n := c0.toNatClampNeg) (own_tn hr_c0.1) hz_c0
  have hin23 : ¬ (c0 < 0 ∨ cl23.slots.size ≤ (c0).toNatClampNeg) := inb_of S23 ix23.1
  obtain ⟨T23, h23, X23, e23, W23, st23⟩ := stZ X22 hx hZ e22 Ar23 (j := c0) hin23 (g := (mkF m 74 #[.val (.ref o0), .val (.ref o1), .val (.int m3), .val (.int (0 : Int32)), .val (.int c0)] [(.int (1 : Int32)), (.int c0), (.ref b16)])) rfl rfl (hb hby d7_74)
  have G23 : Arf Z h23 b16 k16 .boolean (m3 + (1 : Int32)) (fun j_ => .int ((own_up (fun _ => (0 : Int32)) (c0.toNatClampNeg) (nar .boolean (1 : Int32))) j_)) := (Arf.set Ar23 q23 S23 N23' H23 W23 ix23.2.1).cast (fun j_ _ => by simp only [own_up]; split <;> rfl)
  have K24 : Keep h0 h23 [o0] := K19.wr W23 (Or.inr sz_b16)
  have O_24 : Old Z n0 h23 := O_19.wr W23 g_b16
  have N23 := Fr.snoc X23 N21 g_b16
  refine Runs.by st23 ?_
  show Runs p e below _ (T23.setTop (mkF m 75 #[.val (.ref o0), .val (.ref o1), .val (.int m3), .val (.int (0 : Int32)), .val (.int c0)] []))
  refine Runs.by (fun _ hr => XS.aloadN X23.here hx rfl (hb hby d7_75) rfl rfl hr) ?_
  show Runs p e below _ (T23.setTop (mkF m 76 #[.val (.ref o0), .val (.ref o1), .val (.int m3), .val (.int (0 : Int32)), .val (.int c0)] [(.ref o0)]))
  obtain ⟨T25, X25, e25, st25⟩ := getF X23 hx hZ hown (host := "") (Or.inl (hw _ (List.mem_of_getElem? (i := 38) rfl))) Via.refl e23 (((Fw4.ext E16).other W18 (Or.inr (slot_ne (Or.inr (hw _ (List.mem_of_getElem? (i := 39) rfl))) (Or.inr (hw _ (List.mem_of_getElem? (i := 77) rfl))) (by decide) (t := (.array .boolean)) (t' := (.array .boolean)) (by decide) (by decide)))).other W23 (Or.inl ne_o0_b16)) (g := (mkF m 76 #[.val (.ref o0), .val (.ref o1), .val (.int m3), .val (.int (0 : Int32)), .val (.int c0)] [(.ref o0)])) rfl rfl (hb hby d7_76)
  refine Runs.by st25 ?_
  have JJ26 : ∀ (ixJJ26 : Int32) (TJ27 : State) (lJ27 : List Loc) (XJ27 : Stand p l e ({ frames := 4, cells := 2, slots := 512, locals := 60 } : Room) s m #[(.ref o0), (.ref o1)] below meth c TJ27 lJ27 2 512) (eJ27 : TJ27.heap = h23) (NJ27 : Fr n0 lJ27) (hixJJ26 : 0 ≤ ixJJ26.toInt ∧ ixJJ26.toInt < (256 : Int32).toInt), Runs p e below (QE s (Q_rm7_3 Z o0 o1 gC vG va kv c0 c1 c2 h0 n0) ({ frames := 4, cells := 2, slots := 512, locals := 60 } : Room).cells ({ frames := 4, cells := 2, slots := 512, locals := 60 } : Room).slots) (TJ27.setTop (mkF m 121 #[.val (.ref o0), .val (.ref o1), .val (.int m3), .val (.int (0 : Int32)), .val (.int c0)] [(.int ixJJ26), (.ref b2)])) := by
    intro ixJJ26 TJ27 lJ27 XJ27 eJ27 NJ27 hixJJ26
    show Runs p e below _ (TJ27.setTop (mkF m 121 #[.val (.ref o0), .val (.ref o1), .val (.int m3), .val (.int (0 : Int32)), .val (.int c0)] [(.int ixJJ26), (.ref b2)]))
    refine Runs.by (fun _ hr => XS.iconst XJ27.here hx rfl (hb hby d7_121) hr) ?_
    show Runs p e below _ (TJ27.setTop (mkF m 122 #[.val (.ref o0), .val (.ref o1), .val (.int m3), .val (.int (0 : Int32)), .val (.int c0)] [(.int (1 : Int32)), (.int ixJJ26), (.ref b2)]))
    obtain ⟨cl28, Ar28, q28, S28, N28', H28⟩ := id ((((G2.other W4 (Ne.symm ne_o0_b2)).ext E16).other W18 (Ne.symm ne_o0_b2)).other W23 ne_b2_b16)
    have ix28 := own_ix (j := ixJJ26) (z := (256 : Int32)) (n := ixJJ26.toNatClampNeg) (own_tn hixJJ26.1) hixJJ26.2
    have hin28 : ¬ (ixJJ26 < 0 ∨ cl28.slots.size ≤ (ixJJ26).toNatClampNeg) := inb_of S28 ix28.1
    obtain ⟨T28, h28, X28, e28, W28, st28⟩ := stZ XJ27 hx hZ eJ27 Ar28 (j := ixJJ26) hin28 (g := (mkF m 122 #[.val (.ref o0), .val (.ref o1), .val (.int m3), .val (.int (0 : Int32)), .val (.int c0)] [(.int (1 : Int32)), (.int ixJJ26), (.ref b2)])) rfl rfl (hb hby d7_122)
    have G28 : Arf Z h28 b2 k2 .boolean (256 : Int32) (fun j_ => .int ((own_up (fun _ => (0 : Int32)) (ixJJ26.toNatClampNeg) (nar .boolean (1 : Int32))) j_)) := (Arf.set Ar28 q28 S28 N28' H28 W28 ix28.2.1).cast (fun j_ _ => by simp only [own_up]; split <;> rfl)
    have K29 : Keep h0 h28 [o0] := K24.wr W28 (Or.inr sz_b2)
    have O_29 : Old Z n0 h28 := O_24.wr W28 g_b2
    have N28 := Fr.snoc X28 NJ27 g_b2
    refine Runs.by st28 ?_
    show Runs p e below _ (T28.setTop (mkF m 123 #[.val (.ref o0), .val (.ref o1), .val (.int m3), .val (.int (0 : Int32)), .val (.int c0)] []))
    refine Runs.by (fun _ hr => XS.iinc X28.here hx rfl (hb hby d7_123) rfl (l' := #[.val (.ref o0), .val (.ref o1), .val (.int m3), .val (.int (1 : Int32)), .val (.int c0)]) rfl hr) ?_
    show Runs p e below _ (T28.setTop (mkF m 126 #[.val (.ref o0), .val (.ref o1), .val (.int m3), .val (.int (1 : Int32)), .val (.int c0)] []))
    refine Runs.by (fun _ hr => XS.goto X28.here hx rfl (pc0 := 126) (pc' := 52) rfl (hb hby d7_126) (by decide) (by decide) hr) ?_
    show Runs p e below _ (T28.setTop (mkF m 52 #[.val (.ref o0), .val (.ref o1), .val (.int m3), .val (.int (1 : Int32)), .val (.int c0)] []))
    refine Runs.by (fun _ hr => XS.iloadN X28.here hx rfl (hb hby d7_52) rfl  hr) ?_
    show Runs p e below _ (T28.setTop (mkF m 53 #[.val (.ref o0), .val (.ref o1), .val (.int m3), .val (.int (1 : Int32)), .val (.int c0)] [(.int (1 : Int32))]))
    refine Runs.by (fun _ hr => XS.aloadN X28.here hx rfl (hb hby d7_53) rfl rfl hr) ?_
    show Runs p e below _ (T28.setTop (mkF m 54 #[.val (.ref o0), .val (.ref o1), .val (.int m3), .val (.int (1 : Int32)), .val (.int c0)] [(.ref o1), (.int (1 : Int32))]))
    obtain ⟨cq30, kq30, q30a, q30b, q30c⟩ := isOf hZ e28 ((((((E1.ext E2).wr W4).ext E16).wr W18).wr W23).wr W28)
    obtain ⟨_, _, ⟨T30, L30, k30, n30⟩, -, X30, ⟨Lc30, hQ30, l30, y30, z30⟩, st30⟩ := X28.virtualBack hx (y := (⟨"java/lang/String", "length", "()I"⟩ : MethodName)) (z := (⟨"java/lang/String", "length", "()I"⟩ : MethodName)) hown (mvT hZ (hw _ (List.mem_of_getElem? (i := 40) rfl))) (mvT hZ (hw _ (List.mem_of_getElem? (i := 41) rfl))) (notFace_of_selects (args := #[]) (mvT hZ (hw _ (List.mem_of_getElem? (i := 43) rfl)))) (mvT hZ (hw _ (List.mem_of_getElem? (i := 43) rfl))) (mvT hZ (hw _ (List.mem_of_getElem? (i := 42) rfl))) (by decide) (backOf (W := 1) (rm8 l Z a0 hw [] o1 gC va kv (3 : Int32) [(.int (c0.toInt8.toInt32)), (.int (c1.toInt8.toInt32)), (.int (c2.toInt8.toInt32))] (.int 0) h28 n0 (Nat.le_trans Z0 K29.1) ((((((E1.ext E2).wr W4).ext E16).wr W18).wr W23).wr W28) (SC.ext O_29.2) cC ((((((FC1.ext E2).other W4 (Or.inl ne_o1_o0)).ext E16).other W18 (Or.inl ne_o1_o0)).other W23 (Or.inl ne_o1_b16)).other W28 (Or.inl ne_o1_b2)) ((((((FV1.ext E2).other W4 (Or.inl ne_o1_o0)).ext E16).other W18 (Or.inl ne_o1_o0)).other W23 (Or.inl ne_o1_b16)).other W28 (Or.inl ne_o1_b2)) ((((((V1.ext E2).other W4 ne_va_o0).ext E16).other W18 ne_va_o0).other W23 ne_va_b16).other W28 ne_va_b2)) hZ (hw _ (List.mem_of_getElem? (i := 44) rfl)) (hw _ (List.mem_of_getElem? (i := 2) rfl)) (by decide) (by decide)) q30a q30c (g := (mkF m 54 #[.val (.ref o0), .val (.ref o1), .val (.int m3), .val (.int (1 : Int32)), .val (.int c0)] [(.ref o1), (.int (1 : Int32))])) rfl (by rw [hml]; rfl) (Steps.refl _) (argsL := []) (rest := [(.int (1 : Int32))]) (lenOf pd_6 rfl) rfl (by show 2 * 0 + _ ≤ _; exact Nat.le_of_eq rfl) (hb hby d7_54) (fun _ _ => ⟨rfl, e28, (by decide : 2 + 0 ≤ _), (by decide : 512 + 0 ≤ _)⟩)
    dsimp only [Pt.U, Pt.locs, Pt.cells, Pt.slots] at X30 l30 y30 z30 st30 hQ30
    subst l30 y30 z30
    obtain ⟨rfl, Nq30, eq30⟩ := hQ30
    have N30 := Fr.app N28 Nq30
    refine Runs.by (fun _ hr => st30.trans hr) ?_
    show Runs p e below _ (T30.setTop (mkF m 57 #[.val (.ref o0), .val (.ref o1), .val (.int m3), .val (.int (1 : Int32)), .val (.int c0)] [(.int (3 : Int32)), (.int (1 : Int32))]))
    have hc57 : (1 : Int32) < (3 : Int32) := (by decide)
    refine Runs.by (fun _ hr => XS.icmpNo X30.here hx rfl (hb hby d7_57) rfl (tlt hc57).2.1 hr) ?_
    show Runs p e below _ (T30.setTop (mkF m 60 #[.val (.ref o0), .val (.ref o1), .val (.int m3), .val (.int (1 : Int32)), .val (.int c0)] []))
    refine Runs.by (fun _ hr => XS.aloadN X30.here hx rfl (hb hby d7_60) rfl rfl hr) ?_
    show Runs p e below _ (T30.setTop (mkF m 61 #[.val (.ref o0), .val (.ref o1), .val (.int m3), .val (.int (1 : Int32)), .val (.int c0)] [(.ref o1)]))
    refine Runs.by (fun _ hr => XS.iloadN X30.here hx rfl (hb hby d7_61) rfl  hr) ?_
    show Runs p e below _ (T30.setTop (mkF m 62 #[.val (.ref o0), .val (.ref o1), .val (.int m3), .val (.int (1 : Int32)), .val (.int c0)] [(.int (1 : Int32)), (.ref o1)]))
    obtain ⟨cq31, kq31, q31a, q31b, q31c⟩ := isOf hZ eq30 ((((((E1.ext E2).wr W4).ext E16).wr W18).wr W23).wr W28)
    obtain ⟨_, _, ⟨T31, L31, k31, n31⟩, -, X31, ⟨Lc31, hQ31, l31, y31, z31⟩, st31⟩ := X30.virtualBack hx (y := (⟨"java/lang/String", "charAt", "(I)C"⟩ : MethodName)) (z := (⟨"java/lang/String", "charAt", "(I)C"⟩ : MethodName)) hown (mvT hZ (hw _ (List.mem_of_getElem? (i := 50) rfl))) (mvT hZ (hw _ (List.mem_of_getElem? (i := 51) rfl))) (notFace_of_selects (args := #[]) (mvT hZ (hw _ (List.mem_of_getElem? (i := 53) rfl)))) (mvT hZ (hw _ (List.mem_of_getElem? (i := 53) rfl))) (mvT hZ (hw _ (List.mem_of_getElem? (i := 52) rfl))) (by decide) (backOf (W := 0) (rm10 l Z a0 hw [] o1 (1 : Int32) gC vG va kv (3 : Int32) [(.int (c0.toInt8.toInt32)), (.int (c1.toInt8.toInt32)), (.int (c2.toInt8.toInt32))] (.int 0) (c1.toInt8.toInt32) c1 h28 n0 (Nat.le_trans Z0 K29.1) ((((((E1.ext E2).wr W4).ext E16).wr W18).wr W23).wr W28) (SC.ext O_29.2) cC ((((((FC1.ext E2).other W4 (Or.inl ne_o1_o0)).ext E16).other W18 (Or.inl ne_o1_o0)).other W23 (Or.inl ne_o1_b16)).other W28 (Or.inl ne_o1_b2)) ((((((FV1.ext E2).other W4 (Or.inl ne_o1_o0)).ext E16).other W18 (Or.inl ne_o1_o0)).other W23 (Or.inl ne_o1_b16)).other W28 (Or.inl ne_o1_b2)) hvG ⟨by decide, by decide⟩ (SG.ext O_29.2) ((((((V1.ext E2).other W4 ne_va_o0).ext E16).other W18 ne_va_o0).other W23 ne_va_b16).other W28 ne_va_b2) rfl (own_cc pc1)) hZ (hw _ (List.mem_of_getElem? (i := 54) rfl)) (hw _ (List.mem_of_getElem? (i := 2) rfl)) (by decide) (by decide)) q31a q31c (g := (mkF m 62 #[.val (.ref o0), .val (.ref o1), .val (.int m3), .val (.int (1 : Int32)), .val (.int c0)] [(.int (1 : Int32)), (.ref o1)])) rfl (by rw [hml]; rfl) (Steps.refl _) (argsL := [(.int (1 : Int32))]) (rest := []) (lenOf pd_7 rfl) rfl (by show 2 * 0 + _ ≤ _; exact Nat.le_of_eq rfl) (hb hby d7_62) (fun _ _ => ⟨rfl, eq30, (by decide : 2 + 0 ≤ _), (by decide : 512 + 0 ≤ _)⟩)
    dsimp only [Pt.U, Pt.locs, Pt.cells, Pt.slots] at X31 l31 y31 z31 st31 hQ31
    subst l31 y31 z31
    obtain ⟨rfl, Nq31, eq31⟩ := hQ31
    have N31 := Fr.app N30 Nq31
    refine Runs.by (fun _ hr => st31.trans hr) ?_
    show Runs p e below _ (T31.setTop (mkF m 65 #[.val (.ref o0), .val (.ref o1), .val (.int m3), .val (.int (1 : Int32)), .val (.int c0)] [(.int c1)]))
    refine Runs.by (fun _ hr => XS.istore X31.here hx rfl (hb hby d7_65) rfl (l' := #[.val (.ref o0), .val (.ref o1), .val (.int m3), .val (.int (1 : Int32)), .val (.int c1)]) rfl hr) ?_
    show Runs p e below _ (T31.setTop (mkF m 67 #[.val (.ref o0), .val (.ref o1), .val (.int m3), .val (.int (1 : Int32)), .val (.int c1)] []))
    refine Runs.by (fun _ hr => XS.aloadN X31.here hx rfl (hb hby d7_67) rfl rfl hr) ?_
    show Runs p e below _ (T31.setTop (mkF m 68 #[.val (.ref o0), .val (.ref o1), .val (.int m3), .val (.int (1 : Int32)), .val (.int c1)] [(.ref o0)]))
    obtain ⟨T32, X32, e32, st32⟩ := getF X31 hx hZ hown (host := "") (Or.inl (hw _ (List.mem_of_getElem? (i := 76) rfl))) Via.refl eq31 ((Fw18.other W23 (Or.inl ne_o0_b16)).other W28 (Or.inl ne_o0_b2)) (g := (mkF m 68 #[.val (.ref o0), .val (.ref o1), .val (.int m3), .val (.int (1 : Int32)), .val (.int c1)] [(.ref o0)])) rfl rfl (hb hby d7_68)
    refine Runs.by st32 ?_
    show Runs p e below _ (T32.setTop (mkF m 71 #[.val (.ref o0), .val (.ref o1), .val (.int m3), .val (.int (1 : Int32)), .val (.int c1)] [(.ref b16)]))
    refine Runs.by (fun _ hr => XS.iload X32.here hx rfl (hb hby d7_71) rfl  hr) ?_
    show Runs p e below _ (T32.setTop (mkF m 73 #[.val (.ref o0), .val (.ref o1), .val (.int m3), .val (.int (1 : Int32)), .val (.int c1)] [(.int c1), (.ref b16)]))
    refine Runs.by (fun _ hr => XS.iconst X32.here hx rfl (hb hby d7_73) hr) ?_
    show Runs p e below _ (T32.setTop (mkF m 74 #[.val (.ref o0), .val (.ref o1), .val (.int m3), .val (.int (1 : Int32)), .val (.int c1)] [(.int (1 : Int32)), (.int c1), (.ref b16)]))
    obtain ⟨cl33, Ar33, q33, S33, N33', H33⟩ := id (G23.other W28 (Ne.symm ne_b2_b16))
    have ix33 := own_ix (j := c1) (z := (m3 + (1 : Int32))) (n := c1.toNatClampNeg) (own_tn hr_c1.1) hz_c1
    have hin33 : ¬ (c1 < 0 ∨ cl33.slots.size ≤ (c1).toNatClampNeg) := inb_of S33 ix33.1
    obtain ⟨T33, h33, X33, e33, W33, st33⟩ := stZ X32 hx hZ e32 Ar33 (j := c1) hin33 (g := (mkF m 74 #[.val (.ref o0), .val (.ref o1), .val (.int m3), .val (.int (1 : Int32)), .val (.int c1)] [(.int (1 : Int32)), (.int c1), (.ref b16)])) rfl rfl (hb hby d7_74)
    have G33 : Arf Z h33 b16 k16 .boolean (m3 + (1 : Int32)) (fun j_ => .int ((own_up (own_up (fun _ => (0 : Int32)) (c0.toNatClampNeg) (nar .boolean (1 : Int32))) (c1.toNatClampNeg) (nar .boolean (1 : Int32))) j_)) := (Arf.set Ar33 q33 S33 N33' H33 W33 ix33.2.1).cast (fun j_ _ => by simp only [own_up]; split <;> rfl)
    have K34 : Keep h0 h33 [o0] := K29.wr W33 (Or.inr sz_b16)
    have O_34 : Old Z n0 h33 := O_29.wr W33 g_b16
    have N33 := Fr.snoc X33 N31 g_b16
    refine Runs.by st33 ?_
    show Runs p e below _ (T33.setTop (mkF m 75 #[.val (.ref o0), .val (.ref o1), .val (.int m3), .val (.int (1 : Int32)), .val (.int c1)] []))
    refine Runs.by (fun _ hr => XS.aloadN X33.here hx rfl (hb hby d7_75) rfl rfl hr) ?_
    show Runs p e below _ (T33.setTop (mkF m 76 #[.val (.ref o0), .val (.ref o1), .val (.int m3), .val (.int (1 : Int32)), .val (.int c1)] [(.ref o0)]))
    obtain ⟨T35, X35, e35, st35⟩ := getF X33 hx hZ hown (host := "") (Or.inl (hw _ (List.mem_of_getElem? (i := 38) rfl))) Via.refl e33 (((((Fw4.ext E16).other W18 (Or.inr (slot_ne (Or.inr (hw _ (List.mem_of_getElem? (i := 39) rfl))) (Or.inr (hw _ (List.mem_of_getElem? (i := 77) rfl))) (by decide) (t := (.array .boolean)) (t' := (.array .boolean)) (by decide) (by decide)))).other W23 (Or.inl ne_o0_b16)).other W28 (Or.inl ne_o0_b2)).other W33 (Or.inl ne_o0_b16)) (g := (mkF m 76 #[.val (.ref o0), .val (.ref o1), .val (.int m3), .val (.int (1 : Int32)), .val (.int c1)] [(.ref o0)])) rfl rfl (hb hby d7_76)
    refine Runs.by st35 ?_
    have JJ36 : ∀ (ixJJ36 : Int32) (TJ37 : State) (lJ37 : List Loc) (XJ37 : Stand p l e ({ frames := 4, cells := 2, slots := 512, locals := 60 } : Room) s m #[(.ref o0), (.ref o1)] below meth c TJ37 lJ37 2 512) (eJ37 : TJ37.heap = h33) (NJ37 : Fr n0 lJ37) (hixJJ36 : 0 ≤ ixJJ36.toInt ∧ ixJJ36.toInt < (256 : Int32).toInt), Runs p e below (QE s (Q_rm7_3 Z o0 o1 gC vG va kv c0 c1 c2 h0 n0) ({ frames := 4, cells := 2, slots := 512, locals := 60 } : Room).cells ({ frames := 4, cells := 2, slots := 512, locals := 60 } : Room).slots) (TJ37.setTop (mkF m 121 #[.val (.ref o0), .val (.ref o1), .val (.int m3), .val (.int (1 : Int32)), .val (.int c1)] [(.int ixJJ36), (.ref b2)])) := by
      intro ixJJ36 TJ37 lJ37 XJ37 eJ37 NJ37 hixJJ36
      show Runs p e below _ (TJ37.setTop (mkF m 121 #[.val (.ref o0), .val (.ref o1), .val (.int m3), .val (.int (1 : Int32)), .val (.int c1)] [(.int ixJJ36), (.ref b2)]))
      refine Runs.by (fun _ hr => XS.iconst XJ37.here hx rfl (hb hby d7_121) hr) ?_
      show Runs p e below _ (TJ37.setTop (mkF m 122 #[.val (.ref o0), .val (.ref o1), .val (.int m3), .val (.int (1 : Int32)), .val (.int c1)] [(.int (1 : Int32)), (.int ixJJ36), (.ref b2)]))
      obtain ⟨cl38, Ar38, q38, S38, N38', H38⟩ := id (G28.other W33 ne_b2_b16)
      have ix38 := own_ix (j := ixJJ36) (z := (256 : Int32)) (n := ixJJ36.toNatClampNeg) (own_tn hixJJ36.1) hixJJ36.2
      have hin38 : ¬ (ixJJ36 < 0 ∨ cl38.slots.size ≤ (ixJJ36).toNatClampNeg) := inb_of S38 ix38.1
      obtain ⟨T38, h38, X38, e38, W38, st38⟩ := stZ XJ37 hx hZ eJ37 Ar38 (j := ixJJ36) hin38 (g := (mkF m 122 #[.val (.ref o0), .val (.ref o1), .val (.int m3), .val (.int (1 : Int32)), .val (.int c1)] [(.int (1 : Int32)), (.int ixJJ36), (.ref b2)])) rfl rfl (hb hby d7_122)
      have G38 : Arf Z h38 b2 k2 .boolean (256 : Int32) (fun j_ => .int ((own_up (own_up (fun _ => (0 : Int32)) (ixJJ26.toNatClampNeg) (nar .boolean (1 : Int32))) (ixJJ36.toNatClampNeg) (nar .boolean (1 : Int32))) j_)) := (Arf.set Ar38 q38 S38 N38' H38 W38 ix38.2.1).cast (fun j_ _ => by simp only [own_up]; split <;> rfl)
      have K39 : Keep h0 h38 [o0] := K34.wr W38 (Or.inr sz_b2)
      have O_39 : Old Z n0 h38 := O_34.wr W38 g_b2
      have N38 := Fr.snoc X38 NJ37 g_b2
      refine Runs.by st38 ?_
      show Runs p e below _ (T38.setTop (mkF m 123 #[.val (.ref o0), .val (.ref o1), .val (.int m3), .val (.int (1 : Int32)), .val (.int c1)] []))
      refine Runs.by (fun _ hr => XS.iinc X38.here hx rfl (hb hby d7_123) rfl (l' := #[.val (.ref o0), .val (.ref o1), .val (.int m3), .val (.int (2 : Int32)), .val (.int c1)]) rfl hr) ?_
      show Runs p e below _ (T38.setTop (mkF m 126 #[.val (.ref o0), .val (.ref o1), .val (.int m3), .val (.int (2 : Int32)), .val (.int c1)] []))
      refine Runs.by (fun _ hr => XS.goto X38.here hx rfl (pc0 := 126) (pc' := 52) rfl (hb hby d7_126) (by decide) (by decide) hr) ?_
      show Runs p e below _ (T38.setTop (mkF m 52 #[.val (.ref o0), .val (.ref o1), .val (.int m3), .val (.int (2 : Int32)), .val (.int c1)] []))
      refine Runs.by (fun _ hr => XS.iloadN X38.here hx rfl (hb hby d7_52) rfl  hr) ?_
      show Runs p e below _ (T38.setTop (mkF m 53 #[.val (.ref o0), .val (.ref o1), .val (.int m3), .val (.int (2 : Int32)), .val (.int c1)] [(.int (2 : Int32))]))
      refine Runs.by (fun _ hr => XS.aloadN X38.here hx rfl (hb hby d7_53) rfl rfl hr) ?_
      show Runs p e below _ (T38.setTop (mkF m 54 #[.val (.ref o0), .val (.ref o1), .val (.int m3), .val (.int (2 : Int32)), .val (.int c1)] [(.ref o1), (.int (2 : Int32))]))
      obtain ⟨cq40, kq40, q40a, q40b, q40c⟩ := isOf hZ e38 ((((((((E1.ext E2).wr W4).ext E16).wr W18).wr W23).wr W28).wr W33).wr W38)
      obtain ⟨_, _, ⟨T40, L40, k40, n40⟩, -, X40, ⟨Lc40, hQ40, l40, y40, z40⟩, st40⟩ := X38.virtualBack hx (y := (⟨"java/lang/String", "length", "()I"⟩ : MethodName)) (z := (⟨"java/lang/String", "length", "()I"⟩ : MethodName)) hown (mvT hZ (hw _ (List.mem_of_getElem? (i := 40) rfl))) (mvT hZ (hw _ (List.mem_of_getElem? (i := 41) rfl))) (notFace_of_selects (args := #[]) (mvT hZ (hw _ (List.mem_of_getElem? (i := 43) rfl)))) (mvT hZ (hw _ (List.mem_of_getElem? (i := 43) rfl))) (mvT hZ (hw _ (List.mem_of_getElem? (i := 42) rfl))) (by decide) (backOf (W := 1) (rm8 l Z a0 hw [] o1 gC va kv (3 : Int32) [(.int (c0.toInt8.toInt32)), (.int (c1.toInt8.toInt32)), (.int (c2.toInt8.toInt32))] (.int 0) h38 n0 (Nat.le_trans Z0 K39.1) ((((((((E1.ext E2).wr W4).ext E16).wr W18).wr W23).wr W28).wr W33).wr W38) (SC.ext O_39.2) cC ((((((((FC1.ext E2).other W4 (Or.inl ne_o1_o0)).ext E16).other W18 (Or.inl ne_o1_o0)).other W23 (Or.inl ne_o1_b16)).other W28 (Or.inl ne_o1_b2)).other W33 (Or.inl ne_o1_b16)).other W38 (Or.inl ne_o1_b2)) ((((((((FV1.ext E2).other W4 (Or.inl ne_o1_o0)).ext E16).other W18 (Or.inl ne_o1_o0)).other W23 (Or.inl ne_o1_b16)).other W28 (Or.inl ne_o1_b2)).other W33 (Or.inl ne_o1_b16)).other W38 (Or.inl ne_o1_b2)) ((((((((V1.ext E2).other W4 ne_va_o0).ext E16).other W18 ne_va_o0).other W23 ne_va_b16).other W28 ne_va_b2).other W33 ne_va_b16).other W38 ne_va_b2)) hZ (hw _ (List.mem_of_getElem? (i := 44) rfl)) (hw _ (List.mem_of_getElem? (i := 2) rfl)) (by decide) (by decide)) q40a q40c (g := (mkF m 54 #[.val (.ref o0), .val (.ref o1), .val (.int m3), .val (.int (2 : Int32)), .val (.int c1)] [(.ref o1), (.int (2 : Int32))])) rfl (by rw [hml]; rfl) (Steps.refl _) (argsL := []) (rest := [(.int (2 : Int32))]) (lenOf pd_6 rfl) rfl (by show 2 * 0 + _ ≤ _; exact Nat.le_of_eq rfl) (hb hby d7_54) (fun _ _ => ⟨rfl, e38, (by decide : 2 + 0 ≤ _), (by decide : 512 + 0 ≤ _)⟩)
      dsimp only [Pt.U, Pt.locs, Pt.cells, Pt.slots] at X40 l40 y40 z40 st40 hQ40
      subst l40 y40 z40
      obtain ⟨rfl, Nq40, eq40⟩ := hQ40
      have N40 := Fr.app N38 Nq40
      refine Runs.by (fun _ hr => st40.trans hr) ?_
      show Runs p e below _ (T40.setTop (mkF m 57 #[.val (.ref o0), .val (.ref o1), .val (.int m3), .val (.int (2 : Int32)), .val (.int c1)] [(.int (3 : Int32)), (.int (2 : Int32))]))
      have hc57 : (2 : Int32) < (3 : Int32) := (by decide)
      refine Runs.by (fun _ hr => XS.icmpNo X40.here hx rfl (hb hby d7_57) rfl (tlt hc57).2.1 hr) ?_
      show Runs p e below _ (T40.setTop (mkF m 60 #[.val (.ref o0), .val (.ref o1), .val (.int m3), .val (.int (2 : Int32)), .val (.int c1)] []))
      refine Runs.by (fun _ hr => XS.aloadN X40.here hx rfl (hb hby d7_60) rfl rfl hr) ?_
      show Runs p e below _ (T40.setTop (mkF m 61 #[.val (.ref o0), .val (.ref o1), .val (.int m3), .val (.int (2 : Int32)), .val (.int c1)] [(.ref o1)]))
      refine Runs.by (fun _ hr => XS.iloadN X40.here hx rfl (hb hby d7_61) rfl  hr) ?_
      show Runs p e below _ (T40.setTop (mkF m 62 #[.val (.ref o0), .val (.ref o1), .val (.int m3), .val (.int (2 : Int32)), .val (.int c1)] [(.int (2 : Int32)), (.ref o1)]))
      obtain ⟨cq41, kq41, q41a, q41b, q41c⟩ := isOf hZ eq40 ((((((((E1.ext E2).wr W4).ext E16).wr W18).wr W23).wr W28).wr W33).wr W38)
      obtain ⟨_, _, ⟨T41, L41, k41, n41⟩, -, X41, ⟨Lc41, hQ41, l41, y41, z41⟩, st41⟩ := X40.virtualBack hx (y := (⟨"java/lang/String", "charAt", "(I)C"⟩ : MethodName)) (z := (⟨"java/lang/String", "charAt", "(I)C"⟩ : MethodName)) hown (mvT hZ (hw _ (List.mem_of_getElem? (i := 50) rfl))) (mvT hZ (hw _ (List.mem_of_getElem? (i := 51) rfl))) (notFace_of_selects (args := #[]) (mvT hZ (hw _ (List.mem_of_getElem? (i := 53) rfl)))) (mvT hZ (hw _ (List.mem_of_getElem? (i := 53) rfl))) (mvT hZ (hw _ (List.mem_of_getElem? (i := 52) rfl))) (by decide) (backOf (W := 0) (rm10 l Z a0 hw [] o1 (2 : Int32) gC vG va kv (3 : Int32) [(.int (c0.toInt8.toInt32)), (.int (c1.toInt8.toInt32)), (.int (c2.toInt8.toInt32))] (.int 0) (c2.toInt8.toInt32) c2 h38 n0 (Nat.le_trans Z0 K39.1) ((((((((E1.ext E2).wr W4).ext E16).wr W18).wr W23).wr W28).wr W33).wr W38) (SC.ext O_39.2) cC ((((((((FC1.ext E2).other W4 (Or.inl ne_o1_o0)).ext E16).other W18 (Or.inl ne_o1_o0)).other W23 (Or.inl ne_o1_b16)).other W28 (Or.inl ne_o1_b2)).other W33 (Or.inl ne_o1_b16)).other W38 (Or.inl ne_o1_b2)) ((((((((FV1.ext E2).other W4 (Or.inl ne_o1_o0)).ext E16).other W18 (Or.inl ne_o1_o0)).other W23 (Or.inl ne_o1_b16)).other W28 (Or.inl ne_o1_b2)).other W33 (Or.inl ne_o1_b16)).other W38 (Or.inl ne_o1_b2)) hvG ⟨by decide, by decide⟩ (SG.ext O_39.2) ((((((((V1.ext E2).other W4 ne_va_o0).ext E16).other W18 ne_va_o0).other W23 ne_va_b16).other W28 ne_va_b2).other W33 ne_va_b16).other W38 ne_va_b2) rfl (own_cc pc2)) hZ (hw _ (List.mem_of_getElem? (i := 54) rfl)) (hw _ (List.mem_of_getElem? (i := 2) rfl)) (by decide) (by decide)) q41a q41c (g := (mkF m 62 #[.val (.ref o0), .val (.ref o1), .val (.int m3), .val (.int (2 : Int32)), .val (.int c1)] [(.int (2 : Int32)), (.ref o1)])) rfl (by rw [hml]; rfl) (Steps.refl _) (argsL := [(.int (2 : Int32))]) (rest := []) (lenOf pd_7 rfl) rfl (by show 2 * 0 + _ ≤ _; exact Nat.le_of_eq rfl) (hb hby d7_62) (fun _ _ => ⟨rfl, eq40, (by decide : 2 + 0 ≤ _), (by decide : 512 + 0 ≤ _)⟩)
      dsimp only [Pt.U, Pt.locs, Pt.cells, Pt.slots] at X41 l41 y41 z41 st41 hQ41
      subst l41 y41 z41
      obtain ⟨rfl, Nq41, eq41⟩ := hQ41
      have N41 := Fr.app N40 Nq41
      refine Runs.by (fun _ hr => st41.trans hr) ?_
      show Runs p e below _ (T41.setTop (mkF m 65 #[.val (.ref o0), .val (.ref o1), .val (.int m3), .val (.int (2 : Int32)), .val (.int c1)] [(.int c2)]))
      refine Runs.by (fun _ hr => XS.istore X41.here hx rfl (hb hby d7_65) rfl (l' := #[.val (.ref o0), .val (.ref o1), .val (.int m3), .val (.int (2 : Int32)), .val (.int c2)]) rfl hr) ?_
      show Runs p e below _ (T41.setTop (mkF m 67 #[.val (.ref o0), .val (.ref o1), .val (.int m3), .val (.int (2 : Int32)), .val (.int c2)] []))
      refine Runs.by (fun _ hr => XS.aloadN X41.here hx rfl (hb hby d7_67) rfl rfl hr) ?_
      show Runs p e below _ (T41.setTop (mkF m 68 #[.val (.ref o0), .val (.ref o1), .val (.int m3), .val (.int (2 : Int32)), .val (.int c2)] [(.ref o0)]))
      obtain ⟨T42, X42, e42, st42⟩ := getF X41 hx hZ hown (host := "") (Or.inl (hw _ (List.mem_of_getElem? (i := 76) rfl))) Via.refl eq41 ((((Fw18.other W23 (Or.inl ne_o0_b16)).other W28 (Or.inl ne_o0_b2)).other W33 (Or.inl ne_o0_b16)).other W38 (Or.inl ne_o0_b2)) (g := (mkF m 68 #[.val (.ref o0), .val (.ref o1), .val (.int m3), .val (.int (2 : Int32)), .val (.int c2)] [(.ref o0)])) rfl rfl (hb hby d7_68)
      refine Runs.by st42 ?_
      show Runs p e below _ (T42.setTop (mkF m 71 #[.val (.ref o0), .val (.ref o1), .val (.int m3), .val (.int (2 : Int32)), .val (.int c2)] [(.ref b16)]))
      refine Runs.by (fun _ hr => XS.iload X42.here hx rfl (hb hby d7_71) rfl  hr) ?_
      show Runs p e below _ (T42.setTop (mkF m 73 #[.val (.ref o0), .val (.ref o1), .val (.int m3), .val (.int (2 : Int32)), .val (.int c2)] [(.int c2), (.ref b16)]))
      refine Runs.by (fun _ hr => XS.iconst X42.here hx rfl (hb hby d7_73) hr) ?_
      show Runs p e below _ (T42.setTop (mkF m 74 #[.val (.ref o0), .val (.ref o1), .val (.int m3), .val (.int (2 : Int32)), .val (.int c2)] [(.int (1 : Int32)), (.int c2), (.ref b16)]))
      obtain ⟨cl43, Ar43, q43, S43, N43', H43⟩ := id (G33.other W38 (Ne.symm ne_b2_b16))
      have ix43 := own_ix (j := c2) (z := (m3 + (1 : Int32))) (n := c2.toNatClampNeg) (own_tn hr_c2.1) hz_c2
      have hin43 : ¬ (c2 < 0 ∨ cl43.slots.size ≤ (c2).toNatClampNeg) := inb_of S43 ix43.1
      obtain ⟨T43, h43, X43, e43, W43, st43⟩ := stZ X42 hx hZ e42 Ar43 (j := c2) hin43 (g := (mkF m 74 #[.val (.ref o0), .val (.ref o1), .val (.int m3), .val (.int (2 : Int32)), .val (.int c2)] [(.int (1 : Int32)), (.int c2), (.ref b16)])) rfl rfl (hb hby d7_74)
      have G43 : Arf Z h43 b16 k16 .boolean (m3 + (1 : Int32)) (fun j_ => .int ((own_up (own_up (own_up (fun _ => (0 : Int32)) (c0.toNatClampNeg) (nar .boolean (1 : Int32))) (c1.toNatClampNeg) (nar .boolean (1 : Int32))) (c2.toNatClampNeg) (nar .boolean (1 : Int32))) j_)) := (Arf.set Ar43 q43 S43 N43' H43 W43 ix43.2.1).cast (fun j_ _ => by simp only [own_up]; split <;> rfl)
      have K44 : Keep h0 h43 [o0] := K39.wr W43 (Or.inr sz_b16)
      have O_44 : Old Z n0 h43 := O_39.wr W43 g_b16
      have N43 := Fr.snoc X43 N41 g_b16
      refine Runs.by st43 ?_
      show Runs p e below _ (T43.setTop (mkF m 75 #[.val (.ref o0), .val (.ref o1), .val (.int m3), .val (.int (2 : Int32)), .val (.int c2)] []))
      refine Runs.by (fun _ hr => XS.aloadN X43.here hx rfl (hb hby d7_75) rfl rfl hr) ?_
      show Runs p e below _ (T43.setTop (mkF m 76 #[.val (.ref o0), .val (.ref o1), .val (.int m3), .val (.int (2 : Int32)), .val (.int c2)] [(.ref o0)]))
      obtain ⟨T45, X45, e45, st45⟩ := getF X43 hx hZ hown (host := "") (Or.inl (hw _ (List.mem_of_getElem? (i := 38) rfl))) Via.refl e43 (((((((Fw4.ext E16).other W18 (Or.inr (slot_ne (Or.inr (hw _ (List.mem_of_getElem? (i := 39) rfl))) (Or.inr (hw _ (List.mem_of_getElem? (i := 77) rfl))) (by decide) (t := (.array .boolean)) (t' := (.array .boolean)) (by decide) (by decide)))).other W23 (Or.inl ne_o0_b16)).other W28 (Or.inl ne_o0_b2)).other W33 (Or.inl ne_o0_b16)).other W38 (Or.inl ne_o0_b2)).other W43 (Or.inl ne_o0_b16)) (g := (mkF m 76 #[.val (.ref o0), .val (.ref o1), .val (.int m3), .val (.int (2 : Int32)), .val (.int c2)] [(.ref o0)])) rfl rfl (hb hby d7_76)
      refine Runs.by st45 ?_
      have JJ46 : ∀ (ixJJ46 : Int32) (TJ47 : State) (lJ47 : List Loc) (XJ47 : Stand p l e ({ frames := 4, cells := 2, slots := 512, locals := 60 } : Room) s m #[(.ref o0), (.ref o1)] below meth c TJ47 lJ47 2 512) (eJ47 : TJ47.heap = h43) (NJ47 : Fr n0 lJ47) (hixJJ46 : 0 ≤ ixJJ46.toInt ∧ ixJJ46.toInt < (256 : Int32).toInt), Runs p e below (QE s (Q_rm7_3 Z o0 o1 gC vG va kv c0 c1 c2 h0 n0) ({ frames := 4, cells := 2, slots := 512, locals := 60 } : Room).cells ({ frames := 4, cells := 2, slots := 512, locals := 60 } : Room).slots) (TJ47.setTop (mkF m 121 #[.val (.ref o0), .val (.ref o1), .val (.int m3), .val (.int (2 : Int32)), .val (.int c2)] [(.int ixJJ46), (.ref b2)])) := by
        intro ixJJ46 TJ47 lJ47 XJ47 eJ47 NJ47 hixJJ46
        show Runs p e below _ (TJ47.setTop (mkF m 121 #[.val (.ref o0), .val (.ref o1), .val (.int m3), .val (.int (2 : Int32)), .val (.int c2)] [(.int ixJJ46), (.ref b2)]))
        refine Runs.by (fun _ hr => XS.iconst XJ47.here hx rfl (hb hby d7_121) hr) ?_
        show Runs p e below _ (TJ47.setTop (mkF m 122 #[.val (.ref o0), .val (.ref o1), .val (.int m3), .val (.int (2 : Int32)), .val (.int c2)] [(.int (1 : Int32)), (.int ixJJ46), (.ref b2)]))
        obtain ⟨cl48, Ar48, q48, S48, N48', H48⟩ := id (G38.other W43 ne_b2_b16)
        have ix48 := own_ix (j := ixJJ46) (z := (256 : Int32)) (n := ixJJ46.toNatClampNeg) (own_tn hixJJ46.1) hixJJ46.2
        have hin48 : ¬ (ixJJ46 < 0 ∨ cl48.slots.size ≤ (ixJJ46).toNatClampNeg) := inb_of S48 ix48.1
        obtain ⟨T48, h48, X48, e48, W48, st48⟩ := stZ XJ47 hx hZ eJ47 Ar48 (j := ixJJ46) hin48 (g := (mkF m 122 #[.val (.ref o0), .val (.ref o1), .val (.int m3), .val (.int (2 : Int32)), .val (.int c2)] [(.int (1 : Int32)), (.int ixJJ46), (.ref b2)])) rfl rfl (hb hby d7_122)
        have G48 : Arf Z h48 b2 k2 .boolean (256 : Int32) (fun j_ => .int ((own_up (own_up (own_up (fun _ => (0 : Int32)) (ixJJ26.toNatClampNeg) (nar .boolean (1 : Int32))) (ixJJ36.toNatClampNeg) (nar .boolean (1 : Int32))) (ixJJ46.toNatClampNeg) (nar .boolean (1 : Int32))) j_)) := (Arf.set Ar48 q48 S48 N48' H48 W48 ix48.2.1).cast (fun j_ _ => by simp only [own_up]; split <;> rfl)
        have K49 : Keep h0 h48 [o0] := K44.wr W48 (Or.inr sz_b2)
        have O_49 : Old Z n0 h48 := O_44.wr W48 g_b2
        have N48 := Fr.snoc X48 NJ47 g_b2
        refine Runs.by st48 ?_
        show Runs p e below _ (T48.setTop (mkF m 123 #[.val (.ref o0), .val (.ref o1), .val (.int m3), .val (.int (2 : Int32)), .val (.int c2)] []))
        refine Runs.by (fun _ hr => XS.iinc X48.here hx rfl (hb hby d7_123) rfl (l' := #[.val (.ref o0), .val (.ref o1), .val (.int m3), .val (.int (3 : Int32)), .val (.int c2)]) rfl hr) ?_
        show Runs p e below _ (T48.setTop (mkF m 126 #[.val (.ref o0), .val (.ref o1), .val (.int m3), .val (.int (3 : Int32)), .val (.int c2)] []))
        refine Runs.by (fun _ hr => XS.goto X48.here hx rfl (pc0 := 126) (pc' := 52) rfl (hb hby d7_126) (by decide) (by decide) hr) ?_
        show Runs p e below _ (T48.setTop (mkF m 52 #[.val (.ref o0), .val (.ref o1), .val (.int m3), .val (.int (3 : Int32)), .val (.int c2)] []))
        refine Runs.by (fun _ hr => XS.iloadN X48.here hx rfl (hb hby d7_52) rfl  hr) ?_
        show Runs p e below _ (T48.setTop (mkF m 53 #[.val (.ref o0), .val (.ref o1), .val (.int m3), .val (.int (3 : Int32)), .val (.int c2)] [(.int (3 : Int32))]))
        refine Runs.by (fun _ hr => XS.aloadN X48.here hx rfl (hb hby d7_53) rfl rfl hr) ?_
        show Runs p e below _ (T48.setTop (mkF m 54 #[.val (.ref o0), .val (.ref o1), .val (.int m3), .val (.int (3 : Int32)), .val (.int c2)] [(.ref o1), (.int (3 : Int32))]))
        obtain ⟨cq50, kq50, q50a, q50b, q50c⟩ := isOf hZ e48 ((((((((((E1.ext E2).wr W4).ext E16).wr W18).wr W23).wr W28).wr W33).wr W38).wr W43).wr W48)
        obtain ⟨_, _, ⟨T50, L50, k50, n50⟩, -, X50, ⟨Lc50, hQ50, l50, y50, z50⟩, st50⟩ := X48.virtualBack hx (y := (⟨"java/lang/String", "length", "()I"⟩ : MethodName)) (z := (⟨"java/lang/String", "length", "()I"⟩ : MethodName)) hown (mvT hZ (hw _ (List.mem_of_getElem? (i := 40) rfl))) (mvT hZ (hw _ (List.mem_of_getElem? (i := 41) rfl))) (notFace_of_selects (args := #[]) (mvT hZ (hw _ (List.mem_of_getElem? (i := 43) rfl)))) (mvT hZ (hw _ (List.mem_of_getElem? (i := 43) rfl))) (mvT hZ (hw _ (List.mem_of_getElem? (i := 42) rfl))) (by decide) (backOf (W := 1) (rm8 l Z a0 hw [] o1 gC va kv (3 : Int32) [(.int (c0.toInt8.toInt32)), (.int (c1.toInt8.toInt32)), (.int (c2.toInt8.toInt32))] (.int 0) h48 n0 (Nat.le_trans Z0 K49.1) ((((((((((E1.ext E2).wr W4).ext E16).wr W18).wr W23).wr W28).wr W33).wr W38).wr W43).wr W48) (SC.ext O_49.2) cC ((((((((((FC1.ext E2).other W4 (Or.inl ne_o1_o0)).ext E16).other W18 (Or.inl ne_o1_o0)).other W23 (Or.inl ne_o1_b16)).other W28 (Or.inl ne_o1_b2)).other W33 (Or.inl ne_o1_b16)).other W38 (Or.inl ne_o1_b2)).other W43 (Or.inl ne_o1_b16)).other W48 (Or.inl ne_o1_b2)) ((((((((((FV1.ext E2).other W4 (Or.inl ne_o1_o0)).ext E16).other W18 (Or.inl ne_o1_o0)).other W23 (Or.inl ne_o1_b16)).other W28 (Or.inl ne_o1_b2)).other W33 (Or.inl ne_o1_b16)).other W38 (Or.inl ne_o1_b2)).other W43 (Or.inl ne_o1_b16)).other W48 (Or.inl ne_o1_b2)) ((((((((((V1.ext E2).other W4 ne_va_o0).ext E16).other W18 ne_va_o0).other W23 ne_va_b16).other W28 ne_va_b2).other W33 ne_va_b16).other W38 ne_va_b2).other W43 ne_va_b16).other W48 ne_va_b2)) hZ (hw _ (List.mem_of_getElem? (i := 44) rfl)) (hw _ (List.mem_of_getElem? (i := 2) rfl)) (by decide) (by decide)) q50a q50c (g := (mkF m 54 #[.val (.ref o0), .val (.ref o1), .val (.int m3), .val (.int (3 : Int32)), .val (.int c2)] [(.ref o1), (.int (3 : Int32))])) rfl (by rw [hml]; rfl) (Steps.refl _) (argsL := []) (rest := [(.int (3 : Int32))]) (lenOf pd_6 rfl) rfl (by show 2 * 0 + _ ≤ _; exact Nat.le_of_eq rfl) (hb hby d7_54) (fun _ _ => ⟨rfl, e48, (by decide : 2 + 0 ≤ _), (by decide : 512 + 0 ≤ _)⟩)
        dsimp only [Pt.U, Pt.locs, Pt.cells, Pt.slots] at X50 l50 y50 z50 st50 hQ50
        subst l50 y50 z50
        obtain ⟨rfl, Nq50, eq50⟩ := hQ50
        have N50 := Fr.app N48 Nq50
        refine Runs.by (fun _ hr => st50.trans hr) ?_
        show Runs p e below _ (T50.setTop (mkF m 57 #[.val (.ref o0), .val (.ref o1), .val (.int m3), .val (.int (3 : Int32)), .val (.int c2)] [(.int (3 : Int32)), (.int (3 : Int32))]))
        have hc57 : ¬ ((3 : Int32) < (3 : Int32)) := (by decide)
        refine Runs.by (fun _ hr => XS.icmpYes X50.here hx rfl (pc0 := 57) (pc' := 129) rfl (hb hby d7_57) rfl (flt hc57).2.1 (by decide) (by decide) hr) ?_
        show Runs p e below _ (T50.setTop (mkF m 129 #[.val (.ref o0), .val (.ref o1), .val (.int m3), .val (.int (3 : Int32)), .val (.int c2)] []))
        refine Runs.retV X50 hx hrt hlk (hb hby d7_129) (by decide) (by decide) ?_
        rw [eq50]
        exact ⟨rfl, N50, K49, ((((((((((E0.ext E2).wr W4).ext E16).wr W18).wr W23).wr W28).wr W33).wr W38).wr W43).wr W48), b16, k16, (m3 + (1 : Int32)), (own_up (own_up (own_up (fun _ => (0 : Int32)) (c0.toNatClampNeg) (nar .boolean (1 : Int32))) (c1.toNatClampNeg) (nar .boolean (1 : Int32))) (c2.toNatClampNeg) (nar .boolean (1 : Int32))), ((((((Fw18.other W23 (Or.inl ne_o0_b16)).other W28 (Or.inl ne_o0_b2)).other W33 (Or.inl ne_o0_b16)).other W38 (Or.inl ne_o0_b2)).other W43 (Or.inl ne_o0_b16)).other W48 (Or.inl ne_o0_b2)), (G43.other W48 (Ne.symm ne_b2_b16)), own_s3 hr_c0.1 hz_c0 hr_c1.1 hz_c1 hr_c2.1 hz_c2⟩
      show Runs p e below _ (T45.setTop (mkF m 79 #[.val (.ref o0), .val (.ref o1), .val (.int m3), .val (.int (2 : Int32)), .val (.int c2)] [(.ref b2)]))
      refine Runs.by (fun _ hr => XS.iload X45.here hx rfl (hb hby d7_79) rfl  hr) ?_
      show Runs p e below _ (T45.setTop (mkF m 81 #[.val (.ref o0), .val (.ref o1), .val (.int m3), .val (.int (2 : Int32)), .val (.int c2)] [(.int c2), (.ref b2)]))
      refine Runs.by (fun _ hr => XS.sipush X45.here hx rfl (hb hby d7_81) hr) ?_
      show Runs p e below _ (T45.setTop (mkF m 84 #[.val (.ref o0), .val (.ref o1), .val (.int m3), .val (.int (2 : Int32)), .val (.int c2)] [(.int (128 : Int32)), (.int c2), (.ref b2)]))
      by_cases hc84 : c2 < (128 : Int32)
      · -- pc 84: c2 < (128 : Int32)
        refine Runs.by (fun _ hr => XS.icmpNo X45.here hx rfl (hb hby d7_84) rfl (tlt hc84).2.1 hr) ?_
        show Runs p e below _ (T45.setTop (mkF m 87 #[.val (.ref o0), .val (.ref o1), .val (.int m3), .val (.int (2 : Int32)), .val (.int c2)] [(.ref b2)]))
        refine Runs.by (fun _ hr => XS.iload X45.here hx rfl (hb hby d7_87) rfl  hr) ?_
        show Runs p e below _ (T45.setTop (mkF m 89 #[.val (.ref o0), .val (.ref o1), .val (.int m3), .val (.int (2 : Int32)), .val (.int c2)] [(.int c2), (.ref b2)]))
        refine Runs.by (fun _ hr => XS.goto X45.here hx rfl (pc0 := 89) (pc' := 121) rfl (hb hby d7_89) (by decide) (by decide) hr) ?_
        exact JJ46 c2 _ _ X45 e45 N43 (own_rng pc2)
      · -- pc 84: not c2 < (128 : Int32)
        refine Runs.by (fun _ hr => XS.icmpYes X45.here hx rfl (pc0 := 84) (pc' := 92) rfl (hb hby d7_84) rfl (flt hc84).2.1 (by decide) (by decide) hr) ?_
        show Runs p e below _ (T45.setTop (mkF m 92 #[.val (.ref o0), .val (.ref o1), .val (.int m3), .val (.int (2 : Int32)), .val (.int c2)] [(.ref b2)]))
        refine Runs.by (fun _ hr => XS.iload X45.here hx rfl (hb hby d7_92) rfl  hr) ?_
        show Runs p e below _ (T45.setTop (mkF m 94 #[.val (.ref o0), .val (.ref o1), .val (.int m3), .val (.int (2 : Int32)), .val (.int c2)] [(.int c2), (.ref b2)]))
        refine Runs.by (fun _ hr => XS.sipush X45.here hx rfl (hb hby d7_94) hr) ?_
        show Runs p e below _ (T45.setTop (mkF m 97 #[.val (.ref o0), .val (.ref o1), .val (.int m3), .val (.int (2 : Int32)), .val (.int c2)] [(.int (2048 : Int32)), (.int c2), (.ref b2)]))
        have hc97 : c2 < (2048 : Int32) := (own_2048 pc2)
        refine Runs.by (fun _ hr => XS.icmpNo X45.here hx rfl (hb hby d7_97) rfl (tlt hc97).2.1 hr) ?_
        show Runs p e below _ (T45.setTop (mkF m 100 #[.val (.ref o0), .val (.ref o1), .val (.int m3), .val (.int (2 : Int32)), .val (.int c2)] [(.ref b2)]))
        refine Runs.by (fun _ hr => XS.sipush X45.here hx rfl (hb hby d7_100) hr) ?_
        show Runs p e below _ (T45.setTop (mkF m 103 #[.val (.ref o0), .val (.ref o1), .val (.int m3), .val (.int (2 : Int32)), .val (.int c2)] [(.int (192 : Int32)), (.ref b2)]))
        refine Runs.by (fun _ hr => XS.iload X45.here hx rfl (hb hby d7_103) rfl  hr) ?_
        show Runs p e below _ (T45.setTop (mkF m 105 #[.val (.ref o0), .val (.ref o1), .val (.int m3), .val (.int (2 : Int32)), .val (.int c2)] [(.int c2), (.int (192 : Int32)), (.ref b2)]))
        refine Runs.by (fun _ hr => XS.bipush X45.here hx rfl (hb hby d7_105) hr) ?_
        show Runs p e below _ (T45.setTop (mkF m 107 #[.val (.ref o0), .val (.ref o1), .val (.int m3), .val (.int (2 : Int32)), .val (.int c2)] [(.int (6 : Int32)), (.int c2), (.int (192 : Int32)), (.ref b2)]))
        refine Runs.by (fun _ hr => XS.ishr X45.here hx rfl (hb hby d7_107) rfl hr) ?_
        show Runs p e below _ (T45.setTop (mkF m 108 #[.val (.ref o0), .val (.ref o1), .val (.int m3), .val (.int (2 : Int32)), .val (.int c2)] [(.int (c2 >>> ((6 : Int32) &&& 31))), (.int (192 : Int32)), (.ref b2)]))
        refine Runs.by (fun _ hr => XS.ior X45.here hx rfl (hb hby d7_108) rfl hr) ?_
        show Runs p e below _ (T45.setTop (mkF m 109 #[.val (.ref o0), .val (.ref o1), .val (.int m3), .val (.int (2 : Int32)), .val (.int c2)] [(.int ((192 : Int32) ||| (c2 >>> ((6 : Int32) &&& 31)))), (.ref b2)]))
        refine Runs.by (fun _ hr => XS.goto X45.here hx rfl (pc0 := 109) (pc' := 121) rfl (hb hby d7_109) (by decide) (by decide) hr) ?_
        exact JJ46 ((192 : Int32) ||| (c2 >>> ((6 : Int32) &&& 31))) _ _ X45 e45 N43 (own_fb2 pc2)
    show Runs p e below _ (T35.setTop (mkF m 79 #[.val (.ref o0), .val (.ref o1), .val (.int m3), .val (.int (1 : Int32)), .val (.int c1)] [(.ref b2)]))
    refine Runs.by (fun _ hr => XS.iload X35.here hx rfl (hb hby d7_79) rfl  hr) ?_
    show Runs p e below _ (T35.setTop (mkF m 81 #[.val (.ref o0), .val (.ref o1), .val (.int m3), .val (.int (1 : Int32)), .val (.int c1)] [(.int c1), (.ref b2)]))
    refine Runs.by (fun _ hr => XS.sipush X35.here hx rfl (hb hby d7_81) hr) ?_
    show Runs p e below _ (T35.setTop (mkF m 84 #[.val (.ref o0), .val (.ref o1), .val (.int m3), .val (.int (1 : Int32)), .val (.int c1)] [(.int (128 : Int32)), (.int c1), (.ref b2)]))
    by_cases hc84 : c1 < (128 : Int32)
    · -- pc 84: c1 < (128 : Int32)
      refine Runs.by (fun _ hr => XS.icmpNo X35.here hx rfl (hb hby d7_84) rfl (tlt hc84).2.1 hr) ?_
      show Runs p e below _ (T35.setTop (mkF m 87 #[.val (.ref o0), .val (.ref o1), .val (.int m3), .val (.int (1 : Int32)), .val (.int c1)] [(.ref b2)]))
      refine Runs.by (fun _ hr => XS.iload X35.here hx rfl (hb hby d7_87) rfl  hr) ?_
      show Runs p e below _ (T35.setTop (mkF m 89 #[.val (.ref o0), .val (.ref o1), .val (.int m3), .val (.int (1 : Int32)), .val (.int c1)] [(.int c1), (.ref b2)]))
      refine Runs.by (fun _ hr => XS.goto X35.here hx rfl (pc0 := 89) (pc' := 121) rfl (hb hby d7_89) (by decide) (by decide) hr) ?_
      exact JJ36 c1 _ _ X35 e35 N33 (own_rng pc1)
    · -- pc 84: not c1 < (128 : Int32)
      refine Runs.by (fun _ hr => XS.icmpYes X35.here hx rfl (pc0 := 84) (pc' := 92) rfl (hb hby d7_84) rfl (flt hc84).2.1 (by decide) (by decide) hr) ?_
      show Runs p e below _ (T35.setTop (mkF m 92 #[.val (.ref o0), .val (.ref o1), .val (.int m3), .val (.int (1 : Int32)), .val (.int c1)] [(.ref b2)]))
      refine Runs.by (fun _ hr => XS.iload X35.here hx rfl (hb hby d7_92) rfl  hr) ?_
      show Runs p e below _ (T35.setTop (mkF m 94 #[.val (.ref o0), .val (.ref o1), .val (.int m3), .val (.int (1 : Int32)), .val (.int c1)] [(.int c1), (.ref b2)]))
      refine Runs.by (fun _ hr => XS.sipush X35.here hx rfl (hb hby d7_94) hr) ?_
      show Runs p e below _ (T35.setTop (mkF m 97 #[.val (.ref o0), .val (.ref o1), .val (.int m3), .val (.int (1 : Int32)), .val (.int c1)] [(.int (2048 : Int32)), (.int c1), (.ref b2)]))
      have hc97 : c1 < (2048 : Int32) := (own_2048 pc1)
      refine Runs.by (fun _ hr => XS.icmpNo X35.here hx rfl (hb hby d7_97) rfl (tlt hc97).2.1 hr) ?_
      show Runs p e below _ (T35.setTop (mkF m 100 #[.val (.ref o0), .val (.ref o1), .val (.int m3), .val (.int (1 : Int32)), .val (.int c1)] [(.ref b2)]))
      refine Runs.by (fun _ hr => XS.sipush X35.here hx rfl (hb hby d7_100) hr) ?_
      show Runs p e below _ (T35.setTop (mkF m 103 #[.val (.ref o0), .val (.ref o1), .val (.int m3), .val (.int (1 : Int32)), .val (.int c1)] [(.int (192 : Int32)), (.ref b2)]))
      refine Runs.by (fun _ hr => XS.iload X35.here hx rfl (hb hby d7_103) rfl  hr) ?_
      show Runs p e below _ (T35.setTop (mkF m 105 #[.val (.ref o0), .val (.ref o1), .val (.int m3), .val (.int (1 : Int32)), .val (.int c1)] [(.int c1), (.int (192 : Int32)), (.ref b2)]))
      refine Runs.by (fun _ hr => XS.bipush X35.here hx rfl (hb hby d7_105) hr) ?_
      show Runs p e below _ (T35.setTop (mkF m 107 #[.val (.ref o0), .val (.ref o1), .val (.int m3), .val (.int (1 : Int32)), .val (.int c1)] [(.int (6 : Int32)), (.int c1), (.int (192 : Int32)), (.ref b2)]))
      refine Runs.by (fun _ hr => XS.ishr X35.here hx rfl (hb hby d7_107) rfl hr) ?_
      show Runs p e below _ (T35.setTop (mkF m 108 #[.val (.ref o0), .val (.ref o1), .val (.int m3), .val (.int (1 : Int32)), .val (.int c1)] [(.int (c1 >>> ((6 : Int32) &&& 31))), (.int (192 : Int32)), (.ref b2)]))
      refine Runs.by (fun _ hr => XS.ior X35.here hx rfl (hb hby d7_108) rfl hr) ?_
      show Runs p e below _ (T35.setTop (mkF m 109 #[.val (.ref o0), .val (.ref o1), .val (.int m3), .val (.int (1 : Int32)), .val (.int c1)] [(.int ((192 : Int32) ||| (c1 >>> ((6 : Int32) &&& 31)))), (.ref b2)]))
      refine Runs.by (fun _ hr => XS.goto X35.here hx rfl (pc0 := 109) (pc' := 121) rfl (hb hby d7_109) (by decide) (by decide) hr) ?_
      exact JJ36 ((192 : Int32) ||| (c1 >>> ((6 : Int32) &&& 31))) _ _ X35 e35 N33 (own_fb2 pc1)
  show Runs p e below _ (T25.setTop (mkF m 79 #[.val (.ref o0), .val (.ref o1), .val (.int m3), .val (.int (0 : Int32)), .val (.int c0)] [(.ref b2)]))
  refine Runs.by (fun _ hr => XS.iload X25.here hx rfl (hb hby d7_79) rfl  hr) ?_
  show Runs p e below _ (T25.setTop (mkF m 81 #[.val (.ref o0), .val (.ref o1), .val (.int m3), .val (.int (0 : Int32)), .val (.int c0)] [(.int c0), (.ref b2)]))
  refine Runs.by (fun _ hr => XS.sipush X25.here hx rfl (hb hby d7_81) hr) ?_
  show Runs p e below _ (T25.setTop (mkF m 84 #[.val (.ref o0), .val (.ref o1), .val (.int m3), .val (.int (0 : Int32)), .val (.int c0)] [(.int (128 : Int32)), (.int c0), (.ref b2)]))
  by_cases hc84 : c0 < (128 : Int32)
  · -- pc 84: c0 < (128 : Int32)
    refine Runs.by (fun _ hr => XS.icmpNo X25.here hx rfl (hb hby d7_84) rfl (tlt hc84).2.1 hr) ?_
    show Runs p e below _ (T25.setTop (mkF m 87 #[.val (.ref o0), .val (.ref o1), .val (.int m3), .val (.int (0 : Int32)), .val (.int c0)] [(.ref b2)]))
    refine Runs.by (fun _ hr => XS.iload X25.here hx rfl (hb hby d7_87) rfl  hr) ?_
    show Runs p e below _ (T25.setTop (mkF m 89 #[.val (.ref o0), .val (.ref o1), .val (.int m3), .val (.int (0 : Int32)), .val (.int c0)] [(.int c0), (.ref b2)]))
    refine Runs.by (fun _ hr => XS.goto X25.here hx rfl (pc0 := 89) (pc' := 121) rfl (hb hby d7_89) (by decide) (by decide) hr) ?_
    exact JJ26 c0 _ _ X25 e25 N23 (own_rng pc0)
  · -- pc 84: not c0 < (128 : Int32)
    refine Runs.by (fun _ hr => XS.icmpYes X25.here hx rfl (pc0 := 84) (pc' := 92) rfl (hb hby d7_84) rfl (flt hc84).2.1 (by decide) (by decide) hr) ?_
    show Runs p e below _ (T25.setTop (mkF m 92 #[.val (.ref o0), .val (.ref o1), .val (.int m3), .val (.int (0 : Int32)), .val (.int c0)] [(.ref b2)]))
    refine Runs.by (fun _ hr => XS.iload X25.here hx rfl (hb hby d7_92) rfl  hr) ?_
    show Runs p e below _ (T25.setTop (mkF m 94 #[.val (.ref o0), .val (.ref o1), .val (.int m3), .val (.int (0 : Int32)), .val (.int c0)] [(.int c0), (.ref b2)]))
    refine Runs.by (fun _ hr => XS.sipush X25.here hx rfl (hb hby d7_94) hr) ?_
    show Runs p e below _ (T25.setTop (mkF m 97 #[.val (.ref o0), .val (.ref o1), .val (.int m3), .val (.int (0 : Int32)), .val (.int c0)] [(.int (2048 : Int32)), (.int c0), (.ref b2)]))
    have hc97 : c0 < (2048 : Int32) := (own_2048 pc0)
    refine Runs.by (fun _ hr => XS.icmpNo X25.here hx rfl (hb hby d7_97) rfl (tlt hc97).2.1 hr) ?_
    show Runs p e below _ (T25.setTop (mkF m 100 #[.val (.ref o0), .val (.ref o1), .val (.int m3), .val (.int (0 : Int32)), .val (.int c0)] [(.ref b2)]))
    refine Runs.by (fun _ hr => XS.sipush X25.here hx rfl (hb hby d7_100) hr) ?_
    show Runs p e below _ (T25.setTop (mkF m 103 #[.val (.ref o0), .val (.ref o1), .val (.int m3), .val (.int (0 : Int32)), .val (.int c0)] [(.int (192 : Int32)), (.ref b2)]))
    refine Runs.by (fun _ hr => XS.iload X25.here hx rfl (hb hby d7_103) rfl  hr) ?_
    show Runs p e below _ (T25.setTop (mkF m 105 #[.val (.ref o0), .val (.ref o1), .val (.int m3), .val (.int (0 : Int32)), .val (.int c0)] [(.int c0), (.int (192 : Int32)), (.ref b2)]))
    refine Runs.by (fun _ hr => XS.bipush X25.here hx rfl (hb hby d7_105) hr) ?_
    show Runs p e below _ (T25.setTop (mkF m 107 #[.val (.ref o0), .val (.ref o1), .val (.int m3), .val (.int (0 : Int32)), .val (.int c0)] [(.int (6 : Int32)), (.int c0), (.int (192 : Int32)), (.ref b2)]))
    refine Runs.by (fun _ hr => XS.ishr X25.here hx rfl (hb hby d7_107) rfl hr) ?_
    show Runs p e below _ (T25.setTop (mkF m 108 #[.val (.ref o0), .val (.ref o1), .val (.int m3), .val (.int (0 : Int32)), .val (.int c0)] [(.int (c0 >>> ((6 : Int32) &&& 31))), (.int (192 : Int32)), (.ref b2)]))
    refine Runs.by (fun _ hr => XS.ior X25.here hx rfl (hb hby d7_108) rfl hr) ?_
    show Runs p e below _ (T25.setTop (mkF m 109 #[.val (.ref o0), .val (.ref o1), .val (.int m3), .val (.int (0 : Int32)), .val (.int c0)] [(.int ((192 : Int32) ||| (c0 >>> ((6 : Int32) &&& 31)))), (.ref b2)]))
    refine Runs.by (fun _ hr => XS.goto X25.here hx rfl (pc0 := 109) (pc' := 121) rfl (hb hby d7_109) (by decide) (by decide) hr) ?_
    exact JJ26 ((192 : Int32) ||| (c0 >>> ((6 : Int32) &&& 31))) _ _ X25 e25 N23 (own_fb2 pc0)
theorem ef_0_12 (m : MethodId) (p0 : Int32) (p1 : Int32) (p2 : Int32) (p3 : Int32) (p4 : Int32) (p5 : Int32) : entryFrame m #[(.int p0), (.int p1), (.int p2), (.int p3), (.int p4), (.int p5)] maxLocals = mkF m 0 #[.val (.int p0), .val (.int p1), .val (.int p2), .val (.int p3), .val (.int p4), .val (.int p5), .unset, .unset, .unset, .unset, .unset, .unset, .unset, .unset, .unset, .unset] [] := by first | (simp [entryFrame, mkF, argsToLocals, Value.category, maxLocals]; done) | rfl
theorem pn_com_example_vedette_vedette_io_StopsIsStopPinLaw : plainName "com/example/vedette/vedette/io/StopsIsStopPinLaw" = true := by first | (simp [plainName, overriddenIn]; done) | decide +kernel
def Q_rm0 (Z : State) (p0 : Int32) (p1 : Int32) (p2 : Int32) (p3 : Int32) (p4 : Int32) (p5 : Int32) (gC : Int32) (vG : Value) (h0 : Heap) (n0 : Nat) (v : Option Value) (h : Heap) (L : List Loc) : Prop := v = some (.int 1) ∧ Fr n0 L
theorem pd_9 : parseMethodDescriptor "([C)V" = some ⟨[(.array .char)], none⟩ := by decide +kernel
theorem pd_10 : parseMethodDescriptor "(Ljava/lang/String;)V" = some ⟨[(.object "java/lang/String")], none⟩ := by decide +kernel
theorem pd_11 : parseMethodDescriptor "(I)Z" = some ⟨[.int], some .boolean⟩ := by decide +kernel
set_option maxRecDepth 65536 in
set_option maxHeartbeats 40000000 in
theorem rm0 (l : Launch) (Z : State) (a0 : Array Value) (hw : ∀ d ∈ tables_1, d.before a0 Z = true) (ws : List Jvm.Cond) (p0 : Int32) (p1 : Int32) (p2 : Int32) (p3 : Int32) (p4 : Int32) (p5 : Int32) (gC : Int32) (vG : Value) (h0 : Heap) (n0 : Nat) (Z0 : n0 ≤ h0.size) (SC : Sta Z Z.heap "java/lang/String" "COMPACT_STRINGS" "Z" (.int gC)) (cC : ¬ (gC = (0 : Int32))) (hvG : vG.isRef = true) (SG : Sta Z Z.heap "jdk/internal/util/Preconditions" "SIOOBE_FORMATTER" "Ljava/util/function/BiFunction;" vG) (hEL : EW Z a0 consts_1) (O0 : Old Z n0 h0) :
    MetFree l x (head1 (Jvm.Cond.code x code maxLocals ret :: ws) room_1) (fun a U => a = #[(.int p0), (.int p1), (.int p2), (.int p3), (.int p4), (.int p5)] ∧ Z.Warmed39 U.vm ∧ U.heap = h0 ∧ CHv Z consts_1 U.vm h0) (fun _ _ _ _ _ => True) (fun _ U o U' => ∃ v L, o = .returned v ∧ Q_rm0 Z p0 p1 p2 p3 p4 p5 gC vG h0 n0 v U'.heap L ∧ CHr Z consts_1 U.vm U.heap U'.vm U'.heap ∧ ReturnedEndW U o U' L room_1.cells room_1.slots) := by
  refine MetFree.of_bodySF (plainFor_of_name pn_com_example_vedette_vedette_io_StopsIsStopPinLaw) hisR ?_
  intro p e s m args below meth c s₁ Bd hml0 hP hK
  obtain ⟨rfl, hZ, hh, hCv⟩ := hP
  have hx := Bd.exec
  have hby := Bd.bytes
  have hlk := BodyLoose.notSynchronized Bd
  have hrt := Bd.returns
  have hml : c.maxLocals = 16 := hml0
  have hown : s.vm.findClass "com/example/vedette/vedette/io/StopsIsStopPinLaw" = some m.cls := findClass_of_methodNamed Bd.named
  have hnm := (name_of_methodNamed Bd.named Bd.method).1
  have X0 : Stand p l e room_1 (s.setVm s.vm) m #[(.int p0), (.int p1), (.int p2), (.int p3), (.int p4), (.int p5)] below meth c s₁ [] 0 0 := Stand.of_body Bd
  have e0 : s₁.heap = h0 := by rw [← hh, Bd.state]; rfl
  have N0 := Fr.nil n0
  have K0 : Keep h0 h0 [] := Keep.refl h0 _
  have hC : CHr Z consts_1 s.vm s.heap s.vm h0 := by rw [hh]; exact CHr.refl hCv
  have hS : s.Since s.vm h0.size := (State.WarmedH.refl s).since _
  have hk : h0.size ≤ h0.size := Nat.le_refl _
  show Runs p e below (QEW Z consts_1 s (Q_rm0 Z p0 p1 p2 p3 p4 p5 gC vG h0 n0) room_1.cells room_1.slots) (s₁.setTop (entryFrame m #[(.int p0), (.int p1), (.int p2), (.int p3), (.int p4), (.int p5)] maxLocals))
  rw [ef_0_12 m p0 p1 p2 p3 p4 p5]
  have hws : ∀ d ∈ StrChars.Road.words, d.before a0 Z = true := fun d hd => hw d ((by decide +kernel : ∀ d ∈ StrChars.Road.words, d ∈ tables_1) d hd)
  show Runs p e below _ (s₁.setTop (mkF m 0 #[.val (.int p0), .val (.int p1), .val (.int p2), .val (.int p3), .val (.int p4), .val (.int p5), .unset, .unset, .unset, .unset, .unset, .unset, .unset, .unset, .unset, .unset] []))
  refine Runs.by (fun _ hr => XS.iloadN X0.here hx rfl (hb hby at_0) rfl  hr) ?_
  show Runs p e below _ (s₁.setTop (mkF m 1 #[.val (.int p0), .val (.int p1), .val (.int p2), .val (.int p3), .val (.int p4), .val (.int p5), .unset, .unset, .unset, .unset, .unset, .unset, .unset, .unset, .unset, .unset] [(.int p0)]))
  refine Runs.by (fun _ hr => XS.sipush X0.here hx rfl (hb hby at_1) hr) ?_
  show Runs p e below _ (s₁.setTop (mkF m 4 #[.val (.int p0), .val (.int p1), .val (.int p2), .val (.int p3), .val (.int p4), .val (.int p5), .unset, .unset, .unset, .unset, .unset, .unset, .unset, .unset, .unset, .unset] [(.int (255 : Int32)), (.int p0)]))
  refine Runs.by (fun _ hr => XS.iand X0.here hx rfl (hb hby at_4) rfl hr) ?_
  show Runs p e below _ (s₁.setTop (mkF m 5 #[.val (.int p0), .val (.int p1), .val (.int p2), .val (.int p3), .val (.int p4), .val (.int p5), .unset, .unset, .unset, .unset, .unset, .unset, .unset, .unset, .unset, .unset] [(.int (p0 &&& (255 : Int32)))]))
  refine Runs.by (fun _ hr => XS.i2c X0.here hx rfl (hb hby at_5) rfl hr) ?_
  show Runs p e below _ (s₁.setTop (mkF m 6 #[.val (.int p0), .val (.int p1), .val (.int p2), .val (.int p3), .val (.int p4), .val (.int p5), .unset, .unset, .unset, .unset, .unset, .unset, .unset, .unset, .unset, .unset] [(.int ((p0 &&& (255 : Int32)).toUInt32.toUInt16.toUInt32.toInt32))]))
  refine Runs.by (fun _ hr => XS.istore X0.here hx rfl (hb hby at_6) rfl (l' := #[.val (.int p0), .val (.int p1), .val (.int p2), .val (.int p3), .val (.int p4), .val (.int p5), .val (.int ((p0 &&& (255 : Int32)).toUInt32.toUInt16.toUInt32.toInt32)), .unset, .unset, .unset, .unset, .unset, .unset, .unset, .unset, .unset]) rfl hr) ?_
  show Runs p e below _ (s₁.setTop (mkF m 8 #[.val (.int p0), .val (.int p1), .val (.int p2), .val (.int p3), .val (.int p4), .val (.int p5), .val (.int ((p0 &&& (255 : Int32)).toUInt32.toUInt16.toUInt32.toInt32)), .unset, .unset, .unset, .unset, .unset, .unset, .unset, .unset, .unset] []))
  refine Runs.by (fun _ hr => XS.iloadN X0.here hx rfl (hb hby at_8) rfl  hr) ?_
  show Runs p e below _ (s₁.setTop (mkF m 9 #[.val (.int p0), .val (.int p1), .val (.int p2), .val (.int p3), .val (.int p4), .val (.int p5), .val (.int ((p0 &&& (255 : Int32)).toUInt32.toUInt16.toUInt32.toInt32)), .unset, .unset, .unset, .unset, .unset, .unset, .unset, .unset, .unset] [(.int p1)]))
  refine Runs.by (fun _ hr => XS.sipush X0.here hx rfl (hb hby at_9) hr) ?_
  show Runs p e below _ (s₁.setTop (mkF m 12 #[.val (.int p0), .val (.int p1), .val (.int p2), .val (.int p3), .val (.int p4), .val (.int p5), .val (.int ((p0 &&& (255 : Int32)).toUInt32.toUInt16.toUInt32.toInt32)), .unset, .unset, .unset, .unset, .unset, .unset, .unset, .unset, .unset] [(.int (255 : Int32)), (.int p1)]))
  refine Runs.by (fun _ hr => XS.iand X0.here hx rfl (hb hby at_12) rfl hr) ?_
  show Runs p e below _ (s₁.setTop (mkF m 13 #[.val (.int p0), .val (.int p1), .val (.int p2), .val (.int p3), .val (.int p4), .val (.int p5), .val (.int ((p0 &&& (255 : Int32)).toUInt32.toUInt16.toUInt32.toInt32)), .unset, .unset, .unset, .unset, .unset, .unset, .unset, .unset, .unset] [(.int (p1 &&& (255 : Int32)))]))
  refine Runs.by (fun _ hr => XS.i2c X0.here hx rfl (hb hby at_13) rfl hr) ?_
  show Runs p e below _ (s₁.setTop (mkF m 14 #[.val (.int p0), .val (.int p1), .val (.int p2), .val (.int p3), .val (.int p4), .val (.int p5), .val (.int ((p0 &&& (255 : Int32)).toUInt32.toUInt16.toUInt32.toInt32)), .unset, .unset, .unset, .unset, .unset, .unset, .unset, .unset, .unset] [(.int ((p1 &&& (255 : Int32)).toUInt32.toUInt16.toUInt32.toInt32))]))
  refine Runs.by (fun _ hr => XS.istore X0.here hx rfl (hb hby at_14) rfl (l' := #[.val (.int p0), .val (.int p1), .val (.int p2), .val (.int p3), .val (.int p4), .val (.int p5), .val (.int ((p0 &&& (255 : Int32)).toUInt32.toUInt16.toUInt32.toInt32)), .val (.int ((p1 &&& (255 : Int32)).toUInt32.toUInt16.toUInt32.toInt32)), .unset, .unset, .unset, .unset, .unset, .unset, .unset, .unset]) rfl hr) ?_
  show Runs p e below _ (s₁.setTop (mkF m 16 #[.val (.int p0), .val (.int p1), .val (.int p2), .val (.int p3), .val (.int p4), .val (.int p5), .val (.int ((p0 &&& (255 : Int32)).toUInt32.toUInt16.toUInt32.toInt32)), .val (.int ((p1 &&& (255 : Int32)).toUInt32.toUInt16.toUInt32.toInt32)), .unset, .unset, .unset, .unset, .unset, .unset, .unset, .unset] []))
  refine Runs.by (fun _ hr => XS.iloadN X0.here hx rfl (hb hby at_16) rfl  hr) ?_
  show Runs p e below _ (s₁.setTop (mkF m 17 #[.val (.int p0), .val (.int p1), .val (.int p2), .val (.int p3), .val (.int p4), .val (.int p5), .val (.int ((p0 &&& (255 : Int32)).toUInt32.toUInt16.toUInt32.toInt32)), .val (.int ((p1 &&& (255 : Int32)).toUInt32.toUInt16.toUInt32.toInt32)), .unset, .unset, .unset, .unset, .unset, .unset, .unset, .unset] [(.int p2)]))
  refine Runs.by (fun _ hr => XS.sipush X0.here hx rfl (hb hby at_17) hr) ?_
  show Runs p e below _ (s₁.setTop (mkF m 20 #[.val (.int p0), .val (.int p1), .val (.int p2), .val (.int p3), .val (.int p4), .val (.int p5), .val (.int ((p0 &&& (255 : Int32)).toUInt32.toUInt16.toUInt32.toInt32)), .val (.int ((p1 &&& (255 : Int32)).toUInt32.toUInt16.toUInt32.toInt32)), .unset, .unset, .unset, .unset, .unset, .unset, .unset, .unset] [(.int (255 : Int32)), (.int p2)]))
  refine Runs.by (fun _ hr => XS.iand X0.here hx rfl (hb hby at_20) rfl hr) ?_
  show Runs p e below _ (s₁.setTop (mkF m 21 #[.val (.int p0), .val (.int p1), .val (.int p2), .val (.int p3), .val (.int p4), .val (.int p5), .val (.int ((p0 &&& (255 : Int32)).toUInt32.toUInt16.toUInt32.toInt32)), .val (.int ((p1 &&& (255 : Int32)).toUInt32.toUInt16.toUInt32.toInt32)), .unset, .unset, .unset, .unset, .unset, .unset, .unset, .unset] [(.int (p2 &&& (255 : Int32)))]))
  refine Runs.by (fun _ hr => XS.i2c X0.here hx rfl (hb hby at_21) rfl hr) ?_
  show Runs p e below _ (s₁.setTop (mkF m 22 #[.val (.int p0), .val (.int p1), .val (.int p2), .val (.int p3), .val (.int p4), .val (.int p5), .val (.int ((p0 &&& (255 : Int32)).toUInt32.toUInt16.toUInt32.toInt32)), .val (.int ((p1 &&& (255 : Int32)).toUInt32.toUInt16.toUInt32.toInt32)), .unset, .unset, .unset, .unset, .unset, .unset, .unset, .unset] [(.int ((p2 &&& (255 : Int32)).toUInt32.toUInt16.toUInt32.toInt32))]))
  refine Runs.by (fun _ hr => XS.istore X0.here hx rfl (hb hby at_22) rfl (l' := #[.val (.int p0), .val (.int p1), .val (.int p2), .val (.int p3), .val (.int p4), .val (.int p5), .val (.int ((p0 &&& (255 : Int32)).toUInt32.toUInt16.toUInt32.toInt32)), .val (.int ((p1 &&& (255 : Int32)).toUInt32.toUInt16.toUInt32.toInt32)), .val (.int ((p2 &&& (255 : Int32)).toUInt32.toUInt16.toUInt32.toInt32)), .unset, .unset, .unset, .unset, .unset, .unset, .unset]) rfl hr) ?_
  show Runs p e below _ (s₁.setTop (mkF m 24 #[.val (.int p0), .val (.int p1), .val (.int p2), .val (.int p3), .val (.int p4), .val (.int p5), .val (.int ((p0 &&& (255 : Int32)).toUInt32.toUInt16.toUInt32.toInt32)), .val (.int ((p1 &&& (255 : Int32)).toUInt32.toUInt16.toUInt32.toInt32)), .val (.int ((p2 &&& (255 : Int32)).toUInt32.toUInt16.toUInt32.toInt32)), .unset, .unset, .unset, .unset, .unset, .unset, .unset] []))
  refine Runs.by (fun _ hr => XS.iloadN X0.here hx rfl (hb hby at_24) rfl  hr) ?_
  show Runs p e below _ (s₁.setTop (mkF m 25 #[.val (.int p0), .val (.int p1), .val (.int p2), .val (.int p3), .val (.int p4), .val (.int p5), .val (.int ((p0 &&& (255 : Int32)).toUInt32.toUInt16.toUInt32.toInt32)), .val (.int ((p1 &&& (255 : Int32)).toUInt32.toUInt16.toUInt32.toInt32)), .val (.int ((p2 &&& (255 : Int32)).toUInt32.toUInt16.toUInt32.toInt32)), .unset, .unset, .unset, .unset, .unset, .unset, .unset] [(.int p3)]))
  refine Runs.by (fun _ hr => XS.iconst X0.here hx rfl (hb hby at_25) hr) ?_
  show Runs p e below _ (s₁.setTop (mkF m 26 #[.val (.int p0), .val (.int p1), .val (.int p2), .val (.int p3), .val (.int p4), .val (.int p5), .val (.int ((p0 &&& (255 : Int32)).toUInt32.toUInt16.toUInt32.toInt32)), .val (.int ((p1 &&& (255 : Int32)).toUInt32.toUInt16.toUInt32.toInt32)), .val (.int ((p2 &&& (255 : Int32)).toUInt32.toUInt16.toUInt32.toInt32)), .unset, .unset, .unset, .unset, .unset, .unset, .unset] [(.int (3 : Int32)), (.int p3)]))
  refine Runs.by (fun _ hr => XS.iand X0.here hx rfl (hb hby at_26) rfl hr) ?_
  have hk3 := own_and3 p3
  generalize (p3 &&& (3 : Int32)) = kk at hk3 ⊢
  rcases hk3 with rfl | rfl | rfl | rfl
  · skip
    show Runs p e below _ (s₁.setTop (mkF m 27 #[.val (.int p0), .val (.int p1), .val (.int p2), .val (.int p3), .val (.int p4), .val (.int p5), .val (.int ((p0 &&& (255 : Int32)).toUInt32.toUInt16.toUInt32.toInt32)), .val (.int ((p1 &&& (255 : Int32)).toUInt32.toUInt16.toUInt32.toInt32)), .val (.int ((p2 &&& (255 : Int32)).toUInt32.toUInt16.toUInt32.toInt32)), .unset, .unset, .unset, .unset, .unset, .unset, .unset] [(.int (0 : Int32))]))
    refine Runs.by (fun _ hr => XS.istore X0.here hx rfl (hb hby at_27) rfl (l' := #[.val (.int p0), .val (.int p1), .val (.int p2), .val (.int p3), .val (.int p4), .val (.int p5), .val (.int ((p0 &&& (255 : Int32)).toUInt32.toUInt16.toUInt32.toInt32)), .val (.int ((p1 &&& (255 : Int32)).toUInt32.toUInt16.toUInt32.toInt32)), .val (.int ((p2 &&& (255 : Int32)).toUInt32.toUInt16.toUInt32.toInt32)), .val (.int (0 : Int32)), .unset, .unset, .unset, .unset, .unset, .unset]) rfl hr) ?_
    show Runs p e below _ (s₁.setTop (mkF m 29 #[.val (.int p0), .val (.int p1), .val (.int p2), .val (.int p3), .val (.int p4), .val (.int p5), .val (.int ((p0 &&& (255 : Int32)).toUInt32.toUInt16.toUInt32.toInt32)), .val (.int ((p1 &&& (255 : Int32)).toUInt32.toUInt16.toUInt32.toInt32)), .val (.int ((p2 &&& (255 : Int32)).toUInt32.toUInt16.toUInt32.toInt32)), .val (.int (0 : Int32)), .unset, .unset, .unset, .unset, .unset, .unset] []))
    refine Runs.by (fun _ hr => XS.iload X0.here hx rfl (hb hby at_29) rfl  hr) ?_
    show Runs p e below _ (s₁.setTop (mkF m 31 #[.val (.int p0), .val (.int p1), .val (.int p2), .val (.int p3), .val (.int p4), .val (.int p5), .val (.int ((p0 &&& (255 : Int32)).toUInt32.toUInt16.toUInt32.toInt32)), .val (.int ((p1 &&& (255 : Int32)).toUInt32.toUInt16.toUInt32.toInt32)), .val (.int ((p2 &&& (255 : Int32)).toUInt32.toUInt16.toUInt32.toInt32)), .val (.int (0 : Int32)), .unset, .unset, .unset, .unset, .unset, .unset] [(.int (0 : Int32))]))
    have hc31 : (0 : Int32) = (0 : Int32) := (by decide)
    refine Runs.by (fun _ hr => XS.ifNo X0.here hx rfl (hb hby at_31) rfl ((if0 _ _).trans (teq hc31).2) hr) ?_
    show Runs p e below _ (s₁.setTop (mkF m 34 #[.val (.int p0), .val (.int p1), .val (.int p2), .val (.int p3), .val (.int p4), .val (.int p5), .val (.int ((p0 &&& (255 : Int32)).toUInt32.toUInt16.toUInt32.toInt32)), .val (.int ((p1 &&& (255 : Int32)).toUInt32.toUInt16.toUInt32.toInt32)), .val (.int ((p2 &&& (255 : Int32)).toUInt32.toUInt16.toUInt32.toInt32)), .val (.int (0 : Int32)), .unset, .unset, .unset, .unset, .unset, .unset] []))
    obtain ⟨T1, h1, X1, e1, E1, A1, D1, -, st1⟩ := newO X0 hx hZ hown (hw _ (List.mem_of_getElem? (i := 0) rfl)) (hw _ (List.mem_of_getElem? (i := 1) rfl)) (hw _ (List.mem_of_getElem? (i := 2) rfl)) e0 (g := (mkF m 34 #[.val (.int p0), .val (.int p1), .val (.int p2), .val (.int p3), .val (.int p4), .val (.int p5), .val (.int ((p0 &&& (255 : Int32)).toUInt32.toUInt16.toUInt32.toInt32)), .val (.int ((p1 &&& (255 : Int32)).toUInt32.toUInt16.toUInt32.toInt32)), .val (.int ((p2 &&& (255 : Int32)).toUInt32.toUInt16.toUInt32.toInt32)), .val (.int (0 : Int32)), .unset, .unset, .unset, .unset, .unset, .unset] [])) rfl (hb hby at_34) (by decide) (by decide)
    obtain ⟨b1, gz1⟩ : ∃ z, z = h0.size := ⟨_, rfl⟩
    rw [← gz1] at A1 D1 st1
    have Sf_b1 : Safe Z consts_1 s.vm h0 b1 := Safe.new (Nat.le_of_eq gz1.symm)
    have g_b1 : n0 ≤ b1 := Nat.le_trans (Nat.le_trans Z0 K0.1) (Nat.le_of_eq gz1.symm)
    have sz_b1 : h0.size ≤ b1 := Nat.le_trans K0.1 (Nat.le_of_eq gz1.symm)
    have K2 : Keep h0 h1 [] := K0.ext E1
    have O_2 : Old Z n0 h1 := O0.ext E1
    have Sf_b1__K2 := Safe.ext E1 hC.1 Sf_b1
    have hk : _ ≤ h1.size := Nat.le_trans hk E1.1
    have hC := hC.trans (CHr.ext E1 hC.1)
    have F_coder_b1 : Fld Z h1 b1 "java/lang/String" "coder" "B" (.int (0 : Int32)) := D1 (Or.inr (hw _ (List.mem_of_getElem? (i := 27) rfl))) (ty := .byte) (by decide)
    have F_value_b1 : Fld Z h1 b1 "java/lang/String" "value" "[B" .null := D1 (Or.inr (hw _ (List.mem_of_getElem? (i := 29) rfl))) (ty := (.array .byte)) (by decide)
    refine Runs.by st1 ?_
    show Runs p e below _ (T1.setTop (mkF m 37 #[.val (.int p0), .val (.int p1), .val (.int p2), .val (.int p3), .val (.int p4), .val (.int p5), .val (.int ((p0 &&& (255 : Int32)).toUInt32.toUInt16.toUInt32.toInt32)), .val (.int ((p1 &&& (255 : Int32)).toUInt32.toUInt16.toUInt32.toInt32)), .val (.int ((p2 &&& (255 : Int32)).toUInt32.toUInt16.toUInt32.toInt32)), .val (.int (0 : Int32)), .unset, .unset, .unset, .unset, .unset, .unset] [(.ref b1)]))
    refine Runs.by (fun _ hr => XS.dup X1.here hx rfl (hb hby at_37) rfl rfl hr) ?_
    show Runs p e below _ (T1.setTop (mkF m 38 #[.val (.int p0), .val (.int p1), .val (.int p2), .val (.int p3), .val (.int p4), .val (.int p5), .val (.int ((p0 &&& (255 : Int32)).toUInt32.toUInt16.toUInt32.toInt32)), .val (.int ((p1 &&& (255 : Int32)).toUInt32.toUInt16.toUInt32.toInt32)), .val (.int ((p2 &&& (255 : Int32)).toUInt32.toUInt16.toUInt32.toInt32)), .val (.int (0 : Int32)), .unset, .unset, .unset, .unset, .unset, .unset] [(.ref b1), (.ref b1)]))
    refine Runs.by (fun _ hr => XS.iconst X1.here hx rfl (hb hby at_38) hr) ?_
    show Runs p e below _ (T1.setTop (mkF m 39 #[.val (.int p0), .val (.int p1), .val (.int p2), .val (.int p3), .val (.int p4), .val (.int p5), .val (.int ((p0 &&& (255 : Int32)).toUInt32.toUInt16.toUInt32.toInt32)), .val (.int ((p1 &&& (255 : Int32)).toUInt32.toUInt16.toUInt32.toInt32)), .val (.int ((p2 &&& (255 : Int32)).toUInt32.toUInt16.toUInt32.toInt32)), .val (.int (0 : Int32)), .unset, .unset, .unset, .unset, .unset, .unset] [(.int (0 : Int32)), (.ref b1), (.ref b1)]))
    obtain ⟨T3, h3, k3, X3, e3, E3, A3, st3⟩ := newP X1 hx hZ (hw _ (List.mem_of_getElem? (i := 3) rfl)) e1 (g := (mkF m 39 #[.val (.int p0), .val (.int p1), .val (.int p2), .val (.int p3), .val (.int p4), .val (.int p5), .val (.int ((p0 &&& (255 : Int32)).toUInt32.toUInt16.toUInt32.toInt32)), .val (.int ((p1 &&& (255 : Int32)).toUInt32.toUInt16.toUInt32.toInt32)), .val (.int ((p2 &&& (255 : Int32)).toUInt32.toUInt16.toUInt32.toInt32)), .val (.int (0 : Int32)), .unset, .unset, .unset, .unset, .unset, .unset] [(.int (0 : Int32)), (.ref b1), (.ref b1)])) rfl (hb hby at_39) rfl (by decide) (cap := 0) (by decide) (by decide) (by decide) (by decide)
    obtain ⟨b3, gz3⟩ : ∃ z, z = h1.size := ⟨_, rfl⟩
    rw [← gz3] at A3 st3
    have ne_b1_b3 : b1 ≠ b3 := Nat.ne_of_lt (Nat.lt_of_lt_of_le A1.lt (Nat.le_of_eq gz3.symm))
    have Sf_b3 : Safe Z consts_1 s.vm h1 b3 := Safe.new (Nat.le_of_eq gz3.symm)
    have g_b3 : n0 ≤ b3 := Nat.le_trans (Nat.le_trans Z0 K2.1) (Nat.le_of_eq gz3.symm)
    have sz_b3 : h0.size ≤ b3 := Nat.le_trans K2.1 (Nat.le_of_eq gz3.symm)
    have K4 : Keep h0 h3 [] := K2.ext E3
    have O_4 : Old Z n0 h3 := O_2.ext E3
    have Sf_b1__K4 := Safe.ext E3 hC.1 Sf_b1__K2
    have Sf_b3__K4 := Safe.ext E3 hC.1 Sf_b3
    have hk : _ ≤ h3.size := Nat.le_trans hk E3.1
    have hC := hC.trans (CHr.ext E3 hC.1)
    have V3 : Arv Z h3 b3 k3 .char (0 : Int32) [] (.int (0 : Int32)) := Arv.new A3 (by decide)
    refine Runs.by st3 ?_
    show Runs p e below _ (T3.setTop (mkF m 41 #[.val (.int p0), .val (.int p1), .val (.int p2), .val (.int p3), .val (.int p4), .val (.int p5), .val (.int ((p0 &&& (255 : Int32)).toUInt32.toUInt16.toUInt32.toInt32)), .val (.int ((p1 &&& (255 : Int32)).toUInt32.toUInt16.toUInt32.toInt32)), .val (.int ((p2 &&& (255 : Int32)).toUInt32.toUInt16.toUInt32.toInt32)), .val (.int (0 : Int32)), .unset, .unset, .unset, .unset, .unset, .unset] [(.ref b3), (.ref b1), (.ref b1)]))
    obtain ⟨_, _, ⟨T5, L5, k5, n5⟩, -, X5, hSq5, hgq5, ⟨Lc5, hQ5, l5, y5, z5, hr5⟩, st5⟩ := X3.specialBackS hx (y := (⟨"java/lang/String", "<init>", "([C)V"⟩ : MethodName)) rfl hown (mvT hZ (hw _ (List.mem_of_getElem? (i := 4) rfl))) (mvT hZ (hw _ (List.mem_of_getElem? (i := 5) rfl))) (mvT hZ (hw _ (List.mem_of_getElem? (i := 6) rfl))) (by decide) (own_backSH (W := 1) (rmSI l Z a0 hw [] b1 b3 k3 h3 n0 (Nat.le_trans Z0 K4.1) (A1.ext E3) (F_value_b1.ext E3) (F_coder_b1.ext E3) g_b1 V3 hEL) hZ (hw _ (List.mem_of_getElem? (i := 6) rfl)) (hw _ (List.mem_of_getElem? (i := 2) rfl)) (by decide) (by decide) hEL hC.1 (A1.ext E3).lt Sf_b1__K4) (g := (mkF m 41 #[.val (.int p0), .val (.int p1), .val (.int p2), .val (.int p3), .val (.int p4), .val (.int p5), .val (.int ((p0 &&& (255 : Int32)).toUInt32.toUInt16.toUInt32.toInt32)), .val (.int ((p1 &&& (255 : Int32)).toUInt32.toUInt16.toUInt32.toInt32)), .val (.int ((p2 &&& (255 : Int32)).toUInt32.toUInt16.toUInt32.toInt32)), .val (.int (0 : Int32)), .unset, .unset, .unset, .unset, .unset, .unset] [(.ref b3), (.ref b1), (.ref b1)])) rfl (by rw [hml]; rfl) (Steps.refl _) (a := b1) (argsL := [(.ref b3)]) (rest := [(.ref b1)]) (lenOf pd_9 rfl) rfl (by show 2 * 0 + _ ≤ _; exact Nat.le_of_eq rfl) (hb hby at_41) (fun _ _ => ⟨rfl, e3, (by decide : 2 + 4 ≤ _), (by decide : 4 + 8 ≤ _)⟩)
    dsimp only [Pt.U, Pt.locs, Pt.cells, Pt.slots] at X5 l5 y5 z5 st5 hQ5
    subst l5 y5 z5
    dsimp only [Pt.U, Pt.locs, Pt.cells, Pt.slots] at hSq5 hgq5 hr5
    obtain ⟨X5, hS, hZ, hown⟩ := rebS hS (by rw [e3]; exact hk) X5 hSq5 hgq5 hZ hown
    have hk := Nat.le_refl T5.heap.size
    have Sf_b1__C5 := CHr.safe hr5 (A1.ext E3).lt Sf_b1__K4
    have Sf_b3__C5 := CHr.safe hr5 V3.lt Sf_b3__K4
    have hC := hC.trans hr5
    obtain ⟨rfl, Nq5, Kq5, f5_0, f5_1, t5, kt5, net5, f5_2, f5_3⟩ := hQ5
    have N5 := Fr.app N0 Nq5
    have K6 : Keep h0 T5.heap [] := Keep.trans (ws := []) K4 Kq5 (allS (Or.inr sz_b1) all0)
    have O_6 : Old Z n0 T5.heap := O_4.keep Kq5 (allS g_b1 all0)
    refine Runs.by (fun _ hr => st5.trans hr) ?_
    show Runs p e below _ (T5.setTop (mkF m 44 #[.val (.int p0), .val (.int p1), .val (.int p2), .val (.int p3), .val (.int p4), .val (.int p5), .val (.int ((p0 &&& (255 : Int32)).toUInt32.toUInt16.toUInt32.toInt32)), .val (.int ((p1 &&& (255 : Int32)).toUInt32.toUInt16.toUInt32.toInt32)), .val (.int ((p2 &&& (255 : Int32)).toUInt32.toUInt16.toUInt32.toInt32)), .val (.int (0 : Int32)), .unset, .unset, .unset, .unset, .unset, .unset] [(.ref b1)]))
    refine Runs.by (fun _ hr => XS.astore X5.here hx rfl (hb hby at_44) rfl rfl (l' := #[.val (.int p0), .val (.int p1), .val (.int p2), .val (.int p3), .val (.int p4), .val (.int p5), .val (.int ((p0 &&& (255 : Int32)).toUInt32.toUInt16.toUInt32.toInt32)), .val (.int ((p1 &&& (255 : Int32)).toUInt32.toUInt16.toUInt32.toInt32)), .val (.int ((p2 &&& (255 : Int32)).toUInt32.toUInt16.toUInt32.toInt32)), .val (.int (0 : Int32)), .val (.ref b1), .unset, .unset, .unset, .unset, .unset]) rfl hr) ?_
    show Runs p e below _ (T5.setTop (mkF m 46 #[.val (.int p0), .val (.int p1), .val (.int p2), .val (.int p3), .val (.int p4), .val (.int p5), .val (.int ((p0 &&& (255 : Int32)).toUInt32.toUInt16.toUInt32.toInt32)), .val (.int ((p1 &&& (255 : Int32)).toUInt32.toUInt16.toUInt32.toInt32)), .val (.int ((p2 &&& (255 : Int32)).toUInt32.toUInt16.toUInt32.toInt32)), .val (.int (0 : Int32)), .val (.ref b1), .unset, .unset, .unset, .unset, .unset] []))
    refine Runs.by (fun _ hr => XS.goto X5.here hx rfl (pc0 := 46) (pc' := 133) rfl (hb hby at_46) (by decide) (by decide) hr) ?_
    show Runs p e below _ (T5.setTop (mkF m 133 #[.val (.int p0), .val (.int p1), .val (.int p2), .val (.int p3), .val (.int p4), .val (.int p5), .val (.int ((p0 &&& (255 : Int32)).toUInt32.toUInt16.toUInt32.toInt32)), .val (.int ((p1 &&& (255 : Int32)).toUInt32.toUInt16.toUInt32.toInt32)), .val (.int ((p2 &&& (255 : Int32)).toUInt32.toUInt16.toUInt32.toInt32)), .val (.int (0 : Int32)), .val (.ref b1), .unset, .unset, .unset, .unset, .unset] []))
    obtain ⟨T7, h7, X7, e7, E7, A7, D7, -, st7⟩ := newO X5 hx hZ hown (hw _ (List.mem_of_getElem? (i := 30) rfl)) (hw _ (List.mem_of_getElem? (i := 31) rfl)) (hw _ (List.mem_of_getElem? (i := 32) rfl)) rfl (g := (mkF m 133 #[.val (.int p0), .val (.int p1), .val (.int p2), .val (.int p3), .val (.int p4), .val (.int p5), .val (.int ((p0 &&& (255 : Int32)).toUInt32.toUInt16.toUInt32.toInt32)), .val (.int ((p1 &&& (255 : Int32)).toUInt32.toUInt16.toUInt32.toInt32)), .val (.int ((p2 &&& (255 : Int32)).toUInt32.toUInt16.toUInt32.toInt32)), .val (.int (0 : Int32)), .val (.ref b1), .unset, .unset, .unset, .unset, .unset] [])) rfl (hb hby at_133) (by decide) (by decide)
    obtain ⟨b7, gz7⟩ : ∃ z, z = T5.heap.size := ⟨_, rfl⟩
    rw [← gz7] at A7 D7 st7
    have ne_b1_b7 : b1 ≠ b7 := Nat.ne_of_lt (Nat.lt_of_lt_of_le f5_0.lt (Nat.le_of_eq gz7.symm))
    have ne_b3_b7 : b3 ≠ b7 := Nat.ne_of_lt (Nat.lt_of_lt_of_le (V3.keep Kq5 (ninS (Ne.symm ne_b1_b3) nin0)).lt (Nat.le_of_eq gz7.symm))
    have ne_t5_b7 : t5 ≠ b7 := Nat.ne_of_lt (Nat.lt_of_lt_of_le f5_3.lt (Nat.le_of_eq gz7.symm))
    have Sf_b7 : Safe Z consts_1 T5.vm T5.heap b7 := Safe.new (Nat.le_of_eq gz7.symm)
    have g_b7 : n0 ≤ b7 := Nat.le_trans (Nat.le_trans Z0 K6.1) (Nat.le_of_eq gz7.symm)
    have sz_b7 : h0.size ≤ b7 := Nat.le_trans K6.1 (Nat.le_of_eq gz7.symm)
    have K8 : Keep h0 h7 [] := K6.ext E7
    have O_8 : Old Z n0 h7 := O_6.ext E7
    have Sf_b1__K8 := Safe.ext E7 hC.1 Sf_b1__C5
    have Sf_b3__K8 := Safe.ext E7 hC.1 Sf_b3__C5
    have Sf_b7__K8 := Safe.ext E7 hC.1 Sf_b7
    have hk : _ ≤ h7.size := Nat.le_trans hk E7.1
    have hC := hC.trans (CHr.ext E7 hC.1)
    have F_firstBytes_b7 : Fld Z h7 b7 "com/example/vedette/vedette/io/Utf8Buffer$Stops" "firstBytes" "[Z" .null := D7 (Or.inr (hw _ (List.mem_of_getElem? (i := 39) rfl))) (ty := (.array .boolean)) (by decide)
    have F_chars_b7 : Fld Z h7 b7 "com/example/vedette/vedette/io/Utf8Buffer$Stops" "chars" "[Z" .null := D7 (Or.inr (hw _ (List.mem_of_getElem? (i := 77) rfl))) (ty := (.array .boolean)) (by decide)
    refine Runs.by st7 ?_
    show Runs p e below _ (T7.setTop (mkF m 136 #[.val (.int p0), .val (.int p1), .val (.int p2), .val (.int p3), .val (.int p4), .val (.int p5), .val (.int ((p0 &&& (255 : Int32)).toUInt32.toUInt16.toUInt32.toInt32)), .val (.int ((p1 &&& (255 : Int32)).toUInt32.toUInt16.toUInt32.toInt32)), .val (.int ((p2 &&& (255 : Int32)).toUInt32.toUInt16.toUInt32.toInt32)), .val (.int (0 : Int32)), .val (.ref b1), .unset, .unset, .unset, .unset, .unset] [(.ref b7)]))
    refine Runs.by (fun _ hr => XS.dup X7.here hx rfl (hb hby at_136) rfl rfl hr) ?_
    show Runs p e below _ (T7.setTop (mkF m 137 #[.val (.int p0), .val (.int p1), .val (.int p2), .val (.int p3), .val (.int p4), .val (.int p5), .val (.int ((p0 &&& (255 : Int32)).toUInt32.toUInt16.toUInt32.toInt32)), .val (.int ((p1 &&& (255 : Int32)).toUInt32.toUInt16.toUInt32.toInt32)), .val (.int ((p2 &&& (255 : Int32)).toUInt32.toUInt16.toUInt32.toInt32)), .val (.int (0 : Int32)), .val (.ref b1), .unset, .unset, .unset, .unset, .unset] [(.ref b7), (.ref b7)]))
    refine Runs.by (fun _ hr => XS.aload X7.here hx rfl (hb hby at_137) rfl rfl hr) ?_
    show Runs p e below _ (T7.setTop (mkF m 139 #[.val (.int p0), .val (.int p1), .val (.int p2), .val (.int p3), .val (.int p4), .val (.int p5), .val (.int ((p0 &&& (255 : Int32)).toUInt32.toUInt16.toUInt32.toInt32)), .val (.int ((p1 &&& (255 : Int32)).toUInt32.toUInt16.toUInt32.toInt32)), .val (.int ((p2 &&& (255 : Int32)).toUInt32.toUInt16.toUInt32.toInt32)), .val (.int (0 : Int32)), .val (.ref b1), .unset, .unset, .unset, .unset, .unset] [(.ref b1), (.ref b7), (.ref b7)]))
    obtain ⟨_, _, ⟨T9, L9, k9, n9⟩, -, X9, ⟨Lc9, hQ9, l9, y9, z9⟩, st9⟩ := X7.specialBack hx (y := (⟨"com/example/vedette/vedette/io/Utf8Buffer$Stops", "<init>", "(Ljava/lang/String;)V"⟩ : MethodName)) rfl hown (mvT hZ (hw _ (List.mem_of_getElem? (i := 33) rfl))) (mvT hZ (hw _ (List.mem_of_getElem? (i := 34) rfl))) (mvT hZ (hw _ (List.mem_of_getElem? (i := 35) rfl))) (by decide) (backOf (W := 1) (rm7_0 l Z a0 hw [] b7 b1 gC vG t5 kt5  h7 n0 (Nat.le_trans Z0 K8.1) A7 F_firstBytes_b7 F_chars_b7 g_b7 (f5_0.ext E7) SC cC hvG SG (f5_1.ext E7) (f5_2.ext E7) (f5_3.ext E7) ne_b1_b7 ne_t5_b7  O_8) hZ (hw _ (List.mem_of_getElem? (i := 35) rfl)) (hw _ (List.mem_of_getElem? (i := 32) rfl)) (by decide) (by decide)) (g := (mkF m 139 #[.val (.int p0), .val (.int p1), .val (.int p2), .val (.int p3), .val (.int p4), .val (.int p5), .val (.int ((p0 &&& (255 : Int32)).toUInt32.toUInt16.toUInt32.toInt32)), .val (.int ((p1 &&& (255 : Int32)).toUInt32.toUInt16.toUInt32.toInt32)), .val (.int ((p2 &&& (255 : Int32)).toUInt32.toUInt16.toUInt32.toInt32)), .val (.int (0 : Int32)), .val (.ref b1), .unset, .unset, .unset, .unset, .unset] [(.ref b1), (.ref b7), (.ref b7)])) rfl (by rw [hml]; rfl) (Steps.refl _) (a := b7) (argsL := [(.ref b1)]) (rest := [(.ref b7)]) (lenOf pd_10 rfl) rfl (by show 2 * 0 + _ ≤ _; exact Nat.le_of_eq rfl) (hb hby at_139) (fun _ _ => ⟨rfl, e7, (by decide : 7 + 2 ≤ _), (by decide : 14 + 512 ≤ _)⟩)
    dsimp only [Pt.U, Pt.locs, Pt.cells, Pt.slots] at X9 l9 y9 z9 st9 hQ9
    subst l9 y9 z9
    obtain ⟨rfl, Nq9, Kq9, f9_0, t9, kt9, z9, wf9, f9_1, f9_2, hs9⟩ := hQ9
    have N9 := Fr.app N5 Nq9
    have K10 : Keep h0 T9.heap [] := Keep.trans (ws := []) K8 Kq9 (allS (Or.inr sz_b7) all0)
    have O_10 : Old Z n0 T9.heap := O_8.keep Kq9 (allS g_b7 all0)
    have Sf_b1__K10 := Safe.keep Kq9 (allS Sf_b7__K8 all0) hC.1 Sf_b1__K8
    have Sf_b3__K10 := Safe.keep Kq9 (allS Sf_b7__K8 all0) hC.1 Sf_b3__K8
    have Sf_b7__K10 := Safe.keep Kq9 (allS Sf_b7__K8 all0) hC.1 Sf_b7__K8
    have hk : _ ≤ T9.heap.size := Nat.le_trans hk Kq9.1
    have hC := hC.trans (CHr.keep Kq9 (allS Sf_b7__K8 all0) hC.1)
    refine Runs.by (fun _ hr => st9.trans hr) ?_
    show Runs p e below _ (T9.setTop (mkF m 142 #[.val (.int p0), .val (.int p1), .val (.int p2), .val (.int p3), .val (.int p4), .val (.int p5), .val (.int ((p0 &&& (255 : Int32)).toUInt32.toUInt16.toUInt32.toInt32)), .val (.int ((p1 &&& (255 : Int32)).toUInt32.toUInt16.toUInt32.toInt32)), .val (.int ((p2 &&& (255 : Int32)).toUInt32.toUInt16.toUInt32.toInt32)), .val (.int (0 : Int32)), .val (.ref b1), .unset, .unset, .unset, .unset, .unset] [(.ref b7)]))
    refine Runs.by (fun _ hr => XS.astore X9.here hx rfl (hb hby at_142) rfl rfl (l' := #[.val (.int p0), .val (.int p1), .val (.int p2), .val (.int p3), .val (.int p4), .val (.int p5), .val (.int ((p0 &&& (255 : Int32)).toUInt32.toUInt16.toUInt32.toInt32)), .val (.int ((p1 &&& (255 : Int32)).toUInt32.toUInt16.toUInt32.toInt32)), .val (.int ((p2 &&& (255 : Int32)).toUInt32.toUInt16.toUInt32.toInt32)), .val (.int (0 : Int32)), .val (.ref b1), .val (.ref b7), .unset, .unset, .unset, .unset]) rfl hr) ?_
    show Runs p e below _ (T9.setTop (mkF m 144 #[.val (.int p0), .val (.int p1), .val (.int p2), .val (.int p3), .val (.int p4), .val (.int p5), .val (.int ((p0 &&& (255 : Int32)).toUInt32.toUInt16.toUInt32.toInt32)), .val (.int ((p1 &&& (255 : Int32)).toUInt32.toUInt16.toUInt32.toInt32)), .val (.int ((p2 &&& (255 : Int32)).toUInt32.toUInt16.toUInt32.toInt32)), .val (.int (0 : Int32)), .val (.ref b1), .val (.ref b7), .unset, .unset, .unset, .unset] []))
    refine Runs.by (fun _ hr => XS.iload X9.here hx rfl (hb hby at_144) rfl  hr) ?_
    show Runs p e below _ (T9.setTop (mkF m 146 #[.val (.int p0), .val (.int p1), .val (.int p2), .val (.int p3), .val (.int p4), .val (.int p5), .val (.int ((p0 &&& (255 : Int32)).toUInt32.toUInt16.toUInt32.toInt32)), .val (.int ((p1 &&& (255 : Int32)).toUInt32.toUInt16.toUInt32.toInt32)), .val (.int ((p2 &&& (255 : Int32)).toUInt32.toUInt16.toUInt32.toInt32)), .val (.int (0 : Int32)), .val (.ref b1), .val (.ref b7), .unset, .unset, .unset, .unset] [(.int p5)]))
    refine Runs.by (fun _ hr => XS.iconst X9.here hx rfl (hb hby at_146) hr) ?_
    show Runs p e below _ (T9.setTop (mkF m 147 #[.val (.int p0), .val (.int p1), .val (.int p2), .val (.int p3), .val (.int p4), .val (.int p5), .val (.int ((p0 &&& (255 : Int32)).toUInt32.toUInt16.toUInt32.toInt32)), .val (.int ((p1 &&& (255 : Int32)).toUInt32.toUInt16.toUInt32.toInt32)), .val (.int ((p2 &&& (255 : Int32)).toUInt32.toUInt16.toUInt32.toInt32)), .val (.int (0 : Int32)), .val (.ref b1), .val (.ref b7), .unset, .unset, .unset, .unset] [(.int (3 : Int32)), (.int p5)]))
    refine Runs.by (fun _ hr => XS.iand X9.here hx rfl (hb hby at_147) rfl hr) ?_
    show Runs p e below _ (T9.setTop (mkF m 148 #[.val (.int p0), .val (.int p1), .val (.int p2), .val (.int p3), .val (.int p4), .val (.int p5), .val (.int ((p0 &&& (255 : Int32)).toUInt32.toUInt16.toUInt32.toInt32)), .val (.int ((p1 &&& (255 : Int32)).toUInt32.toUInt16.toUInt32.toInt32)), .val (.int ((p2 &&& (255 : Int32)).toUInt32.toUInt16.toUInt32.toInt32)), .val (.int (0 : Int32)), .val (.ref b1), .val (.ref b7), .unset, .unset, .unset, .unset] [(.int (p5 &&& (3 : Int32)))]))
    refine Runs.by (fun _ hr => XS.istore X9.here hx rfl (hb hby at_148) rfl (l' := #[.val (.int p0), .val (.int p1), .val (.int p2), .val (.int p3), .val (.int p4), .val (.int p5), .val (.int ((p0 &&& (255 : Int32)).toUInt32.toUInt16.toUInt32.toInt32)), .val (.int ((p1 &&& (255 : Int32)).toUInt32.toUInt16.toUInt32.toInt32)), .val (.int ((p2 &&& (255 : Int32)).toUInt32.toUInt16.toUInt32.toInt32)), .val (.int (0 : Int32)), .val (.ref b1), .val (.ref b7), .val (.int (p5 &&& (3 : Int32))), .unset, .unset, .unset]) rfl hr) ?_
    show Runs p e below _ (T9.setTop (mkF m 150 #[.val (.int p0), .val (.int p1), .val (.int p2), .val (.int p3), .val (.int p4), .val (.int p5), .val (.int ((p0 &&& (255 : Int32)).toUInt32.toUInt16.toUInt32.toInt32)), .val (.int ((p1 &&& (255 : Int32)).toUInt32.toUInt16.toUInt32.toInt32)), .val (.int ((p2 &&& (255 : Int32)).toUInt32.toUInt16.toUInt32.toInt32)), .val (.int (0 : Int32)), .val (.ref b1), .val (.ref b7), .val (.int (p5 &&& (3 : Int32))), .unset, .unset, .unset] []))
    refine Runs.by (fun _ hr => XS.iload X9.here hx rfl (hb hby at_150) rfl  hr) ?_
    show Runs p e below _ (T9.setTop (mkF m 152 #[.val (.int p0), .val (.int p1), .val (.int p2), .val (.int p3), .val (.int p4), .val (.int p5), .val (.int ((p0 &&& (255 : Int32)).toUInt32.toUInt16.toUInt32.toInt32)), .val (.int ((p1 &&& (255 : Int32)).toUInt32.toUInt16.toUInt32.toInt32)), .val (.int ((p2 &&& (255 : Int32)).toUInt32.toUInt16.toUInt32.toInt32)), .val (.int (0 : Int32)), .val (.ref b1), .val (.ref b7), .val (.int (p5 &&& (3 : Int32))), .unset, .unset, .unset] [(.int p5)]))
    refine Runs.by (fun _ hr => XS.iconst X9.here hx rfl (hb hby at_152) hr) ?_
    show Runs p e below _ (T9.setTop (mkF m 153 #[.val (.int p0), .val (.int p1), .val (.int p2), .val (.int p3), .val (.int p4), .val (.int p5), .val (.int ((p0 &&& (255 : Int32)).toUInt32.toUInt16.toUInt32.toInt32)), .val (.int ((p1 &&& (255 : Int32)).toUInt32.toUInt16.toUInt32.toInt32)), .val (.int ((p2 &&& (255 : Int32)).toUInt32.toUInt16.toUInt32.toInt32)), .val (.int (0 : Int32)), .val (.ref b1), .val (.ref b7), .val (.int (p5 &&& (3 : Int32))), .unset, .unset, .unset] [(.int (2 : Int32)), (.int p5)]))
    refine Runs.by (fun _ hr => XS.iushr X9.here hx rfl (hb hby at_153) rfl hr) ?_
    show Runs p e below _ (T9.setTop (mkF m 154 #[.val (.int p0), .val (.int p1), .val (.int p2), .val (.int p3), .val (.int p4), .val (.int p5), .val (.int ((p0 &&& (255 : Int32)).toUInt32.toUInt16.toUInt32.toInt32)), .val (.int ((p1 &&& (255 : Int32)).toUInt32.toUInt16.toUInt32.toInt32)), .val (.int ((p2 &&& (255 : Int32)).toUInt32.toUInt16.toUInt32.toInt32)), .val (.int (0 : Int32)), .val (.ref b1), .val (.ref b7), .val (.int (p5 &&& (3 : Int32))), .unset, .unset, .unset] [(.int ((p5.toUInt32 >>> ((2 : Int32) &&& 31).toUInt32).toInt32))]))
    refine Runs.by (fun _ hr => XS.iconst X9.here hx rfl (hb hby at_154) hr) ?_
    show Runs p e below _ (T9.setTop (mkF m 155 #[.val (.int p0), .val (.int p1), .val (.int p2), .val (.int p3), .val (.int p4), .val (.int p5), .val (.int ((p0 &&& (255 : Int32)).toUInt32.toUInt16.toUInt32.toInt32)), .val (.int ((p1 &&& (255 : Int32)).toUInt32.toUInt16.toUInt32.toInt32)), .val (.int ((p2 &&& (255 : Int32)).toUInt32.toUInt16.toUInt32.toInt32)), .val (.int (0 : Int32)), .val (.ref b1), .val (.ref b7), .val (.int (p5 &&& (3 : Int32))), .unset, .unset, .unset] [(.int (3 : Int32)), (.int ((p5.toUInt32 >>> ((2 : Int32) &&& 31).toUInt32).toInt32))]))
    refine Runs.by (fun _ hr => XS.iand X9.here hx rfl (hb hby at_155) rfl hr) ?_
    show Runs p e below _ (T9.setTop (mkF m 156 #[.val (.int p0), .val (.int p1), .val (.int p2), .val (.int p3), .val (.int p4), .val (.int p5), .val (.int ((p0 &&& (255 : Int32)).toUInt32.toUInt16.toUInt32.toInt32)), .val (.int ((p1 &&& (255 : Int32)).toUInt32.toUInt16.toUInt32.toInt32)), .val (.int ((p2 &&& (255 : Int32)).toUInt32.toUInt16.toUInt32.toInt32)), .val (.int (0 : Int32)), .val (.ref b1), .val (.ref b7), .val (.int (p5 &&& (3 : Int32))), .unset, .unset, .unset] [(.int (((p5.toUInt32 >>> ((2 : Int32) &&& 31).toUInt32).toInt32) &&& (3 : Int32)))]))
    refine Runs.by (fun _ hr => XS.iconst X9.here hx rfl (hb hby at_156) hr) ?_
    show Runs p e below _ (T9.setTop (mkF m 157 #[.val (.int p0), .val (.int p1), .val (.int p2), .val (.int p3), .val (.int p4), .val (.int p5), .val (.int ((p0 &&& (255 : Int32)).toUInt32.toUInt16.toUInt32.toInt32)), .val (.int ((p1 &&& (255 : Int32)).toUInt32.toUInt16.toUInt32.toInt32)), .val (.int ((p2 &&& (255 : Int32)).toUInt32.toUInt16.toUInt32.toInt32)), .val (.int (0 : Int32)), .val (.ref b1), .val (.ref b7), .val (.int (p5 &&& (3 : Int32))), .unset, .unset, .unset] [(.int (1 : Int32)), (.int (((p5.toUInt32 >>> ((2 : Int32) &&& 31).toUInt32).toInt32) &&& (3 : Int32)))]))
    refine Runs.by (fun _ hr => XS.isub X9.here hx rfl (hb hby at_157) rfl hr) ?_
    show Runs p e below _ (T9.setTop (mkF m 158 #[.val (.int p0), .val (.int p1), .val (.int p2), .val (.int p3), .val (.int p4), .val (.int p5), .val (.int ((p0 &&& (255 : Int32)).toUInt32.toUInt16.toUInt32.toInt32)), .val (.int ((p1 &&& (255 : Int32)).toUInt32.toUInt16.toUInt32.toInt32)), .val (.int ((p2 &&& (255 : Int32)).toUInt32.toUInt16.toUInt32.toInt32)), .val (.int (0 : Int32)), .val (.ref b1), .val (.ref b7), .val (.int (p5 &&& (3 : Int32))), .unset, .unset, .unset] [(.int ((((p5.toUInt32 >>> ((2 : Int32) &&& 31).toUInt32).toInt32) &&& (3 : Int32)) - (1 : Int32)))]))
    refine Runs.by (fun _ hr => XS.istore X9.here hx rfl (hb hby at_158) rfl (l' := #[.val (.int p0), .val (.int p1), .val (.int p2), .val (.int p3), .val (.int p4), .val (.int p5), .val (.int ((p0 &&& (255 : Int32)).toUInt32.toUInt16.toUInt32.toInt32)), .val (.int ((p1 &&& (255 : Int32)).toUInt32.toUInt16.toUInt32.toInt32)), .val (.int ((p2 &&& (255 : Int32)).toUInt32.toUInt16.toUInt32.toInt32)), .val (.int (0 : Int32)), .val (.ref b1), .val (.ref b7), .val (.int (p5 &&& (3 : Int32))), .val (.int ((((p5.toUInt32 >>> ((2 : Int32) &&& 31).toUInt32).toInt32) &&& (3 : Int32)) - (1 : Int32))), .unset, .unset]) rfl hr) ?_
    have JL11 : ∀ (cc : Int32) (TJ12 : State) (lJ12 : List Loc) (XJ12 : Stand p l e room_1 (s.setVm T5.vm) m #[(.int p0), (.int p1), (.int p2), (.int p3), (.int p4), (.int p5)] below meth c TJ12 lJ12 9 526) (eJ12 : TJ12.heap = T9.heap) (NJ12 : Fr n0 lJ12) (hcc : ¬ cc < 0), Runs p e below (QEW Z consts_1 s (Q_rm0 Z p0 p1 p2 p3 p4 p5 gC vG h0 n0) room_1.cells room_1.slots) (TJ12.setTop (mkF m 226 #[.val (.int p0), .val (.int p1), .val (.int p2), .val (.int p3), .val (.int p4), .val (.int p5), .val (.int ((p0 &&& (255 : Int32)).toUInt32.toUInt16.toUInt32.toInt32)), .val (.int ((p1 &&& (255 : Int32)).toUInt32.toUInt16.toUInt32.toInt32)), .val (.int ((p2 &&& (255 : Int32)).toUInt32.toUInt16.toUInt32.toInt32)), .val (.int (0 : Int32)), .val (.ref b1), .val (.ref b7), .val (.int (p5 &&& (3 : Int32))), .val (.int ((((p5.toUInt32 >>> ((2 : Int32) &&& 31).toUInt32).toInt32) &&& (3 : Int32)) - (1 : Int32))), .val (.int cc), .unset] [])) := by
      intro cc TJ12 lJ12 XJ12 eJ12 NJ12 hcc
      show Runs p e below _ (TJ12.setTop (mkF m 226 #[.val (.int p0), .val (.int p1), .val (.int p2), .val (.int p3), .val (.int p4), .val (.int p5), .val (.int ((p0 &&& (255 : Int32)).toUInt32.toUInt16.toUInt32.toInt32)), .val (.int ((p1 &&& (255 : Int32)).toUInt32.toUInt16.toUInt32.toInt32)), .val (.int ((p2 &&& (255 : Int32)).toUInt32.toUInt16.toUInt32.toInt32)), .val (.int (0 : Int32)), .val (.ref b1), .val (.ref b7), .val (.int (p5 &&& (3 : Int32))), .val (.int ((((p5.toUInt32 >>> ((2 : Int32) &&& 31).toUInt32).toInt32) &&& (3 : Int32)) - (1 : Int32))), .val (.int cc), .unset] []))
      refine Runs.by (fun _ hr => XS.iload XJ12.here hx rfl (hb hby at_226) rfl  hr) ?_
      show Runs p e below _ (TJ12.setTop (mkF m 228 #[.val (.int p0), .val (.int p1), .val (.int p2), .val (.int p3), .val (.int p4), .val (.int p5), .val (.int ((p0 &&& (255 : Int32)).toUInt32.toUInt16.toUInt32.toInt32)), .val (.int ((p1 &&& (255 : Int32)).toUInt32.toUInt16.toUInt32.toInt32)), .val (.int ((p2 &&& (255 : Int32)).toUInt32.toUInt16.toUInt32.toInt32)), .val (.int (0 : Int32)), .val (.ref b1), .val (.ref b7), .val (.int (p5 &&& (3 : Int32))), .val (.int ((((p5.toUInt32 >>> ((2 : Int32) &&& 31).toUInt32).toInt32) &&& (3 : Int32)) - (1 : Int32))), .val (.int cc), .unset] [(.int (0 : Int32))]))
      refine Runs.by (fun _ hr => XS.iconst XJ12.here hx rfl (hb hby at_228) hr) ?_
      show Runs p e below _ (TJ12.setTop (mkF m 229 #[.val (.int p0), .val (.int p1), .val (.int p2), .val (.int p3), .val (.int p4), .val (.int p5), .val (.int ((p0 &&& (255 : Int32)).toUInt32.toUInt16.toUInt32.toInt32)), .val (.int ((p1 &&& (255 : Int32)).toUInt32.toUInt16.toUInt32.toInt32)), .val (.int ((p2 &&& (255 : Int32)).toUInt32.toUInt16.toUInt32.toInt32)), .val (.int (0 : Int32)), .val (.ref b1), .val (.ref b7), .val (.int (p5 &&& (3 : Int32))), .val (.int ((((p5.toUInt32 >>> ((2 : Int32) &&& 31).toUInt32).toInt32) &&& (3 : Int32)) - (1 : Int32))), .val (.int cc), .unset] [(.int (1 : Int32)), (.int (0 : Int32))]))
      have hc229 : (0 : Int32) < (1 : Int32) := (by decide)
      refine Runs.by (fun _ hr => XS.icmpYes XJ12.here hx rfl (pc0 := 229) (pc' := 239) rfl (hb hby at_229) rfl (tlt hc229).1 (by decide) (by decide) hr) ?_
      show Runs p e below _ (TJ12.setTop (mkF m 239 #[.val (.int p0), .val (.int p1), .val (.int p2), .val (.int p3), .val (.int p4), .val (.int p5), .val (.int ((p0 &&& (255 : Int32)).toUInt32.toUInt16.toUInt32.toInt32)), .val (.int ((p1 &&& (255 : Int32)).toUInt32.toUInt16.toUInt32.toInt32)), .val (.int ((p2 &&& (255 : Int32)).toUInt32.toUInt16.toUInt32.toInt32)), .val (.int (0 : Int32)), .val (.ref b1), .val (.ref b7), .val (.int (p5 &&& (3 : Int32))), .val (.int ((((p5.toUInt32 >>> ((2 : Int32) &&& 31).toUInt32).toInt32) &&& (3 : Int32)) - (1 : Int32))), .val (.int cc), .unset] []))
      refine Runs.by (fun _ hr => XS.iload XJ12.here hx rfl (hb hby at_239) rfl  hr) ?_
      show Runs p e below _ (TJ12.setTop (mkF m 241 #[.val (.int p0), .val (.int p1), .val (.int p2), .val (.int p3), .val (.int p4), .val (.int p5), .val (.int ((p0 &&& (255 : Int32)).toUInt32.toUInt16.toUInt32.toInt32)), .val (.int ((p1 &&& (255 : Int32)).toUInt32.toUInt16.toUInt32.toInt32)), .val (.int ((p2 &&& (255 : Int32)).toUInt32.toUInt16.toUInt32.toInt32)), .val (.int (0 : Int32)), .val (.ref b1), .val (.ref b7), .val (.int (p5 &&& (3 : Int32))), .val (.int ((((p5.toUInt32 >>> ((2 : Int32) &&& 31).toUInt32).toInt32) &&& (3 : Int32)) - (1 : Int32))), .val (.int cc), .unset] [(.int (0 : Int32))]))
      refine Runs.by (fun _ hr => XS.iconst XJ12.here hx rfl (hb hby at_241) hr) ?_
      show Runs p e below _ (TJ12.setTop (mkF m 242 #[.val (.int p0), .val (.int p1), .val (.int p2), .val (.int p3), .val (.int p4), .val (.int p5), .val (.int ((p0 &&& (255 : Int32)).toUInt32.toUInt16.toUInt32.toInt32)), .val (.int ((p1 &&& (255 : Int32)).toUInt32.toUInt16.toUInt32.toInt32)), .val (.int ((p2 &&& (255 : Int32)).toUInt32.toUInt16.toUInt32.toInt32)), .val (.int (0 : Int32)), .val (.ref b1), .val (.ref b7), .val (.int (p5 &&& (3 : Int32))), .val (.int ((((p5.toUInt32 >>> ((2 : Int32) &&& 31).toUInt32).toInt32) &&& (3 : Int32)) - (1 : Int32))), .val (.int cc), .unset] [(.int (2 : Int32)), (.int (0 : Int32))]))
      have hc242 : (0 : Int32) < (2 : Int32) := (by decide)
      refine Runs.by (fun _ hr => XS.icmpYes XJ12.here hx rfl (pc0 := 242) (pc' := 252) rfl (hb hby at_242) rfl (tlt hc242).1 (by decide) (by decide) hr) ?_
      show Runs p e below _ (TJ12.setTop (mkF m 252 #[.val (.int p0), .val (.int p1), .val (.int p2), .val (.int p3), .val (.int p4), .val (.int p5), .val (.int ((p0 &&& (255 : Int32)).toUInt32.toUInt16.toUInt32.toInt32)), .val (.int ((p1 &&& (255 : Int32)).toUInt32.toUInt16.toUInt32.toInt32)), .val (.int ((p2 &&& (255 : Int32)).toUInt32.toUInt16.toUInt32.toInt32)), .val (.int (0 : Int32)), .val (.ref b1), .val (.ref b7), .val (.int (p5 &&& (3 : Int32))), .val (.int ((((p5.toUInt32 >>> ((2 : Int32) &&& 31).toUInt32).toInt32) &&& (3 : Int32)) - (1 : Int32))), .val (.int cc), .unset] []))
      refine Runs.by (fun _ hr => XS.iload XJ12.here hx rfl (hb hby at_252) rfl  hr) ?_
      show Runs p e below _ (TJ12.setTop (mkF m 254 #[.val (.int p0), .val (.int p1), .val (.int p2), .val (.int p3), .val (.int p4), .val (.int p5), .val (.int ((p0 &&& (255 : Int32)).toUInt32.toUInt16.toUInt32.toInt32)), .val (.int ((p1 &&& (255 : Int32)).toUInt32.toUInt16.toUInt32.toInt32)), .val (.int ((p2 &&& (255 : Int32)).toUInt32.toUInt16.toUInt32.toInt32)), .val (.int (0 : Int32)), .val (.ref b1), .val (.ref b7), .val (.int (p5 &&& (3 : Int32))), .val (.int ((((p5.toUInt32 >>> ((2 : Int32) &&& 31).toUInt32).toInt32) &&& (3 : Int32)) - (1 : Int32))), .val (.int cc), .unset] [(.int (0 : Int32))]))
      refine Runs.by (fun _ hr => XS.iconst XJ12.here hx rfl (hb hby at_254) hr) ?_
      show Runs p e below _ (TJ12.setTop (mkF m 255 #[.val (.int p0), .val (.int p1), .val (.int p2), .val (.int p3), .val (.int p4), .val (.int p5), .val (.int ((p0 &&& (255 : Int32)).toUInt32.toUInt16.toUInt32.toInt32)), .val (.int ((p1 &&& (255 : Int32)).toUInt32.toUInt16.toUInt32.toInt32)), .val (.int ((p2 &&& (255 : Int32)).toUInt32.toUInt16.toUInt32.toInt32)), .val (.int (0 : Int32)), .val (.ref b1), .val (.ref b7), .val (.int (p5 &&& (3 : Int32))), .val (.int ((((p5.toUInt32 >>> ((2 : Int32) &&& 31).toUInt32).toInt32) &&& (3 : Int32)) - (1 : Int32))), .val (.int cc), .unset] [(.int (3 : Int32)), (.int (0 : Int32))]))
      have hc255 : (0 : Int32) < (3 : Int32) := (by decide)
      refine Runs.by (fun _ hr => XS.icmpYes XJ12.here hx rfl (pc0 := 255) (pc' := 269) rfl (hb hby at_255) rfl (tlt hc255).1 (by decide) (by decide) hr) ?_
      show Runs p e below _ (TJ12.setTop (mkF m 269 #[.val (.int p0), .val (.int p1), .val (.int p2), .val (.int p3), .val (.int p4), .val (.int p5), .val (.int ((p0 &&& (255 : Int32)).toUInt32.toUInt16.toUInt32.toInt32)), .val (.int ((p1 &&& (255 : Int32)).toUInt32.toUInt16.toUInt32.toInt32)), .val (.int ((p2 &&& (255 : Int32)).toUInt32.toUInt16.toUInt32.toInt32)), .val (.int (0 : Int32)), .val (.ref b1), .val (.ref b7), .val (.int (p5 &&& (3 : Int32))), .val (.int ((((p5.toUInt32 >>> ((2 : Int32) &&& 31).toUInt32).toInt32) &&& (3 : Int32)) - (1 : Int32))), .val (.int cc), .unset] []))
      refine Runs.by (fun _ hr => XS.iconst XJ12.here hx rfl (hb hby at_269) hr) ?_
      show Runs p e below _ (TJ12.setTop (mkF m 270 #[.val (.int p0), .val (.int p1), .val (.int p2), .val (.int p3), .val (.int p4), .val (.int p5), .val (.int ((p0 &&& (255 : Int32)).toUInt32.toUInt16.toUInt32.toInt32)), .val (.int ((p1 &&& (255 : Int32)).toUInt32.toUInt16.toUInt32.toInt32)), .val (.int ((p2 &&& (255 : Int32)).toUInt32.toUInt16.toUInt32.toInt32)), .val (.int (0 : Int32)), .val (.ref b1), .val (.ref b7), .val (.int (p5 &&& (3 : Int32))), .val (.int ((((p5.toUInt32 >>> ((2 : Int32) &&& 31).toUInt32).toInt32) &&& (3 : Int32)) - (1 : Int32))), .val (.int cc), .unset] [(.int (0 : Int32))]))
      refine Runs.by (fun _ hr => XS.istore XJ12.here hx rfl (hb hby at_270) rfl (l' := #[.val (.int p0), .val (.int p1), .val (.int p2), .val (.int p3), .val (.int p4), .val (.int p5), .val (.int ((p0 &&& (255 : Int32)).toUInt32.toUInt16.toUInt32.toInt32)), .val (.int ((p1 &&& (255 : Int32)).toUInt32.toUInt16.toUInt32.toInt32)), .val (.int ((p2 &&& (255 : Int32)).toUInt32.toUInt16.toUInt32.toInt32)), .val (.int (0 : Int32)), .val (.ref b1), .val (.ref b7), .val (.int (p5 &&& (3 : Int32))), .val (.int ((((p5.toUInt32 >>> ((2 : Int32) &&& 31).toUInt32).toInt32) &&& (3 : Int32)) - (1 : Int32))), .val (.int cc), .val (.int (0 : Int32))]) rfl hr) ?_
      show Runs p e below _ (TJ12.setTop (mkF m 272 #[.val (.int p0), .val (.int p1), .val (.int p2), .val (.int p3), .val (.int p4), .val (.int p5), .val (.int ((p0 &&& (255 : Int32)).toUInt32.toUInt16.toUInt32.toInt32)), .val (.int ((p1 &&& (255 : Int32)).toUInt32.toUInt16.toUInt32.toInt32)), .val (.int ((p2 &&& (255 : Int32)).toUInt32.toUInt16.toUInt32.toInt32)), .val (.int (0 : Int32)), .val (.ref b1), .val (.ref b7), .val (.int (p5 &&& (3 : Int32))), .val (.int ((((p5.toUInt32 >>> ((2 : Int32) &&& 31).toUInt32).toInt32) &&& (3 : Int32)) - (1 : Int32))), .val (.int cc), .val (.int (0 : Int32))] []))
      refine Runs.by (fun _ hr => XS.aload XJ12.here hx rfl (hb hby at_272) rfl rfl hr) ?_
      show Runs p e below _ (TJ12.setTop (mkF m 274 #[.val (.int p0), .val (.int p1), .val (.int p2), .val (.int p3), .val (.int p4), .val (.int p5), .val (.int ((p0 &&& (255 : Int32)).toUInt32.toUInt16.toUInt32.toInt32)), .val (.int ((p1 &&& (255 : Int32)).toUInt32.toUInt16.toUInt32.toInt32)), .val (.int ((p2 &&& (255 : Int32)).toUInt32.toUInt16.toUInt32.toInt32)), .val (.int (0 : Int32)), .val (.ref b1), .val (.ref b7), .val (.int (p5 &&& (3 : Int32))), .val (.int ((((p5.toUInt32 >>> ((2 : Int32) &&& 31).toUInt32).toInt32) &&& (3 : Int32)) - (1 : Int32))), .val (.int cc), .val (.int (0 : Int32))] [(.ref b7)]))
      refine Runs.by (fun _ hr => XS.iload XJ12.here hx rfl (hb hby at_274) rfl  hr) ?_
      show Runs p e below _ (TJ12.setTop (mkF m 276 #[.val (.int p0), .val (.int p1), .val (.int p2), .val (.int p3), .val (.int p4), .val (.int p5), .val (.int ((p0 &&& (255 : Int32)).toUInt32.toUInt16.toUInt32.toInt32)), .val (.int ((p1 &&& (255 : Int32)).toUInt32.toUInt16.toUInt32.toInt32)), .val (.int ((p2 &&& (255 : Int32)).toUInt32.toUInt16.toUInt32.toInt32)), .val (.int (0 : Int32)), .val (.ref b1), .val (.ref b7), .val (.int (p5 &&& (3 : Int32))), .val (.int ((((p5.toUInt32 >>> ((2 : Int32) &&& 31).toUInt32).toInt32) &&& (3 : Int32)) - (1 : Int32))), .val (.int cc), .val (.int (0 : Int32))] [(.int cc), (.ref b7)]))
      obtain ⟨cq13, kq13, q13a, q13b, q13c⟩ := isOf hZ eJ12 f9_0
      obtain ⟨_, _, ⟨T13, L13, k13, n13⟩, -, X13, ⟨Lc13, hQ13, l13, y13, z13⟩, st13⟩ := XJ12.virtualBack hx (y := (⟨"com/example/vedette/vedette/io/Utf8Buffer$Stops", "isStop", "(I)Z"⟩ : MethodName)) (z := (⟨"com/example/vedette/vedette/io/Utf8Buffer$Stops", "isStop", "(I)Z"⟩ : MethodName)) hown (mvT hZ (hw _ (List.mem_of_getElem? (i := 79) rfl))) (mvT hZ (hw _ (List.mem_of_getElem? (i := 80) rfl))) (notFace_of_selects (args := #[]) (mvT hZ (hw _ (List.mem_of_getElem? (i := 82) rfl)))) (mvT hZ (hw _ (List.mem_of_getElem? (i := 82) rfl))) (mvT hZ (hw _ (List.mem_of_getElem? (i := 81) rfl))) (by decide) (backOf (W := 0) (rm16 l Z a0 hw [] b7 cc t9 kt9 z9 wf9 T9.heap n0 (Nat.le_trans Z0 K10.1) f9_1 f9_2 hcc) hZ (hw _ (List.mem_of_getElem? (i := 83) rfl)) (hw _ (List.mem_of_getElem? (i := 32) rfl)) (by decide) (by decide)) q13a q13c (g := (mkF m 276 #[.val (.int p0), .val (.int p1), .val (.int p2), .val (.int p3), .val (.int p4), .val (.int p5), .val (.int ((p0 &&& (255 : Int32)).toUInt32.toUInt16.toUInt32.toInt32)), .val (.int ((p1 &&& (255 : Int32)).toUInt32.toUInt16.toUInt32.toInt32)), .val (.int ((p2 &&& (255 : Int32)).toUInt32.toUInt16.toUInt32.toInt32)), .val (.int (0 : Int32)), .val (.ref b1), .val (.ref b7), .val (.int (p5 &&& (3 : Int32))), .val (.int ((((p5.toUInt32 >>> ((2 : Int32) &&& 31).toUInt32).toInt32) &&& (3 : Int32)) - (1 : Int32))), .val (.int cc), .val (.int (0 : Int32))] [(.int cc), (.ref b7)])) rfl (by rw [hml]; rfl) (Steps.refl _) (argsL := [(.int cc)]) (rest := []) (lenOf pd_11 rfl) rfl (by show 2 * 0 + _ ≤ _; exact Nat.le_of_eq rfl) (hb hby at_276) (fun _ _ => ⟨rfl, eJ12, (by decide : 9 + 0 ≤ _), (by decide : 526 + 0 ≤ _)⟩)
      dsimp only [Pt.U, Pt.locs, Pt.cells, Pt.slots] at X13 l13 y13 z13 st13 hQ13
      subst l13 y13 z13
      obtain ⟨rfl, Nq13, eq13⟩ := hQ13
      have N13 := Fr.app NJ12 Nq13
      refine Runs.by (fun _ hr => st13.trans hr) ?_
      have hv : own_is z9 wf9 cc = (0 : Int32) := (hs9 cc hcc).trans (by rfl)
      rw [hv]
      show Runs p e below _ (T13.setTop (mkF m 279 #[.val (.int p0), .val (.int p1), .val (.int p2), .val (.int p3), .val (.int p4), .val (.int p5), .val (.int ((p0 &&& (255 : Int32)).toUInt32.toUInt16.toUInt32.toInt32)), .val (.int ((p1 &&& (255 : Int32)).toUInt32.toUInt16.toUInt32.toInt32)), .val (.int ((p2 &&& (255 : Int32)).toUInt32.toUInt16.toUInt32.toInt32)), .val (.int (0 : Int32)), .val (.ref b1), .val (.ref b7), .val (.int (p5 &&& (3 : Int32))), .val (.int ((((p5.toUInt32 >>> ((2 : Int32) &&& 31).toUInt32).toInt32) &&& (3 : Int32)) - (1 : Int32))), .val (.int cc), .val (.int (0 : Int32))] [(.int (0 : Int32))]))
      refine Runs.by (fun _ hr => XS.iload X13.here hx rfl (hb hby at_279) rfl  hr) ?_
      show Runs p e below _ (T13.setTop (mkF m 281 #[.val (.int p0), .val (.int p1), .val (.int p2), .val (.int p3), .val (.int p4), .val (.int p5), .val (.int ((p0 &&& (255 : Int32)).toUInt32.toUInt16.toUInt32.toInt32)), .val (.int ((p1 &&& (255 : Int32)).toUInt32.toUInt16.toUInt32.toInt32)), .val (.int ((p2 &&& (255 : Int32)).toUInt32.toUInt16.toUInt32.toInt32)), .val (.int (0 : Int32)), .val (.ref b1), .val (.ref b7), .val (.int (p5 &&& (3 : Int32))), .val (.int ((((p5.toUInt32 >>> ((2 : Int32) &&& 31).toUInt32).toInt32) &&& (3 : Int32)) - (1 : Int32))), .val (.int cc), .val (.int (0 : Int32))] [(.int (0 : Int32)), (.int (0 : Int32))]))
      have hc281 : (0 : Int32) = (0 : Int32) := (by decide)
      refine Runs.by (fun _ hr => XS.icmpNo X13.here hx rfl (hb hby at_281) rfl (teq hc281).2 hr) ?_
      show Runs p e below _ (T13.setTop (mkF m 284 #[.val (.int p0), .val (.int p1), .val (.int p2), .val (.int p3), .val (.int p4), .val (.int p5), .val (.int ((p0 &&& (255 : Int32)).toUInt32.toUInt16.toUInt32.toInt32)), .val (.int ((p1 &&& (255 : Int32)).toUInt32.toUInt16.toUInt32.toInt32)), .val (.int ((p2 &&& (255 : Int32)).toUInt32.toUInt16.toUInt32.toInt32)), .val (.int (0 : Int32)), .val (.ref b1), .val (.ref b7), .val (.int (p5 &&& (3 : Int32))), .val (.int ((((p5.toUInt32 >>> ((2 : Int32) &&& 31).toUInt32).toInt32) &&& (3 : Int32)) - (1 : Int32))), .val (.int cc), .val (.int (0 : Int32))] []))
      refine Runs.by (fun _ hr => XS.iconst X13.here hx rfl (hb hby at_284) hr) ?_
      show Runs p e below _ (T13.setTop (mkF m 285 #[.val (.int p0), .val (.int p1), .val (.int p2), .val (.int p3), .val (.int p4), .val (.int p5), .val (.int ((p0 &&& (255 : Int32)).toUInt32.toUInt16.toUInt32.toInt32)), .val (.int ((p1 &&& (255 : Int32)).toUInt32.toUInt16.toUInt32.toInt32)), .val (.int ((p2 &&& (255 : Int32)).toUInt32.toUInt16.toUInt32.toInt32)), .val (.int (0 : Int32)), .val (.ref b1), .val (.ref b7), .val (.int (p5 &&& (3 : Int32))), .val (.int ((((p5.toUInt32 >>> ((2 : Int32) &&& 31).toUInt32).toInt32) &&& (3 : Int32)) - (1 : Int32))), .val (.int cc), .val (.int (0 : Int32))] [(.int (1 : Int32))]))
      refine Runs.by (fun _ hr => XS.goto X13.here hx rfl (pc0 := 285) (pc' := 289) rfl (hb hby at_285) (by decide) (by decide) hr) ?_
      show Runs p e below _ (T13.setTop (mkF m 289 #[.val (.int p0), .val (.int p1), .val (.int p2), .val (.int p3), .val (.int p4), .val (.int p5), .val (.int ((p0 &&& (255 : Int32)).toUInt32.toUInt16.toUInt32.toInt32)), .val (.int ((p1 &&& (255 : Int32)).toUInt32.toUInt16.toUInt32.toInt32)), .val (.int ((p2 &&& (255 : Int32)).toUInt32.toUInt16.toUInt32.toInt32)), .val (.int (0 : Int32)), .val (.ref b1), .val (.ref b7), .val (.int (p5 &&& (3 : Int32))), .val (.int ((((p5.toUInt32 >>> ((2 : Int32) &&& 31).toUInt32).toInt32) &&& (3 : Int32)) - (1 : Int32))), .val (.int cc), .val (.int (0 : Int32))] [(.int (1 : Int32))]))
      refine Runs.retW X13 hx hrt hlk eq13 hS hk hZ hEL hC (Or.inl ⟨rfl, by simp, _, rfl⟩) (by rfl) (hb hby at_289) (by decide) (by decide) ?_
      exact ⟨rfl, N13⟩
    show Runs p e below _ (T9.setTop (mkF m 160 #[.val (.int p0), .val (.int p1), .val (.int p2), .val (.int p3), .val (.int p4), .val (.int p5), .val (.int ((p0 &&& (255 : Int32)).toUInt32.toUInt16.toUInt32.toInt32)), .val (.int ((p1 &&& (255 : Int32)).toUInt32.toUInt16.toUInt32.toInt32)), .val (.int ((p2 &&& (255 : Int32)).toUInt32.toUInt16.toUInt32.toInt32)), .val (.int (0 : Int32)), .val (.ref b1), .val (.ref b7), .val (.int (p5 &&& (3 : Int32))), .val (.int ((((p5.toUInt32 >>> ((2 : Int32) &&& 31).toUInt32).toInt32) &&& (3 : Int32)) - (1 : Int32))), .unset, .unset] []))
    refine Runs.by (fun _ hr => XS.iload X9.here hx rfl (hb hby at_160) rfl  hr) ?_
    show Runs p e below _ (T9.setTop (mkF m 162 #[.val (.int p0), .val (.int p1), .val (.int p2), .val (.int p3), .val (.int p4), .val (.int p5), .val (.int ((p0 &&& (255 : Int32)).toUInt32.toUInt16.toUInt32.toInt32)), .val (.int ((p1 &&& (255 : Int32)).toUInt32.toUInt16.toUInt32.toInt32)), .val (.int ((p2 &&& (255 : Int32)).toUInt32.toUInt16.toUInt32.toInt32)), .val (.int (0 : Int32)), .val (.ref b1), .val (.ref b7), .val (.int (p5 &&& (3 : Int32))), .val (.int ((((p5.toUInt32 >>> ((2 : Int32) &&& 31).toUInt32).toInt32) &&& (3 : Int32)) - (1 : Int32))), .unset, .unset] [(.int (p5 &&& (3 : Int32)))]))
    by_cases hc162 : (p5 &&& (3 : Int32)) = (0 : Int32)
    · -- pc 162: (p5 &&& (3 : Int32)) = (0 : Int32)
      refine Runs.by (fun _ hr => XS.ifNo X9.here hx rfl (hb hby at_162) rfl ((if0 _ _).trans (teq hc162).2) hr) ?_
      show Runs p e below _ (T9.setTop (mkF m 165 #[.val (.int p0), .val (.int p1), .val (.int p2), .val (.int p3), .val (.int p4), .val (.int p5), .val (.int ((p0 &&& (255 : Int32)).toUInt32.toUInt16.toUInt32.toInt32)), .val (.int ((p1 &&& (255 : Int32)).toUInt32.toUInt16.toUInt32.toInt32)), .val (.int ((p2 &&& (255 : Int32)).toUInt32.toUInt16.toUInt32.toInt32)), .val (.int (0 : Int32)), .val (.ref b1), .val (.ref b7), .val (.int (p5 &&& (3 : Int32))), .val (.int ((((p5.toUInt32 >>> ((2 : Int32) &&& 31).toUInt32).toInt32) &&& (3 : Int32)) - (1 : Int32))), .unset, .unset] []))
      refine Runs.by (fun _ hr => XS.iload X9.here hx rfl (hb hby at_165) rfl  hr) ?_
      show Runs p e below _ (T9.setTop (mkF m 167 #[.val (.int p0), .val (.int p1), .val (.int p2), .val (.int p3), .val (.int p4), .val (.int p5), .val (.int ((p0 &&& (255 : Int32)).toUInt32.toUInt16.toUInt32.toInt32)), .val (.int ((p1 &&& (255 : Int32)).toUInt32.toUInt16.toUInt32.toInt32)), .val (.int ((p2 &&& (255 : Int32)).toUInt32.toUInt16.toUInt32.toInt32)), .val (.int (0 : Int32)), .val (.ref b1), .val (.ref b7), .val (.int (p5 &&& (3 : Int32))), .val (.int ((((p5.toUInt32 >>> ((2 : Int32) &&& 31).toUInt32).toInt32) &&& (3 : Int32)) - (1 : Int32))), .unset, .unset] [(.int p4)]))
      refine Runs.by (fun _ hr => X9.ldcI hx hown (mvT hZ (hw _ (List.mem_of_getElem? (i := 87) rfl))) (g := (mkF m 167 #[.val (.int p0), .val (.int p1), .val (.int p2), .val (.int p3), .val (.int p4), .val (.int p5), .val (.int ((p0 &&& (255 : Int32)).toUInt32.toUInt16.toUInt32.toInt32)), .val (.int ((p1 &&& (255 : Int32)).toUInt32.toUInt16.toUInt32.toInt32)), .val (.int ((p2 &&& (255 : Int32)).toUInt32.toUInt16.toUInt32.toInt32)), .val (.int (0 : Int32)), .val (.ref b1), .val (.ref b7), .val (.int (p5 &&& (3 : Int32))), .val (.int ((((p5.toUInt32 >>> ((2 : Int32) &&& 31).toUInt32).toInt32) &&& (3 : Int32)) - (1 : Int32))), .unset, .unset] [(.int p4)])) rfl (hb hby at_167) hr) ?_
      show Runs p e below _ (T9.setTop (mkF m 169 #[.val (.int p0), .val (.int p1), .val (.int p2), .val (.int p3), .val (.int p4), .val (.int p5), .val (.int ((p0 &&& (255 : Int32)).toUInt32.toUInt16.toUInt32.toInt32)), .val (.int ((p1 &&& (255 : Int32)).toUInt32.toUInt16.toUInt32.toInt32)), .val (.int ((p2 &&& (255 : Int32)).toUInt32.toUInt16.toUInt32.toInt32)), .val (.int (0 : Int32)), .val (.ref b1), .val (.ref b7), .val (.int (p5 &&& (3 : Int32))), .val (.int ((((p5.toUInt32 >>> ((2 : Int32) &&& 31).toUInt32).toInt32) &&& (3 : Int32)) - (1 : Int32))), .unset, .unset] [(.int (2147483647 : Int32)), (.int p4)]))
      refine Runs.by (fun _ hr => XS.iand X9.here hx rfl (hb hby at_169) rfl hr) ?_
      show Runs p e below _ (T9.setTop (mkF m 170 #[.val (.int p0), .val (.int p1), .val (.int p2), .val (.int p3), .val (.int p4), .val (.int p5), .val (.int ((p0 &&& (255 : Int32)).toUInt32.toUInt16.toUInt32.toInt32)), .val (.int ((p1 &&& (255 : Int32)).toUInt32.toUInt16.toUInt32.toInt32)), .val (.int ((p2 &&& (255 : Int32)).toUInt32.toUInt16.toUInt32.toInt32)), .val (.int (0 : Int32)), .val (.ref b1), .val (.ref b7), .val (.int (p5 &&& (3 : Int32))), .val (.int ((((p5.toUInt32 >>> ((2 : Int32) &&& 31).toUInt32).toInt32) &&& (3 : Int32)) - (1 : Int32))), .unset, .unset] [(.int (p4 &&& (2147483647 : Int32)))]))
      refine Runs.by (fun _ hr => XS.istore X9.here hx rfl (hb hby at_170) rfl (l' := #[.val (.int p0), .val (.int p1), .val (.int p2), .val (.int p3), .val (.int p4), .val (.int p5), .val (.int ((p0 &&& (255 : Int32)).toUInt32.toUInt16.toUInt32.toInt32)), .val (.int ((p1 &&& (255 : Int32)).toUInt32.toUInt16.toUInt32.toInt32)), .val (.int ((p2 &&& (255 : Int32)).toUInt32.toUInt16.toUInt32.toInt32)), .val (.int (0 : Int32)), .val (.ref b1), .val (.ref b7), .val (.int (p5 &&& (3 : Int32))), .val (.int ((((p5.toUInt32 >>> ((2 : Int32) &&& 31).toUInt32).toInt32) &&& (3 : Int32)) - (1 : Int32))), .val (.int (p4 &&& (2147483647 : Int32))), .unset]) rfl hr) ?_
      show Runs p e below _ (T9.setTop (mkF m 172 #[.val (.int p0), .val (.int p1), .val (.int p2), .val (.int p3), .val (.int p4), .val (.int p5), .val (.int ((p0 &&& (255 : Int32)).toUInt32.toUInt16.toUInt32.toInt32)), .val (.int ((p1 &&& (255 : Int32)).toUInt32.toUInt16.toUInt32.toInt32)), .val (.int ((p2 &&& (255 : Int32)).toUInt32.toUInt16.toUInt32.toInt32)), .val (.int (0 : Int32)), .val (.ref b1), .val (.ref b7), .val (.int (p5 &&& (3 : Int32))), .val (.int ((((p5.toUInt32 >>> ((2 : Int32) &&& 31).toUInt32).toInt32) &&& (3 : Int32)) - (1 : Int32))), .val (.int (p4 &&& (2147483647 : Int32))), .unset] []))
      refine Runs.by (fun _ hr => XS.goto X9.here hx rfl (pc0 := 172) (pc' := 226) rfl (hb hby at_172) (by decide) (by decide) hr) ?_
      exact JL11 (p4 &&& (2147483647 : Int32)) _ _ X9 rfl N9 (own_m31 _)
    · -- pc 162: not (p5 &&& (3 : Int32)) = (0 : Int32)
      refine Runs.by (fun _ hr => XS.ifYes X9.here hx rfl (pc0 := 162) (pc' := 175) rfl (hb hby at_162) rfl ((if0 _ _).trans (feq hc162).2) (by decide) (by decide) hr) ?_
      show Runs p e below _ (T9.setTop (mkF m 175 #[.val (.int p0), .val (.int p1), .val (.int p2), .val (.int p3), .val (.int p4), .val (.int p5), .val (.int ((p0 &&& (255 : Int32)).toUInt32.toUInt16.toUInt32.toInt32)), .val (.int ((p1 &&& (255 : Int32)).toUInt32.toUInt16.toUInt32.toInt32)), .val (.int ((p2 &&& (255 : Int32)).toUInt32.toUInt16.toUInt32.toInt32)), .val (.int (0 : Int32)), .val (.ref b1), .val (.ref b7), .val (.int (p5 &&& (3 : Int32))), .val (.int ((((p5.toUInt32 >>> ((2 : Int32) &&& 31).toUInt32).toInt32) &&& (3 : Int32)) - (1 : Int32))), .unset, .unset] []))
      refine Runs.by (fun _ hr => XS.iload X9.here hx rfl (hb hby at_175) rfl  hr) ?_
      show Runs p e below _ (T9.setTop (mkF m 177 #[.val (.int p0), .val (.int p1), .val (.int p2), .val (.int p3), .val (.int p4), .val (.int p5), .val (.int ((p0 &&& (255 : Int32)).toUInt32.toUInt16.toUInt32.toInt32)), .val (.int ((p1 &&& (255 : Int32)).toUInt32.toUInt16.toUInt32.toInt32)), .val (.int ((p2 &&& (255 : Int32)).toUInt32.toUInt16.toUInt32.toInt32)), .val (.int (0 : Int32)), .val (.ref b1), .val (.ref b7), .val (.int (p5 &&& (3 : Int32))), .val (.int ((((p5.toUInt32 >>> ((2 : Int32) &&& 31).toUInt32).toInt32) &&& (3 : Int32)) - (1 : Int32))), .unset, .unset] [(.int (p5 &&& (3 : Int32)))]))
      refine Runs.by (fun _ hr => XS.iconst X9.here hx rfl (hb hby at_177) hr) ?_
      show Runs p e below _ (T9.setTop (mkF m 178 #[.val (.int p0), .val (.int p1), .val (.int p2), .val (.int p3), .val (.int p4), .val (.int p5), .val (.int ((p0 &&& (255 : Int32)).toUInt32.toUInt16.toUInt32.toInt32)), .val (.int ((p1 &&& (255 : Int32)).toUInt32.toUInt16.toUInt32.toInt32)), .val (.int ((p2 &&& (255 : Int32)).toUInt32.toUInt16.toUInt32.toInt32)), .val (.int (0 : Int32)), .val (.ref b1), .val (.ref b7), .val (.int (p5 &&& (3 : Int32))), .val (.int ((((p5.toUInt32 >>> ((2 : Int32) &&& 31).toUInt32).toInt32) &&& (3 : Int32)) - (1 : Int32))), .unset, .unset] [(.int (1 : Int32)), (.int (p5 &&& (3 : Int32)))]))
      by_cases hc178 : (p5 &&& (3 : Int32)) = (1 : Int32)
      · -- pc 178: (p5 &&& (3 : Int32)) = (1 : Int32)
        refine Runs.by (fun _ hr => XS.icmpNo X9.here hx rfl (hb hby at_178) rfl (teq hc178).2 hr) ?_
        show Runs p e below _ (T9.setTop (mkF m 181 #[.val (.int p0), .val (.int p1), .val (.int p2), .val (.int p3), .val (.int p4), .val (.int p5), .val (.int ((p0 &&& (255 : Int32)).toUInt32.toUInt16.toUInt32.toInt32)), .val (.int ((p1 &&& (255 : Int32)).toUInt32.toUInt16.toUInt32.toInt32)), .val (.int ((p2 &&& (255 : Int32)).toUInt32.toUInt16.toUInt32.toInt32)), .val (.int (0 : Int32)), .val (.ref b1), .val (.ref b7), .val (.int (p5 &&& (3 : Int32))), .val (.int ((((p5.toUInt32 >>> ((2 : Int32) &&& 31).toUInt32).toInt32) &&& (3 : Int32)) - (1 : Int32))), .unset, .unset] []))
        refine Runs.by (fun _ hr => XS.iconst X9.here hx rfl (hb hby at_181) hr) ?_
        show Runs p e below _ (T9.setTop (mkF m 182 #[.val (.int p0), .val (.int p1), .val (.int p2), .val (.int p3), .val (.int p4), .val (.int p5), .val (.int ((p0 &&& (255 : Int32)).toUInt32.toUInt16.toUInt32.toInt32)), .val (.int ((p1 &&& (255 : Int32)).toUInt32.toUInt16.toUInt32.toInt32)), .val (.int ((p2 &&& (255 : Int32)).toUInt32.toUInt16.toUInt32.toInt32)), .val (.int (0 : Int32)), .val (.ref b1), .val (.ref b7), .val (.int (p5 &&& (3 : Int32))), .val (.int ((((p5.toUInt32 >>> ((2 : Int32) &&& 31).toUInt32).toInt32) &&& (3 : Int32)) - (1 : Int32))), .unset, .unset] [(.int (0 : Int32))]))
        refine Runs.by (fun _ hr => XS.iload X9.here hx rfl (hb hby at_182) rfl  hr) ?_
        show Runs p e below _ (T9.setTop (mkF m 184 #[.val (.int p0), .val (.int p1), .val (.int p2), .val (.int p3), .val (.int p4), .val (.int p5), .val (.int ((p0 &&& (255 : Int32)).toUInt32.toUInt16.toUInt32.toInt32)), .val (.int ((p1 &&& (255 : Int32)).toUInt32.toUInt16.toUInt32.toInt32)), .val (.int ((p2 &&& (255 : Int32)).toUInt32.toUInt16.toUInt32.toInt32)), .val (.int (0 : Int32)), .val (.ref b1), .val (.ref b7), .val (.int (p5 &&& (3 : Int32))), .val (.int ((((p5.toUInt32 >>> ((2 : Int32) &&& 31).toUInt32).toInt32) &&& (3 : Int32)) - (1 : Int32))), .unset, .unset] [(.int ((p0 &&& (255 : Int32)).toUInt32.toUInt16.toUInt32.toInt32)), (.int (0 : Int32))]))
        refine Runs.by (fun _ hr => XS.iload X9.here hx rfl (hb hby at_184) rfl  hr) ?_
        show Runs p e below _ (T9.setTop (mkF m 186 #[.val (.int p0), .val (.int p1), .val (.int p2), .val (.int p3), .val (.int p4), .val (.int p5), .val (.int ((p0 &&& (255 : Int32)).toUInt32.toUInt16.toUInt32.toInt32)), .val (.int ((p1 &&& (255 : Int32)).toUInt32.toUInt16.toUInt32.toInt32)), .val (.int ((p2 &&& (255 : Int32)).toUInt32.toUInt16.toUInt32.toInt32)), .val (.int (0 : Int32)), .val (.ref b1), .val (.ref b7), .val (.int (p5 &&& (3 : Int32))), .val (.int ((((p5.toUInt32 >>> ((2 : Int32) &&& 31).toUInt32).toInt32) &&& (3 : Int32)) - (1 : Int32))), .unset, .unset] [(.int ((((p5.toUInt32 >>> ((2 : Int32) &&& 31).toUInt32).toInt32) &&& (3 : Int32)) - (1 : Int32))), (.int ((p0 &&& (255 : Int32)).toUInt32.toUInt16.toUInt32.toInt32)), (.int (0 : Int32))]))
        refine Runs.by (fun _ hr => XS.iadd X9.here hx rfl (hb hby at_186) rfl hr) ?_
        show Runs p e below _ (T9.setTop (mkF m 187 #[.val (.int p0), .val (.int p1), .val (.int p2), .val (.int p3), .val (.int p4), .val (.int p5), .val (.int ((p0 &&& (255 : Int32)).toUInt32.toUInt16.toUInt32.toInt32)), .val (.int ((p1 &&& (255 : Int32)).toUInt32.toUInt16.toUInt32.toInt32)), .val (.int ((p2 &&& (255 : Int32)).toUInt32.toUInt16.toUInt32.toInt32)), .val (.int (0 : Int32)), .val (.ref b1), .val (.ref b7), .val (.int (p5 &&& (3 : Int32))), .val (.int ((((p5.toUInt32 >>> ((2 : Int32) &&& 31).toUInt32).toInt32) &&& (3 : Int32)) - (1 : Int32))), .unset, .unset] [(.int (((p0 &&& (255 : Int32)).toUInt32.toUInt16.toUInt32.toInt32) + ((((p5.toUInt32 >>> ((2 : Int32) &&& 31).toUInt32).toInt32) &&& (3 : Int32)) - (1 : Int32)))), (.int (0 : Int32))]))
        obtain ⟨_, _, ⟨T14, L14, k14, n14⟩, -, X14, ⟨Lc14, hQ14, l14, y14, z14⟩, st14⟩ := Jvm.LawKit.callS X9 hx (y := (⟨"java/lang/Math", "max", "(II)I"⟩ : MethodName)) hown (mvT hZ (hw _ (List.mem_of_getElem? (i := 78) rfl))) (mvT hZ (hw _ (List.mem_of_getElem? (i := 73) rfl))) (mvT hZ (hw _ (List.mem_of_getElem? (i := 74) rfl))) (mvT hZ (hw _ (List.mem_of_getElem? (i := 75) rfl))) (by decide) (backOf (W := 0) (rm15 l Z a0 hw [] (0 : Int32) (((p0 &&& (255 : Int32)).toUInt32.toUInt16.toUInt32.toInt32) + ((((p5.toUInt32 >>> ((2 : Int32) &&& 31).toUInt32).toInt32) &&& (3 : Int32)) - (1 : Int32)))  T9.heap n0 (Nat.le_trans Z0 K10.1) ) hZ (hw _ (List.mem_of_getElem? (i := 75) rfl)) (hw _ (List.mem_of_getElem? (i := 74) rfl)) (by decide) (by decide)) (g := (mkF m 187 #[.val (.int p0), .val (.int p1), .val (.int p2), .val (.int p3), .val (.int p4), .val (.int p5), .val (.int ((p0 &&& (255 : Int32)).toUInt32.toUInt16.toUInt32.toInt32)), .val (.int ((p1 &&& (255 : Int32)).toUInt32.toUInt16.toUInt32.toInt32)), .val (.int ((p2 &&& (255 : Int32)).toUInt32.toUInt16.toUInt32.toInt32)), .val (.int (0 : Int32)), .val (.ref b1), .val (.ref b7), .val (.int (p5 &&& (3 : Int32))), .val (.int ((((p5.toUInt32 >>> ((2 : Int32) &&& 31).toUInt32).toInt32) &&& (3 : Int32)) - (1 : Int32))), .unset, .unset] [(.int (((p0 &&& (255 : Int32)).toUInt32.toUInt16.toUInt32.toInt32) + ((((p5.toUInt32 >>> ((2 : Int32) &&& 31).toUInt32).toInt32) &&& (3 : Int32)) - (1 : Int32)))), (.int (0 : Int32))])) rfl (by rw [hml]; rfl) (argsL := [(.int (0 : Int32)), (.int (((p0 &&& (255 : Int32)).toUInt32.toUInt16.toUInt32.toInt32) + ((((p5.toUInt32 >>> ((2 : Int32) &&& 31).toUInt32).toInt32) &&& (3 : Int32)) - (1 : Int32))))]) (rest := []) (lenOf pd_8 rfl) rfl (by show 2 * 0 + _ ≤ _; exact Nat.le_of_eq rfl) (hb hby at_187) (fun _ _ => ⟨rfl, rfl, (by decide : 9 + 0 ≤ _), (by decide : 526 + 0 ≤ _)⟩)
        dsimp only [Pt.U, Pt.locs, Pt.cells, Pt.slots] at X14 l14 y14 z14 st14 hQ14
        subst l14 y14 z14
        obtain ⟨rfl, Nq14, eq14⟩ := hQ14
        have N14 := Fr.app N9 Nq14
        refine Runs.by (fun t hr => st14 t hr) ?_
        show Runs p e below _ (T14.setTop (mkF m 190 #[.val (.int p0), .val (.int p1), .val (.int p2), .val (.int p3), .val (.int p4), .val (.int p5), .val (.int ((p0 &&& (255 : Int32)).toUInt32.toUInt16.toUInt32.toInt32)), .val (.int ((p1 &&& (255 : Int32)).toUInt32.toUInt16.toUInt32.toInt32)), .val (.int ((p2 &&& (255 : Int32)).toUInt32.toUInt16.toUInt32.toInt32)), .val (.int (0 : Int32)), .val (.ref b1), .val (.ref b7), .val (.int (p5 &&& (3 : Int32))), .val (.int ((((p5.toUInt32 >>> ((2 : Int32) &&& 31).toUInt32).toInt32) &&& (3 : Int32)) - (1 : Int32))), .unset, .unset] [(.int (own_max (0 : Int32) (((p0 &&& (255 : Int32)).toUInt32.toUInt16.toUInt32.toInt32) + ((((p5.toUInt32 >>> ((2 : Int32) &&& 31).toUInt32).toInt32) &&& (3 : Int32)) - (1 : Int32)))))]))
        refine Runs.by (fun _ hr => XS.istore X14.here hx rfl (hb hby at_190) rfl (l' := #[.val (.int p0), .val (.int p1), .val (.int p2), .val (.int p3), .val (.int p4), .val (.int p5), .val (.int ((p0 &&& (255 : Int32)).toUInt32.toUInt16.toUInt32.toInt32)), .val (.int ((p1 &&& (255 : Int32)).toUInt32.toUInt16.toUInt32.toInt32)), .val (.int ((p2 &&& (255 : Int32)).toUInt32.toUInt16.toUInt32.toInt32)), .val (.int (0 : Int32)), .val (.ref b1), .val (.ref b7), .val (.int (p5 &&& (3 : Int32))), .val (.int ((((p5.toUInt32 >>> ((2 : Int32) &&& 31).toUInt32).toInt32) &&& (3 : Int32)) - (1 : Int32))), .val (.int (own_max (0 : Int32) (((p0 &&& (255 : Int32)).toUInt32.toUInt16.toUInt32.toInt32) + ((((p5.toUInt32 >>> ((2 : Int32) &&& 31).toUInt32).toInt32) &&& (3 : Int32)) - (1 : Int32))))), .unset]) rfl hr) ?_
        show Runs p e below _ (T14.setTop (mkF m 192 #[.val (.int p0), .val (.int p1), .val (.int p2), .val (.int p3), .val (.int p4), .val (.int p5), .val (.int ((p0 &&& (255 : Int32)).toUInt32.toUInt16.toUInt32.toInt32)), .val (.int ((p1 &&& (255 : Int32)).toUInt32.toUInt16.toUInt32.toInt32)), .val (.int ((p2 &&& (255 : Int32)).toUInt32.toUInt16.toUInt32.toInt32)), .val (.int (0 : Int32)), .val (.ref b1), .val (.ref b7), .val (.int (p5 &&& (3 : Int32))), .val (.int ((((p5.toUInt32 >>> ((2 : Int32) &&& 31).toUInt32).toInt32) &&& (3 : Int32)) - (1 : Int32))), .val (.int (own_max (0 : Int32) (((p0 &&& (255 : Int32)).toUInt32.toUInt16.toUInt32.toInt32) + ((((p5.toUInt32 >>> ((2 : Int32) &&& 31).toUInt32).toInt32) &&& (3 : Int32)) - (1 : Int32))))), .unset] []))
        refine Runs.by (fun _ hr => XS.goto X14.here hx rfl (pc0 := 192) (pc' := 226) rfl (hb hby at_192) (by decide) (by decide) hr) ?_
        exact JL11 (own_max (0 : Int32) (((p0 &&& (255 : Int32)).toUInt32.toUInt16.toUInt32.toInt32) + ((((p5.toUInt32 >>> ((2 : Int32) &&& 31).toUInt32).toInt32) &&& (3 : Int32)) - (1 : Int32)))) _ _ X14 eq14 N14 (own_max0 _)
      · -- pc 178: not (p5 &&& (3 : Int32)) = (1 : Int32)
        refine Runs.by (fun _ hr => XS.icmpYes X9.here hx rfl (pc0 := 178) (pc' := 195) rfl (hb hby at_178) rfl (feq hc178).2 (by decide) (by decide) hr) ?_
        show Runs p e below _ (T9.setTop (mkF m 195 #[.val (.int p0), .val (.int p1), .val (.int p2), .val (.int p3), .val (.int p4), .val (.int p5), .val (.int ((p0 &&& (255 : Int32)).toUInt32.toUInt16.toUInt32.toInt32)), .val (.int ((p1 &&& (255 : Int32)).toUInt32.toUInt16.toUInt32.toInt32)), .val (.int ((p2 &&& (255 : Int32)).toUInt32.toUInt16.toUInt32.toInt32)), .val (.int (0 : Int32)), .val (.ref b1), .val (.ref b7), .val (.int (p5 &&& (3 : Int32))), .val (.int ((((p5.toUInt32 >>> ((2 : Int32) &&& 31).toUInt32).toInt32) &&& (3 : Int32)) - (1 : Int32))), .unset, .unset] []))
        refine Runs.by (fun _ hr => XS.iload X9.here hx rfl (hb hby at_195) rfl  hr) ?_
        show Runs p e below _ (T9.setTop (mkF m 197 #[.val (.int p0), .val (.int p1), .val (.int p2), .val (.int p3), .val (.int p4), .val (.int p5), .val (.int ((p0 &&& (255 : Int32)).toUInt32.toUInt16.toUInt32.toInt32)), .val (.int ((p1 &&& (255 : Int32)).toUInt32.toUInt16.toUInt32.toInt32)), .val (.int ((p2 &&& (255 : Int32)).toUInt32.toUInt16.toUInt32.toInt32)), .val (.int (0 : Int32)), .val (.ref b1), .val (.ref b7), .val (.int (p5 &&& (3 : Int32))), .val (.int ((((p5.toUInt32 >>> ((2 : Int32) &&& 31).toUInt32).toInt32) &&& (3 : Int32)) - (1 : Int32))), .unset, .unset] [(.int (p5 &&& (3 : Int32)))]))
        refine Runs.by (fun _ hr => XS.iconst X9.here hx rfl (hb hby at_197) hr) ?_
        show Runs p e below _ (T9.setTop (mkF m 198 #[.val (.int p0), .val (.int p1), .val (.int p2), .val (.int p3), .val (.int p4), .val (.int p5), .val (.int ((p0 &&& (255 : Int32)).toUInt32.toUInt16.toUInt32.toInt32)), .val (.int ((p1 &&& (255 : Int32)).toUInt32.toUInt16.toUInt32.toInt32)), .val (.int ((p2 &&& (255 : Int32)).toUInt32.toUInt16.toUInt32.toInt32)), .val (.int (0 : Int32)), .val (.ref b1), .val (.ref b7), .val (.int (p5 &&& (3 : Int32))), .val (.int ((((p5.toUInt32 >>> ((2 : Int32) &&& 31).toUInt32).toInt32) &&& (3 : Int32)) - (1 : Int32))), .unset, .unset] [(.int (2 : Int32)), (.int (p5 &&& (3 : Int32)))]))
        by_cases hc198 : (p5 &&& (3 : Int32)) = (2 : Int32)
        · -- pc 198: (p5 &&& (3 : Int32)) = (2 : Int32)
          refine Runs.by (fun _ hr => XS.icmpNo X9.here hx rfl (hb hby at_198) rfl (teq hc198).2 hr) ?_
          show Runs p e below _ (T9.setTop (mkF m 201 #[.val (.int p0), .val (.int p1), .val (.int p2), .val (.int p3), .val (.int p4), .val (.int p5), .val (.int ((p0 &&& (255 : Int32)).toUInt32.toUInt16.toUInt32.toInt32)), .val (.int ((p1 &&& (255 : Int32)).toUInt32.toUInt16.toUInt32.toInt32)), .val (.int ((p2 &&& (255 : Int32)).toUInt32.toUInt16.toUInt32.toInt32)), .val (.int (0 : Int32)), .val (.ref b1), .val (.ref b7), .val (.int (p5 &&& (3 : Int32))), .val (.int ((((p5.toUInt32 >>> ((2 : Int32) &&& 31).toUInt32).toInt32) &&& (3 : Int32)) - (1 : Int32))), .unset, .unset] []))
          refine Runs.by (fun _ hr => XS.iconst X9.here hx rfl (hb hby at_201) hr) ?_
          show Runs p e below _ (T9.setTop (mkF m 202 #[.val (.int p0), .val (.int p1), .val (.int p2), .val (.int p3), .val (.int p4), .val (.int p5), .val (.int ((p0 &&& (255 : Int32)).toUInt32.toUInt16.toUInt32.toInt32)), .val (.int ((p1 &&& (255 : Int32)).toUInt32.toUInt16.toUInt32.toInt32)), .val (.int ((p2 &&& (255 : Int32)).toUInt32.toUInt16.toUInt32.toInt32)), .val (.int (0 : Int32)), .val (.ref b1), .val (.ref b7), .val (.int (p5 &&& (3 : Int32))), .val (.int ((((p5.toUInt32 >>> ((2 : Int32) &&& 31).toUInt32).toInt32) &&& (3 : Int32)) - (1 : Int32))), .unset, .unset] [(.int (0 : Int32))]))
          refine Runs.by (fun _ hr => XS.iload X9.here hx rfl (hb hby at_202) rfl  hr) ?_
          show Runs p e below _ (T9.setTop (mkF m 204 #[.val (.int p0), .val (.int p1), .val (.int p2), .val (.int p3), .val (.int p4), .val (.int p5), .val (.int ((p0 &&& (255 : Int32)).toUInt32.toUInt16.toUInt32.toInt32)), .val (.int ((p1 &&& (255 : Int32)).toUInt32.toUInt16.toUInt32.toInt32)), .val (.int ((p2 &&& (255 : Int32)).toUInt32.toUInt16.toUInt32.toInt32)), .val (.int (0 : Int32)), .val (.ref b1), .val (.ref b7), .val (.int (p5 &&& (3 : Int32))), .val (.int ((((p5.toUInt32 >>> ((2 : Int32) &&& 31).toUInt32).toInt32) &&& (3 : Int32)) - (1 : Int32))), .unset, .unset] [(.int ((p1 &&& (255 : Int32)).toUInt32.toUInt16.toUInt32.toInt32)), (.int (0 : Int32))]))
          refine Runs.by (fun _ hr => XS.iload X9.here hx rfl (hb hby at_204) rfl  hr) ?_
          show Runs p e below _ (T9.setTop (mkF m 206 #[.val (.int p0), .val (.int p1), .val (.int p2), .val (.int p3), .val (.int p4), .val (.int p5), .val (.int ((p0 &&& (255 : Int32)).toUInt32.toUInt16.toUInt32.toInt32)), .val (.int ((p1 &&& (255 : Int32)).toUInt32.toUInt16.toUInt32.toInt32)), .val (.int ((p2 &&& (255 : Int32)).toUInt32.toUInt16.toUInt32.toInt32)), .val (.int (0 : Int32)), .val (.ref b1), .val (.ref b7), .val (.int (p5 &&& (3 : Int32))), .val (.int ((((p5.toUInt32 >>> ((2 : Int32) &&& 31).toUInt32).toInt32) &&& (3 : Int32)) - (1 : Int32))), .unset, .unset] [(.int ((((p5.toUInt32 >>> ((2 : Int32) &&& 31).toUInt32).toInt32) &&& (3 : Int32)) - (1 : Int32))), (.int ((p1 &&& (255 : Int32)).toUInt32.toUInt16.toUInt32.toInt32)), (.int (0 : Int32))]))
          refine Runs.by (fun _ hr => XS.iadd X9.here hx rfl (hb hby at_206) rfl hr) ?_
          show Runs p e below _ (T9.setTop (mkF m 207 #[.val (.int p0), .val (.int p1), .val (.int p2), .val (.int p3), .val (.int p4), .val (.int p5), .val (.int ((p0 &&& (255 : Int32)).toUInt32.toUInt16.toUInt32.toInt32)), .val (.int ((p1 &&& (255 : Int32)).toUInt32.toUInt16.toUInt32.toInt32)), .val (.int ((p2 &&& (255 : Int32)).toUInt32.toUInt16.toUInt32.toInt32)), .val (.int (0 : Int32)), .val (.ref b1), .val (.ref b7), .val (.int (p5 &&& (3 : Int32))), .val (.int ((((p5.toUInt32 >>> ((2 : Int32) &&& 31).toUInt32).toInt32) &&& (3 : Int32)) - (1 : Int32))), .unset, .unset] [(.int (((p1 &&& (255 : Int32)).toUInt32.toUInt16.toUInt32.toInt32) + ((((p5.toUInt32 >>> ((2 : Int32) &&& 31).toUInt32).toInt32) &&& (3 : Int32)) - (1 : Int32)))), (.int (0 : Int32))]))
          obtain ⟨_, _, ⟨T15, L15, k15, n15⟩, -, X15, ⟨Lc15, hQ15, l15, y15, z15⟩, st15⟩ := Jvm.LawKit.callS X9 hx (y := (⟨"java/lang/Math", "max", "(II)I"⟩ : MethodName)) hown (mvT hZ (hw _ (List.mem_of_getElem? (i := 78) rfl))) (mvT hZ (hw _ (List.mem_of_getElem? (i := 73) rfl))) (mvT hZ (hw _ (List.mem_of_getElem? (i := 74) rfl))) (mvT hZ (hw _ (List.mem_of_getElem? (i := 75) rfl))) (by decide) (backOf (W := 0) (rm15 l Z a0 hw [] (0 : Int32) (((p1 &&& (255 : Int32)).toUInt32.toUInt16.toUInt32.toInt32) + ((((p5.toUInt32 >>> ((2 : Int32) &&& 31).toUInt32).toInt32) &&& (3 : Int32)) - (1 : Int32)))  T9.heap n0 (Nat.le_trans Z0 K10.1) ) hZ (hw _ (List.mem_of_getElem? (i := 75) rfl)) (hw _ (List.mem_of_getElem? (i := 74) rfl)) (by decide) (by decide)) (g := (mkF m 207 #[.val (.int p0), .val (.int p1), .val (.int p2), .val (.int p3), .val (.int p4), .val (.int p5), .val (.int ((p0 &&& (255 : Int32)).toUInt32.toUInt16.toUInt32.toInt32)), .val (.int ((p1 &&& (255 : Int32)).toUInt32.toUInt16.toUInt32.toInt32)), .val (.int ((p2 &&& (255 : Int32)).toUInt32.toUInt16.toUInt32.toInt32)), .val (.int (0 : Int32)), .val (.ref b1), .val (.ref b7), .val (.int (p5 &&& (3 : Int32))), .val (.int ((((p5.toUInt32 >>> ((2 : Int32) &&& 31).toUInt32).toInt32) &&& (3 : Int32)) - (1 : Int32))), .unset, .unset] [(.int (((p1 &&& (255 : Int32)).toUInt32.toUInt16.toUInt32.toInt32) + ((((p5.toUInt32 >>> ((2 : Int32) &&& 31).toUInt32).toInt32) &&& (3 : Int32)) - (1 : Int32)))), (.int (0 : Int32))])) rfl (by rw [hml]; rfl) (argsL := [(.int (0 : Int32)), (.int (((p1 &&& (255 : Int32)).toUInt32.toUInt16.toUInt32.toInt32) + ((((p5.toUInt32 >>> ((2 : Int32) &&& 31).toUInt32).toInt32) &&& (3 : Int32)) - (1 : Int32))))]) (rest := []) (lenOf pd_8 rfl) rfl (by show 2 * 0 + _ ≤ _; exact Nat.le_of_eq rfl) (hb hby at_207) (fun _ _ => ⟨rfl, rfl, (by decide : 9 + 0 ≤ _), (by decide : 526 + 0 ≤ _)⟩)
          dsimp only [Pt.U, Pt.locs, Pt.cells, Pt.slots] at X15 l15 y15 z15 st15 hQ15
          subst l15 y15 z15
          obtain ⟨rfl, Nq15, eq15⟩ := hQ15
          have N15 := Fr.app N9 Nq15
          refine Runs.by (fun t hr => st15 t hr) ?_
          show Runs p e below _ (T15.setTop (mkF m 210 #[.val (.int p0), .val (.int p1), .val (.int p2), .val (.int p3), .val (.int p4), .val (.int p5), .val (.int ((p0 &&& (255 : Int32)).toUInt32.toUInt16.toUInt32.toInt32)), .val (.int ((p1 &&& (255 : Int32)).toUInt32.toUInt16.toUInt32.toInt32)), .val (.int ((p2 &&& (255 : Int32)).toUInt32.toUInt16.toUInt32.toInt32)), .val (.int (0 : Int32)), .val (.ref b1), .val (.ref b7), .val (.int (p5 &&& (3 : Int32))), .val (.int ((((p5.toUInt32 >>> ((2 : Int32) &&& 31).toUInt32).toInt32) &&& (3 : Int32)) - (1 : Int32))), .unset, .unset] [(.int (own_max (0 : Int32) (((p1 &&& (255 : Int32)).toUInt32.toUInt16.toUInt32.toInt32) + ((((p5.toUInt32 >>> ((2 : Int32) &&& 31).toUInt32).toInt32) &&& (3 : Int32)) - (1 : Int32)))))]))
          refine Runs.by (fun _ hr => XS.istore X15.here hx rfl (hb hby at_210) rfl (l' := #[.val (.int p0), .val (.int p1), .val (.int p2), .val (.int p3), .val (.int p4), .val (.int p5), .val (.int ((p0 &&& (255 : Int32)).toUInt32.toUInt16.toUInt32.toInt32)), .val (.int ((p1 &&& (255 : Int32)).toUInt32.toUInt16.toUInt32.toInt32)), .val (.int ((p2 &&& (255 : Int32)).toUInt32.toUInt16.toUInt32.toInt32)), .val (.int (0 : Int32)), .val (.ref b1), .val (.ref b7), .val (.int (p5 &&& (3 : Int32))), .val (.int ((((p5.toUInt32 >>> ((2 : Int32) &&& 31).toUInt32).toInt32) &&& (3 : Int32)) - (1 : Int32))), .val (.int (own_max (0 : Int32) (((p1 &&& (255 : Int32)).toUInt32.toUInt16.toUInt32.toInt32) + ((((p5.toUInt32 >>> ((2 : Int32) &&& 31).toUInt32).toInt32) &&& (3 : Int32)) - (1 : Int32))))), .unset]) rfl hr) ?_
          show Runs p e below _ (T15.setTop (mkF m 212 #[.val (.int p0), .val (.int p1), .val (.int p2), .val (.int p3), .val (.int p4), .val (.int p5), .val (.int ((p0 &&& (255 : Int32)).toUInt32.toUInt16.toUInt32.toInt32)), .val (.int ((p1 &&& (255 : Int32)).toUInt32.toUInt16.toUInt32.toInt32)), .val (.int ((p2 &&& (255 : Int32)).toUInt32.toUInt16.toUInt32.toInt32)), .val (.int (0 : Int32)), .val (.ref b1), .val (.ref b7), .val (.int (p5 &&& (3 : Int32))), .val (.int ((((p5.toUInt32 >>> ((2 : Int32) &&& 31).toUInt32).toInt32) &&& (3 : Int32)) - (1 : Int32))), .val (.int (own_max (0 : Int32) (((p1 &&& (255 : Int32)).toUInt32.toUInt16.toUInt32.toInt32) + ((((p5.toUInt32 >>> ((2 : Int32) &&& 31).toUInt32).toInt32) &&& (3 : Int32)) - (1 : Int32))))), .unset] []))
          refine Runs.by (fun _ hr => XS.goto X15.here hx rfl (pc0 := 212) (pc' := 226) rfl (hb hby at_212) (by decide) (by decide) hr) ?_
          exact JL11 (own_max (0 : Int32) (((p1 &&& (255 : Int32)).toUInt32.toUInt16.toUInt32.toInt32) + ((((p5.toUInt32 >>> ((2 : Int32) &&& 31).toUInt32).toInt32) &&& (3 : Int32)) - (1 : Int32)))) _ _ X15 eq15 N15 (own_max0 _)
        · -- pc 198: not (p5 &&& (3 : Int32)) = (2 : Int32)
          refine Runs.by (fun _ hr => XS.icmpYes X9.here hx rfl (pc0 := 198) (pc' := 215) rfl (hb hby at_198) rfl (feq hc198).2 (by decide) (by decide) hr) ?_
          show Runs p e below _ (T9.setTop (mkF m 215 #[.val (.int p0), .val (.int p1), .val (.int p2), .val (.int p3), .val (.int p4), .val (.int p5), .val (.int ((p0 &&& (255 : Int32)).toUInt32.toUInt16.toUInt32.toInt32)), .val (.int ((p1 &&& (255 : Int32)).toUInt32.toUInt16.toUInt32.toInt32)), .val (.int ((p2 &&& (255 : Int32)).toUInt32.toUInt16.toUInt32.toInt32)), .val (.int (0 : Int32)), .val (.ref b1), .val (.ref b7), .val (.int (p5 &&& (3 : Int32))), .val (.int ((((p5.toUInt32 >>> ((2 : Int32) &&& 31).toUInt32).toInt32) &&& (3 : Int32)) - (1 : Int32))), .unset, .unset] []))
          refine Runs.by (fun _ hr => XS.iconst X9.here hx rfl (hb hby at_215) hr) ?_
          show Runs p e below _ (T9.setTop (mkF m 216 #[.val (.int p0), .val (.int p1), .val (.int p2), .val (.int p3), .val (.int p4), .val (.int p5), .val (.int ((p0 &&& (255 : Int32)).toUInt32.toUInt16.toUInt32.toInt32)), .val (.int ((p1 &&& (255 : Int32)).toUInt32.toUInt16.toUInt32.toInt32)), .val (.int ((p2 &&& (255 : Int32)).toUInt32.toUInt16.toUInt32.toInt32)), .val (.int (0 : Int32)), .val (.ref b1), .val (.ref b7), .val (.int (p5 &&& (3 : Int32))), .val (.int ((((p5.toUInt32 >>> ((2 : Int32) &&& 31).toUInt32).toInt32) &&& (3 : Int32)) - (1 : Int32))), .unset, .unset] [(.int (0 : Int32))]))
          refine Runs.by (fun _ hr => XS.iload X9.here hx rfl (hb hby at_216) rfl  hr) ?_
          show Runs p e below _ (T9.setTop (mkF m 218 #[.val (.int p0), .val (.int p1), .val (.int p2), .val (.int p3), .val (.int p4), .val (.int p5), .val (.int ((p0 &&& (255 : Int32)).toUInt32.toUInt16.toUInt32.toInt32)), .val (.int ((p1 &&& (255 : Int32)).toUInt32.toUInt16.toUInt32.toInt32)), .val (.int ((p2 &&& (255 : Int32)).toUInt32.toUInt16.toUInt32.toInt32)), .val (.int (0 : Int32)), .val (.ref b1), .val (.ref b7), .val (.int (p5 &&& (3 : Int32))), .val (.int ((((p5.toUInt32 >>> ((2 : Int32) &&& 31).toUInt32).toInt32) &&& (3 : Int32)) - (1 : Int32))), .unset, .unset] [(.int ((p2 &&& (255 : Int32)).toUInt32.toUInt16.toUInt32.toInt32)), (.int (0 : Int32))]))
          refine Runs.by (fun _ hr => XS.iload X9.here hx rfl (hb hby at_218) rfl  hr) ?_
          show Runs p e below _ (T9.setTop (mkF m 220 #[.val (.int p0), .val (.int p1), .val (.int p2), .val (.int p3), .val (.int p4), .val (.int p5), .val (.int ((p0 &&& (255 : Int32)).toUInt32.toUInt16.toUInt32.toInt32)), .val (.int ((p1 &&& (255 : Int32)).toUInt32.toUInt16.toUInt32.toInt32)), .val (.int ((p2 &&& (255 : Int32)).toUInt32.toUInt16.toUInt32.toInt32)), .val (.int (0 : Int32)), .val (.ref b1), .val (.ref b7), .val (.int (p5 &&& (3 : Int32))), .val (.int ((((p5.toUInt32 >>> ((2 : Int32) &&& 31).toUInt32).toInt32) &&& (3 : Int32)) - (1 : Int32))), .unset, .unset] [(.int ((((p5.toUInt32 >>> ((2 : Int32) &&& 31).toUInt32).toInt32) &&& (3 : Int32)) - (1 : Int32))), (.int ((p2 &&& (255 : Int32)).toUInt32.toUInt16.toUInt32.toInt32)), (.int (0 : Int32))]))
          refine Runs.by (fun _ hr => XS.iadd X9.here hx rfl (hb hby at_220) rfl hr) ?_
          show Runs p e below _ (T9.setTop (mkF m 221 #[.val (.int p0), .val (.int p1), .val (.int p2), .val (.int p3), .val (.int p4), .val (.int p5), .val (.int ((p0 &&& (255 : Int32)).toUInt32.toUInt16.toUInt32.toInt32)), .val (.int ((p1 &&& (255 : Int32)).toUInt32.toUInt16.toUInt32.toInt32)), .val (.int ((p2 &&& (255 : Int32)).toUInt32.toUInt16.toUInt32.toInt32)), .val (.int (0 : Int32)), .val (.ref b1), .val (.ref b7), .val (.int (p5 &&& (3 : Int32))), .val (.int ((((p5.toUInt32 >>> ((2 : Int32) &&& 31).toUInt32).toInt32) &&& (3 : Int32)) - (1 : Int32))), .unset, .unset] [(.int (((p2 &&& (255 : Int32)).toUInt32.toUInt16.toUInt32.toInt32) + ((((p5.toUInt32 >>> ((2 : Int32) &&& 31).toUInt32).toInt32) &&& (3 : Int32)) - (1 : Int32)))), (.int (0 : Int32))]))
          obtain ⟨_, _, ⟨T16, L16, k16, n16⟩, -, X16, ⟨Lc16, hQ16, l16, y16, z16⟩, st16⟩ := Jvm.LawKit.callS X9 hx (y := (⟨"java/lang/Math", "max", "(II)I"⟩ : MethodName)) hown (mvT hZ (hw _ (List.mem_of_getElem? (i := 78) rfl))) (mvT hZ (hw _ (List.mem_of_getElem? (i := 73) rfl))) (mvT hZ (hw _ (List.mem_of_getElem? (i := 74) rfl))) (mvT hZ (hw _ (List.mem_of_getElem? (i := 75) rfl))) (by decide) (backOf (W := 0) (rm15 l Z a0 hw [] (0 : Int32) (((p2 &&& (255 : Int32)).toUInt32.toUInt16.toUInt32.toInt32) + ((((p5.toUInt32 >>> ((2 : Int32) &&& 31).toUInt32).toInt32) &&& (3 : Int32)) - (1 : Int32)))  T9.heap n0 (Nat.le_trans Z0 K10.1) ) hZ (hw _ (List.mem_of_getElem? (i := 75) rfl)) (hw _ (List.mem_of_getElem? (i := 74) rfl)) (by decide) (by decide)) (g := (mkF m 221 #[.val (.int p0), .val (.int p1), .val (.int p2), .val (.int p3), .val (.int p4), .val (.int p5), .val (.int ((p0 &&& (255 : Int32)).toUInt32.toUInt16.toUInt32.toInt32)), .val (.int ((p1 &&& (255 : Int32)).toUInt32.toUInt16.toUInt32.toInt32)), .val (.int ((p2 &&& (255 : Int32)).toUInt32.toUInt16.toUInt32.toInt32)), .val (.int (0 : Int32)), .val (.ref b1), .val (.ref b7), .val (.int (p5 &&& (3 : Int32))), .val (.int ((((p5.toUInt32 >>> ((2 : Int32) &&& 31).toUInt32).toInt32) &&& (3 : Int32)) - (1 : Int32))), .unset, .unset] [(.int (((p2 &&& (255 : Int32)).toUInt32.toUInt16.toUInt32.toInt32) + ((((p5.toUInt32 >>> ((2 : Int32) &&& 31).toUInt32).toInt32) &&& (3 : Int32)) - (1 : Int32)))), (.int (0 : Int32))])) rfl (by rw [hml]; rfl) (argsL := [(.int (0 : Int32)), (.int (((p2 &&& (255 : Int32)).toUInt32.toUInt16.toUInt32.toInt32) + ((((p5.toUInt32 >>> ((2 : Int32) &&& 31).toUInt32).toInt32) &&& (3 : Int32)) - (1 : Int32))))]) (rest := []) (lenOf pd_8 rfl) rfl (by show 2 * 0 + _ ≤ _; exact Nat.le_of_eq rfl) (hb hby at_221) (fun _ _ => ⟨rfl, rfl, (by decide : 9 + 0 ≤ _), (by decide : 526 + 0 ≤ _)⟩)
          dsimp only [Pt.U, Pt.locs, Pt.cells, Pt.slots] at X16 l16 y16 z16 st16 hQ16
          subst l16 y16 z16
          obtain ⟨rfl, Nq16, eq16⟩ := hQ16
          have N16 := Fr.app N9 Nq16
          refine Runs.by (fun t hr => st16 t hr) ?_
          show Runs p e below _ (T16.setTop (mkF m 224 #[.val (.int p0), .val (.int p1), .val (.int p2), .val (.int p3), .val (.int p4), .val (.int p5), .val (.int ((p0 &&& (255 : Int32)).toUInt32.toUInt16.toUInt32.toInt32)), .val (.int ((p1 &&& (255 : Int32)).toUInt32.toUInt16.toUInt32.toInt32)), .val (.int ((p2 &&& (255 : Int32)).toUInt32.toUInt16.toUInt32.toInt32)), .val (.int (0 : Int32)), .val (.ref b1), .val (.ref b7), .val (.int (p5 &&& (3 : Int32))), .val (.int ((((p5.toUInt32 >>> ((2 : Int32) &&& 31).toUInt32).toInt32) &&& (3 : Int32)) - (1 : Int32))), .unset, .unset] [(.int (own_max (0 : Int32) (((p2 &&& (255 : Int32)).toUInt32.toUInt16.toUInt32.toInt32) + ((((p5.toUInt32 >>> ((2 : Int32) &&& 31).toUInt32).toInt32) &&& (3 : Int32)) - (1 : Int32)))))]))
          refine Runs.by (fun _ hr => XS.istore X16.here hx rfl (hb hby at_224) rfl (l' := #[.val (.int p0), .val (.int p1), .val (.int p2), .val (.int p3), .val (.int p4), .val (.int p5), .val (.int ((p0 &&& (255 : Int32)).toUInt32.toUInt16.toUInt32.toInt32)), .val (.int ((p1 &&& (255 : Int32)).toUInt32.toUInt16.toUInt32.toInt32)), .val (.int ((p2 &&& (255 : Int32)).toUInt32.toUInt16.toUInt32.toInt32)), .val (.int (0 : Int32)), .val (.ref b1), .val (.ref b7), .val (.int (p5 &&& (3 : Int32))), .val (.int ((((p5.toUInt32 >>> ((2 : Int32) &&& 31).toUInt32).toInt32) &&& (3 : Int32)) - (1 : Int32))), .val (.int (own_max (0 : Int32) (((p2 &&& (255 : Int32)).toUInt32.toUInt16.toUInt32.toInt32) + ((((p5.toUInt32 >>> ((2 : Int32) &&& 31).toUInt32).toInt32) &&& (3 : Int32)) - (1 : Int32))))), .unset]) rfl hr) ?_
          exact JL11 (own_max (0 : Int32) (((p2 &&& (255 : Int32)).toUInt32.toUInt16.toUInt32.toInt32) + ((((p5.toUInt32 >>> ((2 : Int32) &&& 31).toUInt32).toInt32) &&& (3 : Int32)) - (1 : Int32)))) _ _ X16 eq16 N16 (own_max0 _)
  · skip
    show Runs p e below _ (s₁.setTop (mkF m 27 #[.val (.int p0), .val (.int p1), .val (.int p2), .val (.int p3), .val (.int p4), .val (.int p5), .val (.int ((p0 &&& (255 : Int32)).toUInt32.toUInt16.toUInt32.toInt32)), .val (.int ((p1 &&& (255 : Int32)).toUInt32.toUInt16.toUInt32.toInt32)), .val (.int ((p2 &&& (255 : Int32)).toUInt32.toUInt16.toUInt32.toInt32)), .unset, .unset, .unset, .unset, .unset, .unset, .unset] [(.int (1 : Int32))]))
    refine Runs.by (fun _ hr => XS.istore X0.here hx rfl (hb hby at_27) rfl (l' := #[.val (.int p0), .val (.int p1), .val (.int p2), .val (.int p3), .val (.int p4), .val (.int p5), .val (.int ((p0 &&& (255 : Int32)).toUInt32.toUInt16.toUInt32.toInt32)), .val (.int ((p1 &&& (255 : Int32)).toUInt32.toUInt16.toUInt32.toInt32)), .val (.int ((p2 &&& (255 : Int32)).toUInt32.toUInt16.toUInt32.toInt32)), .val (.int (1 : Int32)), .unset, .unset, .unset, .unset, .unset, .unset]) rfl hr) ?_
    show Runs p e below _ (s₁.setTop (mkF m 29 #[.val (.int p0), .val (.int p1), .val (.int p2), .val (.int p3), .val (.int p4), .val (.int p5), .val (.int ((p0 &&& (255 : Int32)).toUInt32.toUInt16.toUInt32.toInt32)), .val (.int ((p1 &&& (255 : Int32)).toUInt32.toUInt16.toUInt32.toInt32)), .val (.int ((p2 &&& (255 : Int32)).toUInt32.toUInt16.toUInt32.toInt32)), .val (.int (1 : Int32)), .unset, .unset, .unset, .unset, .unset, .unset] []))
    refine Runs.by (fun _ hr => XS.iload X0.here hx rfl (hb hby at_29) rfl  hr) ?_
    show Runs p e below _ (s₁.setTop (mkF m 31 #[.val (.int p0), .val (.int p1), .val (.int p2), .val (.int p3), .val (.int p4), .val (.int p5), .val (.int ((p0 &&& (255 : Int32)).toUInt32.toUInt16.toUInt32.toInt32)), .val (.int ((p1 &&& (255 : Int32)).toUInt32.toUInt16.toUInt32.toInt32)), .val (.int ((p2 &&& (255 : Int32)).toUInt32.toUInt16.toUInt32.toInt32)), .val (.int (1 : Int32)), .unset, .unset, .unset, .unset, .unset, .unset] [(.int (1 : Int32))]))
    have hc31 : ¬ ((1 : Int32) = (0 : Int32)) := (by decide)
    refine Runs.by (fun _ hr => XS.ifYes X0.here hx rfl (pc0 := 31) (pc' := 49) rfl (hb hby at_31) rfl ((if0 _ _).trans (feq hc31).2) (by decide) (by decide) hr) ?_
    show Runs p e below _ (s₁.setTop (mkF m 49 #[.val (.int p0), .val (.int p1), .val (.int p2), .val (.int p3), .val (.int p4), .val (.int p5), .val (.int ((p0 &&& (255 : Int32)).toUInt32.toUInt16.toUInt32.toInt32)), .val (.int ((p1 &&& (255 : Int32)).toUInt32.toUInt16.toUInt32.toInt32)), .val (.int ((p2 &&& (255 : Int32)).toUInt32.toUInt16.toUInt32.toInt32)), .val (.int (1 : Int32)), .unset, .unset, .unset, .unset, .unset, .unset] []))
    refine Runs.by (fun _ hr => XS.iload X0.here hx rfl (hb hby at_49) rfl  hr) ?_
    show Runs p e below _ (s₁.setTop (mkF m 51 #[.val (.int p0), .val (.int p1), .val (.int p2), .val (.int p3), .val (.int p4), .val (.int p5), .val (.int ((p0 &&& (255 : Int32)).toUInt32.toUInt16.toUInt32.toInt32)), .val (.int ((p1 &&& (255 : Int32)).toUInt32.toUInt16.toUInt32.toInt32)), .val (.int ((p2 &&& (255 : Int32)).toUInt32.toUInt16.toUInt32.toInt32)), .val (.int (1 : Int32)), .unset, .unset, .unset, .unset, .unset, .unset] [(.int (1 : Int32))]))
    refine Runs.by (fun _ hr => XS.iconst X0.here hx rfl (hb hby at_51) hr) ?_
    show Runs p e below _ (s₁.setTop (mkF m 52 #[.val (.int p0), .val (.int p1), .val (.int p2), .val (.int p3), .val (.int p4), .val (.int p5), .val (.int ((p0 &&& (255 : Int32)).toUInt32.toUInt16.toUInt32.toInt32)), .val (.int ((p1 &&& (255 : Int32)).toUInt32.toUInt16.toUInt32.toInt32)), .val (.int ((p2 &&& (255 : Int32)).toUInt32.toUInt16.toUInt32.toInt32)), .val (.int (1 : Int32)), .unset, .unset, .unset, .unset, .unset, .unset] [(.int (1 : Int32)), (.int (1 : Int32))]))
    have hc52 : (1 : Int32) = (1 : Int32) := (by decide)
    refine Runs.by (fun _ hr => XS.icmpNo X0.here hx rfl (hb hby at_52) rfl (teq hc52).2 hr) ?_
    show Runs p e below _ (s₁.setTop (mkF m 55 #[.val (.int p0), .val (.int p1), .val (.int p2), .val (.int p3), .val (.int p4), .val (.int p5), .val (.int ((p0 &&& (255 : Int32)).toUInt32.toUInt16.toUInt32.toInt32)), .val (.int ((p1 &&& (255 : Int32)).toUInt32.toUInt16.toUInt32.toInt32)), .val (.int ((p2 &&& (255 : Int32)).toUInt32.toUInt16.toUInt32.toInt32)), .val (.int (1 : Int32)), .unset, .unset, .unset, .unset, .unset, .unset] []))
    obtain ⟨T17, h17, X17, e17, E17, A17, D17, -, st17⟩ := newO X0 hx hZ hown (hw _ (List.mem_of_getElem? (i := 0) rfl)) (hw _ (List.mem_of_getElem? (i := 1) rfl)) (hw _ (List.mem_of_getElem? (i := 2) rfl)) e0 (g := (mkF m 55 #[.val (.int p0), .val (.int p1), .val (.int p2), .val (.int p3), .val (.int p4), .val (.int p5), .val (.int ((p0 &&& (255 : Int32)).toUInt32.toUInt16.toUInt32.toInt32)), .val (.int ((p1 &&& (255 : Int32)).toUInt32.toUInt16.toUInt32.toInt32)), .val (.int ((p2 &&& (255 : Int32)).toUInt32.toUInt16.toUInt32.toInt32)), .val (.int (1 : Int32)), .unset, .unset, .unset, .unset, .unset, .unset] [])) rfl (hb hby at_55) (by decide) (by decide)
    obtain ⟨b17, gz17⟩ : ∃ z, z = h0.size := ⟨_, rfl⟩
    rw [← gz17] at A17 D17 st17
    have Sf_b17 : Safe Z consts_1 s.vm h0 b17 := Safe.new (Nat.le_of_eq gz17.symm)
    have g_b17 : n0 ≤ b17 := Nat.le_trans (Nat.le_trans Z0 K0.1) (Nat.le_of_eq gz17.symm)
    have sz_b17 : h0.size ≤ b17 := Nat.le_trans K0.1 (Nat.le_of_eq gz17.symm)
    have K18 : Keep h0 h17 [] := K0.ext E17
    have O_18 : Old Z n0 h17 := O0.ext E17
    have Sf_b17__K18 := Safe.ext E17 hC.1 Sf_b17
    have hk : _ ≤ h17.size := Nat.le_trans hk E17.1
    have hC := hC.trans (CHr.ext E17 hC.1)
    have F_coder_b17 : Fld Z h17 b17 "java/lang/String" "coder" "B" (.int (0 : Int32)) := D17 (Or.inr (hw _ (List.mem_of_getElem? (i := 27) rfl))) (ty := .byte) (by decide)
    have F_value_b17 : Fld Z h17 b17 "java/lang/String" "value" "[B" .null := D17 (Or.inr (hw _ (List.mem_of_getElem? (i := 29) rfl))) (ty := (.array .byte)) (by decide)
    refine Runs.by st17 ?_
    show Runs p e below _ (T17.setTop (mkF m 58 #[.val (.int p0), .val (.int p1), .val (.int p2), .val (.int p3), .val (.int p4), .val (.int p5), .val (.int ((p0 &&& (255 : Int32)).toUInt32.toUInt16.toUInt32.toInt32)), .val (.int ((p1 &&& (255 : Int32)).toUInt32.toUInt16.toUInt32.toInt32)), .val (.int ((p2 &&& (255 : Int32)).toUInt32.toUInt16.toUInt32.toInt32)), .val (.int (1 : Int32)), .unset, .unset, .unset, .unset, .unset, .unset] [(.ref b17)]))
    refine Runs.by (fun _ hr => XS.dup X17.here hx rfl (hb hby at_58) rfl rfl hr) ?_
    show Runs p e below _ (T17.setTop (mkF m 59 #[.val (.int p0), .val (.int p1), .val (.int p2), .val (.int p3), .val (.int p4), .val (.int p5), .val (.int ((p0 &&& (255 : Int32)).toUInt32.toUInt16.toUInt32.toInt32)), .val (.int ((p1 &&& (255 : Int32)).toUInt32.toUInt16.toUInt32.toInt32)), .val (.int ((p2 &&& (255 : Int32)).toUInt32.toUInt16.toUInt32.toInt32)), .val (.int (1 : Int32)), .unset, .unset, .unset, .unset, .unset, .unset] [(.ref b17), (.ref b17)]))
    refine Runs.by (fun _ hr => XS.iconst X17.here hx rfl (hb hby at_59) hr) ?_
    show Runs p e below _ (T17.setTop (mkF m 60 #[.val (.int p0), .val (.int p1), .val (.int p2), .val (.int p3), .val (.int p4), .val (.int p5), .val (.int ((p0 &&& (255 : Int32)).toUInt32.toUInt16.toUInt32.toInt32)), .val (.int ((p1 &&& (255 : Int32)).toUInt32.toUInt16.toUInt32.toInt32)), .val (.int ((p2 &&& (255 : Int32)).toUInt32.toUInt16.toUInt32.toInt32)), .val (.int (1 : Int32)), .unset, .unset, .unset, .unset, .unset, .unset] [(.int (1 : Int32)), (.ref b17), (.ref b17)]))
    obtain ⟨T19, h19, k19, X19, e19, E19, A19, st19⟩ := newP X17 hx hZ (hw _ (List.mem_of_getElem? (i := 3) rfl)) e17 (g := (mkF m 60 #[.val (.int p0), .val (.int p1), .val (.int p2), .val (.int p3), .val (.int p4), .val (.int p5), .val (.int ((p0 &&& (255 : Int32)).toUInt32.toUInt16.toUInt32.toInt32)), .val (.int ((p1 &&& (255 : Int32)).toUInt32.toUInt16.toUInt32.toInt32)), .val (.int ((p2 &&& (255 : Int32)).toUInt32.toUInt16.toUInt32.toInt32)), .val (.int (1 : Int32)), .unset, .unset, .unset, .unset, .unset, .unset] [(.int (1 : Int32)), (.ref b17), (.ref b17)])) rfl (hb hby at_60) rfl (by decide) (cap := 1) (by decide) (by decide) (by decide) (by decide)
    obtain ⟨b19, gz19⟩ : ∃ z, z = h17.size := ⟨_, rfl⟩
    rw [← gz19] at A19 st19
    have ne_b17_b19 : b17 ≠ b19 := Nat.ne_of_lt (Nat.lt_of_lt_of_le A17.lt (Nat.le_of_eq gz19.symm))
    have Sf_b19 : Safe Z consts_1 s.vm h17 b19 := Safe.new (Nat.le_of_eq gz19.symm)
    have g_b19 : n0 ≤ b19 := Nat.le_trans (Nat.le_trans Z0 K18.1) (Nat.le_of_eq gz19.symm)
    have sz_b19 : h0.size ≤ b19 := Nat.le_trans K18.1 (Nat.le_of_eq gz19.symm)
    have K20 : Keep h0 h19 [] := K18.ext E19
    have O_20 : Old Z n0 h19 := O_18.ext E19
    have Sf_b17__K20 := Safe.ext E19 hC.1 Sf_b17__K18
    have Sf_b19__K20 := Safe.ext E19 hC.1 Sf_b19
    have hk : _ ≤ h19.size := Nat.le_trans hk E19.1
    have hC := hC.trans (CHr.ext E19 hC.1)
    have V19 : Arv Z h19 b19 k19 .char (1 : Int32) [(.int (0 : Int32))] (.int (0 : Int32)) := (Arv.new A19 (by decide)).pad (pad_rep [] (.int (0 : Int32)) 1)
    refine Runs.by st19 ?_
    show Runs p e below _ (T19.setTop (mkF m 62 #[.val (.int p0), .val (.int p1), .val (.int p2), .val (.int p3), .val (.int p4), .val (.int p5), .val (.int ((p0 &&& (255 : Int32)).toUInt32.toUInt16.toUInt32.toInt32)), .val (.int ((p1 &&& (255 : Int32)).toUInt32.toUInt16.toUInt32.toInt32)), .val (.int ((p2 &&& (255 : Int32)).toUInt32.toUInt16.toUInt32.toInt32)), .val (.int (1 : Int32)), .unset, .unset, .unset, .unset, .unset, .unset] [(.ref b19), (.ref b17), (.ref b17)]))
    refine Runs.by (fun _ hr => XS.dup X19.here hx rfl (hb hby at_62) rfl rfl hr) ?_
    show Runs p e below _ (T19.setTop (mkF m 63 #[.val (.int p0), .val (.int p1), .val (.int p2), .val (.int p3), .val (.int p4), .val (.int p5), .val (.int ((p0 &&& (255 : Int32)).toUInt32.toUInt16.toUInt32.toInt32)), .val (.int ((p1 &&& (255 : Int32)).toUInt32.toUInt16.toUInt32.toInt32)), .val (.int ((p2 &&& (255 : Int32)).toUInt32.toUInt16.toUInt32.toInt32)), .val (.int (1 : Int32)), .unset, .unset, .unset, .unset, .unset, .unset] [(.ref b19), (.ref b19), (.ref b17), (.ref b17)]))
    refine Runs.by (fun _ hr => XS.iconst X19.here hx rfl (hb hby at_63) hr) ?_
    show Runs p e below _ (T19.setTop (mkF m 64 #[.val (.int p0), .val (.int p1), .val (.int p2), .val (.int p3), .val (.int p4), .val (.int p5), .val (.int ((p0 &&& (255 : Int32)).toUInt32.toUInt16.toUInt32.toInt32)), .val (.int ((p1 &&& (255 : Int32)).toUInt32.toUInt16.toUInt32.toInt32)), .val (.int ((p2 &&& (255 : Int32)).toUInt32.toUInt16.toUInt32.toInt32)), .val (.int (1 : Int32)), .unset, .unset, .unset, .unset, .unset, .unset] [(.int (0 : Int32)), (.ref b19), (.ref b19), (.ref b17), (.ref b17)]))
    refine Runs.by (fun _ hr => XS.iload X19.here hx rfl (hb hby at_64) rfl  hr) ?_
    show Runs p e below _ (T19.setTop (mkF m 66 #[.val (.int p0), .val (.int p1), .val (.int p2), .val (.int p3), .val (.int p4), .val (.int p5), .val (.int ((p0 &&& (255 : Int32)).toUInt32.toUInt16.toUInt32.toInt32)), .val (.int ((p1 &&& (255 : Int32)).toUInt32.toUInt16.toUInt32.toInt32)), .val (.int ((p2 &&& (255 : Int32)).toUInt32.toUInt16.toUInt32.toInt32)), .val (.int (1 : Int32)), .unset, .unset, .unset, .unset, .unset, .unset] [(.int ((p0 &&& (255 : Int32)).toUInt32.toUInt16.toUInt32.toInt32)), (.int (0 : Int32)), (.ref b19), (.ref b19), (.ref b17), (.ref b17)]))
    obtain ⟨cl21, Ar21, q21, S21, N21', H21, G21⟩ := id V19
    have hin21 : ¬ ((0 : Int32) < 0 ∨ cl21.slots.size ≤ ((0 : Int32)).toNatClampNeg) := inb_of S21 ⟨by decide, by decide⟩
    obtain ⟨T21, h21, X21, e21, W21, st21⟩ := stC X19 hx hZ e19 Ar21 (j := (0 : Int32)) hin21 (g := (mkF m 66 #[.val (.int p0), .val (.int p1), .val (.int p2), .val (.int p3), .val (.int p4), .val (.int p5), .val (.int ((p0 &&& (255 : Int32)).toUInt32.toUInt16.toUInt32.toInt32)), .val (.int ((p1 &&& (255 : Int32)).toUInt32.toUInt16.toUInt32.toInt32)), .val (.int ((p2 &&& (255 : Int32)).toUInt32.toUInt16.toUInt32.toInt32)), .val (.int (1 : Int32)), .unset, .unset, .unset, .unset, .unset, .unset] [(.int ((p0 &&& (255 : Int32)).toUInt32.toUInt16.toUInt32.toInt32)), (.int (0 : Int32)), (.ref b19), (.ref b19), (.ref b17), (.ref b17)])) rfl rfl (hb hby at_66)
    have V21 : Arv Z h21 b19 k19 .char (1 : Int32) [(.int (nar .char ((p0 &&& (255 : Int32)).toUInt32.toUInt16.toUInt32.toInt32)))] (.int (0 : Int32)) := Arv.set Ar21 q21 S21 N21' H21 G21 (fits_nar_char _) W21 (0) rfl (Nat.le_of_ble_eq_true rfl)
    have K22 : Keep h0 h21 [] := K20.wr W21 (Or.inr sz_b19)
    have O_22 : Old Z n0 h21 := O_20.wr W21 g_b19
    have Sf_b17__K22 := Safe.wr W21 Sf_b19__K20 hC.1 Sf_b17__K20
    have Sf_b19__K22 := Safe.wr W21 Sf_b19__K20 hC.1 Sf_b19__K20
    have hk : _ ≤ h21.size := Nat.le_trans hk (Keep.of_wr W21).1
    have hC := hC.trans (CHr.wr W21 Sf_b19__K20 hC.1)
    have N21 := Fr.snoc X21 N0 g_b19
    refine Runs.by st21 ?_
    show Runs p e below _ (T21.setTop (mkF m 67 #[.val (.int p0), .val (.int p1), .val (.int p2), .val (.int p3), .val (.int p4), .val (.int p5), .val (.int ((p0 &&& (255 : Int32)).toUInt32.toUInt16.toUInt32.toInt32)), .val (.int ((p1 &&& (255 : Int32)).toUInt32.toUInt16.toUInt32.toInt32)), .val (.int ((p2 &&& (255 : Int32)).toUInt32.toUInt16.toUInt32.toInt32)), .val (.int (1 : Int32)), .unset, .unset, .unset, .unset, .unset, .unset] [(.ref b19), (.ref b17), (.ref b17)]))
    have hpc : ∀ c ∈ ([(nar .char ((p0 &&& (255 : Int32)).toUInt32.toUInt16.toUInt32.toInt32))] : List Int32), ¬ c < 0 ∧ ¬ (255 : Int32) < c := by
        intro c hc
        simp only [List.mem_cons, List.not_mem_nil, or_false] at hc
        subst hc
        exact own_and255 _
    obtain ⟨_, _, ⟨T23, L23, k23, n23⟩, -, X23, ⟨Lc23, hQ23, l23, y23, z23⟩, st23⟩ := X21.specialBack hx (y := (⟨"java/lang/String", "<init>", "([C)V"⟩ : MethodName)) rfl hown (mvT hZ (hw _ (List.mem_of_getElem? (i := 4) rfl))) (mvT hZ (hw _ (List.mem_of_getElem? (i := 5) rfl))) (mvT hZ (hw _ (List.mem_of_getElem? (i := 6) rfl))) (by decide) (StrChars.Road.backV (W := 1) hZ hws (kI := 4) (hw _ (List.mem_of_getElem? (i := 1) rfl)) (cs := ([(nar .char ((p0 &&& (255 : Int32)).toUInt32.toUInt16.toUInt32.toInt32))] : List Int32)) (bs := ([(nar .char ((p0 &&& (255 : Int32)).toUInt32.toUInt16.toUInt32.toInt32))] : List Int32).map (fun c => c.toInt8.toInt32)) (n := 1) g_b17 (Nat.le_trans Z0 K22.1) ((A17.ext E19).wr W21) ((F_value_b17.ext E19).other W21 (Or.inl ne_b17_b19)) ((F_coder_b17.ext E19).other W21 (Or.inl ne_b17_b19)) V21 (SC.ext O_22.2) cC rfl rfl (by decide) (by decide) hpc rfl (by decide) (by decide)) (g := (mkF m 67 #[.val (.int p0), .val (.int p1), .val (.int p2), .val (.int p3), .val (.int p4), .val (.int p5), .val (.int ((p0 &&& (255 : Int32)).toUInt32.toUInt16.toUInt32.toInt32)), .val (.int ((p1 &&& (255 : Int32)).toUInt32.toUInt16.toUInt32.toInt32)), .val (.int ((p2 &&& (255 : Int32)).toUInt32.toUInt16.toUInt32.toInt32)), .val (.int (1 : Int32)), .unset, .unset, .unset, .unset, .unset, .unset] [(.ref b19), (.ref b17), (.ref b17)])) rfl (by rw [hml]; rfl) (Steps.refl _) (a := b17) (argsL := [(.ref b19)]) (rest := [(.ref b17)]) (lenOf pd_9 rfl) rfl (by show 2 * 0 + _ ≤ _; exact Nat.le_of_eq rfl) (hb hby at_67) (fun _ _ => ⟨rfl, e21, (by decide : 2 + 1 ≤ _), (by decide : 5 + 1 ≤ _)⟩)
    dsimp only [Pt.U, Pt.locs, Pt.cells, Pt.slots] at X23 l23 y23 z23 st23 hQ23
    subst l23 y23 z23
    obtain ⟨rfl, Nq23, Kq23, fE23, fC23, t23, kb23, g_t23, szt23, nt23, fV23, fA23⟩ := hQ23
    have N23 := Fr.app N21 Nq23
    have ne_b17_t23 : b17 ≠ t23 := Nat.ne_of_lt (Nat.lt_of_lt_of_le ((A17.ext E19).wr W21).lt szt23)
    have ne_b19_t23 : b19 ≠ t23 := Nat.ne_of_lt (Nat.lt_of_lt_of_le V21.lt szt23)
    have sz_t23 : h0.size ≤ t23 := Nat.le_trans K22.1 szt23
    have K24 : Keep h0 T23.heap [] := Keep.trans (ws := []) K22 Kq23 (allS (Or.inr sz_b17) all0)
    have O_24 : Old Z n0 T23.heap := O_22.keep Kq23 (allS g_b17 all0)
    have Sf_b17__K24 := Safe.keep Kq23 (allS Sf_b17__K22 all0) hC.1 Sf_b17__K22
    have Sf_b19__K24 := Safe.keep Kq23 (allS Sf_b17__K22 all0) hC.1 Sf_b19__K22
    have hk : _ ≤ T23.heap.size := Nat.le_trans hk Kq23.1
    have hC := hC.trans (CHr.keep Kq23 (allS Sf_b17__K22 all0) hC.1)
    refine Runs.by (fun _ hr => st23.trans hr) ?_
    show Runs p e below _ (T23.setTop (mkF m 70 #[.val (.int p0), .val (.int p1), .val (.int p2), .val (.int p3), .val (.int p4), .val (.int p5), .val (.int ((p0 &&& (255 : Int32)).toUInt32.toUInt16.toUInt32.toInt32)), .val (.int ((p1 &&& (255 : Int32)).toUInt32.toUInt16.toUInt32.toInt32)), .val (.int ((p2 &&& (255 : Int32)).toUInt32.toUInt16.toUInt32.toInt32)), .val (.int (1 : Int32)), .unset, .unset, .unset, .unset, .unset, .unset] [(.ref b17)]))
    refine Runs.by (fun _ hr => XS.astore X23.here hx rfl (hb hby at_70) rfl rfl (l' := #[.val (.int p0), .val (.int p1), .val (.int p2), .val (.int p3), .val (.int p4), .val (.int p5), .val (.int ((p0 &&& (255 : Int32)).toUInt32.toUInt16.toUInt32.toInt32)), .val (.int ((p1 &&& (255 : Int32)).toUInt32.toUInt16.toUInt32.toInt32)), .val (.int ((p2 &&& (255 : Int32)).toUInt32.toUInt16.toUInt32.toInt32)), .val (.int (1 : Int32)), .val (.ref b17), .unset, .unset, .unset, .unset, .unset]) rfl hr) ?_
    show Runs p e below _ (T23.setTop (mkF m 72 #[.val (.int p0), .val (.int p1), .val (.int p2), .val (.int p3), .val (.int p4), .val (.int p5), .val (.int ((p0 &&& (255 : Int32)).toUInt32.toUInt16.toUInt32.toInt32)), .val (.int ((p1 &&& (255 : Int32)).toUInt32.toUInt16.toUInt32.toInt32)), .val (.int ((p2 &&& (255 : Int32)).toUInt32.toUInt16.toUInt32.toInt32)), .val (.int (1 : Int32)), .val (.ref b17), .unset, .unset, .unset, .unset, .unset] []))
    refine Runs.by (fun _ hr => XS.goto X23.here hx rfl (pc0 := 72) (pc' := 133) rfl (hb hby at_72) (by decide) (by decide) hr) ?_
    show Runs p e below _ (T23.setTop (mkF m 133 #[.val (.int p0), .val (.int p1), .val (.int p2), .val (.int p3), .val (.int p4), .val (.int p5), .val (.int ((p0 &&& (255 : Int32)).toUInt32.toUInt16.toUInt32.toInt32)), .val (.int ((p1 &&& (255 : Int32)).toUInt32.toUInt16.toUInt32.toInt32)), .val (.int ((p2 &&& (255 : Int32)).toUInt32.toUInt16.toUInt32.toInt32)), .val (.int (1 : Int32)), .val (.ref b17), .unset, .unset, .unset, .unset, .unset] []))
    obtain ⟨T25, h25, X25, e25, E25, A25, D25, -, st25⟩ := newO X23 hx hZ hown (hw _ (List.mem_of_getElem? (i := 30) rfl)) (hw _ (List.mem_of_getElem? (i := 31) rfl)) (hw _ (List.mem_of_getElem? (i := 32) rfl)) rfl (g := (mkF m 133 #[.val (.int p0), .val (.int p1), .val (.int p2), .val (.int p3), .val (.int p4), .val (.int p5), .val (.int ((p0 &&& (255 : Int32)).toUInt32.toUInt16.toUInt32.toInt32)), .val (.int ((p1 &&& (255 : Int32)).toUInt32.toUInt16.toUInt32.toInt32)), .val (.int ((p2 &&& (255 : Int32)).toUInt32.toUInt16.toUInt32.toInt32)), .val (.int (1 : Int32)), .val (.ref b17), .unset, .unset, .unset, .unset, .unset] [])) rfl (hb hby at_133) (by decide) (by decide)
    obtain ⟨b25, gz25⟩ : ∃ z, z = T23.heap.size := ⟨_, rfl⟩
    rw [← gz25] at A25 D25 st25
    have ne_b17_b25 : b17 ≠ b25 := Nat.ne_of_lt (Nat.lt_of_lt_of_le fE23.lt (Nat.le_of_eq gz25.symm))
    have ne_b19_b25 : b19 ≠ b25 := Nat.ne_of_lt (Nat.lt_of_lt_of_le (V21.keep Kq23 (ninS (Ne.symm ne_b17_b19) nin0)).lt (Nat.le_of_eq gz25.symm))
    have ne_t23_b25 : t23 ≠ b25 := Nat.ne_of_lt (Nat.lt_of_lt_of_le fA23.lt (Nat.le_of_eq gz25.symm))
    have Sf_b25 : Safe Z consts_1 s.vm T23.heap b25 := Safe.new (Nat.le_of_eq gz25.symm)
    have g_b25 : n0 ≤ b25 := Nat.le_trans (Nat.le_trans Z0 K24.1) (Nat.le_of_eq gz25.symm)
    have sz_b25 : h0.size ≤ b25 := Nat.le_trans K24.1 (Nat.le_of_eq gz25.symm)
    have K26 : Keep h0 h25 [] := K24.ext E25
    have O_26 : Old Z n0 h25 := O_24.ext E25
    have Sf_b17__K26 := Safe.ext E25 hC.1 Sf_b17__K24
    have Sf_b19__K26 := Safe.ext E25 hC.1 Sf_b19__K24
    have Sf_b25__K26 := Safe.ext E25 hC.1 Sf_b25
    have hk : _ ≤ h25.size := Nat.le_trans hk E25.1
    have hC := hC.trans (CHr.ext E25 hC.1)
    have F_firstBytes_b25 : Fld Z h25 b25 "com/example/vedette/vedette/io/Utf8Buffer$Stops" "firstBytes" "[Z" .null := D25 (Or.inr (hw _ (List.mem_of_getElem? (i := 39) rfl))) (ty := (.array .boolean)) (by decide)
    have F_chars_b25 : Fld Z h25 b25 "com/example/vedette/vedette/io/Utf8Buffer$Stops" "chars" "[Z" .null := D25 (Or.inr (hw _ (List.mem_of_getElem? (i := 77) rfl))) (ty := (.array .boolean)) (by decide)
    refine Runs.by st25 ?_
    show Runs p e below _ (T25.setTop (mkF m 136 #[.val (.int p0), .val (.int p1), .val (.int p2), .val (.int p3), .val (.int p4), .val (.int p5), .val (.int ((p0 &&& (255 : Int32)).toUInt32.toUInt16.toUInt32.toInt32)), .val (.int ((p1 &&& (255 : Int32)).toUInt32.toUInt16.toUInt32.toInt32)), .val (.int ((p2 &&& (255 : Int32)).toUInt32.toUInt16.toUInt32.toInt32)), .val (.int (1 : Int32)), .val (.ref b17), .unset, .unset, .unset, .unset, .unset] [(.ref b25)]))
    refine Runs.by (fun _ hr => XS.dup X25.here hx rfl (hb hby at_136) rfl rfl hr) ?_
    show Runs p e below _ (T25.setTop (mkF m 137 #[.val (.int p0), .val (.int p1), .val (.int p2), .val (.int p3), .val (.int p4), .val (.int p5), .val (.int ((p0 &&& (255 : Int32)).toUInt32.toUInt16.toUInt32.toInt32)), .val (.int ((p1 &&& (255 : Int32)).toUInt32.toUInt16.toUInt32.toInt32)), .val (.int ((p2 &&& (255 : Int32)).toUInt32.toUInt16.toUInt32.toInt32)), .val (.int (1 : Int32)), .val (.ref b17), .unset, .unset, .unset, .unset, .unset] [(.ref b25), (.ref b25)]))
    refine Runs.by (fun _ hr => XS.aload X25.here hx rfl (hb hby at_137) rfl rfl hr) ?_
    show Runs p e below _ (T25.setTop (mkF m 139 #[.val (.int p0), .val (.int p1), .val (.int p2), .val (.int p3), .val (.int p4), .val (.int p5), .val (.int ((p0 &&& (255 : Int32)).toUInt32.toUInt16.toUInt32.toInt32)), .val (.int ((p1 &&& (255 : Int32)).toUInt32.toUInt16.toUInt32.toInt32)), .val (.int ((p2 &&& (255 : Int32)).toUInt32.toUInt16.toUInt32.toInt32)), .val (.int (1 : Int32)), .val (.ref b17), .unset, .unset, .unset, .unset, .unset] [(.ref b17), (.ref b25), (.ref b25)]))
    obtain ⟨_, _, ⟨T27, L27, k27, n27⟩, -, X27, ⟨Lc27, hQ27, l27, y27, z27⟩, st27⟩ := X25.specialBack hx (y := (⟨"com/example/vedette/vedette/io/Utf8Buffer$Stops", "<init>", "(Ljava/lang/String;)V"⟩ : MethodName)) rfl hown (mvT hZ (hw _ (List.mem_of_getElem? (i := 33) rfl))) (mvT hZ (hw _ (List.mem_of_getElem? (i := 34) rfl))) (mvT hZ (hw _ (List.mem_of_getElem? (i := 35) rfl))) (by decide) (backOf (W := 1) (rm7_1 l Z a0 hw [] b25 b17 gC vG t23 kb23 ((nar .char ((p0 &&& (255 : Int32)).toUInt32.toUInt16.toUInt32.toInt32))) h25 n0 (Nat.le_trans Z0 K26.1) A25 F_firstBytes_b25 F_chars_b25 g_b25 (fE23.ext E25) SC cC hvG SG (fC23.ext E25) (fV23.ext E25) (fA23.ext E25) ne_b17_b25 ne_t23_b25 (own_and255 _) O_26) hZ (hw _ (List.mem_of_getElem? (i := 35) rfl)) (hw _ (List.mem_of_getElem? (i := 32) rfl)) (by decide) (by decide)) (g := (mkF m 139 #[.val (.int p0), .val (.int p1), .val (.int p2), .val (.int p3), .val (.int p4), .val (.int p5), .val (.int ((p0 &&& (255 : Int32)).toUInt32.toUInt16.toUInt32.toInt32)), .val (.int ((p1 &&& (255 : Int32)).toUInt32.toUInt16.toUInt32.toInt32)), .val (.int ((p2 &&& (255 : Int32)).toUInt32.toUInt16.toUInt32.toInt32)), .val (.int (1 : Int32)), .val (.ref b17), .unset, .unset, .unset, .unset, .unset] [(.ref b17), (.ref b25), (.ref b25)])) rfl (by rw [hml]; rfl) (Steps.refl _) (a := b25) (argsL := [(.ref b17)]) (rest := [(.ref b25)]) (lenOf pd_10 rfl) rfl (by show 2 * 0 + _ ≤ _; exact Nat.le_of_eq rfl) (hb hby at_139) (fun _ _ => ⟨rfl, e25, (by decide : 4 + 2 ≤ _), (by decide : 8 + 512 ≤ _)⟩)
    dsimp only [Pt.U, Pt.locs, Pt.cells, Pt.slots] at X27 l27 y27 z27 st27 hQ27
    subst l27 y27 z27
    obtain ⟨rfl, Nq27, Kq27, f27_0, t27, kt27, z27, wf27, f27_1, f27_2, hs27⟩ := hQ27
    have N27 := Fr.app N23 Nq27
    have K28 : Keep h0 T27.heap [] := Keep.trans (ws := []) K26 Kq27 (allS (Or.inr sz_b25) all0)
    have O_28 : Old Z n0 T27.heap := O_26.keep Kq27 (allS g_b25 all0)
    have Sf_b17__K28 := Safe.keep Kq27 (allS Sf_b25__K26 all0) hC.1 Sf_b17__K26
    have Sf_b19__K28 := Safe.keep Kq27 (allS Sf_b25__K26 all0) hC.1 Sf_b19__K26
    have Sf_b25__K28 := Safe.keep Kq27 (allS Sf_b25__K26 all0) hC.1 Sf_b25__K26
    have hk : _ ≤ T27.heap.size := Nat.le_trans hk Kq27.1
    have hC := hC.trans (CHr.keep Kq27 (allS Sf_b25__K26 all0) hC.1)
    refine Runs.by (fun _ hr => st27.trans hr) ?_
    show Runs p e below _ (T27.setTop (mkF m 142 #[.val (.int p0), .val (.int p1), .val (.int p2), .val (.int p3), .val (.int p4), .val (.int p5), .val (.int ((p0 &&& (255 : Int32)).toUInt32.toUInt16.toUInt32.toInt32)), .val (.int ((p1 &&& (255 : Int32)).toUInt32.toUInt16.toUInt32.toInt32)), .val (.int ((p2 &&& (255 : Int32)).toUInt32.toUInt16.toUInt32.toInt32)), .val (.int (1 : Int32)), .val (.ref b17), .unset, .unset, .unset, .unset, .unset] [(.ref b25)]))
    refine Runs.by (fun _ hr => XS.astore X27.here hx rfl (hb hby at_142) rfl rfl (l' := #[.val (.int p0), .val (.int p1), .val (.int p2), .val (.int p3), .val (.int p4), .val (.int p5), .val (.int ((p0 &&& (255 : Int32)).toUInt32.toUInt16.toUInt32.toInt32)), .val (.int ((p1 &&& (255 : Int32)).toUInt32.toUInt16.toUInt32.toInt32)), .val (.int ((p2 &&& (255 : Int32)).toUInt32.toUInt16.toUInt32.toInt32)), .val (.int (1 : Int32)), .val (.ref b17), .val (.ref b25), .unset, .unset, .unset, .unset]) rfl hr) ?_
    show Runs p e below _ (T27.setTop (mkF m 144 #[.val (.int p0), .val (.int p1), .val (.int p2), .val (.int p3), .val (.int p4), .val (.int p5), .val (.int ((p0 &&& (255 : Int32)).toUInt32.toUInt16.toUInt32.toInt32)), .val (.int ((p1 &&& (255 : Int32)).toUInt32.toUInt16.toUInt32.toInt32)), .val (.int ((p2 &&& (255 : Int32)).toUInt32.toUInt16.toUInt32.toInt32)), .val (.int (1 : Int32)), .val (.ref b17), .val (.ref b25), .unset, .unset, .unset, .unset] []))
    refine Runs.by (fun _ hr => XS.iload X27.here hx rfl (hb hby at_144) rfl  hr) ?_
    show Runs p e below _ (T27.setTop (mkF m 146 #[.val (.int p0), .val (.int p1), .val (.int p2), .val (.int p3), .val (.int p4), .val (.int p5), .val (.int ((p0 &&& (255 : Int32)).toUInt32.toUInt16.toUInt32.toInt32)), .val (.int ((p1 &&& (255 : Int32)).toUInt32.toUInt16.toUInt32.toInt32)), .val (.int ((p2 &&& (255 : Int32)).toUInt32.toUInt16.toUInt32.toInt32)), .val (.int (1 : Int32)), .val (.ref b17), .val (.ref b25), .unset, .unset, .unset, .unset] [(.int p5)]))
    refine Runs.by (fun _ hr => XS.iconst X27.here hx rfl (hb hby at_146) hr) ?_
    show Runs p e below _ (T27.setTop (mkF m 147 #[.val (.int p0), .val (.int p1), .val (.int p2), .val (.int p3), .val (.int p4), .val (.int p5), .val (.int ((p0 &&& (255 : Int32)).toUInt32.toUInt16.toUInt32.toInt32)), .val (.int ((p1 &&& (255 : Int32)).toUInt32.toUInt16.toUInt32.toInt32)), .val (.int ((p2 &&& (255 : Int32)).toUInt32.toUInt16.toUInt32.toInt32)), .val (.int (1 : Int32)), .val (.ref b17), .val (.ref b25), .unset, .unset, .unset, .unset] [(.int (3 : Int32)), (.int p5)]))
    refine Runs.by (fun _ hr => XS.iand X27.here hx rfl (hb hby at_147) rfl hr) ?_
    show Runs p e below _ (T27.setTop (mkF m 148 #[.val (.int p0), .val (.int p1), .val (.int p2), .val (.int p3), .val (.int p4), .val (.int p5), .val (.int ((p0 &&& (255 : Int32)).toUInt32.toUInt16.toUInt32.toInt32)), .val (.int ((p1 &&& (255 : Int32)).toUInt32.toUInt16.toUInt32.toInt32)), .val (.int ((p2 &&& (255 : Int32)).toUInt32.toUInt16.toUInt32.toInt32)), .val (.int (1 : Int32)), .val (.ref b17), .val (.ref b25), .unset, .unset, .unset, .unset] [(.int (p5 &&& (3 : Int32)))]))
    refine Runs.by (fun _ hr => XS.istore X27.here hx rfl (hb hby at_148) rfl (l' := #[.val (.int p0), .val (.int p1), .val (.int p2), .val (.int p3), .val (.int p4), .val (.int p5), .val (.int ((p0 &&& (255 : Int32)).toUInt32.toUInt16.toUInt32.toInt32)), .val (.int ((p1 &&& (255 : Int32)).toUInt32.toUInt16.toUInt32.toInt32)), .val (.int ((p2 &&& (255 : Int32)).toUInt32.toUInt16.toUInt32.toInt32)), .val (.int (1 : Int32)), .val (.ref b17), .val (.ref b25), .val (.int (p5 &&& (3 : Int32))), .unset, .unset, .unset]) rfl hr) ?_
    show Runs p e below _ (T27.setTop (mkF m 150 #[.val (.int p0), .val (.int p1), .val (.int p2), .val (.int p3), .val (.int p4), .val (.int p5), .val (.int ((p0 &&& (255 : Int32)).toUInt32.toUInt16.toUInt32.toInt32)), .val (.int ((p1 &&& (255 : Int32)).toUInt32.toUInt16.toUInt32.toInt32)), .val (.int ((p2 &&& (255 : Int32)).toUInt32.toUInt16.toUInt32.toInt32)), .val (.int (1 : Int32)), .val (.ref b17), .val (.ref b25), .val (.int (p5 &&& (3 : Int32))), .unset, .unset, .unset] []))
    refine Runs.by (fun _ hr => XS.iload X27.here hx rfl (hb hby at_150) rfl  hr) ?_
    show Runs p e below _ (T27.setTop (mkF m 152 #[.val (.int p0), .val (.int p1), .val (.int p2), .val (.int p3), .val (.int p4), .val (.int p5), .val (.int ((p0 &&& (255 : Int32)).toUInt32.toUInt16.toUInt32.toInt32)), .val (.int ((p1 &&& (255 : Int32)).toUInt32.toUInt16.toUInt32.toInt32)), .val (.int ((p2 &&& (255 : Int32)).toUInt32.toUInt16.toUInt32.toInt32)), .val (.int (1 : Int32)), .val (.ref b17), .val (.ref b25), .val (.int (p5 &&& (3 : Int32))), .unset, .unset, .unset] [(.int p5)]))
    refine Runs.by (fun _ hr => XS.iconst X27.here hx rfl (hb hby at_152) hr) ?_
    show Runs p e below _ (T27.setTop (mkF m 153 #[.val (.int p0), .val (.int p1), .val (.int p2), .val (.int p3), .val (.int p4), .val (.int p5), .val (.int ((p0 &&& (255 : Int32)).toUInt32.toUInt16.toUInt32.toInt32)), .val (.int ((p1 &&& (255 : Int32)).toUInt32.toUInt16.toUInt32.toInt32)), .val (.int ((p2 &&& (255 : Int32)).toUInt32.toUInt16.toUInt32.toInt32)), .val (.int (1 : Int32)), .val (.ref b17), .val (.ref b25), .val (.int (p5 &&& (3 : Int32))), .unset, .unset, .unset] [(.int (2 : Int32)), (.int p5)]))
    refine Runs.by (fun _ hr => XS.iushr X27.here hx rfl (hb hby at_153) rfl hr) ?_
    show Runs p e below _ (T27.setTop (mkF m 154 #[.val (.int p0), .val (.int p1), .val (.int p2), .val (.int p3), .val (.int p4), .val (.int p5), .val (.int ((p0 &&& (255 : Int32)).toUInt32.toUInt16.toUInt32.toInt32)), .val (.int ((p1 &&& (255 : Int32)).toUInt32.toUInt16.toUInt32.toInt32)), .val (.int ((p2 &&& (255 : Int32)).toUInt32.toUInt16.toUInt32.toInt32)), .val (.int (1 : Int32)), .val (.ref b17), .val (.ref b25), .val (.int (p5 &&& (3 : Int32))), .unset, .unset, .unset] [(.int ((p5.toUInt32 >>> ((2 : Int32) &&& 31).toUInt32).toInt32))]))
    refine Runs.by (fun _ hr => XS.iconst X27.here hx rfl (hb hby at_154) hr) ?_
    show Runs p e below _ (T27.setTop (mkF m 155 #[.val (.int p0), .val (.int p1), .val (.int p2), .val (.int p3), .val (.int p4), .val (.int p5), .val (.int ((p0 &&& (255 : Int32)).toUInt32.toUInt16.toUInt32.toInt32)), .val (.int ((p1 &&& (255 : Int32)).toUInt32.toUInt16.toUInt32.toInt32)), .val (.int ((p2 &&& (255 : Int32)).toUInt32.toUInt16.toUInt32.toInt32)), .val (.int (1 : Int32)), .val (.ref b17), .val (.ref b25), .val (.int (p5 &&& (3 : Int32))), .unset, .unset, .unset] [(.int (3 : Int32)), (.int ((p5.toUInt32 >>> ((2 : Int32) &&& 31).toUInt32).toInt32))]))
    refine Runs.by (fun _ hr => XS.iand X27.here hx rfl (hb hby at_155) rfl hr) ?_
    show Runs p e below _ (T27.setTop (mkF m 156 #[.val (.int p0), .val (.int p1), .val (.int p2), .val (.int p3), .val (.int p4), .val (.int p5), .val (.int ((p0 &&& (255 : Int32)).toUInt32.toUInt16.toUInt32.toInt32)), .val (.int ((p1 &&& (255 : Int32)).toUInt32.toUInt16.toUInt32.toInt32)), .val (.int ((p2 &&& (255 : Int32)).toUInt32.toUInt16.toUInt32.toInt32)), .val (.int (1 : Int32)), .val (.ref b17), .val (.ref b25), .val (.int (p5 &&& (3 : Int32))), .unset, .unset, .unset] [(.int (((p5.toUInt32 >>> ((2 : Int32) &&& 31).toUInt32).toInt32) &&& (3 : Int32)))]))
    refine Runs.by (fun _ hr => XS.iconst X27.here hx rfl (hb hby at_156) hr) ?_
    show Runs p e below _ (T27.setTop (mkF m 157 #[.val (.int p0), .val (.int p1), .val (.int p2), .val (.int p3), .val (.int p4), .val (.int p5), .val (.int ((p0 &&& (255 : Int32)).toUInt32.toUInt16.toUInt32.toInt32)), .val (.int ((p1 &&& (255 : Int32)).toUInt32.toUInt16.toUInt32.toInt32)), .val (.int ((p2 &&& (255 : Int32)).toUInt32.toUInt16.toUInt32.toInt32)), .val (.int (1 : Int32)), .val (.ref b17), .val (.ref b25), .val (.int (p5 &&& (3 : Int32))), .unset, .unset, .unset] [(.int (1 : Int32)), (.int (((p5.toUInt32 >>> ((2 : Int32) &&& 31).toUInt32).toInt32) &&& (3 : Int32)))]))
    refine Runs.by (fun _ hr => XS.isub X27.here hx rfl (hb hby at_157) rfl hr) ?_
    show Runs p e below _ (T27.setTop (mkF m 158 #[.val (.int p0), .val (.int p1), .val (.int p2), .val (.int p3), .val (.int p4), .val (.int p5), .val (.int ((p0 &&& (255 : Int32)).toUInt32.toUInt16.toUInt32.toInt32)), .val (.int ((p1 &&& (255 : Int32)).toUInt32.toUInt16.toUInt32.toInt32)), .val (.int ((p2 &&& (255 : Int32)).toUInt32.toUInt16.toUInt32.toInt32)), .val (.int (1 : Int32)), .val (.ref b17), .val (.ref b25), .val (.int (p5 &&& (3 : Int32))), .unset, .unset, .unset] [(.int ((((p5.toUInt32 >>> ((2 : Int32) &&& 31).toUInt32).toInt32) &&& (3 : Int32)) - (1 : Int32)))]))
    refine Runs.by (fun _ hr => XS.istore X27.here hx rfl (hb hby at_158) rfl (l' := #[.val (.int p0), .val (.int p1), .val (.int p2), .val (.int p3), .val (.int p4), .val (.int p5), .val (.int ((p0 &&& (255 : Int32)).toUInt32.toUInt16.toUInt32.toInt32)), .val (.int ((p1 &&& (255 : Int32)).toUInt32.toUInt16.toUInt32.toInt32)), .val (.int ((p2 &&& (255 : Int32)).toUInt32.toUInt16.toUInt32.toInt32)), .val (.int (1 : Int32)), .val (.ref b17), .val (.ref b25), .val (.int (p5 &&& (3 : Int32))), .val (.int ((((p5.toUInt32 >>> ((2 : Int32) &&& 31).toUInt32).toInt32) &&& (3 : Int32)) - (1 : Int32))), .unset, .unset]) rfl hr) ?_
    have JL29 : ∀ (cc : Int32) (TJ30 : State) (lJ30 : List Loc) (XJ30 : Stand p l e room_1 (s.setVm s.vm) m #[(.int p0), (.int p1), (.int p2), (.int p3), (.int p4), (.int p5)] below meth c TJ30 lJ30 6 520) (eJ30 : TJ30.heap = T27.heap) (NJ30 : Fr n0 lJ30) (hcc : ¬ cc < 0), Runs p e below (QEW Z consts_1 s (Q_rm0 Z p0 p1 p2 p3 p4 p5 gC vG h0 n0) room_1.cells room_1.slots) (TJ30.setTop (mkF m 226 #[.val (.int p0), .val (.int p1), .val (.int p2), .val (.int p3), .val (.int p4), .val (.int p5), .val (.int ((p0 &&& (255 : Int32)).toUInt32.toUInt16.toUInt32.toInt32)), .val (.int ((p1 &&& (255 : Int32)).toUInt32.toUInt16.toUInt32.toInt32)), .val (.int ((p2 &&& (255 : Int32)).toUInt32.toUInt16.toUInt32.toInt32)), .val (.int (1 : Int32)), .val (.ref b17), .val (.ref b25), .val (.int (p5 &&& (3 : Int32))), .val (.int ((((p5.toUInt32 >>> ((2 : Int32) &&& 31).toUInt32).toInt32) &&& (3 : Int32)) - (1 : Int32))), .val (.int cc), .unset] [])) := by
      intro cc TJ30 lJ30 XJ30 eJ30 NJ30 hcc
      show Runs p e below _ (TJ30.setTop (mkF m 226 #[.val (.int p0), .val (.int p1), .val (.int p2), .val (.int p3), .val (.int p4), .val (.int p5), .val (.int ((p0 &&& (255 : Int32)).toUInt32.toUInt16.toUInt32.toInt32)), .val (.int ((p1 &&& (255 : Int32)).toUInt32.toUInt16.toUInt32.toInt32)), .val (.int ((p2 &&& (255 : Int32)).toUInt32.toUInt16.toUInt32.toInt32)), .val (.int (1 : Int32)), .val (.ref b17), .val (.ref b25), .val (.int (p5 &&& (3 : Int32))), .val (.int ((((p5.toUInt32 >>> ((2 : Int32) &&& 31).toUInt32).toInt32) &&& (3 : Int32)) - (1 : Int32))), .val (.int cc), .unset] []))
      refine Runs.by (fun _ hr => XS.iload XJ30.here hx rfl (hb hby at_226) rfl  hr) ?_
      show Runs p e below _ (TJ30.setTop (mkF m 228 #[.val (.int p0), .val (.int p1), .val (.int p2), .val (.int p3), .val (.int p4), .val (.int p5), .val (.int ((p0 &&& (255 : Int32)).toUInt32.toUInt16.toUInt32.toInt32)), .val (.int ((p1 &&& (255 : Int32)).toUInt32.toUInt16.toUInt32.toInt32)), .val (.int ((p2 &&& (255 : Int32)).toUInt32.toUInt16.toUInt32.toInt32)), .val (.int (1 : Int32)), .val (.ref b17), .val (.ref b25), .val (.int (p5 &&& (3 : Int32))), .val (.int ((((p5.toUInt32 >>> ((2 : Int32) &&& 31).toUInt32).toInt32) &&& (3 : Int32)) - (1 : Int32))), .val (.int cc), .unset] [(.int (1 : Int32))]))
      refine Runs.by (fun _ hr => XS.iconst XJ30.here hx rfl (hb hby at_228) hr) ?_
      show Runs p e below _ (TJ30.setTop (mkF m 229 #[.val (.int p0), .val (.int p1), .val (.int p2), .val (.int p3), .val (.int p4), .val (.int p5), .val (.int ((p0 &&& (255 : Int32)).toUInt32.toUInt16.toUInt32.toInt32)), .val (.int ((p1 &&& (255 : Int32)).toUInt32.toUInt16.toUInt32.toInt32)), .val (.int ((p2 &&& (255 : Int32)).toUInt32.toUInt16.toUInt32.toInt32)), .val (.int (1 : Int32)), .val (.ref b17), .val (.ref b25), .val (.int (p5 &&& (3 : Int32))), .val (.int ((((p5.toUInt32 >>> ((2 : Int32) &&& 31).toUInt32).toInt32) &&& (3 : Int32)) - (1 : Int32))), .val (.int cc), .unset] [(.int (1 : Int32)), (.int (1 : Int32))]))
      have hc229 : ¬ ((1 : Int32) < (1 : Int32)) := (by decide)
      refine Runs.by (fun _ hr => XS.icmpNo XJ30.here hx rfl (hb hby at_229) rfl (flt hc229).1 hr) ?_
      show Runs p e below _ (TJ30.setTop (mkF m 232 #[.val (.int p0), .val (.int p1), .val (.int p2), .val (.int p3), .val (.int p4), .val (.int p5), .val (.int ((p0 &&& (255 : Int32)).toUInt32.toUInt16.toUInt32.toInt32)), .val (.int ((p1 &&& (255 : Int32)).toUInt32.toUInt16.toUInt32.toInt32)), .val (.int ((p2 &&& (255 : Int32)).toUInt32.toUInt16.toUInt32.toInt32)), .val (.int (1 : Int32)), .val (.ref b17), .val (.ref b25), .val (.int (p5 &&& (3 : Int32))), .val (.int ((((p5.toUInt32 >>> ((2 : Int32) &&& 31).toUInt32).toInt32) &&& (3 : Int32)) - (1 : Int32))), .val (.int cc), .unset] []))
      refine Runs.by (fun _ hr => XS.iload XJ30.here hx rfl (hb hby at_232) rfl  hr) ?_
      show Runs p e below _ (TJ30.setTop (mkF m 234 #[.val (.int p0), .val (.int p1), .val (.int p2), .val (.int p3), .val (.int p4), .val (.int p5), .val (.int ((p0 &&& (255 : Int32)).toUInt32.toUInt16.toUInt32.toInt32)), .val (.int ((p1 &&& (255 : Int32)).toUInt32.toUInt16.toUInt32.toInt32)), .val (.int ((p2 &&& (255 : Int32)).toUInt32.toUInt16.toUInt32.toInt32)), .val (.int (1 : Int32)), .val (.ref b17), .val (.ref b25), .val (.int (p5 &&& (3 : Int32))), .val (.int ((((p5.toUInt32 >>> ((2 : Int32) &&& 31).toUInt32).toInt32) &&& (3 : Int32)) - (1 : Int32))), .val (.int cc), .unset] [(.int cc)]))
      refine Runs.by (fun _ hr => XS.iload XJ30.here hx rfl (hb hby at_234) rfl  hr) ?_
      show Runs p e below _ (TJ30.setTop (mkF m 236 #[.val (.int p0), .val (.int p1), .val (.int p2), .val (.int p3), .val (.int p4), .val (.int p5), .val (.int ((p0 &&& (255 : Int32)).toUInt32.toUInt16.toUInt32.toInt32)), .val (.int ((p1 &&& (255 : Int32)).toUInt32.toUInt16.toUInt32.toInt32)), .val (.int ((p2 &&& (255 : Int32)).toUInt32.toUInt16.toUInt32.toInt32)), .val (.int (1 : Int32)), .val (.ref b17), .val (.ref b25), .val (.int (p5 &&& (3 : Int32))), .val (.int ((((p5.toUInt32 >>> ((2 : Int32) &&& 31).toUInt32).toInt32) &&& (3 : Int32)) - (1 : Int32))), .val (.int cc), .unset] [(.int ((p0 &&& (255 : Int32)).toUInt32.toUInt16.toUInt32.toInt32)), (.int cc)]))
      by_cases hc236 : cc = ((p0 &&& (255 : Int32)).toUInt32.toUInt16.toUInt32.toInt32)
      · -- pc 236: cc = ((p0 &&& (255 : Int32)).toUInt32.toUInt16.toUInt32.toInt32)
        refine Runs.by (fun _ hr => XS.icmpYes XJ30.here hx rfl (pc0 := 236) (pc' := 265) rfl (hb hby at_236) rfl (teq hc236).1 (by decide) (by decide) hr) ?_
        show Runs p e below _ (TJ30.setTop (mkF m 265 #[.val (.int p0), .val (.int p1), .val (.int p2), .val (.int p3), .val (.int p4), .val (.int p5), .val (.int ((p0 &&& (255 : Int32)).toUInt32.toUInt16.toUInt32.toInt32)), .val (.int ((p1 &&& (255 : Int32)).toUInt32.toUInt16.toUInt32.toInt32)), .val (.int ((p2 &&& (255 : Int32)).toUInt32.toUInt16.toUInt32.toInt32)), .val (.int (1 : Int32)), .val (.ref b17), .val (.ref b25), .val (.int (p5 &&& (3 : Int32))), .val (.int ((((p5.toUInt32 >>> ((2 : Int32) &&& 31).toUInt32).toInt32) &&& (3 : Int32)) - (1 : Int32))), .val (.int cc), .unset] []))
        refine Runs.by (fun _ hr => XS.iconst XJ30.here hx rfl (hb hby at_265) hr) ?_
        show Runs p e below _ (TJ30.setTop (mkF m 266 #[.val (.int p0), .val (.int p1), .val (.int p2), .val (.int p3), .val (.int p4), .val (.int p5), .val (.int ((p0 &&& (255 : Int32)).toUInt32.toUInt16.toUInt32.toInt32)), .val (.int ((p1 &&& (255 : Int32)).toUInt32.toUInt16.toUInt32.toInt32)), .val (.int ((p2 &&& (255 : Int32)).toUInt32.toUInt16.toUInt32.toInt32)), .val (.int (1 : Int32)), .val (.ref b17), .val (.ref b25), .val (.int (p5 &&& (3 : Int32))), .val (.int ((((p5.toUInt32 >>> ((2 : Int32) &&& 31).toUInt32).toInt32) &&& (3 : Int32)) - (1 : Int32))), .val (.int cc), .unset] [(.int (1 : Int32))]))
        refine Runs.by (fun _ hr => XS.goto XJ30.here hx rfl (pc0 := 266) (pc' := 270) rfl (hb hby at_266) (by decide) (by decide) hr) ?_
        show Runs p e below _ (TJ30.setTop (mkF m 270 #[.val (.int p0), .val (.int p1), .val (.int p2), .val (.int p3), .val (.int p4), .val (.int p5), .val (.int ((p0 &&& (255 : Int32)).toUInt32.toUInt16.toUInt32.toInt32)), .val (.int ((p1 &&& (255 : Int32)).toUInt32.toUInt16.toUInt32.toInt32)), .val (.int ((p2 &&& (255 : Int32)).toUInt32.toUInt16.toUInt32.toInt32)), .val (.int (1 : Int32)), .val (.ref b17), .val (.ref b25), .val (.int (p5 &&& (3 : Int32))), .val (.int ((((p5.toUInt32 >>> ((2 : Int32) &&& 31).toUInt32).toInt32) &&& (3 : Int32)) - (1 : Int32))), .val (.int cc), .unset] [(.int (1 : Int32))]))
        refine Runs.by (fun _ hr => XS.istore XJ30.here hx rfl (hb hby at_270) rfl (l' := #[.val (.int p0), .val (.int p1), .val (.int p2), .val (.int p3), .val (.int p4), .val (.int p5), .val (.int ((p0 &&& (255 : Int32)).toUInt32.toUInt16.toUInt32.toInt32)), .val (.int ((p1 &&& (255 : Int32)).toUInt32.toUInt16.toUInt32.toInt32)), .val (.int ((p2 &&& (255 : Int32)).toUInt32.toUInt16.toUInt32.toInt32)), .val (.int (1 : Int32)), .val (.ref b17), .val (.ref b25), .val (.int (p5 &&& (3 : Int32))), .val (.int ((((p5.toUInt32 >>> ((2 : Int32) &&& 31).toUInt32).toInt32) &&& (3 : Int32)) - (1 : Int32))), .val (.int cc), .val (.int (1 : Int32))]) rfl hr) ?_
        show Runs p e below _ (TJ30.setTop (mkF m 272 #[.val (.int p0), .val (.int p1), .val (.int p2), .val (.int p3), .val (.int p4), .val (.int p5), .val (.int ((p0 &&& (255 : Int32)).toUInt32.toUInt16.toUInt32.toInt32)), .val (.int ((p1 &&& (255 : Int32)).toUInt32.toUInt16.toUInt32.toInt32)), .val (.int ((p2 &&& (255 : Int32)).toUInt32.toUInt16.toUInt32.toInt32)), .val (.int (1 : Int32)), .val (.ref b17), .val (.ref b25), .val (.int (p5 &&& (3 : Int32))), .val (.int ((((p5.toUInt32 >>> ((2 : Int32) &&& 31).toUInt32).toInt32) &&& (3 : Int32)) - (1 : Int32))), .val (.int cc), .val (.int (1 : Int32))] []))
        refine Runs.by (fun _ hr => XS.aload XJ30.here hx rfl (hb hby at_272) rfl rfl hr) ?_
        show Runs p e below _ (TJ30.setTop (mkF m 274 #[.val (.int p0), .val (.int p1), .val (.int p2), .val (.int p3), .val (.int p4), .val (.int p5), .val (.int ((p0 &&& (255 : Int32)).toUInt32.toUInt16.toUInt32.toInt32)), .val (.int ((p1 &&& (255 : Int32)).toUInt32.toUInt16.toUInt32.toInt32)), .val (.int ((p2 &&& (255 : Int32)).toUInt32.toUInt16.toUInt32.toInt32)), .val (.int (1 : Int32)), .val (.ref b17), .val (.ref b25), .val (.int (p5 &&& (3 : Int32))), .val (.int ((((p5.toUInt32 >>> ((2 : Int32) &&& 31).toUInt32).toInt32) &&& (3 : Int32)) - (1 : Int32))), .val (.int cc), .val (.int (1 : Int32))] [(.ref b25)]))
        refine Runs.by (fun _ hr => XS.iload XJ30.here hx rfl (hb hby at_274) rfl  hr) ?_
        show Runs p e below _ (TJ30.setTop (mkF m 276 #[.val (.int p0), .val (.int p1), .val (.int p2), .val (.int p3), .val (.int p4), .val (.int p5), .val (.int ((p0 &&& (255 : Int32)).toUInt32.toUInt16.toUInt32.toInt32)), .val (.int ((p1 &&& (255 : Int32)).toUInt32.toUInt16.toUInt32.toInt32)), .val (.int ((p2 &&& (255 : Int32)).toUInt32.toUInt16.toUInt32.toInt32)), .val (.int (1 : Int32)), .val (.ref b17), .val (.ref b25), .val (.int (p5 &&& (3 : Int32))), .val (.int ((((p5.toUInt32 >>> ((2 : Int32) &&& 31).toUInt32).toInt32) &&& (3 : Int32)) - (1 : Int32))), .val (.int cc), .val (.int (1 : Int32))] [(.int cc), (.ref b25)]))
        obtain ⟨cq31, kq31, q31a, q31b, q31c⟩ := isOf hZ eJ30 f27_0
        obtain ⟨_, _, ⟨T31, L31, k31, n31⟩, -, X31, ⟨Lc31, hQ31, l31, y31, z31⟩, st31⟩ := XJ30.virtualBack hx (y := (⟨"com/example/vedette/vedette/io/Utf8Buffer$Stops", "isStop", "(I)Z"⟩ : MethodName)) (z := (⟨"com/example/vedette/vedette/io/Utf8Buffer$Stops", "isStop", "(I)Z"⟩ : MethodName)) hown (mvT hZ (hw _ (List.mem_of_getElem? (i := 79) rfl))) (mvT hZ (hw _ (List.mem_of_getElem? (i := 80) rfl))) (notFace_of_selects (args := #[]) (mvT hZ (hw _ (List.mem_of_getElem? (i := 82) rfl)))) (mvT hZ (hw _ (List.mem_of_getElem? (i := 82) rfl))) (mvT hZ (hw _ (List.mem_of_getElem? (i := 81) rfl))) (by decide) (backOf (W := 0) (rm16 l Z a0 hw [] b25 cc t27 kt27 z27 wf27 T27.heap n0 (Nat.le_trans Z0 K28.1) f27_1 f27_2 hcc) hZ (hw _ (List.mem_of_getElem? (i := 83) rfl)) (hw _ (List.mem_of_getElem? (i := 32) rfl)) (by decide) (by decide)) q31a q31c (g := (mkF m 276 #[.val (.int p0), .val (.int p1), .val (.int p2), .val (.int p3), .val (.int p4), .val (.int p5), .val (.int ((p0 &&& (255 : Int32)).toUInt32.toUInt16.toUInt32.toInt32)), .val (.int ((p1 &&& (255 : Int32)).toUInt32.toUInt16.toUInt32.toInt32)), .val (.int ((p2 &&& (255 : Int32)).toUInt32.toUInt16.toUInt32.toInt32)), .val (.int (1 : Int32)), .val (.ref b17), .val (.ref b25), .val (.int (p5 &&& (3 : Int32))), .val (.int ((((p5.toUInt32 >>> ((2 : Int32) &&& 31).toUInt32).toInt32) &&& (3 : Int32)) - (1 : Int32))), .val (.int cc), .val (.int (1 : Int32))] [(.int cc), (.ref b25)])) rfl (by rw [hml]; rfl) (Steps.refl _) (argsL := [(.int cc)]) (rest := []) (lenOf pd_11 rfl) rfl (by show 2 * 0 + _ ≤ _; exact Nat.le_of_eq rfl) (hb hby at_276) (fun _ _ => ⟨rfl, eJ30, (by decide : 6 + 0 ≤ _), (by decide : 520 + 0 ≤ _)⟩)
        dsimp only [Pt.U, Pt.locs, Pt.cells, Pt.slots] at X31 l31 y31 z31 st31 hQ31
        subst l31 y31 z31
        obtain ⟨rfl, Nq31, eq31⟩ := hQ31
        have N31 := Fr.app NJ30 Nq31
        refine Runs.by (fun _ hr => st31.trans hr) ?_
        have hv : own_is z27 wf27 cc = (1 : Int32) := (hs27 cc hcc).trans (by simp only [own_nc, if_pos hc236])
        rw [hv]
        show Runs p e below _ (T31.setTop (mkF m 279 #[.val (.int p0), .val (.int p1), .val (.int p2), .val (.int p3), .val (.int p4), .val (.int p5), .val (.int ((p0 &&& (255 : Int32)).toUInt32.toUInt16.toUInt32.toInt32)), .val (.int ((p1 &&& (255 : Int32)).toUInt32.toUInt16.toUInt32.toInt32)), .val (.int ((p2 &&& (255 : Int32)).toUInt32.toUInt16.toUInt32.toInt32)), .val (.int (1 : Int32)), .val (.ref b17), .val (.ref b25), .val (.int (p5 &&& (3 : Int32))), .val (.int ((((p5.toUInt32 >>> ((2 : Int32) &&& 31).toUInt32).toInt32) &&& (3 : Int32)) - (1 : Int32))), .val (.int cc), .val (.int (1 : Int32))] [(.int (1 : Int32))]))
        refine Runs.by (fun _ hr => XS.iload X31.here hx rfl (hb hby at_279) rfl  hr) ?_
        show Runs p e below _ (T31.setTop (mkF m 281 #[.val (.int p0), .val (.int p1), .val (.int p2), .val (.int p3), .val (.int p4), .val (.int p5), .val (.int ((p0 &&& (255 : Int32)).toUInt32.toUInt16.toUInt32.toInt32)), .val (.int ((p1 &&& (255 : Int32)).toUInt32.toUInt16.toUInt32.toInt32)), .val (.int ((p2 &&& (255 : Int32)).toUInt32.toUInt16.toUInt32.toInt32)), .val (.int (1 : Int32)), .val (.ref b17), .val (.ref b25), .val (.int (p5 &&& (3 : Int32))), .val (.int ((((p5.toUInt32 >>> ((2 : Int32) &&& 31).toUInt32).toInt32) &&& (3 : Int32)) - (1 : Int32))), .val (.int cc), .val (.int (1 : Int32))] [(.int (1 : Int32)), (.int (1 : Int32))]))
        have hc281 : (1 : Int32) = (1 : Int32) := (by decide)
        refine Runs.by (fun _ hr => XS.icmpNo X31.here hx rfl (hb hby at_281) rfl (teq hc281).2 hr) ?_
        show Runs p e below _ (T31.setTop (mkF m 284 #[.val (.int p0), .val (.int p1), .val (.int p2), .val (.int p3), .val (.int p4), .val (.int p5), .val (.int ((p0 &&& (255 : Int32)).toUInt32.toUInt16.toUInt32.toInt32)), .val (.int ((p1 &&& (255 : Int32)).toUInt32.toUInt16.toUInt32.toInt32)), .val (.int ((p2 &&& (255 : Int32)).toUInt32.toUInt16.toUInt32.toInt32)), .val (.int (1 : Int32)), .val (.ref b17), .val (.ref b25), .val (.int (p5 &&& (3 : Int32))), .val (.int ((((p5.toUInt32 >>> ((2 : Int32) &&& 31).toUInt32).toInt32) &&& (3 : Int32)) - (1 : Int32))), .val (.int cc), .val (.int (1 : Int32))] []))
        refine Runs.by (fun _ hr => XS.iconst X31.here hx rfl (hb hby at_284) hr) ?_
        show Runs p e below _ (T31.setTop (mkF m 285 #[.val (.int p0), .val (.int p1), .val (.int p2), .val (.int p3), .val (.int p4), .val (.int p5), .val (.int ((p0 &&& (255 : Int32)).toUInt32.toUInt16.toUInt32.toInt32)), .val (.int ((p1 &&& (255 : Int32)).toUInt32.toUInt16.toUInt32.toInt32)), .val (.int ((p2 &&& (255 : Int32)).toUInt32.toUInt16.toUInt32.toInt32)), .val (.int (1 : Int32)), .val (.ref b17), .val (.ref b25), .val (.int (p5 &&& (3 : Int32))), .val (.int ((((p5.toUInt32 >>> ((2 : Int32) &&& 31).toUInt32).toInt32) &&& (3 : Int32)) - (1 : Int32))), .val (.int cc), .val (.int (1 : Int32))] [(.int (1 : Int32))]))
        refine Runs.by (fun _ hr => XS.goto X31.here hx rfl (pc0 := 285) (pc' := 289) rfl (hb hby at_285) (by decide) (by decide) hr) ?_
        show Runs p e below _ (T31.setTop (mkF m 289 #[.val (.int p0), .val (.int p1), .val (.int p2), .val (.int p3), .val (.int p4), .val (.int p5), .val (.int ((p0 &&& (255 : Int32)).toUInt32.toUInt16.toUInt32.toInt32)), .val (.int ((p1 &&& (255 : Int32)).toUInt32.toUInt16.toUInt32.toInt32)), .val (.int ((p2 &&& (255 : Int32)).toUInt32.toUInt16.toUInt32.toInt32)), .val (.int (1 : Int32)), .val (.ref b17), .val (.ref b25), .val (.int (p5 &&& (3 : Int32))), .val (.int ((((p5.toUInt32 >>> ((2 : Int32) &&& 31).toUInt32).toInt32) &&& (3 : Int32)) - (1 : Int32))), .val (.int cc), .val (.int (1 : Int32))] [(.int (1 : Int32))]))
        refine Runs.retW X31 hx hrt hlk eq31 hS hk hZ hEL hC (Or.inl ⟨rfl, by simp, _, rfl⟩) (by rfl) (hb hby at_289) (by decide) (by decide) ?_
        exact ⟨rfl, N31⟩
      · -- pc 236: not cc = ((p0 &&& (255 : Int32)).toUInt32.toUInt16.toUInt32.toInt32)
        refine Runs.by (fun _ hr => XS.icmpNo XJ30.here hx rfl (hb hby at_236) rfl (feq hc236).1 hr) ?_
        show Runs p e below _ (TJ30.setTop (mkF m 239 #[.val (.int p0), .val (.int p1), .val (.int p2), .val (.int p3), .val (.int p4), .val (.int p5), .val (.int ((p0 &&& (255 : Int32)).toUInt32.toUInt16.toUInt32.toInt32)), .val (.int ((p1 &&& (255 : Int32)).toUInt32.toUInt16.toUInt32.toInt32)), .val (.int ((p2 &&& (255 : Int32)).toUInt32.toUInt16.toUInt32.toInt32)), .val (.int (1 : Int32)), .val (.ref b17), .val (.ref b25), .val (.int (p5 &&& (3 : Int32))), .val (.int ((((p5.toUInt32 >>> ((2 : Int32) &&& 31).toUInt32).toInt32) &&& (3 : Int32)) - (1 : Int32))), .val (.int cc), .unset] []))
        refine Runs.by (fun _ hr => XS.iload XJ30.here hx rfl (hb hby at_239) rfl  hr) ?_
        show Runs p e below _ (TJ30.setTop (mkF m 241 #[.val (.int p0), .val (.int p1), .val (.int p2), .val (.int p3), .val (.int p4), .val (.int p5), .val (.int ((p0 &&& (255 : Int32)).toUInt32.toUInt16.toUInt32.toInt32)), .val (.int ((p1 &&& (255 : Int32)).toUInt32.toUInt16.toUInt32.toInt32)), .val (.int ((p2 &&& (255 : Int32)).toUInt32.toUInt16.toUInt32.toInt32)), .val (.int (1 : Int32)), .val (.ref b17), .val (.ref b25), .val (.int (p5 &&& (3 : Int32))), .val (.int ((((p5.toUInt32 >>> ((2 : Int32) &&& 31).toUInt32).toInt32) &&& (3 : Int32)) - (1 : Int32))), .val (.int cc), .unset] [(.int (1 : Int32))]))
        refine Runs.by (fun _ hr => XS.iconst XJ30.here hx rfl (hb hby at_241) hr) ?_
        show Runs p e below _ (TJ30.setTop (mkF m 242 #[.val (.int p0), .val (.int p1), .val (.int p2), .val (.int p3), .val (.int p4), .val (.int p5), .val (.int ((p0 &&& (255 : Int32)).toUInt32.toUInt16.toUInt32.toInt32)), .val (.int ((p1 &&& (255 : Int32)).toUInt32.toUInt16.toUInt32.toInt32)), .val (.int ((p2 &&& (255 : Int32)).toUInt32.toUInt16.toUInt32.toInt32)), .val (.int (1 : Int32)), .val (.ref b17), .val (.ref b25), .val (.int (p5 &&& (3 : Int32))), .val (.int ((((p5.toUInt32 >>> ((2 : Int32) &&& 31).toUInt32).toInt32) &&& (3 : Int32)) - (1 : Int32))), .val (.int cc), .unset] [(.int (2 : Int32)), (.int (1 : Int32))]))
        have hc242 : (1 : Int32) < (2 : Int32) := (by decide)
        refine Runs.by (fun _ hr => XS.icmpYes XJ30.here hx rfl (pc0 := 242) (pc' := 252) rfl (hb hby at_242) rfl (tlt hc242).1 (by decide) (by decide) hr) ?_
        show Runs p e below _ (TJ30.setTop (mkF m 252 #[.val (.int p0), .val (.int p1), .val (.int p2), .val (.int p3), .val (.int p4), .val (.int p5), .val (.int ((p0 &&& (255 : Int32)).toUInt32.toUInt16.toUInt32.toInt32)), .val (.int ((p1 &&& (255 : Int32)).toUInt32.toUInt16.toUInt32.toInt32)), .val (.int ((p2 &&& (255 : Int32)).toUInt32.toUInt16.toUInt32.toInt32)), .val (.int (1 : Int32)), .val (.ref b17), .val (.ref b25), .val (.int (p5 &&& (3 : Int32))), .val (.int ((((p5.toUInt32 >>> ((2 : Int32) &&& 31).toUInt32).toInt32) &&& (3 : Int32)) - (1 : Int32))), .val (.int cc), .unset] []))
        refine Runs.by (fun _ hr => XS.iload XJ30.here hx rfl (hb hby at_252) rfl  hr) ?_
        show Runs p e below _ (TJ30.setTop (mkF m 254 #[.val (.int p0), .val (.int p1), .val (.int p2), .val (.int p3), .val (.int p4), .val (.int p5), .val (.int ((p0 &&& (255 : Int32)).toUInt32.toUInt16.toUInt32.toInt32)), .val (.int ((p1 &&& (255 : Int32)).toUInt32.toUInt16.toUInt32.toInt32)), .val (.int ((p2 &&& (255 : Int32)).toUInt32.toUInt16.toUInt32.toInt32)), .val (.int (1 : Int32)), .val (.ref b17), .val (.ref b25), .val (.int (p5 &&& (3 : Int32))), .val (.int ((((p5.toUInt32 >>> ((2 : Int32) &&& 31).toUInt32).toInt32) &&& (3 : Int32)) - (1 : Int32))), .val (.int cc), .unset] [(.int (1 : Int32))]))
        refine Runs.by (fun _ hr => XS.iconst XJ30.here hx rfl (hb hby at_254) hr) ?_
        show Runs p e below _ (TJ30.setTop (mkF m 255 #[.val (.int p0), .val (.int p1), .val (.int p2), .val (.int p3), .val (.int p4), .val (.int p5), .val (.int ((p0 &&& (255 : Int32)).toUInt32.toUInt16.toUInt32.toInt32)), .val (.int ((p1 &&& (255 : Int32)).toUInt32.toUInt16.toUInt32.toInt32)), .val (.int ((p2 &&& (255 : Int32)).toUInt32.toUInt16.toUInt32.toInt32)), .val (.int (1 : Int32)), .val (.ref b17), .val (.ref b25), .val (.int (p5 &&& (3 : Int32))), .val (.int ((((p5.toUInt32 >>> ((2 : Int32) &&& 31).toUInt32).toInt32) &&& (3 : Int32)) - (1 : Int32))), .val (.int cc), .unset] [(.int (3 : Int32)), (.int (1 : Int32))]))
        have hc255 : (1 : Int32) < (3 : Int32) := (by decide)
        refine Runs.by (fun _ hr => XS.icmpYes XJ30.here hx rfl (pc0 := 255) (pc' := 269) rfl (hb hby at_255) rfl (tlt hc255).1 (by decide) (by decide) hr) ?_
        show Runs p e below _ (TJ30.setTop (mkF m 269 #[.val (.int p0), .val (.int p1), .val (.int p2), .val (.int p3), .val (.int p4), .val (.int p5), .val (.int ((p0 &&& (255 : Int32)).toUInt32.toUInt16.toUInt32.toInt32)), .val (.int ((p1 &&& (255 : Int32)).toUInt32.toUInt16.toUInt32.toInt32)), .val (.int ((p2 &&& (255 : Int32)).toUInt32.toUInt16.toUInt32.toInt32)), .val (.int (1 : Int32)), .val (.ref b17), .val (.ref b25), .val (.int (p5 &&& (3 : Int32))), .val (.int ((((p5.toUInt32 >>> ((2 : Int32) &&& 31).toUInt32).toInt32) &&& (3 : Int32)) - (1 : Int32))), .val (.int cc), .unset] []))
        refine Runs.by (fun _ hr => XS.iconst XJ30.here hx rfl (hb hby at_269) hr) ?_
        show Runs p e below _ (TJ30.setTop (mkF m 270 #[.val (.int p0), .val (.int p1), .val (.int p2), .val (.int p3), .val (.int p4), .val (.int p5), .val (.int ((p0 &&& (255 : Int32)).toUInt32.toUInt16.toUInt32.toInt32)), .val (.int ((p1 &&& (255 : Int32)).toUInt32.toUInt16.toUInt32.toInt32)), .val (.int ((p2 &&& (255 : Int32)).toUInt32.toUInt16.toUInt32.toInt32)), .val (.int (1 : Int32)), .val (.ref b17), .val (.ref b25), .val (.int (p5 &&& (3 : Int32))), .val (.int ((((p5.toUInt32 >>> ((2 : Int32) &&& 31).toUInt32).toInt32) &&& (3 : Int32)) - (1 : Int32))), .val (.int cc), .unset] [(.int (0 : Int32))]))
        refine Runs.by (fun _ hr => XS.istore XJ30.here hx rfl (hb hby at_270) rfl (l' := #[.val (.int p0), .val (.int p1), .val (.int p2), .val (.int p3), .val (.int p4), .val (.int p5), .val (.int ((p0 &&& (255 : Int32)).toUInt32.toUInt16.toUInt32.toInt32)), .val (.int ((p1 &&& (255 : Int32)).toUInt32.toUInt16.toUInt32.toInt32)), .val (.int ((p2 &&& (255 : Int32)).toUInt32.toUInt16.toUInt32.toInt32)), .val (.int (1 : Int32)), .val (.ref b17), .val (.ref b25), .val (.int (p5 &&& (3 : Int32))), .val (.int ((((p5.toUInt32 >>> ((2 : Int32) &&& 31).toUInt32).toInt32) &&& (3 : Int32)) - (1 : Int32))), .val (.int cc), .val (.int (0 : Int32))]) rfl hr) ?_
        show Runs p e below _ (TJ30.setTop (mkF m 272 #[.val (.int p0), .val (.int p1), .val (.int p2), .val (.int p3), .val (.int p4), .val (.int p5), .val (.int ((p0 &&& (255 : Int32)).toUInt32.toUInt16.toUInt32.toInt32)), .val (.int ((p1 &&& (255 : Int32)).toUInt32.toUInt16.toUInt32.toInt32)), .val (.int ((p2 &&& (255 : Int32)).toUInt32.toUInt16.toUInt32.toInt32)), .val (.int (1 : Int32)), .val (.ref b17), .val (.ref b25), .val (.int (p5 &&& (3 : Int32))), .val (.int ((((p5.toUInt32 >>> ((2 : Int32) &&& 31).toUInt32).toInt32) &&& (3 : Int32)) - (1 : Int32))), .val (.int cc), .val (.int (0 : Int32))] []))
        refine Runs.by (fun _ hr => XS.aload XJ30.here hx rfl (hb hby at_272) rfl rfl hr) ?_
        show Runs p e below _ (TJ30.setTop (mkF m 274 #[.val (.int p0), .val (.int p1), .val (.int p2), .val (.int p3), .val (.int p4), .val (.int p5), .val (.int ((p0 &&& (255 : Int32)).toUInt32.toUInt16.toUInt32.toInt32)), .val (.int ((p1 &&& (255 : Int32)).toUInt32.toUInt16.toUInt32.toInt32)), .val (.int ((p2 &&& (255 : Int32)).toUInt32.toUInt16.toUInt32.toInt32)), .val (.int (1 : Int32)), .val (.ref b17), .val (.ref b25), .val (.int (p5 &&& (3 : Int32))), .val (.int ((((p5.toUInt32 >>> ((2 : Int32) &&& 31).toUInt32).toInt32) &&& (3 : Int32)) - (1 : Int32))), .val (.int cc), .val (.int (0 : Int32))] [(.ref b25)]))
        refine Runs.by (fun _ hr => XS.iload XJ30.here hx rfl (hb hby at_274) rfl  hr) ?_
        show Runs p e below _ (TJ30.setTop (mkF m 276 #[.val (.int p0), .val (.int p1), .val (.int p2), .val (.int p3), .val (.int p4), .val (.int p5), .val (.int ((p0 &&& (255 : Int32)).toUInt32.toUInt16.toUInt32.toInt32)), .val (.int ((p1 &&& (255 : Int32)).toUInt32.toUInt16.toUInt32.toInt32)), .val (.int ((p2 &&& (255 : Int32)).toUInt32.toUInt16.toUInt32.toInt32)), .val (.int (1 : Int32)), .val (.ref b17), .val (.ref b25), .val (.int (p5 &&& (3 : Int32))), .val (.int ((((p5.toUInt32 >>> ((2 : Int32) &&& 31).toUInt32).toInt32) &&& (3 : Int32)) - (1 : Int32))), .val (.int cc), .val (.int (0 : Int32))] [(.int cc), (.ref b25)]))
        obtain ⟨cq32, kq32, q32a, q32b, q32c⟩ := isOf hZ eJ30 f27_0
        obtain ⟨_, _, ⟨T32, L32, k32, n32⟩, -, X32, ⟨Lc32, hQ32, l32, y32, z32⟩, st32⟩ := XJ30.virtualBack hx (y := (⟨"com/example/vedette/vedette/io/Utf8Buffer$Stops", "isStop", "(I)Z"⟩ : MethodName)) (z := (⟨"com/example/vedette/vedette/io/Utf8Buffer$Stops", "isStop", "(I)Z"⟩ : MethodName)) hown (mvT hZ (hw _ (List.mem_of_getElem? (i := 79) rfl))) (mvT hZ (hw _ (List.mem_of_getElem? (i := 80) rfl))) (notFace_of_selects (args := #[]) (mvT hZ (hw _ (List.mem_of_getElem? (i := 82) rfl)))) (mvT hZ (hw _ (List.mem_of_getElem? (i := 82) rfl))) (mvT hZ (hw _ (List.mem_of_getElem? (i := 81) rfl))) (by decide) (backOf (W := 0) (rm16 l Z a0 hw [] b25 cc t27 kt27 z27 wf27 T27.heap n0 (Nat.le_trans Z0 K28.1) f27_1 f27_2 hcc) hZ (hw _ (List.mem_of_getElem? (i := 83) rfl)) (hw _ (List.mem_of_getElem? (i := 32) rfl)) (by decide) (by decide)) q32a q32c (g := (mkF m 276 #[.val (.int p0), .val (.int p1), .val (.int p2), .val (.int p3), .val (.int p4), .val (.int p5), .val (.int ((p0 &&& (255 : Int32)).toUInt32.toUInt16.toUInt32.toInt32)), .val (.int ((p1 &&& (255 : Int32)).toUInt32.toUInt16.toUInt32.toInt32)), .val (.int ((p2 &&& (255 : Int32)).toUInt32.toUInt16.toUInt32.toInt32)), .val (.int (1 : Int32)), .val (.ref b17), .val (.ref b25), .val (.int (p5 &&& (3 : Int32))), .val (.int ((((p5.toUInt32 >>> ((2 : Int32) &&& 31).toUInt32).toInt32) &&& (3 : Int32)) - (1 : Int32))), .val (.int cc), .val (.int (0 : Int32))] [(.int cc), (.ref b25)])) rfl (by rw [hml]; rfl) (Steps.refl _) (argsL := [(.int cc)]) (rest := []) (lenOf pd_11 rfl) rfl (by show 2 * 0 + _ ≤ _; exact Nat.le_of_eq rfl) (hb hby at_276) (fun _ _ => ⟨rfl, eJ30, (by decide : 6 + 0 ≤ _), (by decide : 520 + 0 ≤ _)⟩)
        dsimp only [Pt.U, Pt.locs, Pt.cells, Pt.slots] at X32 l32 y32 z32 st32 hQ32
        subst l32 y32 z32
        obtain ⟨rfl, Nq32, eq32⟩ := hQ32
        have N32 := Fr.app NJ30 Nq32
        refine Runs.by (fun _ hr => st32.trans hr) ?_
        have hv : own_is z27 wf27 cc = (0 : Int32) := (hs27 cc hcc).trans (by simp only [own_nc, if_neg hc236])
        rw [hv]
        show Runs p e below _ (T32.setTop (mkF m 279 #[.val (.int p0), .val (.int p1), .val (.int p2), .val (.int p3), .val (.int p4), .val (.int p5), .val (.int ((p0 &&& (255 : Int32)).toUInt32.toUInt16.toUInt32.toInt32)), .val (.int ((p1 &&& (255 : Int32)).toUInt32.toUInt16.toUInt32.toInt32)), .val (.int ((p2 &&& (255 : Int32)).toUInt32.toUInt16.toUInt32.toInt32)), .val (.int (1 : Int32)), .val (.ref b17), .val (.ref b25), .val (.int (p5 &&& (3 : Int32))), .val (.int ((((p5.toUInt32 >>> ((2 : Int32) &&& 31).toUInt32).toInt32) &&& (3 : Int32)) - (1 : Int32))), .val (.int cc), .val (.int (0 : Int32))] [(.int (0 : Int32))]))
        refine Runs.by (fun _ hr => XS.iload X32.here hx rfl (hb hby at_279) rfl  hr) ?_
        show Runs p e below _ (T32.setTop (mkF m 281 #[.val (.int p0), .val (.int p1), .val (.int p2), .val (.int p3), .val (.int p4), .val (.int p5), .val (.int ((p0 &&& (255 : Int32)).toUInt32.toUInt16.toUInt32.toInt32)), .val (.int ((p1 &&& (255 : Int32)).toUInt32.toUInt16.toUInt32.toInt32)), .val (.int ((p2 &&& (255 : Int32)).toUInt32.toUInt16.toUInt32.toInt32)), .val (.int (1 : Int32)), .val (.ref b17), .val (.ref b25), .val (.int (p5 &&& (3 : Int32))), .val (.int ((((p5.toUInt32 >>> ((2 : Int32) &&& 31).toUInt32).toInt32) &&& (3 : Int32)) - (1 : Int32))), .val (.int cc), .val (.int (0 : Int32))] [(.int (0 : Int32)), (.int (0 : Int32))]))
        have hc281 : (0 : Int32) = (0 : Int32) := (by decide)
        refine Runs.by (fun _ hr => XS.icmpNo X32.here hx rfl (hb hby at_281) rfl (teq hc281).2 hr) ?_
        show Runs p e below _ (T32.setTop (mkF m 284 #[.val (.int p0), .val (.int p1), .val (.int p2), .val (.int p3), .val (.int p4), .val (.int p5), .val (.int ((p0 &&& (255 : Int32)).toUInt32.toUInt16.toUInt32.toInt32)), .val (.int ((p1 &&& (255 : Int32)).toUInt32.toUInt16.toUInt32.toInt32)), .val (.int ((p2 &&& (255 : Int32)).toUInt32.toUInt16.toUInt32.toInt32)), .val (.int (1 : Int32)), .val (.ref b17), .val (.ref b25), .val (.int (p5 &&& (3 : Int32))), .val (.int ((((p5.toUInt32 >>> ((2 : Int32) &&& 31).toUInt32).toInt32) &&& (3 : Int32)) - (1 : Int32))), .val (.int cc), .val (.int (0 : Int32))] []))
        refine Runs.by (fun _ hr => XS.iconst X32.here hx rfl (hb hby at_284) hr) ?_
        show Runs p e below _ (T32.setTop (mkF m 285 #[.val (.int p0), .val (.int p1), .val (.int p2), .val (.int p3), .val (.int p4), .val (.int p5), .val (.int ((p0 &&& (255 : Int32)).toUInt32.toUInt16.toUInt32.toInt32)), .val (.int ((p1 &&& (255 : Int32)).toUInt32.toUInt16.toUInt32.toInt32)), .val (.int ((p2 &&& (255 : Int32)).toUInt32.toUInt16.toUInt32.toInt32)), .val (.int (1 : Int32)), .val (.ref b17), .val (.ref b25), .val (.int (p5 &&& (3 : Int32))), .val (.int ((((p5.toUInt32 >>> ((2 : Int32) &&& 31).toUInt32).toInt32) &&& (3 : Int32)) - (1 : Int32))), .val (.int cc), .val (.int (0 : Int32))] [(.int (1 : Int32))]))
        refine Runs.by (fun _ hr => XS.goto X32.here hx rfl (pc0 := 285) (pc' := 289) rfl (hb hby at_285) (by decide) (by decide) hr) ?_
        show Runs p e below _ (T32.setTop (mkF m 289 #[.val (.int p0), .val (.int p1), .val (.int p2), .val (.int p3), .val (.int p4), .val (.int p5), .val (.int ((p0 &&& (255 : Int32)).toUInt32.toUInt16.toUInt32.toInt32)), .val (.int ((p1 &&& (255 : Int32)).toUInt32.toUInt16.toUInt32.toInt32)), .val (.int ((p2 &&& (255 : Int32)).toUInt32.toUInt16.toUInt32.toInt32)), .val (.int (1 : Int32)), .val (.ref b17), .val (.ref b25), .val (.int (p5 &&& (3 : Int32))), .val (.int ((((p5.toUInt32 >>> ((2 : Int32) &&& 31).toUInt32).toInt32) &&& (3 : Int32)) - (1 : Int32))), .val (.int cc), .val (.int (0 : Int32))] [(.int (1 : Int32))]))
        refine Runs.retW X32 hx hrt hlk eq32 hS hk hZ hEL hC (Or.inl ⟨rfl, by simp, _, rfl⟩) (by rfl) (hb hby at_289) (by decide) (by decide) ?_
        exact ⟨rfl, N32⟩
    show Runs p e below _ (T27.setTop (mkF m 160 #[.val (.int p0), .val (.int p1), .val (.int p2), .val (.int p3), .val (.int p4), .val (.int p5), .val (.int ((p0 &&& (255 : Int32)).toUInt32.toUInt16.toUInt32.toInt32)), .val (.int ((p1 &&& (255 : Int32)).toUInt32.toUInt16.toUInt32.toInt32)), .val (.int ((p2 &&& (255 : Int32)).toUInt32.toUInt16.toUInt32.toInt32)), .val (.int (1 : Int32)), .val (.ref b17), .val (.ref b25), .val (.int (p5 &&& (3 : Int32))), .val (.int ((((p5.toUInt32 >>> ((2 : Int32) &&& 31).toUInt32).toInt32) &&& (3 : Int32)) - (1 : Int32))), .unset, .unset] []))
    refine Runs.by (fun _ hr => XS.iload X27.here hx rfl (hb hby at_160) rfl  hr) ?_
    show Runs p e below _ (T27.setTop (mkF m 162 #[.val (.int p0), .val (.int p1), .val (.int p2), .val (.int p3), .val (.int p4), .val (.int p5), .val (.int ((p0 &&& (255 : Int32)).toUInt32.toUInt16.toUInt32.toInt32)), .val (.int ((p1 &&& (255 : Int32)).toUInt32.toUInt16.toUInt32.toInt32)), .val (.int ((p2 &&& (255 : Int32)).toUInt32.toUInt16.toUInt32.toInt32)), .val (.int (1 : Int32)), .val (.ref b17), .val (.ref b25), .val (.int (p5 &&& (3 : Int32))), .val (.int ((((p5.toUInt32 >>> ((2 : Int32) &&& 31).toUInt32).toInt32) &&& (3 : Int32)) - (1 : Int32))), .unset, .unset] [(.int (p5 &&& (3 : Int32)))]))
    by_cases hc162 : (p5 &&& (3 : Int32)) = (0 : Int32)
    · -- pc 162: (p5 &&& (3 : Int32)) = (0 : Int32)
      refine Runs.by (fun _ hr => XS.ifNo X27.here hx rfl (hb hby at_162) rfl ((if0 _ _).trans (teq hc162).2) hr) ?_
      show Runs p e below _ (T27.setTop (mkF m 165 #[.val (.int p0), .val (.int p1), .val (.int p2), .val (.int p3), .val (.int p4), .val (.int p5), .val (.int ((p0 &&& (255 : Int32)).toUInt32.toUInt16.toUInt32.toInt32)), .val (.int ((p1 &&& (255 : Int32)).toUInt32.toUInt16.toUInt32.toInt32)), .val (.int ((p2 &&& (255 : Int32)).toUInt32.toUInt16.toUInt32.toInt32)), .val (.int (1 : Int32)), .val (.ref b17), .val (.ref b25), .val (.int (p5 &&& (3 : Int32))), .val (.int ((((p5.toUInt32 >>> ((2 : Int32) &&& 31).toUInt32).toInt32) &&& (3 : Int32)) - (1 : Int32))), .unset, .unset] []))
      refine Runs.by (fun _ hr => XS.iload X27.here hx rfl (hb hby at_165) rfl  hr) ?_
      show Runs p e below _ (T27.setTop (mkF m 167 #[.val (.int p0), .val (.int p1), .val (.int p2), .val (.int p3), .val (.int p4), .val (.int p5), .val (.int ((p0 &&& (255 : Int32)).toUInt32.toUInt16.toUInt32.toInt32)), .val (.int ((p1 &&& (255 : Int32)).toUInt32.toUInt16.toUInt32.toInt32)), .val (.int ((p2 &&& (255 : Int32)).toUInt32.toUInt16.toUInt32.toInt32)), .val (.int (1 : Int32)), .val (.ref b17), .val (.ref b25), .val (.int (p5 &&& (3 : Int32))), .val (.int ((((p5.toUInt32 >>> ((2 : Int32) &&& 31).toUInt32).toInt32) &&& (3 : Int32)) - (1 : Int32))), .unset, .unset] [(.int p4)]))
      refine Runs.by (fun _ hr => X27.ldcI hx hown (mvT hZ (hw _ (List.mem_of_getElem? (i := 87) rfl))) (g := (mkF m 167 #[.val (.int p0), .val (.int p1), .val (.int p2), .val (.int p3), .val (.int p4), .val (.int p5), .val (.int ((p0 &&& (255 : Int32)).toUInt32.toUInt16.toUInt32.toInt32)), .val (.int ((p1 &&& (255 : Int32)).toUInt32.toUInt16.toUInt32.toInt32)), .val (.int ((p2 &&& (255 : Int32)).toUInt32.toUInt16.toUInt32.toInt32)), .val (.int (1 : Int32)), .val (.ref b17), .val (.ref b25), .val (.int (p5 &&& (3 : Int32))), .val (.int ((((p5.toUInt32 >>> ((2 : Int32) &&& 31).toUInt32).toInt32) &&& (3 : Int32)) - (1 : Int32))), .unset, .unset] [(.int p4)])) rfl (hb hby at_167) hr) ?_
      show Runs p e below _ (T27.setTop (mkF m 169 #[.val (.int p0), .val (.int p1), .val (.int p2), .val (.int p3), .val (.int p4), .val (.int p5), .val (.int ((p0 &&& (255 : Int32)).toUInt32.toUInt16.toUInt32.toInt32)), .val (.int ((p1 &&& (255 : Int32)).toUInt32.toUInt16.toUInt32.toInt32)), .val (.int ((p2 &&& (255 : Int32)).toUInt32.toUInt16.toUInt32.toInt32)), .val (.int (1 : Int32)), .val (.ref b17), .val (.ref b25), .val (.int (p5 &&& (3 : Int32))), .val (.int ((((p5.toUInt32 >>> ((2 : Int32) &&& 31).toUInt32).toInt32) &&& (3 : Int32)) - (1 : Int32))), .unset, .unset] [(.int (2147483647 : Int32)), (.int p4)]))
      refine Runs.by (fun _ hr => XS.iand X27.here hx rfl (hb hby at_169) rfl hr) ?_
      show Runs p e below _ (T27.setTop (mkF m 170 #[.val (.int p0), .val (.int p1), .val (.int p2), .val (.int p3), .val (.int p4), .val (.int p5), .val (.int ((p0 &&& (255 : Int32)).toUInt32.toUInt16.toUInt32.toInt32)), .val (.int ((p1 &&& (255 : Int32)).toUInt32.toUInt16.toUInt32.toInt32)), .val (.int ((p2 &&& (255 : Int32)).toUInt32.toUInt16.toUInt32.toInt32)), .val (.int (1 : Int32)), .val (.ref b17), .val (.ref b25), .val (.int (p5 &&& (3 : Int32))), .val (.int ((((p5.toUInt32 >>> ((2 : Int32) &&& 31).toUInt32).toInt32) &&& (3 : Int32)) - (1 : Int32))), .unset, .unset] [(.int (p4 &&& (2147483647 : Int32)))]))
      refine Runs.by (fun _ hr => XS.istore X27.here hx rfl (hb hby at_170) rfl (l' := #[.val (.int p0), .val (.int p1), .val (.int p2), .val (.int p3), .val (.int p4), .val (.int p5), .val (.int ((p0 &&& (255 : Int32)).toUInt32.toUInt16.toUInt32.toInt32)), .val (.int ((p1 &&& (255 : Int32)).toUInt32.toUInt16.toUInt32.toInt32)), .val (.int ((p2 &&& (255 : Int32)).toUInt32.toUInt16.toUInt32.toInt32)), .val (.int (1 : Int32)), .val (.ref b17), .val (.ref b25), .val (.int (p5 &&& (3 : Int32))), .val (.int ((((p5.toUInt32 >>> ((2 : Int32) &&& 31).toUInt32).toInt32) &&& (3 : Int32)) - (1 : Int32))), .val (.int (p4 &&& (2147483647 : Int32))), .unset]) rfl hr) ?_
      show Runs p e below _ (T27.setTop (mkF m 172 #[.val (.int p0), .val (.int p1), .val (.int p2), .val (.int p3), .val (.int p4), .val (.int p5), .val (.int ((p0 &&& (255 : Int32)).toUInt32.toUInt16.toUInt32.toInt32)), .val (.int ((p1 &&& (255 : Int32)).toUInt32.toUInt16.toUInt32.toInt32)), .val (.int ((p2 &&& (255 : Int32)).toUInt32.toUInt16.toUInt32.toInt32)), .val (.int (1 : Int32)), .val (.ref b17), .val (.ref b25), .val (.int (p5 &&& (3 : Int32))), .val (.int ((((p5.toUInt32 >>> ((2 : Int32) &&& 31).toUInt32).toInt32) &&& (3 : Int32)) - (1 : Int32))), .val (.int (p4 &&& (2147483647 : Int32))), .unset] []))
      refine Runs.by (fun _ hr => XS.goto X27.here hx rfl (pc0 := 172) (pc' := 226) rfl (hb hby at_172) (by decide) (by decide) hr) ?_
      exact JL29 (p4 &&& (2147483647 : Int32)) _ _ X27 rfl N27 (own_m31 _)
    · -- pc 162: not (p5 &&& (3 : Int32)) = (0 : Int32)
      refine Runs.by (fun _ hr => XS.ifYes X27.here hx rfl (pc0 := 162) (pc' := 175) rfl (hb hby at_162) rfl ((if0 _ _).trans (feq hc162).2) (by decide) (by decide) hr) ?_
      show Runs p e below _ (T27.setTop (mkF m 175 #[.val (.int p0), .val (.int p1), .val (.int p2), .val (.int p3), .val (.int p4), .val (.int p5), .val (.int ((p0 &&& (255 : Int32)).toUInt32.toUInt16.toUInt32.toInt32)), .val (.int ((p1 &&& (255 : Int32)).toUInt32.toUInt16.toUInt32.toInt32)), .val (.int ((p2 &&& (255 : Int32)).toUInt32.toUInt16.toUInt32.toInt32)), .val (.int (1 : Int32)), .val (.ref b17), .val (.ref b25), .val (.int (p5 &&& (3 : Int32))), .val (.int ((((p5.toUInt32 >>> ((2 : Int32) &&& 31).toUInt32).toInt32) &&& (3 : Int32)) - (1 : Int32))), .unset, .unset] []))
      refine Runs.by (fun _ hr => XS.iload X27.here hx rfl (hb hby at_175) rfl  hr) ?_
      show Runs p e below _ (T27.setTop (mkF m 177 #[.val (.int p0), .val (.int p1), .val (.int p2), .val (.int p3), .val (.int p4), .val (.int p5), .val (.int ((p0 &&& (255 : Int32)).toUInt32.toUInt16.toUInt32.toInt32)), .val (.int ((p1 &&& (255 : Int32)).toUInt32.toUInt16.toUInt32.toInt32)), .val (.int ((p2 &&& (255 : Int32)).toUInt32.toUInt16.toUInt32.toInt32)), .val (.int (1 : Int32)), .val (.ref b17), .val (.ref b25), .val (.int (p5 &&& (3 : Int32))), .val (.int ((((p5.toUInt32 >>> ((2 : Int32) &&& 31).toUInt32).toInt32) &&& (3 : Int32)) - (1 : Int32))), .unset, .unset] [(.int (p5 &&& (3 : Int32)))]))
      refine Runs.by (fun _ hr => XS.iconst X27.here hx rfl (hb hby at_177) hr) ?_
      show Runs p e below _ (T27.setTop (mkF m 178 #[.val (.int p0), .val (.int p1), .val (.int p2), .val (.int p3), .val (.int p4), .val (.int p5), .val (.int ((p0 &&& (255 : Int32)).toUInt32.toUInt16.toUInt32.toInt32)), .val (.int ((p1 &&& (255 : Int32)).toUInt32.toUInt16.toUInt32.toInt32)), .val (.int ((p2 &&& (255 : Int32)).toUInt32.toUInt16.toUInt32.toInt32)), .val (.int (1 : Int32)), .val (.ref b17), .val (.ref b25), .val (.int (p5 &&& (3 : Int32))), .val (.int ((((p5.toUInt32 >>> ((2 : Int32) &&& 31).toUInt32).toInt32) &&& (3 : Int32)) - (1 : Int32))), .unset, .unset] [(.int (1 : Int32)), (.int (p5 &&& (3 : Int32)))]))
      by_cases hc178 : (p5 &&& (3 : Int32)) = (1 : Int32)
      · -- pc 178: (p5 &&& (3 : Int32)) = (1 : Int32)
        refine Runs.by (fun _ hr => XS.icmpNo X27.here hx rfl (hb hby at_178) rfl (teq hc178).2 hr) ?_
        show Runs p e below _ (T27.setTop (mkF m 181 #[.val (.int p0), .val (.int p1), .val (.int p2), .val (.int p3), .val (.int p4), .val (.int p5), .val (.int ((p0 &&& (255 : Int32)).toUInt32.toUInt16.toUInt32.toInt32)), .val (.int ((p1 &&& (255 : Int32)).toUInt32.toUInt16.toUInt32.toInt32)), .val (.int ((p2 &&& (255 : Int32)).toUInt32.toUInt16.toUInt32.toInt32)), .val (.int (1 : Int32)), .val (.ref b17), .val (.ref b25), .val (.int (p5 &&& (3 : Int32))), .val (.int ((((p5.toUInt32 >>> ((2 : Int32) &&& 31).toUInt32).toInt32) &&& (3 : Int32)) - (1 : Int32))), .unset, .unset] []))
        refine Runs.by (fun _ hr => XS.iconst X27.here hx rfl (hb hby at_181) hr) ?_
        show Runs p e below _ (T27.setTop (mkF m 182 #[.val (.int p0), .val (.int p1), .val (.int p2), .val (.int p3), .val (.int p4), .val (.int p5), .val (.int ((p0 &&& (255 : Int32)).toUInt32.toUInt16.toUInt32.toInt32)), .val (.int ((p1 &&& (255 : Int32)).toUInt32.toUInt16.toUInt32.toInt32)), .val (.int ((p2 &&& (255 : Int32)).toUInt32.toUInt16.toUInt32.toInt32)), .val (.int (1 : Int32)), .val (.ref b17), .val (.ref b25), .val (.int (p5 &&& (3 : Int32))), .val (.int ((((p5.toUInt32 >>> ((2 : Int32) &&& 31).toUInt32).toInt32) &&& (3 : Int32)) - (1 : Int32))), .unset, .unset] [(.int (0 : Int32))]))
        refine Runs.by (fun _ hr => XS.iload X27.here hx rfl (hb hby at_182) rfl  hr) ?_
        show Runs p e below _ (T27.setTop (mkF m 184 #[.val (.int p0), .val (.int p1), .val (.int p2), .val (.int p3), .val (.int p4), .val (.int p5), .val (.int ((p0 &&& (255 : Int32)).toUInt32.toUInt16.toUInt32.toInt32)), .val (.int ((p1 &&& (255 : Int32)).toUInt32.toUInt16.toUInt32.toInt32)), .val (.int ((p2 &&& (255 : Int32)).toUInt32.toUInt16.toUInt32.toInt32)), .val (.int (1 : Int32)), .val (.ref b17), .val (.ref b25), .val (.int (p5 &&& (3 : Int32))), .val (.int ((((p5.toUInt32 >>> ((2 : Int32) &&& 31).toUInt32).toInt32) &&& (3 : Int32)) - (1 : Int32))), .unset, .unset] [(.int ((p0 &&& (255 : Int32)).toUInt32.toUInt16.toUInt32.toInt32)), (.int (0 : Int32))]))
        refine Runs.by (fun _ hr => XS.iload X27.here hx rfl (hb hby at_184) rfl  hr) ?_
        show Runs p e below _ (T27.setTop (mkF m 186 #[.val (.int p0), .val (.int p1), .val (.int p2), .val (.int p3), .val (.int p4), .val (.int p5), .val (.int ((p0 &&& (255 : Int32)).toUInt32.toUInt16.toUInt32.toInt32)), .val (.int ((p1 &&& (255 : Int32)).toUInt32.toUInt16.toUInt32.toInt32)), .val (.int ((p2 &&& (255 : Int32)).toUInt32.toUInt16.toUInt32.toInt32)), .val (.int (1 : Int32)), .val (.ref b17), .val (.ref b25), .val (.int (p5 &&& (3 : Int32))), .val (.int ((((p5.toUInt32 >>> ((2 : Int32) &&& 31).toUInt32).toInt32) &&& (3 : Int32)) - (1 : Int32))), .unset, .unset] [(.int ((((p5.toUInt32 >>> ((2 : Int32) &&& 31).toUInt32).toInt32) &&& (3 : Int32)) - (1 : Int32))), (.int ((p0 &&& (255 : Int32)).toUInt32.toUInt16.toUInt32.toInt32)), (.int (0 : Int32))]))
        refine Runs.by (fun _ hr => XS.iadd X27.here hx rfl (hb hby at_186) rfl hr) ?_
        show Runs p e below _ (T27.setTop (mkF m 187 #[.val (.int p0), .val (.int p1), .val (.int p2), .val (.int p3), .val (.int p4), .val (.int p5), .val (.int ((p0 &&& (255 : Int32)).toUInt32.toUInt16.toUInt32.toInt32)), .val (.int ((p1 &&& (255 : Int32)).toUInt32.toUInt16.toUInt32.toInt32)), .val (.int ((p2 &&& (255 : Int32)).toUInt32.toUInt16.toUInt32.toInt32)), .val (.int (1 : Int32)), .val (.ref b17), .val (.ref b25), .val (.int (p5 &&& (3 : Int32))), .val (.int ((((p5.toUInt32 >>> ((2 : Int32) &&& 31).toUInt32).toInt32) &&& (3 : Int32)) - (1 : Int32))), .unset, .unset] [(.int (((p0 &&& (255 : Int32)).toUInt32.toUInt16.toUInt32.toInt32) + ((((p5.toUInt32 >>> ((2 : Int32) &&& 31).toUInt32).toInt32) &&& (3 : Int32)) - (1 : Int32)))), (.int (0 : Int32))]))
        obtain ⟨_, _, ⟨T33, L33, k33, n33⟩, -, X33, ⟨Lc33, hQ33, l33, y33, z33⟩, st33⟩ := Jvm.LawKit.callS X27 hx (y := (⟨"java/lang/Math", "max", "(II)I"⟩ : MethodName)) hown (mvT hZ (hw _ (List.mem_of_getElem? (i := 78) rfl))) (mvT hZ (hw _ (List.mem_of_getElem? (i := 73) rfl))) (mvT hZ (hw _ (List.mem_of_getElem? (i := 74) rfl))) (mvT hZ (hw _ (List.mem_of_getElem? (i := 75) rfl))) (by decide) (backOf (W := 0) (rm15 l Z a0 hw [] (0 : Int32) (((p0 &&& (255 : Int32)).toUInt32.toUInt16.toUInt32.toInt32) + ((((p5.toUInt32 >>> ((2 : Int32) &&& 31).toUInt32).toInt32) &&& (3 : Int32)) - (1 : Int32)))  T27.heap n0 (Nat.le_trans Z0 K28.1) ) hZ (hw _ (List.mem_of_getElem? (i := 75) rfl)) (hw _ (List.mem_of_getElem? (i := 74) rfl)) (by decide) (by decide)) (g := (mkF m 187 #[.val (.int p0), .val (.int p1), .val (.int p2), .val (.int p3), .val (.int p4), .val (.int p5), .val (.int ((p0 &&& (255 : Int32)).toUInt32.toUInt16.toUInt32.toInt32)), .val (.int ((p1 &&& (255 : Int32)).toUInt32.toUInt16.toUInt32.toInt32)), .val (.int ((p2 &&& (255 : Int32)).toUInt32.toUInt16.toUInt32.toInt32)), .val (.int (1 : Int32)), .val (.ref b17), .val (.ref b25), .val (.int (p5 &&& (3 : Int32))), .val (.int ((((p5.toUInt32 >>> ((2 : Int32) &&& 31).toUInt32).toInt32) &&& (3 : Int32)) - (1 : Int32))), .unset, .unset] [(.int (((p0 &&& (255 : Int32)).toUInt32.toUInt16.toUInt32.toInt32) + ((((p5.toUInt32 >>> ((2 : Int32) &&& 31).toUInt32).toInt32) &&& (3 : Int32)) - (1 : Int32)))), (.int (0 : Int32))])) rfl (by rw [hml]; rfl) (argsL := [(.int (0 : Int32)), (.int (((p0 &&& (255 : Int32)).toUInt32.toUInt16.toUInt32.toInt32) + ((((p5.toUInt32 >>> ((2 : Int32) &&& 31).toUInt32).toInt32) &&& (3 : Int32)) - (1 : Int32))))]) (rest := []) (lenOf pd_8 rfl) rfl (by show 2 * 0 + _ ≤ _; exact Nat.le_of_eq rfl) (hb hby at_187) (fun _ _ => ⟨rfl, rfl, (by decide : 6 + 0 ≤ _), (by decide : 520 + 0 ≤ _)⟩)
        dsimp only [Pt.U, Pt.locs, Pt.cells, Pt.slots] at X33 l33 y33 z33 st33 hQ33
        subst l33 y33 z33
        obtain ⟨rfl, Nq33, eq33⟩ := hQ33
        have N33 := Fr.app N27 Nq33
        refine Runs.by (fun t hr => st33 t hr) ?_
        show Runs p e below _ (T33.setTop (mkF m 190 #[.val (.int p0), .val (.int p1), .val (.int p2), .val (.int p3), .val (.int p4), .val (.int p5), .val (.int ((p0 &&& (255 : Int32)).toUInt32.toUInt16.toUInt32.toInt32)), .val (.int ((p1 &&& (255 : Int32)).toUInt32.toUInt16.toUInt32.toInt32)), .val (.int ((p2 &&& (255 : Int32)).toUInt32.toUInt16.toUInt32.toInt32)), .val (.int (1 : Int32)), .val (.ref b17), .val (.ref b25), .val (.int (p5 &&& (3 : Int32))), .val (.int ((((p5.toUInt32 >>> ((2 : Int32) &&& 31).toUInt32).toInt32) &&& (3 : Int32)) - (1 : Int32))), .unset, .unset] [(.int (own_max (0 : Int32) (((p0 &&& (255 : Int32)).toUInt32.toUInt16.toUInt32.toInt32) + ((((p5.toUInt32 >>> ((2 : Int32) &&& 31).toUInt32).toInt32) &&& (3 : Int32)) - (1 : Int32)))))]))
        refine Runs.by (fun _ hr => XS.istore X33.here hx rfl (hb hby at_190) rfl (l' := #[.val (.int p0), .val (.int p1), .val (.int p2), .val (.int p3), .val (.int p4), .val (.int p5), .val (.int ((p0 &&& (255 : Int32)).toUInt32.toUInt16.toUInt32.toInt32)), .val (.int ((p1 &&& (255 : Int32)).toUInt32.toUInt16.toUInt32.toInt32)), .val (.int ((p2 &&& (255 : Int32)).toUInt32.toUInt16.toUInt32.toInt32)), .val (.int (1 : Int32)), .val (.ref b17), .val (.ref b25), .val (.int (p5 &&& (3 : Int32))), .val (.int ((((p5.toUInt32 >>> ((2 : Int32) &&& 31).toUInt32).toInt32) &&& (3 : Int32)) - (1 : Int32))), .val (.int (own_max (0 : Int32) (((p0 &&& (255 : Int32)).toUInt32.toUInt16.toUInt32.toInt32) + ((((p5.toUInt32 >>> ((2 : Int32) &&& 31).toUInt32).toInt32) &&& (3 : Int32)) - (1 : Int32))))), .unset]) rfl hr) ?_
        show Runs p e below _ (T33.setTop (mkF m 192 #[.val (.int p0), .val (.int p1), .val (.int p2), .val (.int p3), .val (.int p4), .val (.int p5), .val (.int ((p0 &&& (255 : Int32)).toUInt32.toUInt16.toUInt32.toInt32)), .val (.int ((p1 &&& (255 : Int32)).toUInt32.toUInt16.toUInt32.toInt32)), .val (.int ((p2 &&& (255 : Int32)).toUInt32.toUInt16.toUInt32.toInt32)), .val (.int (1 : Int32)), .val (.ref b17), .val (.ref b25), .val (.int (p5 &&& (3 : Int32))), .val (.int ((((p5.toUInt32 >>> ((2 : Int32) &&& 31).toUInt32).toInt32) &&& (3 : Int32)) - (1 : Int32))), .val (.int (own_max (0 : Int32) (((p0 &&& (255 : Int32)).toUInt32.toUInt16.toUInt32.toInt32) + ((((p5.toUInt32 >>> ((2 : Int32) &&& 31).toUInt32).toInt32) &&& (3 : Int32)) - (1 : Int32))))), .unset] []))
        refine Runs.by (fun _ hr => XS.goto X33.here hx rfl (pc0 := 192) (pc' := 226) rfl (hb hby at_192) (by decide) (by decide) hr) ?_
        exact JL29 (own_max (0 : Int32) (((p0 &&& (255 : Int32)).toUInt32.toUInt16.toUInt32.toInt32) + ((((p5.toUInt32 >>> ((2 : Int32) &&& 31).toUInt32).toInt32) &&& (3 : Int32)) - (1 : Int32)))) _ _ X33 eq33 N33 (own_max0 _)
      · -- pc 178: not (p5 &&& (3 : Int32)) = (1 : Int32)
        refine Runs.by (fun _ hr => XS.icmpYes X27.here hx rfl (pc0 := 178) (pc' := 195) rfl (hb hby at_178) rfl (feq hc178).2 (by decide) (by decide) hr) ?_
        show Runs p e below _ (T27.setTop (mkF m 195 #[.val (.int p0), .val (.int p1), .val (.int p2), .val (.int p3), .val (.int p4), .val (.int p5), .val (.int ((p0 &&& (255 : Int32)).toUInt32.toUInt16.toUInt32.toInt32)), .val (.int ((p1 &&& (255 : Int32)).toUInt32.toUInt16.toUInt32.toInt32)), .val (.int ((p2 &&& (255 : Int32)).toUInt32.toUInt16.toUInt32.toInt32)), .val (.int (1 : Int32)), .val (.ref b17), .val (.ref b25), .val (.int (p5 &&& (3 : Int32))), .val (.int ((((p5.toUInt32 >>> ((2 : Int32) &&& 31).toUInt32).toInt32) &&& (3 : Int32)) - (1 : Int32))), .unset, .unset] []))
        refine Runs.by (fun _ hr => XS.iload X27.here hx rfl (hb hby at_195) rfl  hr) ?_
        show Runs p e below _ (T27.setTop (mkF m 197 #[.val (.int p0), .val (.int p1), .val (.int p2), .val (.int p3), .val (.int p4), .val (.int p5), .val (.int ((p0 &&& (255 : Int32)).toUInt32.toUInt16.toUInt32.toInt32)), .val (.int ((p1 &&& (255 : Int32)).toUInt32.toUInt16.toUInt32.toInt32)), .val (.int ((p2 &&& (255 : Int32)).toUInt32.toUInt16.toUInt32.toInt32)), .val (.int (1 : Int32)), .val (.ref b17), .val (.ref b25), .val (.int (p5 &&& (3 : Int32))), .val (.int ((((p5.toUInt32 >>> ((2 : Int32) &&& 31).toUInt32).toInt32) &&& (3 : Int32)) - (1 : Int32))), .unset, .unset] [(.int (p5 &&& (3 : Int32)))]))
        refine Runs.by (fun _ hr => XS.iconst X27.here hx rfl (hb hby at_197) hr) ?_
        show Runs p e below _ (T27.setTop (mkF m 198 #[.val (.int p0), .val (.int p1), .val (.int p2), .val (.int p3), .val (.int p4), .val (.int p5), .val (.int ((p0 &&& (255 : Int32)).toUInt32.toUInt16.toUInt32.toInt32)), .val (.int ((p1 &&& (255 : Int32)).toUInt32.toUInt16.toUInt32.toInt32)), .val (.int ((p2 &&& (255 : Int32)).toUInt32.toUInt16.toUInt32.toInt32)), .val (.int (1 : Int32)), .val (.ref b17), .val (.ref b25), .val (.int (p5 &&& (3 : Int32))), .val (.int ((((p5.toUInt32 >>> ((2 : Int32) &&& 31).toUInt32).toInt32) &&& (3 : Int32)) - (1 : Int32))), .unset, .unset] [(.int (2 : Int32)), (.int (p5 &&& (3 : Int32)))]))
        by_cases hc198 : (p5 &&& (3 : Int32)) = (2 : Int32)
        · -- pc 198: (p5 &&& (3 : Int32)) = (2 : Int32)
          refine Runs.by (fun _ hr => XS.icmpNo X27.here hx rfl (hb hby at_198) rfl (teq hc198).2 hr) ?_
          show Runs p e below _ (T27.setTop (mkF m 201 #[.val (.int p0), .val (.int p1), .val (.int p2), .val (.int p3), .val (.int p4), .val (.int p5), .val (.int ((p0 &&& (255 : Int32)).toUInt32.toUInt16.toUInt32.toInt32)), .val (.int ((p1 &&& (255 : Int32)).toUInt32.toUInt16.toUInt32.toInt32)), .val (.int ((p2 &&& (255 : Int32)).toUInt32.toUInt16.toUInt32.toInt32)), .val (.int (1 : Int32)), .val (.ref b17), .val (.ref b25), .val (.int (p5 &&& (3 : Int32))), .val (.int ((((p5.toUInt32 >>> ((2 : Int32) &&& 31).toUInt32).toInt32) &&& (3 : Int32)) - (1 : Int32))), .unset, .unset] []))
          refine Runs.by (fun _ hr => XS.iconst X27.here hx rfl (hb hby at_201) hr) ?_
          show Runs p e below _ (T27.setTop (mkF m 202 #[.val (.int p0), .val (.int p1), .val (.int p2), .val (.int p3), .val (.int p4), .val (.int p5), .val (.int ((p0 &&& (255 : Int32)).toUInt32.toUInt16.toUInt32.toInt32)), .val (.int ((p1 &&& (255 : Int32)).toUInt32.toUInt16.toUInt32.toInt32)), .val (.int ((p2 &&& (255 : Int32)).toUInt32.toUInt16.toUInt32.toInt32)), .val (.int (1 : Int32)), .val (.ref b17), .val (.ref b25), .val (.int (p5 &&& (3 : Int32))), .val (.int ((((p5.toUInt32 >>> ((2 : Int32) &&& 31).toUInt32).toInt32) &&& (3 : Int32)) - (1 : Int32))), .unset, .unset] [(.int (0 : Int32))]))
          refine Runs.by (fun _ hr => XS.iload X27.here hx rfl (hb hby at_202) rfl  hr) ?_
          show Runs p e below _ (T27.setTop (mkF m 204 #[.val (.int p0), .val (.int p1), .val (.int p2), .val (.int p3), .val (.int p4), .val (.int p5), .val (.int ((p0 &&& (255 : Int32)).toUInt32.toUInt16.toUInt32.toInt32)), .val (.int ((p1 &&& (255 : Int32)).toUInt32.toUInt16.toUInt32.toInt32)), .val (.int ((p2 &&& (255 : Int32)).toUInt32.toUInt16.toUInt32.toInt32)), .val (.int (1 : Int32)), .val (.ref b17), .val (.ref b25), .val (.int (p5 &&& (3 : Int32))), .val (.int ((((p5.toUInt32 >>> ((2 : Int32) &&& 31).toUInt32).toInt32) &&& (3 : Int32)) - (1 : Int32))), .unset, .unset] [(.int ((p1 &&& (255 : Int32)).toUInt32.toUInt16.toUInt32.toInt32)), (.int (0 : Int32))]))
          refine Runs.by (fun _ hr => XS.iload X27.here hx rfl (hb hby at_204) rfl  hr) ?_
          show Runs p e below _ (T27.setTop (mkF m 206 #[.val (.int p0), .val (.int p1), .val (.int p2), .val (.int p3), .val (.int p4), .val (.int p5), .val (.int ((p0 &&& (255 : Int32)).toUInt32.toUInt16.toUInt32.toInt32)), .val (.int ((p1 &&& (255 : Int32)).toUInt32.toUInt16.toUInt32.toInt32)), .val (.int ((p2 &&& (255 : Int32)).toUInt32.toUInt16.toUInt32.toInt32)), .val (.int (1 : Int32)), .val (.ref b17), .val (.ref b25), .val (.int (p5 &&& (3 : Int32))), .val (.int ((((p5.toUInt32 >>> ((2 : Int32) &&& 31).toUInt32).toInt32) &&& (3 : Int32)) - (1 : Int32))), .unset, .unset] [(.int ((((p5.toUInt32 >>> ((2 : Int32) &&& 31).toUInt32).toInt32) &&& (3 : Int32)) - (1 : Int32))), (.int ((p1 &&& (255 : Int32)).toUInt32.toUInt16.toUInt32.toInt32)), (.int (0 : Int32))]))
          refine Runs.by (fun _ hr => XS.iadd X27.here hx rfl (hb hby at_206) rfl hr) ?_
          show Runs p e below _ (T27.setTop (mkF m 207 #[.val (.int p0), .val (.int p1), .val (.int p2), .val (.int p3), .val (.int p4), .val (.int p5), .val (.int ((p0 &&& (255 : Int32)).toUInt32.toUInt16.toUInt32.toInt32)), .val (.int ((p1 &&& (255 : Int32)).toUInt32.toUInt16.toUInt32.toInt32)), .val (.int ((p2 &&& (255 : Int32)).toUInt32.toUInt16.toUInt32.toInt32)), .val (.int (1 : Int32)), .val (.ref b17), .val (.ref b25), .val (.int (p5 &&& (3 : Int32))), .val (.int ((((p5.toUInt32 >>> ((2 : Int32) &&& 31).toUInt32).toInt32) &&& (3 : Int32)) - (1 : Int32))), .unset, .unset] [(.int (((p1 &&& (255 : Int32)).toUInt32.toUInt16.toUInt32.toInt32) + ((((p5.toUInt32 >>> ((2 : Int32) &&& 31).toUInt32).toInt32) &&& (3 : Int32)) - (1 : Int32)))), (.int (0 : Int32))]))
          obtain ⟨_, _, ⟨T34, L34, k34, n34⟩, -, X34, ⟨Lc34, hQ34, l34, y34, z34⟩, st34⟩ := Jvm.LawKit.callS X27 hx (y := (⟨"java/lang/Math", "max", "(II)I"⟩ : MethodName)) hown (mvT hZ (hw _ (List.mem_of_getElem? (i := 78) rfl))) (mvT hZ (hw _ (List.mem_of_getElem? (i := 73) rfl))) (mvT hZ (hw _ (List.mem_of_getElem? (i := 74) rfl))) (mvT hZ (hw _ (List.mem_of_getElem? (i := 75) rfl))) (by decide) (backOf (W := 0) (rm15 l Z a0 hw [] (0 : Int32) (((p1 &&& (255 : Int32)).toUInt32.toUInt16.toUInt32.toInt32) + ((((p5.toUInt32 >>> ((2 : Int32) &&& 31).toUInt32).toInt32) &&& (3 : Int32)) - (1 : Int32)))  T27.heap n0 (Nat.le_trans Z0 K28.1) ) hZ (hw _ (List.mem_of_getElem? (i := 75) rfl)) (hw _ (List.mem_of_getElem? (i := 74) rfl)) (by decide) (by decide)) (g := (mkF m 207 #[.val (.int p0), .val (.int p1), .val (.int p2), .val (.int p3), .val (.int p4), .val (.int p5), .val (.int ((p0 &&& (255 : Int32)).toUInt32.toUInt16.toUInt32.toInt32)), .val (.int ((p1 &&& (255 : Int32)).toUInt32.toUInt16.toUInt32.toInt32)), .val (.int ((p2 &&& (255 : Int32)).toUInt32.toUInt16.toUInt32.toInt32)), .val (.int (1 : Int32)), .val (.ref b17), .val (.ref b25), .val (.int (p5 &&& (3 : Int32))), .val (.int ((((p5.toUInt32 >>> ((2 : Int32) &&& 31).toUInt32).toInt32) &&& (3 : Int32)) - (1 : Int32))), .unset, .unset] [(.int (((p1 &&& (255 : Int32)).toUInt32.toUInt16.toUInt32.toInt32) + ((((p5.toUInt32 >>> ((2 : Int32) &&& 31).toUInt32).toInt32) &&& (3 : Int32)) - (1 : Int32)))), (.int (0 : Int32))])) rfl (by rw [hml]; rfl) (argsL := [(.int (0 : Int32)), (.int (((p1 &&& (255 : Int32)).toUInt32.toUInt16.toUInt32.toInt32) + ((((p5.toUInt32 >>> ((2 : Int32) &&& 31).toUInt32).toInt32) &&& (3 : Int32)) - (1 : Int32))))]) (rest := []) (lenOf pd_8 rfl) rfl (by show 2 * 0 + _ ≤ _; exact Nat.le_of_eq rfl) (hb hby at_207) (fun _ _ => ⟨rfl, rfl, (by decide : 6 + 0 ≤ _), (by decide : 520 + 0 ≤ _)⟩)
          dsimp only [Pt.U, Pt.locs, Pt.cells, Pt.slots] at X34 l34 y34 z34 st34 hQ34
          subst l34 y34 z34
          obtain ⟨rfl, Nq34, eq34⟩ := hQ34
          have N34 := Fr.app N27 Nq34
          refine Runs.by (fun t hr => st34 t hr) ?_
          show Runs p e below _ (T34.setTop (mkF m 210 #[.val (.int p0), .val (.int p1), .val (.int p2), .val (.int p3), .val (.int p4), .val (.int p5), .val (.int ((p0 &&& (255 : Int32)).toUInt32.toUInt16.toUInt32.toInt32)), .val (.int ((p1 &&& (255 : Int32)).toUInt32.toUInt16.toUInt32.toInt32)), .val (.int ((p2 &&& (255 : Int32)).toUInt32.toUInt16.toUInt32.toInt32)), .val (.int (1 : Int32)), .val (.ref b17), .val (.ref b25), .val (.int (p5 &&& (3 : Int32))), .val (.int ((((p5.toUInt32 >>> ((2 : Int32) &&& 31).toUInt32).toInt32) &&& (3 : Int32)) - (1 : Int32))), .unset, .unset] [(.int (own_max (0 : Int32) (((p1 &&& (255 : Int32)).toUInt32.toUInt16.toUInt32.toInt32) + ((((p5.toUInt32 >>> ((2 : Int32) &&& 31).toUInt32).toInt32) &&& (3 : Int32)) - (1 : Int32)))))]))
          refine Runs.by (fun _ hr => XS.istore X34.here hx rfl (hb hby at_210) rfl (l' := #[.val (.int p0), .val (.int p1), .val (.int p2), .val (.int p3), .val (.int p4), .val (.int p5), .val (.int ((p0 &&& (255 : Int32)).toUInt32.toUInt16.toUInt32.toInt32)), .val (.int ((p1 &&& (255 : Int32)).toUInt32.toUInt16.toUInt32.toInt32)), .val (.int ((p2 &&& (255 : Int32)).toUInt32.toUInt16.toUInt32.toInt32)), .val (.int (1 : Int32)), .val (.ref b17), .val (.ref b25), .val (.int (p5 &&& (3 : Int32))), .val (.int ((((p5.toUInt32 >>> ((2 : Int32) &&& 31).toUInt32).toInt32) &&& (3 : Int32)) - (1 : Int32))), .val (.int (own_max (0 : Int32) (((p1 &&& (255 : Int32)).toUInt32.toUInt16.toUInt32.toInt32) + ((((p5.toUInt32 >>> ((2 : Int32) &&& 31).toUInt32).toInt32) &&& (3 : Int32)) - (1 : Int32))))), .unset]) rfl hr) ?_
          show Runs p e below _ (T34.setTop (mkF m 212 #[.val (.int p0), .val (.int p1), .val (.int p2), .val (.int p3), .val (.int p4), .val (.int p5), .val (.int ((p0 &&& (255 : Int32)).toUInt32.toUInt16.toUInt32.toInt32)), .val (.int ((p1 &&& (255 : Int32)).toUInt32.toUInt16.toUInt32.toInt32)), .val (.int ((p2 &&& (255 : Int32)).toUInt32.toUInt16.toUInt32.toInt32)), .val (.int (1 : Int32)), .val (.ref b17), .val (.ref b25), .val (.int (p5 &&& (3 : Int32))), .val (.int ((((p5.toUInt32 >>> ((2 : Int32) &&& 31).toUInt32).toInt32) &&& (3 : Int32)) - (1 : Int32))), .val (.int (own_max (0 : Int32) (((p1 &&& (255 : Int32)).toUInt32.toUInt16.toUInt32.toInt32) + ((((p5.toUInt32 >>> ((2 : Int32) &&& 31).toUInt32).toInt32) &&& (3 : Int32)) - (1 : Int32))))), .unset] []))
          refine Runs.by (fun _ hr => XS.goto X34.here hx rfl (pc0 := 212) (pc' := 226) rfl (hb hby at_212) (by decide) (by decide) hr) ?_
          exact JL29 (own_max (0 : Int32) (((p1 &&& (255 : Int32)).toUInt32.toUInt16.toUInt32.toInt32) + ((((p5.toUInt32 >>> ((2 : Int32) &&& 31).toUInt32).toInt32) &&& (3 : Int32)) - (1 : Int32)))) _ _ X34 eq34 N34 (own_max0 _)
        · -- pc 198: not (p5 &&& (3 : Int32)) = (2 : Int32)
          refine Runs.by (fun _ hr => XS.icmpYes X27.here hx rfl (pc0 := 198) (pc' := 215) rfl (hb hby at_198) rfl (feq hc198).2 (by decide) (by decide) hr) ?_
          show Runs p e below _ (T27.setTop (mkF m 215 #[.val (.int p0), .val (.int p1), .val (.int p2), .val (.int p3), .val (.int p4), .val (.int p5), .val (.int ((p0 &&& (255 : Int32)).toUInt32.toUInt16.toUInt32.toInt32)), .val (.int ((p1 &&& (255 : Int32)).toUInt32.toUInt16.toUInt32.toInt32)), .val (.int ((p2 &&& (255 : Int32)).toUInt32.toUInt16.toUInt32.toInt32)), .val (.int (1 : Int32)), .val (.ref b17), .val (.ref b25), .val (.int (p5 &&& (3 : Int32))), .val (.int ((((p5.toUInt32 >>> ((2 : Int32) &&& 31).toUInt32).toInt32) &&& (3 : Int32)) - (1 : Int32))), .unset, .unset] []))
          refine Runs.by (fun _ hr => XS.iconst X27.here hx rfl (hb hby at_215) hr) ?_
          show Runs p e below _ (T27.setTop (mkF m 216 #[.val (.int p0), .val (.int p1), .val (.int p2), .val (.int p3), .val (.int p4), .val (.int p5), .val (.int ((p0 &&& (255 : Int32)).toUInt32.toUInt16.toUInt32.toInt32)), .val (.int ((p1 &&& (255 : Int32)).toUInt32.toUInt16.toUInt32.toInt32)), .val (.int ((p2 &&& (255 : Int32)).toUInt32.toUInt16.toUInt32.toInt32)), .val (.int (1 : Int32)), .val (.ref b17), .val (.ref b25), .val (.int (p5 &&& (3 : Int32))), .val (.int ((((p5.toUInt32 >>> ((2 : Int32) &&& 31).toUInt32).toInt32) &&& (3 : Int32)) - (1 : Int32))), .unset, .unset] [(.int (0 : Int32))]))
          refine Runs.by (fun _ hr => XS.iload X27.here hx rfl (hb hby at_216) rfl  hr) ?_
          show Runs p e below _ (T27.setTop (mkF m 218 #[.val (.int p0), .val (.int p1), .val (.int p2), .val (.int p3), .val (.int p4), .val (.int p5), .val (.int ((p0 &&& (255 : Int32)).toUInt32.toUInt16.toUInt32.toInt32)), .val (.int ((p1 &&& (255 : Int32)).toUInt32.toUInt16.toUInt32.toInt32)), .val (.int ((p2 &&& (255 : Int32)).toUInt32.toUInt16.toUInt32.toInt32)), .val (.int (1 : Int32)), .val (.ref b17), .val (.ref b25), .val (.int (p5 &&& (3 : Int32))), .val (.int ((((p5.toUInt32 >>> ((2 : Int32) &&& 31).toUInt32).toInt32) &&& (3 : Int32)) - (1 : Int32))), .unset, .unset] [(.int ((p2 &&& (255 : Int32)).toUInt32.toUInt16.toUInt32.toInt32)), (.int (0 : Int32))]))
          refine Runs.by (fun _ hr => XS.iload X27.here hx rfl (hb hby at_218) rfl  hr) ?_
          show Runs p e below _ (T27.setTop (mkF m 220 #[.val (.int p0), .val (.int p1), .val (.int p2), .val (.int p3), .val (.int p4), .val (.int p5), .val (.int ((p0 &&& (255 : Int32)).toUInt32.toUInt16.toUInt32.toInt32)), .val (.int ((p1 &&& (255 : Int32)).toUInt32.toUInt16.toUInt32.toInt32)), .val (.int ((p2 &&& (255 : Int32)).toUInt32.toUInt16.toUInt32.toInt32)), .val (.int (1 : Int32)), .val (.ref b17), .val (.ref b25), .val (.int (p5 &&& (3 : Int32))), .val (.int ((((p5.toUInt32 >>> ((2 : Int32) &&& 31).toUInt32).toInt32) &&& (3 : Int32)) - (1 : Int32))), .unset, .unset] [(.int ((((p5.toUInt32 >>> ((2 : Int32) &&& 31).toUInt32).toInt32) &&& (3 : Int32)) - (1 : Int32))), (.int ((p2 &&& (255 : Int32)).toUInt32.toUInt16.toUInt32.toInt32)), (.int (0 : Int32))]))
          refine Runs.by (fun _ hr => XS.iadd X27.here hx rfl (hb hby at_220) rfl hr) ?_
          show Runs p e below _ (T27.setTop (mkF m 221 #[.val (.int p0), .val (.int p1), .val (.int p2), .val (.int p3), .val (.int p4), .val (.int p5), .val (.int ((p0 &&& (255 : Int32)).toUInt32.toUInt16.toUInt32.toInt32)), .val (.int ((p1 &&& (255 : Int32)).toUInt32.toUInt16.toUInt32.toInt32)), .val (.int ((p2 &&& (255 : Int32)).toUInt32.toUInt16.toUInt32.toInt32)), .val (.int (1 : Int32)), .val (.ref b17), .val (.ref b25), .val (.int (p5 &&& (3 : Int32))), .val (.int ((((p5.toUInt32 >>> ((2 : Int32) &&& 31).toUInt32).toInt32) &&& (3 : Int32)) - (1 : Int32))), .unset, .unset] [(.int (((p2 &&& (255 : Int32)).toUInt32.toUInt16.toUInt32.toInt32) + ((((p5.toUInt32 >>> ((2 : Int32) &&& 31).toUInt32).toInt32) &&& (3 : Int32)) - (1 : Int32)))), (.int (0 : Int32))]))
          obtain ⟨_, _, ⟨T35, L35, k35, n35⟩, -, X35, ⟨Lc35, hQ35, l35, y35, z35⟩, st35⟩ := Jvm.LawKit.callS X27 hx (y := (⟨"java/lang/Math", "max", "(II)I"⟩ : MethodName)) hown (mvT hZ (hw _ (List.mem_of_getElem? (i := 78) rfl))) (mvT hZ (hw _ (List.mem_of_getElem? (i := 73) rfl))) (mvT hZ (hw _ (List.mem_of_getElem? (i := 74) rfl))) (mvT hZ (hw _ (List.mem_of_getElem? (i := 75) rfl))) (by decide) (backOf (W := 0) (rm15 l Z a0 hw [] (0 : Int32) (((p2 &&& (255 : Int32)).toUInt32.toUInt16.toUInt32.toInt32) + ((((p5.toUInt32 >>> ((2 : Int32) &&& 31).toUInt32).toInt32) &&& (3 : Int32)) - (1 : Int32)))  T27.heap n0 (Nat.le_trans Z0 K28.1) ) hZ (hw _ (List.mem_of_getElem? (i := 75) rfl)) (hw _ (List.mem_of_getElem? (i := 74) rfl)) (by decide) (by decide)) (g := (mkF m 221 #[.val (.int p0), .val (.int p1), .val (.int p2), .val (.int p3), .val (.int p4), .val (.int p5), .val (.int ((p0 &&& (255 : Int32)).toUInt32.toUInt16.toUInt32.toInt32)), .val (.int ((p1 &&& (255 : Int32)).toUInt32.toUInt16.toUInt32.toInt32)), .val (.int ((p2 &&& (255 : Int32)).toUInt32.toUInt16.toUInt32.toInt32)), .val (.int (1 : Int32)), .val (.ref b17), .val (.ref b25), .val (.int (p5 &&& (3 : Int32))), .val (.int ((((p5.toUInt32 >>> ((2 : Int32) &&& 31).toUInt32).toInt32) &&& (3 : Int32)) - (1 : Int32))), .unset, .unset] [(.int (((p2 &&& (255 : Int32)).toUInt32.toUInt16.toUInt32.toInt32) + ((((p5.toUInt32 >>> ((2 : Int32) &&& 31).toUInt32).toInt32) &&& (3 : Int32)) - (1 : Int32)))), (.int (0 : Int32))])) rfl (by rw [hml]; rfl) (argsL := [(.int (0 : Int32)), (.int (((p2 &&& (255 : Int32)).toUInt32.toUInt16.toUInt32.toInt32) + ((((p5.toUInt32 >>> ((2 : Int32) &&& 31).toUInt32).toInt32) &&& (3 : Int32)) - (1 : Int32))))]) (rest := []) (lenOf pd_8 rfl) rfl (by show 2 * 0 + _ ≤ _; exact Nat.le_of_eq rfl) (hb hby at_221) (fun _ _ => ⟨rfl, rfl, (by decide : 6 + 0 ≤ _), (by decide : 520 + 0 ≤ _)⟩)
          dsimp only [Pt.U, Pt.locs, Pt.cells, Pt.slots] at X35 l35 y35 z35 st35 hQ35
          subst l35 y35 z35
          obtain ⟨rfl, Nq35, eq35⟩ := hQ35
          have N35 := Fr.app N27 Nq35
          refine Runs.by (fun t hr => st35 t hr) ?_
          show Runs p e below _ (T35.setTop (mkF m 224 #[.val (.int p0), .val (.int p1), .val (.int p2), .val (.int p3), .val (.int p4), .val (.int p5), .val (.int ((p0 &&& (255 : Int32)).toUInt32.toUInt16.toUInt32.toInt32)), .val (.int ((p1 &&& (255 : Int32)).toUInt32.toUInt16.toUInt32.toInt32)), .val (.int ((p2 &&& (255 : Int32)).toUInt32.toUInt16.toUInt32.toInt32)), .val (.int (1 : Int32)), .val (.ref b17), .val (.ref b25), .val (.int (p5 &&& (3 : Int32))), .val (.int ((((p5.toUInt32 >>> ((2 : Int32) &&& 31).toUInt32).toInt32) &&& (3 : Int32)) - (1 : Int32))), .unset, .unset] [(.int (own_max (0 : Int32) (((p2 &&& (255 : Int32)).toUInt32.toUInt16.toUInt32.toInt32) + ((((p5.toUInt32 >>> ((2 : Int32) &&& 31).toUInt32).toInt32) &&& (3 : Int32)) - (1 : Int32)))))]))
          refine Runs.by (fun _ hr => XS.istore X35.here hx rfl (hb hby at_224) rfl (l' := #[.val (.int p0), .val (.int p1), .val (.int p2), .val (.int p3), .val (.int p4), .val (.int p5), .val (.int ((p0 &&& (255 : Int32)).toUInt32.toUInt16.toUInt32.toInt32)), .val (.int ((p1 &&& (255 : Int32)).toUInt32.toUInt16.toUInt32.toInt32)), .val (.int ((p2 &&& (255 : Int32)).toUInt32.toUInt16.toUInt32.toInt32)), .val (.int (1 : Int32)), .val (.ref b17), .val (.ref b25), .val (.int (p5 &&& (3 : Int32))), .val (.int ((((p5.toUInt32 >>> ((2 : Int32) &&& 31).toUInt32).toInt32) &&& (3 : Int32)) - (1 : Int32))), .val (.int (own_max (0 : Int32) (((p2 &&& (255 : Int32)).toUInt32.toUInt16.toUInt32.toInt32) + ((((p5.toUInt32 >>> ((2 : Int32) &&& 31).toUInt32).toInt32) &&& (3 : Int32)) - (1 : Int32))))), .unset]) rfl hr) ?_
          exact JL29 (own_max (0 : Int32) (((p2 &&& (255 : Int32)).toUInt32.toUInt16.toUInt32.toInt32) + ((((p5.toUInt32 >>> ((2 : Int32) &&& 31).toUInt32).toInt32) &&& (3 : Int32)) - (1 : Int32)))) _ _ X35 eq35 N35 (own_max0 _)
  · skip
    show Runs p e below _ (s₁.setTop (mkF m 27 #[.val (.int p0), .val (.int p1), .val (.int p2), .val (.int p3), .val (.int p4), .val (.int p5), .val (.int ((p0 &&& (255 : Int32)).toUInt32.toUInt16.toUInt32.toInt32)), .val (.int ((p1 &&& (255 : Int32)).toUInt32.toUInt16.toUInt32.toInt32)), .val (.int ((p2 &&& (255 : Int32)).toUInt32.toUInt16.toUInt32.toInt32)), .unset, .unset, .unset, .unset, .unset, .unset, .unset] [(.int (2 : Int32))]))
    refine Runs.by (fun _ hr => XS.istore X0.here hx rfl (hb hby at_27) rfl (l' := #[.val (.int p0), .val (.int p1), .val (.int p2), .val (.int p3), .val (.int p4), .val (.int p5), .val (.int ((p0 &&& (255 : Int32)).toUInt32.toUInt16.toUInt32.toInt32)), .val (.int ((p1 &&& (255 : Int32)).toUInt32.toUInt16.toUInt32.toInt32)), .val (.int ((p2 &&& (255 : Int32)).toUInt32.toUInt16.toUInt32.toInt32)), .val (.int (2 : Int32)), .unset, .unset, .unset, .unset, .unset, .unset]) rfl hr) ?_
    show Runs p e below _ (s₁.setTop (mkF m 29 #[.val (.int p0), .val (.int p1), .val (.int p2), .val (.int p3), .val (.int p4), .val (.int p5), .val (.int ((p0 &&& (255 : Int32)).toUInt32.toUInt16.toUInt32.toInt32)), .val (.int ((p1 &&& (255 : Int32)).toUInt32.toUInt16.toUInt32.toInt32)), .val (.int ((p2 &&& (255 : Int32)).toUInt32.toUInt16.toUInt32.toInt32)), .val (.int (2 : Int32)), .unset, .unset, .unset, .unset, .unset, .unset] []))
    refine Runs.by (fun _ hr => XS.iload X0.here hx rfl (hb hby at_29) rfl  hr) ?_
    show Runs p e below _ (s₁.setTop (mkF m 31 #[.val (.int p0), .val (.int p1), .val (.int p2), .val (.int p3), .val (.int p4), .val (.int p5), .val (.int ((p0 &&& (255 : Int32)).toUInt32.toUInt16.toUInt32.toInt32)), .val (.int ((p1 &&& (255 : Int32)).toUInt32.toUInt16.toUInt32.toInt32)), .val (.int ((p2 &&& (255 : Int32)).toUInt32.toUInt16.toUInt32.toInt32)), .val (.int (2 : Int32)), .unset, .unset, .unset, .unset, .unset, .unset] [(.int (2 : Int32))]))
    have hc31 : ¬ ((2 : Int32) = (0 : Int32)) := (by decide)
    refine Runs.by (fun _ hr => XS.ifYes X0.here hx rfl (pc0 := 31) (pc' := 49) rfl (hb hby at_31) rfl ((if0 _ _).trans (feq hc31).2) (by decide) (by decide) hr) ?_
    show Runs p e below _ (s₁.setTop (mkF m 49 #[.val (.int p0), .val (.int p1), .val (.int p2), .val (.int p3), .val (.int p4), .val (.int p5), .val (.int ((p0 &&& (255 : Int32)).toUInt32.toUInt16.toUInt32.toInt32)), .val (.int ((p1 &&& (255 : Int32)).toUInt32.toUInt16.toUInt32.toInt32)), .val (.int ((p2 &&& (255 : Int32)).toUInt32.toUInt16.toUInt32.toInt32)), .val (.int (2 : Int32)), .unset, .unset, .unset, .unset, .unset, .unset] []))
    refine Runs.by (fun _ hr => XS.iload X0.here hx rfl (hb hby at_49) rfl  hr) ?_
    show Runs p e below _ (s₁.setTop (mkF m 51 #[.val (.int p0), .val (.int p1), .val (.int p2), .val (.int p3), .val (.int p4), .val (.int p5), .val (.int ((p0 &&& (255 : Int32)).toUInt32.toUInt16.toUInt32.toInt32)), .val (.int ((p1 &&& (255 : Int32)).toUInt32.toUInt16.toUInt32.toInt32)), .val (.int ((p2 &&& (255 : Int32)).toUInt32.toUInt16.toUInt32.toInt32)), .val (.int (2 : Int32)), .unset, .unset, .unset, .unset, .unset, .unset] [(.int (2 : Int32))]))
    refine Runs.by (fun _ hr => XS.iconst X0.here hx rfl (hb hby at_51) hr) ?_
    show Runs p e below _ (s₁.setTop (mkF m 52 #[.val (.int p0), .val (.int p1), .val (.int p2), .val (.int p3), .val (.int p4), .val (.int p5), .val (.int ((p0 &&& (255 : Int32)).toUInt32.toUInt16.toUInt32.toInt32)), .val (.int ((p1 &&& (255 : Int32)).toUInt32.toUInt16.toUInt32.toInt32)), .val (.int ((p2 &&& (255 : Int32)).toUInt32.toUInt16.toUInt32.toInt32)), .val (.int (2 : Int32)), .unset, .unset, .unset, .unset, .unset, .unset] [(.int (1 : Int32)), (.int (2 : Int32))]))
    have hc52 : ¬ ((2 : Int32) = (1 : Int32)) := (by decide)
    refine Runs.by (fun _ hr => XS.icmpYes X0.here hx rfl (pc0 := 52) (pc' := 75) rfl (hb hby at_52) rfl (feq hc52).2 (by decide) (by decide) hr) ?_
    show Runs p e below _ (s₁.setTop (mkF m 75 #[.val (.int p0), .val (.int p1), .val (.int p2), .val (.int p3), .val (.int p4), .val (.int p5), .val (.int ((p0 &&& (255 : Int32)).toUInt32.toUInt16.toUInt32.toInt32)), .val (.int ((p1 &&& (255 : Int32)).toUInt32.toUInt16.toUInt32.toInt32)), .val (.int ((p2 &&& (255 : Int32)).toUInt32.toUInt16.toUInt32.toInt32)), .val (.int (2 : Int32)), .unset, .unset, .unset, .unset, .unset, .unset] []))
    refine Runs.by (fun _ hr => XS.iload X0.here hx rfl (hb hby at_75) rfl  hr) ?_
    show Runs p e below _ (s₁.setTop (mkF m 77 #[.val (.int p0), .val (.int p1), .val (.int p2), .val (.int p3), .val (.int p4), .val (.int p5), .val (.int ((p0 &&& (255 : Int32)).toUInt32.toUInt16.toUInt32.toInt32)), .val (.int ((p1 &&& (255 : Int32)).toUInt32.toUInt16.toUInt32.toInt32)), .val (.int ((p2 &&& (255 : Int32)).toUInt32.toUInt16.toUInt32.toInt32)), .val (.int (2 : Int32)), .unset, .unset, .unset, .unset, .unset, .unset] [(.int (2 : Int32))]))
    refine Runs.by (fun _ hr => XS.iconst X0.here hx rfl (hb hby at_77) hr) ?_
    show Runs p e below _ (s₁.setTop (mkF m 78 #[.val (.int p0), .val (.int p1), .val (.int p2), .val (.int p3), .val (.int p4), .val (.int p5), .val (.int ((p0 &&& (255 : Int32)).toUInt32.toUInt16.toUInt32.toInt32)), .val (.int ((p1 &&& (255 : Int32)).toUInt32.toUInt16.toUInt32.toInt32)), .val (.int ((p2 &&& (255 : Int32)).toUInt32.toUInt16.toUInt32.toInt32)), .val (.int (2 : Int32)), .unset, .unset, .unset, .unset, .unset, .unset] [(.int (2 : Int32)), (.int (2 : Int32))]))
    have hc78 : (2 : Int32) = (2 : Int32) := (by decide)
    refine Runs.by (fun _ hr => XS.icmpNo X0.here hx rfl (hb hby at_78) rfl (teq hc78).2 hr) ?_
    show Runs p e below _ (s₁.setTop (mkF m 81 #[.val (.int p0), .val (.int p1), .val (.int p2), .val (.int p3), .val (.int p4), .val (.int p5), .val (.int ((p0 &&& (255 : Int32)).toUInt32.toUInt16.toUInt32.toInt32)), .val (.int ((p1 &&& (255 : Int32)).toUInt32.toUInt16.toUInt32.toInt32)), .val (.int ((p2 &&& (255 : Int32)).toUInt32.toUInt16.toUInt32.toInt32)), .val (.int (2 : Int32)), .unset, .unset, .unset, .unset, .unset, .unset] []))
    obtain ⟨T36, h36, X36, e36, E36, A36, D36, -, st36⟩ := newO X0 hx hZ hown (hw _ (List.mem_of_getElem? (i := 0) rfl)) (hw _ (List.mem_of_getElem? (i := 1) rfl)) (hw _ (List.mem_of_getElem? (i := 2) rfl)) e0 (g := (mkF m 81 #[.val (.int p0), .val (.int p1), .val (.int p2), .val (.int p3), .val (.int p4), .val (.int p5), .val (.int ((p0 &&& (255 : Int32)).toUInt32.toUInt16.toUInt32.toInt32)), .val (.int ((p1 &&& (255 : Int32)).toUInt32.toUInt16.toUInt32.toInt32)), .val (.int ((p2 &&& (255 : Int32)).toUInt32.toUInt16.toUInt32.toInt32)), .val (.int (2 : Int32)), .unset, .unset, .unset, .unset, .unset, .unset] [])) rfl (hb hby at_81) (by decide) (by decide)
    obtain ⟨b36, gz36⟩ : ∃ z, z = h0.size := ⟨_, rfl⟩
    rw [← gz36] at A36 D36 st36
    have Sf_b36 : Safe Z consts_1 s.vm h0 b36 := Safe.new (Nat.le_of_eq gz36.symm)
    have g_b36 : n0 ≤ b36 := Nat.le_trans (Nat.le_trans Z0 K0.1) (Nat.le_of_eq gz36.symm)
    have sz_b36 : h0.size ≤ b36 := Nat.le_trans K0.1 (Nat.le_of_eq gz36.symm)
    have K37 : Keep h0 h36 [] := K0.ext E36
    have O_37 : Old Z n0 h36 := O0.ext E36
    have Sf_b36__K37 := Safe.ext E36 hC.1 Sf_b36
    have hk : _ ≤ h36.size := Nat.le_trans hk E36.1
    have hC := hC.trans (CHr.ext E36 hC.1)
    have F_coder_b36 : Fld Z h36 b36 "java/lang/String" "coder" "B" (.int (0 : Int32)) := D36 (Or.inr (hw _ (List.mem_of_getElem? (i := 27) rfl))) (ty := .byte) (by decide)
    have F_value_b36 : Fld Z h36 b36 "java/lang/String" "value" "[B" .null := D36 (Or.inr (hw _ (List.mem_of_getElem? (i := 29) rfl))) (ty := (.array .byte)) (by decide)
    refine Runs.by st36 ?_
    show Runs p e below _ (T36.setTop (mkF m 84 #[.val (.int p0), .val (.int p1), .val (.int p2), .val (.int p3), .val (.int p4), .val (.int p5), .val (.int ((p0 &&& (255 : Int32)).toUInt32.toUInt16.toUInt32.toInt32)), .val (.int ((p1 &&& (255 : Int32)).toUInt32.toUInt16.toUInt32.toInt32)), .val (.int ((p2 &&& (255 : Int32)).toUInt32.toUInt16.toUInt32.toInt32)), .val (.int (2 : Int32)), .unset, .unset, .unset, .unset, .unset, .unset] [(.ref b36)]))
    refine Runs.by (fun _ hr => XS.dup X36.here hx rfl (hb hby at_84) rfl rfl hr) ?_
    show Runs p e below _ (T36.setTop (mkF m 85 #[.val (.int p0), .val (.int p1), .val (.int p2), .val (.int p3), .val (.int p4), .val (.int p5), .val (.int ((p0 &&& (255 : Int32)).toUInt32.toUInt16.toUInt32.toInt32)), .val (.int ((p1 &&& (255 : Int32)).toUInt32.toUInt16.toUInt32.toInt32)), .val (.int ((p2 &&& (255 : Int32)).toUInt32.toUInt16.toUInt32.toInt32)), .val (.int (2 : Int32)), .unset, .unset, .unset, .unset, .unset, .unset] [(.ref b36), (.ref b36)]))
    refine Runs.by (fun _ hr => XS.iconst X36.here hx rfl (hb hby at_85) hr) ?_
    show Runs p e below _ (T36.setTop (mkF m 86 #[.val (.int p0), .val (.int p1), .val (.int p2), .val (.int p3), .val (.int p4), .val (.int p5), .val (.int ((p0 &&& (255 : Int32)).toUInt32.toUInt16.toUInt32.toInt32)), .val (.int ((p1 &&& (255 : Int32)).toUInt32.toUInt16.toUInt32.toInt32)), .val (.int ((p2 &&& (255 : Int32)).toUInt32.toUInt16.toUInt32.toInt32)), .val (.int (2 : Int32)), .unset, .unset, .unset, .unset, .unset, .unset] [(.int (2 : Int32)), (.ref b36), (.ref b36)]))
    obtain ⟨T38, h38, k38, X38, e38, E38, A38, st38⟩ := newP X36 hx hZ (hw _ (List.mem_of_getElem? (i := 3) rfl)) e36 (g := (mkF m 86 #[.val (.int p0), .val (.int p1), .val (.int p2), .val (.int p3), .val (.int p4), .val (.int p5), .val (.int ((p0 &&& (255 : Int32)).toUInt32.toUInt16.toUInt32.toInt32)), .val (.int ((p1 &&& (255 : Int32)).toUInt32.toUInt16.toUInt32.toInt32)), .val (.int ((p2 &&& (255 : Int32)).toUInt32.toUInt16.toUInt32.toInt32)), .val (.int (2 : Int32)), .unset, .unset, .unset, .unset, .unset, .unset] [(.int (2 : Int32)), (.ref b36), (.ref b36)])) rfl (hb hby at_86) rfl (by decide) (cap := 2) (by decide) (by decide) (by decide) (by decide)
    obtain ⟨b38, gz38⟩ : ∃ z, z = h36.size := ⟨_, rfl⟩
    rw [← gz38] at A38 st38
    have ne_b36_b38 : b36 ≠ b38 := Nat.ne_of_lt (Nat.lt_of_lt_of_le A36.lt (Nat.le_of_eq gz38.symm))
    have Sf_b38 : Safe Z consts_1 s.vm h36 b38 := Safe.new (Nat.le_of_eq gz38.symm)
    have g_b38 : n0 ≤ b38 := Nat.le_trans (Nat.le_trans Z0 K37.1) (Nat.le_of_eq gz38.symm)
    have sz_b38 : h0.size ≤ b38 := Nat.le_trans K37.1 (Nat.le_of_eq gz38.symm)
    have K39 : Keep h0 h38 [] := K37.ext E38
    have O_39 : Old Z n0 h38 := O_37.ext E38
    have Sf_b36__K39 := Safe.ext E38 hC.1 Sf_b36__K37
    have Sf_b38__K39 := Safe.ext E38 hC.1 Sf_b38
    have hk : _ ≤ h38.size := Nat.le_trans hk E38.1
    have hC := hC.trans (CHr.ext E38 hC.1)
    have V38 : Arv Z h38 b38 k38 .char (2 : Int32) [(.int (0 : Int32)), (.int (0 : Int32))] (.int (0 : Int32)) := (Arv.new A38 (by decide)).pad (pad_rep [] (.int (0 : Int32)) 2)
    refine Runs.by st38 ?_
    show Runs p e below _ (T38.setTop (mkF m 88 #[.val (.int p0), .val (.int p1), .val (.int p2), .val (.int p3), .val (.int p4), .val (.int p5), .val (.int ((p0 &&& (255 : Int32)).toUInt32.toUInt16.toUInt32.toInt32)), .val (.int ((p1 &&& (255 : Int32)).toUInt32.toUInt16.toUInt32.toInt32)), .val (.int ((p2 &&& (255 : Int32)).toUInt32.toUInt16.toUInt32.toInt32)), .val (.int (2 : Int32)), .unset, .unset, .unset, .unset, .unset, .unset] [(.ref b38), (.ref b36), (.ref b36)]))
    refine Runs.by (fun _ hr => XS.dup X38.here hx rfl (hb hby at_88) rfl rfl hr) ?_
    show Runs p e below _ (T38.setTop (mkF m 89 #[.val (.int p0), .val (.int p1), .val (.int p2), .val (.int p3), .val (.int p4), .val (.int p5), .val (.int ((p0 &&& (255 : Int32)).toUInt32.toUInt16.toUInt32.toInt32)), .val (.int ((p1 &&& (255 : Int32)).toUInt32.toUInt16.toUInt32.toInt32)), .val (.int ((p2 &&& (255 : Int32)).toUInt32.toUInt16.toUInt32.toInt32)), .val (.int (2 : Int32)), .unset, .unset, .unset, .unset, .unset, .unset] [(.ref b38), (.ref b38), (.ref b36), (.ref b36)]))
    refine Runs.by (fun _ hr => XS.iconst X38.here hx rfl (hb hby at_89) hr) ?_
    show Runs p e below _ (T38.setTop (mkF m 90 #[.val (.int p0), .val (.int p1), .val (.int p2), .val (.int p3), .val (.int p4), .val (.int p5), .val (.int ((p0 &&& (255 : Int32)).toUInt32.toUInt16.toUInt32.toInt32)), .val (.int ((p1 &&& (255 : Int32)).toUInt32.toUInt16.toUInt32.toInt32)), .val (.int ((p2 &&& (255 : Int32)).toUInt32.toUInt16.toUInt32.toInt32)), .val (.int (2 : Int32)), .unset, .unset, .unset, .unset, .unset, .unset] [(.int (0 : Int32)), (.ref b38), (.ref b38), (.ref b36), (.ref b36)]))
    refine Runs.by (fun _ hr => XS.iload X38.here hx rfl (hb hby at_90) rfl  hr) ?_
    show Runs p e below _ (T38.setTop (mkF m 92 #[.val (.int p0), .val (.int p1), .val (.int p2), .val (.int p3), .val (.int p4), .val (.int p5), .val (.int ((p0 &&& (255 : Int32)).toUInt32.toUInt16.toUInt32.toInt32)), .val (.int ((p1 &&& (255 : Int32)).toUInt32.toUInt16.toUInt32.toInt32)), .val (.int ((p2 &&& (255 : Int32)).toUInt32.toUInt16.toUInt32.toInt32)), .val (.int (2 : Int32)), .unset, .unset, .unset, .unset, .unset, .unset] [(.int ((p0 &&& (255 : Int32)).toUInt32.toUInt16.toUInt32.toInt32)), (.int (0 : Int32)), (.ref b38), (.ref b38), (.ref b36), (.ref b36)]))
    obtain ⟨cl40, Ar40, q40, S40, N40', H40, G40⟩ := id V38
    have hin40 : ¬ ((0 : Int32) < 0 ∨ cl40.slots.size ≤ ((0 : Int32)).toNatClampNeg) := inb_of S40 ⟨by decide, by decide⟩
    obtain ⟨T40, h40, X40, e40, W40, st40⟩ := stC X38 hx hZ e38 Ar40 (j := (0 : Int32)) hin40 (g := (mkF m 92 #[.val (.int p0), .val (.int p1), .val (.int p2), .val (.int p3), .val (.int p4), .val (.int p5), .val (.int ((p0 &&& (255 : Int32)).toUInt32.toUInt16.toUInt32.toInt32)), .val (.int ((p1 &&& (255 : Int32)).toUInt32.toUInt16.toUInt32.toInt32)), .val (.int ((p2 &&& (255 : Int32)).toUInt32.toUInt16.toUInt32.toInt32)), .val (.int (2 : Int32)), .unset, .unset, .unset, .unset, .unset, .unset] [(.int ((p0 &&& (255 : Int32)).toUInt32.toUInt16.toUInt32.toInt32)), (.int (0 : Int32)), (.ref b38), (.ref b38), (.ref b36), (.ref b36)])) rfl rfl (hb hby at_92)
    have V40 : Arv Z h40 b38 k38 .char (2 : Int32) [(.int (nar .char ((p0 &&& (255 : Int32)).toUInt32.toUInt16.toUInt32.toInt32))), (.int (0 : Int32))] (.int (0 : Int32)) := Arv.set Ar40 q40 S40 N40' H40 G40 (fits_nar_char _) W40 (0) rfl (Nat.le_of_ble_eq_true rfl)
    have K41 : Keep h0 h40 [] := K39.wr W40 (Or.inr sz_b38)
    have O_41 : Old Z n0 h40 := O_39.wr W40 g_b38
    have Sf_b36__K41 := Safe.wr W40 Sf_b38__K39 hC.1 Sf_b36__K39
    have Sf_b38__K41 := Safe.wr W40 Sf_b38__K39 hC.1 Sf_b38__K39
    have hk : _ ≤ h40.size := Nat.le_trans hk (Keep.of_wr W40).1
    have hC := hC.trans (CHr.wr W40 Sf_b38__K39 hC.1)
    have N40 := Fr.snoc X40 N0 g_b38
    refine Runs.by st40 ?_
    show Runs p e below _ (T40.setTop (mkF m 93 #[.val (.int p0), .val (.int p1), .val (.int p2), .val (.int p3), .val (.int p4), .val (.int p5), .val (.int ((p0 &&& (255 : Int32)).toUInt32.toUInt16.toUInt32.toInt32)), .val (.int ((p1 &&& (255 : Int32)).toUInt32.toUInt16.toUInt32.toInt32)), .val (.int ((p2 &&& (255 : Int32)).toUInt32.toUInt16.toUInt32.toInt32)), .val (.int (2 : Int32)), .unset, .unset, .unset, .unset, .unset, .unset] [(.ref b38), (.ref b36), (.ref b36)]))
    refine Runs.by (fun _ hr => XS.dup X40.here hx rfl (hb hby at_93) rfl rfl hr) ?_
    show Runs p e below _ (T40.setTop (mkF m 94 #[.val (.int p0), .val (.int p1), .val (.int p2), .val (.int p3), .val (.int p4), .val (.int p5), .val (.int ((p0 &&& (255 : Int32)).toUInt32.toUInt16.toUInt32.toInt32)), .val (.int ((p1 &&& (255 : Int32)).toUInt32.toUInt16.toUInt32.toInt32)), .val (.int ((p2 &&& (255 : Int32)).toUInt32.toUInt16.toUInt32.toInt32)), .val (.int (2 : Int32)), .unset, .unset, .unset, .unset, .unset, .unset] [(.ref b38), (.ref b38), (.ref b36), (.ref b36)]))
    refine Runs.by (fun _ hr => XS.iconst X40.here hx rfl (hb hby at_94) hr) ?_
    show Runs p e below _ (T40.setTop (mkF m 95 #[.val (.int p0), .val (.int p1), .val (.int p2), .val (.int p3), .val (.int p4), .val (.int p5), .val (.int ((p0 &&& (255 : Int32)).toUInt32.toUInt16.toUInt32.toInt32)), .val (.int ((p1 &&& (255 : Int32)).toUInt32.toUInt16.toUInt32.toInt32)), .val (.int ((p2 &&& (255 : Int32)).toUInt32.toUInt16.toUInt32.toInt32)), .val (.int (2 : Int32)), .unset, .unset, .unset, .unset, .unset, .unset] [(.int (1 : Int32)), (.ref b38), (.ref b38), (.ref b36), (.ref b36)]))
    refine Runs.by (fun _ hr => XS.iload X40.here hx rfl (hb hby at_95) rfl  hr) ?_
    show Runs p e below _ (T40.setTop (mkF m 97 #[.val (.int p0), .val (.int p1), .val (.int p2), .val (.int p3), .val (.int p4), .val (.int p5), .val (.int ((p0 &&& (255 : Int32)).toUInt32.toUInt16.toUInt32.toInt32)), .val (.int ((p1 &&& (255 : Int32)).toUInt32.toUInt16.toUInt32.toInt32)), .val (.int ((p2 &&& (255 : Int32)).toUInt32.toUInt16.toUInt32.toInt32)), .val (.int (2 : Int32)), .unset, .unset, .unset, .unset, .unset, .unset] [(.int ((p1 &&& (255 : Int32)).toUInt32.toUInt16.toUInt32.toInt32)), (.int (1 : Int32)), (.ref b38), (.ref b38), (.ref b36), (.ref b36)]))
    obtain ⟨cl42, Ar42, q42, S42, N42', H42, G42⟩ := id V40
    have hin42 : ¬ ((1 : Int32) < 0 ∨ cl42.slots.size ≤ ((1 : Int32)).toNatClampNeg) := inb_of S42 ⟨by decide, by decide⟩
    obtain ⟨T42, h42, X42, e42, W42, st42⟩ := stC X40 hx hZ e40 Ar42 (j := (1 : Int32)) hin42 (g := (mkF m 97 #[.val (.int p0), .val (.int p1), .val (.int p2), .val (.int p3), .val (.int p4), .val (.int p5), .val (.int ((p0 &&& (255 : Int32)).toUInt32.toUInt16.toUInt32.toInt32)), .val (.int ((p1 &&& (255 : Int32)).toUInt32.toUInt16.toUInt32.toInt32)), .val (.int ((p2 &&& (255 : Int32)).toUInt32.toUInt16.toUInt32.toInt32)), .val (.int (2 : Int32)), .unset, .unset, .unset, .unset, .unset, .unset] [(.int ((p1 &&& (255 : Int32)).toUInt32.toUInt16.toUInt32.toInt32)), (.int (1 : Int32)), (.ref b38), (.ref b38), (.ref b36), (.ref b36)])) rfl rfl (hb hby at_97)
    have V42 : Arv Z h42 b38 k38 .char (2 : Int32) [(.int (nar .char ((p0 &&& (255 : Int32)).toUInt32.toUInt16.toUInt32.toInt32))), (.int (nar .char ((p1 &&& (255 : Int32)).toUInt32.toUInt16.toUInt32.toInt32)))] (.int (0 : Int32)) := Arv.set Ar42 q42 S42 N42' H42 G42 (fits_nar_char _) W42 (1) rfl (Nat.le_of_ble_eq_true rfl)
    have K43 : Keep h0 h42 [] := K41.wr W42 (Or.inr sz_b38)
    have O_43 : Old Z n0 h42 := O_41.wr W42 g_b38
    have Sf_b36__K43 := Safe.wr W42 Sf_b38__K41 hC.1 Sf_b36__K41
    have Sf_b38__K43 := Safe.wr W42 Sf_b38__K41 hC.1 Sf_b38__K41
    have hk : _ ≤ h42.size := Nat.le_trans hk (Keep.of_wr W42).1
    have hC := hC.trans (CHr.wr W42 Sf_b38__K41 hC.1)
    have N42 := Fr.snoc X42 N40 g_b38
    refine Runs.by st42 ?_
    show Runs p e below _ (T42.setTop (mkF m 98 #[.val (.int p0), .val (.int p1), .val (.int p2), .val (.int p3), .val (.int p4), .val (.int p5), .val (.int ((p0 &&& (255 : Int32)).toUInt32.toUInt16.toUInt32.toInt32)), .val (.int ((p1 &&& (255 : Int32)).toUInt32.toUInt16.toUInt32.toInt32)), .val (.int ((p2 &&& (255 : Int32)).toUInt32.toUInt16.toUInt32.toInt32)), .val (.int (2 : Int32)), .unset, .unset, .unset, .unset, .unset, .unset] [(.ref b38), (.ref b36), (.ref b36)]))
    have hpc : ∀ c ∈ ([(nar .char ((p0 &&& (255 : Int32)).toUInt32.toUInt16.toUInt32.toInt32)), (nar .char ((p1 &&& (255 : Int32)).toUInt32.toUInt16.toUInt32.toInt32))] : List Int32), ¬ c < 0 ∧ ¬ (255 : Int32) < c := by
        intro c hc
        simp only [List.mem_cons, List.not_mem_nil, or_false] at hc
        rcases hc with rfl | rfl
        · exact own_and255 _
        · exact own_and255 _
    obtain ⟨_, _, ⟨T44, L44, k44, n44⟩, -, X44, ⟨Lc44, hQ44, l44, y44, z44⟩, st44⟩ := X42.specialBack hx (y := (⟨"java/lang/String", "<init>", "([C)V"⟩ : MethodName)) rfl hown (mvT hZ (hw _ (List.mem_of_getElem? (i := 4) rfl))) (mvT hZ (hw _ (List.mem_of_getElem? (i := 5) rfl))) (mvT hZ (hw _ (List.mem_of_getElem? (i := 6) rfl))) (by decide) (StrChars.Road.backV (W := 1) hZ hws (kI := 4) (hw _ (List.mem_of_getElem? (i := 1) rfl)) (cs := ([(nar .char ((p0 &&& (255 : Int32)).toUInt32.toUInt16.toUInt32.toInt32)), (nar .char ((p1 &&& (255 : Int32)).toUInt32.toUInt16.toUInt32.toInt32))] : List Int32)) (bs := ([(nar .char ((p0 &&& (255 : Int32)).toUInt32.toUInt16.toUInt32.toInt32)), (nar .char ((p1 &&& (255 : Int32)).toUInt32.toUInt16.toUInt32.toInt32))] : List Int32).map (fun c => c.toInt8.toInt32)) (n := 2) g_b36 (Nat.le_trans Z0 K43.1) (((A36.ext E38).wr W40).wr W42) (((F_value_b36.ext E38).other W40 (Or.inl ne_b36_b38)).other W42 (Or.inl ne_b36_b38)) (((F_coder_b36.ext E38).other W40 (Or.inl ne_b36_b38)).other W42 (Or.inl ne_b36_b38)) V42 (SC.ext O_43.2) cC rfl rfl (by decide) (by decide) hpc rfl (by decide) (by decide)) (g := (mkF m 98 #[.val (.int p0), .val (.int p1), .val (.int p2), .val (.int p3), .val (.int p4), .val (.int p5), .val (.int ((p0 &&& (255 : Int32)).toUInt32.toUInt16.toUInt32.toInt32)), .val (.int ((p1 &&& (255 : Int32)).toUInt32.toUInt16.toUInt32.toInt32)), .val (.int ((p2 &&& (255 : Int32)).toUInt32.toUInt16.toUInt32.toInt32)), .val (.int (2 : Int32)), .unset, .unset, .unset, .unset, .unset, .unset] [(.ref b38), (.ref b36), (.ref b36)])) rfl (by rw [hml]; rfl) (Steps.refl _) (a := b36) (argsL := [(.ref b38)]) (rest := [(.ref b36)]) (lenOf pd_9 rfl) rfl (by show 2 * 0 + _ ≤ _; exact Nat.le_of_eq rfl) (hb hby at_98) (fun _ _ => ⟨rfl, e42, (by decide : 2 + 1 ≤ _), (by decide : 6 + 2 ≤ _)⟩)
    dsimp only [Pt.U, Pt.locs, Pt.cells, Pt.slots] at X44 l44 y44 z44 st44 hQ44
    subst l44 y44 z44
    obtain ⟨rfl, Nq44, Kq44, fE44, fC44, t44, kb44, g_t44, szt44, nt44, fV44, fA44⟩ := hQ44
    have N44 := Fr.app N42 Nq44
    have ne_b36_t44 : b36 ≠ t44 := Nat.ne_of_lt (Nat.lt_of_lt_of_le (((A36.ext E38).wr W40).wr W42).lt szt44)
    have ne_b38_t44 : b38 ≠ t44 := Nat.ne_of_lt (Nat.lt_of_lt_of_le V42.lt szt44)
    have sz_t44 : h0.size ≤ t44 := Nat.le_trans K43.1 szt44
    have K45 : Keep h0 T44.heap [] := Keep.trans (ws := []) K43 Kq44 (allS (Or.inr sz_b36) all0)
    have O_45 : Old Z n0 T44.heap := O_43.keep Kq44 (allS g_b36 all0)
    have Sf_b36__K45 := Safe.keep Kq44 (allS Sf_b36__K43 all0) hC.1 Sf_b36__K43
    have Sf_b38__K45 := Safe.keep Kq44 (allS Sf_b36__K43 all0) hC.1 Sf_b38__K43
    have hk : _ ≤ T44.heap.size := Nat.le_trans hk Kq44.1
    have hC := hC.trans (CHr.keep Kq44 (allS Sf_b36__K43 all0) hC.1)
    refine Runs.by (fun _ hr => st44.trans hr) ?_
    show Runs p e below _ (T44.setTop (mkF m 101 #[.val (.int p0), .val (.int p1), .val (.int p2), .val (.int p3), .val (.int p4), .val (.int p5), .val (.int ((p0 &&& (255 : Int32)).toUInt32.toUInt16.toUInt32.toInt32)), .val (.int ((p1 &&& (255 : Int32)).toUInt32.toUInt16.toUInt32.toInt32)), .val (.int ((p2 &&& (255 : Int32)).toUInt32.toUInt16.toUInt32.toInt32)), .val (.int (2 : Int32)), .unset, .unset, .unset, .unset, .unset, .unset] [(.ref b36)]))
    refine Runs.by (fun _ hr => XS.astore X44.here hx rfl (hb hby at_101) rfl rfl (l' := #[.val (.int p0), .val (.int p1), .val (.int p2), .val (.int p3), .val (.int p4), .val (.int p5), .val (.int ((p0 &&& (255 : Int32)).toUInt32.toUInt16.toUInt32.toInt32)), .val (.int ((p1 &&& (255 : Int32)).toUInt32.toUInt16.toUInt32.toInt32)), .val (.int ((p2 &&& (255 : Int32)).toUInt32.toUInt16.toUInt32.toInt32)), .val (.int (2 : Int32)), .val (.ref b36), .unset, .unset, .unset, .unset, .unset]) rfl hr) ?_
    show Runs p e below _ (T44.setTop (mkF m 103 #[.val (.int p0), .val (.int p1), .val (.int p2), .val (.int p3), .val (.int p4), .val (.int p5), .val (.int ((p0 &&& (255 : Int32)).toUInt32.toUInt16.toUInt32.toInt32)), .val (.int ((p1 &&& (255 : Int32)).toUInt32.toUInt16.toUInt32.toInt32)), .val (.int ((p2 &&& (255 : Int32)).toUInt32.toUInt16.toUInt32.toInt32)), .val (.int (2 : Int32)), .val (.ref b36), .unset, .unset, .unset, .unset, .unset] []))
    refine Runs.by (fun _ hr => XS.goto X44.here hx rfl (pc0 := 103) (pc' := 133) rfl (hb hby at_103) (by decide) (by decide) hr) ?_
    show Runs p e below _ (T44.setTop (mkF m 133 #[.val (.int p0), .val (.int p1), .val (.int p2), .val (.int p3), .val (.int p4), .val (.int p5), .val (.int ((p0 &&& (255 : Int32)).toUInt32.toUInt16.toUInt32.toInt32)), .val (.int ((p1 &&& (255 : Int32)).toUInt32.toUInt16.toUInt32.toInt32)), .val (.int ((p2 &&& (255 : Int32)).toUInt32.toUInt16.toUInt32.toInt32)), .val (.int (2 : Int32)), .val (.ref b36), .unset, .unset, .unset, .unset, .unset] []))
    obtain ⟨T46, h46, X46, e46, E46, A46, D46, -, st46⟩ := newO X44 hx hZ hown (hw _ (List.mem_of_getElem? (i := 30) rfl)) (hw _ (List.mem_of_getElem? (i := 31) rfl)) (hw _ (List.mem_of_getElem? (i := 32) rfl)) rfl (g := (mkF m 133 #[.val (.int p0), .val (.int p1), .val (.int p2), .val (.int p3), .val (.int p4), .val (.int p5), .val (.int ((p0 &&& (255 : Int32)).toUInt32.toUInt16.toUInt32.toInt32)), .val (.int ((p1 &&& (255 : Int32)).toUInt32.toUInt16.toUInt32.toInt32)), .val (.int ((p2 &&& (255 : Int32)).toUInt32.toUInt16.toUInt32.toInt32)), .val (.int (2 : Int32)), .val (.ref b36), .unset, .unset, .unset, .unset, .unset] [])) rfl (hb hby at_133) (by decide) (by decide)
    obtain ⟨b46, gz46⟩ : ∃ z, z = T44.heap.size := ⟨_, rfl⟩
    rw [← gz46] at A46 D46 st46
    have ne_b36_b46 : b36 ≠ b46 := Nat.ne_of_lt (Nat.lt_of_lt_of_le fE44.lt (Nat.le_of_eq gz46.symm))
    have ne_b38_b46 : b38 ≠ b46 := Nat.ne_of_lt (Nat.lt_of_lt_of_le (V42.keep Kq44 (ninS (Ne.symm ne_b36_b38) nin0)).lt (Nat.le_of_eq gz46.symm))
    have ne_t44_b46 : t44 ≠ b46 := Nat.ne_of_lt (Nat.lt_of_lt_of_le fA44.lt (Nat.le_of_eq gz46.symm))
    have Sf_b46 : Safe Z consts_1 s.vm T44.heap b46 := Safe.new (Nat.le_of_eq gz46.symm)
    have g_b46 : n0 ≤ b46 := Nat.le_trans (Nat.le_trans Z0 K45.1) (Nat.le_of_eq gz46.symm)
    have sz_b46 : h0.size ≤ b46 := Nat.le_trans K45.1 (Nat.le_of_eq gz46.symm)
    have K47 : Keep h0 h46 [] := K45.ext E46
    have O_47 : Old Z n0 h46 := O_45.ext E46
    have Sf_b36__K47 := Safe.ext E46 hC.1 Sf_b36__K45
    have Sf_b38__K47 := Safe.ext E46 hC.1 Sf_b38__K45
    have Sf_b46__K47 := Safe.ext E46 hC.1 Sf_b46
    have hk : _ ≤ h46.size := Nat.le_trans hk E46.1
    have hC := hC.trans (CHr.ext E46 hC.1)
    have F_firstBytes_b46 : Fld Z h46 b46 "com/example/vedette/vedette/io/Utf8Buffer$Stops" "firstBytes" "[Z" .null := D46 (Or.inr (hw _ (List.mem_of_getElem? (i := 39) rfl))) (ty := (.array .boolean)) (by decide)
    have F_chars_b46 : Fld Z h46 b46 "com/example/vedette/vedette/io/Utf8Buffer$Stops" "chars" "[Z" .null := D46 (Or.inr (hw _ (List.mem_of_getElem? (i := 77) rfl))) (ty := (.array .boolean)) (by decide)
    refine Runs.by st46 ?_
    show Runs p e below _ (T46.setTop (mkF m 136 #[.val (.int p0), .val (.int p1), .val (.int p2), .val (.int p3), .val (.int p4), .val (.int p5), .val (.int ((p0 &&& (255 : Int32)).toUInt32.toUInt16.toUInt32.toInt32)), .val (.int ((p1 &&& (255 : Int32)).toUInt32.toUInt16.toUInt32.toInt32)), .val (.int ((p2 &&& (255 : Int32)).toUInt32.toUInt16.toUInt32.toInt32)), .val (.int (2 : Int32)), .val (.ref b36), .unset, .unset, .unset, .unset, .unset] [(.ref b46)]))
    refine Runs.by (fun _ hr => XS.dup X46.here hx rfl (hb hby at_136) rfl rfl hr) ?_
    show Runs p e below _ (T46.setTop (mkF m 137 #[.val (.int p0), .val (.int p1), .val (.int p2), .val (.int p3), .val (.int p4), .val (.int p5), .val (.int ((p0 &&& (255 : Int32)).toUInt32.toUInt16.toUInt32.toInt32)), .val (.int ((p1 &&& (255 : Int32)).toUInt32.toUInt16.toUInt32.toInt32)), .val (.int ((p2 &&& (255 : Int32)).toUInt32.toUInt16.toUInt32.toInt32)), .val (.int (2 : Int32)), .val (.ref b36), .unset, .unset, .unset, .unset, .unset] [(.ref b46), (.ref b46)]))
    refine Runs.by (fun _ hr => XS.aload X46.here hx rfl (hb hby at_137) rfl rfl hr) ?_
    show Runs p e below _ (T46.setTop (mkF m 139 #[.val (.int p0), .val (.int p1), .val (.int p2), .val (.int p3), .val (.int p4), .val (.int p5), .val (.int ((p0 &&& (255 : Int32)).toUInt32.toUInt16.toUInt32.toInt32)), .val (.int ((p1 &&& (255 : Int32)).toUInt32.toUInt16.toUInt32.toInt32)), .val (.int ((p2 &&& (255 : Int32)).toUInt32.toUInt16.toUInt32.toInt32)), .val (.int (2 : Int32)), .val (.ref b36), .unset, .unset, .unset, .unset, .unset] [(.ref b36), (.ref b46), (.ref b46)]))
    obtain ⟨_, _, ⟨T48, L48, k48, n48⟩, -, X48, ⟨Lc48, hQ48, l48, y48, z48⟩, st48⟩ := X46.specialBack hx (y := (⟨"com/example/vedette/vedette/io/Utf8Buffer$Stops", "<init>", "(Ljava/lang/String;)V"⟩ : MethodName)) rfl hown (mvT hZ (hw _ (List.mem_of_getElem? (i := 33) rfl))) (mvT hZ (hw _ (List.mem_of_getElem? (i := 34) rfl))) (mvT hZ (hw _ (List.mem_of_getElem? (i := 35) rfl))) (by decide) (backOf (W := 1) (rm7_2 l Z a0 hw [] b46 b36 gC vG t44 kb44 ((nar .char ((p0 &&& (255 : Int32)).toUInt32.toUInt16.toUInt32.toInt32))) ((nar .char ((p1 &&& (255 : Int32)).toUInt32.toUInt16.toUInt32.toInt32))) h46 n0 (Nat.le_trans Z0 K47.1) A46 F_firstBytes_b46 F_chars_b46 g_b46 (fE44.ext E46) SC cC hvG SG (fC44.ext E46) (fV44.ext E46) (fA44.ext E46) ne_b36_b46 ne_t44_b46 (own_and255 _) (own_and255 _) O_47) hZ (hw _ (List.mem_of_getElem? (i := 35) rfl)) (hw _ (List.mem_of_getElem? (i := 32) rfl)) (by decide) (by decide)) (g := (mkF m 139 #[.val (.int p0), .val (.int p1), .val (.int p2), .val (.int p3), .val (.int p4), .val (.int p5), .val (.int ((p0 &&& (255 : Int32)).toUInt32.toUInt16.toUInt32.toInt32)), .val (.int ((p1 &&& (255 : Int32)).toUInt32.toUInt16.toUInt32.toInt32)), .val (.int ((p2 &&& (255 : Int32)).toUInt32.toUInt16.toUInt32.toInt32)), .val (.int (2 : Int32)), .val (.ref b36), .unset, .unset, .unset, .unset, .unset] [(.ref b36), (.ref b46), (.ref b46)])) rfl (by rw [hml]; rfl) (Steps.refl _) (a := b46) (argsL := [(.ref b36)]) (rest := [(.ref b46)]) (lenOf pd_10 rfl) rfl (by show 2 * 0 + _ ≤ _; exact Nat.le_of_eq rfl) (hb hby at_139) (fun _ _ => ⟨rfl, e46, (by decide : 4 + 2 ≤ _), (by decide : 10 + 512 ≤ _)⟩)
    dsimp only [Pt.U, Pt.locs, Pt.cells, Pt.slots] at X48 l48 y48 z48 st48 hQ48
    subst l48 y48 z48
    obtain ⟨rfl, Nq48, Kq48, f48_0, t48, kt48, z48, wf48, f48_1, f48_2, hs48⟩ := hQ48
    have N48 := Fr.app N44 Nq48
    have K49 : Keep h0 T48.heap [] := Keep.trans (ws := []) K47 Kq48 (allS (Or.inr sz_b46) all0)
    have O_49 : Old Z n0 T48.heap := O_47.keep Kq48 (allS g_b46 all0)
    have Sf_b36__K49 := Safe.keep Kq48 (allS Sf_b46__K47 all0) hC.1 Sf_b36__K47
    have Sf_b38__K49 := Safe.keep Kq48 (allS Sf_b46__K47 all0) hC.1 Sf_b38__K47
    have Sf_b46__K49 := Safe.keep Kq48 (allS Sf_b46__K47 all0) hC.1 Sf_b46__K47
    have hk : _ ≤ T48.heap.size := Nat.le_trans hk Kq48.1
    have hC := hC.trans (CHr.keep Kq48 (allS Sf_b46__K47 all0) hC.1)
    refine Runs.by (fun _ hr => st48.trans hr) ?_
    show Runs p e below _ (T48.setTop (mkF m 142 #[.val (.int p0), .val (.int p1), .val (.int p2), .val (.int p3), .val (.int p4), .val (.int p5), .val (.int ((p0 &&& (255 : Int32)).toUInt32.toUInt16.toUInt32.toInt32)), .val (.int ((p1 &&& (255 : Int32)).toUInt32.toUInt16.toUInt32.toInt32)), .val (.int ((p2 &&& (255 : Int32)).toUInt32.toUInt16.toUInt32.toInt32)), .val (.int (2 : Int32)), .val (.ref b36), .unset, .unset, .unset, .unset, .unset] [(.ref b46)]))
    refine Runs.by (fun _ hr => XS.astore X48.here hx rfl (hb hby at_142) rfl rfl (l' := #[.val (.int p0), .val (.int p1), .val (.int p2), .val (.int p3), .val (.int p4), .val (.int p5), .val (.int ((p0 &&& (255 : Int32)).toUInt32.toUInt16.toUInt32.toInt32)), .val (.int ((p1 &&& (255 : Int32)).toUInt32.toUInt16.toUInt32.toInt32)), .val (.int ((p2 &&& (255 : Int32)).toUInt32.toUInt16.toUInt32.toInt32)), .val (.int (2 : Int32)), .val (.ref b36), .val (.ref b46), .unset, .unset, .unset, .unset]) rfl hr) ?_
    show Runs p e below _ (T48.setTop (mkF m 144 #[.val (.int p0), .val (.int p1), .val (.int p2), .val (.int p3), .val (.int p4), .val (.int p5), .val (.int ((p0 &&& (255 : Int32)).toUInt32.toUInt16.toUInt32.toInt32)), .val (.int ((p1 &&& (255 : Int32)).toUInt32.toUInt16.toUInt32.toInt32)), .val (.int ((p2 &&& (255 : Int32)).toUInt32.toUInt16.toUInt32.toInt32)), .val (.int (2 : Int32)), .val (.ref b36), .val (.ref b46), .unset, .unset, .unset, .unset] []))
    refine Runs.by (fun _ hr => XS.iload X48.here hx rfl (hb hby at_144) rfl  hr) ?_
    show Runs p e below _ (T48.setTop (mkF m 146 #[.val (.int p0), .val (.int p1), .val (.int p2), .val (.int p3), .val (.int p4), .val (.int p5), .val (.int ((p0 &&& (255 : Int32)).toUInt32.toUInt16.toUInt32.toInt32)), .val (.int ((p1 &&& (255 : Int32)).toUInt32.toUInt16.toUInt32.toInt32)), .val (.int ((p2 &&& (255 : Int32)).toUInt32.toUInt16.toUInt32.toInt32)), .val (.int (2 : Int32)), .val (.ref b36), .val (.ref b46), .unset, .unset, .unset, .unset] [(.int p5)]))
    refine Runs.by (fun _ hr => XS.iconst X48.here hx rfl (hb hby at_146) hr) ?_
    show Runs p e below _ (T48.setTop (mkF m 147 #[.val (.int p0), .val (.int p1), .val (.int p2), .val (.int p3), .val (.int p4), .val (.int p5), .val (.int ((p0 &&& (255 : Int32)).toUInt32.toUInt16.toUInt32.toInt32)), .val (.int ((p1 &&& (255 : Int32)).toUInt32.toUInt16.toUInt32.toInt32)), .val (.int ((p2 &&& (255 : Int32)).toUInt32.toUInt16.toUInt32.toInt32)), .val (.int (2 : Int32)), .val (.ref b36), .val (.ref b46), .unset, .unset, .unset, .unset] [(.int (3 : Int32)), (.int p5)]))
    refine Runs.by (fun _ hr => XS.iand X48.here hx rfl (hb hby at_147) rfl hr) ?_
    show Runs p e below _ (T48.setTop (mkF m 148 #[.val (.int p0), .val (.int p1), .val (.int p2), .val (.int p3), .val (.int p4), .val (.int p5), .val (.int ((p0 &&& (255 : Int32)).toUInt32.toUInt16.toUInt32.toInt32)), .val (.int ((p1 &&& (255 : Int32)).toUInt32.toUInt16.toUInt32.toInt32)), .val (.int ((p2 &&& (255 : Int32)).toUInt32.toUInt16.toUInt32.toInt32)), .val (.int (2 : Int32)), .val (.ref b36), .val (.ref b46), .unset, .unset, .unset, .unset] [(.int (p5 &&& (3 : Int32)))]))
    refine Runs.by (fun _ hr => XS.istore X48.here hx rfl (hb hby at_148) rfl (l' := #[.val (.int p0), .val (.int p1), .val (.int p2), .val (.int p3), .val (.int p4), .val (.int p5), .val (.int ((p0 &&& (255 : Int32)).toUInt32.toUInt16.toUInt32.toInt32)), .val (.int ((p1 &&& (255 : Int32)).toUInt32.toUInt16.toUInt32.toInt32)), .val (.int ((p2 &&& (255 : Int32)).toUInt32.toUInt16.toUInt32.toInt32)), .val (.int (2 : Int32)), .val (.ref b36), .val (.ref b46), .val (.int (p5 &&& (3 : Int32))), .unset, .unset, .unset]) rfl hr) ?_
    show Runs p e below _ (T48.setTop (mkF m 150 #[.val (.int p0), .val (.int p1), .val (.int p2), .val (.int p3), .val (.int p4), .val (.int p5), .val (.int ((p0 &&& (255 : Int32)).toUInt32.toUInt16.toUInt32.toInt32)), .val (.int ((p1 &&& (255 : Int32)).toUInt32.toUInt16.toUInt32.toInt32)), .val (.int ((p2 &&& (255 : Int32)).toUInt32.toUInt16.toUInt32.toInt32)), .val (.int (2 : Int32)), .val (.ref b36), .val (.ref b46), .val (.int (p5 &&& (3 : Int32))), .unset, .unset, .unset] []))
    refine Runs.by (fun _ hr => XS.iload X48.here hx rfl (hb hby at_150) rfl  hr) ?_
    show Runs p e below _ (T48.setTop (mkF m 152 #[.val (.int p0), .val (.int p1), .val (.int p2), .val (.int p3), .val (.int p4), .val (.int p5), .val (.int ((p0 &&& (255 : Int32)).toUInt32.toUInt16.toUInt32.toInt32)), .val (.int ((p1 &&& (255 : Int32)).toUInt32.toUInt16.toUInt32.toInt32)), .val (.int ((p2 &&& (255 : Int32)).toUInt32.toUInt16.toUInt32.toInt32)), .val (.int (2 : Int32)), .val (.ref b36), .val (.ref b46), .val (.int (p5 &&& (3 : Int32))), .unset, .unset, .unset] [(.int p5)]))
    refine Runs.by (fun _ hr => XS.iconst X48.here hx rfl (hb hby at_152) hr) ?_
    show Runs p e below _ (T48.setTop (mkF m 153 #[.val (.int p0), .val (.int p1), .val (.int p2), .val (.int p3), .val (.int p4), .val (.int p5), .val (.int ((p0 &&& (255 : Int32)).toUInt32.toUInt16.toUInt32.toInt32)), .val (.int ((p1 &&& (255 : Int32)).toUInt32.toUInt16.toUInt32.toInt32)), .val (.int ((p2 &&& (255 : Int32)).toUInt32.toUInt16.toUInt32.toInt32)), .val (.int (2 : Int32)), .val (.ref b36), .val (.ref b46), .val (.int (p5 &&& (3 : Int32))), .unset, .unset, .unset] [(.int (2 : Int32)), (.int p5)]))
    refine Runs.by (fun _ hr => XS.iushr X48.here hx rfl (hb hby at_153) rfl hr) ?_
    show Runs p e below _ (T48.setTop (mkF m 154 #[.val (.int p0), .val (.int p1), .val (.int p2), .val (.int p3), .val (.int p4), .val (.int p5), .val (.int ((p0 &&& (255 : Int32)).toUInt32.toUInt16.toUInt32.toInt32)), .val (.int ((p1 &&& (255 : Int32)).toUInt32.toUInt16.toUInt32.toInt32)), .val (.int ((p2 &&& (255 : Int32)).toUInt32.toUInt16.toUInt32.toInt32)), .val (.int (2 : Int32)), .val (.ref b36), .val (.ref b46), .val (.int (p5 &&& (3 : Int32))), .unset, .unset, .unset] [(.int ((p5.toUInt32 >>> ((2 : Int32) &&& 31).toUInt32).toInt32))]))
    refine Runs.by (fun _ hr => XS.iconst X48.here hx rfl (hb hby at_154) hr) ?_
    show Runs p e below _ (T48.setTop (mkF m 155 #[.val (.int p0), .val (.int p1), .val (.int p2), .val (.int p3), .val (.int p4), .val (.int p5), .val (.int ((p0 &&& (255 : Int32)).toUInt32.toUInt16.toUInt32.toInt32)), .val (.int ((p1 &&& (255 : Int32)).toUInt32.toUInt16.toUInt32.toInt32)), .val (.int ((p2 &&& (255 : Int32)).toUInt32.toUInt16.toUInt32.toInt32)), .val (.int (2 : Int32)), .val (.ref b36), .val (.ref b46), .val (.int (p5 &&& (3 : Int32))), .unset, .unset, .unset] [(.int (3 : Int32)), (.int ((p5.toUInt32 >>> ((2 : Int32) &&& 31).toUInt32).toInt32))]))
    refine Runs.by (fun _ hr => XS.iand X48.here hx rfl (hb hby at_155) rfl hr) ?_
    show Runs p e below _ (T48.setTop (mkF m 156 #[.val (.int p0), .val (.int p1), .val (.int p2), .val (.int p3), .val (.int p4), .val (.int p5), .val (.int ((p0 &&& (255 : Int32)).toUInt32.toUInt16.toUInt32.toInt32)), .val (.int ((p1 &&& (255 : Int32)).toUInt32.toUInt16.toUInt32.toInt32)), .val (.int ((p2 &&& (255 : Int32)).toUInt32.toUInt16.toUInt32.toInt32)), .val (.int (2 : Int32)), .val (.ref b36), .val (.ref b46), .val (.int (p5 &&& (3 : Int32))), .unset, .unset, .unset] [(.int (((p5.toUInt32 >>> ((2 : Int32) &&& 31).toUInt32).toInt32) &&& (3 : Int32)))]))
    refine Runs.by (fun _ hr => XS.iconst X48.here hx rfl (hb hby at_156) hr) ?_
    show Runs p e below _ (T48.setTop (mkF m 157 #[.val (.int p0), .val (.int p1), .val (.int p2), .val (.int p3), .val (.int p4), .val (.int p5), .val (.int ((p0 &&& (255 : Int32)).toUInt32.toUInt16.toUInt32.toInt32)), .val (.int ((p1 &&& (255 : Int32)).toUInt32.toUInt16.toUInt32.toInt32)), .val (.int ((p2 &&& (255 : Int32)).toUInt32.toUInt16.toUInt32.toInt32)), .val (.int (2 : Int32)), .val (.ref b36), .val (.ref b46), .val (.int (p5 &&& (3 : Int32))), .unset, .unset, .unset] [(.int (1 : Int32)), (.int (((p5.toUInt32 >>> ((2 : Int32) &&& 31).toUInt32).toInt32) &&& (3 : Int32)))]))
    refine Runs.by (fun _ hr => XS.isub X48.here hx rfl (hb hby at_157) rfl hr) ?_
    show Runs p e below _ (T48.setTop (mkF m 158 #[.val (.int p0), .val (.int p1), .val (.int p2), .val (.int p3), .val (.int p4), .val (.int p5), .val (.int ((p0 &&& (255 : Int32)).toUInt32.toUInt16.toUInt32.toInt32)), .val (.int ((p1 &&& (255 : Int32)).toUInt32.toUInt16.toUInt32.toInt32)), .val (.int ((p2 &&& (255 : Int32)).toUInt32.toUInt16.toUInt32.toInt32)), .val (.int (2 : Int32)), .val (.ref b36), .val (.ref b46), .val (.int (p5 &&& (3 : Int32))), .unset, .unset, .unset] [(.int ((((p5.toUInt32 >>> ((2 : Int32) &&& 31).toUInt32).toInt32) &&& (3 : Int32)) - (1 : Int32)))]))
    refine Runs.by (fun _ hr => XS.istore X48.here hx rfl (hb hby at_158) rfl (l' := #[.val (.int p0), .val (.int p1), .val (.int p2), .val (.int p3), .val (.int p4), .val (.int p5), .val (.int ((p0 &&& (255 : Int32)).toUInt32.toUInt16.toUInt32.toInt32)), .val (.int ((p1 &&& (255 : Int32)).toUInt32.toUInt16.toUInt32.toInt32)), .val (.int ((p2 &&& (255 : Int32)).toUInt32.toUInt16.toUInt32.toInt32)), .val (.int (2 : Int32)), .val (.ref b36), .val (.ref b46), .val (.int (p5 &&& (3 : Int32))), .val (.int ((((p5.toUInt32 >>> ((2 : Int32) &&& 31).toUInt32).toInt32) &&& (3 : Int32)) - (1 : Int32))), .unset, .unset]) rfl hr) ?_
    have JL50 : ∀ (cc : Int32) (TJ51 : State) (lJ51 : List Loc) (XJ51 : Stand p l e room_1 (s.setVm s.vm) m #[(.int p0), (.int p1), (.int p2), (.int p3), (.int p4), (.int p5)] below meth c TJ51 lJ51 6 522) (eJ51 : TJ51.heap = T48.heap) (NJ51 : Fr n0 lJ51) (hcc : ¬ cc < 0), Runs p e below (QEW Z consts_1 s (Q_rm0 Z p0 p1 p2 p3 p4 p5 gC vG h0 n0) room_1.cells room_1.slots) (TJ51.setTop (mkF m 226 #[.val (.int p0), .val (.int p1), .val (.int p2), .val (.int p3), .val (.int p4), .val (.int p5), .val (.int ((p0 &&& (255 : Int32)).toUInt32.toUInt16.toUInt32.toInt32)), .val (.int ((p1 &&& (255 : Int32)).toUInt32.toUInt16.toUInt32.toInt32)), .val (.int ((p2 &&& (255 : Int32)).toUInt32.toUInt16.toUInt32.toInt32)), .val (.int (2 : Int32)), .val (.ref b36), .val (.ref b46), .val (.int (p5 &&& (3 : Int32))), .val (.int ((((p5.toUInt32 >>> ((2 : Int32) &&& 31).toUInt32).toInt32) &&& (3 : Int32)) - (1 : Int32))), .val (.int cc), .unset] [])) := by
      intro cc TJ51 lJ51 XJ51 eJ51 NJ51 hcc
      show Runs p e below _ (TJ51.setTop (mkF m 226 #[.val (.int p0), .val (.int p1), .val (.int p2), .val (.int p3), .val (.int p4), .val (.int p5), .val (.int ((p0 &&& (255 : Int32)).toUInt32.toUInt16.toUInt32.toInt32)), .val (.int ((p1 &&& (255 : Int32)).toUInt32.toUInt16.toUInt32.toInt32)), .val (.int ((p2 &&& (255 : Int32)).toUInt32.toUInt16.toUInt32.toInt32)), .val (.int (2 : Int32)), .val (.ref b36), .val (.ref b46), .val (.int (p5 &&& (3 : Int32))), .val (.int ((((p5.toUInt32 >>> ((2 : Int32) &&& 31).toUInt32).toInt32) &&& (3 : Int32)) - (1 : Int32))), .val (.int cc), .unset] []))
      refine Runs.by (fun _ hr => XS.iload XJ51.here hx rfl (hb hby at_226) rfl  hr) ?_
      show Runs p e below _ (TJ51.setTop (mkF m 228 #[.val (.int p0), .val (.int p1), .val (.int p2), .val (.int p3), .val (.int p4), .val (.int p5), .val (.int ((p0 &&& (255 : Int32)).toUInt32.toUInt16.toUInt32.toInt32)), .val (.int ((p1 &&& (255 : Int32)).toUInt32.toUInt16.toUInt32.toInt32)), .val (.int ((p2 &&& (255 : Int32)).toUInt32.toUInt16.toUInt32.toInt32)), .val (.int (2 : Int32)), .val (.ref b36), .val (.ref b46), .val (.int (p5 &&& (3 : Int32))), .val (.int ((((p5.toUInt32 >>> ((2 : Int32) &&& 31).toUInt32).toInt32) &&& (3 : Int32)) - (1 : Int32))), .val (.int cc), .unset] [(.int (2 : Int32))]))
      refine Runs.by (fun _ hr => XS.iconst XJ51.here hx rfl (hb hby at_228) hr) ?_
      show Runs p e below _ (TJ51.setTop (mkF m 229 #[.val (.int p0), .val (.int p1), .val (.int p2), .val (.int p3), .val (.int p4), .val (.int p5), .val (.int ((p0 &&& (255 : Int32)).toUInt32.toUInt16.toUInt32.toInt32)), .val (.int ((p1 &&& (255 : Int32)).toUInt32.toUInt16.toUInt32.toInt32)), .val (.int ((p2 &&& (255 : Int32)).toUInt32.toUInt16.toUInt32.toInt32)), .val (.int (2 : Int32)), .val (.ref b36), .val (.ref b46), .val (.int (p5 &&& (3 : Int32))), .val (.int ((((p5.toUInt32 >>> ((2 : Int32) &&& 31).toUInt32).toInt32) &&& (3 : Int32)) - (1 : Int32))), .val (.int cc), .unset] [(.int (1 : Int32)), (.int (2 : Int32))]))
      have hc229 : ¬ ((2 : Int32) < (1 : Int32)) := (by decide)
      refine Runs.by (fun _ hr => XS.icmpNo XJ51.here hx rfl (hb hby at_229) rfl (flt hc229).1 hr) ?_
      show Runs p e below _ (TJ51.setTop (mkF m 232 #[.val (.int p0), .val (.int p1), .val (.int p2), .val (.int p3), .val (.int p4), .val (.int p5), .val (.int ((p0 &&& (255 : Int32)).toUInt32.toUInt16.toUInt32.toInt32)), .val (.int ((p1 &&& (255 : Int32)).toUInt32.toUInt16.toUInt32.toInt32)), .val (.int ((p2 &&& (255 : Int32)).toUInt32.toUInt16.toUInt32.toInt32)), .val (.int (2 : Int32)), .val (.ref b36), .val (.ref b46), .val (.int (p5 &&& (3 : Int32))), .val (.int ((((p5.toUInt32 >>> ((2 : Int32) &&& 31).toUInt32).toInt32) &&& (3 : Int32)) - (1 : Int32))), .val (.int cc), .unset] []))
      refine Runs.by (fun _ hr => XS.iload XJ51.here hx rfl (hb hby at_232) rfl  hr) ?_
      show Runs p e below _ (TJ51.setTop (mkF m 234 #[.val (.int p0), .val (.int p1), .val (.int p2), .val (.int p3), .val (.int p4), .val (.int p5), .val (.int ((p0 &&& (255 : Int32)).toUInt32.toUInt16.toUInt32.toInt32)), .val (.int ((p1 &&& (255 : Int32)).toUInt32.toUInt16.toUInt32.toInt32)), .val (.int ((p2 &&& (255 : Int32)).toUInt32.toUInt16.toUInt32.toInt32)), .val (.int (2 : Int32)), .val (.ref b36), .val (.ref b46), .val (.int (p5 &&& (3 : Int32))), .val (.int ((((p5.toUInt32 >>> ((2 : Int32) &&& 31).toUInt32).toInt32) &&& (3 : Int32)) - (1 : Int32))), .val (.int cc), .unset] [(.int cc)]))
      refine Runs.by (fun _ hr => XS.iload XJ51.here hx rfl (hb hby at_234) rfl  hr) ?_
      show Runs p e below _ (TJ51.setTop (mkF m 236 #[.val (.int p0), .val (.int p1), .val (.int p2), .val (.int p3), .val (.int p4), .val (.int p5), .val (.int ((p0 &&& (255 : Int32)).toUInt32.toUInt16.toUInt32.toInt32)), .val (.int ((p1 &&& (255 : Int32)).toUInt32.toUInt16.toUInt32.toInt32)), .val (.int ((p2 &&& (255 : Int32)).toUInt32.toUInt16.toUInt32.toInt32)), .val (.int (2 : Int32)), .val (.ref b36), .val (.ref b46), .val (.int (p5 &&& (3 : Int32))), .val (.int ((((p5.toUInt32 >>> ((2 : Int32) &&& 31).toUInt32).toInt32) &&& (3 : Int32)) - (1 : Int32))), .val (.int cc), .unset] [(.int ((p0 &&& (255 : Int32)).toUInt32.toUInt16.toUInt32.toInt32)), (.int cc)]))
      by_cases hc236 : cc = ((p0 &&& (255 : Int32)).toUInt32.toUInt16.toUInt32.toInt32)
      · -- pc 236: cc = ((p0 &&& (255 : Int32)).toUInt32.toUInt16.toUInt32.toInt32)
        refine Runs.by (fun _ hr => XS.icmpYes XJ51.here hx rfl (pc0 := 236) (pc' := 265) rfl (hb hby at_236) rfl (teq hc236).1 (by decide) (by decide) hr) ?_
        show Runs p e below _ (TJ51.setTop (mkF m 265 #[.val (.int p0), .val (.int p1), .val (.int p2), .val (.int p3), .val (.int p4), .val (.int p5), .val (.int ((p0 &&& (255 : Int32)).toUInt32.toUInt16.toUInt32.toInt32)), .val (.int ((p1 &&& (255 : Int32)).toUInt32.toUInt16.toUInt32.toInt32)), .val (.int ((p2 &&& (255 : Int32)).toUInt32.toUInt16.toUInt32.toInt32)), .val (.int (2 : Int32)), .val (.ref b36), .val (.ref b46), .val (.int (p5 &&& (3 : Int32))), .val (.int ((((p5.toUInt32 >>> ((2 : Int32) &&& 31).toUInt32).toInt32) &&& (3 : Int32)) - (1 : Int32))), .val (.int cc), .unset] []))
        refine Runs.by (fun _ hr => XS.iconst XJ51.here hx rfl (hb hby at_265) hr) ?_
        show Runs p e below _ (TJ51.setTop (mkF m 266 #[.val (.int p0), .val (.int p1), .val (.int p2), .val (.int p3), .val (.int p4), .val (.int p5), .val (.int ((p0 &&& (255 : Int32)).toUInt32.toUInt16.toUInt32.toInt32)), .val (.int ((p1 &&& (255 : Int32)).toUInt32.toUInt16.toUInt32.toInt32)), .val (.int ((p2 &&& (255 : Int32)).toUInt32.toUInt16.toUInt32.toInt32)), .val (.int (2 : Int32)), .val (.ref b36), .val (.ref b46), .val (.int (p5 &&& (3 : Int32))), .val (.int ((((p5.toUInt32 >>> ((2 : Int32) &&& 31).toUInt32).toInt32) &&& (3 : Int32)) - (1 : Int32))), .val (.int cc), .unset] [(.int (1 : Int32))]))
        refine Runs.by (fun _ hr => XS.goto XJ51.here hx rfl (pc0 := 266) (pc' := 270) rfl (hb hby at_266) (by decide) (by decide) hr) ?_
        show Runs p e below _ (TJ51.setTop (mkF m 270 #[.val (.int p0), .val (.int p1), .val (.int p2), .val (.int p3), .val (.int p4), .val (.int p5), .val (.int ((p0 &&& (255 : Int32)).toUInt32.toUInt16.toUInt32.toInt32)), .val (.int ((p1 &&& (255 : Int32)).toUInt32.toUInt16.toUInt32.toInt32)), .val (.int ((p2 &&& (255 : Int32)).toUInt32.toUInt16.toUInt32.toInt32)), .val (.int (2 : Int32)), .val (.ref b36), .val (.ref b46), .val (.int (p5 &&& (3 : Int32))), .val (.int ((((p5.toUInt32 >>> ((2 : Int32) &&& 31).toUInt32).toInt32) &&& (3 : Int32)) - (1 : Int32))), .val (.int cc), .unset] [(.int (1 : Int32))]))
        refine Runs.by (fun _ hr => XS.istore XJ51.here hx rfl (hb hby at_270) rfl (l' := #[.val (.int p0), .val (.int p1), .val (.int p2), .val (.int p3), .val (.int p4), .val (.int p5), .val (.int ((p0 &&& (255 : Int32)).toUInt32.toUInt16.toUInt32.toInt32)), .val (.int ((p1 &&& (255 : Int32)).toUInt32.toUInt16.toUInt32.toInt32)), .val (.int ((p2 &&& (255 : Int32)).toUInt32.toUInt16.toUInt32.toInt32)), .val (.int (2 : Int32)), .val (.ref b36), .val (.ref b46), .val (.int (p5 &&& (3 : Int32))), .val (.int ((((p5.toUInt32 >>> ((2 : Int32) &&& 31).toUInt32).toInt32) &&& (3 : Int32)) - (1 : Int32))), .val (.int cc), .val (.int (1 : Int32))]) rfl hr) ?_
        show Runs p e below _ (TJ51.setTop (mkF m 272 #[.val (.int p0), .val (.int p1), .val (.int p2), .val (.int p3), .val (.int p4), .val (.int p5), .val (.int ((p0 &&& (255 : Int32)).toUInt32.toUInt16.toUInt32.toInt32)), .val (.int ((p1 &&& (255 : Int32)).toUInt32.toUInt16.toUInt32.toInt32)), .val (.int ((p2 &&& (255 : Int32)).toUInt32.toUInt16.toUInt32.toInt32)), .val (.int (2 : Int32)), .val (.ref b36), .val (.ref b46), .val (.int (p5 &&& (3 : Int32))), .val (.int ((((p5.toUInt32 >>> ((2 : Int32) &&& 31).toUInt32).toInt32) &&& (3 : Int32)) - (1 : Int32))), .val (.int cc), .val (.int (1 : Int32))] []))
        refine Runs.by (fun _ hr => XS.aload XJ51.here hx rfl (hb hby at_272) rfl rfl hr) ?_
        show Runs p e below _ (TJ51.setTop (mkF m 274 #[.val (.int p0), .val (.int p1), .val (.int p2), .val (.int p3), .val (.int p4), .val (.int p5), .val (.int ((p0 &&& (255 : Int32)).toUInt32.toUInt16.toUInt32.toInt32)), .val (.int ((p1 &&& (255 : Int32)).toUInt32.toUInt16.toUInt32.toInt32)), .val (.int ((p2 &&& (255 : Int32)).toUInt32.toUInt16.toUInt32.toInt32)), .val (.int (2 : Int32)), .val (.ref b36), .val (.ref b46), .val (.int (p5 &&& (3 : Int32))), .val (.int ((((p5.toUInt32 >>> ((2 : Int32) &&& 31).toUInt32).toInt32) &&& (3 : Int32)) - (1 : Int32))), .val (.int cc), .val (.int (1 : Int32))] [(.ref b46)]))
        refine Runs.by (fun _ hr => XS.iload XJ51.here hx rfl (hb hby at_274) rfl  hr) ?_
        show Runs p e below _ (TJ51.setTop (mkF m 276 #[.val (.int p0), .val (.int p1), .val (.int p2), .val (.int p3), .val (.int p4), .val (.int p5), .val (.int ((p0 &&& (255 : Int32)).toUInt32.toUInt16.toUInt32.toInt32)), .val (.int ((p1 &&& (255 : Int32)).toUInt32.toUInt16.toUInt32.toInt32)), .val (.int ((p2 &&& (255 : Int32)).toUInt32.toUInt16.toUInt32.toInt32)), .val (.int (2 : Int32)), .val (.ref b36), .val (.ref b46), .val (.int (p5 &&& (3 : Int32))), .val (.int ((((p5.toUInt32 >>> ((2 : Int32) &&& 31).toUInt32).toInt32) &&& (3 : Int32)) - (1 : Int32))), .val (.int cc), .val (.int (1 : Int32))] [(.int cc), (.ref b46)]))
        obtain ⟨cq52, kq52, q52a, q52b, q52c⟩ := isOf hZ eJ51 f48_0
        obtain ⟨_, _, ⟨T52, L52, k52, n52⟩, -, X52, ⟨Lc52, hQ52, l52, y52, z52⟩, st52⟩ := XJ51.virtualBack hx (y := (⟨"com/example/vedette/vedette/io/Utf8Buffer$Stops", "isStop", "(I)Z"⟩ : MethodName)) (z := (⟨"com/example/vedette/vedette/io/Utf8Buffer$Stops", "isStop", "(I)Z"⟩ : MethodName)) hown (mvT hZ (hw _ (List.mem_of_getElem? (i := 79) rfl))) (mvT hZ (hw _ (List.mem_of_getElem? (i := 80) rfl))) (notFace_of_selects (args := #[]) (mvT hZ (hw _ (List.mem_of_getElem? (i := 82) rfl)))) (mvT hZ (hw _ (List.mem_of_getElem? (i := 82) rfl))) (mvT hZ (hw _ (List.mem_of_getElem? (i := 81) rfl))) (by decide) (backOf (W := 0) (rm16 l Z a0 hw [] b46 cc t48 kt48 z48 wf48 T48.heap n0 (Nat.le_trans Z0 K49.1) f48_1 f48_2 hcc) hZ (hw _ (List.mem_of_getElem? (i := 83) rfl)) (hw _ (List.mem_of_getElem? (i := 32) rfl)) (by decide) (by decide)) q52a q52c (g := (mkF m 276 #[.val (.int p0), .val (.int p1), .val (.int p2), .val (.int p3), .val (.int p4), .val (.int p5), .val (.int ((p0 &&& (255 : Int32)).toUInt32.toUInt16.toUInt32.toInt32)), .val (.int ((p1 &&& (255 : Int32)).toUInt32.toUInt16.toUInt32.toInt32)), .val (.int ((p2 &&& (255 : Int32)).toUInt32.toUInt16.toUInt32.toInt32)), .val (.int (2 : Int32)), .val (.ref b36), .val (.ref b46), .val (.int (p5 &&& (3 : Int32))), .val (.int ((((p5.toUInt32 >>> ((2 : Int32) &&& 31).toUInt32).toInt32) &&& (3 : Int32)) - (1 : Int32))), .val (.int cc), .val (.int (1 : Int32))] [(.int cc), (.ref b46)])) rfl (by rw [hml]; rfl) (Steps.refl _) (argsL := [(.int cc)]) (rest := []) (lenOf pd_11 rfl) rfl (by show 2 * 0 + _ ≤ _; exact Nat.le_of_eq rfl) (hb hby at_276) (fun _ _ => ⟨rfl, eJ51, (by decide : 6 + 0 ≤ _), (by decide : 522 + 0 ≤ _)⟩)
        dsimp only [Pt.U, Pt.locs, Pt.cells, Pt.slots] at X52 l52 y52 z52 st52 hQ52
        subst l52 y52 z52
        obtain ⟨rfl, Nq52, eq52⟩ := hQ52
        have N52 := Fr.app NJ51 Nq52
        refine Runs.by (fun _ hr => st52.trans hr) ?_
        have hv : own_is z48 wf48 cc = (1 : Int32) := (hs48 cc hcc).trans (by simp only [own_nc, if_pos hc236])
        rw [hv]
        show Runs p e below _ (T52.setTop (mkF m 279 #[.val (.int p0), .val (.int p1), .val (.int p2), .val (.int p3), .val (.int p4), .val (.int p5), .val (.int ((p0 &&& (255 : Int32)).toUInt32.toUInt16.toUInt32.toInt32)), .val (.int ((p1 &&& (255 : Int32)).toUInt32.toUInt16.toUInt32.toInt32)), .val (.int ((p2 &&& (255 : Int32)).toUInt32.toUInt16.toUInt32.toInt32)), .val (.int (2 : Int32)), .val (.ref b36), .val (.ref b46), .val (.int (p5 &&& (3 : Int32))), .val (.int ((((p5.toUInt32 >>> ((2 : Int32) &&& 31).toUInt32).toInt32) &&& (3 : Int32)) - (1 : Int32))), .val (.int cc), .val (.int (1 : Int32))] [(.int (1 : Int32))]))
        refine Runs.by (fun _ hr => XS.iload X52.here hx rfl (hb hby at_279) rfl  hr) ?_
        show Runs p e below _ (T52.setTop (mkF m 281 #[.val (.int p0), .val (.int p1), .val (.int p2), .val (.int p3), .val (.int p4), .val (.int p5), .val (.int ((p0 &&& (255 : Int32)).toUInt32.toUInt16.toUInt32.toInt32)), .val (.int ((p1 &&& (255 : Int32)).toUInt32.toUInt16.toUInt32.toInt32)), .val (.int ((p2 &&& (255 : Int32)).toUInt32.toUInt16.toUInt32.toInt32)), .val (.int (2 : Int32)), .val (.ref b36), .val (.ref b46), .val (.int (p5 &&& (3 : Int32))), .val (.int ((((p5.toUInt32 >>> ((2 : Int32) &&& 31).toUInt32).toInt32) &&& (3 : Int32)) - (1 : Int32))), .val (.int cc), .val (.int (1 : Int32))] [(.int (1 : Int32)), (.int (1 : Int32))]))
        have hc281 : (1 : Int32) = (1 : Int32) := (by decide)
        refine Runs.by (fun _ hr => XS.icmpNo X52.here hx rfl (hb hby at_281) rfl (teq hc281).2 hr) ?_
        show Runs p e below _ (T52.setTop (mkF m 284 #[.val (.int p0), .val (.int p1), .val (.int p2), .val (.int p3), .val (.int p4), .val (.int p5), .val (.int ((p0 &&& (255 : Int32)).toUInt32.toUInt16.toUInt32.toInt32)), .val (.int ((p1 &&& (255 : Int32)).toUInt32.toUInt16.toUInt32.toInt32)), .val (.int ((p2 &&& (255 : Int32)).toUInt32.toUInt16.toUInt32.toInt32)), .val (.int (2 : Int32)), .val (.ref b36), .val (.ref b46), .val (.int (p5 &&& (3 : Int32))), .val (.int ((((p5.toUInt32 >>> ((2 : Int32) &&& 31).toUInt32).toInt32) &&& (3 : Int32)) - (1 : Int32))), .val (.int cc), .val (.int (1 : Int32))] []))
        refine Runs.by (fun _ hr => XS.iconst X52.here hx rfl (hb hby at_284) hr) ?_
        show Runs p e below _ (T52.setTop (mkF m 285 #[.val (.int p0), .val (.int p1), .val (.int p2), .val (.int p3), .val (.int p4), .val (.int p5), .val (.int ((p0 &&& (255 : Int32)).toUInt32.toUInt16.toUInt32.toInt32)), .val (.int ((p1 &&& (255 : Int32)).toUInt32.toUInt16.toUInt32.toInt32)), .val (.int ((p2 &&& (255 : Int32)).toUInt32.toUInt16.toUInt32.toInt32)), .val (.int (2 : Int32)), .val (.ref b36), .val (.ref b46), .val (.int (p5 &&& (3 : Int32))), .val (.int ((((p5.toUInt32 >>> ((2 : Int32) &&& 31).toUInt32).toInt32) &&& (3 : Int32)) - (1 : Int32))), .val (.int cc), .val (.int (1 : Int32))] [(.int (1 : Int32))]))
        refine Runs.by (fun _ hr => XS.goto X52.here hx rfl (pc0 := 285) (pc' := 289) rfl (hb hby at_285) (by decide) (by decide) hr) ?_
        show Runs p e below _ (T52.setTop (mkF m 289 #[.val (.int p0), .val (.int p1), .val (.int p2), .val (.int p3), .val (.int p4), .val (.int p5), .val (.int ((p0 &&& (255 : Int32)).toUInt32.toUInt16.toUInt32.toInt32)), .val (.int ((p1 &&& (255 : Int32)).toUInt32.toUInt16.toUInt32.toInt32)), .val (.int ((p2 &&& (255 : Int32)).toUInt32.toUInt16.toUInt32.toInt32)), .val (.int (2 : Int32)), .val (.ref b36), .val (.ref b46), .val (.int (p5 &&& (3 : Int32))), .val (.int ((((p5.toUInt32 >>> ((2 : Int32) &&& 31).toUInt32).toInt32) &&& (3 : Int32)) - (1 : Int32))), .val (.int cc), .val (.int (1 : Int32))] [(.int (1 : Int32))]))
        refine Runs.retW X52 hx hrt hlk eq52 hS hk hZ hEL hC (Or.inl ⟨rfl, by simp, _, rfl⟩) (by rfl) (hb hby at_289) (by decide) (by decide) ?_
        exact ⟨rfl, N52⟩
      · -- pc 236: not cc = ((p0 &&& (255 : Int32)).toUInt32.toUInt16.toUInt32.toInt32)
        refine Runs.by (fun _ hr => XS.icmpNo XJ51.here hx rfl (hb hby at_236) rfl (feq hc236).1 hr) ?_
        show Runs p e below _ (TJ51.setTop (mkF m 239 #[.val (.int p0), .val (.int p1), .val (.int p2), .val (.int p3), .val (.int p4), .val (.int p5), .val (.int ((p0 &&& (255 : Int32)).toUInt32.toUInt16.toUInt32.toInt32)), .val (.int ((p1 &&& (255 : Int32)).toUInt32.toUInt16.toUInt32.toInt32)), .val (.int ((p2 &&& (255 : Int32)).toUInt32.toUInt16.toUInt32.toInt32)), .val (.int (2 : Int32)), .val (.ref b36), .val (.ref b46), .val (.int (p5 &&& (3 : Int32))), .val (.int ((((p5.toUInt32 >>> ((2 : Int32) &&& 31).toUInt32).toInt32) &&& (3 : Int32)) - (1 : Int32))), .val (.int cc), .unset] []))
        refine Runs.by (fun _ hr => XS.iload XJ51.here hx rfl (hb hby at_239) rfl  hr) ?_
        show Runs p e below _ (TJ51.setTop (mkF m 241 #[.val (.int p0), .val (.int p1), .val (.int p2), .val (.int p3), .val (.int p4), .val (.int p5), .val (.int ((p0 &&& (255 : Int32)).toUInt32.toUInt16.toUInt32.toInt32)), .val (.int ((p1 &&& (255 : Int32)).toUInt32.toUInt16.toUInt32.toInt32)), .val (.int ((p2 &&& (255 : Int32)).toUInt32.toUInt16.toUInt32.toInt32)), .val (.int (2 : Int32)), .val (.ref b36), .val (.ref b46), .val (.int (p5 &&& (3 : Int32))), .val (.int ((((p5.toUInt32 >>> ((2 : Int32) &&& 31).toUInt32).toInt32) &&& (3 : Int32)) - (1 : Int32))), .val (.int cc), .unset] [(.int (2 : Int32))]))
        refine Runs.by (fun _ hr => XS.iconst XJ51.here hx rfl (hb hby at_241) hr) ?_
        show Runs p e below _ (TJ51.setTop (mkF m 242 #[.val (.int p0), .val (.int p1), .val (.int p2), .val (.int p3), .val (.int p4), .val (.int p5), .val (.int ((p0 &&& (255 : Int32)).toUInt32.toUInt16.toUInt32.toInt32)), .val (.int ((p1 &&& (255 : Int32)).toUInt32.toUInt16.toUInt32.toInt32)), .val (.int ((p2 &&& (255 : Int32)).toUInt32.toUInt16.toUInt32.toInt32)), .val (.int (2 : Int32)), .val (.ref b36), .val (.ref b46), .val (.int (p5 &&& (3 : Int32))), .val (.int ((((p5.toUInt32 >>> ((2 : Int32) &&& 31).toUInt32).toInt32) &&& (3 : Int32)) - (1 : Int32))), .val (.int cc), .unset] [(.int (2 : Int32)), (.int (2 : Int32))]))
        have hc242 : ¬ ((2 : Int32) < (2 : Int32)) := (by decide)
        refine Runs.by (fun _ hr => XS.icmpNo XJ51.here hx rfl (hb hby at_242) rfl (flt hc242).1 hr) ?_
        show Runs p e below _ (TJ51.setTop (mkF m 245 #[.val (.int p0), .val (.int p1), .val (.int p2), .val (.int p3), .val (.int p4), .val (.int p5), .val (.int ((p0 &&& (255 : Int32)).toUInt32.toUInt16.toUInt32.toInt32)), .val (.int ((p1 &&& (255 : Int32)).toUInt32.toUInt16.toUInt32.toInt32)), .val (.int ((p2 &&& (255 : Int32)).toUInt32.toUInt16.toUInt32.toInt32)), .val (.int (2 : Int32)), .val (.ref b36), .val (.ref b46), .val (.int (p5 &&& (3 : Int32))), .val (.int ((((p5.toUInt32 >>> ((2 : Int32) &&& 31).toUInt32).toInt32) &&& (3 : Int32)) - (1 : Int32))), .val (.int cc), .unset] []))
        refine Runs.by (fun _ hr => XS.iload XJ51.here hx rfl (hb hby at_245) rfl  hr) ?_
        show Runs p e below _ (TJ51.setTop (mkF m 247 #[.val (.int p0), .val (.int p1), .val (.int p2), .val (.int p3), .val (.int p4), .val (.int p5), .val (.int ((p0 &&& (255 : Int32)).toUInt32.toUInt16.toUInt32.toInt32)), .val (.int ((p1 &&& (255 : Int32)).toUInt32.toUInt16.toUInt32.toInt32)), .val (.int ((p2 &&& (255 : Int32)).toUInt32.toUInt16.toUInt32.toInt32)), .val (.int (2 : Int32)), .val (.ref b36), .val (.ref b46), .val (.int (p5 &&& (3 : Int32))), .val (.int ((((p5.toUInt32 >>> ((2 : Int32) &&& 31).toUInt32).toInt32) &&& (3 : Int32)) - (1 : Int32))), .val (.int cc), .unset] [(.int cc)]))
        refine Runs.by (fun _ hr => XS.iload XJ51.here hx rfl (hb hby at_247) rfl  hr) ?_
        show Runs p e below _ (TJ51.setTop (mkF m 249 #[.val (.int p0), .val (.int p1), .val (.int p2), .val (.int p3), .val (.int p4), .val (.int p5), .val (.int ((p0 &&& (255 : Int32)).toUInt32.toUInt16.toUInt32.toInt32)), .val (.int ((p1 &&& (255 : Int32)).toUInt32.toUInt16.toUInt32.toInt32)), .val (.int ((p2 &&& (255 : Int32)).toUInt32.toUInt16.toUInt32.toInt32)), .val (.int (2 : Int32)), .val (.ref b36), .val (.ref b46), .val (.int (p5 &&& (3 : Int32))), .val (.int ((((p5.toUInt32 >>> ((2 : Int32) &&& 31).toUInt32).toInt32) &&& (3 : Int32)) - (1 : Int32))), .val (.int cc), .unset] [(.int ((p1 &&& (255 : Int32)).toUInt32.toUInt16.toUInt32.toInt32)), (.int cc)]))
        by_cases hc249 : cc = ((p1 &&& (255 : Int32)).toUInt32.toUInt16.toUInt32.toInt32)
        · -- pc 249: cc = ((p1 &&& (255 : Int32)).toUInt32.toUInt16.toUInt32.toInt32)
          refine Runs.by (fun _ hr => XS.icmpYes XJ51.here hx rfl (pc0 := 249) (pc' := 265) rfl (hb hby at_249) rfl (teq hc249).1 (by decide) (by decide) hr) ?_
          show Runs p e below _ (TJ51.setTop (mkF m 265 #[.val (.int p0), .val (.int p1), .val (.int p2), .val (.int p3), .val (.int p4), .val (.int p5), .val (.int ((p0 &&& (255 : Int32)).toUInt32.toUInt16.toUInt32.toInt32)), .val (.int ((p1 &&& (255 : Int32)).toUInt32.toUInt16.toUInt32.toInt32)), .val (.int ((p2 &&& (255 : Int32)).toUInt32.toUInt16.toUInt32.toInt32)), .val (.int (2 : Int32)), .val (.ref b36), .val (.ref b46), .val (.int (p5 &&& (3 : Int32))), .val (.int ((((p5.toUInt32 >>> ((2 : Int32) &&& 31).toUInt32).toInt32) &&& (3 : Int32)) - (1 : Int32))), .val (.int cc), .unset] []))
          refine Runs.by (fun _ hr => XS.iconst XJ51.here hx rfl (hb hby at_265) hr) ?_
          show Runs p e below _ (TJ51.setTop (mkF m 266 #[.val (.int p0), .val (.int p1), .val (.int p2), .val (.int p3), .val (.int p4), .val (.int p5), .val (.int ((p0 &&& (255 : Int32)).toUInt32.toUInt16.toUInt32.toInt32)), .val (.int ((p1 &&& (255 : Int32)).toUInt32.toUInt16.toUInt32.toInt32)), .val (.int ((p2 &&& (255 : Int32)).toUInt32.toUInt16.toUInt32.toInt32)), .val (.int (2 : Int32)), .val (.ref b36), .val (.ref b46), .val (.int (p5 &&& (3 : Int32))), .val (.int ((((p5.toUInt32 >>> ((2 : Int32) &&& 31).toUInt32).toInt32) &&& (3 : Int32)) - (1 : Int32))), .val (.int cc), .unset] [(.int (1 : Int32))]))
          refine Runs.by (fun _ hr => XS.goto XJ51.here hx rfl (pc0 := 266) (pc' := 270) rfl (hb hby at_266) (by decide) (by decide) hr) ?_
          show Runs p e below _ (TJ51.setTop (mkF m 270 #[.val (.int p0), .val (.int p1), .val (.int p2), .val (.int p3), .val (.int p4), .val (.int p5), .val (.int ((p0 &&& (255 : Int32)).toUInt32.toUInt16.toUInt32.toInt32)), .val (.int ((p1 &&& (255 : Int32)).toUInt32.toUInt16.toUInt32.toInt32)), .val (.int ((p2 &&& (255 : Int32)).toUInt32.toUInt16.toUInt32.toInt32)), .val (.int (2 : Int32)), .val (.ref b36), .val (.ref b46), .val (.int (p5 &&& (3 : Int32))), .val (.int ((((p5.toUInt32 >>> ((2 : Int32) &&& 31).toUInt32).toInt32) &&& (3 : Int32)) - (1 : Int32))), .val (.int cc), .unset] [(.int (1 : Int32))]))
          refine Runs.by (fun _ hr => XS.istore XJ51.here hx rfl (hb hby at_270) rfl (l' := #[.val (.int p0), .val (.int p1), .val (.int p2), .val (.int p3), .val (.int p4), .val (.int p5), .val (.int ((p0 &&& (255 : Int32)).toUInt32.toUInt16.toUInt32.toInt32)), .val (.int ((p1 &&& (255 : Int32)).toUInt32.toUInt16.toUInt32.toInt32)), .val (.int ((p2 &&& (255 : Int32)).toUInt32.toUInt16.toUInt32.toInt32)), .val (.int (2 : Int32)), .val (.ref b36), .val (.ref b46), .val (.int (p5 &&& (3 : Int32))), .val (.int ((((p5.toUInt32 >>> ((2 : Int32) &&& 31).toUInt32).toInt32) &&& (3 : Int32)) - (1 : Int32))), .val (.int cc), .val (.int (1 : Int32))]) rfl hr) ?_
          show Runs p e below _ (TJ51.setTop (mkF m 272 #[.val (.int p0), .val (.int p1), .val (.int p2), .val (.int p3), .val (.int p4), .val (.int p5), .val (.int ((p0 &&& (255 : Int32)).toUInt32.toUInt16.toUInt32.toInt32)), .val (.int ((p1 &&& (255 : Int32)).toUInt32.toUInt16.toUInt32.toInt32)), .val (.int ((p2 &&& (255 : Int32)).toUInt32.toUInt16.toUInt32.toInt32)), .val (.int (2 : Int32)), .val (.ref b36), .val (.ref b46), .val (.int (p5 &&& (3 : Int32))), .val (.int ((((p5.toUInt32 >>> ((2 : Int32) &&& 31).toUInt32).toInt32) &&& (3 : Int32)) - (1 : Int32))), .val (.int cc), .val (.int (1 : Int32))] []))
          refine Runs.by (fun _ hr => XS.aload XJ51.here hx rfl (hb hby at_272) rfl rfl hr) ?_
          show Runs p e below _ (TJ51.setTop (mkF m 274 #[.val (.int p0), .val (.int p1), .val (.int p2), .val (.int p3), .val (.int p4), .val (.int p5), .val (.int ((p0 &&& (255 : Int32)).toUInt32.toUInt16.toUInt32.toInt32)), .val (.int ((p1 &&& (255 : Int32)).toUInt32.toUInt16.toUInt32.toInt32)), .val (.int ((p2 &&& (255 : Int32)).toUInt32.toUInt16.toUInt32.toInt32)), .val (.int (2 : Int32)), .val (.ref b36), .val (.ref b46), .val (.int (p5 &&& (3 : Int32))), .val (.int ((((p5.toUInt32 >>> ((2 : Int32) &&& 31).toUInt32).toInt32) &&& (3 : Int32)) - (1 : Int32))), .val (.int cc), .val (.int (1 : Int32))] [(.ref b46)]))
          refine Runs.by (fun _ hr => XS.iload XJ51.here hx rfl (hb hby at_274) rfl  hr) ?_
          show Runs p e below _ (TJ51.setTop (mkF m 276 #[.val (.int p0), .val (.int p1), .val (.int p2), .val (.int p3), .val (.int p4), .val (.int p5), .val (.int ((p0 &&& (255 : Int32)).toUInt32.toUInt16.toUInt32.toInt32)), .val (.int ((p1 &&& (255 : Int32)).toUInt32.toUInt16.toUInt32.toInt32)), .val (.int ((p2 &&& (255 : Int32)).toUInt32.toUInt16.toUInt32.toInt32)), .val (.int (2 : Int32)), .val (.ref b36), .val (.ref b46), .val (.int (p5 &&& (3 : Int32))), .val (.int ((((p5.toUInt32 >>> ((2 : Int32) &&& 31).toUInt32).toInt32) &&& (3 : Int32)) - (1 : Int32))), .val (.int cc), .val (.int (1 : Int32))] [(.int cc), (.ref b46)]))
          obtain ⟨cq53, kq53, q53a, q53b, q53c⟩ := isOf hZ eJ51 f48_0
          obtain ⟨_, _, ⟨T53, L53, k53, n53⟩, -, X53, ⟨Lc53, hQ53, l53, y53, z53⟩, st53⟩ := XJ51.virtualBack hx (y := (⟨"com/example/vedette/vedette/io/Utf8Buffer$Stops", "isStop", "(I)Z"⟩ : MethodName)) (z := (⟨"com/example/vedette/vedette/io/Utf8Buffer$Stops", "isStop", "(I)Z"⟩ : MethodName)) hown (mvT hZ (hw _ (List.mem_of_getElem? (i := 79) rfl))) (mvT hZ (hw _ (List.mem_of_getElem? (i := 80) rfl))) (notFace_of_selects (args := #[]) (mvT hZ (hw _ (List.mem_of_getElem? (i := 82) rfl)))) (mvT hZ (hw _ (List.mem_of_getElem? (i := 82) rfl))) (mvT hZ (hw _ (List.mem_of_getElem? (i := 81) rfl))) (by decide) (backOf (W := 0) (rm16 l Z a0 hw [] b46 cc t48 kt48 z48 wf48 T48.heap n0 (Nat.le_trans Z0 K49.1) f48_1 f48_2 hcc) hZ (hw _ (List.mem_of_getElem? (i := 83) rfl)) (hw _ (List.mem_of_getElem? (i := 32) rfl)) (by decide) (by decide)) q53a q53c (g := (mkF m 276 #[.val (.int p0), .val (.int p1), .val (.int p2), .val (.int p3), .val (.int p4), .val (.int p5), .val (.int ((p0 &&& (255 : Int32)).toUInt32.toUInt16.toUInt32.toInt32)), .val (.int ((p1 &&& (255 : Int32)).toUInt32.toUInt16.toUInt32.toInt32)), .val (.int ((p2 &&& (255 : Int32)).toUInt32.toUInt16.toUInt32.toInt32)), .val (.int (2 : Int32)), .val (.ref b36), .val (.ref b46), .val (.int (p5 &&& (3 : Int32))), .val (.int ((((p5.toUInt32 >>> ((2 : Int32) &&& 31).toUInt32).toInt32) &&& (3 : Int32)) - (1 : Int32))), .val (.int cc), .val (.int (1 : Int32))] [(.int cc), (.ref b46)])) rfl (by rw [hml]; rfl) (Steps.refl _) (argsL := [(.int cc)]) (rest := []) (lenOf pd_11 rfl) rfl (by show 2 * 0 + _ ≤ _; exact Nat.le_of_eq rfl) (hb hby at_276) (fun _ _ => ⟨rfl, eJ51, (by decide : 6 + 0 ≤ _), (by decide : 522 + 0 ≤ _)⟩)
          dsimp only [Pt.U, Pt.locs, Pt.cells, Pt.slots] at X53 l53 y53 z53 st53 hQ53
          subst l53 y53 z53
          obtain ⟨rfl, Nq53, eq53⟩ := hQ53
          have N53 := Fr.app NJ51 Nq53
          refine Runs.by (fun _ hr => st53.trans hr) ?_
          have hv : own_is z48 wf48 cc = (1 : Int32) := (hs48 cc hcc).trans (by simp only [own_nc, if_neg hc236, if_pos hc249])
          rw [hv]
          show Runs p e below _ (T53.setTop (mkF m 279 #[.val (.int p0), .val (.int p1), .val (.int p2), .val (.int p3), .val (.int p4), .val (.int p5), .val (.int ((p0 &&& (255 : Int32)).toUInt32.toUInt16.toUInt32.toInt32)), .val (.int ((p1 &&& (255 : Int32)).toUInt32.toUInt16.toUInt32.toInt32)), .val (.int ((p2 &&& (255 : Int32)).toUInt32.toUInt16.toUInt32.toInt32)), .val (.int (2 : Int32)), .val (.ref b36), .val (.ref b46), .val (.int (p5 &&& (3 : Int32))), .val (.int ((((p5.toUInt32 >>> ((2 : Int32) &&& 31).toUInt32).toInt32) &&& (3 : Int32)) - (1 : Int32))), .val (.int cc), .val (.int (1 : Int32))] [(.int (1 : Int32))]))
          refine Runs.by (fun _ hr => XS.iload X53.here hx rfl (hb hby at_279) rfl  hr) ?_
          show Runs p e below _ (T53.setTop (mkF m 281 #[.val (.int p0), .val (.int p1), .val (.int p2), .val (.int p3), .val (.int p4), .val (.int p5), .val (.int ((p0 &&& (255 : Int32)).toUInt32.toUInt16.toUInt32.toInt32)), .val (.int ((p1 &&& (255 : Int32)).toUInt32.toUInt16.toUInt32.toInt32)), .val (.int ((p2 &&& (255 : Int32)).toUInt32.toUInt16.toUInt32.toInt32)), .val (.int (2 : Int32)), .val (.ref b36), .val (.ref b46), .val (.int (p5 &&& (3 : Int32))), .val (.int ((((p5.toUInt32 >>> ((2 : Int32) &&& 31).toUInt32).toInt32) &&& (3 : Int32)) - (1 : Int32))), .val (.int cc), .val (.int (1 : Int32))] [(.int (1 : Int32)), (.int (1 : Int32))]))
          have hc281 : (1 : Int32) = (1 : Int32) := (by decide)
          refine Runs.by (fun _ hr => XS.icmpNo X53.here hx rfl (hb hby at_281) rfl (teq hc281).2 hr) ?_
          show Runs p e below _ (T53.setTop (mkF m 284 #[.val (.int p0), .val (.int p1), .val (.int p2), .val (.int p3), .val (.int p4), .val (.int p5), .val (.int ((p0 &&& (255 : Int32)).toUInt32.toUInt16.toUInt32.toInt32)), .val (.int ((p1 &&& (255 : Int32)).toUInt32.toUInt16.toUInt32.toInt32)), .val (.int ((p2 &&& (255 : Int32)).toUInt32.toUInt16.toUInt32.toInt32)), .val (.int (2 : Int32)), .val (.ref b36), .val (.ref b46), .val (.int (p5 &&& (3 : Int32))), .val (.int ((((p5.toUInt32 >>> ((2 : Int32) &&& 31).toUInt32).toInt32) &&& (3 : Int32)) - (1 : Int32))), .val (.int cc), .val (.int (1 : Int32))] []))
          refine Runs.by (fun _ hr => XS.iconst X53.here hx rfl (hb hby at_284) hr) ?_
          show Runs p e below _ (T53.setTop (mkF m 285 #[.val (.int p0), .val (.int p1), .val (.int p2), .val (.int p3), .val (.int p4), .val (.int p5), .val (.int ((p0 &&& (255 : Int32)).toUInt32.toUInt16.toUInt32.toInt32)), .val (.int ((p1 &&& (255 : Int32)).toUInt32.toUInt16.toUInt32.toInt32)), .val (.int ((p2 &&& (255 : Int32)).toUInt32.toUInt16.toUInt32.toInt32)), .val (.int (2 : Int32)), .val (.ref b36), .val (.ref b46), .val (.int (p5 &&& (3 : Int32))), .val (.int ((((p5.toUInt32 >>> ((2 : Int32) &&& 31).toUInt32).toInt32) &&& (3 : Int32)) - (1 : Int32))), .val (.int cc), .val (.int (1 : Int32))] [(.int (1 : Int32))]))
          refine Runs.by (fun _ hr => XS.goto X53.here hx rfl (pc0 := 285) (pc' := 289) rfl (hb hby at_285) (by decide) (by decide) hr) ?_
          show Runs p e below _ (T53.setTop (mkF m 289 #[.val (.int p0), .val (.int p1), .val (.int p2), .val (.int p3), .val (.int p4), .val (.int p5), .val (.int ((p0 &&& (255 : Int32)).toUInt32.toUInt16.toUInt32.toInt32)), .val (.int ((p1 &&& (255 : Int32)).toUInt32.toUInt16.toUInt32.toInt32)), .val (.int ((p2 &&& (255 : Int32)).toUInt32.toUInt16.toUInt32.toInt32)), .val (.int (2 : Int32)), .val (.ref b36), .val (.ref b46), .val (.int (p5 &&& (3 : Int32))), .val (.int ((((p5.toUInt32 >>> ((2 : Int32) &&& 31).toUInt32).toInt32) &&& (3 : Int32)) - (1 : Int32))), .val (.int cc), .val (.int (1 : Int32))] [(.int (1 : Int32))]))
          refine Runs.retW X53 hx hrt hlk eq53 hS hk hZ hEL hC (Or.inl ⟨rfl, by simp, _, rfl⟩) (by rfl) (hb hby at_289) (by decide) (by decide) ?_
          exact ⟨rfl, N53⟩
        · -- pc 249: not cc = ((p1 &&& (255 : Int32)).toUInt32.toUInt16.toUInt32.toInt32)
          refine Runs.by (fun _ hr => XS.icmpNo XJ51.here hx rfl (hb hby at_249) rfl (feq hc249).1 hr) ?_
          show Runs p e below _ (TJ51.setTop (mkF m 252 #[.val (.int p0), .val (.int p1), .val (.int p2), .val (.int p3), .val (.int p4), .val (.int p5), .val (.int ((p0 &&& (255 : Int32)).toUInt32.toUInt16.toUInt32.toInt32)), .val (.int ((p1 &&& (255 : Int32)).toUInt32.toUInt16.toUInt32.toInt32)), .val (.int ((p2 &&& (255 : Int32)).toUInt32.toUInt16.toUInt32.toInt32)), .val (.int (2 : Int32)), .val (.ref b36), .val (.ref b46), .val (.int (p5 &&& (3 : Int32))), .val (.int ((((p5.toUInt32 >>> ((2 : Int32) &&& 31).toUInt32).toInt32) &&& (3 : Int32)) - (1 : Int32))), .val (.int cc), .unset] []))
          refine Runs.by (fun _ hr => XS.iload XJ51.here hx rfl (hb hby at_252) rfl  hr) ?_
          show Runs p e below _ (TJ51.setTop (mkF m 254 #[.val (.int p0), .val (.int p1), .val (.int p2), .val (.int p3), .val (.int p4), .val (.int p5), .val (.int ((p0 &&& (255 : Int32)).toUInt32.toUInt16.toUInt32.toInt32)), .val (.int ((p1 &&& (255 : Int32)).toUInt32.toUInt16.toUInt32.toInt32)), .val (.int ((p2 &&& (255 : Int32)).toUInt32.toUInt16.toUInt32.toInt32)), .val (.int (2 : Int32)), .val (.ref b36), .val (.ref b46), .val (.int (p5 &&& (3 : Int32))), .val (.int ((((p5.toUInt32 >>> ((2 : Int32) &&& 31).toUInt32).toInt32) &&& (3 : Int32)) - (1 : Int32))), .val (.int cc), .unset] [(.int (2 : Int32))]))
          refine Runs.by (fun _ hr => XS.iconst XJ51.here hx rfl (hb hby at_254) hr) ?_
          show Runs p e below _ (TJ51.setTop (mkF m 255 #[.val (.int p0), .val (.int p1), .val (.int p2), .val (.int p3), .val (.int p4), .val (.int p5), .val (.int ((p0 &&& (255 : Int32)).toUInt32.toUInt16.toUInt32.toInt32)), .val (.int ((p1 &&& (255 : Int32)).toUInt32.toUInt16.toUInt32.toInt32)), .val (.int ((p2 &&& (255 : Int32)).toUInt32.toUInt16.toUInt32.toInt32)), .val (.int (2 : Int32)), .val (.ref b36), .val (.ref b46), .val (.int (p5 &&& (3 : Int32))), .val (.int ((((p5.toUInt32 >>> ((2 : Int32) &&& 31).toUInt32).toInt32) &&& (3 : Int32)) - (1 : Int32))), .val (.int cc), .unset] [(.int (3 : Int32)), (.int (2 : Int32))]))
          have hc255 : (2 : Int32) < (3 : Int32) := (by decide)
          refine Runs.by (fun _ hr => XS.icmpYes XJ51.here hx rfl (pc0 := 255) (pc' := 269) rfl (hb hby at_255) rfl (tlt hc255).1 (by decide) (by decide) hr) ?_
          show Runs p e below _ (TJ51.setTop (mkF m 269 #[.val (.int p0), .val (.int p1), .val (.int p2), .val (.int p3), .val (.int p4), .val (.int p5), .val (.int ((p0 &&& (255 : Int32)).toUInt32.toUInt16.toUInt32.toInt32)), .val (.int ((p1 &&& (255 : Int32)).toUInt32.toUInt16.toUInt32.toInt32)), .val (.int ((p2 &&& (255 : Int32)).toUInt32.toUInt16.toUInt32.toInt32)), .val (.int (2 : Int32)), .val (.ref b36), .val (.ref b46), .val (.int (p5 &&& (3 : Int32))), .val (.int ((((p5.toUInt32 >>> ((2 : Int32) &&& 31).toUInt32).toInt32) &&& (3 : Int32)) - (1 : Int32))), .val (.int cc), .unset] []))
          refine Runs.by (fun _ hr => XS.iconst XJ51.here hx rfl (hb hby at_269) hr) ?_
          show Runs p e below _ (TJ51.setTop (mkF m 270 #[.val (.int p0), .val (.int p1), .val (.int p2), .val (.int p3), .val (.int p4), .val (.int p5), .val (.int ((p0 &&& (255 : Int32)).toUInt32.toUInt16.toUInt32.toInt32)), .val (.int ((p1 &&& (255 : Int32)).toUInt32.toUInt16.toUInt32.toInt32)), .val (.int ((p2 &&& (255 : Int32)).toUInt32.toUInt16.toUInt32.toInt32)), .val (.int (2 : Int32)), .val (.ref b36), .val (.ref b46), .val (.int (p5 &&& (3 : Int32))), .val (.int ((((p5.toUInt32 >>> ((2 : Int32) &&& 31).toUInt32).toInt32) &&& (3 : Int32)) - (1 : Int32))), .val (.int cc), .unset] [(.int (0 : Int32))]))
          refine Runs.by (fun _ hr => XS.istore XJ51.here hx rfl (hb hby at_270) rfl (l' := #[.val (.int p0), .val (.int p1), .val (.int p2), .val (.int p3), .val (.int p4), .val (.int p5), .val (.int ((p0 &&& (255 : Int32)).toUInt32.toUInt16.toUInt32.toInt32)), .val (.int ((p1 &&& (255 : Int32)).toUInt32.toUInt16.toUInt32.toInt32)), .val (.int ((p2 &&& (255 : Int32)).toUInt32.toUInt16.toUInt32.toInt32)), .val (.int (2 : Int32)), .val (.ref b36), .val (.ref b46), .val (.int (p5 &&& (3 : Int32))), .val (.int ((((p5.toUInt32 >>> ((2 : Int32) &&& 31).toUInt32).toInt32) &&& (3 : Int32)) - (1 : Int32))), .val (.int cc), .val (.int (0 : Int32))]) rfl hr) ?_
          show Runs p e below _ (TJ51.setTop (mkF m 272 #[.val (.int p0), .val (.int p1), .val (.int p2), .val (.int p3), .val (.int p4), .val (.int p5), .val (.int ((p0 &&& (255 : Int32)).toUInt32.toUInt16.toUInt32.toInt32)), .val (.int ((p1 &&& (255 : Int32)).toUInt32.toUInt16.toUInt32.toInt32)), .val (.int ((p2 &&& (255 : Int32)).toUInt32.toUInt16.toUInt32.toInt32)), .val (.int (2 : Int32)), .val (.ref b36), .val (.ref b46), .val (.int (p5 &&& (3 : Int32))), .val (.int ((((p5.toUInt32 >>> ((2 : Int32) &&& 31).toUInt32).toInt32) &&& (3 : Int32)) - (1 : Int32))), .val (.int cc), .val (.int (0 : Int32))] []))
          refine Runs.by (fun _ hr => XS.aload XJ51.here hx rfl (hb hby at_272) rfl rfl hr) ?_
          show Runs p e below _ (TJ51.setTop (mkF m 274 #[.val (.int p0), .val (.int p1), .val (.int p2), .val (.int p3), .val (.int p4), .val (.int p5), .val (.int ((p0 &&& (255 : Int32)).toUInt32.toUInt16.toUInt32.toInt32)), .val (.int ((p1 &&& (255 : Int32)).toUInt32.toUInt16.toUInt32.toInt32)), .val (.int ((p2 &&& (255 : Int32)).toUInt32.toUInt16.toUInt32.toInt32)), .val (.int (2 : Int32)), .val (.ref b36), .val (.ref b46), .val (.int (p5 &&& (3 : Int32))), .val (.int ((((p5.toUInt32 >>> ((2 : Int32) &&& 31).toUInt32).toInt32) &&& (3 : Int32)) - (1 : Int32))), .val (.int cc), .val (.int (0 : Int32))] [(.ref b46)]))
          refine Runs.by (fun _ hr => XS.iload XJ51.here hx rfl (hb hby at_274) rfl  hr) ?_
          show Runs p e below _ (TJ51.setTop (mkF m 276 #[.val (.int p0), .val (.int p1), .val (.int p2), .val (.int p3), .val (.int p4), .val (.int p5), .val (.int ((p0 &&& (255 : Int32)).toUInt32.toUInt16.toUInt32.toInt32)), .val (.int ((p1 &&& (255 : Int32)).toUInt32.toUInt16.toUInt32.toInt32)), .val (.int ((p2 &&& (255 : Int32)).toUInt32.toUInt16.toUInt32.toInt32)), .val (.int (2 : Int32)), .val (.ref b36), .val (.ref b46), .val (.int (p5 &&& (3 : Int32))), .val (.int ((((p5.toUInt32 >>> ((2 : Int32) &&& 31).toUInt32).toInt32) &&& (3 : Int32)) - (1 : Int32))), .val (.int cc), .val (.int (0 : Int32))] [(.int cc), (.ref b46)]))
          obtain ⟨cq54, kq54, q54a, q54b, q54c⟩ := isOf hZ eJ51 f48_0
          obtain ⟨_, _, ⟨T54, L54, k54, n54⟩, -, X54, ⟨Lc54, hQ54, l54, y54, z54⟩, st54⟩ := XJ51.virtualBack hx (y := (⟨"com/example/vedette/vedette/io/Utf8Buffer$Stops", "isStop", "(I)Z"⟩ : MethodName)) (z := (⟨"com/example/vedette/vedette/io/Utf8Buffer$Stops", "isStop", "(I)Z"⟩ : MethodName)) hown (mvT hZ (hw _ (List.mem_of_getElem? (i := 79) rfl))) (mvT hZ (hw _ (List.mem_of_getElem? (i := 80) rfl))) (notFace_of_selects (args := #[]) (mvT hZ (hw _ (List.mem_of_getElem? (i := 82) rfl)))) (mvT hZ (hw _ (List.mem_of_getElem? (i := 82) rfl))) (mvT hZ (hw _ (List.mem_of_getElem? (i := 81) rfl))) (by decide) (backOf (W := 0) (rm16 l Z a0 hw [] b46 cc t48 kt48 z48 wf48 T48.heap n0 (Nat.le_trans Z0 K49.1) f48_1 f48_2 hcc) hZ (hw _ (List.mem_of_getElem? (i := 83) rfl)) (hw _ (List.mem_of_getElem? (i := 32) rfl)) (by decide) (by decide)) q54a q54c (g := (mkF m 276 #[.val (.int p0), .val (.int p1), .val (.int p2), .val (.int p3), .val (.int p4), .val (.int p5), .val (.int ((p0 &&& (255 : Int32)).toUInt32.toUInt16.toUInt32.toInt32)), .val (.int ((p1 &&& (255 : Int32)).toUInt32.toUInt16.toUInt32.toInt32)), .val (.int ((p2 &&& (255 : Int32)).toUInt32.toUInt16.toUInt32.toInt32)), .val (.int (2 : Int32)), .val (.ref b36), .val (.ref b46), .val (.int (p5 &&& (3 : Int32))), .val (.int ((((p5.toUInt32 >>> ((2 : Int32) &&& 31).toUInt32).toInt32) &&& (3 : Int32)) - (1 : Int32))), .val (.int cc), .val (.int (0 : Int32))] [(.int cc), (.ref b46)])) rfl (by rw [hml]; rfl) (Steps.refl _) (argsL := [(.int cc)]) (rest := []) (lenOf pd_11 rfl) rfl (by show 2 * 0 + _ ≤ _; exact Nat.le_of_eq rfl) (hb hby at_276) (fun _ _ => ⟨rfl, eJ51, (by decide : 6 + 0 ≤ _), (by decide : 522 + 0 ≤ _)⟩)
          dsimp only [Pt.U, Pt.locs, Pt.cells, Pt.slots] at X54 l54 y54 z54 st54 hQ54
          subst l54 y54 z54
          obtain ⟨rfl, Nq54, eq54⟩ := hQ54
          have N54 := Fr.app NJ51 Nq54
          refine Runs.by (fun _ hr => st54.trans hr) ?_
          have hv : own_is z48 wf48 cc = (0 : Int32) := (hs48 cc hcc).trans (by simp only [own_nc, if_neg hc236, if_neg hc249])
          rw [hv]
          show Runs p e below _ (T54.setTop (mkF m 279 #[.val (.int p0), .val (.int p1), .val (.int p2), .val (.int p3), .val (.int p4), .val (.int p5), .val (.int ((p0 &&& (255 : Int32)).toUInt32.toUInt16.toUInt32.toInt32)), .val (.int ((p1 &&& (255 : Int32)).toUInt32.toUInt16.toUInt32.toInt32)), .val (.int ((p2 &&& (255 : Int32)).toUInt32.toUInt16.toUInt32.toInt32)), .val (.int (2 : Int32)), .val (.ref b36), .val (.ref b46), .val (.int (p5 &&& (3 : Int32))), .val (.int ((((p5.toUInt32 >>> ((2 : Int32) &&& 31).toUInt32).toInt32) &&& (3 : Int32)) - (1 : Int32))), .val (.int cc), .val (.int (0 : Int32))] [(.int (0 : Int32))]))
          refine Runs.by (fun _ hr => XS.iload X54.here hx rfl (hb hby at_279) rfl  hr) ?_
          show Runs p e below _ (T54.setTop (mkF m 281 #[.val (.int p0), .val (.int p1), .val (.int p2), .val (.int p3), .val (.int p4), .val (.int p5), .val (.int ((p0 &&& (255 : Int32)).toUInt32.toUInt16.toUInt32.toInt32)), .val (.int ((p1 &&& (255 : Int32)).toUInt32.toUInt16.toUInt32.toInt32)), .val (.int ((p2 &&& (255 : Int32)).toUInt32.toUInt16.toUInt32.toInt32)), .val (.int (2 : Int32)), .val (.ref b36), .val (.ref b46), .val (.int (p5 &&& (3 : Int32))), .val (.int ((((p5.toUInt32 >>> ((2 : Int32) &&& 31).toUInt32).toInt32) &&& (3 : Int32)) - (1 : Int32))), .val (.int cc), .val (.int (0 : Int32))] [(.int (0 : Int32)), (.int (0 : Int32))]))
          have hc281 : (0 : Int32) = (0 : Int32) := (by decide)
          refine Runs.by (fun _ hr => XS.icmpNo X54.here hx rfl (hb hby at_281) rfl (teq hc281).2 hr) ?_
          show Runs p e below _ (T54.setTop (mkF m 284 #[.val (.int p0), .val (.int p1), .val (.int p2), .val (.int p3), .val (.int p4), .val (.int p5), .val (.int ((p0 &&& (255 : Int32)).toUInt32.toUInt16.toUInt32.toInt32)), .val (.int ((p1 &&& (255 : Int32)).toUInt32.toUInt16.toUInt32.toInt32)), .val (.int ((p2 &&& (255 : Int32)).toUInt32.toUInt16.toUInt32.toInt32)), .val (.int (2 : Int32)), .val (.ref b36), .val (.ref b46), .val (.int (p5 &&& (3 : Int32))), .val (.int ((((p5.toUInt32 >>> ((2 : Int32) &&& 31).toUInt32).toInt32) &&& (3 : Int32)) - (1 : Int32))), .val (.int cc), .val (.int (0 : Int32))] []))
          refine Runs.by (fun _ hr => XS.iconst X54.here hx rfl (hb hby at_284) hr) ?_
          show Runs p e below _ (T54.setTop (mkF m 285 #[.val (.int p0), .val (.int p1), .val (.int p2), .val (.int p3), .val (.int p4), .val (.int p5), .val (.int ((p0 &&& (255 : Int32)).toUInt32.toUInt16.toUInt32.toInt32)), .val (.int ((p1 &&& (255 : Int32)).toUInt32.toUInt16.toUInt32.toInt32)), .val (.int ((p2 &&& (255 : Int32)).toUInt32.toUInt16.toUInt32.toInt32)), .val (.int (2 : Int32)), .val (.ref b36), .val (.ref b46), .val (.int (p5 &&& (3 : Int32))), .val (.int ((((p5.toUInt32 >>> ((2 : Int32) &&& 31).toUInt32).toInt32) &&& (3 : Int32)) - (1 : Int32))), .val (.int cc), .val (.int (0 : Int32))] [(.int (1 : Int32))]))
          refine Runs.by (fun _ hr => XS.goto X54.here hx rfl (pc0 := 285) (pc' := 289) rfl (hb hby at_285) (by decide) (by decide) hr) ?_
          show Runs p e below _ (T54.setTop (mkF m 289 #[.val (.int p0), .val (.int p1), .val (.int p2), .val (.int p3), .val (.int p4), .val (.int p5), .val (.int ((p0 &&& (255 : Int32)).toUInt32.toUInt16.toUInt32.toInt32)), .val (.int ((p1 &&& (255 : Int32)).toUInt32.toUInt16.toUInt32.toInt32)), .val (.int ((p2 &&& (255 : Int32)).toUInt32.toUInt16.toUInt32.toInt32)), .val (.int (2 : Int32)), .val (.ref b36), .val (.ref b46), .val (.int (p5 &&& (3 : Int32))), .val (.int ((((p5.toUInt32 >>> ((2 : Int32) &&& 31).toUInt32).toInt32) &&& (3 : Int32)) - (1 : Int32))), .val (.int cc), .val (.int (0 : Int32))] [(.int (1 : Int32))]))
          refine Runs.retW X54 hx hrt hlk eq54 hS hk hZ hEL hC (Or.inl ⟨rfl, by simp, _, rfl⟩) (by rfl) (hb hby at_289) (by decide) (by decide) ?_
          exact ⟨rfl, N54⟩
    show Runs p e below _ (T48.setTop (mkF m 160 #[.val (.int p0), .val (.int p1), .val (.int p2), .val (.int p3), .val (.int p4), .val (.int p5), .val (.int ((p0 &&& (255 : Int32)).toUInt32.toUInt16.toUInt32.toInt32)), .val (.int ((p1 &&& (255 : Int32)).toUInt32.toUInt16.toUInt32.toInt32)), .val (.int ((p2 &&& (255 : Int32)).toUInt32.toUInt16.toUInt32.toInt32)), .val (.int (2 : Int32)), .val (.ref b36), .val (.ref b46), .val (.int (p5 &&& (3 : Int32))), .val (.int ((((p5.toUInt32 >>> ((2 : Int32) &&& 31).toUInt32).toInt32) &&& (3 : Int32)) - (1 : Int32))), .unset, .unset] []))
    refine Runs.by (fun _ hr => XS.iload X48.here hx rfl (hb hby at_160) rfl  hr) ?_
    show Runs p e below _ (T48.setTop (mkF m 162 #[.val (.int p0), .val (.int p1), .val (.int p2), .val (.int p3), .val (.int p4), .val (.int p5), .val (.int ((p0 &&& (255 : Int32)).toUInt32.toUInt16.toUInt32.toInt32)), .val (.int ((p1 &&& (255 : Int32)).toUInt32.toUInt16.toUInt32.toInt32)), .val (.int ((p2 &&& (255 : Int32)).toUInt32.toUInt16.toUInt32.toInt32)), .val (.int (2 : Int32)), .val (.ref b36), .val (.ref b46), .val (.int (p5 &&& (3 : Int32))), .val (.int ((((p5.toUInt32 >>> ((2 : Int32) &&& 31).toUInt32).toInt32) &&& (3 : Int32)) - (1 : Int32))), .unset, .unset] [(.int (p5 &&& (3 : Int32)))]))
    by_cases hc162 : (p5 &&& (3 : Int32)) = (0 : Int32)
    · -- pc 162: (p5 &&& (3 : Int32)) = (0 : Int32)
      refine Runs.by (fun _ hr => XS.ifNo X48.here hx rfl (hb hby at_162) rfl ((if0 _ _).trans (teq hc162).2) hr) ?_
      show Runs p e below _ (T48.setTop (mkF m 165 #[.val (.int p0), .val (.int p1), .val (.int p2), .val (.int p3), .val (.int p4), .val (.int p5), .val (.int ((p0 &&& (255 : Int32)).toUInt32.toUInt16.toUInt32.toInt32)), .val (.int ((p1 &&& (255 : Int32)).toUInt32.toUInt16.toUInt32.toInt32)), .val (.int ((p2 &&& (255 : Int32)).toUInt32.toUInt16.toUInt32.toInt32)), .val (.int (2 : Int32)), .val (.ref b36), .val (.ref b46), .val (.int (p5 &&& (3 : Int32))), .val (.int ((((p5.toUInt32 >>> ((2 : Int32) &&& 31).toUInt32).toInt32) &&& (3 : Int32)) - (1 : Int32))), .unset, .unset] []))
      refine Runs.by (fun _ hr => XS.iload X48.here hx rfl (hb hby at_165) rfl  hr) ?_
      show Runs p e below _ (T48.setTop (mkF m 167 #[.val (.int p0), .val (.int p1), .val (.int p2), .val (.int p3), .val (.int p4), .val (.int p5), .val (.int ((p0 &&& (255 : Int32)).toUInt32.toUInt16.toUInt32.toInt32)), .val (.int ((p1 &&& (255 : Int32)).toUInt32.toUInt16.toUInt32.toInt32)), .val (.int ((p2 &&& (255 : Int32)).toUInt32.toUInt16.toUInt32.toInt32)), .val (.int (2 : Int32)), .val (.ref b36), .val (.ref b46), .val (.int (p5 &&& (3 : Int32))), .val (.int ((((p5.toUInt32 >>> ((2 : Int32) &&& 31).toUInt32).toInt32) &&& (3 : Int32)) - (1 : Int32))), .unset, .unset] [(.int p4)]))
      refine Runs.by (fun _ hr => X48.ldcI hx hown (mvT hZ (hw _ (List.mem_of_getElem? (i := 87) rfl))) (g := (mkF m 167 #[.val (.int p0), .val (.int p1), .val (.int p2), .val (.int p3), .val (.int p4), .val (.int p5), .val (.int ((p0 &&& (255 : Int32)).toUInt32.toUInt16.toUInt32.toInt32)), .val (.int ((p1 &&& (255 : Int32)).toUInt32.toUInt16.toUInt32.toInt32)), .val (.int ((p2 &&& (255 : Int32)).toUInt32.toUInt16.toUInt32.toInt32)), .val (.int (2 : Int32)), .val (.ref b36), .val (.ref b46), .val (.int (p5 &&& (3 : Int32))), .val (.int ((((p5.toUInt32 >>> ((2 : Int32) &&& 31).toUInt32).toInt32) &&& (3 : Int32)) - (1 : Int32))), .unset, .unset] [(.int p4)])) rfl (hb hby at_167) hr) ?_
      show Runs p e below _ (T48.setTop (mkF m 169 #[.val (.int p0), .val (.int p1), .val (.int p2), .val (.int p3), .val (.int p4), .val (.int p5), .val (.int ((p0 &&& (255 : Int32)).toUInt32.toUInt16.toUInt32.toInt32)), .val (.int ((p1 &&& (255 : Int32)).toUInt32.toUInt16.toUInt32.toInt32)), .val (.int ((p2 &&& (255 : Int32)).toUInt32.toUInt16.toUInt32.toInt32)), .val (.int (2 : Int32)), .val (.ref b36), .val (.ref b46), .val (.int (p5 &&& (3 : Int32))), .val (.int ((((p5.toUInt32 >>> ((2 : Int32) &&& 31).toUInt32).toInt32) &&& (3 : Int32)) - (1 : Int32))), .unset, .unset] [(.int (2147483647 : Int32)), (.int p4)]))
      refine Runs.by (fun _ hr => XS.iand X48.here hx rfl (hb hby at_169) rfl hr) ?_
      show Runs p e below _ (T48.setTop (mkF m 170 #[.val (.int p0), .val (.int p1), .val (.int p2), .val (.int p3), .val (.int p4), .val (.int p5), .val (.int ((p0 &&& (255 : Int32)).toUInt32.toUInt16.toUInt32.toInt32)), .val (.int ((p1 &&& (255 : Int32)).toUInt32.toUInt16.toUInt32.toInt32)), .val (.int ((p2 &&& (255 : Int32)).toUInt32.toUInt16.toUInt32.toInt32)), .val (.int (2 : Int32)), .val (.ref b36), .val (.ref b46), .val (.int (p5 &&& (3 : Int32))), .val (.int ((((p5.toUInt32 >>> ((2 : Int32) &&& 31).toUInt32).toInt32) &&& (3 : Int32)) - (1 : Int32))), .unset, .unset] [(.int (p4 &&& (2147483647 : Int32)))]))
      refine Runs.by (fun _ hr => XS.istore X48.here hx rfl (hb hby at_170) rfl (l' := #[.val (.int p0), .val (.int p1), .val (.int p2), .val (.int p3), .val (.int p4), .val (.int p5), .val (.int ((p0 &&& (255 : Int32)).toUInt32.toUInt16.toUInt32.toInt32)), .val (.int ((p1 &&& (255 : Int32)).toUInt32.toUInt16.toUInt32.toInt32)), .val (.int ((p2 &&& (255 : Int32)).toUInt32.toUInt16.toUInt32.toInt32)), .val (.int (2 : Int32)), .val (.ref b36), .val (.ref b46), .val (.int (p5 &&& (3 : Int32))), .val (.int ((((p5.toUInt32 >>> ((2 : Int32) &&& 31).toUInt32).toInt32) &&& (3 : Int32)) - (1 : Int32))), .val (.int (p4 &&& (2147483647 : Int32))), .unset]) rfl hr) ?_
      show Runs p e below _ (T48.setTop (mkF m 172 #[.val (.int p0), .val (.int p1), .val (.int p2), .val (.int p3), .val (.int p4), .val (.int p5), .val (.int ((p0 &&& (255 : Int32)).toUInt32.toUInt16.toUInt32.toInt32)), .val (.int ((p1 &&& (255 : Int32)).toUInt32.toUInt16.toUInt32.toInt32)), .val (.int ((p2 &&& (255 : Int32)).toUInt32.toUInt16.toUInt32.toInt32)), .val (.int (2 : Int32)), .val (.ref b36), .val (.ref b46), .val (.int (p5 &&& (3 : Int32))), .val (.int ((((p5.toUInt32 >>> ((2 : Int32) &&& 31).toUInt32).toInt32) &&& (3 : Int32)) - (1 : Int32))), .val (.int (p4 &&& (2147483647 : Int32))), .unset] []))
      refine Runs.by (fun _ hr => XS.goto X48.here hx rfl (pc0 := 172) (pc' := 226) rfl (hb hby at_172) (by decide) (by decide) hr) ?_
      exact JL50 (p4 &&& (2147483647 : Int32)) _ _ X48 rfl N48 (own_m31 _)
    · -- pc 162: not (p5 &&& (3 : Int32)) = (0 : Int32)
      refine Runs.by (fun _ hr => XS.ifYes X48.here hx rfl (pc0 := 162) (pc' := 175) rfl (hb hby at_162) rfl ((if0 _ _).trans (feq hc162).2) (by decide) (by decide) hr) ?_
      show Runs p e below _ (T48.setTop (mkF m 175 #[.val (.int p0), .val (.int p1), .val (.int p2), .val (.int p3), .val (.int p4), .val (.int p5), .val (.int ((p0 &&& (255 : Int32)).toUInt32.toUInt16.toUInt32.toInt32)), .val (.int ((p1 &&& (255 : Int32)).toUInt32.toUInt16.toUInt32.toInt32)), .val (.int ((p2 &&& (255 : Int32)).toUInt32.toUInt16.toUInt32.toInt32)), .val (.int (2 : Int32)), .val (.ref b36), .val (.ref b46), .val (.int (p5 &&& (3 : Int32))), .val (.int ((((p5.toUInt32 >>> ((2 : Int32) &&& 31).toUInt32).toInt32) &&& (3 : Int32)) - (1 : Int32))), .unset, .unset] []))
      refine Runs.by (fun _ hr => XS.iload X48.here hx rfl (hb hby at_175) rfl  hr) ?_
      show Runs p e below _ (T48.setTop (mkF m 177 #[.val (.int p0), .val (.int p1), .val (.int p2), .val (.int p3), .val (.int p4), .val (.int p5), .val (.int ((p0 &&& (255 : Int32)).toUInt32.toUInt16.toUInt32.toInt32)), .val (.int ((p1 &&& (255 : Int32)).toUInt32.toUInt16.toUInt32.toInt32)), .val (.int ((p2 &&& (255 : Int32)).toUInt32.toUInt16.toUInt32.toInt32)), .val (.int (2 : Int32)), .val (.ref b36), .val (.ref b46), .val (.int (p5 &&& (3 : Int32))), .val (.int ((((p5.toUInt32 >>> ((2 : Int32) &&& 31).toUInt32).toInt32) &&& (3 : Int32)) - (1 : Int32))), .unset, .unset] [(.int (p5 &&& (3 : Int32)))]))
      refine Runs.by (fun _ hr => XS.iconst X48.here hx rfl (hb hby at_177) hr) ?_
      show Runs p e below _ (T48.setTop (mkF m 178 #[.val (.int p0), .val (.int p1), .val (.int p2), .val (.int p3), .val (.int p4), .val (.int p5), .val (.int ((p0 &&& (255 : Int32)).toUInt32.toUInt16.toUInt32.toInt32)), .val (.int ((p1 &&& (255 : Int32)).toUInt32.toUInt16.toUInt32.toInt32)), .val (.int ((p2 &&& (255 : Int32)).toUInt32.toUInt16.toUInt32.toInt32)), .val (.int (2 : Int32)), .val (.ref b36), .val (.ref b46), .val (.int (p5 &&& (3 : Int32))), .val (.int ((((p5.toUInt32 >>> ((2 : Int32) &&& 31).toUInt32).toInt32) &&& (3 : Int32)) - (1 : Int32))), .unset, .unset] [(.int (1 : Int32)), (.int (p5 &&& (3 : Int32)))]))
      by_cases hc178 : (p5 &&& (3 : Int32)) = (1 : Int32)
      · -- pc 178: (p5 &&& (3 : Int32)) = (1 : Int32)
        refine Runs.by (fun _ hr => XS.icmpNo X48.here hx rfl (hb hby at_178) rfl (teq hc178).2 hr) ?_
        show Runs p e below _ (T48.setTop (mkF m 181 #[.val (.int p0), .val (.int p1), .val (.int p2), .val (.int p3), .val (.int p4), .val (.int p5), .val (.int ((p0 &&& (255 : Int32)).toUInt32.toUInt16.toUInt32.toInt32)), .val (.int ((p1 &&& (255 : Int32)).toUInt32.toUInt16.toUInt32.toInt32)), .val (.int ((p2 &&& (255 : Int32)).toUInt32.toUInt16.toUInt32.toInt32)), .val (.int (2 : Int32)), .val (.ref b36), .val (.ref b46), .val (.int (p5 &&& (3 : Int32))), .val (.int ((((p5.toUInt32 >>> ((2 : Int32) &&& 31).toUInt32).toInt32) &&& (3 : Int32)) - (1 : Int32))), .unset, .unset] []))
        refine Runs.by (fun _ hr => XS.iconst X48.here hx rfl (hb hby at_181) hr) ?_
        show Runs p e below _ (T48.setTop (mkF m 182 #[.val (.int p0), .val (.int p1), .val (.int p2), .val (.int p3), .val (.int p4), .val (.int p5), .val (.int ((p0 &&& (255 : Int32)).toUInt32.toUInt16.toUInt32.toInt32)), .val (.int ((p1 &&& (255 : Int32)).toUInt32.toUInt16.toUInt32.toInt32)), .val (.int ((p2 &&& (255 : Int32)).toUInt32.toUInt16.toUInt32.toInt32)), .val (.int (2 : Int32)), .val (.ref b36), .val (.ref b46), .val (.int (p5 &&& (3 : Int32))), .val (.int ((((p5.toUInt32 >>> ((2 : Int32) &&& 31).toUInt32).toInt32) &&& (3 : Int32)) - (1 : Int32))), .unset, .unset] [(.int (0 : Int32))]))
        refine Runs.by (fun _ hr => XS.iload X48.here hx rfl (hb hby at_182) rfl  hr) ?_
        show Runs p e below _ (T48.setTop (mkF m 184 #[.val (.int p0), .val (.int p1), .val (.int p2), .val (.int p3), .val (.int p4), .val (.int p5), .val (.int ((p0 &&& (255 : Int32)).toUInt32.toUInt16.toUInt32.toInt32)), .val (.int ((p1 &&& (255 : Int32)).toUInt32.toUInt16.toUInt32.toInt32)), .val (.int ((p2 &&& (255 : Int32)).toUInt32.toUInt16.toUInt32.toInt32)), .val (.int (2 : Int32)), .val (.ref b36), .val (.ref b46), .val (.int (p5 &&& (3 : Int32))), .val (.int ((((p5.toUInt32 >>> ((2 : Int32) &&& 31).toUInt32).toInt32) &&& (3 : Int32)) - (1 : Int32))), .unset, .unset] [(.int ((p0 &&& (255 : Int32)).toUInt32.toUInt16.toUInt32.toInt32)), (.int (0 : Int32))]))
        refine Runs.by (fun _ hr => XS.iload X48.here hx rfl (hb hby at_184) rfl  hr) ?_
        show Runs p e below _ (T48.setTop (mkF m 186 #[.val (.int p0), .val (.int p1), .val (.int p2), .val (.int p3), .val (.int p4), .val (.int p5), .val (.int ((p0 &&& (255 : Int32)).toUInt32.toUInt16.toUInt32.toInt32)), .val (.int ((p1 &&& (255 : Int32)).toUInt32.toUInt16.toUInt32.toInt32)), .val (.int ((p2 &&& (255 : Int32)).toUInt32.toUInt16.toUInt32.toInt32)), .val (.int (2 : Int32)), .val (.ref b36), .val (.ref b46), .val (.int (p5 &&& (3 : Int32))), .val (.int ((((p5.toUInt32 >>> ((2 : Int32) &&& 31).toUInt32).toInt32) &&& (3 : Int32)) - (1 : Int32))), .unset, .unset] [(.int ((((p5.toUInt32 >>> ((2 : Int32) &&& 31).toUInt32).toInt32) &&& (3 : Int32)) - (1 : Int32))), (.int ((p0 &&& (255 : Int32)).toUInt32.toUInt16.toUInt32.toInt32)), (.int (0 : Int32))]))
        refine Runs.by (fun _ hr => XS.iadd X48.here hx rfl (hb hby at_186) rfl hr) ?_
        show Runs p e below _ (T48.setTop (mkF m 187 #[.val (.int p0), .val (.int p1), .val (.int p2), .val (.int p3), .val (.int p4), .val (.int p5), .val (.int ((p0 &&& (255 : Int32)).toUInt32.toUInt16.toUInt32.toInt32)), .val (.int ((p1 &&& (255 : Int32)).toUInt32.toUInt16.toUInt32.toInt32)), .val (.int ((p2 &&& (255 : Int32)).toUInt32.toUInt16.toUInt32.toInt32)), .val (.int (2 : Int32)), .val (.ref b36), .val (.ref b46), .val (.int (p5 &&& (3 : Int32))), .val (.int ((((p5.toUInt32 >>> ((2 : Int32) &&& 31).toUInt32).toInt32) &&& (3 : Int32)) - (1 : Int32))), .unset, .unset] [(.int (((p0 &&& (255 : Int32)).toUInt32.toUInt16.toUInt32.toInt32) + ((((p5.toUInt32 >>> ((2 : Int32) &&& 31).toUInt32).toInt32) &&& (3 : Int32)) - (1 : Int32)))), (.int (0 : Int32))]))
        obtain ⟨_, _, ⟨T55, L55, k55, n55⟩, -, X55, ⟨Lc55, hQ55, l55, y55, z55⟩, st55⟩ := Jvm.LawKit.callS X48 hx (y := (⟨"java/lang/Math", "max", "(II)I"⟩ : MethodName)) hown (mvT hZ (hw _ (List.mem_of_getElem? (i := 78) rfl))) (mvT hZ (hw _ (List.mem_of_getElem? (i := 73) rfl))) (mvT hZ (hw _ (List.mem_of_getElem? (i := 74) rfl))) (mvT hZ (hw _ (List.mem_of_getElem? (i := 75) rfl))) (by decide) (backOf (W := 0) (rm15 l Z a0 hw [] (0 : Int32) (((p0 &&& (255 : Int32)).toUInt32.toUInt16.toUInt32.toInt32) + ((((p5.toUInt32 >>> ((2 : Int32) &&& 31).toUInt32).toInt32) &&& (3 : Int32)) - (1 : Int32)))  T48.heap n0 (Nat.le_trans Z0 K49.1) ) hZ (hw _ (List.mem_of_getElem? (i := 75) rfl)) (hw _ (List.mem_of_getElem? (i := 74) rfl)) (by decide) (by decide)) (g := (mkF m 187 #[.val (.int p0), .val (.int p1), .val (.int p2), .val (.int p3), .val (.int p4), .val (.int p5), .val (.int ((p0 &&& (255 : Int32)).toUInt32.toUInt16.toUInt32.toInt32)), .val (.int ((p1 &&& (255 : Int32)).toUInt32.toUInt16.toUInt32.toInt32)), .val (.int ((p2 &&& (255 : Int32)).toUInt32.toUInt16.toUInt32.toInt32)), .val (.int (2 : Int32)), .val (.ref b36), .val (.ref b46), .val (.int (p5 &&& (3 : Int32))), .val (.int ((((p5.toUInt32 >>> ((2 : Int32) &&& 31).toUInt32).toInt32) &&& (3 : Int32)) - (1 : Int32))), .unset, .unset] [(.int (((p0 &&& (255 : Int32)).toUInt32.toUInt16.toUInt32.toInt32) + ((((p5.toUInt32 >>> ((2 : Int32) &&& 31).toUInt32).toInt32) &&& (3 : Int32)) - (1 : Int32)))), (.int (0 : Int32))])) rfl (by rw [hml]; rfl) (argsL := [(.int (0 : Int32)), (.int (((p0 &&& (255 : Int32)).toUInt32.toUInt16.toUInt32.toInt32) + ((((p5.toUInt32 >>> ((2 : Int32) &&& 31).toUInt32).toInt32) &&& (3 : Int32)) - (1 : Int32))))]) (rest := []) (lenOf pd_8 rfl) rfl (by show 2 * 0 + _ ≤ _; exact Nat.le_of_eq rfl) (hb hby at_187) (fun _ _ => ⟨rfl, rfl, (by decide : 6 + 0 ≤ _), (by decide : 522 + 0 ≤ _)⟩)
        dsimp only [Pt.U, Pt.locs, Pt.cells, Pt.slots] at X55 l55 y55 z55 st55 hQ55
        subst l55 y55 z55
        obtain ⟨rfl, Nq55, eq55⟩ := hQ55
        have N55 := Fr.app N48 Nq55
        refine Runs.by (fun t hr => st55 t hr) ?_
        show Runs p e below _ (T55.setTop (mkF m 190 #[.val (.int p0), .val (.int p1), .val (.int p2), .val (.int p3), .val (.int p4), .val (.int p5), .val (.int ((p0 &&& (255 : Int32)).toUInt32.toUInt16.toUInt32.toInt32)), .val (.int ((p1 &&& (255 : Int32)).toUInt32.toUInt16.toUInt32.toInt32)), .val (.int ((p2 &&& (255 : Int32)).toUInt32.toUInt16.toUInt32.toInt32)), .val (.int (2 : Int32)), .val (.ref b36), .val (.ref b46), .val (.int (p5 &&& (3 : Int32))), .val (.int ((((p5.toUInt32 >>> ((2 : Int32) &&& 31).toUInt32).toInt32) &&& (3 : Int32)) - (1 : Int32))), .unset, .unset] [(.int (own_max (0 : Int32) (((p0 &&& (255 : Int32)).toUInt32.toUInt16.toUInt32.toInt32) + ((((p5.toUInt32 >>> ((2 : Int32) &&& 31).toUInt32).toInt32) &&& (3 : Int32)) - (1 : Int32)))))]))
        refine Runs.by (fun _ hr => XS.istore X55.here hx rfl (hb hby at_190) rfl (l' := #[.val (.int p0), .val (.int p1), .val (.int p2), .val (.int p3), .val (.int p4), .val (.int p5), .val (.int ((p0 &&& (255 : Int32)).toUInt32.toUInt16.toUInt32.toInt32)), .val (.int ((p1 &&& (255 : Int32)).toUInt32.toUInt16.toUInt32.toInt32)), .val (.int ((p2 &&& (255 : Int32)).toUInt32.toUInt16.toUInt32.toInt32)), .val (.int (2 : Int32)), .val (.ref b36), .val (.ref b46), .val (.int (p5 &&& (3 : Int32))), .val (.int ((((p5.toUInt32 >>> ((2 : Int32) &&& 31).toUInt32).toInt32) &&& (3 : Int32)) - (1 : Int32))), .val (.int (own_max (0 : Int32) (((p0 &&& (255 : Int32)).toUInt32.toUInt16.toUInt32.toInt32) + ((((p5.toUInt32 >>> ((2 : Int32) &&& 31).toUInt32).toInt32) &&& (3 : Int32)) - (1 : Int32))))), .unset]) rfl hr) ?_
        show Runs p e below _ (T55.setTop (mkF m 192 #[.val (.int p0), .val (.int p1), .val (.int p2), .val (.int p3), .val (.int p4), .val (.int p5), .val (.int ((p0 &&& (255 : Int32)).toUInt32.toUInt16.toUInt32.toInt32)), .val (.int ((p1 &&& (255 : Int32)).toUInt32.toUInt16.toUInt32.toInt32)), .val (.int ((p2 &&& (255 : Int32)).toUInt32.toUInt16.toUInt32.toInt32)), .val (.int (2 : Int32)), .val (.ref b36), .val (.ref b46), .val (.int (p5 &&& (3 : Int32))), .val (.int ((((p5.toUInt32 >>> ((2 : Int32) &&& 31).toUInt32).toInt32) &&& (3 : Int32)) - (1 : Int32))), .val (.int (own_max (0 : Int32) (((p0 &&& (255 : Int32)).toUInt32.toUInt16.toUInt32.toInt32) + ((((p5.toUInt32 >>> ((2 : Int32) &&& 31).toUInt32).toInt32) &&& (3 : Int32)) - (1 : Int32))))), .unset] []))
        refine Runs.by (fun _ hr => XS.goto X55.here hx rfl (pc0 := 192) (pc' := 226) rfl (hb hby at_192) (by decide) (by decide) hr) ?_
        exact JL50 (own_max (0 : Int32) (((p0 &&& (255 : Int32)).toUInt32.toUInt16.toUInt32.toInt32) + ((((p5.toUInt32 >>> ((2 : Int32) &&& 31).toUInt32).toInt32) &&& (3 : Int32)) - (1 : Int32)))) _ _ X55 eq55 N55 (own_max0 _)
      · -- pc 178: not (p5 &&& (3 : Int32)) = (1 : Int32)
        refine Runs.by (fun _ hr => XS.icmpYes X48.here hx rfl (pc0 := 178) (pc' := 195) rfl (hb hby at_178) rfl (feq hc178).2 (by decide) (by decide) hr) ?_
        show Runs p e below _ (T48.setTop (mkF m 195 #[.val (.int p0), .val (.int p1), .val (.int p2), .val (.int p3), .val (.int p4), .val (.int p5), .val (.int ((p0 &&& (255 : Int32)).toUInt32.toUInt16.toUInt32.toInt32)), .val (.int ((p1 &&& (255 : Int32)).toUInt32.toUInt16.toUInt32.toInt32)), .val (.int ((p2 &&& (255 : Int32)).toUInt32.toUInt16.toUInt32.toInt32)), .val (.int (2 : Int32)), .val (.ref b36), .val (.ref b46), .val (.int (p5 &&& (3 : Int32))), .val (.int ((((p5.toUInt32 >>> ((2 : Int32) &&& 31).toUInt32).toInt32) &&& (3 : Int32)) - (1 : Int32))), .unset, .unset] []))
        refine Runs.by (fun _ hr => XS.iload X48.here hx rfl (hb hby at_195) rfl  hr) ?_
        show Runs p e below _ (T48.setTop (mkF m 197 #[.val (.int p0), .val (.int p1), .val (.int p2), .val (.int p3), .val (.int p4), .val (.int p5), .val (.int ((p0 &&& (255 : Int32)).toUInt32.toUInt16.toUInt32.toInt32)), .val (.int ((p1 &&& (255 : Int32)).toUInt32.toUInt16.toUInt32.toInt32)), .val (.int ((p2 &&& (255 : Int32)).toUInt32.toUInt16.toUInt32.toInt32)), .val (.int (2 : Int32)), .val (.ref b36), .val (.ref b46), .val (.int (p5 &&& (3 : Int32))), .val (.int ((((p5.toUInt32 >>> ((2 : Int32) &&& 31).toUInt32).toInt32) &&& (3 : Int32)) - (1 : Int32))), .unset, .unset] [(.int (p5 &&& (3 : Int32)))]))
        refine Runs.by (fun _ hr => XS.iconst X48.here hx rfl (hb hby at_197) hr) ?_
        show Runs p e below _ (T48.setTop (mkF m 198 #[.val (.int p0), .val (.int p1), .val (.int p2), .val (.int p3), .val (.int p4), .val (.int p5), .val (.int ((p0 &&& (255 : Int32)).toUInt32.toUInt16.toUInt32.toInt32)), .val (.int ((p1 &&& (255 : Int32)).toUInt32.toUInt16.toUInt32.toInt32)), .val (.int ((p2 &&& (255 : Int32)).toUInt32.toUInt16.toUInt32.toInt32)), .val (.int (2 : Int32)), .val (.ref b36), .val (.ref b46), .val (.int (p5 &&& (3 : Int32))), .val (.int ((((p5.toUInt32 >>> ((2 : Int32) &&& 31).toUInt32).toInt32) &&& (3 : Int32)) - (1 : Int32))), .unset, .unset] [(.int (2 : Int32)), (.int (p5 &&& (3 : Int32)))]))
        by_cases hc198 : (p5 &&& (3 : Int32)) = (2 : Int32)
        · -- pc 198: (p5 &&& (3 : Int32)) = (2 : Int32)
          refine Runs.by (fun _ hr => XS.icmpNo X48.here hx rfl (hb hby at_198) rfl (teq hc198).2 hr) ?_
          show Runs p e below _ (T48.setTop (mkF m 201 #[.val (.int p0), .val (.int p1), .val (.int p2), .val (.int p3), .val (.int p4), .val (.int p5), .val (.int ((p0 &&& (255 : Int32)).toUInt32.toUInt16.toUInt32.toInt32)), .val (.int ((p1 &&& (255 : Int32)).toUInt32.toUInt16.toUInt32.toInt32)), .val (.int ((p2 &&& (255 : Int32)).toUInt32.toUInt16.toUInt32.toInt32)), .val (.int (2 : Int32)), .val (.ref b36), .val (.ref b46), .val (.int (p5 &&& (3 : Int32))), .val (.int ((((p5.toUInt32 >>> ((2 : Int32) &&& 31).toUInt32).toInt32) &&& (3 : Int32)) - (1 : Int32))), .unset, .unset] []))
          refine Runs.by (fun _ hr => XS.iconst X48.here hx rfl (hb hby at_201) hr) ?_
          show Runs p e below _ (T48.setTop (mkF m 202 #[.val (.int p0), .val (.int p1), .val (.int p2), .val (.int p3), .val (.int p4), .val (.int p5), .val (.int ((p0 &&& (255 : Int32)).toUInt32.toUInt16.toUInt32.toInt32)), .val (.int ((p1 &&& (255 : Int32)).toUInt32.toUInt16.toUInt32.toInt32)), .val (.int ((p2 &&& (255 : Int32)).toUInt32.toUInt16.toUInt32.toInt32)), .val (.int (2 : Int32)), .val (.ref b36), .val (.ref b46), .val (.int (p5 &&& (3 : Int32))), .val (.int ((((p5.toUInt32 >>> ((2 : Int32) &&& 31).toUInt32).toInt32) &&& (3 : Int32)) - (1 : Int32))), .unset, .unset] [(.int (0 : Int32))]))
          refine Runs.by (fun _ hr => XS.iload X48.here hx rfl (hb hby at_202) rfl  hr) ?_
          show Runs p e below _ (T48.setTop (mkF m 204 #[.val (.int p0), .val (.int p1), .val (.int p2), .val (.int p3), .val (.int p4), .val (.int p5), .val (.int ((p0 &&& (255 : Int32)).toUInt32.toUInt16.toUInt32.toInt32)), .val (.int ((p1 &&& (255 : Int32)).toUInt32.toUInt16.toUInt32.toInt32)), .val (.int ((p2 &&& (255 : Int32)).toUInt32.toUInt16.toUInt32.toInt32)), .val (.int (2 : Int32)), .val (.ref b36), .val (.ref b46), .val (.int (p5 &&& (3 : Int32))), .val (.int ((((p5.toUInt32 >>> ((2 : Int32) &&& 31).toUInt32).toInt32) &&& (3 : Int32)) - (1 : Int32))), .unset, .unset] [(.int ((p1 &&& (255 : Int32)).toUInt32.toUInt16.toUInt32.toInt32)), (.int (0 : Int32))]))
          refine Runs.by (fun _ hr => XS.iload X48.here hx rfl (hb hby at_204) rfl  hr) ?_
          show Runs p e below _ (T48.setTop (mkF m 206 #[.val (.int p0), .val (.int p1), .val (.int p2), .val (.int p3), .val (.int p4), .val (.int p5), .val (.int ((p0 &&& (255 : Int32)).toUInt32.toUInt16.toUInt32.toInt32)), .val (.int ((p1 &&& (255 : Int32)).toUInt32.toUInt16.toUInt32.toInt32)), .val (.int ((p2 &&& (255 : Int32)).toUInt32.toUInt16.toUInt32.toInt32)), .val (.int (2 : Int32)), .val (.ref b36), .val (.ref b46), .val (.int (p5 &&& (3 : Int32))), .val (.int ((((p5.toUInt32 >>> ((2 : Int32) &&& 31).toUInt32).toInt32) &&& (3 : Int32)) - (1 : Int32))), .unset, .unset] [(.int ((((p5.toUInt32 >>> ((2 : Int32) &&& 31).toUInt32).toInt32) &&& (3 : Int32)) - (1 : Int32))), (.int ((p1 &&& (255 : Int32)).toUInt32.toUInt16.toUInt32.toInt32)), (.int (0 : Int32))]))
          refine Runs.by (fun _ hr => XS.iadd X48.here hx rfl (hb hby at_206) rfl hr) ?_
          show Runs p e below _ (T48.setTop (mkF m 207 #[.val (.int p0), .val (.int p1), .val (.int p2), .val (.int p3), .val (.int p4), .val (.int p5), .val (.int ((p0 &&& (255 : Int32)).toUInt32.toUInt16.toUInt32.toInt32)), .val (.int ((p1 &&& (255 : Int32)).toUInt32.toUInt16.toUInt32.toInt32)), .val (.int ((p2 &&& (255 : Int32)).toUInt32.toUInt16.toUInt32.toInt32)), .val (.int (2 : Int32)), .val (.ref b36), .val (.ref b46), .val (.int (p5 &&& (3 : Int32))), .val (.int ((((p5.toUInt32 >>> ((2 : Int32) &&& 31).toUInt32).toInt32) &&& (3 : Int32)) - (1 : Int32))), .unset, .unset] [(.int (((p1 &&& (255 : Int32)).toUInt32.toUInt16.toUInt32.toInt32) + ((((p5.toUInt32 >>> ((2 : Int32) &&& 31).toUInt32).toInt32) &&& (3 : Int32)) - (1 : Int32)))), (.int (0 : Int32))]))
          obtain ⟨_, _, ⟨T56, L56, k56, n56⟩, -, X56, ⟨Lc56, hQ56, l56, y56, z56⟩, st56⟩ := Jvm.LawKit.callS X48 hx (y := (⟨"java/lang/Math", "max", "(II)I"⟩ : MethodName)) hown (mvT hZ (hw _ (List.mem_of_getElem? (i := 78) rfl))) (mvT hZ (hw _ (List.mem_of_getElem? (i := 73) rfl))) (mvT hZ (hw _ (List.mem_of_getElem? (i := 74) rfl))) (mvT hZ (hw _ (List.mem_of_getElem? (i := 75) rfl))) (by decide) (backOf (W := 0) (rm15 l Z a0 hw [] (0 : Int32) (((p1 &&& (255 : Int32)).toUInt32.toUInt16.toUInt32.toInt32) + ((((p5.toUInt32 >>> ((2 : Int32) &&& 31).toUInt32).toInt32) &&& (3 : Int32)) - (1 : Int32)))  T48.heap n0 (Nat.le_trans Z0 K49.1) ) hZ (hw _ (List.mem_of_getElem? (i := 75) rfl)) (hw _ (List.mem_of_getElem? (i := 74) rfl)) (by decide) (by decide)) (g := (mkF m 207 #[.val (.int p0), .val (.int p1), .val (.int p2), .val (.int p3), .val (.int p4), .val (.int p5), .val (.int ((p0 &&& (255 : Int32)).toUInt32.toUInt16.toUInt32.toInt32)), .val (.int ((p1 &&& (255 : Int32)).toUInt32.toUInt16.toUInt32.toInt32)), .val (.int ((p2 &&& (255 : Int32)).toUInt32.toUInt16.toUInt32.toInt32)), .val (.int (2 : Int32)), .val (.ref b36), .val (.ref b46), .val (.int (p5 &&& (3 : Int32))), .val (.int ((((p5.toUInt32 >>> ((2 : Int32) &&& 31).toUInt32).toInt32) &&& (3 : Int32)) - (1 : Int32))), .unset, .unset] [(.int (((p1 &&& (255 : Int32)).toUInt32.toUInt16.toUInt32.toInt32) + ((((p5.toUInt32 >>> ((2 : Int32) &&& 31).toUInt32).toInt32) &&& (3 : Int32)) - (1 : Int32)))), (.int (0 : Int32))])) rfl (by rw [hml]; rfl) (argsL := [(.int (0 : Int32)), (.int (((p1 &&& (255 : Int32)).toUInt32.toUInt16.toUInt32.toInt32) + ((((p5.toUInt32 >>> ((2 : Int32) &&& 31).toUInt32).toInt32) &&& (3 : Int32)) - (1 : Int32))))]) (rest := []) (lenOf pd_8 rfl) rfl (by show 2 * 0 + _ ≤ _; exact Nat.le_of_eq rfl) (hb hby at_207) (fun _ _ => ⟨rfl, rfl, (by decide : 6 + 0 ≤ _), (by decide : 522 + 0 ≤ _)⟩)
          dsimp only [Pt.U, Pt.locs, Pt.cells, Pt.slots] at X56 l56 y56 z56 st56 hQ56
          subst l56 y56 z56
          obtain ⟨rfl, Nq56, eq56⟩ := hQ56
          have N56 := Fr.app N48 Nq56
          refine Runs.by (fun t hr => st56 t hr) ?_
          show Runs p e below _ (T56.setTop (mkF m 210 #[.val (.int p0), .val (.int p1), .val (.int p2), .val (.int p3), .val (.int p4), .val (.int p5), .val (.int ((p0 &&& (255 : Int32)).toUInt32.toUInt16.toUInt32.toInt32)), .val (.int ((p1 &&& (255 : Int32)).toUInt32.toUInt16.toUInt32.toInt32)), .val (.int ((p2 &&& (255 : Int32)).toUInt32.toUInt16.toUInt32.toInt32)), .val (.int (2 : Int32)), .val (.ref b36), .val (.ref b46), .val (.int (p5 &&& (3 : Int32))), .val (.int ((((p5.toUInt32 >>> ((2 : Int32) &&& 31).toUInt32).toInt32) &&& (3 : Int32)) - (1 : Int32))), .unset, .unset] [(.int (own_max (0 : Int32) (((p1 &&& (255 : Int32)).toUInt32.toUInt16.toUInt32.toInt32) + ((((p5.toUInt32 >>> ((2 : Int32) &&& 31).toUInt32).toInt32) &&& (3 : Int32)) - (1 : Int32)))))]))
          refine Runs.by (fun _ hr => XS.istore X56.here hx rfl (hb hby at_210) rfl (l' := #[.val (.int p0), .val (.int p1), .val (.int p2), .val (.int p3), .val (.int p4), .val (.int p5), .val (.int ((p0 &&& (255 : Int32)).toUInt32.toUInt16.toUInt32.toInt32)), .val (.int ((p1 &&& (255 : Int32)).toUInt32.toUInt16.toUInt32.toInt32)), .val (.int ((p2 &&& (255 : Int32)).toUInt32.toUInt16.toUInt32.toInt32)), .val (.int (2 : Int32)), .val (.ref b36), .val (.ref b46), .val (.int (p5 &&& (3 : Int32))), .val (.int ((((p5.toUInt32 >>> ((2 : Int32) &&& 31).toUInt32).toInt32) &&& (3 : Int32)) - (1 : Int32))), .val (.int (own_max (0 : Int32) (((p1 &&& (255 : Int32)).toUInt32.toUInt16.toUInt32.toInt32) + ((((p5.toUInt32 >>> ((2 : Int32) &&& 31).toUInt32).toInt32) &&& (3 : Int32)) - (1 : Int32))))), .unset]) rfl hr) ?_
          show Runs p e below _ (T56.setTop (mkF m 212 #[.val (.int p0), .val (.int p1), .val (.int p2), .val (.int p3), .val (.int p4), .val (.int p5), .val (.int ((p0 &&& (255 : Int32)).toUInt32.toUInt16.toUInt32.toInt32)), .val (.int ((p1 &&& (255 : Int32)).toUInt32.toUInt16.toUInt32.toInt32)), .val (.int ((p2 &&& (255 : Int32)).toUInt32.toUInt16.toUInt32.toInt32)), .val (.int (2 : Int32)), .val (.ref b36), .val (.ref b46), .val (.int (p5 &&& (3 : Int32))), .val (.int ((((p5.toUInt32 >>> ((2 : Int32) &&& 31).toUInt32).toInt32) &&& (3 : Int32)) - (1 : Int32))), .val (.int (own_max (0 : Int32) (((p1 &&& (255 : Int32)).toUInt32.toUInt16.toUInt32.toInt32) + ((((p5.toUInt32 >>> ((2 : Int32) &&& 31).toUInt32).toInt32) &&& (3 : Int32)) - (1 : Int32))))), .unset] []))
          refine Runs.by (fun _ hr => XS.goto X56.here hx rfl (pc0 := 212) (pc' := 226) rfl (hb hby at_212) (by decide) (by decide) hr) ?_
          exact JL50 (own_max (0 : Int32) (((p1 &&& (255 : Int32)).toUInt32.toUInt16.toUInt32.toInt32) + ((((p5.toUInt32 >>> ((2 : Int32) &&& 31).toUInt32).toInt32) &&& (3 : Int32)) - (1 : Int32)))) _ _ X56 eq56 N56 (own_max0 _)
        · -- pc 198: not (p5 &&& (3 : Int32)) = (2 : Int32)
          refine Runs.by (fun _ hr => XS.icmpYes X48.here hx rfl (pc0 := 198) (pc' := 215) rfl (hb hby at_198) rfl (feq hc198).2 (by decide) (by decide) hr) ?_
          show Runs p e below _ (T48.setTop (mkF m 215 #[.val (.int p0), .val (.int p1), .val (.int p2), .val (.int p3), .val (.int p4), .val (.int p5), .val (.int ((p0 &&& (255 : Int32)).toUInt32.toUInt16.toUInt32.toInt32)), .val (.int ((p1 &&& (255 : Int32)).toUInt32.toUInt16.toUInt32.toInt32)), .val (.int ((p2 &&& (255 : Int32)).toUInt32.toUInt16.toUInt32.toInt32)), .val (.int (2 : Int32)), .val (.ref b36), .val (.ref b46), .val (.int (p5 &&& (3 : Int32))), .val (.int ((((p5.toUInt32 >>> ((2 : Int32) &&& 31).toUInt32).toInt32) &&& (3 : Int32)) - (1 : Int32))), .unset, .unset] []))
          refine Runs.by (fun _ hr => XS.iconst X48.here hx rfl (hb hby at_215) hr) ?_
          show Runs p e below _ (T48.setTop (mkF m 216 #[.val (.int p0), .val (.int p1), .val (.int p2), .val (.int p3), .val (.int p4), .val (.int p5), .val (.int ((p0 &&& (255 : Int32)).toUInt32.toUInt16.toUInt32.toInt32)), .val (.int ((p1 &&& (255 : Int32)).toUInt32.toUInt16.toUInt32.toInt32)), .val (.int ((p2 &&& (255 : Int32)).toUInt32.toUInt16.toUInt32.toInt32)), .val (.int (2 : Int32)), .val (.ref b36), .val (.ref b46), .val (.int (p5 &&& (3 : Int32))), .val (.int ((((p5.toUInt32 >>> ((2 : Int32) &&& 31).toUInt32).toInt32) &&& (3 : Int32)) - (1 : Int32))), .unset, .unset] [(.int (0 : Int32))]))
          refine Runs.by (fun _ hr => XS.iload X48.here hx rfl (hb hby at_216) rfl  hr) ?_
          show Runs p e below _ (T48.setTop (mkF m 218 #[.val (.int p0), .val (.int p1), .val (.int p2), .val (.int p3), .val (.int p4), .val (.int p5), .val (.int ((p0 &&& (255 : Int32)).toUInt32.toUInt16.toUInt32.toInt32)), .val (.int ((p1 &&& (255 : Int32)).toUInt32.toUInt16.toUInt32.toInt32)), .val (.int ((p2 &&& (255 : Int32)).toUInt32.toUInt16.toUInt32.toInt32)), .val (.int (2 : Int32)), .val (.ref b36), .val (.ref b46), .val (.int (p5 &&& (3 : Int32))), .val (.int ((((p5.toUInt32 >>> ((2 : Int32) &&& 31).toUInt32).toInt32) &&& (3 : Int32)) - (1 : Int32))), .unset, .unset] [(.int ((p2 &&& (255 : Int32)).toUInt32.toUInt16.toUInt32.toInt32)), (.int (0 : Int32))]))
          refine Runs.by (fun _ hr => XS.iload X48.here hx rfl (hb hby at_218) rfl  hr) ?_
          show Runs p e below _ (T48.setTop (mkF m 220 #[.val (.int p0), .val (.int p1), .val (.int p2), .val (.int p3), .val (.int p4), .val (.int p5), .val (.int ((p0 &&& (255 : Int32)).toUInt32.toUInt16.toUInt32.toInt32)), .val (.int ((p1 &&& (255 : Int32)).toUInt32.toUInt16.toUInt32.toInt32)), .val (.int ((p2 &&& (255 : Int32)).toUInt32.toUInt16.toUInt32.toInt32)), .val (.int (2 : Int32)), .val (.ref b36), .val (.ref b46), .val (.int (p5 &&& (3 : Int32))), .val (.int ((((p5.toUInt32 >>> ((2 : Int32) &&& 31).toUInt32).toInt32) &&& (3 : Int32)) - (1 : Int32))), .unset, .unset] [(.int ((((p5.toUInt32 >>> ((2 : Int32) &&& 31).toUInt32).toInt32) &&& (3 : Int32)) - (1 : Int32))), (.int ((p2 &&& (255 : Int32)).toUInt32.toUInt16.toUInt32.toInt32)), (.int (0 : Int32))]))
          refine Runs.by (fun _ hr => XS.iadd X48.here hx rfl (hb hby at_220) rfl hr) ?_
          show Runs p e below _ (T48.setTop (mkF m 221 #[.val (.int p0), .val (.int p1), .val (.int p2), .val (.int p3), .val (.int p4), .val (.int p5), .val (.int ((p0 &&& (255 : Int32)).toUInt32.toUInt16.toUInt32.toInt32)), .val (.int ((p1 &&& (255 : Int32)).toUInt32.toUInt16.toUInt32.toInt32)), .val (.int ((p2 &&& (255 : Int32)).toUInt32.toUInt16.toUInt32.toInt32)), .val (.int (2 : Int32)), .val (.ref b36), .val (.ref b46), .val (.int (p5 &&& (3 : Int32))), .val (.int ((((p5.toUInt32 >>> ((2 : Int32) &&& 31).toUInt32).toInt32) &&& (3 : Int32)) - (1 : Int32))), .unset, .unset] [(.int (((p2 &&& (255 : Int32)).toUInt32.toUInt16.toUInt32.toInt32) + ((((p5.toUInt32 >>> ((2 : Int32) &&& 31).toUInt32).toInt32) &&& (3 : Int32)) - (1 : Int32)))), (.int (0 : Int32))]))
          obtain ⟨_, _, ⟨T57, L57, k57, n57⟩, -, X57, ⟨Lc57, hQ57, l57, y57, z57⟩, st57⟩ := Jvm.LawKit.callS X48 hx (y := (⟨"java/lang/Math", "max", "(II)I"⟩ : MethodName)) hown (mvT hZ (hw _ (List.mem_of_getElem? (i := 78) rfl))) (mvT hZ (hw _ (List.mem_of_getElem? (i := 73) rfl))) (mvT hZ (hw _ (List.mem_of_getElem? (i := 74) rfl))) (mvT hZ (hw _ (List.mem_of_getElem? (i := 75) rfl))) (by decide) (backOf (W := 0) (rm15 l Z a0 hw [] (0 : Int32) (((p2 &&& (255 : Int32)).toUInt32.toUInt16.toUInt32.toInt32) + ((((p5.toUInt32 >>> ((2 : Int32) &&& 31).toUInt32).toInt32) &&& (3 : Int32)) - (1 : Int32)))  T48.heap n0 (Nat.le_trans Z0 K49.1) ) hZ (hw _ (List.mem_of_getElem? (i := 75) rfl)) (hw _ (List.mem_of_getElem? (i := 74) rfl)) (by decide) (by decide)) (g := (mkF m 221 #[.val (.int p0), .val (.int p1), .val (.int p2), .val (.int p3), .val (.int p4), .val (.int p5), .val (.int ((p0 &&& (255 : Int32)).toUInt32.toUInt16.toUInt32.toInt32)), .val (.int ((p1 &&& (255 : Int32)).toUInt32.toUInt16.toUInt32.toInt32)), .val (.int ((p2 &&& (255 : Int32)).toUInt32.toUInt16.toUInt32.toInt32)), .val (.int (2 : Int32)), .val (.ref b36), .val (.ref b46), .val (.int (p5 &&& (3 : Int32))), .val (.int ((((p5.toUInt32 >>> ((2 : Int32) &&& 31).toUInt32).toInt32) &&& (3 : Int32)) - (1 : Int32))), .unset, .unset] [(.int (((p2 &&& (255 : Int32)).toUInt32.toUInt16.toUInt32.toInt32) + ((((p5.toUInt32 >>> ((2 : Int32) &&& 31).toUInt32).toInt32) &&& (3 : Int32)) - (1 : Int32)))), (.int (0 : Int32))])) rfl (by rw [hml]; rfl) (argsL := [(.int (0 : Int32)), (.int (((p2 &&& (255 : Int32)).toUInt32.toUInt16.toUInt32.toInt32) + ((((p5.toUInt32 >>> ((2 : Int32) &&& 31).toUInt32).toInt32) &&& (3 : Int32)) - (1 : Int32))))]) (rest := []) (lenOf pd_8 rfl) rfl (by show 2 * 0 + _ ≤ _; exact Nat.le_of_eq rfl) (hb hby at_221) (fun _ _ => ⟨rfl, rfl, (by decide : 6 + 0 ≤ _), (by decide : 522 + 0 ≤ _)⟩)
          dsimp only [Pt.U, Pt.locs, Pt.cells, Pt.slots] at X57 l57 y57 z57 st57 hQ57
          subst l57 y57 z57
          obtain ⟨rfl, Nq57, eq57⟩ := hQ57
          have N57 := Fr.app N48 Nq57
          refine Runs.by (fun t hr => st57 t hr) ?_
          show Runs p e below _ (T57.setTop (mkF m 224 #[.val (.int p0), .val (.int p1), .val (.int p2), .val (.int p3), .val (.int p4), .val (.int p5), .val (.int ((p0 &&& (255 : Int32)).toUInt32.toUInt16.toUInt32.toInt32)), .val (.int ((p1 &&& (255 : Int32)).toUInt32.toUInt16.toUInt32.toInt32)), .val (.int ((p2 &&& (255 : Int32)).toUInt32.toUInt16.toUInt32.toInt32)), .val (.int (2 : Int32)), .val (.ref b36), .val (.ref b46), .val (.int (p5 &&& (3 : Int32))), .val (.int ((((p5.toUInt32 >>> ((2 : Int32) &&& 31).toUInt32).toInt32) &&& (3 : Int32)) - (1 : Int32))), .unset, .unset] [(.int (own_max (0 : Int32) (((p2 &&& (255 : Int32)).toUInt32.toUInt16.toUInt32.toInt32) + ((((p5.toUInt32 >>> ((2 : Int32) &&& 31).toUInt32).toInt32) &&& (3 : Int32)) - (1 : Int32)))))]))
          refine Runs.by (fun _ hr => XS.istore X57.here hx rfl (hb hby at_224) rfl (l' := #[.val (.int p0), .val (.int p1), .val (.int p2), .val (.int p3), .val (.int p4), .val (.int p5), .val (.int ((p0 &&& (255 : Int32)).toUInt32.toUInt16.toUInt32.toInt32)), .val (.int ((p1 &&& (255 : Int32)).toUInt32.toUInt16.toUInt32.toInt32)), .val (.int ((p2 &&& (255 : Int32)).toUInt32.toUInt16.toUInt32.toInt32)), .val (.int (2 : Int32)), .val (.ref b36), .val (.ref b46), .val (.int (p5 &&& (3 : Int32))), .val (.int ((((p5.toUInt32 >>> ((2 : Int32) &&& 31).toUInt32).toInt32) &&& (3 : Int32)) - (1 : Int32))), .val (.int (own_max (0 : Int32) (((p2 &&& (255 : Int32)).toUInt32.toUInt16.toUInt32.toInt32) + ((((p5.toUInt32 >>> ((2 : Int32) &&& 31).toUInt32).toInt32) &&& (3 : Int32)) - (1 : Int32))))), .unset]) rfl hr) ?_
          exact JL50 (own_max (0 : Int32) (((p2 &&& (255 : Int32)).toUInt32.toUInt16.toUInt32.toInt32) + ((((p5.toUInt32 >>> ((2 : Int32) &&& 31).toUInt32).toInt32) &&& (3 : Int32)) - (1 : Int32)))) _ _ X57 eq57 N57 (own_max0 _)
  · skip
    show Runs p e below _ (s₁.setTop (mkF m 27 #[.val (.int p0), .val (.int p1), .val (.int p2), .val (.int p3), .val (.int p4), .val (.int p5), .val (.int ((p0 &&& (255 : Int32)).toUInt32.toUInt16.toUInt32.toInt32)), .val (.int ((p1 &&& (255 : Int32)).toUInt32.toUInt16.toUInt32.toInt32)), .val (.int ((p2 &&& (255 : Int32)).toUInt32.toUInt16.toUInt32.toInt32)), .unset, .unset, .unset, .unset, .unset, .unset, .unset] [(.int (3 : Int32))]))
    refine Runs.by (fun _ hr => XS.istore X0.here hx rfl (hb hby at_27) rfl (l' := #[.val (.int p0), .val (.int p1), .val (.int p2), .val (.int p3), .val (.int p4), .val (.int p5), .val (.int ((p0 &&& (255 : Int32)).toUInt32.toUInt16.toUInt32.toInt32)), .val (.int ((p1 &&& (255 : Int32)).toUInt32.toUInt16.toUInt32.toInt32)), .val (.int ((p2 &&& (255 : Int32)).toUInt32.toUInt16.toUInt32.toInt32)), .val (.int (3 : Int32)), .unset, .unset, .unset, .unset, .unset, .unset]) rfl hr) ?_
    show Runs p e below _ (s₁.setTop (mkF m 29 #[.val (.int p0), .val (.int p1), .val (.int p2), .val (.int p3), .val (.int p4), .val (.int p5), .val (.int ((p0 &&& (255 : Int32)).toUInt32.toUInt16.toUInt32.toInt32)), .val (.int ((p1 &&& (255 : Int32)).toUInt32.toUInt16.toUInt32.toInt32)), .val (.int ((p2 &&& (255 : Int32)).toUInt32.toUInt16.toUInt32.toInt32)), .val (.int (3 : Int32)), .unset, .unset, .unset, .unset, .unset, .unset] []))
    refine Runs.by (fun _ hr => XS.iload X0.here hx rfl (hb hby at_29) rfl  hr) ?_
    show Runs p e below _ (s₁.setTop (mkF m 31 #[.val (.int p0), .val (.int p1), .val (.int p2), .val (.int p3), .val (.int p4), .val (.int p5), .val (.int ((p0 &&& (255 : Int32)).toUInt32.toUInt16.toUInt32.toInt32)), .val (.int ((p1 &&& (255 : Int32)).toUInt32.toUInt16.toUInt32.toInt32)), .val (.int ((p2 &&& (255 : Int32)).toUInt32.toUInt16.toUInt32.toInt32)), .val (.int (3 : Int32)), .unset, .unset, .unset, .unset, .unset, .unset] [(.int (3 : Int32))]))
    have hc31 : ¬ ((3 : Int32) = (0 : Int32)) := (by decide)
    refine Runs.by (fun _ hr => XS.ifYes X0.here hx rfl (pc0 := 31) (pc' := 49) rfl (hb hby at_31) rfl ((if0 _ _).trans (feq hc31).2) (by decide) (by decide) hr) ?_
    show Runs p e below _ (s₁.setTop (mkF m 49 #[.val (.int p0), .val (.int p1), .val (.int p2), .val (.int p3), .val (.int p4), .val (.int p5), .val (.int ((p0 &&& (255 : Int32)).toUInt32.toUInt16.toUInt32.toInt32)), .val (.int ((p1 &&& (255 : Int32)).toUInt32.toUInt16.toUInt32.toInt32)), .val (.int ((p2 &&& (255 : Int32)).toUInt32.toUInt16.toUInt32.toInt32)), .val (.int (3 : Int32)), .unset, .unset, .unset, .unset, .unset, .unset] []))
    refine Runs.by (fun _ hr => XS.iload X0.here hx rfl (hb hby at_49) rfl  hr) ?_
    show Runs p e below _ (s₁.setTop (mkF m 51 #[.val (.int p0), .val (.int p1), .val (.int p2), .val (.int p3), .val (.int p4), .val (.int p5), .val (.int ((p0 &&& (255 : Int32)).toUInt32.toUInt16.toUInt32.toInt32)), .val (.int ((p1 &&& (255 : Int32)).toUInt32.toUInt16.toUInt32.toInt32)), .val (.int ((p2 &&& (255 : Int32)).toUInt32.toUInt16.toUInt32.toInt32)), .val (.int (3 : Int32)), .unset, .unset, .unset, .unset, .unset, .unset] [(.int (3 : Int32))]))
    refine Runs.by (fun _ hr => XS.iconst X0.here hx rfl (hb hby at_51) hr) ?_
    show Runs p e below _ (s₁.setTop (mkF m 52 #[.val (.int p0), .val (.int p1), .val (.int p2), .val (.int p3), .val (.int p4), .val (.int p5), .val (.int ((p0 &&& (255 : Int32)).toUInt32.toUInt16.toUInt32.toInt32)), .val (.int ((p1 &&& (255 : Int32)).toUInt32.toUInt16.toUInt32.toInt32)), .val (.int ((p2 &&& (255 : Int32)).toUInt32.toUInt16.toUInt32.toInt32)), .val (.int (3 : Int32)), .unset, .unset, .unset, .unset, .unset, .unset] [(.int (1 : Int32)), (.int (3 : Int32))]))
    have hc52 : ¬ ((3 : Int32) = (1 : Int32)) := (by decide)
    refine Runs.by (fun _ hr => XS.icmpYes X0.here hx rfl (pc0 := 52) (pc' := 75) rfl (hb hby at_52) rfl (feq hc52).2 (by decide) (by decide) hr) ?_
    show Runs p e below _ (s₁.setTop (mkF m 75 #[.val (.int p0), .val (.int p1), .val (.int p2), .val (.int p3), .val (.int p4), .val (.int p5), .val (.int ((p0 &&& (255 : Int32)).toUInt32.toUInt16.toUInt32.toInt32)), .val (.int ((p1 &&& (255 : Int32)).toUInt32.toUInt16.toUInt32.toInt32)), .val (.int ((p2 &&& (255 : Int32)).toUInt32.toUInt16.toUInt32.toInt32)), .val (.int (3 : Int32)), .unset, .unset, .unset, .unset, .unset, .unset] []))
    refine Runs.by (fun _ hr => XS.iload X0.here hx rfl (hb hby at_75) rfl  hr) ?_
    show Runs p e below _ (s₁.setTop (mkF m 77 #[.val (.int p0), .val (.int p1), .val (.int p2), .val (.int p3), .val (.int p4), .val (.int p5), .val (.int ((p0 &&& (255 : Int32)).toUInt32.toUInt16.toUInt32.toInt32)), .val (.int ((p1 &&& (255 : Int32)).toUInt32.toUInt16.toUInt32.toInt32)), .val (.int ((p2 &&& (255 : Int32)).toUInt32.toUInt16.toUInt32.toInt32)), .val (.int (3 : Int32)), .unset, .unset, .unset, .unset, .unset, .unset] [(.int (3 : Int32))]))
    refine Runs.by (fun _ hr => XS.iconst X0.here hx rfl (hb hby at_77) hr) ?_
    show Runs p e below _ (s₁.setTop (mkF m 78 #[.val (.int p0), .val (.int p1), .val (.int p2), .val (.int p3), .val (.int p4), .val (.int p5), .val (.int ((p0 &&& (255 : Int32)).toUInt32.toUInt16.toUInt32.toInt32)), .val (.int ((p1 &&& (255 : Int32)).toUInt32.toUInt16.toUInt32.toInt32)), .val (.int ((p2 &&& (255 : Int32)).toUInt32.toUInt16.toUInt32.toInt32)), .val (.int (3 : Int32)), .unset, .unset, .unset, .unset, .unset, .unset] [(.int (2 : Int32)), (.int (3 : Int32))]))
    have hc78 : ¬ ((3 : Int32) = (2 : Int32)) := (by decide)
    refine Runs.by (fun _ hr => XS.icmpYes X0.here hx rfl (pc0 := 78) (pc' := 106) rfl (hb hby at_78) rfl (feq hc78).2 (by decide) (by decide) hr) ?_
    show Runs p e below _ (s₁.setTop (mkF m 106 #[.val (.int p0), .val (.int p1), .val (.int p2), .val (.int p3), .val (.int p4), .val (.int p5), .val (.int ((p0 &&& (255 : Int32)).toUInt32.toUInt16.toUInt32.toInt32)), .val (.int ((p1 &&& (255 : Int32)).toUInt32.toUInt16.toUInt32.toInt32)), .val (.int ((p2 &&& (255 : Int32)).toUInt32.toUInt16.toUInt32.toInt32)), .val (.int (3 : Int32)), .unset, .unset, .unset, .unset, .unset, .unset] []))
    obtain ⟨T58, h58, X58, e58, E58, A58, D58, -, st58⟩ := newO X0 hx hZ hown (hw _ (List.mem_of_getElem? (i := 0) rfl)) (hw _ (List.mem_of_getElem? (i := 1) rfl)) (hw _ (List.mem_of_getElem? (i := 2) rfl)) e0 (g := (mkF m 106 #[.val (.int p0), .val (.int p1), .val (.int p2), .val (.int p3), .val (.int p4), .val (.int p5), .val (.int ((p0 &&& (255 : Int32)).toUInt32.toUInt16.toUInt32.toInt32)), .val (.int ((p1 &&& (255 : Int32)).toUInt32.toUInt16.toUInt32.toInt32)), .val (.int ((p2 &&& (255 : Int32)).toUInt32.toUInt16.toUInt32.toInt32)), .val (.int (3 : Int32)), .unset, .unset, .unset, .unset, .unset, .unset] [])) rfl (hb hby at_106) (by decide) (by decide)
    obtain ⟨b58, gz58⟩ : ∃ z, z = h0.size := ⟨_, rfl⟩
    rw [← gz58] at A58 D58 st58
    have Sf_b58 : Safe Z consts_1 s.vm h0 b58 := Safe.new (Nat.le_of_eq gz58.symm)
    have g_b58 : n0 ≤ b58 := Nat.le_trans (Nat.le_trans Z0 K0.1) (Nat.le_of_eq gz58.symm)
    have sz_b58 : h0.size ≤ b58 := Nat.le_trans K0.1 (Nat.le_of_eq gz58.symm)
    have K59 : Keep h0 h58 [] := K0.ext E58
    have O_59 : Old Z n0 h58 := O0.ext E58
    have Sf_b58__K59 := Safe.ext E58 hC.1 Sf_b58
    have hk : _ ≤ h58.size := Nat.le_trans hk E58.1
    have hC := hC.trans (CHr.ext E58 hC.1)
    have F_coder_b58 : Fld Z h58 b58 "java/lang/String" "coder" "B" (.int (0 : Int32)) := D58 (Or.inr (hw _ (List.mem_of_getElem? (i := 27) rfl))) (ty := .byte) (by decide)
    have F_value_b58 : Fld Z h58 b58 "java/lang/String" "value" "[B" .null := D58 (Or.inr (hw _ (List.mem_of_getElem? (i := 29) rfl))) (ty := (.array .byte)) (by decide)
    refine Runs.by st58 ?_
    show Runs p e below _ (T58.setTop (mkF m 109 #[.val (.int p0), .val (.int p1), .val (.int p2), .val (.int p3), .val (.int p4), .val (.int p5), .val (.int ((p0 &&& (255 : Int32)).toUInt32.toUInt16.toUInt32.toInt32)), .val (.int ((p1 &&& (255 : Int32)).toUInt32.toUInt16.toUInt32.toInt32)), .val (.int ((p2 &&& (255 : Int32)).toUInt32.toUInt16.toUInt32.toInt32)), .val (.int (3 : Int32)), .unset, .unset, .unset, .unset, .unset, .unset] [(.ref b58)]))
    refine Runs.by (fun _ hr => XS.dup X58.here hx rfl (hb hby at_109) rfl rfl hr) ?_
    show Runs p e below _ (T58.setTop (mkF m 110 #[.val (.int p0), .val (.int p1), .val (.int p2), .val (.int p3), .val (.int p4), .val (.int p5), .val (.int ((p0 &&& (255 : Int32)).toUInt32.toUInt16.toUInt32.toInt32)), .val (.int ((p1 &&& (255 : Int32)).toUInt32.toUInt16.toUInt32.toInt32)), .val (.int ((p2 &&& (255 : Int32)).toUInt32.toUInt16.toUInt32.toInt32)), .val (.int (3 : Int32)), .unset, .unset, .unset, .unset, .unset, .unset] [(.ref b58), (.ref b58)]))
    refine Runs.by (fun _ hr => XS.iconst X58.here hx rfl (hb hby at_110) hr) ?_
    show Runs p e below _ (T58.setTop (mkF m 111 #[.val (.int p0), .val (.int p1), .val (.int p2), .val (.int p3), .val (.int p4), .val (.int p5), .val (.int ((p0 &&& (255 : Int32)).toUInt32.toUInt16.toUInt32.toInt32)), .val (.int ((p1 &&& (255 : Int32)).toUInt32.toUInt16.toUInt32.toInt32)), .val (.int ((p2 &&& (255 : Int32)).toUInt32.toUInt16.toUInt32.toInt32)), .val (.int (3 : Int32)), .unset, .unset, .unset, .unset, .unset, .unset] [(.int (3 : Int32)), (.ref b58), (.ref b58)]))
    obtain ⟨T60, h60, k60, X60, e60, E60, A60, st60⟩ := newP X58 hx hZ (hw _ (List.mem_of_getElem? (i := 3) rfl)) e58 (g := (mkF m 111 #[.val (.int p0), .val (.int p1), .val (.int p2), .val (.int p3), .val (.int p4), .val (.int p5), .val (.int ((p0 &&& (255 : Int32)).toUInt32.toUInt16.toUInt32.toInt32)), .val (.int ((p1 &&& (255 : Int32)).toUInt32.toUInt16.toUInt32.toInt32)), .val (.int ((p2 &&& (255 : Int32)).toUInt32.toUInt16.toUInt32.toInt32)), .val (.int (3 : Int32)), .unset, .unset, .unset, .unset, .unset, .unset] [(.int (3 : Int32)), (.ref b58), (.ref b58)])) rfl (hb hby at_111) rfl (by decide) (cap := 3) (by decide) (by decide) (by decide) (by decide)
    obtain ⟨b60, gz60⟩ : ∃ z, z = h58.size := ⟨_, rfl⟩
    rw [← gz60] at A60 st60
    have ne_b58_b60 : b58 ≠ b60 := Nat.ne_of_lt (Nat.lt_of_lt_of_le A58.lt (Nat.le_of_eq gz60.symm))
    have Sf_b60 : Safe Z consts_1 s.vm h58 b60 := Safe.new (Nat.le_of_eq gz60.symm)
    have g_b60 : n0 ≤ b60 := Nat.le_trans (Nat.le_trans Z0 K59.1) (Nat.le_of_eq gz60.symm)
    have sz_b60 : h0.size ≤ b60 := Nat.le_trans K59.1 (Nat.le_of_eq gz60.symm)
    have K61 : Keep h0 h60 [] := K59.ext E60
    have O_61 : Old Z n0 h60 := O_59.ext E60
    have Sf_b58__K61 := Safe.ext E60 hC.1 Sf_b58__K59
    have Sf_b60__K61 := Safe.ext E60 hC.1 Sf_b60
    have hk : _ ≤ h60.size := Nat.le_trans hk E60.1
    have hC := hC.trans (CHr.ext E60 hC.1)
    have V60 : Arv Z h60 b60 k60 .char (3 : Int32) [(.int (0 : Int32)), (.int (0 : Int32)), (.int (0 : Int32))] (.int (0 : Int32)) := (Arv.new A60 (by decide)).pad (pad_rep [] (.int (0 : Int32)) 3)
    refine Runs.by st60 ?_
    show Runs p e below _ (T60.setTop (mkF m 113 #[.val (.int p0), .val (.int p1), .val (.int p2), .val (.int p3), .val (.int p4), .val (.int p5), .val (.int ((p0 &&& (255 : Int32)).toUInt32.toUInt16.toUInt32.toInt32)), .val (.int ((p1 &&& (255 : Int32)).toUInt32.toUInt16.toUInt32.toInt32)), .val (.int ((p2 &&& (255 : Int32)).toUInt32.toUInt16.toUInt32.toInt32)), .val (.int (3 : Int32)), .unset, .unset, .unset, .unset, .unset, .unset] [(.ref b60), (.ref b58), (.ref b58)]))
    refine Runs.by (fun _ hr => XS.dup X60.here hx rfl (hb hby at_113) rfl rfl hr) ?_
    show Runs p e below _ (T60.setTop (mkF m 114 #[.val (.int p0), .val (.int p1), .val (.int p2), .val (.int p3), .val (.int p4), .val (.int p5), .val (.int ((p0 &&& (255 : Int32)).toUInt32.toUInt16.toUInt32.toInt32)), .val (.int ((p1 &&& (255 : Int32)).toUInt32.toUInt16.toUInt32.toInt32)), .val (.int ((p2 &&& (255 : Int32)).toUInt32.toUInt16.toUInt32.toInt32)), .val (.int (3 : Int32)), .unset, .unset, .unset, .unset, .unset, .unset] [(.ref b60), (.ref b60), (.ref b58), (.ref b58)]))
    refine Runs.by (fun _ hr => XS.iconst X60.here hx rfl (hb hby at_114) hr) ?_
    show Runs p e below _ (T60.setTop (mkF m 115 #[.val (.int p0), .val (.int p1), .val (.int p2), .val (.int p3), .val (.int p4), .val (.int p5), .val (.int ((p0 &&& (255 : Int32)).toUInt32.toUInt16.toUInt32.toInt32)), .val (.int ((p1 &&& (255 : Int32)).toUInt32.toUInt16.toUInt32.toInt32)), .val (.int ((p2 &&& (255 : Int32)).toUInt32.toUInt16.toUInt32.toInt32)), .val (.int (3 : Int32)), .unset, .unset, .unset, .unset, .unset, .unset] [(.int (0 : Int32)), (.ref b60), (.ref b60), (.ref b58), (.ref b58)]))
    refine Runs.by (fun _ hr => XS.iload X60.here hx rfl (hb hby at_115) rfl  hr) ?_
    show Runs p e below _ (T60.setTop (mkF m 117 #[.val (.int p0), .val (.int p1), .val (.int p2), .val (.int p3), .val (.int p4), .val (.int p5), .val (.int ((p0 &&& (255 : Int32)).toUInt32.toUInt16.toUInt32.toInt32)), .val (.int ((p1 &&& (255 : Int32)).toUInt32.toUInt16.toUInt32.toInt32)), .val (.int ((p2 &&& (255 : Int32)).toUInt32.toUInt16.toUInt32.toInt32)), .val (.int (3 : Int32)), .unset, .unset, .unset, .unset, .unset, .unset] [(.int ((p0 &&& (255 : Int32)).toUInt32.toUInt16.toUInt32.toInt32)), (.int (0 : Int32)), (.ref b60), (.ref b60), (.ref b58), (.ref b58)]))
    obtain ⟨cl62, Ar62, q62, S62, N62', H62, G62⟩ := id V60
    have hin62 : ¬ ((0 : Int32) < 0 ∨ cl62.slots.size ≤ ((0 : Int32)).toNatClampNeg) := inb_of S62 ⟨by decide, by decide⟩
    obtain ⟨T62, h62, X62, e62, W62, st62⟩ := stC X60 hx hZ e60 Ar62 (j := (0 : Int32)) hin62 (g := (mkF m 117 #[.val (.int p0), .val (.int p1), .val (.int p2), .val (.int p3), .val (.int p4), .val (.int p5), .val (.int ((p0 &&& (255 : Int32)).toUInt32.toUInt16.toUInt32.toInt32)), .val (.int ((p1 &&& (255 : Int32)).toUInt32.toUInt16.toUInt32.toInt32)), .val (.int ((p2 &&& (255 : Int32)).toUInt32.toUInt16.toUInt32.toInt32)), .val (.int (3 : Int32)), .unset, .unset, .unset, .unset, .unset, .unset] [(.int ((p0 &&& (255 : Int32)).toUInt32.toUInt16.toUInt32.toInt32)), (.int (0 : Int32)), (.ref b60), (.ref b60), (.ref b58), (.ref b58)])) rfl rfl (hb hby at_117)
    have V62 : Arv Z h62 b60 k60 .char (3 : Int32) [(.int (nar .char ((p0 &&& (255 : Int32)).toUInt32.toUInt16.toUInt32.toInt32))), (.int (0 : Int32)), (.int (0 : Int32))] (.int (0 : Int32)) := Arv.set Ar62 q62 S62 N62' H62 G62 (fits_nar_char _) W62 (0) rfl (Nat.le_of_ble_eq_true rfl)
    have K63 : Keep h0 h62 [] := K61.wr W62 (Or.inr sz_b60)
    have O_63 : Old Z n0 h62 := O_61.wr W62 g_b60
    have Sf_b58__K63 := Safe.wr W62 Sf_b60__K61 hC.1 Sf_b58__K61
    have Sf_b60__K63 := Safe.wr W62 Sf_b60__K61 hC.1 Sf_b60__K61
    have hk : _ ≤ h62.size := Nat.le_trans hk (Keep.of_wr W62).1
    have hC := hC.trans (CHr.wr W62 Sf_b60__K61 hC.1)
    have N62 := Fr.snoc X62 N0 g_b60
    refine Runs.by st62 ?_
    show Runs p e below _ (T62.setTop (mkF m 118 #[.val (.int p0), .val (.int p1), .val (.int p2), .val (.int p3), .val (.int p4), .val (.int p5), .val (.int ((p0 &&& (255 : Int32)).toUInt32.toUInt16.toUInt32.toInt32)), .val (.int ((p1 &&& (255 : Int32)).toUInt32.toUInt16.toUInt32.toInt32)), .val (.int ((p2 &&& (255 : Int32)).toUInt32.toUInt16.toUInt32.toInt32)), .val (.int (3 : Int32)), .unset, .unset, .unset, .unset, .unset, .unset] [(.ref b60), (.ref b58), (.ref b58)]))
    refine Runs.by (fun _ hr => XS.dup X62.here hx rfl (hb hby at_118) rfl rfl hr) ?_
    show Runs p e below _ (T62.setTop (mkF m 119 #[.val (.int p0), .val (.int p1), .val (.int p2), .val (.int p3), .val (.int p4), .val (.int p5), .val (.int ((p0 &&& (255 : Int32)).toUInt32.toUInt16.toUInt32.toInt32)), .val (.int ((p1 &&& (255 : Int32)).toUInt32.toUInt16.toUInt32.toInt32)), .val (.int ((p2 &&& (255 : Int32)).toUInt32.toUInt16.toUInt32.toInt32)), .val (.int (3 : Int32)), .unset, .unset, .unset, .unset, .unset, .unset] [(.ref b60), (.ref b60), (.ref b58), (.ref b58)]))
    refine Runs.by (fun _ hr => XS.iconst X62.here hx rfl (hb hby at_119) hr) ?_
    show Runs p e below _ (T62.setTop (mkF m 120 #[.val (.int p0), .val (.int p1), .val (.int p2), .val (.int p3), .val (.int p4), .val (.int p5), .val (.int ((p0 &&& (255 : Int32)).toUInt32.toUInt16.toUInt32.toInt32)), .val (.int ((p1 &&& (255 : Int32)).toUInt32.toUInt16.toUInt32.toInt32)), .val (.int ((p2 &&& (255 : Int32)).toUInt32.toUInt16.toUInt32.toInt32)), .val (.int (3 : Int32)), .unset, .unset, .unset, .unset, .unset, .unset] [(.int (1 : Int32)), (.ref b60), (.ref b60), (.ref b58), (.ref b58)]))
    refine Runs.by (fun _ hr => XS.iload X62.here hx rfl (hb hby at_120) rfl  hr) ?_
    show Runs p e below _ (T62.setTop (mkF m 122 #[.val (.int p0), .val (.int p1), .val (.int p2), .val (.int p3), .val (.int p4), .val (.int p5), .val (.int ((p0 &&& (255 : Int32)).toUInt32.toUInt16.toUInt32.toInt32)), .val (.int ((p1 &&& (255 : Int32)).toUInt32.toUInt16.toUInt32.toInt32)), .val (.int ((p2 &&& (255 : Int32)).toUInt32.toUInt16.toUInt32.toInt32)), .val (.int (3 : Int32)), .unset, .unset, .unset, .unset, .unset, .unset] [(.int ((p1 &&& (255 : Int32)).toUInt32.toUInt16.toUInt32.toInt32)), (.int (1 : Int32)), (.ref b60), (.ref b60), (.ref b58), (.ref b58)]))
    obtain ⟨cl64, Ar64, q64, S64, N64', H64, G64⟩ := id V62
    have hin64 : ¬ ((1 : Int32) < 0 ∨ cl64.slots.size ≤ ((1 : Int32)).toNatClampNeg) := inb_of S64 ⟨by decide, by decide⟩
    obtain ⟨T64, h64, X64, e64, W64, st64⟩ := stC X62 hx hZ e62 Ar64 (j := (1 : Int32)) hin64 (g := (mkF m 122 #[.val (.int p0), .val (.int p1), .val (.int p2), .val (.int p3), .val (.int p4), .val (.int p5), .val (.int ((p0 &&& (255 : Int32)).toUInt32.toUInt16.toUInt32.toInt32)), .val (.int ((p1 &&& (255 : Int32)).toUInt32.toUInt16.toUInt32.toInt32)), .val (.int ((p2 &&& (255 : Int32)).toUInt32.toUInt16.toUInt32.toInt32)), .val (.int (3 : Int32)), .unset, .unset, .unset, .unset, .unset, .unset] [(.int ((p1 &&& (255 : Int32)).toUInt32.toUInt16.toUInt32.toInt32)), (.int (1 : Int32)), (.ref b60), (.ref b60), (.ref b58), (.ref b58)])) rfl rfl (hb hby at_122)
    have V64 : Arv Z h64 b60 k60 .char (3 : Int32) [(.int (nar .char ((p0 &&& (255 : Int32)).toUInt32.toUInt16.toUInt32.toInt32))), (.int (nar .char ((p1 &&& (255 : Int32)).toUInt32.toUInt16.toUInt32.toInt32))), (.int (0 : Int32))] (.int (0 : Int32)) := Arv.set Ar64 q64 S64 N64' H64 G64 (fits_nar_char _) W64 (1) rfl (Nat.le_of_ble_eq_true rfl)
    have K65 : Keep h0 h64 [] := K63.wr W64 (Or.inr sz_b60)
    have O_65 : Old Z n0 h64 := O_63.wr W64 g_b60
    have Sf_b58__K65 := Safe.wr W64 Sf_b60__K63 hC.1 Sf_b58__K63
    have Sf_b60__K65 := Safe.wr W64 Sf_b60__K63 hC.1 Sf_b60__K63
    have hk : _ ≤ h64.size := Nat.le_trans hk (Keep.of_wr W64).1
    have hC := hC.trans (CHr.wr W64 Sf_b60__K63 hC.1)
    have N64 := Fr.snoc X64 N62 g_b60
    refine Runs.by st64 ?_
    show Runs p e below _ (T64.setTop (mkF m 123 #[.val (.int p0), .val (.int p1), .val (.int p2), .val (.int p3), .val (.int p4), .val (.int p5), .val (.int ((p0 &&& (255 : Int32)).toUInt32.toUInt16.toUInt32.toInt32)), .val (.int ((p1 &&& (255 : Int32)).toUInt32.toUInt16.toUInt32.toInt32)), .val (.int ((p2 &&& (255 : Int32)).toUInt32.toUInt16.toUInt32.toInt32)), .val (.int (3 : Int32)), .unset, .unset, .unset, .unset, .unset, .unset] [(.ref b60), (.ref b58), (.ref b58)]))
    refine Runs.by (fun _ hr => XS.dup X64.here hx rfl (hb hby at_123) rfl rfl hr) ?_
    show Runs p e below _ (T64.setTop (mkF m 124 #[.val (.int p0), .val (.int p1), .val (.int p2), .val (.int p3), .val (.int p4), .val (.int p5), .val (.int ((p0 &&& (255 : Int32)).toUInt32.toUInt16.toUInt32.toInt32)), .val (.int ((p1 &&& (255 : Int32)).toUInt32.toUInt16.toUInt32.toInt32)), .val (.int ((p2 &&& (255 : Int32)).toUInt32.toUInt16.toUInt32.toInt32)), .val (.int (3 : Int32)), .unset, .unset, .unset, .unset, .unset, .unset] [(.ref b60), (.ref b60), (.ref b58), (.ref b58)]))
    refine Runs.by (fun _ hr => XS.iconst X64.here hx rfl (hb hby at_124) hr) ?_
    show Runs p e below _ (T64.setTop (mkF m 125 #[.val (.int p0), .val (.int p1), .val (.int p2), .val (.int p3), .val (.int p4), .val (.int p5), .val (.int ((p0 &&& (255 : Int32)).toUInt32.toUInt16.toUInt32.toInt32)), .val (.int ((p1 &&& (255 : Int32)).toUInt32.toUInt16.toUInt32.toInt32)), .val (.int ((p2 &&& (255 : Int32)).toUInt32.toUInt16.toUInt32.toInt32)), .val (.int (3 : Int32)), .unset, .unset, .unset, .unset, .unset, .unset] [(.int (2 : Int32)), (.ref b60), (.ref b60), (.ref b58), (.ref b58)]))
    refine Runs.by (fun _ hr => XS.iload X64.here hx rfl (hb hby at_125) rfl  hr) ?_
    show Runs p e below _ (T64.setTop (mkF m 127 #[.val (.int p0), .val (.int p1), .val (.int p2), .val (.int p3), .val (.int p4), .val (.int p5), .val (.int ((p0 &&& (255 : Int32)).toUInt32.toUInt16.toUInt32.toInt32)), .val (.int ((p1 &&& (255 : Int32)).toUInt32.toUInt16.toUInt32.toInt32)), .val (.int ((p2 &&& (255 : Int32)).toUInt32.toUInt16.toUInt32.toInt32)), .val (.int (3 : Int32)), .unset, .unset, .unset, .unset, .unset, .unset] [(.int ((p2 &&& (255 : Int32)).toUInt32.toUInt16.toUInt32.toInt32)), (.int (2 : Int32)), (.ref b60), (.ref b60), (.ref b58), (.ref b58)]))
    obtain ⟨cl66, Ar66, q66, S66, N66', H66, G66⟩ := id V64
    have hin66 : ¬ ((2 : Int32) < 0 ∨ cl66.slots.size ≤ ((2 : Int32)).toNatClampNeg) := inb_of S66 ⟨by decide, by decide⟩
    obtain ⟨T66, h66, X66, e66, W66, st66⟩ := stC X64 hx hZ e64 Ar66 (j := (2 : Int32)) hin66 (g := (mkF m 127 #[.val (.int p0), .val (.int p1), .val (.int p2), .val (.int p3), .val (.int p4), .val (.int p5), .val (.int ((p0 &&& (255 : Int32)).toUInt32.toUInt16.toUInt32.toInt32)), .val (.int ((p1 &&& (255 : Int32)).toUInt32.toUInt16.toUInt32.toInt32)), .val (.int ((p2 &&& (255 : Int32)).toUInt32.toUInt16.toUInt32.toInt32)), .val (.int (3 : Int32)), .unset, .unset, .unset, .unset, .unset, .unset] [(.int ((p2 &&& (255 : Int32)).toUInt32.toUInt16.toUInt32.toInt32)), (.int (2 : Int32)), (.ref b60), (.ref b60), (.ref b58), (.ref b58)])) rfl rfl (hb hby at_127)
    have V66 : Arv Z h66 b60 k60 .char (3 : Int32) [(.int (nar .char ((p0 &&& (255 : Int32)).toUInt32.toUInt16.toUInt32.toInt32))), (.int (nar .char ((p1 &&& (255 : Int32)).toUInt32.toUInt16.toUInt32.toInt32))), (.int (nar .char ((p2 &&& (255 : Int32)).toUInt32.toUInt16.toUInt32.toInt32)))] (.int (0 : Int32)) := Arv.set Ar66 q66 S66 N66' H66 G66 (fits_nar_char _) W66 (2) rfl (Nat.le_of_ble_eq_true rfl)
    have K67 : Keep h0 h66 [] := K65.wr W66 (Or.inr sz_b60)
    have O_67 : Old Z n0 h66 := O_65.wr W66 g_b60
    have Sf_b58__K67 := Safe.wr W66 Sf_b60__K65 hC.1 Sf_b58__K65
    have Sf_b60__K67 := Safe.wr W66 Sf_b60__K65 hC.1 Sf_b60__K65
    have hk : _ ≤ h66.size := Nat.le_trans hk (Keep.of_wr W66).1
    have hC := hC.trans (CHr.wr W66 Sf_b60__K65 hC.1)
    have N66 := Fr.snoc X66 N64 g_b60
    refine Runs.by st66 ?_
    show Runs p e below _ (T66.setTop (mkF m 128 #[.val (.int p0), .val (.int p1), .val (.int p2), .val (.int p3), .val (.int p4), .val (.int p5), .val (.int ((p0 &&& (255 : Int32)).toUInt32.toUInt16.toUInt32.toInt32)), .val (.int ((p1 &&& (255 : Int32)).toUInt32.toUInt16.toUInt32.toInt32)), .val (.int ((p2 &&& (255 : Int32)).toUInt32.toUInt16.toUInt32.toInt32)), .val (.int (3 : Int32)), .unset, .unset, .unset, .unset, .unset, .unset] [(.ref b60), (.ref b58), (.ref b58)]))
    have hpc : ∀ c ∈ ([(nar .char ((p0 &&& (255 : Int32)).toUInt32.toUInt16.toUInt32.toInt32)), (nar .char ((p1 &&& (255 : Int32)).toUInt32.toUInt16.toUInt32.toInt32)), (nar .char ((p2 &&& (255 : Int32)).toUInt32.toUInt16.toUInt32.toInt32))] : List Int32), ¬ c < 0 ∧ ¬ (255 : Int32) < c := by
        intro c hc
        simp only [List.mem_cons, List.not_mem_nil, or_false] at hc
        rcases hc with rfl | rfl | rfl
        · exact own_and255 _
        · exact own_and255 _
        · exact own_and255 _
    obtain ⟨_, _, ⟨T68, L68, k68, n68⟩, -, X68, ⟨Lc68, hQ68, l68, y68, z68⟩, st68⟩ := X66.specialBack hx (y := (⟨"java/lang/String", "<init>", "([C)V"⟩ : MethodName)) rfl hown (mvT hZ (hw _ (List.mem_of_getElem? (i := 4) rfl))) (mvT hZ (hw _ (List.mem_of_getElem? (i := 5) rfl))) (mvT hZ (hw _ (List.mem_of_getElem? (i := 6) rfl))) (by decide) (StrChars.Road.backV (W := 1) hZ hws (kI := 4) (hw _ (List.mem_of_getElem? (i := 1) rfl)) (cs := ([(nar .char ((p0 &&& (255 : Int32)).toUInt32.toUInt16.toUInt32.toInt32)), (nar .char ((p1 &&& (255 : Int32)).toUInt32.toUInt16.toUInt32.toInt32)), (nar .char ((p2 &&& (255 : Int32)).toUInt32.toUInt16.toUInt32.toInt32))] : List Int32)) (bs := ([(nar .char ((p0 &&& (255 : Int32)).toUInt32.toUInt16.toUInt32.toInt32)), (nar .char ((p1 &&& (255 : Int32)).toUInt32.toUInt16.toUInt32.toInt32)), (nar .char ((p2 &&& (255 : Int32)).toUInt32.toUInt16.toUInt32.toInt32))] : List Int32).map (fun c => c.toInt8.toInt32)) (n := 3) g_b58 (Nat.le_trans Z0 K67.1) ((((A58.ext E60).wr W62).wr W64).wr W66) ((((F_value_b58.ext E60).other W62 (Or.inl ne_b58_b60)).other W64 (Or.inl ne_b58_b60)).other W66 (Or.inl ne_b58_b60)) ((((F_coder_b58.ext E60).other W62 (Or.inl ne_b58_b60)).other W64 (Or.inl ne_b58_b60)).other W66 (Or.inl ne_b58_b60)) V66 (SC.ext O_67.2) cC rfl rfl (by decide) (by decide) hpc rfl (by decide) (by decide)) (g := (mkF m 128 #[.val (.int p0), .val (.int p1), .val (.int p2), .val (.int p3), .val (.int p4), .val (.int p5), .val (.int ((p0 &&& (255 : Int32)).toUInt32.toUInt16.toUInt32.toInt32)), .val (.int ((p1 &&& (255 : Int32)).toUInt32.toUInt16.toUInt32.toInt32)), .val (.int ((p2 &&& (255 : Int32)).toUInt32.toUInt16.toUInt32.toInt32)), .val (.int (3 : Int32)), .unset, .unset, .unset, .unset, .unset, .unset] [(.ref b60), (.ref b58), (.ref b58)])) rfl (by rw [hml]; rfl) (Steps.refl _) (a := b58) (argsL := [(.ref b60)]) (rest := [(.ref b58)]) (lenOf pd_9 rfl) rfl (by show 2 * 0 + _ ≤ _; exact Nat.le_of_eq rfl) (hb hby at_128) (fun _ _ => ⟨rfl, e66, (by decide : 2 + 1 ≤ _), (by decide : 7 + 3 ≤ _)⟩)
    dsimp only [Pt.U, Pt.locs, Pt.cells, Pt.slots] at X68 l68 y68 z68 st68 hQ68
    subst l68 y68 z68
    obtain ⟨rfl, Nq68, Kq68, fE68, fC68, t68, kb68, g_t68, szt68, nt68, fV68, fA68⟩ := hQ68
    have N68 := Fr.app N66 Nq68
    have ne_b58_t68 : b58 ≠ t68 := Nat.ne_of_lt (Nat.lt_of_lt_of_le ((((A58.ext E60).wr W62).wr W64).wr W66).lt szt68)
    have ne_b60_t68 : b60 ≠ t68 := Nat.ne_of_lt (Nat.lt_of_lt_of_le V66.lt szt68)
    have sz_t68 : h0.size ≤ t68 := Nat.le_trans K67.1 szt68
    have K69 : Keep h0 T68.heap [] := Keep.trans (ws := []) K67 Kq68 (allS (Or.inr sz_b58) all0)
    have O_69 : Old Z n0 T68.heap := O_67.keep Kq68 (allS g_b58 all0)
    have Sf_b58__K69 := Safe.keep Kq68 (allS Sf_b58__K67 all0) hC.1 Sf_b58__K67
    have Sf_b60__K69 := Safe.keep Kq68 (allS Sf_b58__K67 all0) hC.1 Sf_b60__K67
    have hk : _ ≤ T68.heap.size := Nat.le_trans hk Kq68.1
    have hC := hC.trans (CHr.keep Kq68 (allS Sf_b58__K67 all0) hC.1)
    refine Runs.by (fun _ hr => st68.trans hr) ?_
    show Runs p e below _ (T68.setTop (mkF m 131 #[.val (.int p0), .val (.int p1), .val (.int p2), .val (.int p3), .val (.int p4), .val (.int p5), .val (.int ((p0 &&& (255 : Int32)).toUInt32.toUInt16.toUInt32.toInt32)), .val (.int ((p1 &&& (255 : Int32)).toUInt32.toUInt16.toUInt32.toInt32)), .val (.int ((p2 &&& (255 : Int32)).toUInt32.toUInt16.toUInt32.toInt32)), .val (.int (3 : Int32)), .unset, .unset, .unset, .unset, .unset, .unset] [(.ref b58)]))
    refine Runs.by (fun _ hr => XS.astore X68.here hx rfl (hb hby at_131) rfl rfl (l' := #[.val (.int p0), .val (.int p1), .val (.int p2), .val (.int p3), .val (.int p4), .val (.int p5), .val (.int ((p0 &&& (255 : Int32)).toUInt32.toUInt16.toUInt32.toInt32)), .val (.int ((p1 &&& (255 : Int32)).toUInt32.toUInt16.toUInt32.toInt32)), .val (.int ((p2 &&& (255 : Int32)).toUInt32.toUInt16.toUInt32.toInt32)), .val (.int (3 : Int32)), .val (.ref b58), .unset, .unset, .unset, .unset, .unset]) rfl hr) ?_
    show Runs p e below _ (T68.setTop (mkF m 133 #[.val (.int p0), .val (.int p1), .val (.int p2), .val (.int p3), .val (.int p4), .val (.int p5), .val (.int ((p0 &&& (255 : Int32)).toUInt32.toUInt16.toUInt32.toInt32)), .val (.int ((p1 &&& (255 : Int32)).toUInt32.toUInt16.toUInt32.toInt32)), .val (.int ((p2 &&& (255 : Int32)).toUInt32.toUInt16.toUInt32.toInt32)), .val (.int (3 : Int32)), .val (.ref b58), .unset, .unset, .unset, .unset, .unset] []))
    obtain ⟨T70, h70, X70, e70, E70, A70, D70, -, st70⟩ := newO X68 hx hZ hown (hw _ (List.mem_of_getElem? (i := 30) rfl)) (hw _ (List.mem_of_getElem? (i := 31) rfl)) (hw _ (List.mem_of_getElem? (i := 32) rfl)) rfl (g := (mkF m 133 #[.val (.int p0), .val (.int p1), .val (.int p2), .val (.int p3), .val (.int p4), .val (.int p5), .val (.int ((p0 &&& (255 : Int32)).toUInt32.toUInt16.toUInt32.toInt32)), .val (.int ((p1 &&& (255 : Int32)).toUInt32.toUInt16.toUInt32.toInt32)), .val (.int ((p2 &&& (255 : Int32)).toUInt32.toUInt16.toUInt32.toInt32)), .val (.int (3 : Int32)), .val (.ref b58), .unset, .unset, .unset, .unset, .unset] [])) rfl (hb hby at_133) (by decide) (by decide)
    obtain ⟨b70, gz70⟩ : ∃ z, z = T68.heap.size := ⟨_, rfl⟩
    rw [← gz70] at A70 D70 st70
    have ne_b58_b70 : b58 ≠ b70 := Nat.ne_of_lt (Nat.lt_of_lt_of_le fE68.lt (Nat.le_of_eq gz70.symm))
    have ne_b60_b70 : b60 ≠ b70 := Nat.ne_of_lt (Nat.lt_of_lt_of_le (V66.keep Kq68 (ninS (Ne.symm ne_b58_b60) nin0)).lt (Nat.le_of_eq gz70.symm))
    have ne_t68_b70 : t68 ≠ b70 := Nat.ne_of_lt (Nat.lt_of_lt_of_le fA68.lt (Nat.le_of_eq gz70.symm))
    have Sf_b70 : Safe Z consts_1 s.vm T68.heap b70 := Safe.new (Nat.le_of_eq gz70.symm)
    have g_b70 : n0 ≤ b70 := Nat.le_trans (Nat.le_trans Z0 K69.1) (Nat.le_of_eq gz70.symm)
    have sz_b70 : h0.size ≤ b70 := Nat.le_trans K69.1 (Nat.le_of_eq gz70.symm)
    have K71 : Keep h0 h70 [] := K69.ext E70
    have O_71 : Old Z n0 h70 := O_69.ext E70
    have Sf_b58__K71 := Safe.ext E70 hC.1 Sf_b58__K69
    have Sf_b60__K71 := Safe.ext E70 hC.1 Sf_b60__K69
    have Sf_b70__K71 := Safe.ext E70 hC.1 Sf_b70
    have hk : _ ≤ h70.size := Nat.le_trans hk E70.1
    have hC := hC.trans (CHr.ext E70 hC.1)
    have F_firstBytes_b70 : Fld Z h70 b70 "com/example/vedette/vedette/io/Utf8Buffer$Stops" "firstBytes" "[Z" .null := D70 (Or.inr (hw _ (List.mem_of_getElem? (i := 39) rfl))) (ty := (.array .boolean)) (by decide)
    have F_chars_b70 : Fld Z h70 b70 "com/example/vedette/vedette/io/Utf8Buffer$Stops" "chars" "[Z" .null := D70 (Or.inr (hw _ (List.mem_of_getElem? (i := 77) rfl))) (ty := (.array .boolean)) (by decide)
    refine Runs.by st70 ?_
    show Runs p e below _ (T70.setTop (mkF m 136 #[.val (.int p0), .val (.int p1), .val (.int p2), .val (.int p3), .val (.int p4), .val (.int p5), .val (.int ((p0 &&& (255 : Int32)).toUInt32.toUInt16.toUInt32.toInt32)), .val (.int ((p1 &&& (255 : Int32)).toUInt32.toUInt16.toUInt32.toInt32)), .val (.int ((p2 &&& (255 : Int32)).toUInt32.toUInt16.toUInt32.toInt32)), .val (.int (3 : Int32)), .val (.ref b58), .unset, .unset, .unset, .unset, .unset] [(.ref b70)]))
    refine Runs.by (fun _ hr => XS.dup X70.here hx rfl (hb hby at_136) rfl rfl hr) ?_
    show Runs p e below _ (T70.setTop (mkF m 137 #[.val (.int p0), .val (.int p1), .val (.int p2), .val (.int p3), .val (.int p4), .val (.int p5), .val (.int ((p0 &&& (255 : Int32)).toUInt32.toUInt16.toUInt32.toInt32)), .val (.int ((p1 &&& (255 : Int32)).toUInt32.toUInt16.toUInt32.toInt32)), .val (.int ((p2 &&& (255 : Int32)).toUInt32.toUInt16.toUInt32.toInt32)), .val (.int (3 : Int32)), .val (.ref b58), .unset, .unset, .unset, .unset, .unset] [(.ref b70), (.ref b70)]))
    refine Runs.by (fun _ hr => XS.aload X70.here hx rfl (hb hby at_137) rfl rfl hr) ?_
    show Runs p e below _ (T70.setTop (mkF m 139 #[.val (.int p0), .val (.int p1), .val (.int p2), .val (.int p3), .val (.int p4), .val (.int p5), .val (.int ((p0 &&& (255 : Int32)).toUInt32.toUInt16.toUInt32.toInt32)), .val (.int ((p1 &&& (255 : Int32)).toUInt32.toUInt16.toUInt32.toInt32)), .val (.int ((p2 &&& (255 : Int32)).toUInt32.toUInt16.toUInt32.toInt32)), .val (.int (3 : Int32)), .val (.ref b58), .unset, .unset, .unset, .unset, .unset] [(.ref b58), (.ref b70), (.ref b70)]))
    obtain ⟨_, _, ⟨T72, L72, k72, n72⟩, -, X72, ⟨Lc72, hQ72, l72, y72, z72⟩, st72⟩ := X70.specialBack hx (y := (⟨"com/example/vedette/vedette/io/Utf8Buffer$Stops", "<init>", "(Ljava/lang/String;)V"⟩ : MethodName)) rfl hown (mvT hZ (hw _ (List.mem_of_getElem? (i := 33) rfl))) (mvT hZ (hw _ (List.mem_of_getElem? (i := 34) rfl))) (mvT hZ (hw _ (List.mem_of_getElem? (i := 35) rfl))) (by decide) (backOf (W := 1) (rm7_3 l Z a0 hw [] b70 b58 gC vG t68 kb68 ((nar .char ((p0 &&& (255 : Int32)).toUInt32.toUInt16.toUInt32.toInt32))) ((nar .char ((p1 &&& (255 : Int32)).toUInt32.toUInt16.toUInt32.toInt32))) ((nar .char ((p2 &&& (255 : Int32)).toUInt32.toUInt16.toUInt32.toInt32))) h70 n0 (Nat.le_trans Z0 K71.1) A70 F_firstBytes_b70 F_chars_b70 g_b70 (fE68.ext E70) SC cC hvG SG (fC68.ext E70) (fV68.ext E70) (fA68.ext E70) ne_b58_b70 ne_t68_b70 (own_and255 _) (own_and255 _) (own_and255 _) O_71) hZ (hw _ (List.mem_of_getElem? (i := 35) rfl)) (hw _ (List.mem_of_getElem? (i := 32) rfl)) (by decide) (by decide)) (g := (mkF m 139 #[.val (.int p0), .val (.int p1), .val (.int p2), .val (.int p3), .val (.int p4), .val (.int p5), .val (.int ((p0 &&& (255 : Int32)).toUInt32.toUInt16.toUInt32.toInt32)), .val (.int ((p1 &&& (255 : Int32)).toUInt32.toUInt16.toUInt32.toInt32)), .val (.int ((p2 &&& (255 : Int32)).toUInt32.toUInt16.toUInt32.toInt32)), .val (.int (3 : Int32)), .val (.ref b58), .unset, .unset, .unset, .unset, .unset] [(.ref b58), (.ref b70), (.ref b70)])) rfl (by rw [hml]; rfl) (Steps.refl _) (a := b70) (argsL := [(.ref b58)]) (rest := [(.ref b70)]) (lenOf pd_10 rfl) rfl (by show 2 * 0 + _ ≤ _; exact Nat.le_of_eq rfl) (hb hby at_139) (fun _ _ => ⟨rfl, e70, (by decide : 4 + 2 ≤ _), (by decide : 12 + 512 ≤ _)⟩)
    dsimp only [Pt.U, Pt.locs, Pt.cells, Pt.slots] at X72 l72 y72 z72 st72 hQ72
    subst l72 y72 z72
    obtain ⟨rfl, Nq72, Kq72, f72_0, t72, kt72, z72, wf72, f72_1, f72_2, hs72⟩ := hQ72
    have N72 := Fr.app N68 Nq72
    have K73 : Keep h0 T72.heap [] := Keep.trans (ws := []) K71 Kq72 (allS (Or.inr sz_b70) all0)
    have O_73 : Old Z n0 T72.heap := O_71.keep Kq72 (allS g_b70 all0)
    have Sf_b58__K73 := Safe.keep Kq72 (allS Sf_b70__K71 all0) hC.1 Sf_b58__K71
    have Sf_b60__K73 := Safe.keep Kq72 (allS Sf_b70__K71 all0) hC.1 Sf_b60__K71
    have Sf_b70__K73 := Safe.keep Kq72 (allS Sf_b70__K71 all0) hC.1 Sf_b70__K71
    have hk : _ ≤ T72.heap.size := Nat.le_trans hk Kq72.1
    have hC := hC.trans (CHr.keep Kq72 (allS Sf_b70__K71 all0) hC.1)
    refine Runs.by (fun _ hr => st72.trans hr) ?_
    show Runs p e below _ (T72.setTop (mkF m 142 #[.val (.int p0), .val (.int p1), .val (.int p2), .val (.int p3), .val (.int p4), .val (.int p5), .val (.int ((p0 &&& (255 : Int32)).toUInt32.toUInt16.toUInt32.toInt32)), .val (.int ((p1 &&& (255 : Int32)).toUInt32.toUInt16.toUInt32.toInt32)), .val (.int ((p2 &&& (255 : Int32)).toUInt32.toUInt16.toUInt32.toInt32)), .val (.int (3 : Int32)), .val (.ref b58), .unset, .unset, .unset, .unset, .unset] [(.ref b70)]))
    refine Runs.by (fun _ hr => XS.astore X72.here hx rfl (hb hby at_142) rfl rfl (l' := #[.val (.int p0), .val (.int p1), .val (.int p2), .val (.int p3), .val (.int p4), .val (.int p5), .val (.int ((p0 &&& (255 : Int32)).toUInt32.toUInt16.toUInt32.toInt32)), .val (.int ((p1 &&& (255 : Int32)).toUInt32.toUInt16.toUInt32.toInt32)), .val (.int ((p2 &&& (255 : Int32)).toUInt32.toUInt16.toUInt32.toInt32)), .val (.int (3 : Int32)), .val (.ref b58), .val (.ref b70), .unset, .unset, .unset, .unset]) rfl hr) ?_
    show Runs p e below _ (T72.setTop (mkF m 144 #[.val (.int p0), .val (.int p1), .val (.int p2), .val (.int p3), .val (.int p4), .val (.int p5), .val (.int ((p0 &&& (255 : Int32)).toUInt32.toUInt16.toUInt32.toInt32)), .val (.int ((p1 &&& (255 : Int32)).toUInt32.toUInt16.toUInt32.toInt32)), .val (.int ((p2 &&& (255 : Int32)).toUInt32.toUInt16.toUInt32.toInt32)), .val (.int (3 : Int32)), .val (.ref b58), .val (.ref b70), .unset, .unset, .unset, .unset] []))
    refine Runs.by (fun _ hr => XS.iload X72.here hx rfl (hb hby at_144) rfl  hr) ?_
    show Runs p e below _ (T72.setTop (mkF m 146 #[.val (.int p0), .val (.int p1), .val (.int p2), .val (.int p3), .val (.int p4), .val (.int p5), .val (.int ((p0 &&& (255 : Int32)).toUInt32.toUInt16.toUInt32.toInt32)), .val (.int ((p1 &&& (255 : Int32)).toUInt32.toUInt16.toUInt32.toInt32)), .val (.int ((p2 &&& (255 : Int32)).toUInt32.toUInt16.toUInt32.toInt32)), .val (.int (3 : Int32)), .val (.ref b58), .val (.ref b70), .unset, .unset, .unset, .unset] [(.int p5)]))
    refine Runs.by (fun _ hr => XS.iconst X72.here hx rfl (hb hby at_146) hr) ?_
    show Runs p e below _ (T72.setTop (mkF m 147 #[.val (.int p0), .val (.int p1), .val (.int p2), .val (.int p3), .val (.int p4), .val (.int p5), .val (.int ((p0 &&& (255 : Int32)).toUInt32.toUInt16.toUInt32.toInt32)), .val (.int ((p1 &&& (255 : Int32)).toUInt32.toUInt16.toUInt32.toInt32)), .val (.int ((p2 &&& (255 : Int32)).toUInt32.toUInt16.toUInt32.toInt32)), .val (.int (3 : Int32)), .val (.ref b58), .val (.ref b70), .unset, .unset, .unset, .unset] [(.int (3 : Int32)), (.int p5)]))
    refine Runs.by (fun _ hr => XS.iand X72.here hx rfl (hb hby at_147) rfl hr) ?_
    show Runs p e below _ (T72.setTop (mkF m 148 #[.val (.int p0), .val (.int p1), .val (.int p2), .val (.int p3), .val (.int p4), .val (.int p5), .val (.int ((p0 &&& (255 : Int32)).toUInt32.toUInt16.toUInt32.toInt32)), .val (.int ((p1 &&& (255 : Int32)).toUInt32.toUInt16.toUInt32.toInt32)), .val (.int ((p2 &&& (255 : Int32)).toUInt32.toUInt16.toUInt32.toInt32)), .val (.int (3 : Int32)), .val (.ref b58), .val (.ref b70), .unset, .unset, .unset, .unset] [(.int (p5 &&& (3 : Int32)))]))
    refine Runs.by (fun _ hr => XS.istore X72.here hx rfl (hb hby at_148) rfl (l' := #[.val (.int p0), .val (.int p1), .val (.int p2), .val (.int p3), .val (.int p4), .val (.int p5), .val (.int ((p0 &&& (255 : Int32)).toUInt32.toUInt16.toUInt32.toInt32)), .val (.int ((p1 &&& (255 : Int32)).toUInt32.toUInt16.toUInt32.toInt32)), .val (.int ((p2 &&& (255 : Int32)).toUInt32.toUInt16.toUInt32.toInt32)), .val (.int (3 : Int32)), .val (.ref b58), .val (.ref b70), .val (.int (p5 &&& (3 : Int32))), .unset, .unset, .unset]) rfl hr) ?_
    show Runs p e below _ (T72.setTop (mkF m 150 #[.val (.int p0), .val (.int p1), .val (.int p2), .val (.int p3), .val (.int p4), .val (.int p5), .val (.int ((p0 &&& (255 : Int32)).toUInt32.toUInt16.toUInt32.toInt32)), .val (.int ((p1 &&& (255 : Int32)).toUInt32.toUInt16.toUInt32.toInt32)), .val (.int ((p2 &&& (255 : Int32)).toUInt32.toUInt16.toUInt32.toInt32)), .val (.int (3 : Int32)), .val (.ref b58), .val (.ref b70), .val (.int (p5 &&& (3 : Int32))), .unset, .unset, .unset] []))
    refine Runs.by (fun _ hr => XS.iload X72.here hx rfl (hb hby at_150) rfl  hr) ?_
    show Runs p e below _ (T72.setTop (mkF m 152 #[.val (.int p0), .val (.int p1), .val (.int p2), .val (.int p3), .val (.int p4), .val (.int p5), .val (.int ((p0 &&& (255 : Int32)).toUInt32.toUInt16.toUInt32.toInt32)), .val (.int ((p1 &&& (255 : Int32)).toUInt32.toUInt16.toUInt32.toInt32)), .val (.int ((p2 &&& (255 : Int32)).toUInt32.toUInt16.toUInt32.toInt32)), .val (.int (3 : Int32)), .val (.ref b58), .val (.ref b70), .val (.int (p5 &&& (3 : Int32))), .unset, .unset, .unset] [(.int p5)]))
    refine Runs.by (fun _ hr => XS.iconst X72.here hx rfl (hb hby at_152) hr) ?_
    show Runs p e below _ (T72.setTop (mkF m 153 #[.val (.int p0), .val (.int p1), .val (.int p2), .val (.int p3), .val (.int p4), .val (.int p5), .val (.int ((p0 &&& (255 : Int32)).toUInt32.toUInt16.toUInt32.toInt32)), .val (.int ((p1 &&& (255 : Int32)).toUInt32.toUInt16.toUInt32.toInt32)), .val (.int ((p2 &&& (255 : Int32)).toUInt32.toUInt16.toUInt32.toInt32)), .val (.int (3 : Int32)), .val (.ref b58), .val (.ref b70), .val (.int (p5 &&& (3 : Int32))), .unset, .unset, .unset] [(.int (2 : Int32)), (.int p5)]))
    refine Runs.by (fun _ hr => XS.iushr X72.here hx rfl (hb hby at_153) rfl hr) ?_
    show Runs p e below _ (T72.setTop (mkF m 154 #[.val (.int p0), .val (.int p1), .val (.int p2), .val (.int p3), .val (.int p4), .val (.int p5), .val (.int ((p0 &&& (255 : Int32)).toUInt32.toUInt16.toUInt32.toInt32)), .val (.int ((p1 &&& (255 : Int32)).toUInt32.toUInt16.toUInt32.toInt32)), .val (.int ((p2 &&& (255 : Int32)).toUInt32.toUInt16.toUInt32.toInt32)), .val (.int (3 : Int32)), .val (.ref b58), .val (.ref b70), .val (.int (p5 &&& (3 : Int32))), .unset, .unset, .unset] [(.int ((p5.toUInt32 >>> ((2 : Int32) &&& 31).toUInt32).toInt32))]))
    refine Runs.by (fun _ hr => XS.iconst X72.here hx rfl (hb hby at_154) hr) ?_
    show Runs p e below _ (T72.setTop (mkF m 155 #[.val (.int p0), .val (.int p1), .val (.int p2), .val (.int p3), .val (.int p4), .val (.int p5), .val (.int ((p0 &&& (255 : Int32)).toUInt32.toUInt16.toUInt32.toInt32)), .val (.int ((p1 &&& (255 : Int32)).toUInt32.toUInt16.toUInt32.toInt32)), .val (.int ((p2 &&& (255 : Int32)).toUInt32.toUInt16.toUInt32.toInt32)), .val (.int (3 : Int32)), .val (.ref b58), .val (.ref b70), .val (.int (p5 &&& (3 : Int32))), .unset, .unset, .unset] [(.int (3 : Int32)), (.int ((p5.toUInt32 >>> ((2 : Int32) &&& 31).toUInt32).toInt32))]))
    refine Runs.by (fun _ hr => XS.iand X72.here hx rfl (hb hby at_155) rfl hr) ?_
    show Runs p e below _ (T72.setTop (mkF m 156 #[.val (.int p0), .val (.int p1), .val (.int p2), .val (.int p3), .val (.int p4), .val (.int p5), .val (.int ((p0 &&& (255 : Int32)).toUInt32.toUInt16.toUInt32.toInt32)), .val (.int ((p1 &&& (255 : Int32)).toUInt32.toUInt16.toUInt32.toInt32)), .val (.int ((p2 &&& (255 : Int32)).toUInt32.toUInt16.toUInt32.toInt32)), .val (.int (3 : Int32)), .val (.ref b58), .val (.ref b70), .val (.int (p5 &&& (3 : Int32))), .unset, .unset, .unset] [(.int (((p5.toUInt32 >>> ((2 : Int32) &&& 31).toUInt32).toInt32) &&& (3 : Int32)))]))
    refine Runs.by (fun _ hr => XS.iconst X72.here hx rfl (hb hby at_156) hr) ?_
    show Runs p e below _ (T72.setTop (mkF m 157 #[.val (.int p0), .val (.int p1), .val (.int p2), .val (.int p3), .val (.int p4), .val (.int p5), .val (.int ((p0 &&& (255 : Int32)).toUInt32.toUInt16.toUInt32.toInt32)), .val (.int ((p1 &&& (255 : Int32)).toUInt32.toUInt16.toUInt32.toInt32)), .val (.int ((p2 &&& (255 : Int32)).toUInt32.toUInt16.toUInt32.toInt32)), .val (.int (3 : Int32)), .val (.ref b58), .val (.ref b70), .val (.int (p5 &&& (3 : Int32))), .unset, .unset, .unset] [(.int (1 : Int32)), (.int (((p5.toUInt32 >>> ((2 : Int32) &&& 31).toUInt32).toInt32) &&& (3 : Int32)))]))
    refine Runs.by (fun _ hr => XS.isub X72.here hx rfl (hb hby at_157) rfl hr) ?_
    show Runs p e below _ (T72.setTop (mkF m 158 #[.val (.int p0), .val (.int p1), .val (.int p2), .val (.int p3), .val (.int p4), .val (.int p5), .val (.int ((p0 &&& (255 : Int32)).toUInt32.toUInt16.toUInt32.toInt32)), .val (.int ((p1 &&& (255 : Int32)).toUInt32.toUInt16.toUInt32.toInt32)), .val (.int ((p2 &&& (255 : Int32)).toUInt32.toUInt16.toUInt32.toInt32)), .val (.int (3 : Int32)), .val (.ref b58), .val (.ref b70), .val (.int (p5 &&& (3 : Int32))), .unset, .unset, .unset] [(.int ((((p5.toUInt32 >>> ((2 : Int32) &&& 31).toUInt32).toInt32) &&& (3 : Int32)) - (1 : Int32)))]))
    refine Runs.by (fun _ hr => XS.istore X72.here hx rfl (hb hby at_158) rfl (l' := #[.val (.int p0), .val (.int p1), .val (.int p2), .val (.int p3), .val (.int p4), .val (.int p5), .val (.int ((p0 &&& (255 : Int32)).toUInt32.toUInt16.toUInt32.toInt32)), .val (.int ((p1 &&& (255 : Int32)).toUInt32.toUInt16.toUInt32.toInt32)), .val (.int ((p2 &&& (255 : Int32)).toUInt32.toUInt16.toUInt32.toInt32)), .val (.int (3 : Int32)), .val (.ref b58), .val (.ref b70), .val (.int (p5 &&& (3 : Int32))), .val (.int ((((p5.toUInt32 >>> ((2 : Int32) &&& 31).toUInt32).toInt32) &&& (3 : Int32)) - (1 : Int32))), .unset, .unset]) rfl hr) ?_
    have JL74 : ∀ (cc : Int32) (TJ75 : State) (lJ75 : List Loc) (XJ75 : Stand p l e room_1 (s.setVm s.vm) m #[(.int p0), (.int p1), (.int p2), (.int p3), (.int p4), (.int p5)] below meth c TJ75 lJ75 6 524) (eJ75 : TJ75.heap = T72.heap) (NJ75 : Fr n0 lJ75) (hcc : ¬ cc < 0), Runs p e below (QEW Z consts_1 s (Q_rm0 Z p0 p1 p2 p3 p4 p5 gC vG h0 n0) room_1.cells room_1.slots) (TJ75.setTop (mkF m 226 #[.val (.int p0), .val (.int p1), .val (.int p2), .val (.int p3), .val (.int p4), .val (.int p5), .val (.int ((p0 &&& (255 : Int32)).toUInt32.toUInt16.toUInt32.toInt32)), .val (.int ((p1 &&& (255 : Int32)).toUInt32.toUInt16.toUInt32.toInt32)), .val (.int ((p2 &&& (255 : Int32)).toUInt32.toUInt16.toUInt32.toInt32)), .val (.int (3 : Int32)), .val (.ref b58), .val (.ref b70), .val (.int (p5 &&& (3 : Int32))), .val (.int ((((p5.toUInt32 >>> ((2 : Int32) &&& 31).toUInt32).toInt32) &&& (3 : Int32)) - (1 : Int32))), .val (.int cc), .unset] [])) := by
      intro cc TJ75 lJ75 XJ75 eJ75 NJ75 hcc
      show Runs p e below _ (TJ75.setTop (mkF m 226 #[.val (.int p0), .val (.int p1), .val (.int p2), .val (.int p3), .val (.int p4), .val (.int p5), .val (.int ((p0 &&& (255 : Int32)).toUInt32.toUInt16.toUInt32.toInt32)), .val (.int ((p1 &&& (255 : Int32)).toUInt32.toUInt16.toUInt32.toInt32)), .val (.int ((p2 &&& (255 : Int32)).toUInt32.toUInt16.toUInt32.toInt32)), .val (.int (3 : Int32)), .val (.ref b58), .val (.ref b70), .val (.int (p5 &&& (3 : Int32))), .val (.int ((((p5.toUInt32 >>> ((2 : Int32) &&& 31).toUInt32).toInt32) &&& (3 : Int32)) - (1 : Int32))), .val (.int cc), .unset] []))
      refine Runs.by (fun _ hr => XS.iload XJ75.here hx rfl (hb hby at_226) rfl  hr) ?_
      show Runs p e below _ (TJ75.setTop (mkF m 228 #[.val (.int p0), .val (.int p1), .val (.int p2), .val (.int p3), .val (.int p4), .val (.int p5), .val (.int ((p0 &&& (255 : Int32)).toUInt32.toUInt16.toUInt32.toInt32)), .val (.int ((p1 &&& (255 : Int32)).toUInt32.toUInt16.toUInt32.toInt32)), .val (.int ((p2 &&& (255 : Int32)).toUInt32.toUInt16.toUInt32.toInt32)), .val (.int (3 : Int32)), .val (.ref b58), .val (.ref b70), .val (.int (p5 &&& (3 : Int32))), .val (.int ((((p5.toUInt32 >>> ((2 : Int32) &&& 31).toUInt32).toInt32) &&& (3 : Int32)) - (1 : Int32))), .val (.int cc), .unset] [(.int (3 : Int32))]))
      refine Runs.by (fun _ hr => XS.iconst XJ75.here hx rfl (hb hby at_228) hr) ?_
      show Runs p e below _ (TJ75.setTop (mkF m 229 #[.val (.int p0), .val (.int p1), .val (.int p2), .val (.int p3), .val (.int p4), .val (.int p5), .val (.int ((p0 &&& (255 : Int32)).toUInt32.toUInt16.toUInt32.toInt32)), .val (.int ((p1 &&& (255 : Int32)).toUInt32.toUInt16.toUInt32.toInt32)), .val (.int ((p2 &&& (255 : Int32)).toUInt32.toUInt16.toUInt32.toInt32)), .val (.int (3 : Int32)), .val (.ref b58), .val (.ref b70), .val (.int (p5 &&& (3 : Int32))), .val (.int ((((p5.toUInt32 >>> ((2 : Int32) &&& 31).toUInt32).toInt32) &&& (3 : Int32)) - (1 : Int32))), .val (.int cc), .unset] [(.int (1 : Int32)), (.int (3 : Int32))]))
      have hc229 : ¬ ((3 : Int32) < (1 : Int32)) := (by decide)
      refine Runs.by (fun _ hr => XS.icmpNo XJ75.here hx rfl (hb hby at_229) rfl (flt hc229).1 hr) ?_
      show Runs p e below _ (TJ75.setTop (mkF m 232 #[.val (.int p0), .val (.int p1), .val (.int p2), .val (.int p3), .val (.int p4), .val (.int p5), .val (.int ((p0 &&& (255 : Int32)).toUInt32.toUInt16.toUInt32.toInt32)), .val (.int ((p1 &&& (255 : Int32)).toUInt32.toUInt16.toUInt32.toInt32)), .val (.int ((p2 &&& (255 : Int32)).toUInt32.toUInt16.toUInt32.toInt32)), .val (.int (3 : Int32)), .val (.ref b58), .val (.ref b70), .val (.int (p5 &&& (3 : Int32))), .val (.int ((((p5.toUInt32 >>> ((2 : Int32) &&& 31).toUInt32).toInt32) &&& (3 : Int32)) - (1 : Int32))), .val (.int cc), .unset] []))
      refine Runs.by (fun _ hr => XS.iload XJ75.here hx rfl (hb hby at_232) rfl  hr) ?_
      show Runs p e below _ (TJ75.setTop (mkF m 234 #[.val (.int p0), .val (.int p1), .val (.int p2), .val (.int p3), .val (.int p4), .val (.int p5), .val (.int ((p0 &&& (255 : Int32)).toUInt32.toUInt16.toUInt32.toInt32)), .val (.int ((p1 &&& (255 : Int32)).toUInt32.toUInt16.toUInt32.toInt32)), .val (.int ((p2 &&& (255 : Int32)).toUInt32.toUInt16.toUInt32.toInt32)), .val (.int (3 : Int32)), .val (.ref b58), .val (.ref b70), .val (.int (p5 &&& (3 : Int32))), .val (.int ((((p5.toUInt32 >>> ((2 : Int32) &&& 31).toUInt32).toInt32) &&& (3 : Int32)) - (1 : Int32))), .val (.int cc), .unset] [(.int cc)]))
      refine Runs.by (fun _ hr => XS.iload XJ75.here hx rfl (hb hby at_234) rfl  hr) ?_
      show Runs p e below _ (TJ75.setTop (mkF m 236 #[.val (.int p0), .val (.int p1), .val (.int p2), .val (.int p3), .val (.int p4), .val (.int p5), .val (.int ((p0 &&& (255 : Int32)).toUInt32.toUInt16.toUInt32.toInt32)), .val (.int ((p1 &&& (255 : Int32)).toUInt32.toUInt16.toUInt32.toInt32)), .val (.int ((p2 &&& (255 : Int32)).toUInt32.toUInt16.toUInt32.toInt32)), .val (.int (3 : Int32)), .val (.ref b58), .val (.ref b70), .val (.int (p5 &&& (3 : Int32))), .val (.int ((((p5.toUInt32 >>> ((2 : Int32) &&& 31).toUInt32).toInt32) &&& (3 : Int32)) - (1 : Int32))), .val (.int cc), .unset] [(.int ((p0 &&& (255 : Int32)).toUInt32.toUInt16.toUInt32.toInt32)), (.int cc)]))
      by_cases hc236 : cc = ((p0 &&& (255 : Int32)).toUInt32.toUInt16.toUInt32.toInt32)
      · -- pc 236: cc = ((p0 &&& (255 : Int32)).toUInt32.toUInt16.toUInt32.toInt32)
        refine Runs.by (fun _ hr => XS.icmpYes XJ75.here hx rfl (pc0 := 236) (pc' := 265) rfl (hb hby at_236) rfl (teq hc236).1 (by decide) (by decide) hr) ?_
        show Runs p e below _ (TJ75.setTop (mkF m 265 #[.val (.int p0), .val (.int p1), .val (.int p2), .val (.int p3), .val (.int p4), .val (.int p5), .val (.int ((p0 &&& (255 : Int32)).toUInt32.toUInt16.toUInt32.toInt32)), .val (.int ((p1 &&& (255 : Int32)).toUInt32.toUInt16.toUInt32.toInt32)), .val (.int ((p2 &&& (255 : Int32)).toUInt32.toUInt16.toUInt32.toInt32)), .val (.int (3 : Int32)), .val (.ref b58), .val (.ref b70), .val (.int (p5 &&& (3 : Int32))), .val (.int ((((p5.toUInt32 >>> ((2 : Int32) &&& 31).toUInt32).toInt32) &&& (3 : Int32)) - (1 : Int32))), .val (.int cc), .unset] []))
        refine Runs.by (fun _ hr => XS.iconst XJ75.here hx rfl (hb hby at_265) hr) ?_
        show Runs p e below _ (TJ75.setTop (mkF m 266 #[.val (.int p0), .val (.int p1), .val (.int p2), .val (.int p3), .val (.int p4), .val (.int p5), .val (.int ((p0 &&& (255 : Int32)).toUInt32.toUInt16.toUInt32.toInt32)), .val (.int ((p1 &&& (255 : Int32)).toUInt32.toUInt16.toUInt32.toInt32)), .val (.int ((p2 &&& (255 : Int32)).toUInt32.toUInt16.toUInt32.toInt32)), .val (.int (3 : Int32)), .val (.ref b58), .val (.ref b70), .val (.int (p5 &&& (3 : Int32))), .val (.int ((((p5.toUInt32 >>> ((2 : Int32) &&& 31).toUInt32).toInt32) &&& (3 : Int32)) - (1 : Int32))), .val (.int cc), .unset] [(.int (1 : Int32))]))
        refine Runs.by (fun _ hr => XS.goto XJ75.here hx rfl (pc0 := 266) (pc' := 270) rfl (hb hby at_266) (by decide) (by decide) hr) ?_
        show Runs p e below _ (TJ75.setTop (mkF m 270 #[.val (.int p0), .val (.int p1), .val (.int p2), .val (.int p3), .val (.int p4), .val (.int p5), .val (.int ((p0 &&& (255 : Int32)).toUInt32.toUInt16.toUInt32.toInt32)), .val (.int ((p1 &&& (255 : Int32)).toUInt32.toUInt16.toUInt32.toInt32)), .val (.int ((p2 &&& (255 : Int32)).toUInt32.toUInt16.toUInt32.toInt32)), .val (.int (3 : Int32)), .val (.ref b58), .val (.ref b70), .val (.int (p5 &&& (3 : Int32))), .val (.int ((((p5.toUInt32 >>> ((2 : Int32) &&& 31).toUInt32).toInt32) &&& (3 : Int32)) - (1 : Int32))), .val (.int cc), .unset] [(.int (1 : Int32))]))
        refine Runs.by (fun _ hr => XS.istore XJ75.here hx rfl (hb hby at_270) rfl (l' := #[.val (.int p0), .val (.int p1), .val (.int p2), .val (.int p3), .val (.int p4), .val (.int p5), .val (.int ((p0 &&& (255 : Int32)).toUInt32.toUInt16.toUInt32.toInt32)), .val (.int ((p1 &&& (255 : Int32)).toUInt32.toUInt16.toUInt32.toInt32)), .val (.int ((p2 &&& (255 : Int32)).toUInt32.toUInt16.toUInt32.toInt32)), .val (.int (3 : Int32)), .val (.ref b58), .val (.ref b70), .val (.int (p5 &&& (3 : Int32))), .val (.int ((((p5.toUInt32 >>> ((2 : Int32) &&& 31).toUInt32).toInt32) &&& (3 : Int32)) - (1 : Int32))), .val (.int cc), .val (.int (1 : Int32))]) rfl hr) ?_
        show Runs p e below _ (TJ75.setTop (mkF m 272 #[.val (.int p0), .val (.int p1), .val (.int p2), .val (.int p3), .val (.int p4), .val (.int p5), .val (.int ((p0 &&& (255 : Int32)).toUInt32.toUInt16.toUInt32.toInt32)), .val (.int ((p1 &&& (255 : Int32)).toUInt32.toUInt16.toUInt32.toInt32)), .val (.int ((p2 &&& (255 : Int32)).toUInt32.toUInt16.toUInt32.toInt32)), .val (.int (3 : Int32)), .val (.ref b58), .val (.ref b70), .val (.int (p5 &&& (3 : Int32))), .val (.int ((((p5.toUInt32 >>> ((2 : Int32) &&& 31).toUInt32).toInt32) &&& (3 : Int32)) - (1 : Int32))), .val (.int cc), .val (.int (1 : Int32))] []))
        refine Runs.by (fun _ hr => XS.aload XJ75.here hx rfl (hb hby at_272) rfl rfl hr) ?_
        show Runs p e below _ (TJ75.setTop (mkF m 274 #[.val (.int p0), .val (.int p1), .val (.int p2), .val (.int p3), .val (.int p4), .val (.int p5), .val (.int ((p0 &&& (255 : Int32)).toUInt32.toUInt16.toUInt32.toInt32)), .val (.int ((p1 &&& (255 : Int32)).toUInt32.toUInt16.toUInt32.toInt32)), .val (.int ((p2 &&& (255 : Int32)).toUInt32.toUInt16.toUInt32.toInt32)), .val (.int (3 : Int32)), .val (.ref b58), .val (.ref b70), .val (.int (p5 &&& (3 : Int32))), .val (.int ((((p5.toUInt32 >>> ((2 : Int32) &&& 31).toUInt32).toInt32) &&& (3 : Int32)) - (1 : Int32))), .val (.int cc), .val (.int (1 : Int32))] [(.ref b70)]))
        refine Runs.by (fun _ hr => XS.iload XJ75.here hx rfl (hb hby at_274) rfl  hr) ?_
        show Runs p e below _ (TJ75.setTop (mkF m 276 #[.val (.int p0), .val (.int p1), .val (.int p2), .val (.int p3), .val (.int p4), .val (.int p5), .val (.int ((p0 &&& (255 : Int32)).toUInt32.toUInt16.toUInt32.toInt32)), .val (.int ((p1 &&& (255 : Int32)).toUInt32.toUInt16.toUInt32.toInt32)), .val (.int ((p2 &&& (255 : Int32)).toUInt32.toUInt16.toUInt32.toInt32)), .val (.int (3 : Int32)), .val (.ref b58), .val (.ref b70), .val (.int (p5 &&& (3 : Int32))), .val (.int ((((p5.toUInt32 >>> ((2 : Int32) &&& 31).toUInt32).toInt32) &&& (3 : Int32)) - (1 : Int32))), .val (.int cc), .val (.int (1 : Int32))] [(.int cc), (.ref b70)]))
        obtain ⟨cq76, kq76, q76a, q76b, q76c⟩ := isOf hZ eJ75 f72_0
        obtain ⟨_, _, ⟨T76, L76, k76, n76⟩, -, X76, ⟨Lc76, hQ76, l76, y76, z76⟩, st76⟩ := XJ75.virtualBack hx (y := (⟨"com/example/vedette/vedette/io/Utf8Buffer$Stops", "isStop", "(I)Z"⟩ : MethodName)) (z := (⟨"com/example/vedette/vedette/io/Utf8Buffer$Stops", "isStop", "(I)Z"⟩ : MethodName)) hown (mvT hZ (hw _ (List.mem_of_getElem? (i := 79) rfl))) (mvT hZ (hw _ (List.mem_of_getElem? (i := 80) rfl))) (notFace_of_selects (args := #[]) (mvT hZ (hw _ (List.mem_of_getElem? (i := 82) rfl)))) (mvT hZ (hw _ (List.mem_of_getElem? (i := 82) rfl))) (mvT hZ (hw _ (List.mem_of_getElem? (i := 81) rfl))) (by decide) (backOf (W := 0) (rm16 l Z a0 hw [] b70 cc t72 kt72 z72 wf72 T72.heap n0 (Nat.le_trans Z0 K73.1) f72_1 f72_2 hcc) hZ (hw _ (List.mem_of_getElem? (i := 83) rfl)) (hw _ (List.mem_of_getElem? (i := 32) rfl)) (by decide) (by decide)) q76a q76c (g := (mkF m 276 #[.val (.int p0), .val (.int p1), .val (.int p2), .val (.int p3), .val (.int p4), .val (.int p5), .val (.int ((p0 &&& (255 : Int32)).toUInt32.toUInt16.toUInt32.toInt32)), .val (.int ((p1 &&& (255 : Int32)).toUInt32.toUInt16.toUInt32.toInt32)), .val (.int ((p2 &&& (255 : Int32)).toUInt32.toUInt16.toUInt32.toInt32)), .val (.int (3 : Int32)), .val (.ref b58), .val (.ref b70), .val (.int (p5 &&& (3 : Int32))), .val (.int ((((p5.toUInt32 >>> ((2 : Int32) &&& 31).toUInt32).toInt32) &&& (3 : Int32)) - (1 : Int32))), .val (.int cc), .val (.int (1 : Int32))] [(.int cc), (.ref b70)])) rfl (by rw [hml]; rfl) (Steps.refl _) (argsL := [(.int cc)]) (rest := []) (lenOf pd_11 rfl) rfl (by show 2 * 0 + _ ≤ _; exact Nat.le_of_eq rfl) (hb hby at_276) (fun _ _ => ⟨rfl, eJ75, (by decide : 6 + 0 ≤ _), (by decide : 524 + 0 ≤ _)⟩)
        dsimp only [Pt.U, Pt.locs, Pt.cells, Pt.slots] at X76 l76 y76 z76 st76 hQ76
        subst l76 y76 z76
        obtain ⟨rfl, Nq76, eq76⟩ := hQ76
        have N76 := Fr.app NJ75 Nq76
        refine Runs.by (fun _ hr => st76.trans hr) ?_
        have hv : own_is z72 wf72 cc = (1 : Int32) := (hs72 cc hcc).trans (by simp only [own_nc, if_pos hc236])
        rw [hv]
        show Runs p e below _ (T76.setTop (mkF m 279 #[.val (.int p0), .val (.int p1), .val (.int p2), .val (.int p3), .val (.int p4), .val (.int p5), .val (.int ((p0 &&& (255 : Int32)).toUInt32.toUInt16.toUInt32.toInt32)), .val (.int ((p1 &&& (255 : Int32)).toUInt32.toUInt16.toUInt32.toInt32)), .val (.int ((p2 &&& (255 : Int32)).toUInt32.toUInt16.toUInt32.toInt32)), .val (.int (3 : Int32)), .val (.ref b58), .val (.ref b70), .val (.int (p5 &&& (3 : Int32))), .val (.int ((((p5.toUInt32 >>> ((2 : Int32) &&& 31).toUInt32).toInt32) &&& (3 : Int32)) - (1 : Int32))), .val (.int cc), .val (.int (1 : Int32))] [(.int (1 : Int32))]))
        refine Runs.by (fun _ hr => XS.iload X76.here hx rfl (hb hby at_279) rfl  hr) ?_
        show Runs p e below _ (T76.setTop (mkF m 281 #[.val (.int p0), .val (.int p1), .val (.int p2), .val (.int p3), .val (.int p4), .val (.int p5), .val (.int ((p0 &&& (255 : Int32)).toUInt32.toUInt16.toUInt32.toInt32)), .val (.int ((p1 &&& (255 : Int32)).toUInt32.toUInt16.toUInt32.toInt32)), .val (.int ((p2 &&& (255 : Int32)).toUInt32.toUInt16.toUInt32.toInt32)), .val (.int (3 : Int32)), .val (.ref b58), .val (.ref b70), .val (.int (p5 &&& (3 : Int32))), .val (.int ((((p5.toUInt32 >>> ((2 : Int32) &&& 31).toUInt32).toInt32) &&& (3 : Int32)) - (1 : Int32))), .val (.int cc), .val (.int (1 : Int32))] [(.int (1 : Int32)), (.int (1 : Int32))]))
        have hc281 : (1 : Int32) = (1 : Int32) := (by decide)
        refine Runs.by (fun _ hr => XS.icmpNo X76.here hx rfl (hb hby at_281) rfl (teq hc281).2 hr) ?_
        show Runs p e below _ (T76.setTop (mkF m 284 #[.val (.int p0), .val (.int p1), .val (.int p2), .val (.int p3), .val (.int p4), .val (.int p5), .val (.int ((p0 &&& (255 : Int32)).toUInt32.toUInt16.toUInt32.toInt32)), .val (.int ((p1 &&& (255 : Int32)).toUInt32.toUInt16.toUInt32.toInt32)), .val (.int ((p2 &&& (255 : Int32)).toUInt32.toUInt16.toUInt32.toInt32)), .val (.int (3 : Int32)), .val (.ref b58), .val (.ref b70), .val (.int (p5 &&& (3 : Int32))), .val (.int ((((p5.toUInt32 >>> ((2 : Int32) &&& 31).toUInt32).toInt32) &&& (3 : Int32)) - (1 : Int32))), .val (.int cc), .val (.int (1 : Int32))] []))
        refine Runs.by (fun _ hr => XS.iconst X76.here hx rfl (hb hby at_284) hr) ?_
        show Runs p e below _ (T76.setTop (mkF m 285 #[.val (.int p0), .val (.int p1), .val (.int p2), .val (.int p3), .val (.int p4), .val (.int p5), .val (.int ((p0 &&& (255 : Int32)).toUInt32.toUInt16.toUInt32.toInt32)), .val (.int ((p1 &&& (255 : Int32)).toUInt32.toUInt16.toUInt32.toInt32)), .val (.int ((p2 &&& (255 : Int32)).toUInt32.toUInt16.toUInt32.toInt32)), .val (.int (3 : Int32)), .val (.ref b58), .val (.ref b70), .val (.int (p5 &&& (3 : Int32))), .val (.int ((((p5.toUInt32 >>> ((2 : Int32) &&& 31).toUInt32).toInt32) &&& (3 : Int32)) - (1 : Int32))), .val (.int cc), .val (.int (1 : Int32))] [(.int (1 : Int32))]))
        refine Runs.by (fun _ hr => XS.goto X76.here hx rfl (pc0 := 285) (pc' := 289) rfl (hb hby at_285) (by decide) (by decide) hr) ?_
        show Runs p e below _ (T76.setTop (mkF m 289 #[.val (.int p0), .val (.int p1), .val (.int p2), .val (.int p3), .val (.int p4), .val (.int p5), .val (.int ((p0 &&& (255 : Int32)).toUInt32.toUInt16.toUInt32.toInt32)), .val (.int ((p1 &&& (255 : Int32)).toUInt32.toUInt16.toUInt32.toInt32)), .val (.int ((p2 &&& (255 : Int32)).toUInt32.toUInt16.toUInt32.toInt32)), .val (.int (3 : Int32)), .val (.ref b58), .val (.ref b70), .val (.int (p5 &&& (3 : Int32))), .val (.int ((((p5.toUInt32 >>> ((2 : Int32) &&& 31).toUInt32).toInt32) &&& (3 : Int32)) - (1 : Int32))), .val (.int cc), .val (.int (1 : Int32))] [(.int (1 : Int32))]))
        refine Runs.retW X76 hx hrt hlk eq76 hS hk hZ hEL hC (Or.inl ⟨rfl, by simp, _, rfl⟩) (by rfl) (hb hby at_289) (by decide) (by decide) ?_
        exact ⟨rfl, N76⟩
      · -- pc 236: not cc = ((p0 &&& (255 : Int32)).toUInt32.toUInt16.toUInt32.toInt32)
        refine Runs.by (fun _ hr => XS.icmpNo XJ75.here hx rfl (hb hby at_236) rfl (feq hc236).1 hr) ?_
        show Runs p e below _ (TJ75.setTop (mkF m 239 #[.val (.int p0), .val (.int p1), .val (.int p2), .val (.int p3), .val (.int p4), .val (.int p5), .val (.int ((p0 &&& (255 : Int32)).toUInt32.toUInt16.toUInt32.toInt32)), .val (.int ((p1 &&& (255 : Int32)).toUInt32.toUInt16.toUInt32.toInt32)), .val (.int ((p2 &&& (255 : Int32)).toUInt32.toUInt16.toUInt32.toInt32)), .val (.int (3 : Int32)), .val (.ref b58), .val (.ref b70), .val (.int (p5 &&& (3 : Int32))), .val (.int ((((p5.toUInt32 >>> ((2 : Int32) &&& 31).toUInt32).toInt32) &&& (3 : Int32)) - (1 : Int32))), .val (.int cc), .unset] []))
        refine Runs.by (fun _ hr => XS.iload XJ75.here hx rfl (hb hby at_239) rfl  hr) ?_
        show Runs p e below _ (TJ75.setTop (mkF m 241 #[.val (.int p0), .val (.int p1), .val (.int p2), .val (.int p3), .val (.int p4), .val (.int p5), .val (.int ((p0 &&& (255 : Int32)).toUInt32.toUInt16.toUInt32.toInt32)), .val (.int ((p1 &&& (255 : Int32)).toUInt32.toUInt16.toUInt32.toInt32)), .val (.int ((p2 &&& (255 : Int32)).toUInt32.toUInt16.toUInt32.toInt32)), .val (.int (3 : Int32)), .val (.ref b58), .val (.ref b70), .val (.int (p5 &&& (3 : Int32))), .val (.int ((((p5.toUInt32 >>> ((2 : Int32) &&& 31).toUInt32).toInt32) &&& (3 : Int32)) - (1 : Int32))), .val (.int cc), .unset] [(.int (3 : Int32))]))
        refine Runs.by (fun _ hr => XS.iconst XJ75.here hx rfl (hb hby at_241) hr) ?_
        show Runs p e below _ (TJ75.setTop (mkF m 242 #[.val (.int p0), .val (.int p1), .val (.int p2), .val (.int p3), .val (.int p4), .val (.int p5), .val (.int ((p0 &&& (255 : Int32)).toUInt32.toUInt16.toUInt32.toInt32)), .val (.int ((p1 &&& (255 : Int32)).toUInt32.toUInt16.toUInt32.toInt32)), .val (.int ((p2 &&& (255 : Int32)).toUInt32.toUInt16.toUInt32.toInt32)), .val (.int (3 : Int32)), .val (.ref b58), .val (.ref b70), .val (.int (p5 &&& (3 : Int32))), .val (.int ((((p5.toUInt32 >>> ((2 : Int32) &&& 31).toUInt32).toInt32) &&& (3 : Int32)) - (1 : Int32))), .val (.int cc), .unset] [(.int (2 : Int32)), (.int (3 : Int32))]))
        have hc242 : ¬ ((3 : Int32) < (2 : Int32)) := (by decide)
        refine Runs.by (fun _ hr => XS.icmpNo XJ75.here hx rfl (hb hby at_242) rfl (flt hc242).1 hr) ?_
        show Runs p e below _ (TJ75.setTop (mkF m 245 #[.val (.int p0), .val (.int p1), .val (.int p2), .val (.int p3), .val (.int p4), .val (.int p5), .val (.int ((p0 &&& (255 : Int32)).toUInt32.toUInt16.toUInt32.toInt32)), .val (.int ((p1 &&& (255 : Int32)).toUInt32.toUInt16.toUInt32.toInt32)), .val (.int ((p2 &&& (255 : Int32)).toUInt32.toUInt16.toUInt32.toInt32)), .val (.int (3 : Int32)), .val (.ref b58), .val (.ref b70), .val (.int (p5 &&& (3 : Int32))), .val (.int ((((p5.toUInt32 >>> ((2 : Int32) &&& 31).toUInt32).toInt32) &&& (3 : Int32)) - (1 : Int32))), .val (.int cc), .unset] []))
        refine Runs.by (fun _ hr => XS.iload XJ75.here hx rfl (hb hby at_245) rfl  hr) ?_
        show Runs p e below _ (TJ75.setTop (mkF m 247 #[.val (.int p0), .val (.int p1), .val (.int p2), .val (.int p3), .val (.int p4), .val (.int p5), .val (.int ((p0 &&& (255 : Int32)).toUInt32.toUInt16.toUInt32.toInt32)), .val (.int ((p1 &&& (255 : Int32)).toUInt32.toUInt16.toUInt32.toInt32)), .val (.int ((p2 &&& (255 : Int32)).toUInt32.toUInt16.toUInt32.toInt32)), .val (.int (3 : Int32)), .val (.ref b58), .val (.ref b70), .val (.int (p5 &&& (3 : Int32))), .val (.int ((((p5.toUInt32 >>> ((2 : Int32) &&& 31).toUInt32).toInt32) &&& (3 : Int32)) - (1 : Int32))), .val (.int cc), .unset] [(.int cc)]))
        refine Runs.by (fun _ hr => XS.iload XJ75.here hx rfl (hb hby at_247) rfl  hr) ?_
        show Runs p e below _ (TJ75.setTop (mkF m 249 #[.val (.int p0), .val (.int p1), .val (.int p2), .val (.int p3), .val (.int p4), .val (.int p5), .val (.int ((p0 &&& (255 : Int32)).toUInt32.toUInt16.toUInt32.toInt32)), .val (.int ((p1 &&& (255 : Int32)).toUInt32.toUInt16.toUInt32.toInt32)), .val (.int ((p2 &&& (255 : Int32)).toUInt32.toUInt16.toUInt32.toInt32)), .val (.int (3 : Int32)), .val (.ref b58), .val (.ref b70), .val (.int (p5 &&& (3 : Int32))), .val (.int ((((p5.toUInt32 >>> ((2 : Int32) &&& 31).toUInt32).toInt32) &&& (3 : Int32)) - (1 : Int32))), .val (.int cc), .unset] [(.int ((p1 &&& (255 : Int32)).toUInt32.toUInt16.toUInt32.toInt32)), (.int cc)]))
        by_cases hc249 : cc = ((p1 &&& (255 : Int32)).toUInt32.toUInt16.toUInt32.toInt32)
        · -- pc 249: cc = ((p1 &&& (255 : Int32)).toUInt32.toUInt16.toUInt32.toInt32)
          refine Runs.by (fun _ hr => XS.icmpYes XJ75.here hx rfl (pc0 := 249) (pc' := 265) rfl (hb hby at_249) rfl (teq hc249).1 (by decide) (by decide) hr) ?_
          show Runs p e below _ (TJ75.setTop (mkF m 265 #[.val (.int p0), .val (.int p1), .val (.int p2), .val (.int p3), .val (.int p4), .val (.int p5), .val (.int ((p0 &&& (255 : Int32)).toUInt32.toUInt16.toUInt32.toInt32)), .val (.int ((p1 &&& (255 : Int32)).toUInt32.toUInt16.toUInt32.toInt32)), .val (.int ((p2 &&& (255 : Int32)).toUInt32.toUInt16.toUInt32.toInt32)), .val (.int (3 : Int32)), .val (.ref b58), .val (.ref b70), .val (.int (p5 &&& (3 : Int32))), .val (.int ((((p5.toUInt32 >>> ((2 : Int32) &&& 31).toUInt32).toInt32) &&& (3 : Int32)) - (1 : Int32))), .val (.int cc), .unset] []))
          refine Runs.by (fun _ hr => XS.iconst XJ75.here hx rfl (hb hby at_265) hr) ?_
          show Runs p e below _ (TJ75.setTop (mkF m 266 #[.val (.int p0), .val (.int p1), .val (.int p2), .val (.int p3), .val (.int p4), .val (.int p5), .val (.int ((p0 &&& (255 : Int32)).toUInt32.toUInt16.toUInt32.toInt32)), .val (.int ((p1 &&& (255 : Int32)).toUInt32.toUInt16.toUInt32.toInt32)), .val (.int ((p2 &&& (255 : Int32)).toUInt32.toUInt16.toUInt32.toInt32)), .val (.int (3 : Int32)), .val (.ref b58), .val (.ref b70), .val (.int (p5 &&& (3 : Int32))), .val (.int ((((p5.toUInt32 >>> ((2 : Int32) &&& 31).toUInt32).toInt32) &&& (3 : Int32)) - (1 : Int32))), .val (.int cc), .unset] [(.int (1 : Int32))]))
          refine Runs.by (fun _ hr => XS.goto XJ75.here hx rfl (pc0 := 266) (pc' := 270) rfl (hb hby at_266) (by decide) (by decide) hr) ?_
          show Runs p e below _ (TJ75.setTop (mkF m 270 #[.val (.int p0), .val (.int p1), .val (.int p2), .val (.int p3), .val (.int p4), .val (.int p5), .val (.int ((p0 &&& (255 : Int32)).toUInt32.toUInt16.toUInt32.toInt32)), .val (.int ((p1 &&& (255 : Int32)).toUInt32.toUInt16.toUInt32.toInt32)), .val (.int ((p2 &&& (255 : Int32)).toUInt32.toUInt16.toUInt32.toInt32)), .val (.int (3 : Int32)), .val (.ref b58), .val (.ref b70), .val (.int (p5 &&& (3 : Int32))), .val (.int ((((p5.toUInt32 >>> ((2 : Int32) &&& 31).toUInt32).toInt32) &&& (3 : Int32)) - (1 : Int32))), .val (.int cc), .unset] [(.int (1 : Int32))]))
          refine Runs.by (fun _ hr => XS.istore XJ75.here hx rfl (hb hby at_270) rfl (l' := #[.val (.int p0), .val (.int p1), .val (.int p2), .val (.int p3), .val (.int p4), .val (.int p5), .val (.int ((p0 &&& (255 : Int32)).toUInt32.toUInt16.toUInt32.toInt32)), .val (.int ((p1 &&& (255 : Int32)).toUInt32.toUInt16.toUInt32.toInt32)), .val (.int ((p2 &&& (255 : Int32)).toUInt32.toUInt16.toUInt32.toInt32)), .val (.int (3 : Int32)), .val (.ref b58), .val (.ref b70), .val (.int (p5 &&& (3 : Int32))), .val (.int ((((p5.toUInt32 >>> ((2 : Int32) &&& 31).toUInt32).toInt32) &&& (3 : Int32)) - (1 : Int32))), .val (.int cc), .val (.int (1 : Int32))]) rfl hr) ?_
          show Runs p e below _ (TJ75.setTop (mkF m 272 #[.val (.int p0), .val (.int p1), .val (.int p2), .val (.int p3), .val (.int p4), .val (.int p5), .val (.int ((p0 &&& (255 : Int32)).toUInt32.toUInt16.toUInt32.toInt32)), .val (.int ((p1 &&& (255 : Int32)).toUInt32.toUInt16.toUInt32.toInt32)), .val (.int ((p2 &&& (255 : Int32)).toUInt32.toUInt16.toUInt32.toInt32)), .val (.int (3 : Int32)), .val (.ref b58), .val (.ref b70), .val (.int (p5 &&& (3 : Int32))), .val (.int ((((p5.toUInt32 >>> ((2 : Int32) &&& 31).toUInt32).toInt32) &&& (3 : Int32)) - (1 : Int32))), .val (.int cc), .val (.int (1 : Int32))] []))
          refine Runs.by (fun _ hr => XS.aload XJ75.here hx rfl (hb hby at_272) rfl rfl hr) ?_
          show Runs p e below _ (TJ75.setTop (mkF m 274 #[.val (.int p0), .val (.int p1), .val (.int p2), .val (.int p3), .val (.int p4), .val (.int p5), .val (.int ((p0 &&& (255 : Int32)).toUInt32.toUInt16.toUInt32.toInt32)), .val (.int ((p1 &&& (255 : Int32)).toUInt32.toUInt16.toUInt32.toInt32)), .val (.int ((p2 &&& (255 : Int32)).toUInt32.toUInt16.toUInt32.toInt32)), .val (.int (3 : Int32)), .val (.ref b58), .val (.ref b70), .val (.int (p5 &&& (3 : Int32))), .val (.int ((((p5.toUInt32 >>> ((2 : Int32) &&& 31).toUInt32).toInt32) &&& (3 : Int32)) - (1 : Int32))), .val (.int cc), .val (.int (1 : Int32))] [(.ref b70)]))
          refine Runs.by (fun _ hr => XS.iload XJ75.here hx rfl (hb hby at_274) rfl  hr) ?_
          show Runs p e below _ (TJ75.setTop (mkF m 276 #[.val (.int p0), .val (.int p1), .val (.int p2), .val (.int p3), .val (.int p4), .val (.int p5), .val (.int ((p0 &&& (255 : Int32)).toUInt32.toUInt16.toUInt32.toInt32)), .val (.int ((p1 &&& (255 : Int32)).toUInt32.toUInt16.toUInt32.toInt32)), .val (.int ((p2 &&& (255 : Int32)).toUInt32.toUInt16.toUInt32.toInt32)), .val (.int (3 : Int32)), .val (.ref b58), .val (.ref b70), .val (.int (p5 &&& (3 : Int32))), .val (.int ((((p5.toUInt32 >>> ((2 : Int32) &&& 31).toUInt32).toInt32) &&& (3 : Int32)) - (1 : Int32))), .val (.int cc), .val (.int (1 : Int32))] [(.int cc), (.ref b70)]))
          obtain ⟨cq77, kq77, q77a, q77b, q77c⟩ := isOf hZ eJ75 f72_0
          obtain ⟨_, _, ⟨T77, L77, k77, n77⟩, -, X77, ⟨Lc77, hQ77, l77, y77, z77⟩, st77⟩ := XJ75.virtualBack hx (y := (⟨"com/example/vedette/vedette/io/Utf8Buffer$Stops", "isStop", "(I)Z"⟩ : MethodName)) (z := (⟨"com/example/vedette/vedette/io/Utf8Buffer$Stops", "isStop", "(I)Z"⟩ : MethodName)) hown (mvT hZ (hw _ (List.mem_of_getElem? (i := 79) rfl))) (mvT hZ (hw _ (List.mem_of_getElem? (i := 80) rfl))) (notFace_of_selects (args := #[]) (mvT hZ (hw _ (List.mem_of_getElem? (i := 82) rfl)))) (mvT hZ (hw _ (List.mem_of_getElem? (i := 82) rfl))) (mvT hZ (hw _ (List.mem_of_getElem? (i := 81) rfl))) (by decide) (backOf (W := 0) (rm16 l Z a0 hw [] b70 cc t72 kt72 z72 wf72 T72.heap n0 (Nat.le_trans Z0 K73.1) f72_1 f72_2 hcc) hZ (hw _ (List.mem_of_getElem? (i := 83) rfl)) (hw _ (List.mem_of_getElem? (i := 32) rfl)) (by decide) (by decide)) q77a q77c (g := (mkF m 276 #[.val (.int p0), .val (.int p1), .val (.int p2), .val (.int p3), .val (.int p4), .val (.int p5), .val (.int ((p0 &&& (255 : Int32)).toUInt32.toUInt16.toUInt32.toInt32)), .val (.int ((p1 &&& (255 : Int32)).toUInt32.toUInt16.toUInt32.toInt32)), .val (.int ((p2 &&& (255 : Int32)).toUInt32.toUInt16.toUInt32.toInt32)), .val (.int (3 : Int32)), .val (.ref b58), .val (.ref b70), .val (.int (p5 &&& (3 : Int32))), .val (.int ((((p5.toUInt32 >>> ((2 : Int32) &&& 31).toUInt32).toInt32) &&& (3 : Int32)) - (1 : Int32))), .val (.int cc), .val (.int (1 : Int32))] [(.int cc), (.ref b70)])) rfl (by rw [hml]; rfl) (Steps.refl _) (argsL := [(.int cc)]) (rest := []) (lenOf pd_11 rfl) rfl (by show 2 * 0 + _ ≤ _; exact Nat.le_of_eq rfl) (hb hby at_276) (fun _ _ => ⟨rfl, eJ75, (by decide : 6 + 0 ≤ _), (by decide : 524 + 0 ≤ _)⟩)
          dsimp only [Pt.U, Pt.locs, Pt.cells, Pt.slots] at X77 l77 y77 z77 st77 hQ77
          subst l77 y77 z77
          obtain ⟨rfl, Nq77, eq77⟩ := hQ77
          have N77 := Fr.app NJ75 Nq77
          refine Runs.by (fun _ hr => st77.trans hr) ?_
          have hv : own_is z72 wf72 cc = (1 : Int32) := (hs72 cc hcc).trans (by simp only [own_nc, if_neg hc236, if_pos hc249])
          rw [hv]
          show Runs p e below _ (T77.setTop (mkF m 279 #[.val (.int p0), .val (.int p1), .val (.int p2), .val (.int p3), .val (.int p4), .val (.int p5), .val (.int ((p0 &&& (255 : Int32)).toUInt32.toUInt16.toUInt32.toInt32)), .val (.int ((p1 &&& (255 : Int32)).toUInt32.toUInt16.toUInt32.toInt32)), .val (.int ((p2 &&& (255 : Int32)).toUInt32.toUInt16.toUInt32.toInt32)), .val (.int (3 : Int32)), .val (.ref b58), .val (.ref b70), .val (.int (p5 &&& (3 : Int32))), .val (.int ((((p5.toUInt32 >>> ((2 : Int32) &&& 31).toUInt32).toInt32) &&& (3 : Int32)) - (1 : Int32))), .val (.int cc), .val (.int (1 : Int32))] [(.int (1 : Int32))]))
          refine Runs.by (fun _ hr => XS.iload X77.here hx rfl (hb hby at_279) rfl  hr) ?_
          show Runs p e below _ (T77.setTop (mkF m 281 #[.val (.int p0), .val (.int p1), .val (.int p2), .val (.int p3), .val (.int p4), .val (.int p5), .val (.int ((p0 &&& (255 : Int32)).toUInt32.toUInt16.toUInt32.toInt32)), .val (.int ((p1 &&& (255 : Int32)).toUInt32.toUInt16.toUInt32.toInt32)), .val (.int ((p2 &&& (255 : Int32)).toUInt32.toUInt16.toUInt32.toInt32)), .val (.int (3 : Int32)), .val (.ref b58), .val (.ref b70), .val (.int (p5 &&& (3 : Int32))), .val (.int ((((p5.toUInt32 >>> ((2 : Int32) &&& 31).toUInt32).toInt32) &&& (3 : Int32)) - (1 : Int32))), .val (.int cc), .val (.int (1 : Int32))] [(.int (1 : Int32)), (.int (1 : Int32))]))
          have hc281 : (1 : Int32) = (1 : Int32) := (by decide)
          refine Runs.by (fun _ hr => XS.icmpNo X77.here hx rfl (hb hby at_281) rfl (teq hc281).2 hr) ?_
          show Runs p e below _ (T77.setTop (mkF m 284 #[.val (.int p0), .val (.int p1), .val (.int p2), .val (.int p3), .val (.int p4), .val (.int p5), .val (.int ((p0 &&& (255 : Int32)).toUInt32.toUInt16.toUInt32.toInt32)), .val (.int ((p1 &&& (255 : Int32)).toUInt32.toUInt16.toUInt32.toInt32)), .val (.int ((p2 &&& (255 : Int32)).toUInt32.toUInt16.toUInt32.toInt32)), .val (.int (3 : Int32)), .val (.ref b58), .val (.ref b70), .val (.int (p5 &&& (3 : Int32))), .val (.int ((((p5.toUInt32 >>> ((2 : Int32) &&& 31).toUInt32).toInt32) &&& (3 : Int32)) - (1 : Int32))), .val (.int cc), .val (.int (1 : Int32))] []))
          refine Runs.by (fun _ hr => XS.iconst X77.here hx rfl (hb hby at_284) hr) ?_
          show Runs p e below _ (T77.setTop (mkF m 285 #[.val (.int p0), .val (.int p1), .val (.int p2), .val (.int p3), .val (.int p4), .val (.int p5), .val (.int ((p0 &&& (255 : Int32)).toUInt32.toUInt16.toUInt32.toInt32)), .val (.int ((p1 &&& (255 : Int32)).toUInt32.toUInt16.toUInt32.toInt32)), .val (.int ((p2 &&& (255 : Int32)).toUInt32.toUInt16.toUInt32.toInt32)), .val (.int (3 : Int32)), .val (.ref b58), .val (.ref b70), .val (.int (p5 &&& (3 : Int32))), .val (.int ((((p5.toUInt32 >>> ((2 : Int32) &&& 31).toUInt32).toInt32) &&& (3 : Int32)) - (1 : Int32))), .val (.int cc), .val (.int (1 : Int32))] [(.int (1 : Int32))]))
          refine Runs.by (fun _ hr => XS.goto X77.here hx rfl (pc0 := 285) (pc' := 289) rfl (hb hby at_285) (by decide) (by decide) hr) ?_
          show Runs p e below _ (T77.setTop (mkF m 289 #[.val (.int p0), .val (.int p1), .val (.int p2), .val (.int p3), .val (.int p4), .val (.int p5), .val (.int ((p0 &&& (255 : Int32)).toUInt32.toUInt16.toUInt32.toInt32)), .val (.int ((p1 &&& (255 : Int32)).toUInt32.toUInt16.toUInt32.toInt32)), .val (.int ((p2 &&& (255 : Int32)).toUInt32.toUInt16.toUInt32.toInt32)), .val (.int (3 : Int32)), .val (.ref b58), .val (.ref b70), .val (.int (p5 &&& (3 : Int32))), .val (.int ((((p5.toUInt32 >>> ((2 : Int32) &&& 31).toUInt32).toInt32) &&& (3 : Int32)) - (1 : Int32))), .val (.int cc), .val (.int (1 : Int32))] [(.int (1 : Int32))]))
          refine Runs.retW X77 hx hrt hlk eq77 hS hk hZ hEL hC (Or.inl ⟨rfl, by simp, _, rfl⟩) (by rfl) (hb hby at_289) (by decide) (by decide) ?_
          exact ⟨rfl, N77⟩
        · -- pc 249: not cc = ((p1 &&& (255 : Int32)).toUInt32.toUInt16.toUInt32.toInt32)
          refine Runs.by (fun _ hr => XS.icmpNo XJ75.here hx rfl (hb hby at_249) rfl (feq hc249).1 hr) ?_
          show Runs p e below _ (TJ75.setTop (mkF m 252 #[.val (.int p0), .val (.int p1), .val (.int p2), .val (.int p3), .val (.int p4), .val (.int p5), .val (.int ((p0 &&& (255 : Int32)).toUInt32.toUInt16.toUInt32.toInt32)), .val (.int ((p1 &&& (255 : Int32)).toUInt32.toUInt16.toUInt32.toInt32)), .val (.int ((p2 &&& (255 : Int32)).toUInt32.toUInt16.toUInt32.toInt32)), .val (.int (3 : Int32)), .val (.ref b58), .val (.ref b70), .val (.int (p5 &&& (3 : Int32))), .val (.int ((((p5.toUInt32 >>> ((2 : Int32) &&& 31).toUInt32).toInt32) &&& (3 : Int32)) - (1 : Int32))), .val (.int cc), .unset] []))
          refine Runs.by (fun _ hr => XS.iload XJ75.here hx rfl (hb hby at_252) rfl  hr) ?_
          show Runs p e below _ (TJ75.setTop (mkF m 254 #[.val (.int p0), .val (.int p1), .val (.int p2), .val (.int p3), .val (.int p4), .val (.int p5), .val (.int ((p0 &&& (255 : Int32)).toUInt32.toUInt16.toUInt32.toInt32)), .val (.int ((p1 &&& (255 : Int32)).toUInt32.toUInt16.toUInt32.toInt32)), .val (.int ((p2 &&& (255 : Int32)).toUInt32.toUInt16.toUInt32.toInt32)), .val (.int (3 : Int32)), .val (.ref b58), .val (.ref b70), .val (.int (p5 &&& (3 : Int32))), .val (.int ((((p5.toUInt32 >>> ((2 : Int32) &&& 31).toUInt32).toInt32) &&& (3 : Int32)) - (1 : Int32))), .val (.int cc), .unset] [(.int (3 : Int32))]))
          refine Runs.by (fun _ hr => XS.iconst XJ75.here hx rfl (hb hby at_254) hr) ?_
          show Runs p e below _ (TJ75.setTop (mkF m 255 #[.val (.int p0), .val (.int p1), .val (.int p2), .val (.int p3), .val (.int p4), .val (.int p5), .val (.int ((p0 &&& (255 : Int32)).toUInt32.toUInt16.toUInt32.toInt32)), .val (.int ((p1 &&& (255 : Int32)).toUInt32.toUInt16.toUInt32.toInt32)), .val (.int ((p2 &&& (255 : Int32)).toUInt32.toUInt16.toUInt32.toInt32)), .val (.int (3 : Int32)), .val (.ref b58), .val (.ref b70), .val (.int (p5 &&& (3 : Int32))), .val (.int ((((p5.toUInt32 >>> ((2 : Int32) &&& 31).toUInt32).toInt32) &&& (3 : Int32)) - (1 : Int32))), .val (.int cc), .unset] [(.int (3 : Int32)), (.int (3 : Int32))]))
          have hc255 : ¬ ((3 : Int32) < (3 : Int32)) := (by decide)
          refine Runs.by (fun _ hr => XS.icmpNo XJ75.here hx rfl (hb hby at_255) rfl (flt hc255).1 hr) ?_
          show Runs p e below _ (TJ75.setTop (mkF m 258 #[.val (.int p0), .val (.int p1), .val (.int p2), .val (.int p3), .val (.int p4), .val (.int p5), .val (.int ((p0 &&& (255 : Int32)).toUInt32.toUInt16.toUInt32.toInt32)), .val (.int ((p1 &&& (255 : Int32)).toUInt32.toUInt16.toUInt32.toInt32)), .val (.int ((p2 &&& (255 : Int32)).toUInt32.toUInt16.toUInt32.toInt32)), .val (.int (3 : Int32)), .val (.ref b58), .val (.ref b70), .val (.int (p5 &&& (3 : Int32))), .val (.int ((((p5.toUInt32 >>> ((2 : Int32) &&& 31).toUInt32).toInt32) &&& (3 : Int32)) - (1 : Int32))), .val (.int cc), .unset] []))
          refine Runs.by (fun _ hr => XS.iload XJ75.here hx rfl (hb hby at_258) rfl  hr) ?_
          show Runs p e below _ (TJ75.setTop (mkF m 260 #[.val (.int p0), .val (.int p1), .val (.int p2), .val (.int p3), .val (.int p4), .val (.int p5), .val (.int ((p0 &&& (255 : Int32)).toUInt32.toUInt16.toUInt32.toInt32)), .val (.int ((p1 &&& (255 : Int32)).toUInt32.toUInt16.toUInt32.toInt32)), .val (.int ((p2 &&& (255 : Int32)).toUInt32.toUInt16.toUInt32.toInt32)), .val (.int (3 : Int32)), .val (.ref b58), .val (.ref b70), .val (.int (p5 &&& (3 : Int32))), .val (.int ((((p5.toUInt32 >>> ((2 : Int32) &&& 31).toUInt32).toInt32) &&& (3 : Int32)) - (1 : Int32))), .val (.int cc), .unset] [(.int cc)]))
          refine Runs.by (fun _ hr => XS.iload XJ75.here hx rfl (hb hby at_260) rfl  hr) ?_
          show Runs p e below _ (TJ75.setTop (mkF m 262 #[.val (.int p0), .val (.int p1), .val (.int p2), .val (.int p3), .val (.int p4), .val (.int p5), .val (.int ((p0 &&& (255 : Int32)).toUInt32.toUInt16.toUInt32.toInt32)), .val (.int ((p1 &&& (255 : Int32)).toUInt32.toUInt16.toUInt32.toInt32)), .val (.int ((p2 &&& (255 : Int32)).toUInt32.toUInt16.toUInt32.toInt32)), .val (.int (3 : Int32)), .val (.ref b58), .val (.ref b70), .val (.int (p5 &&& (3 : Int32))), .val (.int ((((p5.toUInt32 >>> ((2 : Int32) &&& 31).toUInt32).toInt32) &&& (3 : Int32)) - (1 : Int32))), .val (.int cc), .unset] [(.int ((p2 &&& (255 : Int32)).toUInt32.toUInt16.toUInt32.toInt32)), (.int cc)]))
          by_cases hc262 : cc = ((p2 &&& (255 : Int32)).toUInt32.toUInt16.toUInt32.toInt32)
          · -- pc 262: cc = ((p2 &&& (255 : Int32)).toUInt32.toUInt16.toUInt32.toInt32)
            refine Runs.by (fun _ hr => XS.icmpNo XJ75.here hx rfl (hb hby at_262) rfl (teq hc262).2 hr) ?_
            show Runs p e below _ (TJ75.setTop (mkF m 265 #[.val (.int p0), .val (.int p1), .val (.int p2), .val (.int p3), .val (.int p4), .val (.int p5), .val (.int ((p0 &&& (255 : Int32)).toUInt32.toUInt16.toUInt32.toInt32)), .val (.int ((p1 &&& (255 : Int32)).toUInt32.toUInt16.toUInt32.toInt32)), .val (.int ((p2 &&& (255 : Int32)).toUInt32.toUInt16.toUInt32.toInt32)), .val (.int (3 : Int32)), .val (.ref b58), .val (.ref b70), .val (.int (p5 &&& (3 : Int32))), .val (.int ((((p5.toUInt32 >>> ((2 : Int32) &&& 31).toUInt32).toInt32) &&& (3 : Int32)) - (1 : Int32))), .val (.int cc), .unset] []))
            refine Runs.by (fun _ hr => XS.iconst XJ75.here hx rfl (hb hby at_265) hr) ?_
            show Runs p e below _ (TJ75.setTop (mkF m 266 #[.val (.int p0), .val (.int p1), .val (.int p2), .val (.int p3), .val (.int p4), .val (.int p5), .val (.int ((p0 &&& (255 : Int32)).toUInt32.toUInt16.toUInt32.toInt32)), .val (.int ((p1 &&& (255 : Int32)).toUInt32.toUInt16.toUInt32.toInt32)), .val (.int ((p2 &&& (255 : Int32)).toUInt32.toUInt16.toUInt32.toInt32)), .val (.int (3 : Int32)), .val (.ref b58), .val (.ref b70), .val (.int (p5 &&& (3 : Int32))), .val (.int ((((p5.toUInt32 >>> ((2 : Int32) &&& 31).toUInt32).toInt32) &&& (3 : Int32)) - (1 : Int32))), .val (.int cc), .unset] [(.int (1 : Int32))]))
            refine Runs.by (fun _ hr => XS.goto XJ75.here hx rfl (pc0 := 266) (pc' := 270) rfl (hb hby at_266) (by decide) (by decide) hr) ?_
            show Runs p e below _ (TJ75.setTop (mkF m 270 #[.val (.int p0), .val (.int p1), .val (.int p2), .val (.int p3), .val (.int p4), .val (.int p5), .val (.int ((p0 &&& (255 : Int32)).toUInt32.toUInt16.toUInt32.toInt32)), .val (.int ((p1 &&& (255 : Int32)).toUInt32.toUInt16.toUInt32.toInt32)), .val (.int ((p2 &&& (255 : Int32)).toUInt32.toUInt16.toUInt32.toInt32)), .val (.int (3 : Int32)), .val (.ref b58), .val (.ref b70), .val (.int (p5 &&& (3 : Int32))), .val (.int ((((p5.toUInt32 >>> ((2 : Int32) &&& 31).toUInt32).toInt32) &&& (3 : Int32)) - (1 : Int32))), .val (.int cc), .unset] [(.int (1 : Int32))]))
            refine Runs.by (fun _ hr => XS.istore XJ75.here hx rfl (hb hby at_270) rfl (l' := #[.val (.int p0), .val (.int p1), .val (.int p2), .val (.int p3), .val (.int p4), .val (.int p5), .val (.int ((p0 &&& (255 : Int32)).toUInt32.toUInt16.toUInt32.toInt32)), .val (.int ((p1 &&& (255 : Int32)).toUInt32.toUInt16.toUInt32.toInt32)), .val (.int ((p2 &&& (255 : Int32)).toUInt32.toUInt16.toUInt32.toInt32)), .val (.int (3 : Int32)), .val (.ref b58), .val (.ref b70), .val (.int (p5 &&& (3 : Int32))), .val (.int ((((p5.toUInt32 >>> ((2 : Int32) &&& 31).toUInt32).toInt32) &&& (3 : Int32)) - (1 : Int32))), .val (.int cc), .val (.int (1 : Int32))]) rfl hr) ?_
            show Runs p e below _ (TJ75.setTop (mkF m 272 #[.val (.int p0), .val (.int p1), .val (.int p2), .val (.int p3), .val (.int p4), .val (.int p5), .val (.int ((p0 &&& (255 : Int32)).toUInt32.toUInt16.toUInt32.toInt32)), .val (.int ((p1 &&& (255 : Int32)).toUInt32.toUInt16.toUInt32.toInt32)), .val (.int ((p2 &&& (255 : Int32)).toUInt32.toUInt16.toUInt32.toInt32)), .val (.int (3 : Int32)), .val (.ref b58), .val (.ref b70), .val (.int (p5 &&& (3 : Int32))), .val (.int ((((p5.toUInt32 >>> ((2 : Int32) &&& 31).toUInt32).toInt32) &&& (3 : Int32)) - (1 : Int32))), .val (.int cc), .val (.int (1 : Int32))] []))
            refine Runs.by (fun _ hr => XS.aload XJ75.here hx rfl (hb hby at_272) rfl rfl hr) ?_
            show Runs p e below _ (TJ75.setTop (mkF m 274 #[.val (.int p0), .val (.int p1), .val (.int p2), .val (.int p3), .val (.int p4), .val (.int p5), .val (.int ((p0 &&& (255 : Int32)).toUInt32.toUInt16.toUInt32.toInt32)), .val (.int ((p1 &&& (255 : Int32)).toUInt32.toUInt16.toUInt32.toInt32)), .val (.int ((p2 &&& (255 : Int32)).toUInt32.toUInt16.toUInt32.toInt32)), .val (.int (3 : Int32)), .val (.ref b58), .val (.ref b70), .val (.int (p5 &&& (3 : Int32))), .val (.int ((((p5.toUInt32 >>> ((2 : Int32) &&& 31).toUInt32).toInt32) &&& (3 : Int32)) - (1 : Int32))), .val (.int cc), .val (.int (1 : Int32))] [(.ref b70)]))
            refine Runs.by (fun _ hr => XS.iload XJ75.here hx rfl (hb hby at_274) rfl  hr) ?_
            show Runs p e below _ (TJ75.setTop (mkF m 276 #[.val (.int p0), .val (.int p1), .val (.int p2), .val (.int p3), .val (.int p4), .val (.int p5), .val (.int ((p0 &&& (255 : Int32)).toUInt32.toUInt16.toUInt32.toInt32)), .val (.int ((p1 &&& (255 : Int32)).toUInt32.toUInt16.toUInt32.toInt32)), .val (.int ((p2 &&& (255 : Int32)).toUInt32.toUInt16.toUInt32.toInt32)), .val (.int (3 : Int32)), .val (.ref b58), .val (.ref b70), .val (.int (p5 &&& (3 : Int32))), .val (.int ((((p5.toUInt32 >>> ((2 : Int32) &&& 31).toUInt32).toInt32) &&& (3 : Int32)) - (1 : Int32))), .val (.int cc), .val (.int (1 : Int32))] [(.int cc), (.ref b70)]))
            obtain ⟨cq78, kq78, q78a, q78b, q78c⟩ := isOf hZ eJ75 f72_0
            obtain ⟨_, _, ⟨T78, L78, k78, n78⟩, -, X78, ⟨Lc78, hQ78, l78, y78, z78⟩, st78⟩ := XJ75.virtualBack hx (y := (⟨"com/example/vedette/vedette/io/Utf8Buffer$Stops", "isStop", "(I)Z"⟩ : MethodName)) (z := (⟨"com/example/vedette/vedette/io/Utf8Buffer$Stops", "isStop", "(I)Z"⟩ : MethodName)) hown (mvT hZ (hw _ (List.mem_of_getElem? (i := 79) rfl))) (mvT hZ (hw _ (List.mem_of_getElem? (i := 80) rfl))) (notFace_of_selects (args := #[]) (mvT hZ (hw _ (List.mem_of_getElem? (i := 82) rfl)))) (mvT hZ (hw _ (List.mem_of_getElem? (i := 82) rfl))) (mvT hZ (hw _ (List.mem_of_getElem? (i := 81) rfl))) (by decide) (backOf (W := 0) (rm16 l Z a0 hw [] b70 cc t72 kt72 z72 wf72 T72.heap n0 (Nat.le_trans Z0 K73.1) f72_1 f72_2 hcc) hZ (hw _ (List.mem_of_getElem? (i := 83) rfl)) (hw _ (List.mem_of_getElem? (i := 32) rfl)) (by decide) (by decide)) q78a q78c (g := (mkF m 276 #[.val (.int p0), .val (.int p1), .val (.int p2), .val (.int p3), .val (.int p4), .val (.int p5), .val (.int ((p0 &&& (255 : Int32)).toUInt32.toUInt16.toUInt32.toInt32)), .val (.int ((p1 &&& (255 : Int32)).toUInt32.toUInt16.toUInt32.toInt32)), .val (.int ((p2 &&& (255 : Int32)).toUInt32.toUInt16.toUInt32.toInt32)), .val (.int (3 : Int32)), .val (.ref b58), .val (.ref b70), .val (.int (p5 &&& (3 : Int32))), .val (.int ((((p5.toUInt32 >>> ((2 : Int32) &&& 31).toUInt32).toInt32) &&& (3 : Int32)) - (1 : Int32))), .val (.int cc), .val (.int (1 : Int32))] [(.int cc), (.ref b70)])) rfl (by rw [hml]; rfl) (Steps.refl _) (argsL := [(.int cc)]) (rest := []) (lenOf pd_11 rfl) rfl (by show 2 * 0 + _ ≤ _; exact Nat.le_of_eq rfl) (hb hby at_276) (fun _ _ => ⟨rfl, eJ75, (by decide : 6 + 0 ≤ _), (by decide : 524 + 0 ≤ _)⟩)
            dsimp only [Pt.U, Pt.locs, Pt.cells, Pt.slots] at X78 l78 y78 z78 st78 hQ78
            subst l78 y78 z78
            obtain ⟨rfl, Nq78, eq78⟩ := hQ78
            have N78 := Fr.app NJ75 Nq78
            refine Runs.by (fun _ hr => st78.trans hr) ?_
            have hv : own_is z72 wf72 cc = (1 : Int32) := (hs72 cc hcc).trans (by simp only [own_nc, if_neg hc236, if_neg hc249, if_pos hc262])
            rw [hv]
            show Runs p e below _ (T78.setTop (mkF m 279 #[.val (.int p0), .val (.int p1), .val (.int p2), .val (.int p3), .val (.int p4), .val (.int p5), .val (.int ((p0 &&& (255 : Int32)).toUInt32.toUInt16.toUInt32.toInt32)), .val (.int ((p1 &&& (255 : Int32)).toUInt32.toUInt16.toUInt32.toInt32)), .val (.int ((p2 &&& (255 : Int32)).toUInt32.toUInt16.toUInt32.toInt32)), .val (.int (3 : Int32)), .val (.ref b58), .val (.ref b70), .val (.int (p5 &&& (3 : Int32))), .val (.int ((((p5.toUInt32 >>> ((2 : Int32) &&& 31).toUInt32).toInt32) &&& (3 : Int32)) - (1 : Int32))), .val (.int cc), .val (.int (1 : Int32))] [(.int (1 : Int32))]))
            refine Runs.by (fun _ hr => XS.iload X78.here hx rfl (hb hby at_279) rfl  hr) ?_
            show Runs p e below _ (T78.setTop (mkF m 281 #[.val (.int p0), .val (.int p1), .val (.int p2), .val (.int p3), .val (.int p4), .val (.int p5), .val (.int ((p0 &&& (255 : Int32)).toUInt32.toUInt16.toUInt32.toInt32)), .val (.int ((p1 &&& (255 : Int32)).toUInt32.toUInt16.toUInt32.toInt32)), .val (.int ((p2 &&& (255 : Int32)).toUInt32.toUInt16.toUInt32.toInt32)), .val (.int (3 : Int32)), .val (.ref b58), .val (.ref b70), .val (.int (p5 &&& (3 : Int32))), .val (.int ((((p5.toUInt32 >>> ((2 : Int32) &&& 31).toUInt32).toInt32) &&& (3 : Int32)) - (1 : Int32))), .val (.int cc), .val (.int (1 : Int32))] [(.int (1 : Int32)), (.int (1 : Int32))]))
            have hc281 : (1 : Int32) = (1 : Int32) := (by decide)
            refine Runs.by (fun _ hr => XS.icmpNo X78.here hx rfl (hb hby at_281) rfl (teq hc281).2 hr) ?_
            show Runs p e below _ (T78.setTop (mkF m 284 #[.val (.int p0), .val (.int p1), .val (.int p2), .val (.int p3), .val (.int p4), .val (.int p5), .val (.int ((p0 &&& (255 : Int32)).toUInt32.toUInt16.toUInt32.toInt32)), .val (.int ((p1 &&& (255 : Int32)).toUInt32.toUInt16.toUInt32.toInt32)), .val (.int ((p2 &&& (255 : Int32)).toUInt32.toUInt16.toUInt32.toInt32)), .val (.int (3 : Int32)), .val (.ref b58), .val (.ref b70), .val (.int (p5 &&& (3 : Int32))), .val (.int ((((p5.toUInt32 >>> ((2 : Int32) &&& 31).toUInt32).toInt32) &&& (3 : Int32)) - (1 : Int32))), .val (.int cc), .val (.int (1 : Int32))] []))
            refine Runs.by (fun _ hr => XS.iconst X78.here hx rfl (hb hby at_284) hr) ?_
            show Runs p e below _ (T78.setTop (mkF m 285 #[.val (.int p0), .val (.int p1), .val (.int p2), .val (.int p3), .val (.int p4), .val (.int p5), .val (.int ((p0 &&& (255 : Int32)).toUInt32.toUInt16.toUInt32.toInt32)), .val (.int ((p1 &&& (255 : Int32)).toUInt32.toUInt16.toUInt32.toInt32)), .val (.int ((p2 &&& (255 : Int32)).toUInt32.toUInt16.toUInt32.toInt32)), .val (.int (3 : Int32)), .val (.ref b58), .val (.ref b70), .val (.int (p5 &&& (3 : Int32))), .val (.int ((((p5.toUInt32 >>> ((2 : Int32) &&& 31).toUInt32).toInt32) &&& (3 : Int32)) - (1 : Int32))), .val (.int cc), .val (.int (1 : Int32))] [(.int (1 : Int32))]))
            refine Runs.by (fun _ hr => XS.goto X78.here hx rfl (pc0 := 285) (pc' := 289) rfl (hb hby at_285) (by decide) (by decide) hr) ?_
            show Runs p e below _ (T78.setTop (mkF m 289 #[.val (.int p0), .val (.int p1), .val (.int p2), .val (.int p3), .val (.int p4), .val (.int p5), .val (.int ((p0 &&& (255 : Int32)).toUInt32.toUInt16.toUInt32.toInt32)), .val (.int ((p1 &&& (255 : Int32)).toUInt32.toUInt16.toUInt32.toInt32)), .val (.int ((p2 &&& (255 : Int32)).toUInt32.toUInt16.toUInt32.toInt32)), .val (.int (3 : Int32)), .val (.ref b58), .val (.ref b70), .val (.int (p5 &&& (3 : Int32))), .val (.int ((((p5.toUInt32 >>> ((2 : Int32) &&& 31).toUInt32).toInt32) &&& (3 : Int32)) - (1 : Int32))), .val (.int cc), .val (.int (1 : Int32))] [(.int (1 : Int32))]))
            refine Runs.retW X78 hx hrt hlk eq78 hS hk hZ hEL hC (Or.inl ⟨rfl, by simp, _, rfl⟩) (by rfl) (hb hby at_289) (by decide) (by decide) ?_
            exact ⟨rfl, N78⟩
          · -- pc 262: not cc = ((p2 &&& (255 : Int32)).toUInt32.toUInt16.toUInt32.toInt32)
            refine Runs.by (fun _ hr => XS.icmpYes XJ75.here hx rfl (pc0 := 262) (pc' := 269) rfl (hb hby at_262) rfl (feq hc262).2 (by decide) (by decide) hr) ?_
            show Runs p e below _ (TJ75.setTop (mkF m 269 #[.val (.int p0), .val (.int p1), .val (.int p2), .val (.int p3), .val (.int p4), .val (.int p5), .val (.int ((p0 &&& (255 : Int32)).toUInt32.toUInt16.toUInt32.toInt32)), .val (.int ((p1 &&& (255 : Int32)).toUInt32.toUInt16.toUInt32.toInt32)), .val (.int ((p2 &&& (255 : Int32)).toUInt32.toUInt16.toUInt32.toInt32)), .val (.int (3 : Int32)), .val (.ref b58), .val (.ref b70), .val (.int (p5 &&& (3 : Int32))), .val (.int ((((p5.toUInt32 >>> ((2 : Int32) &&& 31).toUInt32).toInt32) &&& (3 : Int32)) - (1 : Int32))), .val (.int cc), .unset] []))
            refine Runs.by (fun _ hr => XS.iconst XJ75.here hx rfl (hb hby at_269) hr) ?_
            show Runs p e below _ (TJ75.setTop (mkF m 270 #[.val (.int p0), .val (.int p1), .val (.int p2), .val (.int p3), .val (.int p4), .val (.int p5), .val (.int ((p0 &&& (255 : Int32)).toUInt32.toUInt16.toUInt32.toInt32)), .val (.int ((p1 &&& (255 : Int32)).toUInt32.toUInt16.toUInt32.toInt32)), .val (.int ((p2 &&& (255 : Int32)).toUInt32.toUInt16.toUInt32.toInt32)), .val (.int (3 : Int32)), .val (.ref b58), .val (.ref b70), .val (.int (p5 &&& (3 : Int32))), .val (.int ((((p5.toUInt32 >>> ((2 : Int32) &&& 31).toUInt32).toInt32) &&& (3 : Int32)) - (1 : Int32))), .val (.int cc), .unset] [(.int (0 : Int32))]))
            refine Runs.by (fun _ hr => XS.istore XJ75.here hx rfl (hb hby at_270) rfl (l' := #[.val (.int p0), .val (.int p1), .val (.int p2), .val (.int p3), .val (.int p4), .val (.int p5), .val (.int ((p0 &&& (255 : Int32)).toUInt32.toUInt16.toUInt32.toInt32)), .val (.int ((p1 &&& (255 : Int32)).toUInt32.toUInt16.toUInt32.toInt32)), .val (.int ((p2 &&& (255 : Int32)).toUInt32.toUInt16.toUInt32.toInt32)), .val (.int (3 : Int32)), .val (.ref b58), .val (.ref b70), .val (.int (p5 &&& (3 : Int32))), .val (.int ((((p5.toUInt32 >>> ((2 : Int32) &&& 31).toUInt32).toInt32) &&& (3 : Int32)) - (1 : Int32))), .val (.int cc), .val (.int (0 : Int32))]) rfl hr) ?_
            show Runs p e below _ (TJ75.setTop (mkF m 272 #[.val (.int p0), .val (.int p1), .val (.int p2), .val (.int p3), .val (.int p4), .val (.int p5), .val (.int ((p0 &&& (255 : Int32)).toUInt32.toUInt16.toUInt32.toInt32)), .val (.int ((p1 &&& (255 : Int32)).toUInt32.toUInt16.toUInt32.toInt32)), .val (.int ((p2 &&& (255 : Int32)).toUInt32.toUInt16.toUInt32.toInt32)), .val (.int (3 : Int32)), .val (.ref b58), .val (.ref b70), .val (.int (p5 &&& (3 : Int32))), .val (.int ((((p5.toUInt32 >>> ((2 : Int32) &&& 31).toUInt32).toInt32) &&& (3 : Int32)) - (1 : Int32))), .val (.int cc), .val (.int (0 : Int32))] []))
            refine Runs.by (fun _ hr => XS.aload XJ75.here hx rfl (hb hby at_272) rfl rfl hr) ?_
            show Runs p e below _ (TJ75.setTop (mkF m 274 #[.val (.int p0), .val (.int p1), .val (.int p2), .val (.int p3), .val (.int p4), .val (.int p5), .val (.int ((p0 &&& (255 : Int32)).toUInt32.toUInt16.toUInt32.toInt32)), .val (.int ((p1 &&& (255 : Int32)).toUInt32.toUInt16.toUInt32.toInt32)), .val (.int ((p2 &&& (255 : Int32)).toUInt32.toUInt16.toUInt32.toInt32)), .val (.int (3 : Int32)), .val (.ref b58), .val (.ref b70), .val (.int (p5 &&& (3 : Int32))), .val (.int ((((p5.toUInt32 >>> ((2 : Int32) &&& 31).toUInt32).toInt32) &&& (3 : Int32)) - (1 : Int32))), .val (.int cc), .val (.int (0 : Int32))] [(.ref b70)]))
            refine Runs.by (fun _ hr => XS.iload XJ75.here hx rfl (hb hby at_274) rfl  hr) ?_
            show Runs p e below _ (TJ75.setTop (mkF m 276 #[.val (.int p0), .val (.int p1), .val (.int p2), .val (.int p3), .val (.int p4), .val (.int p5), .val (.int ((p0 &&& (255 : Int32)).toUInt32.toUInt16.toUInt32.toInt32)), .val (.int ((p1 &&& (255 : Int32)).toUInt32.toUInt16.toUInt32.toInt32)), .val (.int ((p2 &&& (255 : Int32)).toUInt32.toUInt16.toUInt32.toInt32)), .val (.int (3 : Int32)), .val (.ref b58), .val (.ref b70), .val (.int (p5 &&& (3 : Int32))), .val (.int ((((p5.toUInt32 >>> ((2 : Int32) &&& 31).toUInt32).toInt32) &&& (3 : Int32)) - (1 : Int32))), .val (.int cc), .val (.int (0 : Int32))] [(.int cc), (.ref b70)]))
            obtain ⟨cq79, kq79, q79a, q79b, q79c⟩ := isOf hZ eJ75 f72_0
            obtain ⟨_, _, ⟨T79, L79, k79, n79⟩, -, X79, ⟨Lc79, hQ79, l79, y79, z79⟩, st79⟩ := XJ75.virtualBack hx (y := (⟨"com/example/vedette/vedette/io/Utf8Buffer$Stops", "isStop", "(I)Z"⟩ : MethodName)) (z := (⟨"com/example/vedette/vedette/io/Utf8Buffer$Stops", "isStop", "(I)Z"⟩ : MethodName)) hown (mvT hZ (hw _ (List.mem_of_getElem? (i := 79) rfl))) (mvT hZ (hw _ (List.mem_of_getElem? (i := 80) rfl))) (notFace_of_selects (args := #[]) (mvT hZ (hw _ (List.mem_of_getElem? (i := 82) rfl)))) (mvT hZ (hw _ (List.mem_of_getElem? (i := 82) rfl))) (mvT hZ (hw _ (List.mem_of_getElem? (i := 81) rfl))) (by decide) (backOf (W := 0) (rm16 l Z a0 hw [] b70 cc t72 kt72 z72 wf72 T72.heap n0 (Nat.le_trans Z0 K73.1) f72_1 f72_2 hcc) hZ (hw _ (List.mem_of_getElem? (i := 83) rfl)) (hw _ (List.mem_of_getElem? (i := 32) rfl)) (by decide) (by decide)) q79a q79c (g := (mkF m 276 #[.val (.int p0), .val (.int p1), .val (.int p2), .val (.int p3), .val (.int p4), .val (.int p5), .val (.int ((p0 &&& (255 : Int32)).toUInt32.toUInt16.toUInt32.toInt32)), .val (.int ((p1 &&& (255 : Int32)).toUInt32.toUInt16.toUInt32.toInt32)), .val (.int ((p2 &&& (255 : Int32)).toUInt32.toUInt16.toUInt32.toInt32)), .val (.int (3 : Int32)), .val (.ref b58), .val (.ref b70), .val (.int (p5 &&& (3 : Int32))), .val (.int ((((p5.toUInt32 >>> ((2 : Int32) &&& 31).toUInt32).toInt32) &&& (3 : Int32)) - (1 : Int32))), .val (.int cc), .val (.int (0 : Int32))] [(.int cc), (.ref b70)])) rfl (by rw [hml]; rfl) (Steps.refl _) (argsL := [(.int cc)]) (rest := []) (lenOf pd_11 rfl) rfl (by show 2 * 0 + _ ≤ _; exact Nat.le_of_eq rfl) (hb hby at_276) (fun _ _ => ⟨rfl, eJ75, (by decide : 6 + 0 ≤ _), (by decide : 524 + 0 ≤ _)⟩)
            dsimp only [Pt.U, Pt.locs, Pt.cells, Pt.slots] at X79 l79 y79 z79 st79 hQ79
            subst l79 y79 z79
            obtain ⟨rfl, Nq79, eq79⟩ := hQ79
            have N79 := Fr.app NJ75 Nq79
            refine Runs.by (fun _ hr => st79.trans hr) ?_
            have hv : own_is z72 wf72 cc = (0 : Int32) := (hs72 cc hcc).trans (by simp only [own_nc, if_neg hc236, if_neg hc249, if_neg hc262])
            rw [hv]
            show Runs p e below _ (T79.setTop (mkF m 279 #[.val (.int p0), .val (.int p1), .val (.int p2), .val (.int p3), .val (.int p4), .val (.int p5), .val (.int ((p0 &&& (255 : Int32)).toUInt32.toUInt16.toUInt32.toInt32)), .val (.int ((p1 &&& (255 : Int32)).toUInt32.toUInt16.toUInt32.toInt32)), .val (.int ((p2 &&& (255 : Int32)).toUInt32.toUInt16.toUInt32.toInt32)), .val (.int (3 : Int32)), .val (.ref b58), .val (.ref b70), .val (.int (p5 &&& (3 : Int32))), .val (.int ((((p5.toUInt32 >>> ((2 : Int32) &&& 31).toUInt32).toInt32) &&& (3 : Int32)) - (1 : Int32))), .val (.int cc), .val (.int (0 : Int32))] [(.int (0 : Int32))]))
            refine Runs.by (fun _ hr => XS.iload X79.here hx rfl (hb hby at_279) rfl  hr) ?_
            show Runs p e below _ (T79.setTop (mkF m 281 #[.val (.int p0), .val (.int p1), .val (.int p2), .val (.int p3), .val (.int p4), .val (.int p5), .val (.int ((p0 &&& (255 : Int32)).toUInt32.toUInt16.toUInt32.toInt32)), .val (.int ((p1 &&& (255 : Int32)).toUInt32.toUInt16.toUInt32.toInt32)), .val (.int ((p2 &&& (255 : Int32)).toUInt32.toUInt16.toUInt32.toInt32)), .val (.int (3 : Int32)), .val (.ref b58), .val (.ref b70), .val (.int (p5 &&& (3 : Int32))), .val (.int ((((p5.toUInt32 >>> ((2 : Int32) &&& 31).toUInt32).toInt32) &&& (3 : Int32)) - (1 : Int32))), .val (.int cc), .val (.int (0 : Int32))] [(.int (0 : Int32)), (.int (0 : Int32))]))
            have hc281 : (0 : Int32) = (0 : Int32) := (by decide)
            refine Runs.by (fun _ hr => XS.icmpNo X79.here hx rfl (hb hby at_281) rfl (teq hc281).2 hr) ?_
            show Runs p e below _ (T79.setTop (mkF m 284 #[.val (.int p0), .val (.int p1), .val (.int p2), .val (.int p3), .val (.int p4), .val (.int p5), .val (.int ((p0 &&& (255 : Int32)).toUInt32.toUInt16.toUInt32.toInt32)), .val (.int ((p1 &&& (255 : Int32)).toUInt32.toUInt16.toUInt32.toInt32)), .val (.int ((p2 &&& (255 : Int32)).toUInt32.toUInt16.toUInt32.toInt32)), .val (.int (3 : Int32)), .val (.ref b58), .val (.ref b70), .val (.int (p5 &&& (3 : Int32))), .val (.int ((((p5.toUInt32 >>> ((2 : Int32) &&& 31).toUInt32).toInt32) &&& (3 : Int32)) - (1 : Int32))), .val (.int cc), .val (.int (0 : Int32))] []))
            refine Runs.by (fun _ hr => XS.iconst X79.here hx rfl (hb hby at_284) hr) ?_
            show Runs p e below _ (T79.setTop (mkF m 285 #[.val (.int p0), .val (.int p1), .val (.int p2), .val (.int p3), .val (.int p4), .val (.int p5), .val (.int ((p0 &&& (255 : Int32)).toUInt32.toUInt16.toUInt32.toInt32)), .val (.int ((p1 &&& (255 : Int32)).toUInt32.toUInt16.toUInt32.toInt32)), .val (.int ((p2 &&& (255 : Int32)).toUInt32.toUInt16.toUInt32.toInt32)), .val (.int (3 : Int32)), .val (.ref b58), .val (.ref b70), .val (.int (p5 &&& (3 : Int32))), .val (.int ((((p5.toUInt32 >>> ((2 : Int32) &&& 31).toUInt32).toInt32) &&& (3 : Int32)) - (1 : Int32))), .val (.int cc), .val (.int (0 : Int32))] [(.int (1 : Int32))]))
            refine Runs.by (fun _ hr => XS.goto X79.here hx rfl (pc0 := 285) (pc' := 289) rfl (hb hby at_285) (by decide) (by decide) hr) ?_
            show Runs p e below _ (T79.setTop (mkF m 289 #[.val (.int p0), .val (.int p1), .val (.int p2), .val (.int p3), .val (.int p4), .val (.int p5), .val (.int ((p0 &&& (255 : Int32)).toUInt32.toUInt16.toUInt32.toInt32)), .val (.int ((p1 &&& (255 : Int32)).toUInt32.toUInt16.toUInt32.toInt32)), .val (.int ((p2 &&& (255 : Int32)).toUInt32.toUInt16.toUInt32.toInt32)), .val (.int (3 : Int32)), .val (.ref b58), .val (.ref b70), .val (.int (p5 &&& (3 : Int32))), .val (.int ((((p5.toUInt32 >>> ((2 : Int32) &&& 31).toUInt32).toInt32) &&& (3 : Int32)) - (1 : Int32))), .val (.int cc), .val (.int (0 : Int32))] [(.int (1 : Int32))]))
            refine Runs.retW X79 hx hrt hlk eq79 hS hk hZ hEL hC (Or.inl ⟨rfl, by simp, _, rfl⟩) (by rfl) (hb hby at_289) (by decide) (by decide) ?_
            exact ⟨rfl, N79⟩
    show Runs p e below _ (T72.setTop (mkF m 160 #[.val (.int p0), .val (.int p1), .val (.int p2), .val (.int p3), .val (.int p4), .val (.int p5), .val (.int ((p0 &&& (255 : Int32)).toUInt32.toUInt16.toUInt32.toInt32)), .val (.int ((p1 &&& (255 : Int32)).toUInt32.toUInt16.toUInt32.toInt32)), .val (.int ((p2 &&& (255 : Int32)).toUInt32.toUInt16.toUInt32.toInt32)), .val (.int (3 : Int32)), .val (.ref b58), .val (.ref b70), .val (.int (p5 &&& (3 : Int32))), .val (.int ((((p5.toUInt32 >>> ((2 : Int32) &&& 31).toUInt32).toInt32) &&& (3 : Int32)) - (1 : Int32))), .unset, .unset] []))
    refine Runs.by (fun _ hr => XS.iload X72.here hx rfl (hb hby at_160) rfl  hr) ?_
    show Runs p e below _ (T72.setTop (mkF m 162 #[.val (.int p0), .val (.int p1), .val (.int p2), .val (.int p3), .val (.int p4), .val (.int p5), .val (.int ((p0 &&& (255 : Int32)).toUInt32.toUInt16.toUInt32.toInt32)), .val (.int ((p1 &&& (255 : Int32)).toUInt32.toUInt16.toUInt32.toInt32)), .val (.int ((p2 &&& (255 : Int32)).toUInt32.toUInt16.toUInt32.toInt32)), .val (.int (3 : Int32)), .val (.ref b58), .val (.ref b70), .val (.int (p5 &&& (3 : Int32))), .val (.int ((((p5.toUInt32 >>> ((2 : Int32) &&& 31).toUInt32).toInt32) &&& (3 : Int32)) - (1 : Int32))), .unset, .unset] [(.int (p5 &&& (3 : Int32)))]))
    by_cases hc162 : (p5 &&& (3 : Int32)) = (0 : Int32)
    · -- pc 162: (p5 &&& (3 : Int32)) = (0 : Int32)
      refine Runs.by (fun _ hr => XS.ifNo X72.here hx rfl (hb hby at_162) rfl ((if0 _ _).trans (teq hc162).2) hr) ?_
      show Runs p e below _ (T72.setTop (mkF m 165 #[.val (.int p0), .val (.int p1), .val (.int p2), .val (.int p3), .val (.int p4), .val (.int p5), .val (.int ((p0 &&& (255 : Int32)).toUInt32.toUInt16.toUInt32.toInt32)), .val (.int ((p1 &&& (255 : Int32)).toUInt32.toUInt16.toUInt32.toInt32)), .val (.int ((p2 &&& (255 : Int32)).toUInt32.toUInt16.toUInt32.toInt32)), .val (.int (3 : Int32)), .val (.ref b58), .val (.ref b70), .val (.int (p5 &&& (3 : Int32))), .val (.int ((((p5.toUInt32 >>> ((2 : Int32) &&& 31).toUInt32).toInt32) &&& (3 : Int32)) - (1 : Int32))), .unset, .unset] []))
      refine Runs.by (fun _ hr => XS.iload X72.here hx rfl (hb hby at_165) rfl  hr) ?_
      show Runs p e below _ (T72.setTop (mkF m 167 #[.val (.int p0), .val (.int p1), .val (.int p2), .val (.int p3), .val (.int p4), .val (.int p5), .val (.int ((p0 &&& (255 : Int32)).toUInt32.toUInt16.toUInt32.toInt32)), .val (.int ((p1 &&& (255 : Int32)).toUInt32.toUInt16.toUInt32.toInt32)), .val (.int ((p2 &&& (255 : Int32)).toUInt32.toUInt16.toUInt32.toInt32)), .val (.int (3 : Int32)), .val (.ref b58), .val (.ref b70), .val (.int (p5 &&& (3 : Int32))), .val (.int ((((p5.toUInt32 >>> ((2 : Int32) &&& 31).toUInt32).toInt32) &&& (3 : Int32)) - (1 : Int32))), .unset, .unset] [(.int p4)]))
      refine Runs.by (fun _ hr => X72.ldcI hx hown (mvT hZ (hw _ (List.mem_of_getElem? (i := 87) rfl))) (g := (mkF m 167 #[.val (.int p0), .val (.int p1), .val (.int p2), .val (.int p3), .val (.int p4), .val (.int p5), .val (.int ((p0 &&& (255 : Int32)).toUInt32.toUInt16.toUInt32.toInt32)), .val (.int ((p1 &&& (255 : Int32)).toUInt32.toUInt16.toUInt32.toInt32)), .val (.int ((p2 &&& (255 : Int32)).toUInt32.toUInt16.toUInt32.toInt32)), .val (.int (3 : Int32)), .val (.ref b58), .val (.ref b70), .val (.int (p5 &&& (3 : Int32))), .val (.int ((((p5.toUInt32 >>> ((2 : Int32) &&& 31).toUInt32).toInt32) &&& (3 : Int32)) - (1 : Int32))), .unset, .unset] [(.int p4)])) rfl (hb hby at_167) hr) ?_
      show Runs p e below _ (T72.setTop (mkF m 169 #[.val (.int p0), .val (.int p1), .val (.int p2), .val (.int p3), .val (.int p4), .val (.int p5), .val (.int ((p0 &&& (255 : Int32)).toUInt32.toUInt16.toUInt32.toInt32)), .val (.int ((p1 &&& (255 : Int32)).toUInt32.toUInt16.toUInt32.toInt32)), .val (.int ((p2 &&& (255 : Int32)).toUInt32.toUInt16.toUInt32.toInt32)), .val (.int (3 : Int32)), .val (.ref b58), .val (.ref b70), .val (.int (p5 &&& (3 : Int32))), .val (.int ((((p5.toUInt32 >>> ((2 : Int32) &&& 31).toUInt32).toInt32) &&& (3 : Int32)) - (1 : Int32))), .unset, .unset] [(.int (2147483647 : Int32)), (.int p4)]))
      refine Runs.by (fun _ hr => XS.iand X72.here hx rfl (hb hby at_169) rfl hr) ?_
      show Runs p e below _ (T72.setTop (mkF m 170 #[.val (.int p0), .val (.int p1), .val (.int p2), .val (.int p3), .val (.int p4), .val (.int p5), .val (.int ((p0 &&& (255 : Int32)).toUInt32.toUInt16.toUInt32.toInt32)), .val (.int ((p1 &&& (255 : Int32)).toUInt32.toUInt16.toUInt32.toInt32)), .val (.int ((p2 &&& (255 : Int32)).toUInt32.toUInt16.toUInt32.toInt32)), .val (.int (3 : Int32)), .val (.ref b58), .val (.ref b70), .val (.int (p5 &&& (3 : Int32))), .val (.int ((((p5.toUInt32 >>> ((2 : Int32) &&& 31).toUInt32).toInt32) &&& (3 : Int32)) - (1 : Int32))), .unset, .unset] [(.int (p4 &&& (2147483647 : Int32)))]))
      refine Runs.by (fun _ hr => XS.istore X72.here hx rfl (hb hby at_170) rfl (l' := #[.val (.int p0), .val (.int p1), .val (.int p2), .val (.int p3), .val (.int p4), .val (.int p5), .val (.int ((p0 &&& (255 : Int32)).toUInt32.toUInt16.toUInt32.toInt32)), .val (.int ((p1 &&& (255 : Int32)).toUInt32.toUInt16.toUInt32.toInt32)), .val (.int ((p2 &&& (255 : Int32)).toUInt32.toUInt16.toUInt32.toInt32)), .val (.int (3 : Int32)), .val (.ref b58), .val (.ref b70), .val (.int (p5 &&& (3 : Int32))), .val (.int ((((p5.toUInt32 >>> ((2 : Int32) &&& 31).toUInt32).toInt32) &&& (3 : Int32)) - (1 : Int32))), .val (.int (p4 &&& (2147483647 : Int32))), .unset]) rfl hr) ?_
      show Runs p e below _ (T72.setTop (mkF m 172 #[.val (.int p0), .val (.int p1), .val (.int p2), .val (.int p3), .val (.int p4), .val (.int p5), .val (.int ((p0 &&& (255 : Int32)).toUInt32.toUInt16.toUInt32.toInt32)), .val (.int ((p1 &&& (255 : Int32)).toUInt32.toUInt16.toUInt32.toInt32)), .val (.int ((p2 &&& (255 : Int32)).toUInt32.toUInt16.toUInt32.toInt32)), .val (.int (3 : Int32)), .val (.ref b58), .val (.ref b70), .val (.int (p5 &&& (3 : Int32))), .val (.int ((((p5.toUInt32 >>> ((2 : Int32) &&& 31).toUInt32).toInt32) &&& (3 : Int32)) - (1 : Int32))), .val (.int (p4 &&& (2147483647 : Int32))), .unset] []))
      refine Runs.by (fun _ hr => XS.goto X72.here hx rfl (pc0 := 172) (pc' := 226) rfl (hb hby at_172) (by decide) (by decide) hr) ?_
      exact JL74 (p4 &&& (2147483647 : Int32)) _ _ X72 rfl N72 (own_m31 _)
    · -- pc 162: not (p5 &&& (3 : Int32)) = (0 : Int32)
      refine Runs.by (fun _ hr => XS.ifYes X72.here hx rfl (pc0 := 162) (pc' := 175) rfl (hb hby at_162) rfl ((if0 _ _).trans (feq hc162).2) (by decide) (by decide) hr) ?_
      show Runs p e below _ (T72.setTop (mkF m 175 #[.val (.int p0), .val (.int p1), .val (.int p2), .val (.int p3), .val (.int p4), .val (.int p5), .val (.int ((p0 &&& (255 : Int32)).toUInt32.toUInt16.toUInt32.toInt32)), .val (.int ((p1 &&& (255 : Int32)).toUInt32.toUInt16.toUInt32.toInt32)), .val (.int ((p2 &&& (255 : Int32)).toUInt32.toUInt16.toUInt32.toInt32)), .val (.int (3 : Int32)), .val (.ref b58), .val (.ref b70), .val (.int (p5 &&& (3 : Int32))), .val (.int ((((p5.toUInt32 >>> ((2 : Int32) &&& 31).toUInt32).toInt32) &&& (3 : Int32)) - (1 : Int32))), .unset, .unset] []))
      refine Runs.by (fun _ hr => XS.iload X72.here hx rfl (hb hby at_175) rfl  hr) ?_
      show Runs p e below _ (T72.setTop (mkF m 177 #[.val (.int p0), .val (.int p1), .val (.int p2), .val (.int p3), .val (.int p4), .val (.int p5), .val (.int ((p0 &&& (255 : Int32)).toUInt32.toUInt16.toUInt32.toInt32)), .val (.int ((p1 &&& (255 : Int32)).toUInt32.toUInt16.toUInt32.toInt32)), .val (.int ((p2 &&& (255 : Int32)).toUInt32.toUInt16.toUInt32.toInt32)), .val (.int (3 : Int32)), .val (.ref b58), .val (.ref b70), .val (.int (p5 &&& (3 : Int32))), .val (.int ((((p5.toUInt32 >>> ((2 : Int32) &&& 31).toUInt32).toInt32) &&& (3 : Int32)) - (1 : Int32))), .unset, .unset] [(.int (p5 &&& (3 : Int32)))]))
      refine Runs.by (fun _ hr => XS.iconst X72.here hx rfl (hb hby at_177) hr) ?_
      show Runs p e below _ (T72.setTop (mkF m 178 #[.val (.int p0), .val (.int p1), .val (.int p2), .val (.int p3), .val (.int p4), .val (.int p5), .val (.int ((p0 &&& (255 : Int32)).toUInt32.toUInt16.toUInt32.toInt32)), .val (.int ((p1 &&& (255 : Int32)).toUInt32.toUInt16.toUInt32.toInt32)), .val (.int ((p2 &&& (255 : Int32)).toUInt32.toUInt16.toUInt32.toInt32)), .val (.int (3 : Int32)), .val (.ref b58), .val (.ref b70), .val (.int (p5 &&& (3 : Int32))), .val (.int ((((p5.toUInt32 >>> ((2 : Int32) &&& 31).toUInt32).toInt32) &&& (3 : Int32)) - (1 : Int32))), .unset, .unset] [(.int (1 : Int32)), (.int (p5 &&& (3 : Int32)))]))
      by_cases hc178 : (p5 &&& (3 : Int32)) = (1 : Int32)
      · -- pc 178: (p5 &&& (3 : Int32)) = (1 : Int32)
        refine Runs.by (fun _ hr => XS.icmpNo X72.here hx rfl (hb hby at_178) rfl (teq hc178).2 hr) ?_
        show Runs p e below _ (T72.setTop (mkF m 181 #[.val (.int p0), .val (.int p1), .val (.int p2), .val (.int p3), .val (.int p4), .val (.int p5), .val (.int ((p0 &&& (255 : Int32)).toUInt32.toUInt16.toUInt32.toInt32)), .val (.int ((p1 &&& (255 : Int32)).toUInt32.toUInt16.toUInt32.toInt32)), .val (.int ((p2 &&& (255 : Int32)).toUInt32.toUInt16.toUInt32.toInt32)), .val (.int (3 : Int32)), .val (.ref b58), .val (.ref b70), .val (.int (p5 &&& (3 : Int32))), .val (.int ((((p5.toUInt32 >>> ((2 : Int32) &&& 31).toUInt32).toInt32) &&& (3 : Int32)) - (1 : Int32))), .unset, .unset] []))
        refine Runs.by (fun _ hr => XS.iconst X72.here hx rfl (hb hby at_181) hr) ?_
        show Runs p e below _ (T72.setTop (mkF m 182 #[.val (.int p0), .val (.int p1), .val (.int p2), .val (.int p3), .val (.int p4), .val (.int p5), .val (.int ((p0 &&& (255 : Int32)).toUInt32.toUInt16.toUInt32.toInt32)), .val (.int ((p1 &&& (255 : Int32)).toUInt32.toUInt16.toUInt32.toInt32)), .val (.int ((p2 &&& (255 : Int32)).toUInt32.toUInt16.toUInt32.toInt32)), .val (.int (3 : Int32)), .val (.ref b58), .val (.ref b70), .val (.int (p5 &&& (3 : Int32))), .val (.int ((((p5.toUInt32 >>> ((2 : Int32) &&& 31).toUInt32).toInt32) &&& (3 : Int32)) - (1 : Int32))), .unset, .unset] [(.int (0 : Int32))]))
        refine Runs.by (fun _ hr => XS.iload X72.here hx rfl (hb hby at_182) rfl  hr) ?_
        show Runs p e below _ (T72.setTop (mkF m 184 #[.val (.int p0), .val (.int p1), .val (.int p2), .val (.int p3), .val (.int p4), .val (.int p5), .val (.int ((p0 &&& (255 : Int32)).toUInt32.toUInt16.toUInt32.toInt32)), .val (.int ((p1 &&& (255 : Int32)).toUInt32.toUInt16.toUInt32.toInt32)), .val (.int ((p2 &&& (255 : Int32)).toUInt32.toUInt16.toUInt32.toInt32)), .val (.int (3 : Int32)), .val (.ref b58), .val (.ref b70), .val (.int (p5 &&& (3 : Int32))), .val (.int ((((p5.toUInt32 >>> ((2 : Int32) &&& 31).toUInt32).toInt32) &&& (3 : Int32)) - (1 : Int32))), .unset, .unset] [(.int ((p0 &&& (255 : Int32)).toUInt32.toUInt16.toUInt32.toInt32)), (.int (0 : Int32))]))
        refine Runs.by (fun _ hr => XS.iload X72.here hx rfl (hb hby at_184) rfl  hr) ?_
        show Runs p e below _ (T72.setTop (mkF m 186 #[.val (.int p0), .val (.int p1), .val (.int p2), .val (.int p3), .val (.int p4), .val (.int p5), .val (.int ((p0 &&& (255 : Int32)).toUInt32.toUInt16.toUInt32.toInt32)), .val (.int ((p1 &&& (255 : Int32)).toUInt32.toUInt16.toUInt32.toInt32)), .val (.int ((p2 &&& (255 : Int32)).toUInt32.toUInt16.toUInt32.toInt32)), .val (.int (3 : Int32)), .val (.ref b58), .val (.ref b70), .val (.int (p5 &&& (3 : Int32))), .val (.int ((((p5.toUInt32 >>> ((2 : Int32) &&& 31).toUInt32).toInt32) &&& (3 : Int32)) - (1 : Int32))), .unset, .unset] [(.int ((((p5.toUInt32 >>> ((2 : Int32) &&& 31).toUInt32).toInt32) &&& (3 : Int32)) - (1 : Int32))), (.int ((p0 &&& (255 : Int32)).toUInt32.toUInt16.toUInt32.toInt32)), (.int (0 : Int32))]))
        refine Runs.by (fun _ hr => XS.iadd X72.here hx rfl (hb hby at_186) rfl hr) ?_
        show Runs p e below _ (T72.setTop (mkF m 187 #[.val (.int p0), .val (.int p1), .val (.int p2), .val (.int p3), .val (.int p4), .val (.int p5), .val (.int ((p0 &&& (255 : Int32)).toUInt32.toUInt16.toUInt32.toInt32)), .val (.int ((p1 &&& (255 : Int32)).toUInt32.toUInt16.toUInt32.toInt32)), .val (.int ((p2 &&& (255 : Int32)).toUInt32.toUInt16.toUInt32.toInt32)), .val (.int (3 : Int32)), .val (.ref b58), .val (.ref b70), .val (.int (p5 &&& (3 : Int32))), .val (.int ((((p5.toUInt32 >>> ((2 : Int32) &&& 31).toUInt32).toInt32) &&& (3 : Int32)) - (1 : Int32))), .unset, .unset] [(.int (((p0 &&& (255 : Int32)).toUInt32.toUInt16.toUInt32.toInt32) + ((((p5.toUInt32 >>> ((2 : Int32) &&& 31).toUInt32).toInt32) &&& (3 : Int32)) - (1 : Int32)))), (.int (0 : Int32))]))
        obtain ⟨_, _, ⟨T80, L80, k80, n80⟩, -, X80, ⟨Lc80, hQ80, l80, y80, z80⟩, st80⟩ := Jvm.LawKit.callS X72 hx (y := (⟨"java/lang/Math", "max", "(II)I"⟩ : MethodName)) hown (mvT hZ (hw _ (List.mem_of_getElem? (i := 78) rfl))) (mvT hZ (hw _ (List.mem_of_getElem? (i := 73) rfl))) (mvT hZ (hw _ (List.mem_of_getElem? (i := 74) rfl))) (mvT hZ (hw _ (List.mem_of_getElem? (i := 75) rfl))) (by decide) (backOf (W := 0) (rm15 l Z a0 hw [] (0 : Int32) (((p0 &&& (255 : Int32)).toUInt32.toUInt16.toUInt32.toInt32) + ((((p5.toUInt32 >>> ((2 : Int32) &&& 31).toUInt32).toInt32) &&& (3 : Int32)) - (1 : Int32)))  T72.heap n0 (Nat.le_trans Z0 K73.1) ) hZ (hw _ (List.mem_of_getElem? (i := 75) rfl)) (hw _ (List.mem_of_getElem? (i := 74) rfl)) (by decide) (by decide)) (g := (mkF m 187 #[.val (.int p0), .val (.int p1), .val (.int p2), .val (.int p3), .val (.int p4), .val (.int p5), .val (.int ((p0 &&& (255 : Int32)).toUInt32.toUInt16.toUInt32.toInt32)), .val (.int ((p1 &&& (255 : Int32)).toUInt32.toUInt16.toUInt32.toInt32)), .val (.int ((p2 &&& (255 : Int32)).toUInt32.toUInt16.toUInt32.toInt32)), .val (.int (3 : Int32)), .val (.ref b58), .val (.ref b70), .val (.int (p5 &&& (3 : Int32))), .val (.int ((((p5.toUInt32 >>> ((2 : Int32) &&& 31).toUInt32).toInt32) &&& (3 : Int32)) - (1 : Int32))), .unset, .unset] [(.int (((p0 &&& (255 : Int32)).toUInt32.toUInt16.toUInt32.toInt32) + ((((p5.toUInt32 >>> ((2 : Int32) &&& 31).toUInt32).toInt32) &&& (3 : Int32)) - (1 : Int32)))), (.int (0 : Int32))])) rfl (by rw [hml]; rfl) (argsL := [(.int (0 : Int32)), (.int (((p0 &&& (255 : Int32)).toUInt32.toUInt16.toUInt32.toInt32) + ((((p5.toUInt32 >>> ((2 : Int32) &&& 31).toUInt32).toInt32) &&& (3 : Int32)) - (1 : Int32))))]) (rest := []) (lenOf pd_8 rfl) rfl (by show 2 * 0 + _ ≤ _; exact Nat.le_of_eq rfl) (hb hby at_187) (fun _ _ => ⟨rfl, rfl, (by decide : 6 + 0 ≤ _), (by decide : 524 + 0 ≤ _)⟩)
        dsimp only [Pt.U, Pt.locs, Pt.cells, Pt.slots] at X80 l80 y80 z80 st80 hQ80
        subst l80 y80 z80
        obtain ⟨rfl, Nq80, eq80⟩ := hQ80
        have N80 := Fr.app N72 Nq80
        refine Runs.by (fun t hr => st80 t hr) ?_
        show Runs p e below _ (T80.setTop (mkF m 190 #[.val (.int p0), .val (.int p1), .val (.int p2), .val (.int p3), .val (.int p4), .val (.int p5), .val (.int ((p0 &&& (255 : Int32)).toUInt32.toUInt16.toUInt32.toInt32)), .val (.int ((p1 &&& (255 : Int32)).toUInt32.toUInt16.toUInt32.toInt32)), .val (.int ((p2 &&& (255 : Int32)).toUInt32.toUInt16.toUInt32.toInt32)), .val (.int (3 : Int32)), .val (.ref b58), .val (.ref b70), .val (.int (p5 &&& (3 : Int32))), .val (.int ((((p5.toUInt32 >>> ((2 : Int32) &&& 31).toUInt32).toInt32) &&& (3 : Int32)) - (1 : Int32))), .unset, .unset] [(.int (own_max (0 : Int32) (((p0 &&& (255 : Int32)).toUInt32.toUInt16.toUInt32.toInt32) + ((((p5.toUInt32 >>> ((2 : Int32) &&& 31).toUInt32).toInt32) &&& (3 : Int32)) - (1 : Int32)))))]))
        refine Runs.by (fun _ hr => XS.istore X80.here hx rfl (hb hby at_190) rfl (l' := #[.val (.int p0), .val (.int p1), .val (.int p2), .val (.int p3), .val (.int p4), .val (.int p5), .val (.int ((p0 &&& (255 : Int32)).toUInt32.toUInt16.toUInt32.toInt32)), .val (.int ((p1 &&& (255 : Int32)).toUInt32.toUInt16.toUInt32.toInt32)), .val (.int ((p2 &&& (255 : Int32)).toUInt32.toUInt16.toUInt32.toInt32)), .val (.int (3 : Int32)), .val (.ref b58), .val (.ref b70), .val (.int (p5 &&& (3 : Int32))), .val (.int ((((p5.toUInt32 >>> ((2 : Int32) &&& 31).toUInt32).toInt32) &&& (3 : Int32)) - (1 : Int32))), .val (.int (own_max (0 : Int32) (((p0 &&& (255 : Int32)).toUInt32.toUInt16.toUInt32.toInt32) + ((((p5.toUInt32 >>> ((2 : Int32) &&& 31).toUInt32).toInt32) &&& (3 : Int32)) - (1 : Int32))))), .unset]) rfl hr) ?_
        show Runs p e below _ (T80.setTop (mkF m 192 #[.val (.int p0), .val (.int p1), .val (.int p2), .val (.int p3), .val (.int p4), .val (.int p5), .val (.int ((p0 &&& (255 : Int32)).toUInt32.toUInt16.toUInt32.toInt32)), .val (.int ((p1 &&& (255 : Int32)).toUInt32.toUInt16.toUInt32.toInt32)), .val (.int ((p2 &&& (255 : Int32)).toUInt32.toUInt16.toUInt32.toInt32)), .val (.int (3 : Int32)), .val (.ref b58), .val (.ref b70), .val (.int (p5 &&& (3 : Int32))), .val (.int ((((p5.toUInt32 >>> ((2 : Int32) &&& 31).toUInt32).toInt32) &&& (3 : Int32)) - (1 : Int32))), .val (.int (own_max (0 : Int32) (((p0 &&& (255 : Int32)).toUInt32.toUInt16.toUInt32.toInt32) + ((((p5.toUInt32 >>> ((2 : Int32) &&& 31).toUInt32).toInt32) &&& (3 : Int32)) - (1 : Int32))))), .unset] []))
        refine Runs.by (fun _ hr => XS.goto X80.here hx rfl (pc0 := 192) (pc' := 226) rfl (hb hby at_192) (by decide) (by decide) hr) ?_
        exact JL74 (own_max (0 : Int32) (((p0 &&& (255 : Int32)).toUInt32.toUInt16.toUInt32.toInt32) + ((((p5.toUInt32 >>> ((2 : Int32) &&& 31).toUInt32).toInt32) &&& (3 : Int32)) - (1 : Int32)))) _ _ X80 eq80 N80 (own_max0 _)
      · -- pc 178: not (p5 &&& (3 : Int32)) = (1 : Int32)
        refine Runs.by (fun _ hr => XS.icmpYes X72.here hx rfl (pc0 := 178) (pc' := 195) rfl (hb hby at_178) rfl (feq hc178).2 (by decide) (by decide) hr) ?_
        show Runs p e below _ (T72.setTop (mkF m 195 #[.val (.int p0), .val (.int p1), .val (.int p2), .val (.int p3), .val (.int p4), .val (.int p5), .val (.int ((p0 &&& (255 : Int32)).toUInt32.toUInt16.toUInt32.toInt32)), .val (.int ((p1 &&& (255 : Int32)).toUInt32.toUInt16.toUInt32.toInt32)), .val (.int ((p2 &&& (255 : Int32)).toUInt32.toUInt16.toUInt32.toInt32)), .val (.int (3 : Int32)), .val (.ref b58), .val (.ref b70), .val (.int (p5 &&& (3 : Int32))), .val (.int ((((p5.toUInt32 >>> ((2 : Int32) &&& 31).toUInt32).toInt32) &&& (3 : Int32)) - (1 : Int32))), .unset, .unset] []))
        refine Runs.by (fun _ hr => XS.iload X72.here hx rfl (hb hby at_195) rfl  hr) ?_
        show Runs p e below _ (T72.setTop (mkF m 197 #[.val (.int p0), .val (.int p1), .val (.int p2), .val (.int p3), .val (.int p4), .val (.int p5), .val (.int ((p0 &&& (255 : Int32)).toUInt32.toUInt16.toUInt32.toInt32)), .val (.int ((p1 &&& (255 : Int32)).toUInt32.toUInt16.toUInt32.toInt32)), .val (.int ((p2 &&& (255 : Int32)).toUInt32.toUInt16.toUInt32.toInt32)), .val (.int (3 : Int32)), .val (.ref b58), .val (.ref b70), .val (.int (p5 &&& (3 : Int32))), .val (.int ((((p5.toUInt32 >>> ((2 : Int32) &&& 31).toUInt32).toInt32) &&& (3 : Int32)) - (1 : Int32))), .unset, .unset] [(.int (p5 &&& (3 : Int32)))]))
        refine Runs.by (fun _ hr => XS.iconst X72.here hx rfl (hb hby at_197) hr) ?_
        show Runs p e below _ (T72.setTop (mkF m 198 #[.val (.int p0), .val (.int p1), .val (.int p2), .val (.int p3), .val (.int p4), .val (.int p5), .val (.int ((p0 &&& (255 : Int32)).toUInt32.toUInt16.toUInt32.toInt32)), .val (.int ((p1 &&& (255 : Int32)).toUInt32.toUInt16.toUInt32.toInt32)), .val (.int ((p2 &&& (255 : Int32)).toUInt32.toUInt16.toUInt32.toInt32)), .val (.int (3 : Int32)), .val (.ref b58), .val (.ref b70), .val (.int (p5 &&& (3 : Int32))), .val (.int ((((p5.toUInt32 >>> ((2 : Int32) &&& 31).toUInt32).toInt32) &&& (3 : Int32)) - (1 : Int32))), .unset, .unset] [(.int (2 : Int32)), (.int (p5 &&& (3 : Int32)))]))
        by_cases hc198 : (p5 &&& (3 : Int32)) = (2 : Int32)
        · -- pc 198: (p5 &&& (3 : Int32)) = (2 : Int32)
          refine Runs.by (fun _ hr => XS.icmpNo X72.here hx rfl (hb hby at_198) rfl (teq hc198).2 hr) ?_
          show Runs p e below _ (T72.setTop (mkF m 201 #[.val (.int p0), .val (.int p1), .val (.int p2), .val (.int p3), .val (.int p4), .val (.int p5), .val (.int ((p0 &&& (255 : Int32)).toUInt32.toUInt16.toUInt32.toInt32)), .val (.int ((p1 &&& (255 : Int32)).toUInt32.toUInt16.toUInt32.toInt32)), .val (.int ((p2 &&& (255 : Int32)).toUInt32.toUInt16.toUInt32.toInt32)), .val (.int (3 : Int32)), .val (.ref b58), .val (.ref b70), .val (.int (p5 &&& (3 : Int32))), .val (.int ((((p5.toUInt32 >>> ((2 : Int32) &&& 31).toUInt32).toInt32) &&& (3 : Int32)) - (1 : Int32))), .unset, .unset] []))
          refine Runs.by (fun _ hr => XS.iconst X72.here hx rfl (hb hby at_201) hr) ?_
          show Runs p e below _ (T72.setTop (mkF m 202 #[.val (.int p0), .val (.int p1), .val (.int p2), .val (.int p3), .val (.int p4), .val (.int p5), .val (.int ((p0 &&& (255 : Int32)).toUInt32.toUInt16.toUInt32.toInt32)), .val (.int ((p1 &&& (255 : Int32)).toUInt32.toUInt16.toUInt32.toInt32)), .val (.int ((p2 &&& (255 : Int32)).toUInt32.toUInt16.toUInt32.toInt32)), .val (.int (3 : Int32)), .val (.ref b58), .val (.ref b70), .val (.int (p5 &&& (3 : Int32))), .val (.int ((((p5.toUInt32 >>> ((2 : Int32) &&& 31).toUInt32).toInt32) &&& (3 : Int32)) - (1 : Int32))), .unset, .unset] [(.int (0 : Int32))]))
          refine Runs.by (fun _ hr => XS.iload X72.here hx rfl (hb hby at_202) rfl  hr) ?_
          show Runs p e below _ (T72.setTop (mkF m 204 #[.val (.int p0), .val (.int p1), .val (.int p2), .val (.int p3), .val (.int p4), .val (.int p5), .val (.int ((p0 &&& (255 : Int32)).toUInt32.toUInt16.toUInt32.toInt32)), .val (.int ((p1 &&& (255 : Int32)).toUInt32.toUInt16.toUInt32.toInt32)), .val (.int ((p2 &&& (255 : Int32)).toUInt32.toUInt16.toUInt32.toInt32)), .val (.int (3 : Int32)), .val (.ref b58), .val (.ref b70), .val (.int (p5 &&& (3 : Int32))), .val (.int ((((p5.toUInt32 >>> ((2 : Int32) &&& 31).toUInt32).toInt32) &&& (3 : Int32)) - (1 : Int32))), .unset, .unset] [(.int ((p1 &&& (255 : Int32)).toUInt32.toUInt16.toUInt32.toInt32)), (.int (0 : Int32))]))
          refine Runs.by (fun _ hr => XS.iload X72.here hx rfl (hb hby at_204) rfl  hr) ?_
          show Runs p e below _ (T72.setTop (mkF m 206 #[.val (.int p0), .val (.int p1), .val (.int p2), .val (.int p3), .val (.int p4), .val (.int p5), .val (.int ((p0 &&& (255 : Int32)).toUInt32.toUInt16.toUInt32.toInt32)), .val (.int ((p1 &&& (255 : Int32)).toUInt32.toUInt16.toUInt32.toInt32)), .val (.int ((p2 &&& (255 : Int32)).toUInt32.toUInt16.toUInt32.toInt32)), .val (.int (3 : Int32)), .val (.ref b58), .val (.ref b70), .val (.int (p5 &&& (3 : Int32))), .val (.int ((((p5.toUInt32 >>> ((2 : Int32) &&& 31).toUInt32).toInt32) &&& (3 : Int32)) - (1 : Int32))), .unset, .unset] [(.int ((((p5.toUInt32 >>> ((2 : Int32) &&& 31).toUInt32).toInt32) &&& (3 : Int32)) - (1 : Int32))), (.int ((p1 &&& (255 : Int32)).toUInt32.toUInt16.toUInt32.toInt32)), (.int (0 : Int32))]))
          refine Runs.by (fun _ hr => XS.iadd X72.here hx rfl (hb hby at_206) rfl hr) ?_
          show Runs p e below _ (T72.setTop (mkF m 207 #[.val (.int p0), .val (.int p1), .val (.int p2), .val (.int p3), .val (.int p4), .val (.int p5), .val (.int ((p0 &&& (255 : Int32)).toUInt32.toUInt16.toUInt32.toInt32)), .val (.int ((p1 &&& (255 : Int32)).toUInt32.toUInt16.toUInt32.toInt32)), .val (.int ((p2 &&& (255 : Int32)).toUInt32.toUInt16.toUInt32.toInt32)), .val (.int (3 : Int32)), .val (.ref b58), .val (.ref b70), .val (.int (p5 &&& (3 : Int32))), .val (.int ((((p5.toUInt32 >>> ((2 : Int32) &&& 31).toUInt32).toInt32) &&& (3 : Int32)) - (1 : Int32))), .unset, .unset] [(.int (((p1 &&& (255 : Int32)).toUInt32.toUInt16.toUInt32.toInt32) + ((((p5.toUInt32 >>> ((2 : Int32) &&& 31).toUInt32).toInt32) &&& (3 : Int32)) - (1 : Int32)))), (.int (0 : Int32))]))
          obtain ⟨_, _, ⟨T81, L81, k81, n81⟩, -, X81, ⟨Lc81, hQ81, l81, y81, z81⟩, st81⟩ := Jvm.LawKit.callS X72 hx (y := (⟨"java/lang/Math", "max", "(II)I"⟩ : MethodName)) hown (mvT hZ (hw _ (List.mem_of_getElem? (i := 78) rfl))) (mvT hZ (hw _ (List.mem_of_getElem? (i := 73) rfl))) (mvT hZ (hw _ (List.mem_of_getElem? (i := 74) rfl))) (mvT hZ (hw _ (List.mem_of_getElem? (i := 75) rfl))) (by decide) (backOf (W := 0) (rm15 l Z a0 hw [] (0 : Int32) (((p1 &&& (255 : Int32)).toUInt32.toUInt16.toUInt32.toInt32) + ((((p5.toUInt32 >>> ((2 : Int32) &&& 31).toUInt32).toInt32) &&& (3 : Int32)) - (1 : Int32)))  T72.heap n0 (Nat.le_trans Z0 K73.1) ) hZ (hw _ (List.mem_of_getElem? (i := 75) rfl)) (hw _ (List.mem_of_getElem? (i := 74) rfl)) (by decide) (by decide)) (g := (mkF m 207 #[.val (.int p0), .val (.int p1), .val (.int p2), .val (.int p3), .val (.int p4), .val (.int p5), .val (.int ((p0 &&& (255 : Int32)).toUInt32.toUInt16.toUInt32.toInt32)), .val (.int ((p1 &&& (255 : Int32)).toUInt32.toUInt16.toUInt32.toInt32)), .val (.int ((p2 &&& (255 : Int32)).toUInt32.toUInt16.toUInt32.toInt32)), .val (.int (3 : Int32)), .val (.ref b58), .val (.ref b70), .val (.int (p5 &&& (3 : Int32))), .val (.int ((((p5.toUInt32 >>> ((2 : Int32) &&& 31).toUInt32).toInt32) &&& (3 : Int32)) - (1 : Int32))), .unset, .unset] [(.int (((p1 &&& (255 : Int32)).toUInt32.toUInt16.toUInt32.toInt32) + ((((p5.toUInt32 >>> ((2 : Int32) &&& 31).toUInt32).toInt32) &&& (3 : Int32)) - (1 : Int32)))), (.int (0 : Int32))])) rfl (by rw [hml]; rfl) (argsL := [(.int (0 : Int32)), (.int (((p1 &&& (255 : Int32)).toUInt32.toUInt16.toUInt32.toInt32) + ((((p5.toUInt32 >>> ((2 : Int32) &&& 31).toUInt32).toInt32) &&& (3 : Int32)) - (1 : Int32))))]) (rest := []) (lenOf pd_8 rfl) rfl (by show 2 * 0 + _ ≤ _; exact Nat.le_of_eq rfl) (hb hby at_207) (fun _ _ => ⟨rfl, rfl, (by decide : 6 + 0 ≤ _), (by decide : 524 + 0 ≤ _)⟩)
          dsimp only [Pt.U, Pt.locs, Pt.cells, Pt.slots] at X81 l81 y81 z81 st81 hQ81
          subst l81 y81 z81
          obtain ⟨rfl, Nq81, eq81⟩ := hQ81
          have N81 := Fr.app N72 Nq81
          refine Runs.by (fun t hr => st81 t hr) ?_
          show Runs p e below _ (T81.setTop (mkF m 210 #[.val (.int p0), .val (.int p1), .val (.int p2), .val (.int p3), .val (.int p4), .val (.int p5), .val (.int ((p0 &&& (255 : Int32)).toUInt32.toUInt16.toUInt32.toInt32)), .val (.int ((p1 &&& (255 : Int32)).toUInt32.toUInt16.toUInt32.toInt32)), .val (.int ((p2 &&& (255 : Int32)).toUInt32.toUInt16.toUInt32.toInt32)), .val (.int (3 : Int32)), .val (.ref b58), .val (.ref b70), .val (.int (p5 &&& (3 : Int32))), .val (.int ((((p5.toUInt32 >>> ((2 : Int32) &&& 31).toUInt32).toInt32) &&& (3 : Int32)) - (1 : Int32))), .unset, .unset] [(.int (own_max (0 : Int32) (((p1 &&& (255 : Int32)).toUInt32.toUInt16.toUInt32.toInt32) + ((((p5.toUInt32 >>> ((2 : Int32) &&& 31).toUInt32).toInt32) &&& (3 : Int32)) - (1 : Int32)))))]))
          refine Runs.by (fun _ hr => XS.istore X81.here hx rfl (hb hby at_210) rfl (l' := #[.val (.int p0), .val (.int p1), .val (.int p2), .val (.int p3), .val (.int p4), .val (.int p5), .val (.int ((p0 &&& (255 : Int32)).toUInt32.toUInt16.toUInt32.toInt32)), .val (.int ((p1 &&& (255 : Int32)).toUInt32.toUInt16.toUInt32.toInt32)), .val (.int ((p2 &&& (255 : Int32)).toUInt32.toUInt16.toUInt32.toInt32)), .val (.int (3 : Int32)), .val (.ref b58), .val (.ref b70), .val (.int (p5 &&& (3 : Int32))), .val (.int ((((p5.toUInt32 >>> ((2 : Int32) &&& 31).toUInt32).toInt32) &&& (3 : Int32)) - (1 : Int32))), .val (.int (own_max (0 : Int32) (((p1 &&& (255 : Int32)).toUInt32.toUInt16.toUInt32.toInt32) + ((((p5.toUInt32 >>> ((2 : Int32) &&& 31).toUInt32).toInt32) &&& (3 : Int32)) - (1 : Int32))))), .unset]) rfl hr) ?_
          show Runs p e below _ (T81.setTop (mkF m 212 #[.val (.int p0), .val (.int p1), .val (.int p2), .val (.int p3), .val (.int p4), .val (.int p5), .val (.int ((p0 &&& (255 : Int32)).toUInt32.toUInt16.toUInt32.toInt32)), .val (.int ((p1 &&& (255 : Int32)).toUInt32.toUInt16.toUInt32.toInt32)), .val (.int ((p2 &&& (255 : Int32)).toUInt32.toUInt16.toUInt32.toInt32)), .val (.int (3 : Int32)), .val (.ref b58), .val (.ref b70), .val (.int (p5 &&& (3 : Int32))), .val (.int ((((p5.toUInt32 >>> ((2 : Int32) &&& 31).toUInt32).toInt32) &&& (3 : Int32)) - (1 : Int32))), .val (.int (own_max (0 : Int32) (((p1 &&& (255 : Int32)).toUInt32.toUInt16.toUInt32.toInt32) + ((((p5.toUInt32 >>> ((2 : Int32) &&& 31).toUInt32).toInt32) &&& (3 : Int32)) - (1 : Int32))))), .unset] []))
          refine Runs.by (fun _ hr => XS.goto X81.here hx rfl (pc0 := 212) (pc' := 226) rfl (hb hby at_212) (by decide) (by decide) hr) ?_
          exact JL74 (own_max (0 : Int32) (((p1 &&& (255 : Int32)).toUInt32.toUInt16.toUInt32.toInt32) + ((((p5.toUInt32 >>> ((2 : Int32) &&& 31).toUInt32).toInt32) &&& (3 : Int32)) - (1 : Int32)))) _ _ X81 eq81 N81 (own_max0 _)
        · -- pc 198: not (p5 &&& (3 : Int32)) = (2 : Int32)
          refine Runs.by (fun _ hr => XS.icmpYes X72.here hx rfl (pc0 := 198) (pc' := 215) rfl (hb hby at_198) rfl (feq hc198).2 (by decide) (by decide) hr) ?_
          show Runs p e below _ (T72.setTop (mkF m 215 #[.val (.int p0), .val (.int p1), .val (.int p2), .val (.int p3), .val (.int p4), .val (.int p5), .val (.int ((p0 &&& (255 : Int32)).toUInt32.toUInt16.toUInt32.toInt32)), .val (.int ((p1 &&& (255 : Int32)).toUInt32.toUInt16.toUInt32.toInt32)), .val (.int ((p2 &&& (255 : Int32)).toUInt32.toUInt16.toUInt32.toInt32)), .val (.int (3 : Int32)), .val (.ref b58), .val (.ref b70), .val (.int (p5 &&& (3 : Int32))), .val (.int ((((p5.toUInt32 >>> ((2 : Int32) &&& 31).toUInt32).toInt32) &&& (3 : Int32)) - (1 : Int32))), .unset, .unset] []))
          refine Runs.by (fun _ hr => XS.iconst X72.here hx rfl (hb hby at_215) hr) ?_
          show Runs p e below _ (T72.setTop (mkF m 216 #[.val (.int p0), .val (.int p1), .val (.int p2), .val (.int p3), .val (.int p4), .val (.int p5), .val (.int ((p0 &&& (255 : Int32)).toUInt32.toUInt16.toUInt32.toInt32)), .val (.int ((p1 &&& (255 : Int32)).toUInt32.toUInt16.toUInt32.toInt32)), .val (.int ((p2 &&& (255 : Int32)).toUInt32.toUInt16.toUInt32.toInt32)), .val (.int (3 : Int32)), .val (.ref b58), .val (.ref b70), .val (.int (p5 &&& (3 : Int32))), .val (.int ((((p5.toUInt32 >>> ((2 : Int32) &&& 31).toUInt32).toInt32) &&& (3 : Int32)) - (1 : Int32))), .unset, .unset] [(.int (0 : Int32))]))
          refine Runs.by (fun _ hr => XS.iload X72.here hx rfl (hb hby at_216) rfl  hr) ?_
          show Runs p e below _ (T72.setTop (mkF m 218 #[.val (.int p0), .val (.int p1), .val (.int p2), .val (.int p3), .val (.int p4), .val (.int p5), .val (.int ((p0 &&& (255 : Int32)).toUInt32.toUInt16.toUInt32.toInt32)), .val (.int ((p1 &&& (255 : Int32)).toUInt32.toUInt16.toUInt32.toInt32)), .val (.int ((p2 &&& (255 : Int32)).toUInt32.toUInt16.toUInt32.toInt32)), .val (.int (3 : Int32)), .val (.ref b58), .val (.ref b70), .val (.int (p5 &&& (3 : Int32))), .val (.int ((((p5.toUInt32 >>> ((2 : Int32) &&& 31).toUInt32).toInt32) &&& (3 : Int32)) - (1 : Int32))), .unset, .unset] [(.int ((p2 &&& (255 : Int32)).toUInt32.toUInt16.toUInt32.toInt32)), (.int (0 : Int32))]))
          refine Runs.by (fun _ hr => XS.iload X72.here hx rfl (hb hby at_218) rfl  hr) ?_
          show Runs p e below _ (T72.setTop (mkF m 220 #[.val (.int p0), .val (.int p1), .val (.int p2), .val (.int p3), .val (.int p4), .val (.int p5), .val (.int ((p0 &&& (255 : Int32)).toUInt32.toUInt16.toUInt32.toInt32)), .val (.int ((p1 &&& (255 : Int32)).toUInt32.toUInt16.toUInt32.toInt32)), .val (.int ((p2 &&& (255 : Int32)).toUInt32.toUInt16.toUInt32.toInt32)), .val (.int (3 : Int32)), .val (.ref b58), .val (.ref b70), .val (.int (p5 &&& (3 : Int32))), .val (.int ((((p5.toUInt32 >>> ((2 : Int32) &&& 31).toUInt32).toInt32) &&& (3 : Int32)) - (1 : Int32))), .unset, .unset] [(.int ((((p5.toUInt32 >>> ((2 : Int32) &&& 31).toUInt32).toInt32) &&& (3 : Int32)) - (1 : Int32))), (.int ((p2 &&& (255 : Int32)).toUInt32.toUInt16.toUInt32.toInt32)), (.int (0 : Int32))]))
          refine Runs.by (fun _ hr => XS.iadd X72.here hx rfl (hb hby at_220) rfl hr) ?_
          show Runs p e below _ (T72.setTop (mkF m 221 #[.val (.int p0), .val (.int p1), .val (.int p2), .val (.int p3), .val (.int p4), .val (.int p5), .val (.int ((p0 &&& (255 : Int32)).toUInt32.toUInt16.toUInt32.toInt32)), .val (.int ((p1 &&& (255 : Int32)).toUInt32.toUInt16.toUInt32.toInt32)), .val (.int ((p2 &&& (255 : Int32)).toUInt32.toUInt16.toUInt32.toInt32)), .val (.int (3 : Int32)), .val (.ref b58), .val (.ref b70), .val (.int (p5 &&& (3 : Int32))), .val (.int ((((p5.toUInt32 >>> ((2 : Int32) &&& 31).toUInt32).toInt32) &&& (3 : Int32)) - (1 : Int32))), .unset, .unset] [(.int (((p2 &&& (255 : Int32)).toUInt32.toUInt16.toUInt32.toInt32) + ((((p5.toUInt32 >>> ((2 : Int32) &&& 31).toUInt32).toInt32) &&& (3 : Int32)) - (1 : Int32)))), (.int (0 : Int32))]))
          obtain ⟨_, _, ⟨T82, L82, k82, n82⟩, -, X82, ⟨Lc82, hQ82, l82, y82, z82⟩, st82⟩ := Jvm.LawKit.callS X72 hx (y := (⟨"java/lang/Math", "max", "(II)I"⟩ : MethodName)) hown (mvT hZ (hw _ (List.mem_of_getElem? (i := 78) rfl))) (mvT hZ (hw _ (List.mem_of_getElem? (i := 73) rfl))) (mvT hZ (hw _ (List.mem_of_getElem? (i := 74) rfl))) (mvT hZ (hw _ (List.mem_of_getElem? (i := 75) rfl))) (by decide) (backOf (W := 0) (rm15 l Z a0 hw [] (0 : Int32) (((p2 &&& (255 : Int32)).toUInt32.toUInt16.toUInt32.toInt32) + ((((p5.toUInt32 >>> ((2 : Int32) &&& 31).toUInt32).toInt32) &&& (3 : Int32)) - (1 : Int32)))  T72.heap n0 (Nat.le_trans Z0 K73.1) ) hZ (hw _ (List.mem_of_getElem? (i := 75) rfl)) (hw _ (List.mem_of_getElem? (i := 74) rfl)) (by decide) (by decide)) (g := (mkF m 221 #[.val (.int p0), .val (.int p1), .val (.int p2), .val (.int p3), .val (.int p4), .val (.int p5), .val (.int ((p0 &&& (255 : Int32)).toUInt32.toUInt16.toUInt32.toInt32)), .val (.int ((p1 &&& (255 : Int32)).toUInt32.toUInt16.toUInt32.toInt32)), .val (.int ((p2 &&& (255 : Int32)).toUInt32.toUInt16.toUInt32.toInt32)), .val (.int (3 : Int32)), .val (.ref b58), .val (.ref b70), .val (.int (p5 &&& (3 : Int32))), .val (.int ((((p5.toUInt32 >>> ((2 : Int32) &&& 31).toUInt32).toInt32) &&& (3 : Int32)) - (1 : Int32))), .unset, .unset] [(.int (((p2 &&& (255 : Int32)).toUInt32.toUInt16.toUInt32.toInt32) + ((((p5.toUInt32 >>> ((2 : Int32) &&& 31).toUInt32).toInt32) &&& (3 : Int32)) - (1 : Int32)))), (.int (0 : Int32))])) rfl (by rw [hml]; rfl) (argsL := [(.int (0 : Int32)), (.int (((p2 &&& (255 : Int32)).toUInt32.toUInt16.toUInt32.toInt32) + ((((p5.toUInt32 >>> ((2 : Int32) &&& 31).toUInt32).toInt32) &&& (3 : Int32)) - (1 : Int32))))]) (rest := []) (lenOf pd_8 rfl) rfl (by show 2 * 0 + _ ≤ _; exact Nat.le_of_eq rfl) (hb hby at_221) (fun _ _ => ⟨rfl, rfl, (by decide : 6 + 0 ≤ _), (by decide : 524 + 0 ≤ _)⟩)
          dsimp only [Pt.U, Pt.locs, Pt.cells, Pt.slots] at X82 l82 y82 z82 st82 hQ82
          subst l82 y82 z82
          obtain ⟨rfl, Nq82, eq82⟩ := hQ82
          have N82 := Fr.app N72 Nq82
          refine Runs.by (fun t hr => st82 t hr) ?_
          show Runs p e below _ (T82.setTop (mkF m 224 #[.val (.int p0), .val (.int p1), .val (.int p2), .val (.int p3), .val (.int p4), .val (.int p5), .val (.int ((p0 &&& (255 : Int32)).toUInt32.toUInt16.toUInt32.toInt32)), .val (.int ((p1 &&& (255 : Int32)).toUInt32.toUInt16.toUInt32.toInt32)), .val (.int ((p2 &&& (255 : Int32)).toUInt32.toUInt16.toUInt32.toInt32)), .val (.int (3 : Int32)), .val (.ref b58), .val (.ref b70), .val (.int (p5 &&& (3 : Int32))), .val (.int ((((p5.toUInt32 >>> ((2 : Int32) &&& 31).toUInt32).toInt32) &&& (3 : Int32)) - (1 : Int32))), .unset, .unset] [(.int (own_max (0 : Int32) (((p2 &&& (255 : Int32)).toUInt32.toUInt16.toUInt32.toInt32) + ((((p5.toUInt32 >>> ((2 : Int32) &&& 31).toUInt32).toInt32) &&& (3 : Int32)) - (1 : Int32)))))]))
          refine Runs.by (fun _ hr => XS.istore X82.here hx rfl (hb hby at_224) rfl (l' := #[.val (.int p0), .val (.int p1), .val (.int p2), .val (.int p3), .val (.int p4), .val (.int p5), .val (.int ((p0 &&& (255 : Int32)).toUInt32.toUInt16.toUInt32.toInt32)), .val (.int ((p1 &&& (255 : Int32)).toUInt32.toUInt16.toUInt32.toInt32)), .val (.int ((p2 &&& (255 : Int32)).toUInt32.toUInt16.toUInt32.toInt32)), .val (.int (3 : Int32)), .val (.ref b58), .val (.ref b70), .val (.int (p5 &&& (3 : Int32))), .val (.int ((((p5.toUInt32 >>> ((2 : Int32) &&& 31).toUInt32).toInt32) &&& (3 : Int32)) - (1 : Int32))), .val (.int (own_max (0 : Int32) (((p2 &&& (255 : Int32)).toUInt32.toUInt16.toUInt32.toInt32) + ((((p5.toUInt32 >>> ((2 : Int32) &&& 31).toUInt32).toInt32) &&& (3 : Int32)) - (1 : Int32))))), .unset]) rfl hr) ?_
          exact JL74 (own_max (0 : Int32) (((p2 &&& (255 : Int32)).toUInt32.toUInt16.toUInt32.toInt32) + ((((p5.toUInt32 >>> ((2 : Int32) &&& 31).toUInt32).toInt32) &&& (3 : Int32)) - (1 : Int32)))) _ _ X82 eq82 N82 (own_max0 _)
set_option maxRecDepth 65536 in
set_option maxHeartbeats 40000000 in
theorem comes_1 {Post : Tables → Env → Array Value → State → Outcome → State → Prop} (hpost : ∀ tb e args s v u, (limb_1_1.after args s (.returned v) u = true ∧ limb_1_2.after args s (.returned v) u = true ∧ True) → ReturnedEndW s (.returned v) u (Jvm.fieldLocs frame_1_writes args s ++ Jvm.arrayLocs frame_1_arrays args s ++ Jvm.staticLocs frame_1_statics s) 24 2176 → Post tb e args s (.returned v) u) :
    ArmFor flags0 classFile x code maxLocals ret World_1 tables_1 room_1 Calls_1 rest_1 Pre_1 Post := by
  intro l hfl _ _ p e ha hc hk s m args below hf hA hF happ hP
  obtain ⟨hcalls, hrest, hpre⟩ := hP
  obtain ⟨-, -, -, hnamed, -, -, -, hat⟩ := (Spec.applies_iff hf).mp happ
  obtain ⟨hg, hn⟩ := and_e (Cond.before_iff.mp (show (Jvm.Cond.and given_1 narrow_1).before args s = true from hpre))
  obtain ⟨g1, g2⟩ := and_e hg
  obtain ⟨g3, g4⟩ := and_e g2
  obtain ⟨g5, g6⟩ := and_e g4
  obtain ⟨g7, g8⟩ := and_e g6
  obtain ⟨g9, g10⟩ := and_e g8
  obtain ⟨g11, g12⟩ := and_e g10
  obtain ⟨w0, w1, w2, w3, w4, w5, rfl⟩ : ∃ w0 w1 w2 w3 w4 w5 : Value, args = #[w0, w1, w2, w3, w4, w5] := by
    have hs : args.size = 6 := by simpa [Cond.value, given_1] using g1
    obtain ⟨L⟩ := args
    match L, hs with
    | [w0, w1, w2, w3, w4, w5], _ => exact ⟨w0, w1, w2, w3, w4, w5, rfl⟩
  have hw := fun d (hd : d ∈ tables_1) => atoms_spec (ws := Jvm.Cond.code x code maxLocals ret :: tables_1) hat d (List.mem_cons_of_mem _ hd)
  have hfit : Fit s := fun {y c} hc i hi => by
    obtain ⟨ha, rfl⟩ := Array.getElem?_eq_some_iff.mp hc
    have q := List.all_eq_true.mp ((Array.all_eq_true_iff_forall_mem.mp hF) _ (Array.getElem_mem ha)) i (List.mem_range.mpr hi)
    simpa [Array.getElem?_eq_getElem hi] using q
  obtain ⟨hsets, hown0⟩ := atoms_of _ (rest_1_c_eq ▸ (show rest_1_c.before _ s = true from hrest))
  have hr0 := Cond.before_iff.mp hown0
  obtain ⟨i0, ei0⟩ := is_v g3
  obtain rfl : w0 = (.int i0) := Option.some.inj ei0
  obtain ⟨i1, ei1⟩ := is_v g5
  obtain rfl : w1 = (.int i1) := Option.some.inj ei1
  obtain ⟨i2, ei2⟩ := is_v g7
  obtain rfl : w2 = (.int i2) := Option.some.inj ei2
  obtain ⟨i3, ei3⟩ := is_v g9
  obtain rfl : w3 = (.int i3) := Option.some.inj ei3
  obtain ⟨i4, ei4⟩ := is_v g11
  obtain rfl : w4 = (.int i4) := Option.some.inj ei4
  obtain ⟨i5, ei5⟩ := is_v g12
  obtain rfl : w5 = (.int i5) := Option.some.inj ei5
  have n5 := not_v (Cond.before_iff.mp (hsets _ (List.mem_of_getElem? (i := 2) rfl)))
  obtain ⟨gC, eC⟩ := is_v (Cond.before_iff.mp (hsets _ (List.mem_of_getElem? (i := 1) rfl)))
  have SC : Sta s s.heap "java/lang/String" "COMPACT_STRINGS" "Z" (.int gC) := Sta.start eC (Or.inl (hsets _ (List.mem_of_getElem? (i := 0) rfl)))
  have cC : ¬ (gC = (0 : Int32)) := gotF (Cond.eq_ints eC (Term.int_eval (0))) n5
  obtain ⟨vG, eG, rG⟩ := isR_v (Cond.before_iff.mp (hsets _ (List.mem_of_getElem? (i := 8) rfl)))
  have SG : Sta s s.heap "jdk/internal/util/Preconditions" "SIOOBE_FORMATTER" "Ljava/util/function/BiFunction;" vG := Sta.start eG (Or.inl (hsets _ (List.mem_of_getElem? (i := 7) rfl)))
  have hEL : EW s _ consts_1 := (EW.cons (hw _ (List.mem_of_getElem? (i := 84) rfl)) (by decide) EW.nil)
  have hch : CHv s consts_1 s.vm s.heap := CHv.start hEL (fun p hp => hcalls.1 p hp) (hsets _ (List.mem_of_getElem? (i := 2) rfl)) (hw _ (List.mem_of_getElem? (i := 19) rfl)) (hw _ (List.mem_of_getElem? (i := 1) rfl))
  obtain ⟨n, o, h1, h2, h3, _, L, rfl, ⟨rfl, N⟩, -, hq⟩ := rm0 l s _ hw tables_1 i0 i1 i2 i3 i4 i5 gC vG s.heap s.heap.size (Nat.le_refl _) SC cC rG SG hEL (Old.start s) p e ha hc hk s m _ below hf ((Spec.applies_iff_loose hf).mp happ).1 ⟨rfl, State.Warmed39.refl s, rfl, hch⟩ trivial
  refine ⟨n, _, h1, h2, h3, hpost _ _ _ _ _ _ ⟨Cond.after_iff.mpr rfl, Cond.after_iff.mpr (eq_i res_at (Term.int_eval (1)) rfl), trivial⟩ ⟨hq.1, hq.2.1, hq.2.2.1, (hq.2.2.2.sift fun y hy => Or.inr (N y hy)).mono (by decide) (by decide)⟩⟩
theorem main_1_1 : Claimed_1_1 := comes_1 fun _ _ _ _ _ _ h hF => ⟨h.1, hF⟩
theorem main_1_2 : Claimed_1_2 := comes_1 fun _ _ _ _ _ _ h hF => ⟨h.2.1, hF⟩
end Jvm.Pilot.@@N@@
namespace Jvm.Pilot.@@N@@
open Jvm Jvm.ClassFile Sem Op Lib Jvm.Free Jvm.Stand Jvm.Pilot.@@N@@.Jvm.D
/-! MADE BY PROGRAM (witnessworld.py) out of the Statement's table words and the real class files: 23 classes; the members and pool entries that the words name. The judged class is class 1, her method 1. -/
namespace start1
open Jvm.ClassFile
def u (s : String) : CpInfo := .utf8 (stringToUtf16 s)
/-- a pool by its gaps: so many unusable entries, then the entry; so many at the end -/
def gap : Nat → List CpInfo → List CpInfo
  | 0, r => r
  | n + 1, r => .unusable :: gap n r
def poolList (es : List (Nat × CpInfo)) (last : Nat) : List CpInfo := es.foldr (fun e r => gap e.1 (e.2 :: r)) (gap last [])
def pool (es : List (Nat × CpInfo)) (last : Nat) : Array CpInfo := ⟨poolList es last⟩
def fileOf (pool : Array CpInfo) (this : Nat) (attrs : Array Attribute := #[]) (ms : Array MethodInfo := #[]) (fl : Nat := 33) (sup : Nat := 0) (ifs : Array Nat := #[]) (fds : Array FieldInfo := #[]) : ClassFile where
  minorVersion := 0
  majorVersion := 65
  constantPool := pool
  accessFlags := fl
  thisClass := this
  superClass := sup
  interfaces := ifs
  fields := fds
  methods := ms
  attributes := attrs
def plain (name : String) (sup : Option ClassId) : Class where
  name := name
  kind := .ordinary
  loader := none
  accessFlags := 33
  super := sup
  interfaces := #[]
  cf := none
  fields := #[]
  methods := #[]
  instanceTypes := #[]
  staticTypes := #[]
  resolved := #[]
  callSites := []
  init := .initialized
  statics := none
  mirror := none

def pool0 : Array CpInfo := pool [(5, u "<init>"), (0, u "()V"), (1, .class_ 10), (1, u "java/lang/Object")] 113

def k0c0 : Code := { maxStack := 0, maxLocals := 1, code := object_method_1_code, exceptionTable := #[], attributes := #[] }
def k0m0 : Method := { name := "<init>", desc := "()V", sig := { parameters := [], returnType := none }, accessFlags := 1, code := some k0c0 }
/-- java/lang/Object -/
def k0 : Class := { plain "java/lang/Object" none with
  accessFlags := 33
  interfaces := #[]
  cf := some (fileOf pool0 8 #[] #[{ accessFlags := 1, nameIndex := 5, descriptorIndex := 6, attributes := #[] }] 33 0 #[] #[])
  fields := #[]
  methods := #[k0m0]
  instanceTypes := #[]
  staticTypes := #[]
  resolved := Array.replicate 124 none
  statics := none }

def pool1 : Array CpInfo := pool [(2, .class_ 4), (1, u "java/lang/Object"), (0, u "<init>"), (0, u "()V"), (0, .class_ 8), (0, u "java/lang/String"), (0, .methodref 7 10), (0, .nameAndType 5 11), (0, u "([C)V"), (0, .class_ 13), (0, u "com/example/vedette/vedette/io/Utf8Buffer$Stops"), (0, .methodref 12 15), (0, .nameAndType 5 16), (0, u "(Ljava/lang/String;)V"), (0, .integer 2147483647), (0, .methodref 19 20), (0, .class_ 21), (0, .nameAndType 22 23), (0, u "java/lang/Math"), (0, u "max"), (0, u "(II)I"), (0, .methodref 12 25), (0, .nameAndType 26 27), (0, u "isStop"), (0, u "(I)Z"), (0, .class_ 29), (0, u "com/example/vedette/vedette/io/StopsIsStopPinLaw"), (2, u "law"), (0, u "(IIIIII)Z")] 7

def k1m0 : Method := { name := "<init>", desc := "()V", sig := { parameters := [], returnType := none }, accessFlags := 2, code := none }
def k1c1 : Code := { maxStack := 6, maxLocals := 16, code := code, exceptionTable := #[], attributes := #[] }
def k1m1 : Method := { name := "law", desc := "(IIIIII)Z", sig := { parameters := [.int, .int, .int, .int, .int, .int], returnType := some .boolean }, accessFlags := 9, code := some k1c1 }
/-- com/example/vedette/vedette/io/StopsIsStopPinLaw -/
def k1 : Class := { plain "com/example/vedette/vedette/io/StopsIsStopPinLaw" (some 0) with
  accessFlags := 49
  interfaces := #[]
  cf := some (fileOf pool1 28 #[] #[{ accessFlags := 2, nameIndex := 5, descriptorIndex := 6, attributes := #[] }, { accessFlags := 9, nameIndex := 32, descriptorIndex := 33, attributes := #[] }] 49 2 #[] #[])
  fields := #[]
  methods := #[k1m0, k1m1]
  instanceTypes := #[]
  staticTypes := #[]
  resolved := Array.replicate 41 none
  statics := none }

def pool2 : Array CpInfo := pool [(1, .class_ 2), (0, u "java/io/Serializable"), (0, .class_ 4), (0, u "java/lang/Object")] 2

/-- java/io/Serializable -/
def k2 : Class := { plain "java/io/Serializable" (some 0) with
  accessFlags := 1537
  interfaces := #[]
  cf := some (fileOf pool2 1 #[] #[] 1537 3 #[] #[])
  fields := #[]
  methods := #[]
  instanceTypes := #[]
  staticTypes := #[]
  resolved := Array.replicate 7 none
  statics := none }

def pool3 : Array CpInfo := pool [(1, .class_ 2), (0, u "java/lang/Comparable"), (0, .class_ 4), (0, u "java/lang/Object")] 7

/-- java/lang/Comparable -/
def k3 : Class := { plain "java/lang/Comparable" (some 0) with
  accessFlags := 1537
  interfaces := #[]
  cf := some (fileOf pool3 1 #[] #[] 1537 3 #[] #[])
  fields := #[]
  methods := #[]
  instanceTypes := #[]
  staticTypes := #[]
  resolved := Array.replicate 12 none
  statics := none }

def pool4 : Array CpInfo := pool [(2, .class_ 4), (1, u "java/lang/CharSequence"), (42, .class_ 48), (0, u "java/lang/CharSequence$1CodePointIterator"), (10, .class_ 60), (0, u "java/lang/CharSequence$1CharIterator"), (5, .class_ 67), (0, u "java/lang/Object")] 63

/-- java/lang/CharSequence -/
def k4 : Class := { plain "java/lang/CharSequence" (some 0) with
  accessFlags := 1537
  interfaces := #[]
  cf := some (fileOf pool4 2 #[.nestMembers #[47, 59]] #[] 1537 66 #[] #[])
  fields := #[]
  methods := #[]
  instanceTypes := #[]
  staticTypes := #[]
  resolved := Array.replicate 131 none
  statics := none }

def pool5 : Array CpInfo := pool [(1, .class_ 2), (0, u "java/lang/constant/Constable"), (0, .class_ 4), (0, u "java/lang/Object")] 6

/-- java/lang/constant/Constable -/
def k5 : Class := { plain "java/lang/constant/Constable" (some 0) with
  accessFlags := 1537
  interfaces := #[]
  cf := some (fileOf pool5 1 #[] #[] 1537 3 #[] #[])
  fields := #[]
  methods := #[]
  instanceTypes := #[]
  staticTypes := #[]
  resolved := Array.replicate 11 none
  statics := none }

def pool6 : Array CpInfo := pool [(1, .class_ 2), (0, u "java/lang/constant/ConstantDesc"), (0, .class_ 4), (0, u "java/lang/Object")] 32

/-- java/lang/constant/ConstantDesc -/
def k6 : Class := { plain "java/lang/constant/ConstantDesc" (some 0) with
  accessFlags := 1537
  interfaces := #[]
  cf := some (fileOf pool6 1 #[] #[] 1537 3 #[] #[])
  fields := #[]
  methods := #[]
  instanceTypes := #[]
  staticTypes := #[]
  resolved := Array.replicate 37 none
  statics := none }

def pool7 : Array CpInfo := pool [(1, .methodref 2 3), (0, .class_ 4), (0, .nameAndType 5 6), (0, u "java/lang/Object"), (0, u "<init>"), (0, u "()V"), (0, .string 8), (0, u ""), (0, .fieldref 10 11), (0, .class_ 12), (0, .nameAndType 13 14), (0, u "java/lang/String"), (0, u "value"), (0, u "[B"), (0, .fieldref 10 16), (0, .nameAndType 17 18), (0, u "coder"), (0, u "B"), (2, u "hash"), (0, u "I"), (2, u "hashIsZero"), (0, u "Z"), (0, .methodref 10 28), (0, .nameAndType 5 29), (0, u "([CIILjava/lang/Void;)V"), (8, .fieldref 10 39), (0, .nameAndType 40 26), (0, u "COMPACT_STRINGS"), (1, .class_ 44), (1, u "java/lang/StringUTF16"), (0, u "compress"), (1, .methodref 42 48), (0, .nameAndType 49 50), (0, u "coderFromArrayLen"), (0, u "([BI)B"), (56, .class_ 109), (1, u "java/lang/StringLatin1"), (32, u "()Z"), (34, .methodref 42 178), (0, .nameAndType 45 179), (0, u "([CII)[B"), (154, u "()I"), (0, .methodref 10 336), (0, .nameAndType 17 337), (0, u "()B"), (25, u "([BI)C"), (27, u "(II)V"), (35, u "(I)C"), (64, .methodref 10 493), (0, .nameAndType 494 142), (0, u "isLatin1"), (0, .methodref 107 496), (0, .nameAndType 497 363), (0, u "charAt"), (3, u "checkIndex"), (5, u "length"), (67, .class_ 576), (0, u "java/lang/CharSequence"), (22, u "CASE_INSENSITIVE_ORDER"), (0, u "Ljava/util/Comparator;"), (409, u "([C)V"), (42, .fieldref 1054 1055), (0, .class_ 1056), (0, .nameAndType 1057 1058), (0, u "jdk/internal/util/Preconditions"), (0, u "SIOOBE_FORMATTER"), (0, u "Ljava/util/function/BiFunction;"), (0, .methodref 1054 1060), (0, .nameAndType 501 1061), (0, u "(IILjava/util/function/BiFunction;)I"), (39, u "serialPersistentFields"), (0, u "[Ljava/io/ObjectStreamField;"), (0, .class_ 1104), (0, u "java/lang/String$CaseInsensitiveComparator"), (1, .class_ 1107), (0, u "java/io/Serializable"), (0, .class_ 1109), (0, u "java/lang/Comparable"), (0, .class_ 1111), (0, u "java/lang/constant/Constable"), (0, .class_ 1113), (0, u "java/lang/constant/ConstantDesc"), (2, u "serialVersionUID"), (0, u "J"), (3, u "REPL"), (0, u "C"), (2, u "LATIN1"), (1, u "UTF16")] 323

def k7m0 : Method := { name := "<init>", desc := "()V", sig := { parameters := [], returnType := none }, accessFlags := 1, code := none }
def k7c1 : Code := { maxStack := 5, maxLocals := 2, code := jdk_42_method_3_code, exceptionTable := #[], attributes := #[] }
def k7m1 : Method := { name := "<init>", desc := "([C)V", sig := { parameters := [(.array .char)], returnType := none }, accessFlags := 1, code := some k7c1 }
def k7c2 : Code := { maxStack := 2, maxLocals := 1, code := jdk_42_method_54_code, exceptionTable := #[], attributes := #[] }
def k7m2 : Method := { name := "length", desc := "()I", sig := { parameters := [], returnType := some .int }, accessFlags := 1, code := some k7c2 }
def k7c3 : Code := { maxStack := 2, maxLocals := 2, code := jdk_42_method_56_code, exceptionTable := #[], attributes := #[] }
def k7m3 : Method := { name := "charAt", desc := "(I)C", sig := { parameters := [.int], returnType := some .char }, accessFlags := 1, code := some k7c3 }
def k7c4 : Code := { maxStack := 4, maxLocals := 6, code := jdk_42_method_149_code, exceptionTable := #[], attributes := #[] }
def k7m4 : Method := { name := "<init>", desc := "([CIILjava/lang/Void;)V", sig := { parameters := [(.array .char), .int, .int, (.object "java/lang/Void")], returnType := none }, accessFlags := 2, code := some k7c4 }
def k7c5 : Code := { maxStack := 1, maxLocals := 1, code := jdk_42_method_152_code, exceptionTable := #[], attributes := #[] }
def k7m5 : Method := { name := "coder", desc := "()B", sig := { parameters := [], returnType := some .byte }, accessFlags := 0, code := some k7c5 }
def k7c6 : Code := { maxStack := 1, maxLocals := 1, code := jdk_42_method_154_code, exceptionTable := #[], attributes := #[] }
def k7m6 : Method := { name := "isLatin1", desc := "()Z", sig := { parameters := [], returnType := some .boolean }, accessFlags := 0, code := some k7c6 }
def k7c7 : Code := { maxStack := 3, maxLocals := 2, code := jdk_42_method_155_code, exceptionTable := #[], attributes := #[] }
def k7m7 : Method := { name := "checkIndex", desc := "(II)V", sig := { parameters := [.int, .int], returnType := none }, accessFlags := 8, code := some k7c7 }
/-- java/lang/String -/
def k7 : Class := { plain "java/lang/String" (some 0) with
  accessFlags := 49
  interfaces := #[2, 3, 4, 5, 6]
  cf := some (fileOf pool7 10 #[.nestMembers #[1103]] #[{ accessFlags := 1, nameIndex := 5, descriptorIndex := 6, attributes := #[] }, { accessFlags := 1, nameIndex := 5, descriptorIndex := 1010, attributes := #[] }, { accessFlags := 1, nameIndex := 507, descriptorIndex := 334, attributes := #[] }, { accessFlags := 1, nameIndex := 497, descriptorIndex := 427, attributes := #[] }, { accessFlags := 2, nameIndex := 5, descriptorIndex := 29, attributes := #[] }, { accessFlags := 0, nameIndex := 17, descriptorIndex := 337, attributes := #[] }, { accessFlags := 0, nameIndex := 494, descriptorIndex := 142, attributes := #[] }, { accessFlags := 8, nameIndex := 501, descriptorIndex := 391, attributes := #[] }] 49 2 #[1106, 1108, 575, 1110, 1112] #[{ accessFlags := 18, nameIndex := 13, descriptorIndex := 14, attributes := #[] }, { accessFlags := 18, nameIndex := 17, descriptorIndex := 18, attributes := #[] }, { accessFlags := 2, nameIndex := 21, descriptorIndex := 22, attributes := #[] }, { accessFlags := 2, nameIndex := 25, descriptorIndex := 26, attributes := #[] }, { accessFlags := 26, nameIndex := 1116, descriptorIndex := 1117, attributes := #[] }, { accessFlags := 24, nameIndex := 40, descriptorIndex := 26, attributes := #[] }, { accessFlags := 26, nameIndex := 1101, descriptorIndex := 1102, attributes := #[] }, { accessFlags := 26, nameIndex := 1121, descriptorIndex := 1122, attributes := #[] }, { accessFlags := 25, nameIndex := 599, descriptorIndex := 600, attributes := #[] }, { accessFlags := 24, nameIndex := 1125, descriptorIndex := 18, attributes := #[] }, { accessFlags := 24, nameIndex := 1127, descriptorIndex := 18, attributes := #[] }])
  fields := #[{ name := "value", type := (.array .byte), accessFlags := 18, slot := 0, constantValue := 0 }, { name := "coder", type := .byte, accessFlags := 18, slot := 1, constantValue := 0 }, { name := "hash", type := .int, accessFlags := 2, slot := 2, constantValue := 0 }, { name := "hashIsZero", type := .boolean, accessFlags := 2, slot := 3, constantValue := 0 }, { name := "serialVersionUID", type := .long, accessFlags := 26, slot := 0, constantValue := 0 }, { name := "COMPACT_STRINGS", type := .boolean, accessFlags := 24, slot := 1, constantValue := 0 }, { name := "serialPersistentFields", type := (.array (.object "java/io/ObjectStreamField")), accessFlags := 26, slot := 2, constantValue := 0 }, { name := "REPL", type := .char, accessFlags := 26, slot := 3, constantValue := 0 }, { name := "CASE_INSENSITIVE_ORDER", type := (.object "java/util/Comparator"), accessFlags := 25, slot := 4, constantValue := 0 }, { name := "LATIN1", type := .byte, accessFlags := 24, slot := 5, constantValue := 0 }, { name := "UTF16", type := .byte, accessFlags := 24, slot := 6, constantValue := 0 }]
  methods := #[k7m0, k7m1, k7m2, k7m3, k7m4, k7m5, k7m6, k7m7]
  instanceTypes := #[(.array .byte), .byte, .int, .boolean]
  staticTypes := #[.long, .boolean, (.array (.object "java/io/ObjectStreamField")), .char, (.object "java/util/Comparator"), .byte, .byte]
  resolved := Array.replicate 1451 none
  statics := some 0 }

def pool8 : Array CpInfo := pool [(6, .class_ 8), (1, u "java/lang/Object"), (0, u "<init>"), (0, u "()V"), (1, .class_ 14), (1, u "java/lang/StringUTF16"), (31, u "$assertionsDisabled"), (0, u "Z"), (13, u "HI_BYTE_SHIFT"), (0, u "I"), (2, u "LO_BYTE_SHIFT"), (49, .methodref 12 116), (0, .nameAndType 117 118), (0, u "compress"), (0, u "([CI[BII)I"), (3, u "([CII)[B"), (138, u "coderFromArrayLen"), (0, u "([BI)B"), (106, .class_ 371), (1, u "java/lang/StringUTF16$LinesSpliterator"), (58, u "MAX_LENGTH"), (196, .class_ 628), (0, u "java/lang/StringUTF16$CodePointsSpliterator"), (0, .class_ 630), (0, u "java/lang/StringUTF16$CharsSpliterator")] 4

def k8m0 : Method := { name := "<init>", desc := "()V", sig := { parameters := [], returnType := none }, accessFlags := 0, code := none }
def k8c1 : Code := { maxStack := 2, maxLocals := 2, code := jdk_52_method_15_code, exceptionTable := #[], attributes := #[] }
def k8m1 : Method := { name := "coderFromArrayLen", desc := "([BI)B", sig := { parameters := [(.array .byte), .int], returnType := some .byte }, accessFlags := 8, code := some k8c1 }
def k8c2 : Code := { maxStack := 5, maxLocals := 6, code := jdk_52_method_16_code, exceptionTable := #[], attributes := #[] }
def k8m2 : Method := { name := "compress", desc := "([CII)[B", sig := { parameters := [(.array .char), .int, .int], returnType := some (.array .byte) }, accessFlags := 9, code := some k8c2 }
def k8c3 : Code := { maxStack := 3, maxLocals := 7, code := jdk_52_method_21_code, exceptionTable := #[], attributes := #[] }
def k8m3 : Method := { name := "compress", desc := "([CI[BII)I", sig := { parameters := [(.array .char), .int, (.array .byte), .int, .int], returnType := some .int }, accessFlags := 9, code := some k8c3 }
/-- java/lang/StringUTF16 -/
def k8 : Class := { plain "java/lang/StringUTF16" (some 0) with
  accessFlags := 48
  interfaces := #[]
  cf := some (fileOf pool8 12 #[.nestMembers #[627, 629, 369]] #[{ accessFlags := 0, nameIndex := 9, descriptorIndex := 10, attributes := #[] }, { accessFlags := 8, nameIndex := 261, descriptorIndex := 262, attributes := #[] }, { accessFlags := 9, nameIndex := 117, descriptorIndex := 122, attributes := #[] }, { accessFlags := 9, nameIndex := 117, descriptorIndex := 118, attributes := #[] }] 48 6 #[] #[{ accessFlags := 26, nameIndex := 61, descriptorIndex := 62, attributes := #[] }, { accessFlags := 26, nameIndex := 65, descriptorIndex := 62, attributes := #[] }, { accessFlags := 24, nameIndex := 430, descriptorIndex := 62, attributes := #[] }, { accessFlags := 4120, nameIndex := 46, descriptorIndex := 47, attributes := #[] }])
  fields := #[{ name := "HI_BYTE_SHIFT", type := .int, accessFlags := 26, slot := 0, constantValue := 0 }, { name := "LO_BYTE_SHIFT", type := .int, accessFlags := 26, slot := 1, constantValue := 0 }, { name := "MAX_LENGTH", type := .int, accessFlags := 24, slot := 2, constantValue := 0 }, { name := "$assertionsDisabled", type := .boolean, accessFlags := 4120, slot := 3, constantValue := 0 }]
  methods := #[k8m0, k8m1, k8m2, k8m3]
  instanceTypes := #[]
  staticTypes := #[.int, .int, .int, .boolean]
  resolved := Array.replicate 635 none
  statics := none }

def pool9 : Array CpInfo := pool [(1, .methodref 2 3), (0, .class_ 4), (0, .nameAndType 5 6), (0, u "java/lang/Object"), (0, u "<init>"), (0, u "()V"), (0, .fieldref 8 9), (0, .class_ 10), (0, .nameAndType 11 12), (0, u "com/example/vedette/vedette/io/Utf8Buffer$Stops"), (0, u "firstBytes"), (0, u "[Z"), (0, .methodref 14 15), (0, .class_ 16), (0, .nameAndType 17 18), (0, u "java/lang/String"), (0, u "length"), (0, u "()I"), (0, .methodref 14 20), (0, .nameAndType 21 22), (0, u "charAt"), (0, u "(I)C"), (0, .methodref 24 25), (0, .class_ 26), (0, .nameAndType 27 28), (0, u "java/lang/Math"), (0, u "max"), (0, u "(II)I"), (0, .fieldref 8 30), (0, .nameAndType 31 12), (0, u "chars"), (2, u "isStop"), (0, u "(I)Z"), (0, u "(Ljava/lang/String;)V"), (9, .class_ 47), (0, u "com/example/vedette/vedette/io/Utf8Buffer")] 2

def k9c0 : Code := { maxStack := 4, maxLocals := 5, code := prog_35_method_1_code, exceptionTable := #[], attributes := #[] }
def k9m0 : Method := { name := "<init>", desc := "(Ljava/lang/String;)V", sig := { parameters := [(.object "java/lang/String")], returnType := none }, accessFlags := 0, code := some k9c0 }
def k9c1 : Code := { maxStack := 2, maxLocals := 2, code := prog_35_method_3_code, exceptionTable := #[], attributes := #[] }
def k9m1 : Method := { name := "isStop", desc := "(I)Z", sig := { parameters := [.int], returnType := some .boolean }, accessFlags := 0, code := some k9c1 }
/-- com/example/vedette/vedette/io/Utf8Buffer$Stops -/
def k9 : Class := { plain "com/example/vedette/vedette/io/Utf8Buffer$Stops" (some 0) with
  accessFlags := 48
  interfaces := #[]
  cf := some (fileOf pool9 8 #[.nestHost 46] #[{ accessFlags := 0, nameIndex := 5, descriptorIndex := 36, attributes := #[] }, { accessFlags := 0, nameIndex := 34, descriptorIndex := 35, attributes := #[] }] 48 2 #[] #[{ accessFlags := 18, nameIndex := 31, descriptorIndex := 12, attributes := #[] }, { accessFlags := 18, nameIndex := 11, descriptorIndex := 12, attributes := #[] }])
  fields := #[{ name := "chars", type := (.array .boolean), accessFlags := 18, slot := 0, constantValue := 0 }, { name := "firstBytes", type := (.array .boolean), accessFlags := 18, slot := 1, constantValue := 0 }]
  methods := #[k9m0, k9m1]
  instanceTypes := #[(.array .boolean), (.array .boolean)]
  staticTypes := #[]
  resolved := Array.replicate 50 none
  statics := none }

def pool10 : Array CpInfo := pool [(1, .class_ 2), (0, u "java/lang/String"), (1, .class_ 6), (1, u "java/lang/Object"), (0, u "<init>"), (0, u "()V"), (0, .methodref 1 10), (0, .nameAndType 11 12), (0, u "checkIndex"), (0, u "(II)V"), (1, .class_ 16), (1, u "java/lang/StringLatin1"), (36, u "([BI)C"), (67, u "$assertionsDisabled"), (0, u "Z"), (98, .class_ 223), (1, u "java/lang/StringLatin1$LinesSpliterator"), (28, u "charAt"), (137, .class_ 391), (0, u "java/lang/StringLatin1$CharsSpliterator")] 3

def k10m0 : Method := { name := "<init>", desc := "()V", sig := { parameters := [], returnType := none }, accessFlags := 0, code := none }
def k10c1 : Code := { maxStack := 2, maxLocals := 2, code := jdk_43_method_2_code, exceptionTable := #[], attributes := #[] }
def k10m1 : Method := { name := "charAt", desc := "([BI)C", sig := { parameters := [(.array .byte), .int], returnType := some .char }, accessFlags := 9, code := some k10c1 }
/-- java/lang/StringLatin1 -/
def k10 : Class := { plain "java/lang/StringLatin1" (some 0) with
  accessFlags := 48
  interfaces := #[]
  cf := some (fileOf pool10 14 #[.nestMembers #[390, 221]] #[{ accessFlags := 0, nameIndex := 7, descriptorIndex := 8, attributes := #[] }, { accessFlags := 9, nameIndex := 252, descriptorIndex := 53, attributes := #[] }] 48 4 #[] #[{ accessFlags := 4120, nameIndex := 121, descriptorIndex := 122, attributes := #[] }])
  fields := #[{ name := "$assertionsDisabled", type := .boolean, accessFlags := 4120, slot := 0, constantValue := 0 }]
  methods := #[k10m0, k10m1]
  instanceTypes := #[]
  staticTypes := #[.boolean]
  resolved := Array.replicate 395 none
  statics := none }

def pool11 : Array CpInfo := pool [(2, .class_ 4), (1, u "java/lang/Object"), (0, u "<init>"), (0, u "()V"), (17, .class_ 26), (1, u "jdk/internal/util/Preconditions"), (6, u "checkIndex"), (21, .class_ 56), (0, u "jdk/internal/util/Preconditions$4"), (57, .class_ 115), (0, u "jdk/internal/util/Preconditions$1"), (7, u "SIOOBE_FORMATTER"), (0, u "Ljava/util/function/BiFunction;"), (0, .class_ 126), (0, u "jdk/internal/util/Preconditions$2"), (3, u "AIOOBE_FORMATTER"), (0, .class_ 132), (0, u "jdk/internal/util/Preconditions$3"), (3, u "IOOBE_FORMATTER"), (41, u "(IILjava/util/function/BiFunction;)I")] 15

def k11m0 : Method := { name := "<init>", desc := "()V", sig := { parameters := [], returnType := none }, accessFlags := 1, code := none }
def k11c1 : Code := { maxStack := 3, maxLocals := 3, code := jdk_41_method_11_code, exceptionTable := #[], attributes := #[] }
def k11m1 : Method := { name := "checkIndex", desc := "(IILjava/util/function/BiFunction;)I", sig := { parameters := [.int, .int, (.object "java/util/function/BiFunction")], returnType := some .int }, accessFlags := 9, code := some k11c1 }
/-- jdk/internal/util/Preconditions -/
def k11 : Class := { plain "jdk/internal/util/Preconditions" (some 0) with
  accessFlags := 33
  interfaces := #[]
  cf := some (fileOf pool11 24 #[.nestMembers #[55, 131, 125, 114]] #[{ accessFlags := 1, nameIndex := 5, descriptorIndex := 6, attributes := #[] }, { accessFlags := 9, nameIndex := 33, descriptorIndex := 178, attributes := #[] }] 33 2 #[] #[{ accessFlags := 25, nameIndex := 123, descriptorIndex := 124, attributes := #[] }, { accessFlags := 25, nameIndex := 130, descriptorIndex := 124, attributes := #[] }, { accessFlags := 25, nameIndex := 136, descriptorIndex := 124, attributes := #[] }])
  fields := #[{ name := "SIOOBE_FORMATTER", type := (.object "java/util/function/BiFunction"), accessFlags := 25, slot := 0, constantValue := 0 }, { name := "AIOOBE_FORMATTER", type := (.object "java/util/function/BiFunction"), accessFlags := 25, slot := 1, constantValue := 0 }, { name := "IOOBE_FORMATTER", type := (.object "java/util/function/BiFunction"), accessFlags := 25, slot := 2, constantValue := 0 }]
  methods := #[k11m0, k11m1]
  instanceTypes := #[]
  staticTypes := #[(.object "java/util/function/BiFunction"), (.object "java/util/function/BiFunction"), (.object "java/util/function/BiFunction")]
  resolved := Array.replicate 194 none
  statics := some 1 }

def pool12 : Array CpInfo := pool [(1, .class_ 2), (0, u "java/lang/Math"), (1, .class_ 6), (1, u "java/lang/Object"), (0, u "<init>"), (0, u "()V"), (89, .class_ 100), (1, u "java/lang/Math$RandomNumberGeneratorHolder"), (71, u "negativeZeroFloatBits"), (0, u "J"), (2, u "negativeZeroDoubleBits"), (21, u "max"), (46, u "$assertionsDisabled"), (0, u "Z"), (88, u "(II)I"), (2, u "twoToTheDoubleScaleDown"), (0, u "D"), (4, u "twoToTheDoubleScaleUp"), (9, u "E"), (3, u "PI"), (2, u "TAU"), (2, u "DEGREES_TO_RADIANS"), (0, u "RADIANS_TO_DEGREES")] 94

def k12m0 : Method := { name := "<init>", desc := "()V", sig := { parameters := [], returnType := none }, accessFlags := 2, code := none }
def k12c1 : Code := { maxStack := 2, maxLocals := 2, code := jdk_29_method_65_code, exceptionTable := #[], attributes := #[] }
def k12m1 : Method := { name := "max", desc := "(II)I", sig := { parameters := [.int, .int], returnType := some .int }, accessFlags := 9, code := some k12c1 }
/-- java/lang/Math -/
def k12 : Class := { plain "java/lang/Math" (some 0) with
  accessFlags := 49
  interfaces := #[]
  cf := some (fileOf pool12 1 #[.nestMembers #[98]] #[{ accessFlags := 2, nameIndex := 7, descriptorIndex := 8, attributes := #[] }, { accessFlags := 9, nameIndex := 198, descriptorIndex := 335, attributes := #[] }] 49 4 #[] #[{ accessFlags := 25, nameIndex := 354, descriptorIndex := 339, attributes := #[] }, { accessFlags := 25, nameIndex := 358, descriptorIndex := 339, attributes := #[] }, { accessFlags := 25, nameIndex := 361, descriptorIndex := 339, attributes := #[] }, { accessFlags := 26, nameIndex := 364, descriptorIndex := 339, attributes := #[] }, { accessFlags := 26, nameIndex := 365, descriptorIndex := 339, attributes := #[] }, { accessFlags := 26, nameIndex := 172, descriptorIndex := 173, attributes := #[] }, { accessFlags := 26, nameIndex := 176, descriptorIndex := 173, attributes := #[] }, { accessFlags := 8, nameIndex := 344, descriptorIndex := 339, attributes := #[] }, { accessFlags := 8, nameIndex := 338, descriptorIndex := 339, attributes := #[] }, { accessFlags := 4120, nameIndex := 245, descriptorIndex := 246, attributes := #[] }])
  fields := #[{ name := "E", type := .double, accessFlags := 25, slot := 0, constantValue := 0 }, { name := "PI", type := .double, accessFlags := 25, slot := 1, constantValue := 0 }, { name := "TAU", type := .double, accessFlags := 25, slot := 2, constantValue := 0 }, { name := "DEGREES_TO_RADIANS", type := .double, accessFlags := 26, slot := 3, constantValue := 0 }, { name := "RADIANS_TO_DEGREES", type := .double, accessFlags := 26, slot := 4, constantValue := 0 }, { name := "negativeZeroFloatBits", type := .long, accessFlags := 26, slot := 5, constantValue := 0 }, { name := "negativeZeroDoubleBits", type := .long, accessFlags := 26, slot := 6, constantValue := 0 }, { name := "twoToTheDoubleScaleUp", type := .double, accessFlags := 8, slot := 7, constantValue := 0 }, { name := "twoToTheDoubleScaleDown", type := .double, accessFlags := 8, slot := 8, constantValue := 0 }, { name := "$assertionsDisabled", type := .boolean, accessFlags := 4120, slot := 9, constantValue := 0 }]
  methods := #[k12m0, k12m1]
  instanceTypes := #[]
  staticTypes := #[.double, .double, .double, .double, .double, .long, .long, .double, .double, .boolean]
  resolved := Array.replicate 460 none
  statics := none }

def pool13 : Array CpInfo := pool [(9, u "<init>"), (6, .class_ 18), (1, u "java/lang/Object"), (0, u "()V"), (1, .class_ 23), (1, u "jdk/internal/util/ArraysSupport"), (0, u "LOG2_ARRAY_LONG_INDEX_SCALE"), (0, u "I"), (2, u "U"), (0, u "Ljdk/internal/misc/Unsafe;"), (8, u "BIG_ENDIAN"), (0, u "Z"), (8, u "LOG2_BYTE_BIT_SIZE"), (4, u "LOG2_ARRAY_INT_INDEX_SCALE"), (54, u "JLA"), (0, u "Ljdk/internal/access/JavaLangAccess;"), (11, u "LOG2_ARRAY_BOOLEAN_INDEX_SCALE"), (9, u "LOG2_ARRAY_BYTE_INDEX_SCALE"), (5, u "LOG2_ARRAY_CHAR_INDEX_SCALE"), (5, u "LOG2_ARRAY_SHORT_INDEX_SCALE"), (18, u "LOG2_ARRAY_FLOAT_INDEX_SCALE"), (24, u "LOG2_ARRAY_DOUBLE_INDEX_SCALE"), (89, u "T_BOOLEAN"), (2, u "T_CHAR"), (1, u "T_FLOAT"), (1, u "T_DOUBLE"), (1, u "T_BYTE"), (1, u "T_SHORT"), (1, u "T_INT"), (1, u "T_LONG"), (1, u "SOFT_MAX_ARRAY_LENGTH")] 83

def k13m0 : Method := { name := "<init>", desc := "()V", sig := { parameters := [], returnType := none }, accessFlags := 2, code := none }
/-- jdk/internal/util/ArraysSupport -/
def k13 : Class := { plain "jdk/internal/util/ArraysSupport" (some 0) with
  accessFlags := 33
  interfaces := #[]
  cf := some (fileOf pool13 21 #[] #[{ accessFlags := 2, nameIndex := 9, descriptorIndex := 19, attributes := #[] }] 33 16 #[] #[{ accessFlags := 24, nameIndex := 28, descriptorIndex := 29, attributes := #[] }, { accessFlags := 26, nameIndex := 38, descriptorIndex := 39, attributes := #[] }, { accessFlags := 25, nameIndex := 121, descriptorIndex := 25, attributes := #[] }, { accessFlags := 25, nameIndex := 131, descriptorIndex := 25, attributes := #[] }, { accessFlags := 25, nameIndex := 137, descriptorIndex := 25, attributes := #[] }, { accessFlags := 25, nameIndex := 143, descriptorIndex := 25, attributes := #[] }, { accessFlags := 25, nameIndex := 53, descriptorIndex := 25, attributes := #[] }, { accessFlags := 25, nameIndex := 24, descriptorIndex := 25, attributes := #[] }, { accessFlags := 25, nameIndex := 162, descriptorIndex := 25, attributes := #[] }, { accessFlags := 25, nameIndex := 187, descriptorIndex := 25, attributes := #[] }, { accessFlags := 26, nameIndex := 48, descriptorIndex := 25, attributes := #[] }, { accessFlags := 25, nameIndex := 277, descriptorIndex := 25, attributes := #[] }, { accessFlags := 25, nameIndex := 280, descriptorIndex := 25, attributes := #[] }, { accessFlags := 25, nameIndex := 282, descriptorIndex := 25, attributes := #[] }, { accessFlags := 25, nameIndex := 284, descriptorIndex := 25, attributes := #[] }, { accessFlags := 25, nameIndex := 286, descriptorIndex := 25, attributes := #[] }, { accessFlags := 25, nameIndex := 288, descriptorIndex := 25, attributes := #[] }, { accessFlags := 25, nameIndex := 290, descriptorIndex := 25, attributes := #[] }, { accessFlags := 25, nameIndex := 292, descriptorIndex := 25, attributes := #[] }, { accessFlags := 26, nameIndex := 108, descriptorIndex := 109, attributes := #[] }, { accessFlags := 25, nameIndex := 294, descriptorIndex := 25, attributes := #[] }])
  fields := #[{ name := "U", type := (.object "jdk/internal/misc/Unsafe"), accessFlags := 24, slot := 0, constantValue := 0 }, { name := "BIG_ENDIAN", type := .boolean, accessFlags := 26, slot := 1, constantValue := 0 }, { name := "LOG2_ARRAY_BOOLEAN_INDEX_SCALE", type := .int, accessFlags := 25, slot := 2, constantValue := 0 }, { name := "LOG2_ARRAY_BYTE_INDEX_SCALE", type := .int, accessFlags := 25, slot := 3, constantValue := 0 }, { name := "LOG2_ARRAY_CHAR_INDEX_SCALE", type := .int, accessFlags := 25, slot := 4, constantValue := 0 }, { name := "LOG2_ARRAY_SHORT_INDEX_SCALE", type := .int, accessFlags := 25, slot := 5, constantValue := 0 }, { name := "LOG2_ARRAY_INT_INDEX_SCALE", type := .int, accessFlags := 25, slot := 6, constantValue := 0 }, { name := "LOG2_ARRAY_LONG_INDEX_SCALE", type := .int, accessFlags := 25, slot := 7, constantValue := 0 }, { name := "LOG2_ARRAY_FLOAT_INDEX_SCALE", type := .int, accessFlags := 25, slot := 8, constantValue := 0 }, { name := "LOG2_ARRAY_DOUBLE_INDEX_SCALE", type := .int, accessFlags := 25, slot := 9, constantValue := 0 }, { name := "LOG2_BYTE_BIT_SIZE", type := .int, accessFlags := 26, slot := 10, constantValue := 0 }, { name := "T_BOOLEAN", type := .int, accessFlags := 25, slot := 11, constantValue := 0 }, { name := "T_CHAR", type := .int, accessFlags := 25, slot := 12, constantValue := 0 }, { name := "T_FLOAT", type := .int, accessFlags := 25, slot := 13, constantValue := 0 }, { name := "T_DOUBLE", type := .int, accessFlags := 25, slot := 14, constantValue := 0 }, { name := "T_BYTE", type := .int, accessFlags := 25, slot := 15, constantValue := 0 }, { name := "T_SHORT", type := .int, accessFlags := 25, slot := 16, constantValue := 0 }, { name := "T_INT", type := .int, accessFlags := 25, slot := 17, constantValue := 0 }, { name := "T_LONG", type := .int, accessFlags := 25, slot := 18, constantValue := 0 }, { name := "JLA", type := (.object "jdk/internal/access/JavaLangAccess"), accessFlags := 26, slot := 19, constantValue := 0 }, { name := "SOFT_MAX_ARRAY_LENGTH", type := .int, accessFlags := 25, slot := 20, constantValue := 0 }]
  methods := #[k13m0]
  instanceTypes := #[]
  staticTypes := #[(.object "jdk/internal/misc/Unsafe"), .boolean, .int, .int, .int, .int, .int, .int, .int, .int, .int, .int, .int, .int, .int, .int, .int, .int, .int, (.object "jdk/internal/access/JavaLangAccess"), .int]
  resolved := Array.replicate 378 none
  statics := none }

def pool14 : Array CpInfo := pool [(1, u "java/lang/Cloneable"), (0, .class_ 1), (0, u "java/lang/Object"), (0, .class_ 3)] 3

/-- java/lang/Cloneable -/
def k14 : Class := { plain "java/lang/Cloneable" (some 0) with
  accessFlags := 1537
  interfaces := #[]
  cf := some (fileOf pool14 2 #[] #[] 1537 4 #[] #[])
  fields := #[]
  methods := #[]
  instanceTypes := #[]
  staticTypes := #[]
  resolved := Array.replicate 8 none
  statics := none }

/-- the primitive boolean -/
def k15 : Class := { plain "boolean" none with kind := .primitive 'Z', accessFlags := 0x411 }
/-- [Z -/
def k16 : Class := { plain "[Z" (some 0) with kind := .array 15 .boolean, interfaces := #[14, 2], accessFlags := 1041 }

/-- the primitive byte -/
def k17 : Class := { plain "byte" none with kind := .primitive 'B', accessFlags := 0x411 }
/-- [B -/
def k18 : Class := { plain "[B" (some 0) with kind := .array 17 .byte, interfaces := #[14, 2], accessFlags := 1041 }

/-- the primitive char -/
def k19 : Class := { plain "char" none with kind := .primitive 'C', accessFlags := 0x411 }
/-- [C -/
def k20 : Class := { plain "[C" (some 0) with kind := .array 19 .char, interfaces := #[14, 2], accessFlags := 1041 }

/-- the primitive int -/
def k21 : Class := { plain "int" none with kind := .primitive 'I', accessFlags := 0x411 }
/-- [I -/
def k22 : Class := { plain "[I" (some 0) with kind := .array 21 .int, interfaces := #[14, 2], accessFlags := 1041 }

def heap : Heap := #[{ cls := 7, slots := #[.long 0, .int 1, .null, .int 0, .null, .int 0, .int 0], vm := .statics 7 },
  { cls := 11, slots := #[.null, .null, .null], vm := .statics 11 }]
def classes : Array Class := #[k0, k1, k2, k3, k4, k5, k6, k7, k8, k9, k10, k11, k12, k13, k14, k15, k16, k17, k18, k19, k20, k21, k22]
def interned : List (Array UInt16 × Addr) := []
def slotsUsed : Nat := 10
def theMethod : MethodId := ⟨1, 1⟩
def args0 : Array Value := #[.int 65, .int 66, .int 67, .int 2, .int 5, .int 1]
def aboutOver (below : List Frame) : State where
  vm := { classes := classes, interned := interned.toArray }
  heap := heap
  slotsUsed := slotsUsed
  threads := #[{ frames := .invoking theMethod args0 :: below }]
def below0 : List Frame := [.native { method := ⟨0, 0⟩, args := #[] }]
def about1 : State := aboutOver below0
def p0 : Program := .bare "" "" ""
def e0 : Env := launch0.env 0 0 0
theorem w_frames : about1.frames = Frame.invoking theMethod args0 :: below0 := rfl
set_option maxRecDepth 65536 in
theorem w_args : argsFit about1.vm theMethod args0 = true := by decide +kernel
set_option maxRecDepth 65536 in
theorem w_heap : heapFits about1 = true := by decide +kernel
set_option maxRecDepth 65536 in
theorem w_runnable : about1.curStatus? = some .runnable := by decide +kernel
set_option maxRecDepth 65536 in
theorem w_alone : about1.alone = true := by decide +kernel
set_option maxRecDepth 65536 in
theorem w_named : about1.methodNamed? x = some theMethod := by decide +kernel
set_option maxRecDepth 65536 in
theorem w_hears : about1.hears theMethod below0 = true := by decide +kernel
set_option maxRecDepth 65536 in
theorem w_ripe : about1.ripe theMethod args0 below0 = true := by decide +kernel
theorem w_running : about1.status = .running := rfl
set_option maxRecDepth 65536 in
theorem w_room : about1.hasRoom e0.platform room_1 = true :=
  launch0.hasRoom_least _ room_1 (by decide +kernel) (by decide +kernel) (by decide +kernel) (by decide +kernel) (by decide +kernel) (by decide +kernel)
theorem allAtoms_all (ts : List Jvm.Cond) (a : Array Jvm.Value) (st : Jvm.State) : (allAtoms ts).before a st = ts.all (fun c => c.before a st) := by
  induction ts with
  | nil => rfl
  | cons c t ih =>
    show (Jvm.Cond.and c (allAtoms t)).before a st = _
    rw [Jvm.Cond.before_and, ih, List.all_cons]
def words1 : List Jvm.Cond := Jvm.Cond.code x code maxLocals ret :: tables_1
/-- a 'code' word, met by the world's own term for the bytes: nothing is compared byte by byte -/
theorem code_word {y : MethodName} {bytes : ByteArray} {mx : Nat} {rt : Option FieldType} {a : Array Value} {s : State} {m : MethodId} {meth : Method} {c : Code} (h1 : s.methodNamed? y = some m) (h2 : s.vm.method? m = some meth) (h3 : meth.code = some c) (h4 : c.code = bytes)
    (h5 : (c.maxLocals == mx && c.exceptionTable.isEmpty && decide (c.maxStack ≤ mostOperands) && decide (meth.sig.returnType = rt) && !meth.locks && decide (parseMethodDescriptor y.desc = some meth.sig)) = true) : (Jvm.Cond.code y bytes mx rt).before a s = true := by
  simp only [Bool.and_eq_true, beq_iff_eq, Bool.not_eq_true', decide_eq_true_eq] at h5
  obtain ⟨⟨⟨⟨⟨g1, g2⟩, g3⟩, g4⟩, g5⟩, g6⟩ := h5
  simp [Cond.before, Cond.holds, Cond.value, h1, h2, h3, h4, g1, g2, g3, g4, g5, g6]
def isCode : Jvm.Cond → Bool
  | .code _ _ _ _ => true
  | _ => false
theorem all_split {L : List Jvm.Cond} {P : Jvm.Cond → Bool} (h1 : L.all (fun c => isCode c || P c) = true) (h2 : ∀ c ∈ L.filter isCode, P c = true) : L.all P = true := by
  refine List.all_eq_true.mpr fun c hc => ?_
  have h := List.all_eq_true.mp h1 c hc
  rcases Bool.eq_false_or_eq_true (isCode c) with hi | hi
  · exact h2 c (List.mem_filter.mpr ⟨hc, hi⟩)
  · simpa [hi] using h
set_option maxRecDepth 65536 in
theorem w_c0 : (Jvm.Cond.code x code maxLocals ret).before args0 about1 = true := code_word (m := ⟨1, 1⟩) (meth := k1m1) (c := k1c1) (by decide +kernel) rfl rfl rfl (by decide +kernel)
set_option maxRecDepth 65536 in
theorem w_c1 : (Jvm.Cond.code ({ cls := "java/lang/String", name := "<init>", desc := "([C)V" } : Jvm.MethodName) jdk_42_method_3_code (2 : Nat) (Option.none : Option Jvm.ClassFile.FieldType)).before args0 about1 = true := code_word (m := ⟨7, 1⟩) (meth := k7m1) (c := k7c1) (by decide +kernel) rfl rfl rfl (by decide +kernel)
set_option maxRecDepth 65536 in
theorem w_c2 : (Jvm.Cond.code ({ cls := "java/lang/String", name := "<init>", desc := "([CIILjava/lang/Void;)V" } : Jvm.MethodName) jdk_42_method_149_code (6 : Nat) (Option.none : Option Jvm.ClassFile.FieldType)).before args0 about1 = true := code_word (m := ⟨7, 4⟩) (meth := k7m4) (c := k7c4) (by decide +kernel) rfl rfl rfl (by decide +kernel)
set_option maxRecDepth 65536 in
theorem w_c3 : (Jvm.Cond.code ({ cls := "java/lang/Object", name := "<init>", desc := "()V" } : Jvm.MethodName) object_method_1_code (1 : Nat) (Option.none : Option Jvm.ClassFile.FieldType)).before args0 about1 = true := code_word (m := ⟨0, 0⟩) (meth := k0m0) (c := k0c0) (by decide +kernel) rfl rfl rfl (by decide +kernel)
set_option maxRecDepth 65536 in
theorem w_c4 : (Jvm.Cond.code ({ cls := "java/lang/StringUTF16", name := "compress", desc := "([CII)[B" } : Jvm.MethodName) jdk_52_method_16_code (6 : Nat) (Option.some (Jvm.ClassFile.FieldType.array Jvm.ClassFile.FieldType.byte))).before args0 about1 = true := code_word (m := ⟨8, 2⟩) (meth := k8m2) (c := k8c2) (by decide +kernel) rfl rfl rfl (by decide +kernel)
set_option maxRecDepth 65536 in
theorem w_c5 : (Jvm.Cond.code ({ cls := "java/lang/StringUTF16", name := "compress", desc := "([CI[BII)I" } : Jvm.MethodName) jdk_52_method_21_code (7 : Nat) (Option.some Jvm.ClassFile.FieldType.int)).before args0 about1 = true := code_word (m := ⟨8, 3⟩) (meth := k8m3) (c := k8c3) (by decide +kernel) rfl rfl rfl (by decide +kernel)
set_option maxRecDepth 65536 in
theorem w_c6 : (Jvm.Cond.code ({ cls := "java/lang/StringUTF16", name := "coderFromArrayLen", desc := "([BI)B" } : Jvm.MethodName) jdk_52_method_15_code (2 : Nat) (Option.some Jvm.ClassFile.FieldType.byte)).before args0 about1 = true := code_word (m := ⟨8, 1⟩) (meth := k8m1) (c := k8c1) (by decide +kernel) rfl rfl rfl (by decide +kernel)
set_option maxRecDepth 65536 in
theorem w_c7 : (Jvm.Cond.code ({ cls := "com/example/vedette/vedette/io/Utf8Buffer$Stops", name := "<init>", desc := "(Ljava/lang/String;)V" } : Jvm.MethodName) prog_35_method_1_code (5 : Nat) (Option.none : Option Jvm.ClassFile.FieldType)).before args0 about1 = true := code_word (m := ⟨9, 0⟩) (meth := k9m0) (c := k9c0) (by decide +kernel) rfl rfl rfl (by decide +kernel)
set_option maxRecDepth 65536 in
theorem w_c8 : (Jvm.Cond.code ({ cls := "java/lang/String", name := "length", desc := "()I" } : Jvm.MethodName) jdk_42_method_54_code (1 : Nat) (Option.some Jvm.ClassFile.FieldType.int)).before args0 about1 = true := code_word (m := ⟨7, 2⟩) (meth := k7m2) (c := k7c2) (by decide +kernel) rfl rfl rfl (by decide +kernel)
set_option maxRecDepth 65536 in
theorem w_c9 : (Jvm.Cond.code ({ cls := "java/lang/String", name := "coder", desc := "()B" } : Jvm.MethodName) jdk_42_method_152_code (1 : Nat) (Option.some Jvm.ClassFile.FieldType.byte)).before args0 about1 = true := code_word (m := ⟨7, 5⟩) (meth := k7m5) (c := k7c5) (by decide +kernel) rfl rfl rfl (by decide +kernel)
set_option maxRecDepth 65536 in
theorem w_c10 : (Jvm.Cond.code ({ cls := "java/lang/String", name := "charAt", desc := "(I)C" } : Jvm.MethodName) jdk_42_method_56_code (2 : Nat) (Option.some Jvm.ClassFile.FieldType.char)).before args0 about1 = true := code_word (m := ⟨7, 3⟩) (meth := k7m3) (c := k7c3) (by decide +kernel) rfl rfl rfl (by decide +kernel)
set_option maxRecDepth 65536 in
theorem w_c11 : (Jvm.Cond.code ({ cls := "java/lang/String", name := "isLatin1", desc := "()Z" } : Jvm.MethodName) jdk_42_method_154_code (1 : Nat) (Option.some Jvm.ClassFile.FieldType.boolean)).before args0 about1 = true := code_word (m := ⟨7, 6⟩) (meth := k7m6) (c := k7c6) (by decide +kernel) rfl rfl rfl (by decide +kernel)
set_option maxRecDepth 65536 in
theorem w_c12 : (Jvm.Cond.code ({ cls := "java/lang/StringLatin1", name := "charAt", desc := "([BI)C" } : Jvm.MethodName) jdk_43_method_2_code (2 : Nat) (Option.some Jvm.ClassFile.FieldType.char)).before args0 about1 = true := code_word (m := ⟨10, 1⟩) (meth := k10m1) (c := k10c1) (by decide +kernel) rfl rfl rfl (by decide +kernel)
set_option maxRecDepth 65536 in
theorem w_c13 : (Jvm.Cond.code ({ cls := "java/lang/String", name := "checkIndex", desc := "(II)V" } : Jvm.MethodName) jdk_42_method_155_code (2 : Nat) (Option.none : Option Jvm.ClassFile.FieldType)).before args0 about1 = true := code_word (m := ⟨7, 7⟩) (meth := k7m7) (c := k7c7) (by decide +kernel) rfl rfl rfl (by decide +kernel)
set_option maxRecDepth 65536 in
theorem w_c14 : (Jvm.Cond.code ({ cls := "jdk/internal/util/Preconditions", name := "checkIndex", desc := "(IILjava/util/function/BiFunction;)I" } : Jvm.MethodName) jdk_41_method_11_code (3 : Nat) (Option.some Jvm.ClassFile.FieldType.int)).before args0 about1 = true := code_word (m := ⟨11, 1⟩) (meth := k11m1) (c := k11c1) (by decide +kernel) rfl rfl rfl (by decide +kernel)
set_option maxRecDepth 65536 in
theorem w_c15 : (Jvm.Cond.code ({ cls := "java/lang/Math", name := "max", desc := "(II)I" } : Jvm.MethodName) jdk_29_method_65_code (2 : Nat) (Option.some Jvm.ClassFile.FieldType.int)).before args0 about1 = true := code_word (m := ⟨12, 1⟩) (meth := k12m1) (c := k12c1) (by decide +kernel) rfl rfl rfl (by decide +kernel)
set_option maxRecDepth 65536 in
theorem w_c16 : (Jvm.Cond.code ({ cls := "com/example/vedette/vedette/io/Utf8Buffer$Stops", name := "isStop", desc := "(I)Z" } : Jvm.MethodName) prog_35_method_3_code (2 : Nat) (Option.some Jvm.ClassFile.FieldType.boolean)).before args0 about1 = true := code_word (m := ⟨9, 1⟩) (meth := k9m1) (c := k9c1) (by decide +kernel) rfl rfl rfl (by decide +kernel)
def codes1 : List Jvm.Cond := [Jvm.Cond.code x code maxLocals ret, Jvm.Cond.code ({ cls := "java/lang/String", name := "<init>", desc := "([C)V" } : Jvm.MethodName) jdk_42_method_3_code (2 : Nat) (Option.none : Option Jvm.ClassFile.FieldType), Jvm.Cond.code ({ cls := "java/lang/String", name := "<init>", desc := "([CIILjava/lang/Void;)V" } : Jvm.MethodName) jdk_42_method_149_code (6 : Nat) (Option.none : Option Jvm.ClassFile.FieldType), Jvm.Cond.code ({ cls := "java/lang/Object", name := "<init>", desc := "()V" } : Jvm.MethodName) object_method_1_code (1 : Nat) (Option.none : Option Jvm.ClassFile.FieldType), Jvm.Cond.code ({ cls := "java/lang/StringUTF16", name := "compress", desc := "([CII)[B" } : Jvm.MethodName) jdk_52_method_16_code (6 : Nat) (Option.some (Jvm.ClassFile.FieldType.array Jvm.ClassFile.FieldType.byte)), Jvm.Cond.code ({ cls := "java/lang/StringUTF16", name := "compress", desc := "([CI[BII)I" } : Jvm.MethodName) jdk_52_method_21_code (7 : Nat) (Option.some Jvm.ClassFile.FieldType.int), Jvm.Cond.code ({ cls := "java/lang/StringUTF16", name := "coderFromArrayLen", desc := "([BI)B" } : Jvm.MethodName) jdk_52_method_15_code (2 : Nat) (Option.some Jvm.ClassFile.FieldType.byte), Jvm.Cond.code ({ cls := "com/example/vedette/vedette/io/Utf8Buffer$Stops", name := "<init>", desc := "(Ljava/lang/String;)V" } : Jvm.MethodName) prog_35_method_1_code (5 : Nat) (Option.none : Option Jvm.ClassFile.FieldType), Jvm.Cond.code ({ cls := "java/lang/String", name := "length", desc := "()I" } : Jvm.MethodName) jdk_42_method_54_code (1 : Nat) (Option.some Jvm.ClassFile.FieldType.int), Jvm.Cond.code ({ cls := "java/lang/String", name := "coder", desc := "()B" } : Jvm.MethodName) jdk_42_method_152_code (1 : Nat) (Option.some Jvm.ClassFile.FieldType.byte), Jvm.Cond.code ({ cls := "java/lang/String", name := "charAt", desc := "(I)C" } : Jvm.MethodName) jdk_42_method_56_code (2 : Nat) (Option.some Jvm.ClassFile.FieldType.char), Jvm.Cond.code ({ cls := "java/lang/String", name := "isLatin1", desc := "()Z" } : Jvm.MethodName) jdk_42_method_154_code (1 : Nat) (Option.some Jvm.ClassFile.FieldType.boolean), Jvm.Cond.code ({ cls := "java/lang/StringLatin1", name := "charAt", desc := "([BI)C" } : Jvm.MethodName) jdk_43_method_2_code (2 : Nat) (Option.some Jvm.ClassFile.FieldType.char), Jvm.Cond.code ({ cls := "java/lang/String", name := "checkIndex", desc := "(II)V" } : Jvm.MethodName) jdk_42_method_155_code (2 : Nat) (Option.none : Option Jvm.ClassFile.FieldType), Jvm.Cond.code ({ cls := "jdk/internal/util/Preconditions", name := "checkIndex", desc := "(IILjava/util/function/BiFunction;)I" } : Jvm.MethodName) jdk_41_method_11_code (3 : Nat) (Option.some Jvm.ClassFile.FieldType.int), Jvm.Cond.code ({ cls := "java/lang/Math", name := "max", desc := "(II)I" } : Jvm.MethodName) jdk_29_method_65_code (2 : Nat) (Option.some Jvm.ClassFile.FieldType.int), Jvm.Cond.code ({ cls := "com/example/vedette/vedette/io/Utf8Buffer$Stops", name := "isStop", desc := "(I)Z" } : Jvm.MethodName) prog_35_method_3_code (2 : Nat) (Option.some Jvm.ClassFile.FieldType.boolean)]
set_option maxRecDepth 65536 in
theorem codes_eq : words1.filter isCode = codes1 := rfl
theorem w_codes : ∀ c ∈ words1.filter isCode, c.before args0 about1 = true := by
  rw [codes_eq]
  intro c hc
  simp only [codes1, List.mem_cons, List.not_mem_nil, or_false] at hc
  rcases hc with rfl | rfl | rfl | rfl | rfl | rfl | rfl | rfl | rfl | rfl | rfl | rfl | rfl | rfl | rfl | rfl | rfl
  · exact w_c0
  · exact w_c1
  · exact w_c2
  · exact w_c3
  · exact w_c4
  · exact w_c5
  · exact w_c6
  · exact w_c7
  · exact w_c8
  · exact w_c9
  · exact w_c10
  · exact w_c11
  · exact w_c12
  · exact w_c13
  · exact w_c14
  · exact w_c15
  · exact w_c16
set_option maxRecDepth 65536 in
theorem w_t1 : (words1.take 24).all (fun c => isCode c || c.before args0 about1) = true := by decide +kernel
set_option maxRecDepth 65536 in
theorem w_t2 : ((words1.drop 24).take 24).all (fun c => isCode c || c.before args0 about1) = true := by decide +kernel
set_option maxRecDepth 65536 in
theorem w_t3 : (((words1.drop 24).drop 24).take 24).all (fun c => isCode c || c.before args0 about1) = true := by decide +kernel
set_option maxRecDepth 65536 in
theorem w_t4 : (((words1.drop 24).drop 24).drop 24).all (fun c => isCode c || c.before args0 about1) = true := by decide +kernel
theorem w_tables : (allAtoms (Jvm.Cond.code x code maxLocals ret :: tables_1)).before args0 about1 = true := by
  rw [allAtoms_all]
  show words1.all (fun c => c.before args0 about1) = true
  refine all_split ?_ w_codes
  rw [← List.take_append_drop 24 words1, List.all_append, w_t1, ← List.take_append_drop 24 (words1.drop 24), List.all_append, w_t2, ← List.take_append_drop 24 ((words1.drop 24).drop 24), List.all_append, w_t3, w_t4]
  rfl
set_option maxRecDepth 65536 in
theorem w_rest : rest_1_c.before args0 about1 = true := by decide +kernel
set_option maxRecDepth 65536 in
theorem w_case : (Jvm.Cond.and given_1 narrow_1).before args0 about1 = true := by decide +kernel
set_option maxRecDepth 65536 in
theorem w_consts : constsHeld consts_1 about1 := Jvm.Lit.constsHeldB_iff.mp (by decide +kernel)
theorem w_applies : (headSpec (Jvm.Cond.code x code maxLocals ret :: tables_1) room_1).applies x e0.platform about1 = true :=
  (Spec.applies_iff w_frames).mpr ⟨w_running, w_runnable, w_alone, w_named, w_hears, w_ripe, w_room, w_tables⟩
theorem atStart : AtStart classFile x code maxLocals ret World_1 tables_1 room_1 Calls_1 rest_1 Pre_1 launch0 p0 e0 about1 theMethod args0 below0 :=
  ⟨lists_1, trivial, launch0.admits_env _ _ _, launch0.least_env, fairChoices_fair.cas, fairChoices_fair.clock, w_frames, w_args, w_heap, w_applies, ⟨w_consts, trivial⟩, w_rest, w_case⟩
end start1
theorem witness_1 : WitnessClaimed_1 := ⟨start1.p0, start1.e0, start1.about1, start1.theMethod, start1.args0, start1.below0, start1.atStart⟩
end Jvm.Pilot.@@N@@
